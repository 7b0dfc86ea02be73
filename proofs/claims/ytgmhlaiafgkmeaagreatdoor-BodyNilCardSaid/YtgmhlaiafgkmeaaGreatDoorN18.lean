/- Lemmas -/
import Derived.Test.YtgmhlaiafgkmeaaGreatDoorN1
import Derived.IntWalk
set_option linter.all false
section
namespace Go.Am
open Go
section
variable{C:CB}{Q:FB}{h:Ab}
def Kd{x:C7}{vs:List Aa}:W C (.ret x vs) Q h↔Q x vs h:=by refine⟨λhw=>?_,Zx⟩;obtain⟨n,x',DB,h',hr,q⟩:=hw.succ;simp only[IT.step,AG,Gq] at hr;obtain⟨rfl,rfl,rfl⟩:=hr;exact q
def IP:W C .fail Q h↔False:=by refine⟨λhw=>?_,λh=>h.elim⟩;obtain⟨n,x',DB,h',hr,q⟩:=hw.succ;simp[IT.step] at hr
def NZ{Z:Type}(o:Option Z)(f:Z->Prop):Prop:=∃v,o=some v/\f v
def SB{Z:Type}{o o':Option Z}{f:Z->Prop}(h:o=o'):NZ o f=NZ o' f:=by rw[h]
def HK{Z:Type}{v:Z}{f:Z->Prop}:NZ (some v) f=f v:=propext (by
 constructor;.rintro⟨_,e,h⟩;cases e;exact h
 .intro h;exact⟨v,rfl,h⟩)
def Mb{Z:Type}{f:Z->Prop}:NZ (none:Option Z) f=False:=propext (by
 constructor;.rintro⟨_,e,_⟩;cases e
 .exact False.elim)
def JC{o:Mm}{args:List Aa}{k:Aa->IT}:W C (.op o args k) Q h↔NZ (AA o args) λv=>W C (k v) Q h:=by
 refine⟨λhw=>?_,λ⟨v,hv,hw⟩=>gN hv hw⟩;obtain⟨n,x',DB,h',hr,q⟩:=hw.succ;simp only[IT.step] at hr;split at hr;.rename_i v hv;exact⟨v,hv,Bf ⟨n,x',DB,h',hr,q⟩⟩
 .cases hr
def HL{n:Nat}{v:Aa}{k:List Aa->IT}:W C (.cells n v k) Q h↔NZ (if v.cells.length=n then some v.cells else none) λl=>W C (k l) Q h:=by
 constructor
 .intro hw;obtain⟨m,x',DB,h',hr,q⟩:=hw.succ;simp only[IT.step] at hr;split at hr;.rename_i hv;exact⟨_,if_pos hv,Bf ⟨m,x',DB,h',hr,q⟩⟩
  .cases hr
 .rintro⟨l,e,hw⟩;split at e;.rename_i hv;cases e;exact QM hv hw
  .cases e
def MA(v:Aa)(p q:Prop):Prop:=(v= .bool true/\p)\/(v= .bool false/\q)
def Qb{v v':Aa}{p q:Prop}(h:v=v'):MA v p q=MA v' p q:=by rw[h]
def Ke{p q:Prop}:MA (.bool true) p q=p:=by simp[MA]
def IQ{p q:Prop}:MA (.bool false) p q=q:=by simp[MA]
def OS{b:Bool}{p q:Prop}:MA (.bool b) p q↔(b=true->p)/\(b=false->q):=by cases b<;>simp[MA]
def JD{c:Prop}[Decidable c]{p q:Prop}:MA (.bool (decide c)) p q↔(c->p)/\(¬c->q):=by rw[OS];simp
def Ib{c:Aa}{t e:IT}:W C (.Ah c t e) Q h↔MA c (W C t Q h) (W C e Q h):=by
 constructor
 .intro hw;obtain⟨m,x',DB,h',hr,q⟩:=hw.succ;simp only[IT.step] at hr;split at hr;.exact .inl ⟨rfl,Bf ⟨m,x',DB,h',hr,q⟩⟩
  .exact .inr ⟨rfl,Bf ⟨m,x',DB,h',hr,q⟩⟩
  .cases hr
 .rintro(⟨rfl,hw⟩|⟨rfl,hw⟩);.exact QN (λ_=>hw) λh=>by cases h
  .exact QN (λh=>by cases h) λ_=>hw
def IS{n:Option Nat}{p:Aa}{k:Aa->IT}:W C (.load n p k) Q h↔NZ (Ck h n p) λv=>W C (k v) Q h:=by
 refine⟨λhw=>?_,λ⟨v,hv,hw⟩=>Tl hv hw⟩;obtain⟨m,x',DB,h',hr,q⟩:=hw.succ;simp only[IT.step] at hr;split at hr;.rename_i v hv;exact⟨v,hv,Bf ⟨m,x',DB,h',hr,q⟩⟩
 .cases hr
def HM{n:Nat}{p v:Aa}{k:IT}:W C (.store n p v k) Q h↔NZ (Dy h n p v) λh1=>W C k Q h1:=by
 refine⟨λhw=>?_,λ⟨v,hv,hw⟩=>QP hv hw⟩;obtain⟨m,x',DB,h',hr,q⟩:=hw.succ;simp only[IT.step] at hr;split at hr;.rename_i h1 hv;exact⟨h1,hv,Bf ⟨m,x',DB,h',hr,q⟩⟩
 .cases hr
def HN{n:Nat}{v:Aa}{k:Aa->IT}:W C (.alloc n v k) Q h↔NZ (if v.cells.length=n then some v.cells else none) λl=>W C (k (.ptr (some (h.length,0)))) Q (h++[.cells l]):=by
 constructor
 .intro hw;obtain⟨m,x',DB,h',hr,q⟩:=hw.succ;simp only[IT.step,Lj] at hr;by_cases hv:v.cells.length=n;.rw[if_pos hv] at hr;exact⟨_,if_pos hv,Bf ⟨m,x',DB,h',hr,q⟩⟩
  .rw[if_neg hv] at hr;cases hr
 .rintro⟨l,e,hw⟩;split at e;.rename_i hv;cases e;exact QQ hv hw
  .cases e
def Kf{u:Aa}{k:Aa->IT}:W C (.Mn u k) Q h↔NZ (IB h u) λx=>W C (k x.2) Q x.1:=by
 refine⟨λhw=>?_,λ⟨(h1,v),hv,hw⟩=>Zy hv hw⟩;obtain⟨m,x',DB,h',hr,q⟩:=hw.succ;simp only[IT.step] at hr;split at hr;.rename_i h1 v hv;exact⟨(h1,v),hv,Bf ⟨m,x',DB,h',hr,q⟩⟩
 .cases hr
def HO{off:Nat}{p:Aa}{k:IT}:W C (.DJ off p k) Q h↔NZ (Ll h off p) λh1=>W C k Q h1:=by
 refine⟨λhw=>?_,λ⟨h1,hv,hw⟩=>QS hv hw⟩;obtain⟨m,x',DB,h',hr,q⟩:=hw.succ;simp only[IT.step] at hr;split at hr;.rename_i h1 hv;exact⟨h1,hv,Bf ⟨m,x',DB,h',hr,q⟩⟩
 .cases hr
def HP{size bytes:Nat}{s x:Aa}{k:Aa->IT}:W C (.Eh size bytes s x k) Q h↔NZ (JV h size bytes s x) λx=>W C (k x.2) Q x.1:=by
 refine⟨λhw=>?_,λ⟨(h1,v),hv,hw⟩=>QR hv hw⟩;obtain⟨m,x',DB,h',hr,q⟩:=hw.succ;simp only[IT.step] at hr;split at hr;.rename_i h1 v hv;exact⟨(h1,v),hv,Bf ⟨m,x',DB,h',hr,q⟩⟩
 .cases hr
def IU{size bytes:Nat}{s x:Aa}{k:Aa->IT}:W C (.Dm size bytes s x k) Q h↔NZ (Fz h size bytes s x) λx=>W C (k x.2) Q x.1:=by
 refine⟨λhw=>?_,λ⟨(h1,v),hv,hw⟩=>Tq hv hw⟩;obtain⟨m,x,DB,h',hr,q⟩:=hw.succ;simp only[IT.step] at hr;split at hr;.rename_i h1 v hv;exact⟨(h1,v),hv,Bf ⟨m,x,DB,h',hr,q⟩⟩
 .cases hr
def Gl{size bytes:Nat}{s x:Aa}{k:Aa->IT}:W C (.CM size bytes s x k) Q h↔NZ (MI h size bytes s x) λv=>W C (k v) Q h:=by
 refine⟨λhw=>?_,λ⟨v,hv,hw⟩=>MK hv hw⟩;obtain⟨m,x,DB,h',hr,q⟩:=hw.succ;simp only[IT.step] at hr;split at hr;.rename_i v hv;exact⟨v,hv,Bf ⟨m,x,DB,h',hr,q⟩⟩
 .cases hr
def Kg{o:S6}{args:List Aa}{k:Aa->IT}:W C (.mem o args k) Q h↔NZ (Je o h args) λx=>W C (k x.2) Q x.1:=by
 refine⟨λhw=>?_,λ⟨(h1,v),hv,hw⟩=>Zz hv hw⟩;obtain⟨n,x,vs,h',hr,q⟩:=hw.succ;simp only[IT.step] at hr;split at hr;.rename_i h1 v hv;exact⟨(h1,v),hv,Bf ⟨n,x,vs,h',hr,q⟩⟩
 .cases hr
def FI{s:Aa}{k:Aa->IT}:W C (.B8 s k) Q h↔NZ (EN h s) λx=>W C (k x.2) Q x.1:=by
 refine⟨λhw=>?_,λ⟨(h1,v),hv,hw⟩=>Lw hv hw⟩;obtain⟨m,x',DB,h',hr,q⟩:=hw.succ;simp only[IT.step] at hr;split at hr;.rename_i h1 v hv;exact⟨(h1,v),hv,Bf ⟨m,x',DB,h',hr,q⟩⟩
 .cases hr
def IV{k:Aa->IT}:W C (.GO k) Q h↔W C (k (.map (some h.length))) Q (h++[.map []]):=by refine⟨λhw=>?_,Tm⟩;obtain⟨m,x',DB,h',hr,q⟩:=hw.succ;exact Bf ⟨m,x',DB,h',hr,q⟩
def IW{m key v:Aa}{k:IT}:W C (.Dt m key v k) Q h↔NZ (MG h m key v) λh1=>W C k Q h1:=by
 refine⟨λhw=>?_,λ⟨h1,hv,hw⟩=>Tn hv hw⟩;obtain⟨m,x',DB,h',hr,q⟩:=hw.succ;simp only[IT.step] at hr;split at hr;.rename_i h1 hv;exact⟨h1,hv,Bf ⟨m,x',DB,h',hr,q⟩⟩
 .cases hr
def IX{z:Aa}{ok:Bool}{m key:Aa}{k:Aa->IT}:W C (.Fy z ok m key k) Q h↔NZ (MH h z ok m key) λv=>W C (k v) Q h:=by
 refine⟨λhw=>?_,λ⟨h1,hv,hw⟩=>To hv hw⟩;obtain⟨m,x',DB,h',hr,q⟩:=hw.succ;simp only[IT.step] at hr;split at hr;.rename_i h1 hv;exact⟨h1,hv,Bf ⟨m,x',DB,h',hr,q⟩⟩
 .cases hr
def F8{g:Aa}{args:List Aa}{k:Aa->IT}:W C (.B7 g args k) Q h↔NZ (E4 g args) λx=>W C (.call x.1 x.2 k) Q h:=by
 constructor
 .intro hw;obtain⟨m,x',DB,h',hr,q⟩:=hw.succ;simp only[IT.step] at hr;split at hr;.rename_i f as e;refine⟨(f,as),e,Bf ⟨m,x',DB,h',?_,q⟩⟩;simp only[IT.step];exact hr
  .cases hr
 .rintro⟨⟨f,as⟩,e,hw⟩;obtain⟨m,x',DB,h',hr,q⟩:=hw.succ;refine Bf ⟨m,x',DB,h',?_,q⟩;simp only[IT.step,e] at hr⊢;exact hr
def IY{key:Nat}{t:IT}{k:C7->List Aa->IT}:W C (.CU key t k) Q h↔W C t (λx vs h1=>W C (k x vs) Q h1) h:=by
 refine⟨λhw=>?_,Tr⟩;obtain⟨m,x',DB,h',hr,q⟩:=hw.succ;simp only[IT.step] at hr;split at hr;.rename_i x vs h1 e;exact Bf ⟨m,_,_,_,e,Bf ⟨m,x',DB,h',hr,q⟩⟩
 .cases hr
def Fu(C:CB)(f:FuncId)(args:List Aa)(h:Ab)(r:Aa)(h':Ab):Prop:=W C (AH C f args) (λx vs h1=>x= .ret/\vs=[r]/\h1=h') h
def Fu.ev{f:FuncId}{args:List Aa}{r:Aa}{h':Ab}(hr:Fu C f args h r h'){R:Aa->Ab->Prop}(hR:R r h'):Ev C f args h R:=
 W.mono hr λ_ _ _ ⟨h1,h2,h3⟩=>⟨h1,r,h2,by rw[h3];exact hR⟩
def Fu.call{f:FuncId}{args:List Aa}{r:Aa}{h':Ab}(hr:Fu C f args h r h'){k:Aa->IT}:W C (.call f args k) Q h↔W C (k r) Q h':=by
 refine⟨λhw=>?_,λhw=>aM (hr.ev hw)⟩;obtain⟨n,x1,Z0,h1,e1,rfl,rfl,rfl⟩:=hr;obtain⟨m,x',DB,h2,e2,q⟩:=hw.succ;simp only[IT.step] at e2;split at e2;.rename_i r2 h3 e3;simp only[CB.run] at e1 e3;have a1:=IT.DA (Dq n m) e1;have a2:=IT.DA (C9 n m) e3;rw[a1] at a2;cases a2;exact Bf ⟨m,x',DB,h2,e2,q⟩
 .cases e2
def Mc(C:CB)(f:FuncId)(args:List Aa)(r:Aa):Prop:=Ev C f args [] λx _=>x=r
def Mc.AW{f:FuncId}{args:List Aa}{r:Aa}(hr:Mc C f args r)(ha:args.all Aa.FW=true)(hf:r.FW=true){k:Aa->IT}:W C (.AW f args k) Q h↔W C (k r) Q h:=by
 refine⟨λhw=>?_,λhw=>Vu ha (hr.mono λx _ e=>by rw[e];exact⟨hf,hw⟩)⟩;obtain⟨n,x1,Z0,h1,e1,rfl,y,rfl,rfl⟩:=hr;obtain⟨m,x',DB,h2,e2,q⟩:=hw.succ;simp only[IT.step,ha,Bc] at e2;simp only[CB.run] at e1 e2;have a1:=IT.DA (Dq n m) e1;cases hc:IT.run (AH C) m (AH C f args) [] with
 |none=>rw[hc] at e2;cases e2
 |some z=>have a2:=IT.DA (C9 n m) hc;rw[a1] at a2;cases a2;rw[hc] at e2;simp only[hf,Bc] at e2;exact Bf ⟨m,x',DB,h2,e2,q⟩
end
def Wc{C:CB}{t t':IT}{Q:FB}{h h':Ab}(e:t=t')(e2:h=h'):W C t Q h=W C t' Q h':=by rw[e,e2]
def Up{o:Mm}{args args':List Aa}{k:Aa->IT}(e:args=args'):IT.op o args k=IT.op o args' k:=by rw[e]
def OT{n:Nat}{v v':Aa}{k:List Aa->IT}(e:v=v'):IT.cells n v k=IT.cells n v' k:=by rw[e]
def SC{v v':Aa}{s t:IT}(e:v=v'):IT.Ah v s t=IT.Ah v' s t:=by rw[e]
def Qc{n:Option Nat}{v v':Aa}{k:Aa->IT}(e:v=v'):IT.load n v k=IT.load n v' k:=by rw[e]
def OU{n:Nat}{p p' v v':Aa}{k:IT}(e1:p=p')(e:v=v'):IT.store n p v k=IT.store n p' v' k:=by rw[e,e1]
def OV{n:Nat}{v v':Aa}{k:Aa->IT}(e:v=v'):IT.alloc n v k=IT.alloc n v' k:=by rw[e]
def Qd{f:FuncId}{args args':List Aa}{k:Aa->IT}(e:args=args'):IT.call f args k=IT.call f args' k:=by rw[e]
def OW{f:FuncId}{args args':List Aa}{k:Aa->IT}(e:args=args'):IT.AW f args k=IT.AW f args' k:=by rw[e]
def OX{f f':Aa}{args args':List Aa}{k:Aa->IT}(e1:f=f')(e:args=args'):IT.B7 f args k=IT.B7 f' args' k:=by rw[e,e1]
def Qe{key:Nat}{i i':List Aa}{b:List Aa->IT}{k:C7->List Aa->IT}(e:i=i'):IT.loop key i b k=IT.loop key i' b k:=by rw[e]
def Qf{key:Nat}{b:IT}{k:C7->List Aa->IT}:IT.CU key b k=IT.CU key b k:=rfl
def SD{v v':Aa}{k:Aa->IT}(e:v=v'):IT.Mn v k=IT.Mn v' k:=by rw[e]
def OY{size bytes:Nat}{s s' x x':Aa}{k:Aa->IT}(e:s=s')(e1:x=x'):IT.Eh size bytes s x k=IT.Eh size bytes s' x' k:=by rw[e,e1]
def Qg{size bytes:Nat}{s s' x x':Aa}{k:Aa->IT}(e:s=s')(e1:x=x'):IT.Dm size bytes s x k=IT.Dm size bytes s' x' k:=by rw[e,e1]
def SE{o:S6}{args args':List Aa}{k:Aa->IT}(e:args=args'):IT.mem o args k=IT.mem o args' k:=by rw[e]
def MB{size bytes:Nat}{s s' x x':Aa}{k:Aa->IT}(e:s=s')(e1:x=x'):IT.CM size bytes s x k=IT.CM size bytes s' x' k:=by rw[e,e1]
def OZ{off:Nat}{p p':Aa}{k:IT}(e:p=p'):IT.DJ off p k=IT.DJ off p' k:=by rw[e]
def Md{s s':Aa}{k:Aa->IT}(e:s=s'):IT.B8 s k=IT.B8 s' k:=by rw[e]
def Qh{m m' key key' v v':Aa}{k:IT}(e:m=m')(e1:key=key')(e2:v=v'):IT.Dt m key v k=IT.Dt m' key' v' k:=by rw[e,e1,e2]
def Qi{z:Aa}{ok:Bool}{m m' key key':Aa}{k:Aa->IT}(e:m=m')(e1:key=key'):IT.Fy z ok m key k=IT.Fy z ok m' key' k:=by rw[e,e1]
attribute [congr] SB Qb Wc Up OT SC Qc OU OV Qd OW OX Qe Qf SD OZ Qg MB SE OY Md Qh Qi
attribute [simp] HK Mb Ke IQ JD OS Kd IP JC HL Ib IS HM HN Kf HO IU Gl Kg HP FI IV IW IX F8 IY
section
variable{k:IntKind}{a b:Int}{s t:Ag}
@[simp] theorem Uq:AA (.int .eql) [.int k a,.int k b]=some (.bool (decide (a=b))):=by cases k<;>rfl
@[simp] theorem Ur:AA (.int .neq) [.int k a,.int k b]=some (.bool (decide (a≠b))):=by
 have e:AA (.int .neq) [.int k a,.int k b]=some (.bool (!(a==b))):=by cases k<;>rfl
 rw[e];by_cases h:a=b<;>simp[h]
@[simp] theorem Us:AA (.int .lss) [.int k a,.int k b]=some (.bool (decide (a<b))):=by cases k<;>rfl
@[simp] theorem Ut:AA (.int .leq) [.int k a,.int k b]=some (.bool (decide (a<=b))):=by cases k<;>rfl
@[simp] theorem Uu:AA (.int .gtr) [.int k a,.int k b]=some (.bool (decide (b<a))):=by cases k<;>rfl
@[simp] theorem Uv:AA (.int .geq) [.int k a,.int k b]=some (.bool (decide (b<=a))):=by cases k<;>rfl
def Uw:AA (.int .add) [.int k a,.int k b]=some (.int k (k.wrap (a+b))):=by cases k<;>rfl
@[simp] theorem Ux {b:Bool}:AA (.un .not) [.bool b]=some (.bool (!b)):=rfl
@[simp] theorem N0:AA (.str .eql) [.str s,.str t]=some (.bool (decide (s=t))):=by
 show some (Aa.bool (s==t))=_;congr 2
 by_cases h:s=t<;>simp[h]
@[simp] theorem Ri:AA (.str .neq) [.str s,.str t]=some (.bool (decide (s≠t))):=by
 show some (Aa.bool (!(s==t)))=_;congr 2
 by_cases h:s=t<;>simp[h]
@[simp] theorem Rj:AA (.len true) [.str s]=some (.int .i64 s.length):=rfl
@[simp] theorem q8 {i:Int}:AA .KT [.str s,.int k i]=if 0<=i then(s[i.toNat]?).map λb=> .int .u8 b.toNat else none:=rfl
@[simp] theorem JE {off:Nat} {cs:List Aa}:AA (.part off none) [.agg cs]=cs[off]?:=rfl
@[simp] theorem JF {off n:Nat} {cs:List Aa}:AA (.part off (some n)) [.agg cs]=if off+n<=cs.length then some (.agg ((cs.drop off).take n)) else none:=rfl
@[simp] theorem Uy {i:Nat} {vs:List Aa}:AA (.ext i) [.tuple vs]=vs[i]?:=rfl
@[simp] theorem Iu {p:Nat×Nat}:AA .Gd [.ptr (some p)]=some (.ptr (some p)):=rfl
@[simp] theorem HQ {cs:List Aa}:AA .Gd [.A9 cs]=some (.A9 cs):=rfl
@[simp] theorem HR {f:FuncId} {a b:List Aa}:AA .Gd [.func (.func f) a b]=some (.func (.func f) a b):=rfl
@[simp] theorem Iv {off:Nat} {cs:List Aa}:AA (.CS off) [.A9 cs]=some (.A9 (cs.drop off)):=rfl
@[simp] theorem JG {off id o:Nat}:AA (.CS off) [.ptr (some (id,o))]=some (.ptr (some (id,o+off))):=rfl
@[simp] theorem M6 {neg:Bool}:AA (.Lh neg) [.ptr none,.ptr none]=some (.bool (true != neg)):=rfl
@[simp] theorem M7 {neg:Bool} {p:Nat×Nat}:AA (.Lh neg) [.ptr (some p),.ptr none]=some (.bool (false != neg)):=rfl
@[simp] theorem M8 {neg:Bool} {p:Nat×Nat}:AA (.Lh neg) [.ptr none,.ptr (some p)]=some (.bool (false != neg)):=rfl
@[simp] theorem Uz {neg a b:Bool}:AA (.beq neg) [.bool a,.bool b]=some (.bool ((a==b) != neg)):=rfl
@[simp] theorem q9 {c:Bool} {a b:Aa}:AA .pick [.bool c,a,b]=some (if c then a else b):=rfl
@[simp] theorem Wd {l:IntKind}:AA (.conv l) [.int k a]=some (.int l (l.wrap a)):=rfl
@[simp] theorem O0 {zero args:List Aa} {places:List (Nat×Nat)}:AA (.Bn zero places) args=if places.length=args.length then(GN zero (places.zip args)).map .agg else none:=rfl
@[simp] theorem cF {neg:Bool} {ks:List FK} {x y:List Aa}:AA (.geq neg ks) [.agg x,.agg y]=(BU ks x y).map λe=> .bool (e != neg):=rfl
@[simp] theorem uB:AA (.Fe false) [.int k a,.int k b]=some (.int k (if b<a then b else a)):=by simp[AA]
@[simp] theorem uC:AA (.Fe true) [.int k a,.int k b]=some (.int k (if a<b then b else a)):=by simp[AA]
@[simp] theorem IZ {h:Ab} {n:Option Nat} {cs:List Aa}:Ck h n (.A9 cs)=Cj cs 0 n:=rfl
@[simp] theorem F9 {off:Nat} {cs:List Aa}:Cj cs off none=cs[off]?:=rfl
@[simp] theorem HS {off n:Nat} {cs:List Aa}:Cj cs off (some n)=if off+n<=cs.length then some (.agg ((cs.drop off).take n)) else none:=rfl
@[simp] theorem wrap_i64 (h1: -9223372036854775808<=a) (h2:a<9223372036854775808):IntKind.i64.wrap a=a:=by rw[IntKind.wrap_i64];omega
end
def Kh{cs:List Aa}:Aa.cells (.agg cs)=cs:=rfl
def Ki{k:IntKind}{n:Int}:Aa.cells (.int k n)=[.int k n]:=rfl
def GC{s:Ag}:Aa.cells (.str s)=[.str s]:=rfl
def I0{b:Bool}:Aa.cells (.bool b)=[.bool b]:=rfl
def Kj{p:Option (Nat×Nat)}:Aa.cells (.ptr p)=[.ptr p]:=rfl
def I1{p:List Aa}:Aa.cells (.A9 p)=[.A9 p]:=rfl
def HT:Aa.cells .slnil=[.slnil]:=rfl
def Me{z:Nat}{r:List (List Aa)}:Aa.cells (.sl z r)=[.sl z r]:=rfl
def Kk{i o l z:Nat}:Aa.cells (.EG i o l z)=[.EG i o l z]:=rfl
def I2{f:Fn}{a b:List Aa}:Aa.cells (.func f a b)=[.func f a b]:=rfl
attribute [simp] GN BU GM E4 Kh Ki GC I0 Kj I1 HT Me Kk I2
def CY(z:Nat)(Ac:List (List Aa))(v:Aa):Prop:=v= .sl z Ac\/(v= .slnil/\Ac=[])
section
variable{z:Nat}{Ac:List (List Aa)}{v:Aa}
def CY.mk:CY z Ac (.sl z Ac):= .inl rfl
def CY.nil:CY z [] .slnil:= .inr ⟨rfl,rfl⟩
def CY.cells(h:CY z Ac v):v.cells=[v]:=by rcases h with rfl|⟨rfl,rfl⟩<;>rfl
def CY.len(h:CY z Ac v):AA (.len false) [v]=some (.int .i64 Ac.length):=by rcases h with rfl|⟨rfl,rfl⟩<;>rfl
def CY.Hn(h:CY z Ac v){k:IntKind}{n:Nat}(hn:n<Ac.length):AA (.Hn z) [v,.int k (n:Int)]=some (.A9 Ac[n]):=by
 rcases h with rfl|⟨rfl,rfl⟩
 .simp[AA,elemOf,hn]
 .simp at hn
end
end Go.Am
end
section
namespace Go.Am
open Go
section
variable{C:CB}{Q:FB}{h:Ab}
def HU{key:Nat}{vs:List Aa}{body:List Aa->IT}{k:C7->List Aa->IT}
  (hw:W C (body vs) (λx Z0 h1=>(x= .normal/\W C (.loop key Z0 body k) Q h1)\/(x≠ .normal/\W C (k x Z0) Q h1)) h):W C (.loop key vs body k) Q h:=by
 obtain⟨m,x,Z0,h1,hr,DY⟩:=hw.succ;rcases DY with⟨rfl,hw⟩|⟨hx,hw⟩
 .obtain⟨m',x',DB,h',DC,q⟩:=hw;refine Bf ⟨max m m',x',DB,h',?_,q⟩;have e1:=IT.Ei (λt h r=>IT.DA (fn:=AH C) (Dq m m')) _ _ _ hr;have e2:=IT.DA (C9 m m') DC;simp only[IT.step];simp only[CB.run] at*;rw[e1];exact e2
 .obtain⟨m',x',DB,h',DC,q⟩:=hw.succ;refine Bf ⟨max m m',x',DB,h',?_,q⟩;have e1:=IT.Ei (λt h r=>IT.DA (fn:=AH C) (Dq m m')) _ _ _ hr;have e2:=IT.Ei (λt h r=>IT.DA (fn:=AH C) (C9 m m')) _ _ _ DC;simp only[IT.step];simp only[CB.run] at*;rw[e1];cases x<;>first|exact absurd rfl hx|exact e2
def D5{U:Type}(C:CB)(enc:U->List Aa)(BI:U->Ab->Prop)(O:U->Nat)(k:C7->List Aa->IT)(Q:FB)(s:U):FB:=
 λx vs h1=>(x= .normal/\∃s',vs=enc s'/\BI s' h1/\O s'<O s)\/(x≠ .normal/\W C (k x vs) Q h1)
variable{U:Type}{enc:U->List Aa}{BI:U->Ab->Prop}{O:U->Nat}{k:C7->List Aa->IT}{s:U}{vs:List Aa}
def D5.next(s':U)(e:vs=enc s')(hi:BI s' h)(hl:O s'<O s):D5 C enc BI O k Q s .normal vs h:= .inl ⟨rfl,s',e,hi,hl⟩
def Iw{i:Nat}:D5 C enc BI O k Q s (.exit i) vs h↔W C (k (.exit i) vs) Q h:=by simp[D5]
def JH:D5 C enc BI O k Q s .ret vs h↔W C (k .ret vs) Q h:=by simp[D5]
def Ic{key:Nat}{init:List Aa}{body:List Aa->IT}(enc:U->List Aa)(BI:U->Ab->Prop)(O:U->Nat)(s0:U)(h0:init=enc s0)(hi:BI s0 h)
  (round:∀s h,BI s h->W C (body (enc s)) (D5 C enc BI O k Q s) h):W C (.loop key init body k) Q h:=by
 subst h0;have key:∀n s h,O s=n->BI s h->W C (.loop key (enc s) body k) Q h:=by
  intro n;induction n using Nat.strongRecOn with
  |_ n ih=>
   intro s h hn hI;refine HU (W.mono (round s h hI) ?_);rintro x vs h1 (⟨rfl,s',rfl,VO,hl⟩|⟨hx,hw⟩);.exact .inl ⟨rfl,ih _ (hn▸hl) s' h1 rfl VO⟩
   .exact .inr ⟨hx,hw⟩
 exact key _ s0 h rfl hi
end
section
variable{k l:IntKind}{s:Ag}
def DP{n:Nat}(hn:n<s.length):AA .KT [.str s,.int k (n:Int)]=some (.int .u8 (s[n].toNat:Int)):=by simp[hn]
def G8{n:Nat}(hn:n<9223372036854775807):AA (.int .add) [.int .i64 (n:Int),.int .i64 1]=some (.int .i64 ((n+1:Nat):Int)):=by rw[Uw,wrap_i64 (by omega) (by omega)];rfl
def Qj{a b z:Nat}(jv:a<=b)(hb:b<=s.length):AA (.Ku z true true true) [.str s,.int k (a:Int),.int l (b:Int)]=some (.str ((s.take b).drop a)):=by
 have e1:Fl (b:Int) s.length=some b:=by unfold Fl;rw[if_pos (by omega)];rfl
 have e2:Fl (a:Int) b=some a:=by unfold Fl;rw[if_pos (by omega)];rfl
 simp[AA,Jc,CT,e1,e2]
end
section
variable{z b:Nat}{r r2:List (List Aa)}{row:List Aa}{v v2:Aa}
def CY.fm(h:CY z r v)(h2:CY z r2 v2)(hb:(r.length+r2.length)*b<=AO):∃u,AA (.append z b) [v,v2]=some u/\CY z (r++r2) u:=by
 have hnil:∃u,BN z b v []=some u/\CY z (r++[]) u:=by
  rcases h with rfl|⟨rfl,rfl⟩
  .exact⟨.sl z r,by simp[BN],by rw[BM];exact .mk⟩
  .exact⟨_,rfl,.nil⟩
 rcases h2 with rfl|⟨rfl,rfl⟩
 .cases r2 with
  |nil=>obtain⟨u,e,hu⟩:=hnil;exact⟨u,by simpa[AA,Es] using e,hu⟩
  |cons x l=>
   refine⟨.sl z (r++x::l),?_,.mk⟩;rcases h with rfl|⟨rfl,rfl⟩
   .simp only[AA,Es,Bc,BN];rw[if_pos ⟨trivial,hb⟩]
   .simp only[AA,Es,Bc,BN];rw[if_pos (by simpa using hb)];rfl
 .obtain⟨u,e,hu⟩:=hnil;exact⟨u,by simpa[AA,Es] using e,hu⟩
end
@[simp] theorem rA {z:Nat} {args:List Aa}:AA (.BD z) args=if args.all (λa=>a.cells.length==z)&&decide (args.length*z<=16777216) then some (.sl z (args.map (·.cells))) else none:=rfl
def BJ{C:CB}{f:FuncId}{args:List Aa}{h h':Ab}{r:Aa}:Fu C f args h r h'↔W C (AH C f args) (λx vs h1=>x= .ret/\vs=[r]/\h1=h') h:=Iff.rfl
abbrev CN(C:CB)(f:FuncId)(t:Aa->IT):Prop:=∀a0,AH C f [a0]=t a0
abbrev Cu(C:CB)(f:FuncId)(t:Aa->Aa->IT):Prop:=∀a0 a1,AH C f [a0,a1]=t a0 a1
abbrev I9(C:CB)(f:FuncId)(t:Aa->Aa->Aa->IT):Prop:=∀a0 a1 a2,AH C f [a0,a1,a2]=t a0 a1 a2
abbrev jA(C:CB)(f:FuncId)(t:Aa->Aa->Aa->Aa->IT):Prop:=∀a0 a1 a2 a3,AH C f [a0,a1,a2,a3]=t a0 a1 a2 a3
abbrev xK(C:CB)(f:FuncId)(t:Aa->Aa->Aa->Aa->Aa->IT):Prop:=∀a0 a1 a2 a3 a4,AH C f [a0,a1,a2,a3,a4]=t a0 a1 a2 a3 a4
def IT.fa(p:Aa)(k:Nat)(K:Aa->Aa->IT):IT:= .op .Gd [p] λa=> .op (.CS k) [a] λb=>K a b
def IT.AN(p:Aa)(k:Nat)(K:Aa->Aa->Aa->IT):IT:= .op .Gd [p] λa=> .op (.CS k) [a] λb=> .load none b λc=>K a b c
def IT.fl(p:Aa)(k:Nat)(K:Aa->Aa->IT):IT:= .op (.CS k) [p] λa=> .load none a λb=>K a b
def nx(A R:List Aa->IT):C7->List Aa->IT:=λx c=>match x with
 | .normal=>A c
 | .exit _=> .fail
 | .ret=>R c
def lx(k:Nat)(A R:List Aa->IT):C7->List Aa->IT:=λx c=>match x with
 | .normal=> .fail
 | .exit i=>if i=k then A c else .fail
 | .ret=>R c
section
variable{C:CB}{Q:FB}{h:Ab}{p:Aa}{k:Nat}{A R:List Aa->IT}{c:List Aa}
def jB{K:Aa->Aa->IT}:W C (IT.fa p k K) Q h=W C (.op .Gd [p] λa=> .op (.CS k) [a] λb=>K a b) Q h:=rfl
def Z3{K:Aa->Aa->Aa->IT}:W C (IT.AN p k K) Q h=W C (.op .Gd [p] λa=> .op (.CS k) [a] λb=> .load none b λc=>K a b c) Q h:=rfl
def jC{K:Aa->Aa->IT}:W C (IT.fl p k K) Q h=W C (.op (.CS k) [p] λa=> .load none a λb=>K a b) Q h:=rfl
def jD:nx A R .normal c=A c:=rfl
def jE:nx A R .ret c=R c:=rfl
def jF:lx k A R (.exit k) c=A c:=if_pos rfl
def jG:lx k A R .ret c=R c:=rfl
end
def GD:Ag->Ag->List Ag
 |cur,[]=>[cur]
 |cur,c::r=>if c=32 then cur::GD [] r else GD (cur++[c]) r
def JI:List Ag:=GD [] [97,100,100,114,101,115,115,32,97,112,112,108,101,116,32,97,114,101,97,32,97,114,116,105,99,108,101,32,97,115,105,100,101,32,98,97,115,101,32,98,97,115,101,102,111,110,116,32,98,103,115,111,117,110,100,32,98,108,111,99,107,113,117,111,116,101,32,98,111,100,121,32,98,114,32,98,117,116,116,111,110,32,99,97,112,116,105,111,110,32,99,101,110,116,101,114,32,99,111,108,32,99,111,108,103,114,111,117,112,32,100,100,32,100,101,116,97,105,108,115,32,100,105,114,32,100,105,118,32,100,108,32,100,116,32,101,109,98,101,100,32,102,105,101,108,100,115,101,116,32,102,105,103,99,97,112,116,105,111,110,32,102,105,103,117,114,101,32,102,111,111,116,101,114,32,102,111,114,109,32,102,114,97,109,101,32,102,114,97,109,101,115,101,116,32,104,49,32,104,50,32,104,51,32,104,52,32,104,53,32,104,54,32,104,101,97,100,32,104,101,97,100,101,114,32,104,103,114,111,117,112,32,104,114,32,104,116,109,108,32,105,102,114,97,109,101,32,105,109,103,32,105,110,112,117,116,32,107,101,121,103,101,110,32,108,105,32,108,105,110,107,32,108,105,115,116,105,110,103,32,109,97,105,110,32,109,97,114,113,117,101,101,32,109,101,110,117,32,109,101,116,97,32,110,97,118,32,110,111,101,109,98,101,100,32,110,111,102,114,97,109,101,115,32,110,111,115,99,114,105,112,116,32,111,98,106,101,99,116,32,111,108,32,112,32,112,97,114,97,109,32,112,108,97,105,110,116,101,120,116,32,112,114,101,32,115,99,114,105,112,116,32,115,101,97,114,99,104,32,115,101,99,116,105,111,110,32,115,101,108,101,99,116,32,115,111,117,114,99,101,32,115,116,121,108,101,32,115,117,109,109,97,114,121,32,116,97,98,108,101,32,116,98,111,100,121,32,116,100,32,116,101,109,112,108,97,116,101,32,116,101,120,116,97,114,101,97,32,116,102,111,111,116,32,116,104,32,116,104,101,97,100,32,116,105,116,108,101,32,116,114,32,116,114,97,99,107,32,117,108,32,119,98,114,32,120,109,112]
def swv(s:Aa)(t e:IT):List (List UInt8)->IT
 |[]=>e
 |c::cs=>.op (.str .eql) [s,.str c] λv=>.Ah v t (swv s t e cs)
abbrev IT.rr(l:List Aa):IT:=.ret .ret l
abbrev IT.rn(l:List Aa):IT:=.ret .normal l
abbrev IT.rx(n:Nat)(l:List Aa):IT:=.ret (.exit n) l
abbrev IT.ea(n:Nat)(l:List Aa)(k:Aa->IT):IT:=.op (.Hn n) l k
abbrev IT.ld(p:Aa)(k:Aa->IT):IT:=.load none p k
abbrev IT.ie(l:List Aa)(k:Aa->IT):IT:=.op (.int .eql) l k
abbrev IT.iq(l:List Aa)(k:Aa->IT):IT:=.op (.int .neq) l k
abbrev IT.il(l:List Aa)(k:Aa->IT):IT:=.op (.int .lss) l k
abbrev IT.ig(l:List Aa)(k:Aa->IT):IT:=.op (.int .gtr) l k
abbrev IT.ia(l:List Aa)(k:Aa->IT):IT:=.op (.int .add) l k
abbrev IT.ib(l:List Aa)(k:Aa->IT):IT:=.op (.int .sub) l k
abbrev IT.ih(l:List Aa)(k:Aa->IT):IT:=.op (.int .geq) l k
abbrev IT.ik(l:List Aa)(k:Aa->IT):IT:=.op (.int .leq) l k
abbrev IT.se(l:List Aa)(k:Aa->IT):IT:=.op (.str .eql) l k
abbrev IT.ln(l:List Aa)(k:Aa->IT):IT:=.op (.len false) l k
abbrev IT.lt(l:List Aa)(k:Aa->IT):IT:=.op (.len true) l k
abbrev IT.nt(l:List Aa)(k:Aa->IT):IT:=.op (.un .not) l k
abbrev i0:Aa:=I 0
abbrev i1:Aa:=I 1
abbrev tu:Aa:=.tuple []
abbrev pn:Aa:=.ptr none
def cG(c:List Aa):Aa:=.agg [g c 0,g c 1,g c 2,g c 3,g c 4,g c 5,g c 6,g c 7,g c 8,g c 9,g c 10,g c 11,g c 12]
def a13_e{c:List Aa}:cG c=.agg [g c 0,g c 1,g c 2,g c 3,g c 4,g c 5,g c 6,g c 7,g c 8,g c 9,g c 10,g c 11,g c 12]:=rfl
def Ci(c:List Aa):Aa:=.agg [g c 0,g c 1,g c 2,g c 3,g c 4,g c 5,g c 6,g c 7,g c 8,g c 9,g c 10,g c 11]
def a12_e{c:List Aa}:Ci c=.agg [g c 0,g c 1,g c 2,g c 3,g c 4,g c 5,g c 6,g c 7,g c 8,g c 9,g c 10,g c 11]:=rfl
def a9(c:List Aa):Aa:=.agg [g c 0,g c 1,g c 2,g c 3,g c 4,g c 5,g c 6,g c 7,g c 8]
def a9_e{c:List Aa}:a9 c=.agg [g c 0,g c 1,g c 2,g c 3,g c 4,g c 5,g c 6,g c 7,g c 8]:=rfl
def a6(c:List Aa):Aa:=.agg [g c 0,g c 1,g c 2,g c 3,g c 4,g c 5]
def a6_e{c:List Aa}:a6 c=.agg [g c 0,g c 1,g c 2,g c 3,g c 4,g c 5]:=rfl
def a4(c:List Aa):Aa:=.agg [g c 0,g c 1,g c 2,g c 3]
def a4_e{c:List Aa}:a4 c=.agg [g c 0,g c 1,g c 2,g c 3]:=rfl
def a3(c:List Aa):Aa:=.agg [g c 0,g c 1,g c 2]
def a3_e{c:List Aa}:a3 c=.agg [g c 0,g c 1,g c 2]:=rfl
def Er:type_of%(And.intro @a13_e (And.intro @a12_e (And.intro @a9_e (And.intro @a6_e (And.intro @a4_e (And.intro @a3_e ((And.intro @jB (And.intro @Z3 (And.intro @jC (And.intro @jD (And.intro @jE (And.intro @jF (And.intro @jG (And.intro @HK (And.intro @Mb (And.intro @Ke (And.intro @IQ (And.intro @JD (And.intro @Kd (And.intro @IP (And.intro @JC (And.intro @HL (And.intro @Ib (And.intro @IS (And.intro @HM (And.intro @HN (And.intro @Kf (And.intro @HO (And.intro @IU (And.intro @Gl (And.intro @Kg (And.intro @HP (And.intro @FI (And.intro @IV (And.intro @IW (And.intro @IX (And.intro @F8 (And.intro @IY (And.intro @Uq (And.intro @Ur (And.intro @Us (And.intro @Ut (And.intro @Uu (And.intro @Uv (And.intro @Ux (And.intro @N0 (And.intro @Ri (And.intro @Rj (And.intro @JE (And.intro @JF (And.intro @Uy (And.intro @Iu (And.intro @HQ (And.intro @HR (And.intro @Iv (And.intro @JG (And.intro @M6 (And.intro @M7 (And.intro @M8 (And.intro @Uz (And.intro @O0 (And.intro @IZ (And.intro @F9 (And.intro @HS (And.intro @ME.{0} (And.intro @rJ.{0} (And.intro @JP.{0} (And.intro @Fp.{0} (And.intro @FL.{0} (And.intro @rK.{0} (And.intro @List.drop_nil.{0} (And.intro @HY.{0} (And.intro @Hk.{0} (And.intro @AF.{0} (And.intro @A4.{0} (And.intro @Cz.{0} (And.intro @Bi.{0} (And.intro @N6.{0,0} (And.intro @vZ.{0,0} (And.intro @A3.{0,0} (And.intro @kg.{0,0} (And.intro @AL (And.intro @Kh (And.intro @Ki (And.intro @GC (And.intro @I0 (And.intro @Kj (And.intro @I1 (And.intro @HT (And.intro @Me (And.intro @Kk (And.intro @I2 (And.intro @and_self (And.intro @FT (And.intro @Pd (And.intro @Bc.{1} (And.intro @JN.{1} (And.intro @Iw (@JH)))))))))))))))))))))))))))))))))))))))))))))))))))))))))))))))))))))))))))))))))))))))))))))))))))):=And.intro @a13_e (And.intro @a12_e (And.intro @a9_e (And.intro @a6_e (And.intro @a4_e (And.intro @a3_e (And.intro @jB (And.intro @Z3 (And.intro @jC (And.intro @jD (And.intro @jE (And.intro @jF (And.intro @jG (And.intro @HK (And.intro @Mb (And.intro @Ke (And.intro @IQ (And.intro @JD (And.intro @Kd (And.intro @IP (And.intro @JC (And.intro @HL (And.intro @Ib (And.intro @IS (And.intro @HM (And.intro @HN (And.intro @Kf (And.intro @HO (And.intro @IU (And.intro @Gl (And.intro @Kg (And.intro @HP (And.intro @FI (And.intro @IV (And.intro @IW (And.intro @IX (And.intro @F8 (And.intro @IY (And.intro @Uq (And.intro @Ur (And.intro @Us (And.intro @Ut (And.intro @Uu (And.intro @Uv (And.intro @Ux (And.intro @N0 (And.intro @Ri (And.intro @Rj (And.intro @JE (And.intro @JF (And.intro @Uy (And.intro @Iu (And.intro @HQ (And.intro @HR (And.intro @Iv (And.intro @JG (And.intro @M6 (And.intro @M7 (And.intro @M8 (And.intro @Uz (And.intro @O0 (And.intro @IZ (And.intro @F9 (And.intro @HS (And.intro @ME.{0} (And.intro @rJ.{0} (And.intro @JP.{0} (And.intro @Fp.{0} (And.intro @FL.{0} (And.intro @rK.{0} (And.intro @List.drop_nil.{0} (And.intro @HY.{0} (And.intro @Hk.{0} (And.intro @AF.{0} (And.intro @A4.{0} (And.intro @Cz.{0} (And.intro @Bi.{0} (And.intro @N6.{0,0} (And.intro @vZ.{0,0} (And.intro @A3.{0,0} (And.intro @kg.{0,0} (And.intro @AL (And.intro @Kh (And.intro @Ki (And.intro @GC (And.intro @I0 (And.intro @Kj (And.intro @I1 (And.intro @HT (And.intro @Me (And.intro @Kk (And.intro @I2 (And.intro @and_self (And.intro @FT (And.intro @Pd (And.intro @Bc.{1} (And.intro @JN.{1} (And.intro @Iw (@JH))))))))))))))))))))))))))))))))))))))))))))))))))))))))))))))))))))))))))))))))))))))))))))))))))
def Fj:type_of%(And.intro @Pe.{0} (And.intro @iz.{0} (And.intro @Bool.bne_true (And.intro @Bool.bne_false (And.intro @Zo (And.intro @Bool.not_false (And.intro @IA (And.intro @Iz (And.intro @Ks (And.intro @I7 (And.intro @CE (And.intro @i_ (And.intro @A3.{0,0} (@List.take_nil.{0})))))))))))))):=And.intro @Pe.{0} (And.intro @iz.{0} (And.intro @Bool.bne_true (And.intro @Bool.bne_false (And.intro @Zo (And.intro @Bool.not_false (And.intro @IA (And.intro @Iz (And.intro @Ks (And.intro @I7 (And.intro @CE (And.intro @i_ (And.intro @A3.{0,0} (@List.take_nil.{0})))))))))))))
def jH:type_of%(And.intro @decide_true (And.intro @fE (And.intro @Bool.and_true (And.intro @Zp (And.intro @Vm (And.intro @Bool.false_and (And.intro @Bool.or_true (And.intro @Bool.true_or (And.intro @I6 (And.intro @I5 (And.intro @Qx.{0} (And.intro @v8.{0} (And.intro @ja.{0} (And.intro @wA.{0} (And.intro @Bc.{1} (And.intro @JN.{1} (And.intro @B5 (And.intro @FT (And.intro @and_false (And.intro @Pd (And.intro @false_and (And.intro @Int.lt_irrefl (@DF))))))))))))))))))))))):=And.intro @decide_true (And.intro @fE (And.intro @Bool.and_true (And.intro @Zp (And.intro @Vm (And.intro @Bool.false_and (And.intro @Bool.or_true (And.intro @Bool.true_or (And.intro @I6 (And.intro @I5 (And.intro @Qx.{0} (And.intro @v8.{0} (And.intro @ja.{0} (And.intro @wA.{0} (And.intro @Bc.{1} (And.intro @JN.{1} (And.intro @B5 (And.intro @FT (And.intro @and_false (And.intro @Pd (And.intro @false_and (And.intro @Int.lt_irrefl (@DF))))))))))))))))))))))
abbrev Pt(i o:Nat):Aa:=.ptr (some (i,o))
end Go.Am
end
