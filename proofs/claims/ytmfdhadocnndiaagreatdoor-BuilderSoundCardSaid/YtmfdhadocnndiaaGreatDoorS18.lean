/- Lemmas -/
import Derived.Test.YtmfdhadocnndiaaGreatDoorS1
import Derived.IntWalk
set_option linter.all false
section
namespace Go.Am
open Go
section
variable{C:Fo}{Q:Iw}{h:Ah}
def VS{x:Fc}{vs:List Aa}:W C (.ret x vs) Q h↔Q x vs h:=by refine⟨λhw=>?_,Y_⟩;obtain⟨n,x',GJ,h',hr,q⟩:=hw.succ;simp only[IT.step,Bs,HV] at hr;obtain⟨rfl,rfl,rfl⟩:=hr;exact q
def Tz:W C .fail Q h↔False:=by refine⟨λhw=>?_,λh=>h.elim⟩;obtain⟨n,x',GJ,h',hr,q⟩:=hw.succ;simp[IT.step] at hr
def VT{Z:Type}(o:Option Z)(f:Z->Prop):Prop:=∃v,o=some v/\f v
def n7{Z:Type}{o o':Option Z}{f:Z->Prop}(h:o=o'):VT o f=VT o' f:=by rw[h]
def Nk{Z:Type}{v:Z}{f:Z->Prop}:VT (some v) f=f v:=propext (by
 constructor;.rintro⟨_,e,h⟩;cases e;exact h
 .intro h;exact⟨v,rfl,h⟩)
def Za{Z:Type}{f:Z->Prop}:VT (none:Option Z) f=False:=propext (by
 constructor;.rintro⟨_,e,_⟩;cases e
 .exact False.elim)
def TA{o:UA}{args:List Aa}{k:Aa->IT}:W C (.op o args k) Q h↔VT (Ax o args) λv=>W C (k v) Q h:=by
 refine⟨λhw=>?_,λ⟨v,hv,hw⟩=>aA3 hv hw⟩;obtain⟨n,x',GJ,h',hr,q⟩:=hw.succ;simp only[IT.step] at hr;split at hr;.rename_i v hv;exact⟨v,hv,CD ⟨n,x',GJ,h',hr,q⟩⟩
 .cases hr
def RC{n:Nat}{v:Aa}{k:List Aa->IT}:W C (.cells n v k) Q h↔VT (if v.cells.length=n then some v.cells else none) λl=>W C (k l) Q h:=by
 constructor
 .intro hw;obtain⟨m,x',GJ,h',hr,q⟩:=hw.succ;simp only[IT.step] at hr;split at hr;.rename_i hv;exact⟨_,Ad hv,CD ⟨m,x',GJ,h',hr,q⟩⟩
  .cases hr
 .rintro⟨l,e,hw⟩;split at e;.rename_i hv;cases e;exact yY hv hw
  .cases e
def US(v:Aa)(p q:Prop):Prop:=(v= .bool true/\p)\/(v= .bool false/\q)
def cV{v v':Aa}{p q:Prop}(h:v=v'):US v p q=US v' p q:=by rw[h]
def NV{p q:Prop}:US (.bool true) p q=p:=by simp[US]
def Mn{p q:Prop}:US (.bool false) p q=q:=by simp[US]
def Dk{b:Bool}{p q:Prop}:US (.bool b) p q↔(b=true->p)/\(b=false->q):=by cases b<;>simp[US]
def TB{c:Prop}[Decidable c]{p q:Prop}:US (.bool (decide c)) p q↔(c->p)/\(¬c->q):=by rw[Dk];simp
def LP{c:Aa}{t e:IT}:W C (.AM c t e) Q h↔US c (W C t Q h) (W C e Q h):=by
 constructor
 .intro hw;obtain⟨m,x',GJ,h',hr,q⟩:=hw.succ;simp only[IT.step] at hr;split at hr;.exact .inl ⟨rfl,CD ⟨m,x',GJ,h',hr,q⟩⟩
  .exact .inr ⟨rfl,CD ⟨m,x',GJ,h',hr,q⟩⟩
  .cases hr
 .rintro(⟨rfl,hw⟩|⟨rfl,hw⟩);.exact gw (λ_=>hw) λh=>by cases h
  .exact gw (λh=>by cases h) λ_=>hw
def TC{n:Option Nat}{p:Aa}{k:Aa->IT}:W C (.load n p k) Q h↔VT (Bk h n p) λv=>W C (k v) Q h:=by
 refine⟨λhw=>?_,λ⟨v,hv,hw⟩=>mv hv hw⟩;obtain⟨m,x',GJ,h',hr,q⟩:=hw.succ;simp only[IT.step] at hr;split at hr;.rename_i v hv;exact⟨v,hv,CD ⟨m,x',GJ,h',hr,q⟩⟩
 .cases hr
def RD{n:Nat}{p v:Aa}{k:IT}:W C (.store n p v k) Q h↔VT (CK h n p v) λh1=>W C k Q h1:=by
 refine⟨λhw=>?_,λ⟨v,hv,hw⟩=>yZ hv hw⟩;obtain⟨m,x',GJ,h',hr,q⟩:=hw.succ;simp only[IT.step] at hr;split at hr;.rename_i h1 hv;exact⟨h1,hv,CD ⟨m,x',GJ,h',hr,q⟩⟩
 .cases hr
def RE{n:Nat}{v:Aa}{k:Aa->IT}:W C (.alloc n v k) Q h↔VT (if v.cells.length=n then some v.cells else none) λl=>W C (k (.ptr (some (h.length,0)))) Q (h++[.cells l]):=by
 constructor
 .intro hw;obtain⟨m,x',GJ,h',hr,q⟩:=hw.succ;simp only[IT.step,Wu] at hr;by_cases hv:v.cells.length=n;.rw[Ad hv] at hr;exact⟨_,Ad hv,CD ⟨m,x',GJ,h',hr,q⟩⟩
  .rw[Ac hv] at hr;cases hr
 .rintro⟨l,e,hw⟩;split at e;.rename_i hv;cases e;exact zA hv hw
  .cases e
def VU{u:Aa}{k:Aa->IT}:W C (.SC u k) Q h↔VT (Lf h u) λx=>W C (k x.2) Q x.1:=by
 refine⟨λhw=>?_,λ⟨(h1,v),hv,hw⟩=>Z_ hv hw⟩;obtain⟨m,x',GJ,h',hr,q⟩:=hw.succ;simp only[IT.step] at hr;split at hr;.rename_i h1 v hv;exact⟨(h1,v),hv,CD ⟨m,x',GJ,h',hr,q⟩⟩
 .cases hr
def RF{off:Nat}{p:Aa}{k:IT}:W C (.HJ off p k) Q h↔VT (Kk h off p) λh1=>W C k Q h1:=by
 refine⟨λhw=>?_,λ⟨h1,hv,hw⟩=>zC hv hw⟩;obtain⟨m,x',GJ,h',hr,q⟩:=hw.succ;simp only[IT.step] at hr;split at hr;.rename_i h1 hv;exact⟨h1,hv,CD ⟨m,x',GJ,h',hr,q⟩⟩
 .cases hr
def RG{size bytes:Nat}{s x:Aa}{k:Aa->IT}:W C (.IV size bytes s x k) Q h↔VT (Ld h size bytes s x) λx=>W C (k x.2) Q x.1:=by
 refine⟨λhw=>?_,λ⟨(h1,v),hv,hw⟩=>zB hv hw⟩;obtain⟨m,x',GJ,h',hr,q⟩:=hw.succ;simp only[IT.step] at hr;split at hr;.rename_i h1 v hv;exact⟨(h1,v),hv,CD ⟨m,x',GJ,h',hr,q⟩⟩
 .cases hr
def TD{size bytes:Nat}{s x:Aa}{k:Aa->IT}:W C (.FC size bytes s x k) Q h↔VT (ET h size bytes s x) λx=>W C (k x.2) Q x.1:=by
 refine⟨λhw=>?_,λ⟨(h1,v),hv,hw⟩=>nc hv hw⟩;obtain⟨m,x,GJ,h',hr,q⟩:=hw.succ;simp only[IT.step] at hr;split at hr;.rename_i h1 v hv;exact⟨(h1,v),hv,CD ⟨m,x,GJ,h',hr,q⟩⟩
 .cases hr
def Oo{size bytes:Nat}{s x:Aa}{k:Aa->IT}:W C (.FD size bytes s x k) Q h↔VT (Oe h size bytes s x) λv=>W C (k v) Q h:=by
 refine⟨λhw=>?_,λ⟨v,hv,hw⟩=>mG hv hw⟩;obtain⟨m,x,GJ,h',hr,q⟩:=hw.succ;simp only[IT.step] at hr;split at hr;.rename_i v hv;exact⟨v,hv,CD ⟨m,x,GJ,h',hr,q⟩⟩
 .cases hr
def VV{o:qQ}{args:List Aa}{k:Aa->IT}:W C (.mem o args k) Q h↔VT (D2 o h args) λx=>W C (k x.2) Q x.1:=by
 refine⟨λhw=>?_,λ⟨(h1,v),hv,hw⟩=>À hv hw⟩;obtain⟨n,x,vs,h',hr,q⟩:=hw.succ;simp only[IT.step] at hr;split at hr;.rename_i h1 v hv;exact⟨(h1,v),hv,CD ⟨n,x,vs,h',hr,q⟩⟩
 .cases hr
def Nl{s:Aa}{k:Aa->IT}:W C (.ES s k) Q h↔VT (Ie h s) λx=>W C (k x.2) Q x.1:=by
 refine⟨λhw=>?_,λ⟨(h1,v),hv,hw⟩=>bE hv hw⟩;obtain⟨m,x',GJ,h',hr,q⟩:=hw.succ;simp only[IT.step] at hr;split at hr;.rename_i h1 v hv;exact⟨(h1,v),hv,CD ⟨m,x',GJ,h',hr,q⟩⟩
 .cases hr
def OP{k:Aa->IT}:W C (.N4 k) Q h↔W C (k (.map (some h.length))) Q (h++[.map []]):=by refine⟨λhw=>?_,my⟩;obtain⟨m,x',GJ,h',hr,q⟩:=hw.succ;exact CD ⟨m,x',GJ,h',hr,q⟩
def TE{m key v:Aa}{k:IT}:W C (.Js m key v k) Q h↔VT (Re h m key v) λh1=>W C k Q h1:=by
 refine⟨λhw=>?_,λ⟨h1,hv,hw⟩=>mz hv hw⟩;obtain⟨m,x',GJ,h',hr,q⟩:=hw.succ;simp only[IT.step] at hr;split at hr;.rename_i h1 hv;exact⟨h1,hv,CD ⟨m,x',GJ,h',hr,q⟩⟩
 .cases hr
def TF{z:Aa}{ok:Bool}{m key:Aa}{k:Aa->IT}:W C (.Ly z ok m key k) Q h↔VT (Rf h z ok m key) λv=>W C (k v) Q h:=by
 refine⟨λhw=>?_,λ⟨h1,hv,hw⟩=>m_ hv hw⟩;obtain⟨m,x',GJ,h',hr,q⟩:=hw.succ;simp only[IT.step] at hr;split at hr;.rename_i h1 hv;exact⟨h1,hv,CD ⟨m,x',GJ,h',hr,q⟩⟩
 .cases hr
def Nn{g:Aa}{args:List Aa}{k:Aa->IT}:W C (.Es g args k) Q h↔VT (CA g args) λx=>W C (.call x.1 x.2 k) Q h:=by
 constructor
 .intro hw;obtain⟨m,x',GJ,h',hr,q⟩:=hw.succ;simp only[IT.step] at hr;split at hr;.rename_i f as e;refine⟨(f,as),e,CD ⟨m,x',GJ,h',?_,q⟩⟩;simp only[IT.step];exact hr
  .cases hr
 .rintro⟨⟨f,as⟩,e,hw⟩;obtain⟨m,x',GJ,h',hr,q⟩:=hw.succ;refine CD ⟨m,x',GJ,h',?_,q⟩;simp only[IT.step,e] at hr⊢;exact hr
def Ep{key:Nat}{t:IT}{k:Fc->List Aa->IT}:W C (.DW key t k) Q h↔W C t (λx vs h1=>W C (k x vs) Q h1) h:=by
 refine⟨λhw=>?_,ng⟩;obtain⟨m,x',GJ,h',hr,q⟩:=hw.succ;simp only[IT.step] at hr;split at hr;.rename_i x vs h1 e;exact CD ⟨m,_,_,_,e,CD ⟨m,x',GJ,h',hr,q⟩⟩
 .cases hr
def Co(C:Fo)(f:FuncId)(args:List Aa)(h:Ah)(r:Aa)(h':Ah):Prop:=W C (BY C f args) (λx vs h1=>x= .ret/\vs=[r]/\h1=h') h
def Co.ev{f:FuncId}{args:List Aa}{r:Aa}{h':Ah}(hr:Co C f args h r h'){R:Aa->Ah->Prop}(hR:R r h'):Ev C f args h R:=
 W.mono hr λ_ _ _ ⟨h1,h2,h3⟩=>⟨h1,r,h2,by rw[h3];exact hR⟩
def Co.Ag{f:FuncId}{args:List Aa}{r:Aa}{h':Ah}(hr:Co C f args h r h'){k:Aa->IT}:W C (.call f args k) Q h↔W C (k r) Q h':=by
 refine⟨λhw=>?_,λhw=>q7 (hr.ev hw)⟩;obtain⟨n,i,ø,h1,g,rfl,rfl,rfl⟩:=hr;obtain⟨m,x',GJ,h2,d,q⟩:=hw.succ;simp only[IT.step] at d;split at d;.rename_i r2 h3 e;simp only[Fo.run] at g e;have a1:=IT.HA (HQ n m) g;have a2:=IT.HA (Hi n m) e;rw[a1] at a2;cases a2;exact CD ⟨m,x',GJ,h2,d,q⟩
 .cases d
def N7(C:Fo)(f:FuncId)(args:List Aa)(r:Aa):Prop:=Ev C f args [] λx _=>x=r
def N7.Cx{f:FuncId}{args:List Aa}{r:Aa}(hr:N7 C f args r)(ha:args.all Aa.KK=true)(hf:r.KK=true){k:Aa->IT}:W C (.Cx f args k) Q h↔W C (k r) Q h:=by
 refine⟨λhw=>?_,λhw=>zD ha (hr.mono λx _ e=>by rw[e];exact⟨hf,hw⟩)⟩;obtain⟨n,i,ø,h1,g,rfl,y,rfl,rfl⟩:=hr;obtain⟨m,x',GJ,h2,d,q⟩:=hw.succ;simp only[IT.step,ha,BE] at d;simp only[Fo.run] at g d;have a1:=IT.HA (HQ n m) g;cases hc:IT.run (BY C) m (BY C f args) [] with
 |none=>rw[hc] at d;cases d
 |some z=>have a2:=IT.HA (Hi n m) hc;rw[a1] at a2;cases a2;rw[hc] at d;simp only[hf,BE] at d;exact CD ⟨m,x',GJ,h2,d,q⟩
end
def be{C:Fo}{t t':IT}{Q:Iw}{h h':Ah}(e:t=t')(d:h=h'):W C t Q h=W C t' Q h':=by rw[e,d]
def tO{o:UA}{args args':List Aa}{k:Aa->IT}(e:args=args'):IT.op o args k=IT.op o args' k:=by rw[e]
def Zb{n:Nat}{v v':Aa}{k:List Aa->IT}(e:v=v'):IT.cells n v k=IT.cells n v' k:=by rw[e]
def oA{v v':Aa}{s t:IT}(e:v=v'):IT.AM v s t=IT.AM v' s t:=by rw[e]
def cW{n:Option Nat}{v v':Aa}{k:Aa->IT}(e:v=v'):IT.load n v k=IT.load n v' k:=by rw[e]
def Zc{n:Nat}{p p' v v':Aa}{k:IT}(d:p=p')(e:v=v'):IT.store n p v k=IT.store n p' v' k:=by rw[e,d]
def Zd{n:Nat}{v v':Aa}{k:Aa->IT}(e:v=v'):IT.alloc n v k=IT.alloc n v' k:=by rw[e]
def cX{f:FuncId}{args args':List Aa}{k:Aa->IT}(e:args=args'):IT.call f args k=IT.call f args' k:=by rw[e]
def Ze{f:FuncId}{args args':List Aa}{k:Aa->IT}(e:args=args'):IT.Cx f args k=IT.Cx f args' k:=by rw[e]
def Zf{f f':Aa}{args args':List Aa}{k:Aa->IT}(d:f=f')(e:args=args'):IT.Es f args k=IT.Es f' args' k:=by rw[e,d]
def cY{key:Nat}{i d:List Aa}{b:List Aa->IT}{k:Fc->List Aa->IT}(e:i=d):IT.loop key i b k=IT.loop key d b k:=by rw[e]
def cZ{key:Nat}{b:IT}{k:Fc->List Aa->IT}:IT.DW key b k=IT.DW key b k:=rfl
def oB{v v':Aa}{k:Aa->IT}(e:v=v'):IT.SC v k=IT.SC v' k:=by rw[e]
def Zg{size bytes:Nat}{s s' x x':Aa}{k:Aa->IT}(e:s=s')(d:x=x'):IT.IV size bytes s x k=IT.IV size bytes s' x' k:=by rw[e,d]
def dA{size bytes:Nat}{s s' x x':Aa}{k:Aa->IT}(e:s=s')(d:x=x'):IT.FC size bytes s x k=IT.FC size bytes s' x' k:=by rw[e,d]
def oC{o:qQ}{args args':List Aa}{k:Aa->IT}(e:args=args'):IT.mem o args k=IT.mem o args' k:=by rw[e]
def UT{size bytes:Nat}{s s' x x':Aa}{k:Aa->IT}(e:s=s')(d:x=x'):IT.FD size bytes s x k=IT.FD size bytes s' x' k:=by rw[e,d]
def Zh{off:Nat}{p p':Aa}{k:IT}(e:p=p'):IT.HJ off p k=IT.HJ off p' k:=by rw[e]
def TG{s s':Aa}{k:Aa->IT}(e:s=s'):IT.ES s k=IT.ES s' k:=by rw[e]
def dB{m m' key key' v v':Aa}{k:IT}(e:m=m')(f:key=key')(d:v=v'):IT.Js m key v k=IT.Js m' key' v' k:=by rw[e,f,d]
def dC{z:Aa}{ok:Bool}{m m' key key':Aa}{k:Aa->IT}(e:m=m')(d:key=key'):IT.Ly z ok m key k=IT.Ly z ok m' key' k:=by rw[e,d]
attribute [congr] n7 cV be tO Zb oA cW Zc Zd cX Ze Zf cY cZ oB Zh dA UT oC Zg TG dB dC
attribute [simp] Nk Za NV Mn TB Dk VS Tz TA RC LP TC RD RE VU RF TD Oo VV RG Nl OP TE TF Nn Ep
section
variable{k:IntKind}{a b:Int}{s t:Au}
@[simp] theorem qp:Ax (.int .eql) [.int k a,.int k b]=some (.bool (decide (a=b))):=by cases k<;>rfl
@[simp] theorem qu:Ax (.int .neq) [.int k a,.int k b]=some (.bool (decide (a≠b))):=by
 have e:Ax (.int .neq) [.int k a,.int k b]=some (.bool (!(a==b))):=by cases k<;>rfl
 rw[e];by_cases h:a=b<;>simp[h]
@[simp] theorem qv:Ax (.int .lss) [.int k a,.int k b]=some (.bool (decide (a<b))):=by cases k<;>rfl
@[simp] theorem qw:Ax (.int .leq) [.int k a,.int k b]=some (.bool (decide (a<=b))):=by cases k<;>rfl
@[simp] theorem qx:Ax (.int .gtr) [.int k a,.int k b]=some (.bool (decide (b<a))):=by cases k<;>rfl
@[simp] theorem qy:Ax (.int .geq) [.int k a,.int k b]=some (.bool (decide (b<=a))):=by cases k<;>rfl
def dD:Ax (.int .add) [.int k a,.int k b]=some (.int k (k.wrap (a+b))):=by cases k<;>rfl
def dE:Ax (.int .sub) [.int k a,.int k b]=some (.int k (k.wrap (a-b))):=by cases k<;>rfl
@[simp] theorem qz {b:Bool}:Ax (.un .not) [.bool b]=some (.bool (!b)):=rfl
@[simp] theorem iN:Ax (.str .eql) [.str s,.str t]=some (.bool (decide (s=t))):=by
 show some (Aa.bool (s==t))=_;congr 2
 by_cases h:s=t<;>simp[h]
@[simp] theorem bh:Ax (.str .neq) [.str s,.str t]=some (.bool (decide (s≠t))):=by
 show some (Aa.bool (!(s==t)))=_;congr 2
 by_cases h:s=t<;>simp[h]
@[simp] theorem bj:Ax (.len true) [.str s]=some (.int .i64 s.length):=rfl
@[simp] theorem aAn {i:Int}:Ax .Yo [.str s,.int k i]=if 0<=i then(s[i.toNat]?).map λb=> .int .u8 b.toNat else none:=rfl
@[simp] theorem Xj {off:Nat} {cs:List Aa}:Ax (.part off none) [.agg cs]=cs[off]?:=rfl
@[simp] theorem Xk {off n:Nat} {cs:List Aa}:Ax (.part off (some n)) [.agg cs]=if off+n<=cs.length then some (.agg ((cs.drop off).take n)) else none:=rfl
@[simp] theorem q_ {i:Nat} {vs:List Aa}:Ax (.ext i) [.tuple vs]=vs[i]?:=rfl
@[simp] theorem UU {p:Nat×Nat}:Ax .JL [.ptr (some p)]=some (.ptr (some p)):=rfl
@[simp] theorem TH {cs:List Aa}:Ax .JL [.B3 cs]=some (.B3 cs):=rfl
@[simp] theorem TI {f:FuncId} {a b:List Aa}:Ax .JL [.func (.func f) a b]=some (.func (.func f) a b):=rfl
@[simp] theorem UW {off:Nat} {cs:List Aa}:Ax (.FB off) [.B3 cs]=some (.B3 (cs.drop off)):=rfl
@[simp] theorem Xl {off id o:Nat}:Ax (.FB off) [.ptr (some (id,o))]=some (.ptr (some (id,o+off))):=rfl
@[simp] theorem oD {neg:Bool}:Ax (.UB neg) [.ptr none,.ptr none]=some (.bool (true != neg)):=rfl
@[simp] theorem oE {neg:Bool} {p:Nat×Nat}:Ax (.UB neg) [.ptr (some p),.ptr none]=some (.bool (false != neg)):=rfl
@[simp] theorem oF {neg:Bool} {p:Nat×Nat}:Ax (.UB neg) [.ptr none,.ptr (some p)]=some (.bool (false != neg)):=rfl
@[simp] theorem rj {neg a b:Bool}:Ax (.beq neg) [.bool a,.bool b]=some (.bool ((a==b) != neg)):=rfl
@[simp] theorem aAo {c:Bool} {a b:Aa}:Ax .pick [.bool c,a,b]=some (if c then a else b):=rfl
@[simp] theorem Xm {l:IntKind}:Ax (.conv l) [.int k a]=some (.int l (l.wrap a)):=rfl
@[simp] theorem tP {zero args:List Aa} {places:List (Nat×Nat)}:Ax (.B0 zero places) args=if places.length=args.length then(Bl zero (places.zip args)).map .agg else none:=rfl
@[simp] theorem Mo {neg:Bool} {ks:List FK} {x y:List Aa}:Ax (.geq neg ks) [.agg x,.agg y]=(De ks x y).map λe=> .bool (e != neg):=rfl
@[simp] theorem tQ:Ax (.JM false) [.int k a,.int k b]=some (.int k (if b<a then b else a)):=by simp[Ax]
@[simp] theorem Xn:Ax (.JM true) [.int k a,.int k b]=some (.int k (if a<b then b else a)):=by simp[Ax]
@[simp] theorem dF {h:Ah} {n:Option Nat} {cs:List Aa}:Bk h n (.B3 cs)=Ez cs 0 n:=rfl
@[simp] theorem E5 {off:Nat} {cs:List Aa}:Ez cs off none=cs[off]?:=rfl
@[simp] theorem KX {off n:Nat} {cs:List Aa}:Ez cs off (some n)=if off+n<=cs.length then some (.agg ((cs.drop off).take n)) else none:=rfl
@[simp] theorem wrap_i64 (h1: -9223372036854775808<=a) (h2:a<9223372036854775808):IntKind.i64.wrap a=a:=by rw[IntKind.wrap_i64];omega
end
def QH{cs:List Aa}:Aa.cells (.agg cs)=cs:=rfl
def VW{k:IntKind}{n:Int}:Aa.cells (.int k n)=[.int k n]:=rfl
def VX{s:Au}:Aa.cells (.str s)=[.str s]:=rfl
def TJ{b:Bool}:Aa.cells (.bool b)=[.bool b]:=rfl
def VY{p:Option (Nat×Nat)}:Aa.cells (.ptr p)=[.ptr p]:=rfl
def TK{p:List Aa}:Aa.cells (.B3 p)=[.B3 p]:=rfl
def RH:Aa.cells .slnil=[.slnil]:=rfl
def Zi{z:Nat}{r:List (List Aa)}:Aa.cells (.sl z r)=[.sl z r]:=rfl
def VZ{i o l z:Nat}:Aa.cells (.CI i o l z)=[.CI i o l z]:=rfl
def TL{f:Fn}{a b:List Aa}:Aa.cells (.func f a b)=[.func f a b]:=rfl
attribute [simp] Bl De I2 CA QH VW VX TJ VY TK RH Zi VZ TL
def Bn(z:Nat)(Af:List (List Aa))(v:Aa):Prop:=v= .sl z Af\/(v= .slnil/\Af=[])
section
variable{z:Nat}{Af:List (List Aa)}{v:Aa}
def Bn.mk:Bn z Af (.sl z Af):= .inl rfl
def Bn.nil:Bn z [] .slnil:= .inr ⟨rfl,rfl⟩
def Bn.cells(h:Bn z Af v):v.cells=[v]:=by rcases h with rfl|⟨rfl,rfl⟩<;>rfl
def Bn.len(h:Bn z Af v):Ax (.len false) [v]=some (.int .i64 Af.length):=by rcases h with rfl|⟨rfl,rfl⟩<;>rfl
def Bn.ER(h:Bn z Af v){k:IntKind}{n:Nat}(hn:n<Af.length):Ax (.ER z) [v,.int k (n:Int)]=some (.B3 Af[n]):=by
 rcases h with rfl|⟨rfl,rfl⟩
 .simp[Ax,elemOf,hn]
 .simp at hn
end
end Go.Am
end
section
namespace Go.Am
open Go
section
variable{C:Fo}{Q:Iw}{h:Ah}
def Zj{key:Nat}{vs:List Aa}{body:List Aa->IT}{k:Fc->List Aa->IT}
  (hw:W C (body vs) (λx ø h1=>(x= .normal/\W C (.loop key ø body k) Q h1)\/(x≠ .normal/\W C (k x ø) Q h1)) h):W C (.loop key vs body k) Q h:=by
 obtain⟨m,x,ø,h1,hr,Gq⟩:=hw.succ;rcases Gq with⟨rfl,hw⟩|⟨hx,hw⟩
 .obtain⟨m',x',GJ,h',F6,q⟩:=hw;refine CD ⟨max m m',x',GJ,h',?_,q⟩;have e:=IT.I4 (λt h r=>IT.HA (fn:=BY C) (HQ m m')) _ _ _ hr;have d:=IT.HA (Hi m m') F6;simp only[IT.step];simp only[Fo.run] at*;rw[e];exact d
 .obtain⟨m',x',GJ,h',F6,q⟩:=hw.succ;refine CD ⟨max m m',x',GJ,h',?_,q⟩;have e:=IT.I4 (λt h r=>IT.HA (fn:=BY C) (HQ m m')) _ _ _ hr;have d:=IT.I4 (λt h r=>IT.HA (fn:=BY C) (Hi m m')) _ _ _ F6;simp only[IT.step];simp only[Fo.run] at*;rw[e];cases x<;>first|exact absurd rfl hx|exact d
def A7{U:Type}(C:Fo)(enc:U->List Aa)(Dr:U->Ah->Prop)(O:U->Nat)(k:Fc->List Aa->IT)(Q:Iw)(s:U):Iw:=
 λx vs h1=>(x= .normal/\∃s',vs=enc s'/\Dr s' h1/\O s'<O s)\/(x≠ .normal/\W C (k x vs) Q h1)
variable{U:Type}{enc:U->List Aa}{Dr:U->Ah->Prop}{O:U->Nat}{k:Fc->List Aa->IT}{s:U}{vs:List Aa}
def A7.next(s':U)(e:vs=enc s')(hi:Dr s' h)(hl:O s'<O s):A7 C enc Dr O k Q s .normal vs h:= .inl ⟨rfl,s',e,hi,hl⟩
def UX{i:Nat}:A7 C enc Dr O k Q s (.exit i) vs h↔W C (k (.exit i) vs) Q h:=by simp[A7]
def Xo:A7 C enc Dr O k Q s .ret vs h↔W C (k .ret vs) Q h:=by simp[A7]
def BF{key:Nat}{init:List Aa}{body:List Aa->IT}(enc:U->List Aa)(Dr:U->Ah->Prop)(O:U->Nat)(s0:U)(h0:init=enc s0)(hi:Dr s0 h)
  (round:∀s h,Dr s h->W C (body (enc s)) (A7 C enc Dr O k Q s) h):W C (.loop key init body k) Q h:=by
 subst h0;have key:∀n s h,O s=n->Dr s h->W C (.loop key (enc s) body k) Q h:=by
  intro n;induction n using Nat.strongRecOn with
  |_ n ih=>
   intro s h hn hI;refine Zj (W.mono (round s h hI) ?_);rintro x vs h1 (⟨rfl,s',rfl,sB,hl⟩|⟨hx,hw⟩);.exact .inl ⟨rfl,ih _ (hn▸hl) s' h1 rfl sB⟩
   .exact .inr ⟨hx,hw⟩
 exact key _ s0 h rfl hi
end
section
variable{k l:IntKind}{s:Au}
def Cu{n:Nat}(hn:n<9223372036854775807):Ax (.int .add) [.int .i64 (n:Int),.int .i64 1]=some (.int .i64 ((n+1:Nat):Int)):=by rw[dD,wrap_i64 Ab Ab];rfl
def Ln{n:Nat}(h0:0<n)(hn:n<9223372036854775807):Ax (.int .sub) [.int .i64 (n:Int),.int .i64 1]=some (.int .i64 ((n-1:Nat):Int)):=by rw[dE,wrap_i64 Ab Ab];congr 2;omega
end
section
variable{z b:Nat}{r r2:List (List Aa)}{row:List Aa}{v v2:Aa}
def Bn.ù(h:Bn z r v)(hb:(r.length+1)*b<=AN):Ax (.append z b) [v,.sl z [row]]=some (.sl z (r++[row])):=by
 rcases h with rfl|⟨rfl,rfl⟩
 .simp[Ax,Gw,C0,hb]
 .have:1*b<=AN:=by simpa using hb
  simp only[DZ] at this;simp[Ax,Gw,C0,this]
def Bn.Ja(h:Bn z r v)(h2:Bn z r2 v2)(hb:(r.length+r2.length)*b<=AN):∃u,Ax (.append z b) [v,v2]=some u/\Bn z (r++r2) u:=by
 have hnil:∃u,C0 z b v []=some u/\Bn z (r++[]) u:=by
  rcases h with rfl|⟨rfl,rfl⟩
  .exact⟨.sl z r,by simp[C0],by rw[Bi];exact .mk⟩
  .exact⟨_,rfl,.nil⟩
 rcases h2 with rfl|⟨rfl,rfl⟩
 .cases r2 with
  |nil=>obtain⟨u,e,hu⟩:=hnil;exact⟨u,by simpa[Ax,Gw] using e,hu⟩
  |cons x l=>
   refine⟨.sl z (r++x::l),?_,.mk⟩;rcases h with rfl|⟨rfl,rfl⟩
   .simp only[Ax,Gw,BE,C0];rw[Ad ⟨trivial,hb⟩]
   .simp only[Ax,Gw,BE,C0];rw[Ad (by simpa using hb)];rfl
 .obtain⟨u,e,hu⟩:=hnil;exact⟨u,by simpa[Ax,Gw] using e,hu⟩
def Bn.SC(h:Bn z r v){hp:Ah}:Lf hp v=some (hp,v):=by rcases h with rfl|⟨rfl,rfl⟩<;>rfl
def TM(s:Au):KO (CG s)=some s:=by
 induction s with
 |nil=>rfl
 |cons c s ih=>have e:CG (c::s)=[.int .u8 c.toNat]::CG s:=rfl;rw[e,KO,ih];simp
def Bn.UF{s:Au}(h:Bn 1 (CG s) v):Ax .UF [v]=some (.str s):=by
 rcases h with rfl|⟨rfl,h⟩
 .simp[Ax,Wt,TM]
 .have e:s=[]:=by simpa[CG] using h
  subst e;rfl
end
@[simp] theorem iO {z:Nat} {args:List Aa}:Ax (.Cb z) args=if args.all (λa=>a.cells.length==z)&&decide (args.length*z<=16777216) then some (.sl z (args.map (·.cells))) else none:=rfl
def PH{a:Aa}{z:Nat}(h:a.cells.length=z)(hz:z<=16777216):Ax (.Cb z) [a]=some (.sl z [a.cells]):=by simp[h,hz]
def wrap_u8{a:Int}(h:0<=a/\a<=255):IntKind.u8.wrap a=a:=IntWalk.u8_in a h
def tR{a:Int}(h: -2147483648<=a/\a<=2147483647):IntKind.i32.wrap a=a:=IntWalk.i32_in a h
def Aj{C:Fo}{f:FuncId}{args:List Aa}{h h':Ah}{r:Aa}:Co C f args h r h'↔W C (BY C f args) (λx vs h1=>x= .ret/\vs=[r]/\h1=h') h:=Iff.rfl
abbrev IZ(C:Fo)(f:FuncId)(t:Aa->IT):Prop:=∀a0,BY C f [a0]=t a0
abbrev Gl(C:Fo)(f:FuncId)(t:Aa->Aa->IT):Prop:=∀a0 a1,BY C f [a0,a1]=t a0 a1
abbrev QI(C:Fo)(f:FuncId)(t:Aa->Aa->Aa->IT):Prop:=∀a0 a1 a2,BY C f [a0,a1,a2]=t a0 a1 a2
abbrev ú(C:Fo)(f:FuncId)(t:Aa->Aa->Aa->Aa->IT):Prop:=∀a0 a1 a2 a3,BY C f [a0,a1,a2,a3]=t a0 a1 a2 a3
abbrev Tq5(C:Fo)(f:FuncId)(t:Aa->Aa->Aa->Aa->Aa->IT):Prop:=∀a0 a1 a2 a3 a4,BY C f [a0,a1,a2,a3,a4]=t a0 a1 a2 a3 a4
def IT.fa(p:Aa)(k:Nat)(K:Aa->Aa->IT):IT:= .op .JL [p] λa=> .op (.FB k) [a] λb=>K a b
def IT.CC(p:Aa)(k:Nat)(K:Aa->Aa->Aa->IT):IT:= .op .JL [p] λa=> .op (.FB k) [a] λb=> .load none b λc=>K a b c
def IT.fl(p:Aa)(k:Nat)(K:Aa->Aa->IT):IT:= .op (.FB k) [p] λa=> .load none a λb=>K a b
def nx(A R:List Aa->IT):Fc->List Aa->IT:=λx c=>match x with
 | .normal=>A c
 | .exit _=> .fail
 | .ret=>R c
def lx(k:Nat)(A R:List Aa->IT):Fc->List Aa->IT:=λx c=>match x with
 | .normal=> .fail
 | .exit i=>if i=k then A c else .fail
 | .ret=>R c
section
variable{C:Fo}{Q:Iw}{h:Ah}{p:Aa}{k:Nat}{A R:List Aa->IT}{c:List Aa}
def aBW{K:Aa->Aa->IT}:W C (IT.fa p k K) Q h=W C (.op .JL [p] λa=> .op (.FB k) [a] λb=>K a b) Q h:=rfl
def û{K:Aa->Aa->Aa->IT}:W C (IT.CC p k K) Q h=W C (.op .JL [p] λa=> .op (.FB k) [a] λb=> .load none b λc=>K a b c) Q h:=rfl
def aBX{K:Aa->Aa->IT}:W C (IT.fl p k K) Q h=W C (.op (.FB k) [p] λa=> .load none a λb=>K a b) Q h:=rfl
def aBY:nx A R .normal c=A c:=rfl
def aBZ:nx A R .ret c=R c:=rfl
def aB0:lx k A R (.exit k) c=A c:=Ad rfl
def aB1:lx k A R .ret c=R c:=rfl
end
def LQ:Au->Au->List Au
 |cur,[]=>[cur]
 |cur,c::r=>if c=32 then cur::LQ [] r else LQ (cur++[c]) r
def PI:List Au:=LQ [] [97,100,100,114,101,115,115,32,97,112,112,108,101,116,32,97,114,101,97,32,97,114,116,105,99,108,101,32,97,115,105,100,101,32,98,97,115,101,32,98,97,115,101,102,111,110,116,32,98,103,115,111,117,110,100,32,98,108,111,99,107,113,117,111,116,101,32,98,111,100,121,32,98,114,32,98,117,116,116,111,110,32,99,97,112,116,105,111,110,32,99,101,110,116,101,114,32,99,111,108,32,99,111,108,103,114,111,117,112,32,100,100,32,100,101,116,97,105,108,115,32,100,105,114,32,100,105,118,32,100,108,32,100,116,32,101,109,98,101,100,32,102,105,101,108,100,115,101,116,32,102,105,103,99,97,112,116,105,111,110,32,102,105,103,117,114,101,32,102,111,111,116,101,114,32,102,111,114,109,32,102,114,97,109,101,32,102,114,97,109,101,115,101,116,32,104,49,32,104,50,32,104,51,32,104,52,32,104,53,32,104,54,32,104,101,97,100,32,104,101,97,100,101,114,32,104,103,114,111,117,112,32,104,114,32,104,116,109,108,32,105,102,114,97,109,101,32,105,109,103,32,105,110,112,117,116,32,107,101,121,103,101,110,32,108,105,32,108,105,110,107,32,108,105,115,116,105,110,103,32,109,97,105,110,32,109,97,114,113,117,101,101,32,109,101,110,117,32,109,101,116,97,32,110,97,118,32,110,111,101,109,98,101,100,32,110,111,102,114,97,109,101,115,32,110,111,115,99,114,105,112,116,32,111,98,106,101,99,116,32,111,108,32,112,32,112,97,114,97,109,32,112,108,97,105,110,116,101,120,116,32,112,114,101,32,115,99,114,105,112,116,32,115,101,97,114,99,104,32,115,101,99,116,105,111,110,32,115,101,108,101,99,116,32,115,111,117,114,99,101,32,115,116,121,108,101,32,115,117,109,109,97,114,121,32,116,97,98,108,101,32,116,98,111,100,121,32,116,100,32,116,101,109,112,108,97,116,101,32,116,101,120,116,97,114,101,97,32,116,102,111,111,116,32,116,104,32,116,104,101,97,100,32,116,105,116,108,101,32,116,114,32,116,114,97,99,107,32,117,108,32,119,98,114,32,120,109,112]
def swv(s:Aa)(t e:IT):List (List UInt8)->IT
 |[]=>e
 |c::cs=>.op (.str .eql) [s,.str c] λv=>.AM v t (swv s t e cs)
abbrev IT.rr(l:List Aa):IT:=.ret .ret l
abbrev IT.rn(l:List Aa):IT:=.ret .normal l
abbrev IT.rx(n:Nat)(l:List Aa):IT:=.ret (.exit n) l
abbrev IT.ea(n:Nat)(l:List Aa)(k:Aa->IT):IT:=.op (.ER n) l k
abbrev IT.ld(p:Aa)(k:Aa->IT):IT:=.load none p k
abbrev IT.ie(l:List Aa)(k:Aa->IT):IT:=.op (.int .eql) l k
abbrev IT.iq(l:List Aa)(k:Aa->IT):IT:=.op (.int .neq) l k
abbrev IT.il(l:List Aa)(k:Aa->IT):IT:=.op (.int .lss) l k
abbrev IT.ig(l:List Aa)(k:Aa->IT):IT:=.op (.int .gtr) l k
abbrev IT.ia(l:List Aa)(k:Aa->IT):IT:=.op (.int .add) l k
abbrev IT.ib(l:List Aa)(k:Aa->IT):IT:=.op (.int .sub) l k
abbrev IT.ih(l:List Aa)(k:Aa->IT):IT:=.op (.int .geq) l k
abbrev IT.ik(l:List Aa)(k:Aa->IT):IT:=.op (.int .leq) l k
abbrev IT.se(l:List Aa)(k:Aa->IT):IT:=.op (.str .eql) l k
abbrev IT.ln(l:List Aa)(k:Aa->IT):IT:=.op (.len false) l k
abbrev IT.lt(l:List Aa)(k:Aa->IT):IT:=.op (.len true) l k
abbrev IT.nt(l:List Aa)(k:Aa->IT):IT:=.op (.un .not) l k
abbrev IT.ca(f:Nat)(l:List Aa)(k:Aa->IT):IT:=.call f l k
abbrev i0:Aa:=I 0
abbrev i1:Aa:=I 1
abbrev tu:Aa:=.tuple []
abbrev pn:Aa:=.ptr none
def aO(c:List Aa):Aa:=.agg [g c 0,g c 1,g c 2,g c 3,g c 4,g c 5,g c 6,g c 7,g c 8,g c 9,g c 10,g c 11,g c 12]
def a13_e{c:List Aa}:aO c=.agg [g c 0,g c 1,g c 2,g c 3,g c 4,g c 5,g c 6,g c 7,g c 8,g c 9,g c 10,g c 11,g c 12]:=rfl
def js(c:List Aa):Aa:=.agg [g c 0,g c 1,g c 2,g c 3,g c 4,g c 5,g c 6,g c 7,g c 8,g c 9,g c 10,g c 11]
def a12_e{c:List Aa}:js c=.agg [g c 0,g c 1,g c 2,g c 3,g c 4,g c 5,g c 6,g c 7,g c 8,g c 9,g c 10,g c 11]:=rfl
def a9(c:List Aa):Aa:=.agg [g c 0,g c 1,g c 2,g c 3,g c 4,g c 5,g c 6,g c 7,g c 8]
def a9_e{c:List Aa}:a9 c=.agg [g c 0,g c 1,g c 2,g c 3,g c 4,g c 5,g c 6,g c 7,g c 8]:=rfl
def a6(c:List Aa):Aa:=.agg [g c 0,g c 1,g c 2,g c 3,g c 4,g c 5]
def a6_e{c:List Aa}:a6 c=.agg [g c 0,g c 1,g c 2,g c 3,g c 4,g c 5]:=rfl
def a4(c:List Aa):Aa:=.agg [g c 0,g c 1,g c 2,g c 3]
def a4_e{c:List Aa}:a4 c=.agg [g c 0,g c 1,g c 2,g c 3]:=rfl
def a3(c:List Aa):Aa:=.agg [g c 0,g c 1,g c 2]
def a3_e{c:List Aa}:a3 c=.agg [g c 0,g c 1,g c 2]:=rfl
def ai{a b:Prop}(x:a)(y:b):a/\b:=⟨x,y⟩
def Cn:=ai @a13_e (ai @a12_e (ai @a9_e (ai @a6_e (ai @a4_e (ai @a3_e (ai @aBW (ai @û (ai @aBX (ai @aBY (ai @aBZ (ai @aB0 (ai @aB1 (ai @Nk (ai @Za (ai @NV (ai @Mn (ai @TB (ai @VS (ai @Tz (ai @TA (ai @RC (ai @LP (ai @TC (ai @RD (ai @RE (ai @VU (ai @RF (ai @TD (ai @Oo (ai @VV (ai @RG (ai @Nl (ai @OP (ai @TE (ai @TF (ai @Nn (ai @Ep (ai @qp (ai @qu (ai @qv (ai @qw (ai @qx (ai @qy (ai @qz (ai @iN (ai @bh (ai @bj (ai @Xj (ai @Xk (ai @q_ (ai @UU (ai @TH (ai @TI (ai @UW (ai @Xl (ai @oD (ai @oE (ai @oF (ai @rj (ai @tP (ai @dF (ai @E5 (ai @KX (ai @List.getD_cons_zero.{0} (ai @aA1.{0} (ai @J1.{0} (ai @Qf.{0} (ai @KG.{0} (ai @List.drop_succ_cons.{0} (ai @List.drop_nil.{0} (ai @ND.{0} (ai @Vg.{0} (ai @AO.{0} (ai @Bq.{0} (ai @Cl.{0} (ai @Bt.{0} (ai @aEu.{0,0} (ai @List.zip_nil_right.{0,0} (ai @BO.{0,0} (ai @Option.map_none.{0,0} (ai @By (ai @QH (ai @VW (ai @VX (ai @TJ (ai @VY (ai @TK (ai @RH (ai @Zi (ai @VZ (ai @TL (ai @aG (ai @Hl (ai @IP (ai @BE.{1} (ai @EX.{1} (ai @UX (@Xo))))))))))))))))))))))))))))))))))))))))))))))))))))))))))))))))))))))))))))))))))))))))))))))))))
def dG:=ai @GF.{0} (ai @beq_self_eq_true.{0} (ai @O4 (ai @Bool.bne_false (ai @Ey (ai @C2 (ai @AD (ai @AF (ai @AK (ai @AG (ai @Bb (ai @Nat.zero_lt_succ (ai @BO.{0,0} (@List.take_nil.{0})))))))))))))
def abS:=ai Cn dG
def aaS:type_of%@AA.{0}:=@AA.{0}
def Yk:=ai @CR (ai @Ck (ai @Bool.and_true (ai @Bool.true_and (ai @Bool.and_false (ai @Bool.false_and (ai @Bool.or_true (ai @yz (ai @gi (ai @O3 (ai @Lt.{0} (ai @aEz.{0} (ai @Option.getD_none.{0} (ai @Option.isSome_none.{0} (ai @BE.{1} (ai @EX.{1} (ai @Dd (ai @Hl (ai @mc (ai @IP (ai @me (ai @O5 (@CX))))))))))))))))))))))
abbrev Pt(i o:Nat):Aa:=.ptr (some (i,o))
end Go.Am
end
