/- Lemmas -/
import Derived.Test.YtbnogamdhadfcaaGreatDoorU1
import Derived.IntWalk
set_option linter.unusedVariables false
set_option linter.unusedSimpArgs false
section
namespace Go.Am
open Go
section
variable{C:FI}{Q:Post}{h:Ae}
theorem RK{x:EL}{vs:List Aa}:W C (.ret x vs) Q h↔Q x vs h:=by refine⟨λhw=>?_,aDn⟩;obtain⟨n,x',Hi,h',hr,q⟩:=hw.succ;simp only[IT.step,BC,KS] at hr;obtain⟨rfl,rfl,rfl⟩:=hr;exact q
theorem PS:W C .fail Q h↔False:=by refine⟨λhw=>?_,λh=>h.elim⟩;obtain⟨n,x',Hi,h',hr,q⟩:=hw.succ;simp[IT.step] at hr
def Xs{α:Type}(o:Option α)(f:α->Prop):Prop:=∃v,o=some v/\f v
theorem rB{α:Type}{o o':Option α}{f:α->Prop}(h:o=o'):Xs o f=Xs o' f:=by rw[h]
theorem J6{α:Type}{v:α}{f:α->Prop}:Xs (some v) f=f v:=propext (by
 constructor;·rintro⟨_,e,h⟩;cases e;exact h
 .intro h;exact⟨v,rfl,h⟩)
theorem U1{α:Type}{f:α->Prop}:Xs (none:Option α) f=False:=propext (by
 constructor;·rintro⟨_,e,_⟩;cases e
 .exact False.elim)
theorem QL{o:We}{args:List Aa}{k:Aa->IT}:W C (.op o args k) Q h↔Xs (Aw o args) λv=>W C (k v) Q h:=by
 refine⟨λhw=>?_,λ⟨v,hv,hw⟩=>aI8 hv hw⟩;obtain⟨n,x',Hi,h',hr,q⟩:=hw.succ;simp only[IT.step] at hr;split at hr;·rename_i v hv;exact⟨v,hv,CL ⟨n,x',Hi,h',hr,q⟩⟩
 .cases hr
theorem N1{n:Nat}{v:Aa}{k:List Aa->IT}:W C (.cells n v k) Q h↔Xs (if v.cells.length=n then some v.cells else none) λl=>W C (k l) Q h:=by
 constructor
 .intro hw;obtain⟨m,x',Hi,h',hr,q⟩:=hw.succ;simp only[IT.step] at hr;split at hr;·rename_i hv;exact⟨_,if_pos hv,CL ⟨m,x',Hi,h',hr,q⟩⟩
  .cases hr
 .rintro⟨l,e,hw⟩;split at e;·rename_i hv;cases e;exact du hv hw
  .cases e
def WE(v:Aa)(p q:Prop):Prop:=(v= .bool true/\p)\/(v= .bool false/\q)
theorem gD{v v':Aa}{p q:Prop}(h:v=v'):WE v p q=WE v' p q:=by rw[h]
theorem KN{p q:Prop}:WE (.bool true) p q=p:=by simp[WE]
theorem MV{p q:Prop}:WE (.bool false) p q=q:=by simp[WE]
theorem Ct{b:Bool}{p q:Prop}:WE (.bool b) p q↔(b=true->p)/\(b=false->q):=by cases b<;>simp[WE]
theorem QM{c:Prop}[Decidable c]{p q:Prop}:WE (.bool (decide c)) p q↔(c->p)/\(¬c->q):=by rw[Ct];simp
theorem KO{c:Aa}{t e:IT}:W C (.AH c t e) Q h↔WE c (W C t Q h) (W C e Q h):=by
 constructor
 .intro hw;obtain⟨m,x',Hi,h',hr,q⟩:=hw.succ;simp only[IT.step] at hr;split at hr;·exact .inl ⟨rfl,CL ⟨m,x',Hi,h',hr,q⟩⟩
  .exact .inr ⟨rfl,CL ⟨m,x',Hi,h',hr,q⟩⟩
  .cases hr
 .rintro(⟨rfl,hw⟩|⟨rfl,hw⟩);·exact tq (λ_=>hw) λh=>by cases h
  .exact tq (λh=>by cases h) λ_=>hw
theorem PT{n:Option Nat}{p:Aa}{k:Aa->IT}:W C (.load n p k) Q h↔Xs (Bb h n p) λv=>W C (k v) Q h:=by
 refine⟨λhw=>?_,λ⟨v,hv,hw⟩=>yb hv hw⟩;obtain⟨m,x',Hi,h',hr,q⟩:=hw.succ;simp only[IT.step] at hr;split at hr;·rename_i v hv;exact⟨v,hv,CL ⟨m,x',Hi,h',hr,q⟩⟩
 .cases hr
theorem N2{n:Nat}{p v:Aa}{k:IT}:W C (.store n p v k) Q h↔Xs (Cv h n p v) λh1=>W C k Q h1:=by
 refine⟨λhw=>?_,λ⟨v,hv,hw⟩=>dv hv hw⟩;obtain⟨m,x',Hi,h',hr,q⟩:=hw.succ;simp only[IT.step] at hr;split at hr;·rename_i h1 hv;exact⟨h1,hv,CL ⟨m,x',Hi,h',hr,q⟩⟩
 .cases hr
theorem N3{n:Nat}{v:Aa}{k:Aa->IT}:W C (.alloc n v k) Q h↔Xs (if v.cells.length=n then some v.cells else none) λl=>W C (k (.ptr (some (h.length,0)))) Q (h++[.cells l]):=by
 constructor
 .intro hw;obtain⟨m,x',Hi,h',hr,q⟩:=hw.succ;simp only[IT.step,X0] at hr;by_cases hv:v.cells.length=n;·rw[if_pos hv] at hr;exact⟨_,if_pos hv,CL ⟨m,x',Hi,h',hr,q⟩⟩
  .rw[if_neg hv] at hr;cases hr
 .rintro⟨l,e,hw⟩;split at e;·rename_i hv;cases e;exact dw hv hw
  .cases e
theorem RL{u:Aa}{k:Aa->IT}:W C (.KU u k) Q h↔Xs (Kn h u) λx=>W C (k x.2) Q x.1:=by
 refine⟨λhw=>?_,λ⟨(h1,v),hv,hw⟩=>aDo hv hw⟩;obtain⟨m,x',Hi,h',hr,q⟩:=hw.succ;simp only[IT.step] at hr;split at hr;·rename_i h1 v hv;exact⟨(h1,v),hv,CL ⟨m,x',Hi,h',hr,q⟩⟩
 .cases hr
theorem N4{off:Nat}{p:Aa}{k:IT}:W C (.Hu off p k) Q h↔Xs (KV h off p) λh1=>W C k Q h1:=by
 refine⟨λhw=>?_,λ⟨h1,hv,hw⟩=>dy hv hw⟩;obtain⟨m,x',Hi,h',hr,q⟩:=hw.succ;simp only[IT.step] at hr;split at hr;·rename_i h1 hv;exact⟨h1,hv,CL ⟨m,x',Hi,h',hr,q⟩⟩
 .cases hr
theorem N5{size bytes:Nat}{s x:Aa}{k:Aa->IT}:W C (.Ht size bytes s x k) Q h↔Xs (Jt h size bytes s x) λx=>W C (k x.2) Q x.1:=by
 refine⟨λhw=>?_,λ⟨(h1,v),hv,hw⟩=>dx hv hw⟩;obtain⟨m,x',Hi,h',hr,q⟩:=hw.succ;simp only[IT.step] at hr;split at hr;·rename_i h1 v hv;exact⟨(h1,v),hv,CL ⟨m,x',Hi,h',hr,q⟩⟩
 .cases hr
theorem PU{size bytes:Nat}{s x:Aa}{k:Aa->IT}:W C (.Ft size bytes s x k) Q h↔Xs (Fo h size bytes s x) λx=>W C (k x.2) Q x.1:=by
 refine⟨λhw=>?_,λ⟨(h1,v),hv,hw⟩=>yh hv hw⟩;obtain⟨m,x,Hi,h',hr,q⟩:=hw.succ;simp only[IT.step] at hr;split at hr;·rename_i h1 v hv;exact⟨(h1,v),hv,CL ⟨m,x,Hi,h',hr,q⟩⟩
 .cases hr
theorem LV{size bytes:Nat}{s x:Aa}{k:Aa->IT}:W C (.FY size bytes s x k) Q h↔Xs (O7 h size bytes s x) λv=>W C (k v) Q h:=by
 refine⟨λhw=>?_,λ⟨v,hv,hw⟩=>p9 hv hw⟩;obtain⟨m,x,Hi,h',hr,q⟩:=hw.succ;simp only[IT.step] at hr;split at hr;·rename_i v hv;exact⟨v,hv,CL ⟨m,x,Hi,h',hr,q⟩⟩
 .cases hr
theorem RM{o:uD}{args:List Aa}{k:Aa->IT}:W C (.mem o args k) Q h↔Xs (Ep o h args) λx=>W C (k x.2) Q x.1:=by
 refine⟨λhw=>?_,λ⟨(h1,v),hv,hw⟩=>aDp hv hw⟩;obtain⟨n,x,vs,h',hr,q⟩:=hw.succ;simp only[IT.step] at hr;split at hr;·rename_i h1 v hv;exact⟨(h1,v),hv,CL ⟨n,x,vs,h',hr,q⟩⟩
 .cases hr
theorem K6{s:Aa}{k:Aa->IT}:W C (.E9 s k) Q h↔Xs (IL h s) λx=>W C (k x.2) Q x.1:=by
 refine⟨λhw=>?_,λ⟨(h1,v),hv,hw⟩=>eI hv hw⟩;obtain⟨m,x',Hi,h',hr,q⟩:=hw.succ;simp only[IT.step] at hr;split at hr;·rename_i h1 v hv;exact⟨(h1,v),hv,CL ⟨m,x',Hi,h',hr,q⟩⟩
 .cases hr
theorem MW{k:Aa->IT}:W C (.OY k) Q h↔W C (k (.map (some h.length))) Q (h++[.map []]):=by refine⟨λhw=>?_,yd⟩;obtain⟨m,x',Hi,h',hr,q⟩:=hw.succ;exact CL ⟨m,x',Hi,h',hr,q⟩
theorem PV{m key v:Aa}{k:IT}:W C (.JY m key v k) Q h↔Xs (Sq h m key v) λh1=>W C k Q h1:=by
 refine⟨λhw=>?_,λ⟨h1,hv,hw⟩=>ye hv hw⟩;obtain⟨m,x',Hi,h',hr,q⟩:=hw.succ;simp only[IT.step] at hr;split at hr;·rename_i h1 hv;exact⟨h1,hv,CL ⟨m,x',Hi,h',hr,q⟩⟩
 .cases hr
theorem PX{z:Aa}{ok:Bool}{m key:Aa}{k:Aa->IT}:W C (.L5 z ok m key k) Q h↔Xs (Sr h z ok m key) λv=>W C (k v) Q h:=by
 refine⟨λhw=>?_,λ⟨h1,hv,hw⟩=>yf hv hw⟩;obtain⟨m,x',Hi,h',hr,q⟩:=hw.succ;simp only[IT.step] at hr;split at hr;·rename_i h1 hv;exact⟨h1,hv,CL ⟨m,x',Hi,h',hr,q⟩⟩
 .cases hr
theorem LB{g:Aa}{args:List Aa}{k:Aa->IT}:W C (.FH g args k) Q h↔Xs (Dt g args) λx=>W C (.call x.1 x.2 k) Q h:=by
 constructor
 .intro hw;obtain⟨m,x',Hi,h',hr,q⟩:=hw.succ;simp only[IT.step] at hr;split at hr;·rename_i f as e;refine⟨(f,as),e,CL ⟨m,x',Hi,h',?_,q⟩⟩;simp only[IT.step];exact hr
  .cases hr
 .rintro⟨⟨f,as⟩,e,hw⟩;obtain⟨m,x',Hi,h',hr,q⟩:=hw.succ;refine CL ⟨m,x',Hi,h',?_,q⟩;simp only[IT.step,e] at hr⊢;exact hr
theorem AP{key:Nat}{t:IT}{k:EL->List Aa->IT}:W C (.Dg key t k) Q h↔W C t (λx vs h1=>W C (k x vs) Q h1) h:=by
 refine⟨λhw=>?_,yi⟩;obtain⟨m,x',Hi,h',hr,q⟩:=hw.succ;simp only[IT.step] at hr;split at hr;·rename_i x vs h1 e;exact CL ⟨m,_,_,_,e,CL ⟨m,x',Hi,h',hr,q⟩⟩
 .cases hr
def BE(C:FI)(f:FuncId)(args:List Aa)(h:Ae)(r:Aa)(h':Ae):Prop:=W C (B5 C f args) (λx vs h1=>x= .ret/\vs=[r]/\h1=h') h
theorem BE.ev{f:FuncId}{args:List Aa}{r:Aa}{h':Ae}(hr:BE C f args h r h'){R:Aa->Ae->Prop}(hR:R r h'):Ev C f args h R:=
 W.mono hr λ_ _ _ ⟨h1,h2,h3⟩=>⟨h1,r,h2,by rw[h3];exact hR⟩
theorem BE.call{f:FuncId}{args:List Aa}{r:Aa}{h':Ae}(hr:BE C f args h r h'){k:Aa->IT}:W C (.call f args k) Q h↔W C (k r) Q h':=by
 refine⟨λhw=>?_,λhw=>uN (hr.ev hw)⟩;obtain⟨n,x1,vs1,h1,e1,rfl,rfl,rfl⟩:=hr;obtain⟨m,x',Hi,h2,e2,q⟩:=hw.succ;simp only[IT.step] at e2;split at e2;·rename_i r2 h3 e3;simp only[FI.run] at e1 e3;have a1:=IT.Ij (NF n m) e1;have a2:=IT.Ij (My n m) e3;rw[a1] at a2;cases a2;exact CL ⟨m,x',Hi,h2,e2,q⟩
 .cases e2
def JE(C:FI)(f:FuncId)(args:List Aa)(r:Aa):Prop:=Ev C f args [] λx _=>x=r
theorem JE.Be{f:FuncId}{args:List Aa}{r:Aa}(hr:JE C f args r)(ha:args.all Aa.Lp=true)(hf:r.Lp=true){k:Aa->IT}:W C (.Be f args k) Q h↔W C (k r) Q h:=by
 refine⟨λhw=>?_,λhw=>dz ha (hr.mono λx _ e=>by rw[e];exact⟨hf,hw⟩)⟩;obtain⟨n,x1,vs1,h1,e1,rfl,y,rfl,rfl⟩:=hr;obtain⟨m,x',Hi,h2,e2,q⟩:=hw.succ;simp only[IT.step,ha,BN] at e2;simp only[FI.run] at e1 e2;have a1:=IT.Ij (NF n m) e1;cases hc:IT.run (B5 C) m (B5 C f args) [] with
 |none=>rw[hc] at e2;cases e2
 |some z=>have a2:=IT.Ij (My n m) hc;rw[a1] at a2;cases a2;rw[hc] at e2;simp only[hf,BN] at e2;exact CL ⟨m,x',Hi,h2,e2,q⟩
end
theorem ic{C:FI}{t t':IT}{Q:Post}{h h':Ae}(e:t=t')(e2:h=h'):W C t Q h=W C t' Q h':=by rw[e,e2]
theorem wU{o:We}{args args':List Aa}{k:Aa->IT}(e:args=args'):IT.op o args k=IT.op o args' k:=by rw[e]
theorem aY{n:Nat}{v v':Aa}{k:List Aa->IT}(e:v=v'):IT.cells n v k=IT.cells n v' k:=by rw[e]
theorem rC{v v':Aa}{s t:IT}(e:v=v'):IT.AH v s t=IT.AH v' s t:=by rw[e]
theorem gE{n:Option Nat}{v v':Aa}{k:Aa->IT}(e:v=v'):IT.load n v k=IT.load n v' k:=by rw[e]
theorem aZ{n:Nat}{p p' v v':Aa}{k:IT}(e1:p=p')(e:v=v'):IT.store n p v k=IT.store n p' v' k:=by rw[e,e1]
theorem bA{n:Nat}{v v':Aa}{k:Aa->IT}(e:v=v'):IT.alloc n v k=IT.alloc n v' k:=by rw[e]
theorem gF{f:FuncId}{args args':List Aa}{k:Aa->IT}(e:args=args'):IT.call f args k=IT.call f args' k:=by rw[e]
theorem bB{f:FuncId}{args args':List Aa}{k:Aa->IT}(e:args=args'):IT.Be f args k=IT.Be f args' k:=by rw[e]
theorem bC{f f':Aa}{args args':List Aa}{k:Aa->IT}(e1:f=f')(e:args=args'):IT.FH f args k=IT.FH f' args' k:=by rw[e,e1]
theorem gG{key:Nat}{i i':List Aa}{b:List Aa->IT}{k:EL->List Aa->IT}(e:i=i'):IT.loop key i b k=IT.loop key i' b k:=by rw[e]
theorem gH{key:Nat}{b:IT}{k:EL->List Aa->IT}:IT.Dg key b k=IT.Dg key b k:=rfl
theorem rD{v v':Aa}{k:Aa->IT}(e:v=v'):IT.KU v k=IT.KU v' k:=by rw[e]
theorem bD{size bytes:Nat}{s s' x x':Aa}{k:Aa->IT}(e:s=s')(e1:x=x'):IT.Ht size bytes s x k=IT.Ht size bytes s' x' k:=by rw[e,e1]
theorem gI{size bytes:Nat}{s s' x x':Aa}{k:Aa->IT}(e:s=s')(e1:x=x'):IT.Ft size bytes s x k=IT.Ft size bytes s' x' k:=by rw[e,e1]
theorem rE{o:uD}{args args':List Aa}{k:Aa->IT}(e:args=args'):IT.mem o args k=IT.mem o args' k:=by rw[e]
theorem WG{size bytes:Nat}{s s' x x':Aa}{k:Aa->IT}(e:s=s')(e1:x=x'):IT.FY size bytes s x k=IT.FY size bytes s' x' k:=by rw[e,e1]
theorem bE{off:Nat}{p p':Aa}{k:IT}(e:p=p'):IT.Hu off p k=IT.Hu off p' k:=by rw[e]
theorem U2{s s':Aa}{k:Aa->IT}(e:s=s'):IT.E9 s k=IT.E9 s' k:=by rw[e]
theorem gJ{m m' key key' v v':Aa}{k:IT}(e:m=m')(e1:key=key')(e2:v=v'):IT.JY m key v k=IT.JY m' key' v' k:=by rw[e,e1,e2]
theorem gK{z:Aa}{ok:Bool}{m m' key key':Aa}{k:Aa->IT}(e:m=m')(e1:key=key'):IT.L5 z ok m key k=IT.L5 z ok m' key' k:=by rw[e,e1]
attribute [congr] rB gD ic wU aY rC gE aZ bA gF bB bC gG gH rD bE gI WG rE bD U2 gJ gK
attribute [simp] J6 U1 KN MV QM Ct RK PS QL N1 KO PT N2 N3 RL N4 PU LV RM N5 K6 MW PV PX LB AP
section
variable{k:IntKind}{a b:Int}{s t:As}
@[simp] theorem wV:Aw (.int .eql) [.int k a,.int k b]=some (.bool (decide (a=b))):=by cases k<;>rfl
@[simp] theorem wW:Aw (.int .neq) [.int k a,.int k b]=some (.bool (decide (a≠b))):=by
 have e:Aw (.int .neq) [.int k a,.int k b]=some (.bool (!(a==b))):=by cases k<;>rfl
 rw[e];by_cases h:a=b<;>simp[h]
@[simp] theorem wX:Aw (.int .lss) [.int k a,.int k b]=some (.bool (decide (a<b))):=by cases k<;>rfl
@[simp] theorem wY:Aw (.int .leq) [.int k a,.int k b]=some (.bool (decide (a<=b))):=by cases k<;>rfl
@[simp] theorem wZ:Aw (.int .gtr) [.int k a,.int k b]=some (.bool (decide (b<a))):=by cases k<;>rfl
@[simp] theorem xA:Aw (.int .geq) [.int k a,.int k b]=some (.bool (decide (b<=a))):=by cases k<;>rfl
theorem Yx:Aw (.int .add) [.int k a,.int k b]=some (.int k (k.wrap (a+b))):=by cases k<;>rfl
theorem gL:Aw (.int .sub) [.int k a,.int k b]=some (.int k (k.wrap (a-b))):=by cases k<;>rfl
@[simp] theorem xB {b:Bool}:Aw (.un .not) [.bool b]=some (.bool (!b)):=rfl
@[simp] theorem Yy:Aw (.str .eql) [.str s,.str t]=some (.bool (decide (s=t))):=by
 show some (Aa.bool (s==t))=_;congr 2
 by_cases h:s=t<;>simp[h]
@[simp] theorem lJ:Aw (.str .neq) [.str s,.str t]=some (.bool (decide (s≠t))):=by
 show some (Aa.bool (!(s==t)))=_;congr 2
 by_cases h:s=t<;>simp[h]
@[simp] theorem lK:Aw (.len true) [.str s]=some (.int .i64 s.length):=rfl
@[simp] theorem aIv {i:Int}:Aw .Rv [.str s,.int k i]=if 0<=i then(s[i.toNat]?).map λb=> .int .u8 b.toNat else none:=rfl
@[simp] theorem QN {off:Nat} {cs:List Aa}:Aw (.part off none) [.agg cs]=cs[off]?:=rfl
@[simp] theorem QP {off n:Nat} {cs:List Aa}:Aw (.part off (some n)) [.agg cs]=if off+n<=cs.length then some (.agg ((cs.drop off).take n)) else none:=rfl
@[simp] theorem xC {i:Nat} {vs:List Aa}:Aw (.ext i) [.tuple vs]=vs[i]?:=rfl
@[simp] theorem Pl {p:Nat×Nat}:Aw .KT [.ptr (some p)]=some (.ptr (some p)):=rfl
@[simp] theorem N6 {cs:List Aa}:Aw .KT [.CA cs]=some (.CA cs):=rfl
@[simp] theorem N7 {f:FuncId} {a b:List Aa}:Aw .KT [.func (.func f) a b]=some (.func (.func f) a b):=rfl
@[simp] theorem Pm {off:Nat} {cs:List Aa}:Aw (.D8 off) [.CA cs]=some (.CA (cs.drop off)):=rfl
@[simp] theorem QQ {off id o:Nat}:Aw (.D8 off) [.ptr (some (id,o))]=some (.ptr (some (id,o+off))):=rfl
@[simp] theorem Xt {neg:Bool}:Aw (.Nr neg) [.ptr none,.ptr none]=some (.bool (true != neg)):=rfl
@[simp] theorem Xu {neg:Bool} {p:Nat×Nat}:Aw (.Nr neg) [.ptr (some p),.ptr none]=some (.bool (false != neg)):=rfl
@[simp] theorem Xv {neg:Bool} {p:Nat×Nat}:Aw (.Nr neg) [.ptr none,.ptr (some p)]=some (.bool (false != neg)):=rfl
@[simp] theorem xD {neg a b:Bool}:Aw (.beq neg) [.bool a,.bool b]=some (.bool ((a==b) != neg)):=rfl
@[simp] theorem aIw {c:Bool} {a b:Aa}:Aw .pick [.bool c,a,b]=some (if c then a else b):=rfl
@[simp] theorem TY {l:IntKind}:Aw (.conv l) [.int k a]=some (.int l (l.wrap a)):=rfl
@[simp] theorem bF {zero args:List Aa} {places:List (Nat×Nat)}:Aw (.Br zero places) args=if places.length=args.length then(AI zero (places.zip args)).map .agg else none:=rfl
@[simp] theorem PY {neg:Bool} {ks:List FK} {x y:List Aa}:Aw (.geq neg ks) [.agg x,.agg y]=(DC ks x y).map λe=> .bool (e != neg):=rfl
@[simp] theorem xE:Aw (.Kl false) [.int k a,.int k b]=some (.int k (if b<a then b else a)):=by simp[Aw]
@[simp] theorem Yz:Aw (.Kl true) [.int k a,.int k b]=some (.int k (if a<b then b else a)):=by simp[Aw]
@[simp] theorem U3 {h:Ae} {n:Option Nat} {cs:List Aa}:Bb h n (.CA cs)=EO cs 0 n:=rfl
@[simp] theorem Et {off:Nat} {cs:List Aa}:EO cs off none=cs[off]?:=rfl
@[simp] theorem J7 {off n:Nat} {cs:List Aa}:EO cs off (some n)=if off+n<=cs.length then some (.agg ((cs.drop off).take n)) else none:=rfl
@[simp] theorem wrap_i64 (h1: -9223372036854775808<=a) (h2:a<9223372036854775808):IntKind.i64.wrap a=a:=by rw[IntKind.wrap_i64];omega
end
theorem OG{cs:List Aa}:Aa.cells (.agg cs)=cs:=rfl
theorem RO{k:IntKind}{n:Int}:Aa.cells (.int k n)=[.int k n]:=rfl
theorem RP{s:As}:Aa.cells (.str s)=[.str s]:=rfl
theorem PZ{b:Bool}:Aa.cells (.bool b)=[.bool b]:=rfl
theorem RQ{p:Option (Nat×Nat)}:Aa.cells (.ptr p)=[.ptr p]:=rfl
theorem P0{p:List Aa}:Aa.cells (.CA p)=[.CA p]:=rfl
theorem N8:Aa.cells .slnil=[.slnil]:=rfl
theorem U4{z:Nat}{r:List (List Aa)}:Aa.cells (.sl z r)=[.sl z r]:=rfl
theorem RR{i o l z:Nat}:Aa.cells (.Cm i o l z)=[.Cm i o l z]:=rfl
theorem P1{f:Fn}{a b:List Aa}:Aa.cells (.func f a b)=[.func f a b]:=rfl
attribute [simp] AI DC Km Dt OG RO RP PZ RQ P0 N8 U4 RR P1
def AL(z:Nat)(Au:List (List Aa))(v:Aa):Prop:=v= .sl z Au\/(v= .slnil/\Au=[])
section
variable{z:Nat}{Au:List (List Aa)}{v:Aa}
theorem AL.mk:AL z Au (.sl z Au):= .inl rfl
theorem AL.nil:AL z [] .slnil:= .inr ⟨rfl,rfl⟩
theorem AL.cells(h:AL z Au v):v.cells=[v]:=by rcases h with rfl|⟨rfl,rfl⟩<;>rfl
theorem AL.len(h:AL z Au v):Aw (.len false) [v]=some (.int .i64 Au.length):=by rcases h with rfl|⟨rfl,rfl⟩<;>rfl
theorem AL.Fm(h:AL z Au v){k:IntKind}{n:Nat}(hn:n<Au.length):Aw (.Fm z) [v,.int k (n:Int)]=some (.CA Au[n]):=by
 rcases h with rfl|⟨rfl,rfl⟩
 .simp[Aw,elemOf,hn]
 .simp at hn
end
end Go.Am
end
section
namespace Go.Am
open Go
section
variable{C:FI}{Q:Post}{h:Ae}
theorem bG{key:Nat}{vs:List Aa}{body:List Aa->IT}{k:EL->List Aa->IT}
  (hw:W C (body vs) (λx vs1 h1=>(x= .normal/\W C (.loop key vs1 body k) Q h1)\/(x≠ .normal/\W C (k x vs1) Q h1)) h):W C (.loop key vs body k) Q h:=by
 obtain⟨m,x,vs1,h1,hr,Ie⟩:=hw.succ;rcases Ie with⟨rfl,hw⟩|⟨hx,hw⟩
 .obtain⟨m',x',Hi,h',Fy,q⟩:=hw;refine CL ⟨max m m',x',Hi,h',?_,q⟩;have e1:=IT.Jw (λt h r=>IT.Ij (fn:=B5 C) (NF m m')) _ _ _ hr;have e2:=IT.Ij (My m m') Fy;simp only[IT.step];simp only[FI.run] at*;rw[e1];exact e2
 .obtain⟨m',x',Hi,h',Fy,q⟩:=hw.succ;refine CL ⟨max m m',x',Hi,h',?_,q⟩;have e1:=IT.Jw (λt h r=>IT.Ij (fn:=B5 C) (NF m m')) _ _ _ hr;have e2:=IT.Jw (λt h r=>IT.Ij (fn:=B5 C) (My m m')) _ _ _ Fy;simp only[IT.step];simp only[FI.run] at*;rw[e1];cases x<;>first|exact absurd rfl hx|exact e2
def AF{σ:Type}(C:FI)(enc:σ->List Aa)(DD:σ->Ae->Prop)(μ:σ->Nat)(k:EL->List Aa->IT)(Q:Post)(s:σ):Post:=
 λx vs h1=>(x= .normal/\∃s',vs=enc s'/\DD s' h1/\μ s'<μ s)\/(x≠ .normal/\W C (k x vs) Q h1)
variable{σ:Type}{enc:σ->List Aa}{DD:σ->Ae->Prop}{μ:σ->Nat}{k:EL->List Aa->IT}{s:σ}{vs:List Aa}
theorem AF.next(s':σ)(e:vs=enc s')(hi:DD s' h)(hl:μ s'<μ s):AF C enc DD μ k Q s .normal vs h:= .inl ⟨rfl,s',e,hi,hl⟩
theorem Pn{i:Nat}:AF C enc DD μ k Q s (.exit i) vs h↔W C (k (.exit i) vs) Q h:=by simp[AF]
theorem QR:AF C enc DD μ k Q s .ret vs h↔W C (k .ret vs) Q h:=by simp[AF]
theorem A9{key:Nat}{init:List Aa}{body:List Aa->IT}(enc:σ->List Aa)(DD:σ->Ae->Prop)(μ:σ->Nat)(s0:σ)(h0:init=enc s0)(hi:DD s0 h)
  (round:∀s h,DD s h->W C (body (enc s)) (AF C enc DD μ k Q s) h):W C (.loop key init body k) Q h:=by
 subst h0;have key:∀n s h,μ s=n->DD s h->W C (.loop key (enc s) body k) Q h:=by
  intro n;induction n using Nat.strongRecOn with
  |_ n ih=>
   intro s h hn hI;refine bG (W.mono (round s h hI) ?_);rintro x vs h1 (⟨rfl,s',rfl,vN,hl⟩|⟨hx,hw⟩);·exact .inl ⟨rfl,ih _ (hn▸hl) s' h1 rfl vN⟩
   .exact .inr ⟨hx,hw⟩
 exact key _ s0 h rfl hi
end
section
variable{k l:IntKind}{s:As}
theorem LC{n:Nat}(hn:n<s.length):Aw .Rv [.str s,.int k (n:Int)]=some (.int .u8 (s[n].toNat:Int)):=by simp[hn]
theorem BG{n:Nat}(hn:n<9223372036854775807):Aw (.int .add) [.int .i64 (n:Int),.int .i64 1]=some (.int .i64 ((n+1:Nat):Int)):=by rw[Yx,wrap_i64 (by omega) (by omega)];rfl
theorem Hm{n:Nat}(h0:0<n)(hn:n<9223372036854775807):Aw (.int .sub) [.int .i64 (n:Int),.int .i64 1]=some (.int .i64 ((n-1:Nat):Int)):=by rw[gL,wrap_i64 (by omega) (by omega)];congr 2;omega
theorem MX{a b z:Nat}(Wj:a<=b)(hb:b<=s.length):Aw (.Hs z true true true) [.str s,.int k (a:Int),.int l (b:Int)]=some (.str ((s.take b).drop a)):=by
 have e1:EK (b:Int) s.length=some b:=by unfold EK;rw[if_pos (by omega)];rfl
 have e2:EK (a:Int) b=some a:=by unfold EK;rw[if_pos (by omega)];rfl
 simp[Aw,I4,DH,e1,e2]
end
section
variable{z b:Nat}{r r2:List (List Aa)}{row:List Aa}{v v2:Aa}
theorem AL.xF(h:AL z r v)(hb:(r.length+1)*b<=AS):Aw (.append z b) [v,.sl z [row]]=some (.sl z (r++[row])):=by
 rcases h with rfl|⟨rfl,rfl⟩
 .simp[Aw,HE,DN,hb]
 .have:1*b<=AS:=by simpa using hb
  simp only[Ey] at this;simp[Aw,HE,DN,this]
theorem AL.HB(h:AL z r v)(h2:AL z r2 v2)(hb:(r.length+r2.length)*b<=AS):∃u,Aw (.append z b) [v,v2]=some u/\AL z (r++r2) u:=by
 have hnil:∃u,DN z b v []=some u/\AL z (r++[]) u:=by
  rcases h with rfl|⟨rfl,rfl⟩
  .exact⟨.sl z r,by simp[DN],by rw[BB];exact .mk⟩
  .exact⟨_,rfl,.nil⟩
 rcases h2 with rfl|⟨rfl,rfl⟩
 .cases r2 with
  |nil=>obtain⟨u,e,hu⟩:=hnil;exact⟨u,by simpa[Aw,HE] using e,hu⟩
  |cons x l=>
   refine⟨.sl z (r++x::l),?_,.mk⟩;rcases h with rfl|⟨rfl,rfl⟩
   .simp only[Aw,HE,BN,DN];rw[if_pos ⟨trivial,hb⟩]
   .simp only[Aw,HE,BN,DN];rw[if_pos (by simpa using hb)];rfl
 .obtain⟨u,e,hu⟩:=hnil;exact⟨u,by simpa[Aw,HE] using e,hu⟩
theorem AL.KU(h:AL z r v){hp:Ae}:Kn hp v=some (hp,v):=by rcases h with rfl|⟨rfl,rfl⟩<;>rfl
theorem P2(s:As):Lr (BZ s)=some s:=by
 induction s with
 |nil=>rfl
 |cons c s ih=>have e:BZ (c::s)=[.int .u8 c.toNat]::BZ s:=rfl;rw[e,Lr,ih];simp
theorem AL.S7{s:As}(h:AL 1 (BZ s) v):Aw .S7 [v]=some (.str s):=by
 rcases h with rfl|⟨rfl,h⟩
 .simp[Aw,Uc,P2]
 .have e:s=[]:=by simpa[BZ] using h
  subst e;rfl
theorem Po(s t:As):BZ (s++t)=BZ s++BZ t:=by simp[BZ]
theorem WH(s:As):(BZ s).length=s.length:=by simp[BZ]
end
@[simp] theorem lL {z:Nat} {args:List Aa}:Aw (.By z) args=if args.all (λa=>a.cells.length==z)&&decide (args.length*z<=16777216) then some (.sl z (args.map (·.cells))) else none:=rfl
theorem K8{a:Aa}{z:Nat}(h:a.cells.length=z)(hz:z<=16777216):Aw (.By z) [a]=some (.sl z [a.cells]):=by simp[h,hz]
theorem wrap_u8{a:Int}(h:0<=a/\a<=255):IntKind.u8.wrap a=a:=IntWalk.u8_in a h
theorem xG{a:Int}(h: -2147483648<=a/\a<=2147483647):IntKind.i32.wrap a=a:=IntWalk.i32_in a h
theorem Ab{C:FI}{f:FuncId}{args:List Aa}{h h':Ae}{r:Aa}:BE C f args h r h'↔W C (B5 C f args) (λx vs h1=>x= .ret/\vs=[r]/\h1=h') h:=Iff.rfl
abbrev GP(C:FI)(f:FuncId)(t:Aa->IT):Prop:=∀a0,B5 C f [a0]=t a0
abbrev DO(C:FI)(f:FuncId)(t:Aa->Aa->IT):Prop:=∀a0 a1,B5 C f [a0,a1]=t a0 a1
abbrev LW(C:FI)(f:FuncId)(t:Aa->Aa->Aa->IT):Prop:=∀a0 a1 a2,B5 C f [a0,a1,a2]=t a0 a1 a2
abbrev df(C:FI)(f:FuncId)(t:Aa->Aa->Aa->Aa->IT):Prop:=∀a0 a1 a2 a3,B5 C f [a0,a1,a2,a3]=t a0 a1 a2 a3
abbrev Tq5(C:FI)(f:FuncId)(t:Aa->Aa->Aa->Aa->Aa->IT):Prop:=∀a0 a1 a2 a3 a4,B5 C f [a0,a1,a2,a3,a4]=t a0 a1 a2 a3 a4
def IT.fa(p:Aa)(k:Nat)(K:Aa->Aa->IT):IT:= .op .KT [p] λa=> .op (.D8 k) [a] λb=>K a b
def IT.BV(p:Aa)(k:Nat)(K:Aa->Aa->Aa->IT):IT:= .op .KT [p] λa=> .op (.D8 k) [a] λb=> .load none b λc=>K a b c
def IT.fl(p:Aa)(k:Nat)(K:Aa->Aa->IT):IT:= .op (.D8 k) [p] λa=> .load none a λb=>K a b
def nx(A R:List Aa->IT):EL->List Aa->IT:=λx c=>match x with
 | .normal=>A c
 | .exit _=> .fail
 | .ret=>R c
def lx(k:Nat)(A R:List Aa->IT):EL->List Aa->IT:=λx c=>match x with
 | .normal=> .fail
 | .exit i=>if i=k then A c else .fail
 | .ret=>R c
section
variable{C:FI}{Q:Post}{h:Ae}{p:Aa}{k:Nat}{A R:List Aa->IT}{c:List Aa}
theorem aEj{K:Aa->Aa->IT}:W C (IT.fa p k K) Q h=W C (.op .KT [p] λa=> .op (.D8 k) [a] λb=>K a b) Q h:=rfl
theorem uy{K:Aa->Aa->Aa->IT}:W C (IT.BV p k K) Q h=W C (.op .KT [p] λa=> .op (.D8 k) [a] λb=> .load none b λc=>K a b c) Q h:=rfl
theorem aEk{K:Aa->Aa->IT}:W C (IT.fl p k K) Q h=W C (.op (.D8 k) [p] λa=> .load none a λb=>K a b) Q h:=rfl
theorem aEl:nx A R .normal c=A c:=rfl
theorem aEm:nx A R .ret c=R c:=rfl
theorem aEn:lx k A R (.exit k) c=A c:=if_pos rfl
theorem aEo:lx k A R .ret c=R c:=rfl
end
def C4:As->As->List As
 |cur,[]=>[cur]
 |cur,c::r=>if c=32 then cur::C4 [] r else C4 (cur++[c]) r
def Mj:List As:=C4 [] aSE
def swv(s:Aa)(t e:IT):List (List UInt8)->IT
 |[]=>e
 |c::cs=>.op (.str .eql) [s,.str c] λv=>.AH v t (swv s t e cs)
abbrev IT.rr(l:List Aa):IT:=.ret .ret l
abbrev IT.rn(l:List Aa):IT:=.ret .normal l
abbrev IT.rx(n:Nat)(l:List Aa):IT:=.ret (.exit n) l
abbrev IT.ea(n:Nat)(l:List Aa)(k:Aa->IT):IT:=.op (.Fm n) l k
abbrev IT.ld(p:Aa)(k:Aa->IT):IT:=.load none p k
abbrev IT.ie(l:List Aa)(k:Aa->IT):IT:=.op (.int .eql) l k
abbrev IT.iq(l:List Aa)(k:Aa->IT):IT:=.op (.int .neq) l k
abbrev IT.il(l:List Aa)(k:Aa->IT):IT:=.op (.int .lss) l k
abbrev IT.ig(l:List Aa)(k:Aa->IT):IT:=.op (.int .gtr) l k
abbrev IT.ia(l:List Aa)(k:Aa->IT):IT:=.op (.int .add) l k
abbrev IT.ib(l:List Aa)(k:Aa->IT):IT:=.op (.int .sub) l k
abbrev IT.ih(l:List Aa)(k:Aa->IT):IT:=.op (.int .geq) l k
abbrev IT.ik(l:List Aa)(k:Aa->IT):IT:=.op (.int .leq) l k
abbrev IT.se(l:List Aa)(k:Aa->IT):IT:=.op (.str .eql) l k
abbrev IT.ln(l:List Aa)(k:Aa->IT):IT:=.op (.len false) l k
abbrev IT.lt(l:List Aa)(k:Aa->IT):IT:=.op (.len true) l k
abbrev IT.nt(l:List Aa)(k:Aa->IT):IT:=.op (.un .not) l k
abbrev i0:Aa:=I 0
abbrev i1:Aa:=I 1
abbrev tu:Aa:=.tuple []
abbrev pn:Aa:=.ptr none
def RS(c:List Aa):Aa:=.agg [g c 0,g c 1,g c 2,g c 3,g c 4,g c 5,g c 6,g c 7,g c 8,g c 9,g c 10,g c 11,g c 12]
theorem a13_e{c:List Aa}:RS c=.agg [g c 0,g c 1,g c 2,g c 3,g c 4,g c 5,g c 6,g c 7,g c 8,g c 9,g c 10,g c 11,g c 12]:=rfl
def tW(c:List Aa):Aa:=.agg [g c 0,g c 1,g c 2,g c 3,g c 4,g c 5,g c 6,g c 7,g c 8,g c 9,g c 10,g c 11]
theorem a12_e{c:List Aa}:tW c=.agg [g c 0,g c 1,g c 2,g c 3,g c 4,g c 5,g c 6,g c 7,g c 8,g c 9,g c 10,g c 11]:=rfl
def a9(c:List Aa):Aa:=.agg [g c 0,g c 1,g c 2,g c 3,g c 4,g c 5,g c 6,g c 7,g c 8]
theorem a9_e{c:List Aa}:a9 c=.agg [g c 0,g c 1,g c 2,g c 3,g c 4,g c 5,g c 6,g c 7,g c 8]:=rfl
def a6(c:List Aa):Aa:=.agg [g c 0,g c 1,g c 2,g c 3,g c 4,g c 5]
theorem a6_e{c:List Aa}:a6 c=.agg [g c 0,g c 1,g c 2,g c 3,g c 4,g c 5]:=rfl
def a4(c:List Aa):Aa:=.agg [g c 0,g c 1,g c 2,g c 3]
theorem a4_e{c:List Aa}:a4 c=.agg [g c 0,g c 1,g c 2,g c 3]:=rfl
def a3(c:List Aa):Aa:=.agg [g c 0,g c 1,g c 2]
theorem a3_e{c:List Aa}:a3 c=.agg [g c 0,g c 1,g c 2]:=rfl
theorem Az:type_of%(And.intro @a13_e (And.intro @a12_e (And.intro @a9_e (And.intro @a6_e (And.intro @a4_e (And.intro @a3_e ((And.intro @aEj (And.intro @uy (And.intro @aEk (And.intro @aEl (And.intro @aEm (And.intro @aEn (And.intro @aEo (And.intro @J6 (And.intro @U1 (And.intro @KN (And.intro @MV (And.intro @QM (And.intro @RK (And.intro @PS (And.intro @QL (And.intro @N1 (And.intro @KO (And.intro @PT (And.intro @N2 (And.intro @N3 (And.intro @RL (And.intro @N4 (And.intro @PU (And.intro @LV (And.intro @RM (And.intro @N5 (And.intro @K6 (And.intro @MW (And.intro @PV (And.intro @PX (And.intro @LB (And.intro @AP (And.intro @wV (And.intro @wW (And.intro @wX (And.intro @wY (And.intro @wZ (And.intro @xA (And.intro @xB (And.intro @Yy (And.intro @lJ (And.intro @lK (And.intro @QN (And.intro @QP (And.intro @xC (And.intro @Pl (And.intro @N6 (And.intro @N7 (And.intro @Pm (And.intro @QQ (And.intro @Xt (And.intro @Xu (And.intro @Xv (And.intro @xD (And.intro @bF (And.intro @U3 (And.intro @Et (And.intro @J7 (And.intro @List.getD_cons_zero.{0} (And.intro @List.getD_cons_succ.{0} (And.intro @JM.{0} (And.intro @tM.{0} (And.intro @Qh.{0} (And.intro @List.drop_succ_cons.{0} (And.intro @List.drop_nil.{0} (And.intro @L0.{0} (And.intro @aIi.{0} (And.intro @Bc.{0} (And.intro @BT.{0} (And.intro @CB.{0} (And.intro @BH.{0} (And.intro @List.zip_cons_cons.{0,0} (And.intro @List.zip_nil_right.{0,0} (And.intro @BR.{0,0} (And.intro @Option.map_none.{0,0} (And.intro @BJ (And.intro @OG (And.intro @RO (And.intro @RP (And.intro @PZ (And.intro @RQ (And.intro @P0 (And.intro @N8 (And.intro @U4 (And.intro @RR (And.intro @P1 (And.intro @and_self (And.intro @NB (And.intro @NC (And.intro @BN.{1} (And.intro @Ea.{1} (And.intro @Pn (@QR)))))))))))))))))))))))))))))))))))))))))))))))))))))))))))))))))))))))))))))))))))))))))))))))))))):=And.intro @a13_e (And.intro @a12_e (And.intro @a9_e (And.intro @a6_e (And.intro @a4_e (And.intro @a3_e (And.intro @aEj (And.intro @uy (And.intro @aEk (And.intro @aEl (And.intro @aEm (And.intro @aEn (And.intro @aEo (And.intro @J6 (And.intro @U1 (And.intro @KN (And.intro @MV (And.intro @QM (And.intro @RK (And.intro @PS (And.intro @QL (And.intro @N1 (And.intro @KO (And.intro @PT (And.intro @N2 (And.intro @N3 (And.intro @RL (And.intro @N4 (And.intro @PU (And.intro @LV (And.intro @RM (And.intro @N5 (And.intro @K6 (And.intro @MW (And.intro @PV (And.intro @PX (And.intro @LB (And.intro @AP (And.intro @wV (And.intro @wW (And.intro @wX (And.intro @wY (And.intro @wZ (And.intro @xA (And.intro @xB (And.intro @Yy (And.intro @lJ (And.intro @lK (And.intro @QN (And.intro @QP (And.intro @xC (And.intro @Pl (And.intro @N6 (And.intro @N7 (And.intro @Pm (And.intro @QQ (And.intro @Xt (And.intro @Xu (And.intro @Xv (And.intro @xD (And.intro @bF (And.intro @U3 (And.intro @Et (And.intro @J7 (And.intro @List.getD_cons_zero.{0} (And.intro @List.getD_cons_succ.{0} (And.intro @JM.{0} (And.intro @tM.{0} (And.intro @Qh.{0} (And.intro @List.drop_succ_cons.{0} (And.intro @List.drop_nil.{0} (And.intro @L0.{0} (And.intro @aIi.{0} (And.intro @Bc.{0} (And.intro @BT.{0} (And.intro @CB.{0} (And.intro @BH.{0} (And.intro @List.zip_cons_cons.{0,0} (And.intro @List.zip_nil_right.{0,0} (And.intro @BR.{0,0} (And.intro @Option.map_none.{0,0} (And.intro @BJ (And.intro @OG (And.intro @RO (And.intro @RP (And.intro @PZ (And.intro @RQ (And.intro @P0 (And.intro @N8 (And.intro @U4 (And.intro @RR (And.intro @P1 (And.intro @and_self (And.intro @NB (And.intro @NC (And.intro @BN.{1} (And.intro @Ea.{1} (And.intro @Pn (@QR))))))))))))))))))))))))))))))))))))))))))))))))))))))))))))))))))))))))))))))))))))))))))))))))))
theorem Bi:type_of%(And.intro @I3.{0} (And.intro @beq_self_eq_true.{0} (And.intro @kD (And.intro @Bool.bne_false (And.intro @kC (And.intro @JN (And.intro @Ap (And.intro @An (And.intro @Ak (And.intro @Ag (And.intro @Bn (And.intro @Nat.zero_lt_succ (And.intro @BR.{0,0} (@List.take_nil.{0})))))))))))))):=And.intro @I3.{0} (And.intro @beq_self_eq_true.{0} (And.intro @kD (And.intro @Bool.bne_false (And.intro @kC (And.intro @JN (And.intro @Ap (And.intro @An (And.intro @Ak (And.intro @Ag (And.intro @Bn (And.intro @Nat.zero_lt_succ (And.intro @BR.{0,0} (@List.take_nil.{0})))))))))))))
theorem aaS:type_of%@AB.{0}:=@AB.{0}
theorem IV:type_of%(And.intro @Ds (And.intro @Fj (And.intro @Bool.and_true (And.intro @Bool.true_and (And.intro @Bool.and_false (And.intro @Bool.false_and (And.intro @Bool.or_true (And.intro @da (And.intro @Bool.or_false (And.intro @Jg (And.intro @Ib.{0} (And.intro @Option.isSome_some.{0} (And.intro @Option.getD_none.{0} (And.intro @Option.isSome_none.{0} (And.intro @BN.{1} (And.intro @Ea.{1} (And.intro @C2 (And.intro @NB (And.intro @and_false (And.intro @NC (And.intro @false_and (And.intro @Int.lt_irrefl (@C8))))))))))))))))))))))):=And.intro @Ds (And.intro @Fj (And.intro @Bool.and_true (And.intro @Bool.true_and (And.intro @Bool.and_false (And.intro @Bool.false_and (And.intro @Bool.or_true (And.intro @da (And.intro @Bool.or_false (And.intro @Jg (And.intro @Ib.{0} (And.intro @Option.isSome_some.{0} (And.intro @Option.getD_none.{0} (And.intro @Option.isSome_none.{0} (And.intro @BN.{1} (And.intro @Ea.{1} (And.intro @C2 (And.intro @NB (And.intro @and_false (And.intro @NC (And.intro @false_and (And.intro @Int.lt_irrefl (@C8))))))))))))))))))))))
abbrev Pt(i o:Nat):Aa:=.ptr (some (i,o))
end Go.Am
end
