/- Lemmas -/
import Derived.Test.YtefjamneieebhaaGreatDoorS1
import Derived.IntWalk
set_option linter.unusedVariables false
set_option linter.unusedSimpArgs false
section
namespace Go.Am
open Go
section
variable{C:FG}{Q:Post}{h:Ad}
theorem RS{x:EK}{vs:List Aa}:W C (.ret x vs) Q h↔Q x vs h:=by refine⟨λhw=>?_,aDo⟩;obtain⟨n,x',Hi,h',hr,q⟩:=hw.succ;simp only[IT.step,BA,HR] at hr;obtain⟨rfl,rfl,rfl⟩:=hr;exact q
theorem PY:W C .fail Q h↔False:=by refine⟨λhw=>?_,λh=>h.elim⟩;obtain⟨n,x',Hi,h',hr,q⟩:=hw.succ;simp[IT.step] at hr
def Xy{α:Type}(o:Option α)(f:α->Prop):Prop:=∃v,o=some v/\f v
theorem rL{α:Type}{o o':Option α}{f:α->Prop}(h:o=o'):Xy o f=Xy o' f:=by rw[h]
theorem Mp{α:Type}{v:α}{f:α->Prop}:Xy (some v) f=f v:=propext (by
 constructor;·rintro⟨_,e,h⟩;cases e;exact h
 .intro h;exact⟨v,rfl,h⟩)
theorem U8{α:Type}{f:α->Prop}:Xy (none:Option α) f=False:=propext (by
 constructor;·rintro⟨_,e,_⟩;cases e
 .exact False.elim)
theorem QR{o:Wg}{args:List Aa}{k:Aa->IT}:W C (.op o args k) Q h↔Xy (Aw o args) λv=>W C (k v) Q h:=by
 refine⟨λhw=>?_,λ⟨v,hv,hw⟩=>aJd hv hw⟩;obtain⟨n,x',Hi,h',hr,q⟩:=hw.succ;simp only[IT.step] at hr;split at hr;·rename_i v hv;exact⟨v,hv,CL ⟨n,x',Hi,h',hr,q⟩⟩
 .cases hr
theorem Ob{n:Nat}{v:Aa}{k:List Aa->IT}:W C (.cells n v k) Q h↔Xy (if v.cells.length=n then some v.cells else none) λl=>W C (k l) Q h:=by
 constructor
 .intro hw;obtain⟨m,x',Hi,h',hr,q⟩:=hw.succ;simp only[IT.step] at hr;split at hr;·rename_i hv;exact⟨_,if_pos hv,CL ⟨m,x',Hi,h',hr,q⟩⟩
  .cases hr
 .rintro⟨l,e,hw⟩;split at e;·rename_i hv;cases e;exact eo hv hw
  .cases e
def WJ(v:Aa)(p q:Prop):Prop:=(v= .bool true/\p)\/(v= .bool false/\q)
theorem gN{v v':Aa}{p q:Prop}(h:v=v'):WJ v p q=WJ v' p q:=by rw[h]
theorem OP{p q:Prop}:WJ (.bool true) p q=p:=by simp[WJ]
theorem M4{p q:Prop}:WJ (.bool false) p q=q:=by simp[WJ]
theorem Cu{b:Bool}{p q:Prop}:WJ (.bool b) p q↔(b=true->p)/\(b=false->q):=by cases b<;>simp[WJ]
theorem QS{c:Prop}[Decidable c]{p q:Prop}:WJ (.bool (decide c)) p q↔(c->p)/\(¬c->q):=by rw[Cu];simp
theorem KM{c:Aa}{t e:IT}:W C (.AH c t e) Q h↔WJ c (W C t Q h) (W C e Q h):=by
 constructor
 .intro hw;obtain⟨m,x',Hi,h',hr,q⟩:=hw.succ;simp only[IT.step] at hr;split at hr;·exact .inl ⟨rfl,CL ⟨m,x',Hi,h',hr,q⟩⟩
  .exact .inr ⟨rfl,CL ⟨m,x',Hi,h',hr,q⟩⟩
  .cases hr
 .rintro(⟨rfl,hw⟩|⟨rfl,hw⟩);·exact tj (λ_=>hw) λh=>by cases h
  .exact tj (λh=>by cases h) λ_=>hw
theorem PZ{n:Option Nat}{p:Aa}{k:Aa->IT}:W C (.load n p k) Q h↔Xy (A6 h n p) λv=>W C (k v) Q h:=by
 refine⟨λhw=>?_,λ⟨v,hv,hw⟩=>xt hv hw⟩;obtain⟨m,x',Hi,h',hr,q⟩:=hw.succ;simp only[IT.step] at hr;split at hr;·rename_i v hv;exact⟨v,hv,CL ⟨m,x',Hi,h',hr,q⟩⟩
 .cases hr
theorem Oc{n:Nat}{p v:Aa}{k:IT}:W C (.store n p v k) Q h↔Xy (Cv h n p v) λh1=>W C k Q h1:=by
 refine⟨λhw=>?_,λ⟨v,hv,hw⟩=>et hv hw⟩;obtain⟨m,x',Hi,h',hr,q⟩:=hw.succ;simp only[IT.step] at hr;split at hr;·rename_i h1 hv;exact⟨h1,hv,CL ⟨m,x',Hi,h',hr,q⟩⟩
 .cases hr
theorem Od{n:Nat}{v:Aa}{k:Aa->IT}:W C (.alloc n v k) Q h↔Xy (if v.cells.length=n then some v.cells else none) λl=>W C (k (.ptr (some (h.length,0)))) Q (h++[.cells l]):=by
 constructor
 .intro hw;obtain⟨m,x',Hi,h',hr,q⟩:=hw.succ;simp only[IT.step,X6] at hr;by_cases hv:v.cells.length=n;·rw[if_pos hv] at hr;exact⟨_,if_pos hv,CL ⟨m,x',Hi,h',hr,q⟩⟩
  .rw[if_neg hv] at hr;cases hr
 .rintro⟨l,e,hw⟩;split at e;·rename_i hv;cases e;exact ew hv hw
  .cases e
theorem RT{u:Aa}{k:Aa->IT}:W C (.KR u k) Q h↔Xy (Kl h u) λx=>W C (k x.2) Q x.1:=by
 refine⟨λhw=>?_,λ⟨(h1,v),hv,hw⟩=>aDp hv hw⟩;obtain⟨m,x',Hi,h',hr,q⟩:=hw.succ;simp only[IT.step] at hr;split at hr;·rename_i h1 v hv;exact⟨(h1,v),hv,CL ⟨m,x',Hi,h',hr,q⟩⟩
 .cases hr
theorem Oe{off:Nat}{p:Aa}{k:IT}:W C (.Hr off p k) Q h↔Xy (KS h off p) λh1=>W C k Q h1:=by
 refine⟨λhw=>?_,λ⟨h1,hv,hw⟩=>ez hv hw⟩;obtain⟨m,x',Hi,h',hr,q⟩:=hw.succ;simp only[IT.step] at hr;split at hr;·rename_i h1 hv;exact⟨h1,hv,CL ⟨m,x',Hi,h',hr,q⟩⟩
 .cases hr
theorem Of{size bytes:Nat}{s x:Aa}{k:Aa->IT}:W C (.HC size bytes s x k) Q h↔Xy (Jv h size bytes s x) λx=>W C (k x.2) Q x.1:=by
 refine⟨λhw=>?_,λ⟨(h1,v),hv,hw⟩=>ey hv hw⟩;obtain⟨m,x',Hi,h',hr,q⟩:=hw.succ;simp only[IT.step] at hr;split at hr;·rename_i h1 v hv;exact⟨(h1,v),hv,CL ⟨m,x',Hi,h',hr,q⟩⟩
 .cases hr
theorem P0{size bytes:Nat}{s x:Aa}{k:Aa->IT}:W C (.FE size bytes s x k) Q h↔Xy (Fk h size bytes s x) λx=>W C (k x.2) Q x.1:=by
 refine⟨λhw=>?_,λ⟨(h1,v),hv,hw⟩=>ya hv hw⟩;obtain⟨m,x,Hi,h',hr,q⟩:=hw.succ;simp only[IT.step] at hr;split at hr;·rename_i h1 v hv;exact⟨(h1,v),hv,CL ⟨m,x,Hi,h',hr,q⟩⟩
 .cases hr
theorem LY{size bytes:Nat}{s x:Aa}{k:Aa->IT}:W C (.FV size bytes s x k) Q h↔Xy (Pg h size bytes s x) λv=>W C (k v) Q h:=by
 refine⟨λhw=>?_,λ⟨v,hv,hw⟩=>qI hv hw⟩;obtain⟨m,x,Hi,h',hr,q⟩:=hw.succ;simp only[IT.step] at hr;split at hr;·rename_i v hv;exact⟨v,hv,CL ⟨m,x,Hi,h',hr,q⟩⟩
 .cases hr
theorem RU{o:uT}{args:List Aa}{k:Aa->IT}:W C (.mem o args k) Q h↔Xy (Ep o h args) λx=>W C (k x.2) Q x.1:=by
 refine⟨λhw=>?_,λ⟨(h1,v),hv,hw⟩=>aDq hv hw⟩;obtain⟨n,x,vs,h',hr,q⟩:=hw.succ;simp only[IT.step] at hr;split at hr;·rename_i h1 v hv;exact⟨(h1,v),hv,CL ⟨n,x,vs,h',hr,q⟩⟩
 .cases hr
theorem K0{s:Aa}{k:Aa->IT}:W C (.E7 s k) Q h↔Xy (IM h s) λx=>W C (k x.2) Q x.1:=by
 refine⟨λhw=>?_,λ⟨(h1,v),hv,hw⟩=>eU hv hw⟩;obtain⟨m,x',Hi,h',hr,q⟩:=hw.succ;simp only[IT.step] at hr;split at hr;·rename_i h1 v hv;exact⟨(h1,v),hv,CL ⟨m,x',Hi,h',hr,q⟩⟩
 .cases hr
theorem M5{k:Aa->IT}:W C (.O7 k) Q h↔W C (k (.map (some h.length))) Q (h++[.map []]):=by refine⟨λhw=>?_,xw⟩;obtain⟨m,x',Hi,h',hr,q⟩:=hw.succ;exact CL ⟨m,x',Hi,h',hr,q⟩
theorem P1{m key v:Aa}{k:IT}:W C (.J0 m key v k) Q h↔Xy (SA h m key v) λh1=>W C k Q h1:=by
 refine⟨λhw=>?_,λ⟨h1,hv,hw⟩=>xy hv hw⟩;obtain⟨m,x',Hi,h',hr,q⟩:=hw.succ;simp only[IT.step] at hr;split at hr;·rename_i h1 hv;exact⟨h1,hv,CL ⟨m,x',Hi,h',hr,q⟩⟩
 .cases hr
theorem P2{z:Aa}{ok:Bool}{m key:Aa}{k:Aa->IT}:W C (.Mb z ok m key k) Q h↔Xy (SB h z ok m key) λv=>W C (k v) Q h:=by
 refine⟨λhw=>?_,λ⟨h1,hv,hw⟩=>xz hv hw⟩;obtain⟨m,x',Hi,h',hr,q⟩:=hw.succ;simp only[IT.step] at hr;split at hr;·rename_i h1 hv;exact⟨h1,hv,CL ⟨m,x',Hi,h',hr,q⟩⟩
 .cases hr
theorem LG{g:Aa}{args:List Aa}{k:Aa->IT}:W C (.FF g args k) Q h↔Xy (Dt g args) λx=>W C (.call x.1 x.2 k) Q h:=by
 constructor
 .intro hw;obtain⟨m,x',Hi,h',hr,q⟩:=hw.succ;simp only[IT.step] at hr;split at hr;·rename_i f as e;refine⟨(f,as),e,CL ⟨m,x',Hi,h',?_,q⟩⟩;simp only[IT.step];exact hr
  .cases hr
 .rintro⟨⟨f,as⟩,e,hw⟩;obtain⟨m,x',Hi,h',hr,q⟩:=hw.succ;refine CL ⟨m,x',Hi,h',?_,q⟩;simp only[IT.step,e] at hr⊢;exact hr
theorem AP{key:Nat}{t:IT}{k:EK->List Aa->IT}:W C (.Df key t k) Q h↔W C t (λx vs h1=>W C (k x vs) Q h1) h:=by
 refine⟨λhw=>?_,yb⟩;obtain⟨m,x',Hi,h',hr,q⟩:=hw.succ;simp only[IT.step] at hr;split at hr;·rename_i x vs h1 e;exact CL ⟨m,_,_,_,e,CL ⟨m,x',Hi,h',hr,q⟩⟩
 .cases hr
def BI(C:FG)(f:FuncId)(args:List Aa)(h:Ad)(r:Aa)(h':Ad):Prop:=W C (B5 C f args) (λx vs h1=>x= .ret/\vs=[r]/\h1=h') h
theorem BI.ev{f:FuncId}{args:List Aa}{r:Aa}{h':Ad}(hr:BI C f args h r h'){R:Aa->Ad->Prop}(hR:R r h'):Ev C f args h R:=
 W.mono hr λ_ _ _ ⟨h1,h2,h3⟩=>⟨h1,r,h2,by rw[h3];exact hR⟩
theorem BI.call{f:FuncId}{args:List Aa}{r:Aa}{h':Ad}(hr:BI C f args h r h'){k:Aa->IT}:W C (.call f args k) Q h↔W C (k r) Q h':=by
 refine⟨λhw=>?_,λhw=>vC (hr.ev hw)⟩;obtain⟨n,x1,vs1,h1,e1,rfl,rfl,rfl⟩:=hr;obtain⟨m,x',Hi,h2,e2,q⟩:=hw.succ;simp only[IT.step] at e2;split at e2;·rename_i r2 h3 e3;simp only[FG.run] at e1 e3;have a1:=IT.Ij (NQ n m) e1;have a2:=IT.Ij (MF n m) e3;rw[a1] at a2;cases a2;exact CL ⟨m,x',Hi,h2,e2,q⟩
 .cases e2
def JG(C:FG)(f:FuncId)(args:List Aa)(r:Aa):Prop:=Ev C f args [] λx _=>x=r
theorem JG.Bc{f:FuncId}{args:List Aa}{r:Aa}(hr:JG C f args r)(ha:args.all Aa.Ls=true)(hf:r.Ls=true){k:Aa->IT}:W C (.Bc f args k) Q h↔W C (k r) Q h:=by
 refine⟨λhw=>?_,λhw=>e_ ha (hr.mono λx _ e=>by rw[e];exact⟨hf,hw⟩)⟩;obtain⟨n,x1,vs1,h1,e1,rfl,y,rfl,rfl⟩:=hr;obtain⟨m,x',Hi,h2,e2,q⟩:=hw.succ;simp only[IT.step,ha,BK] at e2;simp only[FG.run] at e1 e2;have a1:=IT.Ij (NQ n m) e1;cases hc:IT.run (B5 C) m (B5 C f args) [] with
 |none=>rw[hc] at e2;cases e2
 |some z=>have a2:=IT.Ij (MF n m) hc;rw[a1] at a2;cases a2;rw[hc] at e2;simp only[hf,BK] at e2;exact CL ⟨m,x',Hi,h2,e2,q⟩
end
theorem iz{C:FG}{t t':IT}{Q:Post}{h h':Ad}(e:t=t')(e2:h=h'):W C t Q h=W C t' Q h':=by rw[e,e2]
theorem xI{o:Wg}{args args':List Aa}{k:Aa->IT}(e:args=args'):IT.op o args k=IT.op o args' k:=by rw[e]
theorem bG{n:Nat}{v v':Aa}{k:List Aa->IT}(e:v=v'):IT.cells n v k=IT.cells n v' k:=by rw[e]
theorem rM{v v':Aa}{s t:IT}(e:v=v'):IT.AH v s t=IT.AH v' s t:=by rw[e]
theorem gO{n:Option Nat}{v v':Aa}{k:Aa->IT}(e:v=v'):IT.load n v k=IT.load n v' k:=by rw[e]
theorem bH{n:Nat}{p p' v v':Aa}{k:IT}(e1:p=p')(e:v=v'):IT.store n p v k=IT.store n p' v' k:=by rw[e,e1]
theorem bI{n:Nat}{v v':Aa}{k:Aa->IT}(e:v=v'):IT.alloc n v k=IT.alloc n v' k:=by rw[e]
theorem gP{f:FuncId}{args args':List Aa}{k:Aa->IT}(e:args=args'):IT.call f args k=IT.call f args' k:=by rw[e]
theorem bJ{f:FuncId}{args args':List Aa}{k:Aa->IT}(e:args=args'):IT.Bc f args k=IT.Bc f args' k:=by rw[e]
theorem bK{f f':Aa}{args args':List Aa}{k:Aa->IT}(e1:f=f')(e:args=args'):IT.FF f args k=IT.FF f' args' k:=by rw[e,e1]
theorem gQ{key:Nat}{i i':List Aa}{b:List Aa->IT}{k:EK->List Aa->IT}(e:i=i'):IT.loop key i b k=IT.loop key i' b k:=by rw[e]
theorem gR{key:Nat}{b:IT}{k:EK->List Aa->IT}:IT.Df key b k=IT.Df key b k:=rfl
theorem rN{v v':Aa}{k:Aa->IT}(e:v=v'):IT.KR v k=IT.KR v' k:=by rw[e]
theorem bL{size bytes:Nat}{s s' x x':Aa}{k:Aa->IT}(e:s=s')(e1:x=x'):IT.HC size bytes s x k=IT.HC size bytes s' x' k:=by rw[e,e1]
theorem gS{size bytes:Nat}{s s' x x':Aa}{k:Aa->IT}(e:s=s')(e1:x=x'):IT.FE size bytes s x k=IT.FE size bytes s' x' k:=by rw[e,e1]
theorem rO{o:uT}{args args':List Aa}{k:Aa->IT}(e:args=args'):IT.mem o args k=IT.mem o args' k:=by rw[e]
theorem WK{size bytes:Nat}{s s' x x':Aa}{k:Aa->IT}(e:s=s')(e1:x=x'):IT.FV size bytes s x k=IT.FV size bytes s' x' k:=by rw[e,e1]
theorem bM{off:Nat}{p p':Aa}{k:IT}(e:p=p'):IT.Hr off p k=IT.Hr off p' k:=by rw[e]
theorem U9{s s':Aa}{k:Aa->IT}(e:s=s'):IT.E7 s k=IT.E7 s' k:=by rw[e]
theorem gT{m m' key key' v v':Aa}{k:IT}(e:m=m')(e1:key=key')(e2:v=v'):IT.J0 m key v k=IT.J0 m' key' v' k:=by rw[e,e1,e2]
theorem gU{z:Aa}{ok:Bool}{m m' key key':Aa}{k:Aa->IT}(e:m=m')(e1:key=key'):IT.Mb z ok m key k=IT.Mb z ok m' key' k:=by rw[e,e1]
attribute [congr] rL gN iz xI bG rM gO bH bI gP bJ bK gQ gR rN bM gS WK rO bL U9 gT gU
attribute [simp] Mp U8 OP M4 QS Cu RS PY QR Ob KM PZ Oc Od RT Oe P0 LY RU Of K0 M5 P1 P2 LG AP
section
variable{k:IntKind}{a b:Int}{s t:Ap}
@[simp] theorem xJ:Aw (.int .eql) [.int k a,.int k b]=some (.bool (decide (a=b))):=by cases k<;>rfl
@[simp] theorem xK:Aw (.int .neq) [.int k a,.int k b]=some (.bool (decide (a≠b))):=by
 have e:Aw (.int .neq) [.int k a,.int k b]=some (.bool (!(a==b))):=by cases k<;>rfl
 rw[e];by_cases h:a=b<;>simp[h]
@[simp] theorem xL:Aw (.int .lss) [.int k a,.int k b]=some (.bool (decide (a<b))):=by cases k<;>rfl
@[simp] theorem xM:Aw (.int .leq) [.int k a,.int k b]=some (.bool (decide (a<=b))):=by cases k<;>rfl
@[simp] theorem xN:Aw (.int .gtr) [.int k a,.int k b]=some (.bool (decide (b<a))):=by cases k<;>rfl
@[simp] theorem xO:Aw (.int .geq) [.int k a,.int k b]=some (.bool (decide (b<=a))):=by cases k<;>rfl
theorem YD:Aw (.int .add) [.int k a,.int k b]=some (.int k (k.wrap (a+b))):=by cases k<;>rfl
theorem gV:Aw (.int .sub) [.int k a,.int k b]=some (.int k (k.wrap (a-b))):=by cases k<;>rfl
@[simp] theorem xP {b:Bool}:Aw (.un .not) [.bool b]=some (.bool (!b)):=rfl
@[simp] theorem YE:Aw (.str .eql) [.str s,.str t]=some (.bool (decide (s=t))):=by
 show some (Aa.bool (s==t))=_;congr 2
 by_cases h:s=t<;>simp[h]
@[simp] theorem lS:Aw (.str .neq) [.str s,.str t]=some (.bool (decide (s≠t))):=by
 show some (Aa.bool (!(s==t)))=_;congr 2
 by_cases h:s=t<;>simp[h]
@[simp] theorem lT:Aw (.len true) [.str s]=some (.int .i64 s.length):=rfl
@[simp] theorem aIB {i:Int}:Aw .RD [.str s,.int k i]=if 0<=i then(s[i.toNat]?).map λb=> .int .u8 b.toNat else none:=rfl
@[simp] theorem QT {off:Nat} {cs:List Aa}:Aw (.part off none) [.agg cs]=cs[off]?:=rfl
@[simp] theorem QU {off n:Nat} {cs:List Aa}:Aw (.part off (some n)) [.agg cs]=if off+n<=cs.length then some (.agg ((cs.drop off).take n)) else none:=rfl
@[simp] theorem xQ {i:Nat} {vs:List Aa}:Aw (.ext i) [.tuple vs]=vs[i]?:=rfl
@[simp] theorem Pu {p:Nat×Nat}:Aw .KQ [.ptr (some p)]=some (.ptr (some p)):=rfl
@[simp] theorem Og {cs:List Aa}:Aw .KQ [.CA cs]=some (.CA cs):=rfl
@[simp] theorem Oh {f:FuncId} {a b:List Aa}:Aw .KQ [.func (.func f) a b]=some (.func (.func f) a b):=rfl
@[simp] theorem Pv {off:Nat} {cs:List Aa}:Aw (.EC off) [.CA cs]=some (.CA (cs.drop off)):=rfl
@[simp] theorem QV {off id o:Nat}:Aw (.EC off) [.ptr (some (id,o))]=some (.ptr (some (id,o+off))):=rfl
@[simp] theorem Xz {neg:Bool}:Aw (.Tg neg) [.ptr none,.ptr none]=some (.bool (true != neg)):=rfl
@[simp] theorem XA {neg:Bool} {p:Nat×Nat}:Aw (.Tg neg) [.ptr (some p),.ptr none]=some (.bool (false != neg)):=rfl
@[simp] theorem XB {neg:Bool} {p:Nat×Nat}:Aw (.Tg neg) [.ptr none,.ptr (some p)]=some (.bool (false != neg)):=rfl
@[simp] theorem xR {neg a b:Bool}:Aw (.beq neg) [.bool a,.bool b]=some (.bool ((a==b) != neg)):=rfl
@[simp] theorem aIC {c:Bool} {a b:Aa}:Aw .pick [.bool c,a,b]=some (if c then a else b):=rfl
@[simp] theorem T4 {l:IntKind}:Aw (.conv l) [.int k a]=some (.int l (l.wrap a)):=rfl
@[simp] theorem bN {zero args:List Aa} {places:List (Nat×Nat)}:Aw (.Bs zero places) args=if places.length=args.length then(AK zero (places.zip args)).map .agg else none:=rfl
@[simp] theorem M6 {neg:Bool} {ks:List FK} {x y:List Aa}:Aw (.geq neg ks) [.agg x,.agg y]=(Ds ks x y).map λe=> .bool (e != neg):=rfl
@[simp] theorem xS:Aw (.Kk false) [.int k a,.int k b]=some (.int k (if b<a then b else a)):=by simp[Aw]
@[simp] theorem YF:Aw (.Kk true) [.int k a,.int k b]=some (.int k (if a<b then b else a)):=by simp[Aw]
@[simp] theorem Va {h:Ad} {n:Option Nat} {cs:List Aa}:A6 h n (.CA cs)=EN cs 0 n:=rfl
@[simp] theorem Et {off:Nat} {cs:List Aa}:EN cs off none=cs[off]?:=rfl
@[simp] theorem J7 {off n:Nat} {cs:List Aa}:EN cs off (some n)=if off+n<=cs.length then some (.agg ((cs.drop off).take n)) else none:=rfl
@[simp] theorem wrap_i64 (h1: -9223372036854775808<=a) (h2:a<9223372036854775808):IntKind.i64.wrap a=a:=by rw[IntKind.wrap_i64];omega
end
theorem OQ{cs:List Aa}:Aa.cells (.agg cs)=cs:=rfl
theorem RV{k:IntKind}{n:Int}:Aa.cells (.int k n)=[.int k n]:=rfl
theorem RY{s:Ap}:Aa.cells (.str s)=[.str s]:=rfl
theorem P3{b:Bool}:Aa.cells (.bool b)=[.bool b]:=rfl
theorem RZ{p:Option (Nat×Nat)}:Aa.cells (.ptr p)=[.ptr p]:=rfl
theorem P4{p:List Aa}:Aa.cells (.CA p)=[.CA p]:=rfl
theorem Oi:Aa.cells .slnil=[.slnil]:=rfl
theorem Vb{z:Nat}{r:List (List Aa)}:Aa.cells (.sl z r)=[.sl z r]:=rfl
theorem R2{i o l z:Nat}:Aa.cells (.Cl i o l z)=[.Cl i o l z]:=rfl
theorem P5{f:Fn}{a b:List Aa}:Aa.cells (.func f a b)=[.func f a b]:=rfl
attribute [simp] AK Ds Ju Dt OQ RV RY P3 RZ P4 Oi Vb R2 P5
def AM(z:Nat)(Au:List (List Aa))(v:Aa):Prop:=v= .sl z Au\/(v= .slnil/\Au=[])
section
variable{z:Nat}{Au:List (List Aa)}{v:Aa}
theorem AM.mk:AM z Au (.sl z Au):= .inl rfl
theorem AM.nil:AM z [] .slnil:= .inr ⟨rfl,rfl⟩
theorem AM.cells(h:AM z Au v):v.cells=[v]:=by rcases h with rfl|⟨rfl,rfl⟩<;>rfl
theorem AM.len(h:AM z Au v):Aw (.len false) [v]=some (.int .i64 Au.length):=by rcases h with rfl|⟨rfl,rfl⟩<;>rfl
theorem AM.Fj(h:AM z Au v){k:IntKind}{n:Nat}(hn:n<Au.length):Aw (.Fj z) [v,.int k (n:Int)]=some (.CA Au[n]):=by
 rcases h with rfl|⟨rfl,rfl⟩
 .simp[Aw,elemOf,hn]
 .simp at hn
end
end Go.Am
end
section
namespace Go.Am
open Go
section
variable{C:FG}{Q:Post}{h:Ad}
theorem bO{key:Nat}{vs:List Aa}{body:List Aa->IT}{k:EK->List Aa->IT}
  (hw:W C (body vs) (λx vs1 h1=>(x= .normal/\W C (.loop key vs1 body k) Q h1)\/(x≠ .normal/\W C (k x vs1) Q h1)) h):W C (.loop key vs body k) Q h:=by
 obtain⟨m,x,vs1,h1,hr,Ie⟩:=hw.succ;rcases Ie with⟨rfl,hw⟩|⟨hx,hw⟩
 .obtain⟨m',x',Hi,h',Fu,q⟩:=hw;refine CL ⟨max m m',x',Hi,h',?_,q⟩;have e1:=IT.Jz (λt h r=>IT.Ij (fn:=B5 C) (NQ m m')) _ _ _ hr;have e2:=IT.Ij (MF m m') Fu;simp only[IT.step];simp only[FG.run] at*;rw[e1];exact e2
 .obtain⟨m',x',Hi,h',Fu,q⟩:=hw.succ;refine CL ⟨max m m',x',Hi,h',?_,q⟩;have e1:=IT.Jz (λt h r=>IT.Ij (fn:=B5 C) (NQ m m')) _ _ _ hr;have e2:=IT.Jz (λt h r=>IT.Ij (fn:=B5 C) (MF m m')) _ _ _ Fu;simp only[IT.step];simp only[FG.run] at*;rw[e1];cases x<;>first|exact absurd rfl hx|exact e2
def AF{σ:Type}(C:FG)(enc:σ->List Aa)(DD:σ->Ad->Prop)(μ:σ->Nat)(k:EK->List Aa->IT)(Q:Post)(s:σ):Post:=
 λx vs h1=>(x= .normal/\∃s',vs=enc s'/\DD s' h1/\μ s'<μ s)\/(x≠ .normal/\W C (k x vs) Q h1)
variable{σ:Type}{enc:σ->List Aa}{DD:σ->Ad->Prop}{μ:σ->Nat}{k:EK->List Aa->IT}{s:σ}{vs:List Aa}
theorem AF.next(s':σ)(e:vs=enc s')(hi:DD s' h)(hl:μ s'<μ s):AF C enc DD μ k Q s .normal vs h:= .inl ⟨rfl,s',e,hi,hl⟩
theorem Pw{i:Nat}:AF C enc DD μ k Q s (.exit i) vs h↔W C (k (.exit i) vs) Q h:=by simp[AF]
theorem QW:AF C enc DD μ k Q s .ret vs h↔W C (k .ret vs) Q h:=by simp[AF]
theorem Bb{key:Nat}{init:List Aa}{body:List Aa->IT}(enc:σ->List Aa)(DD:σ->Ad->Prop)(μ:σ->Nat)(s0:σ)(h0:init=enc s0)(hi:DD s0 h)
  (round:∀s h,DD s h->W C (body (enc s)) (AF C enc DD μ k Q s) h):W C (.loop key init body k) Q h:=by
 subst h0;have key:∀n s h,μ s=n->DD s h->W C (.loop key (enc s) body k) Q h:=by
  intro n;induction n using Nat.strongRecOn with
  |_ n ih=>
   intro s h hn hI;refine bO (W.mono (round s h hI) ?_);rintro x vs h1 (⟨rfl,s',rfl,wC,hl⟩|⟨hx,hw⟩);·exact .inl ⟨rfl,ih _ (hn▸hl) s' h1 rfl wC⟩
   .exact .inr ⟨hx,hw⟩
 exact key _ s0 h rfl hi
end
section
variable{k l:IntKind}{s:Ap}
theorem LH{n:Nat}(hn:n<s.length):Aw .RD [.str s,.int k (n:Int)]=some (.int .u8 (s[n].toNat:Int)):=by simp[hn]
theorem BF{n:Nat}(hn:n<9223372036854775807):Aw (.int .add) [.int .i64 (n:Int),.int .i64 1]=some (.int .i64 ((n+1:Nat):Int)):=by rw[YD,wrap_i64 (by omega) (by omega)];rfl
theorem Hl{n:Nat}(h0:0<n)(hn:n<9223372036854775807):Aw (.int .sub) [.int .i64 (n:Int),.int .i64 1]=some (.int .i64 ((n-1:Nat):Int)):=by rw[gV,wrap_i64 (by omega) (by omega)];congr 2;omega
theorem M7{a b z:Nat}(Wm:a<=b)(hb:b<=s.length):Aw (.Hq z true true true) [.str s,.int k (a:Int),.int l (b:Int)]=some (.str ((s.take b).drop a)):=by
 have e1:EJ (b:Int) s.length=some b:=by unfold EJ;rw[if_pos (by omega)];rfl
 have e2:EJ (a:Int) b=some a:=by unfold EJ;rw[if_pos (by omega)];rfl
 simp[Aw,I5,DI,e1,e2]
end
section
variable{z b:Nat}{r r2:List (List Aa)}{row:List Aa}{v v2:Aa}
theorem AM.xT(h:AM z r v)(hb:(r.length+1)*b<=AS):Aw (.append z b) [v,.sl z [row]]=some (.sl z (r++[row])):=by
 rcases h with rfl|⟨rfl,rfl⟩
 .simp[Aw,HB,DN,hb]
 .have:1*b<=AS:=by simpa using hb
  simp only[Ey] at this;simp[Aw,HB,DN,this]
theorem AM.HA(h:AM z r v)(h2:AM z r2 v2)(hb:(r.length+r2.length)*b<=AS):∃u,Aw (.append z b) [v,v2]=some u/\AM z (r++r2) u:=by
 have hnil:∃u,DN z b v []=some u/\AM z (r++[]) u:=by
  rcases h with rfl|⟨rfl,rfl⟩
  .exact⟨.sl z r,by simp[DN],by rw[BC];exact .mk⟩
  .exact⟨_,rfl,.nil⟩
 rcases h2 with rfl|⟨rfl,rfl⟩
 .cases r2 with
  |nil=>obtain⟨u,e,hu⟩:=hnil;exact⟨u,by simpa[Aw,HB] using e,hu⟩
  |cons x l=>
   refine⟨.sl z (r++x::l),?_,.mk⟩;rcases h with rfl|⟨rfl,rfl⟩
   .simp only[Aw,HB,BK,DN];rw[if_pos ⟨trivial,hb⟩]
   .simp only[Aw,HB,BK,DN];rw[if_pos (by simpa using hb)];rfl
 .obtain⟨u,e,hu⟩:=hnil;exact⟨u,by simpa[Aw,HB] using e,hu⟩
theorem AM.KR(h:AM z r v){hp:Ad}:Kl hp v=some (hp,v):=by rcases h with rfl|⟨rfl,rfl⟩<;>rfl
theorem P6(s:Ap):Lv (BZ s)=some s:=by
 induction s with
 |nil=>rfl
 |cons c s ih=>have e:BZ (c::s)=[.int .u8 c.toNat]::BZ s:=rfl;rw[e,Lv,ih];simp
theorem AM.Th{s:Ap}(h:AM 1 (BZ s) v):Aw .Th [v]=some (.str s):=by
 rcases h with rfl|⟨rfl,h⟩
 .simp[Aw,Ui,P6]
 .have e:s=[]:=by simpa[BZ] using h
  subst e;rfl
theorem Px(s t:Ap):BZ (s++t)=BZ s++BZ t:=by simp[BZ]
theorem WL(s:Ap):(BZ s).length=s.length:=by simp[BZ]
end
@[simp] theorem lU {z:Nat} {args:List Aa}:Aw (.Bx z) args=if args.all (λa=>a.cells.length==z)&&decide (args.length*z<=16777216) then some (.sl z (args.map (·.cells))) else none:=rfl
theorem K4{a:Aa}{z:Nat}(h:a.cells.length=z)(hz:z<=16777216):Aw (.Bx z) [a]=some (.sl z [a.cells]):=by simp[h,hz]
theorem wrap_u8{a:Int}(h:0<=a/\a<=255):IntKind.u8.wrap a=a:=IntWalk.u8_in a h
theorem xU{a:Int}(h: -2147483648<=a/\a<=2147483647):IntKind.i32.wrap a=a:=IntWalk.i32_in a h
theorem Ab{C:FG}{f:FuncId}{args:List Aa}{h h':Ad}{r:Aa}:BI C f args h r h'↔W C (B5 C f args) (λx vs h1=>x= .ret/\vs=[r]/\h1=h') h:=Iff.rfl
abbrev GL(C:FG)(f:FuncId)(t:Aa->IT):Prop:=∀a0,B5 C f [a0]=t a0
abbrev DR(C:FG)(f:FuncId)(t:Aa->Aa->IT):Prop:=∀a0 a1,B5 C f [a0,a1]=t a0 a1
abbrev Lt(C:FG)(f:FuncId)(t:Aa->Aa->Aa->IT):Prop:=∀a0 a1 a2,B5 C f [a0,a1,a2]=t a0 a1 a2
abbrev xV(C:FG)(f:FuncId)(t:Aa->Aa->Aa->Aa->IT):Prop:=∀a0 a1 a2 a3,B5 C f [a0,a1,a2,a3]=t a0 a1 a2 a3
abbrev Tq5(C:FG)(f:FuncId)(t:Aa->Aa->Aa->Aa->Aa->IT):Prop:=∀a0 a1 a2 a3 a4,B5 C f [a0,a1,a2,a3,a4]=t a0 a1 a2 a3 a4
def IT.fa(p:Aa)(k:Nat)(K:Aa->Aa->IT):IT:= .op .KQ [p] λa=> .op (.EC k) [a] λb=>K a b
def IT.BY(p:Aa)(k:Nat)(K:Aa->Aa->Aa->IT):IT:= .op .KQ [p] λa=> .op (.EC k) [a] λb=> .load none b λc=>K a b c
def IT.fl(p:Aa)(k:Nat)(K:Aa->Aa->IT):IT:= .op (.EC k) [p] λa=> .load none a λb=>K a b
def nx(A R:List Aa->IT):EK->List Aa->IT:=λx c=>match x with
 | .normal=>A c
 | .exit _=> .fail
 | .ret=>R c
def lx(k:Nat)(A R:List Aa->IT):EK->List Aa->IT:=λx c=>match x with
 | .normal=> .fail
 | .exit i=>if i=k then A c else .fail
 | .ret=>R c
section
variable{C:FG}{Q:Post}{h:Ad}{p:Aa}{k:Nat}{A R:List Aa->IT}{c:List Aa}
theorem aEi{K:Aa->Aa->IT}:W C (IT.fa p k K) Q h=W C (.op .KQ [p] λa=> .op (.EC k) [a] λb=>K a b) Q h:=rfl
theorem ur{K:Aa->Aa->Aa->IT}:W C (IT.BY p k K) Q h=W C (.op .KQ [p] λa=> .op (.EC k) [a] λb=> .load none b λc=>K a b c) Q h:=rfl
theorem aEj{K:Aa->Aa->IT}:W C (IT.fl p k K) Q h=W C (.op (.EC k) [p] λa=> .load none a λb=>K a b) Q h:=rfl
theorem aEk:nx A R .normal c=A c:=rfl
theorem aEl:nx A R .ret c=R c:=rfl
theorem aEm:lx k A R (.exit k) c=A c:=if_pos rfl
theorem aEn:lx k A R .ret c=R c:=rfl
end
def Mq:List Ap:=[[97,100,100,114,101,115,115],aS3,[97,114,101,97],[97,114,116,105,99,108,101],[97,115,105,100,101],[98,97,115,101],[98,97,115,101,102,111,110,116],[98,103,115,111,117,110,100],[98,108,111,99,107,113,117,111,116,101],aS9,[98,114],aSw,aSz,[99,101,110,116,101,114],[99,111,108],aSG,[100,100],[100,101,116,97,105,108,115],[100,105,114],[100,105,118],[100,108],[100,116],[101,109,98,101,100],[102,105,101,108,100,115,101,116],[102,105,103,99,97,112,116,105,111,110],[102,105,103,117,114,101],[102,111,111,116,101,114],[102,111,114,109],[102,114,97,109,101],aSX,[104,49],[104,50],[104,51],[104,52],[104,53],[104,54],aS7,[104,101,97,100,101,114],[104,103,114,111,117,112],[104,114],aSx,[105,102,114,97,109,101],[105,109,103],[105,110,112,117,116],[107,101,121,103,101,110],[108,105],[108,105,110,107],[108,105,115,116,105,110,103],[109,97,105,110],aS0,[109,101,110,117],[109,101,116,97],[110,97,118],[110,111,101,109,98,101,100],[110,111,102,114,97,109,101,115],[110,111,115,99,114,105,112,116],aS5,[111,108],[112],[112,97,114,97,109],[112,108,97,105,110,116,101,120,116],[112,114,101],[115,99,114,105,112,116],[115,101,97,114,99,104],[115,101,99,116,105,111,110],aSZ,[115,111,117,114,99,101],[115,116,121,108,101],[115,117,109,109,97,114,121],aSv,aSN,[116,100],aSo,[116,101,120,116,97,114,101,97],aSK,[116,104],aSO,aSW,[116,114],[116,114,97,99,107],[117,108],[119,98,114],[120,109,112]]
def swv(s:Aa)(t e:IT):List (List UInt8)->IT
 |[]=>e
 |c::cs=>.op (.str .eql) [s,.str c] λv=>.AH v t (swv s t e cs)
abbrev IT.rr(l:List Aa):IT:=.ret .ret l
abbrev IT.rn(l:List Aa):IT:=.ret .normal l
abbrev IT.rx(n:Nat)(l:List Aa):IT:=.ret (.exit n) l
abbrev IT.ea(n:Nat)(l:List Aa)(k:Aa->IT):IT:=.op (.Fj n) l k
abbrev IT.ld(p:Aa)(k:Aa->IT):IT:=.load none p k
abbrev IT.ie(l:List Aa)(k:Aa->IT):IT:=.op (.int .eql) l k
abbrev IT.iq(l:List Aa)(k:Aa->IT):IT:=.op (.int .neq) l k
abbrev IT.il(l:List Aa)(k:Aa->IT):IT:=.op (.int .lss) l k
abbrev IT.ig(l:List Aa)(k:Aa->IT):IT:=.op (.int .gtr) l k
abbrev IT.ia(l:List Aa)(k:Aa->IT):IT:=.op (.int .add) l k
abbrev IT.ib(l:List Aa)(k:Aa->IT):IT:=.op (.int .sub) l k
abbrev IT.ih(l:List Aa)(k:Aa->IT):IT:=.op (.int .geq) l k
abbrev IT.ik(l:List Aa)(k:Aa->IT):IT:=.op (.int .leq) l k
abbrev IT.se(l:List Aa)(k:Aa->IT):IT:=.op (.str .eql) l k
abbrev IT.ln(l:List Aa)(k:Aa->IT):IT:=.op (.len false) l k
abbrev IT.lt(l:List Aa)(k:Aa->IT):IT:=.op (.len true) l k
abbrev IT.nt(l:List Aa)(k:Aa->IT):IT:=.op (.un .not) l k
abbrev i0:Aa:=I 0
abbrev i1:Aa:=I 1
abbrev tu:Aa:=.tuple []
abbrev pn:Aa:=.ptr none
def WM(c:List Aa):Aa:=.agg [g c 0,g c 1,g c 2,g c 3,g c 4,g c 5,g c 6,g c 7,g c 8,g c 9,g c 10,g c 11,g c 12]
theorem a13_e{c:List Aa}:WM c=.agg [g c 0,g c 1,g c 2,g c 3,g c 4,g c 5,g c 6,g c 7,g c 8,g c 9,g c 10,g c 11,g c 12]:=rfl
def uI(c:List Aa):Aa:=.agg [g c 0,g c 1,g c 2,g c 3,g c 4,g c 5,g c 6,g c 7,g c 8,g c 9,g c 10,g c 11]
theorem a12_e{c:List Aa}:uI c=.agg [g c 0,g c 1,g c 2,g c 3,g c 4,g c 5,g c 6,g c 7,g c 8,g c 9,g c 10,g c 11]:=rfl
def a9(c:List Aa):Aa:=.agg [g c 0,g c 1,g c 2,g c 3,g c 4,g c 5,g c 6,g c 7,g c 8]
theorem a9_e{c:List Aa}:a9 c=.agg [g c 0,g c 1,g c 2,g c 3,g c 4,g c 5,g c 6,g c 7,g c 8]:=rfl
def a6(c:List Aa):Aa:=.agg [g c 0,g c 1,g c 2,g c 3,g c 4,g c 5]
theorem a6_e{c:List Aa}:a6 c=.agg [g c 0,g c 1,g c 2,g c 3,g c 4,g c 5]:=rfl
def a4(c:List Aa):Aa:=.agg [g c 0,g c 1,g c 2,g c 3]
theorem a4_e{c:List Aa}:a4 c=.agg [g c 0,g c 1,g c 2,g c 3]:=rfl
def a3(c:List Aa):Aa:=.agg [g c 0,g c 1,g c 2]
theorem a3_e{c:List Aa}:a3 c=.agg [g c 0,g c 1,g c 2]:=rfl
theorem AB:type_of%(And.intro @a13_e (And.intro @a12_e (And.intro @a9_e (And.intro @a6_e (And.intro @a4_e (And.intro @a3_e ((And.intro @aEi (And.intro @ur (And.intro @aEj (And.intro @aEk (And.intro @aEl (And.intro @aEm (And.intro @aEn (And.intro @Mp (And.intro @U8 (And.intro @OP (And.intro @M4 (And.intro @QS (And.intro @RS (And.intro @PY (And.intro @QR (And.intro @Ob (And.intro @KM (And.intro @PZ (And.intro @Oc (And.intro @Od (And.intro @RT (And.intro @Oe (And.intro @P0 (And.intro @LY (And.intro @RU (And.intro @Of (And.intro @K0 (And.intro @M5 (And.intro @P1 (And.intro @P2 (And.intro @LG (And.intro @AP (And.intro @xJ (And.intro @xK (And.intro @xL (And.intro @xM (And.intro @xN (And.intro @xO (And.intro @xP (And.intro @YE (And.intro @lS (And.intro @lT (And.intro @QT (And.intro @QU (And.intro @xQ (And.intro @Pu (And.intro @Og (And.intro @Oh (And.intro @Pv (And.intro @QV (And.intro @Xz (And.intro @XA (And.intro @XB (And.intro @xR (And.intro @bN (And.intro @Va (And.intro @Et (And.intro @J7 (And.intro @List.getD_cons_zero.{0} (And.intro @List.getD_cons_succ.{0} (And.intro @JN.{0} (And.intro @tY.{0} (And.intro @Qm.{0} (And.intro @List.drop_succ_cons.{0} (And.intro @List.drop_nil.{0} (And.intro @L5.{0} (And.intro @aIo.{0} (And.intro @Bd.{0} (And.intro @BT.{0} (And.intro @CB.{0} (And.intro @BG.{0} (And.intro @List.zip_cons_cons.{0,0} (And.intro @List.zip_nil_right.{0,0} (And.intro @BR.{0,0} (And.intro @Option.map_none.{0,0} (And.intro @BJ (And.intro @OQ (And.intro @RV (And.intro @RY (And.intro @P3 (And.intro @RZ (And.intro @P4 (And.intro @Oi (And.intro @Vb (And.intro @R2 (And.intro @P5 (And.intro @and_self (And.intro @NN (And.intro @NO (And.intro @BK.{1} (And.intro @D9.{1} (And.intro @Pw (@QW)))))))))))))))))))))))))))))))))))))))))))))))))))))))))))))))))))))))))))))))))))))))))))))))))))):=And.intro @a13_e (And.intro @a12_e (And.intro @a9_e (And.intro @a6_e (And.intro @a4_e (And.intro @a3_e (And.intro @aEi (And.intro @ur (And.intro @aEj (And.intro @aEk (And.intro @aEl (And.intro @aEm (And.intro @aEn (And.intro @Mp (And.intro @U8 (And.intro @OP (And.intro @M4 (And.intro @QS (And.intro @RS (And.intro @PY (And.intro @QR (And.intro @Ob (And.intro @KM (And.intro @PZ (And.intro @Oc (And.intro @Od (And.intro @RT (And.intro @Oe (And.intro @P0 (And.intro @LY (And.intro @RU (And.intro @Of (And.intro @K0 (And.intro @M5 (And.intro @P1 (And.intro @P2 (And.intro @LG (And.intro @AP (And.intro @xJ (And.intro @xK (And.intro @xL (And.intro @xM (And.intro @xN (And.intro @xO (And.intro @xP (And.intro @YE (And.intro @lS (And.intro @lT (And.intro @QT (And.intro @QU (And.intro @xQ (And.intro @Pu (And.intro @Og (And.intro @Oh (And.intro @Pv (And.intro @QV (And.intro @Xz (And.intro @XA (And.intro @XB (And.intro @xR (And.intro @bN (And.intro @Va (And.intro @Et (And.intro @J7 (And.intro @List.getD_cons_zero.{0} (And.intro @List.getD_cons_succ.{0} (And.intro @JN.{0} (And.intro @tY.{0} (And.intro @Qm.{0} (And.intro @List.drop_succ_cons.{0} (And.intro @List.drop_nil.{0} (And.intro @L5.{0} (And.intro @aIo.{0} (And.intro @Bd.{0} (And.intro @BT.{0} (And.intro @CB.{0} (And.intro @BG.{0} (And.intro @List.zip_cons_cons.{0,0} (And.intro @List.zip_nil_right.{0,0} (And.intro @BR.{0,0} (And.intro @Option.map_none.{0,0} (And.intro @BJ (And.intro @OQ (And.intro @RV (And.intro @RY (And.intro @P3 (And.intro @RZ (And.intro @P4 (And.intro @Oi (And.intro @Vb (And.intro @R2 (And.intro @P5 (And.intro @and_self (And.intro @NN (And.intro @NO (And.intro @BK.{1} (And.intro @D9.{1} (And.intro @Pw (@QW))))))))))))))))))))))))))))))))))))))))))))))))))))))))))))))))))))))))))))))))))))))))))))))))))
theorem Bi:type_of%(And.intro @I4.{0} (And.intro @beq_self_eq_true.{0} (And.intro @kO (And.intro @Bool.bne_false (And.intro @kN (And.intro @JO (And.intro @Aq (And.intro @An (And.intro @Ak (And.intro @Ag (And.intro @Bn (And.intro @Nat.zero_lt_succ (And.intro @BR.{0,0} (@List.take_nil.{0})))))))))))))):=And.intro @I4.{0} (And.intro @beq_self_eq_true.{0} (And.intro @kO (And.intro @Bool.bne_false (And.intro @kN (And.intro @JO (And.intro @Aq (And.intro @An (And.intro @Ak (And.intro @Ag (And.intro @Bn (And.intro @Nat.zero_lt_succ (And.intro @BR.{0,0} (@List.take_nil.{0})))))))))))))
theorem aaS:type_of%@AD.{0}:=@AD.{0}
theorem IW:type_of%(And.intro @D4 (And.intro @Fg (And.intro @Bool.and_true (And.intro @Bool.true_and (And.intro @Bool.and_false (And.intro @Bool.false_and (And.intro @Bool.or_true (And.intro @dk (And.intro @Bool.or_false (And.intro @Ji (And.intro @Ib.{0} (And.intro @Option.isSome_some.{0} (And.intro @Option.getD_none.{0} (And.intro @Option.isSome_none.{0} (And.intro @BK.{1} (And.intro @D9.{1} (And.intro @C1 (And.intro @NN (And.intro @and_false (And.intro @NO (And.intro @false_and (And.intro @Int.lt_irrefl (@Dd))))))))))))))))))))))):=And.intro @D4 (And.intro @Fg (And.intro @Bool.and_true (And.intro @Bool.true_and (And.intro @Bool.and_false (And.intro @Bool.false_and (And.intro @Bool.or_true (And.intro @dk (And.intro @Bool.or_false (And.intro @Ji (And.intro @Ib.{0} (And.intro @Option.isSome_some.{0} (And.intro @Option.getD_none.{0} (And.intro @Option.isSome_none.{0} (And.intro @BK.{1} (And.intro @D9.{1} (And.intro @C1 (And.intro @NN (And.intro @and_false (And.intro @NO (And.intro @false_and (And.intro @Int.lt_irrefl (@Dd))))))))))))))))))))))
abbrev Pt(i o:Nat):Aa:=.ptr (some (i,o))
end Go.Am
end
