/- Lemmas -/
import Derived.Test.YtbnogamdhadfcaaGreatDoorT1
import Derived.IntWalk
set_option linter.unusedVariables false
set_option linter.unusedSimpArgs false
section
namespace Go.Am
open Go
section
variable{C:FJ}{Q:Post}{h:Ag}
theorem RO{x:EN}{vs:List Aa}:W C (.ret x vs) Q h↔Q x vs h:=by refine⟨λhw=>?_,aDj⟩;obtain⟨n,x',Hl,h',hr,q⟩:=hw.succ;simp only[IT.step,BF,KU] at hr;obtain⟨rfl,rfl,rfl⟩:=hr;exact q
theorem PT:W C .fail Q h↔False:=by refine⟨λhw=>?_,λh=>h.elim⟩;obtain⟨n,x',Hl,h',hr,q⟩:=hw.succ;simp[IT.step] at hr
def Xu{α:Type}(o:Option α)(f:α->Prop):Prop:=∃v,o=some v/\f v
theorem rE{α:Type}{o o':Option α}{f:α->Prop}(h:o=o'):Xu o f=Xu o' f:=by rw[h]
theorem Mk{α:Type}{v:α}{f:α->Prop}:Xu (some v) f=f v:=propext (by
 constructor;·rintro⟨_,e,h⟩;cases e;exact h
 .intro h;exact⟨v,rfl,h⟩)
theorem U2{α:Type}{f:α->Prop}:Xu (none:Option α) f=False:=propext (by
 constructor;·rintro⟨_,e,_⟩;cases e
 .exact False.elim)
theorem QK{o:We}{args:List Aa}{k:Aa->IT}:W C (.op o args k) Q h↔Xu (Aw o args) λv=>W C (k v) Q h:=by
 refine⟨λhw=>?_,λ⟨v,hv,hw⟩=>aIZ hv hw⟩;obtain⟨n,x',Hl,h',hr,q⟩:=hw.succ;simp only[IT.step] at hr;split at hr;·rename_i v hv;exact⟨v,hv,CM ⟨n,x',Hl,h',hr,q⟩⟩
 .cases hr
theorem N4{n:Nat}{v:Aa}{k:List Aa->IT}:W C (.cells n v k) Q h↔Xu (if v.cells.length=n then some v.cells else none) λl=>W C (k l) Q h:=by
 constructor
 .intro hw;obtain⟨m,x',Hl,h',hr,q⟩:=hw.succ;simp only[IT.step] at hr;split at hr;·rename_i hv;exact⟨_,if_pos hv,CM ⟨m,x',Hl,h',hr,q⟩⟩
  .cases hr
 .rintro⟨l,e,hw⟩;split at e;·rename_i hv;cases e;exact dz hv hw
  .cases e
def WH(v:Aa)(p q:Prop):Prop:=(v= .bool true/\p)\/(v= .bool false/\q)
theorem fZ{v v':Aa}{p q:Prop}(h:v=v'):WH v p q=WH v' p q:=by rw[h]
theorem OL{p q:Prop}:WH (.bool true) p q=p:=by simp[WH]
theorem MY{p q:Prop}:WH (.bool false) p q=q:=by simp[WH]
theorem Cu{b:Bool}{p q:Prop}:WH (.bool b) p q↔(b=true->p)/\(b=false->q):=by cases b<;>simp[WH]
theorem QL{c:Prop}[Decidable c]{p q:Prop}:WH (.bool (decide c)) p q↔(c->p)/\(¬c->q):=by rw[Cu];simp
theorem KQ{c:Aa}{t e:IT}:W C (.AJ c t e) Q h↔WH c (W C t Q h) (W C e Q h):=by
 constructor
 .intro hw;obtain⟨m,x',Hl,h',hr,q⟩:=hw.succ;simp only[IT.step] at hr;split at hr;·exact .inl ⟨rfl,CM ⟨m,x',Hl,h',hr,q⟩⟩
  .exact .inr ⟨rfl,CM ⟨m,x',Hl,h',hr,q⟩⟩
  .cases hr
 .rintro(⟨rfl,hw⟩|⟨rfl,hw⟩);·exact tr (λ_=>hw) λh=>by cases h
  .exact tr (λh=>by cases h) λ_=>hw
theorem PU{n:Option Nat}{p:Aa}{k:Aa->IT}:W C (.load n p k) Q h↔Xu (A9 h n p) λv=>W C (k v) Q h:=by
 refine⟨λhw=>?_,λ⟨v,hv,hw⟩=>x_ hv hw⟩;obtain⟨m,x',Hl,h',hr,q⟩:=hw.succ;simp only[IT.step] at hr;split at hr;·rename_i v hv;exact⟨v,hv,CM ⟨m,x',Hl,h',hr,q⟩⟩
 .cases hr
theorem N5{n:Nat}{p v:Aa}{k:IT}:W C (.store n p v k) Q h↔Xu (Cd h n p v) λh1=>W C k Q h1:=by
 refine⟨λhw=>?_,λ⟨v,hv,hw⟩=>d_ hv hw⟩;obtain⟨m,x',Hl,h',hr,q⟩:=hw.succ;simp only[IT.step] at hr;split at hr;·rename_i h1 hv;exact⟨h1,hv,CM ⟨m,x',Hl,h',hr,q⟩⟩
 .cases hr
theorem N6{n:Nat}{v:Aa}{k:Aa->IT}:W C (.alloc n v k) Q h↔Xu (if v.cells.length=n then some v.cells else none) λl=>W C (k (.ptr (some (h.length,0)))) Q (h++[.cells l]):=by
 constructor
 .intro hw;obtain⟨m,x',Hl,h',hr,q⟩:=hw.succ;simp only[IT.step,X2] at hr;by_cases hv:v.cells.length=n;·rw[if_pos hv] at hr;exact⟨_,if_pos hv,CM ⟨m,x',Hl,h',hr,q⟩⟩
  .rw[if_neg hv] at hr;cases hr
 .rintro⟨l,e,hw⟩;split at e;·rename_i hv;cases e;exact ee hv hw
  .cases e
theorem RP{u:Aa}{k:Aa->IT}:W C (.KW u k) Q h↔Xu (Kp h u) λx=>W C (k x.2) Q x.1:=by
 refine⟨λhw=>?_,λ⟨(h1,v),hv,hw⟩=>aDk hv hw⟩;obtain⟨m,x',Hl,h',hr,q⟩:=hw.succ;simp only[IT.step] at hr;split at hr;·rename_i h1 v hv;exact⟨(h1,v),hv,CM ⟨m,x',Hl,h',hr,q⟩⟩
 .cases hr
theorem N7{off:Nat}{p:Aa}{k:IT}:W C (.Hy off p k) Q h↔Xu (KX h off p) λh1=>W C k Q h1:=by
 refine⟨λhw=>?_,λ⟨h1,hv,hw⟩=>et hv hw⟩;obtain⟨m,x',Hl,h',hr,q⟩:=hw.succ;simp only[IT.step] at hr;split at hr;·rename_i h1 hv;exact⟨h1,hv,CM ⟨m,x',Hl,h',hr,q⟩⟩
 .cases hr
theorem N8{size bytes:Nat}{s x:Aa}{k:Aa->IT}:W C (.Hw size bytes s x k) Q h↔Xu (IG h size bytes s x) λx=>W C (k x.2) Q x.1:=by
 refine⟨λhw=>?_,λ⟨(h1,v),hv,hw⟩=>eo hv hw⟩;obtain⟨m,x',Hl,h',hr,q⟩:=hw.succ;simp only[IT.step] at hr;split at hr;·rename_i h1 v hv;exact⟨(h1,v),hv,CM ⟨m,x',Hl,h',hr,q⟩⟩
 .cases hr
theorem PV{size bytes:Nat}{s x:Aa}{k:Aa->IT}:W C (.Fs size bytes s x k) Q h↔Xu (Fl h size bytes s x) λx=>W C (k x.2) Q x.1:=by
 refine⟨λhw=>?_,λ⟨(h1,v),hv,hw⟩=>ye hv hw⟩;obtain⟨m,x,Hl,h',hr,q⟩:=hw.succ;simp only[IT.step] at hr;split at hr;·rename_i h1 v hv;exact⟨(h1,v),hv,CM ⟨m,x,Hl,h',hr,q⟩⟩
 .cases hr
theorem LS{size bytes:Nat}{s x:Aa}{k:Aa->IT}:W C (.FX size bytes s x k) Q h↔Xu (Pc h size bytes s x) λv=>W C (k v) Q h:=by
 refine⟨λhw=>?_,λ⟨v,hv,hw⟩=>qA hv hw⟩;obtain⟨m,x,Hl,h',hr,q⟩:=hw.succ;simp only[IT.step] at hr;split at hr;·rename_i v hv;exact⟨v,hv,CM ⟨m,x,Hl,h',hr,q⟩⟩
 .cases hr
theorem RQ{o:uF}{args:List Aa}{k:Aa->IT}:W C (.mem o args k) Q h↔Xu (Ed o h args) λx=>W C (k x.2) Q x.1:=by
 refine⟨λhw=>?_,λ⟨(h1,v),hv,hw⟩=>aDl hv hw⟩;obtain⟨n,x,vs,h',hr,q⟩:=hw.succ;simp only[IT.step] at hr;split at hr;·rename_i h1 v hv;exact⟨(h1,v),hv,CM ⟨n,x,vs,h',hr,q⟩⟩
 .cases hr
theorem K9{s:Aa}{k:Aa->IT}:W C (.Fb s k) Q h↔Xu (IQ h s) λx=>W C (k x.2) Q x.1:=by
 refine⟨λhw=>?_,λ⟨(h1,v),hv,hw⟩=>eF hv hw⟩;obtain⟨m,x',Hl,h',hr,q⟩:=hw.succ;simp only[IT.step] at hr;split at hr;·rename_i h1 v hv;exact⟨(h1,v),hv,CM ⟨m,x',Hl,h',hr,q⟩⟩
 .cases hr
theorem MZ{k:Aa->IT}:W C (.O4 k) Q h↔W C (k (.map (some h.length))) Q (h++[.map []]):=by refine⟨λhw=>?_,yb⟩;obtain⟨m,x',Hl,h',hr,q⟩:=hw.succ;exact CM ⟨m,x',Hl,h',hr,q⟩
theorem PX{m key v:Aa}{k:IT}:W C (.J4 m key v k) Q h↔Xu (Sv h m key v) λh1=>W C k Q h1:=by
 refine⟨λhw=>?_,λ⟨h1,hv,hw⟩=>yc hv hw⟩;obtain⟨m,x',Hl,h',hr,q⟩:=hw.succ;simp only[IT.step] at hr;split at hr;·rename_i h1 hv;exact⟨h1,hv,CM ⟨m,x',Hl,h',hr,q⟩⟩
 .cases hr
theorem PY{z:Aa}{ok:Bool}{m key:Aa}{k:Aa->IT}:W C (.L5 z ok m key k) Q h↔Xu (Sw h z ok m key) λv=>W C (k v) Q h:=by
 refine⟨λhw=>?_,λ⟨h1,hv,hw⟩=>yd hv hw⟩;obtain⟨m,x',Hl,h',hr,q⟩:=hw.succ;simp only[IT.step] at hr;split at hr;·rename_i h1 hv;exact⟨h1,hv,CM ⟨m,x',Hl,h',hr,q⟩⟩
 .cases hr
theorem LF{g:Aa}{args:List Aa}{k:Aa->IT}:W C (.FH g args k) Q h↔Xu (Dt g args) λx=>W C (.call x.1 x.2 k) Q h:=by
 constructor
 .intro hw;obtain⟨m,x',Hl,h',hr,q⟩:=hw.succ;simp only[IT.step] at hr;split at hr;·rename_i f as e;refine⟨(f,as),e,CM ⟨m,x',Hl,h',?_,q⟩⟩;simp only[IT.step];exact hr
  .cases hr
 .rintro⟨⟨f,as⟩,e,hw⟩;obtain⟨m,x',Hl,h',hr,q⟩:=hw.succ;refine CM ⟨m,x',Hl,h',?_,q⟩;simp only[IT.step,e] at hr⊢;exact hr
theorem AQ{key:Nat}{t:IT}{k:EN->List Aa->IT}:W C (.Di key t k) Q h↔W C t (λx vs h1=>W C (k x vs) Q h1) h:=by
 refine⟨λhw=>?_,yf⟩;obtain⟨m,x',Hl,h',hr,q⟩:=hw.succ;simp only[IT.step] at hr;split at hr;·rename_i x vs h1 e;exact CM ⟨m,_,_,_,e,CM ⟨m,x',Hl,h',hr,q⟩⟩
 .cases hr
def BI(C:FJ)(f:FuncId)(args:List Aa)(h:Ag)(r:Aa)(h':Ag):Prop:=W C (B5 C f args) (λx vs h1=>x= .ret/\vs=[r]/\h1=h') h
theorem BI.ev{f:FuncId}{args:List Aa}{r:Aa}{h':Ag}(hr:BI C f args h r h'){R:Aa->Ag->Prop}(hR:R r h'):Ev C f args h R:=
 W.mono hr λ_ _ _ ⟨h1,h2,h3⟩=>⟨h1,r,h2,by rw[h3];exact hR⟩
theorem BI.call{f:FuncId}{args:List Aa}{r:Aa}{h':Ag}(hr:BI C f args h r h'){k:Aa->IT}:W C (.call f args k) Q h↔W C (k r) Q h':=by
 refine⟨λhw=>?_,λhw=>uQ (hr.ev hw)⟩;obtain⟨n,x1,vs1,h1,e1,rfl,rfl,rfl⟩:=hr;obtain⟨m,x',Hl,h2,e2,q⟩:=hw.succ;simp only[IT.step] at e2;split at e2;·rename_i r2 h3 e3;simp only[FJ.run] at e1 e3;have a1:=IT.Ip (NH n m) e1;have a2:=IT.Ip (MB n m) e3;rw[a1] at a2;cases a2;exact CM ⟨m,x',Hl,h2,e2,q⟩
 .cases e2
def JI(C:FJ)(f:FuncId)(args:List Aa)(r:Aa):Prop:=Ev C f args [] λx _=>x=r
theorem JI.Bk{f:FuncId}{args:List Aa}{r:Aa}(hr:JI C f args r)(ha:args.all Aa.Ls=true)(hf:r.Ls=true){k:Aa->IT}:W C (.Bk f args k) Q h↔W C (k r) Q h:=by
 refine⟨λhw=>?_,λhw=>ew ha (hr.mono λx _ e=>by rw[e];exact⟨hf,hw⟩)⟩;obtain⟨n,x1,vs1,h1,e1,rfl,y,rfl,rfl⟩:=hr;obtain⟨m,x',Hl,h2,e2,q⟩:=hw.succ;simp only[IT.step,ha,BO] at e2;simp only[FJ.run] at e1 e2;have a1:=IT.Ip (NH n m) e1;cases hc:IT.run (B5 C) m (B5 C f args) [] with
 |none=>rw[hc] at e2;cases e2
 |some z=>have a2:=IT.Ip (MB n m) hc;rw[a1] at a2;cases a2;rw[hc] at e2;simp only[hf,BO] at e2;exact CM ⟨m,x',Hl,h2,e2,q⟩
end
theorem iy{C:FJ}{t t':IT}{Q:Post}{h h':Ag}(e:t=t')(e2:h=h'):W C t Q h=W C t' Q h':=by rw[e,e2]
theorem wV{o:We}{args args':List Aa}{k:Aa->IT}(e:args=args'):IT.op o args k=IT.op o args' k:=by rw[e]
theorem aX{n:Nat}{v v':Aa}{k:List Aa->IT}(e:v=v'):IT.cells n v k=IT.cells n v' k:=by rw[e]
theorem rF{v v':Aa}{s t:IT}(e:v=v'):IT.AJ v s t=IT.AJ v' s t:=by rw[e]
theorem gA{n:Option Nat}{v v':Aa}{k:Aa->IT}(e:v=v'):IT.load n v k=IT.load n v' k:=by rw[e]
theorem aY{n:Nat}{p p' v v':Aa}{k:IT}(e1:p=p')(e:v=v'):IT.store n p v k=IT.store n p' v' k:=by rw[e,e1]
theorem aZ{n:Nat}{v v':Aa}{k:Aa->IT}(e:v=v'):IT.alloc n v k=IT.alloc n v' k:=by rw[e]
theorem gB{f:FuncId}{args args':List Aa}{k:Aa->IT}(e:args=args'):IT.call f args k=IT.call f args' k:=by rw[e]
theorem bA{f:FuncId}{args args':List Aa}{k:Aa->IT}(e:args=args'):IT.Bk f args k=IT.Bk f args' k:=by rw[e]
theorem bB{f f':Aa}{args args':List Aa}{k:Aa->IT}(e1:f=f')(e:args=args'):IT.FH f args k=IT.FH f' args' k:=by rw[e,e1]
theorem gC{key:Nat}{i i':List Aa}{b:List Aa->IT}{k:EN->List Aa->IT}(e:i=i'):IT.loop key i b k=IT.loop key i' b k:=by rw[e]
theorem gD{key:Nat}{b:IT}{k:EN->List Aa->IT}:IT.Di key b k=IT.Di key b k:=rfl
theorem rG{v v':Aa}{k:Aa->IT}(e:v=v'):IT.KW v k=IT.KW v' k:=by rw[e]
theorem bC{size bytes:Nat}{s s' x x':Aa}{k:Aa->IT}(e:s=s')(e1:x=x'):IT.Hw size bytes s x k=IT.Hw size bytes s' x' k:=by rw[e,e1]
theorem gE{size bytes:Nat}{s s' x x':Aa}{k:Aa->IT}(e:s=s')(e1:x=x'):IT.Fs size bytes s x k=IT.Fs size bytes s' x' k:=by rw[e,e1]
theorem rH{o:uF}{args args':List Aa}{k:Aa->IT}(e:args=args'):IT.mem o args k=IT.mem o args' k:=by rw[e]
theorem WI{size bytes:Nat}{s s' x x':Aa}{k:Aa->IT}(e:s=s')(e1:x=x'):IT.FX size bytes s x k=IT.FX size bytes s' x' k:=by rw[e,e1]
theorem bD{off:Nat}{p p':Aa}{k:IT}(e:p=p'):IT.Hy off p k=IT.Hy off p' k:=by rw[e]
theorem U3{s s':Aa}{k:Aa->IT}(e:s=s'):IT.Fb s k=IT.Fb s' k:=by rw[e]
theorem gF{m m' key key' v v':Aa}{k:IT}(e:m=m')(e1:key=key')(e2:v=v'):IT.J4 m key v k=IT.J4 m' key' v' k:=by rw[e,e1,e2]
theorem gG{z:Aa}{ok:Bool}{m m' key key':Aa}{k:Aa->IT}(e:m=m')(e1:key=key'):IT.L5 z ok m key k=IT.L5 z ok m' key' k:=by rw[e,e1]
attribute [congr] rE fZ iy wV aX rF gA aY aZ gB bA bB gC gD rG bD gE WI rH bC U3 gF gG
attribute [simp] Mk U2 OL MY QL Cu RO PT QK N4 KQ PU N5 N6 RP N7 PV LS RQ N8 K9 MZ PX PY LF AQ
section
variable{k:IntKind}{a b:Int}{s t:As}
@[simp] theorem wW:Aw (.int .eql) [.int k a,.int k b]=some (.bool (decide (a=b))):=by cases k<;>rfl
@[simp] theorem wX:Aw (.int .neq) [.int k a,.int k b]=some (.bool (decide (a≠b))):=by
 have e:Aw (.int .neq) [.int k a,.int k b]=some (.bool (!(a==b))):=by cases k<;>rfl
 rw[e];by_cases h:a=b<;>simp[h]
@[simp] theorem wY:Aw (.int .lss) [.int k a,.int k b]=some (.bool (decide (a<b))):=by cases k<;>rfl
@[simp] theorem wZ:Aw (.int .leq) [.int k a,.int k b]=some (.bool (decide (a<=b))):=by cases k<;>rfl
@[simp] theorem xA:Aw (.int .gtr) [.int k a,.int k b]=some (.bool (decide (b<a))):=by cases k<;>rfl
@[simp] theorem xB:Aw (.int .geq) [.int k a,.int k b]=some (.bool (decide (b<=a))):=by cases k<;>rfl
theorem Yz:Aw (.int .add) [.int k a,.int k b]=some (.int k (k.wrap (a+b))):=by cases k<;>rfl
theorem gH:Aw (.int .sub) [.int k a,.int k b]=some (.int k (k.wrap (a-b))):=by cases k<;>rfl
@[simp] theorem xC {b:Bool}:Aw (.un .not) [.bool b]=some (.bool (!b)):=rfl
@[simp] theorem YA:Aw (.str .eql) [.str s,.str t]=some (.bool (decide (s=t))):=by
 show some (Aa.bool (s==t))=_;congr 2
 by_cases h:s=t<;>simp[h]
@[simp] theorem lI:Aw (.str .neq) [.str s,.str t]=some (.bool (decide (s≠t))):=by
 show some (Aa.bool (!(s==t)))=_;congr 2
 by_cases h:s=t<;>simp[h]
@[simp] theorem lJ:Aw (.len true) [.str s]=some (.int .i64 s.length):=rfl
@[simp] theorem aIp {i:Int}:Aw .Rw [.str s,.int k i]=if 0<=i then(s[i.toNat]?).map λb=> .int .u8 b.toNat else none:=rfl
@[simp] theorem QM {off:Nat} {cs:List Aa}:Aw (.part off none) [.agg cs]=cs[off]?:=rfl
@[simp] theorem QN {off n:Nat} {cs:List Aa}:Aw (.part off (some n)) [.agg cs]=if off+n<=cs.length then some (.agg ((cs.drop off).take n)) else none:=rfl
@[simp] theorem xD {i:Nat} {vs:List Aa}:Aw (.ext i) [.tuple vs]=vs[i]?:=rfl
@[simp] theorem Pp {p:Nat×Nat}:Aw .KV [.ptr (some p)]=some (.ptr (some p)):=rfl
@[simp] theorem N9 {cs:List Aa}:Aw .KV [.CB cs]=some (.CB cs):=rfl
@[simp] theorem Oa {f:FuncId} {a b:List Aa}:Aw .KV [.func (.func f) a b]=some (.func (.func f) a b):=rfl
@[simp] theorem Pq {off:Nat} {cs:List Aa}:Aw (.Ec off) [.CB cs]=some (.CB (cs.drop off)):=rfl
@[simp] theorem QP {off id o:Nat}:Aw (.Ec off) [.ptr (some (id,o))]=some (.ptr (some (id,o+off))):=rfl
@[simp] theorem Xv {neg:Bool}:Aw (.Tb neg) [.ptr none,.ptr none]=some (.bool (true != neg)):=rfl
@[simp] theorem Xw {neg:Bool} {p:Nat×Nat}:Aw (.Tb neg) [.ptr (some p),.ptr none]=some (.bool (false != neg)):=rfl
@[simp] theorem Xx {neg:Bool} {p:Nat×Nat}:Aw (.Tb neg) [.ptr none,.ptr (some p)]=some (.bool (false != neg)):=rfl
@[simp] theorem xE {neg a b:Bool}:Aw (.beq neg) [.bool a,.bool b]=some (.bool ((a==b) != neg)):=rfl
@[simp] theorem aIq {c:Bool} {a b:Aa}:Aw .pick [.bool c,a,b]=some (if c then a else b):=rfl
@[simp] theorem T0 {l:IntKind}:Aw (.conv l) [.int k a]=some (.int l (l.wrap a)):=rfl
@[simp] theorem bE {zero args:List Aa} {places:List (Nat×Nat)}:Aw (.Bs zero places) args=if places.length=args.length then(AK zero (places.zip args)).map .agg else none:=rfl
@[simp] theorem PZ {neg:Bool} {ks:List FK} {x y:List Aa}:Aw (.geq neg ks) [.agg x,.agg y]=(DC ks x y).map λe=> .bool (e != neg):=rfl
@[simp] theorem xF:Aw (.Kn false) [.int k a,.int k b]=some (.int k (if b<a then b else a)):=by simp[Aw]
@[simp] theorem YB:Aw (.Kn true) [.int k a,.int k b]=some (.int k (if a<b then b else a)):=by simp[Aw]
@[simp] theorem U4 {h:Ag} {n:Option Nat} {cs:List Aa}:A9 h n (.CB cs)=ER cs 0 n:=rfl
@[simp] theorem Dz {off:Nat} {cs:List Aa}:ER cs off none=cs[off]?:=rfl
@[simp] theorem Kb {off n:Nat} {cs:List Aa}:ER cs off (some n)=if off+n<=cs.length then some (.agg ((cs.drop off).take n)) else none:=rfl
@[simp] theorem wrap_i64 (h1: -9223372036854775808<=a) (h2:a<9223372036854775808):IntKind.i64.wrap a=a:=by rw[IntKind.wrap_i64];omega
end
theorem OM{cs:List Aa}:Aa.cells (.agg cs)=cs:=rfl
theorem RR{k:IntKind}{n:Int}:Aa.cells (.int k n)=[.int k n]:=rfl
theorem RS{s:As}:Aa.cells (.str s)=[.str s]:=rfl
theorem P0{b:Bool}:Aa.cells (.bool b)=[.bool b]:=rfl
theorem RT{p:Option (Nat×Nat)}:Aa.cells (.ptr p)=[.ptr p]:=rfl
theorem P1{p:List Aa}:Aa.cells (.CB p)=[.CB p]:=rfl
theorem Ob:Aa.cells .slnil=[.slnil]:=rfl
theorem U5{z:Nat}{r:List (List Aa)}:Aa.cells (.sl z r)=[.sl z r]:=rfl
theorem RU{i o l z:Nat}:Aa.cells (.Ck i o l z)=[.Ck i o l z]:=rfl
theorem P2{f:Fn}{a b:List Aa}:Aa.cells (.func f a b)=[.func f a b]:=rfl
attribute [simp] AK DC Ko Dt OM RR RS P0 RT P1 Ob U5 RU P2
def AM(z:Nat)(Au:List (List Aa))(v:Aa):Prop:=v= .sl z Au\/(v= .slnil/\Au=[])
section
variable{z:Nat}{Au:List (List Aa)}{v:Aa}
theorem AM.mk:AM z Au (.sl z Au):= .inl rfl
theorem AM.nil:AM z [] .slnil:= .inr ⟨rfl,rfl⟩
theorem AM.cells(h:AM z Au v):v.cells=[v]:=by rcases h with rfl|⟨rfl,rfl⟩<;>rfl
theorem AM.len(h:AM z Au v):Aw (.len false) [v]=some (.int .i64 Au.length):=by rcases h with rfl|⟨rfl,rfl⟩<;>rfl
theorem AM.EE(h:AM z Au v){k:IntKind}{n:Nat}(hn:n<Au.length):Aw (.EE z) [v,.int k (n:Int)]=some (.CB Au[n]):=by
 rcases h with rfl|⟨rfl,rfl⟩
 .simp[Aw,elemOf,hn]
 .simp at hn
end
end Go.Am
end
section
namespace Go.Am
open Go
section
variable{C:FJ}{Q:Post}{h:Ag}
theorem bF{key:Nat}{vs:List Aa}{body:List Aa->IT}{k:EN->List Aa->IT}
  (hw:W C (body vs) (λx vs1 h1=>(x= .normal/\W C (.loop key vs1 body k) Q h1)\/(x≠ .normal/\W C (k x vs1) Q h1)) h):W C (.loop key vs body k) Q h:=by
 obtain⟨m,x,vs1,h1,hr,Ij⟩:=hw.succ;rcases Ij with⟨rfl,hw⟩|⟨hx,hw⟩
 .obtain⟨m',x',Hl,h',Fy,q⟩:=hw;refine CM ⟨max m m',x',Hl,h',?_,q⟩;have e1:=IT.JB (λt h r=>IT.Ip (fn:=B5 C) (NH m m')) _ _ _ hr;have e2:=IT.Ip (MB m m') Fy;simp only[IT.step];simp only[FJ.run] at*;rw[e1];exact e2
 .obtain⟨m',x',Hl,h',Fy,q⟩:=hw.succ;refine CM ⟨max m m',x',Hl,h',?_,q⟩;have e1:=IT.JB (λt h r=>IT.Ip (fn:=B5 C) (NH m m')) _ _ _ hr;have e2:=IT.JB (λt h r=>IT.Ip (fn:=B5 C) (MB m m')) _ _ _ Fy;simp only[IT.step];simp only[FJ.run] at*;rw[e1];cases x<;>first|exact absurd rfl hx|exact e2
def AF{σ:Type}(C:FJ)(enc:σ->List Aa)(DD:σ->Ag->Prop)(μ:σ->Nat)(k:EN->List Aa->IT)(Q:Post)(s:σ):Post:=
 λx vs h1=>(x= .normal/\∃s',vs=enc s'/\DD s' h1/\μ s'<μ s)\/(x≠ .normal/\W C (k x vs) Q h1)
variable{σ:Type}{enc:σ->List Aa}{DD:σ->Ag->Prop}{μ:σ->Nat}{k:EN->List Aa->IT}{s:σ}{vs:List Aa}
theorem AF.next(s':σ)(e:vs=enc s')(hi:DD s' h)(hl:μ s'<μ s):AF C enc DD μ k Q s .normal vs h:= .inl ⟨rfl,s',e,hi,hl⟩
theorem Pr{i:Nat}:AF C enc DD μ k Q s (.exit i) vs h↔W C (k (.exit i) vs) Q h:=by simp[AF]
theorem QQ:AF C enc DD μ k Q s .ret vs h↔W C (k .ret vs) Q h:=by simp[AF]
theorem Bd{key:Nat}{init:List Aa}{body:List Aa->IT}(enc:σ->List Aa)(DD:σ->Ag->Prop)(μ:σ->Nat)(s0:σ)(h0:init=enc s0)(hi:DD s0 h)
  (round:∀s h,DD s h->W C (body (enc s)) (AF C enc DD μ k Q s) h):W C (.loop key init body k) Q h:=by
 subst h0;have key:∀n s h,μ s=n->DD s h->W C (.loop key (enc s) body k) Q h:=by
  intro n;induction n using Nat.strongRecOn with
  |_ n ih=>
   intro s h hn hI;refine bF (W.mono (round s h hI) ?_);rintro x vs h1 (⟨rfl,s',rfl,vQ,hl⟩|⟨hx,hw⟩);·exact .inl ⟨rfl,ih _ (hn▸hl) s' h1 rfl vQ⟩
   .exact .inr ⟨hx,hw⟩
 exact key _ s0 h rfl hi
end
section
variable{k l:IntKind}{s:As}
theorem LG{n:Nat}(hn:n<s.length):Aw .Rw [.str s,.int k (n:Int)]=some (.int .u8 (s[n].toNat:Int)):=by simp[hn]
theorem BB{n:Nat}(hn:n<9223372036854775807):Aw (.int .add) [.int .i64 (n:Int),.int .i64 1]=some (.int .i64 ((n+1:Nat):Int)):=by rw[Yz,wrap_i64 (by omega) (by omega)];rfl
theorem Ho{n:Nat}(h0:0<n)(hn:n<9223372036854775807):Aw (.int .sub) [.int .i64 (n:Int),.int .i64 1]=some (.int .i64 ((n-1:Nat):Int)):=by rw[gH,wrap_i64 (by omega) (by omega)];congr 2;omega
theorem M0{a b z:Nat}(Wk:a<=b)(hb:b<=s.length):Aw (.Hv z true true true) [.str s,.int k (a:Int),.int l (b:Int)]=some (.str ((s.take b).drop a)):=by
 have e1:EM (b:Int) s.length=some b:=by unfold EM;rw[if_pos (by omega)];rfl
 have e2:EM (a:Int) b=some a:=by unfold EM;rw[if_pos (by omega)];rfl
 simp[Aw,Ja,DJ,e1,e2]
end
section
variable{z b:Nat}{r r2:List (List Aa)}{row:List Aa}{v v2:Aa}
theorem AM.xG(h:AM z r v)(hb:(r.length+1)*b<=AT):Aw (.append z b) [v,.sl z [row]]=some (.sl z (r++[row])):=by
 rcases h with rfl|⟨rfl,rfl⟩
 .simp[Aw,HF,DP,hb]
 .have:1*b<=AT:=by simpa using hb
  simp only[Ez] at this;simp[Aw,HF,DP,this]
theorem AM.HB(h:AM z r v)(h2:AM z r2 v2)(hb:(r.length+r2.length)*b<=AT):∃u,Aw (.append z b) [v,v2]=some u/\AM z (r++r2) u:=by
 have hnil:∃u,DP z b v []=some u/\AM z (r++[]) u:=by
  rcases h with rfl|⟨rfl,rfl⟩
  .exact⟨.sl z r,by simp[DP],by rw[Bv];exact .mk⟩
  .exact⟨_,rfl,.nil⟩
 rcases h2 with rfl|⟨rfl,rfl⟩
 .cases r2 with
  |nil=>obtain⟨u,e,hu⟩:=hnil;exact⟨u,by simpa[Aw,HF] using e,hu⟩
  |cons x l=>
   refine⟨.sl z (r++x::l),?_,.mk⟩;rcases h with rfl|⟨rfl,rfl⟩
   .simp only[Aw,HF,BO,DP];rw[if_pos ⟨trivial,hb⟩]
   .simp only[Aw,HF,BO,DP];rw[if_pos (by simpa using hb)];rfl
 .obtain⟨u,e,hu⟩:=hnil;exact⟨u,by simpa[Aw,HF] using e,hu⟩
theorem AM.KW(h:AM z r v){hp:Ag}:Kp hp v=some (hp,v):=by rcases h with rfl|⟨rfl,rfl⟩<;>rfl
theorem P3(s:As):Lu (B1 s)=some s:=by
 induction s with
 |nil=>rfl
 |cons c s ih=>have e:B1 (c::s)=[.int .u8 c.toNat]::B1 s:=rfl;rw[e,Lu,ih];simp
theorem AM.Tc{s:As}(h:AM 1 (B1 s) v):Aw .Tc [v]=some (.str s):=by
 rcases h with rfl|⟨rfl,h⟩
 .simp[Aw,Ud,P3]
 .have e:s=[]:=by simpa[B1] using h
  subst e;rfl
theorem Ps(s t:As):B1 (s++t)=B1 s++B1 t:=by simp[B1]
theorem WJ(s:As):(B1 s).length=s.length:=by simp[B1]
end
@[simp] theorem lK {z:Nat} {args:List Aa}:Aw (.By z) args=if args.all (λa=>a.cells.length==z)&&decide (args.length*z<=16777216) then some (.sl z (args.map (·.cells))) else none:=rfl
theorem La{a:Aa}{z:Nat}(h:a.cells.length=z)(hz:z<=16777216):Aw (.By z) [a]=some (.sl z [a.cells]):=by simp[h,hz]
theorem wrap_u8{a:Int}(h:0<=a/\a<=255):IntKind.u8.wrap a=a:=IntWalk.u8_in a h
theorem xH{a:Int}(h: -2147483648<=a/\a<=2147483647):IntKind.i32.wrap a=a:=IntWalk.i32_in a h
theorem Ab{C:FJ}{f:FuncId}{args:List Aa}{h h':Ag}{r:Aa}:BI C f args h r h'↔W C (B5 C f args) (λx vs h1=>x= .ret/\vs=[r]/\h1=h') h:=Iff.rfl
abbrev GQ(C:FJ)(f:FuncId)(t:Aa->IT):Prop:=∀a0,B5 C f [a0]=t a0
abbrev DU(C:FJ)(f:FuncId)(t:Aa->Aa->IT):Prop:=∀a0 a1,B5 C f [a0,a1]=t a0 a1
abbrev LU(C:FJ)(f:FuncId)(t:Aa->Aa->Aa->IT):Prop:=∀a0 a1 a2,B5 C f [a0,a1,a2]=t a0 a1 a2
abbrev dk(C:FJ)(f:FuncId)(t:Aa->Aa->Aa->Aa->IT):Prop:=∀a0 a1 a2 a3,B5 C f [a0,a1,a2,a3]=t a0 a1 a2 a3
abbrev Tq5(C:FJ)(f:FuncId)(t:Aa->Aa->Aa->Aa->Aa->IT):Prop:=∀a0 a1 a2 a3 a4,B5 C f [a0,a1,a2,a3,a4]=t a0 a1 a2 a3 a4
def IT.fa(p:Aa)(k:Nat)(K:Aa->Aa->IT):IT:= .op .KV [p] λa=> .op (.Ec k) [a] λb=>K a b
def IT.BW(p:Aa)(k:Nat)(K:Aa->Aa->Aa->IT):IT:= .op .KV [p] λa=> .op (.Ec k) [a] λb=> .load none b λc=>K a b c
def IT.fl(p:Aa)(k:Nat)(K:Aa->Aa->IT):IT:= .op (.Ec k) [p] λa=> .load none a λb=>K a b
def nx(A R:List Aa->IT):EN->List Aa->IT:=λx c=>match x with
 | .normal=>A c
 | .exit _=> .fail
 | .ret=>R c
def lx(k:Nat)(A R:List Aa->IT):EN->List Aa->IT:=λx c=>match x with
 | .normal=> .fail
 | .exit i=>if i=k then A c else .fail
 | .ret=>R c
section
variable{C:FJ}{Q:Post}{h:Ag}{p:Aa}{k:Nat}{A R:List Aa->IT}{c:List Aa}
theorem aEe{K:Aa->Aa->IT}:W C (IT.fa p k K) Q h=W C (.op .KV [p] λa=> .op (.Ec k) [a] λb=>K a b) Q h:=rfl
theorem uz{K:Aa->Aa->Aa->IT}:W C (IT.BW p k K) Q h=W C (.op .KV [p] λa=> .op (.Ec k) [a] λb=> .load none b λc=>K a b c) Q h:=rfl
theorem aEf{K:Aa->Aa->IT}:W C (IT.fl p k K) Q h=W C (.op (.Ec k) [p] λa=> .load none a λb=>K a b) Q h:=rfl
theorem aEg:nx A R .normal c=A c:=rfl
theorem aEh:nx A R .ret c=R c:=rfl
theorem aEi:lx k A R (.exit k) c=A c:=if_pos rfl
theorem aEj:lx k A R .ret c=R c:=rfl
end
def C4:As->As->List As
 |cur,[]=>[cur]
 |cur,c::r=>if c=32 then cur::C4 [] r else C4 (cur++[c]) r
def Ml:List As:=C4 [] aSy
def swv(s:Aa)(t e:IT):List (List UInt8)->IT
 |[]=>e
 |c::cs=>.op (.str .eql) [s,.str c] λv=>.AJ v t (swv s t e cs)
abbrev IT.rr(l:List Aa):IT:=.ret .ret l
abbrev IT.rn(l:List Aa):IT:=.ret .normal l
abbrev IT.rx(n:Nat)(l:List Aa):IT:=.ret (.exit n) l
abbrev IT.ea(n:Nat)(l:List Aa)(k:Aa->IT):IT:=.op (.EE n) l k
abbrev IT.ld(p:Aa)(k:Aa->IT):IT:=.load none p k
abbrev IT.ie(l:List Aa)(k:Aa->IT):IT:=.op (.int .eql) l k
abbrev IT.iq(l:List Aa)(k:Aa->IT):IT:=.op (.int .neq) l k
abbrev IT.il(l:List Aa)(k:Aa->IT):IT:=.op (.int .lss) l k
abbrev IT.ig(l:List Aa)(k:Aa->IT):IT:=.op (.int .gtr) l k
abbrev IT.ia(l:List Aa)(k:Aa->IT):IT:=.op (.int .add) l k
abbrev IT.ib(l:List Aa)(k:Aa->IT):IT:=.op (.int .sub) l k
abbrev IT.ih(l:List Aa)(k:Aa->IT):IT:=.op (.int .geq) l k
abbrev IT.ik(l:List Aa)(k:Aa->IT):IT:=.op (.int .leq) l k
abbrev IT.se(l:List Aa)(k:Aa->IT):IT:=.op (.str .eql) l k
abbrev IT.ln(l:List Aa)(k:Aa->IT):IT:=.op (.len false) l k
abbrev IT.lt(l:List Aa)(k:Aa->IT):IT:=.op (.len true) l k
abbrev IT.nt(l:List Aa)(k:Aa->IT):IT:=.op (.un .not) l k
abbrev i0:Aa:=I 0
abbrev i1:Aa:=I 1
abbrev tu:Aa:=.tuple []
abbrev pn:Aa:=.ptr none
def Ts(c:List Aa):Aa:=.agg [g c 0,g c 1,g c 2,g c 3,g c 4,g c 5,g c 6,g c 7,g c 8,g c 9,g c 10,g c 11,g c 12]
theorem a13_e{c:List Aa}:Ts c=.agg [g c 0,g c 1,g c 2,g c 3,g c 4,g c 5,g c 6,g c 7,g c 8,g c 9,g c 10,g c 11,g c 12]:=rfl
def tX(c:List Aa):Aa:=.agg [g c 0,g c 1,g c 2,g c 3,g c 4,g c 5,g c 6,g c 7,g c 8,g c 9,g c 10,g c 11]
theorem a12_e{c:List Aa}:tX c=.agg [g c 0,g c 1,g c 2,g c 3,g c 4,g c 5,g c 6,g c 7,g c 8,g c 9,g c 10,g c 11]:=rfl
def a9(c:List Aa):Aa:=.agg [g c 0,g c 1,g c 2,g c 3,g c 4,g c 5,g c 6,g c 7,g c 8]
theorem a9_e{c:List Aa}:a9 c=.agg [g c 0,g c 1,g c 2,g c 3,g c 4,g c 5,g c 6,g c 7,g c 8]:=rfl
def a6(c:List Aa):Aa:=.agg [g c 0,g c 1,g c 2,g c 3,g c 4,g c 5]
theorem a6_e{c:List Aa}:a6 c=.agg [g c 0,g c 1,g c 2,g c 3,g c 4,g c 5]:=rfl
def a4(c:List Aa):Aa:=.agg [g c 0,g c 1,g c 2,g c 3]
theorem a4_e{c:List Aa}:a4 c=.agg [g c 0,g c 1,g c 2,g c 3]:=rfl
def a3(c:List Aa):Aa:=.agg [g c 0,g c 1,g c 2]
theorem a3_e{c:List Aa}:a3 c=.agg [g c 0,g c 1,g c 2]:=rfl
theorem AA:type_of%(And.intro @a13_e (And.intro @a12_e (And.intro @a9_e (And.intro @a6_e (And.intro @a4_e (And.intro @a3_e ((And.intro @aEe (And.intro @uz (And.intro @aEf (And.intro @aEg (And.intro @aEh (And.intro @aEi (And.intro @aEj (And.intro @Mk (And.intro @U2 (And.intro @OL (And.intro @MY (And.intro @QL (And.intro @RO (And.intro @PT (And.intro @QK (And.intro @N4 (And.intro @KQ (And.intro @PU (And.intro @N5 (And.intro @N6 (And.intro @RP (And.intro @N7 (And.intro @PV (And.intro @LS (And.intro @RQ (And.intro @N8 (And.intro @K9 (And.intro @MZ (And.intro @PX (And.intro @PY (And.intro @LF (And.intro @AQ (And.intro @wW (And.intro @wX (And.intro @wY (And.intro @wZ (And.intro @xA (And.intro @xB (And.intro @xC (And.intro @YA (And.intro @lI (And.intro @lJ (And.intro @QM (And.intro @QN (And.intro @xD (And.intro @Pp (And.intro @N9 (And.intro @Oa (And.intro @Pq (And.intro @QP (And.intro @Xv (And.intro @Xw (And.intro @Xx (And.intro @xE (And.intro @bE (And.intro @U4 (And.intro @Dz (And.intro @Kb (And.intro @List.getD_cons_zero.{0} (And.intro @List.getD_cons_succ.{0} (And.intro @JR.{0} (And.intro @tN.{0} (And.intro @Qg.{0} (And.intro @List.drop_succ_cons.{0} (And.intro @List.drop_nil.{0} (And.intro @JQ.{0} (And.intro @aIc.{0} (And.intro @Bf.{0} (And.intro @BU.{0} (And.intro @CC.{0} (And.intro @BD.{0} (And.intro @List.zip_cons_cons.{0,0} (And.intro @List.zip_nil_right.{0,0} (And.intro @BT.{0,0} (And.intro @Option.map_none.{0,0} (And.intro @BJ (And.intro @OM (And.intro @RR (And.intro @RS (And.intro @P0 (And.intro @RT (And.intro @P1 (And.intro @Ob (And.intro @U5 (And.intro @RU (And.intro @P2 (And.intro @and_self (And.intro @NF (And.intro @LZ (And.intro @BO.{1} (And.intro @Ef.{1} (And.intro @Pr (@QQ)))))))))))))))))))))))))))))))))))))))))))))))))))))))))))))))))))))))))))))))))))))))))))))))))))):=And.intro @a13_e (And.intro @a12_e (And.intro @a9_e (And.intro @a6_e (And.intro @a4_e (And.intro @a3_e (And.intro @aEe (And.intro @uz (And.intro @aEf (And.intro @aEg (And.intro @aEh (And.intro @aEi (And.intro @aEj (And.intro @Mk (And.intro @U2 (And.intro @OL (And.intro @MY (And.intro @QL (And.intro @RO (And.intro @PT (And.intro @QK (And.intro @N4 (And.intro @KQ (And.intro @PU (And.intro @N5 (And.intro @N6 (And.intro @RP (And.intro @N7 (And.intro @PV (And.intro @LS (And.intro @RQ (And.intro @N8 (And.intro @K9 (And.intro @MZ (And.intro @PX (And.intro @PY (And.intro @LF (And.intro @AQ (And.intro @wW (And.intro @wX (And.intro @wY (And.intro @wZ (And.intro @xA (And.intro @xB (And.intro @xC (And.intro @YA (And.intro @lI (And.intro @lJ (And.intro @QM (And.intro @QN (And.intro @xD (And.intro @Pp (And.intro @N9 (And.intro @Oa (And.intro @Pq (And.intro @QP (And.intro @Xv (And.intro @Xw (And.intro @Xx (And.intro @xE (And.intro @bE (And.intro @U4 (And.intro @Dz (And.intro @Kb (And.intro @List.getD_cons_zero.{0} (And.intro @List.getD_cons_succ.{0} (And.intro @JR.{0} (And.intro @tN.{0} (And.intro @Qg.{0} (And.intro @List.drop_succ_cons.{0} (And.intro @List.drop_nil.{0} (And.intro @JQ.{0} (And.intro @aIc.{0} (And.intro @Bf.{0} (And.intro @BU.{0} (And.intro @CC.{0} (And.intro @BD.{0} (And.intro @List.zip_cons_cons.{0,0} (And.intro @List.zip_nil_right.{0,0} (And.intro @BT.{0,0} (And.intro @Option.map_none.{0,0} (And.intro @BJ (And.intro @OM (And.intro @RR (And.intro @RS (And.intro @P0 (And.intro @RT (And.intro @P1 (And.intro @Ob (And.intro @U5 (And.intro @RU (And.intro @P2 (And.intro @and_self (And.intro @NF (And.intro @LZ (And.intro @BO.{1} (And.intro @Ef.{1} (And.intro @Pr (@QQ))))))))))))))))))))))))))))))))))))))))))))))))))))))))))))))))))))))))))))))))))))))))))))))))))
theorem Bi:type_of%(And.intro @I9.{0} (And.intro @beq_self_eq_true.{0} (And.intro @kD (And.intro @Bool.bne_false (And.intro @kC (And.intro @JS (And.intro @Aq (And.intro @An (And.intro @Ak (And.intro @Aj (And.intro @Bn (And.intro @Nat.zero_lt_succ (And.intro @BT.{0,0} (@List.take_nil.{0})))))))))))))):=And.intro @I9.{0} (And.intro @beq_self_eq_true.{0} (And.intro @kD (And.intro @Bool.bne_false (And.intro @kC (And.intro @JS (And.intro @Aq (And.intro @An (And.intro @Ak (And.intro @Aj (And.intro @Bn (And.intro @Nat.zero_lt_succ (And.intro @BT.{0,0} (@List.take_nil.{0})))))))))))))
theorem aaS:type_of%@Ax.{0}:=@Ax.{0}
theorem IZ:type_of%(And.intro @D8 (And.intro @Fi (And.intro @Bool.and_true (And.intro @Bool.true_and (And.intro @Bool.and_false (And.intro @Bool.false_and (And.intro @Bool.or_true (And.intro @df (And.intro @Bool.or_false (And.intro @Jn (And.intro @Ih.{0} (And.intro @Option.isSome_some.{0} (And.intro @Option.getD_none.{0} (And.intro @Option.isSome_none.{0} (And.intro @BO.{1} (And.intro @Ef.{1} (And.intro @C2 (And.intro @NF (And.intro @and_false (And.intro @LZ (And.intro @false_and (And.intro @Int.lt_irrefl (@Dg))))))))))))))))))))))):=And.intro @D8 (And.intro @Fi (And.intro @Bool.and_true (And.intro @Bool.true_and (And.intro @Bool.and_false (And.intro @Bool.false_and (And.intro @Bool.or_true (And.intro @df (And.intro @Bool.or_false (And.intro @Jn (And.intro @Ih.{0} (And.intro @Option.isSome_some.{0} (And.intro @Option.getD_none.{0} (And.intro @Option.isSome_none.{0} (And.intro @BO.{1} (And.intro @Ef.{1} (And.intro @C2 (And.intro @NF (And.intro @and_false (And.intro @LZ (And.intro @false_and (And.intro @Int.lt_irrefl (@Dg))))))))))))))))))))))
abbrev Pt(i o:Nat):Aa:=.ptr (some (i,o))
end Go.Am
end
