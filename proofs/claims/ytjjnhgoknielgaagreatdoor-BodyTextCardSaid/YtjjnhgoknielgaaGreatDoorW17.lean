/- Lemmas -/
import Derived.Test.YtjjnhgoknielgaaGreatDoorW1
import Derived.IntWalk
set_option linter.all false
section
namespace Go.Am
open Go
section
variable{C:Gw}{Q:Lt}{h:Ai}
def dB{x:GD}{vs:List Ab}:W C (.ret x vs) Q h↔Q x vs h:=by refine⟨λhw=>?_,aCE⟩;obtain⟨n,x',Iy,h',hr,q⟩:=hw.succ;simp only[IT.step,BO,Mt] at hr;obtain⟨rfl,rfl,rfl⟩:=hr;exact q
def Yv:W C .fail Q h↔False:=by refine⟨λhw=>?_,λh=>h.elim⟩;obtain⟨n,x',Iy,h',hr,q⟩:=hw.succ;simp[IT.step] at hr
def dC{Z:Type}(o:Option Z)(f:Z->Prop):Prop:=∃v,o=some v/\f v
def qz{Z:Type}{o o':Option Z}{f:Z->Prop}(h:o=o'):dC o f=dC o' f:=by rw[h]
def Nk{Z:Type}{v:Z}{f:Z->Prop}:dC (some v) f=f v:=propext (by
 constructor;.rintro⟨_,e,h⟩;cases e;exact h
 .intro h;exact⟨v,rfl,h⟩)
def oS{Z:Type}{f:Z->Prop}:dC (none:Option Z) f=False:=propext (by
 constructor;.rintro⟨_,e,_⟩;cases e
 .exact False.elim)
def Yw{o:Z6}{args:List Ab}{k:Ab->IT}:W C (.op o args k) Q h↔dC (AE o args) λv=>W C (k v) Q h:=by
 refine⟨λhw=>?_,λ⟨v,hv,hw⟩=>aIR hv hw⟩;obtain⟨n,x',Iy,h',hr,q⟩:=hw.succ;simp only[IT.step] at hr;split at hr;.rename_i v hv;exact⟨v,hv,C6 ⟨n,x',Iy,h',hr,q⟩⟩
 .cases hr
def QM{n:Nat}{v:Ab}{k:List Ab->IT}:W C (.cells n v k) Q h↔dC (if v.cells.length=n then some v.cells else none) λl=>W C (k l) Q h:=by
 constructor
 .intro hw;obtain⟨m,x',Iy,h',hr,q⟩:=hw.succ;simp only[IT.step] at hr;split at hr;.rename_i hv;exact⟨_,Ae hv,C6 ⟨m,x',Iy,h',hr,q⟩⟩
  .cases hr
 .rintro⟨l,e,hw⟩;split at e;.rename_i hv;cases e;exact yQ hv hw
  .cases e
def aP(v:Ab)(p q:Prop):Prop:=(v= .bool true/\p)\/(v= .bool false/\q)
def uJ{v v':Ab}{p q:Prop}(h:v=v'):aP v p q=aP v' p q:=by rw[h]
def dD{p q:Prop}:aP (.bool true) p q=p:=by simp[aP]
def Yx{p q:Prop}:aP (.bool false) p q=q:=by simp[aP]
def DE{b:Bool}{p q:Prop}:aP (.bool b) p q↔(b=true->p)/\(b=false->q):=by cases b<;>simp[aP]
def Yy{c:Prop}[Decidable c]{p q:Prop}:aP (.bool (decide c)) p q↔(c->p)/\(¬c->q):=by rw[DE];simp
def ON{c:Ab}{t e:IT}:W C (.A0 c t e) Q h↔aP c (W C t Q h) (W C e Q h):=by
 constructor
 .intro hw;obtain⟨m,x',Iy,h',hr,q⟩:=hw.succ;simp only[IT.step] at hr;split at hr;.exact .inl ⟨rfl,C6 ⟨m,x',Iy,h',hr,q⟩⟩
  .exact .inr ⟨rfl,C6 ⟨m,x',Iy,h',hr,q⟩⟩
  .cases hr
 .rintro(⟨rfl,hw⟩|⟨rfl,hw⟩);.exact yR (λ_=>hw) λh=>by cases h
  .exact yR (λh=>by cases h) λ_=>hw
def Yz{n:Option Nat}{p:Ab}{k:Ab->IT}:W C (.load n p k) Q h↔dC (Bp h n p) λv=>W C (k v) Q h:=by
 refine⟨λhw=>?_,λ⟨v,hv,hw⟩=>ym hv hw⟩;obtain⟨m,x',Iy,h',hr,q⟩:=hw.succ;simp only[IT.step] at hr;split at hr;.rename_i v hv;exact⟨v,hv,C6 ⟨m,x',Iy,h',hr,q⟩⟩
 .cases hr
def VS{n:Nat}{p v:Ab}{k:IT}:W C (.store n p v k) Q h↔dC (Dd h n p v) λh1=>W C k Q h1:=by
 refine⟨λhw=>?_,λ⟨v,hv,hw⟩=>yS hv hw⟩;obtain⟨m,x',Iy,h',hr,q⟩:=hw.succ;simp only[IT.step] at hr;split at hr;.rename_i h1 hv;exact⟨h1,hv,C6 ⟨m,x',Iy,h',hr,q⟩⟩
 .cases hr
def VT{n:Nat}{v:Ab}{k:Ab->IT}:W C (.alloc n v k) Q h↔dC (if v.cells.length=n then some v.cells else none) λl=>W C (k (.ptr (some (h.length,0)))) Q (h++[.cells l]):=by
 constructor
 .intro hw;obtain⟨m,x',Iy,h',hr,q⟩:=hw.succ;simp only[IT.step,XF] at hr;by_cases hv:v.cells.length=n;.rw[Ae hv] at hr;exact⟨_,Ae hv,C6 ⟨m,x',Iy,h',hr,q⟩⟩
  .rw[Aa hv] at hr;cases hr
 .rintro⟨l,e,hw⟩;split at e;.rename_i hv;cases e;exact yT hv hw
  .cases e
def dE{u:Ab}{k:Ab->IT}:W C (.UF u k) Q h↔dC (L6 h u) λx=>W C (k x.2) Q x.1:=by
 refine⟨λhw=>?_,λ⟨(h1,v),hv,hw⟩=>aCF hv hw⟩;obtain⟨m,x',Iy,h',hr,q⟩:=hw.succ;simp only[IT.step] at hr;split at hr;.rename_i h1 v hv;exact⟨(h1,v),hv,C6 ⟨m,x',Iy,h',hr,q⟩⟩
 .cases hr
def VU{off:Nat}{p:Ab}{k:IT}:W C (.Ja off p k) Q h↔dC (Lq h off p) λh1=>W C k Q h1:=by
 refine⟨λhw=>?_,λ⟨h1,hv,hw⟩=>yV hv hw⟩;obtain⟨m,x',Iy,h',hr,q⟩:=hw.succ;simp only[IT.step] at hr;split at hr;.rename_i h1 hv;exact⟨h1,hv,C6 ⟨m,x',Iy,h',hr,q⟩⟩
 .cases hr
def VV{size bytes:Nat}{s x:Ab}{k:Ab->IT}:W C (.Ks size bytes s x k) Q h↔dC (Lp h size bytes s x) λx=>W C (k x.2) Q x.1:=by
 refine⟨λhw=>?_,λ⟨(h1,v),hv,hw⟩=>yU hv hw⟩;obtain⟨m,x',Iy,h',hr,q⟩:=hw.succ;simp only[IT.step] at hr;split at hr;.rename_i h1 v hv;exact⟨(h1,v),hv,C6 ⟨m,x',Iy,h',hr,q⟩⟩
 .cases hr
def YA{size bytes:Nat}{s x:Ab}{k:Ab->IT}:W C (.GZ size bytes s x k) Q h↔dC (Hk h size bytes s x) λx=>W C (k x.2) Q x.1:=by
 refine⟨λhw=>?_,λ⟨(h1,v),hv,hw⟩=>yt hv hw⟩;obtain⟨m,x,Iy,h',hr,q⟩:=hw.succ;simp only[IT.step] at hr;split at hr;.rename_i h1 v hv;exact⟨(h1,v),hv,C6 ⟨m,x,Iy,h',hr,q⟩⟩
 .cases hr
def Sf{size bytes:Nat}{s x:Ab}{k:Ab->IT}:W C (.GW size bytes s x k) Q h↔dC (R4 h size bytes s x) λv=>W C (k v) Q h:=by
 refine⟨λhw=>?_,λ⟨v,hv,hw⟩=>cC hv hw⟩;obtain⟨m,x,Iy,h',hr,q⟩:=hw.succ;simp only[IT.step] at hr;split at hr;.rename_i v hv;exact⟨v,hv,C6 ⟨m,x,Iy,h',hr,q⟩⟩
 .cases hr
def dF{o:yd}{args:List Ab}{k:Ab->IT}:W C (.mem o args k) Q h↔dC (Ey o h args) λx=>W C (k x.2) Q x.1:=by
 refine⟨λhw=>?_,λ⟨(h1,v),hv,hw⟩=>aCG hv hw⟩;obtain⟨n,x,vs,h',hr,q⟩:=hw.succ;simp only[IT.step] at hr;split at hr;.rename_i h1 v hv;exact⟨(h1,v),hv,C6 ⟨n,x,vs,h',hr,q⟩⟩
 .cases hr
def QN{s:Ab}{k:Ab->IT}:W C (.Fq s k) Q h↔dC (JD h s) λx=>W C (k x.2) Q x.1:=by
 refine⟨λhw=>?_,λ⟨(h1,v),hv,hw⟩=>XS hv hw⟩;obtain⟨m,x',Iy,h',hr,q⟩:=hw.succ;simp only[IT.step] at hr;split at hr;.rename_i h1 v hv;exact⟨(h1,v),hv,C6 ⟨m,x',Iy,h',hr,q⟩⟩
 .cases hr
def SF{k:Ab->IT}:W C (.Oy k) Q h↔W C (k (.map (some h.length))) Q (h++[.map []]):=by refine⟨λhw=>?_,yo⟩;obtain⟨m,x',Iy,h',hr,q⟩:=hw.succ;exact C6 ⟨m,x',Iy,h',hr,q⟩
def YB{m key v:Ab}{k:IT}:W C (.Iw m key v k) Q h↔dC (R2 h m key v) λh1=>W C k Q h1:=by
 refine⟨λhw=>?_,λ⟨h1,hv,hw⟩=>yp hv hw⟩;obtain⟨m,x',Iy,h',hr,q⟩:=hw.succ;simp only[IT.step] at hr;split at hr;.rename_i h1 hv;exact⟨h1,hv,C6 ⟨m,x',Iy,h',hr,q⟩⟩
 .cases hr
def YC{z:Ab}{ok:Bool}{m key:Ab}{k:Ab->IT}:W C (.M8 z ok m key k) Q h↔dC (P6 h z ok m key) λv=>W C (k v) Q h:=by
 refine⟨λhw=>?_,λ⟨h1,hv,hw⟩=>yq hv hw⟩;obtain⟨m,x',Iy,h',hr,q⟩:=hw.succ;simp only[IT.step] at hr;split at hr;.rename_i h1 hv;exact⟨h1,hv,C6 ⟨m,x',Iy,h',hr,q⟩⟩
 .cases hr
def N2{g:Ab}{args:List Ab}{k:Ab->IT}:W C (.EJ g args k) Q h↔dC (CR g args) λx=>W C (.call x.1 x.2 k) Q h:=by
 constructor
 .intro hw;obtain⟨m,x',Iy,h',hr,q⟩:=hw.succ;simp only[IT.step] at hr;split at hr;.rename_i f as e;refine⟨(f,as),e,C6 ⟨m,x',Iy,h',?_,q⟩⟩;simp only[IT.step];exact hr
  .cases hr
 .rintro⟨⟨f,as⟩,e,hw⟩;obtain⟨m,x',Iy,h',hr,q⟩:=hw.succ;refine C6 ⟨m,x',Iy,h',?_,q⟩;simp only[IT.step,e] at hr⊢;exact hr
def FE{key:Nat}{t:IT}{k:GD->List Ab->IT}:W C (.GY key t k) Q h↔W C t (λx vs h1=>W C (k x vs) Q h1) h:=by
 refine⟨λhw=>?_,yv⟩;obtain⟨m,x',Iy,h',hr,q⟩:=hw.succ;simp only[IT.step] at hr;split at hr;.rename_i x vs h1 e;exact C6 ⟨m,_,_,_,e,C6 ⟨m,x',Iy,h',hr,q⟩⟩
 .cases hr
def CD(C:Gw)(f:FuncId)(args:List Ab)(h:Ai)(r:Ab)(h':Ai):Prop:=W C (Cf C f args) (λx vs h1=>x= .ret/\vs=[r]/\h1=h') h
def CD.ev{f:FuncId}{args:List Ab}{r:Ab}{h':Ai}(hr:CD C f args h r h'){R:Ab->Ai->Prop}(hR:R r h'):Ev C f args h R:=
 W.mono hr λ_ _ _ ⟨h1,h2,h3⟩=>⟨h1,r,h2,by rw[h3];exact hR⟩
def CD.Af{f:FuncId}{args:List Ab}{r:Ab}{h':Ai}(hr:CD C f args h r h'){k:Ab->IT}:W C (.call f args k) Q h↔W C (k r) Q h':=by
 refine⟨λhw=>?_,λhw=>yu (hr.ev hw)⟩;obtain⟨n,j,i,h1,g,rfl,rfl,rfl⟩:=hr;obtain⟨m,x',Iy,h2,d,q⟩:=hw.succ;simp only[IT.step] at d;split at d;.rename_i r2 h3 e;simp only[Gw.run] at g e;have a1:=IT.IL (Iu n m) g;have a2:=IT.IL (HP n m) e;rw[a1] at a2;cases a2;exact C6 ⟨m,x',Iy,h2,d,q⟩
 .cases d
def NL(C:Gw)(f:FuncId)(args:List Ab)(r:Ab):Prop:=Ev C f args [] λx _=>x=r
def NL.Bz{f:FuncId}{args:List Ab}{r:Ab}(hr:NL C f args r)(ha:args.all Ab.NI=true)(hf:r.NI=true){k:Ab->IT}:W C (.Bz f args k) Q h↔W C (k r) Q h:=by
 refine⟨λhw=>?_,λhw=>ſ ha (hr.mono λx _ e=>by rw[e];exact⟨hf,hw⟩)⟩;obtain⟨n,j,i,h1,g,rfl,y,rfl,rfl⟩:=hr;obtain⟨m,x',Iy,h2,d,q⟩:=hw.succ;simp only[IT.step,ha,BN] at d;simp only[Gw.run] at g d;have a1:=IT.IL (Iu n m) g;cases hc:IT.run (Cf C) m (Cf C f args) [] with
 |none=>rw[hc] at d;cases d
 |some z=>have a2:=IT.IL (HP n m) hc;rw[a1] at a2;cases a2;rw[hc] at d;simp only[hf,BN] at d;exact C6 ⟨m,x',Iy,h2,d,q⟩
end
def aAQ{C:Gw}{t t':IT}{Q:Lt}{h h':Ai}(e:t=t')(d:h=h'):W C t Q h=W C t' Q h':=by rw[e,d]
def Ç{o:Z6}{args args':List Ab}{k:Ab->IT}(e:args=args'):IT.op o args k=IT.op o args' k:=by rw[e]
def oT{n:Nat}{v v':Ab}{k:List Ab->IT}(e:v=v'):IT.cells n v k=IT.cells n v' k:=by rw[e]
def q_{v v':Ab}{s t:IT}(e:v=v'):IT.A0 v s t=IT.A0 v' s t:=by rw[e]
def uK{n:Option Nat}{v v':Ab}{k:Ab->IT}(e:v=v'):IT.load n v k=IT.load n v' k:=by rw[e]
def oU{n:Nat}{p p' v v':Ab}{k:IT}(d:p=p')(e:v=v'):IT.store n p v k=IT.store n p' v' k:=by rw[e,d]
def oV{n:Nat}{v v':Ab}{k:Ab->IT}(e:v=v'):IT.alloc n v k=IT.alloc n v' k:=by rw[e]
def uL{f:FuncId}{args args':List Ab}{k:Ab->IT}(e:args=args'):IT.call f args k=IT.call f args' k:=by rw[e]
def oW{f:FuncId}{args args':List Ab}{k:Ab->IT}(e:args=args'):IT.Bz f args k=IT.Bz f args' k:=by rw[e]
def oX{f f':Ab}{args args':List Ab}{k:Ab->IT}(d:f=f')(e:args=args'):IT.EJ f args k=IT.EJ f' args' k:=by rw[e,d]
def uM{key:Nat}{i d:List Ab}{b:List Ab->IT}{k:GD->List Ab->IT}(e:i=d):IT.loop key i b k=IT.loop key d b k:=by rw[e]
def uN{key:Nat}{b:IT}{k:GD->List Ab->IT}:IT.GY key b k=IT.GY key b k:=rfl
def rh{v v':Ab}{k:Ab->IT}(e:v=v'):IT.UF v k=IT.UF v' k:=by rw[e]
def oY{size bytes:Nat}{s s' x x':Ab}{k:Ab->IT}(e:s=s')(d:x=x'):IT.Ks size bytes s x k=IT.Ks size bytes s' x' k:=by rw[e,d]
def uO{size bytes:Nat}{s s' x x':Ab}{k:Ab->IT}(e:s=s')(d:x=x'):IT.GZ size bytes s x k=IT.GZ size bytes s' x' k:=by rw[e,d]
def rj{o:yd}{args args':List Ab}{k:Ab->IT}(e:args=args'):IT.mem o args k=IT.mem o args' k:=by rw[e]
def aQ{size bytes:Nat}{s s' x x':Ab}{k:Ab->IT}(e:s=s')(d:x=x'):IT.GW size bytes s x k=IT.GW size bytes s' x' k:=by rw[e,d]
def oZ{off:Nat}{p p':Ab}{k:IT}(e:p=p'):IT.Ja off p k=IT.Ja off p' k:=by rw[e]
def YD{s s':Ab}{k:Ab->IT}(e:s=s'):IT.Fq s k=IT.Fq s' k:=by rw[e]
def uP{m m' key key' v v':Ab}{k:IT}(e:m=m')(f:key=key')(d:v=v'):IT.Iw m key v k=IT.Iw m' key' v' k:=by rw[e,f,d]
def uQ{z:Ab}{ok:Bool}{m m' key key':Ab}{k:Ab->IT}(e:m=m')(d:key=key'):IT.M8 z ok m key k=IT.M8 z ok m' key' k:=by rw[e,d]
attribute [congr] qz uJ aAQ Ç oT q_ uK oU oV uL oW oX uM uN rh oZ uO aQ rj oY YD uP uQ
attribute [simp] Nk oS dD Yx Yy DE dB Yv Yw QM ON Yz VS VT dE VU YA Sf dF VV QN SF YB YC N2 FE
section
variable{k:IntKind}{a b:Int}{s t:Ah}
@[simp] theorem aEF:AE (.int .eql) [.int k a,.int k b]=some (.bool (decide (a=b))):=by cases k<;>rfl
@[simp] theorem aEG:AE (.int .neq) [.int k a,.int k b]=some (.bool (decide (a≠b))):=by
 have e:AE (.int .neq) [.int k a,.int k b]=some (.bool (!(a==b))):=by cases k<;>rfl
 rw[e];by_cases h:a=b<;>simp[h]
@[simp] theorem aEH:AE (.int .lss) [.int k a,.int k b]=some (.bool (decide (a<b))):=by cases k<;>rfl
@[simp] theorem aEI:AE (.int .leq) [.int k a,.int k b]=some (.bool (decide (a<=b))):=by cases k<;>rfl
@[simp] theorem aEJ:AE (.int .gtr) [.int k a,.int k b]=some (.bool (decide (b<a))):=by cases k<;>rfl
@[simp] theorem aEK:AE (.int .geq) [.int k a,.int k b]=some (.bool (decide (b<=a))):=by cases k<;>rfl
def uR:AE (.int .add) [.int k a,.int k b]=some (.int k (k.wrap (a+b))):=by cases k<;>rfl
def uS:AE (.int .sub) [.int k a,.int k b]=some (.int k (k.wrap (a-b))):=by cases k<;>rfl
@[simp] theorem aEL {b:Bool}:AE (.un .not) [.bool b]=some (.bool (!b)):=rfl
@[simp] theorem zR:AE (.str .eql) [.str s,.str t]=some (.bool (decide (s=t))):=by
 show some (Ab.bool (s==t))=_;congr 2
 by_cases h:s=t<;>simp[h]
@[simp] theorem aAR:AE (.str .neq) [.str s,.str t]=some (.bool (decide (s≠t))):=by
 show some (Ab.bool (!(s==t)))=_;congr 2
 by_cases h:s=t<;>simp[h]
@[simp] theorem aAS:AE (.len true) [.str s]=some (.int .i64 s.length):=rfl
@[simp] theorem aMu {i:Int}:AE .Wg [.str s,.int k i]=if 0<=i then(s[i.toNat]?).map λb=> .int .u8 b.toNat else none:=rfl
@[simp] theorem gW {off:Nat} {cs:List Ab}:AE (.part off none) [.agg cs]=cs[off]?:=rfl
@[simp] theorem gX {off n:Nat} {cs:List Ab}:AE (.part off (some n)) [.agg cs]=if off+n<=cs.length then some (.agg ((cs.drop off).take n)) else none:=rfl
@[simp] theorem aEM {i:Nat} {vs:List Ab}:AE (.ext i) [.tuple vs]=vs[i]?:=rfl
@[simp] theorem aR {p:Nat×Nat}:AE .M6 [.ptr (some p)]=some (.ptr (some p)):=rfl
@[simp] theorem YE {cs:List Ab}:AE .M6 [.Cd cs]=some (.Cd cs):=rfl
@[simp] theorem YF {f:FuncId} {a b:List Ab}:AE .M6 [.func (.func f) a b]=some (.func (.func f) a b):=rfl
@[simp] theorem aS {off:Nat} {cs:List Ab}:AE (.GC off) [.Cd cs]=some (.Cd (cs.drop off)):=rfl
@[simp] theorem gY {off id o:Nat}:AE (.GC off) [.ptr (some (id,o))]=some (.ptr (some (id,o+off))):=rfl
@[simp] theorem rk {neg:Bool}:AE (.WN neg) [.ptr none,.ptr none]=some (.bool (true != neg)):=rfl
@[simp] theorem rl {neg:Bool} {p:Nat×Nat}:AE (.WN neg) [.ptr (some p),.ptr none]=some (.bool (false != neg)):=rfl
@[simp] theorem rq {neg:Bool} {p:Nat×Nat}:AE (.WN neg) [.ptr none,.ptr (some p)]=some (.bool (false != neg)):=rfl
@[simp] theorem aEN {neg a b:Bool}:AE (.beq neg) [.bool a,.bool b]=some (.bool ((a==b) != neg)):=rfl
@[simp] theorem aMv {c:Bool} {a b:Ab}:AE .pick [.bool c,a,b]=some (if c then a else b):=rfl
@[simp] theorem Rz {l:IntKind}:AE (.conv l) [.int k a]=some (.int l (l.wrap a)):=rfl
@[simp] theorem È {zero args:List Ab} {places:List (Nat×Nat)}:AE (.Dc zero places) args=if places.length=args.length then(Cl zero (places.zip args)).map .agg else none:=rfl
@[simp] theorem uT {neg:Bool} {ks:List FK} {x y:List Ab}:AE (.geq neg ks) [.agg x,.agg y]=(ED ks x y).map λe=> .bool (e != neg):=rfl
@[simp] theorem É:AE (.MA false) [.int k a,.int k b]=some (.int k (if b<a then b else a)):=by simp[AE]
@[simp] theorem gZ:AE (.MA true) [.int k a,.int k b]=some (.int k (if a<b then b else a)):=by simp[AE]
@[simp] theorem SG {h:Ai} {n:Option Nat} {cs:List Ab}:Bp h n (.Cd cs)=FN cs 0 n:=rfl
@[simp] theorem Jh {off:Nat} {cs:List Ab}:FN cs off none=cs[off]?:=rfl
@[simp] theorem N3 {off n:Nat} {cs:List Ab}:FN cs off (some n)=if off+n<=cs.length then some (.agg ((cs.drop off).take n)) else none:=rfl
@[simp] theorem wrap_i64 (h1: -9223372036854775808<=a) (h2:a<9223372036854775808):IntKind.i64.wrap a=a:=by rw[IntKind.wrap_i64];omega
end
def RA{cs:List Ab}:Ab.cells (.agg cs)=cs:=rfl
def dG{k:IntKind}{n:Int}:Ab.cells (.int k n)=[.int k n]:=rfl
def RB{s:Ah}:Ab.cells (.str s)=[.str s]:=rfl
def YG{b:Bool}:Ab.cells (.bool b)=[.bool b]:=rfl
def dH{p:Option (Nat×Nat)}:Ab.cells (.ptr p)=[.ptr p]:=rfl
def YH{p:List Ab}:Ab.cells (.Cd p)=[.Cd p]:=rfl
def VW:Ab.cells .slnil=[.slnil]:=rfl
def o7{z:Nat}{r:List (List Ab)}:Ab.cells (.sl z r)=[.sl z r]:=rfl
def dI{i o l z:Nat}:Ab.cells (.Du i o l z)=[.Du i o l z]:=rfl
def YI{f:Fn}{a b:List Ab}:Ab.cells (.func f a b)=[.func f a b]:=rfl
attribute [simp] Cl ED Of CR RA dG RB YG dH YH VW o7 dI YI
def Bx(z:Nat)(Ay:List (List Ab))(v:Ab):Prop:=v= .sl z Ay\/(v= .slnil/\Ay=[])
section
variable{z:Nat}{Ay:List (List Ab)}{v:Ab}
def Bx.mk:Bx z Ay (.sl z Ay):= .inl rfl
def Bx.nil:Bx z [] .slnil:= .inr ⟨rfl,rfl⟩
def Bx.cells(h:Bx z Ay v):v.cells=[v]:=by rcases h with rfl|⟨rfl,rfl⟩<;>rfl
def Bx.len(h:Bx z Ay v):AE (.len false) [v]=some (.int .i64 Ay.length):=by rcases h with rfl|⟨rfl,rfl⟩<;>rfl
def Bx.Hj(h:Bx z Ay v){k:IntKind}{n:Nat}(hn:n<Ay.length):AE (.Hj z) [v,.int k (n:Int)]=some (.Cd Ay[n]):=by
 rcases h with rfl|⟨rfl,rfl⟩
 .simp[AE,elemOf,hn]
 .simp at hn
end
end Go.Am
end
section
namespace Go.Am
open Go
section
variable{C:Gw}{Q:Lt}{h:Ai}
def QP{key:Nat}{vs:List Ab}{body:List Ab->IT}{k:GD->List Ab->IT}
  (hw:W C (body vs) (λx d h1=>(x= .normal/\W C (.loop key d body k) Q h1)\/(x≠ .normal/\W C (k x d) Q h1)) h):W C (.loop key vs body k) Q h:=by
 obtain⟨m,x,d,h1,hr,JP⟩:=hw.succ;rcases JP with⟨rfl,hw⟩|⟨hx,hw⟩
 .obtain⟨m',x',Iy,h',Ib,q⟩:=hw;refine C6 ⟨max m m',x',Iy,h',?_,q⟩;have f:=IT.Kt (λt h r=>IT.IL (fn:=Cf C) (Iu m m')) _ _ _ hr;have e:=IT.IL (HP m m') Ib;simp only[IT.step];simp only[Gw.run] at*;rw[f];exact e
 .obtain⟨m',x',Iy,h',Ib,q⟩:=hw.succ;refine C6 ⟨max m m',x',Iy,h',?_,q⟩;have f:=IT.Kt (λt h r=>IT.IL (fn:=Cf C) (Iu m m')) _ _ _ hr;have e:=IT.Kt (λt h r=>IT.IL (fn:=Cf C) (HP m m')) _ _ _ Ib;simp only[IT.step];simp only[Gw.run] at*;rw[f];cases x<;>first|exact absurd rfl hx|exact e
def By{U:Type}(C:Gw)(enc:U->List Ab)(Ee:U->Ai->Prop)(O:U->Nat)(k:GD->List Ab->IT)(Q:Lt)(s:U):Lt:=
 λx vs h1=>(x= .normal/\∃s',vs=enc s'/\Ee s' h1/\O s'<O s)\/(x≠ .normal/\W C (k x vs) Q h1)
variable{U:Type}{enc:U->List Ab}{Ee:U->Ai->Prop}{O:U->Nat}{k:GD->List Ab->IT}{s:U}{vs:List Ab}
def By.next(s':U)(e:vs=enc s')(hi:Ee s' h)(hl:O s'<O s):By C enc Ee O k Q s .normal vs h:= .inl ⟨rfl,s',e,hi,hl⟩
def aT{i:Nat}:By C enc Ee O k Q s (.exit i) vs h↔W C (k (.exit i) vs) Q h:=by simp[By]
def hO:By C enc Ee O k Q s .ret vs h↔W C (k .ret vs) Q h:=by simp[By]
def Cv{key:Nat}{init:List Ab}{body:List Ab->IT}(enc:U->List Ab)(Ee:U->Ai->Prop)(O:U->Nat)(s0:U)(h0:init=enc s0)(hi:Ee s0 h)
  (round:∀s h,Ee s h->W C (body (enc s)) (By C enc Ee O k Q s) h):W C (.loop key init body k) Q h:=by
 subst h0;have key:∀n s h,O s=n->Ee s h->W C (.loop key (enc s) body k) Q h:=by
  intro n;induction n using Nat.strongRecOn with
  |_ n ih=>
   intro s h hn hI;refine QP (W.mono (round s h hI) ?_);rintro x vs h1 (⟨rfl,s',rfl,z_,hl⟩|⟨hx,hw⟩);.exact .inl ⟨rfl,ih _ (hn▸hl) s' h1 rfl z_⟩
   .exact .inr ⟨hx,hw⟩
 exact key _ s0 h rfl hi
end
section
variable{k l:IntKind}{s:Ah}
def Ji{n:Nat}(hn:n<s.length):AE .Wg [.str s,.int k (n:Int)]=some (.int .u8 (s[n].toNat:Int)):=by simp[hn]
def DB{n:Nat}(hn:n<9223372036854775807):AE (.int .add) [.int .i64 (n:Int),.int .i64 1]=some (.int .i64 ((n+1:Nat):Int)):=by rw[uR,wrap_i64 Ac Ac];rfl
def Ol{n:Nat}(h0:0<n)(hn:n<9223372036854775807):AE (.int .sub) [.int .i64 (n:Int),.int .i64 1]=some (.int .i64 ((n-1:Nat):Int)):=by rw[uS,wrap_i64 Ac Ac];congr 2;omega
def uU{a b z:Nat}(Ê:a<=b)(hb:b<=s.length):AE (.Ro z true true true) [.str s,.int k (a:Int),.int l (b:Int)]=some (.str ((s.take b).drop a)):=by
 have e:EU (b:Int) s.length=some b:=by unfold EU;rw[Ae Ac];rfl
 have d:EU (a:Int) b=some a:=by unfold EU;rw[Ae Ac];rfl
 simp[AE,JC,D1,e,d]
end
section
variable{z b:Nat}{r r2:List (List Ab)}{row:List Ab}{v v2:Ab}
def Bx.aOc(h:Bx z r v)(hb:(r.length+1)*b<=AY):AE (.append z b) [v,.sl z [row]]=some (.sl z (r++[row])):=by
 rcases h with rfl|⟨rfl,rfl⟩
 .simp[AE,I9,D2,hb]
 .have:1*b<=AY:=by simpa using hb
  simp only[EW] at this;simp[AE,I9,D2,this]
def Bx.L1(h:Bx z r v)(h2:Bx z r2 v2)(hb:(r.length+r2.length)*b<=AY):∃u,AE (.append z b) [v,v2]=some u/\Bx z (r++r2) u:=by
 have hnil:∃u,D2 z b v []=some u/\Bx z (r++[]) u:=by
  rcases h with rfl|⟨rfl,rfl⟩
  .exact⟨.sl z r,by simp[D2],by rw[A8];exact .mk⟩
  .exact⟨_,rfl,.nil⟩
 rcases h2 with rfl|⟨rfl,rfl⟩
 .cases r2 with
  |nil=>obtain⟨u,e,hu⟩:=hnil;exact⟨u,by simpa[AE,I9] using e,hu⟩
  |cons x l=>
   refine⟨.sl z (r++x::l),?_,.mk⟩;rcases h with rfl|⟨rfl,rfl⟩
   .simp only[AE,I9,BN,D2];rw[Ae ⟨trivial,hb⟩]
   .simp only[AE,I9,BN,D2];rw[Ae (by simpa using hb)];rfl
 .obtain⟨u,e,hu⟩:=hnil;exact⟨u,by simpa[AE,I9] using e,hu⟩
def Bx.UF(h:Bx z r v){hp:Ai}:L6 hp v=some (hp,v):=by rcases h with rfl|⟨rfl,rfl⟩<;>rfl
def YJ(s:Ah):NT (CN s)=some s:=by
 induction s with
 |nil=>rfl
 |cons c s ih=>have e:CN (c::s)=[.int .u8 c.toNat]::CN s:=rfl;rw[e,NT,ih];simp
def Bx.XD{s:Ah}(h:Bx 1 (CN s) v):AE .XD [v]=some (.str s):=by
 rcases h with rfl|⟨rfl,h⟩
 .simp[AE,fP,YJ]
 .have e:s=[]:=by simpa[CN] using h
  subst e;rfl
end
@[simp] theorem zS {z:Nat} {args:List Ab}:AE (.Cb z) args=if args.all (λa=>a.cells.length==z)&&decide (args.length*z<=16777216) then some (.sl z (args.map (·.cells))) else none:=rfl
def YK{a:Ab}{z:Nat}(h:a.cells.length=z)(hz:z<=16777216):AE (.Cb z) [a]=some (.sl z [a.cells]):=by simp[h,hz]
def wrap_u8{a:Int}(h:0<=a/\a<=255):IntKind.u8.wrap a=a:=IntWalk.u8_in a h
def Ë{a:Int}(h: -2147483648<=a/\a<=2147483647):IntKind.i32.wrap a=a:=IntWalk.i32_in a h
def Ag{C:Gw}{f:FuncId}{args:List Ab}{h h':Ai}{r:Ab}:CD C f args h r h'↔W C (Cf C f args) (λx vs h1=>x= .ret/\vs=[r]/\h1=h') h:=aH9
abbrev GL(C:Gw)(f:FuncId)(t:Ab->IT):Prop:=∀a0,Cf C f [a0]=t a0
abbrev Gi(C:Gw)(f:FuncId)(t:Ab->Ab->IT):Prop:=∀a0 a1,Cf C f [a0,a1]=t a0 a1
abbrev Tf(C:Gw)(f:FuncId)(t:Ab->Ab->Ab->IT):Prop:=∀a0 a1 a2,Cf C f [a0,a1,a2]=t a0 a1 a2
abbrev Tq4(C:Gw)(f:FuncId)(t:Ab->Ab->Ab->Ab->IT):Prop:=∀a0 a1 a2 a3,Cf C f [a0,a1,a2,a3]=t a0 a1 a2 a3
abbrev Tq5(C:Gw)(f:FuncId)(t:Ab->Ab->Ab->Ab->Ab->IT):Prop:=∀a0 a1 a2 a3 a4,Cf C f [a0,a1,a2,a3,a4]=t a0 a1 a2 a3 a4
def IT.fa(p:Ab)(k:Nat)(K:Ab->Ab->IT):IT:= .op .M6 [p] λa=> .op (.GC k) [a] λb=>K a b
def IT.Ck(p:Ab)(k:Nat)(K:Ab->Ab->Ab->IT):IT:= .op .M6 [p] λa=> .op (.GC k) [a] λb=> .load none b λc=>K a b c
def IT.fl(p:Ab)(k:Nat)(K:Ab->Ab->IT):IT:= .op (.GC k) [p] λa=> .load none a λb=>K a b
def nx(A R:List Ab->IT):GD->List Ab->IT:=λx c=>match x with
 | .normal=>A c
 | .exit _=> .fail
 | .ret=>R c
def lx(k:Nat)(A R:List Ab->IT):GD->List Ab->IT:=λx c=>match x with
 | .normal=> .fail
 | .exit i=>if i=k then A c else .fail
 | .ret=>R c
section
variable{C:Gw}{Q:Lt}{h:Ai}{p:Ab}{k:Nat}{A R:List Ab->IT}{c:List Ab}
def aOd{K:Ab->Ab->IT}:W C (IT.fa p k K) Q h=W C (.op .M6 [p] λa=> .op (.GC k) [a] λb=>K a b) Q h:=rfl
def aJF{K:Ab->Ab->Ab->IT}:W C (IT.Ck p k K) Q h=W C (.op .M6 [p] λa=> .op (.GC k) [a] λb=> .load none b λc=>K a b c) Q h:=rfl
def aOe{K:Ab->Ab->IT}:W C (IT.fl p k K) Q h=W C (.op (.GC k) [p] λa=> .load none a λb=>K a b) Q h:=rfl
def aOf:nx A R .normal c=A c:=rfl
def aOg:nx A R .ret c=R c:=rfl
def aOh:lx k A R (.exit k) c=A c:=Ae rfl
def aOi:lx k A R .ret c=R c:=rfl
end
def OO:Ah->Ah->List Ah
 |cur,[]=>[cur]
 |cur,c::r=>if c=32 then cur::OO [] r else OO (cur++[c]) r
def TN:List Ah:=OO [] [97,100,100,114,101,115,115,32,97,112,112,108,101,116,32,97,114,101,97,32,97,114,116,105,99,108,101,32,97,115,105,100,101,32,98,97,115,101,32,98,97,115,101,102,111,110,116,32,98,103,115,111,117,110,100,32,98,108,111,99,107,113,117,111,116,101,32,98,111,100,121,32,98,114,32,98,117,116,116,111,110,32,99,97,112,116,105,111,110,32,99,101,110,116,101,114,32,99,111,108,32,99,111,108,103,114,111,117,112,32,100,100,32,100,101,116,97,105,108,115,32,100,105,114,32,100,105,118,32,100,108,32,100,116,32,101,109,98,101,100,32,102,105,101,108,100,115,101,116,32,102,105,103,99,97,112,116,105,111,110,32,102,105,103,117,114,101,32,102,111,111,116,101,114,32,102,111,114,109,32,102,114,97,109,101,32,102,114,97,109,101,115,101,116,32,104,49,32,104,50,32,104,51,32,104,52,32,104,53,32,104,54,32,104,101,97,100,32,104,101,97,100,101,114,32,104,103,114,111,117,112,32,104,114,32,104,116,109,108,32,105,102,114,97,109,101,32,105,109,103,32,105,110,112,117,116,32,107,101,121,103,101,110,32,108,105,32,108,105,110,107,32,108,105,115,116,105,110,103,32,109,97,105,110,32,109,97,114,113,117,101,101,32,109,101,110,117,32,109,101,116,97,32,110,97,118,32,110,111,101,109,98,101,100,32,110,111,102,114,97,109,101,115,32,110,111,115,99,114,105,112,116,32,111,98,106,101,99,116,32,111,108,32,112,32,112,97,114,97,109,32,112,108,97,105,110,116,101,120,116,32,112,114,101,32,115,99,114,105,112,116,32,115,101,97,114,99,104,32,115,101,99,116,105,111,110,32,115,101,108,101,99,116,32,115,111,117,114,99,101,32,115,116,121,108,101,32,115,117,109,109,97,114,121,32,116,97,98,108,101,32,116,98,111,100,121,32,116,100,32,116,101,109,112,108,97,116,101,32,116,101,120,116,97,114,101,97,32,116,102,111,111,116,32,116,104,32,116,104,101,97,100,32,116,105,116,108,101,32,116,114,32,116,114,97,99,107,32,117,108,32,119,98,114,32,120,109,112]
def swv(s:Ab)(t e:IT):List (List UInt8)->IT
 |[]=>e
 |c::cs=>.op (.str .eql) [s,.str c] λv=>.A0 v t (swv s t e cs)
abbrev IT.rr(l:List Ab):IT:=.ret .ret l
abbrev IT.rn(l:List Ab):IT:=.ret .normal l
abbrev IT.rx(n:Nat)(l:List Ab):IT:=.ret (.exit n) l
abbrev IT.ea(n:Nat)(l:List Ab)(k:Ab->IT):IT:=.op (.Hj n) l k
abbrev IT.ld(p:Ab)(k:Ab->IT):IT:=.load none p k
abbrev IT.ie(l:List Ab)(k:Ab->IT):IT:=.op (.int .eql) l k
abbrev IT.iq(l:List Ab)(k:Ab->IT):IT:=.op (.int .neq) l k
abbrev IT.il(l:List Ab)(k:Ab->IT):IT:=.op (.int .lss) l k
abbrev IT.ig(l:List Ab)(k:Ab->IT):IT:=.op (.int .gtr) l k
abbrev IT.ia(l:List Ab)(k:Ab->IT):IT:=.op (.int .add) l k
abbrev IT.ib(l:List Ab)(k:Ab->IT):IT:=.op (.int .sub) l k
abbrev IT.ih(l:List Ab)(k:Ab->IT):IT:=.op (.int .geq) l k
abbrev IT.ik(l:List Ab)(k:Ab->IT):IT:=.op (.int .leq) l k
abbrev IT.se(l:List Ab)(k:Ab->IT):IT:=.op (.str .eql) l k
abbrev IT.ln(l:List Ab)(k:Ab->IT):IT:=.op (.len false) l k
abbrev IT.lt(l:List Ab)(k:Ab->IT):IT:=.op (.len true) l k
abbrev IT.nt(l:List Ab)(k:Ab->IT):IT:=.op (.un .not) l k
abbrev IT.ca(f:Nat)(l:List Ab)(k:Ab->IT):IT:=.call f l k
abbrev i0:Ab:=I 0
abbrev i1:Ab:=I 1
abbrev tu:Ab:=.tuple []
abbrev pn:Ab:=.ptr none
def a13(c:List Ab):Ab:=.agg [g c 0,g c 1,g c 2,g c 3,g c 4,g c 5,g c 6,g c 7,g c 8,g c 9,g c 10,g c 11,g c 12]
def a13_e{c:List Ab}:a13 c=.agg [g c 0,g c 1,g c 2,g c 3,g c 4,g c 5,g c 6,g c 7,g c 8,g c 9,g c 10,g c 11,g c 12]:=rfl
def GM(c:List Ab):Ab:=.agg [g c 0,g c 1,g c 2,g c 3,g c 4,g c 5,g c 6,g c 7,g c 8,g c 9,g c 10,g c 11]
def a12_e{c:List Ab}:GM c=.agg [g c 0,g c 1,g c 2,g c 3,g c 4,g c 5,g c 6,g c 7,g c 8,g c 9,g c 10,g c 11]:=rfl
def a9(c:List Ab):Ab:=.agg [g c 0,g c 1,g c 2,g c 3,g c 4,g c 5,g c 6,g c 7,g c 8]
def a9_e{c:List Ab}:a9 c=.agg [g c 0,g c 1,g c 2,g c 3,g c 4,g c 5,g c 6,g c 7,g c 8]:=rfl
def a6(c:List Ab):Ab:=.agg [g c 0,g c 1,g c 2,g c 3,g c 4,g c 5]
def a6_e{c:List Ab}:a6 c=.agg [g c 0,g c 1,g c 2,g c 3,g c 4,g c 5]:=rfl
def a4(c:List Ab):Ab:=.agg [g c 0,g c 1,g c 2,g c 3]
def a4_e{c:List Ab}:a4 c=.agg [g c 0,g c 1,g c 2,g c 3]:=rfl
def a3(c:List Ab):Ab:=.agg [g c 0,g c 1,g c 2]
def a3_e{c:List Ab}:a3 c=.agg [g c 0,g c 1,g c 2]:=rfl
def ai{a b:Prop}(x:a)(y:b):a/\b:=⟨x,y⟩
def Cy:=ai @a13_e (ai @a12_e (ai @a9_e (ai @a6_e (ai @a4_e (ai @a3_e (ai @aOd (ai @aJF (ai @aOe (ai @aOf (ai @aOg (ai @aOh (ai @aOi (ai @Nk (ai @oS (ai @dD (ai @Yx (ai @Yy (ai @dB (ai @Yv (ai @Yw (ai @QM (ai @ON (ai @Yz (ai @VS (ai @VT (ai @dE (ai @VU (ai @YA (ai @Sf (ai @dF (ai @VV (ai @QN (ai @SF (ai @YB (ai @YC (ai @N2 (ai @FE (ai @aEF (ai @aEG (ai @aEH (ai @aEI (ai @aEJ (ai @aEK (ai @aEL (ai @zR (ai @aAR (ai @aAS (ai @gW (ai @gX (ai @aEM (ai @aR (ai @YE (ai @YF (ai @aS (ai @gY (ai @rk (ai @rl (ai @rq (ai @aEN (ai @È (ai @SG (ai @Jh (ai @N3 (ai @bZ.{0} (ai @aNd.{0} (ai @Jy.{0} (ai @Uu.{0} (ai @K8.{0} (ai @List.drop_succ_cons.{0} (ai @aCv.{0} (ai @Rj.{0} (ai @LN.{0} (ai @AJ.{0} (ai @AZ.{0} (ai @BD.{0} (ai @Bq.{0} (ai @aRx.{0,0} (ai @List.zip_nil_right.{0,0} (ai @BW.{0,0} (ai @Option.map_none.{0,0} (ai @BG (ai @RA (ai @dG (ai @RB (ai @YG (ai @dH (ai @YH (ai @VW (ai @o7 (ai @dI (ai @YI (ai @rY (ai @EN (ai @GV (ai @BN.{1} (ai @DK.{1} (ai @aT (@hO))))))))))))))))))))))))))))))))))))))))))))))))))))))))))))))))))))))))))))))))))))))))))))))))))
def hZ:=ai @IG.{0} (ai @beq_self_eq_true.{0} (ai @S9 (ai @Bool.bne_false (ai @Bool.not_true (ai @Rl (ai @AN (ai @AP (ai @AO (ai @AK (ai @BB (ai @Nat.zero_lt_succ (ai @BW.{0,0} (@aCw.{0})))))))))))))
def abS:=ai Cy hZ
def aaS:type_of%@A7.{0}:=@A7.{0}
def dJ:=ai @EY (ai @Fg (ai @Bool.and_true (ai @Bool.true_and (ai @Bool.and_false (ai @Bool.false_and (ai @Bool.or_true (ai @Qp (ai @S8 (ai @Kg (ai @Fx.{0} (ai @aRA.{0} (ai @yF.{0} (ai @Option.isSome_none.{0} (ai @BN.{1} (ai @DK.{1} (ai @B5 (ai @EN (ai @and_false (ai @GV (ai @aD (ai @aCx (@DI))))))))))))))))))))))
abbrev Pt(i o:Nat):Ab:=.ptr (some (i,o))
end Go.Am
end
