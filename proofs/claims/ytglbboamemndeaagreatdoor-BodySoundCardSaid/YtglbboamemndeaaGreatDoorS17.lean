/- Lemmas -/
import Derived.Test.YtglbboamemndeaaGreatDoorS1
import Derived.IntWalk
set_option linter.all false
section
namespace Go.Am
open Go
section
variable{C:Fx}{Q:JE}{h:Ai}
def ZH{x:DV}{vs:List Aa}:W C (.ret x vs) Q h↔Q x vs h:=by refine⟨λhw=>?_,Î⟩;obtain⟨n,x',HB,h',hr,q⟩:=hw.succ;simp only[IT.step,Bx,M8] at hr;obtain⟨rfl,rfl,rfl⟩:=hr;exact q
def WS:W C .fail Q h↔False:=by refine⟨λhw=>?_,λh=>h.elim⟩;obtain⟨n,x',HB,h',hr,q⟩:=hw.succ;simp[IT.step] at hr
def ZI{Z:Type}(o:Option Z)(f:Z->Prop):Prop:=∃v,o=some v/\f v
def bc{Z:Type}{o o':Option Z}{f:Z->Prop}(h:o=o'):ZI o f=ZI o' f:=by rw[h]
def LY{Z:Type}{v:Z}{f:Z->Prop}:ZI (some v) f=f v:=propext (by
 constructor;.rintro⟨_,e,h⟩;cases e;exact h
 .intro h;exact⟨v,rfl,h⟩)
def mG{Z:Type}{f:Z->Prop}:ZI (none:Option Z) f=False:=propext (by
 constructor;.rintro⟨_,e,_⟩;cases e
 .exact False.elim)
def WT{o:Rz}{args:List Aa}{k:Aa->IT}:W C (.op o args k) Q h↔ZI (Az o args) λv=>W C (k v) Q h:=by
 refine⟨λhw=>?_,λ⟨v,hv,hw⟩=>aBQ hv hw⟩;obtain⟨n,x',HB,h',hr,q⟩:=hw.succ;simp only[IT.step] at hr;split at hr;.rename_i v hv;exact⟨v,hv,CP ⟨n,x',HB,h',hr,q⟩⟩
 .cases hr
def Pn{n:Nat}{v:Aa}{k:List Aa->IT}:W C (.cells n v k) Q h↔ZI (if v.cells.length=n then some v.cells else none) λl=>W C (k l) Q h:=by
 constructor
 .intro hw;obtain⟨m,x',HB,h',hr,q⟩:=hw.succ;simp only[IT.step] at hr;split at hr;.rename_i hv;exact⟨_,Ag hv,CP ⟨m,x',HB,h',hr,q⟩⟩
  .cases hr
 .rintro⟨l,e,hw⟩;split at e;.rename_i hv;cases e;exact vQ hv hw
  .cases e
def YP(v:Aa)(p q:Prop):Prop:=(v= .bool true/\p)\/(v= .bool false/\q)
def rF{v v':Aa}{p q:Prop}(h:v=v'):YP v p q=YP v' p q:=by rw[h]
def ZJ{p q:Prop}:YP (.bool true) p q=p:=by simp[YP]
def WU{p q:Prop}:YP (.bool false) p q=q:=by simp[YP]
def C8{b:Bool}{p q:Prop}:YP (.bool b) p q↔(b=true->p)/\(b=false->q):=by cases b<;>simp[YP]
def WV{c:Prop}[Decidable c]{p q:Prop}:YP (.bool (decide c)) p q↔(c->p)/\(¬c->q):=by rw[C8];simp
def Nq{c:Aa}{t e:IT}:W C (.FH c t e) Q h↔YP c (W C t Q h) (W C e Q h):=by
 constructor
 .intro hw;obtain⟨m,x',HB,h',hr,q⟩:=hw.succ;simp only[IT.step] at hr;split at hr;.exact .inl ⟨rfl,CP ⟨m,x',HB,h',hr,q⟩⟩
  .exact .inr ⟨rfl,CP ⟨m,x',HB,h',hr,q⟩⟩
  .cases hr
 .rintro(⟨rfl,hw⟩|⟨rfl,hw⟩);.exact vR (λ_=>hw) λh=>by cases h
  .exact vR (λh=>by cases h) λ_=>hw
def WW{n:Option Nat}{p:Aa}{k:Aa->IT}:W C (.load n p k) Q h↔ZI (Bd h n p) λv=>W C (k v) Q h:=by
 refine⟨λhw=>?_,λ⟨v,hv,hw⟩=>iw hv hw⟩;obtain⟨m,x',HB,h',hr,q⟩:=hw.succ;simp only[IT.step] at hr;split at hr;.rename_i v hv;exact⟨v,hv,CP ⟨m,x',HB,h',hr,q⟩⟩
 .cases hr
def Uj{n:Nat}{p v:Aa}{k:IT}:W C (.store n p v k) Q h↔ZI (CK h n p v) λh1=>W C k Q h1:=by
 refine⟨λhw=>?_,λ⟨v,hv,hw⟩=>vS hv hw⟩;obtain⟨m,x',HB,h',hr,q⟩:=hw.succ;simp only[IT.step] at hr;split at hr;.rename_i h1 hv;exact⟨h1,hv,CP ⟨m,x',HB,h',hr,q⟩⟩
 .cases hr
def Uk{n:Nat}{v:Aa}{k:Aa->IT}:W C (.alloc n v k) Q h↔ZI (if v.cells.length=n then some v.cells else none) λl=>W C (k (.ptr (some (h.length,0)))) Q (h++[.cells l]):=by
 constructor
 .intro hw;obtain⟨m,x',HB,h',hr,q⟩:=hw.succ;simp only[IT.step,VW] at hr;by_cases hv:v.cells.length=n;.rw[Ag hv] at hr;exact⟨_,Ag hv,CP ⟨m,x',HB,h',hr,q⟩⟩
  .rw[Af hv] at hr;cases hr
 .rintro⟨l,e,hw⟩;split at e;.rename_i hv;cases e;exact vT hv hw
  .cases e
def ZK{u:Aa}{k:Aa->IT}:W C (.UD u k) Q h↔ZI (KK h u) λx=>W C (k x.2) Q x.1:=by
 refine⟨λhw=>?_,λ⟨(h1,v),hv,hw⟩=>Ï hv hw⟩;obtain⟨m,x',HB,h',hr,q⟩:=hw.succ;simp only[IT.step] at hr;split at hr;.rename_i h1 v hv;exact⟨(h1,v),hv,CP ⟨m,x',HB,h',hr,q⟩⟩
 .cases hr
def Ul{off:Nat}{p:Aa}{k:IT}:W C (.O2 off p k) Q h↔ZI (Kk h off p) λh1=>W C k Q h1:=by
 refine⟨λhw=>?_,λ⟨h1,hv,hw⟩=>vV hv hw⟩;obtain⟨m,x',HB,h',hr,q⟩:=hw.succ;simp only[IT.step] at hr;split at hr;.rename_i h1 hv;exact⟨h1,hv,CP ⟨m,x',HB,h',hr,q⟩⟩
 .cases hr
def Um{size bytes:Nat}{s x:Aa}{k:Aa->IT}:W C (.KJ size bytes s x k) Q h↔ZI (Kj h size bytes s x) λx=>W C (k x.2) Q x.1:=by
 refine⟨λhw=>?_,λ⟨(h1,v),hv,hw⟩=>vU hv hw⟩;obtain⟨m,x',HB,h',hr,q⟩:=hw.succ;simp only[IT.step] at hr;split at hr;.rename_i h1 v hv;exact⟨(h1,v),hv,CP ⟨m,x',HB,h',hr,q⟩⟩
 .cases hr
def WX{size bytes:Nat}{s x:Aa}{k:Aa->IT}:W C (.ID size bytes s x k) Q h↔ZI (FN h size bytes s x) λx=>W C (k x.2) Q x.1:=by
 refine⟨λhw=>?_,λ⟨(h1,v),hv,hw⟩=>ja hv hw⟩;obtain⟨m,x,HB,h',hr,q⟩:=hw.succ;simp only[IT.step] at hr;split at hr;.rename_i h1 v hv;exact⟨(h1,v),hv,CP ⟨m,x,HB,h',hr,q⟩⟩
 .cases hr
def QK{size bytes:Nat}{s x:Aa}{k:Aa->IT}:W C (.F6 size bytes s x k) Q h↔ZI (QC h size bytes s x) λv=>W C (k v) Q h:=by
 refine⟨λhw=>?_,λ⟨v,hv,hw⟩=>Zj hv hw⟩;obtain⟨m,x,HB,h',hr,q⟩:=hw.succ;simp only[IT.step] at hr;split at hr;.rename_i v hv;exact⟨v,hv,CP ⟨m,x,HB,h',hr,q⟩⟩
 .cases hr
def ZL{o:kM}{args:List Aa}{k:Aa->IT}:W C (.mem o args k) Q h↔ZI (DZ o h args) λx=>W C (k x.2) Q x.1:=by
 refine⟨λhw=>?_,λ⟨(h1,v),hv,hw⟩=>Ð hv hw⟩;obtain⟨n,x,vs,h',hr,q⟩:=hw.succ;simp only[IT.step] at hr;split at hr;.rename_i h1 v hv;exact⟨(h1,v),hv,CP ⟨n,x,vs,h',hr,q⟩⟩
 .cases hr
def Po{s:Aa}{k:Aa->IT}:W C (.ET s k) Q h↔ZI (Io h s) λx=>W C (k x.2) Q x.1:=by
 refine⟨λhw=>?_,λ⟨(h1,v),hv,hw⟩=>Wc hv hw⟩;obtain⟨m,x',HB,h',hr,q⟩:=hw.succ;simp only[IT.step] at hr;split at hr;.rename_i h1 v hv;exact⟨(h1,v),hv,CP ⟨m,x',HB,h',hr,q⟩⟩
 .cases hr
def Rb{k:Aa->IT}:W C (.O1 k) Q h↔W C (k (.map (some h.length))) Q (h++[.map []]):=by refine⟨λhw=>?_,iy⟩;obtain⟨m,x',HB,h',hr,q⟩:=hw.succ;exact CP ⟨m,x',HB,h',hr,q⟩
def WY{m key v:Aa}{k:IT}:W C (.Kc m key v k) Q h↔ZI (QB h m key v) λh1=>W C k Q h1:=by
 refine⟨λhw=>?_,λ⟨h1,hv,hw⟩=>iz hv hw⟩;obtain⟨m,x',HB,h',hr,q⟩:=hw.succ;simp only[IT.step] at hr;split at hr;.rename_i h1 hv;exact⟨h1,hv,CP ⟨m,x',HB,h',hr,q⟩⟩
 .cases hr
def WZ{z:Aa}{ok:Bool}{m key:Aa}{k:Aa->IT}:W C (.LO z ok m key k) Q h↔ZI (OB h z ok m key) λv=>W C (k v) Q h:=by
 refine⟨λhw=>?_,λ⟨h1,hv,hw⟩=>i_ hv hw⟩;obtain⟨m,x',HB,h',hr,q⟩:=hw.succ;simp only[IT.step] at hr;split at hr;.rename_i h1 hv;exact⟨h1,hv,CP ⟨m,x',HB,h',hr,q⟩⟩
 .cases hr
def Mx{g:Aa}{args:List Aa}{k:Aa->IT}:W C (.Iz g args k) Q h↔ZI (Cc g args) λx=>W C (.call x.1 x.2 k) Q h:=by
 constructor
 .intro hw;obtain⟨m,x',HB,h',hr,q⟩:=hw.succ;simp only[IT.step] at hr;split at hr;.rename_i f as e;refine⟨(f,as),e,CP ⟨m,x',HB,h',?_,q⟩⟩;simp only[IT.step];exact hr
  .cases hr
 .rintro⟨⟨f,as⟩,e,hw⟩;obtain⟨m,x',HB,h',hr,q⟩:=hw.succ;refine CP ⟨m,x',HB,h',?_,q⟩;simp only[IT.step,e] at hr⊢;exact hr
def EZ{key:Nat}{t:IT}{k:DV->List Aa->IT}:W C (.OR key t k) Q h↔W C t (λx vs h1=>W C (k x vs) Q h1) h:=by
 refine⟨λhw=>?_,jc⟩;obtain⟨m,x',HB,h',hr,q⟩:=hw.succ;simp only[IT.step] at hr;split at hr;.rename_i x vs h1 e;exact CP ⟨m,_,_,_,e,CP ⟨m,x',HB,h',hr,q⟩⟩
 .cases hr
def B2(C:Fx)(f:FuncId)(args:List Aa)(h:Ai)(r:Aa)(h':Ai):Prop:=W C (BZ C f args) (λx vs h1=>x= .ret/\vs=[r]/\h1=h') h
def B2.ev{f:FuncId}{args:List Aa}{r:Aa}{h':Ai}(hr:B2 C f args h r h'){R:Aa->Ai->Prop}(hR:R r h'):Ev C f args h R:=
 W.mono hr λ_ _ _ ⟨h1,h2,d⟩=>⟨h1,r,h2,by rw[d];exact hR⟩
def B2.Ad{f:FuncId}{args:List Aa}{r:Aa}{h':Ai}(hr:B2 C f args h r h'){k:Aa->IT}:W C (.call f args k) Q h↔W C (k r) Q h':=by
 refine⟨λhw=>?_,λhw=>jb (hr.ev hw)⟩;obtain⟨n,i,è,h1,g,rfl,rfl,rfl⟩:=hr;obtain⟨m,x',HB,h2,d,q⟩:=hw.succ;simp only[IT.step] at d;split at d;.rename_i r2 j e;simp only[Fx.run] at g e;have a1:=IT.HM (Hy n m) g;have a2:=IT.HM (GP n m) e;rw[a1] at a2;cases a2;exact CP ⟨m,x',HB,h2,d,q⟩
 .cases d
def Nr(C:Fx)(f:FuncId)(args:List Aa)(r:Aa):Prop:=Ev C f args [] λx _=>x=r
def Nr.Cb{f:FuncId}{args:List Aa}{r:Aa}(hr:Nr C f args r)(ha:args.all Aa.Mk=true)(hf:r.Mk=true){k:Aa->IT}:W C (.Cb f args k) Q h↔W C (k r) Q h:=by
 refine⟨λhw=>?_,λhw=>wh ha (hr.mono λx _ e=>by rw[e];exact⟨hf,hw⟩)⟩;obtain⟨n,i,è,h1,g,rfl,y,rfl,rfl⟩:=hr;obtain⟨m,x',HB,h2,d,q⟩:=hw.succ;simp only[IT.step,ha,BE] at d;simp only[Fx.run] at g d;have a1:=IT.HM (Hy n m) g;cases hc:IT.run (BZ C) m (BZ C f args) [] with
 |none=>rw[hc] at d;cases d
 |some z=>have a2:=IT.HM (GP n m) hc;rw[a1] at a2;cases a2;rw[hc] at d;simp only[hf,BE] at d;exact CP ⟨m,x',HB,h2,d,q⟩
end
def yn{C:Fx}{t t':IT}{Q:JE}{h h':Ai}(e:t=t')(d:h=h'):W C t Q h=W C t' Q h':=by rw[e,d]
def mv{o:Rz}{args args':List Aa}{k:Aa->IT}(e:args=args'):IT.op o args k=IT.op o args' k:=by rw[e]
def mH{n:Nat}{v v':Aa}{k:List Aa->IT}(e:v=v'):IT.cells n v k=IT.cells n v' k:=by rw[e]
def bd{v v':Aa}{s t:IT}(e:v=v'):IT.FH v s t=IT.FH v' s t:=by rw[e]
def rG{n:Option Nat}{v v':Aa}{k:Aa->IT}(e:v=v'):IT.load n v k=IT.load n v' k:=by rw[e]
def mI{n:Nat}{p p' v v':Aa}{k:IT}(d:p=p')(e:v=v'):IT.store n p v k=IT.store n p' v' k:=by rw[e,d]
def mJ{n:Nat}{v v':Aa}{k:Aa->IT}(e:v=v'):IT.alloc n v k=IT.alloc n v' k:=by rw[e]
def rH{f:FuncId}{args args':List Aa}{k:Aa->IT}(e:args=args'):IT.call f args k=IT.call f args' k:=by rw[e]
def mK{f:FuncId}{args args':List Aa}{k:Aa->IT}(e:args=args'):IT.Cb f args k=IT.Cb f args' k:=by rw[e]
def mL{f f':Aa}{args args':List Aa}{k:Aa->IT}(d:f=f')(e:args=args'):IT.Iz f args k=IT.Iz f' args' k:=by rw[e,d]
def rI{key:Nat}{i d:List Aa}{b:List Aa->IT}{k:DV->List Aa->IT}(e:i=d):IT.loop key i b k=IT.loop key d b k:=by rw[e]
def rJ{key:Nat}{b:IT}{k:DV->List Aa->IT}:IT.OR key b k=IT.OR key b k:=rfl
def be{v v':Aa}{k:Aa->IT}(e:v=v'):IT.UD v k=IT.UD v' k:=by rw[e]
def mM{size bytes:Nat}{s s' x x':Aa}{k:Aa->IT}(e:s=s')(d:x=x'):IT.KJ size bytes s x k=IT.KJ size bytes s' x' k:=by rw[e,d]
def rK{size bytes:Nat}{s s' x x':Aa}{k:Aa->IT}(e:s=s')(d:x=x'):IT.ID size bytes s x k=IT.ID size bytes s' x' k:=by rw[e,d]
def bh{o:kM}{args args':List Aa}{k:Aa->IT}(e:args=args'):IT.mem o args k=IT.mem o args' k:=by rw[e]
def YQ{size bytes:Nat}{s s' x x':Aa}{k:Aa->IT}(e:s=s')(d:x=x'):IT.F6 size bytes s x k=IT.F6 size bytes s' x' k:=by rw[e,d]
def mN{off:Nat}{p p':Aa}{k:IT}(e:p=p'):IT.O2 off p k=IT.O2 off p' k:=by rw[e]
def W0{s s':Aa}{k:Aa->IT}(e:s=s'):IT.ET s k=IT.ET s' k:=by rw[e]
def rL{m m' key key' v v':Aa}{k:IT}(e:m=m')(f:key=key')(d:v=v'):IT.Kc m key v k=IT.Kc m' key' v' k:=by rw[e,f,d]
def rM{z:Aa}{ok:Bool}{m m' key key':Aa}{k:Aa->IT}(e:m=m')(d:key=key'):IT.LO z ok m key k=IT.LO z ok m' key' k:=by rw[e,d]
attribute [congr] bc rF yn mv mH bd rG mI mJ rH mK mL rI rJ be mN rK YQ bh mM W0 rL rM
attribute [simp] LY mG ZJ WU WV C8 ZH WS WT Pn Nq WW Uj Uk ZK Ul WX QK ZL Um Po Rb WY WZ Mx EZ
section
variable{k:IntKind}{a b:Int}{s t:Aj}
@[simp] theorem ŉ:Az (.int .eql) [.int k a,.int k b]=some (.bool (decide (a=b))):=by cases k<;>rfl
@[simp] theorem Ŋ:Az (.int .neq) [.int k a,.int k b]=some (.bool (decide (a≠b))):=by
 have e:Az (.int .neq) [.int k a,.int k b]=some (.bool (!(a==b))):=by cases k<;>rfl
 rw[e];by_cases h:a=b<;>simp[h]
@[simp] theorem ŋ:Az (.int .lss) [.int k a,.int k b]=some (.bool (decide (a<b))):=by cases k<;>rfl
@[simp] theorem Ō:Az (.int .leq) [.int k a,.int k b]=some (.bool (decide (a<=b))):=by cases k<;>rfl
@[simp] theorem ō:Az (.int .gtr) [.int k a,.int k b]=some (.bool (decide (b<a))):=by cases k<;>rfl
@[simp] theorem Ŏ:Az (.int .geq) [.int k a,.int k b]=some (.bool (decide (b<=a))):=by cases k<;>rfl
def rN:Az (.int .add) [.int k a,.int k b]=some (.int k (k.wrap (a+b))):=by cases k<;>rfl
def rO:Az (.int .sub) [.int k a,.int k b]=some (.int k (k.wrap (a-b))):=by cases k<;>rfl
@[simp] theorem ŏ {b:Bool}:Az (.un .not) [.bool b]=some (.bool (!b)):=rfl
@[simp] theorem wT:Az (.str .eql) [.str s,.str t]=some (.bool (decide (s=t))):=by
 show some (Aa.bool (s==t))=_;congr 2
 by_cases h:s=t<;>simp[h]
@[simp] theorem yo:Az (.str .neq) [.str s,.str t]=some (.bool (decide (s≠t))):=by
 show some (Aa.bool (!(s==t)))=_;congr 2
 by_cases h:s=t<;>simp[h]
@[simp] theorem yp:Az (.len true) [.str s]=some (.int .i64 s.length):=rfl
@[simp] theorem aFN {i:Int}:Az .YA [.str s,.int k i]=if 0<=i then(s[i.toNat]?).map λb=> .int .u8 b.toNat else none:=rfl
@[simp] theorem bY {off:Nat} {cs:List Aa}:Az (.part off none) [.agg cs]=cs[off]?:=rfl
@[simp] theorem bZ {off n:Nat} {cs:List Aa}:Az (.part off (some n)) [.agg cs]=if off+n<=cs.length then some (.agg ((cs.drop off).take n)) else none:=rfl
@[simp] theorem Ő {i:Nat} {vs:List Aa}:Az (.ext i) [.tuple vs]=vs[i]?:=rfl
@[simp] theorem YR {p:Nat×Nat}:Az .I6 [.ptr (some p)]=some (.ptr (some p)):=rfl
@[simp] theorem W8 {cs:List Aa}:Az .I6 [.Cu cs]=some (.Cu cs):=rfl
@[simp] theorem W9 {f:FuncId} {a b:List Aa}:Az .I6 [.func (.func f) a b]=some (.func (.func f) a b):=rfl
@[simp] theorem YS {off:Nat} {cs:List Aa}:Az (.KI off) [.Cu cs]=some (.Cu (cs.drop off)):=rfl
@[simp] theorem cA {off id o:Nat}:Az (.KI off) [.ptr (some (id,o))]=some (.ptr (some (id,o+off))):=rfl
@[simp] theorem bk {neg:Bool}:Az (.Ė neg) [.ptr none,.ptr none]=some (.bool (true != neg)):=rfl
@[simp] theorem bl {neg:Bool} {p:Nat×Nat}:Az (.Ė neg) [.ptr (some p),.ptr none]=some (.bool (false != neg)):=rfl
@[simp] theorem bn {neg:Bool} {p:Nat×Nat}:Az (.Ė neg) [.ptr none,.ptr (some p)]=some (.bool (false != neg)):=rfl
@[simp] theorem ő {neg a b:Bool}:Az (.beq neg) [.bool a,.bool b]=some (.bool ((a==b) != neg)):=rfl
@[simp] theorem aFO {c:Bool} {a b:Aa}:Az .pick [.bool c,a,b]=some (if c then a else b):=rfl
@[simp] theorem Vf {l:IntKind}:Az (.conv l) [.int k a]=some (.int l (l.wrap a)):=rfl
@[simp] theorem mw {zero args:List Aa} {places:List (Nat×Nat)}:Az (.C2 zero places) args=if places.length=args.length then(Bj zero (places.zip args)).map .agg else none:=rfl
@[simp] theorem Xa {neg:Bool} {ks:List FK} {x y:List Aa}:Az (.geq neg ks) [.agg x,.agg y]=(DU ks x y).map λe=> .bool (e != neg):=rfl
@[simp] theorem my:Az (.Lc false) [.int k a,.int k b]=some (.int k (if b<a then b else a)):=by simp[Az]
@[simp] theorem cB:Az (.Lc true) [.int k a,.int k b]=some (.int k (if a<b then b else a)):=by simp[Az]
@[simp] theorem Xb {h:Ai} {n:Option Nat} {cs:List Aa}:Bd h n (.Cu cs)=E8 cs 0 n:=rfl
@[simp] theorem Gq {off:Nat} {cs:List Aa}:E8 cs off none=cs[off]?:=rfl
@[simp] theorem My {off n:Nat} {cs:List Aa}:E8 cs off (some n)=if off+n<=cs.length then some (.agg ((cs.drop off).take n)) else none:=rfl
@[simp] theorem wrap_i64 (h1: -9223372036854775808<=a) (h2:a<9223372036854775808):IntKind.i64.wrap a=a:=by rw[IntKind.wrap_i64];omega
end
def P6{cs:List Aa}:Aa.cells (.agg cs)=cs:=rfl
def ZM{k:IntKind}{n:Int}:Aa.cells (.int k n)=[.int k n]:=rfl
def P7{s:Aj}:Aa.cells (.str s)=[.str s]:=rfl
def Xc{b:Bool}:Aa.cells (.bool b)=[.bool b]:=rfl
def ZN{p:Option (Nat×Nat)}:Aa.cells (.ptr p)=[.ptr p]:=rfl
def Xd{p:List Aa}:Aa.cells (.Cu p)=[.Cu p]:=rfl
def Un:Aa.cells .slnil=[.slnil]:=rfl
def mO{z:Nat}{r:List (List Aa)}:Aa.cells (.sl z r)=[.sl z r]:=rfl
def ZO{i o l z:Nat}:Aa.cells (.CT i o l z)=[.CT i o l z]:=rfl
def Xe{f:Fn}{a b:List Aa}:Aa.cells (.func f a b)=[.func f a b]:=rfl
attribute [simp] Bj DU LM Cc P6 ZM P7 Xc ZN Xd Un mO ZO Xe
def Bz(z:Nat)(Av:List (List Aa))(v:Aa):Prop:=v= .sl z Av\/(v= .slnil/\Av=[])
section
variable{z:Nat}{Av:List (List Aa)}{v:Aa}
def Bz.mk:Bz z Av (.sl z Av):= .inl rfl
def Bz.nil:Bz z [] .slnil:= .inr ⟨rfl,rfl⟩
def Bz.cells(h:Bz z Av v):v.cells=[v]:=by rcases h with rfl|⟨rfl,rfl⟩<;>rfl
def Bz.len(h:Bz z Av v):Az (.len false) [v]=some (.int .i64 Av.length):=by rcases h with rfl|⟨rfl,rfl⟩<;>rfl
def Bz.FG(h:Bz z Av v){k:IntKind}{n:Nat}(hn:n<Av.length):Az (.FG z) [v,.int k (n:Int)]=some (.Cu Av[n]):=by
 rcases h with rfl|⟨rfl,rfl⟩
 .simp[Az,elemOf,hn]
 .simp at hn
end
end Go.Am
end
section
namespace Go.Am
open Go
section
variable{C:Fx}{Q:JE}{h:Ai}
def Pp{key:Nat}{vs:List Aa}{body:List Aa->IT}{k:DV->List Aa->IT}
  (hw:W C (body vs) (λx è h1=>(x= .normal/\W C (.loop key è body k) Q h1)\/(x≠ .normal/\W C (k x è) Q h1)) h):W C (.loop key vs body k) Q h:=by
 obtain⟨m,x,è,h1,hr,IB⟩:=hw.succ;rcases IB with⟨rfl,hw⟩|⟨hx,hw⟩
 .obtain⟨m',x',HB,h',Hn,q⟩:=hw;refine CP ⟨max m m',x',HB,h',?_,q⟩;have e:=IT.Jh (λt h r=>IT.HM (fn:=BZ C) (Hy m m')) _ _ _ hr;have d:=IT.HM (GP m m') Hn;simp only[IT.step];simp only[Fx.run] at*;rw[e];exact d
 .obtain⟨m',x',HB,h',Hn,q⟩:=hw.succ;refine CP ⟨max m m',x',HB,h',?_,q⟩;have e:=IT.Jh (λt h r=>IT.HM (fn:=BZ C) (Hy m m')) _ _ _ hr;have d:=IT.Jh (λt h r=>IT.HM (fn:=BZ C) (GP m m')) _ _ _ Hn;simp only[IT.step];simp only[Fx.run] at*;rw[e];cases x<;>first|exact absurd rfl hx|exact d
def Br{U:Type}(C:Fx)(enc:U->List Aa)(DL:U->Ai->Prop)(O:U->Nat)(k:DV->List Aa->IT)(Q:JE)(s:U):JE:=
 λx vs h1=>(x= .normal/\∃s',vs=enc s'/\DL s' h1/\O s'<O s)\/(x≠ .normal/\W C (k x vs) Q h1)
variable{U:Type}{enc:U->List Aa}{DL:U->Ai->Prop}{O:U->Nat}{k:DV->List Aa->IT}{s:U}{vs:List Aa}
def Br.next(s':U)(e:vs=enc s')(hi:DL s' h)(hl:O s'<O s):Br C enc DL O k Q s .normal vs h:= .inl ⟨rfl,s',e,hi,hl⟩
def YT{i:Nat}:Br C enc DL O k Q s (.exit i) vs h↔W C (k (.exit i) vs) Q h:=by simp[Br]
def cC:Br C enc DL O k Q s .ret vs h↔W C (k .ret vs) Q h:=by simp[Br]
def BM{key:Nat}{init:List Aa}{body:List Aa->IT}(enc:U->List Aa)(DL:U->Ai->Prop)(O:U->Nat)(s0:U)(h0:init=enc s0)(hi:DL s0 h)
  (round:∀s h,DL s h->W C (body (enc s)) (Br C enc DL O k Q s) h):W C (.loop key init body k) Q h:=by
 subst h0;have key:∀n s h,O s=n->DL s h->W C (.loop key (enc s) body k) Q h:=by
  intro n;induction n using Nat.strongRecOn with
  |_ n ih=>
   intro s h hn hI;refine Pp (W.mono (round s h hI) ?_);rintro x vs h1 (⟨rfl,s',rfl,kh,hl⟩|⟨hx,hw⟩);.exact .inl ⟨rfl,ih _ (hn▸hl) s' h1 rfl kh⟩
   .exact .inr ⟨hx,hw⟩
 exact key _ s0 h rfl hi
end
section
variable{k l:IntKind}{s:Aj}
def Ia{n:Nat}(hn:n<s.length):Az .YA [.str s,.int k (n:Int)]=some (.int .u8 (s[n].toNat:Int)):=by simp[hn]
def CE{n:Nat}(hn:n<9223372036854775807):Az (.int .add) [.int .i64 (n:Int),.int .i64 1]=some (.int .i64 ((n+1:Nat):Int)):=by rw[rN,wrap_i64 Ac Ac];rfl
def MV{n:Nat}(h0:0<n)(hn:n<9223372036854775807):Az (.int .sub) [.int .i64 (n:Int),.int .i64 1]=some (.int .i64 ((n-1:Nat):Int)):=by rw[rO,wrap_i64 Ac Ac];congr 2;omega
def rP{a b z:Nat}(bo:a<=b)(hb:b<=s.length):Az (.PU z true true true) [.str s,.int k (a:Int),.int l (b:Int)]=some (.str ((s.take b).drop a)):=by
 have e:En (b:Int) s.length=some b:=by unfold En;rw[Ag Ac];rfl
 have d:En (a:Int) b=some a:=by unfold En;rw[Ag Ac];rfl
 simp[Az,Im,Dx,e,d]
end
section
variable{z b:Nat}{r r2:List (List Aa)}{row:List Aa}{v v2:Aa}
def Bz.mz(h:Bz z r v)(hb:(r.length+1)*b<=AJ):Az (.append z b) [v,.sl z [row]]=some (.sl z (r++[row])):=by
 rcases h with rfl|⟨rfl,rfl⟩
 .simp[Az,HA,Dm,hb]
 .have:1*b<=AJ:=by simpa using hb
  simp only[Eo] at this;simp[Az,HA,Dm,this]
def Bz.Jn(h:Bz z r v)(h2:Bz z r2 v2)(hb:(r.length+r2.length)*b<=AJ):∃u,Az (.append z b) [v,v2]=some u/\Bz z (r++r2) u:=by
 have hnil:∃u,Dm z b v []=some u/\Bz z (r++[]) u:=by
  rcases h with rfl|⟨rfl,rfl⟩
  .exact⟨.sl z r,by simp[Dm],by rw[Bs];exact .mk⟩
  .exact⟨_,rfl,.nil⟩
 rcases h2 with rfl|⟨rfl,rfl⟩
 .cases r2 with
  |nil=>obtain⟨u,e,hu⟩:=hnil;exact⟨u,by simpa[Az,HA] using e,hu⟩
  |cons x l=>
   refine⟨.sl z (r++x::l),?_,.mk⟩;rcases h with rfl|⟨rfl,rfl⟩
   .simp only[Az,HA,BE,Dm];rw[Ag ⟨trivial,hb⟩]
   .simp only[Az,HA,BE,Dm];rw[Ag (by simpa using hb)];rfl
 .obtain⟨u,e,hu⟩:=hnil;exact⟨u,by simpa[Az,HA] using e,hu⟩
def Bz.UD(h:Bz z r v){hp:Ai}:KK hp v=some (hp,v):=by rcases h with rfl|⟨rfl,rfl⟩<;>rfl
def Xf(s:Aj):Mq (CX s)=some s:=by
 induction s with
 |nil=>rfl
 |cons c s ih=>have e:CX (c::s)=[.int .u8 c.toNat]::CX s:=rfl;rw[e,Mq,ih];simp
def Bz.YB{s:Aj}(h:Bz 1 (CX s) v):Az .YB [v]=some (.str s):=by
 rcases h with rfl|⟨rfl,h⟩
 .simp[Az,aP,Xf]
 .have e:s=[]:=by simpa[CX] using h
  subst e;rfl
end
@[simp] theorem wU {z:Nat} {args:List Aa}:Az (.DX z) args=if args.all (λa=>a.cells.length==z)&&decide (args.length*z<=16777216) then some (.sl z (args.map (·.cells))) else none:=rfl
def R4{a:Aa}{z:Nat}(h:a.cells.length=z)(hz:z<=16777216):Az (.DX z) [a]=some (.sl z [a.cells]):=by simp[h,hz]
def wrap_u8{a:Int}(h:0<=a/\a<=255):IntKind.u8.wrap a=a:=IntWalk.u8_in a h
def m_{a:Int}(h: -2147483648<=a/\a<=2147483647):IntKind.i32.wrap a=a:=IntWalk.i32_in a h
def Ae{C:Fx}{f:FuncId}{args:List Aa}{h h':Ai}{r:Aa}:B2 C f args h r h'↔W C (BZ C f args) (λx vs h1=>x= .ret/\vs=[r]/\h1=h') h:=Iff.rfl
abbrev yq(C:Fx)(f:FuncId)(t:Aa->IT):Prop:=∀a0,BZ C f [a0]=t a0
abbrev Tq2(C:Fx)(f:FuncId)(t:Aa->Aa->IT):Prop:=∀a0 a1,BZ C f [a0,a1]=t a0 a1
abbrev Tq3(C:Fx)(f:FuncId)(t:Aa->Aa->Aa->IT):Prop:=∀a0 a1 a2,BZ C f [a0,a1,a2]=t a0 a1 a2
abbrev Tq4(C:Fx)(f:FuncId)(t:Aa->Aa->Aa->Aa->IT):Prop:=∀a0 a1 a2 a3,BZ C f [a0,a1,a2,a3]=t a0 a1 a2 a3
abbrev Tq5(C:Fx)(f:FuncId)(t:Aa->Aa->Aa->Aa->Aa->IT):Prop:=∀a0 a1 a2 a3 a4,BZ C f [a0,a1,a2,a3,a4]=t a0 a1 a2 a3 a4
def IT.fa(p:Aa)(k:Nat)(K:Aa->Aa->IT):IT:= .op .I6 [p] λa=> .op (.KI k) [a] λb=>K a b
def IT.Yx(p:Aa)(k:Nat)(K:Aa->Aa->Aa->IT):IT:= .op .I6 [p] λa=> .op (.KI k) [a] λb=> .load none b λc=>K a b c
def IT.fl(p:Aa)(k:Nat)(K:Aa->Aa->IT):IT:= .op (.KI k) [p] λa=> .load none a λb=>K a b
def nx(A R:List Aa->IT):DV->List Aa->IT:=λx c=>match x with
 | .normal=>A c
 | .exit _=> .fail
 | .ret=>R c
def lx(k:Nat)(A R:List Aa->IT):DV->List Aa->IT:=λx c=>match x with
 | .normal=> .fail
 | .exit i=>if i=k then A c else .fail
 | .ret=>R c
section
variable{C:Fx}{Q:JE}{h:Ai}{p:Aa}{k:Nat}{A R:List Aa->IT}{c:List Aa}
def aHn{K:Aa->Aa->IT}:W C (IT.fa p k K) Q h=W C (.op .I6 [p] λa=> .op (.KI k) [a] λb=>K a b) Q h:=rfl
def aCF{K:Aa->Aa->Aa->IT}:W C (IT.Yx p k K) Q h=W C (.op .I6 [p] λa=> .op (.KI k) [a] λb=> .load none b λc=>K a b c) Q h:=rfl
def aHo{K:Aa->Aa->IT}:W C (IT.fl p k K) Q h=W C (.op (.KI k) [p] λa=> .load none a λb=>K a b) Q h:=rfl
def aHp:nx A R .normal c=A c:=rfl
def aHq:nx A R .ret c=R c:=rfl
def aHr:lx k A R (.exit k) c=A c:=Ag rfl
def aHs:lx k A R .ret c=R c:=rfl
end
def Ns:Aj->Aj->List Aj
 |cur,[]=>[cur]
 |cur,c::r=>if c=32 then cur::Ns [] r else Ns (cur++[c]) r
def R5:List Aj:=Ns [] [97,100,100,114,101,115,115,32,97,112,112,108,101,116,32,97,114,101,97,32,97,114,116,105,99,108,101,32,97,115,105,100,101,32,98,97,115,101,32,98,97,115,101,102,111,110,116,32,98,103,115,111,117,110,100,32,98,108,111,99,107,113,117,111,116,101,32,98,111,100,121,32,98,114,32,98,117,116,116,111,110,32,99,97,112,116,105,111,110,32,99,101,110,116,101,114,32,99,111,108,32,99,111,108,103,114,111,117,112,32,100,100,32,100,101,116,97,105,108,115,32,100,105,114,32,100,105,118,32,100,108,32,100,116,32,101,109,98,101,100,32,102,105,101,108,100,115,101,116,32,102,105,103,99,97,112,116,105,111,110,32,102,105,103,117,114,101,32,102,111,111,116,101,114,32,102,111,114,109,32,102,114,97,109,101,32,102,114,97,109,101,115,101,116,32,104,49,32,104,50,32,104,51,32,104,52,32,104,53,32,104,54,32,104,101,97,100,32,104,101,97,100,101,114,32,104,103,114,111,117,112,32,104,114,32,104,116,109,108,32,105,102,114,97,109,101,32,105,109,103,32,105,110,112,117,116,32,107,101,121,103,101,110,32,108,105,32,108,105,110,107,32,108,105,115,116,105,110,103,32,109,97,105,110,32,109,97,114,113,117,101,101,32,109,101,110,117,32,109,101,116,97,32,110,97,118,32,110,111,101,109,98,101,100,32,110,111,102,114,97,109,101,115,32,110,111,115,99,114,105,112,116,32,111,98,106,101,99,116,32,111,108,32,112,32,112,97,114,97,109,32,112,108,97,105,110,116,101,120,116,32,112,114,101,32,115,99,114,105,112,116,32,115,101,97,114,99,104,32,115,101,99,116,105,111,110,32,115,101,108,101,99,116,32,115,111,117,114,99,101,32,115,116,121,108,101,32,115,117,109,109,97,114,121,32,116,97,98,108,101,32,116,98,111,100,121,32,116,100,32,116,101,109,112,108,97,116,101,32,116,101,120,116,97,114,101,97,32,116,102,111,111,116,32,116,104,32,116,104,101,97,100,32,116,105,116,108,101,32,116,114,32,116,114,97,99,107,32,117,108,32,119,98,114,32,120,109,112]
def swv(s:Aa)(t e:IT):List (List UInt8)->IT
 |[]=>e
 |c::cs=>.op (.str .eql) [s,.str c] λv=>.FH v t (swv s t e cs)
abbrev IT.rr(l:List Aa):IT:=.ret .ret l
abbrev IT.rn(l:List Aa):IT:=.ret .normal l
abbrev IT.rx(n:Nat)(l:List Aa):IT:=.ret (.exit n) l
abbrev IT.ea(n:Nat)(l:List Aa)(k:Aa->IT):IT:=.op (.FG n) l k
abbrev IT.ld(p:Aa)(k:Aa->IT):IT:=.load none p k
abbrev IT.ie(l:List Aa)(k:Aa->IT):IT:=.op (.int .eql) l k
abbrev IT.iq(l:List Aa)(k:Aa->IT):IT:=.op (.int .neq) l k
abbrev IT.il(l:List Aa)(k:Aa->IT):IT:=.op (.int .lss) l k
abbrev IT.ig(l:List Aa)(k:Aa->IT):IT:=.op (.int .gtr) l k
abbrev IT.ia(l:List Aa)(k:Aa->IT):IT:=.op (.int .add) l k
abbrev IT.ib(l:List Aa)(k:Aa->IT):IT:=.op (.int .sub) l k
abbrev IT.ih(l:List Aa)(k:Aa->IT):IT:=.op (.int .geq) l k
abbrev IT.ik(l:List Aa)(k:Aa->IT):IT:=.op (.int .leq) l k
abbrev IT.se(l:List Aa)(k:Aa->IT):IT:=.op (.str .eql) l k
abbrev IT.ln(l:List Aa)(k:Aa->IT):IT:=.op (.len false) l k
abbrev IT.lt(l:List Aa)(k:Aa->IT):IT:=.op (.len true) l k
abbrev IT.nt(l:List Aa)(k:Aa->IT):IT:=.op (.un .not) l k
abbrev IT.ca(f:Nat)(l:List Aa)(k:Aa->IT):IT:=.call f l k
abbrev i0:Aa:=I 0
abbrev i1:Aa:=I 1
abbrev tu:Aa:=.tuple []
abbrev pn:Aa:=.ptr none
def a13(c:List Aa):Aa:=.agg [g c 0,g c 1,g c 2,g c 3,g c 4,g c 5,g c 6,g c 7,g c 8,g c 9,g c 10,g c 11,g c 12]
def a13_e{c:List Aa}:a13 c=.agg [g c 0,g c 1,g c 2,g c 3,g c 4,g c 5,g c 6,g c 7,g c 8,g c 9,g c 10,g c 11,g c 12]:=rfl
def a12(c:List Aa):Aa:=.agg [g c 0,g c 1,g c 2,g c 3,g c 4,g c 5,g c 6,g c 7,g c 8,g c 9,g c 10,g c 11]
def a12_e{c:List Aa}:a12 c=.agg [g c 0,g c 1,g c 2,g c 3,g c 4,g c 5,g c 6,g c 7,g c 8,g c 9,g c 10,g c 11]:=rfl
def a9(c:List Aa):Aa:=.agg [g c 0,g c 1,g c 2,g c 3,g c 4,g c 5,g c 6,g c 7,g c 8]
def a9_e{c:List Aa}:a9 c=.agg [g c 0,g c 1,g c 2,g c 3,g c 4,g c 5,g c 6,g c 7,g c 8]:=rfl
def a6(c:List Aa):Aa:=.agg [g c 0,g c 1,g c 2,g c 3,g c 4,g c 5]
def a6_e{c:List Aa}:a6 c=.agg [g c 0,g c 1,g c 2,g c 3,g c 4,g c 5]:=rfl
def a4(c:List Aa):Aa:=.agg [g c 0,g c 1,g c 2,g c 3]
def a4_e{c:List Aa}:a4 c=.agg [g c 0,g c 1,g c 2,g c 3]:=rfl
def a3(c:List Aa):Aa:=.agg [g c 0,g c 1,g c 2]
def a3_e{c:List Aa}:a3 c=.agg [g c 0,g c 1,g c 2]:=rfl
def ai{a b:Prop}(x:a)(y:b):a/\b:=⟨x,y⟩
def B9:=ai @a13_e (ai @a12_e (ai @a9_e (ai @a6_e (ai @a4_e (ai @a3_e (ai @aHn (ai @aCF (ai @aHo (ai @aHp (ai @aHq (ai @aHr (ai @aHs (ai @LY (ai @mG (ai @ZJ (ai @WU (ai @WV (ai @ZH (ai @WS (ai @WT (ai @Pn (ai @Nq (ai @WW (ai @Uj (ai @Uk (ai @ZK (ai @Ul (ai @WX (ai @QK (ai @ZL (ai @Um (ai @Po (ai @Rb (ai @WY (ai @WZ (ai @Mx (ai @EZ (ai @ŉ (ai @Ŋ (ai @ŋ (ai @Ō (ai @ō (ai @Ŏ (ai @ŏ (ai @wT (ai @yo (ai @yp (ai @bY (ai @bZ (ai @Ő (ai @YR (ai @W8 (ai @W9 (ai @YS (ai @cA (ai @bk (ai @bl (ai @bn (ai @ő (ai @mw (ai @Xb (ai @Gq (ai @My (ai @Zd.{0} (ai @Ze.{0} (ai @Ij.{0} (ai @SX.{0} (ai @F0.{0} (ai @OP.{0} (ai @List.drop_nil.{0} (ai @Ih.{0} (ai @Gy.{0} (ai @AG.{0} (ai @Bk.{0} (ai @CD.{0} (ai @BR.{0} (ai @aJN.{0,0} (ai @List.zip_nil_right.{0,0} (ai @BJ.{0,0} (ai @Option.map_none.{0,0} (ai @BB (ai @P6 (ai @ZM (ai @P7 (ai @Xc (ai @ZN (ai @Xd (ai @Un (ai @mO (ai @ZO (ai @Xe (ai @Yv (ai @J7 (ai @PS (ai @BE.{1} (ai @DR.{1} (ai @YT (@cC))))))))))))))))))))))))))))))))))))))))))))))))))))))))))))))))))))))))))))))))))))))))))))))))))
def YU:=ai @HI.{0} (ai @beq_self_eq_true.{0} (ai @Rs (ai @Bool.bne_false (ai @GK (ai @D2 (ai @AL (ai @AN (ai @AR (ai @AI (ai @Bp (ai @Nat.zero_lt_succ (ai @BJ.{0,0} (@List.take_nil.{0})))))))))))))
def abS:=ai B9 YU
def aaS:type_of%@AT.{0}:=@AT.{0}
def Uo:=ai @DM (ai @C0 (ai @Bool.and_true (ai @Bool.true_and (ai @Bool.and_false (ai @Bool.false_and (ai @Bool.or_true (ai @OY (ai @K4 (ai @I5 (ai @FD.{0} (ai @aJQ.{0} (ai @vE.{0} (ai @Option.isSome_none.{0} (ai @BE.{1} (ai @DR.{1} (ai @Ch (ai @J7 (ai @đ (ai @PS (ai @Ē (ai @aN (@Di))))))))))))))))))))))
abbrev Pt(i o:Nat):Aa:=.ptr (some (i,o))
end Go.Am
end
