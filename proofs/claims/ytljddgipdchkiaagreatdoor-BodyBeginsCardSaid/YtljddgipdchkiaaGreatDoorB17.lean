/- Lemmas -/
import Derived.Test.YtljddgipdchkiaaGreatDoorB1
import Derived.IntWalk
set_option linter.all false
section
namespace Go.Am
open Go
section
variable{C:FW}{Q:Hb}{h:Ah}
def Z5{x:DQ}{vs:List Aa}:W C (.ret x vs) Q h↔Q x vs h:=by refine⟨λhw=>?_,ľ⟩;obtain⟨n,x',HQ,h',hr,q⟩:=hw.succ;simp only[IT.step,Bz,Ih] at hr;obtain⟨rfl,rfl,rfl⟩:=hr;exact q
def Xl:W C .fail Q h↔False:=by refine⟨λhw=>?_,λh=>h.elim⟩;obtain⟨n,x',HQ,h',hr,q⟩:=hw.succ;simp[IT.step] at hr
def Z6{Z:Type}(o:Option Z)(f:Z->Prop):Prop:=∃v,o=some v/\f v
def di{Z:Type}{o o':Option Z}{f:Z->Prop}(h:o=o'):Z6 o f=Z6 o' f:=by rw[h]
def Mi{Z:Type}{v:Z}{f:Z->Prop}:Z6 (some v) f=f v:=propext (by
 constructor;.rintro⟨_,e,h⟩;cases e;exact h
 .intro h;exact⟨v,rfl,h⟩)
def lZ{Z:Type}{f:Z->Prop}:Z6 (none:Option Z) f=False:=propext (by
 constructor;.rintro⟨_,e,_⟩;cases e
 .exact False.elim)
def Xm{o:RM}{args:List Aa}{k:Aa->IT}:W C (.op o args k) Q h↔Z6 (AE o args) λv=>W C (k v) Q h:=by
 refine⟨λhw=>?_,λ⟨v,hv,hw⟩=>aDZ hv hw⟩;obtain⟨n,x',HQ,h',hr,q⟩:=hw.succ;simp only[IT.step] at hr;split at hr;.rename_i v hv;exact⟨v,hv,C2 ⟨n,x',HQ,h',hr,q⟩⟩
 .cases hr
def Pv{n:Nat}{v:Aa}{k:List Aa->IT}:W C (.cells n v k) Q h↔Z6 (if v.cells.length=n then some v.cells else none) λl=>W C (k l) Q h:=by
 constructor
 .intro hw;obtain⟨m,x',HQ,h',hr,q⟩:=hw.succ;simp only[IT.step] at hr;split at hr;.rename_i hv;exact⟨_,Ae hv,C2 ⟨m,x',HQ,h',hr,q⟩⟩
  .cases hr
 .rintro⟨l,e,hw⟩;split at e;.rename_i hv;cases e;exact vC hv hw
  .cases e
def Zc(v:Aa)(p q:Prop):Prop:=(v= .bool true/\p)\/(v= .bool false/\q)
def q9{v v':Aa}{p q:Prop}(h:v=v'):Zc v p q=Zc v' p q:=by rw[h]
def Tu{p q:Prop}:Zc (.bool true) p q=p:=by simp[Zc]
def Rk{p q:Prop}:Zc (.bool false) p q=q:=by simp[Zc]
def Cu{b:Bool}{p q:Prop}:Zc (.bool b) p q↔(b=true->p)/\(b=false->q):=by cases b<;>simp[Zc]
def Xn{c:Prop}[Decidable c]{p q:Prop}:Zc (.bool (decide c)) p q↔(c->p)/\(¬c->q):=by rw[Cu];simp
def NB{c:Aa}{t e:IT}:W C (.Gc c t e) Q h↔Zc c (W C t Q h) (W C e Q h):=by
 constructor
 .intro hw;obtain⟨m,x',HQ,h',hr,q⟩:=hw.succ;simp only[IT.step] at hr;split at hr;.exact .inl ⟨rfl,C2 ⟨m,x',HQ,h',hr,q⟩⟩
  .exact .inr ⟨rfl,C2 ⟨m,x',HQ,h',hr,q⟩⟩
  .cases hr
 .rintro(⟨rfl,hw⟩|⟨rfl,hw⟩);.exact vD (λ_=>hw) λh=>by cases h
  .exact vD (λh=>by cases h) λ_=>hw
def Xo{n:Option Nat}{p:Aa}{k:Aa->IT}:W C (.load n p k) Q h↔Z6 (Bd h n p) λv=>W C (k v) Q h:=by
 refine⟨λhw=>?_,λ⟨v,hv,hw⟩=>kj hv hw⟩;obtain⟨m,x',HQ,h',hr,q⟩:=hw.succ;simp only[IT.step] at hr;split at hr;.rename_i v hv;exact⟨v,hv,C2 ⟨m,x',HQ,h',hr,q⟩⟩
 .cases hr
def Ut{n:Nat}{p v:Aa}{k:IT}:W C (.store n p v k) Q h↔Z6 (Cx h n p v) λh1=>W C k Q h1:=by
 refine⟨λhw=>?_,λ⟨v,hv,hw⟩=>vE hv hw⟩;obtain⟨m,x',HQ,h',hr,q⟩:=hw.succ;simp only[IT.step] at hr;split at hr;.rename_i h1 hv;exact⟨h1,hv,C2 ⟨m,x',HQ,h',hr,q⟩⟩
 .cases hr
def Uu{n:Nat}{v:Aa}{k:Aa->IT}:W C (.alloc n v k) Q h↔Z6 (if v.cells.length=n then some v.cells else none) λl=>W C (k (.ptr (some (h.length,0)))) Q (h++[.cells l]):=by
 constructor
 .intro hw;obtain⟨m,x',HQ,h',hr,q⟩:=hw.succ;simp only[IT.step,Wk] at hr;by_cases hv:v.cells.length=n;.rw[Ae hv] at hr;exact⟨_,Ae hv,C2 ⟨m,x',HQ,h',hr,q⟩⟩
  .rw[Ac hv] at hr;cases hr
 .rintro⟨l,e,hw⟩;split at e;.rename_i hv;cases e;exact vF hv hw
  .cases e
def Z7{u:Aa}{k:Aa->IT}:W C (.O3 u k) Q h↔Z6 (Kw h u) λx=>W C (k x.2) Q x.1:=by
 refine⟨λhw=>?_,λ⟨(h1,v),hv,hw⟩=>Ŀ hv hw⟩;obtain⟨m,x',HQ,h',hr,q⟩:=hw.succ;simp only[IT.step] at hr;split at hr;.rename_i h1 v hv;exact⟨(h1,v),hv,C2 ⟨m,x',HQ,h',hr,q⟩⟩
 .cases hr
def Uv{off:Nat}{p:Aa}{k:IT}:W C (.O7 off p k) Q h↔Z6 (Ma h off p) λh1=>W C k Q h1:=by
 refine⟨λhw=>?_,λ⟨h1,hv,hw⟩=>vH hv hw⟩;obtain⟨m,x',HQ,h',hr,q⟩:=hw.succ;simp only[IT.step] at hr;split at hr;.rename_i h1 hv;exact⟨h1,hv,C2 ⟨m,x',HQ,h',hr,q⟩⟩
 .cases hr
def Uw{size bytes:Nat}{s x:Aa}{k:Aa->IT}:W C (.K9 size bytes s x k) Q h↔Z6 (KF h size bytes s x) λx=>W C (k x.2) Q x.1:=by
 refine⟨λhw=>?_,λ⟨(h1,v),hv,hw⟩=>vG hv hw⟩;obtain⟨m,x',HQ,h',hr,q⟩:=hw.succ;simp only[IT.step] at hr;split at hr;.rename_i h1 v hv;exact⟨(h1,v),hv,C2 ⟨m,x',HQ,h',hr,q⟩⟩
 .cases hr
def Xp{size bytes:Nat}{s x:Aa}{k:Aa->IT}:W C (.IP size bytes s x k) Q h↔Z6 (F8 h size bytes s x) λx=>W C (k x.2) Q x.1:=by
 refine⟨λhw=>?_,λ⟨(h1,v),hv,hw⟩=>kz hv hw⟩;obtain⟨m,x,HQ,h',hr,q⟩:=hw.succ;simp only[IT.step] at hr;split at hr;.rename_i h1 v hv;exact⟨(h1,v),hv,C2 ⟨m,x,HQ,h',hr,q⟩⟩
 .cases hr
def QP{size bytes:Nat}{s x:Aa}{k:Aa->IT}:W C (.Gx size bytes s x k) Q h↔Z6 (QF h size bytes s x) λv=>W C (k v) Q h:=by
 refine⟨λhw=>?_,λ⟨v,hv,hw⟩=>ZD hv hw⟩;obtain⟨m,x,HQ,h',hr,q⟩:=hw.succ;simp only[IT.step] at hr;split at hr;.rename_i v hv;exact⟨v,hv,C2 ⟨m,x,HQ,h',hr,q⟩⟩
 .cases hr
def Z8{o:kF}{args:List Aa}{k:Aa->IT}:W C (.mem o args k) Q h↔Z6 (E4 o h args) λx=>W C (k x.2) Q x.1:=by
 refine⟨λhw=>?_,λ⟨(h1,v),hv,hw⟩=>ŀ hv hw⟩;obtain⟨n,x,vs,h',hr,q⟩:=hw.succ;simp only[IT.step] at hr;split at hr;.rename_i h1 v hv;exact⟨(h1,v),hv,C2 ⟨n,x,vs,h',hr,q⟩⟩
 .cases hr
def Pw{s:Aa}{k:Aa->IT}:W C (.Fb s k) Q h↔Z6 (IQ h s) λx=>W C (k x.2) Q x.1:=by
 refine⟨λhw=>?_,λ⟨(h1,v),hv,hw⟩=>WB hv hw⟩;obtain⟨m,x',HQ,h',hr,q⟩:=hw.succ;simp only[IT.step] at hr;split at hr;.rename_i h1 v hv;exact⟨(h1,v),hv,C2 ⟨m,x',HQ,h',hr,q⟩⟩
 .cases hr
def Rl{k:Aa->IT}:W C (.O6 k) Q h↔W C (k (.map (some h.length))) Q (h++[.map []]):=by refine⟨λhw=>?_,ku⟩;obtain⟨m,x',HQ,h',hr,q⟩:=hw.succ;exact C2 ⟨m,x',HQ,h',hr,q⟩
def Xq{m key v:Aa}{k:IT}:W C (.Kv m key v k) Q h↔Z6 (T3 h m key v) λh1=>W C k Q h1:=by
 refine⟨λhw=>?_,λ⟨h1,hv,hw⟩=>kx hv hw⟩;obtain⟨m,x',HQ,h',hr,q⟩:=hw.succ;simp only[IT.step] at hr;split at hr;.rename_i h1 hv;exact⟨h1,hv,C2 ⟨m,x',HQ,h',hr,q⟩⟩
 .cases hr
def Xr{z:Aa}{ok:Bool}{m key:Aa}{k:Aa->IT}:W C (.L9 z ok m key k) Q h↔Z6 (T4 h z ok m key) λv=>W C (k v) Q h:=by
 refine⟨λhw=>?_,λ⟨h1,hv,hw⟩=>ky hv hw⟩;obtain⟨m,x',HQ,h',hr,q⟩:=hw.succ;simp only[IT.step] at hr;split at hr;.rename_i h1 hv;exact⟨h1,hv,C2 ⟨m,x',HQ,h',hr,q⟩⟩
 .cases hr
def MU{g:Aa}{args:List Aa}{k:Aa->IT}:W C (.Ja g args k) Q h↔Z6 (Di g args) λx=>W C (.call x.1 x.2 k) Q h:=by
 constructor
 .intro hw;obtain⟨m,x',HQ,h',hr,q⟩:=hw.succ;simp only[IT.step] at hr;split at hr;.rename_i f as e;refine⟨(f,as),e,C2 ⟨m,x',HQ,h',?_,q⟩⟩;simp only[IT.step];exact hr
  .cases hr
 .rintro⟨⟨f,as⟩,e,hw⟩;obtain⟨m,x',HQ,h',hr,q⟩:=hw.succ;refine C2 ⟨m,x',HQ,h',?_,q⟩;simp only[IT.step,e] at hr⊢;exact hr
def AZ{key:Nat}{t:IT}{k:DQ->List Aa->IT}:W C (.N0 key t k) Q h↔W C t (λx vs h1=>W C (k x vs) Q h1) h:=by
 refine⟨λhw=>?_,lf⟩;obtain⟨m,x',HQ,h',hr,q⟩:=hw.succ;simp only[IT.step] at hr;split at hr;.rename_i x vs h1 e;exact C2 ⟨m,_,_,_,e,C2 ⟨m,x',HQ,h',hr,q⟩⟩
 .cases hr
def BH(C:FW)(f:FuncId)(args:List Aa)(h:Ah)(r:Aa)(h':Ah):Prop:=W C (Ca C f args) (λx vs h1=>x= .ret/\vs=[r]/\h1=h') h
def BH.ev{f:FuncId}{args:List Aa}{r:Aa}{h':Ah}(hr:BH C f args h r h'){R:Aa->Ah->Prop}(hR:R r h'):Ev C f args h R:=
 W.mono hr λ_ _ _ ⟨h1,h2,d⟩=>⟨h1,r,h2,by rw[d];exact hR⟩
def BH.Ad{f:FuncId}{args:List Aa}{r:Aa}{h':Ah}(hr:BH C f args h r h'){k:Aa->IT}:W C (.call f args k) Q h↔W C (k r) Q h':=by
 refine⟨λhw=>?_,λhw=>k_ (hr.ev hw)⟩;obtain⟨n,i,ř,h1,g,rfl,rfl,rfl⟩:=hr;obtain⟨m,x',HQ,h2,d,q⟩:=hw.succ;simp only[IT.step] at d;split at d;.rename_i r2 j e;simp only[FW.run] at g e;have a1:=IT.Ia (HN n m) g;have a2:=IT.Ia (Hl n m) e;rw[a1] at a2;cases a2;exact C2 ⟨m,x',HQ,h2,d,q⟩
 .cases d
def Jj(C:FW)(f:FuncId)(args:List Aa)(r:Aa):Prop:=Ev C f args [] λx _=>x=r
def Jj.BV{f:FuncId}{args:List Aa}{r:Aa}(hr:Jj C f args r)(ha:args.all Aa.MI=true)(hf:r.MI=true){k:Aa->IT}:W C (.BV f args k) Q h↔W C (k r) Q h:=by
 refine⟨λhw=>?_,λhw=>xo ha (hr.mono λx _ e=>by rw[e];exact⟨hf,hw⟩)⟩;obtain⟨n,i,ř,h1,g,rfl,y,rfl,rfl⟩:=hr;obtain⟨m,x',HQ,h2,d,q⟩:=hw.succ;simp only[IT.step,ha,BL] at d;simp only[FW.run] at g d;have a1:=IT.Ia (HN n m) g;cases hc:IT.run (Ca C) m (Ca C f args) [] with
 |none=>rw[hc] at d;cases d
 |some z=>have a2:=IT.Ia (Hl n m) hc;rw[a1] at a2;cases a2;rw[hc] at d;simp only[hf,BL] at d;exact C2 ⟨m,x',HQ,h2,d,q⟩
end
def zj{C:FW}{t t':IT}{Q:Hb}{h h':Ah}(e:t=t')(d:h=h'):W C t Q h=W C t' Q h':=by rw[e,d]
def pj{o:RM}{args args':List Aa}{k:Aa->IT}(e:args=args'):IT.op o args k=IT.op o args' k:=by rw[e]
def l8{n:Nat}{v v':Aa}{k:List Aa->IT}(e:v=v'):IT.cells n v k=IT.cells n v' k:=by rw[e]
def dj{v v':Aa}{s t:IT}(e:v=v'):IT.Gc v s t=IT.Gc v' s t:=by rw[e]
def rA{n:Option Nat}{v v':Aa}{k:Aa->IT}(e:v=v'):IT.load n v k=IT.load n v' k:=by rw[e]
def mA{n:Nat}{p p' v v':Aa}{k:IT}(d:p=p')(e:v=v'):IT.store n p v k=IT.store n p' v' k:=by rw[e,d]
def mB{n:Nat}{v v':Aa}{k:Aa->IT}(e:v=v'):IT.alloc n v k=IT.alloc n v' k:=by rw[e]
def rB{f:FuncId}{args args':List Aa}{k:Aa->IT}(e:args=args'):IT.call f args k=IT.call f args' k:=by rw[e]
def mC{f:FuncId}{args args':List Aa}{k:Aa->IT}(e:args=args'):IT.BV f args k=IT.BV f args' k:=by rw[e]
def mD{f f':Aa}{args args':List Aa}{k:Aa->IT}(d:f=f')(e:args=args'):IT.Ja f args k=IT.Ja f' args' k:=by rw[e,d]
def rC{key:Nat}{i d:List Aa}{b:List Aa->IT}{k:DQ->List Aa->IT}(e:i=d):IT.loop key i b k=IT.loop key d b k:=by rw[e]
def rD{key:Nat}{b:IT}{k:DQ->List Aa->IT}:IT.N0 key b k=IT.N0 key b k:=rfl
def dk{v v':Aa}{k:Aa->IT}(e:v=v'):IT.O3 v k=IT.O3 v' k:=by rw[e]
def mE{size bytes:Nat}{s s' x x':Aa}{k:Aa->IT}(e:s=s')(d:x=x'):IT.K9 size bytes s x k=IT.K9 size bytes s' x' k:=by rw[e,d]
def rE{size bytes:Nat}{s s' x x':Aa}{k:Aa->IT}(e:s=s')(d:x=x'):IT.IP size bytes s x k=IT.IP size bytes s' x' k:=by rw[e,d]
def dr{o:kF}{args args':List Aa}{k:Aa->IT}(e:args=args'):IT.mem o args k=IT.mem o args' k:=by rw[e]
def Zd{size bytes:Nat}{s s' x x':Aa}{k:Aa->IT}(e:s=s')(d:x=x'):IT.Gx size bytes s x k=IT.Gx size bytes s' x' k:=by rw[e,d]
def mF{off:Nat}{p p':Aa}{k:IT}(e:p=p'):IT.O7 off p k=IT.O7 off p' k:=by rw[e]
def Xs{s s':Aa}{k:Aa->IT}(e:s=s'):IT.Fb s k=IT.Fb s' k:=by rw[e]
def rF{m m' key key' v v':Aa}{k:IT}(e:m=m')(f:key=key')(d:v=v'):IT.Kv m key v k=IT.Kv m' key' v' k:=by rw[e,f,d]
def rG{z:Aa}{ok:Bool}{m m' key key':Aa}{k:Aa->IT}(e:m=m')(d:key=key'):IT.L9 z ok m key k=IT.L9 z ok m' key' k:=by rw[e,d]
attribute [congr] di q9 zj pj l8 dj rA mA mB rB mC mD rC rD dk mF rE Zd dr mE Xs rF rG
attribute [simp] Mi lZ Tu Rk Xn Cu Z5 Xl Xm Pv NB Xo Ut Uu Z7 Uv Xp QP Z8 Uw Pw Rl Xq Xr MU AZ
section
variable{k:IntKind}{a b:Int}{s t:Ao}
@[simp] theorem aBq:AE (.int .eql) [.int k a,.int k b]=some (.bool (decide (a=b))):=by cases k<;>rfl
@[simp] theorem aBr:AE (.int .neq) [.int k a,.int k b]=some (.bool (decide (a≠b))):=by
 have e:AE (.int .neq) [.int k a,.int k b]=some (.bool (!(a==b))):=by cases k<;>rfl
 rw[e];by_cases h:a=b<;>simp[h]
@[simp] theorem aBs:AE (.int .lss) [.int k a,.int k b]=some (.bool (decide (a<b))):=by cases k<;>rfl
@[simp] theorem aBt:AE (.int .leq) [.int k a,.int k b]=some (.bool (decide (a<=b))):=by cases k<;>rfl
@[simp] theorem aBu:AE (.int .gtr) [.int k a,.int k b]=some (.bool (decide (b<a))):=by cases k<;>rfl
@[simp] theorem aBv:AE (.int .geq) [.int k a,.int k b]=some (.bool (decide (b<=a))):=by cases k<;>rfl
def cR:AE (.int .add) [.int k a,.int k b]=some (.int k (k.wrap (a+b))):=by cases k<;>rfl
def rH:AE (.int .sub) [.int k a,.int k b]=some (.int k (k.wrap (a-b))):=by cases k<;>rfl
@[simp] theorem aBw {b:Bool}:AE (.un .not) [.bool b]=some (.bool (!b)):=rfl
@[simp] theorem wD:AE (.str .eql) [.str s,.str t]=some (.bool (decide (s=t))):=by
 show some (Aa.bool (s==t))=_;congr 2
 by_cases h:s=t<;>simp[h]
@[simp] theorem zk:AE (.str .neq) [.str s,.str t]=some (.bool (decide (s≠t))):=by
 show some (Aa.bool (!(s==t)))=_;congr 2
 by_cases h:s=t<;>simp[h]
@[simp] theorem zl:AE (.len true) [.str s]=some (.int .i64 s.length):=rfl
@[simp] theorem aIf {i:Int}:AE .YV [.str s,.int k i]=if 0<=i then(s[i.toNat]?).map λb=> .int .u8 b.toNat else none:=rfl
@[simp] theorem cS {off:Nat} {cs:List Aa}:AE (.part off none) [.agg cs]=cs[off]?:=rfl
@[simp] theorem cT {off n:Nat} {cs:List Aa}:AE (.part off (some n)) [.agg cs]=if off+n<=cs.length then some (.agg ((cs.drop off).take n)) else none:=rfl
@[simp] theorem aBx {i:Nat} {vs:List Aa}:AE (.ext i) [.tuple vs]=vs[i]?:=rfl
@[simp] theorem Ze {p:Nat×Nat}:AE .JI [.ptr (some p)]=some (.ptr (some p)):=rfl
@[simp] theorem Xt {cs:List Aa}:AE .JI [.CG cs]=some (.CG cs):=rfl
@[simp] theorem Xu {f:FuncId} {a b:List Aa}:AE .JI [.func (.func f) a b]=some (.func (.func f) a b):=rfl
@[simp] theorem Zf {off:Nat} {cs:List Aa}:AE (.K8 off) [.CG cs]=some (.CG (cs.drop off)):=rfl
@[simp] theorem cU {off id o:Nat}:AE (.K8 off) [.ptr (some (id,o))]=some (.ptr (some (id,o+off))):=rfl
@[simp] theorem du {neg:Bool}:AE (.peq neg) [.ptr none,.ptr none]=some (.bool (true != neg)):=rfl
@[simp] theorem dv {neg:Bool} {p:Nat×Nat}:AE (.peq neg) [.ptr (some p),.ptr none]=some (.bool (false != neg)):=rfl
@[simp] theorem dw {neg:Bool} {p:Nat×Nat}:AE (.peq neg) [.ptr none,.ptr (some p)]=some (.bool (false != neg)):=rfl
@[simp] theorem aBy {neg a b:Bool}:AE (.beq neg) [.bool a,.bool b]=some (.bool ((a==b) != neg)):=rfl
@[simp] theorem aIg {c:Bool} {a b:Aa}:AE .pick [.bool c,a,b]=some (if c then a else b):=rfl
@[simp] theorem Qf {l:IntKind}:AE (.conv l) [.int k a]=some (.int l (l.wrap a)):=rfl
@[simp] theorem pk {zero args:List Aa} {places:List (Nat×Nat)}:AE (.Cm zero places) args=if places.length=args.length then(AP zero (places.zip args)).map .agg else none:=rfl
@[simp] theorem Rm {neg:Bool} {ks:List FK} {x y:List Aa}:AE (.geq neg ks) [.agg x,.agg y]=(D5 ks x y).map λe=> .bool (e != neg):=rfl
@[simp] theorem po:AE (.Lw false) [.int k a,.int k b]=some (.int k (if b<a then b else a)):=by simp[AE]
@[simp] theorem cV:AE (.Lw true) [.int k a,.int k b]=some (.int k (if a<b then b else a)):=by simp[AE]
@[simp] theorem Xv {h:Ah} {n:Option Nat} {cs:List Aa}:Bd h n (.CG cs)=Ft cs 0 n:=rfl
@[simp] theorem E7 {off:Nat} {cs:List Aa}:Ft cs off none=cs[off]?:=rfl
@[simp] theorem MV {off n:Nat} {cs:List Aa}:Ft cs off (some n)=if off+n<=cs.length then some (.agg ((cs.drop off).take n)) else none:=rfl
@[simp] theorem wrap_i64 (h1: -9223372036854775808<=a) (h2:a<9223372036854775808):IntKind.i64.wrap a=a:=by rw[IntKind.wrap_i64];omega
end
def Qg{cs:List Aa}:Aa.cells (.agg cs)=cs:=rfl
def Z9{k:IntKind}{n:Int}:Aa.cells (.int k n)=[.int k n]:=rfl
def Qh{s:Ao}:Aa.cells (.str s)=[.str s]:=rfl
def Xw{b:Bool}:Aa.cells (.bool b)=[.bool b]:=rfl
def aA{p:Option (Nat×Nat)}:Aa.cells (.ptr p)=[.ptr p]:=rfl
def Xx{p:List Aa}:Aa.cells (.CG p)=[.CG p]:=rfl
def Ux:Aa.cells .slnil=[.slnil]:=rfl
def mG{z:Nat}{r:List (List Aa)}:Aa.cells (.sl z r)=[.sl z r]:=rfl
def aB{i o l z:Nat}:Aa.cells (.CE i o l z)=[.CE i o l z]:=rfl
def Xy{f:Fn}{a b:List Aa}:Aa.cells (.func f a b)=[.func f a b]:=rfl
attribute [simp] AP D5 Lx Di Qg Z9 Qh Xw aA Xx Ux mG aB Xy
def AU(z:Nat)(AD:List (List Aa))(v:Aa):Prop:=v= .sl z AD\/(v= .slnil/\AD=[])
section
variable{z:Nat}{AD:List (List Aa)}{v:Aa}
def AU.mk:AU z AD (.sl z AD):= .inl rfl
def AU.nil:AU z [] .slnil:= .inr ⟨rfl,rfl⟩
def AU.cells(h:AU z AD v):v.cells=[v]:=by rcases h with rfl|⟨rfl,rfl⟩<;>rfl
def AU.len(h:AU z AD v):AE (.len false) [v]=some (.int .i64 AD.length):=by rcases h with rfl|⟨rfl,rfl⟩<;>rfl
def AU.E2(h:AU z AD v){k:IntKind}{n:Nat}(hn:n<AD.length):AE (.E2 z) [v,.int k (n:Int)]=some (.CG AD[n]):=by
 rcases h with rfl|⟨rfl,rfl⟩
 .simp[AE,elemOf,hn]
 .simp at hn
end
end Go.Am
end
section
namespace Go.Am
open Go
section
variable{C:FW}{Q:Hb}{h:Ah}
def Px{key:Nat}{vs:List Aa}{body:List Aa->IT}{k:DQ->List Aa->IT}
  (hw:W C (body vs) (λx ř h1=>(x= .normal/\W C (.loop key ř body k) Q h1)\/(x≠ .normal/\W C (k x ř) Q h1)) h):W C (.loop key vs body k) Q h:=by
 obtain⟨m,x,ř,h1,hr,Jc⟩:=hw.succ;rcases Jc with⟨rfl,hw⟩|⟨hx,hw⟩
 .obtain⟨m',x',HQ,h',FX,q⟩:=hw;refine C2 ⟨max m m',x',HQ,h',?_,q⟩;have e:=IT.JT (λt h r=>IT.Ia (fn:=Ca C) (HN m m')) _ _ _ hr;have d:=IT.Ia (Hl m m') FX;simp only[IT.step];simp only[FW.run] at*;rw[e];exact d
 .obtain⟨m',x',HQ,h',FX,q⟩:=hw.succ;refine C2 ⟨max m m',x',HQ,h',?_,q⟩;have e:=IT.JT (λt h r=>IT.Ia (fn:=Ca C) (HN m m')) _ _ _ hr;have d:=IT.JT (λt h r=>IT.Ia (fn:=Ca C) (Hl m m')) _ _ _ FX;simp only[IT.step];simp only[FW.run] at*;rw[e];cases x<;>first|exact absurd rfl hx|exact d
def AK{U:Type}(C:FW)(enc:U->List Aa)(D3:U->Ah->Prop)(O:U->Nat)(k:DQ->List Aa->IT)(Q:Hb)(s:U):Hb:=
 λx vs h1=>(x= .normal/\∃s',vs=enc s'/\D3 s' h1/\O s'<O s)\/(x≠ .normal/\W C (k x vs) Q h1)
variable{U:Type}{enc:U->List Aa}{D3:U->Ah->Prop}{O:U->Nat}{k:DQ->List Aa->IT}{s:U}{vs:List Aa}
def AK.next(s':U)(e:vs=enc s')(hi:D3 s' h)(hl:O s'<O s):AK C enc D3 O k Q s .normal vs h:= .inl ⟨rfl,s',e,hi,hl⟩
def Zg{i:Nat}:AK C enc D3 O k Q s (.exit i) vs h↔W C (k (.exit i) vs) Q h:=by simp[AK]
def cW:AK C enc D3 O k Q s .ret vs h↔W C (k .ret vs) Q h:=by simp[AK]
def Bf{key:Nat}{init:List Aa}{body:List Aa->IT}(enc:U->List Aa)(D3:U->Ah->Prop)(O:U->Nat)(s0:U)(h0:init=enc s0)(hi:D3 s0 h)
  (round:∀s h,D3 s h->W C (body (enc s)) (AK C enc D3 O k Q s) h):W C (.loop key init body k) Q h:=by
 subst h0;have key:∀n s h,O s=n->D3 s h->W C (.loop key (enc s) body k) Q h:=by
  intro n;induction n using Nat.strongRecOn with
  |_ n ih=>
   intro s h hn hI;refine Px (W.mono (round s h hI) ?_);rintro x vs h1 (⟨rfl,s',rfl,my,hl⟩|⟨hx,hw⟩);.exact .inl ⟨rfl,ih _ (hn▸hl) s' h1 rfl my⟩
   .exact .inr ⟨hx,hw⟩
 exact key _ s0 h rfl hi
end
section
variable{k l:IntKind}{s:Ao}
def Fw{n:Nat}(hn:n<s.length):AE .YV [.str s,.int k (n:Int)]=some (.int .u8 (s[n].toNat:Int)):=by simp[hn]
def BI{n:Nat}(hn:n<9223372036854775807):AE (.int .add) [.int .i64 (n:Int),.int .i64 1]=some (.int .i64 ((n+1:Nat):Int)):=by rw[cR,wrap_i64 Ab Ab];rfl
def Ie{n:Nat}(h0:0<n)(hn:n<9223372036854775807):AE (.int .sub) [.int .i64 (n:Int),.int .i64 1]=some (.int .i64 ((n-1:Nat):Int)):=by rw[rH,wrap_i64 Ab Ab];congr 2;omega
def Mj{a b z:Nat}(YQ:a<=b)(hb:b<=s.length):AE (.KA z true true true) [.str s,.int k (a:Int),.int l (b:Int)]=some (.str ((s.take b).drop a)):=by
 have e:E3 (b:Int) s.length=some b:=by unfold E3;rw[Ae Ab];rfl
 have d:E3 (a:Int) b=some a:=by unfold E3;rw[Ae Ab];rfl
 simp[AE,JB,DX,e,d]
end
section
variable{z b:Nat}{r r2:List (List Aa)}{row:List Aa}{v v2:Aa}
def AU.pq(h:AU z r v)(hb:(r.length+1)*b<=AM):AE (.append z b) [v,.sl z [row]]=some (.sl z (r++[row])):=by
 rcases h with rfl|⟨rfl,rfl⟩
 .simp[AE,HP,DI,hb]
 .have:1*b<=AM:=by simpa using hb
  simp only[D4] at this;simp[AE,HP,DI,this]
def AU.IA(h:AU z r v)(h2:AU z r2 v2)(hb:(r.length+r2.length)*b<=AM):∃u,AE (.append z b) [v,v2]=some u/\AU z (r++r2) u:=by
 have hnil:∃u,DI z b v []=some u/\AU z (r++[]) u:=by
  rcases h with rfl|⟨rfl,rfl⟩
  .exact⟨.sl z r,by simp[DI],by rw[BE];exact .mk⟩
  .exact⟨_,rfl,.nil⟩
 rcases h2 with rfl|⟨rfl,rfl⟩
 .cases r2 with
  |nil=>obtain⟨u,e,hu⟩:=hnil;exact⟨u,by simpa[AE,HP] using e,hu⟩
  |cons x l=>
   refine⟨.sl z (r++x::l),?_,.mk⟩;rcases h with rfl|⟨rfl,rfl⟩
   .simp only[AE,HP,BL,DI];rw[Ae ⟨trivial,hb⟩]
   .simp only[AE,HP,BL,DI];rw[Ae (by simpa using hb)];rfl
 .obtain⟨u,e,hu⟩:=hnil;exact⟨u,by simpa[AE,HP] using e,hu⟩
def AU.O3(h:AU z r v){hp:Ah}:Kw hp v=some (hp,v):=by rcases h with rfl|⟨rfl,rfl⟩<;>rfl
def Rn(s:Ao):MM (Cd s)=some s:=by
 induction s with
 |nil=>rfl
 |cons c s ih=>have e:Cd (c::s)=[.int .u8 c.toNat]::Cd s:=rfl;rw[e,MM,ih];simp
def AU.Wh{s:Ao}(h:AU 1 (Cd s) v):AE .Wh [v]=some (.str s):=by
 rcases h with rfl|⟨rfl,h⟩
 .simp[AE,Wj,Rn]
 .have e:s=[]:=by simpa[Cd] using h
  subst e;rfl
def QQ(s t:Ao):Cd (s++t)=Cd s++Cd t:=by simp[Cd]
def Zh(s:Ao):(Cd s).length=s.length:=by simp[Cd]
end
@[simp] theorem wE {z:Nat} {args:List Aa}:AE (.Dh z) args=if args.all (λa=>a.cells.length==z)&&decide (args.length*z<=16777216) then some (.sl z (args.map (·.cells))) else none:=rfl
def Mk{a:Aa}{z:Nat}(h:a.cells.length=z)(hz:z<=16777216):AE (.Dh z) [a]=some (.sl z [a.cells]):=by simp[h,hz]
def wrap_u8{a:Int}(h:0<=a/\a<=255):IntKind.u8.wrap a=a:=IntWalk.u8_in a h
def pv{a:Int}(h: -2147483648<=a/\a<=2147483647):IntKind.i32.wrap a=a:=IntWalk.i32_in a h
def Af{C:FW}{f:FuncId}{args:List Aa}{h h':Ah}{r:Aa}:BH C f args h r h'↔W C (Ca C f args) (λx vs h1=>x= .ret/\vs=[r]/\h1=h') h:=aDb
abbrev xf(C:FW)(f:FuncId)(t:Aa->IT):Prop:=∀a0,Ca C f [a0]=t a0
abbrev Tq2(C:FW)(f:FuncId)(t:Aa->Aa->IT):Prop:=∀a0 a1,Ca C f [a0,a1]=t a0 a1
abbrev Tq3(C:FW)(f:FuncId)(t:Aa->Aa->Aa->IT):Prop:=∀a0 a1 a2,Ca C f [a0,a1,a2]=t a0 a1 a2
abbrev Tq4(C:FW)(f:FuncId)(t:Aa->Aa->Aa->Aa->IT):Prop:=∀a0 a1 a2 a3,Ca C f [a0,a1,a2,a3]=t a0 a1 a2 a3
abbrev Tq5(C:FW)(f:FuncId)(t:Aa->Aa->Aa->Aa->Aa->IT):Prop:=∀a0 a1 a2 a3 a4,Ca C f [a0,a1,a2,a3,a4]=t a0 a1 a2 a3 a4
def IT.fa(p:Aa)(k:Nat)(K:Aa->Aa->IT):IT:= .op .JI [p] λa=> .op (.K8 k) [a] λb=>K a b
def IT.Py(p:Aa)(k:Nat)(K:Aa->Aa->Aa->IT):IT:= .op .JI [p] λa=> .op (.K8 k) [a] λb=> .load none b λc=>K a b c
def IT.fl(p:Aa)(k:Nat)(K:Aa->Aa->IT):IT:= .op (.K8 k) [p] λa=> .load none a λb=>K a b
def nx(A R:List Aa->IT):DQ->List Aa->IT:=λx c=>match x with
 | .normal=>A c
 | .exit _=> .fail
 | .ret=>R c
def lx(k:Nat)(A R:List Aa->IT):DQ->List Aa->IT:=λx c=>match x with
 | .normal=> .fail
 | .exit i=>if i=k then A c else .fail
 | .ret=>R c
section
variable{C:FW}{Q:Hb}{h:Ah}{p:Aa}{k:Nat}{A R:List Aa->IT}{c:List Aa}
def aJP{K:Aa->Aa->IT}:W C (IT.fa p k K) Q h=W C (.op .JI [p] λa=> .op (.K8 k) [a] λb=>K a b) Q h:=rfl
def aEM{K:Aa->Aa->Aa->IT}:W C (IT.Py p k K) Q h=W C (.op .JI [p] λa=> .op (.K8 k) [a] λb=> .load none b λc=>K a b c) Q h:=rfl
def aJQ{K:Aa->Aa->IT}:W C (IT.fl p k K) Q h=W C (.op (.K8 k) [p] λa=> .load none a λb=>K a b) Q h:=rfl
def aJR:nx A R .normal c=A c:=rfl
def aJS:nx A R .ret c=R c:=rfl
def aJT:lx k A R (.exit k) c=A c:=Ae rfl
def aJU:lx k A R .ret c=R c:=rfl
end
def Dg:Ao->Ao->List Ao
 |cur,[]=>[cur]
 |cur,c::r=>if c=32 then cur::Dg [] r else Dg (cur++[c]) r
def NC:List Ao:=Dg [] aSx
def swv(s:Aa)(t e:IT):List (List UInt8)->IT
 |[]=>e
 |c::cs=>.op (.str .eql) [s,.str c] λv=>.Gc v t (swv s t e cs)
abbrev IT.rr(l:List Aa):IT:=.ret .ret l
abbrev IT.rn(l:List Aa):IT:=.ret .normal l
abbrev IT.rx(n:Nat)(l:List Aa):IT:=.ret (.exit n) l
abbrev IT.ea(n:Nat)(l:List Aa)(k:Aa->IT):IT:=.op (.E2 n) l k
abbrev IT.ld(p:Aa)(k:Aa->IT):IT:=.load none p k
abbrev IT.ie(l:List Aa)(k:Aa->IT):IT:=.op (.int .eql) l k
abbrev IT.iq(l:List Aa)(k:Aa->IT):IT:=.op (.int .neq) l k
abbrev IT.il(l:List Aa)(k:Aa->IT):IT:=.op (.int .lss) l k
abbrev IT.ig(l:List Aa)(k:Aa->IT):IT:=.op (.int .gtr) l k
abbrev IT.ia(l:List Aa)(k:Aa->IT):IT:=.op (.int .add) l k
abbrev IT.ib(l:List Aa)(k:Aa->IT):IT:=.op (.int .sub) l k
abbrev IT.ih(l:List Aa)(k:Aa->IT):IT:=.op (.int .geq) l k
abbrev IT.ik(l:List Aa)(k:Aa->IT):IT:=.op (.int .leq) l k
abbrev IT.se(l:List Aa)(k:Aa->IT):IT:=.op (.str .eql) l k
abbrev IT.ln(l:List Aa)(k:Aa->IT):IT:=.op (.len false) l k
abbrev IT.lt(l:List Aa)(k:Aa->IT):IT:=.op (.len true) l k
abbrev IT.nt(l:List Aa)(k:Aa->IT):IT:=.op (.un .not) l k
abbrev IT.ca(f:Nat)(l:List Aa)(k:Aa->IT):IT:=.call f l k
abbrev i0:Aa:=I 0
abbrev i1:Aa:=I 1
abbrev tu:Aa:=.tuple []
abbrev pn:Aa:=.ptr none
def a13(c:List Aa):Aa:=.agg [g c 0,g c 1,g c 2,g c 3,g c 4,g c 5,g c 6,g c 7,g c 8,g c 9,g c 10,g c 11,g c 12]
def a13_e{c:List Aa}:a13 c=.agg [g c 0,g c 1,g c 2,g c 3,g c 4,g c 5,g c 6,g c 7,g c 8,g c 9,g c 10,g c 11,g c 12]:=rfl
def a12(c:List Aa):Aa:=.agg [g c 0,g c 1,g c 2,g c 3,g c 4,g c 5,g c 6,g c 7,g c 8,g c 9,g c 10,g c 11]
def a12_e{c:List Aa}:a12 c=.agg [g c 0,g c 1,g c 2,g c 3,g c 4,g c 5,g c 6,g c 7,g c 8,g c 9,g c 10,g c 11]:=rfl
def a9(c:List Aa):Aa:=.agg [g c 0,g c 1,g c 2,g c 3,g c 4,g c 5,g c 6,g c 7,g c 8]
def a9_e{c:List Aa}:a9 c=.agg [g c 0,g c 1,g c 2,g c 3,g c 4,g c 5,g c 6,g c 7,g c 8]:=rfl
def a6(c:List Aa):Aa:=.agg [g c 0,g c 1,g c 2,g c 3,g c 4,g c 5]
def a6_e{c:List Aa}:a6 c=.agg [g c 0,g c 1,g c 2,g c 3,g c 4,g c 5]:=rfl
def a4(c:List Aa):Aa:=.agg [g c 0,g c 1,g c 2,g c 3]
def a4_e{c:List Aa}:a4 c=.agg [g c 0,g c 1,g c 2,g c 3]:=rfl
def a3(c:List Aa):Aa:=.agg [g c 0,g c 1,g c 2]
def a3_e{c:List Aa}:a3 c=.agg [g c 0,g c 1,g c 2]:=rfl
def ai{a b:Prop}(x:a)(y:b):a/\b:=⟨x,y⟩
def BC:=ai @a13_e (ai @a12_e (ai @a9_e (ai @a6_e (ai @a4_e (ai @a3_e (ai @aJP (ai @aEM (ai @aJQ (ai @aJR (ai @aJS (ai @aJT (ai @aJU (ai @Mi (ai @lZ (ai @Tu (ai @Rk (ai @Xn (ai @Z5 (ai @Xl (ai @Xm (ai @Pv (ai @NB (ai @Xo (ai @Ut (ai @Uu (ai @Z7 (ai @Uv (ai @Xp (ai @QP (ai @Z8 (ai @Uw (ai @Pw (ai @Rl (ai @Xq (ai @Xr (ai @MU (ai @AZ (ai @aBq (ai @aBr (ai @aBs (ai @aBt (ai @aBu (ai @aBv (ai @aBw (ai @wD (ai @zk (ai @zl (ai @cS (ai @cT (ai @aBx (ai @Ze (ai @Xt (ai @Xu (ai @Zf (ai @cU (ai @du (ai @dv (ai @dw (ai @aBy (ai @pk (ai @Xv (ai @E7 (ai @MV (ai @Zz.{0} (ai @ZA.{0} (ai @IK.{0} (ai @LO.{0} (ai @Mx.{0} (ai @List.drop_succ_cons.{0} (ai @Ĵ.{0} (ai @Kq.{0} (ai @Zv.{0} (ai @A9.{0} (ai @BP.{0} (ai @CJ.{0} (ai @BQ.{0} (ai @aMS.{0,0} (ai @List.zip_nil_right.{0,0} (ai @B9.{0,0} (ai @Option.map_none.{0,0} (ai @BU (ai @Qg (ai @Z9 (ai @Qh (ai @Xw (ai @aA (ai @Xx (ai @Ux (ai @mG (ai @aB (ai @Xy (ai @oU (ai @MB (ai @MD (ai @BL.{1} (ai @Ea.{1} (ai @Zg (@cW))))))))))))))))))))))))))))))))))))))))))))))))))))))))))))))))))))))))))))))))))))))))))))))))))
def aC:=ai @HY.{0} (ai @beq_self_eq_true.{0} (ai @RE (ai @xa (ai @RC (ai @IL (ai @Av (ai @Au (ai @Aq (ai @An (ai @Bs (ai @Nat.zero_lt_succ (ai @B9.{0,0} (@ĵ.{0})))))))))))))
def abS:=ai BC aC
def aaS:type_of%@AI.{0}:=@AI.{0}
def Jk:=ai @Dp (ai @Dy (ai @Bool.and_true (ai @Bool.true_and (ai @w_ (ai @xb (ai @aDc (ai @Jn (ai @JF (ai @EV (ai @Hm.{0} (ai @j7.{0} (ai @Option.getD_none.{0} (ai @aMV.{0} (ai @BL.{1} (ai @Ea.{1} (ai @Cy (ai @MB (ai @aAq (ai @MD (ai @YU (ai @Ķ (@Dr))))))))))))))))))))))
abbrev Pt(i o:Nat):Aa:=.ptr (some (i,o))
end Go.Am
end
