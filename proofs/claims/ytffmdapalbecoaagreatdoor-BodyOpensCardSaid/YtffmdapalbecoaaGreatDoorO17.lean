/- Lemmas -/
import Derived.Test.YtffmdapalbecoaaGreatDoorO1
import Derived.IntWalk
set_option linter.all false
open Go.Am.Aa renaming int→zz,bool→zs,cells→zq,agg→zn,str→zl,ptr→zj,func→zf,slnil→zc
open Go.Am.Oc renaming int→zy
open Option renaming some→zw,none→zo
open Go.Am.IT renaming step→zu,ret→zh,load→zd
open List renaming length→zt
open Go.Am.Dm renaming normal→zp,ret→zi,exit→zg
section
namespace Go.Am
open Go
section
variable{C:GN}{Q:HC}{h:Ah}
def eK{x:Dm}{vs:List Aa}:W C (zh x vs) Q h↔Q x vs h:=by refine⟨λhw=>?_,xi⟩;let⟨n,x',Iq,h',hr,q⟩:=hw.succ;obtain⟨rfl,rfl,rfl⟩:=hr;exact q
def Y7:W C .fail Q h↔False:=by refine⟨λhw=>?_,λh=>h.elim⟩;let⟨n,x',Iq,h',hr,q⟩:=hw.succ;simp[zu] at hr
def eL{Z:Type}(o:Option Z)(f:Z->Prop):Prop:=∃v,o=zw v/\f v
def qv{Z:Type}{o o':Option Z}{f:Z->Prop}(h:o=o'):eL o f=eL o' f:=by rw[h]
def Qy{Z:Type}{v:Z}{f:Z->Prop}:eL (zw v) f=f v:=propext (by
 constructor;.rintro⟨_,e,h⟩;cases e;exact h
 .intro h;exact⟨v,rfl,h⟩)
def rP{Z:Type}{f:Z->Prop}:eL (zo:Option Z) f=False:=propext (by
 constructor;.rintro⟨_,e,_⟩;cases e
 .exact False.elim)
def Y8{o:Oc}{args:List Aa}{k:Aa->IT}:W C (.op o args k) Q h↔eL (AA o args) λv=>W C (k v) Q h:=by
 refine⟨λhw=>?_,λ⟨v,hv,hw⟩=>aIa hv hw⟩;let⟨n,x',Iq,h',hr,q⟩:=hw.succ;simp[zu] at hr;split at hr;next v hv=>exact⟨v,hv,C7 ⟨n,x',Iq,h',hr,q⟩⟩
 .cases hr
def Wh{n:Nat}{v:Aa}{k:List Aa->IT}:W C (.cells n v k) Q h↔eL (if zt v.cells=n then zw v.cells else zo) λl=>W C (k l) Q h:=by
 constructor
 .intro hw;let⟨m,x',Iq,h',hr,q⟩:=hw.succ;simp only[zu] at hr;split at hr;.rename_i hv;exact⟨_,Af hv,C7 ⟨m,x',Iq,h',hr,q⟩⟩
  .cases hr
 .rintro⟨l,e,hw⟩;split at e;.rename_i hv;cases e;exact dr hv hw
  .cases e
def cG(v:Aa)(p q:Prop):Prop:=(v= zs true/\p)\/(v= zs false/\q)
def xU{v v':Aa}{p q:Prop}(h:v=v'):cG v p q=cG v' p q:=by rw[h]
def Ve{p q:Prop}:cG (zs true) p q=p:=by simp[cG]
def SO{p q:Prop}:cG (zs false) p q=q:=by simp[cG]
def C5{b:Bool}{p q:Prop}:cG (zs b) p q↔(b=true->p)/\(b=false->q):=by cases b<;>simp[cG]
def Y9{c:Prop}[Decidable c]{p q:Prop}:cG (zs (decide c)) p q↔(c->p)/\(¬c->q):=by rw[C5];simp
def Ow{c:Aa}{t e:IT}:W C (.GJ c t e) Q h↔cG c (W C t Q h) (W C e Q h):=by
 constructor
 .intro hw;let⟨m,x',Iq,h',hr,q⟩:=hw.succ;simp[zu] at hr;split at hr;.exact .inl ⟨rfl,C7 ⟨m,x',Iq,h',hr,q⟩⟩
  .exact .inr ⟨rfl,C7 ⟨m,x',Iq,h',hr,q⟩⟩
  .cases hr
 .rintro(⟨rfl,hw⟩|⟨rfl,hw⟩);.exact du (λ_=>hw) λh=>by cases h
  .exact du (λh=>by cases h) λ_=>hw
def Za{n:Option Nat}{p:Aa}{k:Aa->IT}:W C (zd n p k) Q h↔eL (A5 h n p) λv=>W C (k v) Q h:=by
 refine⟨λhw=>?_,λ⟨v,hv,hw⟩=>xj hv hw⟩;let⟨m,x',Iq,h',hr,q⟩:=hw.succ;simp[zu] at hr;split at hr;next v hv=>exact⟨v,hv,C7 ⟨m,x',Iq,h',hr,q⟩⟩
 .cases hr
def Wi{n:Nat}{p v:Aa}{k:IT}:W C (.store n p v k) Q h↔eL (Cy h n p v) λh1=>W C k Q h1:=by
 refine⟨λhw=>?_,λ⟨v,hv,hw⟩=>dv hv hw⟩;let⟨m,x',Iq,h',hr,q⟩:=hw.succ;simp[zu] at hr;split at hr;next h1 hv=>exact⟨h1,hv,C7 ⟨m,x',Iq,h',hr,q⟩⟩
 .cases hr
def Wj{n:Nat}{v:Aa}{k:Aa->IT}:W C (.alloc n v k) Q h↔eL (if zt v.cells=n then zw v.cells else zo) λl=>W C (k (zj (zw (zt h,0)))) Q (h++[.cells l]):=by
 constructor
 .intro hw;let⟨m,x',Iq,h',hr,q⟩:=hw.succ;simp[zu,Yl] at hr;by_cases hv:zt v.cells=n;.rw[Af hv] at hr;exact⟨_,Af hv,C7 ⟨m,x',Iq,h',hr,q⟩⟩
  .grind
 .rintro⟨l,e,hw⟩;split at e;.rename_i hv;cases e;exact dw hv hw
  .cases e
def eM{u:Aa}{k:Aa->IT}:W C (.P5 u k) Q h↔eL (KY h u) λx=>W C (k x.2) Q x.1:=by
 refine⟨λhw=>?_,λ⟨(h1,v),hv,hw⟩=>aCX hv hw⟩;let⟨m,x',Iq,h',hr,q⟩:=hw.succ;simp[zu] at hr;split at hr;next h1 v hv=>exact⟨(h1,v),hv,C7 ⟨m,x',Iq,h',hr,q⟩⟩
 .cases hr
def Wk{off:Nat}{p:Aa}{k:IT}:W C (.Qa off p k) Q h↔eL (MO h off p) λh1=>W C k Q h1:=by
 refine⟨λhw=>?_,λ⟨h1,hv,hw⟩=>dy hv hw⟩;let⟨m,x',Iq,h',hr,q⟩:=hw.succ;simp[zu] at hr;split at hr;next h1 hv=>exact⟨h1,hv,C7 ⟨m,x',Iq,h',hr,q⟩⟩
 .cases hr
section
variable{size bytes:Nat}{s x:Aa}{k:Aa->IT}
def Wl:W C (.LM size bytes s x k) Q h↔eL (Lj h size bytes s x) λx=>W C (k x.2) Q x.1:=by
 refine⟨λhw=>?_,λ⟨(h1,v),hv,hw⟩=>dx hv hw⟩;let⟨m,x',Iq,h',hr,q⟩:=hw.succ;simp[zu] at hr;split at hr;next h1 v hv=>exact⟨(h1,v),hv,C7 ⟨m,x',Iq,h',hr,q⟩⟩
 .cases hr
def Zb:W C (.J7 size bytes s x k) Q h↔eL (GF h size bytes s x) λx=>W C (k x.2) Q x.1:=by
 refine⟨λhw=>?_,λ⟨(h1,v),hv,hw⟩=>xo hv hw⟩;let⟨m,x,Iq,h',hr,q⟩:=hw.succ;simp[zu] at hr;split at hr;next h1 v hv=>exact⟨(h1,v),hv,C7 ⟨m,x,Iq,h',hr,q⟩⟩
 .cases hr
def Sc:W C (.Ha size bytes s x k) Q h↔eL (RY h size bytes s x) λv=>W C (k v) Q h:=by
 refine⟨λhw=>?_,λ⟨v,hv,hw⟩=>dD hv hw⟩;let⟨m,x,Iq,h',hr,q⟩:=hw.succ;simp[zu] at hr;split at hr;next v hv=>exact⟨v,hv,C7 ⟨m,x,Iq,h',hr,q⟩⟩
 .cases hr
end
def eO{o:WQ}{args:List Aa}{k:Aa->IT}:W C (.mem o args k) Q h↔eL (EF o h args) λx=>W C (k x.2) Q x.1:=by
 refine⟨λhw=>?_,λ⟨(h1,v),hv,hw⟩=>aCY hv hw⟩;let⟨n,x,vs,h',hr,q⟩:=hw.succ;simp[zu] at hr;split at hr;next h1 v hv=>exact⟨(h1,v),hv,C7 ⟨n,x,vs,h',hr,q⟩⟩
 .cases hr
def Qz{s:Aa}{k:Aa->IT}:W C (.Fz s k) Q h↔eL (Jn h s) λx=>W C (k x.2) Q x.1:=by
 refine⟨λhw=>?_,λ⟨(h1,v),hv,hw⟩=>Yz hv hw⟩;let⟨m,x',Iq,h',hr,q⟩:=hw.succ;simp[zu] at hr;split at hr;next h1 v hv=>exact⟨(h1,v),hv,C7 ⟨m,x',Iq,h',hr,q⟩⟩
 .cases hr
def SP{k:Aa->IT}:W C (.P9 k) Q h↔W C (k (.map (zw (zt h)))) Q (h++[.map []]):=by refine⟨λhw=>?_,xl⟩;let⟨m,x',Iq,h',hr,q⟩:=hw.succ;exact C7 ⟨m,x',Iq,h',hr,q⟩
def Zc{m key v:Aa}{k:IT}:W C (.KX m key v k) Q h↔eL (RV h m key v) λh1=>W C k Q h1:=by
 refine⟨λhw=>?_,λ⟨h1,hv,hw⟩=>xm hv hw⟩;let⟨m,x',Iq,h',hr,q⟩:=hw.succ;simp[zu] at hr;split at hr;next h1 hv=>exact⟨h1,hv,C7 ⟨m,x',Iq,h',hr,q⟩⟩
 .cases hr
def Zd{z:Aa}{ok:Bool}{m key:Aa}{k:Aa->IT}:W C (.MN z ok m key k) Q h↔eL (Qb h z ok m key) λv=>W C (k v) Q h:=by
 refine⟨λhw=>?_,λ⟨h1,hv,hw⟩=>xn hv hw⟩;let⟨m,x',Iq,h',hr,q⟩:=hw.succ;simp[zu] at hr;split at hr;next h1 hv=>exact⟨h1,hv,C7 ⟨m,x',Iq,h',hr,q⟩⟩
 .cases hr
def QA{g:Aa}{args:List Aa}{k:Aa->IT}:W C (.La g args k) Q h↔eL (Dw g args) λx=>W C (.call x.1 x.2 k) Q h:=by
 constructor
 .intro hw;let⟨m,x',Iq,h',hr,q⟩:=hw.succ;simp[zu] at hr;split at hr;.rename_i f as e;refine⟨(f,as),e,C7 ⟨m,x',Iq,h',?_,q⟩⟩;simp[zu];exact hr
  .cases hr
 .rintro⟨⟨f,as⟩,e,hw⟩;let⟨m,x',Iq,h',hr,q⟩:=hw.succ;refine C7 ⟨m,x',Iq,h',?_,q⟩;simp[zu,e] at hr⊢;exact hr
def A8{key:Nat}{t:IT}{k:Dm->List Aa->IT}:W C (.OS key t k) Q h↔W C t (λx vs h1=>W C (k x vs) Q h1) h:=by
 refine⟨λhw=>?_,xr⟩;let⟨m,x',Iq,h',hr,q⟩:=hw.succ;simp[zu] at hr;split at hr;next x vs h1 e=>exact C7 ⟨m,_,_,_,e,C7 ⟨m,x',Iq,h',hr,q⟩⟩
 .cases hr
abbrev BK(C:GN)(f:FuncId)(args:List Aa)(h:Ah)(r:Aa)(h':Ah):Prop:=∀(Q:HC) (k:Aa->IT),W C (.call f args k) Q h↔W C (k r) Q h'
def Ad{C:GN}{f:FuncId}{args:List Aa}{h h':Ah}{r:Aa}:BK C f args h r h'↔W C (B8 C f args) (λx vs h1=>x= zi/\vs=[r]/\h1=h') h:=by
 constructor
 .intro hr;have hw:=(hr (λx vs h1=>x= zi/\vs=[r]/\h1=h') λv=> zh zi [v]).2 (xi ⟨rfl,rfl,rfl⟩);obtain⟨m,x,vs,h1,e,rfl,rfl,rfl⟩:=hw.succ;simp[zu] at e;split at e;.rename_i g;cases e;exact⟨m,_,_,_,g,rfl,rfl,rfl⟩
  .cases e
 .intro hr Q k;refine⟨λhw=>?_,λhw=>xq (W.mono hr λ_ _ _ ⟨h1,h2,i⟩=>⟨h1,r,h2,by rwa[i]⟩)⟩;obtain⟨n,u,j,h1,o,rfl,rfl,rfl⟩:=hr;let⟨m,x',Iq,h2,d,q⟩:=hw.succ;simp[zu] at d;split at d;.rename_i r2 i g;have a1:=IT.IG (Im n m) o;have a2:=IT.IG (HL n m) g;rw[a1] at a2;cases a2;exact C7 ⟨m,x',Iq,h2,d,q⟩
  .cases d
section
variable{f:FuncId}{args:List Aa}{r:Aa}{h':Ah}(hr:BK C f args h r h')
def BK.ev{R:Aa->Ah->Prop}(hR:R r h'):Ev C f args h R:=
 W.mono (Ad.1 hr) λ_ _ _ ⟨h1,h2,d⟩=>⟨h1,r,h2,by rwa[d]⟩
def BK.aFf{k:Aa->IT}:W C (.call f args k) Q h↔W C (k r) Q h':=hr _ _
end
def JN(C:GN)(f:FuncId)(args:List Aa)(r:Aa):Prop:=Ev C f args [] λx _=>x=r
def JN.BM{f:FuncId}{args:List Aa}{r:Aa}(hr:JN C f args r)(ha:args.all Aa.Nv=true)(hf:r.Nv=true){k:Aa->IT}:W C (.BM f args k) Q h↔W C (k r) Q h:=by
 refine⟨λhw=>?_,λhw=>Ň ha (hr.mono λx _ e=>by rw[e];exact⟨hf,hw⟩)⟩;obtain⟨n,j,i,h1,g,rfl,y,rfl,rfl⟩:=hr;let⟨m,x',Iq,h2,d,q⟩:=hw.succ;simp[zu,ha,BR] at d;simp[GN.run] at g d;have a1:=IT.IG (Im n m) g;cases hc:IT.run (B8 C) m (B8 C f args) [] with
 |none=>rw[hc] at d;cases d
 |some z=>have a2:=IT.IG (HL n m) hc;rw[a1] at a2;cases a2;rw[hc] at d;simp[hf,BR] at d;exact C7 ⟨m,x',Iq,h2,d,q⟩
end
def Ŵ{C:GN}{t t':IT}{Q:HC}{h h':Ah}(e:t=t')(d:h=h'):W C t Q h=W C t' Q h':=by rw[e,d]
def E_{o:Oc}{args args':List Aa}{k:Aa->IT}(e:args=args'):IT.op o args k=IT.op o args' k:=by rw[e]
def rQ{n:Nat}{v v':Aa}{k:List Aa->IT}(e:v=v'):IT.cells n v k=IT.cells n v' k:=by rw[e]
def qw{v v':Aa}{s t:IT}(e:v=v'):IT.GJ v s t=IT.GJ v' s t:=by rw[e]
def xV{n:Option Nat}{v v':Aa}{k:Aa->IT}(e:v=v'):IT.load n v k=IT.load n v' k:=by rw[e]
def rR{n:Nat}{p p' v v':Aa}{k:IT}(d:p=p')(e:v=v'):IT.store n p v k=IT.store n p' v' k:=by rw[e,d]
def rS{n:Nat}{v v':Aa}{k:Aa->IT}(e:v=v'):IT.alloc n v k=IT.alloc n v' k:=by rw[e]
section
variable{f:FuncId}{args args':List Aa}{k:Aa->IT}(e:args=args')
def xW:IT.call f args k=IT.call f args' k:=by rw[e]
def rT:IT.BM f args k=IT.BM f args' k:=by rw[e]
end
def rU{f f':Aa}{args args':List Aa}{k:Aa->IT}(d:f=f')(e:args=args'):IT.La f args k=IT.La f' args' k:=by rw[e,d]
def xX{key:Nat}{i i':List Aa}{b:List Aa->IT}{k:Dm->List Aa->IT}(e:i=i'):IT.loop key i b k=IT.loop key i' b k:=by rw[e]
def xY{key:Nat}{b:IT}{k:Dm->List Aa->IT}:IT.OS key b k=IT.OS key b k:=rfl
def qx{v v':Aa}{k:Aa->IT}(e:v=v'):IT.P5 v k=IT.P5 v' k:=by rw[e]
section
variable{size bytes:Nat}{s s' x x':Aa}{k:Aa->IT}(e:s=s')(d:x=x')
def rV:IT.LM size bytes s x k=IT.LM size bytes s' x' k:=by rw[e,d]
def xZ:IT.J7 size bytes s x k=IT.J7 size bytes s' x' k:=by rw[e,d]
end
def qy{o:WQ}{args args':List Aa}{k:Aa->IT}(e:args=args'):IT.mem o args k=IT.mem o args' k:=by rw[e]
def cH{size bytes:Nat}{s s' x x':Aa}{k:Aa->IT}(e:s=s')(d:x=x'):IT.Ha size bytes s x k=IT.Ha size bytes s' x' k:=by rw[e,d]
def rW{off:Nat}{p p':Aa}{k:IT}(e:p=p'):IT.Qa off p k=IT.Qa off p' k:=by rw[e]
def Ze{s s':Aa}{k:Aa->IT}(e:s=s'):IT.Fz s k=IT.Fz s' k:=by rw[e]
def yA{m m' key key' v v':Aa}{k:IT}(e:m=m')(f:key=key')(d:v=v'):IT.KX m key v k=IT.KX m' key' v' k:=by rw[e,f,d]
def yB{z:Aa}{ok:Bool}{m m' key key':Aa}{k:Aa->IT}(e:m=m')(d:key=key'):IT.MN z ok m key k=IT.MN z ok m' key' k:=by rw[e,d]
attribute [congr] qv xU Ŵ E_ rQ qw xV rR rS xW rT rU xX xY qx rW xZ cH qy rV Ze yA yB
attribute [simp] Qy rP Ve SO Y9 C5 eK Y7 Y8 Wh Ow Za Wi Wj eM Wk Zb Sc eO Wl Qz SP Zc Zd QA A8
section
variable{k:IntKind}{a b:Int}{s t:Ai}
@[simp] theorem aFg:AA (.int .eql) [.int k a,.int k b]=some (.bool (decide (a=b))):=by cases k<;>rfl
@[simp] theorem aFh:AA (.int .neq) [.int k a,.int k b]=some (.bool (decide (a≠b))):=by
 have e:AA (.int .neq) [.int k a,.int k b]=some (.bool (!(a==b))):=by cases k<;>rfl
 rw[e];by_cases h:a=b<;>simp[h]
@[simp] theorem aFi:AA (.int .lss) [.int k a,.int k b]=some (.bool (decide (a<b))):=by cases k<;>rfl
@[simp] theorem aFj:AA (.int .leq) [.int k a,.int k b]=some (.bool (decide (a<=b))):=by cases k<;>rfl
@[simp] theorem aFk:AA (.int .gtr) [.int k a,.int k b]=some (.bool (decide (b<a))):=by cases k<;>rfl
@[simp] theorem aFl:AA (.int .geq) [.int k a,.int k b]=some (.bool (decide (b<=a))):=by cases k<;>rfl
def iU:AA (zy .add) [zz k a,zz k b]=zw (zz k (k.wrap (a+b))):=by cases k<;>rfl
def yC:AA (zy .sub) [zz k a,zz k b]=zw (zz k (k.wrap (a-b))):=by cases k<;>rfl
@[simp] theorem aFm {b:Bool}:AA (.un .not) [zs b]=zw (zs (!b)):=rfl
@[simp] theorem gh:AA (.str .eql) [zl s,zl t]=zw (zs (decide (s=t))):=by
 show zw (Aa.bool (s==t))=_;congr 2
 by_cases h:s=t<;>simp[h]
@[simp] theorem ŵ:AA (.str .neq) [zl s,zl t]=zw (zs (decide (s≠t))):=by
 show zw (Aa.bool (!(s==t)))=_;congr 2
 by_cases h:s=t<;>simp[h]
@[simp] theorem Ŷ:AA (.len true) [zl s]=zw (zz .i64 (zt s)):=rfl
@[simp] theorem aML {i:Int}:AA .bP [zl s,zz k i]=if 0<=i then(s[i.toNat]?).map λb=> zz .u8 b.toNat else zo:=rfl
@[simp] theorem iV {off:Nat} {cs:List Aa}:AA (.part off zo) [zn cs]=cs[off]?:=rfl
@[simp] theorem iW {off n:Nat} {cs:List Aa}:AA (.part off (zw n)) [zn cs]=if off+n<=zt cs then zw (zn ((cs.drop off).take n)) else zo:=rfl
@[simp] theorem aFn {i:Nat} {vs:List Aa}:AA (.ext i) [.tuple vs]=vs[i]?:=rfl
@[simp] theorem cI {p:Nat×Nat}:AA .J6 [zj (zw p)]=zw (zj (zw p)):=rfl
@[simp] theorem Zf {cs:List Aa}:AA .J6 [.CH cs]=zw (.CH cs):=rfl
@[simp] theorem Zg {f:FuncId} {a b:List Aa}:AA .J6 [zf (.func f) a b]=zw (zf (.func f) a b):=rfl
@[simp] theorem cJ {off:Nat} {cs:List Aa}:AA (.K8 off) [.CH cs]=zw (.CH (cs.drop off)):=rfl
@[simp] theorem iX {off id o:Nat}:AA (.K8 off) [zj (zw (id,o))]=zw (zj (zw (id,o+off))):=rfl
@[simp] theorem qz {neg:Bool}:AA (.peq neg) [zj zo,zj zo]=zw (zs (true != neg)):=rfl
@[simp] theorem q_ {neg:Bool} {p:Nat×Nat}:AA (.peq neg) [zj (zw p),zj zo]=zw (zs (false != neg)):=rfl
@[simp] theorem rh {neg:Bool} {p:Nat×Nat}:AA (.peq neg) [zj zo,zj (zw p)]=zw (zs (false != neg)):=rfl
@[simp] theorem aFo {neg a b:Bool}:AA (.beq neg) [zs a,zs b]=zw (zs ((a==b) != neg)):=rfl
@[simp] theorem aMM {c:Bool} {a b:Aa}:AA .pick [zs c,a,b]=zw (if c then a else b):=rfl
@[simp] theorem Rm {l:IntKind}:AA (.conv l) [zz k a]=zw (zz l (l.wrap a)):=rfl
@[simp] theorem F_ {zero args:List Aa} {places:List (Nat×Nat)}:AA (.EM zero places) args=if zt places=zt args then(AQ zero (places.zip args)).map zn else zo:=rfl
@[simp] theorem SQ {neg:Bool} {ks:List FK} {x y:List Aa}:AA (.geq neg ks) [zn x,zn y]=(Ek ks x y).map λe=> zs (e != neg):=rfl
@[simp] theorem G_:AA (.Ma false) [zz k a,zz k b]=zw (zz k (if b<a then b else a)):=by simp[AA]
@[simp] theorem iY:AA (.Ma true) [zz k a,zz k b]=zw (zz k (if a<b then b else a)):=by simp[AA]
@[simp] theorem Zh {h:Ah} {n:Option Nat} {cs:List Aa}:A5 h n (.CH cs)=FN cs 0 n:=rfl
@[simp] theorem Fu {off:Nat} {cs:List Aa}:FN cs off zo=cs[off]?:=rfl
@[simp] theorem NL {off n:Nat} {cs:List Aa}:FN cs off (zw n)=if off+n<=zt cs then zw (zn ((cs.drop off).take n)) else zo:=rfl
@[simp] theorem wrap_i64 (h1: -9223372036854775808<=a) (h2:a<9223372036854775808):IntKind.i64.wrap a=a:=by rw[IntKind.wrap_i64];omega
end
def Vf{cs:List Aa}:zq (zn cs)=cs:=rfl
def eP{k:IntKind}{n:Int}:zq (zz k n)=[zz k n]:=rfl
def Rn{s:Ai}:zq (zl s)=[zl s]:=rfl
def Zi{b:Bool}:zq (zs b)=[zs b]:=rfl
def eQ{p:Option (Nat×Nat)}:zq (zj p)=[zj p]:=rfl
def Zj{p:List Aa}:zq (.CH p)=[.CH p]:=rfl
def Wm:zq zc=[zc]:=rfl
def rX{z:Nat}{r:List (List Aa)}:zq (.sl z r)=[.sl z r]:=rfl
def eR{i o l z:Nat}:zq (.CC i o l z)=[.CC i o l z]:=rfl
def Zk{f:Fn}{a b:List Aa}:zq (zf f a b)=[zf f a b]:=rfl
attribute [simp] AQ Ek Mb Dw Vf eP Rn Zi eQ Zj Wm rX eR Zk
def AX(z:Nat)(AD:List (List Aa))(v:Aa):Prop:=v= .sl z AD\/(v= zc/\AD=[])
section
variable{z:Nat}{AD:List (List Aa)}{v:Aa}
def AX.mk:AX z AD (.sl z AD):= .inl rfl
def AX.nil:AX z [] zc:= .inr ⟨rfl,rfl⟩
def AX.cells(h:AX z AD v):v.cells=[v]:=by obtain rfl|⟨rfl,rfl⟩:=h<;>rfl
def AX.len(h:AX z AD v):AA (.len false) [v]=zw (zz .i64 (zt AD)):=by obtain rfl|⟨rfl,rfl⟩:=h<;>rfl
def AX.EE(h:AX z AD v){k:IntKind}{n:Nat}(hn:n<zt AD):AA (.EE z) [v,zz k (n:Int)]=zw (.CH AD[n]):=by
 obtain rfl|⟨rfl,rfl⟩:=h
 .simp[AA,elemOf,hn]
 .simp at hn
end
end Go.Am
end
section
namespace Go.Am
open Go
section
variable{C:GN}{Q:HC}{h:Ah}
def QB{key:Nat}{vs:List Aa}{body:List Aa->IT}{k:Dm->List Aa->IT}
  (hw:W C (body vs) (λx d h1=>(x= zp/\W C (.loop key d body k) Q h1)\/(x≠ zp/\W C (k x d) Q h1)) h):W C (.loop key vs body k) Q h:=by
 let⟨m,x,d,h1,hr,JG⟩:=hw.succ;rcases JG with⟨rfl,hw⟩|⟨hx,hw⟩
 .let⟨m',x',Iq,h',Gy,q⟩:=hw;refine C7 ⟨max m m',x',Iq,h',?_,q⟩;have f:=IT.Kk (λt h r=>IT.IG (Im m m')) _ _ _ hr;have e:=IT.IG (HL m m') Gy;simp[zu];grind
 .let⟨m',x',Iq,h',Gy,q⟩:=hw.succ;refine C7 ⟨max m m',x',Iq,h',?_,q⟩;have f:=IT.Kk (λt h r=>IT.IG (Im m m')) _ _ _ hr;have e:=IT.Kk (λt h r=>IT.IG (HL m m')) _ _ _ Gy;simp[zu];grind
def AJ{U:Type}(C:GN)(enc:U->List Aa)(Eh:U->Ah->Prop)(O:U->Nat)(k:Dm->List Aa->IT)(Q:HC)(s:U):HC:=
 λx vs h1=>(x= zp/\∃s',vs=enc s'/\Eh s' h1/\O s'<O s)\/(x≠ zp/\W C (k x vs) Q h1)
variable{U:Type}{enc:U->List Aa}{Eh:U->Ah->Prop}{O:U->Nat}{k:Dm->List Aa->IT}{s:U}{vs:List Aa}
def AJ.next(s':U)(e:vs=enc s')(hi:Eh s' h)(hl:O s'<O s):AJ C enc Eh O k Q s zp vs h:= .inl ⟨rfl,s',e,hi,hl⟩
def cK{i:Nat}:AJ C enc Eh O k Q s (zg i) vs h↔W C (k (zg i) vs) Q h:=by simp[AJ]
def iZ:AJ C enc Eh O k Q s zi vs h↔W C (k zi vs) Q h:=by simp[AJ]
def Bj{key:Nat}{init:List Aa}{body:List Aa->IT}(enc:U->List Aa)(Eh:U->Ah->Prop)(O:U->Nat)(s0:U)(h0:init=enc s0)(hi:Eh s0 h)
  (round:∀s h,Eh s h->W C (body (enc s)) (AJ C enc Eh O k Q s) h):W C (.loop key init body k) Q h:=by
 have key:∀n s h,O s=n->Eh s h->W C (.loop key (enc s) body k) Q h:=by
  intro n;induction n using Nat.strongRecOn with
  |_ n ih=>
   intro s h hn hI;refine QB (W.mono (round s h hI) ?_);rintro x vs h1 (⟨rfl,s',rfl,ĸ,hl⟩|⟨hx,hw⟩);.grind
   .exact .inr ⟨hx,hw⟩
 grind
end
section
variable{k l:IntKind}{s:Ai}
def FT{n:Nat}(hn:n<zt s):AA .bP [zl s,zz k (n:Int)]=zw (zz .u8 (s[n].toNat:Int)):=by simp[hn]
def Vg{n:Nat}(hn:n<9223372036854775807):AA (zy .add) [zz .i64 (n:Int),zz .i64 1]=zw (zz .i64 ((n+1:Nat):Int)):=by rw[iU,wrap_i64 Ab Ab];rfl
def By(n:Nat)(hn:n<9223372036854775807:=by omega):AA (zy .add) [zz .i64 (n:Int),zz .i64 1]=zw (zz .i64 ((n+1:Nat):Int)):=Vg hn
def MW{n:Nat}:(0:Int)<=(n:Int):=Ab
def KD:¬(1:Int)=0/\¬(1:Int)=2/\¬(1:Int)=3/\¬(1:Int)=4/\¬(1:Int)=5/\¬(1:Int)=6/\¬(2:Int)=1/\¬(2:Int)=3/\¬(2:Int)=4/\¬(2:Int)=5/\¬(2:Int)=6/\¬(3:Int)=0/\¬(3:Int)=2/\¬(3:Int)=4/\¬(3:Int)=5/\¬(3:Int)=6/\¬(4:Int)=1/\¬(4:Int)=2/\¬(4:Int)=5/\¬(6:Int)=2/\¬(6:Int)=4/\¬(6:Int)=5:=Bf
def IK{n:Nat}(h0:0<n)(hn:n<9223372036854775807):AA (zy .sub) [zz .i64 (n:Int),zz .i64 1]=zw (zz .i64 ((n-1:Nat):Int)):=by rw[yC,wrap_i64 Ab Ab];congr 2;omega
def MY{a b z:Nat}(bM:a<=b)(hb:b<=zt s):AA (.K9 z true true true) [zl s,zz k (a:Int),zz l (b:Int)]=zw (zl ((s.take b).drop a)):=by
 have e:FH (b:Int) (zt s)=zw b:=by rw[FH];rw[Af Ab];rfl
 have d:FH (a:Int) b=zw a:=by rw[FH];rw[Af Ab];rfl
 simp[AA,KE,Ep,e,d]
end
section
variable{z b:Nat}{r r2:List (List Aa)}{row:List Aa}{v v2:Aa}
def AX.yD(h:AX z r v)(hb:(zt r+1)*b<=A0):AA (.append z b) [v,.sl z [row]]=zw (.sl z (r++[row])):=by
 obtain rfl|⟨rfl,rfl⟩:=h
 .simp[AA,Ip,D0,hb]
 .have:1*b<=A0:=zv hb
  simp[Gd] at this;simp[AA,Ip,D0,this]
def AX.HY(h:AX z r v)(h2:AX z r2 v2)(hb:(zt r+zt r2)*b<=A0):∃u,AA (.append z b) [v,v2]=zw u/\AX z (r++r2) u:=by
 have hnil:∃u,D0 z b v []=zw u/\AX z (r++[]) u:=by
  obtain rfl|⟨rfl,rfl⟩:=h
  .exact⟨.sl z r,by simp[D0],by rw[BB];exact .mk⟩
  .exact⟨_,rfl,.nil⟩
 obtain rfl|⟨rfl,rfl⟩:=h2
 .cases r2 with
  |nil=>let⟨u,e,hu⟩:=hnil;exact⟨u,by simpa[AA,Ip] using e,hu⟩
  |cons x l=>
   refine⟨.sl z (r++x::l),?_,.mk⟩;obtain rfl|⟨rfl,rfl⟩:=h
   .simp only[AA,Ip,BR,D0];grind
   .simp only[AA,Ip,BR,D0];grind
 .let⟨u,e,hu⟩:=hnil;exact⟨u,by simpa[AA,Ip] using e,hu⟩
def AX.P5(h:AX z r v){hp:Ah}:KY hp v=zw (hp,v):=by obtain rfl|⟨rfl,rfl⟩:=h<;>rfl
def SR(s:Ai):Nz (Cg s)=zw s:=by
 induction s with
 |nil=>rfl
 |cons c s ih=>have e:Cg (c::s)=[zz .u8 c.toNat]::Cg s:=rfl;rw[e,Nz,ih];simp
def AX.Yi{s:Ai}(h:AX 1 (Cg s) v):AA .Yi [v]=zw (zl s):=by
 obtain rfl|⟨rfl,h⟩:=h
 .simp[AA,Yk,SR]
 .have e:s=[]:=by simpa[Cg] using h
  subst e;rfl
def Sd(s t:Ai):Cg (s++t)=Cg s++Cg t:=by simp[Cg]
def cL(s:Ai):(Cg s).length=zt s:=by simp[Cg]
end
@[simp] theorem gj {z:Nat} {args:List Aa}:AA (.Dk z) args=if args.all (λa=>a.cells.length==z)&&decide (args.length*z<=16777216) then some (.sl z (args.map (·.cells))) else none:=rfl
def MZ{a:Aa}{z:Nat}(h:zt a.cells=z)(hz:z<=16777216):AA (.Dk z) [a]=zw (.sl z [a.cells]):=by simp[h,hz]
def wrap_u8{a:Int}(h:0<=a/\a<=255):IntKind.u8.wrap a=a:=IntWalk.u8_in a h
def H_{a:Int}(h: -2147483648<=a/\a<=2147483647):IntKind.i32.wrap a=a:=IntWalk.i32_in a h
section
variable(C:GN)(f:FuncId)
abbrev Ļ(t:Aa->IT):Prop:=∀a0,B8 C f [a0]=t a0
abbrev Tq2(t:Aa->Aa->IT):Prop:=∀a0 a1,B8 C f [a0,a1]=t a0 a1
abbrev Tq3(t:Aa->Aa->Aa->IT):Prop:=∀a0 a1 a2,B8 C f [a0,a1,a2]=t a0 a1 a2
abbrev Tq4(t:Aa->Aa->Aa->Aa->IT):Prop:=∀a0 a1 a2 a3,B8 C f [a0,a1,a2,a3]=t a0 a1 a2 a3
abbrev Tq5(t:Aa->Aa->Aa->Aa->Aa->IT):Prop:=∀a0 a1 a2 a3 a4,B8 C f [a0,a1,a2,a3,a4]=t a0 a1 a2 a3 a4
end
section
variable(p:Aa)(k:Nat)
def IT.fa(K:Aa->Aa->IT):IT:= .op .J6 [p] λa=> .op (.K8 k) [a] λb=>K a b
def IT.P6(K:Aa->Aa->Aa->IT):IT:= .op .J6 [p] λa=> .op (.K8 k) [a] λb=> zd zo b λc=>K a b c
def IT.fl(K:Aa->Aa->IT):IT:= .op (.K8 k) [p] λa=> zd zo a λb=>K a b
end
def nx(A R:List Aa->IT):Dm->List Aa->IT:=λx c=>match x with
 | zp=>A c
 | zg _=> .fail
 | zi=>R c
def lx(k:Nat)(A R:List Aa->IT):Dm->List Aa->IT:=λx c=>match x with
 | zp=> .fail
 | zg i=>if i=k then A c else .fail
 | zi=>R c
section
variable{C:GN}{Q:HC}{h:Ah}{p:Aa}{k:Nat}{A R:List Aa->IT}{c:List Aa}
def aOr{K:Aa->Aa->IT}:W C (IT.fa p k K) Q h=W C (.op .J6 [p] λa=> .op (.K8 k) [a] λb=>K a b) Q h:=rfl
def aIW{K:Aa->Aa->Aa->IT}:W C (IT.P6 p k K) Q h=W C (.op .J6 [p] λa=> .op (.K8 k) [a] λb=> zd zo b λc=>K a b c) Q h:=rfl
def aOs{K:Aa->Aa->IT}:W C (IT.fl p k K) Q h=W C (.op (.K8 k) [p] λa=> zd zo a λb=>K a b) Q h:=rfl
def aOt:nx A R zp c=A c:=rfl
def aOu:nx A R zi c=R c:=rfl
def aOv:lx k A R (zg k) c=A c:=Af rfl
def aOw:lx k A R zi c=R c:=rfl
end
def DD:Ai->Ai->List Ai
 |cur,[]=>[cur]
 |cur,c::r=>if c=32 then cur::DD [] r else DD (cur++[c]) r
def Ox:List Ai:=DD [] aXo
def swv(s:Aa)(t e:IT):List (List UInt8)->IT
 |[]=>e
 |c::cs=>.op (.str .eql) [s,zl c] λv=>.GJ v t (swv s t e cs)
abbrev IT.rr(l:List Aa):IT:=zh zi l
abbrev IT.rn(l:List Aa):IT:=zh zp l
abbrev IT.rx(n:Nat)(l:List Aa):IT:=zh (zg n) l
abbrev IT.ea(n:Nat)(l:List Aa)(k:Aa->IT):IT:=.op (.EE n) l k
abbrev IT.ld(p:Aa)(k:Aa->IT):IT:=zd zo p k
section
variable(l:List Aa)(k:Aa->IT)
abbrev IT.ie:IT:=.op (zy .eql) l k
abbrev IT.iq:IT:=.op (zy .neq) l k
abbrev IT.il:IT:=.op (zy .lss) l k
abbrev IT.ig:IT:=.op (zy .gtr) l k
abbrev IT.ia:IT:=.op (zy .add) l k
abbrev IT.ib:IT:=.op (zy .sub) l k
abbrev IT.ih:IT:=.op (zy .geq) l k
abbrev IT.ik:IT:=.op (zy .leq) l k
abbrev IT.se:IT:=.op (.str .eql) l k
abbrev IT.ln:IT:=.op (.len false) l k
abbrev IT.lt:IT:=.op (.len true) l k
abbrev IT.nt:IT:=.op (.un .not) l k
end
abbrev IT.ca(f:Nat)(l:List Aa)(k:Aa->IT):IT:=.call f l k
abbrev i0:Aa:=I 0
abbrev i1:Aa:=I 1
abbrev tu:Aa:=.tuple []
abbrev pn:Aa:=zj zo
def a13(c:List Aa):Aa:=zn [g c 0,g c 1,g c 2,g c 3,g c 4,g c 5,g c 6,g c 7,g c 8,g c 9,g c 10,g c 11,g c 12]
def a13_e{c:List Aa}:a13 c=zn [g c 0,g c 1,g c 2,g c 3,g c 4,g c 5,g c 6,g c 7,g c 8,g c 9,g c 10,g c 11,g c 12]:=rfl
def a12(c:List Aa):Aa:=zn [g c 0,g c 1,g c 2,g c 3,g c 4,g c 5,g c 6,g c 7,g c 8,g c 9,g c 10,g c 11]
def a12_e{c:List Aa}:a12 c=zn [g c 0,g c 1,g c 2,g c 3,g c 4,g c 5,g c 6,g c 7,g c 8,g c 9,g c 10,g c 11]:=rfl
def a9(c:List Aa):Aa:=zn [g c 0,g c 1,g c 2,g c 3,g c 4,g c 5,g c 6,g c 7,g c 8]
def a9_e{c:List Aa}:a9 c=zn [g c 0,g c 1,g c 2,g c 3,g c 4,g c 5,g c 6,g c 7,g c 8]:=rfl
def a6(c:List Aa):Aa:=zn [g c 0,g c 1,g c 2,g c 3,g c 4,g c 5]
def a6_e{c:List Aa}:a6 c=zn [g c 0,g c 1,g c 2,g c 3,g c 4,g c 5]:=rfl
def a4(c:List Aa):Aa:=zn [g c 0,g c 1,g c 2,g c 3]
def a4_e{c:List Aa}:a4 c=zn [g c 0,g c 1,g c 2,g c 3]:=rfl
def a3(c:List Aa):Aa:=zn [g c 0,g c 1,g c 2]
def a3_e{c:List Aa}:a3 c=zn [g c 0,g c 1,g c 2]:=rfl
def ai{a b:Prop}(x:a)(y:b):a/\b:=⟨x,y⟩
def BD:=ai @a13_e (ai @a12_e (ai @a9_e (ai @a6_e (ai @a4_e (ai @a3_e (ai @aOr (ai @aIW (ai @aOs (ai @aOt (ai @aOu (ai @aOv (ai @aOw (ai @Qy (ai @rP (ai @Ve (ai @SO (ai @Y9 (ai @eK (ai @Y7 (ai @Y8 (ai @Wh (ai @Ow (ai @Za (ai @Wi (ai @Wj (ai @eM (ai @Wk (ai @Zb (ai @Sc (ai @eO (ai @Wl (ai @Qz (ai @SP (ai @Zc (ai @Zd (ai @QA (ai @A8 (ai @aFg (ai @aFh (ai @aFi (ai @aFj (ai @aFk (ai @aFl (ai @aFm (ai @gh (ai @ŵ (ai @Ŷ (ai @iV (ai @iW (ai @aFn (ai @cI (ai @Zf (ai @Zg (ai @cJ (ai @iX (ai @qz (ai @q_ (ai @rh (ai @aFo (ai @F_ (ai @Zh (ai @Fu (ai @NL (ai @aNu.{0} (ai @aNv.{0} (ai @Hc.{0} (ai @aEf.{0} (ai @Nn.{0} (ai @List.drop_succ_cons.{0} (ai @aCN.{0} (ai @KU.{0} (ai @cW.{0} (ai @Bn.{0} (ai @BP.{0} (ai @CQ.{0} (ai @BY.{0} (ai @aRt.{0,0} (ai @List.zip_nil_right.{0,0} (ai @B6.{0,0} (ai @Option.map_none.{0,0} (ai @B2 (ai @Vf (ai @eP (ai @Rn (ai @Zi (ai @eQ (ai @Zj (ai @Wm (ai @rX (ai @eR (ai @Zk (ai @vJ (ai @Np (ai @Nr (ai @BR.{1} (ai @EV.{1} (ai @cK (@iZ))))))))))))))))))))))))))))))))))))))))))))))))))))))))))))))))))))))))))))))))))))))))))))))))))
def Wn:=ai @Iy.{0} (ai @beq_self_eq_true.{0} (ai @Tc (ai @ķ (ai @gK (ai @Jl (ai @Az (ai @Ag (ai @Av (ai @Ap (ai @Bw (ai @Nat.zero_lt_succ (ai @B6.{0,0} (@aCO.{0})))))))))))))
def abS:=ai BD Wn
def aaS:type_of%@AK.{0}:=@AK.{0}
def JO:=ai @DO (ai @DX (ai @Bool.and_true (ai @gL (ai @Ķ (ai @bI (ai @Bool.or_true (ai @VN (ai @L7 (ai @GM (ai @FE.{0} (ai @pQ.{0} (ai @cz.{0} (ai @aRw.{0} (ai @BR.{1} (ai @EV.{1} (ai @CA (ai @Np (ai @aEg (ai @Nr (ai @bO (ai @aCP (@DF))))))))))))))))))))))
abbrev Pt(i o:Nat):Aa:=zj (zw (i,o))
end Go.Am
end
