/- Lemmas -/
import Derived.Test.YtkaolmlpcamojaaGreatDoorH1
import Derived.IntWalk
set_option linter.all false
section
namespace Go.Am
open Go
section
variable{C:Gb}{Q:HO}{h:Ai}
def bY{x:DU}{vs:List Aa}:W C (.ret x vs) Q h↔Q x vs h:=by refine⟨λhw=>?_,aBj⟩;obtain⟨n,x',Ia,h',hr,q⟩:=hw.succ;simp only[IT.step,BC,IA] at hr;obtain⟨rfl,rfl,rfl⟩:=hr;exact q
def Yh:W C .fail Q h↔False:=by refine⟨λhw=>?_,λh=>h.elim⟩;obtain⟨n,x',Ia,h',hr,q⟩:=hw.succ;simp[IT.step] at hr
def bZ{Z:Type}(o:Option Z)(f:Z->Prop):Prop:=∃v,o=some v/\f v
def lp{Z:Type}{o o':Option Z}{f:Z->Prop}(h:o=o'):bZ o f=bZ o' f:=by rw[h]
def Oc{Z:Type}{v:Z}{f:Z->Prop}:bZ (some v) f=f v:=propext (by
 constructor;.rintro⟨_,e,h⟩;cases e;exact h
 .intro h;exact⟨v,rfl,h⟩)
def pA{Z:Type}{f:Z->Prop}:bZ (none:Option Z) f=False:=propext (by
 constructor;.rintro⟨_,e,_⟩;cases e
 .exact False.elim)
def Yi{o:SF}{args:List Aa}{k:Aa->IT}:W C (.op o args k) Q h↔bZ (AD o args) λv=>W C (k v) Q h:=by
 refine⟨λhw=>?_,λ⟨v,hv,hw⟩=>aGf hv hw⟩;obtain⟨n,x',Ia,h',hr,q⟩:=hw.succ;simp only[IT.step] at hr;split at hr;.rename_i v hv;exact⟨v,hv,C9 ⟨n,x',Ia,h',hr,q⟩⟩
 .cases hr
def Vs{n:Nat}{v:Aa}{k:List Aa->IT}:W C (.cells n v k) Q h↔bZ (if v.cells.length=n then some v.cells else none) λl=>W C (k l) Q h:=by
 constructor
 .intro hw;obtain⟨m,x',Ia,h',hr,q⟩:=hw.succ;simp only[IT.step] at hr;split at hr;.rename_i hv;exact⟨_,Af hv,C9 ⟨m,x',Ia,h',hr,q⟩⟩
  .cases hr
 .rintro⟨l,e,hw⟩;split at e;.rename_i hv;cases e;exact yU hv hw
  .cases e
def aC(v:Aa)(p q:Prop):Prop:=(v= .bool true/\p)\/(v= .bool false/\q)
def uS{v v':Aa}{p q:Prop}(h:v=v'):aC v p q=aC v' p q:=by rw[h]
def Ui{p q:Prop}:aC (.bool true) p q=p:=by simp[aC]
def R5{p q:Prop}:aC (.bool false) p q=q:=by simp[aC]
def CS{b:Bool}{p q:Prop}:aC (.bool b) p q↔(b=true->p)/\(b=false->q):=by cases b<;>simp[aC]
def Yj{c:Prop}[Decidable c]{p q:Prop}:aC (.bool (decide c)) p q↔(c->p)/\(¬c->q):=by rw[CS];simp
def Od{c:Aa}{t e:IT}:W C (.Gm c t e) Q h↔aC c (W C t Q h) (W C e Q h):=by
 constructor
 .intro hw;obtain⟨m,x',Ia,h',hr,q⟩:=hw.succ;simp only[IT.step] at hr;split at hr;.exact .inl ⟨rfl,C9 ⟨m,x',Ia,h',hr,q⟩⟩
  .exact .inr ⟨rfl,C9 ⟨m,x',Ia,h',hr,q⟩⟩
  .cases hr
 .rintro(⟨rfl,hw⟩|⟨rfl,hw⟩);.exact yV (λ_=>hw) λh=>by cases h
  .exact yV (λh=>by cases h) λ_=>hw
def Yk{n:Option Nat}{p:Aa}{k:Aa->IT}:W C (.load n p k) Q h↔bZ (A7 h n p) λv=>W C (k v) Q h:=by
 refine⟨λhw=>?_,λ⟨v,hv,hw⟩=>sn hv hw⟩;obtain⟨m,x',Ia,h',hr,q⟩:=hw.succ;simp only[IT.step] at hr;split at hr;.rename_i v hv;exact⟨v,hv,C9 ⟨m,x',Ia,h',hr,q⟩⟩
 .cases hr
def Vt{n:Nat}{p v:Aa}{k:IT}:W C (.store n p v k) Q h↔bZ (Cv h n p v) λh1=>W C k Q h1:=by
 refine⟨λhw=>?_,λ⟨v,hv,hw⟩=>yW hv hw⟩;obtain⟨m,x',Ia,h',hr,q⟩:=hw.succ;simp only[IT.step] at hr;split at hr;.rename_i h1 hv;exact⟨h1,hv,C9 ⟨m,x',Ia,h',hr,q⟩⟩
 .cases hr
def Vu{n:Nat}{v:Aa}{k:Aa->IT}:W C (.alloc n v k) Q h↔bZ (if v.cells.length=n then some v.cells else none) λl=>W C (k (.ptr (some (h.length,0)))) Q (h++[.cells l]):=by
 constructor
 .intro hw;obtain⟨m,x',Ia,h',hr,q⟩:=hw.succ;simp only[IT.step,Xu] at hr;by_cases hv:v.cells.length=n;.rw[Af hv] at hr;exact⟨_,Af hv,C9 ⟨m,x',Ia,h',hr,q⟩⟩
  .rw[Ad hv] at hr;cases hr
 .rintro⟨l,e,hw⟩;split at e;.rename_i hv;cases e;exact yX hv hw
  .cases e
def cA{u:Aa}{k:Aa->IT}:W C (.PH u k) Q h↔bZ (KT h u) λx=>W C (k x.2) Q x.1:=by
 refine⟨λhw=>?_,λ⟨(h1,v),hv,hw⟩=>aBk hv hw⟩;obtain⟨m,x',Ia,h',hr,q⟩:=hw.succ;simp only[IT.step] at hr;split at hr;.rename_i h1 v hv;exact⟨(h1,v),hv,C9 ⟨m,x',Ia,h',hr,q⟩⟩
 .cases hr
def Vv{off:Nat}{p:Aa}{k:IT}:W C (.PL off p k) Q h↔bZ (Mz h off p) λh1=>W C k Q h1:=by
 refine⟨λhw=>?_,λ⟨h1,hv,hw⟩=>yZ hv hw⟩;obtain⟨m,x',Ia,h',hr,q⟩:=hw.succ;simp only[IT.step] at hr;split at hr;.rename_i h1 hv;exact⟨h1,hv,C9 ⟨m,x',Ia,h',hr,q⟩⟩
 .cases hr
def Vw{size bytes:Nat}{s x:Aa}{k:Aa->IT}:W C (.LD size bytes s x k) Q h↔bZ (K8 h size bytes s x) λx=>W C (k x.2) Q x.1:=by
 refine⟨λhw=>?_,λ⟨(h1,v),hv,hw⟩=>yY hv hw⟩;obtain⟨m,x',Ia,h',hr,q⟩:=hw.succ;simp only[IT.step] at hr;split at hr;.rename_i h1 v hv;exact⟨(h1,v),hv,C9 ⟨m,x',Ia,h',hr,q⟩⟩
 .cases hr
def Yl{size bytes:Nat}{s x:Aa}{k:Aa->IT}:W C (.JT size bytes s x k) Q h↔bZ (Gj h size bytes s x) λx=>W C (k x.2) Q x.1:=by
 refine⟨λhw=>?_,λ⟨(h1,v),hv,hw⟩=>sx hv hw⟩;obtain⟨m,x,Ia,h',hr,q⟩:=hw.succ;simp only[IT.step] at hr;split at hr;.rename_i h1 v hv;exact⟨(h1,v),hv,C9 ⟨m,x,Ia,h',hr,q⟩⟩
 .cases hr
def Rq{size bytes:Nat}{s x:Aa}{k:Aa->IT}:W C (.GJ size bytes s x k) Q h↔bZ (Rh h size bytes s x) λv=>W C (k v) Q h:=by
 refine⟨λhw=>?_,λ⟨v,hv,hw⟩=>aY hv hw⟩;obtain⟨m,x,Ia,h',hr,q⟩:=hw.succ;simp only[IT.step] at hr;split at hr;.rename_i v hv;exact⟨v,hv,C9 ⟨m,x,Ia,h',hr,q⟩⟩
 .cases hr
def cB{o:nH}{args:List Aa}{k:Aa->IT}:W C (.mem o args k) Q h↔bZ (Ep o h args) λx=>W C (k x.2) Q x.1:=by
 refine⟨λhw=>?_,λ⟨(h1,v),hv,hw⟩=>aBl hv hw⟩;obtain⟨n,x,vs,h',hr,q⟩:=hw.succ;simp only[IT.step] at hr;split at hr;.rename_i h1 v hv;exact⟨(h1,v),hv,C9 ⟨n,x,vs,h',hr,q⟩⟩
 .cases hr
def Qb{s:Aa}{k:Aa->IT}:W C (.Fg s k) Q h↔bZ (I4 h s) λx=>W C (k x.2) Q x.1:=by
 refine⟨λhw=>?_,λ⟨(h1,v),hv,hw⟩=>XH hv hw⟩;obtain⟨m,x',Ia,h',hr,q⟩:=hw.succ;simp only[IT.step] at hr;split at hr;.rename_i h1 v hv;exact⟨(h1,v),hv,C9 ⟨m,x',Ia,h',hr,q⟩⟩
 .cases hr
def R6{k:Aa->IT}:W C (.PK k) Q h↔W C (k (.map (some h.length))) Q (h++[.map []]):=by refine⟨λhw=>?_,sq⟩;obtain⟨m,x',Ia,h',hr,q⟩:=hw.succ;exact C9 ⟨m,x',Ia,h',hr,q⟩
def Ym{m key v:Aa}{k:IT}:W C (.KS m key v k) Q h↔bZ (Rg h m key v) λh1=>W C k Q h1:=by
 refine⟨λhw=>?_,λ⟨h1,hv,hw⟩=>sr hv hw⟩;obtain⟨m,x',Ia,h',hr,q⟩:=hw.succ;simp only[IT.step] at hr;split at hr;.rename_i h1 hv;exact⟨h1,hv,C9 ⟨m,x',Ia,h',hr,q⟩⟩
 .cases hr
def Yn{z:Aa}{ok:Bool}{m key:Aa}{k:Aa->IT}:W C (.My z ok m key k) Q h↔bZ (PM h z ok m key) λv=>W C (k v) Q h:=by
 refine⟨λhw=>?_,λ⟨h1,hv,hw⟩=>su hv hw⟩;obtain⟨m,x',Ia,h',hr,q⟩:=hw.succ;simp only[IT.step] at hr;split at hr;.rename_i h1 hv;exact⟨h1,hv,C9 ⟨m,x',Ia,h',hr,q⟩⟩
 .cases hr
def Nn{g:Aa}{args:List Aa}{k:Aa->IT}:W C (.Ji g args k) Q h↔bZ (Dh g args) λx=>W C (.call x.1 x.2 k) Q h:=by
 constructor
 .intro hw;obtain⟨m,x',Ia,h',hr,q⟩:=hw.succ;simp only[IT.step] at hr;split at hr;.rename_i f as e;refine⟨(f,as),e,C9 ⟨m,x',Ia,h',?_,q⟩⟩;simp only[IT.step];exact hr
  .cases hr
 .rintro⟨⟨f,as⟩,e,hw⟩;obtain⟨m,x',Ia,h',hr,q⟩:=hw.succ;refine C9 ⟨m,x',Ia,h',?_,q⟩;simp only[IT.step,e] at hr⊢;exact hr
def A0{key:Nat}{t:IT}{k:DU->List Aa->IT}:W C (.OF key t k) Q h↔W C t (λx vs h1=>W C (k x vs) Q h1) h:=by
 refine⟨λhw=>?_,s_⟩;obtain⟨m,x',Ia,h',hr,q⟩:=hw.succ;simp only[IT.step] at hr;split at hr;.rename_i x vs h1 e;exact C9 ⟨m,_,_,_,e,C9 ⟨m,x',Ia,h',hr,q⟩⟩
 .cases hr
def BG(C:Gb)(f:FuncId)(args:List Aa)(h:Ai)(r:Aa)(h':Ai):Prop:=W C (Ca C f args) (λx vs h1=>x= .ret/\vs=[r]/\h1=h') h
def BG.ev{f:FuncId}{args:List Aa}{r:Aa}{h':Ai}(hr:BG C f args h r h'){R:Aa->Ai->Prop}(hR:R r h'):Ev C f args h R:=
 W.mono hr λ_ _ _ ⟨h1,h2,d⟩=>⟨h1,r,h2,by rw[d];exact hR⟩
def BG.Ab{f:FuncId}{args:List Aa}{r:Aa}{h':Ai}(hr:BG C f args h r h'){k:Aa->IT}:W C (.call f args k) Q h↔W C (k r) Q h':=by
 refine⟨λhw=>?_,λhw=>sy (hr.ev hw)⟩;obtain⟨n,j,i,h1,g,rfl,rfl,rfl⟩:=hr;obtain⟨m,x',Ia,h2,d,q⟩:=hw.succ;simp only[IT.step] at d;split at d;.rename_i r2 o e;simp only[Gb.run] at g e;have a1:=IT.Ir (H7 n m) g;have a2:=IT.Ir (Hw n m) e;rw[a1] at a2;cases a2;exact C9 ⟨m,x',Ia,h2,d,q⟩
 .cases d
def JX(C:Gb)(f:FuncId)(args:List Aa)(r:Aa):Prop:=Ev C f args [] λx _=>x=r
def JX.B6{f:FuncId}{args:List Aa}{r:Aa}(hr:JX C f args r)(ha:args.all Aa.M9=true)(hf:r.M9=true){k:Aa->IT}:W C (.B6 f args k) Q h↔W C (k r) Q h:=by
 refine⟨λhw=>?_,λhw=>ï ha (hr.mono λx _ e=>by rw[e];exact⟨hf,hw⟩)⟩;obtain⟨n,j,i,h1,g,rfl,y,rfl,rfl⟩:=hr;obtain⟨m,x',Ia,h2,d,q⟩:=hw.succ;simp only[IT.step,ha,BJ] at d;simp only[Gb.run] at g d;have a1:=IT.Ir (H7 n m) g;cases hc:IT.run (Ca C) m (Ca C f args) [] with
 |none=>rw[hc] at d;cases d
 |some z=>have a2:=IT.Ir (Hw n m) hc;rw[a1] at a2;cases a2;rw[hc] at d;simp only[hf,BJ] at d;exact C9 ⟨m,x',Ia,h2,d,q⟩
end
def Ĝ{C:Gb}{t t':IT}{Q:HO}{h h':Ai}(e:t=t')(d:h=h'):W C t Q h=W C t' Q h':=by rw[e,d]
def wq{o:SF}{args args':List Aa}{k:Aa->IT}(e:args=args'):IT.op o args k=IT.op o args' k:=by rw[e]
def pB{n:Nat}{v v':Aa}{k:List Aa->IT}(e:v=v'):IT.cells n v k=IT.cells n v' k:=by rw[e]
def lq{v v':Aa}{s t:IT}(e:v=v'):IT.Gm v s t=IT.Gm v' s t:=by rw[e]
def uT{n:Option Nat}{v v':Aa}{k:Aa->IT}(e:v=v'):IT.load n v k=IT.load n v' k:=by rw[e]
def pC{n:Nat}{p p' v v':Aa}{k:IT}(d:p=p')(e:v=v'):IT.store n p v k=IT.store n p' v' k:=by rw[e,d]
def pD{n:Nat}{v v':Aa}{k:Aa->IT}(e:v=v'):IT.alloc n v k=IT.alloc n v' k:=by rw[e]
def uU{f:FuncId}{args args':List Aa}{k:Aa->IT}(e:args=args'):IT.call f args k=IT.call f args' k:=by rw[e]
def pE{f:FuncId}{args args':List Aa}{k:Aa->IT}(e:args=args'):IT.B6 f args k=IT.B6 f args' k:=by rw[e]
def pF{f f':Aa}{args args':List Aa}{k:Aa->IT}(d:f=f')(e:args=args'):IT.Ji f args k=IT.Ji f' args' k:=by rw[e,d]
def uV{key:Nat}{i d:List Aa}{b:List Aa->IT}{k:DU->List Aa->IT}(e:i=d):IT.loop key i b k=IT.loop key d b k:=by rw[e]
def uW{key:Nat}{b:IT}{k:DU->List Aa->IT}:IT.OF key b k=IT.OF key b k:=rfl
def ls{v v':Aa}{k:Aa->IT}(e:v=v'):IT.PH v k=IT.PH v' k:=by rw[e]
def pG{size bytes:Nat}{s s' x x':Aa}{k:Aa->IT}(e:s=s')(d:x=x'):IT.LD size bytes s x k=IT.LD size bytes s' x' k:=by rw[e,d]
def uX{size bytes:Nat}{s s' x x':Aa}{k:Aa->IT}(e:s=s')(d:x=x'):IT.JT size bytes s x k=IT.JT size bytes s' x' k:=by rw[e,d]
def ly{o:nH}{args args':List Aa}{k:Aa->IT}(e:args=args'):IT.mem o args k=IT.mem o args' k:=by rw[e]
def aD{size bytes:Nat}{s s' x x':Aa}{k:Aa->IT}(e:s=s')(d:x=x'):IT.GJ size bytes s x k=IT.GJ size bytes s' x' k:=by rw[e,d]
def pH{off:Nat}{p p':Aa}{k:IT}(e:p=p'):IT.PL off p k=IT.PL off p' k:=by rw[e]
def Yo{s s':Aa}{k:Aa->IT}(e:s=s'):IT.Fg s k=IT.Fg s' k:=by rw[e]
def uY{m m' key key' v v':Aa}{k:IT}(e:m=m')(f:key=key')(d:v=v'):IT.KS m key v k=IT.KS m' key' v' k:=by rw[e,f,d]
def uZ{z:Aa}{ok:Bool}{m m' key key':Aa}{k:Aa->IT}(e:m=m')(d:key=key'):IT.My z ok m key k=IT.My z ok m' key' k:=by rw[e,d]
attribute [congr] lp uS Ĝ wq pB lq uT pC pD uU pE pF uV uW ls pH uX aD ly pG Yo uY uZ
attribute [simp] Oc pA Ui R5 Yj CS bY Yh Yi Vs Od Yk Vt Vu cA Vv Yl Rq cB Vw Qb R6 Ym Yn Nn A0
section
variable{k:IntKind}{a b:Int}{s t:Aj}
@[simp] theorem aDx:AD (.int .eql) [.int k a,.int k b]=some (.bool (decide (a=b))):=by cases k<;>rfl
@[simp] theorem aDy:AD (.int .neq) [.int k a,.int k b]=some (.bool (decide (a≠b))):=by
 have e:AD (.int .neq) [.int k a,.int k b]=some (.bool (!(a==b))):=by cases k<;>rfl
 rw[e];by_cases h:a=b<;>simp[h]
@[simp] theorem aDz:AD (.int .lss) [.int k a,.int k b]=some (.bool (decide (a<b))):=by cases k<;>rfl
@[simp] theorem aDA:AD (.int .leq) [.int k a,.int k b]=some (.bool (decide (a<=b))):=by cases k<;>rfl
@[simp] theorem aDB:AD (.int .gtr) [.int k a,.int k b]=some (.bool (decide (b<a))):=by cases k<;>rfl
@[simp] theorem aDC:AD (.int .geq) [.int k a,.int k b]=some (.bool (decide (b<=a))):=by cases k<;>rfl
def fK:AD (.int .add) [.int k a,.int k b]=some (.int k (k.wrap (a+b))):=by cases k<;>rfl
def u9:AD (.int .sub) [.int k a,.int k b]=some (.int k (k.wrap (a-b))):=by cases k<;>rfl
@[simp] theorem aDD {b:Bool}:AD (.un .not) [.bool b]=some (.bool (!b)):=rfl
@[simp] theorem zV:AD (.str .eql) [.str s,.str t]=some (.bool (decide (s=t))):=by
 show some (Aa.bool (s==t))=_;congr 2
 by_cases h:s=t<;>simp[h]
@[simp] theorem ĝ:AD (.str .neq) [.str s,.str t]=some (.bool (decide (s≠t))):=by
 show some (Aa.bool (!(s==t)))=_;congr 2
 by_cases h:s=t<;>simp[h]
@[simp] theorem Ğ:AD (.len true) [.str s]=some (.int .i64 s.length):=rfl
@[simp] theorem aKI {i:Int}:AD .ZT [.str s,.int k i]=if 0<=i then(s[i.toNat]?).map λb=> .int .u8 b.toNat else none:=rfl
@[simp] theorem fL {off:Nat} {cs:List Aa}:AD (.part off none) [.agg cs]=cs[off]?:=rfl
@[simp] theorem fM {off n:Nat} {cs:List Aa}:AD (.part off (some n)) [.agg cs]=if off+n<=cs.length then some (.agg ((cs.drop off).take n)) else none:=rfl
@[simp] theorem aDE {i:Nat} {vs:List Aa}:AD (.ext i) [.tuple vs]=vs[i]?:=rfl
@[simp] theorem aE {p:Nat×Nat}:AD .JS [.ptr (some p)]=some (.ptr (some p)):=rfl
@[simp] theorem Yp {cs:List Aa}:AD .JS [.CI cs]=some (.CI cs):=rfl
@[simp] theorem Yq {f:FuncId} {a b:List Aa}:AD .JS [.func (.func f) a b]=some (.func (.func f) a b):=rfl
@[simp] theorem aF {off:Nat} {cs:List Aa}:AD (.LC off) [.CI cs]=some (.CI (cs.drop off)):=rfl
@[simp] theorem fN {off id o:Nat}:AD (.LC off) [.ptr (some (id,o))]=some (.ptr (some (id,o+off))):=rfl
@[simp] theorem lz {neg:Bool}:AD (.peq neg) [.ptr none,.ptr none]=some (.bool (true != neg)):=rfl
@[simp] theorem l_ {neg:Bool} {p:Nat×Nat}:AD (.peq neg) [.ptr (some p),.ptr none]=some (.bool (false != neg)):=rfl
@[simp] theorem ma {neg:Bool} {p:Nat×Nat}:AD (.peq neg) [.ptr none,.ptr (some p)]=some (.bool (false != neg)):=rfl
@[simp] theorem aDF {neg a b:Bool}:AD (.beq neg) [.bool a,.bool b]=some (.bool ((a==b) != neg)):=rfl
@[simp] theorem aKJ {c:Bool} {a b:Aa}:AD .pick [.bool c,a,b]=some (if c then a else b):=rfl
@[simp] theorem QN {l:IntKind}:AD (.conv l) [.int k a]=some (.int l (l.wrap a)):=rfl
@[simp] theorem wv {zero args:List Aa} {places:List (Nat×Nat)}:AD (.Ch zero places) args=if places.length=args.length then(AT zero (places.zip args)).map .agg else none:=rfl
@[simp] theorem R7 {neg:Bool} {ks:List FK} {x y:List Aa}:AD (.geq neg ks) [.agg x,.agg y]=(D8 ks x y).map λe=> .bool (e != neg):=rfl
@[simp] theorem wz:AD (.LY false) [.int k a,.int k b]=some (.int k (if b<a then b else a)):=by simp[AD]
@[simp] theorem fO:AD (.LY true) [.int k a,.int k b]=some (.int k (if a<b then b else a)):=by simp[AD]
@[simp] theorem Yr {h:Ai} {n:Option Nat} {cs:List Aa}:A7 h n (.CI cs)=Fu cs 0 n:=rfl
@[simp] theorem E8 {off:Nat} {cs:List Aa}:Fu cs off none=cs[off]?:=rfl
@[simp] theorem No {off n:Nat} {cs:List Aa}:Fu cs off (some n)=if off+n<=cs.length then some (.agg ((cs.drop off).take n)) else none:=rfl
@[simp] theorem wrap_i64 (h1: -9223372036854775808<=a) (h2:a<9223372036854775808):IntKind.i64.wrap a=a:=by rw[IntKind.wrap_i64];omega
end
def Uj{cs:List Aa}:Aa.cells (.agg cs)=cs:=rfl
def cC{k:IntKind}{n:Int}:Aa.cells (.int k n)=[.int k n]:=rfl
def QP{s:Aj}:Aa.cells (.str s)=[.str s]:=rfl
def Ys{b:Bool}:Aa.cells (.bool b)=[.bool b]:=rfl
def cD{p:Option (Nat×Nat)}:Aa.cells (.ptr p)=[.ptr p]:=rfl
def Yt{p:List Aa}:Aa.cells (.CI p)=[.CI p]:=rfl
def Vx:Aa.cells .slnil=[.slnil]:=rfl
def pI{z:Nat}{r:List (List Aa)}:Aa.cells (.sl z r)=[.sl z r]:=rfl
def cE{i o l z:Nat}:Aa.cells (.CE i o l z)=[.CE i o l z]:=rfl
def Yu{f:Fn}{a b:List Aa}:Aa.cells (.func f a b)=[.func f a b]:=rfl
attribute [simp] AT D8 LZ Dh Uj cC QP Ys cD Yt Vx pI cE Yu
def AU(z:Nat)(AE:List (List Aa))(v:Aa):Prop:=v= .sl z AE\/(v= .slnil/\AE=[])
section
variable{z:Nat}{AE:List (List Aa)}{v:Aa}
def AU.mk:AU z AE (.sl z AE):= .inl rfl
def AU.nil:AU z [] .slnil:= .inr ⟨rfl,rfl⟩
def AU.cells(h:AU z AE v):v.cells=[v]:=by rcases h with rfl|⟨rfl,rfl⟩<;>rfl
def AU.len(h:AU z AE v):AD (.len false) [v]=some (.int .i64 AE.length):=by rcases h with rfl|⟨rfl,rfl⟩<;>rfl
def AU.Ff(h:AU z AE v){k:IntKind}{n:Nat}(hn:n<AE.length):AD (.Ff z) [v,.int k (n:Int)]=some (.CI AE[n]):=by
 rcases h with rfl|⟨rfl,rfl⟩
 .simp[AD,elemOf,hn]
 .simp at hn
end
end Go.Am
end
section
namespace Go.Am
open Go
section
variable{C:Gb}{Q:HO}{h:Ai}
def Qc{key:Nat}{vs:List Aa}{body:List Aa->IT}{k:DU->List Aa->IT}
  (hw:W C (body vs) (λx d h1=>(x= .normal/\W C (.loop key d body k) Q h1)\/(x≠ .normal/\W C (k x d) Q h1)) h):W C (.loop key vs body k) Q h:=by
 obtain⟨m,x,d,h1,hr,Jk⟩:=hw.succ;rcases Jk with⟨rfl,hw⟩|⟨hx,hw⟩
 .obtain⟨m',x',Ia,h',Gc,q⟩:=hw;refine C9 ⟨max m m',x',Ia,h',?_,q⟩;have f:=IT.J6 (λt h r=>IT.Ir (fn:=Ca C) (H7 m m')) _ _ _ hr;have e:=IT.Ir (Hw m m') Gc;simp only[IT.step];simp only[Gb.run] at*;rw[f];exact e
 .obtain⟨m',x',Ia,h',Gc,q⟩:=hw.succ;refine C9 ⟨max m m',x',Ia,h',?_,q⟩;have f:=IT.J6 (λt h r=>IT.Ir (fn:=Ca C) (H7 m m')) _ _ _ hr;have e:=IT.J6 (λt h r=>IT.Ir (fn:=Ca C) (Hw m m')) _ _ _ Gc;simp only[IT.step];simp only[Gb.run] at*;rw[f];cases x<;>first|exact absurd rfl hx|exact e
def AK{U:Type}(C:Gb)(enc:U->List Aa)(D5:U->Ai->Prop)(O:U->Nat)(k:DU->List Aa->IT)(Q:HO)(s:U):HO:=
 λx vs h1=>(x= .normal/\∃s',vs=enc s'/\D5 s' h1/\O s'<O s)\/(x≠ .normal/\W C (k x vs) Q h1)
variable{U:Type}{enc:U->List Aa}{D5:U->Ai->Prop}{O:U->Nat}{k:DU->List Aa->IT}{s:U}{vs:List Aa}
def AK.next(s':U)(e:vs=enc s')(hi:D5 s' h)(hl:O s'<O s):AK C enc D5 O k Q s .normal vs h:= .inl ⟨rfl,s',e,hi,hl⟩
def aG{i:Nat}:AK C enc D5 O k Q s (.exit i) vs h↔W C (k (.exit i) vs) Q h:=by simp[AK]
def fP:AK C enc D5 O k Q s .ret vs h↔W C (k .ret vs) Q h:=by simp[AK]
def Bm{key:Nat}{init:List Aa}{body:List Aa->IT}(enc:U->List Aa)(D5:U->Ai->Prop)(O:U->Nat)(s0:U)(h0:init=enc s0)(hi:D5 s0 h)
  (round:∀s h,D5 s h->W C (body (enc s)) (AK C enc D5 O k Q s) h):W C (.loop key init body k) Q h:=by
 subst h0;have key:∀n s h,O s=n->D5 s h->W C (.loop key (enc s) body k) Q h:=by
  intro n;induction n using Nat.strongRecOn with
  |_ n ih=>
   intro s h hn hI;refine Qc (W.mono (round s h hI) ?_);rintro x vs h1 (⟨rfl,s',rfl,uq,hl⟩|⟨hx,hw⟩);.exact .inl ⟨rfl,ih _ (hn▸hl) s' h1 rfl uq⟩
   .exact .inr ⟨hx,hw⟩
 exact key _ s0 h rfl hi
end
section
variable{k l:IntKind}{s:Aj}
def Fx{n:Nat}(hn:n<s.length):AD .ZT [.str s,.int k (n:Int)]=some (.int .u8 (s[n].toNat:Int)):=by simp[hn]
def BN{n:Nat}(hn:n<9223372036854775807):AD (.int .add) [.int .i64 (n:Int),.int .i64 1]=some (.int .i64 ((n+1:Nat):Int)):=by rw[fK,wrap_i64 Ac Ac];rfl
def Iv{n:Nat}(h0:0<n)(hn:n<9223372036854775807):AD (.int .sub) [.int .i64 (n:Int),.int .i64 1]=some (.int .i64 ((n-1:Nat):Int)):=by rw[u9,wrap_i64 Ac Ac];congr 2;omega
def MH{a b z:Nat}(ZO:a<=b)(hb:b<=s.length):AD (.K6 z true true true) [.str s,.int k (a:Int),.int l (b:Int)]=some (.str ((s.take b).drop a)):=by
 have e:Fq (b:Int) s.length=some b:=by unfold Fq;rw[Af Ac];rfl
 have d:Fq (a:Int) b=some a:=by unfold Fq;rw[Af Ac];rfl
 simp[AD,Kp,Ed,e,d]
end
section
variable{z b:Nat}{r r2:List (List Aa)}{row:List Aa}{v v2:Aa}
def AU.pJ(h:AU z r v)(hb:(r.length+1)*b<=AW):AD (.append z b) [v,.sl z [row]]=some (.sl z (r++[row])):=by
 rcases h with rfl|⟨rfl,rfl⟩
 .simp[AD,H9,DM,hb]
 .have:1*b<=AW:=by simpa using hb
  simp only[D6] at this;simp[AD,H9,DM,this]
def AU.HQ(h:AU z r v)(h2:AU z r2 v2)(hb:(r.length+r2.length)*b<=AW):∃u,AD (.append z b) [v,v2]=some u/\AU z (r++r2) u:=by
 have hnil:∃u,DM z b v []=some u/\AU z (r++[]) u:=by
  rcases h with rfl|⟨rfl,rfl⟩
  .exact⟨.sl z r,by simp[DM],by rw[By];exact .mk⟩
  .exact⟨_,rfl,.nil⟩
 rcases h2 with rfl|⟨rfl,rfl⟩
 .cases r2 with
  |nil=>obtain⟨u,e,hu⟩:=hnil;exact⟨u,by simpa[AD,H9] using e,hu⟩
  |cons x l=>
   refine⟨.sl z (r++x::l),?_,.mk⟩;rcases h with rfl|⟨rfl,rfl⟩
   .simp only[AD,H9,BJ,DM];rw[Af ⟨trivial,hb⟩]
   .simp only[AD,H9,BJ,DM];rw[Af (by simpa using hb)];rfl
 .obtain⟨u,e,hu⟩:=hnil;exact⟨u,by simpa[AD,H9] using e,hu⟩
def AU.PH(h:AU z r v){hp:Ai}:KT hp v=some (hp,v):=by rcases h with rfl|⟨rfl,rfl⟩<;>rfl
def Sa(s:Aj):Nd (Ce s)=some s:=by
 induction s with
 |nil=>rfl
 |cons c s ih=>have e:Ce (c::s)=[.int .u8 c.toNat]::Ce s:=rfl;rw[e,Nd,ih];simp
def AU.Xr{s:Aj}(h:AU 1 (Ce s) v):AD .Xr [v]=some (.str s):=by
 rcases h with rfl|⟨rfl,h⟩
 .simp[AD,Xt,Sa]
 .have e:s=[]:=by simpa[Ce] using h
  subst e;rfl
def Rr(s t:Aj):Ce (s++t)=Ce s++Ce t:=by simp[Ce]
def aH(s:Aj):(Ce s).length=s.length:=by simp[Ce]
end
@[simp] theorem zW {z:Nat} {args:List Aa}:AD (.Dk z) args=if args.all (λa=>a.cells.length==z)&&decide (args.length*z<=16777216) then some (.sl z (args.map (·.cells))) else none:=rfl
def MI{a:Aa}{z:Nat}(h:a.cells.length=z)(hz:z<=16777216):AD (.Dk z) [a]=some (.sl z [a.cells]):=by simp[h,hz]
def wrap_u8{a:Int}(h:0<=a/\a<=255):IntKind.u8.wrap a=a:=IntWalk.u8_in a h
def w_{a:Int}(h: -2147483648<=a/\a<=2147483647):IntKind.i32.wrap a=a:=IntWalk.i32_in a h
def Ae{C:Gb}{f:FuncId}{args:List Aa}{h h':Ai}{r:Aa}:BG C f args h r h'↔W C (Ca C f args) (λx vs h1=>x= .ret/\vs=[r]/\h1=h') h:=aFo
abbrev ä(C:Gb)(f:FuncId)(t:Aa->IT):Prop:=∀a0,Ca C f [a0]=t a0
abbrev Tq2(C:Gb)(f:FuncId)(t:Aa->Aa->IT):Prop:=∀a0 a1,Ca C f [a0,a1]=t a0 a1
abbrev Tq3(C:Gb)(f:FuncId)(t:Aa->Aa->Aa->IT):Prop:=∀a0 a1 a2,Ca C f [a0,a1,a2]=t a0 a1 a2
abbrev Tq4(C:Gb)(f:FuncId)(t:Aa->Aa->Aa->Aa->IT):Prop:=∀a0 a1 a2 a3,Ca C f [a0,a1,a2,a3]=t a0 a1 a2 a3
abbrev Tq5(C:Gb)(f:FuncId)(t:Aa->Aa->Aa->Aa->Aa->IT):Prop:=∀a0 a1 a2 a3 a4,Ca C f [a0,a1,a2,a3,a4]=t a0 a1 a2 a3 a4
def IT.fa(p:Aa)(k:Nat)(K:Aa->Aa->IT):IT:= .op .JS [p] λa=> .op (.LC k) [a] λb=>K a b
def IT.Qd(p:Aa)(k:Nat)(K:Aa->Aa->Aa->IT):IT:= .op .JS [p] λa=> .op (.LC k) [a] λb=> .load none b λc=>K a b c
def IT.fl(p:Aa)(k:Nat)(K:Aa->Aa->IT):IT:= .op (.LC k) [p] λa=> .load none a λb=>K a b
def nx(A R:List Aa->IT):DU->List Aa->IT:=λx c=>match x with
 | .normal=>A c
 | .exit _=> .fail
 | .ret=>R c
def lx(k:Nat)(A R:List Aa->IT):DU->List Aa->IT:=λx c=>match x with
 | .normal=> .fail
 | .exit i=>if i=k then A c else .fail
 | .ret=>R c
section
variable{C:Gb}{Q:HO}{h:Ai}{p:Aa}{k:Nat}{A R:List Aa->IT}{c:List Aa}
def aMr{K:Aa->Aa->IT}:W C (IT.fa p k K) Q h=W C (.op .JS [p] λa=> .op (.LC k) [a] λb=>K a b) Q h:=rfl
def aG2{K:Aa->Aa->Aa->IT}:W C (IT.Qd p k K) Q h=W C (.op .JS [p] λa=> .op (.LC k) [a] λb=> .load none b λc=>K a b c) Q h:=rfl
def aMs{K:Aa->Aa->IT}:W C (IT.fl p k K) Q h=W C (.op (.LC k) [p] λa=> .load none a λb=>K a b) Q h:=rfl
def aMt:nx A R .normal c=A c:=rfl
def aMu:nx A R .ret c=R c:=rfl
def aMv:lx k A R (.exit k) c=A c:=Af rfl
def aMw:lx k A R .ret c=R c:=rfl
end
def Dr:Aj->Aj->List Aj
 |cur,[]=>[cur]
 |cur,c::r=>if c=32 then cur::Dr [] r else Dr (cur++[c]) r
def Oe:List Aj:=Dr [] aVd
def swv(s:Aa)(t e:IT):List (List UInt8)->IT
 |[]=>e
 |c::cs=>.op (.str .eql) [s,.str c] λv=>.Gm v t (swv s t e cs)
abbrev IT.rr(l:List Aa):IT:=.ret .ret l
abbrev IT.rn(l:List Aa):IT:=.ret .normal l
abbrev IT.rx(n:Nat)(l:List Aa):IT:=.ret (.exit n) l
abbrev IT.ea(n:Nat)(l:List Aa)(k:Aa->IT):IT:=.op (.Ff n) l k
abbrev IT.ld(p:Aa)(k:Aa->IT):IT:=.load none p k
abbrev IT.ie(l:List Aa)(k:Aa->IT):IT:=.op (.int .eql) l k
abbrev IT.iq(l:List Aa)(k:Aa->IT):IT:=.op (.int .neq) l k
abbrev IT.il(l:List Aa)(k:Aa->IT):IT:=.op (.int .lss) l k
abbrev IT.ig(l:List Aa)(k:Aa->IT):IT:=.op (.int .gtr) l k
abbrev IT.ia(l:List Aa)(k:Aa->IT):IT:=.op (.int .add) l k
abbrev IT.ib(l:List Aa)(k:Aa->IT):IT:=.op (.int .sub) l k
abbrev IT.ih(l:List Aa)(k:Aa->IT):IT:=.op (.int .geq) l k
abbrev IT.ik(l:List Aa)(k:Aa->IT):IT:=.op (.int .leq) l k
abbrev IT.se(l:List Aa)(k:Aa->IT):IT:=.op (.str .eql) l k
abbrev IT.ln(l:List Aa)(k:Aa->IT):IT:=.op (.len false) l k
abbrev IT.lt(l:List Aa)(k:Aa->IT):IT:=.op (.len true) l k
abbrev IT.nt(l:List Aa)(k:Aa->IT):IT:=.op (.un .not) l k
abbrev IT.ca(f:Nat)(l:List Aa)(k:Aa->IT):IT:=.call f l k
abbrev i0:Aa:=I 0
abbrev i1:Aa:=I 1
abbrev tu:Aa:=.tuple []
abbrev pn:Aa:=.ptr none
def a13(c:List Aa):Aa:=.agg [g c 0,g c 1,g c 2,g c 3,g c 4,g c 5,g c 6,g c 7,g c 8,g c 9,g c 10,g c 11,g c 12]
def a13_e{c:List Aa}:a13 c=.agg [g c 0,g c 1,g c 2,g c 3,g c 4,g c 5,g c 6,g c 7,g c 8,g c 9,g c 10,g c 11,g c 12]:=rfl
def a12(c:List Aa):Aa:=.agg [g c 0,g c 1,g c 2,g c 3,g c 4,g c 5,g c 6,g c 7,g c 8,g c 9,g c 10,g c 11]
def a12_e{c:List Aa}:a12 c=.agg [g c 0,g c 1,g c 2,g c 3,g c 4,g c 5,g c 6,g c 7,g c 8,g c 9,g c 10,g c 11]:=rfl
def a9(c:List Aa):Aa:=.agg [g c 0,g c 1,g c 2,g c 3,g c 4,g c 5,g c 6,g c 7,g c 8]
def a9_e{c:List Aa}:a9 c=.agg [g c 0,g c 1,g c 2,g c 3,g c 4,g c 5,g c 6,g c 7,g c 8]:=rfl
def a6(c:List Aa):Aa:=.agg [g c 0,g c 1,g c 2,g c 3,g c 4,g c 5]
def a6_e{c:List Aa}:a6 c=.agg [g c 0,g c 1,g c 2,g c 3,g c 4,g c 5]:=rfl
def a4(c:List Aa):Aa:=.agg [g c 0,g c 1,g c 2,g c 3]
def a4_e{c:List Aa}:a4 c=.agg [g c 0,g c 1,g c 2,g c 3]:=rfl
def a3(c:List Aa):Aa:=.agg [g c 0,g c 1,g c 2]
def a3_e{c:List Aa}:a3 c=.agg [g c 0,g c 1,g c 2]:=rfl
def ai{a b:Prop}(x:a)(y:b):a/\b:=⟨x,y⟩
def BE:=ai @a13_e (ai @a12_e (ai @a9_e (ai @a6_e (ai @a4_e (ai @a3_e (ai @aMr (ai @aG2 (ai @aMs (ai @aMt (ai @aMu (ai @aMv (ai @aMw (ai @Oc (ai @pA (ai @Ui (ai @R5 (ai @Yj (ai @bY (ai @Yh (ai @Yi (ai @Vs (ai @Od (ai @Yk (ai @Vt (ai @Vu (ai @cA (ai @Vv (ai @Yl (ai @Rq (ai @cB (ai @Vw (ai @Qb (ai @R6 (ai @Ym (ai @Yn (ai @Nn (ai @A0 (ai @aDx (ai @aDy (ai @aDz (ai @aDA (ai @aDB (ai @aDC (ai @aDD (ai @zV (ai @ĝ (ai @Ğ (ai @fL (ai @fM (ai @aDE (ai @aE (ai @Yp (ai @Yq (ai @aF (ai @fN (ai @lz (ai @l_ (ai @ma (ai @aDF (ai @wv (ai @Yr (ai @E8 (ai @No (ai @aLn.{0} (ai @aLo.{0} (ai @GM.{0} (ai @Mf.{0} (ai @MZ.{0} (ai @List.drop_succ_cons.{0} (ai @aA9.{0} (ai @KN.{0} (ai @aS.{0} (ai @Bd.{0} (ai @BR.{0} (ai @Cs.{0} (ai @BT.{0} (ai @aPj.{0,0} (ai @List.zip_nil_right.{0,0} (ai @BY.{0,0} (ai @Option.map_none.{0,0} (ai @BW (ai @Uj (ai @cC (ai @QP (ai @Ys (ai @cD (ai @Yt (ai @Vx (ai @pI (ai @cE (ai @Yu (ai @sC (ai @M3 (ai @M5 (ai @BJ.{1} (ai @DF.{1} (ai @aG (@fP))))))))))))))))))))))))))))))))))))))))))))))))))))))))))))))))))))))))))))))))))))))))))))))))))
def ZP:=ai @Ik.{0} (ai @beq_self_eq_true.{0} (ai @Sx (ai @ß (ai @Sv (ai @I2 (ai @AA (ai @Az (ai @Aw (ai @Aq (ai @Bt (ai @Nat.zero_lt_succ (ai @BY.{0,0} (@aBa.{0})))))))))))))
def abS:=ai BE ZP
def aaS:type_of%@AI.{0}:=@AI.{0}
def Jr:=ai @Dw (ai @DG (ai @Bool.and_true (ai @Bool.true_and (ai @Þ (ai @à (ai @aFp (ai @UW (ai @JQ (ai @Ht (ai @Gg.{0} (ai @nA.{0} (ai @Option.getD_none.{0} (ai @aPm.{0} (ai @BJ.{1} (ai @DF.{1} (ai @Cx (ai @M3 (ai @aCx (ai @M5 (ai @ZS (ai @aBb (@Dm))))))))))))))))))))))
abbrev Pt(i o:Nat):Aa:=.ptr (some (i,o))
end Go.Am
end
