/- Lemmas -/
import Derived.Test.YtjjnhgoknielgaaGreatDoorZ1
import Derived.IntWalk
set_option linter.all false
section
namespace Go.Am
open Go
section
variable{C:Gj}{Q:Lj}{h:Ai}
def cC{x:Gs}{vs:List Aa}:W C (.ret x vs) Q h↔Q x vs h:=by refine⟨λhw=>?_,aBD⟩;obtain⟨n,x',Ih,h',hr,q⟩:=hw.succ;simp only[IT.step,BL,Mj] at hr;obtain⟨rfl,rfl,rfl⟩:=hr;exact q
def Yd:W C .fail Q h↔False:=by refine⟨λhw=>?_,λh=>h.elim⟩;obtain⟨n,x',Ih,h',hr,q⟩:=hw.succ;simp[IT.step] at hr
def cD{Z:Type}(o:Option Z)(f:Z->Prop):Prop:=∃v,o=some v/\f v
def ny{Z:Type}{o o':Option Z}{f:Z->Prop}(h:o=o'):cD o f=cD o' f:=by rw[h]
def M9{Z:Type}{v:Z}{f:Z->Prop}:cD (some v) f=f v:=propext (by
 constructor;.rintro⟨_,e,h⟩;cases e;exact h
 .intro h;exact⟨v,rfl,h⟩)
def nA{Z:Type}{f:Z->Prop}:cD (none:Option Z) f=False:=propext (by
 constructor;.rintro⟨_,e,_⟩;cases e
 .exact False.elim)
def Ye{o:ZG}{args:List Aa}{k:Aa->IT}:W C (.op o args k) Q h↔cD (AH o args) λv=>W C (k v) Q h:=by
 refine⟨λhw=>?_,λ⟨v,hv,hw⟩=>aHC hv hw⟩;obtain⟨n,x',Ih,h',hr,q⟩:=hw.succ;simp only[IT.step] at hr;split at hr;.rename_i v hv;exact⟨v,hv,C0 ⟨n,x',Ih,h',hr,q⟩⟩
 .cases hr
def QA{n:Nat}{v:Aa}{k:List Aa->IT}:W C (.cells n v k) Q h↔cD (if v.cells.length=n then some v.cells else none) λl=>W C (k l) Q h:=by
 constructor
 .intro hw;obtain⟨m,x',Ih,h',hr,q⟩:=hw.succ;simp only[IT.step] at hr;split at hr;.rename_i hv;exact⟨_,Af hv,C0 ⟨m,x',Ih,h',hr,q⟩⟩
  .cases hr
 .rintro⟨l,e,hw⟩;split at e;.rename_i hv;cases e;exact wR hv hw
  .cases e
def ZY(v:Aa)(p q:Prop):Prop:=(v= .bool true/\p)\/(v= .bool false/\q)
def sJ{v v':Aa}{p q:Prop}(h:v=v'):ZY v p q=ZY v' p q:=by rw[h]
def cE{p q:Prop}:ZY (.bool true) p q=p:=by simp[ZY]
def Yf{p q:Prop}:ZY (.bool false) p q=q:=by simp[ZY]
def DC{b:Bool}{p q:Prop}:ZY (.bool b) p q↔(b=true->p)/\(b=false->q):=by cases b<;>simp[ZY]
def Yg{c:Prop}[Decidable c]{p q:Prop}:ZY (.bool (decide c)) p q↔(c->p)/\(¬c->q):=by rw[DC];simp
def Oy{c:Aa}{t e:IT}:W C (.A3 c t e) Q h↔ZY c (W C t Q h) (W C e Q h):=by
 constructor
 .intro hw;obtain⟨m,x',Ih,h',hr,q⟩:=hw.succ;simp only[IT.step] at hr;split at hr;.exact .inl ⟨rfl,C0 ⟨m,x',Ih,h',hr,q⟩⟩
  .exact .inr ⟨rfl,C0 ⟨m,x',Ih,h',hr,q⟩⟩
  .cases hr
 .rintro(⟨rfl,hw⟩|⟨rfl,hw⟩);.exact wS (λ_=>hw) λh=>by cases h
  .exact wS (λh=>by cases h) λ_=>hw
def Yh{n:Option Nat}{p:Aa}{k:Aa->IT}:W C (.load n p k) Q h↔cD (Bn h n p) λv=>W C (k v) Q h:=by
 refine⟨λhw=>?_,λ⟨v,hv,hw⟩=>vt hv hw⟩;obtain⟨m,x',Ih,h',hr,q⟩:=hw.succ;simp only[IT.step] at hr;split at hr;.rename_i v hv;exact⟨v,hv,C0 ⟨m,x',Ih,h',hr,q⟩⟩
 .cases hr
def VD{n:Nat}{p v:Aa}{k:IT}:W C (.store n p v k) Q h↔cD (C9 h n p v) λh1=>W C k Q h1:=by
 refine⟨λhw=>?_,λ⟨v,hv,hw⟩=>wT hv hw⟩;obtain⟨m,x',Ih,h',hr,q⟩:=hw.succ;simp only[IT.step] at hr;split at hr;.rename_i h1 hv;exact⟨h1,hv,C0 ⟨m,x',Ih,h',hr,q⟩⟩
 .cases hr
def VE{n:Nat}{v:Aa}{k:Aa->IT}:W C (.alloc n v k) Q h↔cD (if v.cells.length=n then some v.cells else none) λl=>W C (k (.ptr (some (h.length,0)))) Q (h++[.cells l]):=by
 constructor
 .intro hw;obtain⟨m,x',Ih,h',hr,q⟩:=hw.succ;simp only[IT.step,Xn] at hr;by_cases hv:v.cells.length=n;.rw[Af hv] at hr;exact⟨_,Af hv,C0 ⟨m,x',Ih,h',hr,q⟩⟩
  .rw[Ac hv] at hr;cases hr
 .rintro⟨l,e,hw⟩;split at e;.rename_i hv;cases e;exact wU hv hw
  .cases e
def cF{u:Aa}{k:Aa->IT}:W C (.VY u k) Q h↔cD (LW h u) λx=>W C (k x.2) Q x.1:=by
 refine⟨λhw=>?_,λ⟨(h1,v),hv,hw⟩=>aBE hv hw⟩;obtain⟨m,x',Ih,h',hr,q⟩:=hw.succ;simp only[IT.step] at hr;split at hr;.rename_i h1 v hv;exact⟨(h1,v),hv,C0 ⟨m,x',Ih,h',hr,q⟩⟩
 .cases hr
def VF{off:Nat}{p:Aa}{k:IT}:W C (.IX off p k) Q h↔cD (Lg h off p) λh1=>W C k Q h1:=by
 refine⟨λhw=>?_,λ⟨h1,hv,hw⟩=>wW hv hw⟩;obtain⟨m,x',Ih,h',hr,q⟩:=hw.succ;simp only[IT.step] at hr;split at hr;.rename_i h1 hv;exact⟨h1,hv,C0 ⟨m,x',Ih,h',hr,q⟩⟩
 .cases hr
def VG{size bytes:Nat}{s x:Aa}{k:Aa->IT}:W C (.Kf size bytes s x k) Q h↔cD (Lf h size bytes s x) λx=>W C (k x.2) Q x.1:=by
 refine⟨λhw=>?_,λ⟨(h1,v),hv,hw⟩=>wV hv hw⟩;obtain⟨m,x',Ih,h',hr,q⟩:=hw.succ;simp only[IT.step] at hr;split at hr;.rename_i h1 v hv;exact⟨(h1,v),hv,C0 ⟨m,x',Ih,h',hr,q⟩⟩
 .cases hr
def Yi{size bytes:Nat}{s x:Aa}{k:Aa->IT}:W C (.GL size bytes s x k) Q h↔cD (GZ h size bytes s x) λx=>W C (k x.2) Q x.1:=by
 refine⟨λhw=>?_,λ⟨(h1,v),hv,hw⟩=>wb hv hw⟩;obtain⟨m,x,Ih,h',hr,q⟩:=hw.succ;simp only[IT.step] at hr;split at hr;.rename_i h1 v hv;exact⟨(h1,v),hv,C0 ⟨m,x,Ih,h',hr,q⟩⟩
 .cases hr
def RX{size bytes:Nat}{s x:Aa}{k:Aa->IT}:W C (.GI size bytes s x k) Q h↔cD (RO h size bytes s x) λv=>W C (k v) Q h:=by
 refine⟨λhw=>?_,λ⟨v,hv,hw⟩=>bC hv hw⟩;obtain⟨m,x,Ih,h',hr,q⟩:=hw.succ;simp only[IT.step] at hr;split at hr;.rename_i v hv;exact⟨v,hv,C0 ⟨m,x,Ih,h',hr,q⟩⟩
 .cases hr
def cG{o:vg}{args:List Aa}{k:Aa->IT}:W C (.mem o args k) Q h↔cD (Eu o h args) λx=>W C (k x.2) Q x.1:=by
 refine⟨λhw=>?_,λ⟨(h1,v),hv,hw⟩=>aBF hv hw⟩;obtain⟨n,x,vs,h',hr,q⟩:=hw.succ;simp only[IT.step] at hr;split at hr;.rename_i h1 v hv;exact⟨(h1,v),hv,C0 ⟨n,x,vs,h',hr,q⟩⟩
 .cases hr
def QB{s:Aa}{k:Aa->IT}:W C (.Fi s k) Q h↔cD (Jm h s) λx=>W C (k x.2) Q x.1:=by
 refine⟨λhw=>?_,λ⟨(h1,v),hv,hw⟩=>XA hv hw⟩;obtain⟨m,x',Ih,h',hr,q⟩:=hw.succ;simp only[IT.step] at hr;split at hr;.rename_i h1 v hv;exact⟨(h1,v),hv,C0 ⟨m,x',Ih,h',hr,q⟩⟩
 .cases hr
def Sp{k:Aa->IT}:W C (.Og k) Q h↔W C (k (.map (some h.length))) Q (h++[.map []]):=by refine⟨λhw=>?_,vw⟩;obtain⟨m,x',Ih,h',hr,q⟩:=hw.succ;exact C0 ⟨m,x',Ih,h',hr,q⟩
def Yj{m key v:Aa}{k:IT}:W C (.Ig m key v k) Q h↔cD (RN h m key v) λh1=>W C k Q h1:=by
 refine⟨λhw=>?_,λ⟨h1,hv,hw⟩=>vy hv hw⟩;obtain⟨m,x',Ih,h',hr,q⟩:=hw.succ;simp only[IT.step] at hr;split at hr;.rename_i h1 hv;exact⟨h1,hv,C0 ⟨m,x',Ih,h',hr,q⟩⟩
 .cases hr
def Yk{z:Aa}{ok:Bool}{m key:Aa}{k:Aa->IT}:W C (.MY z ok m key k) Q h↔cD (PV h z ok m key) λv=>W C (k v) Q h:=by
 refine⟨λhw=>?_,λ⟨h1,hv,hw⟩=>vz hv hw⟩;obtain⟨m,x',Ih,h',hr,q⟩:=hw.succ;simp only[IT.step] at hr;split at hr;.rename_i h1 hv;exact⟨h1,hv,C0 ⟨m,x',Ih,h',hr,q⟩⟩
 .cases hr
def NO{g:Aa}{args:List Aa}{k:Aa->IT}:W C (.EG g args k) Q h↔cD (CN g args) λx=>W C (.call x.1 x.2 k) Q h:=by
 constructor
 .intro hw;obtain⟨m,x',Ih,h',hr,q⟩:=hw.succ;simp only[IT.step] at hr;split at hr;.rename_i f as e;refine⟨(f,as),e,C0 ⟨m,x',Ih,h',?_,q⟩⟩;simp only[IT.step];exact hr
  .cases hr
 .rintro⟨⟨f,as⟩,e,hw⟩;obtain⟨m,x',Ih,h',hr,q⟩:=hw.succ;refine C0 ⟨m,x',Ih,h',?_,q⟩;simp only[IT.step,e] at hr⊢;exact hr
def Fv{key:Nat}{t:IT}{k:Gs->List Aa->IT}:W C (.GK key t k) Q h↔W C t (λx vs h1=>W C (k x vs) Q h1) h:=by
 refine⟨λhw=>?_,we⟩;obtain⟨m,x',Ih,h',hr,q⟩:=hw.succ;simp only[IT.step] at hr;split at hr;.rename_i x vs h1 e;exact C0 ⟨m,_,_,_,e,C0 ⟨m,x',Ih,h',hr,q⟩⟩
 .cases hr
def Cy(C:Gj)(f:FuncId)(args:List Aa)(h:Ai)(r:Aa)(h':Ai):Prop:=W C (Cd C f args) (λx vs h1=>x= .ret/\vs=[r]/\h1=h') h
def Cy.ev{f:FuncId}{args:List Aa}{r:Aa}{h':Ai}(hr:Cy C f args h r h'){R:Aa->Ai->Prop}(hR:R r h'):Ev C f args h R:=
 W.mono hr λ_ _ _ ⟨h1,h2,h3⟩=>⟨h1,r,h2,by rw[h3];exact hR⟩
def Cy.Ae{f:FuncId}{args:List Aa}{r:Aa}{h':Ai}(hr:Cy C f args h r h'){k:Aa->IT}:W C (.call f args k) Q h↔W C (k r) Q h':=by
 refine⟨λhw=>?_,λhw=>wc (hr.ev hw)⟩;obtain⟨n,j,i,h1,g,rfl,rfl,rfl⟩:=hr;obtain⟨m,x',Ih,h2,d,q⟩:=hw.succ;simp only[IT.step] at d;split at d;.rename_i r2 h3 e;simp only[Gj.run] at g e;have a1:=IT.Iy (Ie n m) g;have a2:=IT.Iy (HD n m) e;rw[a1] at a2;cases a2;exact C0 ⟨m,x',Ih,h2,d,q⟩
 .cases d
def Oz(C:Gj)(f:FuncId)(args:List Aa)(r:Aa):Prop:=Ev C f args [] λx _=>x=r
def Oz.BH{f:FuncId}{args:List Aa}{r:Aa}(hr:Oz C f args r)(ha:args.all Aa.Nx=true)(hf:r.Nx=true){k:Aa->IT}:W C (.BH f args k) Q h↔W C (k r) Q h:=by
 refine⟨λhw=>?_,λhw=>ņ ha (hr.mono λx _ e=>by rw[e];exact⟨hf,hw⟩)⟩;obtain⟨n,j,i,h1,g,rfl,y,rfl,rfl⟩:=hr;obtain⟨m,x',Ih,h2,d,q⟩:=hw.succ;simp only[IT.step,ha,BN] at d;simp only[Gj.run] at g d;have a1:=IT.Iy (Ie n m) g;cases hc:IT.run (Cd C) m (Cd C f args) [] with
 |none=>rw[hc] at d;cases d
 |some z=>have a2:=IT.Iy (HD n m) hc;rw[a1] at a2;cases a2;rw[hc] at d;simp only[hf,BN] at d;exact C0 ⟨m,x',Ih,h2,d,q⟩
end
def Ų{C:Gj}{t t':IT}{Q:Lj}{h h':Ai}(e:t=t')(d:h=h'):W C t Q h=W C t' Q h':=by rw[e,d]
def za{o:ZG}{args args':List Aa}{k:Aa->IT}(e:args=args'):IT.op o args k=IT.op o args' k:=by rw[e]
def nB{n:Nat}{v v':Aa}{k:List Aa->IT}(e:v=v'):IT.cells n v k=IT.cells n v' k:=by rw[e]
def nz{v v':Aa}{s t:IT}(e:v=v'):IT.A3 v s t=IT.A3 v' s t:=by rw[e]
def sK{n:Option Nat}{v v':Aa}{k:Aa->IT}(e:v=v'):IT.load n v k=IT.load n v' k:=by rw[e]
def nC{n:Nat}{p p' v v':Aa}{k:IT}(d:p=p')(e:v=v'):IT.store n p v k=IT.store n p' v' k:=by rw[e,d]
def nD{n:Nat}{v v':Aa}{k:Aa->IT}(e:v=v'):IT.alloc n v k=IT.alloc n v' k:=by rw[e]
def sL{f:FuncId}{args args':List Aa}{k:Aa->IT}(e:args=args'):IT.call f args k=IT.call f args' k:=by rw[e]
def nE{f:FuncId}{args args':List Aa}{k:Aa->IT}(e:args=args'):IT.BH f args k=IT.BH f args' k:=by rw[e]
def nF{f f':Aa}{args args':List Aa}{k:Aa->IT}(d:f=f')(e:args=args'):IT.EG f args k=IT.EG f' args' k:=by rw[e,d]
def sM{key:Nat}{i d:List Aa}{b:List Aa->IT}{k:Gs->List Aa->IT}(e:i=d):IT.loop key i b k=IT.loop key d b k:=by rw[e]
def sN{key:Nat}{b:IT}{k:Gs->List Aa->IT}:IT.GK key b k=IT.GK key b k:=rfl
def n_{v v':Aa}{k:Aa->IT}(e:v=v'):IT.VY v k=IT.VY v' k:=by rw[e]
def nG{size bytes:Nat}{s s' x x':Aa}{k:Aa->IT}(e:s=s')(d:x=x'):IT.Kf size bytes s x k=IT.Kf size bytes s' x' k:=by rw[e,d]
def sP{size bytes:Nat}{s s' x x':Aa}{k:Aa->IT}(e:s=s')(d:x=x'):IT.GL size bytes s x k=IT.GL size bytes s' x' k:=by rw[e,d]
def oa{o:vg}{args args':List Aa}{k:Aa->IT}(e:args=args'):IT.mem o args k=IT.mem o args' k:=by rw[e]
def ZZ{size bytes:Nat}{s s' x x':Aa}{k:Aa->IT}(e:s=s')(d:x=x'):IT.GI size bytes s x k=IT.GI size bytes s' x' k:=by rw[e,d]
def nH{off:Nat}{p p':Aa}{k:IT}(e:p=p'):IT.IX off p k=IT.IX off p' k:=by rw[e]
def Yl{s s':Aa}{k:Aa->IT}(e:s=s'):IT.Fi s k=IT.Fi s' k:=by rw[e]
def sQ{m m' key key' v v':Aa}{k:IT}(e:m=m')(f:key=key')(d:v=v'):IT.Ig m key v k=IT.Ig m' key' v' k:=by rw[e,f,d]
def sR{z:Aa}{ok:Bool}{m m' key key':Aa}{k:Aa->IT}(e:m=m')(d:key=key'):IT.MY z ok m key k=IT.MY z ok m' key' k:=by rw[e,d]
attribute [congr] ny sJ Ų za nB nz sK nC nD sL nE nF sM sN n_ nH sP ZZ oa nG Yl sQ sR
attribute [simp] M9 nA cE Yf Yg DC cC Yd Ye QA Oy Yh VD VE cF VF Yi RX cG VG QB Sp Yj Yk NO Fv
section
variable{k:IntKind}{a b:Int}{s t:Ah}
@[simp] theorem aDC:AH (.int .eql) [.int k a,.int k b]=some (.bool (decide (a=b))):=by cases k<;>rfl
@[simp] theorem aDD:AH (.int .neq) [.int k a,.int k b]=some (.bool (decide (a≠b))):=by
 have e:AH (.int .neq) [.int k a,.int k b]=some (.bool (!(a==b))):=by cases k<;>rfl
 rw[e];by_cases h:a=b<;>simp[h]
@[simp] theorem aDE:AH (.int .lss) [.int k a,.int k b]=some (.bool (decide (a<b))):=by cases k<;>rfl
@[simp] theorem aDF:AH (.int .leq) [.int k a,.int k b]=some (.bool (decide (a<=b))):=by cases k<;>rfl
@[simp] theorem aDG:AH (.int .gtr) [.int k a,.int k b]=some (.bool (decide (b<a))):=by cases k<;>rfl
@[simp] theorem aDH:AH (.int .geq) [.int k a,.int k b]=some (.bool (decide (b<=a))):=by cases k<;>rfl
def sS:AH (.int .add) [.int k a,.int k b]=some (.int k (k.wrap (a+b))):=by cases k<;>rfl
def sT:AH (.int .sub) [.int k a,.int k b]=some (.int k (k.wrap (a-b))):=by cases k<;>rfl
@[simp] theorem aDI {b:Bool}:AH (.un .not) [.bool b]=some (.bool (!b)):=rfl
@[simp] theorem xW:AH (.str .eql) [.str s,.str t]=some (.bool (decide (s=t))):=by
 show some (Aa.bool (s==t))=_;congr 2
 by_cases h:s=t<;>simp[h]
@[simp] theorem ų:AH (.str .neq) [.str s,.str t]=some (.bool (decide (s≠t))):=by
 show some (Aa.bool (!(s==t)))=_;congr 2
 by_cases h:s=t<;>simp[h]
@[simp] theorem Ŵ:AH (.len true) [.str s]=some (.int .i64 s.length):=rfl
@[simp] theorem aLf {i:Int}:AH .VX [.str s,.int k i]=if 0<=i then(s[i.toNat]?).map λb=> .int .u8 b.toNat else none:=rfl
@[simp] theorem fR {off:Nat} {cs:List Aa}:AH (.part off none) [.agg cs]=cs[off]?:=rfl
@[simp] theorem fS {off n:Nat} {cs:List Aa}:AH (.part off (some n)) [.agg cs]=if off+n<=cs.length then some (.agg ((cs.drop off).take n)) else none:=rfl
@[simp] theorem aDJ {i:Nat} {vs:List Aa}:AH (.ext i) [.tuple vs]=vs[i]?:=rfl
@[simp] theorem Z0 {p:Nat×Nat}:AH .MW [.ptr (some p)]=some (.ptr (some p)):=rfl
@[simp] theorem Ym {cs:List Aa}:AH .MW [.B9 cs]=some (.B9 cs):=rfl
@[simp] theorem Yn {f:FuncId} {a b:List Aa}:AH .MW [.func (.func f) a b]=some (.func (.func f) a b):=rfl
@[simp] theorem Z3 {off:Nat} {cs:List Aa}:AH (.Gr off) [.B9 cs]=some (.B9 (cs.drop off)):=rfl
@[simp] theorem fU {off id o:Nat}:AH (.Gr off) [.ptr (some (id,o))]=some (.ptr (some (id,o+off))):=rfl
@[simp] theorem oc {neg:Bool}:AH (.Wx neg) [.ptr none,.ptr none]=some (.bool (true != neg)):=rfl
@[simp] theorem od {neg:Bool} {p:Nat×Nat}:AH (.Wx neg) [.ptr (some p),.ptr none]=some (.bool (false != neg)):=rfl
@[simp] theorem oe {neg:Bool} {p:Nat×Nat}:AH (.Wx neg) [.ptr none,.ptr (some p)]=some (.bool (false != neg)):=rfl
@[simp] theorem aDK {neg a b:Bool}:AH (.beq neg) [.bool a,.bool b]=some (.bool ((a==b) != neg)):=rfl
@[simp] theorem aLg {c:Bool} {a b:Aa}:AH .pick [.bool c,a,b]=some (if c then a else b):=rfl
@[simp] theorem WK {l:IntKind}:AH (.conv l) [.int k a]=some (.int l (l.wrap a)):=rfl
@[simp] theorem zb {zero args:List Aa} {places:List (Nat×Nat)}:AH (.C7 zero places) args=if places.length=args.length then(Cl zero (places.zip args)).map .agg else none:=rfl
@[simp] theorem sU {neg:Bool} {ks:List FK} {x y:List Aa}:AH (.geq neg ks) [.agg x,.agg y]=(Ez ks x y).map λe=> .bool (e != neg):=rfl
@[simp] theorem zc:AH (.Mr false) [.int k a,.int k b]=some (.int k (if b<a then b else a)):=by simp[AH]
@[simp] theorem fV:AH (.Mr true) [.int k a,.int k b]=some (.int k (if a<b then b else a)):=by simp[AH]
@[simp] theorem Po {h:Ai} {n:Option Nat} {cs:List Aa}:Bn h n (.B9 cs)=FG cs 0 n:=rfl
@[simp] theorem I4 {off:Nat} {cs:List Aa}:FG cs off none=cs[off]?:=rfl
@[simp] theorem NP {off n:Nat} {cs:List Aa}:FG cs off (some n)=if off+n<=cs.length then some (.agg ((cs.drop off).take n)) else none:=rfl
@[simp] theorem wrap_i64 (h1: -9223372036854775808<=a) (h2:a<9223372036854775808):IntKind.i64.wrap a=a:=by rw[IntKind.wrap_i64];omega
end
def Rm{cs:List Aa}:Aa.cells (.agg cs)=cs:=rfl
def cH{k:IntKind}{n:Int}:Aa.cells (.int k n)=[.int k n]:=rfl
def Rn{s:Ah}:Aa.cells (.str s)=[.str s]:=rfl
def Yo{b:Bool}:Aa.cells (.bool b)=[.bool b]:=rfl
def cI{p:Option (Nat×Nat)}:Aa.cells (.ptr p)=[.ptr p]:=rfl
def Yp{p:List Aa}:Aa.cells (.B9 p)=[.B9 p]:=rfl
def VH:Aa.cells .slnil=[.slnil]:=rfl
def nI{z:Nat}{r:List (List Aa)}:Aa.cells (.sl z r)=[.sl z r]:=rfl
def cJ{i o l z:Nat}:Aa.cells (.Dn i o l z)=[.Dn i o l z]:=rfl
def Yq{f:Fn}{a b:List Aa}:Aa.cells (.func f a b)=[.func f a b]:=rfl
attribute [simp] Cl Ez N2 CN Rm cH Rn Yo cI Yp VH nI cJ Yq
def BB(z:Nat)(Ax:List (List Aa))(v:Aa):Prop:=v= .sl z Ax\/(v= .slnil/\Ax=[])
section
variable{z:Nat}{Ax:List (List Aa)}{v:Aa}
def BB.mk:BB z Ax (.sl z Ax):= .inl rfl
def BB.nil:BB z [] .slnil:= .inr ⟨rfl,rfl⟩
def BB.cells(h:BB z Ax v):v.cells=[v]:=by rcases h with rfl|⟨rfl,rfl⟩<;>rfl
def BB.len(h:BB z Ax v):AH (.len false) [v]=some (.int .i64 Ax.length):=by rcases h with rfl|⟨rfl,rfl⟩<;>rfl
def BB.GY(h:BB z Ax v){k:IntKind}{n:Nat}(hn:n<Ax.length):AH (.GY z) [v,.int k (n:Int)]=some (.B9 Ax[n]):=by
 rcases h with rfl|⟨rfl,rfl⟩
 .simp[AH,elemOf,hn]
 .simp at hn
end
end Go.Am
end
section
namespace Go.Am
open Go
section
variable{C:Gj}{Q:Lj}{h:Ai}
def QC{key:Nat}{vs:List Aa}{body:List Aa->IT}{k:Gs->List Aa->IT}
  (hw:W C (body vs) (λx d h1=>(x= .normal/\W C (.loop key d body k) Q h1)\/(x≠ .normal/\W C (k x d) Q h1)) h):W C (.loop key vs body k) Q h:=by
 obtain⟨m,x,d,h1,hr,Jy⟩:=hw.succ;rcases Jy with⟨rfl,hw⟩|⟨hx,hw⟩
 .obtain⟨m',x',Ih,h',HY,q⟩:=hw;refine C0 ⟨max m m',x',Ih,h',?_,q⟩;have f:=IT.Kg (λt h r=>IT.Iy (fn:=Cd C) (Ie m m')) _ _ _ hr;have e:=IT.Iy (HD m m') HY;simp only[IT.step];simp only[Gj.run] at*;rw[f];exact e
 .obtain⟨m',x',Ih,h',HY,q⟩:=hw.succ;refine C0 ⟨max m m',x',Ih,h',?_,q⟩;have f:=IT.Kg (λt h r=>IT.Iy (fn:=Cd C) (Ie m m')) _ _ _ hr;have e:=IT.Kg (λt h r=>IT.Iy (fn:=Cd C) (HD m m')) _ _ _ HY;simp only[IT.step];simp only[Gj.run] at*;rw[f];cases x<;>first|exact absurd rfl hx|exact e
def BC{U:Type}(C:Gj)(enc:U->List Aa)(Ee:U->Ai->Prop)(O:U->Nat)(k:Gs->List Aa->IT)(Q:Lj)(s:U):Lj:=
 λx vs h1=>(x= .normal/\∃s',vs=enc s'/\Ee s' h1/\O s'<O s)\/(x≠ .normal/\W C (k x vs) Q h1)
variable{U:Type}{enc:U->List Aa}{Ee:U->Ai->Prop}{O:U->Nat}{k:Gs->List Aa->IT}{s:U}{vs:List Aa}
def BC.next(s':U)(e:vs=enc s')(hi:Ee s' h)(hl:O s'<O s):BC C enc Ee O k Q s .normal vs h:= .inl ⟨rfl,s',e,hi,hl⟩
def Z4{i:Nat}:BC C enc Ee O k Q s (.exit i) vs h↔W C (k (.exit i) vs) Q h:=by simp[BC]
def fW:BC C enc Ee O k Q s .ret vs h↔W C (k .ret vs) Q h:=by simp[BC]
def Co{key:Nat}{init:List Aa}{body:List Aa->IT}(enc:U->List Aa)(Ee:U->Ai->Prop)(O:U->Nat)(s0:U)(h0:init=enc s0)(hi:Ee s0 h)
  (round:∀s h,Ee s h->W C (body (enc s)) (BC C enc Ee O k Q s) h):W C (.loop key init body k) Q h:=by
 subst h0;have key:∀n s h,O s=n->Ee s h->W C (.loop key (enc s) body k) Q h:=by
  intro n;induction n using Nat.strongRecOn with
  |_ n ih=>
   intro s h hn hI;refine QC (W.mono (round s h hI) ?_);rintro x vs h1 (⟨rfl,s',rfl,xr,hl⟩|⟨hx,hw⟩);.exact .inl ⟨rfl,ih _ (hn▸hl) s' h1 rfl xr⟩
   .exact .inr ⟨hx,hw⟩
 exact key _ s0 h rfl hi
end
section
variable{k l:IntKind}{s:Ah}
def I5{n:Nat}(hn:n<s.length):AH .VX [.str s,.int k (n:Int)]=some (.int .u8 (s[n].toNat:Int)):=by simp[hn]
def Dw{n:Nat}(hn:n<9223372036854775807):AH (.int .add) [.int .i64 (n:Int),.int .i64 1]=some (.int .i64 ((n+1:Nat):Int)):=by rw[sS,wrap_i64 Ab Ab];rfl
def N8{n:Nat}(h0:0<n)(hn:n<9223372036854775807):AH (.int .sub) [.int .i64 (n:Int),.int .i64 1]=some (.int .i64 ((n-1:Nat):Int)):=by rw[sT,wrap_i64 Ab Ab];congr 2;omega
def sV{a b z:Nat}(zd:a<=b)(hb:b<=s.length):AH (.Rb z true true true) [.str s,.int k (a:Int),.int l (b:Int)]=some (.str ((s.take b).drop a)):=by
 have e:EP (b:Int) s.length=some b:=by unfold EP;rw[Af Ab];rfl
 have d:EP (a:Int) b=some a:=by unfold EP;rw[Af Ab];rfl
 simp[AH,Jl,DY,e,d]
end
section
variable{z b:Nat}{r r2:List (List Aa)}{row:List Aa}{v v2:Aa}
def BB.aMX(h:BB z r v)(hb:(r.length+1)*b<=AV):AH (.append z b) [v,.sl z [row]]=some (.sl z (r++[row])):=by
 rcases h with rfl|⟨rfl,rfl⟩
 .simp[AH,IW,DZ,hb]
 .have:1*b<=AV:=by simpa using hb
  simp only[ER] at this;simp[AH,IW,DZ,this]
def BB.Mo(h:BB z r v)(h2:BB z r2 v2)(hb:(r.length+r2.length)*b<=AV):∃u,AH (.append z b) [v,v2]=some u/\BB z (r++r2) u:=by
 have hnil:∃u,DZ z b v []=some u/\BB z (r++[]) u:=by
  rcases h with rfl|⟨rfl,rfl⟩
  .exact⟨.sl z r,by simp[DZ],by rw[Bg];exact .mk⟩
  .exact⟨_,rfl,.nil⟩
 rcases h2 with rfl|⟨rfl,rfl⟩
 .cases r2 with
  |nil=>obtain⟨u,e,hu⟩:=hnil;exact⟨u,by simpa[AH,IW] using e,hu⟩
  |cons x l=>
   refine⟨.sl z (r++x::l),?_,.mk⟩;rcases h with rfl|⟨rfl,rfl⟩
   .simp only[AH,IW,BN,DZ];rw[Af ⟨trivial,hb⟩]
   .simp only[AH,IW,BN,DZ];rw[Af (by simpa using hb)];rfl
 .obtain⟨u,e,hu⟩:=hnil;exact⟨u,by simpa[AH,IW] using e,hu⟩
def BB.VY(h:BB z r v){hp:Ai}:LW hp v=some (hp,v):=by rcases h with rfl|⟨rfl,rfl⟩<;>rfl
def Yr(s:Ah):NF (C8 s)=some s:=by
 induction s with
 |nil=>rfl
 |cons c s ih=>have e:C8 (c::s)=[.int .u8 c.toNat]::C8 s:=rfl;rw[e,NF,ih];simp
def BB.ZM{s:Ah}(h:BB 1 (C8 s) v):AH .ZM [v]=some (.str s):=by
 rcases h with rfl|⟨rfl,h⟩
 .simp[AH,eE,Yr]
 .have e:s=[]:=by simpa[C8] using h
  subst e;rfl
end
@[simp] theorem xX {z:Nat} {args:List Aa}:AH (.CC z) args=if args.all (λa=>a.cells.length==z)&&decide (args.length*z<=16777216) then some (.sl z (args.map (·.cells))) else none:=rfl
def Ys{a:Aa}{z:Nat}(h:a.cells.length=z)(hz:z<=16777216):AH (.CC z) [a]=some (.sl z [a.cells]):=by simp[h,hz]
def wrap_u8{a:Int}(h:0<=a/\a<=255):IntKind.u8.wrap a=a:=IntWalk.u8_in a h
def ze{a:Int}(h: -2147483648<=a/\a<=2147483647):IntKind.i32.wrap a=a:=IntWalk.i32_in a h
def Ag{C:Gj}{f:FuncId}{args:List Aa}{h h':Ai}{r:Aa}:Cy C f args h r h'↔W C (Cd C f args) (λx vs h1=>x= .ret/\vs=[r]/\h1=h') h:=aGY
abbrev GM(C:Gj)(f:FuncId)(t:Aa->IT):Prop:=∀a0,Cd C f [a0]=t a0
abbrev F7(C:Gj)(f:FuncId)(t:Aa->Aa->IT):Prop:=∀a0 a1,Cd C f [a0,a1]=t a0 a1
abbrev SY(C:Gj)(f:FuncId)(t:Aa->Aa->Aa->IT):Prop:=∀a0 a1 a2,Cd C f [a0,a1,a2]=t a0 a1 a2
abbrev Tq4(C:Gj)(f:FuncId)(t:Aa->Aa->Aa->Aa->IT):Prop:=∀a0 a1 a2 a3,Cd C f [a0,a1,a2,a3]=t a0 a1 a2 a3
abbrev Tq5(C:Gj)(f:FuncId)(t:Aa->Aa->Aa->Aa->Aa->IT):Prop:=∀a0 a1 a2 a3 a4,Cd C f [a0,a1,a2,a3,a4]=t a0 a1 a2 a3 a4
def IT.fa(p:Aa)(k:Nat)(K:Aa->Aa->IT):IT:= .op .MW [p] λa=> .op (.Gr k) [a] λb=>K a b
def IT.Cj(p:Aa)(k:Nat)(K:Aa->Aa->Aa->IT):IT:= .op .MW [p] λa=> .op (.Gr k) [a] λb=> .load none b λc=>K a b c
def IT.fl(p:Aa)(k:Nat)(K:Aa->Aa->IT):IT:= .op (.Gr k) [p] λa=> .load none a λb=>K a b
def nx(A R:List Aa->IT):Gs->List Aa->IT:=λx c=>match x with
 | .normal=>A c
 | .exit _=> .fail
 | .ret=>R c
def lx(k:Nat)(A R:List Aa->IT):Gs->List Aa->IT:=λx c=>match x with
 | .normal=> .fail
 | .exit i=>if i=k then A c else .fail
 | .ret=>R c
section
variable{C:Gj}{Q:Lj}{h:Ai}{p:Aa}{k:Nat}{A R:List Aa->IT}{c:List Aa}
def aMY{K:Aa->Aa->IT}:W C (IT.fa p k K) Q h=W C (.op .MW [p] λa=> .op (.Gr k) [a] λb=>K a b) Q h:=rfl
def aIr{K:Aa->Aa->Aa->IT}:W C (IT.Cj p k K) Q h=W C (.op .MW [p] λa=> .op (.Gr k) [a] λb=> .load none b λc=>K a b c) Q h:=rfl
def aMZ{K:Aa->Aa->IT}:W C (IT.fl p k K) Q h=W C (.op (.Gr k) [p] λa=> .load none a λb=>K a b) Q h:=rfl
def aM0:nx A R .normal c=A c:=rfl
def aM1:nx A R .ret c=R c:=rfl
def aM2:lx k A R (.exit k) c=A c:=Af rfl
def aM3:lx k A R .ret c=R c:=rfl
end
def OA:Ah->Ah->List Ah
 |cur,[]=>[cur]
 |cur,c::r=>if c=32 then cur::OA [] r else OA (cur++[c]) r
def Tu:List Ah:=OA [] [97,100,100,114,101,115,115,32,97,112,112,108,101,116,32,97,114,101,97,32,97,114,116,105,99,108,101,32,97,115,105,100,101,32,98,97,115,101,32,98,97,115,101,102,111,110,116,32,98,103,115,111,117,110,100,32,98,108,111,99,107,113,117,111,116,101,32,98,111,100,121,32,98,114,32,98,117,116,116,111,110,32,99,97,112,116,105,111,110,32,99,101,110,116,101,114,32,99,111,108,32,99,111,108,103,114,111,117,112,32,100,100,32,100,101,116,97,105,108,115,32,100,105,114,32,100,105,118,32,100,108,32,100,116,32,101,109,98,101,100,32,102,105,101,108,100,115,101,116,32,102,105,103,99,97,112,116,105,111,110,32,102,105,103,117,114,101,32,102,111,111,116,101,114,32,102,111,114,109,32,102,114,97,109,101,32,102,114,97,109,101,115,101,116,32,104,49,32,104,50,32,104,51,32,104,52,32,104,53,32,104,54,32,104,101,97,100,32,104,101,97,100,101,114,32,104,103,114,111,117,112,32,104,114,32,104,116,109,108,32,105,102,114,97,109,101,32,105,109,103,32,105,110,112,117,116,32,107,101,121,103,101,110,32,108,105,32,108,105,110,107,32,108,105,115,116,105,110,103,32,109,97,105,110,32,109,97,114,113,117,101,101,32,109,101,110,117,32,109,101,116,97,32,110,97,118,32,110,111,101,109,98,101,100,32,110,111,102,114,97,109,101,115,32,110,111,115,99,114,105,112,116,32,111,98,106,101,99,116,32,111,108,32,112,32,112,97,114,97,109,32,112,108,97,105,110,116,101,120,116,32,112,114,101,32,115,99,114,105,112,116,32,115,101,97,114,99,104,32,115,101,99,116,105,111,110,32,115,101,108,101,99,116,32,115,111,117,114,99,101,32,115,116,121,108,101,32,115,117,109,109,97,114,121,32,116,97,98,108,101,32,116,98,111,100,121,32,116,100,32,116,101,109,112,108,97,116,101,32,116,101,120,116,97,114,101,97,32,116,102,111,111,116,32,116,104,32,116,104,101,97,100,32,116,105,116,108,101,32,116,114,32,116,114,97,99,107,32,117,108,32,119,98,114,32,120,109,112]
def swv(s:Aa)(t e:IT):List (List UInt8)->IT
 |[]=>e
 |c::cs=>.op (.str .eql) [s,.str c] λv=>.A3 v t (swv s t e cs)
abbrev IT.rr(l:List Aa):IT:=.ret .ret l
abbrev IT.rn(l:List Aa):IT:=.ret .normal l
abbrev IT.rx(n:Nat)(l:List Aa):IT:=.ret (.exit n) l
abbrev IT.ea(n:Nat)(l:List Aa)(k:Aa->IT):IT:=.op (.GY n) l k
abbrev IT.ld(p:Aa)(k:Aa->IT):IT:=.load none p k
abbrev IT.ie(l:List Aa)(k:Aa->IT):IT:=.op (.int .eql) l k
abbrev IT.iq(l:List Aa)(k:Aa->IT):IT:=.op (.int .neq) l k
abbrev IT.il(l:List Aa)(k:Aa->IT):IT:=.op (.int .lss) l k
abbrev IT.ig(l:List Aa)(k:Aa->IT):IT:=.op (.int .gtr) l k
abbrev IT.ia(l:List Aa)(k:Aa->IT):IT:=.op (.int .add) l k
abbrev IT.ib(l:List Aa)(k:Aa->IT):IT:=.op (.int .sub) l k
abbrev IT.ih(l:List Aa)(k:Aa->IT):IT:=.op (.int .geq) l k
abbrev IT.ik(l:List Aa)(k:Aa->IT):IT:=.op (.int .leq) l k
abbrev IT.se(l:List Aa)(k:Aa->IT):IT:=.op (.str .eql) l k
abbrev IT.ln(l:List Aa)(k:Aa->IT):IT:=.op (.len false) l k
abbrev IT.lt(l:List Aa)(k:Aa->IT):IT:=.op (.len true) l k
abbrev IT.nt(l:List Aa)(k:Aa->IT):IT:=.op (.un .not) l k
abbrev IT.ca(f:Nat)(l:List Aa)(k:Aa->IT):IT:=.call f l k
abbrev i0:Aa:=I 0
abbrev i1:Aa:=I 1
abbrev tu:Aa:=.tuple []
abbrev pn:Aa:=.ptr none
def a13(c:List Aa):Aa:=.agg [g c 0,g c 1,g c 2,g c 3,g c 4,g c 5,g c 6,g c 7,g c 8,g c 9,g c 10,g c 11,g c 12]
def a13_e{c:List Aa}:a13 c=.agg [g c 0,g c 1,g c 2,g c 3,g c 4,g c 5,g c 6,g c 7,g c 8,g c 9,g c 10,g c 11,g c 12]:=rfl
def GA(c:List Aa):Aa:=.agg [g c 0,g c 1,g c 2,g c 3,g c 4,g c 5,g c 6,g c 7,g c 8,g c 9,g c 10,g c 11]
def a12_e{c:List Aa}:GA c=.agg [g c 0,g c 1,g c 2,g c 3,g c 4,g c 5,g c 6,g c 7,g c 8,g c 9,g c 10,g c 11]:=rfl
def a9(c:List Aa):Aa:=.agg [g c 0,g c 1,g c 2,g c 3,g c 4,g c 5,g c 6,g c 7,g c 8]
def a9_e{c:List Aa}:a9 c=.agg [g c 0,g c 1,g c 2,g c 3,g c 4,g c 5,g c 6,g c 7,g c 8]:=rfl
def a6(c:List Aa):Aa:=.agg [g c 0,g c 1,g c 2,g c 3,g c 4,g c 5]
def a6_e{c:List Aa}:a6 c=.agg [g c 0,g c 1,g c 2,g c 3,g c 4,g c 5]:=rfl
def a4(c:List Aa):Aa:=.agg [g c 0,g c 1,g c 2,g c 3]
def a4_e{c:List Aa}:a4 c=.agg [g c 0,g c 1,g c 2,g c 3]:=rfl
def a3(c:List Aa):Aa:=.agg [g c 0,g c 1,g c 2]
def a3_e{c:List Aa}:a3 c=.agg [g c 0,g c 1,g c 2]:=rfl
def ai{a b:Prop}(x:a)(y:b):a/\b:=⟨x,y⟩
def Cx:=ai @a13_e (ai @a12_e (ai @a9_e (ai @a6_e (ai @a4_e (ai @a3_e (ai @aMY (ai @aIr (ai @aMZ (ai @aM0 (ai @aM1 (ai @aM2 (ai @aM3 (ai @M9 (ai @nA (ai @cE (ai @Yf (ai @Yg (ai @cC (ai @Yd (ai @Ye (ai @QA (ai @Oy (ai @Yh (ai @VD (ai @VE (ai @cF (ai @VF (ai @Yi (ai @RX (ai @cG (ai @VG (ai @QB (ai @Sp (ai @Yj (ai @Yk (ai @NO (ai @Fv (ai @aDC (ai @aDD (ai @aDE (ai @aDF (ai @aDG (ai @aDH (ai @aDI (ai @xW (ai @ų (ai @Ŵ (ai @fR (ai @fS (ai @aDJ (ai @Z0 (ai @Ym (ai @Yn (ai @Z3 (ai @fU (ai @oc (ai @od (ai @oe (ai @aDK (ai @zb (ai @Po (ai @I4 (ai @NP (ai @aZ.{0} (ai @aLX.{0} (ai @Ji.{0} (ai @Ud.{0} (ai @FO.{0} (ai @LI.{0} (ai @List.drop_nil.{0} (ai @Q6.{0} (ai @LD.{0} (ai @AK.{0} (ai @AW.{0} (ai @B8.{0} (ai @BA.{0} (ai @aQh.{0,0} (ai @List.zip_nil_right.{0,0} (ai @BV.{0,0} (ai @Option.map_none.{0,0} (ai @BE (ai @Rm (ai @cH (ai @Rn (ai @Yo (ai @cI (ai @Yp (ai @VH (ai @nI (ai @cJ (ai @Yq (ai @p9 (ai @Jh (ai @OX (ai @BN.{1} (ai @DP.{1} (ai @Z4 (@fW))))))))))))))))))))))))))))))))))))))))))))))))))))))))))))))))))))))))))))))))))))))))))))))))))
def fX:=ai @Iq.{0} (ai @beq_self_eq_true.{0} (ai @SS (ai @Bool.bne_false (ai @Bool.not_true (ai @Q8 (ai @A0 (ai @A5 (ai @AU (ai @AN (ai @By (ai @Nat.zero_lt_succ (ai @BV.{0,0} (@List.take_nil.{0})))))))))))))
def abS:=ai Cx fX
def aaS:type_of%@A6.{0}:=@A6.{0}
def Wi:=ai @KZ (ai @Ir (ai @Bool.and_true (ai @eC (ai @Ĳ (ai @ZF (ai @Bool.or_true (ai @Qf (ai @SR (ai @J4 (ai @Fq.{0} (ai @aQk.{0} (ai @wE.{0} (ai @Option.isSome_none.{0} (ai @BN.{1} (ai @DP.{1} (ai @Cb (ai @Jh (ai @and_false (ai @OX (ai @wF (ai @aBw (@DH))))))))))))))))))))))
abbrev Pt(i o:Nat):Aa:=.ptr (some (i,o))
end Go.Am
end
