/- Lemmas -/
import Derived.Test.YtdejbjapknkdnaaGreatDoorV1
import Derived.IntWalk
set_option linter.all false
section
namespace Go.Am
open Go
section
variable{C:FT}{Q:KE}{h:Ae}
def bB{x:F6}{vs:List Aa}:W C (.ret x vs) Q h↔Q x vs h:=by refine⟨λhw=>?_,aAS⟩;obtain⟨n,x',H7,h',hr,q⟩:=hw.succ;simp only[IT.step,Bx,Hq] at hr;obtain⟨rfl,rfl,rfl⟩:=hr;exact q
def XU:W C .fail Q h↔False:=by refine⟨λhw=>?_,λh=>h.elim⟩;obtain⟨n,x',H7,h',hr,q⟩:=hw.succ;simp[IT.step] at hr
def bC{Z:Type}(o:Option Z)(f:Z->Prop):Prop:=∃v,o=some v/\f v
def kb{Z:Type}{o o':Option Z}{f:Z->Prop}(h:o=o'):bC o f=bC o' f:=by rw[h]
def LC{Z:Type}{v:Z}{f:Z->Prop}:bC (some v) f=f v:=propext (by
 constructor;.rintro⟨_,e,h⟩;cases e;exact h
 .intro h;exact⟨v,rfl,h⟩)
def lP{Z:Type}{f:Z->Prop}:bC (none:Option Z) f=False:=propext (by
 constructor;.rintro⟨_,e,_⟩;cases e
 .exact False.elim)
def XV{o:Zf}{args:List Aa}{k:Aa->IT}:W C (.op o args k) Q h↔bC (Az o args) λv=>W C (k v) Q h:=by
 refine⟨λhw=>?_,λ⟨v,d,hw⟩=>aGT d hw⟩;obtain⟨n,x',H7,h',hr,q⟩:=hw.succ;simp only[IT.step] at hr;split at hr;.rename_i v d;exact⟨v,d,CS ⟨n,x',H7,h',hr,q⟩⟩
 .cases hr
def Qd{n:Nat}{v:Aa}{k:List Aa->IT}:W C (.cells n v k) Q h↔bC (if v.cells.length=n then some v.cells else none) λl=>W C (k l) Q h:=by
 constructor
 .intro hw;obtain⟨m,x',H7,h',hr,q⟩:=hw.succ;simp only[IT.step] at hr;split at hr;.rename_i d;exact⟨_,if_pos d,CS ⟨m,x',H7,h',hr,q⟩⟩
  .cases hr
 .rintro⟨l,e,hw⟩;split at e;.rename_i d;cases e;exact vH d hw
  .cases e
def ZB(v:Aa)(p q:Prop):Prop:=(v= .bool true/\p)\/(v= .bool false/\q)
def qV{v v':Aa}{p q:Prop}(h:v=v'):ZB v p q=ZB v' p q:=by rw[h]
def Uw{p q:Prop}:ZB (.bool true) p q=p:=by simp[ZB]
def Sc{p q:Prop}:ZB (.bool false) p q=q:=by simp[ZB]
def Dr{b:Bool}{p q:Prop}:ZB (.bool b) p q↔(b=true->p)/\(b=false->q):=by cases b<;>simp[ZB]
def XW{c:Prop}[Decidable c]{p q:Prop}:ZB (.bool (decide c)) p q↔(c->p)/\(¬c->q):=by rw[Dr];simp
def Oe{c:Aa}{t e:IT}:W C (.AJ c t e) Q h↔ZB c (W C t Q h) (W C e Q h):=by
 constructor
 .intro hw;obtain⟨m,x',H7,h',hr,q⟩:=hw.succ;simp only[IT.step] at hr;split at hr;.exact .inl ⟨rfl,CS ⟨m,x',H7,h',hr,q⟩⟩
  .exact .inr ⟨rfl,CS ⟨m,x',H7,h',hr,q⟩⟩
  .cases hr
 .rintro(⟨rfl,hw⟩|⟨rfl,hw⟩);.exact vI (λ_=>hw) λh=>by cases h
  .exact vI (λh=>by cases h) λ_=>hw
def XX{n:Option Nat}{p:Aa}{k:Aa->IT}:W C (.load n p k) Q h↔bC (Bg h n p) λv=>W C (k v) Q h:=by
 refine⟨λhw=>?_,λ⟨v,d,hw⟩=>sr d hw⟩;obtain⟨m,x',H7,h',hr,q⟩:=hw.succ;simp only[IT.step] at hr;split at hr;.rename_i v d;exact⟨v,d,CS ⟨m,x',H7,h',hr,q⟩⟩
 .cases hr
def Vy{n:Nat}{p v:Aa}{k:IT}:W C (.store n p v k) Q h↔bC (CR h n p v) λh1=>W C k Q h1:=by
 refine⟨λhw=>?_,λ⟨v,d,hw⟩=>vJ d hw⟩;obtain⟨m,x',H7,h',hr,q⟩:=hw.succ;simp only[IT.step] at hr;split at hr;.rename_i h1 d;exact⟨h1,d,CS ⟨m,x',H7,h',hr,q⟩⟩
 .cases hr
def Vz{n:Nat}{v:Aa}{k:Aa->IT}:W C (.alloc n v k) Q h↔bC (if v.cells.length=n then some v.cells else none) λl=>W C (k (.ptr (some (h.length,0)))) Q (h++[.cells l]):=by
 constructor
 .intro hw;obtain⟨m,x',H7,h',hr,q⟩:=hw.succ;simp only[IT.step,WZ] at hr;by_cases d:v.cells.length=n;.rw[if_pos d] at hr;exact⟨_,if_pos d,CS ⟨m,x',H7,h',hr,q⟩⟩
  .rw[if_neg d] at hr;cases hr
 .rintro⟨l,e,hw⟩;split at e;.rename_i d;cases e;exact vK d hw
  .cases e
def bD{u:Aa}{k:Aa->IT}:W C (.VR u k) Q h↔bC (Lt h u) λx=>W C (k x.2) Q x.1:=by
 refine⟨λhw=>?_,λ⟨(h1,v),d,hw⟩=>aAT d hw⟩;obtain⟨m,x',H7,h',hr,q⟩:=hw.succ;simp only[IT.step] at hr;split at hr;.rename_i h1 v d;exact⟨(h1,v),d,CS ⟨m,x',H7,h',hr,q⟩⟩
 .cases hr
def VA{off:Nat}{p:Aa}{k:IT}:W C (.IC off p k) Q h↔bC (KQ h off p) λh1=>W C k Q h1:=by
 refine⟨λhw=>?_,λ⟨h1,d,hw⟩=>vM d hw⟩;obtain⟨m,x',H7,h',hr,q⟩:=hw.succ;simp only[IT.step] at hr;split at hr;.rename_i h1 d;exact⟨h1,d,CS ⟨m,x',H7,h',hr,q⟩⟩
 .cases hr
def VB{size bytes:Nat}{s x:Aa}{k:Aa->IT}:W C (.JS size bytes s x k) Q h↔bC (KP h size bytes s x) λx=>W C (k x.2) Q x.1:=by
 refine⟨λhw=>?_,λ⟨(h1,v),d,hw⟩=>vL d hw⟩;obtain⟨m,x',H7,h',hr,q⟩:=hw.succ;simp only[IT.step] at hr;split at hr;.rename_i h1 v d;exact⟨(h1,v),d,CS ⟨m,x',H7,h',hr,q⟩⟩
 .cases hr
def XY{size bytes:Nat}{s x:Aa}{k:Aa->IT}:W C (.F8 size bytes s x k) Q h↔bC (Gt h size bytes s x) λx=>W C (k x.2) Q x.1:=by
 refine⟨λhw=>?_,λ⟨(h1,v),d,hw⟩=>ta d hw⟩;obtain⟨m,x,H7,h',hr,q⟩:=hw.succ;simp only[IT.step] at hr;split at hr;.rename_i h1 v d;exact⟨(h1,v),d,CS ⟨m,x,H7,h',hr,q⟩⟩
 .cases hr
def RK{size bytes:Nat}{s x:Aa}{k:Aa->IT}:W C (.Gn size bytes s x k) Q h↔bC (Rz h size bytes s x) λv=>W C (k v) Q h:=by
 refine⟨λhw=>?_,λ⟨v,d,hw⟩=>aB d hw⟩;obtain⟨m,x,H7,h',hr,q⟩:=hw.succ;simp only[IT.step] at hr;split at hr;.rename_i v d;exact⟨v,d,CS ⟨m,x,H7,h',hr,q⟩⟩
 .cases hr
def bE{o:r_}{args:List Aa}{k:Aa->IT}:W C (.mem o args k) Q h↔bC (D5 o h args) λx=>W C (k x.2) Q x.1:=by
 refine⟨λhw=>?_,λ⟨(h1,v),d,hw⟩=>aAU d hw⟩;obtain⟨n,x,vs,h',hr,q⟩:=hw.succ;simp only[IT.step] at hr;split at hr;.rename_i h1 v d;exact⟨(h1,v),d,CS ⟨n,x,vs,h',hr,q⟩⟩
 .cases hr
def Qe{s:Aa}{k:Aa->IT}:W C (.E0 s k) Q h↔bC (I1 h s) λx=>W C (k x.2) Q x.1:=by
 refine⟨λhw=>?_,λ⟨(h1,v),d,hw⟩=>Xi d hw⟩;obtain⟨m,x',H7,h',hr,q⟩:=hw.succ;simp only[IT.step] at hr;split at hr;.rename_i h1 v d;exact⟨(h1,v),d,CS ⟨m,x',H7,h',hr,q⟩⟩
 .cases hr
def Sd{k:Aa->IT}:W C (.NY k) Q h↔W C (k (.map (some h.length))) Q (h++[.map []]):=by refine⟨λhw=>?_,sx⟩;obtain⟨m,x',H7,h',hr,q⟩:=hw.succ;exact CS ⟨m,x',H7,h',hr,q⟩
def XZ{m key v:Aa}{k:IT}:W C (.H6 m key v k) Q h↔bC (Ry h m key v) λh1=>W C k Q h1:=by
 refine⟨λhw=>?_,λ⟨h1,d,hw⟩=>sy d hw⟩;obtain⟨m,x',H7,h',hr,q⟩:=hw.succ;simp only[IT.step] at hr;split at hr;.rename_i h1 d;exact⟨h1,d,CS ⟨m,x',H7,h',hr,q⟩⟩
 .cases hr
def X0{z:Aa}{ok:Bool}{m key:Aa}{k:Aa->IT}:W C (.MB z ok m key k) Q h↔bC (Po h z ok m key) λv=>W C (k v) Q h:=by
 refine⟨λhw=>?_,λ⟨h1,d,hw⟩=>s_ d hw⟩;obtain⟨m,x',H7,h',hr,q⟩:=hw.succ;simp only[IT.step] at hr;split at hr;.rename_i h1 d;exact⟨h1,d,CS ⟨m,x',H7,h',hr,q⟩⟩
 .cases hr
def Nv{g:Aa}{args:List Aa}{k:Aa->IT}:W C (.El g args k) Q h↔bC (CD g args) λx=>W C (.call x.1 x.2 k) Q h:=by
 constructor
 .intro hw;obtain⟨m,x',H7,h',hr,q⟩:=hw.succ;simp only[IT.step] at hr;split at hr;.rename_i f as e;refine⟨(f,as),e,CS ⟨m,x',H7,h',?_,q⟩⟩;simp only[IT.step];exact hr
  .cases hr
 .rintro⟨⟨f,as⟩,e,hw⟩;obtain⟨m,x',H7,h',hr,q⟩:=hw.succ;refine CS ⟨m,x',H7,h',?_,q⟩;simp only[IT.step,e] at hr⊢;exact hr
def E9{key:Nat}{t:IT}{k:F6->List Aa->IT}:W C (.Gp key t k) Q h↔W C t (λx vs h1=>W C (k x vs) Q h1) h:=by
 refine⟨λhw=>?_,td⟩;obtain⟨m,x',H7,h',hr,q⟩:=hw.succ;simp only[IT.step] at hr;split at hr;.rename_i x vs h1 e;exact CS ⟨m,_,_,_,e,CS ⟨m,x',H7,h',hr,q⟩⟩
 .cases hr
def Cj(C:FT)(f:FuncId)(args:List Aa)(h:Ae)(r:Aa)(h':Ae):Prop:=W C (B7 C f args) (λx vs h1=>x= .ret/\vs=[r]/\h1=h') h
def Cj.ev{f:FuncId}{args:List Aa}{r:Aa}{h':Ae}(hr:Cj C f args h r h'){R:Aa->Ae->Prop}(hR:R r h'):Ev C f args h R:=
 W.mono hr λ_ _ _ ⟨h1,h2,h3⟩=>⟨h1,r,h2,by rw[h3];exact hR⟩
def Cj.call{f:FuncId}{args:List Aa}{r:Aa}{h':Ae}(hr:Cj C f args h r h'){k:Aa->IT}:W C (.call f args k) Q h↔W C (k r) Q h':=by
 refine⟨λhw=>?_,λhw=>tc (hr.ev hw)⟩;obtain⟨n,j,i,h1,g,rfl,rfl,rfl⟩:=hr;obtain⟨m,x',H7,h2,d,q⟩:=hw.succ;simp only[IT.step] at d;split at d;.rename_i r2 h3 e;simp only[FT.run] at g e;have a1:=IT.Ij (HZ n m) g;have a2:=IT.Ij (Ht n m) e;rw[a1] at a2;cases a2;exact CS ⟨m,x',H7,h2,d,q⟩
 .cases d
def L4(C:FT)(f:FuncId)(args:List Aa)(r:Aa):Prop:=Ev C f args [] λx _=>x=r
def L4.AQ{f:FuncId}{args:List Aa}{r:Aa}(hr:L4 C f args r)(ha:args.all Aa.Nh=true)(hf:r.Nh=true){k:Aa->IT}:W C (.AQ f args k) Q h↔W C (k r) Q h:=by
 refine⟨λhw=>?_,λhw=>đ ha (hr.mono λx _ e=>by rw[e];exact⟨hf,hw⟩)⟩;obtain⟨n,j,i,h1,g,rfl,y,rfl,rfl⟩:=hr;obtain⟨m,x',H7,h2,d,q⟩:=hw.succ;simp only[IT.step,ha,BM] at d;simp only[FT.run] at g d;have a1:=IT.Ij (HZ n m) g;cases hc:IT.run (B7 C) m (B7 C f args) [] with
 |none=>rw[hc] at d;cases d
 |some z=>have a2:=IT.Ij (Ht n m) hc;rw[a1] at a2;cases a2;rw[hc] at d;simp only[hf,BM] at d;exact CS ⟨m,x',H7,h2,d,q⟩
end
def Ĺ{C:FT}{t t':IT}{Q:KE}{h h':Ae}(e:t=t')(d:h=h'):W C t Q h=W C t' Q h':=by rw[e,d]
def wj{o:Zf}{args args':List Aa}{k:Aa->IT}(e:args=args'):IT.op o args k=IT.op o args' k:=by rw[e]
def lQ{n:Nat}{v v':Aa}{k:List Aa->IT}(e:v=v'):IT.cells n v k=IT.cells n v' k:=by rw[e]
def ke{v v':Aa}{s t:IT}(e:v=v'):IT.AJ v s t=IT.AJ v' s t:=by rw[e]
def qW{n:Option Nat}{v v':Aa}{k:Aa->IT}(e:v=v'):IT.load n v k=IT.load n v' k:=by rw[e]
def lR{n:Nat}{p p' v v':Aa}{k:IT}(d:p=p')(e:v=v'):IT.store n p v k=IT.store n p' v' k:=by rw[e,d]
def lS{n:Nat}{v v':Aa}{k:Aa->IT}(e:v=v'):IT.alloc n v k=IT.alloc n v' k:=by rw[e]
def qX{f:FuncId}{args args':List Aa}{k:Aa->IT}(e:args=args'):IT.call f args k=IT.call f args' k:=by rw[e]
def lT{f:FuncId}{args args':List Aa}{k:Aa->IT}(e:args=args'):IT.AQ f args k=IT.AQ f args' k:=by rw[e]
def lU{f f':Aa}{args args':List Aa}{k:Aa->IT}(d:f=f')(e:args=args'):IT.El f args k=IT.El f' args' k:=by rw[e,d]
def qY{key:Nat}{i d:List Aa}{b:List Aa->IT}{k:F6->List Aa->IT}(e:i=d):IT.loop key i b k=IT.loop key d b k:=by rw[e]
def qZ{key:Nat}{b:IT}{k:F6->List Aa->IT}:IT.Gp key b k=IT.Gp key b k:=rfl
def kg{v v':Aa}{k:Aa->IT}(e:v=v'):IT.VR v k=IT.VR v' k:=by rw[e]
def lV{size bytes:Nat}{s s' x x':Aa}{k:Aa->IT}(e:s=s')(d:x=x'):IT.JS size bytes s x k=IT.JS size bytes s' x' k:=by rw[e,d]
def rA{size bytes:Nat}{s s' x x':Aa}{k:Aa->IT}(e:s=s')(d:x=x'):IT.F8 size bytes s x k=IT.F8 size bytes s' x' k:=by rw[e,d]
def kh{o:r_}{args args':List Aa}{k:Aa->IT}(e:args=args'):IT.mem o args k=IT.mem o args' k:=by rw[e]
def ZC{size bytes:Nat}{s s' x x':Aa}{k:Aa->IT}(e:s=s')(d:x=x'):IT.Gn size bytes s x k=IT.Gn size bytes s' x' k:=by rw[e,d]
def lW{off:Nat}{p p':Aa}{k:IT}(e:p=p'):IT.IC off p k=IT.IC off p' k:=by rw[e]
def X1{s s':Aa}{k:Aa->IT}(e:s=s'):IT.E0 s k=IT.E0 s' k:=by rw[e]
def rB{m m' key key' v v':Aa}{k:IT}(e:m=m')(f:key=key')(d:v=v'):IT.H6 m key v k=IT.H6 m' key' v' k:=by rw[e,f,d]
def rC{z:Aa}{ok:Bool}{m m' key key':Aa}{k:Aa->IT}(e:m=m')(d:key=key'):IT.MB z ok m key k=IT.MB z ok m' key' k:=by rw[e,d]
attribute [congr] kb qV Ĺ wj lQ ke qW lR lS qX lT lU qY qZ kg lW rA ZC kh lV X1 rB rC
attribute [simp] LC lP Uw Sc XW Dr bB XU XV Qd Oe XX Vy Vz bD VA XY RK bE VB Qe Sd XZ X0 Nv E9
section
variable{k:IntKind}{a b:Int}{s t:Ad}
@[simp] theorem aCT:Az (.int .eql) [.int k a,.int k b]=some (.bool (decide (a=b))):=by cases k<;>rfl
@[simp] theorem aCU:Az (.int .neq) [.int k a,.int k b]=some (.bool (decide (a≠b))):=by
 have e:Az (.int .neq) [.int k a,.int k b]=some (.bool (!(a==b))):=by cases k<;>rfl
 rw[e];by_cases h:a=b<;>simp[h]
@[simp] theorem aCV:Az (.int .lss) [.int k a,.int k b]=some (.bool (decide (a<b))):=by cases k<;>rfl
@[simp] theorem aCW:Az (.int .leq) [.int k a,.int k b]=some (.bool (decide (a<=b))):=by cases k<;>rfl
@[simp] theorem aCX:Az (.int .gtr) [.int k a,.int k b]=some (.bool (decide (b<a))):=by cases k<;>rfl
@[simp] theorem aCY:Az (.int .geq) [.int k a,.int k b]=some (.bool (decide (b<=a))):=by cases k<;>rfl
def rD:Az (.int .add) [.int k a,.int k b]=some (.int k (k.wrap (a+b))):=by cases k<;>rfl
def rE:Az (.int .sub) [.int k a,.int k b]=some (.int k (k.wrap (a-b))):=by cases k<;>rfl
@[simp] theorem aCZ {b:Bool}:Az (.un .not) [.bool b]=some (.bool (!b)):=rfl
@[simp] theorem wI:Az (.str .eql) [.str s,.str t]=some (.bool (decide (s=t))):=by
 show some (Aa.bool (s==t))=_;congr 2
 by_cases h:s=t<;>simp[h]
@[simp] theorem ĺ:Az (.str .neq) [.str s,.str t]=some (.bool (decide (s≠t))):=by
 show some (Aa.bool (!(s==t)))=_;congr 2
 by_cases h:s=t<;>simp[h]
@[simp] theorem Ļ:Az (.len true) [.str s]=some (.int .i64 s.length):=rfl
@[simp] theorem aKE {i:Int}:Az .SN [.str s,.int k i]=if 0<=i then(s[i.toNat]?).map λb=> .int .u8 b.toNat else none:=rfl
@[simp] theorem eC {off:Nat} {cs:List Aa}:Az (.part off none) [.agg cs]=cs[off]?:=rfl
@[simp] theorem eD {off n:Nat} {cs:List Aa}:Az (.part off (some n)) [.agg cs]=if off+n<=cs.length then some (.agg ((cs.drop off).take n)) else none:=rfl
@[simp] theorem aC0 {i:Nat} {vs:List Aa}:Az (.ext i) [.tuple vs]=vs[i]?:=rfl
@[simp] theorem ZD {p:Nat×Nat}:Az .My [.ptr (some p)]=some (.ptr (some p)):=rfl
@[simp] theorem X2 {cs:List Aa}:Az .My [.B4 cs]=some (.B4 cs):=rfl
@[simp] theorem X3 {f:FuncId} {a b:List Aa}:Az .My [.func (.func f) a b]=some (.func (.func f) a b):=rfl
@[simp] theorem ZE {off:Nat} {cs:List Aa}:Az (.FN off) [.B4 cs]=some (.B4 (cs.drop off)):=rfl
@[simp] theorem eE {off id o:Nat}:Az (.FN off) [.ptr (some (id,o))]=some (.ptr (some (id,o+off))):=rfl
@[simp] theorem ki {neg:Bool}:Az (.Ud neg) [.ptr none,.ptr none]=some (.bool (true != neg)):=rfl
@[simp] theorem kj {neg:Bool} {p:Nat×Nat}:Az (.Ud neg) [.ptr (some p),.ptr none]=some (.bool (false != neg)):=rfl
@[simp] theorem kq {neg:Bool} {p:Nat×Nat}:Az (.Ud neg) [.ptr none,.ptr (some p)]=some (.bool (false != neg)):=rfl
@[simp] theorem aC1 {neg a b:Bool}:Az (.beq neg) [.bool a,.bool b]=some (.bool ((a==b) != neg)):=rfl
@[simp] theorem aKF {c:Bool} {a b:Aa}:Az .pick [.bool c,a,b]=some (if c then a else b):=rfl
@[simp] theorem Wy {l:IntKind}:Az (.conv l) [.int k a]=some (.int l (l.wrap a)):=rfl
@[simp] theorem wk {zero args:List Aa} {places:List (Nat×Nat)}:Az (.CT zero places) args=if places.length=args.length then(B6 zero (places.zip args)).map .agg else none:=rfl
@[simp] theorem X4 {neg:Bool} {ks:List FK} {x y:List Aa}:Az (.geq neg ks) [.agg x,.agg y]=(D9 ks x y).map λe=> .bool (e != neg):=rfl
@[simp] theorem wm:Az (.L0 false) [.int k a,.int k b]=some (.int k (if b<a then b else a)):=by simp[Az]
@[simp] theorem eF:Az (.L0 true) [.int k a,.int k b]=some (.int k (if a<b then b else a)):=by simp[Az]
@[simp] theorem OV {h:Ae} {n:Option Nat} {cs:List Aa}:Bg h n (.B4 cs)=Fg cs 0 n:=rfl
@[simp] theorem FQ {off:Nat} {cs:List Aa}:Fg cs off none=cs[off]?:=rfl
@[simp] theorem Nw {off n:Nat} {cs:List Aa}:Fg cs off (some n)=if off+n<=cs.length then some (.agg ((cs.drop off).take n)) else none:=rfl
@[simp] theorem wrap_i64 (h1: -9223372036854775808<=a) (h2:a<9223372036854775808):IntKind.i64.wrap a=a:=by rw[IntKind.wrap_i64];omega
end
def Q2{cs:List Aa}:Aa.cells (.agg cs)=cs:=rfl
def bF{k:IntKind}{n:Int}:Aa.cells (.int k n)=[.int k n]:=rfl
def Q3{s:Ad}:Aa.cells (.str s)=[.str s]:=rfl
def X5{b:Bool}:Aa.cells (.bool b)=[.bool b]:=rfl
def bG{p:Option (Nat×Nat)}:Aa.cells (.ptr p)=[.ptr p]:=rfl
def X6{p:List Aa}:Aa.cells (.B4 p)=[.B4 p]:=rfl
def VC:Aa.cells .slnil=[.slnil]:=rfl
def lX{z:Nat}{r:List (List Aa)}:Aa.cells (.sl z r)=[.sl z r]:=rfl
def bH{i o l z:Nat}:Aa.cells (.C7 i o l z)=[.C7 i o l z]:=rfl
def X7{f:Fn}{a b:List Aa}:Aa.cells (.func f a b)=[.func f a b]:=rfl
attribute [simp] B6 D9 Mz CD Q2 bF Q3 X5 bG X6 VC lX bH X7
def Br(z:Nat)(As:List (List Aa))(v:Aa):Prop:=v= .sl z As\/(v= .slnil/\As=[])
section
variable{z:Nat}{As:List (List Aa)}{v:Aa}
def Br.mk:Br z As (.sl z As):= .inl rfl
def Br.nil:Br z [] .slnil:= .inr ⟨rfl,rfl⟩
def Br.cells(h:Br z As v):v.cells=[v]:=by rcases h with rfl|⟨rfl,rfl⟩<;>rfl
def Br.len(h:Br z As v):Az (.len false) [v]=some (.int .i64 As.length):=by rcases h with rfl|⟨rfl,rfl⟩<;>rfl
def Br.F0(h:Br z As v){k:IntKind}{n:Nat}(hn:n<As.length):Az (.F0 z) [v,.int k (n:Int)]=some (.B4 As[n]):=by
 rcases h with rfl|⟨rfl,rfl⟩
 .simp[Az,elemOf,hn]
 .simp at hn
end
end Go.Am
end
section
namespace Go.Am
open Go
section
variable{C:FT}{Q:KE}{h:Ae}
def Qf{key:Nat}{vs:List Aa}{body:List Aa->IT}{k:F6->List Aa->IT}
  (hw:W C (body vs) (λx d h1=>(x= .normal/\W C (.loop key d body k) Q h1)\/(x≠ .normal/\W C (k x d) Q h1)) h):W C (.loop key vs body k) Q h:=by
 obtain⟨m,x,d,h1,hr,I9⟩:=hw.succ;rcases I9 with⟨rfl,hw⟩|⟨hx,hw⟩
 .obtain⟨m',x',H7,h',HM,q⟩:=hw;refine CS ⟨max m m',x',H7,h',?_,q⟩;have f:=IT.JT (λt h r=>IT.Ij (fn:=B7 C) (HZ m m')) _ _ _ hr;have e:=IT.Ij (Ht m m') HM;simp only[IT.step];simp only[FT.run] at*;rw[f];exact e
 .obtain⟨m',x',H7,h',HM,q⟩:=hw.succ;refine CS ⟨max m m',x',H7,h',?_,q⟩;have f:=IT.JT (λt h r=>IT.Ij (fn:=B7 C) (HZ m m')) _ _ _ hr;have e:=IT.JT (λt h r=>IT.Ij (fn:=B7 C) (Ht m m')) _ _ _ HM;simp only[IT.step];simp only[FT.run] at*;rw[f];cases x<;>first|exact absurd rfl hx|exact e
def Bk{U:Type}(C:FT)(enc:U->List Aa)(DV:U->Ae->Prop)(O:U->Nat)(k:F6->List Aa->IT)(Q:KE)(s:U):KE:=
 λx vs h1=>(x= .normal/\∃s',vs=enc s'/\DV s' h1/\O s'<O s)\/(x≠ .normal/\W C (k x vs) Q h1)
variable{U:Type}{enc:U->List Aa}{DV:U->Ae->Prop}{O:U->Nat}{k:F6->List Aa->IT}{s:U}{vs:List Aa}
def Bk.next(s':U)(e:vs=enc s')(hi:DV s' h)(hl:O s'<O s):Bk C enc DV O k Q s .normal vs h:= .inl ⟨rfl,s',e,hi,hl⟩
def ZF{i:Nat}:Bk C enc DV O k Q s (.exit i) vs h↔W C (k (.exit i) vs) Q h:=by simp[Bk]
def eH:Bk C enc DV O k Q s .ret vs h↔W C (k .ret vs) Q h:=by simp[Bk]
def BO{key:Nat}{init:List Aa}{body:List Aa->IT}(enc:U->List Aa)(DV:U->Ae->Prop)(O:U->Nat)(s0:U)(h0:init=enc s0)(hi:DV s0 h)
  (round:∀s h,DV s h->W C (body (enc s)) (Bk C enc DV O k Q s) h):W C (.loop key init body k) Q h:=by
 subst h0;have key:∀n s h,O s=n->DV s h->W C (.loop key (enc s) body k) Q h:=by
  intro n;induction n using Nat.strongRecOn with
  |_ n ih=>
   intro s h hn d;refine Qf (W.mono (round s h d) ?_);rintro x vs h1 (⟨rfl,s',rfl,uv,hl⟩|⟨hx,hw⟩);.exact .inl ⟨rfl,ih _ (hn▸hl) s' h1 rfl uv⟩
   .exact .inr ⟨hx,hw⟩
 exact key _ s0 h rfl hi
end
section
variable{k l:IntKind}{s:Ad}
def GH{n:Nat}(hn:n<s.length):Az .SN [.str s,.int k (n:Int)]=some (.int .u8 (s[n].toNat:Int)):=by simp[hn]
def CI{n:Nat}(hn:n<9223372036854775807):Az (.int .add) [.int .i64 (n:Int),.int .i64 1]=some (.int .i64 ((n+1:Nat):Int)):=by rw[rD,wrap_i64 (by omega) (by omega)];rfl
def NN{n:Nat}(h0:0<n)(hn:n<9223372036854775807):Az (.int .sub) [.int .i64 (n:Int),.int .i64 1]=some (.int .i64 ((n-1:Nat):Int)):=by rw[rE,wrap_i64 (by omega) (by omega)];congr 2;omega
def Se{a b z:Nat}(lY:a<=b)(hb:b<=s.length):Az (.PQ z true true true) [.str s,.int k (a:Int),.int l (b:Int)]=some (.str ((s.take b).drop a)):=by
 have e:Ex (b:Int) s.length=some b:=by unfold Ex;rw[if_pos (by omega)];rfl
 have d:Ex (a:Int) b=some a:=by unfold Ex;rw[if_pos (by omega)];rfl
 simp[Az,I0,DI,e,d]
end
section
variable{z b:Nat}{r r2:List (List Aa)}{row:List Aa}{v v2:Aa}
def Br.aMk(h:Br z r v)(hb:(r.length+1)*b<=AN):Az (.append z b) [v,.sl z [row]]=some (.sl z (r++[row])):=by
 rcases h with rfl|⟨rfl,rfl⟩
 .simp[Az,IB,DJ,hb]
 .have:1*b<=AN:=by simpa using hb
  simp only[Ez] at this;simp[Az,IB,DJ,this]
def Br.J9(h:Br z r v)(h2:Br z r2 v2)(hb:(r.length+r2.length)*b<=AN):∃u,Az (.append z b) [v,v2]=some u/\Br z (r++r2) u:=by
 have hnil:∃u,DJ z b v []=some u/\Br z (r++[]) u:=by
  rcases h with rfl|⟨rfl,rfl⟩
  .exact⟨.sl z r,by simp[DJ],by rw[A8];exact .mk⟩
  .exact⟨_,rfl,.nil⟩
 rcases h2 with rfl|⟨rfl,rfl⟩
 .cases r2 with
  |nil=>obtain⟨u,e,hu⟩:=hnil;exact⟨u,by simpa[Az,IB] using e,hu⟩
  |cons x l=>
   refine⟨.sl z (r++x::l),?_,.mk⟩;rcases h with rfl|⟨rfl,rfl⟩
   .simp only[Az,IB,BM,DJ];rw[if_pos ⟨trivial,hb⟩]
   .simp only[Az,IB,BM,DJ];rw[if_pos (by simpa using hb)];rfl
 .obtain⟨u,e,hu⟩:=hnil;exact⟨u,by simpa[Az,IB] using e,hu⟩
def Br.VR(h:Br z r v){hp:Ae}:Lt hp v=some (hp,v):=by rcases h with rfl|⟨rfl,rfl⟩<;>rfl
def X8(s:Ad):Nn (C2 s)=some s:=by
 induction s with
 |nil=>rfl
 |cons c s ih=>have e:C2 (c::s)=[.int .u8 c.toNat]::C2 s:=rfl;rw[e,Nn,ih];simp
def Br.Zo{s:Ad}(h:Br 1 (C2 s) v):Az .Zo [v]=some (.str s):=by
 rcases h with rfl|⟨rfl,h⟩
 .simp[Az,cW,X8]
 .have e:s=[]:=by simpa[C2] using h
  subst e;rfl
end
@[simp] theorem wJ {z:Nat} {args:List Aa}:Az (.Cl z) args=if args.all (λa=>a.cells.length==z)&&decide (args.length*z<=16777216) then some (.sl z (args.map (·.cells))) else none:=rfl
def X9{a:Aa}{z:Nat}(h:a.cells.length=z)(hz:z<=16777216):Az (.Cl z) [a]=some (.sl z [a.cells]):=by simp[h,hz]
def wrap_u8{a:Int}(h:0<=a/\a<=255):IntKind.u8.wrap a=a:=IntWalk.u8_in a h
def wo{a:Int}(h: -2147483648<=a/\a<=2147483647):IntKind.i32.wrap a=a:=IntWalk.i32_in a h
def Ac{C:FT}{f:FuncId}{args:List Aa}{h h':Ae}{r:Aa}:Cj C f args h r h'↔W C (B7 C f args) (λx vs h1=>x= .ret/\vs=[r]/\h1=h') h:=rk
abbrev FW(C:FT)(f:FuncId)(t:Aa->IT):Prop:=∀a0,B7 C f [a0]=t a0
abbrev Ff(C:FT)(f:FuncId)(t:Aa->Aa->IT):Prop:=∀a0 a1,B7 C f [a0,a1]=t a0 a1
abbrev RL(C:FT)(f:FuncId)(t:Aa->Aa->Aa->IT):Prop:=∀a0 a1 a2,B7 C f [a0,a1,a2]=t a0 a1 a2
abbrev Tq4(C:FT)(f:FuncId)(t:Aa->Aa->Aa->Aa->IT):Prop:=∀a0 a1 a2 a3,B7 C f [a0,a1,a2,a3]=t a0 a1 a2 a3
abbrev Tq5(C:FT)(f:FuncId)(t:Aa->Aa->Aa->Aa->Aa->IT):Prop:=∀a0 a1 a2 a3 a4,B7 C f [a0,a1,a2,a3,a4]=t a0 a1 a2 a3 a4
def IT.fa(p:Aa)(k:Nat)(K:Aa->Aa->IT):IT:= .op .My [p] λa=> .op (.FN k) [a] λb=>K a b
def IT.BZ(p:Aa)(k:Nat)(K:Aa->Aa->Aa->IT):IT:= .op .My [p] λa=> .op (.FN k) [a] λb=> .load none b λc=>K a b c
def IT.fl(p:Aa)(k:Nat)(K:Aa->Aa->IT):IT:= .op (.FN k) [p] λa=> .load none a λb=>K a b
def nx(A R:List Aa->IT):F6->List Aa->IT:=λx c=>match x with
 | .normal=>A c
 | .exit _=> .fail
 | .ret=>R c
def lx(k:Nat)(A R:List Aa->IT):F6->List Aa->IT:=λx c=>match x with
 | .normal=> .fail
 | .exit i=>if i=k then A c else .fail
 | .ret=>R c
section
variable{C:FT}{Q:KE}{h:Ae}{p:Aa}{k:Nat}{A R:List Aa->IT}{c:List Aa}
def aMl{K:Aa->Aa->IT}:W C (IT.fa p k K) Q h=W C (.op .My [p] λa=> .op (.FN k) [a] λb=>K a b) Q h:=rfl
def aHH{K:Aa->Aa->Aa->IT}:W C (IT.BZ p k K) Q h=W C (.op .My [p] λa=> .op (.FN k) [a] λb=> .load none b λc=>K a b c) Q h:=rfl
def aMm{K:Aa->Aa->IT}:W C (IT.fl p k K) Q h=W C (.op (.FN k) [p] λa=> .load none a λb=>K a b) Q h:=rfl
def aMn:nx A R .normal c=A c:=rfl
def aMo:nx A R .ret c=R c:=rfl
def aMp:lx k A R (.exit k) c=A c:=if_pos rfl
def aMq:lx k A R .ret c=R c:=rfl
end
def Eb:Ad->Ad->List Ad
 |cur,[]=>[cur]
 |cur,c::r=>if c=32 then cur::Eb [] r else Eb (cur++[c]) r
def Of:List Ad:=Eb [] aWN
def swv(s:Aa)(t e:IT):List (List UInt8)->IT
 |[]=>e
 |c::cs=>.op (.str .eql) [s,.str c] λv=>.AJ v t (swv s t e cs)
abbrev IT.rr(l:List Aa):IT:=.ret .ret l
abbrev IT.rn(l:List Aa):IT:=.ret .normal l
abbrev IT.rx(n:Nat)(l:List Aa):IT:=.ret (.exit n) l
abbrev IT.ea(n:Nat)(l:List Aa)(k:Aa->IT):IT:=.op (.F0 n) l k
abbrev IT.ld(p:Aa)(k:Aa->IT):IT:=.load none p k
abbrev IT.ie(l:List Aa)(k:Aa->IT):IT:=.op (.int .eql) l k
abbrev IT.iq(l:List Aa)(k:Aa->IT):IT:=.op (.int .neq) l k
abbrev IT.il(l:List Aa)(k:Aa->IT):IT:=.op (.int .lss) l k
abbrev IT.ig(l:List Aa)(k:Aa->IT):IT:=.op (.int .gtr) l k
abbrev IT.ia(l:List Aa)(k:Aa->IT):IT:=.op (.int .add) l k
abbrev IT.ib(l:List Aa)(k:Aa->IT):IT:=.op (.int .sub) l k
abbrev IT.ih(l:List Aa)(k:Aa->IT):IT:=.op (.int .geq) l k
abbrev IT.ik(l:List Aa)(k:Aa->IT):IT:=.op (.int .leq) l k
abbrev IT.se(l:List Aa)(k:Aa->IT):IT:=.op (.str .eql) l k
abbrev IT.ln(l:List Aa)(k:Aa->IT):IT:=.op (.len false) l k
abbrev IT.lt(l:List Aa)(k:Aa->IT):IT:=.op (.len true) l k
abbrev IT.nt(l:List Aa)(k:Aa->IT):IT:=.op (.un .not) l k
abbrev i0:Aa:=I 0
abbrev i1:Aa:=I 1
abbrev tu:Aa:=.tuple []
abbrev pn:Aa:=.ptr none
def rF(c:List Aa):Aa:=.agg [g c 0,g c 1,g c 2,g c 3,g c 4,g c 5,g c 6,g c 7,g c 8,g c 9,g c 10,g c 11,g c 12]
def a13_e{c:List Aa}:rF c=.agg [g c 0,g c 1,g c 2,g c 3,g c 4,g c 5,g c 6,g c 7,g c 8,g c 9,g c 10,g c 11,g c 12]:=rfl
def Gf(c:List Aa):Aa:=.agg [g c 0,g c 1,g c 2,g c 3,g c 4,g c 5,g c 6,g c 7,g c 8,g c 9,g c 10,g c 11]
def a12_e{c:List Aa}:Gf c=.agg [g c 0,g c 1,g c 2,g c 3,g c 4,g c 5,g c 6,g c 7,g c 8,g c 9,g c 10,g c 11]:=rfl
def a9(c:List Aa):Aa:=.agg [g c 0,g c 1,g c 2,g c 3,g c 4,g c 5,g c 6,g c 7,g c 8]
def a9_e{c:List Aa}:a9 c=.agg [g c 0,g c 1,g c 2,g c 3,g c 4,g c 5,g c 6,g c 7,g c 8]:=rfl
def a6(c:List Aa):Aa:=.agg [g c 0,g c 1,g c 2,g c 3,g c 4,g c 5]
def a6_e{c:List Aa}:a6 c=.agg [g c 0,g c 1,g c 2,g c 3,g c 4,g c 5]:=rfl
def a4(c:List Aa):Aa:=.agg [g c 0,g c 1,g c 2,g c 3]
def a4_e{c:List Aa}:a4 c=.agg [g c 0,g c 1,g c 2,g c 3]:=rfl
def a3(c:List Aa):Aa:=.agg [g c 0,g c 1,g c 2]
def a3_e{c:List Aa}:a3 c=.agg [g c 0,g c 1,g c 2]:=rfl
def ai{a b:Prop}(x:a)(y:b):a/\b:=⟨x,y⟩
def Ce:=ai @a13_e (ai @a12_e (ai @a9_e (ai @a6_e (ai @a4_e (ai @a3_e (ai @aMl (ai @aHH (ai @aMm (ai @aMn (ai @aMo (ai @aMp (ai @aMq (ai @LC (ai @lP (ai @Uw (ai @Sc (ai @XW (ai @bB (ai @XU (ai @XV (ai @Qd (ai @Oe (ai @XX (ai @Vy (ai @Vz (ai @bD (ai @VA (ai @XY (ai @RK (ai @bE (ai @VB (ai @Qe (ai @Sd (ai @XZ (ai @X0 (ai @Nv (ai @E9 (ai @aCT (ai @aCU (ai @aCV (ai @aCW (ai @aCX (ai @aCY (ai @aCZ (ai @wI (ai @ĺ (ai @Ļ (ai @eC (ai @eD (ai @aC0 (ai @ZD (ai @X2 (ai @X3 (ai @ZE (ai @eE (ai @ki (ai @kj (ai @kq (ai @aC1 (ai @wk (ai @OV (ai @FQ (ai @Nw (ai @PF.{0} (ai @aLm.{0} (ai @IX.{0} (ai @T0.{0} (ai @Kz.{0} (ai @List.drop_succ_cons.{0} (ai @List.drop_nil.{0} (ai @M7.{0} (ai @PE.{0} (ai @AE.{0} (ai @AY.{0} (ai @Cr.{0} (ai @Bw.{0} (ai @aPV.{0,0} (ai @List.zip_nil_right.{0,0} (ai @BF.{0,0} (ai @Option.map_none.{0,0} (ai @By (ai @Q2 (ai @bF (ai @Q3 (ai @X5 (ai @bG (ai @X6 (ai @VC (ai @lX (ai @bH (ai @X7 (ai @oQ (ai @M8 (ai @M9 (ai @BM.{1} (ai @DU.{1} (ai @ZF (@eH))))))))))))))))))))))))))))))))))))))))))))))))))))))))))))))))))))))))))))))))))))))))))))))))))
def eI:=ai @Ie.{0} (ai @beq_self_eq_true.{0} (ai @SF (ai @Bool.bne_false (ai @aAI (ai @Nb (ai @AP (ai @AS (ai @AK (ai @AD (ai @Bp (ai @Nat.zero_lt_succ (ai @BF.{0,0} (@List.take_nil.{0})))))))))))))
def abS:=ai Ce eI
def aaS:type_of%@AT.{0}:=@AT.{0}
def Wa:=ai @Jc (ai @Ho (ai @Bool.and_true (ai @cV (ai @ù (ai @Ze (ai @Bool.or_true (ai @PO (ai @SE (ai @JE (ai @E5.{0} (ai @aPY.{0} (ai @uW.{0} (ai @Option.isSome_none.{0} (ai @BM.{1} (ai @DU.{1} (ai @Cp (ai @M8 (ai @and_false (ai @M9 (ai @uX (ai @aAL (@Dw))))))))))))))))))))))
abbrev Pt(i o:Nat):Aa:=.ptr (some (i,o))
end Go.Am
end
