/- Lemmas -/
import Derived.Test.YtbkijlifflhdiaaGreatDoorX1
import Derived.IntWalk
set_option linter.all false
section
namespace Go.Am
open Go
section
variable{C:FC}{Q:IN}{h:Ah}
def Wp{x:Fs}{vs:List Aa}:W C (.ret x vs) Q h↔Q x vs h:=by refine⟨λhw=>?_,V_⟩;obtain⟨n,x',GY,h',hr,q⟩:=hw.succ;simp only[IT.step,BB,LU] at hr;obtain⟨rfl,rfl,rfl⟩:=hr;exact q
def T8:W C .fail Q h↔False:=by refine⟨λhw=>?_,λh=>h.elim⟩;obtain⟨n,x',GY,h',hr,q⟩:=hw.succ;simp[IT.step] at hr
def Wq{Z:Type}(o:Option Z)(f:Z->Prop):Prop:=∃v,o=some v/\f v
def nQ{Z:Type}{o o':Option Z}{f:Z->Prop}(h:o=o'):Wq o f=Wq o' f:=by rw[h]
def NM{Z:Type}{v:Z}{f:Z->Prop}:Wq (some v) f=f v:=propext (by
 constructor;.rintro⟨_,e,h⟩;cases e;exact h
 .intro h;exact⟨v,rfl,h⟩)
def ZC{Z:Type}{f:Z->Prop}:Wq (none:Option Z) f=False:=propext (by
 constructor;.rintro⟨_,e,_⟩;cases e
 .exact False.elim)
def T9{o:Vi}{args:List Aa}{k:Aa->IT}:W C (.op o args k) Q h↔Wq (Ay o args) λv=>W C (k v) Q h:=by
 refine⟨λhw=>?_,λ⟨v,hv,hw⟩=>aBw hv hw⟩;obtain⟨n,x',GY,h',hr,q⟩:=hw.succ;simp only[IT.step] at hr;split at hr;.rename_i v hv;exact⟨v,hv,CF ⟨n,x',GY,h',hr,q⟩⟩
 .cases hr
def R7{n:Nat}{v:Aa}{k:List Aa->IT}:W C (.cells n v k) Q h↔Wq (if v.cells.length=n then some v.cells else none) λl=>W C (k l) Q h:=by
 constructor
 .intro hw;obtain⟨m,x',GY,h',hr,q⟩:=hw.succ;simp only[IT.step] at hr;split at hr;.rename_i hv;exact⟨_,Ad hv,CF ⟨m,x',GY,h',hr,q⟩⟩
  .cases hr
 .rintro⟨l,e,hw⟩;split at e;.rename_i hv;cases e;exact yI hv hw
  .cases e
def Vy(v:Aa)(p q:Prop):Prop:=(v= .bool true/\p)\/(v= .bool false/\q)
def dQ{v v':Aa}{p q:Prop}(h:v=v'):Vy v p q=Vy v' p q:=by rw[h]
def Wr{p q:Prop}:Vy (.bool true) p q=p:=by simp[Vy]
def Ua{p q:Prop}:Vy (.bool false) p q=q:=by simp[Vy]
def Du{b:Bool}{p q:Prop}:Vy (.bool b) p q↔(b=true->p)/\(b=false->q):=by cases b<;>simp[Vy]
def Ub{c:Prop}[Decidable c]{p q:Prop}:Vy (.bool (decide c)) p q↔(c->p)/\(¬c->q):=by rw[Du];simp
def Mf{c:Aa}{t e:IT}:W C (.AX c t e) Q h↔Vy c (W C t Q h) (W C e Q h):=by
 constructor
 .intro hw;obtain⟨m,x',GY,h',hr,q⟩:=hw.succ;simp only[IT.step] at hr;split at hr;.exact .inl ⟨rfl,CF ⟨m,x',GY,h',hr,q⟩⟩
  .exact .inr ⟨rfl,CF ⟨m,x',GY,h',hr,q⟩⟩
  .cases hr
 .rintro(⟨rfl,hw⟩|⟨rfl,hw⟩);.exact jv (λ_=>hw) λh=>by cases h
  .exact jv (λh=>by cases h) λ_=>hw
def Uc{n:Option Nat}{p:Aa}{k:Aa->IT}:W C (.load n p k) Q h↔Wq (Bq h n p) λv=>W C (k v) Q h:=by
 refine⟨λhw=>?_,λ⟨v,hv,hw⟩=>oq hv hw⟩;obtain⟨m,x',GY,h',hr,q⟩:=hw.succ;simp only[IT.step] at hr;split at hr;.rename_i v hv;exact⟨v,hv,CF ⟨m,x',GY,h',hr,q⟩⟩
 .cases hr
def Sa{n:Nat}{p v:Aa}{k:IT}:W C (.store n p v k) Q h↔Wq (CM h n p v) λh1=>W C k Q h1:=by
 refine⟨λhw=>?_,λ⟨v,hv,hw⟩=>yJ hv hw⟩;obtain⟨m,x',GY,h',hr,q⟩:=hw.succ;simp only[IT.step] at hr;split at hr;.rename_i h1 hv;exact⟨h1,hv,CF ⟨m,x',GY,h',hr,q⟩⟩
 .cases hr
def Sb{n:Nat}{v:Aa}{k:Aa->IT}:W C (.alloc n v k) Q h↔Wq (if v.cells.length=n then some v.cells else none) λl=>W C (k (.ptr (some (h.length,0)))) Q (h++[.cells l]):=by
 constructor
 .intro hw;obtain⟨m,x',GY,h',hr,q⟩:=hw.succ;simp only[IT.step,Xb] at hr;by_cases hv:v.cells.length=n;.rw[Ad hv] at hr;exact⟨_,Ad hv,CF ⟨m,x',GY,h',hr,q⟩⟩
  .rw[Ac hv] at hr;cases hr
 .rintro⟨l,e,hw⟩;split at e;.rename_i hv;cases e;exact yK hv hw
  .cases e
def Ws{u:Aa}{k:Aa->IT}:W C (.Th u k) Q h↔Wq (LA h u) λx=>W C (k x.2) Q x.1:=by
 refine⟨λhw=>?_,λ⟨(h1,v),hv,hw⟩=>W_ hv hw⟩;obtain⟨m,x',GY,h',hr,q⟩:=hw.succ;simp only[IT.step] at hr;split at hr;.rename_i h1 v hv;exact⟨(h1,v),hv,CF ⟨m,x',GY,h',hr,q⟩⟩
 .cases hr
def Sc{off:Nat}{p:Aa}{k:IT}:W C (.HX off p k) Q h↔Wq (KD h off p) λh1=>W C k Q h1:=by
 refine⟨λhw=>?_,λ⟨h1,hv,hw⟩=>yM hv hw⟩;obtain⟨m,x',GY,h',hr,q⟩:=hw.succ;simp only[IT.step] at hr;split at hr;.rename_i h1 hv;exact⟨h1,hv,CF ⟨m,x',GY,h',hr,q⟩⟩
 .cases hr
def Sd{size bytes:Nat}{s x:Aa}{k:Aa->IT}:W C (.Ja size bytes s x k) Q h↔Wq (Ly h size bytes s x) λx=>W C (k x.2) Q x.1:=by
 refine⟨λhw=>?_,λ⟨(h1,v),hv,hw⟩=>yL hv hw⟩;obtain⟨m,x',GY,h',hr,q⟩:=hw.succ;simp only[IT.step] at hr;split at hr;.rename_i h1 v hv;exact⟨(h1,v),hv,CF ⟨m,x',GY,h',hr,q⟩⟩
 .cases hr
def Ud{size bytes:Nat}{s x:Aa}{k:Aa->IT}:W C (.FJ size bytes s x k) Q h↔Wq (FX h size bytes s x) λx=>W C (k x.2) Q x.1:=by
 refine⟨λhw=>?_,λ⟨(h1,v),hv,hw⟩=>o_ hv hw⟩;obtain⟨m,x,GY,h',hr,q⟩:=hw.succ;simp only[IT.step] at hr;split at hr;.rename_i h1 v hv;exact⟨(h1,v),hv,CF ⟨m,x,GY,h',hr,q⟩⟩
 .cases hr
def OU{size bytes:Nat}{s x:Aa}{k:Aa->IT}:W C (.FW size bytes s x k) Q h↔Wq (ON h size bytes s x) λv=>W C (k v) Q h:=by
 refine⟨λhw=>?_,λ⟨v,hv,hw⟩=>mI hv hw⟩;obtain⟨m,x,GY,h',hr,q⟩:=hw.succ;simp only[IT.step] at hr;split at hr;.rename_i v hv;exact⟨v,hv,CF ⟨m,x,GY,h',hr,q⟩⟩
 .cases hr
def Wt{o:qM}{args:List Aa}{k:Aa->IT}:W C (.mem o args k) Q h↔Wq (EC o h args) λx=>W C (k x.2) Q x.1:=by
 refine⟨λhw=>?_,λ⟨(h1,v),hv,hw⟩=>X_ hv hw⟩;obtain⟨n,x,vs,h',hr,q⟩:=hw.succ;simp only[IT.step] at hr;split at hr;.rename_i h1 v hv;exact⟨(h1,v),hv,CF ⟨n,x,vs,h',hr,q⟩⟩
 .cases hr
def NN{s:Aa}{k:Aa->IT}:W C (.E4 s k) Q h↔Wq (Ir h s) λx=>W C (k x.2) Q x.1:=by
 refine⟨λhw=>?_,λ⟨(h1,v),hv,hw⟩=>cD hv hw⟩;obtain⟨m,x',GY,h',hr,q⟩:=hw.succ;simp only[IT.step] at hr;split at hr;.rename_i h1 v hv;exact⟨(h1,v),hv,CF ⟨m,x',GY,h',hr,q⟩⟩
 .cases hr
def Pl{k:Aa->IT}:W C (.OC k) Q h↔W C (k (.map (some h.length))) Q (h++[.map []]):=by refine⟨λhw=>?_,ou⟩;obtain⟨m,x',GY,h',hr,q⟩:=hw.succ;exact CF ⟨m,x',GY,h',hr,q⟩
def Ue{m key v:Aa}{k:IT}:W C (.JJ m key v k) Q h↔Wq (RH h m key v) λh1=>W C k Q h1:=by
 refine⟨λhw=>?_,λ⟨h1,hv,hw⟩=>ov hv hw⟩;obtain⟨m,x',GY,h',hr,q⟩:=hw.succ;simp only[IT.step] at hr;split at hr;.rename_i h1 hv;exact⟨h1,hv,CF ⟨m,x',GY,h',hr,q⟩⟩
 .cases hr
def Uf{z:Aa}{ok:Bool}{m key:Aa}{k:Aa->IT}:W C (.LX z ok m key k) Q h↔Wq (RI h z ok m key) λv=>W C (k v) Q h:=by
 refine⟨λhw=>?_,λ⟨h1,hv,hw⟩=>oz hv hw⟩;obtain⟨m,x',GY,h',hr,q⟩:=hw.succ;simp only[IT.step] at hr;split at hr;.rename_i h1 hv;exact⟨h1,hv,CF ⟨m,x',GY,h',hr,q⟩⟩
 .cases hr
def NO{g:Aa}{args:List Aa}{k:Aa->IT}:W C (.FH g args k) Q h↔Wq (De g args) λx=>W C (.call x.1 x.2 k) Q h:=by
 constructor
 .intro hw;obtain⟨m,x',GY,h',hr,q⟩:=hw.succ;simp only[IT.step] at hr;split at hr;.rename_i f as e;refine⟨(f,as),e,CF ⟨m,x',GY,h',?_,q⟩⟩;simp only[IT.step];exact hr
  .cases hr
 .rintro⟨⟨f,as⟩,e,hw⟩;obtain⟨m,x',GY,h',hr,q⟩:=hw.succ;refine CF ⟨m,x',GY,h',?_,q⟩;simp only[IT.step,e] at hr⊢;exact hr
def EK{key:Nat}{t:IT}{k:Fs->List Aa->IT}:W C (.Fj key t k) Q h↔W C t (λx vs h1=>W C (k x vs) Q h1) h:=by
 refine⟨λhw=>?_,pc⟩;obtain⟨m,x',GY,h',hr,q⟩:=hw.succ;simp only[IT.step] at hr;split at hr;.rename_i x vs h1 e;exact CF ⟨m,_,_,_,e,CF ⟨m,x',GY,h',hr,q⟩⟩
 .cases hr
def Cx(C:FC)(f:FuncId)(args:List Aa)(h:Ah)(r:Aa)(h':Ah):Prop:=W C (B2 C f args) (λx vs h1=>x= .ret/\vs=[r]/\h1=h') h
def Cx.ev{f:FuncId}{args:List Aa}{r:Aa}{h':Ah}(hr:Cx C f args h r h'){R:Aa->Ah->Prop}(hR:R r h'):Ev C f args h R:=
 W.mono hr λ_ _ _ ⟨h1,h2,d⟩=>⟨h1,r,h2,by rw[d];exact hR⟩
def Cx.Ag{f:FuncId}{args:List Aa}{r:Aa}{h':Ah}(hr:Cx C f args h r h'){k:Aa->IT}:W C (.call f args k) Q h↔W C (k r) Q h':=by
 refine⟨λhw=>?_,λhw=>qX (hr.ev hw)⟩;obtain⟨n,i,ò,h1,g,rfl,rfl,rfl⟩:=hr;obtain⟨m,x',GY,h2,d,q⟩:=hw.succ;simp only[IT.step] at d;split at d;.rename_i r2 j e;simp only[FC.run] at g e;have a1:=IT.HN (H9 n m) g;have a2:=IT.HN (Hs n m) e;rw[a1] at a2;cases a2;exact CF ⟨m,x',GY,h2,d,q⟩
 .cases d
def OG(C:FC)(f:FuncId)(args:List Aa)(r:Aa):Prop:=Ev C f args [] λx _=>x=r
def OG.Co{f:FuncId}{args:List Aa}{r:Aa}(hr:OG C f args r)(ha:args.all Aa.K6=true)(hf:r.K6=true){k:Aa->IT}:W C (.Co f args k) Q h↔W C (k r) Q h:=by
 refine⟨λhw=>?_,λhw=>yN ha (hr.mono λx _ e=>by rw[e];exact⟨hf,hw⟩)⟩;obtain⟨n,i,ò,h1,g,rfl,y,rfl,rfl⟩:=hr;obtain⟨m,x',GY,h2,d,q⟩:=hw.succ;simp only[IT.step,ha,BH] at d;simp only[FC.run] at g d;have a1:=IT.HN (H9 n m) g;cases hc:IT.run (B2 C) m (B2 C f args) [] with
 |none=>rw[hc] at d;cases d
 |some z=>have a2:=IT.HN (Hs n m) hc;rw[a1] at a2;cases a2;rw[hc] at d;simp only[hf,BH] at d;exact CF ⟨m,x',GY,h2,d,q⟩
end
def ah{C:FC}{t t':IT}{Q:IN}{h h':Ah}(e:t=t')(d:h=h'):W C t Q h=W C t' Q h':=by rw[e,d]
def tJ{o:Vi}{args args':List Aa}{k:Aa->IT}(e:args=args'):IT.op o args k=IT.op o args' k:=by rw[e]
def ZD{n:Nat}{v v':Aa}{k:List Aa->IT}(e:v=v'):IT.cells n v k=IT.cells n v' k:=by rw[e]
def nR{v v':Aa}{s t:IT}(e:v=v'):IT.AX v s t=IT.AX v' s t:=by rw[e]
def dR{n:Option Nat}{v v':Aa}{k:Aa->IT}(e:v=v'):IT.load n v k=IT.load n v' k:=by rw[e]
def ZE{n:Nat}{p p' v v':Aa}{k:IT}(d:p=p')(e:v=v'):IT.store n p v k=IT.store n p' v' k:=by rw[e,d]
def ZF{n:Nat}{v v':Aa}{k:Aa->IT}(e:v=v'):IT.alloc n v k=IT.alloc n v' k:=by rw[e]
def dS{f:FuncId}{args args':List Aa}{k:Aa->IT}(e:args=args'):IT.call f args k=IT.call f args' k:=by rw[e]
def ZG{f:FuncId}{args args':List Aa}{k:Aa->IT}(e:args=args'):IT.Co f args k=IT.Co f args' k:=by rw[e]
def ZH{f f':Aa}{args args':List Aa}{k:Aa->IT}(d:f=f')(e:args=args'):IT.FH f args k=IT.FH f' args' k:=by rw[e,d]
def dT{key:Nat}{i d:List Aa}{b:List Aa->IT}{k:Fs->List Aa->IT}(e:i=d):IT.loop key i b k=IT.loop key d b k:=by rw[e]
def dU{key:Nat}{b:IT}{k:Fs->List Aa->IT}:IT.Fj key b k=IT.Fj key b k:=rfl
def nT{v v':Aa}{k:Aa->IT}(e:v=v'):IT.Th v k=IT.Th v' k:=by rw[e]
def ZI{size bytes:Nat}{s s' x x':Aa}{k:Aa->IT}(e:s=s')(d:x=x'):IT.Ja size bytes s x k=IT.Ja size bytes s' x' k:=by rw[e,d]
def dV{size bytes:Nat}{s s' x x':Aa}{k:Aa->IT}(e:s=s')(d:x=x'):IT.FJ size bytes s x k=IT.FJ size bytes s' x' k:=by rw[e,d]
def nU{o:qM}{args args':List Aa}{k:Aa->IT}(e:args=args'):IT.mem o args k=IT.mem o args' k:=by rw[e]
def Vz{size bytes:Nat}{s s' x x':Aa}{k:Aa->IT}(e:s=s')(d:x=x'):IT.FW size bytes s x k=IT.FW size bytes s' x' k:=by rw[e,d]
def ZJ{off:Nat}{p p':Aa}{k:IT}(e:p=p'):IT.HX off p k=IT.HX off p' k:=by rw[e]
def Ug{s s':Aa}{k:Aa->IT}(e:s=s'):IT.E4 s k=IT.E4 s' k:=by rw[e]
def dW{m m' key key' v v':Aa}{k:IT}(e:m=m')(f:key=key')(d:v=v'):IT.JJ m key v k=IT.JJ m' key' v' k:=by rw[e,f,d]
def dX{z:Aa}{ok:Bool}{m m' key key':Aa}{k:Aa->IT}(e:m=m')(d:key=key'):IT.LX z ok m key k=IT.LX z ok m' key' k:=by rw[e,d]
attribute [congr] nQ dQ ah tJ ZD nR dR ZE ZF dS ZG ZH dT dU nT ZJ dV Vz nU ZI Ug dW dX
attribute [simp] NM ZC Wr Ua Ub Du Wp T8 T9 R7 Mf Uc Sa Sb Ws Sc Ud OU Wt Sd NN Pl Ue Uf NO EK
section
variable{k:IntKind}{a b:Int}{s t:Aq}
@[simp] theorem so:Ay (.int .eql) [.int k a,.int k b]=some (.bool (decide (a=b))):=by cases k<;>rfl
@[simp] theorem sq:Ay (.int .neq) [.int k a,.int k b]=some (.bool (decide (a≠b))):=by
 have e:Ay (.int .neq) [.int k a,.int k b]=some (.bool (!(a==b))):=by cases k<;>rfl
 rw[e];by_cases h:a=b<;>simp[h]
@[simp] theorem sr:Ay (.int .lss) [.int k a,.int k b]=some (.bool (decide (a<b))):=by cases k<;>rfl
@[simp] theorem su:Ay (.int .leq) [.int k a,.int k b]=some (.bool (decide (a<=b))):=by cases k<;>rfl
@[simp] theorem sx:Ay (.int .gtr) [.int k a,.int k b]=some (.bool (decide (b<a))):=by cases k<;>rfl
@[simp] theorem sy:Ay (.int .geq) [.int k a,.int k b]=some (.bool (decide (b<=a))):=by cases k<;>rfl
def dY:Ay (.int .add) [.int k a,.int k b]=some (.int k (k.wrap (a+b))):=by cases k<;>rfl
def dZ:Ay (.int .sub) [.int k a,.int k b]=some (.int k (k.wrap (a-b))):=by cases k<;>rfl
@[simp] theorem s_ {b:Bool}:Ay (.un .not) [.bool b]=some (.bool (!b)):=rfl
@[simp] theorem jG:Ay (.str .eql) [.str s,.str t]=some (.bool (decide (s=t))):=by
 show some (Aa.bool (s==t))=_;congr 2
 by_cases h:s=t<;>simp[h]
@[simp] theorem aj:Ay (.str .neq) [.str s,.str t]=some (.bool (decide (s≠t))):=by
 show some (Aa.bool (!(s==t)))=_;congr 2
 by_cases h:s=t<;>simp[h]
@[simp] theorem ak:Ay (.len true) [.str s]=some (.int .i64 s.length):=rfl
@[simp] theorem aAR {i:Int}:Ay .YT [.str s,.int k i]=if 0<=i then(s[i.toNat]?).map λb=> .int .u8 b.toNat else none:=rfl
@[simp] theorem XN {off:Nat} {cs:List Aa}:Ay (.part off none) [.agg cs]=cs[off]?:=rfl
@[simp] theorem XO {off n:Nat} {cs:List Aa}:Ay (.part off (some n)) [.agg cs]=if off+n<=cs.length then some (.agg ((cs.drop off).take n)) else none:=rfl
@[simp] theorem ta {i:Nat} {vs:List Aa}:Ay (.ext i) [.tuple vs]=vs[i]?:=rfl
@[simp] theorem VA {p:Nat×Nat}:Ay .KC [.ptr (some p)]=some (.ptr (some p)):=rfl
@[simp] theorem Uh {cs:List Aa}:Ay .KC [.Cz cs]=some (.Cz cs):=rfl
@[simp] theorem Ui {f:FuncId} {a b:List Aa}:Ay .KC [.func (.func f) a b]=some (.func (.func f) a b):=rfl
@[simp] theorem VB {off:Nat} {cs:List Aa}:Ay (.FV off) [.Cz cs]=some (.Cz (cs.drop off)):=rfl
@[simp] theorem XP {off id o:Nat}:Ay (.FV off) [.ptr (some (id,o))]=some (.ptr (some (id,o+off))):=rfl
@[simp] theorem nV {neg:Bool}:Ay (.Te neg) [.ptr none,.ptr none]=some (.bool (true != neg)):=rfl
@[simp] theorem nW {neg:Bool} {p:Nat×Nat}:Ay (.Te neg) [.ptr (some p),.ptr none]=some (.bool (false != neg)):=rfl
@[simp] theorem nX {neg:Bool} {p:Nat×Nat}:Ay (.Te neg) [.ptr none,.ptr (some p)]=some (.bool (false != neg)):=rfl
@[simp] theorem tc {neg a b:Bool}:Ay (.beq neg) [.bool a,.bool b]=some (.bool ((a==b) != neg)):=rfl
@[simp] theorem aAS {c:Bool} {a b:Aa}:Ay .pick [.bool c,a,b]=some (if c then a else b):=rfl
@[simp] theorem XQ {l:IntKind}:Ay (.conv l) [.int k a]=some (.int l (l.wrap a)):=rfl
@[simp] theorem tK {zero args:List Aa} {places:List (Nat×Nat)}:Ay (.B4 zero places) args=if places.length=args.length then(BD zero (places.zip args)).map .agg else none:=rfl
@[simp] theorem eA {neg:Bool} {ks:List FK} {x y:List Aa}:Ay (.geq neg ks) [.agg x,.agg y]=(DQ ks x y).map λe=> .bool (e != neg):=rfl
@[simp] theorem tL:Ay (.J5 false) [.int k a,.int k b]=some (.int k (if b<a then b else a)):=by simp[Ay]
@[simp] theorem XR:Ay (.J5 true) [.int k a,.int k b]=some (.int k (if a<b then b else a)):=by simp[Ay]
@[simp] theorem eB {h:Ah} {n:Option Nat} {cs:List Aa}:Bq h n (.Cz cs)=EJ cs 0 n:=rfl
@[simp] theorem Fi {off:Nat} {cs:List Aa}:EJ cs off none=cs[off]?:=rfl
@[simp] theorem Ln {off n:Nat} {cs:List Aa}:EJ cs off (some n)=if off+n<=cs.length then some (.agg ((cs.drop off).take n)) else none:=rfl
@[simp] theorem wrap_i64 (h1: -9223372036854775808<=a) (h2:a<9223372036854775808):IntKind.i64.wrap a=a:=by rw[IntKind.wrap_i64];omega
end
def Rj{cs:List Aa}:Aa.cells (.agg cs)=cs:=rfl
def Wu{k:IntKind}{n:Int}:Aa.cells (.int k n)=[.int k n]:=rfl
def Wv{s:Aq}:Aa.cells (.str s)=[.str s]:=rfl
def Uj{b:Bool}:Aa.cells (.bool b)=[.bool b]:=rfl
def Ww{p:Option (Nat×Nat)}:Aa.cells (.ptr p)=[.ptr p]:=rfl
def Uk{p:List Aa}:Aa.cells (.Cz p)=[.Cz p]:=rfl
def Se:Aa.cells .slnil=[.slnil]:=rfl
def ZK{z:Nat}{r:List (List Aa)}:Aa.cells (.sl z r)=[.sl z r]:=rfl
def Wx{i o l z:Nat}:Aa.cells (.CL i o l z)=[.CL i o l z]:=rfl
def Ul{f:Fn}{a b:List Aa}:Aa.cells (.func f a b)=[.func f a b]:=rfl
attribute [simp] BD DQ Lx De Rj Wu Wv Uj Ww Uk Se ZK Wx Ul
def Bu(z:Nat)(Ao:List (List Aa))(v:Aa):Prop:=v= .sl z Ao\/(v= .slnil/\Ao=[])
section
variable{z:Nat}{Ao:List (List Aa)}{v:Aa}
def Bu.mk:Bu z Ao (.sl z Ao):= .inl rfl
def Bu.nil:Bu z [] .slnil:= .inr ⟨rfl,rfl⟩
def Bu.cells(h:Bu z Ao v):v.cells=[v]:=by rcases h with rfl|⟨rfl,rfl⟩<;>rfl
def Bu.len(h:Bu z Ao v):Ay (.len false) [v]=some (.int .i64 Ao.length):=by rcases h with rfl|⟨rfl,rfl⟩<;>rfl
def Bu.Gm(h:Bu z Ao v){k:IntKind}{n:Nat}(hn:n<Ao.length):Ay (.Gm z) [v,.int k (n:Int)]=some (.Cz Ao[n]):=by
 rcases h with rfl|⟨rfl,rfl⟩
 .simp[Ay,elemOf,hn]
 .simp at hn
end
end Go.Am
end
section
namespace Go.Am
open Go
section
variable{C:FC}{Q:IN}{h:Ah}
def ZL{key:Nat}{vs:List Aa}{body:List Aa->IT}{k:Fs->List Aa->IT}
  (hw:W C (body vs) (λx ò h1=>(x= .normal/\W C (.loop key ò body k) Q h1)\/(x≠ .normal/\W C (k x ò) Q h1)) h):W C (.loop key vs body k) Q h:=by
 obtain⟨m,x,ò,h1,hr,HL⟩:=hw.succ;rcases HL with⟨rfl,hw⟩|⟨hx,hw⟩
 .obtain⟨m',x',GY,h',GH,q⟩:=hw;refine CF ⟨max m m',x',GY,h',?_,q⟩;have e:=IT.Jj (λt h r=>IT.HN (fn:=B2 C) (H9 m m')) _ _ _ hr;have d:=IT.HN (Hs m m') GH;simp only[IT.step];simp only[FC.run] at*;rw[e];exact d
 .obtain⟨m',x',GY,h',GH,q⟩:=hw.succ;refine CF ⟨max m m',x',GY,h',?_,q⟩;have e:=IT.Jj (λt h r=>IT.HN (fn:=B2 C) (H9 m m')) _ _ _ hr;have d:=IT.Jj (λt h r=>IT.HN (fn:=B2 C) (Hs m m')) _ _ _ GH;simp only[IT.step];simp only[FC.run] at*;rw[e];cases x<;>first|exact absurd rfl hx|exact d
def A8{U:Type}(C:FC)(enc:U->List Aa)(Dr:U->Ah->Prop)(O:U->Nat)(k:Fs->List Aa->IT)(Q:IN)(s:U):IN:=
 λx vs h1=>(x= .normal/\∃s',vs=enc s'/\Dr s' h1/\O s'<O s)\/(x≠ .normal/\W C (k x vs) Q h1)
variable{U:Type}{enc:U->List Aa}{Dr:U->Ah->Prop}{O:U->Nat}{k:Fs->List Aa->IT}{s:U}{vs:List Aa}
def A8.next(s':U)(e:vs=enc s')(hi:Dr s' h)(hl:O s'<O s):A8 C enc Dr O k Q s .normal vs h:= .inl ⟨rfl,s',e,hi,hl⟩
def VC{i:Nat}:A8 C enc Dr O k Q s (.exit i) vs h↔W C (k (.exit i) vs) Q h:=by simp[A8]
def XS:A8 C enc Dr O k Q s .ret vs h↔W C (k .ret vs) Q h:=by simp[A8]
def BI{key:Nat}{init:List Aa}{body:List Aa->IT}(enc:U->List Aa)(Dr:U->Ah->Prop)(O:U->Nat)(s0:U)(h0:init=enc s0)(hi:Dr s0 h)
  (round:∀s h,Dr s h->W C (body (enc s)) (A8 C enc Dr O k Q s) h):W C (.loop key init body k) Q h:=by
 subst h0;have key:∀n s h,O s=n->Dr s h->W C (.loop key (enc s) body k) Q h:=by
  intro n;induction n using Nat.strongRecOn with
  |_ n ih=>
   intro s h hn hI;refine ZL (W.mono (round s h hI) ?_);rintro x vs h1 (⟨rfl,s',rfl,rW,hl⟩|⟨hx,hw⟩);.exact .inl ⟨rfl,ih _ (hn▸hl) s' h1 rfl rW⟩
   .exact .inr ⟨hx,hw⟩
 exact key _ s0 h rfl hi
end
section
variable{k l:IntKind}{s:Aq}
def Ci{n:Nat}(hn:n<9223372036854775807):Ay (.int .add) [.int .i64 (n:Int),.int .i64 1]=some (.int .i64 ((n+1:Nat):Int)):=by rw[dY,wrap_i64 Ab Ab];rfl
def LJ{n:Nat}(h0:0<n)(hn:n<9223372036854775807):Ay (.int .sub) [.int .i64 (n:Int),.int .i64 1]=some (.int .i64 ((n-1:Nat):Int)):=by rw[dZ,wrap_i64 Ab Ab];congr 2;omega
end
section
variable{z b:Nat}{r r2:List (List Aa)}{row:List Aa}{v v2:Aa}
def Bu.ó(h:Bu z r v)(hb:(r.length+1)*b<=AQ):Ay (.append z b) [v,.sl z [row]]=some (.sl z (r++[row])):=by
 rcases h with rfl|⟨rfl,rfl⟩
 .simp[Ay,GP,C4,hb]
 .have:1*b<=AQ:=by simpa using hb
  simp only[Ef] at this;simp[Ay,GP,C4,this]
def Bu.Kr(h:Bu z r v)(h2:Bu z r2 v2)(hb:(r.length+r2.length)*b<=AQ):∃u,Ay (.append z b) [v,v2]=some u/\Bu z (r++r2) u:=by
 have hnil:∃u,C4 z b v []=some u/\Bu z (r++[]) u:=by
  rcases h with rfl|⟨rfl,rfl⟩
  .exact⟨.sl z r,by simp[C4],by rw[BQ];exact .mk⟩
  .exact⟨_,rfl,.nil⟩
 rcases h2 with rfl|⟨rfl,rfl⟩
 .cases r2 with
  |nil=>obtain⟨u,e,hu⟩:=hnil;exact⟨u,by simpa[Ay,GP] using e,hu⟩
  |cons x l=>
   refine⟨.sl z (r++x::l),?_,.mk⟩;rcases h with rfl|⟨rfl,rfl⟩
   .simp only[Ay,GP,BH,C4];rw[Ad ⟨trivial,hb⟩]
   .simp only[Ay,GP,BH,C4];rw[Ad (by simpa using hb)];rfl
 .obtain⟨u,e,hu⟩:=hnil;exact⟨u,by simpa[Ay,GP] using e,hu⟩
def Bu.Th(h:Bu z r v){hp:Ah}:LA hp v=some (hp,v):=by rcases h with rfl|⟨rfl,rfl⟩<;>rfl
def Um(s:Aq):Lb (CI s)=some s:=by
 induction s with
 |nil=>rfl
 |cons c s ih=>have e:CI (c::s)=[.int .u8 c.toNat]::CI s:=rfl;rw[e,Lb,ih];simp
def Bu.Vk{s:Aq}(h:Bu 1 (CI s) v):Ay .Vk [v]=some (.str s):=by
 rcases h with rfl|⟨rfl,h⟩
 .simp[Ay,Xa,Um]
 .have e:s=[]:=by simpa[CI] using h
  subst e;rfl
end
@[simp] theorem jH {z:Nat} {args:List Aa}:Ay (.Cf z) args=if args.all (λa=>a.cells.length==z)&&decide (args.length*z<=16777216) then some (.sl z (args.map (·.cells))) else none:=rfl
def Qf{a:Aa}{z:Nat}(h:a.cells.length=z)(hz:z<=16777216):Ay (.Cf z) [a]=some (.sl z [a.cells]):=by simp[h,hz]
def wrap_u8{a:Int}(h:0<=a/\a<=255):IntKind.u8.wrap a=a:=IntWalk.u8_in a h
def tM{a:Int}(h: -2147483648<=a/\a<=2147483647):IntKind.i32.wrap a=a:=IntWalk.i32_in a h
def Aj{C:FC}{f:FuncId}{args:List Aa}{h h':Ah}{r:Aa}:Cx C f args h r h'↔W C (B2 C f args) (λx vs h1=>x= .ret/\vs=[r]/\h1=h') h:=Iff.rfl
abbrev JG(C:FC)(f:FuncId)(t:Aa->IT):Prop:=∀a0,B2 C f [a0]=t a0
abbrev GG(C:FC)(f:FuncId)(t:Aa->Aa->IT):Prop:=∀a0 a1,B2 C f [a0,a1]=t a0 a1
abbrev Q0(C:FC)(f:FuncId)(t:Aa->Aa->Aa->IT):Prop:=∀a0 a1 a2,B2 C f [a0,a1,a2]=t a0 a1 a2
abbrev ô(C:FC)(f:FuncId)(t:Aa->Aa->Aa->Aa->IT):Prop:=∀a0 a1 a2 a3,B2 C f [a0,a1,a2,a3]=t a0 a1 a2 a3
abbrev Tq5(C:FC)(f:FuncId)(t:Aa->Aa->Aa->Aa->Aa->IT):Prop:=∀a0 a1 a2 a3 a4,B2 C f [a0,a1,a2,a3,a4]=t a0 a1 a2 a3 a4
def IT.fa(p:Aa)(k:Nat)(K:Aa->Aa->IT):IT:= .op .KC [p] λa=> .op (.FV k) [a] λb=>K a b
def IT.Dm(p:Aa)(k:Nat)(K:Aa->Aa->Aa->IT):IT:= .op .KC [p] λa=> .op (.FV k) [a] λb=> .load none b λc=>K a b c
def IT.fl(p:Aa)(k:Nat)(K:Aa->Aa->IT):IT:= .op (.FV k) [p] λa=> .load none a λb=>K a b
def nx(A R:List Aa->IT):Fs->List Aa->IT:=λx c=>match x with
 | .normal=>A c
 | .exit _=> .fail
 | .ret=>R c
def lx(k:Nat)(A R:List Aa->IT):Fs->List Aa->IT:=λx c=>match x with
 | .normal=> .fail
 | .exit i=>if i=k then A c else .fail
 | .ret=>R c
section
variable{C:FC}{Q:IN}{h:Ah}{p:Aa}{k:Nat}{A R:List Aa->IT}{c:List Aa}
def aCo{K:Aa->Aa->IT}:W C (IT.fa p k K) Q h=W C (.op .KC [p] λa=> .op (.FV k) [a] λb=>K a b) Q h:=rfl
def õ{K:Aa->Aa->Aa->IT}:W C (IT.Dm p k K) Q h=W C (.op .KC [p] λa=> .op (.FV k) [a] λb=> .load none b λc=>K a b c) Q h:=rfl
def aCp{K:Aa->Aa->IT}:W C (IT.fl p k K) Q h=W C (.op (.FV k) [p] λa=> .load none a λb=>K a b) Q h:=rfl
def aCq:nx A R .normal c=A c:=rfl
def aCr:nx A R .ret c=R c:=rfl
def aCs:lx k A R (.exit k) c=A c:=Ad rfl
def aCt:lx k A R .ret c=R c:=rfl
end
def Mg:Aq->Aq->List Aq
 |cur,[]=>[cur]
 |cur,c::r=>if c=32 then cur::Mg [] r else Mg (cur++[c]) r
def Qg:List Aq:=Mg [] [97,100,100,114,101,115,115,32,97,112,112,108,101,116,32,97,114,101,97,32,97,114,116,105,99,108,101,32,97,115,105,100,101,32,98,97,115,101,32,98,97,115,101,102,111,110,116,32,98,103,115,111,117,110,100,32,98,108,111,99,107,113,117,111,116,101,32,98,111,100,121,32,98,114,32,98,117,116,116,111,110,32,99,97,112,116,105,111,110,32,99,101,110,116,101,114,32,99,111,108,32,99,111,108,103,114,111,117,112,32,100,100,32,100,101,116,97,105,108,115,32,100,105,114,32,100,105,118,32,100,108,32,100,116,32,101,109,98,101,100,32,102,105,101,108,100,115,101,116,32,102,105,103,99,97,112,116,105,111,110,32,102,105,103,117,114,101,32,102,111,111,116,101,114,32,102,111,114,109,32,102,114,97,109,101,32,102,114,97,109,101,115,101,116,32,104,49,32,104,50,32,104,51,32,104,52,32,104,53,32,104,54,32,104,101,97,100,32,104,101,97,100,101,114,32,104,103,114,111,117,112,32,104,114,32,104,116,109,108,32,105,102,114,97,109,101,32,105,109,103,32,105,110,112,117,116,32,107,101,121,103,101,110,32,108,105,32,108,105,110,107,32,108,105,115,116,105,110,103,32,109,97,105,110,32,109,97,114,113,117,101,101,32,109,101,110,117,32,109,101,116,97,32,110,97,118,32,110,111,101,109,98,101,100,32,110,111,102,114,97,109,101,115,32,110,111,115,99,114,105,112,116,32,111,98,106,101,99,116,32,111,108,32,112,32,112,97,114,97,109,32,112,108,97,105,110,116,101,120,116,32,112,114,101,32,115,99,114,105,112,116,32,115,101,97,114,99,104,32,115,101,99,116,105,111,110,32,115,101,108,101,99,116,32,115,111,117,114,99,101,32,115,116,121,108,101,32,115,117,109,109,97,114,121,32,116,97,98,108,101,32,116,98,111,100,121,32,116,100,32,116,101,109,112,108,97,116,101,32,116,101,120,116,97,114,101,97,32,116,102,111,111,116,32,116,104,32,116,104,101,97,100,32,116,105,116,108,101,32,116,114,32,116,114,97,99,107,32,117,108,32,119,98,114,32,120,109,112]
def swv(s:Aa)(t e:IT):List (List UInt8)->IT
 |[]=>e
 |c::cs=>.op (.str .eql) [s,.str c] λv=>.AX v t (swv s t e cs)
abbrev IT.rr(l:List Aa):IT:=.ret .ret l
abbrev IT.rn(l:List Aa):IT:=.ret .normal l
abbrev IT.rx(n:Nat)(l:List Aa):IT:=.ret (.exit n) l
abbrev IT.ea(n:Nat)(l:List Aa)(k:Aa->IT):IT:=.op (.Gm n) l k
abbrev IT.ld(p:Aa)(k:Aa->IT):IT:=.load none p k
abbrev IT.ie(l:List Aa)(k:Aa->IT):IT:=.op (.int .eql) l k
abbrev IT.iq(l:List Aa)(k:Aa->IT):IT:=.op (.int .neq) l k
abbrev IT.il(l:List Aa)(k:Aa->IT):IT:=.op (.int .lss) l k
abbrev IT.ig(l:List Aa)(k:Aa->IT):IT:=.op (.int .gtr) l k
abbrev IT.ia(l:List Aa)(k:Aa->IT):IT:=.op (.int .add) l k
abbrev IT.ib(l:List Aa)(k:Aa->IT):IT:=.op (.int .sub) l k
abbrev IT.ih(l:List Aa)(k:Aa->IT):IT:=.op (.int .geq) l k
abbrev IT.ik(l:List Aa)(k:Aa->IT):IT:=.op (.int .leq) l k
abbrev IT.se(l:List Aa)(k:Aa->IT):IT:=.op (.str .eql) l k
abbrev IT.ln(l:List Aa)(k:Aa->IT):IT:=.op (.len false) l k
abbrev IT.lt(l:List Aa)(k:Aa->IT):IT:=.op (.len true) l k
abbrev IT.nt(l:List Aa)(k:Aa->IT):IT:=.op (.un .not) l k
abbrev IT.ca(f:Nat)(l:List Aa)(k:Aa->IT):IT:=.call f l k
abbrev i0:Aa:=I 0
abbrev i1:Aa:=I 1
abbrev tu:Aa:=.tuple []
abbrev pn:Aa:=.ptr none
def bR(c:List Aa):Aa:=.agg [g c 0,g c 1,g c 2,g c 3,g c 4,g c 5,g c 6,g c 7,g c 8,g c 9,g c 10,g c 11,g c 12]
def a13_e{c:List Aa}:bR c=.agg [g c 0,g c 1,g c 2,g c 3,g c 4,g c 5,g c 6,g c 7,g c 8,g c 9,g c 10,g c 11,g c 12]:=rfl
def lq(c:List Aa):Aa:=.agg [g c 0,g c 1,g c 2,g c 3,g c 4,g c 5,g c 6,g c 7,g c 8,g c 9,g c 10,g c 11]
def a12_e{c:List Aa}:lq c=.agg [g c 0,g c 1,g c 2,g c 3,g c 4,g c 5,g c 6,g c 7,g c 8,g c 9,g c 10,g c 11]:=rfl
def a9(c:List Aa):Aa:=.agg [g c 0,g c 1,g c 2,g c 3,g c 4,g c 5,g c 6,g c 7,g c 8]
def a9_e{c:List Aa}:a9 c=.agg [g c 0,g c 1,g c 2,g c 3,g c 4,g c 5,g c 6,g c 7,g c 8]:=rfl
def a6(c:List Aa):Aa:=.agg [g c 0,g c 1,g c 2,g c 3,g c 4,g c 5]
def a6_e{c:List Aa}:a6 c=.agg [g c 0,g c 1,g c 2,g c 3,g c 4,g c 5]:=rfl
def a4(c:List Aa):Aa:=.agg [g c 0,g c 1,g c 2,g c 3]
def a4_e{c:List Aa}:a4 c=.agg [g c 0,g c 1,g c 2,g c 3]:=rfl
def a3(c:List Aa):Aa:=.agg [g c 0,g c 1,g c 2]
def a3_e{c:List Aa}:a3 c=.agg [g c 0,g c 1,g c 2]:=rfl
def ai{a b:Prop}(x:a)(y:b):a/\b:=⟨x,y⟩
def Cr:=ai @a13_e (ai @a12_e (ai @a9_e (ai @a6_e (ai @a4_e (ai @a3_e (ai @aCo (ai @õ (ai @aCp (ai @aCq (ai @aCr (ai @aCs (ai @aCt (ai @NM (ai @ZC (ai @Wr (ai @Ua (ai @Ub (ai @Wp (ai @T8 (ai @T9 (ai @R7 (ai @Mf (ai @Uc (ai @Sa (ai @Sb (ai @Ws (ai @Sc (ai @Ud (ai @OU (ai @Wt (ai @Sd (ai @NN (ai @Pl (ai @Ue (ai @Uf (ai @NO (ai @EK (ai @so (ai @sq (ai @sr (ai @su (ai @sx (ai @sy (ai @s_ (ai @jG (ai @aj (ai @ak (ai @XN (ai @XO (ai @ta (ai @VA (ai @Uh (ai @Ui (ai @VB (ai @XP (ai @nV (ai @nW (ai @nX (ai @tc (ai @tK (ai @eB (ai @Fi (ai @Ln (ai @List.getD_cons_zero.{0} (ai @aBt.{0} (ai @Kk.{0} (ai @QN.{0} (ai @KX.{0} (ai @List.drop_succ_cons.{0} (ai @List.drop_nil.{0} (ai @N8.{0} (ai @VN.{0} (ai @AU.{0} (ai @BK.{0} (ai @CP.{0} (ai @BG.{0} (ai @aEN.{0,0} (ai @List.zip_nil_right.{0,0} (ai @BU.{0,0} (ai @Option.map_none.{0,0} (ai @BC (ai @Rj (ai @Wu (ai @Wv (ai @Uj (ai @Ww (ai @Uk (ai @Se (ai @ZK (ai @Wx (ai @Ul (ai @xT (ai @J1 (ai @Mx (ai @BH.{1} (ai @E9.{1} (ai @VC (@XS))))))))))))))))))))))))))))))))))))))))))))))))))))))))))))))))))))))))))))))))))))))))))))))))))
def ZM:=ai @GU.{0} (ai @beq_self_eq_true.{0} (ai @PD (ai @Bool.bne_false (ai @Gn (ai @DN (ai @AL (ai @AM (ai @AP (ai @AI (ai @Bc (ai @Nat.zero_lt_succ (ai @BU.{0,0} (@List.take_nil.{0})))))))))))))
def abS:=ai Cr ZM
def aaS:type_of%@AB.{0}:=@AB.{0}
def YQ:=ai @DO (ai @CY (ai @Bool.and_true (ai @Bool.true_and (ai @Bool.and_false (ai @Bool.false_and (ai @Bool.or_true (ai @zb (ai @jm (ai @PC (ai @LP.{0} (ai @aEQ.{0} (ai @Option.getD_none.{0} (ai @Option.isSome_none.{0} (ai @BH.{1} (ai @E9.{1} (ai @Dk (ai @J1 (ai @and_false (ai @Mx (ai @false_and (ai @W9 (@C8))))))))))))))))))))))
abbrev Pt(i o:Nat):Aa:=.ptr (some (i,o))
end Go.Am
end
