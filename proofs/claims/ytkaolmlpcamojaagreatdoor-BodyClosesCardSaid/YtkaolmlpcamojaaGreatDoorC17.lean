/- Lemmas -/
import Derived.Test.YtkaolmlpcamojaaGreatDoorC1
import Derived.IntWalk
set_option linter.all false
section
namespace Go.Am
open Go
section
variable{C:FY}{Q:HG}{h:Ah}
def aQ{x:DX}{vs:List Aa}:W C (.ret x vs) Q h↔Q x vs h:=by refine⟨λhw=>?_,aAm⟩;obtain⟨n,x',HZ,h',hr,q⟩:=hw.succ;simp only[IT.step,BB,Ir] at hr;obtain⟨rfl,rfl,rfl⟩:=hr;exact q
def XR:W C .fail Q h↔False:=by refine⟨λhw=>?_,λh=>h.elim⟩;obtain⟨n,x',HZ,h',hr,q⟩:=hw.succ;simp[IT.step] at hr
def aR{Z:Type}(o:Option Z)(f:Z->Prop):Prop:=∃v,o=some v/\f v
def iz{Z:Type}{o o':Option Z}{f:Z->Prop}(h:o=o'):aR o f=aR o' f:=by rw[h]
def NQ{Z:Type}{v:Z}{f:Z->Prop}:aR (some v) f=f v:=propext (by
 constructor;.rintro⟨_,e,h⟩;cases e;exact h
 .intro h;exact⟨v,rfl,h⟩)
def nF{Z:Type}{f:Z->Prop}:aR (none:Option Z) f=False:=propext (by
 constructor;.rintro⟨_,e,_⟩;cases e
 .exact False.elim)
def XS{o:Se}{args:List Aa}{k:Aa->IT}:W C (.op o args k) Q h↔aR (AD o args) λv=>W C (k v) Q h:=by
 refine⟨λhw=>?_,λ⟨v,hv,hw⟩=>aFv hv hw⟩;obtain⟨n,x',HZ,h',hr,q⟩:=hw.succ;simp only[IT.step] at hr;split at hr;.rename_i v hv;exact⟨v,hv,C9 ⟨n,x',HZ,h',hr,q⟩⟩
 .cases hr
def U4{n:Nat}{v:Aa}{k:List Aa->IT}:W C (.cells n v k) Q h↔aR (if v.cells.length=n then some v.cells else none) λl=>W C (k l) Q h:=by
 constructor
 .intro hw;obtain⟨m,x',HZ,h',hr,q⟩:=hw.succ;simp only[IT.step] at hr;split at hr;.rename_i hv;exact⟨_,Af hv,C9 ⟨m,x',HZ,h',hr,q⟩⟩
  .cases hr
 .rintro⟨l,e,hw⟩;split at e;.rename_i hv;cases e;exact xD hv hw
  .cases e
def ZD(v:Aa)(p q:Prop):Prop:=(v= .bool true/\p)\/(v= .bool false/\q)
def sY{v v':Aa}{p q:Prop}(h:v=v'):ZD v p q=ZD v' p q:=by rw[h]
def T1{p q:Prop}:ZD (.bool true) p q=p:=by simp[ZD]
def RG{p q:Prop}:ZD (.bool false) p q=q:=by simp[ZD]
def CS{b:Bool}{p q:Prop}:ZD (.bool b) p q↔(b=true->p)/\(b=false->q):=by cases b<;>simp[ZD]
def XT{c:Prop}[Decidable c]{p q:Prop}:ZD (.bool (decide c)) p q↔(c->p)/\(¬c->q):=by rw[CS];simp
def NR{c:Aa}{t e:IT}:W C (.Gg c t e) Q h↔ZD c (W C t Q h) (W C e Q h):=by
 constructor
 .intro hw;obtain⟨m,x',HZ,h',hr,q⟩:=hw.succ;simp only[IT.step] at hr;split at hr;.exact .inl ⟨rfl,C9 ⟨m,x',HZ,h',hr,q⟩⟩
  .exact .inr ⟨rfl,C9 ⟨m,x',HZ,h',hr,q⟩⟩
  .cases hr
 .rintro(⟨rfl,hw⟩|⟨rfl,hw⟩);.exact xE (λ_=>hw) λh=>by cases h
  .exact xE (λh=>by cases h) λ_=>hw
def XU{n:Option Nat}{p:Aa}{k:Aa->IT}:W C (.load n p k) Q h↔aR (A8 h n p) λv=>W C (k v) Q h:=by
 refine⟨λhw=>?_,λ⟨v,hv,hw⟩=>ov hv hw⟩;obtain⟨m,x',HZ,h',hr,q⟩:=hw.succ;simp only[IT.step] at hr;split at hr;.rename_i v hv;exact⟨v,hv,C9 ⟨m,x',HZ,h',hr,q⟩⟩
 .cases hr
def U5{n:Nat}{p v:Aa}{k:IT}:W C (.store n p v k) Q h↔aR (Cv h n p v) λh1=>W C k Q h1:=by
 refine⟨λhw=>?_,λ⟨v,hv,hw⟩=>xF hv hw⟩;obtain⟨m,x',HZ,h',hr,q⟩:=hw.succ;simp only[IT.step] at hr;split at hr;.rename_i h1 hv;exact⟨h1,hv,C9 ⟨m,x',HZ,h',hr,q⟩⟩
 .cases hr
def U7{n:Nat}{v:Aa}{k:Aa->IT}:W C (.alloc n v k) Q h↔aR (if v.cells.length=n then some v.cells else none) λl=>W C (k (.ptr (some (h.length,0)))) Q (h++[.cells l]):=by
 constructor
 .intro hw;obtain⟨m,x',HZ,h',hr,q⟩:=hw.succ;simp only[IT.step,WY] at hr;by_cases hv:v.cells.length=n;.rw[Af hv] at hr;exact⟨_,Af hv,C9 ⟨m,x',HZ,h',hr,q⟩⟩
  .rw[Ad hv] at hr;cases hr
 .rintro⟨l,e,hw⟩;split at e;.rename_i hv;cases e;exact xG hv hw
  .cases e
def aS{u:Aa}{k:Aa->IT}:W C (.Pk u k) Q h↔aR (KA h u) λx=>W C (k x.2) Q x.1:=by
 refine⟨λhw=>?_,λ⟨(h1,v),hv,hw⟩=>aAn hv hw⟩;obtain⟨m,x',HZ,h',hr,q⟩:=hw.succ;simp only[IT.step] at hr;split at hr;.rename_i h1 v hv;exact⟨(h1,v),hv,C9 ⟨m,x',HZ,h',hr,q⟩⟩
 .cases hr
def U8{off:Nat}{p:Aa}{k:IT}:W C (.Pp off p k) Q h↔aR (Mg h off p) λh1=>W C k Q h1:=by
 refine⟨λhw=>?_,λ⟨h1,hv,hw⟩=>xI hv hw⟩;obtain⟨m,x',HZ,h',hr,q⟩:=hw.succ;simp only[IT.step] at hr;split at hr;.rename_i h1 hv;exact⟨h1,hv,C9 ⟨m,x',HZ,h',hr,q⟩⟩
 .cases hr
def U9{size bytes:Nat}{s x:Aa}{k:Aa->IT}:W C (.Li size bytes s x k) Q h↔aR (KK h size bytes s x) λx=>W C (k x.2) Q x.1:=by
 refine⟨λhw=>?_,λ⟨(h1,v),hv,hw⟩=>xH hv hw⟩;obtain⟨m,x',HZ,h',hr,q⟩:=hw.succ;simp only[IT.step] at hr;split at hr;.rename_i h1 v hv;exact⟨(h1,v),hv,C9 ⟨m,x',HZ,h',hr,q⟩⟩
 .cases hr
def XV{size bytes:Nat}{s x:Aa}{k:Aa->IT}:W C (.JI size bytes s x k) Q h↔aR (Gb h size bytes s x) λx=>W C (k x.2) Q x.1:=by
 refine⟨λhw=>?_,λ⟨(h1,v),hv,hw⟩=>pg hv hw⟩;obtain⟨m,x,HZ,h',hr,q⟩:=hw.succ;simp only[IT.step] at hr;split at hr;.rename_i h1 v hv;exact⟨(h1,v),hv,C9 ⟨m,x,HZ,h',hr,q⟩⟩
 .cases hr
def Rc{size bytes:Nat}{s x:Aa}{k:Aa->IT}:W C (.GC size bytes s x k) Q h↔aR (Q3 h size bytes s x) λv=>W C (k v) Q h:=by
 refine⟨λhw=>?_,λ⟨v,hv,hw⟩=>ZZ hv hw⟩;obtain⟨m,x,HZ,h',hr,q⟩:=hw.succ;simp only[IT.step] at hr;split at hr;.rename_i v hv;exact⟨v,hv,C9 ⟨m,x,HZ,h',hr,q⟩⟩
 .cases hr
def aT{o:lR}{args:List Aa}{k:Aa->IT}:W C (.mem o args k) Q h↔aR (E3 o h args) λx=>W C (k x.2) Q x.1:=by
 refine⟨λhw=>?_,λ⟨(h1,v),hv,hw⟩=>aAo hv hw⟩;obtain⟨n,x,vs,h',hr,q⟩:=hw.succ;simp only[IT.step] at hr;split at hr;.rename_i h1 v hv;exact⟨(h1,v),hv,C9 ⟨n,x,vs,h',hr,q⟩⟩
 .cases hr
def PO{s:Aa}{k:Aa->IT}:W C (.Fa s k) Q h↔aR (IW h s) λx=>W C (k x.2) Q x.1:=by
 refine⟨λhw=>?_,λ⟨(h1,v),hv,hw⟩=>Xj hv hw⟩;obtain⟨m,x',HZ,h',hr,q⟩:=hw.succ;simp only[IT.step] at hr;split at hr;.rename_i h1 v hv;exact⟨(h1,v),hv,C9 ⟨m,x',HZ,h',hr,q⟩⟩
 .cases hr
def RH{k:Aa->IT}:W C (.Po k) Q h↔W C (k (.map (some h.length))) Q (h++[.map []]):=by refine⟨λhw=>?_,o_⟩;obtain⟨m,x',HZ,h',hr,q⟩:=hw.succ;exact C9 ⟨m,x',HZ,h',hr,q⟩
def XW{m key v:Aa}{k:IT}:W C (.Kz m key v k) Q h↔aR (Q2 h m key v) λh1=>W C k Q h1:=by
 refine⟨λhw=>?_,λ⟨h1,hv,hw⟩=>pc hv hw⟩;obtain⟨m,x',HZ,h',hr,q⟩:=hw.succ;simp only[IT.step] at hr;split at hr;.rename_i h1 hv;exact⟨h1,hv,C9 ⟨m,x',HZ,h',hr,q⟩⟩
 .cases hr
def XX{z:Aa}{ok:Bool}{m key:Aa}{k:Aa->IT}:W C (.Mf z ok m key k) Q h↔aR (Pq h z ok m key) λv=>W C (k v) Q h:=by
 refine⟨λhw=>?_,λ⟨h1,hv,hw⟩=>pd hv hw⟩;obtain⟨m,x',HZ,h',hr,q⟩:=hw.succ;simp only[IT.step] at hr;split at hr;.rename_i h1 hv;exact⟨h1,hv,C9 ⟨m,x',HZ,h',hr,q⟩⟩
 .cases hr
def M5{g:Aa}{args:List Aa}{k:Aa->IT}:W C (.Jd g args k) Q h↔aR (Dp g args) λx=>W C (.call x.1 x.2 k) Q h:=by
 constructor
 .intro hw;obtain⟨m,x',HZ,h',hr,q⟩:=hw.succ;simp only[IT.step] at hr;split at hr;.rename_i f as e;refine⟨(f,as),e,C9 ⟨m,x',HZ,h',?_,q⟩⟩;simp only[IT.step];exact hr
  .cases hr
 .rintro⟨⟨f,as⟩,e,hw⟩;obtain⟨m,x',HZ,h',hr,q⟩:=hw.succ;refine C9 ⟨m,x',HZ,h',?_,q⟩;simp only[IT.step,e] at hr⊢;exact hr
def A0{key:Nat}{t:IT}{k:DX->List Aa->IT}:W C (.Of key t k) Q h↔W C t (λx vs h1=>W C (k x vs) Q h1) h:=by
 refine⟨λhw=>?_,pj⟩;obtain⟨m,x',HZ,h',hr,q⟩:=hw.succ;simp only[IT.step] at hr;split at hr;.rename_i x vs h1 e;exact C9 ⟨m,_,_,_,e,C9 ⟨m,x',HZ,h',hr,q⟩⟩
 .cases hr
def BL(C:FY)(f:FuncId)(args:List Aa)(h:Ah)(r:Aa)(h':Ah):Prop:=W C (B9 C f args) (λx vs h1=>x= .ret/\vs=[r]/\h1=h') h
def BL.ev{f:FuncId}{args:List Aa}{r:Aa}{h':Ah}(hr:BL C f args h r h'){R:Aa->Ah->Prop}(hR:R r h'):Ev C f args h R:=
 W.mono hr λ_ _ _ ⟨h1,h2,d⟩=>⟨h1,r,h2,by rw[d];exact hR⟩
def BL.Ac{f:FuncId}{args:List Aa}{r:Aa}{h':Ah}(hr:BL C f args h r h'){k:Aa->IT}:W C (.call f args k) Q h↔W C (k r) Q h':=by
 refine⟨λhw=>?_,λhw=>ph (hr.ev hw)⟩;obtain⟨n,j,i,h1,g,rfl,rfl,rfl⟩:=hr;obtain⟨m,x',HZ,h2,d,q⟩:=hw.succ;simp only[IT.step] at d;split at d;.rename_i r2 o e;simp only[FY.run] at g e;have a1:=IT.Ii (HW n m) g;have a2:=IT.Ii (Hn n m) e;rw[a1] at a2;cases a2;exact C9 ⟨m,x',HZ,h2,d,q⟩
 .cases d
def JM(C:FY)(f:FuncId)(args:List Aa)(r:Aa):Prop:=Ev C f args [] λx _=>x=r
def JM.B7{f:FuncId}{args:List Aa}{r:Aa}(hr:JM C f args r)(ha:args.all Aa.MT=true)(hf:r.MT=true){k:Aa->IT}:W C (.B7 f args k) Q h↔W C (k r) Q h:=by
 refine⟨λhw=>?_,λhw=>N_ ha (hr.mono λx _ e=>by rw[e];exact⟨hf,hw⟩)⟩;obtain⟨n,j,i,h1,g,rfl,y,rfl,rfl⟩:=hr;obtain⟨m,x',HZ,h2,d,q⟩:=hw.succ;simp only[IT.step,ha,BN] at d;simp only[FY.run] at g d;have a1:=IT.Ii (HW n m) g;cases hc:IT.run (B9 C) m (B9 C f args) [] with
 |none=>rw[hc] at d;cases d
 |some z=>have a2:=IT.Ii (Hn n m) hc;rw[a1] at a2;cases a2;rw[hc] at d;simp only[hf,BN] at d;exact C9 ⟨m,x',HZ,h2,d,q⟩
end
def à{C:FY}{t t':IT}{Q:HG}{h h':Ah}(e:t=t')(d:h=h'):W C t Q h=W C t' Q h':=by rw[e,d]
def tn{o:Se}{args args':List Aa}{k:Aa->IT}(e:args=args'):IT.op o args k=IT.op o args' k:=by rw[e]
def nG{n:Nat}{v v':Aa}{k:List Aa->IT}(e:v=v'):IT.cells n v k=IT.cells n v' k:=by rw[e]
def i_{v v':Aa}{s t:IT}(e:v=v'):IT.Gg v s t=IT.Gg v' s t:=by rw[e]
def sZ{n:Option Nat}{v v':Aa}{k:Aa->IT}(e:v=v'):IT.load n v k=IT.load n v' k:=by rw[e]
def nH{n:Nat}{p p' v v':Aa}{k:IT}(d:p=p')(e:v=v'):IT.store n p v k=IT.store n p' v' k:=by rw[e,d]
def nI{n:Nat}{v v':Aa}{k:Aa->IT}(e:v=v'):IT.alloc n v k=IT.alloc n v' k:=by rw[e]
def tC{f:FuncId}{args args':List Aa}{k:Aa->IT}(e:args=args'):IT.call f args k=IT.call f args' k:=by rw[e]
def nJ{f:FuncId}{args args':List Aa}{k:Aa->IT}(e:args=args'):IT.B7 f args k=IT.B7 f args' k:=by rw[e]
def nK{f f':Aa}{args args':List Aa}{k:Aa->IT}(d:f=f')(e:args=args'):IT.Jd f args k=IT.Jd f' args' k:=by rw[e,d]
def tD{key:Nat}{i d:List Aa}{b:List Aa->IT}{k:DX->List Aa->IT}(e:i=d):IT.loop key i b k=IT.loop key d b k:=by rw[e]
def tE{key:Nat}{b:IT}{k:DX->List Aa->IT}:IT.Of key b k=IT.Of key b k:=rfl
def ja{v v':Aa}{k:Aa->IT}(e:v=v'):IT.Pk v k=IT.Pk v' k:=by rw[e]
def nL{size bytes:Nat}{s s' x x':Aa}{k:Aa->IT}(e:s=s')(d:x=x'):IT.Li size bytes s x k=IT.Li size bytes s' x' k:=by rw[e,d]
def tF{size bytes:Nat}{s s' x x':Aa}{k:Aa->IT}(e:s=s')(d:x=x'):IT.JI size bytes s x k=IT.JI size bytes s' x' k:=by rw[e,d]
def jb{o:lR}{args args':List Aa}{k:Aa->IT}(e:args=args'):IT.mem o args k=IT.mem o args' k:=by rw[e]
def ZE{size bytes:Nat}{s s' x x':Aa}{k:Aa->IT}(e:s=s')(d:x=x'):IT.GC size bytes s x k=IT.GC size bytes s' x' k:=by rw[e,d]
def nM{off:Nat}{p p':Aa}{k:IT}(e:p=p'):IT.Pp off p k=IT.Pp off p' k:=by rw[e]
def XY{s s':Aa}{k:Aa->IT}(e:s=s'):IT.Fa s k=IT.Fa s' k:=by rw[e]
def tG{m m' key key' v v':Aa}{k:IT}(e:m=m')(f:key=key')(d:v=v'):IT.Kz m key v k=IT.Kz m' key' v' k:=by rw[e,f,d]
def tH{z:Aa}{ok:Bool}{m m' key key':Aa}{k:Aa->IT}(e:m=m')(d:key=key'):IT.Mf z ok m key k=IT.Mf z ok m' key' k:=by rw[e,d]
attribute [congr] iz sY à tn nG i_ sZ nH nI tC nJ nK tD tE ja nM tF ZE jb nL XY tG tH
attribute [simp] NQ nF T1 RG XT CS aQ XR XS U4 NR XU U5 U7 aS U8 XV Rc aT U9 PO RH XW XX M5 A0
section
variable{k:IntKind}{a b:Int}{s t:Ai}
@[simp] theorem aCy:AD (.int .eql) [.int k a,.int k b]=some (.bool (decide (a=b))):=by cases k<;>rfl
@[simp] theorem aCz:AD (.int .neq) [.int k a,.int k b]=some (.bool (decide (a≠b))):=by
 have e:AD (.int .neq) [.int k a,.int k b]=some (.bool (!(a==b))):=by cases k<;>rfl
 rw[e];by_cases h:a=b<;>simp[h]
@[simp] theorem aCA:AD (.int .lss) [.int k a,.int k b]=some (.bool (decide (a<b))):=by cases k<;>rfl
@[simp] theorem aCB:AD (.int .leq) [.int k a,.int k b]=some (.bool (decide (a<=b))):=by cases k<;>rfl
@[simp] theorem aCC:AD (.int .gtr) [.int k a,.int k b]=some (.bool (decide (b<a))):=by cases k<;>rfl
@[simp] theorem aCD:AD (.int .geq) [.int k a,.int k b]=some (.bool (decide (b<=a))):=by cases k<;>rfl
def dW:AD (.int .add) [.int k a,.int k b]=some (.int k (k.wrap (a+b))):=by cases k<;>rfl
def tI:AD (.int .sub) [.int k a,.int k b]=some (.int k (k.wrap (a-b))):=by cases k<;>rfl
@[simp] theorem aCE {b:Bool}:AD (.un .not) [.bool b]=some (.bool (!b)):=rfl
@[simp] theorem yF:AD (.str .eql) [.str s,.str t]=some (.bool (decide (s=t))):=by
 show some (Aa.bool (s==t))=_;congr 2
 by_cases h:s=t<;>simp[h]
@[simp] theorem á:AD (.str .neq) [.str s,.str t]=some (.bool (decide (s≠t))):=by
 show some (Aa.bool (!(s==t)))=_;congr 2
 by_cases h:s=t<;>simp[h]
@[simp] theorem â:AD (.len true) [.str s]=some (.int .i64 s.length):=rfl
@[simp] theorem aJW {i:Int}:AD .Zo [.str s,.int k i]=if 0<=i then(s[i.toNat]?).map λb=> .int .u8 b.toNat else none:=rfl
@[simp] theorem dX {off:Nat} {cs:List Aa}:AD (.part off none) [.agg cs]=cs[off]?:=rfl
@[simp] theorem dY {off n:Nat} {cs:List Aa}:AD (.part off (some n)) [.agg cs]=if off+n<=cs.length then some (.agg ((cs.drop off).take n)) else none:=rfl
@[simp] theorem aCF {i:Nat} {vs:List Aa}:AD (.ext i) [.tuple vs]=vs[i]?:=rfl
@[simp] theorem ZF {p:Nat×Nat}:AD .JH [.ptr (some p)]=some (.ptr (some p)):=rfl
@[simp] theorem XZ {cs:List Aa}:AD .JH [.CH cs]=some (.CH cs):=rfl
@[simp] theorem X0 {f:FuncId} {a b:List Aa}:AD .JH [.func (.func f) a b]=some (.func (.func f) a b):=rfl
@[simp] theorem ZG {off:Nat} {cs:List Aa}:AD (.Lh off) [.CH cs]=some (.CH (cs.drop off)):=rfl
@[simp] theorem dZ {off id o:Nat}:AD (.Lh off) [.ptr (some (id,o))]=some (.ptr (some (id,o+off))):=rfl
@[simp] theorem jc {neg:Bool}:AD (.peq neg) [.ptr none,.ptr none]=some (.bool (true != neg)):=rfl
@[simp] theorem jd {neg:Bool} {p:Nat×Nat}:AD (.peq neg) [.ptr (some p),.ptr none]=some (.bool (false != neg)):=rfl
@[simp] theorem je {neg:Bool} {p:Nat×Nat}:AD (.peq neg) [.ptr none,.ptr (some p)]=some (.bool (false != neg)):=rfl
@[simp] theorem aCG {neg a b:Bool}:AD (.beq neg) [.bool a,.bool b]=some (.bool ((a==b) != neg)):=rfl
@[simp] theorem aJX {c:Bool} {a b:Aa}:AD .pick [.bool c,a,b]=some (if c then a else b):=rfl
@[simp] theorem Qt {l:IntKind}:AD (.conv l) [.int k a]=some (.int l (l.wrap a)):=rfl
@[simp] theorem tq {zero args:List Aa} {places:List (Nat×Nat)}:AD (.Co zero places) args=if places.length=args.length then(AR zero (places.zip args)).map .agg else none:=rfl
@[simp] theorem RI {neg:Bool} {ks:List FK} {x y:List Aa}:AD (.geq neg ks) [.agg x,.agg y]=(D8 ks x y).map λe=> .bool (e != neg):=rfl
@[simp] theorem tr:AD (.LB false) [.int k a,.int k b]=some (.int k (if b<a then b else a)):=by simp[AD]
@[simp] theorem eB:AD (.LB true) [.int k a,.int k b]=some (.int k (if a<b then b else a)):=by simp[AD]
@[simp] theorem X1 {h:Ah} {n:Option Nat} {cs:List Aa}:A8 h n (.CH cs)=Ft cs 0 n:=rfl
@[simp] theorem E6 {off:Nat} {cs:List Aa}:Ft cs off none=cs[off]?:=rfl
@[simp] theorem M6 {off n:Nat} {cs:List Aa}:Ft cs off (some n)=if off+n<=cs.length then some (.agg ((cs.drop off).take n)) else none:=rfl
@[simp] theorem wrap_i64 (h1: -9223372036854775808<=a) (h2:a<9223372036854775808):IntKind.i64.wrap a=a:=by rw[IntKind.wrap_i64];omega
end
def T2{cs:List Aa}:Aa.cells (.agg cs)=cs:=rfl
def aU{k:IntKind}{n:Int}:Aa.cells (.int k n)=[.int k n]:=rfl
def Qu{s:Ai}:Aa.cells (.str s)=[.str s]:=rfl
def X2{b:Bool}:Aa.cells (.bool b)=[.bool b]:=rfl
def aV{p:Option (Nat×Nat)}:Aa.cells (.ptr p)=[.ptr p]:=rfl
def X3{p:List Aa}:Aa.cells (.CH p)=[.CH p]:=rfl
def Va:Aa.cells .slnil=[.slnil]:=rfl
def nN{z:Nat}{r:List (List Aa)}:Aa.cells (.sl z r)=[.sl z r]:=rfl
def aW{i o l z:Nat}:Aa.cells (.CF i o l z)=[.CF i o l z]:=rfl
def X4{f:Fn}{a b:List Aa}:Aa.cells (.func f a b)=[.func f a b]:=rfl
attribute [simp] AR D8 LC Dp T2 aU Qu X2 aV X3 Va nN aW X4
def AU(z:Nat)(AE:List (List Aa))(v:Aa):Prop:=v= .sl z AE\/(v= .slnil/\AE=[])
section
variable{z:Nat}{AE:List (List Aa)}{v:Aa}
def AU.mk:AU z AE (.sl z AE):= .inl rfl
def AU.nil:AU z [] .slnil:= .inr ⟨rfl,rfl⟩
def AU.cells(h:AU z AE v):v.cells=[v]:=by rcases h with rfl|⟨rfl,rfl⟩<;>rfl
def AU.len(h:AU z AE v):AD (.len false) [v]=some (.int .i64 AE.length):=by rcases h with rfl|⟨rfl,rfl⟩<;>rfl
def AU.Fl(h:AU z AE v){k:IntKind}{n:Nat}(hn:n<AE.length):AD (.Fl z) [v,.int k (n:Int)]=some (.CH AE[n]):=by
 rcases h with rfl|⟨rfl,rfl⟩
 .simp[AD,elemOf,hn]
 .simp at hn
end
end Go.Am
end
section
namespace Go.Am
open Go
section
variable{C:FY}{Q:HG}{h:Ah}
def PQ{key:Nat}{vs:List Aa}{body:List Aa->IT}{k:DX->List Aa->IT}
  (hw:W C (body vs) (λx d h1=>(x= .normal/\W C (.loop key d body k) Q h1)\/(x≠ .normal/\W C (k x d) Q h1)) h):W C (.loop key vs body k) Q h:=by
 obtain⟨m,x,d,h1,hr,Jf⟩:=hw.succ;rcases Jf with⟨rfl,hw⟩|⟨hx,hw⟩
 .obtain⟨m',x',HZ,h',FZ,q⟩:=hw;refine C9 ⟨max m m',x',HZ,h',?_,q⟩;have f:=IT.JS (λt h r=>IT.Ii (fn:=B9 C) (HW m m')) _ _ _ hr;have e:=IT.Ii (Hn m m') FZ;simp only[IT.step];simp only[FY.run] at*;rw[f];exact e
 .obtain⟨m',x',HZ,h',FZ,q⟩:=hw.succ;refine C9 ⟨max m m',x',HZ,h',?_,q⟩;have f:=IT.JS (λt h r=>IT.Ii (fn:=B9 C) (HW m m')) _ _ _ hr;have e:=IT.JS (λt h r=>IT.Ii (fn:=B9 C) (Hn m m')) _ _ _ FZ;simp only[IT.step];simp only[FY.run] at*;rw[f];cases x<;>first|exact absurd rfl hx|exact e
def AK{U:Type}(C:FY)(enc:U->List Aa)(D6:U->Ah->Prop)(O:U->Nat)(k:DX->List Aa->IT)(Q:HG)(s:U):HG:=
 λx vs h1=>(x= .normal/\∃s',vs=enc s'/\D6 s' h1/\O s'<O s)\/(x≠ .normal/\W C (k x vs) Q h1)
variable{U:Type}{enc:U->List Aa}{D6:U->Ah->Prop}{O:U->Nat}{k:DX->List Aa->IT}{s:U}{vs:List Aa}
def AK.next(s':U)(e:vs=enc s')(hi:D6 s' h)(hl:O s'<O s):AK C enc D6 O k Q s .normal vs h:= .inl ⟨rfl,s',e,hi,hl⟩
def ZH{i:Nat}:AK C enc D6 O k Q s (.exit i) vs h↔W C (k (.exit i) vs) Q h:=by simp[AK]
def eC:AK C enc D6 O k Q s .ret vs h↔W C (k .ret vs) Q h:=by simp[AK]
def Bi{key:Nat}{init:List Aa}{body:List Aa->IT}(enc:U->List Aa)(D6:U->Ah->Prop)(O:U->Nat)(s0:U)(h0:init=enc s0)(hi:D6 s0 h)
  (round:∀s h,D6 s h->W C (body (enc s)) (AK C enc D6 O k Q s) h):W C (.loop key init body k) Q h:=by
 subst h0;have key:∀n s h,O s=n->D6 s h->W C (.loop key (enc s) body k) Q h:=by
  intro n;induction n using Nat.strongRecOn with
  |_ n ih=>
   intro s h hn hI;refine PQ (W.mono (round s h hI) ?_);rintro x vs h1 (⟨rfl,s',rfl,qu,hl⟩|⟨hx,hw⟩);.exact .inl ⟨rfl,ih _ (hn▸hl) s' h1 rfl qu⟩
   .exact .inr ⟨hx,hw⟩
 exact key _ s0 h rfl hi
end
section
variable{k l:IntKind}{s:Ai}
def Fw{n:Nat}(hn:n<s.length):AD .Zo [.str s,.int k (n:Int)]=some (.int .u8 (s[n].toNat:Int)):=by simp[hn]
def BM{n:Nat}(hn:n<9223372036854775807):AD (.int .add) [.int .i64 (n:Int),.int .i64 1]=some (.int .i64 ((n+1:Nat):Int)):=by rw[dW,wrap_i64 Ab Ab];rfl
def Il{n:Nat}(h0:0<n)(hn:n<9223372036854775807):AD (.int .sub) [.int .i64 (n:Int),.int .i64 1]=some (.int .i64 ((n-1:Nat):Int)):=by rw[tI,wrap_i64 Ab Ab];congr 2;omega
def Mo{a b z:Nat}(Zl:a<=b)(hb:b<=s.length):AD (.K0 z true true true) [.str s,.int k (a:Int),.int l (b:Int)]=some (.str ((s.take b).drop a)):=by
 have e:Fm (b:Int) s.length=some b:=by unfold Fm;rw[Af Ab];rfl
 have d:Fm (a:Int) b=some a:=by unfold Fm;rw[Af Ab];rfl
 simp[AD,Kd,Ed,e,d]
end
section
variable{z b:Nat}{r r2:List (List Aa)}{row:List Aa}{v v2:Aa}
def AU.tJ(h:AU z r v)(hb:(r.length+1)*b<=AX):AD (.append z b) [v,.sl z [row]]=some (.sl z (r++[row])):=by
 rcases h with rfl|⟨rfl,rfl⟩
 .simp[AD,HY,DO,hb]
 .have:1*b<=AX:=by simpa using hb
  simp only[D7] at this;simp[AD,HY,DO,this]
def AU.HJ(h:AU z r v)(h2:AU z r2 v2)(hb:(r.length+r2.length)*b<=AX):∃u,AD (.append z b) [v,v2]=some u/\AU z (r++r2) u:=by
 have hnil:∃u,DO z b v []=some u/\AU z (r++[]) u:=by
  rcases h with rfl|⟨rfl,rfl⟩
  .exact⟨.sl z r,by simp[DO],by rw[By];exact .mk⟩
  .exact⟨_,rfl,.nil⟩
 rcases h2 with rfl|⟨rfl,rfl⟩
 .cases r2 with
  |nil=>obtain⟨u,e,hu⟩:=hnil;exact⟨u,by simpa[AD,HY] using e,hu⟩
  |cons x l=>
   refine⟨.sl z (r++x::l),?_,.mk⟩;rcases h with rfl|⟨rfl,rfl⟩
   .simp only[AD,HY,BN,DO];rw[Af ⟨trivial,hb⟩]
   .simp only[AD,HY,BN,DO];rw[Af (by simpa using hb)];rfl
 .obtain⟨u,e,hu⟩:=hnil;exact⟨u,by simpa[AD,HY] using e,hu⟩
def AU.Pk(h:AU z r v){hp:Ah}:KA hp v=some (hp,v):=by rcases h with rfl|⟨rfl,rfl⟩<;>rfl
def RJ(s:Ai):MW (Cf s)=some s:=by
 induction s with
 |nil=>rfl
 |cons c s ih=>have e:Cf (c::s)=[.int .u8 c.toNat]::Cf s:=rfl;rw[e,MW,ih];simp
def AU.WV{s:Ai}(h:AU 1 (Cf s) v):AD .WV [v]=some (.str s):=by
 rcases h with rfl|⟨rfl,h⟩
 .simp[AD,WX,RJ]
 .have e:s=[]:=by simpa[Cf] using h
  subst e;rfl
def Rd(s t:Ai):Cf (s++t)=Cf s++Cf t:=by simp[Cf]
def ZI(s:Ai):(Cf s).length=s.length:=by simp[Cf]
end
@[simp] theorem yG {z:Nat} {args:List Aa}:AD (.Dm z) args=if args.all (λa=>a.cells.length==z)&&decide (args.length*z<=16777216) then some (.sl z (args.map (·.cells))) else none:=rfl
def Mp{a:Aa}{z:Nat}(h:a.cells.length=z)(hz:z<=16777216):AD (.Dm z) [a]=some (.sl z [a.cells]):=by simp[h,hz]
def wrap_u8{a:Int}(h:0<=a/\a<=255):IntKind.u8.wrap a=a:=IntWalk.u8_in a h
def tw{a:Int}(h: -2147483648<=a/\a<=2147483647):IntKind.i32.wrap a=a:=IntWalk.i32_in a h
def Ae{C:FY}{f:FuncId}{args:List Aa}{h h':Ah}{r:Aa}:BL C f args h r h'↔W C (B9 C f args) (λx vs h1=>x= .ret/\vs=[r]/\h1=h') h:=aEF
abbrev B_(C:FY)(f:FuncId)(t:Aa->IT):Prop:=∀a0,B9 C f [a0]=t a0
abbrev Tq2(C:FY)(f:FuncId)(t:Aa->Aa->IT):Prop:=∀a0 a1,B9 C f [a0,a1]=t a0 a1
abbrev Tq3(C:FY)(f:FuncId)(t:Aa->Aa->Aa->IT):Prop:=∀a0 a1 a2,B9 C f [a0,a1,a2]=t a0 a1 a2
abbrev Tq4(C:FY)(f:FuncId)(t:Aa->Aa->Aa->Aa->IT):Prop:=∀a0 a1 a2 a3,B9 C f [a0,a1,a2,a3]=t a0 a1 a2 a3
abbrev Tq5(C:FY)(f:FuncId)(t:Aa->Aa->Aa->Aa->Aa->IT):Prop:=∀a0 a1 a2 a3 a4,B9 C f [a0,a1,a2,a3,a4]=t a0 a1 a2 a3 a4
def IT.fa(p:Aa)(k:Nat)(K:Aa->Aa->IT):IT:= .op .JH [p] λa=> .op (.Lh k) [a] λb=>K a b
def IT.PR(p:Aa)(k:Nat)(K:Aa->Aa->Aa->IT):IT:= .op .JH [p] λa=> .op (.Lh k) [a] λb=> .load none b λc=>K a b c
def IT.fl(p:Aa)(k:Nat)(K:Aa->Aa->IT):IT:= .op (.Lh k) [p] λa=> .load none a λb=>K a b
def nx(A R:List Aa->IT):DX->List Aa->IT:=λx c=>match x with
 | .normal=>A c
 | .exit _=> .fail
 | .ret=>R c
def lx(k:Nat)(A R:List Aa->IT):DX->List Aa->IT:=λx c=>match x with
 | .normal=> .fail
 | .exit i=>if i=k then A c else .fail
 | .ret=>R c
section
variable{C:FY}{Q:HG}{h:Ah}{p:Aa}{k:Nat}{A R:List Aa->IT}{c:List Aa}
def aLC{K:Aa->Aa->IT}:W C (IT.fa p k K) Q h=W C (.op .JH [p] λa=> .op (.Lh k) [a] λb=>K a b) Q h:=rfl
def aGi{K:Aa->Aa->Aa->IT}:W C (IT.PR p k K) Q h=W C (.op .JH [p] λa=> .op (.Lh k) [a] λb=> .load none b λc=>K a b c) Q h:=rfl
def aLD{K:Aa->Aa->IT}:W C (IT.fl p k K) Q h=W C (.op (.Lh k) [p] λa=> .load none a λb=>K a b) Q h:=rfl
def aLE:nx A R .normal c=A c:=rfl
def aLF:nx A R .ret c=R c:=rfl
def aLG:lx k A R (.exit k) c=A c:=Af rfl
def aLH:lx k A R .ret c=R c:=rfl
end
def Du:Ai->Ai->List Ai
 |cur,[]=>[cur]
 |cur,c::r=>if c=32 then cur::Du [] r else Du (cur++[c]) r
def NS:List Ai:=Du [] aUb
def swv(s:Aa)(t e:IT):List (List UInt8)->IT
 |[]=>e
 |c::cs=>.op (.str .eql) [s,.str c] λv=>.Gg v t (swv s t e cs)
abbrev IT.rr(l:List Aa):IT:=.ret .ret l
abbrev IT.rn(l:List Aa):IT:=.ret .normal l
abbrev IT.rx(n:Nat)(l:List Aa):IT:=.ret (.exit n) l
abbrev IT.ea(n:Nat)(l:List Aa)(k:Aa->IT):IT:=.op (.Fl n) l k
abbrev IT.ld(p:Aa)(k:Aa->IT):IT:=.load none p k
abbrev IT.ie(l:List Aa)(k:Aa->IT):IT:=.op (.int .eql) l k
abbrev IT.iq(l:List Aa)(k:Aa->IT):IT:=.op (.int .neq) l k
abbrev IT.il(l:List Aa)(k:Aa->IT):IT:=.op (.int .lss) l k
abbrev IT.ig(l:List Aa)(k:Aa->IT):IT:=.op (.int .gtr) l k
abbrev IT.ia(l:List Aa)(k:Aa->IT):IT:=.op (.int .add) l k
abbrev IT.ib(l:List Aa)(k:Aa->IT):IT:=.op (.int .sub) l k
abbrev IT.ih(l:List Aa)(k:Aa->IT):IT:=.op (.int .geq) l k
abbrev IT.ik(l:List Aa)(k:Aa->IT):IT:=.op (.int .leq) l k
abbrev IT.se(l:List Aa)(k:Aa->IT):IT:=.op (.str .eql) l k
abbrev IT.ln(l:List Aa)(k:Aa->IT):IT:=.op (.len false) l k
abbrev IT.lt(l:List Aa)(k:Aa->IT):IT:=.op (.len true) l k
abbrev IT.nt(l:List Aa)(k:Aa->IT):IT:=.op (.un .not) l k
abbrev IT.ca(f:Nat)(l:List Aa)(k:Aa->IT):IT:=.call f l k
abbrev i0:Aa:=I 0
abbrev i1:Aa:=I 1
abbrev tu:Aa:=.tuple []
abbrev pn:Aa:=.ptr none
def a13(c:List Aa):Aa:=.agg [g c 0,g c 1,g c 2,g c 3,g c 4,g c 5,g c 6,g c 7,g c 8,g c 9,g c 10,g c 11,g c 12]
def a13_e{c:List Aa}:a13 c=.agg [g c 0,g c 1,g c 2,g c 3,g c 4,g c 5,g c 6,g c 7,g c 8,g c 9,g c 10,g c 11,g c 12]:=rfl
def a12(c:List Aa):Aa:=.agg [g c 0,g c 1,g c 2,g c 3,g c 4,g c 5,g c 6,g c 7,g c 8,g c 9,g c 10,g c 11]
def a12_e{c:List Aa}:a12 c=.agg [g c 0,g c 1,g c 2,g c 3,g c 4,g c 5,g c 6,g c 7,g c 8,g c 9,g c 10,g c 11]:=rfl
def a9(c:List Aa):Aa:=.agg [g c 0,g c 1,g c 2,g c 3,g c 4,g c 5,g c 6,g c 7,g c 8]
def a9_e{c:List Aa}:a9 c=.agg [g c 0,g c 1,g c 2,g c 3,g c 4,g c 5,g c 6,g c 7,g c 8]:=rfl
def a6(c:List Aa):Aa:=.agg [g c 0,g c 1,g c 2,g c 3,g c 4,g c 5]
def a6_e{c:List Aa}:a6 c=.agg [g c 0,g c 1,g c 2,g c 3,g c 4,g c 5]:=rfl
def a4(c:List Aa):Aa:=.agg [g c 0,g c 1,g c 2,g c 3]
def a4_e{c:List Aa}:a4 c=.agg [g c 0,g c 1,g c 2,g c 3]:=rfl
def a3(c:List Aa):Aa:=.agg [g c 0,g c 1,g c 2]
def a3_e{c:List Aa}:a3 c=.agg [g c 0,g c 1,g c 2]:=rfl
def ai{a b:Prop}(x:a)(y:b):a/\b:=⟨x,y⟩
def BD:=ai @a13_e (ai @a12_e (ai @a9_e (ai @a6_e (ai @a4_e (ai @a3_e (ai @aLC (ai @aGi (ai @aLD (ai @aLE (ai @aLF (ai @aLG (ai @aLH (ai @NQ (ai @nF (ai @T1 (ai @RG (ai @XT (ai @aQ (ai @XR (ai @XS (ai @U4 (ai @NR (ai @XU (ai @U5 (ai @U7 (ai @aS (ai @U8 (ai @XV (ai @Rc (ai @aT (ai @U9 (ai @PO (ai @RH (ai @XW (ai @XX (ai @M5 (ai @A0 (ai @aCy (ai @aCz (ai @aCA (ai @aCB (ai @aCC (ai @aCD (ai @aCE (ai @yF (ai @á (ai @â (ai @dX (ai @dY (ai @aCF (ai @ZF (ai @XZ (ai @X0 (ai @ZG (ai @dZ (ai @jc (ai @jd (ai @je (ai @aCG (ai @tq (ai @X1 (ai @E6 (ai @M6 (ai @aKy.{0} (ai @aKz.{0} (ai @IS.{0} (ai @LU.{0} (ai @MH.{0} (ai @List.drop_succ_cons.{0} (ai @aAc.{0} (ai @Ku.{0} (ai @ZT.{0} (ai @A9.{0} (ai @BJ.{0} (ai @CC.{0} (ai @BR.{0} (ai @aOE.{0,0} (ai @List.zip_nil_right.{0,0} (ai @B0.{0,0} (ai @Option.map_none.{0,0} (ai @BV (ai @T2 (ai @aU (ai @Qu (ai @X2 (ai @aV (ai @X3 (ai @Va (ai @nN (ai @aW (ai @X4 (ai @qM (ai @ML (ai @MO (ai @BN.{1} (ai @DQ.{1} (ai @ZH (@eC))))))))))))))))))))))))))))))))))))))))))))))))))))))))))))))))))))))))))))))))))))))))))))))))))
def lO:=ai @Ib.{0} (ai @beq_self_eq_true.{0} (ai @R5 (ai @zw (ai @R2 (ai @IU (ai @AA (ai @Az (ai @Av (ai @Aq (ai @Bv (ai @Nat.zero_lt_succ (ai @B0.{0,0} (@aAd.{0})))))))))))))
def abS:=ai BD lO
def aaS:type_of%@AI.{0}:=@AI.{0}
def JZ:=ai @Dz (ai @DH (ai @Bool.and_true (ai @Bool.true_and (ai @zu (ai @zx (ai @aEG (ai @Uz (ai @JF (ai @Hl (ai @Fg.{0} (ai @lI.{0} (ai @wQ.{0} (ai @aOH.{0} (ai @BN.{1} (ai @DQ.{1} (ai @Cj (ai @ML (ai @aBy (ai @MO (ai @Zn (ai @aAe (@Dr))))))))))))))))))))))
abbrev Pt(i o:Nat):Aa:=.ptr (some (i,o))
end Go.Am
end
