/- Lemmas -/
import Derived.Test.YtlcmmpgfafpoiaaGreatDoorT1
import Derived.IntWalk
set_option linter.all false
section
namespace Go.Am
open Go
section
variable{C:F8}{Q:HF}{h:Ah}
def aU{x:DX}{vs:List Aa}:W C (.ret x vs) Q h↔Q x vs h:=by refine⟨λhw=>?_,aAn⟩;obtain⟨n,x',HS,h',hr,q⟩:=hw.succ;simp only[IT.step,BD,Io] at hr;obtain⟨rfl,rfl,rfl⟩:=hr;exact q
def XL:W C .fail Q h↔False:=by refine⟨λhw=>?_,λh=>h.elim⟩;obtain⟨n,x',HS,h',hr,q⟩:=hw.succ;simp[IT.step] at hr
def aV{Z:Type}(o:Option Z)(f:Z->Prop):Prop:=∃v,o=some v/\f v
def iw{Z:Type}{o o':Option Z}{f:Z->Prop}(h:o=o'):aV o f=aV o' f:=by rw[h]
def NP{Z:Type}{v:Z}{f:Z->Prop}:aV (some v) f=f v:=propext (by
 constructor;.rintro⟨_,e,h⟩;cases e;exact h
 .intro h;exact⟨v,rfl,h⟩)
def nE{Z:Type}{f:Z->Prop}:aV (none:Option Z) f=False:=propext (by
 constructor;.rintro⟨_,e,_⟩;cases e
 .exact False.elim)
def XM{o:RZ}{args:List Aa}{k:Aa->IT}:W C (.op o args k) Q h↔aV (AB o args) λv=>W C (k v) Q h:=by
 refine⟨λhw=>?_,λ⟨v,hv,hw⟩=>aFm hv hw⟩;obtain⟨n,x',HS,h',hr,q⟩:=hw.succ;simp only[IT.step] at hr;split at hr;.rename_i v hv;exact⟨v,hv,C7 ⟨n,x',HS,h',hr,q⟩⟩
 .cases hr
def UQ{n:Nat}{v:Aa}{k:List Aa->IT}:W C (.cells n v k) Q h↔aV (if v.cells.length=n then some v.cells else none) λl=>W C (k l) Q h:=by
 constructor
 .intro hw;obtain⟨m,x',HS,h',hr,q⟩:=hw.succ;simp only[IT.step] at hr;split at hr;.rename_i hv;exact⟨_,Af hv,C7 ⟨m,x',HS,h',hr,q⟩⟩
  .cases hr
 .rintro⟨l,e,hw⟩;split at e;.rename_i hv;cases e;exact wN hv hw
  .cases e
def ZG(v:Aa)(p q:Prop):Prop:=(v= .bool true/\p)\/(v= .bool false/\q)
def sQ{v v':Aa}{p q:Prop}(h:v=v'):ZG v p q=ZG v' p q:=by rw[h]
def TO{p q:Prop}:ZG (.bool true) p q=p:=by simp[ZG]
def Rv{p q:Prop}:ZG (.bool false) p q=q:=by simp[ZG]
def CT{b:Bool}{p q:Prop}:ZG (.bool b) p q↔(b=true->p)/\(b=false->q):=by cases b<;>simp[ZG]
def XN{c:Prop}[Decidable c]{p q:Prop}:ZG (.bool (decide c)) p q↔(c->p)/\(¬c->q):=by rw[CT];simp
def NQ{c:Aa}{t e:IT}:W C (.Gg c t e) Q h↔ZG c (W C t Q h) (W C e Q h):=by
 constructor
 .intro hw;obtain⟨m,x',HS,h',hr,q⟩:=hw.succ;simp only[IT.step] at hr;split at hr;.exact .inl ⟨rfl,C7 ⟨m,x',HS,h',hr,q⟩⟩
  .exact .inr ⟨rfl,C7 ⟨m,x',HS,h',hr,q⟩⟩
  .cases hr
 .rintro(⟨rfl,hw⟩|⟨rfl,hw⟩);.exact wO (λ_=>hw) λh=>by cases h
  .exact wO (λh=>by cases h) λ_=>hw
def XO{n:Option Nat}{p:Aa}{k:Aa->IT}:W C (.load n p k) Q h↔aV (A7 h n p) λv=>W C (k v) Q h:=by
 refine⟨λhw=>?_,λ⟨v,hv,hw⟩=>o_ hv hw⟩;obtain⟨m,x',HS,h',hr,q⟩:=hw.succ;simp only[IT.step] at hr;split at hr;.rename_i v hv;exact⟨v,hv,C7 ⟨m,x',HS,h',hr,q⟩⟩
 .cases hr
def UR{n:Nat}{p v:Aa}{k:IT}:W C (.store n p v k) Q h↔aV (Co h n p v) λh1=>W C k Q h1:=by
 refine⟨λhw=>?_,λ⟨v,hv,hw⟩=>wQ hv hw⟩;obtain⟨m,x',HS,h',hr,q⟩:=hw.succ;simp only[IT.step] at hr;split at hr;.rename_i h1 hv;exact⟨h1,hv,C7 ⟨m,x',HS,h',hr,q⟩⟩
 .cases hr
def US{n:Nat}{v:Aa}{k:Aa->IT}:W C (.alloc n v k) Q h↔aV (if v.cells.length=n then some v.cells else none) λl=>W C (k (.ptr (some (h.length,0)))) Q (h++[.cells l]):=by
 constructor
 .intro hw;obtain⟨m,x',HS,h',hr,q⟩:=hw.succ;simp only[IT.step,WN] at hr;by_cases hv:v.cells.length=n;.rw[Af hv] at hr;exact⟨_,Af hv,C7 ⟨m,x',HS,h',hr,q⟩⟩
  .rw[Ad hv] at hr;cases hr
 .rintro⟨l,e,hw⟩;split at e;.rename_i hv;cases e;exact wR hv hw
  .cases e
def aW{u:Aa}{k:Aa->IT}:W C (.Ph u k) Q h↔aV (Kd h u) λx=>W C (k x.2) Q x.1:=by
 refine⟨λhw=>?_,λ⟨(h1,v),hv,hw⟩=>aAo hv hw⟩;obtain⟨m,x',HS,h',hr,q⟩:=hw.succ;simp only[IT.step] at hr;split at hr;.rename_i h1 v hv;exact⟨(h1,v),hv,C7 ⟨m,x',HS,h',hr,q⟩⟩
 .cases hr
def UT{off:Nat}{p:Aa}{k:IT}:W C (.Pn off p k) Q h↔aV (KR h off p) λh1=>W C k Q h1:=by
 refine⟨λhw=>?_,λ⟨h1,hv,hw⟩=>wT hv hw⟩;obtain⟨m,x',HS,h',hr,q⟩:=hw.succ;simp only[IT.step] at hr;split at hr;.rename_i h1 hv;exact⟨h1,hv,C7 ⟨m,x',HS,h',hr,q⟩⟩
 .cases hr
def UU{size bytes:Nat}{s x:Aa}{k:Aa->IT}:W C (.Lm size bytes s x k) Q h↔aV (Jj h size bytes s x) λx=>W C (k x.2) Q x.1:=by
 refine⟨λhw=>?_,λ⟨(h1,v),hv,hw⟩=>wS hv hw⟩;obtain⟨m,x',HS,h',hr,q⟩:=hw.succ;simp only[IT.step] at hr;split at hr;.rename_i h1 v hv;exact⟨(h1,v),hv,C7 ⟨m,x',HS,h',hr,q⟩⟩
 .cases hr
def XP{size bytes:Nat}{s x:Aa}{k:Aa->IT}:W C (.JL size bytes s x k) Q h↔aV (Fw h size bytes s x) λx=>W C (k x.2) Q x.1:=by
 refine⟨λhw=>?_,λ⟨(h1,v),hv,hw⟩=>pj hv hw⟩;obtain⟨m,x,HS,h',hr,q⟩:=hw.succ;simp only[IT.step] at hr;split at hr;.rename_i h1 v hv;exact⟨(h1,v),hv,C7 ⟨m,x,HS,h',hr,q⟩⟩
 .cases hr
def Q1{size bytes:Nat}{s x:Aa}{k:Aa->IT}:W C (.GD size bytes s x k) Q h↔aV (QS h size bytes s x) λv=>W C (k v) Q h:=by
 refine⟨λhw=>?_,λ⟨v,hv,hw⟩=>Z3 hv hw⟩;obtain⟨m,x,HS,h',hr,q⟩:=hw.succ;simp only[IT.step] at hr;split at hr;.rename_i v hv;exact⟨v,hv,C7 ⟨m,x,HS,h',hr,q⟩⟩
 .cases hr
def aX{o:lQ}{args:List Aa}{k:Aa->IT}:W C (.mem o args k) Q h↔aV (E7 o h args) λx=>W C (k x.2) Q x.1:=by
 refine⟨λhw=>?_,λ⟨(h1,v),hv,hw⟩=>aAp hv hw⟩;obtain⟨n,x,vs,h',hr,q⟩:=hw.succ;simp only[IT.step] at hr;split at hr;.rename_i h1 v hv;exact⟨(h1,v),hv,C7 ⟨n,x,vs,h',hr,q⟩⟩
 .cases hr
def PK{s:Aa}{k:Aa->IT}:W C (.Ff s k) Q h↔aV (IV h s) λx=>W C (k x.2) Q x.1:=by
 refine⟨λhw=>?_,λ⟨(h1,v),hv,hw⟩=>Xb hv hw⟩;obtain⟨m,x',HS,h',hr,q⟩:=hw.succ;simp only[IT.step] at hr;split at hr;.rename_i h1 v hv;exact⟨(h1,v),hv,C7 ⟨m,x',HS,h',hr,q⟩⟩
 .cases hr
def Rw{k:Aa->IT}:W C (.Pm k) Q h↔W C (k (.map (some h.length))) Q (h++[.map []]):=by refine⟨λhw=>?_,pd⟩;obtain⟨m,x',HS,h',hr,q⟩:=hw.succ;exact C7 ⟨m,x',HS,h',hr,q⟩
def XQ{m key v:Aa}{k:IT}:W C (.KE m key v k) Q h↔aV (Ur h m key v) λh1=>W C k Q h1:=by
 refine⟨λhw=>?_,λ⟨h1,hv,hw⟩=>pg hv hw⟩;obtain⟨m,x',HS,h',hr,q⟩:=hw.succ;simp only[IT.step] at hr;split at hr;.rename_i h1 hv;exact⟨h1,hv,C7 ⟨m,x',HS,h',hr,q⟩⟩
 .cases hr
def XR{z:Aa}{ok:Bool}{m key:Aa}{k:Aa->IT}:W C (.Mj z ok m key k) Q h↔aV (Us h z ok m key) λv=>W C (k v) Q h:=by
 refine⟨λhw=>?_,λ⟨h1,hv,hw⟩=>ph hv hw⟩;obtain⟨m,x',HS,h',hr,q⟩:=hw.succ;simp only[IT.step] at hr;split at hr;.rename_i h1 hv;exact⟨h1,hv,C7 ⟨m,x',HS,h',hr,q⟩⟩
 .cases hr
def M5{g:Aa}{args:List Aa}{k:Aa->IT}:W C (.Jc g args k) Q h↔aV (DD g args) λx=>W C (.call x.1 x.2 k) Q h:=by
 constructor
 .intro hw;obtain⟨m,x',HS,h',hr,q⟩:=hw.succ;simp only[IT.step] at hr;split at hr;.rename_i f as e;refine⟨(f,as),e,C7 ⟨m,x',HS,h',?_,q⟩⟩;simp only[IT.step];exact hr
  .cases hr
 .rintro⟨⟨f,as⟩,e,hw⟩;obtain⟨m,x',HS,h',hr,q⟩:=hw.succ;refine C7 ⟨m,x',HS,h',?_,q⟩;simp only[IT.step,e] at hr⊢;exact hr
def A3{key:Nat}{t:IT}{k:DX->List Aa->IT}:W C (.Oc key t k) Q h↔W C t (λx vs h1=>W C (k x vs) Q h1) h:=by
 refine⟨λhw=>?_,po⟩;obtain⟨m,x',HS,h',hr,q⟩:=hw.succ;simp only[IT.step] at hr;split at hr;.rename_i x vs h1 e;exact C7 ⟨m,_,_,_,e,C7 ⟨m,x',HS,h',hr,q⟩⟩
 .cases hr
def BK(C:F8)(f:FuncId)(args:List Aa)(h:Ah)(r:Aa)(h':Ah):Prop:=W C (B9 C f args) (λx vs h1=>x= .ret/\vs=[r]/\h1=h') h
def BK.ev{f:FuncId}{args:List Aa}{r:Aa}{h':Ah}(hr:BK C f args h r h'){R:Aa->Ah->Prop}(hR:R r h'):Ev C f args h R:=
 W.mono hr λ_ _ _ ⟨h1,h2,d⟩=>⟨h1,r,h2,by rw[d];exact hR⟩
def BK.Ac{f:FuncId}{args:List Aa}{r:Aa}{h':Ah}(hr:BK C f args h r h'){k:Aa->IT}:W C (.call f args k) Q h↔W C (k r) Q h':=by
 refine⟨λhw=>?_,λhw=>pk (hr.ev hw)⟩;obtain⟨n,j,i,h1,g,rfl,rfl,rfl⟩:=hr;obtain⟨m,x',HS,h2,d,q⟩:=hw.succ;simp only[IT.step] at d;split at d;.rename_i r2 o e;simp only[F8.run] at g e;have a1:=IT.Ig (HP n m) g;have a2:=IT.Ig (Ho n m) e;rw[a1] at a2;cases a2;exact C7 ⟨m,x',HS,h2,d,q⟩
 .cases d
def JQ(C:F8)(f:FuncId)(args:List Aa)(r:Aa):Prop:=Ev C f args [] λx _=>x=r
def JQ.B7{f:FuncId}{args:List Aa}{r:Aa}(hr:JQ C f args r)(ha:args.all Aa.MQ=true)(hf:r.MQ=true){k:Aa->IT}:W C (.B7 f args k) Q h↔W C (k r) Q h:=by
 refine⟨λhw=>?_,λhw=>X_ ha (hr.mono λx _ e=>by rw[e];exact⟨hf,hw⟩)⟩;obtain⟨n,j,i,h1,g,rfl,y,rfl,rfl⟩:=hr;obtain⟨m,x',HS,h2,d,q⟩:=hw.succ;simp only[IT.step,ha,BI] at d;simp only[F8.run] at g d;have a1:=IT.Ig (HP n m) g;cases hc:IT.run (B9 C) m (B9 C f args) [] with
 |none=>rw[hc] at d;cases d
 |some z=>have a2:=IT.Ig (Ho n m) hc;rw[a1] at a2;cases a2;rw[hc] at d;simp only[hf,BI] at d;exact C7 ⟨m,x',HS,h2,d,q⟩
end
def ê{C:F8}{t t':IT}{Q:HF}{h h':Ah}(e:t=t')(d:h=h'):W C t Q h=W C t' Q h':=by rw[e,d]
def t_{o:RZ}{args args':List Aa}{k:Aa->IT}(e:args=args'):IT.op o args k=IT.op o args' k:=by rw[e]
def nF{n:Nat}{v v':Aa}{k:List Aa->IT}(e:v=v'):IT.cells n v k=IT.cells n v' k:=by rw[e]
def iy{v v':Aa}{s t:IT}(e:v=v'):IT.Gg v s t=IT.Gg v' s t:=by rw[e]
def sR{n:Option Nat}{v v':Aa}{k:Aa->IT}(e:v=v'):IT.load n v k=IT.load n v' k:=by rw[e]
def nG{n:Nat}{p p' v v':Aa}{k:IT}(d:p=p')(e:v=v'):IT.store n p v k=IT.store n p' v' k:=by rw[e,d]
def nH{n:Nat}{v v':Aa}{k:Aa->IT}(e:v=v'):IT.alloc n v k=IT.alloc n v' k:=by rw[e]
def sS{f:FuncId}{args args':List Aa}{k:Aa->IT}(e:args=args'):IT.call f args k=IT.call f args' k:=by rw[e]
def nI{f:FuncId}{args args':List Aa}{k:Aa->IT}(e:args=args'):IT.B7 f args k=IT.B7 f args' k:=by rw[e]
def nJ{f f':Aa}{args args':List Aa}{k:Aa->IT}(d:f=f')(e:args=args'):IT.Jc f args k=IT.Jc f' args' k:=by rw[e,d]
def sT{key:Nat}{i d:List Aa}{b:List Aa->IT}{k:DX->List Aa->IT}(e:i=d):IT.loop key i b k=IT.loop key d b k:=by rw[e]
def sU{key:Nat}{b:IT}{k:DX->List Aa->IT}:IT.Oc key b k=IT.Oc key b k:=rfl
def iz{v v':Aa}{k:Aa->IT}(e:v=v'):IT.Ph v k=IT.Ph v' k:=by rw[e]
def nK{size bytes:Nat}{s s' x x':Aa}{k:Aa->IT}(e:s=s')(d:x=x'):IT.Lm size bytes s x k=IT.Lm size bytes s' x' k:=by rw[e,d]
def sV{size bytes:Nat}{s s' x x':Aa}{k:Aa->IT}(e:s=s')(d:x=x'):IT.JL size bytes s x k=IT.JL size bytes s' x' k:=by rw[e,d]
def i_{o:lQ}{args args':List Aa}{k:Aa->IT}(e:args=args'):IT.mem o args k=IT.mem o args' k:=by rw[e]
def ZH{size bytes:Nat}{s s' x x':Aa}{k:Aa->IT}(e:s=s')(d:x=x'):IT.GD size bytes s x k=IT.GD size bytes s' x' k:=by rw[e,d]
def nL{off:Nat}{p p':Aa}{k:IT}(e:p=p'):IT.Pn off p k=IT.Pn off p' k:=by rw[e]
def XS{s s':Aa}{k:Aa->IT}(e:s=s'):IT.Ff s k=IT.Ff s' k:=by rw[e]
def sW{m m' key key' v v':Aa}{k:IT}(e:m=m')(f:key=key')(d:v=v'):IT.KE m key v k=IT.KE m' key' v' k:=by rw[e,f,d]
def sX{z:Aa}{ok:Bool}{m m' key key':Aa}{k:Aa->IT}(e:m=m')(d:key=key'):IT.Mj z ok m key k=IT.Mj z ok m' key' k:=by rw[e,d]
attribute [congr] iw sQ ê t_ nF iy sR nG nH sS nI nJ sT sU iz nL sV ZH i_ nK XS sW sX
attribute [simp] NP nE TO Rv XN CT aU XL XM UQ NQ XO UR US aW UT XP Q1 aX UU PK Rw XQ XR M5 A3
section
variable{k:IntKind}{a b:Int}{s t:An}
@[simp] theorem aCF:AB (.int .eql) [.int k a,.int k b]=some (.bool (decide (a=b))):=by cases k<;>rfl
@[simp] theorem aCG:AB (.int .neq) [.int k a,.int k b]=some (.bool (decide (a≠b))):=by
 have e:AB (.int .neq) [.int k a,.int k b]=some (.bool (!(a==b))):=by cases k<;>rfl
 rw[e];by_cases h:a=b<;>simp[h]
@[simp] theorem aCH:AB (.int .lss) [.int k a,.int k b]=some (.bool (decide (a<b))):=by cases k<;>rfl
@[simp] theorem aCI:AB (.int .leq) [.int k a,.int k b]=some (.bool (decide (a<=b))):=by cases k<;>rfl
@[simp] theorem aCJ:AB (.int .gtr) [.int k a,.int k b]=some (.bool (decide (b<a))):=by cases k<;>rfl
@[simp] theorem aCK:AB (.int .geq) [.int k a,.int k b]=some (.bool (decide (b<=a))):=by cases k<;>rfl
def eD:AB (.int .add) [.int k a,.int k b]=some (.int k (k.wrap (a+b))):=by cases k<;>rfl
def sY:AB (.int .sub) [.int k a,.int k b]=some (.int k (k.wrap (a-b))):=by cases k<;>rfl
@[simp] theorem aCL {b:Bool}:AB (.un .not) [.bool b]=some (.bool (!b)):=rfl
@[simp] theorem xP:AB (.str .eql) [.str s,.str t]=some (.bool (decide (s=t))):=by
 show some (Aa.bool (s==t))=_;congr 2
 by_cases h:s=t<;>simp[h]
@[simp] theorem ë:AB (.str .neq) [.str s,.str t]=some (.bool (decide (s≠t))):=by
 show some (Aa.bool (!(s==t)))=_;congr 2
 by_cases h:s=t<;>simp[h]
@[simp] theorem ì:AB (.len true) [.str s]=some (.int .i64 s.length):=rfl
@[simp] theorem aJL {i:Int}:AB .Zr [.str s,.int k i]=if 0<=i then(s[i.toNat]?).map λb=> .int .u8 b.toNat else none:=rfl
@[simp] theorem eE {off:Nat} {cs:List Aa}:AB (.part off none) [.agg cs]=cs[off]?:=rfl
@[simp] theorem eF {off n:Nat} {cs:List Aa}:AB (.part off (some n)) [.agg cs]=if off+n<=cs.length then some (.agg ((cs.drop off).take n)) else none:=rfl
@[simp] theorem aCM {i:Nat} {vs:List Aa}:AB (.ext i) [.tuple vs]=vs[i]?:=rfl
@[simp] theorem ZI {p:Nat×Nat}:AB .JK [.ptr (some p)]=some (.ptr (some p)):=rfl
@[simp] theorem XT {cs:List Aa}:AB .JK [.CJ cs]=some (.CJ cs):=rfl
@[simp] theorem XU {f:FuncId} {a b:List Aa}:AB .JK [.func (.func f) a b]=some (.func (.func f) a b):=rfl
@[simp] theorem ZJ {off:Nat} {cs:List Aa}:AB (.Ll off) [.CJ cs]=some (.CJ (cs.drop off)):=rfl
@[simp] theorem eH {off id o:Nat}:AB (.Ll off) [.ptr (some (id,o))]=some (.ptr (some (id,o+off))):=rfl
@[simp] theorem ja {neg:Bool}:AB (.peq neg) [.ptr none,.ptr none]=some (.bool (true != neg)):=rfl
@[simp] theorem jb {neg:Bool} {p:Nat×Nat}:AB (.peq neg) [.ptr (some p),.ptr none]=some (.bool (false != neg)):=rfl
@[simp] theorem jc {neg:Bool} {p:Nat×Nat}:AB (.peq neg) [.ptr none,.ptr (some p)]=some (.bool (false != neg)):=rfl
@[simp] theorem aCN {neg a b:Bool}:AB (.beq neg) [.bool a,.bool b]=some (.bool ((a==b) != neg)):=rfl
@[simp] theorem aJM {c:Bool} {a b:Aa}:AB .pick [.bool c,a,b]=some (if c then a else b):=rfl
@[simp] theorem Qq {l:IntKind}:AB (.conv l) [.int k a]=some (.int l (l.wrap a)):=rfl
@[simp] theorem ua {zero args:List Aa} {places:List (Nat×Nat)}:AB (.Cn zero places) args=if places.length=args.length then(AT zero (places.zip args)).map .agg else none:=rfl
@[simp] theorem Rx {neg:Bool} {ks:List FK} {x y:List Aa}:AB (.geq neg ks) [.agg x,.agg y]=(Eb ks x y).map λe=> .bool (e != neg):=rfl
@[simp] theorem ub:AB (.LI false) [.int k a,.int k b]=some (.int k (if b<a then b else a)):=by simp[AB]
@[simp] theorem eI:AB (.LI true) [.int k a,.int k b]=some (.int k (if a<b then b else a)):=by simp[AB]
@[simp] theorem XV {h:Ah} {n:Option Nat} {cs:List Aa}:A7 h n (.CJ cs)=Fv cs 0 n:=rfl
@[simp] theorem Ex {off:Nat} {cs:List Aa}:Fv cs off none=cs[off]?:=rfl
@[simp] theorem M6 {off n:Nat} {cs:List Aa}:Fv cs off (some n)=if off+n<=cs.length then some (.agg ((cs.drop off).take n)) else none:=rfl
@[simp] theorem wrap_i64 (h1: -9223372036854775808<=a) (h2:a<9223372036854775808):IntKind.i64.wrap a=a:=by rw[IntKind.wrap_i64];omega
end
def TP{cs:List Aa}:Aa.cells (.agg cs)=cs:=rfl
def aY{k:IntKind}{n:Int}:Aa.cells (.int k n)=[.int k n]:=rfl
def Qr{s:An}:Aa.cells (.str s)=[.str s]:=rfl
def XW{b:Bool}:Aa.cells (.bool b)=[.bool b]:=rfl
def aZ{p:Option (Nat×Nat)}:Aa.cells (.ptr p)=[.ptr p]:=rfl
def XX{p:List Aa}:Aa.cells (.CJ p)=[.CJ p]:=rfl
def UW:Aa.cells .slnil=[.slnil]:=rfl
def nM{z:Nat}{r:List (List Aa)}:Aa.cells (.sl z r)=[.sl z r]:=rfl
def bA{i o l z:Nat}:Aa.cells (.Cs i o l z)=[.Cs i o l z]:=rfl
def XY{f:Fn}{a b:List Aa}:Aa.cells (.func f a b)=[.func f a b]:=rfl
attribute [simp] AT Eb LJ DD TP aY Qr XW aZ XX UW nM bA XY
def AV(z:Nat)(AD:List (List Aa))(v:Aa):Prop:=v= .sl z AD\/(v= .slnil/\AD=[])
section
variable{z:Nat}{AD:List (List Aa)}{v:Aa}
def AV.mk:AV z AD (.sl z AD):= .inl rfl
def AV.nil:AV z [] .slnil:= .inr ⟨rfl,rfl⟩
def AV.cells(h:AV z AD v):v.cells=[v]:=by rcases h with rfl|⟨rfl,rfl⟩<;>rfl
def AV.len(h:AV z AD v):AB (.len false) [v]=some (.int .i64 AD.length):=by rcases h with rfl|⟨rfl,rfl⟩<;>rfl
def AV.Fu(h:AV z AD v){k:IntKind}{n:Nat}(hn:n<AD.length):AB (.Fu z) [v,.int k (n:Int)]=some (.CJ AD[n]):=by
 rcases h with rfl|⟨rfl,rfl⟩
 .simp[AB,elemOf,hn]
 .simp at hn
end
end Go.Am
end
section
namespace Go.Am
open Go
section
variable{C:F8}{Q:HF}{h:Ah}
def PL{key:Nat}{vs:List Aa}{body:List Aa->IT}{k:DX->List Aa->IT}
  (hw:W C (body vs) (λx d h1=>(x= .normal/\W C (.loop key d body k) Q h1)\/(x≠ .normal/\W C (k x d) Q h1)) h):W C (.loop key vs body k) Q h:=by
 obtain⟨m,x,d,h1,hr,Je⟩:=hw.succ;rcases Je with⟨rfl,hw⟩|⟨hx,hw⟩
 .obtain⟨m',x',HS,h',F9,q⟩:=hw;refine C7 ⟨max m m',x',HS,h',?_,q⟩;have f:=IT.JY (λt h r=>IT.Ig (fn:=B9 C) (HP m m')) _ _ _ hr;have e:=IT.Ig (Ho m m') F9;simp only[IT.step];simp only[F8.run] at*;rw[f];exact e
 .obtain⟨m',x',HS,h',F9,q⟩:=hw.succ;refine C7 ⟨max m m',x',HS,h',?_,q⟩;have f:=IT.JY (λt h r=>IT.Ig (fn:=B9 C) (HP m m')) _ _ _ hr;have e:=IT.JY (λt h r=>IT.Ig (fn:=B9 C) (Ho m m')) _ _ _ F9;simp only[IT.step];simp only[F8.run] at*;rw[f];cases x<;>first|exact absurd rfl hx|exact e
def AL{U:Type}(C:F8)(enc:U->List Aa)(D8:U->Ah->Prop)(O:U->Nat)(k:DX->List Aa->IT)(Q:HF)(s:U):HF:=
 λx vs h1=>(x= .normal/\∃s',vs=enc s'/\D8 s' h1/\O s'<O s)\/(x≠ .normal/\W C (k x vs) Q h1)
variable{U:Type}{enc:U->List Aa}{D8:U->Ah->Prop}{O:U->Nat}{k:DX->List Aa->IT}{s:U}{vs:List Aa}
def AL.next(s':U)(e:vs=enc s')(hi:D8 s' h)(hl:O s'<O s):AL C enc D8 O k Q s .normal vs h:= .inl ⟨rfl,s',e,hi,hl⟩
def ZK{i:Nat}:AL C enc D8 O k Q s (.exit i) vs h↔W C (k (.exit i) vs) Q h:=by simp[AL]
def eJ:AL C enc D8 O k Q s .ret vs h↔W C (k .ret vs) Q h:=by simp[AL]
def Bl{key:Nat}{init:List Aa}{body:List Aa->IT}(enc:U->List Aa)(D8:U->Ah->Prop)(O:U->Nat)(s0:U)(h0:init=enc s0)(hi:D8 s0 h)
  (round:∀s h,D8 s h->W C (body (enc s)) (AL C enc D8 O k Q s) h):W C (.loop key init body k) Q h:=by
 subst h0;have key:∀n s h,O s=n->D8 s h->W C (.loop key (enc s) body k) Q h:=by
  intro n;induction n using Nat.strongRecOn with
  |_ n ih=>
   intro s h hn hI;refine PL (W.mono (round s h hI) ?_);rintro x vs h1 (⟨rfl,s',rfl,qx,hl⟩|⟨hx,hw⟩);.exact .inl ⟨rfl,ih _ (hn▸hl) s' h1 rfl qx⟩
   .exact .inr ⟨hx,hw⟩
 exact key _ s0 h rfl hi
end
section
variable{k l:IntKind}{s:An}
def Fz{n:Nat}(hn:n<s.length):AB .Zr [.str s,.int k (n:Int)]=some (.int .u8 (s[n].toNat:Int)):=by simp[hn]
def BO{n:Nat}(hn:n<9223372036854775807):AB (.int .add) [.int .i64 (n:Int),.int .i64 1]=some (.int .i64 ((n+1:Nat):Int)):=by rw[eD,wrap_i64 Ab Ab];rfl
def Hw{n:Nat}(h0:0<n)(hn:n<9223372036854775807):AB (.int .sub) [.int .i64 (n:Int),.int .i64 1]=some (.int .i64 ((n-1:Nat):Int)):=by rw[sY,wrap_i64 Ab Ab];congr 2;omega
def Mr{a b z:Nat}(Zn:a<=b)(hb:b<=s.length):AB (.KK z true true true) [.str s,.int k (a:Int),.int l (b:Int)]=some (.str ((s.take b).drop a)):=by
 have e:E6 (b:Int) s.length=some b:=by unfold E6;rw[Af Ab];rfl
 have d:E6 (a:Int) b=some a:=by unfold E6;rw[Af Ab];rfl
 simp[AB,JE,D3,e,d]
end
section
variable{z b:Nat}{r r2:List (List Aa)}{row:List Aa}{v v2:Aa}
def AV.sZ(h:AV z r v)(hb:(r.length+1)*b<=AS):AB (.append z b) [v,.sl z [row]]=some (.sl z (r++[row])):=by
 rcases h with rfl|⟨rfl,rfl⟩
 .simp[AB,HR,DN,hb]
 .have:1*b<=AS:=by simpa using hb
  simp only[Ea] at this;simp[AB,HR,DN,this]
def AV.Ib(h:AV z r v)(h2:AV z r2 v2)(hb:(r.length+r2.length)*b<=AS):∃u,AB (.append z b) [v,v2]=some u/\AV z (r++r2) u:=by
 have hnil:∃u,DN z b v []=some u/\AV z (r++[]) u:=by
  rcases h with rfl|⟨rfl,rfl⟩
  .exact⟨.sl z r,by simp[DN],by rw[By];exact .mk⟩
  .exact⟨_,rfl,.nil⟩
 rcases h2 with rfl|⟨rfl,rfl⟩
 .cases r2 with
  |nil=>obtain⟨u,e,hu⟩:=hnil;exact⟨u,by simpa[AB,HR] using e,hu⟩
  |cons x l=>
   refine⟨.sl z (r++x::l),?_,.mk⟩;rcases h with rfl|⟨rfl,rfl⟩
   .simp only[AB,HR,BI,DN];rw[Af ⟨trivial,hb⟩]
   .simp only[AB,HR,BI,DN];rw[Af (by simpa using hb)];rfl
 .obtain⟨u,e,hu⟩:=hnil;exact⟨u,by simpa[AB,HR] using e,hu⟩
def AV.Ph(h:AV z r v){hp:Ah}:Kd hp v=some (hp,v):=by rcases h with rfl|⟨rfl,rfl⟩<;>rfl
def Ry(s:An):MW (Cd s)=some s:=by
 induction s with
 |nil=>rfl
 |cons c s ih=>have e:Cd (c::s)=[.int .u8 c.toNat]::Cd s:=rfl;rw[e,MW,ih];simp
def AV.WK{s:An}(h:AV 1 (Cd s) v):AB .WK [v]=some (.str s):=by
 rcases h with rfl|⟨rfl,h⟩
 .simp[AB,WM,Ry]
 .have e:s=[]:=by simpa[Cd] using h
  subst e;rfl
def Q2(s t:An):Cd (s++t)=Cd s++Cd t:=by simp[Cd]
def ZL(s:An):(Cd s).length=s.length:=by simp[Cd]
end
@[simp] theorem xQ {z:Nat} {args:List Aa}:AB (.C8 z) args=if args.all (λa=>a.cells.length==z)&&decide (args.length*z<=16777216) then some (.sl z (args.map (·.cells))) else none:=rfl
def Ms{a:Aa}{z:Nat}(h:a.cells.length=z)(hz:z<=16777216):AB (.C8 z) [a]=some (.sl z [a.cells]):=by simp[h,hz]
def wrap_u8{a:Int}(h:0<=a/\a<=255):IntKind.u8.wrap a=a:=IntWalk.u8_in a h
def uc{a:Int}(h: -2147483648<=a/\a<=2147483647):IntKind.i32.wrap a=a:=IntWalk.i32_in a h
def Ae{C:F8}{f:FuncId}{args:List Aa}{h h':Ah}{r:Aa}:BK C f args h r h'↔W C (B9 C f args) (λx vs h1=>x= .ret/\vs=[r]/\h1=h') h:=aEx
abbrev M_(C:F8)(f:FuncId)(t:Aa->IT):Prop:=∀a0,B9 C f [a0]=t a0
abbrev Tq2(C:F8)(f:FuncId)(t:Aa->Aa->IT):Prop:=∀a0 a1,B9 C f [a0,a1]=t a0 a1
abbrev Tq3(C:F8)(f:FuncId)(t:Aa->Aa->Aa->IT):Prop:=∀a0 a1 a2,B9 C f [a0,a1,a2]=t a0 a1 a2
abbrev Tq4(C:F8)(f:FuncId)(t:Aa->Aa->Aa->Aa->IT):Prop:=∀a0 a1 a2 a3,B9 C f [a0,a1,a2,a3]=t a0 a1 a2 a3
abbrev Tq5(C:F8)(f:FuncId)(t:Aa->Aa->Aa->Aa->Aa->IT):Prop:=∀a0 a1 a2 a3 a4,B9 C f [a0,a1,a2,a3,a4]=t a0 a1 a2 a3 a4
def IT.fa(p:Aa)(k:Nat)(K:Aa->Aa->IT):IT:= .op .JK [p] λa=> .op (.Ll k) [a] λb=>K a b
def IT.PM(p:Aa)(k:Nat)(K:Aa->Aa->Aa->IT):IT:= .op .JK [p] λa=> .op (.Ll k) [a] λb=> .load none b λc=>K a b c
def IT.fl(p:Aa)(k:Nat)(K:Aa->Aa->IT):IT:= .op (.Ll k) [p] λa=> .load none a λb=>K a b
def nx(A R:List Aa->IT):DX->List Aa->IT:=λx c=>match x with
 | .normal=>A c
 | .exit _=> .fail
 | .ret=>R c
def lx(k:Nat)(A R:List Aa->IT):DX->List Aa->IT:=λx c=>match x with
 | .normal=> .fail
 | .exit i=>if i=k then A c else .fail
 | .ret=>R c
section
variable{C:F8}{Q:HF}{h:Ah}{p:Aa}{k:Nat}{A R:List Aa->IT}{c:List Aa}
def aLp{K:Aa->Aa->IT}:W C (IT.fa p k K) Q h=W C (.op .JK [p] λa=> .op (.Ll k) [a] λb=>K a b) Q h:=rfl
def aF9{K:Aa->Aa->Aa->IT}:W C (IT.PM p k K) Q h=W C (.op .JK [p] λa=> .op (.Ll k) [a] λb=> .load none b λc=>K a b c) Q h:=rfl
def aLq{K:Aa->Aa->IT}:W C (IT.fl p k K) Q h=W C (.op (.Ll k) [p] λa=> .load none a λb=>K a b) Q h:=rfl
def aLr:nx A R .normal c=A c:=rfl
def aLs:nx A R .ret c=R c:=rfl
def aLt:lx k A R (.exit k) c=A c:=Af rfl
def aLu:lx k A R .ret c=R c:=rfl
end
def Dp:An->An->List An
 |cur,[]=>[cur]
 |cur,c::r=>if c=32 then cur::Dp [] r else Dp (cur++[c]) r
def NR:List An:=Dp [] aTO
def swv(s:Aa)(t e:IT):List (List UInt8)->IT
 |[]=>e
 |c::cs=>.op (.str .eql) [s,.str c] λv=>.Gg v t (swv s t e cs)
abbrev IT.rr(l:List Aa):IT:=.ret .ret l
abbrev IT.rn(l:List Aa):IT:=.ret .normal l
abbrev IT.rx(n:Nat)(l:List Aa):IT:=.ret (.exit n) l
abbrev IT.ea(n:Nat)(l:List Aa)(k:Aa->IT):IT:=.op (.Fu n) l k
abbrev IT.ld(p:Aa)(k:Aa->IT):IT:=.load none p k
abbrev IT.ie(l:List Aa)(k:Aa->IT):IT:=.op (.int .eql) l k
abbrev IT.iq(l:List Aa)(k:Aa->IT):IT:=.op (.int .neq) l k
abbrev IT.il(l:List Aa)(k:Aa->IT):IT:=.op (.int .lss) l k
abbrev IT.ig(l:List Aa)(k:Aa->IT):IT:=.op (.int .gtr) l k
abbrev IT.ia(l:List Aa)(k:Aa->IT):IT:=.op (.int .add) l k
abbrev IT.ib(l:List Aa)(k:Aa->IT):IT:=.op (.int .sub) l k
abbrev IT.ih(l:List Aa)(k:Aa->IT):IT:=.op (.int .geq) l k
abbrev IT.ik(l:List Aa)(k:Aa->IT):IT:=.op (.int .leq) l k
abbrev IT.se(l:List Aa)(k:Aa->IT):IT:=.op (.str .eql) l k
abbrev IT.ln(l:List Aa)(k:Aa->IT):IT:=.op (.len false) l k
abbrev IT.lt(l:List Aa)(k:Aa->IT):IT:=.op (.len true) l k
abbrev IT.nt(l:List Aa)(k:Aa->IT):IT:=.op (.un .not) l k
abbrev IT.ca(f:Nat)(l:List Aa)(k:Aa->IT):IT:=.call f l k
abbrev i0:Aa:=I 0
abbrev i1:Aa:=I 1
abbrev tu:Aa:=.tuple []
abbrev pn:Aa:=.ptr none
def a13(c:List Aa):Aa:=.agg [g c 0,g c 1,g c 2,g c 3,g c 4,g c 5,g c 6,g c 7,g c 8,g c 9,g c 10,g c 11,g c 12]
def a13_e{c:List Aa}:a13 c=.agg [g c 0,g c 1,g c 2,g c 3,g c 4,g c 5,g c 6,g c 7,g c 8,g c 9,g c 10,g c 11,g c 12]:=rfl
def a12(c:List Aa):Aa:=.agg [g c 0,g c 1,g c 2,g c 3,g c 4,g c 5,g c 6,g c 7,g c 8,g c 9,g c 10,g c 11]
def a12_e{c:List Aa}:a12 c=.agg [g c 0,g c 1,g c 2,g c 3,g c 4,g c 5,g c 6,g c 7,g c 8,g c 9,g c 10,g c 11]:=rfl
def a9(c:List Aa):Aa:=.agg [g c 0,g c 1,g c 2,g c 3,g c 4,g c 5,g c 6,g c 7,g c 8]
def a9_e{c:List Aa}:a9 c=.agg [g c 0,g c 1,g c 2,g c 3,g c 4,g c 5,g c 6,g c 7,g c 8]:=rfl
def a6(c:List Aa):Aa:=.agg [g c 0,g c 1,g c 2,g c 3,g c 4,g c 5]
def a6_e{c:List Aa}:a6 c=.agg [g c 0,g c 1,g c 2,g c 3,g c 4,g c 5]:=rfl
def a4(c:List Aa):Aa:=.agg [g c 0,g c 1,g c 2,g c 3]
def a4_e{c:List Aa}:a4 c=.agg [g c 0,g c 1,g c 2,g c 3]:=rfl
def a3(c:List Aa):Aa:=.agg [g c 0,g c 1,g c 2]
def a3_e{c:List Aa}:a3 c=.agg [g c 0,g c 1,g c 2]:=rfl
def ai{a b:Prop}(x:a)(y:b):a/\b:=⟨x,y⟩
def BF:=ai @a13_e (ai @a12_e (ai @a9_e (ai @a6_e (ai @a4_e (ai @a3_e (ai @aLp (ai @aF9 (ai @aLq (ai @aLr (ai @aLs (ai @aLt (ai @aLu (ai @NP (ai @nE (ai @TO (ai @Rv (ai @XN (ai @aU (ai @XL (ai @XM (ai @UQ (ai @NQ (ai @XO (ai @UR (ai @US (ai @aW (ai @UT (ai @XP (ai @Q1 (ai @aX (ai @UU (ai @PK (ai @Rw (ai @XQ (ai @XR (ai @M5 (ai @A3 (ai @aCF (ai @aCG (ai @aCH (ai @aCI (ai @aCJ (ai @aCK (ai @aCL (ai @xP (ai @ë (ai @ì (ai @eE (ai @eF (ai @aCM (ai @ZI (ai @XT (ai @XU (ai @ZJ (ai @eH (ai @ja (ai @jb (ai @jc (ai @aCN (ai @ua (ai @XV (ai @Ex (ai @M6 (ai @aKo.{0} (ai @aKp.{0} (ai @IP.{0} (ai @LY.{0} (ai @Ky.{0} (ai @List.drop_succ_cons.{0} (ai @aAd.{0} (ai @Kz.{0} (ai @ZV.{0} (ai @Bf.{0} (ai @BT.{0} (ai @CO.{0} (ai @BU.{0} (ai @aN8.{0,0} (ai @List.zip_nil_right.{0,0} (ai @B5.{0,0} (ai @Option.map_none.{0,0} (ai @BL (ai @TP (ai @aY (ai @Qr (ai @XW (ai @aZ (ai @XX (ai @UW (ai @nM (ai @bA (ai @XY (ai @Zf (ai @MJ (ai @ML (ai @BI.{1} (ai @DG.{1} (ai @ZK (@eJ))))))))))))))))))))))))))))))))))))))))))))))))))))))))))))))))))))))))))))))))))))))))))))))))))
def lN:=ai @H8.{0} (ai @beq_self_eq_true.{0} (ai @RQ (ai @G_ (ai @RO (ai @IQ (ai @AA (ai @Ay (ai @Au (ai @Ao (ai @Bu (ai @Nat.zero_lt_succ (ai @B5.{0,0} (@aAe.{0})))))))))))))
def abS:=ai BF lN
def aaS:type_of%@AI.{0}:=@AI.{0}
def IU:=ai @Dx (ai @DH (ai @Bool.and_true (ai @Bool.true_and (ai @F_ (ai @H_ (ai @aEy (ai @Un (ai @JI (ai @Hl (ai @Hp.{0} (ai @lI.{0} (ai @Option.getD_none.{0} (ai @aOb.{0} (ai @BI.{1} (ai @DG.{1} (ai @Cu (ai @MJ (ai @aBE (ai @ML (ai @Zq (ai @aAf (@Dj))))))))))))))))))))))
abbrev Pt(i o:Nat):Aa:=.ptr (some (i,o))
end Go.Am
end
