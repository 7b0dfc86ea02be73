/- Lemmas -/
import Derived.Test.YtdbnpiefklklhaaGreatDoorH1
import Derived.IntWalk
set_option linter.all false
section
namespace Go.Am
open Go
section
variable{C:Fv}{Q:J7}{h:Ai}
def Zl{x:FG}{vs:List Aa}:W C (.ret x vs) Q h↔Q x vs h:=by refine⟨λhw=>?_,ĉ⟩;obtain⟨n,x',Hy,h',hr,q⟩:=hw.succ;simp only[IT.step,Bx,KU] at hr;obtain⟨rfl,rfl,rfl⟩:=hr;exact q
def Wx:W C .fail Q h↔False:=by refine⟨λhw=>?_,λh=>h.elim⟩;obtain⟨n,x',Hy,h',hr,q⟩:=hw.succ;simp[IT.step] at hr
def Zm{Z:Type}(o:Option Z)(f:Z->Prop):Prop:=∃v,o=some v/\f v
def ay{Z:Type}{o o':Option Z}{f:Z->Prop}(h:o=o'):Zm o f=Zm o' f:=by rw[h]
def LS{Z:Type}{v:Z}{f:Z->Prop}:Zm (some v) f=f v:=propext (by
 constructor;.rintro⟨_,e,h⟩;cases e;exact h
 .intro h;exact⟨v,rfl,h⟩)
def hZ{Z:Type}{f:Z->Prop}:Zm (none:Option Z) f=False:=propext (by
 constructor;.rintro⟨_,e,_⟩;cases e
 .exact False.elim)
def Wy{o:X3}{args:List Aa}{k:Aa->IT}:W C (.op o args k) Q h↔Zm (Az o args) λv=>W C (k v) Q h:=by
 refine⟨λhw=>?_,λ⟨v,hv,hw⟩=>aEn hv hw⟩;obtain⟨n,x',Hy,h',hr,q⟩:=hw.succ;simp only[IT.step] at hr;split at hr;.rename_i v hv;exact⟨v,hv,CR ⟨n,x',Hy,h',hr,q⟩⟩
 .cases hr
def O9{n:Nat}{v:Aa}{k:List Aa->IT}:W C (.cells n v k) Q h↔Zm (if v.cells.length=n then some v.cells else none) λl=>W C (k l) Q h:=by
 constructor
 .intro hw;obtain⟨m,x',Hy,h',hr,q⟩:=hw.succ;simp only[IT.step] at hr;split at hr;.rename_i hv;exact⟨_,Af hv,CR ⟨m,x',Hy,h',hr,q⟩⟩
  .cases hr
 .rintro⟨l,e,hw⟩;split at e;.rename_i hv;cases e;exact rF hv hw
  .cases e
def Ym(v:Aa)(p q:Prop):Prop:=(v= .bool true/\p)\/(v= .bool false/\q)
def nN{v v':Aa}{p q:Prop}(h:v=v'):Ym v p q=Ym v' p q:=by rw[h]
def Zn{p q:Prop}:Ym (.bool true) p q=p:=by simp[Ym]
def Wz{p q:Prop}:Ym (.bool false) p q=q:=by simp[Ym]
def Da{b:Bool}{p q:Prop}:Ym (.bool b) p q↔(b=true->p)/\(b=false->q):=by cases b<;>simp[Ym]
def WA{c:Prop}[Decidable c]{p q:Prop}:Ym (.bool (decide c)) p q↔(c->p)/\(¬c->q):=by rw[Da];simp
def Nf{c:Aa}{t e:IT}:W C (.AD c t e) Q h↔Ym c (W C t Q h) (W C e Q h):=by
 constructor
 .intro hw;obtain⟨m,x',Hy,h',hr,q⟩:=hw.succ;simp only[IT.step] at hr;split at hr;.exact .inl ⟨rfl,CR ⟨m,x',Hy,h',hr,q⟩⟩
  .exact .inr ⟨rfl,CR ⟨m,x',Hy,h',hr,q⟩⟩
  .cases hr
 .rintro(⟨rfl,hw⟩|⟨rfl,hw⟩);.exact rG (λ_=>hw) λh=>by cases h
  .exact rG (λh=>by cases h) λ_=>hw
def WB{n:Option Nat}{p:Aa}{k:Aa->IT}:W C (.load n p k) Q h↔Zm (Bj h n p) λv=>W C (k v) Q h:=by
 refine⟨λhw=>?_,λ⟨v,hv,hw⟩=>iw hv hw⟩;obtain⟨m,x',Hy,h',hr,q⟩:=hw.succ;simp only[IT.step] at hr;split at hr;.rename_i v hv;exact⟨v,hv,CR ⟨m,x',Hy,h',hr,q⟩⟩
 .cases hr
def Uq{n:Nat}{p v:Aa}{k:IT}:W C (.store n p v k) Q h↔Zm (CL h n p v) λh1=>W C k Q h1:=by
 refine⟨λhw=>?_,λ⟨v,hv,hw⟩=>rH hv hw⟩;obtain⟨m,x',Hy,h',hr,q⟩:=hw.succ;simp only[IT.step] at hr;split at hr;.rename_i h1 hv;exact⟨h1,hv,CR ⟨m,x',Hy,h',hr,q⟩⟩
 .cases hr
def Ur{n:Nat}{v:Aa}{k:Aa->IT}:W C (.alloc n v k) Q h↔Zm (if v.cells.length=n then some v.cells else none) λl=>W C (k (.ptr (some (h.length,0)))) Q (h++[.cells l]):=by
 constructor
 .intro hw;obtain⟨m,x',Hy,h',hr,q⟩:=hw.succ;simp only[IT.step,VD] at hr;by_cases hv:v.cells.length=n;.rw[Af hv] at hr;exact⟨_,Af hv,CR ⟨m,x',Hy,h',hr,q⟩⟩
  .rw[Ad hv] at hr;cases hr
 .rintro⟨l,e,hw⟩;split at e;.rename_i hv;cases e;exact rI hv hw
  .cases e
def Zo{u:Aa}{k:Aa->IT}:W C (.UI u k) Q h↔Zm (Li h u) λx=>W C (k x.2) Q x.1:=by
 refine⟨λhw=>?_,λ⟨(h1,v),hv,hw⟩=>Ċ hv hw⟩;obtain⟨m,x',Hy,h',hr,q⟩:=hw.succ;simp only[IT.step] at hr;split at hr;.rename_i h1 v hv;exact⟨(h1,v),hv,CR ⟨m,x',Hy,h',hr,q⟩⟩
 .cases hr
def Us{off:Nat}{p:Aa}{k:IT}:W C (.H7 off p k) Q h↔Zm (LJ h off p) λh1=>W C k Q h1:=by
 refine⟨λhw=>?_,λ⟨h1,hv,hw⟩=>rK hv hw⟩;obtain⟨m,x',Hy,h',hr,q⟩:=hw.succ;simp only[IT.step] at hr;split at hr;.rename_i h1 hv;exact⟨h1,hv,CR ⟨m,x',Hy,h',hr,q⟩⟩
 .cases hr
def Ut{size bytes:Nat}{s x:Aa}{k:Aa->IT}:W C (.Je size bytes s x k) Q h↔Zm (MH h size bytes s x) λx=>W C (k x.2) Q x.1:=by
 refine⟨λhw=>?_,λ⟨(h1,v),hv,hw⟩=>rJ hv hw⟩;obtain⟨m,x',Hy,h',hr,q⟩:=hw.succ;simp only[IT.step] at hr;split at hr;.rename_i h1 v hv;exact⟨(h1,v),hv,CR ⟨m,x',Hy,h',hr,q⟩⟩
 .cases hr
def WC{size bytes:Nat}{s x:Aa}{k:Aa->IT}:W C (.FH size bytes s x k) Q h↔Zm (GP h size bytes s x) λx=>W C (k x.2) Q x.1:=by
 refine⟨λhw=>?_,λ⟨(h1,v),hv,hw⟩=>ja hv hw⟩;obtain⟨m,x,Hy,h',hr,q⟩:=hw.succ;simp only[IT.step] at hr;split at hr;.rename_i h1 v hv;exact⟨(h1,v),hv,CR ⟨m,x,Hy,h',hr,q⟩⟩
 .cases hr
def QA{size bytes:Nat}{s x:Aa}{k:Aa->IT}:W C (.FX size bytes s x k) Q h↔Zm (Qr h size bytes s x) λv=>W C (k v) Q h:=by
 refine⟨λhw=>?_,λ⟨v,hv,hw⟩=>YQ hv hw⟩;obtain⟨m,x,Hy,h',hr,q⟩:=hw.succ;simp only[IT.step] at hr;split at hr;.rename_i v hv;exact⟨v,hv,CR ⟨m,x,Hy,h',hr,q⟩⟩
 .cases hr
def Zp{o:gw}{args:List Aa}{k:Aa->IT}:W C (.mem o args k) Q h↔Zm (DS o h args) λx=>W C (k x.2) Q x.1:=by
 refine⟨λhw=>?_,λ⟨(h1,v),hv,hw⟩=>ċ hv hw⟩;obtain⟨n,x,vs,h',hr,q⟩:=hw.succ;simp only[IT.step] at hr;split at hr;.rename_i h1 v hv;exact⟨(h1,v),hv,CR ⟨n,x,vs,h',hr,q⟩⟩
 .cases hr
def Pb{s:Aa}{k:Aa->IT}:W C (.EN s k) Q h↔Zm (Ip h s) λx=>W C (k x.2) Q x.1:=by
 refine⟨λhw=>?_,λ⟨(h1,v),hv,hw⟩=>VP hv hw⟩;obtain⟨m,x',Hy,h',hr,q⟩:=hw.succ;simp only[IT.step] at hr;split at hr;.rename_i h1 v hv;exact⟨(h1,v),hv,CR ⟨m,x',Hy,h',hr,q⟩⟩
 .cases hr
def Q2{k:Aa->IT}:W C (.MX k) Q h↔W C (k (.map (some h.length))) Q (h++[.map []]):=by refine⟨λhw=>?_,iy⟩;obtain⟨m,x',Hy,h',hr,q⟩:=hw.succ;exact CR ⟨m,x',Hy,h',hr,q⟩
def WD{m key v:Aa}{k:IT}:W C (.Hw m key v k) Q h↔Zm (Qq h m key v) λh1=>W C k Q h1:=by
 refine⟨λhw=>?_,λ⟨h1,hv,hw⟩=>iz hv hw⟩;obtain⟨m,x',Hy,h',hr,q⟩:=hw.succ;simp only[IT.step] at hr;split at hr;.rename_i h1 hv;exact⟨h1,hv,CR ⟨m,x',Hy,h',hr,q⟩⟩
 .cases hr
def WE{z:Aa}{ok:Bool}{m key:Aa}{k:Aa->IT}:W C (.LI z ok m key k) Q h↔Zm (Oj h z ok m key) λv=>W C (k v) Q h:=by
 refine⟨λhw=>?_,λ⟨h1,hv,hw⟩=>i_ hv hw⟩;obtain⟨m,x',Hy,h',hr,q⟩:=hw.succ;simp only[IT.step] at hr;split at hr;.rename_i h1 hv;exact⟨h1,hv,CR ⟨m,x',Hy,h',hr,q⟩⟩
 .cases hr
def Mr{g:Aa}{args:List Aa}{k:Aa->IT}:W C (.D3 g args k) Q h↔Zm (CC g args) λx=>W C (.call x.1 x.2 k) Q h:=by
 constructor
 .intro hw;obtain⟨m,x',Hy,h',hr,q⟩:=hw.succ;simp only[IT.step] at hr;split at hr;.rename_i f as e;refine⟨(f,as),e,CR ⟨m,x',Hy,h',?_,q⟩⟩;simp only[IT.step];exact hr
  .cases hr
 .rintro⟨⟨f,as⟩,e,hw⟩;obtain⟨m,x',Hy,h',hr,q⟩:=hw.succ;refine CR ⟨m,x',Hy,h',?_,q⟩;simp only[IT.step,e] at hr⊢;exact hr
def EV{key:Nat}{t:IT}{k:FG->List Aa->IT}:W C (.FZ key t k) Q h↔W C t (λx vs h1=>W C (k x vs) Q h1) h:=by
 refine⟨λhw=>?_,jc⟩;obtain⟨m,x',Hy,h',hr,q⟩:=hw.succ;simp only[IT.step] at hr;split at hr;.rename_i x vs h1 e;exact CR ⟨m,_,_,_,e,CR ⟨m,x',Hy,h',hr,q⟩⟩
 .cases hr
def B9(C:Fv)(f:FuncId)(args:List Aa)(h:Ai)(r:Aa)(h':Ai):Prop:=W C (B4 C f args) (λx vs h1=>x= .ret/\vs=[r]/\h1=h') h
def B9.ev{f:FuncId}{args:List Aa}{r:Aa}{h':Ai}(hr:B9 C f args h r h'){R:Aa->Ai->Prop}(hR:R r h'):Ev C f args h R:=
 W.mono hr λ_ _ _ ⟨h1,h2,d⟩=>⟨h1,r,h2,by rw[d];exact hR⟩
def B9.Ac{f:FuncId}{args:List Aa}{r:Aa}{h':Ai}(hr:B9 C f args h r h'){k:Aa->IT}:W C (.call f args k) Q h↔W C (k r) Q h':=by
 refine⟨λhw=>?_,λhw=>jb (hr.ev hw)⟩;obtain⟨n,i,Ģ,h1,g,rfl,rfl,rfl⟩:=hr;obtain⟨m,x',Hy,h2,d,q⟩:=hw.succ;simp only[IT.step] at d;split at d;.rename_i r2 j e;simp only[Fv.run] at g e;have a1:=IT.HJ (Hu n m) g;have a2:=IT.HJ (GU n m) e;rw[a1] at a2;cases a2;exact CR ⟨m,x',Hy,h2,d,q⟩
 .cases d
def Lm(C:Fv)(f:FuncId)(args:List Aa)(r:Aa):Prop:=Ev C f args [] λx _=>x=r
def Lm.Bn{f:FuncId}{args:List Aa}{r:Aa}(hr:Lm C f args r)(ha:args.all Aa.Me=true)(hf:r.Me=true){k:Aa->IT}:W C (.Bn f args k) Q h↔W C (k r) Q h:=by
 refine⟨λhw=>?_,λhw=>xy ha (hr.mono λx _ e=>by rw[e];exact⟨hf,hw⟩)⟩;obtain⟨n,i,Ģ,h1,g,rfl,y,rfl,rfl⟩:=hr;obtain⟨m,x',Hy,h2,d,q⟩:=hw.succ;simp only[IT.step,ha,BE] at d;simp only[Fv.run] at g d;have a1:=IT.HJ (Hu n m) g;cases hc:IT.run (B4 C) m (B4 C f args) [] with
 |none=>rw[hc] at d;cases d
 |some z=>have a2:=IT.HJ (GU n m) hc;rw[a1] at a2;cases a2;rw[hc] at d;simp only[hf,BE] at d;exact CR ⟨m,x',Hy,h2,d,q⟩
end
def zq{C:Fv}{t t':IT}{Q:J7}{h h':Ai}(e:t=t')(d:h=h'):W C t Q h=W C t' Q h':=by rw[e,d]
def mv{o:X3}{args args':List Aa}{k:Aa->IT}(e:args=args'):IT.op o args k=IT.op o args' k:=by rw[e]
def iA{n:Nat}{v v':Aa}{k:List Aa->IT}(e:v=v'):IT.cells n v k=IT.cells n v' k:=by rw[e]
def az{v v':Aa}{s t:IT}(e:v=v'):IT.AD v s t=IT.AD v' s t:=by rw[e]
def nO{n:Option Nat}{v v':Aa}{k:Aa->IT}(e:v=v'):IT.load n v k=IT.load n v' k:=by rw[e]
def iB{n:Nat}{p p' v v':Aa}{k:IT}(d:p=p')(e:v=v'):IT.store n p v k=IT.store n p' v' k:=by rw[e,d]
def iC{n:Nat}{v v':Aa}{k:Aa->IT}(e:v=v'):IT.alloc n v k=IT.alloc n v' k:=by rw[e]
def nQ{f:FuncId}{args args':List Aa}{k:Aa->IT}(e:args=args'):IT.call f args k=IT.call f args' k:=by rw[e]
def iD{f:FuncId}{args args':List Aa}{k:Aa->IT}(e:args=args'):IT.Bn f args k=IT.Bn f args' k:=by rw[e]
def iE{f f':Aa}{args args':List Aa}{k:Aa->IT}(d:f=f')(e:args=args'):IT.D3 f args k=IT.D3 f' args' k:=by rw[e,d]
def nR{key:Nat}{i d:List Aa}{b:List Aa->IT}{k:FG->List Aa->IT}(e:i=d):IT.loop key i b k=IT.loop key d b k:=by rw[e]
def nS{key:Nat}{b:IT}{k:FG->List Aa->IT}:IT.FZ key b k=IT.FZ key b k:=rfl
def a_{v v':Aa}{k:Aa->IT}(e:v=v'):IT.UI v k=IT.UI v' k:=by rw[e]
def iF{size bytes:Nat}{s s' x x':Aa}{k:Aa->IT}(e:s=s')(d:x=x'):IT.Je size bytes s x k=IT.Je size bytes s' x' k:=by rw[e,d]
def nT{size bytes:Nat}{s s' x x':Aa}{k:Aa->IT}(e:s=s')(d:x=x'):IT.FH size bytes s x k=IT.FH size bytes s' x' k:=by rw[e,d]
def ba{o:gw}{args args':List Aa}{k:Aa->IT}(e:args=args'):IT.mem o args k=IT.mem o args' k:=by rw[e]
def Yn{size bytes:Nat}{s s' x x':Aa}{k:Aa->IT}(e:s=s')(d:x=x'):IT.FX size bytes s x k=IT.FX size bytes s' x' k:=by rw[e,d]
def iG{off:Nat}{p p':Aa}{k:IT}(e:p=p'):IT.H7 off p k=IT.H7 off p' k:=by rw[e]
def WG{s s':Aa}{k:Aa->IT}(e:s=s'):IT.EN s k=IT.EN s' k:=by rw[e]
def nU{m m' key key' v v':Aa}{k:IT}(e:m=m')(f:key=key')(d:v=v'):IT.Hw m key v k=IT.Hw m' key' v' k:=by rw[e,f,d]
def nV{z:Aa}{ok:Bool}{m m' key key':Aa}{k:Aa->IT}(e:m=m')(d:key=key'):IT.LI z ok m key k=IT.LI z ok m' key' k:=by rw[e,d]
attribute [congr] ay nN zq mv iA az nO iB iC nQ iD iE nR nS a_ iG nT Yn ba iF WG nU nV
attribute [simp] LS hZ Zn Wz WA Da Zl Wx Wy O9 Nf WB Uq Ur Zo Us WC QA Zp Ut Pb Q2 WD WE Mr EV
section
variable{k:IntKind}{a b:Int}{s t:Ah}
@[simp] theorem aAb:Az (.int .eql) [.int k a,.int k b]=some (.bool (decide (a=b))):=by cases k<;>rfl
@[simp] theorem aAc:Az (.int .neq) [.int k a,.int k b]=some (.bool (decide (a≠b))):=by
 have e:Az (.int .neq) [.int k a,.int k b]=some (.bool (!(a==b))):=by cases k<;>rfl
 rw[e];by_cases h:a=b<;>simp[h]
@[simp] theorem aAd:Az (.int .lss) [.int k a,.int k b]=some (.bool (decide (a<b))):=by cases k<;>rfl
@[simp] theorem aAe:Az (.int .leq) [.int k a,.int k b]=some (.bool (decide (a<=b))):=by cases k<;>rfl
@[simp] theorem aAf:Az (.int .gtr) [.int k a,.int k b]=some (.bool (decide (b<a))):=by cases k<;>rfl
@[simp] theorem aAg:Az (.int .geq) [.int k a,.int k b]=some (.bool (decide (b<=a))):=by cases k<;>rfl
def nW:Az (.int .add) [.int k a,.int k b]=some (.int k (k.wrap (a+b))):=by cases k<;>rfl
def nX:Az (.int .sub) [.int k a,.int k b]=some (.int k (k.wrap (a-b))):=by cases k<;>rfl
@[simp] theorem aAh {b:Bool}:Az (.un .not) [.bool b]=some (.bool (!b)):=rfl
@[simp] theorem sN:Az (.str .eql) [.str s,.str t]=some (.bool (decide (s=t))):=by
 show some (Aa.bool (s==t))=_;congr 2
 by_cases h:s=t<;>simp[h]
@[simp] theorem zr:Az (.str .neq) [.str s,.str t]=some (.bool (decide (s≠t))):=by
 show some (Aa.bool (!(s==t)))=_;congr 2
 by_cases h:s=t<;>simp[h]
@[simp] theorem zt:Az (.len true) [.str s]=some (.int .i64 s.length):=rfl
@[simp] theorem aH7 {i:Int}:Az .Rz [.str s,.int k i]=if 0<=i then(s[i.toNat]?).map λb=> .int .u8 b.toNat else none:=rfl
@[simp] theorem bF {off:Nat} {cs:List Aa}:Az (.part off none) [.agg cs]=cs[off]?:=rfl
@[simp] theorem bG {off n:Nat} {cs:List Aa}:Az (.part off (some n)) [.agg cs]=if off+n<=cs.length then some (.agg ((cs.drop off).take n)) else none:=rfl
@[simp] theorem aAi {i:Nat} {vs:List Aa}:Az (.ext i) [.tuple vs]=vs[i]?:=rfl
@[simp] theorem Yo {p:Nat×Nat}:Az .LF [.ptr (some p)]=some (.ptr (some p)):=rfl
@[simp] theorem WH {cs:List Aa}:Az .LF [.BR cs]=some (.BR cs):=rfl
@[simp] theorem WI {f:FuncId} {a b:List Aa}:Az .LF [.func (.func f) a b]=some (.func (.func f) a b):=rfl
@[simp] theorem Yp {off:Nat} {cs:List Aa}:Az (.Fb off) [.BR cs]=some (.BR (cs.drop off)):=rfl
@[simp] theorem bH {off id o:Nat}:Az (.Fb off) [.ptr (some (id,o))]=some (.ptr (some (id,o+off))):=rfl
@[simp] theorem bb {neg:Bool}:Az (.Qp neg) [.ptr none,.ptr none]=some (.bool (true != neg)):=rfl
@[simp] theorem bc {neg:Bool} {p:Nat×Nat}:Az (.Qp neg) [.ptr (some p),.ptr none]=some (.bool (false != neg)):=rfl
@[simp] theorem bd {neg:Bool} {p:Nat×Nat}:Az (.Qp neg) [.ptr none,.ptr (some p)]=some (.bool (false != neg)):=rfl
@[simp] theorem aAj {neg a b:Bool}:Az (.beq neg) [.bool a,.bool b]=some (.bool ((a==b) != neg)):=rfl
@[simp] theorem aH8 {c:Bool} {a b:Aa}:Az .pick [.bool c,a,b]=some (if c then a else b):=rfl
@[simp] theorem Vm {l:IntKind}:Az (.conv l) [.int k a]=some (.int l (l.wrap a)):=rfl
@[simp] theorem mw {zero args:List Aa} {places:List (Nat×Nat)}:Az (.B6 zero places) args=if places.length=args.length then(Br zero (places.zip args)).map .agg else none:=rfl
@[simp] theorem WJ {neg:Bool} {ks:List FK} {x y:List Aa}:Az (.geq neg ks) [.agg x,.agg y]=(DO ks x y).map λe=> .bool (e != neg):=rfl
@[simp] theorem my:Az (.K4 false) [.int k a,.int k b]=some (.int k (if b<a then b else a)):=by simp[Az]
@[simp] theorem bI:Az (.K4 true) [.int k a,.int k b]=some (.int k (if a<b then b else a)):=by simp[Az]
@[simp] theorem WK {h:Ai} {n:Option Nat} {cs:List Aa}:Bj h n (.BR cs)=E0 cs 0 n:=rfl
@[simp] theorem Gr {off:Nat} {cs:List Aa}:E0 cs off none=cs[off]?:=rfl
@[simp] theorem Ms {off n:Nat} {cs:List Aa}:E0 cs off (some n)=if off+n<=cs.length then some (.agg ((cs.drop off).take n)) else none:=rfl
@[simp] theorem wrap_i64 (h1: -9223372036854775808<=a) (h2:a<9223372036854775808):IntKind.i64.wrap a=a:=by rw[IntKind.wrap_i64];omega
end
def P0{cs:List Aa}:Aa.cells (.agg cs)=cs:=rfl
def Zq{k:IntKind}{n:Int}:Aa.cells (.int k n)=[.int k n]:=rfl
def P1{s:Ah}:Aa.cells (.str s)=[.str s]:=rfl
def WL{b:Bool}:Aa.cells (.bool b)=[.bool b]:=rfl
def Zr{p:Option (Nat×Nat)}:Aa.cells (.ptr p)=[.ptr p]:=rfl
def WM{p:List Aa}:Aa.cells (.BR p)=[.BR p]:=rfl
def Uu:Aa.cells .slnil=[.slnil]:=rfl
def iH{z:Nat}{r:List (List Aa)}:Aa.cells (.sl z r)=[.sl z r]:=rfl
def Zs{i o l z:Nat}:Aa.cells (.C3 i o l z)=[.C3 i o l z]:=rfl
def WN{f:Fn}{a b:List Aa}:Aa.cells (.func f a b)=[.func f a b]:=rfl
attribute [simp] Br DO LG CC P0 Zq P1 WL Zr WM Uu iH Zs WN
def Bv(z:Nat)(Aw:List (List Aa))(v:Aa):Prop:=v= .sl z Aw\/(v= .slnil/\Aw=[])
section
variable{z:Nat}{Aw:List (List Aa)}{v:Aa}
def Bv.mk:Bv z Aw (.sl z Aw):= .inl rfl
def Bv.nil:Bv z [] .slnil:= .inr ⟨rfl,rfl⟩
def Bv.cells(h:Bv z Aw v):v.cells=[v]:=by rcases h with rfl|⟨rfl,rfl⟩<;>rfl
def Bv.len(h:Bv z Aw v):Az (.len false) [v]=some (.int .i64 Aw.length):=by rcases h with rfl|⟨rfl,rfl⟩<;>rfl
def Bv.FA(h:Bv z Aw v){k:IntKind}{n:Nat}(hn:n<Aw.length):Az (.FA z) [v,.int k (n:Int)]=some (.BR Aw[n]):=by
 rcases h with rfl|⟨rfl,rfl⟩
 .simp[Az,elemOf,hn]
 .simp at hn
end
end Go.Am
end
section
namespace Go.Am
open Go
section
variable{C:Fv}{Q:J7}{h:Ai}
def Pc{key:Nat}{vs:List Aa}{body:List Aa->IT}{k:FG->List Aa->IT}
  (hw:W C (body vs) (λx Ģ h1=>(x= .normal/\W C (.loop key Ģ body k) Q h1)\/(x≠ .normal/\W C (k x Ģ) Q h1)) h):W C (.loop key vs body k) Q h:=by
 obtain⟨m,x,Ģ,h1,hr,IB⟩:=hw.succ;rcases IB with⟨rfl,hw⟩|⟨hx,hw⟩
 .obtain⟨m',x',Hy,h',Hh,q⟩:=hw;refine CR ⟨max m m',x',Hy,h',?_,q⟩;have e:=IT.Jf (λt h r=>IT.HJ (fn:=B4 C) (Hu m m')) _ _ _ hr;have d:=IT.HJ (GU m m') Hh;simp only[IT.step];simp only[Fv.run] at*;rw[e];exact d
 .obtain⟨m',x',Hy,h',Hh,q⟩:=hw.succ;refine CR ⟨max m m',x',Hy,h',?_,q⟩;have e:=IT.Jf (λt h r=>IT.HJ (fn:=B4 C) (Hu m m')) _ _ _ hr;have d:=IT.Jf (λt h r=>IT.HJ (fn:=B4 C) (GU m m')) _ _ _ Hh;simp only[IT.step];simp only[Fv.run] at*;rw[e];cases x<;>first|exact absurd rfl hx|exact d
def Bq{U:Type}(C:Fv)(enc:U->List Aa)(DG:U->Ai->Prop)(O:U->Nat)(k:FG->List Aa->IT)(Q:J7)(s:U):J7:=
 λx vs h1=>(x= .normal/\∃s',vs=enc s'/\DG s' h1/\O s'<O s)\/(x≠ .normal/\W C (k x vs) Q h1)
variable{U:Type}{enc:U->List Aa}{DG:U->Ai->Prop}{O:U->Nat}{k:FG->List Aa->IT}{s:U}{vs:List Aa}
def Bq.next(s':U)(e:vs=enc s')(hi:DG s' h)(hl:O s'<O s):Bq C enc DG O k Q s .normal vs h:= .inl ⟨rfl,s',e,hi,hl⟩
def Yq{i:Nat}:Bq C enc DG O k Q s (.exit i) vs h↔W C (k (.exit i) vs) Q h:=by simp[Bq]
def bJ:Bq C enc DG O k Q s .ret vs h↔W C (k .ret vs) Q h:=by simp[Bq]
def BM{key:Nat}{init:List Aa}{body:List Aa->IT}(enc:U->List Aa)(DG:U->Ai->Prop)(O:U->Nat)(s0:U)(h0:init=enc s0)(hi:DG s0 h)
  (round:∀s h,DG s h->W C (body (enc s)) (Bq C enc DG O k Q s) h):W C (.loop key init body k) Q h:=by
 subst h0;have key:∀n s h,O s=n->DG s h->W C (.loop key (enc s) body k) Q h:=by
  intro n;induction n using Nat.strongRecOn with
  |_ n ih=>
   intro s h hn hI;refine Pc (W.mono (round s h hI) ?_);rintro x vs h1 (⟨rfl,s',rfl,ki,hl⟩|⟨hx,hw⟩);.exact .inl ⟨rfl,ih _ (hn▸hl) s' h1 rfl ki⟩
   .exact .inr ⟨hx,hw⟩
 exact key _ s0 h rfl hi
end
section
variable{k l:IntKind}{s:Ah}
def Gs{n:Nat}(hn:n<s.length):Az .Rz [.str s,.int k (n:Int)]=some (.int .u8 (s[n].toNat:Int)):=by simp[hn]
def CI{n:Nat}(hn:n<9223372036854775807):Az (.int .add) [.int .i64 (n:Int),.int .i64 1]=some (.int .i64 ((n+1:Nat):Int)):=by rw[nW,wrap_i64 Ab Ab];rfl
def NO{n:Nat}(h0:0<n)(hn:n<9223372036854775807):Az (.int .sub) [.int .i64 (n:Int),.int .i64 1]=some (.int .i64 ((n-1:Nat):Int)):=by rw[nX,wrap_i64 Ab Ab];congr 2;omega
def Q3{a b z:Nat}(iI:a<=b)(hb:b<=s.length):Az (.OM z true true true) [.str s,.int k (a:Int),.int l (b:Int)]=some (.str ((s.take b).drop a)):=by
 have e:Ey (b:Int) s.length=some b:=by unfold Ey;rw[Af Ab];rfl
 have d:Ey (a:Int) b=some a:=by unfold Ey;rw[Af Ab];rfl
 simp[Az,IY,Dz,e,d]
end
section
variable{z b:Nat}{r r2:List (List Aa)}{row:List Aa}{v v2:Aa}
def Bv.aJS(h:Bv z r v)(hb:(r.length+1)*b<=AO):Az (.append z b) [v,.sl z [row]]=some (.sl z (r++[row])):=by
 rcases h with rfl|⟨rfl,rfl⟩
 .simp[Az,H6,Dr,hb]
 .have:1*b<=AO:=by simpa using hb
  simp only[Ed] at this;simp[Az,H6,Dr,this]
def Bv.JX(h:Bv z r v)(h2:Bv z r2 v2)(hb:(r.length+r2.length)*b<=AO):∃u,Az (.append z b) [v,v2]=some u/\Bv z (r++r2) u:=by
 have hnil:∃u,Dr z b v []=some u/\Bv z (r++[]) u:=by
  rcases h with rfl|⟨rfl,rfl⟩
  .exact⟨.sl z r,by simp[Dr],by rw[BB];exact .mk⟩
  .exact⟨_,rfl,.nil⟩
 rcases h2 with rfl|⟨rfl,rfl⟩
 .cases r2 with
  |nil=>obtain⟨u,e,hu⟩:=hnil;exact⟨u,by simpa[Az,H6] using e,hu⟩
  |cons x l=>
   refine⟨.sl z (r++x::l),?_,.mk⟩;rcases h with rfl|⟨rfl,rfl⟩
   .simp only[Az,H6,BE,Dr];rw[Af ⟨trivial,hb⟩]
   .simp only[Az,H6,BE,Dr];rw[Af (by simpa using hb)];rfl
 .obtain⟨u,e,hu⟩:=hnil;exact⟨u,by simpa[Az,H6] using e,hu⟩
def Bv.UI(h:Bv z r v){hp:Ai}:Li hp v=some (hp,v):=by rcases h with rfl|⟨rfl,rfl⟩<;>rfl
def WO(s:Ah):Mk (CY s)=some s:=by
 induction s with
 |nil=>rfl
 |cons c s ih=>have e:CY (c::s)=[.int .u8 c.toNat]::CY s:=rfl;rw[e,Mk,ih];simp
def Bv.X8{s:Ah}(h:Bv 1 (CY s) v):Az .X8 [v]=some (.str s):=by
 rcases h with rfl|⟨rfl,h⟩
 .simp[Az,Z7,WO]
 .have e:s=[]:=by simpa[CY] using h
  subst e;rfl
end
@[simp] theorem sP {z:Nat} {args:List Aa}:Az (.Ch z) args=if args.all (λa=>a.cells.length==z)&&decide (args.length*z<=16777216) then some (.sl z (args.map (·.cells))) else none:=rfl
def WQ{a:Aa}{z:Nat}(h:a.cells.length=z)(hz:z<=16777216):Az (.Ch z) [a]=some (.sl z [a.cells]):=by simp[h,hz]
def wrap_u8{a:Int}(h:0<=a/\a<=255):IntKind.u8.wrap a=a:=IntWalk.u8_in a h
def mz{a:Int}(h: -2147483648<=a/\a<=2147483647):IntKind.i32.wrap a=a:=IntWalk.i32_in a h
def Ag{C:Fv}{f:FuncId}{args:List Aa}{h h':Ai}{r:Aa}:B9 C f args h r h'↔W C (B4 C f args) (λx vs h1=>x= .ret/\vs=[r]/\h1=h') h:=Iff.rfl
abbrev FC(C:Fv)(f:FuncId)(t:Aa->IT):Prop:=∀a0,B4 C f [a0]=t a0
abbrev EB(C:Fv)(f:FuncId)(t:Aa->Aa->IT):Prop:=∀a0 a1,B4 C f [a0,a1]=t a0 a1
abbrev QB(C:Fv)(f:FuncId)(t:Aa->Aa->Aa->IT):Prop:=∀a0 a1 a2,B4 C f [a0,a1,a2]=t a0 a1 a2
abbrev Tq4(C:Fv)(f:FuncId)(t:Aa->Aa->Aa->Aa->IT):Prop:=∀a0 a1 a2 a3,B4 C f [a0,a1,a2,a3]=t a0 a1 a2 a3
abbrev Tq5(C:Fv)(f:FuncId)(t:Aa->Aa->Aa->Aa->Aa->IT):Prop:=∀a0 a1 a2 a3 a4,B4 C f [a0,a1,a2,a3,a4]=t a0 a1 a2 a3 a4
def IT.fa(p:Aa)(k:Nat)(K:Aa->Aa->IT):IT:= .op .LF [p] λa=> .op (.Fb k) [a] λb=>K a b
def IT.BP(p:Aa)(k:Nat)(K:Aa->Aa->Aa->IT):IT:= .op .LF [p] λa=> .op (.Fb k) [a] λb=> .load none b λc=>K a b c
def IT.fl(p:Aa)(k:Nat)(K:Aa->Aa->IT):IT:= .op (.Fb k) [p] λa=> .load none a λb=>K a b
def nx(A R:List Aa->IT):FG->List Aa->IT:=λx c=>match x with
 | .normal=>A c
 | .exit _=> .fail
 | .ret=>R c
def lx(k:Nat)(A R:List Aa->IT):FG->List Aa->IT:=λx c=>match x with
 | .normal=> .fail
 | .exit i=>if i=k then A c else .fail
 | .ret=>R c
section
variable{C:Fv}{Q:J7}{h:Ai}{p:Aa}{k:Nat}{A R:List Aa->IT}{c:List Aa}
def aJT{K:Aa->Aa->IT}:W C (IT.fa p k K) Q h=W C (.op .LF [p] λa=> .op (.Fb k) [a] λb=>K a b) Q h:=rfl
def aFc{K:Aa->Aa->Aa->IT}:W C (IT.BP p k K) Q h=W C (.op .LF [p] λa=> .op (.Fb k) [a] λb=> .load none b λc=>K a b c) Q h:=rfl
def aJU{K:Aa->Aa->IT}:W C (IT.fl p k K) Q h=W C (.op (.Fb k) [p] λa=> .load none a λb=>K a b) Q h:=rfl
def aJV:nx A R .normal c=A c:=rfl
def aJW:nx A R .ret c=R c:=rfl
def aJX:lx k A R (.exit k) c=A c:=Af rfl
def aJY:lx k A R .ret c=R c:=rfl
end
def DR:Ah->Ah->List Ah
 |cur,[]=>[cur]
 |cur,c::r=>if c=32 then cur::DR [] r else DR (cur++[c]) r
def Sb:List Ah:=DR [] [97,100,100,114,101,115,115,32,97,112,112,108,101,116,32,97,114,101,97,32,97,114,116,105,99,108,101,32,97,115,105,100,101,32,98,97,115,101,32,98,97,115,101,102,111,110,116,32,98,103,115,111,117,110,100,32,98,108,111,99,107,113,117,111,116,101,32,98,111,100,121,32,98,114,32,98,117,116,116,111,110,32,99,97,112,116,105,111,110,32,99,101,110,116,101,114,32,99,111,108,32,99,111,108,103,114,111,117,112,32,100,100,32,100,101,116,97,105,108,115,32,100,105,114,32,100,105,118,32,100,108,32,100,116,32,101,109,98,101,100,32,102,105,101,108,100,115,101,116,32,102,105,103,99,97,112,116,105,111,110,32,102,105,103,117,114,101,32,102,111,111,116,101,114,32,102,111,114,109,32,102,114,97,109,101,32,102,114,97,109,101,115,101,116,32,104,49,32,104,50,32,104,51,32,104,52,32,104,53,32,104,54,32,104,101,97,100,32,104,101,97,100,101,114,32,104,103,114,111,117,112,32,104,114,32,104,116,109,108,32,105,102,114,97,109,101,32,105,109,103,32,105,110,112,117,116,32,107,101,121,103,101,110,32,108,105,32,108,105,110,107,32,108,105,115,116,105,110,103,32,109,97,105,110,32,109,97,114,113,117,101,101,32,109,101,110,117,32,109,101,116,97,32,110,97,118,32,110,111,101,109,98,101,100,32,110,111,102,114,97,109,101,115,32,110,111,115,99,114,105,112,116,32,111,98,106,101,99,116,32,111,108,32,112,32,112,97,114,97,109,32,112,108,97,105,110,116,101,120,116,32,112,114,101,32,115,99,114,105,112,116,32,115,101,97,114,99,104,32,115,101,99,116,105,111,110,32,115,101,108,101,99,116,32,115,111,117,114,99,101,32,115,116,121,108,101,32,115,117,109,109,97,114,121,32,116,97,98,108,101,32,116,98,111,100,121,32,116,100,32,116,101,109,112,108,97,116,101,32,116,101,120,116,97,114,101,97,32,116,102,111,111,116,32,116,104,32,116,104,101,97,100,32,116,105,116,108,101,32,116,114,32,116,114,97,99,107,32,117,108,32,119,98,114,32,120,109,112]
def swv(s:Aa)(t e:IT):List (List UInt8)->IT
 |[]=>e
 |c::cs=>.op (.str .eql) [s,.str c] λv=>.AD v t (swv s t e cs)
abbrev IT.rr(l:List Aa):IT:=.ret .ret l
abbrev IT.rn(l:List Aa):IT:=.ret .normal l
abbrev IT.rx(n:Nat)(l:List Aa):IT:=.ret (.exit n) l
abbrev IT.ea(n:Nat)(l:List Aa)(k:Aa->IT):IT:=.op (.FA n) l k
abbrev IT.ld(p:Aa)(k:Aa->IT):IT:=.load none p k
abbrev IT.ie(l:List Aa)(k:Aa->IT):IT:=.op (.int .eql) l k
abbrev IT.iq(l:List Aa)(k:Aa->IT):IT:=.op (.int .neq) l k
abbrev IT.il(l:List Aa)(k:Aa->IT):IT:=.op (.int .lss) l k
abbrev IT.ig(l:List Aa)(k:Aa->IT):IT:=.op (.int .gtr) l k
abbrev IT.ia(l:List Aa)(k:Aa->IT):IT:=.op (.int .add) l k
abbrev IT.ib(l:List Aa)(k:Aa->IT):IT:=.op (.int .sub) l k
abbrev IT.ih(l:List Aa)(k:Aa->IT):IT:=.op (.int .geq) l k
abbrev IT.ik(l:List Aa)(k:Aa->IT):IT:=.op (.int .leq) l k
abbrev IT.se(l:List Aa)(k:Aa->IT):IT:=.op (.str .eql) l k
abbrev IT.ln(l:List Aa)(k:Aa->IT):IT:=.op (.len false) l k
abbrev IT.lt(l:List Aa)(k:Aa->IT):IT:=.op (.len true) l k
abbrev IT.nt(l:List Aa)(k:Aa->IT):IT:=.op (.un .not) l k
abbrev IT.ca(f:Nat)(l:List Aa)(k:Aa->IT):IT:=.call f l k
abbrev i0:Aa:=I 0
abbrev i1:Aa:=I 1
abbrev tu:Aa:=.tuple []
abbrev pn:Aa:=.ptr none
def m_(c:List Aa):Aa:=.agg [g c 0,g c 1,g c 2,g c 3,g c 4,g c 5,g c 6,g c 7,g c 8,g c 9,g c 10,g c 11,g c 12]
def a13_e{c:List Aa}:m_ c=.agg [g c 0,g c 1,g c 2,g c 3,g c 4,g c 5,g c 6,g c 7,g c 8,g c 9,g c 10,g c 11,g c 12]:=rfl
def EY(c:List Aa):Aa:=.agg [g c 0,g c 1,g c 2,g c 3,g c 4,g c 5,g c 6,g c 7,g c 8,g c 9,g c 10,g c 11]
def a12_e{c:List Aa}:EY c=.agg [g c 0,g c 1,g c 2,g c 3,g c 4,g c 5,g c 6,g c 7,g c 8,g c 9,g c 10,g c 11]:=rfl
def a9(c:List Aa):Aa:=.agg [g c 0,g c 1,g c 2,g c 3,g c 4,g c 5,g c 6,g c 7,g c 8]
def a9_e{c:List Aa}:a9 c=.agg [g c 0,g c 1,g c 2,g c 3,g c 4,g c 5,g c 6,g c 7,g c 8]:=rfl
def a6(c:List Aa):Aa:=.agg [g c 0,g c 1,g c 2,g c 3,g c 4,g c 5]
def a6_e{c:List Aa}:a6 c=.agg [g c 0,g c 1,g c 2,g c 3,g c 4,g c 5]:=rfl
def a4(c:List Aa):Aa:=.agg [g c 0,g c 1,g c 2,g c 3]
def a4_e{c:List Aa}:a4 c=.agg [g c 0,g c 1,g c 2,g c 3]:=rfl
def a3(c:List Aa):Aa:=.agg [g c 0,g c 1,g c 2]
def a3_e{c:List Aa}:a3 c=.agg [g c 0,g c 1,g c 2]:=rfl
def ai{a b:Prop}(x:a)(y:b):a/\b:=⟨x,y⟩
def Cf:=ai @a13_e (ai @a12_e (ai @a9_e (ai @a6_e (ai @a4_e (ai @a3_e (ai @aJT (ai @aFc (ai @aJU (ai @aJV (ai @aJW (ai @aJX (ai @aJY (ai @LS (ai @hZ (ai @Zn (ai @Wz (ai @WA (ai @Zl (ai @Wx (ai @Wy (ai @O9 (ai @Nf (ai @WB (ai @Uq (ai @Ur (ai @Zo (ai @Us (ai @WC (ai @QA (ai @Zp (ai @Ut (ai @Pb (ai @Q2 (ai @WD (ai @WE (ai @Mr (ai @EV (ai @aAb (ai @aAc (ai @aAd (ai @aAe (ai @aAf (ai @aAg (ai @aAh (ai @sN (ai @zr (ai @zt (ai @bF (ai @bG (ai @aAi (ai @Yo (ai @WH (ai @WI (ai @Yp (ai @bH (ai @bb (ai @bc (ai @bd (ai @aAj (ai @mw (ai @WK (ai @Gr (ai @Ms (ai @YL.{0} (ai @aIS.{0} (ai @Im.{0} (ai @SX.{0} (ai @L8.{0} (ai @List.drop_succ_cons.{0} (ai @List.drop_nil.{0} (ai @PJ.{0} (ai @YH.{0} (ai @AJ.{0} (ai @Bt.{0} (ai @CJ.{0} (ai @BT.{0} (ai @aM1.{0,0} (ai @List.zip_nil_right.{0,0} (ai @By.{0,0} (ai @Option.map_none.{0,0} (ai @BJ (ai @P0 (ai @Zq (ai @P1 (ai @WL (ai @Zr (ai @WM (ai @Uu (ai @iH (ai @Zs (ai @WN (ai @lJ (ai @Mb (ai @Nq (ai @BE.{1} (ai @DU.{1} (ai @Yq (@bJ))))))))))))))))))))))))))))))))))))))))))))))))))))))))))))))))))))))))))))))))))))))))))))))))))
def bK:=ai @HE.{0} (ai @beq_self_eq_true.{0} (ai @Rs (ai @Bool.bne_false (ai @Bool.not_true (ai @PL (ai @AU (ai @AV (ai @AP (ai @AH (ai @Bk (ai @Nat.zero_lt_succ (ai @By.{0,0} (@List.take_nil.{0})))))))))))))
def abS:=ai Cf bK
def aaS:type_of%@AS.{0}:=@AS.{0}
def UX:=ai @GS (ai @E8 (ai @Bool.and_true (ai @Z5 (ai @Bool.and_false (ai @Bool.false_and (ai @Bool.or_true (ai @OL (ai @Rr (ai @I2 (ai @Fy.{0} (ai @aM4.{0} (ai @qT.{0} (ai @Option.isSome_none.{0} (ai @BE.{1} (ai @DU.{1} (ai @Ck (ai @Mb (ai @Ň (ai @Nq (ai @ň (ai @Ă (@Dc))))))))))))))))))))))
abbrev Pt(i o:Nat):Aa:=.ptr (some (i,o))
end Go.Am
end
