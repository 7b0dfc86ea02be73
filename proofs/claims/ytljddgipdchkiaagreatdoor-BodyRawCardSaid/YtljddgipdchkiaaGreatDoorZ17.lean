/- Lemmas -/
import Derived.Test.YtljddgipdchkiaaGreatDoorZ1
import Derived.IntWalk
set_option linter.all false
section
namespace Go.Am
open Go
section
variable{C:FZ}{Q:HB}{h:Ah}
def Zc{x:Fp}{vs:List Aa}:W C (.ret x vs) Q h↔Q x vs h:=by refine⟨λhw=>?_,Ğ⟩;obtain⟨n,x',HS,h',hr,q⟩:=hw.succ;simp only[IT.step,BE,Ii] at hr;obtain⟨rfl,rfl,rfl⟩:=hr;exact q
def WC:W C .fail Q h↔False:=by refine⟨λhw=>?_,λh=>h.elim⟩;obtain⟨n,x',HS,h',hr,q⟩:=hw.succ;simp[IT.step] at hr
def Zd{Z:Type}(o:Option Z)(f:Z->Prop):Prop:=∃v,o=some v/\f v
def yD{Z:Type}{o o':Option Z}{f:Z->Prop}(h:o=o'):Zd o f=Zd o' f:=by rw[h]
def Nw{Z:Type}{v:Z}{f:Z->Prop}:Zd (some v) f=f v:=propext (by
 constructor;.rintro⟨_,e,h⟩;cases e;exact h
 .intro h;exact⟨v,rfl,h⟩)
def fS{Z:Type}{f:Z->Prop}:Zd (none:Option Z) f=False:=propext (by
 constructor;.rintro⟨_,e,_⟩;cases e
 .exact False.elim)
def WD{o:X1}{args:List Aa}{k:Aa->IT}:W C (.op o args k) Q h↔Zd (AB o args) λv=>W C (k v) Q h:=by
 refine⟨λhw=>?_,λ⟨v,hv,hw⟩=>aFf hv hw⟩;obtain⟨n,x',HS,h',hr,q⟩:=hw.succ;simp only[IT.step] at hr;split at hr;.rename_i v hv;exact⟨v,hv,C5 ⟨n,x',HS,h',hr,q⟩⟩
 .cases hr
def T6{n:Nat}{v:Aa}{k:List Aa->IT}:W C (.cells n v k) Q h↔Zd (if v.cells.length=n then some v.cells else none) λl=>W C (k l) Q h:=by
 constructor
 .intro hw;obtain⟨m,x',HS,h',hr,q⟩:=hw.succ;simp only[IT.step] at hr;split at hr;.rename_i hv;exact⟨_,Ae hv,C5 ⟨m,x',HS,h',hr,q⟩⟩
  .cases hr
 .rintro⟨l,e,hw⟩;split at e;.rename_i hv;cases e;exact pG hv hw
  .cases e
def Yp(v:Aa)(p q:Prop):Prop:=(v= .bool true/\p)\/(v= .bool false/\q)
def lV{v v':Aa}{p q:Prop}(h:v=v'):Yp v p q=Yp v' p q:=by rw[h]
def S8{p q:Prop}:Yp (.bool true) p q=p:=by simp[Yp]
def Q1{p q:Prop}:Yp (.bool false) p q=q:=by simp[Yp]
def CQ{b:Bool}{p q:Prop}:Yp (.bool b) p q↔(b=true->p)/\(b=false->q):=by cases b<;>simp[Yp]
def WE{c:Prop}[Decidable c]{p q:Prop}:Yp (.bool (decide c)) p q↔(c->p)/\(¬c->q):=by rw[CQ];simp
def Nx{c:Aa}{t e:IT}:W C (.AE c t e) Q h↔Yp c (W C t Q h) (W C e Q h):=by
 constructor
 .intro hw;obtain⟨m,x',HS,h',hr,q⟩:=hw.succ;simp only[IT.step] at hr;split at hr;.exact .inl ⟨rfl,C5 ⟨m,x',HS,h',hr,q⟩⟩
  .exact .inr ⟨rfl,C5 ⟨m,x',HS,h',hr,q⟩⟩
  .cases hr
 .rintro(⟨rfl,hw⟩|⟨rfl,hw⟩);.exact pH (λ_=>hw) λh=>by cases h
  .exact pH (λh=>by cases h) λ_=>hw
def WG{n:Option Nat}{p:Aa}{k:Aa->IT}:W C (.load n p k) Q h↔Zd (Bg h n p) λv=>W C (k v) Q h:=by
 refine⟨λhw=>?_,λ⟨v,hv,hw⟩=>cu hv hw⟩;obtain⟨m,x',HS,h',hr,q⟩:=hw.succ;simp only[IT.step] at hr;split at hr;.rename_i v hv;exact⟨v,hv,C5 ⟨m,x',HS,h',hr,q⟩⟩
 .cases hr
def T7{n:Nat}{p v:Aa}{k:IT}:W C (.store n p v k) Q h↔Zd (Cw h n p v) λh1=>W C k Q h1:=by
 refine⟨λhw=>?_,λ⟨v,hv,hw⟩=>pI hv hw⟩;obtain⟨m,x',HS,h',hr,q⟩:=hw.succ;simp only[IT.step] at hr;split at hr;.rename_i h1 hv;exact⟨h1,hv,C5 ⟨m,x',HS,h',hr,q⟩⟩
 .cases hr
def T8{n:Nat}{v:Aa}{k:Aa->IT}:W C (.alloc n v k) Q h↔Zd (if v.cells.length=n then some v.cells else none) λl=>W C (k (.ptr (some (h.length,0)))) Q (h++[.cells l]):=by
 constructor
 .intro hw;obtain⟨m,x',HS,h',hr,q⟩:=hw.succ;simp only[IT.step,VH] at hr;by_cases hv:v.cells.length=n;.rw[Ae hv] at hr;exact⟨_,Ae hv,C5 ⟨m,x',HS,h',hr,q⟩⟩
  .rw[Ac hv] at hr;cases hr
 .rintro⟨l,e,hw⟩;split at e;.rename_i hv;cases e;exact pJ hv hw
  .cases e
def Ze{u:Aa}{k:Aa->IT}:W C (.LK u k) Q h↔Zd (Kq h u) λx=>W C (k x.2) Q x.1:=by
 refine⟨λhw=>?_,λ⟨(h1,v),hv,hw⟩=>ğ hv hw⟩;obtain⟨m,x',HS,h',hr,q⟩:=hw.succ;simp only[IT.step] at hr;split at hr;.rename_i h1 v hv;exact⟨(h1,v),hv,C5 ⟨m,x',HS,h',hr,q⟩⟩
 .cases hr
def T9{off:Nat}{p:Aa}{k:IT}:W C (.HE off p k) Q h↔Zd (L5 h off p) λh1=>W C k Q h1:=by
 refine⟨λhw=>?_,λ⟨h1,hv,hw⟩=>pL hv hw⟩;obtain⟨m,x',HS,h',hr,q⟩:=hw.succ;simp only[IT.step] at hr;split at hr;.rename_i h1 hv;exact⟨h1,hv,C5 ⟨m,x',HS,h',hr,q⟩⟩
 .cases hr
def Ua{size bytes:Nat}{s x:Aa}{k:Aa->IT}:W C (.HR size bytes s x k) Q h↔Zd (KB h size bytes s x) λx=>W C (k x.2) Q x.1:=by
 refine⟨λhw=>?_,λ⟨(h1,v),hv,hw⟩=>pK hv hw⟩;obtain⟨m,x',HS,h',hr,q⟩:=hw.succ;simp only[IT.step] at hr;split at hr;.rename_i h1 v hv;exact⟨(h1,v),hv,C5 ⟨m,x',HS,h',hr,q⟩⟩
 .cases hr
def WH{size bytes:Nat}{s x:Aa}{k:Aa->IT}:W C (.FN size bytes s x k) Q h↔Zd (F9 h size bytes s x) λx=>W C (k x.2) Q x.1:=by
 refine⟨λhw=>?_,λ⟨(h1,v),hv,hw⟩=>da hv hw⟩;obtain⟨m,x,HS,h',hr,q⟩:=hw.succ;simp only[IT.step] at hr;split at hr;.rename_i h1 v hv;exact⟨(h1,v),hv,C5 ⟨m,x,HS,h',hr,q⟩⟩
 .cases hr
def Qw{size bytes:Nat}{s x:Aa}{k:Aa->IT}:W C (.GA size bytes s x k) Q h↔Zd (Qn h size bytes s x) λv=>W C (k v) Q h:=by
 refine⟨λhw=>?_,λ⟨v,hv,hw⟩=>YL hv hw⟩;obtain⟨m,x,HS,h',hr,q⟩:=hw.succ;simp only[IT.step] at hr;split at hr;.rename_i v hv;exact⟨v,hv,C5 ⟨m,x,HS,h',hr,q⟩⟩
 .cases hr
def Zf{o:bw}{args:List Aa}{k:Aa->IT}:W C (.mem o args k) Q h↔Zd (E5 o h args) λx=>W C (k x.2) Q x.1:=by
 refine⟨λhw=>?_,λ⟨(h1,v),hv,hw⟩=>Ġ hv hw⟩;obtain⟨n,x,vs,h',hr,q⟩:=hw.succ;simp only[IT.step] at hr;split at hr;.rename_i h1 v hv;exact⟨(h1,v),hv,C5 ⟨n,x,vs,h',hr,q⟩⟩
 .cases hr
def Ph{s:Aa}{k:Aa->IT}:W C (.Fe s k) Q h↔Zd (IN h s) λx=>W C (k x.2) Q x.1:=by
 refine⟨λhw=>?_,λ⟨(h1,v),hv,hw⟩=>VX hv hw⟩;obtain⟨m,x',HS,h',hr,q⟩:=hw.succ;simp only[IT.step] at hr;split at hr;.rename_i h1 v hv;exact⟨(h1,v),hv,C5 ⟨m,x',HS,h',hr,q⟩⟩
 .cases hr
def Q2{k:Aa->IT}:W C (.Nf k) Q h↔W C (k (.map (some h.length))) Q (h++[.map []]):=by refine⟨λhw=>?_,cy⟩;obtain⟨m,x',HS,h',hr,q⟩:=hw.succ;exact C5 ⟨m,x',HS,h',hr,q⟩
def WI{m key v:Aa}{k:IT}:W C (.HQ m key v k) Q h↔Zd (TH h m key v) λh1=>W C k Q h1:=by
 refine⟨λhw=>?_,λ⟨h1,hv,hw⟩=>cz hv hw⟩;obtain⟨m,x',HS,h',hr,q⟩:=hw.succ;simp only[IT.step] at hr;split at hr;.rename_i h1 hv;exact⟨h1,hv,C5 ⟨m,x',HS,h',hr,q⟩⟩
 .cases hr
def WJ{z:Aa}{ok:Bool}{m key:Aa}{k:Aa->IT}:W C (.L4 z ok m key k) Q h↔Zd (TI h z ok m key) λv=>W C (k v) Q h:=by
 refine⟨λhw=>?_,λ⟨h1,hv,hw⟩=>c_ hv hw⟩;obtain⟨m,x',HS,h',hr,q⟩:=hw.succ;simp only[IT.step] at hr;split at hr;.rename_i h1 hv;exact⟨h1,hv,C5 ⟨m,x',HS,h',hr,q⟩⟩
 .cases hr
def MP{g:Aa}{args:List Aa}{k:Aa->IT}:W C (.Es g args k) Q h↔Zd (DC g args) λx=>W C (.call x.1 x.2 k) Q h:=by
 constructor
 .intro hw;obtain⟨m,x',HS,h',hr,q⟩:=hw.succ;simp only[IT.step] at hr;split at hr;.rename_i f as e;refine⟨(f,as),e,C5 ⟨m,x',HS,h',?_,q⟩⟩;simp only[IT.step];exact hr
  .cases hr
 .rintro⟨⟨f,as⟩,e,hw⟩;obtain⟨m,x',HS,h',hr,q⟩:=hw.succ;refine C5 ⟨m,x',HS,h',?_,q⟩;simp only[IT.step,e] at hr⊢;exact hr
def AZ{key:Nat}{t:IT}{k:Fp->List Aa->IT}:W C (.Dz key t k) Q h↔W C t (λx vs h1=>W C (k x vs) Q h1) h:=by
 refine⟨λhw=>?_,dd⟩;obtain⟨m,x',HS,h',hr,q⟩:=hw.succ;simp only[IT.step] at hr;split at hr;.rename_i x vs h1 e;exact C5 ⟨m,_,_,_,e,C5 ⟨m,x',HS,h',hr,q⟩⟩
 .cases hr
def BZ(C:FZ)(f:FuncId)(args:List Aa)(h:Ah)(r:Aa)(h':Ah):Prop:=W C (Cd C f args) (λx vs h1=>x= .ret/\vs=[r]/\h1=h') h
def BZ.ev{f:FuncId}{args:List Aa}{r:Aa}{h':Ah}(hr:BZ C f args h r h'){R:Aa->Ah->Prop}(hR:R r h'):Ev C f args h R:=
 W.mono hr λ_ _ _ ⟨h1,h2,d⟩=>⟨h1,r,h2,by rw[d];exact hR⟩
def BZ.Ad{f:FuncId}{args:List Aa}{r:Aa}{h':Ah}(hr:BZ C f args h r h'){k:Aa->IT}:W C (.call f args k) Q h↔W C (k r) Q h':=by
 refine⟨λhw=>?_,λhw=>db (hr.ev hw)⟩;obtain⟨n,i,Ĺ,h1,g,rfl,rfl,rfl⟩:=hr;obtain⟨m,x',HS,h2,d,q⟩:=hw.succ;simp only[IT.step] at d;split at d;.rename_i r2 j e;simp only[FZ.run] at g e;have a1:=IT.Ib (HM n m) g;have a2:=IT.Ib (Hk n m) e;rw[a1] at a2;cases a2;exact C5 ⟨m,x',HS,h2,d,q⟩
 .cases d
def Ks(C:FZ)(f:FuncId)(args:List Aa)(r:Aa):Prop:=Ev C f args [] λx _=>x=r
def Ks.Bk{f:FuncId}{args:List Aa}{r:Aa}(hr:Ks C f args r)(ha:args.all Aa.ME=true)(hf:r.ME=true){k:Aa->IT}:W C (.Bk f args k) Q h↔W C (k r) Q h:=by
 refine⟨λhw=>?_,λhw=>qx ha (hr.mono λx _ e=>by rw[e];exact⟨hf,hw⟩)⟩;obtain⟨n,i,Ĺ,h1,g,rfl,y,rfl,rfl⟩:=hr;obtain⟨m,x',HS,h2,d,q⟩:=hw.succ;simp only[IT.step,ha,BT] at d;simp only[FZ.run] at g d;have a1:=IT.Ib (HM n m) g;cases hc:IT.run (Cd C) m (Cd C f args) [] with
 |none=>rw[hc] at d;cases d
 |some z=>have a2:=IT.Ib (Hk n m) hc;rw[a1] at a2;cases a2;rw[hc] at d;simp only[hf,BT] at d;exact C5 ⟨m,x',HS,h2,d,q⟩
end
def uh{C:FZ}{t t':IT}{Q:HB}{h h':Ah}(e:t=t')(d:h=h'):W C t Q h=W C t' Q h':=by rw[e,d]
def iz{o:X1}{args args':List Aa}{k:Aa->IT}(e:args=args'):IT.op o args k=IT.op o args' k:=by rw[e]
def fU{n:Nat}{v v':Aa}{k:List Aa->IT}(e:v=v'):IT.cells n v k=IT.cells n v' k:=by rw[e]
def yE{v v':Aa}{s t:IT}(e:v=v'):IT.AE v s t=IT.AE v' s t:=by rw[e]
def lW{n:Option Nat}{v v':Aa}{k:Aa->IT}(e:v=v'):IT.load n v k=IT.load n v' k:=by rw[e]
def fV{n:Nat}{p p' v v':Aa}{k:IT}(d:p=p')(e:v=v'):IT.store n p v k=IT.store n p' v' k:=by rw[e,d]
def fW{n:Nat}{v v':Aa}{k:Aa->IT}(e:v=v'):IT.alloc n v k=IT.alloc n v' k:=by rw[e]
def lX{f:FuncId}{args args':List Aa}{k:Aa->IT}(e:args=args'):IT.call f args k=IT.call f args' k:=by rw[e]
def fX{f:FuncId}{args args':List Aa}{k:Aa->IT}(e:args=args'):IT.Bk f args k=IT.Bk f args' k:=by rw[e]
def fY{f f':Aa}{args args':List Aa}{k:Aa->IT}(d:f=f')(e:args=args'):IT.Es f args k=IT.Es f' args' k:=by rw[e,d]
def lY{key:Nat}{i d:List Aa}{b:List Aa->IT}{k:Fp->List Aa->IT}(e:i=d):IT.loop key i b k=IT.loop key d b k:=by rw[e]
def lZ{key:Nat}{b:IT}{k:Fp->List Aa->IT}:IT.Dz key b k=IT.Dz key b k:=rfl
def yF{v v':Aa}{k:Aa->IT}(e:v=v'):IT.LK v k=IT.LK v' k:=by rw[e]
def fZ{size bytes:Nat}{s s' x x':Aa}{k:Aa->IT}(e:s=s')(d:x=x'):IT.HR size bytes s x k=IT.HR size bytes s' x' k:=by rw[e,d]
def l8{size bytes:Nat}{s s' x x':Aa}{k:Aa->IT}(e:s=s')(d:x=x'):IT.FN size bytes s x k=IT.FN size bytes s' x' k:=by rw[e,d]
def yG{o:bw}{args args':List Aa}{k:Aa->IT}(e:args=args'):IT.mem o args k=IT.mem o args' k:=by rw[e]
def Yq{size bytes:Nat}{s s' x x':Aa}{k:Aa->IT}(e:s=s')(d:x=x'):IT.GA size bytes s x k=IT.GA size bytes s' x' k:=by rw[e,d]
def gA{off:Nat}{p p':Aa}{k:IT}(e:p=p'):IT.HE off p k=IT.HE off p' k:=by rw[e]
def WK{s s':Aa}{k:Aa->IT}(e:s=s'):IT.Fe s k=IT.Fe s' k:=by rw[e]
def mA{m m' key key' v v':Aa}{k:IT}(e:m=m')(f:key=key')(d:v=v'):IT.HQ m key v k=IT.HQ m' key' v' k:=by rw[e,f,d]
def mB{z:Aa}{ok:Bool}{m m' key key':Aa}{k:Aa->IT}(e:m=m')(d:key=key'):IT.L4 z ok m key k=IT.L4 z ok m' key' k:=by rw[e,d]
attribute [congr] yD lV uh iz fU yE lW fV fW lX fX fY lY lZ yF gA l8 Yq yG fZ WK mA mB
attribute [simp] Nw fS S8 Q1 WE CQ Zc WC WD T6 Nx WG T7 T8 Ze T9 WH Qw Zf Ua Ph Q2 WI WJ MP AZ
section
variable{k:IntKind}{a b:Int}{s t:Aq}
@[simp] theorem aAM:AB (.int .eql) [.int k a,.int k b]=some (.bool (decide (a=b))):=by cases k<;>rfl
@[simp] theorem aAN:AB (.int .neq) [.int k a,.int k b]=some (.bool (decide (a≠b))):=by
 have e:AB (.int .neq) [.int k a,.int k b]=some (.bool (!(a==b))):=by cases k<;>rfl
 rw[e];by_cases h:a=b<;>simp[h]
@[simp] theorem aAO:AB (.int .lss) [.int k a,.int k b]=some (.bool (decide (a<b))):=by cases k<;>rfl
@[simp] theorem aAP:AB (.int .leq) [.int k a,.int k b]=some (.bool (decide (a<=b))):=by cases k<;>rfl
@[simp] theorem aAQ:AB (.int .gtr) [.int k a,.int k b]=some (.bool (decide (b<a))):=by cases k<;>rfl
@[simp] theorem aAR:AB (.int .geq) [.int k a,.int k b]=some (.bool (decide (b<=a))):=by cases k<;>rfl
def aP:AB (.int .add) [.int k a,.int k b]=some (.int k (k.wrap (a+b))):=by cases k<;>rfl
def mC:AB (.int .sub) [.int k a,.int k b]=some (.int k (k.wrap (a-b))):=by cases k<;>rfl
@[simp] theorem aAS {b:Bool}:AB (.un .not) [.bool b]=some (.bool (!b)):=rfl
@[simp] theorem qI:AB (.str .eql) [.str s,.str t]=some (.bool (decide (s=t))):=by
 show some (Aa.bool (s==t))=_;congr 2
 by_cases h:s=t<;>simp[h]
@[simp] theorem ui:AB (.str .neq) [.str s,.str t]=some (.bool (decide (s≠t))):=by
 show some (Aa.bool (!(s==t)))=_;congr 2
 by_cases h:s=t<;>simp[h]
@[simp] theorem uj:AB (.len true) [.str s]=some (.int .i64 s.length):=rfl
@[simp] theorem aLm {i:Int}:AB .Qd [.str s,.int k i]=if 0<=i then(s[i.toNat]?).map λb=> .int .u8 b.toNat else none:=rfl
@[simp] theorem aQ {off:Nat} {cs:List Aa}:AB (.part off none) [.agg cs]=cs[off]?:=rfl
@[simp] theorem aR {off n:Nat} {cs:List Aa}:AB (.part off (some n)) [.agg cs]=if off+n<=cs.length then some (.agg ((cs.drop off).take n)) else none:=rfl
@[simp] theorem aAT {i:Nat} {vs:List Aa}:AB (.ext i) [.tuple vs]=vs[i]?:=rfl
@[simp] theorem Yr {p:Nat×Nat}:AB .L2 [.ptr (some p)]=some (.ptr (some p)):=rfl
@[simp] theorem WL {cs:List Aa}:AB .L2 [.Cq cs]=some (.Cq cs):=rfl
@[simp] theorem WM {f:FuncId} {a b:List Aa}:AB .L2 [.func (.func f) a b]=some (.func (.func f) a b):=rfl
@[simp] theorem Ys {off:Nat} {cs:List Aa}:AB (.EN off) [.Cq cs]=some (.Cq (cs.drop off)):=rfl
@[simp] theorem aS {off id o:Nat}:AB (.EN off) [.ptr (some (id,o))]=some (.ptr (some (id,o+off))):=rfl
@[simp] theorem yH {neg:Bool}:AB (.Rq neg) [.ptr none,.ptr none]=some (.bool (true != neg)):=rfl
@[simp] theorem yI {neg:Bool} {p:Nat×Nat}:AB (.Rq neg) [.ptr (some p),.ptr none]=some (.bool (false != neg)):=rfl
@[simp] theorem yJ {neg:Bool} {p:Nat×Nat}:AB (.Rq neg) [.ptr none,.ptr (some p)]=some (.bool (false != neg)):=rfl
@[simp] theorem aAU {neg a b:Bool}:AB (.beq neg) [.bool a,.bool b]=some (.bool ((a==b) != neg)):=rfl
@[simp] theorem aLn {c:Bool} {a b:Aa}:AB .pick [.bool c,a,b]=some (if c then a else b):=rfl
@[simp] theorem RU {l:IntKind}:AB (.conv l) [.int k a]=some (.int l (l.wrap a)):=rfl
@[simp] theorem i_ {zero args:List Aa} {places:List (Nat×Nat)}:AB (.BF zero places) args=if places.length=args.length then(AR zero (places.zip args)).map .agg else none:=rfl
@[simp] theorem Q3 {neg:Bool} {ks:List FK} {x y:List Aa}:AB (.geq neg ks) [.agg x,.agg y]=(D6 ks x y).map λe=> .bool (e != neg):=rfl
@[simp] theorem ja:AB (.Lq false) [.int k a,.int k b]=some (.int k (if b<a then b else a)):=by simp[AB]
@[simp] theorem aT:AB (.Lq true) [.int k a,.int k b]=some (.int k (if a<b then b else a)):=by simp[AB]
@[simp] theorem WN {h:Ah} {n:Option Nat} {cs:List Aa}:Bg h n (.Cq cs)=Ft cs 0 n:=rfl
@[simp] theorem E8 {off:Nat} {cs:List Aa}:Ft cs off none=cs[off]?:=rfl
@[simp] theorem MQ {off n:Nat} {cs:List Aa}:Ft cs off (some n)=if off+n<=cs.length then some (.agg ((cs.drop off).take n)) else none:=rfl
@[simp] theorem wrap_i64 (h1: -9223372036854775808<=a) (h2:a<9223372036854775808):IntKind.i64.wrap a=a:=by rw[IntKind.wrap_i64];omega
end
def S9{cs:List Aa}:Aa.cells (.agg cs)=cs:=rfl
def Zg{k:IntKind}{n:Int}:Aa.cells (.int k n)=[.int k n]:=rfl
def PZ{s:Aq}:Aa.cells (.str s)=[.str s]:=rfl
def WO{b:Bool}:Aa.cells (.bool b)=[.bool b]:=rfl
def Zh{p:Option (Nat×Nat)}:Aa.cells (.ptr p)=[.ptr p]:=rfl
def WQ{p:List Aa}:Aa.cells (.Cq p)=[.Cq p]:=rfl
def Ub:Aa.cells .slnil=[.slnil]:=rfl
def gB{z:Nat}{r:List (List Aa)}:Aa.cells (.sl z r)=[.sl z r]:=rfl
def Zi{i o l z:Nat}:Aa.cells (.CD i o l z)=[.CD i o l z]:=rfl
def WR{f:Fn}{a b:List Aa}:Aa.cells (.func f a b)=[.func f a b]:=rfl
attribute [simp] AR D6 Lr DC S9 Zg PZ WO Zh WQ Ub gB Zi WR
def AV(z:Nat)(Az:List (List Aa))(v:Aa):Prop:=v= .sl z Az\/(v= .slnil/\Az=[])
section
variable{z:Nat}{Az:List (List Aa)}{v:Aa}
def AV.mk:AV z Az (.sl z Az):= .inl rfl
def AV.nil:AV z [] .slnil:= .inr ⟨rfl,rfl⟩
def AV.cells(h:AV z Az v):v.cells=[v]:=by rcases h with rfl|⟨rfl,rfl⟩<;>rfl
def AV.len(h:AV z Az v):AB (.len false) [v]=some (.int .i64 Az.length):=by rcases h with rfl|⟨rfl,rfl⟩<;>rfl
def AV.FC(h:AV z Az v){k:IntKind}{n:Nat}(hn:n<Az.length):AB (.FC z) [v,.int k (n:Int)]=some (.Cq Az[n]):=by
 rcases h with rfl|⟨rfl,rfl⟩
 .simp[AB,elemOf,hn]
 .simp at hn
end
end Go.Am
end
section
namespace Go.Am
open Go
section
variable{C:FZ}{Q:HB}{h:Ah}
def Pj{key:Nat}{vs:List Aa}{body:List Aa->IT}{k:Fp->List Aa->IT}
  (hw:W C (body vs) (λx Ĺ h1=>(x= .normal/\W C (.loop key Ĺ body k) Q h1)\/(x≠ .normal/\W C (k x Ĺ) Q h1)) h):W C (.loop key vs body k) Q h:=by
 obtain⟨m,x,Ĺ,h1,hr,I6⟩:=hw.succ;rcases I6 with⟨rfl,hw⟩|⟨hx,hw⟩
 .obtain⟨m',x',HS,h',F0,q⟩:=hw;refine C5 ⟨max m m',x',HS,h',?_,q⟩;have e:=IT.JN (λt h r=>IT.Ib (fn:=Cd C) (HM m m')) _ _ _ hr;have d:=IT.Ib (Hk m m') F0;simp only[IT.step];simp only[FZ.run] at*;rw[e];exact d
 .obtain⟨m',x',HS,h',F0,q⟩:=hw.succ;refine C5 ⟨max m m',x',HS,h',?_,q⟩;have e:=IT.JN (λt h r=>IT.Ib (fn:=Cd C) (HM m m')) _ _ _ hr;have d:=IT.JN (λt h r=>IT.Ib (fn:=Cd C) (Hk m m')) _ _ _ F0;simp only[IT.step];simp only[FZ.run] at*;rw[e];cases x<;>first|exact absurd rfl hx|exact d
def AM{U:Type}(C:FZ)(enc:U->List Aa)(D4:U->Ah->Prop)(O:U->Nat)(k:Fp->List Aa->IT)(Q:HB)(s:U):HB:=
 λx vs h1=>(x= .normal/\∃s',vs=enc s'/\D4 s' h1/\O s'<O s)\/(x≠ .normal/\W C (k x vs) Q h1)
variable{U:Type}{enc:U->List Aa}{D4:U->Ah->Prop}{O:U->Nat}{k:Fp->List Aa->IT}{s:U}{vs:List Aa}
def AM.next(s':U)(e:vs=enc s')(hi:D4 s' h)(hl:O s'<O s):AM C enc D4 O k Q s .normal vs h:= .inl ⟨rfl,s',e,hi,hl⟩
def Yt{i:Nat}:AM C enc D4 O k Q s (.exit i) vs h↔W C (k (.exit i) vs) Q h:=by simp[AM]
def aU:AM C enc D4 O k Q s .ret vs h↔W C (k .ret vs) Q h:=by simp[AM]
def Bj{key:Nat}{init:List Aa}{body:List Aa->IT}(enc:U->List Aa)(D4:U->Ah->Prop)(O:U->Nat)(s0:U)(h0:init=enc s0)(hi:D4 s0 h)
  (round:∀s h,D4 s h->W C (body (enc s)) (AM C enc D4 O k Q s) h):W C (.loop key init body k) Q h:=by
 subst h0;have key:∀n s h,O s=n->D4 s h->W C (.loop key (enc s) body k) Q h:=by
  intro n;induction n using Nat.strongRecOn with
  |_ n ih=>
   intro s h hn hI;refine Pj (W.mono (round s h hI) ?_);rintro x vs h1 (⟨rfl,s',rfl,fj,hl⟩|⟨hx,hw⟩);.exact .inl ⟨rfl,ih _ (hn▸hl) s' h1 rfl fj⟩
   .exact .inr ⟨hx,hw⟩
 exact key _ s0 h rfl hi
end
section
variable{k l:IntKind}{s:Aq}
def Fw{n:Nat}(hn:n<s.length):AB .Qd [.str s,.int k (n:Int)]=some (.int .u8 (s[n].toNat:Int)):=by simp[hn]
def BQ{n:Nat}(hn:n<9223372036854775807):AB (.int .add) [.int .i64 (n:Int),.int .i64 1]=some (.int .i64 ((n+1:Nat):Int)):=by rw[aP,wrap_i64 Ab Ab];rfl
def If{n:Nat}(h0:0<n)(hn:n<9223372036854775807):AB (.int .sub) [.int .i64 (n:Int),.int .i64 1]=some (.int .i64 ((n-1:Nat):Int)):=by rw[mC,wrap_i64 Ab Ab];congr 2;omega
def Md{a b z:Nat}(X7:a<=b)(hb:b<=s.length):AB (.HO z true true true) [.str s,.int k (a:Int),.int l (b:Int)]=some (.str ((s.take b).drop a)):=by
 have e:Fo (b:Int) s.length=some b:=by unfold Fo;rw[Ae Ab];rfl
 have d:Fo (a:Int) b=some a:=by unfold Fo;rw[Ae Ab];rfl
 simp[AB,J4,Ea,e,d]
end
section
variable{z b:Nat}{r r2:List (List Aa)}{row:List Aa}{v v2:Aa}
def AV.jb(h:AV z r v)(hb:(r.length+1)*b<=AX):AB (.append z b) [v,.sl z [row]]=some (.sl z (r++[row])):=by
 rcases h with rfl|⟨rfl,rfl⟩
 .simp[AB,HP,DJ,hb]
 .have:1*b<=AX:=by simpa using hb
  simp only[D5] at this;simp[AB,HP,DJ,this]
def AV.Iq(h:AV z r v)(h2:AV z r2 v2)(hb:(r.length+r2.length)*b<=AX):∃u,AB (.append z b) [v,v2]=some u/\AV z (r++r2) u:=by
 have hnil:∃u,DJ z b v []=some u/\AV z (r++[]) u:=by
  rcases h with rfl|⟨rfl,rfl⟩
  .exact⟨.sl z r,by simp[DJ],by rw[BK];exact .mk⟩
  .exact⟨_,rfl,.nil⟩
 rcases h2 with rfl|⟨rfl,rfl⟩
 .cases r2 with
  |nil=>obtain⟨u,e,hu⟩:=hnil;exact⟨u,by simpa[AB,HP] using e,hu⟩
  |cons x l=>
   refine⟨.sl z (r++x::l),?_,.mk⟩;rcases h with rfl|⟨rfl,rfl⟩
   .simp only[AB,HP,BT,DJ];rw[Ae ⟨trivial,hb⟩]
   .simp only[AB,HP,BT,DJ];rw[Ae (by simpa using hb)];rfl
 .obtain⟨u,e,hu⟩:=hnil;exact⟨u,by simpa[AB,HP] using e,hu⟩
def AV.LK(h:AV z r v){hp:Ah}:Kq hp v=some (hp,v):=by rcases h with rfl|⟨rfl,rfl⟩<;>rfl
def Q4(s:Aq):MH (Cg s)=some s:=by
 induction s with
 |nil=>rfl
 |cons c s ih=>have e:Cg (c::s)=[.int .u8 c.toNat]::Cg s:=rfl;rw[e,MH,ih];simp
def AV.Ux{s:Aq}(h:AV 1 (Cg s) v):AB .Ux [v]=some (.str s):=by
 rcases h with rfl|⟨rfl,h⟩
 .simp[AB,VG,Q4]
 .have e:s=[]:=by simpa[Cg] using h
  subst e;rfl
def Qx(s t:Aq):Cg (s++t)=Cg s++Cg t:=by simp[Cg]
def Yu(s:Aq):(Cg s).length=s.length:=by simp[Cg]
end
@[simp] theorem qJ {z:Nat} {args:List Aa}:AB (.BI z) args=if args.all (λa=>a.cells.length==z)&&decide (args.length*z<=16777216) then some (.sl z (args.map (·.cells))) else none:=rfl
def Me{a:Aa}{z:Nat}(h:a.cells.length=z)(hz:z<=16777216):AB (.BI z) [a]=some (.sl z [a.cells]):=by simp[h,hz]
def wrap_u8{a:Int}(h:0<=a/\a<=255):IntKind.u8.wrap a=a:=IntWalk.u8_in a h
def jc{a:Int}(h: -2147483648<=a/\a<=2147483647):IntKind.i32.wrap a=a:=IntWalk.i32_in a h
def Af{C:FZ}{f:FuncId}{args:List Aa}{h h':Ah}{r:Aa}:BZ C f args h r h'↔W C (Cd C f args) (λx vs h1=>x= .ret/\vs=[r]/\h1=h') h:=aEr
abbrev Ek(C:FZ)(f:FuncId)(t:Aa->IT):Prop:=∀a0,Cd C f [a0]=t a0
abbrev DB(C:FZ)(f:FuncId)(t:Aa->Aa->IT):Prop:=∀a0 a1,Cd C f [a0,a1]=t a0 a1
abbrev LP(C:FZ)(f:FuncId)(t:Aa->Aa->Aa->IT):Prop:=∀a0 a1 a2,Cd C f [a0,a1,a2]=t a0 a1 a2
abbrev qm(C:FZ)(f:FuncId)(t:Aa->Aa->Aa->Aa->IT):Prop:=∀a0 a1 a2 a3,Cd C f [a0,a1,a2,a3]=t a0 a1 a2 a3
abbrev Tq5(C:FZ)(f:FuncId)(t:Aa->Aa->Aa->Aa->Aa->IT):Prop:=∀a0 a1 a2 a3 a4,Cd C f [a0,a1,a2,a3,a4]=t a0 a1 a2 a3 a4
def IT.fa(p:Aa)(k:Nat)(K:Aa->Aa->IT):IT:= .op .L2 [p] λa=> .op (.EN k) [a] λb=>K a b
def IT.Bt(p:Aa)(k:Nat)(K:Aa->Aa->Aa->IT):IT:= .op .L2 [p] λa=> .op (.EN k) [a] λb=> .load none b λc=>K a b c
def IT.fl(p:Aa)(k:Nat)(K:Aa->Aa->IT):IT:= .op (.EN k) [p] λa=> .load none a λb=>K a b
def nx(A R:List Aa->IT):Fp->List Aa->IT:=λx c=>match x with
 | .normal=>A c
 | .exit _=> .fail
 | .ret=>R c
def lx(k:Nat)(A R:List Aa->IT):Fp->List Aa->IT:=λx c=>match x with
 | .normal=> .fail
 | .exit i=>if i=k then A c else .fail
 | .ret=>R c
section
variable{C:FZ}{Q:HB}{h:Ah}{p:Aa}{k:Nat}{A R:List Aa->IT}{c:List Aa}
def aM4{K:Aa->Aa->IT}:W C (IT.fa p k K) Q h=W C (.op .L2 [p] λa=> .op (.EN k) [a] λb=>K a b) Q h:=rfl
def aF1{K:Aa->Aa->Aa->IT}:W C (IT.Bt p k K) Q h=W C (.op .L2 [p] λa=> .op (.EN k) [a] λb=> .load none b λc=>K a b c) Q h:=rfl
def aM5{K:Aa->Aa->IT}:W C (IT.fl p k K) Q h=W C (.op (.EN k) [p] λa=> .load none a λb=>K a b) Q h:=rfl
def aM6:nx A R .normal c=A c:=rfl
def aM7:nx A R .ret c=R c:=rfl
def aM8:lx k A R (.exit k) c=A c:=Ae rfl
def aM9:lx k A R .ret c=R c:=rfl
end
def Dq:Aq->Aq->List Aq
 |cur,[]=>[cur]
 |cur,c::r=>if c=32 then cur::Dq [] r else Dq (cur++[c]) r
def Ny:List Aq:=Dq [] aV8
def swv(s:Aa)(t e:IT):List (List UInt8)->IT
 |[]=>e
 |c::cs=>.op (.str .eql) [s,.str c] λv=>.AE v t (swv s t e cs)
abbrev IT.rr(l:List Aa):IT:=.ret .ret l
abbrev IT.rn(l:List Aa):IT:=.ret .normal l
abbrev IT.rx(n:Nat)(l:List Aa):IT:=.ret (.exit n) l
abbrev IT.ea(n:Nat)(l:List Aa)(k:Aa->IT):IT:=.op (.FC n) l k
abbrev IT.ld(p:Aa)(k:Aa->IT):IT:=.load none p k
abbrev IT.ie(l:List Aa)(k:Aa->IT):IT:=.op (.int .eql) l k
abbrev IT.iq(l:List Aa)(k:Aa->IT):IT:=.op (.int .neq) l k
abbrev IT.il(l:List Aa)(k:Aa->IT):IT:=.op (.int .lss) l k
abbrev IT.ig(l:List Aa)(k:Aa->IT):IT:=.op (.int .gtr) l k
abbrev IT.ia(l:List Aa)(k:Aa->IT):IT:=.op (.int .add) l k
abbrev IT.ib(l:List Aa)(k:Aa->IT):IT:=.op (.int .sub) l k
abbrev IT.ih(l:List Aa)(k:Aa->IT):IT:=.op (.int .geq) l k
abbrev IT.ik(l:List Aa)(k:Aa->IT):IT:=.op (.int .leq) l k
abbrev IT.se(l:List Aa)(k:Aa->IT):IT:=.op (.str .eql) l k
abbrev IT.ln(l:List Aa)(k:Aa->IT):IT:=.op (.len false) l k
abbrev IT.lt(l:List Aa)(k:Aa->IT):IT:=.op (.len true) l k
abbrev IT.nt(l:List Aa)(k:Aa->IT):IT:=.op (.un .not) l k
abbrev IT.ca(f:Nat)(l:List Aa)(k:Aa->IT):IT:=.call f l k
abbrev i0:Aa:=I 0
abbrev i1:Aa:=I 1
abbrev tu:Aa:=.tuple []
abbrev pn:Aa:=.ptr none
def WS(c:List Aa):Aa:=.agg [g c 0,g c 1,g c 2,g c 3,g c 4,g c 5,g c 6,g c 7,g c 8,g c 9,g c 10,g c 11,g c 12]
def a13_e{c:List Aa}:WS c=.agg [g c 0,g c 1,g c 2,g c 3,g c 4,g c 5,g c 6,g c 7,g c 8,g c 9,g c 10,g c 11,g c 12]:=rfl
def EI(c:List Aa):Aa:=.agg [g c 0,g c 1,g c 2,g c 3,g c 4,g c 5,g c 6,g c 7,g c 8,g c 9,g c 10,g c 11]
def a12_e{c:List Aa}:EI c=.agg [g c 0,g c 1,g c 2,g c 3,g c 4,g c 5,g c 6,g c 7,g c 8,g c 9,g c 10,g c 11]:=rfl
def a9(c:List Aa):Aa:=.agg [g c 0,g c 1,g c 2,g c 3,g c 4,g c 5,g c 6,g c 7,g c 8]
def a9_e{c:List Aa}:a9 c=.agg [g c 0,g c 1,g c 2,g c 3,g c 4,g c 5,g c 6,g c 7,g c 8]:=rfl
def a6(c:List Aa):Aa:=.agg [g c 0,g c 1,g c 2,g c 3,g c 4,g c 5]
def a6_e{c:List Aa}:a6 c=.agg [g c 0,g c 1,g c 2,g c 3,g c 4,g c 5]:=rfl
def a4(c:List Aa):Aa:=.agg [g c 0,g c 1,g c 2,g c 3]
def a4_e{c:List Aa}:a4 c=.agg [g c 0,g c 1,g c 2,g c 3]:=rfl
def a3(c:List Aa):Aa:=.agg [g c 0,g c 1,g c 2]
def a3_e{c:List Aa}:a3 c=.agg [g c 0,g c 1,g c 2]:=rfl
def ai{a b:Prop}(x:a)(y:b):a/\b:=⟨x,y⟩
def BJ:=ai @a13_e (ai @a12_e (ai @a9_e (ai @a6_e (ai @a4_e (ai @a3_e (ai @aM4 (ai @aF1 (ai @aM5 (ai @aM6 (ai @aM7 (ai @aM8 (ai @aM9 (ai @Nw (ai @fS (ai @S8 (ai @Q1 (ai @WE (ai @Zc (ai @WC (ai @WD (ai @T6 (ai @Nx (ai @WG (ai @T7 (ai @T8 (ai @Ze (ai @T9 (ai @WH (ai @Qw (ai @Zf (ai @Ua (ai @Ph (ai @Q2 (ai @WI (ai @WJ (ai @MP (ai @AZ (ai @aAM (ai @aAN (ai @aAO (ai @aAP (ai @aAQ (ai @aAR (ai @aAS (ai @qI (ai @ui (ai @uj (ai @aQ (ai @aR (ai @aAT (ai @Yr (ai @WL (ai @WM (ai @Ys (ai @aS (ai @yH (ai @yI (ai @yJ (ai @aAU (ai @i_ (ai @WN (ai @E8 (ai @MQ (ai @aL2.{0} (ai @aL3.{0} (ai @IK.{0} (ai @LI.{0} (ai @Mt.{0} (ai @List.drop_succ_cons.{0} (ai @Ĕ.{0} (ai @Kl.{0} (ai @YF.{0} (ai @Be.{0} (ai @B1.{0} (ai @CK.{0} (ai @BV.{0} (ai @aP8.{0,0} (ai @List.zip_nil_right.{0,0} (ai @Cc.{0,0} (ai @Option.map_none.{0,0} (ai @B0 (ai @S9 (ai @Zg (ai @PZ (ai @WO (ai @Zh (ai @WQ (ai @Ub (ai @gB (ai @Zi (ai @WR (ai @jI (ai @Mx (ai @Mz (ai @BT.{1} (ai @Eb.{1} (ai @Yt (@aU))))))))))))))))))))))))))))))))))))))))))))))))))))))))))))))))))))))))))))))))))))))))))))))))))
def gC:=ai @H5.{0} (ai @beq_self_eq_true.{0} (ai @Rj (ai @qh (ai @Rh (ai @IL (ai @Ax (ai @Aw (ai @Ap (ai @An (ai @Bv (ai @Nat.zero_lt_succ (ai @Cc.{0,0} (@ĕ.{0})))))))))))))
def abS:=ai BJ gC
def aaS:type_of%@AJ.{0}:=@AJ.{0}
def Jd:=ai @DV (ai @Ec (ai @Bool.and_true (ai @Bool.true_and (ai @qg (ai @qi (ai @aEs (ai @TF (ai @Lo (ai @Hi (ai @Hl.{0} (ai @dO.{0} (ai @Option.getD_none.{0} (ai @aQb.{0} (ai @BT.{1} (ai @Eb.{1} (ai @Cy (ai @Mx (ai @ũ (ai @Mz (ai @Ya (ai @Ė (@Dr))))))))))))))))))))))
abbrev Pt(i o:Nat):Aa:=.ptr (some (i,o))
end Go.Am
end
