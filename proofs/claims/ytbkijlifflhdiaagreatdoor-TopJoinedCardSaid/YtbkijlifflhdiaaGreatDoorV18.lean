/- Lemmas -/
import Derived.Test.YtbkijlifflhdiaaGreatDoorV1
import Derived.IntWalk
set_option linter.all false
section
namespace Go.Am
open Go
section
variable{C:E7}{Q:IA}{h:Ag}
def VH{x:EW}{vs:List Aa}:W C (.ret x vs) Q h↔Q x vs h:=by refine⟨λhw=>?_,xd⟩;obtain⟨n,x',Gu,h',hr,q⟩:=hw.succ;simp only[IT.step,Bv,Jp] at hr;obtain⟨rfl,rfl,rfl⟩:=hr;exact q
def Tk:W C .fail Q h↔False:=by refine⟨λhw=>?_,λh=>h.elim⟩;obtain⟨n,x',Gu,h',hr,q⟩:=hw.succ;simp[IT.step] at hr
def VI{Z:Type}(o:Option Z)(f:Z->Prop):Prop:=∃v,o=some v/\f v
def mH{Z:Type}{o o':Option Z}{f:Z->Prop}(h:o=o'):VI o f=VI o' f:=by rw[h]
def M5{Z:Type}{v:Z}{f:Z->Prop}:VI (some v) f=f v:=propext (by
 constructor;.rintro⟨_,e,h⟩;cases e;exact h
 .intro h;exact⟨v,rfl,h⟩)
def YT{Z:Type}{f:Z->Prop}:VI (none:Option Z) f=False:=propext (by
 constructor;.rintro⟨_,e,_⟩;cases e
 .exact False.elim)
def Tl{o:Ur}{args:List Aa}{k:Aa->IT}:W C (.op o args k) Q h↔VI (Ax o args) λv=>W C (k v) Q h:=by
 refine⟨λhw=>?_,λ⟨v,hv,hw⟩=>Ż hv hw⟩;obtain⟨n,x',Gu,h',hr,q⟩:=hw.succ;simp only[IT.step] at hr;split at hr;.rename_i v hv;exact⟨v,hv,Cw ⟨n,x',Gu,h',hr,q⟩⟩
 .cases hr
def Rg{n:Nat}{v:Aa}{k:List Aa->IT}:W C (.cells n v k) Q h↔VI (if v.cells.length=n then some v.cells else none) λl=>W C (k l) Q h:=by
 constructor
 .intro hw;obtain⟨m,x',Gu,h',hr,q⟩:=hw.succ;simp only[IT.step] at hr;split at hr;.rename_i hv;exact⟨_,Ad hv,Cw ⟨m,x',Gu,h',hr,q⟩⟩
  .cases hr
 .rintro⟨l,e,hw⟩;split at e;.rename_i hv;cases e;exact wK hv hw
  .cases e
def UH(v:Aa)(p q:Prop):Prop:=(v= .bool true/\p)\/(v= .bool false/\q)
def cC{v v':Aa}{p q:Prop}(h:v=v'):UH v p q=UH v' p q:=by rw[h]
def VJ{p q:Prop}:UH (.bool true) p q=p:=by simp[UH]
def Tm{p q:Prop}:UH (.bool false) p q=q:=by simp[UH]
def C6{b:Bool}{p q:Prop}:UH (.bool b) p q↔(b=true->p)/\(b=false->q):=by cases b<;>simp[UH]
def Tn{c:Prop}[Decidable c]{p q:Prop}:UH (.bool (decide c)) p q↔(c->p)/\(¬c->q):=by rw[C6];simp
def LJ{c:Aa}{t e:IT}:W C (.A4 c t e) Q h↔UH c (W C t Q h) (W C e Q h):=by
 constructor
 .intro hw;obtain⟨m,x',Gu,h',hr,q⟩:=hw.succ;simp only[IT.step] at hr;split at hr;.exact .inl ⟨rfl,Cw ⟨m,x',Gu,h',hr,q⟩⟩
  .exact .inr ⟨rfl,Cw ⟨m,x',Gu,h',hr,q⟩⟩
  .cases hr
 .rintro(⟨rfl,hw⟩|⟨rfl,hw⟩);.exact dz (λ_=>hw) λh=>by cases h
  .exact dz (λh=>by cases h) λ_=>hw
def To{n:Option Nat}{p:Aa}{k:Aa->IT}:W C (.load n p k) Q h↔VI (BE h n p) λv=>W C (k v) Q h:=by
 refine⟨λhw=>?_,λ⟨v,hv,hw⟩=>jt hv hw⟩;obtain⟨m,x',Gu,h',hr,q⟩:=hw.succ;simp only[IT.step] at hr;split at hr;.rename_i v hv;exact⟨v,hv,Cw ⟨m,x',Gu,h',hr,q⟩⟩
 .cases hr
def Rh{n:Nat}{p v:Aa}{k:IT}:W C (.store n p v k) Q h↔VI (Cx h n p v) λh1=>W C k Q h1:=by
 refine⟨λhw=>?_,λ⟨v,hv,hw⟩=>wL hv hw⟩;obtain⟨m,x',Gu,h',hr,q⟩:=hw.succ;simp only[IT.step] at hr;split at hr;.rename_i h1 hv;exact⟨h1,hv,Cw ⟨m,x',Gu,h',hr,q⟩⟩
 .cases hr
def Ri{n:Nat}{v:Aa}{k:Aa->IT}:W C (.alloc n v k) Q h↔VI (if v.cells.length=n then some v.cells else none) λl=>W C (k (.ptr (some (h.length,0)))) Q (h++[.cells l]):=by
 constructor
 .intro hw;obtain⟨m,x',Gu,h',hr,q⟩:=hw.succ;simp only[IT.step,Wl] at hr;by_cases hv:v.cells.length=n;.rw[Ad hv] at hr;exact⟨_,Ad hv,Cw ⟨m,x',Gu,h',hr,q⟩⟩
  .rw[Ac hv] at hr;cases hr
 .rintro⟨l,e,hw⟩;split at e;.rename_i hv;cases e;exact wM hv hw
  .cases e
def VK{u:Aa}{k:Aa->IT}:W C (.Sn u k) Q h↔VI (La h u) λx=>W C (k x.2) Q x.1:=by
 refine⟨λhw=>?_,λ⟨(h1,v),hv,hw⟩=>xe hv hw⟩;obtain⟨m,x',Gu,h',hr,q⟩:=hw.succ;simp only[IT.step] at hr;split at hr;.rename_i h1 v hv;exact⟨(h1,v),hv,Cw ⟨m,x',Gu,h',hr,q⟩⟩
 .cases hr
def Rj{off:Nat}{p:Aa}{k:IT}:W C (.HA off p k) Q h↔VI (Kb h off p) λh1=>W C k Q h1:=by
 refine⟨λhw=>?_,λ⟨h1,hv,hw⟩=>wO hv hw⟩;obtain⟨m,x',Gu,h',hr,q⟩:=hw.succ;simp only[IT.step] at hr;split at hr;.rename_i h1 hv;exact⟨h1,hv,Cw ⟨m,x',Gu,h',hr,q⟩⟩
 .cases hr
def Rk{size bytes:Nat}{s x:Aa}{k:Aa->IT}:W C (.IE size bytes s x k) Q h↔VI (K9 h size bytes s x) λx=>W C (k x.2) Q x.1:=by
 refine⟨λhw=>?_,λ⟨(h1,v),hv,hw⟩=>wN hv hw⟩;obtain⟨m,x',Gu,h',hr,q⟩:=hw.succ;simp only[IT.step] at hr;split at hr;.rename_i h1 v hv;exact⟨(h1,v),hv,Cw ⟨m,x',Gu,h',hr,q⟩⟩
 .cases hr
def Tp{size bytes:Nat}{s x:Aa}{k:Aa->IT}:W C (.FG size bytes s x k) Q h↔VI (hgrow h size bytes s x) λx=>W C (k x.2) Q x.1:=by
 refine⟨λhw=>?_,λ⟨(h1,v),hv,hw⟩=>jy hv hw⟩;obtain⟨m,x,Gu,h',hr,q⟩:=hw.succ;simp only[IT.step] at hr;split at hr;.rename_i h1 v hv;exact⟨(h1,v),hv,Cw ⟨m,x,Gu,h',hr,q⟩⟩
 .cases hr
def N6{size bytes:Nat}{s x:Aa}{k:Aa->IT}:W C (.Fk size bytes s x k) Q h↔VI (NX h size bytes s x) λv=>W C (k v) Q h:=by
 refine⟨λhw=>?_,λ⟨v,hv,hw⟩=>kO hv hw⟩;obtain⟨m,x,Gu,h',hr,q⟩:=hw.succ;simp only[IT.step] at hr;split at hr;.rename_i v hv;exact⟨v,hv,Cw ⟨m,x,Gu,h',hr,q⟩⟩
 .cases hr
def VL{o:pB}{args:List Aa}{k:Aa->IT}:W C (.mem o args k) Q h↔VI (D4 o h args) λx=>W C (k x.2) Q x.1:=by
 refine⟨λhw=>?_,λ⟨(h1,v),hv,hw⟩=>xf hv hw⟩;obtain⟨n,x,vs,h',hr,q⟩:=hw.succ;simp only[IT.step] at hr;split at hr;.rename_i h1 v hv;exact⟨(h1,v),hv,Cw ⟨n,x,vs,h',hr,q⟩⟩
 .cases hr
def M6{s:Aa}{k:Aa->IT}:W C (.EE s k) Q h↔VI (HW h s) λx=>W C (k x.2) Q x.1:=by
 refine⟨λhw=>?_,λ⟨(h1,v),hv,hw⟩=>aH hv hw⟩;obtain⟨m,x',Gu,h',hr,q⟩:=hw.succ;simp only[IT.step] at hr;split at hr;.rename_i h1 v hv;exact⟨(h1,v),hv,Cw ⟨m,x',Gu,h',hr,q⟩⟩
 .cases hr
def Oz{k:Aa->IT}:W C (.NO k) Q h↔W C (k (.map (some h.length))) Q (h++[.map []]):=by refine⟨λhw=>?_,jv⟩;obtain⟨m,x',Gu,h',hr,q⟩:=hw.succ;exact Cw ⟨m,x',Gu,h',hr,q⟩
def Tq{m key v:Aa}{k:IT}:W C (.Ja m key v k) Q h↔VI (QP h m key v) λh1=>W C k Q h1:=by
 refine⟨λhw=>?_,λ⟨h1,hv,hw⟩=>jw hv hw⟩;obtain⟨m,x',Gu,h',hr,q⟩:=hw.succ;simp only[IT.step] at hr;split at hr;.rename_i h1 hv;exact⟨h1,hv,Cw ⟨m,x',Gu,h',hr,q⟩⟩
 .cases hr
def Tr{z:Aa}{ok:Bool}{m key:Aa}{k:Aa->IT}:W C (.Ls z ok m key k) Q h↔VI (QQ h z ok m key) λv=>W C (k v) Q h:=by
 refine⟨λhw=>?_,λ⟨h1,hv,hw⟩=>jx hv hw⟩;obtain⟨m,x',Gu,h',hr,q⟩:=hw.succ;simp only[IT.step] at hr;split at hr;.rename_i h1 hv;exact⟨h1,hv,Cw ⟨m,x',Gu,h',hr,q⟩⟩
 .cases hr
def M7{g:Aa}{args:List Aa}{k:Aa->IT}:W C (.EK g args k) Q h↔VI (CM g args) λx=>W C (.call x.1 x.2 k) Q h:=by
 constructor
 .intro hw;obtain⟨m,x',Gu,h',hr,q⟩:=hw.succ;simp only[IT.step] at hr;split at hr;.rename_i f as e;refine⟨(f,as),e,Cw ⟨m,x',Gu,h',?_,q⟩⟩;simp only[IT.step];exact hr
  .cases hr
 .rintro⟨⟨f,as⟩,e,hw⟩;obtain⟨m,x',Gu,h',hr,q⟩:=hw.succ;refine Cw ⟨m,x',Gu,h',?_,q⟩;simp only[IT.step,e] at hr⊢;exact hr
def Ee{key:Nat}{t:IT}{k:EW->List Aa->IT}:W C (.EM key t k) Q h↔W C t (λx vs h1=>W C (k x vs) Q h1) h:=by
 refine⟨λhw=>?_,jz⟩;obtain⟨m,x',Gu,h',hr,q⟩:=hw.succ;simp only[IT.step] at hr;split at hr;.rename_i x vs h1 e;exact Cw ⟨m,_,_,_,e,Cw ⟨m,x',Gu,h',hr,q⟩⟩
 .cases hr
def Cm(C:E7)(f:FuncId)(args:List Aa)(h:Ag)(r:Aa)(h':Ag):Prop:=W C (BK C f args) (λx vs h1=>x= .ret/\vs=[r]/\h1=h') h
def Cm.ev{f:FuncId}{args:List Aa}{r:Aa}{h':Ag}(hr:Cm C f args h r h'){R:Aa->Ag->Prop}(hR:R r h'):Ev C f args h R:=
 W.mono hr λ_ _ _ ⟨h1,h2,d⟩=>⟨h1,r,h2,by rw[d];exact hR⟩
def Cm.Ah{f:FuncId}{args:List Aa}{r:Aa}{h':Ag}(hr:Cm C f args h r h'){k:Aa->IT}:W C (.call f args k) Q h↔W C (k r) Q h':=by
 refine⟨λhw=>?_,λhw=>pO (hr.ev hw)⟩;obtain⟨n,g,zp,h1,e1,rfl,rfl,rfl⟩:=hr;obtain⟨m,x',Gu,h2,d,q⟩:=hw.succ;simp only[IT.step] at d;split at d;.rename_i r2 i e;simp only[E7.run] at e1 e;have a1:=IT.Hp (HH n m) e1;have a2:=IT.Hp (GW n m) e;rw[a1] at a2;cases a2;exact Cw ⟨m,x',Gu,h2,d,q⟩
 .cases d
def OA(C:E7)(f:FuncId)(args:List Aa)(r:Aa):Prop:=Ev C f args [] λx _=>x=r
def OA.Ck{f:FuncId}{args:List Aa}{r:Aa}(hr:OA C f args r)(ha:args.all Aa.KE=true)(hf:r.KE=true){k:Aa->IT}:W C (.Ck f args k) Q h↔W C (k r) Q h:=by
 refine⟨λhw=>?_,λhw=>wQ ha (hr.mono λx _ e=>by rw[e];exact⟨hf,hw⟩)⟩;obtain⟨n,g,zp,h1,e1,rfl,y,rfl,rfl⟩:=hr;obtain⟨m,x',Gu,h2,d,q⟩:=hw.succ;simp only[IT.step,ha,BB] at d;simp only[E7.run] at e1 d;have a1:=IT.Hp (HH n m) e1;cases hc:IT.run (BK C) m (BK C f args) [] with
 |none=>rw[hc] at d;cases d
 |some z=>have a2:=IT.Hp (GW n m) hc;rw[a1] at a2;cases a2;rw[hc] at d;simp only[hf,BB] at d;exact Cw ⟨m,x',Gu,h2,d,q⟩
end
def yF{C:E7}{t t':IT}{Q:IA}{h h':Ag}(e:t=t')(d:h=h'):W C t Q h=W C t' Q h':=by rw[e,d]
def rR{o:Ur}{args args':List Aa}{k:Aa->IT}(e:args=args'):IT.op o args k=IT.op o args' k:=by rw[e]
def YU{n:Nat}{v v':Aa}{k:List Aa->IT}(e:v=v'):IT.cells n v k=IT.cells n v' k:=by rw[e]
def mI{v v':Aa}{s t:IT}(e:v=v'):IT.A4 v s t=IT.A4 v' s t:=by rw[e]
def cD{n:Option Nat}{v v':Aa}{k:Aa->IT}(e:v=v'):IT.load n v k=IT.load n v' k:=by rw[e]
def YV{n:Nat}{p p' v v':Aa}{k:IT}(e1:p=p')(e:v=v'):IT.store n p v k=IT.store n p' v' k:=by rw[e,e1]
def YW{n:Nat}{v v':Aa}{k:Aa->IT}(e:v=v'):IT.alloc n v k=IT.alloc n v' k:=by rw[e]
def cE{f:FuncId}{args args':List Aa}{k:Aa->IT}(e:args=args'):IT.call f args k=IT.call f args' k:=by rw[e]
def YX{f:FuncId}{args args':List Aa}{k:Aa->IT}(e:args=args'):IT.Ck f args k=IT.Ck f args' k:=by rw[e]
def YY{f f':Aa}{args args':List Aa}{k:Aa->IT}(e1:f=f')(e:args=args'):IT.EK f args k=IT.EK f' args' k:=by rw[e,e1]
def cF{key:Nat}{i d:List Aa}{b:List Aa->IT}{k:EW->List Aa->IT}(e:i=d):IT.loop key i b k=IT.loop key d b k:=by rw[e]
def cG{key:Nat}{b:IT}{k:EW->List Aa->IT}:IT.EM key b k=IT.EM key b k:=rfl
def mJ{v v':Aa}{k:Aa->IT}(e:v=v'):IT.Sn v k=IT.Sn v' k:=by rw[e]
def YZ{size bytes:Nat}{s s' x x':Aa}{k:Aa->IT}(e:s=s')(e1:x=x'):IT.IE size bytes s x k=IT.IE size bytes s' x' k:=by rw[e,e1]
def cH{size bytes:Nat}{s s' x x':Aa}{k:Aa->IT}(e:s=s')(e1:x=x'):IT.FG size bytes s x k=IT.FG size bytes s' x' k:=by rw[e,e1]
def mK{o:pB}{args args':List Aa}{k:Aa->IT}(e:args=args'):IT.mem o args k=IT.mem o args' k:=by rw[e]
def UI{size bytes:Nat}{s s' x x':Aa}{k:Aa->IT}(e:s=s')(e1:x=x'):IT.Fk size bytes s x k=IT.Fk size bytes s' x' k:=by rw[e,e1]
def Y0{off:Nat}{p p':Aa}{k:IT}(e:p=p'):IT.HA off p k=IT.HA off p' k:=by rw[e]
def Ts{s s':Aa}{k:Aa->IT}(e:s=s'):IT.EE s k=IT.EE s' k:=by rw[e]
def cI{m m' key key' v v':Aa}{k:IT}(e:m=m')(e1:key=key')(d:v=v'):IT.Ja m key v k=IT.Ja m' key' v' k:=by rw[e,e1,d]
def cJ{z:Aa}{ok:Bool}{m m' key key':Aa}{k:Aa->IT}(e:m=m')(e1:key=key'):IT.Ls z ok m key k=IT.Ls z ok m' key' k:=by rw[e,e1]
attribute [congr] mH cC yF rR YU mI cD YV YW cE YX YY cF cG mJ Y0 cH UI mK YZ Ts cI cJ
attribute [simp] M5 YT VJ Tm Tn C6 VH Tk Tl Rg LJ To Rh Ri VK Rj Tp N6 VL Rk M6 Oz Tq Tr M7 Ee
section
variable{k:IntKind}{a b:Int}{s t:Aq}
@[simp] theorem np:Ax (.int .eql) [.int k a,.int k b]=some (.bool (decide (a=b))):=by cases k<;>rfl
@[simp] theorem nu:Ax (.int .neq) [.int k a,.int k b]=some (.bool (decide (a≠b))):=by
 have e:Ax (.int .neq) [.int k a,.int k b]=some (.bool (!(a==b))):=by cases k<;>rfl
 rw[e];by_cases h:a=b<;>simp[h]
@[simp] theorem nv:Ax (.int .lss) [.int k a,.int k b]=some (.bool (decide (a<b))):=by cases k<;>rfl
@[simp] theorem ny:Ax (.int .leq) [.int k a,.int k b]=some (.bool (decide (a<=b))):=by cases k<;>rfl
@[simp] theorem nz:Ax (.int .gtr) [.int k a,.int k b]=some (.bool (decide (b<a))):=by cases k<;>rfl
@[simp] theorem n_:Ax (.int .geq) [.int k a,.int k b]=some (.bool (decide (b<=a))):=by cases k<;>rfl
def cK:Ax (.int .add) [.int k a,.int k b]=some (.int k (k.wrap (a+b))):=by cases k<;>rfl
def cL:Ax (.int .sub) [.int k a,.int k b]=some (.int k (k.wrap (a-b))):=by cases k<;>rfl
@[simp] theorem oa {b:Bool}:Ax (.un .not) [.bool b]=some (.bool (!b)):=rfl
@[simp] theorem gW:Ax (.str .eql) [.str s,.str t]=some (.bool (decide (s=t))):=by
 show some (Aa.bool (s==t))=_;congr 2
 by_cases h:s=t<;>simp[h]
@[simp] theorem yG:Ax (.str .neq) [.str s,.str t]=some (.bool (decide (s≠t))):=by
 show some (Aa.bool (!(s==t)))=_;congr 2
 by_cases h:s=t<;>simp[h]
@[simp] theorem yH:Ax (.len true) [.str s]=some (.int .i64 s.length):=rfl
@[simp] theorem Ŕ {i:Int}:Ax .X7 [.str s,.int k i]=if 0<=i then(s[i.toNat]?).map λb=> .int .u8 b.toNat else none:=rfl
@[simp] theorem WZ {off:Nat} {cs:List Aa}:Ax (.part off none) [.agg cs]=cs[off]?:=rfl
@[simp] theorem W0 {off n:Nat} {cs:List Aa}:Ax (.part off (some n)) [.agg cs]=if off+n<=cs.length then some (.agg ((cs.drop off).take n)) else none:=rfl
@[simp] theorem ob {i:Nat} {vs:List Aa}:Ax (.ext i) [.tuple vs]=vs[i]?:=rfl
@[simp] theorem UJ {p:Nat×Nat}:Ax .J9 [.ptr (some p)]=some (.ptr (some p)):=rfl
@[simp] theorem Tt {cs:List Aa}:Ax .J9 [.Cb cs]=some (.Cb cs):=rfl
@[simp] theorem Tu {f:FuncId} {a b:List Aa}:Ax .J9 [.func (.func f) a b]=some (.func (.func f) a b):=rfl
@[simp] theorem UK {off:Nat} {cs:List Aa}:Ax (.FE off) [.Cb cs]=some (.Cb (cs.drop off)):=rfl
@[simp] theorem W8 {off id o:Nat}:Ax (.FE off) [.ptr (some (id,o))]=some (.ptr (some (id,o+off))):=rfl
@[simp] theorem mL {neg:Bool}:Ax (.RW neg) [.ptr none,.ptr none]=some (.bool (true != neg)):=rfl
@[simp] theorem mM {neg:Bool} {p:Nat×Nat}:Ax (.RW neg) [.ptr (some p),.ptr none]=some (.bool (false != neg)):=rfl
@[simp] theorem mN {neg:Bool} {p:Nat×Nat}:Ax (.RW neg) [.ptr none,.ptr (some p)]=some (.bool (false != neg)):=rfl
@[simp] theorem oc {neg a b:Bool}:Ax (.beq neg) [.bool a,.bool b]=some (.bool ((a==b) != neg)):=rfl
@[simp] theorem ŕ {c:Bool} {a b:Aa}:Ax .pick [.bool c,a,b]=some (if c then a else b):=rfl
@[simp] theorem W9 {l:IntKind}:Ax (.conv l) [.int k a]=some (.int l (l.wrap a)):=rfl
@[simp] theorem rS {zero args:List Aa} {places:List (Nat×Nat)}:Ax (.B4 zero places) args=if places.length=args.length then(Bt zero (places.zip args)).map .agg else none:=rfl
@[simp] theorem Tv {neg:Bool} {ks:List FK} {x y:List Aa}:Ax (.geq neg ks) [.agg x,.agg y]=(Dh ks x y).map λe=> .bool (e != neg):=rfl
@[simp] theorem rT:Ax (.Jt false) [.int k a,.int k b]=some (.int k (if b<a then b else a)):=by simp[Ax]
@[simp] theorem Xa:Ax (.Jt true) [.int k a,.int k b]=some (.int k (if a<b then b else a)):=by simp[Ax]
@[simp] theorem cM {h:Ag} {n:Option Nat} {cs:List Aa}:BE h n (.Cb cs)=Ek cs 0 n:=rfl
@[simp] theorem Ji {off:Nat} {cs:List Aa}:Ek cs off none=cs[off]?:=rfl
@[simp] theorem KV {off n:Nat} {cs:List Aa}:Ek cs off (some n)=if off+n<=cs.length then some (.agg ((cs.drop off).take n)) else none:=rfl
@[simp] theorem wrap_i64 (h1: -9223372036854775808<=a) (h2:a<9223372036854775808):IntKind.i64.wrap a=a:=by rw[IntKind.wrap_i64];omega
end
def Qn{cs:List Aa}:Aa.cells (.agg cs)=cs:=rfl
def VM{k:IntKind}{n:Int}:Aa.cells (.int k n)=[.int k n]:=rfl
def VN{s:Aq}:Aa.cells (.str s)=[.str s]:=rfl
def Tw{b:Bool}:Aa.cells (.bool b)=[.bool b]:=rfl
def VO{p:Option (Nat×Nat)}:Aa.cells (.ptr p)=[.ptr p]:=rfl
def Tx{p:List Aa}:Aa.cells (.Cb p)=[.Cb p]:=rfl
def Rl:Aa.cells .slnil=[.slnil]:=rfl
def Y1{z:Nat}{r:List (List Aa)}:Aa.cells (.sl z r)=[.sl z r]:=rfl
def VP{i o l z:Nat}:Aa.cells (.CG i o l z)=[.CG i o l z]:=rfl
def Tz{f:Fn}{a b:List Aa}:Aa.cells (.func f a b)=[.func f a b]:=rfl
attribute [simp] Bt Dh Ka CM Qn VM VN Tw VO Tx Rl Y1 VP Tz
def Bu(z:Nat)(An:List (List Aa))(v:Aa):Prop:=v= .sl z An\/(v= .slnil/\An=[])
section
variable{z:Nat}{An:List (List Aa)}{v:Aa}
def Bu.mk:Bu z An (.sl z An):= .inl rfl
def Bu.nil:Bu z [] .slnil:= .inr ⟨rfl,rfl⟩
def Bu.cells(h:Bu z An v):v.cells=[v]:=by rcases h with rfl|⟨rfl,rfl⟩<;>rfl
def Bu.len(h:Bu z An v):Ax (.len false) [v]=some (.int .i64 An.length):=by rcases h with rfl|⟨rfl,rfl⟩<;>rfl
def Bu.F8(h:Bu z An v){k:IntKind}{n:Nat}(hn:n<An.length):Ax (.F8 z) [v,.int k (n:Int)]=some (.Cb An[n]):=by
 rcases h with rfl|⟨rfl,rfl⟩
 .simp[Ax,elemOf,hn]
 .simp at hn
end
end Go.Am
end
section
namespace Go.Am
open Go
section
variable{C:E7}{Q:IA}{h:Ag}
def Y2{key:Nat}{vs:List Aa}{body:List Aa->IT}{k:EW->List Aa->IT}
  (hw:W C (body vs) (λx zp h1=>(x= .normal/\W C (.loop key zp body k) Q h1)\/(x≠ .normal/\W C (k x zp) Q h1)) h):W C (.loop key vs body k) Q h:=by
 obtain⟨m,x,zp,h1,hr,Hn⟩:=hw.succ;rcases Hn with⟨rfl,hw⟩|⟨hx,hw⟩
 .obtain⟨m',x',Gu,h',FH,q⟩:=hw;refine Cw ⟨max m m',x',Gu,h',?_,q⟩;have e1:=IT.IL (λt h r=>IT.Hp (fn:=BK C) (HH m m')) _ _ _ hr;have d:=IT.Hp (GW m m') FH;simp only[IT.step];simp only[E7.run] at*;rw[e1];exact d
 .obtain⟨m',x',Gu,h',FH,q⟩:=hw.succ;refine Cw ⟨max m m',x',Gu,h',?_,q⟩;have e1:=IT.IL (λt h r=>IT.Hp (fn:=BK C) (HH m m')) _ _ _ hr;have d:=IT.IL (λt h r=>IT.Hp (fn:=BK C) (GW m m')) _ _ _ FH;simp only[IT.step];simp only[E7.run] at*;rw[e1];cases x<;>first|exact absurd rfl hx|exact d
def A6{U:Type}(C:E7)(enc:U->List Aa)(Db:U->Ag->Prop)(O:U->Nat)(k:EW->List Aa->IT)(Q:IA)(s:U):IA:=
 λx vs h1=>(x= .normal/\∃s',vs=enc s'/\Db s' h1/\O s'<O s)\/(x≠ .normal/\W C (k x vs) Q h1)
variable{U:Type}{enc:U->List Aa}{Db:U->Ag->Prop}{O:U->Nat}{k:EW->List Aa->IT}{s:U}{vs:List Aa}
def A6.next(s':U)(e:vs=enc s')(hi:Db s' h)(hl:O s'<O s):A6 C enc Db O k Q s .normal vs h:= .inl ⟨rfl,s',e,hi,hl⟩
def UL{i:Nat}:A6 C enc Db O k Q s (.exit i) vs h↔W C (k (.exit i) vs) Q h:=by simp[A6]
def Xb:A6 C enc Db O k Q s .ret vs h↔W C (k .ret vs) Q h:=by simp[A6]
def BL{key:Nat}{init:List Aa}{body:List Aa->IT}(enc:U->List Aa)(Db:U->Ag->Prop)(O:U->Nat)(s0:U)(h0:init=enc s0)(hi:Db s0 h)
  (round:∀s h,Db s h->W C (body (enc s)) (A6 C enc Db O k Q s) h):W C (.loop key init body k) Q h:=by
 subst h0;have key:∀n s h,O s=n->Db s h->W C (.loop key (enc s) body k) Q h:=by
  intro n;induction n using Nat.strongRecOn with
  |_ n ih=>
   intro s h hn hI;refine Y2 (W.mono (round s h hI) ?_);rintro x vs h1 (⟨rfl,s',rfl,lM,hl⟩|⟨hx,hw⟩);.exact .inl ⟨rfl,ih _ (hn▸hl) s' h1 rfl lM⟩
   .exact .inr ⟨hx,hw⟩
 exact key _ s0 h rfl hi
end
section
variable{k l:IntKind}{s:Aq}
def CQ{n:Nat}(hn:n<9223372036854775807):Ax (.int .add) [.int .i64 (n:Int),.int .i64 1]=some (.int .i64 ((n+1:Nat):Int)):=by rw[cK,wrap_i64 Ab Ab];rfl
def M8{n:Nat}(h0:0<n)(hn:n<9223372036854775807):Ax (.int .sub) [.int .i64 (n:Int),.int .i64 1]=some (.int .i64 ((n-1:Nat):Int)):=by rw[cL,wrap_i64 Ab Ab];congr 2;omega
end
section
variable{z b:Nat}{r r2:List (List Aa)}{row:List Aa}{v v2:Aa}
def Bu.zq(h:Bu z r v)(hb:(r.length+1)*b<=AO):Ax (.append z b) [v,.sl z [row]]=some (.sl z (r++[row])):=by
 rcases h with rfl|⟨rfl,rfl⟩
 .simp[Ax,Gf,CP,hb]
 .have:1*b<=AO:=by simpa using hb
  simp only[DI] at this;simp[Ax,Gf,CP,this]
def Bu.J5(h:Bu z r v)(h2:Bu z r2 v2)(hb:(r.length+r2.length)*b<=AO):∃u,Ax (.append z b) [v,v2]=some u/\Bu z (r++r2) u:=by
 have hnil:∃u,CP z b v []=some u/\Bu z (r++[]) u:=by
  rcases h with rfl|⟨rfl,rfl⟩
  .exact⟨.sl z r,by simp[CP],by rw[BN];exact .mk⟩
  .exact⟨_,rfl,.nil⟩
 rcases h2 with rfl|⟨rfl,rfl⟩
 .cases r2 with
  |nil=>obtain⟨u,e,hu⟩:=hnil;exact⟨u,by simpa[Ax,Gf] using e,hu⟩
  |cons x l=>
   refine⟨.sl z (r++x::l),?_,.mk⟩;rcases h with rfl|⟨rfl,rfl⟩
   .simp only[Ax,Gf,BB,CP];rw[Ad ⟨trivial,hb⟩]
   .simp only[Ax,Gf,BB,CP];rw[Ad (by simpa using hb)];rfl
 .obtain⟨u,e,hu⟩:=hnil;exact⟨u,by simpa[Ax,Gf] using e,hu⟩
def Bu.Sn(h:Bu z r v){hp:Ag}:La hp v=some (hp,v):=by rcases h with rfl|⟨rfl,rfl⟩<;>rfl
def TA(s:Aq):KM (Cu s)=some s:=by
 induction s with
 |nil=>rfl
 |cons c s ih=>have e:Cu (c::s)=[.int .u8 c.toNat]::Cu s:=rfl;rw[e,KM,ih];simp
def Bu.Uu{s:Aq}(h:Bu 1 (Cu s) v):Ax .Uu [v]=some (.str s):=by
 rcases h with rfl|⟨rfl,h⟩
 .simp[Ax,Wk,TA]
 .have e:s=[]:=by simpa[Cu] using h
  subst e;rfl
end
@[simp] theorem gX {z:Nat} {args:List Aa}:Ax (.Cd z) args=if args.all (λa=>a.cells.length==z)&&decide (args.length*z<=16777216) then some (.sl z (args.map (·.cells))) else none:=rfl
def Pl{a:Aa}{z:Nat}(h:a.cells.length=z)(hz:z<=16777216):Ax (.Cd z) [a]=some (.sl z [a.cells]):=by simp[h,hz]
def wrap_u8{a:Int}(h:0<=a/\a<=255):IntKind.u8.wrap a=a:=IntWalk.u8_in a h
def rU{a:Int}(h: -2147483648<=a/\a<=2147483647):IntKind.i32.wrap a=a:=IntWalk.i32_in a h
def Ak{C:E7}{f:FuncId}{args:List Aa}{h h':Ag}{r:Aa}:Cm C f args h r h'↔W C (BK C f args) (λx vs h1=>x= .ret/\vs=[r]/\h1=h') h:=Iff.rfl
abbrev KC(C:E7)(f:FuncId)(t:Aa->IT):Prop:=∀a0,BK C f [a0]=t a0
abbrev F7(C:E7)(f:FuncId)(t:Aa->Aa->IT):Prop:=∀a0 a1,BK C f [a0,a1]=t a0 a1
abbrev Pm(C:E7)(f:FuncId)(t:Aa->Aa->Aa->IT):Prop:=∀a0 a1 a2,BK C f [a0,a1,a2]=t a0 a1 a2
abbrev zr(C:E7)(f:FuncId)(t:Aa->Aa->Aa->Aa->IT):Prop:=∀a0 a1 a2 a3,BK C f [a0,a1,a2,a3]=t a0 a1 a2 a3
abbrev Tq5(C:E7)(f:FuncId)(t:Aa->Aa->Aa->Aa->Aa->IT):Prop:=∀a0 a1 a2 a3 a4,BK C f [a0,a1,a2,a3,a4]=t a0 a1 a2 a3 a4
def IT.fa(p:Aa)(k:Nat)(K:Aa->Aa->IT):IT:= .op .J9 [p] λa=> .op (.FE k) [a] λb=>K a b
def IT.E4(p:Aa)(k:Nat)(K:Aa->Aa->Aa->IT):IT:= .op .J9 [p] λa=> .op (.FE k) [a] λb=> .load none b λc=>K a b c
def IT.fl(p:Aa)(k:Nat)(K:Aa->Aa->IT):IT:= .op (.FE k) [p] λa=> .load none a λb=>K a b
def nx(A R:List Aa->IT):EW->List Aa->IT:=λx c=>match x with
 | .normal=>A c
 | .exit _=> .fail
 | .ret=>R c
def lx(k:Nat)(A R:List Aa->IT):EW->List Aa->IT:=λx c=>match x with
 | .normal=> .fail
 | .exit i=>if i=k then A c else .fail
 | .ret=>R c
section
variable{C:E7}{Q:IA}{h:Ag}{p:Aa}{k:Nat}{A R:List Aa->IT}{c:List Aa}
def aA2{K:Aa->Aa->IT}:W C (IT.fa p k K) Q h=W C (.op .J9 [p] λa=> .op (.FE k) [a] λb=>K a b) Q h:=rfl
def zt{K:Aa->Aa->Aa->IT}:W C (IT.E4 p k K) Q h=W C (.op .J9 [p] λa=> .op (.FE k) [a] λb=> .load none b λc=>K a b c) Q h:=rfl
def aA3{K:Aa->Aa->IT}:W C (IT.fl p k K) Q h=W C (.op (.FE k) [p] λa=> .load none a λb=>K a b) Q h:=rfl
def aA4:nx A R .normal c=A c:=rfl
def aA5:nx A R .ret c=R c:=rfl
def aA6:lx k A R (.exit k) c=A c:=Ad rfl
def aA7:lx k A R .ret c=R c:=rfl
end
def LK:Aq->Aq->List Aq
 |cur,[]=>[cur]
 |cur,c::r=>if c=32 then cur::LK [] r else LK (cur++[c]) r
def Pn:List Aq:=LK [] [97,100,100,114,101,115,115,32,97,112,112,108,101,116,32,97,114,101,97,32,97,114,116,105,99,108,101,32,97,115,105,100,101,32,98,97,115,101,32,98,97,115,101,102,111,110,116,32,98,103,115,111,117,110,100,32,98,108,111,99,107,113,117,111,116,101,32,98,111,100,121,32,98,114,32,98,117,116,116,111,110,32,99,97,112,116,105,111,110,32,99,101,110,116,101,114,32,99,111,108,32,99,111,108,103,114,111,117,112,32,100,100,32,100,101,116,97,105,108,115,32,100,105,114,32,100,105,118,32,100,108,32,100,116,32,101,109,98,101,100,32,102,105,101,108,100,115,101,116,32,102,105,103,99,97,112,116,105,111,110,32,102,105,103,117,114,101,32,102,111,111,116,101,114,32,102,111,114,109,32,102,114,97,109,101,32,102,114,97,109,101,115,101,116,32,104,49,32,104,50,32,104,51,32,104,52,32,104,53,32,104,54,32,104,101,97,100,32,104,101,97,100,101,114,32,104,103,114,111,117,112,32,104,114,32,104,116,109,108,32,105,102,114,97,109,101,32,105,109,103,32,105,110,112,117,116,32,107,101,121,103,101,110,32,108,105,32,108,105,110,107,32,108,105,115,116,105,110,103,32,109,97,105,110,32,109,97,114,113,117,101,101,32,109,101,110,117,32,109,101,116,97,32,110,97,118,32,110,111,101,109,98,101,100,32,110,111,102,114,97,109,101,115,32,110,111,115,99,114,105,112,116,32,111,98,106,101,99,116,32,111,108,32,112,32,112,97,114,97,109,32,112,108,97,105,110,116,101,120,116,32,112,114,101,32,115,99,114,105,112,116,32,115,101,97,114,99,104,32,115,101,99,116,105,111,110,32,115,101,108,101,99,116,32,115,111,117,114,99,101,32,115,116,121,108,101,32,115,117,109,109,97,114,121,32,116,97,98,108,101,32,116,98,111,100,121,32,116,100,32,116,101,109,112,108,97,116,101,32,116,101,120,116,97,114,101,97,32,116,102,111,111,116,32,116,104,32,116,104,101,97,100,32,116,105,116,108,101,32,116,114,32,116,114,97,99,107,32,117,108,32,119,98,114,32,120,109,112]
def swv(s:Aa)(t e:IT):List (List UInt8)->IT
 |[]=>e
 |c::cs=>.op (.str .eql) [s,.str c] λv=>.A4 v t (swv s t e cs)
abbrev IT.rr(l:List Aa):IT:=.ret .ret l
abbrev IT.rn(l:List Aa):IT:=.ret .normal l
abbrev IT.rx(n:Nat)(l:List Aa):IT:=.ret (.exit n) l
abbrev IT.ea(n:Nat)(l:List Aa)(k:Aa->IT):IT:=.op (.F8 n) l k
abbrev IT.ld(p:Aa)(k:Aa->IT):IT:=.load none p k
abbrev IT.ie(l:List Aa)(k:Aa->IT):IT:=.op (.int .eql) l k
abbrev IT.iq(l:List Aa)(k:Aa->IT):IT:=.op (.int .neq) l k
abbrev IT.il(l:List Aa)(k:Aa->IT):IT:=.op (.int .lss) l k
abbrev IT.ig(l:List Aa)(k:Aa->IT):IT:=.op (.int .gtr) l k
abbrev IT.ia(l:List Aa)(k:Aa->IT):IT:=.op (.int .add) l k
abbrev IT.ib(l:List Aa)(k:Aa->IT):IT:=.op (.int .sub) l k
abbrev IT.ih(l:List Aa)(k:Aa->IT):IT:=.op (.int .geq) l k
abbrev IT.ik(l:List Aa)(k:Aa->IT):IT:=.op (.int .leq) l k
abbrev IT.se(l:List Aa)(k:Aa->IT):IT:=.op (.str .eql) l k
abbrev IT.ln(l:List Aa)(k:Aa->IT):IT:=.op (.len false) l k
abbrev IT.lt(l:List Aa)(k:Aa->IT):IT:=.op (.len true) l k
abbrev IT.nt(l:List Aa)(k:Aa->IT):IT:=.op (.un .not) l k
abbrev IT.ca(f:Nat)(l:List Aa)(k:Aa->IT):IT:=.call f l k
abbrev i0:Aa:=I 0
abbrev i1:Aa:=I 1
abbrev tu:Aa:=.tuple []
abbrev pn:Aa:=.ptr none
def yI(c:List Aa):Aa:=.agg [g c 0,g c 1,g c 2,g c 3,g c 4,g c 5,g c 6,g c 7,g c 8,g c 9,g c 10,g c 11,g c 12]
def a13_e{c:List Aa}:yI c=.agg [g c 0,g c 1,g c 2,g c 3,g c 4,g c 5,g c 6,g c 7,g c 8,g c 9,g c 10,g c 11,g c 12]:=rfl
def gh(c:List Aa):Aa:=.agg [g c 0,g c 1,g c 2,g c 3,g c 4,g c 5,g c 6,g c 7,g c 8,g c 9,g c 10,g c 11]
def a12_e{c:List Aa}:gh c=.agg [g c 0,g c 1,g c 2,g c 3,g c 4,g c 5,g c 6,g c 7,g c 8,g c 9,g c 10,g c 11]:=rfl
def a9(c:List Aa):Aa:=.agg [g c 0,g c 1,g c 2,g c 3,g c 4,g c 5,g c 6,g c 7,g c 8]
def a9_e{c:List Aa}:a9 c=.agg [g c 0,g c 1,g c 2,g c 3,g c 4,g c 5,g c 6,g c 7,g c 8]:=rfl
def a6(c:List Aa):Aa:=.agg [g c 0,g c 1,g c 2,g c 3,g c 4,g c 5]
def a6_e{c:List Aa}:a6 c=.agg [g c 0,g c 1,g c 2,g c 3,g c 4,g c 5]:=rfl
def a4(c:List Aa):Aa:=.agg [g c 0,g c 1,g c 2,g c 3]
def a4_e{c:List Aa}:a4 c=.agg [g c 0,g c 1,g c 2,g c 3]:=rfl
def a3(c:List Aa):Aa:=.agg [g c 0,g c 1,g c 2]
def a3_e{c:List Aa}:a3 c=.agg [g c 0,g c 1,g c 2]:=rfl
def ai{a b:Prop}(x:a)(y:b):a/\b:=⟨x,y⟩
def Ch:=ai @a13_e (ai @a12_e (ai @a9_e (ai @a6_e (ai @a4_e (ai @a3_e (ai @aA2 (ai @zt (ai @aA3 (ai @aA4 (ai @aA5 (ai @aA6 (ai @aA7 (ai @M5 (ai @YT (ai @VJ (ai @Tm (ai @Tn (ai @VH (ai @Tk (ai @Tl (ai @Rg (ai @LJ (ai @To (ai @Rh (ai @Ri (ai @VK (ai @Rj (ai @Tp (ai @N6 (ai @VL (ai @Rk (ai @M6 (ai @Oz (ai @Tq (ai @Tr (ai @M7 (ai @Ee (ai @np (ai @nu (ai @nv (ai @ny (ai @nz (ai @n_ (ai @oa (ai @gW (ai @yG (ai @yH (ai @WZ (ai @W0 (ai @ob (ai @UJ (ai @Tt (ai @Tu (ai @UK (ai @W8 (ai @mL (ai @mM (ai @mN (ai @oc (ai @rS (ai @cM (ai @Ji (ai @KV (ai @List.getD_cons_zero.{0} (ai @List.getD_cons_succ.{0} (ai @JP.{0} (ai @PT.{0} (ai @Ky.{0} (ai @List.drop_succ_cons.{0} (ai @List.drop_nil.{0} (ai @Uq.{0} (ai @U7.{0} (ai @AH.{0} (ai @Bd.{0} (ai @BW.{0} (ai @Bj.{0} (ai @aDm.{0,0} (ai @List.zip_nil_right.{0,0} (ai @BM.{0,0} (ai @Option.map_none.{0,0} (ai @Bm (ai @Qn (ai @VM (ai @VN (ai @Tw (ai @VO (ai @Tx (ai @Rl (ai @Y1 (ai @VP (ai @Tz (ai @ZZ (ai @KB (ai @PV (ai @BB.{1} (ai @EH.{1} (ai @UL (@Xb))))))))))))))))))))))))))))))))))))))))))))))))))))))))))))))))))))))))))))))))))))))))))))))))))
def cN:=ai @Gn.{0} (ai @beq_self_eq_true.{0} (ai @OQ (ai @Bool.bne_false (ai @Bool.not_true (ai @Ns (ai @AU (ai @AV (ai @AJ (ai @AF (ai @A9 (ai @Nat.zero_lt_succ (ai @BM.{0,0} (@List.take_nil.{0})))))))))))))
def abS:=ai Ch cN
def aaS:type_of%@AI.{0}:=@AI.{0}
def X4:=ai @Gp (ai @FC (ai @Bool.and_true (ai @Bool.true_and (ai @Bool.and_false (ai @Bool.false_and (ai @Bool.or_true (ai @uk (ai @Bool.or_false (ai @OP (ai @Ln.{0} (ai @aDp.{0} (ai @Option.getD_none.{0} (ai @Option.isSome_none.{0} (ai @BB.{1} (ai @EH.{1} (ai @C0 (ai @KB (ai @and_false (ai @PV (ai @false_and (ai @dn (@CL))))))))))))))))))))))
abbrev Pt(i o:Nat):Aa:=.ptr (some (i,o))
end Go.Am
end
