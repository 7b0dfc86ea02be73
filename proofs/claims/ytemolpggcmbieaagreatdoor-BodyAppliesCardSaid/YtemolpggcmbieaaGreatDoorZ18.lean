/- Lemmas -/
import Derived.Test.YtemolpggcmbieaaGreatDoorZ1
import Derived.IntWalk
set_option linter.all false
section
namespace Go.Am
open Go
section
variable{C:FB}{Q:Kj}{h:Ah}
def Zl{x:FO}{vs:List Aa}:W C (.ret x vs) Q h↔Q x vs h:=by refine⟨λhw=>?_,Č⟩;obtain⟨n,x',Hv,h',hr,q⟩:=hw.succ;simp only[IT.step,Bx,MX] at hr;obtain⟨rfl,rfl,rfl⟩:=hr;exact q
def WA:W C .fail Q h↔False:=by refine⟨λhw=>?_,λh=>h.elim⟩;obtain⟨n,x',Hv,h',hr,q⟩:=hw.succ;simp[IT.step] at hr
def Zm{Z:Type}(o:Option Z)(f:Z->Prop):Prop:=∃v,o=some v/\f v
def a_{Z:Type}{o o':Option Z}{f:Z->Prop}(h:o=o'):Zm o f=Zm o' f:=by rw[h]
def LU{Z:Type}{v:Z}{f:Z->Prop}:Zm (some v) f=f v:=propext (by
 constructor;.rintro⟨_,e,h⟩;cases e;exact h
 .intro h;exact⟨v,rfl,h⟩)
def iB{Z:Type}{f:Z->Prop}:Zm (none:Option Z) f=False:=propext (by
 constructor;.rintro⟨_,e,_⟩;cases e
 .exact False.elim)
def WB{o:X8}{args:List Aa}{k:Aa->IT}:W C (.op o args k) Q h↔Zm (Ay o args) λv=>W C (k v) Q h:=by
 refine⟨λhw=>?_,λ⟨v,hv,hw⟩=>aEq hv hw⟩;obtain⟨n,x',Hv,h',hr,q⟩:=hw.succ;simp only[IT.step] at hr;split at hr;.rename_i v hv;exact⟨v,hv,CQ ⟨n,x',Hv,h',hr,q⟩⟩
 .cases hr
def Pg{n:Nat}{v:Aa}{k:List Aa->IT}:W C (.cells n v k) Q h↔Zm (if v.cells.length=n then some v.cells else none) λl=>W C (k l) Q h:=by
 constructor
 .intro hw;obtain⟨m,x',Hv,h',hr,q⟩:=hw.succ;simp only[IT.step] at hr;split at hr;.rename_i hv;exact⟨_,Af hv,CQ ⟨m,x',Hv,h',hr,q⟩⟩
  .cases hr
 .rintro⟨l,e,hw⟩;split at e;.rename_i hv;cases e;exact qZ hv hw
  .cases e
def Yr(v:Aa)(p q:Prop):Prop:=(v= .bool true/\p)\/(v= .bool false/\q)
def nE{v v':Aa}{p q:Prop}(h:v=v'):Yr v p q=Yr v' p q:=by rw[h]
def Zn{p q:Prop}:Yr (.bool true) p q=p:=by simp[Yr]
def WC{p q:Prop}:Yr (.bool false) p q=q:=by simp[Yr]
def C9{b:Bool}{p q:Prop}:Yr (.bool b) p q↔(b=true->p)/\(b=false->q):=by cases b<;>simp[Yr]
def WD{c:Prop}[Decidable c]{p q:Prop}:Yr (.bool (decide c)) p q↔(c->p)/\(¬c->q):=by rw[C9];simp
def Nf{c:Aa}{t e:IT}:W C (.AH c t e) Q h↔Yr c (W C t Q h) (W C e Q h):=by
 constructor
 .intro hw;obtain⟨m,x',Hv,h',hr,q⟩:=hw.succ;simp only[IT.step] at hr;split at hr;.exact .inl ⟨rfl,CQ ⟨m,x',Hv,h',hr,q⟩⟩
  .exact .inr ⟨rfl,CQ ⟨m,x',Hv,h',hr,q⟩⟩
  .cases hr
 .rintro(⟨rfl,hw⟩|⟨rfl,hw⟩);.exact rA (λ_=>hw) λh=>by cases h
  .exact rA (λh=>by cases h) λ_=>hw
def WE{n:Option Nat}{p:Aa}{k:Aa->IT}:W C (.load n p k) Q h↔Zm (Bi h n p) λv=>W C (k v) Q h:=by
 refine⟨λhw=>?_,λ⟨v,hv,hw⟩=>iv hv hw⟩;obtain⟨m,x',Hv,h',hr,q⟩:=hw.succ;simp only[IT.step] at hr;split at hr;.rename_i v hv;exact⟨v,hv,CQ ⟨m,x',Hv,h',hr,q⟩⟩
 .cases hr
def Um{n:Nat}{p v:Aa}{k:IT}:W C (.store n p v k) Q h↔Zm (CH h n p v) λh1=>W C k Q h1:=by
 refine⟨λhw=>?_,λ⟨v,hv,hw⟩=>rB hv hw⟩;obtain⟨m,x',Hv,h',hr,q⟩:=hw.succ;simp only[IT.step] at hr;split at hr;.rename_i h1 hv;exact⟨h1,hv,CQ ⟨m,x',Hv,h',hr,q⟩⟩
 .cases hr
def Un{n:Nat}{v:Aa}{k:Aa->IT}:W C (.alloc n v k) Q h↔Zm (if v.cells.length=n then some v.cells else none) λl=>W C (k (.ptr (some (h.length,0)))) Q (h++[.cells l]):=by
 constructor
 .intro hw;obtain⟨m,x',Hv,h',hr,q⟩:=hw.succ;simp only[IT.step,VG] at hr;by_cases hv:v.cells.length=n;.rw[Af hv] at hr;exact⟨_,Af hv,CQ ⟨m,x',Hv,h',hr,q⟩⟩
  .rw[Ag hv] at hr;cases hr
 .rintro⟨l,e,hw⟩;split at e;.rename_i hv;cases e;exact rC hv hw
  .cases e
def Zo{u:Aa}{k:Aa->IT}:W C (.UI u k) Q h↔Zm (KO h u) λx=>W C (k x.2) Q x.1:=by
 refine⟨λhw=>?_,λ⟨(h1,v),hv,hw⟩=>č hv hw⟩;obtain⟨m,x',Hv,h',hr,q⟩:=hw.succ;simp only[IT.step] at hr;split at hr;.rename_i h1 v hv;exact⟨(h1,v),hv,CQ ⟨m,x',Hv,h',hr,q⟩⟩
 .cases hr
def Uo{off:Nat}{p:Aa}{k:IT}:W C (.H6 off p k) Q h↔Zm (Kh h off p) λh1=>W C k Q h1:=by
 refine⟨λhw=>?_,λ⟨h1,hv,hw⟩=>rE hv hw⟩;obtain⟨m,x',Hv,h',hr,q⟩:=hw.succ;simp only[IT.step] at hr;split at hr;.rename_i h1 hv;exact⟨h1,hv,CQ ⟨m,x',Hv,h',hr,q⟩⟩
 .cases hr
def Uq{size bytes:Nat}{s x:Aa}{k:Aa->IT}:W C (.Jk size bytes s x k) Q h↔Zm (Kg h size bytes s x) λx=>W C (k x.2) Q x.1:=by
 refine⟨λhw=>?_,λ⟨(h1,v),hv,hw⟩=>rD hv hw⟩;obtain⟨m,x',Hv,h',hr,q⟩:=hw.succ;simp only[IT.step] at hr;split at hr;.rename_i h1 v hv;exact⟨(h1,v),hv,CQ ⟨m,x',Hv,h',hr,q⟩⟩
 .cases hr
def WG{size bytes:Nat}{s x:Aa}{k:Aa->IT}:W C (.FQ size bytes s x k) Q h↔Zm (FT h size bytes s x) λx=>W C (k x.2) Q x.1:=by
 refine⟨λhw=>?_,λ⟨(h1,v),hv,hw⟩=>i_ hv hw⟩;obtain⟨m,x,Hv,h',hr,q⟩:=hw.succ;simp only[IT.step] at hr;split at hr;.rename_i h1 v hv;exact⟨(h1,v),hv,CQ ⟨m,x,Hv,h',hr,q⟩⟩
 .cases hr
def QC{size bytes:Nat}{s x:Aa}{k:Aa->IT}:W C (.F8 size bytes s x k) Q h↔Zm (Qt h size bytes s x) λv=>W C (k v) Q h:=by
 refine⟨λhw=>?_,λ⟨v,hv,hw⟩=>YT hv hw⟩;obtain⟨m,x,Hv,h',hr,q⟩:=hw.succ;simp only[IT.step] at hr;split at hr;.rename_i v hv;exact⟨v,hv,CQ ⟨m,x,Hv,h',hr,q⟩⟩
 .cases hr
def Zp{o:gx}{args:List Aa}{k:Aa->IT}:W C (.mem o args k) Q h↔Zm (DC o h args) λx=>W C (k x.2) Q x.1:=by
 refine⟨λhw=>?_,λ⟨(h1,v),hv,hw⟩=>Ď hv hw⟩;obtain⟨n,x,vs,h',hr,q⟩:=hw.succ;simp only[IT.step] at hr;split at hr;.rename_i h1 v hv;exact⟨(h1,v),hv,CQ ⟨n,x,vs,h',hr,q⟩⟩
 .cases hr
def Ph{s:Aa}{k:Aa->IT}:W C (.EO s k) Q h↔Zm (Ip h s) λx=>W C (k x.2) Q x.1:=by
 refine⟨λhw=>?_,λ⟨(h1,v),hv,hw⟩=>VS hv hw⟩;obtain⟨m,x',Hv,h',hr,q⟩:=hw.succ;simp only[IT.step] at hr;split at hr;.rename_i h1 v hv;exact⟨(h1,v),hv,CQ ⟨m,x',Hv,h',hr,q⟩⟩
 .cases hr
def Q2{k:Aa->IT}:W C (.MY k) Q h↔W C (k (.map (some h.length))) Q (h++[.map []]):=by refine⟨λhw=>?_,ix⟩;obtain⟨m,x',Hv,h',hr,q⟩:=hw.succ;exact CQ ⟨m,x',Hv,h',hr,q⟩
def WH{m key v:Aa}{k:IT}:W C (.Hu m key v k) Q h↔Zm (Qs h m key v) λh1=>W C k Q h1:=by
 refine⟨λhw=>?_,λ⟨h1,hv,hw⟩=>iy hv hw⟩;obtain⟨m,x',Hv,h',hr,q⟩:=hw.succ;simp only[IT.step] at hr;split at hr;.rename_i h1 hv;exact⟨h1,hv,CQ ⟨m,x',Hv,h',hr,q⟩⟩
 .cases hr
def WI{z:Aa}{ok:Bool}{m key:Aa}{k:Aa->IT}:W C (.LL z ok m key k) Q h↔Zm (Oo h z ok m key) λv=>W C (k v) Q h:=by
 refine⟨λhw=>?_,λ⟨h1,hv,hw⟩=>iz hv hw⟩;obtain⟨m,x',Hv,h',hr,q⟩:=hw.succ;simp only[IT.step] at hr;split at hr;.rename_i h1 hv;exact⟨h1,hv,CQ ⟨m,x',Hv,h',hr,q⟩⟩
 .cases hr
def Mu{g:Aa}{args:List Aa}{k:Aa->IT}:W C (.D4 g args k) Q h↔Zm (Cz g args) λx=>W C (.call x.1 x.2 k) Q h:=by
 constructor
 .intro hw;obtain⟨m,x',Hv,h',hr,q⟩:=hw.succ;simp only[IT.step] at hr;split at hr;.rename_i f as e;refine⟨(f,as),e,CQ ⟨m,x',Hv,h',?_,q⟩⟩;simp only[IT.step];exact hr
  .cases hr
 .rintro⟨⟨f,as⟩,e,hw⟩;obtain⟨m,x',Hv,h',hr,q⟩:=hw.succ;refine CQ ⟨m,x',Hv,h',?_,q⟩;simp only[IT.step,e] at hr⊢;exact hr
def EX{key:Nat}{t:IT}{k:FO->List Aa->IT}:W C (.F9 key t k) Q h↔W C t (λx vs h1=>W C (k x vs) Q h1) h:=by
 refine⟨λhw=>?_,jb⟩;obtain⟨m,x',Hv,h',hr,q⟩:=hw.succ;simp only[IT.step] at hr;split at hr;.rename_i x vs h1 e;exact CQ ⟨m,_,_,_,e,CQ ⟨m,x',Hv,h',hr,q⟩⟩
 .cases hr
def Ca(C:FB)(f:FuncId)(args:List Aa)(h:Ah)(r:Aa)(h':Ah):Prop:=W C (B7 C f args) (λx vs h1=>x= .ret/\vs=[r]/\h1=h') h
def Ca.ev{f:FuncId}{args:List Aa}{r:Aa}{h':Ah}(hr:Ca C f args h r h'){R:Aa->Ah->Prop}(hR:R r h'):Ev C f args h R:=
 W.mono hr λ_ _ _ ⟨h1,h2,d⟩=>⟨h1,r,h2,by rw[d];exact hR⟩
def Ca.Ad{f:FuncId}{args:List Aa}{r:Aa}{h':Ah}(hr:Ca C f args h r h'){k:Aa->IT}:W C (.call f args k) Q h↔W C (k r) Q h':=by
 refine⟨λhw=>?_,λhw=>ja (hr.ev hw)⟩;obtain⟨n,i,ĥ,h1,g,rfl,rfl,rfl⟩:=hr;obtain⟨m,x',Hv,h2,d,q⟩:=hw.succ;simp only[IT.step] at d;split at d;.rename_i r2 j e;simp only[FB.run] at g e;have a1:=IT.HK (Hr n m) g;have a2:=IT.HK (GP n m) e;rw[a1] at a2;cases a2;exact CQ ⟨m,x',Hv,h2,d,q⟩
 .cases d
def NW(C:FB)(f:FuncId)(args:List Aa)(r:Aa):Prop:=Ev C f args [] λx _=>x=r
def NW.BG{f:FuncId}{args:List Aa}{r:Aa}(hr:NW C f args r)(ha:args.all Aa.Mf=true)(hf:r.Mf=true){k:Aa->IT}:W C (.BG f args k) Q h↔W C (k r) Q h:=by
 refine⟨λhw=>?_,λhw=>xr ha (hr.mono λx _ e=>by rw[e];exact⟨hf,hw⟩)⟩;obtain⟨n,i,ĥ,h1,g,rfl,y,rfl,rfl⟩:=hr;obtain⟨m,x',Hv,h2,d,q⟩:=hw.succ;simp only[IT.step,ha,BD] at d;simp only[FB.run] at g d;have a1:=IT.HK (Hr n m) g;cases hc:IT.run (B7 C) m (B7 C f args) [] with
 |none=>rw[hc] at d;cases d
 |some z=>have a2:=IT.HK (GP n m) hc;rw[a1] at a2;cases a2;rw[hc] at d;simp only[hf,BD] at d;exact CQ ⟨m,x',Hv,h2,d,q⟩
end
def zt{C:FB}{t t':IT}{Q:Kj}{h h':Ah}(e:t=t')(d:h=h'):W C t Q h=W C t' Q h':=by rw[e,d]
def mr{o:X8}{args args':List Aa}{k:Aa->IT}(e:args=args'):IT.op o args k=IT.op o args' k:=by rw[e]
def iC{n:Nat}{v v':Aa}{k:List Aa->IT}(e:v=v'):IT.cells n v k=IT.cells n v' k:=by rw[e]
def bb{v v':Aa}{s t:IT}(e:v=v'):IT.AH v s t=IT.AH v' s t:=by rw[e]
def nF{n:Option Nat}{v v':Aa}{k:Aa->IT}(e:v=v'):IT.load n v k=IT.load n v' k:=by rw[e]
def iD{n:Nat}{p p' v v':Aa}{k:IT}(d:p=p')(e:v=v'):IT.store n p v k=IT.store n p' v' k:=by rw[e,d]
def iE{n:Nat}{v v':Aa}{k:Aa->IT}(e:v=v'):IT.alloc n v k=IT.alloc n v' k:=by rw[e]
def nG{f:FuncId}{args args':List Aa}{k:Aa->IT}(e:args=args'):IT.call f args k=IT.call f args' k:=by rw[e]
def iF{f:FuncId}{args args':List Aa}{k:Aa->IT}(e:args=args'):IT.BG f args k=IT.BG f args' k:=by rw[e]
def iG{f f':Aa}{args args':List Aa}{k:Aa->IT}(d:f=f')(e:args=args'):IT.D4 f args k=IT.D4 f' args' k:=by rw[e,d]
def nH{key:Nat}{i d:List Aa}{b:List Aa->IT}{k:FO->List Aa->IT}(e:i=d):IT.loop key i b k=IT.loop key d b k:=by rw[e]
def nI{key:Nat}{b:IT}{k:FO->List Aa->IT}:IT.F9 key b k=IT.F9 key b k:=rfl
def bc{v v':Aa}{k:Aa->IT}(e:v=v'):IT.UI v k=IT.UI v' k:=by rw[e]
def iH{size bytes:Nat}{s s' x x':Aa}{k:Aa->IT}(e:s=s')(d:x=x'):IT.Jk size bytes s x k=IT.Jk size bytes s' x' k:=by rw[e,d]
def nJ{size bytes:Nat}{s s' x x':Aa}{k:Aa->IT}(e:s=s')(d:x=x'):IT.FQ size bytes s x k=IT.FQ size bytes s' x' k:=by rw[e,d]
def bd{o:gx}{args args':List Aa}{k:Aa->IT}(e:args=args'):IT.mem o args k=IT.mem o args' k:=by rw[e]
def Ys{size bytes:Nat}{s s' x x':Aa}{k:Aa->IT}(e:s=s')(d:x=x'):IT.F8 size bytes s x k=IT.F8 size bytes s' x' k:=by rw[e,d]
def iI{off:Nat}{p p':Aa}{k:IT}(e:p=p'):IT.H6 off p k=IT.H6 off p' k:=by rw[e]
def WJ{s s':Aa}{k:Aa->IT}(e:s=s'):IT.EO s k=IT.EO s' k:=by rw[e]
def nK{m m' key key' v v':Aa}{k:IT}(e:m=m')(f:key=key')(d:v=v'):IT.Hu m key v k=IT.Hu m' key' v' k:=by rw[e,f,d]
def nL{z:Aa}{ok:Bool}{m m' key key':Aa}{k:Aa->IT}(e:m=m')(d:key=key'):IT.LL z ok m key k=IT.LL z ok m' key' k:=by rw[e,d]
attribute [congr] a_ nE zt mr iC bb nF iD iE nG iF iG nH nI bc iI nJ Ys bd iH WJ nK nL
attribute [simp] LU iB Zn WC WD C9 Zl WA WB Pg Nf WE Um Un Zo Uo WG QC Zp Uq Ph Q2 WH WI Mu EX
section
variable{k:IntKind}{a b:Int}{s t:Ak}
@[simp] theorem aAc:Ay (.int .eql) [.int k a,.int k b]=some (.bool (decide (a=b))):=by cases k<;>rfl
@[simp] theorem aAd:Ay (.int .neq) [.int k a,.int k b]=some (.bool (decide (a≠b))):=by
 have e:Ay (.int .neq) [.int k a,.int k b]=some (.bool (!(a==b))):=by cases k<;>rfl
 rw[e];by_cases h:a=b<;>simp[h]
@[simp] theorem aAe:Ay (.int .lss) [.int k a,.int k b]=some (.bool (decide (a<b))):=by cases k<;>rfl
@[simp] theorem aAf:Ay (.int .leq) [.int k a,.int k b]=some (.bool (decide (a<=b))):=by cases k<;>rfl
@[simp] theorem aAg:Ay (.int .gtr) [.int k a,.int k b]=some (.bool (decide (b<a))):=by cases k<;>rfl
@[simp] theorem aAh:Ay (.int .geq) [.int k a,.int k b]=some (.bool (decide (b<=a))):=by cases k<;>rfl
def nM:Ay (.int .add) [.int k a,.int k b]=some (.int k (k.wrap (a+b))):=by cases k<;>rfl
def nN:Ay (.int .sub) [.int k a,.int k b]=some (.int k (k.wrap (a-b))):=by cases k<;>rfl
@[simp] theorem aAi {b:Bool}:Ay (.un .not) [.bool b]=some (.bool (!b)):=rfl
@[simp] theorem sF:Ay (.str .eql) [.str s,.str t]=some (.bool (decide (s=t))):=by
 show some (Aa.bool (s==t))=_;congr 2
 by_cases h:s=t<;>simp[h]
@[simp] theorem zu:Ay (.str .neq) [.str s,.str t]=some (.bool (decide (s≠t))):=by
 show some (Aa.bool (!(s==t)))=_;congr 2
 by_cases h:s=t<;>simp[h]
@[simp] theorem zw:Ay (.len true) [.str s]=some (.int .i64 s.length):=rfl
@[simp] theorem aId {i:Int}:Ay .UH [.str s,.int k i]=if 0<=i then(s[i.toNat]?).map λb=> .int .u8 b.toNat else none:=rfl
@[simp] theorem bF {off:Nat} {cs:List Aa}:Ay (.part off none) [.agg cs]=cs[off]?:=rfl
@[simp] theorem bG {off n:Nat} {cs:List Aa}:Ay (.part off (some n)) [.agg cs]=if off+n<=cs.length then some (.agg ((cs.drop off).take n)) else none:=rfl
@[simp] theorem aAj {i:Nat} {vs:List Aa}:Ay (.ext i) [.tuple vs]=vs[i]?:=rfl
@[simp] theorem Yt {p:Nat×Nat}:Ay .LI [.ptr (some p)]=some (.ptr (some p)):=rfl
@[simp] theorem WK {cs:List Aa}:Ay .LI [.BW cs]=some (.BW cs):=rfl
@[simp] theorem WL {f:FuncId} {a b:List Aa}:Ay .LI [.func (.func f) a b]=some (.func (.func f) a b):=rfl
@[simp] theorem Yu {off:Nat} {cs:List Aa}:Ay (.Fg off) [.BW cs]=some (.BW (cs.drop off)):=rfl
@[simp] theorem bH {off id o:Nat}:Ay (.Fg off) [.ptr (some (id,o))]=some (.ptr (some (id,o+off))):=rfl
@[simp] theorem be {neg:Bool}:Ay (.Ru neg) [.ptr none,.ptr none]=some (.bool (true != neg)):=rfl
@[simp] theorem bg {neg:Bool} {p:Nat×Nat}:Ay (.Ru neg) [.ptr (some p),.ptr none]=some (.bool (false != neg)):=rfl
@[simp] theorem bh {neg:Bool} {p:Nat×Nat}:Ay (.Ru neg) [.ptr none,.ptr (some p)]=some (.bool (false != neg)):=rfl
@[simp] theorem aAk {neg a b:Bool}:Ay (.beq neg) [.bool a,.bool b]=some (.bool ((a==b) != neg)):=rfl
@[simp] theorem aIe {c:Bool} {a b:Aa}:Ay .pick [.bool c,a,b]=some (if c then a else b):=rfl
@[simp] theorem Vl {l:IntKind}:Ay (.conv l) [.int k a]=some (.int l (l.wrap a)):=rfl
@[simp] theorem mv {zero args:List Aa} {places:List (Nat×Nat)}:Ay (.BV zero places) args=if places.length=args.length then(Bv zero (places.zip args)).map .agg else none:=rfl
@[simp] theorem WM {neg:Bool} {ks:List FK} {x y:List Aa}:Ay (.geq neg ks) [.agg x,.agg y]=(DR ks x y).map λe=> .bool (e != neg):=rfl
@[simp] theorem mw:Ay (.Ld false) [.int k a,.int k b]=some (.int k (if b<a then b else a)):=by simp[Ay]
@[simp] theorem bI:Ay (.Ld true) [.int k a,.int k b]=some (.int k (if a<b then b else a)):=by simp[Ay]
@[simp] theorem WN {h:Ah} {n:Option Nat} {cs:List Aa}:Bi h n (.BW cs)=E1 cs 0 n:=rfl
@[simp] theorem FJ {off:Nat} {cs:List Aa}:E1 cs off none=cs[off]?:=rfl
@[simp] theorem Mv {off n:Nat} {cs:List Aa}:E1 cs off (some n)=if off+n<=cs.length then some (.agg ((cs.drop off).take n)) else none:=rfl
@[simp] theorem wrap_i64 (h1: -9223372036854775808<=a) (h2:a<9223372036854775808):IntKind.i64.wrap a=a:=by rw[IntKind.wrap_i64];omega
end
def P4{cs:List Aa}:Aa.cells (.agg cs)=cs:=rfl
def Zq{k:IntKind}{n:Int}:Aa.cells (.int k n)=[.int k n]:=rfl
def P5{s:Ak}:Aa.cells (.str s)=[.str s]:=rfl
def WO{b:Bool}:Aa.cells (.bool b)=[.bool b]:=rfl
def Zr{p:Option (Nat×Nat)}:Aa.cells (.ptr p)=[.ptr p]:=rfl
def WQ{p:List Aa}:Aa.cells (.BW p)=[.BW p]:=rfl
def Ur:Aa.cells .slnil=[.slnil]:=rfl
def iJ{z:Nat}{r:List (List Aa)}:Aa.cells (.sl z r)=[.sl z r]:=rfl
def Zs{i o l z:Nat}:Aa.cells (.CW i o l z)=[.CW i o l z]:=rfl
def WR{f:Fn}{a b:List Aa}:Aa.cells (.func f a b)=[.func f a b]:=rfl
attribute [simp] Bv DR LJ Cz P4 Zq P5 WO Zr WQ Ur iJ Zs WR
def Bz(z:Nat)(Aw:List (List Aa))(v:Aa):Prop:=v= .sl z Aw\/(v= .slnil/\Aw=[])
section
variable{z:Nat}{Aw:List (List Aa)}{v:Aa}
def Bz.mk:Bz z Aw (.sl z Aw):= .inl rfl
def Bz.nil:Bz z [] .slnil:= .inr ⟨rfl,rfl⟩
def Bz.cells(h:Bz z Aw v):v.cells=[v]:=by rcases h with rfl|⟨rfl,rfl⟩<;>rfl
def Bz.len(h:Bz z Aw v):Ay (.len false) [v]=some (.int .i64 Aw.length):=by rcases h with rfl|⟨rfl,rfl⟩<;>rfl
def Bz.FH(h:Bz z Aw v){k:IntKind}{n:Nat}(hn:n<Aw.length):Ay (.FH z) [v,.int k (n:Int)]=some (.BW Aw[n]):=by
 rcases h with rfl|⟨rfl,rfl⟩
 .simp[Ay,elemOf,hn]
 .simp at hn
end
end Go.Am
end
section
namespace Go.Am
open Go
section
variable{C:FB}{Q:Kj}{h:Ah}
def Pj{key:Nat}{vs:List Aa}{body:List Aa->IT}{k:FO->List Aa->IT}
  (hw:W C (body vs) (λx ĥ h1=>(x= .normal/\W C (.loop key ĥ body k) Q h1)\/(x≠ .normal/\W C (k x ĥ) Q h1)) h):W C (.loop key vs body k) Q h:=by
 obtain⟨m,x,ĥ,h1,hr,IC⟩:=hw.succ;rcases IC with⟨rfl,hw⟩|⟨hx,hw⟩
 .obtain⟨m',x',Hv,h',Hd,q⟩:=hw;refine CQ ⟨max m m',x',Hv,h',?_,q⟩;have e:=IT.Jl (λt h r=>IT.HK (fn:=B7 C) (Hr m m')) _ _ _ hr;have d:=IT.HK (GP m m') Hd;simp only[IT.step];simp only[FB.run] at*;rw[e];exact d
 .obtain⟨m',x',Hv,h',Hd,q⟩:=hw.succ;refine CQ ⟨max m m',x',Hv,h',?_,q⟩;have e:=IT.Jl (λt h r=>IT.HK (fn:=B7 C) (Hr m m')) _ _ _ hr;have d:=IT.Jl (λt h r=>IT.HK (fn:=B7 C) (GP m m')) _ _ _ Hd;simp only[IT.step];simp only[FB.run] at*;rw[e];cases x<;>first|exact absurd rfl hx|exact d
def By{U:Type}(C:FB)(enc:U->List Aa)(DI:U->Ah->Prop)(O:U->Nat)(k:FO->List Aa->IT)(Q:Kj)(s:U):Kj:=
 λx vs h1=>(x= .normal/\∃s',vs=enc s'/\DI s' h1/\O s'<O s)\/(x≠ .normal/\W C (k x vs) Q h1)
variable{U:Type}{enc:U->List Aa}{DI:U->Ah->Prop}{O:U->Nat}{k:FO->List Aa->IT}{s:U}{vs:List Aa}
def By.next(s':U)(e:vs=enc s')(hi:DI s' h)(hl:O s'<O s):By C enc DI O k Q s .normal vs h:= .inl ⟨rfl,s',e,hi,hl⟩
def Yv{i:Nat}:By C enc DI O k Q s (.exit i) vs h↔W C (k (.exit i) vs) Q h:=by simp[By]
def bJ:By C enc DI O k Q s .ret vs h↔W C (k .ret vs) Q h:=by simp[By]
def B1{key:Nat}{init:List Aa}{body:List Aa->IT}(enc:U->List Aa)(DI:U->Ah->Prop)(O:U->Nat)(s0:U)(h0:init=enc s0)(hi:DI s0 h)
  (round:∀s h,DI s h->W C (body (enc s)) (By C enc DI O k Q s) h):W C (.loop key init body k) Q h:=by
 subst h0;have key:∀n s h,O s=n->DI s h->W C (.loop key (enc s) body k) Q h:=by
  intro n;induction n using Nat.strongRecOn with
  |_ n ih=>
   intro s h hn hI;refine Pj (W.mono (round s h hI) ?_);rintro x vs h1 (⟨rfl,s',rfl,kg,hl⟩|⟨hx,hw⟩);.exact .inl ⟨rfl,ih _ (hn▸hl) s' h1 rfl kg⟩
   .exact .inr ⟨hx,hw⟩
 exact key _ s0 h rfl hi
end
section
variable{k l:IntKind}{s:Ak}
def Ie{n:Nat}(hn:n<s.length):Ay .UH [.str s,.int k (n:Int)]=some (.int .u8 (s[n].toNat:Int)):=by simp[hn]
def CR{n:Nat}(hn:n<9223372036854775807):Ay (.int .add) [.int .i64 (n:Int),.int .i64 1]=some (.int .i64 ((n+1:Nat):Int)):=by rw[nM,wrap_i64 Ac Ac];rfl
def MN{n:Nat}(h0:0<n)(hn:n<9223372036854775807):Ay (.int .sub) [.int .i64 (n:Int),.int .i64 1]=some (.int .i64 ((n-1:Nat):Int)):=by rw[nN,wrap_i64 Ac Ac];congr 2;omega
def nO{a b z:Nat}(gh:a<=b)(hb:b<=s.length):Ay (.PQ z true true true) [.str s,.int k (a:Int),.int l (b:Int)]=some (.str ((s.take b).drop a)):=by
 have e:Eg (b:Int) s.length=some b:=by unfold Eg;rw[Af Ac];rfl
 have d:Eg (a:Int) b=some a:=by unfold Eg;rw[Af Ac];rfl
 simp[Ay,Io,Dx,e,d]
end
section
variable{z b:Nat}{r r2:List (List Aa)}{row:List Aa}{v v2:Aa}
def Bz.zx(h:Bz z r v)(hb:(r.length+1)*b<=AK):Ay (.append z b) [v,.sl z [row]]=some (.sl z (r++[row])):=by
 rcases h with rfl|⟨rfl,rfl⟩
 .simp[Ay,Ht,Dl,hb]
 .have:1*b<=AK:=by simpa using hb
  simp only[Eh] at this;simp[Ay,Ht,Dl,this]
def Bz.JL(h:Bz z r v)(h2:Bz z r2 v2)(hb:(r.length+r2.length)*b<=AK):∃u,Ay (.append z b) [v,v2]=some u/\Bz z (r++r2) u:=by
 have hnil:∃u,Dl z b v []=some u/\Bz z (r++[]) u:=by
  rcases h with rfl|⟨rfl,rfl⟩
  .exact⟨.sl z r,by simp[Dl],by rw[Bq];exact .mk⟩
  .exact⟨_,rfl,.nil⟩
 rcases h2 with rfl|⟨rfl,rfl⟩
 .cases r2 with
  |nil=>obtain⟨u,e,hu⟩:=hnil;exact⟨u,by simpa[Ay,Ht] using e,hu⟩
  |cons x l=>
   refine⟨.sl z (r++x::l),?_,.mk⟩;rcases h with rfl|⟨rfl,rfl⟩
   .simp only[Ay,Ht,BD,Dl];rw[Af ⟨trivial,hb⟩]
   .simp only[Ay,Ht,BD,Dl];rw[Af (by simpa using hb)];rfl
 .obtain⟨u,e,hu⟩:=hnil;exact⟨u,by simpa[Ay,Ht] using e,hu⟩
def Bz.UI(h:Bz z r v){hp:Ah}:KO hp v=some (hp,v):=by rcases h with rfl|⟨rfl,rfl⟩<;>rfl
def WS(s:Ak):Mn (CY s)=some s:=by
 induction s with
 |nil=>rfl
 |cons c s ih=>have e:CY (c::s)=[.int .u8 c.toNat]::CY s:=rfl;rw[e,Mn,ih];simp
def Bz.Yc{s:Ak}(h:Bz 1 (CY s) v):Ay .Yc [v]=some (.str s):=by
 rcases h with rfl|⟨rfl,h⟩
 .simp[Ay,Z4,WS]
 .have e:s=[]:=by simpa[CY] using h
  subst e;rfl
end
@[simp] theorem sG {z:Nat} {args:List Aa}:Ay (.Cl z) args=if args.all (λa=>a.cells.length==z)&&decide (args.length*z<=16777216) then some (.sl z (args.map (·.cells))) else none:=rfl
def WT{a:Aa}{z:Nat}(h:a.cells.length=z)(hz:z<=16777216):Ay (.Cl z) [a]=some (.sl z [a.cells]):=by simp[h,hz]
def wrap_u8{a:Int}(h:0<=a/\a<=255):IntKind.u8.wrap a=a:=IntWalk.u8_in a h
def my{a:Int}(h: -2147483648<=a/\a<=2147483647):IntKind.i32.wrap a=a:=IntWalk.i32_in a h
def Ae{C:FB}{f:FuncId}{args:List Aa}{h h':Ah}{r:Aa}:Ca C f args h r h'↔W C (B7 C f args) (λx vs h1=>x= .ret/\vs=[r]/\h1=h') h:=Iff.rfl
abbrev FL(C:FB)(f:FuncId)(t:Aa->IT):Prop:=∀a0,B7 C f [a0]=t a0
abbrev ES(C:FB)(f:FuncId)(t:Aa->Aa->IT):Prop:=∀a0 a1,B7 C f [a0,a1]=t a0 a1
abbrev Q3(C:FB)(f:FuncId)(t:Aa->Aa->Aa->IT):Prop:=∀a0 a1 a2,B7 C f [a0,a1,a2]=t a0 a1 a2
abbrev Tq4(C:FB)(f:FuncId)(t:Aa->Aa->Aa->Aa->IT):Prop:=∀a0 a1 a2 a3,B7 C f [a0,a1,a2,a3]=t a0 a1 a2 a3
abbrev Tq5(C:FB)(f:FuncId)(t:Aa->Aa->Aa->Aa->Aa->IT):Prop:=∀a0 a1 a2 a3 a4,B7 C f [a0,a1,a2,a3,a4]=t a0 a1 a2 a3 a4
def IT.fa(p:Aa)(k:Nat)(K:Aa->Aa->IT):IT:= .op .LI [p] λa=> .op (.Fg k) [a] λb=>K a b
def IT.BT(p:Aa)(k:Nat)(K:Aa->Aa->Aa->IT):IT:= .op .LI [p] λa=> .op (.Fg k) [a] λb=> .load none b λc=>K a b c
def IT.fl(p:Aa)(k:Nat)(K:Aa->Aa->IT):IT:= .op (.Fg k) [p] λa=> .load none a λb=>K a b
def nx(A R:List Aa->IT):FO->List Aa->IT:=λx c=>match x with
 | .normal=>A c
 | .exit _=> .fail
 | .ret=>R c
def lx(k:Nat)(A R:List Aa->IT):FO->List Aa->IT:=λx c=>match x with
 | .normal=> .fail
 | .exit i=>if i=k then A c else .fail
 | .ret=>R c
section
variable{C:FB}{Q:Kj}{h:Ah}{p:Aa}{k:Nat}{A R:List Aa->IT}{c:List Aa}
def aJZ{K:Aa->Aa->IT}:W C (IT.fa p k K) Q h=W C (.op .LI [p] λa=> .op (.Fg k) [a] λb=>K a b) Q h:=rfl
def aFe{K:Aa->Aa->Aa->IT}:W C (IT.BT p k K) Q h=W C (.op .LI [p] λa=> .op (.Fg k) [a] λb=> .load none b λc=>K a b c) Q h:=rfl
def aJ0{K:Aa->Aa->IT}:W C (IT.fl p k K) Q h=W C (.op (.Fg k) [p] λa=> .load none a λb=>K a b) Q h:=rfl
def aJ1:nx A R .normal c=A c:=rfl
def aJ2:nx A R .ret c=R c:=rfl
def aJ3:lx k A R (.exit k) c=A c:=Af rfl
def aJ4:lx k A R .ret c=R c:=rfl
end
def Ng:Ak->Ak->List Ak
 |cur,[]=>[cur]
 |cur,c::r=>if c=32 then cur::Ng [] r else Ng (cur++[c]) r
def R4:List Ak:=Ng [] [97,100,100,114,101,115,115,32,97,112,112,108,101,116,32,97,114,101,97,32,97,114,116,105,99,108,101,32,97,115,105,100,101,32,98,97,115,101,32,98,97,115,101,102,111,110,116,32,98,103,115,111,117,110,100,32,98,108,111,99,107,113,117,111,116,101,32,98,111,100,121,32,98,114,32,98,117,116,116,111,110,32,99,97,112,116,105,111,110,32,99,101,110,116,101,114,32,99,111,108,32,99,111,108,103,114,111,117,112,32,100,100,32,100,101,116,97,105,108,115,32,100,105,114,32,100,105,118,32,100,108,32,100,116,32,101,109,98,101,100,32,102,105,101,108,100,115,101,116,32,102,105,103,99,97,112,116,105,111,110,32,102,105,103,117,114,101,32,102,111,111,116,101,114,32,102,111,114,109,32,102,114,97,109,101,32,102,114,97,109,101,115,101,116,32,104,49,32,104,50,32,104,51,32,104,52,32,104,53,32,104,54,32,104,101,97,100,32,104,101,97,100,101,114,32,104,103,114,111,117,112,32,104,114,32,104,116,109,108,32,105,102,114,97,109,101,32,105,109,103,32,105,110,112,117,116,32,107,101,121,103,101,110,32,108,105,32,108,105,110,107,32,108,105,115,116,105,110,103,32,109,97,105,110,32,109,97,114,113,117,101,101,32,109,101,110,117,32,109,101,116,97,32,110,97,118,32,110,111,101,109,98,101,100,32,110,111,102,114,97,109,101,115,32,110,111,115,99,114,105,112,116,32,111,98,106,101,99,116,32,111,108,32,112,32,112,97,114,97,109,32,112,108,97,105,110,116,101,120,116,32,112,114,101,32,115,99,114,105,112,116,32,115,101,97,114,99,104,32,115,101,99,116,105,111,110,32,115,101,108,101,99,116,32,115,111,117,114,99,101,32,115,116,121,108,101,32,115,117,109,109,97,114,121,32,116,97,98,108,101,32,116,98,111,100,121,32,116,100,32,116,101,109,112,108,97,116,101,32,116,101,120,116,97,114,101,97,32,116,102,111,111,116,32,116,104,32,116,104,101,97,100,32,116,105,116,108,101,32,116,114,32,116,114,97,99,107,32,117,108,32,119,98,114,32,120,109,112]
def swv(s:Aa)(t e:IT):List (List UInt8)->IT
 |[]=>e
 |c::cs=>.op (.str .eql) [s,.str c] λv=>.AH v t (swv s t e cs)
abbrev IT.rr(l:List Aa):IT:=.ret .ret l
abbrev IT.rn(l:List Aa):IT:=.ret .normal l
abbrev IT.rx(n:Nat)(l:List Aa):IT:=.ret (.exit n) l
abbrev IT.ea(n:Nat)(l:List Aa)(k:Aa->IT):IT:=.op (.FH n) l k
abbrev IT.ld(p:Aa)(k:Aa->IT):IT:=.load none p k
abbrev IT.ie(l:List Aa)(k:Aa->IT):IT:=.op (.int .eql) l k
abbrev IT.iq(l:List Aa)(k:Aa->IT):IT:=.op (.int .neq) l k
abbrev IT.il(l:List Aa)(k:Aa->IT):IT:=.op (.int .lss) l k
abbrev IT.ig(l:List Aa)(k:Aa->IT):IT:=.op (.int .gtr) l k
abbrev IT.ia(l:List Aa)(k:Aa->IT):IT:=.op (.int .add) l k
abbrev IT.ib(l:List Aa)(k:Aa->IT):IT:=.op (.int .sub) l k
abbrev IT.ih(l:List Aa)(k:Aa->IT):IT:=.op (.int .geq) l k
abbrev IT.ik(l:List Aa)(k:Aa->IT):IT:=.op (.int .leq) l k
abbrev IT.se(l:List Aa)(k:Aa->IT):IT:=.op (.str .eql) l k
abbrev IT.ln(l:List Aa)(k:Aa->IT):IT:=.op (.len false) l k
abbrev IT.lt(l:List Aa)(k:Aa->IT):IT:=.op (.len true) l k
abbrev IT.nt(l:List Aa)(k:Aa->IT):IT:=.op (.un .not) l k
abbrev IT.ca(f:Nat)(l:List Aa)(k:Aa->IT):IT:=.call f l k
abbrev i0:Aa:=I 0
abbrev i1:Aa:=I 1
abbrev tu:Aa:=.tuple []
abbrev pn:Aa:=.ptr none
def mz(c:List Aa):Aa:=.agg [g c 0,g c 1,g c 2,g c 3,g c 4,g c 5,g c 6,g c 7,g c 8,g c 9,g c 10,g c 11,g c 12]
def a13_e{c:List Aa}:mz c=.agg [g c 0,g c 1,g c 2,g c 3,g c 4,g c 5,g c 6,g c 7,g c 8,g c 9,g c 10,g c 11,g c 12]:=rfl
def Er(c:List Aa):Aa:=.agg [g c 0,g c 1,g c 2,g c 3,g c 4,g c 5,g c 6,g c 7,g c 8,g c 9,g c 10,g c 11]
def a12_e{c:List Aa}:Er c=.agg [g c 0,g c 1,g c 2,g c 3,g c 4,g c 5,g c 6,g c 7,g c 8,g c 9,g c 10,g c 11]:=rfl
def a9(c:List Aa):Aa:=.agg [g c 0,g c 1,g c 2,g c 3,g c 4,g c 5,g c 6,g c 7,g c 8]
def a9_e{c:List Aa}:a9 c=.agg [g c 0,g c 1,g c 2,g c 3,g c 4,g c 5,g c 6,g c 7,g c 8]:=rfl
def a6(c:List Aa):Aa:=.agg [g c 0,g c 1,g c 2,g c 3,g c 4,g c 5]
def a6_e{c:List Aa}:a6 c=.agg [g c 0,g c 1,g c 2,g c 3,g c 4,g c 5]:=rfl
def a4(c:List Aa):Aa:=.agg [g c 0,g c 1,g c 2,g c 3]
def a4_e{c:List Aa}:a4 c=.agg [g c 0,g c 1,g c 2,g c 3]:=rfl
def a3(c:List Aa):Aa:=.agg [g c 0,g c 1,g c 2]
def a3_e{c:List Aa}:a3 c=.agg [g c 0,g c 1,g c 2]:=rfl
def ai{a b:Prop}(x:a)(y:b):a/\b:=⟨x,y⟩
def Ci:=ai @a13_e (ai @a12_e (ai @a9_e (ai @a6_e (ai @a4_e (ai @a3_e (ai @aJZ (ai @aFe (ai @aJ0 (ai @aJ1 (ai @aJ2 (ai @aJ3 (ai @aJ4 (ai @LU (ai @iB (ai @Zn (ai @WC (ai @WD (ai @Zl (ai @WA (ai @WB (ai @Pg (ai @Nf (ai @WE (ai @Um (ai @Un (ai @Zo (ai @Uo (ai @WG (ai @QC (ai @Zp (ai @Uq (ai @Ph (ai @Q2 (ai @WH (ai @WI (ai @Mu (ai @EX (ai @aAc (ai @aAd (ai @aAe (ai @aAf (ai @aAg (ai @aAh (ai @aAi (ai @sF (ai @zu (ai @zw (ai @bF (ai @bG (ai @aAj (ai @Yt (ai @WK (ai @WL (ai @Yu (ai @bH (ai @be (ai @bg (ai @bh (ai @aAk (ai @mv (ai @WN (ai @FJ (ai @Mv (ai @YP.{0} (ai @aIY.{0} (ai @Il.{0} (ai @SO.{0} (ai @J2.{0} (ai @List.drop_succ_cons.{0} (ai @List.drop_nil.{0} (ai @Ma.{0} (ai @OI.{0} (ai @AJ.{0} (ai @Br.{0} (ai @CC.{0} (ai @BO.{0} (ai @aMZ.{0,0} (ai @List.zip_nil_right.{0,0} (ai @Bt.{0,0} (ai @Option.map_none.{0,0} (ai @BC (ai @P4 (ai @Zq (ai @P5 (ai @WO (ai @Zr (ai @WQ (ai @Ur (ai @iJ (ai @Zs (ai @WR (ai @X7 (ai @Mb (ai @Nx (ai @BD.{1} (ai @DO.{1} (ai @Yv (@bJ))))))))))))))))))))))))))))))))))))))))))))))))))))))))))))))))))))))))))))))))))))))))))))))))))
def bK:=ai @HF.{0} (ai @beq_self_eq_true.{0} (ai @Rr (ai @Bool.bne_false (ai @Bool.not_true (ai @PM (ai @AW (ai @A3 (ai @AR (ai @AM (ai @Bl (ai @Nat.zero_lt_succ (ai @Bt.{0,0} (@List.take_nil.{0})))))))))))))
def abS:=ai Ci bK
def aaS:type_of%@AQ.{0}:=@AQ.{0}
def Us:=ai @GN (ai @Fc (ai @Bool.and_true (ai @Z0 (ai @Bool.and_false (ai @Bool.false_and (ai @Bool.or_true (ai @OS (ai @Rq (ai @I8 (ai @FF.{0} (ai @aM2.{0} (ai @qN.{0} (ai @Option.isSome_none.{0} (ai @BD.{1} (ai @DO.{1} (ai @Co (ai @Mb (ai @ŉ (ai @Nx (ai @Ŋ (ai @ą (@Dd))))))))))))))))))))))
abbrev Pt(i o:Nat):Aa:=.ptr (some (i,o))
end Go.Am
end
