/- Lemmas -/
import Derived.Test.YtemolpggcmbieaaGreatDoorZ30
import Derived.Test.YtemolpggcmbieaaGreatDoorZ29
set_option linter.all false
set_option maxRecDepth 100000
section
end
section
end
section
end
section
namespace Go.Am
open Go
section
variable{sa:List A7->Bool}{t:DU}{av:Aa}{h:Ah}
def DU.OF(sa:List A7->Bool)(t:DU):Bool:=decide (t.name.length<=60)&&(decide (t.JN.length<=100)&&(decide (t.sys.length<=100)&&(decide (t.data.length<=200)&&sa t.Av)))
def aMQ(j:∀{v:Aa} {l:List A7} (h:Ah),A8 l v->Ca cx 12 [v] h (.bool (sa l)) h)(hv:A8 t.Av av)(h:Ah):Ca cx 5 [.agg (B2 t av)] h (.bool (t.OF sa)) h:=by
 rw[Ae,aFB,t5];unfold DU.OF;have b:((t.name.length:Int)<=60)=(t.name.length<=60):=propext Ac;have d:((t.JN.length:Int)<=100)=(t.JN.length<=100):=propext Ac;have f:((t.sys.length:Int)<=100)=(t.sys.length<=100):=propext Ac;have i:((t.data.length:Int)<=200)=(t.data.length<=200):=propext Ac;by_cases a:t.name.length<=60;rotate_left;.simp only[abS,Nat.reduceLeDiff,↓reduceIte,B2,b,a,Us]
 by_cases c:t.JN.length<=100;rotate_left;.simp only[abS,Nat.reduceLeDiff,↓reduceIte,B2,b,a,d,c,Us]
 by_cases e:t.sys.length<=100;rotate_left;.simp only[abS,Nat.reduceLeDiff,↓reduceIte,B2,b,a,d,c,f,e,Us]
 by_cases g:t.data.length<=200;rotate_left;.simp only[abS,Nat.reduceLeDiff,↓reduceIte,B2,b,a,d,c,f,e,i,g,Us]
 .simp only[abS,Nat.reduceLeDiff,↓reduceIte,B2,b,a,d,c,f,e,i,g,Us,(j h hv).Ad]
end
end Go.Am
end
section
end
section
end
section
end
section
end
section
end
section
end
section
end
section
end
section
namespace Go.Am
open Go
def Is(r:Jy):Kj:=λx vs h=>r=(x,vs,h)
def Is.ret{C:FB}{f:FuncId}{args:List Aa}{h h':Ah}{v:Aa}(hw:W C (B7 C f args) (Is (.ret,[v],h')) h):Ca C f args h v h':=
 hw.mono λx vs h1 e=>by unfold Is at e;cases e;exact⟨rfl,rfl,rfl⟩
def Is.of{C:FB}{f:FuncId}{args:List Aa}{h h':Ah}{v:Aa}(hr:Ca C f args h v h'):W C (B7 C f args) (Is (.ret,[v],h')) h:=
 W.mono hr λx vs h1 ⟨c,b,a⟩=>by unfold Is;rw[c,b,a]
section
variable{C:FB}{fn':FuncId->List Aa->IT}
def vy{rec:IT->Ah->Option Jy}(UW:∀t h r,rec t h=some r->W C t (Is r) h)(yU:∀f args h r,rec (fn' f args) h=some r->W C (B7 C f args) (Is r) h):
  ∀(t:IT) (h:Ah) (r:Jy),IT.step fn' rec t h=some r->W C t (Is r) h:=by
 intro t;induction t with
 |ret x vs=>intro h r d;simp only[IT.step,Bx] at d;exact Č d.symm
 |fail=>intro h r d;simp[IT.step] at d
 |op o args k ih=>
  intro h r d;simp only[IT.step] at d;split at d;.rename_i v e;exact aEq e (ih _ _ _ d)
  .cases d
 |cells n v k ih=>
  intro h r d;simp only[IT.step] at d;split at d;.rename_i hc;exact qZ hc (ih _ _ _ d)
  .cases d
 |AH c t e i u=>
  intro h r d;simp only[IT.step] at d;split at d;.exact rA (λ_=>i _ _ d) λh=>by cases h
  .exact rA (λh=>by cases h) λ_=>u _ _ d
  .cases d
 |load n p k ih=>
  intro h r d;simp only[IT.step] at d;split at d;.rename_i v e;exact iv e (ih _ _ _ d)
  .cases d
 |store n p v k ih=>
  intro h r d;simp only[IT.step] at d;split at d;.rename_i v e;exact rB e (ih _ _ d)
  .cases d
 |alloc n v k ih=>
  intro h r d;simp only[IT.step,VG] at d;by_cases hc:v.cells.length=n;.rw[Af hc] at d;exact rC hc (ih _ _ _ d)
  .rw[Ag hc] at d;cases d
 |call f args k ih=>
  intro h r d;simp only[IT.step] at d;split at d;.rename_i v h1 e;exact(Is.ret (yU _ _ _ _ e)).Ad.2 (ih _ _ _ d)
  .cases d
 |D4 g args k ih=>
  intro h r d;simp only[IT.step] at d;split at d
  .rename_i f a ht;split at d;.rename_i v h1 e;exact Mu.2 ⟨(f,a),ht,(Is.ret (yU _ _ _ _ e)).Ad.2 (ih _ _ _ d)⟩
   .cases d
  .cases d
 |BG f args k ih=>
  intro h r d;simp only[IT.step] at d;split at d
  .rename_i Im;split at d
   .rename_i v h1 e;split at d;.rename_i fk;have hp:NW C f args v:=(Is.ret (yU _ _ _ _ e)).ev rfl;exact(hp.BG Im fk).2 (ih _ _ _ d)
    .cases d
   .cases d
  .cases d
 |loop key init body k l j=>
  intro h r d;simp only[IT.step] at d;split at d;.rename_i vs h1 e;exact Pj ((l _ _ _ e).mono λx ĥ h2 q=>by unfold Is at q;cases q;exact .inl ⟨rfl,UW _ _ _ d⟩)
  .rename_i x vs h1 hne e;exact Pj ((l _ _ _ e).mono λx ĥ h2 q=>by unfold Is at q;cases q;exact .inr ⟨λhx=>hne hx,j _ _ _ _ d⟩)
  .cases d
 |F9 key t k i j=>
  intro h r d;simp only[IT.step] at d;split at d;.rename_i x vs h1 e;exact jb ((i _ _ e).mono λx ĥ h2 q=>by unfold Is at q;cases q;exact j _ _ _ _ d)
  .cases d
 |same a b k ih=>
  intro h r d;simp only[IT.step] at d;split at d;.rename_i hc;exact iw hc (ih _ _ d)
  .cases d
 |MY k ih=>intro h r d;simp only[IT.step] at d;exact ix (ih _ _ _ d)
 |Hu m key v k ih=>
  intro h r d;simp only[IT.step] at d;split at d;.rename_i h1 e;exact iy e (ih _ _ d)
  .cases d
 |LL z ok m key k ih=>
  intro h r d;simp only[IT.step] at d;split at d;.rename_i h1 e;exact iz e (ih _ _ _ d)
  .cases d
 |make size bytes zero len cap k ih=>
  intro h r d;simp only[IT.step] at d;split at d;.rename_i h1 v e;exact lU e (ih _ _ _ d)
  .cases d
 |Jk size bytes s x k ih=>
  intro h r d;simp only[IT.step] at d;split at d;.rename_i h1 v e;exact rD e (ih _ _ _ d)
  .cases d
 |EO s k ih=>
  intro h r d;simp only[IT.step] at d;split at d;.rename_i h1 v e;exact VS e (ih _ _ _ d)
  .cases d
 |UI v k ih=>
  intro h r d;simp only[IT.step] at d;split at d;.rename_i h1 v e;exact č e (ih _ _ _ d)
  .cases d
 |H6 off p k ih=>
  intro h r d;simp only[IT.step] at d;split at d;.rename_i h1 e;exact rE e (ih _ _ d)
  .cases d
 |FQ size bytes s x k ih=>
  intro h r d;simp only[IT.step] at d;split at d;.rename_i h1 v e;exact i_ e (ih _ _ _ d)
  .cases d
 |F8 size bytes s x k ih=>
  intro h r d;simp only[IT.step] at d;split at d;.rename_i v e;exact YT e (ih _ _ _ d)
  .cases d
 |mem o args k ih=>
  intro h r d;simp only[IT.step] at d;split at d;.rename_i h1 v e;exact Ď e (ih _ _ _ d)
  .cases d
 |qR f args k ih=>
  intro h r d;simp only[IT.step] at d;split at d
  .rename_i v h1 e;split at d;.rename_i fk;obtain⟨n,x,vs,h2,B,w⟩:=yU _ _ _ _ e;unfold Is at w;cases w;obtain⟨m,x',Hv,h',A,y⟩:=(ih _ _ _ d).succ;refine CQ ⟨max n m,x',Hv,h',?_,y⟩;have a1:=IT.HK (Hr n m) B;have a2:=IT.Jl (λt h r=>IT.HK (fn:=B7 C) (GP n m)) _ _ _ A;simp only[IT.step];simp only[FB.run] at*;rw[a1];simp only[fk,BD];exact a2
   .cases d
  .cases d
def aDD(C:FB)(fn':FuncId->List Aa->IT):Prop:=∀f args,fn' f args=B7 C f args\/∀n h r,IT.run fn' n (fn' f args) h=some r->W C (B7 C f args) (Is r) h
def eR(hs:aDD C fn'):∀(n:Nat) (t:IT) (h:Ah) (r:Jy),IT.run fn' n t h=some r->W C t (Is r) h
 |0,t,h,r,a=>by simp[IT.run] at a
 |n+1,t,h,r,a=>by
  refine vy (rec:=IT.run fn' n) (eR hs n) ?_ t h r a;intro f args h r a;rcases hs f args with e|e
  .rw[e] at a;exact eR hs n _ _ _ a
  .exact e n h r a
def e_(hs:aDD cx fn'){f:FuncId}{args:List Aa}{h:Ah}(n:Nat)(hr:Xt (IT.run fn' n (B7 cx f args) h)=true):Ev cx f args h λr _=>r= .bool true:=by obtain⟨h',e⟩:=YB hr;exact(Is.ret (eR hs n _ _ _ e)).ev rfl
def yV(v:Aa):IT:= .EO (.str []) λu=> .UI u λ_=> .ret .ret [v]
def ZY{n:Nat}{v:Aa}{h:Ah}{r:Jy}(e:IT.run fn' n (yV v) h=some r):r=(.ret,[v],h++[.Ds]):=by
 cases n with
 |zero=>simp[IT.run] at e
 |succ n=>
  have e0:Ip h (.str [])=some (h++[.cells []],.CW h.length 0 0 1):=rfl;have a:KO (h++[.cells []]) (.CW h.length 0 0 1)=some (h++[.Ds],.sl 1 []):=by simp[KO,Cs]
  simp only[IT.run,yV,IT.step,e0,a,Bx] at e;exact e.symm
end
theorem aHM{l:Ak}{ws:List Ak}(w:J9 l ws)(s:Ak)(h:Ah):Ca cx 150 [.str s,.str l] h (.bool (decide (s∈ws))) (h++[.Ds]):=by have a:=uz w h;have r2:=Ù (CO (ws:=ws)) (by have:=w.few;omega) s (h++[Ej.Ds]);rw[Ae,cN,Y_];simp only[Ci,a.Ad,r2.Ad]
def eqB:Ak->Ak->Bool
 |[],[]=>true
 |a::s,b::t=>Nat.beq a.toNat b.toNat&&eqB s t
 |_,_=>false
theorem yW:∀{s t:Ak},eqB s t=true↔s=t
 |[],[]=>by simp[eqB]
 |[],b::t=>by simp[eqB]
 |a::s,[]=>by simp[eqB]
 |a::s,b::t=>by simp only[eqB,AO,yW (s:=s) (t:=t),EE,Nat.beq_eq];exact⟨λ⟨h1,h2⟩=>⟨UInt8.toNat_inj.1 h1,h2⟩,λ⟨h1,h2⟩=>⟨by rw[h1],h2⟩⟩
def spN(n:Nat):Bool:=(Nat.ble 9 n&&Nat.ble n 13)||Nat.beq n 32
theorem aDF(c:UInt8):spN c.toNat=Nt c:=by unfold spN Nt;rw[Lc];simp only[On,AO,Nat.ble_eq,Nat.beq_eq,B4]
def gu:Ak->Ak->List Ak
 |cur,[]=>match cur with
  |[]=>[]
  |_::_=>[cur.reverse]
 |cur,c::r=>match spN c.toNat with
  |true=>match cur with
   |[]=>gu [] r
   |_::_=>cur.reverse::gu [] r
  |false=>gu (c::cur) r
theorem eS:∀(s cur:Ak),gu cur s=wf cur.reverse s
 |[],[]=>by simp[gu,wf]
 |[],c::cur=>by simp[gu,wf]
 |c::r,cur=>by
  have h1:=aDF c;cases hc:Nt c with
  |true=>
   rw[hc] at h1;cases cur with
   |nil=>simp[gu,wf,h1,hc,eS r []]
   |cons x cur=>simp[gu,wf,h1,hc,eS r []]
  |false=>rw[hc] at h1;simp[gu,wf,h1,hc,eS r (c::cur)]
def okB(l:Ak):Bool:=Nat.ble l.length 1000000&&l.all λc=>Nat.ble (c.toNat+1) 128
theorem yX{l:Ak}(h:okB l=true):J9 l (gu [] l):=by unfold okB at h;simp only[AO,Nat.ble_eq,CK] at h;exact⟨h.1,λc hc=>by have:=h.2 c hc;omega,by rw[eS];rfl⟩
def qH(s:Ak)(l:List Ak):Bool:=l.any (eqB s)
theorem fc(s:Ak)(l:List Ak):qH s l=decide (s∈l):=by rw[Lc];simp only[qH,Ka,yW,B4];exact⟨λ⟨x,h1,h2⟩=>h2▸h1,λh=>⟨s,h,rfl⟩⟩
theorem aHN(r:Int)(h:Ah):Ca cx 140 [.int .i32 r] h (.bool (decide (gp r))) h:=by
 have b:∀(lo hi:Int) (h:Ah),Ca cx 228 [.int .i32 lo,.int .i32 hi] h (.func (.func 269) [] [.BW [.int .i32 lo],.BW [.int .i32 hi]]) h:=λlo hi h=>by rw[Ae,Vw,qz];simp only[abS]
 have e:∀(v:Aa) (h:Ah),v.cells=[v]->Ca cx 227 [v] h (.func (.func 268) [] [.BW [v]]) h:=λv h hv=>by rw[Ae,dA,Ì];simp only[abS,hv]
 have c:=aHl (L:=[(9,10),(12,13),(32,32)]) AI r h;have a:Ay (.Cl 1) [.func (.func 269) [] [.BW [.int .i32 9],.BW [.int .i32 10]],.func (.func 269) [] [.BW [.int .i32 12],.BW [.int .i32 13]],.func (.func 269) [] [.BW [.int .i32 32],.BW [.int .i32 32]]]=some (.sl 1 ([((9:Int),(10:Int)),(12,13),(32,32)].map UF)):=rfl;have d:∀v:Aa,Cz (.func (.func 268) [] [v]) [.int .i32 r]=some (268,[.int .i32 r,v]):=λ_=>rfl;have r2:=e (.sl 1 ([((9:Int),(10:Int)),(12,13),(32,32)].map UF)) h rfl;have e0:decide (gp r)=([((9:Int),(10:Int)),(12,13),(32,32)].any λp=>decide (p.1<=r/\r<=p.2)):=by
  have a:gp r↔((9<=r/\r<=10)\/(12<=r/\r<=13)\/(32<=r/\r<=32)):=by unfold gp;omega
  simp only[Rt,lE,Rq,<-Bool.decide_or,Dn];exact a
 rw[e0,Ae,cK,V_];simp only[abS,(b 9 10 h).Ad,(b 12 13 h).Ad,(b 32 32 h).Ad,a,r2.Ad,d,c.Ad]
def vz(d:IT):List Aa->IT
 |[.str s,.str l]=>match okB l with
  |true=>yV (.bool (qH s (gu [] l)))
  |false=>d
 |_=>d
def v_(d:IT):List Aa->IT
 |[.str l]=>match okB l with
  |true=>yV (.sl 1 ((gu [] l).map Cc))
  |false=>d
 |_=>d
def wc(d:IT):List Aa->IT
 |[.int .i32 r]=> .ret .ret [.bool (decide (gp r))]
 |_=>d
noncomputable def aHO(f:FuncId)(args:List Aa):IT:=
 match Nat.beq f 150 with
 |true=>vz (Į f args) args
 |false=>match Nat.beq f 235 with
  |true=>v_ (Į f args) args
  |false=>match Nat.beq f 140 with
   |true=>wc (Į f args) args
   |false=>Į f args
theorem ā:aDD cx aHO:=by
 intro f args;unfold aHO;split
 .rename_i hf;have hf:=MF hf;subst hf;unfold vz;split
  .rename_i s l;split;.rename_i ho;refine .inr λn h r e=>?_;rw[ZY e,fc];exact Is.of (aHM (yX ho) s h)
   .exact .inl (by rw[Rh])
  .exact .inl (by rw[Rh])
 .split
  .rename_i hf;have hf:=MF hf;subst hf;unfold v_;split
   .rename_i l;split;.rename_i ho;refine .inr λn h r e=>?_;rw[ZY e];exact Is.of (uz (yX ho) h)
    .exact .inl (by rw[Rh])
   .exact .inl (by rw[Rh])
  .split
   .rename_i hf;have hf:=MF hf;subst hf;unfold wc;split
    .rename_i a;refine .inr λn h r e=>?_;cases n with
     |zero=>simp[IT.run] at e
     |succ n=>simp only[IT.run,IT.step,Bx] at e;rw[<-e];exact Is.of (aHN a h)
    .exact .inl (by rw[Rh])
   .exact .inl (by rw[Rh])
theorem qI:Ev cx 6 [] [] λr _=>r= .bool true:=e_ ā 3000 AF
theorem TU:NW cx 6 [] tt:=qI
end Go.Am
end
