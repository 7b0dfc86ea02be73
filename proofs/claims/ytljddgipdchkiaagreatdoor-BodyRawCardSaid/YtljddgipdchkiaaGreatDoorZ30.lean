/- Lemmas -/
import Derived.Test.YtljddgipdchkiaaGreatDoorZ29
import Derived.Test.YtljddgipdchkiaaGreatDoorZ27
set_option linter.all false
set_option maxRecDepth 100000
section
end
section
end
section
end
section
end
section
end
section
end
section
end
section
end
section
end
section
end
section
end
section
end
section
end
section
end
section
end
section
end
section
end
section
end
section
namespace Go.Am
open Go
def aKX{t:MD}{av:Aa}(hv:Bz t.AA av)(hl:t.AA.length<=1000000):∃ZI,Bz t.AA ZI/\∀h,BZ cx 26 [.agg (I4 t av)] h (.agg (I4 t ZI)) h:=by obtain⟨u,e,hu⟩:=AV.aX (l:=([]:List A6)) (f:=A6.row) (v:= .slnil) (b:=40) (.inr ⟨rfl,rfl⟩) hv (by simp;have:AX=140737488355328:=rfl;omega);refine⟨u,hu,λh=>?_⟩;have hc:u.cells=[u]:=AV.cells hu;rw[Af,ke,t26];simp only[BJ,Nat.reduceLeDiff,↓reduceIte,I4,e,hc,Be,B1,Nw,aL2]
section
variable{sa:List A6->Bool}{t:MD}{av:Aa}{h:Ah}
def MD.QI(sa:List A6->Bool)(t:MD):Bool:=decide (t.name.length<=60)&&(decide (t.bk.length<=100)&&(decide (t.sys.length<=100)&&(decide (t.data.length<=200)&&sa t.AA)))
def aP6(j:∀{v:Aa} {l:List A6} (h:Ah),Bz l v->BZ cx 11 [v] h (.bool (sa l)) h)(hv:Bz t.AA av)(h:Ah):BZ cx 6 [.agg (I4 t av)] h (.bool (t.QI sa)) h:=by
 rw[Af,aGj,t6];unfold MD.QI;have b:((t.name.length:Int)<=60)=(t.name.length<=60):=propext Ab;have d:((t.bk.length:Int)<=100)=(t.bk.length<=100):=propext Ab;have f:((t.sys.length:Int)<=100)=(t.sys.length<=100):=propext Ab;have i:((t.data.length:Int)<=200)=(t.data.length<=200):=propext Ab;by_cases a:t.name.length<=60;rotate_left;.simp only[abS,Nat.reduceLeDiff,↓reduceIte,I4,b,a,Jd]
 by_cases c:t.bk.length<=100;rotate_left;.simp only[abS,Nat.reduceLeDiff,↓reduceIte,I4,b,a,d,c,Jd]
 by_cases e:t.sys.length<=100;rotate_left;.simp only[abS,Nat.reduceLeDiff,↓reduceIte,I4,b,a,d,c,f,e,Jd]
 by_cases g:t.data.length<=200;rotate_left;.simp only[abS,Nat.reduceLeDiff,↓reduceIte,I4,b,a,d,c,f,e,i,g,Jd]
 .simp only[abS,Nat.reduceLeDiff,↓reduceIte,I4,b,a,d,c,f,e,i,g,Jd,(j h hv).Ad]
end
end Go.Am
end
section
end
section
end
section
end
section
end
section
end
section
end
section
end
section
end
section
namespace Go.Am
open Go
def Is(r:J1):HB:=λx vs h=>r=(x,vs,h)
def Is.ret{C:FZ}{f:FuncId}{args:List Aa}{h h':Ah}{v:Aa}(hw:W C (Cd C f args) (Is (.ret,[v],h')) h):BZ C f args h v h':=
 hw.mono λx vs h1 e=>by unfold Is at e;cases e;exact⟨rfl,rfl,rfl⟩
def Is.of{C:FZ}{f:FuncId}{args:List Aa}{h h':Ah}{v:Aa}(hr:BZ C f args h v h'):W C (Cd C f args) (Is (.ret,[v],h')) h:=
 W.mono hr λx vs h1 ⟨c,b,a⟩=>by unfold Is;rw[c,b,a]
section
variable{C:FZ}{fn':FuncId->List Aa->IT}
def py{rec:IT->Ah->Option J1}(UN:∀t h r,rec t h=some r->W C t (Is r) h)(wM:∀f args h r,rec (fn' f args) h=some r->W C (Cd C f args) (Is r) h):
  ∀(t:IT) (h:Ah) (r:J1),IT.step fn' rec t h=some r->W C t (Is r) h:=by
 intro t;induction t with
 |ret x vs=>intro h r d;simp only[IT.step,BE] at d;exact Ğ d.symm
 |fail=>intro h r d;simp[IT.step] at d
 |op o args k ih=>
  intro h r d;simp only[IT.step] at d;split at d;.rename_i v e;exact aFf e (ih _ _ _ d)
  .cases d
 |cells n v k ih=>
  intro h r d;simp only[IT.step] at d;split at d;.rename_i hc;exact pG hc (ih _ _ _ d)
  .cases d
 |AE c t e i u=>
  intro h r d;simp only[IT.step] at d;split at d;.exact pH (λ_=>i _ _ d) λh=>by cases h
  .exact pH (λh=>by cases h) λ_=>u _ _ d
  .cases d
 |load n p k ih=>
  intro h r d;simp only[IT.step] at d;split at d;.rename_i v e;exact cu e (ih _ _ _ d)
  .cases d
 |store n p v k ih=>
  intro h r d;simp only[IT.step] at d;split at d;.rename_i v e;exact pI e (ih _ _ d)
  .cases d
 |alloc n v k ih=>
  intro h r d;simp only[IT.step,VH] at d;by_cases hc:v.cells.length=n;.rw[Ae hc] at d;exact pJ hc (ih _ _ _ d)
  .rw[Ac hc] at d;cases d
 |call f args k ih=>
  intro h r d;simp only[IT.step] at d;split at d;.rename_i v h1 e;exact(Is.ret (wM _ _ _ _ e)).Ad.2 (ih _ _ _ d)
  .cases d
 |Es g args k ih=>
  intro h r d;simp only[IT.step] at d;split at d
  .rename_i f a ht;split at d;.rename_i v h1 e;exact MP.2 ⟨(f,a),ht,(Is.ret (wM _ _ _ _ e)).Ad.2 (ih _ _ _ d)⟩
   .cases d
  .cases d
 |Bk f args k ih=>
  intro h r d;simp only[IT.step] at d;split at d
  .rename_i Hn;split at d
   .rename_i v h1 e;split at d;.rename_i az;have hp:Ks C f args v:=(Is.ret (wM _ _ _ _ e)).ev rfl;exact(hp.Bk Hn az).2 (ih _ _ _ d)
    .cases d
   .cases d
  .cases d
 |loop key init body k l j=>
  intro h r d;simp only[IT.step] at d;split at d;.rename_i vs h1 e;exact Pj ((l _ _ _ e).mono λx Ĺ h2 q=>by unfold Is at q;cases q;exact .inl ⟨rfl,UN _ _ _ d⟩)
  .rename_i x vs h1 hne e;exact Pj ((l _ _ _ e).mono λx Ĺ h2 q=>by unfold Is at q;cases q;exact .inr ⟨λhx=>hne hx,j _ _ _ _ d⟩)
  .cases d
 |Dz key t k i j=>
  intro h r d;simp only[IT.step] at d;split at d;.rename_i x vs h1 e;exact dd ((i _ _ e).mono λx Ĺ h2 q=>by unfold Is at q;cases q;exact j _ _ _ _ d)
  .cases d
 |same a b k ih=>
  intro h r d;simp only[IT.step] at d;split at d;.rename_i hc;exact cw hc (ih _ _ d)
  .cases d
 |Nf k ih=>intro h r d;simp only[IT.step] at d;exact cy (ih _ _ _ d)
 |HQ m key v k ih=>
  intro h r d;simp only[IT.step] at d;split at d;.rename_i h1 e;exact cz e (ih _ _ d)
  .cases d
 |L4 z ok m key k ih=>
  intro h r d;simp only[IT.step] at d;split at d;.rename_i h1 e;exact c_ e (ih _ _ _ d)
  .cases d
 |make size bytes zero len cap k ih=>
  intro h r d;simp only[IT.step] at d;split at d;.rename_i h1 v e;exact kD e (ih _ _ _ d)
  .cases d
 |HR size bytes s x k ih=>
  intro h r d;simp only[IT.step] at d;split at d;.rename_i h1 v e;exact pK e (ih _ _ _ d)
  .cases d
 |Fe s k ih=>
  intro h r d;simp only[IT.step] at d;split at d;.rename_i h1 v e;exact VX e (ih _ _ _ d)
  .cases d
 |LK v k ih=>
  intro h r d;simp only[IT.step] at d;split at d;.rename_i h1 v e;exact ğ e (ih _ _ _ d)
  .cases d
 |HE off p k ih=>
  intro h r d;simp only[IT.step] at d;split at d;.rename_i h1 e;exact pL e (ih _ _ d)
  .cases d
 |FN size bytes s x k ih=>
  intro h r d;simp only[IT.step] at d;split at d;.rename_i h1 v e;exact da e (ih _ _ _ d)
  .cases d
 |GA size bytes s x k ih=>
  intro h r d;simp only[IT.step] at d;split at d;.rename_i v e;exact YL e (ih _ _ _ d)
  .cases d
 |mem o args k ih=>
  intro h r d;simp only[IT.step] at d;split at d;.rename_i h1 v e;exact Ġ e (ih _ _ _ d)
  .cases d
 |o8 f args k ih=>
  intro h r d;simp only[IT.step] at d;split at d
  .rename_i v h1 e;split at d;.rename_i az;obtain⟨n,x,vs,h2,B,w⟩:=wM _ _ _ _ e;unfold Is at w;cases w;obtain⟨m,x',HS,h',A,y⟩:=(ih _ _ _ d).succ;refine C5 ⟨max n m,x',HS,h',?_,y⟩;have a1:=IT.Ib (HM n m) B;have a2:=IT.JN (λt h r=>IT.Ib (fn:=Cd C) (Hk n m)) _ _ _ A;simp only[IT.step];simp only[FZ.run] at*;rw[a1];simp only[az,BT];exact a2
   .cases d
  .cases d
def aEl(C:FZ)(fn':FuncId->List Aa->IT):Prop:=∀f args,fn' f args=Cd C f args\/∀n h r,IT.run fn' n (fn' f args) h=some r->W C (Cd C f args) (Is r) h
def dM(hs:aEl C fn'):∀(n:Nat) (t:IT) (h:Ah) (r:J1),IT.run fn' n t h=some r->W C t (Is r) h
 |0,t,h,r,a=>by simp[IT.run] at a
 |n+1,t,h,r,a=>by
  refine py (rec:=IT.run fn' n) (dM hs n) ?_ t h r a;intro f args h r a;rcases hs f args with e|e
  .rw[e] at a;exact dM hs n _ _ _ a
  .exact e n h r a
def aw(hs:aEl cx fn'){f:FuncId}{args:List Aa}{h:Ah}(n:Nat)(hr:Xu (IT.run fn' n (Cd cx f args) h)=true):Ev cx f args h λr _=>r= .bool true:=by obtain⟨h',e⟩:=Yy hr;exact(Is.ret (dM hs n _ _ _ e)).ev rfl
def wN(v:Aa):IT:= .Fe (.str []) λu=> .LK u λ_=> .ret .ret [v]
def ZN{n:Nat}{v:Aa}{h:Ah}{r:J1}(e:IT.run fn' n (wN v) h=some r):r=(.ret,[v],h++[.CT]):=by
 cases n with
 |zero=>simp[IT.run] at e
 |succ n=>
  have e0:IN h (.str [])=some (h++[.cells []],.CD h.length 0 0 1):=rfl;have a:Kq (h++[.cells []]) (.CD h.length 0 0 1)=some (h++[.CT],.sl 1 []):=by simp[Kq,Cz]
  simp only[IT.run,wN,IT.step,e0,a,BE] at e;exact e.symm
end
theorem aKY{l:Aq}{ws:List Aq}(w:Wds l ws)(s:Aq)(h:Ah):BZ cx 243 [.str s,.str l] h (.bool (decide (s∈ws))) (h++[.CT]):=by have a:=aKV w h;have r2:=aDA (Da (ws:=ws)) (by have:=w.few;omega) s (h++[Dx.CT]);rw[Af,sU,aCx];simp only[BJ,a.Ad,r2.Ad]
def eqB:Aq->Aq->Bool
 |[],[]=>true
 |a::s,b::t=>Nat.beq a.toNat b.toNat&&eqB s t
 |_,_=>false
theorem wO:∀{s t:Aq},eqB s t=true↔s=t
 |[],[]=>by simp[eqB]
 |[],b::t=>by simp[eqB]
 |a::s,[]=>by simp[eqB]
 |a::s,b::t=>by simp only[eqB,Bx,wO (s:=s) (t:=t),E4,Nat.beq_eq];exact⟨λ⟨h1,h2⟩=>⟨Uv.1 h1,h2⟩,λ⟨h1,h2⟩=>⟨by rw[h1],h2⟩⟩
def spN(n:Nat):Bool:=(Nat.ble 9 n&&Nat.ble n 13)||Nat.beq n 32
theorem aEn(c:UInt8):spN c.toNat=NO c:=by unfold spN NO;rw[Oz];simp only[Oy,Bx,Nat.ble_eq,Nat.beq_eq,CX]
def bt:Aq->Aq->List Aq
 |cur,[]=>match cur with
  |[]=>[]
  |_::_=>[cur.reverse]
 |cur,c::r=>match spN c.toNat with
  |true=>match cur with
   |[]=>bt [] r
   |_::_=>cur.reverse::bt [] r
  |false=>bt (c::cur) r
theorem dN:∀(s cur:Aq),bt cur s=wf cur.reverse s
 |[],[]=>by simp[bt,wf]
 |[],c::cur=>by simp[bt,wf]
 |c::r,cur=>by
  have h1:=aEn c;cases hc:NO c with
  |true=>
   rw[hc] at h1;cases cur with
   |nil=>simp[bt,wf,h1,hc,dN r []]
   |cons x cur=>simp[bt,wf,h1,hc,dN r []]
  |false=>rw[hc] at h1;simp[bt,wf,h1,hc,dN r (c::cur)]
def okB(l:Aq):Bool:=Nat.ble l.length 1000000&&l.all λc=>Nat.ble (c.toNat+1) 128
theorem wQ{l:Aq}(h:okB l=true):Wds l (bt [] l):=by unfold okB at h;simp only[Bx,Nat.ble_eq,DK] at h;exact⟨h.1,λc hc=>by have:=h.2 c hc;omega,by rw[dN];rfl⟩
def oR(s:Aq)(l:List Aq):Bool:=l.any (eqB s)
theorem ax(s:Aq)(l:List Aq):oR s l=decide (s∈l):=by rw[Oz];simp only[oR,SL,wO,CX];exact⟨λ⟨x,h1,h2⟩=>h2▸h1,λh=>⟨s,h,rfl⟩⟩
theorem aKZ(r:Int)(h:Ah):BZ cx 233 [.int .i32 r] h (.bool (decide (ť r))) h:=by
 have b:∀(lo hi:Int) (h:Ah),BZ cx 361 [.int .i32 lo,.int .i32 hi] h (.func (.func 414) [] [.Cq [.int .i32 lo],.Cq [.int .i32 hi]]) h:=λlo hi h=>by rw[Af,cH,Æ];simp only[abS]
 have e:∀(v:Aa) (h:Ah),v.cells=[v]->BZ cx 360 [v] h (.func (.func 413) [] [.Cq [v]]) h:=λv h hv=>by rw[Af,uJ,aDa];simp only[abS,hv]
 have c:=aP1 (L:=[(9,10),(12,13),(32,32)]) A5 r h;have a:AB (.BI 1) [.func (.func 414) [] [.Cq [.int .i32 9],.Cq [.int .i32 10]],.func (.func 414) [] [.Cq [.int .i32 12],.Cq [.int .i32 13]],.func (.func 414) [] [.Cq [.int .i32 32],.Cq [.int .i32 32]]]=some (.sl 1 ([((9:Int),(10:Int)),(12,13),(32,32)].map ZL)):=rfl;have d:∀v:Aa,DC (.func (.func 413) [] [v]) [.int .i32 r]=some (413,[.int .i32 r,v]):=λ_=>rfl;have r2:=e (.sl 1 ([((9:Int),(10:Int)),(12,13),(32,32)].map ZL)) h rfl;have e0:decide (ť r)=([((9:Int),(10:Int)),(12,13),(32,32)].any λp=>decide (p.1<=r/\r<=p.2)):=by
  have a:ť r↔((9<=r/\r<=10)\/(12<=r/\r<=13)\/(32<=r/\r<=32)):=by unfold ť;omega
  simp only[Rk,jK,Lo,<-Bool.decide_or,Dv];exact a
 rw[e0,Af,sP,aCs];simp only[abS,(b 9 10 h).Ad,(b 12 13 h).Ad,(b 32 32 h).Ad,a,r2.Ad,d,c.Ad]
def pz(d:IT):List Aa->IT
 |[.str s,.str l]=>match okB l with
  |true=>wN (.bool (oR s (bt [] l)))
  |false=>d
 |_=>d
def p_(d:IT):List Aa->IT
 |[.str l]=>match okB l with
  |true=>wN (.sl 1 ((bt [] l).map CH))
  |false=>d
 |_=>d
def qa(d:IT):List Aa->IT
 |[.int .i32 r]=> .ret .ret [.bool (decide (ť r))]
 |_=>d
noncomputable def aK0(f:FuncId)(args:List Aa):IT:=
 match Nat.beq f 243 with
 |true=>pz (ŀ f args) args
 |false=>match Nat.beq f 368 with
  |true=>p_ (ŀ f args) args
  |false=>match Nat.beq f 233 with
   |true=>qa (ŀ f args) args
   |false=>ŀ f args
theorem ď:aEl cx aK0:=by
 intro f args;unfold aK0;split
 .rename_i hf;have hf:=MX hf;subst hf;unfold pz;split
  .rename_i s l;split;.rename_i ho;refine .inr λn h r e=>?_;rw[ZN e,ax];exact Is.of (aKY (wQ ho) s h)
   .exact .inl (by rw[Rd])
  .exact .inl (by rw[Rd])
 .split
  .rename_i hf;have hf:=MX hf;subst hf;unfold p_;split
   .rename_i l;split;.rename_i ho;refine .inr λn h r e=>?_;rw[ZN e];exact Is.of (aKV (wQ ho) h)
    .exact .inl (by rw[Rd])
   .exact .inl (by rw[Rd])
  .split
   .rename_i hf;have hf:=MX hf;subst hf;unfold qa;split
    .rename_i a;refine .inr λn h r e=>?_;cases n with
     |zero=>simp[IT.run] at e
     |succ n=>simp only[IT.run,IT.step,BE] at e;rw[<-e];exact Is.of (aKZ a h)
    .exact .inl (by rw[Rd])
   .exact .inl (by rw[Rd])
theorem oS:Ev cx 7 [] [] λr _=>r= .bool true:=aw ď 3000 AH
theorem oT:Ks cx 7 [] tt:=oS
end Go.Am
end
