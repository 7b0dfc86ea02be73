/- Lemmas -/
import Derived.Test.YtdbnpiefklklhaaGreatDoorH30
import Derived.Test.YtdbnpiefklklhaaGreatDoorH29
set_option linter.all false
set_option maxRecDepth 100000
section
end
section
end
section
end
section
namespace Go.Am
open Go
section
variable{sa:List A3->Bool}{t:DH}{av:Aa}{h:Ai}
def DH.MA(sa:List A3->Bool)(t:DH):Bool:=decide (t.name.length<=60)&&(decide (t.JV.length<=100)&&(decide (t.sys.length<=100)&&(decide (t.data.length<=200)&&sa t.Au)))
def aMS(j:∀{v:Aa} {l:List A3} (h:Ai),Bb l v->B9 cx 12 [v] h (.bool (sa l)) h)(hv:Bb t.Au av)(h:Ai):B9 cx 6 [.agg (B1 t av)] h (.bool (t.MA sa)) h:=by
 rw[Ag,aFA,t6];unfold DH.MA;have b:((t.name.length:Int)<=60)=(t.name.length<=60):=propext Ab;have d:((t.JV.length:Int)<=100)=(t.JV.length<=100):=propext Ab;have f:((t.sys.length:Int)<=100)=(t.sys.length<=100):=propext Ab;have i:((t.data.length:Int)<=200)=(t.data.length<=200):=propext Ab;by_cases a:t.name.length<=60;rotate_left;.simp only[abS,Nat.reduceLeDiff,↓reduceIte,B1,b,a,UX]
 by_cases c:t.JV.length<=100;rotate_left;.simp only[abS,Nat.reduceLeDiff,↓reduceIte,B1,b,a,d,c,UX]
 by_cases e:t.sys.length<=100;rotate_left;.simp only[abS,Nat.reduceLeDiff,↓reduceIte,B1,b,a,d,c,f,e,UX]
 by_cases g:t.data.length<=200;rotate_left;.simp only[abS,Nat.reduceLeDiff,↓reduceIte,B1,b,a,d,c,f,e,i,g,UX]
 .simp only[abS,Nat.reduceLeDiff,↓reduceIte,B1,b,a,d,c,f,e,i,g,UX,(j h hv).Ac]
end
end Go.Am
end
section
end
section
end
section
end
section
namespace Go.Am
open Go
section
variable{P:List Item}{q:Int}{T:List Int}{m k j n:Nat}{b c d:BS}{nm x:Ah}{l:List Item}{at_:List A3}{t:DH}{sp h:Int}{i:Item}
def TV:Eb []:=⟨AM,λa ha=>by cases ha⟩
end
end Go.Am
end
section
end
section
end
section
end
section
end
section
end
section
namespace Go.Am
open Go
def Is(r:Jp):J7:=λx vs h=>r=(x,vs,h)
def Is.ret{C:Fv}{f:FuncId}{args:List Aa}{h h':Ai}{v:Aa}(hw:W C (B4 C f args) (Is (.ret,[v],h')) h):B9 C f args h v h':=
 hw.mono λx vs h1 e=>by unfold Is at e;cases e;exact⟨rfl,rfl,rfl⟩
def Is.of{C:Fv}{f:FuncId}{args:List Aa}{h h':Ai}{v:Aa}(hr:B9 C f args h v h'):W C (B4 C f args) (Is (.ret,[v],h')) h:=
 W.mono hr λx vs h1 ⟨c,b,a⟩=>by unfold Is;rw[c,b,a]
section
variable{C:Fv}{fn':FuncId->List Aa->IT}
def wg{rec:IT->Ai->Option Jp}(UW:∀t h r,rec t h=some r->W C t (Is r) h)(yV:∀f args h r,rec (fn' f args) h=some r->W C (B4 C f args) (Is r) h):
  ∀(t:IT) (h:Ai) (r:Jp),IT.step fn' rec t h=some r->W C t (Is r) h:=by
 intro t;induction t with
 |ret x vs=>intro h r d;simp only[IT.step,Bx] at d;exact ĉ d.symm
 |fail=>intro h r d;simp[IT.step] at d
 |op o args k ih=>
  intro h r d;simp only[IT.step] at d;split at d;.rename_i v e;exact aEn e (ih _ _ _ d)
  .cases d
 |cells n v k ih=>
  intro h r d;simp only[IT.step] at d;split at d;.rename_i hc;exact rF hc (ih _ _ _ d)
  .cases d
 |AD c t e i u=>
  intro h r d;simp only[IT.step] at d;split at d;.exact rG (λ_=>i _ _ d) λh=>by cases h
  .exact rG (λh=>by cases h) λ_=>u _ _ d
  .cases d
 |load n p k ih=>
  intro h r d;simp only[IT.step] at d;split at d;.rename_i v e;exact iw e (ih _ _ _ d)
  .cases d
 |store n p v k ih=>
  intro h r d;simp only[IT.step] at d;split at d;.rename_i v e;exact rH e (ih _ _ d)
  .cases d
 |alloc n v k ih=>
  intro h r d;simp only[IT.step,VD] at d;by_cases hc:v.cells.length=n;.rw[Af hc] at d;exact rI hc (ih _ _ _ d)
  .rw[Ad hc] at d;cases d
 |call f args k ih=>
  intro h r d;simp only[IT.step] at d;split at d;.rename_i v h1 e;exact(Is.ret (yV _ _ _ _ e)).Ac.2 (ih _ _ _ d)
  .cases d
 |D3 g args k ih=>
  intro h r d;simp only[IT.step] at d;split at d
  .rename_i f a ht;split at d;.rename_i v h1 e;exact Mr.2 ⟨(f,a),ht,(Is.ret (yV _ _ _ _ e)).Ac.2 (ih _ _ _ d)⟩
   .cases d
  .cases d
 |Bn f args k ih=>
  intro h r d;simp only[IT.step] at d;split at d
  .rename_i Io;split at d
   .rename_i v h1 e;split at d;.rename_i fm;have hp:Lm C f args v:=(Is.ret (yV _ _ _ _ e)).ev rfl;exact(hp.Bn Io fm).2 (ih _ _ _ d)
    .cases d
   .cases d
  .cases d
 |loop key init body k l j=>
  intro h r d;simp only[IT.step] at d;split at d;.rename_i vs h1 e;exact Pc ((l _ _ _ e).mono λx Ģ h2 q=>by unfold Is at q;cases q;exact .inl ⟨rfl,UW _ _ _ d⟩)
  .rename_i x vs h1 hne e;exact Pc ((l _ _ _ e).mono λx Ģ h2 q=>by unfold Is at q;cases q;exact .inr ⟨λhx=>hne hx,j _ _ _ _ d⟩)
  .cases d
 |FZ key t k i j=>
  intro h r d;simp only[IT.step] at d;split at d;.rename_i x vs h1 e;exact jc ((i _ _ e).mono λx Ģ h2 q=>by unfold Is at q;cases q;exact j _ _ _ _ d)
  .cases d
 |same a b k ih=>
  intro h r d;simp only[IT.step] at d;split at d;.rename_i hc;exact ix hc (ih _ _ d)
  .cases d
 |MX k ih=>intro h r d;simp only[IT.step] at d;exact iy (ih _ _ _ d)
 |Hw m key v k ih=>
  intro h r d;simp only[IT.step] at d;split at d;.rename_i h1 e;exact iz e (ih _ _ d)
  .cases d
 |LI z ok m key k ih=>
  intro h r d;simp only[IT.step] at d;split at d;.rename_i h1 e;exact i_ e (ih _ _ _ d)
  .cases d
 |make size bytes zero len cap k ih=>
  intro h r d;simp only[IT.step] at d;split at d;.rename_i h1 v e;exact mC e (ih _ _ _ d)
  .cases d
 |Je size bytes s x k ih=>
  intro h r d;simp only[IT.step] at d;split at d;.rename_i h1 v e;exact rJ e (ih _ _ _ d)
  .cases d
 |EN s k ih=>
  intro h r d;simp only[IT.step] at d;split at d;.rename_i h1 v e;exact VP e (ih _ _ _ d)
  .cases d
 |UI v k ih=>
  intro h r d;simp only[IT.step] at d;split at d;.rename_i h1 v e;exact Ċ e (ih _ _ _ d)
  .cases d
 |H7 off p k ih=>
  intro h r d;simp only[IT.step] at d;split at d;.rename_i h1 e;exact rK e (ih _ _ d)
  .cases d
 |FH size bytes s x k ih=>
  intro h r d;simp only[IT.step] at d;split at d;.rename_i h1 v e;exact ja e (ih _ _ _ d)
  .cases d
 |FX size bytes s x k ih=>
  intro h r d;simp only[IT.step] at d;split at d;.rename_i v e;exact YQ e (ih _ _ _ d)
  .cases d
 |mem o args k ih=>
  intro h r d;simp only[IT.step] at d;split at d;.rename_i h1 v e;exact ċ e (ih _ _ _ d)
  .cases d
 |qX f args k ih=>
  intro h r d;simp only[IT.step] at d;split at d
  .rename_i v h1 e;split at d;.rename_i fm;obtain⟨n,x,vs,h2,B,w⟩:=yV _ _ _ _ e;unfold Is at w;cases w;obtain⟨m,x',Hy,h',A,y⟩:=(ih _ _ _ d).succ;refine CR ⟨max n m,x',Hy,h',?_,y⟩;have a1:=IT.HJ (Hu n m) B;have a2:=IT.Jf (λt h r=>IT.HJ (fn:=B4 C) (GU n m)) _ _ _ A;simp only[IT.step];simp only[Fv.run] at*;rw[a1];simp only[fm,BE];exact a2
   .cases d
  .cases d
def aDw(C:Fv)(fn':FuncId->List Aa->IT):Prop:=∀f args,fn' f args=B4 C f args\/∀n h r,IT.run fn' n (fn' f args) h=some r->W C (B4 C f args) (Is r) h
def eQ(hs:aDw C fn'):∀(n:Nat) (t:IT) (h:Ai) (r:Jp),IT.run fn' n t h=some r->W C t (Is r) h
 |0,t,h,r,a=>by simp[IT.run] at a
 |n+1,t,h,r,a=>by
  refine wg (rec:=IT.run fn' n) (eQ hs n) ?_ t h r a;intro f args h r a;rcases hs f args with e|e
  .rw[e] at a;exact eQ hs n _ _ _ a
  .exact e n h r a
def ez(hs:aDw cx fn'){f:FuncId}{args:List Aa}{h:Ai}(n:Nat)(hr:Xp (IT.run fn' n (B4 cx f args) h)=true):Ev cx f args h λr _=>r= .bool true:=by obtain⟨h',e⟩:=Yw hr;exact(Is.ret (eQ hs n _ _ _ e)).ev rfl
def yW(v:Aa):IT:= .EN (.str []) λu=> .UI u λ_=> .ret .ret [v]
def Z0{n:Nat}{v:Aa}{h:Ai}{r:Jp}(e:IT.run fn' n (yW v) h=some r):r=(.ret,[v],h++[.DF]):=by
 cases n with
 |zero=>simp[IT.run] at e
 |succ n=>
  have e0:Ip h (.str [])=some (h++[.cells []],.C3 h.length 0 0 1):=rfl;have a:Li (h++[.cells []]) (.C3 h.length 0 0 1)=some (h++[.DF],.sl 1 []):=by simp[Li,Cr]
  simp only[IT.run,yW,IT.step,e0,a,Bx] at e;exact e.symm
end
theorem aHI{l:Ah}{ws:List Ah}(w:JZ l ws)(s:Ah)(h:Ai):B9 cx 185 [.str s,.str l] h (.bool (decide (s∈ws))) (h++[.DF]):=by have a:=vg w h;have r2:=Ú (CP (ws:=ws)) (by have:=w.few;omega) s (h++[ED.DF]);rw[Ag,dA,È];simp only[Cf,a.Ac,r2.Ac]
def eqB:Ah->Ah->Bool
 |[],[]=>true
 |a::s,b::t=>Nat.beq a.toNat b.toNat&&eqB s t
 |_,_=>false
theorem yX:∀{s t:Ah},eqB s t=true↔s=t
 |[],[]=>by simp[eqB]
 |[],b::t=>by simp[eqB]
 |a::s,[]=>by simp[eqB]
 |a::s,b::t=>by simp only[eqB,AN,yX (s:=s) (t:=t),Ex,Nat.beq_eq];exact⟨λ⟨h1,h2⟩=>⟨UG.1 h1,h2⟩,λ⟨h1,h2⟩=>⟨by rw[h1],h2⟩⟩
def spN(n:Nat):Bool:=(Nat.ble 9 n&&Nat.ble n 13)||Nat.beq n 32
theorem aDy(c:UInt8):spN c.toNat=No c:=by unfold spN No;rw[K0];simp only[Oh,AN,Nat.ble_eq,Nat.beq_eq,B0]
def gq:Ah->Ah->List Ah
 |cur,[]=>match cur with
  |[]=>[]
  |_::_=>[cur.reverse]
 |cur,c::r=>match spN c.toNat with
  |true=>match cur with
   |[]=>gq [] r
   |_::_=>cur.reverse::gq [] r
  |false=>gq (c::cur) r
theorem eR:∀(s cur:Ah),gq cur s=wf cur.reverse s
 |[],[]=>by simp[gq,wf]
 |[],c::cur=>by simp[gq,wf]
 |c::r,cur=>by
  have h1:=aDy c;cases hc:No c with
  |true=>
   rw[hc] at h1;cases cur with
   |nil=>simp[gq,wf,h1,hc,eR r []]
   |cons x cur=>simp[gq,wf,h1,hc,eR r []]
  |false=>rw[hc] at h1;simp[gq,wf,h1,hc,eR r (c::cur)]
def okB(l:Ah):Bool:=Nat.ble l.length 1000000&&l.all λc=>Nat.ble (c.toNat+1) 128
theorem yY{l:Ah}(h:okB l=true):JZ l (gq [] l):=by unfold okB at h;simp only[AN,Nat.ble_eq,Cg] at h;exact⟨h.1,λc hc=>by have:=h.2 c hc;omega,by rw[eR];rfl⟩
def qN(s:Ah)(l:List Ah):Bool:=l.any (eqB s)
theorem e_(s:Ah)(l:List Ah):qN s l=decide (s∈l):=by rw[K0];simp only[qN,J0,yX,B0];exact⟨λ⟨x,h1,h2⟩=>h2▸h1,λh=>⟨s,h,rfl⟩⟩
theorem aHJ(r:Int)(h:Ai):B9 cx 175 [.int .i32 r] h (.bool (decide (d_ r))) h:=by
 have b:∀(lo hi:Int) (h:Ai),B9 cx 242 [.int .i32 lo,.int .i32 hi] h (.func (.func 273) [] [.BR [.int .i32 lo],.BR [.int .i32 hi]]) h:=λlo hi h=>by rw[Ag,Vv,r_];simp only[abS]
 have e:∀(v:Aa) (h:Ai),v.cells=[v]->B9 cx 241 [v] h (.func (.func 272) [] [.BR [v]]) h:=λv h hv=>by rw[Ag,dF,Î];simp only[abS,hv]
 have c:=aHr (L:=[(9,10),(12,13),(32,32)]) AM r h;have a:Az (.Ch 1) [.func (.func 273) [] [.BR [.int .i32 9],.BR [.int .i32 10]],.func (.func 273) [] [.BR [.int .i32 12],.BR [.int .i32 13]],.func (.func 273) [] [.BR [.int .i32 32],.BR [.int .i32 32]]]=some (.sl 1 ([((9:Int),(10:Int)),(12,13),(32,32)].map UE)):=rfl;have d:∀v:Aa,CC (.func (.func 272) [] [v]) [.int .i32 r]=some (272,[.int .i32 r,v]):=λ_=>rfl;have r2:=e (.sl 1 ([((9:Int),(10:Int)),(12,13),(32,32)].map UE)) h rfl;have e0:decide (d_ r)=([((9:Int),(10:Int)),(12,13),(32,32)].any λp=>decide (p.1<=r/\r<=p.2)):=by
  have a:d_ r↔((9<=r/\r<=10)\/(12<=r/\r<=13)\/(32<=r/\r<=32)):=by unfold d_;omega
  simp only[Ru,lN,Rr,<-Bool.decide_or,C9];exact a
 rw[e0,Ag,cX,Å];simp only[abS,(b 9 10 h).Ac,(b 12 13 h).Ac,(b 32 32 h).Ac,a,r2.Ac,d,c.Ac]
def wh(d:IT):List Aa->IT
 |[.str s,.str l]=>match okB l with
  |true=>yW (.bool (qN s (gq [] l)))
  |false=>d
 |_=>d
def wj(d:IT):List Aa->IT
 |[.str l]=>match okB l with
  |true=>yW (.sl 1 ((gq [] l).map Ca))
  |false=>d
 |_=>d
def wk(d:IT):List Aa->IT
 |[.int .i32 r]=> .ret .ret [.bool (decide (d_ r))]
 |_=>d
noncomputable def aHK(f:FuncId)(args:List Aa):IT:=
 match Nat.beq f 185 with
 |true=>wh (ī f args) args
 |false=>match Nat.beq f 192 with
  |true=>wj (ī f args) args
  |false=>match Nat.beq f 175 with
   |true=>wk (ī f args) args
   |false=>ī f args
theorem ý:aDw cx aHK:=by
 intro f args;unfold aHK;split
 .rename_i hf;have hf:=MG hf;subst hf;unfold wh;split
  .rename_i s l;split;.rename_i ho;refine .inr λn h r e=>?_;rw[Z0 e,e_];exact Is.of (aHI (yY ho) s h)
   .exact .inl (by rw[Rj])
  .exact .inl (by rw[Rj])
 .split
  .rename_i hf;have hf:=MG hf;subst hf;unfold wj;split
   .rename_i l;split;.rename_i ho;refine .inr λn h r e=>?_;rw[Z0 e];exact Is.of (vg (yY ho) h)
    .exact .inl (by rw[Rj])
   .exact .inl (by rw[Rj])
  .split
   .rename_i hf;have hf:=MG hf;subst hf;unfold wk;split
    .rename_i a;refine .inr λn h r e=>?_;cases n with
     |zero=>simp[IT.run] at e
     |succ n=>simp only[IT.run,IT.step,Bx] at e;rw[<-e];exact Is.of (aHJ a h)
    .exact .inl (by rw[Rj])
   .exact .inl (by rw[Rj])
theorem qO:Ev cx 8 [] [] λr _=>r= .bool true:=ez ý 3000 AA
theorem Og:Lm cx 8 [] tt:=qO
end Go.Am
end
