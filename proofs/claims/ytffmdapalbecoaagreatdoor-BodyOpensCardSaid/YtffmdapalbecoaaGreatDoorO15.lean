/- Lemmas -/
import Derived.Test.YtffmdapalbecoaaGreatDoorO14
import Derived.Conc.MuLone
set_option linter.all false
set_option maxHeartbeats 0
set_option maxRecDepth 100000
namespace Go.Am
open Go Go.RowKit Go.Shelf
section
variable{U U':Gh}{h:Ah}{w w':World}
def HK.aE1(hi:HK U h w){id g j:Nat}{cs:List Aa}(hcs:h[id]?=some (.cells cs))(hg:U.mu id=some g)(hj:j<cs.length){u:Aa}{v:Value}(hv:BT U u v)(h1:v.oneCell'=true):
  HK U (h.set id (.cells (cs.set j u))) (w.setCell ⟨g,j,none⟩ v)/\LQ U w U (w.setCell ⟨g,j,none⟩ v):=by
 obtain⟨us,e,fr,k,n,f,m⟩:=hi.cells id cs hcs g hg;have hl:cs.length<=us.size:=by have:=f.length;simp at this;omega
 rw[setCell_eq_setRow w g j us e fr v k];have c:(us.setIfInBounds j v).toList.take (cs.set j u).length=(us.toList.take cs.length).set j v:=by simp[List.take_set]
 refine Of hi hcs hg k _ _ AH (by simpa using n) ?_ ?_
 .rw[c];refine Bp.HD EP λi a x ha hx=>?_;by_cases b:j=i;.subst b;rw[AY Ab] at ha;rw[AY EP] at hx;cases ha;cases hx;exact hv
  .rw[Au b] at ha hx;obtain⟨x',d,l⟩:=f.get ha;rw[hx] at d;cases d;exact l
 .rw[c];intro x hx;rcases DK hx with hx|rfl
  .exact m x hx
  .exact h1
def HK.TN(hi:HK U h w){id g j:Nat}{cs:List Aa}{u:Aa}(hcs:h[id]?=some (.cells cs))(hg:U.mu id=some g)(hj:cs[j]?=some u):
  w.frozen? ⟨g,j,none⟩=false/\∃x,w.cell? ⟨g,j,none⟩=some x/\BT U u x:=by
 obtain⟨x,b,_,a⟩:=Ot hi hcs hg hj;obtain⟨us,e,fr,f,d,c,i⟩:=hi.cells id cs hcs g hg;have hl:cs.length<=us.size:=by have:=c.length;simp at this;omega
 have:=(Aq.1 hj).1;refine⟨?_,x,b,a⟩;simp only[World.frozen?,f];rcases d with rfl|dz
 .simp
 .simp;omega
end
abbrev aIL:Go.Conc.Locks.MuLink:={lock:=441,unlock:=442,ilock:=453,iunlock:=454,lockSlow:=465,unlockSlow:=468,disable:=461,enable:=463,acquire:=464,relMerge:=466,cas32:=462,add32:=467,tMutex:=344,tIMutex:=342,tPMutex:=398,tPIMutex:=415,tPI32:=417,tUP:=316,tNoCopy:=337,tU32:=272}
open Proofs in
def aIM:Go.Conc.Locks.MuLib Proofs.Tryz.prog aIL:=
 ⟨Tryz.func441,Tryz.func442,Tryz.func453,Tryz.func454,Tryz.func461,Tryz.func463,Tryz.func464,Tryz.func466,Tryz.func462,Tryz.func467,
  Tryz.underlying342,Tryz.runUnderlying342,Tryz.sizeOf342,Tryz.isAgg342,Tryz.zeroValue342,Tryz.underlying344,Tryz.runUnderlying344,Tryz.sizeOf344,Tryz.isAgg344,Tryz.zeroValue344,
  Tryz.underlying398,Tryz.runUnderlying398,Tryz.sizeOf398,Tryz.isAgg398,Tryz.zeroValue398,Tryz.underlying415,Tryz.runUnderlying415,Tryz.sizeOf415,Tryz.isAgg415,Tryz.zeroValue415,
  Tryz.underlying417,Tryz.runUnderlying417,Tryz.sizeOf417,Tryz.isAgg417,Tryz.zeroValue417,Tryz.underlying316,Tryz.runUnderlying316,Tryz.sizeOf316,Tryz.isAgg316,Tryz.zeroValue316,
  Tryz.underlying337,Tryz.runUnderlying337,Tryz.sizeOf337,Tryz.isAgg337,Tryz.zeroValue337,Tryz.underlying21,Tryz.runUnderlying21,Tryz.sizeOf21,Tryz.isAgg21,Tryz.zeroValue21,C8⟩
def Y4(a:Addr)(x:Value)(u:FrameMode)(w:World)(hc:w.cell? a=some x)(hz:w.frozen? a=false):
  CallsD Proofs.Tryz.prog 443 #[.pointer (some a),.bool true] u w λe b w'=>b=u/\(e= .returned (.tuple #[])/\w'=w.drew.setCell a (.int .u32 1)):=by
 have Jq:w.drew.cell? a=some x:=by go_simp
 have bR:w.drew.frozen? a=false:=by go_simp
 have Ia:=run_call_store (P:=Proofs.Tryz.prog) Proofs.Tryz.func455 C8 C8 C8 C8 (k:= .u32) (y:=1) Jq bR;go_enter_d Proofs.Tryz.func443,Proofs.Tryz.ntmps443
 go_wp2
 go_region_calls
 all_goals (go_end0;exact⟨rfl,rfl⟩)
def fx(a:Addr)(d:Int)(w:World)(h0:w.cell? a=some (.int .u32 d)):Calls Proofs.Tryz.prog 432 #[.pointer (some a)] w λe w'=>e= .returned (.bool (d != 0))/\w=w':=by
 have hl:=run_call_load (P:=Proofs.Tryz.prog) Proofs.Tryz.func440 C8 C8 C8 .u32 C8 h0;go_enter Proofs.Tryz.func432,Proofs.Tryz.ntmps432
 go_wp2
 go_ret
 exact⟨rfl,rfl⟩
abbrev xN(b:Nat)(r:Value)(w:World)(Q:World->Prop):Prop:=
 Calls Proofs.Tryz.prog 422 #[r] (w.setCell ⟨b,1,none⟩ (.int .i32 1)) λe w'=>(∃v,e= .returned v)/\Q w'/\w'.cell? ⟨b,0,none⟩=some (.int .u32 0)/\w'.cell? ⟨b,1,none⟩=some (.int .i32 1)/\w'.frozen? ⟨b,0,none⟩=false/\w'.frozen? ⟨b,1,none⟩=false
def ŭ(b:Nat)(r:Value)(w:World)(Q:World->Prop)(hd:xN b r w Q)
  (h0:w.cell? ⟨b,0,none⟩=some (.int .u32 0)) (h1:w.cell? ⟨b,1,none⟩=some (.int .i32 0))
  (f0:w.frozen? ⟨b,0,none⟩=false) (f1:w.frozen? ⟨b,1,none⟩=false):
  Calls Proofs.Tryz.prog 433 #[.pointer (some ⟨b,0,none⟩),.func (.func 422) #[r] #[]] w λe w'=>e= .returned (.tuple #[])/\
   ∃w'',Q w''/\w'=(w''.drew.setCell ⟨b,0,none⟩ (.int .u32 1)).setCell ⟨b,1,none⟩ (.int .i32 0):=by
 have l0:(w.setCell ⟨b,1,none⟩ (.int .i32 1)).cell? ⟨b,0,none⟩=some (.int .u32 0):=(World.cell?_setCell_other _ ⟨b,1,none⟩ ⟨b,0,none⟩ _ AH).trans h0;have aEM:∀(x:Bool) (w:World),(Op.unary .not (.bool x)).run Proofs.Tryz.prog w= .ok (.bool (!x)) w:=λ_ _=>rfl;go_enter_defers Proofs.Tryz.func433,Proofs.Tryz.ntmps433
 go_wp2_with (first|(go_at_call 441;refine(MuLone.lock_free aIM ⟨b,1,none⟩ _ (by go_simp) (by go_simp)).mono ?_;rintro e w' ⟨rfl,rfl⟩)|(go_at_call 432;refine(fx _ 0 _ l0).mono ?_;rintro e w' ⟨rfl,rfl⟩)|(go_at_call 422;refine hd.mono ?_;rintro e w' ⟨⟨v,rfl⟩,hq,g,d,z0,a⟩))
 refine leaves_cons (f:=443) (args:=#[.pointer (some ⟨b,0,none⟩),.bool true]) AH (by simp[go_sem]) ?_;refine(Y4 ⟨b,0,none⟩ (.int .u32 0) .returning _ g z0).mono ?_;rintro e c w'' ⟨rfl,rfl,rfl⟩;refine leaves_cons (f:=442) (args:=#[.pointer (some ⟨b,1,none⟩)]) (by simp[settle]) (by simp[go_sem]) ?_;refine(MuLone.unlock_deferred aIM ⟨b,1,none⟩ _ _ ?_ (by simp[a])).mono ?_;.exact(World.cell?_setCell_other _ ⟨b,0,none⟩ ⟨b,1,none⟩ _ AH).trans (by rw[World.cell?_drew];exact d)
 rintro e c w'' ⟨rfl,rfl,rfl⟩;simp[Leaves,settle,results,Proofs.Tryz.results433];exact⟨_,hq,rfl⟩
def aIN(b:Nat)(r:Value)(w:World)(Q:World->Prop)(hd:xN b r w Q)
  (h0:w.cell? ⟨b,0,none⟩=some (.int .u32 0)) (h1:w.cell? ⟨b,1,none⟩=some (.int .i32 0))
  (f0:w.frozen? ⟨b,0,none⟩=false) (f1:w.frozen? ⟨b,1,none⟩=false):
  Calls Proofs.Tryz.prog 421 #[.pointer (some ⟨b,0,none⟩),.func (.func 422) #[r] #[]] w λe w'=>e= .returned (.tuple #[])/\
   ∃w'',Q w''/\w'=(w''.drew.setCell ⟨b,0,none⟩ (.int .u32 1)).setCell ⟨b,1,none⟩ (.int .i32 0):=by
 have aEM:∀(x:Bool) (w:World),(Op.unary .not (.bool x)).run Proofs.Tryz.prog w= .ok (.bool (!x)) w:=λ_ _=>rfl;go_enter Proofs.Tryz.func421,Proofs.Tryz.ntmps421
 go_wp2_with (first|(go_at_call 432;refine(fx _ 0 _ h0).mono ?_;rintro e w' ⟨rfl,rfl⟩)|(go_at_call 433;refine(ŭ b r w Q hd h0 h1 f0 f1).mono ?_;rintro e w' ⟨rfl,w'',hq,rfl⟩))
 go_end0
 exact⟨rfl,w'',hq,rfl⟩
def aE2(x:Value)(w:World):(method 556 383 x "Replace").run Proofs.Tryz.prog w= .ok (502,x) w:=by kernel_rfl
def aE3(b:Nat)(s:Value)(w:World)(Q:World->Prop)(R:Ending->World->Prop)(hd:xN b (.pointer (some ⟨b,0,none⟩)) w Q)
  (h0:w.cell? ⟨b,0,none⟩=some (.int .u32 0)) (h1:w.cell? ⟨b,1,none⟩=some (.int .i32 0))
  (f0:w.frozen? ⟨b,0,none⟩=false) (f1:w.frozen? ⟨b,1,none⟩=false)
  (hq:∀w'',Q w''->∃x,((w''.drew.setCell ⟨b,0,none⟩ (.int .u32 1)).setCell ⟨b,1,none⟩ (.int .i32 0)).cell? ⟨b,3,none⟩=some (.iface 383 x)/\
   Calls Proofs.Tryz.prog 502 #[x,s] ((w''.drew.setCell ⟨b,0,none⟩ (.int .u32 1)).setCell ⟨b,1,none⟩ (.int .i32 0)) λe w'=>(∃v,e= .returned v)/\R e w'):
  Calls Proofs.Tryz.prog 393 #[.pointer (some ⟨b,0,none⟩),s] w R:=by
 have c:∀(fn:Fn) (first cap:Array Value) (w:World),(Instr.makeFunc fn first cap).run Proofs.Tryz.prog w= .ok (.func fn first cap) w:=λ_ _ _ _=>rfl;have W0:=aE2;go_enter Proofs.Tryz.func393,Proofs.Tryz.ntmps393
 go_wp2_with (first|(go_at_call 421;refine(aIN b _ w Q hd h0 h1 f0 f1).mono ?_;clear hd h0 h1 f0 f1;rintro e w' ⟨rfl,w'',zu,a⟩;obtain⟨x,hx,hc⟩:=hq w'' zu;rw[<-a] at hx hc;clear hq a)|(go_at_call 502;refine hc.mono ?_;rintro e d ⟨⟨v,rfl⟩,hr⟩))
 exact hr
variable{h:Ah}
def zw{id:Nat}{v:Aa}(e:A5 h (some 3) (.ptr (some (id,0)))=some v):∃cs,h[id]?=some (.cells cs)/\3<=cs.length/\v= .agg (cs.take 3):=by
 simp only[A5] at e;split at e
 .rename_i cs hc;simp only[FN] at e;split at e;.rename_i hl;cases e;exact⟨cs,hc,Ab,rfl⟩
  .cases e
 .cases e
def iN{id o:Nat}{v:Aa}{h1:Ah}(hv:v.cells=[v])(e:Cy h 1 (.ptr (some (id,o))) v=some h1):∃cs,h[id]?=some (.cells cs)/\o<cs.length/\h1=h.set id (.cells (cs.set o v)):=by
 simp only[Cy] at e;split at e
 .rename_i cs hc;split at e
  .rename_i hl;have a:o<cs.length:=Ab;have hs:cs.take o++[v]++cs.drop (o+1)=cs.set o v:=by rw[B1,Af a];simp
   rw[hv,hs] at e;cases e;exact⟨cs,hc,a,rfl⟩
  .cases e
 .cases e
def eF{cs:List Aa}{a b c:Aa}(e:Aa.agg (cs.take 3)= .agg [a,b,c]):cs[0]?=some a/\cs[1]?=some b/\cs[2]?=some c:=by
 injection e with e
 match cs,e with
 |a'::b'::c'::l,e=>simp at e;simp[e]
 |[_,_],e=>simp at e
 |[_],e=>simp at e
 |[],e=>simp at e
def Ů(n:Nat)(hs:FB cx (IT.run (B8 cx) n))(args:List Aa)(r:Aa)(h':Ah)(Bb:IT.step (B8 cx) (IT.run (B8 cx) n) (Y3 422 502 383 args) h=some (.ret,[r],h')):
  (∃fn c,cx.P.funcs[E0 393]?=some fn/\(fn.name== "runtime.NumGoroutine")=false/\fn.body=some c)/\
  ∀(U:Gh) (w:World) (cargs:Array Value),HK U h w->(∀g cs,cx.HO g=some cs->Df U cs g 0)->Bp U args cargs.toList->
   Calls cx.P (E0 393) cargs w λe w'=>match e with
    | .returned v=>∃U',HK U' h' w'/\LQ U w U' w'/\BT U' r v/\(cx.JM 393=true->∃s c,Jp U' w.heap.size w' s c v r)
    |_=>False:=by
 refine⟨⟨_,_,Proofs.Tryz.func393,rfl,rfl⟩,λU w cargs hi hg ha=>?_⟩;unfold Y3 at Bb;split at Bb
 .rename_i id s;simp only[IT.step] at Bb;cases R:A5 h (some 3) (.ptr (some (id,0))) with
  |none=>simp[R] at Bb
  |some v1=>
  simp only[R] at Bb;split at Bb
  .rename_i UP;have UP:=Aa.beq_eq UP;cases Q:Cy h 1 (.ptr (some (id,1))) (.int .i32 1) with
   |none=>simp[Q] at Bb
   |some h1=>
   simp only[Q] at Bb;cases O:IT.run (B8 cx) n (B8 cx 422 [.ptr (some (id,0))]) h1 with
   |none=>simp[O] at Bb
   |some R3=>
   simp only[O] at Bb;split at Bb
   .rename_i r3 h2 NB;cases NB;cases N:A5 h2 (some 3) (.ptr (some (id,0))) with
    |none=>simp[N] at Bb
    |some v4=>
    simp only[N] at Bb;split at Bb
    .rename_i d;have d:=Aa.beq_eq d;cases M:Cy h2 1 (.ptr (some (id,0))) (.int .u32 1) with
     |none=>simp[M] at Bb
     |some Z=>
     simp only[M] at Bb;cases L:Cy Z 1 (.ptr (some (id,1))) (.int .i32 0) with
     |none=>simp[L] at Bb
     |some G=>
     simp only[L] at Bb;cases K:A5 G none (.ptr (some (id,3))) with
     |none=>simp[K] at Bb
     |some v7=>
     simp only[K,EF] at Bb;cases f:xK 383 G [v7] with
     |none=>simp[f] at Bb
     |some R8=>
     obtain⟨T,u⟩:=R8;simp only[f] at Bb;have I:v7= .iface 383 u/\T=G:=by
      cases v7 with
      |iface t' v=>
       simp only[xK] at f;split at f;.rename_i ht;cases f;subst ht;exact⟨rfl,rfl⟩
       .cases f
      |_=>cases f
     obtain⟨rfl,rfl⟩:=I;cases H:IT.run (B8 cx) n (B8 cx 502 [u,s]) T with
     |none=>simp[H] at Bb
     |some R9=>
     simp only[H] at Bb;split at Bb
     .rename_i r9 h9 NB;cases NB;cases Bb;obtain⟨cs,Tg,XF,rfl⟩:=zw R;obtain⟨g0,g1,g2⟩:=eF UP;obtain⟨HJ,aIP,aOc,rfl⟩:=iN rfl Q;rw[Tg] at aIP;cases aIP;obtain⟨TH,JH,eH,rfl⟩:=zw N;obtain⟨Y,X,k2⟩:=eF d;obtain⟨aTS,aIQ,aOd,rfl⟩:=iN rfl M;rw[JH] at aIQ;cases aIQ;obtain⟨cs3,Ob,pV,rfl⟩:=iN rfl L;have pz:id<h2.length:=(Aq.1 JH).1;have aTT:id<h.length:=(Aq.1 Tg).1;rw[AY pz] at Ob;cases Ob;have k:((h2.set id (.cells (TH.set 0 (.int .u32 1)))).set id (.cells ((TH.set 0 (.int .u32 1)).set 1 (.int .i32 0))))[id]?=some (.cells ((TH.set 0 (.int .u32 1)).set 1 (.int .i32 0))):=AY (by simpa using pz);have J:((TH.set 0 (.int .u32 1)).set 1 (.int .i32 0))[3]?=some (.iface 383 u):=by simpa only[A5,k,FN] using K
      obtain⟨v0,us,C,⟨b,hm,rfl⟩,l,D4,rfl,y,hnil⟩:=ha;cases hnil;have a:cargs=#[.pointer (some ⟨b,0,none⟩),l]:=by apply HW;simpa using C
      subst a;obtain⟨f0,x0,c0,q⟩:=hi.TN Tg hm g0;obtain⟨f1,x1,c1,p⟩:=hi.TN Tg hm g1;cases q;cases p;obtain⟨Xa,cD⟩:=hi.aE1 Tg hm aOc (u:= .int .i32 1) (v:= .int .i32 1) rfl rfl;refine aE3 b l w (λw''=>∃i,HK i h2 w''/\LQ U w i w'') _ ?_ c0 c1 f0 f1 ?_
      .refine((hs.2 422 _ _ _ _ O).2 U _ #[.pointer (some ⟨b,0,none⟩)] Xa hg ⟨_,_,rfl,⟨b,hm,rfl⟩,rfl⟩).mono λe w' he=>?_;cases e with
       |returned v=>obtain⟨i,Xz,PV,_,_⟩:=he;have TF:=PV.le.mu _ _ hm;obtain⟨z0,y0,d0,o⟩:=Xz.TN JH TF Y;obtain⟨V,y1,d1,m⟩:=Xz.TN JH TF X;cases o;cases m;exact⟨⟨v,rfl⟩,⟨i,Xz,cD.trans PV⟩,d0,d1,z0,V⟩
       |_=>exact he.elim
      .rintro w'' ⟨i,Xz,PV⟩;have TF:=PV.le.mu _ _ hm;obtain⟨ũ,xM⟩:=Xz.LW ((Below.refl _ _).drew);obtain⟨A,F⟩:=ũ.aE1 JH TF aOd (u:= .int .u32 1) (v:= .int .u32 1) rfl rfl;obtain⟨j,E⟩:=A.aE1 (AY pz) TF pV (u:= .int .i32 0) (v:= .int .i32 0) rfl rfl;obtain⟨_,y3,d3,S,t,W⟩:=j.TN k TF J;subst t;refine⟨S,d3,?_⟩;have KK:=((PV.trans xM).trans F).trans E;refine((hs.2 502 _ _ _ _ H).2 i _ #[S,l] j (λg cs B=>Df.mono KK.le cs g 0 (hg g cs B)) ⟨_,_,rfl,W,_,_,rfl,BT.mono KK.le _ _ y,rfl⟩).mono λe w' he=>?_;cases e with
       |returned v=>obtain⟨U6,z,D,x,_⟩:=he;exact⟨⟨v,rfl⟩,U6,z,KK.trans D,x,λe=>by cases e⟩
       |_=>exact he.elim
     .cases Bb
    .cases Bb
   .cases Bb
  .cases Bb
 .cases Bb
end Go.Am
