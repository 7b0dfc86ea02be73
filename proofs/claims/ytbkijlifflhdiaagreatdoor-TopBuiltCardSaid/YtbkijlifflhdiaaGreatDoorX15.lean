/- Lemmas -/
import Derived.Test.YtbkijlifflhdiaaGreatDoorX14
import Derived.Conc.MuLone
set_option linter.all false
set_option maxHeartbeats 0
set_option maxRecDepth 100000
namespace Go.Am
open Go Go.RowKit Go.Shelf
section
variable{U U':Gh}{h:Ah}{w w':World}
def GO.rk(hi:GO U h w){id g j:Nat}{cs:List Aa}(hcs:h[id]?=some (.cells cs))(hg:U.mu id=some g)(hj:j<cs.length){u:Aa}{v:Value}(hv:Bz U u v)(h1:v.oneCell'=true):
  GO U (h.set id (.cells (cs.set j u))) (w.setCell ⟨g,j,none⟩ v)/\KF U w U (w.setCell ⟨g,j,none⟩ v):=by
 obtain⟨us,e,fr,k,n,f,m⟩:=hi.cells id cs hcs g hg;have hl:cs.length<=us.size:=by have:=f.length;simp at this;omega
 rw[setCell_eq_setRow w g j us e fr v k];have c:(us.setIfInBounds j v).toList.take (cs.set j u).length=(us.toList.take cs.length).set j v:=by simp[List.take_set]
 refine LZ hi hcs hg k _ _ Aw (by simpa using n) ?_ ?_
 .rw[c];refine AS.Gf ER λi a x ha hx=>?_;by_cases b:j=i;.subst b;rw[AH Ab] at ha;rw[AH ER] at hx;cases ha;cases hx;exact hv
  .rw[An b] at ha hx;obtain⟨x',d,l⟩:=f.get ha;rw[hx] at d;cases d;exact l
 .rw[c];intro x hx;rcases CU hx with hx|rfl
  .exact m x hx
  .exact h1
def GO.Qd(hi:GO U h w){id g j:Nat}{cs:List Aa}{u:Aa}(hcs:h[id]?=some (.cells cs))(hg:U.mu id=some g)(hj:cs[j]?=some u):
  w.frozen? ⟨g,j,none⟩=false/\∃x,w.cell? ⟨g,j,none⟩=some x/\Bz U u x:=by
 obtain⟨x,b,_,a⟩:=Md hi hcs hg hj;obtain⟨us,e,fr,f,d,c,i⟩:=hi.cells id cs hcs g hg;have hl:cs.length<=us.size:=by have:=c.length;simp at this;omega
 have:=(Ae.1 hj).1;refine⟨?_,x,b,a⟩;simp only[World.frozen?,f];rcases d with rfl|iK
 .simp
 .simp;omega
end
abbrev å:Go.Conc.Locks.MuLink:={lock:=233,unlock:=234,ilock:=245,iunlock:=246,lockSlow:=257,unlockSlow:=260,disable:=253,enable:=255,acquire:=256,relMerge:=258,cas32:=254,add32:=259,tMutex:=252,tIMutex:=250,tPMutex:=308,tPIMutex:=325,tPI32:=327,tUP:=224,tNoCopy:=245,tU32:=150}
open Proofs in
def æ:Go.Conc.Locks.MuLib Proofs.Tryz.prog å:=
 ⟨Tryz.func233,Tryz.func234,Tryz.func245,Tryz.func246,Tryz.func253,Tryz.func255,Tryz.func256,Tryz.func258,Tryz.func254,Tryz.func259,
  Tryz.underlying250,Tryz.runUnderlying250,Tryz.sizeOf250,Tryz.isAgg250,Tryz.zeroValue250,Tryz.underlying252,Tryz.runUnderlying252,Tryz.sizeOf252,Tryz.isAgg252,Tryz.zeroValue252,
  Tryz.underlying308,Tryz.runUnderlying308,Tryz.sizeOf308,Tryz.isAgg308,Tryz.zeroValue308,Tryz.underlying325,Tryz.runUnderlying325,Tryz.sizeOf325,Tryz.isAgg325,Tryz.zeroValue325,
  Tryz.underlying327,Tryz.runUnderlying327,Tryz.sizeOf327,Tryz.isAgg327,Tryz.zeroValue327,Tryz.underlying224,Tryz.runUnderlying224,Tryz.sizeOf224,Tryz.isAgg224,Tryz.zeroValue224,
  Tryz.underlying245,Tryz.runUnderlying245,Tryz.sizeOf245,Tryz.isAgg245,Tryz.zeroValue245,Tryz.underlying21,Tryz.runUnderlying21,Tryz.sizeOf21,Tryz.isAgg21,Tryz.zeroValue21,A0⟩
def T5(a:Addr)(x:Value)(u:FrameMode)(w:World)(hc:w.cell? a=some x)(hz:w.frozen? a=false):
  CallsD Proofs.Tryz.prog 235 #[.pointer (some a),.bool true] u w λe b w'=>b=u/\(e= .returned (.tuple #[])/\w'=w.drew.setCell a (.int .u32 1)):=by
 have Rf:w.drew.cell? a=some x:=by go_simp
 have Vl:w.drew.frozen? a=false:=by go_simp
 have HW:=run_call_store (P:=Proofs.Tryz.prog) Proofs.Tryz.func247 A0 A0 A0 A0 (k:= .u32) (y:=1) Rf Vl;go_enter_d Proofs.Tryz.func235,Proofs.Tryz.ntmps235
 go_wp2
 go_region_calls
 all_goals (go_end0;exact⟨rfl,rfl⟩)
def i7(a:Addr)(d:Int)(w:World)(h0:w.cell? a=some (.int .u32 d)):Calls Proofs.Tryz.prog 223 #[.pointer (some a)] w λe w'=>e= .returned (.bool (d != 0))/\w=w':=by
 have hl:=run_call_load (P:=Proofs.Tryz.prog) Proofs.Tryz.func232 A0 A0 A0 .u32 A0 h0;go_enter Proofs.Tryz.func223,Proofs.Tryz.ntmps223
 go_wp2
 go_ret
 exact⟨rfl,rfl⟩
abbrev dJ(b:Nat)(r:Value)(w:World)(Q:World->Prop):Prop:=
 Calls Proofs.Tryz.prog 212 #[r] (w.setCell ⟨b,1,none⟩ (.int .i32 1)) λe w'=>(∃v,e= .returned v)/\Q w'/\w'.cell? ⟨b,0,none⟩=some (.int .u32 0)/\w'.cell? ⟨b,1,none⟩=some (.int .i32 1)/\w'.frozen? ⟨b,0,none⟩=false/\w'.frozen? ⟨b,1,none⟩=false
def zW(b:Nat)(r:Value)(w:World)(Q:World->Prop)(hd:dJ b r w Q)
  (h0:w.cell? ⟨b,0,none⟩=some (.int .u32 0)) (h1:w.cell? ⟨b,1,none⟩=some (.int .i32 0))
  (f0:w.frozen? ⟨b,0,none⟩=false) (f1:w.frozen? ⟨b,1,none⟩=false):
  Calls Proofs.Tryz.prog 224 #[.pointer (some ⟨b,0,none⟩),.func (.func 212) #[r] #[]] w λe w'=>e= .returned (.tuple #[])/\
   ∃w'',Q w''/\w'=(w''.drew.setCell ⟨b,0,none⟩ (.int .u32 1)).setCell ⟨b,1,none⟩ (.int .i32 0):=by
 have l0:(w.setCell ⟨b,1,none⟩ (.int .i32 1)).cell? ⟨b,0,none⟩=some (.int .u32 0):=(World.cell?_setCell_other _ ⟨b,1,none⟩ ⟨b,0,none⟩ _ Aw).trans h0;have qo:∀(x:Bool) (w:World),(Op.unary .not (.bool x)).run Proofs.Tryz.prog w= .ok (.bool (!x)) w:=λ_ _=>rfl;go_enter_defers Proofs.Tryz.func224,Proofs.Tryz.ntmps224
 go_wp2_with (first|(go_at_call 233;refine(MuLone.lock_free æ ⟨b,1,none⟩ _ (by go_simp) (by go_simp)).mono ?_;rintro e w' ⟨rfl,rfl⟩)|(go_at_call 223;refine(i7 _ 0 _ l0).mono ?_;rintro e w' ⟨rfl,rfl⟩)|(go_at_call 212;refine hd.mono ?_;rintro e w' ⟨⟨v,rfl⟩,hq,g,d,z0,a⟩))
 refine leaves_cons (f:=235) (args:=#[.pointer (some ⟨b,0,none⟩),.bool true]) Aw (by simp[go_sem]) ?_;refine(T5 ⟨b,0,none⟩ (.int .u32 0) .returning _ g z0).mono ?_;rintro e c w'' ⟨rfl,rfl,rfl⟩;refine leaves_cons (f:=234) (args:=#[.pointer (some ⟨b,1,none⟩)]) (by simp[settle]) (by simp[go_sem]) ?_;refine(MuLone.unlock_deferred æ ⟨b,1,none⟩ _ _ ?_ (by simp[a])).mono ?_;.exact(World.cell?_setCell_other _ ⟨b,0,none⟩ ⟨b,1,none⟩ _ Aw).trans (by rw[World.cell?_drew];exact d)
 rintro e c w'' ⟨rfl,rfl,rfl⟩;simp[Leaves,settle,results,Proofs.Tryz.results224];exact⟨_,hq,rfl⟩
def ç(b:Nat)(r:Value)(w:World)(Q:World->Prop)(hd:dJ b r w Q)
  (h0:w.cell? ⟨b,0,none⟩=some (.int .u32 0)) (h1:w.cell? ⟨b,1,none⟩=some (.int .i32 0))
  (f0:w.frozen? ⟨b,0,none⟩=false) (f1:w.frozen? ⟨b,1,none⟩=false):
  Calls Proofs.Tryz.prog 211 #[.pointer (some ⟨b,0,none⟩),.func (.func 212) #[r] #[]] w λe w'=>e= .returned (.tuple #[])/\
   ∃w'',Q w''/\w'=(w''.drew.setCell ⟨b,0,none⟩ (.int .u32 1)).setCell ⟨b,1,none⟩ (.int .i32 0):=by
 have qo:∀(x:Bool) (w:World),(Op.unary .not (.bool x)).run Proofs.Tryz.prog w= .ok (.bool (!x)) w:=λ_ _=>rfl;go_enter Proofs.Tryz.func211,Proofs.Tryz.ntmps211
 go_wp2_with (first|(go_at_call 223;refine(i7 _ 0 _ h0).mono ?_;rintro e w' ⟨rfl,rfl⟩)|(go_at_call 224;refine(zW b r w Q hd h0 h1 f0 f1).mono ?_;rintro e w' ⟨rfl,w'',hq,rfl⟩))
 go_end0
 exact⟨rfl,w'',hq,rfl⟩
def rl(x:Value)(w:World):(method 466 293 x "Replace").run Proofs.Tryz.prog w= .ok (296,x) w:=by kernel_rfl
def rp(b:Nat)(s:Value)(w:World)(Q:World->Prop)(R:Ending->World->Prop)(hd:dJ b (.pointer (some ⟨b,0,none⟩)) w Q)
  (h0:w.cell? ⟨b,0,none⟩=some (.int .u32 0)) (h1:w.cell? ⟨b,1,none⟩=some (.int .i32 0))
  (f0:w.frozen? ⟨b,0,none⟩=false) (f1:w.frozen? ⟨b,1,none⟩=false)
  (hq:∀w'',Q w''->∃x,((w''.drew.setCell ⟨b,0,none⟩ (.int .u32 1)).setCell ⟨b,1,none⟩ (.int .i32 0)).cell? ⟨b,3,none⟩=some (.iface 293 x)/\
   Calls Proofs.Tryz.prog 296 #[x,s] ((w''.drew.setCell ⟨b,0,none⟩ (.int .u32 1)).setCell ⟨b,1,none⟩ (.int .i32 0)) λe w'=>(∃v,e= .returned v)/\R e w'):
  Calls Proofs.Tryz.prog 193 #[.pointer (some ⟨b,0,none⟩),s] w R:=by
 have a:∀(fn:Fn) (first cap:Array Value) (w:World),(Instr.makeFunc fn first cap).run Proofs.Tryz.prog w= .ok (.func fn first cap) w:=λ_ _ _ _=>rfl;have YL:=rl;go_enter Proofs.Tryz.func193,Proofs.Tryz.ntmps193
 go_wp2_with (first|(go_at_call 211;refine(ç b _ w Q hd h0 h1 f0 f1).mono ?_;clear hd h0 h1 f0 f1;rintro e w' ⟨rfl,w'',rq,zi⟩;obtain⟨x,hx,hc⟩:=hq w'' rq;rw[<-zi] at hx hc;clear hq zi)|(go_at_call 296;refine hc.mono ?_;rintro e w2 ⟨⟨v,rfl⟩,hr⟩))
 exact hr
variable{h:Ah}
def sZ{id:Nat}{v:Aa}(e:Bq h (some 3) (.ptr (some (id,0)))=some v):∃cs,h[id]?=some (.cells cs)/\3<=cs.length/\v= .agg (cs.take 3):=by
 simp only[Bq] at e;split at e
 .rename_i cs hc;simp only[EJ] at e;split at e;.rename_i hl;cases e;exact⟨cs,hc,Ab,rfl⟩
  .cases e
 .cases e
def XH{id o:Nat}{v:Aa}{h1:Ah}(hv:v.cells=[v])(e:CM h 1 (.ptr (some (id,o))) v=some h1):∃cs,h[id]?=some (.cells cs)/\o<cs.length/\h1=h.set id (.cells (cs.set o v)):=by
 simp only[CM] at e;split at e
 .rename_i cs hc;split at e
  .rename_i hl;have a:o<cs.length:=Ab;have hs:cs.take o++[v]++cs.drop (o+1)=cs.set o v:=by rw[Cd,Ad a];simp
   rw[hv,hs] at e;cases e;exact⟨cs,hc,a,rfl⟩
  .cases e
 .cases e
def Wl{cs:List Aa}{a b c:Aa}(e:Aa.agg (cs.take 3)= .agg [a,b,c]):cs[0]?=some a/\cs[1]?=some b/\cs[2]?=some c:=by
 injection e with e
 match cs,e with
 |a'::b'::c'::l,e=>simp at e;simp[e]
 |[_,_],e=>simp at e
 |[_],e=>simp at e
 |[],e=>simp at e
def zX(n:Nat)(hs:EE cx (IT.run (B2 cx) n))(args:List Aa)(r:Aa)(h':Ah)(AE:IT.step (B2 cx) (IT.run (B2 cx) n) (T4 212 296 293 args) h=some (.ret,[r],h')):
  (∃fn c,cx.P.funcs[Ez 193]?=some fn/\(fn.name== "runtime.NumGoroutine")=false/\fn.body=some c)/\
  ∀(U:Gh) (w:World) (cargs:Array Value),GO U h w->(∀g cs,cx.Gq g=some cs->CD U cs g 0)->AS U args cargs.toList->
   Calls cx.P (Ez 193) cargs w λe w'=>match e with
    | .returned v=>∃U',GO U' h' w'/\KF U w U' w'/\Bz U' r v/\(cx.IJ 193=true->∃s c,HY U' w.heap.size w' s c v r)
    |_=>False:=by
 refine⟨⟨_,_,Proofs.Tryz.func193,rfl,rfl⟩,λU w cargs hi hg ha=>?_⟩;unfold T4 at AE;split at AE
 .rename_i id s;simp only[IT.step] at AE;cases M:Bq h (some 3) (.ptr (some (id,0))) with
  |none=>simp[M] at AE
  |some v1=>
  simp only[M] at AE;split at AE
  .rename_i QZ;have QZ:=Aa.TT QZ;cases L:CM h 1 (.ptr (some (id,1))) (.int .i32 1) with
   |none=>simp[L] at AE
   |some h1=>
   simp only[L] at AE;cases K:IT.run (B2 cx) n (B2 cx 212 [.ptr (some (id,0))]) h1 with
   |none=>simp[K] at AE
   |some R3=>
   simp only[K] at AE;split at AE
   .rename_i r3 h2 I8;cases I8;cases J:Bq h2 (some 3) (.ptr (some (id,0))) with
    |none=>simp[J] at AE
    |some v4=>
    simp only[J] at AE;split at AE
    .rename_i è;have è:=Aa.TT è;cases I:CM h2 1 (.ptr (some (id,0))) (.int .u32 1) with
     |none=>simp[I] at AE
     |some V=>
     simp only[I] at AE;cases H:CM V 1 (.ptr (some (id,1))) (.int .i32 0) with
     |none=>simp[H] at AE
     |some C=>
     simp only[H] at AE;cases G:Bq C none (.ptr (some (id,3))) with
     |none=>simp[G] at AE
     |some v7=>
     simp only[G,EC] at AE;cases d:dH 293 C [v7] with
     |none=>simp[d] at AE
     |some R8=>
     obtain⟨O,u⟩:=R8;simp only[d] at AE;have E:v7= .iface 293 u/\O=C:=by
      cases v7 with
      |iface t' v=>
       simp only[dH] at d;split at d;.rename_i ht;cases d;subst ht;exact⟨rfl,rfl⟩
       .cases d
      |_=>cases d
     obtain⟨rfl,rfl⟩:=E;cases D:IT.run (B2 cx) n (B2 cx 296 [u,s]) O with
     |none=>simp[D] at AE
     |some R9=>
     simp only[D] at AE;split at AE
     .rename_i r9 h9 I8;cases I8;cases AE;obtain⟨cs,Vt,Wk,rfl⟩:=sZ M;obtain⟨g0,g1,g2⟩:=Wl QZ;obtain⟨Gd,é,aCb,rfl⟩:=XH rfl L;rw[Vt] at é;cases é;obtain⟨P7,JB,YP,rfl⟩:=sZ J;obtain⟨T,S,k2⟩:=Wl è;obtain⟨aHB,ê,aCc,rfl⟩:=XH rfl I;rw[JB] at ê;cases ê;obtain⟨Z,Wm,jA,rfl⟩:=XH rfl H;have m8:id<h2.length:=(Ae.1 JB).1;have aHC:id<h.length:=(Ae.1 Vt).1;rw[AH m8] at Wm;cases Wm;have j:((h2.set id (.cells (P7.set 0 (.int .u32 1)))).set id (.cells ((P7.set 0 (.int .u32 1)).set 1 (.int .i32 0))))[id]?=some (.cells ((P7.set 0 (.int .u32 1)).set 1 (.int .i32 0))):=AH (by simpa using m8);have F:((P7.set 0 (.int .u32 1)).set 1 (.int .i32 0))[3]?=some (.iface 293 u):=by simpa only[Bq,j,EJ] using G
      obtain⟨v0,us,ke,⟨b,hm,rfl⟩,k,C6,rfl,jx,hnil⟩:=ha;cases hnil;have a:cargs=#[.pointer (some ⟨b,0,none⟩),k]:=by apply GC;simpa using ke
      subst a;obtain⟨f0,x0,c0,p⟩:=hi.Qd Vt hm g0;obtain⟨f1,x1,c1,o⟩:=hi.Qd Vt hm g1;cases p;cases o;obtain⟨yA,sU⟩:=hi.rk Vt hm aCb (u:= .int .i32 1) (v:= .int .i32 1) rfl rfl;refine rp b k w (λw''=>∃f,GO f h2 w''/\KF U w f w'') _ ?_ c0 c1 f0 f1 ?_
      .refine((hs.2 212 _ _ _ _ K).2 U _ #[.pointer (some ⟨b,0,none⟩)] yA hg ⟨_,_,rfl,⟨b,hm,rfl⟩,rfl⟩).mono λe w' he=>?_;cases e with
       |returned v=>obtain⟨f,YM,Pf,_,_⟩:=he;have TP:=Pf.le.mu _ _ hm;obtain⟨z0,y0,Y,m⟩:=YM.Qd JB TP T;obtain⟨Q,y1,X,l⟩:=YM.Qd JB TP S;cases m;cases l;exact⟨⟨v,rfl⟩,⟨f,YM,sU.trans Pf⟩,Y,X,z0,Q⟩
       |_=>exact he.elim
      .rintro w'' ⟨f,YM,Pf⟩;have TP:=Pf.le.mu _ _ hm;obtain⟨rj,sY⟩:=YM.KJ ((Below.refl _ _).drew);obtain⟨y,B⟩:=rj.rk JB TP aCc (u:= .int .u32 1) (v:= .int .u32 1) rfl rfl;obtain⟨i,A⟩:=y.rk (AH m8) TP jA (u:= .int .i32 0) (v:= .int .i32 0) rfl rfl;obtain⟨_,y3,W,N,q,R⟩:=i.Qd j TP F;subst q;refine⟨N,W,?_⟩;have IS:=((Pf.trans sY).trans B).trans A;refine((hs.2 296 _ _ _ _ D).2 f _ #[N,k] i (λg cs j_=>CD.mono IS.le cs g 0 (hg g cs j_)) ⟨_,_,rfl,R,_,_,rfl,Bz.mono IS.le _ _ jx,rfl⟩).mono λe w' he=>?_;cases e with
       |returned v=>obtain⟨U6,x,z,t,_⟩:=he;exact⟨⟨v,rfl⟩,U6,x,IS.trans z,t,λe=>by cases e⟩
       |_=>exact he.elim
     .cases AE
    .cases AE
   .cases AE
  .cases AE
 .cases AE
end Go.Am
