/- Lemmas -/
import Derived.Test.YtbnogamdhadfcaaGreatDoorT15
import Derived.Conc.MuLone
set_option linter.unusedVariables false
set_option linter.unusedSimpArgs false
namespace Go.Am
open Go Go.RowKit Go.Shelf
section
variable{γ γ':Gh}{h:Ag}{w w':World}
theorem Gq.zt(hi:Gq γ h w){id g j:Nat}{cs:List Aa}(hcs:h[id]?=some (.cells cs))(hg:γ.mu id=some g)(hj:j<cs.length){u:Aa}{v:Value}(hv:BH γ u v)(h1:v.oneCell'=true):
  Gq γ (h.set id (.cells (cs.set j u))) (w.setCell ⟨g,j,none⟩ v)/\J7 γ w γ (w.setCell ⟨g,j,none⟩ v):=by
 obtain⟨us,e,fr,p1,p2,p3,p4⟩:=hi.cells id cs hcs g hg;have hl:cs.length<=us.size:=by have:=p3.length;simp at this;omega
 rw[setCell_eq_setRow w g j us e fr v p1];have eq1:(us.setIfInBounds j v).toList.take (cs.set j u).length=(us.toList.take cs.length).set j v:=by simp[List.take_set]
 refine L7 hi hcs hg p1 _ _ (by simp) (by simpa using p2) ?_ ?_
 .rw[eq1];refine Bb.Gi (by simp;omega) λi a x ha hx=>?_;by_cases hij:j=i;·subst hij;rw[AG (by omega)] at ha;rw[AG (by simp;omega)] at hx;cases ha;cases hx;exact hv
  .rw[Af hij] at ha hx;obtain⟨x',q1,q2⟩:=p3.get ha;rw[hx] at q1;cases q1;exact q2
 .rw[eq1];intro x hx;rcases Dk hx with hx|rfl
  .exact p4 x hx
  .exact h1
theorem Gq.QJ(hi:Gq γ h w){id g j:Nat}{cs:List Aa}{u:Aa}(hcs:h[id]?=some (.cells cs))(hg:γ.mu id=some g)(hj:cs[j]?=some u):
  w.frozen? ⟨g,j,none⟩=false/\∃x,w.cell? ⟨g,j,none⟩=some x/\BH γ u x:=by
 obtain⟨x,q1,_,q2⟩:=Mh hi hcs hg hj;obtain⟨us,e,fr,p1,p2,p3,p4⟩:=hi.cells id cs hcs g hg;have hl:cs.length<=us.size:=by have:=p3.length;simp at this;omega
 have:=(Ae.1 hj).1;refine⟨?_,x,q1,q2⟩;simp only[World.frozen?,p1];rcases p2 with rfl|kN
 .simp
 .simp;omega
end
abbrev aD2:Go.Conc.Locks.MuLink:={lock:=329,unlock:=330,ilock:=339,iunlock:=340,lockSlow:=351,unlockSlow:=354,disable:=347,enable:=349,acquire:=350,relMerge:=352,cas32:=348,add32:=353,tMutex:=303,tIMutex:=301,tPMutex:=355,tPIMutex:=370,tPI32:=372,tUP:=278,tNoCopy:=296,tU32:=199}
open Proofs in
theorem aD3:Go.Conc.Locks.MuLib Proofs.Tryz.prog aD2:=
 ⟨Tryz.func329,Tryz.func330,Tryz.func339,Tryz.func340,Tryz.func347,Tryz.func349,Tryz.func350,Tryz.func352,Tryz.func348,Tryz.func353,
  Tryz.underlying301,Tryz.runUnderlying301,Tryz.sizeOf301,Tryz.isAgg301,Tryz.zeroValue301,Tryz.underlying303,Tryz.runUnderlying303,Tryz.sizeOf303,Tryz.isAgg303,Tryz.zeroValue303,
  Tryz.underlying355,Tryz.runUnderlying355,Tryz.sizeOf355,Tryz.isAgg355,Tryz.zeroValue355,Tryz.underlying370,Tryz.runUnderlying370,Tryz.sizeOf370,Tryz.isAgg370,Tryz.zeroValue370,
  Tryz.underlying372,Tryz.runUnderlying372,Tryz.sizeOf372,Tryz.isAgg372,Tryz.zeroValue372,Tryz.underlying278,Tryz.runUnderlying278,Tryz.sizeOf278,Tryz.isAgg278,Tryz.zeroValue278,
  Tryz.underlying296,Tryz.runUnderlying296,Tryz.sizeOf296,Tryz.isAgg296,Tryz.zeroValue296,Tryz.underlying21,Tryz.runUnderlying21,Tryz.sizeOf21,Tryz.isAgg21,Tryz.zeroValue21,(by kernel_rfl)⟩
theorem UY(a:Addr)(x:Value)(u:FrameMode)(w:World)(hc:w.cell? a=some x)(hz:w.frozen? a=false):
  CallsD Proofs.Tryz.prog 331 #[.pointer (some a),.bool true] u w λe u' w'=>u'=u/\(e= .returned (.tuple #[])/\w'=w.drew.setCell a (.int .u32 1)):=by
 have Km:w.drew.cell? a=some x:=by go_simp
 have ZB:w.drew.frozen? a=false:=by go_simp
 have hst:=run_call_store (P:=Proofs.Tryz.prog) Proofs.Tryz.func341 (by kernel_rfl) (by kernel_rfl) (by kernel_rfl) (by kernel_rfl) (k:= .u32) (y:=1) Km ZB;go_enter_d Proofs.Tryz.func331,Proofs.Tryz.ntmps331
 go_wp2
 go_region_calls
 all_goals (go_end0;exact⟨rfl,rfl⟩)
theorem lE(a:Addr)(d:Int)(w:World)(h0:w.cell? a=some (.int .u32 d)):Calls Proofs.Tryz.prog 319 #[.pointer (some a)] w λe w'=>e= .returned (.bool (d != 0))/\w=w':=by
 have hl:=run_call_load (P:=Proofs.Tryz.prog) Proofs.Tryz.func328 (by kernel_rfl) (by kernel_rfl) (by kernel_rfl) .u32 (by kernel_rfl) h0;go_enter Proofs.Tryz.func319,Proofs.Tryz.ntmps319
 go_wp2
 go_ret
 exact⟨rfl,rfl⟩
abbrev fR(b:Nat)(r:Value)(w:World)(Q:World->Prop):Prop:=
 Calls Proofs.Tryz.prog 314 #[r] (w.setCell ⟨b,1,none⟩ (.int .i32 1)) λe w'=>(∃v,e= .returned v)/\Q w'/\w'.cell? ⟨b,0,none⟩=some (.int .u32 0)/\w'.cell? ⟨b,1,none⟩=some (.int .i32 1)/\w'.frozen? ⟨b,0,none⟩=false/\w'.frozen? ⟨b,1,none⟩=false
set_option maxRecDepth 100000 in
set_option maxHeartbeats 1600000 in
theorem h_(b:Nat)(r:Value)(w:World)(Q:World->Prop)(hd:fR b r w Q)
  (h0:w.cell? ⟨b,0,none⟩=some (.int .u32 0)) (h1:w.cell? ⟨b,1,none⟩=some (.int .i32 0))
  (f0:w.frozen? ⟨b,0,none⟩=false) (f1:w.frozen? ⟨b,1,none⟩=false):
  Calls Proofs.Tryz.prog 320 #[.pointer (some ⟨b,0,none⟩),.func (.func 314) #[r] #[]] w λe w'=>e= .returned (.tuple #[])/\
   ∃w'',Q w''/\w'=(w''.drew.setCell ⟨b,0,none⟩ (.int .u32 1)).setCell ⟨b,1,none⟩ (.int .i32 0):=by
 have l0:(w.setCell ⟨b,1,none⟩ (.int .i32 1)).cell? ⟨b,0,none⟩=some (.int .u32 0):=(World.cell?_setCell_other _ ⟨b,1,none⟩ ⟨b,0,none⟩ _ (by simp)).trans h0;have zb:∀(x:Bool) (w:World),(Op.unary .not (.bool x)).run Proofs.Tryz.prog w= .ok (.bool (!x)) w:=λ_ _=>rfl;go_enter_defers Proofs.Tryz.func320,Proofs.Tryz.ntmps320
 go_wp2_with (first|(go_at_call 329;refine(MuLone.lock_free aD3 ⟨b,1,none⟩ _ (by go_simp) (by go_simp)).mono ?_;rintro e w' ⟨rfl,rfl⟩)|(go_at_call 319;refine(lE _ 0 _ l0).mono ?_;rintro e w' ⟨rfl,rfl⟩)|(go_at_call 314;refine hd.mono ?_;rintro e w' ⟨⟨v,rfl⟩,hq,c0,c1,z0,z1⟩))
 refine leaves_cons (f:=331) (args:=#[.pointer (some ⟨b,0,none⟩),.bool true]) (by simp) (by simp[go_sem]) ?_;refine(UY ⟨b,0,none⟩ (.int .u32 0) .returning _ c0 z0).mono ?_;rintro e u' w'' ⟨rfl,rfl,rfl⟩;refine leaves_cons (f:=330) (args:=#[.pointer (some ⟨b,1,none⟩)]) (by simp[settle]) (by simp[go_sem]) ?_;refine(MuLone.unlock_deferred aD3 ⟨b,1,none⟩ _ _ ?_ (by simp[z1])).mono ?_;·exact(World.cell?_setCell_other _ ⟨b,0,none⟩ ⟨b,1,none⟩ _ (by simp)).trans (by rw[World.cell?_drew];exact c1)
 rintro e u' w'' ⟨rfl,rfl,rfl⟩;simp[Leaves,settle,results,Proofs.Tryz.results320];exact⟨_,hq,rfl⟩
set_option maxRecDepth 100000 in
set_option maxHeartbeats 1600000 in
theorem aD4(b:Nat)(r:Value)(w:World)(Q:World->Prop)(hd:fR b r w Q)
  (h0:w.cell? ⟨b,0,none⟩=some (.int .u32 0)) (h1:w.cell? ⟨b,1,none⟩=some (.int .i32 0))
  (f0:w.frozen? ⟨b,0,none⟩=false) (f1:w.frozen? ⟨b,1,none⟩=false):
  Calls Proofs.Tryz.prog 313 #[.pointer (some ⟨b,0,none⟩),.func (.func 314) #[r] #[]] w λe w'=>e= .returned (.tuple #[])/\
   ∃w'',Q w''/\w'=(w''.drew.setCell ⟨b,0,none⟩ (.int .u32 1)).setCell ⟨b,1,none⟩ (.int .i32 0):=by
 have zb:∀(x:Bool) (w:World),(Op.unary .not (.bool x)).run Proofs.Tryz.prog w= .ok (.bool (!x)) w:=λ_ _=>rfl;go_enter Proofs.Tryz.func313,Proofs.Tryz.ntmps313
 go_wp2_with (first|(go_at_call 319;refine(lE _ 0 _ h0).mono ?_;rintro e w' ⟨rfl,rfl⟩)|(go_at_call 320;refine(h_ b r w Q hd h0 h1 f0 f1).mono ?_;rintro e w' ⟨rfl,w'',hq,rfl⟩))
 go_end0
 exact⟨rfl,w'',hq,rfl⟩
theorem zu(x:Value)(w:World):(method 511 349 x "Replace").run Proofs.Tryz.prog w= .ok (388,x) w:=by kernel_rfl
set_option maxRecDepth 100000 in
set_option maxHeartbeats 1600000 in
theorem zw(b:Nat)(s:Value)(w:World)(Q:World->Prop)(R:Ending->World->Prop)(hd:fR b (.pointer (some ⟨b,0,none⟩)) w Q)
  (h0:w.cell? ⟨b,0,none⟩=some (.int .u32 0)) (h1:w.cell? ⟨b,1,none⟩=some (.int .i32 0))
  (f0:w.frozen? ⟨b,0,none⟩=false) (f1:w.frozen? ⟨b,1,none⟩=false)
  (hq:∀w'',Q w''->∃x,((w''.drew.setCell ⟨b,0,none⟩ (.int .u32 1)).setCell ⟨b,1,none⟩ (.int .i32 0)).cell? ⟨b,3,none⟩=some (.iface 349 x)/\
   Calls Proofs.Tryz.prog 388 #[x,s] ((w''.drew.setCell ⟨b,0,none⟩ (.int .u32 1)).setCell ⟨b,1,none⟩ (.int .i32 0)) λe w'=>(∃v,e= .returned v)/\R e w'):
  Calls Proofs.Tryz.prog 295 #[.pointer (some ⟨b,0,none⟩),s] w R:=by
 have hmf:∀(fn:Fn) (first cap:Array Value) (w:World),(Instr.makeFunc fn first cap).run Proofs.Tryz.prog w= .ok (.func fn first cap) w:=λ_ _ _ _=>rfl;have hin:=zu;go_enter Proofs.Tryz.func295,Proofs.Tryz.ntmps295
 go_wp2_with (first|(go_at_call 313;refine(aD4 b _ w Q hd h0 h1 f0 f1).mono ?_;clear hd h0 h1 f0 f1;rintro e w' ⟨rfl,w'',wL,hw'⟩;obtain⟨x,hx,hc⟩:=hq w'' wL;rw[<-hw'] at hx hc;clear hq hw')|(go_at_call 388;refine hc.mono ?_;rintro e w2 ⟨⟨v,rfl⟩,hr⟩))
 exact hr
variable{h:Ag}
theorem wM{id:Nat}{v:Aa}(e:A9 h (some 3) (.ptr (some (id,0)))=some v):∃cs,h[id]?=some (.cells cs)/\3<=cs.length/\v= .agg (cs.take 3):=by
 simp only[A9] at e;split at e
 .rename_i cs hc;simp only[ER] at e;split at e;·rename_i hl;cases e;exact⟨cs,hc,by omega,rfl⟩
  .cases e
 .cases e
theorem Yt{id o:Nat}{v:Aa}{h1:Ag}(hv:v.cells=[v])(e:Cd h 1 (.ptr (some (id,o))) v=some h1):∃cs,h[id]?=some (.cells cs)/\o<cs.length/\h1=h.set id (.cells (cs.set o v)):=by
 simp only[Cd] at e;split at e
 .rename_i cs hc;split at e
  .rename_i hl;have hlo:o<cs.length:=by omega
   have hs:cs.take o++[v]++cs.drop (o+1)=cs.set o v:=by rw[BZ,if_pos hlo];simp
   rw[hv,hs] at e;cases e;exact⟨cs,hc,hlo,rfl⟩
  .cases e
 .cases e
theorem Xq{cs:List Aa}{a b c:Aa}(e:Aa.agg (cs.take 3)= .agg [a,b,c]):cs[0]?=some a/\cs[1]?=some b/\cs[2]?=some c:=by
 injection e with e
 match cs,e with
 |a'::b'::c'::l,e=>simp at e;simp[e]
 |[_,_],e=>simp at e
 |[_],e=>simp at e
 |[],e=>simp at e
set_option maxHeartbeats 1000000 in
theorem ic(n:Nat)(hs:EF cx (IT.run (B5 cx) n))(args:List Aa)(r:Aa)(h':Ag)(AV:IT.step (B5 cx) (IT.run (B5 cx) n) (UX 314 388 349 args) h=some (.ret,[r],h')):
  (∃fn c,cx.P.funcs[Ea 295]?=some fn/\(fn.name== "runtime.NumGoroutine")=false/\fn.body=some c)/\
  ∀(γ:Gh) (w:World) (cargs:Array Value),Gq γ h w->(∀g cs,cx.Gg g=some cs->CJ γ cs g 0)->Bb γ args cargs.toList->
   Calls cx.P (Ea 295) cargs w λe w'=>match e with
    | .returned v=>∃γ',Gq γ' h' w'/\J7 γ w γ' w'/\BH γ' r v/\(cx.Io 295=true->∃s c,HY γ' w.heap.size w' s c v r)
    |_=>False:=by
 refine⟨⟨_,_,Proofs.Tryz.func295,rfl,rfl⟩,λγ w cargs hi hg ha=>?_⟩;unfold UX at AV;split at AV
 .rename_i id s;simp only[IT.step] at AV;cases e1:A9 h (some 3) (.ptr (some (id,0))) with
  |none=>simp[e1] at AV
  |some v1=>
  simp only[e1] at AV;split at AV
  .rename_i Tp;have Tp:=Aa.UN Tp;cases e2:Cd h 1 (.ptr (some (id,1))) (.int .i32 1) with
   |none=>simp[e2] at AV
   |some h1=>
   simp only[e2] at AV;cases e3:IT.run (B5 cx) n (B5 cx 314 [.ptr (some (id,0))]) h1 with
   |none=>simp[e3] at AV
   |some R3=>
   simp only[e3] at AV;split at AV
   .rename_i r3 h2 Jo;cases Jo;cases e4:A9 h2 (some 3) (.ptr (some (id,0))) with
    |none=>simp[e4] at AV
    |some v4=>
    simp only[e4] at AV;split at AV
    .rename_i hb4;have hb4:=Aa.UN hb4;cases e5:Cd h2 1 (.ptr (some (id,0))) (.int .u32 1) with
     |none=>simp[e5] at AV
     |some h3=>
     simp only[e5] at AV;cases e6:Cd h3 1 (.ptr (some (id,1))) (.int .i32 0) with
     |none=>simp[e6] at AV
     |some h4=>
     simp only[e6] at AV;cases e7:A9 h4 none (.ptr (some (id,3))) with
     |none=>simp[e7] at AV
     |some v7=>
     simp only[e7,Ed] at AV;cases e8:fO 349 h4 [v7] with
     |none=>simp[e8] at AV
     |some R8=>
     obtain⟨h8,u⟩:=R8;simp only[e8] at AV;have e8':v7= .iface 349 u/\h8=h4:=by
      cases v7 with
      |iface t' v=>
       simp only[fO] at e8;split at e8;·rename_i ht;cases e8;subst ht;exact⟨rfl,rfl⟩
       .cases e8
      |_=>cases e8
     obtain⟨rfl,rfl⟩:=e8';cases e9:IT.run (B5 cx) n (B5 cx 388 [u,s]) h8 with
     |none=>simp[e9] at AV
     |some R9=>
     simp only[e9] at AV;split at AV
     .rename_i r9 h9 Jo;cases Jo;cases AV;obtain⟨cs,Qk,TZ,rfl⟩:=wM e1;obtain⟨g0,g1,g2⟩:=Xq Tp;obtain⟨FI,aD6,aJI,rfl⟩:=Yt rfl e2;rw[Qk] at aD6;cases aD6;obtain⟨QD,HZ,Xr,rfl⟩:=wM e4;obtain⟨k0,k1,k2⟩:=Xq hb4;obtain⟨aPi,aD7,aJJ,rfl⟩:=Yt rfl e5;rw[HZ] at aD7;cases aD7;obtain⟨cs3,L2,ZH,rfl⟩:=Yt rfl e6;have qU:id<h2.length:=(Ae.1 HZ).1;have aPj:id<h.length:=(Ae.1 Qk).1;rw[AG qU] at L2;cases L2;have hc4:((h2.set id (.cells (QD.set 0 (.int .u32 1)))).set id (.cells ((QD.set 0 (.int .u32 1)).set 1 (.int .i32 0))))[id]?=some (.cells ((QD.set 0 (.int .u32 1)).set 1 (.int .i32 0))):=AG (by simpa using qU);have e7':((QD.set 0 (.int .u32 1)).set 1 (.int .i32 0))[3]?=some (.iface 349 u):=by simpa only[A9,hc4,ER] using e7
      obtain⟨v0,us,ud,⟨b,hm,rfl⟩,sv,Dm,rfl,tw,hnil⟩:=ha;cases hnil;have hcargs:cargs=#[.pointer (some ⟨b,0,none⟩),sv]:=by apply Jm;simpa using ud
      subst hcargs;obtain⟨f0,x0,c0,rx0⟩:=hi.QJ Qk hm g0;obtain⟨f1,x1,c1,rx1⟩:=hi.QJ Qk hm g1;cases rx0;cases rx1;obtain⟨Tr,WD⟩:=hi.zt Qk hm aJI (u:= .int .i32 1) (v:= .int .i32 1) rfl rfl;refine zw b sv w (λw''=>∃γ2,Gq γ2 h2 w''/\J7 γ w γ2 w'') _ ?_ c0 c1 f0 f1 ?_
      .refine((hs.2 314 _ _ _ _ e3).2 γ _ #[.pointer (some ⟨b,0,none⟩)] Tr hg ⟨_,_,rfl,⟨b,hm,rfl⟩,rfl⟩).mono λe w' he=>?_;cases e with
       |returned v=>obtain⟨γ2,TT,Nz,_,_⟩:=he;have Tl:=Nz.le.mu _ _ hm;obtain⟨z0,y0,d0,ry0⟩:=TT.QJ HZ Tl k0;obtain⟨z1,y1,d1,ry1⟩:=TT.QJ HZ Tl k1;cases ry0;cases ry1;exact⟨⟨v,rfl⟩,⟨γ2,TT,WD.trans Nz⟩,d0,d1,z0,z1⟩
       |_=>exact he.elim
      .rintro w'' ⟨γ2,TT,Nz⟩;have Tl:=Nz.le.mu _ _ hm;obtain⟨gw,fQ⟩:=TT.Ka ((Below.refl _ _).drew);obtain⟨hi4,ha4⟩:=gw.zt HZ Tl aJJ (u:= .int .u32 1) (v:= .int .u32 1) rfl rfl;obtain⟨hi5,ha5⟩:=hi4.zt (AG qU) Tl ZH (u:= .int .i32 0) (v:= .int .i32 0) rfl rfl;obtain⟨_,y3,d3,uu,hy3,ru⟩:=hi5.QJ hc4 Tl e7';subst hy3;refine⟨uu,d3,?_⟩;have JE:=((Nz.trans fQ).trans ha4).trans ha5;refine((hs.2 388 _ _ _ _ e9).2 γ2 _ #[uu,sv] hi5 (λg cs ua=>CJ.mono JE.le cs g 0 (hg g cs ua)) ⟨_,_,rfl,ru,_,_,rfl,BH.mono JE.le _ _ tw,rfl⟩).mono λe w' he=>?_;cases e with
       |returned v=>obtain⟨γ6,hi6,ha6,hv6,_⟩:=he;exact⟨⟨v,rfl⟩,γ6,hi6,JE.trans ha6,hv6,λe=>by cases e⟩
       |_=>exact he.elim
     .cases AV
    .cases AV
   .cases AV
  .cases AV
 .cases AV
end Go.Am
