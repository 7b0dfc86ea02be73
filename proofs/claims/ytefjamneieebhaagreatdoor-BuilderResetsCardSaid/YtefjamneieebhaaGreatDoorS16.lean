/- Lemmas -/
import Derived.Test.YtefjamneieebhaaGreatDoorS15
import Derived.Conc.MuLone
set_option linter.unusedVariables false
set_option linter.unusedSimpArgs false
namespace Go.Am
open Go Go.RowKit Go.Shelf
section
variable{γ γ':Gh}{h:Ad}{w w':World}
theorem Gp.zp(hi:Gp γ h w){id g j:Nat}{cs:List Aa}(hcs:h[id]?=some (.cells cs))(hg:γ.mu id=some g)(hj:j<cs.length){u:Aa}{v:Value}(hv:BE γ u v)(h1:v.oneCell'=true):
  Gp γ (h.set id (.cells (cs.set j u))) (w.setCell ⟨g,j,none⟩ v)/\J3 γ w γ (w.setCell ⟨g,j,none⟩ v):=by
 obtain⟨us,e,fr,p1,p2,p3,p4⟩:=hi.cells id cs hcs g hg;have hl:cs.length<=us.size:=by have:=p3.length;simp at this;omega
 rw[setCell_eq_setRow w g j us e fr v p1];have eq1:(us.setIfInBounds j v).toList.take (cs.set j u).length=(us.toList.take cs.length).set j v:=by simp[List.take_set]
 refine Md hi hcs hg p1 _ _ (by simp) (by simpa using p2) ?_ ?_
 .rw[eq1];refine A9.Gg (by simp;omega) λi a x ha hx=>?_;by_cases hij:j=i;·subst hij;rw[AN (by omega)] at ha;rw[AN (by simp;omega)] at hx;cases ha;cases hx;exact hv
  .rw[Aj hij] at ha hx;obtain⟨x',q1,q2⟩:=p3.get ha;rw[hx] at q1;cases q1;exact q2
 .rw[eq1];intro x hx;rcases Dh hx with hx|rfl
  .exact p4 x hx
  .exact h1
theorem Gp.QQ(hi:Gp γ h w){id g j:Nat}{cs:List Aa}{u:Aa}(hcs:h[id]?=some (.cells cs))(hg:γ.mu id=some g)(hj:cs[j]?=some u):
  w.frozen? ⟨g,j,none⟩=false/\∃x,w.cell? ⟨g,j,none⟩=some x/\BE γ u x:=by
 obtain⟨x,q1,_,q2⟩:=Mm hi hcs hg hj;obtain⟨us,e,fr,p1,p2,p3,p4⟩:=hi.cells id cs hcs g hg;have hl:cs.length<=us.size:=by have:=p3.length;simp at this;omega
 have:=(Ah.1 hj).1;refine⟨?_,x,q1,q2⟩;simp only[World.frozen?,p1];rcases p2 with rfl|kZ
 .simp
 .simp;omega
end
abbrev aD7:Go.Conc.Locks.MuLink:={lock:=318,unlock:=319,ilock:=330,iunlock:=331,lockSlow:=342,unlockSlow:=345,disable:=338,enable:=340,acquire:=341,relMerge:=343,cas32:=339,add32:=344,tMutex:=295,tIMutex:=293,tPMutex:=349,tPIMutex:=366,tPI32:=368,tUP:=273,tNoCopy:=288,tU32:=194}
open Proofs in
theorem aD8:Go.Conc.Locks.MuLib Proofs.Tryz.prog aD7:=
 ⟨Tryz.func318,Tryz.func319,Tryz.func330,Tryz.func331,Tryz.func338,Tryz.func340,Tryz.func341,Tryz.func343,Tryz.func339,Tryz.func344,
  Tryz.underlying293,Tryz.runUnderlying293,Tryz.sizeOf293,Tryz.isAgg293,Tryz.zeroValue293,Tryz.underlying295,Tryz.runUnderlying295,Tryz.sizeOf295,Tryz.isAgg295,Tryz.zeroValue295,
  Tryz.underlying349,Tryz.runUnderlying349,Tryz.sizeOf349,Tryz.isAgg349,Tryz.zeroValue349,Tryz.underlying366,Tryz.runUnderlying366,Tryz.sizeOf366,Tryz.isAgg366,Tryz.zeroValue366,
  Tryz.underlying368,Tryz.runUnderlying368,Tryz.sizeOf368,Tryz.isAgg368,Tryz.zeroValue368,Tryz.underlying273,Tryz.runUnderlying273,Tryz.sizeOf273,Tryz.isAgg273,Tryz.zeroValue273,
  Tryz.underlying288,Tryz.runUnderlying288,Tryz.sizeOf288,Tryz.isAgg288,Tryz.zeroValue288,Tryz.underlying21,Tryz.runUnderlying21,Tryz.sizeOf21,Tryz.isAgg21,Tryz.zeroValue21,(by kernel_rfl)⟩
theorem U4(a:Addr)(x:Value)(u:FrameMode)(w:World)(hc:w.cell? a=some x)(hz:w.frozen? a=false):
  CallsD Proofs.Tryz.prog 320 #[.pointer (some a),.bool true] u w λe u' w'=>u'=u/\(e= .returned (.tuple #[])/\w'=w.drew.setCell a (.int .u32 1)):=by
 have JU:w.drew.cell? a=some x:=by go_simp
 have ZF:w.drew.frozen? a=false:=by go_simp
 have hst:=run_call_store (P:=Proofs.Tryz.prog) Proofs.Tryz.func332 (by kernel_rfl) (by kernel_rfl) (by kernel_rfl) (by kernel_rfl) (k:= .u32) (y:=1) JU ZF;go_enter_d Proofs.Tryz.func320,Proofs.Tryz.ntmps320
 go_wp2
 go_region_calls
 all_goals (go_end0;exact⟨rfl,rfl⟩)
theorem lO(a:Addr)(d:Int)(w:World)(h0:w.cell? a=some (.int .u32 d)):Calls Proofs.Tryz.prog 308 #[.pointer (some a)] w λe w'=>e= .returned (.bool (d != 0))/\w=w':=by
 have hl:=run_call_load (P:=Proofs.Tryz.prog) Proofs.Tryz.func317 (by kernel_rfl) (by kernel_rfl) (by kernel_rfl) .u32 (by kernel_rfl) h0;go_enter Proofs.Tryz.func308,Proofs.Tryz.ntmps308
 go_wp2
 go_ret
 exact⟨rfl,rfl⟩
abbrev gG(b:Nat)(r:Value)(w:World)(Q:World->Prop):Prop:=
 Calls Proofs.Tryz.prog 302 #[r] (w.setCell ⟨b,1,none⟩ (.int .i32 1)) λe w'=>(∃v,e= .returned v)/\Q w'/\w'.cell? ⟨b,0,none⟩=some (.int .u32 0)/\w'.cell? ⟨b,1,none⟩=some (.int .i32 1)/\w'.frozen? ⟨b,0,none⟩=false/\w'.frozen? ⟨b,1,none⟩=false
set_option maxRecDepth 100000 in
set_option maxHeartbeats 1600000 in
theorem ij(b:Nat)(r:Value)(w:World)(Q:World->Prop)(hd:gG b r w Q)
  (h0:w.cell? ⟨b,0,none⟩=some (.int .u32 0)) (h1:w.cell? ⟨b,1,none⟩=some (.int .i32 0))
  (f0:w.frozen? ⟨b,0,none⟩=false) (f1:w.frozen? ⟨b,1,none⟩=false):
  Calls Proofs.Tryz.prog 309 #[.pointer (some ⟨b,0,none⟩),.func (.func 302) #[r] #[]] w λe w'=>e= .returned (.tuple #[])/\
   ∃w'',Q w''/\w'=(w''.drew.setCell ⟨b,0,none⟩ (.int .u32 1)).setCell ⟨b,1,none⟩ (.int .i32 0):=by
 have l0:(w.setCell ⟨b,1,none⟩ (.int .i32 1)).cell? ⟨b,0,none⟩=some (.int .u32 0):=(World.cell?_setCell_other _ ⟨b,1,none⟩ ⟨b,0,none⟩ _ (by simp)).trans h0;have yz:∀(x:Bool) (w:World),(Op.unary .not (.bool x)).run Proofs.Tryz.prog w= .ok (.bool (!x)) w:=λ_ _=>rfl;go_enter_defers Proofs.Tryz.func309,Proofs.Tryz.ntmps309
 go_wp2_with (first|(go_at_call 318;refine(MuLone.lock_free aD8 ⟨b,1,none⟩ _ (by go_simp) (by go_simp)).mono ?_;rintro e w' ⟨rfl,rfl⟩)|(go_at_call 308;refine(lO _ 0 _ l0).mono ?_;rintro e w' ⟨rfl,rfl⟩)|(go_at_call 302;refine hd.mono ?_;rintro e w' ⟨⟨v,rfl⟩,hq,c0,c1,z0,z1⟩))
 refine leaves_cons (f:=320) (args:=#[.pointer (some ⟨b,0,none⟩),.bool true]) (by simp) (by simp[go_sem]) ?_;refine(U4 ⟨b,0,none⟩ (.int .u32 0) .returning _ c0 z0).mono ?_;rintro e u' w'' ⟨rfl,rfl,rfl⟩;refine leaves_cons (f:=319) (args:=#[.pointer (some ⟨b,1,none⟩)]) (by simp[settle]) (by simp[go_sem]) ?_;refine(MuLone.unlock_deferred aD8 ⟨b,1,none⟩ _ _ ?_ (by simp[z1])).mono ?_;·exact(World.cell?_setCell_other _ ⟨b,0,none⟩ ⟨b,1,none⟩ _ (by simp)).trans (by rw[World.cell?_drew];exact c1)
 rintro e u' w'' ⟨rfl,rfl,rfl⟩;simp[Leaves,settle,results,Proofs.Tryz.results309];exact⟨_,hq,rfl⟩
set_option maxRecDepth 100000 in
set_option maxHeartbeats 1600000 in
theorem aD9(b:Nat)(r:Value)(w:World)(Q:World->Prop)(hd:gG b r w Q)
  (h0:w.cell? ⟨b,0,none⟩=some (.int .u32 0)) (h1:w.cell? ⟨b,1,none⟩=some (.int .i32 0))
  (f0:w.frozen? ⟨b,0,none⟩=false) (f1:w.frozen? ⟨b,1,none⟩=false):
  Calls Proofs.Tryz.prog 301 #[.pointer (some ⟨b,0,none⟩),.func (.func 302) #[r] #[]] w λe w'=>e= .returned (.tuple #[])/\
   ∃w'',Q w''/\w'=(w''.drew.setCell ⟨b,0,none⟩ (.int .u32 1)).setCell ⟨b,1,none⟩ (.int .i32 0):=by
 have yz:∀(x:Bool) (w:World),(Op.unary .not (.bool x)).run Proofs.Tryz.prog w= .ok (.bool (!x)) w:=λ_ _=>rfl;go_enter Proofs.Tryz.func301,Proofs.Tryz.ntmps301
 go_wp2_with (first|(go_at_call 308;refine(lO _ 0 _ h0).mono ?_;rintro e w' ⟨rfl,rfl⟩)|(go_at_call 309;refine(ij b r w Q hd h0 h1 f0 f1).mono ?_;rintro e w' ⟨rfl,w'',hq,rfl⟩))
 go_end0
 exact⟨rfl,w'',hq,rfl⟩
theorem zq(x:Value)(w:World):(method 507 334 x "Replace").run Proofs.Tryz.prog w= .ok (379,x) w:=by kernel_rfl
set_option maxRecDepth 100000 in
set_option maxHeartbeats 1600000 in
theorem zr(b:Nat)(s:Value)(w:World)(Q:World->Prop)(R:Ending->World->Prop)(hd:gG b (.pointer (some ⟨b,0,none⟩)) w Q)
  (h0:w.cell? ⟨b,0,none⟩=some (.int .u32 0)) (h1:w.cell? ⟨b,1,none⟩=some (.int .i32 0))
  (f0:w.frozen? ⟨b,0,none⟩=false) (f1:w.frozen? ⟨b,1,none⟩=false)
  (hq:∀w'',Q w''->∃x,((w''.drew.setCell ⟨b,0,none⟩ (.int .u32 1)).setCell ⟨b,1,none⟩ (.int .i32 0)).cell? ⟨b,3,none⟩=some (.iface 334 x)/\
   Calls Proofs.Tryz.prog 379 #[x,s] ((w''.drew.setCell ⟨b,0,none⟩ (.int .u32 1)).setCell ⟨b,1,none⟩ (.int .i32 0)) λe w'=>(∃v,e= .returned v)/\R e w'):
  Calls Proofs.Tryz.prog 286 #[.pointer (some ⟨b,0,none⟩),s] w R:=by
 have hmf:∀(fn:Fn) (first cap:Array Value) (w:World),(Instr.makeFunc fn first cap).run Proofs.Tryz.prog w= .ok (.func fn first cap) w:=λ_ _ _ _=>rfl;have hin:=zq;go_enter Proofs.Tryz.func286,Proofs.Tryz.ntmps286
 go_wp2_with (first|(go_at_call 301;refine(aD9 b _ w Q hd h0 h1 f0 f1).mono ?_;clear hd h0 h1 f0 f1;rintro e w' ⟨rfl,w'',wZ,hw'⟩;obtain⟨x,hx,hc⟩:=hq w'' wZ;rw[<-hw'] at hx hc;clear hq hw')|(go_at_call 379;refine hc.mono ?_;rintro e w2 ⟨⟨v,rfl⟩,hr⟩))
 exact hr
variable{h:Ad}
theorem xA{id:Nat}{v:Aa}(e:A6 h (some 3) (.ptr (some (id,0)))=some v):∃cs,h[id]?=some (.cells cs)/\3<=cs.length/\v= .agg (cs.take 3):=by
 simp only[A6] at e;split at e
 .rename_i cs hc;simp only[EN] at e;split at e;·rename_i hl;cases e;exact⟨cs,hc,by omega,rfl⟩
  .cases e
 .cases e
theorem Yw{id o:Nat}{v:Aa}{h1:Ad}(hv:v.cells=[v])(e:Cv h 1 (.ptr (some (id,o))) v=some h1):∃cs,h[id]?=some (.cells cs)/\o<cs.length/\h1=h.set id (.cells (cs.set o v)):=by
 simp only[Cv] at e;split at e
 .rename_i cs hc;split at e
  .rename_i hl;have hlo:o<cs.length:=by omega
   have hs:cs.take o++[v]++cs.drop (o+1)=cs.set o v:=by rw[BW,if_pos hlo];simp
   rw[hv,hs] at e;cases e;exact⟨cs,hc,hlo,rfl⟩
  .cases e
 .cases e
theorem Xu{cs:List Aa}{a b c:Aa}(e:Aa.agg (cs.take 3)= .agg [a,b,c]):cs[0]?=some a/\cs[1]?=some b/\cs[2]?=some c:=by
 injection e with e
 match cs,e with
 |a'::b'::c'::l,e=>simp at e;simp[e]
 |[_,_],e=>simp at e
 |[_],e=>simp at e
 |[],e=>simp at e
set_option maxHeartbeats 1000000 in
theorem ir(n:Nat)(hs:ED cx (IT.run (B5 cx) n))(args:List Aa)(r:Aa)(h':Ad)(AV:IT.step (B5 cx) (IT.run (B5 cx) n) (U2 302 379 334 args) h=some (.ret,[r],h')):
  (∃fn c,cx.P.funcs[D6 286]?=some fn/\(fn.name== "runtime.NumGoroutine")=false/\fn.body=some c)/\
  ∀(γ:Gh) (w:World) (cargs:Array Value),Gp γ h w->(∀g cs,cx.Gf g=some cs->CI γ cs g 0)->A9 γ args cargs.toList->
   Calls cx.P (D6 286) cargs w λe w'=>match e with
    | .returned v=>∃γ',Gp γ' h' w'/\J3 γ w γ' w'/\BE γ' r v/\(cx.Ii 286=true->∃s c,HV γ' w.heap.size w' s c v r)
    |_=>False:=by
 refine⟨⟨_,_,Proofs.Tryz.func286,rfl,rfl⟩,λγ w cargs hi hg ha=>?_⟩;unfold U2 at AV;split at AV
 .rename_i id s;simp only[IT.step] at AV;cases e1:A6 h (some 3) (.ptr (some (id,0))) with
  |none=>simp[e1] at AV
  |some v1=>
  simp only[e1] at AV;split at AV
  .rename_i Tu;have Tu:=Aa.US Tu;cases e2:Cv h 1 (.ptr (some (id,1))) (.int .i32 1) with
   |none=>simp[e2] at AV
   |some h1=>
   simp only[e2] at AV;cases e3:IT.run (B5 cx) n (B5 cx 302 [.ptr (some (id,0))]) h1 with
   |none=>simp[e3] at AV
   |some R3=>
   simp only[e3] at AV;split at AV
   .rename_i r3 h2 Jk;cases Jk;cases e4:A6 h2 (some 3) (.ptr (some (id,0))) with
    |none=>simp[e4] at AV
    |some v4=>
    simp only[e4] at AV;split at AV
    .rename_i hb4;have hb4:=Aa.US hb4;cases e5:Cv h2 1 (.ptr (some (id,0))) (.int .u32 1) with
     |none=>simp[e5] at AV
     |some h3=>
     simp only[e5] at AV;cases e6:Cv h3 1 (.ptr (some (id,1))) (.int .i32 0) with
     |none=>simp[e6] at AV
     |some h4=>
     simp only[e6] at AV;cases e7:A6 h4 none (.ptr (some (id,3))) with
     |none=>simp[e7] at AV
     |some v7=>
     simp only[e7,Ep] at AV;cases e8:gD 334 h4 [v7] with
     |none=>simp[e8] at AV
     |some R8=>
     obtain⟨h8,u⟩:=R8;simp only[e8] at AV;have e8':v7= .iface 334 u/\h8=h4:=by
      cases v7 with
      |iface t' v=>
       simp only[gD] at e8;split at e8;·rename_i ht;cases e8;subst ht;exact⟨rfl,rfl⟩
       .cases e8
      |_=>cases e8
     obtain⟨rfl,rfl⟩:=e8';cases e9:IT.run (B5 cx) n (B5 cx 379 [u,s]) h8 with
     |none=>simp[e9] at AV
     |some R9=>
     simp only[e9] at AV;split at AV
     .rename_i r9 h9 Jk;cases Jk;cases AV;obtain⟨cs,O9,T3,rfl⟩:=xA e1;obtain⟨g0,g1,g2⟩:=Xu Tu;obtain⟨Gc,zt,aJ3,rfl⟩:=Yw rfl e2;rw[O9] at zt;cases zt;obtain⟨QJ,HH,Xv,rfl⟩:=xA e4;obtain⟨k0,k1,k2⟩:=Xu hb4;obtain⟨aPs,aEb,aJ4,rfl⟩:=Yw rfl e5;rw[HH] at aEb;cases aEb;obtain⟨cs3,L8,ZK,rfl⟩:=Yw rfl e6;have q9:id<h2.length:=(Ah.1 HH).1;have aPt:id<h.length:=(Ah.1 O9).1;rw[AN q9] at L8;cases L8;have hc4:((h2.set id (.cells (QJ.set 0 (.int .u32 1)))).set id (.cells ((QJ.set 0 (.int .u32 1)).set 1 (.int .i32 0))))[id]?=some (.cells ((QJ.set 0 (.int .u32 1)).set 1 (.int .i32 0))):=AN (by simpa using q9);have e7':((QJ.set 0 (.int .u32 1)).set 1 (.int .i32 0))[3]?=some (.iface 334 u):=by simpa only[A6,hc4,EN] using e7
      obtain⟨v0,us,tz,⟨b,hm,rfl⟩,sv,Dj,rfl,tl,hnil⟩:=ha;cases hnil;have hcargs:cargs=#[.pointer (some ⟨b,0,none⟩),sv]:=by apply Jh;simpa using tz
      subst hcargs;obtain⟨f0,x0,c0,rx0⟩:=hi.QQ O9 hm g0;obtain⟨f1,x1,c1,rx1⟩:=hi.QQ O9 hm g1;cases rx0;cases rx1;obtain⟨Tw,WG⟩:=hi.zp O9 hm aJ3 (u:= .int .i32 1) (v:= .int .i32 1) rfl rfl;refine zr b sv w (λw''=>∃γ2,Gp γ2 h2 w''/\J3 γ w γ2 w'') _ ?_ c0 c1 f0 f1 ?_
      .refine((hs.2 302 _ _ _ _ e3).2 γ _ #[.pointer (some ⟨b,0,none⟩)] Tw hg ⟨_,_,rfl,⟨b,hm,rfl⟩,rfl⟩).mono λe w' he=>?_;cases e with
       |returned v=>obtain⟨γ2,TX,NH,_,_⟩:=he;have Tq:=NH.le.mu _ _ hm;obtain⟨z0,y0,d0,ry0⟩:=TX.QQ HH Tq k0;obtain⟨z1,y1,d1,ry1⟩:=TX.QQ HH Tq k1;cases ry0;cases ry1;exact⟨⟨v,rfl⟩,⟨γ2,TX,WG.trans NH⟩,d0,d1,z0,z1⟩
       |_=>exact he.elim
      .rintro w'' ⟨γ2,TX,NH⟩;have Tq:=NH.le.mu _ _ hm;obtain⟨gz,gF⟩:=TX.J6 ((Below.refl _ _).drew);obtain⟨hi4,ha4⟩:=gz.zp HH Tq aJ4 (u:= .int .u32 1) (v:= .int .u32 1) rfl rfl;obtain⟨hi5,ha5⟩:=hi4.zp (AN q9) Tq ZK (u:= .int .i32 0) (v:= .int .i32 0) rfl rfl;obtain⟨_,y3,d3,uu,hy3,ru⟩:=hi5.QQ hc4 Tq e7';subst hy3;refine⟨uu,d3,?_⟩;have JC:=((NH.trans gF).trans ha4).trans ha5;refine((hs.2 379 _ _ _ _ e9).2 γ2 _ #[uu,sv] hi5 (λg cs tr=>CI.mono JC.le cs g 0 (hg g cs tr)) ⟨_,_,rfl,ru,_,_,rfl,BE.mono JC.le _ _ tl,rfl⟩).mono λe w' he=>?_;cases e with
       |returned v=>obtain⟨γ6,hi6,ha6,hv6,_⟩:=he;exact⟨⟨v,rfl⟩,γ6,hi6,JC.trans ha6,hv6,λe=>by cases e⟩
       |_=>exact he.elim
     .cases AV
    .cases AV
   .cases AV
  .cases AV
 .cases AV
end Go.Am
