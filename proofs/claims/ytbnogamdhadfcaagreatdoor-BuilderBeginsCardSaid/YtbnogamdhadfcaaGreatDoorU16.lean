/- Lemmas -/
import Derived.Test.YtbnogamdhadfcaaGreatDoorU15
import Derived.Conc.MuLone
set_option linter.unusedVariables false
set_option linter.unusedSimpArgs false
namespace Go.Am
open Go Go.RowKit Go.Shelf
section
variable{γ γ':Gh}{h:Ae}{w w':World}
theorem Gs.zx(hi:Gs γ h w){id g j:Nat}{cs:List Aa}(hcs:h[id]?=some (.cells cs))(hg:γ.mu id=some g)(hj:j<cs.length){u:Aa}{v:Value}(hv:BF γ u v)(h1:v.oneCell'=true):
  Gs γ (h.set id (.cells (cs.set j u))) (w.setCell ⟨g,j,none⟩ v)/\J1 γ w γ (w.setCell ⟨g,j,none⟩ v):=by
 obtain⟨us,e,fr,p1,p2,p3,p4⟩:=hi.cells id cs hcs g hg;have hl:cs.length<=us.size:=by have:=p3.length;simp at this;omega
 rw[setCell_eq_setRow w g j us e fr v p1];have eq1:(us.setIfInBounds j v).toList.take (cs.set j u).length=(us.toList.take cs.length).set j v:=by simp[List.take_set]
 refine L7 hi hcs hg p1 _ _ (by simp) (by simpa using p2) ?_ ?_
 .rw[eq1];refine A8.Gk (by simp;omega) λi a x ha hx=>?_;by_cases hij:j=i;·subst hij;rw[AN (by omega)] at ha;rw[AN (by simp;omega)] at hx;cases ha;cases hx;exact hv
  .rw[Aj hij] at ha hx;obtain⟨x',q1,q2⟩:=p3.get ha;rw[hx] at q1;cases q1;exact q2
 .rw[eq1];intro x hx;rcases Di hx with hx|rfl
  .exact p4 x hx
  .exact h1
theorem Gs.QK(hi:Gs γ h w){id g j:Nat}{cs:List Aa}{u:Aa}(hcs:h[id]?=some (.cells cs))(hg:γ.mu id=some g)(hj:cs[j]?=some u):
  w.frozen? ⟨g,j,none⟩=false/\∃x,w.cell? ⟨g,j,none⟩=some x/\BF γ u x:=by
 obtain⟨x,q1,_,q2⟩:=Mg hi hcs hg hj;obtain⟨us,e,fr,p1,p2,p3,p4⟩:=hi.cells id cs hcs g hg;have hl:cs.length<=us.size:=by have:=p3.length;simp at this;omega
 have:=(Ah.1 hj).1;refine⟨?_,x,q1,q2⟩;simp only[World.frozen?,p1];rcases p2 with rfl|kN
 .simp
 .simp;omega
end
abbrev aD7:Go.Conc.Locks.MuLink:={lock:=329,unlock:=330,ilock:=339,iunlock:=340,lockSlow:=351,unlockSlow:=354,disable:=347,enable:=349,acquire:=350,relMerge:=352,cas32:=348,add32:=353,tMutex:=303,tIMutex:=301,tPMutex:=355,tPIMutex:=370,tPI32:=372,tUP:=278,tNoCopy:=296,tU32:=199}
open Proofs in
theorem aD8:Go.Conc.Locks.MuLib Proofs.Tryz.prog aD7:=
 ⟨Tryz.func329,Tryz.func330,Tryz.func339,Tryz.func340,Tryz.func347,Tryz.func349,Tryz.func350,Tryz.func352,Tryz.func348,Tryz.func353,
  Tryz.underlying301,Tryz.runUnderlying301,Tryz.sizeOf301,Tryz.isAgg301,Tryz.zeroValue301,Tryz.underlying303,Tryz.runUnderlying303,Tryz.sizeOf303,Tryz.isAgg303,Tryz.zeroValue303,
  Tryz.underlying355,Tryz.runUnderlying355,Tryz.sizeOf355,Tryz.isAgg355,Tryz.zeroValue355,Tryz.underlying370,Tryz.runUnderlying370,Tryz.sizeOf370,Tryz.isAgg370,Tryz.zeroValue370,
  Tryz.underlying372,Tryz.runUnderlying372,Tryz.sizeOf372,Tryz.isAgg372,Tryz.zeroValue372,Tryz.underlying278,Tryz.runUnderlying278,Tryz.sizeOf278,Tryz.isAgg278,Tryz.zeroValue278,
  Tryz.underlying296,Tryz.runUnderlying296,Tryz.sizeOf296,Tryz.isAgg296,Tryz.zeroValue296,Tryz.underlying21,Tryz.runUnderlying21,Tryz.sizeOf21,Tryz.isAgg21,Tryz.zeroValue21,(by kernel_rfl)⟩
theorem UX(a:Addr)(x:Value)(u:FrameMode)(w:World)(hc:w.cell? a=some x)(hz:w.frozen? a=false):
  CallsD Proofs.Tryz.prog 331 #[.pointer (some a),.bool true] u w λe u' w'=>u'=u/\(e= .returned (.tuple #[])/\w'=w.drew.setCell a (.int .u32 1)):=by
 have J4:w.drew.cell? a=some x:=by go_simp
 have ZB:w.drew.frozen? a=false:=by go_simp
 have hst:=run_call_store (P:=Proofs.Tryz.prog) Proofs.Tryz.func341 (by kernel_rfl) (by kernel_rfl) (by kernel_rfl) (by kernel_rfl) (k:= .u32) (y:=1) J4 ZB;go_enter_d Proofs.Tryz.func331,Proofs.Tryz.ntmps331
 go_wp2
 go_region_calls
 all_goals (go_end0;exact⟨rfl,rfl⟩)
theorem lF(a:Addr)(d:Int)(w:World)(h0:w.cell? a=some (.int .u32 d)):Calls Proofs.Tryz.prog 319 #[.pointer (some a)] w λe w'=>e= .returned (.bool (d != 0))/\w=w':=by
 have hl:=run_call_load (P:=Proofs.Tryz.prog) Proofs.Tryz.func328 (by kernel_rfl) (by kernel_rfl) (by kernel_rfl) .u32 (by kernel_rfl) h0;go_enter Proofs.Tryz.func319,Proofs.Tryz.ntmps319
 go_wp2
 go_ret
 exact⟨rfl,rfl⟩
abbrev fW(b:Nat)(r:Value)(w:World)(Q:World->Prop):Prop:=
 Calls Proofs.Tryz.prog 314 #[r] (w.setCell ⟨b,1,none⟩ (.int .i32 1)) λe w'=>(∃v,e= .returned v)/\Q w'/\w'.cell? ⟨b,0,none⟩=some (.int .u32 0)/\w'.cell? ⟨b,1,none⟩=some (.int .i32 1)/\w'.frozen? ⟨b,0,none⟩=false/\w'.frozen? ⟨b,1,none⟩=false
set_option maxRecDepth 100000 in
set_option maxHeartbeats 1600000 in
theorem gu(b:Nat)(r:Value)(w:World)(Q:World->Prop)(hd:fW b r w Q)
  (h0:w.cell? ⟨b,0,none⟩=some (.int .u32 0)) (h1:w.cell? ⟨b,1,none⟩=some (.int .i32 0))
  (f0:w.frozen? ⟨b,0,none⟩=false) (f1:w.frozen? ⟨b,1,none⟩=false):
  Calls Proofs.Tryz.prog 320 #[.pointer (some ⟨b,0,none⟩),.func (.func 314) #[r] #[]] w λe w'=>e= .returned (.tuple #[])/\
   ∃w'',Q w''/\w'=(w''.drew.setCell ⟨b,0,none⟩ (.int .u32 1)).setCell ⟨b,1,none⟩ (.int .i32 0):=by
 have l0:(w.setCell ⟨b,1,none⟩ (.int .i32 1)).cell? ⟨b,0,none⟩=some (.int .u32 0):=(World.cell?_setCell_other _ ⟨b,1,none⟩ ⟨b,0,none⟩ _ (by simp)).trans h0;have ze:∀(x:Bool) (w:World),(Op.unary .not (.bool x)).run Proofs.Tryz.prog w= .ok (.bool (!x)) w:=λ_ _=>rfl;go_enter_defers Proofs.Tryz.func320,Proofs.Tryz.ntmps320
 go_wp2_with (first|(go_at_call 329;refine(MuLone.lock_free aD8 ⟨b,1,none⟩ _ (by go_simp) (by go_simp)).mono ?_;rintro e w' ⟨rfl,rfl⟩)|(go_at_call 319;refine(lF _ 0 _ l0).mono ?_;rintro e w' ⟨rfl,rfl⟩)|(go_at_call 314;refine hd.mono ?_;rintro e w' ⟨⟨v,rfl⟩,hq,c0,c1,z0,z1⟩))
 refine leaves_cons (f:=331) (args:=#[.pointer (some ⟨b,0,none⟩),.bool true]) (by simp) (by simp[go_sem]) ?_;refine(UX ⟨b,0,none⟩ (.int .u32 0) .returning _ c0 z0).mono ?_;rintro e u' w'' ⟨rfl,rfl,rfl⟩;refine leaves_cons (f:=330) (args:=#[.pointer (some ⟨b,1,none⟩)]) (by simp[settle]) (by simp[go_sem]) ?_;refine(MuLone.unlock_deferred aD8 ⟨b,1,none⟩ _ _ ?_ (by simp[z1])).mono ?_;·exact(World.cell?_setCell_other _ ⟨b,0,none⟩ ⟨b,1,none⟩ _ (by simp)).trans (by rw[World.cell?_drew];exact c1)
 rintro e u' w'' ⟨rfl,rfl,rfl⟩;simp[Leaves,settle,results,Proofs.Tryz.results320];exact⟨_,hq,rfl⟩
set_option maxRecDepth 100000 in
set_option maxHeartbeats 1600000 in
theorem aD9(b:Nat)(r:Value)(w:World)(Q:World->Prop)(hd:fW b r w Q)
  (h0:w.cell? ⟨b,0,none⟩=some (.int .u32 0)) (h1:w.cell? ⟨b,1,none⟩=some (.int .i32 0))
  (f0:w.frozen? ⟨b,0,none⟩=false) (f1:w.frozen? ⟨b,1,none⟩=false):
  Calls Proofs.Tryz.prog 313 #[.pointer (some ⟨b,0,none⟩),.func (.func 314) #[r] #[]] w λe w'=>e= .returned (.tuple #[])/\
   ∃w'',Q w''/\w'=(w''.drew.setCell ⟨b,0,none⟩ (.int .u32 1)).setCell ⟨b,1,none⟩ (.int .i32 0):=by
 have ze:∀(x:Bool) (w:World),(Op.unary .not (.bool x)).run Proofs.Tryz.prog w= .ok (.bool (!x)) w:=λ_ _=>rfl;go_enter Proofs.Tryz.func313,Proofs.Tryz.ntmps313
 go_wp2_with (first|(go_at_call 319;refine(lF _ 0 _ h0).mono ?_;rintro e w' ⟨rfl,rfl⟩)|(go_at_call 320;refine(gu b r w Q hd h0 h1 f0 f1).mono ?_;rintro e w' ⟨rfl,w'',hq,rfl⟩))
 go_end0
 exact⟨rfl,w'',hq,rfl⟩
theorem zy(x:Value)(w:World):(method 511 349 x "Replace").run Proofs.Tryz.prog w= .ok (388,x) w:=by kernel_rfl
set_option maxRecDepth 100000 in
set_option maxHeartbeats 1600000 in
theorem z_(b:Nat)(s:Value)(w:World)(Q:World->Prop)(R:Ending->World->Prop)(hd:fW b (.pointer (some ⟨b,0,none⟩)) w Q)
  (h0:w.cell? ⟨b,0,none⟩=some (.int .u32 0)) (h1:w.cell? ⟨b,1,none⟩=some (.int .i32 0))
  (f0:w.frozen? ⟨b,0,none⟩=false) (f1:w.frozen? ⟨b,1,none⟩=false)
  (hq:∀w'',Q w''->∃x,((w''.drew.setCell ⟨b,0,none⟩ (.int .u32 1)).setCell ⟨b,1,none⟩ (.int .i32 0)).cell? ⟨b,3,none⟩=some (.iface 349 x)/\
   Calls Proofs.Tryz.prog 388 #[x,s] ((w''.drew.setCell ⟨b,0,none⟩ (.int .u32 1)).setCell ⟨b,1,none⟩ (.int .i32 0)) λe w'=>(∃v,e= .returned v)/\R e w'):
  Calls Proofs.Tryz.prog 295 #[.pointer (some ⟨b,0,none⟩),s] w R:=by
 have hmf:∀(fn:Fn) (first cap:Array Value) (w:World),(Instr.makeFunc fn first cap).run Proofs.Tryz.prog w= .ok (.func fn first cap) w:=λ_ _ _ _=>rfl;have hin:=zy;go_enter Proofs.Tryz.func295,Proofs.Tryz.ntmps295
 go_wp2_with (first|(go_at_call 313;refine(aD9 b _ w Q hd h0 h1 f0 f1).mono ?_;clear hd h0 h1 f0 f1;rintro e w' ⟨rfl,w'',wK,hw'⟩;obtain⟨x,hx,hc⟩:=hq w'' wK;rw[<-hw'] at hx hc;clear hq hw')|(go_at_call 388;refine hc.mono ?_;rintro e w2 ⟨⟨v,rfl⟩,hr⟩))
 exact hr
variable{h:Ae}
theorem wL{id:Nat}{v:Aa}(e:Bb h (some 3) (.ptr (some (id,0)))=some v):∃cs,h[id]?=some (.cells cs)/\3<=cs.length/\v= .agg (cs.take 3):=by
 simp only[Bb] at e;split at e
 .rename_i cs hc;simp only[EO] at e;split at e;·rename_i hl;cases e;exact⟨cs,hc,by omega,rfl⟩
  .cases e
 .cases e
theorem Yr{id o:Nat}{v:Aa}{h1:Ae}(hv:v.cells=[v])(e:Cv h 1 (.ptr (some (id,o))) v=some h1):∃cs,h[id]?=some (.cells cs)/\o<cs.length/\h1=h.set id (.cells (cs.set o v)):=by
 simp only[Cv] at e;split at e
 .rename_i cs hc;split at e
  .rename_i hl;have hlo:o<cs.length:=by omega
   have hs:cs.take o++[v]++cs.drop (o+1)=cs.set o v:=by rw[BY,if_pos hlo];simp
   rw[hv,hs] at e;cases e;exact⟨cs,hc,hlo,rfl⟩
  .cases e
 .cases e
theorem Xo{cs:List Aa}{a b c:Aa}(e:Aa.agg (cs.take 3)= .agg [a,b,c]):cs[0]?=some a/\cs[1]?=some b/\cs[2]?=some c:=by
 injection e with e
 match cs,e with
 |a'::b'::c'::l,e=>simp at e;simp[e]
 |[_,_],e=>simp at e
 |[_],e=>simp at e
 |[],e=>simp at e
set_option maxHeartbeats 1000000 in
theorem gw(n:Nat)(hs:ED cx (IT.run (B5 cx) n))(args:List Aa)(r:Aa)(h':Ae)(AU:IT.step (B5 cx) (IT.run (B5 cx) n) (UW 314 388 349 args) h=some (.ret,[r],h')):
  (∃fn c,cx.P.funcs[D7 295]?=some fn/\(fn.name== "runtime.NumGoroutine")=false/\fn.body=some c)/\
  ∀(γ:Gh) (w:World) (cargs:Array Value),Gs γ h w->(∀g cs,cx.Gj g=some cs->CI γ cs g 0)->A8 γ args cargs.toList->
   Calls cx.P (D7 295) cargs w λe w'=>match e with
    | .returned v=>∃γ',Gs γ' h' w'/\J1 γ w γ' w'/\BF γ' r v/\(cx.Ii 295=true->∃s c,HU γ' w.heap.size w' s c v r)
    |_=>False:=by
 refine⟨⟨_,_,Proofs.Tryz.func295,rfl,rfl⟩,λγ w cargs hi hg ha=>?_⟩;unfold UW at AU;split at AU
 .rename_i id s;simp only[IT.step] at AU;cases e1:Bb h (some 3) (.ptr (some (id,0))) with
  |none=>simp[e1] at AU
  |some v1=>
  simp only[e1] at AU;split at AU
  .rename_i Tl;have Tl:=Aa.UM Tl;cases e2:Cv h 1 (.ptr (some (id,1))) (.int .i32 1) with
   |none=>simp[e2] at AU
   |some h1=>
   simp only[e2] at AU;cases e3:IT.run (B5 cx) n (B5 cx 314 [.ptr (some (id,0))]) h1 with
   |none=>simp[e3] at AU
   |some R3=>
   simp only[e3] at AU;split at AU
   .rename_i r3 h2 Ji;cases Ji;cases e4:Bb h2 (some 3) (.ptr (some (id,0))) with
    |none=>simp[e4] at AU
    |some v4=>
    simp only[e4] at AU;split at AU
    .rename_i hb4;have hb4:=Aa.UM hb4;cases e5:Cv h2 1 (.ptr (some (id,0))) (.int .u32 1) with
     |none=>simp[e5] at AU
     |some h3=>
     simp only[e5] at AU;cases e6:Cv h3 1 (.ptr (some (id,1))) (.int .i32 0) with
     |none=>simp[e6] at AU
     |some h4=>
     simp only[e6] at AU;cases e7:Bb h4 none (.ptr (some (id,3))) with
     |none=>simp[e7] at AU
     |some v7=>
     simp only[e7,Ep] at AU;cases e8:fS 349 h4 [v7] with
     |none=>simp[e8] at AU
     |some R8=>
     obtain⟨h8,u⟩:=R8;simp only[e8] at AU;have e8':v7= .iface 349 u/\h8=h4:=by
      cases v7 with
      |iface t' v=>
       simp only[fS] at e8;split at e8;·rename_i ht;cases e8;subst ht;exact⟨rfl,rfl⟩
       .cases e8
      |_=>cases e8
     obtain⟨rfl,rfl⟩:=e8';cases e9:IT.run (B5 cx) n (B5 cx 388 [u,s]) h8 with
     |none=>simp[e9] at AU
     |some R9=>
     simp only[e9] at AU;split at AU
     .rename_i r9 h9 Ji;cases Ji;cases AU;obtain⟨cs,Ql,TX,rfl⟩:=wL e1;obtain⟨g0,g1,g2⟩:=Xo Tl;obtain⟨Gf,aEb,aJR,rfl⟩:=Yr rfl e2;rw[Ql] at aEb;cases aEb;obtain⟨QE,HV,Xp,rfl⟩:=wL e4;obtain⟨k0,k1,k2⟩:=Xo hb4;obtain⟨aPp,aEc,aJS,rfl⟩:=Yr rfl e5;rw[HV] at aEc;cases aEc;obtain⟨cs3,L3,ZG,rfl⟩:=Yr rfl e6;have qT:id<h2.length:=(Ah.1 HV).1;have aPq:id<h.length:=(Ah.1 Ql).1;rw[AN qT] at L3;cases L3;have hc4:((h2.set id (.cells (QE.set 0 (.int .u32 1)))).set id (.cells ((QE.set 0 (.int .u32 1)).set 1 (.int .i32 0))))[id]?=some (.cells ((QE.set 0 (.int .u32 1)).set 1 (.int .i32 0))):=AN (by simpa using qT);have e7':((QE.set 0 (.int .u32 1)).set 1 (.int .i32 0))[3]?=some (.iface 349 u):=by simpa only[Bb,hc4,EO] using e7
      obtain⟨v0,us,uc,⟨b,hm,rfl⟩,sv,Dk,rfl,tv,hnil⟩:=ha;cases hnil;have hcargs:cargs=#[.pointer (some ⟨b,0,none⟩),sv]:=by apply Jf;simpa using uc
      subst hcargs;obtain⟨f0,x0,c0,rx0⟩:=hi.QK Ql hm g0;obtain⟨f1,x1,c1,rx1⟩:=hi.QK Ql hm g1;cases rx0;cases rx1;obtain⟨Tn,WB⟩:=hi.zx Ql hm aJR (u:= .int .i32 1) (v:= .int .i32 1) rfl rfl;refine z_ b sv w (λw''=>∃γ2,Gs γ2 h2 w''/\J1 γ w γ2 w'') _ ?_ c0 c1 f0 f1 ?_
      .refine((hs.2 314 _ _ _ _ e3).2 γ _ #[.pointer (some ⟨b,0,none⟩)] Tn hg ⟨_,_,rfl,⟨b,hm,rfl⟩,rfl⟩).mono λe w' he=>?_;cases e with
       |returned v=>obtain⟨γ2,TR,Nv,_,_⟩:=he;have Th:=Nv.le.mu _ _ hm;obtain⟨z0,y0,d0,ry0⟩:=TR.QK HV Th k0;obtain⟨z1,y1,d1,ry1⟩:=TR.QK HV Th k1;cases ry0;cases ry1;exact⟨⟨v,rfl⟩,⟨γ2,TR,WB.trans Nv⟩,d0,d1,z0,z1⟩
       |_=>exact he.elim
      .rintro w'' ⟨γ2,TR,Nv⟩;have Th:=Nv.le.mu _ _ hm;obtain⟨gm,fV⟩:=TR.J5 ((Below.refl _ _).drew);obtain⟨hi4,ha4⟩:=gm.zx HV Th aJS (u:= .int .u32 1) (v:= .int .u32 1) rfl rfl;obtain⟨hi5,ha5⟩:=hi4.zx (AN qT) Th ZG (u:= .int .i32 0) (v:= .int .i32 0) rfl rfl;obtain⟨_,y3,d3,uu,hy3,ru⟩:=hi5.QK hc4 Th e7';subst hy3;refine⟨uu,d3,?_⟩;have JA:=((Nv.trans fV).trans ha4).trans ha5;refine((hs.2 388 _ _ _ _ e9).2 γ2 _ #[uu,sv] hi5 (λg cs t_=>CI.mono JA.le cs g 0 (hg g cs t_)) ⟨_,_,rfl,ru,_,_,rfl,BF.mono JA.le _ _ tv,rfl⟩).mono λe w' he=>?_;cases e with
       |returned v=>obtain⟨γ6,hi6,ha6,hv6,_⟩:=he;exact⟨⟨v,rfl⟩,γ6,hi6,JA.trans ha6,hv6,λe=>by cases e⟩
       |_=>exact he.elim
     .cases AU
    .cases AU
   .cases AU
  .cases AU
 .cases AU
end Go.Am
