/- Lemmas -/
import Derived.Test.YtjboelmdplaenaaGreatDoorQ15
import Derived.Conc.MuLone
set_option linter.unusedVariables false
set_option linter.unusedSimpArgs false
namespace Go.Am
open Go Go.RowKit Go.Shelf
section
variable {γ γ':Gh} {h:AHeap} {w w':World}
theorem Inv.set1 (hi:Inv γ h w) {id g j:Nat} {cs:List AVal} (hcs:h[id]?=some (.cells cs)) (hg:γ.mu id=some g) (hj:j<cs.length) {u:AVal} {v:Value} (hv:VRel γ u v) (h1:v.oneCell'=true):
  Inv γ (h.set id (.cells (cs.set j u))) (w.setCell ⟨g,j,none⟩ v)∧Acc γ w γ (w.setCell ⟨g,j,none⟩ v):=by
 obtain⟨us,e,fr,p1,p2,p3,p4⟩:=hi.cells id cs hcs g hg;have hl:cs.length≤us.size:=by have:=p3.length;simp at this;omega
 rw[setCell_eq_setRow w g j us e fr v p1];have eq1:(us.setIfInBounds j v).toList.take (cs.set j u).length=(us.toList.take cs.length).set j v:=by simp[List.take_set]
 refine write_obj hi hcs hg p1 _ _ (by simp) (by simpa using p2) ?_ ?_
 ·rw[eq1];refine VRelV.of_get (by simp;omega) λi a x ha hx=>?_;by_cases hij:j=i
  ·subst hij;rw[List.getElem?_set_self (by omega)] at ha;rw[List.getElem?_set_self (by simp;omega)] at hx
   cases ha;cases hx;exact hv
  ·rw[List.getElem?_set_ne hij] at ha hx;obtain⟨x',q1,q2⟩:=p3.get ha;rw[hx] at q1;cases q1;exact q2
 ·rw[eq1];intro x hx;rcases List.mem_or_eq_of_mem_set hx with hx|rfl
  ·exact p4 x hx
  ·exact h1
theorem Inv.cell1 (hi:Inv γ h w) {id g j:Nat} {cs:List AVal} {u:AVal} (hcs:h[id]?=some (.cells cs)) (hg:γ.mu id=some g) (hj:cs[j]?=some u):
  w.frozen? ⟨g,j,none⟩=false∧∃x,w.cell? ⟨g,j,none⟩=some x∧VRel γ u x:=by
 obtain⟨x,q1,_,q2⟩:=cells_mem hi hcs hg hj;obtain⟨us,e,fr,p1,p2,p3,p4⟩:=hi.cells id cs hcs g hg;have hl:cs.length≤us.size:=by have:=p3.length;simp at this;omega
 have:=(List.getElem?_eq_some_iff.1 hj).1;refine⟨?_,x,q1,q2⟩;simp only[World.frozen?,p1];rcases p2 with rfl|hfr
 ·simp
 ·simp;omega
end
abbrev zLink:Go.Conc.Locks.MuLink:={lock:=176,unlock:=177,ilock:=187,iunlock:=188,lockSlow:=199,unlockSlow:=202,disable:=195,enable:=197,acquire:=198,relMerge:=200,cas32:=196,add32:=201,tMutex:=187,tIMutex:=185,tPMutex:=227,tPIMutex:=242,tPI32:=244,tUP:=167,tNoCopy:=180,tU32:=169}
open Proofs in
theorem zLib:Go.Conc.Locks.MuLib Proofs.Tryz.prog zLink:=
 ⟨Tryz.func176,Tryz.func177,Tryz.func187,Tryz.func188,Tryz.func195,Tryz.func197,Tryz.func198,Tryz.func200,Tryz.func196,Tryz.func201,
  Tryz.underlying185,Tryz.runUnderlying185,Tryz.sizeOf185,Tryz.isAgg185,Tryz.zeroValue185,Tryz.underlying187,Tryz.runUnderlying187,Tryz.sizeOf187,Tryz.isAgg187,Tryz.zeroValue187,
  Tryz.underlying227,Tryz.runUnderlying227,Tryz.sizeOf227,Tryz.isAgg227,Tryz.zeroValue227,Tryz.underlying242,Tryz.runUnderlying242,Tryz.sizeOf242,Tryz.isAgg242,Tryz.zeroValue242,
  Tryz.underlying244,Tryz.runUnderlying244,Tryz.sizeOf244,Tryz.isAgg244,Tryz.zeroValue244,Tryz.underlying167,Tryz.runUnderlying167,Tryz.sizeOf167,Tryz.isAgg167,Tryz.zeroValue167,
  Tryz.underlying180,Tryz.runUnderlying180,Tryz.sizeOf180,Tryz.isAgg180,Tryz.zeroValue180,Tryz.underlying21,Tryz.runUnderlying21,Tryz.sizeOf21,Tryz.isAgg21,Tryz.zeroValue21,(by kernel_rfl)⟩
theorem store_deferred (a:Addr) (x:Value) (u:FrameMode) (w:World) (hc:w.cell? a=some x) (hz:w.frozen? a=false):
  CallsD Proofs.Tryz.prog 178 #[.pointer (some a),.bool true] u w λe u' w'=>u'=u∧(e= .returned (.tuple #[])∧w'=w.drew.setCell a (.int .u32 1)):=by
 have hc':w.drew.cell? a=some x:=by go_simp
 have hz':w.drew.frozen? a=false:=by go_simp
 have hst:=run_call_store (P:=Proofs.Tryz.prog) Proofs.Tryz.func189 (by kernel_rfl) (by kernel_rfl) (by kernel_rfl) (by kernel_rfl) (k:= .u32) (y:=1) hc' hz'
 go_enter_d Proofs.Tryz.func178,Proofs.Tryz.ntmps178
 go_wp2
 go_region_calls
 all_goals (go_end0;exact⟨rfl,rfl⟩)
theorem load245 (a:Addr) (d:Int) (w:World) (h0:w.cell? a=some (.int .u32 d)):Calls Proofs.Tryz.prog 166 #[.pointer (some a)] w λe w'=>e= .returned (.bool (d != 0))∧w=w':=by
 have hl:=run_call_load (P:=Proofs.Tryz.prog) Proofs.Tryz.func175 (by kernel_rfl) (by kernel_rfl) (by kernel_rfl) .u32 (by kernel_rfl) h0
 go_enter Proofs.Tryz.func166,Proofs.Tryz.ntmps166
 go_wp2
 go_ret
 exact⟨rfl,rfl⟩
abbrev DoneBy (b:Nat) (r:Value) (w:World) (Q:World→Prop):Prop:=
 Calls Proofs.Tryz.prog 160 #[r] (w.setCell ⟨b,1,none⟩ (.int .i32 1)) λe w'=>(∃v,e= .returned v)∧Q w'∧w'.cell? ⟨b,0,none⟩=some (.int .u32 0)∧w'.cell? ⟨b,1,none⟩=some (.int .i32 1)∧w'.frozen? ⟨b,0,none⟩=false∧w'.frozen? ⟨b,1,none⟩=false
set_option maxRecDepth 100000 in
set_option maxHeartbeats 1600000 in
theorem slow246 (b:Nat) (r:Value) (w:World) (Q:World→Prop) (hd:DoneBy b r w Q)
  (h0:w.cell? ⟨b,0,none⟩=some (.int .u32 0)) (h1:w.cell? ⟨b,1,none⟩=some (.int .i32 0))
  (f0:w.frozen? ⟨b,0,none⟩=false) (f1:w.frozen? ⟨b,1,none⟩=false):
  Calls Proofs.Tryz.prog 167 #[.pointer (some ⟨b,0,none⟩),.func (.func 160) #[r] #[]] w λe w'=>e= .returned (.tuple #[])∧
   ∃w'',Q w''∧w'=(w''.drew.setCell ⟨b,0,none⟩ (.int .u32 1)).setCell ⟨b,1,none⟩ (.int .i32 0):=by
 have l0:(w.setCell ⟨b,1,none⟩ (.int .i32 1)).cell? ⟨b,0,none⟩=some (.int .u32 0):=(World.cell?_setCell_other _ ⟨b,1,none⟩ ⟨b,0,none⟩ _ (by simp)).trans h0;have hnot:∀(x:Bool) (w:World),(Op.unary .not (.bool x)).run Proofs.Tryz.prog w= .ok (.bool (!x)) w:=λ_ _=>rfl
 go_enter_defers Proofs.Tryz.func167,Proofs.Tryz.ntmps167
 go_wp2_with (first|(go_at_call 176;refine(MuLone.lock_free zLib ⟨b,1,none⟩ _ (by go_simp) (by go_simp)).mono ?_;rintro e w' ⟨rfl,rfl⟩)|(go_at_call 166;refine(load245 _ 0 _ l0).mono ?_;rintro e w' ⟨rfl,rfl⟩)|(go_at_call 160;refine hd.mono ?_;rintro e w' ⟨⟨v,rfl⟩,hq,c0,c1,z0,z1⟩))
 refine leaves_cons (f:=178) (args:=#[.pointer (some ⟨b,0,none⟩),.bool true]) (by simp) (by simp[go_sem]) ?_;refine(store_deferred ⟨b,0,none⟩ (.int .u32 0) .returning _ c0 z0).mono ?_;rintro e u' w'' ⟨rfl,rfl,rfl⟩;refine leaves_cons (f:=177) (args:=#[.pointer (some ⟨b,1,none⟩)]) (by simp[settle]) (by simp[go_sem]) ?_;refine(MuLone.unlock_deferred zLib ⟨b,1,none⟩ _ _ ?_ (by simp[z1])).mono ?_
 ·exact(World.cell?_setCell_other _ ⟨b,0,none⟩ ⟨b,1,none⟩ _ (by simp)).trans (by rw[World.cell?_drew];exact c1)
 rintro e u' w'' ⟨rfl,rfl,rfl⟩;simp[Leaves,settle,results,Proofs.Tryz.results167];exact⟨_,hq,rfl⟩
set_option maxRecDepth 100000 in
set_option maxHeartbeats 1600000 in
theorem do238 (b:Nat) (r:Value) (w:World) (Q:World→Prop) (hd:DoneBy b r w Q)
  (h0:w.cell? ⟨b,0,none⟩=some (.int .u32 0)) (h1:w.cell? ⟨b,1,none⟩=some (.int .i32 0))
  (f0:w.frozen? ⟨b,0,none⟩=false) (f1:w.frozen? ⟨b,1,none⟩=false):
  Calls Proofs.Tryz.prog 159 #[.pointer (some ⟨b,0,none⟩),.func (.func 160) #[r] #[]] w λe w'=>e= .returned (.tuple #[])∧
   ∃w'',Q w''∧w'=(w''.drew.setCell ⟨b,0,none⟩ (.int .u32 1)).setCell ⟨b,1,none⟩ (.int .i32 0):=by
 have hnot:∀(x:Bool) (w:World),(Op.unary .not (.bool x)).run Proofs.Tryz.prog w= .ok (.bool (!x)) w:=λ_ _=>rfl
 go_enter Proofs.Tryz.func159,Proofs.Tryz.ntmps159
 go_wp2_with (first|(go_at_call 166;refine(load245 _ 0 _ h0).mono ?_;rintro e w' ⟨rfl,rfl⟩)|(go_at_call 167;refine(slow246 b r w Q hd h0 h1 f0 f1).mono ?_;rintro e w' ⟨rfl,w'',hq,rfl⟩))
 go_end0
 exact⟨rfl,w'',hq,rfl⟩
theorem inv315 (x:Value) (w:World):(method 385 222 x "Replace").run Proofs.Tryz.prog w= .ok (238,x) w:=by kernel_rfl
set_option maxRecDepth 100000 in
set_option maxHeartbeats 1600000 in
theorem rep224 (b:Nat) (s:Value) (w:World) (Q:World→Prop) (R:Ending→World→Prop) (hd:DoneBy b (.pointer (some ⟨b,0,none⟩)) w Q)
  (h0:w.cell? ⟨b,0,none⟩=some (.int .u32 0)) (h1:w.cell? ⟨b,1,none⟩=some (.int .i32 0))
  (f0:w.frozen? ⟨b,0,none⟩=false) (f1:w.frozen? ⟨b,1,none⟩=false)
  (hq:∀w'',Q w''→∃x,((w''.drew.setCell ⟨b,0,none⟩ (.int .u32 1)).setCell ⟨b,1,none⟩ (.int .i32 0)).cell? ⟨b,3,none⟩=some (.iface 222 x)∧
   Calls Proofs.Tryz.prog 238 #[x,s] ((w''.drew.setCell ⟨b,0,none⟩ (.int .u32 1)).setCell ⟨b,1,none⟩ (.int .i32 0)) λe w'=>(∃v,e= .returned v)∧R e w'):
  Calls Proofs.Tryz.prog 146 #[.pointer (some ⟨b,0,none⟩),s] w R:=by
 have hmf:∀(fn:Fn) (first cap:Array Value) (w:World),(Instr.makeFunc fn first cap).run Proofs.Tryz.prog w= .ok (.func fn first cap) w:=λ_ _ _ _=>rfl;have hin:=inv315
 go_enter Proofs.Tryz.func146,Proofs.Tryz.ntmps146
 go_wp2_with (first|(go_at_call 159;refine(do238 b _ w Q hd h0 h1 f0 f1).mono ?_;clear hd h0 h1 f0 f1;rintro e w' ⟨rfl,w'',hq',hw'⟩;obtain⟨x,hx,hc⟩:=hq w'' hq';rw[←hw'] at hx hc;clear hq hw')|(go_at_call 238;refine hc.mono ?_;rintro e w2 ⟨⟨v,rfl⟩,hr⟩))
 exact hr
variable {h:AHeap}
theorem hload3 {id:Nat} {v:AVal} (e:hload h (some 3) (.ptr (some (id,0)))=some v):∃cs,h[id]?=some (.cells cs)∧3≤cs.length∧v= .agg (cs.take 3):=by
 simp only[hload] at e;split at e
 ·rename_i cs hc;simp only[partOf] at e;split at e
  ·rename_i hl
   cases e
   exact⟨cs,hc,by omega,rfl⟩
  ·cases e
 ·cases e
theorem hstore1 {id o:Nat} {v:AVal} {h1:AHeap} (hv:v.cells=[v]) (e:hstore h 1 (.ptr (some (id,o))) v=some h1):∃cs,h[id]?=some (.cells cs)∧o<cs.length∧h1=h.set id (.cells (cs.set o v)):=by
 simp only[hstore] at e;split at e
 ·rename_i cs hc;split at e
  ·rename_i hl;have hlo:o<cs.length:=by omega
   have hs:cs.take o++[v]++cs.drop (o+1)=cs.set o v:=by rw[List.set_eq_take_append_cons_drop,if_pos hlo];simp
   rw[hv,hs] at e
   cases e
   exact⟨cs,hc,hlo,rfl⟩
  ·cases e
 ·cases e
theorem take3_get {cs:List AVal} {a b c:AVal} (e:AVal.agg (cs.take 3)= .agg [a,b,c]):cs[0]?=some a∧cs[1]?=some b∧cs[2]?=some c:=by
 injection e with e
 match cs,e with
 |a'::b'::c'::l,e=>simp at e;simp[e]
 |[_,_],e=>simp at e
 |[_],e=>simp at e
 |[],e=>simp at e
set_option maxHeartbeats 1000000 in
theorem prim224 (n:Nat) (hs:SimCalls cx (IT.run (afun cx) n)) (args:List AVal) (r:AVal) (h':AHeap) (hrun:IT.step (afun cx) (IT.run (afun cx) n) (pReplace 160 238 222 args) h=some (.ret,[r],h')):
  (∃fn c,cx.P.funcs[realOf 146]?=some fn∧(fn.name== "runtime.NumGoroutine")=false∧fn.body=some c)∧
  ∀(γ:Gh) (w:World) (cargs:Array Value),Inv γ h w→(∀g cs,cx.glob g=some cs→VRelM γ cs g 0)→VRelV γ args cargs.toList→
   Calls cx.P (realOf 146) cargs w λe w'=>match e with
    | .returned v=>∃γ',Inv γ' h' w'∧Acc γ w γ' w'∧VRel γ' r v∧(cx.ownRet 146=true→∃s c,OwnT γ' w.heap.size w' s c v r)
    |_=>False:=by
 refine⟨⟨_,_,Proofs.Tryz.func146,rfl,rfl⟩,λγ w cargs hi hg ha=>?_⟩;unfold pReplace at hrun;split at hrun
 ·rename_i id s;simp only[IT.step] at hrun
  cases e1:hload h (some 3) (.ptr (some (id,0))) with
  |none=>simp[e1] at hrun
  |some v1=>
  simp only[e1] at hrun;split at hrun
  ·rename_i hb1;have hb1:=AVal.beq_eq hb1
   cases e2:hstore h 1 (.ptr (some (id,1))) (.int .i32 1) with
   |none=>simp[e2] at hrun
   |some h1=>
   simp only[e2] at hrun
   cases e3:IT.run (afun cx) n (afun cx 160 [.ptr (some (id,0))]) h1 with
   |none=>simp[e3] at hrun
   |some R3=>
   simp only[e3] at hrun;split at hrun
   ·rename_i r3 h2 heq
    cases heq
    cases e4:hload h2 (some 3) (.ptr (some (id,0))) with
    |none=>simp[e4] at hrun
    |some v4=>
    simp only[e4] at hrun;split at hrun
    ·rename_i hb4;have hb4:=AVal.beq_eq hb4
     cases e5:hstore h2 1 (.ptr (some (id,0))) (.int .u32 1) with
     |none=>simp[e5] at hrun
     |some h3=>
     simp only[e5] at hrun
     cases e6:hstore h3 1 (.ptr (some (id,1))) (.int .i32 0) with
     |none=>simp[e6] at hrun
     |some h4=>
     simp only[e6] at hrun
     cases e7:hload h4 none (.ptr (some (id,3))) with
     |none=>simp[e7] at hrun
     |some v7=>
     simp only[e7,meval] at hrun
     cases e8:gIface 222 h4 [v7] with
     |none=>simp[e8] at hrun
     |some R8=>
     obtain⟨h8,u⟩:=R8;simp only[e8] at hrun;have e8':v7= .iface 222 u∧h8=h4:=by
      cases v7 with
      |iface t' v=>
       simp only[gIface] at e8;split at e8
       ·rename_i ht
        cases e8;subst ht;exact⟨rfl,rfl⟩
       ·cases e8
      |_=>cases e8
     obtain⟨rfl,rfl⟩:=e8'
     cases e9:IT.run (afun cx) n (afun cx 238 [u,s]) h8 with
     |none=>simp[e9] at hrun
     |some R9=>
     simp only[e9] at hrun;split at hrun
     ·rename_i r9 h9 heq
      cases heq
      cases hrun
      obtain⟨cs,hc1,hl1,rfl⟩:=hload3 e1;obtain⟨g0,g1,g2⟩:=take3_get hb1;obtain⟨cs',hc1',hl1',rfl⟩:=hstore1 rfl e2;rw[hc1] at hc1';cases hc1';obtain⟨cs2,hc2,hl2,rfl⟩:=hload3 e4;obtain⟨k0,k1,k2⟩:=take3_get hb4;obtain⟨cs2',hc2',hl2',rfl⟩:=hstore1 rfl e5;rw[hc2] at hc2';cases hc2';obtain⟨cs3,hc3,hl3,rfl⟩:=hstore1 rfl e6;have hid2:id<h2.length:=(List.getElem?_eq_some_iff.1 hc2).1;have hid1:id<h.length:=(List.getElem?_eq_some_iff.1 hc1).1;rw[List.getElem?_set_self hid2] at hc3;cases hc3;have hc4:((h2.set id (.cells (cs2.set 0 (.int .u32 1)))).set id (.cells ((cs2.set 0 (.int .u32 1)).set 1 (.int .i32 0))))[id]?=some (.cells ((cs2.set 0 (.int .u32 1)).set 1 (.int .i32 0))):=List.getElem?_set_self (by simpa using hid2);have e7':((cs2.set 0 (.int .u32 1)).set 1 (.int .i32 0))[3]?=some (.iface 222 u):=by simpa only[hload,hc4,partOf] using e7
      obtain⟨v0,us,hcg,⟨b,hm,rfl⟩,sv,us',rfl,hsv,hnil⟩:=ha
      cases hnil
      have hcargs:cargs=#[.pointer (some ⟨b,0,none⟩),sv]:=by apply Array.ext';simpa using hcg
      subst hcargs;obtain⟨f0,x0,c0,rx0⟩:=hi.cell1 hc1 hm g0;obtain⟨f1,x1,c1,rx1⟩:=hi.cell1 hc1 hm g1
      cases rx0;cases rx1
      obtain⟨hi1,ha1⟩:=hi.set1 hc1 hm hl1' (u:= .int .i32 1) (v:= .int .i32 1) rfl rfl;refine rep224 b sv w (λw''=>∃γ2,Inv γ2 h2 w''∧Acc γ w γ2 w'') _ ?_ c0 c1 f0 f1 ?_
      ·refine((hs.2 160 _ _ _ _ e3).2 γ _ #[.pointer (some ⟨b,0,none⟩)] hi1 hg ⟨_,_,rfl,⟨b,hm,rfl⟩,rfl⟩).mono λe w' he=>?_
       cases e with
       |returned v=>
        obtain⟨γ2,hi2,ha2,_,_⟩:=he;have hm2:=ha2.le.mu _ _ hm;obtain⟨z0,y0,d0,ry0⟩:=hi2.cell1 hc2 hm2 k0;obtain⟨z1,y1,d1,ry1⟩:=hi2.cell1 hc2 hm2 k1
        cases ry0;cases ry1
        exact⟨⟨v,rfl⟩,⟨γ2,hi2,ha1.trans ha2⟩,d0,d1,z0,z1⟩
       |_=>exact he.elim
      ·rintro w'' ⟨γ2,hi2,ha2⟩;have hm2:=ha2.le.mu _ _ hm;obtain⟨hi3,ha3⟩:=hi2.of_below ((Below.refl _ _).drew);obtain⟨hi4,ha4⟩:=hi3.set1 hc2 hm2 hl2' (u:= .int .u32 1) (v:= .int .u32 1) rfl rfl;obtain⟨hi5,ha5⟩:=hi4.set1 (List.getElem?_set_self hid2) hm2 hl3 (u:= .int .i32 0) (v:= .int .i32 0) rfl rfl;obtain⟨_,y3,d3,uu,hy3,ru⟩:=hi5.cell1 hc4 hm2 e7';subst hy3;refine⟨uu,d3,?_⟩;have hacc:=((ha2.trans ha3).trans ha4).trans ha5;refine((hs.2 238 _ _ _ _ e9).2 γ2 _ #[uu,sv] hi5 (λg cs hgc=>VRelM.mono hacc.le cs g 0 (hg g cs hgc)) ⟨_,_,rfl,ru,_,_,rfl,VRel.mono hacc.le _ _ hsv,rfl⟩).mono λe w' he=>?_
       cases e with
       |returned v=>obtain⟨γ6,hi6,ha6,hv6,_⟩:=he;exact⟨⟨v,rfl⟩,γ6,hi6,hacc.trans ha6,hv6,λe=>by cases e⟩
       |_=>exact he.elim
     ·cases hrun
    ·cases hrun
   ·cases hrun
  ·cases hrun
 ·cases hrun
end Go.Am
