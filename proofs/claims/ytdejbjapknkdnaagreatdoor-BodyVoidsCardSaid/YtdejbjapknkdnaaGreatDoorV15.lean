/- Lemmas -/
import Derived.Test.YtdejbjapknkdnaaGreatDoorV14
import Derived.Conc.MuLone
set_option linter.all false
set_option maxHeartbeats 0
set_option maxRecDepth 100000
namespace Go.Am
open Go Go.RowKit Go.Shelf
section
variable{U U':Gh}{h:Ae}{w w':World}
def HY.aCF(hi:HY U h w){id g j:Nat}{cs:List Aa}(hcs:h[id]?=some (.cells cs))(hg:U.mu id=some g)(hj:j<cs.length){u:Aa}{v:Value}(hv:BJ U u v)(h1:v.oneCell'=true):
  HY U (h.set id (.cells (cs.set j u))) (w.setCell ⟨g,j,none⟩ v)/\ME U w U (w.setCell ⟨g,j,none⟩ v):=by
 obtain⟨us,e,fr,p1,p2,p3,p4⟩:=hi.cells id cs hcs g hg;have hl:cs.length<=us.size:=by have:=p3.length;simp at this;omega
 rw[setCell_eq_setRow w g j us e fr v p1];have eq1:(us.setIfInBounds j v).toList.take (cs.set j u).length=(us.toList.take cs.length).set j v:=by simp[List.take_set]
 refine N1 hi hcs hg p1 _ _ (by simp) (by simpa using p2) ?_ ?_
 .rw[eq1];refine A3.GZ (by simp;omega) λi a x ha hx=>?_;by_cases hij:j=i;.subst hij;rw[AB (by omega)] at ha;rw[AB (by simp;omega)] at hx;cases ha;cases hx;exact hv
  .rw[Al hij] at ha hx;obtain⟨x',q1,q2⟩:=p3.get ha;rw[hx] at q1;cases q1;exact q2
 .rw[eq1];intro x hx;rcases Dm hx with hx|rfl
  .exact p4 x hx
  .exact h1
def HY.Th(hi:HY U h w){id g j:Nat}{cs:List Aa}{u:Aa}(hcs:h[id]?=some (.cells cs))(hg:U.mu id=some g)(hj:cs[j]?=some u):
  w.frozen? ⟨g,j,none⟩=false/\∃x,w.cell? ⟨g,j,none⟩=some x/\BJ U u x:=by
 obtain⟨x,q1,_,q2⟩:=Oc hi hcs hg hj;obtain⟨us,e,fr,p1,p2,p3,p4⟩:=hi.cells id cs hcs g hg;have hl:cs.length<=us.size:=by have:=p3.length;simp at this;omega
 have:=(Af.1 hj).1;refine⟨?_,x,q1,q2⟩;simp only[World.frozen?,p1];rcases p2 with rfl|oU
 .simp
 .simp;omega
end
abbrev aHs:Go.Conc.Locks.MuLink:={lock:=295,unlock:=296,ilock:=308,iunlock:=309,lockSlow:=320,unlockSlow:=323,disable:=316,enable:=318,acquire:=319,relMerge:=321,cas32:=317,add32:=322,tMutex:=254,tIMutex:=252,tPMutex:=324,tPIMutex:=341,tPI32:=343,tUP:=217,tNoCopy:=247,tU32:=201}
open Proofs in
def aHt:Go.Conc.Locks.MuLib Proofs.Tryz.prog aHs:=
 ⟨Tryz.func295,Tryz.func296,Tryz.func308,Tryz.func309,Tryz.func316,Tryz.func318,Tryz.func319,Tryz.func321,Tryz.func317,Tryz.func322,
  Tryz.underlying252,Tryz.runUnderlying252,Tryz.sizeOf252,Tryz.isAgg252,Tryz.zeroValue252,Tryz.underlying254,Tryz.runUnderlying254,Tryz.sizeOf254,Tryz.isAgg254,Tryz.zeroValue254,
  Tryz.underlying324,Tryz.runUnderlying324,Tryz.sizeOf324,Tryz.isAgg324,Tryz.zeroValue324,Tryz.underlying341,Tryz.runUnderlying341,Tryz.sizeOf341,Tryz.isAgg341,Tryz.zeroValue341,
  Tryz.underlying343,Tryz.runUnderlying343,Tryz.sizeOf343,Tryz.isAgg343,Tryz.zeroValue343,Tryz.underlying217,Tryz.runUnderlying217,Tryz.sizeOf217,Tryz.isAgg217,Tryz.zeroValue217,
  Tryz.underlying247,Tryz.runUnderlying247,Tryz.sizeOf247,Tryz.isAgg247,Tryz.zeroValue247,Tryz.underlying21,Tryz.runUnderlying21,Tryz.sizeOf21,Tryz.isAgg21,Tryz.zeroValue21,(by kernel_rfl)⟩
def XR(a:Addr)(x:Value)(u:FrameMode)(w:World)(hc:w.cell? a=some x)(hz:w.frozen? a=false):
  CallsD Proofs.Tryz.prog 297 #[.pointer (some a),.bool true] u w λe u' w'=>u'=u/\(e= .returned (.tuple #[])/\w'=w.drew.setCell a (.int .u32 1)):=by
 have Ut:w.drew.cell? a=some x:=by go_simp
 have Zp:w.drew.frozen? a=false:=by go_simp
 have Jl:=run_call_store (P:=Proofs.Tryz.prog) Proofs.Tryz.func310 (by kernel_rfl) (by kernel_rfl) (by kernel_rfl) (by kernel_rfl) (k:= .u32) (y:=1) Ut Zp;go_enter_d Proofs.Tryz.func297,Proofs.Tryz.ntmps297
 go_wp2
 go_region_calls
 all_goals (go_end0;exact⟨rfl,rfl⟩)
def wC(a:Addr)(d:Int)(w:World)(h0:w.cell? a=some (.int .u32 d)):Calls Proofs.Tryz.prog 278 #[.pointer (some a)] w λe w'=>e= .returned (.bool (d != 0))/\w=w':=by
 have hl:=run_call_load (P:=Proofs.Tryz.prog) Proofs.Tryz.func294 (by kernel_rfl) (by kernel_rfl) (by kernel_rfl) .u32 (by kernel_rfl) h0;go_enter Proofs.Tryz.func278,Proofs.Tryz.ntmps278
 go_wp2
 go_ret
 exact⟨rfl,rfl⟩
abbrev qN(b:Nat)(r:Value)(w:World)(Q:World->Prop):Prop:=
 Calls Proofs.Tryz.prog 258 #[r] (w.setCell ⟨b,1,none⟩ (.int .i32 1)) λe w'=>(∃v,e= .returned v)/\Q w'/\w'.cell? ⟨b,0,none⟩=some (.int .u32 0)/\w'.cell? ⟨b,1,none⟩=some (.int .i32 1)/\w'.frozen? ⟨b,0,none⟩=false/\w'.frozen? ⟨b,1,none⟩=false
def Ĵ(b:Nat)(r:Value)(w:World)(Q:World->Prop)(hd:qN b r w Q)
  (h0:w.cell? ⟨b,0,none⟩=some (.int .u32 0)) (h1:w.cell? ⟨b,1,none⟩=some (.int .i32 0))
  (f0:w.frozen? ⟨b,0,none⟩=false) (f1:w.frozen? ⟨b,1,none⟩=false):
  Calls Proofs.Tryz.prog 279 #[.pointer (some ⟨b,0,none⟩),.func (.func 258) #[r] #[]] w λe w'=>e= .returned (.tuple #[])/\
   ∃w'',Q w''/\w'=(w''.drew.setCell ⟨b,0,none⟩ (.int .u32 1)).setCell ⟨b,1,none⟩ (.int .i32 0):=by
 have l0:(w.setCell ⟨b,1,none⟩ (.int .i32 1)).cell? ⟨b,0,none⟩=some (.int .u32 0):=(World.cell?_setCell_other _ ⟨b,1,none⟩ ⟨b,0,none⟩ _ (by simp)).trans h0;have aCt:∀(x:Bool) (w:World),(Op.unary .not (.bool x)).run Proofs.Tryz.prog w= .ok (.bool (!x)) w:=λ_ _=>rfl;go_enter_defers Proofs.Tryz.func279,Proofs.Tryz.ntmps279
 go_wp2_with (first|(go_at_call 295;refine(MuLone.lock_free aHt ⟨b,1,none⟩ _ (by go_simp) (by go_simp)).mono ?_;rintro e w' ⟨rfl,rfl⟩)|(go_at_call 278;refine(wC _ 0 _ l0).mono ?_;rintro e w' ⟨rfl,rfl⟩)|(go_at_call 258;refine hd.mono ?_;rintro e w' ⟨⟨v,rfl⟩,hq,c0,c1,z0,z1⟩))
 refine leaves_cons (f:=297) (args:=#[.pointer (some ⟨b,0,none⟩),.bool true]) (by simp) (by simp[go_sem]) ?_;refine(XR ⟨b,0,none⟩ (.int .u32 0) .returning _ c0 z0).mono ?_;rintro e u' w'' ⟨rfl,rfl,rfl⟩;refine leaves_cons (f:=296) (args:=#[.pointer (some ⟨b,1,none⟩)]) (by simp[settle]) (by simp[go_sem]) ?_;refine(MuLone.unlock_deferred aHt ⟨b,1,none⟩ _ _ ?_ (by simp[z1])).mono ?_;.exact(World.cell?_setCell_other _ ⟨b,0,none⟩ ⟨b,1,none⟩ _ (by simp)).trans (by rw[World.cell?_drew];exact c1)
 rintro e u' w'' ⟨rfl,rfl,rfl⟩;simp[Leaves,settle,results,Proofs.Tryz.results279];exact⟨_,hq,rfl⟩
def aHu(b:Nat)(r:Value)(w:World)(Q:World->Prop)(hd:qN b r w Q)
  (h0:w.cell? ⟨b,0,none⟩=some (.int .u32 0)) (h1:w.cell? ⟨b,1,none⟩=some (.int .i32 0))
  (f0:w.frozen? ⟨b,0,none⟩=false) (f1:w.frozen? ⟨b,1,none⟩=false):
  Calls Proofs.Tryz.prog 257 #[.pointer (some ⟨b,0,none⟩),.func (.func 258) #[r] #[]] w λe w'=>e= .returned (.tuple #[])/\
   ∃w'',Q w''/\w'=(w''.drew.setCell ⟨b,0,none⟩ (.int .u32 1)).setCell ⟨b,1,none⟩ (.int .i32 0):=by
 have aCt:∀(x:Bool) (w:World),(Op.unary .not (.bool x)).run Proofs.Tryz.prog w= .ok (.bool (!x)) w:=λ_ _=>rfl;go_enter Proofs.Tryz.func257,Proofs.Tryz.ntmps257
 go_wp2_with (first|(go_at_call 278;refine(wC _ 0 _ h0).mono ?_;rintro e w' ⟨rfl,rfl⟩)|(go_at_call 279;refine(Ĵ b r w Q hd h0 h1 f0 f1).mono ?_;rintro e w' ⟨rfl,w'',hq,rfl⟩))
 go_end0
 exact⟨rfl,w'',hq,rfl⟩
def aCG(x:Value)(w:World):(method 482 308 x "Replace").run Proofs.Tryz.prog w= .ok (358,x) w:=by kernel_rfl
def aCH(b:Nat)(s:Value)(w:World)(Q:World->Prop)(R:Ending->World->Prop)(hd:qN b (.pointer (some ⟨b,0,none⟩)) w Q)
  (h0:w.cell? ⟨b,0,none⟩=some (.int .u32 0)) (h1:w.cell? ⟨b,1,none⟩=some (.int .i32 0))
  (f0:w.frozen? ⟨b,0,none⟩=false) (f1:w.frozen? ⟨b,1,none⟩=false)
  (hq:∀w'',Q w''->∃x,((w''.drew.setCell ⟨b,0,none⟩ (.int .u32 1)).setCell ⟨b,1,none⟩ (.int .i32 0)).cell? ⟨b,3,none⟩=some (.iface 308 x)/\
   Calls Proofs.Tryz.prog 358 #[x,s] ((w''.drew.setCell ⟨b,0,none⟩ (.int .u32 1)).setCell ⟨b,1,none⟩ (.int .i32 0)) λe w'=>(∃v,e= .returned v)/\R e w'):
  Calls Proofs.Tryz.prog 227 #[.pointer (some ⟨b,0,none⟩),s] w R:=by
 have hmf:∀(fn:Fn) (first cap:Array Value) (w:World),(Instr.makeFunc fn first cap).run Proofs.Tryz.prog w= .ok (.func fn first cap) w:=λ_ _ _ _=>rfl;have Zh:=aCG;go_enter Proofs.Tryz.func227,Proofs.Tryz.ntmps227
 go_wp2_with (first|(go_at_call 257;refine(aHu b _ w Q hd h0 h1 f0 f1).mono ?_;clear hd h0 h1 f0 f1;rintro e w' ⟨rfl,w'',hq',hw'⟩;obtain⟨x,hx,hc⟩:=hq w'' hq';rw[<-hw'] at hx hc;clear hq hw')|(go_at_call 358;refine hc.mono ?_;rintro e w2 ⟨⟨v,rfl⟩,hr⟩))
 exact hr
variable{h:Ae}
def vy{id:Nat}{v:Aa}(e:Bg h (some 3) (.ptr (some (id,0)))=some v):∃cs,h[id]?=some (.cells cs)/\3<=cs.length/\v= .agg (cs.take 3):=by
 simp only[Bg] at e;split at e
 .rename_i cs hc;simp only[Fg] at e;split at e;.rename_i hl;cases e;exact⟨cs,hc,by omega,rfl⟩
  .cases e
 .cases e
def dW{id o:Nat}{v:Aa}{h1:Ae}(hv:v.cells=[v])(e:CR h 1 (.ptr (some (id,o))) v=some h1):∃cs,h[id]?=some (.cells cs)/\o<cs.length/\h1=h.set id (.cells (cs.set o v)):=by
 simp only[CR] at e;split at e
 .rename_i cs hc;split at e
  .rename_i hl;have hlo:o<cs.length:=by omega
   have hs:cs.take o++[v]++cs.drop (o+1)=cs.set o v:=by rw[B0,if_pos hlo];simp
   rw[hv,hs] at e;cases e;exact⟨cs,hc,hlo,rfl⟩
  .cases e
 .cases e
def aX{cs:List Aa}{a b c:Aa}(e:Aa.agg (cs.take 3)= .agg [a,b,c]):cs[0]?=some a/\cs[1]?=some b/\cs[2]?=some c:=by
 injection e with e
 match cs,e with
 |a'::b'::c'::l,e=>simp at e;simp[e]
 |[_,_],e=>simp at e
 |[_],e=>simp at e
 |[],e=>simp at e
def ĵ(n:Nat)(hs:E2 cx (IT.run (B7 cx) n))(args:List Aa)(r:Aa)(h':Ae)(AI:IT.step (B7 cx) (IT.run (B7 cx) n) (XQ 258 358 308 args) h=some (.ret,[r],h')):
  (∃fn c,cx.P.funcs[EU 227]?=some fn/\(fn.name== "runtime.NumGoroutine")=false/\fn.body=some c)/\
  ∀(U:Gh) (w:World) (cargs:Array Value),HY U h w->(∀g cs,cx.Hs g=some cs->CU U cs g 0)->A3 U args cargs.toList->
   Calls cx.P (EU 227) cargs w λe w'=>match e with
    | .returned v=>∃U',HY U' h' w'/\ME U w U' w'/\BJ U' r v/\(cx.Kf 227=true->∃s c,Jm U' w.heap.size w' s c v r)
    |_=>False:=by
 refine⟨⟨_,_,Proofs.Tryz.func227,rfl,rfl⟩,λU w cargs hi hg ha=>?_⟩;unfold XQ at AI;split at AI
 .rename_i id s;simp only[IT.step] at AI;cases e1:Bg h (some 3) (.ptr (some (id,0))) with
  |none=>simp[e1] at AI
  |some v1=>
  simp only[e1] at AI;split at AI
  .rename_i Qa;have Qa:=Aa.beq_eq Qa;cases e2:CR h 1 (.ptr (some (id,1))) (.int .i32 1) with
   |none=>simp[e2] at AI
   |some h1=>
   simp only[e2] at AI;cases e3:IT.run (B7 cx) n (B7 cx 258 [.ptr (some (id,0))]) h1 with
   |none=>simp[e3] at AI
   |some R3=>
   simp only[e3] at AI;split at AI
   .rename_i r3 h2 KD;cases KD;cases e4:Bg h2 (some 3) (.ptr (some (id,0))) with
    |none=>simp[e4] at AI
    |some v4=>
    simp only[e4] at AI;split at AI
    .rename_i hb4;have hb4:=Aa.beq_eq hb4;cases e5:CR h2 1 (.ptr (some (id,0))) (.int .u32 1) with
     |none=>simp[e5] at AI
     |some h3=>
     simp only[e5] at AI;cases e6:CR h3 1 (.ptr (some (id,1))) (.int .i32 0) with
     |none=>simp[e6] at AI
     |some h4=>
     simp only[e6] at AI;cases e7:Bg h4 none (.ptr (some (id,3))) with
     |none=>simp[e7] at AI
     |some v7=>
     simp only[e7,D5] at AI;cases e8:qK 308 h4 [v7] with
     |none=>simp[e8] at AI
     |some R8=>
     obtain⟨h8,u⟩:=R8;simp only[e8] at AI;have e8':v7= .iface 308 u/\h8=h4:=by
      cases v7 with
      |iface t' v=>
       simp only[qK] at e8;split at e8;.rename_i ht;cases e8;subst ht;exact⟨rfl,rfl⟩
       .cases e8
      |_=>cases e8
     obtain⟨rfl,rfl⟩:=e8';cases e9:IT.run (B7 cx) n (B7 cx 358 [u,s]) h8 with
     |none=>simp[e9] at AI
     |some R9=>
     simp only[e9] at AI;split at AI
     .rename_i r9 h9 KD;cases KD;cases AI;obtain⟨cs,Zx,jV,rfl⟩:=vy e1;obtain⟨g0,g1,g2⟩:=aX Qa;obtain⟨GW,aHw,aL4,rfl⟩:=dW rfl e2;rw[Zx] at aHw;cases aHw;obtain⟨Ta,LX,lJ,rfl⟩:=vy e4;obtain⟨k0,k1,k2⟩:=aX hb4;obtain⟨aSE,aHx,aL5,rfl⟩:=dW rfl e5;rw[LX] at aHx;cases aHx;obtain⟨cs3,aY,wD,rfl⟩:=dW rfl e6;have jo:id<h2.length:=(Af.1 LX).1;have aSF:id<h.length:=(Af.1 Zx).1;rw[AB jo] at aY;cases aY;have hc4:((h2.set id (.cells (Ta.set 0 (.int .u32 1)))).set id (.cells ((Ta.set 0 (.int .u32 1)).set 1 (.int .i32 0))))[id]?=some (.cells ((Ta.set 0 (.int .u32 1)).set 1 (.int .i32 0))):=AB (by simpa using jo);have e7':((Ta.set 0 (.int .u32 1)).set 1 (.int .i32 0))[3]?=some (.iface 308 u):=by simpa only[Bg,hc4,Fg] using e7
      obtain⟨v0,us,hcg,⟨b,hm,rfl⟩,sv,DB,rfl,hsv,hnil⟩:=ha;cases hnil;have hcargs:cargs=#[.pointer (some ⟨b,0,none⟩),sv]:=by apply HJ;simpa using hcg
      subst hcargs;obtain⟨f0,x0,c0,rx0⟩:=hi.Th Zx hm g0;obtain⟨f1,x1,c1,rx1⟩:=hi.Th Zx hm g1;cases rx0;cases rx1;obtain⟨qm,vt⟩:=hi.aCF Zx hm aL4 (u:= .int .i32 1) (v:= .int .i32 1) rfl rfl;refine aCH b sv w (λw''=>∃U2,HY U2 h2 w''/\ME U w U2 w'') _ ?_ c0 c1 f0 f1 ?_
      .refine((hs.2 258 _ _ _ _ e3).2 U _ #[.pointer (some ⟨b,0,none⟩)] qm hg ⟨_,_,rfl,⟨b,hm,rfl⟩,rfl⟩).mono λe w' he=>?_;cases e with
       |returned v=>obtain⟨U2,jS,Us,_,_⟩:=he;have XC:=Us.le.mu _ _ hm;obtain⟨z0,y0,d0,ry0⟩:=jS.Th LX XC k0;obtain⟨z1,y1,d1,ry1⟩:=jS.Th LX XC k1;cases ry0;cases ry1;exact⟨⟨v,rfl⟩,⟨U2,jS,vt.trans Us⟩,d0,d1,z0,z1⟩
       |_=>exact he.elim
      .rintro w'' ⟨U2,jS,Us⟩;have XC:=Us.le.mu _ _ hm;obtain⟨hi3,ĳ⟩:=jS.MJ ((Below.refl _ _).drew);obtain⟨hi4,ha4⟩:=hi3.aCF LX XC aL5 (u:= .int .u32 1) (v:= .int .u32 1) rfl rfl;obtain⟨hi5,ha5⟩:=hi4.aCF (AB jo) XC wD (u:= .int .i32 0) (v:= .int .i32 0) rfl rfl;obtain⟨_,y3,d3,uu,hy3,ru⟩:=hi5.Th hc4 XC e7';subst hy3;refine⟨uu,d3,?_⟩;have Kk:=((Us.trans ĳ).trans ha4).trans ha5;refine((hs.2 358 _ _ _ _ e9).2 U2 _ #[uu,sv] hi5 (λg cs hgc=>CU.mono Kk.le cs g 0 (hg g cs hgc)) ⟨_,_,rfl,ru,_,_,rfl,BJ.mono Kk.le _ _ hsv,rfl⟩).mono λe w' he=>?_;cases e with
       |returned v=>obtain⟨U6,hi6,ha6,hv6,_⟩:=he;exact⟨⟨v,rfl⟩,U6,hi6,Kk.trans ha6,hv6,λe=>by cases e⟩
       |_=>exact he.elim
     .cases AI
    .cases AI
   .cases AI
  .cases AI
 .cases AI
end Go.Am
