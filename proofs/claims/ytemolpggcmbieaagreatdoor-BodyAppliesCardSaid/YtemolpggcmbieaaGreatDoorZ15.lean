/- Lemmas -/
import Derived.Test.YtemolpggcmbieaaGreatDoorZ14
import Derived.Conc.MuLone
set_option linter.all false
set_option maxHeartbeats 0
set_option maxRecDepth 100000
namespace Go.Am
open Go Go.RowKit Go.Shelf
section
variable{U U':Gh}{h:Ah}{w w':World}
def Hi.ŵ(hi:Hi U h w){id g j:Nat}{cs:List Aa}(hcs:h[id]?=some (.cells cs))(hg:U.mu id=some g)(hj:j<cs.length){u:Aa}{v:Value}(hv:BI U u v)(h1:v.oneCell'=true):
  Hi U (h.set id (.cells (cs.set j u))) (w.setCell ⟨g,j,none⟩ v)/\LB U w U (w.setCell ⟨g,j,none⟩ v):=by
 obtain⟨us,e,fr,p1,p2,d,k⟩:=hi.cells id cs hcs g hg;have hl:cs.length<=us.size:=by have:=d.length;simp at this;omega
 rw[setCell_eq_setRow w g j us e fr v p1];have b:(us.setIfInBounds j v).toList.take (cs.set j u).length=(us.toList.take cs.length).set j v:=by simp[List.take_set]
 refine M1 hi hcs hg p1 _ _ Ax (by simpa using p2) ?_ ?_
 .rw[b];refine AV.GB Ed λi a x ha hx=>?_;by_cases ġ:j=i;.subst ġ;rw[AA Ac] at ha;rw[AA Ed] at hx;cases ha;cases hx;exact hv
  .rw[Ao ġ] at ha hx;obtain⟨x',c,f⟩:=d.get ha;rw[hx] at c;cases c;exact f
 .rw[b];intro x hx;rcases DA hx with hx|rfl
  .exact k x hx
  .exact h1
def Hi.RZ(hi:Hi U h w){id g j:Nat}{cs:List Aa}{u:Aa}(hcs:h[id]?=some (.cells cs))(hg:U.mu id=some g)(hj:cs[j]?=some u):
  w.frozen? ⟨g,j,none⟩=false/\∃x,w.cell? ⟨g,j,none⟩=some x/\BI U u x:=by
 obtain⟨x,b,_,a⟩:=Nc hi hcs hg hj;obtain⟨us,e,fr,p1,p2,c,d⟩:=hi.cells id cs hcs g hg;have hl:cs.length<=us.size:=by have:=c.length;simp at this;omega
 have:=(Aj.1 hj).1;refine⟨?_,x,b,a⟩;simp only[World.frozen?,p1];rcases p2 with rfl|rF
 .simp
 .simp;omega
end
abbrev aE0:Go.Conc.Locks.MuLink:={lock:=304,unlock:=305,ilock:=314,iunlock:=315,lockSlow:=326,unlockSlow:=329,disable:=322,enable:=324,acquire:=325,relMerge:=327,cas32:=323,add32:=328,tMutex:=290,tIMutex:=288,tPMutex:=341,tPIMutex:=356,tPI32:=358,tUP:=267,tNoCopy:=283,tU32:=219}
open Proofs in
def aE1:Go.Conc.Locks.MuLib Proofs.Tryz.prog aE0:=
 ⟨Tryz.func304,Tryz.func305,Tryz.func314,Tryz.func315,Tryz.func322,Tryz.func324,Tryz.func325,Tryz.func327,Tryz.func323,Tryz.func328,
  Tryz.underlying288,Tryz.runUnderlying288,Tryz.sizeOf288,Tryz.isAgg288,Tryz.zeroValue288,Tryz.underlying290,Tryz.runUnderlying290,Tryz.sizeOf290,Tryz.isAgg290,Tryz.zeroValue290,
  Tryz.underlying341,Tryz.runUnderlying341,Tryz.sizeOf341,Tryz.isAgg341,Tryz.zeroValue341,Tryz.underlying356,Tryz.runUnderlying356,Tryz.sizeOf356,Tryz.isAgg356,Tryz.zeroValue356,
  Tryz.underlying358,Tryz.runUnderlying358,Tryz.sizeOf358,Tryz.isAgg358,Tryz.zeroValue358,Tryz.underlying267,Tryz.runUnderlying267,Tryz.sizeOf267,Tryz.isAgg267,Tryz.zeroValue267,
  Tryz.underlying283,Tryz.runUnderlying283,Tryz.sizeOf283,Tryz.isAgg283,Tryz.zeroValue283,Tryz.underlying21,Tryz.runUnderlying21,Tryz.sizeOf21,Tryz.isAgg21,Tryz.zeroValue21,AF⟩
def Wx(a:Addr)(x:Value)(u:FrameMode)(w:World)(hc:w.cell? a=some x)(hz:w.frozen? a=false):
  CallsD Proofs.Tryz.prog 306 #[.pointer (some a),.bool true] u w λe b w'=>b=u/\(e= .returned (.tuple #[])/\w'=w.drew.setCell a (.int .u32 1)):=by
 have Ow:w.drew.cell? a=some x:=by go_simp
 have Yd:w.drew.frozen? a=false:=by go_simp
 have IP:=run_call_store (P:=Proofs.Tryz.prog) Proofs.Tryz.func316 AF AF AF AF (k:= .u32) (y:=1) Ow Yd;go_enter_d Proofs.Tryz.func306,Proofs.Tryz.ntmps306
 go_wp2
 go_region_calls
 all_goals (go_end0;exact⟨rfl,rfl⟩)
def rX(a:Addr)(d:Int)(w:World)(h0:w.cell? a=some (.int .u32 d)):Calls Proofs.Tryz.prog 294 #[.pointer (some a)] w λe w'=>e= .returned (.bool (d != 0))/\w=w':=by
 have hl:=run_call_load (P:=Proofs.Tryz.prog) Proofs.Tryz.func303 AF AF AF .u32 AF h0;go_enter Proofs.Tryz.func294,Proofs.Tryz.ntmps294
 go_wp2
 go_ret
 exact⟨rfl,rfl⟩
abbrev m0(b:Nat)(r:Value)(w:World)(Q:World->Prop):Prop:=
 Calls Proofs.Tryz.prog 291 #[r] (w.setCell ⟨b,1,none⟩ (.int .i32 1)) λe w'=>(∃v,e= .returned v)/\Q w'/\w'.cell? ⟨b,0,none⟩=some (.int .u32 0)/\w'.cell? ⟨b,1,none⟩=some (.int .i32 1)/\w'.frozen? ⟨b,0,none⟩=false/\w'.frozen? ⟨b,1,none⟩=false
def zg(b:Nat)(r:Value)(w:World)(Q:World->Prop)(hd:m0 b r w Q)
  (h0:w.cell? ⟨b,0,none⟩=some (.int .u32 0)) (h1:w.cell? ⟨b,1,none⟩=some (.int .i32 0))
  (f0:w.frozen? ⟨b,0,none⟩=false) (f1:w.frozen? ⟨b,1,none⟩=false):
  Calls Proofs.Tryz.prog 295 #[.pointer (some ⟨b,0,none⟩),.func (.func 291) #[r] #[]] w λe w'=>e= .returned (.tuple #[])/\
   ∃w'',Q w''/\w'=(w''.drew.setCell ⟨b,0,none⟩ (.int .u32 1)).setCell ⟨b,1,none⟩ (.int .i32 0):=by
 have l0:(w.setCell ⟨b,1,none⟩ (.int .i32 1)).cell? ⟨b,0,none⟩=some (.int .u32 0):=(World.cell?_setCell_other _ ⟨b,1,none⟩ ⟨b,0,none⟩ _ Ax).trans h0;have Ū:∀(x:Bool) (w:World),(Op.unary .not (.bool x)).run Proofs.Tryz.prog w= .ok (.bool (!x)) w:=λ_ _=>rfl;go_enter_defers Proofs.Tryz.func295,Proofs.Tryz.ntmps295
 go_wp2_with (first|(go_at_call 304;refine(MuLone.lock_free aE1 ⟨b,1,none⟩ _ (by go_simp) (by go_simp)).mono ?_;rintro e w' ⟨rfl,rfl⟩)|(go_at_call 294;refine(rX _ 0 _ l0).mono ?_;rintro e w' ⟨rfl,rfl⟩)|(go_at_call 291;refine hd.mono ?_;rintro e w' ⟨⟨v,rfl⟩,hq,g,d,z0,a⟩))
 refine leaves_cons (f:=306) (args:=#[.pointer (some ⟨b,0,none⟩),.bool true]) Ax (by simp[go_sem]) ?_;refine(Wx ⟨b,0,none⟩ (.int .u32 0) .returning _ g z0).mono ?_;rintro e c w'' ⟨rfl,rfl,rfl⟩;refine leaves_cons (f:=305) (args:=#[.pointer (some ⟨b,1,none⟩)]) (by simp[settle]) (by simp[go_sem]) ?_;refine(MuLone.unlock_deferred aE1 ⟨b,1,none⟩ _ _ ?_ (by simp[a])).mono ?_;.exact(World.cell?_setCell_other _ ⟨b,0,none⟩ ⟨b,1,none⟩ _ Ax).trans (by rw[World.cell?_drew];exact d)
 rintro e c w'' ⟨rfl,rfl,rfl⟩;simp[Leaves,settle,results,Proofs.Tryz.results295];exact⟨_,hq,rfl⟩
def aE2(b:Nat)(r:Value)(w:World)(Q:World->Prop)(hd:m0 b r w Q)
  (h0:w.cell? ⟨b,0,none⟩=some (.int .u32 0)) (h1:w.cell? ⟨b,1,none⟩=some (.int .i32 0))
  (f0:w.frozen? ⟨b,0,none⟩=false) (f1:w.frozen? ⟨b,1,none⟩=false):
  Calls Proofs.Tryz.prog 290 #[.pointer (some ⟨b,0,none⟩),.func (.func 291) #[r] #[]] w λe w'=>e= .returned (.tuple #[])/\
   ∃w'',Q w''/\w'=(w''.drew.setCell ⟨b,0,none⟩ (.int .u32 1)).setCell ⟨b,1,none⟩ (.int .i32 0):=by
 have Ū:∀(x:Bool) (w:World),(Op.unary .not (.bool x)).run Proofs.Tryz.prog w= .ok (.bool (!x)) w:=λ_ _=>rfl;go_enter Proofs.Tryz.func290,Proofs.Tryz.ntmps290
 go_wp2_with (first|(go_at_call 294;refine(rX _ 0 _ h0).mono ?_;rintro e w' ⟨rfl,rfl⟩)|(go_at_call 295;refine(zg b r w Q hd h0 h1 f0 f1).mono ?_;rintro e w' ⟨rfl,w'',hq,rfl⟩))
 go_end0
 exact⟨rfl,w'',hq,rfl⟩
def Ŷ(x:Value)(w:World):(method 497 335 x "Replace").run Proofs.Tryz.prog w= .ok (363,x) w:=by kernel_rfl
def ŷ(b:Nat)(s:Value)(w:World)(Q:World->Prop)(R:Ending->World->Prop)(hd:m0 b (.pointer (some ⟨b,0,none⟩)) w Q)
  (h0:w.cell? ⟨b,0,none⟩=some (.int .u32 0)) (h1:w.cell? ⟨b,1,none⟩=some (.int .i32 0))
  (f0:w.frozen? ⟨b,0,none⟩=false) (f1:w.frozen? ⟨b,1,none⟩=false)
  (hq:∀w'',Q w''->∃x,((w''.drew.setCell ⟨b,0,none⟩ (.int .u32 1)).setCell ⟨b,1,none⟩ (.int .i32 0)).cell? ⟨b,3,none⟩=some (.iface 335 x)/\
   Calls Proofs.Tryz.prog 363 #[x,s] ((w''.drew.setCell ⟨b,0,none⟩ (.int .u32 1)).setCell ⟨b,1,none⟩ (.int .i32 0)) λe w'=>(∃v,e= .returned v)/\R e w'):
  Calls Proofs.Tryz.prog 279 #[.pointer (some ⟨b,0,none⟩),s] w R:=by
 have c:∀(fn:Fn) (first cap:Array Value) (w:World),(Instr.makeFunc fn first cap).run Proofs.Tryz.prog w= .ok (.func fn first cap) w:=λ_ _ _ _=>rfl;have fA:=Ŷ;go_enter Proofs.Tryz.func279,Proofs.Tryz.ntmps279
 go_wp2_with (first|(go_at_call 290;refine(aE2 b _ w Q hd h0 h1 f0 f1).mono ?_;clear hd h0 h1 f0 f1;rintro e w' ⟨rfl,w'',Ÿ,a⟩;obtain⟨x,hx,hc⟩:=hq w'' Ÿ;rw[<-a] at hx hc;clear hq a)|(go_at_call 363;refine hc.mono ?_;rintro e d ⟨⟨v,rfl⟩,hr⟩))
 exact hr
variable{h:Ah}
def mg{id:Nat}{v:Aa}(e:Bi h (some 3) (.ptr (some (id,0)))=some v):∃cs,h[id]?=some (.cells cs)/\3<=cs.length/\v= .agg (cs.take 3):=by
 simp only[Bi] at e;split at e
 .rename_i cs hc;simp only[E1] at e;split at e;.rename_i hl;cases e;exact⟨cs,hc,Ac,rfl⟩
  .cases e
 .cases e
def aZ{id o:Nat}{v:Aa}{h1:Ah}(hv:v.cells=[v])(e:CH h 1 (.ptr (some (id,o))) v=some h1):∃cs,h[id]?=some (.cells cs)/\o<cs.length/\h1=h.set id (.cells (cs.set o v)):=by
 simp only[CH] at e;split at e
 .rename_i cs hc;split at e
  .rename_i hl;have a:o<cs.length:=Ac;have hs:cs.take o++[v]++cs.drop (o+1)=cs.set o v:=by rw[Ck,Af a];simp
   rw[hv,hs] at e;cases e;exact⟨cs,hc,a,rfl⟩
  .cases e
 .cases e
def Zf{cs:List Aa}{a b c:Aa}(e:Aa.agg (cs.take 3)= .agg [a,b,c]):cs[0]?=some a/\cs[1]?=some b/\cs[2]?=some c:=by
 injection e with e
 match cs,e with
 |a'::b'::c'::l,e=>simp at e;simp[e]
 |[_,_],e=>simp at e
 |[_],e=>simp at e
 |[],e=>simp at e
def zh(n:Nat)(hs:ER cx (IT.run (B7 cx) n))(args:List Aa)(r:Aa)(h':Ah)(AG:IT.step (B7 cx) (IT.run (B7 cx) n) (Wt 291 363 335 args) h=some (.ret,[r],h')):
  (∃fn c,cx.P.funcs[Ec 279]?=some fn/\(fn.name== "runtime.NumGoroutine")=false/\fn.body=some c)/\
  ∀(U:Gh) (w:World) (cargs:Array Value),Hi U h w->(∀g cs,cx.Gy g=some cs->CP U cs g 0)->AV U args cargs.toList->
   Calls cx.P (Ec 279) cargs w λe w'=>match e with
    | .returned v=>∃U',Hi U' h' w'/\LB U w U' w'/\BI U' r v/\(cx.I9 279=true->∃s c,IF U' w.heap.size w' s c v r)
    |_=>False:=by
 refine⟨⟨_,_,Proofs.Tryz.func279,rfl,rfl⟩,λU w cargs hi hg ha=>?_⟩;unfold Wt at AG;split at AG
 .rename_i id s;simp only[IT.step] at AG;cases N:Bi h (some 3) (.ptr (some (id,0))) with
  |none=>simp[N] at AG
  |some v1=>
  simp only[N] at AG;split at AG
  .rename_i S0;have S0:=Aa.beq_eq S0;cases M:CH h 1 (.ptr (some (id,1))) (.int .i32 1) with
   |none=>simp[M] at AG
   |some h1=>
   simp only[M] at AG;cases L:IT.run (B7 cx) n (B7 cx 291 [.ptr (some (id,0))]) h1 with
   |none=>simp[L] at AG
   |some R3=>
   simp only[L] at AG;split at AG
   .rename_i r3 h2 J7;cases J7;cases K:Bi h2 (some 3) (.ptr (some (id,0))) with
    |none=>simp[K] at AG
    |some v4=>
    simp only[K] at AG;split at AG
    .rename_i d;have d:=Aa.beq_eq d;cases J:CH h2 1 (.ptr (some (id,0))) (.int .u32 1) with
     |none=>simp[J] at AG
     |some W=>
     simp only[J] at AG;cases I:CH W 1 (.ptr (some (id,1))) (.int .i32 0) with
     |none=>simp[I] at AG
     |some D=>
     simp only[I] at AG;cases H:Bi D none (.ptr (some (id,3))) with
     |none=>simp[H] at AG
     |some v7=>
     simp only[H,DC] at AG;cases f:mY 335 D [v7] with
     |none=>simp[f] at AG
     |some R8=>
     obtain⟨Q,u⟩:=R8;simp only[f] at AG;have F:v7= .iface 335 u/\Q=D:=by
      cases v7 with
      |iface t' v=>
       simp only[mY] at f;split at f;.rename_i ht;cases f;subst ht;exact⟨rfl,rfl⟩
       .cases f
      |_=>cases f
     obtain⟨rfl,rfl⟩:=F;cases E:IT.run (B7 cx) n (B7 cx 363 [u,s]) Q with
     |none=>simp[E] at AG
     |some R9=>
     simp only[E] at AG;split at AG
     .rename_i r9 h9 J7;cases J7;cases AG;obtain⟨cs,Yk,fD,rfl⟩:=mg N;obtain⟨g0,g1,g2⟩:=Zf S0;obtain⟨Gx,aE4,aJI,rfl⟩:=aZ rfl M;rw[Yk] at aE4;cases aE4;obtain⟨RS,K9,lK,rfl⟩:=mg K;obtain⟨V,T,k2⟩:=Zf d;obtain⟨aPG,aE5,aJJ,rfl⟩:=aZ rfl J;rw[K9] at aE5;cases aE5;obtain⟨cs3,Zg,rY,rfl⟩:=aZ rfl I;have zX:id<h2.length:=(Aj.1 K9).1;have aPH:id<h.length:=(Aj.1 Yk).1;rw[AA zX] at Zg;cases Zg;have k:((h2.set id (.cells (RS.set 0 (.int .u32 1)))).set id (.cells ((RS.set 0 (.int .u32 1)).set 1 (.int .i32 0))))[id]?=some (.cells ((RS.set 0 (.int .u32 1)).set 1 (.int .i32 0))):=AA (by simpa using zX);have G:((RS.set 0 (.int .u32 1)).set 1 (.int .i32 0))[3]?=some (.iface 335 u):=by simpa only[Bi,k,E1] using H
      obtain⟨v0,us,xe,⟨b,hm,rfl⟩,l,Dq,rfl,Đ,hnil⟩:=ha;cases hnil;have a:cargs=#[.pointer (some ⟨b,0,none⟩),l]:=by apply Gf;simpa using xe
      subst a;obtain⟨f0,x0,c0,q⟩:=hi.RZ Yk hm g0;obtain⟨f1,x1,c1,p⟩:=hi.RZ Yk hm g1;cases q;cases p;obtain⟨xh,ma⟩:=hi.ŵ Yk hm aJI (u:= .int .i32 1) (v:= .int .i32 1) rfl rfl;refine ŷ b l w (λw''=>∃i,Hi i h2 w''/\LB U w i w'') _ ?_ c0 c1 f0 f1 ?_
      .refine((hs.2 291 _ _ _ _ L).2 U _ #[.pointer (some ⟨b,0,none⟩)] xh hg ⟨_,_,rfl,⟨b,hm,rfl⟩,rfl⟩).mono λe w' he=>?_;cases e with
       |returned v=>obtain⟨i,T9,RT,_,_⟩:=he;have UQ:=RT.le.mu _ _ hm;obtain⟨z0,y0,Z,o⟩:=T9.RZ K9 UQ V;obtain⟨R,y1,Y,m⟩:=T9.RZ K9 UQ T;cases o;cases m;exact⟨⟨v,rfl⟩,⟨i,T9,ma.trans RT⟩,Z,Y,z0,R⟩
       |_=>exact he.elim
      .rintro w'' ⟨i,T9,RT⟩;have UQ:=RT.le.mu _ _ hm;obtain⟨Ŵ,mf⟩:=T9.KU ((Below.refl _ _).drew);obtain⟨z,C⟩:=Ŵ.ŵ K9 UQ aJJ (u:= .int .u32 1) (v:= .int .u32 1) rfl rfl;obtain⟨j,B⟩:=z.ŵ (AA zX) UQ rY (u:= .int .i32 0) (v:= .int .i32 0) rfl rfl;obtain⟨_,y3,X,O,t,S⟩:=j.RZ k UQ G;subst t;refine⟨O,X,?_⟩;have JI:=((RT.trans mf).trans C).trans B;refine((hs.2 363 _ _ _ _ E).2 i _ #[O,l] j (λg cs ē=>CP.mono JI.le cs g 0 (hg g cs ē)) ⟨_,_,rfl,S,_,_,rfl,BI.mono JI.le _ _ Đ,rfl⟩).mono λe w' he=>?_;cases e with
       |returned v=>obtain⟨U6,y,A,x,_⟩:=he;exact⟨⟨v,rfl⟩,U6,y,JI.trans A,x,λe=>by cases e⟩
       |_=>exact he.elim
     .cases AG
    .cases AG
   .cases AG
  .cases AG
 .cases AG
end Go.Am
