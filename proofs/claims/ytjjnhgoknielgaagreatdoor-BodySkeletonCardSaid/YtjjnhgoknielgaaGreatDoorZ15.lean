/- Lemmas -/
import Derived.Test.YtjjnhgoknielgaaGreatDoorZ14
import Derived.Conc.MuLone
set_option linter.all false
set_option maxHeartbeats 0
set_option maxRecDepth 100000
namespace Go.Am
open Go Go.RowKit Go.Shelf
section
variable{U U':Gh}{h:Ai}{w w':World}
def Ic.aDn(hi:Ic U h w){id g j:Nat}{cs:List Aa}(hcs:h[id]?=some (.cells cs))(hg:U.mu id=some g)(hj:j<cs.length){u:Aa}{v:Value}(hv:BP U u v)(h1:v.oneCell'=true):
  Ic U (h.set id (.cells (cs.set j u))) (w.setCell ⟨g,j,none⟩ v)/\M1 U w U (w.setCell ⟨g,j,none⟩ v):=by
 obtain⟨us,e,fr,k,n,f,m⟩:=hi.cells id cs hcs g hg;have hl:cs.length<=us.size:=by have:=f.length;simp at this;omega
 rw[setCell_eq_setRow w g j us e fr v k];have c:(us.setIfInBounds j v).toList.take (cs.set j u).length=(us.toList.take cs.length).set j v:=by simp[List.take_set]
 refine Oj hi hcs hg k _ _ AB (by simpa using n) ?_ ?_
 .rw[c];refine A8.Hr Et λi a x ha hx=>?_;by_cases b:j=i;.subst b;rw[AI Ab] at ha;rw[AI Et] at hx;cases ha;cases hx;exact hv
  .rw[Aq b] at ha hx;obtain⟨x',d,l⟩:=f.get ha;rw[hx] at d;cases d;exact l
 .rw[c];intro x hx;rcases DA hx with hx|rfl
  .exact m x hx
  .exact h1
def Ic.Ts(hi:Ic U h w){id g j:Nat}{cs:List Aa}{u:Aa}(hcs:h[id]?=some (.cells cs))(hg:U.mu id=some g)(hj:cs[j]?=some u):
  w.frozen? ⟨g,j,none⟩=false/\∃x,w.cell? ⟨g,j,none⟩=some x/\BP U u x:=by
 obtain⟨x,b,_,a⟩:=Ow hi hcs hg hj;obtain⟨us,e,fr,f,d,c,i⟩:=hi.cells id cs hcs g hg;have hl:cs.length<=us.size:=by have:=c.length;simp at this;omega
 have:=(Aj.1 hj).1;refine⟨?_,x,b,a⟩;simp only[World.frozen?,f];rcases d with rfl|XC
 .simp
 .simp;omega
end
abbrev aIc:Go.Conc.Locks.MuLink:={lock:=260,unlock:=261,ilock:=288,iunlock:=289,lockSlow:=309,unlockSlow:=312,disable:=305,enable:=307,acquire:=308,relMerge:=310,cas32:=306,add32:=311,tMutex:=198,tIMutex:=196,tPMutex:=297,tPIMutex:=321,tPI32:=323,tUP:=143,tNoCopy:=191,tU32:=145}
open Proofs in
def aId:Go.Conc.Locks.MuLib Proofs.Tryz.prog aIc:=
 ⟨Tryz.func260,Tryz.func261,Tryz.func288,Tryz.func289,Tryz.func305,Tryz.func307,Tryz.func308,Tryz.func310,Tryz.func306,Tryz.func311,
  Tryz.underlying196,Tryz.runUnderlying196,Tryz.sizeOf196,Tryz.isAgg196,Tryz.zeroValue196,Tryz.underlying198,Tryz.runUnderlying198,Tryz.sizeOf198,Tryz.isAgg198,Tryz.zeroValue198,
  Tryz.underlying297,Tryz.runUnderlying297,Tryz.sizeOf297,Tryz.isAgg297,Tryz.zeroValue297,Tryz.underlying321,Tryz.runUnderlying321,Tryz.sizeOf321,Tryz.isAgg321,Tryz.zeroValue321,
  Tryz.underlying323,Tryz.runUnderlying323,Tryz.sizeOf323,Tryz.isAgg323,Tryz.zeroValue323,Tryz.underlying143,Tryz.runUnderlying143,Tryz.sizeOf143,Tryz.isAgg143,Tryz.zeroValue143,
  Tryz.underlying191,Tryz.runUnderlying191,Tryz.sizeOf191,Tryz.isAgg191,Tryz.zeroValue191,Tryz.underlying21,Tryz.runUnderlying21,Tryz.sizeOf21,Tryz.isAgg21,Tryz.zeroValue21,AP⟩
def Ya(a:Addr)(x:Value)(u:FrameMode)(w:World)(hc:w.cell? a=some x)(hz:w.frozen? a=false):
  CallsD Proofs.Tryz.prog 262 #[.pointer (some a),.bool true] u w λe b w'=>b=u/\(e= .returned (.tuple #[])/\w'=w.drew.setCell a (.int .u32 1)):=by
 have Wd:w.drew.cell? a=some x:=by go_simp
 have ZN:w.drew.frozen? a=false:=by go_simp
 have JM:=run_call_store (P:=Proofs.Tryz.prog) Proofs.Tryz.func290 AP AP AP AP (k:= .u32) (y:=1) Wd ZN;go_enter_d Proofs.Tryz.func262,Proofs.Tryz.ntmps262
 go_wp2
 go_region_calls
 all_goals (go_end0;exact⟨rfl,rfl⟩)
def xR(a:Addr)(d:Int)(w:World)(h0:w.cell? a=some (.int .u32 d)):Calls Proofs.Tryz.prog 225 #[.pointer (some a)] w λe w'=>e= .returned (.bool (d != 0))/\w=w':=by
 have hl:=run_call_load (P:=Proofs.Tryz.prog) Proofs.Tryz.func259 AP AP AP .u32 AP h0;go_enter Proofs.Tryz.func225,Proofs.Tryz.ntmps225
 go_wp2
 go_ret
 exact⟨rfl,rfl⟩
abbrev rZ(b:Nat)(r:Value)(w:World)(Q:World->Prop):Prop:=
 Calls Proofs.Tryz.prog 176 #[r] (w.setCell ⟨b,1,none⟩ (.int .i32 1)) λe w'=>(∃v,e= .returned v)/\Q w'/\w'.cell? ⟨b,0,none⟩=some (.int .u32 0)/\w'.cell? ⟨b,1,none⟩=some (.int .i32 1)/\w'.frozen? ⟨b,0,none⟩=false/\w'.frozen? ⟨b,1,none⟩=false
def ū(b:Nat)(r:Value)(w:World)(Q:World->Prop)(hd:rZ b r w Q)
  (h0:w.cell? ⟨b,0,none⟩=some (.int .u32 0)) (h1:w.cell? ⟨b,1,none⟩=some (.int .i32 0))
  (f0:w.frozen? ⟨b,0,none⟩=false) (f1:w.frozen? ⟨b,1,none⟩=false):
  Calls Proofs.Tryz.prog 226 #[.pointer (some ⟨b,0,none⟩),.func (.func 176) #[r] #[]] w λe w'=>e= .returned (.tuple #[])/\
   ∃w'',Q w''/\w'=(w''.drew.setCell ⟨b,0,none⟩ (.int .u32 1)).setCell ⟨b,1,none⟩ (.int .i32 0):=by
 have l0:(w.setCell ⟨b,1,none⟩ (.int .i32 1)).cell? ⟨b,0,none⟩=some (.int .u32 0):=(World.cell?_setCell_other _ ⟨b,1,none⟩ ⟨b,0,none⟩ _ AB).trans h0;have aDb:∀(x:Bool) (w:World),(Op.unary .not (.bool x)).run Proofs.Tryz.prog w= .ok (.bool (!x)) w:=λ_ _=>rfl;go_enter_defers Proofs.Tryz.func226,Proofs.Tryz.ntmps226
 go_wp2_with (first|(go_at_call 260;refine(MuLone.lock_free aId ⟨b,1,none⟩ _ (by go_simp) (by go_simp)).mono ?_;rintro e w' ⟨rfl,rfl⟩)|(go_at_call 225;refine(xR _ 0 _ l0).mono ?_;rintro e w' ⟨rfl,rfl⟩)|(go_at_call 176;refine hd.mono ?_;rintro e w' ⟨⟨v,rfl⟩,hq,g,d,z0,a⟩))
 refine leaves_cons (f:=262) (args:=#[.pointer (some ⟨b,0,none⟩),.bool true]) AB (by simp[go_sem]) ?_;refine(Ya ⟨b,0,none⟩ (.int .u32 0) .returning _ g z0).mono ?_;rintro e c w'' ⟨rfl,rfl,rfl⟩;refine leaves_cons (f:=261) (args:=#[.pointer (some ⟨b,1,none⟩)]) (by simp[settle]) (by simp[go_sem]) ?_;refine(MuLone.unlock_deferred aId ⟨b,1,none⟩ _ _ ?_ (by simp[a])).mono ?_;.exact(World.cell?_setCell_other _ ⟨b,0,none⟩ ⟨b,1,none⟩ _ AB).trans (by rw[World.cell?_drew];exact d)
 rintro e c w'' ⟨rfl,rfl,rfl⟩;simp[Leaves,settle,results,Proofs.Tryz.results226];exact⟨_,hq,rfl⟩
def aIe(b:Nat)(r:Value)(w:World)(Q:World->Prop)(hd:rZ b r w Q)
  (h0:w.cell? ⟨b,0,none⟩=some (.int .u32 0)) (h1:w.cell? ⟨b,1,none⟩=some (.int .i32 0))
  (f0:w.frozen? ⟨b,0,none⟩=false) (f1:w.frozen? ⟨b,1,none⟩=false):
  Calls Proofs.Tryz.prog 175 #[.pointer (some ⟨b,0,none⟩),.func (.func 176) #[r] #[]] w λe w'=>e= .returned (.tuple #[])/\
   ∃w'',Q w''/\w'=(w''.drew.setCell ⟨b,0,none⟩ (.int .u32 1)).setCell ⟨b,1,none⟩ (.int .i32 0):=by
 have aDb:∀(x:Bool) (w:World),(Op.unary .not (.bool x)).run Proofs.Tryz.prog w= .ok (.bool (!x)) w:=λ_ _=>rfl;go_enter Proofs.Tryz.func175,Proofs.Tryz.ntmps175
 go_wp2_with (first|(go_at_call 225;refine(xR _ 0 _ h0).mono ?_;rintro e w' ⟨rfl,rfl⟩)|(go_at_call 226;refine(ū b r w Q hd h0 h1 f0 f1).mono ?_;rintro e w' ⟨rfl,w'',hq,rfl⟩))
 go_end0
 exact⟨rfl,w'',hq,rfl⟩
def aDo(x:Value)(w:World):(method 476 278 x "Replace").run Proofs.Tryz.prog w= .ok (350,x) w:=by kernel_rfl
def aDp(b:Nat)(s:Value)(w:World)(Q:World->Prop)(R:Ending->World->Prop)(hd:rZ b (.pointer (some ⟨b,0,none⟩)) w Q)
  (h0:w.cell? ⟨b,0,none⟩=some (.int .u32 0)) (h1:w.cell? ⟨b,1,none⟩=some (.int .i32 0))
  (f0:w.frozen? ⟨b,0,none⟩=false) (f1:w.frozen? ⟨b,1,none⟩=false)
  (hq:∀w'',Q w''->∃x,((w''.drew.setCell ⟨b,0,none⟩ (.int .u32 1)).setCell ⟨b,1,none⟩ (.int .i32 0)).cell? ⟨b,3,none⟩=some (.iface 278 x)/\
   Calls Proofs.Tryz.prog 350 #[x,s] ((w''.drew.setCell ⟨b,0,none⟩ (.int .u32 1)).setCell ⟨b,1,none⟩ (.int .i32 0)) λe w'=>(∃v,e= .returned v)/\R e w'):
  Calls Proofs.Tryz.prog 99 #[.pointer (some ⟨b,0,none⟩),s] w R:=by
 have d:∀(fn:Fn) (first cap:Array Value) (w:World),(Instr.makeFunc fn first cap).run Proofs.Tryz.prog w= .ok (.func fn first cap) w:=λ_ _ _ _=>rfl;have ZH:=aDo;go_enter Proofs.Tryz.func99,Proofs.Tryz.ntmps99
 go_wp2_with (first|(go_at_call 175;refine(aIe b _ w Q hd h0 h1 f0 f1).mono ?_;clear hd h0 h1 f0 f1;rintro e w' ⟨rfl,w'',c,a⟩;obtain⟨x,hx,hc⟩:=hq w'' c;rw[<-a] at hx hc;clear hq a)|(go_at_call 350;refine hc.mono ?_;rintro e f ⟨⟨v,rfl⟩,hr⟩))
 exact hr
variable{h:Ai}
def yt{id:Nat}{v:Aa}(e:Bn h (some 3) (.ptr (some (id,0)))=some v):∃cs,h[id]?=some (.cells cs)/\3<=cs.length/\v= .agg (cs.take 3):=by
 simp only[Bn] at e;split at e
 .rename_i cs hc;simp only[FG] at e;split at e;.rename_i hl;cases e;exact⟨cs,hc,Ab,rfl⟩
  .cases e
 .cases e
def fM{id o:Nat}{v:Aa}{h1:Ai}(hv:v.cells=[v])(e:C9 h 1 (.ptr (some (id,o))) v=some h1):∃cs,h[id]?=some (.cells cs)/\o<cs.length/\h1=h.set id (.cells (cs.set o v)):=by
 simp only[C9] at e;split at e
 .rename_i cs hc;split at e
  .rename_i hl;have a:o<cs.length:=Ab;have hs:cs.take o++[v]++cs.drop (o+1)=cs.set o v:=by rw[B7,Af a];simp
   rw[hv,hs] at e;cases e;exact⟨cs,hc,a,rfl⟩
  .cases e
 .cases e
def bY{cs:List Aa}{a b c:Aa}(e:Aa.agg (cs.take 3)= .agg [a,b,c]):cs[0]?=some a/\cs[1]?=some b/\cs[2]?=some c:=by
 injection e with e
 match cs,e with
 |a'::b'::c'::l,e=>simp at e;simp[e]
 |[_,_],e=>simp at e
 |[_],e=>simp at e
 |[],e=>simp at e
def Ŭ(n:Nat)(hs:Fk cx (IT.run (Cd cx) n))(args:List Aa)(r:Aa)(h':Ai)(AM:IT.step (Cd cx) (IT.run (Cd cx) n) (X9 176 350 278 args) h=some (.ret,[r],h')):
  (∃fn c,cx.P.funcs[Fe 99]?=some fn/\(fn.name== "runtime.NumGoroutine")=false/\fn.body=some c)/\
  ∀(U:Gh) (w:World) (cargs:Array Value),Ic U h w->(∀g cs,cx.HB g=some cs->C2 U cs g 0)->A8 U args cargs.toList->
   Calls cx.P (Fe 99) cargs w λe w'=>match e with
    | .returned v=>∃U',Ic U' h' w'/\M1 U w U' w'/\BP U' r v/\(cx.KC 99=true->∃s c,JO U' w.heap.size w' s c v r)
    |_=>False:=by
 refine⟨⟨_,_,Proofs.Tryz.func99,rfl,rfl⟩,λU w cargs hi hg ha=>?_⟩;unfold X9 at AM;split at AM
 .rename_i id s;simp only[IT.step] at AM;cases S:Bn h (some 3) (.ptr (some (id,0))) with
  |none=>simp[S] at AM
  |some v1=>
  simp only[S] at AM;split at AM
  .rename_i Qx;have Qx:=Aa.beq_eq Qx;cases R:C9 h 1 (.ptr (some (id,1))) (.int .i32 1) with
   |none=>simp[R] at AM
   |some h1=>
   simp only[R] at AM;cases Q:IT.run (Cd cx) n (Cd cx 176 [.ptr (some (id,0))]) h1 with
   |none=>simp[Q] at AM
   |some R3=>
   simp only[Q] at AM;split at AM
   .rename_i r3 h2 K4;cases K4;cases O:Bn h2 (some 3) (.ptr (some (id,0))) with
    |none=>simp[O] at AM
    |some v4=>
    simp only[O] at AM;split at AM
    .rename_i d;have d:=Aa.beq_eq d;cases N:C9 h2 1 (.ptr (some (id,0))) (.int .u32 1) with
     |none=>simp[N] at AM
     |some h3=>
     simp only[N] at AM;cases M:C9 h3 1 (.ptr (some (id,1))) (.int .i32 0) with
     |none=>simp[M] at AM
     |some H=>
     simp only[M] at AM;cases L:Bn H none (.ptr (some (id,3))) with
     |none=>simp[L] at AM
     |some v7=>
     simp only[L,Eu] at AM;cases f:rW 278 H [v7] with
     |none=>simp[f] at AM
     |some R8=>
     obtain⟨V,u⟩:=R8;simp only[f] at AM;have J:v7= .iface 278 u/\V=H:=by
      cases v7 with
      |iface t' v=>
       simp only[rW] at f;split at f;.rename_i ht;cases f;subst ht;exact⟨rfl,rfl⟩
       .cases f
      |_=>cases f
     obtain⟨rfl,rfl⟩:=J;cases I:IT.run (Cd cx) n (Cd cx 350 [u,s]) V with
     |none=>simp[I] at AM
     |some R9=>
     simp only[I] at AM;split at AM
     .rename_i r9 h9 K4;cases K4;cases AM;obtain⟨cs,ZU,nr,rfl⟩:=yt S;obtain⟨g0,g1,g2⟩:=bY Qx;obtain⟨Hp,aIg,aMI,rfl⟩:=fM rfl R;rw[ZU] at aIg;cases aIg;obtain⟨Tk,Mn,sB,rfl⟩:=yt O;obtain⟨Z,Y,k2⟩:=bY d;obtain⟨aSF,aIh,aMJ,rfl⟩:=fM rfl N;rw[Mn] at aIh;cases aIh;obtain⟨cs3,bZ,um,rfl⟩:=fM rfl M;have mr:id<h2.length:=(Aj.1 Mn).1;have aSG:id<h.length:=(Aj.1 ZU).1;rw[AI mr] at bZ;cases bZ;have k:((h2.set id (.cells (Tk.set 0 (.int .u32 1)))).set id (.cells ((Tk.set 0 (.int .u32 1)).set 1 (.int .i32 0))))[id]?=some (.cells ((Tk.set 0 (.int .u32 1)).set 1 (.int .i32 0))):=AI (by simpa using mr);have K:((Tk.set 0 (.int .u32 1)).set 1 (.int .i32 0))[3]?=some (.iface 278 u):=by simpa only[Bn,k,FG] using L
      obtain⟨v0,us,D,⟨b,hm,rfl⟩,l,DR,rfl,y,hnil⟩:=ha;cases hnil;have a:cargs=#[.pointer (some ⟨b,0,none⟩),l]:=by apply HV;simpa using D
      subst a;obtain⟨f0,x0,c0,q⟩:=hi.Ts ZU hm g0;obtain⟨f1,x1,c1,p⟩:=hi.Ts ZU hm g1;cases q;cases p;obtain⟨sC,yo⟩:=hi.aDn ZU hm aMI (u:= .int .i32 1) (v:= .int .i32 1) rfl rfl;refine aDp b l w (λw''=>∃i,Ic i h2 w''/\M1 U w i w'') _ ?_ c0 c1 f0 f1 ?_
      .refine((hs.2 176 _ _ _ _ Q).2 U _ #[.pointer (some ⟨b,0,none⟩)] sC hg ⟨_,_,rfl,⟨b,hm,rfl⟩,rfl⟩).mono λe w' he=>?_;cases e with
       |returned v=>obtain⟨i,bR,UB,_,_⟩:=he;have XV:=UB.le.mu _ _ hm;obtain⟨z0,y0,d0,o⟩:=bR.Ts Mn XV Z;obtain⟨W,y1,d1,m⟩:=bR.Ts Mn XV Y;cases o;cases m;exact⟨⟨v,rfl⟩,⟨i,bR,yo.trans UB⟩,d0,d1,z0,W⟩
       |_=>exact he.elim
      .rintro w'' ⟨i,bR,UB⟩;have XV:=UB.le.mu _ _ hm;obtain⟨B,Ū⟩:=bR.M7 ((Below.refl _ _).drew);obtain⟨A,G⟩:=B.aDn Mn XV aMJ (u:= .int .u32 1) (v:= .int .u32 1) rfl rfl;obtain⟨j,F⟩:=A.aDn (AI mr) XV um (u:= .int .i32 0) (v:= .int .i32 0) rfl rfl;obtain⟨_,y3,d3,T,t,X⟩:=j.Ts k XV K;subst t;refine⟨T,d3,?_⟩;have KH:=((UB.trans Ū).trans G).trans F;refine((hs.2 350 _ _ _ _ I).2 i _ #[T,l] j (λg cs C=>C2.mono KH.le cs g 0 (hg g cs C)) ⟨_,_,rfl,X,_,_,rfl,BP.mono KH.le _ _ y,rfl⟩).mono λe w' he=>?_;cases e with
       |returned v=>obtain⟨U6,z,E,x,_⟩:=he;exact⟨⟨v,rfl⟩,U6,z,KH.trans E,x,λe=>by cases e⟩
       |_=>exact he.elim
     .cases AM
    .cases AM
   .cases AM
  .cases AM
 .cases AM
end Go.Am
