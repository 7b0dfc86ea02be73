/- Lemmas -/
import Derived.Test.YtkaolmlpcamojaaGreatDoorH14
import Derived.Conc.MuLone
set_option linter.all false
set_option maxHeartbeats 0
set_option maxRecDepth 100000
namespace Go.Am
open Go Go.RowKit Go.Shelf
section
variable{U U':Gh}{h:Ai}{w w':World}
def Hv.aDj(hi:Hv U h w){id g j:Nat}{cs:List Aa}(hcs:h[id]?=some (.cells cs))(hg:U.mu id=some g)(hj:j<cs.length){u:Aa}{v:Value}(hv:BQ U u v)(h1:v.oneCell'=true):
  Hv U (h.set id (.cells (cs.set j u))) (w.setCell ⟨g,j,none⟩ v)/\LI U w U (w.setCell ⟨g,j,none⟩ v):=by
 obtain⟨us,e,fr,k,n,f,m⟩:=hi.cells id cs hcs g hg;have hl:cs.length<=us.size:=by have:=f.length;simp at this;omega
 rw[setCell_eq_setRow w g j us e fr v k];have c:(us.setIfInBounds j v).toList.take (cs.set j u).length=(us.toList.take cs.length).set j v:=by simp[List.take_set]
 refine NY hi hcs hg k _ _ AH (by simpa using n) ?_ ?_
 .rw[c];refine Bl.Hm Ei λi a x ha hx=>?_;by_cases b:j=i;.subst b;rw[AO Ac] at ha;rw[AO Ei] at hx;cases ha;cases hx;exact hv
  .rw[As b] at ha hx;obtain⟨x',d,l⟩:=f.get ha;rw[hx] at d;cases d;exact l
 .rw[c];intro x hx;rcases De hx with hx|rfl
  .exact m x hx
  .exact h1
def Hv.Ta(hi:Hv U h w){id g j:Nat}{cs:List Aa}{u:Aa}(hcs:h[id]?=some (.cells cs))(hg:U.mu id=some g)(hj:cs[j]?=some u):
  w.frozen? ⟨g,j,none⟩=false/\∃x,w.cell? ⟨g,j,none⟩=some x/\BQ U u x:=by
 obtain⟨x,b,_,a⟩:=N9 hi hcs hg hj;obtain⟨us,e,fr,f,d,c,i⟩:=hi.cells id cs hcs g hg;have hl:cs.length<=us.size:=by have:=c.length;simp at this;omega
 have:=(An.1 hj).1;refine⟨?_,x,b,a⟩;simp only[World.frozen?,f];rcases d with rfl|zA
 .simp
 .simp;omega
end
abbrev aGR:Go.Conc.Locks.MuLink:={lock:=442,unlock:=443,ilock:=454,iunlock:=455,lockSlow:=466,unlockSlow:=469,disable:=462,enable:=464,acquire:=465,relMerge:=467,cas32:=463,add32:=468,tMutex:=345,tIMutex:=343,tPMutex:=399,tPIMutex:=416,tPI32:=418,tUP:=317,tNoCopy:=338,tU32:=273}
open Proofs in
def aGS:Go.Conc.Locks.MuLib Proofs.Tryz.prog aGR:=
 ⟨Tryz.func442,Tryz.func443,Tryz.func454,Tryz.func455,Tryz.func462,Tryz.func464,Tryz.func465,Tryz.func467,Tryz.func463,Tryz.func468,
  Tryz.underlying343,Tryz.runUnderlying343,Tryz.sizeOf343,Tryz.isAgg343,Tryz.zeroValue343,Tryz.underlying345,Tryz.runUnderlying345,Tryz.sizeOf345,Tryz.isAgg345,Tryz.zeroValue345,
  Tryz.underlying399,Tryz.runUnderlying399,Tryz.sizeOf399,Tryz.isAgg399,Tryz.zeroValue399,Tryz.underlying416,Tryz.runUnderlying416,Tryz.sizeOf416,Tryz.isAgg416,Tryz.zeroValue416,
  Tryz.underlying418,Tryz.runUnderlying418,Tryz.sizeOf418,Tryz.isAgg418,Tryz.zeroValue418,Tryz.underlying317,Tryz.runUnderlying317,Tryz.sizeOf317,Tryz.isAgg317,Tryz.zeroValue317,
  Tryz.underlying338,Tryz.runUnderlying338,Tryz.sizeOf338,Tryz.isAgg338,Tryz.zeroValue338,Tryz.underlying21,Tryz.runUnderlying21,Tryz.sizeOf21,Tryz.isAgg21,Tryz.zeroValue21,Dg⟩
def Yd(a:Addr)(x:Value)(u:FrameMode)(w:World)(hc:w.cell? a=some x)(hz:w.frozen? a=false):
  CallsD Proofs.Tryz.prog 444 #[.pointer (some a),.bool true] u w λe b w'=>b=u/\(e= .returned (.tuple #[])/\w'=w.drew.setCell a (.int .u32 1)):=by
 have Kw:w.drew.cell? a=some x:=by go_simp
 have ZV:w.drew.frozen? a=false:=by go_simp
 have Ib:=run_call_store (P:=Proofs.Tryz.prog) Proofs.Tryz.func456 Dg Dg Dg Dg (k:= .u32) (y:=1) Kw ZV;go_enter_d Proofs.Tryz.func444,Proofs.Tryz.ntmps444
 go_wp2
 go_region_calls
 all_goals (go_end0;exact⟨rfl,rfl⟩)
def zR(a:Addr)(d:Int)(w:World)(h0:w.cell? a=some (.int .u32 d)):Calls Proofs.Tryz.prog 433 #[.pointer (some a)] w λe w'=>e= .returned (.bool (d != 0))/\w=w':=by
 have hl:=run_call_load (P:=Proofs.Tryz.prog) Proofs.Tryz.func441 Dg Dg Dg .u32 Dg h0;go_enter Proofs.Tryz.func433,Proofs.Tryz.ntmps433
 go_wp2
 go_ret
 exact⟨rfl,rfl⟩
abbrev uL(b:Nat)(r:Value)(w:World)(Q:World->Prop):Prop:=
 Calls Proofs.Tryz.prog 423 #[r] (w.setCell ⟨b,1,none⟩ (.int .i32 1)) λe w'=>(∃v,e= .returned v)/\Q w'/\w'.cell? ⟨b,0,none⟩=some (.int .u32 0)/\w'.cell? ⟨b,1,none⟩=some (.int .i32 1)/\w'.frozen? ⟨b,0,none⟩=false/\w'.frozen? ⟨b,1,none⟩=false
def ĕ(b:Nat)(r:Value)(w:World)(Q:World->Prop)(hd:uL b r w Q)
  (h0:w.cell? ⟨b,0,none⟩=some (.int .u32 0)) (h1:w.cell? ⟨b,1,none⟩=some (.int .i32 0))
  (f0:w.frozen? ⟨b,0,none⟩=false) (f1:w.frozen? ⟨b,1,none⟩=false):
  Calls Proofs.Tryz.prog 434 #[.pointer (some ⟨b,0,none⟩),.func (.func 423) #[r] #[]] w λe w'=>e= .returned (.tuple #[])/\
   ∃w'',Q w''/\w'=(w''.drew.setCell ⟨b,0,none⟩ (.int .u32 1)).setCell ⟨b,1,none⟩ (.int .i32 0):=by
 have l0:(w.setCell ⟨b,1,none⟩ (.int .i32 1)).cell? ⟨b,0,none⟩=some (.int .u32 0):=(World.cell?_setCell_other _ ⟨b,1,none⟩ ⟨b,0,none⟩ _ AH).trans h0;have aC4:∀(x:Bool) (w:World),(Op.unary .not (.bool x)).run Proofs.Tryz.prog w= .ok (.bool (!x)) w:=λ_ _=>rfl;go_enter_defers Proofs.Tryz.func434,Proofs.Tryz.ntmps434
 go_wp2_with (first|(go_at_call 442;refine(MuLone.lock_free aGS ⟨b,1,none⟩ _ (by go_simp) (by go_simp)).mono ?_;rintro e w' ⟨rfl,rfl⟩)|(go_at_call 433;refine(zR _ 0 _ l0).mono ?_;rintro e w' ⟨rfl,rfl⟩)|(go_at_call 423;refine hd.mono ?_;rintro e w' ⟨⟨v,rfl⟩,hq,g,d,z0,a⟩))
 refine leaves_cons (f:=444) (args:=#[.pointer (some ⟨b,0,none⟩),.bool true]) AH (by simp[go_sem]) ?_;refine(Yd ⟨b,0,none⟩ (.int .u32 0) .returning _ g z0).mono ?_;rintro e c w'' ⟨rfl,rfl,rfl⟩;refine leaves_cons (f:=443) (args:=#[.pointer (some ⟨b,1,none⟩)]) (by simp[settle]) (by simp[go_sem]) ?_;refine(MuLone.unlock_deferred aGS ⟨b,1,none⟩ _ _ ?_ (by simp[a])).mono ?_;.exact(World.cell?_setCell_other _ ⟨b,0,none⟩ ⟨b,1,none⟩ _ AH).trans (by rw[World.cell?_drew];exact d)
 rintro e c w'' ⟨rfl,rfl,rfl⟩;simp[Leaves,settle,results,Proofs.Tryz.results434];exact⟨_,hq,rfl⟩
def aGT(b:Nat)(r:Value)(w:World)(Q:World->Prop)(hd:uL b r w Q)
  (h0:w.cell? ⟨b,0,none⟩=some (.int .u32 0)) (h1:w.cell? ⟨b,1,none⟩=some (.int .i32 0))
  (f0:w.frozen? ⟨b,0,none⟩=false) (f1:w.frozen? ⟨b,1,none⟩=false):
  Calls Proofs.Tryz.prog 422 #[.pointer (some ⟨b,0,none⟩),.func (.func 423) #[r] #[]] w λe w'=>e= .returned (.tuple #[])/\
   ∃w'',Q w''/\w'=(w''.drew.setCell ⟨b,0,none⟩ (.int .u32 1)).setCell ⟨b,1,none⟩ (.int .i32 0):=by
 have aC4:∀(x:Bool) (w:World),(Op.unary .not (.bool x)).run Proofs.Tryz.prog w= .ok (.bool (!x)) w:=λ_ _=>rfl;go_enter Proofs.Tryz.func422,Proofs.Tryz.ntmps422
 go_wp2_with (first|(go_at_call 433;refine(zR _ 0 _ h0).mono ?_;rintro e w' ⟨rfl,rfl⟩)|(go_at_call 434;refine(ĕ b r w Q hd h0 h1 f0 f1).mono ?_;rintro e w' ⟨rfl,w'',hq,rfl⟩))
 go_end0
 exact⟨rfl,w'',hq,rfl⟩
def aDk(x:Value)(w:World):(method 557 384 x "Replace").run Proofs.Tryz.prog w= .ok (503,x) w:=by kernel_rfl
def aDl(b:Nat)(s:Value)(w:World)(Q:World->Prop)(R:Ending->World->Prop)(hd:uL b (.pointer (some ⟨b,0,none⟩)) w Q)
  (h0:w.cell? ⟨b,0,none⟩=some (.int .u32 0)) (h1:w.cell? ⟨b,1,none⟩=some (.int .i32 0))
  (f0:w.frozen? ⟨b,0,none⟩=false) (f1:w.frozen? ⟨b,1,none⟩=false)
  (hq:∀w'',Q w''->∃x,((w''.drew.setCell ⟨b,0,none⟩ (.int .u32 1)).setCell ⟨b,1,none⟩ (.int .i32 0)).cell? ⟨b,3,none⟩=some (.iface 384 x)/\
   Calls Proofs.Tryz.prog 503 #[x,s] ((w''.drew.setCell ⟨b,0,none⟩ (.int .u32 1)).setCell ⟨b,1,none⟩ (.int .i32 0)) λe w'=>(∃v,e= .returned v)/\R e w'):
  Calls Proofs.Tryz.prog 394 #[.pointer (some ⟨b,0,none⟩),s] w R:=by
 have c:∀(fn:Fn) (first cap:Array Value) (w:World),(Instr.makeFunc fn first cap).run Proofs.Tryz.prog w= .ok (.func fn first cap) w:=λ_ _ _ _=>rfl;have V8:=aDk;go_enter Proofs.Tryz.func394,Proofs.Tryz.ntmps394
 go_wp2_with (first|(go_at_call 422;refine(aGT b _ w Q hd h0 h1 f0 f1).mono ?_;clear hd h0 h1 f0 f1;rintro e w' ⟨rfl,w'',vz,a⟩;obtain⟨x,hx,hc⟩:=hq w'' vz;rw[<-a] at hx hc;clear hq a)|(go_at_call 503;refine hc.mono ?_;rintro e d ⟨⟨v,rfl⟩,hr⟩))
 exact hr
variable{h:Ai}
def v_{id:Nat}{v:Aa}(e:A7 h (some 3) (.ptr (some (id,0)))=some v):∃cs,h[id]?=some (.cells cs)/\3<=cs.length/\v= .agg (cs.take 3):=by
 simp only[A7] at e;split at e
 .rename_i cs hc;simp only[Fu] at e;split at e;.rename_i hl;cases e;exact⟨cs,hc,Ac,rfl⟩
  .cases e
 .cases e
def fE{id o:Nat}{v:Aa}{h1:Ai}(hv:v.cells=[v])(e:Cv h 1 (.ptr (some (id,o))) v=some h1):∃cs,h[id]?=some (.cells cs)/\o<cs.length/\h1=h.set id (.cells (cs.set o v)):=by
 simp only[Cv] at e;split at e
 .rename_i cs hc;split at e
  .rename_i hl;have a:o<cs.length:=Ac;have hs:cs.take o++[v]++cs.drop (o+1)=cs.set o v:=by rw[B0,Af a];simp
   rw[hv,hs] at e;cases e;exact⟨cs,hc,a,rfl⟩
  .cases e
 .cases e
def bT{cs:List Aa}{a b c:Aa}(e:Aa.agg (cs.take 3)= .agg [a,b,c]):cs[0]?=some a/\cs[1]?=some b/\cs[2]?=some c:=by
 injection e with e
 match cs,e with
 |a'::b'::c'::l,e=>simp at e;simp[e]
 |[_,_],e=>simp at e
 |[_],e=>simp at e
 |[],e=>simp at e
def Ė(n:Nat)(hs:Fj cx (IT.run (Ca cx) n))(args:List Aa)(r:Aa)(h':Ai)(A3:IT.step (Ca cx) (IT.run (Ca cx) n) (Yc 423 503 384 args) h=some (.ret,[r],h')):
  (∃fn c,cx.P.funcs[EH 394]?=some fn/\(fn.name== "runtime.NumGoroutine")=false/\fn.body=some c)/\
  ∀(U:Gh) (w:World) (cargs:Array Value),Hv U h w->(∀g cs,cx.Hk g=some cs->C8 U cs g 0)->Bl U args cargs.toList->
   Calls cx.P (EH 394) cargs w λe w'=>match e with
    | .returned v=>∃U',Hv U' h' w'/\LI U w U' w'/\BQ U' r v/\(cx.Jq 394=true->∃s c,I6 U' w.heap.size w' s c v r)
    |_=>False:=by
 refine⟨⟨_,_,Proofs.Tryz.func394,rfl,rfl⟩,λU w cargs hi hg ha=>?_⟩;unfold Yc at A3;split at A3
 .rename_i id s;simp only[IT.step] at A3;cases R:A7 h (some 3) (.ptr (some (id,0))) with
  |none=>simp[R] at A3
  |some v1=>
  simp only[R] at A3;split at A3
  .rename_i TZ;have TZ:=Aa.beq_eq TZ;cases Q:Cv h 1 (.ptr (some (id,1))) (.int .i32 1) with
   |none=>simp[Q] at A3
   |some h1=>
   simp only[Q] at A3;cases O:IT.run (Ca cx) n (Ca cx 423 [.ptr (some (id,0))]) h1 with
   |none=>simp[O] at A3
   |some R3=>
   simp only[O] at A3;split at A3
   .rename_i r3 h2 KR;cases KR;cases N:A7 h2 (some 3) (.ptr (some (id,0))) with
    |none=>simp[N] at A3
    |some v4=>
    simp only[N] at A3;split at A3
    .rename_i d;have d:=Aa.beq_eq d;cases M:Cv h2 1 (.ptr (some (id,0))) (.int .u32 1) with
     |none=>simp[M] at A3
     |some Z=>
     simp only[M] at A3;cases L:Cv Z 1 (.ptr (some (id,1))) (.int .i32 0) with
     |none=>simp[L] at A3
     |some G=>
     simp only[L] at A3;cases K:A7 G none (.ptr (some (id,3))) with
     |none=>simp[K] at A3
     |some v7=>
     simp only[K,Ep] at A3;cases f:uI 384 G [v7] with
     |none=>simp[f] at A3
     |some R8=>
     obtain⟨T,u⟩:=R8;simp only[f] at A3;have I:v7= .iface 384 u/\T=G:=by
      cases v7 with
      |iface t' v=>
       simp only[uI] at f;split at f;.rename_i ht;cases f;subst ht;exact⟨rfl,rfl⟩
       .cases f
      |_=>cases f
     obtain⟨rfl,rfl⟩:=I;cases H:IT.run (Ca cx) n (Ca cx 503 [u,s]) T with
     |none=>simp[H] at A3
     |some R9=>
     simp only[H] at A3;split at A3
     .rename_i r9 h9 KR;cases KR;cases A3;obtain⟨cs,SA,WM,rfl⟩:=v_ R;obtain⟨g0,g1,g2⟩:=bT TZ;obtain⟨Hi,aGV,aMc,rfl⟩:=fE rfl Q;rw[SA] at aGV;cases aGV;obtain⟨S4,I7,bU,rfl⟩:=v_ N;obtain⟨Y,X,k2⟩:=bT d;obtain⟨aRJ,aGW,aMd,rfl⟩:=fE rfl M;rw[I7] at aGW;cases aGW;obtain⟨cs3,NR,nE,rfl⟩:=fE rfl L;have ke:id<h2.length:=(An.1 I7).1;have aRK:id<h.length:=(An.1 SA).1;rw[AO ke] at NR;cases NR;have k:((h2.set id (.cells (S4.set 0 (.int .u32 1)))).set id (.cells ((S4.set 0 (.int .u32 1)).set 1 (.int .i32 0))))[id]?=some (.cells ((S4.set 0 (.int .u32 1)).set 1 (.int .i32 0))):=AO (by simpa using ke);have J:((S4.set 0 (.int .u32 1)).set 1 (.int .i32 0))[3]?=some (.iface 384 u):=by simpa only[A7,k,Fu] using K
      obtain⟨v0,us,C,⟨b,hm,rfl⟩,l,DQ,rfl,y,hnil⟩:=ha;cases hnil;have a:cargs=#[.pointer (some ⟨b,0,none⟩),l]:=by apply HM;simpa using C
      subst a;obtain⟨f0,x0,c0,q⟩:=hi.Ta SA hm g0;obtain⟨f1,x1,c1,p⟩:=hi.Ta SA hm g1;cases q;cases p;obtain⟨Wc,Z9⟩:=hi.aDj SA hm aMc (u:= .int .i32 1) (v:= .int .i32 1) rfl rfl;refine aDl b l w (λw''=>∃i,Hv i h2 w''/\LI U w i w'') _ ?_ c0 c1 f0 f1 ?_
      .refine((hs.2 423 _ _ _ _ O).2 U _ #[.pointer (some ⟨b,0,none⟩)] Wc hg ⟨_,_,rfl,⟨b,hm,rfl⟩,rfl⟩).mono λe w' he=>?_;cases e with
       |returned v=>obtain⟨i,WG,Pz,_,_⟩:=he;have V5:=Pz.le.mu _ _ hm;obtain⟨z0,y0,d0,o⟩:=WG.Ta I7 V5 Y;obtain⟨V,y1,d1,m⟩:=WG.Ta I7 V5 X;cases o;cases m;exact⟨⟨v,rfl⟩,⟨i,WG,Z9.trans Pz⟩,d0,d1,z0,V⟩
       |_=>exact he.elim
      .rintro w'' ⟨i,WG,Pz⟩;have V5:=Pz.le.mu _ _ hm;obtain⟨đ,uK⟩:=WG.LM ((Below.refl _ _).drew);obtain⟨A,F⟩:=đ.aDj I7 V5 aMd (u:= .int .u32 1) (v:= .int .u32 1) rfl rfl;obtain⟨j,E⟩:=A.aDj (AO ke) V5 nE (u:= .int .i32 0) (v:= .int .i32 0) rfl rfl;obtain⟨_,y3,d3,S,t,W⟩:=j.Ta k V5 J;subst t;refine⟨S,d3,?_⟩;have Kv:=((Pz.trans uK).trans F).trans E;refine((hs.2 503 _ _ _ _ H).2 i _ #[S,l] j (λg cs B=>C8.mono Kv.le cs g 0 (hg g cs B)) ⟨_,_,rfl,W,_,_,rfl,BQ.mono Kv.le _ _ y,rfl⟩).mono λe w' he=>?_;cases e with
       |returned v=>obtain⟨U6,z,D,x,_⟩:=he;exact⟨⟨v,rfl⟩,U6,z,Kv.trans D,x,λe=>by cases e⟩
       |_=>exact he.elim
     .cases A3
    .cases A3
   .cases A3
  .cases A3
 .cases A3
end Go.Am
