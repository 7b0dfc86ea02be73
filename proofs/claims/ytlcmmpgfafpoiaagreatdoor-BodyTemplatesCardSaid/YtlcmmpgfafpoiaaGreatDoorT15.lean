/- Lemmas -/
import Derived.Test.YtlcmmpgfafpoiaaGreatDoorT14
import Derived.Conc.MuLone
set_option linter.all false
set_option maxHeartbeats 0
set_option maxRecDepth 100000
namespace Go.Am
open Go Go.RowKit Go.Shelf
section
variable{U U':Gh}{h:Ah}{w w':World}
def Hn.aCr(hi:Hn U h w){id g j:Nat}{cs:List Aa}(hcs:h[id]?=some (.cells cs))(hg:U.mu id=some g)(hj:j<cs.length){u:Aa}{v:Value}(hv:BR U u v)(h1:v.oneCell'=true):
  Hn U (h.set id (.cells (cs.set j u))) (w.setCell ⟨g,j,none⟩ v)/\Lq U w U (w.setCell ⟨g,j,none⟩ v):=by
 obtain⟨us,e,fr,k,n,f,m⟩:=hi.cells id cs hcs g hg;have hl:cs.length<=us.size:=by have:=f.length;simp at this;omega
 rw[setCell_eq_setRow w g j us e fr v k];have c:(us.setIfInBounds j v).toList.take (cs.set j u).length=(us.toList.take cs.length).set j v:=by simp[List.take_set]
 refine Nz hi hcs hg k _ _ AH (by simpa using n) ?_ ?_
 .rw[c];refine Bj.Hd D9 λi a x ha hx=>?_;by_cases b:j=i;.subst b;rw[AO Ab] at ha;rw[AO D9] at hx;cases ha;cases hx;exact hv
  .rw[Ap b] at ha hx;obtain⟨x',d,l⟩:=f.get ha;rw[hx] at d;cases d;exact l
 .rw[c];intro x hx;rcases Dd hx with hx|rfl
  .exact m x hx
  .exact h1
def Hn.Sy(hi:Hn U h w){id g j:Nat}{cs:List Aa}{u:Aa}(hcs:h[id]?=some (.cells cs))(hg:U.mu id=some g)(hj:cs[j]?=some u):
  w.frozen? ⟨g,j,none⟩=false/\∃x,w.cell? ⟨g,j,none⟩=some x/\BR U u x:=by
 obtain⟨x,b,_,a⟩:=NM hi hcs hg hj;obtain⟨us,e,fr,f,d,c,i⟩:=hi.cells id cs hcs g hg;have hl:cs.length<=us.size:=by have:=c.length;simp at this;omega
 have:=(Al.1 hj).1;refine⟨?_,x,b,a⟩;simp only[World.frozen?,f];rcases d with rfl|wU
 .simp
 .simp;omega
end
abbrev aFY:Go.Conc.Locks.MuLink:={lock:=442,unlock:=443,ilock:=454,iunlock:=455,lockSlow:=466,unlockSlow:=469,disable:=462,enable:=464,acquire:=465,relMerge:=467,cas32:=463,add32:=468,tMutex:=345,tIMutex:=343,tPMutex:=399,tPIMutex:=416,tPI32:=418,tUP:=317,tNoCopy:=338,tU32:=273}
open Proofs in
def aFZ:Go.Conc.Locks.MuLib Proofs.Tryz.prog aFY:=
 ⟨Tryz.func442,Tryz.func443,Tryz.func454,Tryz.func455,Tryz.func462,Tryz.func464,Tryz.func465,Tryz.func467,Tryz.func463,Tryz.func468,
  Tryz.underlying343,Tryz.runUnderlying343,Tryz.sizeOf343,Tryz.isAgg343,Tryz.zeroValue343,Tryz.underlying345,Tryz.runUnderlying345,Tryz.sizeOf345,Tryz.isAgg345,Tryz.zeroValue345,
  Tryz.underlying399,Tryz.runUnderlying399,Tryz.sizeOf399,Tryz.isAgg399,Tryz.zeroValue399,Tryz.underlying416,Tryz.runUnderlying416,Tryz.sizeOf416,Tryz.isAgg416,Tryz.zeroValue416,
  Tryz.underlying418,Tryz.runUnderlying418,Tryz.sizeOf418,Tryz.isAgg418,Tryz.zeroValue418,Tryz.underlying317,Tryz.runUnderlying317,Tryz.sizeOf317,Tryz.isAgg317,Tryz.zeroValue317,
  Tryz.underlying338,Tryz.runUnderlying338,Tryz.sizeOf338,Tryz.isAgg338,Tryz.zeroValue338,Tryz.underlying21,Tryz.runUnderlying21,Tryz.sizeOf21,Tryz.isAgg21,Tryz.zeroValue21,Dg⟩
def XH(a:Addr)(x:Value)(u:FrameMode)(w:World)(hc:w.cell? a=some x)(hz:w.frozen? a=false):
  CallsD Proofs.Tryz.prog 444 #[.pointer (some a),.bool true] u w λe b w'=>b=u/\(e= .returned (.tuple #[])/\w'=w.drew.setCell a (.int .u32 1)):=by
 have JO:w.drew.cell? a=some x:=by go_simp
 have Zt:w.drew.frozen? a=false:=by go_simp
 have HT:=run_call_store (P:=Proofs.Tryz.prog) Proofs.Tryz.func456 Dg Dg Dg Dg (k:= .u32) (y:=1) JO Zt;go_enter_d Proofs.Tryz.func444,Proofs.Tryz.ntmps444
 go_wp2
 go_region_calls
 all_goals (go_end0;exact⟨rfl,rfl⟩)
def xL(a:Addr)(d:Int)(w:World)(h0:w.cell? a=some (.int .u32 d)):Calls Proofs.Tryz.prog 433 #[.pointer (some a)] w λe w'=>e= .returned (.bool (d != 0))/\w=w':=by
 have hl:=run_call_load (P:=Proofs.Tryz.prog) Proofs.Tryz.func441 Dg Dg Dg .u32 Dg h0;go_enter Proofs.Tryz.func433,Proofs.Tryz.ntmps433
 go_wp2
 go_ret
 exact⟨rfl,rfl⟩
abbrev sI(b:Nat)(r:Value)(w:World)(Q:World->Prop):Prop:=
 Calls Proofs.Tryz.prog 423 #[r] (w.setCell ⟨b,1,none⟩ (.int .i32 1)) λe w'=>(∃v,e= .returned v)/\Q w'/\w'.cell? ⟨b,0,none⟩=some (.int .u32 0)/\w'.cell? ⟨b,1,none⟩=some (.int .i32 1)/\w'.frozen? ⟨b,0,none⟩=false/\w'.frozen? ⟨b,1,none⟩=false
def ã(b:Nat)(r:Value)(w:World)(Q:World->Prop)(hd:sI b r w Q)
  (h0:w.cell? ⟨b,0,none⟩=some (.int .u32 0)) (h1:w.cell? ⟨b,1,none⟩=some (.int .i32 0))
  (f0:w.frozen? ⟨b,0,none⟩=false) (f1:w.frozen? ⟨b,1,none⟩=false):
  Calls Proofs.Tryz.prog 434 #[.pointer (some ⟨b,0,none⟩),.func (.func 423) #[r] #[]] w λe w'=>e= .returned (.tuple #[])/\
   ∃w'',Q w''/\w'=(w''.drew.setCell ⟨b,0,none⟩ (.int .u32 1)).setCell ⟨b,1,none⟩ (.int .i32 0):=by
 have l0:(w.setCell ⟨b,1,none⟩ (.int .i32 1)).cell? ⟨b,0,none⟩=some (.int .u32 0):=(World.cell?_setCell_other _ ⟨b,1,none⟩ ⟨b,0,none⟩ _ AH).trans h0;have aCb:∀(x:Bool) (w:World),(Op.unary .not (.bool x)).run Proofs.Tryz.prog w= .ok (.bool (!x)) w:=λ_ _=>rfl;go_enter_defers Proofs.Tryz.func434,Proofs.Tryz.ntmps434
 go_wp2_with (first|(go_at_call 442;refine(MuLone.lock_free aFZ ⟨b,1,none⟩ _ (by go_simp) (by go_simp)).mono ?_;rintro e w' ⟨rfl,rfl⟩)|(go_at_call 433;refine(xL _ 0 _ l0).mono ?_;rintro e w' ⟨rfl,rfl⟩)|(go_at_call 423;refine hd.mono ?_;rintro e w' ⟨⟨v,rfl⟩,hq,g,d,z0,a⟩))
 refine leaves_cons (f:=444) (args:=#[.pointer (some ⟨b,0,none⟩),.bool true]) AH (by simp[go_sem]) ?_;refine(XH ⟨b,0,none⟩ (.int .u32 0) .returning _ g z0).mono ?_;rintro e c w'' ⟨rfl,rfl,rfl⟩;refine leaves_cons (f:=443) (args:=#[.pointer (some ⟨b,1,none⟩)]) (by simp[settle]) (by simp[go_sem]) ?_;refine(MuLone.unlock_deferred aFZ ⟨b,1,none⟩ _ _ ?_ (by simp[a])).mono ?_;.exact(World.cell?_setCell_other _ ⟨b,0,none⟩ ⟨b,1,none⟩ _ AH).trans (by rw[World.cell?_drew];exact d)
 rintro e c w'' ⟨rfl,rfl,rfl⟩;simp[Leaves,settle,results,Proofs.Tryz.results434];exact⟨_,hq,rfl⟩
def aF0(b:Nat)(r:Value)(w:World)(Q:World->Prop)(hd:sI b r w Q)
  (h0:w.cell? ⟨b,0,none⟩=some (.int .u32 0)) (h1:w.cell? ⟨b,1,none⟩=some (.int .i32 0))
  (f0:w.frozen? ⟨b,0,none⟩=false) (f1:w.frozen? ⟨b,1,none⟩=false):
  Calls Proofs.Tryz.prog 422 #[.pointer (some ⟨b,0,none⟩),.func (.func 423) #[r] #[]] w λe w'=>e= .returned (.tuple #[])/\
   ∃w'',Q w''/\w'=(w''.drew.setCell ⟨b,0,none⟩ (.int .u32 1)).setCell ⟨b,1,none⟩ (.int .i32 0):=by
 have aCb:∀(x:Bool) (w:World),(Op.unary .not (.bool x)).run Proofs.Tryz.prog w= .ok (.bool (!x)) w:=λ_ _=>rfl;go_enter Proofs.Tryz.func422,Proofs.Tryz.ntmps422
 go_wp2_with (first|(go_at_call 433;refine(xL _ 0 _ h0).mono ?_;rintro e w' ⟨rfl,rfl⟩)|(go_at_call 434;refine(ã b r w Q hd h0 h1 f0 f1).mono ?_;rintro e w' ⟨rfl,w'',hq,rfl⟩))
 go_end0
 exact⟨rfl,w'',hq,rfl⟩
def aCs(x:Value)(w:World):(method 557 384 x "Replace").run Proofs.Tryz.prog w= .ok (503,x) w:=by kernel_rfl
def aCt(b:Nat)(s:Value)(w:World)(Q:World->Prop)(R:Ending->World->Prop)(hd:sI b (.pointer (some ⟨b,0,none⟩)) w Q)
  (h0:w.cell? ⟨b,0,none⟩=some (.int .u32 0)) (h1:w.cell? ⟨b,1,none⟩=some (.int .i32 0))
  (f0:w.frozen? ⟨b,0,none⟩=false) (f1:w.frozen? ⟨b,1,none⟩=false)
  (hq:∀w'',Q w''->∃x,((w''.drew.setCell ⟨b,0,none⟩ (.int .u32 1)).setCell ⟨b,1,none⟩ (.int .i32 0)).cell? ⟨b,3,none⟩=some (.iface 384 x)/\
   Calls Proofs.Tryz.prog 503 #[x,s] ((w''.drew.setCell ⟨b,0,none⟩ (.int .u32 1)).setCell ⟨b,1,none⟩ (.int .i32 0)) λe w'=>(∃v,e= .returned v)/\R e w'):
  Calls Proofs.Tryz.prog 394 #[.pointer (some ⟨b,0,none⟩),s] w R:=by
 have c:∀(fn:Fn) (first cap:Array Value) (w:World),(Instr.makeFunc fn first cap).run Proofs.Tryz.prog w= .ok (.func fn first cap) w:=λ_ _ _ _=>rfl;have Vx:=aCs;go_enter Proofs.Tryz.func394,Proofs.Tryz.ntmps394
 go_wp2_with (first|(go_at_call 422;refine(aF0 b _ w Q hd h0 h1 f0 f1).mono ?_;clear hd h0 h1 f0 f1;rintro e w' ⟨rfl,w'',th,a⟩;obtain⟨x,hx,hc⟩:=hq w'' th;rw[<-a] at hx hc;clear hq a)|(go_at_call 503;refine hc.mono ?_;rintro e d ⟨⟨v,rfl⟩,hr⟩))
 exact hr
variable{h:Ah}
def tj{id:Nat}{v:Aa}(e:A7 h (some 3) (.ptr (some (id,0)))=some v):∃cs,h[id]?=some (.cells cs)/\3<=cs.length/\v= .agg (cs.take 3):=by
 simp only[A7] at e;split at e
 .rename_i cs hc;simp only[Fv] at e;split at e;.rename_i hl;cases e;exact⟨cs,hc,Ab,rfl⟩
  .cases e
 .cases e
def dW{id o:Nat}{v:Aa}{h1:Ah}(hv:v.cells=[v])(e:Co h 1 (.ptr (some (id,o))) v=some h1):∃cs,h[id]?=some (.cells cs)/\o<cs.length/\h1=h.set id (.cells (cs.set o v)):=by
 simp only[Co] at e;split at e
 .rename_i cs hc;split at e
  .rename_i hl;have a:o<cs.length:=Ab;have hs:cs.take o++[v]++cs.drop (o+1)=cs.set o v:=by rw[BQ,Af a];simp
   rw[hv,hs] at e;cases e;exact⟨cs,hc,a,rfl⟩
  .cases e
 .cases e
def aP{cs:List Aa}{a b c:Aa}(e:Aa.agg (cs.take 3)= .agg [a,b,c]):cs[0]?=some a/\cs[1]?=some b/\cs[2]?=some c:=by
 injection e with e
 match cs,e with
 |a'::b'::c'::l,e=>simp at e;simp[e]
 |[_,_],e=>simp at e
 |[_],e=>simp at e
 |[],e=>simp at e
def ä(n:Nat)(hs:Fh cx (IT.run (B9 cx) n))(args:List Aa)(r:Aa)(h':Ah)(A4:IT.step (B9 cx) (IT.run (B9 cx) n) (XG 423 503 384 args) h=some (.ret,[r],h')):
  (∃fn c,cx.P.funcs[EF 394]?=some fn/\(fn.name== "runtime.NumGoroutine")=false/\fn.body=some c)/\
  ∀(U:Gh) (w:World) (cargs:Array Value),Hn U h w->(∀g cs,cx.Hb g=some cs->C6 U cs g 0)->Bj U args cargs.toList->
   Calls cx.P (EF 394) cargs w λe w'=>match e with
    | .returned v=>∃U',Hn U' h' w'/\Lq U w U' w'/\BR U' r v/\(cx.Jk 394=true->∃s c,IY U' w.heap.size w' s c v r)
    |_=>False:=by
 refine⟨⟨_,_,Proofs.Tryz.func394,rfl,rfl⟩,λU w cargs hi hg ha=>?_⟩;unfold XG at A4;split at A4
 .rename_i id s;simp only[IT.step] at A4;cases R:A7 h (some 3) (.ptr (some (id,0))) with
  |none=>simp[R] at A4
  |some v1=>
  simp only[R] at A4;split at A4
  .rename_i Tw;have Tw:=Aa.beq_eq Tw;cases Q:Co h 1 (.ptr (some (id,1))) (.int .i32 1) with
   |none=>simp[Q] at A4
   |some h1=>
   simp only[Q] at A4;cases O:IT.run (B9 cx) n (B9 cx 423 [.ptr (some (id,0))]) h1 with
   |none=>simp[O] at A4
   |some R3=>
   simp only[O] at A4;split at A4
   .rename_i r3 h2 KD;cases KD;cases N:A7 h2 (some 3) (.ptr (some (id,0))) with
    |none=>simp[N] at A4
    |some v4=>
    simp only[N] at A4;split at A4
    .rename_i d;have d:=Aa.beq_eq d;cases M:Co h2 1 (.ptr (some (id,0))) (.int .u32 1) with
     |none=>simp[M] at A4
     |some Z=>
     simp only[M] at A4;cases L:Co Z 1 (.ptr (some (id,1))) (.int .i32 0) with
     |none=>simp[L] at A4
     |some G=>
     simp only[L] at A4;cases K:A7 G none (.ptr (some (id,3))) with
     |none=>simp[K] at A4
     |some v7=>
     simp only[K,E7] at A4;cases f:sF 384 G [v7] with
     |none=>simp[f] at A4
     |some R8=>
     obtain⟨T,u⟩:=R8;simp only[f] at A4;have I:v7= .iface 384 u/\T=G:=by
      cases v7 with
      |iface t' v=>
       simp only[sF] at f;split at f;.rename_i ht;cases f;subst ht;exact⟨rfl,rfl⟩
       .cases f
      |_=>cases f
     obtain⟨rfl,rfl⟩:=I;cases H:IT.run (B9 cx) n (B9 cx 503 [u,s]) T with
     |none=>simp[H] at A4
     |some R9=>
     simp only[H] at A4;split at A4
     .rename_i r9 h9 KD;cases KD;cases A4;obtain⟨cs,RS,Wa,rfl⟩:=tj R;obtain⟨g0,g1,g2⟩:=aP Tw;obtain⟨Ha,aF2,aLb,rfl⟩:=dW rfl Q;rw[RS] at aF2;cases aF2;obtain⟨Sr,IZ,aQ,rfl⟩:=tj N;obtain⟨Y,X,k2⟩:=aP d;obtain⟨aQt,aF3,aLc,rfl⟩:=dW rfl M;rw[IZ] at aF3;cases aF3;obtain⟨cs3,Nv,lM,rfl⟩:=dW rfl L;have gm:id<h2.length:=(Al.1 IZ).1;have aQu:id<h.length:=(Al.1 RS).1;rw[AO gm] at Nv;cases Nv;have k:((h2.set id (.cells (Sr.set 0 (.int .u32 1)))).set id (.cells ((Sr.set 0 (.int .u32 1)).set 1 (.int .i32 0))))[id]?=some (.cells ((Sr.set 0 (.int .u32 1)).set 1 (.int .i32 0))):=AO (by simpa using gm);have J:((Sr.set 0 (.int .u32 1)).set 1 (.int .i32 0))[3]?=some (.iface 384 u):=by simpa only[A7,k,Fv] using K
      obtain⟨v0,us,C,⟨b,hm,rfl⟩,l,DR,rfl,y,hnil⟩:=ha;cases hnil;have a:cargs=#[.pointer (some ⟨b,0,none⟩),l]:=by apply HD;simpa using C
      subst a;obtain⟨f0,x0,c0,q⟩:=hi.Sy RS hm g0;obtain⟨f1,x1,c1,p⟩:=hi.Sy RS hm g1;cases q;cases p;obtain⟨VB,ZE⟩:=hi.aCr RS hm aLb (u:= .int .i32 1) (v:= .int .i32 1) rfl rfl;refine aCt b l w (λw''=>∃i,Hn i h2 w''/\Lq U w i w'') _ ?_ c0 c1 f0 f1 ?_
      .refine((hs.2 423 _ _ _ _ O).2 U _ #[.pointer (some ⟨b,0,none⟩)] VB hg ⟨_,_,rfl,⟨b,hm,rfl⟩,rfl⟩).mono λe w' he=>?_;cases e with
       |returned v=>obtain⟨i,V0,O8,_,_⟩:=he;have Vv:=O8.le.mu _ _ hm;obtain⟨z0,y0,d0,o⟩:=V0.Sy IZ Vv Y;obtain⟨V,y1,d1,m⟩:=V0.Sy IZ Vv X;cases o;cases m;exact⟨⟨v,rfl⟩,⟨i,V0,ZE.trans O8⟩,d0,d1,z0,V⟩
       |_=>exact he.elim
      .rintro w'' ⟨i,V0,O8⟩;have Vv:=O8.le.mu _ _ hm;obtain⟨ß,sH⟩:=V0.Lu ((Below.refl _ _).drew);obtain⟨A,F⟩:=ß.aCr IZ Vv aLc (u:= .int .u32 1) (v:= .int .u32 1) rfl rfl;obtain⟨j,E⟩:=A.aCr (AO gm) Vv lM (u:= .int .i32 0) (v:= .int .i32 0) rfl rfl;obtain⟨_,y3,d3,S,t,W⟩:=j.Sy k Vv J;subst t;refine⟨S,d3,?_⟩;have Kn:=((O8.trans sH).trans F).trans E;refine((hs.2 503 _ _ _ _ H).2 i _ #[S,l] j (λg cs B=>C6.mono Kn.le cs g 0 (hg g cs B)) ⟨_,_,rfl,W,_,_,rfl,BR.mono Kn.le _ _ y,rfl⟩).mono λe w' he=>?_;cases e with
       |returned v=>obtain⟨U6,z,D,x,_⟩:=he;exact⟨⟨v,rfl⟩,U6,z,Kn.trans D,x,λe=>by cases e⟩
       |_=>exact he.elim
     .cases A4
    .cases A4
   .cases A4
  .cases A4
 .cases A4
end Go.Am
