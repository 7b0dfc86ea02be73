/- Lemmas -/
import Derived.Test.YtmfdhadocnndiaaGreatDoorS14
import Derived.Conc.MuLone
set_option linter.all false
set_option maxHeartbeats 0
set_option maxRecDepth 100000
namespace Go.Am
open Go Go.RowKit Go.Shelf
section
variable{U U':Gh}{h:Ah}{w w':World}
def Gm.pj(hi:Gm U h w){id g j:Nat}{cs:List Aa}(hcs:h[id]?=some (.cells cs))(hg:U.mu id=some g)(hj:j<cs.length){u:Aa}{v:Value}(hv:Bv U u v)(h1:v.oneCell'=true):
  Gm U (h.set id (.cells (cs.set j u))) (w.setCell ⟨g,j,none⟩ v)/\Kf U w U (w.setCell ⟨g,j,none⟩ v):=by
 obtain⟨us,e,fr,k,n,f,m⟩:=hi.cells id cs hcs g hg;have hl:cs.length<=us.size:=by have:=f.length;simp at this;omega
 rw[setCell_eq_setRow w g j us e fr v k];have c:(us.setIfInBounds j v).toList.take (cs.set j u).length=(us.toList.take cs.length).set j v:=by simp[List.take_set]
 refine LB hi hcs hg k _ _ Av (by simpa using n) ?_ ?_
 .rw[c];refine AQ.FX Ew λi a x ha hx=>?_;by_cases b:j=i;.subst b;rw[AJ Ab] at ha;rw[AJ Ew] at hx;cases ha;cases hx;exact hv
  .rw[Ao b] at ha hx;obtain⟨x',d,l⟩:=f.get ha;rw[hx] at d;cases d;exact l
 .rw[c];intro x hx;rcases Db hx with hx|rfl
  .exact m x hx
  .exact h1
def Gm.PF(hi:Gm U h w){id g j:Nat}{cs:List Aa}{u:Aa}(hcs:h[id]?=some (.cells cs))(hg:U.mu id=some g)(hj:cs[j]?=some u):
  w.frozen? ⟨g,j,none⟩=false/\∃x,w.cell? ⟨g,j,none⟩=some x/\Bv U u x:=by
 obtain⟨x,b,_,a⟩:=LM hi hcs hg hj;obtain⟨us,e,fr,f,d,c,i⟩:=hi.cells id cs hcs g hg;have hl:cs.length<=us.size:=by have:=c.length;simp at this;omega
 have:=(Ai.1 hj).1;refine⟨?_,x,b,a⟩;simp only[World.frozen?,f];rcases d with rfl|gP
 .simp
 .simp;omega
end
abbrev ç:Go.Conc.Locks.MuLink:={lock:=225,unlock:=226,ilock:=235,iunlock:=236,lockSlow:=247,unlockSlow:=250,disable:=243,enable:=245,acquire:=246,relMerge:=248,cas32:=244,add32:=249,tMutex:=251,tIMutex:=249,tPMutex:=305,tPIMutex:=320,tPI32:=322,tUP:=230,tNoCopy:=244,tU32:=169}
open Proofs in
def è:Go.Conc.Locks.MuLib Proofs.Tryz.prog ç:=
 ⟨Tryz.func225,Tryz.func226,Tryz.func235,Tryz.func236,Tryz.func243,Tryz.func245,Tryz.func246,Tryz.func248,Tryz.func244,Tryz.func249,
  Tryz.underlying249,Tryz.runUnderlying249,Tryz.sizeOf249,Tryz.isAgg249,Tryz.zeroValue249,Tryz.underlying251,Tryz.runUnderlying251,Tryz.sizeOf251,Tryz.isAgg251,Tryz.zeroValue251,
  Tryz.underlying305,Tryz.runUnderlying305,Tryz.sizeOf305,Tryz.isAgg305,Tryz.zeroValue305,Tryz.underlying320,Tryz.runUnderlying320,Tryz.sizeOf320,Tryz.isAgg320,Tryz.zeroValue320,
  Tryz.underlying322,Tryz.runUnderlying322,Tryz.sizeOf322,Tryz.isAgg322,Tryz.zeroValue322,Tryz.underlying230,Tryz.runUnderlying230,Tryz.sizeOf230,Tryz.isAgg230,Tryz.zeroValue230,
  Tryz.underlying244,Tryz.runUnderlying244,Tryz.sizeOf244,Tryz.isAgg244,Tryz.zeroValue244,Tryz.underlying21,Tryz.runUnderlying21,Tryz.sizeOf21,Tryz.isAgg21,Tryz.zeroValue21,AU⟩
def Ts(a:Addr)(x:Value)(u:FrameMode)(w:World)(hc:w.cell? a=some x)(hz:w.frozen? a=false):
  CallsD Proofs.Tryz.prog 227 #[.pointer (some a),.bool true] u w λe b w'=>b=u/\(e= .returned (.tuple #[])/\w'=w.drew.setCell a (.int .u32 1)):=by
 have QD:w.drew.cell? a=some x:=by go_simp
 have UG:w.drew.frozen? a=false:=by go_simp
 have Hw:=run_call_store (P:=Proofs.Tryz.prog) Proofs.Tryz.func237 AU AU AU AU (k:= .u32) (y:=1) QD UG;go_enter_d Proofs.Tryz.func227,Proofs.Tryz.ntmps227
 go_wp2
 go_region_calls
 all_goals (go_end0;exact⟨rfl,rfl⟩)
def iG(a:Addr)(d:Int)(w:World)(h0:w.cell? a=some (.int .u32 d)):Calls Proofs.Tryz.prog 214 #[.pointer (some a)] w λe w'=>e= .returned (.bool (d != 0))/\w=w':=by
 have hl:=run_call_load (P:=Proofs.Tryz.prog) Proofs.Tryz.func224 AU AU AU .u32 AU h0;go_enter Proofs.Tryz.func214,Proofs.Tryz.ntmps214
 go_wp2
 go_ret
 exact⟨rfl,rfl⟩
abbrev cL(b:Nat)(r:Value)(w:World)(Q:World->Prop):Prop:=
 Calls Proofs.Tryz.prog 209 #[r] (w.setCell ⟨b,1,none⟩ (.int .i32 1)) λe w'=>(∃v,e= .returned v)/\Q w'/\w'.cell? ⟨b,0,none⟩=some (.int .u32 0)/\w'.cell? ⟨b,1,none⟩=some (.int .i32 1)/\w'.frozen? ⟨b,0,none⟩=false/\w'.frozen? ⟨b,1,none⟩=false
def aq(b:Nat)(r:Value)(w:World)(Q:World->Prop)(hd:cL b r w Q)
  (h0:w.cell? ⟨b,0,none⟩=some (.int .u32 0)) (h1:w.cell? ⟨b,1,none⟩=some (.int .i32 0))
  (f0:w.frozen? ⟨b,0,none⟩=false) (f1:w.frozen? ⟨b,1,none⟩=false):
  Calls Proofs.Tryz.prog 215 #[.pointer (some ⟨b,0,none⟩),.func (.func 209) #[r] #[]] w λe w'=>e= .returned (.tuple #[])/\
   ∃w'',Q w''/\w'=(w''.drew.setCell ⟨b,0,none⟩ (.int .u32 1)).setCell ⟨b,1,none⟩ (.int .i32 0):=by
 have l0:(w.setCell ⟨b,1,none⟩ (.int .i32 1)).cell? ⟨b,0,none⟩=some (.int .u32 0):=(World.cell?_setCell_other _ ⟨b,1,none⟩ ⟨b,0,none⟩ _ Av).trans h0;have oq:∀(x:Bool) (w:World),(Op.unary .not (.bool x)).run Proofs.Tryz.prog w= .ok (.bool (!x)) w:=λ_ _=>rfl;go_enter_defers Proofs.Tryz.func215,Proofs.Tryz.ntmps215
 go_wp2_with (first|(go_at_call 225;refine(MuLone.lock_free è ⟨b,1,none⟩ _ (by go_simp) (by go_simp)).mono ?_;rintro e w' ⟨rfl,rfl⟩)|(go_at_call 214;refine(iG _ 0 _ l0).mono ?_;rintro e w' ⟨rfl,rfl⟩)|(go_at_call 209;refine hd.mono ?_;rintro e w' ⟨⟨v,rfl⟩,hq,g,d,z0,a⟩))
 refine leaves_cons (f:=227) (args:=#[.pointer (some ⟨b,0,none⟩),.bool true]) Av (by simp[go_sem]) ?_;refine(Ts ⟨b,0,none⟩ (.int .u32 0) .returning _ g z0).mono ?_;rintro e c w'' ⟨rfl,rfl,rfl⟩;refine leaves_cons (f:=226) (args:=#[.pointer (some ⟨b,1,none⟩)]) (by simp[settle]) (by simp[go_sem]) ?_;refine(MuLone.unlock_deferred è ⟨b,1,none⟩ _ _ ?_ (by simp[a])).mono ?_;.exact(World.cell?_setCell_other _ ⟨b,0,none⟩ ⟨b,1,none⟩ _ Av).trans (by rw[World.cell?_drew];exact d)
 rintro e c w'' ⟨rfl,rfl,rfl⟩;simp[Leaves,settle,results,Proofs.Tryz.results215];exact⟨_,hq,rfl⟩
def é(b:Nat)(r:Value)(w:World)(Q:World->Prop)(hd:cL b r w Q)
  (h0:w.cell? ⟨b,0,none⟩=some (.int .u32 0)) (h1:w.cell? ⟨b,1,none⟩=some (.int .i32 0))
  (f0:w.frozen? ⟨b,0,none⟩=false) (f1:w.frozen? ⟨b,1,none⟩=false):
  Calls Proofs.Tryz.prog 208 #[.pointer (some ⟨b,0,none⟩),.func (.func 209) #[r] #[]] w λe w'=>e= .returned (.tuple #[])/\
   ∃w'',Q w''/\w'=(w''.drew.setCell ⟨b,0,none⟩ (.int .u32 1)).setCell ⟨b,1,none⟩ (.int .i32 0):=by
 have oq:∀(x:Bool) (w:World),(Op.unary .not (.bool x)).run Proofs.Tryz.prog w= .ok (.bool (!x)) w:=λ_ _=>rfl;go_enter Proofs.Tryz.func208,Proofs.Tryz.ntmps208
 go_wp2_with (first|(go_at_call 214;refine(iG _ 0 _ h0).mono ?_;rintro e w' ⟨rfl,rfl⟩)|(go_at_call 215;refine(aq b r w Q hd h0 h1 f0 f1).mono ?_;rintro e w' ⟨rfl,w'',hq,rfl⟩))
 go_end0
 exact⟨rfl,w'',hq,rfl⟩
def pk(x:Value)(w:World):(method 461 299 x "Replace").run Proofs.Tryz.prog w= .ok (286,x) w:=by kernel_rfl
def po(b:Nat)(s:Value)(w:World)(Q:World->Prop)(R:Ending->World->Prop)(hd:cL b (.pointer (some ⟨b,0,none⟩)) w Q)
  (h0:w.cell? ⟨b,0,none⟩=some (.int .u32 0)) (h1:w.cell? ⟨b,1,none⟩=some (.int .i32 0))
  (f0:w.frozen? ⟨b,0,none⟩=false) (f1:w.frozen? ⟨b,1,none⟩=false)
  (hq:∀w'',Q w''->∃x,((w''.drew.setCell ⟨b,0,none⟩ (.int .u32 1)).setCell ⟨b,1,none⟩ (.int .i32 0)).cell? ⟨b,3,none⟩=some (.iface 299 x)/\
   Calls Proofs.Tryz.prog 286 #[x,s] ((w''.drew.setCell ⟨b,0,none⟩ (.int .u32 1)).setCell ⟨b,1,none⟩ (.int .i32 0)) λe w'=>(∃v,e= .returned v)/\R e w'):
  Calls Proofs.Tryz.prog 197 #[.pointer (some ⟨b,0,none⟩),s] w R:=by
 have a:∀(fn:Fn) (first cap:Array Value) (w:World),(Instr.makeFunc fn first cap).run Proofs.Tryz.prog w= .ok (.func fn first cap) w:=λ_ _ _ _=>rfl;have UC:=pk;go_enter Proofs.Tryz.func197,Proofs.Tryz.ntmps197
 go_wp2_with (first|(go_at_call 208;refine(é b _ w Q hd h0 h1 f0 f1).mono ?_;clear hd h0 h1 f0 f1;rintro e w' ⟨rfl,w'',pq,ze⟩;obtain⟨x,hx,hc⟩:=hq w'' pq;rw[<-ze] at hx hc;clear hq ze)|(go_at_call 286;refine hc.mono ?_;rintro e c ⟨⟨v,rfl⟩,hr⟩))
 exact hr
variable{h:Ah}
def tD{id:Nat}{v:Aa}(e:Bk h (some 3) (.ptr (some (id,0)))=some v):∃cs,h[id]?=some (.cells cs)/\3<=cs.length/\v= .agg (cs.take 3):=by
 simp only[Bk] at e;split at e
 .rename_i cs hc;simp only[Ez] at e;split at e;.rename_i hl;cases e;exact⟨cs,hc,Ab,rfl⟩
  .cases e
 .cases e
def W8{id o:Nat}{v:Aa}{h1:Ah}(hv:v.cells=[v])(e:CK h 1 (.ptr (some (id,o))) v=some h1):∃cs,h[id]?=some (.cells cs)/\o<cs.length/\h1=h.set id (.cells (cs.set o v)):=by
 simp only[CK] at e;split at e
 .rename_i cs hc;split at e
  .rename_i hl;have zr:o<cs.length:=Ab;have hs:cs.take o++[v]++cs.drop (o+1)=cs.set o v:=by rw[Cc,Ad zr];simp
   rw[hv,hs] at e;cases e;exact⟨cs,hc,zr,rfl⟩
  .cases e
 .cases e
def VM{cs:List Aa}{a b c:Aa}(e:Aa.agg (cs.take 3)= .agg [a,b,c]):cs[0]?=some a/\cs[1]?=some b/\cs[2]?=some c:=by
 injection e with e
 match cs,e with
 |a'::b'::c'::l,e=>simp at e;simp[e]
 |[_,_],e=>simp at e
 |[_],e=>simp at e
 |[],e=>simp at e
def ar(n:Nat)(hs:Ej cx (IT.run (BY cx) n))(args:List Aa)(r:Aa)(h':Ah)(AH:IT.step (BY cx) (IT.run (BY cx) n) (Tr 209 286 299 args) h=some (.ret,[r],h')):
  (∃fn c,cx.P.funcs[DX 197]?=some fn/\(fn.name== "runtime.NumGoroutine")=false/\fn.body=some c)/\
  ∀(U:Gh) (w:World) (cargs:Array Value),Gm U h w->(∀g cs,cx.FV g=some cs->Cz U cs g 0)->AQ U args cargs.toList->
   Calls cx.P (DX 197) cargs w λe w'=>match e with
    | .returned v=>∃U',Gm U' h' w'/\Kf U w U' w'/\Bv U' r v/\(cx.HX 197=true->∃s c,HB U' w.heap.size w' s c v r)
    |_=>False:=by
 refine⟨⟨_,_,Proofs.Tryz.func197,rfl,rfl⟩,λU w cargs hi hg ha=>?_⟩;unfold Tr at AH;split at AH
 .rename_i id s;simp only[IT.step] at AH;cases L:Bk h (some 3) (.ptr (some (id,0))) with
  |none=>simp[L] at AH
  |some v1=>
  simp only[L] at AH;split at AH
  .rename_i O8;have O8:=Aa.Th O8;cases K:CK h 1 (.ptr (some (id,1))) (.int .i32 1) with
   |none=>simp[K] at AH
   |some h1=>
   simp only[K] at AH;cases J:IT.run (BY cx) n (BY cx 209 [.ptr (some (id,0))]) h1 with
   |none=>simp[J] at AH
   |some R3=>
   simp only[J] at AH;split at AH
   .rename_i r3 h2 IS;cases IS;cases I:Bk h2 (some 3) (.ptr (some (id,0))) with
    |none=>simp[I] at AH
    |some v4=>
    simp only[I] at AH;split at AH
    .rename_i pt;have pt:=Aa.Th pt;cases H:CK h2 1 (.ptr (some (id,0))) (.int .u32 1) with
     |none=>simp[H] at AH
     |some h3=>
     simp only[H] at AH;cases G:CK h3 1 (.ptr (some (id,1))) (.int .i32 0) with
     |none=>simp[G] at AH
     |some B=>
     simp only[G] at AH;cases F:Bk B none (.ptr (some (id,3))) with
     |none=>simp[F] at AH
     |some v7=>
     simp only[F,D2] at AH;cases d:cJ 299 B [v7] with
     |none=>simp[d] at AH
     |some R8=>
     obtain⟨N,u⟩:=R8;simp only[d] at AH;have D:v7= .iface 299 u/\N=B:=by
      cases v7 with
      |iface t' v=>
       simp only[cJ] at d;split at d;.rename_i ht;cases d;subst ht;exact⟨rfl,rfl⟩
       .cases d
      |_=>cases d
     obtain⟨rfl,rfl⟩:=D;cases C:IT.run (BY cx) n (BY cx 286 [u,s]) N with
     |none=>simp[C] at AH
     |some R9=>
     simp only[C] at AH;split at AH
     .rename_i r9 h9 IS;cases IS;cases AH;obtain⟨cs,UN,Yh,rfl⟩:=tD L;obtain⟨g0,g1,g2⟩:=VM O8;obtain⟨FU,ê,aBJ,rfl⟩:=W8 rfl K;rw[UN] at ê;cases ê;obtain⟨Pv,JJ,Yi,rfl⟩:=tD I;obtain⟨S,R,k2⟩:=VM pt;obtain⟨aHY,ë,aBK,rfl⟩:=W8 rfl H;rw[JJ] at ë;cases ë;obtain⟨X,VN,VO,rfl⟩:=W8 rfl G;have nB:id<h2.length:=(Ai.1 JJ).1;have aHZ:id<h.length:=(Ai.1 UN).1;rw[AJ nB] at VN;cases VN;have ì:((h2.set id (.cells (Pv.set 0 (.int .u32 1)))).set id (.cells ((Pv.set 0 (.int .u32 1)).set 1 (.int .i32 0))))[id]?=some (.cells ((Pv.set 0 (.int .u32 1)).set 1 (.int .i32 0))):=AJ (by simpa using nB);have E:((Pv.set 0 (.int .u32 1)).set 1 (.int .i32 0))[3]?=some (.iface 299 u):=by simpa only[Bk,ì,Ez] using F
      obtain⟨v0,us,yM,⟨b,hm,rfl⟩,j,C4,rfl,gx,hnil⟩:=ha;cases hnil;have a:cargs=#[.pointer (some ⟨b,0,none⟩),j]:=by apply Fw;simpa using yM
      subst a;obtain⟨f0,x0,Z,o⟩:=hi.PF UN hm g0;obtain⟨f1,x1,Y,m⟩:=hi.PF UN hm g1;cases o;cases m;obtain⟨yO,sW⟩:=hi.pj UN hm aBJ (u:= .int .i32 1) (v:= .int .i32 1) rfl rfl;refine po b j w (λw''=>∃f,Gm f h2 w''/\Kf U w f w'') _ ?_ Z Y f0 f1 ?_
      .refine((hs.2 209 _ _ _ _ J).2 U _ #[.pointer (some ⟨b,0,none⟩)] yO hg ⟨_,_,rfl,⟨b,hm,rfl⟩,rfl⟩).mono λe w' he=>?_;cases e with
       |returned v=>obtain⟨f,VF,Pw,_,_⟩:=he;have Td:=Pw.le.mu _ _ hm;obtain⟨z0,y0,W,l⟩:=VF.PF JJ Td S;obtain⟨O,y1,V,k⟩:=VF.PF JJ Td R;cases l;cases k;exact⟨⟨v,rfl⟩,⟨f,VF,sW.trans Pw⟩,W,V,z0,O⟩
       |_=>exact he.elim
      .rintro w'' ⟨f,VF,Pw⟩;have Td:=Pw.le.mu _ _ hm;obtain⟨ak,tC⟩:=VF.JA ((Below.refl _ _).drew);obtain⟨x,A⟩:=ak.pj JJ Td aBK (u:= .int .u32 1) (v:= .int .u32 1) rfl rfl;obtain⟨i,z⟩:=x.pj (AJ nB) Td VO (u:= .int .i32 0) (v:= .int .i32 0) rfl rfl;obtain⟨_,y3,T,M,p,Q⟩:=i.PF ì Td E;subst p;refine⟨M,T,?_⟩;have IC:=((Pw.trans tC).trans A).trans z;refine((hs.2 286 _ _ _ _ C).2 f _ #[M,j] i (λg cs ij=>Cz.mono IC.le cs g 0 (hg g cs ij)) ⟨_,_,rfl,Q,_,_,rfl,Bv.mono IC.le _ _ gx,rfl⟩).mono λe w' he=>?_;cases e with
       |returned v=>obtain⟨U6,t,y,q,_⟩:=he;exact⟨⟨v,rfl⟩,U6,t,IC.trans y,q,λe=>by cases e⟩
       |_=>exact he.elim
     .cases AH
    .cases AH
   .cases AH
  .cases AH
 .cases AH
end Go.Am
