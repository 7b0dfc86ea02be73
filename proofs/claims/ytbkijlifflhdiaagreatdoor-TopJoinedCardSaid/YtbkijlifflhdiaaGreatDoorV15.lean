/- Lemmas -/
import Derived.Test.YtbkijlifflhdiaaGreatDoorV14
import Derived.Conc.MuLone
set_option linter.all false
set_option maxHeartbeats 0
set_option maxRecDepth 100000
namespace Go.Am
open Go Go.RowKit Go.Shelf
section
variable{U U':Gh}{h:Ag}{w w':World}
def Fg.YJ(hi:Fg U h w){id g j:Nat}{cs:List Aa}(hcs:h[id]?=some (.cells cs))(hg:U.mu id=some g)(hj:j<cs.length){u:Aa}{v:Value}(hv:Bp U u v)(h1:v.oneCell'=true):
  Fg U (h.set id (.cells (cs.set j u))) (w.setCell ⟨g,j,none⟩ v)/\IB U w U (w.setCell ⟨g,j,none⟩ v):=by
 obtain⟨us,e,fr,k,n,f,m⟩:=hi.cells id cs hcs g hg;have hl:cs.length<=us.size:=by have:=f.length;simp at this;omega
 rw[setCell_eq_setRow w g j us e fr v k];have c:(us.setIfInBounds j v).toList.take (cs.set j u).length=(us.toList.take cs.length).set j v:=by simp[List.take_set]
 refine Lu hi hcs hg k _ _ Au (by simpa using n) ?_ ?_
 .rw[c];refine AK.Fz D5 λi a x ha hx=>?_;by_cases b:j=i;.subst b;rw[AA Ab] at ha;rw[AA D5] at hx;cases ha;cases hx;exact hv
  .rw[Aj b] at ha hx;obtain⟨x',d,l⟩:=f.get ha;rw[hx] at d;cases d;exact l
 .rw[c];intro x hx;rcases CZ hx with hx|rfl
  .exact m x hx
  .exact h1
def Fg.N5(hi:Fg U h w){id g j:Nat}{cs:List Aa}{u:Aa}(hcs:h[id]?=some (.cells cs))(hg:U.mu id=some g)(hj:cs[j]?=some u):
  w.frozen? ⟨g,j,none⟩=false/\∃x,w.cell? ⟨g,j,none⟩=some x/\Bp U u x:=by
 obtain⟨x,b,_,a⟩:=H5 hi hcs hg hj;obtain⟨us,e,fr,f,d,c,i⟩:=hi.cells id cs hcs g hg;have hl:cs.length<=us.size:=by have:=c.length;simp at this;omega
 have:=(Ae.1 hj).1;refine⟨?_,x,b,a⟩;simp only[World.frozen?,f];rcases d with rfl|fY
 .simp
 .simp;omega
end
abbrev yv:Go.Conc.Locks.MuLink:={lock:=233,unlock:=234,ilock:=245,iunlock:=246,lockSlow:=257,unlockSlow:=260,disable:=253,enable:=255,acquire:=256,relMerge:=258,cas32:=254,add32:=259,tMutex:=252,tIMutex:=250,tPMutex:=308,tPIMutex:=325,tPI32:=327,tUP:=224,tNoCopy:=245,tU32:=150}
open Proofs in
def yw:Go.Conc.Locks.MuLib Proofs.Tryz.prog yv:=
 ⟨Tryz.func233,Tryz.func234,Tryz.func245,Tryz.func246,Tryz.func253,Tryz.func255,Tryz.func256,Tryz.func258,Tryz.func254,Tryz.func259,
  Tryz.underlying250,Tryz.runUnderlying250,Tryz.sizeOf250,Tryz.isAgg250,Tryz.zeroValue250,Tryz.underlying252,Tryz.runUnderlying252,Tryz.sizeOf252,Tryz.isAgg252,Tryz.zeroValue252,
  Tryz.underlying308,Tryz.runUnderlying308,Tryz.sizeOf308,Tryz.isAgg308,Tryz.zeroValue308,Tryz.underlying325,Tryz.runUnderlying325,Tryz.sizeOf325,Tryz.isAgg325,Tryz.zeroValue325,
  Tryz.underlying327,Tryz.runUnderlying327,Tryz.sizeOf327,Tryz.isAgg327,Tryz.zeroValue327,Tryz.underlying224,Tryz.runUnderlying224,Tryz.sizeOf224,Tryz.isAgg224,Tryz.zeroValue224,
  Tryz.underlying245,Tryz.runUnderlying245,Tryz.sizeOf245,Tryz.isAgg245,Tryz.zeroValue245,Tryz.underlying21,Tryz.runUnderlying21,Tryz.sizeOf21,Tryz.isAgg21,Tryz.zeroValue21,AQ⟩
def Td(a:Addr)(x:Value)(u:FrameMode)(w:World)(hc:w.cell? a=some x)(hz:w.frozen? a=false):
  CallsD Proofs.Tryz.prog 235 #[.pointer (some a),.bool true] u w λe b w'=>b=u/\(e= .returned (.tuple #[])/\w'=w.drew.setCell a (.int .u32 1)):=by
 have RG:w.drew.cell? a=some x:=by go_simp
 have Uv:w.drew.frozen? a=false:=by go_simp
 have Hz:=run_call_store (P:=Proofs.Tryz.prog) Proofs.Tryz.func247 AQ AQ AQ AQ (k:= .u32) (y:=1) RG Uv;go_enter_d Proofs.Tryz.func235,Proofs.Tryz.ntmps235
 go_wp2
 go_region_calls
 all_goals (go_end0;exact⟨rfl,rfl⟩)
def gP(a:Addr)(d:Int)(w:World)(h0:w.cell? a=some (.int .u32 d)):Calls Proofs.Tryz.prog 223 #[.pointer (some a)] w λe w'=>e= .returned (.bool (d != 0))/\w=w':=by
 have hl:=run_call_load (P:=Proofs.Tryz.prog) Proofs.Tryz.func232 AQ AQ AQ .u32 AQ h0;go_enter Proofs.Tryz.func223,Proofs.Tryz.ntmps223
 go_wp2
 go_ret
 exact⟨rfl,rfl⟩
abbrev bR(b:Nat)(r:Value)(w:World)(Q:World->Prop):Prop:=
 Calls Proofs.Tryz.prog 212 #[r] (w.setCell ⟨b,1,none⟩ (.int .i32 1)) λe w'=>(∃v,e= .returned v)/\Q w'/\w'.cell? ⟨b,0,none⟩=some (.int .u32 0)/\w'.cell? ⟨b,1,none⟩=some (.int .i32 1)/\w'.frozen? ⟨b,0,none⟩=false/\w'.frozen? ⟨b,1,none⟩=false
def xU(b:Nat)(r:Value)(w:World)(Q:World->Prop)(hd:bR b r w Q)
  (h0:w.cell? ⟨b,0,none⟩=some (.int .u32 0)) (h1:w.cell? ⟨b,1,none⟩=some (.int .i32 0))
  (f0:w.frozen? ⟨b,0,none⟩=false) (f1:w.frozen? ⟨b,1,none⟩=false):
  Calls Proofs.Tryz.prog 224 #[.pointer (some ⟨b,0,none⟩),.func (.func 212) #[r] #[]] w λe w'=>e= .returned (.tuple #[])/\
   ∃w'',Q w''/\w'=(w''.drew.setCell ⟨b,0,none⟩ (.int .u32 1)).setCell ⟨b,1,none⟩ (.int .i32 0):=by
 have l0:(w.setCell ⟨b,1,none⟩ (.int .i32 1)).cell? ⟨b,0,none⟩=some (.int .u32 0):=(World.cell?_setCell_other _ ⟨b,1,none⟩ ⟨b,0,none⟩ _ Au).trans h0;have ly:∀(x:Bool) (w:World),(Op.unary .not (.bool x)).run Proofs.Tryz.prog w= .ok (.bool (!x)) w:=λ_ _=>rfl;go_enter_defers Proofs.Tryz.func224,Proofs.Tryz.ntmps224
 go_wp2_with (first|(go_at_call 233;refine(MuLone.lock_free yw ⟨b,1,none⟩ _ (by go_simp) (by go_simp)).mono ?_;rintro e w' ⟨rfl,rfl⟩)|(go_at_call 223;refine(gP _ 0 _ l0).mono ?_;rintro e w' ⟨rfl,rfl⟩)|(go_at_call 212;refine hd.mono ?_;rintro e w' ⟨⟨v,rfl⟩,hq,d,c1,z0,a⟩))
 refine leaves_cons (f:=235) (args:=#[.pointer (some ⟨b,0,none⟩),.bool true]) Au (by simp[go_sem]) ?_;refine(Td ⟨b,0,none⟩ (.int .u32 0) .returning _ d z0).mono ?_;rintro e c w'' ⟨rfl,rfl,rfl⟩;refine leaves_cons (f:=234) (args:=#[.pointer (some ⟨b,1,none⟩)]) (by simp[settle]) (by simp[go_sem]) ?_;refine(MuLone.unlock_deferred yw ⟨b,1,none⟩ _ _ ?_ (by simp[a])).mono ?_;.exact(World.cell?_setCell_other _ ⟨b,0,none⟩ ⟨b,1,none⟩ _ Au).trans (by rw[World.cell?_drew];exact c1)
 rintro e c w'' ⟨rfl,rfl,rfl⟩;simp[Leaves,settle,results,Proofs.Tryz.results224];exact⟨_,hq,rfl⟩
def yx(b:Nat)(r:Value)(w:World)(Q:World->Prop)(hd:bR b r w Q)
  (h0:w.cell? ⟨b,0,none⟩=some (.int .u32 0)) (h1:w.cell? ⟨b,1,none⟩=some (.int .i32 0))
  (f0:w.frozen? ⟨b,0,none⟩=false) (f1:w.frozen? ⟨b,1,none⟩=false):
  Calls Proofs.Tryz.prog 211 #[.pointer (some ⟨b,0,none⟩),.func (.func 212) #[r] #[]] w λe w'=>e= .returned (.tuple #[])/\
   ∃w'',Q w''/\w'=(w''.drew.setCell ⟨b,0,none⟩ (.int .u32 1)).setCell ⟨b,1,none⟩ (.int .i32 0):=by
 have ly:∀(x:Bool) (w:World),(Op.unary .not (.bool x)).run Proofs.Tryz.prog w= .ok (.bool (!x)) w:=λ_ _=>rfl;go_enter Proofs.Tryz.func211,Proofs.Tryz.ntmps211
 go_wp2_with (first|(go_at_call 223;refine(gP _ 0 _ h0).mono ?_;rintro e w' ⟨rfl,rfl⟩)|(go_at_call 224;refine(xU b r w Q hd h0 h1 f0 f1).mono ?_;rintro e w' ⟨rfl,w'',hq,rfl⟩))
 go_end0
 exact⟨rfl,w'',hq,rfl⟩
def mi(x:Value)(w:World):(method 466 293 x "Replace").run Proofs.Tryz.prog w= .ok (296,x) w:=by kernel_rfl
def mj(b:Nat)(s:Value)(w:World)(Q:World->Prop)(R:Ending->World->Prop)(hd:bR b (.pointer (some ⟨b,0,none⟩)) w Q)
  (h0:w.cell? ⟨b,0,none⟩=some (.int .u32 0)) (h1:w.cell? ⟨b,1,none⟩=some (.int .i32 0))
  (f0:w.frozen? ⟨b,0,none⟩=false) (f1:w.frozen? ⟨b,1,none⟩=false)
  (hq:∀w'',Q w''->∃x,((w''.drew.setCell ⟨b,0,none⟩ (.int .u32 1)).setCell ⟨b,1,none⟩ (.int .i32 0)).cell? ⟨b,3,none⟩=some (.iface 293 x)/\
   Calls Proofs.Tryz.prog 296 #[x,s] ((w''.drew.setCell ⟨b,0,none⟩ (.int .u32 1)).setCell ⟨b,1,none⟩ (.int .i32 0)) λe w'=>(∃v,e= .returned v)/\R e w'):
  Calls Proofs.Tryz.prog 193 #[.pointer (some ⟨b,0,none⟩),s] w R:=by
 have a:∀(fn:Fn) (first cap:Array Value) (w:World),(Instr.makeFunc fn first cap).run Proofs.Tryz.prog w= .ok (.func fn first cap) w:=λ_ _ _ _=>rfl;have R5:=mi;go_enter Proofs.Tryz.func193,Proofs.Tryz.ntmps193
 go_wp2_with (first|(go_at_call 211;refine(yx b _ w Q hd h0 h1 f0 f1).mono ?_;clear hd h0 h1 f0 f1;rintro e w' ⟨rfl,w'',ml,uw⟩;obtain⟨x,hx,hc⟩:=hq w'' ml;rw[<-uw] at hx hc;clear hq uw)|(go_at_call 296;refine hc.mono ?_;rintro e c ⟨⟨v,rfl⟩,hr⟩))
 exact hr
variable{h:Ag}
def rK{id:Nat}{v:Aa}(e:BE h (some 3) (.ptr (some (id,0)))=some v):∃cs,h[id]?=some (.cells cs)/\3<=cs.length/\v= .agg (cs.take 3):=by
 simp only[BE] at e;split at e
 .rename_i cs hc;simp only[Ek] at e;split at e;.rename_i hl;cases e;exact⟨cs,hc,Ab,rfl⟩
  .cases e
 .cases e
def WR{id o:Nat}{v:Aa}{h1:Ag}(hv:v.cells=[v])(e:Cx h 1 (.ptr (some (id,o))) v=some h1):∃cs,h[id]?=some (.cells cs)/\o<cs.length/\h1=h.set id (.cells (cs.set o v)):=by
 simp only[Cx] at e;split at e
 .rename_i cs hc;split at e
  .rename_i hl;have yy:o<cs.length:=Ab;have hs:cs.take o++[v]++cs.drop (o+1)=cs.set o v:=by rw[B8,Ad yy];simp
   rw[hv,hs] at e;cases e;exact⟨cs,hc,yy,rfl⟩
  .cases e
 .cases e
def VC{cs:List Aa}{a b c:Aa}(e:Aa.agg (cs.take 3)= .agg [a,b,c]):cs[0]?=some a/\cs[1]?=some b/\cs[2]?=some c:=by
 injection e with e
 match cs,e with
 |a'::b'::c'::l,e=>simp at e;simp[e]
 |[_,_],e=>simp at e
 |[_],e=>simp at e
 |[],e=>simp at e
def xV(n:Nat)(hs:DO cx (IT.run (BK cx) n))(args:List Aa)(r:Aa)(h':Ag)(Ay:IT.step (BK cx) (IT.run (BK cx) n) (Tb 212 296 293 args) h=some (.ret,[r],h')):
  (∃fn c,cx.P.funcs[DE 193]?=some fn/\(fn.name== "runtime.NumGoroutine")=false/\fn.body=some c)/\
  ∀(U:Gh) (w:World) (cargs:Array Value),Fg U h w->(∀g cs,cx.Fl g=some cs->Co U cs g 0)->AK U args cargs.toList->
   Calls cx.P (DE 193) cargs w λe w'=>match e with
    | .returned v=>∃U',Fg U' h' w'/\IB U w U' w'/\Bp U' r v/\(cx.HP 193=true->∃s c,Hq U' w.heap.size w' s c v r)
    |_=>False:=by
 refine⟨⟨_,_,Proofs.Tryz.func193,rfl,rfl⟩,λU w cargs hi hg ha=>?_⟩;unfold Tb at Ay;split at Ay
 .rename_i id s;simp only[IT.step] at Ay;cases e1:BE h (some 3) (.ptr (some (id,0))) with
  |none=>simp[e1] at Ay
  |some v1=>
  simp only[e1] at Ay;split at Ay
  .rename_i MI;have MI:=Aa.Qj MI;cases J:Cx h 1 (.ptr (some (id,1))) (.int .i32 1) with
   |none=>simp[J] at Ay
   |some h1=>
   simp only[J] at Ay;cases I:IT.run (BK cx) n (BK cx 212 [.ptr (some (id,0))]) h1 with
   |none=>simp[I] at Ay
   |some R3=>
   simp only[I] at Ay;split at Ay
   .rename_i r3 h2 Hy;cases Hy;cases H:BE h2 (some 3) (.ptr (some (id,0))) with
    |none=>simp[H] at Ay
    |some v4=>
    simp only[H] at Ay;split at Ay
    .rename_i yz;have yz:=Aa.Qj yz;cases G:Cx h2 1 (.ptr (some (id,0))) (.int .u32 1) with
     |none=>simp[G] at Ay
     |some Q=>
     simp only[G] at Ay;cases F:Cx Q 1 (.ptr (some (id,1))) (.int .i32 0) with
     |none=>simp[F] at Ay
     |some A=>
     simp only[F] at Ay;cases E:BE A none (.ptr (some (id,3))) with
     |none=>simp[E] at Ay
     |some v7=>
     simp only[E,D4] at Ay;cases d:bP 293 A [v7] with
     |none=>simp[d] at Ay
     |some Y=>
     obtain⟨h8,u⟩:=Y;simp only[d] at Ay;have C:v7= .iface 293 u/\h8=A:=by
      cases v7 with
      |iface t' v=>
       simp only[bP] at d;split at d;.rename_i ht;cases d;subst ht;exact⟨rfl,rfl⟩
       .cases d
      |_=>cases d
     obtain⟨rfl,rfl⟩:=C;cases B:IT.run (BK cx) n (BK cx 296 [u,s]) h8 with
     |none=>simp[B] at Ay
     |some R9=>
     simp only[B] at Ay;split at Ay
     .rename_i r9 h9 Hy;cases Hy;cases Ay;obtain⟨cs,UC,Z7,rfl⟩:=rK e1;obtain⟨g0,g1,g2⟩:=VC MI;obtain⟨Fx,y_,aAN,rfl⟩:=WR rfl J;rw[UC] at y_;cases y_;obtain⟨Pd,Jr,Z8,rfl⟩:=rK H;obtain⟨O,N,k2⟩:=VC yz;obtain⟨aFR,za,aAO,rfl⟩:=WR rfl G;rw[Jr] at za;cases za;obtain⟨V,VD,X3,rfl⟩:=WR rfl F;have lL:id<h2.length:=(Ae.1 Jr).1;have aFS:id<h.length:=(Ae.1 UC).1;rw[AA lL] at VD;cases VD;have ŏ:((h2.set id (.cells (Pd.set 0 (.int .u32 1)))).set id (.cells ((Pd.set 0 (.int .u32 1)).set 1 (.int .i32 0))))[id]?=some (.cells ((Pd.set 0 (.int .u32 1)).set 1 (.int .i32 0))):=AA (by simpa using lL);have D:((Pd.set 0 (.int .u32 1)).set 1 (.int .i32 0))[3]?=some (.iface 293 u):=by simpa only[BE,ŏ,Ek] using E
      obtain⟨v0,us,wC,⟨b,hm,rfl⟩,j,CS,rfl,ee,hnil⟩:=ha;cases hnil;have a:cargs=#[.pointer (some ⟨b,0,none⟩),j]:=by apply Fe;simpa using wC
      subst a;obtain⟨f0,x0,W,o⟩:=hi.N5 UC hm g0;obtain⟨f1,x1,c1,m⟩:=hi.N5 UC hm g1;cases o;cases m;obtain⟨oS,bO⟩:=hi.YJ UC hm aAN (u:= .int .i32 1) (v:= .int .i32 1) rfl rfl;refine mj b j w (λw''=>∃f,Fg f h2 w''/\IB U w f w'') _ ?_ W c1 f0 f1 ?_
      .refine((hs.2 212 _ _ _ _ I).2 U _ #[.pointer (some ⟨b,0,none⟩)] oS hg ⟨_,_,rfl,⟨b,hm,rfl⟩,rfl⟩).mono λe w' he=>?_;cases e with
       |returned v=>obtain⟨f,NR,KI,_,_⟩:=he;have SY:=KI.le.mu _ _ hm;obtain⟨z0,y0,T,l⟩:=NR.N5 Jr SY O;obtain⟨L,y1,S,k⟩:=NR.N5 Jr SY N;cases l;cases k;exact⟨⟨v,rfl⟩,⟨f,NR,bO.trans KI⟩,T,S,z0,L⟩
       |_=>exact he.elim
      .rintro w'' ⟨f,NR,KI⟩;have SY:=KI.le.mu _ _ hm;obtain⟨WQ,UG⟩:=NR.GN ((Below.refl _ _).drew);obtain⟨x,zb⟩:=WQ.YJ Jr SY aAO (u:= .int .u32 1) (v:= .int .u32 1) rfl rfl;obtain⟨i,z⟩:=x.YJ (AA lL) SY X3 (u:= .int .i32 0) (v:= .int .i32 0) rfl rfl;obtain⟨_,Z,R,K,p,M⟩:=i.N5 ŏ SY D;subst p;refine⟨K,R,?_⟩;have Im:=((KI.trans UG).trans zb).trans z;refine((hs.2 296 _ _ _ _ B).2 f _ #[K,j] i (λg cs wA=>Co.mono Im.le cs g 0 (hg g cs wA)) ⟨_,_,rfl,M,_,_,rfl,Bp.mono Im.le _ _ ee,rfl⟩).mono λe w' he=>?_;cases e with
       |returned v=>obtain⟨X,t,y,q,_⟩:=he;exact⟨⟨v,rfl⟩,X,t,Im.trans y,q,λe=>by cases e⟩
       |_=>exact he.elim
     .cases Ay
    .cases Ay
   .cases Ay
  .cases Ay
 .cases Ay
end Go.Am
