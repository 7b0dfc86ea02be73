/- L -/
import Derived.Test.YtdejbjapknkdnaaGreatDoorV33V
set_option linter.all false
namespace Go.Am
open Go
set_option maxRecDepth 100000
def Pn:List Ad:=[aYD,aYb,aYh]
def aAG:Az (.Cl 1) [S aYD,S aYb,S aYh]=some (.sl 1 (Pn.map B1)):=Ef (ws:=Pn) rfl (by decide)
def ö(nm:Ad)(l:List A9):Dv:=⟨2,nm,false,[],false,[],false,false,l,false,[],0⟩
def uS{v:Aa}(h:lF (.sl YQ) v):∃l:List A9,Bj l v:=by have h:Zj (.sl YQ) [v]:=h;obtain⟨l,h1,_,_⟩:=iM nQ h;exact⟨l,h1⟩
def aAH{nm:Ad}{l:List A9}(h:nm.length<=1000)(hl:Fx l):(ö nm l).Sm:=⟨h,hl,show([]:Ad).length<=1000 by decide,show(-2147483648:Int)<=0/\(0:Int)<=2147483647 by decide⟩
def pv:∀l,OU [.sl SB,.int .i64,.sl YQ] l->Ev cx 6 l [] λr _=>r= .bool true:=by
 rintro _ ⟨v,_,rfl,ha,u,_,rfl,hb,av,_,rfl,hc,rfl⟩;obtain⟨l,hv,hl,hp⟩:=Ro ha;obtain⟨q,rfl⟩:=oP hb;obtain⟨C,pz⟩:=uS hc;unfold Ev;rw[aH5,t6];rcases Rq hl hv hp [] with⟨a,hs,hn⟩|a
 rotate_left;.simp only[abS,a.call,HW.AQ rfl rfl];exact⟨_,rfl,rfl⟩
 by_cases B:q<0;.simp only[abS,a.call,B,HW.AQ rfl rfl];exact⟨_,rfl,rfl⟩
 by_cases O:2<q;.simp only[abS,a.call,B,O,HW.AQ rfl rfl];exact⟨_,rfl,rfl⟩
 have ra:=h9B (h:=[]) pz;cases S5:saB C with
 |false=>rw[S5] at ra;simp only[abS,a.call,B,O,ra.call,HW.AQ rfl rfl];exact⟨_,rfl,rfl⟩
 |true=>
 rw[S5] at ra;have hsa:Fx C:=(BB (p:=Gj C) S5).LO;obtain⟨h1,bi,F,K,w,x,dE⟩:=Rp (e:=10) hv hp hs (by omega) [];by_cases h2:(Gl Hm (l.map (·.1)) (Ic false)).2=2;rotate_left
 .have e:((Gl Hm (l.map (·.1)) (Ic false)).2==2)=false:=by simpa using h2
  rw[e] at K;simp only[abS,a.call,B,O,ra.call,K.call,HW.AQ rfl rfl];exact⟨_,rfl,rfl⟩
 obtain⟨o,z⟩:=dE h2;rw[h2] at K;generalize(Gl Hm (l.map (·.1)) (Ic false)).1=b at*;have B3:=w.B3;have Y:=aJ7 b.mode;cases hq:Pm b.mode with
 |false=>rw[hq] at Y;simp only[abS,a.call,B,O,ra.call,K.call,B3,Y.AQ rfl rfl,HW.AQ rfl rfl,show((2:Nat)==2)=true from rfl];exact⟨_,rfl,rfl⟩
 |true=>
 rw[hq] at Y;obtain⟨k,qQ,rfl⟩:∃k:Nat,k<Pn.length/\q=(k:Int):=⟨q.toNat,by show q.toNat<3;omega,by omega⟩;have ee:=Br.Dl (k:= .i64) (CO (ws:=Pn)) qQ;have Wi:Pn[k]∈Pn:=Ay qQ;generalize Pn[k]=nm at*;have hlen:nm.length<=1000:=by have key:∀w∈Pn,w.length<=1000:=(by decide);exact key _ Wi
 have aKa:nm∈Me:=by have key:∀w∈Pn,w∈Me:=(by decide);exact key _ Wi
 have hne:=Zc o hq;have qe:=z.rm.Au;have fE:=z.rm.AW;have ć:=z.rm.tm;have aKb:=z.rm.D0;obtain⟨t',o',c',us,rs,sv⟩:=Zd w z.rm;have w1:=w.J9 (u:=us);have r2:=aGe nm (h1++us);obtain⟨oD,ea,pq⟩:=Br.rK (l:=([]:List A9)) (f:=A9.row) (v:= .slnil) (b:=40) (.inr ⟨rfl,rfl⟩) pz (by have h5:=hsa.1;simp;have:AN=140737488355328:=rfl;omega);have hcv:oD.cells=[oD]:=Br.cells pq;rw[Bw] at pq;have G:=aAH hlen hsa;obtain⟨h3,F3,r3,w3,x3⟩:=WV (t:=ö nm C) w1 o z (by omega) G (AU _) pq;obtain⟨p3,A,X,W,e34⟩:=uO (qk:=Hm) (t:=ö nm C) o hq rfl aKa;have z3:=Zs.step (qk:=Hm) o z (by omega) G;generalize(b.apply Hm (ö nm C)).1=b3 at*;have lds3:=w3.B3;obtain⟨t4,o4,c4,u4,J,sv4⟩:=Zd w3 z3.rm;have x4:Ey (h1++us) F (h3++u4) F3:=x3.trans Ey.J9;have sva:=sv.ô x4 (λi hi=>w.lt hi);have r4:=aGg sv4 sva (by show b3.Au.map Item.node=b.Au.map Item.node;rw[A]) (by show(b3.Au.map Item.node).length<=_;rw[A,Ao];omega);have w4:=w3.J9 (u:=u4);have j:=w4.B3;rw[X] at j;have E:(HG AF).Sm:=Iu (by decide);have r5:=aGe AF (h3++u4);obtain⟨h5,F5,r6,Z,x5⟩:=WV (t:=HG AF) w4 p3 z3 (by omega) E (AU _) QM;obtain⟨xx,tx,p5,V,U,y,T⟩:=pk (qk:=Hm) (t:=HG AF) p3 (by rw[X];exact hq) rfl rfl;have z5:=Zs.step (qk:=Hm) p3 z3 (by omega) E;generalize(b3.apply Hm (HG AF)).1=b5 at*;have g:=Z.B3;rw[U] at g;obtain⟨tv5,M,P⟩:=Z.ltm;have d:=Br.Fk P;have N:=Br.Fk sv.t;rw[y,W,Ai,AR] at d;have L:Az (.int .add) [.int .i64 (b.tm.length:Int),I 1]=some (.int .i64 ((b.tm.length+1:Nat):Int)):=CI (by omega);have D:(č AF).Sm:=ò (by decide);have r7:=aJ9 AF h5;obtain⟨h7,F7,r8,w7,x7⟩:=WV (t:=č AF) Z p5 z5 (by omega) D (AU _) QM;rw[A] at V;rw[W] at y;rw[e34] at T;obtain⟨S,e72,e73⟩:=ñ (qk:=Hm) (t:=č AF) U rfl rfl V tx hne y T;have z7:=Zs.step (qk:=Hm) p5 z5 (by omega) D;generalize(b5.apply Hm (č AF)).1=b7 at*;obtain⟨t8,o8,c8,u8,H,s⟩:=Zd w7 z7.rm;have x8:Ey (h1++us) F (h7++u8) F7:=((x4.trans x5).trans x7).trans Ey.J9;have m:=sv.ô x8 (λi hi=>w.lt hi);have r9:=aGg s m (by show b7.Au.map Item.node=b.Au.map Item.node;rw[S]) (by show(b7.Au.map Item.node).length<=_;rw[S,Ao];omega);obtain⟨KN,ef1,a1⟩:=s.c.at_;obtain⟨fs2,ef2,a2⟩:=m.c.at_;have aGh:KN.map (·.c)=b.AW:=ef1.trans e73;have r10:=f87 a1 a2 (aGh.trans ef2.symm) (by have:=BQ List.length aGh;rw[Ao] at this;omega) (λe he=>by
  have:e.c∈b.AW:=by rw[<-aGh];exact Bb.2 ⟨e,he,rfl⟩
  have:=(aKb _ this).2.1;omega)
 have Q:Hh b.tm t8:=by have:=s.t;rw[<-e72];exact this
 have R:Hh b.tm t':=m.t;have l8:=Br.Fk Q;have l0:=Br.Fk R;simp only[RQ,BS.Ug,Ct,HG,ö,č] at rs r2 r3 J r4 r5 r6 r7 r8 H r9;simp only[abS,Nat.reduceLeDiff,↓reduceIte,a.call,B,O,ra.call,K.call,B3,Y.AQ rfl rfl,show((2:Nat)==2)=true from rfl,aAG,ee,B1,rs.call,r2.call,ea,hcv,r3.call,J.call,r4.call,j,BS.Ug,r5.call,r6.call,g,M,d,N,L,r7.call,r8.call,H.call,r9.call,r10.call,l8,l0,ne_eq,CK,AP,AD,M9,AS,AK,PF,AE,AY,LC];refine BO (λn:Nat=>[ff,.int .i64 (n:Int)]) (λn hh=>n<=b.tm.length/\hh=h7++u8) (λn=>b.tm.length-n) 0 rfl ⟨AU _,rfl⟩ ?_;rintro n hh ⟨SJ,rfl⟩;by_cases hlt:n<b.tm.length;.have a3:=Br.Dl (k:= .i64) Q hlt;have a4:=Br.Dl (k:= .i64) R hlt;rw[CY] at a3 a4;simp only[abS,l8,show(n:Int)<(b.tm.length:Int) by omega,a3,a4,ne_eq,CK,AP,AD,M9,AS,AK,CI (show n<9223372036854775807 by omega)];exact Bk.next (n+1) rfl ⟨hlt,rfl⟩ (by omega)
 .simp only[abS,l8,show¬(n:Int)<(b.tm.length:Int) by omega,HW.AQ rfl rfl];exact⟨_,rfl,rfl⟩
end Go.Am
