/- Lemmas -/
import Derived.Test.YtefjamneieebhaaGreatDoorS30
set_option linter.unusedVariables false
set_option linter.unusedSimpArgs false
section
namespace Go.Am
open Go
set_option maxRecDepth 100000
section
variable{h h':Ad}{bi a lo:Nat}{o c t:Aa}{G G' F:Nat->Prop}{b:BS}{x:Int}{m:Nat}
theorem aMR(w:RX h bi a o c t G b)(hc:BO b.A4 c)(rm:BQ b m):∃t' o' c' u,BI cx 33 [Pt bi 0] h (.agg (Tc b.Uo t' o' c')) (h++u)/\Rq (h++u) h.length b.Uo t' o' c':=by
 have bF:AS=140737488355328:=rfl;have ho:=rm.AO;have Ry:=rm.A4;have htm:=rm.tm;obtain⟨t',e0,FH⟩:=AM.Gj (b:=8) w.t (by omega);have htc:t'.cells=[t']:=AM.cells FH;obtain⟨fs,Gn,hv⟩:=hc;have GG:b.A4.length=fs.length:=by rw[<-Gn,Ai]
 have Ik:Ev cx 33 [Pt bi 0] h λr h'=>∃t' o' c' u,r= .agg (Tc b.Uo t' o' c')/\h'=h++u/\Rq (h++u) h.length b.Uo t' o' c':=by
  unfold Ev;have k4:=w.l4;have k5:A6 h none (Pt bi 5)=some (I b.Q9):=w.ld 5;have k6:=w.l6;have k7:=w.l7;have k8:A6 h none (Pt bi 8)=some (I b.L0):=w.ld 8;have Pe:A6 h none (Pt bi 14)=some (.bool b.fs):=w.ld 14;have Qk:=w.uM;have Rp:A6 h none (Pt bi 16)=some (.str b.WR):=w.ld 16;have Su:A6 h none (Pt bi 17)=some (.bool b.skip):=w.ld 17;have TM:A6 h none (Pt bi 18)=some (I b.sw):=w.ld 18;have V6:A6 h none (Pt bi 19)=some (.bool b.stop):=w.ld 19;rw[aAc,t33];simp only[AB,Nat.reduceLeDiff,↓reduceIte,AK,Bi,k4,k5,k6,e0,k7,k8,Pe,Qk,Rp,Su,TM,V6,htc];refine Ei (i:=0) (λz:Aa×Nat=>[.agg [I b.mode,I b.Q9,t',z.1,.slnil,I b.head,I b.L0,.bool b.fs,.bool b.Eh,.str b.WR,.bool b.skip,I b.sw,.bool b.stop],I (z.2:Int)]) (λz h1=>z.2<=b.AO.length/\∃u,h1=h++u/\LL (h++u) h.length z.1 ((b.AO.take z.2).map Item.node)) (λz=>b.AO.length-z.2) (λz h1=>∃u,h1=h++u/\LL (h++u) h.length z.1 (b.AO.map Item.node)) (.slnil,0) rfl ⟨AR _,[],by simp,.inl ⟨rfl,by simp⟩⟩ ?_ ?_
  .rintro⟨V,n⟩ h1 ⟨hn,u,rfl,hV⟩;simp only at hn hV;have w1:=w.HA (u:=u);have uQ:A6 (h++u) none (Pt bi 2)=some o:=w1.ld 2;have lo1:=AM.Cp w.o;have hVc:=hV.cells;rcases AT n b.AO.length with hlt|D1
   .have e1:=AM.Bz (k:= .i64) w.o hlt;rw[Item.row] at e1;obtain⟨u',V',g1,hV'⟩:=xb hV (by rw[Ai,Al];omega) b.AO[n].node;have hV'c:=hV'.cells;have em:Aw (.Bx 1) [I b.AO[n].node]=some (.sl 1 [[I b.AO[n].node]]):=rfl;simp only[AB,↓reduceIte,Bi,uQ,lo1,show(n:Int)<(b.AO.length:Int) by omega,e1,em,g1,hV'c,BF (show n<9223372036854775807 by omega)];exact .next (V',n+1) rfl ⟨hlt,u',rfl,by rw[Av hlt,BH];exact hV'⟩ (by simp only;omega)
   .rw[Ay D1] at hV;simp only[AB,↓reduceIte,Bi,uQ,lo1,show¬(n:Int)<(b.AO.length:Int) by omega];exact .Hv (V,n) rfl ⟨u,rfl,hV⟩
  .rintro⟨O,n0⟩ h1 ⟨u,rfl,hO⟩;simp only at hO;have hOc:=hO.cells;simp only[AB,↓reduceIte];have wu:=w.HA (u:=u);have hlH:h.length<=(h++u).length:=by simp
   obtain⟨H1,hH1⟩:∃H1,H1=h++u:=⟨_,rfl⟩;rw[<-hH1] at hO wu hlH⊢;refine Ei (i:=2) (λz:Aa×Nat=>[.agg [I b.mode,I b.Q9,t',O,z.1,I b.head,I b.L0,.bool b.fs,.bool b.Eh,.str b.WR,.bool b.skip,I b.sw,.bool b.stop],I (z.2:Int)]) (λz h1=>z.2<=fs.length/\∃u2,h1=H1++u2/\Ll (H1++u2) H1.length z.1 ((b.A4.take z.2))) (λz=>fs.length-z.2) (λz h1=>∃u2,h1=H1++u2/\Ll (H1++u2) H1.length z.1 b.A4) (.slnil,0) rfl ⟨AR _,[],by simp,.inl ⟨rfl,by simp⟩⟩ ?_ ?_
   .rintro⟨V,n⟩ h1 ⟨hn,u2,rfl,hV⟩;simp only at hn hV;have w1:=wu.HA (u:=u2);have l31:=w1.l3;have lc:=AM.Cp hv;have hVc:=hV.cells;rcases AT n fs.length with hlt|D1
    .have e1:=AM.Bz (k:= .i64) hv hlt;rw[B3.row] at e1;have efp:fs[n].c=b.A4[n]:=by simp only[<-Gn,CX]
     have hal:=(rm.Dk fs[n].c (by rw[efp];exact AI _)).2.1;obtain⟨av,ea,Xd⟩:=AM.Gj (b:=40) fs[n].ok (by omega);have hvc:fs[n].v.cells=[fs[n].v]:=AM.cells fs[n].ok;have aCz:av.cells=[av]:=AM.cells Xd;obtain⟨u',V',g1,hV'⟩:=aHk hV (by rw[Al];omega) ⟨fs[n].c,av,Xd⟩;rw[B3.row] at g1;simp only at g1 hV';have hV'c:=hV'.cells;have em:Aw (.Bx 3) [.agg [I fs[n].c.node,.str fs[n].c.name,av]]=some (.sl 3 [[I fs[n].c.node,.str fs[n].c.name,av]]):=KO rfl;simp only[AB,Nat.reduceLeDiff,↓reduceIte,AK,Bi,l31,lc,show(n:Int)<(fs.length:Int) by omega,e1,ea,aCz,em];simp only[AB,↓reduceIte,g1,hV'c,BF (show n<9223372036854775807 by omega)];exact .next (V',n+1) rfl ⟨hlt,u',rfl,by rw[Av (by omega),<-efp];exact hV'⟩ (by simp only;omega)
    .rw[Ay (by omega)] at hV;simp only[AB,Nat.reduceLeDiff,↓reduceIte,AK,Bi,l31,lc,show¬(n:Int)<(fs.length:Int) by omega,aaS];exact .Hv (V,n) rfl ⟨u2,rfl,hV⟩
   .rintro⟨V,n⟩ h1 ⟨u2,rfl,hV⟩;simp only at hV;have hVc:=hV.cells;simp only[AB,↓reduceIte];refine⟨_,rfl,t',O,V,u++u2,rfl,by rw[hH1,AD],FH,?_,?_⟩;·rw[<-AD,<-hH1];exact hO.CW λi _ hi=>Af hi
    .rw[<-AD,<-hH1];exact hV.low hlH
 obtain⟨r,h',hr,t',o',c',u,rfl,rfl,hs⟩:=Ik.ret;exact⟨t',o',c',u,hr,hs⟩
end
section
variable{h h':Ad}{a n i:Nat}{ps:List RN}{A:Ar}{x:Int}
theorem aMS(w:RA h a n i ps A)(hb:A.n.length<=900000000):BI cx 105 [Pt a 0] h (I A.len) h:=by
 have hl:=w.len;have e:((ps.length+1:Nat):Int)-1=A.len:=by unfold Ar.len;omega
 have hs:=CJ (a:=((ps.length+1:Nat):Int)) (b:=1) (by omega) (by omega);rw[e] at hs;rw[Ab,jx,aEN];simp only[AB,Bi,w.nodes,show Aw (.len false) [.Cl n 0 (ps.length+1) 13]=some (I ((ps.length+1:Nat):Int)) from rfl,hs]
theorem aH2(p:RN)(h1:p.x.AY.length<=1000000000)(h2:p.x.Ax.length<=1000000000)(h:Ad):∃r,BI cx 205 [.agg p.row] h (.agg r) h/\∀h',xc h' p.x r:=by have bF:AS=140737488355328:=rfl;obtain⟨K,e1,hK⟩:=AM.Gj (b:=8) p.okk (by omega);obtain⟨V,e2,hV⟩:=AM.Gj (b:=40) p.oka (by omega);have kc:p.kv.cells=[p.kv]:=AM.cells p.okk;have vc:p.av.cells=[p.av]:=AM.cells p.oka;have Kc:K.cells=[K]:=AM.cells hK;have Vc:V.cells=[V]:=AM.cells hV;refine⟨_,?_,λh'=>⟨K,V,rfl,Dg.Sm hK,VO hV,Kc,Vc⟩⟩;rw[Ab,nu,aFr,RN.row];simp only[AB,e1,Kc,e2,Vc]
theorem aMT(w:RA h a n i ps A)(hk:∀x,(A.nd x).AY.length<=1000000000)(ha:∀x,(A.nd x).Ax.length<=1000000000)(hb:A.n.length<=900000000):∃v,BI cx 108 [Pt a 0] h v h/\∀h',Wa h' v A.n:=by
 have bF:AS=140737488355328:=rfl;have ZH:=w.len;have Ik:Ev cx 108 [Pt a 0] h λr h'=>h'=h/\∀h',Wa h' r A.n:=by
  unfold Ev;rw[j_,aEQ];refine Bb (λz:Aa×Nat=>[z.1,I ((z.2+1:Nat):Int)]) (λz h1=>z.2<=ps.length/\h1=h/\∃Au:List (List Aa),AM 13 Au z.1/\Au.length=z.2/\∀h' k (h1:k<Au.length) (h2:k<A.n.length),xc h' A.n[k] Au[k]) (λz=>ps.length-z.2) (.slnil,0) rfl ⟨AR _,rfl,[],.nil,rfl,λh' k h1=>by simp at h1⟩ ?_;rintro⟨V,k⟩ h1 ⟨Wt,rfl,Au,s1,e1,n1⟩;simp only at Wt s1 e1;have ll:Aw (.len false) [.Cl n 0 (ps.length+1) 13]=some (I ((ps.length+1:Nat):Int)):=rfl;rcases AT k ps.length with hlt|D1
  .obtain⟨hx,ex⟩:=kD (A:=A) (k:=k) (by omega);have ex2:=(w.pn hx).2;have ld:=w.xg hx;have ea:=w.addr hx;obtain⟨r,r1,hr⟩:=aH2 (pR ps ((k:Int)+1)) (by rw[ex2];exact hk _) (by rw[ex2];exact ha _) h1;rw[ex2,ex] at hr;have em:Aw (.Bx 13) [.agg r]=some (.sl 13 [r]):=by obtain⟨K,W,er,_⟩:=hr [];exact K4 (a:= .agg r) (by rw[er];rfl) (by decide)
   have ap:=AM.xT (b:=168) (row:=r) s1 (by omega);have ek:((k+1:Nat):Int)=(k:Int)+1:=by omega
   have inc:Aw (.int .add) [I ((k:Int)+1),I 1]=some (I ((k:Int)+1+1)):=OT (by omega) (by omega);simp only[AB,Bi,w.nodes,ll,ek,show(k:Int)+1<(ps.length:Int)+1 by omega,Int.natCast_add,Int.natCast_one,ea,ld,r1.call,em,ap,inc];refine AF.next (_,k+1) rfl ⟨hlt,rfl,Au++[r],.mk,by simp[e1],λh' j h1 h2=>?_⟩ (by simp only;omega);by_cases hj:j<Au.length;·rw[Jj hj];exact n1 h' j hj h2
   .have ej:j=k:=by simp at h1;omega
    subst ej;rw[List.getElem_append_right (by omega)];simp only[e1,DC,List.getElem_cons_zero];exact hr h'
  .simp only[AB,Bi,w.nodes,ll,show¬((k+1:Nat):Int)<((ps.length+1:Nat):Int) by omega];exact⟨_,rfl,λh'=>⟨Au,s1,by omega,λj a b=>n1 h' j a b⟩⟩
 obtain⟨r,h',hr,rfl,hV⟩:=Ik.ret;exact⟨r,hr,hV⟩
end
def RB(h:Ad)(bi:Nat)(b:BS)(F:Nat->Prop):Prop:=∃a o c t G,RX h bi a o c t G b/\BO b.A4 c/\F=own bi G
structure Rt(h:Ad)(bi wi:Nat)(b:BS)(F F2:Nat->Prop):Prop where
 p:PB h bi b F
 r:RB h wi b F2
 d:∀i,F i->¬F2 i
structure Lo(b:BS)(j:Nat):Prop where
 ok:DG b
 sz:Sz b j
 nm:Nm b.a
section
variable{h h':Ad}{bi wi:Nat}{b:BS}{F F2:Nat->Prop}{q:ZP}{av:Aa}{j:Nat}
theorem RB.lt(w:RB h bi b F){i:Nat}(hi:F i):i<h.length:=by
 obtain⟨a,o,c,t,G,w,_,rfl⟩:=w;rcases hi with rfl|hi
 .exact w.lt
 .exact w.w.lt hi
theorem RB.CW(w:RB h bi b F)(hf:∀i,F i->h'[i]?=h[i]?):RB h' bi b F:=by obtain⟨a,o,c,t,G,w,hc,rfl⟩:=w;exact⟨a,o,c,t,G,w.CW hf,hc,rfl⟩
theorem RB.HA(w:RB h bi b F){u:Ad}:RB (h++u) bi b F:=w.CW λi hi=>Af (w.lt hi)
theorem Rt.HA(w:Rt h bi wi b F F2){u:Ad}:Rt (h++u) bi wi b F F2:=⟨w.p.HA,w.r.HA,w.d⟩
theorem Lo.le{k:Nat}(f:Lo b j)(hk:k<=j):Lo b k:=⟨f.ok,⟨f.sz.rm.le (by omega),by have:=f.sz.AO;omega,by have:=f.sz.A4;omega⟩,f.nm⟩
theorem Lo.Hv(f:Lo b j):Fin b j:=⟨f.ok,f.sz⟩
theorem Lo.do(f:Lo b (j+1))(hq:uO q):Lo (TK b q).1 j:=⟨aCv f.ok,aCw f.sz hq,aCC f.nm f.sz hq⟩
theorem Ek.L3(s:Ek):Lo s.b 100:=⟨s.ok.1,s.ok.2,db s⟩
theorem Rt.prog{b':BS}{F':Nat->Prop}(w:Rt h bi wi b F F2)(p:PB h' bi b' F')(x:De h F h' F'):RB h' wi b F2/\∀i,F' i->¬F2 i:=
 ⟨w.r.CW λi hi=>x.old i (w.r.lt hi) λhp=>w.d i hp hi,λi h1 h2=>by
  rcases x.own i h1 with h3|h3
  .exact w.d i h3 h2
  .have:=w.r.lt h2;omega⟩
theorem aMV(w:RB h bi b F)(f:Lo b (j+1))(hq:uO q)(hv:Bw q.Ax av):∃h' F',BI cx 31 [Pt bi 0,.agg (Kx q av)] h (.agg (TK b q).2.row) h'/\RB h' bi (TK b q).1 F'/\De h F h' F':=by obtain⟨a,o,c,t,G,w,hc,rfl⟩:=w;obtain⟨h',o',c',t',G',r,w',JU,x⟩:=aMM w hc f.ok f.sz f.nm hq hv;exact⟨h',_,r,⟨a,o',c',t',G',w',JU,rfl⟩,x⟩
theorem sr(w:Rt h bi wi b F F2)(f:Lo b (j+1))(hq:uO q)(hv:Bw q.Ax av):∃h1 h2 F' F2',BI cx 30 [Pt bi 0,.agg (Kx q av)] h (.agg (TK b q).2.row) h1/\BI cx 31 [Pt wi 0,.agg (Kx q av)] h1 (.agg (TK b q).2.row) h2/\Rt h2 bi wi (TK b q).1 F' F2':=by
 obtain⟨h1,F',r1,w1,x1⟩:=aMp w.p f.Hv hq hv;obtain⟨w2,d2⟩:=w.prog w1 x1;obtain⟨h2,F2',r2,w3,x2⟩:=aMV w2 f hq hv;refine⟨h1,h2,F',F2',r1,r2,w1.CW λi hi=>x2.old i (w1.lt hi) (d2 i hi),w3,λi h3 h4=>?_⟩;rcases x2.own i h4 with h5|h5
 .exact d2 i h3 h5
 .have:=w1.lt h3;omega
theorem aMW(s:Ek)(hv:Bw s.Ax av)(hl:DA s.Ax)(hn:s.name.length<=1000)(h:Ad):∃h' bi F,BI cx 29 [.agg (Lj s av)] h (Pt bi 0) h'/\RB h' bi s.b F/\De h (λ_=>False) h' F:=by obtain⟨h',bi,a,o,c,t,G,r,w,hc,x⟩:=aMQ h s hv hl hn;exact⟨h',bi,_,r,⟨a,o,c,t,G,w,hc,rfl⟩,x⟩
theorem kH(s:Ek)(hv:Bw s.Ax av)(hl:DA s.Ax)(hn:s.name.length<=1000)(h:Ad):∃h1 h2 bi wi F F2,BI cx 22 [.agg (Lj s av)] h (Pt bi 0) h1/\BI cx 29 [.agg (Lj s av)] h1 (Pt wi 0) h2/\Rt h2 bi wi s.b F F2:=by
 obtain⟨h1,bi,F,r1,w1,x1⟩:=aMq s hv hl h;obtain⟨h2,wi,F2,r2,w2,x2⟩:=aMW s hv hl hn h1;refine⟨h1,h2,bi,wi,F,F2,r1,r2,w1.CW λi hi=>x2.old i (w1.lt hi) (λh=>h),w2,λi h3 h4=>?_⟩;rcases x2.own i h4 with h5|h5
 .exact h5
 .have:=w1.lt h3;omega
end
theorem ME:∀{l:List QO} {b:BS} {j:Nat},Lo b (j+l.length)->(∀x∈l,uO x.q)->Lo (Lm b l) j
 |[],_,_,f,_=>f
 |x::l,b,j,f,hq=>by rw[Lm];exact ME (Lo.do (j:=j+l.length) (f.le (by simp only[Bd];omega)) (hq x (by simp))) λy hy=>hq y (by simp[hy])
theorem aMX(i:Item):Aw (.geq true [.i,.i,.s,.b]) [.agg i.row,.agg i.row]=some (.bool false):=by rw[M6];simp[Item.row,Ds,Ju]
section
variable{h h':Ad}{bi wi:Nat}{b:BS}{F F2:Nat->Prop}{q:ZP}{av:Aa}{j:Nat}
theorem f7w(s:Ek)(hv:Bw s.Ax av)(hl:DA s.Ax)(hn:s.name.length<=1000){l:List QO}{v:Aa}(ho:X2 l v)(hb:l.length<=60)(hq:∀x∈l,uO x.q)(h:Ad):
  ∃h' bi wi F F2,BI cx 9 [.agg (Lj s av),v] h (.tuple [Pt bi 0,Pt wi 0,tt]) h'/\Rt h' bi wi (Lm s.b l) F F2:=by
 obtain⟨h1,h2,bi,wi,F,F2,r1,r2,w0⟩:=kH s hv hl hn h;have Ik:Ev cx 9 [.agg (Lj s av),v] h λr h'=>r= .tuple [Pt bi 0,Pt wi 0,tt]/\∃F F2,Rt h' bi wi (Lm s.b l) F F2:=by
  unfold Ev;have Xd:av.cells=[av]:=AM.cells hv;have lm:=AM.Cp ho;rw[aEF,t9];rw[Lj] at r1 r2⊢;simp only[AB,Bi,r1.call,r2.call];refine Bb (λn:Nat=>[.ptr none,.ptr none,ff,I (n:Int)]) (λn h1=>n<=l.length/\∃F F2,Rt h1 bi wi (Lm s.b (l.take n)) F F2) (λn=>l.length-n) 0 rfl ⟨AR _,F,F2,w0⟩ ?_;rintro n h3 ⟨LV,F3,F4,w3⟩;rcases AT n l.length with hlt|D1
  .have e1:=AM.Bz (k:= .i64) ho hlt;have L3:Lo (Lm s.b (l.take n)) (39+1):=(ME (j:=40) (l:=l.take n) (s.L3.le (by rw[Al];omega)) λx hx=>hq x (Bf hx));obtain⟨h4,h5,F5,F6,r3,r4,w5⟩:=sr w3 L3 (hq _ (AI hlt)) l[n].ok;have hr:Kx l[n].q l[n].v=l[n].row:=rfl;rw[hr] at r3 r4;simp only[AB,Bi,lm,show(n:Int)<(l.length:Int) by omega,e1,QO.Co,QO.Gx,Ac,r3.call,By,r4.call,aMX,BF (show n<9223372036854775807 by omega)];exact AF.next (n+1) rfl ⟨hlt,F5,F6,by rw[Av hlt,V9];exact w5⟩ (by omega)
  .rw[Ay D1] at w3;simp only[AB,Bi,lm,show¬(n:Int)<(l.length:Int) by omega];exact⟨_,rfl,rfl,F3,F4,w3⟩
 obtain⟨r,h',hr,rfl,F',F2',w'⟩:=Ik.ret;exact⟨h',bi,wi,F',F2',hr,w'⟩
theorem f8w(w:Rt h bi wi b F F2)(f:Lo b j):∃u,BI cx 11 [Pt bi 0,Pt wi 0] h tt (h++u):=by
 obtain⟨a,o,c,t,G,wp,hc,e1⟩:=w.p;obtain⟨t1,o1,c1,u1,r1,s1⟩:=aMn wp hc f.sz.rm;have w1:=w.HA (u:=u1);obtain⟨a',o',c',t',G',wr,JU,e2⟩:=w1.r;obtain⟨t2,o2,c2,u2,r2,s2⟩:=aMR wr JU f.sz.rm;have w2:=w1.HA (u:=u2);have rm:=f.sz.rm;have k1:=rm.tm;have k2:=rm.AO;have k3:=rm.A4;have k4:=rm.n;have r3:=f22 (s1.CW (h':=h++u1++u2) λi _ hi=>Af hi) s2 (show b.tm.length<=1000000000 by omega) (show(b.AO.map Item.node).length<=1000000000 by rw[Ai];omega) (show b.A4.length<=1000000000 by omega) (λe he=>by have:=(rm.Dk e he).2.1;omega);have wp2:=(wp.HA (u:=u1)).HA (u:=u2);have wr2:=wr.HA (u:=u2);have l0:=wp2.l0;have l0':=wr2.l0;have kb:∀x,(b.a.nd x).AY.length<=1000000000:=λx=>rm.Wo.AY f.ok.ok x;have ab:∀x,(b.a.nd x).Ax.length<=1000000000:=λx=>by have:=rm.at_ x;omega
 obtain⟨n,m',ps,wa⟩:=wp2.w.pa;obtain⟨n',i',Iz,wa',_⟩:=wr2.w;obtain⟨v1,u3,r5,n1⟩:=aMu wa rm.Wo kb (by omega);have r4:=aLm wa;have r4':=aMS wa' (by omega);have wa3:RA (h++u1++u2++u3) a' n' i' Iz b.a:=wa'.CW λj hj=>Af (wa'.lt hj);obtain⟨v2,r6,n2⟩:=aMT wa3 kb ab (by omega);have r7:=f90 n1.rd (n2 (h++u1++u2++u3)) (by omega) (λx hx=>by obtain⟨k,hk,rfl⟩:=List.getElem_of_mem hx;have:=(kD hk).2;rw[<-this];exact⟨ab _,kb _⟩)
 have r8:BI cx 34 [Pt a 0,Pt a' 0] (h++u1++u2) tt (h++u1++u2++u3):=by rw[Ab,aAd,t34];simp only[AB,r4.call,r4'.call,Cn,D4,r5.call,r6.call,r7.call]
 refine⟨u1++u2++u3,?_⟩;rw[Ab,U_,t11];rw[show h++(u1++u2++u3)=h++u1++u2++u3 by simp only[AD]];simp only[AB,Bi,r1.call,r2.call,r3.call,l0,l0',r8.call]
end
theorem tT:Ev cx 8 [] [] λr _=>r= .bool true:=sM 3000 (by kernel_rfl)
end Go.Am
end
