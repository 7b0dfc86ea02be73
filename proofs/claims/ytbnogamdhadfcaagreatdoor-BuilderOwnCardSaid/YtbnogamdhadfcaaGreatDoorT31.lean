/- Lemmas -/
import Derived.Test.YtbnogamdhadfcaaGreatDoorT30
set_option linter.unusedVariables false
set_option linter.unusedSimpArgs false
section
namespace Go.Am
open Go
set_option maxRecDepth 100000
section
variable{h h':Ag}{bi a lo:Nat}{o c t:Aa}{G G' F:Nat->Prop}{b:BS}{x:Int}{m:Nat}
theorem aMI(w:RX h bi a o c t G b)(hc:BN b.A3 c)(rm:BR b m):∃t' o' c' u,BI cx 40 [Pt bi 0] h (.agg (Ov b.Rx t' o' c')) (h++u)/\Rl (h++u) h.length b.Rx t' o' c':=by
 have ZJ:AT=140737488355328:=rfl;have ho:=rm.AR;have Q8:=rm.A3;have wv:=rm.tm;obtain⟨t',e0,Fp⟩:=AM.Gk (b:=8) w.t (by omega);have htc:t'.cells=[t']:=AM.cells Fp;obtain⟨fs,F0,hv⟩:=hc;have Gv:b.A3.length=fs.length:=by rw[<-F0,Ah]
 have H5:Ev cx 40 [Pt bi 0] h λr h'=>∃t' o' c' u,r= .agg (Ov b.Rx t' o' c')/\h'=h++u/\Rl (h++u) h.length b.Rx t' o' c':=by
  unfold Ev;rw[aAh,t40];simp only[AA,Nat.reduceLeDiff,↓reduceIte,AK,Bi,w.ld,HS,e0,htc];refine Db (i:=0) (λz:Aa×Nat=>[.agg [I b.mode,I b.R6,t',z.1,.slnil,I b.head,I b.Mr,.bool b.fs,.bool b.Eb,.str b.YP,.bool b.skip,I b.sw,.bool b.stop],I (z.2:Int)]) (λz h1=>z.2<=b.AR.length/\∃u,h1=h++u/\KE (h++u) h.length z.1 ((b.AR.take z.2).map Item.node)) (λz=>b.AR.length-z.2) (λz h1=>∃u,h1=h++u/\KE (h++u) h.length z.1 (b.AR.map Item.node)) (.slnil,0) rfl ⟨AO _,[],by simp,.inl ⟨rfl,by simp⟩⟩ ?_ ?_
  .rintro⟨V,n⟩ h1 ⟨hn,u,rfl,hV⟩;simp only at hn hV;have w1:=w.HB (u:=u);have uD:A9 (h++u) none (Pt bi 2)=some o:=w1.ld 2;have lo1:=AM.Cp w.o;have hVc:=hV.cells;rcases AN n b.AR.length with hlt|DT
   .have e1:=AM.BA (k:= .i64) w.o hlt;rw[Item.row] at e1;obtain⟨u',V',g1,hV'⟩:=bu hV (by rw[Ah,Al];omega) b.AR[n].node;have hV'c:=hV'.cells;have em:Aw (.By 1) [I b.AR[n].node]=some (.sl 1 [[I b.AR[n].node]]):=rfl;simp only[AA,↓reduceIte,Bi,uD,lo1,show(n:Int)<(b.AR.length:Int) by omega,e1,em,g1,hV'c,BB (show n<9223372036854775807 by omega)];exact .next (V',n+1) rfl ⟨hlt,u',rfl,by rw[Av hlt,BE];exact hV'⟩ (by simp only;omega)
   .rw[Az DT] at hV;simp only[AA,↓reduceIte,Bi,uD,lo1,show¬(n:Int)<(b.AR.length:Int) by omega];exact .GM (V,n) rfl ⟨u,rfl,hV⟩
  .rintro⟨O,n0⟩ h1 ⟨u,rfl,hO⟩;simp only at hO;have hOc:=hO.cells;simp only[AA,↓reduceIte];have wu:=w.HB (u:=u);have hlH:h.length<=(h++u).length:=by simp
   obtain⟨H1,hH1⟩:∃H1,H1=h++u:=⟨_,rfl⟩;rw[<-hH1] at hO wu hlH⊢;refine Db (i:=2) (λz:Aa×Nat=>[.agg [I b.mode,I b.R6,t',O,z.1,I b.head,I b.Mr,.bool b.fs,.bool b.Eb,.str b.YP,.bool b.skip,I b.sw,.bool b.stop],I (z.2:Int)]) (λz h1=>z.2<=fs.length/\∃u2,h1=H1++u2/\Lp (H1++u2) H1.length z.1 ((b.A3.take z.2))) (λz=>fs.length-z.2) (λz h1=>∃u2,h1=H1++u2/\Lp (H1++u2) H1.length z.1 b.A3) (.slnil,0) rfl ⟨AO _,[],by simp,.inl ⟨rfl,by simp⟩⟩ ?_ ?_
   .rintro⟨V,n⟩ h1 ⟨hn,u2,rfl,hV⟩;simp only at hn hV;have w1:=wu.HB (u:=u2);have l31:=w1.l3;have lc:=AM.Cp hv;have hVc:=hV.cells;rcases AN n fs.length with hlt|DT
    .have e1:=AM.BA (k:= .i64) hv hlt;rw[B0.row] at e1;have efp:fs[n].c=b.A3[n]:=by simp only[<-F0,CN]
     have hal:=(rm.Dj fs[n].c (by rw[efp];exact AI _)).2.1;obtain⟨av,ea,ZD⟩:=AM.Gk (b:=40) fs[n].ok (by omega);have hvc:fs[n].v.cells=[fs[n].v]:=AM.cells fs[n].ok;have bw:av.cells=[av]:=AM.cells ZD;obtain⟨u',V',g1,hV'⟩:=aHr hV (by rw[Al];omega) ⟨fs[n].c,av,ZD⟩;rw[B0.row] at g1;simp only at g1 hV';have hV'c:=hV'.cells;have em:Aw (.By 3) [.agg [I fs[n].c.node,.str fs[n].c.name,av]]=some (.sl 3 [[I fs[n].c.node,.str fs[n].c.name,av]]):=KS rfl;simp only[AA,Nat.reduceLeDiff,↓reduceIte,AK,Bi,l31,lc,show(n:Int)<(fs.length:Int) by omega,e1,ea,bw,em];simp only[AA,↓reduceIte,g1,hV'c,BB (show n<9223372036854775807 by omega)];exact .next (V',n+1) rfl ⟨hlt,u',rfl,by rw[Av (by omega),<-efp];exact hV'⟩ (by simp only;omega)
    .rw[Az (by omega)] at hV;simp only[AA,Nat.reduceLeDiff,↓reduceIte,AK,Bi,l31,lc,show¬(n:Int)<(fs.length:Int) by omega,aaS];exact .GM (V,n) rfl ⟨u2,rfl,hV⟩
   .rintro⟨V,n⟩ h1 ⟨u2,rfl,hV⟩;simp only at hV;have hVc:=hV.cells;simp only[AA,↓reduceIte];refine⟨_,rfl,t',O,V,u++u2,rfl,by rw[hH1,Ax],Fp,?_,?_⟩;·rw[<-Ax,<-hH1];exact hO.Cv λi _ hi=>Ad hi
    .rw[<-Ax,<-hH1];exact hV.low hlH
 obtain⟨r,h',hr,t',o',c',u,rfl,rfl,hs⟩:=H5.ret;exact⟨t',o',c',u,hr,hs⟩
end
section
variable{h h':Ag}{a n i:Nat}{ps:List RN}{A:Ar}{x:Int}
theorem aMJ(w:RA h a n i ps A)(hb:A.n.length<=900000000):BI cx 103 [Pt a 0] h (I A.len) h:=by
 have hl:=w.len;have e:((ps.length+1:Nat):Int)-1=A.len:=by unfold Ar.len;omega
 have hs:=CK (a:=((ps.length+1:Nat):Int)) (b:=1) (by omega) (by omega);rw[e] at hs;rw[Ab,jv,aED];simp only[AA,Bi,w.nodes,show Aw (.len false) [.Ck n 0 (ps.length+1) 13]=some (I ((ps.length+1:Nat):Int)) from rfl,hs]
theorem aH7(p:RN)(h1:p.x.AZ.length<=1000000000)(h2:p.x.Ay.length<=1000000000)(h:Ag):∃r,BI cx 192 [.agg p.row] h (.agg r) h/\∀h',xg h' p.x r:=by have ZJ:AT=140737488355328:=rfl;obtain⟨K,e1,hK⟩:=AM.Gk (b:=8) p.okk (by omega);obtain⟨V,e2,hV⟩:=AM.Gk (b:=40) p.oka (by omega);have kc:p.kv.cells=[p.kv]:=AM.cells p.okk;have vc:p.av.cells=[p.av]:=AM.cells p.oka;have Kc:K.cells=[K]:=AM.cells hK;have Vc:V.cells=[V]:=AM.cells hV;refine⟨_,?_,λh'=>⟨K,V,rfl,Df.Rc hK,VK hV,Kc,Vc⟩⟩;rw[Ab,mg,aE1,RN.row];simp only[AA,e1,Kc,e2,Vc]
theorem aMK(w:RA h a n i ps A)(hk:∀x,(A.nd x).AZ.length<=1000000000)(ha:∀x,(A.nd x).Ay.length<=1000000000)(hb:A.n.length<=900000000):∃v,BI cx 105 [Pt a 0] h v h/\∀h',V9 h' v A.n:=by
 have ZJ:AT=140737488355328:=rfl;have ZE:=w.len;have H5:Ev cx 105 [Pt a 0] h λr h'=>h'=h/\∀h',V9 h' r A.n:=by
  unfold Ev;rw[jx,aEF];refine Bd (λz:Aa×Nat=>[z.1,I ((z.2+1:Nat):Int)]) (λz h1=>z.2<=ps.length/\h1=h/\∃Au:List (List Aa),AM 13 Au z.1/\Au.length=z.2/\∀h' k (h1:k<Au.length) (h2:k<A.n.length),xg h' A.n[k] Au[k]) (λz=>ps.length-z.2) (.slnil,0) rfl ⟨AO _,rfl,[],.nil,rfl,λh' k h1=>by simp at h1⟩ ?_;rintro⟨V,k⟩ h1 ⟨Wr,rfl,Au,s1,e1,n1⟩;simp only at Wr s1 e1;have ll:Aw (.len false) [.Ck n 0 (ps.length+1) 13]=some (I ((ps.length+1:Nat):Int)):=rfl;rcases AN k ps.length with hlt|DT
  .obtain⟨hx,ex⟩:=jR (A:=A) (k:=k) (by omega);have ex2:=(w.pn hx).2;have ld:=w.xk hx;have ea:=w.addr hx;obtain⟨r,r1,hr⟩:=aH7 (pR ps ((k:Int)+1)) (by rw[ex2];exact hk _) (by rw[ex2];exact ha _) h1;rw[ex2,ex] at hr;have em:Aw (.By 13) [.agg r]=some (.sl 13 [r]):=by obtain⟨K,W,er,_⟩:=hr [];exact La (a:= .agg r) (by rw[er];rfl) (by decide)
   have ap:=AM.xG (b:=168) (row:=r) s1 (by omega);have ek:((k+1:Nat):Int)=(k:Int)+1:=by omega
   have inc:Aw (.int .add) [I ((k:Int)+1),I 1]=some (I ((k:Int)+1+1)):=OP (by omega) (by omega);simp only[AA,Bi,w.nodes,ll,ek,show(k:Int)+1<(ps.length:Int)+1 by omega,Int.natCast_add,Int.natCast_one,ea,ld,r1.call,em,ap,inc];refine AF.next (_,k+1) rfl ⟨hlt,rfl,Au++[r],.mk,by simp[e1],λh' j h1 h2=>?_⟩ (by simp only;omega);by_cases hj:j<Au.length;·rw[GL hj];exact n1 h' j hj h2
   .have ej:j=k:=by simp at h1;omega
    subst ej;rw[List.getElem_append_right (by omega)];simp only[e1,CY,List.getElem_cons_zero];exact hr h'
  .simp only[AA,Bi,w.nodes,ll,show¬((k+1:Nat):Int)<((ps.length+1:Nat):Int) by omega];exact⟨_,rfl,λh'=>⟨Au,s1,by omega,λj a b=>n1 h' j a b⟩⟩
 obtain⟨r,h',hr,rfl,hV⟩:=H5.ret;exact⟨r,hr,hV⟩
end
def RB(h:Ag)(bi:Nat)(b:BS)(F:Nat->Prop):Prop:=∃a o c t G,RX h bi a o c t G b/\BN b.A3 c/\F=own bi G
structure Sq(h:Ag)(bi wi:Nat)(b:BS)(F F2:Nat->Prop):Prop where
 p:PB h bi b F
 r:RB h wi b F2
 d:∀i,F i->¬F2 i
structure Ox(b:BS)(j:Nat):Prop where
 ok:DG b
 sz:Sz b j
 nm:Nm b.a
section
variable{h h':Ag}{bi wi:Nat}{b:BS}{F F2:Nat->Prop}{q:dG}{av:Aa}{j:Nat}
theorem RB.lt(w:RB h bi b F){i:Nat}(hi:F i):i<h.length:=by
 obtain⟨a,o,c,t,G,w,_,rfl⟩:=w;rcases hi with rfl|hi
 .exact w.lt
 .exact w.w.lt hi
theorem RB.Cv(w:RB h bi b F)(hf:∀i,F i->h'[i]?=h[i]?):RB h' bi b F:=by obtain⟨a,o,c,t,G,w,hc,rfl⟩:=w;exact⟨a,o,c,t,G,w.Cv hf,hc,rfl⟩
theorem RB.HB(w:RB h bi b F){u:Ag}:RB (h++u) bi b F:=w.Cv λi hi=>Ad (w.lt hi)
theorem Sq.HB(w:Sq h bi wi b F F2){u:Ag}:Sq (h++u) bi wi b F F2:=⟨w.p.HB,w.r.HB,w.d⟩
theorem Ox.le{k:Nat}(f:Ox b j)(hk:k<=j):Ox b k:=⟨f.ok,⟨f.sz.rm.le (by omega),by have:=f.sz.AR;omega,by have:=f.sz.A3;omega⟩,f.nm⟩
theorem Ox.GM(f:Ox b j):Fin b j:=⟨f.ok,f.sz⟩
theorem Ox.do(f:Ox b (j+1))(hq:bn q):Ox (VX b q).1 j:=⟨aCj f.ok,aCk f.sz hq,aCp f.nm f.sz hq⟩
theorem EK.jV(s:EK):Ox s.b 100:=⟨s.ok.1,s.ok.2,cm s⟩
theorem Sq.prog{b':BS}{F':Nat->Prop}(w:Sq h bi wi b F F2)(p:PB h' bi b' F')(x:Dh h F h' F'):RB h' wi b F2/\∀i,F' i->¬F2 i:=
 ⟨w.r.Cv λi hi=>x.old i (w.r.lt hi) λhp=>w.d i hp hi,λi h1 h2=>by
  rcases x.own i h1 with h3|h3
  .exact w.d i h3 h2
  .have:=w.r.lt h2;omega⟩
theorem aMM(w:RB h bi b F)(f:Ox b (j+1))(hq:bn q)(hv:Bz q.Ay av):∃h' F',BI cx 56 [Pt bi 0,.agg (KA q av)] h (.agg (VX b q).2.row) h'/\RB h' bi (VX b q).1 F'/\Dh h F h' F':=by obtain⟨a,o,c,t,G,w,hc,rfl⟩:=w;obtain⟨h',o',c',t',G',r,w',Km,x⟩:=aMD w hc f.ok f.sz f.nm hq hv;exact⟨h',_,r,⟨a,o',c',t',G',w',Km,rfl⟩,x⟩
theorem sy(w:Sq h bi wi b F F2)(f:Ox b (j+1))(hq:bn q)(hv:Bz q.Ay av):∃h1 h2 F' F2',BI cx 23 [Pt bi 0,.agg (KA q av)] h (.agg (VX b q).2.row) h1/\BI cx 56 [Pt wi 0,.agg (KA q av)] h1 (.agg (VX b q).2.row) h2/\Sq h2 bi wi (VX b q).1 F' F2':=by
 obtain⟨h1,F',r1,w1,x1⟩:=aMh w.p f.GM hq hv;obtain⟨w2,d2⟩:=w.prog w1 x1;obtain⟨h2,F2',r2,w3,x2⟩:=aMM w2 f hq hv;refine⟨h1,h2,F',F2',r1,r2,w1.Cv λi hi=>x2.old i (w1.lt hi) (d2 i hi),w3,λi h3 h4=>?_⟩;rcases x2.own i h4 with h5|h5
 .exact d2 i h3 h5
 .have:=w1.lt h3;omega
theorem aMN(s:EK)(hv:Bz s.Ay av)(hl:DH s.Ay)(hn:s.name.length<=1000)(h:Ag):∃h' bi F,BI cx 9 [.agg (Ou s av)] h (Pt bi 0) h'/\RB h' bi s.b F/\Dh h (λ_=>False) h' F:=by obtain⟨h',bi,a,o,c,t,G,r,w,hc,x⟩:=aMH h s hv hl hn;exact⟨h',bi,_,r,⟨a,o,c,t,G,w,hc,rfl⟩,x⟩
theorem jW(s:EK)(hv:Bz s.Ay av)(hl:DH s.Ay)(hn:s.name.length<=1000)(h:Ag):∃h1 h2 bi wi F F2,BI cx 8 [.agg (Ou s av)] h (Pt bi 0) h1/\BI cx 9 [.agg (Ou s av)] h1 (Pt wi 0) h2/\Sq h2 bi wi s.b F F2:=by
 obtain⟨h1,bi,F,r1,w1,x1⟩:=aMi s hv hl h;obtain⟨h2,wi,F2,r2,w2,x2⟩:=aMN s hv hl hn h1;refine⟨h1,h2,bi,wi,F,F2,r1,r2,w1.Cv λi hi=>x2.old i (w1.lt hi) (λh=>h),w2,λi h3 h4=>?_⟩;rcases x2.own i h4 with h5|h5
 .exact h5
 .have:=w1.lt h3;omega
end
theorem Sr:∀{l:List QO} {b:BS} {j:Nat},Ox b (j+l.length)->(∀x∈l,bn x.q)->Ox (Mz b l) j
 |[],_,_,f,_=>f
 |x::l,b,j,f,hq=>by rw[Mz];exact Sr (Ox.do (j:=j+l.length) (f.le (by simp only[Bf];omega)) (hq x (by simp))) λy hy=>hq y (by simp[hy])
theorem aMO(i:Item):Aw (.geq true [.i,.i,.s,.b]) [.agg i.row,.agg i.row]=some (.bool false):=by rw[PZ];simp[Item.row,DC,Ko]
section
variable{h h':Ag}{bi wi:Nat}{b:BS}{F F2:Nat->Prop}{q:dG}{av:Aa}{j:Nat}
theorem f7w(s:EK)(hv:Bz s.Ay av)(hl:DH s.Ay)(hn:s.name.length<=1000){l:List QO}{v:Aa}(ho:pP l v)(hb:l.length<=60)(hq:∀x∈l,bn x.q)(h:Ag):
  ∃h' bi wi F F2,BI cx 21 [.agg (Ou s av),v] h (.tuple [Pt bi 0,Pt wi 0,tt]) h'/\Sq h' bi wi (Mz s.b l) F F2:=by
 obtain⟨h1,h2,bi,wi,F,F2,r1,r2,w0⟩:=jW s hv hl hn h;have H5:Ev cx 21 [.agg (Ou s av),v] h λr h'=>r= .tuple [Pt bi 0,Pt wi 0,tt]/\∃F F2,Sq h' bi wi (Mz s.b l) F F2:=by
  unfold Ev;have ZD:av.cells=[av]:=AM.cells hv;have lm:=AM.Cp ho;rw[aAb,t21];rw[Ou] at r1 r2⊢;simp only[AA,Bi,r1.call,r2.call];refine Bd (λn:Nat=>[.ptr none,.ptr none,ff,I (n:Int)]) (λn h1=>n<=l.length/\∃F F2,Sq h1 bi wi (Mz s.b (l.take n)) F F2) (λn=>l.length-n) 0 rfl ⟨AO _,F,F2,w0⟩ ?_;rintro n h3 ⟨LR,F3,F4,w3⟩;rcases AN n l.length with hlt|DT
  .have e1:=AM.BA (k:= .i64) ho hlt;have jV:Ox (Mz s.b (l.take n)) (39+1):=(Sr (j:=40) (l:=l.take n) (s.jV.le (by rw[Al];omega)) λx hx=>hq x (Bj hx));obtain⟨h4,h5,F5,F6,r3,r4,w5⟩:=sy w3 jV (hq _ (AI hlt)) l[n].ok;have hr:KA l[n].q l[n].v=l[n].row:=rfl;rw[hr] at r3 r4;simp only[AA,Bi,lm,show(n:Int)<(l.length:Int) by omega,e1,QO.Cq,QO.GA,Ac,r3.call,Bx,r4.call,aMO,BB (show n<9223372036854775807 by omega)];exact AF.next (n+1) rfl ⟨hlt,F5,F6,by rw[Av hlt,V8];exact w5⟩ (by omega)
  .rw[Az DT] at w3;simp only[AA,Bi,lm,show¬(n:Int)<(l.length:Int) by omega];exact⟨_,rfl,rfl,F3,F4,w3⟩
 obtain⟨r,h',hr,rfl,F',F2',w'⟩:=H5.ret;exact⟨h',bi,wi,F',F2',hr,w'⟩
theorem f8w(w:Sq h bi wi b F F2)(f:Ox b j):∃u,BI cx 10 [Pt bi 0,Pt wi 0] h tt (h++u):=by
 obtain⟨a,o,c,t,G,wp,hc,e1⟩:=w.p;obtain⟨t1,o1,c1,u1,r1,s1⟩:=aMg wp hc f.sz.rm;have w1:=w.HB (u:=u1);obtain⟨a',o',c',t',G',wr,Km,e2⟩:=w1.r;obtain⟨t2,o2,c2,u2,r2,s2⟩:=aMI wr Km f.sz.rm;have w2:=w1.HB (u:=u2);have rm:=f.sz.rm;have k1:=rm.tm;have k2:=rm.AR;have k3:=rm.A3;have k4:=rm.n;have r3:=f22 (s1.Cv (h':=h++u1++u2) λi _ hi=>Ad hi) s2 (show b.tm.length<=1000000000 by omega) (show(b.AR.map Item.node).length<=1000000000 by rw[Ah];omega) (show b.A3.length<=1000000000 by omega) (λe he=>by have:=(rm.Dj e he).2.1;omega);have wp2:=(wp.HB (u:=u1)).HB (u:=u2);have wr2:=wr.HB (u:=u2);have l0:=wp2.l0;have l0':=wr2.l0;have kb:∀x,(b.a.nd x).AZ.length<=1000000000:=λx=>rm.Wm.AZ f.ok.ok x;have ab:∀x,(b.a.nd x).Ay.length<=1000000000:=λx=>by have:=rm.at_ x;omega
 obtain⟨n,m',ps,wa⟩:=wp2.w.pa;obtain⟨n',i',IB,wa',_⟩:=wr2.w;obtain⟨v1,u3,r5,n1⟩:=aMl wa rm.Wm kb (by omega);have r4:=aLd wa;have r4':=aMJ wa' (by omega);have wa3:RA (h++u1++u2++u3) a' n' i' IB b.a:=wa'.Cv λj hj=>Ad (wa'.lt hj);obtain⟨v2,r6,n2⟩:=aMK wa3 kb ab (by omega);have r7:=f90 n1.rd (n2 (h++u1++u2++u3)) (by omega) (λx hx=>by obtain⟨k,hk,rfl⟩:=List.getElem_of_mem hx;have:=(jR hk).2;rw[<-this];exact⟨ab _,kb _⟩)
 have r8:BI cx 41 [Pt a 0,Pt a' 0] (h++u1++u2) tt (h++u1++u2++u3):=by rw[Ab,aAi,t41];simp only[AA,r4.call,r4'.call,Cx,D8,r5.call,r6.call,r7.call]
 refine⟨u1++u2++u3,?_⟩;rw[Ab,V_,t10];rw[show h++(u1++u2++u3)=h++u1++u2++u3 by simp only[Ax]];simp only[AA,Bi,r1.call,r2.call,r3.call,l0,l0',r8.call]
end
theorem tL:Ev cx 7 [] [] λr _=>r= .bool true:=sF 3000 (by kernel_rfl)
end Go.Am
end
