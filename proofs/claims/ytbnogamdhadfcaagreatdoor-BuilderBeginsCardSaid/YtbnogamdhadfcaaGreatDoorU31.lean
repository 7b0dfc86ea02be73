/- Lemmas -/
import Derived.Test.YtbnogamdhadfcaaGreatDoorU30
set_option linter.unusedVariables false
set_option linter.unusedSimpArgs false
section
namespace Go.Am
open Go
set_option maxRecDepth 100000
section
variable{h h':Ae}{bi a lo:Nat}{o c t:Aa}{G G' F:Nat->Prop}{b:BS}{x:Int}{m:Nat}
theorem aMO(w:RX h bi a o c t G b)(hc:BO b.A4 c)(rm:BQ b m):∃t' o' c' u,BE cx 40 [Pt bi 0] h (.agg (LL b.OZ t' o' c')) (h++u)/\Pz (h++u) h.length b.OZ t' o' c':=by
 have aX:AS=140737488355328:=rfl;have ho:=rm.AR;have Rs:=rm.A4;have htm:=rm.tm;obtain⟨t',e0,FJ⟩:=AL.Gm (b:=8) w.t (by omega);have htc:t'.cells=[t']:=AL.cells FJ;obtain⟨fs,Gr,hv⟩:=hc;have GI:b.A4.length=fs.length:=by rw[<-Gr,Ai]
 have Ik:Ev cx 40 [Pt bi 0] h λr h'=>∃t' o' c' u,r= .agg (LL b.OZ t' o' c')/\h'=h++u/\Pz (h++u) h.length b.OZ t' o' c':=by
  unfold Ev;rw[aAk,t40];simp only[Az,Nat.reduceLeDiff,↓reduceIte,AI,Bi,w.ld,EI,e0,htc];refine Ej (i:=0) (λz:Aa×Nat=>[.agg [I b.mode,I b.Tp,t',z.1,.slnil,I b.head,I b.Kv,.bool b.fs,.bool b.Ei,.str b.cE,.bool b.skip,I b.sw,.bool b.stop],I (z.2:Int)]) (λz h1=>z.2<=b.AR.length/\∃u,h1=h++u/\LK (h++u) h.length z.1 ((b.AR.take z.2).map Item.node)) (λz=>b.AR.length-z.2) (λz h1=>∃u,h1=h++u/\LK (h++u) h.length z.1 (b.AR.map Item.node)) (.slnil,0) rfl ⟨AO _,[],by simp,.inl ⟨rfl,by simp⟩⟩ ?_ ?_
  .rintro⟨V,n⟩ h1 ⟨hn,u,rfl,hV⟩;simp only at hn hV;have w1:=w.HB (u:=u);have uB:Bb (h++u) none (Pt bi 2)=some o:=w1.ld 2;have lo1:=AL.Cq w.o;have hVc:=hV.cells;rcases AT n b.AR.length with hlt|D2
   .have e1:=AL.Bz (k:= .i64) w.o hlt;rw[Item.row] at e1;obtain⟨u',V',g1,hV'⟩:=xh hV (by rw[Ai,Al];omega) b.AR[n].node;have hV'c:=hV'.cells;have em:Aw (.By 1) [I b.AR[n].node]=some (.sl 1 [[I b.AR[n].node]]):=rfl;simp only[Az,↓reduceIte,Bi,uB,lo1,show(n:Int)<(b.AR.length:Int) by omega,e1,em,g1,hV'c,BG (show n<9223372036854775807 by omega)];exact .next (V',n+1) rfl ⟨hlt,u',rfl,by rw[Av hlt,BI];exact hV'⟩ (by simp only;omega)
   .rw[Ay D2] at hV;simp only[Az,↓reduceIte,Bi,uB,lo1,show¬(n:Int)<(b.AR.length:Int) by omega];exact .Hy (V,n) rfl ⟨u,rfl,hV⟩
  .rintro⟨O,n0⟩ h1 ⟨u,rfl,hO⟩;simp only at hO;have hOc:=hO.cells;simp only[Az,↓reduceIte];have wu:=w.HB (u:=u);have hlH:h.length<=(h++u).length:=by simp
   obtain⟨H1,hH1⟩:∃H1,H1=h++u:=⟨_,rfl⟩;rw[<-hH1] at hO wu hlH⊢;refine Ej (i:=2) (λz:Aa×Nat=>[.agg [I b.mode,I b.Tp,t',O,z.1,I b.head,I b.Kv,.bool b.fs,.bool b.Ei,.str b.cE,.bool b.skip,I b.sw,.bool b.stop],I (z.2:Int)]) (λz h1=>z.2<=fs.length/\∃u2,h1=H1++u2/\Lm (H1++u2) H1.length z.1 ((b.A4.take z.2))) (λz=>fs.length-z.2) (λz h1=>∃u2,h1=H1++u2/\Lm (H1++u2) H1.length z.1 b.A4) (.slnil,0) rfl ⟨AO _,[],by simp,.inl ⟨rfl,by simp⟩⟩ ?_ ?_
   .rintro⟨V,n⟩ h1 ⟨hn,u2,rfl,hV⟩;simp only at hn hV;have w1:=wu.HB (u:=u2);have l31:=w1.l3;have lc:=AL.Cq hv;have hVc:=hV.cells;rcases AT n fs.length with hlt|D2
    .have e1:=AL.Bz (k:= .i64) hv hlt;rw[B3.row] at e1;have efp:fs[n].c=b.A4[n]:=by simp only[<-Gr,CY]
     have hal:=(rm.Dl fs[n].c (by rw[efp];exact AJ _)).2.1;obtain⟨av,ea,Wr⟩:=AL.Gm (b:=40) fs[n].ok (by omega);have hvc:fs[n].v.cells=[fs[n].v]:=AL.cells fs[n].ok;have aCu:av.cells=[av]:=AL.cells Wr;obtain⟨u',V',g1,hV'⟩:=aHw hV (by rw[Al];omega) ⟨fs[n].c,av,Wr⟩;rw[B3.row] at g1;simp only at g1 hV';have hV'c:=hV'.cells;have em:Aw (.By 3) [.agg [I fs[n].c.node,.str fs[n].c.name,av]]=some (.sl 3 [[I fs[n].c.node,.str fs[n].c.name,av]]):=KQ rfl;simp only[Az,Nat.reduceLeDiff,↓reduceIte,AI,Bi,l31,lc,show(n:Int)<(fs.length:Int) by omega,e1,ea,aCu,em];simp only[Az,↓reduceIte,g1,hV'c,BG (show n<9223372036854775807 by omega)];exact .next (V',n+1) rfl ⟨hlt,u',rfl,by rw[Av (by omega),<-efp];exact hV'⟩ (by simp only;omega)
    .rw[Ay (by omega)] at hV;simp only[Az,Nat.reduceLeDiff,↓reduceIte,AI,Bi,l31,lc,show¬(n:Int)<(fs.length:Int) by omega,aaS];exact .Hy (V,n) rfl ⟨u2,rfl,hV⟩
   .rintro⟨V,n⟩ h1 ⟨u2,rfl,hV⟩;simp only at hV;have hVc:=hV.cells;simp only[Az,↓reduceIte];refine⟨_,rfl,t',O,V,u++u2,rfl,by rw[hH1,AB],FJ,?_,?_⟩;·rw[<-AB,<-hH1];exact hO.CP λi _ hi=>Ad hi
    .rw[<-AB,<-hH1];exact hV.low hlH
 obtain⟨r,h',hr,t',o',c',u,rfl,rfl,hs⟩:=Ik.ret;exact⟨t',o',c',u,hr,hs⟩
end
section
variable{h h':Ae}{a n i:Nat}{ps:List RN}{A:Ar}{x:Int}
theorem aMP(w:RA h a n i ps A)(hb:A.n.length<=900000000):BE cx 103 [Pt a 0] h (I A.len) h:=by
 have hl:=w.len;have e:((ps.length+1:Nat):Int)-1=A.len:=by unfold Ar.len;omega
 have hs:=CJ (a:=((ps.length+1:Nat):Int)) (b:=1) (by omega) (by omega);rw[e] at hs;rw[Ab,jo,aEJ];simp only[Az,Bi,w.nodes,show Aw (.len false) [.Cm n 0 (ps.length+1) 13]=some (I ((ps.length+1:Nat):Int)) from rfl,hs]
theorem aId(p:RN)(h1:p.x.AZ.length<=1000000000)(h2:p.x.Ax.length<=1000000000)(h:Ae):∃r,BE cx 192 [.agg p.row] h (.agg r) h/\∀h',xi h' p.x r:=by have aX:AS=140737488355328:=rfl;obtain⟨K,e1,hK⟩:=AL.Gm (b:=8) p.okk (by omega);obtain⟨V,e2,hV⟩:=AL.Gm (b:=40) p.oka (by omega);have kc:p.kv.cells=[p.kv]:=AL.cells p.okk;have vc:p.av.cells=[p.av]:=AL.cells p.oka;have Kc:K.cells=[K]:=AL.cells hK;have Vc:V.cells=[V]:=AL.cells hV;refine⟨_,?_,λh'=>⟨K,V,rfl,Dh.Sd hK,VI hV,Kc,Vc⟩⟩;rw[Ab,ma,aE7,RN.row];simp only[Az,e1,Kc,e2,Vc]
theorem aMQ(w:RA h a n i ps A)(hk:∀x,(A.nd x).AZ.length<=1000000000)(ha:∀x,(A.nd x).Ax.length<=1000000000)(hb:A.n.length<=900000000):∃v,BE cx 105 [Pt a 0] h v h/\∀h',V5 h' v A.n:=by
 have aX:AS=140737488355328:=rfl;have ZD:=w.len;have Ik:Ev cx 105 [Pt a 0] h λr h'=>h'=h/\∀h',V5 h' r A.n:=by
  unfold Ev;rw[jr,aEL];refine A9 (λz:Aa×Nat=>[z.1,I ((z.2+1:Nat):Int)]) (λz h1=>z.2<=ps.length/\h1=h/\∃Au:List (List Aa),AL 13 Au z.1/\Au.length=z.2/\∀h' k (h1:k<Au.length) (h2:k<A.n.length),xi h' A.n[k] Au[k]) (λz=>ps.length-z.2) (.slnil,0) rfl ⟨AO _,rfl,[],.nil,rfl,λh' k h1=>by simp at h1⟩ ?_;rintro⟨V,k⟩ h1 ⟨Uv,rfl,Au,s1,e1,n1⟩;simp only at Uv s1 e1;have ll:Aw (.len false) [.Cm n 0 (ps.length+1) 13]=some (I ((ps.length+1:Nat):Int)):=rfl;rcases AT k ps.length with hlt|D2
  .obtain⟨hx,ex⟩:=jT (A:=A) (k:=k) (by omega);have ex2:=(w.pn hx).2;have ld:=w.xm hx;have ea:=w.addr hx;obtain⟨r,r1,hr⟩:=aId (pR ps ((k:Int)+1)) (by rw[ex2];exact hk _) (by rw[ex2];exact ha _) h1;rw[ex2,ex] at hr;have em:Aw (.By 13) [.agg r]=some (.sl 13 [r]):=by obtain⟨K,W,er,_⟩:=hr [];exact K8 (a:= .agg r) (by rw[er];rfl) (by decide)
   have ap:=AL.xF (b:=168) (row:=r) s1 (by omega);have ek:((k+1:Nat):Int)=(k:Int)+1:=by omega
   have inc:Aw (.int .add) [I ((k:Int)+1),I 1]=some (I ((k:Int)+1+1)):=OJ (by omega) (by omega);simp only[Az,Bi,w.nodes,ll,ek,show(k:Int)+1<(ps.length:Int)+1 by omega,Int.natCast_add,Int.natCast_one,ea,ld,r1.call,em,ap,inc];refine AF.next (_,k+1) rfl ⟨hlt,rfl,Au++[r],.mk,by simp[e1],λh' j h1 h2=>?_⟩ (by simp only;omega);by_cases hj:j<Au.length;·rw[Jh hj];exact n1 h' j hj h2
   .have ej:j=k:=by simp at h1;omega
    subst ej;rw[List.getElem_append_right (by omega)];simp only[e1,DB,List.getElem_cons_zero];exact hr h'
  .simp only[Az,Bi,w.nodes,ll,show¬((k+1:Nat):Int)<((ps.length+1:Nat):Int) by omega];exact⟨_,rfl,λh'=>⟨Au,s1,by omega,λj a b=>n1 h' j a b⟩⟩
 obtain⟨r,h',hr,rfl,hV⟩:=Ik.ret;exact⟨r,hr,hV⟩
end
def RB(h:Ae)(bi:Nat)(b:BS)(F:Nat->Prop):Prop:=∃a o c t G,RX h bi a o c t G b/\BO b.A4 c/\F=own bi G
structure TG(h:Ae)(bi wi:Nat)(b:BS)(F F2:Nat->Prop):Prop where
 p:PB h bi b F
 r:RB h wi b F2
 d:∀i,F i->¬F2 i
structure O6(b:BS)(j:Nat):Prop where
 ok:DG b
 sz:Sz b j
 nm:Nm b.a
section
variable{h h':Ae}{bi wi:Nat}{b:BS}{F F2:Nat->Prop}{q:dI}{av:Aa}{j:Nat}
theorem RB.lt(w:RB h bi b F){i:Nat}(hi:F i):i<h.length:=by
 obtain⟨a,o,c,t,G,w,_,rfl⟩:=w;rcases hi with rfl|hi
 .exact w.lt
 .exact w.w.lt hi
theorem RB.CP(w:RB h bi b F)(hf:∀i,F i->h'[i]?=h[i]?):RB h' bi b F:=by obtain⟨a,o,c,t,G,w,hc,rfl⟩:=w;exact⟨a,o,c,t,G,w.CP hf,hc,rfl⟩
theorem RB.HB(w:RB h bi b F){u:Ae}:RB (h++u) bi b F:=w.CP λi hi=>Ad (w.lt hi)
theorem TG.HB(w:TG h bi wi b F F2){u:Ae}:TG (h++u) bi wi b F F2:=⟨w.p.HB,w.r.HB,w.d⟩
theorem O6.le{k:Nat}(f:O6 b j)(hk:k<=j):O6 b k:=⟨f.ok,⟨f.sz.rm.le (by omega),by have:=f.sz.AR;omega,by have:=f.sz.A4;omega⟩,f.nm⟩
theorem O6.Hy(f:O6 b j):Fin b j:=⟨f.ok,f.sz⟩
theorem O6.do(f:O6 b (j+1))(hq:bk q):O6 (VV b q).1 j:=⟨aCp f.ok,aCq f.sz hq,aCw f.nm f.sz hq⟩
theorem DU.sr(s:DU):O6 s.b 100:=⟨s.ok.1,s.ok.2,b_ s⟩
theorem TG.prog{b':BS}{F':Nat->Prop}(w:TG h bi wi b F F2)(p:PB h' bi b' F')(x:Df h F h' F'):RB h' wi b F2/\∀i,F' i->¬F2 i:=
 ⟨w.r.CP λi hi=>x.old i (w.r.lt hi) λhp=>w.d i hp hi,λi h1 h2=>by
  rcases x.own i h1 with h3|h3
  .exact w.d i h3 h2
  .have:=w.r.lt h2;omega⟩
theorem aMS(w:RB h bi b F)(f:O6 b (j+1))(hq:bk q)(hv:Bx q.Ax av):∃h' F',BE cx 56 [Pt bi 0,.agg (Kz q av)] h (.agg (VV b q).2.row) h'/\RB h' bi (VV b q).1 F'/\Df h F h' F':=by obtain⟨a,o,c,t,G,w,hc,rfl⟩:=w;obtain⟨h',o',c',t',G',r,w',J4,x⟩:=aMJ w hc f.ok f.sz f.nm hq hv;exact⟨h',_,r,⟨a,o',c',t',G',w',J4,rfl⟩,x⟩
theorem su(w:TG h bi wi b F F2)(f:O6 b (j+1))(hq:bk q)(hv:Bx q.Ax av):∃h1 h2 F' F2',BE cx 23 [Pt bi 0,.agg (Kz q av)] h (.agg (VV b q).2.row) h1/\BE cx 56 [Pt wi 0,.agg (Kz q av)] h1 (.agg (VV b q).2.row) h2/\TG h2 bi wi (VV b q).1 F' F2':=by
 obtain⟨h1,F',r1,w1,x1⟩:=aMn w.p f.Hy hq hv;obtain⟨w2,d2⟩:=w.prog w1 x1;obtain⟨h2,F2',r2,w3,x2⟩:=aMS w2 f hq hv;refine⟨h1,h2,F',F2',r1,r2,w1.CP λi hi=>x2.old i (w1.lt hi) (d2 i hi),w3,λi h3 h4=>?_⟩;rcases x2.own i h4 with h5|h5
 .exact d2 i h3 h5
 .have:=w1.lt h3;omega
theorem aMT(s:DU)(hv:Bx s.Ax av)(hl:DL s.Ax)(hn:s.name.length<=1000)(h:Ae):∃h' bi F,BE cx 9 [.agg (O4 s av)] h (Pt bi 0) h'/\RB h' bi s.b F/\Df h (λ_=>False) h' F:=by obtain⟨h',bi,a,o,c,t,G,r,w,hc,x⟩:=aMN h s hv hl hn;exact⟨h',bi,_,r,⟨a,o,c,t,G,w,hc,rfl⟩,x⟩
theorem Wb(s:DU)(hv:Bx s.Ax av)(hl:DL s.Ax)(hn:s.name.length<=1000)(h:Ae):∃h1 h2 bi wi F F2,BE cx 8 [.agg (O4 s av)] h (Pt bi 0) h1/\BE cx 9 [.agg (O4 s av)] h1 (Pt wi 0) h2/\TG h2 bi wi s.b F F2:=by
 obtain⟨h1,bi,F,r1,w1,x1⟩:=aMo s hv hl h;obtain⟨h2,wi,F2,r2,w2,x2⟩:=aMT s hv hl hn h1;refine⟨h1,h2,bi,wi,F,F2,r1,r2,w1.CP λi hi=>x2.old i (w1.lt hi) (λh=>h),w2,λi h3 h4=>?_⟩;rcases x2.own i h4 with h5|h5
 .exact h5
 .have:=w1.lt h3;omega
end
theorem XX:∀{l:List QO} {b:BS} {j:Nat},O6 b (j+l.length)->(∀x∈l,bk x.q)->O6 (Oo b l) j
 |[],_,_,f,_=>f
 |x::l,b,j,f,hq=>by rw[Oo];exact XX (O6.do (j:=j+l.length) (f.le (by simp only[Bc];omega)) (hq x (by simp))) λy hy=>hq y (by simp[hy])
theorem aCy(i:Item):Aw (.geq true [.i,.i,.s,.b]) [.agg i.row,.agg i.row]=some (.bool false):=by rw[PY];simp[Item.row,DC,Km]
section
variable{h h':Ae}{bi wi:Nat}{b:BS}{F F2:Nat->Prop}{q:dI}{av:Aa}{j:Nat}
theorem f7w(s:DU)(hv:Bx s.Ax av)(hl:DL s.Ax)(hn:s.name.length<=1000){l:List QO}{v:Aa}(ho:bq l v)(hb:l.length<=60)(hq:∀x∈l,bk x.q)(h:Ae):
  ∃h' bi wi F F2,BE cx 21 [.agg (O4 s av),v] h (.tuple [Pt bi 0,Pt wi 0,tt]) h'/\TG h' bi wi (Oo s.b l) F F2:=by
 obtain⟨h1,h2,bi,wi,F,F2,r1,r2,w0⟩:=Wb s hv hl hn h;have Ik:Ev cx 21 [.agg (O4 s av),v] h λr h'=>r= .tuple [Pt bi 0,Pt wi 0,tt]/\∃F F2,TG h' bi wi (Oo s.b l) F F2:=by
  unfold Ev;have Wr:av.cells=[av]:=AL.cells hv;have lm:=AL.Cq ho;rw[aAe,t21];rw[O4] at r1 r2⊢;simp only[Az,Bi,r1.call,r2.call];refine A9 (λn:Nat=>[.ptr none,.ptr none,ff,I (n:Int)]) (λn h1=>n<=l.length/\∃F F2,TG h1 bi wi (Oo s.b (l.take n)) F F2) (λn=>l.length-n) 0 rfl ⟨AO _,F,F2,w0⟩ ?_;rintro n h3 ⟨LU,F3,F4,w3⟩;rcases AT n l.length with hlt|D2
  .have e1:=AL.Bz (k:= .i64) ho hlt;have sr:O6 (Oo s.b (l.take n)) (39+1):=(XX (j:=40) (l:=l.take n) (s.sr.le (by rw[Al];omega)) λx hx=>hq x (Bf hx));obtain⟨h4,h5,F5,F6,r3,r4,w5⟩:=su w3 sr (hq _ (AJ hlt)) l[n].ok;have hr:Kz l[n].q l[n].v=l[n].row:=rfl;rw[hr] at r3 r4;simp only[Az,Bi,lm,show(n:Int)<(l.length:Int) by omega,e1,QO.Co,QO.GA,Ac,r3.call,Bv,r4.call,aCy,BG (show n<9223372036854775807 by omega)];exact AF.next (n+1) rfl ⟨hlt,F5,F6,by rw[Av hlt,V4];exact w5⟩ (by omega)
  .rw[Ay D2] at w3;simp only[Az,Bi,lm,show¬(n:Int)<(l.length:Int) by omega];exact⟨_,rfl,rfl,F3,F4,w3⟩
 obtain⟨r,h',hr,rfl,F',F2',w'⟩:=Ik.ret;exact⟨h',bi,wi,F',F2',hr,w'⟩
theorem f8w(w:TG h bi wi b F F2)(f:O6 b j):∃u,BE cx 10 [Pt bi 0,Pt wi 0] h tt (h++u):=by
 obtain⟨a,o,c,t,G,wp,hc,e1⟩:=w.p;obtain⟨t1,o1,c1,u1,r1,s1⟩:=aHx wp hc f.sz.rm;have w1:=w.HB (u:=u1);obtain⟨a',o',c',t',G',wr,J4,e2⟩:=w1.r;obtain⟨t2,o2,c2,u2,r2,s2⟩:=aMO wr J4 f.sz.rm;have w2:=w1.HB (u:=u2);have rm:=f.sz.rm;have k1:=rm.tm;have k2:=rm.AR;have k3:=rm.A4;have k4:=rm.n;have r3:=f22 (s1.CP (h':=h++u1++u2) λi _ hi=>Ad hi) s2 (show b.tm.length<=1000000000 by omega) (show(b.AR.map Item.node).length<=1000000000 by rw[Ai];omega) (show b.A4.length<=1000000000 by omega) (λe he=>by have:=(rm.Dl e he).2.1;omega);have wp2:=(wp.HB (u:=u1)).HB (u:=u2);have wr2:=wr.HB (u:=u2);have l0:=wp2.l0;have l0':=wr2.l0;have kb:∀x,(b.a.nd x).AZ.length<=1000000000:=λx=>rm.Tq.AZ f.ok.ok x;have ab:∀x,(b.a.nd x).Ax.length<=1000000000:=λx=>by have:=rm.at_ x;omega
 obtain⟨n,m',ps,wa⟩:=wp2.w.pa;obtain⟨n',i',Ip,wa',_⟩:=wr2.w;obtain⟨v1,u3,r5,n1⟩:=aMr wa rm.Tq kb (by omega);have r4:=aGq wa;have r4':=aMP wa' (by omega);have wa3:RA (h++u1++u2++u3) a' n' i' Ip b.a:=wa'.CP λj hj=>Ad (wa'.lt hj);obtain⟨v2,r6,n2⟩:=aMQ wa3 kb ab (by omega);have r7:=f90 n1.rd (n2 (h++u1++u2++u3)) (by omega) (λx hx=>by obtain⟨k,hk,rfl⟩:=List.getElem_of_mem hx;have:=(jT hk).2;rw[<-this];exact⟨ab _,kb _⟩)
 have r8:BE cx 41 [Pt a 0,Pt a' 0] (h++u1++u2) tt (h++u1++u2++u3):=by rw[Ab,aAl,t41];simp only[Az,r4.call,r4'.call,Cu,Ds,r5.call,r6.call,r7.call]
 refine⟨u1++u2++u3,?_⟩;rw[Ab,Y_,t10];rw[show h++(u1++u2++u3)=h++u1++u2++u3 by simp only[AB]];simp only[Az,Bi,r1.call,r2.call,r3.call,l0,l0',r8.call]
end
theorem tJ:Ev cx 7 [] [] λr _=>r= .bool true:=sC 3000 (by kernel_rfl)
end Go.Am
end
