/- Lemmas -/
import Derived.Test.YtefjamneieebhaaGreatDoorS30
set_option linter.unusedVariables false
set_option linter.unusedSimpArgs false
section
namespace Go.Am
open Go
set_option maxRecDepth 100000
section
variable{h h':Ad}{bi a lo:Nat}{o c t:Aa}{G G' F:Nat->Prop}{b:BS}{x:Int}{m:Nat}
end
section
variable{h h':Ad}{a n i:Nat}{ps:List RN}{A:Ar}{x:Int}
end
def RB(h:Ad)(bi:Nat)(b:BS)(F:Nat->Prop):Prop:=∃a o c t G,RX h bi a o c t G b/\BO b.A4 c/\F=own bi G
structure Rt(h:Ad)(bi wi:Nat)(b:BS)(F F2:Nat->Prop):Prop where
 p:PB h bi b F
 r:RB h wi b F2
 d:∀i,F i->¬F2 i
structure Lo(b:BS)(j:Nat):Prop where
 ok:DG b
 sz:Sz b j
 nm:Nm b.a
section
variable{h h':Ad}{bi wi:Nat}{b:BS}{F F2:Nat->Prop}{q:ZP}{av:Aa}{j:Nat}
theorem RB.lt(w:RB h bi b F){i:Nat}(hi:F i):i<h.length:=by
 obtain⟨a,o,c,t,G,w,_,rfl⟩:=w;rcases hi with rfl|hi
 .exact w.lt
 .exact w.w.lt hi
theorem RB.CW(w:RB h bi b F)(hf:∀i,F i->h'[i]?=h[i]?):RB h' bi b F:=by obtain⟨a,o,c,t,G,w,hc,rfl⟩:=w;exact⟨a,o,c,t,G,w.CW hf,hc,rfl⟩
theorem RB.HA(w:RB h bi b F){u:Ad}:RB (h++u) bi b F:=w.CW λi hi=>Af (w.lt hi)
theorem Rt.HA(w:Rt h bi wi b F F2){u:Ad}:Rt (h++u) bi wi b F F2:=⟨w.p.HA,w.r.HA,w.d⟩
theorem Lo.le{k:Nat}(f:Lo b j)(hk:k<=j):Lo b k:=⟨f.ok,⟨f.sz.rm.le (by omega),by have:=f.sz.AO;omega,by have:=f.sz.A4;omega⟩,f.nm⟩
theorem Lo.Hv(f:Lo b j):Fin b j:=⟨f.ok,f.sz⟩
theorem Lo.do(f:Lo b (j+1))(hq:uO q):Lo (TK b q).1 j:=⟨aCv f.ok,aCw f.sz hq,aCC f.nm f.sz hq⟩
theorem Ek.L3(s:Ek):Lo s.b 100:=⟨s.ok.1,s.ok.2,db s⟩
theorem Rt.prog{b':BS}{F':Nat->Prop}(w:Rt h bi wi b F F2)(p:PB h' bi b' F')(x:De h F h' F'):RB h' wi b F2/\∀i,F' i->¬F2 i:=
 ⟨w.r.CW λi hi=>x.old i (w.r.lt hi) λhp=>w.d i hp hi,λi h1 h2=>by
  rcases x.own i h1 with h3|h3
  .exact w.d i h3 h2
  .have:=w.r.lt h2;omega⟩
theorem aMV(w:RB h bi b F)(f:Lo b (j+1))(hq:uO q)(hv:Bw q.Ax av):∃h' F',BI cx 31 [Pt bi 0,.agg (Kx q av)] h (.agg (TK b q).2.row) h'/\RB h' bi (TK b q).1 F'/\De h F h' F':=by obtain⟨a,o,c,t,G,w,hc,rfl⟩:=w;obtain⟨h',o',c',t',G',r,w',JU,x⟩:=aMM w hc f.ok f.sz f.nm hq hv;exact⟨h',_,r,⟨a,o',c',t',G',w',JU,rfl⟩,x⟩
theorem sr(w:Rt h bi wi b F F2)(f:Lo b (j+1))(hq:uO q)(hv:Bw q.Ax av):∃h1 h2 F' F2',BI cx 30 [Pt bi 0,.agg (Kx q av)] h (.agg (TK b q).2.row) h1/\BI cx 31 [Pt wi 0,.agg (Kx q av)] h1 (.agg (TK b q).2.row) h2/\Rt h2 bi wi (TK b q).1 F' F2':=by
 obtain⟨h1,F',r1,w1,x1⟩:=aMp w.p f.Hv hq hv;obtain⟨w2,d2⟩:=w.prog w1 x1;obtain⟨h2,F2',r2,w3,x2⟩:=aMV w2 f hq hv;refine⟨h1,h2,F',F2',r1,r2,w1.CW λi hi=>x2.old i (w1.lt hi) (d2 i hi),w3,λi h3 h4=>?_⟩;rcases x2.own i h4 with h5|h5
 .exact d2 i h3 h5
 .have:=w1.lt h3;omega
theorem aMW(s:Ek)(hv:Bw s.Ax av)(hl:DA s.Ax)(hn:s.name.length<=1000)(h:Ad):∃h' bi F,BI cx 29 [.agg (Lj s av)] h (Pt bi 0) h'/\RB h' bi s.b F/\De h (λ_=>False) h' F:=by obtain⟨h',bi,a,o,c,t,G,r,w,hc,x⟩:=aMQ h s hv hl hn;exact⟨h',bi,_,r,⟨a,o,c,t,G,w,hc,rfl⟩,x⟩
theorem kH(s:Ek)(hv:Bw s.Ax av)(hl:DA s.Ax)(hn:s.name.length<=1000)(h:Ad):∃h1 h2 bi wi F F2,BI cx 22 [.agg (Lj s av)] h (Pt bi 0) h1/\BI cx 29 [.agg (Lj s av)] h1 (Pt wi 0) h2/\Rt h2 bi wi s.b F F2:=by
 obtain⟨h1,bi,F,r1,w1,x1⟩:=aMq s hv hl h;obtain⟨h2,wi,F2,r2,w2,x2⟩:=aMW s hv hl hn h1;refine⟨h1,h2,bi,wi,F,F2,r1,r2,w1.CW λi hi=>x2.old i (w1.lt hi) (λh=>h),w2,λi h3 h4=>?_⟩;rcases x2.own i h4 with h5|h5
 .exact h5
 .have:=w1.lt h3;omega
end
theorem ME:∀{l:List QO} {b:BS} {j:Nat},Lo b (j+l.length)->(∀x∈l,uO x.q)->Lo (Lm b l) j
 |[],_,_,f,_=>f
 |x::l,b,j,f,hq=>by rw[Lm];exact ME (Lo.do (j:=j+l.length) (f.le (by simp only[Bd];omega)) (hq x (by simp))) λy hy=>hq y (by simp[hy])
theorem aMX(i:Item):Aw (.geq true [.i,.i,.s,.b]) [.agg i.row,.agg i.row]=some (.bool false):=by rw[M6];simp[Item.row,Ds,Ju]
section
variable{h h':Ad}{bi wi:Nat}{b:BS}{F F2:Nat->Prop}{q:ZP}{av:Aa}{j:Nat}
theorem f7w(s:Ek)(hv:Bw s.Ax av)(hl:DA s.Ax)(hn:s.name.length<=1000){l:List QO}{v:Aa}(ho:X2 l v)(hb:l.length<=60)(hq:∀x∈l,uO x.q)(h:Ad):
  ∃h' bi wi F F2,BI cx 9 [.agg (Lj s av),v] h (.tuple [Pt bi 0,Pt wi 0,tt]) h'/\Rt h' bi wi (Lm s.b l) F F2:=by
 obtain⟨h1,h2,bi,wi,F,F2,r1,r2,w0⟩:=kH s hv hl hn h;have Ik:Ev cx 9 [.agg (Lj s av),v] h λr h'=>r= .tuple [Pt bi 0,Pt wi 0,tt]/\∃F F2,Rt h' bi wi (Lm s.b l) F F2:=by
  unfold Ev;have Xd:av.cells=[av]:=AM.cells hv;have lm:=AM.Cp ho;rw[aEF,t9];rw[Lj] at r1 r2⊢;simp only[AB,Bi,r1.call,r2.call];refine Bb (λn:Nat=>[.ptr none,.ptr none,ff,I (n:Int)]) (λn h1=>n<=l.length/\∃F F2,Rt h1 bi wi (Lm s.b (l.take n)) F F2) (λn=>l.length-n) 0 rfl ⟨AR _,F,F2,w0⟩ ?_;rintro n h3 ⟨LV,F3,F4,w3⟩;rcases AT n l.length with hlt|D1
  .have e1:=AM.Bz (k:= .i64) ho hlt;have L3:Lo (Lm s.b (l.take n)) (39+1):=(ME (j:=40) (l:=l.take n) (s.L3.le (by rw[Al];omega)) λx hx=>hq x (Bf hx));obtain⟨h4,h5,F5,F6,r3,r4,w5⟩:=sr w3 L3 (hq _ (AI hlt)) l[n].ok;have hr:Kx l[n].q l[n].v=l[n].row:=rfl;rw[hr] at r3 r4;simp only[AB,Bi,lm,show(n:Int)<(l.length:Int) by omega,e1,QO.Co,QO.Gx,Ac,r3.call,By,r4.call,aMX,BF (show n<9223372036854775807 by omega)];exact AF.next (n+1) rfl ⟨hlt,F5,F6,by rw[Av hlt,V9];exact w5⟩ (by omega)
  .rw[Ay D1] at w3;simp only[AB,Bi,lm,show¬(n:Int)<(l.length:Int) by omega];exact⟨_,rfl,rfl,F3,F4,w3⟩
 obtain⟨r,h',hr,rfl,F',F2',w'⟩:=Ik.ret;exact⟨h',bi,wi,F',F2',hr,w'⟩
end
theorem tT:Ev cx 8 [] [] λr _=>r= .bool true:=sM 3000 (by kernel_rfl)
end Go.Am
end
