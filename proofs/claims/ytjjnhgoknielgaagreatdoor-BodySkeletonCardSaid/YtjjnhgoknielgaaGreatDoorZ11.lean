/- Lemmas -/
import Derived.Test.YtjjnhgoknielgaaGreatDoorZ7
import Derived.Test.YtjjnhgoknielgaaGreatDoorZ8
set_option linter.all false
namespace Go.Am
open Go Go.RowKit
section
variable{U U':Gh}{h:Ai}{w w':World}
def Ic.M7(hi:Ic U h w)(hb:Below w.heap.size w w'):Ic U h w'/\M1 U w U w':=by
 have wj:∀{b o v},U.IQ b o=some v->b<w.heap.size:=λ{b o v} hv=>DU (hi.IQ b o v hv).1;have aIa:∀{id x b},h[id]?=some x->x≠ .Ef->U.mu id=some b->b<w.heap.size:=λ{id x b} hx hd hm=>by obtain⟨b',p,q⟩:=hi.Nw id x hx hd;rw[hm] at p;cases p;exact hi.BT b _ q
 refine⟨⟨λb o v hv=>?_,hi.Nw,λid cs hc b hm=>?_,λid es hc b hm=>?_,hi.mu,λb x hx=>JI (hi.BT b x hx) hb.size,λb n hn=>?_⟩,⟨.refl _,hb.size,hb.os,hb.tape,hb.output,λb hlt _=>⟨hb.block b hlt,rfl⟩⟩⟩;.obtain⟨p,q,r⟩:=hi.IQ b o v hv;exact⟨by rw[CQ (hb.block b (wj hv))];exact p,q,r⟩
 .obtain⟨us,e,fr,p,q⟩:=hi.cells id cs hc b hm;exact⟨us,e,fr,by rw[hb.block b (aIa hc AB hm)];exact p,q⟩
 .obtain⟨Ep,clock,p,q⟩:=hi.map id es hc b hm;exact⟨Ep,clock,by rw[hb.block b (aIa hc AB hm)];exact p,q⟩
 .obtain⟨⟨us,e,fr,p,q⟩,r⟩:=hi.sz b n hn;exact⟨⟨us,e,fr,by rw[hb.block b (AQ.1 p).1];exact p,q⟩,r⟩
def mY(hb:Below w.heap.size w w'):(Gy w).le (Gy w'):=by refine⟨λb o v hv=>?_,λid b hm=>(by cases hm),λb n hn=>(by cases hn)⟩;simp only[Gy,RK] at hv⊢;exact⟨by rw[CQ (hb.block b (DU hv.1))];exact hv.1,hv.2⟩
mutual
def BP.mem(hi:Ic U h w):∀(a:Aa) (v:Value),a.still=true->BP U a v->BP (Gy w) a v
 | .bool b,v,_,h=>h
 | .int k n,v,_,h=>h
 | .str s,v,_,h=>h
 | .ptr none,v,_,h=>h
 | .ptr (some (id,o)),v,hs,h=>by simp[Aa.still] at hs
 | .B9 cs,v,hs,h=>by obtain⟨b,o,hv,hm⟩:=h;exact⟨b,o,hv,C2.mem hi cs b o (by simpa[Aa.still] using hs) hm⟩
 | .sl z Ax,v,hs,h=>by obtain⟨d,cap,hv,hc,hp,hm⟩:=h;exact⟨d,cap,hv,hc,hp,Fb.mem hi Ax z _ _ (by simpa[Aa.still] using hs) hm⟩
 | .slnil,v,_,h=>h
 | .GX _,v,_,h=>h
 | .Dn id off len z,v,hs,h=>by simp[Aa.still] at hs
 | .map none,v,_,h=>h
 | .map (some id),v,hs,h=>by simp[Aa.still] at hs
 | .func fn f c,v,hs,h=>by obtain⟨fs,cs,hv,h1,h2⟩:=h;simp only[Aa.still,Bb] at hs;exact⟨fs,cs,hv,A8.mem hi f _ hs.1 h1,A8.mem hi c _ hs.2 h2⟩
 | .nilFunc,v,_,h=>h
 | .iface t a,v,hs,h=>by obtain⟨u,hv,h1⟩:=h;exact⟨u,hv,BP.mem hi a u (by simpa[Aa.still] using hs) h1⟩
 | .nilIface,v,_,h=>h
 | .agg cs,v,hs,h=>by obtain⟨us,hv,h1,h2⟩:=h;exact⟨us,hv,A8.mem hi cs _ (by simpa[Aa.still] using hs) h1,h2⟩
 | .tuple vs,v,hs,h=>by obtain⟨us,hv,h1⟩:=h;exact⟨us,hv,A8.mem hi vs _ (by simpa[Aa.still] using hs) h1⟩
def A8.mem(hi:Ic U h w):∀(l:List Aa) (us:List Value),J8 l=true->A8 U l us->A8 (Gy w) l us
 |[],us,_,h=>h
 |a::l,us,hs,h=>by obtain⟨u,DR,hu,h1,h2⟩:=h;simp only[J8,Bb] at hs;exact⟨u,DR,hu,BP.mem hi a u hs.1 h1,A8.mem hi l DR hs.2 h2⟩
def C2.mem(hi:Ic U h w):∀(l:List Aa) (b o:Nat),J8 l=true->C2 U l b o->C2 (Gy w) l b o
 |[],_,_,_,_=>trivial
 |a::l,b,o,hs,h=>by obtain⟨⟨u,hu,h1⟩,h2⟩:=h;simp only[J8,Bb] at hs;obtain⟨p,q,_⟩:=hi.IQ b o u hu;exact⟨⟨u,UD p q,BP.mem hi a u hs.1 h1⟩,C2.mem hi l b (o+1) hs.2 h2⟩
def Fb.mem(hi:Ic U h w):∀(rs:List (List Aa)) (z b o:Nat),NN rs=true->Fb U rs z b o->Fb (Gy w) rs z b o
 |[],_,_,_,_,_=>trivial
 |r::rs,z,b,o,hs,h=>by simp only[NN,Bb] at hs;exact⟨h.1,C2.mem hi r b o hs.1 h.2.1,Fb.mem hi rs z b (o+z) hs.2 h.2.2⟩
end
def Ow(hi:Ic U h w){id g:Nat}{cs:List Aa}(hc:h[id]?=some (.cells cs))(hm:U.mu id=some g){j:Nat}{a:Aa}(ha:cs[j]?=some a):
  ∃u,w.cell? ⟨g,j,none⟩=some u/\u.oneCell'=true/\BP U a u:=by
 obtain⟨us,e,fr,d,_,c,b⟩:=hi.cells id cs hc g hm;obtain⟨u,hu,hr⟩:=c.get ha;have hj:us[j]?=some u:=by
  rw[CA] at hu;split at hu;.simpa using hu
  .cases hu
 exact⟨u,by rw[cell_of_row w _ _ us e fr d];exact hj,b u (CH hu),hr⟩
end
end Go.Am
