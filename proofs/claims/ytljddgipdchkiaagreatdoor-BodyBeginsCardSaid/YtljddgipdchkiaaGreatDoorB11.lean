/- Lemmas -/
import Derived.Test.YtljddgipdchkiaaGreatDoorB7
import Derived.Test.YtljddgipdchkiaaGreatDoorB8
set_option linter.all false
namespace Go.Am
open Go Go.RowKit
section
variable{U U':Gh}{h:Ah}{w w':World}
def Hk.Li(hi:Hk U h w)(hb:Below w.heap.size w w'):Hk U h w'/\Ld U w U w':=by
 have lp:∀{b o v},U.Io b o=some v->b<w.heap.size:=λ{b o v} hv=>DM (hi.Io b o v hv).1;have aEv:∀{id x b},h[id]?=some x->x≠ .CO->U.mu id=some b->b<w.heap.size:=λ{id x b} hx hd hm=>by obtain⟨b',p,q⟩:=hi.Md id x hx hd;rw[hm] at p;cases p;exact hi.Bt b _ q
 refine⟨⟨λb o v hv=>?_,hi.Md,λid cs hc b hm=>?_,λid es hc b hm=>?_,hi.mu,λb x hx=>LK (hi.Bt b x hx) hb.size,λb n hn=>?_⟩,⟨.refl _,hb.size,hb.os,hb.tape,hb.output,λb hlt _=>⟨hb.block b hlt,rfl⟩⟩⟩;.obtain⟨p,q,r⟩:=hi.Io b o v hv;exact⟨by rw[CQ (hb.block b (lp hv))];exact p,q,r⟩
 .obtain⟨us,e,fr,p,q⟩:=hi.cells id cs hc b hm;exact⟨us,e,fr,by rw[hb.block b (aEv hc AH hm)];exact p,q⟩
 .obtain⟨DD,clock,p,q⟩:=hi.map id es hc b hm;exact⟨DD,clock,by rw[hb.block b (aEv hc AH hm)];exact p,q⟩
 .obtain⟨⟨us,e,fr,p,q⟩,r⟩:=hi.sz b n hn;exact⟨⟨us,e,fr,by rw[hb.block b (A5.1 p).1];exact p,q⟩,r⟩
def lQ(hb:Below w.heap.size w w'):(Gr w).le (Gr w'):=by refine⟨λb o v hv=>?_,λid b hm=>(by cases hm),λb n hn=>(by cases hn)⟩;simp only[Gr,QD] at hv⊢;exact⟨by rw[CQ (hb.block b (DM hv.1))];exact hv.1,hv.2⟩
mutual
def BO.mem(hi:Hk U h w):∀(a:Aa) (v:Value),a.still=true->BO U a v->BO (Gr w) a v
 | .bool b,v,_,h=>h
 | .int k n,v,_,h=>h
 | .str s,v,_,h=>h
 | .ptr none,v,_,h=>h
 | .ptr (some (id,o)),v,hs,h=>by simp[Aa.still] at hs
 | .CG cs,v,hs,h=>by obtain⟨b,o,hv,hm⟩:=h;exact⟨b,o,hv,C1.mem hi cs b o (by simpa[Aa.still] using hs) hm⟩
 | .sl z AD,v,hs,h=>by obtain⟨d,cap,hv,hc,hp,hm⟩:=h;exact⟨d,cap,hv,hc,hp,E6.mem hi AD z _ _ (by simpa[Aa.still] using hs) hm⟩
 | .slnil,v,_,h=>h
 | .Gb _,v,_,h=>h
 | .CE id off len z,v,hs,h=>by simp[Aa.still] at hs
 | .map none,v,_,h=>h
 | .map (some id),v,hs,h=>by simp[Aa.still] at hs
 | .func fn f c,v,hs,h=>by obtain⟨fs,cs,hv,h1,h2⟩:=h;simp only[Aa.still,Bq] at hs;exact⟨fs,cs,hv,Bg.mem hi f _ hs.1 h1,Bg.mem hi c _ hs.2 h2⟩
 | .nilFunc,v,_,h=>h
 | .iface t a,v,hs,h=>by obtain⟨u,hv,h1⟩:=h;exact⟨u,hv,BO.mem hi a u (by simpa[Aa.still] using hs) h1⟩
 | .nilIface,v,_,h=>h
 | .agg cs,v,hs,h=>by obtain⟨us,hv,h1,h2⟩:=h;exact⟨us,hv,Bg.mem hi cs _ (by simpa[Aa.still] using hs) h1,h2⟩
 | .tuple vs,v,hs,h=>by obtain⟨us,hv,h1⟩:=h;exact⟨us,hv,Bg.mem hi vs _ (by simpa[Aa.still] using hs) h1⟩
def Bg.mem(hi:Hk U h w):∀(l:List Aa) (us:List Value),JL l=true->Bg U l us->Bg (Gr w) l us
 |[],us,_,h=>h
 |a::l,us,hs,h=>by obtain⟨u,DK,hu,h1,h2⟩:=h;simp only[JL,Bq] at hs;exact⟨u,DK,hu,BO.mem hi a u hs.1 h1,Bg.mem hi l DK hs.2 h2⟩
def C1.mem(hi:Hk U h w):∀(l:List Aa) (b o:Nat),JL l=true->C1 U l b o->C1 (Gr w) l b o
 |[],_,_,_,_=>trivial
 |a::l,b,o,hs,h=>by obtain⟨⟨u,hu,h1⟩,h2⟩:=h;simp only[JL,Bq] at hs;obtain⟨p,q,_⟩:=hi.Io b o u hu;exact⟨⟨u,Tt p q,BO.mem hi a u hs.1 h1⟩,C1.mem hi l b (o+1) hs.2 h2⟩
def E6.mem(hi:Hk U h w):∀(rs:List (List Aa)) (z b o:Nat),MT rs=true->E6 U rs z b o->E6 (Gr w) rs z b o
 |[],_,_,_,_,_=>trivial
 |r::rs,z,b,o,hs,h=>by simp only[MT,Bq] at hs;exact⟨h.1,C1.mem hi r b o hs.1 h.2.1,E6.mem hi rs z b (o+z) hs.2 h.2.2⟩
end
def Ny(hi:Hk U h w){id g:Nat}{cs:List Aa}(hc:h[id]?=some (.cells cs))(hm:U.mu id=some g){j:Nat}{a:Aa}(ha:cs[j]?=some a):
  ∃u,w.cell? ⟨g,j,none⟩=some u/\u.oneCell'=true/\BO U a u:=by
 obtain⟨us,e,fr,d,_,c,b⟩:=hi.cells id cs hc g hm;obtain⟨u,hu,hr⟩:=c.get ha;have hj:us[j]?=some u:=by
  rw[Ch] at hu;split at hu;.simpa using hu
  .cases hu
 exact⟨u,by rw[cell_of_row w _ _ us e fr d];exact hj,b u (CC hu),hr⟩
end
end Go.Am
