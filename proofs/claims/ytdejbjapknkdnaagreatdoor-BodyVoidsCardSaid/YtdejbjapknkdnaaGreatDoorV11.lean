/- Lemmas -/
import Derived.Test.YtdejbjapknkdnaaGreatDoorV7
import Derived.Test.YtdejbjapknkdnaaGreatDoorV8
set_option linter.all false
namespace Go.Am
open Go Go.RowKit
section
variable{U U':Gh}{h:Ae}{w w':World}
def HY.MJ(hi:HY U h w)(hb:Below w.heap.size w w'):HY U h w'/\ME U w U w':=by
 have tj:∀{b o v},U.Iw b o=some v->b<w.heap.size:=λ{b o v} a=>DF (hi.Iw b o v a).1;have aHq:∀{id x b},h[id]?=some x->x≠ .DD->U.mu id=some b->b<w.heap.size:=λ{id x b} hx hd hm=>by obtain⟨b',p,q⟩:=hi.Ng id x hx hd;rw[hm] at p;cases p;exact hi.BN b _ q
 refine⟨⟨λb o v a=>?_,hi.Ng,λid cs hc b hm=>?_,λid es hc b hm=>?_,hi.mu,λb x hx=>Ji (hi.BN b x hx) hb.size,λb n hn=>?_⟩,⟨.refl _,hb.size,hb.os,hb.tape,hb.output,λb hlt _=>⟨hb.block b hlt,rfl⟩⟩⟩;.obtain⟨p,q,r⟩:=hi.Iw b o v a;exact⟨by rw[CH (hb.block b (tj a))];exact p,q,r⟩
 .obtain⟨us,e,fr,p,q⟩:=hi.cells id cs hc b hm;exact⟨us,e,fr,by rw[hb.block b (aHq hc (by simp) hm)];exact p,q⟩
 .obtain⟨D0,clock,p,q⟩:=hi.map id es hc b hm;exact⟨D0,clock,by rw[hb.block b (aHq hc (by simp) hm)];exact p,q⟩
 .obtain⟨⟨us,e,fr,p,q⟩,r⟩:=hi.sz b n hn;exact⟨⟨us,e,fr,by rw[hb.block b (AM.1 p).1];exact p,q⟩,r⟩
def lH(hb:Below w.heap.size w w'):(Ge w).le (Ge w'):=by refine⟨λb o v a=>?_,λid b hm=>(by cases hm),λb n hn=>(by cases hn)⟩;simp only[Ge,Rv] at a⊢;exact⟨by rw[CH (hb.block b (DF a.1))];exact a.1,a.2⟩
mutual
def BJ.mem(hi:HY U h w):∀(a:Aa) (v:Value),a.still=true->BJ U a v->BJ (Ge w) a v
 | .bool b,v,_,h=>h
 | .int k n,v,_,h=>h
 | .str s,v,_,h=>h
 | .ptr none,v,_,h=>h
 | .ptr (some (id,o)),v,hs,h=>by simp[Aa.still] at hs
 | .B4 cs,v,hs,h=>by obtain⟨b,o,d,hm⟩:=h;exact⟨b,o,d,CU.mem hi cs b o (by simpa[Aa.still] using hs) hm⟩
 | .sl z As,v,hs,h=>by obtain⟨e,cap,d,hc,hp,hm⟩:=h;exact⟨e,cap,d,hc,hp,ES.mem hi As z _ _ (by simpa[Aa.still] using hs) hm⟩
 | .slnil,v,_,h=>h
 | .GB _,v,_,h=>h
 | .C7 id off len z,v,hs,h=>by simp[Aa.still] at hs
 | .map none,v,_,h=>h
 | .map (some id),v,hs,h=>by simp[Aa.still] at hs
 | .func fn f c,v,hs,h=>by obtain⟨fs,cs,d,h1,h2⟩:=h;simp only[Aa.still,A4] at hs;exact⟨fs,cs,d,A3.mem hi f _ hs.1 h1,A3.mem hi c _ hs.2 h2⟩
 | .nilFunc,v,_,h=>h
 | .iface t a,v,hs,h=>by obtain⟨u,d,h1⟩:=h;exact⟨u,d,BJ.mem hi a u (by simpa[Aa.still] using hs) h1⟩
 | .nilIface,v,_,h=>h
 | .agg cs,v,hs,h=>by obtain⟨us,d,h1,h2⟩:=h;exact⟨us,d,A3.mem hi cs _ (by simpa[Aa.still] using hs) h1,h2⟩
 | .tuple vs,v,hs,h=>by obtain⟨us,d,h1⟩:=h;exact⟨us,d,A3.mem hi vs _ (by simpa[Aa.still] using hs) h1⟩
def A3.mem(hi:HY U h w):∀(l:List Aa) (us:List Value),JJ l=true->A3 U l us->A3 (Ge w) l us
 |[],us,_,h=>h
 |a::l,us,hs,h=>by obtain⟨u,DB,hu,h1,h2⟩:=h;simp only[JJ,A4] at hs;exact⟨u,DB,hu,BJ.mem hi a u hs.1 h1,A3.mem hi l DB hs.2 h2⟩
def CU.mem(hi:HY U h w):∀(l:List Aa) (b o:Nat),JJ l=true->CU U l b o->CU (Ge w) l b o
 |[],_,_,_,_=>trivial
 |a::l,b,o,hs,h=>by obtain⟨⟨u,hu,h1⟩,h2⟩:=h;simp only[JJ,A4] at hs;obtain⟨p,q,_⟩:=hi.Iw b o u hu;exact⟨⟨u,Uv p q,BJ.mem hi a u hs.1 h1⟩,CU.mem hi l b (o+1) hs.2 h2⟩
def ES.mem(hi:HY U h w):∀(rs:List (List Aa)) (z b o:Nat),Nt rs=true->ES U rs z b o->ES (Ge w) rs z b o
 |[],_,_,_,_,_=>trivial
 |r::rs,z,b,o,hs,h=>by simp only[Nt,A4] at hs;exact⟨h.1,CU.mem hi r b o hs.1 h.2.1,ES.mem hi rs z b (o+z) hs.2 h.2.2⟩
end
def Oc(hi:HY U h w){id g:Nat}{cs:List Aa}(hc:h[id]?=some (.cells cs))(hm:U.mu id=some g){j:Nat}{a:Aa}(ha:cs[j]?=some a):
  ∃u,w.cell? ⟨g,j,none⟩=some u/\u.oneCell'=true/\BJ U a u:=by
 obtain⟨us,e,fr,d,_,c,b⟩:=hi.cells id cs hc g hm;obtain⟨u,hu,hr⟩:=c.get ha;have hj:us[j]?=some u:=by
  rw[Co] at hu;split at hu;.simpa using hu
  .cases hu
 exact⟨u,by rw[cell_of_row w _ _ us e fr d];exact hj,b u (Cx hu),hr⟩
end
end Go.Am
