/- Lemmas -/
import Derived.Test.YtmfdhadocnndiaaGreatDoorS7
import Derived.Test.YtmfdhadocnndiaaGreatDoorS8
set_option linter.all false
namespace Go.Am
open Go Go.RowKit
section
variable{U U':Gh}{h:Ah}{w w':World}
def Gm.JA(hi:Gm U h w)(hb:Below w.heap.size w w'):Gm U h w'/\Kf U w U w':=by
 have rA:∀{b o v},U.GQ b o=some v->b<w.heap.size:=λ{b o v} hv=>CL (hi.GQ b o v hv).1;have ä:∀{id x b},h[id]?=some x->x≠ .DD->U.mu id=some b->b<w.heap.size:=λ{id x b} hx hd hm=>by obtain⟨b',p,q⟩:=hi.KJ id x hx hd;rw[hm] at p;cases p;exact hi.BB b _ q
 refine⟨⟨λb o v hv=>?_,hi.KJ,λid cs hc b hm=>?_,λid es hc b hm=>?_,hi.mu,λb x hx=>JW (hi.BB b x hx) hb.size,λb n hn=>?_⟩,⟨.refl _,hb.size,hb.os,hb.tape,hb.output,λb hlt _=>⟨hb.block b hlt,rfl⟩⟩⟩;.obtain⟨p,q,r⟩:=hi.GQ b o v hv;exact⟨by rw[B1 (hb.block b (rA hv))];exact p,q,r⟩
 .obtain⟨us,e,fr,p,q⟩:=hi.cells id cs hc b hm;exact⟨us,e,fr,by rw[hb.block b (ä hc Av hm)];exact p,q⟩
 .obtain⟨Dn,clock,p,q⟩:=hi.map id es hc b hm;exact⟨Dn,clock,by rw[hb.block b (ä hc Av hm)];exact p,q⟩
 .obtain⟨⟨us,e,fr,p,q⟩,r⟩:=hi.sz b n hn;exact⟨⟨us,e,fr,by rw[hb.block b (Aq.1 p).1];exact p,q⟩,r⟩
def Y1(hb:Below w.heap.size w w'):(Fk w).le (Fk w'):=by refine⟨λb o v hv=>?_,λid b hm=>(by cases hm),λb n hn=>(by cases hn)⟩;simp only[Fk,Oa] at hv⊢;exact⟨by rw[B1 (hb.block b (CL hv.1))];exact hv.1,hv.2⟩
mutual
def Bv.mem(hi:Gm U h w):∀(a:Aa) (v:Value),a.still=true->Bv U a v->Bv (Fk w) a v
 | .bool b,v,_,h=>h
 | .int k n,v,_,h=>h
 | .str s,v,_,h=>h
 | .ptr none,v,_,h=>h
 | .ptr (some (id,o)),v,hs,h=>by simp[Aa.still] at hs
 | .B3 cs,v,hs,h=>by obtain⟨b,o,hv,hm⟩:=h;exact⟨b,o,hv,Cz.mem hi cs b o (by simpa[Aa.still] using hs) hm⟩
 | .sl z Af,v,hs,h=>by obtain⟨ad,cap,hv,hc,hp,hm⟩:=h;exact⟨ad,cap,hv,hc,hp,DY.mem hi Af z _ _ (by simpa[Aa.still] using hs) hm⟩
 | .slnil,v,_,h=>h
 | .Fb _,v,_,h=>h
 | .CI id off len z,v,hs,h=>by simp[Aa.still] at hs
 | .map none,v,_,h=>h
 | .map (some id),v,hs,h=>by simp[Aa.still] at hs
 | .func fn f c,v,hs,h=>by obtain⟨fs,cs,hv,h1,h2⟩:=h;simp only[Aa.still,Bf] at hs;exact⟨fs,cs,hv,AQ.mem hi f _ hs.1 h1,AQ.mem hi c _ hs.2 h2⟩
 | .nilFunc,v,_,h=>h
 | .iface t a,v,hs,h=>by obtain⟨u,hv,h1⟩:=h;exact⟨u,hv,Bv.mem hi a u (by simpa[Aa.still] using hs) h1⟩
 | .nilIface,v,_,h=>h
 | .agg cs,v,hs,h=>by obtain⟨us,hv,h1,h2⟩:=h;exact⟨us,hv,AQ.mem hi cs _ (by simpa[Aa.still] using hs) h1,h2⟩
 | .tuple vs,v,hs,h=>by obtain⟨us,hv,h1⟩:=h;exact⟨us,hv,AQ.mem hi vs _ (by simpa[Aa.still] using hs) h1⟩
def AQ.mem(hi:Gm U h w):∀(l:List Aa) (us:List Value),H6 l=true->AQ U l us->AQ (Fk w) l us
 |[],us,_,h=>h
 |a::l,us,hs,h=>by obtain⟨u,C4,hu,h1,h2⟩:=h;simp only[H6,Bf] at hs;exact⟨u,C4,hu,Bv.mem hi a u hs.1 h1,AQ.mem hi l C4 hs.2 h2⟩
def Cz.mem(hi:Gm U h w):∀(l:List Aa) (b o:Nat),H6 l=true->Cz U l b o->Cz (Fk w) l b o
 |[],_,_,_,_=>trivial
 |a::l,b,o,hs,h=>by obtain⟨⟨u,hu,h1⟩,h2⟩:=h;simp only[H6,Bf] at hs;obtain⟨p,q,_⟩:=hi.GQ b o u hu;exact⟨⟨u,QF p q,Bv.mem hi a u hs.1 h1⟩,Cz.mem hi l b (o+1) hs.2 h2⟩
def DY.mem(hi:Gm U h w):∀(rs:List (List Aa)) (z b o:Nat),KW rs=true->DY U rs z b o->DY (Fk w) rs z b o
 |[],_,_,_,_,_=>trivial
 |r::rs,z,b,o,hs,h=>by simp only[KW,Bf] at hs;exact⟨h.1,Cz.mem hi r b o hs.1 h.2.1,DY.mem hi rs z b (o+z) hs.2 h.2.2⟩
end
def LM(hi:Gm U h w){id g:Nat}{cs:List Aa}(hc:h[id]?=some (.cells cs))(hm:U.mu id=some g){j:Nat}{a:Aa}(ha:cs[j]?=some a):
  ∃u,w.cell? ⟨g,j,none⟩=some u/\u.oneCell'=true/\Bv U a u:=by
 obtain⟨us,e,fr,d,_,c,b⟩:=hi.cells id cs hc g hm;obtain⟨u,hu,hr⟩:=c.get ha;have hj:us[j]?=some u:=by
  rw[B2] at hu;split at hu;.simpa using hu
  .cases hu
 exact⟨u,by rw[cell_of_row w _ _ us e fr d];exact hj,b u (Ca hu),hr⟩
end
end Go.Am
