/- Lemmas -/
import Derived.Test.YtbkijlifflhdiaaGreatDoorX7
import Derived.Test.YtbkijlifflhdiaaGreatDoorX8
set_option linter.all false
namespace Go.Am
open Go Go.RowKit
section
variable{U U':Gh}{h:Ah}{w w':World}
def GO.KJ(hi:GO U h w)(hb:Below w.heap.size w w'):GO U h w'/\KF U w U w':=by
 have q6:∀{b o v},U.Hh b o=some v->b<w.heap.size:=λ{b o v} hv=>Db (hi.Hh b o v hv).1;have â:∀{id x b},h[id]?=some x->x≠ .DK->U.mu id=some b->b<w.heap.size:=λ{id x b} hx hd hm=>by obtain⟨b',p,q⟩:=hi.K5 id x hx hd;rw[hm] at p;cases p;exact hi.BE b _ q
 refine⟨⟨λb o v hv=>?_,hi.K5,λid cs hc b hm=>?_,λid es hc b hm=>?_,hi.mu,λb x hx=>Ke (hi.BE b x hx) hb.size,λb n hn=>?_⟩,⟨.refl _,hb.size,hb.os,hb.tape,hb.output,λb hlt _=>⟨hb.block b hlt,rfl⟩⟩⟩;.obtain⟨p,q,r⟩:=hi.Hh b o v hv;exact⟨by rw[Cs (hb.block b (q6 hv))];exact p,q,r⟩
 .obtain⟨us,e,fr,p,q⟩:=hi.cells id cs hc b hm;exact⟨us,e,fr,by rw[hb.block b (â hc Aw hm)];exact p,q⟩
 .obtain⟨Dy,clock,p,q⟩:=hi.map id es hc b hm;exact⟨Dy,clock,by rw[hb.block b (â hc Aw hm)];exact p,q⟩
 .obtain⟨⟨us,e,fr,p,q⟩,r⟩:=hi.sz b n hn;exact⟨⟨us,e,fr,by rw[hb.block b (AK.1 p).1];exact p,q⟩,r⟩
def Zv(hb:Below w.heap.size w w'):(Fz w).le (Fz w'):=by refine⟨λb o v hv=>?_,λid b hm=>(by cases hm),λb n hn=>(by cases hn)⟩;simp only[Fz,OJ] at hv⊢;exact⟨by rw[Cs (hb.block b (Db hv.1))];exact hv.1,hv.2⟩
mutual
def Bz.mem(hi:GO U h w):∀(a:Aa) (v:Value),a.still=true->Bz U a v->Bz (Fz w) a v
 | .bool b,v,_,h=>h
 | .int k n,v,_,h=>h
 | .str s,v,_,h=>h
 | .ptr none,v,_,h=>h
 | .ptr (some (id,o)),v,hs,h=>by simp[Aa.still] at hs
 | .Cz cs,v,hs,h=>by obtain⟨b,o,hv,hm⟩:=h;exact⟨b,o,hv,CD.mem hi cs b o (by simpa[Aa.still] using hs) hm⟩
 | .sl z Ao,v,hs,h=>by obtain⟨d,cap,hv,hc,hp,hm⟩:=h;exact⟨d,cap,hv,hc,hp,Ey.mem hi Ao z _ _ (by simpa[Aa.still] using hs) hm⟩
 | .slnil,v,_,h=>h
 | .Fq _,v,_,h=>h
 | .CL id off len z,v,hs,h=>by simp[Aa.still] at hs
 | .map none,v,_,h=>h
 | .map (some id),v,hs,h=>by simp[Aa.still] at hs
 | .func fn f c,v,hs,h=>by obtain⟨fs,cs,hv,h1,h2⟩:=h;simp only[Aa.still,Bt] at hs;exact⟨fs,cs,hv,AS.mem hi f _ hs.1 h1,AS.mem hi c _ hs.2 h2⟩
 | .nilFunc,v,_,h=>h
 | .iface t a,v,hs,h=>by obtain⟨u,hv,h1⟩:=h;exact⟨u,hv,Bz.mem hi a u (by simpa[Aa.still] using hs) h1⟩
 | .nilIface,v,_,h=>h
 | .agg cs,v,hs,h=>by obtain⟨us,hv,h1,h2⟩:=h;exact⟨us,hv,AS.mem hi cs _ (by simpa[Aa.still] using hs) h1,h2⟩
 | .tuple vs,v,hs,h=>by obtain⟨us,hv,h1⟩:=h;exact⟨us,hv,AS.mem hi vs _ (by simpa[Aa.still] using hs) h1⟩
def AS.mem(hi:GO U h w):∀(l:List Aa) (us:List Value),Ii l=true->AS U l us->AS (Fz w) l us
 |[],us,_,h=>h
 |a::l,us,hs,h=>by obtain⟨u,C6,hu,h1,h2⟩:=h;simp only[Ii,Bt] at hs;exact⟨u,C6,hu,Bz.mem hi a u hs.1 h1,AS.mem hi l C6 hs.2 h2⟩
def CD.mem(hi:GO U h w):∀(l:List Aa) (b o:Nat),Ii l=true->CD U l b o->CD (Fz w) l b o
 |[],_,_,_,_=>trivial
 |a::l,b,o,hs,h=>by obtain⟨⟨u,hu,h1⟩,h2⟩:=h;simp only[Ii,Bt] at hs;obtain⟨p,q,_⟩:=hi.Hh b o u hu;exact⟨⟨u,Rh p q,Bz.mem hi a u hs.1 h1⟩,CD.mem hi l b (o+1) hs.2 h2⟩
def Ey.mem(hi:GO U h w):∀(rs:List (List Aa)) (z b o:Nat),Lm rs=true->Ey U rs z b o->Ey (Fz w) rs z b o
 |[],_,_,_,_,_=>trivial
 |r::rs,z,b,o,hs,h=>by simp only[Lm,Bt] at hs;exact⟨h.1,CD.mem hi r b o hs.1 h.2.1,Ey.mem hi rs z b (o+z) hs.2 h.2.2⟩
end
def Md(hi:GO U h w){id g:Nat}{cs:List Aa}(hc:h[id]?=some (.cells cs))(hm:U.mu id=some g){j:Nat}{a:Aa}(ha:cs[j]?=some a):
  ∃u,w.cell? ⟨g,j,none⟩=some u/\u.oneCell'=true/\Bz U a u:=by
 obtain⟨us,e,fr,d,_,c,b⟩:=hi.cells id cs hc g hm;obtain⟨u,hu,hr⟩:=c.get ha;have hj:us[j]?=some u:=by
  rw[B3] at hu;split at hu;.simpa using hu
  .cases hu
 exact⟨u,by rw[cell_of_row w _ _ us e fr d];exact hj,b u (Cb hu),hr⟩
end
end Go.Am
