/- Lemmas -/
import Derived.Test.YtkaolmlpcamojaaGreatDoorC7
import Derived.Test.YtkaolmlpcamojaaGreatDoorC8
set_option linter.all false
namespace Go.Am
open Go Go.RowKit
section
variable{U U':Gh}{h:Ah}{w w':World}
def Hm.Lq(hi:Hm U h w)(hb:Below w.heap.size w w'):Hm U h w'/\Lm U w U w':=by
 have pq:∀{b o v},U.Iw b o=some v->b<w.heap.size:=λ{b o v} hv=>DV (hi.Iw b o v hv).1;have aF1:∀{id x b},h[id]?=some x->x≠ .CR->U.mu id=some b->b<w.heap.size:=λ{id x b} hx hd hm=>by obtain⟨b',p,q⟩:=hi.Mj id x hx hd;rw[hm] at p;cases p;exact hi.Bu b _ q
 refine⟨⟨λb o v hv=>?_,hi.Mj,λid cs hc b hm=>?_,λid es hc b hm=>?_,hi.mu,λb x hx=>Jp (hi.Bu b x hx) hb.size,λb n hn=>?_⟩,⟨.refl _,hb.size,hb.os,hb.tape,hb.output,λb hlt _=>⟨hb.block b hlt,rfl⟩⟩⟩;.obtain⟨p,q,r⟩:=hi.Iw b o v hv;exact⟨by rw[CV (hb.block b (pq hv))];exact p,q,r⟩
 .obtain⟨us,e,fr,p,q⟩:=hi.cells id cs hc b hm;exact⟨us,e,fr,by rw[hb.block b (aF1 hc AH hm)];exact p,q⟩
 .obtain⟨DE,clock,p,q⟩:=hi.map id es hc b hm;exact⟨DE,clock,by rw[hb.block b (aF1 hc AH hm)];exact p,q⟩
 .obtain⟨⟨us,e,fr,p,q⟩,r⟩:=hi.sz b n hn;exact⟨⟨us,e,fr,by rw[hb.block b (A7.1 p).1];exact p,q⟩,r⟩
def m6(hb:Below w.heap.size w w'):(Gw w).le (Gw w'):=by refine⟨λb o v hv=>?_,λid b hm=>(by cases hm),λb n hn=>(by cases hn)⟩;simp only[Gw,Q0] at hv⊢;exact⟨by rw[CV (hb.block b (DV hv.1))];exact hv.1,hv.2⟩
mutual
def BQ.mem(hi:Hm U h w):∀(a:Aa) (v:Value),a.still=true->BQ U a v->BQ (Gw w) a v
 | .bool b,v,_,h=>h
 | .int k n,v,_,h=>h
 | .str s,v,_,h=>h
 | .ptr none,v,_,h=>h
 | .ptr (some (id,o)),v,hs,h=>by simp[Aa.still] at hs
 | .CH cs,v,hs,h=>by obtain⟨b,o,hv,hm⟩:=h;exact⟨b,o,hv,C8.mem hi cs b o (by simpa[Aa.still] using hs) hm⟩
 | .sl z AE,v,hs,h=>by obtain⟨d,cap,hv,hc,hp,hm⟩:=h;exact⟨d,cap,hv,hc,hp,E5.mem hi AE z _ _ (by simpa[Aa.still] using hs) hm⟩
 | .slnil,v,_,h=>h
 | .Gf _,v,_,h=>h
 | .CF id off len z,v,hs,h=>by simp[Aa.still] at hs
 | .map none,v,_,h=>h
 | .map (some id),v,hs,h=>by simp[Aa.still] at hs
 | .func fn f c,v,hs,h=>by obtain⟨fs,cs,hv,h1,h2⟩:=h;simp only[Aa.still,BC] at hs;exact⟨fs,cs,hv,Bj.mem hi f _ hs.1 h1,Bj.mem hi c _ hs.2 h2⟩
 | .nilFunc,v,_,h=>h
 | .iface t a,v,hs,h=>by obtain⟨u,hv,h1⟩:=h;exact⟨u,hv,BQ.mem hi a u (by simpa[Aa.still] using hs) h1⟩
 | .nilIface,v,_,h=>h
 | .agg cs,v,hs,h=>by obtain⟨us,hv,h1,h2⟩:=h;exact⟨us,hv,Bj.mem hi cs _ (by simpa[Aa.still] using hs) h1,h2⟩
 | .tuple vs,v,hs,h=>by obtain⟨us,hv,h1⟩:=h;exact⟨us,hv,Bj.mem hi vs _ (by simpa[Aa.still] using hs) h1⟩
def Bj.mem(hi:Hm U h w):∀(l:List Aa) (us:List Value),JL l=true->Bj U l us->Bj (Gw w) l us
 |[],us,_,h=>h
 |a::l,us,hs,h=>by obtain⟨u,DT,hu,h1,h2⟩:=h;simp only[JL,BC] at hs;exact⟨u,DT,hu,BQ.mem hi a u hs.1 h1,Bj.mem hi l DT hs.2 h2⟩
def C8.mem(hi:Hm U h w):∀(l:List Aa) (b o:Nat),JL l=true->C8 U l b o->C8 (Gw w) l b o
 |[],_,_,_,_=>trivial
 |a::l,b,o,hs,h=>by obtain⟨⟨u,hu,h1⟩,h2⟩:=h;simp only[JL,BC] at hs;obtain⟨p,q,_⟩:=hi.Iw b o u hu;exact⟨⟨u,T0 p q,BQ.mem hi a u hs.1 h1⟩,C8.mem hi l b (o+1) hs.2 h2⟩
def E5.mem(hi:Hm U h w):∀(rs:List (List Aa)) (z b o:Nat),M3 rs=true->E5 U rs z b o->E5 (Gw w) rs z b o
 |[],_,_,_,_,_=>trivial
 |r::rs,z,b,o,hs,h=>by simp only[M3,BC] at hs;exact⟨h.1,C8.mem hi r b o hs.1 h.2.1,E5.mem hi rs z b (o+z) hs.2 h.2.2⟩
end
def NN(hi:Hm U h w){id g:Nat}{cs:List Aa}(hc:h[id]?=some (.cells cs))(hm:U.mu id=some g){j:Nat}{a:Aa}(ha:cs[j]?=some a):
  ∃u,w.cell? ⟨g,j,none⟩=some u/\u.oneCell'=true/\BQ U a u:=by
 obtain⟨us,e,fr,d,_,c,b⟩:=hi.cells id cs hc g hm;obtain⟨u,hu,hr⟩:=c.get ha;have hj:us[j]?=some u:=by
  rw[Ci] at hu;split at hu;.simpa using hu
  .cases hu
 exact⟨u,by rw[cell_of_row w _ _ us e fr d];exact hj,b u (CD hu),hr⟩
end
end Go.Am
