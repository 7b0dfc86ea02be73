/- Lemmas -/
import Derived.Test.YtjjnhgoknielgaaGreatDoorW7
import Derived.Test.YtjjnhgoknielgaaGreatDoorW8
set_option linter.all false
namespace Go.Am
open Go Go.RowKit
section
variable{U U':Gh}{h:Ai}{w w':World}
def It.Ni(hi:It U h w)(hb:Below w.heap.size w w'):It U h w'/\Nb U w U w':=by
 have yy:∀{b o v},U.I6 b o=some v->b<w.heap.size:=λ{b o v} hv=>DV (hi.I6 b o v hv).1;have aJp:∀{id x b},h[id]?=some x->x≠ .Ef->U.mu id=some b->b<w.heap.size:=λ{id x b} hx hd hm=>by obtain⟨b',p,q⟩:=hi.NH id x hx hd;rw[hm] at p;cases p;exact hi.BU b _ q
 refine⟨⟨λb o v hv=>?_,hi.NH,λid cs hc b hm=>?_,λid es hc b hm=>?_,hi.mu,λb x hx=>JV (hi.BU b x hx) hb.size,λb n hn=>?_⟩,⟨.refl _,hb.size,hb.os,hb.tape,hb.output,λb hlt _=>⟨hb.block b hlt,rfl⟩⟩⟩;.obtain⟨p,q,r⟩:=hi.I6 b o v hv;exact⟨by rw[CV (hb.block b (yy hv))];exact p,q,r⟩
 .obtain⟨us,e,fr,p,q⟩:=hi.cells id cs hc b hm;exact⟨us,e,fr,by rw[hb.block b (aJp hc AB hm)];exact p,q⟩
 .obtain⟨Es,clock,p,q⟩:=hi.map id es hc b hm;exact⟨Es,clock,by rw[hb.block b (aJp hc AB hm)];exact p,q⟩
 .obtain⟨⟨us,e,fr,p,q⟩,r⟩:=hi.sz b n hn;exact⟨⟨us,e,fr,by rw[hb.block b (AU.1 p).1];exact p,q⟩,r⟩
def oL(hb:Below w.heap.size w w'):(GK w).le (GK w'):=by refine⟨λb o v hv=>?_,λid b hm=>(by cases hm),λb n hn=>(by cases hn)⟩;simp only[GK,RW] at hv⊢;exact⟨by rw[CV (hb.block b (DV hv.1))];exact hv.1,hv.2⟩
mutual
def BQ.mem(hi:It U h w):∀(a:Ab) (v:Value),a.still=true->BQ U a v->BQ (GK w) a v
 | .bool b,v,_,h=>h
 | .int k n,v,_,h=>h
 | .str s,v,_,h=>h
 | .ptr none,v,_,h=>h
 | .ptr (some (id,o)),v,hs,h=>by simp[Ab.still] at hs
 | .Cd cs,v,hs,h=>by obtain⟨b,o,hv,hm⟩:=h;exact⟨b,o,hv,C8.mem hi cs b o (by simpa[Ab.still] using hs) hm⟩
 | .sl z Ay,v,hs,h=>by obtain⟨d,cap,hv,hc,hp,hm⟩:=h;exact⟨d,cap,hv,hc,hp,Fj.mem hi Ay z _ _ (by simpa[Ab.still] using hs) hm⟩
 | .slnil,v,_,h=>h
 | .Hi _,v,_,h=>h
 | .Du id off len z,v,hs,h=>by simp[Ab.still] at hs
 | .map none,v,_,h=>h
 | .map (some id),v,hs,h=>by simp[Ab.still] at hs
 | .func fn f c,v,hs,h=>by obtain⟨fs,cs,hv,h1,h2⟩:=h;simp only[Ab.still,Bg] at hs;exact⟨fs,cs,hv,Bc.mem hi f _ hs.1 h1,Bc.mem hi c _ hs.2 h2⟩
 | .nilFunc,v,_,h=>h
 | .iface t a,v,hs,h=>by obtain⟨u,hv,h1⟩:=h;exact⟨u,hv,BQ.mem hi a u (by simpa[Ab.still] using hs) h1⟩
 | .nilIface,v,_,h=>h
 | .agg cs,v,hs,h=>by obtain⟨us,hv,h1,h2⟩:=h;exact⟨us,hv,Bc.mem hi cs _ (by simpa[Ab.still] using hs) h1,h2⟩
 | .tuple vs,v,hs,h=>by obtain⟨us,hv,h1⟩:=h;exact⟨us,hv,Bc.mem hi vs _ (by simpa[Ab.still] using hs) h1⟩
def Bc.mem(hi:It U h w):∀(l:List Ab) (us:List Value),Kl l=true->Bc U l us->Bc (GK w) l us
 |[],us,_,h=>h
 |a::l,us,hs,h=>by obtain⟨u,DS,hu,h1,h2⟩:=h;simp only[Kl,Bg] at hs;exact⟨u,DS,hu,BQ.mem hi a u hs.1 h1,Bc.mem hi l DS hs.2 h2⟩
def C8.mem(hi:It U h w):∀(l:List Ab) (b o:Nat),Kl l=true->C8 U l b o->C8 (GK w) l b o
 |[],_,_,_,_=>trivial
 |a::l,b,o,hs,h=>by obtain⟨⟨u,hu,h1⟩,h2⟩:=h;simp only[Kl,Bg] at hs;obtain⟨p,q,_⟩:=hi.I6 b o u hu;exact⟨⟨u,UT p q,BQ.mem hi a u hs.1 h1⟩,C8.mem hi l b (o+1) hs.2 h2⟩
def Fj.mem(hi:It U h w):∀(rs:List (List Ab)) (z b o:Nat),N1 rs=true->Fj U rs z b o->Fj (GK w) rs z b o
 |[],_,_,_,_,_=>trivial
 |r::rs,z,b,o,hs,h=>by simp only[N1,Bg] at hs;exact⟨h.1,C8.mem hi r b o hs.1 h.2.1,Fj.mem hi rs z b (o+z) hs.2 h.2.2⟩
end
def OL(hi:It U h w){id g:Nat}{cs:List Ab}(hc:h[id]?=some (.cells cs))(hm:U.mu id=some g){j:Nat}{a:Ab}(ha:cs[j]?=some a):
  ∃u,w.cell? ⟨g,j,none⟩=some u/\u.oneCell'=true/\BQ U a u:=by
 obtain⟨us,e,fr,d,_,c,b⟩:=hi.cells id cs hc g hm;obtain⟨u,hu,hr⟩:=c.get ha;have hj:us[j]?=some u:=by
  rw[CA] at hu;split at hu;.simpa using hu
  .cases hu
 exact⟨u,by rw[cell_of_row w _ _ us e fr d];exact hj,b u (CJ hu),hr⟩
end
end Go.Am
