/- Lemmas -/
import Derived.Test.YtlcmmpgfafpoiaaGreatDoorT7
import Derived.Test.YtlcmmpgfafpoiaaGreatDoorT8
set_option linter.all false
namespace Go.Am
open Go Go.RowKit
section
variable{U U':Gh}{h:Ah}{w w':World}
def Hn.Lu(hi:Hn U h w)(hb:Below w.heap.size w w'):Hn U h w'/\Lq U w U w':=by
 have px:∀{b o v},U.It b o=some v->b<w.heap.size:=λ{b o v} hv=>DT (hi.It b o v hv).1;have aFS:∀{id x b},h[id]?=some x->x≠ .CF->U.mu id=some b->b<w.heap.size:=λ{id x b} hx hd hm=>by obtain⟨b',p,q⟩:=hi.Mm id x hx hd;rw[hm] at p;cases p;exact hi.Bt b _ q
 refine⟨⟨λb o v hv=>?_,hi.Mm,λid cs hc b hm=>?_,λid es hc b hm=>?_,hi.mu,λb x hx=>LU (hi.Bt b x hx) hb.size,λb n hn=>?_⟩,⟨.refl _,hb.size,hb.os,hb.tape,hb.output,λb hlt _=>⟨hb.block b hlt,rfl⟩⟩⟩;.obtain⟨p,q,r⟩:=hi.It b o v hv;exact⟨by rw[CV (hb.block b (px hv))];exact p,q,r⟩
 .obtain⟨us,e,fr,p,q⟩:=hi.cells id cs hc b hm;exact⟨us,e,fr,by rw[hb.block b (aFS hc AH hm)];exact p,q⟩
 .obtain⟨DE,clock,p,q⟩:=hi.map id es hc b hm;exact⟨DE,clock,by rw[hb.block b (aFS hc AH hm)];exact p,q⟩
 .obtain⟨⟨us,e,fr,p,q⟩,r⟩:=hi.sz b n hn;exact⟨⟨us,e,fr,by rw[hb.block b (A8.1 p).1];exact p,q⟩,r⟩
def m0(hb:Below w.heap.size w w'):(Gy w).le (Gy w'):=by refine⟨λb o v hv=>?_,λid b hm=>(by cases hm),λb n hn=>(by cases hn)⟩;simp only[Gy,QQ] at hv⊢;exact⟨by rw[CV (hb.block b (DT hv.1))];exact hv.1,hv.2⟩
mutual
def BR.mem(hi:Hn U h w):∀(a:Aa) (v:Value),a.still=true->BR U a v->BR (Gy w) a v
 | .bool b,v,_,h=>h
 | .int k n,v,_,h=>h
 | .str s,v,_,h=>h
 | .ptr none,v,_,h=>h
 | .ptr (some (id,o)),v,hs,h=>by simp[Aa.still] at hs
 | .CJ cs,v,hs,h=>by obtain⟨b,o,hv,hm⟩:=h;exact⟨b,o,hv,C6.mem hi cs b o (by simpa[Aa.still] using hs) hm⟩
 | .sl z AD,v,hs,h=>by obtain⟨d,cap,hv,hc,hp,hm⟩:=h;exact⟨d,cap,hv,hc,hp,E9.mem hi AD z _ _ (by simpa[Aa.still] using hs) hm⟩
 | .slnil,v,_,h=>h
 | .E4 _,v,_,h=>h
 | .Cs id off len z,v,hs,h=>by simp[Aa.still] at hs
 | .map none,v,_,h=>h
 | .map (some id),v,hs,h=>by simp[Aa.still] at hs
 | .func fn f c,v,hs,h=>by obtain⟨fs,cs,hv,h1,h2⟩:=h;simp only[Aa.still,Bv] at hs;exact⟨fs,cs,hv,Bj.mem hi f _ hs.1 h1,Bj.mem hi c _ hs.2 h2⟩
 | .nilFunc,v,_,h=>h
 | .iface t a,v,hs,h=>by obtain⟨u,hv,h1⟩:=h;exact⟨u,hv,BR.mem hi a u (by simpa[Aa.still] using hs) h1⟩
 | .nilIface,v,_,h=>h
 | .agg cs,v,hs,h=>by obtain⟨us,hv,h1,h2⟩:=h;exact⟨us,hv,Bj.mem hi cs _ (by simpa[Aa.still] using hs) h1,h2⟩
 | .tuple vs,v,hs,h=>by obtain⟨us,hv,h1⟩:=h;exact⟨us,hv,Bj.mem hi vs _ (by simpa[Aa.still] using hs) h1⟩
def Bj.mem(hi:Hn U h w):∀(l:List Aa) (us:List Value),JP l=true->Bj U l us->Bj (Gy w) l us
 |[],us,_,h=>h
 |a::l,us,hs,h=>by obtain⟨u,DR,hu,h1,h2⟩:=h;simp only[JP,Bv] at hs;exact⟨u,DR,hu,BR.mem hi a u hs.1 h1,Bj.mem hi l DR hs.2 h2⟩
def C6.mem(hi:Hn U h w):∀(l:List Aa) (b o:Nat),JP l=true->C6 U l b o->C6 (Gy w) l b o
 |[],_,_,_,_=>trivial
 |a::l,b,o,hs,h=>by obtain⟨⟨u,hu,h1⟩,h2⟩:=h;simp only[JP,Bv] at hs;obtain⟨p,q,_⟩:=hi.It b o u hu;exact⟨⟨u,TN p q,BR.mem hi a u hs.1 h1⟩,C6.mem hi l b (o+1) hs.2 h2⟩
def E9.mem(hi:Hn U h w):∀(rs:List (List Aa)) (z b o:Nat),M3 rs=true->E9 U rs z b o->E9 (Gy w) rs z b o
 |[],_,_,_,_,_=>trivial
 |r::rs,z,b,o,hs,h=>by simp only[M3,Bv] at hs;exact⟨h.1,C6.mem hi r b o hs.1 h.2.1,E9.mem hi rs z b (o+z) hs.2 h.2.2⟩
end
def NM(hi:Hn U h w){id g:Nat}{cs:List Aa}(hc:h[id]?=some (.cells cs))(hm:U.mu id=some g){j:Nat}{a:Aa}(ha:cs[j]?=some a):
  ∃u,w.cell? ⟨g,j,none⟩=some u/\u.oneCell'=true/\BR U a u:=by
 obtain⟨us,e,fr,d,_,c,b⟩:=hi.cells id cs hc g hm;obtain⟨u,hu,hr⟩:=c.get ha;have hj:us[j]?=some u:=by
  rw[Cg] at hu;split at hu;.simpa using hu
  .cases hu
 exact⟨u,by rw[cell_of_row w _ _ us e fr d];exact hj,b u (Cz hu),hr⟩
end
end Go.Am
