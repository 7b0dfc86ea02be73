/- Lemmas -/
import Derived.Test.YtljddgipdchkiaaGreatDoorZ7
import Derived.Test.YtljddgipdchkiaaGreatDoorZ8
set_option linter.all false
namespace Go.Am
open Go Go.RowKit
section
variable{U U':Gh}{h:Ah}{w w':World}
def Hj.Lb(hi:Hj U h w)(hb:Below w.heap.size w w'):Hj U h w'/\K6 U w U w':=by
 have dg:∀{b o v},U.Io b o=some v->b<w.heap.size:=λ{b o v} hv=>DP (hi.Io b o v hv).1;have aFL:∀{id x b},h[id]?=some x->x≠ .CT->U.mu id=some b->b<w.heap.size:=λ{id x b} hx hd hm=>by obtain⟨b',p,q⟩:=hi.L8 id x hx hd;rw[hm] at p;cases p;exact hi.Bw b _ q
 refine⟨⟨λb o v hv=>?_,hi.L8,λid cs hc b hm=>?_,λid es hc b hm=>?_,hi.mu,λb x hx=>LD (hi.Bw b x hx) hb.size,λb n hn=>?_⟩,⟨.refl _,hb.size,hb.os,hb.tape,hb.output,λb hlt _=>⟨hb.block b hlt,rfl⟩⟩⟩;.obtain⟨p,q,r⟩:=hi.Io b o v hv;exact⟨by rw[CS (hb.block b (dg hv))];exact p,q,r⟩
 .obtain⟨us,e,fr,p,q⟩:=hi.cells id cs hc b hm;exact⟨us,e,fr,by rw[hb.block b (aFL hc AK hm)];exact p,q⟩
 .obtain⟨DD,clock,p,q⟩:=hi.map id es hc b hm;exact⟨DD,clock,by rw[hb.block b (aFL hc AK hm)];exact p,q⟩
 .obtain⟨⟨us,e,fr,p,q⟩,r⟩:=hi.sz b n hn;exact⟨⟨us,e,fr,by rw[hb.block b (A7.1 p).1];exact p,q⟩,r⟩
def fJ(hb:Below w.heap.size w w'):(Gr w).le (Gr w'):=by refine⟨λb o v hv=>?_,λid b hm=>(by cases hm),λb n hn=>(by cases hn)⟩;simp only[Gr,Ql] at hv⊢;exact⟨by rw[CS (hb.block b (DP hv.1))];exact hv.1,hv.2⟩
mutual
def BU.mem(hi:Hj U h w):∀(a:Aa) (v:Value),a.still=true->BU U a v->BU (Gr w) a v
 | .bool b,v,_,h=>h
 | .int k n,v,_,h=>h
 | .str s,v,_,h=>h
 | .ptr none,v,_,h=>h
 | .ptr (some (id,o)),v,hs,h=>by simp[Aa.still] at hs
 | .Cq cs,v,hs,h=>by obtain⟨b,o,hv,hm⟩:=h;exact⟨b,o,hv,C4.mem hi cs b o (by simpa[Aa.still] using hs) hm⟩
 | .sl z Az,v,hs,h=>by obtain⟨d,cap,hv,hc,hp,hm⟩:=h;exact⟨d,cap,hv,hc,hp,E7.mem hi Az z _ _ (by simpa[Aa.still] using hs) hm⟩
 | .slnil,v,_,h=>h
 | .Gb _,v,_,h=>h
 | .CD id off len z,v,hs,h=>by simp[Aa.still] at hs
 | .map none,v,_,h=>h
 | .map (some id),v,hs,h=>by simp[Aa.still] at hs
 | .func fn f c,v,hs,h=>by obtain⟨fs,cs,hv,h1,h2⟩:=h;simp only[Aa.still,Bx] at hs;exact⟨fs,cs,hv,Bi.mem hi f _ hs.1 h1,Bi.mem hi c _ hs.2 h2⟩
 | .nilFunc,v,_,h=>h
 | .iface t a,v,hs,h=>by obtain⟨u,hv,h1⟩:=h;exact⟨u,hv,BU.mem hi a u (by simpa[Aa.still] using hs) h1⟩
 | .nilIface,v,_,h=>h
 | .agg cs,v,hs,h=>by obtain⟨us,hv,h1,h2⟩:=h;exact⟨us,hv,Bi.mem hi cs _ (by simpa[Aa.still] using hs) h1,h2⟩
 | .tuple vs,v,hs,h=>by obtain⟨us,hv,h1⟩:=h;exact⟨us,hv,Bi.mem hi vs _ (by simpa[Aa.still] using hs) h1⟩
def Bi.mem(hi:Hj U h w):∀(l:List Aa) (us:List Value),JD l=true->Bi U l us->Bi (Gr w) l us
 |[],us,_,h=>h
 |a::l,us,hs,h=>by obtain⟨u,DM,hu,h1,h2⟩:=h;simp only[JD,Bx] at hs;exact⟨u,DM,hu,BU.mem hi a u hs.1 h1,Bi.mem hi l DM hs.2 h2⟩
def C4.mem(hi:Hj U h w):∀(l:List Aa) (b o:Nat),JD l=true->C4 U l b o->C4 (Gr w) l b o
 |[],_,_,_,_=>trivial
 |a::l,b,o,hs,h=>by obtain⟨⟨u,hu,h1⟩,h2⟩:=h;simp only[JD,Bx] at hs;obtain⟨p,q,_⟩:=hi.Io b o u hu;exact⟨⟨u,S7 p q,BU.mem hi a u hs.1 h1⟩,C4.mem hi l b (o+1) hs.2 h2⟩
def E7.mem(hi:Hj U h w):∀(rs:List (List Aa)) (z b o:Nat),MN rs=true->E7 U rs z b o->E7 (Gr w) rs z b o
 |[],_,_,_,_,_=>trivial
 |r::rs,z,b,o,hs,h=>by simp only[MN,Bx] at hs;exact⟨h.1,C4.mem hi r b o hs.1 h.2.1,E7.mem hi rs z b (o+z) hs.2 h.2.2⟩
end
def Nt(hi:Hj U h w){id g:Nat}{cs:List Aa}(hc:h[id]?=some (.cells cs))(hm:U.mu id=some g){j:Nat}{a:Aa}(ha:cs[j]?=some a):
  ∃u,w.cell? ⟨g,j,none⟩=some u/\u.oneCell'=true/\BU U a u:=by
 obtain⟨us,e,fr,d,_,c,b⟩:=hi.cells id cs hc g hm;obtain⟨u,hu,hr⟩:=c.get ha;have hj:us[j]?=some u:=by
  rw[Cj] at hu;split at hu;.simpa using hu
  .cases hu
 exact⟨u,by rw[cell_of_row w _ _ us e fr d];exact hj,b u (CB hu),hr⟩
end
end Go.Am
