/- Lemmas -/
import Derived.Test.YtefjamneieebhaaGreatDoorS8
import Derived.Test.YtefjamneieebhaaGreatDoorS9
set_option linter.unusedVariables false
set_option linter.unusedSimpArgs false
namespace Go.Am
open Go Go.RowKit
section
variable{γ γ':Gh}{h:Ad}{w w':World}
theorem Gp.J6(hi:Gp γ h w)(hb:Below w.heap.size w w'):Gp γ h w'/\J3 γ w γ w':=by
 have vF:∀{b o v},γ.Hy b o=some v->b<w.heap.size:=λ{b o v} hv=>Dn (hi.Hy b o v hv).1;have aD1:∀{id x b},h[id]?=some x->x≠ .CG->γ.mu id=some b->b<w.heap.size:=λ{id x b} hx hd hm=>by obtain⟨b',p,q⟩:=hi.KT id x hx hd;rw[hm] at p;cases p;exact hi.own b _ q
 refine⟨⟨λb o v hv=>?_,hi.KT,λid cs hc b hm=>?_,λid es hc b hm=>?_,hi.mu,λb x hx=>ZD (hi.own b x hx) hb.size,λb n hn=>?_⟩,⟨.refl _,hb.size,hb.os,hb.tape,hb.output,λb hlt _=>⟨hb.block b hlt,rfl⟩⟩⟩;·obtain⟨p,q,r⟩:=hi.Hy b o v hv;exact⟨by rw[Cw (hb.block b (vF hv))];exact p,q,r⟩
 .obtain⟨us,e,fr,p,q⟩:=hi.cells id cs hc b hm;exact⟨us,e,fr,by rw[hb.block b (aD1 hc (by simp) hm)];exact p,q⟩
 .obtain⟨Dk,clock,p,q⟩:=hi.map id es hc b hm;exact⟨Dk,clock,by rw[hb.block b (aD1 hc (by simp) hm)];exact p,q⟩
 .obtain⟨⟨us,e,fr,p,q⟩,r⟩:=hi.sz b n hn;exact⟨⟨us,e,fr,by rw[hb.block b (A0.1 p).1];exact p,q⟩,r⟩
theorem aW(hb:Below w.heap.size w w'):(Fw w).le (Fw w'):=by refine⟨λb o v hv=>?_,λid b hm=>(by cases hm),λb n hn=>(by cases hn)⟩;simp only[Fw,Option.filter_eq_some_iff] at hv⊢;exact⟨by rw[Cw (hb.block b (Dn hv.1))];exact hv.1,hv.2⟩
mutual
theorem BE.mem(hi:Gp γ h w):∀(a:Aa) (v:Value),a.still=true->BE γ a v->BE (Fw w) a v
 | .bool b,v,_,h=>h
 | .int k n,v,_,h=>h
 | .str s,v,_,h=>h
 | .ptr none,v,_,h=>h
 | .ptr (some (id,o)),v,hs,h=>by simp[Aa.still] at hs
 | .CA cs,v,hs,h=>by obtain⟨b,o,hv,hm⟩:=h;exact⟨b,o,hv,CI.mem hi cs b o (by simpa[Aa.still] using hs) hm⟩
 | .sl z Au,v,hs,h=>by obtain⟨ad,cap,hv,hc,hp,hm⟩:=h;exact⟨ad,cap,hv,hc,hp,EP.mem hi Au z _ _ (by simpa[Aa.still] using hs) hm⟩
 | .slnil,v,_,h=>h
 | .Cl id off len z,v,hs,h=>by simp[Aa.still] at hs
 | .map none,v,_,h=>h
 | .map (some id),v,hs,h=>by simp[Aa.still] at hs
 | .func fn f c,v,hs,h=>by obtain⟨fs,cs,hv,h1,h2⟩:=h;simp only[Aa.still,BL] at hs;exact⟨fs,cs,hv,A9.mem hi f _ hs.1 h1,A9.mem hi c _ hs.2 h2⟩
 | .nilFunc,v,_,h=>h
 | .iface t a,v,hs,h=>by obtain⟨u,hv,h1⟩:=h;exact⟨u,hv,BE.mem hi a u (by simpa[Aa.still] using hs) h1⟩
 | .nilIface,v,_,h=>h
 | .agg cs,v,hs,h=>by obtain⟨us,hv,h1,h2⟩:=h;exact⟨us,hv,A9.mem hi cs _ (by simpa[Aa.still] using hs) h1,h2⟩
 | .tuple vs,v,hs,h=>by obtain⟨us,hv,h1⟩:=h;exact⟨us,hv,A9.mem hi vs _ (by simpa[Aa.still] using hs) h1⟩
theorem A9.mem(hi:Gp γ h w):∀(l:List Aa) (us:List Value),IF l=true->A9 γ l us->A9 (Fw w) l us
 |[],us,_,h=>h
 |a::l,us,hs,h=>by obtain⟨u,Dj,hu,h1,h2⟩:=h;simp only[IF,BL] at hs;exact⟨u,Dj,hu,BE.mem hi a u hs.1 h1,A9.mem hi l Dj hs.2 h2⟩
theorem CI.mem(hi:Gp γ h w):∀(l:List Aa) (b o:Nat),IF l=true->CI γ l b o->CI (Fw w) l b o
 |[],_,_,_,_=>trivial
 |a::l,b,o,hs,h=>by obtain⟨⟨u,hu,h1⟩,h2⟩:=h;simp only[IF,BL] at hs;obtain⟨p,q,_⟩:=hi.Hy b o u hu;exact⟨⟨u,RQ p q,BE.mem hi a u hs.1 h1⟩,CI.mem hi l b (o+1) hs.2 h2⟩
theorem EP.mem(hi:Gp γ h w):∀(rs:List (List Aa)) (z b o:Nat),LD rs=true->EP γ rs z b o->EP (Fw w) rs z b o
 |[],_,_,_,_,_=>trivial
 |r::rs,z,b,o,hs,h=>by simp only[LD,BL] at hs;exact⟨h.1,CI.mem hi r b o hs.1 h.2.1,EP.mem hi rs z b (o+z) hs.2 h.2.2⟩
end
theorem Mm(hi:Gp γ h w){id g:Nat}{cs:List Aa}(hc:h[id]?=some (.cells cs))(hm:γ.mu id=some g){j:Nat}{a:Aa}(ha:cs[j]?=some a):
  ∃u,w.cell? ⟨g,j,none⟩=some u/\u.oneCell'=true/\BE γ a u:=by
 obtain⟨us,e,fr,p1,_,p2,p3⟩:=hi.cells id cs hc g hm;obtain⟨u,hu,hr⟩:=p2.get ha;have hj:us[j]?=some u:=by
  rw[Cf] at hu;split at hu;·simpa using hu
  .cases hu
 exact⟨u,by rw[cell_of_row w _ _ us e fr p1];exact hj,p3 u (CD hu),hr⟩
end
end Go.Am
