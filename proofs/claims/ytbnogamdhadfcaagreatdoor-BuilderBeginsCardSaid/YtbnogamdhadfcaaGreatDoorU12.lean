/- Lemmas -/
import Derived.Test.YtbnogamdhadfcaaGreatDoorU8
import Derived.Test.YtbnogamdhadfcaaGreatDoorU9
set_option linter.unusedVariables false
set_option linter.unusedSimpArgs false
namespace Go.Am
open Go Go.RowKit
section
variable{γ γ':Gh}{h:Ae}{w w':World}
theorem Gs.J5(hi:Gs γ h w)(hb:Below w.heap.size w w'):Gs γ h w'/\J1 γ w γ w':=by
 have uQ:∀{b o v},γ.HA b o=some v->b<w.heap.size:=λ{b o v} hv=>Dn (hi.HA b o v hv).1;have aD1:∀{id x b},h[id]?=some x->x≠ .CG->γ.mu id=some b->b<w.heap.size:=λ{id x b} hx hd hm=>by obtain⟨b',p,q⟩:=hi.KW id x hx hd;rw[hm] at p;cases p;exact hi.own b _ q
 refine⟨⟨λb o v hv=>?_,hi.KW,λid cs hc b hm=>?_,λid es hc b hm=>?_,hi.mu,λb x hx=>Zz (hi.own b x hx) hb.size,λb n hn=>?_⟩,⟨.refl _,hb.size,hb.os,hb.tape,hb.output,λb hlt _=>⟨hb.block b hlt,rfl⟩⟩⟩;·obtain⟨p,q,r⟩:=hi.HA b o v hv;exact⟨by rw[Cw (hb.block b (uQ hv))];exact p,q,r⟩
 .obtain⟨us,e,fr,p,q⟩:=hi.cells id cs hc b hm;exact⟨us,e,fr,by rw[hb.block b (aD1 hc (by simp) hm)];exact p,q⟩
 .obtain⟨Dl,clock,p,q⟩:=hi.map id es hc b hm;exact⟨Dl,clock,by rw[hb.block b (aD1 hc (by simp) hm)];exact p,q⟩
 .obtain⟨⟨us,e,fr,p,q⟩,r⟩:=hi.sz b n hn;exact⟨⟨us,e,fr,by rw[hb.block b (A0.1 p).1];exact p,q⟩,r⟩
theorem aO(hb:Below w.heap.size w w'):(FA w).le (FA w'):=by refine⟨λb o v hv=>?_,λid b hm=>(by cases hm),λb n hn=>(by cases hn)⟩;simp only[FA,Option.filter_eq_some_iff] at hv⊢;exact⟨by rw[Cw (hb.block b (Dn hv.1))];exact hv.1,hv.2⟩
mutual
theorem BF.mem(hi:Gs γ h w):∀(a:Aa) (v:Value),a.still=true->BF γ a v->BF (FA w) a v
 | .bool b,v,_,h=>h
 | .int k n,v,_,h=>h
 | .str s,v,_,h=>h
 | .ptr none,v,_,h=>h
 | .ptr (some (id,o)),v,hs,h=>by simp[Aa.still] at hs
 | .CA cs,v,hs,h=>by obtain⟨b,o,hv,hm⟩:=h;exact⟨b,o,hv,CI.mem hi cs b o (by simpa[Aa.still] using hs) hm⟩
 | .sl z Au,v,hs,h=>by obtain⟨ad,cap,hv,hc,hp,hm⟩:=h;exact⟨ad,cap,hv,hc,hp,ER.mem hi Au z _ _ (by simpa[Aa.still] using hs) hm⟩
 | .slnil,v,_,h=>h
 | .Cm id off len z,v,hs,h=>by simp[Aa.still] at hs
 | .map none,v,_,h=>h
 | .map (some id),v,hs,h=>by simp[Aa.still] at hs
 | .func fn f c,v,hs,h=>by obtain⟨fs,cs,hv,h1,h2⟩:=h;simp only[Aa.still,BK] at hs;exact⟨fs,cs,hv,A8.mem hi f _ hs.1 h1,A8.mem hi c _ hs.2 h2⟩
 | .nilFunc,v,_,h=>h
 | .iface t a,v,hs,h=>by obtain⟨u,hv,h1⟩:=h;exact⟨u,hv,BF.mem hi a u (by simpa[Aa.still] using hs) h1⟩
 | .nilIface,v,_,h=>h
 | .agg cs,v,hs,h=>by obtain⟨us,hv,h1,h2⟩:=h;exact⟨us,hv,A8.mem hi cs _ (by simpa[Aa.still] using hs) h1,h2⟩
 | .tuple vs,v,hs,h=>by obtain⟨us,hv,h1⟩:=h;exact⟨us,hv,A8.mem hi vs _ (by simpa[Aa.still] using hs) h1⟩
theorem A8.mem(hi:Gs γ h w):∀(l:List Aa) (us:List Value),IE l=true->A8 γ l us->A8 (FA w) l us
 |[],us,_,h=>h
 |a::l,us,hs,h=>by obtain⟨u,Dk,hu,h1,h2⟩:=h;simp only[IE,BK] at hs;exact⟨u,Dk,hu,BF.mem hi a u hs.1 h1,A8.mem hi l Dk hs.2 h2⟩
theorem CI.mem(hi:Gs γ h w):∀(l:List Aa) (b o:Nat),IE l=true->CI γ l b o->CI (FA w) l b o
 |[],_,_,_,_=>trivial
 |a::l,b,o,hs,h=>by obtain⟨⟨u,hu,h1⟩,h2⟩:=h;simp only[IE,BK] at hs;obtain⟨p,q,_⟩:=hi.HA b o u hu;exact⟨⟨u,RJ p q,BF.mem hi a u hs.1 h1⟩,CI.mem hi l b (o+1) hs.2 h2⟩
theorem ER.mem(hi:Gs γ h w):∀(rs:List (List Aa)) (z b o:Nat),Ly rs=true->ER γ rs z b o->ER (FA w) rs z b o
 |[],_,_,_,_,_=>trivial
 |r::rs,z,b,o,hs,h=>by simp only[Ly,BK] at hs;exact⟨h.1,CI.mem hi r b o hs.1 h.2.1,ER.mem hi rs z b (o+z) hs.2 h.2.2⟩
end
theorem Mg(hi:Gs γ h w){id g:Nat}{cs:List Aa}(hc:h[id]?=some (.cells cs))(hm:γ.mu id=some g){j:Nat}{a:Aa}(ha:cs[j]?=some a):
  ∃u,w.cell? ⟨g,j,none⟩=some u/\u.oneCell'=true/\BF γ a u:=by
 obtain⟨us,e,fr,p1,_,p2,p3⟩:=hi.cells id cs hc g hm;obtain⟨u,hu,hr⟩:=p2.get ha;have hj:us[j]?=some u:=by
  rw[Cg] at hu;split at hu;·simpa using hu
  .cases hu
 exact⟨u,by rw[cell_of_row w _ _ us e fr p1];exact hj,p3 u (CD hu),hr⟩
end
end Go.Am
