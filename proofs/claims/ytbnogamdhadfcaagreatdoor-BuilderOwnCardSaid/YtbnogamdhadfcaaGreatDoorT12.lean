/- Lemmas -/
import Derived.Test.YtbnogamdhadfcaaGreatDoorT8
import Derived.Test.YtbnogamdhadfcaaGreatDoorT9
set_option linter.unusedVariables false
set_option linter.unusedSimpArgs false
namespace Go.Am
open Go Go.RowKit
section
variable{γ γ':Gh}{h:Ag}{w w':World}
theorem Gq.Ka(hi:Gq γ h w)(hb:Below w.heap.size w w'):Gq γ h w'/\J7 γ w γ w':=by
 have uT:∀{b o v},γ.HD b o=some v->b<w.heap.size:=λ{b o v} hv=>Dp (hi.HD b o v hv).1;have aDX:∀{id x b},h[id]?=some x->x≠ .CH->γ.mu id=some b->b<w.heap.size:=λ{id x b} hx hd hm=>by obtain⟨b',p,q⟩:=hi.KY id x hx hd;rw[hm] at p;cases p;exact hi.own b _ q
 refine⟨⟨λb o v hv=>?_,hi.KY,λid cs hc b hm=>?_,λid es hc b hm=>?_,hi.mu,λb x hx=>Zz (hi.own b x hx) hb.size,λb n hn=>?_⟩,⟨.refl _,hb.size,hb.os,hb.tape,hb.output,λb hlt _=>⟨hb.block b hlt,rfl⟩⟩⟩;·obtain⟨p,q,r⟩:=hi.HD b o v hv;exact⟨by rw[Cw (hb.block b (uT hv))];exact p,q,r⟩
 .obtain⟨us,e,fr,p,q⟩:=hi.cells id cs hc b hm;exact⟨us,e,fr,by rw[hb.block b (aDX hc (by simp) hm)];exact p,q⟩
 .obtain⟨Dj,clock,p,q⟩:=hi.map id es hc b hm;exact⟨Dj,clock,by rw[hb.block b (aDX hc (by simp) hm)];exact p,q⟩
 .obtain⟨⟨us,e,fr,p,q⟩,r⟩:=hi.sz b n hn;exact⟨⟨us,e,fr,by rw[hb.block b (A4.1 p).1];exact p,q⟩,r⟩
theorem aO(hb:Below w.heap.size w w'):(FA w).le (FA w'):=by refine⟨λb o v hv=>?_,λid b hm=>(by cases hm),λb n hn=>(by cases hn)⟩;simp only[FA,Option.filter_eq_some_iff] at hv⊢;exact⟨by rw[Cw (hb.block b (Dp hv.1))];exact hv.1,hv.2⟩
mutual
theorem BH.mem(hi:Gq γ h w):∀(a:Aa) (v:Value),a.still=true->BH γ a v->BH (FA w) a v
 | .bool b,v,_,h=>h
 | .int k n,v,_,h=>h
 | .str s,v,_,h=>h
 | .ptr none,v,_,h=>h
 | .ptr (some (id,o)),v,hs,h=>by simp[Aa.still] at hs
 | .CB cs,v,hs,h=>by obtain⟨b,o,hv,hm⟩:=h;exact⟨b,o,hv,CJ.mem hi cs b o (by simpa[Aa.still] using hs) hm⟩
 | .sl z Au,v,hs,h=>by obtain⟨ad,cap,hv,hc,hp,hm⟩:=h;exact⟨ad,cap,hv,hc,hp,ET.mem hi Au z _ _ (by simpa[Aa.still] using hs) hm⟩
 | .slnil,v,_,h=>h
 | .Ck id off len z,v,hs,h=>by simp[Aa.still] at hs
 | .map none,v,_,h=>h
 | .map (some id),v,hs,h=>by simp[Aa.still] at hs
 | .func fn f c,v,hs,h=>by obtain⟨fs,cs,hv,h1,h2⟩:=h;simp only[Aa.still,BK] at hs;exact⟨fs,cs,hv,Bb.mem hi f _ hs.1 h1,Bb.mem hi c _ hs.2 h2⟩
 | .nilFunc,v,_,h=>h
 | .iface t a,v,hs,h=>by obtain⟨u,hv,h1⟩:=h;exact⟨u,hv,BH.mem hi a u (by simpa[Aa.still] using hs) h1⟩
 | .nilIface,v,_,h=>h
 | .agg cs,v,hs,h=>by obtain⟨us,hv,h1,h2⟩:=h;exact⟨us,hv,Bb.mem hi cs _ (by simpa[Aa.still] using hs) h1,h2⟩
 | .tuple vs,v,hs,h=>by obtain⟨us,hv,h1⟩:=h;exact⟨us,hv,Bb.mem hi vs _ (by simpa[Aa.still] using hs) h1⟩
theorem Bb.mem(hi:Gq γ h w):∀(l:List Aa) (us:List Value),II l=true->Bb γ l us->Bb (FA w) l us
 |[],us,_,h=>h
 |a::l,us,hs,h=>by obtain⟨u,Dm,hu,h1,h2⟩:=h;simp only[II,BK] at hs;exact⟨u,Dm,hu,BH.mem hi a u hs.1 h1,Bb.mem hi l Dm hs.2 h2⟩
theorem CJ.mem(hi:Gq γ h w):∀(l:List Aa) (b o:Nat),II l=true->CJ γ l b o->CJ (FA w) l b o
 |[],_,_,_,_=>trivial
 |a::l,b,o,hs,h=>by obtain⟨⟨u,hu,h1⟩,h2⟩:=h;simp only[II,BK] at hs;obtain⟨p,q,_⟩:=hi.HD b o u hu;exact⟨⟨u,RM p q,BH.mem hi a u hs.1 h1⟩,CJ.mem hi l b (o+1) hs.2 h2⟩
theorem ET.mem(hi:Gq γ h w):∀(rs:List (List Aa)) (z b o:Nat),LC rs=true->ET γ rs z b o->ET (FA w) rs z b o
 |[],_,_,_,_,_=>trivial
 |r::rs,z,b,o,hs,h=>by simp only[LC,BK] at hs;exact⟨h.1,CJ.mem hi r b o hs.1 h.2.1,ET.mem hi rs z b (o+z) hs.2 h.2.2⟩
end
theorem Mh(hi:Gq γ h w){id g:Nat}{cs:List Aa}(hc:h[id]?=some (.cells cs))(hm:γ.mu id=some g){j:Nat}{a:Aa}(ha:cs[j]?=some a):
  ∃u,w.cell? ⟨g,j,none⟩=some u/\u.oneCell'=true/\BH γ a u:=by
 obtain⟨us,e,fr,p1,_,p2,p3⟩:=hi.cells id cs hc g hm;obtain⟨u,hu,hr⟩:=p2.get ha;have hj:us[j]?=some u:=by
  rw[Ch] at hu;split at hu;·simpa using hu
  .cases hu
 exact⟨u,by rw[cell_of_row w _ _ us e fr p1];exact hj,p3 u (CE hu),hr⟩
end
end Go.Am
