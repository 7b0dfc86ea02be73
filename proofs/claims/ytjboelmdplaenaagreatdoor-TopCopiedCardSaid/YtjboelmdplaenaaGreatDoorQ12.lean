/- Lemmas -/
import Derived.Test.YtjboelmdplaenaaGreatDoorQ8
import Derived.Test.YtjboelmdplaenaaGreatDoorQ9
set_option linter.unusedVariables false
set_option linter.unusedSimpArgs false
namespace Go.Am
open Go Go.RowKit
section
variable {γ γ':Gh} {h:AHeap} {w w':World}
theorem Inv.of_below (hi:Inv γ h w) (hb:Below w.heap.size w w'):Inv γ h w'∧Acc γ w γ w':=by
 have himm:∀{b o v},γ.imm b o=some v→b<w.heap.size:=λ{b o v} hv=>lt_of_cell (hi.imm b o v hv).1;have hobj:∀{id x b},h[id]?=some x→x≠ .dead→γ.mu id=some b→b<w.heap.size:=λ{id x b} hx hd hm=>by obtain⟨b',p,q⟩:=hi.obj id x hx hd;rw[hm] at p;cases p;exact hi.own b _ q
 refine⟨⟨λb o v hv=>?_,hi.obj,λid cs hc b hm=>?_,λid es hc b hm=>?_,hi.mu,λb x hx=>Nat.lt_of_lt_of_le (hi.own b x hx) hb.size,λb n hn=>?_⟩,⟨.refl _,hb.size,hb.os,hb.tape,hb.output,λb hlt _=>⟨hb.block b hlt,rfl⟩⟩⟩
 ·obtain⟨p,q,r⟩:=hi.imm b o v hv;exact⟨by rw[cell?_of_heap (hb.block b (himm hv))];exact p,q,r⟩
 ·obtain⟨us,e,fr,p,q⟩:=hi.cells id cs hc b hm;exact⟨us,e,fr,by rw[hb.block b (hobj hc (by simp) hm)];exact p,q⟩
 ·obtain⟨ents,clock,p,q⟩:=hi.map id es hc b hm;exact⟨ents,clock,by rw[hb.block b (hobj hc (by simp) hm)];exact p,q⟩
 ·obtain⟨⟨us,e,fr,p,q⟩,r⟩:=hi.sz b n hn;exact⟨⟨us,e,fr,by rw[hb.block b (Array.getElem?_eq_some_iff.1 p).1];exact p,q⟩,r⟩
theorem memGh_le (hb:Below w.heap.size w w'):(memGh w).le (memGh w'):=by refine⟨λb o v hv=>?_,λid b hm=>(by cases hm),λb n hn=>(by cases hn)⟩;simp only[memGh,Option.filter_eq_some_iff] at hv⊢;exact⟨by rw[cell?_of_heap (hb.block b (lt_of_cell hv.1))];exact hv.1,hv.2⟩
mutual
theorem VRel.mem (hi:Inv γ h w):∀(a:AVal) (v:Value),a.still=true→VRel γ a v→VRel (memGh w) a v
 | .bool b,v,_,h=>h
 | .int k n,v,_,h=>h
 | .str s,v,_,h=>h
 | .ptr none,v,_,h=>h
 | .ptr (some (id,o)),v,hs,h=>by simp[AVal.still] at hs
 | .rptr cs,v,hs,h=>by obtain⟨b,o,hv,hm⟩:=h;exact⟨b,o,hv,VRelM.mem hi cs b o (by simpa[AVal.still] using hs) hm⟩
 | .sl z rows,v,hs,h=>by obtain⟨ad,cap,hv,hc,hp,hm⟩:=h;exact⟨ad,cap,hv,hc,hp,VRelR.mem hi rows z _ _ (by simpa[AVal.still] using hs) hm⟩
 | .slnil,v,_,h=>h
 | .nosl _,v,_,h=>h
 | .msl id off len z,v,hs,h=>by simp[AVal.still] at hs
 | .map none,v,_,h=>h
 | .map (some id),v,hs,h=>by simp[AVal.still] at hs
 | .func fn f c,v,hs,h=>by obtain⟨fs,cs,hv,h1,h2⟩:=h;simp only[AVal.still,Bool.and_eq_true] at hs;exact⟨fs,cs,hv,VRelV.mem hi f _ hs.1 h1,VRelV.mem hi c _ hs.2 h2⟩
 | .nilFunc,v,_,h=>h
 | .iface t a,v,hs,h=>by obtain⟨u,hv,h1⟩:=h;exact⟨u,hv,VRel.mem hi a u (by simpa[AVal.still] using hs) h1⟩
 | .nilIface,v,_,h=>h
 | .agg cs,v,hs,h=>by obtain⟨us,hv,h1,h2⟩:=h;exact⟨us,hv,VRelV.mem hi cs _ (by simpa[AVal.still] using hs) h1,h2⟩
 | .tuple vs,v,hs,h=>by obtain⟨us,hv,h1⟩:=h;exact⟨us,hv,VRelV.mem hi vs _ (by simpa[AVal.still] using hs) h1⟩
theorem VRelV.mem (hi:Inv γ h w):∀(l:List AVal) (us:List Value),stillL l=true→VRelV γ l us→VRelV (memGh w) l us
 |[],us,_,h=>h
 |a::l,us,hs,h=>by obtain⟨u,us',hu,h1,h2⟩:=h;simp only[stillL,Bool.and_eq_true] at hs;exact⟨u,us',hu,VRel.mem hi a u hs.1 h1,VRelV.mem hi l us' hs.2 h2⟩
theorem VRelM.mem (hi:Inv γ h w):∀(l:List AVal) (b o:Nat),stillL l=true→VRelM γ l b o→VRelM (memGh w) l b o
 |[],_,_,_,_=>trivial
 |a::l,b,o,hs,h=>by obtain⟨⟨u,hu,h1⟩,h2⟩:=h;simp only[stillL,Bool.and_eq_true] at hs;obtain⟨p,q,_⟩:=hi.imm b o u hu;exact⟨⟨u,memImm p q,VRel.mem hi a u hs.1 h1⟩,VRelM.mem hi l b (o+1) hs.2 h2⟩
theorem VRelR.mem (hi:Inv γ h w):∀(rs:List (List AVal)) (z b o:Nat),stillLL rs=true→VRelR γ rs z b o→VRelR (memGh w) rs z b o
 |[],_,_,_,_,_=>trivial
 |r::rs,z,b,o,hs,h=>by simp only[stillLL,Bool.and_eq_true] at hs;exact⟨h.1,VRelM.mem hi r b o hs.1 h.2.1,VRelR.mem hi rs z b (o+z) hs.2 h.2.2⟩
end
theorem cells_mem (hi:Inv γ h w) {id g:Nat} {cs:List AVal} (hc:h[id]?=some (.cells cs)) (hm:γ.mu id=some g) {j:Nat} {a:AVal} (ha:cs[j]?=some a):
  ∃u,w.cell? ⟨g,j,none⟩=some u∧u.oneCell'=true∧VRel γ a u:=by
 obtain⟨us,e,fr,p1,_,p2,p3⟩:=hi.cells id cs hc g hm;obtain⟨u,hu,hr⟩:=p2.get ha;have hj:us[j]?=some u:=by
  rw[List.getElem?_take] at hu;split at hu
  ·simpa using hu
  ·cases hu
 exact⟨u,by rw[cell_of_row w _ _ us e fr p1];exact hj,p3 u (List.mem_of_getElem? hu),hr⟩
end
end Go.Am
