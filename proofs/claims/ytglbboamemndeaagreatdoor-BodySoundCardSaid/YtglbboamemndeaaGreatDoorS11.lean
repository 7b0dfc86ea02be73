/- Lemmas -/
import Derived.Test.YtglbboamemndeaaGreatDoorS7
import Derived.Test.YtglbboamemndeaaGreatDoorS8
set_option linter.all false
namespace Go.Am
open Go Go.RowKit
section
variable{U U':Gh}{h:Ai}{w w':World}
def Hw.LW(hi:Hw U h w)(hb:Below w.heap.size w w'):Hw U h w'/\LR U w U w':=by
 have jf:∀{b o v},U.HW b o=some v->b<w.heap.size:=λ{b o v} hv=>Dt (hi.HW b o v hv).1;have aCo:∀{id x b},h[id]?=some x->x≠ .Dw->U.mu id=some b->b<w.heap.size:=λ{id x b} hx hd hm=>by obtain⟨b',p,q⟩:=hi.Mj id x hx hd;rw[hm] at p;cases p;exact hi.BI b _ q
 refine⟨⟨λb o v hv=>?_,hi.Mj,λid cs hc b hm=>?_,λid es hc b hm=>?_,hi.mu,λb x hx=>IJ (hi.BI b x hx) hb.size,λb n hn=>?_⟩,⟨.refl _,hb.size,hb.os,hb.tape,hb.output,λb hlt _=>⟨hb.block b hlt,rfl⟩⟩⟩;.obtain⟨p,q,r⟩:=hi.HW b o v hv;exact⟨by rw[CG (hb.block b (jf hv))];exact p,q,r⟩
 .obtain⟨us,e,fr,p,q⟩:=hi.cells id cs hc b hm;exact⟨us,e,fr,by rw[hb.block b (aCo hc Ax hm)];exact p,q⟩
 .obtain⟨DD,clock,p,q⟩:=hi.map id es hc b hm;exact⟨DD,clock,by rw[hb.block b (aCo hc Ax hm)];exact p,q⟩
 .obtain⟨⟨us,e,fr,p,q⟩,r⟩:=hi.sz b n hn;exact⟨⟨us,e,fr,by rw[hb.block b (AO.1 p).1];exact p,q⟩,r⟩
def l8(hb:Below w.heap.size w w'):(FX w).le (FX w'):=by refine⟨λb o v hv=>?_,λid b hm=>(by cases hm),λb n hn=>(by cases hn)⟩;simp only[FX,Qx] at hv⊢;exact⟨by rw[CG (hb.block b (Dt hv.1))];exact hv.1,hv.2⟩
mutual
def BH.mem(hi:Hw U h w):∀(a:Aa) (v:Value),a.still=true->BH U a v->BH (FX w) a v
 | .bool b,v,_,h=>h
 | .int k n,v,_,h=>h
 | .str s,v,_,h=>h
 | .ptr none,v,_,h=>h
 | .ptr (some (id,o)),v,hs,h=>by simp[Aa.still] at hs
 | .Cu cs,v,hs,h=>by obtain⟨b,o,hv,hm⟩:=h;exact⟨b,o,hv,CQ.mem hi cs b o (by simpa[Aa.still] using hs) hm⟩
 | .sl z Av,v,hs,h=>by obtain⟨d,cap,hv,hc,hp,hm⟩:=h;exact⟨d,cap,hv,hc,hp,EL.mem hi Av z _ _ (by simpa[Aa.still] using hs) hm⟩
 | .slnil,v,_,h=>h
 | .EI _,v,_,h=>h
 | .CT id off len z,v,hs,h=>by simp[Aa.still] at hs
 | .map none,v,_,h=>h
 | .map (some id),v,hs,h=>by simp[Aa.still] at hs
 | .func fn f c,v,hs,h=>by obtain⟨fs,cs,hv,h1,h2⟩:=h;simp only[Aa.still,A7] at hs;exact⟨fs,cs,hv,AX.mem hi f _ hs.1 h1,AX.mem hi c _ hs.2 h2⟩
 | .nilFunc,v,_,h=>h
 | .iface t a,v,hs,h=>by obtain⟨u,hv,h1⟩:=h;exact⟨u,hv,BH.mem hi a u (by simpa[Aa.still] using hs) h1⟩
 | .nilIface,v,_,h=>h
 | .agg cs,v,hs,h=>by obtain⟨us,hv,h1,h2⟩:=h;exact⟨us,hv,AX.mem hi cs _ (by simpa[Aa.still] using hs) h1,h2⟩
 | .tuple vs,v,hs,h=>by obtain⟨us,hv,h1⟩:=h;exact⟨us,hv,AX.mem hi vs _ (by simpa[Aa.still] using hs) h1⟩
def AX.mem(hi:Hw U h w):∀(l:List Aa) (us:List Value),I9 l=true->AX U l us->AX (FX w) l us
 |[],us,_,h=>h
 |a::l,us,hs,h=>by obtain⟨u,Dq,hu,h1,h2⟩:=h;simp only[I9,A7] at hs;exact⟨u,Dq,hu,BH.mem hi a u hs.1 h1,AX.mem hi l Dq hs.2 h2⟩
def CQ.mem(hi:Hw U h w):∀(l:List Aa) (b o:Nat),I9 l=true->CQ U l b o->CQ (FX w) l b o
 |[],_,_,_,_=>trivial
 |a::l,b,o,hs,h=>by obtain⟨⟨u,hu,h1⟩,h2⟩:=h;simp only[I9,A7] at hs;obtain⟨p,q,_⟩:=hi.HW b o u hu;exact⟨⟨u,Tp p q,BH.mem hi a u hs.1 h1⟩,CQ.mem hi l b (o+1) hs.2 h2⟩
def EL.mem(hi:Hw U h w):∀(rs:List (List Aa)) (z b o:Nat),Mw rs=true->EL U rs z b o->EL (FX w) rs z b o
 |[],_,_,_,_,_=>trivial
 |r::rs,z,b,o,hs,h=>by simp only[Mw,A7] at hs;exact⟨h.1,CQ.mem hi r b o hs.1 h.2.1,EL.mem hi rs z b (o+z) hs.2 h.2.2⟩
end
def No(hi:Hw U h w){id g:Nat}{cs:List Aa}(hc:h[id]?=some (.cells cs))(hm:U.mu id=some g){j:Nat}{a:Aa}(ha:cs[j]?=some a):
  ∃u,w.cell? ⟨g,j,none⟩=some u/\u.oneCell'=true/\BH U a u:=by
 obtain⟨us,e,fr,d,_,c,b⟩:=hi.cells id cs hc g hm;obtain⟨u,hu,hr⟩:=c.get ha;have hj:us[j]?=some u:=by
  rw[Cg] at hu;split at hu;.simpa using hu
  .cases hu
 exact⟨u,by rw[cell_of_row w _ _ us e fr d];exact hj,b u (Cr hu),hr⟩
end
end Go.Am
