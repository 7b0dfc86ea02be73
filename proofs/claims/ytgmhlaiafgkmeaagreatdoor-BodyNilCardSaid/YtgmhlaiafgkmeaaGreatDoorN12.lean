/- Lemmas -/
import Derived.Test.YtgmhlaiafgkmeaaGreatDoorN8
import Derived.Test.YtgmhlaiafgkmeaaGreatDoorN9
set_option linter.all false
namespace Go.Am
open Go Go.RowKit
section
variable{U U':Gh}{h:Ab}{w w':World}
def Dp.FG(hi:Dp U h w)(hb:Below w.heap.size w w'):Dp U h w'/\FC U w U w':=by
 have Tu:∀{b o v},U.DI b o=some v->b<w.heap.size:=λ{b o v} hv=>BB (hi.DI b o v hv).1;have iR:∀{id x b},h[id]?=some x->x≠ .Ec->U.mu id=some b->b<w.heap.size:=λ{id x b} hx hd hm=>by obtain⟨b',p,q⟩:=hi.FV id x hx hd;rw[hm] at p;cases p;exact hi.A5 b _ q
 refine⟨⟨λb o v hv=>?_,hi.FV,λid cs hc b hm=>?_,λid es hc b hm=>?_,hi.mu,λb x hx=>HX (hi.A5 b x hx) hb.size,λb n hn=>?_⟩,⟨.refl _,hb.size,hb.os,hb.tape,hb.output,λb hlt _=>⟨hb.block b hlt,rfl⟩⟩⟩;.obtain⟨p,q,r⟩:=hi.DI b o v hv;exact⟨by rw[AV (hb.block b (Tu hv))];exact p,q,r⟩
 .obtain⟨us,e,fr,p,q⟩:=hi.cells id cs hc b hm;exact⟨us,e,fr,by rw[hb.block b (iR hc (by simp) hm)];exact p,q⟩
 .obtain⟨C3,clock,p,q⟩:=hi.map id es hc b hm;exact⟨C3,clock,by rw[hb.block b (iR hc (by simp) hm)];exact p,q⟩
 .obtain⟨⟨us,e,fr,p,q⟩,r⟩:=hi.sz b n hn;exact⟨⟨us,e,fr,by rw[hb.block b (Ae.1 p).1];exact p,q⟩,r⟩
def OL(hb:Below w.heap.size w w'):(CK w).le (CK w'):=by refine⟨λb o v hv=>?_,λid b hm=>(by cases hm),λb n hn=>(by cases hn)⟩;simp only[CK,Ij] at hv⊢;exact⟨by rw[AV (hb.block b (BB hv.1))];exact hv.1,hv.2⟩
mutual
def Au.mem(hi:Dp U h w):∀(a:Aa) (v:Value),a.still=true->Au U a v->Au (CK w) a v
 | .bool b,v,_,h=>h
 | .int k n,v,_,h=>h
 | .str s,v,_,h=>h
 | .ptr none,v,_,h=>h
 | .ptr (some (id,o)),v,hs,h=>by simp[Aa.still] at hs
 | .A9 cs,v,hs,h=>by obtain⟨b,o,hv,hm⟩:=h;exact⟨b,o,hv,Bb.mem hi cs b o (by simpa[Aa.still] using hs) hm⟩
 | .sl z Ac,v,hs,h=>by obtain⟨ad,cap,hv,hc,hp,hm⟩:=h;exact⟨ad,cap,hv,hc,hp,B3.mem hi Ac z _ _ (by simpa[Aa.still] using hs) hm⟩
 | .slnil,v,_,h=>h
 | .DU _,v,_,h=>h
 | .EG id off len z,v,hs,h=>by simp[Aa.still] at hs
 | .map none,v,_,h=>h
 | .map (some id),v,hs,h=>by simp[Aa.still] at hs
 | .func fn f c,v,hs,h=>by obtain⟨fs,cs,hv,h1,h2⟩:=h;simp only[Aa.still,Ao] at hs;exact⟨fs,cs,hv,Ai.mem hi f _ hs.1 h1,Ai.mem hi c _ hs.2 h2⟩
 | .nilFunc,v,_,h=>h
 | .iface t a,v,hs,h=>by obtain⟨u,hv,h1⟩:=h;exact⟨u,hv,Au.mem hi a u (by simpa[Aa.still] using hs) h1⟩
 | .nilIface,v,_,h=>h
 | .agg cs,v,hs,h=>by obtain⟨us,hv,h1,h2⟩:=h;exact⟨us,hv,Ai.mem hi cs _ (by simpa[Aa.still] using hs) h1,h2⟩
 | .tuple vs,v,hs,h=>by obtain⟨us,hv,h1⟩:=h;exact⟨us,hv,Ai.mem hi vs _ (by simpa[Aa.still] using hs) h1⟩
def Ai.mem(hi:Dp U h w):∀(l:List Aa) (us:List Value),Eg l=true->Ai U l us->Ai (CK w) l us
 |[],us,_,h=>h
 |a::l,us,hs,h=>by obtain⟨u,By,hu,h1,h2⟩:=h;simp only[Eg,Ao] at hs;exact⟨u,By,hu,Au.mem hi a u hs.1 h1,Ai.mem hi l By hs.2 h2⟩
def Bb.mem(hi:Dp U h w):∀(l:List Aa) (b o:Nat),Eg l=true->Bb U l b o->Bb (CK w) l b o
 |[],_,_,_,_=>trivial
 |a::l,b,o,hs,h=>by obtain⟨⟨u,hu,h1⟩,h2⟩:=h;simp only[Eg,Ao] at hs;obtain⟨p,q,_⟩:=hi.DI b o u hu;exact⟨⟨u,Ka p q,Au.mem hi a u hs.1 h1⟩,Bb.mem hi l b (o+1) hs.2 h2⟩
def B3.mem(hi:Dp U h w):∀(rs:List (List Aa)) (z b o:Nat),F7 rs=true->B3 U rs z b o->B3 (CK w) rs z b o
 |[],_,_,_,_,_=>trivial
 |r::rs,z,b,o,hs,h=>by simp only[F7,Ao] at hs;exact⟨h.1,Bb.mem hi r b o hs.1 h.2.1,B3.mem hi rs z b (o+z) hs.2 h.2.2⟩
end
def GA(hi:Dp U h w){id g:Nat}{cs:List Aa}(hc:h[id]?=some (.cells cs))(hm:U.mu id=some g){j:Nat}{a:Aa}(ha:cs[j]?=some a):
  ∃u,w.cell? ⟨g,j,none⟩=some u/\u.oneCell'=true/\Au U a u:=by
 obtain⟨us,e,fr,p1,_,p2,p3⟩:=hi.cells id cs hc g hm;obtain⟨u,hu,hr⟩:=p2.get ha;have hj:us[j]?=some u:=by
  rw[A0] at hu;split at hu;.simpa using hu
  .cases hu
 exact⟨u,by rw[cell_of_row w _ _ us e fr p1];exact hj,p3 u (AT hu),hr⟩
end
end Go.Am
