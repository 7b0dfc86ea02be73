/- Lemmas -/
import Derived.Test.YtemolpggcmbieaaGreatDoorZ7
import Derived.Test.YtemolpggcmbieaaGreatDoorZ8
set_option linter.all false
namespace Go.Am
open Go Go.RowKit
section
variable{U U':Gh}{h:Ah}{w w':World}
def Hi.KU(hi:Hi U h w)(hb:Below w.heap.size w w'):Hi U h w'/\LB U w U w':=by
 have je:∀{b o v},U.HW b o=some v->b<w.heap.size:=λ{b o v} hv=>Du (hi.HW b o v hv).1;have aEX:∀{id x b},h[id]?=some x->x≠ .Ds->U.mu id=some b->b<w.heap.size:=λ{id x b} hx hd hm=>by obtain⟨b',p,q⟩:=hi.Me id x hx hd;rw[hm] at p;cases p;exact hi.BM b _ q
 refine⟨⟨λb o v hv=>?_,hi.Me,λid cs hc b hm=>?_,λid es hc b hm=>?_,hi.mu,λb x hx=>IK (hi.BM b x hx) hb.size,λb n hn=>?_⟩,⟨.refl _,hb.size,hb.os,hb.tape,hb.output,λb hlt _=>⟨hb.block b hlt,rfl⟩⟩⟩;.obtain⟨p,q,r⟩:=hi.HW b o v hv;exact⟨by rw[CI (hb.block b (je hv))];exact p,q,r⟩
 .obtain⟨us,e,fr,p,q⟩:=hi.cells id cs hc b hm;exact⟨us,e,fr,by rw[hb.block b (aEX hc Ax hm)];exact p,q⟩
 .obtain⟨C5,clock,p,q⟩:=hi.map id es hc b hm;exact⟨C5,clock,by rw[hb.block b (aEX hc Ax hm)];exact p,q⟩
 .obtain⟨⟨us,e,fr,p,q⟩,r⟩:=hi.sz b n hn;exact⟨⟨us,e,fr,by rw[hb.block b (AN.1 p).1];exact p,q⟩,r⟩
def gS(hb:Below w.heap.size w w'):(F0 w).le (F0 w'):=by refine⟨λb o v hv=>?_,λid b hm=>(by cases hm),λb n hn=>(by cases hn)⟩;simp only[F0,Qq] at hv⊢;exact⟨by rw[CI (hb.block b (Du hv.1))];exact hv.1,hv.2⟩
mutual
def BI.mem(hi:Hi U h w):∀(a:Aa) (v:Value),a.still=true->BI U a v->BI (F0 w) a v
 | .bool b,v,_,h=>h
 | .int k n,v,_,h=>h
 | .str s,v,_,h=>h
 | .ptr none,v,_,h=>h
 | .ptr (some (id,o)),v,hs,h=>by simp[Aa.still] at hs
 | .BW cs,v,hs,h=>by obtain⟨b,o,hv,hm⟩:=h;exact⟨b,o,hv,CP.mem hi cs b o (by simpa[Aa.still] using hs) hm⟩
 | .sl z Aw,v,hs,h=>by obtain⟨d,cap,hv,hc,hp,hm⟩:=h;exact⟨d,cap,hv,hc,hp,EG.mem hi Aw z _ _ (by simpa[Aa.still] using hs) hm⟩
 | .slnil,v,_,h=>h
 | .EC _,v,_,h=>h
 | .CW id off len z,v,hs,h=>by simp[Aa.still] at hs
 | .map none,v,_,h=>h
 | .map (some id),v,hs,h=>by simp[Aa.still] at hs
 | .func fn f c,v,hs,h=>by obtain⟨fs,cs,hv,h1,h2⟩:=h;simp only[Aa.still,AO] at hs;exact⟨fs,cs,hv,AV.mem hi f _ hs.1 h1,AV.mem hi c _ hs.2 h2⟩
 | .nilFunc,v,_,h=>h
 | .iface t a,v,hs,h=>by obtain⟨u,hv,h1⟩:=h;exact⟨u,hv,BI.mem hi a u (by simpa[Aa.still] using hs) h1⟩
 | .nilIface,v,_,h=>h
 | .agg cs,v,hs,h=>by obtain⟨us,hv,h1,h2⟩:=h;exact⟨us,hv,AV.mem hi cs _ (by simpa[Aa.still] using hs) h1,h2⟩
 | .tuple vs,v,hs,h=>by obtain⟨us,hv,h1⟩:=h;exact⟨us,hv,AV.mem hi vs _ (by simpa[Aa.still] using hs) h1⟩
def AV.mem(hi:Hi U h w):∀(l:List Aa) (us:List Value),Jc l=true->AV U l us->AV (F0 w) l us
 |[],us,_,h=>h
 |a::l,us,hs,h=>by obtain⟨u,Dq,hu,h1,h2⟩:=h;simp only[Jc,AO] at hs;exact⟨u,Dq,hu,BI.mem hi a u hs.1 h1,AV.mem hi l Dq hs.2 h2⟩
def CP.mem(hi:Hi U h w):∀(l:List Aa) (b o:Nat),Jc l=true->CP U l b o->CP (F0 w) l b o
 |[],_,_,_,_=>trivial
 |a::l,b,o,hs,h=>by obtain⟨⟨u,hu,h1⟩,h2⟩:=h;simp only[Jc,AO] at hs;obtain⟨p,q,_⟩:=hi.HW b o u hu;exact⟨⟨u,Tk p q,BI.mem hi a u hs.1 h1⟩,CP.mem hi l b (o+1) hs.2 h2⟩
def EG.mem(hi:Hi U h w):∀(rs:List (List Aa)) (z b o:Nat),Mt rs=true->EG U rs z b o->EG (F0 w) rs z b o
 |[],_,_,_,_,_=>trivial
 |r::rs,z,b,o,hs,h=>by simp only[Mt,AO] at hs;exact⟨h.1,CP.mem hi r b o hs.1 h.2.1,EG.mem hi rs z b (o+z) hs.2 h.2.2⟩
end
def Nc(hi:Hi U h w){id g:Nat}{cs:List Aa}(hc:h[id]?=some (.cells cs))(hm:U.mu id=some g){j:Nat}{a:Aa}(ha:cs[j]?=some a):
  ∃u,w.cell? ⟨g,j,none⟩=some u/\u.oneCell'=true/\BI U a u:=by
 obtain⟨us,e,fr,p1,_,p2,b⟩:=hi.cells id cs hc g hm;obtain⟨u,hu,hr⟩:=p2.get ha;have hj:us[j]?=some u:=by
  rw[Cn] at hu;split at hu;.simpa using hu
  .cases hu
 exact⟨u,by rw[cell_of_row w _ _ us e fr p1];exact hj,b u (Cv hu),hr⟩
end
end Go.Am
