/- Lemmas -/
import Derived.Test.YtdbnpiefklklhaaGreatDoorH7
import Derived.Test.YtdbnpiefklklhaaGreatDoorH8
set_option linter.all false
namespace Go.Am
open Go Go.RowKit
section
variable{U U':Gh}{h:Ai}{w w':World}
def Hj.KG(hi:Hj U h w)(hb:Below w.heap.size w w'):Hj U h w'/\Lx U w U w':=by
 have jf:∀{b o v},U.HU b o=some v->b<w.heap.size:=λ{b o v} hv=>Dn (hi.HU b o v hv).1;have aEV:∀{id x b},h[id]?=some x->x≠ .DF->U.mu id=some b->b<w.heap.size:=λ{id x b} hx hd hm=>by obtain⟨b',p,q⟩:=hi.Md id x hx hd;rw[hm] at p;cases p;exact hi.BK b _ q
 refine⟨⟨λb o v hv=>?_,hi.Md,λid cs hc b hm=>?_,λid es hc b hm=>?_,hi.mu,λb x hx=>IH (hi.BK b x hx) hb.size,λb n hn=>?_⟩,⟨.refl _,hb.size,hb.os,hb.tape,hb.output,λb hlt _=>⟨hb.block b hlt,rfl⟩⟩⟩;.obtain⟨p,q,r⟩:=hi.HU b o v hv;exact⟨by rw[CF (hb.block b (jf hv))];exact p,q,r⟩
 .obtain⟨us,e,fr,p,q⟩:=hi.cells id cs hc b hm;exact⟨us,e,fr,by rw[hb.block b (aEV hc Ax hm)];exact p,q⟩
 .obtain⟨C7,clock,p,q⟩:=hi.map id es hc b hm;exact⟨C7,clock,by rw[hb.block b (aEV hc Ax hm)];exact p,q⟩
 .obtain⟨⟨us,e,fr,p,q⟩,r⟩:=hi.sz b n hn;exact⟨⟨us,e,fr,by rw[hb.block b (AL.1 p).1];exact p,q⟩,r⟩
def gP(hb:Below w.heap.size w w'):(FQ w).le (FQ w'):=by refine⟨λb o v hv=>?_,λid b hm=>(by cases hm),λb n hn=>(by cases hn)⟩;simp only[FQ,Qn] at hv⊢;exact⟨by rw[CF (hb.block b (Dn hv.1))];exact hv.1,hv.2⟩
mutual
def BF.mem(hi:Hj U h w):∀(a:Aa) (v:Value),a.still=true->BF U a v->BF (FQ w) a v
 | .bool b,v,_,h=>h
 | .int k n,v,_,h=>h
 | .str s,v,_,h=>h
 | .ptr none,v,_,h=>h
 | .ptr (some (id,o)),v,hs,h=>by simp[Aa.still] at hs
 | .BR cs,v,hs,h=>by obtain⟨b,o,hv,hm⟩:=h;exact⟨b,o,hv,CQ.mem hi cs b o (by simpa[Aa.still] using hs) hm⟩
 | .sl z Aw,v,hs,h=>by obtain⟨d,cap,hv,hc,hp,hm⟩:=h;exact⟨d,cap,hv,hc,hp,EA.mem hi Aw z _ _ (by simpa[Aa.still] using hs) hm⟩
 | .slnil,v,_,h=>h
 | .H5 _,v,_,h=>h
 | .C3 id off len z,v,hs,h=>by simp[Aa.still] at hs
 | .map none,v,_,h=>h
 | .map (some id),v,hs,h=>by simp[Aa.still] at hs
 | .func fn f c,v,hs,h=>by obtain⟨fs,cs,hv,h1,h2⟩:=h;simp only[Aa.still,AN] at hs;exact⟨fs,cs,hv,AW.mem hi f _ hs.1 h1,AW.mem hi c _ hs.2 h2⟩
 | .nilFunc,v,_,h=>h
 | .iface t a,v,hs,h=>by obtain⟨u,hv,h1⟩:=h;exact⟨u,hv,BF.mem hi a u (by simpa[Aa.still] using hs) h1⟩
 | .nilIface,v,_,h=>h
 | .agg cs,v,hs,h=>by obtain⟨us,hv,h1,h2⟩:=h;exact⟨us,hv,AW.mem hi cs _ (by simpa[Aa.still] using hs) h1,h2⟩
 | .tuple vs,v,hs,h=>by obtain⟨us,hv,h1⟩:=h;exact⟨us,hv,AW.mem hi vs _ (by simpa[Aa.still] using hs) h1⟩
def AW.mem(hi:Hj U h w):∀(l:List Aa) (us:List Value),I6 l=true->AW U l us->AW (FQ w) l us
 |[],us,_,h=>h
 |a::l,us,hs,h=>by obtain⟨u,Dk,hu,h1,h2⟩:=h;simp only[I6,AN] at hs;exact⟨u,Dk,hu,BF.mem hi a u hs.1 h1,AW.mem hi l Dk hs.2 h2⟩
def CQ.mem(hi:Hj U h w):∀(l:List Aa) (b o:Nat),I6 l=true->CQ U l b o->CQ (FQ w) l b o
 |[],_,_,_,_=>trivial
 |a::l,b,o,hs,h=>by obtain⟨⟨u,hu,h1⟩,h2⟩:=h;simp only[I6,AN] at hs;obtain⟨p,q,_⟩:=hi.HU b o u hu;exact⟨⟨u,To p q,BF.mem hi a u hs.1 h1⟩,CQ.mem hi l b (o+1) hs.2 h2⟩
def EA.mem(hi:Hj U h w):∀(rs:List (List Aa)) (z b o:Nat),Mq rs=true->EA U rs z b o->EA (FQ w) rs z b o
 |[],_,_,_,_,_=>trivial
 |r::rs,z,b,o,hs,h=>by simp only[Mq,AN] at hs;exact⟨h.1,CQ.mem hi r b o hs.1 h.2.1,EA.mem hi rs z b (o+z) hs.2 h.2.2⟩
end
def Nc(hi:Hj U h w){id g:Nat}{cs:List Aa}(hc:h[id]?=some (.cells cs))(hm:U.mu id=some g){j:Nat}{a:Aa}(ha:cs[j]?=some a):
  ∃u,w.cell? ⟨g,j,none⟩=some u/\u.oneCell'=true/\BF U a u:=by
 obtain⟨us,e,fr,p1,_,p2,b⟩:=hi.cells id cs hc g hm;obtain⟨u,hu,hr⟩:=p2.get ha;have hj:us[j]?=some u:=by
  rw[Cj] at hu;split at hu;.simpa using hu
  .cases hu
 exact⟨u,by rw[cell_of_row w _ _ us e fr p1];exact hj,b u (Ct hu),hr⟩
end
end Go.Am
