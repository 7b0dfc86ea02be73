/- Lemmas -/
import Derived.Test.YtbkijlifflhdiaaGreatDoorV7
import Derived.Test.YtbkijlifflhdiaaGreatDoorV8
set_option linter.all false
namespace Go.Am
open Go Go.RowKit
section
variable{U U':Gh}{h:Ag}{w w':World}
def Fg.GN(hi:Fg U h w)(hb:Below w.heap.size w w'):Fg U h w'/\IB U w U w':=by
 have pR:∀{b o v},U.GA b o=some v->b<w.heap.size:=λ{b o v} hv=>Cr (hi.GA b o v hv).1;have yr:∀{id x b},h[id]?=some x->x≠ .Ec->U.mu id=some b->b<w.heap.size:=λ{id x b} hx hd hm=>by obtain⟨b',p,q⟩:=hi.Kd id x hx hd;rw[hm] at p;cases p;exact hi.Bn b _ q
 refine⟨⟨λb o v hv=>?_,hi.Kd,λid cs hc b hm=>?_,λid es hc b hm=>?_,hi.mu,λb x hx=>Dm (hi.Bn b x hx) hb.size,λb n hn=>?_⟩,⟨.refl _,hb.size,hb.os,hb.tape,hb.output,λb hlt _=>⟨hb.block b hlt,rfl⟩⟩⟩;.obtain⟨p,q,r⟩:=hi.GA b o v hv;exact⟨by rw[BI (hb.block b (pR hv))];exact p,q,r⟩
 .obtain⟨us,e,fr,p,q⟩:=hi.cells id cs hc b hm;exact⟨us,e,fr,by rw[hb.block b (yr hc Au hm)];exact p,q⟩
 .obtain⟨C3,clock,p,q⟩:=hi.map id es hc b hm;exact⟨C3,clock,by rw[hb.block b (yr hc Au hm)];exact p,q⟩
 .obtain⟨⟨us,e,fr,p,q⟩,r⟩:=hi.sz b n hn;exact⟨⟨us,e,fr,by rw[hb.block b (As.1 p).1];exact p,q⟩,r⟩
def YH(hb:Below w.heap.size w w'):(E3 w).le (E3 w'):=by refine⟨λb o v hv=>?_,λid b hm=>(by cases hm),λb n hn=>(by cases hn)⟩;simp only[E3,NU] at hv⊢;exact⟨by rw[BI (hb.block b (Cr hv.1))];exact hv.1,hv.2⟩
mutual
def Bp.mem(hi:Fg U h w):∀(a:Aa) (v:Value),a.still=true->Bp U a v->Bp (E3 w) a v
 | .bool b,v,_,h=>h
 | .int k n,v,_,h=>h
 | .str s,v,_,h=>h
 | .ptr none,v,_,h=>h
 | .ptr (some (id,o)),v,hs,h=>by simp[Aa.still] at hs
 | .Cb cs,v,hs,h=>by obtain⟨b,o,hv,hm⟩:=h;exact⟨b,o,hv,Co.mem hi cs b o (by simpa[Aa.still] using hs) hm⟩
 | .sl z An,v,hs,h=>by obtain⟨ad,cap,hv,hc,hp,hm⟩:=h;exact⟨ad,cap,hv,hc,hp,DY.mem hi An z _ _ (by simpa[Aa.still] using hs) hm⟩
 | .slnil,v,_,h=>h
 | .EV _,v,_,h=>h
 | .CG id off len z,v,hs,h=>by simp[Aa.still] at hs
 | .map none,v,_,h=>h
 | .map (some id),v,hs,h=>by simp[Aa.still] at hs
 | .func fn f c,v,hs,h=>by obtain⟨fs,cs,hv,h1,h2⟩:=h;simp only[Aa.still,Bi] at hs;exact⟨fs,cs,hv,AK.mem hi f _ hs.1 h1,AK.mem hi c _ hs.2 h2⟩
 | .nilFunc,v,_,h=>h
 | .iface t a,v,hs,h=>by obtain⟨u,hv,h1⟩:=h;exact⟨u,hv,Bp.mem hi a u (by simpa[Aa.still] using hs) h1⟩
 | .nilIface,v,_,h=>h
 | .agg cs,v,hs,h=>by obtain⟨us,hv,h1,h2⟩:=h;exact⟨us,hv,AK.mem hi cs _ (by simpa[Aa.still] using hs) h1,h2⟩
 | .tuple vs,v,hs,h=>by obtain⟨us,hv,h1⟩:=h;exact⟨us,hv,AK.mem hi vs _ (by simpa[Aa.still] using hs) h1⟩
def AK.mem(hi:Fg U h w):∀(l:List Aa) (us:List Value),HS l=true->AK U l us->AK (E3 w) l us
 |[],us,_,h=>h
 |a::l,us,hs,h=>by obtain⟨u,CS,hu,h1,h2⟩:=h;simp only[HS,Bi] at hs;exact⟨u,CS,hu,Bp.mem hi a u hs.1 h1,AK.mem hi l CS hs.2 h2⟩
def Co.mem(hi:Fg U h w):∀(l:List Aa) (b o:Nat),HS l=true->Co U l b o->Co (E3 w) l b o
 |[],_,_,_,_=>trivial
 |a::l,b,o,hs,h=>by obtain⟨⟨u,hu,h1⟩,h2⟩:=h;simp only[HS,Bi] at hs;obtain⟨p,q,_⟩:=hi.GA b o u hu;exact⟨⟨u,Ql p q,Bp.mem hi a u hs.1 h1⟩,Co.mem hi l b (o+1) hs.2 h2⟩
def DY.mem(hi:Fg U h w):∀(rs:List (List Aa)) (z b o:Nat),KT rs=true->DY U rs z b o->DY (E3 w) rs z b o
 |[],_,_,_,_,_=>trivial
 |r::rs,z,b,o,hs,h=>by simp only[KT,Bi] at hs;exact⟨h.1,Co.mem hi r b o hs.1 h.2.1,DY.mem hi rs z b (o+z) hs.2 h.2.2⟩
end
def H5(hi:Fg U h w){id g:Nat}{cs:List Aa}(hc:h[id]?=some (.cells cs))(hm:U.mu id=some g){j:Nat}{a:Aa}(ha:cs[j]?=some a):
  ∃u,w.cell? ⟨g,j,none⟩=some u/\u.oneCell'=true/\Bp U a u:=by
 obtain⟨us,e,fr,d,_,c,b⟩:=hi.cells id cs hc g hm;obtain⟨u,hu,hr⟩:=c.get ha;have hj:us[j]?=some u:=by
  rw[BV] at hu;split at hu;.simpa using hu
  .cases hu
 exact⟨u,by rw[cell_of_row w _ _ us e fr d];exact hj,b u (B6 hu),hr⟩
end
end Go.Am
