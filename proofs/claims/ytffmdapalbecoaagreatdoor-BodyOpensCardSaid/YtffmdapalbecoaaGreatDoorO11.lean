/- Lemmas -/
import Derived.Test.YtffmdapalbecoaaGreatDoorO7
import Derived.Test.YtffmdapalbecoaaGreatDoorO8
set_option linter.all false
namespace Go.Am
open Go Go.RowKit
section
variable{U U':Gh}{h:Ah}{w w':World}
def HK.LW(hi:HK U h w)(hb:Below w.heap.size w w'):HK U h w'/\LQ U w U w':=by
 have xy:∀{b o v},U.IZ b o=some v->b<w.heap.size:=λ{b o v} hv=>D6 (hi.IZ b o v hv).1;have aIF:∀{id x b},h[id]?=some x->x≠ .CU->U.mu id=some b->b<w.heap.size:=λ{id x b} hx hd hm=>by obtain⟨b',p,q⟩:=hi.MR id x hx hd;rw[hm] at p;cases p;exact hi.Bu b _ q
 refine⟨⟨λb o v hv=>?_,hi.MR,λid cs hc b hm=>?_,λid es hc b hm=>?_,hi.mu,λb x hx=>JQ (hi.Bu b x hx) hb.size,λb n hn=>?_⟩,⟨.refl _,hb.size,hb.os,hb.tape,hb.output,λb hlt _=>⟨hb.block b hlt,rfl⟩⟩⟩;.obtain⟨p,q,r⟩:=hi.IZ b o v hv;exact⟨by rw[CX (hb.block b (xy hv))];exact p,q,r⟩
 .obtain⟨us,e,fr,p,q⟩:=hi.cells id cs hc b hm;exact⟨us,e,fr,by rw[hb.block b (aIF hc AH hm)];exact p,q⟩
 .obtain⟨DL,clock,p,q⟩:=hi.map id es hc b hm;exact⟨DL,clock,by rw[hb.block b (aIF hc AH hm)];exact p,q⟩
 .obtain⟨⟨us,e,fr,p,q⟩,r⟩:=hi.sz b n hn;exact⟨⟨us,e,fr,by rw[hb.block b (Bc.1 p).1];exact p,q⟩,r⟩
def rG(hb:Below w.heap.size w w'):(GW w).le (GW w'):=by refine⟨λb o v hv=>?_,λid b hm=>(by cases hm),λb n hn=>(by cases hn)⟩;simp only[GW,RT] at hv⊢;exact⟨by rw[CX (hb.block b (D6 hv.1))];exact hv.1,hv.2⟩
mutual
def BT.mem(hi:HK U h w):∀(a:Aa) (v:Value),a.still=true->BT U a v->BT (GW w) a v
 | .bool b,v,_,h=>h
 | .int k n,v,_,h=>h
 | .str s,v,_,h=>h
 | .ptr none,v,_,h=>h
 | .ptr (some (id,o)),v,hs,h=>by simp[Aa.still] at hs
 | .CH cs,v,hs,h=>by obtain⟨b,o,hv,hm⟩:=h;exact⟨b,o,hv,Df.mem hi cs b o (by simpa[Aa.still] using hs) hm⟩
 | .sl z AD,v,hs,h=>by obtain⟨d,cap,hv,hc,hp,hm⟩:=h;exact⟨d,cap,hv,hc,hp,FZ.mem hi AD z _ _ (by simpa[Aa.still] using hs) hm⟩
 | .slnil,v,_,h=>h
 | .GI _,v,_,h=>h
 | .CC id off len z,v,hs,h=>by simp[Aa.still] at hs
 | .map none,v,_,h=>h
 | .map (some id),v,hs,h=>by simp[Aa.still] at hs
 | .func fn f c,v,hs,h=>by obtain⟨fs,cs,hv,h1,h2⟩:=h;simp only[Aa.still,Bq] at hs;exact⟨fs,cs,hv,Bp.mem hi f _ hs.1 h1,Bp.mem hi c _ hs.2 h2⟩
 | .nilFunc,v,_,h=>h
 | .iface t a,v,hs,h=>by obtain⟨u,hv,h1⟩:=h;exact⟨u,hv,BT.mem hi a u (by simpa[Aa.still] using hs) h1⟩
 | .nilIface,v,_,h=>h
 | .agg cs,v,hs,h=>by obtain⟨us,hv,h1,h2⟩:=h;exact⟨us,hv,Bp.mem hi cs _ (by simpa[Aa.still] using hs) h1,h2⟩
 | .tuple vs,v,hs,h=>by obtain⟨us,hv,h1⟩:=h;exact⟨us,hv,Bp.mem hi vs _ (by simpa[Aa.still] using hs) h1⟩
def Bp.mem(hi:HK U h w):∀(l:List Aa) (us:List Value),Ka l=true->Bp U l us->Bp (GW w) l us
 |[],us,_,h=>h
 |a::l,us,hs,h=>by obtain⟨u,D4,hu,h1,h2⟩:=h;simp only[Ka,Bq] at hs;exact⟨u,D4,hu,BT.mem hi a u hs.1 h1,Bp.mem hi l D4 hs.2 h2⟩
def Df.mem(hi:HK U h w):∀(l:List Aa) (b o:Nat),Ka l=true->Df U l b o->Df (GW w) l b o
 |[],_,_,_,_=>trivial
 |a::l,b,o,hs,h=>by obtain⟨⟨u,hu,h1⟩,h2⟩:=h;simp only[Ka,Bq] at hs;obtain⟨p,q,_⟩:=hi.IZ b o u hu;exact⟨⟨u,Vd p q,BT.mem hi a u hs.1 h1⟩,Df.mem hi l b (o+1) hs.2 h2⟩
def FZ.mem(hi:HK U h w):∀(rs:List (List Aa)) (z b o:Nat),NI rs=true->FZ U rs z b o->FZ (GW w) rs z b o
 |[],_,_,_,_,_=>trivial
 |r::rs,z,b,o,hs,h=>by simp only[NI,Bq] at hs;exact⟨h.1,Df.mem hi r b o hs.1 h.2.1,FZ.mem hi rs z b (o+z) hs.2 h.2.2⟩
end
def Ot(hi:HK U h w){id g:Nat}{cs:List Aa}(hc:h[id]?=some (.cells cs))(hm:U.mu id=some g){j:Nat}{a:Aa}(ha:cs[j]?=some a):
  ∃u,w.cell? ⟨g,j,none⟩=some u/\u.oneCell'=true/\BT U a u:=by
 obtain⟨us,e,fr,d,_,c,b⟩:=hi.cells id cs hc g hm;obtain⟨u,hu,hr⟩:=c.get ha;have hj:us[j]?=some u:=by
  rw[Ci] at hu;split at hu;.simpa using hu
  .cases hu
 exact⟨u,by rw[cell_of_row w _ _ us e fr d];exact hj,b u (CV hu),hr⟩
end
end Go.Am
