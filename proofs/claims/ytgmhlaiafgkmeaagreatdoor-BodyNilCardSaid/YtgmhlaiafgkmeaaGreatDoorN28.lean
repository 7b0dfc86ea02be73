/- Lemmas -/
import Derived.Test.YtgmhlaiafgkmeaaGreatDoorN25
import Derived.Test.YtgmhlaiafgkmeaaGreatDoorN27
set_option linter.all false
section
namespace Go.Am
open Go
set_option maxRecDepth 100000
abbrev Vj:Ty:= .st [.int .i64,.str,.bool,.str,.bool,.str,.bool,.bool,.sl aA,.bool,.str,.int .i32]
structure qF(p:Jb×Aa):Prop where
 v:Ea p.1.CZ p.2
 r: -2147483648<=p.1.r/\p.1.r<=2147483647
 n:p.1.CZ.length<=maxLen
def Zn(r:List Aa)(h:NM Vj r):∃p:Jb×Aa,r=Cy p.1 p.2/\qF p:=by obtain⟨x1,y1,rfl,h1,h⟩:=Cf h;obtain⟨x2,y2,rfl,h2,h⟩:=Cf h;obtain⟨x3,y3,rfl,h3,h⟩:=Cf h;obtain⟨x4,y4,rfl,h4,h⟩:=Cf h;obtain⟨x5,y5,rfl,h5,h⟩:=Cf h;obtain⟨x6,y6,rfl,h6,h⟩:=Cf h;obtain⟨x7,y7,rfl,h7,h⟩:=Cf h;obtain⟨x8,y8,rfl,h8,h⟩:=Cf h;obtain⟨x9,y9,rfl,h9,h⟩:=Cf h;obtain⟨jy,jz,rfl,f_,h⟩:=Cf h;obtain⟨j_,ka,rfl,i5,h⟩:=Cf h;obtain⟨kb,kd,rfl,gd,h⟩:=Cf h;obtain rfl:=O6 h;obtain⟨n1,rfl,_⟩:=Lf h1;obtain⟨s2,rfl⟩:=If h2;obtain⟨b3,rfl⟩:=HW h3;obtain⟨s4,rfl⟩:=If h4;obtain⟨b5,rfl⟩:=HW h5;obtain⟨s6,rfl⟩:=If h6;obtain⟨b7,rfl⟩:=HW h7;obtain⟨b8,rfl⟩:=HW h8;obtain⟨v,rfl,h9⟩:=SS h9;obtain⟨l,h9,hl,_⟩:=eV Vd h9;obtain⟨gg,rfl⟩:=HW f_;obtain⟨gh,rfl⟩:=If i5;obtain⟨gi,rfl,yW⟩:=Lf gd;refine⟨(⟨n1,s2,b3,s4,b5,s6,b7,b8,l,gg,gh,gi⟩,v),rfl,h9,?_,hl⟩;have m1:IntKind.i32.min= -2147483648:=rfl;have m2:IntKind.i32.max=2147483647:=rfl;simp[Lit.wf,m1,m2] at yW;exact yW
def Vk{v:Aa}(h:Ub Vj v):∃p:Jb×Aa,v= .agg (Cy p.1 p.2)/\qF p:=by obtain⟨r,rfl,h⟩:=h;obtain⟨p,rfl,hp⟩:=Zn r h;exact⟨p,rfl,hp⟩
def qG(l:List Ce):Bool:=decide (DQ l)
def yX{v:Aa}{l:List Ce}(h:Ab)(hv:Ea l v):Fu cx 37 [v] h (.bool (qG l)) h:=f9 hv h
section
variable{t:Jb}{p:Jb×Aa}{l:List (Jb×Aa)}{v:Aa}
end
def O8:∀l,Le [Vj,.int .i64] l->Ev cx 7 l [] λr _=>r= .bool true:=by
 rintro _ ⟨v,_,rfl,ha,u,_,rfl,hb,rfl⟩;obtain⟨p,rfl,hp⟩:=Vk ha;obtain⟨q,rfl⟩:∃q,u= .int .i64 q:=by obtain⟨n,e,_⟩:=Lf (show NM (.int .i64) [u] from hb);exact⟨n,by simpa using e⟩
 by_cases hl:p.1.CZ.length<=1000000;.exact qB (sa:=qG) (λh hv=>yX h hv) N5 hp.v hl q []
 .have r0:=pR (sa:=qG) (λh hv=>yX h hv) hp.v [];have e:p.1.O7 qG=false:=by
   unfold Jb.O7;have:qG p.1.CZ=false:=D8 λh=>by have:=h.1;omega
   rw[this];simp
  rw[e] at r0;simp only[Cy] at r0;unfold Ev;rw[Z8,t7];by_cases k1:q<0;.simp only[Er,Nat.reduceLeDiff,↓reduceIte,Fj,Cy,k1,N5.AW rfl rfl];exact⟨_,rfl,rfl⟩
  by_cases k2:9<q;.simp only[Er,Nat.reduceLeDiff,↓reduceIte,Fj,Cy,k1,k2,N5.AW rfl rfl];exact⟨_,rfl,rfl⟩
  simp only[Er,Nat.reduceLeDiff,↓reduceIte,Fj,Cy,k1,k2,r0.call,N5.AW rfl rfl];exact⟨_,rfl,rfl⟩
end Go.Am
end
