/- Lemmas -/
import Derived.Test.YtdbnpiefklklhaaGreatDoorH27
import Derived.Test.YtdbnpiefklklhaaGreatDoorH31
set_option linter.all false
namespace Go.Am
open Go
set_option maxRecDepth 100000
abbrev wm:Ty:= .st [.int .i64,.str,.bool,.str,.bool,.str,.bool,.bool,.sl UC,.bool,.str,.int .i32]
structure aDz(p:DH×Aa):Prop where
 v:Bb p.1.Au p.2
 r: -2147483648<=p.1.r/\p.1.r<=2147483647
 n:p.1.Au.length<=maxLen
def þ(r:List Aa)(h:X6 wm r):∃p:DH×Aa,r=B1 p.1 p.2/\aDz p:=by obtain⟨W,N,rfl,h1,h⟩:=CB h;obtain⟨V,M,rfl,h2,h⟩:=CB h;obtain⟨U,L,rfl,C,h⟩:=CB h;obtain⟨T,K,rfl,B,h⟩:=CB h;obtain⟨S,J,rfl,A,h⟩:=CB h;obtain⟨R,I,rfl,z,h⟩:=CB h;obtain⟨Q,H,rfl,y,h⟩:=CB h;obtain⟨P,G,rfl,x,h⟩:=CB h;obtain⟨O,F,rfl,b,h⟩:=CB h;obtain⟨ŀ,j,rfl,ZH,h⟩:=CB h;obtain⟨m,i,rfl,gU,h⟩:=CB h;obtain⟨k,g,rfl,e,h⟩:=CB h;obtain rfl:=Py h;obtain⟨s,rfl,_⟩:=KA h1;obtain⟨q,rfl⟩:=Lt h2;obtain⟨b3,rfl⟩:=JM C;obtain⟨o,rfl⟩:=Lt B;obtain⟨b5,rfl⟩:=JM A;obtain⟨n,rfl⟩:=Lt z;obtain⟨E,rfl⟩:=JM y;obtain⟨D,rfl⟩:=JM x;obtain⟨v,rfl,b⟩:=TN b;obtain⟨l,b,hl,_⟩:=XO SK b;obtain⟨f,rfl⟩:=JM ZH;obtain⟨c,rfl⟩:=Lt gU;obtain⟨d,rfl,a⟩:=KA e;refine⟨(⟨s,q,b3,o,b5,n,E,D,l,f,c,d⟩,v),rfl,b,?_,hl⟩;have w:IntKind.i32.min= -2147483648:=rfl;have u:IntKind.i32.max=2147483647:=rfl;simp[Lit.wf,w,u] at a;exact a
def wo{v:Aa}(h:nB wm v):∃p:DH×Aa,v= .agg (B1 p.1 p.2)/\aDz p:=by obtain⟨r,rfl,h⟩:=h;obtain⟨p,rfl,hp⟩:=þ r h;exact⟨p,rfl,hp⟩
def saB(l:List A3):Bool:=decide (ER l)
def h9B{v:Aa}{l:List A3}(h:Ai)(hv:Bb l v):B9 cx 12 [v] h (.bool (saB l)) h:=f9 hv h
section
variable{t:DH}{p:DH×Aa}{l:List (DH×Aa)}{v:Aa}
def lC(h:t.MA saB=true)(hr: -2147483648<=t.r/\t.r<=2147483647):t.Sm:=by unfold DH.MA at h;simp only[AN,B0] at h;exact⟨Ab,(Cq (p:=ER t.Au) h.2.2.2.2).MA,Ab,hr⟩
def fc(h:t.MA saB=true):t.JV.length<=AO:=by unfold DH.MA at h;simp only[AN,B0] at h;have:AO=140737488355328:=rfl;omega
end
end Go.Am
