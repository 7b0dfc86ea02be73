/- Lemmas -/
import Derived.Test.YtemolpggcmbieaaGreatDoorZ27
import Derived.Test.YtemolpggcmbieaaGreatDoorZ31
set_option linter.all false
namespace Go.Am
open Go
set_option maxRecDepth 100000
abbrev we:Ty:= .st [.int .i64,.str,.bool,.str,.bool,.str,.bool,.bool,.sl yD,.bool,.str,.int .i32]
structure aDG(p:DU×Aa):Prop where
 v:A8 p.1.Av p.2
 r: -2147483648<=p.1.r/\p.1.r<=2147483647
 n:p.1.Av.length<=maxLen
def Ă(r:List Aa)(h:Yn we r):∃p:DU×Aa,r=B2 p.1 p.2/\aDG p:=by obtain⟨W,N,rfl,h1,h⟩:=CE h;obtain⟨V,M,rfl,h2,h⟩:=CE h;obtain⟨U,L,rfl,C,h⟩:=CE h;obtain⟨T,K,rfl,B,h⟩:=CE h;obtain⟨S,J,rfl,A,h⟩:=CE h;obtain⟨R,I,rfl,z,h⟩:=CE h;obtain⟨Q,H,rfl,y,h⟩:=CE h;obtain⟨P,G,rfl,x,h⟩:=CE h;obtain⟨O,F,rfl,b,h⟩:=CE h;obtain⟨Ń,j,rfl,YE,h⟩:=CE h;obtain⟨m,i,rfl,bE,h⟩:=CE h;obtain⟨k,g,rfl,e,h⟩:=CE h;obtain rfl:=PF h;obtain⟨s,rfl,_⟩:=KL h1;obtain⟨q,rfl⟩:=Ly h2;obtain⟨b3,rfl⟩:=JV C;obtain⟨o,rfl⟩:=Ly B;obtain⟨b5,rfl⟩:=JV A;obtain⟨n,rfl⟩:=Ly z;obtain⟨E,rfl⟩:=JV y;obtain⟨D,rfl⟩:=JV x;obtain⟨v,rfl,b⟩:=TN b;obtain⟨l,b,hl,_⟩:=eA XR b;obtain⟨f,rfl⟩:=JV YE;obtain⟨c,rfl⟩:=Ly bE;obtain⟨d,rfl,a⟩:=KL e;refine⟨(⟨s,q,b3,o,b5,n,E,D,l,f,c,d⟩,v),rfl,b,?_,hl⟩;have w:IntKind.i32.min= -2147483648:=rfl;have u:IntKind.i32.max=2147483647:=rfl;simp[Lit.wf,w,u] at a;exact a
def wg{v:Aa}(h:mX we v):∃p:DU×Aa,v= .agg (B2 p.1 p.2)/\aDG p:=by obtain⟨r,rfl,h⟩:=h;obtain⟨p,rfl,hp⟩:=Ă r h;exact⟨p,rfl,hp⟩
def saB(l:List A7):Bool:=decide (E8 l)
def h9B{v:Aa}{l:List A7}(h:Ah)(hv:A8 l v):Ca cx 12 [v] h (.bool (saB l)) h:=f9 hv h
section
variable{t:DU}{p:DU×Aa}{l:List (DU×Aa)}{v:Aa}
def wh(h:t.OF saB=true)(hr: -2147483648<=t.r/\t.r<=2147483647):t.Sm:=by unfold DU.OF at h;simp only[AO,B4] at h;exact⟨Ac,(HE (p:=E8 t.Av) h.2.2.2.2).OF,Ac,hr⟩
def fg(h:t.OF saB=true):t.JN.length<=AK:=by unfold DU.OF at h;simp only[AO,B4] at h;have:AK=140737488355328:=rfl;omega
end
end Go.Am
