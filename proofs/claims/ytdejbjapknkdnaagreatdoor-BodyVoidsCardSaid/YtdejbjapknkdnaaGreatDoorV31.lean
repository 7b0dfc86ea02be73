/- Lemmas -/
import Derived.Test.YtdejbjapknkdnaaGreatDoorV26
import Derived.Test.YtdejbjapknkdnaaGreatDoorV30
set_option linter.all false
namespace Go.Am
open Go
set_option maxRecDepth 100000
abbrev SB:Ty:= .st [.int .i64,.str,.bool,.str,.bool,.str,.bool,.bool,.sl YQ,.bool,.str,.int .i32]
structure aAD(p:Dv×Aa):Prop where
 v:Bj p.1.Aq p.2
 r: -2147483648<=p.1.r/\p.1.r<=2147483647
 n:p.1.Aq.length<=maxLen
def aAE(r:List Aa)(h:Zj SB r):∃p:Dv×Aa,r=Ct p.1 p.2/\aAD p:=by obtain⟨Y,P,rfl,h1,h⟩:=Fb h;obtain⟨X,O,rfl,h2,h⟩:=Fb h;obtain⟨W,N,rfl,h3,h⟩:=Fb h;obtain⟨V,M,rfl,C,h⟩:=Fb h;obtain⟨U,L,rfl,B,h⟩:=Fb h;obtain⟨T,K,rfl,A,h⟩:=Fb h;obtain⟨S,J,rfl,z,h⟩:=Fb h;obtain⟨R,I,rfl,y,h⟩:=Fb h;obtain⟨Q,H,rfl,b,h⟩:=Fb h;obtain⟨n,j,rfl,ZO,h⟩:=Fb h;obtain⟨m,i,rfl,V9,h⟩:=Fb h;obtain⟨k,g,rfl,e,h⟩:=Fb h;obtain rfl:=nO h;obtain⟨u,rfl,_⟩:=TN h1;obtain⟨s,rfl⟩:=Rh h2;obtain⟨G,rfl⟩:=Qz h3;obtain⟨q,rfl⟩:=Rh C;obtain⟨F,rfl⟩:=Qz B;obtain⟨o,rfl⟩:=Rh A;obtain⟨E,rfl⟩:=Qz z;obtain⟨D,rfl⟩:=Qz y;obtain⟨v,rfl,b⟩:=oa b;obtain⟨l,b,hl,_⟩:=iM nQ b;obtain⟨f,rfl⟩:=Qz ZO;obtain⟨c,rfl⟩:=Rh V9;obtain⟨d,rfl,a⟩:=TN e;refine⟨(⟨u,s,G,q,F,o,E,D,l,f,c,d⟩,v),rfl,b,?_,hl⟩;have x:IntKind.i32.min= -2147483648:=rfl;have w:IntKind.i32.max=2147483647:=rfl;simp[Lit.wf,x,w] at a;exact a
def Ro{v:Aa}(h:lF (.sl SB) v):∃l:List (Dv×Aa),Br 12 (l.map λp=>Ct p.1 p.2) v/\l.length<=maxLen/\∀p∈l,aAD p:=by have h:Zj (.sl SB) [v]:=h;exact iM aAE h
def saB(l:List A9):Bool:=decide (Gj l)
def h9B{v:Aa}{l:List A9}(h:Ae)(a:Bj l v):Cj cx 22 [v] h (.bool (saB l)) h:=f9 a h
section
variable{t:Dv}{p:Dv×Aa}{l:List (Dv×Aa)}{v:Aa}
def oM(h:t.LO saB=true)(hr: -2147483648<=t.r/\t.r<=2147483647):t.Sm:=by unfold Dv.LO at h;simp only[A4,Ci] at h;exact⟨by omega,(BB (p:=Gj t.Aq) h.2.2.2.2).LO,by omega,hr⟩
def ph(h:t.LO saB=true):t.Ke.length<=AN:=by unfold Dv.LO at h;simp only[A4,Ci] at h;have:AN=140737488355328:=rfl;omega
def uM(hs:t.LO saB=true){av:Aa}(h:Ae):Cj cx 64 [.agg (Ct t av)] h (.bool (Hm t)) h:=f75 t (ph hs) h
def aJ6{j:Nat}(hj:j<=70):Zs (Ic false) j:=by have z:=iL false;exact⟨iJ false,z.rm.le (by omega),AU _,AU _⟩
def h_:DW (Ic false):=
 ⟨⟨iJ false,(λe he=>by cases he),λh=>absurd rfl h,rfl,rfl,(λm hm=>by cases hm)⟩,λh=>absurd (show(4:Int)<=1 from h) (by decide),λ_=> .inl ⟨.inl rfl,rfl,rfl⟩,λh=>absurd (show(1:Int)=8 from h) (by decide)⟩
def Rp{e:Nat}(a:Br 12 (l.map λp=>Ct p.1 p.2) v)(hp:∀p∈l,aAD p)(hs:∀p∈l,p.1.LO saB=true)(hn:l.length+e<=70)(h:Ae):
  ∃h' bi F,Cj cx 9 [v] h (.tuple [.ptr (some (bi,0)),.bool ((Gl Hm (l.map (·.1)) (Ic false)).2==2)]) h'/\PB h' bi (Gl Hm (l.map (·.1)) (Ic false)).1 F/\Ey h (λ_=>False) h' F/\((Gl Hm (l.map (·.1)) (Ic false)).2=2->DW (Gl Hm (l.map (·.1)) (Ic false)).1/\Zs (Gl Hm (l.map (·.1)) (Ic false)).1 e):=by
 have hm:∀t∈l.map (·.1),t.Sm:=λt ht=>by obtain⟨p,Č,rfl⟩:=Bb.1 ht;exact oM (hs p Č) (hp p Č).r
 have hlen:(l.map (·.1)).length=l.length:=Ao ..;obtain⟨h',bi,F,r,w,x⟩:=aPM (qk:=Hm) (K:=Kn e) a (λp Č=>⟨(hp p Č).v,oM (hs p Č) (hp p Č).r⟩) (by omega) (λp Č _ h=>uM (hs p Č) h) (λt l c h=>h.step) (.inr ⟨h_,aJ6 (by omega),by omega,hm⟩) h;have ok:=gu (qk:=Hm) (e:=e) h_ (aJ6 (by omega)) (by rw[hlen];omega) hm;refine⟨h',bi,F,?_,w,x,λh2=>?_⟩
 .have b:gq bi (Gl Hm (l.map (·.1)) (Ic false)).2= .tuple [.ptr (some (bi,0)),.bool ((Gl Hm (l.map (·.1)) (Ic false)).2==2)]:=by unfold gq;rw[if_neg (by rcases ok with h1|h1<;>omega)]
  rw[<-b];exact r
 .rcases ok with h1|h1
  .omega
  .exact h1.2
def Rq(hl:l.length<=maxLen)(b:Br 12 (l.map λp=>Ct p.1 p.2) v)(hp:∀p∈l,aAD p)(h:Ae):(Cj cx 7 [v,I 60] h tt h/\(∀p∈l,p.1.LO saB=true)/\l.length<=60)\/Cj cx 7 [v,I 60] h ff h:=by
 have a:=aPF (sa:=saB) (λh b=>h9B h b) b (λp Č=>(hp p Č).v) (n:=60) (by decide) h;cases c:(l.all (λp=>p.1.LO saB)&&decide ((l.length:Int)<=60)) with
 |true=>rw[c] at a;simp only[A4,Dc,Ci] at c;exact .inl ⟨a,c.1,by omega⟩
 |false=>rw[c] at a;exact .inr a
end
end Go.Am
