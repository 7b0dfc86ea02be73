/- Lemmas -/
import Derived.Test.YtjjnhgoknielgaaGreatDoorZ26
import Derived.Test.YtjjnhgoknielgaaGreatDoorZ30
set_option linter.all false
namespace Go.Am
open Go
set_option maxRecDepth 100000
abbrev ta:Ty:= .st [.int .i64,.str,.bool,.str,.bool,.str,.bool,.bool,.sl aCy,.bool,.str,.int .i32]
structure ģ(p:DF×Aa):Prop where
 v:Bw p.1.As p.2
 r: -2147483648<=p.1.r/\p.1.r<=2147483647
 n:p.1.As.length<=maxLen
def aBp(r:List Aa)(h:fF ta r):∃p:DF×Aa,r=CE p.1 p.2/\ģ p:=by obtain⟨V,M,rfl,h1,h⟩:=Fx h;obtain⟨U,L,rfl,h2,h⟩:=Fx h;obtain⟨T,K,rfl,h3,h⟩:=Fx h;obtain⟨S,J,rfl,B,h⟩:=Fx h;obtain⟨R,I,rfl,A,h⟩:=Fx h;obtain⟨Q,H,rfl,z,h⟩:=Fx h;obtain⟨P,G,rfl,y,h⟩:=Fx h;obtain⟨O,F,rfl,x,h⟩:=Fx h;obtain⟨N,E,rfl,b,h⟩:=Fx h;obtain⟨m,i,rfl,YV,h⟩:=Fx h;obtain⟨k,g,rfl,RI,h⟩:=Fx h;obtain⟨j,f,rfl,Ŀ,h⟩:=Fx h;obtain rfl:=o7 h;obtain⟨s,rfl,_⟩:=jQ h1;obtain⟨q,rfl⟩:=RB h2;obtain⟨b3,rfl⟩:=QU h3;obtain⟨o,rfl⟩:=RB B;obtain⟨b5,rfl⟩:=QU A;obtain⟨n,rfl⟩:=RB z;obtain⟨D,rfl⟩:=QU y;obtain⟨C,rfl⟩:=QU x;obtain⟨v,rfl,b⟩:=q_ b;obtain⟨l,b,hl,_⟩:=ù ú b;obtain⟨e,rfl⟩:=QU YV;obtain⟨c,rfl⟩:=RB RI;obtain⟨d,rfl,a⟩:=jQ Ŀ;refine⟨(⟨s,q,b3,o,b5,n,D,C,l,e,c,d⟩,v),rfl,b,?_,hl⟩;have w:IntKind.i32.min= -2147483648:=rfl;have u:IntKind.i32.max=2147483647:=rfl;simp[Lit.wf,w,u] at a;exact a
def tc{v:Aa}(h:ym (.sl ta) v):∃l:List (DF×Aa),BB 12 (l.map λp=>CE p.1 p.2) v/\l.length<=maxLen/\∀p∈l,ģ p:=by have h:fF (.sl ta) [v]:=h;exact ù aBp h
def saB(l:List Be):Bool:=decide (Hj l)
def h9B{v:Aa}{l:List Be}(h:Ai)(hv:Bw l v):Cy cx 28 [v] h (.bool (saB l)) h:=f9 hv h
section
variable{t:DF}{p:DF×Aa}{l:List (DF×Aa)}{v:Aa}
def pV(h:t.Mc saB=true)(hr: -2147483648<=t.r/\t.r<=2147483647):t.Sm:=by unfold DF.Mc at h;simp only[Bb,Ct] at h;exact⟨Ab,(CD (p:=Hj t.As) h.2.2.2.2).Mc,Ab,hr⟩
def td(h:t.Mc saB=true):t.KB.length<=AV:=by unfold DF.Mc at h;simp only[Bb,Ct] at h;have:AV=140737488355328:=rfl;omega
def vV(hs:t.Mc saB=true){av:Aa}(h:Ai):Cy cx 67 [.agg (CE t av)] h (.bool (OR t)) h:=f75 t (td hs) h
def aKQ{j:Nat}(hj:j<=70):Zs (II false) j:=by have z:=jP false;exact⟨jO false,z.rm.le Ab,Bp _,Bp _⟩
def kL:DK (II false):=
 ⟨⟨jO false,(λe he=>by cases he),λh=>absurd rfl h,rfl,rfl,(λm hm=>by cases hm)⟩,λh=>absurd (show(4:Int)<=1 from h) AA,λ_=> .inl ⟨.inl rfl,rfl,rfl⟩,λh=>absurd (show(1:Int)=8 from h) AA⟩
def tg{e:Nat}(hv:BB 12 (l.map λp=>CE p.1 p.2) v)(hp:∀p∈l,ģ p)(hs:∀p∈l,p.1.Mc saB=true)(hn:l.length+e<=70)(h:Ai):
  ∃h' bi F,Cy cx 7 [v] h (.tuple [.ptr (some (bi,0)),.bool ((D3 OR (l.map (·.1)) (II false)).2==2)]) h'/\PB h' bi (D3 OR (l.map (·.1)) (II false)).1 F/\Fo h (λ_=>False) h' F/\((D3 OR (l.map (·.1)) (II false)).2=2->DK (D3 OR (l.map (·.1)) (II false)).1/\Zs (D3 OR (l.map (·.1)) (II false)).1 e):=by
 have hm:∀t∈l.map (·.1),t.Sm:=λt ht=>by obtain⟨p,ke,rfl⟩:=A7.1 ht;exact pV (hs p ke) (hp p ke).r
 have hlen:(l.map (·.1)).length=l.length:=Aw ..;obtain⟨h',bi,F,r,w,x⟩:=aQb (qk:=OR) (K:=Kn e) hv (λp ke=>⟨(hp p ke).v,pV (hs p ke) (hp p ke).r⟩) Ab (λp ke _ h=>vV (hs p ke) h) (λt l c h=>h.step) (.inr ⟨kL,aKQ Ab,Ab,hm⟩) h;have ok:=jx (qk:=OR) (e:=e) kL (aKQ Ab) (by rw[hlen];omega) hm;refine⟨h',bi,F,?_,w,x,λh2=>?_⟩
 .have a:jv bi (D3 OR (l.map (·.1)) (II false)).2= .tuple [.ptr (some (bi,0)),.bool ((D3 OR (l.map (·.1)) (II false)).2==2)]:=by unfold jv;rw[Ac (by rcases ok with h1|h1<;>omega)]
  rw[<-a];exact r
 .rcases ok with h1|h1
  .omega
  .exact h1.2
def th(hl:l.length<=maxLen)(hv:BB 12 (l.map λp=>CE p.1 p.2) v)(hp:∀p∈l,ģ p)(h:Ai):(Cy cx 5 [v,I 60] h tt h/\(∀p∈l,p.1.Mc saB=true)/\l.length<=60)\/Cy cx 5 [v,I 60] h ff h:=by
 have a:=aP3 (sa:=saB) (λh hv=>h9B h hv) hv (λp ke=>(hp p ke).v) (n:=60) AA h;cases c:(l.all (λp=>p.1.Mc saB)&&decide ((l.length:Int)<=60)) with
 |true=>rw[c] at a;simp only[Bb,DQ,Ct] at c;exact .inl ⟨a,c.1,Ab⟩
 |false=>rw[c] at a;exact .inr a
end
end Go.Am
