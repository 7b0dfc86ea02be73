/- Lemmas -/
import Derived.Test.YtkaolmlpcamojaaGreatDoorH29
import Derived.Test.YtkaolmlpcamojaaGreatDoorH7
set_option linter.all false
namespace Go.Am
open Go
set_option maxRecDepth 100000
abbrev iw:Ty:= .st [.int .i64,.str,.str]
abbrev tOp:Ty:= .st [.int .i64,.str,.sl iw,.int .i64,.int .i64,.bool,.str,.int .i32,.int .i64]
abbrev aO4:Ty:= .st [.int .i64,.str,.sl iw,.bool,.bool]
abbrev mU:Ty:= .st [.bool,aO4]
def dR{U:Type}{P:List Aa->Prop}{f:U->List Aa}{Q:U->Prop}(h:∀r,P r->∃a,r=f a/\Q a):∀{AE:List (List Aa)},(∀r∈AE,P r)->∃l:List U,AE=l.map f/\∀a∈l,Q a
 |[],_=>⟨[],rfl,AH⟩
 |r::AE,hr=>by obtain⟨a,rfl,hq⟩:=h r (hr r AH);obtain⟨l,rfl,hl⟩:=dR h (AE:=AE) λr h=>hr r (by simp[h]);exact⟨a::l,rfl,by simpa[hq] using hl⟩
def mV{U:Type}{e:Ty}{f:U->List Aa}{Q:U->Prop}(h:∀r,Z8 e r->∃a,r=f a/\Q a){v:Aa}(hv:Z8 (.sl e) [v]):∃l:List U,AU (Ty.size e) (l.map f) v/\l.length<=maxLen/\∀a∈l,Q a:=by
 unfold Z8 at hv;rcases hv with b|⟨AE,b,hl,hr⟩
 .cases b;exact⟨[],.nil,AH,AH⟩
 .cases b;obtain⟨l,rfl,hq⟩:=dR h hr;exact⟨l,.mk,by simpa using hl,hq⟩
def LB{r:List Aa}{k:IntKind}(h:Z8 (.int k) r):∃n,r=[.int k n]/\(Lit.int k n).wf=true:=h
def Mq{r:List Aa}(h:Z8 .str r):∃s:Aj,r=[.str s]:=let⟨n,e,_⟩:=h;⟨n,e⟩
def KK{r:List Aa}(h:Z8 .bool r):∃b,r=[.bool b]:=h
def CQ{t:Ty}{ts:List Ty}{l:List Aa}(h:ky (t::ts) l):∃a b,l=a++b/\Z8 t a/\ky ts b:=h
def Qw{l:List Aa}(h:ky [] l):l=[]:=h
def UR{e:Ty}{r:List Aa}(h:Z8 (.sl e) r):∃v,r=[v]/\Z8 (.sl e) [v]:=by have h':=h;unfold Z8 at h';rcases h' with rfl|⟨AE,rfl,_⟩<;>exact⟨_,rfl,h⟩
def ZE(r:List Aa)(h:Z8 iw r):∃a:A5,r=a.row/\True:=by obtain⟨i,e,rfl,h1,h⟩:=CQ h;obtain⟨g,d,rfl,h2,h⟩:=CQ h;obtain⟨f,c,rfl,b,h⟩:=CQ h;obtain rfl:=Qw h;obtain⟨n,rfl,_⟩:=LB h1;obtain⟨s,rfl⟩:=Mq h2;obtain⟨t,rfl⟩:=Mq b;exact⟨⟨n,s,t⟩,rfl,trivial⟩
def aFc(r:List Aa)(h:Z8 tOp r):∃a:QO,r=a.row/\(-2147483648<=a.q.r/\a.q.r<=2147483647):=by obtain⟨O,F,rfl,h1,h⟩:=CQ h;obtain⟨N,E,rfl,h2,h⟩:=CQ h;obtain⟨M,D,rfl,b,h⟩:=CQ h;obtain⟨L,C,rfl,w,h⟩:=CQ h;obtain⟨K,B,rfl,u,h⟩:=CQ h;obtain⟨J,A,rfl,t,h⟩:=CQ h;obtain⟨I,z,rfl,s,h⟩:=CQ h;obtain⟨H,y,rfl,p,h⟩:=CQ h;obtain⟨G,x,rfl,o,h⟩:=CQ h;obtain rfl:=Qw h;obtain⟨k,rfl,_⟩:=LB h1;obtain⟨e,rfl⟩:=Mq h2;obtain⟨v,rfl,b⟩:=UR b;obtain⟨l,b,_,_⟩:=mV ZE b;obtain⟨j,rfl,_⟩:=LB w;obtain⟨i,rfl,_⟩:=LB u;obtain⟨b6,rfl⟩:=KK t;obtain⟨d,rfl⟩:=Mq s;obtain⟨g,rfl,c⟩:=LB p;obtain⟨f,rfl,_⟩:=LB o;refine⟨⟨⟨k,e,l,j,i,b6,d,g,f⟩,v,b⟩,rfl,?_⟩;have n:IntKind.i32.min= -2147483648:=rfl;have m:IntKind.i32.max=2147483647:=rfl;simp[Lit.wf,n,m] at c;exact c
def xX{v:Aa}(h:oS mU v):∃(s:EZ) (av:Aa),v= .agg (MT s av)/\Bi s.Av av:=by obtain⟨r,rfl,h⟩:=h;obtain⟨A,q,rfl,h1,h⟩:=CQ h;obtain⟨z,p,rfl,h2,h⟩:=CQ h;obtain rfl:=Qw h;obtain⟨b1,rfl⟩:=KK h1;obtain⟨y,o,rfl,g,h⟩:=CQ h2;obtain⟨x,n,rfl,f,h⟩:=CQ h;obtain⟨w,m,rfl,a,h⟩:=CQ h;obtain⟨u,k,rfl,e,h⟩:=CQ h;obtain⟨t,j,rfl,d,h⟩:=CQ h;obtain rfl:=Qw h;obtain⟨c,rfl,_⟩:=LB g;obtain⟨b,rfl⟩:=Mq f;obtain⟨v,rfl,a⟩:=UR a;obtain⟨l,a,_,_⟩:=mV ZE a;obtain⟨b6,rfl⟩:=KK e;obtain⟨i,rfl⟩:=KK d;exact⟨⟨b1,c,b,l,b6,i⟩,v,rfl,a⟩
def É{v:Aa}(h:oS (.sl tOp) v):∃l:List QO,dH l v/\∀x∈l,-2147483648<=x.q.r/\x.q.r<=2147483647:=by have h:Z8 (.sl tOp) [v]:=h;obtain⟨l,h1,_,h2⟩:=mV aFc h;exact⟨l,h1,h2⟩
def FB(l:List A5):Prop:=l.length<=20/\∀x∈l,x.name.length<=400/\x.value.length<=400
instance(l:List A5):Decidable (FB l):=by unfold FB;infer_instance
def FB.RF{l:List A5}(h:FB l):DO l:=⟨by have:=h.1;omega,λa ha=>by have:=h.2 a ha;omega⟩
section
variable{h:Ai}
def f9{v:Aa}{l:List A5}(hv:Bi l v)(h:Ai):BG cx 12 [v] h (.bool (decide (FB l))) h:=by
 have DH:AU 3 (l.map A5.row) v:=hv;have a:=AU.CN hv;rw[Ae,aDW];refine Bm (λn:Nat=>[ff,I (n:Int)]) (λn h1=>n<=l.length/\n<=21/\(∀x∈l.take n,x.name.length<=400/\x.value.length<=400)/\h1=h) (λn=>l.length-n) 0 rfl ⟨AY _,AY _,AH,rfl⟩ ?_;rintro n h1 ⟨hn,hb,ha,rfl⟩;rcases AR n l.length with hlt|Eh
 .have b:=AU.BL (k:= .i64) hv hlt;rw[A5.row] at b;have ZL:¬(l[n].name.length<=400/\l[n].value.length<=400)->¬FB l:=λh1 h2=>h1 (h2.2 _ (AN hlt));by_cases OC:n<=20
  .by_cases c:(400:Int)<(l[n].name.length:Int);.have e:decide (FB l)=false:=Ah (ZL Ac);rw[e];simp only[abS,a,(Ac:(n:Int)<(l.length:Int)),(Ac:(n:Int)<=20),b,c]
   .by_cases d:(400:Int)<(l[n].value.length:Int);.have e:decide (FB l)=false:=Ah (ZL Ac);rw[e];simp only[abS,a,(Ac:(n:Int)<(l.length:Int)),(Ac:(n:Int)<=20),b,c,d]
    .simp only[abS,a,(Ac:(n:Int)<(l.length:Int)),(Ac:(n:Int)<=20),b,c,d,BN (Ac:n<9223372036854775807)];refine AK.next (n+1) rfl ⟨hlt,Ac,λx hx=>?_,rfl⟩ Ac;rw[AB hlt,Ay,BP] at hx;rcases hx with hx|rfl
     .exact ha x hx
     .exact⟨Ac,Ac⟩
  .have e:decide (FB l)=false:=Ah λh=>by have:=h.1;omega
   rw[e];simp only[abS,a,(Ac:(n:Int)<(l.length:Int)),(Ac:¬(n:Int)<=20),(Ac:¬(l.length:Int)<=20),DG]
 .rw[AF Eh] at ha;have f:decide (FB l)=decide ((l.length:Int)<=20):=by rw[Dd];exact⟨λh=>by have:=h.1;omega,λh=>⟨Ac,ha⟩⟩
  rw[f];simp only[abS,a,(Ac:¬(n:Int)<(l.length:Int))]
def VO(s:EZ):Prop:=s.name.length<=60/\FB s.Av
instance(s:EZ):Decidable (VO s):=by unfold VO;infer_instance
def f5(s:EZ){av:Aa}(hv:Bi s.Av av)(h:Ai):BG cx 11 [.agg [I s.Bb,.str s.name,av,.bool s.CL,.bool s.NH]] h (.bool (decide (VO s))) h:=by
 have b:=f9 hv h;have ZJ:av.cells=[av]:=AU.cells hv;rw[Ae,aDV];by_cases a:(s.name.length:Int)<=60
 .have e:decide (VO s)=decide (FB s.Av):=by rw[Dd];exact⟨λh=>h.2,λh=>⟨Ac,h⟩⟩
  rw[e];simp only[abS,a,b.Ab]
 .have e:decide (VO s)=false:=Ah λh=>by have:=h.1;omega
  rw[e];simp only[abS,a]
def xY(q:rP):Prop:=q.name.length<=60/\q.s.length<=200/\FB q.Av
instance(q:rP):Decidable (xY q):=by unfold xY;infer_instance
def xY.ok{q:rP}(h:xY q)(hr: -2147483648<=q.r/\q.r<=2147483647):ou q:=⟨by have:=h.1;omega,h.2.2.RF,by have:=h.2.1;omega,hr⟩
def Oy(l:List QO)(m:Nat):Prop:=l.length<=m/\∀x∈l,xY x.q
instance(l:List QO)(m:Nat):Decidable (Oy l m):=by unfold Oy;infer_instance
def f4{v:Aa}{l:List QO}(hv:dH l v){m:Nat}(hm:m<=1000)(h:Ai):BG cx 10 [v,I (m:Int)] h (.bool (decide (Oy l m))) h:=by
 have a:=AU.CN hv;rw[Ae,aDU];refine Bm (λn:Nat=>[ff,I (n:Int)]) (λn h1=>n<=l.length/\n<=m+1/\(∀x∈l.take n,xY x.q)/\h1=h) (λn=>l.length-n) 0 rfl ⟨AY _,AY _,AH,rfl⟩ ?_;rintro n h1 ⟨hn,hb,ha,rfl⟩;rcases AR n l.length with hlt|Eh
 .have b:=AU.BL (k:= .i64) hv hlt;have c:=f9 l[n].ok h1;have ZL:¬xY l[n].q->¬Oy l m:=λh1 h2=>h1 (h2.2 _ (AN hlt));rw[QO.row,Ma] at b;by_cases OC:n<=m
  .by_cases f:(60:Int)<(l[n].q.name.length:Int);.have e:decide (Oy l m)=false:=Ah (ZL λh=>by have:=h.1;omega);rw[e];simp only[abS,a,(Ac:(n:Int)<(l.length:Int)),(Ac:(n:Int)<=(m:Int)),b,f]
   .by_cases g:(200:Int)<(l[n].q.s.length:Int);.have e:decide (Oy l m)=false:=Ah (ZL λh=>by have:=h.2.1;omega);rw[e];simp only[abS,a,(Ac:(n:Int)<(l.length:Int)),(Ac:(n:Int)<=(m:Int)),b,f,g]
    .by_cases d:FB l[n].q.Av
     .rw[Al d] at c;simp only[abS,a,(Ac:(n:Int)<(l.length:Int)),(Ac:(n:Int)<=(m:Int)),b,f,g,c.Ab,BN (Ac:n<9223372036854775807)];refine AK.next (n+1) rfl ⟨hlt,Ac,λx hx=>?_,rfl⟩ Ac;rw[AB hlt,Ay,BP] at hx;rcases hx with hx|rfl
      .exact ha x hx
      .exact⟨Ac,Ac,d⟩
     .have e:decide (Oy l m)=false:=Ah (ZL λh=>d h.2.2);rw[Ah d] at c;rw[e];simp only[abS,a,(Ac:(n:Int)<(l.length:Int)),(Ac:(n:Int)<=(m:Int)),b,f,g,c.Ab]
  .have e:decide (Oy l m)=false:=Ah λh=>by have:=h.1;omega
   rw[e];simp only[abS,a,(Ac:(n:Int)<(l.length:Int)),(Ac:¬(n:Int)<=(m:Int)),(Ac:¬(l.length:Int)<=(m:Int)),DG]
 .rw[AF Eh] at ha;have i:decide (Oy l m)=decide ((l.length:Int)<=(m:Int)):=by rw[Dd];exact⟨λh=>by have:=h.1;omega,λh=>⟨Ac,ha⟩⟩
  rw[i];simp only[abS,a,(Ac:¬(n:Int)<(l.length:Int))]
end
end Go.Am
