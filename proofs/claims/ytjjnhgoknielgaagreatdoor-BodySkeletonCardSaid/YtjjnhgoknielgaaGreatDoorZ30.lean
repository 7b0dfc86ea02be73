/- Lemmas -/
import Derived.Test.YtjjnhgoknielgaaGreatDoorZ29
set_option linter.all false
noncomputable section
set_option maxRecDepth 100000
section
namespace Go.Am
open Go
def aK:List Ah:=[aWO,aXv,aXY,aW7,aXp,aYe,aXC,[110,111,101,109,98,101,100]]
abbrev aGK:Ah:=aWF
def Shp(m:Int)(l:List Item)(tm:List Int):Prop:=
 ((m=1\/m=2)/\l=[]/\tm=[])\/(m=3/\(∃h,l=[h]/\AG [IF] h=true)/\tm=[])
 \/(m=4/\(∃h d,l=[h,d]/\AG [IF] h=true/\AG [IL] d=true)/\tm=[])
 \/(m=5/\(∃h d x,l=[h,d,x]/\AG [IF] h=true/\AG [IL] d=true/\AG [aGK] x=true)/\tm=[])
 \/(m=6/\(∃h,l=[h]/\AG [IF] h=true)/\tm=[])
 \/((m=7\/(m=18/\tm≠[]))/\∃P,DL P l tm.length)
structure DK(b:BS):Prop where
 cm:Cm b
 hd:4<=b.mode->Me b
 sh:b.mode≠8->Shp b.mode b.Au b.tm
 W8:b.mode=8->∃X r,b.Au=X++[r]/\AG aK r=true/\4<=b.IE/\b.IE≠8/\Shp b.IE X b.tm
def dU(m:Int)(n:Nat):Nat:=if m=1 then 6 else if m=2 then 5 else if m=3 then 4 else if m=4 then 3 else if m=5 then 4 else if m=6 then 2 else if n=0 then 1 else n+3
def L5(t:DF)(b:BS):Nat:=if t.k=6 then(if b.mode=8 then dU b.IE b.tm.length+1 else dU b.mode b.tm.length) else(if b.mode=8 then 1 else if b.mode=18 then 2 else dU b.mode 0)
def Xc(b:BS):Nat:=if b.mode=1\/b.mode=2 then 4 else if b.mode=3 then 3 else if b.mode=4\/b.mode=5\/b.mode=6 then 2 else 1
structure Tr(b c:BS):Prop where
 o:c.Au.length+Xc c<=b.Au.length+Xc b
 a:c.A4.length<=b.A4.length
 r:∀m,CK b (m+5)->CK c m
def NX(t:DF)(b:BS)(r:BS×Bool):Prop:=Es r.1.mode=false\/(DK r.1/\(r.2=true->L5 t r.1<L5 t b/\Tr b r.1))
section
variable{P:List Item}{q:Int}{T:List Int}{m k j n:Nat}{b c d:BS}{nm x:Ah}{l:List Item}{at_:List Be}{t:DF}{sp h:Int}{i:Item}
def jq{m:Int}:1<=dU m n:=by unfold dU;(repeat' split)<;>omega
def vI{m:Int}:dU m n<=n+6:=by unfold dU;(repeat' split)<;>omega
def ę:1<=L5 t b:=by have:=@jq b.tm.length b.mode;have:=@jq 0 b.mode;unfold L5;(repeat' split)<;>omega
def j9:L5 t b<=9+b.tm.length:=by have:=@vI b.tm.length b.mode;have:=@vI b.tm.length b.IE;have:=@vI 0 b.mode;unfold L5;(repeat' split)<;>omega
def NX.ite{c:Prop}[Decidable c]{x y:BS×Bool}(h1:c->NX t b x)(h2:¬c->NX t b y):NX t b (if c then x else y):=by
 split;.rename_i h;exact h1 h
 .rename_i h;exact h2 h
def NX.BZ(h:DK c):NX t b (c,false):= .inr ⟨h,λe=>by cases e⟩
def Jc(o:Dp P q T c)(hm:q=7\/(q=18/\T≠[])):DK c:=
 ⟨o.cm,λ_=>o.hd,λ_=> .inr (.inr (.inr (.inr (.inr ⟨by rw[o.md,o.tme];exact hm,P,by rw[o.tme];exact o.d⟩)))),λh=>by rw[o.md] at h;omega⟩
def DK.dp(o:DK b)(hm:b.mode=7\/b.mode=18):(b.mode=18->b.tm≠[])/\∃P,Dp P b.mode b.tm b:=by
 have e:b.mode≠8:=Ab;rcases o.sh e with h|h|h|h|h|h
 .omega
 .omega
 .omega
 .omega
 .omega
 .refine⟨λh1=>?_,?_⟩
  .rcases h.1 with h2|h2
   .omega
   .exact h2.2
  .obtain⟨P,a⟩:=h.2;exact⟨P,o.cm,o.hd Ab,a,rfl,rfl⟩
def pR(hk:0<k)(h1:AO i=true->okI i)(h2:Eg i=false):b.Hu i k=none:=by
 have hb:i.A9=1->i.name∉aG:=λhs hn=>by
  have key:∀w∈aG,D4 1 w=true:=Ed;have:AO i=true:=by unfold AO;rw[hs];exact key _ hn
  exact h1 this hs hn
 unfold BS.Hu;split
 .rename_i hs;have hn:=hb hs;have s:i.name≠AT:=λe=>by have:Eg i=true:=Ca.2 ⟨hs,by simp[e]⟩;rw[this] at h2;cases h2
  have hf:Ip.find? (λr=>decide (r.1=i.name))=none:=by rw[MC];intro r hr;simp only[Ct];intro e;have key:∀r∈Ip,r.1∈aG:=AA;exact hn (e▸key r hr)
  rw[hf];have p:i.name≠KN:=λe=>hn (by rw[e];decide);have o:i.name≠ur:=λe=>hn (by rw[e];decide);have g:i.name≠uv:=λe=>hn (by rw[e];decide);have f:i.name≠IL:=λe=>hn (by rw[e];decide);have a:i.name≠IF:=λe=>hn (by rw[e];decide);simp only[p,o,g,f,a,s,DP,false_or,wF,Ac (Ab:¬k=0)]
 .rw[Ac Ab]
def NW(h0:0<k):∀{n:Nat},k<=n->(∀j,k<=j->j<n->b.Hu (b.Au.getD j Item.zero) j=none)->b.H8 n=b.H8 k
 |0,hk,_=>Ab
 |n+1,hk,hs=>by
  rcases Bl k (n+1) with h|h
  .rw[BS.H8];have e:b.D6 n=b.Au.getD n Item.zero:=by unfold BS.D6;rw[Ac Ab]
   rw[e,hs n Ab Ab];exact NW h0 Ab λj h1 h2=>hs j h1 Ab
  .rw[(Ab:n+1=k)]
def SM(h:Eg i=true):b.Hu i k=some (b.tm.getLast?.getD 7):=by have h1:=Ca.1 h;have h2:=h1.2;simp at h2;unfold BS.Hu;rw[Af h1.1,h2];simp[Ip,KN,ur,uv]
def VT(h:AG [Io] i=true):b.Hu i k=some 7:=by have h1:=Ca.1 h;have h2:=h1.2;simp at h2;unfold BS.Hu;rw[Af h1.1,h2];simp[Ip]
def pS(h:AG [IL] i=true)(hk:0<k):b.Hu i k=some 4:=by have h1:=Ca.1 h;have h2:=h1.2;simp at h2;unfold BS.Hu;rw[Af h1.1,h2];simp[Ip,KN,ur,uv,hk]
def pT(h:AG [IF] i=true):b.Hu i k=some (if b.head=0 then 3 else 6):=by have h1:=Ca.1 h;have h2:=h1.2;simp at h2;unfold BS.Hu;rw[Af h1.1,h2];simp[Ip,KN,ur,uv]
def kC(h:b.tm≠[])(ht:∀m∈b.tm,m=7\/m=18):b.tm.getLast?.getD 7=7\/(b.tm.getLast?.getD 7=18/\b.tm≠[]):=by
 rw[List.getLast?_eq_some_getLast h,Fq];rcases ht _ (List.getLast_mem h) with h1|h1
 .exact .inl h1
 .exact .inr ⟨h1,h⟩
def Xd{k:Nat}(hk:k<l.length):l.getD k Item.zero=l[k]:=by rw[AJ,Av hk];rfl
def vJ(d:DL P b.Au b.tm.length)(ht:∀m∈b.tm,m=7\/m=18):b.JD.mode=7\/(b.JD.mode=18/\b.tm≠[]):=by
 show b.H8 b.Au.length=7\/(b.H8 b.Au.length=18/\b.tm≠[]);have hl:=d.pf.len;have hlen:=d.len;have aGM:∀x∈b.Au,Eg x=true->b.tm≠[]:=λx hx o e=>by have:=d.Ā;rw[e,AW,Ho] at this;exact absurd o (this x (BD.2 ⟨hx,spT o⟩))
 have skip:∀k,(hk:k<b.Au.length)->P.length<=k->Eg b.Au[k]=false->b.Hu (b.Au.getD k Item.zero) k=none:=λk hk h1 h2=>by
  rw[Xd hk];refine pR Ab (λhs=>d.v' _ ?_ hs) h2;have:b.Au[k]=(b.Au.drop P.length)[k-P.length]'(by rw[AX];omega):=by rw[GP];congr 1;omega
  rw[this];exact AF _
 rcases BY (q:=Eg) (l:=b.Au) with⟨_,h1⟩|⟨q,hq,_,h1,h2⟩
 .rw[NW (k:=P.length) Ab hlen (λj h3 a=>skip j a h3 (h1 _ (AF a)))];obtain⟨B,z,g,hz⟩:=d.pf.last;have f:P.length=B.length+1:=by rw[g];simp
  have hk:B.length<b.Au.length:=Ab;have uh:b.Au[B.length]=z:=by
   have a:(b.Au.take P.length)[B.length]'(by rw[Ay];omega)=P[B.length]'(by omega):=by simp only[d.JR]
   rw[It] at a;rw[a];simp[g]
  rw[f,BS.H8];have e:b.D6 B.length=z:=by unfold BS.D6;rw[Ac Ab,Xd hk,uh]
  rw[e];rcases hz with hz|hz
  .rw[VT hz];exact .inl rfl
  .rw[SM hz];exact kC (aGM z (by rw[<-uh];exact AF hk) hz) ht
 .by_cases p:P.length<=q
  .rw[NW (k:=q+1) Ab Ab (λj h3 a=>skip j a Ab (h2 j a Ab)),BS.H8];have e:b.D6 q=b.Au[q]:=by unfold BS.D6;rw[Ac Ab,Xd hq]
   rw[e,SM h1];exact kC (aGM _ (AF hq) h1) ht
  .rw[NW (k:=P.length) Ab hlen (λj h3 a=>skip j a h3 (h2 j a Ab))];obtain⟨B,z,g,hz⟩:=d.pf.last;have f:P.length=B.length+1:=by rw[g];simp
   have hk:B.length<b.Au.length:=Ab;have uh:b.Au[B.length]=z:=by
    have a:(b.Au.take P.length)[B.length]'(by rw[Ay];omega)=P[B.length]'(by omega):=by simp only[d.JR]
    rw[It] at a;rw[a];simp[g]
   rw[f,BS.H8];have e:b.D6 B.length=z:=by unfold BS.D6;rw[Ac Ab,Xd hk,uh]
   rw[e];rcases hz with hz|hz
   .rw[VT hz];exact .inl rfl
   .rw[SM hz];exact kC (aGM z (by rw[<-uh];exact AF hk) hz) ht
def kD(o:Dp P b.mode b.tm b)(hT:0<=AD Eg b.Au)(hc:c=BS.JD {b with Au:=GQ b.Au (AD Eg b.Au),A4:=Fw b.A4,tm:=b.tm.dropLast}):DK c/\b.tm≠[]/\dU c.mode c.tm.length<b.tm.length+3/\c.mode≠8/\c.Au.length+1<=b.Au.length/\c.mode≠3:=by
 have ca:c.a=b.a:=by rw[hc];rfl
 have cd:c.BM=b.BM:=by rw[hc];rfl
 have U:c.Au=GQ b.Au (AD Eg b.Au):=by rw[hc];rfl
 have V:c.A4=Fw b.A4:=by rw[hc];rfl
 have S:c.tm=b.tm.dropLast:=by rw[hc];rfl
 have cf:c.GO=b.GO:=by rw[hc];rfl
 have ch:c.head=b.head:=by rw[hc];rfl
 have ck:c.Ec=b.Ec:=by rw[hc];rfl
 have cg:c.K8=b.K8:=by rw[hc];rfl
 have cm:Cm c:=by
  refine⟨((o.cm.ok.Ky (Ng (i:=AD Eg b.Au))).gN (l:=Fw b.A4) (Cf _ _)).of_eq ca cd U V,?_,?_,by rw[ck];exact o.cm.fo,by rw[cg];exact o.cm.fr,λm hm=>o.cm.va m ?_⟩;.rw[ca,V];exact o.cm.ac.sub (Cf _ _)
  .rw[ca,cf];exact o.cm.Ł
  .rw[S] at hm;exact(aHv _).subset hm
 have hd:Me c:=o.hd.le (by rw[ca];exact .refl) ch;have hl:=o.d.pf.len;have hlen:=o.d.len;obtain⟨g,K⟩:∃g,g=({b with Au:=GQ b.Au (AD Eg b.Au),A4:=Fw b.A4,tm:=b.tm.dropLast}:BS):=⟨_,rfl⟩;rw[<-K] at hc;have hm:c.mode=g.JD.mode:=by rw[hc]
 have F:g.Au=c.Au:=by rw[hc];rfl
 have O:g.tm=c.tm:=by rw[hc];rfl
 have bh:g.head=c.head:=by rw[hc];rfl
 have bf:g.K8=c.K8:=by rw[hc];rfl
 rcases BY (q:=Eg) (l:=b.Au) with⟨h1,_⟩|⟨q,hq,h1,h2,h3⟩
 .omega
 have hne:b.tm≠[]:=λe=>by have:=o.d.Ā;rw[e,AW,Ho] at this;exact absurd h2 (this _ (BD.2 ⟨AF hq,spT h2⟩))
 have W:1<=b.tm.length:=CB.2 hne;have è:1<=q:=by
  rcases Ge q with D|D
  .exfalso;obtain⟨y,r,Y,qh⟩:=o.d.pf.aKj;have:b.Au[0]'(by omega)=y:=by
    have C:(b.Au.take P.length)[0]'(by rw[Ay];omega)=P[0]'(by omega):=by simp only[o.d.JR]
    rw[It] at C;rw[C];simp[Y]
   subst D;rw[this] at h2;have Q:=(Ca.1 h2).2;have L:=(Ca.1 qh).2;simp at Q L;rw[Q] at L;exact absurd L AA
  .exact D
 have M:c.Au=b.Au.take q:=by rw[U,h1];unfold GQ;congr 1;omega
 have Z:c.tm.length=b.tm.length-1:=by rw[S,List.length_dropLast]
 have col:c.Au.length+1<=b.Au.length:=by rw[M,Ay];omega
 have X:∀{j},P.length<=j->j=q->DL P (b.Au.take q) (b.tm.length-1):=by
  intro j hj J;subst J;have e:b.Au.filter AO=(b.Au.take j).filter AO++b.Au[j]::(b.Au.drop (j+1)).filter AO:=by
   conv=>lhs;rw[<-Br j b.Au,Az hq]
   rw[Bc,Du (spT h2)]
  have hv:=o.d.v;have p:=o.d.Ā;have hp:=o.d.GR;rw[e] at hv p hp;refine⟨o.d.pf,by rw[CI,BO hj];exact o.d.JR,λi hi=>hv i ?_,?_,hp.JR⟩;.rw[Jf];exact B2 _ hi
  .have e0:((b.Au.drop (j+1)).filter AO).countP Eg=0:=Ho.2 λi hi=>by obtain⟨k,hk,D,rfl⟩:=ON (BD.1 hi).1;rw[h3 k hk Ab];simp
   rw[JL,List.countP_cons_of_pos h2,e0] at p;omega
 by_cases G:P.length<=q;.have N:=X G rfl;rw[<-M,<-Z] at N;have hr:=vJ (b:=g) (P:=P) (by rw[F,O];exact N) (by rw[O];exact cm.va);rw[<-hm,O] at hr;have Ee:DK c:=Jc (P:=P) ⟨cm,hd,N,rfl,rfl⟩ hr;refine⟨Ee,hne,?_,Ab,col,Ab⟩;unfold dU;(repeat' split)<;>omega
 .have Te:b.tm.length=1:=by
   have p:=o.d.Ā;have e0:((b.Au.drop P.length).filter AO).countP Eg=0:=Ho.2 λi hi=>by obtain⟨k,hk,D,rfl⟩:=ON (BD.1 hi).1;rw[h3 k hk Ab];simp
   rw[o.d.uY,JL,e0] at p
   .have:P.countP Eg<=1:=by
     have s:∀{i:Item} {w:Ah},AG [w] i=true->w≠AT->Eg i=false:=λh hw=>Zd (by simpa using CZ hw) h;cases o.d.pf with
     |body h o a b=>simp[s a AA,s b AA]
     |Of h o a b=>simp[s a AA,b]
     |head h d t a b c=>simp[s a AA,s b AA,c]
    omega
  have E:c.tm=[]:=Fs.1 Ab;have Ĺ:b.Au.take q=P.take q:=by have:=B3 (List.take q) o.d.JR;rwa [CI,BO Ab] at this
  have I:∀(h:q<P.length),Eg P[q]=true:=λh=>by
   have C:(b.Au.take P.length)[q]'(by rw[Ay];omega)=P[q]:=by simp only[o.d.JR]
   rw[It] at C;rw[<-C];exact h2
  have f:=I Ab;have h0:c.head≠0:=λe=>by have:=hd.has.1;omega
  have Jz:(∃h,c.Au=[h]/\AG [IF] h=true)\/(∃h d,c.Au=[h,d]/\AG [IF] h=true/\AG [IL] d=true):=by
   rw[M,Ĺ];have s:∀{i:Item} {w:Ah},AG [w] i=true->w≠AT->Eg i=false:=λh hw=>Zd (by simpa using CZ hw) h;cases o.d.pf with
   |body h o' a b'=>
    exfalso;have e:q=1:=by simp only[AK,AW] at G;omega
    subst e;simp only[JK,Vg] at f;rw[s b' AA] at f;cases f
   |Of h o' a b'=>
    have e:q=1:=by simp only[AK,AW] at G;omega
    subst e;exact .inl ⟨h,rfl,a⟩
   |head h d t a b' c'=>
    have e:q=1\/q=2:=by simp only[AK,AW] at G;omega
    rcases e with e|e
    .subst e;simp only[JK,Vg] at f;rw[s b' AA] at f;cases f
    .subst e;exact .inr ⟨h,d,rfl,a,b'⟩
  have XC:c.K8=false:=cm.fr;rcases Jz with⟨y,u,H⟩|⟨y,B,u,H,R⟩
  .have z:c.mode=6:=by
    rw[hm];show g.H8 g.Au.length=6;rw[F,u,AS,BS.H8];have e:g.D6 0=y:=by unfold BS.D6;rw[Ac (by rw[bf];simp[XC]),F,u];rfl
    rw[e,pT H,bh];simp only
    rw[Ac h0]
   refine⟨⟨cm,λ_=>hd,λ_=> .inr (.inr (.inr (.inr (.inl ⟨z,⟨y,u,H⟩,E⟩)))),λh=>Ab⟩,hne,?_,Ab,col,Ab⟩;rw[z];unfold dU;simp<;>omega
  .have A:c.mode=4:=by
    rw[hm];show g.H8 g.Au.length=4;rw[F,u];show g.H8 (1+1)=4;rw[BS.H8];have e:g.D6 1=B:=by unfold BS.D6;rw[Ac AB,F,u];rfl
    rw[e,pS R Ab]
   refine⟨⟨cm,λ_=>hd,λ_=> .inr (.inr (.inl ⟨A,⟨y,B,u,H,R⟩,E⟩)),λh=>Ab⟩,hne,?_,Ab,col,Ab⟩;rw[A];unfold dU;simp<;>omega
def Cm.eq(o:Cm b)(h1:c.a=b.a)(h2:c.BM=b.BM)(h3:c.Au=b.Au)(e:c.A4=b.A4)(r:c.GO=b.GO)(p:c.Ec=b.Ec)(g:c.K8=b.K8)(f:c.tm=b.tm):Cm c:=
 ⟨o.ok.of_eq h1 h2 h3 e,by rw[h1,e];exact o.ac,by rw[h1,r];exact o.Ł,by rw[p];exact o.fo,by rw[g];exact o.fr,by rw[f];exact o.va⟩
def Q2(cm:Cm c)(hd:4<=c.mode->Me c)(a:c.mode≠8)(sh:Shp c.mode c.Au c.tm):DK c:=⟨cm,hd,λ_=>sh,λh=>absurd h a⟩
def DK.kp(o:DK b)(h:Kp b c)(ho:c.Au=b.Au):DK c:=by
 obtain⟨f,r2,v,e,g,u,s,r⟩:=DO.1 h.rest;refine⟨o.cm.go h,λp=>(o.hd (by rw[<-e];exact p)).go h,λa=>?_,λa=>?_⟩;.rw[e] at a;rw[e,ho,f];exact o.sh a
 .rw[e] at a;rw[ho,f,g];exact o.W8 a
def aBj(o:Ey b):Ey b.PL:=by have hd:=o.BM;have hk:=o.ok.TH _ hd.1;exact o.IP (gM o.ok hd.1 ⟨hk.k,hk.Bm,hk.elem,hk.nm,hk.dt,hk.data,λh=>absurd hd.2 h,hk.sp,hk.zn,hk.Dt,hk.RZ,hk.OI,hk.root,hk.yG⟩ rfl rfl rfl ⟨(o.ok.BM _ hd.1).1,(o.ok.BM _ hd.1).2,o.ok.YB _ hd.1⟩ rfl rfl λa=>a) (Py rfl rfl rfl)
def Ě(o:Ey b):Ey (b.Nn t):=by
 have hd:=o.BM;have hx:qK {kind:=3,BM:=b.BM,name:=t.name,KB:=t.KB,sys:=t.sys}:=by constructor<;>simp[Dt,GB,cQ]
 have RA:=Pv o.ok hx (.inr ⟨AB,hd⟩) rfl rfl rfl rfl (λh=>absurd h.1 (AA:¬(3:Int)=4));exact o.IP (NT RA) (Px.trans Hi)
def jr(o:Cm b):Kp b b.PL:=⟨aBj o.ok,o.ac.le (Py rfl rfl rfl) o.ok.ac,Py rfl rfl rfl,rfl⟩
def pU(o:Cm b):Kp b (b.Nn t):=⟨Ě o.ok,o.ac.le (Px.trans Hi) o.ok.ac,Px.trans Hi,rfl⟩
def sq:GD []:=⟨AA,λa ha=>by cases ha⟩
def vK(hn:nm.length<=1000)(hp:Xc c+1<=Xc b)(h1:c.a=(b.Cu nm [] 1).a)(h2:c.Au=(b.Cu nm [] 1).Au)(h3:c.A4=(b.Cu nm [] 1).A4)(e:c.tm=(b.Cu nm [] 1).tm):Tr b c:=by refine⟨?_,by rw[h3,HS];exact Ad _,λm r=>((QN (m:=m) (sp:=1) (nm:=nm) (r.le Ab) sq hn)).eq h1 h2 h3 e⟩;rw[h2,EJ,Ao,AS];omega
def Zq(ho:c.Au.length+Xc c<=b.Au.length+Xc b)(h1:c.a=b.a)(h2:c.Au.Sublist b.Au)(h3:c.A4.Sublist b.A4)(e:c.tm.length<=b.tm.length):Tr b c:=
 ⟨ho,h3.length_le,λm r=>(r.le Ab).sub h1 h2 h3 e⟩
def vL{qk:DF->Bool}(o:DK b)(hm:b.mode=1):NX t b (b.Js qk t):=by
 have hs:b.Au=[]/\b.tm=[]:=by rcases o.sh Ab with h|h|h|h|h|h<;>first|exact h.2|omega
 have e:∀c:BS,Cm c->c.Au=[]->c.tm=[]->c.mode=2->DK c:=λc cm h1 h2 h3=>Q2 cm (λh=>Ab) Ab (.inl ⟨.inr h3,h1,h2⟩);unfold BS.Js;refine NX.ite (λ_=> .BZ o) λ_=>NX.ite (λ_=> .BZ o) λ_=>NX.ite (λ_=> .BZ (o.kp (Jb o.cm) rfl)) λ_=>NX.ite (λ_=>?_) λ_=>?_
 .refine .inr ⟨e _ ((o.cm.go (jr o.cm)).eq rfl rfl rfl rfl rfl rfl rfl rfl) hs.1 hs.2 rfl,λ_=>⟨?_,?_⟩⟩;.unfold L5;have:(b.PL.again 2).1.mode=2:=rfl;rw[this,hm];simp[dU]
  .refine⟨?_,Ad _,λm r=>((r.le Ab).IP (A':=b.PL.a) (TM rfl rfl)).eq rfl rfl rfl rfl⟩;have:(b.PL.again 2).1.mode=2:=rfl;have g:(b.PL.again 2).1.Au=b.Au:=rfl;unfold Xc;rw[this,hm,g];simp
 .simp only
  have f:=pU (t:=t) o.cm;refine .BZ (e _ ?_ ?_ ?_ rfl)
  .split;.exact((o.cm.go f).go (jr (o.cm.go f))).eq rfl rfl rfl rfl rfl rfl rfl rfl
   .exact(o.cm.go f).eq rfl rfl rfl rfl rfl rfl rfl rfl
  .split<;>exact hs.1
  .split<;>exact hs.2
def aBk(h:nm=aWu):AG [IF] (b.HQ nm at_ 1)=true:=by rw[KS,h];decide
def aL(o:DK b)(hm:b.mode=2):NX t b (b.Fy t):=by
 have hs:b.Au=[]/\b.tm=[]:=by rcases o.sh Ab with h|h|h|h|h|h<;>first|exact h.2|omega
 have e:∀nm at_,nm=aWu->∀c:BS,c.a=(b.Cu nm at_ 1).a->c.BM=(b.Cu nm at_ 1).BM->c.Au=(b.Cu nm at_ 1).Au->c.A4=(b.Cu nm at_ 1).A4->c.GO=(b.Cu nm at_ 1).GO->c.Ec=(b.Cu nm at_ 1).Ec->c.K8=(b.Cu nm at_ 1).K8->c.tm=(b.Cu nm at_ 1).tm->c.mode=3->DK c:=by
  intro nm at_ hn c h1 h2 h3 u s r p f g;have k:=GG (nm:=nm) (l:=at_) (sp:=1) o.cm;refine Q2 ((o.cm.go k).eq h1 h2 h3 u s r p f) (λh=>Ab) Ab (.inr (.inl ⟨g,⟨_,?_,aBk (b:=b) (at_:=at_) hn⟩,?_⟩));.rw[h3,EJ,hs.1];rfl
  .rw[f,(DO.1 k.rest).1];exact hs.2
 unfold BS.Fy;refine NX.ite (λ_=> .BZ o) λ_=>NX.ite (λ_=> .BZ o) λ_=>NX.ite (λ_=> .BZ o) λ_=>NX.ite (λ_=> .BZ o) λ_=>NX.ite (λ_=> .BZ (o.kp (Jb o.cm) rfl)) λ_=>NX.ite (λh=>?_) λ_=>?_;.exact .BZ (e t.name t.As (by simpa using h.2) _ rfl rfl rfl rfl rfl rfl rfl rfl rfl)
 .refine .inr ⟨e aWu [] rfl _ rfl rfl rfl rfl rfl rfl rfl rfl rfl,λ_=>⟨?_,?_⟩⟩;.unfold L5;have:((b.CU (JV aWu)).again 3).1.mode=3:=rfl;rw[this,hm];simp[dU]
  .refine vK (nm:=aWu) AA ?_ rfl rfl rfl rfl;have:((b.CU (JV aWu)).again 3).1.mode=3:=rfl;unfold Xc;rw[this,hm];simp
def OT:(b.IM t).Au=b.Au:=by unfold BS.IM;split;rfl;exact dL
def Q3(o:Cm b):Kp b (b.IM t):=by unfold BS.IM;split;exact .refl o;exact Ze o
def aM(o:DK b)(hm:b.mode=3):NX t b (b.Fz t):=by
 obtain⟨hs,iZ⟩:(∃h,b.Au=[h]/\AG [IF] h=true)/\b.tm=[]:=by rcases o.sh Ab with h|h|h|h|h|h<;>first|exact h.2|omega
 obtain⟨p,z,y⟩:=hs;have f:∀nm at_,nm=IL->∀c:BS,c.a=(b.Cu nm at_ 1).a->c.BM=(b.Cu nm at_ 1).BM->c.Au=(b.Cu nm at_ 1).Au->c.A4=(b.Cu nm at_ 1).A4->c.GO=(b.Cu nm at_ 1).GO->c.Ec=(b.Cu nm at_ 1).Ec->c.K8=(b.Cu nm at_ 1).K8->c.tm=(b.Cu nm at_ 1).tm->c.mode=4->c.head=b.Mw 1->DK c:=by
  intro nm at_ hn c h1 h2 h3 w v u s g r YV;have k:=GG (nm:=nm) (l:=at_) (sp:=1) o.cm;have hw:=OO (b:=b) (nm:=nm) (l:=at_);have e:c.head=b.a.len+1:=by rw[YV];unfold BS.Mw;rw[Af Kw]
  refine Q2 ((o.cm.go k).eq h1 h2 h3 w v u s g) (λ_=>?_) Ab (.inr (.inr (.inl ⟨r,⟨p,b.HQ nm at_ 1,?_,y,?_⟩,?_⟩)));.exact⟨by rw[h1,e];exact hw.2.2.1,by rw[h1,e];exact hw.2.2.2,by rw[h1,e];exact hw.2.1,by rw[h1,e,hw.1];exact hn⟩
  .rw[h3,EJ,z];rfl
  .rw[KS,hn];decide
  .rw[g,(DO.1 k.rest).1];exact iZ
 unfold BS.Fz;refine NX.ite (λ_=> .BZ o) λ_=>NX.ite (λ_=> .BZ o) λ_=>NX.ite (λ_=> .BZ o) λ_=>NX.ite (λ_=> .BZ o) λ_=>NX.ite (λ_=> .BZ (o.kp (Jb o.cm) rfl)) λ_=>NX.ite (λ_=> .BZ (o.kp (Q3 o.cm) OT)) λ_=>NX.ite (λh=>?_) λ_=>?_;.exact .BZ (f t.name t.As (by simpa using h.2) _ rfl rfl rfl rfl rfl rfl rfl rfl rfl rfl)
 .refine .inr ⟨f IL [] rfl _ rfl rfl rfl rfl rfl rfl rfl rfl rfl rfl,λ_=>⟨?_,?_⟩⟩;.unfold L5;have:(BS.again {b.CU (JV aWy) with head:=b.Mw 1} 4).1.mode=4:=rfl;rw[this,hm];simp[dU]
  .refine vK (nm:=aWy) AA ?_ rfl rfl rfl rfl;have:(BS.again {b.CU (JV aWy) with head:=b.Mw 1} 4).1.mode=4:=rfl;unfold Xc;rw[this,hm];simp
def ě(o:Cm b){s:Int}:Cm (b.Df nm at_ s):=(o.go (GG (nm:=nm) (l:=at_) (sp:=1) o)).eq rfl rfl rfl rfl rfl rfl rfl rfl
def Ĝ(o:Me b){s:Int}:Me (b.Df nm at_ s):=o.le (c:=b.Df nm at_ s) PC (by have:=(DO.1 (LU (b:=b) (nm:=nm) (l:=at_) (sp:=1))).2.2.1;exact this)
def kE{s:Int}:(b.Df nm at_ s).Au=b.Au++[b.HQ nm at_ 1]:=EJ
def Zr{s:Int}:(b.Df nm at_ s).tm=b.tm/\(b.Df nm at_ s).IE=b.mode:=by have:=DO.1 (LU (b:=b) (nm:=nm) (l:=at_) (sp:=1));exact⟨this.1,this.2.2.2.1⟩
def kF(cm:Cm b)(hd:Me b)(h1:nm∈aK)(e:4<=b.mode)(a:b.mode≠8)(sh:Shp b.mode b.Au b.tm){s:Int}:DK (b.Df nm at_ s):=by
 refine⟨ě cm,λ_=>Ĝ hd,λh=>absurd rfl h,λ_=>⟨b.Au,b.HQ nm at_ 1,kE,?_,?_,?_,?_⟩⟩;.rw[KS];simpa using h1
 .rw[Zr.2];exact e
 .rw[Zr.2];exact a
 .rw[Zr.1,Zr.2];exact sh
def Dp.W8(o:Dp P q T b)(hm:q=7\/(q=18/\T≠[]))(h1:nm∈aK){s:Int}:DK (b.Df nm at_ s):=
 kF o.cm o.hd h1 (by rw[o.md];omega) (by rw[o.md];omega) ((Jc o hm).sh (by rw[o.md];omega))
def BS.Nq(b:BS)(t:DF):BS:={b.CU t with A4:=(b.CU t).A4++[Ck.zero],fs:=false,mode:=18,tm:=(b.CU t).tm++[18]}
def vM(o:Cm b):Cm (b.Nq t):=by
 have a:=o.go (GG (nm:=t.name) (l:=t.As) (sp:=1) o);refine⟨(jM a.ok).of_eq rfl rfl rfl rfl,?_,a.Ł,a.fo,a.fr,?_⟩
 .intro e he;rcases An.1 he with h|h
  .exact a.ac e h
  .simp at h;subst h;exact .inl rfl
 .intro m hm;rcases An.1 hm with h|h
  .exact a.va m h
  .simp at h;exact .inr h
def vN(o:Me b):Me (b.Nq t):=o.le (c:=b.Nq t) PC (by have:=(DO.1 (LU (b:=b) (nm:=t.name) (l:=t.As) (sp:=1))).2.2.1;exact this)
def vO:(b.Nq t).tm=b.tm++[18]:=by have:=(DO.1 (LU (b:=b) (nm:=t.name) (l:=t.As) (sp:=1))).1;show(b.Cu t.name t.As 1).tm++[18]=_;rw[this]
def Ub:(b.Nq t).Au=b.Au++[b.HQ t.name t.As 1]:=EJ
def vP(h:t.name=AT):Eg (b.HQ t.name t.As 1)=true:=by rw[Eg,KS,h];decide
def ĝ{P:List Item}(p:Pf P)(hc:P.countP Eg=1):DL P P 1:=by
 have e:P.filter AO=P:=Hn.2 λi hi=>p.sp i hi;refine⟨p,Bk,λi hi=>?_,by rw[e];exact hc,?_⟩;.rw[e,Ft] at hi;cases hi
 .rw[e];intro A x C a hx;have:=p.not (ws:=[wP]) AA x (by rw[a];simp);rw[this] at hx;cases hx
def aBl(cm:Cm b)(hd:Me b)(hn:t.name=AT)(hs:(∃h,b.Au=[h]/\AG [IF] h=true)\/(∃h d,b.Au=[h,d]/\AG [IF] h=true/\AG [IL] d=true))(o:b.tm=[]):DK (b.Nq t):=by
 have u:(b.Nq t).tm=[18]:=by rw[vO,o];rfl
 have g:∀{i:Item} {w:Ah},AG [w] i=true->w≠AT->Eg i=false:=λh hw=>Zd (by simpa using CZ hw) h;have f:=vP (b:=b) hn;have key:∀P,Pf P->P.countP Eg=1->(b.Nq t).Au=P->DK (b.Nq t):=λP p hc e=>Jc (P:=P) (q:=18) (T:=[18]) ⟨vM cm,vN hd,by rw[e];exact ĝ p hc,rfl,u⟩ (.inr ⟨rfl,AB⟩)
 rcases hs with⟨h,r,a⟩|⟨h,d,r,a,s⟩
 .refine key _ (.Of h _ a f) ?_ (by rw[Ub,r];rfl);simp[g a AA,f]
 .refine key _ (.head h d _ a s f) ?_ (by rw[Ub,r];rfl);simp[g a AA,g s AA,f]
def Dp.Of(o:Dp P q T b)(hn:t.name=AT):DK (b.Nq t):=by refine Jc (P:=P) (q:=18) (T:=T++[18]) ⟨vM o.cm,vN o.hd,?_,rfl,by rw[vO,o.tme]⟩ (.inr ⟨rfl,AB⟩);rw[Ub,Ao,AS];exact o.d.aKk (vP hn)
def Mi{Q:BS×Bool->Prop}(hk:t.ok)(hs:t.st F6)(h1:t.name∈VO->Q (b.GF t,false))(h2:t.name∈aK->∀s,(s=2\/s=3\/s=4)->Q (b.Df t.name t.As s,false))(h3:t.name=AT->Q (b.Nq t,false)):Q (b.De t):=by
 obtain⟨a,hn⟩:=hs;have a1:¬t.k=1:=Ab;have a2:¬t.st [aWy]:=λh=>by have:=h.2;simp at this;rw[this] at hn;exact absurd hn AA
 have a3:∀ws,¬t.lL ws:=λws h=>by have:=h.1;omega
 have a4:¬t.JE:=λh=>by have:=h.1;omega
 have a5:¬t.k=4:=Ab;have a6:¬t.st [aWu]:=λh=>by have:=h.2;simp at this;rw[this] at hn;exact absurd hn AA
 unfold BS.De;rw[Ac (by simpa using hk),Ac a1,Ac a2,Ac (a3 _),Ac a4,Ac a5,Ac a6];by_cases o:t.st VO;.rw[Af o];exact h1 o.2
 rw[Ac o];by_cases g:t.st [aWO];.rw[Af g];exact h2 (by have:=g.2;simp at this;rw[this];decide) 2 Ab
 rw[Ac g];by_cases f:t.st sNS;.rw[Af f];exact h2 (by have:=f.2;simp only[sNS,AE,Ej,Ml] at this;rcases this with h|h<;>rw[h]<;>decide) 3 Ab
 rw[Ac f];by_cases e:t.st [aW7];.rw[Af e];exact h2 (by have:=e.2;simp at this;rw[this];decide) 4 Ab
 rw[Ac e];have p:t.name=AT:=by have b1:t.name∉VO:=λh=>o ⟨a,h⟩;have b2:t.name∉[aWO]:=λh=>g ⟨a,h⟩;have b3:t.name∉sNS:=λh=>f ⟨a,h⟩;have b4:t.name∉[aW7]:=λh=>e ⟨a,h⟩;simp only[VO,sNS,F6,AE,Ej,Ml,PU] at b1 b2 b3 b4 hn;rcases hn with h|h|h|h|h|h|h|h|h|h<;>first|exact h|exact absurd h b1.1|exact absurd h b1.2.1|exact absurd h b1.2.2.1|exact absurd h b1.2.2.2.1|exact absurd h b1.2.2.2.2|exact absurd h b2|exact absurd h b3.1|exact absurd h b3.2|exact absurd h b4
 have u:¬t.st [aWF]:=λh=>by have:=h.2;rw[p] at this;exact absurd this AA
 have r:¬t.en [aWy]:=λh=>by have:=h.1;omega
 rw[Ac u,Ac r,Af ⟨a,by rw[p];simp⟩];exact h3 p
def OU(hk:t.ok)(hs:t.en [AT]):b.De t=(b.Di,false):=by
 obtain⟨e,hn⟩:=hs;have a:t.name=AT:=by simpa using hn
 have a1:¬t.k=1:=Ab;have a2:∀ws,¬t.st ws:=λws h=>by have:=h.1;omega
 have a3:¬t.lL iv:=λh=>h.2 (by rw[a];decide);have a4:¬t.JE:=λh=>by have:=h.1;omega
 have a5:¬t.k=4:=Ab;have a6:¬t.en [aWy]:=λh=>by have:=h.2;rw[a] at this;exact absurd this AA
 unfold BS.De;rw[Ac (by simpa using hk),Ac a1,Ac (a2 _),Ac a3,Ac a4,Ac a5,Ac (a2 _),Ac (a2 _),Ac (a2 _),Ac (a2 _),Ac (a2 _),Ac (a2 _),Ac a6,Ac (a2 _),Af ⟨e,hn⟩]
def VU(o:Dp P q T b)(hm:q=7\/(q=18/\T≠[]))(hk:t.ok)(hs:t.st F6):NX t b (b.De t):=
 Mi hk hs (λ_=> .BZ (Jc o.eD hm)) (λh s _=> .BZ (o.W8 hm h)) λh=> .BZ (o.Of h)
def js(o:Dp P b.mode b.tm b)(hm:b.mode=7\/(b.mode=18/\b.tm≠[])):DK b.Di:=by
 unfold BS.Di;split;.exact Jc o hm
 .rename_i h;have h1:0<=AD (AG [AT]) b.Au:=Ab;rw[Nl (λ_=>QV) h1];exact(kD o h1 rfl).1
def aN{i:Item}{w:Ah}(h:AG [w] i=true)(hw:w≠AT):Eg i=false:=Zd (by simpa using CZ hw) h
def Xe(h:∀i∈b.Au,Eg i=false):b.Di=b:=by
 refine rh ?_;rcases BY (q:=Eg) (l:=b.Au) with⟨h1,_⟩|⟨k,hk,_,h2,_⟩
 .show AD Eg b.Au<0;omega
 .rw[h _ (AF hk)] at h2;cases h2
def vQ(o:DK b)(hm:b.mode=4):NX t b (b.De t):=by
 obtain⟨⟨e,hd,a,r,u⟩,iZ⟩:(∃h d,b.Au=[h,d]/\AG [IF] h=true/\AG [IL] d=true)/\b.tm=[]:=by rcases o.sh Ab with h|h|h|h|h|h<;>first|exact h.2|omega
 have p:=o.hd Ab;have SN:b.FY={b with Au:=[e]}:=by unfold BS.FY;rw[a];rfl
 have f:DK {b.FY with mode:=6}:=by rw[SN];exact Q2 ((o.cm.go (qM o.cm (ol:=[e]) (by rw[a];simp))).eq rfl rfl rfl rfl rfl rfl rfl rfl) (λ_=>p.le .refl rfl) AB (.inr (.inr (.inr (.inr (.inl ⟨rfl,⟨e,rfl,r⟩,iZ⟩)))))
 by_cases hk:t.ok;rotate_left;.unfold BS.De;rw[Af hk];exact .BZ o
 by_cases v:t.st F6;.refine Mi hk v (λ_=> .BZ (o.kp (T4 o.cm) (Q0 (by rw[a];simp)))) (λh s _=> .BZ (kF o.cm p h Ab Ab (o.sh Ab))) λh=> .BZ (aBl o.cm p h (.inr ⟨e,hd,a,r,u⟩) iZ)
 have g:∀ws:List Ah,(∀w∈ws,w∈F6)->¬t.st ws:=λws hw h=>v ⟨h.1,hw _ h.2⟩;unfold BS.De;rw[Ac (by simpa using hk)];refine NX.ite (λ_=> .BZ o) λ_=>NX.ite (λ_=> .BZ o) λ_=>NX.ite (λ_=> .BZ o) λ_=>NX.ite (λ_=> .BZ (o.kp (PQ o.cm) rfl)) λ_=>NX.ite (λ_=> .BZ (o.kp (Jb o.cm) rfl)) λ_=>NX.ite (λ_=> .BZ (o.kp (Q3 o.cm) OT)) λ_=>?_;rw[Ac (g _ AA),Ac (g _ AA),Ac (g _ AA),Ac (g _ AA)];refine NX.ite (λh=>?_) λ_=>NX.ite (λ_=> .BZ f) λ_=>?_
 .have k:=GG (nm:=t.name) (l:=t.As) (sp:=1) o.cm;refine .BZ (Q2 ((o.cm.go k).eq rfl rfl rfl rfl rfl rfl rfl rfl) (λ_=>(p.go k).le .refl rfl) AB (.inr (.inr (.inr (.inl ⟨rfl,⟨e,hd,b.HQ t.name t.As 1,?_,r,u,?_⟩,?_⟩)))));.show(b.Cu t.name t.As 1).Au=_;rw[EJ,a];rfl
  .rw[KS];simpa using h.2
  .show(b.Cu t.name t.As 1).tm=_;rw[(DO.1 k.rest).1];exact iZ
 .rw[Ac (g _ AA)];refine NX.ite (λ_=>?_) λ_=> .inr ⟨f,λ_=>⟨?_,?_⟩⟩
  .rw[Xe (λi hi=>by
    rw[a] at hi;simp at hi;rcases hi with rfl|rfl
    .exact aN r AA
    .exact aN u AA)]
   exact .BZ o
  .unfold L5;have:(b.FY.again 6).1.mode=6:=rfl;rw[this,hm];simp[dU]
  .have y:(b.FY.again 6).1={b with Au:=[e],mode:=6}:=by unfold BS.again;rw[SN]
   rw[y];refine Zq ?_ rfl (by rw[a];simp) (BQ _) (Ad _);unfold Xc;rw[hm,a];simp
def aO(o:DK b)(hm:b.mode=5):NX t b (b.FA t):=by
 obtain⟨⟨f,hd,x,e,z,y,F⟩,iZ⟩:(∃h d x,b.Au=[h,d,x]/\AG [IF] h=true/\AG [IL] d=true/\AG [aGK] x=true)/\b.tm=[]:=by rcases o.sh Ab with h|h|h|h|h|h<;>first|exact h.2|omega
 have p:=o.hd Ab;have SN:b.FY={b with Au:=[f,hd]}:=by unfold BS.FY;rw[e];rfl
 have a:DK {b.FY with mode:=4}:=by rw[SN];exact Q2 ((o.cm.go (qM o.cm (ol:=[f,hd]) (by rw[e];simp))).eq rfl rfl rfl rfl rfl rfl rfl rfl) (λ_=>p.le .refl rfl) AB (.inr (.inr (.inl ⟨rfl,⟨f,hd,rfl,z,y⟩,iZ⟩)))
 unfold BS.FA;by_cases hk:t.ok;rotate_left;.rw[Af hk];exact .BZ o
 rw[Ac (by simpa using hk)];refine NX.ite (λ_=> .BZ o) λg=>NX.ite (λ_=> .BZ o) λB=>NX.ite (λ_=> .BZ o) λA=>NX.ite (λ_=> .BZ (o.kp (Q3 o.cm) OT)) λD=>NX.ite (λ_=> .BZ a) λ_=>NX.ite (λh=>?_) λr=>NX.ite (λh=>?_) λC=>NX.ite (λh=>?_) λ_=> .inr ⟨a,λ_=>⟨?_,?_⟩⟩;.unfold BS.De;have E:=h.1;rw[Ac (by simpa using hk),Ac g,Ac (λh=>by have:=h.1;omega),Ac (λh=>by have:=h.1;omega),Af h];exact .BZ (o.kp (PQ o.cm) rfl)
 .unfold BS.De;rw[Ac (by simpa using hk),Ac g,Ac (λh=>by have:=h.1;omega),Ac (λh=>by have:=h.1;omega),Ac r,Af h];exact .BZ (o.kp (Jb o.cm) rfl)
 .refine Mi hk ⟨h.1,by have key:∀w∈û,w∈F6:=AA;exact key _ h.2⟩ (λ_=> .BZ (o.kp (T4 o.cm) (Q0 (by rw[e];simp)))) (λh s _=> .BZ (kF o.cm p h Ab Ab (o.sh Ab))) λu=>?_;have:=h.2;rw[u] at this;exact absurd this AA
 .unfold L5;have:(b.FY.again 4).1.mode=4:=rfl;rw[this,hm];simp[dU]
 .have v:(b.FY.again 4).1={b with Au:=[f,hd],mode:=4}:=by unfold BS.again;rw[SN]
  rw[v];refine Zq ?_ rfl (by rw[e];simp) (BQ _) (Ad _);unfold Xc;rw[hm,e];simp
def sr(o:DK b)(hm:b.mode=8):NX t b (b.LA t):=by
 obtain⟨X,r,e,A,z,p,sh⟩:=o.W8 hm;have u:X≠[]:=by
  rintro rfl;rcases sh with h|h|h|h|h|h
  .omega
  .omega
  .obtain⟨_,_,h2,_⟩:=h.2.1;cases h2
  .obtain⟨_,_,_,h2,_⟩:=h.2.1;cases h2
  .obtain⟨_,h2,_⟩:=h.2.1;cases h2
  .obtain⟨P,g⟩:=h.2;have v:=g.len;have y:=g.pf.len;rw[AW] at v;omega
 have s:=CB.2 u;have SN:b.FY={b with Au:=X}:=by unfold BS.FY;rw[Ac (by rw[e];simp;omega)];rw[e];simp
 have a:DK {b.FY with mode:=b.IE}:=by rw[SN];exact Q2 ((o.cm.go (qM o.cm (ol:=X) (by rw[e];simp))).eq rfl rfl rfl rfl rfl rfl rfl rfl) (λ_=>(o.hd Ab).le .refl rfl) p sh
 unfold BS.LA;refine NX.ite (λ_=> .BZ o) λ_=>NX.ite (λ_=> .BZ (o.kp (PQ o.cm) rfl)) λ_=>NX.ite (λh=> .inr ⟨a,λ_=>⟨?_,?_⟩⟩) λ_=>NX.ite (λ_=> .BZ a) λ_=> .BZ o
 .unfold L5;have f:(b.FY.again b.IE).1.mode=b.IE:=rfl;have w:(b.FY.again b.IE).1.tm=b.tm:=by show b.FY.tm=_;rw[SN]
  rw[f,w,Af h,Af h,Ac p,Af hm];omega
 .have f:(b.FY.again b.IE).1={b with Au:=X,mode:=b.IE}:=by unfold BS.again;rw[SN]
  rw[f];refine Zq ?_ rfl (by rw[e];simp) (BQ _) (Ad _);unfold Xc;rw[hm,e];simp only[Ao,AS];(repeat' split)<;>omega
def DK.Zt(o:DK b)(hm:b.mode=6):Np b:=by
 obtain⟨⟨f,e,g⟩,iZ⟩:(∃h,b.Au=[h]/\AG [IF] h=true)/\b.tm=[]:=by rcases o.sh Ab with h|h|h|h|h|h<;>first|exact h.2|omega
 have a:=o.hd Ab;refine⟨a.has,a.kind,a.A9,a.name,λh=>?_⟩;rw[e] at h;simp at h;have h1:=o.cm.ok.op f (by rw[e];simp);rw[<-h,a.name] at h1;have h2:=(Ca.1 g).2;simp at h2;have h3:=h1.2.2.2;rw[h2] at h3;exact absurd h3 AA
def jt(o:Cm b)(a:Np b):Cm {b with Au:=b.Au++[BS.DD b.head]}:=by have RA:=o.ok.aAb (i:=BS.DD b.head) (k:=b.Au.length) ⟨a.has,a.kind,a.A9,a.name⟩ a.no;rw[Bk,Ft] at RA;exact⟨RA,o.ac,o.Ł,o.fo,o.fr,o.va⟩
def Zu(f:Item)(n:Int)(hn:f.node≠n)(r:List Item)(hr:∀i∈r,i.node≠n):Ce n ([f,BS.DD n]++r)=f::r:=by
 have e:AD (Bt n) ([f,BS.DD n]++r)=1:=by have:=Hv (q:=Bt n) (a:=[f]) (i:=BS.DD n) (c:=r) (Ak rfl) (λx hx=>Ap (hr x hx));simpa using this
 unfold Ce;rw[e,Ac AA];rfl
def Q4{Q:BS×Bool->Prop}(o:DK b)(hm:b.mode=6)(hk:t.ok)(hs:t.st F6)
  (h1:t.name∈VO->∀c:BS,DK c->c.Au=b.Au->c.mode=6->c.tm=b.tm->c.A4=b.A4->Q (c,false))
  (h2:t.name∈aK->∀c:BS,DK c->(∃x,c.Au=b.Au++[x])->c.mode=8->c.IE=6->c.sw≠0->c.tm=b.tm->Q (c,false))
  (h3:t.name=AT->∀c:BS,DK c->(∃x,Eg x=true/\c.Au=b.Au++[x])->c.mode=18->c.tm=b.tm++[18]->c.A4=b.A4++[Ck.zero]->Q (c,false)):Q (b.E7 t):=by
 have I:=o.Zt hm;obtain⟨⟨h0,A,N⟩,iZ⟩:(∃h,b.Au=[h]/\AG [IF] h=true)/\b.tm=[]:=by rcases o.sh Ab with h|h|h|h|h|h<;>first|exact h.2|omega
 have W:=o.hd Ab;have w:h0.node≠b.head:=λe=>I.no (by rw[A];simp[e]);obtain⟨b1,Qx⟩:∃b1:BS,b1={b with Au:=b.Au++[BS.DD b.head]}:=⟨_,rfl⟩;have key:b.E7 t=({(b1.De t).1 with Au:=Ce b.head (b1.De t).1.Au},(b1.De t).2):=by rw[Qx];rfl
 have p:Cm b1:=by rw[Qx];exact jt o.cm I
 have uf:b1.Au=[h0,BS.DD b.head]:=by rw[Qx];show b.Au++[BS.DD b.head]=_;rw[A];rfl
 have G:b1.mode=6:=by rw[Qx];exact hm
 have F:b1.tm=b.tm:=by rw[Qx]
 have a1:b1.A4=b.A4:=by rw[Qx]
 have O:b1.a=b.a:=by rw[Qx]
 have Z:b1.head=b.head:=by rw[Qx]
 have z:Me b1:=W.le (by rw[O];exact .refl) Z;have hlen:b.head≠b1.a.len+1:=by rw[O];exact Sx I.has
 have v:=o.sh Ab;rw[hm] at v;rw[key];clear key Qx;refine Mi (b:=b1) (Q:=λr=>Q ({r.1 with Au:=Ce b.head r.1.Au},r.2)) hk hs (λV=>?_) (λL s U=>?_) λK=>?_
 .have k:Kp b1 (b1.GF t):=T4 (nm:=t.name) (l:=t.As) p;have D:(b1.GF t).Au=[h0,BS.DD b.head]:=(Q0 (b:=b1) (nm:=t.name) (l:=t.As) (by rw[uf];simp)).trans uf;have u:Ce b.head (b1.GF t).Au=b.Au:=by rw[D,A];exact Zu h0 b.head w [] (λi hi=>by cases hi)
  obtain⟨J,_,R,H,_⟩:=DO.1 k.rest;have S:(b1.GF t).A4=b.A4:=by
   have Y:∀c:BS,c.FY.A4=c.A4:=λc=>by unfold BS.FY;split<;>rfl
   have X:(b1.CU t).A4=b1.A4:=HS;show(b1.CU t).FY.A4=_;rw[Y,X,a1]
  generalize b1.GF t=c at*;have f:=p.go k;refine h1 V _ (Q2 (f.go (qM f (EI (n:=b.head)))) (λ_=>(z.le (c:=c) k.le R).le .refl rfl) ?_ ?_) u (H.trans G) (J.trans F) S;.show c.mode≠8;rw[H,G];decide
  .show Shp c.mode (Ce b.head c.Au) c.tm;rw[H,G,u,J,F];exact v
 .have f:=ě (nm:=t.name) (at_:=t.As) (s:=s) p;have D:(b1.Df t.name t.As s).Au=[h0,BS.DD b.head]++[b1.HQ t.name t.As 1]:=by rw[kE,uf]
  have u:Ce b.head (b1.Df t.name t.As s).Au=b.Au++[b1.HQ t.name t.As 1]:=by rw[D,A];exact Zu h0 b.head w _ (λi hi=>by simp only[Bq] at hi;rw[hi,T1];exact CZ hlen)
  have C:=Zr (b:=b1) (nm:=t.name) (at_:=t.As) (s:=s);have B:=C.1.trans F;have g:=C.2.trans G;have Um:=Ĝ (nm:=t.name) (at_:=t.As) (s:=s) z;have M:(b1.Df t.name t.As s).mode=8:=rfl;have es:(b1.Df t.name t.As s).sw=s:=rfl;generalize b1.Df t.name t.As s=c at*;refine h2 L _ ⟨f.go (qM f (EI (n:=b.head))),λ_=>Um.le .refl rfl,λh=>absurd M h,λ_=>⟨b.Au,b1.HQ t.name t.As 1,u,?_,?_,?_,?_⟩⟩ ⟨_,u⟩ M g (by show c.sw≠0;rw[es];omega) B;.rw[KS];simpa using L
  .show 4<=c.IE;rw[g];decide
  .show c.IE≠8;rw[g];decide
  .show Shp c.IE b.Au c.tm;rw[g,B];exact v
 .have f:=vM (t:=t) p;have D:(b1.Nq t).Au=[h0,BS.DD b.head]++[b1.HQ t.name t.As 1]:=by rw[Ub,uf]
  have u:Ce b.head (b1.Nq t).Au=b.Au++[b1.HQ t.name t.As 1]:=by rw[D,A];exact Zu h0 b.head w _ (λi hi=>by simp only[Bq] at hi;rw[hi,T1];exact CZ hlen)
  have C:(b1.Nq t).tm=b.tm++[18]:=by rw[vO,F]
  have y:=vP (b:=b1) K;have ea:(b1.Nq t).A4=b.A4++[Ck.zero]:=by show(b1.CU t).A4++[Ck.zero]=_;have:(b1.CU t).A4=b1.A4:=HS;rw[this,a1]
  have Um:=vN (t:=t) z;have E:(b1.Nq t).mode=18:=rfl;generalize b1.Nq t=c at*;refine h3 K _ (Jc (P:=[h0,b1.HQ t.name t.As 1]) (q:=18) (T:=[18]) ⟨f.go (qM f (EI (n:=b.head))),Um.le .refl rfl,?_,E,?_⟩ (.inr ⟨rfl,AB⟩)) ⟨_,y,u⟩ E C ea;.show DL _ (Ce b.head c.Au) _;rw[u,A];exact ĝ (.Of h0 _ N y) (by simp[aN N AA,y])
  .show c.tm=_;rw[C,iZ];rfl
def aBm{h o:Item}(h1:AG [IF] h=true)(h2:AG [Io] o=true):DL [h,o] [h,o] 0:=by
 have p:=Pf.body h o h1 h2;have e:[h,o].filter AO=[h,o]:=Hn.2 λi hi=>p.sp i hi;refine⟨p,rfl,λi hi=>?_,by rw[e];simp[aN h1 AA,aN h2 AA],?_⟩;.rw[e] at hi;cases hi
 .rw[e];intro A x C a hx;have:=p.not (ws:=[wP]) AA x (by rw[a];simp);rw[this] at hx;cases hx
def kG(o:DK b)(hm:b.mode=6):NX t b (b.Gn t):=by
 obtain⟨⟨h0,r,p⟩,iZ⟩:(∃h,b.Au=[h]/\AG [IF] h=true)/\b.tm=[]:=by rcases o.sh Ab with h|h|h|h|h|h<;>first|exact h.2|omega
 have s:=o.hd Ab;have e:∀nm at_,nm=Io->∀c:BS,c.a=(b.Cu nm at_ 1).a->c.BM=(b.Cu nm at_ 1).BM->c.Au=(b.Cu nm at_ 1).Au->c.A4=(b.Cu nm at_ 1).A4->c.GO=(b.Cu nm at_ 1).GO->c.Ec=(b.Cu nm at_ 1).Ec->c.K8=(b.Cu nm at_ 1).K8->c.tm=(b.Cu nm at_ 1).tm->c.mode=7->c.head=(b.Cu nm at_ 1).head->DK c:=by
  intro nm at_ hn c h1 h2 h3 z y w v f u YV;have k:=GG (nm:=nm) (l:=at_) (sp:=1) o.cm;have A:c.tm=[]:=by rw[f,(DO.1 k.rest).1];exact iZ
  refine Jc (P:=[h0,b.HQ nm at_ 1]) (q:=7) (T:=[]) ⟨(o.cm.go k).eq h1 h2 h3 z y w v f,(s.go k).le (by rw[h1];exact .refl) YV,?_,u,A⟩ (.inl rfl);rw[h3,EJ,r];exact aBm p (by rw[KS,hn];decide)
 unfold BS.Gn;by_cases hk:t.ok;rotate_left;.rw[Af hk];exact .BZ o
 rw[Ac (by simpa using hk)];refine NX.ite (λ_=> .BZ o) λ_=>NX.ite (λ_=> .BZ o) λ_=>NX.ite (λ_=> .BZ o) λ_=>NX.ite (λ_=> .BZ (o.kp (PQ o.cm) rfl)) λ_=>NX.ite (λ_=> .BZ (o.kp (Jb o.cm) rfl)) λ_=>NX.ite (λ_=> .BZ (o.kp (Q3 o.cm) OT)) λ_=>NX.ite (λh=>?_) λ_=>NX.ite (λ_=> .inl rfl) λ_=>NX.ite (λh=>?_) λ_=>NX.ite (λh=>?_) λ_=>?_;.exact .BZ (e t.name t.As (by simpa using h.2) _ rfl rfl rfl rfl rfl rfl rfl rfl rfl rfl)
 .exact Q4 o hm hk h (λ_ c i _ _ _ _=> .BZ i) (λ_ c i _ _ _ _ _=> .BZ i) λ_ c i _ _ _ _=> .BZ i
 .rw[OU hk h,Xe (λi hi=>by rw[r] at hi;simp at hi;rw[hi];exact aN p AA)]
  exact .BZ o
 .refine .inr ⟨e Io [] rfl _ rfl rfl rfl rfl rfl rfl rfl rfl rfl rfl,λ_=>?_⟩;have g:((b.CU (JV aWz)).again 7).1.mode=7:=rfl;have k:=GG (nm:=aWz) (l:=[]) (sp:=1) o.cm;have B:((b.CU (JV aWz)).again 7).1.tm=b.tm:=(DO.1 k.rest).1;refine⟨?_,vK (nm:=aWz) AA ?_ rfl rfl rfl rfl⟩;.unfold L5;rw[g,B,hm,iZ];simp[dU]
  .unfold Xc;rw[g,hm];simp
def ju(o:DK b):NX t b ({b with stop:=true},false):= .BZ (o.kp (kpE o.cm rfl rfl rfl rfl) rfl)
def Dp.Ks(o:Dp P q T b):Dp P q T (b.Ks t):=by
 unfold BS.Ks;split;.exact o
 .simp only
  split;.exact o.AL.Kx
  .exact(o.AL.Kx).eq rfl rfl rfl rfl
def dV(o:Dp P b.mode b.tm b)(hm:b.mode=7\/(b.mode=18/\b.tm≠[]))(hk:t.k=6)(hne:b.tm≠[]):NX t b b.Mz:=by
 unfold BS.Mz;split
 .rename_i h;unfold BS.Of at h;rw[Ps];obtain⟨c,hc⟩:∃c:BS,c=BS.JD {b with Au:=GQ b.Au (AD Eg b.Au),A4:=Fw b.A4,tm:=b.tm.dropLast}:=⟨_,rfl⟩;obtain⟨h1,h2,h3,u,p,w⟩:=kD o h hc;have A:c.a=b.a:=by rw[hc];rfl
  have v:c.Au=GQ b.Au (AD Eg b.Au):=by rw[hc];rfl
  have z:c.A4=Fw b.A4:=by rw[hc];rfl
  have y:c.tm=b.tm.dropLast:=by rw[hc];rfl
  have Wd:c=BS.JD {b with Au:=GQ b.Au (AD (AG [AT]) b.Au),A4:=Fw b.A4,tm:=b.tm.dropLast}:=hc;rw[<-Wd];clear hc Wd;have s:Xc b=1:=by
   unfold Xc;rcases hm with f|f
   .rw[f];simp
   .rw[f.1];simp
  refine .inr ⟨h1,λ_=>⟨?_,Zq ?_ A (by rw[v];exact Ng) (by rw[z];exact Cf _ _) (by rw[y];simp)⟩⟩
  .unfold L5;have hb:dU b.mode b.tm.length=b.tm.length+3:=by
    have:=CB.2 hne;unfold dU;rcases hm with p|p
    .rw[p];simp;omega
    .rw[p.1];simp;omega
   simp only[Af hk,Ac u,Ac (Ab:¬b.mode=8),hb];exact h3
  .have:Xc c<=Xc b+1:=by
    have e:=h1.sh u;rw[s];have r:c.Au≠[]:=by
     intro g;rw[v] at g;unfold GQ at g;rw[List.take_eq_nil_iff] at g;rcases g with g|g
     .omega
     .have YV:=o.d.len;have RI:=o.d.pf.len;rw[g,AW] at YV;omega
    unfold Xc;rcases e with e|e|e|e|e|e
    .exact absurd e.2.1 r
    .exact absurd e.1 w
    .rw[e.1];simp
    .rw[e.1];simp
    .rw[e.1];simp
    .rcases e.1 with f|f
     .rw[f];simp
     .rw[f.1];simp
   show c.Au.length+Xc c<=_;omega
 .exact ju (Jc o hm)
def aP(o:DK b)(hm:b.mode=18):NX t b (b.DX t):=by
 obtain⟨hne,P,d⟩:=o.dp (.inr hm);have hne:=hne hm;have a:b.mode=7\/(b.mode=18/\b.tm≠[]):= .inr ⟨hm,hne⟩;unfold BS.DX;by_cases hk:t.ok;rotate_left;.rw[Af hk];exact .BZ o
 rw[Ac (by simpa using hk)];have e:∀m,Es m=false->NX t b (b.E3 m):=λm h=> .inl h;refine NX.ite (λ_=> .BZ (Jc d.Ks a)) λ_=>NX.ite (λ_=> .BZ (Jc d.DB a)) λ_=>NX.ite (λ_=> .BZ o) λ_=>NX.ite (λh=>VU d a hk h) λ_=>NX.ite (λh=>?_) λ_=>NX.ite (λ_=>e _ rfl) λ_=>NX.ite (λ_=>e _ rfl) λ_=>NX.ite (λ_=>e _ rfl) λ_=>NX.ite (λ_=>e _ rfl) λ_=>NX.ite (λh=>?_) λ_=>NX.ite (λ_=> .BZ o) λ_=>?_;.rw[OU hk h];exact .BZ (js d a)
 .have s:=CB.2 hne;have p:(b.E3 7).1.mode=7:=rfl;have g:(b.E3 7).1.tm=b.tm.dropLast++[7]:=rfl;have r:(b.tm.dropLast++[(7:Int)]).length=b.tm.length:=Et;refine .inr ⟨Jc (P:=P) (q:=7) (T:=b.tm.dropLast++[7]) ⟨⟨d.cm.ok.of_eq rfl rfl rfl rfl,d.cm.ac,d.cm.Ł,d.cm.fo,d.cm.fr,λm hm=>?_⟩,d.hd.le .refl rfl,by rw[r];exact d.d,p,g⟩ (.inl rfl),λ_=>?_⟩
  .rw[g] at hm;rcases An.1 hm with h1|h1
   .exact d.cm.va m ((aHv _).subset h1)
   .simp at h1;exact .inl h1
  .refine⟨?_,Zq ?_ rfl (BQ _) (BQ _) (by rw[g,r];exact Ad _)⟩;.unfold L5;rw[p,hm];simp[dU,(Ab:¬t.k=6)]
   .show b.Au.length+Xc (b.E3 7).1<=_;unfold Xc;rw[p,hm];simp
 .have f:t.k=6:=by have:=hk.1;have:=hk.2;omega
  exact dV d a f hne
structure Q5(nm:Ah):Prop where
 b:nm∉aG
 t:nm≠AT
def IN{ws:List Ah}(h:nm∈ws)(hw:∀w∈ws,w∉aG/\w≠AT):Q5 nm:=⟨(hw _ h).1,(hw _ h).2⟩
def Dp.CU(o:Dp P q T b)(h:Q5 t.name)(hp:t.name≠wP):Dp P q T (b.CU t):=o.Mm h.b h.t λe=>absurd e hp
def Dp.LC(o:Dp P q T b)(h:Q5 t.name):Dp P q T (b.block t):=o.block h.b h.t
def Dp.set(o:Dp P q T b)(c:BS)(h1:c.a=b.a:=by rfl)(h3:c.Au=b.Au:=by rfl)(e:c.A4=b.A4:=by rfl)(h2:c.rs=b.rs:=by rfl):Dp P q T c:=o.eq h1 h3 e h2
def Dp.Ia(o:Dp P q T b)(h:Q5 t.name)(hp:t.name≠wP):Dp P q T (b.Ia t):=by
 unfold BS.Ia;simp only
 have a:=o.B4.1;split;.rename_i h1;exact Dp.CU (a.dM (ws:=Dc) AA h1) h hp
 .exact Dp.CU a h hp
def Dp.MG(o:Dp P q T b)(h:t.name=aWU):Dp P q T (b.MG t):=by
 have hn:Q5 t.name:=⟨by rw[h];decide,by rw[h];decide⟩;unfold BS.MG;split;.exact o
 .simp only
  have e:=o.LC hn;split;.exact e
  .have hw:=OO (b:=b.B4) (nm:=t.name) (l:=t.As);have f:b.B4.Mw 1=b.B4.a.len+1:=by unfold BS.Mw;rw[Af Kw]
   refine⟨⟨e.cm.ok.of_eq rfl rfl rfl rfl,e.cm.ac,λ_=>?_,e.cm.fo,e.cm.fr,e.cm.va⟩,e.hd.le .refl rfl,e.d,e.md,e.tme⟩;simp only[f];exact⟨hw.2.2.1,hw.2.1,hw.1.trans h⟩
def Dp.FN(o:Dp P q T b){ws:List Ah}(hw:∀w∈ws,w∉HT):Dp P q T (b.FN ws):=by
 unfold BS.FN;split
 .rename_i i hi;split
  .rename_i h1;obtain⟨A,C,e,_,u⟩:=T0 hi;have h2:=Ca.1 h1;have g:∀x∈C,AG ws x=false/\Eg x=false:=λx hx=>by
    have h3:=u x hx;unfold BS.JH at h3;rw[K0] at h3;refine⟨h3.1,?_⟩;cases r:Eg x with
    |false=>rfl
    |true=>have f:=h3.2;rw[spT r] at f;simp at f;have p:=(Ca.1 r).2;have s:=(Ca.1 f).2;simp at p;rw[p] at s;exact absurd s AA
   have sC:AG [i.name] i=true:=Ca.2 ⟨h2.1,AB⟩;have v:AD (AG [i.name]) b.Au=(A.length:Int):=by
    rw[e];refine Hv sC λx hx=>?_;cases h3:AG [i.name] x with
    |false=>rfl
    |true=>have f:=Ca.1 h3;have p:=f.2;simp at p;have:AG ws x=true:=Ca.2 ⟨f.1,by rw[p];exact h2.2⟩;rw[(g x hx).1] at this;cases this
   have hl:=o.d.pf.len;have hpos:=jU o.d (o.d.pf.not hw) (k:=A.length) (by rw[e];simp) (by
    have:b.Au[A.length]'(by rw[e];simp)=i:=by simp[e]
    rw[this];exact h1)
   unfold BS.Ds;rw[Nl (λa ha=>by have:=(Ca.1 ha).2;simp at this;exact Ak (.inr (.inr this))) Ab]
   refine o.go (qM o.cm Ng) ?_;simp only
   unfold GQ;rw[v,(Ab:max 1 ((A.length:Int)).toNat=A.length)];refine o.d.take hpos λx hx=>?_;rw[e,Ra] at hx;rcases AE.1 hx with rfl|hx
   .exact Zd (λr=>hw _ r AA) h1
   .exact(g x hx).2
  .exact o
 .exact o
def Dp.SG(o:Dp P q T b)(h:Q5 t.name):Dp P q T (b.SG t):=by
 unfold BS.SG;refine Dp.LC ?_ h;have a:Dp P q T {b with fs:=false}:=o.set _;split;.exact a.FN AA
 .exact a.FN AA
def Dp.KQ(o:Dp P q T b)(h:t.name=aWx):Dp P q T (b.KQ t):=by
 unfold BS.KQ;simp only
 have a:Dp P q T (if b.has [aWx] then b.Ds aWx [] else b):=by
  split;.rename_i h1;exact o.Ds (sc:=1) (.inl rfl) AA (.inl AA) h1
  .exact o
 exact(Dp.CU a.AL ⟨by rw[h];decide,by rw[h];decide⟩ (by rw[h];decide)).set _
def Dp.uX(o:Dp P q T b)(h:t.name∈B1):Dp P q T (b.uX t):=o.AL.Er h
def Dp.No(o:Dp P q T b):Dp P q T b.No:=by
 unfold BS.No;simp only
 split;.exact o
 .rename_i h1;obtain⟨u,s,hname⟩:=SJ h1;generalize b.A4.getD (DS [97] b.A4).toNat Ck.zero=fe at*;have g:=U7 (m:=P.length) (nm:=[97]) o.cm.ok o.cm.ac AA o.d.len o.d.ā;have f:=o.fm g;have hfe:=o.cm.ac fe u;have r:=o.cm.ok.ac fe u;have a:Dp P q T {b.C1 [97] with Au:=Am.Ce fe.node (b.C1 [97]).Au}:=by
   refine f.go (qM f.cm EI) (f.d.fm (Za f.d.len (λi hi e=>?_) f.d.ā));have h2:=f.cm.ok.op i hi;rcases hfe with h3|h3
   .exact absurd h3 s
   .rcases r with p|p
    .exact absurd p s
    .rw[e,g.le.A9 _ p.1,g.le.name _ p.1] at h2;exact Hk (by rw[<-h2.2.2.1,h3.2.2]) (by rw[<-h2.2.2.2,h3.2.1];exact h3.1)
  exact⟨⟨a.cm.ok.gN (l:=BS.J2 (b.C1 [97]).A4 fe.node) Md,a.cm.ac.sub Md,a.cm.Ł,a.cm.fo,a.cm.fr,a.cm.va⟩,a.hd.le .refl rfl,a.d,a.md,a.tme⟩
def Dp.Wu(o:Dp P q T b)(h:t.name∈B1):Dp P q T (b.Wu t):=o.No.uX h
def Dp.T2(o:Dp P q T b)(h:t.name∈B1):Dp P q T (b.T2 t):=by
 unfold BS.T2;simp only
 split;.exact(o.AL.C1 AA).AL.Er h
 .exact o.AL.Er h
def Dp.mark(o:Dp P q T b):Dp P q T {b with A4:=b.A4++[Ck.zero]}:=by
 refine⟨⟨jM o.cm.ok,λe he=>?_,o.cm.Ł,o.cm.fo,o.cm.fr,o.cm.va⟩,o.hd.le .refl rfl,o.d,o.md,o.tme⟩;rcases An.1 he with h|h
 .exact o.cm.ac e h
 .simp at h;subst h;exact .inl rfl
def Dp.BU(o:Dp P q T b)(h:Q5 t.name)(hp:t.name≠wP):Dp P q T (b.BU t):=by
 unfold BS.BU;simp only
 exact((Dp.CU o.AL h hp).mark).set _
def Dp.GF(o:Dp P q T b):Dp P q T (b.GF t):=o.eD
def Dp.empty(o:Dp P q T b):Dp P q T (b.empty t):=by
 unfold BS.empty;split;.exact(o.B4.1.GF).set _
 .split;.exact(o.GF).set _
  .split;.exact(o.AL.GF).set _
   .exact(o.AL.GF).set _
def Dp.KR(o:Dp P q T b)(h:Q5 t.name)(hp:t.name≠wP):Dp P q T (b.KR t):=by
 unfold BS.KR;split;.rename_i h1;exact Dp.CU ((o.dM (ws:=[aWH]) AA h1).AL) h hp
 .exact Dp.CU o.AL h hp
def Dp.SI(o:Dp P q T b)(h:Q5 t.name)(hp:t.name≠wP):Dp P q T (b.SI t):=by
 unfold BS.SI;split;.exact Dp.CU o.T3 h hp
 .exact Dp.CU o h hp
def Dp.HF(o:Dp P q T b):Dp P q T (b.HF t):=by
 unfold BS.HF;simp only
 have hsp:(if t.name=aXn then(3:Int) else 2)=2\/(if t.name=aXn then(3:Int) else 2)=3:=by split<;>simp
 have a:=o.AL;have f:=a.aKl (nm:=t.name) (l:=t.As) hsp;split
 .have hl:=a.d.len;have h2:=a.d.pf.len;generalize(if t.name=aXn then(3:Int) else 2)=s at*;have hk:BS.L6 s:=by unfold BS.L6;omega
  have e:(b.AL.Cu t.name t.As s).Au=b.AL.Au++[b.AL.HQ t.name t.As s]:=by
   unfold BS.Cu;rw[Af hk];have:(b.AL.Gm t.name t.As s (b.AL.place 0).1).Au=b.AL.Au:=by unfold BS.Gm;rw[Af hk]
   simp only[this]
  have hp:=uZ f.cm;refine f.go hp ?_;have g:(b.AL.Cu t.name t.As s).FY.Au=b.AL.Au:=by unfold BS.FY;rw[Ac (by rw[e];simp;omega)];simp only[e,Ao,AS,MD];rw[Bi (Ad _),Bk]
  rw[g];exact a.d
 .exact f
def Dp.Ja(o:Dp P q T b):Dp P q T (b.Ja t):=by
 unfold BS.Ja;split;.exact o
 .split;.exact o.FD
  .split;.exact Dp.FD (o.set _)
   .exact o
def aGN(o:Dp P 7 T b)(hn:t.name∈o9):DK (b.W8 t):=by
 have e:(7:Int)=7\/((7:Int)=18/\T≠[]):= .inl rfl;have a:t.name≠aW8->t.name∈aK:=λh=>by
  simp only[o9,AE,Ej,Ml] at hn;rcases hn with h1|h1|h1|h1|h1
  .rw[h1];decide
  .rw[h1];decide
  .rw[h1];decide
  .rw[h1];decide
  .exact absurd h1 h
 unfold BS.W8;split;.rename_i h;exact Jc ((o.LC ⟨by rw[h];decide,by rw[h];decide⟩).set _) e
 .rename_i h;have a:=a h;split;.exact(o.W8 e a (s:=2)).kp (kpE (o.W8 e a (s:=2)).cm rfl rfl rfl rfl) rfl
  .split;.exact Dp.W8 (P:=P) (q:=7) (T:=T) (b:={b.B4.AL with fs:=false}) (o.B4.1.AL.set _) e a
   .split;.exact Dp.W8 (P:=P) (q:=7) (T:=T) (b:={b with fs:=false}) (o.set _) e a
    .exact o.W8 e a
def Dx{nm:Ah}{ws:List Ah}(h:nm∉ws){w:Ah}(hw:w∈ws):nm≠w:=λe=>h (e▸hw)
def Ğ(o:Dp P 7 T b)(B:T=b.tm)(hk:t.ok)(h2:t.k=2):NX t b (b.opens t):=by
 have g:(7:Int)=7\/((7:Int)=18/\T≠[]):= .inl rfl;have st:∀{c},Dp P 7 T c->NX t b (c,false):=λd=> .BZ (Jc d g);unfold BS.opens;refine NX.ite (λh=>VU o g hk ⟨h2,h⟩) λr=>NX.ite (λh=>st (o.LC (IN h AA))) λp=>NX.ite (λh=>st (o.Ia (IN h AA) (λe=>absurd h (by rw[e];decide)))) λA=>NX.ite (λh=>st ((o.LC (IN h AA)).set _)) λz=>NX.ite (λh=>st (o.uX (by have key:∀w∈rj,w∈B1:=AA;exact key _ h))) λy=>NX.ite (λh=>st (o.BU (IN h AA) (λe=>absurd h (by rw[e];decide)))) λv=>NX.ite (λh=>st o.empty) λu=>NX.ite (λh=>st o) λa=>NX.ite (λh=> .BZ (aGN o h)) λs=>NX.ite (λh=>st (o.SI (IN h AA) (λe=>absurd h (by rw[e];decide)))) λO1=>NX.ite (λh=>st o.HF) λUn=>NX.ite (λh=>st (o.SG (IN h AA))) λVR=>NX.ite (λh=>st (o.KR (IN h AA) (λe=>absurd h (by rw[e];decide)))) λdP=>NX.ite (λh=>st o.Ja) λZm=>NX.ite (λh=>?_) λpM=>NX.ite (λh=>st (o.MG h)) λjn=>NX.ite (λh=>st (o.KQ h)) λsk=>NX.ite (λh=>st (o.Wu (by rw[h];decide))) λlM=>NX.ite (λh=>st (o.T2 (by rw[h];decide))) λĔ=>NX.ite (λh=> .inl rfl) λvd=>NX.ite (λh=>?_) λf=>?_
 .unfold BS.Jt;split;.exact st o
  .exact .inl rfl
 .left;show Es (if b.mode=9\/b.mode=11\/b.mode=13\/b.mode=14\/b.mode=15 then 17 else 16)=false;split<;>rfl
 .refine st (Dp.CU o.AL ⟨λhb=>?_,Dx r AA⟩ (Dx p AA));simp only[aG,AE,Ej,Ml] at hb;rcases hb with h|h|h|h|h|h|h|h|h|h|h|h|h|h|h|h
  .exact Dx Zm AA h
  .exact Dx a AA h
  .exact Dx Zm AA h
  .exact pM h
  .exact vd h
  .exact f h
  .exact Dx a AA h
  .exact Dx a AA h
  .exact Dx a AA h
  .exact Dx a AA h
  .exact Dx a AA h
  .exact Dx a AA h
  .exact Dx a AA h
  .exact Dx a AA h
  .exact Dx a AA h
  .exact Dx a AA h
def Dp.E4(o:Dp P q T b)(h1:t.name∉HT)(h2:t.name∉Fl):Dp P q T (b.E4 t):=by
 unfold BS.E4;split;.rename_i h;exact o.Ds (sc:=1) (.inl rfl) h1 (.inl h2) h
 .exact o
def Dp.FB(o:Dp P q T b):Dp P q T b.FB:=by
 unfold BS.FB;split
 .rename_i h;obtain⟨h0,e⟩:=o.d.sc (.inl rfl) (o.d.pf.not (ws:=Dc) AA) (λi hi=>Zd AA hi) h;rw[Nl (λa ha=>by have:=(Ca.1 ha).2;have key:∀w∈Dc,w∉Fl:=AA;exact Ak (.inr (.inl (key _ this)))) h0]
  exact o.go (qM o.cm Ng) e
 .exact o
def Dp.clear(o:Dp P q T b):Dp P q T {b with A4:=Fw b.A4}:=
 ⟨⟨o.cm.ok.gN (Cf _ _),o.cm.ac.sub (Cf _ _),o.cm.Ł,o.cm.fo,o.cm.fr,o.cm.va⟩,o.hd.le .refl rfl,o.d,o.md,o.tme⟩
def Dp.Gp(o:Dp P q T b)(h1:t.name∉HT)(h2:t.name∉Fl):Dp P q T (b.Gp t):=by
 unfold BS.Gp;split;.rename_i h;exact(o.Ds (sc:=1) (x:=[]) (.inl rfl) h1 (.inl h2) h).clear
 .exact o
def Dp.HG(o:Dp P q T b)(h1:t.name∈Y9):Dp P q T (b.HG t):=by
 have hp:t.name∉HT:=by have key:∀w∈Y9,w∉HT:=AA;exact key _ h1
 unfold BS.HG;have Ŏ:(if t.name=[112] then(3:Int) else if t.name=[108,105] then 2 else 1)=1\/(if t.name=[112] then(3:Int) else if t.name=[108,105] then 2 else 1)=2\/(if t.name=[112] then(3:Int) else if t.name=[108,105] then 2 else 1)=3:=by
  split;.simp
  .split<;>simp
 dsimp only;generalize(if t.name=[112] then(3:Int) else if t.name=[108,105] then 2 else 1)=sc at Ŏ;by_cases h:b.NU sc (AG [t.name])=true;.rw[Af h];exact o.Ds (sc:=sc) Ŏ hp (.inr rfl) h
 .rw[Ac h];split
  .rename_i h2;have k:=GG (nm:=[112]) (l:=[]) (sp:=1) o.cm;have hl:=o.d.len;have sB:=o.d.pf.len;have f:(b.CU (JV [112])).Au=b.Au++[b.HQ [112] [] 1]:=EJ;have hi:AG [t.name] (b.HQ [112] [] 1)=true:=by rw[KS,h2];decide
   have g:AD (AG [t.name]) (b.CU (JV [112])).Au=(b.Au.length:Int):=by rw[f,H6,Af hi]
   have e:((b.CU (JV [112])).Ds t.name t.name).Au=b.Au:=by
    unfold BS.Ds;rw[Nl (λa ha=>by have:=(Ca.1 ha).2;simp at this;exact Ak (.inr (.inr this))) (by rw[g];omega),g,f]
    show GQ _ _=_;unfold GQ;rw[(Ab:max 1 ((b.Au.length:Int)).toNat=b.Au.length),Bi (Ad _),Bk]
   have p:Kp b ((b.CU (JV [112])).Ds t.name t.name):=k.trans (qM (o.cm.go k) (Dd.trans Dd));exact o.go p (by rw[e];exact o.d)
  .exact o
def Dp.aCI(o:Dp P q T b){f:Int}(hf:f≠0->b.a.has f/\(b.a.nd f).A9=1/\(b.a.nd f).name=aWU):Dp P q T {b with GO:=f}:=
 ⟨⟨o.cm.ok.of_eq rfl rfl rfl rfl,o.cm.ac,hf,o.cm.fo,o.cm.fr,o.cm.va⟩,o.hd.le .refl rfl,o.d,o.md,o.tme⟩
def Dp.Ju(o:Dp P q T b)(h:t.name=aWU):Dp P q T (b.Ju t):=by
 unfold BS.Ju;split;.exact o.E4 (by rw[h];decide) (by rw[h];decide)
 .split
  .rename_i h1;have hf:=o.cm.Ł h1.1;have a:=o.T3 (s:=[]);have g:Dp P q T {b with Au:=Am.Ce b.GO (D5 (CJ []) Dh b.Au)}:=by
    have:=a.Ce (y:=b.GO) (w:=aWU) AA AA AA (λi hi e=>by have h2:=a.cm.ok.op i hi;rw[e] at h2;exact⟨by rw[<-h2.2.2.1];exact hf.2.1,by rw[<-h2.2.2.2];exact hf.2.2⟩)
    exact this
   exact g.aCI (f:=0) (λe=>absurd rfl e)
  .exact o.aCI (f:=0) (λe=>absurd rfl e)
def su(o:Dp P 7 T b)(f:T=b.tm)(hm:b.mode=7)(hk:t.ok)(h3:t.k=3):NX t b (b.MA t):=by
 have g:(7:Int)=7\/((7:Int)=18/\T≠[]):= .inl rfl;have st:∀{c},Dp P 7 T c->NX t b (c,false):=λd=> .BZ (Jc d g);unfold BS.MA;refine NX.ite (λh=>?_) λe=>NX.ite (λh=>?_) λa=>NX.ite (λh=>st (o.E4 ?_ ?_)) λz=>NX.ite (λh=>st (o.C1 (by rw[þ] at h;exact h))) λy=>NX.ite (λh=>st o.FB) λv=>NX.ite (λh=>st (o.Gp ?_ ?_)) λu=>NX.ite (λh=>st (o.HG h)) λs=>NX.ite (λh=>st (o.Ju h)) λr=>NX.ite (λh=>st o.empty) λp=>st (o.CV e (Dx a AA) (Dx a AA));.rw[OU hk ⟨h3,by rw[h];simp⟩];exact .BZ (js (P:=P) ⟨o.cm,o.hd,by rw[<-f];exact o.d,rfl,rfl⟩ (.inl hm))
 .unfold BS.PM;split;.exact .inl rfl
  .exact st o
 .have key:∀w∈QX,w∉HT:=by decide
  exact key _ h
 .have key:∀w∈QX,w∉Fl:=by decide
  exact key _ h
 .have key:∀w∈Wt,w∉HT:=by decide
  exact key _ h
 .have key:∀w∈Wt,w∉Fl:=by decide
  exact key _ h
def sx(o:DK b)(hm:b.mode=7):NX t b (b.LB t):=by
 obtain⟨_,P,d⟩:=o.dp (.inl hm);have a:Dp P 7 b.tm b:=⟨d.cm,d.hd,d.d,hm,rfl⟩;have e:(7:Int)=7\/((7:Int)=18/\b.tm≠[]):= .inl rfl;unfold BS.LB;by_cases hk:t.ok;rotate_left;.rw[Af hk];exact .BZ o
 rw[Ac (by simpa using hk)];refine NX.ite (λ_=> .BZ (Jc a.Ks e)) λf=>NX.ite (λ_=> .BZ (Jc a.DB e)) λg=>NX.ite (λp=>?_) λr=>NX.ite (λh=>Ğ a rfl hk h) λ_=>NX.ite (λh=>su a rfl hm hk h) λ_=> .BZ o;refine NX.ite (λh=>?_) λ_=>ju o;have hne:b.tm≠[]:=CB.1 h;unfold BS.DX;rw[Ac (by simpa using hk),Ac f,Ac g,Ac Ab,Ac (λh=>by have:=h.1;omega),Ac (λh=>by have:=h.1;omega),Ac (λh=>by have:=h.1;omega),Ac (λh=>by have:=h.1;omega),Ac (λh=>by have:=h.1;omega),Ac (λh=>by have:=h.1;omega),Ac Ab,Ac Ab];exact dV d (.inl hm) p hne
def Zv{qk:DF->Bool}(o:DK b):NX t b (b.apply qk t):=by unfold BS.apply;exact NX.ite (λ_=> .BZ o) λ_=>NX.ite (λh=>vL o h) λ_=>NX.ite (λh=>aL o h) λ_=>NX.ite (λh=>aM o h) λ_=>NX.ite (λh=>vQ o h) λ_=>NX.ite (λh=>aO o h) λ_=>NX.ite (λh=>kG o h) λ_=>NX.ite (λh=>sx o h) λ_=>NX.ite (λh=>sr o h) λ_=>NX.ite (λh=>aP o h) λ_=> .BZ o
end
def aQa(h:Ai):∃h' bi F,Cy cx 19 [] h (.ptr (some (bi,0))) h'/\PB h' bi (II false) F/\Fo h (λ_=>False) h' F:=by
 obtain⟨h1,h2,h',bi,G,b,r2,a,w,x⟩:=aO4 h false;refine⟨h',bi,BT bi G,?_,⟨_,_,_,_,_,w,⟨[],rfl,.inr ⟨rfl,rfl⟩⟩,rfl⟩,?_⟩;.rw[Ag,D_,t19];simp only[abS,b.Ae,r2.Ae,a.Ae]
 .exact x
def D3(qk:DF->Bool):List DF->BS->BS×Nat
 |[],b=>(b,2)
 |t::l,b=>if(MB qk t (9+b.tm.length) b).2=false then((MB qk t (9+b.tm.length) b).1,0) else if Es (MB qk t (9+b.tm.length) b).1.mode=false then((MB qk t (9+b.tm.length) b).1,1) else D3 qk l (MB qk t (9+b.tm.length) b).1
def jv(bi:Nat)(k:Nat):Aa:= .tuple [if k=0 then .ptr none else .ptr (some (bi,0)),.bool (k==2)]
def RE(qk:DF->Bool)(t:DF)(b:BS):Prop:=b.tm.length<=1000000000/\∃J:Nat->BS->Prop,J (9+b.tm.length) b/\∀k c,J (k+1) c->Es c.mode=true->∃n o a,Gz c (n+8*(4*(o+a+8)+10)+8*a+2000) o a/\(c.mode=6->Np c)/\(c.mode=18->c.tm≠[])/\((c.apply qk t).2=true->J k (c.apply qk t).1)
def aQb{qk:DF->Bool}{l:List (DF×Aa)}{v:Aa}(hv:BB 12 (l.map λp=>CE p.1 p.2) v)(ha:∀p∈l,Bw p.1.As p.2/\p.1.Sm)(hn:l.length<9223372036854775807)(hq:∀p∈l,∀{sj:Aa} (h:Ai),Cy cx 67 [.agg (CE p.1 sj)] h (.bool (qk p.1)) h)
  {K:List DF->BS->Prop} (E:∀t l c,K (t::l) c->RE qk t c/\K l (MB qk t (9+c.tm.length) c).1) (h0:K (l.map (·.1)) (II false)) (h:Ai):
  ∃h' bi F,Cy cx 7 [v] h (jv bi (D3 qk (l.map (·.1)) (II false)).2) h'/\PB h' bi (D3 qk (l.map (·.1)) (II false)).1 F/\Fo h (λ_=>False) h' F:=by
 obtain⟨h1,bi,F,D,w,C⟩:=aQa h;have q:=BB.GN hv;have Qa:Ev cx 7 [v] h λr h'=>r=jv bi (D3 qk (l.map (·.1)) (II false)).2/\∃F',PB h' bi (D3 qk (l.map (·.1)) (II false)).1 F'/\Fo h (λ_=>False) h' F':=by
  unfold Ev;rw[aB9,t7];simp only[abS,D.Ae];refine Co (λk:Nat=>[.ptr none,ff,.int .i64 (k:Int)]) (λk h2=>k<=l.length/\∃c s,PB h2 bi c s/\K ((l.drop k).map (·.1)) c/\Fo h (λ_=>False) h2 s/\D3 qk ((l.drop k).map (·.1)) c=D3 qk (l.map (·.1)) (II false)) (λk=>l.length-k) 0 rfl ⟨Bp _,II false,F,w,h0,C,rfl⟩ ?_;rintro k h2 ⟨hk,c,s,B,kk,f,b⟩;by_cases hlt:k<l.length
  .have e:(k:Int)<(l.length:Int):=by omega
   rw[Az hlt,Bj] at kk b;obtain⟨⟨y,J,z,G⟩,x⟩:=E _ _ _ kk;have hm:=ha _ (AF hlt);obtain⟨h3,A,d,i,u⟩:=aP8 B hm.2 hm.1 (hq _ (AF hlt)) (λk c j o=>by obtain⟨n,o,a,g,I,gf,H⟩:=G k c j o;exact⟨n,o,a,g,I,gf,H⟩) z y
   have ld:Bn h2 (some 12) (.B9 (CE l[k].1 l[k].2))=some (.agg (CE l[k].1 l[k].2)):=by rw[Po];rfl
   have l3:=i.Ci;have m:=aKJ (MB qk l[k].1 (9+c.tm.length) c).1.mode;rw[D3] at b;cases hs:(MB qk l[k].1 (9+c.tm.length) c).2 with
   |false=>rw[hs] at d b;rw[Af rfl] at b;simp only[abS,q,e,OS hv hlt,ld,d.Ae];exact⟨_,rfl,by rw[<-b];rfl,A,by rw[<-b];exact i,f.trans u⟩
   |true=>
    rw[hs] at d b;rw[Ac AB] at b;cases ho:Es (MB qk l[k].1 (9+c.tm.length) c).1.mode with
    |false=>rw[ho] at m b;rw[Af rfl] at b;simp only[abS,q,e,OS hv hlt,ld,d.Ae,l3,m.BH rfl rfl];exact⟨_,rfl,by rw[<-b];rfl,A,by rw[<-b];exact i,f.trans u⟩
    |true=>rw[ho] at m b;rw[Ac AB] at b;simp only[abS,q,e,OS hv hlt,ld,d.Ae,l3,m.BH rfl rfl,Dw (Ab:k<9223372036854775807)];exact BC.next (k+1) rfl ⟨hlt,_,A,i,x,f.trans u,b⟩ Ab
  .have e:¬(k:Int)<(l.length:Int):=by omega
   rw[AR Ab] at b;rw[DM,D3] at b;simp only[abS,q,e];exact⟨_,rfl,by rw[<-b];rfl,s,by rw[<-b];exact B,f⟩
 obtain⟨r,h',hr,rfl,F',hp,hx⟩:=Qa.ret;exact⟨h',bi,F',hr,hp,hx⟩
def Zs(b:BS)(j:Nat):Prop:=Gz b (5000000*j) (1500*(70 -j)) (10*(70 -j))
def Jn(t:DF)(j k:Nat)(c:BS):Prop:=(Es c.mode=false/\CK c 0)\/(DK c/\L5 t c<=k/\c.Au.length+Xc c<=1500*(70 -(j+1))+4/\c.A4.length<=10*(70 -(j+1))/\CK c (5000000*j+4000000+5*k))
section
variable{b c:BS}{t:DF}{qk:DF->Bool}{j k e:Nat}{l:List DF}
def aGO:Xc b<=4:=by unfold Xc;(repeat' split)<;>omega
def DK.aQc(o:DK b):b.tm.length<=b.Au.length:=by
 have key:∀m l tm,Shp m l tm->tm.length<=l.length:=by
  intro m l tm h;rcases h with h|h|h|h|h|h
  .rw[h.2.2];simp
  .rw[h.2.2];simp
  .rw[h.2.2];simp
  .rw[h.2.2];simp
  .rw[h.2.2];simp
  .obtain⟨P,d⟩:=h.2;have h1:=d.Ā;have h2:=List.countP_le_length (p:=Eg) (l:=l.filter AO);have h3:=Wv AO l;omega
 by_cases a:b.mode=8;.obtain⟨X,r,e,_,_,_,sh⟩:=o.W8 a;have:=key _ _ _ sh;rw[e,Ao,AS];omega
 .exact key _ _ _ (o.sh a)
def Jn.init(o:DK b)(z:Zs b (j+1))(hj:j+1<=70):Jn t j (9+b.tm.length) b:=by have h1:=z.Au;have h2:=o.aQc;have h3:=@aGO b;exact .inr ⟨o,j9,Ab,z.A4,z.rm.le Ab⟩
def Jn.gz(h:Jn t j k c)(ho:Es c.mode=true)(hj:j+1<=70):DK c/\Gz c (5000000*j+8*(4*(1500*(70 -(j+1))+4+10*(70 -(j+1))+8)+10)+8*(10*(70 -(j+1)))+2000) (1500*(70 -(j+1))+4) (10*(70 -(j+1))):=by
 rcases h with⟨h,_⟩|⟨h1,h2,h3,d,a⟩
 .rw[h] at ho;cases ho
 .exact⟨h1,h1.cm.ok,a.le Ab,Ab,d⟩
def Jn.step(h:Jn t j (k+1) c)(ho:Es c.mode=true)(hj:j+1<=70)(ht:t.Sm)(i:(c.apply qk t).2=true):Jn t j k (c.apply qk t).1:=by
 obtain⟨o,g⟩:=h.gz ho hj;rcases h with⟨h,_⟩|⟨h1,h2,h3,q,n⟩
 .rw[h] at ho;cases ho
 .have ga:=(g.apply (qk:=qk) (t:=t) o.Zt ht).rm;rcases Zv (qk:=qk) (t:=t) o with f|⟨f,m⟩
  .exact .inl ⟨f,ga.le Ab⟩
  .obtain⟨p,d⟩:=m i;have YV:=d.o;have RI:=d.a;exact .inr ⟨f,Ab,Ab,Ab,d.r _ (n.le Ab)⟩
def Jn.Jz(h:Jn t j (k+1) c)(ho:Es c.mode=true)(hj:j+1<=70)(ht:t.Sm):(Es (c.apply qk t).1.mode=false/\CK (c.apply qk t).1 0)\/(DK (c.apply qk t).1/\Zs (c.apply qk t).1 j):=by
 obtain⟨o,g⟩:=h.gz ho hj;have ga:=g.apply (qk:=qk) (t:=t) o.Zt ht;rcases Zv (qk:=qk) (t:=t) o with a|⟨a,d⟩
 .exact .inl ⟨a,ga.rm.le Ab⟩
 .exact .inr ⟨a,ga.le (Ad _) Ab Ab⟩
def vR(hj:j+1<=70)(ht:t.Sm):∀{k:Nat} {c:BS},Jn t j k c->(Es c.mode=true->L5 t c<=k)->(MB qk t k c).2=true/\((Es (MB qk t k c).1.mode=false/\CK (MB qk t k c).1 0)\/(DK (MB qk t k c).1/\Zs (MB qk t k c).1 j))
 |0,c,h,_=>by
  have ho:Es c.mode=false:=by
   cases ho:Es c.mode with
   |false=>rfl
   |true=>
    rcases h with⟨h,_⟩|⟨_,h2,_⟩
    .rw[h] at ho;cases ho
    .have:=@ę c t;omega
  rw[MB];refine⟨by simp[ho],.inl ⟨ho,?_⟩⟩;rcases h with⟨_,h⟩|⟨_,_,_,_,a⟩
  .exact h
  .exact a.le Ab
 |k+1,c,h,_=>by
  rw[MB];cases ho:Es c.mode with
  |false=>
   rw[Af rfl];refine⟨rfl,.inl ⟨ho,?_⟩⟩;rcases h with⟨_,h⟩|⟨_,_,_,_,a⟩
   .exact h
   .exact a.le Ab
  |true=>
   rw[Ac AB];cases d:(c.apply qk t).2 with
   |false=>rw[Af rfl];exact⟨rfl,h.Jz ho hj ht⟩
   |true=>
    rw[Ac AB];have h1:=h.step (qk:=qk) ho hj ht d;refine vR hj ht h1 λmF=>?_;rcases h1 with⟨h2,_⟩|⟨_,h2,_⟩
    .rw[h2] at mF;cases mF
    .exact h2
def vS(o:DK b)(z:Zs b (j+1))(hj:j+1<=70)(ht:t.Sm):RE qk t b:=by have h2:=z.rm.tm;refine⟨Ab,Jn t j,.init o z hj,λk c h ho=>?_⟩;obtain⟨d,g⟩:=h.gz ho hj;exact⟨_,_,_,g,d.Zt,λa=>(d.dp (.inr a)).1 a,λf=>h.step ho hj ht f⟩
def aBn(h:Es b.mode=false)(r:CK b 0):RE qk t b:=by have h2:=r.tm;exact⟨Ab,λ_ c=>Es c.mode=false,h,λk c h1 h2=>by rw[h1] at h2;cases h2⟩
def jw(h:Es b.mode=false):MB qk t k b=(b,true):=by
 cases k with
 |zero=>rw[MB,h];rfl
 |succ k=>rw[MB,h,Af rfl]
def Kn(e:Nat)(l:List DF)(b:BS):Prop:=(Es b.mode=false/\CK b 0)\/(DK b/\Zs b (l.length+e)/\l.length+e<=70/\∀t∈l,t.Sm)
def Kn.step(h:Kn e (t::l) b):RE qk t b/\Kn e l (MB qk t (9+b.tm.length) b).1:=by
 rcases h with⟨h1,h2⟩|⟨h1,h2,h3,d⟩
 .exact⟨aBn h1 h2,by rw[jw h1];exact .inl ⟨h1,h2⟩⟩
 .rw[AK] at h2 h3;have f:l.length+1+e=(l.length+e)+1:=Ab;rw[f] at h2 h3;have ht:=d t AB;refine⟨vS h1 h2 h3 ht,?_⟩;rcases(vR (qk:=qk) h3 ht (Jn.init (t:=t) h1 h2 h3) (λ_=>j9)).2 with a|a
  .exact .inl a
  .exact .inr ⟨a.1,a.2,Ab,λx hx=>d x (by simp[hx])⟩
def jx:∀{l:List DF} {b:BS},DK b->Zs b (l.length+e)->l.length+e<=70->(∀t∈l,t.Sm)->(D3 qk l b).2=1\/((D3 qk l b).2=2/\DK (D3 qk l b).1/\Zs (D3 qk l b).1 e)
 |[],b,o,z,h,_=>by rw[D3];exact .inr ⟨rfl,o,by simpa using z⟩
 |t::l,b,o,z,h,hs=>by
  have a:(t::l).length+e=(l.length+e)+1:=by rw[AK];omega
  rw[a] at z h;have ht:=hs t AB;obtain⟨h1,h2⟩:=vR (qk:=qk) h ht (Jn.init (t:=t) o z h) (λ_=>j9);rw[D3,h1,Ac AB];rcases h2 with h2|h2
  .rw[h2.1,Af rfl];exact .inl rfl
  .cases ho:Es (MB qk t (9+b.tm.length) b).1.mode with
   |false=>rw[Af rfl];exact .inl rfl
   |true=>rw[Ac AB];exact jx h2.1 h2.2 Ab λx hx=>hs x (by simp[hx])
end
end Go.Am
end
section
end
section
namespace Go.Am
open Go
def Is(r:Ku):Lj:=λx vs h=>r=(x,vs,h)
def Is.ret{C:Gj}{f:FuncId}{args:List Aa}{h h':Ai}{v:Aa}(hw:W C (Cd C f args) (Is (.ret,[v],h')) h):Cy C f args h v h':=
 hw.mono λx vs h1 e=>by unfold Is at e;cases e;exact⟨rfl,rfl,rfl⟩
def Is.of{C:Gj}{f:FuncId}{args:List Aa}{h h':Ai}{v:Aa}(hr:Cy C f args h v h'):W C (Cd C f args) (Is (.ret,[v],h')) h:=
 W.mono hr λx vs h1 ⟨c,b,a⟩=>by unfold Is;rw[c,b,a]
section
variable{C:Gj}{fn':FuncId->List Aa->IT}
def ğ{rec:IT->Ai->Option Ku}(Wh:∀t h r,rec t h=some r->W C t (Is r) h)(jy:∀f args h r,rec (fn' f args) h=some r->W C (Cd C f args) (Is r) h):
  ∀(t:IT) (h:Ai) (r:Ku),IT.step fn' rec t h=some r->W C t (Is r) h:=by
 intro t;induction t with
 |ret x vs=>intro h r d;simp only[IT.step,BL] at d;exact aBD d.symm
 |fail=>intro h r d;simp[IT.step] at d
 |op o args k ih=>
  intro h r d;simp only[IT.step] at d;split at d;.rename_i v e;exact aHC e (ih _ _ _ d)
  .cases d
 |cells n v k ih=>
  intro h r d;simp only[IT.step] at d;split at d;.rename_i hc;exact wR hc (ih _ _ _ d)
  .cases d
 |A3 c t e i w=>
  intro h r d;simp only[IT.step] at d;split at d;.exact wS (λ_=>i _ _ d) λh=>by cases h
  .exact wS (λh=>by cases h) λ_=>w _ _ d
  .cases d
 |load n p k ih=>
  intro h r d;simp only[IT.step] at d;split at d;.rename_i v e;exact vt e (ih _ _ _ d)
  .cases d
 |store n p v k ih=>
  intro h r d;simp only[IT.step] at d;split at d;.rename_i v e;exact wT e (ih _ _ d)
  .cases d
 |alloc n v k ih=>
  intro h r d;simp only[IT.step,Xn] at d;by_cases hc:v.cells.length=n;.rw[Af hc] at d;exact wU hc (ih _ _ _ d)
  .rw[Ac hc] at d;cases d
 |call f args k ih=>
  intro h r d;simp only[IT.step] at d;split at d;.rename_i v h1 e;exact(Is.ret (jy _ _ _ _ e)).Ae.2 (ih _ _ _ d)
  .cases d
 |EG g args k ih=>
  intro h r d;simp only[IT.step] at d;split at d
  .rename_i f a ht;split at d;.rename_i v h1 e;exact NO.2 ⟨(f,a),ht,(Is.ret (jy _ _ _ _ e)).Ae.2 (ih _ _ _ d)⟩
   .cases d
  .cases d
 |BH f args k ih=>
  intro h r d;simp only[IT.step] at d;split at d
  .rename_i Jj;split at d
   .rename_i v h1 e;split at d;.rename_i ub;have hp:Oz C f args v:=(Is.ret (jy _ _ _ _ e)).ev rfl;exact(hp.BH Jj ub).2 (ih _ _ _ d)
    .cases d
   .cases d
  .cases d
 |loop key init body k u j=>
  intro h r d;simp only[IT.step] at d;split at d;.rename_i vs h1 e;exact QC ((u _ _ _ e).mono λx l h2 q=>by unfold Is at q;cases q;exact .inl ⟨rfl,Wh _ _ _ d⟩)
  .rename_i x vs h1 hne e;exact QC ((u _ _ _ e).mono λx l h2 q=>by unfold Is at q;cases q;exact .inr ⟨λhx=>hne hx,j _ _ _ _ d⟩)
  .cases d
 |GK key t k i j=>
  intro h r d;simp only[IT.step] at d;split at d;.rename_i x vs h1 e;exact we ((i _ _ e).mono λx l h2 q=>by unfold Is at q;cases q;exact j _ _ _ _ d)
  .cases d
 |same a b k ih=>
  intro h r d;simp only[IT.step] at d;split at d;.rename_i hc;exact vu hc (ih _ _ d)
  .cases d
 |Og k ih=>intro h r d;simp only[IT.step] at d;exact vw (ih _ _ _ d)
 |Ig m key v k ih=>
  intro h r d;simp only[IT.step] at d;split at d;.rename_i h1 e;exact vy e (ih _ _ d)
  .cases d
 |MY z ok m key k ih=>
  intro h r d;simp only[IT.step] at d;split at d;.rename_i h1 e;exact vz e (ih _ _ _ d)
  .cases d
 |make size bytes zero len cap k ih=>
  intro h r d;simp only[IT.step] at d;split at d;.rename_i h1 v e;exact v_ e (ih _ _ _ d)
  .cases d
 |Kf size bytes s x k ih=>
  intro h r d;simp only[IT.step] at d;split at d;.rename_i h1 v e;exact wV e (ih _ _ _ d)
  .cases d
 |Fi s k ih=>
  intro h r d;simp only[IT.step] at d;split at d;.rename_i h1 v e;exact XA e (ih _ _ _ d)
  .cases d
 |VY v k ih=>
  intro h r d;simp only[IT.step] at d;split at d;.rename_i h1 v e;exact aBE e (ih _ _ _ d)
  .cases d
 |IX off p k ih=>
  intro h r d;simp only[IT.step] at d;split at d;.rename_i h1 e;exact wW e (ih _ _ d)
  .cases d
 |GL size bytes s x k ih=>
  intro h r d;simp only[IT.step] at d;split at d;.rename_i h1 v e;exact wb e (ih _ _ _ d)
  .cases d
 |GI size bytes s x k ih=>
  intro h r d;simp only[IT.step] at d;split at d;.rename_i v e;exact bC e (ih _ _ _ d)
  .cases d
 |mem o args k ih=>
  intro h r d;simp only[IT.step] at d;split at d;.rename_i h1 v e;exact aBF e (ih _ _ _ d)
  .cases d
 |wJ f args k ih=>
  intro h r d;simp only[IT.step] at d;split at d
  .rename_i v h1 e;split at d;.rename_i ub;obtain⟨n,x,vs,h2,D,y⟩:=jy _ _ _ _ e;unfold Is at y;cases y;obtain⟨m,x',Ih,h',B,A⟩:=(ih _ _ _ d).succ;refine C0 ⟨max n m,x',Ih,h',?_,A⟩;have a1:=IT.Iy (Ie n m) D;have a2:=IT.Kg (λt h r=>IT.Iy (fn:=Cd C) (HD n m)) _ _ _ B;simp only[IT.step];simp only[Gj.run] at*;rw[a1];simp only[ub,BN];exact a2
   .cases d
  .cases d
def aGP(C:Gj)(fn':FuncId->List Aa->IT):Prop:=∀f args,fn' f args=Cd C f args\/∀n h r,IT.run fn' n (fn' f args) h=some r->W C (Cd C f args) (Is r) h
def kJ(hs:aGP C fn'):∀(n:Nat) (t:IT) (h:Ai) (r:Ku),IT.run fn' n t h=some r->W C t (Is r) h
 |0,t,h,r,a=>by simp[IT.run] at a
 |n+1,t,h,r,a=>by
  refine ğ (rec:=IT.run fn' n) (kJ hs n) ?_ t h r a;intro f args h r a;rcases hs f args with e|e
  .rw[e] at a;exact kJ hs n _ _ _ a
  .exact e n h r a
def sy(hs:aGP cx fn'){f:FuncId}{args:List Aa}{h:Ai}(n:Nat)(hr:YP (IT.run fn' n (Cd cx f args) h)=true):Ev cx f args h λr _=>r= .bool true:=by obtain⟨h',e⟩:=aA hr;exact(Is.ret (kJ hs n _ _ _ e)).ev rfl
def jz(v:Aa):IT:= .Fi (.str []) λu=> .VY u λ_=> .ret .ret [v]
def dW{n:Nat}{v:Aa}{h:Ai}{r:Ku}(e:IT.run fn' n (jz v) h=some r):r=(.ret,[v],h++[.Ef]):=by
 cases n with
 |zero=>simp[IT.run] at e
 |succ n=>
  have e0:Jm h (.str [])=some (h++[.cells []],.Dn h.length 0 0 1):=rfl;have a:LW (h++[.cells []]) (.Dn h.length 0 0 1)=some (h++[.Ef],.sl 1 []):=by simp[LW,CG]
  simp only[IT.run,jz,IT.step,e0,a,BL] at e;exact e.symm
end
theorem aKN{l:Ah}{ws:List Ah}(w:K9 l ws)(s:Ah)(h:Ai):Cy cx 116 [.str s,.str l] h (.bool (decide (s∈ws))) (h++[.Ef]):=by have a:=Ĉ w h;have r2:=aAK (Dg (ws:=ws)) (by have:=w.few;omega) s (h++[GJ.Ef]);rw[Ag,gX,aAi];simp only[Cx,a.Ae,r2.Ae]
def eqB:Ah->Ah->Bool
 |[],[]=>true
 |a::s,b::t=>Nat.beq a.toNat b.toNat&&eqB s t
 |_,_=>false
theorem j_:∀{s t:Ah},eqB s t=true↔s=t
 |[],[]=>by simp[eqB]
 |[],b::t=>by simp[eqB]
 |a::s,[]=>by simp[eqB]
 |a::s,b::t=>by simp only[eqB,Bb,j_ (s:=s) (t:=t),Cs,Nat.beq_eq];exact⟨λ⟨h1,h2⟩=>⟨UInt8.toNat_inj.1 h1,h2⟩,λ⟨h1,h2⟩=>⟨by rw[h1],h2⟩⟩
def spN(n:Nat):Bool:=(Nat.ble 9 n&&Nat.ble n 13)||Nat.beq n 32
theorem aGR(c:UInt8):spN c.toNat=OP c:=by unfold spN OP;rw[Mq];simp only[JY,Bb,Nat.ble_eq,Nat.beq_eq,Ct]
def ve:Ah->Ah->List Ah
 |cur,[]=>match cur with
  |[]=>[]
  |_::_=>[cur.reverse]
 |cur,c::r=>match spN c.toNat with
  |true=>match cur with
   |[]=>ve [] r
   |_::_=>cur.reverse::ve [] r
  |false=>ve (c::cur) r
theorem kK:∀(s cur:Ah),ve cur s=wf cur.reverse s
 |[],[]=>by simp[ve,wf]
 |[],c::cur=>by simp[ve,wf]
 |c::r,cur=>by
  have h1:=aGR c;cases hc:OP c with
  |true=>
   rw[hc] at h1;cases cur with
   |nil=>simp[ve,wf,h1,hc,kK r []]
   |cons x cur=>simp[ve,wf,h1,hc,kK r []]
  |false=>rw[hc] at h1;simp[ve,wf,h1,hc,kK r (c::cur)]
def okB(l:Ah):Bool:=Nat.ble l.length 1000000&&l.all λc=>Nat.ble (c.toNat+1) 128
theorem kb{l:Ah}(h:okB l=true):K9 l (ve [] l):=by unfold okB at h;simp only[Bb,Nat.ble_eq,DQ] at h;exact⟨h.1,λc hc=>by have:=h.2 c hc;omega,by rw[kK];rfl⟩
def vT(s:Ah)(l:List Ah):Bool:=l.any (eqB s)
theorem s_(s:Ah)(l:List Ah):vT s l=decide (s∈l):=by rw[Mq];simp only[vT,Od,j_,Ct];exact⟨λ⟨x,h1,h2⟩=>h2▸h1,λh=>⟨s,h,rfl⟩⟩
theorem aKO(r:Int)(h:Ai):Cy cx 101 [.int .i32 r] h (.bool (decide (u_ r))) h:=by
 have b:∀(lo hi:Int) (h:Ai),Cy cx 179 [.int .i32 lo,.int .i32 hi] h (.func (.func 233) [] [.B9 [.int .i32 lo],.B9 [.int .i32 hi]]) h:=λlo hi h=>by rw[Ag,WS,Î];simp only[abS]
 have e:∀(v:Aa) (h:Ai),v.cells=[v]->Cy cx 178 [v] h (.func (.func 232) [] [.B9 [v]]) h:=λv h hv=>by rw[Ag,iI,aAs];simp only[abS,hv]
 have c:=aKq (L:=[(9,10),(12,13),(32,32)]) AA r h;have a:AH (.CC 1) [.func (.func 233) [] [.B9 [.int .i32 9],.B9 [.int .i32 10]],.func (.func 233) [] [.B9 [.int .i32 12],.B9 [.int .i32 13]],.func (.func 233) [] [.B9 [.int .i32 32],.B9 [.int .i32 32]]]=some (.sl 1 ([((9:Int),(10:Int)),(12,13),(32,32)].map VQ)):=rfl;have d:∀v:Aa,CN (.func (.func 232) [] [v]) [.int .i32 r]=some (232,[.int .i32 r,v]):=λ_=>rfl;have r2:=e (.sl 1 ([((9:Int),(10:Int)),(12,13),(32,32)].map VQ)) h rfl;have e0:decide (u_ r)=([((9:Int),(10:Int)),(12,13),(32,32)].any λp=>decide (p.1<=r/\r<=p.2)):=by
  have a:u_ r↔((9<=r/\r<=10)\/(12<=r/\r<=13)\/(32<=r/\r<=32)):=by unfold u_;omega
  simp only[SV,qE,SR,<-Bool.decide_or,EF];exact a
 rw[e0,Ag,gT,aAe];simp only[abS,(b 9 10 h).Ae,(b 12 13 h).Ae,(b 32 32 h).Ae,a,r2.Ae,d,c.Ae]
def Ġ(d:IT):List Aa->IT
 |[.str s,.str l]=>match okB l with
  |true=>jz (.bool (vT s (ve [] l)))
  |false=>d
 |_=>d
def ġ(d:IT):List Aa->IT
 |[.str l]=>match okB l with
  |true=>jz (.sl 1 ((ve [] l).map Cv))
  |false=>d
 |_=>d
def Ģ(d:IT):List Aa->IT
 |[.int .i32 r]=> .ret .ret [.bool (decide (u_ r))]
 |_=>d
def aKP(f:FuncId)(args:List Aa):IT:=
 match Nat.beq f 116 with
 |true=>Ġ (tab f args) args
 |false=>match Nat.beq f 191 with
  |true=>ġ (tab f args) args
  |false=>match Nat.beq f 101 with
   |true=>Ģ (tab f args) args
   |false=>tab f args
theorem aBo:aGP cx aKP:=by
 intro f args;unfold aKP;split
 .rename_i hf;have hf:=N1 hf;subst hf;unfold Ġ;split
  .rename_i s l;split;.rename_i ho;refine .inr λn h r e=>?_;rw[dW e,s_];exact Is.of (aKN (kb ho) s h)
   .exact .inl (by rw[SC])
  .exact .inl (by rw[SC])
 .split
  .rename_i hf;have hf:=N1 hf;subst hf;unfold ġ;split
   .rename_i l;split;.rename_i ho;refine .inr λn h r e=>?_;rw[dW e];exact Is.of (Ĉ (kb ho) h)
    .exact .inl (by rw[SC])
   .exact .inl (by rw[SC])
  .split
   .rename_i hf;have hf:=N1 hf;subst hf;unfold Ģ;split
    .rename_i a;refine .inr λn h r e=>?_;cases n with
     |zero=>simp[IT.run] at e
     |succ n=>simp only[IT.run,IT.step,BL] at e;rw[<-e];exact Is.of (aKO a h)
    .exact .inl (by rw[SC])
   .exact .inl (by rw[SC])
theorem vU:Ev cx 6 [] [] λr _=>r= .bool true:=sy aBo 3000 AP
theorem Zw:Oz cx 6 [] tt:=vU
end Go.Am
end
