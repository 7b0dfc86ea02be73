/- Lemmas -/
import Derived.Test.YtbkijlifflhdiaaGreatDoorX26
import Derived.Test.YtbkijlifflhdiaaGreatDoorX28
set_option linter.all false
set_option maxRecDepth 100000
section
namespace Go.Am
open Go
section
variable{h h':Ah}{a n:Nat}{ss:List SN}{A:Ar}{x:Int}
def QL(A:Ar)(r:Int)(l:List Int):Nat:=(l.filter λy=>decide ((A.nd y).kind=r)).length
def pU{r:Int}{l:List Int}{k:Nat}(hk:k<l.length):QL A r (l.take (k+1))=QL A r (l.take k)+if(A.nd l[k]).kind=r then 1 else 0:=by unfold QL;rw[AD hk,DP,Ap];by_cases hr:(A.nd l[k]).kind=r<;>simp[hr]
def ji{r:Int}{l:List Int}:QL A r l<=l.length:=O_ _ _
def xQ(w:SA h a n ss A){kv:Aa}{l:List Int}(hv:Ff l kv)(hl:∀y∈l,A.has y)(hb:l.length<=1000000000)(r:Int):Cx cx 35 [.ptr (some (a,0)),kv,.int .i64 r] h (.int .i64 (QL A r l:Int)) h:=by
 have b:=Bu.Gi hv;rw[Aj,uw,t35];refine BI (λk:Nat=>[.int .i64 (QL A r (l.take k):Int),.int .i64 (k:Int)]) (λk h1=>k<=l.length/\h1=h) (λk=>l.length-k) 0 rfl ⟨A7 _,rfl⟩ ?_;rintro k h1 ⟨hk,rfl⟩;rcases Bg k l.length with hlt|GW
 .obtain⟨p,d,c⟩:=(Ff.Ms (h:=h1) hv).at_ k hlt;have hy:=hl _ (AJ hlt);have ct:=pU (A:=A) (r:=r) hlt;have e:QL A r (l.take k)<=l.length:=Bm ji (by rw[Au];omega);by_cases hr:(A.nd l[k]).kind=r;.rw[Ad hr] at ct;simp only[abS,b,(Ab:(k:Int)<(l.length:Int)),d,c,w.nodes,w.addr hy,w.f0 hy,CZ hr,Ci (Ab:QL A r (l.take k)<9223372036854775807),Ci (Ab:k<9223372036854775807)];exact A8.next (k+1) (by simp only[ct]) ⟨hlt,rfl⟩ Ab
  .rw[Ac hr] at ct;simp only[abS,b,(Ab:(k:Int)<(l.length:Int)),d,c,w.nodes,w.addr hy,w.f0 hy,hr,Ci (Ab:k<9223372036854775807)];exact A8.next (k+1) (by simp only[ct,Bc]) ⟨hlt,rfl⟩ Ab
 .simp only[abS,b,(Ab:¬(k:Int)<(l.length:Int))];rw[AR GW]
def jj{r:Int}{l:List Int}(hn:l.Nodup)(h1:∀x∈l,∀y∈l,(A.nd x).kind=r->(A.nd y).kind=r->x=y):QL A r l<=1:=by
 unfold QL;have hf:(l.filter λy=>decide ((A.nd y).kind=r)).Nodup:=hn.sublist List.filter_sublist;match hq:(l.filter λy=>decide ((A.nd y).kind=r)),hf with
 |[],_=>simp
 |[_],_=>simp
 |x::y::t,hf=>
  exfalso;have mx:x∈l.filter λy=>decide ((A.nd y).kind=r):=by rw[hq];simp
  have b:y∈l.filter λy=>decide ((A.nd y).kind=r):=by rw[hq];simp
  rw[CG] at mx b;have e:=h1 x mx.1 y b.1 (FI mx.2) (FI b.2);subst e;simp at hf
def bH{r:Int}{l:List Int}(h1:∀x∈l,(A.nd x).kind≠r):QL A r l=0:=by unfold QL;rw[Kl,List.filter_eq_nil_iff];exact λx hx=>by simpa using h1 x hx
def gV{n:Nat}(hn:n<=1000000000):OM h 1 8 [I 0] (.int .i64 (n:Int)) (.int .i64 (n:Int))=some (h++[.cells ((List.replicate n 0).map (Aa.int .i64))],.CL h.length 0 n 1):=by
 have hm:AQ=140737488355328:=rfl;unfold OM;simp only
 rw[Ad ⟨Ab,Ab,Ab,rfl⟩];have:(List.replicate (n:Int).toNat [I 0]).flatten=(List.replicate n 0).map (Aa.int .i64):=by
  rw[Bn];clear hn hm;induction n with
  |zero=>rfl
  |succ n ih=>rw[Jv,Jv,Cy,ih];rfl
 rw[this];rfl
def gW{l:List Int}{i:Nat}(hi:i<l.length)(v:Int):CM (h++[.cells (l.map (Aa.int .i64))]) 1 (.ptr (some (h.length,i))) (.int .i64 v)=some (h++[.cells ((l.set i v).map (Aa.int .i64))]):=by
 have hc:(h++[DJ.cells (l.map (Aa.int .i64))])[h.length]?=some (.cells (l.map (Aa.int .i64))):=Aw;have hl:i+1<=(l.map (Aa.int .i64)).length:=by rw[As];exact hi
 simp only[CM,hc];rw[Ad ⟨rfl,hl⟩,B6 _ _ (Af _),DY];have e:(l.map (Aa.int .i64)).take i++(Aa.int .i64 v).cells++(l.map (Aa.int .i64)).drop (i+1)=(l.set i v).map (Aa.int .i64):=by rw[Fo,<-OV (by simpa using hi)];simp[Aa.cells]
 rw[e];rfl
def aAA{lo:Nat}{v:Aa}(ok:CX A 0)(D:Df A)(I:Dd A)(hv:LO h lo v A.n)(hne:A.n≠[])(hb:A.n.length<=900000000)(hk:∀y,(A.nd y).AT.length<=1000000000):∃t,Cx cx 12 [v] h tt (h++t):=by
 obtain⟨ss,hl,g1,g2,g3⟩:=xK hv hne hb;obtain⟨t0,o⟩:∃t0,h++[DJ.DK,DJ.cells ((SN.z::ss).map SN.row).flatten]++[DJ.cells [.CL (h.length+1) 0 (ss.length+1) 13,.slnil]]=h++t0:=⟨_,AB _ _ _⟩;rw[o] at g3;have T:(h++[DJ.DK,DJ.cells ((SN.z::ss).map SN.row).flatten]).length=h.length+2:=Aw;have ln:Ay (.len false) [.CL (h.length+1) 0 (ss.length+1) 13]=some (.int .i64 ((ss.length+1:Nat):Int)):=rfl;have NH:Ev cx 12 [v] h λr h'=>r=tt/\∃t,h'=h++t:=by
  unfold Ev;rw[ug,t12];refine Xf g1 ?_;simp only[abS,Nat.reduceLeDiff,↓reduceIte,BD,g2,T,o];obtain⟨a0,ea⟩:∃a0,h.length+2=a0:=⟨_,rfl⟩;obtain⟨K,M⟩:∃K,h.length+1=K:=⟨_,rfl⟩;rw[ea,M] at g3;rw[M] at ln;rw[ea];obtain⟨H,N⟩:∃H,h++t0=H:=⟨_,rfl⟩;rw[N] at g3⊢;have w0:=g3 [];rw[BQ] at w0;have P:=w0.len;simp only[abS,Nat.reduceLeDiff,↓reduceIte,w0.nodes,ln];refine Xf (gV Ab) ?_;refine BI (λk:Nat=>[ff,.int .i64 (k:Int)]) (λk h1=>1<=k/\k<=ss.length+1/\∃l:List Int,l.length=ss.length+1/\(∀d (hd:d<l.length),l[d]=0\/l[d]=A.inr (d:Int))/\h1=H++[.cells (l.map (Aa.int .i64))]) (λk=>ss.length+1 -k) 1 rfl ⟨Af _,Ab,List.replicate (ss.length+1) 0,Aw,λd hd=> .inl Aw,rfl⟩ ?_;rintro k h1 ⟨Y3,S0,l,qH,yW,rfl⟩;have w:=g3 [.cells (l.map (Aa.int .i64))];rcases Bg k (ss.length+1) with hlt|GW
  .have hx:A.has (k:Int):=by unfold Ar.has;omega
   have J:=ok.NW _ hx;have ld:=w.ld hx;have L:=Bu.Gi (w.IG hx);rw[Ni] at ld;have xW:=hk (k:Int);simp only[abS,↓reduceIte,w.nodes,ln,(Ab:(k:Int)<((ss.length+1:Nat):Int)),w.addr hx,ld];refine Hr (i:=2) (λj:Nat=>[ff,.int .i64 (j:Int)]) (λj h2=>j<=(A.nd (k:Int)).AT.length/\h2=H++[.cells (l.map (Aa.int .i64))]) (λj=>(A.nd (k:Int)).AT.length-j) (λj h2=>h2=H++[.cells (l.map (Aa.int .i64))]) 0 rfl ⟨A7 _,rfl⟩ ?_ ?_
   .rintro j h2 ⟨hj,rfl⟩;rcases Bg j (A.nd (k:Int)).AT.length with yF|Q
    .obtain⟨p,S,R⟩:=(Ff.Ms (h:=H++[.cells (l.map (Aa.int .i64))]) (w.IG hx)).at_ j yF;have hy:=(ok.IG _ hx _ (AJ yF)).1;have g:=D.kd _ hx _ (AJ yF);simp only[abS,↓reduceIte,L,(Ab:(j:Int)<((A.nd (k:Int)).AT.length:Int)),w.nodes,S,R,w.addr hy,w.f3 hy,g,CC,BT,Ci (Ab:j<9223372036854775807)];exact .next (j+1) rfl ⟨yF,rfl⟩ Ab
    .simp only[abS,↓reduceIte,L,(Ab:¬(j:Int)<((A.nd (k:Int)).AT.length:Int))];exact .Iv j rfl rfl
   .rintro j h2 rfl;obtain⟨hd,ku⟩:=ok.BO _ hx;obtain⟨d,g⟩:∃d:Nat,(A.nd (k:Int)).BO=(d:Int):=⟨(A.nd (k:Int)).BO.toNat,by have:=hd.1;omega⟩;have nF:d<ss.length+1:=by have:=hd.2;rw[g] at this;omega
    by_cases c:(A.nd (k:Int)).cont=0
    .by_cases b:(A.nd (k:Int)).kind=1
     .have f:∀y∈(A.nd (k:Int)).AT,A.has y:=λy hy=>(ok.IG _ hx y hy).1;have C:=xQ w (w.IG hx) f xW 4;have E:=xQ w (w.IG hx) f xW 3;have B:=xQ w (w.IG hx) f xW 5;rw[bH (r:=3) λy hy e=>by rcases I.IG _ hx b y hy with h|h<;>rw[h] at e<;>cases e] at E;rw[bH (r:=5) λy hy e=>by rcases I.IG _ hx b y hy with h|h<;>rw[h] at e<;>cases e] at B;have U:=jj J.ZY (I.one _ hx b);have u:((QL A 4 (A.nd (k:Int)).AT:Nat):Int)=0\/((QL A 4 (A.nd (k:Int)).AT:Nat):Int)=1:=Ab;rcases u with u|u<;>rw[u] at C
      .simp only[Cr,↓reduceIte,ZM,b,C.Ag,E.Ag,B.Ag,c,CC,BT,LR,Ci (Ab:k<9223372036854775807),show Ay (.int .add) [.int .i64 0,.int .i64 0]=some (.int .i64 0) from rfl,(Ab:¬(1:Int)<0),(Ab:¬(0:Int)<0),(Ab:¬(0:Int)=2)];exact A8.next (k+1) rfl ⟨Ab,hlt,l,qH,yW,rfl⟩ Ab
      .simp only[Cr,↓reduceIte,ZM,b,C.Ag,E.Ag,B.Ag,c,CC,BT,LR,Ci (Ab:k<9223372036854775807),show Ay (.int .add) [.int .i64 1,.int .i64 0]=some (.int .i64 1) from rfl,(Ab:¬(1:Int)<0),(Ab:¬(1:Int)<1),(Ab:¬(0:Int)<0),(Ab:¬(1:Int)=2)];exact A8.next (k+1) rfl ⟨Ab,hlt,l,qH,yW,rfl⟩ Ab
     .simp only[abS,↓reduceIte,b,c,CC,BT,Ci (Ab:k<9223372036854775807)];exact A8.next (k+1) rfl ⟨Ab,hlt,l,qH,yW,rfl⟩ Ab
    .have b:¬(A.nd (k:Int)).kind=1:=by rw[(J.Mm c).1];decide
     obtain⟨hc,_⟩:=ok.cont _ hx c;have G:=D.ct _ hx c;rw[g] at G;have s:Ay (.Gm 1) [.CL H.length 0 (ss.length+1) 1,.int .i64 (d:Int)]=some (.ptr (some (H.length,d))):=by have:=EV (k:= .i64) (id:=H.length) (z:=1) nF;rwa [Gp] at this
     have yz:d<l.length:=Ab;have F:Bq (H++[.cells (l.map (Aa.int .i64))]) none (.ptr (some (H.length,d)))=some (.int .i64 l[d]):=by simp[Bq,EJ,yz]
     have es:=gW (h:=H) yz (A.nd (A.nd (k:Int)).cont).BO;have Dr:∀m (q:m<(l.set d (A.nd (A.nd (k:Int)).cont).BO).length),(l.set d (A.nd (A.nd (k:Int)).cont).BO)[m]=0\/(l.set d (A.nd (A.nd (k:Int)).cont).BO)[m]=A.inr (m:Int):=λm q=>by
      rw[List.getElem_set];split;.rename_i e;subst e;exact .inr G.symm
      .exact yW m (by simpa using q)
     by_cases z0:l[d]=0;.simp only[abS,↓reduceIte,b,c,g,w.nodes,w.addr hc,w.f3 hc,s,F,z0,es,CC,BT,Ci (Ab:k<9223372036854775807)];exact A8.next (k+1) rfl ⟨Ab,hlt,_,by rw[Bv];exact qH,Dr,rfl⟩ Ab
     .have O:l[d]=(A.nd (A.nd (k:Int)).cont).BO:=by rw[(yW d yz).resolve_left z0];exact G
      rw[O] at z0 F;simp only[abS,↓reduceIte,b,c,g,w.nodes,w.addr hc,w.f3 hc,s,F,z0,es,CC,BT,Ci (Ab:k<9223372036854775807)];exact A8.next (k+1) rfl ⟨Ab,hlt,_,by rw[Bv];exact qH,Dr,rfl⟩ Ab
  .simp only[abS,↓reduceIte,w.nodes,ln,(Ab:¬(k:Int)<((ss.length+1:Nat):Int))];exact⟨_,rfl,rfl,_,by rw[<-N,AB]⟩
 obtain⟨r,h',hr,rfl,t,rfl⟩:=NH.ret;exact⟨t,hr⟩
end
def Js{Q:IN}{h:Ah}{k:Aa->IT}:W cx (.Co 7 [] k) Q h↔W cx (k (.bool true)) Q h:=OG.Co gP rfl rfl
def Kj.qG{h:Ah}{lo:Nat}{v:Aa}{l:List Int}(hv:Kj h lo v l){k:Nat}(hk:k<l.length):∃u,Ay (.PI 1 false false true) [v,.int .i64 (k:Int)]=some u/\N1 h u (l.take k):=by
 rcases hv with⟨rfl,rfl⟩|⟨id,_,rfl,hc⟩
 .simp at hk
 .exact⟨_,wF Ab Ab,pO hc Ab⟩
def xR(s:FN){av:Aa}(hv:Cp s.Av av){l:List QO}{v:Aa}(ho:bA l v)(hr:∀x∈l,-2147483648<=x.q.r/\x.q.r<=2147483647):Ev cx 3 [.agg (SQ s av),v] [] λr _=>r= .bool true:=by
 have B:Cx cx 5 [v,I 60] [] (.bool (decide (N6 l 60))) []:=f4 ho (m:=60) Bj [];have O:=f5 s hv [];have yS:av.cells=[av]:=Bu.cells hv;have C:=Bu.Gi ho;unfold Ev;rw[ċ,t3,SQ];by_cases A:N6 l 60;rotate_left;.rw[Bb A] at B;simp only[abS,B.Ag,Js];exact⟨_,rfl,rfl⟩
 rw[Bf A] at B;by_cases c2:WX s;rotate_left;.rw[Bb c2] at O;simp only[abS,B.Ag,O.Ag,Js];exact⟨_,rfl,rfl⟩
 rw[Bf c2] at O;have aKj:=A.1;simp only[abS,B.Ag,O.Ag];refine BI (λk:Nat=>[ff,.int .i64 (k:Int)]) (λk h1=>k<=l.length/\(∀x∈l.take k,Vg x.q)/\h1=[]) (λk=>l.length-k) 0 rfl ⟨A7 _,Aw,rfl⟩ ?_;rintro n h0 ⟨hn,Q9,rfl⟩;rcases Bg n l.length with hlt|GW
 .have w:=Bu.DC (k:= .i64) ho hlt;rw[QO.row,Pw] at w;have nx:Vg l[n].q->∀x∈l.take (n+1),Vg x.q:=λhq x hx=>by
   rw[AD hlt,Ak,Dl] at hx;rcases hx with hx|rfl
   .exact Q9 x hx
   .exact hq
  by_cases R:l[n].q.k=5
  .by_cases a0:l[n].q.a=0;.simp only[abS,C,(Ab:(n:Int)<(l.length:Int)),w,R,a0,CC,BT,(Ab:¬(5:Int)=3),Ci (Ab:n<9223372036854775807)];exact A8.next (n+1) rfl ⟨hlt,nx ⟨λh=>h.2 a0,λh=>by have:=h.1;omega⟩,rfl⟩ Ab
   .simp only[abS,C,(Ab:(n:Int)<(l.length:Int)),w,R,a0,CC,Js];exact⟨_,rfl,rfl⟩
  .by_cases W:l[n].q.k=3
   .by_cases nm:l[n].q.name=AY;.simp only[abS,C,(Ab:(n:Int)<(l.length:Int)),w,W,(Ab:¬(3:Int)=5),nm,AY,BT,Js];exact⟨_,rfl,rfl⟩
    .have nm':¬l[n].q.name=aK9:=nm;simp only[abS,C,(Ab:(n:Int)<(l.length:Int)),w,W,(Ab:¬(3:Int)=5),nm',Ci (Ab:n<9223372036854775807)];exact A8.next (n+1) rfl ⟨hlt,nx ⟨λh=>R h.1,λh=>nm h.2⟩,rfl⟩ Ab
   .simp only[abS,C,(Ab:(n:Int)<(l.length:Int)),w,R,W,Ci (Ab:n<9223372036854775807)];exact A8.next (n+1) rfl ⟨hlt,nx ⟨λh=>R h.1,λh=>W h.1⟩,rfl⟩ Ab
 .rw[AR GW] at Q9;obtain⟨h1,bi,F,r6,w1⟩:=aED s hv c2.2.ny ho A.1 (λx hx=>(A.2 x hx).ok (hr x hx)) [];have Iv:Fin (Jf s.b l) (39+1):=U9 (j:=40) (s.Iv.le (by have:=A.1;omega)) λx hx=>(A.2 x hx).ok (hr x hx);obtain⟨P,D,_⟩:=mD (bG s).1 (bG s).2 s.Iv.ok Q9;clear B O;generalize Jf s.b l=b at*;rw[SQ] at r6;obtain⟨a,o,c,t,G,wp,hc,w⟩:=w1;have rm:=Iv.sz.rm;have T:b.a.n.length<=900000000:=by have:=rm.n;omega
  have vZ:=λy=>rm.VG.AT Iv.ok.ok y;have qK:∀y,(b.a.nd y).Av.length<=1000000000:=λy=>by have:=rm.at_ y;omega
  have hob:b.AO.length<=1000000000:=by have:=rm.AO;omega
  have hne:b.a.n≠[]:=λe=>by have h1:=Iv.ok.BO.1;unfold Ar.has at h1;rw[e] at h1;simp at h1;omega
  obtain⟨Z,M,r7,n1⟩:=yr wp Iv;have J:=wp.Kr (u:=M);obtain⟨t1,o1,c1',L,r8,N⟩:=aEx J hc rm;have n2:=n1.DU (h':=h1++M++L) (λi _ hi=>Al hi) Aw;obtain⟨U,r9⟩:=aAy Iv.ok.ok n2 hne T vZ qK;have n3:=n2.DU (h':=h1++M++L++U) (λi _ hi=>Al hi) Aw;obtain⟨u4,iw⟩:=aAA Iv.ok.ok P.df D n3 hne T vZ;have s2:=N.DU (h':=h1++M++L++U++u4) λi _ hi=>by rw[AB,Al hi]
  have Y:=((J.Kr (u:=L)).Kr (u:=U)).Kr (u:=u4);have Q:=xw Y rm;have l0:=wp.l0;have tc1:t1.cells=[t1]:=N.t.cells;have oc1:=N.o.cells;have cc1:=N.c.cells;have bO:(b.AO.map Item.node).length=b.AO.length:=As ..;have d:Ay (.len false) [o1]=some (.int .i64 (b.AO.length:Int)):=by have:=N.o.len;rwa [show b.Sq.AO.length=b.AO.length from bO] at this
  have io:=s2.o.Ms;obtain⟨Ao,sl,er,nr⟩:=n1;have lv1:Ay (.len false) [Z]=some (.int .i64 (b.a.n.length:Int)):=by have:=sl.len;rwa [er] at this
  have vc:Z.cells=[Z]:=Bu.cells sl;rw[xE] at r8;simp only[abS,C,(Ab:¬(n:Int)<(l.length:Int)),r6.Ag,l0,r7.Ag,r8.Ag,tc1,oc1,cc1,r9.Ag,iw.Ag];generalize h1++M++L++U++u4=H at*;refine BI (λk:Nat=>[ff,.int .i64 (k:Int)]) (λk h2=>k<=b.AO.length/\h2=H) (λk=>b.AO.length-k) 0 rfl ⟨A7 _,rfl⟩ ?_;rintro k h2 ⟨hk,rfl⟩;rcases Bg k b.AO.length with g|hgk
  .have qu:k<(b.AO.map Item.node).length:=by rw[bO];exact g
   obtain⟨p,e2,E⟩:=io.at_ k qu;have X:b.Sq.AO[k]=b.AO[k].node:=C5 ..;rw[X] at E;obtain⟨f,k4,_⟩:=Iv.ok.op _ (AJ g);obtain⟨m,hm⟩:∃m:Nat,b.AO[k].node=(m:Int):=⟨b.AO[k].node.toNat,by have:=f.1;omega⟩;rw[hm] at E f k4;obtain⟨q1,q2⟩:=f;have S:m-1<b.a.n.length:=Ab;obtain⟨K,V,er2,_⟩:=nr (m-1) Ab S;have e4:=Bu.Gm (k:= .i64) sl (n:=m-1) Ab;have ek:(b.a.n[m-1]).kind=4:=by have:=(xF S).2;rw[<-this,(Ab:(((m-1:Nat):Int)+1)=(m:Int))];exact k4
   rw[er2,ek] at e4;obtain⟨u,e5,i5⟩:=s2.o.qG qu;have r12:=lZ i5 (by rw[Au];show min _ (b.AO.map Item.node).length<=_;rw[bO];omega) (m:Int);have e6:¬0<=BZ (λy=>decide ((m:Int)=y)) 0 (b.Sq.AO.take k):=by have:=lR (l:=b.Sq.AO.take k) (q:=λy=>decide ((m:Int)=y));intro h0;rw[Bf h0] at this;obtain⟨y,hy,ey⟩:=QU.1 this.symm;have ey:=FI ey;subst ey;obtain⟨j,hj,ej⟩:=aBu hy;rw[Au] at hj;rw[O2] at ej;have hd:=Jg.1 (Oc.1 Iv.ok.qE) j k Ab qu Ab;exact hd (ej.trans (by rw[<-hm];exact X.symm))
   simp only[abS,d,(Ab:(k:Int)<(b.AO.length:Int)),e2,E,(Ab:¬(m:Int)<1),lv1,(Ab:¬(b.a.n.length:Int)<(m:Int)),LJ (Ab:0<m) (Ab:m<9223372036854775807),e4,e5,r12.Ag,e6,CC,BT,Ci (Ab:k<9223372036854775807)];exact A8.next (k+1) rfl ⟨g,rfl⟩ Ab
  .by_cases z:b.AO.length=0
   .have z':(b.AO.length:Int)=0:=by omega
    simp only[abS,d,(Ab:¬(k:Int)<(b.AO.length:Int)),CZ z',Js];exact⟨_,rfl,rfl⟩
   .have Wk:b.AO.length-1<(b.AO.map Item.node).length:=by rw[bO];omega
    obtain⟨p,e2,E⟩:=io.at_ _ Wk;have X:b.Sq.AO[b.AO.length-1]=b.AO[b.AO.length-1].node:=C5 ..;rw[X] at E;have et:E6 b.AO=b.AO[b.AO.length-1]:=by unfold E6 EA;rw[Ad Ab,(Ab:((b.AO.length:Int)-1).toNat=b.AO.length-1),Ax,Ai Ab];rfl
    rw[et,Item.row] at Q;simp only[abS,d,(Ab:¬(k:Int)<(b.AO.length:Int)),(Ab:¬(b.AO.length:Int)=0),LJ (Ab:0<b.AO.length) (Ab:b.AO.length<9223372036854775807),e2,E,Q.Ag,Dx,BT,Js];exact⟨_,rfl,rfl⟩
def YG:∀l,S1 [YA,.sl L_] l->Ev cx 3 l [] λr _=>r= .bool true:=by rintro _ ⟨a,_,rfl,ha,b,_,rfl,hb,rfl⟩;obtain⟨s,av,rfl,hv⟩:=gR ha;obtain⟨l,ho,hr⟩:=xH hb;exact xR s hv ho hr
end Go.Am
end
