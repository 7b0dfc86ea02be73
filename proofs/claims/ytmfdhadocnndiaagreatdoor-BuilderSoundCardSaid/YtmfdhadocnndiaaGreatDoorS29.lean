/- Lemmas -/
import Derived.Test.YtmfdhadocnndiaaGreatDoorS27
import Derived.Test.YtmfdhadocnndiaaGreatDoorS28
set_option linter.all false
namespace Go.Am
open Go
set_option maxRecDepth 100000
section
variable{h h':Ah}{A:Ar}{x:Int}{y:Ek}{K V:Aa}
def yE{id:Nat}(hc:h[id]?=some (.cells (EK y K V))):Co cx 50 [.ptr (some (id,0))] h (.bool (decide (PO y))) h:=by
 have l0:Bk h none (.ptr (some (id,0)))=some (.int .i64 y.kind):=by simp only[Bk,hc];rfl
 have l4:Bk h none (.ptr (some (id,4)))=some (.int .i64 y.AY):=by simp only[Bk,hc];rfl
 have a:Bk h none (.ptr (some (id,5)))=some (.str y.name):=by simp only[Bk,hc];rfl
 rw[Aj,eQ,t50];simp only[abS,l0,l4,a,PO];refine⟨λh1=>⟨λh2=>?_,λh2=>?_⟩,λh1=>?_⟩<;>simp[*]
def aEm(ok:iX y)(hct:PO y↔y.cont≠0)(hK:EC y.AX K)(t:Ex h V y.AE)(hb:y.AE.length<=1000000000):
  Co cx 49 [.B3 (EK y K V)] h tt (h++[.cells (EK y K V)]):=by
 have r:=Bn.FL hK;have q:=t.in_.len;have F:=ok.k;have rt:Co cx 50 [.ptr (some (h.length,0))] (h++[.cells (EK y K V)]) (.bool (decide (PO y))) (h++[.cells (EK y K V)]):=yE (K:=K) (V:=V) Av;have rs:=wY (h:=h++[.cells (EK y K V)]) (y:=y.AY);rw[AW (show BS.Ir y.AY from ok.sp)] at rs;have ro:=wZ (h:=h++[.cells (EK y K V)]) t.Ja.in_ hb ok.uA;rw[ok.Cp] at ro;have lo:=Bn.FL (P0 (l:=y.AE));rw[EK] at rt rs ro⊢;have E:¬y.kind<1:=Ab;have D:¬y.kind>6:=Ab;have n:¬y.kind=4->¬y.kind=1->¬y.kind=2->y.AX=[]:=λa b c=>CE λhn=>by rcases ok.AX hn with h|h|h<;>contradiction
 have o:=ok.elem;have m:=ok.nm;have i:=ok.dt;have f:=ok.data;have g:=ok.CS;have s:=ok.K4;rw[Aj,tr,t49];by_cases j:PO y
 .have d:y.kind=4:=j.1;have e:y.CJ=0:=CE λhn=>by have:=s hn;omega
  obtain⟨z,w⟩:=i Ab;have v:=f Ab Ab;have u:=g Ab;have C:¬y.cont=0:=hct.1 j;rw[AW j] at rt;simp only[d,z,w,v,u,e] at rt rs ro;simp only[abS,Nat.reduceLeDiff,↓reduceIte,Bl,r,q,lo,rt.Ag,rs.Ag,ro.Ag,C5,E9,d,z,w,v,u,C,e,Ct,BM,Int.reduceLT,Int.reduceEq,Int.reduceGT,AG,AK,IP,Hl,implies_true,CR,Ck,Ey,C2,AD,AF]
 .rw[A4 j] at rt;have B:y.cont=0:=CE λhn=>j (hct.2 hn);have p:y.kind=1\/y.kind=2\/y.kind=3\/y.kind=4\/y.kind=5\/y.kind=6:=Ab;rcases p with d|d|d|d|d|d
  all_goals
   have e:y.kind≠2->y.CJ=0:=λh2=>CE λhn=>h2 (s hn);rw[d] at n o m i f g e;simp only[Int.reduceEq,AD,AF,AK,AG,Ct] at n o m i f g e;simp only[d,B,e,n,o,m,i,f,g] at rt rs ro r q lo;simp only[abS,Nat.reduceLeDiff,↓reduceIte,Bl,r,q,lo,rt.Ag,rs.Ag,ro.Ag,C5,E9,d,B,e,n,o,m,i,f,g,Bq,Qk,O5,Ct,BM,Int.reduceLT,Int.reduceEq,Int.reduceGT,AG,AK,IP,Hl,implies_true,CR,Ck,Ey,C2,AD,AF]
  exact⟨λ_=>by cases y.CS<;>simp only[NV,Mn],λ_=>by cases y.CS<;>simp only[NV,Mn]⟩
structure RO(h:Ah)(Af:List (List Aa))(A:Ar):Prop where
 len:Af.length=A.n.length
 row:∀(k:Nat) (hk:k<Af.length),∃K V,Af[k]=EK (A.nd ((k:Int)+1)) K V/\EC (A.nd ((k:Int)+1)).AX K/\Ex h V (A.nd ((k:Int)+1)).AE
def RO.Ja{Af:List (List Aa)}{t:Ah}(w:RO h Af A):RO (h++t) Af A:=
 ⟨w.len,λk hk=>by obtain⟨K,V,e,h1,h2⟩:=w.row k hk;exact⟨K,V,e,h1,h2.Ja⟩⟩
def Ÿ{lo:Nat}{v:Aa}(hv:Ls h lo v A.n)(hne:A.n≠[]):∃Af,v= .sl 13 Af/\RO h Af A:=by
 obtain⟨Af,b,a,c⟩:=hv;refine⟨Af,?_,a,λk hk=>?_⟩
 .rcases b with rfl|⟨rfl,rfl⟩
  .rfl
  .exact absurd (B4 (by simpa using a.symm)) hne
 .have i_:k<A.n.length:=by omega
  obtain⟨K,V,e,hK,d,_⟩:=c k hk i_;have f:=(fR i_).2;rw[f];exact⟨K,V,e,hK,d⟩
def RO.WX{Af:List (List Aa)}(w:RO h Af A)(hx:A.has x):WX Af x=some (A.up x):=by
 have h1:=hx.1;have h2:=hx.2;have hk:(x-1).toNat<Af.length:=by rw[w.len];omega
 obtain⟨K,V,e,_⟩:=w.row _ hk;rw[(Ab:(((x-1).toNat:Nat):Int)+1=x)] at e;unfold Am.WX;rw[Ad ⟨h1,by rw[w.len];exact h2⟩,Ak hk,BZ,e];unfold Ar.up;show(some (if(A.nd x).DA=0 then(A.nd x).CJ else(A.nd x).DA))=_;by_cases h0:(A.nd x).DA=0;.rw[Ad h0,Ac (λh=>h h0)]
 .rw[Ac h0,Ad h0]
def aEn{Af:List (List Aa)}(hb:Af.length<=1000000000):Co cx 48 [.int .i64 x,.B3 [.sl 13 Af]] h (.bool (decide (1<=x/\x<=(Af.length:Int)))) h:=by
 have l1:Bk h none (.B3 [.sl 13 Af])=some (.sl 13 Af):=rfl;have a:Ax (.len false) [.sl 13 Af]=some (.int .i64 (Af.length:Int)):=rfl;rw[Aj,tq,t48];by_cases h1:1<=x
 .by_cases h2:x<=(Af.length:Int);.simp only[abS,l1,a,ge_iff_le,h1,h2,aG,CR]
  .simp only[abS,l1,a,ge_iff_le,h1,h2,mc,Ck]
 .simp only[abS,ge_iff_le,h1,me,Ck]
def JV(n:Nat)(p:Nat->Bool):List Aa:=(List.range (n+1)).map λd=> .bool (p d)
def pZ{n:Nat}(hn:n<=900000000):Od h 1 1 [ff] (.int .i64 ((n:Int)+1)) (.int .i64 ((n:Int)+1))=some (h++[.cells (JV n λ_=>false)],.CI h.length 0 (n+1) 1):=by
 have hm:AN=140737488355328:=rfl;rw[(Ab:(n:Int)+1=((n+1:Nat):Int))];unfold Od;simp only
 rw[Ad ⟨Ab,Ab,Ab,rfl⟩];have:(List.replicate ((n+1:Nat):Int).toNat [ff]).flatten=JV n λ_=>false:=by
  rw[Bz];unfold JV;rw[List.map_const',aHa];generalize n+1=m;clear hn hm;induction m with
  |zero=>rfl
  |succ n ih=>rw[Ji,Ji,Cy,ih];rfl
 rw[this];rfl
def Wr{n d:Nat}{p:Nat->Bool}(hd:d<=n):Bk (h++[.cells (JV n p)]) none (.ptr (some (h.length,d)))=some (.bool (p d)):=by have hc:(h++[DH.cells (JV n p)])[h.length]?=some (.cells (JV n p)):=Av;simp only[Bk,hc,E5];unfold JV;rw[Cj,aAW Ab];rfl
def fY{n d:Nat}{p:Nat->Bool}(hd:d<=n):CK (h++[.cells (JV n p)]) 1 (.ptr (some (h.length,d))) tt=some (h++[.cells (JV n λe=>decide (e=d)||p e)]):=by
 have hc:(h++[DH.cells (JV n p)])[h.length]?=some (.cells (JV n p)):=Av;have hl:(JV n p).length=n+1:=by simp[JV]
 simp only[CK,hc];rw[Ad ⟨rfl,by rw[hl];show d+1<=n+1;omega⟩,Ce _ _ (Ae _),DL];have e:(JV n p).take d++(tt:Aa).cells++(JV n p).drop (d+1)=JV n λe=>decide (e=d)||p e:=by
  have a:(JV n p).take d++(tt:Aa).cells++(JV n p).drop (d+1)=(JV n p).set d tt:=by rw[<-Oq (by rw[hl];omega)];simp[Aa.cells]
  rw[a];unfold JV;refine List.ext_getElem Av λi h1 h2=>?_;rw[List.getElem_set];simp only[C3,aEx];by_cases hi:d=i;.subst hi;simp
  .rw[Ac hi];simp[show¬i=d from λe=>hi e.symm]
 rw[e];rfl
def X8{e:Int}(ok:DS A e){d:Int}(hp:(A.nd d).DA≠0):A.has d:=CE λhn=>hp (by rw[LW hn])
def aEo{Af:List (List Aa)}{e:Int}(w:RO h Af A)(ok:DS A e)(hb:A.n.length<=900000000)(aR:∀y,(A.nd y).AX.length<=1000000000):∃t,Co cx 51 [.sl 13 Af] h tt (h++t):=by
 have g:Ax (.len false) [.sl 13 Af]=some (.int .i64 (Af.length:Int)):=rfl;obtain⟨n,hn⟩:∃n,Af.length=n:=⟨_,rfl⟩;have F:n=A.n.length:=by rw[<-hn];exact w.len
 rw[hn] at g;have sl:Bn 13 Af (.sl 13 Af):= .mk;have ea:∀d:Nat,d<=n->Ax (.ER 1) [.CI h.length 0 (n+1) 1,.int .i64 (d:Int)]=some (.ptr (some (h.length,d))):=λd hd=>by have:=E8 (k:= .i64) (id:=h.length) (z:=1) (Ab:d<n+1);rwa [Fm] at this
 have Ng:Ev cx 51 [.sl 13 Af] h λr h'=>r=tt/\∃t,h'=h++t:=by
  unfold Ev;rw[tv,t51];simp only[Cn,g,Cu (Ab:n<9223372036854775807)];rw[(Ab:((n+1:Nat):Int)=(n:Int)+1)];refine bD (pZ Ab) ?_;simp only[Cn,g];refine BF (λk:Nat=>[ff,.int .i64 (k:Int)]) (λk h1=>k<=n/\h1=h++[.cells (JV n λd=>decide ((A.nd (d:Int)).DA≠0/\(A.nd (d:Int)).DA<=(k:Int)))]) (λk=>n-k) 0 rfl ⟨AZ _,?_⟩ ?_
  .have:(λd:Nat=>decide ((A.nd (d:Int)).DA≠0/\(A.nd (d:Int)).DA<=((0:Nat):Int)))=λ_=>false:=by funext d;refine A4 λu=>?_;have h1:=X8 ok u.1;have:=(ok.DA _ h1 u.1).1.1;omega
   rw[this]
  .rintro k h1 ⟨hk,rfl⟩;rcases A8 k n with hlt|GR
   .obtain⟨K,V,m,hK,_⟩:=w.row k Ab;have c:=Bn.ER (k:= .i64) sl (n:=k) Ab;have hx:A.has ((k:Int)+1):=by unfold Ar.has;omega
    have E:=Bn.FL hK;have zj:=aR ((k:Int)+1);rw[m,EK] at c;simp only[abS,↓reduceIte,(Ab:(k:Int)<(n:Int)),c,E];refine Gu (i:=2) (λj:Nat=>[ff,.int .i64 (j:Int)]) (λj h2=>j<=(A.nd ((k:Int)+1)).AX.length/\h2=h++[.cells (JV n λd=>decide ((A.nd (d:Int)).DA≠0/\(A.nd (d:Int)).DA<=(k:Int))||decide ((d:Int)∈(A.nd ((k:Int)+1)).AX.take j))]) (λj=>(A.nd ((k:Int)+1)).AX.length-j)
     (λj h2=>h2=h++[.cells (JV n λd=>decide ((A.nd (d:Int)).DA≠0/\(A.nd (d:Int)).DA<=((k+1:Nat):Int)))]) 0 rfl ⟨AZ _,Av⟩ ?_ ?_
    .rintro j h2 ⟨hj,rfl⟩;rcases A8 j (A.nd ((k:Int)+1)).AX.length with Yn|f
     .obtain⟨hy,hp⟩:=ok.Kq _ hx _ (AP Yn);obtain⟨d,hd⟩:∃d:Nat,(A.nd ((k:Int)+1)).AX[j]=(d:Int):=⟨(A.nd ((k:Int)+1)).AX[j].toNat,by have:=hy.1;omega⟩;have a:d<=n:=by have:=hy.2;omega
      obtain⟨q,D,s⟩:=(EC.L1 (h:=h++[.cells (JV n λd=>decide ((A.nd (d:Int)).DA≠0/\(A.nd (d:Int)).DA<=(k:Int))||decide ((d:Int)∈(A.nd ((k:Int)+1)).AX.take j))]) hK).at_ j Yn;rw[hd] at s hp;have l:(d:Int)∉(A.nd ((k:Int)+1)).AX.take j:=λhm=>by obtain⟨i,hi,v⟩:=aA0 hm;rw[Aw] at hi;rw[aI] at v;exact I1.1 (NH.1 (ok.Nv _ hx).Zv) i j Ab Yn Ab (v.trans hd.symm)
      have ld:=Wr (h:=h) (p:=λd=>decide ((A.nd (d:Int)).DA≠0/\(A.nd (d:Int)).DA<=(k:Int))||decide ((d:Int)∈(A.nd ((k:Int)+1)).AX.take j)) a;have st:=fY (h:=h) (p:=λd=>decide ((A.nd (d:Int)).DA≠0/\(A.nd (d:Int)).DA<=(k:Int))||decide ((d:Int)∈(A.nd ((k:Int)+1)).AX.take j)) a;have z:(decide ((A.nd (d:Int)).DA≠0/\(A.nd (d:Int)).DA<=(k:Int))||decide ((d:Int)∈(A.nd ((k:Int)+1)).AX.take j))=false:=by rw[A4 (by rw[hp];omega),A4 l];rfl
      simp only[z] at ld;simp only[abS,↓reduceIte,(Ab:(j:Int)<((A.nd ((k:Int)+1)).AX.length:Int)),D,s,ea d a,ld,st,Cu (Ab:j<9223372036854775807)];refine .next (j+1) rfl ⟨Yn,?_⟩ Ab
      congr 3
      congr 1
      funext C;rw[AL Yn,hd];by_cases b:C=d;.subst b;simp
      .simp[b,(Ab:¬(C:Int)=(d:Int))]
     .simp only[abS,↓reduceIte,(Ab:¬(j:Int)<((A.nd ((k:Int)+1)).AX.length:Int))];refine .HT j rfl ?_;congr 3
      congr 1
      funext d;rw[AT f];by_cases hp:(A.nd (d:Int)).DA=0
      .have:¬(d:Int)∈(A.nd ((k:Int)+1)).AX:=λhm=>by have:=(ok.Kq _ hx _ hm).2;omega
       simp[hp,this]
      .have hd:=X8 ok hp;have hq:=(ok.DA _ hd hp);by_cases b:(A.nd (d:Int)).DA=(k:Int)+1;.rw[b] at hq;simp[hp,b,hq.2];omega
       .have:¬(d:Int)∈(A.nd ((k:Int)+1)).AX:=λhm=>b (ok.Kq _ hx _ hm).2;by_cases B:(A.nd (d:Int)).DA<=(k:Int);.simp[hp,this,B,(Ab:(A.nd (d:Int)).DA<=(k:Int)+1)]
        .simp[hp,this,B,(Ab:¬(A.nd (d:Int)).DA<=(k:Int)+1)]
    .rintro j h2 rfl;simp only[abS,↓reduceIte,Cu (Ab:k<9223372036854775807)];exact A7.next (k+1) rfl ⟨hlt,rfl⟩ Ab
   .simp only[abS,↓reduceIte,(Ab:¬(k:Int)<(n:Int)),g];obtain rfl:k=n:=Ab;refine BF (λj:Nat=>[ff,.int .i64 (j:Int)]) (λj h2=>j<=k/\h2=h++[.cells (JV k λd=>decide ((A.nd (d:Int)).DA≠0/\(A.nd (d:Int)).DA<=(k:Int)))]) (λj=>k-j) 0 rfl ⟨AZ _,rfl⟩ ?_;rintro j h2 ⟨hj,rfl⟩;rcases A8 j k with Yn|f
    .obtain⟨K,V,m,hK,_⟩:=w.row j Ab;have c:=Bn.ER (k:= .i64) sl (n:=j) Ab;rw[m,EK] at c;have ld:=Wr (h:=h) (n:=k) (d:=j+1) (p:=λd=>decide ((A.nd (d:Int)).DA≠0/\(A.nd (d:Int)).DA<=(k:Int))) Ab;have o:=ea (j+1) Ab;rw[(Ab:((j+1:Nat):Int)=(j:Int)+1)] at o;simp only[(Ab:((j+1:Nat):Int)=(j:Int)+1)] at ld;have z:decide ((A.nd ((j:Int)+1)).DA≠0/\(A.nd ((j:Int)+1)).DA<=(k:Int))=decide ((A.nd ((j:Int)+1)).DA≠0):=by
      by_cases hp:(A.nd ((j:Int)+1)).DA=0;.simp[hp]
      .have hd:=X8 ok hp;have:=(ok.DA _ hd hp).1.2;simp[hp,(Ab:(A.nd ((j:Int)+1)).DA<=(k:Int))]
     rw[z] at ld;have pi:=Cu (Ab:j<9223372036854775807);rw[(Ab:((j+1:Nat):Int)=(j:Int)+1)] at pi;by_cases hp:(A.nd ((j:Int)+1)).DA=0;.simp only[abS,↓reduceIte,(Ab:(j:Int)<(k:Int)),pi,o,ld,c,hp,Ct,BM,CR,Ck,AD,AF];exact A7.next (j+1) rfl ⟨Yn,rfl⟩ Ab
     .simp only[abS,↓reduceIte,(Ab:(j:Int)<(k:Int)),pi,o,ld,c,hp,Ct,CR,Ck,AD,AF];exact A7.next (j+1) rfl ⟨Yn,rfl⟩ Ab
    .simp only[abS,↓reduceIte,(Ab:¬(j:Int)<(k:Int))];exact⟨_,rfl,rfl,_,rfl⟩
 obtain⟨r,h',hr,rfl,t,rfl⟩:=Ng.ret;exact⟨t,hr⟩
def RO.at_{Af:List (List Aa)}{z:Int}(w:RO h Af A)(hz:A.has z)(hb:A.n.length<=900000000):∃K V,Ax (.int .sub) [.int .i64 z,I 1]=some (.int .i64 (z-1))/\Ax (.ER 13) [.sl 13 Af,.int .i64 (z-1)]=some (.B3 (EK (A.nd z) K V))/\EC (A.nd z).AX K/\Ex h V (A.nd z).AE:=by
 have h1:=hz.1;have h2:=hz.2;obtain⟨k,hk⟩:∃k:Nat,z=(k:Int)+1:=⟨z.toNat-1,Ab⟩;subst hk;have hl:k<Af.length:=by rw[w.len];omega
 obtain⟨K,V,e,a,b⟩:=w.row k hl;have sl:Bn 13 Af (.sl 13 Af):= .mk;have d:=Bn.ER (k:= .i64) sl hl;rw[e] at d;have c:=Ln (n:=k+1) Ab Ab;rw[(Ab:((k+1:Nat):Int)=(k:Int)+1),JY] at c;refine⟨K,V,?_,?_,a,b⟩;.rw[(Ab:(k:Int)+1 -1=(k:Int))];exact c
 .rw[(Ab:(k:Int)+1 -1=(k:Int))];exact d
def aEq{Af:List (List Aa)}(w:RO h Af A)(ok:DS A 0)(hb:A.n.length<=900000000)(aR:∀y,(A.nd y).AX.length<=1000000000)(fL:∀y,(A.nd y).AE.length<=1000000000)
  (hr:∀h,Co cx 52 [.sl 13 Af] h tt h):∃t,Co cx 13 [.sl 13 Af] h tt (h++t):=by
 have l1:∀h:Ah,Bk h none (.B3 [.sl 13 Af])=some (.sl 13 Af):=λ_=>rfl;have Z:Ax (.len false) [.sl 13 Af]=some (.int .i64 (Af.length:Int)):=rfl;have hn:=w.len;have F:∀z,A.has z->∀h,Co cx 48 [.int .i64 z,.B3 [.sl 13 Af]] h tt h:=λz hz h=>by have:=aEn (h:=h) (x:=z) (Af:=Af) Ab;rwa [AW ⟨hz.1,by rw[hn];exact hz.2⟩] at this
 have Ng:Ev cx 13 [.sl 13 Af] h λr h'=>r=tt/\∃t,h'=h++t:=by
  unfold Ev;rw[su,t13];simp only[Cn,l1,Z];refine BF (λk:Nat=>[ff,.int .i64 (k:Int)]) (λk h1=>k<=Af.length/\∃t,h1=h++t) (λk=>Af.length-k) 0 rfl ⟨AZ _,[],Av⟩ ?_;rintro k h1 ⟨hk,t,rfl⟩;rcases A8 k Af.length with hlt|GR
  .have hx:A.has ((k:Int)+1):=by unfold Ar.has;omega
   obtain⟨K,V,R,hK,P⟩:=w.row k hlt;have e:=Bn.ER (k:= .i64) (Bn.mk:Bn 13 Af (.sl 13 Af)) hlt;rw[R] at e;have pi:=Cu (Ab:k<9223372036854775807);rw[(Ab:((k+1:Nat):Int)=(k:Int)+1)] at pi;obtain⟨x,g⟩:∃x:Int,(k:Int)+1=x:=⟨_,rfl⟩;rw[g] at R hK P e hx pi;have H:=ok.Nv x hx;have C:x≠0:=by have:=hx.1;omega
   have hct:PO (A.nd x)↔(A.nd x).cont≠0:=⟨λh=>ok.yR x hx C h,H.MM⟩;have f:=aEm (h:=h++t) H hct hK P.Ja (fL x);obtain⟨u,hu⟩:∃u,t++[DH.cells (EK (A.nd x) K V)]=u:=⟨_,rfl⟩;rw[AA,hu] at f;obtain⟨S,d2⟩:=ok.CQ x hx;have d3:=ok.TX x hx;obtain⟨Kd,Vd,E,B,_⟩:=w.at_ S hb;rw[EK,d2] at B;have I:=Bn.FL hK;have zj:=aR x;have root:=H.root;have rd:=F _ S (h++u);rw[EK] at e f;have ki:(k:Int)<(Af.length:Int):=Ab;have cs:((A.nd x).DA=0/\(A.nd x).kind=1/\(A.nd x).CQ=x)\/((A.nd x).DA=0/\¬(A.nd x).kind=1)\/(¬(A.nd x).DA=0/\¬(A.nd x).kind=1/\¬(A.nd x).kind=2/\Co cx 48 [.int .i64 (A.nd x).DA,.B3 [.sl 13 Af]] (h++u) tt (h++u)):=by
    by_cases a:(A.nd x).DA=0
    .by_cases b:(A.nd x).kind=1;.exact .inl ⟨a,b,d3 b⟩
     .exact .inr (.inl ⟨a,b⟩)
    .exact .inr (.inr ⟨a,(root a).1,(root a).2,F _ (ok.DA x hx a).1 _⟩)
   rcases cs with⟨a,b,L⟩|⟨a,b⟩|⟨a,b,L,c4⟩
   case' inl=>simp only[abS,Nat.reduceLeDiff,↓reduceIte,l1,ki,e,f.Ag,CA,Bi,rd.Ag,E,B,pi,Cg a,Cg b,Cg L,Ct,BM,I]
   case' inr.inl=>simp only[abS,Nat.reduceLeDiff,↓reduceIte,l1,ki,e,f.Ag,CA,Bi,rd.Ag,E,B,pi,Cg a,b,Ct,BM,I]
   case' inr.inr=>simp only[abS,Nat.reduceLeDiff,↓reduceIte,l1,ki,e,f.Ag,CA,Bi,rd.Ag,E,B,pi,a,b,L,c4.Ag,Ct,BM,I]
   all_goals
    refine Gu (i:=2) (λj:Nat=>[ff,.int .i64 (j:Int)]) (λj h2=>j<=(A.nd x).AX.length/\h2=h++u) (λj=>(A.nd x).AX.length-j) (λj h2=>h2=h++u) 0 rfl ⟨AZ _,rfl⟩ ?_ ?_
    .rintro j h2 ⟨hj,rfl⟩;rcases A8 j (A.nd x).AX.length with Yn|hgj
     .obtain⟨hy,hp⟩:=ok.Kq _ hx _ (AP Yn);obtain⟨Ky,Vy,T,Q,_⟩:=w.at_ hy hb;rw[EK] at Q;obtain⟨q,Y,X⟩:=(EC.L1 (h:=h++u) hK).at_ j Yn;have U:=F _ hy (h++u);simp only[abS,Nat.reduceLeDiff,↓reduceIte,l1,(Ab:(j:Int)<((A.nd x).AX.length:Int)),Y,X,CA,Bi,U.Ag,T,Q,Cg hp,pi,Ct,Cu (Ab:j<9223372036854775807)];exact .next (j+1) rfl ⟨Yn,rfl⟩ Ab
     .simp only[abS,Nat.reduceLeDiff,↓reduceIte,(Ab:¬(j:Int)<((A.nd x).AX.length:Int))];exact .HT j rfl rfl
    .rintro j h2 rfl;have v:([ff,.int .i64 x]:List Aa)=[ff,.int .i64 ((k+1:Nat):Int)]:=by rw[<-g];rfl
     by_cases o:(A.nd x).cont=0
     .by_cases d:(A.nd x).CJ=0;.simp only[abS,Nat.reduceLeDiff,↓reduceIte,Bl,l1,CA,Bi,pi,Ct,BM,reduceCtorEq,Cg o,Cg d];exact A7.next (k+1) v ⟨hlt,u,rfl⟩ Ab
      .obtain⟨c,hc⟩:=ok.CJ x hx d;obtain⟨s,p,D,m,_⟩:=w.at_ c hb;have ht:=(ok.Nv _ c).MM (by rw[hc];exact C);have rt:=yE (h:=h++u++[.cells (EK (A.nd (A.nd x).CJ) s p)]) (id:=(h++u).length) (y:=A.nd (A.nd x).CJ) (K:=s) (V:=p) Av;rw[AW ht,EK] at rt;rw[EK] at m;have G:=F _ c (h++u);simp only[abS,Nat.reduceLeDiff,↓reduceIte,Bl,l1,CA,Bi,pi,Ct,BM,reduceCtorEq,Cg o,d,G.Ag,D,m,rt.Ag,Cg hc];exact A7.next (k+1) v ⟨hlt,u++[_],by rw[AA]⟩ Ab
     .obtain⟨l,O,zw⟩:=ok.cont x hx o;obtain⟨Kc,Vc,M,J,_⟩:=w.at_ l hb;rw[EK] at J;have N:=F _ l (h++u);by_cases d:(A.nd x).CJ=0;.simp only[abS,Nat.reduceLeDiff,↓reduceIte,Bl,l1,CA,Bi,pi,Ct,BM,reduceCtorEq,o,N.Ag,M,J,Cg O,Cg zw,Cg d];exact A7.next (k+1) v ⟨hlt,u,rfl⟩ Ab
      .obtain⟨c,hc⟩:=ok.CJ x hx d;obtain⟨s,p,D,m,_⟩:=w.at_ c hb;have ht:=(ok.Nv _ c).MM (by rw[hc];exact C);have rt:=yE (h:=h++u++[.cells (EK (A.nd (A.nd x).CJ) s p)]) (id:=(h++u).length) (y:=A.nd (A.nd x).CJ) (K:=s) (V:=p) Av;rw[AW ht,EK] at rt;rw[EK] at m;have G:=F _ c (h++u);simp only[abS,Nat.reduceLeDiff,↓reduceIte,Bl,l1,CA,Bi,pi,Ct,BM,reduceCtorEq,o,N.Ag,M,J,Cg O,Cg zw,d,G.Ag,D,m,rt.Ag,Cg hc];exact A7.next (k+1) v ⟨hlt,u++[_],by rw[AA]⟩ Ab
  .obtain⟨t2,r2⟩:=aEo (h:=h++t) w.Ja ok hb aR;have W:=hr (h++t++t2);simp only[abS,↓reduceIte,(Ab:¬(k:Int)<(Af.length:Int)),l1,r2.Ag,W.Ag];exact⟨_,rfl,rfl,t++t2,by rw[AA]⟩
 obtain⟨r,h',hr,rfl,t,rfl⟩:=Ng.ret;exact⟨t,hr⟩
end
end Go.Am
