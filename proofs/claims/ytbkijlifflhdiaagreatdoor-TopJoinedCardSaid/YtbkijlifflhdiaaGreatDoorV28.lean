/- Lemmas -/
import Derived.Test.YtbkijlifflhdiaaGreatDoorV27
import Derived.Test.YtbkijlifflhdiaaGreatDoorV26
set_option linter.all false
set_option maxRecDepth 100000
section
end
section
namespace Go.Am
open Go
section
variable{A A':Ar}{b:BS}{l u v:List Int}{n p bf:Int}{x:DB}{e:Int}
def HG(A:Ar):List Int->Prop
 |x::y::l=>¬((A.nd x).kind=5/\(A.nd y).kind=5)/\HG A (y::l)
 |_=>True
structure Jd(A:Ar):Prop where
 ļ:∀h,A.has h->HG A (A.nd h).AP
 ne:∀h,A.has h->(A.nd h).kind=5->(A.nd h).data≠[]
def HG.congr:∀{l:List Int},HG A l->(∀k∈l,(A'.nd k).kind=(A.nd k).kind)->HG A' l
 |[],_,_=>trivial
 |[_],_,_=>trivial
 |x::y::l,h,hk=>⟨by rw[hk x Au,hk y Au];exact h.1,HG.congr h.2 λk hm=>hk k (D9 _ hm)⟩
def HG.vA:∀{u v:List Int},HG A (u++v)->(∀x,u.getLast?=some x->¬((A.nd x).kind=5/\(A.nd n).kind=5))->(∀y,v.head?=some y->¬((A.nd n).kind=5/\(A.nd y).kind=5))->HG A (u++n::v)
 |[],[],_,_,_=>trivial
 |[],y::v,h,_,h2=>⟨h2 y rfl,h⟩
 |[x],[],_,h1,_=>⟨h1 x rfl,trivial⟩
 |[x],y::v,h,h1,h2=>⟨h1 x rfl,h2 y rfl,h.2⟩
 |x::y::u,v,h,h1,h2=>⟨h.1,HG.vA (u:=y::u) h.2 (λz hz=>h1 z (by rw[List.getLast?_cons_cons];exact hz)) h2⟩
def HG.Mr(h:HG A l)(h1:∀x,JE l bf=some x->¬((A.nd x).kind=5/\(A.nd n).kind=5))(h2:bf≠0->¬((A.nd n).kind=5/\(A.nd bf).kind=5)):HG A (JM l bf n):=by
 unfold JM JE at*;split;.rename_i h0;rw[Ad h0] at h1;exact HG.vA (v:=[]) (by simpa using h) h1 (λy hy=>nomatch hy)
 .rename_i h0;rw[Ac h0] at h1;refine HG.vA (by rw[KL];exact h) h1 λy hy=>?_;have e:y=bf:=by have:=List.head?_dropWhile_not (λk=>decide (k≠bf)) l;rw[hy] at this;simpa using this
  rw[e];exact h2 h0
def Jd.add(j:Jd A)(ok:C8 A e)(hk:x.AP=[])(hd:x.kind=5->x.data≠[]):Jd (A.add x):=by
 refine⟨λh a=>?_,λh a=>?_⟩
 .rcases Dj.1 a with ho|rfl
  .rw[E5 ho];exact(j.ļ h ho).congr λk hm=>by rw[E5 (ok.KU h ho k hm).1]
  .rw[FV,Ad rfl,hk];trivial
 .rcases Dj.1 a with ho|rfl
  .rw[E5 ho];exact j.ne h ho
  .rw[FV,Ad rfl];exact hd
def Jd.E9(j:Jd A)(h0:(A.nd n).ER=0)(hk:(A.nd n).AP=[])(h1:∀x,JE (A.nd p).AP bf=some x->¬((A.nd x).kind=5/\(A.nd n).kind=5))(h2:bf≠0->¬((A.nd n).kind=5/\(A.nd bf).kind=5)):Jd (A.E9 n p bf):=by
 unfold Ar.E9;split;.exact j
 .unfold Ar.Hs;split
  .rename_i f;have g:A.cut n=A:=by unfold Ar.cut;simp only;rw[Ad h0]
   have hne:n≠p:=λe=>f.re (e▸ .refl);rw[g];have d:=λk=>dB (A:=A) (b:=bf) f.hp f.hn hne (k:=k);have kk:∀k,((A.Mr p n bf).nd k).kind=(A.nd k).kind:=λk=>by
    rw[d];split;.rename_i e;rw[e]
    .split;.rename_i e;rw[e]
     .rfl
   refine⟨λh a=>?_,λh a c=>?_⟩
   .rw[Sd] at a;refine HG.congr (A:=A) ?_ λk _=>kk k;rw[d];split;.show HG A (A.nd n).AP;rw[hk];trivial
    .split;.exact(j.ļ p f.hp).Mr h1 h2
     .exact j.ļ h a
   .rw[Sd] at a;rw[kk] at c;rw[d];split;.rename_i e;subst e;exact j.ne _ a c
    .split;.rename_i e;subst e;exact j.ne _ a c
     .exact j.ne h a c
  .exact j
def Jd.new(j:Jd A)(ok:C8 A e)(hk:x.AP=[])(hx:x.ER=0)(hd:x.kind=5->x.data≠[])(hp:A.has p)(h1:∀y,JE (A.nd p).AP bf=some y->¬((A.nd y).kind=5/\x.kind=5))(h2:bf≠0->A.has bf/\¬(x.kind=5/\(A.nd bf).kind=5)):Jd ((A.add x).E9 (A.len+1) p bf):=by
 have a:(A.add x).nd (A.len+1)=x:=by rw[FV,Ad rfl]
 refine(j.add ok hk hd).E9 (by rw[a];exact hx) (by rw[a];exact hk) (λy hy=>?_) λh=>?_
 .rw[E5 hp] at hy;have hm:y∈(A.nd p).AP:=by
   unfold JE at hy;split at hy;.exact LU hy
   .exact um _ |>.mem (LU hy)
  rw[a,E5 (ok.KU p hp y hm).1];exact h1 y hy
 .rw[a,E5 (h2 h).1];exact(h2 h).2
def oD(r:Int):JD r≠[]:=by
 unfold JD;split;.simp
 .split;.simp
  .split;.simp
   .split<;>simp
def Jd.of(j:Jd A)(ok:C8 A e)(ho:∀h,A.has h->(A'.nd h).AP=(A.nd h).AP/\(A'.nd h).kind=(A.nd h).kind/\((A.nd h).kind=5->(A'.nd h).data≠[]))(hn:∀h,¬A.has h->(A'.nd h).AP=[]/\(A'.nd h).kind≠5):Jd A':=by
 refine⟨λh d=>?_,λh d c=>?_⟩
 .by_cases a:A.has h;.rw[(ho h a).1];exact(j.ļ h a).congr λk hm=>(ho k (ok.KU h a k hm).1).2.1
  .rw[(hn h a).1];trivial
 .by_cases a:A.has h;.exact(ho h a).2.2 (by rw[<-(ho h a).2.1];exact c)
  .exact absurd c (hn h a).2
def fC{d sp:Int}{nm:Aq}{at_:List AS}{h:Int}(j:¬A.has h):((A.elem d sp nm at_).nd h).AP=[]/\((A.elem d sp nm at_).nd h).kind≠5:=by
 have c:(A.nd h).AP=[]/\(A.nd h).kind≠5:=by rw[Km j];exact⟨rfl,Be⟩
 have f:∀(B:Ar) (k y z:Int),(B.Lj k y).nd z=B.nd z:=λ_ _ _ _=>rfl;have a:(4:Int)≠5:=Be;have g:(2:Int)≠5:=Be;have i:(1:Int)≠5:=Be;unfold Ar.elem;simp only
 split
 .rw[GP];split;.exact⟨rfl,a⟩
  .rw[FV];split;.exact⟨rfl,g⟩
   .unfold Ar.DS;split
    .rw[FV];split;.exact⟨rfl,a⟩
     .exact c
    .rw[f,f,FV];split;.exact⟨rfl,i⟩
     .rw[FV];split;.exact⟨rfl,a⟩
      .exact c
 .rw[FV];split;.exact⟨rfl,a⟩
  .exact c
def Jd.elem(j:Jd A)(ok:C8 A e){d sp:Int}{nm:Aq}{at_:List AS}:Jd (A.elem d sp nm at_):=
 j.of ok (λh a=>by rw[(TV a).2];exact⟨rfl,rfl,j.ne h a⟩) λh a=>fC a
def Jd.Fa(j:Jd b.a)(o:Eg b){nm:Aq}{at_:List AS}{sp:Int}:Jd (b.Fa nm at_ sp).a:=by
 unfold BS.Fa;split;.rename_i hs;have c:=PC (A:=b.a) (d:=b.IW (b.place 0).1) (sp:=sp) (nm:=BS.Kn sp nm) (l:=at_.map (CX sp));show Jd ((b.EU nm at_ sp (b.place 0).1).a.E9 _ _ _);unfold BS.EU;rw[Ad hs];exact(j.elem o.ok).E9 c.2.2.2.2.2.1 c.2.2.2.2.1 (λx _ h=>by rw[c.2.1] at h;exact absurd h.2 Be) (λ_ h=>by rw[c.2.1] at h;exact absurd h.1 Be)
 .exact j
def de(o:Eg b)(h:b.JB.2≠0):(b.a.nd b.JB.2).kind=4:=by
 have h2:=Ku (q:=BF [Gz]) (l:=b.A3);unfold BS.JB at*;simp only at*;split at h;.exact absurd rfl h
 .rename_i h0;rw[Ac h0];split at h;.exact absurd rfl h
  .rename_i h1;rw[Ac h1];have c:=o.op _ (IY (l:=b.A3) (i:=AM (BF [Gz]) b.A3) Ab Ab);split at h;.rename_i hp;rw[Ad hp];exact c.2.1
   .exact absurd rfl h
def vR(o:Eg b){t:Int}(h:(b.place t).2≠0):(b.a.nd (b.place t).2).kind=4:=by
 unfold BS.place at*;simp only at*;by_cases h0:t=0/\b.A3=[];.rw[Ad h0] at h;exact absurd rfl h
 .rw[Ac h0] at h⊢;generalize(if t=0 then(GO b.A3).node else t)=t' at*;by_cases hf:b.FX=true/\Zl Ht b.a t'
  .rw[Ad hf] at h⊢;by_cases hc:(b.a.nd b.JB.1).cont≠0;.rw[Ad hc] at h;exact absurd rfl h
   .rw[Ac hc] at h⊢;exact de o h
  .rw[Ac hf] at h;split at h<;>exact absurd rfl h
def Jd.Kr(j:Jd A)(ok:C8 A e){s:Aq}(hs:s≠[])(hp:A.has p)(hb:bf≠0->A.has bf/\(A.nd bf).kind=4):Jd (BS.Kr A s p bf):=by
 have new:(∀y,JE (A.nd p).AP bf=some y->(A.nd y).kind≠5)->Jd ((A.add {kind:=5,CD:=(A.nd p).CD,data:=s}).E9 (A.len+1) p bf):=λh=>j.new ok rfl rfl (λ_=>hs) hp (λy hy a=>h y hy a.1) λh0=>⟨(hb h0).1,λa=>by rw[(hb h0).2] at a;exact absurd a.2 Be⟩
 unfold BS.Kr;split
 .split
  .rename_i t ht;split
   .rename_i a;refine j.of ok (λh c=>?_) λh c=>?_
    .unfold Ar.JZ;rw[GP];split;.rename_i e;rw[e.1];refine⟨rfl,rfl,λ_=>?_⟩;simp[hs]
     .exact⟨rfl,rfl,j.ne h c⟩
    .unfold Ar.JZ;rw[GP,Ac (show¬(h=t/\A.has t) from λe=>c (e.1▸e.2)),Km c];exact⟨rfl,Be⟩
   .rename_i a;exact new λy hy=>by rw[ht] at hy;cases hy;exact a
  .rename_i ht;exact new λy hy=>by rw[ht] at hy;cases hy
 .exact j
def Jd.ES(j:Jd A)(ok:C8 A e){s:Aq}(hp:A.has p)(hb:bf≠0->A.has bf):Jd (BS.ES A s p bf):=by
 unfold BS.ES;split;.exact j.new ok rfl rfl (λh=>absurd h (Be:(6:Int)≠5)) hp (λy _ h=>absurd h.2 (Be:(6:Int)≠5)) λh0=>⟨hb h0,λh=>absurd h.1 (Be:(6:Int)≠5)⟩
 .exact j
def QR(q:eW):Prop:=(q.k=1\/q.k=4\/q.k=5\/q.k=15\/q.k=18)/\(q.k=5->q.a=0)
def Jd.do(j:Jd b.a)(o:Eg b){q:eW}(hq:QR q):Jd (eX b q).1.a:=by
 have c:=TW o (t:=0) (.inl rfl);obtain⟨hk,d⟩:=hq;unfold eX;rcases hk with hk|hk|hk|hk|hk
 .rw[Ad hk];exact j.Fa o
 .rw[Ac Ab,Ac Ab,Ac Ab,Ad hk];exact j.Kr o.ok (oD _) c.1 λh=>⟨(c.2 h).1,vR o h⟩
 .rw[Ac Ab,Ac Ab,Ac Ab,Ac Ab,Ad hk];show Jd (if q.a=0 then _ else _);rw[Ad (d hk)];exact j.ES o.ok c.1 λh=>(c.2 h).1
 .rw[Ac Ab,Ac Ab,Ac Ab,Ac Ab,Ac Ab,Ac Ab,Ac Ab,Ac Ab,Ac Ab,Ac Ab,Ac Ab,Ac Ab,Ac Ab,Ac Ab,Ad hk];exact j
 .rw[Ac Ab,Ac Ab,Ac Ab,Ac Ab,Ac Ab,Ac Ab,Ac Ab,Ac Ab,Ac Ab,Ac Ab,Ac Ab,Ac Ab,Ac Ab,Ac Ab,Ac Ab,Ac Ab,Ac Ab,Ad hk];show Jd b.Xp.a;unfold BS.Xp;split<;>exact j
def kI(q:Bool):Jd (EC q).a:=by
 refine⟨λh d=>?_,λh d c=>?_⟩;.rw[PL];split<;>trivial
 .rw[PL] at c;split at c;.exact absurd c (Be:¬(1:Int)=5)
  .exact absurd c (Be:¬(0:Int)=5)
def ug{sp:Int}{nm:Aq}{l:List AS}{q f:Bool}:(UZ sp nm l q f).a=(Iw sp nm l q).a:=by
 have c:(MA sp nm l q).a=(Iw sp nm l q).a:=by unfold MA;split<;>rfl
 unfold UZ;split<;>exact c
def vS(s:Fc):Jd s.b.a:=by
 unfold Fc.b;split
 .have hs:BS.JC 1:=by decide
  have c:=PC (A:=(EC s.CB).a) (d:=(EC s.CB).IW 1) (sp:=1) (nm:=BS.Kn 1 ET) (l:=([]:List AS).map (CX 1));rw[ug];show Jd (((EC s.CB).EU ET [] 1 1).a.E9 ((EC s.CB).Ie ET [] 1).node 1 0);unfold BS.EU BS.Ie;rw[Ad hs,Ad hs];exact((kI s.CB).elem (NM s.CB).ok).E9 c.2.2.2.2.2.1 c.2.2.2.2.1 (λx _ h=>by rw[c.2.1] at h;exact absurd h.2 Be) (λh=>absurd rfl h)
 .exact kI _
def kJ:∀{l:List QO} {b:BS},Jd b.a->Eg b->(∀x∈l,QR x.q)->Jd (JO b l).a
 |[],_,j,_,_=>j
 |x::l,b,j,o,h=>by rw[JO];exact kJ (j.do o (h x Au)) (vO o) λy hy=>h y (by simp[hy])
end
section
variable{A:Ar}{e:Int}
def pA(A:Ar):Nat->Int->Int
 |0,z=>z
 |k+1,z=>pA A k (A.nd z).ER
def Sl:∀{a b:Nat} {z:Int},pA A (a+b) z=pA A b (pA A a z)
 |0,b,z=>by rw[Bm];rfl
 |a+1,b,z=>by rw[(Ab:a+1+b=(a+b)+1)];exact Sl (a:=a)
def ZT:∀{k:Nat},pA A k 0=0
 |0=>rfl
 |k+1=>by
  have:(A.nd 0).ER=0:=by rw[Km (show¬A.has 0 by unfold Ar.has;omega)]
  show pA A k (A.nd 0).ER=0;rw[this];exact ZT
def J8{y x:Int}(hx:A.has x)(hp:(A.nd y).ER=x):A.up y=x:=by unfold Ar.up;rw[hp,Ad (by have:=hx.1;omega)]
def ZU{r:Int->Nat}(hr:∀h,A.has h->A.up h≠0->r (A.up h)<r h)(ok:C8 A e):∀{k:Nat} {x w:Int},A.has x->pA A k x=w->A.has w->r w<=r x
 |0,x,w,_,h,_=>by rw[show x=w from h];exact Af _
 |k+1,x,w,hx,h,hw=>by
  have h':pA A k (A.nd x).ER=w:=h;by_cases hp:(A.nd x).ER=0;.rw[hp,ZT] at h';have:=hw.1;omega
  .have a:=(ok.ER x hx hp).1;have h1:=ZU hr ok (k:=k) a h' hw;have h2:=hr x hx (by rw[J8 a rfl];exact hp);rw[J8 a rfl] at h2;omega
def QI(A:Ar):Nat->Int->List Int
 |0,_=>[]
 |f+1,x=>(A.nd x).AP.flatMap λy=>y::QI A f y
def PM(ok:C8 A e):∀{f:Nat} {x z:Int},A.has x->z∈QI A f x->A.has z/\∃k,pA A (k+1) z=x
 |0,x,z,_,h=>by cases h
 |f+1,x,z,hx,h=>by
  obtain⟨y,hy,hz⟩:=Lp.1 h;obtain⟨h1,h2⟩:=ok.KU x hx y hy;rcases Az.1 hz with rfl|hz
  .exact⟨h1,0,h2⟩
  .obtain⟨c,k,hk⟩:=PM ok (f:=f) h1 hz;refine⟨c,k+1,?_⟩;rw[Sl (a:=k+1) (b:=1),hk];exact h2
def vT(ok:C8 A e){f:Nat}{y z:Int}(hy:A.has y)(hz:z∈y::QI A f y):∃k,pA A k z=y:=by
 rcases Az.1 hz with rfl|hz
 .exact⟨0,rfl⟩
 .obtain⟨_,k,hk⟩:=PM ok hy hz;exact⟨k+1,hk⟩
def QJ(ok:C8 A e){x y w:Int}{k:Nat}(hx:A.has x)(hy:A.has y)(hp:(A.nd y).ER=x)(hw:A.has w)(hq:(A.nd w).ER=x):pA A (k+1) y≠w:=by intro h;obtain⟨r,hr⟩:=ok.UQ;have h1:pA A k (A.nd y).ER=w:=h;rw[hp] at h1;have h2:=ZU hr ok hx h1 hw;have a:=hr w hw (by rw[J8 hx hq];have:=hx.1;omega);rw[J8 hx hq] at a;omega
def fD(ok:C8 A e){f:Nat}{x y w z:Int}(hx:A.has x)(hy:A.has y)(hp:(A.nd y).ER=x)(hw:A.has w)(hq:(A.nd w).ER=x)(hne:y≠w)(h1:z∈y::QI A f y)(h2:z∈w::QI A f w):False:=by
 obtain⟨a,ha⟩:=vT ok hy h1;obtain⟨b,hb⟩:=vT ok hw h2;rcases aE3 a b with hl|rfl|hl
 .obtain⟨d,rfl⟩:∃d,b=a+(d+1):=⟨b-a-1,Ab⟩;rw[Sl,ha] at hb;exact QJ ok hx hy hp hw hq hb
 .exact hne (ha.symm.trans hb)
 .obtain⟨d,rfl⟩:∃d,a=b+(d+1):=⟨a-b-1,Ab⟩;rw[Sl,hb] at ha;exact QJ ok hx hw hq hy hp ha
def We(ok:C8 A e):∀{f:Nat} {x:Int},A.has x->(QI A f x).Nodup
 |0,x,_=>GZ
 |f+1,x,hx=>by
  have ih:∀{y:Int},A.has y->(QI A f y).Nodup:=We ok (f:=f);have key:∀ks:List Int,ks.Nodup->(∀y∈ks,A.has y/\(A.nd y).ER=x)->(ks.flatMap λy=>y::QI A f y).Nodup:=by
   intro ks;induction ks with
   |nil=>intro _ _;exact GZ
   |cons y ks hk=>
    intro hn a;obtain⟨c,b⟩:=By.1 hn;obtain⟨hy,hp⟩:=a y Au;rw[ZY,Bx];refine⟨By.2 ⟨λhm=>?_,ih hy⟩,hk b λz hz=>a z (D9 _ hz),λp Zz q uZ e1=>?_⟩;.obtain⟨_,k,hk⟩:=PM ok hy hm;exact QJ ok hx hy hp hy hp hk
    .subst e1;obtain⟨w,hw,hz⟩:=Lp.1 uZ;obtain⟨h1,h2⟩:=a w (D9 _ hw);exact fD ok hx hy hp h1 h2 (λe=>c (e▸hw)) Zz hz
  exact key _ (ok.Qv x hx).mY λy hy=>ok.KU x hx y hy
def ZV:∀{N:Nat} {l:List Int},l.Nodup->(∀x∈l,1<=x/\x<=(N:Int))->l.length<=N
 |0,l,_,h=>by
  cases l with
  |nil=>exact Af _
  |cons x l=>have:=h x Au;omega
 |N+1,l,hn,h=>by
  have h1:=ZV (N:=N) (l:=l.erase ((N+1:Nat):Int)) (hn.erase _) λx hx=>by have h2:=(List.Nodup.mem_erase_iff hn).1 hx;have:=h x h2.2;have:=h2.1;omega
  rw[List.length_erase] at h1;split at h1<;>omega
def df(ok:C8 A e){f:Nat}{x:Int}(hx:A.has x):(QI A f x).length<=A.n.length:=
 ZV (We ok hx) λz hz=>(PM ok hx hz).1
def oE(A:Ar)(r:Int->Nat)(x:Int):Nat:=((List.range A.n.length).filter λi:Nat=>decide (r x<r ((i:Int)+1))).length
def dg{r:Int->Nat}{x:Int}:oE A r x<=A.n.length:=by unfold oE;exact A5 (wq _ _) Au
def dh{r:Int->Nat}{x y:Int}(hy:A.has y)(h:r x<r y):oE A r y<oE A r x:=by
 unfold oE;have e1:(List.range A.n.length).filter (λi:Nat=>decide (r y<r ((i:Int)+1)))=((List.range A.n.length).filter λi:Nat=>decide (r x<r ((i:Int)+1))).filter λi:Nat=>decide (r y<r ((i:Int)+1)):=by
  rw[List.filter_filter];congr 1
  funext i;by_cases h1:r y<r ((i:Int)+1);.simp[h1,Nat.lt_trans h h1]
  .simp[h1]
 rw[e1,List.length_filter_lt_length_iff_exists];obtain⟨i,hi⟩:∃i:Nat,y=(i:Int)+1:=⟨y.toNat-1,by have:=hy.1;omega⟩;subst hi;refine⟨i,CH.2 ⟨vY.2 (by have:=hy.2;omega),Bs h⟩,?_⟩;simp
end
section
variable{h h':Ag}{a n:Nat}{m:Option Nat}{ps:List PN}{A:Ar}{x:Int}{e:Int}
def oF(hx:A.has x):A.JZ x (A.nd x).data=A:=by
 have hl:x.toNat-1<A.n.length:=by unfold Ar.has at hx;omega
 unfold Ar.JZ Ar.set;rw[Ad hx];have e1:({A.nd x with data:=(A.nd x).data}:DB)=A.nd x:=rfl;rw[e1];have b:A.nd x=A.n[x.toNat-1]:=by unfold Ar.nd;rw[Ad hx,AG,Ap hl];rfl
 rw[b,HV]
structure JI(h:Ag)(a n:Nat)(m:Option Nat)(ps:List PN)(A:Ar)(b1 b2:Nat)(h1:Ag)(f:Int)(d:Aq):Prop where
 pa:∃QD,PA h1 a n m QD A/\ED h (λi=>i∈Eh a n m ps) h1 (λi=>i∈Eh a n m QD)/\b1∉Eh a n m QD/\b2∉Eh a n m QD
 c1:h1[b1]?=some (.cells [.int .i64 f])
 c2:h1[b2]?=some (.cells [.str d])
 ge1:h.length<=b1
 ge2:h.length<=b2
 ne:b1≠b2
def JI.J5{b1 b2:Nat}{h1 t:Ag}{f:Int}{d:Aq}(i:JI h a n m ps A b1 b2 h1 f d):JI h a n m ps A b1 b2 (h1++t) f d:=by obtain⟨⟨QD,w,x,c,b⟩,c1,c2,g1,g2,ne⟩:=i;have l1:=(Ae.1 c1).1;have l2:=(Ae.1 c2).1;exact⟨⟨QD,w.DH λi hi=>Ai (w.lt i hi),x.trans .J5,c,b⟩,by rw[Ai l1];exact c1,by rw[Ai l2];exact c2,g1,g2,ne⟩
def JI.YJ{b1 b2:Nat}{h1:Ag}{f f':Int}{d:Aq}(i:JI h a n m ps A b1 b2 h1 f d):Cx h1 1 (.ptr (some (b1,0))) (.int .i64 f')=some (h1.set b1 (.cells [.int .i64 f']))/\JI h a n m ps A b1 b2 (h1.set b1 (.cells [.int .i64 f'])) f' d:=by obtain⟨⟨QD,w,x,b,c⟩,c1,c2,g1,g2,ne⟩:=i;have l1:=(Ae.1 c1).1;refine⟨by simp only[Cx,c1];rfl,⟨QD,w.DH λi hi=>Aj (λe=>b (by rw[e];exact hi)),⟨by rw[Bz];exact x.len,λi hi hn=>?_,x.Bn⟩,b,c⟩,AA l1,by rw[Aj ne];exact c2,g1,g2,ne⟩;rw[Aj Ab];exact x.old i hi hn
def JI.di{b1 b2:Nat}{h1:Ag}{f:Int}{d d':Aq}(i:JI h a n m ps A b1 b2 h1 f d):Cx h1 1 (.ptr (some (b2,0))) (.str d')=some (h1.set b2 (.cells [.str d']))/\JI h a n m ps A b1 b2 (h1.set b2 (.cells [.str d'])) f d':=by obtain⟨⟨QD,w,x,c,b⟩,c1,c2,g1,g2,ne⟩:=i;have l2:=(Ae.1 c2).1;refine⟨by simp only[Cx,c2];rfl,⟨QD,w.DH λi hi=>Aj (λe=>b (by rw[e];exact hi)),⟨by rw[Bz];exact x.len,λi hi hn=>?_,x.Bn⟩,c,b⟩,by rw[Aj ne.symm];exact c1,AA l2,g1,g2,ne⟩;rw[Aj Ab];exact x.old i hi hn
def JI.l1{b1 b2:Nat}{h1:Ag}{f:Int}{d:Aq}(i:JI h a n m ps A b1 b2 h1 f d):BE h1 none (.ptr (some (b1,0)))=some (.int .i64 f):=by simp only[BE,i.c1];rfl
def JI.l2{b1 b2:Nat}{h1:Ag}{f:Int}{d:Aq}(i:JI h a n m ps A b1 b2 h1 f d):BE h1 none (.ptr (some (b2,0)))=some (.str d):=by simp only[BE,i.c2];rfl
def Ľ{b1 b2:Nat}{h1:Ag}{f:Int}{d:Aq}(t:J1 A)(i:JI h a n m ps A b1 b2 h1 f d)(hf:f≠0->A.has f/\(A.nd f).kind=5/\(A.nd f).data=d):
  ∃h2,Cm cx 83 [.ptr (some (b1,0)),.Cb [.ptr (some (a,0))],.ptr (some (b2,0))] h1 (.tuple []) h2/\JI h a n m ps A b1 b2 h2 0 []:=by
 have lp:BE h1 none (.Cb [.ptr (some (a,0))])=some (.ptr (some (a,0))):=rfl;by_cases f0:f=0;.obtain⟨g,i1⟩:=i.YJ (f':=0);obtain⟨c,j⟩:=i1.di (d':=[]);refine⟨_,?_,j⟩;rw[Ak,tW,t83];simp only[abS,i.l1,f0,CF,B0,g,c]
 .obtain⟨p,hk,rfl⟩:=hf f0;obtain⟨⟨QD,w,x,o,l⟩,c1,c2,g1,g2,ne⟩:=id i;obtain⟨h2,XI,r2,k,b⟩:=û (s:=(A.nd f).data) w t p hk;rw[oF p] at k;have l1:=(Ae.1 c1).1;have l2:=(Ae.1 c2).1;have r:b1∉Eh a n m XI:=λhm=>by rcases b.Bn _ hm with h|h;exact o h;omega
  have q:b2∉Eh a n m XI:=λhm=>by rcases b.Bn _ hm with h|h;exact l h;omega
  have j:JI h a n m ps A b1 b2 h2 f (A.nd f).data:=⟨⟨XI,k,x.trans b,r,q⟩,by rw[b.old b1 l1 o];exact c1,by rw[b.old b2 l2 l];exact c2,g1,g2,ne⟩;obtain⟨g,i3⟩:=j.YJ (f':=0);obtain⟨c,u⟩:=i3.di (d':=[]);refine⟨_,?_,u⟩;rw[Ak,tW,t83];simp only[abS,i.l1,i.l2,f0,CF,r2.Ah,g,c]
def HG.at:∀{l:List Int} {k:Nat} (hk:k+1<l.length),HG A l->¬((A.nd l[k]).kind=5/\(A.nd l[k+1]).kind=5)
 |x::y::l,0,_,h=>h.1
 |x::y::l,k+1,hk,h=>HG.at (l:=y::l) (k:=k) (by simpa using hk) h.2
 |[x],k,hk,_=>by simp at hk
 |[],k,hk,_=>by simp at hk
def ľ(w:PA h a n m ps A)(l:J1 A)(ok:C8 A e)(j:Jd A)(NS:∀y,(A.nd y).AP.length<=1000000000)(hx:A.has x):
  ∃h' KD,Cm cx 39 [.ptr (some (a,0)),.int .i64 x] h (.tuple []) h'/\PA h' a n m KD A/\ED h (λi=>i∈Eh a n m ps) h' (λi=>i∈Eh a n m KD):=by
 obtain⟨b1,e1⟩:∃b,h.length=b:=⟨_,rfl⟩;have i0:JI h a n m ps A b1 (b1+1) (h++[.cells [.int .i64 0]]++[.cells [.str []]]) 0 []:=by subst e1;refine⟨⟨ps,w.DH λi hi=>by rw[AI,Ai (w.lt i hi)],by rw[AI];exact .J5,λhm=>CL _ (w.lt _ hm),λhm=>by have:=w.lt _ hm;omega⟩,Au,Au,Af _,D7 _,Ab⟩
 have Q:(h++[FF.cells [Aa.int .i64 0]]).length=b1+1:=by simp[e1]
 obtain⟨J,i1⟩:=i0.YJ (f':=0);obtain⟨C,z⟩:=i1.di (d':=[]);obtain⟨H,P⟩:∃H,((h++[FF.cells [.int .i64 0]]++[FF.cells [.str []]]).set b1 (FF.cells [.int .i64 0])).set (b1+1) (FF.cells [.str []])=H:=⟨_,rfl⟩;rw[P] at C z;obtain⟨XI,F,R,_⟩:=z.pa;obtain⟨v,L,hv⟩:=uP F l (NS x);have N:=Bu.GF hv;have lp:∀h1,BE h1 none (.Cb [.ptr (some (a,0))])=some (.ptr (some (a,0))):=λ_=>rfl;have Oq:Ev cx 39 [.ptr (some (a,0)),.int .i64 x] h λr h'=>r= .tuple []/\JI h a n m ps A b1 (b1+1) h' 0 []:=by
  unfold Ev;rw[pj,t39];simp only[abS,Nat.reduceLeDiff,↓reduceIte,Bt,e1,Q,J,C,lp,L.Ah,N];refine BL (λs:Nat×Int×Aq=>[.int .i64 (s.1:Int)]) (λs h1=>s.1<=(A.nd x).AP.length/\JI h a n m ps A b1 (b1+1) h1 s.2.1 s.2.2/\(s.2.1≠0->A.has s.2.1/\(A.nd s.2.1).kind=5/\(A.nd s.2.1).data=s.2.2/\0<s.1/\(A.nd x).AP[s.1 -1]?=some s.2.1)) (λs=>(A.nd x).AP.length-s.1) (0,0,[]) rfl ⟨A8 _,z,λc=>absurd rfl c⟩ ?_;rintro⟨k,f,d⟩ h1 ⟨hk,i,hf⟩;simp only at hk i hf;rcases BH k (A.nd x).AP.length with hlt|HK
  .obtain⟨p,e1,E⟩:=(Hu.RR (h:=h1) hv).at_ k hlt;obtain⟨hy,_⟩:=ok.KU x hx _ (AX hlt);have aIy:=NS x;obtain⟨QD,w1,_⟩:=id i.pa;obtain⟨r,t,q,K,V,rfl,_⟩:=bu (x:=(A.nd x).AP[k]) w1 l (NS _);rw[Ad hy] at q;have B:=i.J5 (t:=t);by_cases g:(A.nd (A.nd x).AP[k]).kind=5
   .have hd:=j.ne _ hy g;have f0:f=0:=Decidable.byContradiction λc=>by obtain⟨_,M,_,S,D⟩:=hf c;have XW:k-1+1<(A.nd x).AP.length:=Ab;rw[Ap Ab] at D;have:=HG.at XW (j.ļ x hx);simp only[Da D,(Ab:k-1+1=k)] at this;exact this ⟨M,g⟩
    subst f0;obtain⟨I,i3⟩:=B.YJ (f':=(A.nd x).AP[k]);obtain⟨G,O⟩:=i3.di (d':=(A.nd (A.nd x).AP[k]).data);simp only[abS,Nat.reduceLeDiff,↓reduceIte,(Ab:(k:Int)<((A.nd x).AP.length:Int)),e1,E,lp,q.Ah,g,B.l1,CF,B0,hd,I,G,CQ (Ab:k<9223372036854775807)];exact A6.next (k+1,(A.nd x).AP[k],(A.nd (A.nd x).AP[k]).data) rfl ⟨hlt,O,λ_=>⟨hy,g,rfl,Cn _,by simp[hlt]⟩⟩ GU
   .obtain⟨h2,o,u⟩:=Ľ l B λc=>⟨(hf c).1,(hf c).2.1,(hf c).2.2.1⟩;simp only[abS,Nat.reduceLeDiff,↓reduceIte,(Ab:(k:Int)<((A.nd x).AP.length:Int)),e1,E,lp,q.Ah,g,CF,CM,BN,o.Ah,CQ (Ab:k<9223372036854775807)];exact A6.next (k+1,0,[]) rfl ⟨hlt,u,λc=>absurd rfl c⟩ GU
  .obtain⟨h2,o,u⟩:=Ľ l i λc=>⟨(hf c).1,(hf c).2.1,(hf c).2.2.1⟩;simp only[abS,Nat.reduceLeDiff,↓reduceIte,(Ab:¬(k:Int)<((A.nd x).AP.length:Int)),CM,BN,o.Ah];exact⟨_,rfl,rfl,u⟩
 obtain⟨r,h',hr,rfl,i⟩:=Oq.ret;obtain⟨KD,w',x',_⟩:=i.pa;exact⟨h',KD,hr,w',x'⟩
def Rt{cs:List Aa}:∀{l:List Int} {Gi:List Aa},Kh (Gi++l.map (Aa.int .i64)++cs) Gi.length l.length=some l
 |[],_=>rfl
 |y::l,Gi=>by have h1:=Rt (cs:=cs) (l:=l) (Gi:=Gi++[.int .i64 y]);simp only[AI,Ao,BT,F5] at h1;show Kh _ _ (l.length+1)=_;have h2:(Gi++(y::l).map (Aa.int .i64)++cs)[Gi.length]?=some (.int .i64 y):=Au;unfold Kh;rw[h2];simp only[AZ,AI,BW] at h1⊢;rw[h1];rfl
def oG(w:PA h a n m ps A)(hx:A.has x)(NS:(A.nd x).AP.length<=1000000000):Tc h a x=some (A.nd x).AP:=by
 have hl:x<=(ps.length:Int):=by have:=hx.2;rw[w.eL] at this;exact this
 have c2:(ps.map PN.row).flatten[0+(x.toNat-1)*13+2]?=some (pN ps x).kv:=w.cell hx (k:=2) Be;have hc:=And.intro hx.1 hl;unfold Tc;simp only[w.ha,w.hn,hc,ZZ,↓reduceIte,c2];rcases w.KU hx with⟨e,b⟩|⟨id,cs,e,b⟩
 .simp only[e,b]
 .have h1:=Rt (cs:=cs) (l:=(A.nd x).AP) (Gi:=[]);rw[Bj] at h1;simp only[e,b,NS,↓reduceIte];exact h1
def kK{f:Int->Option (List Int)}{g:Int->List Int}:∀{ks:List Int},(∀y∈ks,f y=some (g y))->l8 f ks=some (ks.flatMap λy=>y::g y)
 |[],_=>rfl
 |y::ks,h=>by unfold l8;rw[h y Au,kK λz hz=>h z (D9 _ hz)];rfl
def ZW{r:Int->Nat}(hr:∀h,A.has h->A.up h≠0->r (A.up h)<r h)(w:PA h a n m ps A)(ok:C8 A e)(NS:∀y,(A.nd y).AP.length<=1000000000):∀{f:Nat} {x:Int},A.has x->oE A r x<f->Rc h a f x=some (QI A f x)
 |0,x,_,h=>Ab
 |f+1,x,hx,hl=>by unfold Rc QI;rw[oG w hx (NS x),BU];refine kK λy hy=>?_;obtain⟨h1,h2⟩:=ok.KU x hx y hy;have b:=hr y h1 (by rw[J8 hx h2];have:=hx.1;omega);rw[J8 hx h2] at b;exact ZW hr w ok NS h1 (by have:=dh h1 b;omega)
def dj(w:PA h a n m ps A)(ok:C8 A e)(b:J1 A)(NS:∀y,(A.nd y).AP.length<=1000000000)(hx:A.has x):
  ∃l:List Int,rG h [.ptr (some (a,0)),.int .i64 x]=some (h,.sl 1 (l.map λy=>[.int .i64 y]))/\∀y∈l,A.has y:=by
 obtain⟨r,hr⟩:=ok.UQ;have h1:=ZW hr w ok NS (f:=ps.length+1) hx (by have:=dg (A:=A) (r:=r) (x:=x);rw[w.eL] at this;omega);have h2:=df ok (f:=ps.length+1) hx;have c:=b.n;refine⟨QI A (ps.length+1) x,?_,λy hy=>(PM ok hx hy).1⟩;unfold rG;simp only[w.ha,h1,(Ab:(QI A (ps.length+1) x).length<=1000000000),↓reduceIte]
def Wf(b:J1 A)(ok:C8 A e)(j:Jd A)(NS:∀y,(A.nd y).AP.length<=1000000000):∀{l:List Int} {h:Ag} {ps:List PN},PA h a n m ps A->(∀y∈l,A.has y)->
  ∃h' KD,PA h' a n m KD A/\ED h (λi=>i∈Eh a n m ps) h' (λi=>i∈Eh a n m KD)/\∀(k:IT) (Q:IA),W cx k Q h'->W cx (Ov 39 (.ptr (some (a,0))) k (l.map λy=>[.int .i64 y])) Q h
 |[],h,ps,w,_=>⟨h,ps,w,.refl,λ_ _ hw=>hw⟩
 |y::l,h,ps,w,c=>by obtain⟨h1,QD,o,w1,f⟩:=ľ w b ok j NS (c y Au);obtain⟨h2,XI,g,d,hk⟩:=Wf b ok j NS (l:=l) w1 λz hz=>c z (D9 _ hz);refine⟨h2,XI,g,f.trans d,λk Q hw=>?_⟩;have:=hk k Q hw;simp only[AZ,Ov];exact o.Ah.2 this
def aDd(w:PA h a n m ps A)(d:J1 A)(NS:(A.nd x).AP.length<=1000000000)(hx:A.has x):∃t,Cm cx 38 [.ptr (some (a,0)),I (-1),.sl 1 [[.int .i64 x]]] h (I 0) (h++t):=by
 obtain⟨r,t,b,K,V,rfl,_⟩:=bu (x:=x) w d NS;rw[Ad hx] at b;have hv:Bu 1 [[Aa.int .i64 x]] (.sl 1 [[.int .i64 x]]):= .mk;have e1:([[Aa.int .i64 x]]:List (List Aa))[0]=[.int .i64 x]:=rfl;have c:¬x=0:=by have:=hx.1;omega
 refine⟨t,?_⟩;rw[Ak,ph,t38];simp only[abS,hv.len];refine BL (λk:Nat=>[.int .i64 0,.int .i64 (k:Int)]) (λk h1=>(k=0/\h1=h)\/(k=1/\h1=h++t)) (λk=>1 -k) 0 rfl (.inl ⟨rfl,rfl⟩) ?_;rintro k h1 (⟨rfl,rfl⟩|⟨rfl,rfl⟩);.simp only[Ch,cN,(Be:((0:Nat):Int)<((1:Nat):Int)),hv.F8 (show 0<[[Aa.int .i64 x]].length from DW),e1,c,b.Ah,CF,B0,CQ (Ab:0<9223372036854775807)];exact A6.next 1 rfl (.inr ⟨rfl,rfl⟩) Ab
 .simp only[abS,(Be:¬((1:Nat):Int)<((1:Nat):Int))]
def aDe(w:PA h a n m ps A)(b:J1 A)(ok:C8 A e)(j:Jd A)(NS:∀y,(A.nd y).AP.length<=1000000000)(hx:A.has x):
  ∃h' KD,W cx (Ki 38 39 [.ptr (some (a,0)),.int .i64 x]) (λx vs h1=>x= .ret/\vs=[I 0]/\h1=h') h/\PA h' a n m KD A/\ED h (λi=>i∈Eh a n m ps) h' (λi=>i∈Eh a n m KD):=by
 obtain⟨t,p⟩:=aDd w b (NS x) hx;have w1:PA (h++t) a n m ps A:=w.DH λi hi=>Ai (w.lt i hi);have k:ED h (λi=>i∈Eh a n m ps) (h++t) (λi=>i∈Eh a n m ps):= .J5;obtain⟨h2,XI,r2,d,g⟩:=ľ w1 b ok j NS hx;obtain⟨l,hg,hl⟩:=dj d ok b NS hx;obtain⟨q,c,o,f,hk⟩:=Wf b ok j NS d hl;refine⟨q,c,?_,o,(k.trans g).trans f⟩;unfold Ki;simp only[Ch,p.Ah,Dk,r2.Ah,D4,hg];exact hk _ _ (by simp only[Ch])
end
def wk(h:Ag)(x:DB)(r:List Aa):Prop:=∃K V,r=[I x.kind,I x.ER,K,I x.CD,I x.AY,.str x.name,V,.str x.data,.str x.L_,.str x.sys,.bool x.CB,I x.cont,I x.D0]/\OK h K x.AP/\K5 h V x.AB/\K.cells=[K]/\V.cells=[V]
def Uo(h:Ag)(v:Aa)(l:List DB):Prop:=∃An:List (List Aa),Bu 13 An v/\An.length=l.length/\∀k (h1:k<An.length) (h2:k<l.length),wk h l[k] An[k]
def JG(h:Ag)(lo:Nat)(v:Aa)(l:List DB):Prop:=∃An:List (List Aa),Bu 13 An v/\An.length=l.length/\∀k (h1:k<An.length) (h2:k<l.length),OJ h lo l[k] An[k]
section
variable{h h':Ag}{lo lo':Nat}{v v':Aa}
def Up.le{N b:Nat}(hu:Up N v)(hl:b<=N):Up b v:=λid k e=>A5 hl (hu id k e)
def OJ.rd{x:DB}{r:List Aa}(hr:OJ h lo x r):wk h x r:=let⟨K,V,e,h1,h2,_⟩:=hr;⟨K,V,e,h1.RR,h2.in_,Bu.cells h1,h2.cells⟩
def OJ.DH{x:DB}{r:List Aa}(hr:OJ h lo x r)(hf:∀i,lo<=i->i<h.length->h'[i]?=h[i]?)(hl:h.length<=h'.length):OJ h' lo x r:=by
 obtain⟨K,V,e,h1,h2,b⟩:=hr;refine⟨K,V,e,h1,?_,b⟩;rcases h2 with h2|⟨id,e1,d,c⟩
 .exact .inl h2
 .exact .inr ⟨id,e1,by rw[hf id (b _ _ e1) c];exact d,Ab⟩
def OJ.low{x:DB}{r:List Aa}(hr:OJ h lo x r)(hl:lo'<=lo):OJ h lo' x r:=let⟨K,V,e,h1,h2,b⟩:=hr;⟨K,V,e,h1,h2,b.le hl⟩
def JG.rd{l:List DB}(hv:JG h lo v l):Uo h v l:=let⟨An,h1,h2,c⟩:=hv;⟨An,h1,h2,λk a b=>(c k a b).rd⟩
def JG.DH{l:List DB}(hv:JG h lo v l)(hf:∀i,lo<=i->i<h.length->h'[i]?=h[i]?)(hl:h.length<=h'.length):JG h' lo v l:=let⟨An,h1,h2,c⟩:=hv;⟨An,h1,h2,λk a b=>(c k a b).DH hf hl⟩
def f18{l:List Int}(hv:OK h v l)(Gv:OK h v' l)(hb:l.length<=1000000000):Cm cx 89 [v,v'] h tt h:=by
 rw[Ak,qe,t89];simp only[abS,hv.len,Gv.len,CF,B0];refine BL (λn:Nat=>[ff,I (n:Int)]) (λn h1=>n<=l.length/\h1=h) (λn=>l.length-n) 0 rfl ⟨A8 _,rfl⟩ ?_;rintro n h1 ⟨hn,rfl⟩;rcases BH n l.length with hlt|HK
 .obtain⟨p,a1,a2⟩:=hv.at_ n hlt;obtain⟨p',b1,b2⟩:=Gv.at_ n hlt;simp only[abS,hv.len,(Ab:(n:Int)<(l.length:Int)),a1,a2,b1,b2,CF,B0,CQ (Ab:n<9223372036854775807)];exact A6.next (n+1) rfl ⟨hlt,rfl⟩ Ab
 .simp only[abS,hv.len,(Ab:¬(n:Int)<(l.length:Int))]
def aDf(y:AS):Ax (.geq true [.i,.s,.s]) [.agg y.row,.agg y.row]=some (.bool false):=by rw[Tv];simp[AS.row,Dh,Ka]
def Ŀ{l:List AS}(hv:K5 h v l)(Gv:K5 h v' l)(hb:l.length<=1000000000):Cm cx 133 [v,v'] h tt h:=by
 rw[Ak,zU,Ë];simp only[abS,hv.len,Gv.len,CF,B0];refine BL (λn:Nat=>[ff,I (n:Int)]) (λn h1=>n<=l.length/\h1=h) (λn=>l.length-n) 0 rfl ⟨A8 _,rfl⟩ ?_;rintro n h1 ⟨hn,rfl⟩;rcases BH n l.length with hlt|HK
 .obtain⟨p,a1,a2⟩:=hv.at_ n hlt;obtain⟨p',b1,b2⟩:=Gv.at_ n hlt;simp only[abS,hv.len,(Ab:(n:Int)<(l.length:Int)),a1,a2,b1,b2,aDf,CQ (Ab:n<9223372036854775807)];exact A6.next (n+1) rfl ⟨hlt,rfl⟩ Ab
 .simp only[abS,hv.len,(Ab:¬(n:Int)<(l.length:Int))]
def aDg{x:DB}{r r':List Aa}(hr:wk h x r)(FH:wk h x r')(hb:x.AB.length<=1000000000):Cm cx 88 [.agg r,.agg r'] h tt h:=by obtain⟨K,V,rfl,g,e,k3,f⟩:=hr;obtain⟨j,i,rfl,Ļ,ŵ,d,c⟩:=FH;have b:=Ŀ e ŵ hb;rw[Ak,qd,t88];simp only[abS,B0,b.Ah,Gp]
def aDh{x:DB}{r r':List Aa}(hr:wk h x r)(FH:wk h x r')(hb:x.AB.length<=1000000000)(hk:x.AP.length<=1000000000):Cm cx 41 [.agg r,.agg r'] h tt h:=by have b:=aDg hr FH hb;obtain⟨K,V,rfl,e,g,k3,f⟩:=hr;obtain⟨j,i,rfl,Ļ,ŵ,d,c⟩:=FH;have r2:=f18 e Ļ hk;rw[Ak,pk,t41];simp only[Ch,B0,b.Ah,r2.Ah,Gp]
def f90{l:List DB}(hv:Uo h v l)(Gv:Uo h v' l)(hb:l.length<=1000000000)(ha:∀x∈l,x.AB.length<=1000000000/\x.AP.length<=1000000000):Cm cx 16 [v,v'] h tt h:=by
 obtain⟨An,g,e1,o⟩:=hv;obtain⟨b,c,Ũ,e⟩:=Gv;have l1:=g.len;have l2:=c.len;rw[e1] at l1;rw[Ũ] at l2;rw[Ak,pd,t16];simp only[abS,l1,l2,CF,B0];refine BL (λn:Nat=>[ff,I (n:Int)]) (λn h1=>n<=l.length/\h1=h) (λn=>l.length-n) 0 rfl ⟨A8 _,rfl⟩ ?_;rintro n h1 ⟨hn,rfl⟩;rcases BH n l.length with hlt|HK
 .have a1:=g.F8 (k:= .i64) (Ab:n<An.length);have a2:=c.F8 (k:= .i64) (Ab:n<b.length);have j:=o n Ab hlt;have i:=e n Ab hlt;have hm:=ha _ (AX hlt);have d:=aDh j i hm.1 hm.2;obtain⟨K,V,p,_⟩:=j;obtain⟨r,q,f,_⟩:=i;rw[p] at a1 d;rw[f] at a2 d;simp only[abS,Nat.reduceLeDiff,↓reduceIte,l1,(Ab:(n:Int)<(l.length:Int)),a1,a2,d.Ah,CQ (Ab:n<9223372036854775807)];exact A6.next (n+1) rfl ⟨hlt,rfl⟩ Ab
 .simp only[abS,↓reduceIte,l1,(Ab:¬(n:Int)<(l.length:Int))]
end
def vU{A:Ar}{k:Nat}(hk:k<A.n.length):A.has ((k:Int)+1)/\A.nd ((k:Int)+1)=A.n[k]:=by
 have h1:A.has ((k:Int)+1):=by unfold Ar.has;omega
 refine⟨h1,?_⟩;unfold Ar.nd;rw[Ad h1,AG,(Ab:((k:Int)+1).toNat-1=k),Ap hk];rfl
section
variable{h h':Ag}{a n:Nat}{m:Option Nat}{ps:List PN}{A:Ar}{x:Int}
def aDi(w:PA h a n m ps A)(o:J1 A)(hk:∀x,(A.nd x).AP.length<=1000000000)(hb:A.n.length<=900000000):∃v u,Cm cx 9 [Pt a 0] h v (h++u)/\JG (h++u) h.length v A.n:=by
 have wE:AO=140737488355328:=rfl;have kX:A.n.length=ps.length:=by rw[w.e,Aw]
 have Oq:Ev cx 9 [Pt a 0] h λr h'=>∃u,h'=h++u/\JG (h++u) h.length r A.n:=by
  unfold Ev;rw[V_,t9];simp only[Ch,cN,w.nodes,show Ax (.len false) [.CG n 0 ps.length 13]=some (I (ps.length:Int)) from rfl];refine BL (λz:Aa×Nat=>[z.1,I (z.2:Int)]) (λz h1=>z.2<=ps.length/\∃u,h1=h++u/\JG (h++u) h.length z.1 (A.n.take z.2)) (λz=>ps.length-z.2) (.slnil,0) rfl ⟨A8 _,[],Au,[],.nil,Au,λk h1 h2=>by simp at h1⟩ ?_;rintro⟨V,k⟩ h1 ⟨XW,u,rfl,c⟩;simp only at XW c;have w1:PA (h++u) a n m ps A:=w.DH λi hi=>Ai (w.lt i hi);rcases BH k ps.length with hlt|HK
  .obtain⟨hx,ex⟩:=vU (A:=A) (k:=k) Ab;obtain⟨r,t,g,hr⟩:=h_ w1 o hx (hk _);have ea:Ax (.F8 13) [.CG n 0 ps.length 13,I (k:Int)]=some (.ptr (some (n,nP n ((k:Int)+1)))):=by have:=H6 (k:= .i64) (id:=n) (z:=13) hlt;rw[this];unfold nP;congr 4
   obtain⟨An,f,e1,l⟩:=c;rw[Av,Cg Ab] at e1;obtain⟨K,W,d,JT⟩:=hr;have em:Ax (.Cd 13) [.agg r]=some (.sl 13 [r]):=Pl (a:= .agg r) (by rw[d];rfl) Be;have q:=Bu.zq (b:=168) (row:=r) f Ab;simp only[abS,(Ab:(k:Int)<(ps.length:Int)),w1.nodes,ea,g.Ah,em,q,CQ (Ab:k<9223372036854775807)];refine A6.next (_,k+1) rfl ⟨hlt,u++t,by rw[AI],An++[r],.mk,by rw[Ao,Av,e1];simp;omega,λj h1 h2=>?_⟩ GU;rw[<-AI];rw[aE4];by_cases hj:j<An.length;.rw[Jq hj];have:=l j hj (by rw[Av];omega);rw[aE4] at this;exact this.J5
   .have p:j=k:=by simp at h1;omega
    subst p;rw[List.getElem_append_right Ab];simp only[e1,FD,List.getElem_cons_zero];rw[<-ex];exact OJ.low (lo:=(h++u).length) ⟨K,W,d,JT⟩ Au
  .rw[AT Ab] at c;simp only[abS,(Ab:¬(k:Int)<(ps.length:Int))];exact⟨_,rfl,u,rfl,c⟩
 obtain⟨r,h',hr,u,rfl,c⟩:=Oq.ret;exact⟨r,u,hr,c⟩
end
theorem fE:Ev cx 7 [] [] λr _=>r= .bool true:=nM 3000 AQ
end Go.Am
end
