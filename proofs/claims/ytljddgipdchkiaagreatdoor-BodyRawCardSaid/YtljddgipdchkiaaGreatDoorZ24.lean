/- Lemmas -/
import Derived.Test.YtljddgipdchkiaaGreatDoorZ23
set_option linter.all false
set_option maxHeartbeats 0
set_option maxRecDepth 100000
section
namespace Go.Am
open Go
section
variable{h h':Ah}{a n:Nat}{m:Option Nat}{ps:List PN}{A:Ar}{x:Int}{F:Nat->Prop}
def PA.pw(w:PA h a n m ps A):PW h (λi=>i∈Gi a n m ps) a A:=⟨n,m,ps,w,λ_=>aEr⟩
def Nd.add{y:EV}(b:Nd A)(h1:A.len+1<=1000000000)(h2:y.AA.length<=1000000000)(c:y.data.length<=1000000000):Nd (A.add y):=by
 refine⟨?_,λx=>?_,λx=>?_⟩;.unfold Ar.len at h1;simp[Ar.add];omega
 .rw[IC];split;.exact h2
  .exact b.at_ x
 .rw[IC];split;.exact c
  .exact b.data x
def Nd.set{y:EV}(b:Nd A)(h2:y.AA.length<=1000000000)(c:y.data.length<=1000000000):Nd (A.set x y):=by
 refine⟨by rw[Jm];exact b.n,λx=>?_,λx=>?_⟩<;>rw[JI]<;>split;.exact h2
 .exact b.at_ x
 .exact c
 .exact b.data x
def ë{x y:EV}:(A.add x).set (A.len+1) y=A.add y:=by unfold Ar.set;rw[Ae (DL.2 (.inr rfl))];unfold Ar.add Ar.len;have e:((A.n.length:Int)+1).toNat-1=A.n.length:=Ab;simp only[e];rw[BP _ _ (Ag _),C9];rfl
def vK{p:PN}(w:PA h a n m ps A)(hx:A.has x)(hk:HK p.kv=HK (pN ps x).kv):Gi a n m (ps.set (x.toNat-1) p)=Gi a n m ps:=by obtain⟨c,b⟩:=XC w hx p;unfold Gi;rw[b,EM,It,hk];conv=>rhs;rw[c,EM,It]
def PA.wr(w:PA h a n m ps A)(hx:A.has x){k:Nat}(hk:k<13){v:Aa}(hv:v.cells=[v]){p:PN}(hp:p.row=(pN ps x).row.set k v)(h1:p.kv=(pN ps x).kv)(h2:p.x.A8=(A.nd x).A8):
  ∃h',Cw h 1 (Pt n (nP n x+k)) v=some h'/\PA h' a n m (ps.set (x.toNat-1) p) (A.set x p.x)/\Gi a n m (ps.set (x.toNat-1) p)=Gi a n m ps/\(∀i,i≠n->h'[i]?=h[i]?)/\h'.length=h.length:=by
 refine⟨_,w.sto hx hk hv hp rfl,w.a_ hx (λi _ _=>rfl) (by rw[h1,h2];exact w.MO hx) (.inl (by rw[h1])),vK w hx (by rw[h1]),λi hi=>by rw[Ao (DH hi)],Br⟩
def PA.ng(w:PA h a n m ps A){h1:Ah}{Jt:List PN}{A':Ar}(w':PA h1 a n m Jt A')(hi:Gi a n m Jt=Gi a n m ps)(ho:∀i,i≠n->h1[i]?=h[i]?)(hl:h1.length=h.length):DE h (λi=>i∈Gi a n m ps) h1 (λi=>i∈Gi a n m Jt):=
 ⟨Ab,λi _ hn=>ho i (λe=>hn (by rw[e];simp[Gi])),λi Vl=> .inl (by rwa [hi] at Vl)⟩
def Kz(q:Bool)(d:Int):PN:=⟨{kind:=1,CI:=q,CM:=d},.slnil,.slnil,rfl⟩
def aOp(w:PA h a n m ps A)(j:Nd A)(hb:A.len+1<=1000000000)(q:Bool):
  ∃h',BZ cx 58 [Pt a 0,.bool q] h (I (A.len+1)) h'/\PA h' a h.length m (ps++[Kz q (A.len+1)]) (A.add {kind:=1,CI:=q,CM:=A.len+1})/\(∀i,i<h.length->i≠a->i≠n->h'[i]?=h[i]?)/\h'.length=h.length+1:=by
 have dP:=w.len;obtain⟨h1,e,w1,g,l1⟩:=è w Ab (Kz q 0) rfl rfl;have Ň:=j.add (y:=(Kz q 0).x) hb (by simp[Kz]) (by simp[Kz]);have hx:(A.add (Kz q 0).x).has (A.len+1):=DL.2 (.inr rfl);have hlen:(A.len+1).toNat-1=ps.length:=Ab;have b:pN (ps++[Kz q 0]) (A.len+1)=Kz q 0:=by unfold pN;rw[hlen];simp
 obtain⟨h2,d,c,_,f,r⟩:=w1.wr hx (k:=3) A5 (v:= I (A.len+1)) rfl (p:=Kz q (A.len+1)) (by rw[b];rfl) (by rw[b];rfl) (by rw[IC,Ae rfl];rfl);refine⟨h2,?_,?_,λi hi o l=>?_,Ab⟩;.have r2:=I2 w1 Ň hx;rw[Af,nA,t58];have ň:BZ cx 158 [Pt a 0,.agg [I 1,I 0,.slnil,I 0,I 0,.str [],.slnil,.str [],.str [],.str [],.bool q,I 0,I 0]] h (I (A.len+1)) h1:=e;simp only[abS,Nat.reduceLeDiff,↓reduceIte,AR,ň.Ad,r2.Ad,d]
 .rw[ë,hlen] at c;rw[BP _ _ (Ag _),C9] at c;exact c
 .rw[f i Ab];exact g i hi o l
def Mn(k d:Int)(s:Aq):PN:=⟨{kind:=k,CM:=d,data:=s},.slnil,.slnil,rfl⟩
def PA.Sq(w:PA h a n m ps A){p:PN}{h1:Ah}(hk:HK p.kv=none)(b:∀i,i<h.length->i≠a->i≠n->h1[i]?=h[i]?)(l1:h1.length=h.length+1):DE h (λi=>i∈Gi a n m ps) h1 (λi=>i∈Gi a h.length m (ps++[p])):=by
 refine⟨Ab,λi hi hn=>b i hi (λe=>hn (by simp[Gi,e])) (λe=>hn (by simp[Gi,e])),λi hi=>?_⟩;rw[iP hk] at hi;simp only[AS] at hi;rcases hi with rfl|rfl|hi
 .exact .inl (by simp[Gi])
 .exact .inr (Ag _)
 .exact .inl (by unfold Gi;simp only[AS];exact .inr (.inr hi))
def ŉ{k:Int}{s:Aq}(w:PA h a n m ps A)(d:Nd A)(hb:A.len+1<=1000000000)(hd:A.has x/\(A.nd x).kind=1):
  ∃h',BZ cx 235 [Pt a 0,I x,.agg (Mn k 0 s).row] h (.tuple [I (A.len+1),I 0]) h'/\PA h' a h.length m (ps++[Mn k x s]) (A.add (Mn k x s).x)/\(∀i,i<h.length->i≠a->i≠n->h'[i]?=h[i]?)/\h'.length=h.length+1:=by
 have dP:=w.len;obtain⟨h1,b,w1,c,l1⟩:=è w Ab (Mn k x s) rfl rfl;refine⟨h1,?_,w1,c,l1⟩;rw[PN.row] at b;rw[Af,sR,aCu,PN.row];simp only[abS,(my (x:=x) w d).Ad,Ae hd.1,Ae hd.2,Ca,CE,Mn] at b⊢;simp only[BJ,b.Ad]
def aOq{s:Aq}(w:PA h a n m ps A)(d:Nd A)(hb:A.len+1<=1000000000)(hd:A.has x/\(A.nd x).kind=1):
  ∃h',BZ cx 176 [Pt a 0,I x,.str s] h (.tuple [I (A.len+1),I 0]) h'/\PA h' a h.length m (ps++[Mn 5 x s]) (A.add (Mn 5 x s).x)/\(∀i,i<h.length->i≠a->i≠n->h'[i]?=h[i]?)/\h'.length=h.length+1:=by
 obtain⟨h1,b,w1,c,l1⟩:=ŉ (k:=5) (s:=s) w d hb hd;refine⟨h1,?_,w1,c,l1⟩;have ň:BZ cx 235 [Pt a 0,I x,.agg [I 5,I 0,.slnil,I 0,I 0,.str [],.slnil,.str s,.str [],.str [],.bool false,I 0,I 0]] h (.tuple [I (A.len+1),I 0]) h1:=b;rw[Af,rL,aB0];simp only[abS,Nat.reduceLeDiff,↓reduceIte,AR,ň.Ad]
def aI1{s:Aq}(w:PA h a n m ps A)(d:Nd A)(hb:A.len+1<=1000000000)(hd:A.has x/\(A.nd x).kind=1):
  ∃h',BZ cx 177 [Pt a 0,I x,.str s] h (.tuple [I (A.len+1),I 0]) h'/\PA h' a h.length m (ps++[Mn 6 x s]) (A.add (Mn 6 x s).x)/\(∀i,i<h.length->i≠a->i≠n->h'[i]?=h[i]?)/\h'.length=h.length+1:=by
 obtain⟨h1,b,w1,c,l1⟩:=ŉ (k:=6) (s:=s) w d hb hd;refine⟨h1,?_,w1,c,l1⟩;have ň:BZ cx 235 [Pt a 0,I x,.agg [I 6,I 0,.slnil,I 0,I 0,.str [],.slnil,.str s,.str [],.str [],.bool false,I 0,I 0]] h (.tuple [I (A.len+1),I 0]) h1:=b;rw[Af,rM,aB1];simp only[abS,Nat.reduceLeDiff,↓reduceIte,AR,ň.Ad]
def aOr{s:Aq}(w:PA h a n m ps A)(e:Nd A)(hx:A.has x)(hk:(A.nd x).kind=5):
  ∃h' Jt,BZ cx 175 [Pt a 0,I x,.str s] h (I 0) h'/\PA h' a n m Jt (A.Sf x s)/\DE h (λi=>i∈Gi a n m ps) h' (λi=>i∈Gi a n m Jt):=by
 have hp:=(w.pn hx).2.1;obtain⟨h2,c,b,g,d,f⟩:=w.wr hx (k:=7) A5 (v:= .str s) rfl (p:=⟨{A.nd x with data:=s},(pN ps x).kv,(pN ps x).av,by rw[<-hp];exact(pN ps x).ok⟩) (by simp only[PN.row];rw[hp];rfl) rfl rfl;refine⟨h2,_,?_,b,w.ng b g d f⟩;rw[Af,rK,aBZ];simp only[abS,Hy,(To (x:=x) w).Ad,Ae hx,Ca,CE,(I2 w e hx).Ad,w.f0 hx,hk,c]
def Ŋ{y:Int}:BZ cx 345 [.sl 1 [[I y]]] h (.bool (decide (BS.HX y))) h:=by
 have hv:AV 1 [[I y]] (.sl 1 [[I y]]):= .mk;have d:([[I y]]:List (List Aa))[0]=[I y]:=rfl;rw[Af,uG,aC7];simp only[BJ,hv.len];refine Bj (λk:Nat=>[.bool false,I (k:Int)]) (λk h1=>k<=1/\(k=1->BS.HX y)/\h1=h) (λk=>1 -k) 0 rfl ⟨AU _,λe=>Ab,rfl⟩ ?_;rintro k h1 ⟨hk,ha,rfl⟩;rcases AO k 1 with hlt|Ef
 .obtain rfl:k=0:=by omega
  simp only[BJ,gC,(A5:((0:Nat):Int)<((1:Nat):Int)),hv.FC (show 0<[[I y]].length from Cf),d,BQ (Ab:0<9223372036854775807)];refine⟨λh2=>?_,λh2=>⟨λc=>?_,λc=>?_⟩⟩;.rw[AG (λb=>by unfold BS.HX at b;omega)]
  .rw[AG (λb=>by unfold BS.HX at b;omega)]
  .exact AM.next 1 rfl ⟨Ag _,λ_=>⟨Ab,Ab⟩,rfl⟩ Ab
 .obtain rfl:k=1:=by omega
  simp only[abS,(A5:¬((1:Nat):Int)<((1:Nat):Int)),AI (ha rfl)]
def XD{l out:List A6}{y:A6}:Hv out (l++[y])=if(Hv out l).any (λz=>decide (Dw y=Dw z)) then Hv out l else Hv out l++[y]:=by
 induction l generalizing out with
 |nil=>simp only[BV,Hv];split<;>simp_all
 |cons z l ih=>
  rw[CK,Hv,Hv];split;.exact ih
  .exact ih
def aI2(y c:A6)(h:Ah):BZ cx 409 [.agg c.row,.Cq y.row] h (.bool (decide (Dw y=Dw c))) h:=by
 rw[Af,uW,aDn,A6.row,A6.row];simp only[BJ];refine⟨λh1=>?_,λh1=>?_⟩;.congr 2;rw[Dv];simp[Dw,h1]
 .rw[AG (λe=>h1 (by simp[Dw] at e;exact e.1))]
def ŋ{F v:Aa}{l:List A6}{q:A6->Bool}(hv:MT h v l)(hb:l.length<=1000000000)(hF:iN F h q):BZ cx 191 [v,F] h (.bool (l.any q)) h:=by
 obtain⟨f,caps,rfl,hf,hr⟩:=hF;have key:BZ cx 309 [v,.func (.func f) [] caps] h (I (Co q 0 l)) h:=by
  rw[Af,Vw,l_];simp only[BJ,hv.len];refine Bj (λn:Nat=>[I 0,I (n:Int)]) (λn h1=>n<=l.length/\Co q 0 l=Co q n (l.drop n)/\h1=h) (λn=>l.length-n) 0 rfl ⟨AU _,rfl,rfl⟩ ?_;rintro n h1 ⟨mn,ha,rfl⟩;rcases AO n l.length with hlt|Ef
  .have i1:(n:Int)<(l.length:Int):=by omega
   obtain⟨p,d,c⟩:=hv.at_ n hlt;rw[AF hlt,Co] at ha;simp only[BJ,↓reduceIte,DC,gC,hf,i1,d,c,(hr l[n]).Ad,BQ (Ab:n<9223372036854775807)];rw[CQ];refine⟨λhe=>?_,λhe=>?_⟩;.rw[ha,Ae he]
   .rw[Ac (by simp[he])] at ha;exact AM.next (n+1) rfl ⟨hlt,ha,rfl⟩ Ab
  .have i1:¬(n:Int)<(l.length:Int):=by omega
   rw[AW Ef,Co] at ha;simp only[abS,↓reduceIte,DC,i1,ha]
 rw[Af,cA,xy];simp only[BJ,key.Ad];congr 2
 rcases HH (p:=q) (l:=l) (k:=0) with⟨h1,h2⟩|⟨n,y,h1,h2,b⟩
 .rw[h1,bu];have:=Jh.1 h2;simpa using this
 .rw[h1,bu,AI Ab,SL];exact⟨y,Qm b,Ut b⟩
def Ō{l:List A6}{v:Aa}(hv:MT h v l)(hb:l.length<=1000000000)(hs:∀y∈l,BS.HX y.A9):BZ cx 339 [v] h (.tuple [UW (Cx l),.bool true]) h:=by
 rw[Af,uA,aC1];simp only[BJ,hv.len];refine Bj (λk:Nat=>[.slnil,.bool false,UW (Cx (l.take k)),I (k:Int)]) (λk h1=>k<=l.length/\h1=h) (λk=>l.length-k) 0 rfl ⟨AU _,rfl⟩ ?_;rintro k h1 ⟨hk,rfl⟩;rcases AO k l.length with hlt|Ef
 .have i1:(k:Int)<(l.length:Int):=by omega
  obtain⟨p,j,e⟩:=hv.at_ k hlt;have inc:=BQ (Ab:k<9223372036854775807);have hsp:=hs _ (AN hlt);have i:=Ŋ (h:=h1) (y:=l[k].A9);have hF:iN (.func (.func 409) [] [.Cq l[k].row]) h1 (λc=>decide (Dw l[k]=Dw c)):=⟨_,_,rfl,A5,λc=>aI2 l[k] c h1⟩;have bd:(Cx (l.take k)).length<=1000000000:=by have:=P3 (l:=l.take k);rw[As] at this;omega
  have r2:=ŋ (XB VA) bd hF;have g:Cx (l.take (k+1))=if(Cx (l.take k)).any (λz=>decide (Dw l[k]=Dw z)) then Cx (l.take k) else Cx (l.take k)++[l[k]]:=by rw[Ay hlt];exact XD
  have d:=AV.Ke (f:=A6.row) (a:=l[k]) (b:=40) (VA (l:=Cx (l.take k))) (by have:=P3 (l:=l.take k);rw[As] at this;have:AX=140737488355328:=rfl;omega);have em:AB (.BI 3) [.agg l[k].row]=some (.sl 3 [l[k].row]):=rfl;rw[<-zL] at d;rw[A6.row] at r2 em d e;simp only[abS,Nat.reduceLeDiff,↓reduceIte,i1,j,e,Hy,i.Ad,AI hsp,r2.Ad,em,d,inc];rw[CQ];refine⟨λh2=>?_,λh2=>?_⟩;.exact AM.next (k+1) (by rw[g,Ac (by simpa using h2)]) ⟨hlt,rfl⟩ Ab
  .exact AM.next (k+1) (by rw[g,Ae (by simpa using h2)]) ⟨hlt,rfl⟩ Ab
 .have i1:¬(k:Int)<(l.length:Int):=by omega
  simp only[abS,↓reduceIte,i1,AD Ef]
def aI3{l:List A6}{v:Aa}(w:PA h a n m ps A)(f:Nd A)(hx:A.has x)(hk:(A.nd x).kind=4)(hv:MT h v l)(hb:l.length<=1000000000)(hs:∀y∈l,BS.HX y.A9):
  ∃h' Jt,BZ cx 193 [Pt a 0,I x,v] h (I 0) h'/\PA h' a n m Jt (A.Jo x l)/\DE h (λi=>i∈Gi a n m ps) h' (λi=>i∈Gi a n m Jt):=by
 have hp:=(w.pn hx).2.1;have d:=Ō hv hb hs;obtain⟨h2,c,b,j,e,g⟩:=w.wr hx (k:=6) A5 (v:=UW (Cx l)) (AV.cells VA) (p:=⟨{A.nd x with AA:=Cx l},(pN ps x).kv,UW (Cx l),rfl⟩) (by simp only[PN.row];rw[hp];rfl) rfl rfl;refine⟨h2,_,?_,b,w.ng b j e g⟩;rw[Af,rY,aCd];simp only[abS,Hy,(To (x:=x) w).Ad,Ae hx,Ca,CE,(I2 w f hx).Ad,w.f0 hx,hk,d.Ad,c]
def aI4(w:PA h a n m ps A)(hx:A.has x):BZ cx 346 [Pt n (nP n x)] h (.bool (decide (bE (A.nd x)))) h:=by rw[Af,uH,aC8];simp only[abS,w.f0 hx,w.f4 hx,w.f5 hx,bE];refine⟨λh1=>⟨λh2=>?_,λh2=>?_⟩,λh1=>?_⟩<;>simp[*]
def Qh(x:Int×Int):Aa×Aa:=(I x.1,I x.2)
def cR{k:Int}:∀{l:List (Int×Int)} {i:Nat},(l.find? (λx=>decide (k=x.1))=none->Ls k (l.map Qh) i=some none)/\∀y,l.find? (λx=>decide (k=x.1))=some y->∃j,Ls k (l.map Qh) i=some (some (j,I y.2))
 |[],i=>⟨λ_=>rfl,λy h=>by cases h⟩
 |z::l,i=>by
  have ih:=cR (k:=k) (l:=l) (i:=i+1);simp only[Bs,Qh,Ls,GH];by_cases e:k=z.1;.simp only[e,DV,BT];exact⟨λh=>(by cases h),λy h=>⟨i,by cases h;rfl⟩⟩
  .simp only[e,Ec,Eb];exact ih
def XA.get{f:Int->Int}(w:XA h m f)(k:Int):E5 (.bz (I 0) true) h [.map m,I k]=some (h,if f k=0 then .tuple [I 0,.bool false] else .tuple [I (f k),.bool true]):=by
 rcases w with⟨rfl,h0⟩|⟨id,l,rfl,hc,hl,_⟩
 .rw[Ae (h0 k)];rfl
 .have hl:=hl k;have hm:=cR (k:=k) (l:=l) (i:=0);simp only[E5,pA,hc];by_cases h0:f k=0
  .rw[Ae h0] at hl⊢;have e:l.find? (λx=>decide (k=x.1))=none:=by
    cases hf:l.find? (λx=>decide (k=x.1)) with
    |none=>rfl
    |some y=>rw[hf] at hl;cases hl
   have:=hm.1 e;unfold Qh at this;rw[this];rfl
  .rw[Ac h0] at hl⊢;cases hf:l.find? (λx=>decide (k=x.1)) with
   |none=>rw[hf] at hl;cases hl
   |some y=>rw[hf] at hl;simp only[Cc,BE] at hl;obtain⟨j,e⟩:=hm.2 y hf;unfold Qh at e;rw[e,<-hl];rfl
def vL{id:Nat}{l:List (Int×Int)}{k v:Int}(hc:h[id]?=some (.map (l.map Qh)))(hn:l.find? (λx=>decide (k=x.1))=none):
  ∃h1,E5 (.NU (I 0)) h [.map (some id),I k]=some (h1,.tuple [I 0,I l.length])/\∃h2,E5 .Lp h1 [.map (some id),I l.length,I v]=some (h2,.bool true)/\h2=h.set id (.map ((l++[(k,v)]).map Qh)):=by
 have Ik:=(Ak.1 hc).1;have hm:=(cR (k:=k) (l:=l) (i:=0)).1 hn;refine⟨h.set id (.map (l.map Qh++[(I k,I 0)])),?_,_,?_,rfl⟩;.simp only[E5,Vd,hc,hm,Cc,Al]
 .have c:(h.set id (.map (l.map Qh++[(I k,I 0)])))[id]?=some (.map (l.map Qh++[(I k,I 0)])):=AQ Ik;have b:(l.map Qh++[(I k,I 0)])[l.length]?=some (I k,I 0):=by rw[Bm AK];simp
  simp only[E5,Ve,c,AT,b];rw[Ae Ab,aEt,BP _ _ AK];simp[Qh]
def PA.aI5(w:PA h a n m ps A):∀i∈m.toList++ps.filterMap (λp=>HK p.kv),i<h.length/\i≠a/\i≠n:=by
 intro i hi;have h1:i∈Gi a n m ps:=by unfold Gi;simp only[AS];exact .inr (.inr hi)
 have b:=w.nd;unfold Gi at b;simp only[B8,AS,M9] at b;exact⟨w.lt i h1,λe=>b.1.2 (e▸hi),λe=>b.2.1 (e▸hi)⟩
def PA.aI6(w:PA h a n m ps A){h1:Ah}{m':Option Nat}{A':Ar}(g:A'.n=A.n)(f:A'.i.length=A'.n.length)(ha:h1[a]?=some (.cells [.CD n 0 ps.length 13,.map m']))(ho:∀i,i<h.length->i≠a->m≠some i->h1[i]?=h[i]?)(hm:m'=m\/∃j,m'=some j/\h.length<=j)(b:XA h1 m' A'.inr):PA h1 a n m' ps A':=by
 have nd:=w.nd;have cQ:=nd;unfold Gi at cQ;simp only[B8,AS,M9] at cQ;have hnm:m≠some n:=λe=>cQ.2.1 (by simp[e]);refine⟨by rw[g];exact w.e,f,ha,?_,?_,?_,b⟩;.rw[ho n (w.lt n (by simp[Gi])) (DH cQ.1.1) hnm];exact w.hn
 .intro p hp;refine(w.ks p hp).Dj λid Ik=>?_;have h1:id∈ps.filterMap (λp=>HK p.kv):=Ck.2 ⟨p,hp,Ik⟩;have h2:=w.aI5 id (Av.2 (.inr h1));exact ho id h2.1 h2.2.1 λe=>(B5.1 cQ.2.2).2.2 id (by simp[e]) id h1 rfl
 .rcases hm with rfl|⟨j,rfl,hj⟩
  .exact nd
  .have d:∀i∈ps.filterMap (λp=>HK p.kv),i<h.length:=λi hi=>(w.aI5 i (Av.2 (.inr hi))).1;have l:=w.lt a (by simp[Gi]);have k:=w.lt n (by simp[Gi]);have c:=(B5.1 cQ.2.2).2.1;unfold Gi;simp only[B8,AS,aQd,CK,BV,M9];exact⟨⟨cQ.1.1,Ab,λhm=>cQ.1.2 (Av.2 (.inr hm))⟩,⟨Ab,λhm=>cQ.2.1 (Av.2 (.inr hm))⟩,λhm=>by have:=d j hm;omega,c⟩
def XE{l:List (Int×Int)}{k v:Int}(hk:vJ l)(hn:l.find? (λx=>decide (k=x.1))=none)(h1:xY k=true)(h2:xY v=true):vJ (l++[(k,v)]):=by
 refine⟨?_,λp hp=>?_⟩;.rw[BL,B5];refine⟨hk.1,AK,λa ha b hb e=>?_⟩;obtain⟨x,hx,rfl⟩:=Bl.1 ha;have c:=Jh.1 hn x hx;simp only[Bs,Df,DA] at hb;exact c (by simpa using(e.trans hb).symm)
 .rcases Av.1 hp with h|h
  .exact hk.2 p h
  .simp only[DA] at h;subst h;exact⟨h1,h2⟩
def vM(hb:A.len<=1000000000)(hx:A.has x):xY x=true:=by have:=hx.1;have:=hx.2;unfold Ar.len at hb;unfold xY;simp;omega
def aI7{i:Nat}(hm:m=some i):i∈Gi a n m ps:=by unfold Gi;simp[hm]
def PA.aI8(w:PA h a n m ps A){l:List (Int×Int)}{id:Nat}(s:m=some id)(hc:h[id]?=some (.map (l.map Qh)))(hl:∀k,(l.find? λx=>decide (k=x.1)).map (·.2)=if A.inr k=0 then none else some (A.inr k))(ok:vJ l)(hb:A.len<=1000000000){d i:Int}(hd:A.has d)(hi:A.has i)(c:d≠i)(h0:A.inr d=0)(ı:A.inr i=0):
  ∃h1 h2 q,E5 (.NU (I 0)) h [.map m,I d]=some (h1,.tuple [I 0,I l.length])/\E5 .Lp h1 [.map m,I l.length,I i]=some (h2,.bool true)/\
   E5 (.NU (I 0)) h2 [.map m,I i]=some (q,.tuple [I 0,I ((l.length+1:Nat):Int)])/\∃o,E5 .Lp q [.map m,I ((l.length+1:Nat):Int),I i]=some (o,.bool true)/\PA o a n m ps ((A.IZ d i).IZ i i)/\(∀j,j≠id->o[j]?=h[j]?)/\o.length=h.length:=by
 subst s;have Ik:=(Ak.1 hc).1;have b:∀k,A.inr k=0->l.find? (λx=>decide (k=x.1))=none:=by
  intro k hk;have:=hl k;rw[Ae hk] at this;cases hf:l.find? (λx=>decide (k=x.1)) with
  |none=>rfl
  |some y=>rw[hf] at this;cases this
 obtain⟨h1,D,h2,C,rfl⟩:=vL (v:=i) hc (b d h0);have IS:(h.set id (.map ((l++[(d,i)]).map Qh)))[id]?=some (.map ((l++[(d,i)]).map Qh)):=AQ Ik;obtain⟨q,z,o,u,rfl⟩:=vL (k:=i) (v:=i) IS (by rw[QK,b i ı];simp[DH c]);simp only[Au,Bp] at z u;refine⟨h1,_,q,D,C,z,_,u,?_,?_,AK⟩
 .have g:id≠a:=λe=>by have:=w.nd;unfold Gi at this;simp[e] at this
  refine w.aI6 (m':=some id) (A':=(A.IZ d i).IZ i i) rfl ?_ ?_ ?_ (.inl rfl) ?_;.simp only[Ar.IZ];split<;>split<;>simp[w.il]
  .rw[Ao g,Ao g];exact w.ha
  .intro j hj B t;have:id≠j:=λe=>t (by rw[e]);rw[Ao this,Ao this]
  .refine .inr ⟨id,l++[(d,i)]++[(i,i)],rfl,?_,λk=>?_,XE (XE ok (b d h0) (vM hb hd) (vM hb hi)) (by rw[QK,b i ı];simp[DH c]) (vM hb hi) (vM hb hi)⟩;.rw[AQ (by simpa using Ik)];rfl
   .have r:(A.IZ d i).i.length=(A.IZ d i).n.length:=by simp only[Ar.IZ];split<;>simp[w.il]
    rw[Ps r,Ps w.il,QK,QK];have fj:(A.IZ d i).has i:=hi;have hk:=hl k;have nO:i≠0:=by have:=hi.1;omega
    cases hf:l.find? (λx=>decide (k=x.1)) with
    |some y=>
     rw[hf] at hk;have iM:A.inr k≠0:=by intro e;rw[Ae e] at hk;cases hk
     have p:k≠i:=λe=>iM (e▸ı);have f:k≠d:=λe=>iM (e▸h0);simp only[p,f,Ya,Eb,Option.some_or];exact hk
    |none=>
     rw[hf] at hk;have iM:A.inr k=0:=by
      by_cases e:A.inr k=0;.exact e
      .rw[Ac e] at hk;cases hk
     by_cases f:k=d;.subst f;simp[c,hd,nO]
     .by_cases p:k=i;.subst p;simp[f,fj,nO]
      .simp[p,f,iM]
 .intro j hj;rw[Ao (DH hj),Ao (DH hj)]
def aI9(w:PA h a n m ps A)(D:Nd A)(hb:A.len+1<=1000000000)(hx:A.has x):
  ∃h' n' m' Jt,BZ cx 347 [Pt a 0,I x] h (I (A.Fy x)) h'/\PA h' a n' m' Jt (A.Dh x)/\DE h (λi=>i∈Gi a n m ps) h' (λi=>i∈Gi a n' m' Jt):=by
 have l1:Bg h none (Pt a 1)=some (.map m):=by simp only[Bg,w.ha];rfl
 have g1:=w.mp.get x;by_cases h0:A.inr x=0
 .obtain⟨h1,y,w1,C,d⟩:=aOp w D hb false;have f:=w.Sq (p:=Kz false (A.len+1)) rfl C d;have r:A.Fy x=A.len+1:=by unfold Ar.Fy;rw[Ac (by simp[h0])]
  have s:A.Dh x=((A.add {kind:=1,CM:=A.len+1}).IZ x (A.len+1)).IZ (A.len+1) (A.len+1):=by unfold Ar.Dh;rw[Ac (by simp[h0])]
  have ì:∀k,(A.add {kind:=1,CI:=false,CM:=A.len+1}).inr k=A.inr k:=λk=>Vs w.il;have OR:(A.add {kind:=1,CI:=false,CM:=A.len+1}).has x:=DL.2 (.inl hx);have UM:(A.add {kind:=1,CI:=false,CM:=A.len+1}).has (A.len+1):=DL.2 (.inr rfl);have hne:=Xk hx;have ı:A.inr (A.len+1)=0:=by unfold Ar.inr;rw[Ac Q9]
  have z:Bg h1 none (Pt a 1)=some (.map m):=by simp only[Bg,w1.ha];rfl
  rw[Ae h0] at g1;have SP:(A.add {kind:=1,CI:=false,CM:=A.len+1}).len<=1000000000:=by rw[Oh];exact hb
  rcases w1.mp with⟨rfl,hz⟩|⟨id,l,rfl,hc,hl,ho⟩
  .have Yn:=w1.ha;have Vi:a<h1.length:=w1.lt a (by simp[Gi]);have OP:(h1++[Dx.map []])[a]?=some (.cells [.CD h.length 0 (ps++[Kz false (A.len+1)]).length 13,.map none]):=by rw[Aj Vi];exact Yn
   have es:Cw (h1++[Dx.map []]) 1 (Pt a 1) (.map (some h1.length))=some ((h1++[Dx.map []]).set a (.cells [.CD h.length 0 (ps++[Kz false (A.len+1)]).length 13,.map (some h1.length)])):=by simp only[Cw,OP];rfl
   have lN:((h1++[Dx.map []]).set a (.cells [.CD h.length 0 (ps++[Kz false (A.len+1)]).length 13,.map (some h1.length)]))[a]?=some (.cells [.CD h.length 0 (ps++[Kz false (A.len+1)]).length 13,.map (some h1.length)]):=AQ Eg;have K:Bg ((h1++[Dx.map []]).set a (.cells [.CD h.length 0 (ps++[Kz false (A.len+1)]).length 13,.map (some h1.length)])) none (Pt a 1)=some (.map (some h1.length)):=by simp only[Bg,lN];rfl
   have sq:((h1++[Dx.map []]).set a (.cells [.CD h.length 0 (ps++[Kz false (A.len+1)]).length 13,.map (some h1.length)]))[h1.length]?=some (.map (([]:List (Int×Int)).map Qh)):=by rw[Ao Ab,Bm (Ag _),C9];rfl
   have B:PA ((h1++[Dx.map []]).set a (.cells [.CD h.length 0 (ps++[Kz false (A.len+1)]).length 13,.map (some h1.length)])) a h.length (some h1.length) (ps++[Kz false (A.len+1)]) (A.add {kind:=1,CI:=false,CM:=A.len+1}):=by refine w1.aI6 rfl w1.il lN (λi hi c _=>by rw[Ao (DH c),Aj hi]) (.inr ⟨_,rfl,Ag _⟩) (.inr ⟨h1.length,[],rfl,sq,λk=>by rw[Ae (hz k)];rfl,My,λp hp=>nomatch hp⟩)
   obtain⟨H,G,E,q,o,j,v,g,t,u,b⟩:=B.aI8 rfl sq (λk=>by rw[Ae (hz k)];rfl) ⟨My,λp hp=>nomatch hp⟩ SP OR UM hne ((ì x).trans h0) ((ì _).trans ı);refine⟨v,_,_,_,?_,s▸t,⟨by rw[b];simp;omega,λi hi UI=>?_,λi hi=>?_⟩⟩;.simp only[B1] at q o j g;rw[Af,Vx,ma,r];simp only[BJ,l1,g1,y.Ad,z,show AB (.GC false .mp) [.map none,.map none]=some (.bool true) from rfl,es,K,q,o,j,g]
   .have J:=f.old i hi UI;have c:i≠a:=λe=>UI (by simp[Gi,e]);rw[u i Ab,Ao (DH c),Aj Ab,J]
   .unfold Gi at hi;simp only[AS,aQd,CK,BV] at hi;rcases hi with rfl|rfl|rfl|hi
    .exact .inl (by simp[Gi])
    .exact .inr (Ag _)
    .exact .inr Ab
    .exact f.Bw i (by unfold Gi;simp only[AS,Option.toList_none,BV];exact .inr (.inr hi))
  .obtain⟨H,G,E,q,o,j,v,g,t,u,b⟩:=w1.aI8 rfl hc hl ho SP OR UM hne ((ì x).trans h0) ((ì _).trans ı);refine⟨v,_,_,_,?_,s▸t,⟨Ab,λi hi UI=>?_,f.Bw⟩⟩;.rw[Af,Vx,ma,r];simp only[BJ,l1,g1,y.Ad,z,show AB (.GC false .mp) [.map (some id),.map none]=some (.bool false) from rfl,q,o,j,g]
   .rw[u i (λe=>UI (e▸aI7 rfl))];exact f.old i hi UI
 .have r:A.Fy x=A.inr x:=by unfold Ar.Fy;rw[Ae h0]
  have s:A.Dh x=A:=by unfold Ar.Dh;rw[Ae h0]
  refine⟨h,n,m,ps,?_,by rw[s];exact w,.refl⟩;rw[Ac h0] at g1;rw[Af,Vx,ma,r];simp only[BJ,l1,g1]
def Nd.XF(b:Nd A)(h1:A.len+1<=1000000000):Nd (A.Dh x):=by
 unfold Ar.Dh;split;.exact b
 .have:=b.add (y:={kind:=1,CM:=A.len+1}) h1 AK AK;exact⟨this.n,this.at_,this.data⟩
def zM(hk:A.has x){d:Int}:(A.Dh d).nd x=A.nd x:=Xi (.inl (Xk hk))
def aJa{l:List A6}{v:Aa}{d sp:Int}{nm:Aq}(w:PA h a n m ps A)(t:Nd A)(hb:A.len+3<=1000000000)(hd:A.has d/\(A.nd d).kind=1)(hsp:BS.HX sp)(hv:Bz l v)(hl:l.length<=1000000000)(hs:∀y∈l,BS.HX y.A9):
  ∃h' n' m' Jt,BZ cx 205 [Pt a 0,I d,I sp,.str nm,v] h (.tuple [I (A.len+1),I 0]) h'/\PA h' a n' m' Jt (A.elem d sp nm l)/\DE h (λi=>i∈Gi a n m ps) h' (λi=>i∈Gi a n' m' Jt)/\Nd (A.elem d sp nm l):=by
 have dP:=w.len;have r:=Ō (h:=h) (XB hv) hl hs;obtain⟨u,hu⟩:∃u,u=UW (Cx l):=⟨_,rfl⟩;rw[<-hu] at r;have dQ:(Cx l).length<=1000000000:=by have:=P3 (l:=l);omega
 have b:=Ŋ (h:=h) (y:=sp);rw[AI hsp] at b;obtain⟨h1,L,w1,O,l1⟩:=è w Ab ⟨{kind:=4,CM:=d,A9:=sp,name:=nm,AA:=Cx l},.slnil,u,hu⟩ rfl rfl;have Ň:=t.add (y:={kind:=4,CM:=d,A9:=sp,name:=nm,AA:=Cx l}) Ab dQ AK;have OR:(A.add {kind:=4,CM:=d,A9:=sp,name:=nm,AA:=Cx l}).has (A.len+1):=DL.2 (.inr rfl);have M2:(A.add {kind:=4,CM:=d,A9:=sp,name:=nm,AA:=Cx l}).nd (A.len+1)={kind:=4,CM:=d,A9:=sp,name:=nm,AA:=Cx l}:=by rw[IC,Ae rfl]
 have C:=w.Sq (p:=⟨{kind:=4,CM:=d,A9:=sp,name:=nm,AA:=Cx l},.slnil,u,hu⟩) rfl O l1;have ň:BZ cx 158 [Pt a 0,.agg [I 4,I 0,.slnil,I d,I sp,.str nm,u,.str [],.str [],.str [],.bool false,I 0,I 0]] h (I (A.len+1)) h1:=L;have r2:=I2 w1 Ň OR;have e:=aI4 w1 OR;rw[M2] at e;have hc:u.cells=[u]:=by rw[hu];exact AV.cells VA
 unfold Ar.elem;simp only
 by_cases j:bE {kind:=4,CM:=d,A9:=sp,name:=nm,AA:=Cx l}
 .rw[Ae j];rw[AI j] at e;have bH:(A.add {kind:=4,CM:=d,A9:=sp,name:=nm,AA:=Cx l}).has d:=DL.2 (.inl hd.1);obtain⟨h2,S,T,nQ,K,o,E⟩:=aI9 w1 Ň (by rw[Oh];omega) bH;have s:=Ň.XF (x:=d) (by rw[Oh];omega);have Y8:((nQ.length:Nat):Int)=((A.add {kind:=4,CM:=d,A9:=sp,name:=nm,AA:=Cx l}).Dh d).len:=o.len;have vN:((A.add {kind:=4,CM:=d,A9:=sp,name:=nm,AA:=Cx l}).Dh d).len<=A.len+2:=by rw[yV,Oh];split<;>omega
  obtain⟨R,J,c,N,l3⟩:=è o Ab ⟨{kind:=2,Em:=A.len+1,CM:=(A.add {kind:=4,CM:=d,A9:=sp,name:=nm,AA:=Cx l}).Fy d},.slnil,.slnil,rfl⟩ rfl rfl;obtain⟨f,z⟩:∃f,f=nQ++[⟨{kind:=2,Em:=A.len+1,CM:=(A.add {kind:=4,CM:=d,A9:=sp,name:=nm,AA:=Cx l}).Fy d},.slnil,.slnil,rfl⟩]:=⟨_,rfl⟩;have B:=o.Sq (p:=⟨{kind:=2,Em:=A.len+1,CM:=(A.add {kind:=4,CM:=d,A9:=sp,name:=nm,AA:=Cx l}).Fy d},.slnil,.slnil,rfl⟩) rfl N l3;rw[<-z] at c B;have g:=s.add (y:={kind:=2,Em:=A.len+1,CM:=(A.add {kind:=4,CM:=d,A9:=sp,name:=nm,AA:=Cx l}).Fy d}) Ab AK AK;have q:BZ cx 158 [Pt a 0,.agg [I 2,I 0,.slnil,I ((A.add {kind:=4,CM:=d,A9:=sp,name:=nm,AA:=Cx l}).Fy d),I 0,.str [],.slnil,.str [],.str [],.str [],.bool false,I 0,I (A.len+1)]] h2 _ R:=J;have aL:=ND (h:=d) OR;have í:=DL (x:={kind:=2,Em:=A.len+1,CM:=(A.add {kind:=4,CM:=d,A9:=sp,name:=nm,AA:=Cx l}).Fy d}).2 (.inl aL);have ō:(((A.add {kind:=4,CM:=d,A9:=sp,name:=nm,AA:=Cx l}).Dh d).add {kind:=2,Em:=A.len+1,CM:=(A.add {kind:=4,CM:=d,A9:=sp,name:=nm,AA:=Cx l}).Fy d}).nd (A.len+1)={kind:=4,CM:=d,A9:=sp,name:=nm,AA:=Cx l}:=by rw[Mk aL,zM OR,M2]
  have H:=I2 c g í;have hp:=(c.pn í).2.1;rw[ō] at hp;obtain⟨Q,G,D,P,M,l4⟩:=c.wr í (k:=11) A5 (v:= I (((A.add {kind:=4,CM:=d,A9:=sp,name:=nm,AA:=Cx l}).Dh d).len+1)) rfl (p:=⟨{kind:=4,CM:=d,A9:=sp,name:=nm,AA:=Cx l,cont:=((A.add {kind:=4,CM:=d,A9:=sp,name:=nm,AA:=Cx l}).Dh d).len+1},(pN f (A.len+1)).kv,(pN f (A.len+1)).av,by have:=(pN f (A.len+1)).ok;rw[hp] at this;exact this⟩) (by simp only[PN.row];rw[hp];rfl) rfl (by rw[ō]);refine⟨Q,_,_,_,?_,D,C.trans (E.trans (B.trans (c.ng D P M l4))),g.set dQ AK⟩;rw[Af,cB,xz];simp only[abS,Nat.reduceLeDiff,↓reduceIte,AR,(my (x:=d) w t).Ad,Ae hd.1,Ae hd.2,Ca,CE,r.Ad,Hy,b.Ad,hc,ň.Ad,r2.Ad,e.Ad,K.Ad,q.Ad,H.Ad,G]
 .rw[Ac j];rw[AG j] at e;refine⟨h1,_,_,_,?_,w1,C,Ň⟩;rw[Af,cB,xz];simp only[abS,Nat.reduceLeDiff,↓reduceIte,AR,(my (x:=d) w t).Ad,Ae hd.1,Ae hd.2,Ca,CE,r.Ad,Hy,b.Ad,hc,ň.Ad,r2.Ad,e.Ad]
def Zw{U:Type}{p q:U->Bool}{y:U}:∀{l:List U},(∀x∈l,p x=true->q x=true)->y∈l->p y=false->q y=true->(l.filter p).length<(l.filter q).length
 |[],_,h,_,_=>by cases h
 |x::l,hi,hy,hp,hq=>by
  have le:∀{l:List U},(∀x∈l,p x=true->q x=true)->(l.filter p).length<=(l.filter q).length:=by
   intro l;induction l with
   |nil=>intro _;simp
   |cons z l ih=>
    intro hi;have:=ih λx hx=>hi x (by simp[hx]);rw[Hm,Hm];split;.rename_i hz;rw[Ae (hi z AK hz)];simp;exact this
    .split;.simp;omega
     .exact this
  have hl:=λx (hx:x∈l)=>hi x (by simp[hx]);rw[Hm,Hm];rcases AS.1 hy with rfl|hy
  .rw[Ac (by simp[hp]),Ae hq];have:=le hl;simp;omega
  .have ih:=Zw hl hy hp hq;split;.rename_i hz;rw[Ae (hi x AK hz)];simp;exact ih
   .split;.simp;omega
    .exact ih
def nS{r:Int->Nat}{k y:Int}(hr:∀h,A.has h->A.up h≠0->r (A.up h)<r h)(hR:Reach A k y)(hy:A.has y):r k<=r y:=by
 induction hR with
 |refl=>exact Ag _
 |@step z h1 h2 ih=>
  by_cases hz:A.has (A.up z);.have:=ih hz;have:=hr z hy h1;omega
  .cases h2 with
   |refl=>have:=hr z hy h1;omega
   |step b _=>exact absurd (Xg hz) b
open Classical in
def nT{e:Int}(ok:EK A e):∃r:Int->Nat,(∀h,A.has h->A.up h≠0->r (A.up h)<r h)/\∀h,r h<=A.n.length:=by
 obtain⟨r,hr⟩:=ok.bG;refine⟨λh=>((List.range A.n.length).filter λ(i:Nat)=>decide (Reach A ((i:Int)+1) h/\(i:Int)+1≠h)).length,λh b hu=>?_,λh=>?_⟩
 .have Ł:=mP ok b hu;have Jj:=Ł;unfold Ar.has at Jj;have c:(((A.up h).toNat-1:Nat):Int)+1=A.up h:=Ab;refine Zw (y:=(A.up h).toNat-1) (λi _ hi=>?_) (List.mem_range.2 Ab) ?_ ?_;.rw[CX] at hi⊢;refine⟨.step hu hi.1,λe=>?_⟩;have h1:=nS hr hi.1 Ł;have h2:=hr h b hu;rw[e] at h1;omega
  .rw[c];simp
  .rw[c,CX];exact⟨.step hu .refl,ĺ ok b hu⟩
 .have:=Vb (λ(i:Nat)=>decide (Reach A ((i:Int)+1) h/\(i:Int)+1≠h)) (List.range A.n.length);rwa [List.length_range] at this
def PA.cell(w:PA h a n m ps A)(hx:A.has x){k:Nat}(hk:k<13):(ps.map PN.row).flatten[0+(x.toNat-1)*13+k]?=(pN ps x).row[k]?:=by rw[B0];exact Li (iO ps) hk (by rw[Cn,(w.pn hx).1];rfl)
open Classical in
def XG(w:PA h a n m ps A){up:Int}{r:Int->Nat}{e:Int}(ok:EK A e)(hr:∀h,A.has h->A.up h≠0->r (A.up h)<r h)(Ł:up≠0):∀(fuel:Nat) (x:Int),(x=0\/(A.has x/\r x<fuel))->LG (ps.map PN.row).flatten 0 ps.length up fuel x=some (decide (Reach A up x))
 |fuel,x,hx=>by
  by_cases h0:x=0
  .subst h0;have no:¬Reach A up 0:=by
    intro hR;cases hR with
    |refl=>exact Ł rfl
    |step h1 _=>exact h1 (Xg (by unfold Ar.has;omega))
   rw[AG no];cases fuel<;>rfl
  .have hx:=hx.resolve_left h0;cases fuel with
   |zero=>omega
   |succ fuel=>
    have d:LG (ps.map PN.row).flatten 0 ps.length up (fuel+1) x=if x=up then some true else if 1<=x/\x<=ps.length then
      match GP (ps.map PN.row).flatten 0 x 1,GP (ps.map PN.row).flatten 0 x 12 with
      |some p,some q=>LG (ps.map PN.row).flatten 0 ps.length up fuel (if p=0 then q else p)
      |_,_=>none
     else none:=by
     rw[LG];.rfl
     .exact λh=>h0 h
    rw[d];by_cases ĵ:x=up;.rw[Ae ĵ,ĵ,AI .refl]
    .rw[Ac ĵ,Ae (by have:=hx.1;have:=w.mr;unfold Ar.has at*;omega)];have g:GP (ps.map PN.row).flatten 0 x 1=some (A.nd x).FM:=by unfold GP;rw[w.cell hx.1 A5,<-(w.pn hx.1).2.1];rfl
     have f:GP (ps.map PN.row).flatten 0 x 12=some (A.nd x).Em:=by unfold GP;rw[w.cell hx.1 A5,<-(w.pn hx.1).2.1];rfl
     rw[g,f];simp only
     have c:(if(A.nd x).FM=0 then(A.nd x).Em else(A.nd x).FM)=A.up x:=by unfold Ar.up;by_cases h:(A.nd x).FM=0<;>simp[h]
     rw[c];have ih:=XG w ok hr Ł fuel (A.up x) (by
      by_cases hu:A.up x=0;.exact .inl hu
      .exact .inr ⟨mP ok hx.1 hu,by have:=hr x hx.1 hu;omega⟩)
     rw[ih];congr 1
     rw[Dv];constructor
     .intro h1;by_cases hu:A.up x=0
      .rw[hu] at h1;cases h1 with
       |refl=>exact absurd rfl Ł
       |step b _=>exact absurd (Xg (by unfold Ar.has;omega)) b
      .exact .step hu h1
     .intro h1;cases h1 with
      |refl=>exact absurd rfl ĵ
      |step _ h2=>exact h2
open Classical in
def aJb{up e:Int}(w:PA h a n m ps A)(ok:EK A e)(hu:A.has up)(hx:A.has x):BZ cx 237 [Pt a 0,I up,I x] h (.bool (decide (Reach A up x))) h:=by
 obtain⟨r,hr,b⟩:=nT ok;have OC:=w.mr;have hc:=XG w ok hr (up:=up) (by have:=hu.1;omega) (ps.length+1) x (.inr ⟨hx,by have:=b x;omega⟩);have c:E5 (.QL Nq) h [Pt a 0,I up,I x]=some (h,.bool (decide (Reach A up x))):=by simp only[E5,Nq,w.ha,w.hn];rw[Ae (by rw[mz];omega),Ae (by unfold Ar.has at hu hx;omega),hc];rfl
 rw[Af,show Cd cx 237 [Pt a 0,I up,I x]=Nr [Pt a 0,I up,I x] from rfl,Nr];simp only[BJ,c]
structure Py(h:Ah)(v:Aa)(l:List Int):Prop where
 len:AB (.len false) [v]=some (I (l.length:Int))
 at_:∀k (hk:k<l.length),∃p,AB (.FC 1) [v,I (k:Int)]=some p/\Bg h none p=some (I l[k])
def Kj.Re{kv:Aa}{l:List Int}(hk:Kj h kv l):Py h kv l:=by
 refine⟨hk.len,λk hlt=>?_⟩;rcases hk with⟨rfl,rfl⟩|⟨id,cs,rfl,hc⟩
 .simp at hlt
 .refine⟨Pt id k,by have:=E0 (id:=id) (z:=1) (k:= .i64) hlt;rwa [FF] at this,?_⟩;simp only[Bg,hc,E8];rw[Aj (by simpa using hlt)];simp[hlt]
def D2.Re{v:Aa}{l:List Int}(hv:D2 l v):Py h v l:=⟨AV.CN hv,λk hk=>⟨_,AV.BN hv hk,rfl⟩⟩
def aDH{v:Aa}{l:List Int}(hv:Py h v l)(hb:l.length<=1000000000)(x:Int):BZ cx 173 [v,I x] h (I (Co (λy=>decide (x=y)) 0 l)) h:=by
 rw[Af,rI,aBX];simp only[BJ,hv.len];refine Bj (λk:Nat=>[I 0,I (k:Int)]) (λk h1=>k<=l.length/\Co (λy=>decide (x=y)) 0 l=Co (λy=>decide (x=y)) k (l.drop k)/\h1=h) (λk=>l.length-k) 0 rfl ⟨AU _,rfl,rfl⟩ ?_;rintro k h1 ⟨hk,ha,rfl⟩;rcases AO k l.length with hlt|Ef
 .have i1:(k:Int)<(l.length:Int):=by omega
  obtain⟨p,c,b⟩:=hv.at_ k hlt;rw[AF hlt,Co] at ha;simp only[abS,i1,c,b,BQ (Ab:k<9223372036854775807)];refine⟨λh2=>?_,λh2=>?_⟩;.rw[ha,Ae (by simpa using h2)]
  .rw[Ac (by simpa using h2)] at ha;exact AM.next (k+1) rfl ⟨hlt,ha,rfl⟩ Ab
 .have i1:¬(k:Int)<(l.length:Int):=by omega
  rw[AW Ef,Co] at ha;simp only[abS,i1,ha]
def cS{l:List Int}{x:Int}(hx:x∈l):∃k,k<l.length/\Co (λy=>decide (x=y)) 0 l=(k:Int)/\l[k]?=some x/\l.takeWhile (λy=>decide (y≠x))=l.take k/\l.dropWhile (λy=>decide (y≠x))=l.drop k:=by
 have key:∀(l:List Int) (s:Nat),x∈l->∃k,k<l.length/\Co (λy=>decide (x=y)) s l=((s+k:Nat):Int)/\l[k]?=some x/\l.takeWhile (λy=>decide (y≠x))=l.take k/\l.dropWhile (λy=>decide (y≠x))=l.drop k:=by
  intro l;induction l with
  |nil=>intro s h;cases h
  |cons z l ih=>
   intro s h;by_cases e:x=z;.subst e;exact⟨0,AK,by rw[Co,Ae AK];simp,rfl,AK,AK⟩
   .have h2:x∈l:=(AS.1 h).resolve_left e;obtain⟨k,d,c,b,i,g⟩:=ih (s+1) h2;have f:z≠x:=λj=>e j.symm;refine⟨k+1,by simp;exact d,by rw[Co,Ac (by simpa using e),c];congr 1;omega,by simpa using b,?_,?_⟩;.rw[aL4,Ae (by simpa using f),i];rfl
    .rw[aL5,Ae (by simpa using f),g];rfl
 obtain⟨k,d,c,b⟩:=key l 0 hx;exact⟨k,d,by simpa using c,b⟩
def Sr{l:List Int}{x:Int}{k:Nat}(hn:l.Nodup)(hk:l[k]?=some x):l.take k++l.drop (k+1)=l.filter λy=>decide (y≠x):=by
 obtain⟨hlt,e⟩:=Ak.1 hk;have c:l=l.take k++x::l.drop (k+1):=by conv=>lhs;rw[<-CF k l,AF hlt,e]
 rw[c,B5,B8] at hn;conv=>rhs;rw[c,DW,Hm,Ac AK]
 rw[YJ.2 (λy hy=>by simpa using λb:y=x=>hn.2.2 y hy x AK b),YJ.2 (λy hy=>by simpa using λb:y=x=>hn.2.1.1 (b▸hy))]
def aDI{id l k:Nat}(hl:0<l)(hk:k<=l):AB (.HO 1 false false true) [.CD id 0 l 1,I (k:Int)]=some (.CD id 0 k 1):=by
 have b:Fo (k:Int) l=some k:=by unfold Fo;rw[Ae Ab];rfl
 simp[AB,J4,Ea,b];omega
def aDJ{id l k:Nat}(hk:k<=l):AB (.HO 1 false true false) [.CD id 0 l 1,I (k:Int)]=some (if k<l then .CD id k (l-k) 1 else .sl 1 []):=by
 have b:Fo (k:Int) l=some k:=by unfold Fo;rw[Ae Ab];rfl
 simp[AB,J4,Ea,b];split<;>rfl
def aJc{id k:Nat}{l:List Int}{cs:List Aa}(hc:h[id]?=some (.cells (l.map (Aa.int .i64)++cs)))(hk:k<l.length)(hb:l.length<=1000000000):
  ∃GW,BZ cx 363 [.CD id 0 l.length 1,I (k:Int),I ((k+1:Nat):Int)] h (.CD id 0 (l.length-1) 1) (h.set id (.cells ((l.take k++l.drop (k+1)).map (Aa.int .i64)++GW))):=by
 have Ik:=(Ak.1 hc).1;have b:(l.take k++l.drop (k+1)).length=l.length-1:=by rw[Au,As,Bc];omega
 obtain⟨RM,p,hcl⟩:∃RM,F9 h 1 8 (.CD id 0 k 1) (if k+1<l.length then .CD id (k+1) (l.length-(k+1)) 1 else .sl 1 [])=some (h.set id (.cells ((l.take k++l.drop (k+1)).map (Aa.int .i64)++RM)),.CD id 0 (l.length-1) 1)/\1<=RM.length:=by
  have g:GX h 1 (if k+1<l.length then .CD id (k+1) (l.length-(k+1)) 1 else .sl 1 [])=some ((l.drop (k+1)).map Cp):=by
   by_cases PQ:k+1<l.length;rotate_left;.rw[Ac PQ,AW Ab];rfl
   rw[Ae PQ];have d:=M6 (l:=l.drop (k+1)) (cs:=cs) (Yj:=(l.take (k+1)).map (Aa.int .i64));rw[<-AJ,<-BL,CF] at d;simp only[Al,As,Bc] at d;rw[Cs Ab] at d;simp only[GX,BT,hc,d];rw[Ae Eg]
  by_cases nh:k+1=l.length
  .refine⟨I l[k]::cs,?_,AK⟩;have j:l.drop (k+1)=[]:=AW Ab;rw[j] at g⊢;have f:l.map (Aa.int .i64)++cs=(l.take k++[]).map (Aa.int .i64)++ I l[k]::cs:=by
    have:l=l.take k++[l[k]]:=by conv=>lhs;rw[<-CF k l,AF hk,j]
    conv=>lhs;rw[this,BL,AJ]
    rw[BK];rfl
   have o:h.set id (.cells ((l.take k++[]).map (Aa.int .i64)++ I l[k]::cs))=h:=by rw[<-f];obtain⟨Y8,u⟩:=Ak.1 hc;rw[<-u,JM]
   simp only[F9,g,Df,BT];rw[o,(Ab:l.length-1=k)]
  .obtain⟨y,c,hd⟩:∃y c,l.drop (k+1)=y::c:=⟨_,_,AF (Ab:k+1<l.length)⟩;have vN:(y::c).length=l.length-(k+1):=by rw[<-hd,Bc]
   rw[hd] at g;have aJd:∀l3:List Int,(l3.map Cp).flatten=l3.map (Aa.int .i64):=by
    intro l3;induction l3 with
    |nil=>rfl
    |cons z l3 ih=>simp[Cp,ih]
   refine⟨(l.map (Aa.int .i64)++cs).drop (l.length-1),?_,Eg⟩;simp only[F9,g,Bs,hc,BT];have t:(Cp y::c.map Cp).length=l.length-(k+1):=by rw[<-vN];simp
   have s:(Cp y::c.map Cp).flatten=(y::c).map (Aa.int .i64):=by have:=aJd (y::c);simpa using this
   rw[t,s,Ae Eg];have r:(l.map (Aa.int .i64)++cs).take (0+k*1)=(l.take k).map (Aa.int .i64):=by rw[B0,FF,CJ Eg,Ge]
   rw[r,hd,(Ab:0+(k+(l.length-(k+1)))*1=l.length-1),(Ab:k+(l.length-(k+1))=l.length-1)];simp
 generalize Ŏ:h.set id (.cells ((l.take k++l.drop (k+1)).map (Aa.int .i64)++RM))=h2 at p;have IS:h2[id]?=some (.cells ((l.take k++l.drop (k+1)).map (Aa.int .i64)++RM)):=by rw[<-Ŏ];exact AQ Ik
 have j:E5 (.wR 1 true true) h2 [.CD id 0 (l.length-1) 1,I ((l.length-1:Nat):Int),I (l.length:Int)]=some (h2,.CD id (l.length-1) 1 1):=by
  simp only[E5,dY,IS];have nU:((l.take k++l.drop (k+1)).map (Aa.int .i64)++RM).length=l.length-1+RM.length:=by rw[Au,Al,b]
  have v:Fo (l.length:Int) ((((l.take k++l.drop (k+1)).map (Aa.int .i64)++RM).length-0)/1)=some l.length:=by unfold Fo;rw[Ae (by rw[nU];omega)];rfl
  have d:Fo ((l.length-1:Nat):Int) l.length=some (l.length-1):=by unfold Fo;rw[Ae Ab];rfl
  rw[Ae ⟨trivial,trivial,AU _⟩];simp only[Ea,v,d,Cv,Cc];rw[Ae (by rw[nU];omega)];congr 3
  .omega
  .omega
 have q:E5 (.clear 1 [I 0]) h2 [.CD id (l.length-1) 1 1]=some (h.set id (.cells ((l.take k++l.drop (k+1)).map (Aa.int .i64)++(I 0::RM.drop 1))),.bool true):=by
  simp only[E5,VK,IS];rw[Ae ⟨trivial,rfl,by rw[Au,Al,b];omega⟩];congr 2
  rw[<-Ŏ,aEt];congr 2
  have f:(((l.take k++l.drop (k+1)).map (Aa.int .i64)++RM).take (l.length-1))=(l.take k++l.drop (k+1)).map (Aa.int .i64):=HN (by rw[Al,b]);have o:(((l.take k++l.drop (k+1)).map (Aa.int .i64)++RM).drop (l.length-1+1*1))=RM.drop 1:=by rw[show l.length-1+1*1=((l.take k++l.drop (k+1)).map (Aa.int .i64)).length+1 by rw[Al,b],SG];simp
  rw[f,o];simp
 refine⟨I 0::RM.drop 1,?_⟩;have e:∀i n,AB (.len false) [.CD i 0 n 1]=some (I (n:Int)):=λ_ _=>rfl;have f:E5 (.jX 1) h [.CD id 0 l.length 1,I (k:Int),I ((k+1:Nat):Int),I (l.length:Int)]=some (h,.bool true):=by simp only[E5,VL];simp;omega
 rw[Af,uK,aDb];simp only[abS,e,f,(Ab:¬(k:Int)=((k+1:Nat):Int)),aDI (id:=id) (Ab:0<l.length) (Ab:k<=l.length),aDJ (id:=id) (Ab:k+1<=l.length),p,j,q]
def ni:∀{n:Nat} {l:List Int},l.Nodup->(∀x∈l,1<=x/\x<=n)->l.length<=n
 |0,l,_,h=>by
  cases l with
  |nil=>simp
  |cons x l=>have:=h x AK;omega
 |n+1,l,hn,h=>by
  have ih:=ni (n:=n) (l:=l.filter λx=>decide (x≠(n:Int)+1)) (hn.filter _) (λx hx=>by
   have h1:=DI.1 hx;have h2:=h x h1.1;have c:x≠(n:Int)+1:=by simpa using h1.2
   omega)
  have key:∀{l:List Int},l.Nodup->l.length<=(l.filter λx=>decide (x≠(n:Int)+1)).length+1:=by
   intro l hl;induction l with
   |nil=>simp
   |cons x l ih=>
    rw[B8] at hl;rw[Hm];by_cases e:x=(n:Int)+1;.rw[Ac (by simp[e]),YJ.2 (λy hy=>by simpa using λb:y=(n:Int)+1=>hl.1 (by rw[e,<-b];exact hy))];simp
    .rw[Ae (by simpa using e)];have:=ih hl.2;simp only[Be];omega
  have:=key hn;omega
def XH{e:Int}(ok:EK A e)(x:Int):(A.nd x).A8.length<=A.n.length:=by
 by_cases hx:A.has x;.refine ni (ok.Sd x hx).yS λk hk=>?_;exact(ok.MO x hx k hk).1
 .rw[HF hx];exact AU _
def Nd.A8{e:Int}(b:Nd A)(ok:EK A e)(x:Int):(A.nd x).A8.length<=1000000000:=Bu (XH ok x) b.n
def Nd.aOw{l:List Int}(b:Nd A):Nd (A.set x {A.nd x with A8:=l}):=b.set (b.at_ x) (b.data x)
def Nd.aOx{p:Int}(b:Nd A):Nd (A.set x {A.nd x with FM:=p}):=b.set (b.at_ x) (b.data x)
def Nd.cut(b:Nd A):Nd (A.cut x):=by
 unfold Ar.cut;simp only;split;.exact b
 .exact Nd.aOx b.aOw
def aJe{e:Int}(w:PA h a n m ps A)(j:Nd A)(ok:EK A e)(hx:A.has x):
  ∃h' Jt,BZ cx 238 [Pt a 0,I x] h (.tuple []) h'/\PA h' a n m Jt (A.cut x)/\DE h (λi=>i∈Gi a n m ps) h' (λi=>i∈Gi a n m Jt):=by
 have hb:=j.A8 ok;by_cases hp:(A.nd x).FM=0
 .have t:A.cut x=A:=by unfold Ar.cut;simp only;rw[Ae hp]
  refine⟨h,ps,?_,by rw[t];exact w,.refl⟩;rw[Af,cD,yx];simp only[abS,(I2 w j hx).Ad,w.f1 hx,hp]
 .obtain⟨hq,hk⟩:=ok.FM x hx hp;generalize d:(A.nd x).FM=q at*;have hne:q≠x:=by rw[<-d];exact mQ ok hx (by rw[d];exact hp)
  obtain⟨k,o,J,C,_,_⟩:=cS hk;have MO:=w.MO hq;have l:=aDH MO.Re (hb q) x;rw[J] at l;rcases vO:MO with⟨_,e0⟩|⟨id,cs,b,hc⟩
  .rw[e0] at o;simp at o
  clear vO;rw[b] at l;obtain⟨GW,r2⟩:=aJc hc o (hb q);rw[Sr (ok.Sd q hq).yS C] at r2;have YW:(A.nd q).A8.length-1=((A.nd q).A8.filter λy=>decide (y≠x)).length:=by rw[<-Sr (ok.Sd q hq).yS C,Au,As,Bc];omega
  rw[YW] at r2;have xN:=(Ak.1 hc).1;have r:=(w.pn hq).2.1;generalize c:h.set id (.cells (((A.nd q).A8.filter λy=>decide (y≠x)).map (Aa.int .i64)++GW))=h1 at r2;have aJf:id∈Gi a n m ps:=Lh (w.pn hq).2.2 (by rw[b];rfl);have aOy:id≠n:=by intro f;have:=w.nd;unfold Gi at this;simp only[B8,AS,M9] at this;exact this.2.1 (f▸Av.2 (.inr (Ck.2 ⟨_,(w.pn hq).2.2,by rw[b];rfl⟩)))
  have aUe:id≠a:=by intro f;have:=w.nd;unfold Gi at this;simp only[B8,AS,M9] at this;exact this.1.2 (f▸Av.2 (.inr (Ck.2 ⟨_,(w.pn hq).2.2,by rw[b];rfl⟩)))
  obtain⟨g,QF⟩:∃g:PN,g=⟨{A.nd q with A8:=(A.nd q).A8.filter λy=>decide (y≠x)},.CD id 0 ((A.nd q).A8.filter λy=>decide (y≠x)).length 1,(pN ps q).av,w.mv hq⟩:=⟨_,rfl⟩;have aJg:g.row=(pN ps q).row.set 2 (.CD id 0 ((A.nd q).A8.filter λy=>decide (y≠x)).length 1):=by rw[QF];simp only[PN.row];rw[r];rfl
  have u:h1[n]?=h[n]?:=by rw[<-c,Ao aOy]
  have z:=w.sto hq (k:=2) A5 (v:= .CD id 0 ((A.nd q).A8.filter λy=>decide (y≠x)).length 1) rfl aJg u;have aJh:HK g.kv=HK (pN ps q).kv:=by rw[QF,b];rfl
  have w1:=w.a_ hq (p:=g) (h1:=h1) (λi _ hi=>by rw[<-c,Ao];intro f;exact hi (by rw[b,f];rfl)) (by rw[QF];exact .inr ⟨id,GW,rfl,by rw[<-c];exact AQ xN⟩) (.inl aJh)
  have ŏ:=vK w hq aJh;generalize Ŏ:h1.set n (.cells ((ps.set (q.toNat-1) g).map PN.row).flatten)=h2 at z w1;generalize aUf:ps.set (q.toNat-1) g=dU at w1 ŏ;have s:g.x={A.nd q with A8:=(A.nd q).A8.filter λy=>decide (y≠x)}:=by rw[QF]
  rw[s] at w1;have OR:(A.set q {A.nd q with A8:=(A.nd q).A8.filter λy=>decide (y≠x)}).has x:=Im.2 hx;have YC:=(w1.pn OR).2.1;have M2:(A.set q {A.nd q with A8:=(A.nd q).A8.filter λy=>decide (y≠x)}).nd x=A.nd x:=by rw[JI,Ac (λh=>hne h.1.symm)]
  obtain⟨K,E,D,i3,G,l3⟩:=w1.wr OR (k:=1) A5 (v:= I 0) rfl (p:=⟨{A.nd x with FM:=0},(pN dU x).kv,(pN dU x).av,by have:=(pN dU x).ok;rw[YC,M2] at this;exact this⟩) (by simp only[PN.row];rw[YC,M2];rfl) rfl (Ce EV.A8 M2).symm;have t:A.cut x=(A.set q {A.nd q with A8:=(A.nd q).A8.filter λy=>decide (y≠x)}).set x {A.nd x with FM:=0}:=by unfold Ar.cut;simp only;rw[d,Ac hp,M2]
  refine⟨K,_,?_,by rw[t];exact D,?_⟩;.have inc:=BQ (show k<9223372036854775807 by have:=hb q;omega);rw[Af,cD,yx];simp only[abS,(I2 w j hx).Ad,(I2 w j hq).Ad,w.f1 hx,d,hp,w.f2 hq,b,l.Ad,inc,r2.Ad,z,E]
  .have aUg:h2.length=h.length:=by rw[<-Ŏ,Br,<-c,Br]
   refine⟨Ab,λi hi UI=>?_,λi hi=> .inl (by rw[i3,ŏ] at hi;exact hi)⟩;have B:i≠n:=λf=>UI (f▸by simp[Gi]);have H:i≠id:=λf=>UI (f▸aJf);rw[G i B,<-Ŏ,Ao (DH B),<-c,Ao (DH H)]
def iQ{p:PN}(w:PA h a n m ps A)(hx:A.has x){i:Nat}(hi:i∈Gi a n m (ps.set (x.toNat-1) p)):i∈Gi a n m ps\/HK p.kv=some i:=by
 obtain⟨c,b⟩:=XC w hx p;unfold Gi at hi⊢;rw[b,EM] at hi;simp only[AS,Av,Ck] at hi⊢;rcases hi with h1|h1|h1|⟨q,h1,h2⟩|⟨q,h1,h2⟩
 .exact .inl (.inl h1)
 .exact .inl (.inr (.inl h1))
 .exact .inl (.inr (.inr (.inl h1)))
 .exact .inl (.inr (.inr (.inr ⟨q,Bn h1,h2⟩)))
 .rcases h1 with rfl|h1
  .exact .inr h2
  .exact .inl (.inr (.inr (.inr ⟨q,BG h1,h2⟩)))
def nj{kv:Aa}{l:List Int}{k:Nat}(hk:Kj h kv l)(PQ:k<=l.length)(hb:l.length<=1000000000)(y:Int):
  ∃h1,E5 .wS h [kv,I (k:Int),.sl 1 [[I y]]]=some (h1,.CD h.length 0 (l.length+1) 1)/\h1[h.length]?=some (.cells ((l.take k++y::l.drop k).map (Aa.int .i64)))/\(∀i,i<h.length->HK kv≠some i->h1[i]?=h[i]?)/\h1.length=h.length+1:=by
 rcases hk with⟨rfl,rfl⟩|⟨id,cs,rfl,hc⟩
 .have:k=0:=by simpa using PQ
  subst this;exact⟨h++[.cells [I y]],rfl,AK,λi hi _=>Aj hi,AK⟩
 .have Ik:=(Ak.1 hc).1;refine⟨h.set id .CT++[.cells ((l.take k++y::l.drop k).map (Aa.int .i64))],?_,by rw[Bm AK];simp,λi hi hn=>?_,AK⟩
  .simp only[E5,PL,hc];rw[Ae (by have:AX=140737488355328:=rfl;simp;omega)];simp only[AT];have c:(l.map (Aa.int .i64)++cs).take k=(l.take k).map (Aa.int .i64):=by rw[CJ (by simpa using PQ),Ge]
   have b:(l.map (Aa.int .i64)++cs).take l.length=l.map (Aa.int .i64):=HN AK;rw[c,b];simp
  .rw[Aj (by simpa using hi),Ao];intro e;exact hn (by rw[e];rfl)
def On{p b:Int}(hf:¬jl A p x b):A.FV p x b=A:=by unfold Ar.FV;rw[Ac hf]
def nl{l:List Int}{b y:Int}{k:Nat}(hb:b=0->k=l.length)(h2:b≠0->l.takeWhile (λy=>decide (y≠b))=l.take k/\l.dropWhile (λy=>decide (y≠b))=l.drop k):I8 l b y=l.take k++y::l.drop k:=by
 unfold I8;by_cases h0:b=0;.rw[Ae h0,hb h0];simp
 .rw[Ac h0,(h2 h0).1,(h2 h0).2]
open Classical in
def aJi{e p b:Int}(w:PA h a n m ps A)(d:Nd A)(ok:EK A e):
  ∃Z h' Jt,BZ cx 111 [Pt a 0,I p,I x,I b] h (I Z) h'/\PA h' a n m Jt (A.FV p x b)/\DE h (λi=>i∈Gi a n m ps) h' (λi=>i∈Gi a n m Jt):=by
 by_cases YC:A.has p/\A.has x;rotate_left;.refine⟨3,h,ps,?_,by rw[On (λf=>YC ⟨f.hp,f.hn⟩)];exact w,.refl⟩;rw[Af,MS,bQ];simp only[abS,FJ,(LB (x:=p) (y:=x) w).Ad,Ac YC,Ca,(A5:¬(3:Int)=0)]
 obtain⟨hp,hx⟩:=YC;by_cases hb:b≠0/\¬A.has b;.refine⟨3,h,ps,?_,by rw[On (λf=>hb.2 (f.hb hb.1).1)];exact w,.refl⟩;rw[Af,MS,bQ];simp only[abS,FJ,(LB (x:=p) (y:=x) w).Ad,Ae (And.intro hp hx),Ca,CE,hb.1,(UX (x:=b) w).Ad,AG hb.2,AZ]
 have PS:b=0\/(b≠0/\A.has b):=by
  by_cases h0:b=0;.exact .inl h0
  .refine .inr ⟨h0,?_⟩;by_cases h1:A.has b;.exact h1
   .exact absurd ⟨h0,h1⟩ hb
 by_cases kp:Ld (A.nd p).kind;rotate_left
 .refine⟨4,h,ps,?_,by rw[On (λf=>kp f.kp)];exact w,.refl⟩;unfold Ld at kp;have c:¬(A.nd p).kind=1:=λe=>kp (.inl e);have s:¬(A.nd p).kind=2:=λe=>kp (.inr (.inl e));have E:¬(A.nd p).kind=4:=λe=>kp (.inr (.inr e));rw[Af,MS,bQ];rcases PS with h0|⟨h0,NT⟩
  .simp only[abS,FJ,(LB (x:=p) (y:=x) w).Ad,Ae (And.intro hp hx),Ca,CE,(I2 w d hp).Ad,(I2 w d hx).Ad,w.f0 hp,w.f0 hx,c,AZ,h0,s,E]
  .simp only[abS,FJ,(LB (x:=p) (y:=x) w).Ad,Ae (And.intro hp hx),Ca,CE,(I2 w d hp).Ad,(I2 w d hx).Ad,w.f0 hp,w.f0 hx,c,AZ,h0,(UX (x:=b) w).Ad,AI NT,s,E]
 by_cases kn:(A.nd x).kind=1\/(A.nd x).kind=2
 .refine⟨4,h,ps,?_,by rw[On (λf=>by have:=f.kn;omega)];exact w,.refl⟩;rw[Af,MS,bQ];rcases kp with c|c|c<;>rcases kn with s|s<;>rcases PS with h0|⟨h0,NT⟩
  all_goals first|(simp only[abS,FJ,(LB (x:=p) (y:=x) w).Ad,Ae (And.intro hp hx),Ca,CE,(I2 w d hp).Ad,(I2 w d hx).Ad,w.f0 hp,w.f0 hx,c,(A5:¬(2:Int)=1),(A5:¬(4:Int)=1),(A5:¬(4:Int)=2),AZ,h0,s];done)|simp only[abS,FJ,(LB (x:=p) (y:=x) w).Ad,Ae (And.intro hp hx),Ca,CE,(I2 w d hp).Ad,(I2 w d hx).Ad,w.f0 hp,w.f0 hx,c,(A5:¬(2:Int)=1),(A5:¬(4:Int)=1),(A5:¬(4:Int)=2),AZ,h0,(UX (x:=b) w).Ad,AI NT,s]
 have g:¬(A.nd x).kind=1:=λe=>kn (.inl e);have Ő:¬(A.nd x).kind=2:=λe=>kn (.inr e);have q:=aJb w ok hx hp;by_cases re:Reach A x p
 .refine⟨4,h,ps,?_,by rw[On (λf=>f.re re)];exact w,.refl⟩;rw[AI re] at q;rw[Af,MS,bQ];rcases kp with c|c|c<;>rcases PS with h0|⟨h0,NT⟩
  all_goals first|(simp only[abS,FJ,(LB (x:=p) (y:=x) w).Ad,Ae (And.intro hp hx),Ca,CE,(I2 w d hp).Ad,(I2 w d hx).Ad,w.f0 hp,w.f0 hx,c,(A5:¬(2:Int)=1),(A5:¬(4:Int)=1),(A5:¬(4:Int)=2),AZ,h0,g,Ő,q.Ad];done)|simp only[abS,FJ,(LB (x:=p) (y:=x) w).Ad,Ae (And.intro hp hx),Ca,CE,(I2 w d hp).Ad,(I2 w d hx).Ad,w.f0 hp,w.f0 hx,c,(A5:¬(2:Int)=1),(A5:¬(4:Int)=1),(A5:¬(4:Int)=2),AZ,h0,(UX (x:=b) w).Ad,AI NT,g,Ő,q.Ad]
 rw[AG re] at q;by_cases o:b≠0/\(b=x\/(A.nd b).FM≠p)
 .refine⟨5,h,ps,?_,by rw[On (λf=>by have:=f.hb o.1;rcases o.2 with h|h;exact this.2.1 h;exact h this.2.2)];exact w,.refl⟩;obtain⟨h0,o⟩:=o;have NT:=(PS.resolve_left h0).2;rw[Af,MS,bQ];by_cases l:b=x;.have aUh:=l;rcases kp with c|c|c<;>simp only[abS,FJ,(LB (x:=p) (y:=x) w).Ad,Ae (And.intro hp hx),Ca,CE,(I2 w d hp).Ad,(I2 w d hx).Ad,w.f0 hp,w.f0 hx,c,(A5:¬(2:Int)=1),(A5:¬(4:Int)=1),(A5:¬(4:Int)=2),AZ,g,Ő,q.Ad,l,show¬x=0 from l▸h0,AI hx,(UX (x:=x) w).Ad]
  .have o:=o.resolve_left l;rcases kp with c|c|c<;>simp only[abS,FJ,(LB (x:=p) (y:=x) w).Ad,Ae (And.intro hp hx),Ca,CE,(I2 w d hp).Ad,(I2 w d hx).Ad,w.f0 hp,w.f0 hx,c,(A5:¬(2:Int)=1),(A5:¬(4:Int)=1),(A5:¬(4:Int)=2),AZ,h0,(UX (x:=b) w).Ad,AI NT,g,Ő,q.Ad,l,(I2 w d NT).Ad,w.f1 NT,o]
 have fits:jl A p x b:=⟨hp,hx,λh0=>⟨(PS.resolve_left h0).2,λe=>o ⟨h0,.inl e⟩,by
  by_cases h1:(A.nd b).FM=p;.exact h1
  .exact absurd ⟨h0,.inr h1⟩ o⟩,kp,⟨g,Ő⟩,re⟩
 have X:A.FV p x b=(A.cut x).Nb p x b:=by unfold Ar.FV;rw[Ae fits]
 obtain⟨h1,dU,O,w1,S⟩:=aJe w d ok hx;have U4:=mR ok hx Ő;have Ň:=d.cut (x:=x);have QF:(A.cut x).has p:=KX.2 hp;have OR:(A.cut x).has x:=KX.2 hx;have H:x≠p:=by rintro rfl;exact re .refl
 have ç:=Ň.A8 U4 p;obtain⟨k,PQ,B,sm⟩:∃k,k<=((A.cut x).nd p).A8.length/\(b=0->k=((A.cut x).nd p).A8.length)/\(b≠0->Co (λy=>decide (b=y)) 0 ((A.cut x).nd p).A8=(k:Int)/\((A.cut x).nd p).A8.takeWhile (λy=>decide (y≠b))=((A.cut x).nd p).A8.take k/\((A.cut x).nd p).A8.dropWhile (λy=>decide (y≠b))=((A.cut x).nd p).A8.drop k):=by
  by_cases h0:b=0;.exact⟨_,Ag _,λ_=>rfl,λh=>absurd h0 h⟩
  .have t:=fits.hb h0;have np:((A.cut x).nd b).FM=p:=by
    rw[Ra ok hx,Ac t.2.1];split;.exact t.2.2
    .exact t.2.2
   have ê:b∈((A.cut x).nd p).A8:=by have:=(U4.FM b (KX.2 t.1) (by rw[np];have:=hp.1;omega)).2;rwa [np] at this
   obtain⟨k,c,s,_,E,V⟩:=cS ê;exact⟨k,Ab,λh=>absurd h h0,λ_=>⟨s,E,V⟩⟩
 have QZ:=nl (y:=x) B λh=>(sm h).2;have MO:=w1.MO QF;obtain⟨h2,L,IS,X3,Y8⟩:=nj MO PQ ç x;have J:=(w1.pn QF).2.1;obtain⟨r,zN⟩:∃r:PN,r=⟨{(A.cut x).nd p with A8:=I8 ((A.cut x).nd p).A8 b x},.CD h1.length 0 (((A.cut x).nd p).A8.length+1) 1,(pN dU p).av,w1.mv QF⟩:=⟨_,rfl⟩;have z:r.x={(A.cut x).nd p with A8:=I8 ((A.cut x).nd p).A8 b x}:=by rw[zN]
 have hrow:r.row=(pN dU p).row.set 2 (.CD h1.length 0 (((A.cut x).nd p).A8.length+1) 1):=by rw[zN];simp only[PN.row];rw[J];rfl
 have aJk:n∈Gi a n m dU:=by simp[Gi]
 have K:HK (pN dU p).kv≠some n:=by intro D;have:=w1.nd;unfold Gi at this;simp only[B8,AS,M9] at this;exact this.2.1 (Av.2 (.inr (Ck.2 ⟨_,(w1.pn QF).2.2,D⟩)))
 have G:=w1.sto QF (k:=2) A5 (v:= .CD h1.length 0 (((A.cut x).nd p).A8.length+1) 1) rfl hrow (X3 n (w1.lt n aJk) K);have hlen:(I8 ((A.cut x).nd p).A8 b x).length=((A.cut x).nd p).A8.length+1:=by rw[QZ,Au,Be,As,Bc];omega
 have u:=w1.a_ QF (p:=r) (h1:=h2) (λi hi hn=>X3 i (w1.lt i hi) hn) (by rw[zN];refine .inr ⟨h1.length,[],by simp only[hlen],?_⟩;simp only[QZ,BK];exact IS) (.inr λj hj=>by rw[zN] at hj;cases hj;exact Ag _)
 have OQ:∀i,i∈Gi a n m (dU.set (p.toNat-1) r)->i∈Gi a n m dU\/i=h1.length:=by
  intro i hi;rcases iQ w1 QF hi with h|h
  .exact .inl h
  .rw[zN] at h;cases h;exact .inr rfl
 generalize C:h2.set n (.cells ((dU.set (p.toNat-1) r).map PN.row).flatten)=Y at G u;generalize aUk:dU.set (p.toNat-1) r=nQ at u OQ;rw[z] at u;have aL:((A.cut x).set p {(A.cut x).nd p with A8:=I8 ((A.cut x).nd p).A8 b x}).has x:=Im.2 OR;have SO:((A.cut x).set p {(A.cut x).nd p with A8:=I8 ((A.cut x).nd p).A8 b x}).nd x=(A.cut x).nd x:=by rw[JI,Ac (λh=>H h.1)]
 have YC:=(u.pn aL).2.1;obtain⟨Q,M,T,W,U,l4⟩:=u.wr aL (k:=1) A5 (v:= I p) rfl (p:=⟨{(A.cut x).nd x with FM:=p},(pN nQ x).kv,(pN nQ x).av,by have:=(pN nQ x).ok;rw[YC,SO] at this;exact this⟩) (by simp only[PN.row];rw[YC,SO];rfl) rfl (Ce EV.A8 SO).symm;have aJl:(A.cut x).Nb p x b=((A.cut x).set p {(A.cut x).nd p with A8:=I8 ((A.cut x).nd p).A8 b x}).set x {(A.cut x).nd x with FM:=p}:=by unfold Ar.Nb;simp only;rw[SO]
 refine⟨0,Q,_,?_,by rw[X,aJl];exact T,?_⟩
 .rw[Af,MS,bQ];by_cases h0:b=0;.rw[B h0] at L;have kl:=MO.len;rcases kp with c|c|c<;>simp only[abS,FJ,(LB (x:=p) (y:=x) w).Ad,Ae (And.intro hp hx),Ca,CE,(I2 w d hp).Ad,(I2 w d hx).Ad,w.f0 hp,w.f0 hx,c,(A5:¬(2:Int)=1),(A5:¬(4:Int)=1),(A5:¬(4:Int)=2),AZ,h0,g,Ő,q.Ad,O.Ad,w1.f2 QF,kl,Hy,L,G,M]
  .have t:=fits.hb h0;have NT:=t.1;have N:=aDH MO.Re ç b;rw[(sm h0).1] at N;have kl:=MO.len;rcases kp with c|c|c<;>simp only[abS,FJ,(LB (x:=p) (y:=x) w).Ad,Ae (And.intro hp hx),Ca,CE,(I2 w d hp).Ad,(I2 w d hx).Ad,w.f0 hp,w.f0 hx,c,(A5:¬(2:Int)=1),(A5:¬(4:Int)=1),(A5:¬(4:Int)=2),AZ,h0,(UX (x:=b) w).Ad,AI NT,g,Ő,q.Ad,t.2.1,(I2 w d NT).Ad,w.f1 NT,t.2.2,O.Ad,w1.f2 QF,kl,N.Ad,Hy,L,G,M]
 .have dS:Y.length=h1.length+1:=by rw[<-C,Br,Y8]
  have R:DE h1 (λi=>i∈Gi a n m dU) Q (λi=>i∈Gi a n m (nQ.set (x.toNat-1) ⟨{(A.cut x).nd x with FM:=p},(pN nQ x).kv,(pN nQ x).av,by have:=(pN nQ x).ok;rw[YC,SO] at this;exact this⟩)):=by
   refine⟨Ab,λi hi UI=>?_,λi hi=>?_⟩;.have P:i≠n:=λD=>UI (D▸aJk);rw[U i P,<-C,Ao (DH P)];exact X3 i hi λD=>UI (Lh (w1.pn QF).2.2 D)
   .rw[W] at hi;rcases OQ i hi with h|h
    .exact .inl h
    .exact .inr Ab
  exact S.trans R
end
def Je(a:Nat)(b:BS)(o c t:Aa):List Aa:=[Pt a 0,I b.CM,o,c,I b.mode,I b.Jn,t,I b.head,I b.NF,.bool b.LS,I b.ctx.node,I b.ctx.A9,.str b.ctx.name,.bool b.ctx.OH,.bool b.fs,.bool b.EW,.str b.gY,.bool b.skip,I b.sw,.bool b.stop]
def Tp(l:List Int)(v:Aa):Prop:=D2 l v\/(v= .Gb 1/\l=[])
def YD(l:List Int)(v:Aa):Prop:=Tp l v/\v≠ .sl 1 []
section
variable{h:Ah}{l:List Int}{v:Aa}
def Tp.cells(t:Tp l v):v.cells=[v]:=by
 rcases t with t|⟨rfl,_⟩
 .exact AV.cells t
 .rfl
def Tp.len(t:Tp l v):AB (.len false) [v]=some (I (l.length:Int)):=by
 rcases t with t|⟨rfl,rfl⟩
 .exact AV.CN t
 .rfl
def Tp.ne(t:Tp l v)(hne:l≠[]):D2 l v:=by
 rcases t with t|⟨_,e⟩
 .exact t
 .exact absurd e hne
def Tp.Re(t:Tp l v):Py h v l:=⟨t.len,λk hk=>(D2.Re (t.ne (λe=>by rw[e] at hk;simp at hk))).at_ k hk⟩
def Tp.Gu(t:Tp l v)(hb:l.length*8<=AX):∃u,AB (.append 1 8) [.slnil,v]=some u/\D2 l u:=by
 rcases t with t|⟨rfl,rfl⟩
 .exact AV.Gu t hb
 .exact⟨.slnil,rfl,.inr ⟨rfl,rfl⟩⟩
def YD.fx{m:Int}:YD (l++[m]) (.sl 1 ((l++[m]).map Cp)):=⟨.inl .mk,λe=>by injection e with _ e;simp at e⟩
def YD.nil:YD [] .slnil:=⟨.inl (.inr ⟨rfl,rfl⟩),nofun⟩
end
structure BX(h:Ah)(bi a:Nat)(o c t:Aa)(G:Nat->Prop)(b:BS):Prop where
 hb:h[bi]?=some (.cells (Je a b o c t))
 o:B4 b.AY o
 t:YD b.tm t
 w:PW h G a b.a
 nb:¬G bi
section
variable{h:Ah}{bi a:Nat}{o c t:Aa}{G F:Nat->Prop}{b:BS}{x:Int}{m:Nat}
def BX.lt(w:BX h bi a o c t G b):bi<h.length:=(Ak.1 w.hb).1
def BX.Dj{h':Ah}(w:BX h bi a o c t G b)(hf:∀i,i=bi\/G i->h'[i]?=h[i]?):BX h' bi a o c t G b:=
 ⟨by rw[hf bi (.inl rfl)];exact w.hb,w.o,w.t,w.w.Dj λi hi=>hf i (.inr hi),w.nb⟩
def BX.Iq(w:BX h bi a o c t G b){u:Ah}:BX (h++u) bi a o c t G b:=w.Dj λi hi=>Aj (by rcases hi with rfl|hi;exact w.lt;exact w.w.lt hi)
def BX.ld(w:BX h bi a o c t G b)(k:Nat):Bg h none (Pt bi k)=(Je a b o c t)[k]?:=by simp only[Bg,w.hb,E8]
def BX.l0(w:BX h bi a o c t G b):Bg h none (Pt bi 0)=some (Pt a 0):=w.ld 0
def BX.l1(w:BX h bi a o c t G b):Bg h none (Pt bi 1)=some (I b.CM):=w.ld 1
def BX.l4(w:BX h bi a o c t G b):Bg h none (Pt bi 4)=some (I b.mode):=w.ld 4
def BX.l7(w:BX h bi a o c t G b):Bg h none (Pt bi 7)=some (I b.head):=w.ld 7
def BX.l9(w:BX h bi a o c t G b):Bg h none (Pt bi 9)=some (.bool b.LS):=w.ld 9
def BX.qp(w:BX h bi a o c t G b):Bg h none (Pt bi 15)=some (.bool b.EW):=w.ld 15
def BX.l3(w:BX h bi a o c t G b):Bg h none (Pt bi 3)=some c:=w.ld 3
def BX.l6(w:BX h bi a o c t G b):Bg h none (Pt bi 6)=some t:=w.ld 6
def BX.atO(w:BX h bi a o c t G b):At h bi 2 o:=⟨_,w.hb,rfl⟩
def BX.vP(w:BX h bi a o c t G b):At h bi 3 c:=⟨_,w.hb,rfl⟩
def BX.sO(w:BX h bi a o c t G b):LQ h bi 2 b.AY:=⟨o,w.atO,w.o⟩
def BX.sA(w:BX h bi a o c t G b):bj h (Pt bi 2) b.AY:=w.sO.at
def Ip(w:BX h bi a o c t G b):BZ cx 146 [Pt bi 0] h (.bool true) h:=by rw[Af,rB,t146];simp only[abS,w.l0]
def PW.pa{A:Ar}(w:PW h G a A):∃n m ps,PA h a n m ps A:=let⟨n,m,ps,w,_⟩:=w;⟨n,m,ps,w⟩
def U5(w:BX h bi a o c t G b)(ok:BA b)(rm:B9 b m)(x:Int):∃K V u,BZ cx 172 [Pt bi 0,I x] h (.agg [I (b.a.nd x).kind,I (b.a.nd x).FM,K,I (b.a.nd x).CM,I (b.a.nd x).A9,.str (b.a.nd x).name,V,.str (b.a.nd x).data,.str (b.a.nd x).bk,.str (b.a.nd x).sys,.bool (b.a.nd x).CI,I (b.a.nd x).cont,I (b.a.nd x).Em]) (h++u)/\D2 (b.a.nd x).A8 K/\I3 (h++u) V (b.a.nd x).AA/\Up h.length V:=by obtain⟨n,m',ps,d⟩:=w.w.pa;obtain⟨r,u,e,K,V,rfl,g,f⟩:=aIZ (x:=x) d rm.X9 (rm.X9.A8 ok.ok x);refine⟨K,V,u,?_,g,f⟩;rw[Af,rH,aBW];simp only[abS,w.l0,e.Ad]
def aJm(w:BX h bi a o c t G b)(rm:B9 b m):BZ cx 187 [Pt bi 0] h (.agg (Fx b.AY).row) h:=by have:=rm.AY;rw[Af,rU,aB9];simp only[abS,Fc,(Ip w).Ad,(f39 w.sA Ab).Ad]
def aJn(w:BX h bi a o c t G b)(ok:BA b)(rm:B9 b m):BZ cx 320 [Pt bi 0] h (.tuple [I b.J3.1,I b.J3.2]) h:=by
 have hl:=rm.AY;obtain⟨n,m',ps,g⟩:=w.w.pa;have f:=aDB w.sA (Ab:b.AY.length<=1000000000) E9;have r2:=aDB w.sA (Ab:b.AY.length<=1000000000) Bd;have b1:=KJ (q:=BD [E9]) (l:=b.AY);have b2:=KJ (q:=BD [Bd]) (l:=b.AY);unfold BS.J3;simp only
 generalize AP (BD [E9]) b.AY=d at f b1⊢;generalize AP (BD [Bd]) b.AY=i at r2 b2⊢;rw[Af,tI,aCJ];simp only[BJ,f.Ad,r2.Ad];refine⟨λh1=>?_,λh1=>⟨λh2=>?_,λh2=>?_⟩⟩;.rw[Ae h1];simp only[BJ,Fc,(Xy w.sA i).Ad]
 .rw[Ac h1,Ae h2];simp only[BJ,Fc,(Xy w.sA 0).Ad]
 .rw[Ac h1,Ac h2];simp only[abS,Fc,(Xy w.sA d).Ad,w.l0,(aI0 (x:=(Ht b.AY d).node) g rm.X9).Ad];refine⟨λe=>?_,λe=>?_⟩;.rw[Ae e]
  .rw[Ac e];have j:(if d-1<0 then 0 else d-1)=max (d-1) 0:=Ab;simp only[BJ,Fc,C6 (Ab: -9223372036854775808<=d-1) (Ab:d-1<9223372036854775808),aT,j,(Xy w.sA (max (d-1) 0)).Ad]
def Zx:AB (.BI 1) [S E9,S Th,S Ti,S Tj,S wTr]=some (.sl 1 (HI.map CH)):=D7 (ws:=HI) rfl A5
def nV{v:Aa}{ws:List Aq}(hv:JF ws v)(hn:ws.length<=1000000000)(a:Item)(h:Ah):BZ cx 162 [.agg a.row,v] h (.bool (BD ws a)) h:=by rw[Af,rE,aBT];simp only[BJ,Fc,(aDA hv hn _ h).Ad,BD];refine⟨λh1=>by simp[h1],λh1=>by simp[h1]⟩
def nr{A:Ar}{x:Int}(hk:(A.nd x).kind=4)(ws:List Aq):BD ws ⟨0,(A.nd x).A9,(A.nd x).name,false⟩=decide (Se ws A x):=by
 by_cases h:Se ws A x;.rw[AI h];unfold BD;rw[AI];exact⟨h.2.1,h.2.2⟩
 .rw[AG h];unfold BD;rw[AG];exact λh2=>h ⟨hk,h2.1,h2.2⟩
def î(w:BX h bi a o c t G b)(ok:BA b)(rm:B9 b m)(x:Int):∃u,BZ cx 171 [Pt bi 0,I x] h (.tuple [I (b.place x).1,I (b.place x).2]) (h++u):=by
 have hl:=rm.AY;by_cases C:x=0/\b.AY=[]
 .refine⟨[],?_⟩;have D:b.place x=(b.CM,0):=by unfold BS.place;rw[Ae C]
  rw[D,BK,Af,bY,xu];simp only[abS,(Ip w).Ad,C.1,C.2,CE,(UT w.sA).Ad,Int.natCast_zero,w.l1]
 .obtain⟨t',ht⟩:∃t',t'=if x=0 then(Fx b.AY).node else x:=⟨_,rfl⟩
  obtain⟨Z,X,r,U,_,_⟩:=U5 w ok rm t';have w1:=w.Iq (u:=r);have D:b.place x=if(b.a.nd (if b.EW=true/\Se HI b.a t' then b.J3 else(t',0)).1).cont≠0 then((b.a.nd (if b.EW=true/\Se HI b.a t' then b.J3 else(t',0)).1).cont,0) else if b.EW=true/\Se HI b.a t' then b.J3 else(t',0):=by unfold BS.place;rw[Ac C,<-ht]
  obtain⟨pb,Zr⟩:∃pb,pb=if b.EW=true/\Se HI b.a t' then b.J3 else(t',0):=⟨_,rfl⟩
  rw[<-Zr] at D;obtain⟨Y,V,P,r2,_,_⟩:=U5 w1 ok rm pb.1;have T:=aJn w1 ok rm;have A:=nV (ws:=HI) Da A5 ⟨0,(b.a.nd t').A9,(b.a.nd t').name,false⟩ (h++r);have em:∀s n,AB (.BF [I 0,I 0,S [],ff] [(1,1),(2,1)]) [I s,.str n]=some (.agg (Item.row ⟨0,s,n,false⟩)):=λ_ _=>rfl;refine⟨r++P,?_⟩;rw[<-AJ];have last:∀(y:Int×Int),y=pb->W cx (.call 172 [Pt bi 0,I y.1] λp=> .cells 13 p λd=> .op (.int .neq) [g d 11,I 0] λk=> .AE k (.ret .ret [.tuple [g d 11,I 0]]) (.ret .ret [.tuple [I y.1,I y.2]])) (λj vs h1=>j=Fp.ret/\vs=[.tuple [I (b.place x).1,I (b.place x).2]]/\h1=h++r++P) (h++r):=by
   rintro _ rfl;rw[D];simp only[BJ,r2.Ad];refine⟨λh1=>?_,λh1=>?_⟩;.rw[Ae h1]
   .rw[Ac h1]
  rw[Af,bY,xu];have qp:=w1.qp;have mid:W cx (.call 172 [Pt bi 0,I t'] λO=> .cells 13 O λq=> .Dz 200009 (.op .L2 [Pt bi 0] λN=> .op (.EN 15) [N] λv16=> .load none v16 λM=> .AE M (.op (.int .eql) [g q 0,I 4] λL=> .AE L (.op (.BF [I 0,I 0,S [],ff] [(1,1),(2,1)]) [g q 4,g q 5] λK=> .op (.BI 1) [S aWl,S aWX,S aWU,S aWY,S [116,114]] λv20=> .call 162 [K,v20] λJ=> .ret .normal [J]) (.ret .normal [ff])) (.ret .normal [ff])) (λx R=>match x with
    | .normal=> .Dz 100046 (.AE (g R 0) (.call 320 [Pt bi 0] λz=> .op (.ext 0) [z] λH=> .op (.ext 1) [z] λE=> .ret .normal [H,E]) (.ret .normal [I t',I 0])) (λx f=>match x with
     | .normal=> .call 172 [Pt bi 0,g f 0] λp=> .cells 13 p λd=> .op (.int .neq) [g d 11,I 0] λk=> .AE k (.ret .ret [.tuple [g d 11,I 0]]) (.ret .ret [.tuple [g f 0,g f 1]])
     | .exit i=> .fail
     | .ret=> .ret .ret [.tuple [g f 0,g f 1]])
    | .exit i=> .fail
    | .ret=> .ret .ret [.tuple [I t',I 0]])) (λj vs h1=>j=Fp.ret/\vs=[.tuple [I (b.place x).1,I (b.place x).2]]/\h1=h++r++P) h:=by
   rw[U.Ad];by_cases hf:b.EW=true
   .rw[hf] at qp;by_cases B:(b.a.nd t').kind=4
    .rw[nr B] at A;by_cases hw:Se HI b.a t';.rw[AI hw] at A;rw[Ae ⟨hf,hw⟩] at Zr;have:=last b.J3 Zr.symm;simp only[abS,qp,B,em,Zx,A.Ad,T.Ad];simpa only[BJ,gC,Be,B1] using this
     .rw[AG hw] at A;rw[Ac (λh=>hw h.2)] at Zr;have:=last (t',0) Zr.symm;simp only[abS,qp,B,em,Zx,A.Ad];simpa only[BJ,gC,Be,B1] using this
    .rw[Ac (λh=>B h.2.1)] at Zr;have:=last (t',0) Zr.symm;simp only[abS,qp,B];simpa only[BJ,gC,Be,B1] using this
   .rw[Ac (λh=>hf h.1)] at Zr;have:=last (t',0) Zr.symm;rw[show b.EW=false by simpa using hf] at qp;simp only[BJ,qp];simpa only[BJ,gC,Be,B1] using this
  by_cases h0:x=0
  .have hne:b.AY≠[]:=λe=>C ⟨h0,e⟩;have Q:¬((b.AY.length:Nat):Int)=0:=by have:=EG.2 hne;omega
   rw[Ae h0] at ht;rw[ht] at mid;simp only[abS,(Ip w).Ad];rw[h0] at mid⊢;simp only[abS,Fc,(UT w.sA).Ad,Q,(aJm w rm).Ad] at mid⊢;exact mid
  .rw[Ac h0] at ht;rw[ht] at mid;simp only[abS,(Ip w).Ad,h0,Ec] at mid⊢;exact mid
end
section
def zO{Q:HB}{h:Ah}{k:Aa->IT}:W cx (.Nf k) Q h↔W cx (k (.map (some h.length))) Q (h++[.map (ft 0)]):=Q2
section
variable{v:Aa}{l:List A6}{h:Ah}
def aOH(hv:Bz l v)(hb:l.length<=1000)(sp:Int):∃u,BZ cx 203 [I sp,v] h u (h++[.map (ft 11)])/\Bz (l.map (C3 sp)) u:=by
 have DG:AV 3 (l.map A6.row) v:=hv;have Jc:Ev cx 203 [I sp,v] h λr h'=>h'=h++[.map (ft 11)]/\Bz (l.map (C3 sp)) r:=by
  unfold Ev;rw[sJ,aCn];rw[zO];simp only[BJ,Nat.reduceLeDiff,↓reduceIte,AR,Cf,mL,aF5,aF6,aF7,aF8,aF9,aGa,aGb,aGc,aGd,aGe,aAY,DG.CN];refine Bj (λp:Nat×Aa=>[p.2,I (p.1:Int)]) (λp h1=>p.1<=l.length/\Bz ((l.take p.1).map (C3 sp)) p.2/\h1=h++[.map (ft 11)]) (λp=>l.length-p.1) (0,.slnil) rfl ⟨AU _,.nil,rfl⟩ ?_;rintro⟨n,u⟩ h1 ⟨hn,hu,rfl⟩;simp only at hn hu;rcases AO n l.length with hlt|Ef
  .have i1:(n:Int)<(l.length:Int):=by omega
   have Gq:∀{q:List Aa},q=(C3 sp l[n]).row->∃w,AB (.append 3 40) [u,.sl 3 [q]]=some w/\Bz ((l.take (n+1)).map (C3 sp)) w:=by
    rintro _ rfl;refine⟨_,AV.Ke (f:=A6.row) (a:=C3 sp l[n]) (b:=40) hu ?_,?_⟩;.simp[AX];omega
    .rw[Ay hlt,BL];exact .mk
   have inc:=BQ (Ab:n<9223372036854775807);by_cases e:sp=2
   .subst e;cases c:D8 (Cr l[n].name H8) with
    |some x=>obtain⟨w,d,hw⟩:=Gq (q:=[I x.1,.str x.2,.str l[n].value]) (by simp only[C3,Kg,true_or,BT,c,A6.row]);simp only[BJ,Nat.reduceLeDiff,↓reduceIte,AR,i1,DG.BN hlt,Cf,A6.row,(aIF _).Bk rfl rfl,Ax,Ap,An,Mj,c,Eh,d,inc];exact AM.next (n+1,w) rfl ⟨hlt,hw,rfl⟩ Dp
    |none=>obtain⟨w,d,hw⟩:=Gq (q:=[I 0,.str (Cr l[n].name H8),.str l[n].value]) (by simp only[C3,Kg,true_or,BT,c,A6.row]);simp only[BJ,Nat.reduceLeDiff,↓reduceIte,AR,i1,DG.BN hlt,Cf,A6.row,(aIF _).Bk rfl rfl,Ax,Ap,An,Mj,c,Eh,d,inc];exact AM.next (n+1,w) rfl ⟨hlt,hw,rfl⟩ Dp
   by_cases g:sp=3
   .subst g;by_cases hd:l[n].name=aAZ
    .have c:D8 UO=none:=by decide
     obtain⟨w,d,hw⟩:=Gq (q:=[I 0,.str UO,.str l[n].value]) (by simp only[C3,Kg,hd,or_true,BT,Eb,c,A6.row,jI,e]);simp only[BJ,Nat.reduceLeDiff,↓reduceIte,AR,i1,DG.BN hlt,Cf,A6.row,hd,(A5:¬(3:Int)=2),Ax,Aw,Ap,An,Mj,c,Eh,d,inc];exact AM.next (n+1,w) rfl ⟨hlt,hw,rfl⟩ Dp
    .cases c:D8 l[n].name with
     |some x=>obtain⟨w,d,hw⟩:=Gq (q:=[I x.1,.str x.2,.str l[n].value]) (by simp only[C3,Kg,hd,or_true,BT,Eb,c,A6.row,ũ,e]);simp only[BJ,Nat.reduceLeDiff,↓reduceIte,AR,i1,DG.BN hlt,Cf,A6.row,hd,(A5:¬(3:Int)=2),Ax,Aw,Ap,An,Mj,c,Eh,d,inc];exact AM.next (n+1,w) rfl ⟨hlt,hw,rfl⟩ Dp
     |none=>obtain⟨w,d,hw⟩:=Gq (q:=[I 0,.str l[n].name,.str l[n].value]) (by simp only[C3,Kg,hd,or_true,BT,Eb,c,A6.row,ũ,e]);simp only[BJ,Nat.reduceLeDiff,↓reduceIte,AR,i1,DG.BN hlt,Cf,A6.row,hd,(A5:¬(3:Int)=2),Ax,Aw,Ap,An,Mj,c,Eh,d,inc];exact AM.next (n+1,w) rfl ⟨hlt,hw,rfl⟩ Dp
   .obtain⟨w,d,hw⟩:=Gq (q:=[I 0,.str l[n].name,.str l[n].value]) (by simp only[C3,e,g,or_self,Eb,A6.row]);cases c:D8 l[n].name with
    |some x=>simp only[BJ,Nat.reduceLeDiff,↓reduceIte,AR,i1,DG.BN hlt,Cf,A6.row,e,g,Ax,Aw,Ap,An,Mj,c,Eh,d,inc];exact AM.next (n+1,w) rfl ⟨hlt,hw,rfl⟩ Dp
    |none=>simp only[BJ,Nat.reduceLeDiff,↓reduceIte,AR,i1,DG.BN hlt,Cf,A6.row,e,g,Ax,Aw,Ap,An,Mj,c,Eh,d,inc];exact AM.next (n+1,w) rfl ⟨hlt,hw,rfl⟩ Dp
  .have i1:¬(n:Int)<(l.length:Int):=by omega
   rw[AD Ef] at hu;simp only[BJ,Nat.reduceLeDiff,↓reduceIte,AR,i1,Aw,Ap,An];exact⟨_,rfl,hu⟩
 obtain⟨r,h',hr,rfl,hu⟩:=Jc.ret;exact⟨r,hr,hu⟩
def U7{Q:HB}{s:Aq}{k:Aa->IT}:W cx (.Bk 359 [.str aV7,.str s] k) Q h↔W cx (k (.str (Cr s H8))) Q h:=by have e:=(aID Nz s GB).Bk (Q:=Q) (h:=h) (k:=k) rfl rfl;rw[WX] at e;exact e
def Tq{Q:HB}{s:Aq}{k:Aa->IT}(hs:s.length<9223372036854775807):W cx (.Bk 139 [.str aWc,.str s] k) Q h↔W cx (k (.bool (decide (s∈LR)))) Q h:=by rw[Js A5 hs,uo]
def aOI(hv:Bz l v)(hs:∀a∈l,a.name.length<=1000)(hb:l.length<=1000)(sp:Int):∃u,BZ cx 230 [I sp,v] h u h/\Bz (l.map (C3 sp)) u:=by
 have DG:AV 3 (l.map A6.row) v:=hv;have Jc:Ev cx 230 [I sp,v] h λr h'=>h'=h/\Bz (l.map (C3 sp)) r:=by
  unfold Ev;rw[yu,aHh];refine Bj (λp:Nat×Aa=>[p.2,I (p.1:Int)]) (λp h1=>p.1<=l.length/\Bz ((l.take p.1).map (C3 sp)) p.2/\h1=h) (λp=>l.length-p.1) (0,.slnil) rfl ⟨AU _,.nil,rfl⟩ ?_;rintro⟨n,u⟩ h1 ⟨hn,hu,rfl⟩;simp only at hn hu;rcases AO n l.length with hlt|Ef
  .have i1:(n:Int)<(l.length:Int):=by omega
   have Gq:∀{q:List Aa},q=(C3 sp l[n]).row->∃w,AB (.append 3 40) [u,.sl 3 [q]]=some w/\Bz ((l.take (n+1)).map (C3 sp)) w:=by
    rintro _ rfl;refine⟨_,AV.Ke (f:=A6.row) (a:=C3 sp l[n]) (b:=40) hu ?_,?_⟩;.simp[AX];omega
    .rw[Ay hlt,BL];exact .mk
   have inc:=BQ (Ab:n<9223372036854775807);have OC:=hs _ (AN hlt);have aDL:∀nm,(sp=2\/sp=3)->Kg sp l[n].name=nm->C3 sp l[n]=match D8 nm with
     |some (s,m)=>⟨s,m,l[n].value⟩
     |none=>⟨0,nm,l[n].value⟩:=by
    rintro _ hsp rfl;rw[C3,Ae hsp];rfl
   by_cases x:sp=2
   .subst x;have hnm:=aDL (Cr l[n].name H8) (.inl rfl) rfl;have dV:(Cr l[n].name H8).length<9223372036854775807:=by rw[R5];omega
    generalize hg:Cr l[n].name H8=nm at hnm dV;rcases QB nm with⟨e,i,d⟩|⟨e,⟨g,i,d⟩|⟨g,⟨j,i,d⟩|⟨j,⟨k,d⟩|⟨k,⟨o,d⟩|⟨o,d⟩⟩⟩⟩⟩
    .obtain⟨w,c,hw⟩:=Gq (q:=[I 4,.str (nm.drop 6),.str l[n].value]) (by rw[hnm];simp only[d,A6.row]);simp only[BJ,Nat.reduceLeDiff,↓reduceIte,AR,DG.CN,i1,DG.BN hlt,Cf,A6.row,hg,U7,(A5:¬(2:Int)=3),Ax,Aw,Ap,An,Tq dV,e,sl6 i,Eh,c,inc];exact AM.next (n+1,w) rfl ⟨hlt,hw,rfl⟩ Dp
    .obtain⟨w,c,hw⟩:=Gq (q:=[I 5,.str (nm.drop 4),.str l[n].value]) (by rw[hnm];simp only[d,A6.row]);simp only[BJ,Nat.reduceLeDiff,↓reduceIte,AR,DG.CN,i1,DG.BN hlt,Cf,A6.row,hg,U7,(A5:¬(2:Int)=3),Ax,Aw,Ap,An,Tq dV,e,A0 g,sl4 i,Eh,c,inc];exact AM.next (n+1,w) rfl ⟨hlt,hw,rfl⟩ Dp
    .obtain⟨w,c,hw⟩:=Gq (q:=[I 5,.str (nm.drop 4),.str l[n].value]) (by rw[hnm];simp only[d,A6.row]);simp only[BJ,Nat.reduceLeDiff,↓reduceIte,AR,DG.CN,i1,DG.BN hlt,Cf,A6.row,hg,U7,(A5:¬(2:Int)=3),Ax,Aw,Ap,An,Tq dV,e,g,A0 j,sl4 i,Eh,c,inc];exact AM.next (n+1,w) rfl ⟨hlt,hw,rfl⟩ Dp
    .obtain⟨w,c,hw⟩:=Gq (q:=[I 6,.str nm,.str l[n].value]) (by rw[hnm];simp only[d,A6.row]);simp only[BJ,Nat.reduceLeDiff,↓reduceIte,AR,DG.CN,i1,DG.BN hlt,Cf,A6.row,hg,U7,(A5:¬(2:Int)=3),Ax,Aw,Ap,An,Tq dV,e,g,j,A0 k,Eh,c,inc];exact AM.next (n+1,w) rfl ⟨hlt,hw,rfl⟩ Dp
    .obtain⟨w,c,hw⟩:=Gq (q:=[I 6,.str mM,.str l[n].value]) (by rw[hnm];simp only[d,A6.row]);simp only[BJ,Nat.reduceLeDiff,↓reduceIte,AR,DG.CN,i1,DG.BN hlt,Cf,A6.row,hg,U7,(A5:¬(2:Int)=3),Ax,Aw,Ap,An,Tq dV,e,g,j,k,A0 o,Eh,c,inc];exact AM.next (n+1,w) rfl ⟨hlt,hw,rfl⟩ Dp
    .obtain⟨w,c,hw⟩:=Gq (q:=[I 0,.str nm,.str l[n].value]) (by rw[hnm];simp only[d,A6.row]);simp only[BJ,Nat.reduceLeDiff,↓reduceIte,AR,DG.CN,i1,DG.BN hlt,Cf,A6.row,hg,U7,(A5:¬(2:Int)=3),Ax,Aw,Ap,An,Tq dV,e,g,j,k,o,Eh,c,inc];exact AM.next (n+1,w) rfl ⟨hlt,hw,rfl⟩ Dp
   by_cases t:sp=3
   .subst t;by_cases hd:l[n].name=aAZ;.have hnm:=aDL UO (.inr rfl) (by rw[Kg,Ac A5,Ae ⟨rfl,hd⟩]);rw[(A5:D8 UO=none)] at hnm;obtain⟨w,c,hw⟩:=Gq (q:=[I 0,.str UO,.str l[n].value]) (by rw[hnm];rfl);have dV:UO.length<9223372036854775807:=A5;simp only[BJ,Nat.reduceLeDiff,↓reduceIte,AR,DG.CN,i1,DG.BN hlt,Cf,A6.row,hd,(A5:¬(3:Int)=2),Ax,Aw,Ap,An,Tq dV,(A5:UO∉LR),(A5:¬UO=gM),(A5:¬UO=Xa),(A5:¬UO=gN),(A5:¬UO=Xb),Eh,c,inc];exact AM.next (n+1,w) rfl ⟨hlt,hw,rfl⟩ Dp
    have hnm:=aDL l[n].name (.inr rfl) (by rw[Kg,Ac A5,Ac (λh=>hd h.2)]);have dV:l[n].name.length<9223372036854775807:=Ab;rcases QB l[n].name with⟨e,i,d⟩|⟨e,⟨g,i,d⟩|⟨g,⟨j,i,d⟩|⟨j,⟨k,d⟩|⟨k,⟨o,d⟩|⟨o,d⟩⟩⟩⟩⟩
    .obtain⟨w,c,hw⟩:=Gq (q:=[I 4,.str (l[n].name.drop 6),.str l[n].value]) (by rw[hnm];simp only[d,A6.row]);simp only[BJ,Nat.reduceLeDiff,↓reduceIte,AR,DG.CN,i1,DG.BN hlt,Cf,A6.row,hd,U7,(A5:¬(3:Int)=2),Ax,Aw,Ap,An,Tq dV,e,sl6 i,Eh,c,inc];exact AM.next (n+1,w) rfl ⟨hlt,hw,rfl⟩ Dp
    .obtain⟨w,c,hw⟩:=Gq (q:=[I 5,.str (l[n].name.drop 4),.str l[n].value]) (by rw[hnm];simp only[d,A6.row]);simp only[BJ,Nat.reduceLeDiff,↓reduceIte,AR,DG.CN,i1,DG.BN hlt,Cf,A6.row,hd,U7,(A5:¬(3:Int)=2),Ax,Aw,Ap,An,Tq dV,e,A0 g,sl4 i,Eh,c,inc];exact AM.next (n+1,w) rfl ⟨hlt,hw,rfl⟩ Dp
    .obtain⟨w,c,hw⟩:=Gq (q:=[I 5,.str (l[n].name.drop 4),.str l[n].value]) (by rw[hnm];simp only[d,A6.row]);simp only[BJ,Nat.reduceLeDiff,↓reduceIte,AR,DG.CN,i1,DG.BN hlt,Cf,A6.row,hd,U7,(A5:¬(3:Int)=2),Ax,Aw,Ap,An,Tq dV,e,g,A0 j,sl4 i,Eh,c,inc];exact AM.next (n+1,w) rfl ⟨hlt,hw,rfl⟩ Dp
    .obtain⟨w,c,hw⟩:=Gq (q:=[I 6,.str l[n].name,.str l[n].value]) (by rw[hnm];simp only[d,A6.row]);simp only[BJ,Nat.reduceLeDiff,↓reduceIte,AR,DG.CN,i1,DG.BN hlt,Cf,A6.row,hd,U7,(A5:¬(3:Int)=2),Ax,Aw,Ap,An,Tq dV,e,g,j,A0 k,Eh,c,inc];exact AM.next (n+1,w) rfl ⟨hlt,hw,rfl⟩ Dp
    .obtain⟨w,c,hw⟩:=Gq (q:=[I 6,.str mM,.str l[n].value]) (by rw[hnm];simp only[d,A6.row]);simp only[BJ,Nat.reduceLeDiff,↓reduceIte,AR,DG.CN,i1,DG.BN hlt,Cf,A6.row,hd,U7,(A5:¬(3:Int)=2),Ax,Aw,Ap,An,Tq dV,e,g,j,k,A0 o,Eh,c,inc];exact AM.next (n+1,w) rfl ⟨hlt,hw,rfl⟩ Dp
    .obtain⟨w,c,hw⟩:=Gq (q:=[I 0,.str l[n].name,.str l[n].value]) (by rw[hnm];simp only[d,A6.row]);simp only[BJ,Nat.reduceLeDiff,↓reduceIte,AR,DG.CN,i1,DG.BN hlt,Cf,A6.row,hd,U7,(A5:¬(3:Int)=2),Ax,Aw,Ap,An,Tq dV,e,g,j,k,o,Eh,c,inc];exact AM.next (n+1,w) rfl ⟨hlt,hw,rfl⟩ Dp
   .obtain⟨w,c,hw⟩:=Gq (q:=[I 0,.str l[n].name,.str l[n].value]) (by simp only[C3,x,t,or_self,Eb,A6.row]);simp only[BJ,Nat.reduceLeDiff,↓reduceIte,AR,DG.CN,i1,DG.BN hlt,Cf,A6.row,x,t,Ax,Aw,Ap,An,Eh,c,inc];exact AM.next (n+1,w) rfl ⟨hlt,hw,rfl⟩ Dp
  .have i1:¬(n:Int)<(l.length:Int):=by omega
   rw[AD Ef] at hu;simp only[BJ,Nat.reduceLeDiff,↓reduceIte,AR,DG.CN,i1,Aw,Ap,An];exact⟨_,rfl,hu⟩
 obtain⟨r,h',hr,rfl,hu⟩:=Jc.ret;exact⟨r,hr,hu⟩
end
end
def Bw(bi:Nat)(G:Nat->Prop):Nat->Prop:=λi=>i=bi\/G i
section
variable{h h':Ah}{bi a:Nat}{o c t:Aa}{G G' F:Nat->Prop}{b:BS}{x:Int}{m:Nat}
def DE.ő(x:DE h G h' G'):DE h (Am.Bw bi G) h' (Am.Bw bi G'):=⟨x.len,λi hi hn=>x.old i hi λhg=>hn (.inr hg),λi hi=>by
 rcases hi with rfl|hi
 .exact .inl (.inl rfl)
 .rcases x.Bw i hi with h|h
  .exact .inl (.inr h)
  .exact .inr h⟩
def BX.vQ{A':Ar}(w:BX h bi a o c t G b)(hp:PW h' G' a A')(x:DE h G h' G'):BX h' bi a o c t G' {b with a:=A'}/\DE h (Bw bi G) h' (Bw bi G'):=
 ⟨⟨by rw[x.old bi w.lt w.nb];exact w.hb,w.o,w.t,hp,λhg=>by rcases x.Bw bi hg with h|h;exact w.nb h;have:=w.lt;omega⟩,x.ő⟩
def BX.step{A':Ar}{R:Ah->Prop}(w:BX h bi a o c t G b)(d:∀n m ps,PA h a n m ps b.a->∃h' n' m' Jt,R h'/\PA h' a n' m' Jt A'/\DE h (λi=>i∈Gi a n m ps) h' (λi=>i∈Gi a n' m' Jt)):
  ∃h' G',R h'/\BX h' bi a o c t G' {b with a:=A'}/\DE h (Bw bi G) h' (Bw bi G'):=by
 obtain⟨n,m,ps,g,e⟩:=w.w;obtain⟨h',n',m',Jt,r,w',x⟩:=d n m ps g;have k:G=λi=>i∈Gi a n m ps:=funext λi=>propext (e i);obtain⟨j,f⟩:=w.vQ w'.pw (by rw[k];exact x);exact⟨h',_,r,j,f⟩
def BX.C7(w:BX h bi a o c t G b){u:Ah}:DE h (Bw bi G) (h++u) (Bw bi G):= .Iq
def aJq{v:Aa}{l:List Int}{f:FuncId}{caps:List Aa}{q:Int->Bool}(hv:D2 l v)(hb:l.length<=1000000000)(hf:f<=99999)(hq:∀k∈l,∀u,∃d,BZ cx f (I k::caps) (h++u) (.bool (q k)) (h++u++d)):
  ∃u,BZ cx 396 [v,.func (.func f) [] caps] h (I (Co q 0 l)) (h++u):=by
 have DG:AV 1 (l.map Cp) v:=hv;have Jc:Ev cx 396 [v,.func (.func f) [] caps] h λr h'=>r= I (Co q 0 l)/\∃u,h'=h++u:=by
  unfold Ev;rw[uO,aDf];simp only[BJ,DG.CN];refine Bj (λk:Nat=>[I 0,I (k:Int)]) (λk h1=>k<=l.length/\Co q 0 l=Co q k (l.drop k)/\∃u,h1=h++u) (λk=>l.length-k) 0 rfl ⟨AU _,rfl,[],AK⟩ ?_;rintro k h1 ⟨hk,ha,u,rfl⟩;rcases AO k l.length with hlt|Ef
  .have i1:(k:Int)<(l.length:Int):=by omega
   have g:Bg (h++u) none (.Cq (Cp l[k]))=some (I l[k]):=rfl;obtain⟨d,e⟩:=hq _ (AN hlt) u;rw[AF hlt,Co] at ha;simp only[abS,↓reduceIte,DC,i1,DG.BN hlt,g,hf,e.Ad,BQ (Ab:k<9223372036854775807)];rw[CQ];refine⟨λh2=>?_,λh2=>?_⟩;.exact⟨_,rfl,by rw[ha,Ae h2],u++d,AK⟩
   .rw[Ac (by simp[h2])] at ha;exact AM.next (k+1) rfl ⟨hlt,ha,u++d,AK⟩ Ab
  .have i1:¬(k:Int)<(l.length:Int):=by omega
   rw[AW Ef,Co] at ha;simp only[abS,↓reduceIte,DC,i1];exact⟨_,rfl,by rw[ha],u,rfl⟩
 obtain⟨r,h',hr,rfl,u,rfl⟩:=Jc.ret;exact⟨u,hr⟩
def ï{l:List Int}{q:Int->Bool}:decide (0<=Co q 0 l)=l.any q:=by
 rcases HH (p:=q) (l:=l) (k:=0) with⟨h1,h2⟩|⟨n,y,h1,h2,d⟩
 .rw[h1,bu];have:=Jh.1 h2;simpa using this
 .rw[h1,bu];have f:=Ut d;have e:=Qm d;rw[AI Ab,SL];exact⟨y,e,f⟩
def BX.self(w:BX h bi a o c t G b){A':Ar}(e:A'=b.a):BX h bi a o c t G {b with a:=A'}:=by subst e;exact w
open Classical in
def iR{p bf:Int}(w:BX h bi a o c t G b)(ok:BA b)(rm:B9 b m):∃h' G',BZ cx 159 [Pt bi 0,I x,I p,I bf] h (.tuple []) h'/\BX h' bi a o c t G' {b with a:=b.a.Ey x p bf}/\DE h (Bw bi G) h' (Bw bi G'):=by
 obtain⟨K1,V1,d,J,_,_⟩:=U5 w ok rm p;have w1:=w.Iq (u:=d);have X:∀v,Aa.cells (.ptr v)=[.ptr v]:=λ_=>rfl;have HC:∀h2,(∃u,h2=h++u)->∃h' G',(∃s,BZ cx 111 [Pt a 0,I p,I x,I bf] h2 (I s) h')/\BX h' bi a o c t G' {b with a:=b.a.FV p x bf}/\DE h (Bw bi G) h' (Bw bi G'):=by
  rintro _ ⟨u,rfl⟩;have g:=w.Iq (u:=u);obtain⟨h',G',r,w',x'⟩:=g.step (A':=b.a.FV p x bf) (R:=λh'=>∃s,BZ cx 111 [Pt a 0,I p,I x,I bf] (h++u) (I s) h') (λn m ps Q=>by obtain⟨s,h',Jt,r,wp,P⟩:=aJi Q rm.X9 ok.ok (p:=p) (x:=x) (b:=bf);exact⟨h',n,m,Jt,⟨s,r⟩,wp,P⟩)
  exact⟨h',G',r,w',w.C7.trans x'⟩
 by_cases A:(b.a.nd p).kind=1
 .obtain⟨K2,Z,j,r2,_,_⟩:=U5 w1 ok rm x;have g:=w1.Iq (u:=j);by_cases D:(b.a.nd x).kind=4
  .obtain⟨V,W,nQ,M⟩:=g.w.pa;obtain⟨K,O,U⟩:=ņ (x:=p) M rm.X9 (rm.X9.A8 ok.ok p);obtain⟨H,T⟩:=aJq (h:=h++d++j) (f:=307) (caps:=[.Cq [Pt bi 0]]) (q:=λk=>decide ((b.a.nd k).kind=4)) U (rm.X9.A8 ok.ok p) A5 (λk _ u=>by have E:=g.Iq (u:=u);obtain⟨K3,Y,S,y,_,_⟩:=U5 E ok rm k;refine⟨S,?_⟩;rw[Af,sY,aCB];simp only[BJ,y.Ad])
   have i:BZ cx 305 [K,.func (.func 307) [] [.Cq [Pt bi 0]]] (h++d++j) (.bool ((b.a.nd p).A8.any λk=>decide ((b.a.nd k).kind=4))) (h++d++j++H):=by rw[Af,sX,aCA,<-ï];simp only[BJ,T.Ad]
   have E:=g.Iq (u:=H);by_cases L:∃k∈(b.a.nd p).A8,(b.a.nd k).kind=4
   .have N:((b.a.nd p).A8.any λk=>decide ((b.a.nd k).kind=4))=true:=by simpa using L
    rw[N] at i;have z:b.a.Ey x p bf=b.a:=by unfold Ar.Ey;rw[Ae ⟨A,D,L⟩]
    refine⟨_,G,?_,E.self z,(w.C7.trans w1.C7).trans g.C7⟩;rw[Af,Sn,zH];simp only[abS,J.Ad,A,r2.Ad,D,g.l0,O.Ad,i.Ad]
   .have N:((b.a.nd p).A8.any λk=>decide ((b.a.nd k).kind=4))=false:=by rw[aSa];intro k hk;simpa using λe=>L ⟨k,hk,e⟩
    rw[N] at i;have z:b.a.Ey x p bf=b.a.FV p x bf:=by unfold Ar.Ey;rw[Ac (λh=>L h.2.2)]
    obtain⟨h',G',⟨s,y⟩,C,B⟩:=HC (h++d++j++H) ⟨d++j++H,AK⟩;refine⟨h',G',?_,by rw[z];exact C,B⟩;rw[Af,Sn,zH];simp only[abS,J.Ad,A,r2.Ad,D,g.l0,O.Ad,i.Ad,E.l0,y.Ad]
  .have z:b.a.Ey x p bf=b.a.FV p x bf:=by unfold Ar.Ey;rw[Ac (λh=>D h.2.1)]
   obtain⟨h',G',⟨s,y⟩,C,B⟩:=HC (h++d++j) ⟨d++j,AK⟩;refine⟨h',G',?_,by rw[z];exact C,B⟩;rw[Af,Sn,zH];simp only[abS,J.Ad,A,r2.Ad,D,g.l0,y.Ad]
 .have z:b.a.Ey x p bf=b.a.FV p x bf:=by unfold Ar.Ey;rw[Ac (λh=>A h.1)]
  obtain⟨h',G',⟨s,y⟩,C,B⟩:=HC (h++d) ⟨d,rfl⟩;refine⟨h',G',?_,by rw[z];exact C,B⟩;rw[Af,Sn,zH];simp only[abS,J.Ad,A,w1.l0,y.Ad]
def aJr(w:BX h bi a o c t G b)(ok:BA b)(rm:B9 b m)(p:Int):∃u,BZ cx 206 [Pt bi 0,I p] h (I (b.ID p)) (h++u):=by
 obtain⟨n,j,d,f,_,_⟩:=U5 w ok rm p;have w1:=w.Iq (u:=d);unfold BS.ID;by_cases hc:(b.a.nd p).cont=0
 .refine⟨d,?_⟩;rw[Ac (by simp[hc]),Af,cC,x_];simp only[abS,f.Ad,hc,Ca,CE,w1.l1];refine⟨λh1=>?_,λh1=>?_⟩;.rw[Ae h1]
  .rw[Ac h1]
 .obtain⟨k,i,e,r2,_,_⟩:=U5 w1 ok rm (b.a.nd p).cont;have g:=w1.Iq (u:=e);refine⟨d++e,?_⟩;rw[Ae hc,<-AJ,Af,cC,x_];simp only[abS,f.Ad,r2.Ad,hc,Ca,g.l1];refine⟨λh1=>?_,λh1=>?_⟩;.rw[Ae h1]
  .rw[Ac h1]
def Oo(nm:Aq)(av:Aa)(r:List Aa):Prop:=∃n k j i g f e d UL WB,r=[n,.str nm,k,j,i,g,f,e,av,d,UL,WB]
def M7:Aa.agg Item.zero.row= .agg [I 0,I 0,S [],ff]:=rfl
variable{nm:Aq}{av:Aa}{l:List A6}{r:List Aa}{sp p:Int}
def B9.len{k:Nat}(rm:B9 b k)(hk:3<=k):b.a.len+3<=1000000000:=by have:=rm.n;unfold Ar.len;omega
def nu(w:BX h bi a o c t G b)(ok:BA b)(rm:B9 b (m+3))(hr:Oo nm av r)(hv:Bz l av)(hl:D1 l)(hn:nm.length<=1000)(p sp:Int):
  ∃h' G',BZ cx 85 [Pt bi 0,.agg r,I sp,I p] h (.agg (b.Gw nm l sp).row) h'/\BX h' bi a o c t G' (b.EB nm l sp p)/\DE h (Bw bi G) h' (Bw bi G'):=by
 obtain⟨O,N,M,L,K,J,H,E,UL,WB,rfl⟩:=hr;by_cases hs:BS.HX sp
 .obtain⟨D,s,hu⟩:=aOH (h:=h) hv hl.1 sp;have w1:=w.Iq (u:=[.map (ft 11)]);obtain⟨j,r2⟩:=aJr w1 ok rm p;have g:=w1.Iq (u:=j);have hd:=P8 ok (p:=p);have i:∀y∈l.map (C3 sp),BS.HX y.A9:=by intro y hy;obtain⟨z,_,rfl⟩:=Bl.1 hy;exact bK
  obtain⟨h',G',⟨f,_⟩,C,A⟩:=g.step (A':=b.a.elem (b.ID p) sp (BS.IE sp nm) (l.map (C3 sp))) (R:=λh'=>BZ cx 205 [Pt a 0,I (b.ID p),I sp,.str (BS.IE sp nm),D] (h++[.map (ft 11)]++j) (.tuple [I (b.a.len+1),I 0]) h'/\True) (λn m ps B=>by obtain⟨h',n',m',Jt,r,wp,v,_⟩:=aJa B rm.X9 (rm.len Ab) hd hs hu (by rw[Al];have:=hl.1;omega) i (nm:=BS.IE sp nm);exact⟨h',n',m',Jt,⟨r,trivial⟩,wp,v⟩)
  have d:=f96 (h:=h') hu (λy hy=>by obtain⟨z,hz,rfl⟩:=Bl.1 hy;rw[Zt];have:=(hl.2 z hz).2;have:AX=140737488355328:=rfl;omega) (by rw[Al];have:=hl.1;omega) sp (BS.IE sp nm);have em:AB (.BF [I 0,I 0,S [],ff] [(0,1),(1,1),(2,1),(3,1)]) [I (b.a.len+1),I sp,.str (BS.IE sp nm),.bool (Fm sp (BS.IE sp nm) (l.map (C3 sp)))]=some (.agg (b.Gw nm l sp).row):=by rw[Zl];unfold BS.Gw;rw[Ae hs]
  refine⟨h',G',?_,by unfold BS.EB;rw[Ae hs];exact C,(w.C7.trans w1.C7).trans A⟩;have q:¬sp<0:=by have:=hs.1;omega
  have k:¬7<sp:=by have:=hs.2;omega
  have hlen:=λ(y:Item)=>@Item.CL y;rw[Af,nF,t85];by_cases h2:sp=2
  .have e:BS.IE sp nm=Cr nm IW:=by unfold BS.IE;rw[Ae h2]
   rw[e] at f d em;subst h2;simp only[abS,↓reduceIte,AR,Fc,(Ip w).Ad,q,k,Ec,s.Ad,DV,CE,(aNG nm).Bk rfl rfl,w1.l0,r2.Ad,g.l0,BO,f.Ad,Ca,d.Ad,em,hlen]
  .have e:BS.IE sp nm=nm:=by unfold BS.IE;rw[Ac h2]
   rw[e] at f d em;simp only[abS,↓reduceIte,AR,Fc,(Ip w).Ad,q,k,Ec,s.Ad,h2,w1.l0,r2.Ad,g.l0,BO,f.Ad,Ca,CE,d.Ad,em,hlen]
 .refine⟨h,G,?_,by unfold BS.EB;rw[Ac hs];exact w,.refl⟩;have e:b.Gw nm l sp=Item.zero:=by unfold BS.Gw;rw[Ac hs]
  rw[e,M7,Af,nF,t85];unfold BS.HX at hs;by_cases h1:sp<0;.simp only[abS,↓reduceIte,AR,(Ip w).Ad,h1,DV]
  .simp only[abS,↓reduceIte,AR,(Ip w).Ad,h1,Ec,(Ab:7<sp),DV]
def Bq{k:Nat}{v:Aa}:DE h (Bw bi G) (put h bi k v) (Bw bi G):=⟨by rw[Jy];exact Ag _,λi _ hn=>Cm λe=>hn (.inl e),λ_ h=> .inl h⟩
def BX.put{k:Nat}{v o' c' t':Aa}{b':BS}(w:BX h bi a o c t G b)(e:(Je a b o c t).set k v=Je a b' o' c' t')(ea:b'.a=b.a)(ho:B4 b'.AY o')(ht:YD b'.tm t'):BX (Am.put h bi k v) bi a o' c' t' G b':=
 ⟨by rw[Ig w.hb,e];exact AQ w.lt,ho,ht,by rw[ea];exact w.w.Dj λi hi=>Cm λe=>w.nb (e▸hi),w.nb⟩
def BX.IH{u:Aa}{l:List Item}(w:BX h bi a o c t G b)(hu:B4 l u):BX (Am.put h bi 2 u) bi a u c t G {b with AY:=l}:=w.put rfl rfl hu w.t
def BX.Lj{u:Aa}{l:List Cu}(w:BX h bi a o c t G b):BX (Am.put h bi 3 u) bi a o u t G {b with Bb:=l}:=w.put rfl rfl w.o w.t
def BX.st{k:Nat}{v v0:Aa}(w:BX h bi a o c t G b)(hk:(Je a b o c t)[k]?=some v0)(hv:v.cells=[v]):Cw h 1 (Pt bi k) v=some (Am.put h bi k v):=At.store (v:=v0) ⟨_,w.hb,hk⟩ hv
variable{nm:Aq}{av:Aa}{l:List A6}{r:List Aa}{sp p:Int}
def aOK(w:BX h bi a o c t G b)(ok:BA b)(rm:B9 b (m+4))(hr:Oo nm av r)(hv:Bz l av)(hl:D1 l)(hn:nm.length<=1000)(sp:Int):
  ∃h' o' G',BZ cx 169 [Pt bi 0,.func (.func 85) [Pt bi 0] [],.agg r,I sp] h (I (b.Pw sp)) h'/\BX h' bi a o' c t G' (b.Fa nm l sp)/\DE h (Bw bi G) h' (Bw bi G'):=by
 obtain⟨s,n⟩:=î w ok rm 0;have w1:=w.Iq (u:=s);obtain⟨h2,A,r2,k,i⟩:=nu (m:=m+1) w1 ok (rm.le Ab) hr hv hl hn (b.place 0).1 sp;have F0:=hr;obtain⟨L,K,J,H,E,D,C,B,UL,WB,rfl⟩:=hr;have ho:=rm.AY;by_cases hs:BS.HX sp
 .have nv:=ju (nm:=nm) (at_:=l) (p:=(b.place 0).1) ok hs;have Uk:=I1 (m:=m+1) (nm:=nm) (sp:=sp) (p:=(b.place 0).1) (rm.le Ab) hl;have XI:(b.Gw nm l sp).node=b.a.len+1:=by unfold BS.Gw;rw[Ae hs]
  have X4:¬(b.a.len+1=0):=by unfold Ar.len;omega
  have NS:(b.EB nm l sp (b.place 0).1).AY=b.AY:=by unfold BS.EB;rw[Ae hs]
  obtain⟨y,z,v,j,q⟩:=iR (x:=b.a.len+1) (p:=(b.place 0).1) (bf:=(b.place 0).2) k nv Uk;obtain⟨v4,d,f⟩:=f95 j.sO (by simp only[NS];omega) (b.Gw nm l sp);refine⟨Am.put y bi 2 v4,v4,z,?_,?_,((w.C7.trans i).trans q).trans Bq⟩
  .have g:b.Pw sp=b.a.len+1:=by unfold BS.Pw;rw[Ae hs]
   rw[Af,bX,xt,g];simp only[abS,Nat.reduceAdd,↓reduceIte,DC,Fc,n.Ad,(A5:(85:Nat)<=99999),r2.Ad,XI,X4,Ca,v.Ad];have e:=@Item.Pn (b.Gw nm l sp);rw[XI] at e;rw[<-e] at d;simp only[e] at d⊢;simp only[d.Ad,BJ]
  .have:=j.IH f;unfold BS.Fa;rw[Ae hs];exact this
 .refine⟨h2,o,A,?_,?_,w.C7.trans i⟩
  .have e:b.Gw nm l sp=Item.zero:=by unfold BS.Gw;rw[Ac hs]
   have g:b.Pw sp=0:=by unfold BS.Pw;rw[Ac hs]
   rw[e,M7] at r2;rw[Af,bX,xt,g];simp only[abS,Nat.reduceAdd,↓reduceIte,DC,Fc,n.Ad,(A5:(85:Nat)<=99999),r2.Ad,Ca,CE]
  .have:b.Fa nm l sp=b.EB nm l sp (b.place 0).1:=by unfold BS.Fa BS.EB;rw[Ac hs,Ac hs]
   rw[this];exact k
def aJs(w:BX h bi a o c t G b)(ok:BA b)(rm:B9 b (m+4))(hr:Oo nm av r)(hv:Bz l av)(hl:D1 l)(hn:nm.length<=1000)(sp:Int):
  ∃h' o' G',BZ cx 67 [Pt bi 0,.agg r,I sp] h (I (b.Pw sp)) h'/\BX h' bi a o' c t G' (b.Fa nm l sp)/\DE h (Bw bi G) h' (Bw bi G'):=by
 obtain⟨h',o',G',d,w',x'⟩:=aOK w ok rm hr hv hl hn sp;refine⟨h',o',G',?_,w',x'⟩;obtain⟨q,n,k,j,i,g,f,e,UL,WB,rfl⟩:=hr;rw[Af,kj,t67];simp only[abS,(Ip w).Ad,d.Ad]
def ð(w:BX h bi a o c t G b)(ok:BA b)(rm:B9 b (m+4))(hr:Oo nm av r)(hv:Bz l av)(hl:D1 l)(hn:nm.length<=1000):
  ∃h' o' G',BZ cx 65 [Pt bi 0,.agg r] h (I (b.a.len+1)) h'/\BX h' bi a o' c t G' (b.Fa nm l 1)/\DE h (Bw bi G) h' (Bw bi G'):=by
 obtain⟨h',o',G',d,w',x'⟩:=aJs w ok rm hr hv hl hn 1;refine⟨h',o',G',?_,w',x'⟩;have e:b.Pw 1=b.a.len+1:=by unfold BS.Pw;rw[Ae JQ]
 rw[e] at d;obtain⟨s,q,n,k,j,i,g,f,UL,WB,rfl⟩:=hr;rw[Af,ki,t65];simp only[BJ,d.Ad]
end
def B7(l:List Cu)(v:Aa):Prop:=∃fs:List Cl,fs.map (·.c)=l/\Dl fs v
def Ul{U Z:Type}{f:U->Z}{q:Z->Bool}{l:List U}:AP q (l.map f)=AP (λx=>q (f x)) l:=by unfold AP;rw[<-SM,List.findIdx?_map,Al];rfl
def nW{U Z:Type}{f:U->Z}{l:List U}{k:Nat}:(Bf l k).map f=Bf (l.map f) k:=by unfold Bf;simp
def ñ{fs:List Cl}:since fs=mS (fs.map (·.c)):=by unfold since mS;rw[Ul];rfl
def XJ{n:Int}{fs:List Cl}:Hu n fs=Fh n (fs.map (·.c)):=by unfold Hu Fh;rw[Ul];rfl
def vR{nm:Aq}{fs:List Cl}:NA nm fs=GD nm (fs.map (·.c)):=by
 unfold NA GD;rw[<-SM];generalize fs.reverse=r;induction r with
 |nil=>rfl
 |cons x r ih=>simp only[Bs,qO,Pv,ih,Al]
def aJt{e:Cu}{fs:List Cl}:R7 e fs=qT e (fs.map (·.c)).reverse:=by
 unfold R7;rw[<-SM];generalize fs.reverse=r;induction r with
 |nil=>rfl
 |cons x r ih=>simp only[Bs,ur,qT,ih]
def aJu{e:Cu}{fs:List Cl}:NB e fs=gW e (fs.map (·.c)).reverse:=by
 unfold NB;rw[<-SM];generalize fs.reverse=r;induction r with
 |nil=>rfl
 |cons x r ih=>simp only[Bs,mO,gW,ih,Al]
def iS{e:Cu}{d:Cl}{fs:List Cl}(he:d.c=e):(Lx e fs++[d]).map (·.c)=gX e (fs.map (·.c)):=by
 unfold Lx gX;rw[aJt,aJu,BL,aQe,he];split;.rw[nW]
 .rfl
def VB{fs:List Cl}:(fs.take (EU fs)).map (·.c)=Gv (fs.map (·.c)):=by unfold Gv EU;rw[Ge,ñ]
def vS{l:List Cu}{fs:List Cl}(e:fs.map (·.c)=l)(h:∀x∈l,x.AA.length<=1000):∀x∈fs,Yx x:=by intro x hx;have:=h x.c (by rw[<-e];exact Bl.2 ⟨x,hx,rfl⟩);unfold Yx;omega
section
variable{h h':Ah}{bi a:Nat}{o c t:Aa}{G G' F:Nat->Prop}{b:BS}{x:Int}{m:Nat}
variable{nm:Aq}{av:Aa}{l:List A6}{r:List Aa}{sp p:Int}
def aOL(w:BX h bi a o c t G b)(hc:B7 b.Bb c)(ok:Ez b)(rm:B9 b (m+5))(hr:Oo nm av r)(hv:Bz l av)(hl:D1 l)(hn:nm.length<=1000):
  ∃h' o' c' G',BZ cx 68 [Pt bi 0,.agg r] h (I (b.a.len+1)) h'/\BX h' bi a o' c' t G' (b.Kh nm l)/\B7 (b.Kh nm l).Bb c'/\DE h (Bw bi G) h' (Bw bi G'):=by
 obtain⟨h1,j,k,i,w1,g⟩:=ð (m:=m+1) w ok (rm.le Ab) hr hv hl hn;obtain⟨fs,d,hf⟩:=hc;have ha:=rm.Bb;have Hn:fs.length=b.Bb.length:=by rw[<-d,Al]
 obtain⟨u,n,Qf,r2,hu⟩:=f30 (h:=h1) (id:=bi) (o:=3) (l:=fs) ⟨c,w1.vP,hf⟩ Ab (vS d λx hx=>((rm.DD x hx).2).1) (e:=⟨⟨b.a.len+1,nm,l⟩,av,hv⟩) (by unfold Yx;have:=hl.1;simp only;omega);refine⟨_,j,u,k,?_,w1.Lj (u:=u),?_,g.trans Bq⟩
 .obtain⟨C,B,A,z,y,v,s,q,UL,WB,rfl⟩:=hr;have X4:¬(b.a.len+1=0):=by unfold Ar.len;omega
  have f:BZ cx 170 [Pt bi 3,.agg [I (b.a.len+1),.str nm,av]] h1 (.tuple []) (put h1 bi 3 u):=r2;have X2:av.cells=[av]:=AV.cells hv;rw[Af,kq,t68];simp only[abS,Nat.reduceLeDiff,↓reduceIte,AR,i.Ad,X4,Ca,X2,f.Ad]
 .refine⟨_,?_,hu⟩;rw[iS Qf,d];unfold BS.Kh;simp only;rw[Gx]
end
def aJv:∀x:Fin 64,(BitVec.ofInt 8 192|||BitVec.ofInt 8 (x.val:Int)).toNat=192+x.val:=A5
def aJw:∀x:Fin 32,(BitVec.ofInt 8 224|||BitVec.ofInt 8 (x.val:Int)).toNat=224+x.val:=A5
def aJx:∀x:Fin 16,(BitVec.ofInt 8 240|||BitVec.ofInt 8 (x.val:Int)).toNat=240+x.val:=A5
def aJy:∀x:Fin 64,(BitVec.ofInt 8 128|||BitVec.ofInt 8 (x.val:Int)).toNat=128+x.val:=A5
def aJz:∀x:Fin 256,(BitVec.ofInt 8 (x.val:Int)&&& BitVec.ofInt 8 63).toNat=x.val%64:=A5
def vT{a b:Int}:AB (.int .or) [.int .u8 a,.int .u8 b]=some (.int .u8 (IntKind.u8.wrap (BitVec.ofInt 8 a|||BitVec.ofInt 8 b).toNat)):=rfl
def aDN{a b:Int}:AB (.int .and) [.int .u8 a,.int .u8 b]=some (.int .u8 (IntKind.u8.wrap (BitVec.ofInt 8 a&&& BitVec.ofInt 8 b).toNat)):=rfl
def ny{x:Nat}(h:x<64):AB (.int .or) [.int .u8 192,.int .u8 (x:Int)]=some (.int .u8 ((192+x:Nat):Int)):=by rw[vT,aJv ⟨x,h⟩,IntKind.wrap_u8];congr 2;simp only;omega
def iT{x:Nat}(h:x<32):AB (.int .or) [.int .u8 224,.int .u8 (x:Int)]=some (.int .u8 ((224+x:Nat):Int)):=by rw[vT,aJw ⟨x,h⟩,IntKind.wrap_u8];congr 2;simp only;omega
def nz{x:Nat}(h:x<16):AB (.int .or) [.int .u8 240,.int .u8 (x:Int)]=some (.int .u8 ((240+x:Nat):Int)):=by rw[vT,aJx ⟨x,h⟩,IntKind.wrap_u8];congr 2;simp only;omega
def Lk{x:Nat}(h:x<64):AB (.int .or) [.int .u8 128,.int .u8 (x:Int)]=some (.int .u8 ((128+x:Nat):Int)):=by rw[vT,aJy ⟨x,h⟩,IntKind.wrap_u8];congr 2;simp only;omega
def Ll{x:Nat}(h:x<256):AB (.int .and) [.int .u8 (x:Int),.int .u8 63]=some (.int .u8 ((x%64:Nat):Int)):=by rw[aDN,aJz ⟨x,h⟩,IntKind.wrap_u8];congr 2;simp only;omega
def VC{n:Nat}:AB (.int .shr) [.int .i32 (n:Int),.int .u64 6]=some (.int .i32 ((n/64:Nat):Int)):=by rw[show AB (.int .shr) [.int .i32 (n:Int),.int .u64 6]=some (.int .i32 ((n:Int).fdiv 64)) from rfl,PJ _ Ab];rfl
def XK{n:Nat}:AB (.int .shr) [.int .i32 (n:Int),.int .u64 12]=some (.int .i32 ((n/4096:Nat):Int)):=by rw[show AB (.int .shr) [.int .i32 (n:Int),.int .u64 12]=some (.int .i32 ((n:Int).fdiv 4096)) from rfl,PJ _ Ab];rfl
def n_{n:Nat}:AB (.int .shr) [.int .i32 (n:Int),.int .u64 18]=some (.int .i32 ((n/262144:Nat):Int)):=by rw[show AB (.int .shr) [.int .i32 (n:Int),.int .u64 18]=some (.int .i32 ((n:Int).fdiv 262144)) from rfl,PJ _ Ab];rfl
def Tr{k:IntKind}{n:Nat}:AB (.conv .u8) [.int k (n:Int)]=some (.int .u8 ((n%256:Nat):Int)):=by rw[RU,IntKind.wrap_u8];congr 2
def cT{n:Int}:AB (.conv .u32) [.int .i32 n]=some (.int .u32 (n%4294967296)):=by rw[RU,IntKind.wrap_u32]
def Zy{n:Nat}(h:n<256):((UInt8.ofNat n).toNat:Int)=(n:Int):=by rw[UInt8.toNat_ofNat'];congr 1;omega
def qq(b:UInt8):Aa:= .int .u8 (b.toNat:Int)
def KK{h:Ah}{bs:Aq}(hb:bs≠[])(hl:bs.length<=8):F9 h 1 1 .slnil (.sl 1 (Cg bs))=some (h++[.cells (bs.map qq)],.CD h.length 0 bs.length 1):=by
 have Hn:∀bs:Aq,(Cg bs).flatten=bs.map qq:=by
  intro bs;induction bs with
  |nil=>rfl
  |cons c bs ih=>show[qq c]++(Cg bs).flatten=_;rw[ih];rfl
 cases bs with
 |nil=>exact absurd rfl hb
 |cons c bs=>
  have hm:AX=140737488355328:=rfl;have hlen:(Cg (c::bs)).length=(c::bs).length:=by simp[Cg]
  have e:Cg (c::bs)=[.int .u8 c.toNat]::Cg bs:=rfl;have a:GX h 1 (.sl 1 (Cg (c::bs)))=some (Cg (c::bs)):=by simp[GX]
  unfold F9;rw[a,e];simp only
  rw[<-e,Ae (by rw[hlen];omega),Hn,hlen]
def aOM{h:Ah}(r:Int)(hr: -2147483648<=r/\r<=2147483647):BZ cx 174 [.slnil,.int .i32 r] h (.CD h.length 0 (HJ r).length 1) (h++[.cells ((HJ r).map qq)]):=by
 have one:∀{a:Nat} (h1:a<256),AB (.BI 1) [.int .u8 (a:Int)]=some (.sl 1 (Cg [UInt8.ofNat a])):=by intro a h1;simp only[Cg,Bs,Df,Zy h1];rfl
 have eI:∀{a b:Nat} (h1:a<256) (h2:b<256),AB (.BI 1) [.int .u8 (a:Int),.int .u8 (b:Int)]=some (.sl 1 (Cg [UInt8.ofNat a,UInt8.ofNat b])):=by intro a b h1 h2;simp only[Cg,Bs,Df,Zy h1,Zy h2];rfl
 have TM:∀{a b c:Nat} (h1:a<256) (h2:b<256) (d:c<256),AB (.BI 1) [.int .u8 (a:Int),.int .u8 (b:Int),.int .u8 (c:Int)]=some (.sl 1 (Cg [UInt8.ofNat a,UInt8.ofNat b,UInt8.ofNat c])):=by intro a b c h1 h2 d;simp only[Cg,Bs,Df,Zy h1,Zy h2,Zy d];rfl
 have four:∀{a b c f:Nat} (h1:a<256) (h2:b<256) (d:c<256) (i:f<256),AB (.BI 1) [.int .u8 (a:Int),.int .u8 (b:Int),.int .u8 (c:Int),.int .u8 (f:Int)]=some (.sl 1 (Cg [UInt8.ofNat a,UInt8.ofNat b,UInt8.ofNat c,UInt8.ofNat f])):=by intro a b c f h1 h2 d i;simp only[Cg,Bs,Df,Zy h1,Zy h2,Zy d,Zy i];rfl
 have Ű:AB (.BI 1) [.int .u8 239,.int .u8 191,.int .u8 189]=some (.sl 1 (Cg [239,191,189])):=rfl;rw[Af,rJ,aBY];simp only[BJ,cT];by_cases h0:0<=r
 .obtain⟨n,rfl⟩:=IM h0;have em:(n:Int)%4294967296=(n:Int):=Ab;rw[em];by_cases q:n<128
  .have e:HJ (n:Int)=[UInt8.ofNat n]:=by unfold HJ;rw[Ae Ab];rfl
   have j:n%256=n:=Ab;rw[e];simp only[BJ,gC,(Ab:(n:Int)<=127),Tr,j,one (Ab:n<256),KK (bs:=[UInt8.ofNat n]) AK AK]
  .have aDO:BZ cx 321 [.slnil,.int .i32 (n:Int)] h (.CD h.length 0 (HJ (n:Int)).length 1) (h++[.cells ((HJ (n:Int)).map qq)]):=by
    rw[Af,cG,U_];simp only[BJ,cT,em];by_cases p:n<2048
    .have e:HJ (n:Int)=[UInt8.ofNat (192+n/64),UInt8.ofNat (128+n%64)]:=by unfold HJ;rw[Ac Ab,Ae Ab];rfl
     rw[e];have a1:n/64%256=n/64:=Ab;have a2:n%256%64=n%64:=Ab;simp only[BJ,gC,(Ab:(n:Int)<=2047),VC,Tr,a1,ny (Ab:n/64<64),Ll (Ab:n%256<256),a2,Lk (Ab:n%64<64),eI (Ab:192+n/64<256) (Ab:128+n%64<256),KK (bs:=[UInt8.ofNat (192+n/64),UInt8.ofNat (128+n%64)]) AK AK]
    .by_cases o:n<65536/\¬(55296<=n/\n<57344)
     .have e:HJ (n:Int)=[UInt8.ofNat (224+n/4096),UInt8.ofNat (128+n/64%64),UInt8.ofNat (128+n%64)]:=by unfold HJ;rw[Ac Ab,Ac Ab,Ae Ab];rfl
      rw[e];have a1:n/4096%256=n/4096:=Ab;have a2:n/64%256%64=n/64%64:=Ab;have a3:n%256%64=n%64:=Ab;have g:=KK (h:=h) (bs:=[UInt8.ofNat (224+n/4096),UInt8.ofNat (128+n/64%64),UInt8.ofNat (128+n%64)]) AK AK;have t3:=TM (Ab:224+n/4096<256) (Ab:128+n/64%64<256) (Ab:128+n%64<256);by_cases m:n<55296;.simp only[abS,(Ab:¬(n:Int)<=2047),(Ab:(n:Int)<55296),VC,XK,Tr,a1,iT (Ab:n/4096<32),Ll (Ab:n/64%256<256),a2,Lk (Ab:n/64%64<64),Ll (Ab:n%256<256),a3,Lk (Ab:n%64<64),t3,g]
      .simp only[abS,(Ab:¬(n:Int)<=2047),(Ab:¬(n:Int)<55296),(Ab:(57343:Int)<n),(Ab:(n:Int)<=65535),VC,XK,Tr,a1,iT (Ab:n/4096<32),Ll (Ab:n/64%256<256),a2,Lk (Ab:n/64%64<64),Ll (Ab:n%256<256),a3,Lk (Ab:n%64<64),t3,g]
     .by_cases l:65536<=n/\n<=1114111
      .have e:HJ (n:Int)=[UInt8.ofNat (240+n/262144),UInt8.ofNat (128+n/4096%64),UInt8.ofNat (128+n/64%64),UInt8.ofNat (128+n%64)]:=by unfold HJ;rw[Ac Ab,Ac Ab,Ac Ab,Ae Ab];rfl
       rw[e];have a0:n/262144%256=n/262144:=Ab;have a1:n/4096%256%64=n/4096%64:=Ab;have a2:n/64%256%64=n/64%64:=Ab;have a3:n%256%64=n%64:=Ab;have g:=KK (h:=h) (bs:=[UInt8.ofNat (240+n/262144),UInt8.ofNat (128+n/4096%64),UInt8.ofNat (128+n/64%64),UInt8.ofNat (128+n%64)]) AK AK;have t4:=four (Ab:240+n/262144<256) (Ab:128+n/4096%64<256) (Ab:128+n/64%64<256) (Ab:128+n%64<256);simp only[abS,(Ab:¬(n:Int)<=2047),(Ab:¬(n:Int)<55296),(Ab:(57343:Int)<n),(Ab:¬(n:Int)<=65535),(Ab:(65535:Int)<n),(Ab:(n:Int)<=1114111),VC,XK,n_,Tr,a0,nz (Ab:n/262144<16),Ll (Ab:n/4096%256<256),a1,Lk (Ab:n/4096%64<64),Ll (Ab:n/64%256<256),a2,Lk (Ab:n/64%64<64),Ll (Ab:n%256<256),a3,Lk (Ab:n%64<64),t4,g]
      .have e:HJ (n:Int)=[239,191,189]:=by unfold HJ;rw[Ac Ab,Ac Ab,Ac Ab,Ac Ab]
       rw[e];have g:=KK (h:=h) (bs:=[239,191,189]) AK AK;by_cases k:n<65536;.simp only[abS,(Ab:¬(n:Int)<=2047),(Ab:¬(n:Int)<55296),(Ab:¬(57343:Int)<n),(Ab:¬(65535:Int)<n),Ű,g]
       .simp only[abS,(Ab:¬(n:Int)<=2047),(Ab:¬(n:Int)<55296),(Ab:(57343:Int)<n),(Ab:¬(n:Int)<=65535),(Ab:(65535:Int)<n),(Ab:¬(n:Int)<=1114111),Ű,g]
   simp only[abS,(Ab:¬(n:Int)<=127),aDO.Ad]
 .have e:HJ r=[239,191,189]:=by unfold HJ;rw[Ac Ab,Ac Ab,Ac Ab,Ac Ab]
  have g:=KK (h:=h) (bs:=[239,191,189]) AK AK;have aDO:BZ cx 321 [.slnil,.int .i32 r] h (.CD h.length 0 (HJ r).length 1) (h++[.cells ((HJ r).map qq)]):=by rw[e,Af,cG,U_];simp only[abS,cT,(Ab:¬(r%4294967296)<=2047),(Ab:¬(r%4294967296)<55296),(Ab:(57343:Int)<r%4294967296),(Ab:¬(r%4294967296)<=65535),(Ab:(65535:Int)<r%4294967296),(Ab:¬(r%4294967296)<=1114111),Ű,g]
  simp only[abS,(Ab:¬(r%4294967296)<=127),aDO.Ad]
def Ss(r:Int):(HJ r).length<=4:=by unfold HJ;split<;>(try split)<;>(try split)<;>(try split)<;>simp
def iU{l:List Int}{bf:Int}(hb:bf≠0->bf∈l):∃i,i<=l.length/\(bf=0->i=l.length)/\(bf≠0->Co (λy=>decide (bf=y)) 0 l=(i:Int))/\Tk l bf=if i=0 then none else l[i-1]?:=by
 by_cases h0:bf=0
 .refine⟨l.length,Ag _,λ_=>rfl,λh=>absurd h0 h,?_⟩;unfold Tk;rw[Ae h0,KA];split;.rename_i h;rw[D9 Ab]
  .rfl
 .obtain⟨k,j,e,g,d,f⟩:=cS (hb h0);refine⟨k,Ab,λh=>absurd h h0,λ_=>e,?_⟩;unfold Tk;rw[Ac h0,d,KA,As,Cs Ab];split;.rename_i h;subst h;simp
  .rw[Cj];rw[Ae Ab]
def cU{s u:Aq}(h:s.length+u.length<=2000000000):AB (.str .add) [.str s,.str u]=some (.str (s++u)):=by have:s.length+u.length<=9223372036854775807:=Ab;simp[AB,dW,this]
def Zz:∀s:Aq,(Cg s).flatten=s.map qq
 |[]=>rfl
 |c::s=>by show[qq c]++(Cg s).flatten=_;rw[Zz s];rfl
section
variable{h h':Ah}{bi a:Nat}{o c t:Aa}{G G' F:Nat->Prop}{b:BS}{x:Int}{m:Nat}
variable{nm:Aq}{av:Aa}{l:List A6}{r:List Aa}{sp p:Int}
def cV{k d:Int}{s:Aq}(ok:Ez b)(rm:B9 b (m+1))(hk:k=5\/k=6)(hd:b.a.has d/\(b.a.nd d).kind=1)(hs:s.length<=100000):Ez {b with a:=b.a.add {kind:=k,CM:=d,data:=s}}/\B9 {b with a:=b.a.add {kind:=k,CM:=d,data:=s}} m:=
 ⟨ok.Ku (bJ ok.ok (by unfold Ar.len;omega) hd hk) mT,rm.FN (k:=1) (NH (AU _) hs)⟩
def aJA(w:BX h bi a o c t G b)(ok:Ez b)(rm:B9 b (m+5))(r:Int)(hr: -2147483648<=r/\r<=2147483647):
  ∃h' G',BZ cx 69 [Pt bi 0,.int .i32 r] h (.tuple []) h'/\BX h' bi a o c t G' (b.Sg r)/\DE h (Bw bi G) h' (Bw bi G'):=by
 obtain⟨f,D⟩:=î w ok rm 0;obtain⟨hp,hbf⟩:=Xl ok (t:=0) (.inl rfl);have w1:=w.Iq (u:=f);unfold BS.Sg;generalize(b.place 0).1=p at*;generalize(b.place 0).2=bf at*;obtain⟨K,V,d,r2,X,_⟩:=U5 w1 ok rm p;have Z:=w1.Iq (u:=d);have x2:DE h (Bw bi G) (h++f++d) (Bw bi G):=w.C7.trans w1.C7;unfold BS.Ly;by_cases hk:(b.a.nd p).kind=4\/(b.a.nd p).kind=2;rotate_left
 .refine⟨_,G,?_,?_,x2⟩;.have k4:¬(b.a.nd p).kind=4:=λe=>hk (.inl e);have k2:¬(b.a.nd p).kind=2:=λe=>hk (.inr e);rw[Af,Xr,t69];simp only[abS,(Ip w).Ad,D.Ad,r2.Ad,Ca,k4,k2]
  .rw[Ac hk];exact Z
 rw[Ae hk];obtain⟨i,hi,nO,UM,hpv⟩:=iU (l:=(b.a.nd p).A8) (bf:=bf) (λh=>by have:=hbf h;have h2:=(ok.ok.FM bf this.1 (by rw[this.2];have:=hp.1;omega)).2;rwa [this.2] at h2);rw[hpv];have PQ:=rm.X9.A8 ok.ok p;have H:=aDH (h:=h++f++d) (x:=bf) X.Re PQ;have g:=aOM (h:=h++f++d) r hr;have dQ:=Ss r;generalize hs:HJ r=s at*;have f3:Kq (h++f++d++[.cells (s.map qq)]) (.CD (h++f++d).length 0 s.length 1)=some (h++f++d++[.CT],.sl 1 (Cg s)):=by have Hn:=Zz s;have:=JU (h:=h++f++d++[.cells (s.map qq)]) (id:=(h++f++d).length) (z:=1) (Az:=Cg s) (by intro q hq;obtain⟨y,_,rfl⟩:=Bl.1 hq;rfl) (by rw[Hn];simp);rw[show(Cg s).length=s.length by simp[Cg]] at this;rw[this];congr 2;rw[BP _ _ (Ag _),C9];rfl
 have b3:AB .Ux [.sl 1 (Cg s)]=some (.str s):=by simp[AB,VG,Q4]
 have A:=Z.Iq (u:=[.CT]);have x3:DE h (Bw bi G) (h++f++d++[.CT]) (Bw bi G):=x2.trans Z.C7;have cW:=ok.ok.CM p hp;have new:∀h3,(∃u,h3=h++f++d++[.CT]++u)->∃h' J G',BZ cx 176 [Pt a 0,I (b.a.nd p).CM,.str s] h3 (.tuple [I (b.a.len+1),I 0]) J/\BZ cx 159 [Pt bi 0,I (b.a.len+1),I p,I bf] J (.tuple []) h'/\BX h' bi a o c t G' {b with a:=(b.a.add {kind:=5,CM:=(b.a.nd p).CM,data:=s}).Ey (b.a.len+1) p bf}/\DE h (Bw bi G) h' (Bw bi G'):=by
  rintro _ ⟨u,rfl⟩;have w4:=A.Iq (u:=u);obtain⟨J,G4,⟨C,_⟩,w5,x5⟩:=w4.step (A':=b.a.add (Mn 5 (b.a.nd p).CM s).x) (R:=λh'=>BZ cx 176 [Pt a 0,I (b.a.nd p).CM,.str s] (h++f++d++[.CT]++u) (.tuple [I (b.a.len+1),I 0]) h'/\True) (λn m ps S=>by obtain⟨h',r,wp,o1,l1⟩:=aOq (s:=s) S rm.X9 (by have:=rm.n;unfold Ar.len;omega) cW;exact⟨h',_,_,_,⟨r,trivial⟩,wp,S.Sq rfl o1 l1⟩)
  obtain⟨ok5,rm5⟩:=cV (m:=m) (k:=5) (s:=s) ok (rm.le Ab) (.inl rfl) cW Ab;obtain⟨h',G',B,N,L⟩:=iR (x:=b.a.len+1) (p:=p) (bf:=bf) w5 ok5.ba rm5;exact⟨h',J,G',C,B,N,(x3.trans A.C7).trans (x5.trans L)⟩
 have kl:=(X.Re (h:=h++f++d)).len;have OC:i<=1000000000:=Ab;by_cases hz:i=0
 .subst hz;obtain⟨h',J,G',C,B,N,L⟩:=new (h++f++d++[.CT]) ⟨[],AK⟩;simp only[↓reduceIte];refine⟨h',G',?_,N,L⟩;rw[Af,Xr,t69];rcases hk with hk|hk<;>by_cases h0:bf=0
  all_goals first|(rw[<-nO h0] at kl;simp only[abS,(Ip w).Ad,D.Ad,r2.Ad,hk,Ca,CE,(A5:¬(2:Int)=4),kl,A0 h0,g.Ad,f3,b3,(A5:¬(0:Int)<((0:Nat):Int)),A.l0,C.Ad,CE,B.Ad];done)|(rw[UM h0] at H;simp only[abS,(Ip w).Ad,D.Ad,r2.Ad,hk,Ca,CE,(A5:¬(2:Int)=4),kl,h0,g.Ad,f3,b3,(A5:¬(0:Int)<((0:Nat):Int)),A.l0,C.Ad,CE,B.Ad,H.Ad])
 .obtain⟨j,rfl⟩:∃j,i=j+1:=⟨i-1,Ab⟩;have hj:j<(b.a.nd p).A8.length:=Ab;rw[Ac hz,Fb,Ai hj];simp only
  have ht:=ok.ok.MO p hp _ (AN hj);obtain⟨q,Q,Y⟩:=(X.Re (h:=h++f++d++[.CT])).at_ j hj;obtain⟨K7,V7,T,W,_,_⟩:=U5 A ok rm (b.a.nd p).A8[j];have M:=A.Iq (u:=T);obtain⟨q',P,O⟩:=(X.Re (h:=h++f++d++[.CT]++T)).at_ j hj;rw[Q,BE] at P;subst P;have U:AB (.int .sub) [I ((j+1:Nat):Int),I 1]=some (I (j:Int)):=by have:=If (n:=j+1) Ab Ab;simpa using this
  generalize hte:(b.a.nd p).A8[j]=v at*;by_cases E:(b.a.nd v).kind=5
  .rw[Ae E];have jR:=rm.data v;obtain⟨h8,G8,⟨r8,_⟩,w8,x8⟩:=M.step (A':=b.a.Sf v ((b.a.nd v).data++s)) (R:=λh'=>BZ cx 175 [Pt a 0,I v,.str ((b.a.nd v).data++s)] (h++f++d++[.CT]++T) (I 0) h'/\True) (λn m ps S=>by obtain⟨h',Jt,r,wp,xp⟩:=aOr (s:=(b.a.nd v).data++s) S rm.X9 ht.1 E;exact⟨h',n,m,Jt,⟨r,trivial⟩,wp,xp⟩)
   refine⟨h8,G8,?_,w8,(x3.trans A.C7).trans x8⟩;rw[Af,Xr,t69];rcases hk with hk|hk<;>by_cases h0:bf=0
   all_goals first|(rw[<-nO h0] at kl;simp only[abS,(Ip w).Ad,D.Ad,r2.Ad,hk,Ca,CE,(A5:¬(2:Int)=4),kl,A0 h0,g.Ad,f3,b3,(Ab:(0:Int)<((j+1:Nat):Int)),U,Q,Y,W.Ad,E,M.l0,O,cU (Ab:(b.a.nd v).data.length+s.length<=2000000000),CE,r8.Ad];done)|(rw[UM h0] at H;simp only[abS,(Ip w).Ad,D.Ad,r2.Ad,hk,Ca,CE,(A5:¬(2:Int)=4),kl,h0,g.Ad,f3,b3,(Ab:(0:Int)<((j+1:Nat):Int)),U,Q,Y,W.Ad,E,M.l0,O,cU (Ab:(b.a.nd v).data.length+s.length<=2000000000),CE,r8.Ad,H.Ad])
  .rw[Ac E];obtain⟨h',J,G',C,B,N,L⟩:=new _ ⟨T,rfl⟩;refine⟨h',G',?_,N,L⟩;rw[Af,Xr,t69];rcases hk with hk|hk<;>by_cases h0:bf=0
   all_goals first|(rw[<-nO h0] at kl;simp only[abS,(Ip w).Ad,D.Ad,r2.Ad,hk,Ca,CE,(A5:¬(2:Int)=4),kl,A0 h0,g.Ad,f3,b3,(Ab:(0:Int)<((j+1:Nat):Int)),U,Q,Y,W.Ad,E,M.l0,C.Ad,CE,B.Ad];done)|(rw[UM h0] at H;simp only[abS,(Ip w).Ad,D.Ad,r2.Ad,hk,Ca,CE,(A5:¬(2:Int)=4),kl,h0,g.Ad,f3,b3,(Ab:(0:Int)<((j+1:Nat):Int)),U,Q,Y,W.Ad,E,M.l0,C.Ad,CE,B.Ad,H.Ad])
def Mo{s:Aq}{p bf x:Int}{h0 h1:Ah}(hstart:(¬x=0/\p=x/\bf=0/\h1=h0)\/(x=0/\BZ cx 171 [Pt bi 0,I 0] h0 (.tuple [I p,I bf]) h1))
  (w0:BX h0 bi a o c t G b) (i:DE h0 (Bw bi G) h1 (Bw bi G)) (w:BX h1 bi a o c t G b) (ok:Ez b) (rm:B9 b (m+1)) (hs:s.length<=100000):
  ∃h' G',BZ cx 70 [Pt bi 0,.str s,I x] h0 (.tuple []) h'/\BX h' bi a o c t G' {b with a:=BS.E3 b.a s p bf}/\DE h0 (Bw bi G) h' (Bw bi G'):=by
 obtain⟨K,V,q,r2,L,_⟩:=U5 w ok rm p;have d:=w.Iq (u:=q);unfold BS.E3;by_cases hk:Ld (b.a.nd p).kind
 .rw[Ae hk];have hp:b.a.has p:=by
   by_cases hp:b.a.has p;.exact hp
   .rw[HF hp] at hk;unfold Ld at hk;simp at hk
  have cW:=ok.ok.CM p hp;obtain⟨M,N,⟨y,_⟩,H,D⟩:=d.step (A':=b.a.add (Mn 6 (b.a.nd p).CM s).x) (R:=λh'=>BZ cx 177 [Pt a 0,I (b.a.nd p).CM,.str s] (h1++q) (.tuple [I (b.a.len+1),I 0]) h'/\True) (λn m ps j=>by obtain⟨h',r,wp,J,l1⟩:=aI1 (s:=s) j rm.X9 (by have:=rm.n;unfold Ar.len;omega) cW;exact⟨h',_,_,_,⟨r,trivial⟩,wp,j.Sq rfl J l1⟩)
  obtain⟨g,e⟩:=cV (m:=m) (k:=6) (s:=s) ok rm (.inr rfl) cW hs;obtain⟨h',G',v,E,C⟩:=iR (x:=b.a.len+1) (p:=p) (bf:=bf) H g.ba e;refine⟨h',G',?_,E,(i.trans w.C7).trans (D.trans C)⟩;rw[Af,nB,t70];rcases hstart with⟨hx,rfl,rfl,rfl⟩|⟨hx,f⟩
  .rcases hk with hk|hk|hk<;>simp only[abS,(Ip w0).Ad,r2.Ad,hk,Ca,CE,(A5:¬(2:Int)=1),(A5:¬(4:Int)=1),(A5:¬(4:Int)=2),d.l0,y.Ad,v.Ad,hx]
  .rcases hk with hk|hk|hk<;>simp only[abS,(Ip w0).Ad,r2.Ad,hk,Ca,CE,(A5:¬(2:Int)=1),(A5:¬(4:Int)=1),(A5:¬(4:Int)=2),d.l0,y.Ad,v.Ad,A0 hx,f.Ad]
 .rw[Ac hk];refine⟨_,G,?_,d,i.trans w.C7⟩;unfold Ld at hk;have B:¬(b.a.nd p).kind=1:=Ab;have A:¬(b.a.nd p).kind=2:=Ab;have z:¬(b.a.nd p).kind=4:=Ab;rw[Af,nB,t70];rcases hstart with⟨hx,rfl,rfl,rfl⟩|⟨hx,f⟩
  .simp only[abS,(Ip w0).Ad,r2.Ad,Ca,B,A,z,hx]
  .simp only[abS,(Ip w0).Ad,r2.Ad,Ca,B,A,z,A0 hx,f.Ad]
def aOP(w:BX h bi a o c t G b)(ok:Ez b)(rm:B9 b (m+1))(s:Aq)(hs:s.length<=100000)(x:Int):
  ∃h' G',BZ cx 70 [Pt bi 0,.str s,I x] h (.tuple []) h'/\BX h' bi a o c t G' (b.KY s x)/\DE h (Bw bi G) h' (Bw bi G'):=by
 unfold BS.KY;by_cases h0:x=0;.rw[Ae h0];obtain⟨d,e⟩:=î w ok rm 0;exact Mo (p:=(b.place 0).1) (bf:=(b.place 0).2) (.inr ⟨h0,e⟩) w w.C7 (w.Iq (u:=d)) ok rm hs
 .rw[Ac h0];exact Mo (p:=x) (bf:=0) (.inl ⟨h0,rfl,rfl,rfl⟩) w .refl w ok rm hs
def aOQ(w:BX h bi a o c t G b)(ok:BA b)(rm:B9 b (m+4))(hr:Oo nm av r)(hv:Bz l av)(hl:D1 l)(hn:nm.length<=1000)(st:Int):
  ∃h' o' G',BZ cx 71 [Pt bi 0,.agg r,I st] h (.tuple []) h'/\BX h' bi a o' c t G' (b.P5 nm l st)/\DE h (Bw bi G) h' (Bw bi G'):=by
 obtain⟨h1,d,e,u,w1,i⟩:=ð w ok rm hr hv hl hn;have s:=w1.st (k:=18) (v:= I st) rfl rfl;have g:BX (put h1 bi 18 (I st)) bi a d c t e {b.Fa nm l 1 with sw:=st}:=w1.put rfl rfl w1.o w1.t;have q:=g.st (k:=5) (v:= I (b.Fa nm l 1).mode) rfl rfl;have f:BX (put (put h1 bi 18 (I st)) bi 5 (I (b.Fa nm l 1).mode)) bi a d c t e {b.Fa nm l 1 with sw:=st,Jn:=(b.Fa nm l 1).mode}:=g.put rfl rfl w1.o w1.t;have n:=f.st (k:=4) (v:=I 8) rfl rfl;have j:BX (put (put (put h1 bi 18 (I st)) bi 5 (I (b.Fa nm l 1).mode)) bi 4 (I 8)) bi a d c t e (b.P5 nm l st):=f.put rfl rfl w1.o w1.t;refine⟨_,d,e,?_,j,((i.trans Bq).trans Bq).trans Bq⟩;obtain⟨H,E,D,C,B,A,z,y,UL,WB,rfl⟩:=hr;rw[Af,ku,t71];simp only[BJ,(Ip w).Ad,u.Ad,w1.l4,s,q,n]
def aOR(w:BX h bi a o c t G b)(rm:B9 b m):
  ∃h' o',BZ cx 72 [Pt bi 0] h (.tuple []) h'/\BX h' bi a o' c t G b.JJ/\DE h (Bw bi G) h' (Bw bi G):=by
 have ho:=rm.AY;have d:=aNP w.sA (Ab:b.AY.length<=1000000000) 3 (v:= .sl 1 ([wP].map CH)) (ws:=[wP]) Da A5;have em:AB (.BI 1) [S [112]]=some (.sl 1 ([wP].map CH)):=D7 (ws:=[wP]) rfl A5;unfold BS.JJ;by_cases hs:J2 (BD [wP]) (JG 3) b.AY.reverse=true;.rw[Ae hs];rw[hs] at d;obtain⟨g,r2,OO⟩:=aIO w.sO Ab wP;have w1:=w.IH OO;have En:=P2 (b:=Ex wP) (a:=C0) (l:=b.AY);obtain⟨e,f,Jj⟩:=f66 w1.sO Dp (w:= .sl 1 ([wP].map CH)) (ws:=[wP]) Da A5;refine⟨_,e,?_,w1.IH Jj,Bq.trans Bq⟩;rw[Af,nC,t72];simp only[BJ,(Ip w).Ad,em,d.Ad,r2.Ad,f.Ad]
 .rw[Ac hs];rw[show J2 (BD [wP]) (JG 3) b.AY.reverse=false by simpa using hs] at d;refine⟨h,o,?_,w,.refl⟩;rw[Af,nC,t72];simp only[BJ,(Ip w).Ad,em,d.Ad]
end
section
variable{h h':Ah}{bi a:Nat}{o c t:Aa}{G G' F:Nat->Prop}{b:BS}{x:Int}{m:Nat}
variable{nm:Aq}{av:Aa}{l:List A6}{r:List Aa}{sp p:Int}
def Su{U:Type}{l:List U}{n:Nat}(hn:n<l.length):(l.take (n+1)).reverse=l[n]::(l.take n).reverse:=by rw[Ay hn,Ir];rfl
def aJC(w:BX h bi a o c t G b)(rm:B9 b m)(nm:Aq):
  ∃h' o',BZ cx 74 [Pt bi 0,.str nm] h (.tuple []) h'/\BX h' bi a o' c t G (b.Dm nm)/\DE h (Bw bi G) h' (Bw bi G):=by
 have ho:=rm.AY;have Jc:Ev cx 74 [Pt bi 0,.str nm] h λr h'=>r= .tuple []/\∃o',BX h' bi a o' c t G (b.Dm nm)/\DE h (Bw bi G) h' (Bw bi G):=by
  unfold Ev;rw[ky,t74];simp only[abS,(Ip w).Ad,(UT w.sA).Ad,C6 (Ab: -9223372036854775808<=(b.AY.length:Int)-1) (Ab:(b.AY.length:Int)-1<9223372036854775808)];refine Bj (λn:Nat=>[I ((n:Int)-1)]) (λn h1=>n<=b.AY.length/\(b.AY.reverse.find? λi=>BD [nm] i||GR i)=((b.AY.take n).reverse.find? λi=>BD [nm] i||GR i)/\h1=h) (λn=>n) b.AY.length rfl ⟨Ag _,by rw[By],rfl⟩ ?_;rintro n h1 ⟨hn,ha,rfl⟩;cases n with
  |zero=>
   have e:b.Dm nm=b:=by unfold BS.Dm;rw[ha];rfl
   simp only[abS,(Ab:¬(0:Int)<=((0:Nat):Int)-1)];exact⟨_,rfl,rfl,o,by rw[e];exact w,.refl⟩
  |succ n=>
   have hlt:n<b.AY.length:=Ab;have i1:((n+1:Nat):Int)-1=(n:Int):=Ab;have j:=Xy w.sA (n:Int);rw[H9 hlt] at j;have em:AB (.BI 1) [.str nm]=some (.sl 1 ([nm].map CH)):=D7 (ws:=[nm]) rfl AK;have r2:=nV (ws:=[nm]) Da AK b.AY[n] h1;rw[Su hlt,GH] at ha;generalize hi:b.AY[n]=i at*;rw[Item.row] at r2;simp only[abS,Fc,i1,(Ab:(0:Int)<=(n:Int)),j.Ad,em];have f:BZ cx 162 [.agg i.row,.sl 1 ([nm].map CH)] h1 (.bool (BD [nm] i)) h1:=r2;rw[f.Ad,Nx,CQ];refine⟨λh2=>?_,λh2=>?_⟩
   .obtain⟨u,s,OO⟩:=aIO w.sO Ab nm;have w1:=w.IH OO;have En:=P2 (b:=Ex nm) (a:=C0) (l:=b.AY);obtain⟨k,q,Jj⟩:=aIP w1.sO Dp i.node;simp only[BJ,s.Ad,q.Ad];refine⟨_,rfl,rfl,k,?_,Bq.trans Bq⟩;have e:b.Dm nm={b with AY:=GS i.node (DR (Ex nm) C0 b.AY)}:=by unfold BS.Dm;rw[ha];simp only[h2,TF,BT]
    rw[e];exact w1.IH Jj
   .simp only[h2,Hi] at ha;simp only[(aIA i.A9 i.name).Bk rfl rfl];rw[Nx,CQ];refine⟨λg=>?_,λg=>?_⟩
    .have d:GR i=true:=g;rw[d] at ha;have e:b.Dm nm=b:=by unfold BS.Dm;rw[ha];simp only[h2,Cy,Eb]
     simp only[BJ];exact⟨_,rfl,rfl,o,by rw[e];exact w,.refl⟩
    .have d:GR i=false:=g;rw[d] at ha;simp only[BJ,C6 (Ab: -9223372036854775808<=(n:Int)-1) (Ab:(n:Int)-1<9223372036854775808)];exact AM.next n rfl ⟨Ab,ha,rfl⟩ Ab
 obtain⟨r,h',hr,rfl,o',w',x'⟩:=Jc.ret;exact⟨h',o',hr,w',x'⟩
def aJD(w:BX h bi a o c t G b)(rm:B9 b m){k:Nat}(hk:k<=b.AY.length):BZ cx 338 [Pt bi 0,I (k:Int)] h (I (BS.Jz (b.AY.take k))) h:=by
 have ho:=rm.AY;rw[Af,tZ,aC0];simp only[BJ,C6 (Ab: -9223372036854775808<=(k:Int)-1) (Ab:(k:Int)-1<9223372036854775808)];refine Bj (λn:Nat=>[I 0,I ((n:Int)-1)]) (λn h1=>n<=k/\((b.AY.take k).reverse.find? λi=>BD [Bd] i||BD [E9] i)=((b.AY.take n).reverse.find? λi=>BD [Bd] i||BD [E9] i)/\h1=h) (λn=>n) k rfl ⟨Ag _,rfl,rfl⟩ ?_;rintro n h1 ⟨hn,ha,rfl⟩;cases n with
 |zero=>simp only[abS,(Ab:¬(0:Int)<=((0:Nat):Int)-1)];unfold BS.Jz;rw[ha];rfl
 |succ n=>
  have hlt:n<b.AY.length:=Ab;have i1:((n+1:Nat):Int)-1=(n:Int):=Ab;have f:=Xy w.sA (n:Int);rw[H9 hlt] at f;have e:AB (.BI 1) [S Bd]=some (.sl 1 ([Bd].map CH)):=D7 (ws:=[Bd]) rfl A5;have zP:AB (.BI 1) [S E9]=some (.sl 1 ([E9].map CH)):=D7 (ws:=[E9]) rfl A5;have r2:=nV (ws:=[Bd]) Da A5 b.AY[n] h1;have g:=nV (ws:=[E9]) Da A5 b.AY[n] h1;rw[Su hlt,GH] at ha;simp only[abS,i1,(Ab:(0:Int)<=(n:Int)),f.Ad,e,r2.Ad,zP,g.Ad,C6 (Ab: -9223372036854775808<=(n:Int)-1) (Ab:(n:Int)-1<9223372036854775808)];rw[CQ];refine⟨λh2=>?_,λh2=>?_⟩;.simp only[h2,TF] at ha;unfold BS.Jz;rw[ha];simp only[h2,BT]
  .simp only[h2,Hi] at ha;rw[CQ];refine⟨λd=>?_,λd=>?_⟩;.rw[d] at ha;unfold BS.Jz;rw[ha];simp only[h2,Cy,Eb]
   .rw[d] at ha;exact AM.next n rfl ⟨Ab,ha,rfl⟩ Ab
def nX(r:Aq×Int):List Aa:=[.str r.1,I r.2]
def cX{z:Nat}{Az:List (List Aa)}{args:List Aa}(e:args=Az.map Aa.agg)(hz:∀r∈Az,r.length=z)(hl:Az.length*z<=16777216):AB (.BI z) args=some (.sl z Az):=by
 subst e;have f:(Az.map Aa.agg).all (λa=>a.cells.length==z)=true:=by simp[Aa.cells];exact hz
 have d:(Az.map Aa.agg).map (·.cells)=Az:=by rw[List.map_map];exact List.map_id _
 rw[qJ,f,d];simp[hl]
def oa{args:List Aa}(e:args=(Jq.map nX).map Aa.agg):AB (.BI 2) args=some (.sl 2 (Jq.map nX)):=cX e (λr hr=>by obtain⟨x,_,rfl⟩:=Bl.1 hr;rfl) A5
def aJE:BZ cx 337 [] h (.sl 2 (Jq.map nX)) h:=by rw[Af,tY,aCZ];simp only[abS,Nat.reduceLeDiff,↓reduceIte,AR];exact(Ce (λz=>Zd z λv=>[v]=[Aa.sl 2 (Jq.map nX)]) (oa rfl)).mpr (by rw[Nw])
def Qb{s:Aq}{i:Item}:BD [s] i=decide (i.A9=1/\i.name=s):=by unfold BD;simp
def zQ{i:Item}{k:Nat}:b.Hd i k=match Jq.find? λr=>BD [r.1] i with
  |some r=>some r.2
  |none=>if BD [KZ] i then some (BS.Jz (b.AY.take k)) else if BD [jr,js] i&&decide (0<k) then some 15 else if BD [Bd] i then some (b.tm.getLast?.getD 7) else if BD [QC] i&&decide (0<k) then some 4 else if BD [Dy] i then some (if b.head=0 then 3 else 6) else if k=0 then some 7 else none:=by
 unfold BS.Hd;by_cases hs:i.A9=1
 .rw[Ae hs];have e:(λr:Aq×Int=>BD [r.1] i)=λr=>decide (r.1=i.name):=by funext r;rw[Qb,Dv];exact⟨λh=>h.2.symm,λh=>⟨hs,h.symm⟩⟩
  rw[e];cases hf:Jq.find? λr=>decide (r.1=i.name) with
  |some r=>rfl
  |none=>simp only[BD,hs,Mz,AS,SK,aK8,Bx,CX]
 .rw[Ac hs];have e:(λr:Aq×Int=>BD [r.1] i)=λ_=>false:=by funext r;rw[Qb,AG (λh=>hs h.1)]
  rw[e];have d:Jq.find? (λ_=>false)=none:=A5;rw[d];simp only[BD,hs,Ya,Ec,Cy,Eb,qi]
def aJF(w:BX h bi a o c t G b)(rm:B9 b m)(i:Item){k:Nat}(hk:k<=b.AY.length):BZ cx 190 [Pt bi 0,.agg i.row,I (k:Int)] h (.tuple [I ((b.Hd i k).getD 7),.bool (b.Hd i k).isSome]) h:=by
 have ho:=rm.AY;have Q:=rm.tm;have pT:AV 2 (Jq.map nX) (.sl 2 (Jq.map nX)):= .mk;have C:=λws hw=>nV (ws:=ws) Da hw i h;rw[zQ,Af,rW,aCb];have hlen:Jq.length=9:=rfl;have P:=pT.CN;rw[hlen] at P;simp only[BJ,↓reduceIte,Fc,aJE.Ad,P];refine Bj (λn:Nat=>[I 0,ff,I (n:Int)]) (λn h1=>n<=9/\(Jq.find? λr=>BD [r.1] i)=((Jq.drop n).find? λr=>BD [r.1] i)/\h1=h) (λn=>9 -n) 0 rfl ⟨AU _,rfl,rfl⟩ ?_;rintro n h1 ⟨hn,ha,rfl⟩;rcases AO n 9 with hlt|Ef
 .have Sp:n<Jq.length:=hlt;have em:AB (.BI 1) [.str Jq[n].1]=some (.sl 1 ([Jq[n].1].map CH)):=D7 (ws:=[Jq[n].1]) rfl AK;rw[AF Sp,GH] at ha;simp only[BJ,Nat.reduceLeDiff,↓reduceIte,gC,(Ab:(n:Int)<((9:Nat):Int)),pT.BN Sp,nX,em,(C [Jq[n].1] AK).Ad,BQ (Ab:n<9223372036854775807)];rw[CQ];refine⟨λh2=>?_,λh2=>?_⟩;.rw[h2] at ha;rw[ha];simp
  .rw[h2] at ha;exact AM.next (n+1) rfl ⟨hlt,ha,rfl⟩ Ab
 .have R:n=9:=by omega
  subst R;have ha:(Jq.find? λr=>BD [r.1] i)=none:=ha;rw[ha];have q:AB (.BI 1) [S aW4]=some (.sl 1 ([KZ].map CH)):=D7 (ws:=[KZ]) rfl A5;have s:AB (.BI 1) [S [116,100],S [116,104]]=some (.sl 1 ([jr,js].map CH)):=D7 (ws:=[jr,js]) rfl A5;have u:AB (.BI 1) [S aWb]=some (.sl 1 ([Bd].map CH)):=D7 (ws:=[Bd]) rfl A5;have H:AB (.BI 1) [S aWL]=some (.sl 1 ([QC].map CH)):=D7 (ws:=[QC]) rfl A5;have K:AB (.BI 1) [S aWh]=some (.sl 1 ([Dy].map CH)):=D7 (ws:=[Dy]) rfl A5;have f:=C [KZ] A5;have d:=C [jr,js] A5;have g:=C [Bd] A5;have y:=C [QC] A5;have B:=C [Dy] A5;have rs:=aJD w rm hk;have lt:=(w.t.1.Re (h:=h1));have j:¬((9:Nat):Int)<((9:Nat):Int):=A5;have l6:=w.l6;have ż:b.tm≠[]->∃p,AB (.int .sub) [I (b.tm.length:Int),I 1]=some (I ((b.tm.length-1:Nat):Int))/\AB (.FC 1) [t,I ((b.tm.length-1:Nat):Int)]=some p/\Bg h1 none p=some (I (b.tm.getLast?.getD 7)):=by intro hne;have hpos:=EG.2 hne;obtain⟨p,E,D⟩:=lt.at_ (b.tm.length-1) Ab;refine⟨p,If hpos Ab,E,?_⟩;rw[D,KA,Ai Ab];rfl
  by_cases g1:BD [KZ] i=true;.rw[g1] at f;simp only[abS,↓reduceIte,j,q,f.Ad,rs.Ad,g1,Hl,dO]
  .have g1:BD [KZ] i=false:=by simpa using g1
   rw[g1] at f;by_cases A:0<k
   .have M:¬k=0:=by omega
    have z:¬(k:Int)=0:=Ab;have v:(0:Int)<(k:Int):=Ab;cases g2:BD [jr,js] i<;>rw[g2] at d;rotate_left;.simp only[BJ,↓reduceIte,j,q,f.Ad,s,d.Ad,A,v,g1,Jd]
    cases g3:BD [Bd] i<;>rw[g3] at g;rotate_left
    .by_cases ht:b.tm=[];.simp only[BJ,↓reduceIte,j,q,f.Ad,s,d.Ad,u,g.Ad,A,v,g1,Jd,l6,lt.len,ht,Int.natCast_zero,Ė,jL]
     .obtain⟨p,E,D,L⟩:=ż ht;have Gg:¬b.tm.length=0:=λe=>ht (LJ.1 e);simp only[BJ,↓reduceIte,j,q,f.Ad,s,d.Ad,u,g.Ad,A,v,g1,Jd,l6,lt.len,(Ab:(0:Int)<(b.tm.length:Int)),E,D,L]
    cases O:BD [QC] i<;>rw[O] at y;rotate_left;.simp only[BJ,↓reduceIte,j,q,f.Ad,s,d.Ad,u,g.Ad,H,y.Ad,A,v,g1,Jd]
    all_goals cases N:BD [Dy] i<;>rw[N] at B
    all_goals first
     |simp only[BJ,↓reduceIte,j,q,f.Ad,s,d.Ad,u,g.Ad,H,y.Ad,K,B.Ad,A,M,z,v,g1,Jd];done
     |by_cases J:b.head=0
      .simp only[BJ,↓reduceIte,j,q,f.Ad,s,d.Ad,u,g.Ad,H,y.Ad,K,B.Ad,A,z,v,g1,Jd,w.l7,J]
      .simp only[BJ,↓reduceIte,j,q,f.Ad,s,d.Ad,u,g.Ad,H,y.Ad,K,B.Ad,A,z,v,g1,Jd,w.l7,J]
   .have M:k=0:=by omega
    subst M;have v:¬(0:Int)<((0:Nat):Int):=A5;have z:((0:Nat):Int)=0:=rfl;by_cases g3:BD [Bd] i=true
    .rw[g3] at g;cases g2:BD [jr,js] i<;>rw[g2] at d<;>by_cases ht:b.tm=[];all_goals first
      |simp only[BJ,↓reduceIte,j,q,f.Ad,s,d.Ad,u,g.Ad,z,g1,g3,Jd,l6,lt.len,ht,Ė,jL,Dr];done
      |obtain⟨p,E,D,L⟩:=ż ht
       have Gg:¬b.tm.length=0:=λe=>ht (LJ.1 e);simp only[BJ,↓reduceIte,j,q,f.Ad,s,d.Ad,u,g.Ad,z,g1,g3,Jd,l6,lt.len,(Ab:(0:Int)<(b.tm.length:Int)),E,D,L,Dr]
    .have g3:BD [Bd] i=false:=by simpa using g3
     rw[g3] at g;cases g2:BD [jr,js] i<;>rw[g2] at d<;>cases O:BD [QC] i<;>rw[O] at y<;>cases N:BD [Dy] i<;>rw[N] at B<;>by_cases J:b.head=0;all_goals simp only[BJ,↓reduceIte,j,q,f.Ad,s,d.Ad,u,g.Ad,H,y.Ad,K,B.Ad,z,g1,g3,Jd,w.l7,J,Dr]
end
end Go.Am
end
