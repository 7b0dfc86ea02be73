/- Lemmas -/
import Derived.Test.YtlcmmpgfafpoiaaGreatDoorT24
set_option linter.all false
set_option maxHeartbeats 0
set_option maxRecDepth 100000
section
namespace Go.Am
open Go
section
variable{h h':Ah}{a n:Nat}{m:Option Nat}{ps:List PN}{A:Ar}{x:Int}{F:Nat->Prop}
def PA.pw(w:PA h a n m ps A):PW h (λi=>i∈Gn a n m ps) a A:=⟨n,m,ps,w,λ_=>aEx⟩
def Nw.add{y:EU}(b:Nw A)(h1:A.len+1<=1000000000)(h2:y.Az.length<=1000000000)(c:y.data.length<=1000000000):Nw (A.add y):=by
 refine⟨?_,λx=>?_,λx=>?_⟩;.unfold Ar.len at h1;simp[Ar.add];omega
 .rw[IH];split;.exact h2
  .exact b.at_ x
 .rw[IH];split;.exact c
  .exact b.data x
def Nw.set{y:EU}(b:Nw A)(h2:y.Az.length<=1000000000)(c:y.data.length<=1000000000):Nw (A.set x y):=by
 refine⟨by rw[Jw];exact b.n,λx=>?_,λx=>?_⟩<;>rw[JU]<;>split;.exact h2
 .exact b.at_ x
 .exact c
 .exact b.data x
def Ŗ{x y:EU}:(A.add x).set (A.len+1) y=A.add y:=by unfold Ar.set;rw[Af (DQ.2 (.inr rfl))];unfold Ar.add Ar.len;have e:((A.n.length:Int)+1).toNat-1=A.n.length:=Ab;simp only[e];rw[BB _ _ (Ag _),Dc];rfl
def bo{p:PN}(w:PA h a n m ps A)(hx:A.has x)(hk:HN p.kv=HN (pN ps x).kv):Gn a n m (ps.set (x.toNat-1) p)=Gn a n m ps:=by obtain⟨c,b⟩:=YG w hx p;unfold Gn;rw[b,EM,Iw,hk];conv=>rhs;rw[c,EM,Iw]
def PA.wr(w:PA h a n m ps A)(hx:A.has x){k:Nat}(hk:k<13){v:Aa}(hv:v.cells=[v]){p:PN}(hp:p.row=(pN ps x).row.set k v)(h1:p.kv=(pN ps x).kv)(h2:p.x.Bb=(A.nd x).Bb):
  ∃h',Co h 1 (Pt n (nP n x+k)) v=some h'/\PA h' a n m (ps.set (x.toNat-1) p) (A.set x p.x)/\Gn a n m (ps.set (x.toNat-1) p)=Gn a n m ps/\(∀i,i≠n->h'[i]?=h[i]?)/\h'.length=h.length:=by
 refine⟨_,w.sto hx hk hv hp rfl,w.my hx (λi _ _=>rfl) (by rw[h1,h2];exact w.M4 hx) (.inl (by rw[h1])),bo w hx (by rw[h1]),λi hi=>by rw[Ap (DJ hi)],Bp⟩
def PA.xn(w:PA h a n m ps A){h1:Ah}{JB:List PN}{A':Ar}(w':PA h1 a n m JB A')(hi:Gn a n m JB=Gn a n m ps)(ho:∀i,i≠n->h1[i]?=h[i]?)(hl:h1.length=h.length):DB h (λi=>i∈Gn a n m ps) h1 (λi=>i∈Gn a n m JB):=
 ⟨Ab,λi _ hn=>ho i (λe=>hn (by rw[e];simp[Gn])),λi V0=> .inl (by rwa [hi] at V0)⟩
def KN(q:Bool)(d:Int):PN:=⟨{kind:=1,CH:=q,CQ:=d},.slnil,.slnil,rfl⟩
def aMq(w:PA h a n m ps A)(o:Nw A)(hb:A.len+1<=1000000000)(q:Bool):
  ∃h',BK cx 58 [Pt a 0,.bool q] h (I (A.len+1)) h'/\PA h' a h.length m (ps++[KN q (A.len+1)]) (A.add {kind:=1,CH:=q,CQ:=A.len+1})/\(∀i,i<h.length->i≠a->i≠n->h'[i]?=h[i]?)/\h'.length=h.length+1:=by
 have lJ:=w.len;obtain⟨h1,g,w1,l,l1⟩:=œ w Ab (KN q 0) rfl rfl;have e:=o.add (y:=(KN q 0).x) hb (by simp[KN]) (by simp[KN]);have hx:(A.add (KN q 0).x).has (A.len+1):=DQ.2 (.inr rfl);have hlen:(A.len+1).toNat-1=ps.length:=Ab;have b:pN (ps++[KN q 0]) (A.len+1)=KN q 0:=by unfold pN;rw[hlen];simp
 obtain⟨h2,f,c,_,j,t⟩:=w1.wr hx (k:=3) AU (v:= I (A.len+1)) rfl (p:=KN q (A.len+1)) (by rw[b];rfl) (by rw[b];rfl) (by rw[IH,Af rfl];rfl);refine⟨h2,?_,?_,λi hi s r=>?_,Ab⟩;.have r2:=I9 w1 e hx;rw[Ae,fC];have d:BK cx 158 [Pt a 0,.agg [I 1,I 0,.slnil,I 0,I 0,.str [],.slnil,.str [],.str [],.str [],.bool q,I 0,I 0]] h (I (A.len+1)) h1:=g;simp only[abS,Nat.reduceLeDiff,↓reduceIte,AT,d.Ac,r2.Ac,f]
 .rw[Ŗ,hlen] at c;rw[BB _ _ (Ag _),Dc] at c;exact c
 .rw[j i Ab];exact l i hi s r
def Mz(k d:Int)(s:An):PN:=⟨{kind:=k,CQ:=d,data:=s},.slnil,.slnil,rfl⟩
def PA.S5(w:PA h a n m ps A){p:PN}{h1:Ah}(hk:HN p.kv=none)(b:∀i,i<h.length->i≠a->i≠n->h1[i]?=h[i]?)(l1:h1.length=h.length+1):DB h (λi=>i∈Gn a n m ps) h1 (λi=>i∈Gn a h.length m (ps++[p])):=by
 refine⟨Ab,λi hi hn=>b i hi (λe=>hn (by simp[Gn,e])) (λe=>hn (by simp[Gn,e])),λi hi=>?_⟩;rw[pA hk] at hi;simp only[AX] at hi;rcases hi with rfl|rfl|hi
 .exact .inl (by simp[Gn])
 .exact .inr (Ag _)
 .exact .inl (by unfold Gn;simp only[AX];exact .inr (.inr hi))
def aA3{k:Int}{s:An}(w:PA h a n m ps A)(d:Nw A)(hb:A.len+1<=1000000000)(hd:A.has x/\(A.nd x).kind=1):
  ∃h',BK cx 235 [Pt a 0,I x,.agg (Mz k 0 s).row] h (.tuple [I (A.len+1),I 0]) h'/\PA h' a h.length m (ps++[Mz k x s]) (A.add (Mz k x s).x)/\(∀i,i<h.length->i≠a->i≠n->h'[i]?=h[i]?)/\h'.length=h.length+1:=by
 have lJ:=w.len;obtain⟨h1,b,w1,c,l1⟩:=œ w Ab (Mz k x s) rfl rfl;refine⟨h1,?_,w1,c,l1⟩;rw[PN.row] at b;rw[Ae,iC,PN.row];simp only[abS,(xj (x:=x) w d).Ac,Af hd.1,Af hd.2,B2,CB,Mz] at b⊢;simp only[BF,b.Ac]
def aMr{s:An}(w:PA h a n m ps A)(e:Nw A)(hb:A.len+1<=1000000000)(hd:A.has x/\(A.nd x).kind=1):
  ∃h',BK cx 176 [Pt a 0,I x,.str s] h (.tuple [I (A.len+1),I 0]) h'/\PA h' a h.length m (ps++[Mz 5 x s]) (A.add (Mz 5 x s).x)/\(∀i,i<h.length->i≠a->i≠n->h'[i]?=h[i]?)/\h'.length=h.length+1:=by
 obtain⟨h1,c,w1,d,l1⟩:=aA3 (k:=5) (s:=s) w e hb hd;refine⟨h1,?_,w1,d,l1⟩;have b:BK cx 235 [Pt a 0,I x,.agg [I 5,I 0,.slnil,I 0,I 0,.str [],.slnil,.str s,.str [],.str [],.bool false,I 0,I 0]] h (.tuple [I (A.len+1),I 0]) h1:=c;rw[Ae,gE];simp only[abS,Nat.reduceLeDiff,↓reduceIte,AT,b.Ac]
def aG8{s:An}(w:PA h a n m ps A)(e:Nw A)(hb:A.len+1<=1000000000)(hd:A.has x/\(A.nd x).kind=1):
  ∃h',BK cx 177 [Pt a 0,I x,.str s] h (.tuple [I (A.len+1),I 0]) h'/\PA h' a h.length m (ps++[Mz 6 x s]) (A.add (Mz 6 x s).x)/\(∀i,i<h.length->i≠a->i≠n->h'[i]?=h[i]?)/\h'.length=h.length+1:=by
 obtain⟨h1,c,w1,d,l1⟩:=aA3 (k:=6) (s:=s) w e hb hd;refine⟨h1,?_,w1,d,l1⟩;have b:BK cx 235 [Pt a 0,I x,.agg [I 6,I 0,.slnil,I 0,I 0,.str [],.slnil,.str s,.str [],.str [],.bool false,I 0,I 0]] h (.tuple [I (A.len+1),I 0]) h1:=c;rw[Ae,gF];simp only[abS,Nat.reduceLeDiff,↓reduceIte,AT,b.Ac]
def aMs{s:An}(w:PA h a n m ps A)(e:Nw A)(hx:A.has x)(hk:(A.nd x).kind=5):
  ∃h' JB,BK cx 175 [Pt a 0,I x,.str s] h (I 0) h'/\PA h' a n m JB (A.SP x s)/\DB h (λi=>i∈Gn a n m ps) h' (λi=>i∈Gn a n m JB):=by
 have hp:=(w.pn hx).2.1;obtain⟨h2,c,b,g,d,f⟩:=w.wr hx (k:=7) AU (v:= .str s) rfl (p:=⟨{A.nd x with data:=s},(pN ps x).kv,(pN ps x).av,by rw[<-hp];exact(pN ps x).ok⟩) (by simp only[PN.row];rw[hp];rfl) rfl rfl;refine⟨h2,_,?_,b,w.xn b g d f⟩;rw[Ae,gD];simp only[abS,HB,(T5 (x:=x) w).Ac,Af hx,B2,CB,(I9 w e hx).Ac,w.f0 hx,hk,c]
def aA4{y:Int}:BK cx 345 [.sl 1 [[I y]]] h (.bool (decide (BS.HX y))) h:=by
 have hv:AV 1 [[I y]] (.sl 1 [[I y]]):= .mk;have d:([[I y]]:List (List Aa))[0]=[I y]:=rfl;rw[Ae,jJ];simp only[BF,hv.len];refine Bl (λk:Nat=>[.bool false,I (k:Int)]) (λk h1=>k<=1/\(k=1->BS.HX y)/\h1=h) (λk=>1 -k) 0 rfl ⟨AZ _,λe=>Ab,rfl⟩ ?_;rintro k h1 ⟨hk,ha,rfl⟩;rcases AQ k 1 with hlt|Ei
 .obtain rfl:k=0:=by omega
  simp only[BF,lN,(AU:((0:Nat):Int)<((1:Nat):Int)),hv.Fu (show 0<[[I y]].length from Cb),d,BO (Ab:0<9223372036854775807)];refine⟨λh2=>?_,λh2=>⟨λc=>?_,λc=>?_⟩⟩;.rw[Aq (λb=>by unfold BS.HX at b;omega)]
  .rw[Aq (λb=>by unfold BS.HX at b;omega)]
  .exact AL.next 1 rfl ⟨Ag _,λ_=>⟨Ab,Ab⟩,rfl⟩ Ab
 .obtain rfl:k=1:=by omega
  simp only[abS,(AU:¬((1:Nat):Int)<((1:Nat):Int)),As (ha rfl)]
def YH{l out:List A6}{y:A6}:HA out (l++[y])=if(HA out l).any (λz=>decide (DF y=DF z)) then HA out l else HA out l++[y]:=by
 induction l generalizing out with
 |nil=>simp only[BU,HA];split<;>simp_all
 |cons z l ih=>
  rw[CO,HA,HA];split;.exact ih
  .exact ih
def aG9(y c:A6)(h:Ah):BK cx 409 [.agg c.row,.CJ y.row] h (.bool (decide (DF y=DF c))) h:=by
 rw[Ae,jX,A6.row,A6.row];simp only[BF];refine⟨λh1=>?_,λh1=>?_⟩;.congr 2;rw[Db];simp[DF,h1]
 .rw[Aq (λe=>h1 (by simp[DF] at e;exact e.1))]
def aA5{F v:Aa}{l:List A6}{q:A6->Bool}(hv:M9 h v l)(hb:l.length<=1000000000)(hF:o8 F h q):BK cx 191 [v,F] h (.bool (l.any q)) h:=by
 obtain⟨f,caps,rfl,hf,hr⟩:=hF;have key:BK cx 309 [v,.func (.func f) [] caps] h (I (Cl q 0 l)) h:=by
  rw[Ae,SZ];simp only[BF,hv.len];refine Bl (λn:Nat=>[I 0,I (n:Int)]) (λn h1=>n<=l.length/\Cl q 0 l=Cl q n (l.drop n)/\h1=h) (λn=>l.length-n) 0 rfl ⟨AZ _,rfl,rfl⟩ ?_;rintro n h1 ⟨xd,ha,rfl⟩;rcases AQ n l.length with hlt|Ei
  .have i1:(n:Int)<(l.length:Int):=by omega
   obtain⟨p,d,c⟩:=hv.at_ n hlt;rw[AG hlt,Cl] at ha;simp only[BF,↓reduceIte,DD,lN,hf,i1,d,c,(hr l[n]).Ac,BO (Ab:n<9223372036854775807)];rw[CT];refine⟨λhe=>?_,λhe=>?_⟩;.rw[ha,Af he]
   .rw[Ad (by simp[he])] at ha;exact AL.next (n+1) rfl ⟨hlt,ha,rfl⟩ Ab
  .have i1:¬(n:Int)<(l.length:Int):=by omega
   rw[A0 Ei,Cl] at ha;simp only[abS,↓reduceIte,DD,i1,ha]
 rw[Ae,Wo];simp only[BF,key.Ac];congr 2
 rcases HK (p:=q) (l:=l) (k:=0) with⟨h1,h2⟩|⟨n,y,h1,h2,b⟩
 .rw[h1,ob];have:=Jr.1 h2;simpa using this
 .rw[h1,ob,As Ab,Ts];exact⟨y,QR b,Vk b⟩
def aA6{l:List A6}{v:Aa}(hv:M9 h v l)(hb:l.length<=1000000000)(hs:∀y∈l,BS.HX y.Bc):BK cx 339 [v] h (.tuple [VI (Ct l),.bool true]) h:=by
 rw[Ae,jD];simp only[BF,hv.len];refine Bl (λk:Nat=>[.slnil,.bool false,VI (Ct (l.take k)),I (k:Int)]) (λk h1=>k<=l.length/\h1=h) (λk=>l.length-k) 0 rfl ⟨AZ _,rfl⟩ ?_;rintro k h1 ⟨hk,rfl⟩;rcases AQ k l.length with hlt|Ei
 .have i1:(k:Int)<(l.length:Int):=by omega
  obtain⟨p,j,e⟩:=hv.at_ k hlt;have inc:=BO (Ab:k<9223372036854775807);have hsp:=hs _ (AN hlt);have i:=aA4 (h:=h1) (y:=l[k].Bc);have hF:o8 (.func (.func 409) [] [.CJ l[k].row]) h1 (λc=>decide (DF l[k]=DF c)):=⟨_,_,rfl,AU,λc=>aG9 l[k] c h1⟩;have nc:(Ct (l.take k)).length<=1000000000:=by have:=Qv (l:=l.take k);rw[Aw] at this;omega
  have r2:=aA5 (YF WE) nc hF;have g:Ct (l.take (k+1))=if(Ct (l.take k)).any (λz=>decide (DF l[k]=DF z)) then Ct (l.take k) else Ct (l.take k)++[l[k]]:=by rw[AE hlt];exact YH
  have d:=AV.Jv (f:=A6.row) (a:=l[k]) (b:=40) (WE (l:=Ct (l.take k))) (by have:=Qv (l:=l.take k);rw[Aw] at this;have:AS=140737488355328:=rfl;omega);have em:AB (.C8 3) [.agg l[k].row]=some (.sl 3 [l[k].row]):=rfl;rw[<-kg] at d;rw[A6.row] at r2 em d e;simp only[abS,Nat.reduceLeDiff,↓reduceIte,i1,j,e,HB,i.Ac,As hsp,r2.Ac,em,d,inc];rw[CT];refine⟨λh2=>?_,λh2=>?_⟩;.exact AL.next (k+1) (by rw[g,Ad (by simpa using h2)]) ⟨hlt,rfl⟩ Ab
  .exact AL.next (k+1) (by rw[g,Af (by simpa using h2)]) ⟨hlt,rfl⟩ Ab
 .have i1:¬(k:Int)<(l.length:Int):=by omega
  simp only[abS,↓reduceIte,i1,AF Ei]
def aHa{l:List A6}{v:Aa}(w:PA h a n m ps A)(f:Nw A)(hx:A.has x)(hk:(A.nd x).kind=4)(hv:M9 h v l)(hb:l.length<=1000000000)(hs:∀y∈l,BS.HX y.Bc):
  ∃h' JB,BK cx 193 [Pt a 0,I x,v] h (I 0) h'/\PA h' a n m JB (A.Jy x l)/\DB h (λi=>i∈Gn a n m ps) h' (λi=>i∈Gn a n m JB):=by
 have hp:=(w.pn hx).2.1;have d:=aA6 hv hb hs;obtain⟨h2,c,b,j,e,g⟩:=w.wr hx (k:=6) AU (v:=VI (Ct l)) (AV.cells WE) (p:=⟨{A.nd x with Az:=Ct l},(pN ps x).kv,VI (Ct l),rfl⟩) (by simp only[PN.row];rw[hp];rfl) rfl rfl;refine⟨h2,_,?_,b,w.xn b j e g⟩;rw[Ae,gR];simp only[abS,HB,(T5 (x:=x) w).Ac,Af hx,B2,CB,(I9 w f hx).Ac,w.f0 hx,hk,d.Ac,c]
def aHb(w:PA h a n m ps A)(hx:A.has x):BK cx 346 [Pt n (nP n x)] h (.bool (decide (eU (A.nd x)))) h:=by rw[Ae,jK];simp only[abS,w.f0 hx,w.f4 hx,w.f5 hx,eU];refine⟨λh1=>⟨λh2=>?_,λh2=>?_⟩,λh1=>?_⟩<;>simp[*]
def QM(x:Int×Int):Aa×Aa:=(I x.1,I x.2)
def kE{k:Int}:∀{l:List (Int×Int)} {i:Nat},(l.find? (λx=>decide (k=x.1))=none->LK k (l.map QM) i=some none)/\∀y,l.find? (λx=>decide (k=x.1))=some y->∃j,LK k (l.map QM) i=some (some (j,I y.2))
 |[],i=>⟨λ_=>rfl,λy h=>by cases h⟩
 |z::l,i=>by
  have ih:=kE (k:=k) (l:=l) (i:=i+1);simp only[Bk,QM,LK,GK];by_cases e:k=z.1;.simp only[e,Dx,BI];exact⟨λh=>(by cases h),λy h=>⟨i,by cases h;rfl⟩⟩
  .simp only[e,DH,DG];exact ih
def YE.get{f:Int->Int}(w:YE h m f)(k:Int):E7 (.oe (I 0) true) h [.map m,I k]=some (h,if f k=0 then .tuple [I 0,.bool false] else .tuple [I (f k),.bool true]):=by
 rcases w with⟨rfl,h0⟩|⟨id,l,rfl,hc,hl,_⟩
 .rw[Af (h0 k)];rfl
 .have hl:=hl k;have hm:=kE (k:=k) (l:=l) (i:=0);simp only[E7,wH,hc];by_cases h0:f k=0
  .rw[Af h0] at hl⊢;have e:l.find? (λx=>decide (k=x.1))=none:=by
    cases hf:l.find? (λx=>decide (k=x.1)) with
    |none=>rfl
    |some y=>rw[hf] at hl;cases hl
   have:=hm.1 e;unfold QM at this;rw[this];rfl
  .rw[Ad h0] at hl⊢;cases hf:l.find? (λx=>decide (k=x.1)) with
   |none=>rw[hf] at hl;cases hl
   |some y=>rw[hf] at hl;simp only[B5,BD] at hl;obtain⟨j,e⟩:=hm.2 y hf;unfold QM at e;rw[e,<-hl];rfl
def bq{id:Nat}{l:List (Int×Int)}{k v:Int}(hc:h[id]?=some (.map (l.map QM)))(hn:l.find? (λx=>decide (k=x.1))=none):
  ∃h1,E7 (.Tx (I 0)) h [.map (some id),I k]=some (h1,.tuple [I 0,I l.length])/\∃h2,E7 .Pk h1 [.map (some id),I l.length,I v]=some (h2,.bool true)/\h2=h.set id (.map ((l++[(k,v)]).map QM)):=by
 have Ih:=(Al.1 hc).1;have hm:=(kE (k:=k) (l:=l) (i:=0)).1 hn;refine⟨h.set id (.map (l.map QM++[(I k,I 0)])),?_,_,?_,rfl⟩;.simp only[E7,VS,hc,hm,B5,Aj]
 .have c:(h.set id (.map (l.map QM++[(I k,I 0)])))[id]?=some (.map (l.map QM++[(I k,I 0)])):=AO Ih;have b:(l.map QM++[(I k,I 0)])[l.length]?=some (I k,I 0):=by rw[Bd AH];simp
  simp only[E7,VT,c,AY,b];rw[Af Ab,Pg,BB _ _ AH];simp[QM]
def PA.aHc(w:PA h a n m ps A):∀i∈m.toList++ps.filterMap (λp=>HN p.kv),i<h.length/\i≠a/\i≠n:=by
 intro i hi;have h1:i∈Gn a n m ps:=by unfold Gn;simp only[AX];exact .inr (.inr hi)
 have b:=w.nd;unfold Gn at b;simp only[B6,AX,Ns] at b;exact⟨w.lt i h1,λe=>b.1.2 (e▸hi),λe=>b.2.1 (e▸hi)⟩
def PA.aHd(w:PA h a n m ps A){h1:Ah}{m':Option Nat}{A':Ar}(g:A'.n=A.n)(f:A'.i.length=A'.n.length)(ha:h1[a]?=some (.cells [.Cs n 0 ps.length 13,.map m']))(ho:∀i,i<h.length->i≠a->m≠some i->h1[i]?=h[i]?)(hm:m'=m\/∃j,m'=some j/\h.length<=j)(b:YE h1 m' A'.inr):PA h1 a n m' ps A':=by
 have nd:=w.nd;have kD:=nd;unfold Gn at kD;simp only[B6,AX,Ns] at kD;have hnm:m≠some n:=λe=>kD.2.1 (by simp[e]);refine⟨by rw[g];exact w.e,f,ha,?_,?_,?_,b⟩;.rw[ho n (w.lt n (by simp[Gn])) (DJ kD.1.1) hnm];exact w.hn
 .intro p hp;refine(w.ks p hp).Dn λid Ih=>?_;have h1:id∈ps.filterMap (λp=>HN p.kv):=Ch.2 ⟨p,hp,Ih⟩;have h2:=w.aHc id (Ax.2 (.inr h1));exact ho id h2.1 h2.2.1 λe=>(B3.1 kD.2.2).2.2 id (by simp[e]) id h1 rfl
 .rcases hm with rfl|⟨j,rfl,hj⟩
  .exact nd
  .have d:∀i∈ps.filterMap (λp=>HN p.kv),i<h.length:=λi hi=>(w.aHc i (Ax.2 (.inr hi))).1;have l:=w.lt a (by simp[Gn]);have k:=w.lt n (by simp[Gn]);have c:=(B3.1 kD.2.2).2.1;unfold Gn;simp only[B6,AX,aOd,CO,BU,Ns];exact⟨⟨kD.1.1,Ab,λhm=>kD.1.2 (Ax.2 (.inr hm))⟩,⟨Ab,λhm=>kD.2.1 (Ax.2 (.inr hm))⟩,λhm=>by have:=d j hm;omega,c⟩
def YI{l:List (Int×Int)}{k v:Int}(hk:bn l)(hn:l.find? (λx=>decide (k=x.1))=none)(h1:ic k=true)(h2:ic v=true):bn (l++[(k,v)]):=by
 refine⟨?_,λp hp=>?_⟩;.rw[BE,B3];refine⟨hk.1,AH,λa ha b hb e=>?_⟩;obtain⟨x,hx,rfl⟩:=Bm.1 ha;have c:=Jr.1 hn x hx;simp only[Bk,C2,Dt] at hb;exact c (by simpa using(e.trans hb).symm)
 .rcases Ax.1 hp with h|h
  .exact hk.2 p h
  .simp only[Dt] at h;subst h;exact⟨h1,h2⟩
def br(hb:A.len<=1000000000)(hx:A.has x):ic x=true:=by have:=hx.1;have:=hx.2;unfold Ar.len at hb;unfold ic;simp;omega
def aHe{i:Nat}(hm:m=some i):i∈Gn a n m ps:=by unfold Gn;simp[hm]
def PA.aHf(w:PA h a n m ps A){l:List (Int×Int)}{id:Nat}(t:m=some id)(hc:h[id]?=some (.map (l.map QM)))(hl:∀k,(l.find? λx=>decide (k=x.1)).map (·.2)=if A.inr k=0 then none else some (A.inr k))(ok:bn l)(hb:A.len<=1000000000){d i:Int}(hd:A.has d)(hi:A.has i)(c:d≠i)(h0:A.inr d=0)(f:A.inr i=0):
  ∃h1 h2 r,E7 (.Tx (I 0)) h [.map m,I d]=some (h1,.tuple [I 0,I l.length])/\E7 .Pk h1 [.map m,I l.length,I i]=some (h2,.bool true)/\
   E7 (.Tx (I 0)) h2 [.map m,I i]=some (r,.tuple [I 0,I ((l.length+1:Nat):Int)])/\∃p,E7 .Pk r [.map m,I ((l.length+1:Nat):Int),I i]=some (p,.bool true)/\PA p a n m ps ((A.I6 d i).I6 i i)/\(∀j,j≠id->p[j]?=h[j]?)/\p.length=h.length:=by
 subst t;have Ih:=(Al.1 hc).1;have b:∀k,A.inr k=0->l.find? (λx=>decide (k=x.1))=none:=by
  intro k hk;have:=hl k;rw[Af hk] at this;cases hf:l.find? (λx=>decide (k=x.1)) with
  |none=>rfl
  |some y=>rw[hf] at this;cases this
 obtain⟨h1,E,h2,D,rfl⟩:=bq (v:=i) hc (b d h0);have IZ:(h.set id (.map ((l++[(d,i)]).map QM)))[id]?=some (.map ((l++[(d,i)]).map QM)):=AO Ih;obtain⟨r,B,p,z,rfl⟩:=bq (k:=i) (v:=i) IZ (by rw[Rg,b i f];simp[DJ c]);simp only[Av,A9] at B z;refine⟨h1,_,r,E,D,B,_,z,?_,?_,AH⟩
 .have o:id≠a:=λe=>by have:=w.nd;unfold Gn at this;simp[e] at this
  refine w.aHd (m':=some id) (A':=(A.I6 d i).I6 i i) rfl ?_ ?_ ?_ (.inl rfl) ?_;.simp only[Ar.I6];split<;>split<;>simp[w.il]
  .rw[Ap o,Ap o];exact w.ha
  .intro j hj C u;have:id≠j:=λe=>u (by rw[e]);rw[Ap this,Ap this]
  .refine .inr ⟨id,l++[(d,i)]++[(i,i)],rfl,?_,λk=>?_,YI (YI ok (b d h0) (br hb hd) (br hb hi)) (by rw[Rg,b i f];simp[DJ c]) (br hb hi) (br hb hi)⟩;.rw[AO (by simpa using Ih)];rfl
   .have s:(A.I6 d i).i.length=(A.I6 d i).n.length:=by simp only[Ar.I6];split<;>simp[w.il]
    rw[PY s,PY w.il,Rg,Rg];have qx:(A.I6 d i).has i:=hi;have hk:=hl k;have uV:i≠0:=by have:=hi.1;omega
    cases hf:l.find? (λx=>decide (k=x.1)) with
    |some y=>
     rw[hf] at hk;have o7:A.inr k≠0:=by intro e;rw[Af e] at hk;cases hk
     have q:k≠i:=λe=>o7 (e▸f);have g:k≠d:=λe=>o7 (e▸h0);simp only[q,g,Zq,DG,Option.some_or];exact hk
    |none=>
     rw[hf] at hk;have o7:A.inr k=0:=by
      by_cases e:A.inr k=0;.exact e
      .rw[Ad e] at hk;cases hk
     by_cases g:k=d;.subst g;simp[c,hd,uV]
     .by_cases q:k=i;.subst q;simp[g,qx,uV]
      .simp[q,g,o7]
 .intro j hj;rw[Ap (DJ hj),Ap (DJ hj)]
def aHg(w:PA h a n m ps A)(E:Nw A)(hb:A.len+1<=1000000000)(hx:A.has x):
  ∃h' n' m' JB,BK cx 347 [Pt a 0,I x] h (I (A.FB x)) h'/\PA h' a n' m' JB (A.Dk x)/\DB h (λi=>i∈Gn a n m ps) h' (λi=>i∈Gn a n' m' JB):=by
 have l1:A7 h none (Pt a 1)=some (.map m):=by simp only[A7,w.ha];rfl
 have g1:=w.mp.get x;by_cases h0:A.inr x=0
 .obtain⟨h1,z,w1,D,d⟩:=aMq w E hb false;have g:=w.S5 (p:=KN false (A.len+1)) rfl D d;have s:A.FB x=A.len+1:=by unfold Ar.FB;rw[Ad (by simp[h0])]
  have t:A.Dk x=((A.add {kind:=1,CQ:=A.len+1}).I6 x (A.len+1)).I6 (A.len+1) (A.len+1):=by unfold Ar.Dk;rw[Ad (by simp[h0])]
  have ŗ:∀k,(A.add {kind:=1,CH:=false,CQ:=A.len+1}).inr k=A.inr k:=λk=>Wb w.il;have Pb:(A.add {kind:=1,CH:=false,CQ:=A.len+1}).has x:=DQ.2 (.inl hx);have VB:(A.add {kind:=1,CH:=false,CQ:=A.len+1}).has (A.len+1):=DQ.2 (.inr rfl);have hne:=Yj hx;have f:A.inr (A.len+1)=0:=by unfold Ar.inr;rw[Ad RF]
  have B:A7 h1 none (Pt a 1)=some (.map m):=by simp only[A7,w1.ha];rfl
  rw[Af h0] at g1;have Tw:(A.add {kind:=1,CH:=false,CQ:=A.len+1}).len<=1000000000:=by rw[OC];exact hb
  rcases w1.mp with⟨rfl,hz⟩|⟨id,l,rfl,hc,hl,ho⟩
  .have ZE:=w1.ha;have VX:a<h1.length:=w1.lt a (by simp[Gn]);have O8:(h1++[Du.map []])[a]?=some (.cells [.Cs h.length 0 (ps++[KN false (A.len+1)]).length 13,.map none]):=by rw[Ai VX];exact ZE
   have es:Co (h1++[Du.map []]) 1 (Pt a 1) (.map (some h1.length))=some ((h1++[Du.map []]).set a (.cells [.Cs h.length 0 (ps++[KN false (A.len+1)]).length 13,.map (some h1.length)])):=by simp only[Co,O8];rfl
   have sH:((h1++[Du.map []]).set a (.cells [.Cs h.length 0 (ps++[KN false (A.len+1)]).length 13,.map (some h1.length)]))[a]?=some (.cells [.Cs h.length 0 (ps++[KN false (A.len+1)]).length 13,.map (some h1.length)]):=AO D9;have L:A7 ((h1++[Du.map []]).set a (.cells [.Cs h.length 0 (ps++[KN false (A.len+1)]).length 13,.map (some h1.length)])) none (Pt a 1)=some (.map (some h1.length)):=by simp only[A7,sH];rfl
   have Ï:((h1++[Du.map []]).set a (.cells [.Cs h.length 0 (ps++[KN false (A.len+1)]).length 13,.map (some h1.length)]))[h1.length]?=some (.map (([]:List (Int×Int)).map QM)):=by rw[Ap Ab,Bd (Ag _),Dc];rfl
   have C:PA ((h1++[Du.map []]).set a (.cells [.Cs h.length 0 (ps++[KN false (A.len+1)]).length 13,.map (some h1.length)])) a h.length (some h1.length) (ps++[KN false (A.len+1)]) (A.add {kind:=1,CH:=false,CQ:=A.len+1}):=by refine w1.aHd rfl w1.il sH (λi hi c _=>by rw[Ap (DJ c),Ai hi]) (.inr ⟨_,rfl,Ag _⟩) (.inr ⟨h1.length,[],rfl,Ï,λk=>by rw[Af (hz k)];rfl,MK,λp hp=>nomatch hp⟩)
   obtain⟨J,H,G,r,q,o,y,j,u,v,b⟩:=C.aHf rfl Ï (λk=>by rw[Af (hz k)];rfl) ⟨MK,λp hp=>nomatch hp⟩ Tw Pb VB hne ((ŗ x).trans h0) ((ŗ _).trans f);refine⟨y,_,_,_,?_,t▸u,⟨by rw[b];simp;omega,λi hi Vx=>?_,λi hi=>?_⟩⟩;.simp only[BT] at r q o j;rw[Ae,S0,s];simp only[BF,l1,g1,z.Ac,B,show AB (.Gd false .mp) [.map none,.map none]=some (.bool true) from rfl,es,L,r,q,o,j]
   .have K:=g.old i hi Vx;have c:i≠a:=λe=>Vx (by simp[Gn,e]);rw[v i Ab,Ap (DJ c),Ai Ab,K]
   .unfold Gn at hi;simp only[AX,aOd,CO,BU] at hi;rcases hi with rfl|rfl|rfl|hi
    .exact .inl (by simp[Gn])
    .exact .inr (Ag _)
    .exact .inr Ab
    .exact g.Bt i (by unfold Gn;simp only[AX,Option.toList_none,BU];exact .inr (.inr hi))
  .obtain⟨J,H,G,r,q,o,y,j,u,v,b⟩:=w1.aHf rfl hc hl ho Tw Pb VB hne ((ŗ x).trans h0) ((ŗ _).trans f);refine⟨y,_,_,_,?_,t▸u,⟨Ab,λi hi Vx=>?_,g.Bt⟩⟩;.rw[Ae,S0,s];simp only[BF,l1,g1,z.Ac,B,show AB (.Gd false .mp) [.map (some id),.map none]=some (.bool false) from rfl,r,q,o,j]
   .rw[v i (λe=>Vx (e▸aHe rfl))];exact g.old i hi Vx
 .have s:A.FB x=A.inr x:=by unfold Ar.FB;rw[Af h0]
  have t:A.Dk x=A:=by unfold Ar.Dk;rw[Af h0]
  refine⟨h,n,m,ps,?_,by rw[t];exact w,.refl⟩;rw[Ad h0] at g1;rw[Ae,S0,s];simp only[BF,l1,g1]
def Nw.YJ(b:Nw A)(h1:A.len+1<=1000000000):Nw (A.Dk x):=by
 unfold Ar.Dk;split;.exact b
 .have:=b.add (y:={kind:=1,CQ:=A.len+1}) h1 AH AH;exact⟨this.n,this.at_,this.data⟩
def kh(hk:A.has x){d:Int}:(A.Dk d).nd x=A.nd x:=Yh (.inl (Yj hk))
def aHh{l:List A6}{v:Aa}{d sp:Int}{nm:An}(w:PA h a n m ps A)(C:Nw A)(hb:A.len+3<=1000000000)(hd:A.has d/\(A.nd d).kind=1)(hsp:BS.HX sp)(hv:Bq l v)(hl:l.length<=1000000000)(hs:∀y∈l,BS.HX y.Bc):
  ∃h' n' m' JB,BK cx 205 [Pt a 0,I d,I sp,.str nm,v] h (.tuple [I (A.len+1),I 0]) h'/\PA h' a n' m' JB (A.elem d sp nm l)/\DB h (λi=>i∈Gn a n m ps) h' (λi=>i∈Gn a n' m' JB)/\Nw (A.elem d sp nm l):=by
 have lJ:=w.len;have z:=aA6 (h:=h) (YF hv) hl hs;obtain⟨u,hu⟩:∃u,u=VI (Ct l):=⟨_,rfl⟩;rw[<-hu] at z;have lK:(Ct l).length<=1000000000:=by have:=Qv (l:=l);omega
 have c:=aA4 (h:=h) (y:=sp);rw[As hsp] at c;obtain⟨h1,O,w1,R,l1⟩:=œ w Ab ⟨{kind:=4,CQ:=d,Bc:=sp,name:=nm,Az:=Ct l},.slnil,u,hu⟩ rfl rfl;have b:=C.add (y:={kind:=4,CQ:=d,Bc:=sp,name:=nm,Az:=Ct l}) Ab lK AH;have Pb:(A.add {kind:=4,CQ:=d,Bc:=sp,name:=nm,Az:=Ct l}).has (A.len+1):=DQ.2 (.inr rfl);have Nj:(A.add {kind:=4,CQ:=d,Bc:=sp,name:=nm,Az:=Ct l}).nd (A.len+1)={kind:=4,CQ:=d,Bc:=sp,name:=nm,Az:=Ct l}:=by rw[IH,Af rfl]
 have G:=w.S5 (p:=⟨{kind:=4,CQ:=d,Bc:=sp,name:=nm,Az:=Ct l},.slnil,u,hu⟩) rfl R l1;have g:BK cx 158 [Pt a 0,.agg [I 4,I 0,.slnil,I d,I sp,.str nm,u,.str [],.str [],.str [],.bool false,I 0,I 0]] h (I (A.len+1)) h1:=O;have r2:=I9 w1 b Pb;have f:=aHb w1 Pb;rw[Nj] at f;have hc:u.cells=[u]:=by rw[hu];exact AV.cells WE
 unfold Ar.elem;simp only
 by_cases r:eU {kind:=4,CQ:=d,Bc:=sp,name:=nm,Az:=Ct l}
 .rw[Af r];rw[As r] at f;have eY:(A.add {kind:=4,CQ:=d,Bc:=sp,name:=nm,Az:=Ct l}).has d:=DQ.2 (.inl hd.1);obtain⟨h2,V,W,uW,N,s,J⟩:=aHg w1 b (by rw[OC];omega) eY;have B:=b.YJ (x:=d) (by rw[OC];omega);have aQ:((uW.length:Nat):Int)=((A.add {kind:=4,CQ:=d,Bc:=sp,name:=nm,Az:=Ct l}).Dk d).len:=s.len;have bt:((A.add {kind:=4,CQ:=d,Bc:=sp,name:=nm,Az:=Ct l}).Dk d).len<=A.len+2:=by rw[jq,OC];split<;>omega
  obtain⟨U,M,e,Q,l3⟩:=œ s Ab ⟨{kind:=2,En:=A.len+1,CQ:=(A.add {kind:=4,CQ:=d,Bc:=sp,name:=nm,Az:=Ct l}).FB d},.slnil,.slnil,rfl⟩ rfl rfl;obtain⟨j,D⟩:∃j,j=uW++[⟨{kind:=2,En:=A.len+1,CQ:=(A.add {kind:=4,CQ:=d,Bc:=sp,name:=nm,Az:=Ct l}).FB d},.slnil,.slnil,rfl⟩]:=⟨_,rfl⟩;have E:=s.S5 (p:=⟨{kind:=2,En:=A.len+1,CQ:=(A.add {kind:=4,CQ:=d,Bc:=sp,name:=nm,Az:=Ct l}).FB d},.slnil,.slnil,rfl⟩) rfl Q l3;rw[<-D] at e E;have o:=B.add (y:={kind:=2,En:=A.len+1,CQ:=(A.add {kind:=4,CQ:=d,Bc:=sp,name:=nm,Az:=Ct l}).FB d}) Ab AH AH;have t:BK cx 158 [Pt a 0,.agg [I 2,I 0,.slnil,I ((A.add {kind:=4,CQ:=d,Bc:=sp,name:=nm,Az:=Ct l}).FB d),I 0,.str [],.slnil,.str [],.str [],.str [],.bool false,I 0,I (A.len+1)]] h2 _ U:=M;have dY:=NW (h:=d) Pb;have Ř:=DQ (x:={kind:=2,En:=A.len+1,CQ:=(A.add {kind:=4,CQ:=d,Bc:=sp,name:=nm,Az:=Ct l}).FB d}).2 (.inl dY);have q:(((A.add {kind:=4,CQ:=d,Bc:=sp,name:=nm,Az:=Ct l}).Dk d).add {kind:=2,En:=A.len+1,CQ:=(A.add {kind:=4,CQ:=d,Bc:=sp,name:=nm,Az:=Ct l}).FB d}).nd (A.len+1)={kind:=4,CQ:=d,Bc:=sp,name:=nm,Az:=Ct l}:=by rw[Mx dY,kh Pb,Nj]
  have L:=I9 e o Ř;have hp:=(e.pn Ř).2.1;rw[q] at hp;obtain⟨T,K,H,S,P,l4⟩:=e.wr Ř (k:=11) AU (v:= I (((A.add {kind:=4,CQ:=d,Bc:=sp,name:=nm,Az:=Ct l}).Dk d).len+1)) rfl (p:=⟨{kind:=4,CQ:=d,Bc:=sp,name:=nm,Az:=Ct l,cont:=((A.add {kind:=4,CQ:=d,Bc:=sp,name:=nm,Az:=Ct l}).Dk d).len+1},(pN j (A.len+1)).kv,(pN j (A.len+1)).av,by have:=(pN j (A.len+1)).ok;rw[hp] at this;exact this⟩) (by simp only[PN.row];rw[hp];rfl) rfl (by rw[q]);refine⟨T,_,_,_,?_,H,G.trans (J.trans (E.trans (e.xn H S P l4))),o.set lK AH⟩;rw[Ae,Wp];simp only[abS,Nat.reduceLeDiff,↓reduceIte,AT,(xj (x:=d) w C).Ac,Af hd.1,Af hd.2,B2,CB,z.Ac,HB,c.Ac,hc,g.Ac,r2.Ac,f.Ac,N.Ac,t.Ac,L.Ac,K]
 .rw[Ad r];rw[Aq r] at f;refine⟨h1,_,_,_,?_,w1,G,b⟩;rw[Ae,Wp];simp only[abS,Nat.reduceLeDiff,↓reduceIte,AT,(xj (x:=d) w C).Ac,Af hd.1,Af hd.2,B2,CB,z.Ac,HB,c.Ac,hc,g.Ac,r2.Ac,f.Ac]
def bO{U:Type}{p q:U->Bool}{y:U}:∀{l:List U},(∀x∈l,p x=true->q x=true)->y∈l->p y=false->q y=true->(l.filter p).length<(l.filter q).length
 |[],_,h,_,_=>by cases h
 |x::l,hi,hy,hp,hq=>by
  have le:∀{l:List U},(∀x∈l,p x=true->q x=true)->(l.filter p).length<=(l.filter q).length:=by
   intro l;induction l with
   |nil=>intro _;simp
   |cons z l ih=>
    intro hi;have:=ih λx hx=>hi x (by simp[hx]);rw[Hq,Hq];split;.rename_i hz;rw[Af (hi z AH hz)];simp;exact this
    .split;.simp;omega
     .exact this
  have hl:=λx (hx:x∈l)=>hi x (by simp[hx]);rw[Hq,Hq];rcases AX.1 hy with rfl|hy
  .rw[Ad (by simp[hp]),Af hq];have:=le hl;simp;omega
  .have ih:=bO hl hy hp hq;split;.rename_i hz;rw[Af (hi x AH hz)];simp;exact ih
   .split;.simp;omega
    .exact ih
def uX{r:Int->Nat}{k y:Int}(hr:∀h,A.has h->A.up h≠0->r (A.up h)<r h)(hR:Reach A k y)(hy:A.has y):r k<=r y:=by
 induction hR with
 |refl=>exact Ag _
 |@step z h1 h2 ih=>
  by_cases hz:A.has (A.up z);.have:=ih hz;have:=hr z hy h1;omega
  .cases h2 with
   |refl=>have:=hr z hy h1;omega
   |step b _=>exact absurd (Yf hz) b
open Classical in
def uY{e:Int}(ok:EK A e):∃r:Int->Nat,(∀h,A.has h->A.up h≠0->r (A.up h)<r h)/\∀h,r h<=A.n.length:=by
 obtain⟨r,hr⟩:=ok.eX;refine⟨λh=>((List.range A.n.length).filter λ(i:Nat)=>decide (Reach A ((i:Int)+1) h/\(i:Int)+1≠h)).length,λh c hu=>?_,λh=>?_⟩
 .have b:=tO ok c hu;have IE:=b;unfold Ar.has at IE;have d:(((A.up h).toNat-1:Nat):Int)+1=A.up h:=Ab;refine bO (y:=(A.up h).toNat-1) (λi _ hi=>?_) (List.mem_range.2 Ab) ?_ ?_;.rw[CL] at hi⊢;refine⟨.step hu hi.1,λe=>?_⟩;have h1:=uX hr hi.1 b;have h2:=hr h c hu;rw[e] at h1;omega
  .rw[d];simp
  .rw[d,CL];exact⟨.step hu .refl,aAP ok c hu⟩
 .have:=VR (λ(i:Nat)=>decide (Reach A ((i:Int)+1) h/\(i:Int)+1≠h)) (List.range A.n.length);rwa [List.length_range] at this
def PA.cell(w:PA h a n m ps A)(hx:A.has x){k:Nat}(hk:k<13):(ps.map PN.row).flatten[0+(x.toNat-1)*13+k]?=(pN ps x).row[k]?:=by rw[BL];exact LC (o9 ps) hk (by rw[Ck,(w.pn hx).1];rfl)
open Classical in
def YK(w:PA h a n m ps A){up:Int}{r:Int->Nat}{e:Int}(ok:EK A e)(hr:∀h,A.has h->A.up h≠0->r (A.up h)<r h)(c:up≠0):∀(fuel:Nat) (x:Int),(x=0\/(A.has x/\r x<fuel))->LW (ps.map PN.row).flatten 0 ps.length up fuel x=some (decide (Reach A up x))
 |fuel,x,hx=>by
  by_cases h0:x=0
  .subst h0;have no:¬Reach A up 0:=by
    intro hR;cases hR with
    |refl=>exact c rfl
    |step h1 _=>exact h1 (Yf (by unfold Ar.has;omega))
   rw[Aq no];cases fuel<;>rfl
  .have hx:=hx.resolve_left h0;cases fuel with
   |zero=>omega
   |succ fuel=>
    have g:LW (ps.map PN.row).flatten 0 ps.length up (fuel+1) x=if x=up then some true else if 1<=x/\x<=ps.length then
      match GU (ps.map PN.row).flatten 0 x 1,GU (ps.map PN.row).flatten 0 x 12 with
      |some p,some q=>LW (ps.map PN.row).flatten 0 ps.length up fuel (if p=0 then q else p)
      |_,_=>none
     else none:=by
     rw[LW];.rfl
     .exact λh=>h0 h
    rw[g];by_cases b:x=up;.rw[Af b,b,As .refl]
    .rw[Ad b,Af (by have:=hx.1;have:=w.xg;unfold Ar.has at*;omega)];have j:GU (ps.map PN.row).flatten 0 x 1=some (A.nd x).FQ:=by unfold GU;rw[w.cell hx.1 AU,<-(w.pn hx.1).2.1];rfl
     have i:GU (ps.map PN.row).flatten 0 x 12=some (A.nd x).En:=by unfold GU;rw[w.cell hx.1 AU,<-(w.pn hx.1).2.1];rfl
     rw[j,i];simp only
     have f:(if(A.nd x).FQ=0 then(A.nd x).En else(A.nd x).FQ)=A.up x:=by unfold Ar.up;by_cases h:(A.nd x).FQ=0<;>simp[h]
     rw[f];have ih:=YK w ok hr c fuel (A.up x) (by
      by_cases hu:A.up x=0;.exact .inl hu
      .exact .inr ⟨tO ok hx.1 hu,by have:=hr x hx.1 hu;omega⟩)
     rw[ih];congr 1
     rw[Db];constructor
     .intro h1;by_cases hu:A.up x=0
      .rw[hu] at h1;cases h1 with
       |refl=>exact absurd rfl c
       |step d _=>exact absurd (Yf (by unfold Ar.has;omega)) d
      .exact .step hu h1
     .intro h1;cases h1 with
      |refl=>exact absurd rfl b
      |step _ h2=>exact h2
open Classical in
def aHi{up e:Int}(w:PA h a n m ps A)(ok:EK A e)(hu:A.has up)(hx:A.has x):BK cx 237 [Pt a 0,I up,I x] h (.bool (decide (Reach A up x))) h:=by
 obtain⟨r,hr,b⟩:=uY ok;have OV:=w.xg;have hc:=YK w ok hr (up:=up) (by have:=hu.1;omega) (ps.length+1) x (.inr ⟨hx,by have:=b x;omega⟩);have c:E7 (.Rh NI) h [Pt a 0,I up,I x]=some (h,.bool (decide (Reach A up x))):=by simp only[E7,NI,w.ha,w.hn];rw[Af (by rw[xk];omega),Af (by unfold Ar.has at hu hx;omega),hc];rfl
 rw[Ae,show B9 cx 237 [Pt a 0,I up,I x]=NJ [Pt a 0,I up,I x] from rfl,NJ];simp only[BF,c]
structure P3(h:Ah)(v:Aa)(l:List Int):Prop where
 len:AB (.len false) [v]=some (I (l.length:Int))
 at_:∀k (hk:k<l.length),∃p,AB (.Fu 1) [v,I (k:Int)]=some p/\A7 h none p=some (I l[k])
def Kv.RI{kv:Aa}{l:List Int}(hk:Kv h kv l):P3 h kv l:=by
 refine⟨hk.len,λk hlt=>?_⟩;rcases hk with⟨rfl,rfl⟩|⟨id,cs,rfl,hc⟩
 .simp at hlt
 .refine⟨Pt id k,by have:=E0 (id:=id) (z:=1) (k:= .i64) hlt;rwa [FH] at this,?_⟩;simp only[A7,hc,Ex];rw[Ai (by simpa using hlt)];simp[hlt]
def DV.RI{v:Aa}{l:List Int}(hv:DV l v):P3 h v l:=⟨AV.CN hv,λk hk=>⟨_,AV.BM hv hk,rfl⟩⟩
def aDD{v:Aa}{l:List Int}(hv:P3 h v l)(hb:l.length<=1000000000)(x:Int):BK cx 173 [v,I x] h (I (Cl (λy=>decide (x=y)) 0 l)) h:=by
 rw[Ae,gB];simp only[BF,hv.len];refine Bl (λk:Nat=>[I 0,I (k:Int)]) (λk h1=>k<=l.length/\Cl (λy=>decide (x=y)) 0 l=Cl (λy=>decide (x=y)) k (l.drop k)/\h1=h) (λk=>l.length-k) 0 rfl ⟨AZ _,rfl,rfl⟩ ?_;rintro k h1 ⟨hk,ha,rfl⟩;rcases AQ k l.length with hlt|Ei
 .have i1:(k:Int)<(l.length:Int):=by omega
  obtain⟨p,c,b⟩:=hv.at_ k hlt;rw[AG hlt,Cl] at ha;simp only[abS,i1,c,b,BO (Ab:k<9223372036854775807)];refine⟨λh2=>?_,λh2=>?_⟩;.rw[ha,Af (by simpa using h2)]
  .rw[Ad (by simpa using h2)] at ha;exact AL.next (k+1) rfl ⟨hlt,ha,rfl⟩ Ab
 .have i1:¬(k:Int)<(l.length:Int):=by omega
  rw[A0 Ei,Cl] at ha;simp only[abS,i1,ha]
def kF{l:List Int}{x:Int}(hx:x∈l):∃k,k<l.length/\Cl (λy=>decide (x=y)) 0 l=(k:Int)/\l[k]?=some x/\l.takeWhile (λy=>decide (y≠x))=l.take k/\l.dropWhile (λy=>decide (y≠x))=l.drop k:=by
 have key:∀(l:List Int) (s:Nat),x∈l->∃k,k<l.length/\Cl (λy=>decide (x=y)) s l=((s+k:Nat):Int)/\l[k]?=some x/\l.takeWhile (λy=>decide (y≠x))=l.take k/\l.dropWhile (λy=>decide (y≠x))=l.drop k:=by
  intro l;induction l with
  |nil=>intro s h;cases h
  |cons z l ih=>
   intro s h;by_cases e:x=z;.subst e;exact⟨0,AH,by rw[Cl,Af AH];simp,rfl,AH,AH⟩
   .have h2:x∈l:=(AX.1 h).resolve_left e;obtain⟨k,d,c,b,i,g⟩:=ih (s+1) h2;have f:z≠x:=λj=>e j.symm;refine⟨k+1,by simp;exact d,by rw[Cl,Ad (by simpa using e),c];congr 1;omega,by simpa using b,?_,?_⟩;.rw[aKq,Af (by simpa using f),i];rfl
    .rw[aKr,Af (by simpa using f),g];rfl
 obtain⟨k,d,c,b⟩:=key l 0 hx;exact⟨k,d,by simpa using c,b⟩
def S6{l:List Int}{x:Int}{k:Nat}(hn:l.Nodup)(hk:l[k]?=some x):l.take k++l.drop (k+1)=l.filter λy=>decide (y≠x):=by
 obtain⟨hlt,e⟩:=Al.1 hk;have c:l=l.take k++x::l.drop (k+1):=by conv=>lhs;rw[<-CD k l,AG hlt,e]
 rw[c,B3,B6] at hn;conv=>rhs;rw[c,DZ,Hq,Ad AH]
 rw[ZZ.2 (λy hy=>by simpa using λb:y=x=>hn.2.2 y hy x AH b),ZZ.2 (λy hy=>by simpa using λb:y=x=>hn.2.1.1 (b▸hy))]
def aDE{id l k:Nat}(hl:0<l)(hk:k<=l):AB (.KK 1 false false true) [.Cs id 0 l 1,I (k:Int)]=some (.Cs id 0 k 1):=by
 have b:E6 (k:Int) l=some k:=by unfold E6;rw[Af Ab];rfl
 simp[AB,JE,D3,b];omega
def aDF{id l k:Nat}(hk:k<=l):AB (.KK 1 false true false) [.Cs id 0 l 1,I (k:Int)]=some (if k<l then .Cs id k (l-k) 1 else .sl 1 []):=by
 have b:E6 (k:Int) l=some k:=by unfold E6;rw[Af Ab];rfl
 simp[AB,JE,D3,b];split<;>rfl
def aHj{id k:Nat}{l:List Int}{cs:List Aa}(hc:h[id]?=some (.cells (l.map (Aa.int .i64)++cs)))(hk:k<l.length)(hb:l.length<=1000000000):
  ∃Ha,BK cx 363 [.Cs id 0 l.length 1,I (k:Int),I ((k+1:Nat):Int)] h (.Cs id 0 (l.length-1) 1) (h.set id (.cells ((l.take k++l.drop (k+1)).map (Aa.int .i64)++Ha))):=by
 have Ih:=(Al.1 hc).1;have b:(l.take k++l.drop (k+1)).length=l.length-1:=by rw[Av,Aw,Be];omega
 obtain⟨Sr,q,hcl⟩:∃Sr,Fw h 1 8 (.Cs id 0 k 1) (if k+1<l.length then .Cs id (k+1) (l.length-(k+1)) 1 else .sl 1 [])=some (h.set id (.cells ((l.take k++l.drop (k+1)).map (Aa.int .i64)++Sr)),.Cs id 0 (l.length-1) 1)/\1<=Sr.length:=by
  have j:Gp h 1 (if k+1<l.length then .Cs id (k+1) (l.length-(k+1)) 1 else .sl 1 [])=some ((l.drop (k+1)).map BH):=by
   by_cases Qi:k+1<l.length;rotate_left;.rw[Ad Qi,A0 Ab];rfl
   rw[Af Qi];have d:=No (l:=l.drop (k+1)) (cs:=cs) (ZA:=(l.take (k+1)).map (Aa.int .i64));rw[<-AI,<-BE,CD] at d;simp only[Aj,Aw,Be] at d;rw[Cq Ab] at d;simp only[Gp,BI,hc,d];rw[Af D9]
  by_cases xo:k+1=l.length
  .refine⟨I l[k]::cs,?_,AH⟩;have o:l.drop (k+1)=[]:=A0 Ab;rw[o] at j⊢;have g:l.map (Aa.int .i64)++cs=(l.take k++[]).map (Aa.int .i64)++ I l[k]::cs:=by
    have:l=l.take k++[l[k]]:=by conv=>lhs;rw[<-CD k l,AG hk,o]
    conv=>lhs;rw[this,BE,AI]
    rw[By];rfl
   have p:h.set id (.cells ((l.take k++[]).map (Aa.int .i64)++ I l[k]::cs))=h:=by rw[<-g];obtain⟨aQ,v⟩:=Al.1 hc;rw[<-v,HE]
   simp only[Fw,j,C2,BI];rw[p,(Ab:l.length-1=k)]
  .obtain⟨y,c,hd⟩:∃y c,l.drop (k+1)=y::c:=⟨_,_,AG (Ab:k+1<l.length)⟩;have bt:(y::c).length=l.length-(k+1):=by rw[<-hd,Be]
   rw[hd] at j;have aHk:∀l3:List Int,(l3.map BH).flatten=l3.map (Aa.int .i64):=by
    intro l3;induction l3 with
    |nil=>rfl
    |cons z l3 ih=>simp[BH,ih]
   refine⟨(l.map (Aa.int .i64)++cs).drop (l.length-1),?_,D9⟩;simp only[Fw,j,Bk,hc,BI];have u:(BH y::c.map BH).length=l.length-(k+1):=by rw[<-bt];simp
   have t:(BH y::c.map BH).flatten=(y::c).map (Aa.int .i64):=by have:=aHk (y::c);simpa using this
   rw[u,t,Af D9];have s:(l.map (Aa.int .i64)++cs).take (0+k*1)=(l.take k).map (Aa.int .i64):=by rw[BL,FH,CI D9,Ft]
   rw[s,hd,(Ab:0+(k+(l.length-(k+1)))*1=l.length-1),(Ab:k+(l.length-(k+1))=l.length-1)];simp
 generalize e:h.set id (.cells ((l.take k++l.drop (k+1)).map (Aa.int .i64)++Sr))=h2 at q;have IZ:h2[id]?=some (.cells ((l.take k++l.drop (k+1)).map (Aa.int .i64)++Sr)):=by rw[<-e];exact AO Ih
 have o:E7 (.ey 1 true true) h2 [.Cs id 0 (l.length-1) 1,I ((l.length-1:Nat):Int),I (l.length:Int)]=some (h2,.Cs id (l.length-1) 1 1):=by
  simp only[E7,lT,IZ];have uZ:((l.take k++l.drop (k+1)).map (Aa.int .i64)++Sr).length=l.length-1+Sr.length:=by rw[Av,Aj,b]
  have w:E6 (l.length:Int) ((((l.take k++l.drop (k+1)).map (Aa.int .i64)++Sr).length-0)/1)=some l.length:=by unfold E6;rw[Af (by rw[uZ];omega)];rfl
  have d:E6 ((l.length-1:Nat):Int) l.length=some (l.length-1):=by unfold E6;rw[Af Ab];rfl
  rw[Af ⟨trivial,trivial,AZ _⟩];simp only[D3,w,d,Cm,B5];rw[Af (by rw[uZ];omega)];congr 3
  .omega
  .omega
 have r:E7 (.clear 1 [I 0]) h2 [.Cs id (l.length-1) 1 1]=some (h.set id (.cells ((l.take k++l.drop (k+1)).map (Aa.int .i64)++(I 0::Sr.drop 1))),.bool true):=by
  simp only[E7,WR,IZ];rw[Af ⟨trivial,rfl,by rw[Av,Aj,b];omega⟩];congr 2
  rw[<-e,Pg];congr 2
  have g:(((l.take k++l.drop (k+1)).map (Aa.int .i64)++Sr).take (l.length-1))=(l.take k++l.drop (k+1)).map (Aa.int .i64):=HQ (by rw[Aj,b]);have p:(((l.take k++l.drop (k+1)).map (Aa.int .i64)++Sr).drop (l.length-1+1*1))=Sr.drop 1:=by rw[show l.length-1+1*1=((l.take k++l.drop (k+1)).map (Aa.int .i64)).length+1 by rw[Aj,b],To];simp
  rw[g,p];simp
 refine⟨I 0::Sr.drop 1,?_⟩;have f:∀i n,AB (.len false) [.Cs i 0 n 1]=some (I (n:Int)):=λ_ _=>rfl;have g:E7 (.qR 1) h [.Cs id 0 l.length 1,I (k:Int),I ((k+1:Nat):Int),I (l.length:Int)]=some (h,.bool true):=by simp only[E7,WS];simp;omega
 rw[Ae,jL];simp only[abS,f,g,(Ab:¬(k:Int)=((k+1:Nat):Int)),aDE (id:=id) (Ab:0<l.length) (Ab:k<=l.length),aDF (id:=id) (Ab:k+1<=l.length),q,o,r]
def xq:∀{n:Nat} {l:List Int},l.Nodup->(∀x∈l,1<=x/\x<=n)->l.length<=n
 |0,l,_,h=>by
  cases l with
  |nil=>simp
  |cons x l=>have:=h x AH;omega
 |n+1,l,hn,h=>by
  have ih:=xq (n:=n) (l:=l.filter λx=>decide (x≠(n:Int)+1)) (hn.filter _) (λx hx=>by
   have h1:=DM.1 hx;have h2:=h x h1.1;have c:x≠(n:Int)+1:=by simpa using h1.2
   omega)
  have key:∀{l:List Int},l.Nodup->l.length<=(l.filter λx=>decide (x≠(n:Int)+1)).length+1:=by
   intro l hl;induction l with
   |nil=>simp
   |cons x l ih=>
    rw[B6] at hl;rw[Hq];by_cases e:x=(n:Int)+1;.rw[Ad (by simp[e]),ZZ.2 (λy hy=>by simpa using λb:y=(n:Int)+1=>hl.1 (by rw[e,<-b];exact hy))];simp
    .rw[Af (by simpa using e)];have:=ih hl.2;simp only[Bf];omega
  have:=key hn;omega
def YL{e:Int}(ok:EK A e)(x:Int):(A.nd x).Bb.length<=A.n.length:=by
 by_cases hx:A.has x;.refine xq (ok.SM x hx).jm λk hk=>?_;exact(ok.M4 x hx k hk).1
 .rw[HI hx];exact AZ _
def Nw.Bb{e:Int}(b:Nw A)(ok:EK A e)(x:Int):(A.nd x).Bb.length<=1000000000:=Br (YL ok x) b.n
def Nw.aMx{l:List Int}(b:Nw A):Nw (A.set x {A.nd x with Bb:=l}):=b.set (b.at_ x) (b.data x)
def Nw.aMy{p:Int}(b:Nw A):Nw (A.set x {A.nd x with FQ:=p}):=b.set (b.at_ x) (b.data x)
def Nw.cut(b:Nw A):Nw (A.cut x):=by
 unfold Ar.cut;simp only;split;.exact b
 .exact Nw.aMy b.aMx
def aHl{e:Int}(w:PA h a n m ps A)(l:Nw A)(ok:EK A e)(hx:A.has x):
  ∃h' JB,BK cx 238 [Pt a 0,I x] h (.tuple []) h'/\PA h' a n m JB (A.cut x)/\DB h (λi=>i∈Gn a n m ps) h' (λi=>i∈Gn a n m JB):=by
 have hb:=l.Bb ok;by_cases hp:(A.nd x).FQ=0
 .have u:A.cut x=A:=by unfold Ar.cut;simp only;rw[Af hp]
  refine⟨h,ps,?_,by rw[u];exact w,.refl⟩;rw[Ae,Wt];simp only[abS,(I9 w l hx).Ac,w.f1 hx,hp]
 .obtain⟨hq,hk⟩:=ok.FQ x hx hp;generalize d:(A.nd x).FQ=q at*;have hne:q≠x:=by rw[<-d];exact tP ok hx (by rw[d];exact hp)
  obtain⟨k,r,K,D,_,_⟩:=kF hk;have M4:=w.M4 hq;have o:=aDD M4.RI (hb q) x;rw[K] at o;rcases bu:M4 with⟨_,e0⟩|⟨id,cs,b,hc⟩
  .rw[e0] at r;simp at r
  clear bu;rw[b] at o;obtain⟨Ha,r2⟩:=aHj hc r (hb q);rw[S6 (ok.SM q hq).jm D] at r2;have aE:(A.nd q).Bb.length-1=((A.nd q).Bb.filter λy=>decide (y≠x)).length:=by rw[<-S6 (ok.SM q hq).jm D,Av,Aw,Be];omega
  rw[aE] at r2;have gl:=(Al.1 hc).1;have s:=(w.pn hq).2.1;generalize c:h.set id (.cells (((A.nd q).Bb.filter λy=>decide (y≠x)).map (Aa.int .i64)++Ha))=h1 at r2;have aHm:id∈Gn a n m ps:=LB (w.pn hq).2.2 (by rw[b];rfl);have aMz:id≠n:=by intro f;have:=w.nd;unfold Gn at this;simp only[B6,AX,Ns] at this;exact this.2.1 (f▸Ax.2 (.inr (Ch.2 ⟨_,(w.pn hq).2.2,by rw[b];rfl⟩)))
  have aRI:id≠a:=by intro f;have:=w.nd;unfold Gn at this;simp only[B6,AX,Ns] at this;exact this.1.2 (f▸Ax.2 (.inr (Ch.2 ⟨_,(w.pn hq).2.2,by rw[b];rfl⟩)))
  obtain⟨g,Ra⟩:∃g:PN,g=⟨{A.nd q with Bb:=(A.nd q).Bb.filter λy=>decide (y≠x)},.Cs id 0 ((A.nd q).Bb.filter λy=>decide (y≠x)).length 1,(pN ps q).av,w.xh hq⟩:=⟨_,rfl⟩;have aHn:g.row=(pN ps q).row.set 2 (.Cs id 0 ((A.nd q).Bb.filter λy=>decide (y≠x)).length 1):=by rw[Ra];simp only[PN.row];rw[s];rfl
  have z:h1[n]?=h[n]?:=by rw[<-c,Ap aMz]
  have B:=w.sto hq (k:=2) AU (v:= .Cs id 0 ((A.nd q).Bb.filter λy=>decide (y≠x)).length 1) rfl aHn z;have aHo:HN g.kv=HN (pN ps q).kv:=by rw[Ra,b];rfl
  have w1:=w.my hq (p:=g) (h1:=h1) (λi _ hi=>by rw[<-c,Ap];intro f;exact hi (by rw[b,f];rfl)) (by rw[Ra];exact .inr ⟨id,Ha,rfl,by rw[<-c];exact AO gl⟩) (.inl aHo)
  have aA9:=bo w hq aHo;generalize j:h1.set n (.cells ((ps.set (q.toNat-1) g).map PN.row).flatten)=h2 at B w1;generalize aRJ:ps.set (q.toNat-1) g=lO at w1 aA9;have t:g.x={A.nd q with Bb:=(A.nd q).Bb.filter λy=>decide (y≠x)}:=by rw[Ra]
  rw[t] at w1;have Pb:(A.set q {A.nd q with Bb:=(A.nd q).Bb.filter λy=>decide (y≠x)}).has x:=Ir.2 hx;have ZS:=(w1.pn Pb).2.1;have Nj:(A.set q {A.nd q with Bb:=(A.nd q).Bb.filter λy=>decide (y≠x)}).nd x=A.nd x:=by rw[JU,Ad (λh=>hne h.1.symm)]
  obtain⟨L,G,E,i3,H,l3⟩:=w1.wr Pb (k:=1) AU (v:= I 0) rfl (p:=⟨{A.nd x with FQ:=0},(pN lO x).kv,(pN lO x).av,by have:=(pN lO x).ok;rw[ZS,Nj] at this;exact this⟩) (by simp only[PN.row];rw[ZS,Nj];rfl) rfl (Ca EU.Bb Nj).symm;have u:A.cut x=(A.set q {A.nd q with Bb:=(A.nd q).Bb.filter λy=>decide (y≠x)}).set x {A.nd x with FQ:=0}:=by unfold Ar.cut;simp only;rw[d,Ad hp,Nj]
  refine⟨L,_,?_,by rw[u];exact E,?_⟩;.have inc:=BO (show k<9223372036854775807 by have:=hb q;omega);rw[Ae,Wt];simp only[abS,(I9 w l hx).Ac,(I9 w l hq).Ac,w.f1 hx,d,hp,w.f2 hq,b,o.Ac,inc,r2.Ac,B,G]
  .have aRK:h2.length=h.length:=by rw[<-j,Bp,<-c,Bp]
   refine⟨Ab,λi hi Vx=>?_,λi hi=> .inl (by rw[i3,aA9] at hi;exact hi)⟩;have C:i≠n:=λf=>Vx (f▸by simp[Gn]);have J:i≠id:=λf=>Vx (f▸aHm);rw[H i C,<-j,Ap (DJ C),<-c,Ap (DJ J)]
def pB{p:PN}(w:PA h a n m ps A)(hx:A.has x){i:Nat}(hi:i∈Gn a n m (ps.set (x.toNat-1) p)):i∈Gn a n m ps\/HN p.kv=some i:=by
 obtain⟨c,b⟩:=YG w hx p;unfold Gn at hi⊢;rw[b,EM] at hi;simp only[AX,Ax,Ch] at hi⊢;rcases hi with h1|h1|h1|⟨q,h1,h2⟩|⟨q,h1,h2⟩
 .exact .inl (.inl h1)
 .exact .inl (.inr (.inl h1))
 .exact .inl (.inr (.inr (.inl h1)))
 .exact .inl (.inr (.inr (.inr ⟨q,Bn h1,h2⟩)))
 .rcases h1 with rfl|h1
  .exact .inr h2
  .exact .inl (.inr (.inr (.inr ⟨q,Bw h1,h2⟩)))
def xr{kv:Aa}{l:List Int}{k:Nat}(hk:Kv h kv l)(Qi:k<=l.length)(hb:l.length<=1000000000)(y:Int):
  ∃h1,E7 .og h [kv,I (k:Int),.sl 1 [[I y]]]=some (h1,.Cs h.length 0 (l.length+1) 1)/\h1[h.length]?=some (.cells ((l.take k++y::l.drop k).map (Aa.int .i64)))/\(∀i,i<h.length->HN kv≠some i->h1[i]?=h[i]?)/\h1.length=h.length+1:=by
 rcases hk with⟨rfl,rfl⟩|⟨id,cs,rfl,hc⟩
 .have:k=0:=by simpa using Qi
  subst this;exact⟨h++[.cells [I y]],rfl,AH,λi hi _=>Ai hi,AH⟩
 .have Ih:=(Al.1 hc).1;refine⟨h.set id .CF++[.cells ((l.take k++y::l.drop k).map (Aa.int .i64))],?_,by rw[Bd AH];simp,λi hi hn=>?_,AH⟩
  .simp only[E7,Qe,hc];rw[Af (by have:AS=140737488355328:=rfl;simp;omega)];simp only[AY];have c:(l.map (Aa.int .i64)++cs).take k=(l.take k).map (Aa.int .i64):=by rw[CI (by simpa using Qi),Ft]
   have b:(l.map (Aa.int .i64)++cs).take l.length=l.map (Aa.int .i64):=HQ AH;rw[c,b];simp
  .rw[Ai (by simpa using hi),Ap];intro e;exact hn (by rw[e];rfl)
def OK{p b:Int}(hf:¬uk A p x b):A.FX p x b=A:=by unfold Ar.FX;rw[Ad hf]
def xt{l:List Int}{b y:Int}{k:Nat}(hb:b=0->k=l.length)(h2:b≠0->l.takeWhile (λy=>decide (y≠b))=l.take k/\l.dropWhile (λy=>decide (y≠b))=l.drop k):Jg l b y=l.take k++y::l.drop k:=by
 unfold Jg;by_cases h0:b=0;.rw[Af h0,hb h0];simp
 .rw[Ad h0,(h2 h0).1,(h2 h0).2]
open Classical in
def aHp{e p b:Int}(w:PA h a n m ps A)(d:Nw A)(ok:EK A e):
  ∃er h' JB,BK cx 111 [Pt a 0,I p,I x,I b] h (I er) h'/\PA h' a n m JB (A.FX p x b)/\DB h (λi=>i∈Gn a n m ps) h' (λi=>i∈Gn a n m JB):=by
 by_cases ZS:A.has p/\A.has x;rotate_left;.refine⟨3,h,ps,?_,by rw[OK (λf=>ZS ⟨f.hp,f.hn⟩)];exact w,.refl⟩;rw[Ae,L8];simp only[abS,FN,(LR (x:=p) (y:=x) w).Ac,Ad ZS,B2,(AU:¬(3:Int)=0)]
 obtain⟨hp,hx⟩:=ZS;by_cases hb:b≠0/\¬A.has b;.refine⟨3,h,ps,?_,by rw[OK (λf=>hb.2 (f.hb hb.1).1)];exact w,.refl⟩;rw[Ae,L8];simp only[abS,FN,(LR (x:=p) (y:=x) w).Ac,Af (And.intro hp hx),B2,CB,hb.1,(VJ (x:=b) w).Ac,Aq hb.2,A3]
 have Qk:b=0\/(b≠0/\A.has b):=by
  by_cases h0:b=0;.exact .inl h0
  .refine .inr ⟨h0,?_⟩;by_cases h1:A.has b;.exact h1
   .exact absurd ⟨h0,h1⟩ hb
 by_cases kp:Lx (A.nd p).kind;rotate_left
 .refine⟨4,h,ps,?_,by rw[OK (λf=>kp f.kp)];exact w,.refl⟩;unfold Lx at kp;have c:¬(A.nd p).kind=1:=λe=>kp (.inl e);have t:¬(A.nd p).kind=2:=λe=>kp (.inr (.inl e));have G:¬(A.nd p).kind=4:=λe=>kp (.inr (.inr e));rw[Ae,L8];rcases Qk with h0|⟨h0,Ob⟩
  .simp only[abS,FN,(LR (x:=p) (y:=x) w).Ac,Af (And.intro hp hx),B2,CB,(I9 w d hp).Ac,(I9 w d hx).Ac,w.f0 hp,w.f0 hx,c,A3,h0,t,G]
  .simp only[abS,FN,(LR (x:=p) (y:=x) w).Ac,Af (And.intro hp hx),B2,CB,(I9 w d hp).Ac,(I9 w d hx).Ac,w.f0 hp,w.f0 hx,c,A3,h0,(VJ (x:=b) w).Ac,As Ob,t,G]
 by_cases kn:(A.nd x).kind=1\/(A.nd x).kind=2
 .refine⟨4,h,ps,?_,by rw[OK (λf=>by have:=f.kn;omega)];exact w,.refl⟩;rw[Ae,L8];rcases kp with c|c|c<;>rcases kn with t|t<;>rcases Qk with h0|⟨h0,Ob⟩
  all_goals first|(simp only[abS,FN,(LR (x:=p) (y:=x) w).Ac,Af (And.intro hp hx),B2,CB,(I9 w d hp).Ac,(I9 w d hx).Ac,w.f0 hp,w.f0 hx,c,(AU:¬(2:Int)=1),(AU:¬(4:Int)=1),(AU:¬(4:Int)=2),A3,h0,t];done)|simp only[abS,FN,(LR (x:=p) (y:=x) w).Ac,Af (And.intro hp hx),B2,CB,(I9 w d hp).Ac,(I9 w d hx).Ac,w.f0 hp,w.f0 hx,c,(AU:¬(2:Int)=1),(AU:¬(4:Int)=1),(AU:¬(4:Int)=2),A3,h0,(VJ (x:=b) w).Ac,As Ob,t]
 have l:¬(A.nd x).kind=1:=λe=>kn (.inl e);have g:¬(A.nd x).kind=2:=λe=>kn (.inr e);have r:=aHi w ok hx hp;by_cases re:Reach A x p
 .refine⟨4,h,ps,?_,by rw[OK (λf=>f.re re)];exact w,.refl⟩;rw[As re] at r;rw[Ae,L8];rcases kp with c|c|c<;>rcases Qk with h0|⟨h0,Ob⟩
  all_goals first|(simp only[abS,FN,(LR (x:=p) (y:=x) w).Ac,Af (And.intro hp hx),B2,CB,(I9 w d hp).Ac,(I9 w d hx).Ac,w.f0 hp,w.f0 hx,c,(AU:¬(2:Int)=1),(AU:¬(4:Int)=1),(AU:¬(4:Int)=2),A3,h0,l,g,r.Ac];done)|simp only[abS,FN,(LR (x:=p) (y:=x) w).Ac,Af (And.intro hp hx),B2,CB,(I9 w d hp).Ac,(I9 w d hx).Ac,w.f0 hp,w.f0 hx,c,(AU:¬(2:Int)=1),(AU:¬(4:Int)=1),(AU:¬(4:Int)=2),A3,h0,(VJ (x:=b) w).Ac,As Ob,l,g,r.Ac]
 rw[Aq re] at r;by_cases q:b≠0/\(b=x\/(A.nd b).FQ≠p)
 .refine⟨5,h,ps,?_,by rw[OK (λf=>by have:=f.hb q.1;rcases q.2 with h|h;exact this.2.1 h;exact h this.2.2)];exact w,.refl⟩;obtain⟨h0,q⟩:=q;have Ob:=(Qk.resolve_left h0).2;rw[Ae,L8];by_cases o:b=x;.have aRL:=o;rcases kp with c|c|c<;>simp only[abS,FN,(LR (x:=p) (y:=x) w).Ac,Af (And.intro hp hx),B2,CB,(I9 w d hp).Ac,(I9 w d hx).Ac,w.f0 hp,w.f0 hx,c,(AU:¬(2:Int)=1),(AU:¬(4:Int)=1),(AU:¬(4:Int)=2),A3,l,g,r.Ac,o,show¬x=0 from o▸h0,As hx,(VJ (x:=x) w).Ac]
  .have q:=q.resolve_left o;rcases kp with c|c|c<;>simp only[abS,FN,(LR (x:=p) (y:=x) w).Ac,Af (And.intro hp hx),B2,CB,(I9 w d hp).Ac,(I9 w d hx).Ac,w.f0 hp,w.f0 hx,c,(AU:¬(2:Int)=1),(AU:¬(4:Int)=1),(AU:¬(4:Int)=2),A3,h0,(VJ (x:=b) w).Ac,As Ob,l,g,r.Ac,o,(I9 w d Ob).Ac,w.f1 Ob,q]
 have fits:uk A p x b:=⟨hp,hx,λh0=>⟨(Qk.resolve_left h0).2,λe=>q ⟨h0,.inl e⟩,by
  by_cases h1:(A.nd b).FQ=p;.exact h1
  .exact absurd ⟨h0,.inr h1⟩ q⟩,kp,⟨l,g⟩,re⟩
 have Z:A.FX p x b=(A.cut x).MR p x b:=by unfold Ar.FX;rw[Af fits]
 obtain⟨h1,lO,Q,w1,U⟩:=aHl w d ok hx;have VL:=tQ ok hx g;have J:=d.cut (x:=x);have Ra:(A.cut x).has p:=Li.2 hp;have Pb:(A.cut x).has x:=Li.2 hx;have K:x≠p:=by rintro rfl;exact re .refl
 have Œ:=J.Bb VL p;obtain⟨k,Qi,C,Ì⟩:∃k,k<=((A.cut x).nd p).Bb.length/\(b=0->k=((A.cut x).nd p).Bb.length)/\(b≠0->Cl (λy=>decide (b=y)) 0 ((A.cut x).nd p).Bb=(k:Int)/\((A.cut x).nd p).Bb.takeWhile (λy=>decide (y≠b))=((A.cut x).nd p).Bb.take k/\((A.cut x).nd p).Bb.dropWhile (λy=>decide (y≠b))=((A.cut x).nd p).Bb.drop k):=by
  by_cases h0:b=0;.exact⟨_,Ag _,λ_=>rfl,λh=>absurd h0 h⟩
  .have u:=fits.hb h0;have xu:((A.cut x).nd b).FQ=p:=by
    rw[RG ok hx,Ad u.2.1];split;.exact u.2.2
    .exact u.2.2
   have ŕ:b∈((A.cut x).nd p).Bb:=by have:=(VL.FQ b (Li.2 u.1) (by rw[xu];have:=hp.1;omega)).2;rwa [xu] at this
   obtain⟨k,c,t,_,G,X⟩:=kF ŕ;exact⟨k,Ab,λh=>absurd h h0,λ_=>⟨t,G,X⟩⟩
 have Rt:=xt (y:=x) C λh=>(Ì h).2;have M4:=w1.M4 Ra;obtain⟨h2,N,IZ,Zi,aQ⟩:=xr M4 Qi Œ x;have L:=(w1.pn Ra).2.1;obtain⟨s,ki⟩:∃s:PN,s=⟨{(A.cut x).nd p with Bb:=Jg ((A.cut x).nd p).Bb b x},.Cs h1.length 0 (((A.cut x).nd p).Bb.length+1) 1,(pN lO p).av,w1.xh Ra⟩:=⟨_,rfl⟩;have B:s.x={(A.cut x).nd p with Bb:=Jg ((A.cut x).nd p).Bb b x}:=by rw[ki]
 have hrow:s.row=(pN lO p).row.set 2 (.Cs h1.length 0 (((A.cut x).nd p).Bb.length+1) 1):=by rw[ki];simp only[PN.row];rw[L];rfl
 have aHr:n∈Gn a n m lO:=by simp[Gn]
 have M:HN (pN lO p).kv≠some n:=by intro E;have:=w1.nd;unfold Gn at this;simp only[B6,AX,Ns] at this;exact this.2.1 (Ax.2 (.inr (Ch.2 ⟨_,(w1.pn Ra).2.2,E⟩)))
 have H:=w1.sto Ra (k:=2) AU (v:= .Cs h1.length 0 (((A.cut x).nd p).Bb.length+1) 1) rfl hrow (Zi n (w1.lt n aHr) M);have hlen:(Jg ((A.cut x).nd p).Bb b x).length=((A.cut x).nd p).Bb.length+1:=by rw[Rt,Av,Bf,Aw,Be];omega
 have z:=w1.my Ra (p:=s) (h1:=h2) (λi hi hn=>Zi i (w1.lt i hi) hn) (by rw[ki];refine .inr ⟨h1.length,[],by simp only[hlen],?_⟩;simp only[Rt,By];exact IZ) (.inr λj hj=>by rw[ki] at hj;cases hj;exact Ag _)
 have O9:∀i,i∈Gn a n m (lO.set (p.toNat-1) s)->i∈Gn a n m lO\/i=h1.length:=by
  intro i hi;rcases pB w1 Ra hi with h|h
  .exact .inl h
  .rw[ki] at h;cases h;exact .inr rfl
 generalize D:h2.set n (.cells ((lO.set (p.toNat-1) s).map PN.row).flatten)=h3 at H z;generalize aRO:lO.set (p.toNat-1) s=uW at z O9;rw[B] at z;have dY:((A.cut x).set p {(A.cut x).nd p with Bb:=Jg ((A.cut x).nd p).Bb b x}).has x:=Ir.2 Pb;have Tv:((A.cut x).set p {(A.cut x).nd p with Bb:=Jg ((A.cut x).nd p).Bb b x}).nd x=(A.cut x).nd x:=by rw[JU,Ad (λh=>K h.1)]
 have ZS:=(z.pn dY).2.1;obtain⟨S,O,V,Y,W,l4⟩:=z.wr dY (k:=1) AU (v:= I p) rfl (p:=⟨{(A.cut x).nd x with FQ:=p},(pN uW x).kv,(pN uW x).av,by have:=(pN uW x).ok;rw[ZS,Tv] at this;exact this⟩) (by simp only[PN.row];rw[ZS,Tv];rfl) rfl (Ca EU.Bb Tv).symm;have aHs:(A.cut x).MR p x b=((A.cut x).set p {(A.cut x).nd p with Bb:=Jg ((A.cut x).nd p).Bb b x}).set x {(A.cut x).nd x with FQ:=p}:=by unfold Ar.MR;simp only;rw[Tv]
 refine⟨0,S,_,?_,by rw[Z,aHs];exact V,?_⟩
 .rw[Ae,L8];by_cases h0:b=0;.rw[C h0] at N;have kl:=M4.len;rcases kp with c|c|c<;>simp only[abS,FN,(LR (x:=p) (y:=x) w).Ac,Af (And.intro hp hx),B2,CB,(I9 w d hp).Ac,(I9 w d hx).Ac,w.f0 hp,w.f0 hx,c,(AU:¬(2:Int)=1),(AU:¬(4:Int)=1),(AU:¬(4:Int)=2),A3,h0,l,g,r.Ac,Q.Ac,w1.f2 Ra,kl,HB,N,H,O]
  .have u:=fits.hb h0;have Ob:=u.1;have P:=aDD M4.RI Œ b;rw[(Ì h0).1] at P;have kl:=M4.len;rcases kp with c|c|c<;>simp only[abS,FN,(LR (x:=p) (y:=x) w).Ac,Af (And.intro hp hx),B2,CB,(I9 w d hp).Ac,(I9 w d hx).Ac,w.f0 hp,w.f0 hx,c,(AU:¬(2:Int)=1),(AU:¬(4:Int)=1),(AU:¬(4:Int)=2),A3,h0,(VJ (x:=b) w).Ac,As Ob,l,g,r.Ac,u.2.1,(I9 w d Ob).Ac,w.f1 Ob,u.2.2,Q.Ac,w1.f2 Ra,kl,P.Ac,HB,N,H,O]
 .have lM:h3.length=h1.length+1:=by rw[<-D,Bp,aQ]
  have T:DB h1 (λi=>i∈Gn a n m lO) S (λi=>i∈Gn a n m (uW.set (x.toNat-1) ⟨{(A.cut x).nd x with FQ:=p},(pN uW x).kv,(pN uW x).av,by have:=(pN uW x).ok;rw[ZS,Tv] at this;exact this⟩)):=by
   refine⟨Ab,λi hi Vx=>?_,λi hi=>?_⟩;.have R:i≠n:=λE=>Vx (E▸aHr);rw[W i R,<-D,Ap (DJ R)];exact Zi i hi λE=>Vx (LB (w1.pn Ra).2.2 E)
   .rw[Y] at hi;rcases O9 i hi with h|h
    .exact .inl h
    .exact .inr Ab
  exact U.trans T
end
def IL(a:Nat)(b:BS)(o c t:Aa):List Aa:=[Pt a 0,I b.CQ,o,c,I b.mode,I b.SN,t,I b.head,I b.MT,.bool b.L7,I b.ctx.node,I b.ctx.Bc,.str b.ctx.name,.bool b.ctx.O0,.bool b.fs,.bool b.EV,.str b.oK,.bool b.skip,I b.sw,.bool b.stop]
def RJ(l:List Int)(v:Aa):Prop:=DV l v\/(v= .E4 1/\l=[])
def T6(l:List Int)(v:Aa):Prop:=RJ l v/\v≠ .sl 1 []
section
variable{h:Ah}{l:List Int}{v:Aa}
def RJ.cells(t:RJ l v):v.cells=[v]:=by
 rcases t with t|⟨rfl,_⟩
 .exact AV.cells t
 .rfl
def RJ.len(t:RJ l v):AB (.len false) [v]=some (I (l.length:Int)):=by
 rcases t with t|⟨rfl,rfl⟩
 .exact AV.CN t
 .rfl
def RJ.ne(t:RJ l v)(hne:l≠[]):DV l v:=by
 rcases t with t|⟨_,e⟩
 .exact t
 .exact absurd e hne
def RJ.RI(t:RJ l v):P3 h v l:=⟨t.len,λk hk=>(DV.RI (t.ne (λe=>by rw[e] at hk;simp at hk))).at_ k hk⟩
def RJ.FJ(t:RJ l v)(hb:l.length*8<=AS):∃u,AB (.append 1 8) [.slnil,v]=some u/\DV l u:=by
 rcases t with t|⟨rfl,rfl⟩
 .exact AV.FJ t hb
 .exact⟨.slnil,rfl,.inr ⟨rfl,rfl⟩⟩
def RJ.sZ(t:RJ l v)(m:Int)(hb:(l.length+1)*8<=AS):AB (.append 1 8) [v,.sl 1 [BH m]]=some (.sl 1 ((l++[m]).map BH)):=by
 rcases t with t|⟨rfl,rfl⟩
 .exact AV.Jv t hb
 .rfl
def T6.rS{m:Int}:T6 (l++[m]) (.sl 1 ((l++[m]).map BH)):=⟨.inl .mk,λe=>by injection e with _ e;simp at e⟩
def T6.nil:T6 [] .slnil:=⟨.inl (.inr ⟨rfl,rfl⟩),nofun⟩
end
structure BX(h:Ah)(bi a:Nat)(o c t:Aa)(G:Nat->Prop)(b:BS):Prop where
 hb:h[bi]?=some (.cells (IL a b o c t))
 o:BY b.AW o
 t:T6 b.tm t
 w:PW h G a b.a
 nb:¬G bi
section
variable{h:Ah}{bi a:Nat}{o c t:Aa}{G F:Nat->Prop}{b:BS}{x:Int}{m:Nat}
def BX.lt(w:BX h bi a o c t G b):bi<h.length:=(Al.1 w.hb).1
def BX.Dn{h':Ah}(w:BX h bi a o c t G b)(hf:∀i,i=bi\/G i->h'[i]?=h[i]?):BX h' bi a o c t G b:=
 ⟨by rw[hf bi (.inl rfl)];exact w.hb,w.o,w.t,w.w.Dn λi hi=>hf i (.inr hi),w.nb⟩
def BX.Ib(w:BX h bi a o c t G b){u:Ah}:BX (h++u) bi a o c t G b:=w.Dn λi hi=>Ai (by rcases hi with rfl|hi;exact w.lt;exact w.w.lt hi)
def BX.ld(w:BX h bi a o c t G b)(k:Nat):A7 h none (Pt bi k)=(IL a b o c t)[k]?:=by simp only[A7,w.hb,Ex]
def BX.l0(w:BX h bi a o c t G b):A7 h none (Pt bi 0)=some (Pt a 0):=w.ld 0
def BX.l1(w:BX h bi a o c t G b):A7 h none (Pt bi 1)=some (I b.CQ):=w.ld 1
def BX.l4(w:BX h bi a o c t G b):A7 h none (Pt bi 4)=some (I b.mode):=w.ld 4
def BX.l7(w:BX h bi a o c t G b):A7 h none (Pt bi 7)=some (I b.head):=w.ld 7
def BX.l9(w:BX h bi a o c t G b):A7 h none (Pt bi 9)=some (.bool b.L7):=w.ld 9
def BX.P_(w:BX h bi a o c t G b):A7 h none (Pt bi 15)=some (.bool b.EV):=w.ld 15
def BX.l3(w:BX h bi a o c t G b):A7 h none (Pt bi 3)=some c:=w.ld 3
def BX.l6(w:BX h bi a o c t G b):A7 h none (Pt bi 6)=some t:=w.ld 6
def BX.atO(w:BX h bi a o c t G b):At h bi 2 o:=⟨_,w.hb,rfl⟩
def BX.qM(w:BX h bi a o c t G b):At h bi 3 c:=⟨_,w.hb,rfl⟩
def BX.sO(w:BX h bi a o c t G b):L5 h bi 2 b.AW:=⟨o,w.atO,w.o⟩
def BX.sA(w:BX h bi a o c t G b):jf h (Pt bi 2) b.AW:=w.sO.at
def Iu(w:BX h bi a o c t G b):BK cx 146 [Pt bi 0] h (.bool true) h:=by rw[Ae,fU];simp only[abS,w.l0]
def PW.pa{A:Ar}(w:PW h G a A):∃n m ps,PA h a n m ps A:=let⟨n,m,ps,w,_⟩:=w;⟨n,m,ps,w⟩
def VM(w:BX h bi a o c t G b)(ok:BA b)(rm:BZ b m)(x:Int):∃K V u,BK cx 172 [Pt bi 0,I x] h (.agg [I (b.a.nd x).kind,I (b.a.nd x).FQ,K,I (b.a.nd x).CQ,I (b.a.nd x).Bc,.str (b.a.nd x).name,V,.str (b.a.nd x).data,.str (b.a.nd x).nj,.str (b.a.nd x).sys,.bool (b.a.nd x).CH,I (b.a.nd x).cont,I (b.a.nd x).En]) (h++u)/\DV (b.a.nd x).Bb K/\Ja (h++u) V (b.a.nd x).Az/\Up h.length V:=by obtain⟨n,m',ps,d⟩:=w.w.pa;obtain⟨r,u,e,K,V,rfl,g,f⟩:=aG6 (x:=x) d rm.Zp (rm.Zp.Bb ok.ok x);refine⟨K,V,u,?_,g,f⟩;rw[Ae,gA];simp only[abS,w.l0,e.Ac]
def aHt(w:BX h bi a o c t G b)(rm:BZ b m):BK cx 187 [Pt bi 0] h (.agg (FA b.AW).row) h:=by have:=rm.AW;rw[Ae,gN];simp only[abS,Fc,(Iu w).Ac,(f39 w.sA Ab).Ac]
def aHu(w:BX h bi a o c t G b)(ok:BA b)(rm:BZ b m):BK cx 320 [Pt bi 0] h (.tuple [I b.Kg.1,I b.Kg.2]) h:=by
 have hl:=rm.AW;obtain⟨n,m',ps,g⟩:=w.w.pa;have f:=Ō w.sA (Ab:b.AW.length<=1000000000) Fa;have r2:=Ō w.sA (Ab:b.AW.length<=1000000000) AK;have b1:=KZ (q:=Bs [Fa]) (l:=b.AW);have b2:=KZ (q:=Bs [AK]) (l:=b.AW);unfold BS.Kg;simp only
 generalize AR (Bs [Fa]) b.AW=d at f b1⊢;generalize AR (Bs [AK]) b.AW=i at r2 b2⊢;rw[Ae,iO];simp only[BF,f.Ac,r2.Ac];refine⟨λh1=>?_,λh1=>⟨λh2=>?_,λh2=>?_⟩⟩;.rw[Af h1];simp only[BF,Fc,(YC w.sA i).Ac]
 .rw[Ad h1,Af h2];simp only[BF,Fc,(YC w.sA 0).Ac]
 .rw[Ad h1,Ad h2];simp only[abS,Fc,(YC w.sA d).Ac,w.l0,(aG7 (x:=(Hh b.AW d).node) g rm.Zp).Ac];refine⟨λe=>?_,λe=>?_⟩;.rw[Af e]
  .rw[Ad e];have j:(if d-1<0 then 0 else d-1)=max (d-1) 0:=Ab;simp only[BF,Fc,C3 (Ab: -9223372036854775808<=d-1) (Ab:d-1<9223372036854775808),eI,j,(YC w.sA (max (d-1) 0)).Ac]
def bP:AB (.C8 1) [S Fa,S TX,S TY,S TZ,S wTr]=some (.sl 1 (HL.map CC)):=D1 (ws:=HL) rfl AU
def u9{v:Aa}{ws:List An}(hv:Jm ws v)(hn:ws.length<=1000000000)(a:Item)(h:Ah):BK cx 162 [.agg a.row,v] h (.bool (Bs ws a)) h:=by rw[Ae,fX];simp only[BF,Fc,(ŋ hv hn _ h).Ac,Bs];refine⟨λh1=>by simp[h1],λh1=>by simp[h1]⟩
def xw{A:Ar}{x:Int}(hk:(A.nd x).kind=4)(ws:List An):Bs ws ⟨0,(A.nd x).Bc,(A.nd x).name,false⟩=decide (SO ws A x):=by
 by_cases h:SO ws A x;.rw[As h];unfold Bs;rw[As];exact⟨h.2.1,h.2.2⟩
 .rw[Aq h];unfold Bs;rw[Aq];exact λh2=>h ⟨hk,h2.1,h2.2⟩
def ř(w:BX h bi a o c t G b)(ok:BA b)(rm:BZ b m)(x:Int):∃u,BK cx 171 [Pt bi 0,I x] h (.tuple [I (b.place x).1,I (b.place x).2]) (h++u):=by
 have hl:=rm.AW;by_cases C:x=0/\b.AW=[]
 .refine⟨[],?_⟩;have D:b.place x=(b.CQ,0):=by unfold BS.place;rw[Af C]
  rw[D,By,Ae,Wm];simp only[abS,(Iu w).Ac,C.1,C.2,CB,(VG w.sA).Ac,Int.natCast_zero,w.l1]
 .obtain⟨t',ht⟩:∃t',t'=if x=0 then(FA b.AW).node else x:=⟨_,rfl⟩
  obtain⟨Z,X,r,U,_,_⟩:=VM w ok rm t';have w1:=w.Ib (u:=r);have D:b.place x=if(b.a.nd (if b.EV=true/\SO HL b.a t' then b.Kg else(t',0)).1).cont≠0 then((b.a.nd (if b.EV=true/\SO HL b.a t' then b.Kg else(t',0)).1).cont,0) else if b.EV=true/\SO HL b.a t' then b.Kg else(t',0):=by unfold BS.place;rw[Ad C,<-ht]
  obtain⟨pb,bJ⟩:∃pb,pb=if b.EV=true/\SO HL b.a t' then b.Kg else(t',0):=⟨_,rfl⟩
  rw[<-bJ] at D;obtain⟨Y,V,P,r2,_,_⟩:=VM w1 ok rm pb.1;have T:=aHu w1 ok rm;have A:=u9 (ws:=HL) CX AU ⟨0,(b.a.nd t').Bc,(b.a.nd t').name,false⟩ (h++r);have em:∀s n,AB (.Cn [I 0,I 0,S [],ff] [(1,1),(2,1)]) [I s,.str n]=some (.agg (Item.row ⟨0,s,n,false⟩)):=λ_ _=>rfl;refine⟨r++P,?_⟩;rw[<-AI];have last:∀(y:Int×Int),y=pb->W cx (.call 172 [Pt bi 0,I y.1] λp=> .cells 13 p λd=> .op (.int .neq) [g d 11,I 0] λk=> .Gg k (.ret .ret [.tuple [g d 11,I 0]]) (.ret .ret [.tuple [I y.1,I y.2]])) (λj vs h1=>j=DX.ret/\vs=[.tuple [I (b.place x).1,I (b.place x).2]]/\h1=h++r++P) (h++r):=by
   rintro _ rfl;rw[D];simp only[BF,r2.Ac];refine⟨λh1=>?_,λh1=>?_⟩;.rw[Af h1]
   .rw[Ad h1]
  rw[Ae,Wm];have P_:=w1.P_;have mid:W cx (.call 172 [Pt bi 0,I t'] λO=> .cells 13 O λq=> .Oc 200009 (.op .JK [Pt bi 0] λN=> .op (.Ll 15) [N] λv16=> .load none v16 λM=> .Gg M (.op (.int .eql) [g q 0,I 4] λL=> .Gg L (.op (.Cn [I 0,I 0,S [],ff] [(1,1),(2,1)]) [g q 4,g q 5] λK=> .op (.C8 1) [S aT6,S aUr,S aUo,S aUs,S [116,114]] λv20=> .call 162 [K,v20] λJ=> .ret .normal [J]) (.ret .normal [ff])) (.ret .normal [ff])) (λx R=>match x with
    | .normal=> .Oc 100046 (.Gg (g R 0) (.call 320 [Pt bi 0] λz=> .op (.ext 0) [z] λH=> .op (.ext 1) [z] λE=> .ret .normal [H,E]) (.ret .normal [I t',I 0])) (λx f=>match x with
     | .normal=> .call 172 [Pt bi 0,g f 0] λp=> .cells 13 p λd=> .op (.int .neq) [g d 11,I 0] λk=> .Gg k (.ret .ret [.tuple [g d 11,I 0]]) (.ret .ret [.tuple [g f 0,g f 1]])
     | .exit i=> .fail
     | .ret=> .ret .ret [.tuple [g f 0,g f 1]])
    | .exit i=> .fail
    | .ret=> .ret .ret [.tuple [I t',I 0]])) (λj vs h1=>j=DX.ret/\vs=[.tuple [I (b.place x).1,I (b.place x).2]]/\h1=h++r++P) h:=by
   rw[U.Ac];by_cases hf:b.EV=true
   .rw[hf] at P_;by_cases B:(b.a.nd t').kind=4
    .rw[xw B] at A;by_cases hw:SO HL b.a t';.rw[As hw] at A;rw[Af ⟨hf,hw⟩] at bJ;have:=last b.Kg bJ.symm;simp only[abS,P_,B,em,bP,A.Ac,T.Ac];simpa only[BF,lN,Bf,BT] using this
     .rw[Aq hw] at A;rw[Ad (λh=>hw h.2)] at bJ;have:=last (t',0) bJ.symm;simp only[abS,P_,B,em,bP,A.Ac];simpa only[BF,lN,Bf,BT] using this
    .rw[Ad (λh=>B h.2.1)] at bJ;have:=last (t',0) bJ.symm;simp only[abS,P_,B];simpa only[BF,lN,Bf,BT] using this
   .rw[Ad (λh=>hf h.1)] at bJ;have:=last (t',0) bJ.symm;rw[show b.EV=false by simpa using hf] at P_;simp only[BF,P_];simpa only[BF,lN,Bf,BT] using this
  by_cases h0:x=0
  .have hne:b.AW≠[]:=λe=>C ⟨h0,e⟩;have Q:¬((b.AW.length:Nat):Int)=0:=by have:=Dy.2 hne;omega
   rw[Af h0] at ht;rw[ht] at mid;simp only[abS,(Iu w).Ac];rw[h0] at mid⊢;simp only[abS,Fc,(VG w.sA).Ac,Q,(aHt w rm).Ac] at mid⊢;exact mid
  .rw[Ad h0] at ht;rw[ht] at mid;simp only[abS,(Iu w).Ac,h0,DH] at mid⊢;exact mid
end
section
def kj{Q:HF}{h:Ah}{k:Aa->IT}:W cx (.Pm k) Q h↔W cx (k (.map (some h.length))) Q (h++[.map (ft 0)]):=Rw
section
variable{v:Aa}{l:List A6}{h:Ah}
def aMI(hv:Bq l v)(hb:l.length<=1000)(sp:Int):∃u,BK cx 203 [I sp,v] h u (h++[.map (ft 11)])/\Bq (l.map (C5 sp)) u:=by
 have DL:AV 3 (l.map A6.row) v:=hv;have Jl:Ev cx 203 [I sp,v] h λr h'=>h'=h++[.map (ft 11)]/\Bq (l.map (C5 sp)) r:=by
  unfold Ev;rw[hZ,aGw];rw[kj];simp only[BF,Nat.reduceLeDiff,↓reduceIte,AT,Cb,tK,aGe,aGf,aGg,aGh,aGi,aGj,aGk,aGl,aGm,aGn,aCR,DL.CN];refine Bl (λp:Nat×Aa=>[p.2,I (p.1:Int)]) (λp h1=>p.1<=l.length/\Bq ((l.take p.1).map (C5 sp)) p.2/\h1=h++[.map (ft 11)]) (λp=>l.length-p.1) (0,.slnil) rfl ⟨AZ _,.nil,rfl⟩ ?_;rintro⟨n,u⟩ h1 ⟨hn,hu,rfl⟩;simp only at hn hu;rcases AQ n l.length with hlt|Ei
  .have i1:(n:Int)<(l.length:Int):=by omega
   have Gx:∀{q:List Aa},q=(C5 sp l[n]).row->∃w,AB (.append 3 40) [u,.sl 3 [q]]=some w/\Bq ((l.take (n+1)).map (C5 sp)) w:=by
    rintro _ rfl;refine⟨_,AV.Jv (f:=A6.row) (a:=C5 sp l[n]) (b:=40) hu ?_,?_⟩;.simp[AS];omega
    .rw[AE hlt,BE];exact .mk
   have inc:=BO (Ab:n<9223372036854775807);by_cases e:sp=2
   .subst e;cases c:Ed (Cp l[n].name Ic) with
    |some x=>obtain⟨w,d,hw⟩:=Gx (q:=[I x.1,.str x.2,.str l[n].value]) (by simp only[C5,Kr,true_or,BI,c,A6.row]);simp only[BF,Nat.reduceLeDiff,↓reduceIte,AT,i1,DL.BM hlt,Cb,A6.row,(aGL _).B7 rfl rfl,AA,Au,Ao,Mw,c,Ej,d,inc];exact AL.next (n+1,w) rfl ⟨hlt,hw,rfl⟩ Dv
    |none=>obtain⟨w,d,hw⟩:=Gx (q:=[I 0,.str (Cp l[n].name Ic),.str l[n].value]) (by simp only[C5,Kr,true_or,BI,c,A6.row]);simp only[BF,Nat.reduceLeDiff,↓reduceIte,AT,i1,DL.BM hlt,Cb,A6.row,(aGL _).B7 rfl rfl,AA,Au,Ao,Mw,c,Ej,d,inc];exact AL.next (n+1,w) rfl ⟨hlt,hw,rfl⟩ Dv
   by_cases g:sp=3
   .subst g;by_cases hd:l[n].name=aCS
    .have c:Ed VD=none:=by decide
     obtain⟨w,d,hw⟩:=Gx (q:=[I 0,.str VD,.str l[n].value]) (by simp only[C5,Kr,hd,or_true,BI,DG,c,A6.row,Zf,e]);simp only[BF,Nat.reduceLeDiff,↓reduceIte,AT,i1,DL.BM hlt,Cb,A6.row,hd,(AU:¬(3:Int)=2),AA,Ay,Au,Ao,Mw,c,Ej,d,inc];exact AL.next (n+1,w) rfl ⟨hlt,hw,rfl⟩ Dv
    .cases c:Ed l[n].name with
     |some x=>obtain⟨w,d,hw⟩:=Gx (q:=[I x.1,.str x.2,.str l[n].value]) (by simp only[C5,Kr,hd,or_true,BI,DG,c,A6.row,aBE,e]);simp only[BF,Nat.reduceLeDiff,↓reduceIte,AT,i1,DL.BM hlt,Cb,A6.row,hd,(AU:¬(3:Int)=2),AA,Ay,Au,Ao,Mw,c,Ej,d,inc];exact AL.next (n+1,w) rfl ⟨hlt,hw,rfl⟩ Dv
     |none=>obtain⟨w,d,hw⟩:=Gx (q:=[I 0,.str l[n].name,.str l[n].value]) (by simp only[C5,Kr,hd,or_true,BI,DG,c,A6.row,aBE,e]);simp only[BF,Nat.reduceLeDiff,↓reduceIte,AT,i1,DL.BM hlt,Cb,A6.row,hd,(AU:¬(3:Int)=2),AA,Ay,Au,Ao,Mw,c,Ej,d,inc];exact AL.next (n+1,w) rfl ⟨hlt,hw,rfl⟩ Dv
   .obtain⟨w,d,hw⟩:=Gx (q:=[I 0,.str l[n].name,.str l[n].value]) (by simp only[C5,e,g,aEz,DG,A6.row]);cases c:Ed l[n].name with
    |some x=>simp only[BF,Nat.reduceLeDiff,↓reduceIte,AT,i1,DL.BM hlt,Cb,A6.row,e,g,AA,Ay,Au,Ao,Mw,c,Ej,d,inc];exact AL.next (n+1,w) rfl ⟨hlt,hw,rfl⟩ Dv
    |none=>simp only[BF,Nat.reduceLeDiff,↓reduceIte,AT,i1,DL.BM hlt,Cb,A6.row,e,g,AA,Ay,Au,Ao,Mw,c,Ej,d,inc];exact AL.next (n+1,w) rfl ⟨hlt,hw,rfl⟩ Dv
  .have i1:¬(n:Int)<(l.length:Int):=by omega
   rw[AF Ei] at hu;simp only[BF,Nat.reduceLeDiff,↓reduceIte,AT,i1,Ay,Au,Ao];exact⟨_,rfl,hu⟩
 obtain⟨r,h',hr,rfl,hu⟩:=Jl.ret;exact⟨r,hr,hu⟩
def VN{Q:HF}{s:An}{k:Aa->IT}:W cx (.B7 359 [.str aTN,.str s] k) Q h↔W cx (k (.str (Cp s Ic))) Q h:=by have e:=(aGJ NS s Di).B7 (Q:=Q) (h:=h) (k:=k) rfl rfl;rw[X3] at e;exact e
def T7{Q:HF}{s:An}{k:Aa->IT}(hs:s.length<9223372036854775807):W cx (.B7 139 [.str aTS,.str s] k) Q h↔W cx (k (.bool (decide (s∈L6)))) Q h:=by rw[HY AU hs,ï]
def aMJ(hv:Bq l v)(hs:∀a∈l,a.name.length<=1000)(hb:l.length<=1000)(sp:Int):∃u,BK cx 230 [I sp,v] h u h/\Bq (l.map (C5 sp)) u:=by
 have DL:AV 3 (l.map A6.row) v:=hv;have Jl:Ev cx 230 [I sp,v] h λr h'=>h'=h/\Bq (l.map (C5 sp)) r:=by
  unfold Ev;rw[ĥ];refine Bl (λp:Nat×Aa=>[p.2,I (p.1:Int)]) (λp h1=>p.1<=l.length/\Bq ((l.take p.1).map (C5 sp)) p.2/\h1=h) (λp=>l.length-p.1) (0,.slnil) rfl ⟨AZ _,.nil,rfl⟩ ?_;rintro⟨n,u⟩ h1 ⟨hn,hu,rfl⟩;simp only at hn hu;rcases AQ n l.length with hlt|Ei
  .have i1:(n:Int)<(l.length:Int):=by omega
   have Gx:∀{q:List Aa},q=(C5 sp l[n]).row->∃w,AB (.append 3 40) [u,.sl 3 [q]]=some w/\Bq ((l.take (n+1)).map (C5 sp)) w:=by
    rintro _ rfl;refine⟨_,AV.Jv (f:=A6.row) (a:=C5 sp l[n]) (b:=40) hu ?_,?_⟩;.simp[AS];omega
    .rw[AE hlt,BE];exact .mk
   have inc:=BO (Ab:n<9223372036854775807);have OV:=hs _ (AN hlt);have aDI:∀nm,(sp=2\/sp=3)->Kr sp l[n].name=nm->C5 sp l[n]=match Ed nm with
     |some (s,m)=>⟨s,m,l[n].value⟩
     |none=>⟨0,nm,l[n].value⟩:=by
    rintro _ hsp rfl;rw[C5,Af hsp];rfl
   by_cases x:sp=2
   .subst x;have hnm:=aDI (Cp l[n].name Ic) (.inl rfl) rfl;have lP:(Cp l[n].name Ic).length<9223372036854775807:=by rw[SG];omega
    generalize hg:Cp l[n].name Ic=nm at hnm lP;rcases Q6 nm with⟨e,i,d⟩|⟨e,⟨g,i,d⟩|⟨g,⟨j,i,d⟩|⟨j,⟨k,d⟩|⟨k,⟨o,d⟩|⟨o,d⟩⟩⟩⟩⟩
    .obtain⟨w,c,hw⟩:=Gx (q:=[I 4,.str (nm.drop 6),.str l[n].value]) (by rw[hnm];simp only[d,A6.row]);simp only[BF,Nat.reduceLeDiff,↓reduceIte,AT,DL.CN,i1,DL.BM hlt,Cb,A6.row,hg,VN,(AU:¬(2:Int)=3),AA,Ay,Au,Ao,T7 lP,e,sl6 i,Ej,c,inc];exact AL.next (n+1,w) rfl ⟨hlt,hw,rfl⟩ Dv
    .obtain⟨w,c,hw⟩:=Gx (q:=[I 5,.str (nm.drop 4),.str l[n].value]) (by rw[hnm];simp only[d,A6.row]);simp only[BF,Nat.reduceLeDiff,↓reduceIte,AT,DL.CN,i1,DL.BM hlt,Cb,A6.row,hg,VN,(AU:¬(2:Int)=3),AA,Ay,Au,Ao,T7 lP,e,AM g,sl4 i,Ej,c,inc];exact AL.next (n+1,w) rfl ⟨hlt,hw,rfl⟩ Dv
    .obtain⟨w,c,hw⟩:=Gx (q:=[I 5,.str (nm.drop 4),.str l[n].value]) (by rw[hnm];simp only[d,A6.row]);simp only[BF,Nat.reduceLeDiff,↓reduceIte,AT,DL.CN,i1,DL.BM hlt,Cb,A6.row,hg,VN,(AU:¬(2:Int)=3),AA,Ay,Au,Ao,T7 lP,e,g,AM j,sl4 i,Ej,c,inc];exact AL.next (n+1,w) rfl ⟨hlt,hw,rfl⟩ Dv
    .obtain⟨w,c,hw⟩:=Gx (q:=[I 6,.str nm,.str l[n].value]) (by rw[hnm];simp only[d,A6.row]);simp only[BF,Nat.reduceLeDiff,↓reduceIte,AT,DL.CN,i1,DL.BM hlt,Cb,A6.row,hg,VN,(AU:¬(2:Int)=3),AA,Ay,Au,Ao,T7 lP,e,g,j,AM k,Ej,c,inc];exact AL.next (n+1,w) rfl ⟨hlt,hw,rfl⟩ Dv
    .obtain⟨w,c,hw⟩:=Gx (q:=[I 6,.str tL,.str l[n].value]) (by rw[hnm];simp only[d,A6.row]);simp only[BF,Nat.reduceLeDiff,↓reduceIte,AT,DL.CN,i1,DL.BM hlt,Cb,A6.row,hg,VN,(AU:¬(2:Int)=3),AA,Ay,Au,Ao,T7 lP,e,g,j,k,AM o,Ej,c,inc];exact AL.next (n+1,w) rfl ⟨hlt,hw,rfl⟩ Dv
    .obtain⟨w,c,hw⟩:=Gx (q:=[I 0,.str nm,.str l[n].value]) (by rw[hnm];simp only[d,A6.row]);simp only[BF,Nat.reduceLeDiff,↓reduceIte,AT,DL.CN,i1,DL.BM hlt,Cb,A6.row,hg,VN,(AU:¬(2:Int)=3),AA,Ay,Au,Ao,T7 lP,e,g,j,k,o,Ej,c,inc];exact AL.next (n+1,w) rfl ⟨hlt,hw,rfl⟩ Dv
   by_cases t:sp=3
   .subst t;by_cases hd:l[n].name=aCS;.have hnm:=aDI VD (.inr rfl) (by rw[Kr,Ad AU,Af ⟨rfl,hd⟩]);rw[(AU:Ed VD=none)] at hnm;obtain⟨w,c,hw⟩:=Gx (q:=[I 0,.str VD,.str l[n].value]) (by rw[hnm];rfl);have lP:VD.length<9223372036854775807:=AU;simp only[BF,Nat.reduceLeDiff,↓reduceIte,AT,DL.CN,i1,DL.BM hlt,Cb,A6.row,hd,(AU:¬(3:Int)=2),AA,Ay,Au,Ao,T7 lP,(AU:VD∉L6),(AU:¬VD=nY),(AU:¬VD=X9),(AU:¬VD=nZ),(AU:¬VD=Ya),Ej,c,inc];exact AL.next (n+1,w) rfl ⟨hlt,hw,rfl⟩ Dv
    have hnm:=aDI l[n].name (.inr rfl) (by rw[Kr,Ad AU,Ad (λh=>hd h.2)]);have lP:l[n].name.length<9223372036854775807:=Ab;rcases Q6 l[n].name with⟨e,i,d⟩|⟨e,⟨g,i,d⟩|⟨g,⟨j,i,d⟩|⟨j,⟨k,d⟩|⟨k,⟨o,d⟩|⟨o,d⟩⟩⟩⟩⟩
    .obtain⟨w,c,hw⟩:=Gx (q:=[I 4,.str (l[n].name.drop 6),.str l[n].value]) (by rw[hnm];simp only[d,A6.row]);simp only[BF,Nat.reduceLeDiff,↓reduceIte,AT,DL.CN,i1,DL.BM hlt,Cb,A6.row,hd,VN,(AU:¬(3:Int)=2),AA,Ay,Au,Ao,T7 lP,e,sl6 i,Ej,c,inc];exact AL.next (n+1,w) rfl ⟨hlt,hw,rfl⟩ Dv
    .obtain⟨w,c,hw⟩:=Gx (q:=[I 5,.str (l[n].name.drop 4),.str l[n].value]) (by rw[hnm];simp only[d,A6.row]);simp only[BF,Nat.reduceLeDiff,↓reduceIte,AT,DL.CN,i1,DL.BM hlt,Cb,A6.row,hd,VN,(AU:¬(3:Int)=2),AA,Ay,Au,Ao,T7 lP,e,AM g,sl4 i,Ej,c,inc];exact AL.next (n+1,w) rfl ⟨hlt,hw,rfl⟩ Dv
    .obtain⟨w,c,hw⟩:=Gx (q:=[I 5,.str (l[n].name.drop 4),.str l[n].value]) (by rw[hnm];simp only[d,A6.row]);simp only[BF,Nat.reduceLeDiff,↓reduceIte,AT,DL.CN,i1,DL.BM hlt,Cb,A6.row,hd,VN,(AU:¬(3:Int)=2),AA,Ay,Au,Ao,T7 lP,e,g,AM j,sl4 i,Ej,c,inc];exact AL.next (n+1,w) rfl ⟨hlt,hw,rfl⟩ Dv
    .obtain⟨w,c,hw⟩:=Gx (q:=[I 6,.str l[n].name,.str l[n].value]) (by rw[hnm];simp only[d,A6.row]);simp only[BF,Nat.reduceLeDiff,↓reduceIte,AT,DL.CN,i1,DL.BM hlt,Cb,A6.row,hd,VN,(AU:¬(3:Int)=2),AA,Ay,Au,Ao,T7 lP,e,g,j,AM k,Ej,c,inc];exact AL.next (n+1,w) rfl ⟨hlt,hw,rfl⟩ Dv
    .obtain⟨w,c,hw⟩:=Gx (q:=[I 6,.str tL,.str l[n].value]) (by rw[hnm];simp only[d,A6.row]);simp only[BF,Nat.reduceLeDiff,↓reduceIte,AT,DL.CN,i1,DL.BM hlt,Cb,A6.row,hd,VN,(AU:¬(3:Int)=2),AA,Ay,Au,Ao,T7 lP,e,g,j,k,AM o,Ej,c,inc];exact AL.next (n+1,w) rfl ⟨hlt,hw,rfl⟩ Dv
    .obtain⟨w,c,hw⟩:=Gx (q:=[I 0,.str l[n].name,.str l[n].value]) (by rw[hnm];simp only[d,A6.row]);simp only[BF,Nat.reduceLeDiff,↓reduceIte,AT,DL.CN,i1,DL.BM hlt,Cb,A6.row,hd,VN,(AU:¬(3:Int)=2),AA,Ay,Au,Ao,T7 lP,e,g,j,k,o,Ej,c,inc];exact AL.next (n+1,w) rfl ⟨hlt,hw,rfl⟩ Dv
   .obtain⟨w,c,hw⟩:=Gx (q:=[I 0,.str l[n].name,.str l[n].value]) (by simp only[C5,x,t,aEz,DG,A6.row]);simp only[BF,Nat.reduceLeDiff,↓reduceIte,AT,DL.CN,i1,DL.BM hlt,Cb,A6.row,x,t,AA,Ay,Au,Ao,Ej,c,inc];exact AL.next (n+1,w) rfl ⟨hlt,hw,rfl⟩ Dv
  .have i1:¬(n:Int)<(l.length:Int):=by omega
   rw[AF Ei] at hu;simp only[BF,Nat.reduceLeDiff,↓reduceIte,AT,DL.CN,i1,Ay,Au,Ao];exact⟨_,rfl,hu⟩
 obtain⟨r,h',hr,rfl,hu⟩:=Jl.ret;exact⟨r,hr,hu⟩
end
end
def Bt(bi:Nat)(G:Nat->Prop):Nat->Prop:=λi=>i=bi\/G i
section
variable{h h':Ah}{bi a:Nat}{o c t:Aa}{G G' F:Nat->Prop}{b:BS}{x:Int}{m:Nat}
def DB.aBb(x:DB h G h' G'):DB h (Am.Bt bi G) h' (Am.Bt bi G'):=⟨x.len,λi hi hn=>x.old i hi λhg=>hn (.inr hg),λi hi=>by
 rcases hi with rfl|hi
 .exact .inl (.inl rfl)
 .rcases x.Bt i hi with h|h
  .exact .inl (.inr h)
  .exact .inr h⟩
def BX.bw{A':Ar}(w:BX h bi a o c t G b)(hp:PW h' G' a A')(x:DB h G h' G'):BX h' bi a o c t G' {b with a:=A'}/\DB h (Bt bi G) h' (Bt bi G'):=
 ⟨⟨by rw[x.old bi w.lt w.nb];exact w.hb,w.o,w.t,hp,λhg=>by rcases x.Bt bi hg with h|h;exact w.nb h;have:=w.lt;omega⟩,x.aBb⟩
def BX.step{A':Ar}{R:Ah->Prop}(w:BX h bi a o c t G b)(d:∀n m ps,PA h a n m ps b.a->∃h' n' m' JB,R h'/\PA h' a n' m' JB A'/\DB h (λi=>i∈Gn a n m ps) h' (λi=>i∈Gn a n' m' JB)):
  ∃h' G',R h'/\BX h' bi a o c t G' {b with a:=A'}/\DB h (Bt bi G) h' (Bt bi G'):=by
 obtain⟨n,m,ps,g,e⟩:=w.w;obtain⟨h',n',m',JB,r,w',x⟩:=d n m ps g;have k:G=λi=>i∈Gn a n m ps:=funext λi=>propext (e i);obtain⟨j,f⟩:=w.bw w'.pw (by rw[k];exact x);exact⟨h',_,r,j,f⟩
def BX.C0(w:BX h bi a o c t G b){u:Ah}:DB h (Bt bi G) (h++u) (Bt bi G):= .Ib
def aHx{v:Aa}{l:List Int}{f:FuncId}{caps:List Aa}{q:Int->Bool}(hv:DV l v)(hb:l.length<=1000000000)(hf:f<=99999)(hq:∀k∈l,∀u,∃d,BK cx f (I k::caps) (h++u) (.bool (q k)) (h++u++d)):
  ∃u,BK cx 396 [v,.func (.func f) [] caps] h (I (Cl q 0 l)) (h++u):=by
 have DL:AV 1 (l.map BH) v:=hv;have Jl:Ev cx 396 [v,.func (.func f) [] caps] h λr h'=>r= I (Cl q 0 l)/\∃u,h'=h++u:=by
  unfold Ev;rw[jP];simp only[BF,DL.CN];refine Bl (λk:Nat=>[I 0,I (k:Int)]) (λk h1=>k<=l.length/\Cl q 0 l=Cl q k (l.drop k)/\∃u,h1=h++u) (λk=>l.length-k) 0 rfl ⟨AZ _,rfl,[],AH⟩ ?_;rintro k h1 ⟨hk,ha,u,rfl⟩;rcases AQ k l.length with hlt|Ei
  .have i1:(k:Int)<(l.length:Int):=by omega
   have g:A7 (h++u) none (.CJ (BH l[k]))=some (I l[k]):=rfl;obtain⟨d,e⟩:=hq _ (AN hlt) u;rw[AG hlt,Cl] at ha;simp only[abS,↓reduceIte,DD,i1,DL.BM hlt,g,hf,e.Ac,BO (Ab:k<9223372036854775807)];rw[CT];refine⟨λh2=>?_,λh2=>?_⟩;.exact⟨_,rfl,by rw[ha,Af h2],u++d,AH⟩
   .rw[Ad (by simp[h2])] at ha;exact AL.next (k+1) rfl ⟨hlt,ha,u++d,AH⟩ Ab
  .have i1:¬(k:Int)<(l.length:Int):=by omega
   rw[A0 Ei,Cl] at ha;simp only[abS,↓reduceIte,DD,i1];exact⟨_,rfl,by rw[ha],u,rfl⟩
 obtain⟨r,h',hr,rfl,u,rfl⟩:=Jl.ret;exact⟨u,hr⟩
def Ś{l:List Int}{q:Int->Bool}:decide (0<=Cl q 0 l)=l.any q:=by
 rcases HK (p:=q) (l:=l) (k:=0) with⟨h1,h2⟩|⟨n,y,h1,h2,d⟩
 .rw[h1,ob];have:=Jr.1 h2;simpa using this
 .rw[h1,ob];have f:=Vk d;have e:=QR d;rw[As Ab,Ts];exact⟨y,e,f⟩
def BX.self(w:BX h bi a o c t G b){A':Ar}(e:A'=b.a):BX h bi a o c t G {b with a:=A'}:=by subst e;exact w
open Classical in
def pC{p bf:Int}(w:BX h bi a o c t G b)(ok:BA b)(rm:BZ b m):∃h' G',BK cx 159 [Pt bi 0,I x,I p,I bf] h (.tuple []) h'/\BX h' bi a o c t G' {b with a:=b.a.EA x p bf}/\DB h (Bt bi G) h' (Bt bi G'):=by
 obtain⟨K1,V1,d,J,_,_⟩:=VM w ok rm p;have w1:=w.Ib (u:=d);have X:∀v,Aa.cells (.ptr v)=[.ptr v]:=λ_=>rfl;have HG:∀h2,(∃u,h2=h++u)->∃h' G',(∃s,BK cx 111 [Pt a 0,I p,I x,I bf] h2 (I s) h')/\BX h' bi a o c t G' {b with a:=b.a.FX p x bf}/\DB h (Bt bi G) h' (Bt bi G'):=by
  rintro _ ⟨u,rfl⟩;have g:=w.Ib (u:=u);obtain⟨h',G',r,w',x'⟩:=g.step (A':=b.a.FX p x bf) (R:=λh'=>∃s,BK cx 111 [Pt a 0,I p,I x,I bf] (h++u) (I s) h') (λn m ps Q=>by obtain⟨s,h',JB,r,wp,P⟩:=aHp Q rm.Zp ok.ok (p:=p) (x:=x) (b:=bf);exact⟨h',n,m,JB,⟨s,r⟩,wp,P⟩)
  exact⟨h',G',r,w',w.C0.trans x'⟩
 by_cases A:(b.a.nd p).kind=1
 .obtain⟨K2,Z,j,r2,_,_⟩:=VM w1 ok rm x;have g:=w1.Ib (u:=j);by_cases D:(b.a.nd x).kind=4
  .obtain⟨V,W,uW,M⟩:=g.w.pa;obtain⟨K,O,U⟩:=aA0 (x:=p) M rm.Zp (rm.Zp.Bb ok.ok p);obtain⟨H,T⟩:=aHx (h:=h++d++j) (f:=307) (caps:=[.CJ [Pt bi 0]]) (q:=λk=>decide ((b.a.nd k).kind=4)) U (rm.Zp.Bb ok.ok p) AU (λk _ u=>by have E:=g.Ib (u:=u);obtain⟨K3,Y,S,y,_,_⟩:=VM E ok rm k;refine⟨S,?_⟩;rw[Ae,iH];simp only[BF,y.Ac])
   have i:BK cx 305 [K,.func (.func 307) [] [.CJ [Pt bi 0]]] (h++d++j) (.bool ((b.a.nd p).Bb.any λk=>decide ((b.a.nd k).kind=4))) (h++d++j++H):=by rw[Ae,iG,<-Ś];simp only[BF,T.Ac]
   have E:=g.Ib (u:=H);by_cases L:∃k∈(b.a.nd p).Bb,(b.a.nd k).kind=4
   .have N:((b.a.nd p).Bb.any λk=>decide ((b.a.nd k).kind=4))=true:=by simpa using L
    rw[N] at i;have z:b.a.EA x p bf=b.a:=by unfold Ar.EA;rw[Af ⟨A,D,L⟩]
    refine⟨_,G,?_,E.self z,(w.C0.trans w1.C0).trans g.C0⟩;rw[Ae,QD];simp only[abS,J.Ac,A,r2.Ac,D,g.l0,O.Ac,i.Ac]
   .have N:((b.a.nd p).Bb.any λk=>decide ((b.a.nd k).kind=4))=false:=by rw[aPF];intro k hk;simpa using λe=>L ⟨k,hk,e⟩
    rw[N] at i;have z:b.a.EA x p bf=b.a.FX p x bf:=by unfold Ar.EA;rw[Ad (λh=>L h.2.2)]
    obtain⟨h',G',⟨s,y⟩,C,B⟩:=HG (h++d++j++H) ⟨d++j++H,AH⟩;refine⟨h',G',?_,by rw[z];exact C,B⟩;rw[Ae,QD];simp only[abS,J.Ac,A,r2.Ac,D,g.l0,O.Ac,i.Ac,E.l0,y.Ac]
  .have z:b.a.EA x p bf=b.a.FX p x bf:=by unfold Ar.EA;rw[Ad (λh=>D h.2.1)]
   obtain⟨h',G',⟨s,y⟩,C,B⟩:=HG (h++d++j) ⟨d++j,AH⟩;refine⟨h',G',?_,by rw[z];exact C,B⟩;rw[Ae,QD];simp only[abS,J.Ac,A,r2.Ac,D,g.l0,y.Ac]
 .have z:b.a.EA x p bf=b.a.FX p x bf:=by unfold Ar.EA;rw[Ad (λh=>A h.1)]
  obtain⟨h',G',⟨s,y⟩,C,B⟩:=HG (h++d) ⟨d,rfl⟩;refine⟨h',G',?_,by rw[z];exact C,B⟩;rw[Ae,QD];simp only[abS,J.Ac,A,w1.l0,y.Ac]
def aHy(w:BX h bi a o c t G b)(ok:BA b)(rm:BZ b m)(p:Int):∃u,BK cx 206 [Pt bi 0,I p] h (I (b.II p)) (h++u):=by
 obtain⟨n,j,d,f,_,_⟩:=VM w ok rm p;have w1:=w.Ib (u:=d);unfold BS.II;by_cases hc:(b.a.nd p).cont=0
 .refine⟨d,?_⟩;rw[Ad (by simp[hc]),Ae,Wq];simp only[abS,f.Ac,hc,B2,CB,w1.l1];refine⟨λh1=>?_,λh1=>?_⟩;.rw[Af h1]
  .rw[Ad h1]
 .obtain⟨k,i,e,r2,_,_⟩:=VM w1 ok rm (b.a.nd p).cont;have g:=w1.Ib (u:=e);refine⟨d++e,?_⟩;rw[Af hc,<-AI,Ae,Wq];simp only[abS,f.Ac,r2.Ac,hc,B2,g.l1];refine⟨λh1=>?_,λh1=>?_⟩;.rw[Af h1]
  .rw[Ad h1]
def N1(nm:An)(av:Aa)(r:List Aa):Prop:=∃n k j i g f e d VA XK,r=[n,.str nm,k,j,i,g,f,e,av,d,VA,XK]
def Np:Aa.agg Item.zero.row= .agg [I 0,I 0,S [],ff]:=rfl
variable{nm:An}{av:Aa}{l:List A6}{r:List Aa}{sp p:Int}
def BZ.len{k:Nat}(rm:BZ b k)(hk:3<=k):b.a.len+3<=1000000000:=by have:=rm.n;unfold Ar.len;omega
def xy(w:BX h bi a o c t G b)(ok:BA b)(rm:BZ b (m+3))(hr:N1 nm av r)(hv:Bq l av)(hl:DP l)(hn:nm.length<=1000)(p sp:Int):
  ∃h' G',BK cx 85 [Pt bi 0,.agg r,I sp,I p] h (.agg (b.GB nm l sp).row) h'/\BX h' bi a o c t G' (b.Es nm l sp p)/\DB h (Bt bi G) h' (Bt bi G'):=by
 obtain⟨O,N,M,L,K,J,H,E,VA,XK,rfl⟩:=hr;by_cases hs:BS.HX sp
 .obtain⟨D,s,hu⟩:=aMI (h:=h) hv hl.1 sp;have w1:=w.Ib (u:=[.map (ft 11)]);obtain⟨j,r2⟩:=aHy w1 ok rm p;have g:=w1.Ib (u:=j);have hd:=Qz ok (p:=p);have i:∀y∈l.map (C5 sp),BS.HX y.Bc:=by intro y hy;obtain⟨z,_,rfl⟩:=Bm.1 hy;exact fB
  obtain⟨h',G',⟨f,_⟩,C,A⟩:=g.step (A':=b.a.elem (b.II p) sp (BS.IJ sp nm) (l.map (C5 sp))) (R:=λh'=>BK cx 205 [Pt a 0,I (b.II p),I sp,.str (BS.IJ sp nm),D] (h++[.map (ft 11)]++j) (.tuple [I (b.a.len+1),I 0]) h'/\True) (λn m ps B=>by obtain⟨h',n',m',JB,r,wp,v,_⟩:=aHh B rm.Zp (rm.len Ab) hd hs hu (by rw[Aj];have:=hl.1;omega) i (nm:=BS.IJ sp nm);exact⟨h',n',m',JB,⟨r,trivial⟩,wp,v⟩)
  have d:=f96 (h:=h') hu (λy hy=>by obtain⟨z,hz,rfl⟩:=Bm.1 hy;rw[bL];have:=(hl.2 z hz).2;have:AS=140737488355328:=rfl;omega) (by rw[Aj];have:=hl.1;omega) sp (BS.IJ sp nm);have em:AB (.Cn [I 0,I 0,S [],ff] [(0,1),(1,1),(2,1),(3,1)]) [I (b.a.len+1),I sp,.str (BS.IJ sp nm),.bool (Fm sp (BS.IJ sp nm) (l.map (C5 sp)))]=some (.agg (b.GB nm l sp).row):=by rw[bD];unfold BS.GB;rw[Af hs]
  refine⟨h',G',?_,by unfold BS.Es;rw[Af hs];exact C,(w.C0.trans w1.C0).trans A⟩;have q:¬sp<0:=by have:=hs.1;omega
  have k:¬7<sp:=by have:=hs.2;omega
  have hlen:=λ(y:Item)=>@Item.CP y;rw[Ae,fI];by_cases h2:sp=2
  .have e:BS.IJ sp nm=Cp nm I3:=by unfold BS.IJ;rw[Af h2]
   rw[e] at f d em;subst h2;simp only[abS,↓reduceIte,AT,Fc,(Iu w).Ac,q,k,DH,s.Ac,Dx,CB,(aLI nm).B7 rfl rfl,w1.l0,r2.Ac,g.l0,BN,f.Ac,B2,d.Ac,em,hlen]
  .have e:BS.IJ sp nm=nm:=by unfold BS.IJ;rw[Ad h2]
   rw[e] at f d em;simp only[abS,↓reduceIte,AT,Fc,(Iu w).Ac,q,k,DH,s.Ac,h2,w1.l0,r2.Ac,g.l0,BN,f.Ac,B2,CB,d.Ac,em,hlen]
 .refine⟨h,G,?_,by unfold BS.Es;rw[Ad hs];exact w,.refl⟩;have e:b.GB nm l sp=Item.zero:=by unfold BS.GB;rw[Ad hs]
  rw[e,Np,Ae,fI];unfold BS.HX at hs;by_cases h1:sp<0;.simp only[abS,↓reduceIte,AT,(Iu w).Ac,h1,Dx]
  .simp only[abS,↓reduceIte,AT,(Iu w).Ac,h1,DH,(Ab:7<sp),Dx]
def Bg{k:Nat}{v:Aa}:DB h (Bt bi G) (put h bi k v) (Bt bi G):=⟨by rw[JG];exact Ag _,λi _ hn=>Cj λe=>hn (.inl e),λ_ h=> .inl h⟩
def BX.put{k:Nat}{v o' c' t':Aa}{b':BS}(w:BX h bi a o c t G b)(e:(IL a b o c t).set k v=IL a b' o' c' t')(ea:b'.a=b.a)(ho:BY b'.AW o')(ht:T6 b'.tm t'):BX (Am.put h bi k v) bi a o' c' t' G b':=
 ⟨by rw[Hy w.hb,e];exact AO w.lt,ho,ht,by rw[ea];exact w.w.Dn λi hi=>Cj λe=>w.nb (e▸hi),w.nb⟩
def BX.HZ{u:Aa}{l:List Item}(w:BX h bi a o c t G b)(hu:BY l u):BX (Am.put h bi 2 u) bi a u c t G {b with AW:=l}:=w.put rfl rfl hu w.t
def BX.Kh{u:Aa}{l:List Cc}(w:BX h bi a o c t G b):BX (Am.put h bi 3 u) bi a o u t G {b with A5:=l}:=w.put rfl rfl w.o w.t
def BX.st{k:Nat}{v v0:Aa}(w:BX h bi a o c t G b)(hk:(IL a b o c t)[k]?=some v0)(hv:v.cells=[v]):Co h 1 (Pt bi k) v=some (Am.put h bi k v):=At.store (v:=v0) ⟨_,w.hb,hk⟩ hv
variable{nm:An}{av:Aa}{l:List A6}{r:List Aa}{sp p:Int}
def aML(w:BX h bi a o c t G b)(ok:BA b)(rm:BZ b (m+4))(hr:N1 nm av r)(hv:Bq l av)(hl:DP l)(hn:nm.length<=1000)(sp:Int):
  ∃h' o' G',BK cx 169 [Pt bi 0,.func (.func 85) [Pt bi 0] [],.agg r,I sp] h (I (b.Pc sp)) h'/\BX h' bi a o' c t G' (b.EG nm l sp)/\DB h (Bt bi G) h' (Bt bi G'):=by
 obtain⟨s,n⟩:=ř w ok rm 0;have w1:=w.Ib (u:=s);obtain⟨h2,A,r2,k,i⟩:=xy (m:=m+1) w1 ok (rm.le Ab) hr hv hl hn (b.place 0).1 sp;have F9:=hr;obtain⟨L,K,J,H,E,D,C,B,VA,XK,rfl⟩:=hr;have ho:=rm.AW;by_cases hs:BS.HX sp
 .have xz:=uy (nm:=nm) (at_:=l) (p:=(b.place 0).1) ok hs;have U9:=I8 (m:=m+1) (nm:=nm) (sp:=sp) (p:=(b.place 0).1) (rm.le Ab) hl;have YM:(b.GB nm l sp).node=b.a.len+1:=by unfold BS.GB;rw[Af hs]
  have Zj:¬(b.a.len+1=0):=by unfold Ar.len;omega
  have Oa:(b.Es nm l sp (b.place 0).1).AW=b.AW:=by unfold BS.Es;rw[Af hs]
  obtain⟨y,z,v,j,q⟩:=pC (x:=b.a.len+1) (p:=(b.place 0).1) (bf:=(b.place 0).2) k xz U9;obtain⟨v4,d,f⟩:=f95 j.sO (by simp only[Oa];omega) (b.GB nm l sp);refine⟨Am.put y bi 2 v4,v4,z,?_,?_,((w.C0.trans i).trans q).trans Bg⟩
  .have g:b.Pc sp=b.a.len+1:=by unfold BS.Pc;rw[Af hs]
   rw[Ae,Wl,g];simp only[abS,Nat.reduceAdd,↓reduceIte,DD,Fc,n.Ac,(AU:(85:Nat)<=99999),r2.Ac,YM,Zj,B2,v.Ac];have e:=@Item.PS (b.GB nm l sp);rw[YM] at e;rw[<-e] at d;simp only[e] at d⊢;simp only[d.Ac,BF]
  .have:=j.HZ f;unfold BS.EG;rw[Af hs];exact this
 .refine⟨h2,o,A,?_,?_,w.C0.trans i⟩
  .have e:b.GB nm l sp=Item.zero:=by unfold BS.GB;rw[Ad hs]
   have g:b.Pc sp=0:=by unfold BS.Pc;rw[Ad hs]
   rw[e,Np] at r2;rw[Ae,Wl,g];simp only[abS,Nat.reduceAdd,↓reduceIte,DD,Fc,n.Ac,(AU:(85:Nat)<=99999),r2.Ac,B2,CB]
  .have:b.EG nm l sp=b.Es nm l sp (b.place 0).1:=by unfold BS.EG BS.Es;rw[Ad hs,Ad hs]
   rw[this];exact k
def aHz(w:BX h bi a o c t G b)(ok:BA b)(rm:BZ b (m+4))(hr:N1 nm av r)(hv:Bq l av)(hl:DP l)(hn:nm.length<=1000)(sp:Int):
  ∃h' o' G',BK cx 67 [Pt bi 0,.agg r,I sp] h (I (b.Pc sp)) h'/\BX h' bi a o' c t G' (b.EG nm l sp)/\DB h (Bt bi G) h' (Bt bi G'):=by
 obtain⟨h',o',G',d,w',x'⟩:=aML w ok rm hr hv hl hn sp;refine⟨h',o',G',?_,w',x'⟩;obtain⟨q,n,k,j,i,g,f,e,VA,XK,rfl⟩:=hr;rw[Ae,uG,t67];simp only[abS,(Iu w).Ac,d.Ac]
def x_(w:BX h bi a o c t G b)(ok:BA b)(rm:BZ b (m+4))(hr:N1 nm av r)(hv:Bq l av)(hl:DP l)(hn:nm.length<=1000):
  ∃h' o' G',BK cx 65 [Pt bi 0,.agg r] h (I (b.a.len+1)) h'/\BX h' bi a o' c t G' (b.EG nm l 1)/\DB h (Bt bi G) h' (Bt bi G'):=by
 obtain⟨h',o',G',d,w',x'⟩:=aHz w ok rm hr hv hl hn 1;refine⟨h',o',G',?_,w',x'⟩;have e:b.Pc 1=b.a.len+1:=by unfold BS.Pc;rw[Af J1]
 rw[e] at d;obtain⟨s,q,n,k,j,i,g,f,VA,XK,rfl⟩:=hr;rw[Ae,uF];simp only[BF,d.Ac]
end
def B1(l:List Cc)(v:Aa):Prop:=∃fs:List Ci,fs.map (·.c)=l/\Dr fs v
def Va{U Z:Type}{f:U->Z}{q:Z->Bool}{l:List U}:AR q (l.map f)=AR (λx=>q (f x)) l:=by unfold AR;rw[<-Tt,List.findIdx?_map,Aj];rfl
def vA{U Z:Type}{f:U->Z}{l:List U}{k:Nat}:(Bi l k).map f=Bi (l.map f) k:=by unfold Bi;simp
def ś{fs:List Ci}:since fs=tR (fs.map (·.c)):=by unfold since tR;rw[Va];rfl
def YN{n:Int}{fs:List Ci}:Hz n fs=Fi n (fs.map (·.c)):=by unfold Hz Fi;rw[Va];rfl
def bz{nm:An}{fs:List Ci}:NT nm fs=GF nm (fs.map (·.c)):=by
 unfold NT GF;rw[<-Tt];generalize fs.reverse=r;induction r with
 |nil=>rfl
 |cons x r ih=>simp only[Bk,xV,P0,ih,Aj]
def aHA{e:Cc}{fs:List Ci}:SI e fs=yA e (fs.map (·.c)).reverse:=by
 unfold SI;rw[<-Tt];generalize fs.reverse=r;induction r with
 |nil=>rfl
 |cons x r ih=>simp only[Bk,ñ,yA,ih]
def aHB{e:Cc}{fs:List Ci}:NU e fs=oI e (fs.map (·.c)).reverse:=by
 unfold NU;rw[<-Tt];generalize fs.reverse=r;induction r with
 |nil=>rfl
 |cons x r ih=>simp only[Bk,tN,oI,ih,Aj]
def pD{e:Cc}{d:Ci}{fs:List Ci}(he:d.c=e):(KY e fs++[d]).map (·.c)=oJ e (fs.map (·.c)):=by
 unfold KY oJ;rw[aHA,aHB,BE,aOe,he];split;.rw[vA]
 .rfl
def QF{fs:List Ci}:(fs.take (ET fs)).map (·.c)=Ee (fs.map (·.c)):=by unfold Ee ET;rw[Ft,ś]
def kG{l:List Cc}{fs:List Ci}(e:fs.map (·.c)=l)(h:∀x∈l,x.Az.length<=1000):∀x∈fs,Zo x:=by intro x hx;have:=h x.c (by rw[<-e];exact Bm.2 ⟨x,hx,rfl⟩);unfold Zo;omega
section
variable{h h':Ah}{bi a:Nat}{o c t:Aa}{G G' F:Nat->Prop}{b:BS}{x:Int}{m:Nat}
variable{nm:An}{av:Aa}{l:List A6}{r:List Aa}{sp p:Int}
def aMM(w:BX h bi a o c t G b)(hc:B1 b.A5 c)(ok:EB b)(rm:BZ b (m+5))(hr:N1 nm av r)(hv:Bq l av)(hl:DP l)(hn:nm.length<=1000):
  ∃h' o' c' G',BK cx 68 [Pt bi 0,.agg r] h (I (b.a.len+1)) h'/\BX h' bi a o' c' t G' (b.Ks nm l)/\B1 (b.Ks nm l).A5 c'/\DB h (Bt bi G) h' (Bt bi G'):=by
 obtain⟨h1,j,k,i,w1,g⟩:=x_ (m:=m+1) w ok (rm.le Ab) hr hv hl hn;obtain⟨fs,d,hf⟩:=hc;have ha:=rm.A5;have Hm:fs.length=b.A5.length:=by rw[<-d,Aj]
 obtain⟨u,n,PH,r2,hu⟩:=f30 (h:=h1) (id:=bi) (o:=3) (l:=fs) ⟨c,w1.qM,hf⟩ Ab (kG d λx hx=>((rm.DE x hx).2).1) (e:=⟨⟨b.a.len+1,nm,l⟩,av,hv⟩) (by unfold Zo;have:=hl.1;simp only;omega);refine⟨_,j,u,k,?_,w1.Kh (u:=u),?_,g.trans Bg⟩
 .obtain⟨C,B,A,z,y,v,s,q,VA,XK,rfl⟩:=hr;have Zj:¬(b.a.len+1=0):=by unfold Ar.len;omega
  have f:BK cx 170 [Pt bi 3,.agg [I (b.a.len+1),.str nm,av]] h1 (.tuple []) (put h1 bi 3 u):=r2;have Zh:av.cells=[av]:=AV.cells hv;rw[Ae,uH];simp only[abS,Nat.reduceLeDiff,↓reduceIte,AT,i.Ac,Zj,B2,Zh,f.Ac]
 .refine⟨_,?_,hu⟩;rw[pD PH,d];unfold BS.Ks;simp only;rw[Ek]
end
def aHC:∀x:Fin 64,(BitVec.ofInt 8 192|||BitVec.ofInt 8 (x.val:Int)).toNat=192+x.val:=AU
def aHD:∀x:Fin 32,(BitVec.ofInt 8 224|||BitVec.ofInt 8 (x.val:Int)).toNat=224+x.val:=AU
def aHE:∀x:Fin 16,(BitVec.ofInt 8 240|||BitVec.ofInt 8 (x.val:Int)).toNat=240+x.val:=AU
def aHF:∀x:Fin 64,(BitVec.ofInt 8 128|||BitVec.ofInt 8 (x.val:Int)).toNat=128+x.val:=AU
def aHG:∀x:Fin 256,(BitVec.ofInt 8 (x.val:Int)&&& BitVec.ofInt 8 63).toNat=x.val%64:=AU
def b_{a b:Int}:AB (.int .or) [.int .u8 a,.int .u8 b]=some (.int .u8 (IntKind.u8.wrap (BitVec.ofInt 8 a|||BitVec.ofInt 8 b).toNat)):=rfl
def aDK{a b:Int}:AB (.int .and) [.int .u8 a,.int .u8 b]=some (.int .u8 (IntKind.u8.wrap (BitVec.ofInt 8 a&&& BitVec.ofInt 8 b).toNat)):=rfl
def ya{x:Nat}(h:x<64):AB (.int .or) [.int .u8 192,.int .u8 (x:Int)]=some (.int .u8 ((192+x:Nat):Int)):=by rw[b_,aHC ⟨x,h⟩,IntKind.wrap_u8];congr 2;simp only;omega
def pE{x:Nat}(h:x<32):AB (.int .or) [.int .u8 224,.int .u8 (x:Int)]=some (.int .u8 ((224+x:Nat):Int)):=by rw[b_,aHD ⟨x,h⟩,IntKind.wrap_u8];congr 2;simp only;omega
def yb{x:Nat}(h:x<16):AB (.int .or) [.int .u8 240,.int .u8 (x:Int)]=some (.int .u8 ((240+x:Nat):Int)):=by rw[b_,aHE ⟨x,h⟩,IntKind.wrap_u8];congr 2;simp only;omega
def LD{x:Nat}(h:x<64):AB (.int .or) [.int .u8 128,.int .u8 (x:Int)]=some (.int .u8 ((128+x:Nat):Int)):=by rw[b_,aHF ⟨x,h⟩,IntKind.wrap_u8];congr 2;simp only;omega
def LF{x:Nat}(h:x<256):AB (.int .and) [.int .u8 (x:Int),.int .u8 63]=some (.int .u8 ((x%64:Nat):Int)):=by rw[aDK,aHG ⟨x,h⟩,IntKind.wrap_u8];congr 2;simp only;omega
def WG{n:Nat}:AB (.int .shr) [.int .i32 (n:Int),.int .u64 6]=some (.int .i32 ((n/64:Nat):Int)):=by rw[show AB (.int .shr) [.int .i32 (n:Int),.int .u64 6]=some (.int .i32 ((n:Int).fdiv 64)) from rfl,Qc _ Ab];rfl
def YO{n:Nat}:AB (.int .shr) [.int .i32 (n:Int),.int .u64 12]=some (.int .i32 ((n/4096:Nat):Int)):=by rw[show AB (.int .shr) [.int .i32 (n:Int),.int .u64 12]=some (.int .i32 ((n:Int).fdiv 4096)) from rfl,Qc _ Ab];rfl
def yc{n:Nat}:AB (.int .shr) [.int .i32 (n:Int),.int .u64 18]=some (.int .i32 ((n/262144:Nat):Int)):=by rw[show AB (.int .shr) [.int .i32 (n:Int),.int .u64 18]=some (.int .i32 ((n:Int).fdiv 262144)) from rfl,Qc _ Ab];rfl
def T8{k:IntKind}{n:Nat}:AB (.conv .u8) [.int k (n:Int)]=some (.int .u8 ((n%256:Nat):Int)):=by rw[Qq,IntKind.wrap_u8];congr 2
def kH{n:Int}:AB (.conv .u32) [.int .i32 n]=some (.int .u32 (n%4294967296)):=by rw[Qq,IntKind.wrap_u32]
def bQ{n:Nat}(h:n<256):((UInt8.ofNat n).toNat:Int)=(n:Int):=by rw[UInt8.toNat_ofNat'];congr 1;omega
def Q_(b:UInt8):Aa:= .int .u8 (b.toNat:Int)
def K0{h:Ah}{bs:An}(hb:bs≠[])(hl:bs.length<=8):Fw h 1 1 .slnil (.sl 1 (Cd bs))=some (h++[.cells (bs.map Q_)],.Cs h.length 0 bs.length 1):=by
 have Hm:∀bs:An,(Cd bs).flatten=bs.map Q_:=by
  intro bs;induction bs with
  |nil=>rfl
  |cons c bs ih=>show[Q_ c]++(Cd bs).flatten=_;rw[ih];rfl
 cases bs with
 |nil=>exact absurd rfl hb
 |cons c bs=>
  have hm:AS=140737488355328:=rfl;have hlen:(Cd (c::bs)).length=(c::bs).length:=by simp[Cd]
  have e:Cd (c::bs)=[.int .u8 c.toNat]::Cd bs:=rfl;have a:Gp h 1 (.sl 1 (Cd (c::bs)))=some (Cd (c::bs)):=by simp[Gp]
  unfold Fw;rw[a,e];simp only
  rw[<-e,Af (by rw[hlen];omega),Hm,hlen]
def aMN{h:Ah}(r:Int)(hr: -2147483648<=r/\r<=2147483647):BK cx 174 [.slnil,.int .i32 r] h (.Cs h.length 0 (HM r).length 1) (h++[.cells ((HM r).map Q_)]):=by
 have one:∀{a:Nat} (h1:a<256),AB (.C8 1) [.int .u8 (a:Int)]=some (.sl 1 (Cd [UInt8.ofNat a])):=by intro a h1;simp only[Cd,Bk,C2,bQ h1];rfl
 have Xf:∀{a b:Nat} (h1:a<256) (h2:b<256),AB (.C8 1) [.int .u8 (a:Int),.int .u8 (b:Int)]=some (.sl 1 (Cd [UInt8.ofNat a,UInt8.ofNat b])):=by intro a b h1 h2;simp only[Cd,Bk,C2,bQ h1,bQ h2];rfl
 have Uw:∀{a b c:Nat} (h1:a<256) (h2:b<256) (d:c<256),AB (.C8 1) [.int .u8 (a:Int),.int .u8 (b:Int),.int .u8 (c:Int)]=some (.sl 1 (Cd [UInt8.ofNat a,UInt8.ofNat b,UInt8.ofNat c])):=by intro a b c h1 h2 d;simp only[Cd,Bk,C2,bQ h1,bQ h2,bQ d];rfl
 have four:∀{a b c f:Nat} (h1:a<256) (h2:b<256) (d:c<256) (i:f<256),AB (.C8 1) [.int .u8 (a:Int),.int .u8 (b:Int),.int .u8 (c:Int),.int .u8 (f:Int)]=some (.sl 1 (Cd [UInt8.ofNat a,UInt8.ofNat b,UInt8.ofNat c,UInt8.ofNat f])):=by intro a b c f h1 h2 d i;simp only[Cd,Bk,C2,bQ h1,bQ h2,bQ d,bQ i];rfl
 have bad:AB (.C8 1) [.int .u8 239,.int .u8 191,.int .u8 189]=some (.sl 1 (Cd [239,191,189])):=rfl;rw[Ae,gC];simp only[BF,kH];by_cases h0:0<=r
 .obtain⟨n,rfl⟩:=IS h0;have em:(n:Int)%4294967296=(n:Int):=Ab;rw[em];by_cases q:n<128
  .have e:HM (n:Int)=[UInt8.ofNat n]:=by unfold HM;rw[Af Ab];rfl
   have j:n%256=n:=Ab;rw[e];simp only[BF,lN,(Ab:(n:Int)<=127),T8,j,one (Ab:n<256),K0 (bs:=[UInt8.ofNat n]) AH AH]
  .have aDL:BK cx 321 [.slnil,.int .i32 (n:Int)] h (.Cs h.length 0 (HM (n:Int)).length 1) (h++[.cells ((HM (n:Int)).map Q_)]):=by
    rw[Ae,Wx];simp only[BF,kH,em];by_cases p:n<2048
    .have e:HM (n:Int)=[UInt8.ofNat (192+n/64),UInt8.ofNat (128+n%64)]:=by unfold HM;rw[Ad Ab,Af Ab];rfl
     rw[e];have a1:n/64%256=n/64:=Ab;have a2:n%256%64=n%64:=Ab;simp only[BF,lN,(Ab:(n:Int)<=2047),WG,T8,a1,ya (Ab:n/64<64),LF (Ab:n%256<256),a2,LD (Ab:n%64<64),Xf (Ab:192+n/64<256) (Ab:128+n%64<256),K0 (bs:=[UInt8.ofNat (192+n/64),UInt8.ofNat (128+n%64)]) AH AH]
    .by_cases o:n<65536/\¬(55296<=n/\n<57344)
     .have e:HM (n:Int)=[UInt8.ofNat (224+n/4096),UInt8.ofNat (128+n/64%64),UInt8.ofNat (128+n%64)]:=by unfold HM;rw[Ad Ab,Ad Ab,Af Ab];rfl
      rw[e];have a1:n/4096%256=n/4096:=Ab;have a2:n/64%256%64=n/64%64:=Ab;have a3:n%256%64=n%64:=Ab;have g:=K0 (h:=h) (bs:=[UInt8.ofNat (224+n/4096),UInt8.ofNat (128+n/64%64),UInt8.ofNat (128+n%64)]) AH AH;have t3:=Uw (Ab:224+n/4096<256) (Ab:128+n/64%64<256) (Ab:128+n%64<256);by_cases m:n<55296;.simp only[abS,(Ab:¬(n:Int)<=2047),(Ab:(n:Int)<55296),WG,YO,T8,a1,pE (Ab:n/4096<32),LF (Ab:n/64%256<256),a2,LD (Ab:n/64%64<64),LF (Ab:n%256<256),a3,LD (Ab:n%64<64),t3,g]
      .simp only[abS,(Ab:¬(n:Int)<=2047),(Ab:¬(n:Int)<55296),(Ab:(57343:Int)<n),(Ab:(n:Int)<=65535),WG,YO,T8,a1,pE (Ab:n/4096<32),LF (Ab:n/64%256<256),a2,LD (Ab:n/64%64<64),LF (Ab:n%256<256),a3,LD (Ab:n%64<64),t3,g]
     .by_cases l:65536<=n/\n<=1114111
      .have e:HM (n:Int)=[UInt8.ofNat (240+n/262144),UInt8.ofNat (128+n/4096%64),UInt8.ofNat (128+n/64%64),UInt8.ofNat (128+n%64)]:=by unfold HM;rw[Ad Ab,Ad Ab,Ad Ab,Af Ab];rfl
       rw[e];have a0:n/262144%256=n/262144:=Ab;have a1:n/4096%256%64=n/4096%64:=Ab;have a2:n/64%256%64=n/64%64:=Ab;have a3:n%256%64=n%64:=Ab;have g:=K0 (h:=h) (bs:=[UInt8.ofNat (240+n/262144),UInt8.ofNat (128+n/4096%64),UInt8.ofNat (128+n/64%64),UInt8.ofNat (128+n%64)]) AH AH;have t4:=four (Ab:240+n/262144<256) (Ab:128+n/4096%64<256) (Ab:128+n/64%64<256) (Ab:128+n%64<256);simp only[abS,(Ab:¬(n:Int)<=2047),(Ab:¬(n:Int)<55296),(Ab:(57343:Int)<n),(Ab:¬(n:Int)<=65535),(Ab:(65535:Int)<n),(Ab:(n:Int)<=1114111),WG,YO,yc,T8,a0,yb (Ab:n/262144<16),LF (Ab:n/4096%256<256),a1,LD (Ab:n/4096%64<64),LF (Ab:n/64%256<256),a2,LD (Ab:n/64%64<64),LF (Ab:n%256<256),a3,LD (Ab:n%64<64),t4,g]
      .have e:HM (n:Int)=[239,191,189]:=by unfold HM;rw[Ad Ab,Ad Ab,Ad Ab,Ad Ab]
       rw[e];have g:=K0 (h:=h) (bs:=[239,191,189]) AH AH;by_cases k:n<65536;.simp only[abS,(Ab:¬(n:Int)<=2047),(Ab:¬(n:Int)<55296),(Ab:¬(57343:Int)<n),(Ab:¬(65535:Int)<n),bad,g]
       .simp only[abS,(Ab:¬(n:Int)<=2047),(Ab:¬(n:Int)<55296),(Ab:(57343:Int)<n),(Ab:¬(n:Int)<=65535),(Ab:(65535:Int)<n),(Ab:¬(n:Int)<=1114111),bad,g]
   simp only[abS,(Ab:¬(n:Int)<=127),aDL.Ac]
 .have e:HM r=[239,191,189]:=by unfold HM;rw[Ad Ab,Ad Ab,Ad Ab,Ad Ab]
  have g:=K0 (h:=h) (bs:=[239,191,189]) AH AH;have aDL:BK cx 321 [.slnil,.int .i32 r] h (.Cs h.length 0 (HM r).length 1) (h++[.cells ((HM r).map Q_)]):=by rw[e,Ae,Wx];simp only[abS,kH,(Ab:¬(r%4294967296)<=2047),(Ab:¬(r%4294967296)<55296),(Ab:(57343:Int)<r%4294967296),(Ab:¬(r%4294967296)<=65535),(Ab:(65535:Int)<r%4294967296),(Ab:¬(r%4294967296)<=1114111),bad,g]
  simp only[abS,(Ab:¬(r%4294967296)<=127),aDL.Ac]
def S7(r:Int):(HM r).length<=4:=by unfold HM;split<;>(try split)<;>(try split)<;>(try split)<;>simp
def pF{l:List Int}{bf:Int}(hb:bf≠0->bf∈l):∃i,i<=l.length/\(bf=0->i=l.length)/\(bf≠0->Cl (λy=>decide (bf=y)) 0 l=(i:Int))/\T0 l bf=if i=0 then none else l[i-1]?:=by
 by_cases h0:bf=0
 .refine⟨l.length,Ag _,λ_=>rfl,λh=>absurd h0 h,?_⟩;unfold T0;rw[Af h0,KQ];split;.rename_i h;rw[Ef Ab]
  .rfl
 .obtain⟨k,j,e,g,d,f⟩:=kF (hb h0);refine⟨k,Ab,λh=>absurd h h0,λ_=>e,?_⟩;unfold T0;rw[Ad h0,d,KQ,Aw,Cq Ab];split;.rename_i h;subst h;simp
  .rw[Cg];rw[Af Ab]
def kI{s u:An}(h:s.length+u.length<=2000000000):AB (.str .add) [.str s,.str u]=some (.str (s++u)):=by have:s.length+u.length<=9223372036854775807:=Ab;simp[AB,lR,this]
def bR:∀s:An,(Cd s).flatten=s.map Q_
 |[]=>rfl
 |c::s=>by show[Q_ c]++(Cd s).flatten=_;rw[bR s];rfl
section
variable{h h':Ah}{bi a:Nat}{o c t:Aa}{G G' F:Nat->Prop}{b:BS}{x:Int}{m:Nat}
variable{nm:An}{av:Aa}{l:List A6}{r:List Aa}{sp p:Int}
def kJ{k d:Int}{s:An}(ok:EB b)(rm:BZ b (m+1))(hk:k=5\/k=6)(hd:b.a.has d/\(b.a.nd d).kind=1)(hs:s.length<=100000):EB {b with a:=b.a.add {kind:=k,CQ:=d,data:=s}}/\BZ {b with a:=b.a.add {kind:=k,CQ:=d,data:=s}} m:=
 ⟨ok.KH (fA ok.ok (by unfold Ar.len;omega) hd hk) tS,rm.JL (k:=1) (NY (AZ _) hs)⟩
def aHH(w:BX h bi a o c t G b)(ok:EB b)(rm:BZ b (m+5))(r:Int)(hr: -2147483648<=r/\r<=2147483647):
  ∃h' G',BK cx 69 [Pt bi 0,.int .i32 r] h (.tuple []) h'/\BX h' bi a o c t G' (b.Nn r)/\DB h (Bt bi G) h' (Bt bi G'):=by
 obtain⟨f,D⟩:=ř w ok rm 0;obtain⟨hp,hbf⟩:=Yk ok (t:=0) (.inl rfl);have w1:=w.Ib (u:=f);unfold BS.Nn;generalize(b.place 0).1=p at*;generalize(b.place 0).2=bf at*;obtain⟨K,V,d,r2,X,_⟩:=VM w1 ok rm p;have Z:=w1.Ib (u:=d);have x2:DB h (Bt bi G) (h++f++d) (Bt bi G):=w.C0.trans w1.C0;unfold BS.LP;by_cases hk:(b.a.nd p).kind=4\/(b.a.nd p).kind=2;rotate_left
 .refine⟨_,G,?_,?_,x2⟩;.have k4:¬(b.a.nd p).kind=4:=λe=>hk (.inl e);have k2:¬(b.a.nd p).kind=2:=λe=>hk (.inr e);rw[Ae,T3];simp only[abS,(Iu w).Ac,D.Ac,r2.Ac,B2,k4,k2]
  .rw[Ad hk];exact Z
 rw[Af hk];obtain⟨i,hi,uV,VB,hpv⟩:=pF (l:=(b.a.nd p).Bb) (bf:=bf) (λh=>by have:=hbf h;have h2:=(ok.ok.FQ bf this.1 (by rw[this.2];have:=hp.1;omega)).2;rwa [this.2] at h2);rw[hpv];have Qi:=rm.Zp.Bb ok.ok p;have H:=aDD (h:=h++f++d) (x:=bf) X.RI Qi;have g:=aMN (h:=h++f++d) r hr;have lK:=S7 r;generalize hs:HM r=s at*;have f3:Kd (h++f++d++[.cells (s.map Q_)]) (.Cs (h++f++d).length 0 s.length 1)=some (h++f++d++[.CF],.sl 1 (Cd s)):=by have Hm:=bR s;have:=I2 (h:=h++f++d++[.cells (s.map Q_)]) (id:=(h++f++d).length) (z:=1) (AD:=Cd s) (by intro q hq;obtain⟨y,_,rfl⟩:=Bm.1 hq;rfl) (by rw[Hm];simp);rw[show(Cd s).length=s.length by simp[Cd]] at this;rw[this];congr 2;rw[BB _ _ (Ag _),Dc];rfl
 have b3:AB .WK [.sl 1 (Cd s)]=some (.str s):=by simp[AB,WM,Ry]
 have A:=Z.Ib (u:=[.CF]);have x3:DB h (Bt bi G) (h++f++d++[.CF]) (Bt bi G):=x2.trans Z.C0;have kK:=ok.ok.CQ p hp;have new:∀h3,(∃u,h3=h++f++d++[.CF]++u)->∃h' J G',BK cx 176 [Pt a 0,I (b.a.nd p).CQ,.str s] h3 (.tuple [I (b.a.len+1),I 0]) J/\BK cx 159 [Pt bi 0,I (b.a.len+1),I p,I bf] J (.tuple []) h'/\BX h' bi a o c t G' {b with a:=(b.a.add {kind:=5,CQ:=(b.a.nd p).CQ,data:=s}).EA (b.a.len+1) p bf}/\DB h (Bt bi G) h' (Bt bi G'):=by
  rintro _ ⟨u,rfl⟩;have w4:=A.Ib (u:=u);obtain⟨J,G4,⟨C,_⟩,w5,x5⟩:=w4.step (A':=b.a.add (Mz 5 (b.a.nd p).CQ s).x) (R:=λh'=>BK cx 176 [Pt a 0,I (b.a.nd p).CQ,.str s] (h++f++d++[.CF]++u) (.tuple [I (b.a.len+1),I 0]) h'/\True) (λn m ps S=>by obtain⟨h',r,wp,o1,l1⟩:=aMr (s:=s) S rm.Zp (by have:=rm.n;unfold Ar.len;omega) kK;exact⟨h',_,_,_,⟨r,trivial⟩,wp,S.S5 rfl o1 l1⟩)
  obtain⟨ok5,rm5⟩:=kJ (m:=m) (k:=5) (s:=s) ok (rm.le Ab) (.inl rfl) kK Ab;obtain⟨h',G',B,N,L⟩:=pC (x:=b.a.len+1) (p:=p) (bf:=bf) w5 ok5.ba rm5;exact⟨h',J,G',C,B,N,(x3.trans A.C0).trans (x5.trans L)⟩
 have kl:=(X.RI (h:=h++f++d)).len;have OV:i<=1000000000:=Ab;by_cases hz:i=0
 .subst hz;obtain⟨h',J,G',C,B,N,L⟩:=new (h++f++d++[.CF]) ⟨[],AH⟩;simp only[↓reduceIte];refine⟨h',G',?_,N,L⟩;rw[Ae,T3];rcases hk with hk|hk<;>by_cases h0:bf=0
  all_goals first|(rw[<-uV h0] at kl;simp only[abS,(Iu w).Ac,D.Ac,r2.Ac,hk,B2,CB,(AU:¬(2:Int)=4),kl,AM h0,g.Ac,f3,b3,(AU:¬(0:Int)<((0:Nat):Int)),A.l0,C.Ac,CB,B.Ac];done)|(rw[VB h0] at H;simp only[abS,(Iu w).Ac,D.Ac,r2.Ac,hk,B2,CB,(AU:¬(2:Int)=4),kl,h0,g.Ac,f3,b3,(AU:¬(0:Int)<((0:Nat):Int)),A.l0,C.Ac,CB,B.Ac,H.Ac])
 .obtain⟨j,rfl⟩:∃j,i=j+1:=⟨i-1,Ab⟩;have hj:j<(b.a.nd p).Bb.length:=Ab;rw[Ad hz,Fb,Ak hj];simp only
  have ht:=ok.ok.M4 p hp _ (AN hj);obtain⟨q,Q,Y⟩:=(X.RI (h:=h++f++d++[.CF])).at_ j hj;obtain⟨K7,V7,T,W,_,_⟩:=VM A ok rm (b.a.nd p).Bb[j];have M:=A.Ib (u:=T);obtain⟨q',P,O⟩:=(X.RI (h:=h++f++d++[.CF]++T)).at_ j hj;rw[Q,BD] at P;subst P;have U:AB (.int .sub) [I ((j+1:Nat):Int),I 1]=some (I (j:Int)):=by have:=Hw (n:=j+1) Ab Ab;simpa using this
  generalize hte:(b.a.nd p).Bb[j]=v at*;by_cases E:(b.a.nd v).kind=5
  .rw[Af E];have qK:=rm.data v;obtain⟨h8,G8,⟨r8,_⟩,w8,x8⟩:=M.step (A':=b.a.SP v ((b.a.nd v).data++s)) (R:=λh'=>BK cx 175 [Pt a 0,I v,.str ((b.a.nd v).data++s)] (h++f++d++[.CF]++T) (I 0) h'/\True) (λn m ps S=>by obtain⟨h',JB,r,wp,xp⟩:=aMs (s:=(b.a.nd v).data++s) S rm.Zp ht.1 E;exact⟨h',n,m,JB,⟨r,trivial⟩,wp,xp⟩)
   refine⟨h8,G8,?_,w8,(x3.trans A.C0).trans x8⟩;rw[Ae,T3];rcases hk with hk|hk<;>by_cases h0:bf=0
   all_goals first|(rw[<-uV h0] at kl;simp only[abS,(Iu w).Ac,D.Ac,r2.Ac,hk,B2,CB,(AU:¬(2:Int)=4),kl,AM h0,g.Ac,f3,b3,(Ab:(0:Int)<((j+1:Nat):Int)),U,Q,Y,W.Ac,E,M.l0,O,kI (Ab:(b.a.nd v).data.length+s.length<=2000000000),CB,r8.Ac];done)|(rw[VB h0] at H;simp only[abS,(Iu w).Ac,D.Ac,r2.Ac,hk,B2,CB,(AU:¬(2:Int)=4),kl,h0,g.Ac,f3,b3,(Ab:(0:Int)<((j+1:Nat):Int)),U,Q,Y,W.Ac,E,M.l0,O,kI (Ab:(b.a.nd v).data.length+s.length<=2000000000),CB,r8.Ac,H.Ac])
  .rw[Ad E];obtain⟨h',J,G',C,B,N,L⟩:=new _ ⟨T,rfl⟩;refine⟨h',G',?_,N,L⟩;rw[Ae,T3];rcases hk with hk|hk<;>by_cases h0:bf=0
   all_goals first|(rw[<-uV h0] at kl;simp only[abS,(Iu w).Ac,D.Ac,r2.Ac,hk,B2,CB,(AU:¬(2:Int)=4),kl,AM h0,g.Ac,f3,b3,(Ab:(0:Int)<((j+1:Nat):Int)),U,Q,Y,W.Ac,E,M.l0,C.Ac,CB,B.Ac];done)|(rw[VB h0] at H;simp only[abS,(Iu w).Ac,D.Ac,r2.Ac,hk,B2,CB,(AU:¬(2:Int)=4),kl,h0,g.Ac,f3,b3,(Ab:(0:Int)<((j+1:Nat):Int)),U,Q,Y,W.Ac,E,M.l0,C.Ac,CB,B.Ac,H.Ac])
def MA{s:An}{p bf x:Int}{h0 h1:Ah}(hstart:(¬x=0/\p=x/\bf=0/\h1=h0)\/(x=0/\BK cx 171 [Pt bi 0,I 0] h0 (.tuple [I p,I bf]) h1))
  (w0:BX h0 bi a o c t G b) (i:DB h0 (Bt bi G) h1 (Bt bi G)) (w:BX h1 bi a o c t G b) (ok:EB b) (rm:BZ b (m+1)) (hs:s.length<=100000):
  ∃h' G',BK cx 70 [Pt bi 0,.str s,I x] h0 (.tuple []) h'/\BX h' bi a o c t G' {b with a:=BS.E3 b.a s p bf}/\DB h0 (Bt bi G) h' (Bt bi G'):=by
 obtain⟨K,V,q,r2,L,_⟩:=VM w ok rm p;have d:=w.Ib (u:=q);unfold BS.E3;by_cases hk:Lx (b.a.nd p).kind
 .rw[Af hk];have hp:b.a.has p:=by
   by_cases hp:b.a.has p;.exact hp
   .rw[HI hp] at hk;unfold Lx at hk;simp at hk
  have kK:=ok.ok.CQ p hp;obtain⟨M,N,⟨y,_⟩,H,D⟩:=d.step (A':=b.a.add (Mz 6 (b.a.nd p).CQ s).x) (R:=λh'=>BK cx 177 [Pt a 0,I (b.a.nd p).CQ,.str s] (h1++q) (.tuple [I (b.a.len+1),I 0]) h'/\True) (λn m ps j=>by obtain⟨h',r,wp,J,l1⟩:=aG8 (s:=s) j rm.Zp (by have:=rm.n;unfold Ar.len;omega) kK;exact⟨h',_,_,_,⟨r,trivial⟩,wp,j.S5 rfl J l1⟩)
  obtain⟨g,e⟩:=kJ (m:=m) (k:=6) (s:=s) ok rm (.inr rfl) kK hs;obtain⟨h',G',v,E,C⟩:=pC (x:=b.a.len+1) (p:=p) (bf:=bf) H g.ba e;refine⟨h',G',?_,E,(i.trans w.C0).trans (D.trans C)⟩;rw[Ae,fE];rcases hstart with⟨hx,rfl,rfl,rfl⟩|⟨hx,f⟩
  .rcases hk with hk|hk|hk<;>simp only[abS,(Iu w0).Ac,r2.Ac,hk,B2,CB,(AU:¬(2:Int)=1),(AU:¬(4:Int)=1),(AU:¬(4:Int)=2),d.l0,y.Ac,v.Ac,hx]
  .rcases hk with hk|hk|hk<;>simp only[abS,(Iu w0).Ac,r2.Ac,hk,B2,CB,(AU:¬(2:Int)=1),(AU:¬(4:Int)=1),(AU:¬(4:Int)=2),d.l0,y.Ac,v.Ac,AM hx,f.Ac]
 .rw[Ad hk];refine⟨_,G,?_,d,i.trans w.C0⟩;unfold Lx at hk;have B:¬(b.a.nd p).kind=1:=Ab;have A:¬(b.a.nd p).kind=2:=Ab;have z:¬(b.a.nd p).kind=4:=Ab;rw[Ae,fE];rcases hstart with⟨hx,rfl,rfl,rfl⟩|⟨hx,f⟩
  .simp only[abS,(Iu w0).Ac,r2.Ac,B2,B,A,z,hx]
  .simp only[abS,(Iu w0).Ac,r2.Ac,B2,B,A,z,AM hx,f.Ac]
def aHJ(w:BX h bi a o c t G b)(ok:EB b)(rm:BZ b (m+1))(s:An)(hs:s.length<=100000)(x:Int):
  ∃h' G',BK cx 70 [Pt bi 0,.str s,I x] h (.tuple []) h'/\BX h' bi a o c t G' (b.Fe s x)/\DB h (Bt bi G) h' (Bt bi G'):=by
 unfold BS.Fe;by_cases h0:x=0;.rw[Af h0];obtain⟨d,e⟩:=ř w ok rm 0;exact MA (p:=(b.place 0).1) (bf:=(b.place 0).2) (.inr ⟨h0,e⟩) w w.C0 (w.Ib (u:=d)) ok rm hs
 .rw[Ad h0];exact MA (p:=x) (bf:=0) (.inl ⟨h0,rfl,rfl,rfl⟩) w .refl w ok rm hs
def aHK(w:BX h bi a o c t G b)(ok:BA b)(rm:BZ b (m+4))(hr:N1 nm av r)(hv:Bq l av)(hl:DP l)(hn:nm.length<=1000)(st:Int):
  ∃h' o' G',BK cx 71 [Pt bi 0,.agg r,I st] h (.tuple []) h'/\BX h' bi a o' c t G' (b.Fs nm l st)/\DB h (Bt bi G) h' (Bt bi G'):=by
 obtain⟨h1,d,e,u,w1,i⟩:=x_ w ok rm hr hv hl hn;have s:=w1.st (k:=18) (v:= I st) rfl rfl;have g:BX (put h1 bi 18 (I st)) bi a d c t e {b.EG nm l 1 with sw:=st}:=w1.put rfl rfl w1.o w1.t;have q:=g.st (k:=5) (v:= I (b.EG nm l 1).mode) rfl rfl;have f:BX (put (put h1 bi 18 (I st)) bi 5 (I (b.EG nm l 1).mode)) bi a d c t e {b.EG nm l 1 with sw:=st,SN:=(b.EG nm l 1).mode}:=g.put rfl rfl w1.o w1.t;have n:=f.st (k:=4) (v:=I 8) rfl rfl;have j:BX (put (put (put h1 bi 18 (I st)) bi 5 (I (b.EG nm l 1).mode)) bi 4 (I 8)) bi a d c t e (b.Fs nm l st):=f.put rfl rfl w1.o w1.t;refine⟨_,d,e,?_,j,((i.trans Bg).trans Bg).trans Bg⟩;obtain⟨H,E,D,C,B,A,z,y,VA,XK,rfl⟩:=hr;rw[Ae,uI];simp only[BF,(Iu w).Ac,u.Ac,w1.l4,s,q,n]
def aMQ(w:BX h bi a o c t G b)(rm:BZ b m):
  ∃h' o',BK cx 72 [Pt bi 0] h (.tuple []) h'/\BX h' bi a o' c t G b.JV/\DB h (Bt bi G) h' (Bt bi G):=by
 have ho:=rm.AW;have d:=aLR w.sA (Ab:b.AW.length<=1000000000) 3 (v:= .sl 1 ([wP].map CC)) (ws:=[wP]) CX AU;have em:AB (.C8 1) [S [112]]=some (.sl 1 ([wP].map CC)):=D1 (ws:=[wP]) rfl AU;unfold BS.JV;by_cases hs:Kf (Bs [wP]) (JR 3) b.AW.reverse=true;.rw[Af hs];rw[hs] at d;obtain⟨g,r2,O7⟩:=aGU w.sO Ab wP;have w1:=w.HZ O7;have Eo:=Qu (b:=Ez wP) (a:=Cx) (l:=b.AW);obtain⟨e,f,IE⟩:=f66 w1.sO Dv (w:= .sl 1 ([wP].map CC)) (ws:=[wP]) CX AU;refine⟨_,e,?_,w1.HZ IE,Bg.trans Bg⟩;rw[Ae,fF];simp only[BF,(Iu w).Ac,em,d.Ac,r2.Ac,f.Ac]
 .rw[Ad hs];rw[show Kf (Bs [wP]) (JR 3) b.AW.reverse=false by simpa using hs] at d;refine⟨h,o,?_,w,.refl⟩;rw[Ae,fF];simp only[BF,(Iu w).Ac,em,d.Ac]
end
section
variable{h h':Ah}{bi a:Nat}{o c t:Aa}{G G' F:Nat->Prop}{b:BS}{x:Int}{m:Nat}
variable{nm:An}{av:Aa}{l:List A6}{r:List Aa}{sp p:Int}
def S8{U:Type}{l:List U}{n:Nat}(hn:n<l.length):(l.take (n+1)).reverse=l[n]::(l.take n).reverse:=by rw[AE hn,Iv];rfl
def aHL(w:BX h bi a o c t G b)(rm:BZ b m)(nm:An):
  ∃h' o',BK cx 74 [Pt bi 0,.str nm] h (.tuple []) h'/\BX h' bi a o' c t G (b.Ds nm)/\DB h (Bt bi G) h' (Bt bi G):=by
 have ho:=rm.AW;have Jl:Ev cx 74 [Pt bi 0,.str nm] h λr h'=>r= .tuple []/\∃o',BX h' bi a o' c t G (b.Ds nm)/\DB h (Bt bi G) h' (Bt bi G):=by
  unfold Ev;rw[uK];simp only[abS,(Iu w).Ac,(VG w.sA).Ac,C3 (Ab: -9223372036854775808<=(b.AW.length:Int)-1) (Ab:(b.AW.length:Int)-1<9223372036854775808)];refine Bl (λn:Nat=>[I ((n:Int)-1)]) (λn h1=>n<=b.AW.length/\(b.AW.reverse.find? λi=>Bs [nm] i||GW i)=((b.AW.take n).reverse.find? λi=>Bs [nm] i||GW i)/\h1=h) (λn=>n) b.AW.length rfl ⟨Ag _,by rw[Bx],rfl⟩ ?_;rintro n h1 ⟨hn,ha,rfl⟩;cases n with
  |zero=>
   have e:b.Ds nm=b:=by unfold BS.Ds;rw[ha];rfl
   simp only[abS,(Ab:¬(0:Int)<=((0:Nat):Int)-1)];exact⟨_,rfl,rfl,o,by rw[e];exact w,.refl⟩
  |succ n=>
   have hlt:n<b.AW.length:=Ab;have i1:((n+1:Nat):Int)-1=(n:Int):=Ab;have j:=YC w.sA (n:Int);rw[Ie hlt] at j;have em:AB (.C8 1) [.str nm]=some (.sl 1 ([nm].map CC)):=D1 (ws:=[nm]) rfl AH;have r2:=u9 (ws:=[nm]) CX AH b.AW[n] h1;rw[S8 hlt,GK] at ha;generalize hi:b.AW[n]=i at*;rw[Item.row] at r2;simp only[abS,Fc,i1,(Ab:(0:Int)<=(n:Int)),j.Ac,em];have f:BK cx 162 [.agg i.row,.sl 1 ([nm].map CC)] h1 (.bool (Bs [nm] i)) h1:=r2;rw[f.Ac,NQ,CT];refine⟨λh2=>?_,λh2=>?_⟩
   .obtain⟨u,s,O7⟩:=aGU w.sO Ab nm;have w1:=w.HZ O7;have Eo:=Qu (b:=Ez nm) (a:=Cx) (l:=b.AW);obtain⟨k,q,IE⟩:=aGV w1.sO Dv i.node;simp only[BF,s.Ac,q.Ac];refine⟨_,rfl,rfl,k,?_,Bg.trans Bg⟩;have e:b.Ds nm={b with AW:=GX i.node (DA (Ez nm) Cx b.AW)}:=by unfold BS.Ds;rw[ha];simp only[h2,Un,BI]
    rw[e];exact w1.HZ IE
   .simp only[h2,Hl] at ha;simp only[(aGG i.Bc i.name).B7 rfl rfl];rw[NQ,CT];refine⟨λg=>?_,λg=>?_⟩
    .have d:GW i=true:=g;rw[d] at ha;have e:b.Ds nm=b:=by unfold BS.Ds;rw[ha];simp only[h2,Cu,DG]
     simp only[BF];exact⟨_,rfl,rfl,o,by rw[e];exact w,.refl⟩
    .have d:GW i=false:=g;rw[d] at ha;simp only[BF,C3 (Ab: -9223372036854775808<=(n:Int)-1) (Ab:(n:Int)-1<9223372036854775808)];exact AL.next n rfl ⟨Ab,ha,rfl⟩ Ab
 obtain⟨r,h',hr,rfl,o',w',x'⟩:=Jl.ret;exact⟨h',o',hr,w',x'⟩
def aHM(w:BX h bi a o c t G b)(rm:BZ b m){k:Nat}(hk:k<=b.AW.length):BK cx 338 [Pt bi 0,I (k:Int)] h (I (BS.JH (b.AW.take k))) h:=by
 have ho:=rm.AW;rw[Ae,jC];simp only[BF,C3 (Ab: -9223372036854775808<=(k:Int)-1) (Ab:(k:Int)-1<9223372036854775808)];refine Bl (λn:Nat=>[I 0,I ((n:Int)-1)]) (λn h1=>n<=k/\((b.AW.take k).reverse.find? λi=>Bs [AK] i||Bs [Fa] i)=((b.AW.take n).reverse.find? λi=>Bs [AK] i||Bs [Fa] i)/\h1=h) (λn=>n) k rfl ⟨Ag _,rfl,rfl⟩ ?_;rintro n h1 ⟨hn,ha,rfl⟩;cases n with
 |zero=>simp only[abS,(Ab:¬(0:Int)<=((0:Nat):Int)-1)];unfold BS.JH;rw[ha];rfl
 |succ n=>
  have hlt:n<b.AW.length:=Ab;have i1:((n+1:Nat):Int)-1=(n:Int):=Ab;have f:=YC w.sA (n:Int);rw[Ie hlt] at f;have e:AB (.C8 1) [S AK]=some (.sl 1 ([AK].map CC)):=D1 (ws:=[AK]) rfl AU;have kq:AB (.C8 1) [S Fa]=some (.sl 1 ([Fa].map CC)):=D1 (ws:=[Fa]) rfl AU;have r2:=u9 (ws:=[AK]) CX AU b.AW[n] h1;have g:=u9 (ws:=[Fa]) CX AU b.AW[n] h1;rw[S8 hlt,GK] at ha;simp only[abS,i1,(Ab:(0:Int)<=(n:Int)),f.Ac,e,r2.Ac,kq,g.Ac,C3 (Ab: -9223372036854775808<=(n:Int)-1) (Ab:(n:Int)-1<9223372036854775808)];rw[CT];refine⟨λh2=>?_,λh2=>?_⟩;.simp only[h2,Un] at ha;unfold BS.JH;rw[ha];simp only[h2,BI]
  .simp only[h2,Hl] at ha;rw[CT];refine⟨λd=>?_,λd=>?_⟩;.rw[d] at ha;unfold BS.JH;rw[ha];simp only[h2,Cu,DG]
   .rw[d] at ha;exact AL.next n rfl ⟨Ab,ha,rfl⟩ Ab
def vB(r:An×Int):List Aa:=[.str r.1,I r.2]
def kL{z:Nat}{AD:List (List Aa)}{args:List Aa}(e:args=AD.map Aa.agg)(hz:∀r∈AD,r.length=z)(hl:AD.length*z<=16777216):AB (.C8 z) args=some (.sl z AD):=by
 subst e;have f:(AD.map Aa.agg).all (λa=>a.cells.length==z)=true:=by simp[Aa.cells];exact hz
 have d:(AD.map Aa.agg).map (·.cells)=AD:=by rw[List.map_map];exact List.map_id _
 rw[xQ,f,d];simp[hl]
def yd{args:List Aa}(e:args=(Jz.map vB).map Aa.agg):AB (.C8 2) args=some (.sl 2 (Jz.map vB)):=kL e (λr hr=>by obtain⟨x,_,rfl⟩:=Bm.1 hr;rfl) AU
def aHN:BK cx 337 [] h (.sl 2 (Jz.map vB)) h:=by rw[Ae,jB];simp only[abS,Nat.reduceLeDiff,↓reduceIte,AT];exact(Ca (λz=>aV z λv=>[v]=[Aa.sl 2 (Jz.map vB)]) (yd rfl)).mpr (by rw[NP])
def QG{s:An}{i:Item}:Bs [s] i=decide (i.Bc=1/\i.name=s):=by unfold Bs;simp
def ku{i:Item}{k:Nat}:b.Hi i k=match Jz.find? λr=>Bs [r.1] i with
  |some r=>some r.2
  |none=>if Bs [Lj] i then some (BS.JH (b.AW.take k)) else if Bs [uv,uw] i&&decide (0<k) then some 15 else if Bs [AK] i then some (b.tm.getLast?.getD 7) else if Bs [Q7] i&&decide (0<k) then some 4 else if Bs [DI] i then some (if b.head=0 then 3 else 6) else if k=0 then some 7 else none:=by
 unfold BS.Hi;by_cases hs:i.Bc=1
 .rw[Af hs];have e:(λr:An×Int=>Bs [r.1] i)=λr=>decide (r.1=i.name):=by funext r;rw[QG,Db];exact⟨λh=>h.2.symm,λh=>⟨hs,h.symm⟩⟩
  rw[e];cases hf:Jz.find? λr=>decide (r.1=i.name) with
  |some r=>rfl
  |none=>simp only[Bs,hs,ML,AX,Nu,I_,Bv,CL]
 .rw[Ad hs];have e:(λr:An×Int=>Bs [r.1] i)=λ_=>false:=by funext r;rw[QG,Aq (λh=>hs h.1)]
  rw[e];have d:Jz.find? (λ_=>false)=none:=AU;rw[d];simp only[Bs,hs,Zq,DH,Cu,DG,H_]
def aHO(w:BX h bi a o c t G b)(rm:BZ b m)(i:Item){k:Nat}(hk:k<=b.AW.length):BK cx 190 [Pt bi 0,.agg i.row,I (k:Int)] h (.tuple [I ((b.Hi i k).getD 7),.bool (b.Hi i k).isSome]) h:=by
 have ho:=rm.AW;have ye:=rm.tm;have wZ:AV 2 (Jz.map vB) (.sl 2 (Jz.map vB)):= .mk;have C:=λws hw=>u9 (ws:=ws) CX hw i h;rw[ku,Ae,gP];have hlen:Jz.length=9:=rfl;have Q:=wZ.CN;rw[hlen] at Q;simp only[BF,↓reduceIte,Fc,aHN.Ac,Q];refine Bl (λn:Nat=>[I 0,ff,I (n:Int)]) (λn h1=>n<=9/\(Jz.find? λr=>Bs [r.1] i)=((Jz.drop n).find? λr=>Bs [r.1] i)/\h1=h) (λn=>9 -n) 0 rfl ⟨AZ _,rfl,rfl⟩ ?_;rintro n h1 ⟨hn,ha,rfl⟩;rcases AQ n 9 with hlt|Ei
 .have S4:n<Jz.length:=hlt;have em:AB (.C8 1) [.str Jz[n].1]=some (.sl 1 ([Jz[n].1].map CC)):=D1 (ws:=[Jz[n].1]) rfl AH;rw[AG S4,GK] at ha;simp only[BF,Nat.reduceLeDiff,↓reduceIte,lN,(Ab:(n:Int)<((9:Nat):Int)),wZ.BM S4,vB,em,(C [Jz[n].1] AH).Ac,BO (Ab:n<9223372036854775807)];rw[CT];refine⟨λh2=>?_,λh2=>?_⟩;.rw[h2] at ha;rw[ha];simp
  .rw[h2] at ha;exact AL.next (n+1) rfl ⟨hlt,ha,rfl⟩ Ab
 .have R:n=9:=by omega
  subst R;have ha:(Jz.find? λr=>Bs [r.1] i)=none:=ha;rw[ha];have q:AB (.C8 1) [S aUE]=some (.sl 1 ([Lj].map CC)):=D1 (ws:=[Lj]) rfl AU;have s:AB (.C8 1) [S [116,100],S [116,104]]=some (.sl 1 ([uv,uw].map CC)):=D1 (ws:=[uv,uw]) rfl AU;have u:AB (.C8 1) [S aTR]=some (.sl 1 ([AK].map CC)):=D1 (ws:=[AK]) rfl AU;have J:AB (.C8 1) [S aTY]=some (.sl 1 ([Q7].map CC)):=D1 (ws:=[Q7]) rfl AU;have L:AB (.C8 1) [S aTT]=some (.sl 1 ([DI].map CC)):=D1 (ws:=[DI]) rfl AU;have f:=C [Lj] AU;have d:=C [uv,uw] AU;have g:=C [AK] AU;have y:=C [Q7] AU;have B:=C [DI] AU;have rs:=aHM w rm hk;have lt:=(w.t.1.RI (h:=h1));have j:¬((9:Nat):Int)<((9:Nat):Int):=AU;have l6:=w.l6;have H:b.tm≠[]->∃p,AB (.int .sub) [I (b.tm.length:Int),I 1]=some (I ((b.tm.length-1:Nat):Int))/\AB (.Fu 1) [t,I ((b.tm.length-1:Nat):Int)]=some p/\A7 h1 none p=some (I (b.tm.getLast?.getD 7)):=by intro hne;have hpos:=Dy.2 hne;obtain⟨p,E,D⟩:=lt.at_ (b.tm.length-1) Ab;refine⟨p,Hw hpos Ab,E,?_⟩;rw[D,KQ,Ak Ab];rfl
  by_cases g1:Bs [Lj] i=true;.rw[g1] at f;simp only[abS,↓reduceIte,j,q,f.Ac,rs.Ac,g1,Hp,lI]
  .have g1:Bs [Lj] i=false:=by simpa using g1
   rw[g1] at f;by_cases A:0<k
   .have N:¬k=0:=by omega
    have z:¬(k:Int)=0:=Ab;have v:(0:Int)<(k:Int):=Ab;cases g2:Bs [uv,uw] i<;>rw[g2] at d;rotate_left;.simp only[BF,↓reduceIte,j,q,f.Ac,s,d.Ac,A,v,g1,IU]
    cases g3:Bs [AK] i<;>rw[g3] at g;rotate_left
    .by_cases ht:b.tm=[];.simp only[BF,↓reduceIte,j,q,f.Ac,s,d.Ac,u,g.Ac,A,v,g1,IU,l6,lt.len,ht,Int.natCast_zero,aAf,qD]
     .obtain⟨p,E,D,M⟩:=H ht;have Gm:¬b.tm.length=0:=λe=>ht (LZ.1 e);simp only[BF,↓reduceIte,j,q,f.Ac,s,d.Ac,u,g.Ac,A,v,g1,IU,l6,lt.len,(Ab:(0:Int)<(b.tm.length:Int)),E,D,M]
    cases P:Bs [Q7] i<;>rw[P] at y;rotate_left;.simp only[BF,↓reduceIte,j,q,f.Ac,s,d.Ac,u,g.Ac,J,y.Ac,A,v,g1,IU]
    all_goals cases O:Bs [DI] i<;>rw[O] at B
    all_goals first
     |simp only[BF,↓reduceIte,j,q,f.Ac,s,d.Ac,u,g.Ac,J,y.Ac,L,B.Ac,A,N,z,v,g1,IU];done
     |by_cases K:b.head=0
      .simp only[BF,↓reduceIte,j,q,f.Ac,s,d.Ac,u,g.Ac,J,y.Ac,L,B.Ac,A,z,v,g1,IU,w.l7,K]
      .simp only[BF,↓reduceIte,j,q,f.Ac,s,d.Ac,u,g.Ac,J,y.Ac,L,B.Ac,A,z,v,g1,IU,w.l7,K]
   .have N:k=0:=by omega
    subst N;have v:¬(0:Int)<((0:Nat):Int):=AU;have z:((0:Nat):Int)=0:=rfl;by_cases g3:Bs [AK] i=true
    .rw[g3] at g;cases g2:Bs [uv,uw] i<;>rw[g2] at d<;>by_cases ht:b.tm=[];all_goals first
      |simp only[BF,↓reduceIte,j,q,f.Ac,s,d.Ac,u,g.Ac,z,g1,g3,IU,l6,lt.len,ht,aAf,qD,Dj];done
      |obtain⟨p,E,D,M⟩:=H ht
       have Gm:¬b.tm.length=0:=λe=>ht (LZ.1 e);simp only[BF,↓reduceIte,j,q,f.Ac,s,d.Ac,u,g.Ac,z,g1,g3,IU,l6,lt.len,(Ab:(0:Int)<(b.tm.length:Int)),E,D,M,Dj]
    .have g3:Bs [AK] i=false:=by simpa using g3
     rw[g3] at g;cases g2:Bs [uv,uw] i<;>rw[g2] at d<;>cases P:Bs [Q7] i<;>rw[P] at y<;>cases O:Bs [DI] i<;>rw[O] at B<;>by_cases K:b.head=0;all_goals simp only[BF,↓reduceIte,j,q,f.Ac,s,d.Ac,u,g.Ac,J,y.Ac,L,B.Ac,z,g1,g3,IU,w.l7,K,Dj]
end
end Go.Am
end
