/- Lemmas -/
import Derived.Test.YtljddgipdchkiaaGreatDoorB24
set_option linter.all false
set_option maxHeartbeats 0
set_option maxRecDepth 100000
section
namespace Go.Am
open Go
section
variable{h h':Ah}{a n:Nat}{m:Option Nat}{ps:List PN}{A:Ar}{x:Int}{F:Nat->Prop}
def PA.pw(w:PA h a n m ps A):PW h (λi=>i∈Ga a n m ps) a A:=⟨n,m,ps,w,λ_=>aDb⟩
def MZ.add{y:EP}(b:MZ A)(h1:A.len+1<=1000000000)(h2:y.Az.length<=1000000000)(c:y.data.length<=1000000000):MZ (A.add y):=by
 refine⟨?_,λx=>?_,λx=>?_⟩;.unfold Ar.len at h1;simp[Ar.add];omega
 .rw[IC];split;.exact h2
  .exact b.at_ x
 .rw[IC];split;.exact c
  .exact b.data x
def MZ.set{y:EP}(b:MZ A)(h2:y.Az.length<=1000000000)(c:y.data.length<=1000000000):MZ (A.set x y):=by
 refine⟨by rw[Ju];exact b.n,λx=>?_,λx=>?_⟩<;>rw[JP]<;>split;.exact h2
 .exact b.at_ x
 .exact c
 .exact b.data x
def Ċ{x y:EP}:(A.add x).set (A.len+1) y=A.add y:=by unfold Ar.set;rw[Ae (DJ.2 (.inr rfl))];unfold Ar.add Ar.len;have e:((A.n.length:Int)+1).toNat-1=A.n.length:=Ab;simp only[e];rw[BM _ _ (Ag _),C6];rfl
def zL{p:PN}(w:PA h a n m ps A)(hx:A.has x)(hk:HL p.kv=HL (pN ps x).kv):Ga a n m (ps.set (x.toNat-1) p)=Ga a n m ps:=by obtain⟨c,b⟩:=Yg w hx p;unfold Ga;rw[b,EI,Ir,hk];conv=>rhs;rw[c,EI,Ir]
def PA.wr(w:PA h a n m ps A)(hx:A.has x){k:Nat}(hk:k<13){v:Aa}(hv:v.cells=[v]){p:PN}(hp:p.row=(pN ps x).row.set k v)(h1:p.kv=(pN ps x).kv)(h2:p.x.A6=(A.nd x).A6):
  ∃h',Cx h 1 (Pt n (nP n x+k)) v=some h'/\PA h' a n m (ps.set (x.toNat-1) p) (A.set x p.x)/\Ga a n m (ps.set (x.toNat-1) p)=Ga a n m ps/\(∀i,i≠n->h'[i]?=h[i]?)/\h'.length=h.length:=by
 refine⟨_,w.sto hx hk hv hp rfl,w.jf hx (λi _ _=>rfl) (by rw[h1,h2];exact w.MK hx) (.inl (by rw[h1])),zL w hx (by rw[h1]),λi hi=>by rw[Ap (DG hi)],Bn⟩
def PA.zM(w:PA h a n m ps A){h1:Ah}{IN:List PN}{A':Ar}(w':PA h1 a n m IN A')(hi:Ga a n m IN=Ga a n m ps)(ho:∀i,i≠n->h1[i]?=h[i]?)(hl:h1.length=h.length):DA h (λi=>i∈Ga a n m ps) h1 (λi=>i∈Ga a n m IN):=
 ⟨Ab,λi _ hn=>ho i (λe=>hn (by rw[e];simp[Ga])),λi VA=> .inl (by rwa [hi] at VA)⟩
def KD(q:Bool)(d:Int):PN:=⟨{kind:=1,Cq:=q,Cf:=d},.slnil,.slnil,rfl⟩
def aKR(w:PA h a n m ps A)(j:MZ A)(hb:A.len+1<=1000000000)(q:Bool):
  ∃h',BH cx 58 [Pt a 0,.bool q] h (I (A.len+1)) h'/\PA h' a h.length m (ps++[KD q (A.len+1)]) (A.add {kind:=1,Cq:=q,Cf:=A.len+1})/\(∀i,i<h.length->i≠a->i≠n->h'[i]?=h[i]?)/\h'.length=h.length+1:=by
 have bS:=w.len;obtain⟨h1,e,w1,g,l1⟩:=ub w Ab (KD q 0) rfl rfl;have ŧ:=j.add (y:=(KD q 0).x) hb (by simp[KD]) (by simp[KD]);have hx:(A.add (KD q 0).x).has (A.len+1):=DJ.2 (.inr rfl);have hlen:(A.len+1).toNat-1=ps.length:=Ab;have b:pN (ps++[KD q 0]) (A.len+1)=KD q 0:=by unfold pN;rw[hlen];simp
 obtain⟨h2,d,c,_,f,r⟩:=w1.wr hx (k:=3) AX (v:= I (A.len+1)) rfl (p:=KD q (A.len+1)) (by rw[b];rfl) (by rw[b];rfl) (by rw[IC,Ae rfl];rfl);refine⟨h2,?_,?_,λi hi o l=>?_,Ab⟩;.have r2:=IH w1 ŧ hx;rw[Af,dQ];have Ũ:BH cx 158 [Pt a 0,.agg [I 1,I 0,.slnil,I 0,I 0,.str [],.slnil,.str [],.str [],.str [],.bool q,I 0,I 0]] h (I (A.len+1)) h1:=e;simp only[abS,Nat.reduceLeDiff,↓reduceIte,AP,Ũ.Ad,r2.Ad,d]
 .rw[Ċ,hlen] at c;rw[BM _ _ (Ag _),C6] at c;exact c
 .rw[f i Ab];exact g i hi o l
def Ms(k d:Int)(s:Ao):PN:=⟨{kind:=k,Cf:=d,data:=s},.slnil,.slnil,rfl⟩
def PA.Qu(w:PA h a n m ps A){p:PN}{h1:Ah}(hk:HL p.kv=none)(b:∀i,i<h.length->i≠a->i≠n->h1[i]?=h[i]?)(l1:h1.length=h.length+1):DA h (λi=>i∈Ga a n m ps) h1 (λi=>i∈Ga a h.length m (ps++[p])):=by
 refine⟨Ab,λi hi hn=>b i hi (λe=>hn (by simp[Ga,e])) (λe=>hn (by simp[Ga,e])),λi hi=>?_⟩;rw[nN hk] at hi;simp only[AT] at hi;rcases hi with rfl|rfl|hi
 .exact .inl (by simp[Ga])
 .exact .inr (Ag _)
 .exact .inl (by unfold Ga;simp only[AT];exact .inr (.inr hi))
def ũ{k:Int}{s:Ao}(w:PA h a n m ps A)(d:MZ A)(hb:A.len+1<=1000000000)(hd:A.has x/\(A.nd x).kind=1):
  ∃h',BH cx 235 [Pt a 0,I x,.agg (Ms k 0 s).row] h (.tuple [I (A.len+1),I 0]) h'/\PA h' a h.length m (ps++[Ms k x s]) (A.add (Ms k x s).x)/\(∀i,i<h.length->i≠a->i≠n->h'[i]?=h[i]?)/\h'.length=h.length+1:=by
 have bS:=w.len;obtain⟨h1,b,w1,c,l1⟩:=ub w Ab (Ms k x s) rfl rfl;refine⟨h1,?_,w1,c,l1⟩;rw[PN.row] at b;rw[Af,VV,PN.row];simp only[abS,(nM (x:=x) w d).Ad,Ae hd.1,Ae hd.2,BW,Cw,Ms] at b⊢;simp only[BC,b.Ad]
def aKS{s:Ao}(w:PA h a n m ps A)(d:MZ A)(hb:A.len+1<=1000000000)(hd:A.has x/\(A.nd x).kind=1):
  ∃h',BH cx 176 [Pt a 0,I x,.str s] h (.tuple [I (A.len+1),I 0]) h'/\PA h' a h.length m (ps++[Ms 5 x s]) (A.add (Ms 5 x s).x)/\(∀i,i<h.length->i≠a->i≠n->h'[i]?=h[i]?)/\h'.length=h.length+1:=by
 obtain⟨h1,b,w1,c,l1⟩:=ũ (k:=5) (s:=s) w d hb hd;refine⟨h1,?_,w1,c,l1⟩;have Ũ:BH cx 235 [Pt a 0,I x,.agg [I 5,I 0,.slnil,I 0,I 0,.str [],.slnil,.str s,.str [],.str [],.bool false,I 0,I 0]] h (.tuple [I (A.len+1),I 0]) h1:=b;rw[Af,eX];simp only[abS,Nat.reduceLeDiff,↓reduceIte,AP,Ũ.Ad]
def aFK{s:Ao}(w:PA h a n m ps A)(d:MZ A)(hb:A.len+1<=1000000000)(hd:A.has x/\(A.nd x).kind=1):
  ∃h',BH cx 177 [Pt a 0,I x,.str s] h (.tuple [I (A.len+1),I 0]) h'/\PA h' a h.length m (ps++[Ms 6 x s]) (A.add (Ms 6 x s).x)/\(∀i,i<h.length->i≠a->i≠n->h'[i]?=h[i]?)/\h'.length=h.length+1:=by
 obtain⟨h1,b,w1,c,l1⟩:=ũ (k:=6) (s:=s) w d hb hd;refine⟨h1,?_,w1,c,l1⟩;have Ũ:BH cx 235 [Pt a 0,I x,.agg [I 6,I 0,.slnil,I 0,I 0,.str [],.slnil,.str s,.str [],.str [],.bool false,I 0,I 0]] h (.tuple [I (A.len+1),I 0]) h1:=b;rw[Af,eY];simp only[abS,Nat.reduceLeDiff,↓reduceIte,AP,Ũ.Ad]
def aKT{s:Ao}(w:PA h a n m ps A)(e:MZ A)(hx:A.has x)(hk:(A.nd x).kind=5):
  ∃h' IN,BH cx 175 [Pt a 0,I x,.str s] h (I 0) h'/\PA h' a n m IN (A.SD x s)/\DA h (λi=>i∈Ga a n m ps) h' (λi=>i∈Ga a n m IN):=by
 have hp:=(w.pn hx).2.1;obtain⟨h2,c,b,g,d,f⟩:=w.wr hx (k:=7) AX (v:= .str s) rfl (p:=⟨{A.nd x with data:=s},(pN ps x).kv,(pN ps x).av,by rw[<-hp];exact(pN ps x).ok⟩) (by simp only[PN.row];rw[hp];rfl) rfl rfl;refine⟨h2,_,?_,b,w.zM b g d f⟩;rw[Af,eW];simp only[abS,Hz,(TM (x:=x) w).Ad,Ae hx,BW,Cw,(IH w e hx).Ad,w.f0 hx,hk,c]
def Ū{y:Int}:BH cx 345 [.sl 1 [[I y]]] h (.bool (decide (BS.HV y))) h:=by
 have hv:AU 1 [[I y]] (.sl 1 [[I y]]):= .mk;have d:([[I y]]:List (List Aa))[0]=[I y]:=rfl;rw[Af,iH];simp only[BC,hv.len];refine Bf (λk:Nat=>[.bool false,I (k:Int)]) (λk h1=>k<=1/\(k=1->BS.HV y)/\h1=h) (λk=>1 -k) 0 rfl ⟨AQ _,λe=>Ab,rfl⟩ ?_;rintro k h1 ⟨hk,ha,rfl⟩;rcases AN k 1 with hlt|D6
 .obtain rfl:k=0:=by omega
  simp only[BC,aC,(AX:((0:Nat):Int)<((1:Nat):Int)),hv.E2 (show 0<[[I y]].length from Cc),d,BI (Ab:0<9223372036854775807)];refine⟨λh2=>?_,λh2=>⟨λc=>?_,λc=>?_⟩⟩;.rw[Ay (λb=>by unfold BS.HV at b;omega)]
  .rw[Ay (λb=>by unfold BS.HV at b;omega)]
  .exact AK.next 1 rfl ⟨Ag _,λ_=>⟨Ab,Ab⟩,rfl⟩ Ab
 .obtain rfl:k=1:=by omega
  simp only[abS,(AX:¬((1:Nat):Int)<((1:Nat):Int)),AA (ha rfl)]
def Yh{l out:List A3}{y:A3}:GA out (l++[y])=if(GA out l).any (λz=>decide (Dx y=Dx z)) then GA out l else GA out l++[y]:=by
 induction l generalizing out with
 |nil=>simp only[BQ,GA];split<;>simp_all
 |cons z l ih=>
  rw[CJ,GA,GA];split;.exact ih
  .exact ih
def aFL(y c:A3)(h:Ah):BH cx 409 [.agg c.row,.CG y.row] h (.bool (decide (Dx y=Dx c))) h:=by
 rw[Af,iW,A3.row,A3.row];simp only[BC];refine⟨λh1=>?_,λh1=>?_⟩;.congr 2;rw[C5];simp[Dx,h1]
 .rw[Ay (λe=>h1 (by simp[Dx] at e;exact e.1))]
def ū{F v:Aa}{l:List A3}{q:A3->Bool}(hv:M1 h v l)(hb:l.length<=1000000000)(hF:nK F h q):BH cx 191 [v,F] h (.bool (l.any q)) h:=by
 obtain⟨f,caps,rfl,hf,hr⟩:=hF;have key:BH cx 309 [v,.func (.func f) [] caps] h (I (B8 q 0 l)) h:=by
  rw[Af,SI];simp only[BC,hv.len];refine Bf (λn:Nat=>[I 0,I (n:Int)]) (λn h1=>n<=l.length/\B8 q 0 l=B8 q n (l.drop n)/\h1=h) (λn=>l.length-n) 0 rfl ⟨AQ _,rfl,rfl⟩ ?_;rintro n h1 ⟨zH,ha,rfl⟩;rcases AN n l.length with hlt|D6
  .have i1:(n:Int)<(l.length:Int):=by omega
   obtain⟨p,d,c⟩:=hv.at_ n hlt;rw[AF hlt,B8] at ha;simp only[BC,↓reduceIte,Di,aC,hf,i1,d,c,(hr l[n]).Ad,BI (Ab:n<9223372036854775807)];rw[Cu];refine⟨λhe=>?_,λhe=>?_⟩;.rw[ha,Ae he]
   .rw[Ac (by simp[he])] at ha;exact AK.next (n+1) rfl ⟨hlt,ha,rfl⟩ Ab
  .have i1:¬(n:Int)<(l.length:Int):=by omega
   rw[AO D6,B8] at ha;simp only[abS,↓reduceIte,Di,i1,ha]
 rw[Af,VR];simp only[BC,key.Ad];congr 2
 rcases GQ (p:=q) (l:=l) (k:=0) with⟨h1,h2⟩|⟨n,y,h1,h2,b⟩
 .rw[h1,jw];have:=Jp.1 h2;simpa using this
 .rw[h1,jw,AA Ab,Nj];exact⟨y,QE b,UL b⟩
def Ŭ{l:List A3}{v:Aa}(hv:M1 h v l)(hb:l.length<=1000000000)(hs:∀y∈l,BS.HV y.A7):BH cx 339 [v] h (.tuple [Vi (Cv l),.bool true]) h:=by
 rw[Af,iB];simp only[BC,hv.len];refine Bf (λk:Nat=>[.slnil,.bool false,Vi (Cv (l.take k)),I (k:Int)]) (λk h1=>k<=l.length/\h1=h) (λk=>l.length-k) 0 rfl ⟨AQ _,rfl⟩ ?_;rintro k h1 ⟨hk,rfl⟩;rcases AN k l.length with hlt|D6
 .have i1:(k:Int)<(l.length:Int):=by omega
  obtain⟨p,j,e⟩:=hv.at_ k hlt;have inc:=BI (Ab:k<9223372036854775807);have hsp:=hs _ (AL hlt);have i:=Ū (h:=h1) (y:=l[k].A7);have hF:nK (.func (.func 409) [] [.CG l[k].row]) h1 (λc=>decide (Dx l[k]=Dx c)):=⟨_,_,rfl,AX,λc=>aFL l[k] c h1⟩;have ji:(Cv (l.take k)).length<=1000000000:=by have:=Ql (l:=l.take k);rw[As] at this;omega
  have r2:=ū (Yf Wb) ji hF;have g:Cv (l.take (k+1))=if(Cv (l.take k)).any (λz=>decide (Dx l[k]=Dx z)) then Cv (l.take k) else Cv (l.take k)++[l[k]]:=by rw[AB hlt];exact Yh
  have d:=AU.Ki (f:=A3.row) (a:=l[k]) (b:=40) (Wb (l:=Cv (l.take k))) (by have:=Ql (l:=l.take k);rw[As] at this;have:AM=140737488355328:=rfl;omega);have em:AE (.Dh 3) [.agg l[k].row]=some (.sl 3 [l[k].row]):=rfl;rw[<-gg] at d;rw[A3.row] at r2 em d e;simp only[abS,Nat.reduceLeDiff,↓reduceIte,i1,j,e,Hz,i.Ad,AA hsp,r2.Ad,em,d,inc];rw[Cu];refine⟨λh2=>?_,λh2=>?_⟩;.exact AK.next (k+1) (by rw[g,Ac (by simpa using h2)]) ⟨hlt,rfl⟩ Ab
  .exact AK.next (k+1) (by rw[g,Ae (by simpa using h2)]) ⟨hlt,rfl⟩ Ab
 .have i1:¬(k:Int)<(l.length:Int):=by omega
  simp only[abS,↓reduceIte,i1,AG D6]
def aFM{l:List A3}{v:Aa}(w:PA h a n m ps A)(f:MZ A)(hx:A.has x)(hk:(A.nd x).kind=4)(hv:M1 h v l)(hb:l.length<=1000000000)(hs:∀y∈l,BS.HV y.A7):
  ∃h' IN,BH cx 193 [Pt a 0,I x,v] h (I 0) h'/\PA h' a n m IN (A.Jv x l)/\DA h (λi=>i∈Ga a n m ps) h' (λi=>i∈Ga a n m IN):=by
 have hp:=(w.pn hx).2.1;have d:=Ŭ hv hb hs;obtain⟨h2,c,b,j,e,g⟩:=w.wr hx (k:=6) AX (v:=Vi (Cv l)) (AU.cells Wb) (p:=⟨{A.nd x with Az:=Cv l},(pN ps x).kv,Vi (Cv l),rfl⟩) (by simp only[PN.row];rw[hp];rfl) rfl rfl;refine⟨h2,_,?_,b,w.zM b j e g⟩;rw[Af,fK];simp only[abS,Hz,(TM (x:=x) w).Ad,Ae hx,BW,Cw,(IH w f hx).Ad,w.f0 hx,hk,d.Ad,c]
def aFN(w:PA h a n m ps A)(hx:A.has x):BH cx 346 [Pt n (nP n x)] h (.bool (decide (YR (A.nd x)))) h:=by rw[Af,iI];simp only[abS,w.f0 hx,w.f4 hx,w.f5 hx,YR];refine⟨λh1=>⟨λh2=>?_,λh2=>?_⟩,λh1=>?_⟩<;>simp[*]
def Qz(x:Int×Int):Aa×Aa:=(I x.1,I x.2)
def jG{k:Int}:∀{l:List (Int×Int)} {i:Nat},(l.find? (λx=>decide (k=x.1))=none->Ly k (l.map Qz) i=some none)/\∀y,l.find? (λx=>decide (k=x.1))=some y->∃j,Ly k (l.map Qz) i=some (some (j,I y.2))
 |[],i=>⟨λ_=>rfl,λy h=>by cases h⟩
 |z::l,i=>by
  have ih:=jG (k:=k) (l:=l) (i:=i+1);simp only[Bk,Qz,Ly,GG];by_cases e:k=z.1;.simp only[e,Dp,BL];exact⟨λh=>(by cases h),λy h=>⟨i,by cases h;rfl⟩⟩
  .simp only[e,Dy,Ea];exact ih
def Ye.get{f:Int->Int}(w:Ye h m f)(k:Int):E4 (.jx (I 0) true) h [.map m,I k]=some (h,if f k=0 then .tuple [I 0,.bool false] else .tuple [I (f k),.bool true]):=by
 rcases w with⟨rfl,h0⟩|⟨id,l,rfl,hc,hl,_⟩
 .rw[Ae (h0 k)];rfl
 .have hl:=hl k;have hm:=jG (k:=k) (l:=l) (i:=0);simp only[E4,uX,hc];by_cases h0:f k=0
  .rw[Ae h0] at hl⊢;have e:l.find? (λx=>decide (k=x.1))=none:=by
    cases hf:l.find? (λx=>decide (k=x.1)) with
    |none=>rfl
    |some y=>rw[hf] at hl;cases hl
   have:=hm.1 e;unfold Qz at this;rw[this];rfl
  .rw[Ac h0] at hl⊢;cases hf:l.find? (λx=>decide (k=x.1)) with
   |none=>rw[hf] at hl;cases hl
   |some y=>rw[hf] at hl;simp only[B9,Bz] at hl;obtain⟨j,e⟩:=hm.2 y hf;unfold Qz at e;rw[e,<-hl];rfl
def zN{id:Nat}{l:List (Int×Int)}{k v:Int}(hc:h[id]?=some (.map (l.map Qz)))(hn:l.find? (λx=>decide (k=x.1))=none):
  ∃h1,E4 (.Te (I 0)) h [.map (some id),I k]=some (h1,.tuple [I 0,I l.length])/\∃h2,E4 .O4 h1 [.map (some id),I l.length,I v]=some (h2,.bool true)/\h2=h.set id (.map ((l++[(k,v)]).map Qz)):=by
 have Ij:=(Al.1 hc).1;have hm:=(jG (k:=k) (l:=l) (i:=0)).1 hn;refine⟨h.set id (.map (l.map Qz++[(I k,I 0)])),?_,_,?_,rfl⟩;.simp only[E4,Vs,hc,hm,B9,Ak]
 .have c:(h.set id (.map (l.map Qz++[(I k,I 0)])))[id]?=some (.map (l.map Qz++[(I k,I 0)])):=AS Ij;have b:(l.map Qz++[(I k,I 0)])[l.length]?=some (I k,I 0):=by rw[Bl AH];simp
  simp only[E4,Vt,c,AV,b];rw[Ae Ab,aDd,BM _ _ AH];simp[Qz]
def PA.aFO(w:PA h a n m ps A):∀i∈m.toList++ps.filterMap (λp=>HL p.kv),i<h.length/\i≠a/\i≠n:=by
 intro i hi;have h1:i∈Ga a n m ps:=by unfold Ga;simp only[AT];exact .inr (.inr hi)
 have b:=w.nd;unfold Ga at b;simp only[B5,AT,Nh] at b;exact⟨w.lt i h1,λe=>b.1.2 (e▸hi),λe=>b.2.1 (e▸hi)⟩
def PA.aFP(w:PA h a n m ps A){h1:Ah}{m':Option Nat}{A':Ar}(g:A'.n=A.n)(f:A'.i.length=A'.n.length)(ha:h1[a]?=some (.cells [.CE n 0 ps.length 13,.map m']))(ho:∀i,i<h.length->i≠a->m≠some i->h1[i]?=h[i]?)(hm:m'=m\/∃j,m'=some j/\h.length<=j)(b:Ye h1 m' A'.inr):PA h1 a n m' ps A':=by
 have nd:=w.nd;have jF:=nd;unfold Ga at jF;simp only[B5,AT,Nh] at jF;have hnm:m≠some n:=λe=>jF.2.1 (by simp[e]);refine⟨by rw[g];exact w.e,f,ha,?_,?_,?_,b⟩;.rw[ho n (w.lt n (by simp[Ga])) (DG jF.1.1) hnm];exact w.hn
 .intro p hp;refine(w.ks p hp).Df λid Ij=>?_;have h1:id∈ps.filterMap (λp=>HL p.kv):=Ci.2 ⟨p,hp,Ij⟩;have h2:=w.aFO id (Ax.2 (.inr h1));exact ho id h2.1 h2.2.1 λe=>(B2.1 jF.2.2).2.2 id (by simp[e]) id h1 rfl
 .rcases hm with rfl|⟨j,rfl,hj⟩
  .exact nd
  .have d:∀i∈ps.filterMap (λp=>HL p.kv),i<h.length:=λi hi=>(w.aFO i (Ax.2 (.inr hi))).1;have l:=w.lt a (by simp[Ga]);have k:=w.lt n (by simp[Ga]);have c:=(B2.1 jF.2.2).2.1;unfold Ga;simp only[B5,AT,aMX,CJ,BQ,Nh];exact⟨⟨jF.1.1,Ab,λhm=>jF.1.2 (Ax.2 (.inr hm))⟩,⟨Ab,λhm=>jF.2.1 (Ax.2 (.inr hm))⟩,λhm=>by have:=d j hm;omega,c⟩
def Yi{l:List (Int×Int)}{k v:Int}(hk:zK l)(hn:l.find? (λx=>decide (k=x.1))=none)(h1:dd k=true)(h2:dd v=true):zK (l++[(k,v)]):=by
 refine⟨?_,λp hp=>?_⟩;.rw[BF,B2];refine⟨hk.1,AH,λa ha b hb e=>?_⟩;obtain⟨x,hx,rfl⟩:=Bj.1 ha;have c:=Jp.1 hn x hx;simp only[Bk,CW,DB] at hb;exact c (by simpa using(e.trans hb).symm)
 .rcases Ax.1 hp with h|h
  .exact hk.2 p h
  .simp only[DB] at h;subst h;exact⟨h1,h2⟩
def zO(hb:A.len<=1000000000)(hx:A.has x):dd x=true:=by have:=hx.1;have:=hx.2;unfold Ar.len at hb;unfold dd;simp;omega
def aFQ{i:Nat}(hm:m=some i):i∈Ga a n m ps:=by unfold Ga;simp[hm]
def PA.aFR(w:PA h a n m ps A){l:List (Int×Int)}{id:Nat}(s:m=some id)(hc:h[id]?=some (.map (l.map Qz)))(hl:∀k,(l.find? λx=>decide (k=x.1)).map (·.2)=if A.inr k=0 then none else some (A.inr k))(ok:zK l)(hb:A.len<=1000000000){d i:Int}(hd:A.has d)(hi:A.has i)(c:d≠i)(h0:A.inr d=0)(ő:A.inr i=0):
  ∃h1 h2 q,E4 (.Te (I 0)) h [.map m,I d]=some (h1,.tuple [I 0,I l.length])/\E4 .O4 h1 [.map m,I l.length,I i]=some (h2,.bool true)/\
   E4 (.Te (I 0)) h2 [.map m,I i]=some (q,.tuple [I 0,I ((l.length+1:Nat):Int)])/\∃o,E4 .O4 q [.map m,I ((l.length+1:Nat):Int),I i]=some (o,.bool true)/\PA o a n m ps ((A.I2 d i).I2 i i)/\(∀j,j≠id->o[j]?=h[j]?)/\o.length=h.length:=by
 subst s;have Ij:=(Al.1 hc).1;have b:∀k,A.inr k=0->l.find? (λx=>decide (k=x.1))=none:=by
  intro k hk;have:=hl k;rw[Ae hk] at this;cases hf:l.find? (λx=>decide (k=x.1)) with
  |none=>rfl
  |some y=>rw[hf] at this;cases this
 obtain⟨h1,D,h2,C,rfl⟩:=zN (v:=i) hc (b d h0);have IV:(h.set id (.map ((l++[(d,i)]).map Qz)))[id]?=some (.map ((l++[(d,i)]).map Qz)):=AS Ij;obtain⟨q,z,o,u,rfl⟩:=zN (k:=i) (v:=i) IV (by rw[Q4,b i ő];simp[DG c]);simp only[Aw,Bi] at z u;refine⟨h1,_,q,D,C,z,_,u,?_,?_,AH⟩
 .have g:id≠a:=λe=>by have:=w.nd;unfold Ga at this;simp[e] at this
  refine w.aFP (m':=some id) (A':=(A.I2 d i).I2 i i) rfl ?_ ?_ ?_ (.inl rfl) ?_;.simp only[Ar.I2];split<;>split<;>simp[w.il]
  .rw[Ap g,Ap g];exact w.ha
  .intro j hj B t;have:id≠j:=λe=>t (by rw[e]);rw[Ap this,Ap this]
  .refine .inr ⟨id,l++[(d,i)]++[(i,i)],rfl,?_,λk=>?_,Yi (Yi ok (b d h0) (zO hb hd) (zO hb hi)) (by rw[Q4,b i ő];simp[DG c]) (zO hb hi) (zO hb hi)⟩;.rw[AS (by simpa using Ij)];rfl
   .have r:(A.I2 d i).i.length=(A.I2 d i).n.length:=by simp only[Ar.I2];split<;>simp[w.il]
    rw[PJ r,PJ w.il,Q4,Q4];have my:(A.I2 d i).has i:=hi;have hk:=hl k;have tL:i≠0:=by have:=hi.1;omega
    cases hf:l.find? (λx=>decide (k=x.1)) with
    |some y=>
     rw[hf] at hk;have nJ:A.inr k≠0:=by intro e;rw[Ae e] at hk;cases hk
     have p:k≠i:=λe=>nJ (e▸ő);have f:k≠d:=λe=>nJ (e▸h0);simp only[p,f,YU,Ea,Option.some_or];exact hk
    |none=>
     rw[hf] at hk;have nJ:A.inr k=0:=by
      by_cases e:A.inr k=0;.exact e
      .rw[Ac e] at hk;cases hk
     by_cases f:k=d;.subst f;simp[c,hd,tL]
     .by_cases p:k=i;.subst p;simp[f,my,tL]
      .simp[p,f,nJ]
 .intro j hj;rw[Ap (DG hj),Ap (DG hj)]
def aFS(w:PA h a n m ps A)(D:MZ A)(hb:A.len+1<=1000000000)(hx:A.has x):
  ∃h' n' m' IN,BH cx 347 [Pt a 0,I x] h (I (A.Fy x)) h'/\PA h' a n' m' IN (A.Dd x)/\DA h (λi=>i∈Ga a n m ps) h' (λi=>i∈Ga a n' m' IN):=by
 have l1:Bd h none (Pt a 1)=some (.map m):=by simp only[Bd,w.ha];rfl
 have g1:=w.mp.get x;by_cases h0:A.inr x=0
 .obtain⟨h1,y,w1,C,d⟩:=aKR w D hb false;have f:=w.Qu (p:=KD false (A.len+1)) rfl C d;have r:A.Fy x=A.len+1:=by unfold Ar.Fy;rw[Ac (by simp[h0])]
  have s:A.Dd x=((A.add {kind:=1,Cf:=A.len+1}).I2 x (A.len+1)).I2 (A.len+1) (A.len+1):=by unfold Ar.Dd;rw[Ac (by simp[h0])]
  have ċ:∀k,(A.add {kind:=1,Cq:=false,Cf:=A.len+1}).inr k=A.inr k:=λk=>VH w.il;have OX:(A.add {kind:=1,Cq:=false,Cf:=A.len+1}).has x:=DJ.2 (.inl hx);have U8:(A.add {kind:=1,Cq:=false,Cf:=A.len+1}).has (A.len+1):=DJ.2 (.inr rfl);have hne:=XS hx;have ő:A.inr (A.len+1)=0:=by unfold Ar.inr;rw[Ac Rs]
  have z:Bd h1 none (Pt a 1)=some (.map m):=by simp only[Bd,w1.ha];rfl
  rw[Ae h0] at g1;have Tc:(A.add {kind:=1,Cq:=false,Cf:=A.len+1}).len<=1000000000:=by rw[On];exact hb
  rcases w1.mp with⟨rfl,hz⟩|⟨id,l,rfl,hc,hl,ho⟩
  .have Za:=w1.ha;have Vx:a<h1.length:=w1.lt a (by simp[Ga]);have OV:(h1++[Dw.map []])[a]?=some (.cells [.CE h.length 0 (ps++[KD false (A.len+1)]).length 13,.map none]):=by rw[Aj Vx];exact Za
   have es:Cx (h1++[Dw.map []]) 1 (Pt a 1) (.map (some h1.length))=some ((h1++[Dw.map []]).set a (.cells [.CE h.length 0 (ps++[KD false (A.len+1)]).length 13,.map (some h1.length)])):=by simp only[Cx,OV];rfl
   have qV:((h1++[Dw.map []]).set a (.cells [.CE h.length 0 (ps++[KD false (A.len+1)]).length 13,.map (some h1.length)]))[a]?=some (.cells [.CE h.length 0 (ps++[KD false (A.len+1)]).length 13,.map (some h1.length)]):=AS Ee;have K:Bd ((h1++[Dw.map []]).set a (.cells [.CE h.length 0 (ps++[KD false (A.len+1)]).length 13,.map (some h1.length)])) none (Pt a 1)=some (.map (some h1.length)):=by simp only[Bd,qV];rfl
   have yj:((h1++[Dw.map []]).set a (.cells [.CE h.length 0 (ps++[KD false (A.len+1)]).length 13,.map (some h1.length)]))[h1.length]?=some (.map (([]:List (Int×Int)).map Qz)):=by rw[Ap Ab,Bl (Ag _),C6];rfl
   have B:PA ((h1++[Dw.map []]).set a (.cells [.CE h.length 0 (ps++[KD false (A.len+1)]).length 13,.map (some h1.length)])) a h.length (some h1.length) (ps++[KD false (A.len+1)]) (A.add {kind:=1,Cq:=false,Cf:=A.len+1}):=by refine w1.aFP rfl w1.il qV (λi hi c _=>by rw[Ap (DG c),Aj hi]) (.inr ⟨_,rfl,Ag _⟩) (.inr ⟨h1.length,[],rfl,yj,λk=>by rw[Ae (hz k)];rfl,MC,λp hp=>nomatch hp⟩)
   obtain⟨H,G,E,q,o,j,v,g,t,u,b⟩:=B.aFR rfl yj (λk=>by rw[Ae (hz k)];rfl) ⟨MC,λp hp=>nomatch hp⟩ Tc OX U8 hne ((ċ x).trans h0) ((ċ _).trans ő);refine⟨v,_,_,_,?_,s▸t,⟨by rw[b];simp;omega,λi hi UZ=>?_,λi hi=>?_⟩⟩;.simp only[BP] at q o j g;rw[Af,SJ,r];simp only[BC,l1,g1,y.Ad,z,show AE (.Gy false .mp) [.map none,.map none]=some (.bool true) from rfl,es,K,q,o,j,g]
   .have J:=f.old i hi UZ;have c:i≠a:=λe=>UZ (by simp[Ga,e]);rw[u i Ab,Ap (DG c),Aj Ab,J]
   .unfold Ga at hi;simp only[AT,aMX,CJ,BQ] at hi;rcases hi with rfl|rfl|rfl|hi
    .exact .inl (by simp[Ga])
    .exact .inr (Ag _)
    .exact .inr Ab
    .exact f.Bt i (by unfold Ga;simp only[AT,Option.toList_none,BQ];exact .inr (.inr hi))
  .obtain⟨H,G,E,q,o,j,v,g,t,u,b⟩:=w1.aFR rfl hc hl ho Tc OX U8 hne ((ċ x).trans h0) ((ċ _).trans ő);refine⟨v,_,_,_,?_,s▸t,⟨Ab,λi hi UZ=>?_,f.Bt⟩⟩;.rw[Af,SJ,r];simp only[BC,l1,g1,y.Ad,z,show AE (.Gy false .mp) [.map (some id),.map none]=some (.bool false) from rfl,q,o,j,g]
   .rw[u i (λe=>UZ (e▸aFQ rfl))];exact f.old i hi UZ
 .have r:A.Fy x=A.inr x:=by unfold Ar.Fy;rw[Ae h0]
  have s:A.Dd x=A:=by unfold Ar.Dd;rw[Ae h0]
  refine⟨h,n,m,ps,?_,by rw[s];exact w,.refl⟩;rw[Ac h0] at g1;rw[Af,SJ,r];simp only[BC,l1,g1]
def MZ.Yj(b:MZ A)(h1:A.len+1<=1000000000):MZ (A.Dd x):=by
 unfold Ar.Dd;split;.exact b
 .have:=b.add (y:={kind:=1,Cf:=A.len+1}) h1 AH AH;exact⟨this.n,this.at_,this.data⟩
def gh(hk:A.has x){d:Int}:(A.Dd d).nd x=A.nd x:=XQ (.inl (XS hk))
def aFT{l:List A3}{v:Aa}{d sp:Int}{nm:Ao}(w:PA h a n m ps A)(t:MZ A)(hb:A.len+3<=1000000000)(hd:A.has d/\(A.nd d).kind=1)(hsp:BS.HV sp)(hv:Br l v)(hl:l.length<=1000000000)(hs:∀y∈l,BS.HV y.A7):
  ∃h' n' m' IN,BH cx 205 [Pt a 0,I d,I sp,.str nm,v] h (.tuple [I (A.len+1),I 0]) h'/\PA h' a n' m' IN (A.elem d sp nm l)/\DA h (λi=>i∈Ga a n m ps) h' (λi=>i∈Ga a n' m' IN)/\MZ (A.elem d sp nm l):=by
 have bS:=w.len;have r:=Ŭ (h:=h) (Yf hv) hl hs;obtain⟨u,hu⟩:∃u,u=Vi (Cv l):=⟨_,rfl⟩;rw[<-hu] at r;have j8:(Cv l).length<=1000000000:=by have:=Ql (l:=l);omega
 have b:=Ū (h:=h) (y:=sp);rw[AA hsp] at b;obtain⟨h1,L,w1,O,l1⟩:=ub w Ab ⟨{kind:=4,Cf:=d,A7:=sp,name:=nm,Az:=Cv l},.slnil,u,hu⟩ rfl rfl;have ŧ:=t.add (y:={kind:=4,Cf:=d,A7:=sp,name:=nm,Az:=Cv l}) Ab j8 AH;have OX:(A.add {kind:=4,Cf:=d,A7:=sp,name:=nm,Az:=Cv l}).has (A.len+1):=DJ.2 (.inr rfl);have Na:(A.add {kind:=4,Cf:=d,A7:=sp,name:=nm,Az:=Cv l}).nd (A.len+1)={kind:=4,Cf:=d,A7:=sp,name:=nm,Az:=Cv l}:=by rw[IC,Ae rfl]
 have C:=w.Qu (p:=⟨{kind:=4,Cf:=d,A7:=sp,name:=nm,Az:=Cv l},.slnil,u,hu⟩) rfl O l1;have Ũ:BH cx 158 [Pt a 0,.agg [I 4,I 0,.slnil,I d,I sp,.str nm,u,.str [],.str [],.str [],.bool false,I 0,I 0]] h (I (A.len+1)) h1:=L;have r2:=IH w1 ŧ OX;have e:=aFN w1 OX;rw[Na] at e;have hc:u.cells=[u]:=by rw[hu];exact AU.cells Wb
 unfold Ar.elem;simp only
 by_cases j:YR {kind:=4,Cf:=d,A7:=sp,name:=nm,Az:=Cv l}
 .rw[Ae j];rw[AA j] at e;have dJ:(A.add {kind:=4,Cf:=d,A7:=sp,name:=nm,Az:=Cv l}).has d:=DJ.2 (.inl hd.1);obtain⟨h2,S,T,tM,K,o,E⟩:=aFS w1 ŧ (by rw[On];omega) dJ;have s:=ŧ.Yj (x:=d) (by rw[On];omega);have ZZ:((tM.length:Nat):Int)=((A.add {kind:=4,Cf:=d,A7:=sp,name:=nm,Az:=Cv l}).Dd d).len:=o.len;have nO:((A.add {kind:=4,Cf:=d,A7:=sp,name:=nm,Az:=Cv l}).Dd d).len<=A.len+2:=by rw[fc,On];split<;>omega
  obtain⟨R,J,c,N,l3⟩:=ub o Ab ⟨{kind:=2,Ei:=A.len+1,Cf:=(A.add {kind:=4,Cf:=d,A7:=sp,name:=nm,Az:=Cv l}).Fy d},.slnil,.slnil,rfl⟩ rfl rfl;obtain⟨f,z⟩:∃f,f=tM++[⟨{kind:=2,Ei:=A.len+1,Cf:=(A.add {kind:=4,Cf:=d,A7:=sp,name:=nm,Az:=Cv l}).Fy d},.slnil,.slnil,rfl⟩]:=⟨_,rfl⟩;have B:=o.Qu (p:=⟨{kind:=2,Ei:=A.len+1,Cf:=(A.add {kind:=4,Cf:=d,A7:=sp,name:=nm,Az:=Cv l}).Fy d},.slnil,.slnil,rfl⟩) rfl N l3;rw[<-z] at c B;have g:=s.add (y:={kind:=2,Ei:=A.len+1,Cf:=(A.add {kind:=4,Cf:=d,A7:=sp,name:=nm,Az:=Cv l}).Fy d}) Ab AH AH;have q:BH cx 158 [Pt a 0,.agg [I 2,I 0,.slnil,I ((A.add {kind:=4,Cf:=d,A7:=sp,name:=nm,Az:=Cv l}).Fy d),I 0,.str [],.slnil,.str [],.str [],.str [],.bool false,I 0,I (A.len+1)]] h2 _ R:=J;have cN:=NI (h:=d) OX;have Č:=DJ (x:={kind:=2,Ei:=A.len+1,Cf:=(A.add {kind:=4,Cf:=d,A7:=sp,name:=nm,Az:=Cv l}).Fy d}).2 (.inl cN);have ŭ:(((A.add {kind:=4,Cf:=d,A7:=sp,name:=nm,Az:=Cv l}).Dd d).add {kind:=2,Ei:=A.len+1,Cf:=(A.add {kind:=4,Cf:=d,A7:=sp,name:=nm,Az:=Cv l}).Fy d}).nd (A.len+1)={kind:=4,Cf:=d,A7:=sp,name:=nm,Az:=Cv l}:=by rw[Mq cN,gh OX,Na]
  have H:=IH c g Č;have hp:=(c.pn Č).2.1;rw[ŭ] at hp;obtain⟨Q,G,D,P,M,l4⟩:=c.wr Č (k:=11) AX (v:= I (((A.add {kind:=4,Cf:=d,A7:=sp,name:=nm,Az:=Cv l}).Dd d).len+1)) rfl (p:=⟨{kind:=4,Cf:=d,A7:=sp,name:=nm,Az:=Cv l,cont:=((A.add {kind:=4,Cf:=d,A7:=sp,name:=nm,Az:=Cv l}).Dd d).len+1},(pN f (A.len+1)).kv,(pN f (A.len+1)).av,by have:=(pN f (A.len+1)).ok;rw[hp] at this;exact this⟩) (by simp only[PN.row];rw[hp];rfl) rfl (by rw[ŭ]);refine⟨Q,_,_,_,?_,D,C.trans (E.trans (B.trans (c.zM D P M l4))),g.set j8 AH⟩;rw[Af,VS];simp only[abS,Nat.reduceLeDiff,↓reduceIte,AP,(nM (x:=d) w t).Ad,Ae hd.1,Ae hd.2,BW,Cw,r.Ad,Hz,b.Ad,hc,Ũ.Ad,r2.Ad,e.Ad,K.Ad,q.Ad,H.Ad,G]
 .rw[Ac j];rw[Ay j] at e;refine⟨h1,_,_,_,?_,w1,C,ŧ⟩;rw[Af,VS];simp only[abS,Nat.reduceLeDiff,↓reduceIte,AP,(nM (x:=d) w t).Ad,Ae hd.1,Ae hd.2,BW,Cw,r.Ad,Hz,b.Ad,hc,Ũ.Ad,r2.Ad,e.Ad]
def aP{U:Type}{p q:U->Bool}{y:U}:∀{l:List U},(∀x∈l,p x=true->q x=true)->y∈l->p y=false->q y=true->(l.filter p).length<(l.filter q).length
 |[],_,h,_,_=>by cases h
 |x::l,hi,hy,hp,hq=>by
  have le:∀{l:List U},(∀x∈l,p x=true->q x=true)->(l.filter p).length<=(l.filter q).length:=by
   intro l;induction l with
   |nil=>intro _;simp
   |cons z l ih=>
    intro hi;have:=ih λx hx=>hi x (by simp[hx]);rw[Hn,Hn];split;.rename_i hz;rw[Ae (hi z AH hz)];simp;exact this
    .split;.simp;omega
     .exact this
  have hl:=λx (hx:x∈l)=>hi x (by simp[hx]);rw[Hn,Hn];rcases AT.1 hy with rfl|hy
  .rw[Ac (by simp[hp]),Ae hq];have:=le hl;simp;omega
  .have ih:=aP hl hy hp hq;split;.rename_i hz;rw[Ae (hi x AH hz)];simp;exact ih
   .split;.simp;omega
    .exact ih
def tN{r:Int->Nat}{k y:Int}(hr:∀h,A.has h->A.up h≠0->r (A.up h)<r h)(hR:Reach A k y)(hy:A.has y):r k<=r y:=by
 induction hR with
 |refl=>exact Ag _
 |@step z h1 h2 ih=>
  by_cases hz:A.has (A.up z);.have:=ih hz;have:=hr z hy h1;omega
  .cases h2 with
   |refl=>have:=hr z hy h1;omega
   |step b _=>exact absurd (XP hz) b
open Classical in
def tO{e:Int}(ok:EA A e):∃r:Int->Nat,(∀h,A.has h->A.up h≠0->r (A.up h)<r h)/\∀h,r h<=A.n.length:=by
 obtain⟨r,hr⟩:=ok.dI;refine⟨λh=>((List.range A.n.length).filter λ(i:Nat)=>decide (Reach A ((i:Int)+1) h/\(i:Int)+1≠h)).length,λh b hu=>?_,λh=>?_⟩
 .have š:=rV ok b hu;have Jr:=š;unfold Ar.has at Jr;have c:(((A.up h).toNat-1:Nat):Int)+1=A.up h:=Ab;refine aP (y:=(A.up h).toNat-1) (λi _ hi=>?_) (List.mem_range.2 Ab) ?_ ?_;.rw[Cz] at hi⊢;refine⟨.step hu hi.1,λe=>?_⟩;have h1:=tN hr hi.1 š;have h2:=hr h b hu;rw[e] at h1;omega
  .rw[c];simp
  .rw[c,Cz];exact⟨.step hu .refl,Ś ok b hu⟩
 .have:=Vr (λ(i:Nat)=>decide (Reach A ((i:Int)+1) h/\(i:Int)+1≠h)) (List.range A.n.length);rwa [List.length_range] at this
def PA.cell(w:PA h a n m ps A)(hx:A.has x){k:Nat}(hk:k<13):(ps.map PN.row).flatten[0+(x.toNat-1)*13+k]?=(pN ps x).row[k]?:=by rw[BU];exact Lq (nL ps) hk (by rw[Cl,(w.pn hx).1];rfl)
open Classical in
def Yk(w:PA h a n m ps A){up:Int}{r:Int->Nat}{e:Int}(ok:EA A e)(hr:∀h,A.has h->A.up h≠0->r (A.up h)<r h)(š:up≠0):∀(fuel:Nat) (x:Int),(x=0\/(A.has x/\r x<fuel))->LM (ps.map PN.row).flatten 0 ps.length up fuel x=some (decide (Reach A up x))
 |fuel,x,hx=>by
  by_cases h0:x=0
  .subst h0;have no:¬Reach A up 0:=by
    intro hR;cases hR with
    |refl=>exact š rfl
    |step h1 _=>exact h1 (XP (by unfold Ar.has;omega))
   rw[Ay no];cases fuel<;>rfl
  .have hx:=hx.resolve_left h0;cases fuel with
   |zero=>omega
   |succ fuel=>
    have d:LM (ps.map PN.row).flatten 0 ps.length up (fuel+1) x=if x=up then some true else if 1<=x/\x<=ps.length then
      match GP (ps.map PN.row).flatten 0 x 1,GP (ps.map PN.row).flatten 0 x 12 with
      |some p,some q=>LM (ps.map PN.row).flatten 0 ps.length up fuel (if p=0 then q else p)
      |_,_=>none
     else none:=by
     rw[LM];.rfl
     .exact λh=>h0 h
    rw[d];by_cases ŕ:x=up;.rw[Ae ŕ,ŕ,AA .refl]
    .rw[Ac ŕ,Ae (by have:=hx.1;have:=w.tw;unfold Ar.has at*;omega)];have g:GP (ps.map PN.row).flatten 0 x 1=some (A.nd x).FL:=by unfold GP;rw[w.cell hx.1 AX,<-(w.pn hx.1).2.1];rfl
     have f:GP (ps.map PN.row).flatten 0 x 12=some (A.nd x).Ei:=by unfold GP;rw[w.cell hx.1 AX,<-(w.pn hx.1).2.1];rfl
     rw[g,f];simp only
     have c:(if(A.nd x).FL=0 then(A.nd x).Ei else(A.nd x).FL)=A.up x:=by unfold Ar.up;by_cases h:(A.nd x).FL=0<;>simp[h]
     rw[c];have ih:=Yk w ok hr š fuel (A.up x) (by
      by_cases hu:A.up x=0;.exact .inl hu
      .exact .inr ⟨rV ok hx.1 hu,by have:=hr x hx.1 hu;omega⟩)
     rw[ih];congr 1
     rw[C5];constructor
     .intro h1;by_cases hu:A.up x=0
      .rw[hu] at h1;cases h1 with
       |refl=>exact absurd rfl š
       |step b _=>exact absurd (XP (by unfold Ar.has;omega)) b
      .exact .step hu h1
     .intro h1;cases h1 with
      |refl=>exact absurd rfl ŕ
      |step _ h2=>exact h2
open Classical in
def aFU{up e:Int}(w:PA h a n m ps A)(ok:EA A e)(hu:A.has up)(hx:A.has x):BH cx 237 [Pt a 0,I up,I x] h (.bool (decide (Reach A up x))) h:=by
 obtain⟨r,hr,b⟩:=tO ok;have OH:=w.tw;have hc:=Yk w ok hr (up:=up) (by have:=hu.1;omega) (ps.length+1) x (.inr ⟨hx,by have:=b x;omega⟩);have c:E4 (.Q5 Nv) h [Pt a 0,I up,I x]=some (h,.bool (decide (Reach A up x))):=by simp only[E4,Nv,w.ha,w.hn];rw[Ae (by rw[t_];omega),Ae (by unfold Ar.has at hu hx;omega),hc];rfl
 rw[Af,show Ca cx 237 [Pt a 0,I up,I x]=Nw [Pt a 0,I up,I x] from rfl,Nw];simp only[BC,c]
structure PR(h:Ah)(v:Aa)(l:List Int):Prop where
 len:AE (.len false) [v]=some (I (l.length:Int))
 at_:∀k (hk:k<l.length),∃p,AE (.E2 1) [v,I (k:Int)]=some p/\Bd h none p=some (I l[k])
def Kn.Rx{kv:Aa}{l:List Int}(hk:Kn h kv l):PR h kv l:=by
 refine⟨hk.len,λk hlt=>?_⟩;rcases hk with⟨rfl,rfl⟩|⟨id,cs,rfl,hc⟩
 .simp at hlt
 .refine⟨Pt id k,by have:=EX (id:=id) (z:=1) (k:= .i64) hlt;rwa [FE] at this,?_⟩;simp only[Bd,hc,E7];rw[Aj (by simpa using hlt)];simp[hlt]
def D1.Rx{v:Aa}{l:List Int}(hv:D1 l v):PR h v l:=⟨AU.CL hv,λk hk=>⟨_,AU.BJ hv hk,rfl⟩⟩
def aCn{v:Aa}{l:List Int}(hv:PR h v l)(hb:l.length<=1000000000)(x:Int):BH cx 173 [v,I x] h (I (B8 (λy=>decide (x=y)) 0 l)) h:=by
 rw[Af,eU];simp only[BC,hv.len];refine Bf (λk:Nat=>[I 0,I (k:Int)]) (λk h1=>k<=l.length/\B8 (λy=>decide (x=y)) 0 l=B8 (λy=>decide (x=y)) k (l.drop k)/\h1=h) (λk=>l.length-k) 0 rfl ⟨AQ _,rfl,rfl⟩ ?_;rintro k h1 ⟨hk,ha,rfl⟩;rcases AN k l.length with hlt|D6
 .have i1:(k:Int)<(l.length:Int):=by omega
  obtain⟨p,c,b⟩:=hv.at_ k hlt;rw[AF hlt,B8] at ha;simp only[abS,i1,c,b,BI (Ab:k<9223372036854775807)];refine⟨λh2=>?_,λh2=>?_⟩;.rw[ha,Ae (by simpa using h2)]
  .rw[Ac (by simpa using h2)] at ha;exact AK.next (k+1) rfl ⟨hlt,ha,rfl⟩ Ab
 .have i1:¬(k:Int)<(l.length:Int):=by omega
  rw[AO D6,B8] at ha;simp only[abS,i1,ha]
def jH{l:List Int}{x:Int}(hx:x∈l):∃k,k<l.length/\B8 (λy=>decide (x=y)) 0 l=(k:Int)/\l[k]?=some x/\l.takeWhile (λy=>decide (y≠x))=l.take k/\l.dropWhile (λy=>decide (y≠x))=l.drop k:=by
 have key:∀(l:List Int) (s:Nat),x∈l->∃k,k<l.length/\B8 (λy=>decide (x=y)) s l=((s+k:Nat):Int)/\l[k]?=some x/\l.takeWhile (λy=>decide (y≠x))=l.take k/\l.dropWhile (λy=>decide (y≠x))=l.drop k:=by
  intro l;induction l with
  |nil=>intro s h;cases h
  |cons z l ih=>
   intro s h;by_cases e:x=z;.subst e;exact⟨0,AH,by rw[B8,Ae AH];simp,rfl,AH,AH⟩
   .have h2:x∈l:=(AT.1 h).resolve_left e;obtain⟨k,d,c,b,i,g⟩:=ih (s+1) h2;have f:z≠x:=λj=>e j.symm;refine⟨k+1,by simp;exact d,by rw[B8,Ac (by simpa using e),c];congr 1;omega,by simpa using b,?_,?_⟩;.rw[aIP,Ae (by simpa using f),i];rfl
    .rw[aIQ,Ae (by simpa using f),g];rfl
 obtain⟨k,d,c,b⟩:=key l 0 hx;exact⟨k,d,by simpa using c,b⟩
def SO{l:List Int}{x:Int}{k:Nat}(hn:l.Nodup)(hk:l[k]?=some x):l.take k++l.drop (k+1)=l.filter λy=>decide (y≠x):=by
 obtain⟨hlt,e⟩:=Al.1 hk;have c:l=l.take k++x::l.drop (k+1):=by conv=>lhs;rw[<-CF k l,AF hlt,e]
 rw[c,B2,B5] at hn;conv=>rhs;rw[c,DV,Hn,Ac AH]
 rw[ZB.2 (λy hy=>by simpa using λb:y=x=>hn.2.2 y hy x AH b),ZB.2 (λy hy=>by simpa using λb:y=x=>hn.2.1.1 (b▸hy))]
def aCo{id l k:Nat}(hl:0<l)(hk:k<=l):AE (.KA 1 false false true) [.CE id 0 l 1,I (k:Int)]=some (.CE id 0 k 1):=by
 have b:E3 (k:Int) l=some k:=by unfold E3;rw[Ae Ab];rfl
 simp[AE,JB,DX,b];omega
def aCp{id l k:Nat}(hk:k<=l):AE (.KA 1 false true false) [.CE id 0 l 1,I (k:Int)]=some (if k<l then .CE id k (l-k) 1 else .sl 1 []):=by
 have b:E3 (k:Int) l=some k:=by unfold E3;rw[Ae Ab];rfl
 simp[AE,JB,DX,b];split<;>rfl
def aFV{id k:Nat}{l:List Int}{cs:List Aa}(hc:h[id]?=some (.cells (l.map (Aa.int .i64)++cs)))(hk:k<l.length)(hb:l.length<=1000000000):
  ∃GX,BH cx 363 [.CE id 0 l.length 1,I (k:Int),I ((k+1:Nat):Int)] h (.CE id 0 (l.length-1) 1) (h.set id (.cells ((l.take k++l.drop (k+1)).map (Aa.int .i64)++GX))):=by
 have Ij:=(Al.1 hc).1;have b:(l.take k++l.drop (k+1)).length=l.length-1:=by rw[Aw,As,Bb];omega
 obtain⟨Se,p,hcl⟩:∃Se,F8 h 1 8 (.CE id 0 k 1) (if k+1<l.length then .CE id (k+1) (l.length-(k+1)) 1 else .sl 1 [])=some (h.set id (.cells ((l.take k++l.drop (k+1)).map (Aa.int .i64)++Se)),.CE id 0 (l.length-1) 1)/\1<=Se.length:=by
  have g:GY h 1 (if k+1<l.length then .CE id (k+1) (l.length-(k+1)) 1 else .sl 1 [])=some ((l.drop (k+1)).map Cn):=by
   by_cases P7:k+1<l.length;rotate_left;.rw[Ac P7,AO Ab];rfl
   rw[Ae P7];have d:=Nd (l:=l.drop (k+1)) (cs:=cs) (Y5:=(l.take (k+1)).map (Aa.int .i64));rw[<-AI,<-BF,CF] at d;simp only[Ak,As,Bb] at d;rw[Cp Ab] at d;simp only[GY,BL,hc,d];rw[Ae Ee]
  by_cases ud:k+1=l.length
  .refine⟨I l[k]::cs,?_,AH⟩;have j:l.drop (k+1)=[]:=AO Ab;rw[j] at g⊢;have f:l.map (Aa.int .i64)++cs=(l.take k++[]).map (Aa.int .i64)++ I l[k]::cs:=by
    have:l=l.take k++[l[k]]:=by conv=>lhs;rw[<-CF k l,AF hk,j]
    conv=>lhs;rw[this,BF,AI]
    rw[BE];rfl
   have o:h.set id (.cells ((l.take k++[]).map (Aa.int .i64)++ I l[k]::cs))=h:=by rw[<-f];obtain⟨ZZ,u⟩:=Al.1 hc;rw[<-u,JS]
   simp only[F8,g,CW,BL];rw[o,(Ab:l.length-1=k)]
  .obtain⟨y,c,hd⟩:∃y c,l.drop (k+1)=y::c:=⟨_,_,AF (Ab:k+1<l.length)⟩;have nO:(y::c).length=l.length-(k+1):=by rw[<-hd,Bb]
   rw[hd] at g;have aFW:∀l3:List Int,(l3.map Cn).flatten=l3.map (Aa.int .i64):=by
    intro l3;induction l3 with
    |nil=>rfl
    |cons z l3 ih=>simp[Cn,ih]
   refine⟨(l.map (Aa.int .i64)++cs).drop (l.length-1),?_,Ee⟩;simp only[F8,g,Bk,hc,BL];have t:(Cn y::c.map Cn).length=l.length-(k+1):=by rw[<-nO];simp
   have s:(Cn y::c.map Cn).flatten=(y::c).map (Aa.int .i64):=by have:=aFW (y::c);simpa using this
   rw[t,s,Ae Ee];have r:(l.map (Aa.int .i64)++cs).take (0+k*1)=(l.take k).map (Aa.int .i64):=by rw[BU,FE,CI Ee,Fs]
   rw[r,hd,(Ab:0+(k+(l.length-(k+1)))*1=l.length-1),(Ab:k+(l.length-(k+1))=l.length-1)];simp
 generalize Ů:h.set id (.cells ((l.take k++l.drop (k+1)).map (Aa.int .i64)++Se))=h2 at p;have IV:h2[id]?=some (.cells ((l.take k++l.drop (k+1)).map (Aa.int .i64)++Se)):=by rw[<-Ů];exact AS Ij
 have j:E4 (.bc 1 true true) h2 [.CE id 0 (l.length-1) 1,I ((l.length-1:Nat):Int),I (l.length:Int)]=some (h2,.CE id (l.length-1) 1 1):=by
  simp only[E4,kI,IV];have tP:((l.take k++l.drop (k+1)).map (Aa.int .i64)++Se).length=l.length-1+Se.length:=by rw[Aw,Ak,b]
  have v:E3 (l.length:Int) ((((l.take k++l.drop (k+1)).map (Aa.int .i64)++Se).length-0)/1)=some l.length:=by unfold E3;rw[Ae (by rw[tP];omega)];rfl
  have d:E3 ((l.length-1:Nat):Int) l.length=some (l.length-1):=by unfold E3;rw[Ae Ab];rfl
  rw[Ae ⟨trivial,trivial,AQ _⟩];simp only[DX,v,d,Ct,B9];rw[Ae (by rw[tP];omega)];congr 3
  .omega
  .omega
 have q:E4 (.clear 1 [I 0]) h2 [.CE id (l.length-1) 1 1]=some (h.set id (.cells ((l.take k++l.drop (k+1)).map (Aa.int .i64)++(I 0::Se.drop 1))),.bool true):=by
  simp only[E4,Wn,IV];rw[Ae ⟨trivial,rfl,by rw[Aw,Ak,b];omega⟩];congr 2
  rw[<-Ů,aDd];congr 2
  have f:(((l.take k++l.drop (k+1)).map (Aa.int .i64)++Se).take (l.length-1))=(l.take k++l.drop (k+1)).map (Aa.int .i64):=HO (by rw[Ak,b]);have o:(((l.take k++l.drop (k+1)).map (Aa.int .i64)++Se).drop (l.length-1+1*1))=Se.drop 1:=by rw[show l.length-1+1*1=((l.take k++l.drop (k+1)).map (Aa.int .i64)).length+1 by rw[Ak,b],S4];simp
  rw[f,o];simp
 refine⟨I 0::Se.drop 1,?_⟩;have e:∀i n,AE (.len false) [.CE i 0 n 1]=some (I (n:Int)):=λ_ _=>rfl;have f:E4 (.pF 1) h [.CE id 0 l.length 1,I (k:Int),I ((k+1:Nat):Int),I (l.length:Int)]=some (h,.bool true):=by simp only[E4,Wo];simp;omega
 rw[Af,iJ];simp only[abS,e,f,(Ab:¬(k:Int)=((k+1:Nat):Int)),aCo (id:=id) (Ab:0<l.length) (Ab:k<=l.length),aCp (id:=id) (Ab:k+1<=l.length),p,j,q]
def ue:∀{n:Nat} {l:List Int},l.Nodup->(∀x∈l,1<=x/\x<=n)->l.length<=n
 |0,l,_,h=>by
  cases l with
  |nil=>simp
  |cons x l=>have:=h x AH;omega
 |n+1,l,hn,h=>by
  have ih:=ue (n:=n) (l:=l.filter λx=>decide (x≠(n:Int)+1)) (hn.filter _) (λx hx=>by
   have h1:=DH.1 hx;have h2:=h x h1.1;have c:x≠(n:Int)+1:=by simpa using h1.2
   omega)
  have key:∀{l:List Int},l.Nodup->l.length<=(l.filter λx=>decide (x≠(n:Int)+1)).length+1:=by
   intro l hl;induction l with
   |nil=>simp
   |cons x l ih=>
    rw[B5] at hl;rw[Hn];by_cases e:x=(n:Int)+1;.rw[Ac (by simp[e]),ZB.2 (λy hy=>by simpa using λb:y=(n:Int)+1=>hl.1 (by rw[e,<-b];exact hy))];simp
    .rw[Ae (by simpa using e)];have:=ih hl.2;simp only[A9];omega
  have:=key hn;omega
def Yl{e:Int}(ok:EA A e)(x:Int):(A.nd x).A6.length<=A.n.length:=by
 by_cases hx:A.has x;.refine ue (ok.RH x hx).wK λk hk=>?_;exact(ok.MK x hx k hk).1
 .rw[HE hx];exact AQ _
def MZ.A6{e:Int}(b:MZ A)(ok:EA A e)(x:Int):(A.nd x).A6.length<=1000000000:=Bu (Yl ok x) b.n
def MZ.aKY{l:List Int}(b:MZ A):MZ (A.set x {A.nd x with A6:=l}):=b.set (b.at_ x) (b.data x)
def MZ.aKZ{p:Int}(b:MZ A):MZ (A.set x {A.nd x with FL:=p}):=b.set (b.at_ x) (b.data x)
def MZ.cut(b:MZ A):MZ (A.cut x):=by
 unfold Ar.cut;simp only;split;.exact b
 .exact MZ.aKZ b.aKY
def aFX{e:Int}(w:PA h a n m ps A)(j:MZ A)(ok:EA A e)(hx:A.has x):
  ∃h' IN,BH cx 238 [Pt a 0,I x] h (.tuple []) h'/\PA h' a n m IN (A.cut x)/\DA h (λi=>i∈Ga a n m ps) h' (λi=>i∈Ga a n m IN):=by
 have hb:=j.A6 ok;by_cases hp:(A.nd x).FL=0
 .have t:A.cut x=A:=by unfold Ar.cut;simp only;rw[Ae hp]
  refine⟨h,ps,?_,by rw[t];exact w,.refl⟩;rw[Af,VW];simp only[abS,(IH w j hx).Ad,w.f1 hx,hp]
 .obtain⟨hq,hk⟩:=ok.FL x hx hp;generalize d:(A.nd x).FL=q at*;have hne:q≠x:=by rw[<-d];exact rW ok hx (by rw[d];exact hp)
  obtain⟨k,o,J,C,_,_⟩:=jH hk;have MK:=w.MK hq;have l:=aCn MK.Rx (hb q) x;rw[J] at l;rcases zP:MK with⟨_,e0⟩|⟨id,cs,b,hc⟩
  .rw[e0] at o;simp at o
  clear zP;rw[b] at l;obtain⟨GX,r2⟩:=aFV hc o (hb q);rw[SO (ok.RH q hq).wK C] at r2;have ZO:(A.nd q).A6.length-1=((A.nd q).A6.filter λy=>decide (y≠x)).length:=by rw[<-SO (ok.RH q hq).wK C,Aw,As,Bb];omega
  rw[ZO] at r2;have cm:=(Al.1 hc).1;have r:=(w.pn hq).2.1;generalize c:h.set id (.cells (((A.nd q).A6.filter λy=>decide (y≠x)).map (Aa.int .i64)++GX))=h1 at r2;have aFY:id∈Ga a n m ps:=Lp (w.pn hq).2.2 (by rw[b];rfl);have aK0:id≠n:=by intro f;have:=w.nd;unfold Ga at this;simp only[B5,AT,Nh] at this;exact this.2.1 (f▸Ax.2 (.inr (Ci.2 ⟨_,(w.pn hq).2.2,by rw[b];rfl⟩)))
  have aQv:id≠a:=by intro f;have:=w.nd;unfold Ga at this;simp only[B5,AT,Nh] at this;exact this.1.2 (f▸Ax.2 (.inr (Ci.2 ⟨_,(w.pn hq).2.2,by rw[b];rfl⟩)))
  obtain⟨g,QY⟩:∃g:PN,g=⟨{A.nd q with A6:=(A.nd q).A6.filter λy=>decide (y≠x)},.CE id 0 ((A.nd q).A6.filter λy=>decide (y≠x)).length 1,(pN ps q).av,w.jq hq⟩:=⟨_,rfl⟩;have aFZ:g.row=(pN ps q).row.set 2 (.CE id 0 ((A.nd q).A6.filter λy=>decide (y≠x)).length 1):=by rw[QY];simp only[PN.row];rw[r];rfl
  have u:h1[n]?=h[n]?:=by rw[<-c,Ap aK0]
  have z:=w.sto hq (k:=2) AX (v:= .CE id 0 ((A.nd q).A6.filter λy=>decide (y≠x)).length 1) rfl aFZ u;have aF0:HL g.kv=HL (pN ps q).kv:=by rw[QY,b];rfl
  have w1:=w.jf hq (p:=g) (h1:=h1) (λi _ hi=>by rw[<-c,Ap];intro f;exact hi (by rw[b,f];rfl)) (by rw[QY];exact .inr ⟨id,GX,rfl,by rw[<-c];exact AS cm⟩) (.inl aF0)
  have ů:=zL w hq aF0;generalize Ů:h1.set n (.cells ((ps.set (q.toNat-1) g).map PN.row).flatten)=h2 at z w1;generalize aQw:ps.set (q.toNat-1) g=Wc at w1 ů;have s:g.x={A.nd q with A6:=(A.nd q).A6.filter λy=>decide (y≠x)}:=by rw[QY]
  rw[s] at w1;have OX:(A.set q {A.nd q with A6:=(A.nd q).A6.filter λy=>decide (y≠x)}).has x:=Il.2 hx;have Zq:=(w1.pn OX).2.1;have Na:(A.set q {A.nd q with A6:=(A.nd q).A6.filter λy=>decide (y≠x)}).nd x=A.nd x:=by rw[JP,Ac (λh=>hne h.1.symm)]
  obtain⟨K,E,D,i3,G,l3⟩:=w1.wr OX (k:=1) AX (v:= I 0) rfl (p:=⟨{A.nd x with FL:=0},(pN Wc x).kv,(pN Wc x).av,by have:=(pN Wc x).ok;rw[Zq,Na] at this;exact this⟩) (by simp only[PN.row];rw[Zq,Na];rfl) rfl (Cb EP.A6 Na).symm;have t:A.cut x=(A.set q {A.nd q with A6:=(A.nd q).A6.filter λy=>decide (y≠x)}).set x {A.nd x with FL:=0}:=by unfold Ar.cut;simp only;rw[d,Ac hp,Na]
  refine⟨K,_,?_,by rw[t];exact D,?_⟩;.have inc:=BI (show k<9223372036854775807 by have:=hb q;omega);rw[Af,VW];simp only[abS,(IH w j hx).Ad,(IH w j hq).Ad,w.f1 hx,d,hp,w.f2 hq,b,l.Ad,inc,r2.Ad,z,E]
  .have aQx:h2.length=h.length:=by rw[<-Ů,Bn,<-c,Bn]
   refine⟨Ab,λi hi UZ=>?_,λi hi=> .inl (by rw[i3,ů] at hi;exact hi)⟩;have B:i≠n:=λf=>UZ (f▸by simp[Ga]);have H:i≠id:=λf=>UZ (f▸aFY);rw[G i B,<-Ů,Ap (DG B),<-c,Ap (DG H)]
def nQ{p:PN}(w:PA h a n m ps A)(hx:A.has x){i:Nat}(hi:i∈Ga a n m (ps.set (x.toNat-1) p)):i∈Ga a n m ps\/HL p.kv=some i:=by
 obtain⟨c,b⟩:=Yg w hx p;unfold Ga at hi⊢;rw[b,EI] at hi;simp only[AT,Ax,Ci] at hi⊢;rcases hi with h1|h1|h1|⟨q,h1,h2⟩|⟨q,h1,h2⟩
 .exact .inl (.inl h1)
 .exact .inl (.inr (.inl h1))
 .exact .inl (.inr (.inr (.inl h1)))
 .exact .inl (.inr (.inr (.inr ⟨q,Bm h1,h2⟩)))
 .rcases h1 with rfl|h1
  .exact .inr h2
  .exact .inl (.inr (.inr (.inr ⟨q,BB h1,h2⟩)))
def uf{kv:Aa}{l:List Int}{k:Nat}(hk:Kn h kv l)(P7:k<=l.length)(hb:l.length<=1000000000)(y:Int):
  ∃h1,E4 .jy h [kv,I (k:Int),.sl 1 [[I y]]]=some (h1,.CE h.length 0 (l.length+1) 1)/\h1[h.length]?=some (.cells ((l.take k++y::l.drop k).map (Aa.int .i64)))/\(∀i,i<h.length->HL kv≠some i->h1[i]?=h[i]?)/\h1.length=h.length+1:=by
 rcases hk with⟨rfl,rfl⟩|⟨id,cs,rfl,hc⟩
 .have:k=0:=by simpa using P7
  subst this;exact⟨h++[.cells [I y]],rfl,AH,λi hi _=>Aj hi,AH⟩
 .have Ij:=(Al.1 hc).1;refine⟨h.set id .CO++[.cells ((l.take k++y::l.drop k).map (Aa.int .i64))],?_,by rw[Bl AH];simp,λi hi hn=>?_,AH⟩
  .simp only[E4,P4,hc];rw[Ae (by have:AM=140737488355328:=rfl;simp;omega)];simp only[AV];have c:(l.map (Aa.int .i64)++cs).take k=(l.take k).map (Aa.int .i64):=by rw[CI (by simpa using P7),Fs]
   have b:(l.map (Aa.int .i64)++cs).take l.length=l.map (Aa.int .i64):=HO AH;rw[c,b];simp
  .rw[Aj (by simpa using hi),Ap];intro e;exact hn (by rw[e];rfl)
def Ox{p b:Int}(hf:¬qg A p x b):A.Fq p x b=A:=by unfold Ar.Fq;rw[Ac hf]
def ug{l:List Int}{b y:Int}{k:Nat}(hb:b=0->k=l.length)(h2:b≠0->l.takeWhile (λy=>decide (y≠b))=l.take k/\l.dropWhile (λy=>decide (y≠b))=l.drop k):Je l b y=l.take k++y::l.drop k:=by
 unfold Je;by_cases h0:b=0;.rw[Ae h0,hb h0];simp
 .rw[Ac h0,(h2 h0).1,(h2 h0).2]
open Classical in
def Ű{e p b:Int}(w:PA h a n m ps A)(d:MZ A)(ok:EA A e):
  ∃Z h' IN,BH cx 111 [Pt a 0,I p,I x,I b] h (I Z) h'/\PA h' a n m IN (A.Fq p x b)/\DA h (λi=>i∈Ga a n m ps) h' (λi=>i∈Ga a n m IN):=by
 by_cases Zq:A.has p/\A.has x;rotate_left;.refine⟨3,h,ps,?_,by rw[Ox (λf=>Zq ⟨f.hp,f.hn⟩)];exact w,.refl⟩;rw[Af,LY];simp only[abS,FI,(LI (x:=p) (y:=x) w).Ad,Ac Zq,BW,(AX:¬(3:Int)=0)]
 obtain⟨hp,hx⟩:=Zq;by_cases hb:b≠0/\¬A.has b;.refine⟨3,h,ps,?_,by rw[Ox (λf=>hb.2 (f.hb hb.1).1)];exact w,.refl⟩;rw[Af,LY];simp only[abS,FI,(LI (x:=p) (y:=x) w).Ad,Ae (And.intro hp hx),BW,Cw,hb.1,(Vj (x:=b) w).Ad,Ay hb.2,AZ]
 have P9:b=0\/(b≠0/\A.has b):=by
  by_cases h0:b=0;.exact .inl h0
  .refine .inr ⟨h0,?_⟩;by_cases h1:A.has b;.exact h1
   .exact absurd ⟨h0,h1⟩ hb
 by_cases kp:Ll (A.nd p).kind;rotate_left
 .refine⟨4,h,ps,?_,by rw[Ox (λf=>kp f.kp)];exact w,.refl⟩;unfold Ll at kp;have c:¬(A.nd p).kind=1:=λe=>kp (.inl e);have s:¬(A.nd p).kind=2:=λe=>kp (.inr (.inl e));have E:¬(A.nd p).kind=4:=λe=>kp (.inr (.inr e));rw[Af,LY];rcases P9 with h0|⟨h0,NZ⟩
  .simp only[abS,FI,(LI (x:=p) (y:=x) w).Ad,Ae (And.intro hp hx),BW,Cw,(IH w d hp).Ad,(IH w d hx).Ad,w.f0 hp,w.f0 hx,c,AZ,h0,s,E]
  .simp only[abS,FI,(LI (x:=p) (y:=x) w).Ad,Ae (And.intro hp hx),BW,Cw,(IH w d hp).Ad,(IH w d hx).Ad,w.f0 hp,w.f0 hx,c,AZ,h0,(Vj (x:=b) w).Ad,AA NZ,s,E]
 by_cases kn:(A.nd x).kind=1\/(A.nd x).kind=2
 .refine⟨4,h,ps,?_,by rw[Ox (λf=>by have:=f.kn;omega)];exact w,.refl⟩;rw[Af,LY];rcases kp with c|c|c<;>rcases kn with s|s<;>rcases P9 with h0|⟨h0,NZ⟩
  all_goals first|(simp only[abS,FI,(LI (x:=p) (y:=x) w).Ad,Ae (And.intro hp hx),BW,Cw,(IH w d hp).Ad,(IH w d hx).Ad,w.f0 hp,w.f0 hx,c,(AX:¬(2:Int)=1),(AX:¬(4:Int)=1),(AX:¬(4:Int)=2),AZ,h0,s];done)|simp only[abS,FI,(LI (x:=p) (y:=x) w).Ad,Ae (And.intro hp hx),BW,Cw,(IH w d hp).Ad,(IH w d hx).Ad,w.f0 hp,w.f0 hx,c,(AX:¬(2:Int)=1),(AX:¬(4:Int)=1),(AX:¬(4:Int)=2),AZ,h0,(Vj (x:=b) w).Ad,AA NZ,s]
 have g:¬(A.nd x).kind=1:=λe=>kn (.inl e);have ű:¬(A.nd x).kind=2:=λe=>kn (.inr e);have q:=aFU w ok hx hp;by_cases re:Reach A x p
 .refine⟨4,h,ps,?_,by rw[Ox (λf=>f.re re)];exact w,.refl⟩;rw[AA re] at q;rw[Af,LY];rcases kp with c|c|c<;>rcases P9 with h0|⟨h0,NZ⟩
  all_goals first|(simp only[abS,FI,(LI (x:=p) (y:=x) w).Ad,Ae (And.intro hp hx),BW,Cw,(IH w d hp).Ad,(IH w d hx).Ad,w.f0 hp,w.f0 hx,c,(AX:¬(2:Int)=1),(AX:¬(4:Int)=1),(AX:¬(4:Int)=2),AZ,h0,g,ű,q.Ad];done)|simp only[abS,FI,(LI (x:=p) (y:=x) w).Ad,Ae (And.intro hp hx),BW,Cw,(IH w d hp).Ad,(IH w d hx).Ad,w.f0 hp,w.f0 hx,c,(AX:¬(2:Int)=1),(AX:¬(4:Int)=1),(AX:¬(4:Int)=2),AZ,h0,(Vj (x:=b) w).Ad,AA NZ,g,ű,q.Ad]
 rw[Ay re] at q;by_cases o:b≠0/\(b=x\/(A.nd b).FL≠p)
 .refine⟨5,h,ps,?_,by rw[Ox (λf=>by have:=f.hb o.1;rcases o.2 with h|h;exact this.2.1 h;exact h this.2.2)];exact w,.refl⟩;obtain⟨h0,o⟩:=o;have NZ:=(P9.resolve_left h0).2;rw[Af,LY];by_cases l:b=x;.have aQy:=l;rcases kp with c|c|c<;>simp only[abS,FI,(LI (x:=p) (y:=x) w).Ad,Ae (And.intro hp hx),BW,Cw,(IH w d hp).Ad,(IH w d hx).Ad,w.f0 hp,w.f0 hx,c,(AX:¬(2:Int)=1),(AX:¬(4:Int)=1),(AX:¬(4:Int)=2),AZ,g,ű,q.Ad,l,show¬x=0 from l▸h0,AA hx,(Vj (x:=x) w).Ad]
  .have o:=o.resolve_left l;rcases kp with c|c|c<;>simp only[abS,FI,(LI (x:=p) (y:=x) w).Ad,Ae (And.intro hp hx),BW,Cw,(IH w d hp).Ad,(IH w d hx).Ad,w.f0 hp,w.f0 hx,c,(AX:¬(2:Int)=1),(AX:¬(4:Int)=1),(AX:¬(4:Int)=2),AZ,h0,(Vj (x:=b) w).Ad,AA NZ,g,ű,q.Ad,l,(IH w d NZ).Ad,w.f1 NZ,o]
 have fits:qg A p x b:=⟨hp,hx,λh0=>⟨(P9.resolve_left h0).2,λe=>o ⟨h0,.inl e⟩,by
  by_cases h1:(A.nd b).FL=p;.exact h1
  .exact absurd ⟨h0,.inr h1⟩ o⟩,kp,⟨g,ű⟩,re⟩
 have X:A.Fq p x b=(A.cut x).MN p x b:=by unfold Ar.Fq;rw[Ae fits]
 obtain⟨h1,Wc,O,w1,S⟩:=aFX w d ok hx;have QZ:=rX ok hx ű;have ŧ:=d.cut (x:=x);have QY:(A.cut x).has p:=K5.2 hp;have OX:(A.cut x).has x:=K5.2 hx;have H:x≠p:=by rintro rfl;exact re .refl
 have ć:=ŧ.A6 QZ p;obtain⟨k,P7,B,yg⟩:∃k,k<=((A.cut x).nd p).A6.length/\(b=0->k=((A.cut x).nd p).A6.length)/\(b≠0->B8 (λy=>decide (b=y)) 0 ((A.cut x).nd p).A6=(k:Int)/\((A.cut x).nd p).A6.takeWhile (λy=>decide (y≠b))=((A.cut x).nd p).A6.take k/\((A.cut x).nd p).A6.dropWhile (λy=>decide (y≠b))=((A.cut x).nd p).A6.drop k):=by
  by_cases h0:b=0;.exact⟨_,Ag _,λ_=>rfl,λh=>absurd h0 h⟩
  .have t:=fits.hb h0;have uh:((A.cut x).nd b).FL=p:=by
    rw[Rt ok hx,Ac t.2.1];split;.exact t.2.2
    .exact t.2.2
   have ĉ:b∈((A.cut x).nd p).A6:=by have:=(QZ.FL b (K5.2 t.1) (by rw[uh];have:=hp.1;omega)).2;rwa [uh] at this
   obtain⟨k,c,s,_,E,V⟩:=jH ĉ;exact⟨k,Ab,λh=>absurd h h0,λ_=>⟨s,E,V⟩⟩
 have Ri:=ug (y:=x) B λh=>(yg h).2;have MK:=w1.MK QY;obtain⟨h2,L,IV,YM,ZZ⟩:=uf MK P7 ć x;have J:=(w1.pn QY).2.1;obtain⟨r,gi⟩:∃r:PN,r=⟨{(A.cut x).nd p with A6:=Je ((A.cut x).nd p).A6 b x},.CE h1.length 0 (((A.cut x).nd p).A6.length+1) 1,(pN Wc p).av,w1.jq QY⟩:=⟨_,rfl⟩;have z:r.x={(A.cut x).nd p with A6:=Je ((A.cut x).nd p).A6 b x}:=by rw[gi]
 have hrow:r.row=(pN Wc p).row.set 2 (.CE h1.length 0 (((A.cut x).nd p).A6.length+1) 1):=by rw[gi];simp only[PN.row];rw[J];rfl
 have aF2:n∈Ga a n m Wc:=by simp[Ga]
 have K:HL (pN Wc p).kv≠some n:=by intro D;have:=w1.nd;unfold Ga at this;simp only[B5,AT,Nh] at this;exact this.2.1 (Ax.2 (.inr (Ci.2 ⟨_,(w1.pn QY).2.2,D⟩)))
 have G:=w1.sto QY (k:=2) AX (v:= .CE h1.length 0 (((A.cut x).nd p).A6.length+1) 1) rfl hrow (YM n (w1.lt n aF2) K);have hlen:(Je ((A.cut x).nd p).A6 b x).length=((A.cut x).nd p).A6.length+1:=by rw[Ri,Aw,A9,As,Bb];omega
 have u:=w1.jf QY (p:=r) (h1:=h2) (λi hi hn=>YM i (w1.lt i hi) hn) (by rw[gi];refine .inr ⟨h1.length,[],by simp only[hlen],?_⟩;simp only[Ri,BE];exact IV) (.inr λj hj=>by rw[gi] at hj;cases hj;exact Ag _)
 have OW:∀i,i∈Ga a n m (Wc.set (p.toNat-1) r)->i∈Ga a n m Wc\/i=h1.length:=by
  intro i hi;rcases nQ w1 QY hi with h|h
  .exact .inl h
  .rw[gi] at h;cases h;exact .inr rfl
 generalize C:h2.set n (.cells ((Wc.set (p.toNat-1) r).map PN.row).flatten)=Y at G u;generalize aQB:Wc.set (p.toNat-1) r=tM at u OW;rw[z] at u;have cN:((A.cut x).set p {(A.cut x).nd p with A6:=Je ((A.cut x).nd p).A6 b x}).has x:=Il.2 OX;have Tb:((A.cut x).set p {(A.cut x).nd p with A6:=Je ((A.cut x).nd p).A6 b x}).nd x=(A.cut x).nd x:=by rw[JP,Ac (λh=>H h.1)]
 have Zq:=(u.pn cN).2.1;obtain⟨Q,M,T,W,U,l4⟩:=u.wr cN (k:=1) AX (v:= I p) rfl (p:=⟨{(A.cut x).nd x with FL:=p},(pN tM x).kv,(pN tM x).av,by have:=(pN tM x).ok;rw[Zq,Tb] at this;exact this⟩) (by simp only[PN.row];rw[Zq,Tb];rfl) rfl (Cb EP.A6 Tb).symm;have aF3:(A.cut x).MN p x b=((A.cut x).set p {(A.cut x).nd p with A6:=Je ((A.cut x).nd p).A6 b x}).set x {(A.cut x).nd x with FL:=p}:=by unfold Ar.MN;simp only;rw[Tb]
 refine⟨0,Q,_,?_,by rw[X,aF3];exact T,?_⟩
 .rw[Af,LY];by_cases h0:b=0;.rw[B h0] at L;have kl:=MK.len;rcases kp with c|c|c<;>simp only[abS,FI,(LI (x:=p) (y:=x) w).Ad,Ae (And.intro hp hx),BW,Cw,(IH w d hp).Ad,(IH w d hx).Ad,w.f0 hp,w.f0 hx,c,(AX:¬(2:Int)=1),(AX:¬(4:Int)=1),(AX:¬(4:Int)=2),AZ,h0,g,ű,q.Ad,O.Ad,w1.f2 QY,kl,Hz,L,G,M]
  .have t:=fits.hb h0;have NZ:=t.1;have N:=aCn MK.Rx ć b;rw[(yg h0).1] at N;have kl:=MK.len;rcases kp with c|c|c<;>simp only[abS,FI,(LI (x:=p) (y:=x) w).Ad,Ae (And.intro hp hx),BW,Cw,(IH w d hp).Ad,(IH w d hx).Ad,w.f0 hp,w.f0 hx,c,(AX:¬(2:Int)=1),(AX:¬(4:Int)=1),(AX:¬(4:Int)=2),AZ,h0,(Vj (x:=b) w).Ad,AA NZ,g,ű,q.Ad,t.2.1,(IH w d NZ).Ad,w.f1 NZ,t.2.2,O.Ad,w1.f2 QY,kl,N.Ad,Hz,L,G,M]
 .have kC:Y.length=h1.length+1:=by rw[<-C,Bn,ZZ]
  have R:DA h1 (λi=>i∈Ga a n m Wc) Q (λi=>i∈Ga a n m (tM.set (x.toNat-1) ⟨{(A.cut x).nd x with FL:=p},(pN tM x).kv,(pN tM x).av,by have:=(pN tM x).ok;rw[Zq,Tb] at this;exact this⟩)):=by
   refine⟨Ab,λi hi UZ=>?_,λi hi=>?_⟩;.have P:i≠n:=λD=>UZ (D▸aF2);rw[U i P,<-C,Ap (DG P)];exact YM i hi λD=>UZ (Lp (w1.pn QY).2.2 D)
   .rw[W] at hi;rcases OW i hi with h|h
    .exact .inl h
    .exact .inr Ab
  exact S.trans R
end
def Jl(a:Nat)(b:BS)(o c t:Aa):List Aa:=[Pt a 0,I b.Cf,o,c,I b.mode,I b.SB,t,I b.head,I b.NJ,.bool b.LX,I b.ctx.node,I b.ctx.A7,.str b.ctx.name,.bool b.ctx.OM,.bool b.fs,.bool b.ER,.str b.m7,.bool b.skip,I b.sw,.bool b.stop]
def TN(l:List Int)(v:Aa):Prop:=D1 l v\/(v= .Gb 1/\l=[])
def Zr(l:List Int)(v:Aa):Prop:=TN l v/\v≠ .sl 1 []
section
variable{h:Ah}{l:List Int}{v:Aa}
def TN.cells(t:TN l v):v.cells=[v]:=by
 rcases t with t|⟨rfl,_⟩
 .exact AU.cells t
 .rfl
def TN.len(t:TN l v):AE (.len false) [v]=some (I (l.length:Int)):=by
 rcases t with t|⟨rfl,rfl⟩
 .exact AU.CL t
 .rfl
def TN.ne(t:TN l v)(hne:l≠[]):D1 l v:=by
 rcases t with t|⟨_,e⟩
 .exact t
 .exact absurd e hne
def TN.Rx(t:TN l v):PR h v l:=⟨t.len,λk hk=>(D1.Rx (t.ne (λe=>by rw[e] at hk;simp at hk))).at_ k hk⟩
def TN.Gt(t:TN l v)(hb:l.length*8<=AM):∃u,AE (.append 1 8) [.slnil,v]=some u/\D1 l u:=by
 rcases t with t|⟨rfl,rfl⟩
 .exact AU.Gt t hb
 .exact⟨.slnil,rfl,.inr ⟨rfl,rfl⟩⟩
def Zr.nj{m:Int}:Zr (l++[m]) (.sl 1 ((l++[m]).map Cn)):=⟨.inl .mk,λe=>by injection e with _ e;simp at e⟩
def Zr.nil:Zr [] .slnil:=⟨.inl (.inr ⟨rfl,rfl⟩),nofun⟩
end
structure BX(h:Ah)(bi a:Nat)(o c t:Aa)(G:Nat->Prop)(b:BS):Prop where
 hb:h[bi]?=some (.cells (Jl a b o c t))
 o:B1 b.AY o
 t:Zr b.tm t
 w:PW h G a b.a
 nb:¬G bi
section
variable{h:Ah}{bi a:Nat}{o c t:Aa}{G F:Nat->Prop}{b:BS}{x:Int}{m:Nat}
def BX.lt(w:BX h bi a o c t G b):bi<h.length:=(Al.1 w.hb).1
def BX.Df{h':Ah}(w:BX h bi a o c t G b)(hf:∀i,i=bi\/G i->h'[i]?=h[i]?):BX h' bi a o c t G b:=
 ⟨by rw[hf bi (.inl rfl)];exact w.hb,w.o,w.t,w.w.Df λi hi=>hf i (.inr hi),w.nb⟩
def BX.IA(w:BX h bi a o c t G b){u:Ah}:BX (h++u) bi a o c t G b:=w.Df λi hi=>Aj (by rcases hi with rfl|hi;exact w.lt;exact w.w.lt hi)
def BX.ld(w:BX h bi a o c t G b)(k:Nat):Bd h none (Pt bi k)=(Jl a b o c t)[k]?:=by simp only[Bd,w.hb,E7]
def BX.l0(w:BX h bi a o c t G b):Bd h none (Pt bi 0)=some (Pt a 0):=w.ld 0
def BX.l1(w:BX h bi a o c t G b):Bd h none (Pt bi 1)=some (I b.Cf):=w.ld 1
def BX.l4(w:BX h bi a o c t G b):Bd h none (Pt bi 4)=some (I b.mode):=w.ld 4
def BX.l7(w:BX h bi a o c t G b):Bd h none (Pt bi 7)=some (I b.head):=w.ld 7
def BX.l9(w:BX h bi a o c t G b):Bd h none (Pt bi 9)=some (.bool b.LX):=w.ld 9
def BX.xh(w:BX h bi a o c t G b):Bd h none (Pt bi 15)=some (.bool b.ER):=w.ld 15
def BX.l3(w:BX h bi a o c t G b):Bd h none (Pt bi 3)=some c:=w.ld 3
def BX.l6(w:BX h bi a o c t G b):Bd h none (Pt bi 6)=some t:=w.ld 6
def BX.atO(w:BX h bi a o c t G b):At h bi 2 o:=⟨_,w.hb,rfl⟩
def BX.zQ(w:BX h bi a o c t G b):At h bi 3 c:=⟨_,w.hb,rfl⟩
def BX.sO(w:BX h bi a o c t G b):LV h bi 2 b.AY:=⟨o,w.atO,w.o⟩
def BX.sA(w:BX h bi a o c t G b):jm h (Pt bi 2) b.AY:=w.sO.at
def Ip(w:BX h bi a o c t G b):BH cx 146 [Pt bi 0] h (.bool true) h:=by rw[Af,eM];simp only[abS,w.l0]
def PW.pa{A:Ar}(w:PW h G a A):∃n m ps,PA h a n m ps A:=let⟨n,m,ps,w,_⟩:=w;⟨n,m,ps,w⟩
def Vm(w:BX h bi a o c t G b)(ok:BA b)(rm:B6 b m)(x:Int):∃K V u,BH cx 172 [Pt bi 0,I x] h (.agg [I (b.a.nd x).kind,I (b.a.nd x).FL,K,I (b.a.nd x).Cf,I (b.a.nd x).A7,.str (b.a.nd x).name,V,.str (b.a.nd x).data,.str (b.a.nd x).Gi,.str (b.a.nd x).sys,.bool (b.a.nd x).Cq,I (b.a.nd x).cont,I (b.a.nd x).Ei]) (h++u)/\D1 (b.a.nd x).A6 K/\I7 (h++u) V (b.a.nd x).Az/\Up h.length V:=by obtain⟨n,m',ps,d⟩:=w.w.pa;obtain⟨r,u,e,K,V,rfl,g,f⟩:=aFI (x:=x) d rm.Vd (rm.Vd.A6 ok.ok x);refine⟨K,V,u,?_,g,f⟩;rw[Af,eT];simp only[abS,w.l0,e.Ad]
def aF4(w:BX h bi a o c t G b)(rm:B6 b m):BH cx 187 [Pt bi 0] h (.agg (Fx b.AY).row) h:=by have:=rm.AY;rw[Af,fG];simp only[abS,Fa,(Ip w).Ad,(f39 w.sA Ab).Ad]
def aF5(w:BX h bi a o c t G b)(ok:BA b)(rm:B6 b m):BH cx 320 [Pt bi 0] h (.tuple [I b.J8.1,I b.J8.2]) h:=by
 have hl:=rm.AY;obtain⟨n,m',ps,g⟩:=w.w.pa;have f:=aCi w.sA (Ab:b.AY.length<=1000000000) E8;have r2:=aCi w.sA (Ab:b.AY.length<=1000000000) Bc;have b1:=KO (q:=By [E8]) (l:=b.AY);have b2:=KO (q:=By [Bc]) (l:=b.AY);unfold BS.J8;simp only
 generalize AR (By [E8]) b.AY=d at f b1⊢;generalize AR (By [Bc]) b.AY=i at r2 b2⊢;rw[Af,gL];simp only[BC,f.Ad,r2.Ad];refine⟨λh1=>?_,λh1=>⟨λh2=>?_,λh2=>?_⟩⟩;.rw[Ae h1];simp only[BC,Fa,(Yc w.sA i).Ad]
 .rw[Ac h1,Ae h2];simp only[BC,Fa,(Yc w.sA 0).Ad]
 .rw[Ac h1,Ac h2];simp only[abS,Fa,(Yc w.sA d).Ad,w.l0,(aFJ (x:=(Hv b.AY d).node) g rm.Vd).Ad];refine⟨λe=>?_,λe=>?_⟩;.rw[Ae e]
  .rw[Ac e];have j:(if d-1<0 then 0 else d-1)=max (d-1) 0:=Ab;simp only[BC,Fa,C3 (Ab: -9223372036854775808<=d-1) (Ab:d-1<9223372036854775808),cV,j,(Yc w.sA (max (d-1) 0)).Ad]
def aQ:AE (.Dh 1) [S E8,S TD,S TE,S TF,S wTr]=some (.sl 1 (HJ.map BZ)):=DF (ws:=HJ) rfl AX
def tQ{v:Aa}{ws:List Ao}(hv:HI ws v)(hn:ws.length<=1000000000)(a:Item)(h:Ah):BH cx 162 [.agg a.row,v] h (.bool (By ws a)) h:=by rw[Af,eQ];simp only[BC,Fa,(ă hv hn _ h).Ad,By];refine⟨λh1=>by simp[h1],λh1=>by simp[h1]⟩
def ui{A:Ar}{x:Int}(hk:(A.nd x).kind=4)(ws:List Ao):By ws ⟨0,(A.nd x).A7,(A.nd x).name,false⟩=decide (SC ws A x):=by
 by_cases h:SC ws A x;.rw[AA h];unfold By;rw[AA];exact⟨h.2.1,h.2.2⟩
 .rw[Ay h];unfold By;rw[Ay];exact λh2=>h ⟨hk,h2.1,h2.2⟩
def č(w:BX h bi a o c t G b)(ok:BA b)(rm:B6 b m)(x:Int):∃u,BH cx 171 [Pt bi 0,I x] h (.tuple [I (b.place x).1,I (b.place x).2]) (h++u):=by
 have hl:=rm.AY;by_cases C:x=0/\b.AY=[]
 .refine⟨[],?_⟩;have D:b.place x=(b.Cf,0):=by unfold BS.place;rw[Ae C]
  rw[D,BE,Af,VP];simp only[abS,(Ip w).Ad,C.1,C.2,Cw,(Vg w.sA).Ad,Int.natCast_zero,w.l1]
 .obtain⟨t',ht⟩:∃t',t'=if x=0 then(Fx b.AY).node else x:=⟨_,rfl⟩
  obtain⟨Z,X,r,U,_,_⟩:=Vm w ok rm t';have w1:=w.IA (u:=r);have D:b.place x=if(b.a.nd (if b.ER=true/\SC HJ b.a t' then b.J8 else(t',0)).1).cont≠0 then((b.a.nd (if b.ER=true/\SC HJ b.a t' then b.J8 else(t',0)).1).cont,0) else if b.ER=true/\SC HJ b.a t' then b.J8 else(t',0):=by unfold BS.place;rw[Ac C,<-ht]
  obtain⟨pb,Vb⟩:∃pb,pb=if b.ER=true/\SC HJ b.a t' then b.J8 else(t',0):=⟨_,rfl⟩
  rw[<-Vb] at D;obtain⟨Y,V,P,r2,_,_⟩:=Vm w1 ok rm pb.1;have T:=aF5 w1 ok rm;have A:=tQ (ws:=HJ) C0 AX ⟨0,(b.a.nd t').A7,(b.a.nd t').name,false⟩ (h++r);have em:∀s n,AE (.Cm [I 0,I 0,S [],ff] [(1,1),(2,1)]) [I s,.str n]=some (.agg (Item.row ⟨0,s,n,false⟩)):=λ_ _=>rfl;refine⟨r++P,?_⟩;rw[<-AI];have last:∀(y:Int×Int),y=pb->W cx (.call 172 [Pt bi 0,I y.1] λp=> .cells 13 p λd=> .op (.int .neq) [g d 11,I 0] λk=> .Gc k (.ret .ret [.tuple [g d 11,I 0]]) (.ret .ret [.tuple [I y.1,I y.2]])) (λj vs h1=>j=DQ.ret/\vs=[.tuple [I (b.place x).1,I (b.place x).2]]/\h1=h++r++P) (h++r):=by
   rintro _ rfl;rw[D];simp only[BC,r2.Ad];refine⟨λh1=>?_,λh1=>?_⟩;.rw[Ae h1]
   .rw[Ac h1]
  rw[Af,VP];have xh:=w1.xh;have mid:W cx (.call 172 [Pt bi 0,I t'] λO=> .cells 13 O λq=> .N0 200009 (.op .JI [Pt bi 0] λN=> .op (.K8 15) [N] λv16=> .load none v16 λM=> .Gc M (.op (.int .eql) [g q 0,I 4] λL=> .Gc L (.op (.Cm [I 0,I 0,S [],ff] [(1,1),(2,1)]) [g q 4,g q 5] λK=> .op (.Dh 1) [S aSR,S aTw,S aTt,S aTx,S [116,114]] λv20=> .call 162 [K,v20] λJ=> .ret .normal [J]) (.ret .normal [ff])) (.ret .normal [ff])) (λx R=>match x with
    | .normal=> .N0 100046 (.Gc (g R 0) (.call 320 [Pt bi 0] λz=> .op (.ext 0) [z] λH=> .op (.ext 1) [z] λE=> .ret .normal [H,E]) (.ret .normal [I t',I 0])) (λx f=>match x with
     | .normal=> .call 172 [Pt bi 0,g f 0] λp=> .cells 13 p λd=> .op (.int .neq) [g d 11,I 0] λk=> .Gc k (.ret .ret [.tuple [g d 11,I 0]]) (.ret .ret [.tuple [g f 0,g f 1]])
     | .exit i=> .fail
     | .ret=> .ret .ret [.tuple [g f 0,g f 1]])
    | .exit i=> .fail
    | .ret=> .ret .ret [.tuple [I t',I 0]])) (λj vs h1=>j=DQ.ret/\vs=[.tuple [I (b.place x).1,I (b.place x).2]]/\h1=h++r++P) h:=by
   rw[U.Ad];by_cases hf:b.ER=true
   .rw[hf] at xh;by_cases B:(b.a.nd t').kind=4
    .rw[ui B] at A;by_cases hw:SC HJ b.a t';.rw[AA hw] at A;rw[Ae ⟨hf,hw⟩] at Vb;have:=last b.J8 Vb.symm;simp only[abS,xh,B,em,aQ,A.Ad,T.Ad];simpa only[BC,aC,A9,BP] using this
     .rw[Ay hw] at A;rw[Ac (λh=>hw h.2)] at Vb;have:=last (t',0) Vb.symm;simp only[abS,xh,B,em,aQ,A.Ad];simpa only[BC,aC,A9,BP] using this
    .rw[Ac (λh=>B h.2.1)] at Vb;have:=last (t',0) Vb.symm;simp only[abS,xh,B];simpa only[BC,aC,A9,BP] using this
   .rw[Ac (λh=>hf h.1)] at Vb;have:=last (t',0) Vb.symm;rw[show b.ER=false by simpa using hf] at xh;simp only[BC,xh];simpa only[BC,aC,A9,BP] using this
  by_cases h0:x=0
  .have hne:b.AY≠[]:=λe=>C ⟨h0,e⟩;have Q:¬((b.AY.length:Nat):Int)=0:=by have:=EC.2 hne;omega
   rw[Ae h0] at ht;rw[ht] at mid;simp only[abS,(Ip w).Ad];rw[h0] at mid⊢;simp only[abS,Fa,(Vg w.sA).Ad,Q,(aF4 w rm).Ad] at mid⊢;exact mid
  .rw[Ac h0] at ht;rw[ht] at mid;simp only[abS,(Ip w).Ad,h0,Dy] at mid⊢;exact mid
end
section
def gj{Q:Hb}{h:Ah}{k:Aa->IT}:W cx (.O6 k) Q h↔W cx (k (.map (some h.length))) Q (h++[.map (ft 0)]):=Rl
section
variable{v:Aa}{l:List A3}{h:Ah}
def aK9(hv:Br l v)(hb:l.length<=1000)(sp:Int):∃u,BH cx 203 [I sp,v] h u (h++[.map (ft 11)])/\Br (l.map (CZ sp)) u:=by
 have DC:AU 3 (l.map A3.row) v:=hv;have Ji:Ev cx 203 [I sp,v] h λr h'=>h'=h++[.map (ft 11)]/\Br (l.map (CZ sp)) r:=by
  unfold Ev;rw[fV,aE9];rw[gj];simp only[BC,Nat.reduceLeDiff,↓reduceIte,AP,Cc,rQ,aER,aES,aET,aEU,aEV,aEW,aEX,aEY,aEZ,aE0,aBC,DC.CL];refine Bf (λp:Nat×Aa=>[p.2,I (p.1:Int)]) (λp h1=>p.1<=l.length/\Br ((l.take p.1).map (CZ sp)) p.2/\h1=h++[.map (ft 11)]) (λp=>l.length-p.1) (0,.slnil) rfl ⟨AQ _,.nil,rfl⟩ ?_;rintro⟨n,u⟩ h1 ⟨hn,hu,rfl⟩;simp only at hn hu;rcases AN n l.length with hlt|D6
  .have i1:(n:Int)<(l.length:Int):=by omega
   have Gq:∀{q:List Aa},q=(CZ sp l[n]).row->∃w,AE (.append 3 40) [u,.sl 3 [q]]=some w/\Br ((l.take (n+1)).map (CZ sp)) w:=by
    rintro _ rfl;refine⟨_,AU.Ki (f:=A3.row) (a:=CZ sp l[n]) (b:=40) hu ?_,?_⟩;.simp[AM];omega
    .rw[AB hlt,BF];exact .mk
   have inc:=BI (Ab:n<9223372036854775807);by_cases e:sp=2
   .subst e;cases c:D8 (Co l[n].name H7) with
    |some x=>obtain⟨w,d,hw⟩:=Gq (q:=[I x.1,.str x.2,.str l[n].value]) (by simp only[CZ,Kj,true_or,BL,c,A3.row]);simp only[BC,Nat.reduceLeDiff,↓reduceIte,AP,i1,DC.BJ hlt,Cc,A3.row,(aFo _).BV rfl rfl,Av,Aq,An,Mp,c,Ef,d,inc];exact AK.next (n+1,w) rfl ⟨hlt,hw,rfl⟩ Dq
    |none=>obtain⟨w,d,hw⟩:=Gq (q:=[I 0,.str (Co l[n].name H7),.str l[n].value]) (by simp only[CZ,Kj,true_or,BL,c,A3.row]);simp only[BC,Nat.reduceLeDiff,↓reduceIte,AP,i1,DC.BJ hlt,Cc,A3.row,(aFo _).BV rfl rfl,Av,Aq,An,Mp,c,Ef,d,inc];exact AK.next (n+1,w) rfl ⟨hlt,hw,rfl⟩ Dq
   by_cases g:sp=3
   .subst g;by_cases hd:l[n].name=aBD
    .have c:D8 Va=none:=by decide
     obtain⟨w,d,hw⟩:=Gq (q:=[I 0,.str Va,.str l[n].value]) (by simp only[CZ,Kj,hd,or_true,BL,Ea,c,A3.row,oU,e]);simp only[BC,Nat.reduceLeDiff,↓reduceIte,AP,i1,DC.BJ hlt,Cc,A3.row,hd,(AX:¬(3:Int)=2),Av,Au,Aq,An,Mp,c,Ef,d,inc];exact AK.next (n+1,w) rfl ⟨hlt,hw,rfl⟩ Dq
    .cases c:D8 l[n].name with
     |some x=>obtain⟨w,d,hw⟩:=Gq (q:=[I x.1,.str x.2,.str l[n].value]) (by simp only[CZ,Kj,hd,or_true,BL,Ea,c,A3.row,aAq,e]);simp only[BC,Nat.reduceLeDiff,↓reduceIte,AP,i1,DC.BJ hlt,Cc,A3.row,hd,(AX:¬(3:Int)=2),Av,Au,Aq,An,Mp,c,Ef,d,inc];exact AK.next (n+1,w) rfl ⟨hlt,hw,rfl⟩ Dq
     |none=>obtain⟨w,d,hw⟩:=Gq (q:=[I 0,.str l[n].name,.str l[n].value]) (by simp only[CZ,Kj,hd,or_true,BL,Ea,c,A3.row,aAq,e]);simp only[BC,Nat.reduceLeDiff,↓reduceIte,AP,i1,DC.BJ hlt,Cc,A3.row,hd,(AX:¬(3:Int)=2),Av,Au,Aq,An,Mp,c,Ef,d,inc];exact AK.next (n+1,w) rfl ⟨hlt,hw,rfl⟩ Dq
   .obtain⟨w,d,hw⟩:=Gq (q:=[I 0,.str l[n].name,.str l[n].value]) (by simp only[CZ,e,g,or_self,Ea,A3.row]);cases c:D8 l[n].name with
    |some x=>simp only[BC,Nat.reduceLeDiff,↓reduceIte,AP,i1,DC.BJ hlt,Cc,A3.row,e,g,Av,Au,Aq,An,Mp,c,Ef,d,inc];exact AK.next (n+1,w) rfl ⟨hlt,hw,rfl⟩ Dq
    |none=>simp only[BC,Nat.reduceLeDiff,↓reduceIte,AP,i1,DC.BJ hlt,Cc,A3.row,e,g,Av,Au,Aq,An,Mp,c,Ef,d,inc];exact AK.next (n+1,w) rfl ⟨hlt,hw,rfl⟩ Dq
  .have i1:¬(n:Int)<(l.length:Int):=by omega
   rw[AG D6] at hu;simp only[BC,Nat.reduceLeDiff,↓reduceIte,AP,i1,Au,Aq,An];exact⟨_,rfl,hu⟩
 obtain⟨r,h',hr,rfl,hu⟩:=Ji.ret;exact⟨r,hr,hu⟩
def Vn{Q:Hb}{s:Ao}{k:Aa->IT}:W cx (.BV 359 [.str aSw,.str s] k) Q h↔W cx (k (.str (Co s H7))) Q h:=by have e:=(aFm ND s EF).BV (Q:=Q) (h:=h) (k:=k) rfl rfl;rw[XD] at e;exact e
def TO{Q:Hb}{s:Ao}{k:Aa->IT}(hs:s.length<9223372036854775807):W cx (.BV 139 [.str aSA,.str s] k) Q h↔W cx (k (.bool (decide (s∈LW)))) Q h:=by rw[HW AX hs,zq]
def aLa(hv:Br l v)(hs:∀a∈l,a.name.length<=1000)(hb:l.length<=1000)(sp:Int):∃u,BH cx 230 [I sp,v] h u h/\Br (l.map (CZ sp)) u:=by
 have DC:AU 3 (l.map A3.row) v:=hv;have Ji:Ev cx 230 [I sp,v] h λr h'=>h'=h/\Br (l.map (CZ sp)) r:=by
  unfold Ev;rw[Ø];refine Bf (λp:Nat×Aa=>[p.2,I (p.1:Int)]) (λp h1=>p.1<=l.length/\Br ((l.take p.1).map (CZ sp)) p.2/\h1=h) (λp=>l.length-p.1) (0,.slnil) rfl ⟨AQ _,.nil,rfl⟩ ?_;rintro⟨n,u⟩ h1 ⟨hn,hu,rfl⟩;simp only at hn hu;rcases AN n l.length with hlt|D6
  .have i1:(n:Int)<(l.length:Int):=by omega
   have Gq:∀{q:List Aa},q=(CZ sp l[n]).row->∃w,AE (.append 3 40) [u,.sl 3 [q]]=some w/\Br ((l.take (n+1)).map (CZ sp)) w:=by
    rintro _ rfl;refine⟨_,AU.Ki (f:=A3.row) (a:=CZ sp l[n]) (b:=40) hu ?_,?_⟩;.simp[AM];omega
    .rw[AB hlt,BF];exact .mk
   have inc:=BI (Ab:n<9223372036854775807);have OH:=hs _ (AL hlt);have aCr:∀nm,(sp=2\/sp=3)->Kj sp l[n].name=nm->CZ sp l[n]=match D8 nm with
     |some (s,m)=>⟨s,m,l[n].value⟩
     |none=>⟨0,nm,l[n].value⟩:=by
    rintro _ hsp rfl;rw[CZ,Ae hsp];rfl
   by_cases x:sp=2
   .subst x;have hnm:=aCr (Co l[n].name H7) (.inl rfl) rfl;have kE:(Co l[n].name H7).length<9223372036854775807:=by rw[Ss];omega
    generalize hg:Co l[n].name H7=nm at hnm kE;rcases QU nm with⟨e,i,d⟩|⟨e,⟨g,i,d⟩|⟨g,⟨j,i,d⟩|⟨j,⟨k,d⟩|⟨k,⟨o,d⟩|⟨o,d⟩⟩⟩⟩⟩
    .obtain⟨w,c,hw⟩:=Gq (q:=[I 4,.str (nm.drop 6),.str l[n].value]) (by rw[hnm];simp only[d,A3.row]);simp only[BC,Nat.reduceLeDiff,↓reduceIte,AP,DC.CL,i1,DC.BJ hlt,Cc,A3.row,hg,Vn,(AX:¬(2:Int)=3),Av,Au,Aq,An,TO kE,e,sl6 i,Ef,c,inc];exact AK.next (n+1,w) rfl ⟨hlt,hw,rfl⟩ Dq
    .obtain⟨w,c,hw⟩:=Gq (q:=[I 5,.str (nm.drop 4),.str l[n].value]) (by rw[hnm];simp only[d,A3.row]);simp only[BC,Nat.reduceLeDiff,↓reduceIte,AP,DC.CL,i1,DC.BJ hlt,Cc,A3.row,hg,Vn,(AX:¬(2:Int)=3),Av,Au,Aq,An,TO kE,e,AW g,sl4 i,Ef,c,inc];exact AK.next (n+1,w) rfl ⟨hlt,hw,rfl⟩ Dq
    .obtain⟨w,c,hw⟩:=Gq (q:=[I 5,.str (nm.drop 4),.str l[n].value]) (by rw[hnm];simp only[d,A3.row]);simp only[BC,Nat.reduceLeDiff,↓reduceIte,AP,DC.CL,i1,DC.BJ hlt,Cc,A3.row,hg,Vn,(AX:¬(2:Int)=3),Av,Au,Aq,An,TO kE,e,g,AW j,sl4 i,Ef,c,inc];exact AK.next (n+1,w) rfl ⟨hlt,hw,rfl⟩ Dq
    .obtain⟨w,c,hw⟩:=Gq (q:=[I 6,.str nm,.str l[n].value]) (by rw[hnm];simp only[d,A3.row]);simp only[BC,Nat.reduceLeDiff,↓reduceIte,AP,DC.CL,i1,DC.BJ hlt,Cc,A3.row,hg,Vn,(AX:¬(2:Int)=3),Av,Au,Aq,An,TO kE,e,g,j,AW k,Ef,c,inc];exact AK.next (n+1,w) rfl ⟨hlt,hw,rfl⟩ Dq
    .obtain⟨w,c,hw⟩:=Gq (q:=[I 6,.str rR,.str l[n].value]) (by rw[hnm];simp only[d,A3.row]);simp only[BC,Nat.reduceLeDiff,↓reduceIte,AP,DC.CL,i1,DC.BJ hlt,Cc,A3.row,hg,Vn,(AX:¬(2:Int)=3),Av,Au,Aq,An,TO kE,e,g,j,k,AW o,Ef,c,inc];exact AK.next (n+1,w) rfl ⟨hlt,hw,rfl⟩ Dq
    .obtain⟨w,c,hw⟩:=Gq (q:=[I 0,.str nm,.str l[n].value]) (by rw[hnm];simp only[d,A3.row]);simp only[BC,Nat.reduceLeDiff,↓reduceIte,AP,DC.CL,i1,DC.BJ hlt,Cc,A3.row,hg,Vn,(AX:¬(2:Int)=3),Av,Au,Aq,An,TO kE,e,g,j,k,o,Ef,c,inc];exact AK.next (n+1,w) rfl ⟨hlt,hw,rfl⟩ Dq
   by_cases t:sp=3
   .subst t;by_cases hd:l[n].name=aBD;.have hnm:=aCr Va (.inr rfl) (by rw[Kj,Ac AX,Ae ⟨rfl,hd⟩]);rw[(AX:D8 Va=none)] at hnm;obtain⟨w,c,hw⟩:=Gq (q:=[I 0,.str Va,.str l[n].value]) (by rw[hnm];rfl);have kE:Va.length<9223372036854775807:=AX;simp only[BC,Nat.reduceLeDiff,↓reduceIte,AP,DC.CL,i1,DC.BJ hlt,Cc,A3.row,hd,(AX:¬(3:Int)=2),Av,Au,Aq,An,TO kE,(AX:Va∉LW),(AX:¬Va=mQ),(AX:¬Va=XJ),(AX:¬Va=mR),(AX:¬Va=XK),Ef,c,inc];exact AK.next (n+1,w) rfl ⟨hlt,hw,rfl⟩ Dq
    have hnm:=aCr l[n].name (.inr rfl) (by rw[Kj,Ac AX,Ac (λh=>hd h.2)]);have kE:l[n].name.length<9223372036854775807:=Ab;rcases QU l[n].name with⟨e,i,d⟩|⟨e,⟨g,i,d⟩|⟨g,⟨j,i,d⟩|⟨j,⟨k,d⟩|⟨k,⟨o,d⟩|⟨o,d⟩⟩⟩⟩⟩
    .obtain⟨w,c,hw⟩:=Gq (q:=[I 4,.str (l[n].name.drop 6),.str l[n].value]) (by rw[hnm];simp only[d,A3.row]);simp only[BC,Nat.reduceLeDiff,↓reduceIte,AP,DC.CL,i1,DC.BJ hlt,Cc,A3.row,hd,Vn,(AX:¬(3:Int)=2),Av,Au,Aq,An,TO kE,e,sl6 i,Ef,c,inc];exact AK.next (n+1,w) rfl ⟨hlt,hw,rfl⟩ Dq
    .obtain⟨w,c,hw⟩:=Gq (q:=[I 5,.str (l[n].name.drop 4),.str l[n].value]) (by rw[hnm];simp only[d,A3.row]);simp only[BC,Nat.reduceLeDiff,↓reduceIte,AP,DC.CL,i1,DC.BJ hlt,Cc,A3.row,hd,Vn,(AX:¬(3:Int)=2),Av,Au,Aq,An,TO kE,e,AW g,sl4 i,Ef,c,inc];exact AK.next (n+1,w) rfl ⟨hlt,hw,rfl⟩ Dq
    .obtain⟨w,c,hw⟩:=Gq (q:=[I 5,.str (l[n].name.drop 4),.str l[n].value]) (by rw[hnm];simp only[d,A3.row]);simp only[BC,Nat.reduceLeDiff,↓reduceIte,AP,DC.CL,i1,DC.BJ hlt,Cc,A3.row,hd,Vn,(AX:¬(3:Int)=2),Av,Au,Aq,An,TO kE,e,g,AW j,sl4 i,Ef,c,inc];exact AK.next (n+1,w) rfl ⟨hlt,hw,rfl⟩ Dq
    .obtain⟨w,c,hw⟩:=Gq (q:=[I 6,.str l[n].name,.str l[n].value]) (by rw[hnm];simp only[d,A3.row]);simp only[BC,Nat.reduceLeDiff,↓reduceIte,AP,DC.CL,i1,DC.BJ hlt,Cc,A3.row,hd,Vn,(AX:¬(3:Int)=2),Av,Au,Aq,An,TO kE,e,g,j,AW k,Ef,c,inc];exact AK.next (n+1,w) rfl ⟨hlt,hw,rfl⟩ Dq
    .obtain⟨w,c,hw⟩:=Gq (q:=[I 6,.str rR,.str l[n].value]) (by rw[hnm];simp only[d,A3.row]);simp only[BC,Nat.reduceLeDiff,↓reduceIte,AP,DC.CL,i1,DC.BJ hlt,Cc,A3.row,hd,Vn,(AX:¬(3:Int)=2),Av,Au,Aq,An,TO kE,e,g,j,k,AW o,Ef,c,inc];exact AK.next (n+1,w) rfl ⟨hlt,hw,rfl⟩ Dq
    .obtain⟨w,c,hw⟩:=Gq (q:=[I 0,.str l[n].name,.str l[n].value]) (by rw[hnm];simp only[d,A3.row]);simp only[BC,Nat.reduceLeDiff,↓reduceIte,AP,DC.CL,i1,DC.BJ hlt,Cc,A3.row,hd,Vn,(AX:¬(3:Int)=2),Av,Au,Aq,An,TO kE,e,g,j,k,o,Ef,c,inc];exact AK.next (n+1,w) rfl ⟨hlt,hw,rfl⟩ Dq
   .obtain⟨w,c,hw⟩:=Gq (q:=[I 0,.str l[n].name,.str l[n].value]) (by simp only[CZ,x,t,or_self,Ea,A3.row]);simp only[BC,Nat.reduceLeDiff,↓reduceIte,AP,DC.CL,i1,DC.BJ hlt,Cc,A3.row,x,t,Av,Au,Aq,An,Ef,c,inc];exact AK.next (n+1,w) rfl ⟨hlt,hw,rfl⟩ Dq
  .have i1:¬(n:Int)<(l.length:Int):=by omega
   rw[AG D6] at hu;simp only[BC,Nat.reduceLeDiff,↓reduceIte,AP,DC.CL,i1,Au,Aq,An];exact⟨_,rfl,hu⟩
 obtain⟨r,h',hr,rfl,hu⟩:=Ji.ret;exact⟨r,hr,hu⟩
end
end
def Bt(bi:Nat)(G:Nat->Prop):Nat->Prop:=λi=>i=bi\/G i
section
variable{h h':Ah}{bi a:Nat}{o c t:Aa}{G G' F:Nat->Prop}{b:BS}{x:Int}{m:Nat}
def DA.Ų(x:DA h G h' G'):DA h (Am.Bt bi G) h' (Am.Bt bi G'):=⟨x.len,λi hi hn=>x.old i hi λhg=>hn (.inr hg),λi hi=>by
 rcases hi with rfl|hi
 .exact .inl (.inl rfl)
 .rcases x.Bt i hi with h|h
  .exact .inl (.inr h)
  .exact .inr h⟩
def BX.zR{A':Ar}(w:BX h bi a o c t G b)(hp:PW h' G' a A')(x:DA h G h' G'):BX h' bi a o c t G' {b with a:=A'}/\DA h (Bt bi G) h' (Bt bi G'):=
 ⟨⟨by rw[x.old bi w.lt w.nb];exact w.hb,w.o,w.t,hp,λhg=>by rcases x.Bt bi hg with h|h;exact w.nb h;have:=w.lt;omega⟩,x.Ų⟩
def BX.step{A':Ar}{R:Ah->Prop}(w:BX h bi a o c t G b)(d:∀n m ps,PA h a n m ps b.a->∃h' n' m' IN,R h'/\PA h' a n' m' IN A'/\DA h (λi=>i∈Ga a n m ps) h' (λi=>i∈Ga a n' m' IN)):
  ∃h' G',R h'/\BX h' bi a o c t G' {b with a:=A'}/\DA h (Bt bi G) h' (Bt bi G'):=by
 obtain⟨n,m,ps,g,e⟩:=w.w;obtain⟨h',n',m',IN,r,w',x⟩:=d n m ps g;have k:G=λi=>i∈Ga a n m ps:=funext λi=>propext (e i);obtain⟨j,f⟩:=w.zR w'.pw (by rw[k];exact x);exact⟨h',_,r,j,f⟩
def BX.C7(w:BX h bi a o c t G b){u:Ah}:DA h (Bt bi G) (h++u) (Bt bi G):= .IA
def aF8{v:Aa}{l:List Int}{f:FuncId}{caps:List Aa}{q:Int->Bool}(hv:D1 l v)(hb:l.length<=1000000000)(hf:f<=99999)(hq:∀k∈l,∀u,∃d,BH cx f (I k::caps) (h++u) (.bool (q k)) (h++u++d)):
  ∃u,BH cx 396 [v,.func (.func f) [] caps] h (I (B8 q 0 l)) (h++u):=by
 have DC:AU 1 (l.map Cn) v:=hv;have Ji:Ev cx 396 [v,.func (.func f) [] caps] h λr h'=>r= I (B8 q 0 l)/\∃u,h'=h++u:=by
  unfold Ev;rw[iO];simp only[BC,DC.CL];refine Bf (λk:Nat=>[I 0,I (k:Int)]) (λk h1=>k<=l.length/\B8 q 0 l=B8 q k (l.drop k)/\∃u,h1=h++u) (λk=>l.length-k) 0 rfl ⟨AQ _,rfl,[],AH⟩ ?_;rintro k h1 ⟨hk,ha,u,rfl⟩;rcases AN k l.length with hlt|D6
  .have i1:(k:Int)<(l.length:Int):=by omega
   have g:Bd (h++u) none (.CG (Cn l[k]))=some (I l[k]):=rfl;obtain⟨d,e⟩:=hq _ (AL hlt) u;rw[AF hlt,B8] at ha;simp only[abS,↓reduceIte,Di,i1,DC.BJ hlt,g,hf,e.Ad,BI (Ab:k<9223372036854775807)];rw[Cu];refine⟨λh2=>?_,λh2=>?_⟩;.exact⟨_,rfl,by rw[ha,Ae h2],u++d,AH⟩
   .rw[Ac (by simp[h2])] at ha;exact AK.next (k+1) rfl ⟨hlt,ha,u++d,AH⟩ Ab
  .have i1:¬(k:Int)<(l.length:Int):=by omega
   rw[AO D6,B8] at ha;simp only[abS,↓reduceIte,Di,i1];exact⟨_,rfl,by rw[ha],u,rfl⟩
 obtain⟨r,h',hr,rfl,u,rfl⟩:=Ji.ret;exact⟨u,hr⟩
def Ď{l:List Int}{q:Int->Bool}:decide (0<=B8 q 0 l)=l.any q:=by
 rcases GQ (p:=q) (l:=l) (k:=0) with⟨h1,h2⟩|⟨n,y,h1,h2,d⟩
 .rw[h1,jw];have:=Jp.1 h2;simpa using this
 .rw[h1,jw];have f:=UL d;have e:=QE d;rw[AA Ab,Nj];exact⟨y,e,f⟩
def BX.self(w:BX h bi a o c t G b){A':Ar}(e:A'=b.a):BX h bi a o c t G {b with a:=A'}:=by subst e;exact w
open Classical in
def nS{p bf:Int}(w:BX h bi a o c t G b)(ok:BA b)(rm:B6 b m):∃h' G',BH cx 159 [Pt bi 0,I x,I p,I bf] h (.tuple []) h'/\BX h' bi a o c t G' {b with a:=b.a.Et x p bf}/\DA h (Bt bi G) h' (Bt bi G'):=by
 obtain⟨K1,V1,d,J,_,_⟩:=Vm w ok rm p;have w1:=w.IA (u:=d);have X:∀v,Aa.cells (.ptr v)=[.ptr v]:=λ_=>rfl;have HC:∀h2,(∃u,h2=h++u)->∃h' G',(∃s,BH cx 111 [Pt a 0,I p,I x,I bf] h2 (I s) h')/\BX h' bi a o c t G' {b with a:=b.a.Fq p x bf}/\DA h (Bt bi G) h' (Bt bi G'):=by
  rintro _ ⟨u,rfl⟩;have g:=w.IA (u:=u);obtain⟨h',G',r,w',x'⟩:=g.step (A':=b.a.Fq p x bf) (R:=λh'=>∃s,BH cx 111 [Pt a 0,I p,I x,I bf] (h++u) (I s) h') (λn m ps Q=>by obtain⟨s,h',IN,r,wp,P⟩:=Ű Q rm.Vd ok.ok (p:=p) (x:=x) (b:=bf);exact⟨h',n,m,IN,⟨s,r⟩,wp,P⟩)
  exact⟨h',G',r,w',w.C7.trans x'⟩
 by_cases A:(b.a.nd p).kind=1
 .obtain⟨K2,Z,j,r2,_,_⟩:=Vm w1 ok rm x;have g:=w1.IA (u:=j);by_cases D:(b.a.nd x).kind=4
  .obtain⟨V,W,tM,M⟩:=g.w.pa;obtain⟨K,O,U⟩:=Ŧ (x:=p) M rm.Vd (rm.Vd.A6 ok.ok p);obtain⟨H,T⟩:=aF8 (h:=h++d++j) (f:=307) (caps:=[.CG [Pt bi 0]]) (q:=λk=>decide ((b.a.nd k).kind=4)) U (rm.Vd.A6 ok.ok p) AX (λk _ u=>by have E:=g.IA (u:=u);obtain⟨K3,Y,S,y,_,_⟩:=Vm E ok rm k;refine⟨S,?_⟩;rw[Af,gE];simp only[BC,y.Ad])
   have i:BH cx 305 [K,.func (.func 307) [] [.CG [Pt bi 0]]] (h++d++j) (.bool ((b.a.nd p).A6.any λk=>decide ((b.a.nd k).kind=4))) (h++d++j++H):=by rw[Af,gD,<-Ď];simp only[BC,T.Ad]
   have E:=g.IA (u:=H);by_cases L:∃k∈(b.a.nd p).A6,(b.a.nd k).kind=4
   .have N:((b.a.nd p).A6.any λk=>decide ((b.a.nd k).kind=4))=true:=by simpa using L
    rw[N] at i;have z:b.a.Et x p bf=b.a:=by unfold Ar.Et;rw[Ae ⟨A,D,L⟩]
    refine⟨_,G,?_,E.self z,(w.C7.trans w1.C7).trans g.C7⟩;rw[Af,Qs];simp only[abS,J.Ad,A,r2.Ad,D,g.l0,O.Ad,i.Ad]
   .have N:((b.a.nd p).A6.any λk=>decide ((b.a.nd k).kind=4))=false:=by rw[aOn];intro k hk;simpa using λe=>L ⟨k,hk,e⟩
    rw[N] at i;have z:b.a.Et x p bf=b.a.Fq p x bf:=by unfold Ar.Et;rw[Ac (λh=>L h.2.2)]
    obtain⟨h',G',⟨s,y⟩,C,B⟩:=HC (h++d++j++H) ⟨d++j++H,AH⟩;refine⟨h',G',?_,by rw[z];exact C,B⟩;rw[Af,Qs];simp only[abS,J.Ad,A,r2.Ad,D,g.l0,O.Ad,i.Ad,E.l0,y.Ad]
  .have z:b.a.Et x p bf=b.a.Fq p x bf:=by unfold Ar.Et;rw[Ac (λh=>D h.2.1)]
   obtain⟨h',G',⟨s,y⟩,C,B⟩:=HC (h++d++j) ⟨d++j,AH⟩;refine⟨h',G',?_,by rw[z];exact C,B⟩;rw[Af,Qs];simp only[abS,J.Ad,A,r2.Ad,D,g.l0,y.Ad]
 .have z:b.a.Et x p bf=b.a.Fq p x bf:=by unfold Ar.Et;rw[Ac (λh=>A h.1)]
  obtain⟨h',G',⟨s,y⟩,C,B⟩:=HC (h++d) ⟨d,rfl⟩;refine⟨h',G',?_,by rw[z];exact C,B⟩;rw[Af,Qs];simp only[abS,J.Ad,A,w1.l0,y.Ad]
def aF9(w:BX h bi a o c t G b)(ok:BA b)(rm:B6 b m)(p:Int):∃u,BH cx 206 [Pt bi 0,I p] h (I (b.ID p)) (h++u):=by
 obtain⟨n,j,d,f,_,_⟩:=Vm w ok rm p;have w1:=w.IA (u:=d);unfold BS.ID;by_cases hc:(b.a.nd p).cont=0
 .refine⟨d,?_⟩;rw[Ac (by simp[hc]),Af,VT];simp only[abS,f.Ad,hc,BW,Cw,w1.l1];refine⟨λh1=>?_,λh1=>?_⟩;.rw[Ae h1]
  .rw[Ac h1]
 .obtain⟨k,i,e,r2,_,_⟩:=Vm w1 ok rm (b.a.nd p).cont;have g:=w1.IA (u:=e);refine⟨d++e,?_⟩;rw[Ae hc,<-AI,Af,VT];simp only[abS,f.Ad,r2.Ad,hc,BW,g.l1];refine⟨λh1=>?_,λh1=>?_⟩;.rw[Ae h1]
  .rw[Ac h1]
def NO(nm:Ao)(av:Aa)(r:List Aa):Prop:=∃n k j i g f e d U7 Xk,r=[n,.str nm,k,j,i,g,f,e,av,d,U7,Xk]
def Nf:Aa.agg Item.zero.row= .agg [I 0,I 0,S [],ff]:=rfl
variable{nm:Ao}{av:Aa}{l:List A3}{r:List Aa}{sp p:Int}
def B6.len{k:Nat}(rm:B6 b k)(hk:3<=k):b.a.len+3<=1000000000:=by have:=rm.n;unfold Ar.len;omega
def uj(w:BX h bi a o c t G b)(ok:BA b)(rm:B6 b (m+3))(hr:NO nm av r)(hv:Br l av)(hl:DU l)(hn:nm.length<=1000)(p sp:Int):
  ∃h' G',BH cx 85 [Pt bi 0,.agg r,I sp,I p] h (.agg (b.Gv nm l sp).row) h'/\BX h' bi a o c t G' (b.Em nm l sp p)/\DA h (Bt bi G) h' (Bt bi G'):=by
 obtain⟨O,N,M,L,K,J,H,E,U7,Xk,rfl⟩:=hr;by_cases hs:BS.HV sp
 .obtain⟨D,s,hu⟩:=aK9 (h:=h) hv hl.1 sp;have w1:=w.IA (u:=[.map (ft 11)]);obtain⟨j,r2⟩:=aF9 w1 ok rm p;have g:=w1.IA (u:=j);have hd:=Qp ok (p:=p);have i:∀y∈l.map (CZ sp),BS.HV y.A7:=by intro y hy;obtain⟨z,_,rfl⟩:=Bj.1 hy;exact dN
  obtain⟨h',G',⟨f,_⟩,C,A⟩:=g.step (A':=b.a.elem (b.ID p) sp (BS.IE sp nm) (l.map (CZ sp))) (R:=λh'=>BH cx 205 [Pt a 0,I (b.ID p),I sp,.str (BS.IE sp nm),D] (h++[.map (ft 11)]++j) (.tuple [I (b.a.len+1),I 0]) h'/\True) (λn m ps B=>by obtain⟨h',n',m',IN,r,wp,v,_⟩:=aFT B rm.Vd (rm.len Ab) hd hs hu (by rw[Ak];have:=hl.1;omega) i (nm:=BS.IE sp nm);exact⟨h',n',m',IN,⟨r,trivial⟩,wp,v⟩)
  have d:=f96 (h:=h') hu (λy hy=>by obtain⟨z,hz,rfl⟩:=Bj.1 hy;rw[aM];have:=(hl.2 z hz).2;have:AM=140737488355328:=rfl;omega) (by rw[Ak];have:=hl.1;omega) sp (BS.IE sp nm);have em:AE (.Cm [I 0,I 0,S [],ff] [(0,1),(1,1),(2,1),(3,1)]) [I (b.a.len+1),I sp,.str (BS.IE sp nm),.bool (Fl sp (BS.IE sp nm) (l.map (CZ sp)))]=some (.agg (b.Gv nm l sp).row):=by rw[aF];unfold BS.Gv;rw[Ae hs]
  refine⟨h',G',?_,by unfold BS.Em;rw[Ae hs];exact C,(w.C7.trans w1.C7).trans A⟩;have q:¬sp<0:=by have:=hs.1;omega
  have k:¬7<sp:=by have:=hs.2;omega
  have hlen:=λ(y:Item)=>@Item.CK y;rw[Af,dY];by_cases h2:sp=2
  .have e:BS.IE sp nm=Co nm IZ:=by unfold BS.IE;rw[Ae h2]
   rw[e] at f d em;subst h2;simp only[abS,↓reduceIte,AP,Fa,(Ip w).Ad,q,k,Dy,s.Ad,Dp,Cw,(aJ8 nm).BV rfl rfl,w1.l0,r2.Ad,g.l0,BK,f.Ad,BW,d.Ad,em,hlen]
  .have e:BS.IE sp nm=nm:=by unfold BS.IE;rw[Ac h2]
   rw[e] at f d em;simp only[abS,↓reduceIte,AP,Fa,(Ip w).Ad,q,k,Dy,s.Ad,h2,w1.l0,r2.Ad,g.l0,BK,f.Ad,BW,Cw,d.Ad,em,hlen]
 .refine⟨h,G,?_,by unfold BS.Em;rw[Ac hs];exact w,.refl⟩;have e:b.Gv nm l sp=Item.zero:=by unfold BS.Gv;rw[Ac hs]
  rw[e,Nf,Af,dY];unfold BS.HV at hs;by_cases h1:sp<0;.simp only[abS,↓reduceIte,AP,(Ip w).Ad,h1,Dp]
  .simp only[abS,↓reduceIte,AP,(Ip w).Ad,h1,Dy,(Ab:7<sp),Dp]
def Bp{k:Nat}{v:Aa}:DA h (Bt bi G) (put h bi k v) (Bt bi G):=⟨by rw[JD];exact Ag _,λi _ hn=>Ck λe=>hn (.inl e),λ_ h=> .inl h⟩
def BX.put{k:Nat}{v o' c' t':Aa}{b':BS}(w:BX h bi a o c t G b)(e:(Jl a b o c t).set k v=Jl a b' o' c' t')(ea:b'.a=b.a)(ho:B1 b'.AY o')(ht:Zr b'.tm t'):BX (Am.put h bi k v) bi a o' c' t' G b':=
 ⟨by rw[If w.hb,e];exact AS w.lt,ho,ht,by rw[ea];exact w.w.Df λi hi=>Ck λe=>w.nb (e▸hi),w.nb⟩
def BX.I8{u:Aa}{l:List Item}(w:BX h bi a o c t G b)(hu:B1 l u):BX (Am.put h bi 2 u) bi a u c t G {b with AY:=l}:=w.put rfl rfl hu w.t
def BX.Lr{u:Aa}{l:List Cs}(w:BX h bi a o c t G b):BX (Am.put h bi 3 u) bi a o u t G {b with A8:=l}:=w.put rfl rfl w.o w.t
def BX.st{k:Nat}{v v0:Aa}(w:BX h bi a o c t G b)(hk:(Jl a b o c t)[k]?=some v0)(hv:v.cells=[v]):Cx h 1 (Pt bi k) v=some (Am.put h bi k v):=At.store (v:=v0) ⟨_,w.hb,hk⟩ hv
variable{nm:Ao}{av:Aa}{l:List A3}{r:List Aa}{sp p:Int}
def aLc(w:BX h bi a o c t G b)(ok:BA b)(rm:B6 b (m+4))(hr:NO nm av r)(hv:Br l av)(hl:DU l)(hn:nm.length<=1000)(sp:Int):
  ∃h' o' G',BH cx 169 [Pt bi 0,.func (.func 85) [Pt bi 0] [],.agg r,I sp] h (I (b.OY sp)) h'/\BX h' bi a o' c t G' (b.EG nm l sp)/\DA h (Bt bi G) h' (Bt bi G'):=by
 obtain⟨s,n⟩:=č w ok rm 0;have w1:=w.IA (u:=s);obtain⟨h2,A,r2,k,i⟩:=uj (m:=m+1) w1 ok (rm.le Ab) hr hv hl hn (b.place 0).1 sp;have FX:=hr;obtain⟨L,K,J,H,E,D,C,B,U7,Xk,rfl⟩:=hr;have ho:=rm.AY;by_cases hs:BS.HV sp
 .have uk:=qo (nm:=nm) (at_:=l) (p:=(b.place 0).1) ok hs;have UD:=I6 (m:=m+1) (nm:=nm) (sp:=sp) (p:=(b.place 0).1) (rm.le Ab) hl;have Ym:(b.Gv nm l sp).node=b.a.len+1:=by unfold BS.Gv;rw[Ae hs]
  have YN:¬(b.a.len+1=0):=by unfold Ar.len;omega
  have NY:(b.Em nm l sp (b.place 0).1).AY=b.AY:=by unfold BS.Em;rw[Ae hs]
  obtain⟨y,z,v,j,q⟩:=nS (x:=b.a.len+1) (p:=(b.place 0).1) (bf:=(b.place 0).2) k uk UD;obtain⟨v4,d,f⟩:=f95 j.sO (by simp only[NY];omega) (b.Gv nm l sp);refine⟨Am.put y bi 2 v4,v4,z,?_,?_,((w.C7.trans i).trans q).trans Bp⟩
  .have g:b.OY sp=b.a.len+1:=by unfold BS.OY;rw[Ae hs]
   rw[Af,VO,g];simp only[abS,Nat.reduceAdd,↓reduceIte,Di,Fa,n.Ad,(AX:(85:Nat)<=99999),r2.Ad,Ym,YN,BW,v.Ad];have e:=@Item.PE (b.Gv nm l sp);rw[Ym] at e;rw[<-e] at d;simp only[e] at d⊢;simp only[d.Ad,BC]
  .have:=j.I8 f;unfold BS.EG;rw[Ae hs];exact this
 .refine⟨h2,o,A,?_,?_,w.C7.trans i⟩
  .have e:b.Gv nm l sp=Item.zero:=by unfold BS.Gv;rw[Ac hs]
   have g:b.OY sp=0:=by unfold BS.OY;rw[Ac hs]
   rw[e,Nf] at r2;rw[Af,VO,g];simp only[abS,Nat.reduceAdd,↓reduceIte,Di,Fa,n.Ad,(AX:(85:Nat)<=99999),r2.Ad,BW,Cw]
  .have:b.EG nm l sp=b.Em nm l sp (b.place 0).1:=by unfold BS.EG BS.Em;rw[Ac hs,Ac hs]
   rw[this];exact k
def aGa(w:BX h bi a o c t G b)(ok:BA b)(rm:B6 b (m+4))(hr:NO nm av r)(hv:Br l av)(hl:DU l)(hn:nm.length<=1000)(sp:Int):
  ∃h' o' G',BH cx 67 [Pt bi 0,.agg r,I sp] h (I (b.OY sp)) h'/\BX h' bi a o' c t G' (b.EG nm l sp)/\DA h (Bt bi G) h' (Bt bi G'):=by
 obtain⟨h',o',G',d,w',x'⟩:=aLc w ok rm hr hv hl hn sp;refine⟨h',o',G',?_,w',x'⟩;obtain⟨q,n,k,j,i,g,f,e,U7,Xk,rfl⟩:=hr;rw[Af,sT,t67];simp only[abS,(Ip w).Ad,d.Ad]
def um(w:BX h bi a o c t G b)(ok:BA b)(rm:B6 b (m+4))(hr:NO nm av r)(hv:Br l av)(hl:DU l)(hn:nm.length<=1000):
  ∃h' o' G',BH cx 65 [Pt bi 0,.agg r] h (I (b.a.len+1)) h'/\BX h' bi a o' c t G' (b.EG nm l 1)/\DA h (Bt bi G) h' (Bt bi G'):=by
 obtain⟨h',o',G',d,w',x'⟩:=aGa w ok rm hr hv hl hn 1;refine⟨h',o',G',?_,w',x'⟩;have e:b.OY 1=b.a.len+1:=by unfold BS.OY;rw[Ae JW]
 rw[e] at d;obtain⟨s,q,n,k,j,i,g,f,U7,Xk,rfl⟩:=hr;rw[Af,sS];simp only[BC,d.Ad]
end
def B4(l:List Cs)(v:Aa):Prop:=∃fs:List Cj,fs.map (·.c)=l/\Dk fs v
def UE{U Z:Type}{f:U->Z}{q:Z->Bool}{l:List U}:AR q (l.map f)=AR (λx=>q (f x)) l:=by unfold AR;rw[<-S9,List.findIdx?_map,Ak];rfl
def tR{U Z:Type}{f:U->Z}{l:List U}{k:Nat}:(Be l k).map f=Be (l.map f) k:=by unfold Be;simp
def ď{fs:List Cj}:since fs=rZ (fs.map (·.c)):=by unfold since rZ;rw[UE];rfl
def Yn{n:Int}{fs:List Cj}:Hw n fs=Ff n (fs.map (·.c)):=by unfold Hw Ff;rw[UE];rfl
def zS{nm:Ao}{fs:List Cj}:NF nm fs=GB nm (fs.map (·.c)):=by
 unfold NF GB;rw[<-S9];generalize fs.reverse=r;induction r with
 |nil=>rfl
 |cons x r ih=>simp only[Bk,wJ,PL,ih,Ak]
def aGb{e:Cs}{fs:List Cj}:Sv e fs=wQ e (fs.map (·.c)).reverse:=by
 unfold Sv;rw[<-S9];generalize fs.reverse=r;induction r with
 |nil=>rfl
 |cons x r ih=>simp only[Bk,zt,wQ,ih]
def aGc{e:Cs}{fs:List Cj}:NG e fs=m0 e (fs.map (·.c)).reverse:=by
 unfold NG;rw[<-S9];generalize fs.reverse=r;induction r with
 |nil=>rfl
 |cons x r ih=>simp only[Bk,rT,m0,ih,Ak]
def nT{e:Cs}{d:Cj}{fs:List Cj}(he:d.c=e):(LF e fs++[d]).map (·.c)=m6 e (fs.map (·.c)):=by
 unfold LF m6;rw[aGb,aGc,BF,aMY,he];split;.rw[tR]
 .rfl
def We{fs:List Cj}:(fs.take (EO fs)).map (·.c)=Gu (fs.map (·.c)):=by unfold Gu EO;rw[Fs,ď]
def zT{l:List Cs}{fs:List Cj}(e:fs.map (·.c)=l)(h:∀x∈l,x.Az.length<=1000):∀x∈fs,Zk x:=by intro x hx;have:=h x.c (by rw[<-e];exact Bj.2 ⟨x,hx,rfl⟩);unfold Zk;omega
section
variable{h h':Ah}{bi a:Nat}{o c t:Aa}{G G' F:Nat->Prop}{b:BS}{x:Int}{m:Nat}
variable{nm:Ao}{av:Aa}{l:List A3}{r:List Aa}{sp p:Int}
def aLd(w:BX h bi a o c t G b)(hc:B4 b.A8 c)(ok:Eu b)(rm:B6 b (m+5))(hr:NO nm av r)(hv:Br l av)(hl:DU l)(hn:nm.length<=1000):
  ∃h' o' c' G',BH cx 68 [Pt bi 0,.agg r] h (I (b.a.len+1)) h'/\BX h' bi a o' c' t G' (b.Kk nm l)/\B4 (b.Kk nm l).A8 c'/\DA h (Bt bi G) h' (Bt bi G'):=by
 obtain⟨h1,j,k,i,w1,g⟩:=um (m:=m+1) w ok (rm.le Ab) hr hv hl hn;obtain⟨fs,d,hf⟩:=hc;have ha:=rm.A8;have Ho:fs.length=b.A8.length:=by rw[<-d,Ak]
 obtain⟨u,n,Qy,r2,hu⟩:=f30 (h:=h1) (id:=bi) (o:=3) (l:=fs) ⟨c,w1.zQ,hf⟩ Ab (zT d λx hx=>((rm.DD x hx).2).1) (e:=⟨⟨b.a.len+1,nm,l⟩,av,hv⟩) (by unfold Zk;have:=hl.1;simp only;omega);refine⟨_,j,u,k,?_,w1.Lr (u:=u),?_,g.trans Bp⟩
 .obtain⟨C,B,A,z,y,v,s,q,U7,Xk,rfl⟩:=hr;have YN:¬(b.a.len+1=0):=by unfold Ar.len;omega
  have f:BH cx 170 [Pt bi 3,.agg [I (b.a.len+1),.str nm,av]] h1 (.tuple []) (put h1 bi 3 u):=r2;have WH:av.cells=[av]:=AU.cells hv;rw[Af,sU];simp only[abS,Nat.reduceLeDiff,↓reduceIte,AP,i.Ad,YN,BW,WH,f.Ad]
 .refine⟨_,?_,hu⟩;rw[nT Qy,d];unfold BS.Kk;simp only;rw[Fh]
end
def aGd:∀x:Fin 64,(BitVec.ofInt 8 192|||BitVec.ofInt 8 (x.val:Int)).toNat=192+x.val:=AX
def aGe:∀x:Fin 32,(BitVec.ofInt 8 224|||BitVec.ofInt 8 (x.val:Int)).toNat=224+x.val:=AX
def aGf:∀x:Fin 16,(BitVec.ofInt 8 240|||BitVec.ofInt 8 (x.val:Int)).toNat=240+x.val:=AX
def aGg:∀x:Fin 64,(BitVec.ofInt 8 128|||BitVec.ofInt 8 (x.val:Int)).toNat=128+x.val:=AX
def aGh:∀x:Fin 256,(BitVec.ofInt 8 (x.val:Int)&&& BitVec.ofInt 8 63).toNat=x.val%64:=AX
def zU{a b:Int}:AE (.int .or) [.int .u8 a,.int .u8 b]=some (.int .u8 (IntKind.u8.wrap (BitVec.ofInt 8 a|||BitVec.ofInt 8 b).toNat)):=rfl
def aCt{a b:Int}:AE (.int .and) [.int .u8 a,.int .u8 b]=some (.int .u8 (IntKind.u8.wrap (BitVec.ofInt 8 a&&& BitVec.ofInt 8 b).toNat)):=rfl
def uo{x:Nat}(h:x<64):AE (.int .or) [.int .u8 192,.int .u8 (x:Int)]=some (.int .u8 ((192+x:Nat):Int)):=by rw[zU,aGd ⟨x,h⟩,IntKind.wrap_u8];congr 2;simp only;omega
def nU{x:Nat}(h:x<32):AE (.int .or) [.int .u8 224,.int .u8 (x:Int)]=some (.int .u8 ((224+x:Nat):Int)):=by rw[zU,aGe ⟨x,h⟩,IntKind.wrap_u8];congr 2;simp only;omega
def uq{x:Nat}(h:x<16):AE (.int .or) [.int .u8 240,.int .u8 (x:Int)]=some (.int .u8 ((240+x:Nat):Int)):=by rw[zU,aGf ⟨x,h⟩,IntKind.wrap_u8];congr 2;simp only;omega
def Ls{x:Nat}(h:x<64):AE (.int .or) [.int .u8 128,.int .u8 (x:Int)]=some (.int .u8 ((128+x:Nat):Int)):=by rw[zU,aGg ⟨x,h⟩,IntKind.wrap_u8];congr 2;simp only;omega
def Lt{x:Nat}(h:x<256):AE (.int .and) [.int .u8 (x:Int),.int .u8 63]=some (.int .u8 ((x%64:Nat):Int)):=by rw[aCt,aGh ⟨x,h⟩,IntKind.wrap_u8];congr 2;simp only;omega
def Wf{n:Nat}:AE (.int .shr) [.int .i32 (n:Int),.int .u64 6]=some (.int .i32 ((n/64:Nat):Int)):=by rw[show AE (.int .shr) [.int .i32 (n:Int),.int .u64 6]=some (.int .i32 ((n:Int).fdiv 64)) from rfl,P2 _ Ab];rfl
def Yo{n:Nat}:AE (.int .shr) [.int .i32 (n:Int),.int .u64 12]=some (.int .i32 ((n/4096:Nat):Int)):=by rw[show AE (.int .shr) [.int .i32 (n:Int),.int .u64 12]=some (.int .i32 ((n:Int).fdiv 4096)) from rfl,P2 _ Ab];rfl
def ur{n:Nat}:AE (.int .shr) [.int .i32 (n:Int),.int .u64 18]=some (.int .i32 ((n/262144:Nat):Int)):=by rw[show AE (.int .shr) [.int .i32 (n:Int),.int .u64 18]=some (.int .i32 ((n:Int).fdiv 262144)) from rfl,P2 _ Ab];rfl
def TP{k:IntKind}{n:Nat}:AE (.conv .u8) [.int k (n:Int)]=some (.int .u8 ((n%256:Nat):Int)):=by rw[Qf,IntKind.wrap_u8];congr 2
def jI{n:Int}:AE (.conv .u32) [.int .i32 n]=some (.int .u32 (n%4294967296)):=by rw[Qf,IntKind.wrap_u32]
def aR{n:Nat}(h:n<256):((UInt8.ofNat n).toNat:Int)=(n:Int):=by rw[UInt8.toNat_ofNat'];congr 1;omega
def xi(b:UInt8):Aa:= .int .u8 (b.toNat:Int)
def KP{h:Ah}{bs:Ao}(hb:bs≠[])(hl:bs.length<=8):F8 h 1 1 .slnil (.sl 1 (Cd bs))=some (h++[.cells (bs.map xi)],.CE h.length 0 bs.length 1):=by
 have Ho:∀bs:Ao,(Cd bs).flatten=bs.map xi:=by
  intro bs;induction bs with
  |nil=>rfl
  |cons c bs ih=>show[xi c]++(Cd bs).flatten=_;rw[ih];rfl
 cases bs with
 |nil=>exact absurd rfl hb
 |cons c bs=>
  have hm:AM=140737488355328:=rfl;have hlen:(Cd (c::bs)).length=(c::bs).length:=by simp[Cd]
  have e:Cd (c::bs)=[.int .u8 c.toNat]::Cd bs:=rfl;have a:GY h 1 (.sl 1 (Cd (c::bs)))=some (Cd (c::bs)):=by simp[GY]
  unfold F8;rw[a,e];simp only
  rw[<-e,Ae (by rw[hlen];omega),Ho,hlen]
def aLe{h:Ah}(r:Int)(hr: -2147483648<=r/\r<=2147483647):BH cx 174 [.slnil,.int .i32 r] h (.CE h.length 0 (HK r).length 1) (h++[.cells ((HK r).map xi)]):=by
 have one:∀{a:Nat} (h1:a<256),AE (.Dh 1) [.int .u8 (a:Int)]=some (.sl 1 (Cd [UInt8.ofNat a])):=by intro a h1;simp only[Cd,Bk,CW,aR h1];rfl
 have YX:∀{a b:Nat} (h1:a<256) (h2:b<256),AE (.Dh 1) [.int .u8 (a:Int),.int .u8 (b:Int)]=some (.sl 1 (Cd [UInt8.ofNat a,UInt8.ofNat b])):=by intro a b h1 h2;simp only[Cd,Bk,CW,aR h1,aR h2];rfl
 have T8:∀{a b c:Nat} (h1:a<256) (h2:b<256) (d:c<256),AE (.Dh 1) [.int .u8 (a:Int),.int .u8 (b:Int),.int .u8 (c:Int)]=some (.sl 1 (Cd [UInt8.ofNat a,UInt8.ofNat b,UInt8.ofNat c])):=by intro a b c h1 h2 d;simp only[Cd,Bk,CW,aR h1,aR h2,aR d];rfl
 have four:∀{a b c f:Nat} (h1:a<256) (h2:b<256) (d:c<256) (i:f<256),AE (.Dh 1) [.int .u8 (a:Int),.int .u8 (b:Int),.int .u8 (c:Int),.int .u8 (f:Int)]=some (.sl 1 (Cd [UInt8.ofNat a,UInt8.ofNat b,UInt8.ofNat c,UInt8.ofNat f])):=by intro a b c f h1 h2 d i;simp only[Cd,Bk,CW,aR h1,aR h2,aR d,aR i];rfl
 have bad:AE (.Dh 1) [.int .u8 239,.int .u8 191,.int .u8 189]=some (.sl 1 (Cd [239,191,189])):=rfl;rw[Af,eV];simp only[BC,jI];by_cases h0:0<=r
 .obtain⟨n,rfl⟩:=IM h0;have em:(n:Int)%4294967296=(n:Int):=Ab;rw[em];by_cases q:n<128
  .have e:HK (n:Int)=[UInt8.ofNat n]:=by unfold HK;rw[Ae Ab];rfl
   have j:n%256=n:=Ab;rw[e];simp only[BC,aC,(Ab:(n:Int)<=127),TP,j,one (Ab:n<256),KP (bs:=[UInt8.ofNat n]) AH AH]
  .have aCu:BH cx 321 [.slnil,.int .i32 (n:Int)] h (.CE h.length 0 (HK (n:Int)).length 1) (h++[.cells ((HK (n:Int)).map xi)]):=by
    rw[Af,V0];simp only[BC,jI,em];by_cases p:n<2048
    .have e:HK (n:Int)=[UInt8.ofNat (192+n/64),UInt8.ofNat (128+n%64)]:=by unfold HK;rw[Ac Ab,Ae Ab];rfl
     rw[e];have a1:n/64%256=n/64:=Ab;have a2:n%256%64=n%64:=Ab;simp only[BC,aC,(Ab:(n:Int)<=2047),Wf,TP,a1,uo (Ab:n/64<64),Lt (Ab:n%256<256),a2,Ls (Ab:n%64<64),YX (Ab:192+n/64<256) (Ab:128+n%64<256),KP (bs:=[UInt8.ofNat (192+n/64),UInt8.ofNat (128+n%64)]) AH AH]
    .by_cases o:n<65536/\¬(55296<=n/\n<57344)
     .have e:HK (n:Int)=[UInt8.ofNat (224+n/4096),UInt8.ofNat (128+n/64%64),UInt8.ofNat (128+n%64)]:=by unfold HK;rw[Ac Ab,Ac Ab,Ae Ab];rfl
      rw[e];have a1:n/4096%256=n/4096:=Ab;have a2:n/64%256%64=n/64%64:=Ab;have a3:n%256%64=n%64:=Ab;have g:=KP (h:=h) (bs:=[UInt8.ofNat (224+n/4096),UInt8.ofNat (128+n/64%64),UInt8.ofNat (128+n%64)]) AH AH;have t3:=T8 (Ab:224+n/4096<256) (Ab:128+n/64%64<256) (Ab:128+n%64<256);by_cases m:n<55296;.simp only[abS,(Ab:¬(n:Int)<=2047),(Ab:(n:Int)<55296),Wf,Yo,TP,a1,nU (Ab:n/4096<32),Lt (Ab:n/64%256<256),a2,Ls (Ab:n/64%64<64),Lt (Ab:n%256<256),a3,Ls (Ab:n%64<64),t3,g]
      .simp only[abS,(Ab:¬(n:Int)<=2047),(Ab:¬(n:Int)<55296),(Ab:(57343:Int)<n),(Ab:(n:Int)<=65535),Wf,Yo,TP,a1,nU (Ab:n/4096<32),Lt (Ab:n/64%256<256),a2,Ls (Ab:n/64%64<64),Lt (Ab:n%256<256),a3,Ls (Ab:n%64<64),t3,g]
     .by_cases l:65536<=n/\n<=1114111
      .have e:HK (n:Int)=[UInt8.ofNat (240+n/262144),UInt8.ofNat (128+n/4096%64),UInt8.ofNat (128+n/64%64),UInt8.ofNat (128+n%64)]:=by unfold HK;rw[Ac Ab,Ac Ab,Ac Ab,Ae Ab];rfl
       rw[e];have a0:n/262144%256=n/262144:=Ab;have a1:n/4096%256%64=n/4096%64:=Ab;have a2:n/64%256%64=n/64%64:=Ab;have a3:n%256%64=n%64:=Ab;have g:=KP (h:=h) (bs:=[UInt8.ofNat (240+n/262144),UInt8.ofNat (128+n/4096%64),UInt8.ofNat (128+n/64%64),UInt8.ofNat (128+n%64)]) AH AH;have t4:=four (Ab:240+n/262144<256) (Ab:128+n/4096%64<256) (Ab:128+n/64%64<256) (Ab:128+n%64<256);simp only[abS,(Ab:¬(n:Int)<=2047),(Ab:¬(n:Int)<55296),(Ab:(57343:Int)<n),(Ab:¬(n:Int)<=65535),(Ab:(65535:Int)<n),(Ab:(n:Int)<=1114111),Wf,Yo,ur,TP,a0,uq (Ab:n/262144<16),Lt (Ab:n/4096%256<256),a1,Ls (Ab:n/4096%64<64),Lt (Ab:n/64%256<256),a2,Ls (Ab:n/64%64<64),Lt (Ab:n%256<256),a3,Ls (Ab:n%64<64),t4,g]
      .have e:HK (n:Int)=[239,191,189]:=by unfold HK;rw[Ac Ab,Ac Ab,Ac Ab,Ac Ab]
       rw[e];have g:=KP (h:=h) (bs:=[239,191,189]) AH AH;by_cases k:n<65536;.simp only[abS,(Ab:¬(n:Int)<=2047),(Ab:¬(n:Int)<55296),(Ab:¬(57343:Int)<n),(Ab:¬(65535:Int)<n),bad,g]
       .simp only[abS,(Ab:¬(n:Int)<=2047),(Ab:¬(n:Int)<55296),(Ab:(57343:Int)<n),(Ab:¬(n:Int)<=65535),(Ab:(65535:Int)<n),(Ab:¬(n:Int)<=1114111),bad,g]
   simp only[abS,(Ab:¬(n:Int)<=127),aCu.Ad]
 .have e:HK r=[239,191,189]:=by unfold HK;rw[Ac Ab,Ac Ab,Ac Ab,Ac Ab]
  have g:=KP (h:=h) (bs:=[239,191,189]) AH AH;have aCu:BH cx 321 [.slnil,.int .i32 r] h (.CE h.length 0 (HK r).length 1) (h++[.cells ((HK r).map xi)]):=by rw[e,Af,V0];simp only[abS,jI,(Ab:¬(r%4294967296)<=2047),(Ab:¬(r%4294967296)<55296),(Ab:(57343:Int)<r%4294967296),(Ab:¬(r%4294967296)<=65535),(Ab:(65535:Int)<r%4294967296),(Ab:¬(r%4294967296)<=1114111),bad,g]
  simp only[abS,(Ab:¬(r%4294967296)<=127),aCu.Ad]
def Yp(r:Int):(HK r).length<=4:=by unfold HK;split<;>(try split)<;>(try split)<;>(try split)<;>simp
def nV{l:List Int}{bf:Int}(hb:bf≠0->bf∈l):∃i,i<=l.length/\(bf=0->i=l.length)/\(bf≠0->B8 (λy=>decide (bf=y)) 0 l=(i:Int))/\TG l bf=if i=0 then none else l[i-1]?:=by
 by_cases h0:bf=0
 .refine⟨l.length,Ag _,λ_=>rfl,λh=>absurd h0 h,?_⟩;unfold TG;rw[Ae h0,KE];split;.rename_i h;rw[D9 Ab]
  .rfl
 .obtain⟨k,j,e,g,d,f⟩:=jH (hb h0);refine⟨k,Ab,λh=>absurd h h0,λ_=>e,?_⟩;unfold TG;rw[Ac h0,d,KE,As,Cp Ab];split;.rename_i h;subst h;simp
  .rw[Ch];rw[Ae Ab]
def jJ{s u:Ao}(h:s.length+u.length<=2000000000):AE (.str .add) [.str s,.str u]=some (.str (s++u)):=by have:s.length+u.length<=9223372036854775807:=Ab;simp[AE,kG,this]
def aS:∀s:Ao,(Cd s).flatten=s.map xi
 |[]=>rfl
 |c::s=>by show[xi c]++(Cd s).flatten=_;rw[aS s];rfl
section
variable{h h':Ah}{bi a:Nat}{o c t:Aa}{G G' F:Nat->Prop}{b:BS}{x:Int}{m:Nat}
variable{nm:Ao}{av:Aa}{l:List A3}{r:List Aa}{sp p:Int}
def jK{k d:Int}{s:Ao}(ok:Eu b)(rm:B6 b (m+1))(hk:k=5\/k=6)(hd:b.a.has d/\(b.a.nd d).kind=1)(hs:s.length<=100000):Eu {b with a:=b.a.add {kind:=k,Cf:=d,data:=s}}/\B6 {b with a:=b.a.add {kind:=k,Cf:=d,data:=s}} m:=
 ⟨ok.I4 (dM ok.ok (by unfold Ar.len;omega) hd hk) TH,rm.IP (k:=1) (Kl (AQ _) hs)⟩
def aLf(w:BX h bi a o c t G b)(ok:Eu b)(rm:B6 b (m+5))(r:Int)(hr: -2147483648<=r/\r<=2147483647):
  ∃h' G',BH cx 69 [Pt bi 0,.int .i32 r] h (.tuple []) h'/\BX h' bi a o c t G' (b.sB r)/\DA h (Bt bi G) h' (Bt bi G'):=by
 obtain⟨f,D⟩:=č w ok rm 0;obtain⟨hp,hbf⟩:=XU ok (t:=0) (.inl rfl);have w1:=w.IA (u:=f);unfold BS.sB;generalize(b.place 0).1=p at*;generalize(b.place 0).2=bf at*;obtain⟨K,V,d,r2,X,_⟩:=Vm w1 ok rm p;have Z:=w1.IA (u:=d);have x2:DA h (Bt bi G) (h++f++d) (Bt bi G):=w.C7.trans w1.C7;unfold BS.LG;by_cases hk:(b.a.nd p).kind=4\/(b.a.nd p).kind=2;rotate_left
 .refine⟨_,G,?_,?_,x2⟩;.have k4:¬(b.a.nd p).kind=4:=λe=>hk (.inl e);have k2:¬(b.a.nd p).kind=2:=λe=>hk (.inr e);rw[Af,TK];simp only[abS,(Ip w).Ad,D.Ad,r2.Ad,BW,k4,k2]
  .rw[Ac hk];exact Z
 rw[Ae hk];obtain⟨i,hi,tL,U8,hpv⟩:=nV (l:=(b.a.nd p).A6) (bf:=bf) (λh=>by have:=hbf h;have h2:=(ok.ok.FL bf this.1 (by rw[this.2];have:=hp.1;omega)).2;rwa [this.2] at h2);rw[hpv];have P7:=rm.Vd.A6 ok.ok p;have H:=aCn (h:=h++f++d) (x:=bf) X.Rx P7;have g:=aLe (h:=h++f++d) r hr;have j8:=Yp r;generalize hs:HK r=s at*;have f3:Kw (h++f++d++[.cells (s.map xi)]) (.CE (h++f++d).length 0 s.length 1)=some (h++f++d++[.CO],.sl 1 (Cd s)):=by have Ho:=aS s;have:=J0 (h:=h++f++d++[.cells (s.map xi)]) (id:=(h++f++d).length) (z:=1) (AD:=Cd s) (by intro q hq;obtain⟨y,_,rfl⟩:=Bj.1 hq;rfl) (by rw[Ho];simp);rw[show(Cd s).length=s.length by simp[Cd]] at this;rw[this];congr 2;rw[BM _ _ (Ag _),C6];rfl
 have b3:AE .Wh [.sl 1 (Cd s)]=some (.str s):=by simp[AE,Wj,Rn]
 have A:=Z.IA (u:=[.CO]);have x3:DA h (Bt bi G) (h++f++d++[.CO]) (Bt bi G):=x2.trans Z.C7;have jL:=ok.ok.Cf p hp;have new:∀h3,(∃u,h3=h++f++d++[.CO]++u)->∃h' J G',BH cx 176 [Pt a 0,I (b.a.nd p).Cf,.str s] h3 (.tuple [I (b.a.len+1),I 0]) J/\BH cx 159 [Pt bi 0,I (b.a.len+1),I p,I bf] J (.tuple []) h'/\BX h' bi a o c t G' {b with a:=(b.a.add {kind:=5,Cf:=(b.a.nd p).Cf,data:=s}).Et (b.a.len+1) p bf}/\DA h (Bt bi G) h' (Bt bi G'):=by
  rintro _ ⟨u,rfl⟩;have w4:=A.IA (u:=u);obtain⟨J,G4,⟨C,_⟩,w5,x5⟩:=w4.step (A':=b.a.add (Ms 5 (b.a.nd p).Cf s).x) (R:=λh'=>BH cx 176 [Pt a 0,I (b.a.nd p).Cf,.str s] (h++f++d++[.CO]++u) (.tuple [I (b.a.len+1),I 0]) h'/\True) (λn m ps S=>by obtain⟨h',r,wp,o1,l1⟩:=aKS (s:=s) S rm.Vd (by have:=rm.n;unfold Ar.len;omega) jL;exact⟨h',_,_,_,⟨r,trivial⟩,wp,S.Qu rfl o1 l1⟩)
  obtain⟨ok5,rm5⟩:=jK (m:=m) (k:=5) (s:=s) ok (rm.le Ab) (.inl rfl) jL Ab;obtain⟨h',G',B,N,L⟩:=nS (x:=b.a.len+1) (p:=p) (bf:=bf) w5 ok5.ba rm5;exact⟨h',J,G',C,B,N,(x3.trans A.C7).trans (x5.trans L)⟩
 have kl:=(X.Rx (h:=h++f++d)).len;have OH:i<=1000000000:=Ab;by_cases hz:i=0
 .subst hz;obtain⟨h',J,G',C,B,N,L⟩:=new (h++f++d++[.CO]) ⟨[],AH⟩;simp only[↓reduceIte];refine⟨h',G',?_,N,L⟩;rw[Af,TK];rcases hk with hk|hk<;>by_cases h0:bf=0
  all_goals first|(rw[<-tL h0] at kl;simp only[abS,(Ip w).Ad,D.Ad,r2.Ad,hk,BW,Cw,(AX:¬(2:Int)=4),kl,AW h0,g.Ad,f3,b3,(AX:¬(0:Int)<((0:Nat):Int)),A.l0,C.Ad,Cw,B.Ad];done)|(rw[U8 h0] at H;simp only[abS,(Ip w).Ad,D.Ad,r2.Ad,hk,BW,Cw,(AX:¬(2:Int)=4),kl,h0,g.Ad,f3,b3,(AX:¬(0:Int)<((0:Nat):Int)),A.l0,C.Ad,Cw,B.Ad,H.Ad])
 .obtain⟨j,rfl⟩:∃j,i=j+1:=⟨i-1,Ab⟩;have hj:j<(b.a.nd p).A6.length:=Ab;rw[Ac hz,E9,Ai hj];simp only
  have ht:=ok.ok.MK p hp _ (AL hj);obtain⟨q,Q,Y⟩:=(X.Rx (h:=h++f++d++[.CO])).at_ j hj;obtain⟨K7,V7,T,W,_,_⟩:=Vm A ok rm (b.a.nd p).A6[j];have M:=A.IA (u:=T);obtain⟨q',P,O⟩:=(X.Rx (h:=h++f++d++[.CO]++T)).at_ j hj;rw[Q,Bz] at P;subst P;have U:AE (.int .sub) [I ((j+1:Nat):Int),I 1]=some (I (j:Int)):=by have:=Ie (n:=j+1) Ab Ab;simpa using this
  generalize hte:(b.a.nd p).A6[j]=v at*;by_cases E:(b.a.nd v).kind=5
  .rw[Ae E];have o9:=rm.data v;obtain⟨h8,G8,⟨r8,_⟩,w8,x8⟩:=M.step (A':=b.a.SD v ((b.a.nd v).data++s)) (R:=λh'=>BH cx 175 [Pt a 0,I v,.str ((b.a.nd v).data++s)] (h++f++d++[.CO]++T) (I 0) h'/\True) (λn m ps S=>by obtain⟨h',IN,r,wp,xp⟩:=aKT (s:=(b.a.nd v).data++s) S rm.Vd ht.1 E;exact⟨h',n,m,IN,⟨r,trivial⟩,wp,xp⟩)
   refine⟨h8,G8,?_,w8,(x3.trans A.C7).trans x8⟩;rw[Af,TK];rcases hk with hk|hk<;>by_cases h0:bf=0
   all_goals first|(rw[<-tL h0] at kl;simp only[abS,(Ip w).Ad,D.Ad,r2.Ad,hk,BW,Cw,(AX:¬(2:Int)=4),kl,AW h0,g.Ad,f3,b3,(Ab:(0:Int)<((j+1:Nat):Int)),U,Q,Y,W.Ad,E,M.l0,O,jJ (Ab:(b.a.nd v).data.length+s.length<=2000000000),Cw,r8.Ad];done)|(rw[U8 h0] at H;simp only[abS,(Ip w).Ad,D.Ad,r2.Ad,hk,BW,Cw,(AX:¬(2:Int)=4),kl,h0,g.Ad,f3,b3,(Ab:(0:Int)<((j+1:Nat):Int)),U,Q,Y,W.Ad,E,M.l0,O,jJ (Ab:(b.a.nd v).data.length+s.length<=2000000000),Cw,r8.Ad,H.Ad])
  .rw[Ac E];obtain⟨h',J,G',C,B,N,L⟩:=new _ ⟨T,rfl⟩;refine⟨h',G',?_,N,L⟩;rw[Af,TK];rcases hk with hk|hk<;>by_cases h0:bf=0
   all_goals first|(rw[<-tL h0] at kl;simp only[abS,(Ip w).Ad,D.Ad,r2.Ad,hk,BW,Cw,(AX:¬(2:Int)=4),kl,AW h0,g.Ad,f3,b3,(Ab:(0:Int)<((j+1:Nat):Int)),U,Q,Y,W.Ad,E,M.l0,C.Ad,Cw,B.Ad];done)|(rw[U8 h0] at H;simp only[abS,(Ip w).Ad,D.Ad,r2.Ad,hk,BW,Cw,(AX:¬(2:Int)=4),kl,h0,g.Ad,f3,b3,(Ab:(0:Int)<((j+1:Nat):Int)),U,Q,Y,W.Ad,E,M.l0,C.Ad,Cw,B.Ad,H.Ad])
def Mt{s:Ao}{p bf x:Int}{h0 h1:Ah}(hstart:(¬x=0/\p=x/\bf=0/\h1=h0)\/(x=0/\BH cx 171 [Pt bi 0,I 0] h0 (.tuple [I p,I bf]) h1))
  (w0:BX h0 bi a o c t G b) (i:DA h0 (Bt bi G) h1 (Bt bi G)) (w:BX h1 bi a o c t G b) (ok:Eu b) (rm:B6 b (m+1)) (hs:s.length<=100000):
  ∃h' G',BH cx 70 [Pt bi 0,.str s,I x] h0 (.tuple []) h'/\BX h' bi a o c t G' {b with a:=BS.E0 b.a s p bf}/\DA h0 (Bt bi G) h' (Bt bi G'):=by
 obtain⟨K,V,q,r2,L,_⟩:=Vm w ok rm p;have d:=w.IA (u:=q);unfold BS.E0;by_cases hk:Ll (b.a.nd p).kind
 .rw[Ae hk];have hp:b.a.has p:=by
   by_cases hp:b.a.has p;.exact hp
   .rw[HE hp] at hk;unfold Ll at hk;simp at hk
  have jL:=ok.ok.Cf p hp;obtain⟨M,N,⟨y,_⟩,H,D⟩:=d.step (A':=b.a.add (Ms 6 (b.a.nd p).Cf s).x) (R:=λh'=>BH cx 177 [Pt a 0,I (b.a.nd p).Cf,.str s] (h1++q) (.tuple [I (b.a.len+1),I 0]) h'/\True) (λn m ps j=>by obtain⟨h',r,wp,J,l1⟩:=aFK (s:=s) j rm.Vd (by have:=rm.n;unfold Ar.len;omega) jL;exact⟨h',_,_,_,⟨r,trivial⟩,wp,j.Qu rfl J l1⟩)
  obtain⟨g,e⟩:=jK (m:=m) (k:=6) (s:=s) ok rm (.inr rfl) jL hs;obtain⟨h',G',v,E,C⟩:=nS (x:=b.a.len+1) (p:=p) (bf:=bf) H g.ba e;refine⟨h',G',?_,E,(i.trans w.C7).trans (D.trans C)⟩;rw[Af,dS];rcases hstart with⟨hx,rfl,rfl,rfl⟩|⟨hx,f⟩
  .rcases hk with hk|hk|hk<;>simp only[abS,(Ip w0).Ad,r2.Ad,hk,BW,Cw,(AX:¬(2:Int)=1),(AX:¬(4:Int)=1),(AX:¬(4:Int)=2),d.l0,y.Ad,v.Ad,hx]
  .rcases hk with hk|hk|hk<;>simp only[abS,(Ip w0).Ad,r2.Ad,hk,BW,Cw,(AX:¬(2:Int)=1),(AX:¬(4:Int)=1),(AX:¬(4:Int)=2),d.l0,y.Ad,v.Ad,AW hx,f.Ad]
 .rw[Ac hk];refine⟨_,G,?_,d,i.trans w.C7⟩;unfold Ll at hk;have B:¬(b.a.nd p).kind=1:=Ab;have A:¬(b.a.nd p).kind=2:=Ab;have z:¬(b.a.nd p).kind=4:=Ab;rw[Af,dS];rcases hstart with⟨hx,rfl,rfl,rfl⟩|⟨hx,f⟩
  .simp only[abS,(Ip w0).Ad,r2.Ad,BW,B,A,z,hx]
  .simp only[abS,(Ip w0).Ad,r2.Ad,BW,B,A,z,AW hx,f.Ad]
def aGj(w:BX h bi a o c t G b)(ok:Eu b)(rm:B6 b (m+1))(s:Ao)(hs:s.length<=100000)(x:Int):
  ∃h' G',BH cx 70 [Pt bi 0,.str s,I x] h (.tuple []) h'/\BX h' bi a o c t G' (b.FZ s x)/\DA h (Bt bi G) h' (Bt bi G'):=by
 unfold BS.FZ;by_cases h0:x=0;.rw[Ae h0];obtain⟨d,e⟩:=č w ok rm 0;exact Mt (p:=(b.place 0).1) (bf:=(b.place 0).2) (.inr ⟨h0,e⟩) w w.C7 (w.IA (u:=d)) ok rm hs
 .rw[Ac h0];exact Mt (p:=x) (bf:=0) (.inl ⟨h0,rfl,rfl,rfl⟩) w .refl w ok rm hs
def aLi(w:BX h bi a o c t G b)(ok:BA b)(rm:B6 b (m+4))(hr:NO nm av r)(hv:Br l av)(hl:DU l)(hn:nm.length<=1000)(st:Int):
  ∃h' o' G',BH cx 71 [Pt bi 0,.agg r,I st] h (.tuple []) h'/\BX h' bi a o' c t G' (b.Qm nm l st)/\DA h (Bt bi G) h' (Bt bi G'):=by
 obtain⟨h1,d,e,u,w1,i⟩:=um w ok rm hr hv hl hn;have s:=w1.st (k:=18) (v:= I st) rfl rfl;have g:BX (put h1 bi 18 (I st)) bi a d c t e {b.EG nm l 1 with sw:=st}:=w1.put rfl rfl w1.o w1.t;have q:=g.st (k:=5) (v:= I (b.EG nm l 1).mode) rfl rfl;have f:BX (put (put h1 bi 18 (I st)) bi 5 (I (b.EG nm l 1).mode)) bi a d c t e {b.EG nm l 1 with sw:=st,SB:=(b.EG nm l 1).mode}:=g.put rfl rfl w1.o w1.t;have n:=f.st (k:=4) (v:=I 8) rfl rfl;have j:BX (put (put (put h1 bi 18 (I st)) bi 5 (I (b.EG nm l 1).mode)) bi 4 (I 8)) bi a d c t e (b.Qm nm l st):=f.put rfl rfl w1.o w1.t;refine⟨_,d,e,?_,j,((i.trans Bp).trans Bp).trans Bp⟩;obtain⟨H,E,D,C,B,A,z,y,U7,Xk,rfl⟩:=hr;rw[Af,sV];simp only[BC,(Ip w).Ad,u.Ad,w1.l4,s,q,n]
def aLj(w:BX h bi a o c t G b)(rm:B6 b m):
  ∃h' o',BH cx 72 [Pt bi 0] h (.tuple []) h'/\BX h' bi a o' c t G b.JQ/\DA h (Bt bi G) h' (Bt bi G):=by
 have ho:=rm.AY;have d:=aKh w.sA (Ab:b.AY.length<=1000000000) 3 (v:= .sl 1 ([wP].map BZ)) (ws:=[wP]) C0 AX;have em:AE (.Dh 1) [S [112]]=some (.sl 1 ([wP].map BZ)):=DF (ws:=[wP]) rfl AX;unfold BS.JQ;by_cases hs:J7 (By [wP]) (JN 3) b.AY.reverse=true;.rw[Ae hs];rw[hs] at d;obtain⟨g,r2,OU⟩:=aFw w.sO Ab wP;have w1:=w.I8 OU;have Ej:=Qk (b:=Es wP) (a:=CX) (l:=b.AY);obtain⟨e,f,Jr⟩:=f66 w1.sO Dq (w:= .sl 1 ([wP].map BZ)) (ws:=[wP]) C0 AX;refine⟨_,e,?_,w1.I8 Jr,Bp.trans Bp⟩;rw[Af,dU];simp only[BC,(Ip w).Ad,em,d.Ad,r2.Ad,f.Ad]
 .rw[Ac hs];rw[show J7 (By [wP]) (JN 3) b.AY.reverse=false by simpa using hs] at d;refine⟨h,o,?_,w,.refl⟩;rw[Af,dU];simp only[BC,(Ip w).Ad,em,d.Ad]
end
section
variable{h h':Ah}{bi a:Nat}{o c t:Aa}{G G' F:Nat->Prop}{b:BS}{x:Int}{m:Nat}
variable{nm:Ao}{av:Aa}{l:List A3}{r:List Aa}{sp p:Int}
def SP{U:Type}{l:List U}{n:Nat}(hn:n<l.length):(l.take (n+1)).reverse=l[n]::(l.take n).reverse:=by rw[AB hn,Iq];rfl
def aGk(w:BX h bi a o c t G b)(rm:B6 b m)(nm:Ao):
  ∃h' o',BH cx 74 [Pt bi 0,.str nm] h (.tuple []) h'/\BX h' bi a o' c t G (b.Dl nm)/\DA h (Bt bi G) h' (Bt bi G):=by
 have ho:=rm.AY;have Ji:Ev cx 74 [Pt bi 0,.str nm] h λr h'=>r= .tuple []/\∃o',BX h' bi a o' c t G (b.Dl nm)/\DA h (Bt bi G) h' (Bt bi G):=by
  unfold Ev;rw[sX];simp only[abS,(Ip w).Ad,(Vg w.sA).Ad,C3 (Ab: -9223372036854775808<=(b.AY.length:Int)-1) (Ab:(b.AY.length:Int)-1<9223372036854775808)];refine Bf (λn:Nat=>[I ((n:Int)-1)]) (λn h1=>n<=b.AY.length/\(b.AY.reverse.find? λi=>By [nm] i||GS i)=((b.AY.take n).reverse.find? λi=>By [nm] i||GS i)/\h1=h) (λn=>n) b.AY.length rfl ⟨Ag _,by rw[Bv],rfl⟩ ?_;rintro n h1 ⟨hn,ha,rfl⟩;cases n with
  |zero=>
   have e:b.Dl nm=b:=by unfold BS.Dl;rw[ha];rfl
   simp only[abS,(Ab:¬(0:Int)<=((0:Nat):Int)-1)];exact⟨_,rfl,rfl,o,by rw[e];exact w,.refl⟩
  |succ n=>
   have hlt:n<b.AY.length:=Ab;have i1:((n+1:Nat):Int)-1=(n:Int):=Ab;have j:=Yc w.sA (n:Int);rw[H8 hlt] at j;have em:AE (.Dh 1) [.str nm]=some (.sl 1 ([nm].map BZ)):=DF (ws:=[nm]) rfl AH;have r2:=tQ (ws:=[nm]) C0 AH b.AY[n] h1;rw[SP hlt,GG] at ha;generalize hi:b.AY[n]=i at*;rw[Item.row] at r2;simp only[abS,Fa,i1,(Ab:(0:Int)<=(n:Int)),j.Ad,em];have f:BH cx 162 [.agg i.row,.sl 1 ([nm].map BZ)] h1 (.bool (By [nm] i)) h1:=r2;rw[f.Ad,NB,Cu];refine⟨λh2=>?_,λh2=>?_⟩
   .obtain⟨u,s,OU⟩:=aFw w.sO Ab nm;have w1:=w.I8 OU;have Ej:=Qk (b:=Es nm) (a:=CX) (l:=b.AY);obtain⟨k,q,Jr⟩:=aFx w1.sO Dq i.node;simp only[BC,s.Ad,q.Ad];refine⟨_,rfl,rfl,k,?_,Bp.trans Bp⟩;have e:b.Dl nm={b with AY:=GU i.node (DO (Es nm) CX b.AY)}:=by unfold BS.Dl;rw[ha];simp only[h2,Jn,BL]
    rw[e];exact w1.I8 Jr
   .simp only[h2,EV] at ha;simp only[(aFj i.A7 i.name).BV rfl rfl];rw[NB,Cu];refine⟨λg=>?_,λg=>?_⟩
    .have d:GS i=true:=g;rw[d] at ha;have e:b.Dl nm=b:=by unfold BS.Dl;rw[ha];simp only[h2,Cy,Ea]
     simp only[BC];exact⟨_,rfl,rfl,o,by rw[e];exact w,.refl⟩
    .have d:GS i=false:=g;rw[d] at ha;simp only[BC,C3 (Ab: -9223372036854775808<=(n:Int)-1) (Ab:(n:Int)-1<9223372036854775808)];exact AK.next n rfl ⟨Ab,ha,rfl⟩ Ab
 obtain⟨r,h',hr,rfl,o',w',x'⟩:=Ji.ret;exact⟨h',o',hr,w',x'⟩
def aGl(w:BX h bi a o c t G b)(rm:B6 b m){k:Nat}(hk:k<=b.AY.length):BH cx 338 [Pt bi 0,I (k:Int)] h (I (BS.JE (b.AY.take k))) h:=by
 have ho:=rm.AY;rw[Af,iA];simp only[BC,C3 (Ab: -9223372036854775808<=(k:Int)-1) (Ab:(k:Int)-1<9223372036854775808)];refine Bf (λn:Nat=>[I 0,I ((n:Int)-1)]) (λn h1=>n<=k/\((b.AY.take k).reverse.find? λi=>By [Bc] i||By [E8] i)=((b.AY.take n).reverse.find? λi=>By [Bc] i||By [E8] i)/\h1=h) (λn=>n) k rfl ⟨Ag _,rfl,rfl⟩ ?_;rintro n h1 ⟨hn,ha,rfl⟩;cases n with
 |zero=>simp only[abS,(Ab:¬(0:Int)<=((0:Nat):Int)-1)];unfold BS.JE;rw[ha];rfl
 |succ n=>
  have hlt:n<b.AY.length:=Ab;have i1:((n+1:Nat):Int)-1=(n:Int):=Ab;have f:=Yc w.sA (n:Int);rw[H8 hlt] at f;have e:AE (.Dh 1) [S Bc]=some (.sl 1 ([Bc].map BZ)):=DF (ws:=[Bc]) rfl AX;have gl:AE (.Dh 1) [S E8]=some (.sl 1 ([E8].map BZ)):=DF (ws:=[E8]) rfl AX;have r2:=tQ (ws:=[Bc]) C0 AX b.AY[n] h1;have g:=tQ (ws:=[E8]) C0 AX b.AY[n] h1;rw[SP hlt,GG] at ha;simp only[abS,i1,(Ab:(0:Int)<=(n:Int)),f.Ad,e,r2.Ad,gl,g.Ad,C3 (Ab: -9223372036854775808<=(n:Int)-1) (Ab:(n:Int)-1<9223372036854775808)];rw[Cu];refine⟨λh2=>?_,λh2=>?_⟩;.simp only[h2,Jn] at ha;unfold BS.JE;rw[ha];simp only[h2,BL]
  .simp only[h2,EV] at ha;rw[Cu];refine⟨λd=>?_,λd=>?_⟩;.rw[d] at ha;unfold BS.JE;rw[ha];simp only[h2,Cy,Ea]
   .rw[d] at ha;exact AK.next n rfl ⟨Ab,ha,rfl⟩ Ab
def tS(r:Ao×Int):List Aa:=[.str r.1,I r.2]
def jM{z:Nat}{AD:List (List Aa)}{args:List Aa}(e:args=AD.map Aa.agg)(hz:∀r∈AD,r.length=z)(hl:AD.length*z<=16777216):AE (.Dh z) args=some (.sl z AD):=by
 subst e;have f:(AD.map Aa.agg).all (λa=>a.cells.length==z)=true:=by simp[Aa.cells];exact hz
 have d:(AD.map Aa.agg).map (·.cells)=AD:=by rw[List.map_map];exact List.map_id _
 rw[wE,f,d];simp[hl]
def uv{args:List Aa}(e:args=(Jy.map tS).map Aa.agg):AE (.Dh 2) args=some (.sl 2 (Jy.map tS)):=jM e (λr hr=>by obtain⟨x,_,rfl⟩:=Bj.1 hr;rfl) AX
def aGm:BH cx 337 [] h (.sl 2 (Jy.map tS)) h:=by rw[Af,hZ];simp only[abS,Nat.reduceLeDiff,↓reduceIte,AP];exact(Cb (λz=>Z6 z λv=>[v]=[Aa.sl 2 (Jy.map tS)]) (uv rfl)).mpr (by rw[Mi])
def Qv{s:Ao}{i:Item}:By [s] i=decide (i.A7=1/\i.name=s):=by unfold By;simp
def gm{i:Item}{k:Nat}:b.Hg i k=match Jy.find? λr=>By [r.1] i with
  |some r=>some r.2
  |none=>if By [K6] i then some (BS.JE (b.AY.take k)) else if By [ql,qm] i&&decide (0<k) then some 15 else if By [Bc] i then some (b.tm.getLast?.getD 7) else if By [QV] i&&decide (0<k) then some 4 else if By [Dz] i then some (if b.head=0 then 3 else 6) else if k=0 then some 7 else none:=by
 unfold BS.Hg;by_cases hs:i.A7=1
 .rw[Ae hs];have e:(λr:Ao×Int=>By [r.1] i)=λr=>decide (r.1=i.name):=by funext r;rw[Qv,C5];exact⟨λh=>h.2.symm,λh=>⟨hs,h.symm⟩⟩
  rw[e];cases hf:Jy.find? λr=>decide (r.1=i.name) with
  |some r=>rfl
  |none=>simp only[By,hs,MD,AT,S8,aH1,Bq,Cz]
 .rw[Ac hs];have e:(λr:Ao×Int=>By [r.1] i)=λ_=>false:=by funext r;rw[Qv,Ay (λh=>hs h.1)]
  rw[e];have d:Jy.find? (λ_=>false)=none:=AX;rw[d];simp only[By,hs,YU,Dy,Cy,Ea,xb]
def aGn(w:BX h bi a o c t G b)(rm:B6 b m)(i:Item){k:Nat}(hk:k<=b.AY.length):BH cx 190 [Pt bi 0,.agg i.row,I (k:Int)] h (.tuple [I ((b.Hg i k).getD 7),.bool (b.Hg i k).isSome]) h:=by
 have ho:=rm.AY;have R:=rm.tm;have vN:AU 2 (Jy.map tS) (.sl 2 (Jy.map tS)):= .mk;have C:=λws hw=>tQ (ws:=ws) C0 hw i h;rw[gm,Af,fI];have hlen:Jy.length=9:=rfl;have Q:=vN.CL;rw[hlen] at Q;simp only[BC,↓reduceIte,Fa,aGm.Ad,Q];refine Bf (λn:Nat=>[I 0,ff,I (n:Int)]) (λn h1=>n<=9/\(Jy.find? λr=>By [r.1] i)=((Jy.drop n).find? λr=>By [r.1] i)/\h1=h) (λn=>9 -n) 0 rfl ⟨AQ _,rfl,rfl⟩ ?_;rintro n h1 ⟨hn,ha,rfl⟩;rcases AN n 9 with hlt|D6
 .have SN:n<Jy.length:=hlt;have em:AE (.Dh 1) [.str Jy[n].1]=some (.sl 1 ([Jy[n].1].map BZ)):=DF (ws:=[Jy[n].1]) rfl AH;rw[AF SN,GG] at ha;simp only[BC,Nat.reduceLeDiff,↓reduceIte,aC,(Ab:(n:Int)<((9:Nat):Int)),vN.BJ SN,tS,em,(C [Jy[n].1] AH).Ad,BI (Ab:n<9223372036854775807)];rw[Cu];refine⟨λh2=>?_,λh2=>?_⟩;.rw[h2] at ha;rw[ha];simp
  .rw[h2] at ha;exact AK.next (n+1) rfl ⟨hlt,ha,rfl⟩ Ab
 .have T:n=9:=by omega
  subst T;have ha:(Jy.find? λr=>By [r.1] i)=none:=ha;rw[ha];have q:AE (.Dh 1) [S aTz]=some (.sl 1 ([K6].map BZ)):=DF (ws:=[K6]) rfl AX;have s:AE (.Dh 1) [S [116,100],S [116,104]]=some (.sl 1 ([ql,qm].map BZ)):=DF (ws:=[ql,qm]) rfl AX;have u:AE (.Dh 1) [S aSz]=some (.sl 1 ([Bc].map BZ)):=DF (ws:=[Bc]) rfl AX;have J:AE (.Dh 1) [S aTv]=some (.sl 1 ([QV].map BZ)):=DF (ws:=[QV]) rfl AX;have L:AE (.Dh 1) [S aSC]=some (.sl 1 ([Dz].map BZ)):=DF (ws:=[Dz]) rfl AX;have f:=C [K6] AX;have d:=C [ql,qm] AX;have g:=C [Bc] AX;have y:=C [QV] AX;have B:=C [Dz] AX;have rs:=aGl w rm hk;have lt:=(w.t.1.Rx (h:=h1));have j:¬((9:Nat):Int)<((9:Nat):Int):=AX;have l6:=w.l6;have H:b.tm≠[]->∃p,AE (.int .sub) [I (b.tm.length:Int),I 1]=some (I ((b.tm.length-1:Nat):Int))/\AE (.E2 1) [t,I ((b.tm.length-1:Nat):Int)]=some p/\Bd h1 none p=some (I (b.tm.getLast?.getD 7)):=by intro hne;have hpos:=EC.2 hne;obtain⟨p,E,D⟩:=lt.at_ (b.tm.length-1) Ab;refine⟨p,Ie hpos Ab,E,?_⟩;rw[D,KE,Ai Ab];rfl
  by_cases g1:By [K6] i=true;.rw[g1] at f;simp only[abS,↓reduceIte,j,q,f.Ad,rs.Ad,g1,Hm,j7]
  .have g1:By [K6] i=false:=by simpa using g1
   rw[g1] at f;by_cases A:0<k
   .have N:¬k=0:=by omega
    have z:¬(k:Int)=0:=Ab;have v:(0:Int)<(k:Int):=Ab;cases g2:By [ql,qm] i<;>rw[g2] at d;rotate_left;.simp only[BC,↓reduceIte,j,q,f.Ad,s,d.Ad,A,v,g1,Jk]
    cases g3:By [Bc] i<;>rw[g3] at g;rotate_left
    .by_cases ht:b.tm=[];.simp only[BC,↓reduceIte,j,q,f.Ad,s,d.Ad,u,g.Ad,A,v,g1,Jk,l6,lt.len,ht,Int.natCast_zero,Ķ,oW]
     .obtain⟨p,E,D,M⟩:=H ht;have Gg:¬b.tm.length=0:=λe=>ht (LP.1 e);simp only[BC,↓reduceIte,j,q,f.Ad,s,d.Ad,u,g.Ad,A,v,g1,Jk,l6,lt.len,(Ab:(0:Int)<(b.tm.length:Int)),E,D,M]
    cases P:By [QV] i<;>rw[P] at y;rotate_left;.simp only[BC,↓reduceIte,j,q,f.Ad,s,d.Ad,u,g.Ad,J,y.Ad,A,v,g1,Jk]
    all_goals cases O:By [Dz] i<;>rw[O] at B
    all_goals first
     |simp only[BC,↓reduceIte,j,q,f.Ad,s,d.Ad,u,g.Ad,J,y.Ad,L,B.Ad,A,N,z,v,g1,Jk];done
     |by_cases K:b.head=0
      .simp only[BC,↓reduceIte,j,q,f.Ad,s,d.Ad,u,g.Ad,J,y.Ad,L,B.Ad,A,z,v,g1,Jk,w.l7,K]
      .simp only[BC,↓reduceIte,j,q,f.Ad,s,d.Ad,u,g.Ad,J,y.Ad,L,B.Ad,A,z,v,g1,Jk,w.l7,K]
   .have N:k=0:=by omega
    subst N;have v:¬(0:Int)<((0:Nat):Int):=AX;have z:((0:Nat):Int)=0:=rfl;by_cases g3:By [Bc] i=true
    .rw[g3] at g;cases g2:By [ql,qm] i<;>rw[g2] at d<;>by_cases ht:b.tm=[];all_goals first
      |simp only[BC,↓reduceIte,j,q,f.Ad,s,d.Ad,u,g.Ad,z,g1,g3,Jk,l6,lt.len,ht,Ķ,oW,Dr];done
      |obtain⟨p,E,D,M⟩:=H ht
       have Gg:¬b.tm.length=0:=λe=>ht (LP.1 e);simp only[BC,↓reduceIte,j,q,f.Ad,s,d.Ad,u,g.Ad,z,g1,g3,Jk,l6,lt.len,(Ab:(0:Int)<(b.tm.length:Int)),E,D,M,Dr]
    .have g3:By [Bc] i=false:=by simpa using g3
     rw[g3] at g;cases g2:By [ql,qm] i<;>rw[g2] at d<;>cases P:By [QV] i<;>rw[P] at y<;>cases O:By [Dz] i<;>rw[O] at B<;>by_cases K:b.head=0;all_goals simp only[BC,↓reduceIte,j,q,f.Ad,s,d.Ad,u,g.Ad,J,y.Ad,L,B.Ad,z,g1,g3,Jk,w.l7,K,Dr]
end
end Go.Am
end
