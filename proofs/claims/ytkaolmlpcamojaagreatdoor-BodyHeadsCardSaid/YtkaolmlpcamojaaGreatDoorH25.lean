/- Lemmas -/
import Derived.Test.YtkaolmlpcamojaaGreatDoorH24
set_option linter.all false
set_option maxHeartbeats 0
set_option maxRecDepth 100000
section
namespace Go.Am
open Go
section
variable{h h':Ai}{a n:Nat}{m:Option Nat}{ps:List PN}{A:Ar}{x:Int}{F:Nat->Prop}
def PA.pw(w:PA h a n m ps A):PW h (λi=>i∈Gt a n m ps) a A:=⟨n,m,ps,w,λ_=>aFo⟩
def NS.add{y:EW}(b:NS A)(h1:A.len+1<=1000000000)(h2:y.Av.length<=1000000000)(c:y.data.length<=1000000000):NS (A.add y):=by
 refine⟨?_,λx=>?_,λx=>?_⟩;.unfold Ar.len at h1;simp[Ar.add];omega
 .rw[IU];split;.exact h2
  .exact b.at_ x
 .rw[IU];split;.exact c
  .exact b.data x
def NS.set{y:EW}(b:NS A)(h2:y.Av.length<=1000000000)(c:y.data.length<=1000000000):NS (A.set x y):=by
 refine⟨by rw[JE];exact b.n,λx=>?_,λx=>?_⟩<;>rw[J2]<;>split;.exact h2
 .exact b.at_ x
 .exact c
 .exact b.data x
def aAl{x y:EW}:(A.add x).set (A.len+1) y=A.add y:=by unfold Ar.set;rw[Af (DP.2 (.inr rfl))];unfold Ar.add Ar.len;have e:((A.n.length:Int)+1).toNat-1=A.n.length:=Ac;simp only[e];rw[BH _ _ (Ag _),C5];rfl
def fq{p:PN}(w:PA h a n m ps A)(hx:A.has x)(hk:HY p.kv=HY (pN ps x).kv):Gt a n m (ps.set (x.toNat-1) p)=Gt a n m ps:=by obtain⟨c,b⟩:=Za w hx p;unfold Gt;rw[b,EO,IJ,hk];conv=>rhs;rw[c,EO,IJ]
def PA.wr(w:PA h a n m ps A)(hx:A.has x){k:Nat}(hk:k<13){v:Aa}(hv:v.cells=[v]){p:PN}(hp:p.row=(pN ps x).row.set k v)(h1:p.kv=(pN ps x).kv)(h2:p.x.Bc=(A.nd x).Bc):
  ∃h',Cv h 1 (Pt n (nP n x+k)) v=some h'/\PA h' a n m (ps.set (x.toNat-1) p) (A.set x p.x)/\Gt a n m (ps.set (x.toNat-1) p)=Gt a n m ps/\(∀i,i≠n->h'[i]?=h[i]?)/\h'.length=h.length:=by
 refine⟨_,w.sto hx hk hv hp rfl,w.qi hx (λi _ _=>rfl) (by rw[h1,h2];exact w.Nl hx) (.inl (by rw[h1])),fq w hx (by rw[h1]),λi hi=>by rw[As (Dz hi)],Bq⟩
def PA.zk(w:PA h a n m ps A){h1:Ai}{JI:List PN}{A':Ar}(w':PA h1 a n m JI A')(hi:Gt a n m JI=Gt a n m ps)(ho:∀i,i≠n->h1[i]?=h[i]?)(hl:h1.length=h.length):DC h (λi=>i∈Gt a n m ps) h1 (λi=>i∈Gt a n m JI):=
 ⟨Ac,λi _ hn=>ho i (λe=>hn (by rw[e];simp[Gt])),λi WG=> .inl (by rwa [hi] at WG)⟩
def K4(q:Bool)(d:Int):PN:=⟨{kind:=1,CL:=q,CG:=d},.slnil,.slnil,rfl⟩
def aNt(w:PA h a n m ps A)(o:NS A)(hb:A.len+1<=1000000000)(q:Bool):
  ∃h',BG cx 58 [Pt a 0,.bool q] h (I (A.len+1)) h'/\PA h' a h.length m (ps++[K4 q (A.len+1)]) (A.add {kind:=1,CL:=q,CG:=A.len+1})/\(∀i,i<h.length->i≠a->i≠n->h'[i]?=h[i]?)/\h'.length=h.length+1:=by
 have nB:=w.len;obtain⟨h1,g,w1,l,l1⟩:=aAi w Ac (K4 q 0) rfl rfl;have e:=o.add (y:=(K4 q 0).x) hb (by simp[K4]) (by simp[K4]);have hx:(A.add (K4 q 0).x).has (A.len+1):=DP.2 (.inr rfl);have hlen:(A.len+1).toNat-1=ps.length:=Ac;have b:pN (ps++[K4 q 0]) (A.len+1)=K4 q 0:=by unfold pN;rw[hlen];simp
 obtain⟨h2,f,c,_,j,t⟩:=w1.wr hx (k:=3) AP (v:= I (A.len+1)) rfl (p:=K4 q (A.len+1)) (by rw[b];rfl) (by rw[b];rfl) (by rw[IU,Af rfl];rfl);refine⟨h2,?_,?_,λi hi s r=>?_,Ac⟩;.have r2:=Jg w1 e hx;rw[Ae,gL];have d:BG cx 158 [Pt a 0,.agg [I 1,I 0,.slnil,I 0,I 0,.str [],.slnil,.str [],.str [],.str [],.bool q,I 0,I 0]] h (I (A.len+1)) h1:=g;simp only[abS,Nat.reduceLeDiff,↓reduceIte,AT,d.Ab,r2.Ab,f]
 .rw[aAl,hlen] at c;rw[BH _ _ (Ag _),C5] at c;exact c
 .rw[j i Ac];exact l i hi s r
def MQ(k d:Int)(s:Aj):PN:=⟨{kind:=k,CG:=d,data:=s},.slnil,.slnil,rfl⟩
def PA.TA(w:PA h a n m ps A){p:PN}{h1:Ai}(hk:HY p.kv=none)(b:∀i,i<h.length->i≠a->i≠n->h1[i]?=h[i]?)(l1:h1.length=h.length+1):DC h (λi=>i∈Gt a n m ps) h1 (λi=>i∈Gt a h.length m (ps++[p])):=by
 refine⟨Ac,λi hi hn=>b i hi (λe=>hn (by simp[Gt,e])) (λe=>hn (by simp[Gt,e])),λi hi=>?_⟩;rw[qZ hk] at hi;simp only[AS] at hi;rcases hi with rfl|rfl|hi
 .exact .inl (by simp[Gt])
 .exact .inr (Ag _)
 .exact .inl (by unfold Gt;simp only[AS];exact .inr (.inr hi))
def aBZ{k:Int}{s:Aj}(w:PA h a n m ps A)(d:NS A)(hb:A.len+1<=1000000000)(hd:A.has x/\(A.nd x).kind=1):
  ∃h',BG cx 235 [Pt a 0,I x,.agg (MQ k 0 s).row] h (.tuple [I (A.len+1),I 0]) h'/\PA h' a h.length m (ps++[MQ k x s]) (A.add (MQ k x s).x)/\(∀i,i<h.length->i≠a->i≠n->h'[i]?=h[i]?)/\h'.length=h.length+1:=by
 have nB:=w.len;obtain⟨h1,b,w1,c,l1⟩:=aAi w Ac (MQ k x s) rfl rfl;refine⟨h1,?_,w1,c,l1⟩;rw[PN.row] at b;rw[Ae,jK,PN.row];simp only[abS,(zg (x:=x) w d).Ab,Af hd.1,Af hd.2,B7,CF,MQ] at b⊢;simp only[BE,b.Ab]
def aNu{s:Aj}(w:PA h a n m ps A)(e:NS A)(hb:A.len+1<=1000000000)(hd:A.has x/\(A.nd x).kind=1):
  ∃h',BG cx 176 [Pt a 0,I x,.str s] h (.tuple [I (A.len+1),I 0]) h'/\PA h' a h.length m (ps++[MQ 5 x s]) (A.add (MQ 5 x s).x)/\(∀i,i<h.length->i≠a->i≠n->h'[i]?=h[i]?)/\h'.length=h.length+1:=by
 obtain⟨h1,c,w1,d,l1⟩:=aBZ (k:=5) (s:=s) w e hb hd;refine⟨h1,?_,w1,d,l1⟩;have b:BG cx 235 [Pt a 0,I x,.agg [I 5,I 0,.slnil,I 0,I 0,.str [],.slnil,.str s,.str [],.str [],.bool false,I 0,I 0]] h (.tuple [I (A.len+1),I 0]) h1:=c;rw[Ae,iN];simp only[abS,Nat.reduceLeDiff,↓reduceIte,AT,b.Ab]
def aH1{s:Aj}(w:PA h a n m ps A)(e:NS A)(hb:A.len+1<=1000000000)(hd:A.has x/\(A.nd x).kind=1):
  ∃h',BG cx 177 [Pt a 0,I x,.str s] h (.tuple [I (A.len+1),I 0]) h'/\PA h' a h.length m (ps++[MQ 6 x s]) (A.add (MQ 6 x s).x)/\(∀i,i<h.length->i≠a->i≠n->h'[i]?=h[i]?)/\h'.length=h.length+1:=by
 obtain⟨h1,c,w1,d,l1⟩:=aBZ (k:=6) (s:=s) w e hb hd;refine⟨h1,?_,w1,d,l1⟩;have b:BG cx 235 [Pt a 0,I x,.agg [I 6,I 0,.slnil,I 0,I 0,.str [],.slnil,.str s,.str [],.str [],.bool false,I 0,I 0]] h (.tuple [I (A.len+1),I 0]) h1:=c;rw[Ae,iO];simp only[abS,Nat.reduceLeDiff,↓reduceIte,AT,b.Ab]
def aNv{s:Aj}(w:PA h a n m ps A)(e:NS A)(hx:A.has x)(hk:(A.nd x).kind=5):
  ∃h' JI,BG cx 175 [Pt a 0,I x,.str s] h (I 0) h'/\PA h' a n m JI (A.To x s)/\DC h (λi=>i∈Gt a n m ps) h' (λi=>i∈Gt a n m JI):=by
 have hp:=(w.pn hx).2.1;obtain⟨h2,c,b,g,d,f⟩:=w.wr hx (k:=7) AP (v:= .str s) rfl (p:=⟨{A.nd x with data:=s},(pN ps x).kv,(pN ps x).av,by rw[<-hp];exact(pN ps x).ok⟩) (by simp only[PN.row];rw[hp];rfl) rfl rfl;refine⟨h2,_,?_,b,w.zk b g d f⟩;rw[Ae,iM];simp only[abS,HI,(UA (x:=x) w).Ab,Af hx,B7,CF,(Jg w e hx).Ab,w.f0 hx,hk,c]
def aB0{y:Int}:BG cx 345 [.sl 1 [[I y]]] h (.bool (decide (BS.Ig y))) h:=by
 have hv:AU 1 [[I y]] (.sl 1 [[I y]]):= .mk;have d:([[I y]]:List (List Aa))[0]=[I y]:=rfl;rw[Ae,kQ];simp only[BE,hv.len];refine Bm (λk:Nat=>[.bool false,I (k:Int)]) (λk h1=>k<=1/\(k=1->BS.Ig y)/\h1=h) (λk=>1 -k) 0 rfl ⟨AY _,λe=>Ac,rfl⟩ ?_;rintro k h1 ⟨hk,ha,rfl⟩;rcases AR k 1 with hlt|Eh
 .obtain rfl:k=0:=by omega
  simp only[BE,ZP,(AP:((0:Nat):Int)<((1:Nat):Int)),hv.Ff (show 0<[[I y]].length from Cd),d,BN (Ac:0<9223372036854775807)];refine⟨λh2=>?_,λh2=>⟨λc=>?_,λc=>?_⟩⟩;.rw[Ah (λb=>by unfold BS.Ig at b;omega)]
  .rw[Ah (λb=>by unfold BS.Ig at b;omega)]
  .exact AK.next 1 rfl ⟨Ag _,λ_=>⟨Ac,Ac⟩,rfl⟩ Ac
 .obtain rfl:k=1:=by omega
  simp only[abS,(AP:¬((1:Nat):Int)<((1:Nat):Int)),Al (ha rfl)]
def Zb{l out:List A5}{y:A5}:HG out (l++[y])=if(HG out l).any (λz=>decide (DD y=DD z)) then HG out l else HG out l++[y]:=by
 induction l generalizing out with
 |nil=>simp only[BT,HG];split<;>simp_all
 |cons z l ih=>
  rw[Cs,HG,HG];split;.exact ih
  .exact ih
def aH2(y c:A5)(h:Ai):BG cx 409 [.agg c.row,.CI y.row] h (.bool (decide (DD y=DD c))) h:=by
 rw[Ae,lI,A5.row,A5.row];simp only[BE];refine⟨λh1=>?_,λh1=>?_⟩;.congr 2;rw[Dd];simp[DD,h1]
 .rw[Ah (λe=>h1 (by simp[DD] at e;exact e.1))]
def aB1{F v:Aa}{l:List A5}{q:A5->Bool}(hv:Ns h v l)(hb:l.length<=1000000000)(hF:qX F h q):BG cx 191 [v,F] h (.bool (l.any q)) h:=by
 obtain⟨f,caps,rfl,hf,hr⟩:=hF;have key:BG cx 309 [v,.func (.func f) [] caps] h (I (Co q 0 l)) h:=by
  rw[Ae,Tt];simp only[BE,hv.len];refine Bm (λn:Nat=>[I 0,I (n:Int)]) (λn h1=>n<=l.length/\Co q 0 l=Co q n (l.drop n)/\h1=h) (λn=>l.length-n) 0 rfl ⟨AY _,rfl,rfl⟩ ?_;rintro n h1 ⟨za,ha,rfl⟩;rcases AR n l.length with hlt|Eh
  .have i1:(n:Int)<(l.length:Int):=by omega
   obtain⟨p,d,c⟩:=hv.at_ n hlt;rw[AG hlt,Co] at ha;simp only[BE,↓reduceIte,Dh,ZP,hf,i1,d,c,(hr l[n]).Ab,BN (Ac:n<9223372036854775807)];rw[CS];refine⟨λhe=>?_,λhe=>?_⟩;.rw[ha,Af he]
   .rw[Ad (by simp[he])] at ha;exact AK.next (n+1) rfl ⟨hlt,ha,rfl⟩ Ac
  .have i1:¬(n:Int)<(l.length:Int):=by omega
   rw[AZ Eh,Co] at ha;simp only[abS,↓reduceIte,Dh,i1,ha]
 rw[Ae,WZ];simp only[BE,key.Ab];congr 2
 rcases HV (p:=q) (l:=l) (k:=0) with⟨h1,h2⟩|⟨n,y,h1,h2,b⟩
 .rw[h1,rh];have:=Jz.1 h2;simpa using this
 .rw[h1,rh,Al Ac,TV];exact⟨y,Re b,VR b⟩
def aB2{l:List A5}{v:Aa}(hv:Ns h v l)(hb:l.length<=1000000000)(hs:∀y∈l,BS.Ig y.Bb):BG cx 339 [v] h (.tuple [Wl (Cw l),.bool true]) h:=by
 rw[Ae,kK];simp only[BE,hv.len];refine Bm (λk:Nat=>[.slnil,.bool false,Wl (Cw (l.take k)),I (k:Int)]) (λk h1=>k<=l.length/\h1=h) (λk=>l.length-k) 0 rfl ⟨AY _,rfl⟩ ?_;rintro k h1 ⟨hk,rfl⟩;rcases AR k l.length with hlt|Eh
 .have i1:(k:Int)<(l.length:Int):=by omega
  obtain⟨p,j,e⟩:=hv.at_ k hlt;have inc:=BN (Ac:k<9223372036854775807);have hsp:=hs _ (AN hlt);have i:=aB0 (h:=h1) (y:=l[k].Bb);have hF:qX (.func (.func 409) [] [.CI l[k].row]) h1 (λc=>decide (DD l[k]=DD c)):=⟨_,_,rfl,AP,λc=>aH2 l[k] c h1⟩;have ql:(Cw (l.take k)).length<=1000000000:=by have:=QT (l:=l.take k);rw[Ax] at this;omega
  have r2:=aB1 (Y9 Xl) ql hF;have g:Cw (l.take (k+1))=if(Cw (l.take k)).any (λz=>decide (DD l[k]=DD z)) then Cw (l.take k) else Cw (l.take k)++[l[k]]:=by rw[AB hlt];exact Zb
  have d:=AU.JD (f:=A5.row) (a:=l[k]) (b:=40) (Xl (l:=Cw (l.take k))) (by have:=QT (l:=l.take k);rw[Ax] at this;have:AW=140737488355328:=rfl;omega);have em:AD (.Dk 3) [.agg l[k].row]=some (.sl 3 [l[k].row]):=rfl;rw[<-nu] at d;rw[A5.row] at r2 em d e;simp only[abS,Nat.reduceLeDiff,↓reduceIte,i1,j,e,HI,i.Ab,Al hsp,r2.Ab,em,d,inc];rw[CS];refine⟨λh2=>?_,λh2=>?_⟩;.exact AK.next (k+1) (by rw[g,Ad (by simpa using h2)]) ⟨hlt,rfl⟩ Ac
  .exact AK.next (k+1) (by rw[g,Af (by simpa using h2)]) ⟨hlt,rfl⟩ Ac
 .have i1:¬(k:Int)<(l.length:Int):=by omega
  simp only[abS,↓reduceIte,i1,AF Eh]
def aH3{l:List A5}{v:Aa}(w:PA h a n m ps A)(f:NS A)(hx:A.has x)(hk:(A.nd x).kind=4)(hv:Ns h v l)(hb:l.length<=1000000000)(hs:∀y∈l,BS.Ig y.Bb):
  ∃h' JI,BG cx 193 [Pt a 0,I x,v] h (I 0) h'/\PA h' a n m JI (A.JF x l)/\DC h (λi=>i∈Gt a n m ps) h' (λi=>i∈Gt a n m JI):=by
 have hp:=(w.pn hx).2.1;have d:=aB2 hv hb hs;obtain⟨h2,c,b,j,e,g⟩:=w.wr hx (k:=6) AP (v:=Wl (Cw l)) (AU.cells Xl) (p:=⟨{A.nd x with Av:=Cw l},(pN ps x).kv,Wl (Cw l),rfl⟩) (by simp only[PN.row];rw[hp];rfl) rfl rfl;refine⟨h2,_,?_,b,w.zk b j e g⟩;rw[Ae,i5];simp only[abS,HI,(UA (x:=x) w).Ab,Af hx,B7,CF,(Jg w f hx).Ab,w.f0 hx,hk,d.Ab,c]
def aH4(w:PA h a n m ps A)(hx:A.has x):BG cx 346 [Pt n (nP n x)] h (.bool (decide (gA (A.nd x)))) h:=by rw[Ae,kR];simp only[abS,w.f0 hx,w.f4 hx,w.f5 hx,gA];refine⟨λh1=>⟨λh2=>?_,λh2=>?_⟩,λh1=>?_⟩<;>simp[*]
def Q7(x:Int×Int):Aa×Aa:=(I x.1,I x.2)
def lV{k:Int}:∀{l:List (Int×Int)} {i:Nat},(l.find? (λx=>decide (k=x.1))=none->L0 k (l.map Q7) i=some none)/\∀y,l.find? (λx=>decide (k=x.1))=some y->∃j,L0 k (l.map Q7) i=some (some (j,I y.2))
 |[],i=>⟨λ_=>rfl,λy h=>by cases h⟩
 |z::l,i=>by
  have ih:=lV (k:=k) (l:=l) (i:=i+1);simp only[Bj,Q7,L0,GQ];by_cases e:k=z.1;.simp only[e,Dw,BJ];exact⟨λh=>(by cases h),λy h=>⟨i,by cases h;rfl⟩⟩
  .simp only[e,DG,DF];exact ih
def Y8.get{f:Int->Int}(w:Y8 h m f)(k:Int):Ep (.rj (I 0) true) h [.map m,I k]=some (h,if f k=0 then .tuple [I 0,.bool false] else .tuple [I (f k),.bool true]):=by
 rcases w with⟨rfl,h0⟩|⟨id,l,rfl,hc,hl,_⟩
 .rw[Af (h0 k)];rfl
 .have hl:=hl k;have hm:=lV (k:=k) (l:=l) (i:=0);simp only[Ep,yO,hc];by_cases h0:f k=0
  .rw[Af h0] at hl⊢;have e:l.find? (λx=>decide (k=x.1))=none:=by
    cases hf:l.find? (λx=>decide (k=x.1)) with
    |none=>rfl
    |some y=>rw[hf] at hl;cases hl
   have:=hm.1 e;unfold Q7 at this;rw[this];rfl
  .rw[Ad h0] at hl⊢;cases hf:l.find? (λx=>decide (k=x.1)) with
   |none=>rw[hf] at hl;cases hl
   |some y=>rw[hf] at hl;simp only[BY,BC] at hl;obtain⟨j,e⟩:=hm.2 y hf;unfold Q7 at e;rw[e,<-hl];rfl
def fu{id:Nat}{l:List (Int×Int)}{k v:Int}(hc:h[id]?=some (.map (l.map Q7)))(hn:l.find? (λx=>decide (k=x.1))=none):
  ∃h1,Ep (.T0 (I 0)) h [.map (some id),I k]=some (h1,.tuple [I 0,I l.length])/\∃h2,Ep .OE h1 [.map (some id),I l.length,I v]=some (h2,.bool true)/\h2=h.set id (.map ((l++[(k,v)]).map Q7)):=by
 have Im:=(An.1 hc).1;have hm:=(lV (k:=k) (l:=l) (i:=0)).1 hn;refine⟨h.set id (.map (l.map Q7++[(I k,I 0)])),?_,_,?_,rfl⟩;.simp only[Ep,Wx,hc,hm,BY,Ao]
 .have c:(h.set id (.map (l.map Q7++[(I k,I 0)])))[id]?=some (.map (l.map Q7++[(I k,I 0)])):=AO Im;have b:(l.map Q7++[(I k,I 0)])[l.length]?=some (I k,I 0):=by rw[Bk AH];simp
  simp only[Ep,SI,c,AX,b];rw[Af Ac,sF,BH _ _ AH];simp[Q7]
def PA.aH5(w:PA h a n m ps A):∀i∈m.toList++ps.filterMap (λp=>HY p.kv),i<h.length/\i≠a/\i≠n:=by
 intro i hi;have h1:i∈Gt a n m ps:=by unfold Gt;simp only[AS];exact .inr (.inr hi)
 have b:=w.nd;unfold Gt at b;simp only[B5,AS,NP] at b;exact⟨w.lt i h1,λe=>b.1.2 (e▸hi),λe=>b.2.1 (e▸hi)⟩
def PA.aH6(w:PA h a n m ps A){h1:Ai}{m':Option Nat}{A':Ar}(g:A'.n=A.n)(f:A'.i.length=A'.n.length)(ha:h1[a]?=some (.cells [.CE n 0 ps.length 13,.map m']))(ho:∀i,i<h.length->i≠a->m≠some i->h1[i]?=h[i]?)(hm:m'=m\/∃j,m'=some j/\h.length<=j)(b:Y8 h1 m' A'.inr):PA h1 a n m' ps A':=by
 have nd:=w.nd;have lU:=nd;unfold Gt at lU;simp only[B5,AS,NP] at lU;have hnm:m≠some n:=λe=>lU.2.1 (by simp[e]);refine⟨by rw[g];exact w.e,f,ha,?_,?_,?_,b⟩;.rw[ho n (w.lt n (by simp[Gt])) (Dz lU.1.1) hnm];exact w.hn
 .intro p hp;refine(w.ks p hp).Dl λid Im=>?_;have h1:id∈ps.filterMap (λp=>HY p.kv):=Cj.2 ⟨p,hp,Im⟩;have h2:=w.aH5 id (Ay.2 (.inr h1));exact ho id h2.1 h2.2.1 λe=>(B3.1 lU.2.2).2.2 id (by simp[e]) id h1 rfl
 .rcases hm with rfl|⟨j,rfl,hj⟩
  .exact nd
  .have d:∀i∈ps.filterMap (λp=>HY p.kv),i<h.length:=λi hi=>(w.aH5 i (Ay.2 (.inr hi))).1;have l:=w.lt a (by simp[Gt]);have k:=w.lt n (by simp[Gt]);have c:=(B3.1 lU.2.2).2.1;unfold Gt;simp only[B5,AS,aPo,Cs,BT,NP];exact⟨⟨lU.1.1,Ac,λhm=>lU.1.2 (Ay.2 (.inr hm))⟩,⟨Ac,λhm=>lU.2.1 (Ay.2 (.inr hm))⟩,λhm=>by have:=d j hm;omega,c⟩
def Zc{l:List (Int×Int)}{k v:Int}(hk:fo l)(hn:l.find? (λx=>decide (k=x.1))=none)(h1:k_ k=true)(h2:k_ v=true):fo (l++[(k,v)]):=by
 refine⟨?_,λp hp=>?_⟩;.rw[Bu,B3];refine⟨hk.1,AH,λa ha b hb e=>?_⟩;obtain⟨x,hx,rfl⟩:=Bn.1 ha;have c:=Jz.1 hn x hx;simp only[Bj,C4,BP] at hb;exact c (by simpa using(e.trans hb).symm)
 .rcases Ay.1 hp with h|h
  .exact hk.2 p h
  .simp only[BP] at h;subst h;exact⟨h1,h2⟩
def fw(hb:A.len<=1000000000)(hx:A.has x):k_ x=true:=by have:=hx.1;have:=hx.2;unfold Ar.len at hb;unfold k_;simp;omega
def aH7{i:Nat}(hm:m=some i):i∈Gt a n m ps:=by unfold Gt;simp[hm]
def PA.aH8(w:PA h a n m ps A){l:List (Int×Int)}{id:Nat}(t:m=some id)(hc:h[id]?=some (.map (l.map Q7)))(hl:∀k,(l.find? λx=>decide (k=x.1)).map (·.2)=if A.inr k=0 then none else some (A.inr k))(ok:fo l)(hb:A.len<=1000000000){d i:Int}(hd:A.has d)(hi:A.has i)(c:d≠i)(h0:A.inr d=0)(f:A.inr i=0):
  ∃h1 h2 r,Ep (.T0 (I 0)) h [.map m,I d]=some (h1,.tuple [I 0,I l.length])/\Ep .OE h1 [.map m,I l.length,I i]=some (h2,.bool true)/\
   Ep (.T0 (I 0)) h2 [.map m,I i]=some (r,.tuple [I 0,I ((l.length+1:Nat):Int)])/\∃p,Ep .OE r [.map m,I ((l.length+1:Nat):Int),I i]=some (p,.bool true)/\PA p a n m ps ((A.Je d i).Je i i)/\(∀j,j≠id->p[j]?=h[j]?)/\p.length=h.length:=by
 subst t;have Im:=(An.1 hc).1;have b:∀k,A.inr k=0->l.find? (λx=>decide (k=x.1))=none:=by
  intro k hk;have:=hl k;rw[Af hk] at this;cases hf:l.find? (λx=>decide (k=x.1)) with
  |none=>rfl
  |some y=>rw[hf] at this;cases this
 obtain⟨h1,E,h2,D,rfl⟩:=fu (v:=i) hc (b d h0);have I7:(h.set id (.map ((l++[(d,i)]).map Q7)))[id]?=some (.map ((l++[(d,i)]).map Q7)):=AO Im;obtain⟨r,B,p,z,rfl⟩:=fu (k:=i) (v:=i) I7 (by rw[RI,b i f];simp[Dz c]);simp only[Au,A9] at B z;refine⟨h1,_,r,E,D,B,_,z,?_,?_,AH⟩
 .have o:id≠a:=λe=>by have:=w.nd;unfold Gt at this;simp[e] at this
  refine w.aH6 (m':=some id) (A':=(A.Je d i).Je i i) rfl ?_ ?_ ?_ (.inl rfl) ?_;.simp only[Ar.Je];split<;>split<;>simp[w.il]
  .rw[As o,As o];exact w.ha
  .intro j hj C u;have:id≠j:=λe=>u (by rw[e]);rw[As this,As this]
  .refine .inr ⟨id,l++[(d,i)]++[(i,i)],rfl,?_,λk=>?_,Zc (Zc ok (b d h0) (fw hb hd) (fw hb hi)) (by rw[RI,b i f];simp[Dz c]) (fw hb hi) (fw hb hi)⟩;.rw[AO (by simpa using Im)];rfl
   .have s:(A.Je d i).i.length=(A.Je d i).n.length:=by simp only[Ar.Je];split<;>simp[w.il]
    rw[Qm s,Qm w.il,RI,RI];have uq:(A.Je d i).has i:=hi;have hk:=hl k;have wY:i≠0:=by have:=hi.1;omega
    cases hf:l.find? (λx=>decide (k=x.1)) with
    |some y=>
     rw[hf] at hk;have qW:A.inr k≠0:=by intro e;rw[Af e] at hk;cases hk
     have q:k≠i:=λe=>qW (e▸f);have g:k≠d:=λe=>qW (e▸h0);simp only[q,g,ZS,DF,Option.some_or];exact hk
    |none=>
     rw[hf] at hk;have qW:A.inr k=0:=by
      by_cases e:A.inr k=0;.exact e
      .rw[Ad e] at hk;cases hk
     by_cases g:k=d;.subst g;simp[c,hd,wY]
     .by_cases q:k=i;.subst q;simp[g,uq,wY]
      .simp[q,g,qW]
 .intro j hj;rw[As (Dz hj),As (Dz hj)]
def aH9(w:PA h a n m ps A)(E:NS A)(hb:A.len+1<=1000000000)(hx:A.has x):
  ∃h' n' m' JI,BG cx 347 [Pt a 0,I x] h (I (A.Fz x)) h'/\PA h' a n' m' JI (A.Dn x)/\DC h (λi=>i∈Gt a n m ps) h' (λi=>i∈Gt a n' m' JI):=by
 have l1:A7 h none (Pt a 1)=some (.map m):=by simp only[A7,w.ha];rfl
 have g1:=w.mp.get x;by_cases h0:A.inr x=0
 .obtain⟨h1,z,w1,D,d⟩:=aNt w E hb false;have g:=w.TA (p:=K4 false (A.len+1)) rfl D d;have s:A.Fz x=A.len+1:=by unfold Ar.Fz;rw[Ad (by simp[h0])]
  have t:A.Dn x=((A.add {kind:=1,CG:=A.len+1}).Je x (A.len+1)).Je (A.len+1) (A.len+1):=by unfold Ar.Dn;rw[Ad (by simp[h0])]
  have aAm:∀k,(A.add {kind:=1,CL:=false,CG:=A.len+1}).inr k=A.inr k:=λk=>WN w.il;have PD:(A.add {kind:=1,CL:=false,CG:=A.len+1}).has x:=DP.2 (.inl hx);have Wc:(A.add {kind:=1,CL:=false,CG:=A.len+1}).has (A.len+1):=DP.2 (.inr rfl);have hne:=YP hx;have f:A.inr (A.len+1)=0:=by unfold Ar.inr;rw[Ad Sf]
  have B:A7 h1 none (Pt a 1)=some (.map m):=by simp only[A7,w1.ha];rfl
  rw[Af h0] at g1;have TZ:(A.add {kind:=1,CL:=false,CG:=A.len+1}).len<=1000000000:=by rw[O2];exact hb
  rcases w1.mp with⟨rfl,hz⟩|⟨id,l,rfl,hc,hl,ho⟩
  .have Z9:=w1.ha;have WC:a<h1.length:=w1.lt a (by simp[Gt]);have Pz:(h1++[Dx.map []])[a]?=some (.cells [.CE h.length 0 (ps++[K4 false (A.len+1)]).length 13,.map none]):=by rw[Ak WC];exact Z9
   have es:Cv (h1++[Dx.map []]) 1 (Pt a 1) (.map (some h1.length))=some ((h1++[Dx.map []]).set a (.cells [.CE h.length 0 (ps++[K4 false (A.len+1)]).length 13,.map (some h1.length)])):=by simp only[Cv,Pz];rfl
   have uK:((h1++[Dx.map []]).set a (.cells [.CE h.length 0 (ps++[K4 false (A.len+1)]).length 13,.map (some h1.length)]))[a]?=some (.cells [.CE h.length 0 (ps++[K4 false (A.len+1)]).length 13,.map (some h1.length)]):=AO Ei;have L:A7 ((h1++[Dx.map []]).set a (.cells [.CE h.length 0 (ps++[K4 false (A.len+1)]).length 13,.map (some h1.length)])) none (Pt a 1)=some (.map (some h1.length)):=by simp only[A7,uK];rfl
   have Ă:((h1++[Dx.map []]).set a (.cells [.CE h.length 0 (ps++[K4 false (A.len+1)]).length 13,.map (some h1.length)]))[h1.length]?=some (.map (([]:List (Int×Int)).map Q7)):=by rw[As Ac,Bk (Ag _),C5];rfl
   have C:PA ((h1++[Dx.map []]).set a (.cells [.CE h.length 0 (ps++[K4 false (A.len+1)]).length 13,.map (some h1.length)])) a h.length (some h1.length) (ps++[K4 false (A.len+1)]) (A.add {kind:=1,CL:=false,CG:=A.len+1}):=by refine w1.aH6 rfl w1.il uK (λi hi c _=>by rw[As (Dz c),Ak hi]) (.inr ⟨_,rfl,Ag _⟩) (.inr ⟨h1.length,[],rfl,Ă,λk=>by rw[Af (hz k)];rfl,M4,λp hp=>nomatch hp⟩)
   obtain⟨J,H,G,r,q,o,y,j,u,v,b⟩:=C.aH8 rfl Ă (λk=>by rw[Af (hz k)];rfl) ⟨M4,λp hp=>nomatch hp⟩ TZ PD Wc hne ((aAm x).trans h0) ((aAm _).trans f);refine⟨y,_,_,_,?_,t▸u,⟨by rw[b];simp;omega,λi hi V8=>?_,λi hi=>?_⟩⟩;.simp only[BR] at r q o j;rw[Ae,Tu,s];simp only[BE,l1,g1,z.Ab,B,show AD (.Gu false .mp) [.map none,.map none]=some (.bool true) from rfl,es,L,r,q,o,j]
   .have K:=g.old i hi V8;have c:i≠a:=λe=>V8 (by simp[Gt,e]);rw[v i Ac,As (Dz c),Ak Ac,K]
   .unfold Gt at hi;simp only[AS,aPo,Cs,BT] at hi;rcases hi with rfl|rfl|rfl|hi
    .exact .inl (by simp[Gt])
    .exact .inr (Ag _)
    .exact .inr Ac
    .exact g.Bs i (by unfold Gt;simp only[AS,Option.toList_none,BT];exact .inr (.inr hi))
  .obtain⟨J,H,G,r,q,o,y,j,u,v,b⟩:=w1.aH8 rfl hc hl ho TZ PD Wc hne ((aAm x).trans h0) ((aAm _).trans f);refine⟨y,_,_,_,?_,t▸u,⟨Ac,λi hi V8=>?_,g.Bs⟩⟩;.rw[Ae,Tu,s];simp only[BE,l1,g1,z.Ab,B,show AD (.Gu false .mp) [.map (some id),.map none]=some (.bool false) from rfl,r,q,o,j]
   .rw[v i (λe=>V8 (e▸aH7 rfl))];exact g.old i hi V8
 .have s:A.Fz x=A.inr x:=by unfold Ar.Fz;rw[Af h0]
  have t:A.Dn x=A:=by unfold Ar.Dn;rw[Af h0]
  refine⟨h,n,m,ps,?_,by rw[t];exact w,.refl⟩;rw[Ad h0] at g1;rw[Ae,Tu,s];simp only[BE,l1,g1]
def NS.Zd(b:NS A)(h1:A.len+1<=1000000000):NS (A.Dn x):=by
 unfold Ar.Dn;split;.exact b
 .have:=b.add (y:={kind:=1,CG:=A.len+1}) h1 AH AH;exact⟨this.n,this.at_,this.data⟩
def nv(hk:A.has x){d:Int}:(A.Dn d).nd x=A.nd x:=YN (.inl (YP hk))
def aIa{l:List A5}{v:Aa}{d sp:Int}{nm:Aj}(w:PA h a n m ps A)(D:NS A)(hb:A.len+3<=1000000000)(hd:A.has d/\(A.nd d).kind=1)(hsp:BS.Ig sp)(hv:Bi l v)(hl:l.length<=1000000000)(hs:∀y∈l,BS.Ig y.Bb):
  ∃h' n' m' JI,BG cx 205 [Pt a 0,I d,I sp,.str nm,v] h (.tuple [I (A.len+1),I 0]) h'/\PA h' a n' m' JI (A.elem d sp nm l)/\DC h (λi=>i∈Gt a n m ps) h' (λi=>i∈Gt a n' m' JI)/\NS (A.elem d sp nm l):=by
 have nB:=w.len;have B:=aB2 (h:=h) (Y9 hv) hl hs;obtain⟨u,hu⟩:∃u,u=Wl (Cw l):=⟨_,rfl⟩;rw[<-hu] at B;have nC:(Cw l).length<=1000000000:=by have:=QT (l:=l);omega
 have c:=aB0 (h:=h) (y:=sp);rw[Al hsp] at c;obtain⟨h1,P,w1,S,l1⟩:=aAi w Ac ⟨{kind:=4,CG:=d,Bb:=sp,name:=nm,Av:=Cw l},.slnil,u,hu⟩ rfl rfl;have b:=D.add (y:={kind:=4,CG:=d,Bb:=sp,name:=nm,Av:=Cw l}) Ac nC AH;have PD:(A.add {kind:=4,CG:=d,Bb:=sp,name:=nm,Av:=Cw l}).has (A.len+1):=DP.2 (.inr rfl);have ND:(A.add {kind:=4,CG:=d,Bb:=sp,name:=nm,Av:=Cw l}).nd (A.len+1)={kind:=4,CG:=d,Bb:=sp,name:=nm,Av:=Cw l}:=by rw[IU,Af rfl]
 have H:=w.TA (p:=⟨{kind:=4,CG:=d,Bb:=sp,name:=nm,Av:=Cw l},.slnil,u,hu⟩) rfl S l1;have j:BG cx 158 [Pt a 0,.agg [I 4,I 0,.slnil,I d,I sp,.str nm,u,.str [],.str [],.str [],.bool false,I 0,I 0]] h (I (A.len+1)) h1:=P;have r2:=Jg w1 b PD;have g:=aH4 w1 PD;rw[ND] at g;have hc:u.cells=[u]:=by rw[hu];exact AU.cells Xl
 unfold Ar.elem;simp only
 by_cases s:gA {kind:=4,CG:=d,Bb:=sp,name:=nm,Av:=Cw l}
 .rw[Af s];rw[Al s] at g;have gE:(A.add {kind:=4,CG:=d,Bb:=sp,name:=nm,Av:=Cw l}).has d:=DP.2 (.inl hd.1);obtain⟨h2,W,X,wZ,O,t,K⟩:=aH9 w1 b (by rw[O2];omega) gE;have C:=b.Zd (x:=d) (by rw[O2];omega);have bU:((wZ.length:Nat):Int)=((A.add {kind:=4,CG:=d,Bb:=sp,name:=nm,Av:=Cw l}).Dn d).len:=t.len;have fx:((A.add {kind:=4,CG:=d,Bb:=sp,name:=nm,Av:=Cw l}).Dn d).len<=A.len+2:=by rw[mr,O2];split<;>omega
  obtain⟨V,N,f,R,l3⟩:=aAi t Ac ⟨{kind:=2,Eo:=A.len+1,CG:=(A.add {kind:=4,CG:=d,Bb:=sp,name:=nm,Av:=Cw l}).Fz d},.slnil,.slnil,rfl⟩ rfl rfl;obtain⟨o,E⟩:∃o,o=wZ++[⟨{kind:=2,Eo:=A.len+1,CG:=(A.add {kind:=4,CG:=d,Bb:=sp,name:=nm,Av:=Cw l}).Fz d},.slnil,.slnil,rfl⟩]:=⟨_,rfl⟩;have G:=t.TA (p:=⟨{kind:=2,Eo:=A.len+1,CG:=(A.add {kind:=4,CG:=d,Bb:=sp,name:=nm,Av:=Cw l}).Fz d},.slnil,.slnil,rfl⟩) rfl R l3;rw[<-E] at f G;have q:=C.add (y:={kind:=2,Eo:=A.len+1,CG:=(A.add {kind:=4,CG:=d,Bb:=sp,name:=nm,Av:=Cw l}).Fz d}) Ac AH AH;have z:BG cx 158 [Pt a 0,.agg [I 2,I 0,.slnil,I ((A.add {kind:=4,CG:=d,Bb:=sp,name:=nm,Av:=Cw l}).Fz d),I 0,.str [],.slnil,.str [],.str [],.str [],.bool false,I 0,I (A.len+1)]] h2 _ V:=N;have fG:=Ok (h:=d) PD;have e:=DP (x:={kind:=2,Eo:=A.len+1,CG:=(A.add {kind:=4,CG:=d,Bb:=sp,name:=nm,Av:=Cw l}).Fz d}).2 (.inl fG);have r:(((A.add {kind:=4,CG:=d,Bb:=sp,name:=nm,Av:=Cw l}).Dn d).add {kind:=2,Eo:=A.len+1,CG:=(A.add {kind:=4,CG:=d,Bb:=sp,name:=nm,Av:=Cw l}).Fz d}).nd (A.len+1)={kind:=4,CG:=d,Bb:=sp,name:=nm,Av:=Cw l}:=by rw[MO fG,nv PD,ND]
  have M:=Jg f q e;have hp:=(f.pn e).2.1;rw[r] at hp;obtain⟨U,L,J,T,Q,l4⟩:=f.wr e (k:=11) AP (v:= I (((A.add {kind:=4,CG:=d,Bb:=sp,name:=nm,Av:=Cw l}).Dn d).len+1)) rfl (p:=⟨{kind:=4,CG:=d,Bb:=sp,name:=nm,Av:=Cw l,cont:=((A.add {kind:=4,CG:=d,Bb:=sp,name:=nm,Av:=Cw l}).Dn d).len+1},(pN o (A.len+1)).kv,(pN o (A.len+1)).av,by have:=(pN o (A.len+1)).ok;rw[hp] at this;exact this⟩) (by simp only[PN.row];rw[hp];rfl) rfl (by rw[r]);refine⟨U,_,_,_,?_,J,H.trans (K.trans (G.trans (f.zk J T Q l4))),q.set nC AH⟩;rw[Ae,W0];simp only[abS,Nat.reduceLeDiff,↓reduceIte,AT,(zg (x:=d) w D).Ab,Af hd.1,Af hd.2,B7,CF,B.Ab,HI,c.Ab,hc,j.Ab,r2.Ab,g.Ab,O.Ab,z.Ab,M.Ab,L]
 .rw[Ad s];rw[Ah s] at g;refine⟨h1,_,_,_,?_,w1,H,b⟩;rw[Ae,W0];simp only[abS,Nat.reduceLeDiff,↓reduceIte,AT,(zg (x:=d) w D).Ab,Af hd.1,Af hd.2,B7,CF,B.Ab,HI,c.Ab,hc,j.Ab,r2.Ab,g.Ab]
def cS{U:Type}{p q:U->Bool}{y:U}:∀{l:List U},(∀x∈l,p x=true->q x=true)->y∈l->p y=false->q y=true->(l.filter p).length<(l.filter q).length
 |[],_,h,_,_=>by cases h
 |x::l,hi,hy,hp,hq=>by
  have le:∀{l:List U},(∀x∈l,p x=true->q x=true)->(l.filter p).length<=(l.filter q).length:=by
   intro l;induction l with
   |nil=>intro _;simp
   |cons z l ih=>
    intro hi;have:=ih λx hx=>hi x (by simp[hx]);rw[Hy,Hy];split;.rename_i hz;rw[Af (hi z AH hz)];simp;exact this
    .split;.simp;omega
     .exact this
  have hl:=λx (hx:x∈l)=>hi x (by simp[hx]);rw[Hy,Hy];rcases AS.1 hy with rfl|hy
  .rw[Ad (by simp[hp]),Af hq];have:=le hl;simp;omega
  .have ih:=cS hl hy hp hq;split;.rename_i hz;rw[Af (hi x AH hz)];simp;exact ih
   .split;.simp;omega
    .exact ih
def xA{r:Int->Nat}{k y:Int}(hr:∀h,A.has h->A.up h≠0->r (A.up h)<r h)(hR:Reach A k y)(hy:A.has y):r k<=r y:=by
 induction hR with
 |refl=>exact Ag _
 |@step z h1 h2 ih=>
  by_cases hz:A.has (A.up z);.have:=ih hz;have:=hr z hy h1;omega
  .cases h2 with
   |refl=>have:=hr z hy h1;omega
   |step b _=>exact absurd (YL hz) b
open Classical in
def xB{e:Int}(ok:EM A e):∃r:Int->Nat,(∀h,A.has h->A.up h≠0->r (A.up h)<r h)/\∀h,r h<=A.n.length:=by
 obtain⟨r,hr⟩:=ok.gD;refine⟨λh=>((List.range A.n.length).filter λ(i:Nat)=>decide (Reach A ((i:Int)+1) h/\(i:Int)+1≠h)).length,λh c hu=>?_,λh=>?_⟩
 .have b:=vM ok c hu;have IG:=b;unfold Ar.has at IG;have d:(((A.up h).toNat-1:Nat):Int)+1=A.up h:=Ac;refine cS (y:=(A.up h).toNat-1) (λi _ hi=>?_) (List.mem_range.2 Ac) ?_ ?_;.rw[CO] at hi⊢;refine⟨.step hu hi.1,λe=>?_⟩;have h1:=xA hr hi.1 b;have h2:=hr h c hu;rw[e] at h1;omega
  .rw[d];simp
  .rw[d,CO];exact⟨.step hu .refl,aBL ok c hu⟩
 .have:=Ww (λ(i:Nat)=>decide (Reach A ((i:Int)+1) h/\(i:Int)+1≠h)) (List.range A.n.length);rwa [List.length_range] at this
def PA.cell(w:PA h a n m ps A)(hx:A.has x){k:Nat}(hk:k<13):(ps.map PN.row).flatten[0+(x.toNat-1)*13+k]?=(pN ps x).row[k]?:=by rw[BW];exact LS (qY ps) hk (by rw[Cn,(w.pn hx).1];rfl)
open Classical in
def Ze(w:PA h a n m ps A){up:Int}{r:Int->Nat}{e:Int}(ok:EM A e)(hr:∀h,A.has h->A.up h≠0->r (A.up h)<r h)(c:up≠0):∀(fuel:Nat) (x:Int),(x=0\/(A.has x/\r x<fuel))->Md (ps.map PN.row).flatten 0 ps.length up fuel x=some (decide (Reach A up x))
 |fuel,x,hx=>by
  by_cases h0:x=0
  .subst h0;have no:¬Reach A up 0:=by
    intro hR;cases hR with
    |refl=>exact c rfl
    |step h1 _=>exact h1 (YL (by unfold Ar.has;omega))
   rw[Ah no];cases fuel<;>rfl
  .have hx:=hx.resolve_left h0;cases fuel with
   |zero=>omega
   |succ fuel=>
    have g:Md (ps.map PN.row).flatten 0 ps.length up (fuel+1) x=if x=up then some true else if 1<=x/\x<=ps.length then
      match Ha (ps.map PN.row).flatten 0 x 1,Ha (ps.map PN.row).flatten 0 x 12 with
      |some p,some q=>Md (ps.map PN.row).flatten 0 ps.length up fuel (if p=0 then q else p)
      |_,_=>none
     else none:=by
     rw[Md];.rfl
     .exact λh=>h0 h
    rw[g];by_cases b:x=up;.rw[Af b,b,Al .refl]
    .rw[Ad b,Af (by have:=hx.1;have:=w.zd;unfold Ar.has at*;omega)];have j:Ha (ps.map PN.row).flatten 0 x 1=some (A.nd x).FV:=by unfold Ha;rw[w.cell hx.1 AP,<-(w.pn hx.1).2.1];rfl
     have i:Ha (ps.map PN.row).flatten 0 x 12=some (A.nd x).Eo:=by unfold Ha;rw[w.cell hx.1 AP,<-(w.pn hx.1).2.1];rfl
     rw[j,i];simp only
     have f:(if(A.nd x).FV=0 then(A.nd x).Eo else(A.nd x).FV)=A.up x:=by unfold Ar.up;by_cases h:(A.nd x).FV=0<;>simp[h]
     rw[f];have ih:=Ze w ok hr c fuel (A.up x) (by
      by_cases hu:A.up x=0;.exact .inl hu
      .exact .inr ⟨vM ok hx.1 hu,by have:=hr x hx.1 hu;omega⟩)
     rw[ih];congr 1
     rw[Dd];constructor
     .intro h1;by_cases hu:A.up x=0
      .rw[hu] at h1;cases h1 with
       |refl=>exact absurd rfl c
       |step d _=>exact absurd (YL (by unfold Ar.has;omega)) d
      .exact .step hu h1
     .intro h1;cases h1 with
      |refl=>exact absurd rfl b
      |step _ h2=>exact h2
open Classical in
def aIb{up e:Int}(w:PA h a n m ps A)(ok:EM A e)(hu:A.has up)(hx:A.has x):BG cx 237 [Pt a 0,I up,I x] h (.bool (decide (Reach A up x))) h:=by
 obtain⟨r,hr,b⟩:=xB ok;have Pn:=w.zd;have hc:=Ze w ok hr (up:=up) (by have:=hu.1;omega) (ps.length+1) x (.inr ⟨hx,by have:=b x;omega⟩);have c:Ep (.RJ N6) h [Pt a 0,I up,I x]=some (h,.bool (decide (Reach A up x))):=by simp only[Ep,N6,w.ha,w.hn];rw[Af (by rw[zh];omega),Af (by unfold Ar.has at hu hx;omega),hc];rfl
 rw[Ae,show Ca cx 237 [Pt a 0,I up,I x]=N7 [Pt a 0,I up,I x] from rfl,N7];simp only[BE,c]
structure Qs(h:Ai)(v:Aa)(l:List Int):Prop where
 len:AD (.len false) [v]=some (I (l.length:Int))
 at_:∀k (hk:k<l.length),∃p,AD (.Ff 1) [v,I (k:Int)]=some p/\A7 h none p=some (I l[k])
def KD.Sl{kv:Aa}{l:List Int}(hk:KD h kv l):Qs h kv l:=by
 refine⟨hk.len,λk hlt=>?_⟩;rcases hk with⟨rfl,rfl⟩|⟨id,cs,rfl,hc⟩
 .simp at hlt
 .refine⟨Pt id k,by have:=E1 (id:=id) (z:=1) (k:= .i64) hlt;rwa [FI] at this,?_⟩;simp only[A7,hc,E8];rw[Ak (by simpa using hlt)];simp[hlt]
def DX.Sl{v:Aa}{l:List Int}(hv:DX l v):Qs h v l:=⟨AU.CN hv,λk hk=>⟨_,AU.BL hv hk,rfl⟩⟩
def aEu{v:Aa}{l:List Int}(hv:Qs h v l)(hb:l.length<=1000000000)(x:Int):BG cx 173 [v,I x] h (I (Co (λy=>decide (x=y)) 0 l)) h:=by
 rw[Ae,iK];simp only[BE,hv.len];refine Bm (λk:Nat=>[I 0,I (k:Int)]) (λk h1=>k<=l.length/\Co (λy=>decide (x=y)) 0 l=Co (λy=>decide (x=y)) k (l.drop k)/\h1=h) (λk=>l.length-k) 0 rfl ⟨AY _,rfl,rfl⟩ ?_;rintro k h1 ⟨hk,ha,rfl⟩;rcases AR k l.length with hlt|Eh
 .have i1:(k:Int)<(l.length:Int):=by omega
  obtain⟨p,c,b⟩:=hv.at_ k hlt;rw[AG hlt,Co] at ha;simp only[abS,i1,c,b,BN (Ac:k<9223372036854775807)];refine⟨λh2=>?_,λh2=>?_⟩;.rw[ha,Af (by simpa using h2)]
  .rw[Ad (by simpa using h2)] at ha;exact AK.next (k+1) rfl ⟨hlt,ha,rfl⟩ Ac
 .have i1:¬(k:Int)<(l.length:Int):=by omega
  rw[AZ Eh,Co] at ha;simp only[abS,i1,ha]
def lW{l:List Int}{x:Int}(hx:x∈l):∃k,k<l.length/\Co (λy=>decide (x=y)) 0 l=(k:Int)/\l[k]?=some x/\l.takeWhile (λy=>decide (y≠x))=l.take k/\l.dropWhile (λy=>decide (y≠x))=l.drop k:=by
 have key:∀(l:List Int) (s:Nat),x∈l->∃k,k<l.length/\Co (λy=>decide (x=y)) s l=((s+k:Nat):Int)/\l[k]?=some x/\l.takeWhile (λy=>decide (y≠x))=l.take k/\l.dropWhile (λy=>decide (y≠x))=l.drop k:=by
  intro l;induction l with
  |nil=>intro s h;cases h
  |cons z l ih=>
   intro s h;by_cases e:x=z;.subst e;exact⟨0,AH,by rw[Co,Af AH];simp,rfl,AH,AH⟩
   .have h2:x∈l:=(AS.1 h).resolve_left e;obtain⟨k,d,c,b,i,g⟩:=ih (s+1) h2;have f:z≠x:=λj=>e j.symm;refine⟨k+1,by simp;exact d,by rw[Co,Ad (by simpa using e),c];congr 1;omega,by simpa using b,?_,?_⟩;.rw[aLp,Af (by simpa using f),i];rfl
    .rw[aLq,Af (by simpa using f),g];rfl
 obtain⟨k,d,c,b⟩:=key l 0 hx;exact⟨k,d,by simpa using c,b⟩
def TB{l:List Int}{x:Int}{k:Nat}(hn:l.Nodup)(hk:l[k]?=some x):l.take k++l.drop (k+1)=l.filter λy=>decide (y≠x):=by
 obtain⟨hlt,e⟩:=An.1 hk;have c:l=l.take k++x::l.drop (k+1):=by conv=>lhs;rw[<-CH k l,AG hlt,e]
 rw[c,B3,B5] at hn;conv=>rhs;rw[c,DY,Hy,Ad AH]
 rw[aW.2 (λy hy=>by simpa using λb:y=x=>hn.2.2 y hy x AH b),aW.2 (λy hy=>by simpa using λb:y=x=>hn.2.1.1 (b▸hy))]
def aEv{id l k:Nat}(hl:0<l)(hk:k<=l):AD (.K6 1 false false true) [.CE id 0 l 1,I (k:Int)]=some (.CE id 0 k 1):=by
 have b:Fq (k:Int) l=some k:=by unfold Fq;rw[Af Ac];rfl
 simp[AD,Kp,Ed,b];omega
def aEw{id l k:Nat}(hk:k<=l):AD (.K6 1 false true false) [.CE id 0 l 1,I (k:Int)]=some (if k<l then .CE id k (l-k) 1 else .sl 1 []):=by
 have b:Fq (k:Int) l=some k:=by unfold Fq;rw[Af Ac];rfl
 simp[AD,Kp,Ed,b];split<;>rfl
def aIc{id k:Nat}{l:List Int}{cs:List Aa}(hc:h[id]?=some (.cells (l.map (Aa.int .i64)++cs)))(hk:k<l.length)(hb:l.length<=1000000000):
  ∃Hi,BG cx 363 [.CE id 0 l.length 1,I (k:Int),I ((k+1:Nat):Int)] h (.CE id 0 (l.length-1) 1) (h.set id (.cells ((l.take k++l.drop (k+1)).map (Aa.int .i64)++Hi))):=by
 have Im:=(An.1 hc).1;have b:(l.take k++l.drop (k+1)).length=l.length-1:=by rw[Au,Ax,Be];omega
 obtain⟨S4,q,hcl⟩:∃S4,Gj h 1 8 (.CE id 0 k 1) (if k+1<l.length then .CE id (k+1) (l.length-(k+1)) 1 else .sl 1 [])=some (h.set id (.cells ((l.take k++l.drop (k+1)).map (Aa.int .i64)++S4)),.CE id 0 (l.length-1) 1)/\1<=S4.length:=by
  have j:Hj h 1 (if k+1<l.length then .CE id (k+1) (l.length-(k+1)) 1 else .sl 1 [])=some ((l.drop (k+1)).map B8):=by
   by_cases QF:k+1<l.length;rotate_left;.rw[Ad QF,AZ Ac];rfl
   rw[Af QF];have d:=NL (l:=l.drop (k+1)) (cs:=cs) (Z4:=(l.take (k+1)).map (Aa.int .i64));rw[<-AI,<-Bu,CH] at d;simp only[Ao,Ax,Be] at d;rw[Cq Ac] at d;simp only[Hj,BJ,hc,d];rw[Af Ei]
  by_cases zl:k+1=l.length
  .refine⟨I l[k]::cs,?_,AH⟩;have o:l.drop (k+1)=[]:=AZ Ac;rw[o] at j⊢;have g:l.map (Aa.int .i64)++cs=(l.take k++[]).map (Aa.int .i64)++ I l[k]::cs:=by
    have:l=l.take k++[l[k]]:=by conv=>lhs;rw[<-CH k l,AG hk,o]
    conv=>lhs;rw[this,Bu,AI]
    rw[By];rfl
   have p:h.set id (.cells ((l.take k++[]).map (Aa.int .i64)++ I l[k]::cs))=h:=by rw[<-g];obtain⟨bU,v⟩:=An.1 hc;rw[<-v,J5]
   simp only[Gj,j,C4,BJ];rw[p,(Ac:l.length-1=k)]
  .obtain⟨y,c,hd⟩:∃y c,l.drop (k+1)=y::c:=⟨_,_,AG (Ac:k+1<l.length)⟩;have fx:(y::c).length=l.length-(k+1):=by rw[<-hd,Be]
   rw[hd] at j;have aId:∀l3:List Int,(l3.map B8).flatten=l3.map (Aa.int .i64):=by
    intro l3;induction l3 with
    |nil=>rfl
    |cons z l3 ih=>simp[B8,ih]
   refine⟨(l.map (Aa.int .i64)++cs).drop (l.length-1),?_,Ei⟩;simp only[Gj,j,Bj,hc,BJ];have u:(B8 y::c.map B8).length=l.length-(k+1):=by rw[<-fx];simp
   have t:(B8 y::c.map B8).flatten=(y::c).map (Aa.int .i64):=by have:=aId (y::c);simpa using this
   rw[u,t,Af Ei];have s:(l.map (Aa.int .i64)++cs).take (0+k*1)=(l.take k).map (Aa.int .i64):=by rw[BW,FI,CM Ei,Gq]
   rw[s,hd,(Ac:0+(k+(l.length-(k+1)))*1=l.length-1),(Ac:k+(l.length-(k+1))=l.length-1)];simp
 generalize e:h.set id (.cells ((l.take k++l.drop (k+1)).map (Aa.int .i64)++S4))=h2 at q;have I7:h2[id]?=some (.cells ((l.take k++l.drop (k+1)).map (Aa.int .i64)++S4)):=by rw[<-e];exact AO Im
 have o:Ep (.jf 1 true true) h2 [.CE id 0 (l.length-1) 1,I ((l.length-1:Nat):Int),I (l.length:Int)]=some (h2,.CE id (l.length-1) 1 1):=by
  simp only[Ep,nK,I7];have xC:((l.take k++l.drop (k+1)).map (Aa.int .i64)++S4).length=l.length-1+S4.length:=by rw[Au,Ao,b]
  have w:Fq (l.length:Int) ((((l.take k++l.drop (k+1)).map (Aa.int .i64)++S4).length-0)/1)=some l.length:=by unfold Fq;rw[Af (by rw[xC];omega)];rfl
  have d:Fq ((l.length-1:Nat):Int) l.length=some (l.length-1):=by unfold Fq;rw[Af Ac];rfl
  rw[Af ⟨trivial,trivial,AY _⟩];simp only[Ed,w,d,Ct,BY];rw[Af (by rw[xC];omega)];congr 3
  .omega
  .omega
 have r:Ep (.clear 1 [I 0]) h2 [.CE id (l.length-1) 1 1]=some (h.set id (.cells ((l.take k++l.drop (k+1)).map (Aa.int .i64)++(I 0::S4.drop 1))),.bool true):=by
  simp only[Ep,Xv,I7];rw[Af ⟨trivial,rfl,by rw[Au,Ao,b];omega⟩];congr 2
  rw[<-e,sF];congr 2
  have g:(((l.take k++l.drop (k+1)).map (Aa.int .i64)++S4).take (l.length-1))=(l.take k++l.drop (k+1)).map (Aa.int .i64):=H8 (by rw[Ao,b]);have p:(((l.take k++l.drop (k+1)).map (Aa.int .i64)++S4).drop (l.length-1+1*1))=S4.drop 1:=by rw[show l.length-1+1*1=((l.take k++l.drop (k+1)).map (Aa.int .i64)).length+1 by rw[Ao,b],TR];simp
  rw[g,p];simp
 refine⟨I 0::S4.drop 1,?_⟩;have f:∀i n,AD (.len false) [.CE i 0 n 1]=some (I (n:Int)):=λ_ _=>rfl;have g:Ep (.sV 1) h [.CE id 0 l.length 1,I (k:Int),I ((k+1:Nat):Int),I (l.length:Int)]=some (h,.bool true):=by simp only[Ep,Xw];simp;omega
 rw[Ae,kS];simp only[abS,f,g,(Ac:¬(k:Int)=((k+1:Nat):Int)),aEv (id:=id) (Ac:0<l.length) (Ac:k<=l.length),aEw (id:=id) (Ac:k+1<=l.length),q,o,r]
def zn:∀{n:Nat} {l:List Int},l.Nodup->(∀x∈l,1<=x/\x<=n)->l.length<=n
 |0,l,_,h=>by
  cases l with
  |nil=>simp
  |cons x l=>have:=h x AH;omega
 |n+1,l,hn,h=>by
  have ih:=zn (n:=n) (l:=l.filter λx=>decide (x≠(n:Int)+1)) (hn.filter _) (λx hx=>by
   have h1:=DL.1 hx;have h2:=h x h1.1;have c:x≠(n:Int)+1:=by simpa using h1.2
   omega)
  have key:∀{l:List Int},l.Nodup->l.length<=(l.filter λx=>decide (x≠(n:Int)+1)).length+1:=by
   intro l hl;induction l with
   |nil=>simp
   |cons x l ih=>
    rw[B5] at hl;rw[Hy];by_cases e:x=(n:Int)+1;.rw[Ad (by simp[e]),aW.2 (λy hy=>by simpa using λb:y=(n:Int)+1=>hl.1 (by rw[e,<-b];exact hy))];simp
    .rw[Af (by simpa using e)];have:=ih hl.2;simp only[Bd];omega
  have:=key hn;omega
def Zf{e:Int}(ok:EM A e)(x:Int):(A.nd x).Bc.length<=A.n.length:=by
 by_cases hx:A.has x;.refine zn (ok.Tm x hx).mn λk hk=>?_;exact(ok.Nl x hx k hk).1
 .rw[HR hx];exact AY _
def NS.Bc{e:Int}(b:NS A)(ok:EM A e)(x:Int):(A.nd x).Bc.length<=1000000000:=Br (Zf ok x) b.n
def NS.aNA{l:List Int}(b:NS A):NS (A.set x {A.nd x with Bc:=l}):=b.set (b.at_ x) (b.data x)
def NS.aNB{p:Int}(b:NS A):NS (A.set x {A.nd x with FV:=p}):=b.set (b.at_ x) (b.data x)
def NS.cut(b:NS A):NS (A.cut x):=by
 unfold Ar.cut;simp only;split;.exact b
 .exact NS.aNB b.aNA
def aIe{e:Int}(w:PA h a n m ps A)(l:NS A)(ok:EM A e)(hx:A.has x):
  ∃h' JI,BG cx 238 [Pt a 0,I x] h (.tuple []) h'/\PA h' a n m JI (A.cut x)/\DC h (λi=>i∈Gt a n m ps) h' (λi=>i∈Gt a n m JI):=by
 have hb:=l.Bc ok;by_cases hp:(A.nd x).FV=0
 .have u:A.cut x=A:=by unfold Ar.cut;simp only;rw[Af hp]
  refine⟨h,ps,?_,by rw[u];exact w,.refl⟩;rw[Ae,Xa];simp only[abS,(Jg w l hx).Ab,w.f1 hx,hp]
 .obtain⟨hq,hk⟩:=ok.FV x hx hp;generalize d:(A.nd x).FV=q at*;have hne:q≠x:=by rw[<-d];exact vN ok hx (by rw[d];exact hp)
  obtain⟨k,r,K,D,_,_⟩:=lW hk;have Nl:=w.Nl hq;have o:=aEu Nl.Sl (hb q) x;rw[K] at o;rcases fy:Nl with⟨_,e0⟩|⟨id,cs,b,hc⟩
  .rw[e0] at r;simp at r
  clear fy;rw[b] at o;obtain⟨Hi,r2⟩:=aIc hc r (hb q);rw[TB (ok.Tm q hq).mn D] at r2;have bJ:(A.nd q).Bc.length-1=((A.nd q).Bc.filter λy=>decide (y≠x)).length:=by rw[<-TB (ok.Tm q hq).mn D,Au,Ax,Be];omega
  rw[bJ] at r2;have ka:=(An.1 hc).1;have s:=(w.pn hq).2.1;generalize c:h.set id (.cells (((A.nd q).Bc.filter λy=>decide (y≠x)).map (Aa.int .i64)++Hi))=h1 at r2;have aIf:id∈Gt a n m ps:=LR (w.pn hq).2.2 (by rw[b];rfl);have aNC:id≠n:=by intro f;have:=w.nd;unfold Gt at this;simp only[B5,AS,NP] at this;exact this.2.1 (f▸Ay.2 (.inr (Cj.2 ⟨_,(w.pn hq).2.2,by rw[b];rfl⟩)))
  have aSX:id≠a:=by intro f;have:=w.nd;unfold Gt at this;simp only[B5,AS,NP] at this;exact this.1.2 (f▸Ay.2 (.inr (Cj.2 ⟨_,(w.pn hq).2.2,by rw[b];rfl⟩)))
  obtain⟨g,RC⟩:∃g:PN,g=⟨{A.nd q with Bc:=(A.nd q).Bc.filter λy=>decide (y≠x)},.CE id 0 ((A.nd q).Bc.filter λy=>decide (y≠x)).length 1,(pN ps q).av,w.ze hq⟩:=⟨_,rfl⟩;have aIg:g.row=(pN ps q).row.set 2 (.CE id 0 ((A.nd q).Bc.filter λy=>decide (y≠x)).length 1):=by rw[RC];simp only[PN.row];rw[s];rfl
  have z:h1[n]?=h[n]?:=by rw[<-c,As aNC]
  have B:=w.sto hq (k:=2) AP (v:= .CE id 0 ((A.nd q).Bc.filter λy=>decide (y≠x)).length 1) rfl aIg z;have aIh:HY g.kv=HY (pN ps q).kv:=by rw[RC,b];rfl
  have w1:=w.qi hq (p:=g) (h1:=h1) (λi _ hi=>by rw[<-c,As];intro f;exact hi (by rw[b,f];rfl)) (by rw[RC];exact .inr ⟨id,Hi,rfl,by rw[<-c];exact AO ka⟩) (.inl aIh)
  have aB5:=fq w hq aIh;generalize j:h1.set n (.cells ((ps.set (q.toNat-1) g).map PN.row).flatten)=h2 at B w1;generalize aSY:ps.set (q.toNat-1) g=nF at w1 aB5;have t:g.x={A.nd q with Bc:=(A.nd q).Bc.filter λy=>decide (y≠x)}:=by rw[RC]
  rw[t] at w1;have PD:(A.set q {A.nd q with Bc:=(A.nd q).Bc.filter λy=>decide (y≠x)}).has x:=ID.2 hx;have aO:=(w1.pn PD).2.1;have ND:(A.set q {A.nd q with Bc:=(A.nd q).Bc.filter λy=>decide (y≠x)}).nd x=A.nd x:=by rw[J2,Ad (λh=>hne h.1.symm)]
  obtain⟨L,G,E,i3,H,l3⟩:=w1.wr PD (k:=1) AP (v:= I 0) rfl (p:=⟨{A.nd x with FV:=0},(pN nF x).kv,(pN nF x).av,by have:=(pN nF x).ok;rw[aO,ND] at this;exact this⟩) (by simp only[PN.row];rw[aO,ND];rfl) rfl (Cc EW.Bc ND).symm;have u:A.cut x=(A.set q {A.nd q with Bc:=(A.nd q).Bc.filter λy=>decide (y≠x)}).set x {A.nd x with FV:=0}:=by unfold Ar.cut;simp only;rw[d,Ad hp,ND]
  refine⟨L,_,?_,by rw[u];exact E,?_⟩;.have inc:=BN (show k<9223372036854775807 by have:=hb q;omega);rw[Ae,Xa];simp only[abS,(Jg w l hx).Ab,(Jg w l hq).Ab,w.f1 hx,d,hp,w.f2 hq,b,o.Ab,inc,r2.Ab,B,G]
  .have aSZ:h2.length=h.length:=by rw[<-j,Bq,<-c,Bq]
   refine⟨Ac,λi hi V8=>?_,λi hi=> .inl (by rw[i3,aB5] at hi;exact hi)⟩;have C:i≠n:=λf=>V8 (f▸by simp[Gt]);have J:i≠id:=λf=>V8 (f▸aIf);rw[H i C,<-j,As (Dz C),<-c,As (Dz J)]
def rA{p:PN}(w:PA h a n m ps A)(hx:A.has x){i:Nat}(hi:i∈Gt a n m (ps.set (x.toNat-1) p)):i∈Gt a n m ps\/HY p.kv=some i:=by
 obtain⟨c,b⟩:=Za w hx p;unfold Gt at hi⊢;rw[b,EO] at hi;simp only[AS,Ay,Cj] at hi⊢;rcases hi with h1|h1|h1|⟨q,h1,h2⟩|⟨q,h1,h2⟩
 .exact .inl (.inl h1)
 .exact .inl (.inr (.inl h1))
 .exact .inl (.inr (.inr (.inl h1)))
 .exact .inl (.inr (.inr (.inr ⟨q,Bp h1,h2⟩)))
 .rcases h1 with rfl|h1
  .exact .inr h2
  .exact .inl (.inr (.inr (.inr ⟨q,BD h1,h2⟩)))
def zp{kv:Aa}{l:List Int}{k:Nat}(hk:KD h kv l)(QF:k<=l.length)(hb:l.length<=1000000000)(y:Int):
  ∃h1,Ep .rl h [kv,I (k:Int),.sl 1 [[I y]]]=some (h1,.CE h.length 0 (l.length+1) 1)/\h1[h.length]?=some (.cells ((l.take k++y::l.drop k).map (Aa.int .i64)))/\(∀i,i<h.length->HY kv≠some i->h1[i]?=h[i]?)/\h1.length=h.length+1:=by
 rcases hk with⟨rfl,rfl⟩|⟨id,cs,rfl,hc⟩
 .have:k=0:=by simpa using QF
  subst this;exact⟨h++[.cells [I y]],rfl,AH,λi hi _=>Ak hi,AH⟩
 .have Im:=(An.1 hc).1;refine⟨h.set id .CR++[.cells ((l.take k++y::l.drop k).map (Aa.int .i64))],?_,by rw[Bk AH];simp,λi hi hn=>?_,AH⟩
  .simp only[Ep,QC,hc];rw[Af (by have:AW=140737488355328:=rfl;simp;omega)];simp only[AX];have c:(l.map (Aa.int .i64)++cs).take k=(l.take k).map (Aa.int .i64):=by rw[CM (by simpa using QF),Gq]
   have b:(l.map (Aa.int .i64)++cs).take l.length=l.map (Aa.int .i64):=H8 AH;rw[c,b];simp
  .rw[Ak (by simpa using hi),As];intro e;exact hn (by rw[e];rfl)
def O8{p b:Int}(hf:¬xj A p x b):A.F0 p x b=A:=by unfold Ar.F0;rw[Ad hf]
def zq{l:List Int}{b y:Int}{k:Nat}(hb:b=0->k=l.length)(h2:b≠0->l.takeWhile (λy=>decide (y≠b))=l.take k/\l.dropWhile (λy=>decide (y≠b))=l.drop k):Jm l b y=l.take k++y::l.drop k:=by
 unfold Jm;by_cases h0:b=0;.rw[Af h0,hb h0];simp
 .rw[Ad h0,(h2 h0).1,(h2 h0).2]
open Classical in
def aIi{e p b:Int}(w:PA h a n m ps A)(d:NS A)(ok:EM A e):
  ∃er h' JI,BG cx 111 [Pt a 0,I p,I x,I b] h (I er) h'/\PA h' a n m JI (A.F0 p x b)/\DC h (λi=>i∈Gt a n m ps) h' (λi=>i∈Gt a n m JI):=by
 by_cases aO:A.has p/\A.has x;rotate_left;.refine⟨3,h,ps,?_,by rw[O8 (λf=>aO ⟨f.hp,f.hn⟩)];exact w,.refl⟩;rw[Ae,Mp];simp only[abS,FO,(L9 (x:=p) (y:=x) w).Ab,Ad aO,B7,(AP:¬(3:Int)=0)]
 obtain⟨hp,hx⟩:=aO;by_cases hb:b≠0/\¬A.has b;.refine⟨3,h,ps,?_,by rw[O8 (λf=>hb.2 (f.hb hb.1).1)];exact w,.refl⟩;rw[Ae,Mp];simp only[abS,FO,(L9 (x:=p) (y:=x) w).Ab,Af (And.intro hp hx),B7,CF,hb.1,(Wm (x:=b) w).Ab,Ah hb.2,A0]
 have QH:b=0\/(b≠0/\A.has b):=by
  by_cases h0:b=0;.exact .inl h0
  .refine .inr ⟨h0,?_⟩;by_cases h1:A.has b;.exact h1
   .exact absurd ⟨h0,h1⟩ hb
 by_cases kp:LO (A.nd p).kind;rotate_left
 .refine⟨4,h,ps,?_,by rw[O8 (λf=>kp f.kp)];exact w,.refl⟩;unfold LO at kp;have c:¬(A.nd p).kind=1:=λe=>kp (.inl e);have t:¬(A.nd p).kind=2:=λe=>kp (.inr (.inl e));have H:¬(A.nd p).kind=4:=λe=>kp (.inr (.inr e));rw[Ae,Mp];rcases QH with h0|⟨h0,OC⟩
  .simp only[abS,FO,(L9 (x:=p) (y:=x) w).Ab,Af (And.intro hp hx),B7,CF,(Jg w d hp).Ab,(Jg w d hx).Ab,w.f0 hp,w.f0 hx,c,A0,h0,t,H]
  .simp only[abS,FO,(L9 (x:=p) (y:=x) w).Ab,Af (And.intro hp hx),B7,CF,(Jg w d hp).Ab,(Jg w d hx).Ab,w.f0 hp,w.f0 hx,c,A0,h0,(Wm (x:=b) w).Ab,Al OC,t,H]
 by_cases kn:(A.nd x).kind=1\/(A.nd x).kind=2
 .refine⟨4,h,ps,?_,by rw[O8 (λf=>by have:=f.kn;omega)];exact w,.refl⟩;rw[Ae,Mp];rcases kp with c|c|c<;>rcases kn with t|t<;>rcases QH with h0|⟨h0,OC⟩
  all_goals first|(simp only[abS,FO,(L9 (x:=p) (y:=x) w).Ab,Af (And.intro hp hx),B7,CF,(Jg w d hp).Ab,(Jg w d hx).Ab,w.f0 hp,w.f0 hx,c,(AP:¬(2:Int)=1),(AP:¬(4:Int)=1),(AP:¬(4:Int)=2),A0,h0,t];done)|simp only[abS,FO,(L9 (x:=p) (y:=x) w).Ab,Af (And.intro hp hx),B7,CF,(Jg w d hp).Ab,(Jg w d hx).Ab,w.f0 hp,w.f0 hx,c,(AP:¬(2:Int)=1),(AP:¬(4:Int)=1),(AP:¬(4:Int)=2),A0,h0,(Wm (x:=b) w).Ab,Al OC,t]
 have l:¬(A.nd x).kind=1:=λe=>kn (.inl e);have g:¬(A.nd x).kind=2:=λe=>kn (.inr e);have r:=aIb w ok hx hp;by_cases re:Reach A x p
 .refine⟨4,h,ps,?_,by rw[O8 (λf=>f.re re)];exact w,.refl⟩;rw[Al re] at r;rw[Ae,Mp];rcases kp with c|c|c<;>rcases QH with h0|⟨h0,OC⟩
  all_goals first|(simp only[abS,FO,(L9 (x:=p) (y:=x) w).Ab,Af (And.intro hp hx),B7,CF,(Jg w d hp).Ab,(Jg w d hx).Ab,w.f0 hp,w.f0 hx,c,(AP:¬(2:Int)=1),(AP:¬(4:Int)=1),(AP:¬(4:Int)=2),A0,h0,l,g,r.Ab];done)|simp only[abS,FO,(L9 (x:=p) (y:=x) w).Ab,Af (And.intro hp hx),B7,CF,(Jg w d hp).Ab,(Jg w d hx).Ab,w.f0 hp,w.f0 hx,c,(AP:¬(2:Int)=1),(AP:¬(4:Int)=1),(AP:¬(4:Int)=2),A0,h0,(Wm (x:=b) w).Ab,Al OC,l,g,r.Ab]
 rw[Ah re] at r;by_cases q:b≠0/\(b=x\/(A.nd b).FV≠p)
 .refine⟨5,h,ps,?_,by rw[O8 (λf=>by have:=f.hb q.1;rcases q.2 with h|h;exact this.2.1 h;exact h this.2.2)];exact w,.refl⟩;obtain⟨h0,q⟩:=q;have OC:=(QH.resolve_left h0).2;rw[Ae,Mp];by_cases o:b=x;.have aS0:=o;rcases kp with c|c|c<;>simp only[abS,FO,(L9 (x:=p) (y:=x) w).Ab,Af (And.intro hp hx),B7,CF,(Jg w d hp).Ab,(Jg w d hx).Ab,w.f0 hp,w.f0 hx,c,(AP:¬(2:Int)=1),(AP:¬(4:Int)=1),(AP:¬(4:Int)=2),A0,l,g,r.Ab,o,show¬x=0 from o▸h0,Al hx,(Wm (x:=x) w).Ab]
  .have q:=q.resolve_left o;rcases kp with c|c|c<;>simp only[abS,FO,(L9 (x:=p) (y:=x) w).Ab,Af (And.intro hp hx),B7,CF,(Jg w d hp).Ab,(Jg w d hx).Ab,w.f0 hp,w.f0 hx,c,(AP:¬(2:Int)=1),(AP:¬(4:Int)=1),(AP:¬(4:Int)=2),A0,h0,(Wm (x:=b) w).Ab,Al OC,l,g,r.Ab,o,(Jg w d OC).Ab,w.f1 OC,q]
 have fits:xj A p x b:=⟨hp,hx,λh0=>⟨(QH.resolve_left h0).2,λe=>q ⟨h0,.inl e⟩,by
  by_cases h1:(A.nd b).FV=p;.exact h1
  .exact absurd ⟨h0,.inr h1⟩ q⟩,kp,⟨l,g⟩,re⟩
 have hA:A.F0 p x b=(A.cut x).Na p x b:=by unfold Ar.F0;rw[Af fits]
 obtain⟨h1,nF,R,w1,V⟩:=aIe w d ok hx;have Wo:=vO ok hx g;have K:=d.cut (x:=x);have RC:(A.cut x).has p:=Ly.2 hp;have PD:(A.cut x).has x:=Ly.2 hx;have L:x≠p:=by rintro rfl;exact re .refl
 have D:=K.Bc Wo p;obtain⟨k,QF,C,ÿ⟩:∃k,k<=((A.cut x).nd p).Bc.length/\(b=0->k=((A.cut x).nd p).Bc.length)/\(b≠0->Co (λy=>decide (b=y)) 0 ((A.cut x).nd p).Bc=(k:Int)/\((A.cut x).nd p).Bc.takeWhile (λy=>decide (y≠b))=((A.cut x).nd p).Bc.take k/\((A.cut x).nd p).Bc.dropWhile (λy=>decide (y≠b))=((A.cut x).nd p).Bc.drop k):=by
  by_cases h0:b=0;.exact⟨_,Ag _,λ_=>rfl,λh=>absurd h0 h⟩
  .have u:=fits.hb h0;have zr:((A.cut x).nd b).FV=p:=by
    rw[Sg ok hx,Ad u.2.1];split;.exact u.2.2
    .exact u.2.2
   have aAk:b∈((A.cut x).nd p).Bc:=by have:=(Wo.FV b (Ly.2 u.1) (by rw[zr];have:=hp.1;omega)).2;rwa [zr] at this
   obtain⟨k,c,t,_,H,Y⟩:=lW aAk;exact⟨k,Ac,λh=>absurd h h0,λ_=>⟨t,H,Y⟩⟩
 have R2:=zq (y:=x) C λh=>(ÿ h).2;have Nl:=w1.Nl RC;obtain⟨h2,O,I7,ZK,bU⟩:=zp Nl QF D x;have M:=(w1.pn RC).2.1;obtain⟨s,ny⟩:∃s:PN,s=⟨{(A.cut x).nd p with Bc:=Jm ((A.cut x).nd p).Bc b x},.CE h1.length 0 (((A.cut x).nd p).Bc.length+1) 1,(pN nF p).av,w1.ze RC⟩:=⟨_,rfl⟩;have B:s.x={(A.cut x).nd p with Bc:=Jm ((A.cut x).nd p).Bc b x}:=by rw[ny]
 have hrow:s.row=(pN nF p).row.set 2 (.CE h1.length 0 (((A.cut x).nd p).Bc.length+1) 1):=by rw[ny];simp only[PN.row];rw[M];rfl
 have aIk:n∈Gt a n m nF:=by simp[Gt]
 have N:HY (pN nF p).kv≠some n:=by intro G;have:=w1.nd;unfold Gt at this;simp only[B5,AS,NP] at this;exact this.2.1 (Ay.2 (.inr (Cj.2 ⟨_,(w1.pn RC).2.2,G⟩)))
 have J:=w1.sto RC (k:=2) AP (v:= .CE h1.length 0 (((A.cut x).nd p).Bc.length+1) 1) rfl hrow (ZK n (w1.lt n aIk) N);have hlen:(Jm ((A.cut x).nd p).Bc b x).length=((A.cut x).nd p).Bc.length+1:=by rw[R2,Au,Bd,Ax,Be];omega
 have z:=w1.qi RC (p:=s) (h1:=h2) (λi hi hn=>ZK i (w1.lt i hi) hn) (by rw[ny];refine .inr ⟨h1.length,[],by simp only[hlen],?_⟩;simp only[R2,By];exact I7) (.inr λj hj=>by rw[ny] at hj;cases hj;exact Ag _)
 have PC:∀i,i∈Gt a n m (nF.set (p.toNat-1) s)->i∈Gt a n m nF\/i=h1.length:=by
  intro i hi;rcases rA w1 RC hi with h|h
  .exact .inl h
  .rw[ny] at h;cases h;exact .inr rfl
 generalize E:h2.set n (.cells ((nF.set (p.toNat-1) s).map PN.row).flatten)=h3 at J z;generalize aS3:nF.set (p.toNat-1) s=wZ at z PC;rw[B] at z;have fG:((A.cut x).set p {(A.cut x).nd p with Bc:=Jm ((A.cut x).nd p).Bc b x}).has x:=ID.2 PD;have TY:((A.cut x).set p {(A.cut x).nd p with Bc:=Jm ((A.cut x).nd p).Bc b x}).nd x=(A.cut x).nd x:=by rw[J2,Ad (λh=>L h.1)]
 have aO:=(z.pn fG).2.1;obtain⟨T,P,W,Z,X,l4⟩:=z.wr fG (k:=1) AP (v:= I p) rfl (p:=⟨{(A.cut x).nd x with FV:=p},(pN wZ x).kv,(pN wZ x).av,by have:=(pN wZ x).ok;rw[aO,TY] at this;exact this⟩) (by simp only[PN.row];rw[aO,TY];rfl) rfl (Cc EW.Bc TY).symm;have aIl:(A.cut x).Na p x b=((A.cut x).set p {(A.cut x).nd p with Bc:=Jm ((A.cut x).nd p).Bc b x}).set x {(A.cut x).nd x with FV:=p}:=by unfold Ar.Na;simp only;rw[TY]
 refine⟨0,T,_,?_,by rw[hA,aIl];exact W,?_⟩
 .rw[Ae,Mp];by_cases h0:b=0;.rw[C h0] at O;have kl:=Nl.len;rcases kp with c|c|c<;>simp only[abS,FO,(L9 (x:=p) (y:=x) w).Ab,Af (And.intro hp hx),B7,CF,(Jg w d hp).Ab,(Jg w d hx).Ab,w.f0 hp,w.f0 hx,c,(AP:¬(2:Int)=1),(AP:¬(4:Int)=1),(AP:¬(4:Int)=2),A0,h0,l,g,r.Ab,R.Ab,w1.f2 RC,kl,HI,O,J,P]
  .have u:=fits.hb h0;have OC:=u.1;have Q:=aEu Nl.Sl D b;rw[(ÿ h0).1] at Q;have kl:=Nl.len;rcases kp with c|c|c<;>simp only[abS,FO,(L9 (x:=p) (y:=x) w).Ab,Af (And.intro hp hx),B7,CF,(Jg w d hp).Ab,(Jg w d hx).Ab,w.f0 hp,w.f0 hx,c,(AP:¬(2:Int)=1),(AP:¬(4:Int)=1),(AP:¬(4:Int)=2),A0,h0,(Wm (x:=b) w).Ab,Al OC,l,g,r.Ab,u.2.1,(Jg w d OC).Ab,w.f1 OC,u.2.2,R.Ab,w1.f2 RC,kl,Q.Ab,HI,O,J,P]
 .have nE:h3.length=h1.length+1:=by rw[<-E,Bq,bU]
  have U:DC h1 (λi=>i∈Gt a n m nF) T (λi=>i∈Gt a n m (wZ.set (x.toNat-1) ⟨{(A.cut x).nd x with FV:=p},(pN wZ x).kv,(pN wZ x).av,by have:=(pN wZ x).ok;rw[aO,TY] at this;exact this⟩)):=by
   refine⟨Ac,λi hi V8=>?_,λi hi=>?_⟩;.have S:i≠n:=λG=>V8 (G▸aIk);rw[X i S,<-E,As (Dz S)];exact ZK i hi λG=>V8 (LR (w1.pn RC).2.2 G)
   .rw[Z] at hi;rcases PC i hi with h|h
    .exact .inl h
    .exact .inr Ac
  exact V.trans U
end
def Ju(a:Nat)(b:BS)(o c t:Aa):List Aa:=[Pt a 0,I b.CG,o,c,I b.mode,I b.Si,t,I b.head,I b.NH,.bool b.Mo,I b.ctx.node,I b.ctx.Bb,.str b.ctx.name,.bool b.ctx.Og,.bool b.fs,.bool b.EX,.str b.qG,.bool b.skip,I b.sw,.bool b.stop]
def Sn(l:List Int)(v:Aa):Prop:=DX l v\/(v= .Gl 1/\l=[])
def TC(l:List Int)(v:Aa):Prop:=Sn l v/\v≠ .sl 1 []
section
variable{h:Ai}{l:List Int}{v:Aa}
def Sn.cells(t:Sn l v):v.cells=[v]:=by
 rcases t with t|⟨rfl,_⟩
 .exact AU.cells t
 .rfl
def Sn.len(t:Sn l v):AD (.len false) [v]=some (I (l.length:Int)):=by
 rcases t with t|⟨rfl,rfl⟩
 .exact AU.CN t
 .rfl
def Sn.ne(t:Sn l v)(hne:l≠[]):DX l v:=by
 rcases t with t|⟨_,e⟩
 .exact t
 .exact absurd e hne
def Sn.Sl(t:Sn l v):Qs h v l:=⟨t.len,λk hk=>(DX.Sl (t.ne (λe=>by rw[e] at hk;simp at hk))).at_ k hk⟩
def Sn.FL(t:Sn l v)(hb:l.length*8<=AW):∃u,AD (.append 1 8) [.slnil,v]=some u/\DX l u:=by
 rcases t with t|⟨rfl,rfl⟩
 .exact AU.FL t hb
 .exact⟨.slnil,rfl,.inr ⟨rfl,rfl⟩⟩
def Sn.pJ(t:Sn l v)(m:Int)(hb:(l.length+1)*8<=AW):AD (.append 1 8) [v,.sl 1 [B8 m]]=some (.sl 1 ((l++[m]).map B8)):=by
 rcases t with t|⟨rfl,rfl⟩
 .exact AU.JD t hb
 .rfl
def TC.tX{m:Int}:TC (l++[m]) (.sl 1 ((l++[m]).map B8)):=⟨.inl .mk,λe=>by injection e with _ e;simp at e⟩
def TC.nil:TC [] .slnil:=⟨.inl (.inr ⟨rfl,rfl⟩),nofun⟩
end
structure BX(h:Ai)(bi a:Nat)(o c t:Aa)(G:Nat->Prop)(b:BS):Prop where
 hb:h[bi]?=some (.cells (Ju a b o c t))
 o:BZ b.AQ o
 t:TC b.tm t
 w:PW h G a b.a
 nb:¬G bi
section
variable{h:Ai}{bi a:Nat}{o c t:Aa}{G F:Nat->Prop}{b:BS}{x:Int}{m:Nat}
def BX.lt(w:BX h bi a o c t G b):bi<h.length:=(An.1 w.hb).1
def BX.Dl{h':Ai}(w:BX h bi a o c t G b)(hf:∀i,i=bi\/G i->h'[i]?=h[i]?):BX h' bi a o c t G b:=
 ⟨by rw[hf bi (.inl rfl)];exact w.hb,w.o,w.t,w.w.Dl λi hi=>hf i (.inr hi),w.nb⟩
def BX.HQ(w:BX h bi a o c t G b){u:Ai}:BX (h++u) bi a o c t G b:=w.Dl λi hi=>Ak (by rcases hi with rfl|hi;exact w.lt;exact w.w.lt hi)
def BX.ld(w:BX h bi a o c t G b)(k:Nat):A7 h none (Pt bi k)=(Ju a b o c t)[k]?:=by simp only[A7,w.hb,E8]
def BX.l0(w:BX h bi a o c t G b):A7 h none (Pt bi 0)=some (Pt a 0):=w.ld 0
def BX.l1(w:BX h bi a o c t G b):A7 h none (Pt bi 1)=some (I b.CG):=w.ld 1
def BX.l4(w:BX h bi a o c t G b):A7 h none (Pt bi 4)=some (I b.mode):=w.ld 4
def BX.l7(w:BX h bi a o c t G b):A7 h none (Pt bi 7)=some (I b.head):=w.ld 7
def BX.l9(w:BX h bi a o c t G b):A7 h none (Pt bi 9)=some (.bool b.Mo):=w.ld 9
def BX.ç(w:BX h bi a o c t G b):A7 h none (Pt bi 15)=some (.bool b.EX):=w.ld 15
def BX.l3(w:BX h bi a o c t G b):A7 h none (Pt bi 3)=some c:=w.ld 3
def BX.l6(w:BX h bi a o c t G b):A7 h none (Pt bi 6)=some t:=w.ld 6
def BX.atO(w:BX h bi a o c t G b):At h bi 2 o:=⟨_,w.hb,rfl⟩
def BX.sQ(w:BX h bi a o c t G b):At h bi 3 c:=⟨_,w.hb,rfl⟩
def BX.sO(w:BX h bi a o c t G b):Mm h bi 2 b.AQ:=⟨o,w.atO,w.o⟩
def BX.sA(w:BX h bi a o c t G b):me h (Pt bi 2) b.AQ:=w.sO.at
def IH(w:BX h bi a o c t G b):BG cx 146 [Pt bi 0] h (.bool true) h:=by rw[Ae,iD];simp only[abS,w.l0]
def PW.pa{A:Ar}(w:PW h G a A):∃n m ps,PA h a n m ps A:=let⟨n,m,ps,w,_⟩:=w;⟨n,m,ps,w⟩
def Wp(w:BX h bi a o c t G b)(ok:BA b)(rm:BM b m)(x:Int):∃K V u,BG cx 172 [Pt bi 0,I x] h (.agg [I (b.a.nd x).kind,I (b.a.nd x).FV,K,I (b.a.nd x).CG,I (b.a.nd x).Bb,.str (b.a.nd x).name,V,.str (b.a.nd x).data,.str (b.a.nd x).qp,.str (b.a.nd x).sys,.bool (b.a.nd x).CL,I (b.a.nd x).cont,I (b.a.nd x).Eo]) (h++u)/\DX (b.a.nd x).Bc K/\Jh (h++u) V (b.a.nd x).Av/\Up h.length V:=by obtain⟨n,m',ps,d⟩:=w.w.pa;obtain⟨r,u,e,K,V,rfl,g,f⟩:=aHZ (x:=x) d rm.ZR (rm.ZR.Bc ok.ok x);refine⟨K,V,u,?_,g,f⟩;rw[Ae,iJ];simp only[abS,w.l0,e.Ab]
def aIm(w:BX h bi a o c t G b)(rm:BM b m):BG cx 187 [Pt bi 0] h (.agg (Fy b.AQ).row) h:=by have:=rm.AQ;rw[Ae,iW];simp only[abS,E9,(IH w).Ab,(f39 w.sA Ac).Ab]
def aIn(w:BX h bi a o c t G b)(ok:BA b)(rm:BM b m):BG cx 320 [Pt bi 0] h (.tuple [I b.Ko.1,I b.Ko.2]) h:=by
 have hl:=rm.AQ;obtain⟨n,m',ps,g⟩:=w.w.pa;have f:=aAa w.sA (Ac:b.AQ.length<=1000000000) Fa;have r2:=aAa w.sA (Ac:b.AQ.length<=1000000000) AM;have b1:=Lh (q:=Bw [Fa]) (l:=b.AQ);have b2:=Lh (q:=Bw [AM]) (l:=b.AQ);unfold BS.Ko;simp only
 generalize AV (Bw [Fa]) b.AQ=d at f b1⊢;generalize AV (Bw [AM]) b.AQ=i at r2 b2⊢;rw[Ae,jY];simp only[BE,f.Ab,r2.Ab];refine⟨λh1=>?_,λh1=>⟨λh2=>?_,λh2=>?_⟩⟩;.rw[Af h1];simp only[BE,E9,(Wj w.sA i).Ab]
 .rw[Ad h1,Af h2];simp only[BE,E9,(Wj w.sA 0).Ab]
 .rw[Ad h1,Ad h2];simp only[abS,E9,(Wj w.sA d).Ab,w.l0,(aH0 (x:=(EI b.AQ d).node) g rm.ZR).Ab];refine⟨λe=>?_,λe=>?_⟩;.rw[Af e]
  .rw[Ad e];have j:(if d-1<0 then 0 else d-1)=max (d-1) 0:=Ac;simp only[BE,E9,Da (Ac: -9223372036854775808<=d-1) (Ac:d-1<9223372036854775808),fO,j,(Wj w.sA (max (d-1) 0)).Ab]
def cT:AD (.Dk 1) [S Fa,S Us,S Ut,S Uu,S wTr]=some (.sl 1 (HW.map Cu)):=Ea (ws:=HW) rfl AP
def xD{v:Aa}{ws:List Aj}(hv:Js ws v)(hn:ws.length<=1000000000)(a:Item)(h:Ai):BG cx 162 [.agg a.row,v] h (.bool (Bw ws a)) h:=by rw[Ae,iG];simp only[BE,E9,(ſ hv hn _ h).Ab,Bw];refine⟨λh1=>by simp[h1],λh1=>by simp[h1]⟩
def zt{A:Ar}{x:Int}(hk:(A.nd x).kind=4)(ws:List Aj):Bw ws ⟨0,(A.nd x).Bb,(A.nd x).name,false⟩=decide (Tn ws A x):=by
 by_cases h:Tn ws A x;.rw[Al h];unfold Bw;rw[Al];exact⟨h.2.1,h.2.2⟩
 .rw[Ah h];unfold Bw;rw[Ah];exact λh2=>h ⟨hk,h2.1,h2.2⟩
def aAo(w:BX h bi a o c t G b)(ok:BA b)(rm:BM b m)(x:Int):∃u,BG cx 171 [Pt bi 0,I x] h (.tuple [I (b.place x).1,I (b.place x).2]) (h++u):=by
 have hl:=rm.AQ;by_cases C:x=0/\b.AQ=[]
 .refine⟨[],?_⟩;have D:b.place x=(b.CG,0):=by unfold BS.place;rw[Af C]
  rw[D,By,Ae,WX];simp only[abS,(IH w).Ab,C.1,C.2,CF,(Uz w.sA).Ab,Int.natCast_zero,w.l1]
 .obtain⟨t',ht⟩:∃t',t'=if x=0 then(Fy b.AQ).node else x:=⟨_,rfl⟩
  obtain⟨Z,X,r,U,_,_⟩:=Wp w ok rm t';have w1:=w.HQ (u:=r);have D:b.place x=if(b.a.nd (if b.EX=true/\Tn HW b.a t' then b.Ko else(t',0)).1).cont≠0 then((b.a.nd (if b.EX=true/\Tn HW b.a t' then b.Ko else(t',0)).1).cont,0) else if b.EX=true/\Tn HW b.a t' then b.Ko else(t',0):=by unfold BS.place;rw[Ad C,<-ht]
  obtain⟨pb,cN⟩:∃pb,pb=if b.EX=true/\Tn HW b.a t' then b.Ko else(t',0):=⟨_,rfl⟩
  rw[<-cN] at D;obtain⟨Y,V,P,r2,_,_⟩:=Wp w1 ok rm pb.1;have T:=aIn w1 ok rm;have A:=xD (ws:=HW) C1 AP ⟨0,(b.a.nd t').Bb,(b.a.nd t').name,false⟩ (h++r);have em:∀s n,AD (.Ch [I 0,I 0,S [],ff] [(1,1),(2,1)]) [I s,.str n]=some (.agg (Item.row ⟨0,s,n,false⟩)):=λ_ _=>rfl;refine⟨r++P,?_⟩;rw[<-AI];have last:∀(y:Int×Int),y=pb->W cx (.call 172 [Pt bi 0,I y.1] λp=> .cells 13 p λd=> .op (.int .neq) [g d 11,I 0] λk=> .Gm k (.ret .ret [.tuple [g d 11,I 0]]) (.ret .ret [.tuple [I y.1,I y.2]])) (λj vs h1=>j=DU.ret/\vs=[.tuple [I (b.place x).1,I (b.place x).2]]/\h1=h++r++P) (h++r):=by
   rintro _ rfl;rw[D];simp only[BE,r2.Ab];refine⟨λh1=>?_,λh1=>?_⟩;.rw[Af h1]
   .rw[Ad h1]
  rw[Ae,WX];have ç:=w1.ç;have mid:W cx (.call 172 [Pt bi 0,I t'] λO=> .cells 13 O λq=> .OF 200009 (.op .JS [Pt bi 0] λN=> .op (.LC 15) [N] λv16=> .load none v16 λM=> .Gm M (.op (.int .eql) [g q 0,I 4] λL=> .Gm L (.op (.Ch [I 0,I 0,S [],ff] [(1,1),(2,1)]) [g q 4,g q 5] λK=> .op (.Dk 1) [S aVB,S aV1,S aVY,S aV2,S [116,114]] λv20=> .call 162 [K,v20] λJ=> .ret .normal [J]) (.ret .normal [ff])) (.ret .normal [ff])) (λx R=>match x with
    | .normal=> .OF 100046 (.Gm (g R 0) (.call 320 [Pt bi 0] λz=> .op (.ext 0) [z] λH=> .op (.ext 1) [z] λE=> .ret .normal [H,E]) (.ret .normal [I t',I 0])) (λx f=>match x with
     | .normal=> .call 172 [Pt bi 0,g f 0] λp=> .cells 13 p λd=> .op (.int .neq) [g d 11,I 0] λk=> .Gm k (.ret .ret [.tuple [g d 11,I 0]]) (.ret .ret [.tuple [g f 0,g f 1]])
     | .exit i=> .fail
     | .ret=> .ret .ret [.tuple [g f 0,g f 1]])
    | .exit i=> .fail
    | .ret=> .ret .ret [.tuple [I t',I 0]])) (λj vs h1=>j=DU.ret/\vs=[.tuple [I (b.place x).1,I (b.place x).2]]/\h1=h++r++P) h:=by
   rw[U.Ab];by_cases hf:b.EX=true
   .rw[hf] at ç;by_cases B:(b.a.nd t').kind=4
    .rw[zt B] at A;by_cases hw:Tn HW b.a t';.rw[Al hw] at A;rw[Af ⟨hf,hw⟩] at cN;have:=last b.Ko cN.symm;simp only[abS,ç,B,em,cT,A.Ab,T.Ab];simpa only[BE,ZP,Bd,BR] using this
     .rw[Ah hw] at A;rw[Ad (λh=>hw h.2)] at cN;have:=last (t',0) cN.symm;simp only[abS,ç,B,em,cT,A.Ab];simpa only[BE,ZP,Bd,BR] using this
    .rw[Ad (λh=>B h.2.1)] at cN;have:=last (t',0) cN.symm;simp only[abS,ç,B];simpa only[BE,ZP,Bd,BR] using this
   .rw[Ad (λh=>hf h.1)] at cN;have:=last (t',0) cN.symm;rw[show b.EX=false by simpa using hf] at ç;simp only[BE,ç];simpa only[BE,ZP,Bd,BR] using this
  by_cases h0:x=0
  .have hne:b.AQ≠[]:=λe=>C ⟨h0,e⟩;have Q:¬((b.AQ.length:Nat):Int)=0:=by have:=D7.2 hne;omega
   rw[Af h0] at ht;rw[ht] at mid;simp only[abS,(IH w).Ab];rw[h0] at mid⊢;simp only[abS,E9,(Uz w.sA).Ab,Q,(aIm w rm).Ab] at mid⊢;exact mid
  .rw[Ad h0] at ht;rw[ht] at mid;simp only[abS,(IH w).Ab,h0,DG] at mid⊢;exact mid
end
section
def nz{Q:HO}{h:Ai}{k:Aa->IT}:W cx (.PK k) Q h↔W cx (k (.map (some h.length))) Q (h++[.map (ft 0)]):=R6
section
variable{v:Aa}{l:List A5}{h:Ai}
def aNJ(hv:Bi l v)(hb:l.length<=1000)(sp:Int):∃u,BG cx 203 [I sp,v] h u (h++[.map (ft 11)])/\Bi (l.map (C6 sp)) u:=by
 have DH:AU 3 (l.map A5.row) v:=hv;have I9:Ev cx 203 [I sp,v] h λr h'=>h'=h++[.map (ft 11)]/\Bi (l.map (C6 sp)) r:=by
  unfold Ev;rw[jH,aHo];rw[nz];simp only[BE,Nat.reduceLeDiff,↓reduceIte,AT,Cd,vI,aG7,aG8,aG9,aHa,aHb,aHc,aHd,aHe,aHf,aHg,aDJ,DH.CN];refine Bm (λp:Nat×Aa=>[p.2,I (p.1:Int)]) (λp h1=>p.1<=l.length/\Bi ((l.take p.1).map (C6 sp)) p.2/\h1=h++[.map (ft 11)]) (λp=>l.length-p.1) (0,.slnil) rfl ⟨AY _,.nil,rfl⟩ ?_;rintro⟨n,u⟩ h1 ⟨hn,hu,rfl⟩;simp only at hn hu;rcases AR n l.length with hlt|Eh
  .have i1:(n:Int)<(l.length:Int):=by omega
   have GC:∀{q:List Aa},q=(C6 sp l[n]).row->∃w,AD (.append 3 40) [u,.sl 3 [q]]=some w/\Bi ((l.take (n+1)).map (C6 sp)) w:=by
    rintro _ rfl;refine⟨_,AU.JD (f:=A5.row) (a:=C6 sp l[n]) (b:=40) hu ?_,?_⟩;.simp[AW];omega
    .rw[AB hlt,Bu];exact .mk
   have inc:=BN (Ac:n<9223372036854775807);by_cases e:sp=2
   .subst e;cases c:Eb (Cp l[n].name Ip) with
    |some x=>obtain⟨w,d,hw⟩:=GC (q:=[I x.1,.str x.2,.str l[n].value]) (by simp only[C6,Kz,true_or,BJ,c,A5.row]);simp only[BE,Nat.reduceLeDiff,↓reduceIte,AT,i1,DH.BL hlt,Cd,A5.row,(aHD _).B6 rfl rfl,AA,Aw,Aq,MN,c,Ek,d,inc];exact AK.next (n+1,w) rfl ⟨hlt,hw,rfl⟩ Dv
    |none=>obtain⟨w,d,hw⟩:=GC (q:=[I 0,.str (Cp l[n].name Ip),.str l[n].value]) (by simp only[C6,Kz,true_or,BJ,c,A5.row]);simp only[BE,Nat.reduceLeDiff,↓reduceIte,AT,i1,DH.BL hlt,Cd,A5.row,(aHD _).B6 rfl rfl,AA,Aw,Aq,MN,c,Ek,d,inc];exact AK.next (n+1,w) rfl ⟨hlt,hw,rfl⟩ Dv
   by_cases g:sp=3
   .subst g;by_cases hd:l[n].name=aDK
    .have c:Eb Wf=none:=by decide
     obtain⟨w,d,hw⟩:=GC (q:=[I 0,.str Wf,.str l[n].value]) (by simp only[C6,Kz,hd,or_true,BJ,DF,c,A5.row,sC,e]);simp only[BE,Nat.reduceLeDiff,↓reduceIte,AT,i1,DH.BL hlt,Cd,A5.row,hd,(AP:¬(3:Int)=2),AA,Az,Aw,Aq,MN,c,Ek,d,inc];exact AK.next (n+1,w) rfl ⟨hlt,hw,rfl⟩ Dv
    .cases c:Eb l[n].name with
     |some x=>obtain⟨w,d,hw⟩:=GC (q:=[I x.1,.str x.2,.str l[n].value]) (by simp only[C6,Kz,hd,or_true,BJ,DF,c,A5.row,aCx,e]);simp only[BE,Nat.reduceLeDiff,↓reduceIte,AT,i1,DH.BL hlt,Cd,A5.row,hd,(AP:¬(3:Int)=2),AA,Az,Aw,Aq,MN,c,Ek,d,inc];exact AK.next (n+1,w) rfl ⟨hlt,hw,rfl⟩ Dv
     |none=>obtain⟨w,d,hw⟩:=GC (q:=[I 0,.str l[n].name,.str l[n].value]) (by simp only[C6,Kz,hd,or_true,BJ,DF,c,A5.row,aCx,e]);simp only[BE,Nat.reduceLeDiff,↓reduceIte,AT,i1,DH.BL hlt,Cd,A5.row,hd,(AP:¬(3:Int)=2),AA,Az,Aw,Aq,MN,c,Ek,d,inc];exact AK.next (n+1,w) rfl ⟨hlt,hw,rfl⟩ Dv
   .obtain⟨w,d,hw⟩:=GC (q:=[I 0,.str l[n].name,.str l[n].value]) (by simp only[C6,e,g,aFq,DF,A5.row]);cases c:Eb l[n].name with
    |some x=>simp only[BE,Nat.reduceLeDiff,↓reduceIte,AT,i1,DH.BL hlt,Cd,A5.row,e,g,AA,Az,Aw,Aq,MN,c,Ek,d,inc];exact AK.next (n+1,w) rfl ⟨hlt,hw,rfl⟩ Dv
    |none=>simp only[BE,Nat.reduceLeDiff,↓reduceIte,AT,i1,DH.BL hlt,Cd,A5.row,e,g,AA,Az,Aw,Aq,MN,c,Ek,d,inc];exact AK.next (n+1,w) rfl ⟨hlt,hw,rfl⟩ Dv
  .have i1:¬(n:Int)<(l.length:Int):=by omega
   rw[AF Eh] at hu;simp only[BE,Nat.reduceLeDiff,↓reduceIte,AT,i1,Az,Aw,Aq];exact⟨_,rfl,hu⟩
 obtain⟨r,h',hr,rfl,hu⟩:=I9.ret;exact⟨r,hr,hu⟩
def Wq{Q:HO}{s:Aj}{k:Aa->IT}:W cx (.B6 359 [.str aVc,.str s] k) Q h↔W cx (k (.str (Cp s Ip))) Q h:=by have e:=(aHB Of s CA).B6 (Q:=Q) (h:=h) (k:=k) rfl rfl;rw[Yz] at e;exact e
def UB{Q:HO}{s:Aj}{k:Aa->IT}(hs:s.length<9223372036854775807):W cx (.B6 139 [.str aVj,.str s] k) Q h↔W cx (k (.bool (decide (s∈Mn)))) Q h:=by rw[HH AP hs,ġ]
def aNK(hv:Bi l v)(hs:∀a∈l,a.name.length<=1000)(hb:l.length<=1000)(sp:Int):∃u,BG cx 230 [I sp,v] h u h/\Bi (l.map (C6 sp)) u:=by
 have DH:AU 3 (l.map A5.row) v:=hv;have I9:Ev cx 230 [I sp,v] h λr h'=>h'=h/\Bi (l.map (C6 sp)) r:=by
  unfold Ev;rw[Ř];refine Bm (λp:Nat×Aa=>[p.2,I (p.1:Int)]) (λp h1=>p.1<=l.length/\Bi ((l.take p.1).map (C6 sp)) p.2/\h1=h) (λp=>l.length-p.1) (0,.slnil) rfl ⟨AY _,.nil,rfl⟩ ?_;rintro⟨n,u⟩ h1 ⟨hn,hu,rfl⟩;simp only at hn hu;rcases AR n l.length with hlt|Eh
  .have i1:(n:Int)<(l.length:Int):=by omega
   have GC:∀{q:List Aa},q=(C6 sp l[n]).row->∃w,AD (.append 3 40) [u,.sl 3 [q]]=some w/\Bi ((l.take (n+1)).map (C6 sp)) w:=by
    rintro _ rfl;refine⟨_,AU.JD (f:=A5.row) (a:=C6 sp l[n]) (b:=40) hu ?_,?_⟩;.simp[AW];omega
    .rw[AB hlt,Bu];exact .mk
   have inc:=BN (Ac:n<9223372036854775807);have Pn:=hs _ (AN hlt);have aEy:∀nm,(sp=2\/sp=3)->Kz sp l[n].name=nm->C6 sp l[n]=match Eb nm with
     |some (s,m)=>⟨s,m,l[n].value⟩
     |none=>⟨0,nm,l[n].value⟩:=by
    rintro _ hsp rfl;rw[C6,Af hsp];rfl
   by_cases x:sp=2
   .subst x;have hnm:=aEy (Cp l[n].name Ip) (.inl rfl) rfl;have nG:(Cp l[n].name Ip).length<9223372036854775807:=by rw[Tg];omega
    generalize hg:Cp l[n].name Ip=nm at hnm nG;rcases Rv nm with⟨e,i,d⟩|⟨e,⟨g,i,d⟩|⟨g,⟨j,i,d⟩|⟨j,⟨k,d⟩|⟨k,⟨o,d⟩|⟨o,d⟩⟩⟩⟩⟩
    .obtain⟨w,c,hw⟩:=GC (q:=[I 4,.str (nm.drop 6),.str l[n].value]) (by rw[hnm];simp only[d,A5.row]);simp only[BE,Nat.reduceLeDiff,↓reduceIte,AT,DH.CN,i1,DH.BL hlt,Cd,A5.row,hg,Wq,(AP:¬(2:Int)=3),AA,Az,Aw,Aq,UB nG,e,sl6 i,Ek,c,inc];exact AK.next (n+1,w) rfl ⟨hlt,hw,rfl⟩ Dv
    .obtain⟨w,c,hw⟩:=GC (q:=[I 5,.str (nm.drop 4),.str l[n].value]) (by rw[hnm];simp only[d,A5.row]);simp only[BE,Nat.reduceLeDiff,↓reduceIte,AT,DH.CN,i1,DH.BL hlt,Cd,A5.row,hg,Wq,(AP:¬(2:Int)=3),AA,Az,Aw,Aq,UB nG,e,AL g,sl4 i,Ek,c,inc];exact AK.next (n+1,w) rfl ⟨hlt,hw,rfl⟩ Dv
    .obtain⟨w,c,hw⟩:=GC (q:=[I 5,.str (nm.drop 4),.str l[n].value]) (by rw[hnm];simp only[d,A5.row]);simp only[BE,Nat.reduceLeDiff,↓reduceIte,AT,DH.CN,i1,DH.BL hlt,Cd,A5.row,hg,Wq,(AP:¬(2:Int)=3),AA,Az,Aw,Aq,UB nG,e,g,AL j,sl4 i,Ek,c,inc];exact AK.next (n+1,w) rfl ⟨hlt,hw,rfl⟩ Dv
    .obtain⟨w,c,hw⟩:=GC (q:=[I 6,.str nm,.str l[n].value]) (by rw[hnm];simp only[d,A5.row]);simp only[BE,Nat.reduceLeDiff,↓reduceIte,AT,DH.CN,i1,DH.BL hlt,Cd,A5.row,hg,Wq,(AP:¬(2:Int)=3),AA,Az,Aw,Aq,UB nG,e,g,j,AL k,Ek,c,inc];exact AK.next (n+1,w) rfl ⟨hlt,hw,rfl⟩ Dv
    .obtain⟨w,c,hw⟩:=GC (q:=[I 6,.str vJ,.str l[n].value]) (by rw[hnm];simp only[d,A5.row]);simp only[BE,Nat.reduceLeDiff,↓reduceIte,AT,DH.CN,i1,DH.BL hlt,Cd,A5.row,hg,Wq,(AP:¬(2:Int)=3),AA,Az,Aw,Aq,UB nG,e,g,j,k,AL o,Ek,c,inc];exact AK.next (n+1,w) rfl ⟨hlt,hw,rfl⟩ Dv
    .obtain⟨w,c,hw⟩:=GC (q:=[I 0,.str nm,.str l[n].value]) (by rw[hnm];simp only[d,A5.row]);simp only[BE,Nat.reduceLeDiff,↓reduceIte,AT,DH.CN,i1,DH.BL hlt,Cd,A5.row,hg,Wq,(AP:¬(2:Int)=3),AA,Az,Aw,Aq,UB nG,e,g,j,k,o,Ek,c,inc];exact AK.next (n+1,w) rfl ⟨hlt,hw,rfl⟩ Dv
   by_cases t:sp=3
   .subst t;by_cases hd:l[n].name=aDK;.have hnm:=aEy Wf (.inr rfl) (by rw[Kz,Ad AP,Af ⟨rfl,hd⟩]);rw[(AP:Eb Wf=none)] at hnm;obtain⟨w,c,hw⟩:=GC (q:=[I 0,.str Wf,.str l[n].value]) (by rw[hnm];rfl);have nG:Wf.length<9223372036854775807:=AP;simp only[BE,Nat.reduceLeDiff,↓reduceIte,AT,DH.CN,i1,DH.BL hlt,Cd,A5.row,hd,(AP:¬(3:Int)=2),AA,Az,Aw,Aq,UB nG,(AP:Wf∉Mn),(AP:¬Wf=pW),(AP:¬Wf=YF),(AP:¬Wf=pX),(AP:¬Wf=YG),Ek,c,inc];exact AK.next (n+1,w) rfl ⟨hlt,hw,rfl⟩ Dv
    have hnm:=aEy l[n].name (.inr rfl) (by rw[Kz,Ad AP,Ad (λh=>hd h.2)]);have nG:l[n].name.length<9223372036854775807:=Ac;rcases Rv l[n].name with⟨e,i,d⟩|⟨e,⟨g,i,d⟩|⟨g,⟨j,i,d⟩|⟨j,⟨k,d⟩|⟨k,⟨o,d⟩|⟨o,d⟩⟩⟩⟩⟩
    .obtain⟨w,c,hw⟩:=GC (q:=[I 4,.str (l[n].name.drop 6),.str l[n].value]) (by rw[hnm];simp only[d,A5.row]);simp only[BE,Nat.reduceLeDiff,↓reduceIte,AT,DH.CN,i1,DH.BL hlt,Cd,A5.row,hd,Wq,(AP:¬(3:Int)=2),AA,Az,Aw,Aq,UB nG,e,sl6 i,Ek,c,inc];exact AK.next (n+1,w) rfl ⟨hlt,hw,rfl⟩ Dv
    .obtain⟨w,c,hw⟩:=GC (q:=[I 5,.str (l[n].name.drop 4),.str l[n].value]) (by rw[hnm];simp only[d,A5.row]);simp only[BE,Nat.reduceLeDiff,↓reduceIte,AT,DH.CN,i1,DH.BL hlt,Cd,A5.row,hd,Wq,(AP:¬(3:Int)=2),AA,Az,Aw,Aq,UB nG,e,AL g,sl4 i,Ek,c,inc];exact AK.next (n+1,w) rfl ⟨hlt,hw,rfl⟩ Dv
    .obtain⟨w,c,hw⟩:=GC (q:=[I 5,.str (l[n].name.drop 4),.str l[n].value]) (by rw[hnm];simp only[d,A5.row]);simp only[BE,Nat.reduceLeDiff,↓reduceIte,AT,DH.CN,i1,DH.BL hlt,Cd,A5.row,hd,Wq,(AP:¬(3:Int)=2),AA,Az,Aw,Aq,UB nG,e,g,AL j,sl4 i,Ek,c,inc];exact AK.next (n+1,w) rfl ⟨hlt,hw,rfl⟩ Dv
    .obtain⟨w,c,hw⟩:=GC (q:=[I 6,.str l[n].name,.str l[n].value]) (by rw[hnm];simp only[d,A5.row]);simp only[BE,Nat.reduceLeDiff,↓reduceIte,AT,DH.CN,i1,DH.BL hlt,Cd,A5.row,hd,Wq,(AP:¬(3:Int)=2),AA,Az,Aw,Aq,UB nG,e,g,j,AL k,Ek,c,inc];exact AK.next (n+1,w) rfl ⟨hlt,hw,rfl⟩ Dv
    .obtain⟨w,c,hw⟩:=GC (q:=[I 6,.str vJ,.str l[n].value]) (by rw[hnm];simp only[d,A5.row]);simp only[BE,Nat.reduceLeDiff,↓reduceIte,AT,DH.CN,i1,DH.BL hlt,Cd,A5.row,hd,Wq,(AP:¬(3:Int)=2),AA,Az,Aw,Aq,UB nG,e,g,j,k,AL o,Ek,c,inc];exact AK.next (n+1,w) rfl ⟨hlt,hw,rfl⟩ Dv
    .obtain⟨w,c,hw⟩:=GC (q:=[I 0,.str l[n].name,.str l[n].value]) (by rw[hnm];simp only[d,A5.row]);simp only[BE,Nat.reduceLeDiff,↓reduceIte,AT,DH.CN,i1,DH.BL hlt,Cd,A5.row,hd,Wq,(AP:¬(3:Int)=2),AA,Az,Aw,Aq,UB nG,e,g,j,k,o,Ek,c,inc];exact AK.next (n+1,w) rfl ⟨hlt,hw,rfl⟩ Dv
   .obtain⟨w,c,hw⟩:=GC (q:=[I 0,.str l[n].name,.str l[n].value]) (by simp only[C6,x,t,aFq,DF,A5.row]);simp only[BE,Nat.reduceLeDiff,↓reduceIte,AT,DH.CN,i1,DH.BL hlt,Cd,A5.row,x,t,AA,Az,Aw,Aq,Ek,c,inc];exact AK.next (n+1,w) rfl ⟨hlt,hw,rfl⟩ Dv
  .have i1:¬(n:Int)<(l.length:Int):=by omega
   rw[AF Eh] at hu;simp only[BE,Nat.reduceLeDiff,↓reduceIte,AT,DH.CN,i1,Az,Aw,Aq];exact⟨_,rfl,hu⟩
 obtain⟨r,h',hr,rfl,hu⟩:=I9.ret;exact⟨r,hr,hu⟩
end
end
def Bs(bi:Nat)(G:Nat->Prop):Nat->Prop:=λi=>i=bi\/G i
section
variable{h h':Ai}{bi a:Nat}{o c t:Aa}{G G' F:Nat->Prop}{b:BS}{x:Int}{m:Nat}
def DC.aB7(x:DC h G h' G'):DC h (Am.Bs bi G) h' (Am.Bs bi G'):=⟨x.len,λi hi hn=>x.old i hi λhg=>hn (.inr hg),λi hi=>by
 rcases hi with rfl|hi
 .exact .inl (.inl rfl)
 .rcases x.Bs i hi with h|h
  .exact .inl (.inr h)
  .exact .inr h⟩
def BX.f_{A':Ar}(w:BX h bi a o c t G b)(hp:PW h' G' a A')(x:DC h G h' G'):BX h' bi a o c t G' {b with a:=A'}/\DC h (Bs bi G) h' (Bs bi G'):=
 ⟨⟨by rw[x.old bi w.lt w.nb];exact w.hb,w.o,w.t,hp,λhg=>by rcases x.Bs bi hg with h|h;exact w.nb h;have:=w.lt;omega⟩,x.aB7⟩
def BX.step{A':Ar}{R:Ai->Prop}(w:BX h bi a o c t G b)(d:∀n m ps,PA h a n m ps b.a->∃h' n' m' JI,R h'/\PA h' a n' m' JI A'/\DC h (λi=>i∈Gt a n m ps) h' (λi=>i∈Gt a n' m' JI)):
  ∃h' G',R h'/\BX h' bi a o c t G' {b with a:=A'}/\DC h (Bs bi G) h' (Bs bi G'):=by
 obtain⟨n,m,ps,g,e⟩:=w.w;obtain⟨h',n',m',JI,r,w',x⟩:=d n m ps g;have k:G=λi=>i∈Gt a n m ps:=funext λi=>propext (e i);obtain⟨j,f⟩:=w.f_ w'.pw (by rw[k];exact x);exact⟨h',_,r,j,f⟩
def BX.C2(w:BX h bi a o c t G b){u:Ai}:DC h (Bs bi G) (h++u) (Bs bi G):= .HQ
def aIq{v:Aa}{l:List Int}{f:FuncId}{caps:List Aa}{q:Int->Bool}(hv:DX l v)(hb:l.length<=1000000000)(hf:f<=99999)(hq:∀k∈l,∀u,∃d,BG cx f (I k::caps) (h++u) (.bool (q k)) (h++u++d)):
  ∃u,BG cx 396 [v,.func (.func f) [] caps] h (I (Co q 0 l)) (h++u):=by
 have DH:AU 1 (l.map B8) v:=hv;have I9:Ev cx 396 [v,.func (.func f) [] caps] h λr h'=>r= I (Co q 0 l)/\∃u,h'=h++u:=by
  unfold Ev;rw[lA];simp only[BE,DH.CN];refine Bm (λk:Nat=>[I 0,I (k:Int)]) (λk h1=>k<=l.length/\Co q 0 l=Co q k (l.drop k)/\∃u,h1=h++u) (λk=>l.length-k) 0 rfl ⟨AY _,rfl,[],AH⟩ ?_;rintro k h1 ⟨hk,ha,u,rfl⟩;rcases AR k l.length with hlt|Eh
  .have i1:(k:Int)<(l.length:Int):=by omega
   have g:A7 (h++u) none (.CI (B8 l[k]))=some (I l[k]):=rfl;obtain⟨d,e⟩:=hq _ (AN hlt) u;rw[AG hlt,Co] at ha;simp only[abS,↓reduceIte,Dh,i1,DH.BL hlt,g,hf,e.Ab,BN (Ac:k<9223372036854775807)];rw[CS];refine⟨λh2=>?_,λh2=>?_⟩;.exact⟨_,rfl,by rw[ha,Af h2],u++d,AH⟩
   .rw[Ad (by simp[h2])] at ha;exact AK.next (k+1) rfl ⟨hlt,ha,u++d,AH⟩ Ac
  .have i1:¬(k:Int)<(l.length:Int):=by omega
   rw[AZ Eh,Co] at ha;simp only[abS,↓reduceIte,Dh,i1];exact⟨_,rfl,by rw[ha],u,rfl⟩
 obtain⟨r,h',hr,rfl,u,rfl⟩:=I9.ret;exact⟨u,hr⟩
def aAp{l:List Int}{q:Int->Bool}:decide (0<=Co q 0 l)=l.any q:=by
 rcases HV (p:=q) (l:=l) (k:=0) with⟨h1,h2⟩|⟨n,y,h1,h2,d⟩
 .rw[h1,rh];have:=Jz.1 h2;simpa using this
 .rw[h1,rh];have f:=VR d;have e:=Re d;rw[Al Ac,TV];exact⟨y,e,f⟩
def BX.self(w:BX h bi a o c t G b){A':Ar}(e:A'=b.a):BX h bi a o c t G {b with a:=A'}:=by subst e;exact w
open Classical in
def rB{p bf:Int}(w:BX h bi a o c t G b)(ok:BA b)(rm:BM b m):∃h' G',BG cx 159 [Pt bi 0,I x,I p,I bf] h (.tuple []) h'/\BX h' bi a o c t G' {b with a:=b.a.Es x p bf}/\DC h (Bs bi G) h' (Bs bi G'):=by
 obtain⟨K1,V1,d,J,_,_⟩:=Wp w ok rm p;have w1:=w.HQ (u:=d);have X:∀v,Aa.cells (.ptr v)=[.ptr v]:=λ_=>rfl;have HN:∀h2,(∃u,h2=h++u)->∃h' G',(∃s,BG cx 111 [Pt a 0,I p,I x,I bf] h2 (I s) h')/\BX h' bi a o c t G' {b with a:=b.a.F0 p x bf}/\DC h (Bs bi G) h' (Bs bi G'):=by
  rintro _ ⟨u,rfl⟩;have g:=w.HQ (u:=u);obtain⟨h',G',r,w',x'⟩:=g.step (A':=b.a.F0 p x bf) (R:=λh'=>∃s,BG cx 111 [Pt a 0,I p,I x,I bf] (h++u) (I s) h') (λn m ps Q=>by obtain⟨s,h',JI,r,wp,P⟩:=aIi Q rm.ZR ok.ok (p:=p) (x:=x) (b:=bf);exact⟨h',n,m,JI,⟨s,r⟩,wp,P⟩)
  exact⟨h',G',r,w',w.C2.trans x'⟩
 by_cases A:(b.a.nd p).kind=1
 .obtain⟨K2,Z,j,r2,_,_⟩:=Wp w1 ok rm x;have g:=w1.HQ (u:=j);by_cases D:(b.a.nd x).kind=4
  .obtain⟨V,W,wZ,M⟩:=g.w.pa;obtain⟨K,O,U⟩:=aBW (x:=p) M rm.ZR (rm.ZR.Bc ok.ok p);obtain⟨H,T⟩:=aIq (h:=h++d++j) (f:=307) (caps:=[.CI [Pt bi 0]]) (q:=λk=>decide ((b.a.nd k).kind=4)) U (rm.ZR.Bc ok.ok p) AP (λk _ u=>by have E:=g.HQ (u:=u);obtain⟨K3,Y,S,y,_,_⟩:=Wp E ok rm k;refine⟨S,?_⟩;rw[Ae,jR];simp only[BE,y.Ab])
   have i:BG cx 305 [K,.func (.func 307) [] [.CI [Pt bi 0]]] (h++d++j) (.bool ((b.a.nd p).Bc.any λk=>decide ((b.a.nd k).kind=4))) (h++d++j++H):=by rw[Ae,jQ,<-aAp];simp only[BE,T.Ab]
   have E:=g.HQ (u:=H);by_cases L:∃k∈(b.a.nd p).Bc,(b.a.nd k).kind=4
   .have N:((b.a.nd p).Bc.any λk=>decide ((b.a.nd k).kind=4))=true:=by simpa using L
    rw[N] at i;have z:b.a.Es x p bf=b.a:=by unfold Ar.Es;rw[Af ⟨A,D,L⟩]
    refine⟨_,G,?_,E.self z,(w.C2.trans w1.C2).trans g.C2⟩;rw[Ae,Q0];simp only[abS,J.Ab,A,r2.Ab,D,g.l0,O.Ab,i.Ab]
   .have N:((b.a.nd p).Bc.any λk=>decide ((b.a.nd k).kind=4))=false:=by rw[aQW];intro k hk;simpa using λe=>L ⟨k,hk,e⟩
    rw[N] at i;have z:b.a.Es x p bf=b.a.F0 p x bf:=by unfold Ar.Es;rw[Ad (λh=>L h.2.2)]
    obtain⟨h',G',⟨s,y⟩,C,B⟩:=HN (h++d++j++H) ⟨d++j++H,AH⟩;refine⟨h',G',?_,by rw[z];exact C,B⟩;rw[Ae,Q0];simp only[abS,J.Ab,A,r2.Ab,D,g.l0,O.Ab,i.Ab,E.l0,y.Ab]
  .have z:b.a.Es x p bf=b.a.F0 p x bf:=by unfold Ar.Es;rw[Ad (λh=>D h.2.1)]
   obtain⟨h',G',⟨s,y⟩,C,B⟩:=HN (h++d++j) ⟨d++j,AH⟩;refine⟨h',G',?_,by rw[z];exact C,B⟩;rw[Ae,Q0];simp only[abS,J.Ab,A,r2.Ab,D,g.l0,y.Ab]
 .have z:b.a.Es x p bf=b.a.F0 p x bf:=by unfold Ar.Es;rw[Ad (λh=>A h.1)]
  obtain⟨h',G',⟨s,y⟩,C,B⟩:=HN (h++d) ⟨d,rfl⟩;refine⟨h',G',?_,by rw[z];exact C,B⟩;rw[Ae,Q0];simp only[abS,J.Ab,A,w1.l0,y.Ab]
def aIr(w:BX h bi a o c t G b)(ok:BA b)(rm:BM b m)(p:Int):∃u,BG cx 206 [Pt bi 0,I p] h (I (b.IV p)) (h++u):=by
 obtain⟨n,j,d,f,_,_⟩:=Wp w ok rm p;have w1:=w.HQ (u:=d);unfold BS.IV;by_cases hc:(b.a.nd p).cont=0
 .refine⟨d,?_⟩;rw[Ad (by simp[hc]),Ae,W8];simp only[abS,f.Ab,hc,B7,CF,w1.l1];refine⟨λh1=>?_,λh1=>?_⟩;.rw[Af h1]
  .rw[Ad h1]
 .obtain⟨k,i,e,r2,_,_⟩:=Wp w1 ok rm (b.a.nd p).cont;have g:=w1.HQ (u:=e);refine⟨d++e,?_⟩;rw[Af hc,<-AI,Ae,W8];simp only[abS,f.Ab,r2.Ab,hc,B7,g.l1];refine⟨λh1=>?_,λh1=>?_⟩;.rw[Af h1]
  .rw[Ad h1]
def Oq(nm:Aj)(av:Aa)(r:List Aa):Prop:=∃n k j i g f e d Wb Yg,r=[n,.str nm,k,j,i,g,f,e,av,d,Wb,Yg]
def NM:Aa.agg Item.zero.row= .agg [I 0,I 0,S [],ff]:=rfl
variable{nm:Aj}{av:Aa}{l:List A5}{r:List Aa}{sp p:Int}
def BM.len{k:Nat}(rm:BM b k)(hk:3<=k):b.a.len+3<=1000000000:=by have:=rm.n;unfold Ar.len;omega
def zu(w:BX h bi a o c t G b)(ok:BA b)(rm:BM b (m+3))(hr:Oq nm av r)(hv:Bi l av)(hl:DO l)(hn:nm.length<=1000)(p sp:Int):
  ∃h' G',BG cx 85 [Pt bi 0,.agg r,I sp,I p] h (.agg (b.GG nm l sp).row) h'/\BX h' bi a o c t G' (b.El nm l sp p)/\DC h (Bs bi G) h' (Bs bi G'):=by
 obtain⟨O,N,M,L,K,J,H,E,Wb,Yg,rfl⟩:=hr;by_cases hs:BS.Ig sp
 .obtain⟨D,s,hu⟩:=aNJ (h:=h) hv hl.1 sp;have w1:=w.HQ (u:=[.map (ft 11)]);obtain⟨j,r2⟩:=aIr w1 ok rm p;have g:=w1.HQ (u:=j);have hd:=QX ok (p:=p);have i:∀y∈l.map (C6 sp),BS.Ig y.Bb:=by intro y hy;obtain⟨z,_,rfl⟩:=Bn.1 hy;exact gI
  obtain⟨h',G',⟨f,_⟩,C,A⟩:=g.step (A':=b.a.elem (b.IV p) sp (BS.IW sp nm) (l.map (C6 sp))) (R:=λh'=>BG cx 205 [Pt a 0,I (b.IV p),I sp,.str (BS.IW sp nm),D] (h++[.map (ft 11)]++j) (.tuple [I (b.a.len+1),I 0]) h'/\True) (λn m ps B=>by obtain⟨h',n',m',JI,r,wp,v,_⟩:=aIa B rm.ZR (rm.len Ac) hd hs hu (by rw[Ao];have:=hl.1;omega) i (nm:=BS.IW sp nm);exact⟨h',n',m',JI,⟨r,trivial⟩,wp,v⟩)
  have d:=f96 (h:=h') hu (λy hy=>by obtain⟨z,hz,rfl⟩:=Bn.1 hy;rw[cP];have:=(hl.2 z hz).2;have:AW=140737488355328:=rfl;omega) (by rw[Ao];have:=hl.1;omega) sp (BS.IW sp nm);have em:AD (.Ch [I 0,I 0,S [],ff] [(0,1),(1,1),(2,1),(3,1)]) [I (b.a.len+1),I sp,.str (BS.IW sp nm),.bool (Fp sp (BS.IW sp nm) (l.map (C6 sp)))]=some (.agg (b.GG nm l sp).row):=by rw[cH];unfold BS.GG;rw[Af hs]
  refine⟨h',G',?_,by unfold BS.El;rw[Af hs];exact C,(w.C2.trans w1.C2).trans A⟩;have q:¬sp<0:=by have:=hs.1;omega
  have k:¬7<sp:=by have:=hs.2;omega
  have hlen:=λ(y:Item)=>@Item.CP y;rw[Ae,gR];by_cases h2:sp=2
  .have e:BS.IW sp nm=Cp nm Jb:=by unfold BS.IW;rw[Af h2]
   rw[e] at f d em;subst h2;simp only[abS,↓reduceIte,AT,E9,(IH w).Ab,q,k,DG,s.Ab,Dw,CF,(aMK nm).B6 rfl rfl,w1.l0,r2.Ab,g.l0,BK,f.Ab,B7,d.Ab,em,hlen]
  .have e:BS.IW sp nm=nm:=by unfold BS.IW;rw[Ad h2]
   rw[e] at f d em;simp only[abS,↓reduceIte,AT,E9,(IH w).Ab,q,k,DG,s.Ab,h2,w1.l0,r2.Ab,g.l0,BK,f.Ab,B7,CF,d.Ab,em,hlen]
 .refine⟨h,G,?_,by unfold BS.El;rw[Ad hs];exact w,.refl⟩;have e:b.GG nm l sp=Item.zero:=by unfold BS.GG;rw[Ad hs]
  rw[e,NM,Ae,gR];unfold BS.Ig at hs;by_cases h1:sp<0;.simp only[abS,↓reduceIte,AT,(IH w).Ab,h1,Dw]
  .simp only[abS,↓reduceIte,AT,(IH w).Ab,h1,DG,(Ac:7<sp),Dw]
def Bf{k:Nat}{v:Aa}:DC h (Bs bi G) (put h bi k v) (Bs bi G):=⟨by rw[JN];exact Ag _,λi _ hn=>Cm λe=>hn (.inl e),λ_ h=> .inl h⟩
def BX.put{k:Nat}{v o' c' t':Aa}{b':BS}(w:BX h bi a o c t G b)(e:(Ju a b o c t).set k v=Ju a b' o' c' t')(ea:b'.a=b.a)(ho:BZ b'.AQ o')(ht:TC b'.tm t'):BX (Am.put h bi k v) bi a o' c' t' G b':=
 ⟨by rw[Iw w.hb,e];exact AO w.lt,ho,ht,by rw[ea];exact w.w.Dl λi hi=>Cm λe=>w.nb (e▸hi),w.nb⟩
def BX.HZ{u:Aa}{l:List Item}(w:BX h bi a o c t G b)(hu:BZ l u):BX (Am.put h bi 2 u) bi a u c t G {b with AQ:=l}:=w.put rfl rfl hu w.t
def BX.KE{u:Aa}{l:List Cb}(w:BX h bi a o c t G b):BX (Am.put h bi 3 u) bi a o u t G {b with A6:=l}:=w.put rfl rfl w.o w.t
def BX.st{k:Nat}{v v0:Aa}(w:BX h bi a o c t G b)(hk:(Ju a b o c t)[k]?=some v0)(hv:v.cells=[v]):Cv h 1 (Pt bi k) v=some (Am.put h bi k v):=At.store (v:=v0) ⟨_,w.hb,hk⟩ hv
variable{nm:Aj}{av:Aa}{l:List A5}{r:List Aa}{sp p:Int}
def aNM(w:BX h bi a o c t G b)(ok:BA b)(rm:BM b (m+4))(hr:Oq nm av r)(hv:Bi l av)(hl:DO l)(hn:nm.length<=1000)(sp:Int):
  ∃h' o' G',BG cx 169 [Pt bi 0,.func (.func 85) [Pt bi 0] [],.agg r,I sp] h (I (b.LP sp)) h'/\BX h' bi a o' c t G' (b.Ej nm l sp)/\DC h (Bs bi G) h' (Bs bi G'):=by
 obtain⟨s,n⟩:=aAo w ok rm 0;have w1:=w.HQ (u:=s);obtain⟨h2,A,r2,k,i⟩:=zu (m:=m+1) w1 ok (rm.le Ac) hr hv hl hn (b.place 0).1 sp;have Gc:=hr;obtain⟨L,K,J,H,E,D,C,B,Wb,Yg,rfl⟩:=hr;have ho:=rm.AQ;by_cases hs:BS.Ig sp
 .have zw:=vT (nm:=nm) (at_:=l) (p:=(b.place 0).1) ok hs;have VF:=Jf (m:=m+1) (nm:=nm) (sp:=sp) (p:=(b.place 0).1) (rm.le Ac) hl;have Zg:(b.GG nm l sp).node=b.a.len+1:=by unfold BS.GG;rw[Af hs]
  have ZL:¬(b.a.len+1=0):=by unfold Ar.len;omega
  have OB:(b.El nm l sp (b.place 0).1).AQ=b.AQ:=by unfold BS.El;rw[Af hs]
  obtain⟨y,z,v,j,q⟩:=rB (x:=b.a.len+1) (p:=(b.place 0).1) (bf:=(b.place 0).2) k zw VF;obtain⟨v4,d,f⟩:=f95 j.sO (by simp only[OB];omega) (b.GG nm l sp);refine⟨Am.put y bi 2 v4,v4,z,?_,?_,((w.C2.trans i).trans q).trans Bf⟩
  .have g:b.LP sp=b.a.len+1:=by unfold BS.LP;rw[Af hs]
   rw[Ae,WW,g];simp only[abS,Nat.reduceAdd,↓reduceIte,Dh,E9,n.Ab,(AP:(85:Nat)<=99999),r2.Ab,Zg,ZL,B7,v.Ab];have e:=@Item.Qh (b.GG nm l sp);rw[Zg] at e;rw[<-e] at d;simp only[e] at d⊢;simp only[d.Ab,BE]
  .have:=j.HZ f;unfold BS.Ej;rw[Af hs];exact this
 .refine⟨h2,o,A,?_,?_,w.C2.trans i⟩
  .have e:b.GG nm l sp=Item.zero:=by unfold BS.GG;rw[Ad hs]
   have g:b.LP sp=0:=by unfold BS.LP;rw[Ad hs]
   rw[e,NM] at r2;rw[Ae,WW,g];simp only[abS,Nat.reduceAdd,↓reduceIte,Dh,E9,n.Ab,(AP:(85:Nat)<=99999),r2.Ab,B7,CF]
  .have:b.Ej nm l sp=b.El nm l sp (b.place 0).1:=by unfold BS.Ej BS.El;rw[Ad hs,Ad hs]
   rw[this];exact k
def aIs(w:BX h bi a o c t G b)(ok:BA b)(rm:BM b (m+4))(hr:Oq nm av r)(hv:Bi l av)(hl:DO l)(hn:nm.length<=1000)(sp:Int):
  ∃h' o' G',BG cx 67 [Pt bi 0,.agg r,I sp] h (I (b.LP sp)) h'/\BX h' bi a o' c t G' (b.Ej nm l sp)/\DC h (Bs bi G) h' (Bs bi G'):=by
 obtain⟨h',o',G',d,w',x'⟩:=aNM w ok rm hr hv hl hn sp;refine⟨h',o',G',?_,w',x'⟩;obtain⟨q,n,k,j,i,g,f,e,Wb,Yg,rfl⟩:=hr;rw[Ae,wH,t67];simp only[abS,(IH w).Ab,d.Ab]
def n_(w:BX h bi a o c t G b)(ok:BA b)(rm:BM b (m+4))(hr:Oq nm av r)(hv:Bi l av)(hl:DO l)(hn:nm.length<=1000):
  ∃h' o' G',BG cx 65 [Pt bi 0,.agg r] h (I (b.a.len+1)) h'/\BX h' bi a o' c t G' (b.Ej nm l 1)/\DC h (Bs bi G) h' (Bs bi G'):=by
 obtain⟨h',o',G',d,w',x'⟩:=aIs w ok rm hr hv hl hn 1;refine⟨h',o',G',?_,w',x'⟩;have e:b.LP 1=b.a.len+1:=by unfold BS.LP;rw[Af J9]
 rw[e] at d;obtain⟨s,q,n,k,j,i,g,f,Wb,Yg,rfl⟩:=hr;rw[Ae,wG];simp only[BE,d.Ab]
end
def B1(l:List Cb)(v:Aa):Prop:=∃fs:List Ck,fs.map (·.c)=l/\Dt fs v
def VG{U Z:Type}{f:U->Z}{q:Z->Bool}{l:List U}:AV q (l.map f)=AV (λx=>q (f x)) l:=by unfold AV;rw[<-TW,List.findIdx?_map,Ao];rfl
def xE{U Z:Type}{f:U->Z}{l:List U}{k:Nat}:(Bg l k).map f=Bg (l.map f) k:=by unfold Bg;simp
def aAq{fs:List Ck}:since fs=vP (fs.map (·.c)):=by unfold since vP;rw[VG];rfl
def Zh{n:Int}{fs:List Ck}:HF n fs=Fk n (fs.map (·.c)):=by unfold HF Fk;rw[VG];rfl
def gd{nm:Aj}{fs:List Ck}:Oh nm fs=GL nm (fs.map (·.c)):=by
 unfold Oh GL;rw[<-TW];generalize fs.reverse=r;induction r with
 |nil=>rfl
 |cons x r ih=>simp only[Bj,ae,Qo,ih,Ao]
def aIt{e:Cb}{fs:List Ck}:Ti e fs=ak e (fs.map (·.c)).reverse:=by
 unfold Ti;rw[<-TW];generalize fs.reverse=r;induction r with
 |nil=>rfl
 |cons x r ih=>simp only[Bj,ģ,ak,ih]
def aIu{e:Cb}{fs:List Ck}:Oi e fs=qE e (fs.map (·.c)).reverse:=by
 unfold Oi;rw[<-TW];generalize fs.reverse=r;induction r with
 |nil=>rfl
 |cons x r ih=>simp only[Bj,vL,qE,ih,Ao]
def rC{e:Cb}{d:Ck}{fs:List Ck}(he:d.c=e):(Lg e fs++[d]).map (·.c)=qF e (fs.map (·.c)):=by
 unfold Lg qF;rw[aIt,aIu,Bu,aPp,he];split;.rw[xE]
 .rfl
def Xm{fs:List Ck}:(fs.take (EV fs)).map (·.c)=Ge (fs.map (·.c)):=by unfold Ge EV;rw[Gq,aAq]
def lX{l:List Cb}{fs:List Ck}(e:fs.map (·.c)=l)(h:∀x∈l,x.Av.length<=1000):∀x∈fs,ZQ x:=by intro x hx;have:=h x.c (by rw[<-e];exact Bn.2 ⟨x,hx,rfl⟩);unfold ZQ;omega
section
variable{h h':Ai}{bi a:Nat}{o c t:Aa}{G G' F:Nat->Prop}{b:BS}{x:Int}{m:Nat}
variable{nm:Aj}{av:Aa}{l:List A5}{r:List Aa}{sp p:Int}
def aNN(w:BX h bi a o c t G b)(hc:B1 b.A6 c)(ok:EB b)(rm:BM b (m+5))(hr:Oq nm av r)(hv:Bi l av)(hl:DO l)(hn:nm.length<=1000):
  ∃h' o' c' G',BG cx 68 [Pt bi 0,.agg r] h (I (b.a.len+1)) h'/\BX h' bi a o' c' t G' (b.KA nm l)/\B1 (b.KA nm l).A6 c'/\DC h (Bs bi G) h' (Bs bi G'):=by
 obtain⟨h1,j,k,i,w1,g⟩:=n_ (m:=m+1) w ok (rm.le Ac) hr hv hl hn;obtain⟨fs,d,hf⟩:=hc;have ha:=rm.A6;have Hu:fs.length=b.A6.length:=by rw[<-d,Ao]
 obtain⟨u,n,P7,r2,hu⟩:=f30 (h:=h1) (id:=bi) (o:=3) (l:=fs) ⟨c,w1.sQ,hf⟩ Ac (lX d λx hx=>((rm.DB x hx).2).1) (e:=⟨⟨b.a.len+1,nm,l⟩,av,hv⟩) (by unfold ZQ;have:=hl.1;simp only;omega);refine⟨_,j,u,k,?_,w1.KE (u:=u),?_,g.trans Bf⟩
 .obtain⟨C,B,A,z,y,v,s,q,Wb,Yg,rfl⟩:=hr;have ZL:¬(b.a.len+1=0):=by unfold Ar.len;omega
  have f:BG cx 170 [Pt bi 3,.agg [I (b.a.len+1),.str nm,av]] h1 (.tuple []) (put h1 bi 3 u):=r2;have ZJ:av.cells=[av]:=AU.cells hv;rw[Ae,wI];simp only[abS,Nat.reduceLeDiff,↓reduceIte,AT,i.Ab,ZL,B7,ZJ,f.Ab]
 .refine⟨_,?_,hu⟩;rw[rC P7,d];unfold BS.KA;simp only;rw[D3]
end
def aIv:∀x:Fin 64,(BitVec.ofInt 8 192|||BitVec.ofInt 8 (x.val:Int)).toNat=192+x.val:=AP
def aIw:∀x:Fin 32,(BitVec.ofInt 8 224|||BitVec.ofInt 8 (x.val:Int)).toNat=224+x.val:=AP
def aIx:∀x:Fin 16,(BitVec.ofInt 8 240|||BitVec.ofInt 8 (x.val:Int)).toNat=240+x.val:=AP
def aIy:∀x:Fin 64,(BitVec.ofInt 8 128|||BitVec.ofInt 8 (x.val:Int)).toNat=128+x.val:=AP
def aIz:∀x:Fin 256,(BitVec.ofInt 8 (x.val:Int)&&& BitVec.ofInt 8 63).toNat=x.val%64:=AP
def gg{a b:Int}:AD (.int .or) [.int .u8 a,.int .u8 b]=some (.int .u8 (IntKind.u8.wrap (BitVec.ofInt 8 a|||BitVec.ofInt 8 b).toNat)):=rfl
def aEA{a b:Int}:AD (.int .and) [.int .u8 a,.int .u8 b]=some (.int .u8 (IntKind.u8.wrap (BitVec.ofInt 8 a&&& BitVec.ofInt 8 b).toNat)):=rfl
def zx{x:Nat}(h:x<64):AD (.int .or) [.int .u8 192,.int .u8 (x:Int)]=some (.int .u8 ((192+x:Nat):Int)):=by rw[gg,aIv ⟨x,h⟩,IntKind.wrap_u8];congr 2;simp only;omega
def rD{x:Nat}(h:x<32):AD (.int .or) [.int .u8 224,.int .u8 (x:Int)]=some (.int .u8 ((224+x:Nat):Int)):=by rw[gg,aIw ⟨x,h⟩,IntKind.wrap_u8];congr 2;simp only;omega
def zy{x:Nat}(h:x<16):AD (.int .or) [.int .u8 240,.int .u8 (x:Int)]=some (.int .u8 ((240+x:Nat):Int)):=by rw[gg,aIx ⟨x,h⟩,IntKind.wrap_u8];congr 2;simp only;omega
def LU{x:Nat}(h:x<64):AD (.int .or) [.int .u8 128,.int .u8 (x:Int)]=some (.int .u8 ((128+x:Nat):Int)):=by rw[gg,aIy ⟨x,h⟩,IntKind.wrap_u8];congr 2;simp only;omega
def LV{x:Nat}(h:x<256):AD (.int .and) [.int .u8 (x:Int),.int .u8 63]=some (.int .u8 ((x%64:Nat):Int)):=by rw[aEA,aIz ⟨x,h⟩,IntKind.wrap_u8];congr 2;simp only;omega
def Xn{n:Nat}:AD (.int .shr) [.int .i32 (n:Int),.int .u64 6]=some (.int .i32 ((n/64:Nat):Int)):=by rw[show AD (.int .shr) [.int .i32 (n:Int),.int .u64 6]=some (.int .i32 ((n:Int).fdiv 64)) from rfl,QA _ Ac];rfl
def Zi{n:Nat}:AD (.int .shr) [.int .i32 (n:Int),.int .u64 12]=some (.int .i32 ((n/4096:Nat):Int)):=by rw[show AD (.int .shr) [.int .i32 (n:Int),.int .u64 12]=some (.int .i32 ((n:Int).fdiv 4096)) from rfl,QA _ Ac];rfl
def z_{n:Nat}:AD (.int .shr) [.int .i32 (n:Int),.int .u64 18]=some (.int .i32 ((n/262144:Nat):Int)):=by rw[show AD (.int .shr) [.int .i32 (n:Int),.int .u64 18]=some (.int .i32 ((n:Int).fdiv 262144)) from rfl,QA _ Ac];rfl
def UC{k:IntKind}{n:Nat}:AD (.conv .u8) [.int k (n:Int)]=some (.int .u8 ((n%256:Nat):Int)):=by rw[QN,IntKind.wrap_u8];congr 2
def lY{n:Int}:AD (.conv .u32) [.int .i32 n]=some (.int .u32 (n%4294967296)):=by rw[QN,IntKind.wrap_u32]
def cU{n:Nat}(h:n<256):((UInt8.ofNat n).toNat:Int)=(n:Int):=by rw[UInt8.toNat_ofNat'];congr 1;omega
def è(b:UInt8):Aa:= .int .u8 (b.toNat:Int)
def Li{h:Ai}{bs:Aj}(hb:bs≠[])(hl:bs.length<=8):Gj h 1 1 .slnil (.sl 1 (Ce bs))=some (h++[.cells (bs.map è)],.CE h.length 0 bs.length 1):=by
 have Hu:∀bs:Aj,(Ce bs).flatten=bs.map è:=by
  intro bs;induction bs with
  |nil=>rfl
  |cons c bs ih=>show[è c]++(Ce bs).flatten=_;rw[ih];rfl
 cases bs with
 |nil=>exact absurd rfl hb
 |cons c bs=>
  have hm:AW=140737488355328:=rfl;have hlen:(Ce (c::bs)).length=(c::bs).length:=by simp[Ce]
  have e:Ce (c::bs)=[.int .u8 c.toNat]::Ce bs:=rfl;have a:Hj h 1 (.sl 1 (Ce (c::bs)))=some (Ce (c::bs)):=by simp[Hj]
  unfold Gj;rw[a,e];simp only
  rw[<-e,Af (by rw[hlen];omega),Hu,hlen]
def aNO{h:Ai}(r:Int)(hr: -2147483648<=r/\r<=2147483647):BG cx 174 [.slnil,.int .i32 r] h (.CE h.length 0 (HX r).length 1) (h++[.cells ((HX r).map è)]):=by
 have one:∀{a:Nat} (h1:a<256),AD (.Dk 1) [.int .u8 (a:Int)]=some (.sl 1 (Ce [UInt8.ofNat a])):=by intro a h1;simp only[Ce,Bj,C4,cU h1];rfl
 have XL:∀{a b:Nat} (h1:a<256) (h2:b<256),AD (.Dk 1) [.int .u8 (a:Int),.int .u8 (b:Int)]=some (.sl 1 (Ce [UInt8.ofNat a,UInt8.ofNat b])):=by intro a b h1 h2;simp only[Ce,Bj,C4,cU h1,cU h2];rfl
 have U7:∀{a b c:Nat} (h1:a<256) (h2:b<256) (d:c<256),AD (.Dk 1) [.int .u8 (a:Int),.int .u8 (b:Int),.int .u8 (c:Int)]=some (.sl 1 (Ce [UInt8.ofNat a,UInt8.ofNat b,UInt8.ofNat c])):=by intro a b c h1 h2 d;simp only[Ce,Bj,C4,cU h1,cU h2,cU d];rfl
 have four:∀{a b c f:Nat} (h1:a<256) (h2:b<256) (d:c<256) (i:f<256),AD (.Dk 1) [.int .u8 (a:Int),.int .u8 (b:Int),.int .u8 (c:Int),.int .u8 (f:Int)]=some (.sl 1 (Ce [UInt8.ofNat a,UInt8.ofNat b,UInt8.ofNat c,UInt8.ofNat f])):=by intro a b c f h1 h2 d i;simp only[Ce,Bj,C4,cU h1,cU h2,cU d,cU i];rfl
 have bad:AD (.Dk 1) [.int .u8 239,.int .u8 191,.int .u8 189]=some (.sl 1 (Ce [239,191,189])):=rfl;rw[Ae,iL];simp only[BE,lY];by_cases h0:0<=r
 .obtain⟨n,rfl⟩:=I3 h0;have em:(n:Int)%4294967296=(n:Int):=Ac;rw[em];by_cases q:n<128
  .have e:HX (n:Int)=[UInt8.ofNat n]:=by unfold HX;rw[Af Ac];rfl
   have j:n%256=n:=Ac;rw[e];simp only[BE,ZP,(Ac:(n:Int)<=127),UC,j,one (Ac:n<256),Li (bs:=[UInt8.ofNat n]) AH AH]
  .have aEB:BG cx 321 [.slnil,.int .i32 (n:Int)] h (.CE h.length 0 (HX (n:Int)).length 1) (h++[.cells ((HX (n:Int)).map è)]):=by
    rw[Ae,Xe];simp only[BE,lY,em];by_cases p:n<2048
    .have e:HX (n:Int)=[UInt8.ofNat (192+n/64),UInt8.ofNat (128+n%64)]:=by unfold HX;rw[Ad Ac,Af Ac];rfl
     rw[e];have a1:n/64%256=n/64:=Ac;have a2:n%256%64=n%64:=Ac;simp only[BE,ZP,(Ac:(n:Int)<=2047),Xn,UC,a1,zx (Ac:n/64<64),LV (Ac:n%256<256),a2,LU (Ac:n%64<64),XL (Ac:192+n/64<256) (Ac:128+n%64<256),Li (bs:=[UInt8.ofNat (192+n/64),UInt8.ofNat (128+n%64)]) AH AH]
    .by_cases o:n<65536/\¬(55296<=n/\n<57344)
     .have e:HX (n:Int)=[UInt8.ofNat (224+n/4096),UInt8.ofNat (128+n/64%64),UInt8.ofNat (128+n%64)]:=by unfold HX;rw[Ad Ac,Ad Ac,Af Ac];rfl
      rw[e];have a1:n/4096%256=n/4096:=Ac;have a2:n/64%256%64=n/64%64:=Ac;have a3:n%256%64=n%64:=Ac;have g:=Li (h:=h) (bs:=[UInt8.ofNat (224+n/4096),UInt8.ofNat (128+n/64%64),UInt8.ofNat (128+n%64)]) AH AH;have t3:=U7 (Ac:224+n/4096<256) (Ac:128+n/64%64<256) (Ac:128+n%64<256);by_cases m:n<55296;.simp only[abS,(Ac:¬(n:Int)<=2047),(Ac:(n:Int)<55296),Xn,Zi,UC,a1,rD (Ac:n/4096<32),LV (Ac:n/64%256<256),a2,LU (Ac:n/64%64<64),LV (Ac:n%256<256),a3,LU (Ac:n%64<64),t3,g]
      .simp only[abS,(Ac:¬(n:Int)<=2047),(Ac:¬(n:Int)<55296),(Ac:(57343:Int)<n),(Ac:(n:Int)<=65535),Xn,Zi,UC,a1,rD (Ac:n/4096<32),LV (Ac:n/64%256<256),a2,LU (Ac:n/64%64<64),LV (Ac:n%256<256),a3,LU (Ac:n%64<64),t3,g]
     .by_cases l:65536<=n/\n<=1114111
      .have e:HX (n:Int)=[UInt8.ofNat (240+n/262144),UInt8.ofNat (128+n/4096%64),UInt8.ofNat (128+n/64%64),UInt8.ofNat (128+n%64)]:=by unfold HX;rw[Ad Ac,Ad Ac,Ad Ac,Af Ac];rfl
       rw[e];have a0:n/262144%256=n/262144:=Ac;have a1:n/4096%256%64=n/4096%64:=Ac;have a2:n/64%256%64=n/64%64:=Ac;have a3:n%256%64=n%64:=Ac;have g:=Li (h:=h) (bs:=[UInt8.ofNat (240+n/262144),UInt8.ofNat (128+n/4096%64),UInt8.ofNat (128+n/64%64),UInt8.ofNat (128+n%64)]) AH AH;have t4:=four (Ac:240+n/262144<256) (Ac:128+n/4096%64<256) (Ac:128+n/64%64<256) (Ac:128+n%64<256);simp only[abS,(Ac:¬(n:Int)<=2047),(Ac:¬(n:Int)<55296),(Ac:(57343:Int)<n),(Ac:¬(n:Int)<=65535),(Ac:(65535:Int)<n),(Ac:(n:Int)<=1114111),Xn,Zi,z_,UC,a0,zy (Ac:n/262144<16),LV (Ac:n/4096%256<256),a1,LU (Ac:n/4096%64<64),LV (Ac:n/64%256<256),a2,LU (Ac:n/64%64<64),LV (Ac:n%256<256),a3,LU (Ac:n%64<64),t4,g]
      .have e:HX (n:Int)=[239,191,189]:=by unfold HX;rw[Ad Ac,Ad Ac,Ad Ac,Ad Ac]
       rw[e];have g:=Li (h:=h) (bs:=[239,191,189]) AH AH;by_cases k:n<65536;.simp only[abS,(Ac:¬(n:Int)<=2047),(Ac:¬(n:Int)<55296),(Ac:¬(57343:Int)<n),(Ac:¬(65535:Int)<n),bad,g]
       .simp only[abS,(Ac:¬(n:Int)<=2047),(Ac:¬(n:Int)<55296),(Ac:(57343:Int)<n),(Ac:¬(n:Int)<=65535),(Ac:(65535:Int)<n),(Ac:¬(n:Int)<=1114111),bad,g]
   simp only[abS,(Ac:¬(n:Int)<=127),aEB.Ab]
 .have e:HX r=[239,191,189]:=by unfold HX;rw[Ad Ac,Ad Ac,Ad Ac,Ad Ac]
  have g:=Li (h:=h) (bs:=[239,191,189]) AH AH;have aEB:BG cx 321 [.slnil,.int .i32 r] h (.CE h.length 0 (HX r).length 1) (h++[.cells ((HX r).map è)]):=by rw[e,Ae,Xe];simp only[abS,lY,(Ac:¬(r%4294967296)<=2047),(Ac:¬(r%4294967296)<55296),(Ac:(57343:Int)<r%4294967296),(Ac:¬(r%4294967296)<=65535),(Ac:(65535:Int)<r%4294967296),(Ac:¬(r%4294967296)<=1114111),bad,g]
  simp only[abS,(Ac:¬(r%4294967296)<=127),aEB.Ab]
def TD(r:Int):(HX r).length<=4:=by unfold HX;split<;>(try split)<;>(try split)<;>(try split)<;>simp
def rE{l:List Int}{bf:Int}(hb:bf≠0->bf∈l):∃i,i<=l.length/\(bf=0->i=l.length)/\(bf≠0->Co (λy=>decide (bf=y)) 0 l=(i:Int))/\Uv l bf=if i=0 then none else l[i-1]?:=by
 by_cases h0:bf=0
 .refine⟨l.length,Ag _,λ_=>rfl,λh=>absurd h0 h,?_⟩;unfold Uv;rw[Af h0,K5];split;.rename_i h;rw[Ec Ac]
  .rfl
 .obtain⟨k,j,e,g,d,f⟩:=lW (hb h0);refine⟨k,Ac,λh=>absurd h h0,λ_=>e,?_⟩;unfold Uv;rw[Ad h0,d,K5,Ax,Cq Ac];split;.rename_i h;subst h;simp
  .rw[Ci];rw[Af Ac]
def lZ{s u:Aj}(h:s.length+u.length<=2000000000):AD (.str .add) [.str s,.str u]=some (.str (s++u)):=by have:s.length+u.length<=9223372036854775807:=Ac;simp[AD,nI,this]
def cV:∀s:Aj,(Ce s).flatten=s.map è
 |[]=>rfl
 |c::s=>by show[è c]++(Ce s).flatten=_;rw[cV s];rfl
section
variable{h h':Ai}{bi a:Nat}{o c t:Aa}{G G' F:Nat->Prop}{b:BS}{x:Int}{m:Nat}
variable{nm:Aj}{av:Aa}{l:List A5}{r:List Aa}{sp p:Int}
def l8{k d:Int}{s:Aj}(ok:EB b)(rm:BM b (m+1))(hk:k=5\/k=6)(hd:b.a.has d/\(b.a.nd d).kind=1)(hs:s.length<=100000):EB {b with a:=b.a.add {kind:=k,CG:=d,data:=s}}/\BM {b with a:=b.a.add {kind:=k,CG:=d,data:=s}} m:=
 ⟨ok.KW (gH ok.ok (by unfold Ar.len;omega) hd hk) vQ,rm.JT (k:=1) (Om (AY _) hs)⟩
def aIA(w:BX h bi a o c t G b)(ok:EB b)(rm:BM b (m+5))(r:Int)(hr: -2147483648<=r/\r<=2147483647):
  ∃h' G',BG cx 69 [Pt bi 0,.int .i32 r] h (.tuple []) h'/\BX h' bi a o c t G' (b.Q6 r)/\DC h (Bs bi G) h' (Bs bi G'):=by
 obtain⟨f,D⟩:=aAo w ok rm 0;obtain⟨hp,hbf⟩:=YQ ok (t:=0) (.inl rfl);have w1:=w.HQ (u:=f);unfold BS.Q6;generalize(b.place 0).1=p at*;generalize(b.place 0).2=bf at*;obtain⟨K,V,d,r2,X,_⟩:=Wp w1 ok rm p;have Z:=w1.HQ (u:=d);have x2:DC h (Bs bi G) (h++f++d) (Bs bi G):=w.C2.trans w1.C2;unfold BS.L5;by_cases hk:(b.a.nd p).kind=4\/(b.a.nd p).kind=2;rotate_left
 .refine⟨_,G,?_,?_,x2⟩;.have k4:¬(b.a.nd p).kind=4:=λe=>hk (.inl e);have k2:¬(b.a.nd p).kind=2:=λe=>hk (.inr e);rw[Ae,Ux];simp only[abS,(IH w).Ab,D.Ab,r2.Ab,B7,k4,k2]
  .rw[Ad hk];exact Z
 rw[Af hk];obtain⟨i,hi,wY,Wc,hpv⟩:=rE (l:=(b.a.nd p).Bc) (bf:=bf) (λh=>by have:=hbf h;have h2:=(ok.ok.FV bf this.1 (by rw[this.2];have:=hp.1;omega)).2;rwa [this.2] at h2);rw[hpv];have QF:=rm.ZR.Bc ok.ok p;have H:=aEu (h:=h++f++d) (x:=bf) X.Sl QF;have g:=aNO (h:=h++f++d) r hr;have nC:=TD r;generalize hs:HX r=s at*;have f3:KT (h++f++d++[.cells (s.map è)]) (.CE (h++f++d).length 0 s.length 1)=some (h++f++d++[.CR],.sl 1 (Ce s)):=by have Hu:=cV s;have:=Ke (h:=h++f++d++[.cells (s.map è)]) (id:=(h++f++d).length) (z:=1) (AE:=Ce s) (by intro q hq;obtain⟨y,_,rfl⟩:=Bn.1 hq;rfl) (by rw[Hu];simp);rw[show(Ce s).length=s.length by simp[Ce]] at this;rw[this];congr 2;rw[BH _ _ (Ag _),C5];rfl
 have b3:AD .Xr [.sl 1 (Ce s)]=some (.str s):=by simp[AD,Xt,Sa]
 have A:=Z.HQ (u:=[.CR]);have x3:DC h (Bs bi G) (h++f++d++[.CR]) (Bs bi G):=x2.trans Z.C2;have mA:=ok.ok.CG p hp;have new:∀h3,(∃u,h3=h++f++d++[.CR]++u)->∃h' J G',BG cx 176 [Pt a 0,I (b.a.nd p).CG,.str s] h3 (.tuple [I (b.a.len+1),I 0]) J/\BG cx 159 [Pt bi 0,I (b.a.len+1),I p,I bf] J (.tuple []) h'/\BX h' bi a o c t G' {b with a:=(b.a.add {kind:=5,CG:=(b.a.nd p).CG,data:=s}).Es (b.a.len+1) p bf}/\DC h (Bs bi G) h' (Bs bi G'):=by
  rintro _ ⟨u,rfl⟩;have w4:=A.HQ (u:=u);obtain⟨J,G4,⟨C,_⟩,w5,x5⟩:=w4.step (A':=b.a.add (MQ 5 (b.a.nd p).CG s).x) (R:=λh'=>BG cx 176 [Pt a 0,I (b.a.nd p).CG,.str s] (h++f++d++[.CR]++u) (.tuple [I (b.a.len+1),I 0]) h'/\True) (λn m ps S=>by obtain⟨h',r,wp,o1,l1⟩:=aNu (s:=s) S rm.ZR (by have:=rm.n;unfold Ar.len;omega) mA;exact⟨h',_,_,_,⟨r,trivial⟩,wp,S.TA rfl o1 l1⟩)
  obtain⟨ok5,rm5⟩:=l8 (m:=m) (k:=5) (s:=s) ok (rm.le Ac) (.inl rfl) mA Ac;obtain⟨h',G',B,N,L⟩:=rB (x:=b.a.len+1) (p:=p) (bf:=bf) w5 ok5.ba rm5;exact⟨h',J,G',C,B,N,(x3.trans A.C2).trans (x5.trans L)⟩
 have kl:=(X.Sl (h:=h++f++d)).len;have Pn:i<=1000000000:=Ac;by_cases hz:i=0
 .subst hz;obtain⟨h',J,G',C,B,N,L⟩:=new (h++f++d++[.CR]) ⟨[],AH⟩;simp only[↓reduceIte];refine⟨h',G',?_,N,L⟩;rw[Ae,Ux];rcases hk with hk|hk<;>by_cases h0:bf=0
  all_goals first|(rw[<-wY h0] at kl;simp only[abS,(IH w).Ab,D.Ab,r2.Ab,hk,B7,CF,(AP:¬(2:Int)=4),kl,AL h0,g.Ab,f3,b3,(AP:¬(0:Int)<((0:Nat):Int)),A.l0,C.Ab,CF,B.Ab];done)|(rw[Wc h0] at H;simp only[abS,(IH w).Ab,D.Ab,r2.Ab,hk,B7,CF,(AP:¬(2:Int)=4),kl,h0,g.Ab,f3,b3,(AP:¬(0:Int)<((0:Nat):Int)),A.l0,C.Ab,CF,B.Ab,H.Ab])
 .obtain⟨j,rfl⟩:∃j,i=j+1:=⟨i-1,Ac⟩;have hj:j<(b.a.nd p).Bc.length:=Ac;rw[Ad hz,Fb,Ap hj];simp only
  have ht:=ok.ok.Nl p hp _ (AN hj);obtain⟨q,Q,Y⟩:=(X.Sl (h:=h++f++d++[.CR])).at_ j hj;obtain⟨K7,V7,T,W,_,_⟩:=Wp A ok rm (b.a.nd p).Bc[j];have M:=A.HQ (u:=T);obtain⟨q',P,O⟩:=(X.Sl (h:=h++f++d++[.CR]++T)).at_ j hj;rw[Q,BC] at P;subst P;have U:AD (.int .sub) [I ((j+1:Nat):Int),I 1]=some (I (j:Int)):=by have:=Iv (n:=j+1) Ac Ac;simpa using this
  generalize hte:(b.a.nd p).Bc[j]=v at*;by_cases E:(b.a.nd v).kind=5
  .rw[Af E];have sN:=rm.data v;obtain⟨h8,G8,⟨r8,_⟩,w8,x8⟩:=M.step (A':=b.a.To v ((b.a.nd v).data++s)) (R:=λh'=>BG cx 175 [Pt a 0,I v,.str ((b.a.nd v).data++s)] (h++f++d++[.CR]++T) (I 0) h'/\True) (λn m ps S=>by obtain⟨h',JI,r,wp,xp⟩:=aNv (s:=(b.a.nd v).data++s) S rm.ZR ht.1 E;exact⟨h',n,m,JI,⟨r,trivial⟩,wp,xp⟩)
   refine⟨h8,G8,?_,w8,(x3.trans A.C2).trans x8⟩;rw[Ae,Ux];rcases hk with hk|hk<;>by_cases h0:bf=0
   all_goals first|(rw[<-wY h0] at kl;simp only[abS,(IH w).Ab,D.Ab,r2.Ab,hk,B7,CF,(AP:¬(2:Int)=4),kl,AL h0,g.Ab,f3,b3,(Ac:(0:Int)<((j+1:Nat):Int)),U,Q,Y,W.Ab,E,M.l0,O,lZ (Ac:(b.a.nd v).data.length+s.length<=2000000000),CF,r8.Ab];done)|(rw[Wc h0] at H;simp only[abS,(IH w).Ab,D.Ab,r2.Ab,hk,B7,CF,(AP:¬(2:Int)=4),kl,h0,g.Ab,f3,b3,(Ac:(0:Int)<((j+1:Nat):Int)),U,Q,Y,W.Ab,E,M.l0,O,lZ (Ac:(b.a.nd v).data.length+s.length<=2000000000),CF,r8.Ab,H.Ab])
  .rw[Ad E];obtain⟨h',J,G',C,B,N,L⟩:=new _ ⟨T,rfl⟩;refine⟨h',G',?_,N,L⟩;rw[Ae,Ux];rcases hk with hk|hk<;>by_cases h0:bf=0
   all_goals first|(rw[<-wY h0] at kl;simp only[abS,(IH w).Ab,D.Ab,r2.Ab,hk,B7,CF,(AP:¬(2:Int)=4),kl,AL h0,g.Ab,f3,b3,(Ac:(0:Int)<((j+1:Nat):Int)),U,Q,Y,W.Ab,E,M.l0,C.Ab,CF,B.Ab];done)|(rw[Wc h0] at H;simp only[abS,(IH w).Ab,D.Ab,r2.Ab,hk,B7,CF,(AP:¬(2:Int)=4),kl,h0,g.Ab,f3,b3,(Ac:(0:Int)<((j+1:Nat):Int)),U,Q,Y,W.Ab,E,M.l0,C.Ab,CF,B.Ab,H.Ab])
def MR{s:Aj}{p bf x:Int}{h0 h1:Ai}(hstart:(¬x=0/\p=x/\bf=0/\h1=h0)\/(x=0/\BG cx 171 [Pt bi 0,I 0] h0 (.tuple [I p,I bf]) h1))
  (w0:BX h0 bi a o c t G b) (i:DC h0 (Bs bi G) h1 (Bs bi G)) (w:BX h1 bi a o c t G b) (ok:EB b) (rm:BM b (m+1)) (hs:s.length<=100000):
  ∃h' G',BG cx 70 [Pt bi 0,.str s,I x] h0 (.tuple []) h'/\BX h' bi a o c t G' {b with a:=BS.E4 b.a s p bf}/\DC h0 (Bs bi G) h' (Bs bi G'):=by
 obtain⟨K,V,q,r2,L,_⟩:=Wp w ok rm p;have d:=w.HQ (u:=q);unfold BS.E4;by_cases hk:LO (b.a.nd p).kind
 .rw[Af hk];have hp:b.a.has p:=by
   by_cases hp:b.a.has p;.exact hp
   .rw[HR hp] at hk;unfold LO at hk;simp at hk
  have mA:=ok.ok.CG p hp;obtain⟨M,N,⟨y,_⟩,H,D⟩:=d.step (A':=b.a.add (MQ 6 (b.a.nd p).CG s).x) (R:=λh'=>BG cx 177 [Pt a 0,I (b.a.nd p).CG,.str s] (h1++q) (.tuple [I (b.a.len+1),I 0]) h'/\True) (λn m ps j=>by obtain⟨h',r,wp,J,l1⟩:=aH1 (s:=s) j rm.ZR (by have:=rm.n;unfold Ar.len;omega) mA;exact⟨h',_,_,_,⟨r,trivial⟩,wp,j.TA rfl J l1⟩)
  obtain⟨g,e⟩:=l8 (m:=m) (k:=6) (s:=s) ok rm (.inr rfl) mA hs;obtain⟨h',G',v,E,C⟩:=rB (x:=b.a.len+1) (p:=p) (bf:=bf) H g.ba e;refine⟨h',G',?_,E,(i.trans w.C2).trans (D.trans C)⟩;rw[Ae,gN];rcases hstart with⟨hx,rfl,rfl,rfl⟩|⟨hx,f⟩
  .rcases hk with hk|hk|hk<;>simp only[abS,(IH w0).Ab,r2.Ab,hk,B7,CF,(AP:¬(2:Int)=1),(AP:¬(4:Int)=1),(AP:¬(4:Int)=2),d.l0,y.Ab,v.Ab,hx]
  .rcases hk with hk|hk|hk<;>simp only[abS,(IH w0).Ab,r2.Ab,hk,B7,CF,(AP:¬(2:Int)=1),(AP:¬(4:Int)=1),(AP:¬(4:Int)=2),d.l0,y.Ab,v.Ab,AL hx,f.Ab]
 .rw[Ad hk];refine⟨_,G,?_,d,i.trans w.C2⟩;unfold LO at hk;have B:¬(b.a.nd p).kind=1:=Ac;have A:¬(b.a.nd p).kind=2:=Ac;have z:¬(b.a.nd p).kind=4:=Ac;rw[Ae,gN];rcases hstart with⟨hx,rfl,rfl,rfl⟩|⟨hx,f⟩
  .simp only[abS,(IH w0).Ab,r2.Ab,B7,B,A,z,hx]
  .simp only[abS,(IH w0).Ab,r2.Ab,B7,B,A,z,AL hx,f.Ab]
def aIC(w:BX h bi a o c t G b)(ok:EB b)(rm:BM b (m+1))(s:Aj)(hs:s.length<=100000)(x:Int):
  ∃h' G',BG cx 70 [Pt bi 0,.str s,I x] h (.tuple []) h'/\BX h' bi a o c t G' (b.Fc s x)/\DC h (Bs bi G) h' (Bs bi G'):=by
 unfold BS.Fc;by_cases h0:x=0;.rw[Af h0];obtain⟨d,e⟩:=aAo w ok rm 0;exact MR (p:=(b.place 0).1) (bf:=(b.place 0).2) (.inr ⟨h0,e⟩) w w.C2 (w.HQ (u:=d)) ok rm hs
 .rw[Ad h0];exact MR (p:=x) (bf:=0) (.inl ⟨h0,rfl,rfl,rfl⟩) w .refl w ok rm hs
def aEC(w:BX h bi a o c t G b)(ok:BA b)(rm:BM b (m+4))(hr:Oq nm av r)(hv:Bi l av)(hl:DO l)(hn:nm.length<=1000)(st:Int):
  ∃h' o' G',BG cx 71 [Pt bi 0,.agg r,I st] h (.tuple []) h'/\BX h' bi a o' c t G' (b.Fe nm l st)/\DC h (Bs bi G) h' (Bs bi G'):=by
 obtain⟨h1,d,e,u,w1,i⟩:=n_ w ok rm hr hv hl hn;have s:=w1.st (k:=18) (v:= I st) rfl rfl;have g:BX (put h1 bi 18 (I st)) bi a d c t e {b.Ej nm l 1 with sw:=st}:=w1.put rfl rfl w1.o w1.t;have q:=g.st (k:=5) (v:= I (b.Ej nm l 1).mode) rfl rfl;have f:BX (put (put h1 bi 18 (I st)) bi 5 (I (b.Ej nm l 1).mode)) bi a d c t e {b.Ej nm l 1 with sw:=st,Si:=(b.Ej nm l 1).mode}:=g.put rfl rfl w1.o w1.t;have n:=f.st (k:=4) (v:=I 8) rfl rfl;have j:BX (put (put (put h1 bi 18 (I st)) bi 5 (I (b.Ej nm l 1).mode)) bi 4 (I 8)) bi a d c t e (b.Fe nm l st):=f.put rfl rfl w1.o w1.t;refine⟨_,d,e,?_,j,((i.trans Bf).trans Bf).trans Bf⟩;obtain⟨H,E,D,C,B,A,z,y,Wb,Yg,rfl⟩:=hr;rw[Ae,wJ];simp only[BE,(IH w).Ab,u.Ab,w1.l4,s,q,n]
def aNR(w:BX h bi a o c t G b)(rm:BM b m):
  ∃h' o',BG cx 72 [Pt bi 0] h (.tuple []) h'/\BX h' bi a o' c t G b.J3/\DC h (Bs bi G) h' (Bs bi G):=by
 have ho:=rm.AQ;have d:=aMT w.sA (Ac:b.AQ.length<=1000000000) 3 (v:= .sl 1 ([wP].map Cu)) (ws:=[wP]) C1 AP;have em:AD (.Dk 1) [S [112]]=some (.sl 1 ([wP].map Cu)):=Ea (ws:=[wP]) rfl AP;unfold BS.J3;by_cases hs:Kn (Bw [wP]) (JZ 3) b.AQ.reverse=true;.rw[Af hs];rw[hs] at d;obtain⟨g,r2,Py⟩:=aHM w.sO Ac wP;have w1:=w.HZ Py;have Er:=QS (b:=EA wP) (a:=CY) (l:=b.AQ);obtain⟨e,f,IG⟩:=f66 w1.sO Dv (w:= .sl 1 ([wP].map Cu)) (ws:=[wP]) C1 AP;refine⟨_,e,?_,w1.HZ IG,Bf.trans Bf⟩;rw[Ae,gO];simp only[BE,(IH w).Ab,em,d.Ab,r2.Ab,f.Ab]
 .rw[Ad hs];rw[show Kn (Bw [wP]) (JZ 3) b.AQ.reverse=false by simpa using hs] at d;refine⟨h,o,?_,w,.refl⟩;rw[Ae,gO];simp only[BE,(IH w).Ab,em,d.Ab]
end
section
variable{h h':Ai}{bi a:Nat}{o c t:Aa}{G G' F:Nat->Prop}{b:BS}{x:Int}{m:Nat}
variable{nm:Aj}{av:Aa}{l:List A5}{r:List Aa}{sp p:Int}
def TE{U:Type}{l:List U}{n:Nat}(hn:n<l.length):(l.take (n+1)).reverse=l[n]::(l.take n).reverse:=by rw[AB hn,II];rfl
def aID(w:BX h bi a o c t G b)(rm:BM b m)(nm:Aj):
  ∃h' o',BG cx 74 [Pt bi 0,.str nm] h (.tuple []) h'/\BX h' bi a o' c t G (b.Du nm)/\DC h (Bs bi G) h' (Bs bi G):=by
 have ho:=rm.AQ;have I9:Ev cx 74 [Pt bi 0,.str nm] h λr h'=>r= .tuple []/\∃o',BX h' bi a o' c t G (b.Du nm)/\DC h (Bs bi G) h' (Bs bi G):=by
  unfold Ev;rw[wL];simp only[abS,(IH w).Ab,(Uz w.sA).Ab,Da (Ac: -9223372036854775808<=(b.AQ.length:Int)-1) (Ac:(b.AQ.length:Int)-1<9223372036854775808)];refine Bm (λn:Nat=>[I ((n:Int)-1)]) (λn h1=>n<=b.AQ.length/\(b.AQ.reverse.find? λi=>Bw [nm] i||Hc i)=((b.AQ.take n).reverse.find? λi=>Bw [nm] i||Hc i)/\h1=h) (λn=>n) b.AQ.length rfl ⟨Ag _,by rw[Bx],rfl⟩ ?_;rintro n h1 ⟨hn,ha,rfl⟩;cases n with
  |zero=>
   have e:b.Du nm=b:=by unfold BS.Du;rw[ha];rfl
   simp only[abS,(Ac:¬(0:Int)<=((0:Nat):Int)-1)];exact⟨_,rfl,rfl,o,by rw[e];exact w,.refl⟩
  |succ n=>
   have hlt:n<b.AQ.length:=Ac;have i1:((n+1:Nat):Int)-1=(n:Int):=Ac;have j:=Wj w.sA (n:Int);rw[HE hlt] at j;have em:AD (.Dk 1) [.str nm]=some (.sl 1 ([nm].map Cu)):=Ea (ws:=[nm]) rfl AH;have r2:=xD (ws:=[nm]) C1 AH b.AQ[n] h1;rw[TE hlt,GQ] at ha;generalize hi:b.AQ[n]=i at*;rw[Item.row] at r2;simp only[abS,E9,i1,(Ac:(0:Int)<=(n:Int)),j.Ab,em];have f:BG cx 162 [.agg i.row,.sl 1 ([nm].map Cu)] h1 (.bool (Bw [nm] i)) h1:=r2;rw[f.Ab,Od,CS];refine⟨λh2=>?_,λh2=>?_⟩
   .obtain⟨u,s,Py⟩:=aHM w.sO Ac nm;have w1:=w.HZ Py;have Er:=QS (b:=EA nm) (a:=CY) (l:=b.AQ);obtain⟨k,q,IG⟩:=aHN w1.sO Dv i.node;simp only[BE,s.Ab,q.Ab];refine⟨_,rfl,rfl,k,?_,Bf.trans Bf⟩;have e:b.Du nm={b with AQ:=Hd i.node (DN (EA nm) CY b.AQ)}:=by unfold BS.Du;rw[ha];simp only[h2,UW,BJ]
    rw[e];exact w1.HZ IG
   .simp only[h2,Ht] at ha;simp only[(aHy i.Bb i.name).B6 rfl rfl];rw[Od,CS];refine⟨λg=>?_,λg=>?_⟩
    .have d:Hc i=true:=g;rw[d] at ha;have e:b.Du nm=b:=by unfold BS.Du;rw[ha];simp only[h2,Cx,DF]
     simp only[BE];exact⟨_,rfl,rfl,o,by rw[e];exact w,.refl⟩
    .have d:Hc i=false:=g;rw[d] at ha;simp only[BE,Da (Ac: -9223372036854775808<=(n:Int)-1) (Ac:(n:Int)-1<9223372036854775808)];exact AK.next n rfl ⟨Ac,ha,rfl⟩ Ac
 obtain⟨r,h',hr,rfl,o',w',x'⟩:=I9.ret;exact⟨h',o',hr,w',x'⟩
def aIE(w:BX h bi a o c t G b)(rm:BM b m){k:Nat}(hk:k<=b.AQ.length):BG cx 338 [Pt bi 0,I (k:Int)] h (I (BS.JO (b.AQ.take k))) h:=by
 have ho:=rm.AQ;rw[Ae,kJ];simp only[BE,Da (Ac: -9223372036854775808<=(k:Int)-1) (Ac:(k:Int)-1<9223372036854775808)];refine Bm (λn:Nat=>[I 0,I ((n:Int)-1)]) (λn h1=>n<=k/\((b.AQ.take k).reverse.find? λi=>Bw [AM] i||Bw [Fa] i)=((b.AQ.take n).reverse.find? λi=>Bw [AM] i||Bw [Fa] i)/\h1=h) (λn=>n) k rfl ⟨Ag _,rfl,rfl⟩ ?_;rintro n h1 ⟨hn,ha,rfl⟩;cases n with
 |zero=>simp only[abS,(Ac:¬(0:Int)<=((0:Nat):Int)-1)];unfold BS.JO;rw[ha];rfl
 |succ n=>
  have hlt:n<b.AQ.length:=Ac;have i1:((n+1:Nat):Int)-1=(n:Int):=Ac;have f:=Wj w.sA (n:Int);rw[HE hlt] at f;have e:AD (.Dk 1) [S AM]=some (.sl 1 ([AM].map Cu)):=Ea (ws:=[AM]) rfl AP;have xF:AD (.Dk 1) [S Fa]=some (.sl 1 ([Fa].map Cu)):=Ea (ws:=[Fa]) rfl AP;have r2:=xD (ws:=[AM]) C1 AP b.AQ[n] h1;have g:=xD (ws:=[Fa]) C1 AP b.AQ[n] h1;rw[TE hlt,GQ] at ha;simp only[abS,i1,(Ac:(0:Int)<=(n:Int)),f.Ab,e,r2.Ab,xF,g.Ab,Da (Ac: -9223372036854775808<=(n:Int)-1) (Ac:(n:Int)-1<9223372036854775808)];rw[CS];refine⟨λh2=>?_,λh2=>?_⟩;.simp only[h2,UW] at ha;unfold BS.JO;rw[ha];simp only[h2,BJ]
  .simp only[h2,Ht] at ha;rw[CS];refine⟨λd=>?_,λd=>?_⟩;.rw[d] at ha;unfold BS.JO;rw[ha];simp only[h2,Cx,DF]
   .rw[d] at ha;exact AK.next n rfl ⟨Ac,ha,rfl⟩ Ac
def xG(r:Aj×Int):List Aa:=[.str r.1,I r.2]
def mB{z:Nat}{AE:List (List Aa)}{args:List Aa}(e:args=AE.map Aa.agg)(hz:∀r∈AE,r.length=z)(hl:AE.length*z<=16777216):AD (.Dk z) args=some (.sl z AE):=by
 subst e;have f:(AE.map Aa.agg).all (λa=>a.cells.length==z)=true:=by simp[Aa.cells];exact hz
 have d:(AE.map Aa.agg).map (·.cells)=AE:=by rw[List.map_map];exact List.map_id _
 rw[zW,f,d];simp[hl]
def A_{args:List Aa}(e:args=(JH.map xG).map Aa.agg):AD (.Dk 2) args=some (.sl 2 (JH.map xG)):=mB e (λr hr=>by obtain⟨x,_,rfl⟩:=Bn.1 hr;rfl) AP
def aIF:BG cx 337 [] h (.sl 2 (JH.map xG)) h:=by rw[Ae,kI];simp only[abS,Nat.reduceLeDiff,↓reduceIte,AT];exact(Cc (λz=>bZ z λv=>[v]=[Aa.sl 2 (JH.map xG)]) (A_ rfl)).mpr (by rw[Oc])
def Q2{s:Aj}{i:Item}:Bw [s] i=decide (i.Bb=1/\i.name=s):=by unfold Bw;simp
def oa{i:Item}{k:Nat}:b.Hp i k=match JH.find? λr=>Bw [r.1] i with
  |some r=>some r.2
  |none=>if Bw [LA] i then some (BS.JO (b.AQ.take k)) else if Bw [xo,xq] i&&decide (0<k) then some 15 else if Bw [AM] i then some (b.tm.getLast?.getD 7) else if Bw [Rw] i&&decide (0<k) then some 4 else if Bw [DI] i then some (if b.head=0 then 3 else 6) else if k=0 then some 7 else none:=by
 unfold BS.Hp;by_cases hs:i.Bb=1
 .rw[Af hs];have e:(λr:Aj×Int=>Bw [r.1] i)=λr=>decide (r.1=i.name):=by funext r;rw[Q2,Dd];exact⟨λh=>h.2.symm,λh=>⟨hs,h.symm⟩⟩
  rw[e];cases hf:JH.find? λr=>decide (r.1=i.name) with
  |some r=>rfl
  |none=>simp only[Bw,hs,M5,AS,KY,sE,Bv,CO]
 .rw[Ad hs];have e:(λr:Aj×Int=>Bw [r.1] i)=λ_=>false:=by funext r;rw[Q2,Ah (λh=>hs h.1)]
  rw[e];have d:JH.find? (λ_=>false)=none:=AP;rw[d];simp only[Bw,hs,ZS,DG,Cx,DF,à]
def aIG(w:BX h bi a o c t G b)(rm:BM b m)(i:Item){k:Nat}(hk:k<=b.AQ.length):BG cx 190 [Pt bi 0,.agg i.row,I (k:Int)] h (.tuple [I ((b.Hp i k).getD 7),.bool (b.Hp i k).isSome]) h:=by
 have ho:=rm.AQ;have R:=rm.tm;have zE:AU 2 (JH.map xG) (.sl 2 (JH.map xG)):= .mk;have C:=λws hw=>xD (ws:=ws) C1 hw i h;rw[oa,Ae,iY];have hlen:JH.length=9:=rfl;have Q:=zE.CN;rw[hlen] at Q;simp only[BE,↓reduceIte,E9,aIF.Ab,Q];refine Bm (λn:Nat=>[I 0,ff,I (n:Int)]) (λn h1=>n<=9/\(JH.find? λr=>Bw [r.1] i)=((JH.drop n).find? λr=>Bw [r.1] i)/\h1=h) (λn=>9 -n) 0 rfl ⟨AY _,rfl,rfl⟩ ?_;rintro n h1 ⟨hn,ha,rfl⟩;rcases AR n 9 with hlt|Eh
 .have Tz:n<JH.length:=hlt;have em:AD (.Dk 1) [.str JH[n].1]=some (.sl 1 ([JH[n].1].map Cu)):=Ea (ws:=[JH[n].1]) rfl AH;rw[AG Tz,GQ] at ha;simp only[BE,Nat.reduceLeDiff,↓reduceIte,ZP,(Ac:(n:Int)<((9:Nat):Int)),zE.BL Tz,xG,em,(C [JH[n].1] AH).Ab,BN (Ac:n<9223372036854775807)];rw[CS];refine⟨λh2=>?_,λh2=>?_⟩;.rw[h2] at ha;rw[ha];simp
  .rw[h2] at ha;exact AK.next (n+1) rfl ⟨hlt,ha,rfl⟩ Ac
 .have T:n=9:=by omega
  subst T;have ha:(JH.find? λr=>Bw [r.1] i)=none:=ha;rw[ha];have q:AD (.Dk 1) [S aV0]=some (.sl 1 ([LA].map Cu)):=Ea (ws:=[LA]) rfl AP;have s:AD (.Dk 1) [S [116,100],S [116,104]]=some (.sl 1 ([xo,xq].map Cu)):=Ea (ws:=[xo,xq]) rfl AP;have u:AD (.Dk 1) [S aVg]=some (.sl 1 ([AM].map Cu)):=Ea (ws:=[AM]) rfl AP;have J:AD (.Dk 1) [S aVk]=some (.sl 1 ([Rw].map Cu)):=Ea (ws:=[Rw]) rfl AP;have L:AD (.Dk 1) [S aVh]=some (.sl 1 ([DI].map Cu)):=Ea (ws:=[DI]) rfl AP;have f:=C [LA] AP;have d:=C [xo,xq] AP;have g:=C [AM] AP;have y:=C [Rw] AP;have B:=C [DI] AP;have rs:=aIE w rm hk;have lt:=(w.t.1.Sl (h:=h1));have j:¬((9:Nat):Int)<((9:Nat):Int):=AP;have l6:=w.l6;have H:b.tm≠[]->∃p,AD (.int .sub) [I (b.tm.length:Int),I 1]=some (I ((b.tm.length-1:Nat):Int))/\AD (.Ff 1) [t,I ((b.tm.length-1:Nat):Int)]=some p/\A7 h1 none p=some (I (b.tm.getLast?.getD 7)):=by intro hne;have hpos:=D7.2 hne;obtain⟨p,E,D⟩:=lt.at_ (b.tm.length-1) Ac;refine⟨p,Iv hpos Ac,E,?_⟩;rw[D,K5,Ap Ac];rfl
  by_cases g1:Bw [LA] i=true;.rw[g1] at f;simp only[abS,↓reduceIte,j,q,f.Ab,rs.Ab,g1,Gg,nA]
  .have g1:Bw [LA] i=false:=by simpa using g1
   rw[g1] at f;by_cases A:0<k
   .have N:¬k=0:=by omega
    have z:¬(k:Int)=0:=Ac;have v:(0:Int)<(k:Int):=Ac;cases g2:Bw [xo,xq] i<;>rw[g2] at d;rotate_left;.simp only[BE,↓reduceIte,j,q,f.Ab,s,d.Ab,A,v,g1,Jr]
    cases g3:Bw [AM] i<;>rw[g3] at g;rotate_left
    .by_cases ht:b.tm=[];.simp only[BE,↓reduceIte,j,q,f.Ab,s,d.Ab,u,g.Ab,A,v,g1,Jr,l6,lt.len,ht,Int.natCast_zero,aBb,sG]
     .obtain⟨p,E,D,M⟩:=H ht;have Gs:¬b.tm.length=0:=λe=>ht (Mg.1 e);simp only[BE,↓reduceIte,j,q,f.Ab,s,d.Ab,u,g.Ab,A,v,g1,Jr,l6,lt.len,(Ac:(0:Int)<(b.tm.length:Int)),E,D,M]
    cases P:Bw [Rw] i<;>rw[P] at y;rotate_left;.simp only[BE,↓reduceIte,j,q,f.Ab,s,d.Ab,u,g.Ab,J,y.Ab,A,v,g1,Jr]
    all_goals cases O:Bw [DI] i<;>rw[O] at B
    all_goals first
     |simp only[BE,↓reduceIte,j,q,f.Ab,s,d.Ab,u,g.Ab,J,y.Ab,L,B.Ab,A,N,z,v,g1,Jr];done
     |by_cases K:b.head=0
      .simp only[BE,↓reduceIte,j,q,f.Ab,s,d.Ab,u,g.Ab,J,y.Ab,L,B.Ab,A,z,v,g1,Jr,w.l7,K]
      .simp only[BE,↓reduceIte,j,q,f.Ab,s,d.Ab,u,g.Ab,J,y.Ab,L,B.Ab,A,z,v,g1,Jr,w.l7,K]
   .have N:k=0:=by omega
    subst N;have v:¬(0:Int)<((0:Nat):Int):=AP;have z:((0:Nat):Int)=0:=rfl;by_cases g3:Bw [AM] i=true
    .rw[g3] at g;cases g2:Bw [xo,xq] i<;>rw[g2] at d<;>by_cases ht:b.tm=[];all_goals first
      |simp only[BE,↓reduceIte,j,q,f.Ab,s,d.Ab,u,g.Ab,z,g1,g3,Jr,l6,lt.len,ht,aBb,sG,Dm];done
      |obtain⟨p,E,D,M⟩:=H ht
       have Gs:¬b.tm.length=0:=λe=>ht (Mg.1 e);simp only[BE,↓reduceIte,j,q,f.Ab,s,d.Ab,u,g.Ab,z,g1,g3,Jr,l6,lt.len,(Ac:(0:Int)<(b.tm.length:Int)),E,D,M,Dm]
    .have g3:Bw [AM] i=false:=by simpa using g3
     rw[g3] at g;cases g2:Bw [xo,xq] i<;>rw[g2] at d<;>cases P:Bw [Rw] i<;>rw[P] at y<;>cases O:Bw [DI] i<;>rw[O] at B<;>by_cases K:b.head=0;all_goals simp only[BE,↓reduceIte,j,q,f.Ab,s,d.Ab,u,g.Ab,J,y.Ab,L,B.Ab,z,g1,g3,Jr,w.l7,K,Dm]
end
end Go.Am
end
