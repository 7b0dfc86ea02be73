/- Lemmas -/
import Derived.Test.YtkaolmlpcamojaaGreatDoorC24
set_option linter.all false
set_option maxHeartbeats 0
set_option maxRecDepth 100000
section
namespace Go.Am
open Go
section
variable{h h':Ah}{a n:Nat}{m:Option Nat}{ps:List PN}{A:Ar}{x:Int}{F:Nat->Prop}
def PA.pw(w:PA h a n m ps A):PW h (λi=>i∈Gm a n m ps) a A:=⟨n,m,ps,w,λ_=>aEF⟩
def Nw.add{y:ES}(b:Nw A)(h1:A.len+1<=1000000000)(h2:y.Ay.length<=1000000000)(c:y.data.length<=1000000000):Nw (A.add y):=by
 refine⟨?_,λx=>?_,λx=>?_⟩;.unfold Ar.len at h1;simp[Ar.add];omega
 .rw[II];split;.exact h2
  .exact b.at_ x
 .rw[II];split;.exact c
  .exact b.data x
def Nw.set{y:ES}(b:Nw A)(h2:y.Ay.length<=1000000000)(c:y.data.length<=1000000000):Nw (A.set x y):=by
 refine⟨by rw[Jw];exact b.n,λx=>?_,λx=>?_⟩<;>rw[JP]<;>split;.exact h2
 .exact b.at_ x
 .exact c
 .exact b.data x
def ŕ{x y:ES}:(A.add x).set (A.len+1) y=A.add y:=by unfold Ar.set;rw[Af (DS.2 (.inr rfl))];unfold Ar.add Ar.len;have e:((A.n.length:Int)+1).toNat-1=A.n.length:=Ab;simp only[e];rw[BO _ _ (Ag _),De];rfl
def bk{p:PN}(w:PA h a n m ps A)(hx:A.has x)(hk:HT p.kv=HT (pN ps x).kv):Gm a n m (ps.set (x.toNat-1) p)=Gm a n m ps:=by obtain⟨c,b⟩:=YN w hx p;unfold Gm;rw[b,EL,IA,hk];conv=>rhs;rw[c,EL,IA]
def PA.wr(w:PA h a n m ps A)(hx:A.has x){k:Nat}(hk:k<13){v:Aa}(hv:v.cells=[v]){p:PN}(hp:p.row=(pN ps x).row.set k v)(h1:p.kv=(pN ps x).kv)(h2:p.x.Bb=(A.nd x).Bb):
  ∃h',Cv h 1 (Pt n (nP n x+k)) v=some h'/\PA h' a n m (ps.set (x.toNat-1) p) (A.set x p.x)/\Gm a n m (ps.set (x.toNat-1) p)=Gm a n m ps/\(∀i,i≠n->h'[i]?=h[i]?)/\h'.length=h.length:=by
 refine⟨_,w.sto hx hk hv hp rfl,w.m_ hx (λi _ _=>rfl) (by rw[h1,h2];exact w.M4 hx) (.inl (by rw[h1])),bk w hx (by rw[h1]),λi hi=>by rw[Ao (DG hi)],Bq⟩
def PA.xl(w:PA h a n m ps A){h1:Ah}{JA:List PN}{A':Ar}(w':PA h1 a n m JA A')(hi:Gm a n m JA=Gm a n m ps)(ho:∀i,i≠n->h1[i]?=h[i]?)(hl:h1.length=h.length):DC h (λi=>i∈Gm a n m ps) h1 (λi=>i∈Gm a n m JA):=
 ⟨Ab,λi _ hn=>ho i (λe=>hn (by rw[e];simp[Gm])),λi Wf=> .inl (by rwa [hi] at Wf)⟩
def KI(q:Bool)(d:Int):PN:=⟨{kind:=1,CK:=q,CQ:=d},.slnil,.slnil,rfl⟩
def aMz(w:PA h a n m ps A)(o:Nw A)(hb:A.len+1<=1000000000)(q:Bool):
  ∃h',BL cx 58 [Pt a 0,.bool q] h (I (A.len+1)) h'/\PA h' a h.length m (ps++[KI q (A.len+1)]) (A.add {kind:=1,CK:=q,CQ:=A.len+1})/\(∀i,i<h.length->i≠a->i≠n->h'[i]?=h[i]?)/\h'.length=h.length+1:=by
 have lJ:=w.len;obtain⟨h1,g,w1,l,l1⟩:=Œ w Ab (KI q 0) rfl rfl;have e:=o.add (y:=(KI q 0).x) hb (by simp[KI]) (by simp[KI]);have hx:(A.add (KI q 0).x).has (A.len+1):=DS.2 (.inr rfl);have hlen:(A.len+1).toNat-1=ps.length:=Ab;have b:pN (ps++[KI q 0]) (A.len+1)=KI q 0:=by unfold pN;rw[hlen];simp
 obtain⟨h2,f,c,_,j,t⟩:=w1.wr hx (k:=3) AM (v:= I (A.len+1)) rfl (p:=KI q (A.len+1)) (by rw[b];rfl) (by rw[b];rfl) (by rw[II,Af rfl];rfl);refine⟨h2,?_,?_,λi hi s r=>?_,Ab⟩;.have r2:=Jb w1 e hx;rw[Ae,eW];have d:BL cx 158 [Pt a 0,.agg [I 1,I 0,.slnil,I 0,I 0,.str [],.slnil,.str [],.str [],.str [],.bool q,I 0,I 0]] h (I (A.len+1)) h1:=g;simp only[abS,Nat.reduceLeDiff,↓reduceIte,AR,d.Ac,r2.Ac,f]
 .rw[ŕ,hlen] at c;rw[BO _ _ (Ag _),De] at c;exact c
 .rw[j i Ab];exact l i hi s r
def Mx(k d:Int)(s:Ai):PN:=⟨{kind:=k,CQ:=d,data:=s},.slnil,.slnil,rfl⟩
def PA.Td(w:PA h a n m ps A){p:PN}{h1:Ah}(hk:HT p.kv=none)(b:∀i,i<h.length->i≠a->i≠n->h1[i]?=h[i]?)(l1:h1.length=h.length+1):DC h (λi=>i∈Gm a n m ps) h1 (λi=>i∈Gm a h.length m (ps++[p])):=by
 refine⟨Ab,λi hi hn=>b i hi (λe=>hn (by simp[Gm,e])) (λe=>hn (by simp[Gm,e])),λi hi=>?_⟩;rw[pB hk] at hi;simp only[AS] at hi;rcases hi with rfl|rfl|hi
 .exact .inl (by simp[Gm])
 .exact .inr (Ag _)
 .exact .inl (by unfold Gm;simp only[AS];exact .inr (.inr hi))
def aA2{k:Int}{s:Ai}(w:PA h a n m ps A)(d:Nw A)(hb:A.len+1<=1000000000)(hd:A.has x/\(A.nd x).kind=1):
  ∃h',BL cx 235 [Pt a 0,I x,.agg (Mx k 0 s).row] h (.tuple [I (A.len+1),I 0]) h'/\PA h' a h.length m (ps++[Mx k x s]) (A.add (Mx k x s).x)/\(∀i,i<h.length->i≠a->i≠n->h'[i]?=h[i]?)/\h'.length=h.length+1:=by
 have lJ:=w.len;obtain⟨h1,b,w1,c,l1⟩:=Œ w Ab (Mx k x s) rfl rfl;refine⟨h1,?_,w1,c,l1⟩;rw[PN.row] at b;rw[Ae,hC,PN.row];simp only[abS,(xh (x:=x) w d).Ac,Af hd.1,Af hd.2,BW,Cy,Mx] at b⊢;simp only[BD,b.Ac]
def aMA{s:Ai}(w:PA h a n m ps A)(e:Nw A)(hb:A.len+1<=1000000000)(hd:A.has x/\(A.nd x).kind=1):
  ∃h',BL cx 176 [Pt a 0,I x,.str s] h (.tuple [I (A.len+1),I 0]) h'/\PA h' a h.length m (ps++[Mx 5 x s]) (A.add (Mx 5 x s).x)/\(∀i,i<h.length->i≠a->i≠n->h'[i]?=h[i]?)/\h'.length=h.length+1:=by
 obtain⟨h1,c,w1,d,l1⟩:=aA2 (k:=5) (s:=s) w e hb hd;refine⟨h1,?_,w1,d,l1⟩;have b:BL cx 235 [Pt a 0,I x,.agg [I 5,I 0,.slnil,I 0,I 0,.str [],.slnil,.str s,.str [],.str [],.bool false,I 0,I 0]] h (.tuple [I (A.len+1),I 0]) h1:=c;rw[Ae,gA];simp only[abS,Nat.reduceLeDiff,↓reduceIte,AR,b.Ac]
def aHh{s:Ai}(w:PA h a n m ps A)(e:Nw A)(hb:A.len+1<=1000000000)(hd:A.has x/\(A.nd x).kind=1):
  ∃h',BL cx 177 [Pt a 0,I x,.str s] h (.tuple [I (A.len+1),I 0]) h'/\PA h' a h.length m (ps++[Mx 6 x s]) (A.add (Mx 6 x s).x)/\(∀i,i<h.length->i≠a->i≠n->h'[i]?=h[i]?)/\h'.length=h.length+1:=by
 obtain⟨h1,c,w1,d,l1⟩:=aA2 (k:=6) (s:=s) w e hb hd;refine⟨h1,?_,w1,d,l1⟩;have b:BL cx 235 [Pt a 0,I x,.agg [I 6,I 0,.slnil,I 0,I 0,.str [],.slnil,.str s,.str [],.str [],.bool false,I 0,I 0]] h (.tuple [I (A.len+1),I 0]) h1:=c;rw[Ae,gB];simp only[abS,Nat.reduceLeDiff,↓reduceIte,AR,b.Ac]
def aMB{s:Ai}(w:PA h a n m ps A)(e:Nw A)(hx:A.has x)(hk:(A.nd x).kind=5):
  ∃h' JA,BL cx 175 [Pt a 0,I x,.str s] h (I 0) h'/\PA h' a n m JA (A.S2 x s)/\DC h (λi=>i∈Gm a n m ps) h' (λi=>i∈Gm a n m JA):=by
 have hp:=(w.pn hx).2.1;obtain⟨h2,c,b,g,d,f⟩:=w.wr hx (k:=7) AM (v:= .str s) rfl (p:=⟨{A.nd x with data:=s},(pN ps x).kv,(pN ps x).av,by rw[<-hp];exact(pN ps x).ok⟩) (by simp only[PN.row];rw[hp];rfl) rfl rfl;refine⟨h2,_,?_,b,w.xl b g d f⟩;rw[Ae,fZ];simp only[abS,HA,(Uh (x:=x) w).Ac,Af hx,BW,Cy,(Jb w e hx).Ac,w.f0 hx,hk,c]
def aA3{y:Int}:BL cx 345 [.sl 1 [[I y]]] h (.bool (decide (BS.H8 y))) h:=by
 have hv:AU 1 [[I y]] (.sl 1 [[I y]]):= .mk;have d:([[I y]]:List (List Aa))[0]=[I y]:=rfl;rw[Ae,jK];simp only[BD,hv.len];refine Bi (λk:Nat=>[.bool false,I (k:Int)]) (λk h1=>k<=1/\(k=1->BS.H8 y)/\h1=h) (λk=>1 -k) 0 rfl ⟨AV _,λe=>Ab,rfl⟩ ?_;rintro k h1 ⟨hk,ha,rfl⟩;rcases AP k 1 with hlt|Eg
 .obtain rfl:k=0:=by omega
  simp only[BD,lO,(AM:((0:Nat):Int)<((1:Nat):Int)),hv.Fl (show 0<[[I y]].length from Cd),d,BM (Ab:0<9223372036854775807)];refine⟨λh2=>?_,λh2=>⟨λc=>?_,λc=>?_⟩⟩;.rw[Ap (λb=>by unfold BS.H8 at b;omega)]
  .rw[Ap (λb=>by unfold BS.H8 at b;omega)]
  .exact AK.next 1 rfl ⟨Ag _,λ_=>⟨Ab,Ab⟩,rfl⟩ Ab
 .obtain rfl:k=1:=by omega
  simp only[abS,(AM:¬((1:Nat):Int)<((1:Nat):Int)),As (ha rfl)]
def YO{l out:List A5}{y:A5}:Hz out (l++[y])=if(Hz out l).any (λz=>decide (DF y=DF z)) then Hz out l else Hz out l++[y]:=by
 induction l generalizing out with
 |nil=>simp only[BR,Hz];split<;>simp_all
 |cons z l ih=>
  rw[CC,Hz,Hz];split;.exact ih
  .exact ih
def aHi(y c:A5)(h:Ah):BL cx 409 [.agg c.row,.CH y.row] h (.bool (decide (DF y=DF c))) h:=by
 rw[Ae,j2,A5.row,A5.row];simp only[BD];refine⟨λh1=>?_,λh1=>?_⟩;.congr 2;rw[Dd];simp[DF,h1]
 .rw[Ap (λe=>h1 (by simp[DF] at e;exact e.1))]
def aA4{F v:Aa}{l:List A5}{q:A5->Bool}(hv:Na h v l)(hb:l.length<=1000000000)(hF:o9 F h q):BL cx 191 [v,F] h (.bool (l.any q)) h:=by
 obtain⟨f,caps,rfl,hf,hr⟩:=hF;have key:BL cx 309 [v,.func (.func f) [] caps] h (I (Cn q 0 l)) h:=by
  rw[Ae,S7];simp only[BD,hv.len];refine Bi (λn:Nat=>[I 0,I (n:Int)]) (λn h1=>n<=l.length/\Cn q 0 l=Cn q n (l.drop n)/\h1=h) (λn=>l.length-n) 0 rfl ⟨AV _,rfl,rfl⟩ ?_;rintro n h1 ⟨kh,ha,rfl⟩;rcases AP n l.length with hlt|Eg
  .have i1:(n:Int)<(l.length:Int):=by omega
   obtain⟨p,d,c⟩:=hv.at_ n hlt;rw[AG hlt,Cn] at ha;simp only[BD,↓reduceIte,Dp,lO,hf,i1,d,c,(hr l[n]).Ac,BM (Ab:n<9223372036854775807)];rw[CS];refine⟨λhe=>?_,λhe=>?_⟩;.rw[ha,Af he]
   .rw[Ad (by simp[he])] at ha;exact AK.next (n+1) rfl ⟨hlt,ha,rfl⟩ Ab
  .have i1:¬(n:Int)<(l.length:Int):=by omega
   rw[AW Eg,Cn] at ha;simp only[abS,↓reduceIte,Dp,i1,ha]
 rw[Ae,Wx];simp only[BD,key.Ac];congr 2
 rcases HP (p:=q) (l:=l) (k:=0) with⟨h1,h2⟩|⟨n,y,h1,h2,b⟩
 .rw[h1,oa];have:=Js.1 h2;simpa using this
 .rw[h1,oa,As Ab,TF];exact⟨y,Q1 b,Vr b⟩
def aA5{l:List A5}{v:Aa}(hv:Na h v l)(hb:l.length<=1000000000)(hs:∀y∈l,BS.H8 y.Bc):BL cx 339 [v] h (.tuple [VR (Cz l),.bool true]) h:=by
 rw[Ae,jE];simp only[BD,hv.len];refine Bi (λk:Nat=>[.slnil,.bool false,VR (Cz (l.take k)),I (k:Int)]) (λk h1=>k<=l.length/\h1=h) (λk=>l.length-k) 0 rfl ⟨AV _,rfl⟩ ?_;rintro k h1 ⟨hk,rfl⟩;rcases AP k l.length with hlt|Eg
 .have i1:(k:Int)<(l.length:Int):=by omega
  obtain⟨p,j,e⟩:=hv.at_ k hlt;have inc:=BM (Ab:k<9223372036854775807);have hsp:=hs _ (AL hlt);have i:=aA3 (h:=h1) (y:=l[k].Bc);have hF:o9 (.func (.func 409) [] [.CH l[k].row]) h1 (λc=>decide (DF l[k]=DF c)):=⟨_,_,rfl,AM,λc=>aHi l[k] c h1⟩;have nh:(Cz (l.take k)).length<=1000000000:=by have:=Qy (l:=l.take k);rw[Aw] at this;omega
  have r2:=aA4 (YM WS) nh hF;have g:Cz (l.take (k+1))=if(Cz (l.take k)).any (λz=>decide (DF l[k]=DF z)) then Cz (l.take k) else Cz (l.take k)++[l[k]]:=by rw[AB hlt];exact YO
  have d:=AU.J2 (f:=A5.row) (a:=l[k]) (b:=40) (WS (l:=Cz (l.take k))) (by have:=Qy (l:=l.take k);rw[Aw] at this;have:AX=140737488355328:=rfl;omega);have em:AD (.Dm 3) [.agg l[k].row]=some (.sl 3 [l[k].row]):=rfl;rw[<-kj] at d;rw[A5.row] at r2 em d e;simp only[abS,Nat.reduceLeDiff,↓reduceIte,i1,j,e,HA,i.Ac,As hsp,r2.Ac,em,d,inc];rw[CS];refine⟨λh2=>?_,λh2=>?_⟩;.exact AK.next (k+1) (by rw[g,Ad (by simpa using h2)]) ⟨hlt,rfl⟩ Ab
  .exact AK.next (k+1) (by rw[g,Af (by simpa using h2)]) ⟨hlt,rfl⟩ Ab
 .have i1:¬(k:Int)<(l.length:Int):=by omega
  simp only[abS,↓reduceIte,i1,AF Eg]
def aHj{l:List A5}{v:Aa}(w:PA h a n m ps A)(f:Nw A)(hx:A.has x)(hk:(A.nd x).kind=4)(hv:Na h v l)(hb:l.length<=1000000000)(hs:∀y∈l,BS.H8 y.Bc):
  ∃h' JA,BL cx 193 [Pt a 0,I x,v] h (I 0) h'/\PA h' a n m JA (A.Jy x l)/\DC h (λi=>i∈Gm a n m ps) h' (λi=>i∈Gm a n m JA):=by
 have hp:=(w.pn hx).2.1;have d:=aA5 hv hb hs;obtain⟨h2,c,b,j,e,g⟩:=w.wr hx (k:=6) AM (v:=VR (Cz l)) (AU.cells WS) (p:=⟨{A.nd x with Ay:=Cz l},(pN ps x).kv,VR (Cz l),rfl⟩) (by simp only[PN.row];rw[hp];rfl) rfl rfl;refine⟨h2,_,?_,b,w.xl b j e g⟩;rw[Ae,gN];simp only[abS,HA,(Uh (x:=x) w).Ac,Af hx,BW,Cy,(Jb w f hx).Ac,w.f0 hx,hk,d.Ac,c]
def aHk(w:PA h a n m ps A)(hx:A.has x):BL cx 346 [Pt n (nP n x)] h (.bool (decide (eO (A.nd x)))) h:=by rw[Ae,jL];simp only[abS,w.f0 hx,w.f4 hx,w.f5 hx,eO];refine⟨λh1=>⟨λh2=>?_,λh2=>?_⟩,λh1=>?_⟩<;>simp[*]
def QW(x:Int×Int):Aa×Aa:=(I x.1,I x.2)
def kJ{k:Int}:∀{l:List (Int×Int)} {i:Nat},(l.find? (λx=>decide (k=x.1))=none->LD k (l.map QW) i=some none)/\∀y,l.find? (λx=>decide (k=x.1))=some y->∃j,LD k (l.map QW) i=some (some (j,I y.2))
 |[],i=>⟨λ_=>rfl,λy h=>by cases h⟩
 |z::l,i=>by
  have ih:=kJ (k:=k) (l:=l) (i:=i+1);simp only[Bl,QW,LD,FF];by_cases e:k=z.1;.simp only[e,Dz,BN];exact⟨λh=>(by cases h),λy h=>⟨i,by cases h;rfl⟩⟩
  .simp only[e,DH,DQ];exact ih
def YL.get{f:Int->Int}(w:YL h m f)(k:Int):E3 (.ob (I 0) true) h [.map m,I k]=some (h,if f k=0 then .tuple [I 0,.bool false] else .tuple [I (f k),.bool true]):=by
 rcases w with⟨rfl,h0⟩|⟨id,l,rfl,hc,hl,_⟩
 .rw[Af (h0 k)];rfl
 .have hl:=hl k;have hm:=kJ (k:=k) (l:=l) (i:=0);simp only[E3,wX,hc];by_cases h0:f k=0
  .rw[Af h0] at hl⊢;have e:l.find? (λx=>decide (k=x.1))=none:=by
    cases hf:l.find? (λx=>decide (k=x.1)) with
    |none=>rfl
    |some y=>rw[hf] at hl;cases hl
   have:=hm.1 e;unfold QW at this;rw[this];rfl
  .rw[Ad h0] at hl⊢;cases hf:l.find? (λx=>decide (k=x.1)) with
   |none=>rw[hf] at hl;cases hl
   |some y=>rw[hf] at hl;simp only[B0,BB] at hl;obtain⟨j,e⟩:=hm.2 y hf;unfold QW at e;rw[e,<-hl];rfl
def bl{id:Nat}{l:List (Int×Int)}{k v:Int}(hc:h[id]?=some (.map (l.map QW)))(hn:l.find? (λx=>decide (k=x.1))=none):
  ∃h1,E3 (.TL (I 0)) h [.map (some id),I k]=some (h1,.tuple [I 0,I l.length])/\∃h2,E3 .Pm h1 [.map (some id),I l.length,I v]=some (h2,.bool true)/\h2=h.set id (.map ((l++[(k,v)]).map QW)):=by
 have Ie:=(Ak.1 hc).1;have hm:=(kJ (k:=k) (l:=l) (i:=0)).1 hn;refine⟨h.set id (.map (l.map QW++[(I k,I 0)])),?_,_,?_,rfl⟩;.simp only[E3,V5,hc,hm,B0,An]
 .have c:(h.set id (.map (l.map QW++[(I k,I 0)])))[id]?=some (.map (l.map QW++[(I k,I 0)])):=AO Ie;have b:(l.map QW++[(I k,I 0)])[l.length]?=some (I k,I 0):=by rw[Bm AH];simp
  simp only[E3,V6,c,AY,b];rw[Af Ab,aEH,BO _ _ AH];simp[QW]
def PA.aHl(w:PA h a n m ps A):∀i∈m.toList++ps.filterMap (λp=>HT p.kv),i<h.length/\i≠a/\i≠n:=by
 intro i hi;have h1:i∈Gm a n m ps:=by unfold Gm;simp only[AS];exact .inr (.inr hi)
 have b:=w.nd;unfold Gm at b;simp only[B5,AS,MN] at b;exact⟨w.lt i h1,λe=>b.1.2 (e▸hi),λe=>b.2.1 (e▸hi)⟩
def PA.aHm(w:PA h a n m ps A){h1:Ah}{m':Option Nat}{A':Ar}(g:A'.n=A.n)(f:A'.i.length=A'.n.length)(ha:h1[a]?=some (.cells [.CF n 0 ps.length 13,.map m']))(ho:∀i,i<h.length->i≠a->m≠some i->h1[i]?=h[i]?)(hm:m'=m\/∃j,m'=some j/\h.length<=j)(b:YL h1 m' A'.inr):PA h1 a n m' ps A':=by
 have nd:=w.nd;have kI:=nd;unfold Gm at kI;simp only[B5,AS,MN] at kI;have hnm:m≠some n:=λe=>kI.2.1 (by simp[e]);refine⟨by rw[g];exact w.e,f,ha,?_,?_,?_,b⟩;.rw[ho n (w.lt n (by simp[Gm])) (DG kI.1.1) hnm];exact w.hn
 .intro p hp;refine(w.ks p hp).Dj λid Ie=>?_;have h1:id∈ps.filterMap (λp=>HT p.kv):=Ck.2 ⟨p,hp,Ie⟩;have h2:=w.aHl id (Ax.2 (.inr h1));exact ho id h2.1 h2.2.1 λe=>(B3.1 kI.2.2).2.2 id (by simp[e]) id h1 rfl
 .rcases hm with rfl|⟨j,rfl,hj⟩
  .exact nd
  .have d:∀i∈ps.filterMap (λp=>HT p.kv),i<h.length:=λi hi=>(w.aHl i (Ax.2 (.inr hi))).1;have l:=w.lt a (by simp[Gm]);have k:=w.lt n (by simp[Gm]);have c:=(B3.1 kI.2.2).2.1;unfold Gm;simp only[B5,AS,aOJ,CC,BR,MN];exact⟨⟨kI.1.1,Ab,λhm=>kI.1.2 (Ax.2 (.inr hm))⟩,⟨Ab,λhm=>kI.2.1 (Ax.2 (.inr hm))⟩,λhm=>by have:=d j hm;omega,c⟩
def YP{l:List (Int×Int)}{k v:Int}(hk:bj l)(hn:l.find? (λx=>decide (k=x.1))=none)(h1:ir k=true)(h2:ir v=true):bj (l++[(k,v)]):=by
 refine⟨?_,λp hp=>?_⟩;.rw[BF,B3];refine⟨hk.1,AH,λa ha b hb e=>?_⟩;obtain⟨x,hx,rfl⟩:=Bk.1 ha;have c:=Js.1 hn x hx;simp only[Bl,Dn,BG] at hb;exact c (by simpa using(e.trans hb).symm)
 .rcases Ax.1 hp with h|h
  .exact hk.2 p h
  .simp only[BG] at h;subst h;exact⟨h1,h2⟩
def bm(hb:A.len<=1000000000)(hx:A.has x):ir x=true:=by have:=hx.1;have:=hx.2;unfold Ar.len at hb;unfold ir;simp;omega
def aHn{i:Nat}(hm:m=some i):i∈Gm a n m ps:=by unfold Gm;simp[hm]
def PA.aHo(w:PA h a n m ps A){l:List (Int×Int)}{id:Nat}(t:m=some id)(hc:h[id]?=some (.map (l.map QW)))(hl:∀k,(l.find? λx=>decide (k=x.1)).map (·.2)=if A.inr k=0 then none else some (A.inr k))(ok:bj l)(hb:A.len<=1000000000){d i:Int}(hd:A.has d)(hi:A.has i)(c:d≠i)(h0:A.inr d=0)(f:A.inr i=0):
  ∃h1 h2 r,E3 (.TL (I 0)) h [.map m,I d]=some (h1,.tuple [I 0,I l.length])/\E3 .Pm h1 [.map m,I l.length,I i]=some (h2,.bool true)/\
   E3 (.TL (I 0)) h2 [.map m,I i]=some (r,.tuple [I 0,I ((l.length+1:Nat):Int)])/\∃p,E3 .Pm r [.map m,I ((l.length+1:Nat):Int),I i]=some (p,.bool true)/\PA p a n m ps ((A.I8 d i).I8 i i)/\(∀j,j≠id->p[j]?=h[j]?)/\p.length=h.length:=by
 subst t;have Ie:=(Ak.1 hc).1;have b:∀k,A.inr k=0->l.find? (λx=>decide (k=x.1))=none:=by
  intro k hk;have:=hl k;rw[Af hk] at this;cases hf:l.find? (λx=>decide (k=x.1)) with
  |none=>rfl
  |some y=>rw[hf] at this;cases this
 obtain⟨h1,E,h2,D,rfl⟩:=bl (v:=i) hc (b d h0);have I0:(h.set id (.map ((l++[(d,i)]).map QW)))[id]?=some (.map ((l++[(d,i)]).map QW)):=AO Ie;obtain⟨r,B,p,z,rfl⟩:=bl (k:=i) (v:=i) I0 (by rw[Rp,b i f];simp[DG c]);simp only[Au,Be] at B z;refine⟨h1,_,r,E,D,B,_,z,?_,?_,AH⟩
 .have o:id≠a:=λe=>by have:=w.nd;unfold Gm at this;simp[e] at this
  refine w.aHm (m':=some id) (A':=(A.I8 d i).I8 i i) rfl ?_ ?_ ?_ (.inl rfl) ?_;.simp only[Ar.I8];split<;>split<;>simp[w.il]
  .rw[Ao o,Ao o];exact w.ha
  .intro j hj C u;have:id≠j:=λe=>u (by rw[e]);rw[Ao this,Ao this]
  .refine .inr ⟨id,l++[(d,i)]++[(i,i)],rfl,?_,λk=>?_,YP (YP ok (b d h0) (bm hb hd) (bm hb hi)) (by rw[Rp,b i f];simp[DG c]) (bm hb hi) (bm hb hi)⟩;.rw[AO (by simpa using Ie)];rfl
   .have s:(A.I8 d i).i.length=(A.I8 d i).n.length:=by simp only[Ar.I8];split<;>simp[w.il]
    rw[P2 s,P2 w.il,Rp,Rp];have qu:(A.I8 d i).has i:=hi;have hk:=hl k;have vC:i≠0:=by have:=hi.1;omega
    cases hf:l.find? (λx=>decide (k=x.1)) with
    |some y=>
     rw[hf] at hk;have o8:A.inr k≠0:=by intro e;rw[Af e] at hk;cases hk
     have q:k≠i:=λe=>o8 (e▸f);have g:k≠d:=λe=>o8 (e▸h0);simp only[q,g,Zn,DQ,Option.some_or];exact hk
    |none=>
     rw[hf] at hk;have o8:A.inr k=0:=by
      by_cases e:A.inr k=0;.exact e
      .rw[Ad e] at hk;cases hk
     by_cases g:k=d;.subst g;simp[c,hd,vC]
     .by_cases q:k=i;.subst q;simp[g,qu,vC]
      .simp[q,g,o8]
 .intro j hj;rw[Ao (DG hj),Ao (DG hj)]
def aHp(w:PA h a n m ps A)(E:Nw A)(hb:A.len+1<=1000000000)(hx:A.has x):
  ∃h' n' m' JA,BL cx 347 [Pt a 0,I x] h (I (A.Fy x)) h'/\PA h' a n' m' JA (A.Ds x)/\DC h (λi=>i∈Gm a n m ps) h' (λi=>i∈Gm a n' m' JA):=by
 have l1:A8 h none (Pt a 1)=some (.map m):=by simp only[A8,w.ha];rfl
 have g1:=w.mp.get x;by_cases h0:A.inr x=0
 .obtain⟨h1,z,w1,D,d⟩:=aMz w E hb false;have g:=w.Td (p:=KI false (A.len+1)) rfl D d;have s:A.Fy x=A.len+1:=by unfold Ar.Fy;rw[Ad (by simp[h0])]
  have t:A.Ds x=((A.add {kind:=1,CQ:=A.len+1}).I8 x (A.len+1)).I8 (A.len+1) (A.len+1):=by unfold Ar.Ds;rw[Ad (by simp[h0])]
  have Ŗ:∀k,(A.add {kind:=1,CK:=false,CQ:=A.len+1}).inr k=A.inr k:=λk=>Wm w.il;have Pd:(A.add {kind:=1,CK:=false,CQ:=A.len+1}).has x:=DS.2 (.inl hx);have VI:(A.add {kind:=1,CK:=false,CQ:=A.len+1}).has (A.len+1):=DS.2 (.inr rfl);have hne:=Yp hx;have f:A.inr (A.len+1)=0:=by unfold Ar.inr;rw[Ad RP]
  have B:A8 h1 none (Pt a 1)=some (.map m):=by simp only[A8,w1.ha];rfl
  rw[Af h0] at g1;have TJ:(A.add {kind:=1,CK:=false,CQ:=A.len+1}).len<=1000000000:=by rw[OE];exact hb
  rcases w1.mp with⟨rfl,hz⟩|⟨id,l,rfl,hc,hl,ho⟩
  .have ZB:=w1.ha;have Wb:a<h1.length:=w1.lt a (by simp[Gm]);have Pb:(h1++[DA.map []])[a]?=some (.cells [.CF h.length 0 (ps++[KI false (A.len+1)]).length 13,.map none]):=by rw[Aj Wb];exact ZB
   have es:Cv (h1++[DA.map []]) 1 (Pt a 1) (.map (some h1.length))=some ((h1++[DA.map []]).set a (.cells [.CF h.length 0 (ps++[KI false (A.len+1)]).length 13,.map (some h1.length)])):=by simp only[Cv,Pb];rfl
   have sQ:((h1++[DA.map []]).set a (.cells [.CF h.length 0 (ps++[KI false (A.len+1)]).length 13,.map (some h1.length)]))[a]?=some (.cells [.CF h.length 0 (ps++[KI false (A.len+1)]).length 13,.map (some h1.length)]):=AO Ei;have L:A8 ((h1++[DA.map []]).set a (.cells [.CF h.length 0 (ps++[KI false (A.len+1)]).length 13,.map (some h1.length)])) none (Pt a 1)=some (.map (some h1.length)):=by simp only[A8,sQ];rfl
   have Å:((h1++[DA.map []]).set a (.cells [.CF h.length 0 (ps++[KI false (A.len+1)]).length 13,.map (some h1.length)]))[h1.length]?=some (.map (([]:List (Int×Int)).map QW)):=by rw[Ao Ab,Bm (Ag _),De];rfl
   have C:PA ((h1++[DA.map []]).set a (.cells [.CF h.length 0 (ps++[KI false (A.len+1)]).length 13,.map (some h1.length)])) a h.length (some h1.length) (ps++[KI false (A.len+1)]) (A.add {kind:=1,CK:=false,CQ:=A.len+1}):=by refine w1.aHm rfl w1.il sQ (λi hi c _=>by rw[Ao (DG c),Aj hi]) (.inr ⟨_,rfl,Ag _⟩) (.inr ⟨h1.length,[],rfl,Å,λk=>by rw[Af (hz k)];rfl,MM,λp hp=>nomatch hp⟩)
   obtain⟨J,H,G,r,q,o,y,j,u,v,b⟩:=C.aHo rfl Å (λk=>by rw[Af (hz k)];rfl) ⟨MM,λp hp=>nomatch hp⟩ TJ Pd VI hne ((Ŗ x).trans h0) ((Ŗ _).trans f);refine⟨y,_,_,_,?_,t▸u,⟨by rw[b];simp;omega,λi hi VE=>?_,λi hi=>?_⟩⟩;.simp only[BJ] at r q o j;rw[Ae,S8,s];simp only[BD,l1,g1,z.Ac,B,show AD (.Ga false .mp) [.map none,.map none]=some (.bool true) from rfl,es,L,r,q,o,j]
   .have K:=g.old i hi VE;have c:i≠a:=λe=>VE (by simp[Gm,e]);rw[v i Ab,Ao (DG c),Aj Ab,K]
   .unfold Gm at hi;simp only[AS,aOJ,CC,BR] at hi;rcases hi with rfl|rfl|rfl|hi
    .exact .inl (by simp[Gm])
    .exact .inr (Ag _)
    .exact .inr Ab
    .exact g.Bu i (by unfold Gm;simp only[AS,Option.toList_none,BR];exact .inr (.inr hi))
  .obtain⟨J,H,G,r,q,o,y,j,u,v,b⟩:=w1.aHo rfl hc hl ho TJ Pd VI hne ((Ŗ x).trans h0) ((Ŗ _).trans f);refine⟨y,_,_,_,?_,t▸u,⟨Ab,λi hi VE=>?_,g.Bu⟩⟩;.rw[Ae,S8,s];simp only[BD,l1,g1,z.Ac,B,show AD (.Ga false .mp) [.map (some id),.map none]=some (.bool false) from rfl,r,q,o,j]
   .rw[v i (λe=>VE (e▸aHn rfl))];exact g.old i hi VE
 .have s:A.Fy x=A.inr x:=by unfold Ar.Fy;rw[Af h0]
  have t:A.Ds x=A:=by unfold Ar.Ds;rw[Af h0]
  refine⟨h,n,m,ps,?_,by rw[t];exact w,.refl⟩;rw[Ad h0] at g1;rw[Ae,S8,s];simp only[BD,l1,g1]
def Nw.YQ(b:Nw A)(h1:A.len+1<=1000000000):Nw (A.Ds x):=by
 unfold Ar.Ds;split;.exact b
 .have:=b.add (y:={kind:=1,CQ:=A.len+1}) h1 AH AH;exact⟨this.n,this.at_,this.data⟩
def kq(hk:A.has x){d:Int}:(A.Ds d).nd x=A.nd x:=Yn (.inl (Yp hk))
def aHq{l:List A5}{v:Aa}{d sp:Int}{nm:Ai}(w:PA h a n m ps A)(C:Nw A)(hb:A.len+3<=1000000000)(hd:A.has d/\(A.nd d).kind=1)(hsp:BS.H8 sp)(hv:Bt l v)(hl:l.length<=1000000000)(hs:∀y∈l,BS.H8 y.Bc):
  ∃h' n' m' JA,BL cx 205 [Pt a 0,I d,I sp,.str nm,v] h (.tuple [I (A.len+1),I 0]) h'/\PA h' a n' m' JA (A.elem d sp nm l)/\DC h (λi=>i∈Gm a n m ps) h' (λi=>i∈Gm a n' m' JA)/\Nw (A.elem d sp nm l):=by
 have lJ:=w.len;have z:=aA5 (h:=h) (YM hv) hl hs;obtain⟨u,hu⟩:∃u,u=VR (Cz l):=⟨_,rfl⟩;rw[<-hu] at z;have lK:(Cz l).length<=1000000000:=by have:=Qy (l:=l);omega
 have c:=aA3 (h:=h) (y:=sp);rw[As hsp] at c;obtain⟨h1,O,w1,R,l1⟩:=Œ w Ab ⟨{kind:=4,CQ:=d,Bc:=sp,name:=nm,Ay:=Cz l},.slnil,u,hu⟩ rfl rfl;have b:=C.add (y:={kind:=4,CQ:=d,Bc:=sp,name:=nm,Ay:=Cz l}) Ab lK AH;have Pd:(A.add {kind:=4,CQ:=d,Bc:=sp,name:=nm,Ay:=Cz l}).has (A.len+1):=DS.2 (.inr rfl);have Nn:(A.add {kind:=4,CQ:=d,Bc:=sp,name:=nm,Ay:=Cz l}).nd (A.len+1)={kind:=4,CQ:=d,Bc:=sp,name:=nm,Ay:=Cz l}:=by rw[II,Af rfl]
 have G:=w.Td (p:=⟨{kind:=4,CQ:=d,Bc:=sp,name:=nm,Ay:=Cz l},.slnil,u,hu⟩) rfl R l1;have g:BL cx 158 [Pt a 0,.agg [I 4,I 0,.slnil,I d,I sp,.str nm,u,.str [],.str [],.str [],.bool false,I 0,I 0]] h (I (A.len+1)) h1:=O;have r2:=Jb w1 b Pd;have f:=aHk w1 Pd;rw[Nn] at f;have hc:u.cells=[u]:=by rw[hu];exact AU.cells WS
 unfold Ar.elem;simp only
 by_cases r:eO {kind:=4,CQ:=d,Bc:=sp,name:=nm,Ay:=Cz l}
 .rw[Af r];rw[As r] at f;have eS:(A.add {kind:=4,CQ:=d,Bc:=sp,name:=nm,Ay:=Cz l}).has d:=DS.2 (.inl hd.1);obtain⟨h2,V,W,vD,N,s,J⟩:=aHp w1 b (by rw[OE];omega) eS;have B:=b.YQ (x:=d) (by rw[OE];omega);have aN:((vD.length:Nat):Int)=((A.add {kind:=4,CQ:=d,Bc:=sp,name:=nm,Ay:=Cz l}).Ds d).len:=s.len;have bn:((A.add {kind:=4,CQ:=d,Bc:=sp,name:=nm,Ay:=Cz l}).Ds d).len<=A.len+2:=by rw[js,OE];split<;>omega
  obtain⟨U,M,e,Q,l3⟩:=Œ s Ab ⟨{kind:=2,Em:=A.len+1,CQ:=(A.add {kind:=4,CQ:=d,Bc:=sp,name:=nm,Ay:=Cz l}).Fy d},.slnil,.slnil,rfl⟩ rfl rfl;obtain⟨j,D⟩:∃j,j=vD++[⟨{kind:=2,Em:=A.len+1,CQ:=(A.add {kind:=4,CQ:=d,Bc:=sp,name:=nm,Ay:=Cz l}).Fy d},.slnil,.slnil,rfl⟩]:=⟨_,rfl⟩;have E:=s.Td (p:=⟨{kind:=2,Em:=A.len+1,CQ:=(A.add {kind:=4,CQ:=d,Bc:=sp,name:=nm,Ay:=Cz l}).Fy d},.slnil,.slnil,rfl⟩) rfl Q l3;rw[<-D] at e E;have o:=B.add (y:={kind:=2,Em:=A.len+1,CQ:=(A.add {kind:=4,CQ:=d,Bc:=sp,name:=nm,Ay:=Cz l}).Fy d}) Ab AH AH;have t:BL cx 158 [Pt a 0,.agg [I 2,I 0,.slnil,I ((A.add {kind:=4,CQ:=d,Bc:=sp,name:=nm,Ay:=Cz l}).Fy d),I 0,.str [],.slnil,.str [],.str [],.str [],.bool false,I 0,I (A.len+1)]] h2 _ U:=M;have dO:=NX (h:=d) Pd;have ŗ:=DS (x:={kind:=2,Em:=A.len+1,CQ:=(A.add {kind:=4,CQ:=d,Bc:=sp,name:=nm,Ay:=Cz l}).Fy d}).2 (.inl dO);have q:(((A.add {kind:=4,CQ:=d,Bc:=sp,name:=nm,Ay:=Cz l}).Ds d).add {kind:=2,Em:=A.len+1,CQ:=(A.add {kind:=4,CQ:=d,Bc:=sp,name:=nm,Ay:=Cz l}).Fy d}).nd (A.len+1)={kind:=4,CQ:=d,Bc:=sp,name:=nm,Ay:=Cz l}:=by rw[Mv dO,kq Pd,Nn]
  have L:=Jb e o ŗ;have hp:=(e.pn ŗ).2.1;rw[q] at hp;obtain⟨T,K,H,S,P,l4⟩:=e.wr ŗ (k:=11) AM (v:= I (((A.add {kind:=4,CQ:=d,Bc:=sp,name:=nm,Ay:=Cz l}).Ds d).len+1)) rfl (p:=⟨{kind:=4,CQ:=d,Bc:=sp,name:=nm,Ay:=Cz l,cont:=((A.add {kind:=4,CQ:=d,Bc:=sp,name:=nm,Ay:=Cz l}).Ds d).len+1},(pN j (A.len+1)).kv,(pN j (A.len+1)).av,by have:=(pN j (A.len+1)).ok;rw[hp] at this;exact this⟩) (by simp only[PN.row];rw[hp];rfl) rfl (by rw[q]);refine⟨T,_,_,_,?_,H,G.trans (J.trans (E.trans (e.xl H S P l4))),o.set lK AH⟩;rw[Ae,Wy];simp only[abS,Nat.reduceLeDiff,↓reduceIte,AR,(xh (x:=d) w C).Ac,Af hd.1,Af hd.2,BW,Cy,z.Ac,HA,c.Ac,hc,g.Ac,r2.Ac,f.Ac,N.Ac,t.Ac,L.Ac,K]
 .rw[Ad r];rw[Ap r] at f;refine⟨h1,_,_,_,?_,w1,G,b⟩;rw[Ae,Wy];simp only[abS,Nat.reduceLeDiff,↓reduceIte,AR,(xh (x:=d) w C).Ac,Af hd.1,Af hd.2,BW,Cy,z.Ac,HA,c.Ac,hc,g.Ac,r2.Ac,f.Ac]
def bL{U:Type}{p q:U->Bool}{y:U}:∀{l:List U},(∀x∈l,p x=true->q x=true)->y∈l->p y=false->q y=true->(l.filter p).length<(l.filter q).length
 |[],_,h,_,_=>by cases h
 |x::l,hi,hy,hp,hq=>by
  have le:∀{l:List U},(∀x∈l,p x=true->q x=true)->(l.filter p).length<=(l.filter q).length:=by
   intro l;induction l with
   |nil=>intro _;simp
   |cons z l ih=>
    intro hi;have:=ih λx hx=>hi x (by simp[hx]);rw[Ho,Ho];split;.rename_i hz;rw[Af (hi z AH hz)];simp;exact this
    .split;.simp;omega
     .exact this
  have hl:=λx (hx:x∈l)=>hi x (by simp[hx]);rw[Ho,Ho];rcases AS.1 hy with rfl|hy
  .rw[Ad (by simp[hp]),Af hq];have:=le hl;simp;omega
  .have ih:=bL hl hy hp hq;split;.rename_i hz;rw[Af (hi x AH hz)];simp;exact ih
   .split;.simp;omega
    .exact ih
def vE{r:Int->Nat}{k y:Int}(hr:∀h,A.has h->A.up h≠0->r (A.up h)<r h)(hR:Reach A k y)(hy:A.has y):r k<=r y:=by
 induction hR with
 |refl=>exact Ag _
 |@step z h1 h2 ih=>
  by_cases hz:A.has (A.up z);.have:=ih hz;have:=hr z hy h1;omega
  .cases h2 with
   |refl=>have:=hr z hy h1;omega
   |step b _=>exact absurd (Yl hz) b
open Classical in
def vF{e:Int}(ok:EJ A e):∃r:Int->Nat,(∀h,A.has h->A.up h≠0->r (A.up h)<r h)/\∀h,r h<=A.n.length:=by
 obtain⟨r,hr⟩:=ok.eR;refine⟨λh=>((List.range A.n.length).filter λ(i:Nat)=>decide (Reach A ((i:Int)+1) h/\(i:Int)+1≠h)).length,λh c hu=>?_,λh=>?_⟩
 .have b:=tW ok c hu;have Jh:=b;unfold Ar.has at Jh;have d:(((A.up h).toNat-1:Nat):Int)+1=A.up h:=Ab;refine bL (y:=(A.up h).toNat-1) (λi _ hi=>?_) (List.mem_range.2 Ab) ?_ ?_;.rw[C0] at hi⊢;refine⟨.step hu hi.1,λe=>?_⟩;have h1:=vE hr hi.1 b;have h2:=hr h c hu;rw[e] at h1;omega
  .rw[d];simp
  .rw[d,C0];exact⟨.step hu .refl,aAO ok c hu⟩
 .have:=V4 (λ(i:Nat)=>decide (Reach A ((i:Int)+1) h/\(i:Int)+1≠h)) (List.range A.n.length);rwa [List.length_range] at this
def PA.cell(w:PA h a n m ps A)(hx:A.has x){k:Nat}(hk:k<13):(ps.map PN.row).flatten[0+(x.toNat-1)*13+k]?=(pN ps x).row[k]?:=by rw[BV];exact Lw (pA ps) hk (by rw[Cm,(w.pn hx).1];rfl)
open Classical in
def YR(w:PA h a n m ps A){up:Int}{r:Int->Nat}{e:Int}(ok:EJ A e)(hr:∀h,A.has h->A.up h≠0->r (A.up h)<r h)(c:up≠0):∀(fuel:Nat) (x:Int),(x=0\/(A.has x/\r x<fuel))->LQ (ps.map PN.row).flatten 0 ps.length up fuel x=some (decide (Reach A up x))
 |fuel,x,hx=>by
  by_cases h0:x=0
  .subst h0;have no:¬Reach A up 0:=by
    intro hR;cases hR with
    |refl=>exact c rfl
    |step h1 _=>exact h1 (Yl (by unfold Ar.has;omega))
   rw[Ap no];cases fuel<;>rfl
  .have hx:=hx.resolve_left h0;cases fuel with
   |zero=>omega
   |succ fuel=>
    have g:LQ (ps.map PN.row).flatten 0 ps.length up (fuel+1) x=if x=up then some true else if 1<=x/\x<=ps.length then
      match GQ (ps.map PN.row).flatten 0 x 1,GQ (ps.map PN.row).flatten 0 x 12 with
      |some p,some q=>LQ (ps.map PN.row).flatten 0 ps.length up fuel (if p=0 then q else p)
      |_,_=>none
     else none:=by
     rw[LQ];.rfl
     .exact λh=>h0 h
    rw[g];by_cases b:x=up;.rw[Af b,b,As .refl]
    .rw[Ad b,Af (by have:=hx.1;have:=w.xe;unfold Ar.has at*;omega)];have j:GQ (ps.map PN.row).flatten 0 x 1=some (A.nd x).FM:=by unfold GQ;rw[w.cell hx.1 AM,<-(w.pn hx.1).2.1];rfl
     have i:GQ (ps.map PN.row).flatten 0 x 12=some (A.nd x).Em:=by unfold GQ;rw[w.cell hx.1 AM,<-(w.pn hx.1).2.1];rfl
     rw[j,i];simp only
     have f:(if(A.nd x).FM=0 then(A.nd x).Em else(A.nd x).FM)=A.up x:=by unfold Ar.up;by_cases h:(A.nd x).FM=0<;>simp[h]
     rw[f];have ih:=YR w ok hr c fuel (A.up x) (by
      by_cases hu:A.up x=0;.exact .inl hu
      .exact .inr ⟨tW ok hx.1 hu,by have:=hr x hx.1 hu;omega⟩)
     rw[ih];congr 1
     rw[Dd];constructor
     .intro h1;by_cases hu:A.up x=0
      .rw[hu] at h1;cases h1 with
       |refl=>exact absurd rfl c
       |step d _=>exact absurd (Yl (by unfold Ar.has;omega)) d
      .exact .step hu h1
     .intro h1;cases h1 with
      |refl=>exact absurd rfl b
      |step _ h2=>exact h2
open Classical in
def aHr{up e:Int}(w:PA h a n m ps A)(ok:EJ A e)(hu:A.has up)(hx:A.has x):BL cx 237 [Pt a 0,I up,I x] h (.bool (decide (Reach A up x))) h:=by
 obtain⟨r,hr,b⟩:=vF ok;have OX:=w.xe;have hc:=YR w ok hr (up:=up) (by have:=hu.1;omega) (ps.length+1) x (.inr ⟨hx,by have:=b x;omega⟩);have c:E3 (.Rq NJ) h [Pt a 0,I up,I x]=some (h,.bool (decide (Reach A up x))):=by simp only[E3,NJ,w.ha,w.hn];rw[Af (by rw[xi];omega),Af (by unfold Ar.has at hu hx;omega),hc];rfl
 rw[Ae,show B9 cx 237 [Pt a 0,I up,I x]=NL [Pt a 0,I up,I x] from rfl,NL];simp only[BD,c]
structure P7(h:Ah)(v:Aa)(l:List Int):Prop where
 len:AD (.len false) [v]=some (I (l.length:Int))
 at_:∀k (hk:k<l.length),∃p,AD (.Fl 1) [v,I (k:Int)]=some p/\A8 h none p=some (I l[k])
def Kq.RS{kv:Aa}{l:List Int}(hk:Kq h kv l):P7 h kv l:=by
 refine⟨hk.len,λk hlt=>?_⟩;rcases hk with⟨rfl,rfl⟩|⟨id,cs,rfl,hc⟩
 .simp at hlt
 .refine⟨Pt id k,by have:=EY (id:=id) (z:=1) (k:= .i64) hlt;rwa [FE] at this,?_⟩;simp only[A8,hc,E6];rw[Aj (by simpa using hlt)];simp[hlt]
def D4.RS{v:Aa}{l:List Int}(hv:D4 l v):P7 h v l:=⟨AU.CN hv,λk hk=>⟨_,AU.BK hv hk,rfl⟩⟩
def aDB{v:Aa}{l:List Int}(hv:P7 h v l)(hb:l.length<=1000000000)(x:Int):BL cx 173 [v,I x] h (I (Cn (λy=>decide (x=y)) 0 l)) h:=by
 rw[Ae,fX];simp only[BD,hv.len];refine Bi (λk:Nat=>[I 0,I (k:Int)]) (λk h1=>k<=l.length/\Cn (λy=>decide (x=y)) 0 l=Cn (λy=>decide (x=y)) k (l.drop k)/\h1=h) (λk=>l.length-k) 0 rfl ⟨AV _,rfl,rfl⟩ ?_;rintro k h1 ⟨hk,ha,rfl⟩;rcases AP k l.length with hlt|Eg
 .have i1:(k:Int)<(l.length:Int):=by omega
  obtain⟨p,c,b⟩:=hv.at_ k hlt;rw[AG hlt,Cn] at ha;simp only[abS,i1,c,b,BM (Ab:k<9223372036854775807)];refine⟨λh2=>?_,λh2=>?_⟩;.rw[ha,Af (by simpa using h2)]
  .rw[Ad (by simpa using h2)] at ha;exact AK.next (k+1) rfl ⟨hlt,ha,rfl⟩ Ab
 .have i1:¬(k:Int)<(l.length:Int):=by omega
  rw[AW Eg,Cn] at ha;simp only[abS,i1,ha]
def kK{l:List Int}{x:Int}(hx:x∈l):∃k,k<l.length/\Cn (λy=>decide (x=y)) 0 l=(k:Int)/\l[k]?=some x/\l.takeWhile (λy=>decide (y≠x))=l.take k/\l.dropWhile (λy=>decide (y≠x))=l.drop k:=by
 have key:∀(l:List Int) (s:Nat),x∈l->∃k,k<l.length/\Cn (λy=>decide (x=y)) s l=((s+k:Nat):Int)/\l[k]?=some x/\l.takeWhile (λy=>decide (y≠x))=l.take k/\l.dropWhile (λy=>decide (y≠x))=l.drop k:=by
  intro l;induction l with
  |nil=>intro s h;cases h
  |cons z l ih=>
   intro s h;by_cases e:x=z;.subst e;exact⟨0,AH,by rw[Cn,Af AH];simp,rfl,AH,AH⟩
   .have h2:x∈l:=(AS.1 h).resolve_left e;obtain⟨k,d,c,b,i,g⟩:=ih (s+1) h2;have f:z≠x:=λj=>e j.symm;refine⟨k+1,by simp;exact d,by rw[Cn,Ad (by simpa using e),c];congr 1;omega,by simpa using b,?_,?_⟩;.rw[aKA,Af (by simpa using f),i];rfl
    .rw[aKB,Af (by simpa using f),g];rfl
 obtain⟨k,d,c,b⟩:=key l 0 hx;exact⟨k,d,by simpa using c,b⟩
def Te{l:List Int}{x:Int}{k:Nat}(hn:l.Nodup)(hk:l[k]?=some x):l.take k++l.drop (k+1)=l.filter λy=>decide (y≠x):=by
 obtain⟨hlt,e⟩:=Ak.1 hk;have c:l=l.take k++x::l.drop (k+1):=by conv=>lhs;rw[<-CG k l,AG hlt,e]
 rw[c,B3,B5] at hn;conv=>rhs;rw[c,DZ,Ho,Ad AH]
 rw[ZX.2 (λy hy=>by simpa using λb:y=x=>hn.2.2 y hy x AH b),ZX.2 (λy hy=>by simpa using λb:y=x=>hn.2.1.1 (b▸hy))]
def aDC{id l k:Nat}(hl:0<l)(hk:k<=l):AD (.K0 1 false false true) [.CF id 0 l 1,I (k:Int)]=some (.CF id 0 k 1):=by
 have b:Fm (k:Int) l=some k:=by unfold Fm;rw[Af Ab];rfl
 simp[AD,Kd,Ed,b];omega
def aDD{id l k:Nat}(hk:k<=l):AD (.K0 1 false true false) [.CF id 0 l 1,I (k:Int)]=some (if k<l then .CF id k (l-k) 1 else .sl 1 []):=by
 have b:Fm (k:Int) l=some k:=by unfold Fm;rw[Af Ab];rfl
 simp[AD,Kd,Ed,b];split<;>rfl
def aHs{id k:Nat}{l:List Int}{cs:List Aa}(hc:h[id]?=some (.cells (l.map (Aa.int .i64)++cs)))(hk:k<l.length)(hb:l.length<=1000000000):
  ∃GY,BL cx 363 [.CF id 0 l.length 1,I (k:Int),I ((k+1:Nat):Int)] h (.CF id 0 (l.length-1) 1) (h.set id (.cells ((l.take k++l.drop (k+1)).map (Aa.int .i64)++GY))):=by
 have Ie:=(Ak.1 hc).1;have b:(l.take k++l.drop (k+1)).length=l.length-1:=by rw[Au,Aw,Bd];omega
 obtain⟨SE,q,hcl⟩:∃SE,Gb h 1 8 (.CF id 0 k 1) (if k+1<l.length then .CF id (k+1) (l.length-(k+1)) 1 else .sl 1 [])=some (h.set id (.cells ((l.take k++l.drop (k+1)).map (Aa.int .i64)++SE)),.CF id 0 (l.length-1) 1)/\1<=SE.length:=by
  have j:GZ h 1 (if k+1<l.length then .CF id (k+1) (l.length-(k+1)) 1 else .sl 1 [])=some ((l.drop (k+1)).map Ce):=by
   by_cases Ql:k+1<l.length;rotate_left;.rw[Ad Ql,AW Ab];rfl
   rw[Af Ql];have d:=Nq (l:=l.drop (k+1)) (cs:=cs) (Zx:=(l.take (k+1)).map (Aa.int .i64));rw[<-AI,<-BF,CG] at d;simp only[An,Aw,Bd] at d;rw[Cs Ab] at d;simp only[GZ,BN,hc,d];rw[Af Ei]
  by_cases xm:k+1=l.length
  .refine⟨I l[k]::cs,?_,AH⟩;have o:l.drop (k+1)=[]:=AW Ab;rw[o] at j⊢;have g:l.map (Aa.int .i64)++cs=(l.take k++[]).map (Aa.int .i64)++ I l[k]::cs:=by
    have:l=l.take k++[l[k]]:=by conv=>lhs;rw[<-CG k l,AG hk,o]
    conv=>lhs;rw[this,BF,AI]
    rw[By];rfl
   have p:h.set id (.cells ((l.take k++[]).map (Aa.int .i64)++ I l[k]::cs))=h:=by rw[<-g];obtain⟨aN,v⟩:=Ak.1 hc;rw[<-v,JR]
   simp only[Gb,j,Dn,BN];rw[p,(Ab:l.length-1=k)]
  .obtain⟨y,c,hd⟩:∃y c,l.drop (k+1)=y::c:=⟨_,_,AG (Ab:k+1<l.length)⟩;have bn:(y::c).length=l.length-(k+1):=by rw[<-hd,Bd]
   rw[hd] at j;have aHt:∀l3:List Int,(l3.map Ce).flatten=l3.map (Aa.int .i64):=by
    intro l3;induction l3 with
    |nil=>rfl
    |cons z l3 ih=>simp[Ce,ih]
   refine⟨(l.map (Aa.int .i64)++cs).drop (l.length-1),?_,Ei⟩;simp only[Gb,j,Bl,hc,BN];have u:(Ce y::c.map Ce).length=l.length-(k+1):=by rw[<-bn];simp
   have t:(Ce y::c.map Ce).flatten=(y::c).map (Aa.int .i64):=by have:=aHt (y::c);simpa using this
   rw[u,t,Af Ei];have s:(l.map (Aa.int .i64)++cs).take (0+k*1)=(l.take k).map (Aa.int .i64):=by rw[BV,FE,CL Ei,Gk]
   rw[s,hd,(Ab:0+(k+(l.length-(k+1)))*1=l.length-1),(Ab:k+(l.length-(k+1))=l.length-1)];simp
 generalize e:h.set id (.cells ((l.take k++l.drop (k+1)).map (Aa.int .i64)++SE))=h2 at q;have I0:h2[id]?=some (.cells ((l.take k++l.drop (k+1)).map (Aa.int .i64)++SE)):=by rw[<-e];exact AO Ie
 have o:E3 (.et 1 true true) h2 [.CF id 0 (l.length-1) 1,I ((l.length-1:Nat):Int),I (l.length:Int)]=some (h2,.CF id (l.length-1) 1 1):=by
  simp only[E3,lU,I0];have vG:((l.take k++l.drop (k+1)).map (Aa.int .i64)++SE).length=l.length-1+SE.length:=by rw[Au,An,b]
  have w:Fm (l.length:Int) ((((l.take k++l.drop (k+1)).map (Aa.int .i64)++SE).length-0)/1)=some l.length:=by unfold Fm;rw[Af (by rw[vG];omega)];rfl
  have d:Fm ((l.length-1:Nat):Int) l.length=some (l.length-1):=by unfold Fm;rw[Af Ab];rfl
  rw[Af ⟨trivial,trivial,AV _⟩];simp only[Ed,w,d,Cw,B0];rw[Af (by rw[vG];omega)];congr 3
  .omega
  .omega
 have r:E3 (.clear 1 [I 0]) h2 [.CF id (l.length-1) 1 1]=some (h.set id (.cells ((l.take k++l.drop (k+1)).map (Aa.int .i64)++(I 0::SE.drop 1))),.bool true):=by
  simp only[E3,WZ,I0];rw[Af ⟨trivial,rfl,by rw[Au,An,b];omega⟩];congr 2
  rw[<-e,aEH];congr 2
  have g:(((l.take k++l.drop (k+1)).map (Aa.int .i64)++SE).take (l.length-1))=(l.take k++l.drop (k+1)).map (Aa.int .i64):=HX (by rw[An,b]);have p:(((l.take k++l.drop (k+1)).map (Aa.int .i64)++SE).drop (l.length-1+1*1))=SE.drop 1:=by rw[show l.length-1+1*1=((l.take k++l.drop (k+1)).map (Aa.int .i64)).length+1 by rw[An,b],TB];simp
  rw[g,p];simp
 refine⟨I 0::SE.drop 1,?_⟩;have f:∀i n,AD (.len false) [.CF i 0 n 1]=some (I (n:Int)):=λ_ _=>rfl;have g:E3 (.rB 1) h [.CF id 0 l.length 1,I (k:Int),I ((k+1:Nat):Int),I (l.length:Int)]=some (h,.bool true):=by simp only[E3,W0];simp;omega
 rw[Ae,jM];simp only[abS,f,g,(Ab:¬(k:Int)=((k+1:Nat):Int)),aDC (id:=id) (Ab:0<l.length) (Ab:k<=l.length),aDD (id:=id) (Ab:k+1<=l.length),q,o,r]
def xn:∀{n:Nat} {l:List Int},l.Nodup->(∀x∈l,1<=x/\x<=n)->l.length<=n
 |0,l,_,h=>by
  cases l with
  |nil=>simp
  |cons x l=>have:=h x AH;omega
 |n+1,l,hn,h=>by
  have ih:=xn (n:=n) (l:=l.filter λx=>decide (x≠(n:Int)+1)) (hn.filter _) (λx hx=>by
   have h1:=DN.1 hx;have h2:=h x h1.1;have c:x≠(n:Int)+1:=by simpa using h1.2
   omega)
  have key:∀{l:List Int},l.Nodup->l.length<=(l.filter λx=>decide (x≠(n:Int)+1)).length+1:=by
   intro l hl;induction l with
   |nil=>simp
   |cons x l ih=>
    rw[B5] at hl;rw[Ho];by_cases e:x=(n:Int)+1;.rw[Ad (by simp[e]),ZX.2 (λy hy=>by simpa using λb:y=(n:Int)+1=>hl.1 (by rw[e,<-b];exact hy))];simp
    .rw[Af (by simpa using e)];have:=ih hl.2;simp only[A9];omega
  have:=key hn;omega
def YS{e:Int}(ok:EJ A e)(x:Int):(A.nd x).Bb.length<=A.n.length:=by
 by_cases hx:A.has x;.refine xn (ok.SZ x hx).jo λk hk=>?_;exact(ok.M4 x hx k hk).1
 .rw[HK hx];exact AV _
def Nw.Bb{e:Int}(b:Nw A)(ok:EJ A e)(x:Int):(A.nd x).Bb.length<=1000000000:=Bs (YS ok x) b.n
def Nw.aMG{l:List Int}(b:Nw A):Nw (A.set x {A.nd x with Bb:=l}):=b.set (b.at_ x) (b.data x)
def Nw.aMH{p:Int}(b:Nw A):Nw (A.set x {A.nd x with FM:=p}):=b.set (b.at_ x) (b.data x)
def Nw.cut(b:Nw A):Nw (A.cut x):=by
 unfold Ar.cut;simp only;split;.exact b
 .exact Nw.aMH b.aMG
def aHu{e:Int}(w:PA h a n m ps A)(l:Nw A)(ok:EJ A e)(hx:A.has x):
  ∃h' JA,BL cx 238 [Pt a 0,I x] h (.tuple []) h'/\PA h' a n m JA (A.cut x)/\DC h (λi=>i∈Gm a n m ps) h' (λi=>i∈Gm a n m JA):=by
 have hb:=l.Bb ok;by_cases hp:(A.nd x).FM=0
 .have u:A.cut x=A:=by unfold Ar.cut;simp only;rw[Af hp]
  refine⟨h,ps,?_,by rw[u];exact w,.refl⟩;rw[Ae,WB];simp only[abS,(Jb w l hx).Ac,w.f1 hx,hp]
 .obtain⟨hq,hk⟩:=ok.FM x hx hp;generalize d:(A.nd x).FM=q at*;have hne:q≠x:=by rw[<-d];exact tX ok hx (by rw[d];exact hp)
  obtain⟨k,r,K,D,_,_⟩:=kK hk;have M4:=w.M4 hq;have o:=aDB M4.RS (hb q) x;rw[K] at o;rcases bo:M4 with⟨_,e0⟩|⟨id,cs,b,hc⟩
  .rw[e0] at r;simp at r
  clear bo;rw[b] at o;obtain⟨GY,r2⟩:=aHs hc r (hb q);rw[Te (ok.SZ q hq).jo D] at r2;have aC:(A.nd q).Bb.length-1=((A.nd q).Bb.filter λy=>decide (y≠x)).length:=by rw[<-Te (ok.SZ q hq).jo D,Au,Aw,Bd];omega
  rw[aC] at r2;have gj:=(Ak.1 hc).1;have s:=(w.pn hq).2.1;generalize c:h.set id (.cells (((A.nd q).Bb.filter λy=>decide (y≠x)).map (Aa.int .i64)++GY))=h1 at r2;have aHv:id∈Gm a n m ps:=Lv (w.pn hq).2.2 (by rw[b];rfl);have aMI:id≠n:=by intro f;have:=w.nd;unfold Gm at this;simp only[B5,AS,MN] at this;exact this.2.1 (f▸Ax.2 (.inr (Ck.2 ⟨_,(w.pn hq).2.2,by rw[b];rfl⟩)))
  have aSa:id≠a:=by intro f;have:=w.nd;unfold Gm at this;simp only[B5,AS,MN] at this;exact this.1.2 (f▸Ax.2 (.inr (Ck.2 ⟨_,(w.pn hq).2.2,by rw[b];rfl⟩)))
  obtain⟨g,Rl⟩:∃g:PN,g=⟨{A.nd q with Bb:=(A.nd q).Bb.filter λy=>decide (y≠x)},.CF id 0 ((A.nd q).Bb.filter λy=>decide (y≠x)).length 1,(pN ps q).av,w.xf hq⟩:=⟨_,rfl⟩;have aHw:g.row=(pN ps q).row.set 2 (.CF id 0 ((A.nd q).Bb.filter λy=>decide (y≠x)).length 1):=by rw[Rl];simp only[PN.row];rw[s];rfl
  have z:h1[n]?=h[n]?:=by rw[<-c,Ao aMI]
  have B:=w.sto hq (k:=2) AM (v:= .CF id 0 ((A.nd q).Bb.filter λy=>decide (y≠x)).length 1) rfl aHw z;have aHx:HT g.kv=HT (pN ps q).kv:=by rw[Rl,b];rfl
  have w1:=w.m_ hq (p:=g) (h1:=h1) (λi _ hi=>by rw[<-c,Ao];intro f;exact hi (by rw[b,f];rfl)) (by rw[Rl];exact .inr ⟨id,GY,rfl,by rw[<-c];exact AO gj⟩) (.inl aHx)
  have aA8:=bk w hq aHx;generalize j:h1.set n (.cells ((ps.set (q.toNat-1) g).map PN.row).flatten)=h2 at B w1;generalize aSb:ps.set (q.toNat-1) g=lP at w1 aA8;have t:g.x={A.nd q with Bb:=(A.nd q).Bb.filter λy=>decide (y≠x)}:=by rw[Rl]
  rw[t] at w1;have Pd:(A.set q {A.nd q with Bb:=(A.nd q).Bb.filter λy=>decide (y≠x)}).has x:=Iv.2 hx;have ZQ:=(w1.pn Pd).2.1;have Nn:(A.set q {A.nd q with Bb:=(A.nd q).Bb.filter λy=>decide (y≠x)}).nd x=A.nd x:=by rw[JP,Ad (λh=>hne h.1.symm)]
  obtain⟨L,G,E,i3,H,l3⟩:=w1.wr Pd (k:=1) AM (v:= I 0) rfl (p:=⟨{A.nd x with FM:=0},(pN lP x).kv,(pN lP x).av,by have:=(pN lP x).ok;rw[ZQ,Nn] at this;exact this⟩) (by simp only[PN.row];rw[ZQ,Nn];rfl) rfl (Ca ES.Bb Nn).symm;have u:A.cut x=(A.set q {A.nd q with Bb:=(A.nd q).Bb.filter λy=>decide (y≠x)}).set x {A.nd x with FM:=0}:=by unfold Ar.cut;simp only;rw[d,Ad hp,Nn]
  refine⟨L,_,?_,by rw[u];exact E,?_⟩;.have inc:=BM (show k<9223372036854775807 by have:=hb q;omega);rw[Ae,WB];simp only[abS,(Jb w l hx).Ac,(Jb w l hq).Ac,w.f1 hx,d,hp,w.f2 hq,b,o.Ac,inc,r2.Ac,B,G]
  .have aSc:h2.length=h.length:=by rw[<-j,Bq,<-c,Bq]
   refine⟨Ab,λi hi VE=>?_,λi hi=> .inl (by rw[i3,aA8] at hi;exact hi)⟩;have C:i≠n:=λf=>VE (f▸by simp[Gm]);have J:i≠id:=λf=>VE (f▸aHv);rw[H i C,<-j,Ao (DG C),<-c,Ao (DG J)]
def pC{p:PN}(w:PA h a n m ps A)(hx:A.has x){i:Nat}(hi:i∈Gm a n m (ps.set (x.toNat-1) p)):i∈Gm a n m ps\/HT p.kv=some i:=by
 obtain⟨c,b⟩:=YN w hx p;unfold Gm at hi⊢;rw[b,EL] at hi;simp only[AS,Ax,Ck] at hi⊢;rcases hi with h1|h1|h1|⟨q,h1,h2⟩|⟨q,h1,h2⟩
 .exact .inl (.inl h1)
 .exact .inl (.inr (.inl h1))
 .exact .inl (.inr (.inr (.inl h1)))
 .exact .inl (.inr (.inr (.inr ⟨q,Bp h1,h2⟩)))
 .rcases h1 with rfl|h1
  .exact .inr h2
  .exact .inl (.inr (.inr (.inr ⟨q,Bw h1,h2⟩)))
def xo{kv:Aa}{l:List Int}{k:Nat}(hk:Kq h kv l)(Ql:k<=l.length)(hb:l.length<=1000000000)(y:Int):
  ∃h1,E3 .od h [kv,I (k:Int),.sl 1 [[I y]]]=some (h1,.CF h.length 0 (l.length+1) 1)/\h1[h.length]?=some (.cells ((l.take k++y::l.drop k).map (Aa.int .i64)))/\(∀i,i<h.length->HT kv≠some i->h1[i]?=h[i]?)/\h1.length=h.length+1:=by
 rcases hk with⟨rfl,rfl⟩|⟨id,cs,rfl,hc⟩
 .have:k=0:=by simpa using Ql
  subst this;exact⟨h++[.cells [I y]],rfl,AH,λi hi _=>Aj hi,AH⟩
 .have Ie:=(Ak.1 hc).1;refine⟨h.set id .CR++[.cells ((l.take k++y::l.drop k).map (Aa.int .i64))],?_,by rw[Bm AH];simp,λi hi hn=>?_,AH⟩
  .simp only[E3,Qi,hc];rw[Af (by have:AX=140737488355328:=rfl;simp;omega)];simp only[AY];have c:(l.map (Aa.int .i64)++cs).take k=(l.take k).map (Aa.int .i64):=by rw[CL (by simpa using Ql),Gk]
   have b:(l.map (Aa.int .i64)++cs).take l.length=l.map (Aa.int .i64):=HX AH;rw[c,b];simp
  .rw[Aj (by simpa using hi),Ao];intro e;exact hn (by rw[e];rfl)
def OK{p b:Int}(hf:¬ug A p x b):A.FT p x b=A:=by unfold Ar.FT;rw[Ad hf]
def xq{l:List Int}{b y:Int}{k:Nat}(hb:b=0->k=l.length)(h2:b≠0->l.takeWhile (λy=>decide (y≠b))=l.take k/\l.dropWhile (λy=>decide (y≠b))=l.drop k):Ji l b y=l.take k++y::l.drop k:=by
 unfold Ji;by_cases h0:b=0;.rw[Af h0,hb h0];simp
 .rw[Ad h0,(h2 h0).1,(h2 h0).2]
open Classical in
def aHy{e p b:Int}(w:PA h a n m ps A)(d:Nw A)(ok:EJ A e):
  ∃er h' JA,BL cx 111 [Pt a 0,I p,I x,I b] h (I er) h'/\PA h' a n m JA (A.FT p x b)/\DC h (λi=>i∈Gm a n m ps) h' (λi=>i∈Gm a n m JA):=by
 by_cases ZQ:A.has p/\A.has x;rotate_left;.refine⟨3,h,ps,?_,by rw[OK (λf=>ZQ ⟨f.hp,f.hn⟩)];exact w,.refl⟩;rw[Ae,L4];simp only[abS,FJ,(LN (x:=p) (y:=x) w).Ac,Ad ZQ,BW,(AM:¬(3:Int)=0)]
 obtain⟨hp,hx⟩:=ZQ;by_cases hb:b≠0/\¬A.has b;.refine⟨3,h,ps,?_,by rw[OK (λf=>hb.2 (f.hb hb.1).1)];exact w,.refl⟩;rw[Ae,L4];simp only[abS,FJ,(LN (x:=p) (y:=x) w).Ac,Af (And.intro hp hx),BW,Cy,hb.1,(VS (x:=b) w).Ac,Ap hb.2,A0]
 have Qn:b=0\/(b≠0/\A.has b):=by
  by_cases h0:b=0;.exact .inl h0
  .refine .inr ⟨h0,?_⟩;by_cases h1:A.has b;.exact h1
   .exact absurd ⟨h0,h1⟩ hb
 by_cases kp:Ls (A.nd p).kind;rotate_left
 .refine⟨4,h,ps,?_,by rw[OK (λf=>kp f.kp)];exact w,.refl⟩;unfold Ls at kp;have c:¬(A.nd p).kind=1:=λe=>kp (.inl e);have t:¬(A.nd p).kind=2:=λe=>kp (.inr (.inl e));have G:¬(A.nd p).kind=4:=λe=>kp (.inr (.inr e));rw[Ae,L4];rcases Qn with h0|⟨h0,Od⟩
  .simp only[abS,FJ,(LN (x:=p) (y:=x) w).Ac,Af (And.intro hp hx),BW,Cy,(Jb w d hp).Ac,(Jb w d hx).Ac,w.f0 hp,w.f0 hx,c,A0,h0,t,G]
  .simp only[abS,FJ,(LN (x:=p) (y:=x) w).Ac,Af (And.intro hp hx),BW,Cy,(Jb w d hp).Ac,(Jb w d hx).Ac,w.f0 hp,w.f0 hx,c,A0,h0,(VS (x:=b) w).Ac,As Od,t,G]
 by_cases kn:(A.nd x).kind=1\/(A.nd x).kind=2
 .refine⟨4,h,ps,?_,by rw[OK (λf=>by have:=f.kn;omega)];exact w,.refl⟩;rw[Ae,L4];rcases kp with c|c|c<;>rcases kn with t|t<;>rcases Qn with h0|⟨h0,Od⟩
  all_goals first|(simp only[abS,FJ,(LN (x:=p) (y:=x) w).Ac,Af (And.intro hp hx),BW,Cy,(Jb w d hp).Ac,(Jb w d hx).Ac,w.f0 hp,w.f0 hx,c,(AM:¬(2:Int)=1),(AM:¬(4:Int)=1),(AM:¬(4:Int)=2),A0,h0,t];done)|simp only[abS,FJ,(LN (x:=p) (y:=x) w).Ac,Af (And.intro hp hx),BW,Cy,(Jb w d hp).Ac,(Jb w d hx).Ac,w.f0 hp,w.f0 hx,c,(AM:¬(2:Int)=1),(AM:¬(4:Int)=1),(AM:¬(4:Int)=2),A0,h0,(VS (x:=b) w).Ac,As Od,t]
 have l:¬(A.nd x).kind=1:=λe=>kn (.inl e);have g:¬(A.nd x).kind=2:=λe=>kn (.inr e);have r:=aHr w ok hx hp;by_cases re:Reach A x p
 .refine⟨4,h,ps,?_,by rw[OK (λf=>f.re re)];exact w,.refl⟩;rw[As re] at r;rw[Ae,L4];rcases kp with c|c|c<;>rcases Qn with h0|⟨h0,Od⟩
  all_goals first|(simp only[abS,FJ,(LN (x:=p) (y:=x) w).Ac,Af (And.intro hp hx),BW,Cy,(Jb w d hp).Ac,(Jb w d hx).Ac,w.f0 hp,w.f0 hx,c,(AM:¬(2:Int)=1),(AM:¬(4:Int)=1),(AM:¬(4:Int)=2),A0,h0,l,g,r.Ac];done)|simp only[abS,FJ,(LN (x:=p) (y:=x) w).Ac,Af (And.intro hp hx),BW,Cy,(Jb w d hp).Ac,(Jb w d hx).Ac,w.f0 hp,w.f0 hx,c,(AM:¬(2:Int)=1),(AM:¬(4:Int)=1),(AM:¬(4:Int)=2),A0,h0,(VS (x:=b) w).Ac,As Od,l,g,r.Ac]
 rw[Ap re] at r;by_cases q:b≠0/\(b=x\/(A.nd b).FM≠p)
 .refine⟨5,h,ps,?_,by rw[OK (λf=>by have:=f.hb q.1;rcases q.2 with h|h;exact this.2.1 h;exact h this.2.2)];exact w,.refl⟩;obtain⟨h0,q⟩:=q;have Od:=(Qn.resolve_left h0).2;rw[Ae,L4];by_cases o:b=x;.have aSd:=o;rcases kp with c|c|c<;>simp only[abS,FJ,(LN (x:=p) (y:=x) w).Ac,Af (And.intro hp hx),BW,Cy,(Jb w d hp).Ac,(Jb w d hx).Ac,w.f0 hp,w.f0 hx,c,(AM:¬(2:Int)=1),(AM:¬(4:Int)=1),(AM:¬(4:Int)=2),A0,l,g,r.Ac,o,show¬x=0 from o▸h0,As hx,(VS (x:=x) w).Ac]
  .have q:=q.resolve_left o;rcases kp with c|c|c<;>simp only[abS,FJ,(LN (x:=p) (y:=x) w).Ac,Af (And.intro hp hx),BW,Cy,(Jb w d hp).Ac,(Jb w d hx).Ac,w.f0 hp,w.f0 hx,c,(AM:¬(2:Int)=1),(AM:¬(4:Int)=1),(AM:¬(4:Int)=2),A0,h0,(VS (x:=b) w).Ac,As Od,l,g,r.Ac,o,(Jb w d Od).Ac,w.f1 Od,q]
 have fits:ug A p x b:=⟨hp,hx,λh0=>⟨(Qn.resolve_left h0).2,λe=>q ⟨h0,.inl e⟩,by
  by_cases h1:(A.nd b).FM=p;.exact h1
  .exact absurd ⟨h0,.inr h1⟩ q⟩,kp,⟨l,g⟩,re⟩
 have Z:A.FT p x b=(A.cut x).L8 p x b:=by unfold Ar.FT;rw[Af fits]
 obtain⟨h1,lP,Q,w1,U⟩:=aHu w d ok hx;have VV:=tY ok hx g;have J:=d.cut (x:=x);have Rl:(A.cut x).has p:=Lc.2 hp;have Pd:(A.cut x).has x:=Lc.2 hx;have K:x≠p:=by rintro rfl;exact re .refl
 have ő:=J.Bb VV p;obtain⟨k,Ql,C,Â⟩:∃k,k<=((A.cut x).nd p).Bb.length/\(b=0->k=((A.cut x).nd p).Bb.length)/\(b≠0->Cn (λy=>decide (b=y)) 0 ((A.cut x).nd p).Bb=(k:Int)/\((A.cut x).nd p).Bb.takeWhile (λy=>decide (y≠b))=((A.cut x).nd p).Bb.take k/\((A.cut x).nd p).Bb.dropWhile (λy=>decide (y≠b))=((A.cut x).nd p).Bb.drop k):=by
  by_cases h0:b=0;.exact⟨_,Ag _,λ_=>rfl,λh=>absurd h0 h⟩
  .have u:=fits.hb h0;have xr:((A.cut x).nd b).FM=p:=by
    rw[RQ ok hx,Ad u.2.1];split;.exact u.2.2
    .exact u.2.2
   have Ŕ:b∈((A.cut x).nd p).Bb:=by have:=(VV.FM b (Lc.2 u.1) (by rw[xr];have:=hp.1;omega)).2;rwa [xr] at this
   obtain⟨k,c,t,_,G,X⟩:=kK Ŕ;exact⟨k,Ab,λh=>absurd h h0,λ_=>⟨t,G,X⟩⟩
 have QV:=xq (y:=x) C λh=>(Â h).2;have M4:=w1.M4 Rl;obtain⟨h2,N,I0,Zh,aN⟩:=xo M4 Ql ő x;have L:=(w1.pn Rl).2.1;obtain⟨s,ku⟩:∃s:PN,s=⟨{(A.cut x).nd p with Bb:=Ji ((A.cut x).nd p).Bb b x},.CF h1.length 0 (((A.cut x).nd p).Bb.length+1) 1,(pN lP p).av,w1.xf Rl⟩:=⟨_,rfl⟩;have B:s.x={(A.cut x).nd p with Bb:=Ji ((A.cut x).nd p).Bb b x}:=by rw[ku]
 have hrow:s.row=(pN lP p).row.set 2 (.CF h1.length 0 (((A.cut x).nd p).Bb.length+1) 1):=by rw[ku];simp only[PN.row];rw[L];rfl
 have aHA:n∈Gm a n m lP:=by simp[Gm]
 have M:HT (pN lP p).kv≠some n:=by intro E;have:=w1.nd;unfold Gm at this;simp only[B5,AS,MN] at this;exact this.2.1 (Ax.2 (.inr (Ck.2 ⟨_,(w1.pn Rl).2.2,E⟩)))
 have H:=w1.sto Rl (k:=2) AM (v:= .CF h1.length 0 (((A.cut x).nd p).Bb.length+1) 1) rfl hrow (Zh n (w1.lt n aHA) M);have hlen:(Ji ((A.cut x).nd p).Bb b x).length=((A.cut x).nd p).Bb.length+1:=by rw[QV,Au,A9,Aw,Bd];omega
 have z:=w1.m_ Rl (p:=s) (h1:=h2) (λi hi hn=>Zh i (w1.lt i hi) hn) (by rw[ku];refine .inr ⟨h1.length,[],by simp only[hlen],?_⟩;simp only[QV,By];exact I0) (.inr λj hj=>by rw[ku] at hj;cases hj;exact Ag _)
 have Pc:∀i,i∈Gm a n m (lP.set (p.toNat-1) s)->i∈Gm a n m lP\/i=h1.length:=by
  intro i hi;rcases pC w1 Rl hi with h|h
  .exact .inl h
  .rw[ku] at h;cases h;exact .inr rfl
 generalize D:h2.set n (.cells ((lP.set (p.toNat-1) s).map PN.row).flatten)=h3 at H z;generalize aSg:lP.set (p.toNat-1) s=vD at z Pc;rw[B] at z;have dO:((A.cut x).set p {(A.cut x).nd p with Bb:=Ji ((A.cut x).nd p).Bb b x}).has x:=Iv.2 Pd;have TI:((A.cut x).set p {(A.cut x).nd p with Bb:=Ji ((A.cut x).nd p).Bb b x}).nd x=(A.cut x).nd x:=by rw[JP,Ad (λh=>K h.1)]
 have ZQ:=(z.pn dO).2.1;obtain⟨S,O,V,Y,W,l4⟩:=z.wr dO (k:=1) AM (v:= I p) rfl (p:=⟨{(A.cut x).nd x with FM:=p},(pN vD x).kv,(pN vD x).av,by have:=(pN vD x).ok;rw[ZQ,TI] at this;exact this⟩) (by simp only[PN.row];rw[ZQ,TI];rfl) rfl (Ca ES.Bb TI).symm;have aHB:(A.cut x).L8 p x b=((A.cut x).set p {(A.cut x).nd p with Bb:=Ji ((A.cut x).nd p).Bb b x}).set x {(A.cut x).nd x with FM:=p}:=by unfold Ar.L8;simp only;rw[TI]
 refine⟨0,S,_,?_,by rw[Z,aHB];exact V,?_⟩
 .rw[Ae,L4];by_cases h0:b=0;.rw[C h0] at N;have kl:=M4.len;rcases kp with c|c|c<;>simp only[abS,FJ,(LN (x:=p) (y:=x) w).Ac,Af (And.intro hp hx),BW,Cy,(Jb w d hp).Ac,(Jb w d hx).Ac,w.f0 hp,w.f0 hx,c,(AM:¬(2:Int)=1),(AM:¬(4:Int)=1),(AM:¬(4:Int)=2),A0,h0,l,g,r.Ac,Q.Ac,w1.f2 Rl,kl,HA,N,H,O]
  .have u:=fits.hb h0;have Od:=u.1;have P:=aDB M4.RS ő b;rw[(Â h0).1] at P;have kl:=M4.len;rcases kp with c|c|c<;>simp only[abS,FJ,(LN (x:=p) (y:=x) w).Ac,Af (And.intro hp hx),BW,Cy,(Jb w d hp).Ac,(Jb w d hx).Ac,w.f0 hp,w.f0 hx,c,(AM:¬(2:Int)=1),(AM:¬(4:Int)=1),(AM:¬(4:Int)=2),A0,h0,(VS (x:=b) w).Ac,As Od,l,g,r.Ac,u.2.1,(Jb w d Od).Ac,w.f1 Od,u.2.2,Q.Ac,w1.f2 Rl,kl,P.Ac,HA,N,H,O]
 .have lM:h3.length=h1.length+1:=by rw[<-D,Bq,aN]
  have T:DC h1 (λi=>i∈Gm a n m lP) S (λi=>i∈Gm a n m (vD.set (x.toNat-1) ⟨{(A.cut x).nd x with FM:=p},(pN vD x).kv,(pN vD x).av,by have:=(pN vD x).ok;rw[ZQ,TI] at this;exact this⟩)):=by
   refine⟨Ab,λi hi VE=>?_,λi hi=>?_⟩;.have R:i≠n:=λE=>VE (E▸aHA);rw[W i R,<-D,Ao (DG R)];exact Zh i hi λE=>VE (Lv (w1.pn Rl).2.2 E)
   .rw[Y] at hi;rcases Pc i hi with h|h
    .exact .inl h
    .exact .inr Ab
  exact U.trans T
end
def Jo(a:Nat)(b:BS)(o c t:Aa):List Aa:=[Pt a 0,I b.CQ,o,c,I b.mode,I b.S0,t,I b.head,I b.Fk,.bool b.L3,I b.ctx.node,I b.ctx.Bc,.str b.ctx.name,.bool b.ctx.O2,.bool b.fs,.bool b.ET,.str b.oL,.bool b.skip,I b.sw,.bool b.stop]
def RT(l:List Int)(v:Aa):Prop:=D4 l v\/(v= .Gf 1/\l=[])
def Ui(l:List Int)(v:Aa):Prop:=RT l v/\v≠ .sl 1 []
section
variable{h:Ah}{l:List Int}{v:Aa}
def RT.cells(t:RT l v):v.cells=[v]:=by
 rcases t with t|⟨rfl,_⟩
 .exact AU.cells t
 .rfl
def RT.len(t:RT l v):AD (.len false) [v]=some (I (l.length:Int)):=by
 rcases t with t|⟨rfl,rfl⟩
 .exact AU.CN t
 .rfl
def RT.ne(t:RT l v)(hne:l≠[]):D4 l v:=by
 rcases t with t|⟨_,e⟩
 .exact t
 .exact absurd e hne
def RT.RS(t:RT l v):P7 h v l:=⟨t.len,λk hk=>(D4.RS (t.ne (λe=>by rw[e] at hk;simp at hk))).at_ k hk⟩
def RT.Gy(t:RT l v)(hb:l.length*8<=AX):∃u,AD (.append 1 8) [.slnil,v]=some u/\D4 l u:=by
 rcases t with t|⟨rfl,rfl⟩
 .exact AU.Gy t hb
 .exact⟨.slnil,rfl,.inr ⟨rfl,rfl⟩⟩
def RT.tJ(t:RT l v)(m:Int)(hb:(l.length+1)*8<=AX):AD (.append 1 8) [v,.sl 1 [Ce m]]=some (.sl 1 ((l++[m]).map Ce)):=by
 rcases t with t|⟨rfl,rfl⟩
 .exact AU.J2 t hb
 .rfl
def Ui.gp{m:Int}:Ui (l++[m]) (.sl 1 ((l++[m]).map Ce)):=⟨.inl .mk,λe=>by injection e with _ e;simp at e⟩
def Ui.nil:Ui [] .slnil:=⟨.inl (.inr ⟨rfl,rfl⟩),nofun⟩
end
structure BX(h:Ah)(bi a:Nat)(o c t:Aa)(G:Nat->Prop)(b:BS):Prop where
 hb:h[bi]?=some (.cells (Jo a b o c t))
 o:BY b.AN o
 t:Ui b.tm t
 w:PW h G a b.a
 nb:¬G bi
section
variable{h:Ah}{bi a:Nat}{o c t:Aa}{G F:Nat->Prop}{b:BS}{x:Int}{m:Nat}
def BX.lt(w:BX h bi a o c t G b):bi<h.length:=(Ak.1 w.hb).1
def BX.Dj{h':Ah}(w:BX h bi a o c t G b)(hf:∀i,i=bi\/G i->h'[i]?=h[i]?):BX h' bi a o c t G b:=
 ⟨by rw[hf bi (.inl rfl)];exact w.hb,w.o,w.t,w.w.Dj λi hi=>hf i (.inr hi),w.nb⟩
def BX.HJ(w:BX h bi a o c t G b){u:Ah}:BX (h++u) bi a o c t G b:=w.Dj λi hi=>Aj (by rcases hi with rfl|hi;exact w.lt;exact w.w.lt hi)
def BX.ld(w:BX h bi a o c t G b)(k:Nat):A8 h none (Pt bi k)=(Jo a b o c t)[k]?:=by simp only[A8,w.hb,E6]
def BX.l0(w:BX h bi a o c t G b):A8 h none (Pt bi 0)=some (Pt a 0):=w.ld 0
def BX.l1(w:BX h bi a o c t G b):A8 h none (Pt bi 1)=some (I b.CQ):=w.ld 1
def BX.l4(w:BX h bi a o c t G b):A8 h none (Pt bi 4)=some (I b.mode):=w.ld 4
def BX.l7(w:BX h bi a o c t G b):A8 h none (Pt bi 7)=some (I b.head):=w.ld 7
def BX.l9(w:BX h bi a o c t G b):A8 h none (Pt bi 9)=some (.bool b.L3):=w.ld 9
def BX.E_(w:BX h bi a o c t G b):A8 h none (Pt bi 15)=some (.bool b.ET):=w.ld 15
def BX.l3(w:BX h bi a o c t G b):A8 h none (Pt bi 3)=some c:=w.ld 3
def BX.l6(w:BX h bi a o c t G b):A8 h none (Pt bi 6)=some t:=w.ld 6
def BX.atO(w:BX h bi a o c t G b):At h bi 2 o:=⟨_,w.hb,rfl⟩
def BX.qX(w:BX h bi a o c t G b):At h bi 3 c:=⟨_,w.hb,rfl⟩
def BX.sO(w:BX h bi a o c t G b):L1 h bi 2 b.AN:=⟨o,w.atO,w.o⟩
def BX.sA(w:BX h bi a o c t G b):jh h (Pt bi 2) b.AN:=w.sO.at
def Iy(w:BX h bi a o c t G b):BL cx 146 [Pt bi 0] h (.bool true) h:=by rw[Ae,fP];simp only[abS,w.l0]
def PW.pa{A:Ar}(w:PW h G a A):∃n m ps,PA h a n m ps A:=let⟨n,m,ps,w,_⟩:=w;⟨n,m,ps,w⟩
def VW(w:BX h bi a o c t G b)(ok:BA b)(rm:B6 b m)(x:Int):∃K V u,BL cx 172 [Pt bi 0,I x] h (.agg [I (b.a.nd x).kind,I (b.a.nd x).FM,K,I (b.a.nd x).CQ,I (b.a.nd x).Bc,.str (b.a.nd x).name,V,.str (b.a.nd x).data,.str (b.a.nd x).pub,.str (b.a.nd x).sys,.bool (b.a.nd x).CK,I (b.a.nd x).cont,I (b.a.nd x).Em]) (h++u)/\D4 (b.a.nd x).Bb K/\Jc (h++u) V (b.a.nd x).Ay/\Up h.length V:=by obtain⟨n,m',ps,d⟩:=w.w.pa;obtain⟨r,u,e,K,V,rfl,g,f⟩:=aHf (x:=x) d rm.Zm (rm.Zm.Bb ok.ok x);refine⟨K,V,u,?_,g,f⟩;rw[Ae,fW];simp only[abS,w.l0,e.Ac]
def aHC(w:BX h bi a o c t G b)(rm:B6 b m):BL cx 187 [Pt bi 0] h (.agg (Fx b.AN).row) h:=by have:=rm.AN;rw[Ae,gJ];simp only[abS,E9,(Iy w).Ac,(f39 w.sA Ab).Ac]
def aHD(w:BX h bi a o c t G b)(ok:BA b)(rm:B6 b m):BL cx 320 [Pt bi 0] h (.tuple [I b.Kb.1,I b.Kb.2]) h:=by
 have hl:=rm.AN;obtain⟨n,m',ps,g⟩:=w.w.pa;have f:=ŋ w.sA (Ab:b.AN.length<=1000000000) E7;have r2:=ŋ w.sA (Ab:b.AN.length<=1000000000) AZ;have b1:=KT (q:=Bn [E7]) (l:=b.AN);have b2:=KT (q:=Bn [AZ]) (l:=b.AN);unfold BS.Kb;simp only
 generalize AT (Bn [E7]) b.AN=d at f b1⊢;generalize AT (Bn [AZ]) b.AN=i at r2 b2⊢;rw[Ae,iP];simp only[BD,f.Ac,r2.Ac];refine⟨λh1=>?_,λh1=>⟨λh2=>?_,λh2=>?_⟩⟩;.rw[Af h1];simp only[BD,E9,(YJ w.sA i).Ac]
 .rw[Ad h1,Af h2];simp only[BD,E9,(YJ w.sA 0).Ac]
 .rw[Ad h1,Ad h2];simp only[abS,E9,(YJ w.sA d).Ac,w.l0,(aHg (x:=(Hh b.AN d).node) g rm.Zm).Ac];refine⟨λe=>?_,λe=>?_⟩;.rw[Af e]
  .rw[Ad e];have j:(if d-1<0 then 0 else d-1)=max (d-1) 0:=Ab;simp only[BD,E9,Da (Ab: -9223372036854775808<=d-1) (Ab:d-1<9223372036854775808),eB,j,(YJ w.sA (max (d-1) 0)).Ac]
def bM:AD (.Dm 1) [S E7,S Ua,S Ub,S Uc,S wTr]=some (.sl 1 (HQ.map Cr)):=DR (ws:=HQ) rfl AM
def vH{v:Aa}{ws:List Ai}(hv:Im ws v)(hn:ws.length<=1000000000)(a:Item)(h:Ah):BL cx 162 [.agg a.row,v] h (.bool (Bn ws a)) h:=by rw[Ae,fS];simp only[BD,E9,(Ŋ hv hn _ h).Ac,Bn];refine⟨λh1=>by simp[h1],λh1=>by simp[h1]⟩
def xt{A:Ar}{x:Int}(hk:(A.nd x).kind=4)(ws:List Ai):Bn ws ⟨0,(A.nd x).Bc,(A.nd x).name,false⟩=decide (S1 ws A x):=by
 by_cases h:S1 ws A x;.rw[As h];unfold Bn;rw[As];exact⟨h.2.1,h.2.2⟩
 .rw[Ap h];unfold Bn;rw[Ap];exact λh2=>h ⟨hk,h2.1,h2.2⟩
def Ř(w:BX h bi a o c t G b)(ok:BA b)(rm:B6 b m)(x:Int):∃u,BL cx 171 [Pt bi 0,I x] h (.tuple [I (b.place x).1,I (b.place x).2]) (h++u):=by
 have hl:=rm.AN;by_cases C:x=0/\b.AN=[]
 .refine⟨[],?_⟩;have D:b.place x=(b.CQ,0):=by unfold BS.place;rw[Af C]
  rw[D,By,Ae,Wv];simp only[abS,(Iy w).Ac,C.1,C.2,Cy,(VP w.sA).Ac,Int.natCast_zero,w.l1]
 .obtain⟨t',ht⟩:∃t',t'=if x=0 then(Fx b.AN).node else x:=⟨_,rfl⟩
  obtain⟨Z,X,r,U,_,_⟩:=VW w ok rm t';have w1:=w.HJ (u:=r);have D:b.place x=if(b.a.nd (if b.ET=true/\S1 HQ b.a t' then b.Kb else(t',0)).1).cont≠0 then((b.a.nd (if b.ET=true/\S1 HQ b.a t' then b.Kb else(t',0)).1).cont,0) else if b.ET=true/\S1 HQ b.a t' then b.Kb else(t',0):=by unfold BS.place;rw[Ad C,<-ht]
  obtain⟨pb,bF⟩:∃pb,pb=if b.ET=true/\S1 HQ b.a t' then b.Kb else(t',0):=⟨_,rfl⟩
  rw[<-bF] at D;obtain⟨Y,V,P,r2,_,_⟩:=VW w1 ok rm pb.1;have T:=aHD w1 ok rm;have A:=vH (ws:=HQ) Cc AM ⟨0,(b.a.nd t').Bc,(b.a.nd t').name,false⟩ (h++r);have em:∀s n,AD (.Co [I 0,I 0,S [],ff] [(1,1),(2,1)]) [I s,.str n]=some (.agg (Item.row ⟨0,s,n,false⟩)):=λ_ _=>rfl;refine⟨r++P,?_⟩;rw[<-AI];have last:∀(y:Int×Int),y=pb->W cx (.call 172 [Pt bi 0,I y.1] λp=> .cells 13 p λd=> .op (.int .neq) [g d 11,I 0] λk=> .Gg k (.ret .ret [.tuple [g d 11,I 0]]) (.ret .ret [.tuple [I y.1,I y.2]])) (λj vs h1=>j=DX.ret/\vs=[.tuple [I (b.place x).1,I (b.place x).2]]/\h1=h++r++P) (h++r):=by
   rintro _ rfl;rw[D];simp only[BD,r2.Ac];refine⟨λh1=>?_,λh1=>?_⟩;.rw[Af h1]
   .rw[Ad h1]
  rw[Ae,Wv];have E_:=w1.E_;have mid:W cx (.call 172 [Pt bi 0,I t'] λO=> .cells 13 O λq=> .Of 200009 (.op .JH [Pt bi 0] λN=> .op (.Lh 15) [N] λv16=> .load none v16 λM=> .Gg M (.op (.int .eql) [g q 0,I 4] λL=> .Gg L (.op (.Co [I 0,I 0,S [],ff] [(1,1),(2,1)]) [g q 4,g q 5] λK=> .op (.Dm 1) [S aUw,S aU3,S aU1,S aU4,S [116,114]] λv20=> .call 162 [K,v20] λJ=> .ret .normal [J]) (.ret .normal [ff])) (.ret .normal [ff])) (λx R=>match x with
    | .normal=> .Of 100046 (.Gg (g R 0) (.call 320 [Pt bi 0] λz=> .op (.ext 0) [z] λH=> .op (.ext 1) [z] λE=> .ret .normal [H,E]) (.ret .normal [I t',I 0])) (λx f=>match x with
     | .normal=> .call 172 [Pt bi 0,g f 0] λp=> .cells 13 p λd=> .op (.int .neq) [g d 11,I 0] λk=> .Gg k (.ret .ret [.tuple [g d 11,I 0]]) (.ret .ret [.tuple [g f 0,g f 1]])
     | .exit i=> .fail
     | .ret=> .ret .ret [.tuple [g f 0,g f 1]])
    | .exit i=> .fail
    | .ret=> .ret .ret [.tuple [I t',I 0]])) (λj vs h1=>j=DX.ret/\vs=[.tuple [I (b.place x).1,I (b.place x).2]]/\h1=h++r++P) h:=by
   rw[U.Ac];by_cases hf:b.ET=true
   .rw[hf] at E_;by_cases B:(b.a.nd t').kind=4
    .rw[xt B] at A;by_cases hw:S1 HQ b.a t';.rw[As hw] at A;rw[Af ⟨hf,hw⟩] at bF;have:=last b.Kb bF.symm;simp only[abS,E_,B,em,bM,A.Ac,T.Ac];simpa only[BD,lO,A9,BJ] using this
     .rw[Ap hw] at A;rw[Ad (λh=>hw h.2)] at bF;have:=last (t',0) bF.symm;simp only[abS,E_,B,em,bM,A.Ac];simpa only[BD,lO,A9,BJ] using this
    .rw[Ad (λh=>B h.2.1)] at bF;have:=last (t',0) bF.symm;simp only[abS,E_,B];simpa only[BD,lO,A9,BJ] using this
   .rw[Ad (λh=>hf h.1)] at bF;have:=last (t',0) bF.symm;rw[show b.ET=false by simpa using hf] at E_;simp only[BD,E_];simpa only[BD,lO,A9,BJ] using this
  by_cases h0:x=0
  .have hne:b.AN≠[]:=λe=>C ⟨h0,e⟩;have Q:¬((b.AN.length:Nat):Int)=0:=by have:=EH.2 hne;omega
   rw[Af h0] at ht;rw[ht] at mid;simp only[abS,(Iy w).Ac];rw[h0] at mid⊢;simp only[abS,E9,(VP w.sA).Ac,Q,(aHC w rm).Ac] at mid⊢;exact mid
  .rw[Ad h0] at ht;rw[ht] at mid;simp only[abS,(Iy w).Ac,h0,DH] at mid⊢;exact mid
end
section
def kx{Q:HG}{h:Ah}{k:Aa->IT}:W cx (.Po k) Q h↔W cx (k (.map (some h.length))) Q (h++[.map (ft 0)]):=RH
section
variable{v:Aa}{l:List A5}{h:Ah}
def aMR(hv:Bt l v)(hb:l.length<=1000)(sp:Int):∃u,BL cx 203 [I sp,v] h u (h++[.map (ft 11)])/\Bt (l.map (C5 sp)) u:=by
 have DJ:AU 3 (l.map A5.row) v:=hv;have I2:Ev cx 203 [I sp,v] h λr h'=>h'=h++[.map (ft 11)]/\Bt (l.map (C5 sp)) r:=by
  unfold Ev;rw[gX,aGD];rw[kx];simp only[BD,Nat.reduceLeDiff,↓reduceIte,AR,Cd,tS,aGn,aGo,aGp,aGq,aGr,aGs,aGt,aGu,aGv,aGw,aCK,DJ.CN];refine Bi (λp:Nat×Aa=>[p.2,I (p.1:Int)]) (λp h1=>p.1<=l.length/\Bt ((l.take p.1).map (C5 sp)) p.2/\h1=h++[.map (ft 11)]) (λp=>l.length-p.1) (0,.slnil) rfl ⟨AV _,.nil,rfl⟩ ?_;rintro⟨n,u⟩ h1 ⟨hn,hu,rfl⟩;simp only at hn hu;rcases AP n l.length with hlt|Eg
  .have i1:(n:Int)<(l.length:Int):=by omega
   have Gv:∀{q:List Aa},q=(C5 sp l[n]).row->∃w,AD (.append 3 40) [u,.sl 3 [q]]=some w/\Bt ((l.take (n+1)).map (C5 sp)) w:=by
    rintro _ rfl;refine⟨_,AU.J2 (f:=A5.row) (a:=C5 sp l[n]) (b:=40) hu ?_,?_⟩;.simp[AX];omega
    .rw[AB hlt,BF];exact .mk
   have inc:=BM (Ab:n<9223372036854775807);by_cases e:sp=2
   .subst e;cases c:Ea (Cq l[n].name Ig) with
    |some x=>obtain⟨w,d,hw⟩:=Gv (q:=[I x.1,.str x.2,.str l[n].value]) (by simp only[C5,Kn,true_or,BN,c,A5.row]);simp only[BD,Nat.reduceLeDiff,↓reduceIte,AR,i1,DJ.BK hlt,Cd,A5.row,(aGS _).B7 rfl rfl,AA,Av,Aq,Mu,c,Ej,d,inc];exact AK.next (n+1,w) rfl ⟨hlt,hw,rfl⟩ Dx
    |none=>obtain⟨w,d,hw⟩:=Gv (q:=[I 0,.str (Cq l[n].name Ig),.str l[n].value]) (by simp only[C5,Kn,true_or,BN,c,A5.row]);simp only[BD,Nat.reduceLeDiff,↓reduceIte,AR,i1,DJ.BK hlt,Cd,A5.row,(aGS _).B7 rfl rfl,AA,Av,Aq,Mu,c,Ej,d,inc];exact AK.next (n+1,w) rfl ⟨hlt,hw,rfl⟩ Dx
   by_cases g:sp=3
   .subst g;by_cases hd:l[n].name=aCL
    .have c:Ea VK=none:=by decide
     obtain⟨w,d,hw⟩:=Gv (q:=[I 0,.str VK,.str l[n].value]) (by simp only[C5,Kn,hd,or_true,BN,DQ,c,A5.row,qM,e]);simp only[BD,Nat.reduceLeDiff,↓reduceIte,AR,i1,DJ.BK hlt,Cd,A5.row,hd,(AM:¬(3:Int)=2),AA,Az,Av,Aq,Mu,c,Ej,d,inc];exact AK.next (n+1,w) rfl ⟨hlt,hw,rfl⟩ Dx
    .cases c:Ea l[n].name with
     |some x=>obtain⟨w,d,hw⟩:=Gv (q:=[I x.1,.str x.2,.str l[n].value]) (by simp only[C5,Kn,hd,or_true,BN,DQ,c,A5.row,aBy,e]);simp only[BD,Nat.reduceLeDiff,↓reduceIte,AR,i1,DJ.BK hlt,Cd,A5.row,hd,(AM:¬(3:Int)=2),AA,Az,Av,Aq,Mu,c,Ej,d,inc];exact AK.next (n+1,w) rfl ⟨hlt,hw,rfl⟩ Dx
     |none=>obtain⟨w,d,hw⟩:=Gv (q:=[I 0,.str l[n].name,.str l[n].value]) (by simp only[C5,Kn,hd,or_true,BN,DQ,c,A5.row,aBy,e]);simp only[BD,Nat.reduceLeDiff,↓reduceIte,AR,i1,DJ.BK hlt,Cd,A5.row,hd,(AM:¬(3:Int)=2),AA,Az,Av,Aq,Mu,c,Ej,d,inc];exact AK.next (n+1,w) rfl ⟨hlt,hw,rfl⟩ Dx
   .obtain⟨w,d,hw⟩:=Gv (q:=[I 0,.str l[n].name,.str l[n].value]) (by simp only[C5,e,g,or_self,DQ,A5.row]);cases c:Ea l[n].name with
    |some x=>simp only[BD,Nat.reduceLeDiff,↓reduceIte,AR,i1,DJ.BK hlt,Cd,A5.row,e,g,AA,Az,Av,Aq,Mu,c,Ej,d,inc];exact AK.next (n+1,w) rfl ⟨hlt,hw,rfl⟩ Dx
    |none=>simp only[BD,Nat.reduceLeDiff,↓reduceIte,AR,i1,DJ.BK hlt,Cd,A5.row,e,g,AA,Az,Av,Aq,Mu,c,Ej,d,inc];exact AK.next (n+1,w) rfl ⟨hlt,hw,rfl⟩ Dx
  .have i1:¬(n:Int)<(l.length:Int):=by omega
   rw[AF Eg] at hu;simp only[BD,Nat.reduceLeDiff,↓reduceIte,AR,i1,Az,Av,Aq];exact⟨_,rfl,hu⟩
 obtain⟨r,h',hr,rfl,hu⟩:=I2.ret;exact⟨r,hr,hu⟩
def VX{Q:HG}{s:Ai}{k:Aa->IT}:W cx (.B7 359 [.str aUa,.str s] k) Q h↔W cx (k (.str (Cq s Ig))) Q h:=by have e:=(aGQ NT s C4).B7 (Q:=Q) (h:=h) (k:=k) rfl rfl;rw[X9] at e;exact e
def Uj{Q:HG}{s:Ai}{k:Aa->IT}(hs:s.length<9223372036854775807):W cx (.B7 139 [.str aUh,.str s] k) Q h↔W cx (k (.bool (decide (s∈L2)))) Q h:=by rw[IL AM hs,å]
def aMS(hv:Bt l v)(hs:∀a∈l,a.name.length<=1000)(hb:l.length<=1000)(sp:Int):∃u,BL cx 230 [I sp,v] h u h/\Bt (l.map (C5 sp)) u:=by
 have DJ:AU 3 (l.map A5.row) v:=hv;have I2:Ev cx 230 [I sp,v] h λr h'=>h'=h/\Bt (l.map (C5 sp)) r:=by
  unfold Ev;rw[ğ];refine Bi (λp:Nat×Aa=>[p.2,I (p.1:Int)]) (λp h1=>p.1<=l.length/\Bt ((l.take p.1).map (C5 sp)) p.2/\h1=h) (λp=>l.length-p.1) (0,.slnil) rfl ⟨AV _,.nil,rfl⟩ ?_;rintro⟨n,u⟩ h1 ⟨hn,hu,rfl⟩;simp only at hn hu;rcases AP n l.length with hlt|Eg
  .have i1:(n:Int)<(l.length:Int):=by omega
   have Gv:∀{q:List Aa},q=(C5 sp l[n]).row->∃w,AD (.append 3 40) [u,.sl 3 [q]]=some w/\Bt ((l.take (n+1)).map (C5 sp)) w:=by
    rintro _ rfl;refine⟨_,AU.J2 (f:=A5.row) (a:=C5 sp l[n]) (b:=40) hu ?_,?_⟩;.simp[AX];omega
    .rw[AB hlt,BF];exact .mk
   have inc:=BM (Ab:n<9223372036854775807);have OX:=hs _ (AL hlt);have aDF:∀nm,(sp=2\/sp=3)->Kn sp l[n].name=nm->C5 sp l[n]=match Ea nm with
     |some (s,m)=>⟨s,m,l[n].value⟩
     |none=>⟨0,nm,l[n].value⟩:=by
    rintro _ hsp rfl;rw[C5,Af hsp];rfl
   by_cases x:sp=2
   .subst x;have hnm:=aDF (Cq l[n].name Ig) (.inl rfl) rfl;have lQ:(Cq l[n].name Ig).length<9223372036854775807:=by rw[SQ];omega
    generalize hg:Cq l[n].name Ig=nm at hnm lQ;rcases Rh nm with⟨e,i,d⟩|⟨e,⟨g,i,d⟩|⟨g,⟨j,i,d⟩|⟨j,⟨k,d⟩|⟨k,⟨o,d⟩|⟨o,d⟩⟩⟩⟩⟩
    .obtain⟨w,c,hw⟩:=Gv (q:=[I 4,.str (nm.drop 6),.str l[n].value]) (by rw[hnm];simp only[d,A5.row]);simp only[BD,Nat.reduceLeDiff,↓reduceIte,AR,DJ.CN,i1,DJ.BK hlt,Cd,A5.row,hg,VX,(AM:¬(2:Int)=3),AA,Az,Av,Aq,Uj lQ,e,sl6 i,Ej,c,inc];exact AK.next (n+1,w) rfl ⟨hlt,hw,rfl⟩ Dx
    .obtain⟨w,c,hw⟩:=Gv (q:=[I 5,.str (nm.drop 4),.str l[n].value]) (by rw[hnm];simp only[d,A5.row]);simp only[BD,Nat.reduceLeDiff,↓reduceIte,AR,DJ.CN,i1,DJ.BK hlt,Cd,A5.row,hg,VX,(AM:¬(2:Int)=3),AA,Az,Av,Aq,Uj lQ,e,AQ g,sl4 i,Ej,c,inc];exact AK.next (n+1,w) rfl ⟨hlt,hw,rfl⟩ Dx
    .obtain⟨w,c,hw⟩:=Gv (q:=[I 5,.str (nm.drop 4),.str l[n].value]) (by rw[hnm];simp only[d,A5.row]);simp only[BD,Nat.reduceLeDiff,↓reduceIte,AR,DJ.CN,i1,DJ.BK hlt,Cd,A5.row,hg,VX,(AM:¬(2:Int)=3),AA,Az,Av,Aq,Uj lQ,e,g,AQ j,sl4 i,Ej,c,inc];exact AK.next (n+1,w) rfl ⟨hlt,hw,rfl⟩ Dx
    .obtain⟨w,c,hw⟩:=Gv (q:=[I 6,.str nm,.str l[n].value]) (by rw[hnm];simp only[d,A5.row]);simp only[BD,Nat.reduceLeDiff,↓reduceIte,AR,DJ.CN,i1,DJ.BK hlt,Cd,A5.row,hg,VX,(AM:¬(2:Int)=3),AA,Az,Av,Aq,Uj lQ,e,g,j,AQ k,Ej,c,inc];exact AK.next (n+1,w) rfl ⟨hlt,hw,rfl⟩ Dx
    .obtain⟨w,c,hw⟩:=Gv (q:=[I 6,.str tT,.str l[n].value]) (by rw[hnm];simp only[d,A5.row]);simp only[BD,Nat.reduceLeDiff,↓reduceIte,AR,DJ.CN,i1,DJ.BK hlt,Cd,A5.row,hg,VX,(AM:¬(2:Int)=3),AA,Az,Av,Aq,Uj lQ,e,g,j,k,AQ o,Ej,c,inc];exact AK.next (n+1,w) rfl ⟨hlt,hw,rfl⟩ Dx
    .obtain⟨w,c,hw⟩:=Gv (q:=[I 0,.str nm,.str l[n].value]) (by rw[hnm];simp only[d,A5.row]);simp only[BD,Nat.reduceLeDiff,↓reduceIte,AR,DJ.CN,i1,DJ.BK hlt,Cd,A5.row,hg,VX,(AM:¬(2:Int)=3),AA,Az,Av,Aq,Uj lQ,e,g,j,k,o,Ej,c,inc];exact AK.next (n+1,w) rfl ⟨hlt,hw,rfl⟩ Dx
   by_cases t:sp=3
   .subst t;by_cases hd:l[n].name=aCL;.have hnm:=aDF VK (.inr rfl) (by rw[Kn,Ad AM,Af ⟨rfl,hd⟩]);rw[(AM:Ea VK=none)] at hnm;obtain⟨w,c,hw⟩:=Gv (q:=[I 0,.str VK,.str l[n].value]) (by rw[hnm];rfl);have lQ:VK.length<9223372036854775807:=AM;simp only[BD,Nat.reduceLeDiff,↓reduceIte,AR,DJ.CN,i1,DJ.BK hlt,Cd,A5.row,hd,(AM:¬(3:Int)=2),AA,Az,Av,Aq,Uj lQ,(AM:VK∉L2),(AM:¬VK=nZ),(AM:¬VK=Yf),(AM:¬VK=oA),(AM:¬VK=Yg),Ej,c,inc];exact AK.next (n+1,w) rfl ⟨hlt,hw,rfl⟩ Dx
    have hnm:=aDF l[n].name (.inr rfl) (by rw[Kn,Ad AM,Ad (λh=>hd h.2)]);have lQ:l[n].name.length<9223372036854775807:=Ab;rcases Rh l[n].name with⟨e,i,d⟩|⟨e,⟨g,i,d⟩|⟨g,⟨j,i,d⟩|⟨j,⟨k,d⟩|⟨k,⟨o,d⟩|⟨o,d⟩⟩⟩⟩⟩
    .obtain⟨w,c,hw⟩:=Gv (q:=[I 4,.str (l[n].name.drop 6),.str l[n].value]) (by rw[hnm];simp only[d,A5.row]);simp only[BD,Nat.reduceLeDiff,↓reduceIte,AR,DJ.CN,i1,DJ.BK hlt,Cd,A5.row,hd,VX,(AM:¬(3:Int)=2),AA,Az,Av,Aq,Uj lQ,e,sl6 i,Ej,c,inc];exact AK.next (n+1,w) rfl ⟨hlt,hw,rfl⟩ Dx
    .obtain⟨w,c,hw⟩:=Gv (q:=[I 5,.str (l[n].name.drop 4),.str l[n].value]) (by rw[hnm];simp only[d,A5.row]);simp only[BD,Nat.reduceLeDiff,↓reduceIte,AR,DJ.CN,i1,DJ.BK hlt,Cd,A5.row,hd,VX,(AM:¬(3:Int)=2),AA,Az,Av,Aq,Uj lQ,e,AQ g,sl4 i,Ej,c,inc];exact AK.next (n+1,w) rfl ⟨hlt,hw,rfl⟩ Dx
    .obtain⟨w,c,hw⟩:=Gv (q:=[I 5,.str (l[n].name.drop 4),.str l[n].value]) (by rw[hnm];simp only[d,A5.row]);simp only[BD,Nat.reduceLeDiff,↓reduceIte,AR,DJ.CN,i1,DJ.BK hlt,Cd,A5.row,hd,VX,(AM:¬(3:Int)=2),AA,Az,Av,Aq,Uj lQ,e,g,AQ j,sl4 i,Ej,c,inc];exact AK.next (n+1,w) rfl ⟨hlt,hw,rfl⟩ Dx
    .obtain⟨w,c,hw⟩:=Gv (q:=[I 6,.str l[n].name,.str l[n].value]) (by rw[hnm];simp only[d,A5.row]);simp only[BD,Nat.reduceLeDiff,↓reduceIte,AR,DJ.CN,i1,DJ.BK hlt,Cd,A5.row,hd,VX,(AM:¬(3:Int)=2),AA,Az,Av,Aq,Uj lQ,e,g,j,AQ k,Ej,c,inc];exact AK.next (n+1,w) rfl ⟨hlt,hw,rfl⟩ Dx
    .obtain⟨w,c,hw⟩:=Gv (q:=[I 6,.str tT,.str l[n].value]) (by rw[hnm];simp only[d,A5.row]);simp only[BD,Nat.reduceLeDiff,↓reduceIte,AR,DJ.CN,i1,DJ.BK hlt,Cd,A5.row,hd,VX,(AM:¬(3:Int)=2),AA,Az,Av,Aq,Uj lQ,e,g,j,k,AQ o,Ej,c,inc];exact AK.next (n+1,w) rfl ⟨hlt,hw,rfl⟩ Dx
    .obtain⟨w,c,hw⟩:=Gv (q:=[I 0,.str l[n].name,.str l[n].value]) (by rw[hnm];simp only[d,A5.row]);simp only[BD,Nat.reduceLeDiff,↓reduceIte,AR,DJ.CN,i1,DJ.BK hlt,Cd,A5.row,hd,VX,(AM:¬(3:Int)=2),AA,Az,Av,Aq,Uj lQ,e,g,j,k,o,Ej,c,inc];exact AK.next (n+1,w) rfl ⟨hlt,hw,rfl⟩ Dx
   .obtain⟨w,c,hw⟩:=Gv (q:=[I 0,.str l[n].name,.str l[n].value]) (by simp only[C5,x,t,or_self,DQ,A5.row]);simp only[BD,Nat.reduceLeDiff,↓reduceIte,AR,DJ.CN,i1,DJ.BK hlt,Cd,A5.row,x,t,AA,Az,Av,Aq,Ej,c,inc];exact AK.next (n+1,w) rfl ⟨hlt,hw,rfl⟩ Dx
  .have i1:¬(n:Int)<(l.length:Int):=by omega
   rw[AF Eg] at hu;simp only[BD,Nat.reduceLeDiff,↓reduceIte,AR,DJ.CN,i1,Az,Av,Aq];exact⟨_,rfl,hu⟩
 obtain⟨r,h',hr,rfl,hu⟩:=I2.ret;exact⟨r,hr,hu⟩
end
end
def Bu(bi:Nat)(G:Nat->Prop):Nat->Prop:=λi=>i=bi\/G i
section
variable{h h':Ah}{bi a:Nat}{o c t:Aa}{G G' F:Nat->Prop}{b:BS}{x:Int}{m:Nat}
def DC.aBa(x:DC h G h' G'):DC h (Am.Bu bi G) h' (Am.Bu bi G'):=⟨x.len,λi hi hn=>x.old i hi λhg=>hn (.inr hg),λi hi=>by
 rcases hi with rfl|hi
 .exact .inl (.inl rfl)
 .rcases x.Bu i hi with h|h
  .exact .inl (.inr h)
  .exact .inr h⟩
def BX.bq{A':Ar}(w:BX h bi a o c t G b)(hp:PW h' G' a A')(x:DC h G h' G'):BX h' bi a o c t G' {b with a:=A'}/\DC h (Bu bi G) h' (Bu bi G'):=
 ⟨⟨by rw[x.old bi w.lt w.nb];exact w.hb,w.o,w.t,hp,λhg=>by rcases x.Bu bi hg with h|h;exact w.nb h;have:=w.lt;omega⟩,x.aBa⟩
def BX.step{A':Ar}{R:Ah->Prop}(w:BX h bi a o c t G b)(d:∀n m ps,PA h a n m ps b.a->∃h' n' m' JA,R h'/\PA h' a n' m' JA A'/\DC h (λi=>i∈Gm a n m ps) h' (λi=>i∈Gm a n' m' JA)):
  ∃h' G',R h'/\BX h' bi a o c t G' {b with a:=A'}/\DC h (Bu bi G) h' (Bu bi G'):=by
 obtain⟨n,m,ps,g,e⟩:=w.w;obtain⟨h',n',m',JA,r,w',x⟩:=d n m ps g;have k:G=λi=>i∈Gm a n m ps:=funext λi=>propext (e i);obtain⟨j,f⟩:=w.bq w'.pw (by rw[k];exact x);exact⟨h',_,r,j,f⟩
def BX.C6(w:BX h bi a o c t G b){u:Ah}:DC h (Bu bi G) (h++u) (Bu bi G):= .HJ
def aHG{v:Aa}{l:List Int}{f:FuncId}{caps:List Aa}{q:Int->Bool}(hv:D4 l v)(hb:l.length<=1000000000)(hf:f<=99999)(hq:∀k∈l,∀u,∃d,BL cx f (I k::caps) (h++u) (.bool (q k)) (h++u++d)):
  ∃u,BL cx 396 [v,.func (.func f) [] caps] h (I (Cn q 0 l)) (h++u):=by
 have DJ:AU 1 (l.map Ce) v:=hv;have I2:Ev cx 396 [v,.func (.func f) [] caps] h λr h'=>r= I (Cn q 0 l)/\∃u,h'=h++u:=by
  unfold Ev;rw[jU];simp only[BD,DJ.CN];refine Bi (λk:Nat=>[I 0,I (k:Int)]) (λk h1=>k<=l.length/\Cn q 0 l=Cn q k (l.drop k)/\∃u,h1=h++u) (λk=>l.length-k) 0 rfl ⟨AV _,rfl,[],AH⟩ ?_;rintro k h1 ⟨hk,ha,u,rfl⟩;rcases AP k l.length with hlt|Eg
  .have i1:(k:Int)<(l.length:Int):=by omega
   have g:A8 (h++u) none (.CH (Ce l[k]))=some (I l[k]):=rfl;obtain⟨d,e⟩:=hq _ (AL hlt) u;rw[AG hlt,Cn] at ha;simp only[abS,↓reduceIte,Dp,i1,DJ.BK hlt,g,hf,e.Ac,BM (Ab:k<9223372036854775807)];rw[CS];refine⟨λh2=>?_,λh2=>?_⟩;.exact⟨_,rfl,by rw[ha,Af h2],u++d,AH⟩
   .rw[Ad (by simp[h2])] at ha;exact AK.next (k+1) rfl ⟨hlt,ha,u++d,AH⟩ Ab
  .have i1:¬(k:Int)<(l.length:Int):=by omega
   rw[AW Eg,Cn] at ha;simp only[abS,↓reduceIte,Dp,i1];exact⟨_,rfl,by rw[ha],u,rfl⟩
 obtain⟨r,h',hr,rfl,u,rfl⟩:=I2.ret;exact⟨u,hr⟩
def ř{l:List Int}{q:Int->Bool}:decide (0<=Cn q 0 l)=l.any q:=by
 rcases HP (p:=q) (l:=l) (k:=0) with⟨h1,h2⟩|⟨n,y,h1,h2,d⟩
 .rw[h1,oa];have:=Js.1 h2;simpa using this
 .rw[h1,oa];have f:=Vr d;have e:=Q1 d;rw[As Ab,TF];exact⟨y,e,f⟩
def BX.self(w:BX h bi a o c t G b){A':Ar}(e:A'=b.a):BX h bi a o c t G {b with a:=A'}:=by subst e;exact w
open Classical in
def pD{p bf:Int}(w:BX h bi a o c t G b)(ok:BA b)(rm:B6 b m):∃h' G',BL cx 159 [Pt bi 0,I x,I p,I bf] h (.tuple []) h'/\BX h' bi a o c t G' {b with a:=b.a.Ex x p bf}/\DC h (Bu bi G) h' (Bu bi G'):=by
 obtain⟨K1,V1,d,J,_,_⟩:=VW w ok rm p;have w1:=w.HJ (u:=d);have X:∀v,Aa.cells (.ptr v)=[.ptr v]:=λ_=>rfl;have HF:∀h2,(∃u,h2=h++u)->∃h' G',(∃s,BL cx 111 [Pt a 0,I p,I x,I bf] h2 (I s) h')/\BX h' bi a o c t G' {b with a:=b.a.FT p x bf}/\DC h (Bu bi G) h' (Bu bi G'):=by
  rintro _ ⟨u,rfl⟩;have g:=w.HJ (u:=u);obtain⟨h',G',r,w',x'⟩:=g.step (A':=b.a.FT p x bf) (R:=λh'=>∃s,BL cx 111 [Pt a 0,I p,I x,I bf] (h++u) (I s) h') (λn m ps Q=>by obtain⟨s,h',JA,r,wp,P⟩:=aHy Q rm.Zm ok.ok (p:=p) (x:=x) (b:=bf);exact⟨h',n,m,JA,⟨s,r⟩,wp,P⟩)
  exact⟨h',G',r,w',w.C6.trans x'⟩
 by_cases A:(b.a.nd p).kind=1
 .obtain⟨K2,Z,j,r2,_,_⟩:=VW w1 ok rm x;have g:=w1.HJ (u:=j);by_cases D:(b.a.nd x).kind=4
  .obtain⟨V,W,vD,M⟩:=g.w.pa;obtain⟨K,O,U⟩:=aAZ (x:=p) M rm.Zm (rm.Zm.Bb ok.ok p);obtain⟨H,T⟩:=aHG (h:=h++d++j) (f:=307) (caps:=[.CH [Pt bi 0]]) (q:=λk=>decide ((b.a.nd k).kind=4)) U (rm.Zm.Bb ok.ok p) AM (λk _ u=>by have E:=g.HJ (u:=u);obtain⟨K3,Y,S,y,_,_⟩:=VW E ok rm k;refine⟨S,?_⟩;rw[Ae,iI];simp only[BD,y.Ac])
   have i:BL cx 305 [K,.func (.func 307) [] [.CH [Pt bi 0]]] (h++d++j) (.bool ((b.a.nd p).Bb.any λk=>decide ((b.a.nd k).kind=4))) (h++d++j++H):=by rw[Ae,iH,<-ř];simp only[BD,T.Ac]
   have E:=g.HJ (u:=H);by_cases L:∃k∈(b.a.nd p).Bb,(b.a.nd k).kind=4
   .have N:((b.a.nd p).Bb.any λk=>decide ((b.a.nd k).kind=4))=true:=by simpa using L
    rw[N] at i;have z:b.a.Ex x p bf=b.a:=by unfold Ar.Ex;rw[Af ⟨A,D,L⟩]
    refine⟨_,G,?_,E.self z,(w.C6.trans w1.C6).trans g.C6⟩;rw[Ae,QG];simp only[abS,J.Ac,A,r2.Ac,D,g.l0,O.Ac,i.Ac]
   .have N:((b.a.nd p).Bb.any λk=>decide ((b.a.nd k).kind=4))=false:=by rw[aP8];intro k hk;simpa using λe=>L ⟨k,hk,e⟩
    rw[N] at i;have z:b.a.Ex x p bf=b.a.FT p x bf:=by unfold Ar.Ex;rw[Ad (λh=>L h.2.2)]
    obtain⟨h',G',⟨s,y⟩,C,B⟩:=HF (h++d++j++H) ⟨d++j++H,AH⟩;refine⟨h',G',?_,by rw[z];exact C,B⟩;rw[Ae,QG];simp only[abS,J.Ac,A,r2.Ac,D,g.l0,O.Ac,i.Ac,E.l0,y.Ac]
  .have z:b.a.Ex x p bf=b.a.FT p x bf:=by unfold Ar.Ex;rw[Ad (λh=>D h.2.1)]
   obtain⟨h',G',⟨s,y⟩,C,B⟩:=HF (h++d++j) ⟨d++j,AH⟩;refine⟨h',G',?_,by rw[z];exact C,B⟩;rw[Ae,QG];simp only[abS,J.Ac,A,r2.Ac,D,g.l0,y.Ac]
 .have z:b.a.Ex x p bf=b.a.FT p x bf:=by unfold Ar.Ex;rw[Ad (λh=>A h.1)]
  obtain⟨h',G',⟨s,y⟩,C,B⟩:=HF (h++d) ⟨d,rfl⟩;refine⟨h',G',?_,by rw[z];exact C,B⟩;rw[Ae,QG];simp only[abS,J.Ac,A,w1.l0,y.Ac]
def aHH(w:BX h bi a o c t G b)(ok:BA b)(rm:B6 b m)(p:Int):∃u,BL cx 206 [Pt bi 0,I p] h (I (b.IJ p)) (h++u):=by
 obtain⟨n,j,d,f,_,_⟩:=VW w ok rm p;have w1:=w.HJ (u:=d);unfold BS.IJ;by_cases hc:(b.a.nd p).cont=0
 .refine⟨d,?_⟩;rw[Ad (by simp[hc]),Ae,Wz];simp only[abS,f.Ac,hc,BW,Cy,w1.l1];refine⟨λh1=>?_,λh1=>?_⟩;.rw[Af h1]
  .rw[Ad h1]
 .obtain⟨k,i,e,r2,_,_⟩:=VW w1 ok rm (b.a.nd p).cont;have g:=w1.HJ (u:=e);refine⟨d++e,?_⟩;rw[Af hc,<-AI,Ae,Wz];simp only[abS,f.Ac,r2.Ac,hc,BW,g.l1];refine⟨λh1=>?_,λh1=>?_⟩;.rw[Af h1]
  .rw[Ad h1]
def N2(nm:Ai)(av:Aa)(r:List Aa):Prop:=∃n k j i g f e d VH TK,r=[n,.str nm,k,j,i,g,f,e,av,d,VH,TK]
def Nr:Aa.agg Item.zero.row= .agg [I 0,I 0,S [],ff]:=rfl
variable{nm:Ai}{av:Aa}{l:List A5}{r:List Aa}{sp p:Int}
def B6.len{k:Nat}(rm:B6 b k)(hk:3<=k):b.a.len+3<=1000000000:=by have:=rm.n;unfold Ar.len;omega
def xw(w:BX h bi a o c t G b)(ok:BA b)(rm:B6 b (m+3))(hr:N2 nm av r)(hv:Bt l av)(hl:DL l)(hn:nm.length<=1000)(p sp:Int):
  ∃h' G',BL cx 85 [Pt bi 0,.agg r,I sp,I p] h (.agg (b.GA nm l sp).row) h'/\BX h' bi a o c t G' (b.Er nm l sp p)/\DC h (Bu bi G) h' (Bu bi G'):=by
 obtain⟨O,N,M,L,K,J,H,E,VH,TK,rfl⟩:=hr;by_cases hs:BS.H8 sp
 .obtain⟨D,s,hu⟩:=aMR (h:=h) hv hl.1 sp;have w1:=w.HJ (u:=[.map (ft 11)]);obtain⟨j,r2⟩:=aHH w1 ok rm p;have g:=w1.HJ (u:=j);have hd:=QC ok (p:=p);have i:∀y∈l.map (C5 sp),BS.H8 y.Bc:=by intro y hy;obtain⟨z,_,rfl⟩:=Bk.1 hy;exact eV
  obtain⟨h',G',⟨f,_⟩,C,A⟩:=g.step (A':=b.a.elem (b.IJ p) sp (BS.IK sp nm) (l.map (C5 sp))) (R:=λh'=>BL cx 205 [Pt a 0,I (b.IJ p),I sp,.str (BS.IK sp nm),D] (h++[.map (ft 11)]++j) (.tuple [I (b.a.len+1),I 0]) h'/\True) (λn m ps B=>by obtain⟨h',n',m',JA,r,wp,v,_⟩:=aHq B rm.Zm (rm.len Ab) hd hs hu (by rw[An];have:=hl.1;omega) i (nm:=BS.IK sp nm);exact⟨h',n',m',JA,⟨r,trivial⟩,wp,v⟩)
  have d:=f96 (h:=h') hu (λy hy=>by obtain⟨z,hz,rfl⟩:=Bk.1 hy;rw[bI];have:=(hl.2 z hz).2;have:AX=140737488355328:=rfl;omega) (by rw[An];have:=hl.1;omega) sp (BS.IK sp nm);have em:AD (.Co [I 0,I 0,S [],ff] [(0,1),(1,1),(2,1),(3,1)]) [I (b.a.len+1),I sp,.str (BS.IK sp nm),.bool (Fj sp (BS.IK sp nm) (l.map (C5 sp)))]=some (.agg (b.GA nm l sp).row):=by rw[aZ];unfold BS.GA;rw[Af hs]
  refine⟨h',G',?_,by unfold BS.Er;rw[Af hs];exact C,(w.C6.trans w1.C6).trans A⟩;have q:¬sp<0:=by have:=hs.1;omega
  have k:¬7<sp:=by have:=hs.2;omega
  have hlen:=λ(y:Item)=>@Item.CP y;rw[Ae,fC];by_cases h2:sp=2
  .have e:BS.IK sp nm=Cq nm I4:=by unfold BS.IK;rw[Af h2]
   rw[e] at f d em;subst h2;simp only[abS,↓reduceIte,AR,E9,(Iy w).Ac,q,k,DH,s.Ac,Dz,Cy,(aLV nm).B7 rfl rfl,w1.l0,r2.Ac,g.l0,BI,f.Ac,BW,d.Ac,em,hlen]
  .have e:BS.IK sp nm=nm:=by unfold BS.IK;rw[Ad h2]
   rw[e] at f d em;simp only[abS,↓reduceIte,AR,E9,(Iy w).Ac,q,k,DH,s.Ac,h2,w1.l0,r2.Ac,g.l0,BI,f.Ac,BW,Cy,d.Ac,em,hlen]
 .refine⟨h,G,?_,by unfold BS.Er;rw[Ad hs];exact w,.refl⟩;have e:b.GA nm l sp=Item.zero:=by unfold BS.GA;rw[Ad hs]
  rw[e,Nr,Ae,fC];unfold BS.H8 at hs;by_cases h1:sp<0;.simp only[abS,↓reduceIte,AR,(Iy w).Ac,h1,Dz]
  .simp only[abS,↓reduceIte,AR,(Iy w).Ac,h1,DH,(Ab:7<sp),Dz]
def Bg{k:Nat}{v:Aa}:DC h (Bu bi G) (put h bi k v) (Bu bi G):=⟨by rw[I7];exact Ag _,λi _ hn=>Cb λe=>hn (.inl e),λ_ h=> .inl h⟩
def BX.put{k:Nat}{v o' c' t':Aa}{b':BS}(w:BX h bi a o c t G b)(e:(Jo a b o c t).set k v=Jo a b' o' c' t')(ea:b'.a=b.a)(ho:BY b'.AN o')(ht:Ui b'.tm t'):BX (Am.put h bi k v) bi a o' c' t' G b':=
 ⟨by rw[Io w.hb,e];exact AO w.lt,ho,ht,by rw[ea];exact w.w.Dj λi hi=>Cb λe=>w.nb (e▸hi),w.nb⟩
def BX.HU{u:Aa}{l:List Item}(w:BX h bi a o c t G b)(hu:BY l u):BX (Am.put h bi 2 u) bi a u c t G {b with AN:=l}:=w.put rfl rfl hu w.t
def BX.Kr{u:Aa}{l:List Cp}(w:BX h bi a o c t G b):BX (Am.put h bi 3 u) bi a o u t G {b with A6:=l}:=w.put rfl rfl w.o w.t
def BX.st{k:Nat}{v v0:Aa}(w:BX h bi a o c t G b)(hk:(Jo a b o c t)[k]?=some v0)(hv:v.cells=[v]):Cv h 1 (Pt bi k) v=some (Am.put h bi k v):=At.store (v:=v0) ⟨_,w.hb,hk⟩ hv
variable{nm:Ai}{av:Aa}{l:List A5}{r:List Aa}{sp p:Int}
def aMU(w:BX h bi a o c t G b)(ok:BA b)(rm:B6 b (m+4))(hr:N2 nm av r)(hv:Bt l av)(hl:DL l)(hn:nm.length<=1000)(sp:Int):
  ∃h' o' G',BL cx 169 [Pt bi 0,.func (.func 85) [Pt bi 0] [],.agg r,I sp] h (I (b.Pe sp)) h'/\BX h' bi a o' c t G' (b.EF nm l sp)/\DC h (Bu bi G) h' (Bu bi G'):=by
 obtain⟨s,n⟩:=Ř w ok rm 0;have w1:=w.HJ (u:=s);obtain⟨h2,A,r2,k,i⟩:=xw (m:=m+1) w1 ok (rm.le Ab) hr hv hl hn (b.place 0).1 sp;have FZ:=hr;obtain⟨L,K,J,H,E,D,C,B,VH,TK,rfl⟩:=hr;have ho:=rm.AN;by_cases hs:BS.H8 sp
 .have xy:=ur (nm:=nm) (at_:=l) (p:=(b.place 0).1) ok hs;have Vh:=Ja (m:=m+1) (nm:=nm) (sp:=sp) (p:=(b.place 0).1) (rm.le Ab) hl;have YT:(b.GA nm l sp).node=b.a.len+1:=by unfold BS.GA;rw[Af hs]
  have Zi:¬(b.a.len+1=0):=by unfold Ar.len;omega
  have Oc:(b.Er nm l sp (b.place 0).1).AN=b.AN:=by unfold BS.Er;rw[Af hs]
  obtain⟨y,z,v,j,q⟩:=pD (x:=b.a.len+1) (p:=(b.place 0).1) (bf:=(b.place 0).2) k xy Vh;obtain⟨v4,d,f⟩:=f95 j.sO (by simp only[Oc];omega) (b.GA nm l sp);refine⟨Am.put y bi 2 v4,v4,z,?_,?_,((w.C6.trans i).trans q).trans Bg⟩
  .have g:b.Pe sp=b.a.len+1:=by unfold BS.Pe;rw[Af hs]
   rw[Ae,Wu,g];simp only[abS,Nat.reduceAdd,↓reduceIte,Dp,E9,n.Ac,(AM:(85:Nat)<=99999),r2.Ac,YT,Zi,BW,v.Ac];have e:=@Item.PX (b.GA nm l sp);rw[YT] at e;rw[<-e] at d;simp only[e] at d⊢;simp only[d.Ac,BD]
  .have:=j.HU f;unfold BS.EF;rw[Af hs];exact this
 .refine⟨h2,o,A,?_,?_,w.C6.trans i⟩
  .have e:b.GA nm l sp=Item.zero:=by unfold BS.GA;rw[Ad hs]
   have g:b.Pe sp=0:=by unfold BS.Pe;rw[Ad hs]
   rw[e,Nr] at r2;rw[Ae,Wu,g];simp only[abS,Nat.reduceAdd,↓reduceIte,Dp,E9,n.Ac,(AM:(85:Nat)<=99999),r2.Ac,BW,Cy]
  .have:b.EF nm l sp=b.Er nm l sp (b.place 0).1:=by unfold BS.EF BS.Er;rw[Ad hs,Ad hs]
   rw[this];exact k
def aHI(w:BX h bi a o c t G b)(ok:BA b)(rm:B6 b (m+4))(hr:N2 nm av r)(hv:Bt l av)(hl:DL l)(hn:nm.length<=1000)(sp:Int):
  ∃h' o' G',BL cx 67 [Pt bi 0,.agg r,I sp] h (I (b.Pe sp)) h'/\BX h' bi a o' c t G' (b.EF nm l sp)/\DC h (Bu bi G) h' (Bu bi G'):=by
 obtain⟨h',o',G',d,w',x'⟩:=aMU w ok rm hr hv hl hn sp;refine⟨h',o',G',?_,w',x'⟩;obtain⟨q,n,k,j,i,g,f,e,VH,TK,rfl⟩:=hr;rw[Ae,uO,t67];simp only[abS,(Iy w).Ac,d.Ac]
def xz(w:BX h bi a o c t G b)(ok:BA b)(rm:B6 b (m+4))(hr:N2 nm av r)(hv:Bt l av)(hl:DL l)(hn:nm.length<=1000):
  ∃h' o' G',BL cx 65 [Pt bi 0,.agg r] h (I (b.a.len+1)) h'/\BX h' bi a o' c t G' (b.EF nm l 1)/\DC h (Bu bi G) h' (Bu bi G'):=by
 obtain⟨h',o',G',d,w',x'⟩:=aHI w ok rm hr hv hl hn 1;refine⟨h',o',G',?_,w',x'⟩;have e:b.Pe 1=b.a.len+1:=by unfold BS.Pe;rw[Af JV]
 rw[e] at d;obtain⟨s,q,n,k,j,i,g,f,VH,TK,rfl⟩:=hr;rw[Ae,uN];simp only[BD,d.Ac]
end
def B2(l:List Cp)(v:Aa):Prop:=∃fs:List Cl,fs.map (·.c)=l/\Dw fs v
def Vi{U Z:Type}{f:U->Z}{q:Z->Bool}{l:List U}:AT q (l.map f)=AT (λx=>q (f x)) l:=by unfold AT;rw[<-TG,List.findIdx?_map,An];rfl
def vI{U Z:Type}{f:U->Z}{l:List U}{k:Nat}:(Bf l k).map f=Bf (l.map f) k:=by unfold Bf;simp
def Ś{fs:List Cl}:since fs=tZ (fs.map (·.c)):=by unfold since tZ;rw[Vi];rfl
def YU{n:Int}{fs:List Cl}:Hy n fs=Fe n (fs.map (·.c)):=by unfold Hy Fe;rw[Vi];rfl
def br{nm:Ai}{fs:List Cl}:NU nm fs=GF nm (fs.map (·.c)):=by
 unfold NU GF;rw[<-TG];generalize fs.reverse=r;induction r with
 |nil=>rfl
 |cons x r ih=>simp only[Bl,yL,P4,ih,An]
def aHJ{e:Cp}{fs:List Cl}:SU e fs=yQ e (fs.map (·.c)).reverse:=by
 unfold SU;rw[<-TG];generalize fs.reverse=r;induction r with
 |nil=>rfl
 |cons x r ih=>simp only[Bl,ç,yQ,ih]
def aHK{e:Cp}{fs:List Cl}:NV e fs=oJ e (fs.map (·.c)).reverse:=by
 unfold NV;rw[<-TG];generalize fs.reverse=r;induction r with
 |nil=>rfl
 |cons x r ih=>simp only[Bl,tV,oJ,ih,An]
def pE{e:Cp}{d:Cl}{fs:List Cl}(he:d.c=e):(LJ e fs++[d]).map (·.c)=oK e (fs.map (·.c)):=by
 unfold LJ oK;rw[aHJ,aHK,BF,aOK,he];split;.rw[vI]
 .rfl
def QJ{fs:List Cl}:(fs.take (ER fs)).map (·.c)=EE (fs.map (·.c)):=by unfold EE ER;rw[Gk,Ś]
def bt{l:List Cp}{fs:List Cl}(e:fs.map (·.c)=l)(h:∀x∈l,x.Ay.length<=1000):∀x∈fs,ZL x:=by intro x hx;have:=h x.c (by rw[<-e];exact Bk.2 ⟨x,hx,rfl⟩);unfold ZL;omega
section
variable{h h':Ah}{bi a:Nat}{o c t:Aa}{G G' F:Nat->Prop}{b:BS}{x:Int}{m:Nat}
variable{nm:Ai}{av:Aa}{l:List A5}{r:List Aa}{sp p:Int}
def aMV(w:BX h bi a o c t G b)(hc:B2 b.A6 c)(ok:Ey b)(rm:B6 b (m+5))(hr:N2 nm av r)(hv:Bt l av)(hl:DL l)(hn:nm.length<=1000):
  ∃h' o' c' G',BL cx 68 [Pt bi 0,.agg r] h (I (b.a.len+1)) h'/\BX h' bi a o' c' t G' (b.Ko nm l)/\B2 (b.Ko nm l).A6 c'/\DC h (Bu bi G) h' (Bu bi G'):=by
 obtain⟨h1,j,k,i,w1,g⟩:=xz (m:=m+1) w ok (rm.le Ab) hr hv hl hn;obtain⟨fs,d,hf⟩:=hc;have ha:=rm.A6;have Hp:fs.length=b.A6.length:=by rw[<-d,An]
 obtain⟨u,n,QT,r2,hu⟩:=f30 (h:=h1) (id:=bi) (o:=3) (l:=fs) ⟨c,w1.qX,hf⟩ Ab (bt d λx hx=>((rm.DE x hx).2).1) (e:=⟨⟨b.a.len+1,nm,l⟩,av,hv⟩) (by unfold ZL;have:=hl.1;simp only;omega);refine⟨_,j,u,k,?_,w1.Kr (u:=u),?_,g.trans Bg⟩
 .obtain⟨C,B,A,z,y,v,s,q,VH,TK,rfl⟩:=hr;have Zi:¬(b.a.len+1=0):=by unfold Ar.len;omega
  have f:BL cx 170 [Pt bi 3,.agg [I (b.a.len+1),.str nm,av]] h1 (.tuple []) (put h1 bi 3 u):=r2;have Zg:av.cells=[av]:=AU.cells hv;rw[Ae,uP];simp only[abS,Nat.reduceLeDiff,↓reduceIte,AR,i.Ac,Zi,BW,Zg,f.Ac]
 .refine⟨_,?_,hu⟩;rw[pE QT,d];unfold BS.Ko;simp only;rw[EU]
end
def aHL:∀x:Fin 64,(BitVec.ofInt 8 192|||BitVec.ofInt 8 (x.val:Int)).toNat=192+x.val:=AM
def aHM:∀x:Fin 32,(BitVec.ofInt 8 224|||BitVec.ofInt 8 (x.val:Int)).toNat=224+x.val:=AM
def aHN:∀x:Fin 16,(BitVec.ofInt 8 240|||BitVec.ofInt 8 (x.val:Int)).toNat=240+x.val:=AM
def aHO:∀x:Fin 64,(BitVec.ofInt 8 128|||BitVec.ofInt 8 (x.val:Int)).toNat=128+x.val:=AM
def aHP:∀x:Fin 256,(BitVec.ofInt 8 (x.val:Int)&&& BitVec.ofInt 8 63).toNat=x.val%64:=AM
def bu{a b:Int}:AD (.int .or) [.int .u8 a,.int .u8 b]=some (.int .u8 (IntKind.u8.wrap (BitVec.ofInt 8 a|||BitVec.ofInt 8 b).toNat)):=rfl
def aDH{a b:Int}:AD (.int .and) [.int .u8 a,.int .u8 b]=some (.int .u8 (IntKind.u8.wrap (BitVec.ofInt 8 a&&& BitVec.ofInt 8 b).toNat)):=rfl
def x_{x:Nat}(h:x<64):AD (.int .or) [.int .u8 192,.int .u8 (x:Int)]=some (.int .u8 ((192+x:Nat):Int)):=by rw[bu,aHL ⟨x,h⟩,IntKind.wrap_u8];congr 2;simp only;omega
def pF{x:Nat}(h:x<32):AD (.int .or) [.int .u8 224,.int .u8 (x:Int)]=some (.int .u8 ((224+x:Nat):Int)):=by rw[bu,aHM ⟨x,h⟩,IntKind.wrap_u8];congr 2;simp only;omega
def ya{x:Nat}(h:x<16):AD (.int .or) [.int .u8 240,.int .u8 (x:Int)]=some (.int .u8 ((240+x:Nat):Int)):=by rw[bu,aHN ⟨x,h⟩,IntKind.wrap_u8];congr 2;simp only;omega
def Lx{x:Nat}(h:x<64):AD (.int .or) [.int .u8 128,.int .u8 (x:Int)]=some (.int .u8 ((128+x:Nat):Int)):=by rw[bu,aHO ⟨x,h⟩,IntKind.wrap_u8];congr 2;simp only;omega
def Ly{x:Nat}(h:x<256):AD (.int .and) [.int .u8 (x:Int),.int .u8 63]=some (.int .u8 ((x%64:Nat):Int)):=by rw[aDH,aHP ⟨x,h⟩,IntKind.wrap_u8];congr 2;simp only;omega
def WT{n:Nat}:AD (.int .shr) [.int .i32 (n:Int),.int .u64 6]=some (.int .i32 ((n/64:Nat):Int)):=by rw[show AD (.int .shr) [.int .i32 (n:Int),.int .u64 6]=some (.int .i32 ((n:Int).fdiv 64)) from rfl,Qg _ Ab];rfl
def YV{n:Nat}:AD (.int .shr) [.int .i32 (n:Int),.int .u64 12]=some (.int .i32 ((n/4096:Nat):Int)):=by rw[show AD (.int .shr) [.int .i32 (n:Int),.int .u64 12]=some (.int .i32 ((n:Int).fdiv 4096)) from rfl,Qg _ Ab];rfl
def yb{n:Nat}:AD (.int .shr) [.int .i32 (n:Int),.int .u64 18]=some (.int .i32 ((n/262144:Nat):Int)):=by rw[show AD (.int .shr) [.int .i32 (n:Int),.int .u64 18]=some (.int .i32 ((n:Int).fdiv 262144)) from rfl,Qg _ Ab];rfl
def Uk{k:IntKind}{n:Nat}:AD (.conv .u8) [.int k (n:Int)]=some (.int .u8 ((n%256:Nat):Int)):=by rw[Qt,IntKind.wrap_u8];congr 2
def kL{n:Int}:AD (.conv .u32) [.int .i32 n]=some (.int .u32 (n%4294967296)):=by rw[Qt,IntKind.wrap_u32]
def bN{n:Nat}(h:n<256):((UInt8.ofNat n).toNat:Int)=(n:Int):=by rw[UInt8.toNat_ofNat'];congr 1;omega
def F_(b:UInt8):Aa:= .int .u8 (b.toNat:Int)
def KU{h:Ah}{bs:Ai}(hb:bs≠[])(hl:bs.length<=8):Gb h 1 1 .slnil (.sl 1 (Cf bs))=some (h++[.cells (bs.map F_)],.CF h.length 0 bs.length 1):=by
 have Hp:∀bs:Ai,(Cf bs).flatten=bs.map F_:=by
  intro bs;induction bs with
  |nil=>rfl
  |cons c bs ih=>show[F_ c]++(Cf bs).flatten=_;rw[ih];rfl
 cases bs with
 |nil=>exact absurd rfl hb
 |cons c bs=>
  have hm:AX=140737488355328:=rfl;have hlen:(Cf (c::bs)).length=(c::bs).length:=by simp[Cf]
  have e:Cf (c::bs)=[.int .u8 c.toNat]::Cf bs:=rfl;have a:GZ h 1 (.sl 1 (Cf (c::bs)))=some (Cf (c::bs)):=by simp[GZ]
  unfold Gb;rw[a,e];simp only
  rw[<-e,Af (by rw[hlen];omega),Hp,hlen]
def aMW{h:Ah}(r:Int)(hr: -2147483648<=r/\r<=2147483647):BL cx 174 [.slnil,.int .i32 r] h (.CF h.length 0 (HR r).length 1) (h++[.cells ((HR r).map F_)]):=by
 have one:∀{a:Nat} (h1:a<256),AD (.Dm 1) [.int .u8 (a:Int)]=some (.sl 1 (Cf [UInt8.ofNat a])):=by intro a h1;simp only[Cf,Bl,Dn,bN h1];rfl
 have QR:∀{a b:Nat} (h1:a<256) (h2:b<256),AD (.Dm 1) [.int .u8 (a:Int),.int .u8 (b:Int)]=some (.sl 1 (Cf [UInt8.ofNat a,UInt8.ofNat b])):=by intro a b h1 h2;simp only[Cf,Bl,Dn,bN h1,bN h2];rfl
 have UF:∀{a b c:Nat} (h1:a<256) (h2:b<256) (d:c<256),AD (.Dm 1) [.int .u8 (a:Int),.int .u8 (b:Int),.int .u8 (c:Int)]=some (.sl 1 (Cf [UInt8.ofNat a,UInt8.ofNat b,UInt8.ofNat c])):=by intro a b c h1 h2 d;simp only[Cf,Bl,Dn,bN h1,bN h2,bN d];rfl
 have four:∀{a b c f:Nat} (h1:a<256) (h2:b<256) (d:c<256) (i:f<256),AD (.Dm 1) [.int .u8 (a:Int),.int .u8 (b:Int),.int .u8 (c:Int),.int .u8 (f:Int)]=some (.sl 1 (Cf [UInt8.ofNat a,UInt8.ofNat b,UInt8.ofNat c,UInt8.ofNat f])):=by intro a b c f h1 h2 d i;simp only[Cf,Bl,Dn,bN h1,bN h2,bN d,bN i];rfl
 have bad:AD (.Dm 1) [.int .u8 239,.int .u8 191,.int .u8 189]=some (.sl 1 (Cf [239,191,189])):=rfl;rw[Ae,fY];simp only[BD,kL];by_cases h0:0<=r
 .obtain⟨n,rfl⟩:=IV h0;have em:(n:Int)%4294967296=(n:Int):=Ab;rw[em];by_cases q:n<128
  .have e:HR (n:Int)=[UInt8.ofNat n]:=by unfold HR;rw[Af Ab];rfl
   have j:n%256=n:=Ab;rw[e];simp only[BD,lO,(Ab:(n:Int)<=127),Uk,j,one (Ab:n<256),KU (bs:=[UInt8.ofNat n]) AH AH]
  .have aDI:BL cx 321 [.slnil,.int .i32 (n:Int)] h (.CF h.length 0 (HR (n:Int)).length 1) (h++[.cells ((HR (n:Int)).map F_)]):=by
    rw[Ae,WK];simp only[BD,kL,em];by_cases p:n<2048
    .have e:HR (n:Int)=[UInt8.ofNat (192+n/64),UInt8.ofNat (128+n%64)]:=by unfold HR;rw[Ad Ab,Af Ab];rfl
     rw[e];have a1:n/64%256=n/64:=Ab;have a2:n%256%64=n%64:=Ab;simp only[BD,lO,(Ab:(n:Int)<=2047),WT,Uk,a1,x_ (Ab:n/64<64),Ly (Ab:n%256<256),a2,Lx (Ab:n%64<64),QR (Ab:192+n/64<256) (Ab:128+n%64<256),KU (bs:=[UInt8.ofNat (192+n/64),UInt8.ofNat (128+n%64)]) AH AH]
    .by_cases o:n<65536/\¬(55296<=n/\n<57344)
     .have e:HR (n:Int)=[UInt8.ofNat (224+n/4096),UInt8.ofNat (128+n/64%64),UInt8.ofNat (128+n%64)]:=by unfold HR;rw[Ad Ab,Ad Ab,Af Ab];rfl
      rw[e];have a1:n/4096%256=n/4096:=Ab;have a2:n/64%256%64=n/64%64:=Ab;have a3:n%256%64=n%64:=Ab;have g:=KU (h:=h) (bs:=[UInt8.ofNat (224+n/4096),UInt8.ofNat (128+n/64%64),UInt8.ofNat (128+n%64)]) AH AH;have t3:=UF (Ab:224+n/4096<256) (Ab:128+n/64%64<256) (Ab:128+n%64<256);by_cases m:n<55296;.simp only[abS,(Ab:¬(n:Int)<=2047),(Ab:(n:Int)<55296),WT,YV,Uk,a1,pF (Ab:n/4096<32),Ly (Ab:n/64%256<256),a2,Lx (Ab:n/64%64<64),Ly (Ab:n%256<256),a3,Lx (Ab:n%64<64),t3,g]
      .simp only[abS,(Ab:¬(n:Int)<=2047),(Ab:¬(n:Int)<55296),(Ab:(57343:Int)<n),(Ab:(n:Int)<=65535),WT,YV,Uk,a1,pF (Ab:n/4096<32),Ly (Ab:n/64%256<256),a2,Lx (Ab:n/64%64<64),Ly (Ab:n%256<256),a3,Lx (Ab:n%64<64),t3,g]
     .by_cases l:65536<=n/\n<=1114111
      .have e:HR (n:Int)=[UInt8.ofNat (240+n/262144),UInt8.ofNat (128+n/4096%64),UInt8.ofNat (128+n/64%64),UInt8.ofNat (128+n%64)]:=by unfold HR;rw[Ad Ab,Ad Ab,Ad Ab,Af Ab];rfl
       rw[e];have a0:n/262144%256=n/262144:=Ab;have a1:n/4096%256%64=n/4096%64:=Ab;have a2:n/64%256%64=n/64%64:=Ab;have a3:n%256%64=n%64:=Ab;have g:=KU (h:=h) (bs:=[UInt8.ofNat (240+n/262144),UInt8.ofNat (128+n/4096%64),UInt8.ofNat (128+n/64%64),UInt8.ofNat (128+n%64)]) AH AH;have t4:=four (Ab:240+n/262144<256) (Ab:128+n/4096%64<256) (Ab:128+n/64%64<256) (Ab:128+n%64<256);simp only[abS,(Ab:¬(n:Int)<=2047),(Ab:¬(n:Int)<55296),(Ab:(57343:Int)<n),(Ab:¬(n:Int)<=65535),(Ab:(65535:Int)<n),(Ab:(n:Int)<=1114111),WT,YV,yb,Uk,a0,ya (Ab:n/262144<16),Ly (Ab:n/4096%256<256),a1,Lx (Ab:n/4096%64<64),Ly (Ab:n/64%256<256),a2,Lx (Ab:n/64%64<64),Ly (Ab:n%256<256),a3,Lx (Ab:n%64<64),t4,g]
      .have e:HR (n:Int)=[239,191,189]:=by unfold HR;rw[Ad Ab,Ad Ab,Ad Ab,Ad Ab]
       rw[e];have g:=KU (h:=h) (bs:=[239,191,189]) AH AH;by_cases k:n<65536;.simp only[abS,(Ab:¬(n:Int)<=2047),(Ab:¬(n:Int)<55296),(Ab:¬(57343:Int)<n),(Ab:¬(65535:Int)<n),bad,g]
       .simp only[abS,(Ab:¬(n:Int)<=2047),(Ab:¬(n:Int)<55296),(Ab:(57343:Int)<n),(Ab:¬(n:Int)<=65535),(Ab:(65535:Int)<n),(Ab:¬(n:Int)<=1114111),bad,g]
   simp only[abS,(Ab:¬(n:Int)<=127),aDI.Ac]
 .have e:HR r=[239,191,189]:=by unfold HR;rw[Ad Ab,Ad Ab,Ad Ab,Ad Ab]
  have g:=KU (h:=h) (bs:=[239,191,189]) AH AH;have aDI:BL cx 321 [.slnil,.int .i32 r] h (.CF h.length 0 (HR r).length 1) (h++[.cells ((HR r).map F_)]):=by rw[e,Ae,WK];simp only[abS,kL,(Ab:¬(r%4294967296)<=2047),(Ab:¬(r%4294967296)<55296),(Ab:(57343:Int)<r%4294967296),(Ab:¬(r%4294967296)<=65535),(Ab:(65535:Int)<r%4294967296),(Ab:¬(r%4294967296)<=1114111),bad,g]
  simp only[abS,(Ab:¬(r%4294967296)<=127),aDI.Ac]
def Tf(r:Int):(HR r).length<=4:=by unfold HR;split<;>(try split)<;>(try split)<;>(try split)<;>simp
def pG{l:List Int}{bf:Int}(hb:bf≠0->bf∈l):∃i,i<=l.length/\(bf=0->i=l.length)/\(bf≠0->Cn (λy=>decide (bf=y)) 0 l=(i:Int))/\Ud l bf=if i=0 then none else l[i-1]?:=by
 by_cases h0:bf=0
 .refine⟨l.length,Ag _,λ_=>rfl,λh=>absurd h0 h,?_⟩;unfold Ud;rw[Af h0,KJ];split;.rename_i h;rw[Ec Ab]
  .rfl
 .obtain⟨k,j,e,g,d,f⟩:=kK (hb h0);refine⟨k,Ab,λh=>absurd h h0,λ_=>e,?_⟩;unfold Ud;rw[Ad h0,d,KJ,Aw,Cs Ab];split;.rename_i h;subst h;simp
  .rw[Ci];rw[Af Ab]
def kM{s u:Ai}(h:s.length+u.length<=2000000000):AD (.str .add) [.str s,.str u]=some (.str (s++u)):=by have:s.length+u.length<=9223372036854775807:=Ab;simp[AD,lS,this]
def bO:∀s:Ai,(Cf s).flatten=s.map F_
 |[]=>rfl
 |c::s=>by show[F_ c]++(Cf s).flatten=_;rw[bO s];rfl
section
variable{h h':Ah}{bi a:Nat}{o c t:Aa}{G G' F:Nat->Prop}{b:BS}{x:Int}{m:Nat}
variable{nm:Ai}{av:Aa}{l:List A5}{r:List Aa}{sp p:Int}
def kN{k d:Int}{s:Ai}(ok:Ey b)(rm:B6 b (m+1))(hk:k=5\/k=6)(hd:b.a.has d/\(b.a.nd d).kind=1)(hs:s.length<=100000):Ey {b with a:=b.a.add {kind:=k,CQ:=d,data:=s}}/\B6 {b with a:=b.a.add {kind:=k,CQ:=d,data:=s}} m:=
 ⟨ok.KD (eU ok.ok (by unfold Ar.len;omega) hd hk) uA,rm.JI (k:=1) (NZ (AV _) hs)⟩
def aHQ(w:BX h bi a o c t G b)(ok:Ey b)(rm:B6 b (m+5))(r:Int)(hr: -2147483648<=r/\r<=2147483647):
  ∃h' G',BL cx 69 [Pt bi 0,.int .i32 r] h (.tuple []) h'/\BX h' bi a o c t G' (b.VL r)/\DC h (Bu bi G) h' (Bu bi G'):=by
 obtain⟨f,D⟩:=Ř w ok rm 0;obtain⟨hp,hbf⟩:=Yq ok (t:=0) (.inl rfl);have w1:=w.HJ (u:=f);unfold BS.VL;generalize(b.place 0).1=p at*;generalize(b.place 0).2=bf at*;obtain⟨K,V,d,r2,X,_⟩:=VW w1 ok rm p;have Z:=w1.HJ (u:=d);have x2:DC h (Bu bi G) (h++f++d) (Bu bi G):=w.C6.trans w1.C6;unfold BS.LK;by_cases hk:(b.a.nd p).kind=4\/(b.a.nd p).kind=2;rotate_left
 .refine⟨_,G,?_,?_,x2⟩;.have k4:¬(b.a.nd p).kind=4:=λe=>hk (.inl e);have k2:¬(b.a.nd p).kind=2:=λe=>hk (.inr e);rw[Ae,Uf];simp only[abS,(Iy w).Ac,D.Ac,r2.Ac,BW,k4,k2]
  .rw[Ad hk];exact Z
 rw[Af hk];obtain⟨i,hi,vC,VI,hpv⟩:=pG (l:=(b.a.nd p).Bb) (bf:=bf) (λh=>by have:=hbf h;have h2:=(ok.ok.FM bf this.1 (by rw[this.2];have:=hp.1;omega)).2;rwa [this.2] at h2);rw[hpv];have Ql:=rm.Zm.Bb ok.ok p;have H:=aDB (h:=h++f++d) (x:=bf) X.RS Ql;have g:=aMW (h:=h++f++d) r hr;have lK:=Tf r;generalize hs:HR r=s at*;have f3:KA (h++f++d++[.cells (s.map F_)]) (.CF (h++f++d).length 0 s.length 1)=some (h++f++d++[.CR],.sl 1 (Cf s)):=by have Hp:=bO s;have:=J0 (h:=h++f++d++[.cells (s.map F_)]) (id:=(h++f++d).length) (z:=1) (AE:=Cf s) (by intro q hq;obtain⟨y,_,rfl⟩:=Bk.1 hq;rfl) (by rw[Hp];simp);rw[show(Cf s).length=s.length by simp[Cf]] at this;rw[this];congr 2;rw[BO _ _ (Ag _),De];rfl
 have b3:AD .WV [.sl 1 (Cf s)]=some (.str s):=by simp[AD,WX,RJ]
 have A:=Z.HJ (u:=[.CR]);have x3:DC h (Bu bi G) (h++f++d++[.CR]) (Bu bi G):=x2.trans Z.C6;have kO:=ok.ok.CQ p hp;have new:∀h3,(∃u,h3=h++f++d++[.CR]++u)->∃h' J G',BL cx 176 [Pt a 0,I (b.a.nd p).CQ,.str s] h3 (.tuple [I (b.a.len+1),I 0]) J/\BL cx 159 [Pt bi 0,I (b.a.len+1),I p,I bf] J (.tuple []) h'/\BX h' bi a o c t G' {b with a:=(b.a.add {kind:=5,CQ:=(b.a.nd p).CQ,data:=s}).Ex (b.a.len+1) p bf}/\DC h (Bu bi G) h' (Bu bi G'):=by
  rintro _ ⟨u,rfl⟩;have w4:=A.HJ (u:=u);obtain⟨J,G4,⟨C,_⟩,w5,x5⟩:=w4.step (A':=b.a.add (Mx 5 (b.a.nd p).CQ s).x) (R:=λh'=>BL cx 176 [Pt a 0,I (b.a.nd p).CQ,.str s] (h++f++d++[.CR]++u) (.tuple [I (b.a.len+1),I 0]) h'/\True) (λn m ps S=>by obtain⟨h',r,wp,o1,l1⟩:=aMA (s:=s) S rm.Zm (by have:=rm.n;unfold Ar.len;omega) kO;exact⟨h',_,_,_,⟨r,trivial⟩,wp,S.Td rfl o1 l1⟩)
  obtain⟨ok5,rm5⟩:=kN (m:=m) (k:=5) (s:=s) ok (rm.le Ab) (.inl rfl) kO Ab;obtain⟨h',G',B,N,L⟩:=pD (x:=b.a.len+1) (p:=p) (bf:=bf) w5 ok5.ba rm5;exact⟨h',J,G',C,B,N,(x3.trans A.C6).trans (x5.trans L)⟩
 have kl:=(X.RS (h:=h++f++d)).len;have OX:i<=1000000000:=Ab;by_cases hz:i=0
 .subst hz;obtain⟨h',J,G',C,B,N,L⟩:=new (h++f++d++[.CR]) ⟨[],AH⟩;simp only[↓reduceIte];refine⟨h',G',?_,N,L⟩;rw[Ae,Uf];rcases hk with hk|hk<;>by_cases h0:bf=0
  all_goals first|(rw[<-vC h0] at kl;simp only[abS,(Iy w).Ac,D.Ac,r2.Ac,hk,BW,Cy,(AM:¬(2:Int)=4),kl,AQ h0,g.Ac,f3,b3,(AM:¬(0:Int)<((0:Nat):Int)),A.l0,C.Ac,Cy,B.Ac];done)|(rw[VI h0] at H;simp only[abS,(Iy w).Ac,D.Ac,r2.Ac,hk,BW,Cy,(AM:¬(2:Int)=4),kl,h0,g.Ac,f3,b3,(AM:¬(0:Int)<((0:Nat):Int)),A.l0,C.Ac,Cy,B.Ac,H.Ac])
 .obtain⟨j,rfl⟩:∃j,i=j+1:=⟨i-1,Ab⟩;have hj:j<(b.a.nd p).Bb.length:=Ab;rw[Ad hz,E8,Al hj];simp only
  have ht:=ok.ok.M4 p hp _ (AL hj);obtain⟨q,Q,Y⟩:=(X.RS (h:=h++f++d++[.CR])).at_ j hj;obtain⟨K7,V7,T,W,_,_⟩:=VW A ok rm (b.a.nd p).Bb[j];have M:=A.HJ (u:=T);obtain⟨q',P,O⟩:=(X.RS (h:=h++f++d++[.CR]++T)).at_ j hj;rw[Q,BB] at P;subst P;have U:AD (.int .sub) [I ((j+1:Nat):Int),I 1]=some (I (j:Int)):=by have:=Il (n:=j+1) Ab Ab;simpa using this
  generalize hte:(b.a.nd p).Bb[j]=v at*;by_cases E:(b.a.nd v).kind=5
  .rw[Af E];have qV:=rm.data v;obtain⟨h8,G8,⟨r8,_⟩,w8,x8⟩:=M.step (A':=b.a.S2 v ((b.a.nd v).data++s)) (R:=λh'=>BL cx 175 [Pt a 0,I v,.str ((b.a.nd v).data++s)] (h++f++d++[.CR]++T) (I 0) h'/\True) (λn m ps S=>by obtain⟨h',JA,r,wp,xp⟩:=aMB (s:=(b.a.nd v).data++s) S rm.Zm ht.1 E;exact⟨h',n,m,JA,⟨r,trivial⟩,wp,xp⟩)
   refine⟨h8,G8,?_,w8,(x3.trans A.C6).trans x8⟩;rw[Ae,Uf];rcases hk with hk|hk<;>by_cases h0:bf=0
   all_goals first|(rw[<-vC h0] at kl;simp only[abS,(Iy w).Ac,D.Ac,r2.Ac,hk,BW,Cy,(AM:¬(2:Int)=4),kl,AQ h0,g.Ac,f3,b3,(Ab:(0:Int)<((j+1:Nat):Int)),U,Q,Y,W.Ac,E,M.l0,O,kM (Ab:(b.a.nd v).data.length+s.length<=2000000000),Cy,r8.Ac];done)|(rw[VI h0] at H;simp only[abS,(Iy w).Ac,D.Ac,r2.Ac,hk,BW,Cy,(AM:¬(2:Int)=4),kl,h0,g.Ac,f3,b3,(Ab:(0:Int)<((j+1:Nat):Int)),U,Q,Y,W.Ac,E,M.l0,O,kM (Ab:(b.a.nd v).data.length+s.length<=2000000000),Cy,r8.Ac,H.Ac])
  .rw[Ad E];obtain⟨h',J,G',C,B,N,L⟩:=new _ ⟨T,rfl⟩;refine⟨h',G',?_,N,L⟩;rw[Ae,Uf];rcases hk with hk|hk<;>by_cases h0:bf=0
   all_goals first|(rw[<-vC h0] at kl;simp only[abS,(Iy w).Ac,D.Ac,r2.Ac,hk,BW,Cy,(AM:¬(2:Int)=4),kl,AQ h0,g.Ac,f3,b3,(Ab:(0:Int)<((j+1:Nat):Int)),U,Q,Y,W.Ac,E,M.l0,C.Ac,Cy,B.Ac];done)|(rw[VI h0] at H;simp only[abS,(Iy w).Ac,D.Ac,r2.Ac,hk,BW,Cy,(AM:¬(2:Int)=4),kl,h0,g.Ac,f3,b3,(Ab:(0:Int)<((j+1:Nat):Int)),U,Q,Y,W.Ac,E,M.l0,C.Ac,Cy,B.Ac,H.Ac])
def My{s:Ai}{p bf x:Int}{h0 h1:Ah}(hstart:(¬x=0/\p=x/\bf=0/\h1=h0)\/(x=0/\BL cx 171 [Pt bi 0,I 0] h0 (.tuple [I p,I bf]) h1))
  (w0:BX h0 bi a o c t G b) (i:DC h0 (Bu bi G) h1 (Bu bi G)) (w:BX h1 bi a o c t G b) (ok:Ey b) (rm:B6 b (m+1)) (hs:s.length<=100000):
  ∃h' G',BL cx 70 [Pt bi 0,.str s,I x] h0 (.tuple []) h'/\BX h' bi a o c t G' {b with a:=BS.E1 b.a s p bf}/\DC h0 (Bu bi G) h' (Bu bi G'):=by
 obtain⟨K,V,q,r2,L,_⟩:=VW w ok rm p;have d:=w.HJ (u:=q);unfold BS.E1;by_cases hk:Ls (b.a.nd p).kind
 .rw[Af hk];have hp:b.a.has p:=by
   by_cases hp:b.a.has p;.exact hp
   .rw[HK hp] at hk;unfold Ls at hk;simp at hk
  have kO:=ok.ok.CQ p hp;obtain⟨M,N,⟨y,_⟩,H,D⟩:=d.step (A':=b.a.add (Mx 6 (b.a.nd p).CQ s).x) (R:=λh'=>BL cx 177 [Pt a 0,I (b.a.nd p).CQ,.str s] (h1++q) (.tuple [I (b.a.len+1),I 0]) h'/\True) (λn m ps j=>by obtain⟨h',r,wp,J,l1⟩:=aHh (s:=s) j rm.Zm (by have:=rm.n;unfold Ar.len;omega) kO;exact⟨h',_,_,_,⟨r,trivial⟩,wp,j.Td rfl J l1⟩)
  obtain⟨g,e⟩:=kN (m:=m) (k:=6) (s:=s) ok rm (.inr rfl) kO hs;obtain⟨h',G',v,E,C⟩:=pD (x:=b.a.len+1) (p:=p) (bf:=bf) H g.ba e;refine⟨h',G',?_,E,(i.trans w.C6).trans (D.trans C)⟩;rw[Ae,eY];rcases hstart with⟨hx,rfl,rfl,rfl⟩|⟨hx,f⟩
  .rcases hk with hk|hk|hk<;>simp only[abS,(Iy w0).Ac,r2.Ac,hk,BW,Cy,(AM:¬(2:Int)=1),(AM:¬(4:Int)=1),(AM:¬(4:Int)=2),d.l0,y.Ac,v.Ac,hx]
  .rcases hk with hk|hk|hk<;>simp only[abS,(Iy w0).Ac,r2.Ac,hk,BW,Cy,(AM:¬(2:Int)=1),(AM:¬(4:Int)=1),(AM:¬(4:Int)=2),d.l0,y.Ac,v.Ac,AQ hx,f.Ac]
 .rw[Ad hk];refine⟨_,G,?_,d,i.trans w.C6⟩;unfold Ls at hk;have B:¬(b.a.nd p).kind=1:=Ab;have A:¬(b.a.nd p).kind=2:=Ab;have z:¬(b.a.nd p).kind=4:=Ab;rw[Ae,eY];rcases hstart with⟨hx,rfl,rfl,rfl⟩|⟨hx,f⟩
  .simp only[abS,(Iy w0).Ac,r2.Ac,BW,B,A,z,hx]
  .simp only[abS,(Iy w0).Ac,r2.Ac,BW,B,A,z,AQ hx,f.Ac]
def aHS(w:BX h bi a o c t G b)(ok:Ey b)(rm:B6 b (m+1))(s:Ai)(hs:s.length<=100000)(x:Int):
  ∃h' G',BL cx 70 [Pt bi 0,.str s,I x] h (.tuple []) h'/\BX h' bi a o c t G' (b.Hq s x)/\DC h (Bu bi G) h' (Bu bi G'):=by
 unfold BS.Hq;by_cases h0:x=0;.rw[Af h0];obtain⟨d,e⟩:=Ř w ok rm 0;exact My (p:=(b.place 0).1) (bf:=(b.place 0).2) (.inr ⟨h0,e⟩) w w.C6 (w.HJ (u:=d)) ok rm hs
 .rw[Ad h0];exact My (p:=x) (bf:=0) (.inl ⟨h0,rfl,rfl,rfl⟩) w .refl w ok rm hs
def aHT(w:BX h bi a o c t G b)(ok:BA b)(rm:B6 b (m+4))(hr:N2 nm av r)(hv:Bt l av)(hl:DL l)(hn:nm.length<=1000)(st:Int):
  ∃h' o' G',BL cx 71 [Pt bi 0,.agg r,I st] h (.tuple []) h'/\BX h' bi a o' c t G' (b.HS nm l st)/\DC h (Bu bi G) h' (Bu bi G'):=by
 obtain⟨h1,d,e,u,w1,i⟩:=xz w ok rm hr hv hl hn;have s:=w1.st (k:=18) (v:= I st) rfl rfl;have g:BX (put h1 bi 18 (I st)) bi a d c t e {b.EF nm l 1 with sw:=st}:=w1.put rfl rfl w1.o w1.t;have q:=g.st (k:=5) (v:= I (b.EF nm l 1).mode) rfl rfl;have f:BX (put (put h1 bi 18 (I st)) bi 5 (I (b.EF nm l 1).mode)) bi a d c t e {b.EF nm l 1 with sw:=st,S0:=(b.EF nm l 1).mode}:=g.put rfl rfl w1.o w1.t;have n:=f.st (k:=4) (v:=I 8) rfl rfl;have j:BX (put (put (put h1 bi 18 (I st)) bi 5 (I (b.EF nm l 1).mode)) bi 4 (I 8)) bi a d c t e (b.HS nm l st):=f.put rfl rfl w1.o w1.t;refine⟨_,d,e,?_,j,((i.trans Bg).trans Bg).trans Bg⟩;obtain⟨H,E,D,C,B,A,z,y,VH,TK,rfl⟩:=hr;rw[Ae,uQ];simp only[BD,(Iy w).Ac,u.Ac,w1.l4,s,q,n]
def aHU(w:BX h bi a o c t G b)(rm:B6 b m):
  ∃h' o',BL cx 72 [Pt bi 0] h (.tuple []) h'/\BX h' bi a o' c t G b.F7/\DC h (Bu bi G) h' (Bu bi G):=by
 have ho:=rm.AN;have d:=aGW w.sA (Ab:b.AN.length<=1000000000) 3 (v:= .sl 1 ([wP].map Cr)) (ws:=[wP]) Cc AM;have em:AD (.Dm 1) [S [112]]=some (.sl 1 ([wP].map Cr)):=DR (ws:=[wP]) rfl AM;unfold BS.F7;by_cases hs:HI (Bn [wP]) (Hw 3) b.AN.reverse=true;.rw[Af hs];rw[hs] at d;obtain⟨g,r2,O9⟩:=aDx w.sO Ab wP;have w1:=w.HU O9;have En:=Qx (b:=C2 wP) (a:=Cu) (l:=b.AN);obtain⟨e,f,Jh⟩:=f66 w1.sO Dx (w:= .sl 1 ([wP].map Cr)) (ws:=[wP]) Cc AM;refine⟨_,e,?_,w1.HU Jh,Bg.trans Bg⟩;rw[Ae,eZ];simp only[BD,(Iy w).Ac,em,d.Ac,r2.Ac,f.Ac]
 .rw[Ad hs];rw[show HI (Bn [wP]) (Hw 3) b.AN.reverse=false by simpa using hs] at d;refine⟨h,o,?_,w,.refl⟩;rw[Ae,eZ];simp only[BD,(Iy w).Ac,em,d.Ac]
end
section
variable{h h':Ah}{bi a:Nat}{o c t:Aa}{G G' F:Nat->Prop}{b:BS}{x:Int}{m:Nat}
variable{nm:Ai}{av:Aa}{l:List A5}{r:List Aa}{sp p:Int}
def Tg{U:Type}{l:List U}{n:Nat}(hn:n<l.length):(l.take (n+1)).reverse=l[n]::(l.take n).reverse:=by rw[AB hn,Iz];rfl
def aDJ(w:BX h bi a o c t G b)(rm:B6 b m)(nm:Ai):
  ∃h' o',BL cx 74 [Pt bi 0,.str nm] h (.tuple []) h'/\BX h' bi a o' c t G (b.CO nm)/\DC h (Bu bi G) h' (Bu bi G):=by
 have ho:=rm.AN;have I2:Ev cx 74 [Pt bi 0,.str nm] h λr h'=>r= .tuple []/\∃o',BX h' bi a o' c t G (b.CO nm)/\DC h (Bu bi G) h' (Bu bi G):=by
  unfold Ev;rw[uS];simp only[abS,(Iy w).Ac,(VP w.sA).Ac,Da (Ab: -9223372036854775808<=(b.AN.length:Int)-1) (Ab:(b.AN.length:Int)-1<9223372036854775808)];refine Bi (λn:Nat=>[I ((n:Int)-1)]) (λn h1=>n<=b.AN.length/\(b.AN.reverse.find? λi=>Bn [nm] i||GS i)=((b.AN.take n).reverse.find? λi=>Bn [nm] i||GS i)/\h1=h) (λn=>n) b.AN.length rfl ⟨Ag _,by rw[Bx],rfl⟩ ?_;rintro n h1 ⟨hn,ha,rfl⟩;cases n with
  |zero=>
   have e:b.CO nm=b:=by unfold BS.CO;rw[ha];rfl
   simp only[abS,(Ab:¬(0:Int)<=((0:Nat):Int)-1)];exact⟨_,rfl,rfl,o,by rw[e];exact w,.refl⟩
  |succ n=>
   have hlt:n<b.AN.length:=Ab;have i1:((n+1:Nat):Int)-1=(n:Int):=Ab;have j:=YJ w.sA (n:Int);rw[Ih hlt] at j;have em:AD (.Dm 1) [.str nm]=some (.sl 1 ([nm].map Cr)):=DR (ws:=[nm]) rfl AH;have r2:=vH (ws:=[nm]) Cc AH b.AN[n] h1;rw[Tg hlt,FF] at ha;generalize hi:b.AN[n]=i at*;rw[Item.row] at r2;simp only[abS,E9,i1,(Ab:(0:Int)<=(n:Int)),j.Ac,em];have f:BL cx 162 [.agg i.row,.sl 1 ([nm].map Cr)] h1 (.bool (Bn [nm] i)) h1:=r2;rw[f.Ac,NR,CS];refine⟨λh2=>?_,λh2=>?_⟩
   .obtain⟨u,s,O9⟩:=aDx w.sO Ab nm;have w1:=w.HU O9;have En:=Qx (b:=C2 nm) (a:=Cu) (l:=b.AN);obtain⟨k,q,Jh⟩:=aG3 w1.sO Dx i.node;simp only[BD,s.Ac,q.Ac];refine⟨_,rfl,rfl,k,?_,Bg.trans Bg⟩;have e:b.CO nm={b with AN:=GU i.node (Dq (C2 nm) Cu b.AN)}:=by unfold BS.CO;rw[ha];simp only[h2,Uz,BN]
    rw[e];exact w1.HU Jh
   .simp only[h2,Hl] at ha;simp only[(aGN i.Bc i.name).B7 rfl rfl];rw[NR,CS];refine⟨λg=>?_,λg=>?_⟩
    .have d:GS i=true:=g;rw[d] at ha;have e:b.CO nm=b:=by unfold BS.CO;rw[ha];simp only[h2,Cj,DQ]
     simp only[BD];exact⟨_,rfl,rfl,o,by rw[e];exact w,.refl⟩
    .have d:GS i=false:=g;rw[d] at ha;simp only[BD,Da (Ab: -9223372036854775808<=(n:Int)-1) (Ab:(n:Int)-1<9223372036854775808)];exact AK.next n rfl ⟨Ab,ha,rfl⟩ Ab
 obtain⟨r,h',hr,rfl,o',w',x'⟩:=I2.ret;exact⟨h',o',hr,w',x'⟩
def aHV(w:BX h bi a o c t G b)(rm:B6 b m){k:Nat}(hk:k<=b.AN.length):BL cx 338 [Pt bi 0,I (k:Int)] h (I (BS.JE (b.AN.take k))) h:=by
 have ho:=rm.AN;rw[Ae,jD];simp only[BD,Da (Ab: -9223372036854775808<=(k:Int)-1) (Ab:(k:Int)-1<9223372036854775808)];refine Bi (λn:Nat=>[I 0,I ((n:Int)-1)]) (λn h1=>n<=k/\((b.AN.take k).reverse.find? λi=>Bn [AZ] i||Bn [E7] i)=((b.AN.take n).reverse.find? λi=>Bn [AZ] i||Bn [E7] i)/\h1=h) (λn=>n) k rfl ⟨Ag _,rfl,rfl⟩ ?_;rintro n h1 ⟨hn,ha,rfl⟩;cases n with
 |zero=>simp only[abS,(Ab:¬(0:Int)<=((0:Nat):Int)-1)];unfold BS.JE;rw[ha];rfl
 |succ n=>
  have hlt:n<b.AN.length:=Ab;have i1:((n+1:Nat):Int)-1=(n:Int):=Ab;have f:=YJ w.sA (n:Int);rw[Ih hlt] at f;have e:AD (.Dm 1) [S AZ]=some (.sl 1 ([AZ].map Cr)):=DR (ws:=[AZ]) rfl AM;have ky:AD (.Dm 1) [S E7]=some (.sl 1 ([E7].map Cr)):=DR (ws:=[E7]) rfl AM;have r2:=vH (ws:=[AZ]) Cc AM b.AN[n] h1;have g:=vH (ws:=[E7]) Cc AM b.AN[n] h1;rw[Tg hlt,FF] at ha;simp only[abS,i1,(Ab:(0:Int)<=(n:Int)),f.Ac,e,r2.Ac,ky,g.Ac,Da (Ab: -9223372036854775808<=(n:Int)-1) (Ab:(n:Int)-1<9223372036854775808)];rw[CS];refine⟨λh2=>?_,λh2=>?_⟩;.simp only[h2,Uz] at ha;unfold BS.JE;rw[ha];simp only[h2,BN]
  .simp only[h2,Hl] at ha;rw[CS];refine⟨λd=>?_,λd=>?_⟩;.rw[d] at ha;unfold BS.JE;rw[ha];simp only[h2,Cj,DQ]
   .rw[d] at ha;exact AK.next n rfl ⟨Ab,ha,rfl⟩ Ab
def vJ(r:Ai×Int):List Aa:=[.str r.1,I r.2]
def kP{z:Nat}{AE:List (List Aa)}{args:List Aa}(e:args=AE.map Aa.agg)(hz:∀r∈AE,r.length=z)(hl:AE.length*z<=16777216):AD (.Dm z) args=some (.sl z AE):=by
 subst e;have f:(AE.map Aa.agg).all (λa=>a.cells.length==z)=true:=by simp[Aa.cells];exact hz
 have d:(AE.map Aa.agg).map (·.cells)=AE:=by rw[List.map_map];exact List.map_id _
 rw[yG,f,d];simp[hl]
def yc{args:List Aa}(e:args=(Jz.map vJ).map Aa.agg):AD (.Dm 2) args=some (.sl 2 (Jz.map vJ)):=kP e (λr hr=>by obtain⟨x,_,rfl⟩:=Bk.1 hr;rfl) AM
def aHW:BL cx 337 [] h (.sl 2 (Jz.map vJ)) h:=by rw[Ae,jC];simp only[abS,Nat.reduceLeDiff,↓reduceIte,AR];exact(Ca (λz=>aR z λv=>[v]=[Aa.sl 2 (Jz.map vJ)]) (yc rfl)).mpr (by rw[NQ])
def QK{s:Ai}{i:Item}:Bn [s] i=decide (i.Bc=1/\i.name=s):=by unfold Bn;simp
def kz{i:Item}{k:Nat}:b.Hi i k=match Jz.find? λr=>Bn [r.1] i with
  |some r=>some r.2
  |none=>if Bn [Ld] i then some (BS.JE (b.AN.take k)) else if Bn [um,uo] i&&decide (0<k) then some 15 else if Bn [AZ] i then some (b.tm.getLast?.getD 7) else if Bn [Ri] i&&decide (0<k) then some 4 else if Bn [DI] i then some (if b.head=0 then 3 else 6) else if k=0 then some 7 else none:=by
 unfold BS.Hi;by_cases hs:i.Bc=1
 .rw[Af hs];have e:(λr:Ai×Int=>Bn [r.1] i)=λr=>decide (r.1=i.name):=by funext r;rw[QK,Dd];exact⟨λh=>h.2.symm,λh=>⟨hs,h.symm⟩⟩
  rw[e];cases hf:Jz.find? λr=>decide (r.1=i.name) with
  |some r=>rfl
  |none=>simp only[Bn,hs,MO,AS,KF,qO,BC,C0]
 .rw[Ad hs];have e:(λr:Ai×Int=>Bn [r.1] i)=λ_=>false:=by funext r;rw[QK,Ap (λh=>hs h.1)]
  rw[e];have d:Jz.find? (λ_=>false)=none:=AM;rw[d];simp only[Bn,hs,Zn,DH,Cj,DQ,zx]
def aHX(w:BX h bi a o c t G b)(rm:B6 b m)(i:Item){k:Nat}(hk:k<=b.AN.length):BL cx 190 [Pt bi 0,.agg i.row,I (k:Int)] h (.tuple [I ((b.Hi i k).getD 7),.bool (b.Hi i k).isSome]) h:=by
 have ho:=rm.AN;have R:=rm.tm;have xO:AU 2 (Jz.map vJ) (.sl 2 (Jz.map vJ)):= .mk;have C:=λws hw=>vH (ws:=ws) Cc hw i h;rw[kz,Ae,gL];have hlen:Jz.length=9:=rfl;have Q:=xO.CN;rw[hlen] at Q;simp only[BD,↓reduceIte,E9,aHW.Ac,Q];refine Bi (λn:Nat=>[I 0,ff,I (n:Int)]) (λn h1=>n<=9/\(Jz.find? λr=>Bn [r.1] i)=((Jz.drop n).find? λr=>Bn [r.1] i)/\h1=h) (λn=>9 -n) 0 rfl ⟨AV _,rfl,rfl⟩ ?_;rintro n h1 ⟨hn,ha,rfl⟩;rcases AP n 9 with hlt|Eg
 .have Tc:n<Jz.length:=hlt;have em:AD (.Dm 1) [.str Jz[n].1]=some (.sl 1 ([Jz[n].1].map Cr)):=DR (ws:=[Jz[n].1]) rfl AH;rw[AG Tc,FF] at ha;simp only[BD,Nat.reduceLeDiff,↓reduceIte,lO,(Ab:(n:Int)<((9:Nat):Int)),xO.BK Tc,vJ,em,(C [Jz[n].1] AH).Ac,BM (Ab:n<9223372036854775807)];rw[CS];refine⟨λh2=>?_,λh2=>?_⟩;.rw[h2] at ha;rw[ha];simp
  .rw[h2] at ha;exact AK.next (n+1) rfl ⟨hlt,ha,rfl⟩ Ab
 .have T:n=9:=by omega
  subst T;have ha:(Jz.find? λr=>Bn [r.1] i)=none:=ha;rw[ha];have q:AD (.Dm 1) [S aU7]=some (.sl 1 ([Ld].map Cr)):=DR (ws:=[Ld]) rfl AM;have s:AD (.Dm 1) [S [116,100],S [116,104]]=some (.sl 1 ([um,uo].map Cr)):=DR (ws:=[um,uo]) rfl AM;have u:AD (.Dm 1) [S aUd]=some (.sl 1 ([AZ].map Cr)):=DR (ws:=[AZ]) rfl AM;have J:AD (.Dm 1) [S aUv]=some (.sl 1 ([Ri].map Cr)):=DR (ws:=[Ri]) rfl AM;have L:AD (.Dm 1) [S aUi]=some (.sl 1 ([DI].map Cr)):=DR (ws:=[DI]) rfl AM;have f:=C [Ld] AM;have d:=C [um,uo] AM;have g:=C [AZ] AM;have y:=C [Ri] AM;have B:=C [DI] AM;have rs:=aHV w rm hk;have lt:=(w.t.1.RS (h:=h1));have j:¬((9:Nat):Int)<((9:Nat):Int):=AM;have l6:=w.l6;have H:b.tm≠[]->∃p,AD (.int .sub) [I (b.tm.length:Int),I 1]=some (I ((b.tm.length-1:Nat):Int))/\AD (.Fl 1) [t,I ((b.tm.length-1:Nat):Int)]=some p/\A8 h1 none p=some (I (b.tm.getLast?.getD 7)):=by intro hne;have hpos:=EH.2 hne;obtain⟨p,E,D⟩:=lt.at_ (b.tm.length-1) Ab;refine⟨p,Il hpos Ab,E,?_⟩;rw[D,KJ,Al Ab];rfl
  by_cases g1:Bn [Ld] i=true;.rw[g1] at f;simp only[abS,↓reduceIte,j,q,f.Ac,rs.Ac,g1,Fg,lI]
  .have g1:Bn [Ld] i=false:=by simpa using g1
   rw[g1] at f;by_cases A:0<k
   .have N:¬k=0:=by omega
    have z:¬(k:Int)=0:=Ab;have v:(0:Int)<(k:Int):=Ab;cases g2:Bn [um,uo] i<;>rw[g2] at d;rotate_left;.simp only[BD,↓reduceIte,j,q,f.Ac,s,d.Ac,A,v,g1,JZ]
    cases g3:Bn [AZ] i<;>rw[g3] at g;rotate_left
    .by_cases ht:b.tm=[];.simp only[BD,↓reduceIte,j,q,f.Ac,s,d.Ac,u,g.Ac,A,v,g1,JZ,l6,lt.len,ht,Int.natCast_zero,aAe,qP]
     .obtain⟨p,E,D,M⟩:=H ht;have Gc:¬b.tm.length=0:=λe=>ht (LV.1 e);simp only[BD,↓reduceIte,j,q,f.Ac,s,d.Ac,u,g.Ac,A,v,g1,JZ,l6,lt.len,(Ab:(0:Int)<(b.tm.length:Int)),E,D,M]
    cases P:Bn [Ri] i<;>rw[P] at y;rotate_left;.simp only[BD,↓reduceIte,j,q,f.Ac,s,d.Ac,u,g.Ac,J,y.Ac,A,v,g1,JZ]
    all_goals cases O:Bn [DI] i<;>rw[O] at B
    all_goals first
     |simp only[BD,↓reduceIte,j,q,f.Ac,s,d.Ac,u,g.Ac,J,y.Ac,L,B.Ac,A,N,z,v,g1,JZ];done
     |by_cases K:b.head=0
      .simp only[BD,↓reduceIte,j,q,f.Ac,s,d.Ac,u,g.Ac,J,y.Ac,L,B.Ac,A,z,v,g1,JZ,w.l7,K]
      .simp only[BD,↓reduceIte,j,q,f.Ac,s,d.Ac,u,g.Ac,J,y.Ac,L,B.Ac,A,z,v,g1,JZ,w.l7,K]
   .have N:k=0:=by omega
    subst N;have v:¬(0:Int)<((0:Nat):Int):=AM;have z:((0:Nat):Int)=0:=rfl;by_cases g3:Bn [AZ] i=true
    .rw[g3] at g;cases g2:Bn [um,uo] i<;>rw[g2] at d<;>by_cases ht:b.tm=[];all_goals first
      |simp only[BD,↓reduceIte,j,q,f.Ac,s,d.Ac,u,g.Ac,z,g1,g3,JZ,l6,lt.len,ht,aAe,qP,Dr];done
      |obtain⟨p,E,D,M⟩:=H ht
       have Gc:¬b.tm.length=0:=λe=>ht (LV.1 e);simp only[BD,↓reduceIte,j,q,f.Ac,s,d.Ac,u,g.Ac,z,g1,g3,JZ,l6,lt.len,(Ab:(0:Int)<(b.tm.length:Int)),E,D,M,Dr]
    .have g3:Bn [AZ] i=false:=by simpa using g3
     rw[g3] at g;cases g2:Bn [um,uo] i<;>rw[g2] at d<;>cases P:Bn [Ri] i<;>rw[P] at y<;>cases O:Bn [DI] i<;>rw[O] at B<;>by_cases K:b.head=0;all_goals simp only[BD,↓reduceIte,j,q,f.Ac,s,d.Ac,u,g.Ac,J,y.Ac,L,B.Ac,z,g1,g3,JZ,w.l7,K,Dr]
end
end Go.Am
end
