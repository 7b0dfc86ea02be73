/- Lemmas -/
import Derived.Test.YtffmdapalbecoaaGreatDoorO24
set_option linter.all false
set_option maxHeartbeats 0
set_option maxRecDepth 100000
open List renaming length→zz
open Nat renaming reduceLeDiff→zy
open Option renaming some→zx,none→zc
open UInt8 renaming ofNat→zw
open Go.Am.A9 renaming row→zu
open Go.Am.Aa renaming str→zt,tuple→zr,int→zo,bool→zh,slnil→zf,int→zd,map→za,agg→z6,func→yz
open Go.Am.Oc renaming int→zn
open Go.Am.AJ renaming next→zp
open Go.Am.DG renaming cells→zl,map→z0
open Bool renaming false→zj,true→z3
open BitVec renaming ofInt→zi
open Or renaming inr→ze,inl→zb
open Go.IntKind renaming wrap_u8→z2,i64→z8,u8→yt,i32→yq
open Go.Am.PN renaming row→z5
open Go.Am renaming put→z9
open Go.Fn renaming func→yx
open Go.Am.BS renaming If→yw,I0→yp
open Go.Am.Dm renaming normal→yr
open Go.Am.Ar renaming len→ys
section
namespace Go.Am
open Go
section
variable{h h':Ah}{a n:Nat}{m:Option Nat}{ps:List PN}{A:Ar}{x:Int}{F:Nat->Prop}
def PA.pw(w:PA h a n m ps A):PW h (λi=>i∈GH a n m ps) a A:=⟨n,m,ps,w,λ_=>Iff.rfl⟩
def N4.add{y:Fc}(b:N4 A)(h1:A.len+1<=1000000000)(h2:zz y.Aj<=1000000000)(c:zz y.data<=1000000000):N4 (A.add y):=by
 refine⟨?_,λx=>?_,λx=>?_⟩;.unfold ys at h1;simp[Ar.add];omega
 .rw[Jc];split;.exact h2
  .exact b.at_ x
 .rw[Jc];split;.exact c
  .exact b.data x
def N4.set{y:Fc}(b:N4 A)(h2:zz y.Aj<=1000000000)(c:zz y.data<=1000000000):N4 (A.set x y):=by
 refine⟨by rw[JV];exact b.n,λx=>?_,λx=>?_⟩<;>rw[Kf]<;>split;.exact h2
 .exact b.at_ x
 .exact c
 .exact b.data x
def aBS{x y:Fc}:(A.add x).set (A.len+1) y=A.add y:=by rw[Ar.set];rw[Af (D3.2 (ze rfl))];unfold Ar.add ys;have e:((zz A.n:Int)+1).toNat-1=zz A.n:=Ab;simp only[e];rw[BV _ _ (Ae _),Dl];rfl
def k_{p:PN}(w:PA h a n m ps A)(hx:A.has x)(hk:Ii p.kv=Ii (pN ps x).kv):GH a n m (ps.set (x.toNat-1) p)=GH a n m ps:=by let⟨c,b⟩:=Z6 w hx p;unfold GH;rw[b,E7,I3,hk];conv=>rhs;rw[c,E7,I3]
def PA.wr(w:PA h a n m ps A)(hx:A.has x){k:Nat}(hk:k<13){v:Aa}(hv:v.cells=[v]){p:PN}(hp:p.row=(pN ps x).row.set k v)(h1:p.kv=(pN ps x).kv)(h2:p.x.Be=(A.nd x).Be):
  ∃h',Cy h 1 (Pt n (nP n x+k)) v=zx h'/\PA h' a n m (ps.set (x.toNat-1) p) (A.set x p.x)/\GH a n m (ps.set (x.toNat-1) p)=GH a n m ps/\(∀i,i≠n->h'[i]?=h[i]?)/\zz h'=zz h:=by
 refine⟨_,w.sto hx hk hv hp rfl,w.vp hx (λi _ _=>rfl) (by rw[h1,h2];exact w.NJ hx) (zb (by rw[h1])),k_ w hx (by rw[h1]),λi hi=>by rw[Au (DY hi)],Br⟩
def PA.í(w:PA h a n m ps A){h1:Ah}{JK:List PN}{A':Ar}(w':PA h1 a n m JK A')(hi:GH a n m JK=GH a n m ps)(ho:∀i,i≠n->h1[i]?=h[i]?)(hl:zz h1=zz h):Du h (λi=>i∈GH a n m ps) h1 (λi=>i∈GH a n m JK):=
 ⟨Ab,λi _ hn=>ho i (λe=>hn (by rw[e];simp[GH])),λi Xz=> zb (by rwa [hi] at Xz)⟩
def Ld(q:Bool)(d:Int):PN:=⟨{kind:=1,Cs:=q,CF:=d},zf,zf,rfl⟩
def aPj(w:PA h a n m ps A)(o:N4 A)(hb:A.len+1<=1000000000)(q:Bool):
  ∃h',BK cx 57 [Pt a 0,zh q] h (I (A.len+1)) h'/\PA h' a (zz h) m (ps++[Ld q (A.len+1)]) (A.add {kind:=1,Cs:=q,CF:=A.len+1})/\(∀i,i<zz h->i≠a->i≠n->h'[i]?=h[i]?)/\zz h'=zz h+1:=by
 have pS:=w.len;let⟨h1,g,w1,l,l1⟩:=aBP w Ab (Ld q 0) rfl rfl;have e:=o.add (y:=(Ld q 0).x) hb (by simp[Ld]) (by simp[Ld]);have hx:(A.add (Ld q 0).x).has (A.len+1):=D3.2 (ze rfl);have hlen:(A.len+1).toNat-1=zz ps:=Ab;have b:pN (ps++[Ld q 0]) (A.len+1)=Ld q 0:=by rw[pN];rw[hlen];simp
 let⟨h2,f,c,_,j,t⟩:=w1.wr hx (k:=3) Bf (v:= I (A.len+1)) rfl (p:=Ld q (A.len+1)) (by rw[b];rfl) (by rw[b];rfl) (by rw[Jc,Af rfl];rfl);refine⟨h2,?_,?_,λi hi s r=>?_,Ab⟩;.have r2:=JC w1 e hx;rw[Ad,jN];have d:BK cx 157 [Pt a 0,z6 [I 1,I 0,zf,I 0,I 0,zt [],zf,zt [],zt [],zt [],zh q,I 0,I 0]] h (I (A.len+1)) h1:=g;simp[abS,AQ,d,r2,f]
 .rw[aBS,hlen] at c;rwa[BV _ _ (Ae _),Dl] at c
 .rw[j i Ab];exact l i hi s r
def M7(k d:Int)(s:Ai):PN:=⟨{kind:=k,CF:=d,data:=s},zf,zf,rfl⟩
def PA.Uh(w:PA h a n m ps A){p:PN}{h1:Ah}(hk:Ii p.kv=zc)(b:∀i,i<zz h->i≠a->i≠n->h1[i]?=h[i]?)(l1:zz h1=zz h+1):Du h (λi=>i∈GH a n m ps) h1 (λi=>i∈GH a (zz h) m (ps++[p])):=by
 refine⟨Ab,λi hi hn=>b i hi (λe=>hn (by simp[GH,e])) (λe=>hn (by simp[GH,e])),λi hi=>?_⟩;rw[tO hk] at hi;simp[AR] at hi;obtain rfl|rfl|hi:=hi
 .exact zb (by simp[GH])
 .exact ze (Ae _)
 .exact zb (by rw[GH];simp[AR];exact ze (ze hi))
def aDB{k:Int}{s:Ai}(w:PA h a n m ps A)(d:N4 A)(hb:A.len+1<=1000000000)(hd:A.has x/\(A.nd x).kind=1):
  ∃h',BK cx 234 [Pt a 0,I x,z6 (M7 k 0 s).row] h (zr [I (A.len+1),I 0]) h'/\PA h' a (zz h) m (ps++[M7 k x s]) (A.add (M7 k x s).x)/\(∀i,i<zz h->i≠a->i≠n->h'[i]?=h[i]?)/\zz h'=zz h+1:=by
 have pS:=w.len;let⟨h1,b,w1,c,l1⟩:=aBP w Ab (M7 k x s) rfl rfl;refine⟨h1,?_,w1,c,l1⟩;rw[z5] at b;rw[Ad,lK,z5];simp[abS,é (x:=x) w d,Af hd.1,Af hd.2,B3,CG,M7] at b⊢;simp[BD,b]
section
variable{s:Ai}(w:PA h a n m ps A)(e:N4 A)(hb:A.len+1<=1000000000)(hd:A.has x/\(A.nd x).kind=1)
def aPk:
  ∃h',BK cx 175 [Pt a 0,I x,zt s] h (zr [I (A.len+1),I 0]) h'/\PA h' a (zz h) m (ps++[M7 5 x s]) (A.add (M7 5 x s).x)/\(∀i,i<zz h->i≠a->i≠n->h'[i]?=h[i]?)/\zz h'=zz h+1:=by
 let⟨h1,c,w1,d,l1⟩:=aDB (k:=5) (s:=s) w e hb hd;refine⟨h1,?_,w1,d,l1⟩;have b:BK cx 234 [Pt a 0,I x,z6 [I 5,I 0,zf,I 0,I 0,zt [],zf,zt s,zt [],zt [],zh zj,I 0,I 0]] h (zr [I (A.len+1),I 0]) h1:=c;simp[Ad,kJ,abS,AQ,b]
def aJV:
  ∃h',BK cx 176 [Pt a 0,I x,zt s] h (zr [I (A.len+1),I 0]) h'/\PA h' a (zz h) m (ps++[M7 6 x s]) (A.add (M7 6 x s).x)/\(∀i,i<zz h->i≠a->i≠n->h'[i]?=h[i]?)/\zz h'=zz h+1:=by
 let⟨h1,c,w1,d,l1⟩:=aDB (k:=6) (s:=s) w e hb hd;refine⟨h1,?_,w1,d,l1⟩;have b:BK cx 234 [Pt a 0,I x,z6 [I 6,I 0,zf,I 0,I 0,zt [],zf,zt s,zt [],zt [],zh zj,I 0,I 0]] h (zr [I (A.len+1),I 0]) h1:=c;simp[Ad,kK,abS,AQ,b]
end
def aPl{s:Ai}(w:PA h a n m ps A)(e:N4 A)(hx:A.has x)(hk:(A.nd x).kind=5):
  ∃h' JK,BK cx 174 [Pt a 0,I x,zt s] h (I 0) h'/\PA h' a n m JK (A.T3 x s)/\Du h (λi=>i∈GH a n m ps) h' (λi=>i∈GH a n m JK):=by
 have hp:=(w.pn hx).2.1;let⟨h2,c,b,g,d,f⟩:=w.wr hx (k:=7) Bf (v:= zt s) rfl (p:=⟨{A.nd x with data:=s},(pN ps x).kv,(pN ps x).av,by rw[<-hp];exact(pN ps x).ok⟩) (by simp only[z5];rw[hp];rfl) rfl rfl;refine⟨h2,_,?_,b,w.í b g d f⟩;simp[Ad,kI,abS,Hn,S3 (x:=x) w,Af hx,B3,CG,JC w e hx,w.f0 hx,hk,c]
def aDC{y:Int}:BK cx 344 [.sl 1 [[I y]]] h (zh (decide (yw y))) h:=by
 have hv:AX 1 [[I y]] (.sl 1 [[I y]]):= .mk;have d:([[I y]]:List (List Aa))[0]=[I y]:=rfl;simp only[Ad,m8,BD,hv.len];refine Bj (λk:Nat=>[zh zj,I (k:Int)]) (λk h1=>k<=1/\(k=1->yw y)/\h1=h) (λk=>1 -k) 0 rfl ⟨AV _,λe=>Ab,rfl⟩ ?_;rintro k h1 ⟨hk,ha,rfl⟩;obtain hlt|Et:=AP k 1
 .obtain rfl:k=0:=by omega
  simp only[BD,Wn,(Bf:((0:Nat):Int)<((1:Nat):Int)),hv.EE (show 0<[[I y]].length from Cf),d,By 0];refine⟨λh2=>?_,λh2=>⟨λc=>?_,λc=>?_⟩⟩;.rw[Al (λb=>by rw[yw] at b;omega)]
  .rw[Al (λb=>by rw[yw] at b;omega)]
  .exact zp 1 rfl ⟨Ae _,λ_=>⟨Ab,Ab⟩,rfl⟩ Ab
 .obtain rfl:k=1:=by omega
  simp[abS,(Bf:¬((1:Nat):Int)<((1:Nat):Int)),As (ha rfl)]
def Z7{l out:List A9}{y:A9}:HU out (l++[y])=if(HU out l).any (λz=>decide (DM y=DM z)) then HU out l else HU out l++[y]:=by
 induction l generalizing out with
 |nil=>simp only[BY,HU];split<;>simp_all
 |cons z l ih=>
  rw[CQ,HU,HU];split;.exact ih
  .exact ih
def aJW(y c:A9)(h:Ah):BK cx 408 [z6 c.row,.CH y.row] h (zh (decide (DM y=DM c))) h:=by
 simp only[Ad,nW,zu,zu,BD];refine⟨λh1=>?_,λh1=>?_⟩;.congr 2;rw[Ds];simp[DM,h1]
 .rw[Al (λe=>h1 (by simp[DM] at e;exact e.1))]
def aDD{F v:Aa}{l:List A9}{q:A9->Bool}(hv:NQ h v l)(hb:zz l<=1000000000)(hF:tM F h q):BK cx 190 [v,F] h (zh (l.any q)) h:=by
 obtain⟨f,caps,rfl,hf,hr⟩:=hF;have key:BK cx 308 [v,yz (yx f) [] caps] h (I (Cn q 0 l)) h:=by
  simp only[Ad,Ub,BD,hv.len];refine Bj (λn:Nat=>[I 0,I (n:Int)]) (λn h1=>n<=zz l/\Cn q 0 l=Cn q n (l.drop n)/\h1=h) (λn=>zz l-n) 0 rfl ⟨AV _,rfl,rfl⟩ ?_;rintro n h1 ⟨vV,ha,rfl⟩;obtain hlt|Et:=AP n (zz l)
  .have i1:(n:Int)<(zz l:Int):=by omega
   let⟨p,d,c⟩:=hv.at_ n hlt;rw[AG hlt,Cn] at ha;simp only[BD,Dw,Wn,hf,i1,d,c,hr l[n],By n];rw[C5];refine⟨λhe=>?_,λhe=>?_⟩;.rw[ha,Af he]
   .rw[Ac (by simp[he])] at ha;exact zp (n+1) rfl ⟨hlt,ha,rfl⟩ Ab
  .have i1:¬(n:Int)<(zz l:Int):=by omega
   rw[AT Et,Cn] at ha;simp[abS,Dw,i1,ha]
 simp[Ad,XQ,BD,key];congr 2
 rcases Ic (p:=q) (l:=l) (k:=0) with⟨h1,h2⟩|⟨n,y,h1,h2,b⟩
 .rw[h1,wq];have:=Q8.1 h2;exact zv this
 .rw[h1,wq,As Ab,Oa];exact⟨y,RU b,List.find?_some b⟩
def aDE{l:List A9}{v:Aa}(hv:NQ h v l)(hb:zz l<=1000000000)(hs:∀y∈l,yw y.A7):BK cx 338 [v] h (zr [Xi (Cz l),zh z3]) h:=by
 simp only[Ad,mX,BD,hv.len];refine Bj (λk:Nat=>[zf,zh zj,Xi (Cz (l.take k)),I (k:Int)]) (λk h1=>k<=zz l/\h1=h) (λk=>zz l-k) 0 rfl ⟨AV _,rfl⟩ ?_;rintro k h1 ⟨hk,rfl⟩;obtain hlt|Et:=AP k (zz l)
 .have i1:(k:Int)<(zz l:Int):=by omega
  let⟨p,j,e⟩:=hv.at_ k hlt;have inc:=By k;have hsp:=hs _ (AN hlt);have i:=aDC (h:=h1) (y:=l[k].A7);have hF:tM (yz (yx 408) [] [.CH l[k].row]) h1 (λc=>decide (DM l[k]=DM c)):=⟨_,_,rfl,Bf,λc=>aJW l[k] c h1⟩;have vt:(Cz (l.take k)).length<=1000000000:=by have:=Rr (l:=l.take k);rw[Ax] at this;omega
  have r2:=aDD (Z5 Yb) vt hF;have g:Cz (l.take (k+1))=if(Cz (l.take k)).any (λz=>decide (DM l[k]=DM z)) then Cz (l.take k) else Cz (l.take k)++[l[k]]:=by rw[AB hlt];exact Z7
  have d:=AX.JU (f:=zu) (a:=l[k]) (b:=40) (Yb (l:=Cz (l.take k))) (by have:=Rr (l:=l.take k);rw[Ax] at this;have:A0=140737488355328:=rfl;omega);have em:AA (.Dk 3) [z6 l[k].row]=zx (.sl 3 [l[k].row]):=rfl;rw[<-tn] at d;rw[zu] at r2 em d e;simp only[abS,zy,i1,j,e,Hn,i,As hsp,r2,em,d,inc];rw[C5];refine⟨λh2=>?_,λh2=>?_⟩;.exact zp (k+1) (by rw[g,Ac (zv h2)]) ⟨hlt,rfl⟩ Ab
  .exact zp (k+1) (by rw[g,Af (zv h2)]) ⟨hlt,rfl⟩ Ab
 .have i1:¬(k:Int)<(zz l:Int):=by omega
  simp[abS,i1,AF Et]
def aJX{l:List A9}{v:Aa}(w:PA h a n m ps A)(f:N4 A)(hx:A.has x)(hk:(A.nd x).kind=4)(hv:NQ h v l)(hb:zz l<=1000000000)(hs:∀y∈l,yw y.A7):
  ∃h' JK,BK cx 192 [Pt a 0,I x,v] h (I 0) h'/\PA h' a n m JK (A.JW x l)/\Du h (λi=>i∈GH a n m ps) h' (λi=>i∈GH a n m JK):=by
 have hp:=(w.pn hx).2.1;have d:=aDE hv hb hs;let⟨h2,c,b,j,e,g⟩:=w.wr hx (k:=6) Bf (v:=Xi (Cz l)) (AX.cells Yb) (p:=⟨{A.nd x with Aj:=Cz l},(pN ps x).kv,Xi (Cz l),rfl⟩) (by simp only[z5];rw[hp];rfl) rfl rfl;refine⟨h2,_,?_,b,w.í b j e g⟩;simp[Ad,kX,abS,Hn,S3 (x:=x) w,Af hx,B3,CG,JC w f hx,w.f0 hx,hk,d,c]
def aJY(w:PA h a n m ps A)(hx:A.has x):BK cx 345 [Pt n (nP n x)] h (zh (decide (jG (A.nd x)))) h:=by simp[Ad,m9,abS,w.f0 hx,w.f4 hx,w.f5 hx,jG];refine⟨λh1=>⟨λh2=>?_,λh2=>?_⟩,λh1=>?_⟩<;>simp[*]
def RM(x:Int×Int):Aa×Aa:=(I x.1,I x.2)
def oJ{k:Int}:∀{l:List (Int×Int)} {i:Nat},(l.find? (λx=>decide (k=x.1))=zc->Mc k (l.map RM) i=zx zc)/\∀y,l.find? (λx=>decide (k=x.1))=zx y->∃j,Mc k (l.map RM) i=zx (zx (j,I y.2))
 |[],i=>⟨λ_=>rfl,λy h=>by cases h⟩
 |z::l,i=>by
  have ih:=oJ (k:=k) (l:=l) (i:=i+1);simp only[Bm,RM,Mc,DZ];by_cases e:k=z.1;.simp only[e,DO,BR];exact⟨λh=>(by cases h),λy h=>⟨i,by cases h;rfl⟩⟩
  .simp only[e,DX,EV];exact ih
def Z4.get{f:Int->Int}(w:Z4 h m f)(k:Int):EF (.wv (I 0) z3) h [za m,I k]=zx (h,if f k=0 then zr [I 0,zh zj] else zr [I (f k),zh z3]):=by
 rcases w with⟨rfl,h0⟩|⟨id,l,rfl,hc,hl,_⟩
 .rw[Af (h0 k)];rfl
 .have hl:=hl k;have hm:=oJ (k:=k) (l:=l) (i:=0);simp only[EF,df,hc];by_cases h0:f k=0
  .rw[Af h0] at hl⊢;have e:l.find? (λx=>decide (k=x.1))=zc:=by
    cases hf:l.find? (λx=>decide (k=x.1)) with
    |none=>rfl
    |some y=>rw[hf] at hl;cases hl
   have:=hm.1 e;unfold RM at this;rw[this];rfl
  .rw[Ac h0] at hl⊢;cases hf:l.find? (λx=>decide (k=x.1)) with
   |none=>rw[hf] at hl;cases hl
   |some y=>rw[hf] at hl;simp[B6,BF] at hl;let⟨j,e⟩:=hm.2 y hf;unfold RM at e;rw[e,<-hl];rfl
def lf{id:Nat}{l:List (Int×Int)}{k v:Int}(hc:h[id]?=zx (z0 (l.map RM)))(hn:l.find? (λx=>decide (k=x.1))=zc):
  ∃h1,EF (.UQ (I 0)) h [za (zx id),I k]=zx (h1,zr [I 0,I (zz l)])/\∃h2,EF .OR h1 [za (zx id),I (zz l),I v]=zx (h2,zh z3)/\h2=h.set id (z0 ((l++[(k,v)]).map RM)):=by
 have IC:=(Aq.1 hc).1;have hm:=(oJ (k:=k) (l:=l) (i:=0)).1 hn;refine⟨h.set id (z0 (l.map RM++[(I k,I 0)])),?_,_,?_,rfl⟩;.simp only[EF,Xs,hc,hm,B6,Ao]
 .have c:(h.set id (z0 (l.map RM++[(I k,I 0)])))[id]?=zx (z0 (l.map RM++[(I k,I 0)])):=AY IC;have b:(l.map RM++[(I k,I 0)])[zz l]?=zx (I k,I 0):=by rw[Bz AH];simp
  simp only[EF,Tn,c,A3,b];rw[Af Ab,vL,BV _ _ AH];simp[RM]
def PA.aJZ(w:PA h a n m ps A):∀i∈m.toList++ps.filterMap (λp=>Ii p.kv),i<zz h/\i≠a/\i≠n:=by
 intro i hi;have h1:i∈GH a n m ps:=by simp only[GH,AR];exact ze (ze hi)
 have b:=w.nd;rw[GH] at b;simp only[Cl,AR,Ly] at b;exact⟨w.lt i h1,λe=>b.1.2 (e▸hi),λe=>b.2.1 (e▸hi)⟩
def PA.aJ0(w:PA h a n m ps A){h1:Ah}{m':Option Nat}{A':Ar}(g:A'.n=A.n)(f:zz A'.i=zz A'.n)(ha:h1[a]?=zx (zl [.CC n 0 (zz ps) 13,za m']))(ho:∀i,i<zz h->i≠a->m≠zx i->h1[i]?=h[i]?)(hm:m'=m\/∃j,m'=zx j/\zz h<=j)(b:Z4 h1 m' A'.inr):PA h1 a n m' ps A':=by
 have nd:=w.nd;have oI:=nd;rw[GH] at oI;simp only[Cl,AR,Ly] at oI;have hnm:m≠zx n:=λe=>oI.2.1 (by simp[e]);refine⟨by rw[g];exact w.e,f,ha,?_,?_,?_,b⟩;.rw[ho n (w.lt n (by simp[GH])) (DY oI.1.1) hnm];exact w.hn
 .intro p hp;refine(w.ks p hp).Dj λid IC=>?_;have h1:id∈ps.filterMap (λp=>Ii p.kv):=Ck.2 ⟨p,hp,IC⟩;have h2:=w.aJZ id (Ay.2 (ze h1));exact ho id h2.1 h2.2.1 λe=>(CO.1 oI.2.2).2.2 id (by simp[e]) id h1 rfl
 .rcases hm with rfl|⟨j,rfl,hj⟩
  .exact nd
  .have d:∀i∈ps.filterMap (λp=>Ii p.kv),i<zz h:=λi hi=>(w.aJZ i (Ay.2 (ze hi))).1;have l:=w.lt a (by simp[GH]);have k:=w.lt n (by simp[GH]);have c:=(CO.1 oI.2.2).2.1;simp only[GH,Cl,AR,aRx,CQ,BY,Ly];exact⟨⟨oI.1.1,Ab,λhm=>oI.1.2 (Ay.2 (ze hm))⟩,⟨Ab,λhm=>oI.2.1 (Ay.2 (ze hm))⟩,λhm=>by have:=d j hm;omega,c⟩
def Z8{l:List (Int×Int)}{k v:Int}(hk:kz l)(hn:l.find? (λx=>decide (k=x.1))=zc)(h1:qm k=z3)(h2:qm v=z3):kz (l++[(k,v)]):=by
 refine⟨?_,λp hp=>?_⟩;.rw[BL,CO];refine⟨hk.1,AH,λa ha b hb e=>?_⟩;obtain⟨x,hx,rfl⟩:=Bs.1 ha;have c:=Q8.1 hn x hx;simp[Bm,Da,AM] at hb;exact c (by simpa using(e.trans hb).symm)
 .rcases Ay.1 hp with h|h
  .exact hk.2 p h
  .simp only[AM] at h;subst h;exact⟨h1,h2⟩
def lg(hb:A.len<=1000000000)(hx:A.has x):qm x=z3:=by have:=hx.1;have:=hx.2;rw[ys] at hb;rw[qm];simp;omega
def aJ1{i:Nat}(hm:m=zx i):i∈GH a n m ps:=by rw[GH];simp[hm]
def PA.aJ2(w:PA h a n m ps A){l:List (Int×Int)}{id:Nat}(t:m=zx id)(hc:h[id]?=zx (z0 (l.map RM)))(hl:∀k,(l.find? λx=>decide (k=x.1)).map (·.2)=if A.inr k=0 then zc else zx (A.inr k))(ok:kz l)(hb:A.len<=1000000000){d i:Int}(hd:A.has d)(hi:A.has i)(c:d≠i)(h0:A.inr d=0)(f:A.inr i=0):
  ∃h1 h2 r,EF (.UQ (I 0)) h [za m,I d]=zx (h1,zr [I 0,I (zz l)])/\EF .OR h1 [za m,I (zz l),I i]=zx (h2,zh z3)/\
   EF (.UQ (I 0)) h2 [za m,I i]=zx (r,zr [I 0,I ((zz l+1:Nat):Int)])/\∃p,EF .OR r [za m,I ((zz l+1:Nat):Int),I i]=zx (p,zh z3)/\PA p a n m ps ((A.Jy d i).Jy i i)/\(∀j,j≠id->p[j]?=h[j]?)/\zz p=zz h:=by
 subst t;have IC:=(Aq.1 hc).1;have b:∀k,A.inr k=0->l.find? (λx=>decide (k=x.1))=zc:=by
  intro k hk;have:=hl k;rw[Af hk] at this;cases hf:l.find? (λx=>decide (k=x.1)) with
  |none=>rfl
  |some y=>rw[hf] at this;cases this
 obtain⟨h1,E,h2,D,rfl⟩:=lf (v:=i) hc (b d h0);have JH:(h.set id (z0 ((l++[(d,i)]).map RM)))[id]?=zx (z0 ((l++[(d,i)]).map RM)):=AY IC;obtain⟨r,B,p,z,rfl⟩:=lf (k:=i) (v:=i) JH (by rw[Sv,b i f];simp[DY c]);simp only[Aw,Bl] at B z;refine⟨h1,_,r,E,D,B,_,z,?_,?_,AH⟩
 .have o:id≠a:=λe=>by have:=w.nd;rw[GH] at this;simp[e] at this
  refine w.aJ0 (m':=zx id) (A':=(A.Jy d i).Jy i i) rfl ?_ ?_ ?_ (zb rfl) ?_;.simp only[Ar.Jy];split<;>split<;>simp[w.il]
  .rw[Au o,Au o];exact w.ha
  .intro j hj C u;have:id≠j:=λe=>u (by rw[e]);rw[Au this,Au this]
  .refine ze ⟨id,l++[(d,i)]++[(i,i)],rfl,?_,λk=>?_,Z8 (Z8 ok (b d h0) (lg hb hd) (lg hb hi)) (by rw[Sv,b i f];simp[DY c]) (lg hb hi) (lg hb hi)⟩;.rw[AY (zv IC)];rfl
   .have s:(A.Jy d i).i.length=(A.Jy d i).n.length:=by simp[Ar.Jy];split<;>simp[w.il]
    rw[QL s,QL w.il,Sv,Sv];have ĸ:(A.Jy d i).has i:=hi;have hk:=hl k;have aa:i≠0:=by have:=hi.1;omega
    cases hf:l.find? (λx=>decide (k=x.1)) with
    |some y=>
     rw[hf] at hk;have tL:A.inr k≠0:=by intro e;rw[Af e] at hk;cases hk
     have q:k≠i:=λe=>tL (e▸f);have g:k≠d:=λe=>tL (e▸h0);simp only[q,g,bO,EV,Option.some_or];exact hk
    |none=>
     rw[hf] at hk;have tL:A.inr k=0:=by
      by_cases e:A.inr k=0;.exact e
      .rw[Ac e] at hk;cases hk
     by_cases g:k=d;.subst g;simp[c,hd,aa]
     .by_cases q:k=i;.subst q;simp[g,ĸ,aa]
      .simp[q,g,tL]
 .intro j hj;rw[Au (DY hj),Au (DY hj)]
def aJ4(w:PA h a n m ps A)(E:N4 A)(hb:A.len+1<=1000000000)(hx:A.has x):
  ∃h' n' m' JK,BK cx 346 [Pt a 0,I x] h (I (A.FU x)) h'/\PA h' a n' m' JK (A.Dq x)/\Du h (λi=>i∈GH a n m ps) h' (λi=>i∈GH a n' m' JK):=by
 have l1:A5 h zc (Pt a 1)=zx (za m):=by simp only[A5,w.ha];rfl
 have g1:=w.mp.get x;by_cases h0:A.inr x=0
 .let⟨h1,z,w1,D,d⟩:=aPj w E hb zj;have g:=w.Uh (p:=Ld zj (A.len+1)) rfl D d;have s:A.FU x=A.len+1:=by rw[Ar.FU];rw[Ac (by simp[h0])]
  have t:A.Dq x=((A.add {kind:=1,CF:=A.len+1}).Jy x (A.len+1)).Jy (A.len+1) (A.len+1):=by rw[Ar.Dq];rw[Ac (by simp[h0])]
  have aBT:∀k,(A.add {kind:=1,Cs:=zj,CF:=A.len+1}).inr k=A.inr k:=λk=>XG w.il;have PY:(A.add {kind:=1,Cs:=zj,CF:=A.len+1}).has x:=D3.2 (zb hx);have Xa:(A.add {kind:=1,Cs:=zj,CF:=A.len+1}).has (A.len+1):=D3.2 (ze rfl);have hne:=ZF hx;have f:A.inr (A.len+1)=0:=by rw[Ar.inr];rw[Ac S0]
  have B:A5 h1 zc (Pt a 1)=zx (za m):=by simp only[A5,w1.ha];rfl
  rw[Af h0] at g1;have UP:(A.add {kind:=1,Cs:=zj,CF:=A.len+1}).len<=1000000000:=by rwa[Pf]
  rcases w1.mp with⟨rfl,hz⟩|⟨id,l,rfl,hc,hl,ho⟩
  .have cD:=w1.ha;have VV:a<zz h1:=w1.lt a (by simp[GH]);have PV:(h1++[DG.map []])[a]?=zx (zl [.CC (zz h) 0 (ps++[Ld zj (A.len+1)]).length 13,za zc]):=by rwa[Ak VV]
   have es:Cy (h1++[DG.map []]) 1 (Pt a 1) (za (zx (zz h1)))=zx ((h1++[DG.map []]).set a (zl [.CC (zz h) 0 (ps++[Ld zj (A.len+1)]).length 13,za (zx (zz h1))])):=by simp only[Cy,PV];rfl
   have xM:((h1++[DG.map []]).set a (zl [.CC (zz h) 0 (ps++[Ld zj (A.len+1)]).length 13,za (zx (zz h1))]))[a]?=zx (zl [.CC (zz h) 0 (ps++[Ld zj (A.len+1)]).length 13,za (zx (zz h1))]):=AY EP;have L:A5 ((h1++[DG.map []]).set a (zl [.CC (zz h) 0 (ps++[Ld zj (A.len+1)]).length 13,za (zx (zz h1))])) zc (Pt a 1)=zx (za (zx (zz h1))):=by simp only[A5,xM];rfl
   have Ś:((h1++[DG.map []]).set a (zl [.CC (zz h) 0 (ps++[Ld zj (A.len+1)]).length 13,za (zx (zz h1))]))[zz h1]?=zx (.map (([]:List (Int×Int)).map RM)):=by rw[Au Ab,Bz (Ae _),Dl];rfl
   have C:PA ((h1++[DG.map []]).set a (zl [.CC (zz h) 0 (ps++[Ld zj (A.len+1)]).length 13,za (zx (zz h1))])) a (zz h) (zx (zz h1)) (ps++[Ld zj (A.len+1)]) (A.add {kind:=1,Cs:=zj,CF:=A.len+1}):=by refine w1.aJ0 rfl w1.il xM (λi hi c _=>by rw[Au (DY c),Ak hi]) (ze ⟨_,rfl,Ae _⟩) (ze ⟨zz h1,[],rfl,Ś,λk=>by rw[Af (hz k)];rfl,Q7,λp hp=>nomatch hp⟩)
   let⟨J,H,G,r,q,o,y,j,u,v,b⟩:=C.aJ2 rfl Ś (λk=>by rw[Af (hz k)];rfl) ⟨Q7,λp hp=>nomatch hp⟩ UP PY Xa hne ((aBT x).trans h0) ((aBT _).trans f);refine⟨y,_,_,_,?_,t▸u,⟨by rw[b];simp;omega,λi hi W0=>?_,λi hi=>?_⟩⟩;.simp only[BP] at r q o j;simp only[Ad,Uc,s,BD,l1,g1,z,B,show AA (.GD false .mp) [.map none,.map none]=some (.bool true) from rfl,es,L,r,q,o,j]
   .have K:=g.old i hi W0;have c:i≠a:=λe=>W0 (by simp[GH,e]);rw[v i Ab,Au (DY c),Ak Ab,K]
   .unfold GH at hi;simp only[AR,aRx,CQ,BY] at hi;obtain rfl|rfl|rfl|hi:=hi
    .exact zb (by simp[GH])
    .exact ze (Ae _)
    .exact ze Ab
    .exact g.Bu i (by rw[GH];simp only[AR,Option.toList_none,BY];exact ze (ze hi))
  .let⟨J,H,G,r,q,o,y,j,u,v,b⟩:=w1.aJ2 rfl hc hl ho UP PY Xa hne ((aBT x).trans h0) ((aBT _).trans f);refine⟨y,_,_,_,?_,t▸u,⟨Ab,λi hi W0=>?_,g.Bu⟩⟩;.rw[Ad,Uc,s];simp only[BD,l1,g1,z,B,show AA (.GD zj .mp) [.map (zx id),.map zc]=zx (.bool zj) from rfl,r,q,o,j]
   .rw[v i (λe=>W0 (e▸aJ1 rfl))];exact g.old i hi W0
 .have s:A.FU x=A.inr x:=by rw[Ar.FU];rw[Af h0]
  have t:A.Dq x=A:=by rw[Ar.Dq];rw[Af h0]
  refine⟨h,n,m,ps,?_,by rwa[t],.refl⟩;rw[Ac h0] at g1;simp only[Ad,Uc,s,BD,l1,g1]
def N4.Z9(b:N4 A)(h1:A.len+1<=1000000000):N4 (A.Dq x):=by
 rw[Ar.Dq];split;.exact b
 .have:=b.add (y:={kind:=1,CF:=A.len+1}) h1 AH AH;exact⟨this.n,this.at_,this.data⟩
def tq(hk:A.has x){d:Int}:(A.Dq d).nd x=A.nd x:=ZD (zb (ZF hk))
def aJ5{l:List A9}{v:Aa}{d sp:Int}{nm:Ai}(w:PA h a n m ps A)(D:N4 A)(hb:A.len+3<=1000000000)(hd:A.has d/\(A.nd d).kind=1)(hsp:yw sp)(hv:AL l v)(hl:zz l<=1000000000)(hs:∀y∈l,yw y.A7):
  ∃h' n' m' JK,BK cx 204 [Pt a 0,I d,I sp,zt nm,v] h (zr [I (A.len+1),I 0]) h'/\PA h' a n' m' JK (A.elem d sp nm l)/\Du h (λi=>i∈GH a n m ps) h' (λi=>i∈GH a n' m' JK)/\N4 (A.elem d sp nm l):=by
 have pS:=w.len;have B:=aDE (h:=h) (Z5 hv) hl hs;obtain⟨u,hu⟩:∃u,u=Xi (Cz l):=⟨_,rfl⟩;rw[<-hu] at B;have pT:(Cz l).length<=1000000000:=by have:=Rr (l:=l);omega
 have c:=aDC (h:=h) (y:=sp);rw[As hsp] at c;let⟨h1,P,w1,S,l1⟩:=aBP w Ab ⟨{kind:=4,CF:=d,A7:=sp,name:=nm,Aj:=Cz l},zf,u,hu⟩ rfl rfl;have b:=D.add (y:={kind:=4,CF:=d,A7:=sp,name:=nm,Aj:=Cz l}) Ab pT AH;have PY:(A.add {kind:=4,CF:=d,A7:=sp,name:=nm,Aj:=Cz l}).has (A.len+1):=D3.2 (ze rfl);have ND:(A.add {kind:=4,CF:=d,A7:=sp,name:=nm,Aj:=Cz l}).nd (A.len+1)={kind:=4,CF:=d,A7:=sp,name:=nm,Aj:=Cz l}:=by rw[Jc,Af rfl]
 have H:=w.Uh (p:=⟨{kind:=4,CF:=d,A7:=sp,name:=nm,Aj:=Cz l},zf,u,hu⟩) rfl S l1;have j:BK cx 157 [Pt a 0,z6 [I 4,I 0,zf,I d,I sp,zt nm,u,zt [],zt [],zt [],zh zj,I 0,I 0]] h (I (A.len+1)) h1:=P;have r2:=JC w1 b PY;have g:=aJY w1 PY;rw[ND] at g;have hc:u.cells=[u]:=by rw[hu];exact AX.cells Yb
 rw[Ar.elem];simp only
 by_cases s:jG {kind:=4,CF:=d,A7:=sp,name:=nm,Aj:=Cz l}
 .rw[Af s];rw[As s] at g;have jJ:(A.add {kind:=4,CF:=d,A7:=sp,name:=nm,Aj:=Cz l}).has d:=D3.2 (zb hd.1);let⟨h2,W,X,ae,O,t,K⟩:=aJ4 w1 b (by rw[Pf];omega) jJ;have C:=b.Z9 (x:=d) (by rw[Pf];omega);have eH:((zz ae:Nat):Int)=((A.add {kind:=4,CF:=d,A7:=sp,name:=nm,Aj:=Cz l}).Dq d).len:=t.len;have lj:((A.add {kind:=4,CF:=d,A7:=sp,name:=nm,Aj:=Cz l}).Dq d).len<=A.len+2:=by rw[sq,Pf];split<;>omega
  let⟨V,N,f,R,l3⟩:=aBP t Ab ⟨{kind:=2,EC:=A.len+1,CF:=(A.add {kind:=4,CF:=d,A7:=sp,name:=nm,Aj:=Cz l}).FU d},zf,zf,rfl⟩ rfl rfl;obtain⟨o,E⟩:∃o,o=ae++[⟨{kind:=2,EC:=A.len+1,CF:=(A.add {kind:=4,CF:=d,A7:=sp,name:=nm,Aj:=Cz l}).FU d},zf,zf,rfl⟩]:=⟨_,rfl⟩;have G:=t.Uh (p:=⟨{kind:=2,EC:=A.len+1,CF:=(A.add {kind:=4,CF:=d,A7:=sp,name:=nm,Aj:=Cz l}).FU d},zf,zf,rfl⟩) rfl R l3;rw[<-E] at f G;have q:=C.add (y:={kind:=2,EC:=A.len+1,CF:=(A.add {kind:=4,CF:=d,A7:=sp,name:=nm,Aj:=Cz l}).FU d}) Ab AH AH;have z:BK cx 157 [Pt a 0,z6 [I 2,I 0,zf,I ((A.add {kind:=4,CF:=d,A7:=sp,name:=nm,Aj:=Cz l}).FU d),I 0,zt [],zf,zt [],zt [],zt [],zh zj,I 0,I (A.len+1)]] h2 _ V:=N;have iP:=OB (h:=d) PY;have e:=D3 (x:={kind:=2,EC:=A.len+1,CF:=(A.add {kind:=4,CF:=d,A7:=sp,name:=nm,Aj:=Cz l}).FU d}).2 (zb iP);have r:(((A.add {kind:=4,CF:=d,A7:=sp,name:=nm,Aj:=Cz l}).Dq d).add {kind:=2,EC:=A.len+1,CF:=(A.add {kind:=4,CF:=d,A7:=sp,name:=nm,Aj:=Cz l}).FU d}).nd (A.len+1)={kind:=4,CF:=d,A7:=sp,name:=nm,Aj:=Cz l}:=by rw[M6 iP,tq PY,ND]
  have M:=JC f q e;have hp:=(f.pn e).2.1;rw[r] at hp;let⟨U,L,J,T,Q,l4⟩:=f.wr e (k:=11) Bf (v:= I (((A.add {kind:=4,CF:=d,A7:=sp,name:=nm,Aj:=Cz l}).Dq d).len+1)) rfl (p:=⟨{kind:=4,CF:=d,A7:=sp,name:=nm,Aj:=Cz l,cont:=((A.add {kind:=4,CF:=d,A7:=sp,name:=nm,Aj:=Cz l}).Dq d).len+1},(pN o (A.len+1)).kv,(pN o (A.len+1)).av,by have:=(pN o (A.len+1)).ok;rwa[hp] at this⟩) (by simp only[z5];rw[hp];rfl) rfl (by rw[r]);refine⟨U,_,_,_,?_,J,H.trans (K.trans (G.trans (f.í J T Q l4))),q.set pT AH⟩;simp[Ad,XR,abS,AQ,é (x:=d) w D,Af hd.1,Af hd.2,B3,CG,B,Hn,c,hc,j,r2,g,O,z,M,L]
 .rw[Ac s];rw[Al s] at g;refine⟨h1,_,_,_,?_,w1,H,b⟩;simp[Ad,XR,abS,AQ,é (x:=d) w D,Af hd.1,Af hd.2,B3,CG,B,Hn,c,hc,j,r2,g]
def fF{U:Type}{p q:U->Bool}{y:U}:∀{l:List U},(∀x∈l,p x=z3->q x=z3)->y∈l->p y=zj->q y=z3->(l.filter p).length<(l.filter q).length
 |[],_,h,_,_=>by cases h
 |x::l,hi,hy,hp,hq=>by
  have le:∀{l:List U},(∀x∈l,p x=z3->q x=z3)->(l.filter p).length<=(l.filter q).length:=by
   intro l;induction l with
   |nil=>intro _;simp
   |cons z l ih=>
    intro hi;have:=ih λx hx=>hi x (by simp[hx]);rw[HM,HM];split;next hz=>rw[Af (hi z AH hz)];simp;exact this
    .split;.simp;omega
     .exact this
  have hl:=λx (hx:x∈l)=>hi x (by simp[hx]);rw[HM,HM];obtain rfl|hy:=AR.1 hy
  .rw[Ac (by simp[hp]),Af hq];have:=le hl;simp;omega
  .have ih:=fF hl hy hp hq;split;.rename_i hz;rw[Af (hi x AH hz)];simp;exact ih
   .split;.simp;omega
    .exact ih
def af{r:Int->Nat}{k y:Int}(hr:∀h,A.has h->A.up h≠0->r (A.up h)<r h)(hR:Reach A k y)(hy:A.has y):r k<=r y:=by
 induction hR with
 |refl=>exact Ae _
 |@step z h1 h2 ih=>
  by_cases hz:A.has (A.up z);.have:=ih hz;have:=hr z hy h1;omega
  .cases h2 with
   |refl=>have:=hr z hy h1;omega
   |step b _=>cases b (ZB hz)
open Classical in
def ag{e:Int}(ok:E1 A e):∃r:Int->Nat,(∀h,A.has h->A.up h≠0->r (A.up h)<r h)/\∀h,r h<=A.n.length:=by
 obtain⟨r,hr⟩:=ok.jI;refine⟨λh=>((List.range A.n.length).filter λ(i:Nat)=>decide (Reach A ((i:Int)+1) h/\(i:Int)+1≠h)).length,λh c hu=>?_,λh=>?_⟩
 .have b:=yQ ok c hu;have Ja:=b;unfold Ar.has at Ja;have d:(((A.up h).toNat-1:Nat):Int)+1=A.up h:=Ab;refine fF (y:=(A.up h).toNat-1) (λi _ hi=>?_) (List.mem_range.2 Ab) ?_ ?_;.rw[Cd] at hi⊢;refine⟨.step hu hi.1,λe=>?_⟩;have h1:=af hr hi.1 b;have h2:=hr h c hu;rw[e] at h1;omega
  .rw[d];simp
  .rw[d,Cd];exact⟨.step hu .refl,aDn ok c hu⟩
 .have:=Xr (λ(i:Nat)=>decide (Reach A ((i:Int)+1) h/\(i:Int)+1≠h)) (List.range A.n.length);rwa [List.length_range] at this
def PA.cell(w:PA h a n m ps A)(hx:A.has x){k:Nat}(hk:k<13):(ps.map z5).flatten[0+(x.toNat-1)*13+k]?=(pN ps x).row[k]?:=by rw[B2];exact L2 (tN ps) hk (by rw[Cc,(w.pn hx).1];rfl)
open Classical in
def aA(w:PA h a n m ps A){up:Int}{r:Int->Nat}{e:Int}(ok:E1 A e)(hr:∀h,A.has h->A.up h≠0->r (A.up h)<r h)(c:up≠0):∀(fuel:Nat) (x:Int),(x=0\/(A.has x/\r x<fuel))->Mn (ps.map PN.row).flatten 0 ps.length up fuel x=some (decide (Reach A up x))
 |fuel,x,hx=>by
  by_cases h0:x=0
  .subst h0;have no:¬Reach A up 0:=by
    intro hR;cases hR with
    |refl=>exact c rfl
    |step h1 _=>exact h1 (ZB (by unfold Ar.has;omega))
   rw[Al no];cases fuel<;>rfl
  .have hx:=hx.resolve_left h0;cases fuel with
   |zero=>omega
   |succ fuel=>
    have g:Mn (ps.map PN.row).flatten 0 ps.length up (fuel+1) x=if x=up then some true else if 1<=x/\x<=ps.length then
      match Hs (ps.map PN.row).flatten 0 x 1,Hs (ps.map PN.row).flatten 0 x 12 with
      |some p,some q=>Mn (ps.map PN.row).flatten 0 ps.length up fuel (if p=0 then q else p)
      |_,_=>none
     else none:=by
     rw[Mn];.rfl
     .exact λh=>h0 h
    rw[g];by_cases b:x=up;.rw[Af b,b,As .refl]
    .rw[Ac b,Af (by have:=hx.1;have:=w.æ;unfold Ar.has at*;omega)];have j:Hs (ps.map PN.row).flatten 0 x 1=some (A.nd x).Gm:=by unfold Hs;rw[w.cell hx.1 Bf,<-(w.pn hx.1).2.1];rfl
     have i:Hs (ps.map PN.row).flatten 0 x 12=some (A.nd x).EC:=by unfold Hs;rw[w.cell hx.1 Bf,<-(w.pn hx.1).2.1];rfl
     rw[j,i];simp only
     have f:(if(A.nd x).Gm=0 then(A.nd x).EC else(A.nd x).Gm)=A.up x:=by unfold Ar.up;by_cases h:(A.nd x).Gm=0<;>simp[h]
     rw[f];have ih:=aA w ok hr c fuel (A.up x) (by
      by_cases hu:A.up x=0;.exact .inl hu
      .exact .inr ⟨yQ ok hx.1 hu,by have:=hr x hx.1 hu;omega⟩)
     rw[ih];congr 1
     rw[Ds];constructor
     .intro h1;by_cases hu:A.up x=0
      .rw[hu] at h1;cases h1 with
       |refl=>exact absurd rfl c
       |step d _=>exact absurd (ZB (by unfold Ar.has;omega)) d
      .exact .step hu h1
     .intro h1;cases h1 with
      |refl=>exact absurd rfl b
      |step _ h2=>exact h2
open Classical in
def aJ6{up e:Int}(w:PA h a n m ps A)(ok:E1 A e)(hu:A.has up)(hx:A.has x):BK cx 236 [Pt a 0,I up,I x] h (.bool (decide (Reach A up x))) h:=by
 obtain⟨r,hr,b⟩:=ag ok;have PH:=w.æ;have hc:=aA w ok hr (up:=up) (by have:=hu.1;omega) (ps.length+1) x (.inr ⟨hx,by have:=b x;omega⟩);have c:EF (.Sx On) h [Pt a 0,I up,I x]=some (h,.bool (decide (Reach A up x))):=by simp only[EF,On,w.ha,w.hn];rw[Af (by rw[ê];omega),Af (by unfold Ar.has at hu hx;omega),hc];rfl
 rw[Ad,show B8 cx 236 [Pt a 0,I up,I x]=Oo [Pt a 0,I up,I x] from rfl,Oo];simp only[BD,c]
structure QR(h:Ah)(v:Aa)(l:List Int):Prop where
 len:AA (.len zj) [v]=zx (I (zz l:Int))
 at_:∀k (hk:k<zz l),∃p,AA (.EE 1) [v,I (k:Int)]=zx p/\A5 h zc p=zx (I l[k])
def KR.S4{kv:Aa}{l:List Int}(hk:KR h kv l):QR h kv l:=by
 refine⟨hk.len,λk hlt=>?_⟩;rcases hk with⟨rfl,rfl⟩|⟨id,cs,rfl,hc⟩
 .simp at hlt
 .refine⟨Pt id k,by have:=Fk (id:=id) (z:=1) (k:= z8) hlt;rwa [Ge] at this,?_⟩;simp[A5,hc,Fu];rw[Ak (zv hlt)];simp[hlt]
def Ec.S4{v:Aa}{l:List Int}(hv:Ec l v):QR h v l:=⟨AX.CK hv,λk hk=>⟨_,AX.BG hv hk,rfl⟩⟩
def aGf{v:Aa}{l:List Int}(hv:QR h v l)(hb:zz l<=1000000000)(x:Int):BK cx 172 [v,I x] h (I (Cn (λy=>decide (x=y)) 0 l)) h:=by
 simp[Ad,kG,BD,hv.len];refine Bj (λk:Nat=>[I 0,I (k:Int)]) (λk h1=>k<=zz l/\Cn (λy=>decide (x=y)) 0 l=Cn (λy=>decide (x=y)) k (l.drop k)/\h1=h) (λk=>zz l-k) 0 rfl ⟨AV _,rfl,rfl⟩ ?_;rintro k h1 ⟨hk,ha,rfl⟩;obtain hlt|Et:=AP k (zz l)
 .have i1:(k:Int)<(zz l:Int):=by omega
  let⟨p,c,b⟩:=hv.at_ k hlt;rw[AG hlt,Cn] at ha;simp[abS,i1,c,b,By k];refine⟨λh2=>?_,λh2=>?_⟩;.rw[ha,Af (zv h2)]
  .rw[Ac (zv h2)] at ha;exact zp (k+1) rfl ⟨hlt,ha,rfl⟩ Ab
 .have i1:¬(k:Int)<(zz l:Int):=by omega
  rw[AT Et,Cn] at ha;simp[abS,i1,ha]
def oK{l:List Int}{x:Int}(hx:x∈l):∃k,k<zz l/\Cn (λy=>decide (x=y)) 0 l=(k:Int)/\l[k]?=zx x/\l.takeWhile (λy=>decide (y≠x))=l.take k/\l.dropWhile (λy=>decide (y≠x))=l.drop k:=by
 have key:∀(l:List Int) (s:Nat),x∈l->∃k,k<zz l/\Cn (λy=>decide (x=y)) s l=((s+k:Nat):Int)/\l[k]?=zx x/\l.takeWhile (λy=>decide (y≠x))=l.take k/\l.dropWhile (λy=>decide (y≠x))=l.drop k:=by
  intro l;induction l with
  |nil=>intro s h;cases h
  |cons z l ih=>
   intro s h;by_cases e:x=z;.subst e;exact⟨0,AH,by rw[Cn,Af AH];simp,rfl,AH,AH⟩
   .have h2:x∈l:=(AR.1 h).resolve_left e;let⟨k,d,c,b,g,f⟩:=ih (s+1) h2;have e':z≠x:=λi=>e i.symm;refine⟨k+1,by simp;exact d,by rw[Cn,Ac (zv e),c];congr 1;omega,zv b,?_,?_⟩;.rw[List.takeWhile_cons,Af (zv e'),g];rfl
    .rw[List.dropWhile_cons,Af (zv e'),f];rfl
 let⟨k,d,c,b⟩:=key l 0 hx;exact⟨k,d,zv c,b⟩
def Ui{l:List Int}{x:Int}{k:Nat}(hn:l.Nodup)(hk:l[k]?=zx x):l.take k++l.drop (k+1)=l.filter λy=>decide (y≠x):=by
 let⟨hlt,e⟩:=Aq.1 hk;have c:l=l.take k++x::l.drop (k+1):=by conv=>lhs;rw[<-CJ k l,AG hlt,e]
 rw[c,CO,Cl] at hn;conv=>rhs;rw[c,Fx,HM,Ac AH]
 rw[cZ.2 (λy hy=>zv (λb:y=x=>hn.2.2 y hy x AH b)),cZ.2 (λy hy=>zv (λb:y=x=>hn.2.1.1 (b▸hy)))]
def aGg{id l k:Nat}(hl:0<l)(hk:k<=l):AA (.K9 1 zj zj z3) [.CC id 0 l 1,I (k:Int)]=zx (.CC id 0 k 1):=by
 have b:FH (k:Int) l=zx k:=by rw[FH];rw[Af Ab];rfl
 simp[AA,KE,Ep,b];omega
def aGh{id l k:Nat}(hk:k<=l):AA (.K9 1 zj z3 zj) [.CC id 0 l 1,I (k:Int)]=zx (if k<l then .CC id k (l-k) 1 else .sl 1 []):=by
 have b:FH (k:Int) l=zx k:=by rw[FH];rw[Af Ab];rfl
 simp[AA,KE,Ep,b];split<;>rfl
def aJ7{id k:Nat}{l:List Int}{cs:List Aa}(hc:h[id]?=zx (zl (l.map (zd z8)++cs)))(hk:k<zz l)(hb:zz l<=1000000000):
  ∃HJ,BK cx 362 [.CC id 0 (zz l) 1,I (k:Int),I ((k+1:Nat):Int)] h (.CC id 0 (zz l-1) 1) (h.set id (zl ((l.take k++l.drop (k+1)).map (zd z8)++HJ))):=by
 have IC:=(Aq.1 hc).1;have b:(l.take k++l.drop (k+1)).length=zz l-1:=by rw[Aw,Ax,Bi];omega
 obtain⟨TH,q,hcl⟩:∃TH,GF h 1 8 (.CC id 0 k 1) (if k+1<zz l then .CC id (k+1) (zz l-(k+1)) 1 else .sl 1 [])=zx (h.set id (zl ((l.take k++l.drop (k+1)).map (zd z8)++TH)),.CC id 0 (zz l-1) 1)/\1<=zz TH:=by
  have j:Hz h 1 (if k+1<zz l then .CC id (k+1) (zz l-(k+1)) 1 else .sl 1 [])=zx ((l.drop (k+1)).map Cb):=by
   by_cases Re:k+1<zz l;rotate_left;.rw[Ac Re,AT Ab];rfl
   rw[Af Re];have d:=N6 (l:=l.drop (k+1)) (cs:=cs) (UO:=(l.take (k+1)).map (zd z8));rw[<-AK,<-BL,CJ] at d;simp only[Ao,Ax,Bi] at d;rw[Ct Ab] at d;simp only[Hz,BR,hc,d];rw[Af EP]
  by_cases î:k+1=zz l
  .refine⟨I l[k]::cs,?_,AH⟩;have o:l.drop (k+1)=[]:=AT Ab;rw[o] at j⊢;have g:l.map (zd z8)++cs=(l.take k++[]).map (zd z8)++ I l[k]::cs:=by
    have:l=l.take k++[l[k]]:=by conv=>lhs;rw[<-CJ k l,AG hk,o]
    conv=>lhs;rw[this,BL,AK]
    rw[BB];rfl
   have p:h.set id (zl ((l.take k++[]).map (zd z8)++ I l[k]::cs))=h:=by rw[<-g];let⟨eH,v⟩:=Aq.1 hc;rw[<-v,Kj]
   simp only[GF,j,Da,BR];rw[p,(Ab:zz l-1=k)]
  .obtain⟨y,c,hd⟩:∃y c,l.drop (k+1)=y::c:=⟨_,_,AG (Ab:k+1<zz l)⟩;have lj:(y::c).length=zz l-(k+1):=by rw[<-hd,Bi]
   rw[hd] at j;have aJ8:∀l3:List Int,(l3.map Cb).flatten=l3.map (zd z8):=by
    intro l3;induction l3 with
    |nil=>rfl
    |cons z l3 ih=>simp[Cb,ih]
   refine⟨(l.map (zd z8)++cs).drop (zz l-1),?_,EP⟩;simp only[GF,j,Bm,hc,BR];have u:(Cb y::c.map Cb).length=zz l-(k+1):=by rw[<-lj];simp
   have t:(Cb y::c.map Cb).flatten=(y::c).map (zd z8):=by have:=aJ8 (y::c);exact zv this
   rw[u,t,Af EP];have s:(l.map (zd z8)++cs).take (0+k*1)=(l.take k).map (zd z8):=by rw[B2,Ge,C6 EP,FM]
   rw[s,hd,(Ab:0+(k+(zz l-(k+1)))*1=zz l-1),(Ab:k+(zz l-(k+1))=zz l-1)];simp
 generalize e:h.set id (zl ((l.take k++l.drop (k+1)).map (zd z8)++TH))=h2 at q;have JH:h2[id]?=zx (zl ((l.take k++l.drop (k+1)).map (zd z8)++TH)):=by rw[<-e];exact AY IC
 have o:EF (.og 1 z3 z3) h2 [.CC id 0 (zz l-1) 1,I ((zz l-1:Nat):Int),I (zz l:Int)]=zx (h2,.CC id (zz l-1) 1 1):=by
  simp only[EF,p9,JH];have ah:((l.take k++l.drop (k+1)).map (zd z8)++TH).length=zz l-1+zz TH:=by rw[Aw,Ao,b]
  have w:FH (zz l:Int) ((((l.take k++l.drop (k+1)).map (zd z8)++TH).length-0)/1)=zx (zz l):=by rw[FH];rw[Af (by rw[ah];omega)];rfl
  have d:FH ((zz l-1:Nat):Int) (zz l)=zx (zz l-1):=by rw[FH];rw[Af Ab];rfl
  rw[Af ⟨trivial,trivial,AV _⟩];simp only[Ep,w,d,CP,B6];rw[Af (by rw[ah];omega)];congr 3
  .omega
  .omega
 have r:EF (.clear 1 [I 0]) h2 [.CC id (zz l-1) 1 1]=zx (h.set id (zl ((l.take k++l.drop (k+1)).map (zd z8)++(I 0::TH.drop 1))),zh z3):=by
  simp only[EF,Ym,JH];rw[Af ⟨trivial,rfl,by rw[Aw,Ao,b];omega⟩];congr 2
  rw[<-e,vL];congr 2
  have g:(((l.take k++l.drop (k+1)).map (zd z8)++TH).take (zz l-1))=(l.take k++l.drop (k+1)).map (zd z8):=Io (by rw[Ao,b]);have p:(((l.take k++l.drop (k+1)).map (zd z8)++TH).drop (zz l-1+1*1))=TH.drop 1:=by rw[show zz l-1+1*1=((l.take k++l.drop (k+1)).map (zd z8)).length+1 by rw[Ao,b],UI];simp
  rw[g,p];simp
 refine⟨I 0::TH.drop 1,?_⟩;have f:∀i n,AA (.len zj) [.CC i 0 n 1]=zx (I (n:Int)):=λ_ _=>rfl;have g:EF (.v8 1) h [.CC id 0 (zz l) 1,I (k:Int),I ((k+1:Nat):Int),I (zz l:Int)]=zx (h,zh z3):=by simp only[EF,Yn];simp;omega
 simp only[Ad,nA,abS,f,g,(Ab:¬(k:Int)=((k+1:Nat):Int)),aGg (id:=id) (Ab:0<l.length) (Ab:k<=l.length),aGh (id:=id) (Ab:k+1<=l.length),q,o,r]
def ï:∀{n:Nat} {l:List Int},l.Nodup->(∀x∈l,1<=x/\x<=n)->zz l<=n
 |0,l,_,h=>by
  cases l with
  |nil=>simp
  |cons x l=>have:=h x AH;omega
 |n+1,l,hn,h=>by
  have ih:=ï (n:=n) (l:=l.filter λx=>decide (x≠(n:Int)+1)) (hn.filter _) (λx hx=>by
   have h1:=Gc.1 hx;have h2:=h x h1.1;have c:x≠(n:Int)+1:=zv h1.2
   omega)
  have key:∀{l:List Int},l.Nodup->zz l<=(l.filter λx=>decide (x≠(n:Int)+1)).length+1:=by
   intro l hl;induction l with
   |nil=>simp
   |cons x l ih=>
    rw[Cl] at hl;rw[HM];by_cases e:x=(n:Int)+1;.rw[Ac (by simp[e]),cZ.2 (λy hy=>zv (λb:y=(n:Int)+1=>hl.1 (by rwa[e,<-b])))];simp
    .rw[Af (zv e)];have:=ih hl.2;simp only[Bn];omega
  have:=key hn;omega
def aB{e:Int}(ok:E1 A e)(x:Int):(A.nd x).Be.length<=zz A.n:=by
 by_cases hx:A.has x;.refine ï (ok.T1 x hx).sm λk hk=>?_;exact(ok.NJ x hx k hk).1
 .rw[H6 hx];exact AV _
def N4.Be{e:Int}(b:N4 A)(ok:E1 A e)(x:Int):(A.nd x).Be.length<=1000000000:=Bv (aB ok x) b.n
def N4.aPq{l:List Int}(b:N4 A):N4 (A.set x {A.nd x with Be:=l}):=b.set (b.at_ x) (b.data x)
def N4.aPr{p:Int}(b:N4 A):N4 (A.set x {A.nd x with Gm:=p}):=b.set (b.at_ x) (b.data x)
def N4.cut(b:N4 A):N4 (A.cut x):=by
 rw[Ar.cut];simp only;split;.exact b
 .exact N4.aPr b.aPq
def aDH{e:Int}(w:PA h a n m ps A)(l:N4 A)(ok:E1 A e)(hx:A.has x):
  ∃h' JK,BK cx 237 [Pt a 0,I x] h (zr []) h'/\PA h' a n m JK (A.cut x)/\Du h (λi=>i∈GH a n m ps) h' (λi=>i∈GH a n m JK):=by
 have hb:=l.Be ok;by_cases hp:(A.nd x).Gm=0
 .have u:A.cut x=A:=by rw[Ar.cut];simp only;rw[Af hp]
  refine⟨h,ps,?_,by rwa[u],.refl⟩;simp[Ad,XU,abS,JC w l hx,w.f1 hx,hp]
 .let⟨hq,hk⟩:=ok.Gm x hx hp;generalize d:(A.nd x).Gm=q at*;have hne:q≠x:=by rw[<-d];exact yR ok hx (by rwa[d])
  let⟨k,r,K,D,_,_⟩:=oK hk;have NJ:=w.NJ hq;have o:=aGf NJ.S4 (hb q) x;rw[K] at o;rcases lp:NJ with⟨_,e0⟩|⟨id,cs,b,hc⟩
  .rw[e0] at r;simp at r
  clear lp;rw[b] at o;let⟨HJ,r2⟩:=aJ7 hc r (hb q);rw[Ui (ok.T1 q hq).sm D] at r2;have dS:(A.nd q).Be.length-1=((A.nd q).Be.filter λy=>decide (y≠x)).length:=by rw[<-Ui (ok.T1 q hq).sm D,Aw,Ax,Bi];omega
  rw[dS] at r2;have py:=(Aq.1 hc).1;have s:=(w.pn hq).2.1;generalize c:h.set id (zl (((A.nd q).Be.filter λy=>decide (y≠x)).map (zd z8)++HJ))=h1 at r2;have aJ9:id∈GH a n m ps:=L1 (w.pn hq).2.2 (by rw[b];rfl);have aPs:id≠n:=by intro f;have:=w.nd;rw[GH] at this;simp only[Cl,AR,Ly] at this;exact this.2.1 (f▸Ay.2 (ze (Ck.2 ⟨_,(w.pn hq).2.2,by rw[b];rfl⟩)))
  have aU3:id≠a:=by intro f;have:=w.nd;rw[GH] at this;simp only[Cl,AR,Ly] at this;exact this.1.2 (f▸Ay.2 (ze (Ck.2 ⟨_,(w.pn hq).2.2,by rw[b];rfl⟩)))
  obtain⟨g,So⟩:∃g:PN,g=⟨{A.nd q with Be:=(A.nd q).Be.filter λy=>decide (y≠x)},.CC id 0 ((A.nd q).Be.filter λy=>decide (y≠x)).length 1,(pN ps q).av,w.ç hq⟩:=⟨_,rfl⟩;have aKa:g.row=(pN ps q).row.set 2 (.CC id 0 ((A.nd q).Be.filter λy=>decide (y≠x)).length 1):=by simp only[So,z5];rw[s];rfl
  have z:h1[n]?=h[n]?:=by rw[<-c,Au aPs]
  have B:=w.sto hq (k:=2) Bf (v:= .CC id 0 ((A.nd q).Be.filter λy=>decide (y≠x)).length 1) rfl aKa z;have aKb:Ii g.kv=Ii (pN ps q).kv:=by rw[So,b];rfl
  have w1:=w.vp hq (p:=g) (h1:=h1) (λi _ hi=>by rw[<-c,Au];intro f;exact hi (by rw[b,f];rfl)) (by rw[So];exact ze ⟨id,HJ,rfl,by rw[<-c];exact AY py⟩) (zb aKb)
  have aDI:=k_ w hq aKb;generalize j:h1.set n (zl ((ps.set (q.toNat-1) g).map z5).flatten)=h2 at B w1;generalize aU4:ps.set (q.toNat-1) g=Yd at w1 aDI;have t:g.x={A.nd q with Be:=(A.nd q).Be.filter λy=>decide (y≠x)}:=by rw[So]
  rw[t] at w1;have PY:(A.set q {A.nd q with Be:=(A.nd q).Be.filter λy=>decide (y≠x)}).has x:=IV.2 hx;have cT:=(w1.pn PY).2.1;have ND:(A.set q {A.nd q with Be:=(A.nd q).Be.filter λy=>decide (y≠x)}).nd x=A.nd x:=by rw[Kf,Ac (λh=>hne h.1.symm)]
  let⟨L,G,E,i3,H,l3⟩:=w1.wr PY (k:=1) Bf (v:= I 0) rfl (p:=⟨{A.nd x with Gm:=0},(pN Yd x).kv,(pN Yd x).av,by have:=(pN Yd x).ok;rwa[cT,ND] at this⟩) (by simp only[z5];rw[cT,ND];rfl) rfl (Cj Fc.Be ND).symm;have u:A.cut x=(A.set q {A.nd q with Be:=(A.nd q).Be.filter λy=>decide (y≠x)}).set x {A.nd x with Gm:=0}:=by rw[Ar.cut];simp only;rw[d,Ac hp,ND]
  refine⟨L,_,?_,by rwa[u],?_⟩;.have inc:=Vg (show k<9223372036854775807 by have:=hb q;omega);simp only[Ad,XU,abS,JC w l hx,JC w l hq,w.f1 hx,d,hp,w.f2 hq,b,o,inc,r2,B,G]
  .have aU5:zz h2=zz h:=by rw[<-j,Br,<-c,Br]
   refine⟨Ab,λi hi W0=>?_,λi hi=> zb (by rwa[i3,aDI] at hi)⟩;have C:i≠n:=λf=>W0 (f▸by simp[GH]);have J:i≠id:=λf=>W0 (f▸aJ9);rw[H i C,<-j,Au (DY C),<-c,Au (DY J)]
def tP{p:PN}(w:PA h a n m ps A)(hx:A.has x){i:Nat}(hi:i∈GH a n m (ps.set (x.toNat-1) p)):i∈GH a n m ps\/Ii p.kv=zx i:=by
 let⟨c,b⟩:=Z6 w hx p;rw[GH] at hi⊢;rw[b,E7] at hi;simp only[AR,Ay,Ck] at hi⊢;obtain h1|h1|h1|⟨q,h1,h2⟩|⟨q,h1,h2⟩:=hi
 .exact zb (zb h1)
 .exact zb (ze (zb h1))
 .exact zb (ze (ze (zb h1)))
 .exact zb (ze (ze (ze ⟨q,BJ h1,h2⟩)))
 .rcases h1 with rfl|h1
  .exact ze h2
  .exact zb (ze (ze (ze ⟨q,BO h1,h2⟩)))
def ð{kv:Aa}{l:List Int}{k:Nat}(hk:KR h kv l)(Re:k<=zz l)(hb:zz l<=1000000000)(y:Int):
  ∃h1,EF .wz h [kv,I (k:Int),.sl 1 [[I y]]]=zx (h1,.CC (zz h) 0 (zz l+1) 1)/\h1[zz h]?=zx (zl ((l.take k++y::l.drop k).map (zd z8)))/\(∀i,i<zz h->Ii kv≠zx i->h1[i]?=h[i]?)/\zz h1=zz h+1:=by
 rcases hk with⟨rfl,rfl⟩|⟨id,cs,rfl,hc⟩
 .have:k=0:=zv Re
  subst this;exact⟨h++[zl [I y]],rfl,AH,λi hi _=>Ak hi,AH⟩
 .refine⟨h.set id .CU++[zl ((l.take k++y::l.drop k).map (zd z8))],?_,by rw[Bz AH];simp,λi hi hn=>?_,AH⟩
  .simp only[EF,Rb,hc];rw[Af (by have:A0=140737488355328:=rfl;simp;omega)];simp only[A3];have c:(l.map (zd z8)++cs).take k=(l.take k).map (zd z8):=by rw[C6 (zv Re),FM]
   have b:(l.map (zd z8)++cs).take (zz l)=l.map (zd z8):=Io AH;rw[c,b];simp
  .rw[Ak (zv hi),Au];intro e;exact hn (by rw[e];rfl)
def Pn{p b:Int}(hf:¬Q_ A p x b):A.Gs p x b=A:=by rw[Ar.Gs];rw[Ac hf]
def ñ{l:List Int}{b y:Int}{k:Nat}(hb:b=0->k=zz l)(h2:b≠0->l.takeWhile (λy=>decide (y≠b))=l.take k/\l.dropWhile (λy=>decide (y≠b))=l.drop k):JJ l b y=l.take k++y::l.drop k:=by
 rw[JJ];by_cases h0:b=0;.rw[Af h0,hb h0];simp
 .rw[Ac h0,(h2 h0).1,(h2 h0).2]
open Classical in
def aKc{e p b:Int}(w:PA h a n m ps A)(d:N4 A)(ok:E1 A e):
  ∃er h' JK,BK cx 110 [Pt a 0,I p,I x,I b] h (I er) h'/\PA h' a n m JK (A.Gs p x b)/\Du h (λi=>i∈GH a n m ps) h' (λi=>i∈GH a n m JK):=by
 by_cases cT:A.has p/\A.has x;rotate_left;.refine⟨3,h,ps,?_,by rw[Pn (λf=>cT ⟨f.hp,f.hn⟩)];exact w,.refl⟩;rw[Ad,MB];simp only[abS,Gk,Mj (x:=p) (y:=x) w,Ac cT,B3,KD]
 obtain⟨hp,hx⟩:=cT;by_cases hb:b≠0/\¬A.has b;.refine⟨3,h,ps,?_,by rw[Pn (λf=>hb.2 (f.hb hb.1).1)];exact w,.refl⟩;rw[Ad,MB];simp only[abS,Gk,Mj (x:=p) (y:=x) w,Af (And.intro hp hx),B3,CG,hb.1,Xj (x:=b) w,Al hb.2,A8]
 have Rg:b=0\/(b≠0/\A.has b):=by
  by_cases h0:b=0;.exact .inl h0
  .refine .inr ⟨h0,?_⟩;by_cases h1:A.has b;.exact h1
   .exact absurd ⟨h0,h1⟩ hb
 by_cases kp:LZ (A.nd p).kind;rotate_left
 .refine⟨4,h,ps,?_,by rw[Pn (λf=>kp f.kp)];exact w,.refl⟩;unfold LZ at kp;have c:¬(A.nd p).kind=1:=λe=>kp (.inl e);have t:¬(A.nd p).kind=2:=λe=>kp (.inr (.inl e));have H:¬(A.nd p).kind=4:=λe=>kp (.inr (.inr e));rw[Ad,MB];rcases Rg with h0|⟨h0,PL⟩
  .simp only[abS,Gk,Mj (x:=p) (y:=x) w,Af (And.intro hp hx),B3,CG,JC w d hp,JC w d hx,w.f0 hp,w.f0 hx,c,A8,h0,t,H]
  .simp only[abS,Gk,Mj (x:=p) (y:=x) w,Af (And.intro hp hx),B3,CG,JC w d hp,JC w d hx,w.f0 hp,w.f0 hx,c,A8,h0,Xj (x:=b) w,As PL,t,H]
 by_cases kn:(A.nd x).kind=1\/(A.nd x).kind=2
 .refine⟨4,h,ps,?_,by rw[Pn (λf=>by have:=f.kn;omega)];exact w,.refl⟩;rw[Ad,MB];rcases kp with c|c|c<;>rcases kn with t|t<;>rcases Rg with h0|⟨h0,PL⟩
  all_goals first|(simp only[abS,Gk,Mj (x:=p) (y:=x) w,Af (And.intro hp hx),B3,CG,JC w d hp,JC w d hx,w.f0 hp,w.f0 hx,c,KD,A8,h0,t];done)|simp only[abS,Gk,Mj (x:=p) (y:=x) w,Af (And.intro hp hx),B3,CG,JC w d hp,JC w d hx,w.f0 hp,w.f0 hx,c,KD,A8,h0,Xj (x:=b) w,As PL,t]
 have l:¬(A.nd x).kind=1:=λe=>kn (.inl e);have g:¬(A.nd x).kind=2:=λe=>kn (.inr e);have r:=aJ6 w ok hx hp;by_cases re:Reach A x p
 .refine⟨4,h,ps,?_,by rw[Pn (λf=>f.re re)];exact w,.refl⟩;rw[As re] at r;rw[Ad,MB];rcases kp with c|c|c<;>rcases Rg with h0|⟨h0,PL⟩
  all_goals first|(simp only[abS,Gk,Mj (x:=p) (y:=x) w,Af (And.intro hp hx),B3,CG,JC w d hp,JC w d hx,w.f0 hp,w.f0 hx,c,KD,A8,h0,l,g,r];done)|simp only[abS,Gk,Mj (x:=p) (y:=x) w,Af (And.intro hp hx),B3,CG,JC w d hp,JC w d hx,w.f0 hp,w.f0 hx,c,KD,A8,h0,Xj (x:=b) w,As PL,l,g,r]
 rw[Al re] at r;by_cases q:b≠0/\(b=x\/(A.nd b).Gm≠p)
 .refine⟨5,h,ps,?_,by rw[Pn (λf=>by have:=f.hb q.1;rcases q.2 with h|h;exact this.2.1 h;exact h this.2.2)];exact w,.refl⟩;obtain⟨h0,q⟩:=q;have PL:=(Rg.resolve_left h0).2;rw[Ad,MB];by_cases o:b=x;.have aU6:=o;rcases kp with c|c|c<;>simp only[abS,Gk,Mj (x:=p) (y:=x) w,Af (And.intro hp hx),B3,CG,JC w d hp,JC w d hx,w.f0 hp,w.f0 hx,c,KD,A8,l,g,r,o,show¬x=0 from o▸h0,As hx,Xj (x:=x) w]
  .have q:=q.resolve_left o;rcases kp with c|c|c<;>simp only[abS,Gk,Mj (x:=p) (y:=x) w,Af (And.intro hp hx),B3,CG,JC w d hp,JC w d hx,w.f0 hp,w.f0 hx,c,KD,A8,h0,Xj (x:=b) w,As PL,l,g,r,o,JC w d PL,w.f1 PL,q]
 have fits:Q_ A p x b:=⟨hp,hx,λh0=>⟨(Rg.resolve_left h0).2,λe=>q ⟨h0,.inl e⟩,by
  by_cases h1:(A.nd b).Gm=p;.exact h1
  .exact absurd ⟨h0,.inr h1⟩ q⟩,kp,⟨l,g⟩,re⟩
 have hA:A.Gs p x b=(A.cut x).L9 p x b:=by unfold Ar.Gs;rw[Af fits]
 obtain⟨h1,Yd,R,w1,V⟩:=aDH w d ok hx;have Xl:=Vo ok hx g;have K:=d.cut (x:=x);have So:(A.cut x).has p:=LJ.2 hp;have PY:(A.cut x).has x:=LJ.2 hx;have L:x≠p:=by rintro rfl;exact re .refl
 have D:=K.Be Xl p;obtain⟨k,Re,C,ŗ⟩:∃k,k<=((A.cut x).nd p).Be.length/\(b=0->k=((A.cut x).nd p).Be.length)/\(b≠0->Cn (λy=>decide (b=y)) 0 ((A.cut x).nd p).Be=(k:Int)/\((A.cut x).nd p).Be.takeWhile (λy=>decide (y≠b))=((A.cut x).nd p).Be.take k/\((A.cut x).nd p).Be.dropWhile (λy=>decide (y≠b))=((A.cut x).nd p).Be.drop k):=by
  by_cases h0:b=0;.exact⟨_,Ae _,λ_=>rfl,λh=>absurd h0 h⟩
  .have u:=fits.hb h0;have ò:((A.cut x).nd b).Gm=p:=by
    rw[S1 ok hx,Ac u.2.1];split;.exact u.2.2
    .exact u.2.2
   have aBR:b∈((A.cut x).nd p).Be:=by have:=(Xl.Gm b (LJ.2 u.1) (by rw[ò];have:=hp.1;omega)).2;rwa [ò] at this
   obtain⟨k,c,t,_,H,Y⟩:=oK aBR;exact⟨k,Ab,λh=>absurd h h0,λ_=>⟨t,H,Y⟩⟩
 have Qw:=ñ (y:=x) C λh=>(ŗ h).2;have NJ:=w1.NJ So;obtain⟨h2,O,JH,bX,eH⟩:=ð NJ Re D x;have M:=(w1.pn So).2.1;obtain⟨s,tr⟩:∃s:PN,s=⟨{(A.cut x).nd p with Be:=JJ ((A.cut x).nd p).Be b x},.CC h1.length 0 (((A.cut x).nd p).Be.length+1) 1,(pN Yd p).av,w1.ç So⟩:=⟨_,rfl⟩;have B:s.x={(A.cut x).nd p with Be:=JJ ((A.cut x).nd p).Be b x}:=by rw[tr]
 have hrow:s.row=(pN Yd p).row.set 2 (.CC h1.length 0 (((A.cut x).nd p).Be.length+1) 1):=by rw[tr];simp only[PN.row];rw[M];rfl
 have aKe:n∈GH a n m Yd:=by simp[GH]
 have N:Ii (pN Yd p).kv≠some n:=by intro G;have:=w1.nd;unfold GH at this;simp only[Cl,AR,Ly] at this;exact this.2.1 (Ay.2 (.inr (Ck.2 ⟨_,(w1.pn So).2.2,G⟩)))
 have J:=w1.sto So (k:=2) Bf (v:= .CC h1.length 0 (((A.cut x).nd p).Be.length+1) 1) rfl hrow (bX n (w1.lt n aKe) N);have hlen:(JJ ((A.cut x).nd p).Be b x).length=((A.cut x).nd p).Be.length+1:=by rw[Qw,Aw,Bn,Ax,Bi];omega
 have z:=w1.vp So (p:=s) (h1:=h2) (λi hi hn=>bX i (w1.lt i hi) hn) (by rw[tr];refine .inr ⟨h1.length,[],by simp only[hlen],?_⟩;simp only[Qw,BB];exact JH) (.inr λj hj=>by rw[tr] at hj;cases hj;exact Ae _)
 have Qq:∀i,i∈GH a n m (Yd.set (p.toNat-1) s)->i∈GH a n m Yd\/i=h1.length:=by
  intro i hi;rcases tP w1 So hi with h|h
  .exact .inl h
  .rw[tr] at h;cases h;exact .inr rfl
 generalize E:h2.set n (.cells ((Yd.set (p.toNat-1) s).map PN.row).flatten)=h3 at J z;generalize aU9:Yd.set (p.toNat-1) s=ae at z Qq;rw[B] at z;have iP:((A.cut x).set p {(A.cut x).nd p with Be:=JJ ((A.cut x).nd p).Be b x}).has x:=IV.2 PY;have Tf:((A.cut x).set p {(A.cut x).nd p with Be:=JJ ((A.cut x).nd p).Be b x}).nd x=(A.cut x).nd x:=by rw[Kf,Ac (λh=>L h.1)]
 have cT:=(z.pn iP).2.1;obtain⟨T,P,W,Z,X,l4⟩:=z.wr iP (k:=1) Bf (v:= I p) rfl (p:=⟨{(A.cut x).nd x with Gm:=p},(pN ae x).kv,(pN ae x).av,by have:=(pN ae x).ok;rw[cT,Tf] at this;exact this⟩) (by simp only[PN.row];rw[cT,Tf];rfl) rfl (Cj Fc.Be Tf).symm;have aKf:(A.cut x).L9 p x b=((A.cut x).set p {(A.cut x).nd p with Be:=JJ ((A.cut x).nd p).Be b x}).set x {(A.cut x).nd x with Gm:=p}:=by unfold Ar.L9;simp only;rw[Tf]
 refine⟨0,T,_,?_,by rw[hA,aKf];exact W,?_⟩
 .rw[Ad,MB];by_cases h0:b=0;.rw[C h0] at O;have kl:=NJ.len;rcases kp with c|c|c<;>simp only[abS,Gk,Mj (x:=p) (y:=x) w,Af (And.intro hp hx),B3,CG,JC w d hp,JC w d hx,w.f0 hp,w.f0 hx,c,KD,A8,h0,l,g,r,R,w1.f2 So,kl,Hn,O,J,P]
  .have u:=fits.hb h0;have PL:=u.1;have Q:=aGf NJ.S4 D b;rw[(ŗ h0).1] at Q;have kl:=NJ.len;rcases kp with c|c|c<;>simp only[abS,Gk,Mj (x:=p) (y:=x) w,Af (And.intro hp hx),B3,CG,JC w d hp,JC w d hx,w.f0 hp,w.f0 hx,c,KD,A8,h0,Xj (x:=b) w,As PL,l,g,r,u.2.1,JC w d PL,w.f1 PL,u.2.2,R,w1.f2 So,kl,Q,Hn,O,J,P]
 .have pV:h3.length=h1.length+1:=by rw[<-E,Br,eH]
  have U:Du h1 (λi=>i∈GH a n m Yd) T (λi=>i∈GH a n m (ae.set (x.toNat-1) ⟨{(A.cut x).nd x with Gm:=p},(pN ae x).kv,(pN ae x).av,by have:=(pN ae x).ok;rw[cT,Tf] at this;exact this⟩)):=by
   refine⟨Ab,λi hi W0=>?_,λi hi=>?_⟩;.have S:i≠n:=λG=>W0 (G▸aKe);rw[X i S,<-E,Au (DY S)];exact bX i hi λG=>W0 (L1 (w1.pn So).2.2 G)
   .rw[Z] at hi;rcases Qq i hi with h|h
    .exact .inl h
    .exact .inr Ab
  exact V.trans U
end
def JP(a:Nat)(b:BS)(o c t:Aa):List Aa:=[Pt a 0,I b.CF,o,c,I b.mode,I b.RL,t,I b.head,I b.KP,zh b.Mz,I b.ctx.node,I b.ctx.A7,zt b.ctx.name,zh b.ctx.NM,zh b.fs,zh b.Fe,zt b.sV,zh b.skip,I b.sw,zh b.stop]
def S5(l:List Int)(v:Aa):Prop:=Ec l v\/(v= .GI 1/\l=[])
def Vz(l:List Int)(v:Aa):Prop:=S5 l v/\v≠ .sl 1 []
section
variable{h:Ah}{l:List Int}{v:Aa}
def S5.cells(t:S5 l v):v.cells=[v]:=by
 obtain t|⟨rfl,_⟩:=t
 .exact AX.cells t
 .rfl
def S5.len(t:S5 l v):AA (.len zj) [v]=zx (I (zz l:Int)):=by
 obtain t|⟨rfl,rfl⟩:=t
 .exact AX.CK t
 .rfl
section
variable(t:S5 l v)
def S5.ne(hne:l≠[]):Ec l v:=by
 obtain t|⟨_,e⟩:=t
 .exact t
 .cases hne e
def S5.S4:QR h v l:=⟨t.len,λk hk=>(Ec.S4 (t.ne (λe=>by rw[e] at hk;simp at hk))).at_ k hk⟩
end
def S5.Gg(t:S5 l v)(hb:zz l*8<=A0):∃u,AA (.append 1 8) [zf,v]=zx u/\Ec l u:=by
 obtain t|⟨rfl,rfl⟩:=t
 .exact AX.Gg t hb
 .exact⟨zf,rfl,ze ⟨rfl,rfl⟩⟩
def S5.yD(t:S5 l v)(m:Int)(hb:(zz l+1)*8<=A0):AA (.append 1 8) [v,.sl 1 [Cb m]]=zx (.sl 1 ((l++[m]).map Cb)):=by
 obtain t|⟨rfl,rfl⟩:=t
 .exact AX.JU t hb
 .rfl
def Vz.qa{m:Int}:Vz (l++[m]) (.sl 1 ((l++[m]).map Cb)):=⟨zb .mk,λe=>by injection e with _ e;simp at e⟩
def Vz.nil:Vz [] zf:=⟨zb (ze ⟨rfl,rfl⟩),nofun⟩
end
structure BX(h:Ah)(bi a:Nat)(o c t:Aa)(G:Nat->Prop)(b:BS):Prop where
 hb:h[bi]?=zx (zl (JP a b o c t))
 o:BZ b.AI o
 t:Vz b.tm t
 w:PW h G a b.a
 nb:¬G bi
section
variable{h:Ah}{bi a:Nat}{o c t:Aa}{G F:Nat->Prop}{b:BS}{x:Int}{m:Nat}
def BX.lt(w:BX h bi a o c t G b):bi<zz h:=(Aq.1 w.hb).1
def BX.Dj{h':Ah}(w:BX h bi a o c t G b)(hf:∀i,i=bi\/G i->h'[i]?=h[i]?):BX h' bi a o c t G b:=
 ⟨by rw[hf bi (zb rfl)];exact w.hb,w.o,w.t,w.w.Dj λi hi=>hf i (ze hi),w.nb⟩
def BX.HY(w:BX h bi a o c t G b){u:Ah}:BX (h++u) bi a o c t G b:=w.Dj λi hi=>Ak (by obtain rfl|hi:=hi;exact w.lt;exact w.w.lt hi)
section
variable(w:BX h bi a o c t G b)
def BX.ld(k:Nat):A5 h zc (Pt bi k)=(JP a b o c t)[k]?:=by simp[A5,w.hb,Fu]
def BX.l0:A5 h zc (Pt bi 0)=zx (Pt a 0):=w.ld 0
def BX.l1:A5 h zc (Pt bi 1)=zx (I b.CF):=w.ld 1
def BX.l4:A5 h zc (Pt bi 4)=zx (I b.mode):=w.ld 4
def BX.l7:A5 h zc (Pt bi 7)=zx (I b.head):=w.ld 7
def BX.l9:A5 h zc (Pt bi 9)=zx (zh b.Mz):=w.ld 9
def BX.Ŀ:A5 h zc (Pt bi 15)=zx (zh b.Fe):=w.ld 15
def BX.l3:A5 h zc (Pt bi 3)=zx c:=w.ld 3
def BX.l6:A5 h zc (Pt bi 6)=zx t:=w.ld 6
def BX.atO:At h bi 2 o:=⟨_,w.hb,rfl⟩
def BX.tQ:At h bi 3 c:=⟨_,w.hb,rfl⟩
def BX.sO:Mx h bi 2 b.AI:=⟨o,w.atO,w.o⟩
def BX.sA:rp h (Pt bi 2) b.AI:=w.sO.at
def I1:BK cx 145 [Pt bi 0] h (zh z3) h:=by simp[Ad,j7,abS,w.l0]
end
def PW.pa{A:Ar}(w:PW h G a A):∃n m ps,PA h a n m ps A:=let⟨n,m,ps,w,_⟩:=w;⟨n,m,ps,w⟩
section
variable(w:BX h bi a o c t G b)
def Xm(ok:BA b)(rm:B0 b m)(x:Int):∃K V u,BK cx 171 [Pt bi 0,I x] h (z6 [I (b.a.nd x).kind,I (b.a.nd x).Gm,K,I (b.a.nd x).CF,I (b.a.nd x).A7,zt (b.a.nd x).name,V,zt (b.a.nd x).data,zt (b.a.nd x).vz,zt (b.a.nd x).sys,zh (b.a.nd x).Cs,I (b.a.nd x).cont,I (b.a.nd x).EC]) (h++u)/\Ec (b.a.nd x).Be K/\JD (h++u) V (b.a.nd x).Aj/\Up (zz h) V:=by let⟨n,m',ps,d⟩:=w.w.pa;obtain⟨r,u,e,K,V,rfl,g,f⟩:=aGe (x:=x) d rm.Wt (rm.Wt.Be ok.ok x);refine⟨K,V,u,?_,g,f⟩;simp[Ad,kF,abS,w.l0,e]
def aGj(rm:B0 b m):BK cx 186 [Pt bi 0] h (z6 (DB b.AI).row) h:=by have:=rm.AI;simp only[Ad,kS,abS,ER,I1 w,f39 w.sA Ab]
def aKg(ok:BA b)(rm:B0 b m):BK cx 319 [Pt bi 0] h (zr [I b.KB.1,I b.KB.2]) h:=by
 have hl:=rm.AI;let⟨n,m',ps,g⟩:=w.w.pa;have f:=aBH w.sA (Ab:zz b.AI<=1000000000) Fw;have r2:=aBH w.sA (Ab:zz b.AI<=1000000000) AO;have b1:=Ls (q:=AU [Fw]) (l:=b.AI);have b2:=Ls (q:=AU [AO]) (l:=b.AI);rw[BS.KB];simp only
 generalize AZ (AU [Fw]) b.AI=d at f b1⊢;generalize AZ (AU [AO]) b.AI=i at r2 b2⊢;simp only[Ad,mF,BD,f,r2];refine⟨λh1=>?_,λh1=>⟨λh2=>?_,λh2=>?_⟩⟩;.rw[Af h1];simp only[BD,ER,Xh w.sA i]
 .rw[Ac h1,Af h2];simp only[BD,ER,Xh w.sA 0]
 .rw[Ac h1,Ac h2];simp only[abS,ER,Xh w.sA d,w.l0,aJU (x:=(Dc b.AI d).node) g rm.Wt];refine⟨λe=>?_,λe=>?_⟩;.rw[Af e]
  .rw[Ac e];have j:(if d-1<0 then 0 else d-1)=max (d-1) 0:=Ab;simp only[BD,ER,C0 d 1,iY,j,Xh w.sA (max (d-1) 0)]
end
def fG:AA (.Dk 1) [S Fw,S Vp,S Vq,S Vr,S wTr]=zx (.sl 1 (Ie.map Cr)):=D2 (ws:=Ie) rfl Bf
def aj{v:Aa}{ws:List Ai}(hv:IL ws v)(hn:zz ws<=1000000000)(a:Item)(h:Ah):BK cx 161 [z6 a.row,v] h (zh (AU ws a)) h:=by simp only[Ad,kC,BD,ER,aBG hv hn _ h,AU];refine⟨λh1=>by simp[h1],λh1=>by simp[h1]⟩
def ó{A:Ar}{x:Int}(hk:(A.nd x).kind=4)(ws:List Ai):AU ws ⟨0,(A.nd x).A7,(A.nd x).name,zj⟩=decide (T2 ws A x):=by
 by_cases h:T2 ws A x;.rw[As h];rw[AU];rw[As];exact⟨h.2.1,h.2.2⟩
 .rw[Al h];rw[AU];rw[Al];exact λh2=>h ⟨hk,h2.1,h2.2⟩
def aBV(w:BX h bi a o c t G b)(ok:BA b)(rm:B0 b m)(x:Int):∃u,BK cx 170 [Pt bi 0,I x] h (zr [I (b.place x).1,I (b.place x).2]) (h++u):=by
 have hl:=rm.AI;by_cases C:x=0/\b.AI=[]
 .refine⟨[],?_⟩;have D:b.place x=(b.CF,0):=by unfold BS.place;rw[Af C]
  rw[D,BB,Ad,XO];simp only[abS,I1 w,C.1,C.2,CG,Vy w.sA,Int.natCast_zero,w.l1]
 .obtain⟨t',ht⟩:∃t',t'=if x=0 then(DB b.AI).node else x:=⟨_,rfl⟩
  obtain⟨Z,X,r,U,_,_⟩:=Xm w ok rm t';have w1:=w.HY (u:=r);have D:b.place x=if(b.a.nd (if b.Fe=z3/\T2 Ie b.a t' then b.KB else(t',0)).1).cont≠0 then((b.a.nd (if b.Fe=z3/\T2 Ie b.a t' then b.KB else(t',0)).1).cont,0) else if b.Fe=z3/\T2 Ie b.a t' then b.KB else(t',0):=by unfold BS.place;rw[Ac C,<-ht]
  obtain⟨pb,fB⟩:∃pb,pb=if b.Fe=z3/\T2 Ie b.a t' then b.KB else(t',0):=⟨_,rfl⟩
  rw[<-fB] at D;obtain⟨Y,V,P,r2,_,_⟩:=Xm w1 ok rm pb.1;have T:=aKg w1 ok rm;have A:=aj (ws:=Ie) Cw Bf ⟨0,(b.a.nd t').A7,(b.a.nd t').name,zj⟩ (h++r);have em:∀s n,AA (.EM [I 0,I 0,S [],ff] [(1,1),(2,1)]) [I s,zt n]=zx (z6 (Item.row ⟨0,s,n,zj⟩)):=λ_ _=>rfl;refine⟨r++P,?_⟩;rw[<-AK];have last:∀(y:Int×Int),y=pb->W cx (.call 171 [Pt bi 0,I y.1] λp=> .cells 13 p λd=> .op (.int .neq) [g d 11,I 0] λk=> .GJ k (.ret .ret [zr [g d 11,I 0]]) (.ret .ret [zr [I y.1,I y.2]])) (λj vs h1=>j=Dm.ret/\vs=[zr [I (b.place x).1,I (b.place x).2]]/\h1=h++r++P) (h++r):=by
   rintro _ rfl;rw[D];simp only[BD,r2];refine⟨λh1=>?_,λh1=>?_⟩;.rw[Af h1]
   .rw[Ac h1]
  rw[Ad,XO];have Ŀ:=w1.Ŀ;have mid:W cx (.call 171 [Pt bi 0,I t'] λO=> .cells 13 O λq=> .OS 200009 (.op .J6 [Pt bi 0] λN=> .op (.K8 15) [N] λv16=> .load zc v16 λM=> .GJ M (.op (.int .eql) [g q 0,I 4] λL=> .GJ L (.op (.EM [I 0,I 0,S [],ff] [(1,1),(2,1)]) [g q 4,g q 5] λK=> .op (.Dk 1) [S aXA,S aYq,S aYo,S aYr,S [116,114]] λv20=> .call 161 [K,v20] λJ=> .ret yr [J]) (.ret yr [ff])) (.ret yr [ff])) (λx R=>match x with
    | yr=> .OS 100046 (.GJ (g R 0) (.call 319 [Pt bi 0] λz=> .op (.ext 0) [z] λH=> .op (.ext 1) [z] λE=> .ret .normal [H,E]) (.ret .normal [I t',I 0])) (λx f=>match x with
     | .normal=> .call 171 [Pt bi 0,g f 0] λp=> .cells 13 p λd=> .op (.int .neq) [g d 11,I 0] λk=> .GJ k (.ret .ret [.tuple [g d 11,I 0]]) (.ret .ret [.tuple [g f 0,g f 1]])
     | .exit i=> .fail
     | .ret=> .ret .ret [.tuple [g f 0,g f 1]])
    | .exit i=> .fail
    | .ret=> .ret .ret [.tuple [I t',I 0]])) (λj vs h1=>j=Dm.ret/\vs=[.tuple [I (b.place x).1,I (b.place x).2]]/\h1=h++r++P) h:=by
   rw[U];by_cases hf:b.Fe=z3
   .rw[hf] at Ŀ;by_cases B:(b.a.nd t').kind=4
    .rw[ó B] at A;by_cases hw:T2 Ie b.a t';.rw[As hw] at A;rw[Af ⟨hf,hw⟩] at fB;have:=last b.KB fB.symm;simp only[abS,Ŀ,B,em,fG,A,T];simpa only[BD,Wn,Bn,BP] using this
     .rw[Al hw] at A;rw[Ac (λh=>hw h.2)] at fB;have:=last (t',0) fB.symm;simp only[abS,Ŀ,B,em,fG,A];simpa only[BD,Wn,Bn,BP] using this
    .rw[Ac (λh=>B h.2.1)] at fB;have:=last (t',0) fB.symm;simp only[abS,Ŀ,B];simpa only[BD,Wn,Bn,BP] using this
   .rw[Ac (λh=>hf h.1)] at fB;have:=last (t',0) fB.symm;rw[show b.Fe=zj by simpa using hf] at Ŀ;simp only[BD,Ŀ];simpa only[BD,Wn,Bn,BP] using this
  by_cases h0:x=0
  .have hne:b.AI≠[]:=λe=>C ⟨h0,e⟩;have Q:¬((b.AI.length:Nat):Int)=0:=by have:=Ej.2 hne;omega
   rw[Af h0] at ht;rw[ht] at mid;simp only[abS,I1 w];rw[h0] at mid⊢;simp only[abS,ER,Vy w.sA,Q,aGj w rm] at mid⊢;exact mid
  .rw[Ac h0] at ht;rw[ht] at mid;simp only[abS,I1 w,h0,DX] at mid⊢;exact mid
end
section
def tw{Q:HC}{h:Ah}{k:Aa->IT}:W cx (.P9 k) Q h↔W cx (k (za (zx (zz h)))) Q (h++[z0 (ft 0)]):=SP
section
variable{v:Aa}{l:List A9}{h:Ah}
def aPy(hv:AL l v)(hb:l.length<=1000)(sp:Int):∃u,BK cx 202 [I sp,v] h u (h++[.map (ft 11)])/\AL (l.map (C2 sp)) u:=by
 have DR:AX 3 (l.map zu) v:=hv;have IJ:Ev cx 202 [I sp,v] h λr h'=>h'=h++[.map (ft 11)]/\AL (l.map (C2 sp)) r:=by
  unfold Ev;rw[lH,aJk];rw[tw];simp only[BD,Nat.reduceLeDiff,↓reduceIte,AQ,Cf,yM,aI1,aI2,aI3,aI4,aI5,aI6,aI7,aI8,aI9,aJa,aFs,DR.CK];refine Bj (λp:Nat×Aa=>[p.2,I (p.1:Int)]) (λp h1=>p.1<=l.length/\AL ((l.take p.1).map (C2 sp)) p.2/\h1=h++[.map (ft 11)]) (λp=>l.length-p.1) (0,.slnil) rfl ⟨AV _,.nil,rfl⟩ ?_;rintro⟨n,u⟩ h1 ⟨hn,hu,rfl⟩;simp only at hn hu;rcases AP n l.length with hlt|Et
  .have i1:(n:Int)<(l.length:Int):=by omega
   have GV:∀{q:List Aa},q=(C2 sp l[n]).row->∃w,AA (.append 3 40) [u,.sl 3 [q]]=zx w/\AL ((l.take (n+1)).map (C2 sp)) w:=by
    rintro _ rfl;refine⟨_,AX.JU (f:=zu) (a:=C2 sp l[n]) (b:=40) hu ?_,?_⟩;.simp[A0];omega
    .rw[AB hlt,BL];exact .mk
   have inc:=By n;by_cases e:sp=2
   .subst e;cases c:Em (Cq l[n].name IE) with
    |some x=>obtain⟨w,d,hw⟩:=GV (q:=[I x.1,.str x.2,.str l[n].value]) (by simp only[C2,KO,true_or,BR,c,A9.row]);simp only[BD,Nat.reduceLeDiff,↓reduceIte,AQ,i1,DR.BG hlt,Cf,A9.row,(aJx _).BM rfl rfl,Az,Av,Ap,M4,c,Ew,d,inc];exact AJ.next (n+1,w) rfl ⟨hlt,hw,rfl⟩ DA
    |none=>obtain⟨w,d,hw⟩:=GV (q:=[I 0,.str (Cq l[n].name IE),.str l[n].value]) (by simp only[C2,KO,true_or,BR,c,A9.row]);simp only[BD,Nat.reduceLeDiff,↓reduceIte,AQ,i1,DR.BG hlt,Cf,A9.row,(aJx _).BM rfl rfl,Az,Av,Ap,M4,c,Ew,d,inc];exact AJ.next (n+1,w) rfl ⟨hlt,hw,rfl⟩ DA
   by_cases g:sp=3
   .subst g;by_cases hd:l[n].name=aFt
    .have c:Em Xc=none:=by decide
     obtain⟨w,d,hw⟩:=GV (q:=[I 0,.str Xc,.str l[n].value]) (by simp only[C2,KO,hd,or_true,BR,EV,c,A9.row,vJ,e]);simp only[BD,Nat.reduceLeDiff,↓reduceIte,AQ,i1,DR.BG hlt,Cf,A9.row,hd,KD,Az,Ag,Av,Ap,M4,c,Ew,d,inc];exact AJ.next (n+1,w) rfl ⟨hlt,hw,rfl⟩ DA
    .cases c:Em l[n].name with
     |some x=>obtain⟨w,d,hw⟩:=GV (q:=[I x.1,.str x.2,.str l[n].value]) (by simp only[C2,KO,hd,or_true,BR,EV,c,A9.row,aEg,e]);simp only[BD,Nat.reduceLeDiff,↓reduceIte,AQ,i1,DR.BG hlt,Cf,A9.row,hd,KD,Az,Ag,Av,Ap,M4,c,Ew,d,inc];exact AJ.next (n+1,w) rfl ⟨hlt,hw,rfl⟩ DA
     |none=>obtain⟨w,d,hw⟩:=GV (q:=[I 0,.str l[n].name,.str l[n].value]) (by simp only[C2,KO,hd,or_true,BR,EV,c,A9.row,aEg,e]);simp only[BD,Nat.reduceLeDiff,↓reduceIte,AQ,i1,DR.BG hlt,Cf,A9.row,hd,KD,Az,Ag,Av,Ap,M4,c,Ew,d,inc];exact AJ.next (n+1,w) rfl ⟨hlt,hw,rfl⟩ DA
   .obtain⟨w,d,hw⟩:=GV (q:=[I 0,.str l[n].name,.str l[n].value]) (by simp only[C2,e,g,or_self,EV,A9.row]);cases c:Em l[n].name with
    |some x=>simp only[BD,Nat.reduceLeDiff,↓reduceIte,AQ,i1,DR.BG hlt,Cf,A9.row,e,g,Az,Ag,Av,Ap,M4,c,Ew,d,inc];exact AJ.next (n+1,w) rfl ⟨hlt,hw,rfl⟩ DA
    |none=>simp only[BD,Nat.reduceLeDiff,↓reduceIte,AQ,i1,DR.BG hlt,Cf,A9.row,e,g,Az,Ag,Av,Ap,M4,c,Ew,d,inc];exact AJ.next (n+1,w) rfl ⟨hlt,hw,rfl⟩ DA
  .have i1:¬(n:Int)<(l.length:Int):=by omega
   rw[AF Et] at hu;simp only[BD,Nat.reduceLeDiff,↓reduceIte,AQ,i1,Ag,Av,Ap];exact⟨_,rfl,hu⟩
 obtain⟨r,h',hr,rfl,hu⟩:=IJ.ret;exact⟨r,hr,hu⟩
def Xn{Q:HC}{s:Ai}{k:Aa->IT}:W cx (.BM 358 [zt aXn,zt s] k) Q h↔W cx (k (zt (Cq s IE))) Q h:=by have e:=(aJv Rp s Bx).BM (Q:=Q) (h:=h) (k:=k) rfl rfl;rwa[Zp] at e
def VA{Q:HC}{s:Ai}{k:Aa->IT}(hs:zz s<9223372036854775807):W cx (.BM 138 [zt aXx,zt s] k) Q h↔W cx (k (zh (decide (s∈My)))) Q h:=by rw[GY Bf hs,Ź]
def aPz(hv:AL l v)(hs:∀a∈l,a.name.length<=1000)(hb:l.length<=1000)(sp:Int):∃u,BK cx 229 [I sp,v] h u h/\AL (l.map (C2 sp)) u:=by
 have DR:AX 3 (l.map zu) v:=hv;have IJ:Ev cx 229 [I sp,v] h λr h'=>h'=h/\AL (l.map (C2 sp)) r:=by
  unfold Ev;rw[aAT];refine Bj (λp:Nat×Aa=>[p.2,I (p.1:Int)]) (λp h1=>p.1<=l.length/\AL ((l.take p.1).map (C2 sp)) p.2/\h1=h) (λp=>l.length-p.1) (0,.slnil) rfl ⟨AV _,.nil,rfl⟩ ?_;rintro⟨n,u⟩ h1 ⟨hn,hu,rfl⟩;simp only at hn hu;rcases AP n l.length with hlt|Et
  .have i1:(n:Int)<(l.length:Int):=by omega
   have GV:∀{q:List Aa},q=(C2 sp l[n]).row->∃w,AA (.append 3 40) [u,.sl 3 [q]]=zx w/\AL ((l.take (n+1)).map (C2 sp)) w:=by
    rintro _ rfl;refine⟨_,AX.JU (f:=zu) (a:=C2 sp l[n]) (b:=40) hu ?_,?_⟩;.simp[A0];omega
    .rw[AB hlt,BL];exact .mk
   have inc:=By n;have PH:=hs _ (AN hlt);have aGk:∀nm,(sp=2\/sp=3)->KO sp l[n].name=nm->C2 sp l[n]=match Em nm with
     |zx (s,m)=>⟨s,m,l[n].value⟩
     |zc=>⟨0,nm,l[n].value⟩:=by
    rintro _ hsp rfl;rw[C2,Af hsp];rfl
   by_cases x:sp=2
   .subst x;have hnm:=aGk (Cq l[n].name IE) (.inl rfl) rfl;have pW:(Cq l[n].name IE).length<9223372036854775807:=by rw[TV];omega
    generalize hg:Cq l[n].name IE=nm at hnm pW;rcases Si nm with⟨e,i,d⟩|⟨e,⟨g,i,d⟩|⟨g,⟨j,i,d⟩|⟨j,⟨k,d⟩|⟨k,⟨o,d⟩|⟨o,d⟩⟩⟩⟩⟩
    .obtain⟨w,c,hw⟩:=GV (q:=[I 4,.str (nm.drop 6),.str l[n].value]) (by rw[hnm];simp only[d,A9.row]);simp only[BD,Nat.reduceLeDiff,↓reduceIte,AQ,DR.CK,i1,DR.BG hlt,Cf,A9.row,hg,Xn,KD,Az,Ag,Av,Ap,VA pW,e,sl6 i,Ew,c,inc];exact zp (n+1,w) rfl ⟨hlt,hw,rfl⟩ DA
    .obtain⟨w,c,hw⟩:=GV (q:=[I 5,.str (nm.drop 4),.str l[n].value]) (by rw[hnm];simp only[d,A9.row]);simp only[BD,Nat.reduceLeDiff,↓reduceIte,AQ,DR.CK,i1,DR.BG hlt,Cf,A9.row,hg,Xn,KD,Az,Ag,Av,Ap,VA pW,e,AE g,sl4 i,Ew,c,inc];exact zp (n+1,w) rfl ⟨hlt,hw,rfl⟩ DA
    .obtain⟨w,c,hw⟩:=GV (q:=[I 5,.str (nm.drop 4),.str l[n].value]) (by rw[hnm];simp only[d,A9.row]);simp only[BD,Nat.reduceLeDiff,↓reduceIte,AQ,DR.CK,i1,DR.BG hlt,Cf,A9.row,hg,Xn,KD,Az,Ag,Av,Ap,VA pW,e,g,AE j,sl4 i,Ew,c,inc];exact zp (n+1,w) rfl ⟨hlt,hw,rfl⟩ DA
    .obtain⟨w,c,hw⟩:=GV (q:=[I 6,.str nm,.str l[n].value]) (by rw[hnm];simp only[d,A9.row]);simp only[BD,Nat.reduceLeDiff,↓reduceIte,AQ,DR.CK,i1,DR.BG hlt,Cf,A9.row,hg,Xn,KD,Az,Ag,Av,Ap,VA pW,e,g,j,AE k,Ew,c,inc];exact zp (n+1,w) rfl ⟨hlt,hw,rfl⟩ DA
    .obtain⟨w,c,hw⟩:=GV (q:=[I 6,.str yN,.str l[n].value]) (by rw[hnm];simp only[d,A9.row]);simp only[BD,Nat.reduceLeDiff,↓reduceIte,AQ,DR.CK,i1,DR.BG hlt,Cf,A9.row,hg,Xn,KD,Az,Ag,Av,Ap,VA pW,e,g,j,k,AE o,Ew,c,inc];exact zp (n+1,w) rfl ⟨hlt,hw,rfl⟩ DA
    .obtain⟨w,c,hw⟩:=GV (q:=[I 0,.str nm,.str l[n].value]) (by rw[hnm];simp only[d,A9.row]);simp only[BD,Nat.reduceLeDiff,↓reduceIte,AQ,DR.CK,i1,DR.BG hlt,Cf,A9.row,hg,Xn,KD,Az,Ag,Av,Ap,VA pW,e,g,j,k,o,Ew,c,inc];exact zp (n+1,w) rfl ⟨hlt,hw,rfl⟩ DA
   by_cases t:sp=3
   .subst t;by_cases hd:l[n].name=aFt;.have hnm:=aGk Xc (.inr rfl) (by rw[KO,Ac Bf,Af ⟨rfl,hd⟩]);rw[(Bf:Em Xc=zc)] at hnm;obtain⟨w,c,hw⟩:=GV (q:=[I 0,.str Xc,.str l[n].value]) (by rw[hnm];rfl);have pW:Xc.length<9223372036854775807:=Bf;simp only[BD,Nat.reduceLeDiff,↓reduceIte,AQ,DR.CK,i1,DR.BG hlt,Cf,A9.row,hd,KD,Az,Ag,Av,Ap,VA pW,(Bf:Xc∉My),(Bf:¬Xc=sI),(Bf:¬Xc=Zv),(Bf:¬Xc=sJ),(Bf:¬Xc=Zw),Ew,c,inc];exact zp (n+1,w) rfl ⟨hlt,hw,rfl⟩ DA
    have hnm:=aGk l[n].name (.inr rfl) (by rw[KO,Ac Bf,Ac (λh=>hd h.2)]);have pW:l[n].name.length<9223372036854775807:=Ab;rcases Si l[n].name with⟨e,i,d⟩|⟨e,⟨g,i,d⟩|⟨g,⟨j,i,d⟩|⟨j,⟨k,d⟩|⟨k,⟨o,d⟩|⟨o,d⟩⟩⟩⟩⟩
    .obtain⟨w,c,hw⟩:=GV (q:=[I 4,.str (l[n].name.drop 6),.str l[n].value]) (by rw[hnm];simp only[d,A9.row]);simp only[BD,Nat.reduceLeDiff,↓reduceIte,AQ,DR.CK,i1,DR.BG hlt,Cf,A9.row,hd,Xn,KD,Az,Ag,Av,Ap,VA pW,e,sl6 i,Ew,c,inc];exact zp (n+1,w) rfl ⟨hlt,hw,rfl⟩ DA
    .obtain⟨w,c,hw⟩:=GV (q:=[I 5,.str (l[n].name.drop 4),.str l[n].value]) (by rw[hnm];simp only[d,A9.row]);simp only[BD,Nat.reduceLeDiff,↓reduceIte,AQ,DR.CK,i1,DR.BG hlt,Cf,A9.row,hd,Xn,KD,Az,Ag,Av,Ap,VA pW,e,AE g,sl4 i,Ew,c,inc];exact zp (n+1,w) rfl ⟨hlt,hw,rfl⟩ DA
    .obtain⟨w,c,hw⟩:=GV (q:=[I 5,.str (l[n].name.drop 4),.str l[n].value]) (by rw[hnm];simp only[d,A9.row]);simp only[BD,Nat.reduceLeDiff,↓reduceIte,AQ,DR.CK,i1,DR.BG hlt,Cf,A9.row,hd,Xn,KD,Az,Ag,Av,Ap,VA pW,e,g,AE j,sl4 i,Ew,c,inc];exact zp (n+1,w) rfl ⟨hlt,hw,rfl⟩ DA
    .obtain⟨w,c,hw⟩:=GV (q:=[I 6,.str l[n].name,.str l[n].value]) (by rw[hnm];simp only[d,A9.row]);simp only[BD,Nat.reduceLeDiff,↓reduceIte,AQ,DR.CK,i1,DR.BG hlt,Cf,A9.row,hd,Xn,KD,Az,Ag,Av,Ap,VA pW,e,g,j,AE k,Ew,c,inc];exact zp (n+1,w) rfl ⟨hlt,hw,rfl⟩ DA
    .obtain⟨w,c,hw⟩:=GV (q:=[I 6,.str yN,.str l[n].value]) (by rw[hnm];simp only[d,A9.row]);simp only[BD,Nat.reduceLeDiff,↓reduceIte,AQ,DR.CK,i1,DR.BG hlt,Cf,A9.row,hd,Xn,KD,Az,Ag,Av,Ap,VA pW,e,g,j,k,AE o,Ew,c,inc];exact zp (n+1,w) rfl ⟨hlt,hw,rfl⟩ DA
    .obtain⟨w,c,hw⟩:=GV (q:=[I 0,.str l[n].name,.str l[n].value]) (by rw[hnm];simp only[d,A9.row]);simp only[BD,Nat.reduceLeDiff,↓reduceIte,AQ,DR.CK,i1,DR.BG hlt,Cf,A9.row,hd,Xn,KD,Az,Ag,Av,Ap,VA pW,e,g,j,k,o,Ew,c,inc];exact zp (n+1,w) rfl ⟨hlt,hw,rfl⟩ DA
   .obtain⟨w,c,hw⟩:=GV (q:=[I 0,.str l[n].name,.str l[n].value]) (by simp only[C2,x,t,or_self,EV,A9.row]);simp only[BD,Nat.reduceLeDiff,↓reduceIte,AQ,DR.CK,i1,DR.BG hlt,Cf,A9.row,x,t,Az,Ag,Av,Ap,Ew,c,inc];exact zp (n+1,w) rfl ⟨hlt,hw,rfl⟩ DA
  .have i1:¬(n:Int)<(l.length:Int):=by omega
   rw[AF Et] at hu;simp only[BD,Nat.reduceLeDiff,↓reduceIte,AQ,DR.CK,i1,Ag,Av,Ap];exact⟨_,rfl,hu⟩
 obtain⟨r,h',hr,rfl,hu⟩:=IJ.ret;exact⟨r,hr,hu⟩
end
end
def Bu(bi:Nat)(G:Nat->Prop):Nat->Prop:=λi=>i=bi\/G i
section
variable{h h':Ah}{bi a:Nat}{o c t:Aa}{G G' F:Nat->Prop}{b:BS}{x:Int}{m:Nat}
def Du.aDL(x:Du h G h' G'):Du h (Am.Bu bi G) h' (Am.Bu bi G'):=⟨x.len,λi hi hn=>x.old i hi λhg=>hn (ze hg),λi hi=>by
 obtain rfl|hi:=hi
 .exact zb (zb rfl)
 .rcases x.Bu i hi with h|h
  .exact zb (ze h)
  .exact ze h⟩
def BX.lq{A':Ar}(w:BX h bi a o c t G b)(hp:PW h' G' a A')(x:Du h G h' G'):BX h' bi a o c t G' {b with a:=A'}/\Du h (Bu bi G) h' (Bu bi G'):=
 ⟨⟨by rw[x.old bi w.lt w.nb];exact w.hb,w.o,w.t,hp,λhg=>by obtain h|h:=x.Bu bi hg;exact w.nb h;have:=w.lt;omega⟩,x.aDL⟩
def BX.step{A':Ar}{R:Ah->Prop}(w:BX h bi a o c t G b)(d:∀n m ps,PA h a n m ps b.a->∃h' n' m' JK,R h'/\PA h' a n' m' JK A'/\Du h (λi=>i∈GH a n m ps) h' (λi=>i∈GH a n' m' JK)):
  ∃h' G',R h'/\BX h' bi a o c t G' {b with a:=A'}/\Du h (Bu bi G) h' (Bu bi G'):=by
 let⟨n,m,ps,g,e⟩:=w.w;let⟨h',n',m',JK,r,w',x⟩:=d n m ps g;have k:G=λi=>i∈GH a n m ps:=funext λi=>propext (e i);let⟨j,f⟩:=w.lq w'.pw (by rwa[k]);exact⟨h',_,r,j,f⟩
def BX.C3(w:BX h bi a o c t G b){u:Ah}:Du h (Bu bi G) (h++u) (Bu bi G):= .HY
def aKj{v:Aa}{l:List Int}{f:FuncId}{caps:List Aa}{q:Int->Bool}(hv:Ec l v)(hb:zz l<=1000000000)(hf:f<=99999)(hq:∀k∈l,∀u,∃d,BK cx f (I k::caps) (h++u) (zh (q k)) (h++u++d)):
  ∃u,BK cx 395 [v,yz (yx f) [] caps] h (I (Cn q 0 l)) (h++u):=by
 have DR:AX 1 (l.map Cb) v:=hv;have IJ:Ev cx 395 [v,yz (yx f) [] caps] h λr h'=>r= I (Cn q 0 l)/\∃u,h'=h++u:=by
  simp only[Ev,nM,BD,DR.CK];refine Bj (λk:Nat=>[I 0,I (k:Int)]) (λk h1=>k<=zz l/\Cn q 0 l=Cn q k (l.drop k)/\∃u,h1=h++u) (λk=>zz l-k) 0 rfl ⟨AV _,rfl,[],AH⟩ ?_;rintro k h1 ⟨hk,ha,u,rfl⟩;obtain hlt|Et:=AP k (zz l)
  .have i1:(k:Int)<(zz l:Int):=by omega
   have g:A5 (h++u) zc (.CH (Cb l[k]))=zx (I l[k]):=rfl;let⟨d,e⟩:=hq _ (AN hlt) u;rw[AG hlt,Cn] at ha;simp only[abS,Dw,i1,DR.BG hlt,g,hf,e,By k];rw[C5];refine⟨λh2=>?_,λh2=>?_⟩;.exact⟨_,rfl,by rw[ha,Af h2],u++d,AH⟩
   .rw[Ac (by simp[h2])] at ha;exact zp (k+1) rfl ⟨hlt,ha,u++d,AH⟩ Ab
  .have i1:¬(k:Int)<(zz l:Int):=by omega
   rw[AT Et,Cn] at ha;simp only[abS,Dw,i1];exact⟨_,rfl,by rw[ha],u,rfl⟩
 obtain⟨r,h',hr,rfl,u,rfl⟩:=IJ.ret;exact⟨u,hr⟩
def aBW{l:List Int}{q:Int->Bool}:decide (0<=Cn q 0 l)=l.any q:=by
 rcases Ic (p:=q) (l:=l) (k:=0) with⟨h1,h2⟩|⟨n,y,h1,h2,d⟩
 .rw[h1,wq];have:=Q8.1 h2;exact zv this
 .rw[h1,wq];have f:=List.find?_some d;have e:=RU d;rw[As Ab,Oa];exact⟨y,e,f⟩
def BX.self(w:BX h bi a o c t G b){A':Ar}(e:A'=b.a):BX h bi a o c t G {b with a:=A'}:=by subst e;exact w
open Classical in
def tR{p bf:Int}(w:BX h bi a o c t G b)(ok:BA b)(rm:B0 b m):∃h' G',BK cx 158 [Pt bi 0,I x,I p,I bf] h (zr []) h'/\BX h' bi a o c t G' {b with a:=b.a.ES x p bf}/\Du h (Bu bi G) h' (Bu bi G'):=by
 let⟨K1,V1,d,J,_,_⟩:=Xm w ok rm p;have w1:=w.HY (u:=d);have He:∀h2,(∃u,h2=h++u)->∃h' G',(∃s,BK cx 110 [Pt a 0,I p,I x,I bf] h2 (I s) h')/\BX h' bi a o c t G' {b with a:=b.a.Gs p x bf}/\Du h (Bu bi G) h' (Bu bi G'):=by
  rintro _ ⟨u,rfl⟩;have g:=w.HY (u:=u);let⟨h',G',r,w',x'⟩:=g.step (A':=b.a.Gs p x bf) (R:=λh'=>∃s,BK cx 110 [Pt a 0,I p,I x,I bf] (h++u) (I s) h') (λn m ps Q=>by let⟨s,h',JK,r,wp,P⟩:=aKc Q rm.Wt ok.ok (p:=p) (x:=x) (b:=bf);exact⟨h',n,m,JK,⟨s,r⟩,wp,P⟩)
  exact⟨h',G',r,w',w.C3.trans x'⟩
 by_cases A:(b.a.nd p).kind=1
 .let⟨K2,Z,j,r2,_,_⟩:=Xm w1 ok rm x;have g:=w1.HY (u:=j);by_cases D:(b.a.nd x).kind=4
  .let⟨V,W,ae,M⟩:=g.w.pa;let⟨K,O,U⟩:=aDy (x:=p) M rm.Wt (rm.Wt.Be ok.ok p);let⟨H,T⟩:=aKj (h:=h++d++j) (f:=306) (caps:=[.CH [Pt bi 0]]) (q:=λk=>decide ((b.a.nd k).kind=4)) U (rm.Wt.Be ok.ok p) Bf (λk _ u=>by have E:=g.HY (u:=u);let⟨K3,Y,S,y,_,_⟩:=Xm E ok rm k;refine⟨S,?_⟩;simp only[Ad,lY,BD,y])
   have i:BK cx 304 [K,yz (yx 306) [] [.CH [Pt bi 0]]] (h++d++j) (zh ((b.a.nd p).Be.any λk=>decide ((b.a.nd k).kind=4))) (h++d++j++H):=by rw[Ad,lX,<-aBW];simp only[BD,T]
   have E:=g.HY (u:=H);by_cases L:∃k∈(b.a.nd p).Be,(b.a.nd k).kind=4
   .have N:((b.a.nd p).Be.any λk=>decide ((b.a.nd k).kind=4))=z3:=zv L
    rw[N] at i;have z:b.a.ES x p bf=b.a:=by rw[Ar.ES];rw[Af ⟨A,D,L⟩]
    refine⟨_,G,?_,E.self z,(w.C3.trans w1.C3).trans g.C3⟩;simp only[Ad,Rz,abS,J,A,r2,D,g.l0,O,i]
   .have N:((b.a.nd p).Be.any λk=>decide ((b.a.nd k).kind=4))=zj:=by rw[aS3];intro k hk;exact zv (λe=>L ⟨k,hk,e⟩)
    rw[N] at i;have z:b.a.ES x p bf=b.a.Gs p x bf:=by rw[Ar.ES];rw[Ac (λh=>L h.2.2)]
    let⟨h',G',⟨s,y⟩,C,B⟩:=He (h++d++j++H) ⟨d++j++H,AH⟩;refine⟨h',G',?_,by rwa[z],B⟩;simp only[Ad,Rz,abS,J,A,r2,D,g.l0,O,i,E.l0,y]
  .have z:b.a.ES x p bf=b.a.Gs p x bf:=by rw[Ar.ES];rw[Ac (λh=>D h.2.1)]
   let⟨h',G',⟨s,y⟩,C,B⟩:=He (h++d++j) ⟨d++j,AH⟩;refine⟨h',G',?_,by rwa[z],B⟩;simp only[Ad,Rz,abS,J,A,r2,D,g.l0,y]
 .have z:b.a.ES x p bf=b.a.Gs p x bf:=by rw[Ar.ES];rw[Ac (λh=>A h.1)]
  let⟨h',G',⟨s,y⟩,C,B⟩:=He (h++d) ⟨d,rfl⟩;refine⟨h',G',?_,by rwa[z],B⟩;simp[Ad,Rz,abS,J,A,w1.l0,y]
def aKk(w:BX h bi a o c t G b)(ok:BA b)(rm:B0 b m)(p:Int):∃u,BK cx 205 [Pt bi 0,I p] h (I (b.Jd p)) (h++u):=by
 let⟨n,j,d,f,_,_⟩:=Xm w ok rm p;have w1:=w.HY (u:=d);rw[BS.Jd];by_cases hc:(b.a.nd p).cont=0
 .refine⟨d,?_⟩;rw[Ac (by simp[hc]),Ad,XS];simp only[abS,f,hc,B3,CG,w1.l1];refine⟨λh1=>?_,λh1=>?_⟩;.rw[Af h1]
  .rw[Ac h1]
 .let⟨k,i,e,r2,_,_⟩:=Xm w1 ok rm (b.a.nd p).cont;have g:=w1.HY (u:=e);refine⟨d++e,?_⟩;rw[Af hc,<-AK,Ad,XS];simp only[abS,f,r2,hc,B3,g.l1];refine⟨λh1=>?_,λh1=>?_⟩;.rw[Af h1]
  .rw[Ac h1]
def OG(nm:Ai)(av:Aa)(r:List Aa):Prop:=∃n k j i g f e d SM TO,r=[n,zt nm,k,j,i,g,f,e,av,d,SM,TO]
def N7:Aa.agg Item.zero.row= z6 [I 0,I 0,S [],ff]:=rfl
variable{nm:Ai}{av:Aa}{l:List A9}{r:List Aa}{sp p:Int}
def B0.len{k:Nat}(rm:B0 b k)(hk:3<=k):b.a.len+3<=1000000000:=by have:=rm.n;rw[ys];omega
def ô(w:BX h bi a o c t G b)(ok:BA b)(rm:B0 b (m+3))(hr:OG nm av r)(hv:AL l av)(hl:DV l)(hn:zz nm<=1000)(p sp:Int):
  ∃h' G',BK cx 84 [Pt bi 0,z6 r,I sp,I p] h (z6 (b.Hb nm l sp).row) h'/\BX h' bi a o c t G' (b.Ex nm l sp p)/\Du h (Bu bi G) h' (Bu bi G'):=by
 obtain⟨O,N,M,L,K,J,H,E,SM,TO,rfl⟩:=hr;by_cases hs:yw sp
 .let⟨D,s,hu⟩:=aPy (h:=h) hv hl.1 sp;have w1:=w.HY (u:=[z0 (ft 11)]);let⟨j,r2⟩:=aKk w1 ok rm p;have g:=w1.HY (u:=j);have hd:=Rw ok (p:=p);have i:∀y∈l.map (C2 sp),yw y.A7:=by intro y hy;obtain⟨z,_,rfl⟩:=Bs.1 hy;exact jM
  let⟨h',G',⟨f,_⟩,C,A⟩:=g.step (A':=b.a.elem (b.Jd p) sp (yp sp nm) (l.map (C2 sp))) (R:=λh'=>BK cx 204 [Pt a 0,I (b.Jd p),I sp,zt (yp sp nm),D] (h++[z0 (ft 11)]++j) (zr [I (b.a.len+1),I 0]) h'/\True) (λn m ps B=>by let⟨h',n',m',JK,r,wp,v,_⟩:=aJ5 B rm.Wt (rm.len Ab) hd hs hu (by rw[Ao];have:=hl.1;omega) i (nm:=yp sp nm);exact⟨h',n',m',JK,⟨r,trivial⟩,wp,v⟩)
  have d:=f96 (h:=h') hu (λy hy=>by obtain⟨z,hz,rfl⟩:=Bs.1 hy;rw[fE];have:=(hl.2 z hz).2;have:A0=140737488355328:=rfl;omega) (by rw[Ao];have:=hl.1;omega) sp (yp sp nm);have em:AA (.EM [I 0,I 0,S [],ff] [(0,1),(1,1),(2,1),(3,1)]) [I (b.a.len+1),I sp,zt (yp sp nm),zh (Fl sp (yp sp nm) (l.map (C2 sp)))]=zx (z6 (b.Hb nm l sp).row):=by rw[eU];rw[BS.Hb];rw[Af hs]
  refine⟨h',G',?_,by rw[BS.Ex];rwa[Af hs],(w.C3.trans w1.C3).trans A⟩;have q:¬sp<0:=by have:=hs.1;omega
  have k:¬7<sp:=by have:=hs.2;omega
  have hlen:=λ(y:Item)=>@Item.CS y;rw[Ad,jT];by_cases h2:sp=2
  .have e:yp sp nm=Cq nm Jt:=by rw[yp];rw[Af h2]
   rw[e] at f d em;subst h2;simp only[abS,AQ,ER,I1 w,q,k,DX,s,DO,CG,(aOK nm).BM rfl rfl,w1.l0,r2,g.l0,BN,f,B3,d,em,hlen]
  .have e:yp sp nm=nm:=by rw[yp];rw[Ac h2]
   rw[e] at f d em;simp only[abS,AQ,ER,I1 w,q,k,DX,s,h2,w1.l0,r2,g.l0,BN,f,B3,CG,d,em,hlen]
 .refine⟨h,G,?_,by rw[BS.Ex];rwa[Ac hs],.refl⟩;have e:b.Hb nm l sp=Item.zero:=by rw[BS.Hb];rw[Ac hs]
  rw[e,N7,Ad,jT];rw[yw] at hs;by_cases h1:sp<0;.simp only[abS,↓reduceIte,AQ,I1 w,h1,DO]
  .simp only[abS,↓reduceIte,AQ,I1 w,h1,DX,(Ab:7<sp),DO]
def Bd{k:Nat}{v:Aa}:Du h (Bu bi G) (put h bi k v) (Bu bi G):=⟨by rw[Jw];exact Ae _,λi _ hn=>Ce λe=>hn (zb e),λ_ h=> zb h⟩
def BX.put{k:Nat}{v o' c' t':Aa}{b':BS}(w:BX h bi a o c t G b)(e:(JP a b o c t).set k v=JP a b' o' c' t')(ea:b'.a=b.a)(ho:BZ b'.AI o')(ht:Vz b'.tm t'):BX (z9 h bi k v) bi a o' c' t' G b':=
 ⟨by rw[IM w.hb,e];exact AY w.lt,ho,ht,by rw[ea];exact w.w.Dj λi hi=>Ce λe=>w.nb (e▸hi),w.nb⟩
def BX.H5{u:Aa}{l:List Item}(w:BX h bi a o c t G b)(hu:BZ l u):BX (z9 h bi 2 u) bi a u c t G {b with AI:=l}:=w.put rfl rfl hu w.t
def BX.KC{u:Aa}{l:List B5}(w:BX h bi a o c t G b):BX (z9 h bi 3 u) bi a o u t G {b with AW:=l}:=w.put rfl rfl w.o w.t
def BX.st{k:Nat}{v v0:Aa}(w:BX h bi a o c t G b)(hk:(JP a b o c t)[k]?=zx v0)(hv:v.cells=[v]):Cy h 1 (Pt bi k) v=zx (z9 h bi k v):=At.store (v:=v0) ⟨_,w.hb,hk⟩ hv
variable{nm:Ai}{av:Aa}{l:List A9}{r:List Aa}{sp p:Int}
def aPB(w:BX h bi a o c t G b)(ok:BA b)(rm:B0 b (m+4))(hr:OG nm av r)(hv:AL l av)(hl:DV l)(hn:zz nm<=1000)(sp:Int):
  ∃h' o' G',BK cx 168 [Pt bi 0,yz (yx 84) [Pt bi 0] [],z6 r,I sp] h (I (b.M5 sp)) h'/\BX h' bi a o' c t G' (b.D9 nm l sp)/\Du h (Bu bi G) h' (Bu bi G'):=by
 let⟨s,n⟩:=aBV w ok rm 0;have w1:=w.HY (u:=s);let⟨h2,A,r2,k,i⟩:=ô (m:=m+1) w1 ok (rm.le Ab) hr hv hl hn (b.place 0).1 sp;obtain⟨L,K,J,H,E,D,C,B,SM,TO,rfl⟩:=hr;have ho:=rm.AI;by_cases hs:yw sp
 .have õ:=Y_ (nm:=nm) (at_:=l) (p:=(b.place 0).1) ok hs;have Ww:=JB (m:=m+1) (nm:=nm) (sp:=sp) (p:=(b.place 0).1) (rm.le Ab) hl;have aC:(b.Hb nm l sp).node=b.a.len+1:=by rw[BS.Hb];rw[Af hs]
  have Xy:¬(b.a.len+1=0):=by rw[ys];omega
  have OQ:(b.Ex nm l sp (b.place 0).1).AI=b.AI:=by rw[BS.Ex];rw[Af hs]
  let⟨y,z,v,j,q⟩:=tR (x:=b.a.len+1) (p:=(b.place 0).1) (bf:=(b.place 0).2) k õ Ww;let⟨v4,d,f⟩:=f95 j.sO (by simp[OQ];omega) (b.Hb nm l sp);refine⟨z9 y bi 2 v4,v4,z,?_,?_,((w.C3.trans i).trans q).trans Bd⟩
  .have g:b.M5 sp=b.a.len+1:=by rw[BS.M5];rw[Af hs]
   simp only[Ad,XN,g,abS,Dw,ER,n,(Bf:(84:Nat)<=99999),r2,aC,Xy,B3,v];have e:=@Item.QH (b.Hb nm l sp);rw[aC] at e;rw[<-e] at d;simp[e] at d⊢;simp[d,BD]
  .have:=j.H5 f;rw[BS.D9];rwa[Af hs]
 .refine⟨h2,o,A,?_,?_,w.C3.trans i⟩
  .have e:b.Hb nm l sp=Item.zero:=by rw[BS.Hb];rw[Ac hs]
   have g:b.M5 sp=0:=by rw[BS.M5];rw[Ac hs]
   rw[e,N7] at r2;simp[Ad,XN,g,abS,Dw,ER,n,(Bf:(84:Nat)<=99999),r2,B3,CG]
  .have:b.D9 nm l sp=b.Ex nm l sp (b.place 0).1:=by unfold BS.D9 BS.Ex;rw[Ac hs,Ac hs]
   rwa[this]
def aGl(w:BX h bi a o c t G b)(ok:BA b)(rm:B0 b (m+4))(hr:OG nm av r)(hv:AL l av)(hl:DV l)(hn:zz nm<=1000)(sp:Int):
  ∃h' o' G',BK cx 66 [Pt bi 0,z6 r,I sp] h (I (b.M5 sp)) h'/\BX h' bi a o' c t G' (b.D9 nm l sp)/\Du h (Bu bi G) h' (Bu bi G'):=by
 let⟨h',o',G',d,w',x'⟩:=aPB w ok rm hr hv hl hn sp;refine⟨h',o',G',?_,w',x'⟩;obtain⟨q,n,k,j,i,g,f,e,SM,TO,rfl⟩:=hr;simp[Ad,zJ,t66,abS,I1 w,d]
def ö(w:BX h bi a o c t G b)(ok:BA b)(rm:B0 b (m+4))(hr:OG nm av r)(hv:AL l av)(hl:DV l)(hn:zz nm<=1000):
  ∃h' o' G',BK cx 64 [Pt bi 0,z6 r] h (I (b.a.len+1)) h'/\BX h' bi a o' c t G' (b.D9 nm l 1)/\Du h (Bu bi G) h' (Bu bi G'):=by
 let⟨h',o',G',d,w',x'⟩:=aGl w ok rm hr hv hl hn 1;refine⟨h',o',G',?_,w',x'⟩;have e:b.M5 1=b.a.len+1:=by rw[BS.M5];rw[Af Kn]
 rw[e] at d;obtain⟨s,q,n,k,j,i,g,f,SM,TO,rfl⟩:=hr;simp[Ad,zH,BD,d]
end
def B4(l:List B5)(v:Aa):Prop:=∃fs:List Cp,fs.map (·.c)=l/\Dp fs v
def Wx{U Z:Type}{f:U->Z}{q:Z->Bool}{l:List U}:AZ q (l.map f)=AZ (λx=>q (f x)) l:=by rw[AZ];rw[<-UM,List.findIdx?_map,Ao];rfl
def ak{U Z:Type}{f:U->Z}{l:List U}{k:Nat}:(Bg l k).map f=Bg (l.map f) k:=by unfold Bg;simp
def aBX{fs:List Cp}:since fs=yS (fs.map (·.c)):=by unfold since yS;rw[Wx];rfl
def Uj{n:Int}{fs:List Cp}:HT n fs=D8 n (fs.map (·.c)):=by unfold HT D8;rw[Wx];rfl
def oL{nm:Ai}{fs:List Cp}:Oz nm fs=DT nm (fs.map (·.c)):=by
 unfold Oz DT;rw[<-UM];generalize fs.reverse=r;induction r with
 |nil=>rfl
 |cons x r ih=>simp[Bm,gw,QN,ih,Ao]
def aKl{e:B5}{fs:List Cp}:TX e fs=h_ e (fs.map (·.c)).reverse:=by
 rw[TX];rw[<-UM];generalize fs.reverse=r;induction r with
 |nil=>rfl
 |cons x r ih=>simp[Bm,Ż,h_,ih]
def aKm{e:B5}{fs:List Cp}:OA e fs=sT e (fs.map (·.c)).reverse:=by
 rw[OA];rw[<-UM];generalize fs.reverse=r;induction r with
 |nil=>rfl
 |cons x r ih=>simp[Bm,yP,sT,ih,Ao]
def tS{e:B5}{e':Cp}{fs:List Cp}(he:e'.c=e):(Lr e fs++[e']).map (·.c)=sU e (fs.map (·.c)):=by
 unfold Lr sU;rw[aKl,aKm,BL,aRy,he];split;.rw[ak]
 .rfl
def Ye{fs:List Cp}:(fs.take (FC fs)).map (·.c)=GB (fs.map (·.c)):=by unfold GB FC;rw[FM,aBX]
def oM{l:List B5}{fs:List Cp}(e:fs.map (·.c)=l)(h:∀x∈l,zz x.Aj<=1000):∀x∈fs,bN x:=by intro x hx;have:=h x.c (by rw[<-e];exact Bs.2 ⟨x,hx,rfl⟩);rw[bN];omega
section
variable{h h':Ah}{bi a:Nat}{o c t:Aa}{G G' F:Nat->Prop}{b:BS}{x:Int}{m:Nat}
variable{nm:Ai}{av:Aa}{l:List A9}{r:List Aa}{sp p:Int}
def aKn(w:BX h bi a o c t G b)(hc:B4 b.AW c)(ok:ET b)(rm:B0 b (m+5))(hr:OG nm av r)(hv:AL l av)(hl:DV l)(hn:zz nm<=1000):
  ∃h' o' c' G',BK cx 67 [Pt bi 0,z6 r] h (I (b.a.len+1)) h'/\BX h' bi a o' c' t G' (b.GX nm l)/\B4 (b.GX nm l).AW c'/\Du h (Bu bi G) h' (Bu bi G'):=by
 let⟨h1,j,k,i,w1,g⟩:=ö (m:=m+1) w ok (rm.le Ab) hr hv hl hn;let⟨fs,d,hf⟩:=hc;have ha:=rm.AW;have HB:zz fs=zz b.AW:=by rw[<-d,Ao]
 let⟨u,e',Qu,r2,hu⟩:=f30 (h:=h1) (id:=bi) (o:=3) (l:=fs) ⟨c,w1.tQ,hf⟩ Ab (oM d λx hx=>((rm.DL x hx).2).1) (e:=⟨⟨b.a.len+1,nm,l⟩,av,hv⟩) (by rw[bN];have:=hl.1;simp only;omega);refine⟨_,j,u,k,?_,w1.KC (u:=u),?_,g.trans Bd⟩
 .obtain⟨B,A,z,y,v,s,q,n,SM,TO,rfl⟩:=hr;have Xy:¬(b.a.len+1=0):=by rw[ys];omega
  have f:BK cx 169 [Pt bi 3,z6 [I (b.a.len+1),zt nm,av]] h1 (zr []) (put h1 bi 3 u):=r2;have bJ:av.cells=[av]:=AX.cells hv;simp[Ad,zK,abS,AQ,i,Xy,B3,bJ,f]
 .refine⟨_,?_,hu⟩;rw[tS Qu,d];rw[BS.GX];simp only;rw[Er]
end
def aKo:∀x:Fin 64,(zi 8 192|||zi 8 (x.val:Int)).toNat=192+x.val:=Bf
def aKp:∀x:Fin 32,(zi 8 224|||zi 8 (x.val:Int)).toNat=224+x.val:=Bf
def aKq:∀x:Fin 16,(zi 8 240|||zi 8 (x.val:Int)).toNat=240+x.val:=Bf
def aKr:∀x:Fin 64,(zi 8 128|||zi 8 (x.val:Int)).toNat=128+x.val:=Bf
def aKs:∀x:Fin 256,(zi 8 (x.val:Int)&&& zi 8 63).toNat=x.val%64:=Bf
def ls{a b:Int}:AA (zn .or) [zo yt a,zo yt b]=zx (zo yt (IntKind.u8.wrap (zi 8 a|||zi 8 b).toNat)):=rfl
def aGn{a b:Int}:AA (zn .and) [zo yt a,zo yt b]=zx (zo yt (IntKind.u8.wrap (zi 8 a&&& zi 8 b).toNat)):=rfl
section
variable{x:Nat}
def ø(h:x<64):AA (zn .or) [zo yt 192,zo yt (x:Int)]=zx (zo yt ((192+x:Nat):Int)):=by rw[ls,aKo ⟨x,h⟩,z2];congr 2;simp only;omega
def tT(h:x<32):AA (zn .or) [zo yt 224,zo yt (x:Int)]=zx (zo yt ((224+x:Nat):Int)):=by rw[ls,aKp ⟨x,h⟩,z2];congr 2;simp only;omega
def ù(h:x<16):AA (zn .or) [zo yt 240,zo yt (x:Int)]=zx (zo yt ((240+x:Nat):Int)):=by rw[ls,aKq ⟨x,h⟩,z2];congr 2;simp only;omega
def L3(h:x<64):AA (zn .or) [zo yt 128,zo yt (x:Int)]=zx (zo yt ((128+x:Nat):Int)):=by rw[ls,aKr ⟨x,h⟩,z2];congr 2;simp only;omega
def L4(h:x<256):AA (zn .and) [zo yt (x:Int),zo yt 63]=zx (zo yt ((x%64:Nat):Int)):=by rw[aGn,aKs ⟨x,h⟩,z2];congr 2;simp only;omega
end
def Yf{n:Nat}:AA (zn .shr) [zo yq (n:Int),zo .u64 6]=zx (zo yq ((n/64:Nat):Int)):=by rw[show AA (zn .shr) [zo yq (n:Int),zo .u64 6]=zx (zo yq ((n:Int).fdiv 64)) from rfl,Q9 _ Ab];rfl
def aD{n:Nat}:AA (zn .shr) [zo yq (n:Int),zo .u64 12]=zx (zo yq ((n/4096:Nat):Int)):=by rw[show AA (zn .shr) [zo yq (n:Int),zo .u64 12]=zx (zo yq ((n:Int).fdiv 4096)) from rfl,Q9 _ Ab];rfl
def ú{n:Nat}:AA (zn .shr) [zo yq (n:Int),zo .u64 18]=zx (zo yq ((n/262144:Nat):Int)):=by rw[show AA (zn .shr) [zo yq (n:Int),zo .u64 18]=zx (zo yq ((n:Int).fdiv 262144)) from rfl,Q9 _ Ab];rfl
def VB{k:IntKind}{n:Nat}:AA (.conv yt) [zo k (n:Int)]=zx (zo yt ((n%256:Nat):Int)):=by rw[Rm,z2];congr 2
def oN{n:Int}:AA (.conv .u32) [zo yq n]=zx (zo .u32 (n%4294967296)):=by rw[Rm,IntKind.wrap_u32]
def fH{n:Nat}(h:n<256):((zw n).toNat:Int)=(n:Int):=by rw[UInt8.toNat_ofNat'];congr 1;omega
def ŀ(b:UInt8):Aa:= zo yt (b.toNat:Int)
def Lt{h:Ah}{bs:Ai}(hb:bs≠[])(hl:zz bs<=8):GF h 1 1 zf (.sl 1 (Cg bs))=zx (h++[zl (bs.map ŀ)],.CC (zz h) 0 (zz bs) 1):=by
 have HB:∀bs:Ai,(Cg bs).flatten=bs.map ŀ:=by
  intro bs;induction bs with
  |nil=>rfl
  |cons c bs ih=>show[ŀ c]++(Cg bs).flatten=_;rw[ih];rfl
 cases bs with
 |nil=>cases hb rfl
 |cons c bs=>
  have hm:A0=140737488355328:=rfl;have hlen:(Cg (c::bs)).length=(c::bs).length:=by simp[Cg]
  have e:Cg (c::bs)=[zo yt c.toNat]::Cg bs:=rfl;have a:Hz h 1 (.sl 1 (Cg (c::bs)))=zx (Cg (c::bs)):=by simp[Hz]
  rw[GF];rw[a,e];simp only
  rw[<-e,Af (by rw[hlen];omega),HB,hlen]
def aPC{h:Ah}(r:Int)(hr: -2147483648<=r/\r<=2147483647):BK cx 173 [zf,zo yq r] h (.CC (zz h) 0 (Ig r).length 1) (h++[zl ((Ig r).map ŀ)]):=by
 have one:∀{a:Nat} (h1:a<256),AA (.Dk 1) [zo yt (a:Int)]=zx (.sl 1 (Cg [zw a])):=by intro a h1;simp only[Cg,Bm,Da,fH h1];rfl
 have KZ:∀{a b:Nat} (h1:a<256) (h2:b<256),AA (.Dk 1) [zo yt (a:Int),zo yt (b:Int)]=zx (.sl 1 (Cg [zw a,zw b])):=by intro a b h1 h2;simp only[Cg,Bm,Da,fH h1,fH h2];rfl
 have VR:∀{a b c:Nat} (h1:a<256) (h2:b<256) (d:c<256),AA (.Dk 1) [zo yt (a:Int),zo yt (b:Int),zo yt (c:Int)]=zx (.sl 1 (Cg [zw a,zw b,zw c])):=by intro a b c h1 h2 d;simp only[Cg,Bm,Da,fH h1,fH h2,fH d];rfl
 have four:∀{a b c f:Nat} (h1:a<256) (h2:b<256) (d:c<256) (i:f<256),AA (.Dk 1) [zo yt (a:Int),zo yt (b:Int),zo yt (c:Int),zo yt (f:Int)]=zx (.sl 1 (Cg [zw a,zw b,zw c,zw f])):=by intro a b c f h1 h2 d i;simp only[Cg,Bm,Da,fH h1,fH h2,fH d,fH i];rfl
 have bad:AA (.Dk 1) [zo yt 239,zo yt 191,zo yt 189]=zx (.sl 1 (Cg [239,191,189])):=rfl;simp only[Ad,kH,BD,oN];by_cases h0:0<=r
 .obtain⟨n,rfl⟩:=Jm h0;have em:(n:Int)%4294967296=(n:Int):=Ab;rw[em];by_cases q:n<128
  .have e:Ig (n:Int)=[zw n]:=by unfold Ig;rw[Af Ab];rfl
   have j:n%256=n:=Ab;simp only[e,BD,Wn,(Ab:(n:Int)<=127),VB,j,one (Ab:n<256),Lt (bs:=[UInt8.ofNat n]) AH AH]
  .have aGo:BK cx 320 [zf,zo yq (n:Int)] h (.CC (zz h) 0 (Ig (n:Int)).length 1) (h++[zl ((Ig (n:Int)).map ŀ)]):=by
    simp only[Ad,X3,BD,oN,em];by_cases p:n<2048
    .have e:Ig (n:Int)=[zw (192+n/64),zw (128+n%64)]:=by unfold Ig;rw[Ac Ab,Af Ab];rfl
     rw[e];have a1:n/64%256=n/64:=Ab;have a2:n%256%64=n%64:=Ab;simp only[BD,Wn,(Ab:(n:Int)<=2047),Yf,VB,a1,ø (Ab:n/64<64),L4 (Ab:n%256<256),a2,L3 (Ab:n%64<64),KZ (Ab:192+n/64<256) (Ab:128+n%64<256),Lt (bs:=[UInt8.ofNat (192+n/64),UInt8.ofNat (128+n%64)]) AH AH]
    .by_cases o:n<65536/\¬(55296<=n/\n<57344)
     .have e:Ig (n:Int)=[zw (224+n/4096),zw (128+n/64%64),zw (128+n%64)]:=by unfold Ig;rw[Ac Ab,Ac Ab,Af Ab];rfl
      rw[e];have a1:n/4096%256=n/4096:=Ab;have a2:n/64%256%64=n/64%64:=Ab;have a3:n%256%64=n%64:=Ab;have g:=Lt (h:=h) (bs:=[zw (224+n/4096),zw (128+n/64%64),zw (128+n%64)]) AH AH;have t3:=VR (Ab:224+n/4096<256) (Ab:128+n/64%64<256) (Ab:128+n%64<256);by_cases m:n<55296;.simp only[abS,(Ab:¬(n:Int)<=2047),(Ab:(n:Int)<55296),Yf,aD,VB,a1,tT (Ab:n/4096<32),L4 (Ab:n/64%256<256),a2,L3 (Ab:n/64%64<64),L4 (Ab:n%256<256),a3,L3 (Ab:n%64<64),t3,g]
      .simp only[abS,(Ab:¬(n:Int)<=2047),(Ab:¬(n:Int)<55296),(Ab:(57343:Int)<n),(Ab:(n:Int)<=65535),Yf,aD,VB,a1,tT (Ab:n/4096<32),L4 (Ab:n/64%256<256),a2,L3 (Ab:n/64%64<64),L4 (Ab:n%256<256),a3,L3 (Ab:n%64<64),t3,g]
     .by_cases l:65536<=n/\n<=1114111
      .have e:Ig (n:Int)=[zw (240+n/262144),zw (128+n/4096%64),zw (128+n/64%64),zw (128+n%64)]:=by unfold Ig;rw[Ac Ab,Ac Ab,Ac Ab,Af Ab];rfl
       rw[e];have a0:n/262144%256=n/262144:=Ab;have a1:n/4096%256%64=n/4096%64:=Ab;have a2:n/64%256%64=n/64%64:=Ab;have a3:n%256%64=n%64:=Ab;have g:=Lt (h:=h) (bs:=[zw (240+n/262144),zw (128+n/4096%64),zw (128+n/64%64),zw (128+n%64)]) AH AH;have t4:=four (Ab:240+n/262144<256) (Ab:128+n/4096%64<256) (Ab:128+n/64%64<256) (Ab:128+n%64<256);simp only[abS,(Ab:¬(n:Int)<=2047),(Ab:¬(n:Int)<55296),(Ab:(57343:Int)<n),(Ab:¬(n:Int)<=65535),(Ab:(65535:Int)<n),(Ab:(n:Int)<=1114111),Yf,aD,ú,VB,a0,ù (Ab:n/262144<16),L4 (Ab:n/4096%256<256),a1,L3 (Ab:n/4096%64<64),L4 (Ab:n/64%256<256),a2,L3 (Ab:n/64%64<64),L4 (Ab:n%256<256),a3,L3 (Ab:n%64<64),t4,g]
      .have e:Ig (n:Int)=[239,191,189]:=by unfold Ig;rw[Ac Ab,Ac Ab,Ac Ab,Ac Ab]
       rw[e];have g:=Lt (h:=h) (bs:=[239,191,189]) AH AH;by_cases k:n<65536;.simp only[abS,(Ab:¬(n:Int)<=2047),(Ab:¬(n:Int)<55296),(Ab:¬(57343:Int)<n),(Ab:¬(65535:Int)<n),bad,g]
       .simp only[abS,(Ab:¬(n:Int)<=2047),(Ab:¬(n:Int)<55296),(Ab:(57343:Int)<n),(Ab:¬(n:Int)<=65535),(Ab:(65535:Int)<n),(Ab:¬(n:Int)<=1114111),bad,g]
   simp only[abS,(Ab:¬(n:Int)<=127),aGo]
 .have e:Ig r=[239,191,189]:=by unfold Ig;rw[Ac Ab,Ac Ab,Ac Ab,Ac Ab]
  have g:=Lt (h:=h) (bs:=[239,191,189]) AH AH;have aGo:BK cx 320 [zf,zo yq r] h (.CC (zz h) 0 (Ig r).length 1) (h++[zl ((Ig r).map ŀ)]):=by simp only[e,Ad,X3,abS,oN,(Ab:¬(r%4294967296)<=2047),(Ab:¬(r%4294967296)<55296),(Ab:(57343:Int)<r%4294967296),(Ab:¬(r%4294967296)<=65535),(Ab:(65535:Int)<r%4294967296),(Ab:¬(r%4294967296)<=1114111),bad,g]
  simp only[abS,(Ab:¬(r%4294967296)<=127),aGo]
def Uk(r:Int):(Ig r).length<=4:=by rw[Ig];split<;>(try split)<;>(try split)<;>(try split)<;>simp
def tU{l:List Int}{bf:Int}(hb:bf≠0->bf∈l):∃i,i<=zz l/\(bf=0->i=zz l)/\(bf≠0->Cn (λy=>decide (bf=y)) 0 l=(i:Int))/\Vs l bf=if i=0 then zc else l[i-1]?:=by
 by_cases h0:bf=0
 .refine⟨zz l,Ae _,λ_=>rfl,λh=>absurd h0 h,?_⟩;rw[Vs];rw[Af h0,Li];split;.rename_i h;rw[Ki Ab]
  .rfl
 .let⟨k,j,e,g,d,f⟩:=oK (hb h0);refine⟨k,Ab,λh=>absurd h h0,λ_=>e,?_⟩;rw[Vs];rw[Ac h0,d,Li,Ax,Ct Ab];split;.rename_i h;subst h;simp
  .rw[Ci];rw[Af Ab]
def oO{s u:Ai}(h:zz s+zz u<=2000000000):AA (.str .add) [zt s,zt u]=zx (zt (s++u)):=by have:zz s+zz u<=9223372036854775807:=Ab;simp[AA,pZ,this]
def fI:∀s:Ai,(Cg s).flatten=s.map ŀ
 |[]=>rfl
 |c::s=>by show[ŀ c]++(Cg s).flatten=_;rw[fI s];rfl
section
variable{h h':Ah}{bi a:Nat}{o c t:Aa}{G G' F:Nat->Prop}{b:BS}{x:Int}{m:Nat}
variable{nm:Ai}{av:Aa}{l:List A9}{r:List Aa}{sp p:Int}
def oP{k d:Int}{s:Ai}(ok:ET b)(rm:B0 b (m+1))(hk:k=5\/k=6)(hd:b.a.has d/\(b.a.nd d).kind=1)(hs:zz s<=100000):ET {b with a:=b.a.add {kind:=k,CF:=d,data:=s}}/\B0 {b with a:=b.a.add {kind:=k,CF:=d,data:=s}} m:=
 ⟨ok.JA (jL ok.ok (by rw[ys];omega) hd hk) yT,rm.J7 (k:=1) (OD (AV _) hs)⟩
def aKt(w:BX h bi a o c t G b)(ok:ET b)(rm:B0 b (m+5))(r:Int)(hr: -2147483648<=r/\r<=2147483647):
  ∃h' G',BK cx 68 [Pt bi 0,zo yq r] h (zr []) h'/\BX h' bi a o c t G' (b.Xd r)/\Du h (Bu bi G) h' (Bu bi G'):=by
 obtain⟨f,D⟩:=aBV w ok rm 0;obtain⟨hp,hbf⟩:=ZH ok (t:=0) (zb rfl);have w1:=w.HY (u:=f);unfold BS.Xd;generalize(b.place 0).1=p at*;generalize(b.place 0).2=bf at*;obtain⟨K,V,d,r2,X,_⟩:=Xm w1 ok rm p;have Z:=w1.HY (u:=d);have x2:Du h (Bu bi G) (h++f++d) (Bu bi G):=w.C3.trans w1.C3;unfold BS.Mh;by_cases hk:(b.a.nd p).kind=4\/(b.a.nd p).kind=2;rotate_left
 .refine⟨_,G,?_,?_,x2⟩;.have k4:¬(b.a.nd p).kind=4:=λe=>hk (zb e);have k2:¬(b.a.nd p).kind=2:=λe=>hk (ze e);rw[Ad,Vw];simp only[abS,I1 w,D,r2,B3,k4,k2]
  .rw[Ac hk];exact Z
 rw[Af hk];obtain⟨i,hi,aa,Xa,hpv⟩:=tU (l:=(b.a.nd p).Be) (bf:=bf) (λh=>by have:=hbf h;have h2:=(ok.ok.Gm bf this.1 (by rw[this.2];have:=hp.1;omega)).2;rwa [this.2] at h2);rw[hpv];have Re:=rm.Wt.Be ok.ok p;have H:=aGf (h:=h++f++d) (x:=bf) X.S4 Re;have g:=aPC (h:=h++f++d) r hr;have pT:=Uk r;generalize hs:Ig r=s at*;have f3:KY (h++f++d++[zl (s.map ŀ)]) (.CC (h++f++d).length 0 s.length 1)=zx (h++f++d++[.CU],.sl 1 (Cg s)):=by have HB:=fI s;have:=Kr (h:=h++f++d++[zl (s.map ŀ)]) (id:=(h++f++d).length) (z:=1) (AD:=Cg s) (by intro q hq;obtain⟨y,_,rfl⟩:=Bs.1 hq;rfl) (by rw[HB];simp);rw[show(Cg s).length=s.length by simp[Cg]] at this;rw[this];congr 2;rw[BV _ _ (Ae _),Dl];rfl
 have b3:AA .Yi [.sl 1 (Cg s)]=zx (zt s):=by simp[AA,Yk,SR]
 have A:=Z.HY (u:=[.CU]);have x3:Du h (Bu bi G) (h++f++d++[.CU]) (Bu bi G):=x2.trans Z.C3;have oQ:=ok.ok.CF p hp;have new:∀h3,(∃u,h3=h++f++d++[.CU]++u)->∃h' J G',BK cx 175 [Pt a 0,I (b.a.nd p).CF,zt s] h3 (zr [I (b.a.len+1),I 0]) J/\BK cx 158 [Pt bi 0,I (b.a.len+1),I p,I bf] J (zr []) h'/\BX h' bi a o c t G' {b with a:=(b.a.add {kind:=5,CF:=(b.a.nd p).CF,data:=s}).ES (b.a.len+1) p bf}/\Du h (Bu bi G) h' (Bu bi G'):=by
  rintro _ ⟨u,rfl⟩;have w4:=A.HY (u:=u);obtain⟨J,G4,⟨C,_⟩,w5,x5⟩:=w4.step (A':=b.a.add (M7 5 (b.a.nd p).CF s).x) (R:=λh'=>BK cx 175 [Pt a 0,I (b.a.nd p).CF,.str s] (h++f++d++[.CU]++u) (.tuple [I (b.a.len+1),I 0]) h'/\True) (λn m ps S=>by obtain⟨h',r,wp,o1,l1⟩:=aPk (s:=s) S rm.Wt (by have:=rm.n;unfold Ar.len;omega) oQ;exact⟨h',_,_,_,⟨r,trivial⟩,wp,S.Uh rfl o1 l1⟩)
  obtain⟨ok5,rm5⟩:=oP (m:=m) (k:=5) (s:=s) ok (rm.le Ab) (.inl rfl) oQ Ab;obtain⟨h',G',B,N,L⟩:=tR (x:=b.a.len+1) (p:=p) (bf:=bf) w5 ok5.ba rm5;exact⟨h',J,G',C,B,N,(x3.trans A.C3).trans (x5.trans L)⟩
 have kl:=(X.S4 (h:=h++f++d)).len;have PH:i<=1000000000:=Ab;by_cases hz:i=0
 .subst hz;obtain⟨h',J,G',C,B,N,L⟩:=new (h++f++d++[.CU]) ⟨[],AH⟩;simp only[↓reduceIte];refine⟨h',G',?_,N,L⟩;rw[Ad,Vw];obtain hk|hk:=hk<;>by_cases h0:bf=0
  all_goals first|(rw[<-aa h0] at kl;simp only[abS,I1 w,D,r2,hk,B3,CG,KD,kl,AE h0,g,f3,b3,(Bf:¬(0:Int)<((0:Nat):Int)),A.l0,C,CG,B];done)|(rw[Xa h0] at H;simp only[abS,I1 w,D,r2,hk,B3,CG,KD,kl,h0,g,f3,b3,(Bf:¬(0:Int)<((0:Nat):Int)),A.l0,C,CG,B,H])
 .obtain⟨j,rfl⟩:∃j,i=j+1:=⟨i-1,Ab⟩;have hj:j<(b.a.nd p).Be.length:=Ab;rw[Ac hz,Fy,An hj];simp only
  have ht:=ok.ok.NJ p hp _ (AN hj);obtain⟨q,Q,Y⟩:=(X.S4 (h:=h++f++d++[.CU])).at_ j hj;obtain⟨K7,V7,T,W,_,_⟩:=Xm A ok rm (b.a.nd p).Be[j];have M:=A.HY (u:=T);obtain⟨q',P,O⟩:=(X.S4 (h:=h++f++d++[.CU]++T)).at_ j hj;rw[Q,BF] at P;subst P;have U:AA (.int .sub) [I ((j+1:Nat):Int),I 1]=zx (I (j:Int)):=by have:=IK (n:=j+1) Ab Ab;simpa using this
  generalize hte:(b.a.nd p).Be[j]=v at*;by_cases E:(b.a.nd v).kind=5
  .rw[Af E];have vT:=rm.data v;obtain⟨h8,G8,⟨r8,_⟩,w8,x8⟩:=M.step (A':=b.a.T3 v ((b.a.nd v).data++s)) (R:=λh'=>BK cx 174 [Pt a 0,I v,.str ((b.a.nd v).data++s)] (h++f++d++[.CU]++T) (I 0) h'/\True) (λn m ps S=>by obtain⟨h',JK,r,wp,xp⟩:=aPl (s:=(b.a.nd v).data++s) S rm.Wt ht.1 E;exact⟨h',n,m,JK,⟨r,trivial⟩,wp,xp⟩)
   refine⟨h8,G8,?_,w8,(x3.trans A.C3).trans x8⟩;rw[Ad,Vw];obtain hk|hk:=hk<;>by_cases h0:bf=0
   all_goals first|(rw[<-aa h0] at kl;simp only[abS,I1 w,D,r2,hk,B3,CG,KD,kl,AE h0,g,f3,b3,(Ab:(0:Int)<((j+1:Nat):Int)),U,Q,Y,W,E,M.l0,O,oO (Ab:(b.a.nd v).data.length+s.length<=2000000000),CG,r8];done)|(rw[Xa h0] at H;simp only[abS,I1 w,D,r2,hk,B3,CG,KD,kl,h0,g,f3,b3,(Ab:(0:Int)<((j+1:Nat):Int)),U,Q,Y,W,E,M.l0,O,oO (Ab:(b.a.nd v).data.length+s.length<=2000000000),CG,r8,H])
  .rw[Ac E];obtain⟨h',J,G',C,B,N,L⟩:=new _ ⟨T,rfl⟩;refine⟨h',G',?_,N,L⟩;rw[Ad,Vw];obtain hk|hk:=hk<;>by_cases h0:bf=0
   all_goals first|(rw[<-aa h0] at kl;simp only[abS,I1 w,D,r2,hk,B3,CG,KD,kl,AE h0,g,f3,b3,(Ab:(0:Int)<((j+1:Nat):Int)),U,Q,Y,W,E,M.l0,C,CG,B];done)|(rw[Xa h0] at H;simp only[abS,I1 w,D,r2,hk,B3,CG,KD,kl,h0,g,f3,b3,(Ab:(0:Int)<((j+1:Nat):Int)),U,Q,Y,W,E,M.l0,C,CG,B,H])
def M8{s:Ai}{p bf x:Int}{h0 h1:Ah}(hstart:(¬x=0/\p=x/\bf=0/\h1=h0)\/(x=0/\BK cx 170 [Pt bi 0,I 0] h0 (zr [I p,I bf]) h1))
  (w0:BX h0 bi a o c t G b) (i:Du h0 (Bu bi G) h1 (Bu bi G)) (w:BX h1 bi a o c t G b) (ok:ET b) (rm:B0 b (m+1)) (hs:zz s<=100000):
  ∃h' G',BK cx 69 [Pt bi 0,zt s,I x] h0 (zr []) h'/\BX h' bi a o c t G' {b with a:=BS.Fp b.a s p bf}/\Du h0 (Bu bi G) h' (Bu bi G'):=by
 let⟨K,V,q,r2,L,_⟩:=Xm w ok rm p;have d:=w.HY (u:=q);rw[BS.Fp];by_cases hk:LZ (b.a.nd p).kind
 .rw[Af hk];have hp:b.a.has p:=by
   by_cases hp:b.a.has p;.exact hp
   .rw[H6 hp] at hk;rw[LZ] at hk;simp at hk
  have oQ:=ok.ok.CF p hp;let⟨M,N,⟨y,_⟩,H,D⟩:=d.step (A':=b.a.add (M7 6 (b.a.nd p).CF s).x) (R:=λh'=>BK cx 176 [Pt a 0,I (b.a.nd p).CF,zt s] (h1++q) (zr [I (b.a.len+1),I 0]) h'/\True) (λn m ps j=>by let⟨h',r,wp,J,l1⟩:=aJV (s:=s) j rm.Wt (by have:=rm.n;rw[ys];omega) oQ;exact⟨h',_,_,_,⟨r,trivial⟩,wp,j.Uh rfl J l1⟩)
  let⟨g,e⟩:=oP (m:=m) (k:=6) (s:=s) ok rm (ze rfl) oQ hs;let⟨h',G',v,E,C⟩:=tR (x:=b.a.len+1) (p:=p) (bf:=bf) H g.ba e;refine⟨h',G',?_,E,(i.trans w.C3).trans (D.trans C)⟩;rw[Ad,jP];rcases hstart with⟨hx,rfl,rfl,rfl⟩|⟨hx,f⟩
  .rcases hk with hk|hk|hk<;>simp[abS,I1 w0,r2,hk,B3,CG,KD,d.l0,y,v,hx]
  .rcases hk with hk|hk|hk<;>simp[abS,I1 w0,r2,hk,B3,CG,KD,d.l0,y,v,AE hx,f]
 .rw[Ac hk];refine⟨_,G,?_,d,i.trans w.C3⟩;rw[LZ] at hk;have B:¬(b.a.nd p).kind=1:=Ab;have A:¬(b.a.nd p).kind=2:=Ab;have z:¬(b.a.nd p).kind=4:=Ab;rw[Ad,jP];rcases hstart with⟨hx,rfl,rfl,rfl⟩|⟨hx,f⟩
  .simp only[abS,I1 w0,r2,B3,B,A,z,hx]
  .simp only[abS,I1 w0,r2,B3,B,A,z,AE hx,f]
section
variable(w:BX h bi a o c t G b)
def aKv(ok:ET b)(rm:B0 b (m+1))(s:Ai)(hs:zz s<=100000)(x:Int):
  ∃h' G',BK cx 69 [Pt bi 0,zt s,I x] h (zr []) h'/\BX h' bi a o c t G' (b.HN s x)/\Du h (Bu bi G) h' (Bu bi G'):=by
 rw[BS.HN];by_cases h0:x=0;.rw[Af h0];let⟨d,e⟩:=aBV w ok rm 0;exact M8 (p:=(b.place 0).1) (bf:=(b.place 0).2) (ze ⟨h0,e⟩) w w.C3 (w.HY (u:=d)) ok rm hs
 .rw[Ac h0];exact M8 (p:=x) (bf:=0) (zb ⟨h0,rfl,rfl,rfl⟩) w .refl w ok rm hs
def aKw(ok:BA b)(rm:B0 b (m+4))(hr:OG nm av r)(hv:AL l av)(hl:DV l)(hn:zz nm<=1000)(st:Int):
  ∃h' o' G',BK cx 70 [Pt bi 0,z6 r,I st] h (zr []) h'/\BX h' bi a o' c t G' (b.DE nm l st)/\Du h (Bu bi G) h' (Bu bi G'):=by
 let⟨h1,d,e,u,w1,i⟩:=ö w ok rm hr hv hl hn;have s:=w1.st (k:=18) (v:= I st) rfl rfl;have g:BX (put h1 bi 18 (I st)) bi a d c t e {b.D9 nm l 1 with sw:=st}:=w1.put rfl rfl w1.o w1.t;have q:=g.st (k:=5) (v:= I (b.D9 nm l 1).mode) rfl rfl;have f:BX (put (put h1 bi 18 (I st)) bi 5 (I (b.D9 nm l 1).mode)) bi a d c t e {b.D9 nm l 1 with sw:=st,RL:=(b.D9 nm l 1).mode}:=g.put rfl rfl w1.o w1.t;have n:=f.st (k:=4) (v:=I 8) rfl rfl;have j:BX (put (put (put h1 bi 18 (I st)) bi 5 (I (b.D9 nm l 1).mode)) bi 4 (I 8)) bi a d c t e (b.DE nm l st):=f.put rfl rfl w1.o w1.t;refine⟨_,d,e,?_,j,((i.trans Bd).trans Bd).trans Bd⟩;obtain⟨H,E,D,C,B,A,z,y,SM,TO,rfl⟩:=hr;simp[Ad,zL,BD,I1 w,u,w1.l4,s,q,n]
def aKx(rm:B0 b m):
  ∃h' o',BK cx 71 [Pt bi 0] h (zr []) h'/\BX h' bi a o' c t G b.BH/\Du h (Bu bi G) h' (Bu bi G):=by
 have ho:=rm.AI;have d:=aJB w.sA (Ab:zz b.AI<=1000000000) 3 (v:= .sl 1 ([wP].map Cr)) (ws:=[wP]) Cw Bf;have em:AA (.Dk 1) [S [112]]=zx (.sl 1 ([wP].map Cr)):=D2 (ws:=[wP]) rfl Bf;rw[BS.BH];by_cases hs:HZ (AU [wP]) (HG 3) b.AI.reverse=z3;.rw[Af hs];rw[hs] at d;let⟨g,r2,PU⟩:=aGa w.sO Ab wP;have w1:=w.H5 PU;have EH:=Rq (b:=Di wP) (a:=Cx) (l:=b.AI);let⟨e,f,Ja⟩:=f66 w1.sO DA (w:= .sl 1 ([wP].map Cr)) (ws:=[wP]) Cw Bf;refine⟨_,e,?_,w1.H5 Ja,Bd.trans Bd⟩;simp only[Ad,jQ,BD,I1 w,em,d,r2,f]
 .rw[Ac hs];rw[show HZ (AU [wP]) (HG 3) b.AI.reverse=zj by simpa using hs] at d;refine⟨h,o,?_,w,.refl⟩;simp only[Ad,jQ,BD,I1 w,em,d]
end
end
section
variable{h h':Ah}{bi a:Nat}{o c t:Aa}{G G' F:Nat->Prop}{b:BS}{x:Int}{m:Nat}
variable{nm:Ai}{av:Aa}{l:List A9}{r:List Aa}{sp p:Int}
def M9{U:Type}{l:List U}{n:Nat}(hn:n<zz l):(l.take (n+1)).reverse=l[n]::(l.take n).reverse:=by rw[AB hn,LB];rfl
def aKy(w:BX h bi a o c t G b)(rm:B0 b m)(nm:Ai):
  ∃h' o',BK cx 73 [Pt bi 0,zt nm] h (zr []) h'/\BX h' bi a o' c t G (b.Dz nm)/\Du h (Bu bi G) h' (Bu bi G):=by
 have ho:=rm.AI;have IJ:Ev cx 73 [Pt bi 0,zt nm] h λr h'=>r= zr []/\∃o',BX h' bi a o' c t G (b.Dz nm)/\Du h (Bu bi G) h' (Bu bi G):=by
  simp only[Ev,zO,abS,I1 w,Vy w.sA,C0 ((zz b.AI:Int)) 1];refine Bj (λn:Nat=>[I ((n:Int)-1)]) (λn h1=>n<=zz b.AI/\(b.AI.reverse.find? λi=>AU [nm] i||C1 i)=((b.AI.take n).reverse.find? λi=>AU [nm] i||C1 i)/\h1=h) (λn=>n) (zz b.AI) rfl ⟨Ae _,by rw[Bt],rfl⟩ ?_;rintro n h1 ⟨hn,ha,rfl⟩;cases n with
  |zero=>
   have e:b.Dz nm=b:=by rw[BS.Dz];rw[ha];rfl
   simp only[abS,(Ab:¬(0:Int)<=((0:Nat):Int)-1)];exact⟨_,rfl,rfl,o,by rwa[e],.refl⟩
  |succ n=>
   have hlt:n<zz b.AI:=Ab;have i1:((n+1:Nat):Int)-1=(n:Int):=Ab;have j:=Xh w.sA (n:Int);rw[FG hlt] at j;have em:AA (.Dk 1) [zt nm]=zx (.sl 1 ([nm].map Cr)):=D2 (ws:=[nm]) rfl AH;have r2:=aj (ws:=[nm]) Cw AH b.AI[n] h1;rw[M9 hlt,DZ] at ha;generalize hi:b.AI[n]=i at*;rw[Item.row] at r2;simp only[abS,ER,i1,MW,j,em];have f:BK cx 161 [z6 i.row,.sl 1 ([nm].map Cr)] h1 (zh (AU [nm] i)) h1:=r2;rw[f,Ow,C5];refine⟨λh2=>?_,λh2=>?_⟩
   .let⟨u,s,PU⟩:=aGa w.sO Ab nm;have w1:=w.H5 PU;have EH:=Rq (b:=Di nm) (a:=Cx) (l:=b.AI);let⟨k,q,Ja⟩:=aJH w1.sO DA i.node;simp only[BD,s,q];refine⟨_,rfl,rfl,k,?_,Bd.trans Bd⟩;have e:b.Dz nm={b with AI:=Hu i.node (DI (Di nm) Cx b.AI)}:=by simp[BS.Dz,ha,h2,VN,BR]
    rw[e];exact w1.H5 Ja
   .simp only[h2,GM] at ha;simp only[(aBE i.A7 i.name).BM rfl rfl];rw[Ow,C5];refine⟨λg=>?_,λg=>?_⟩
    .have d:C1 i=z3:=g;rw[d] at ha;have e:b.Dz nm=b:=by simp[BS.Dz,ha,h2,CA,EV]
     simp only[BD];exact⟨_,rfl,rfl,o,by rwa[e],.refl⟩
    .have d:C1 i=zj:=g;rw[d] at ha;simp[BD,C0 ((n:Int)) 1];exact zp n rfl ⟨Ab,ha,rfl⟩ Ab
 obtain⟨r,h',hr,rfl,o',w',x'⟩:=IJ.ret;exact⟨h',o',hr,w',x'⟩
def aKz(w:BX h bi a o c t G b)(rm:B0 b m){k:Nat}(hk:k<=zz b.AI):BK cx 337 [Pt bi 0,I (k:Int)] h (I (BS.J3 (b.AI.take k))) h:=by
 have ho:=rm.AI;simp only[Ad,mW,BD,C0 ((k:Int)) 1];refine Bj (λn:Nat=>[I 0,I ((n:Int)-1)]) (λn h1=>n<=k/\((b.AI.take k).reverse.find? λi=>AU [AO] i||AU [Fw] i)=((b.AI.take n).reverse.find? λi=>AU [AO] i||AU [Fw] i)/\h1=h) (λn=>n) k rfl ⟨Ae _,rfl,rfl⟩ ?_;rintro n h1 ⟨hn,ha,rfl⟩;cases n with
 |zero=>simp[abS,(Ab:¬(0:Int)<=((0:Nat):Int)-1)];rw[BS.J3];rw[ha];rfl
 |succ n=>
  have hlt:n<zz b.AI:=Ab;have i1:((n+1:Nat):Int)-1=(n:Int):=Ab;have f:=Xh w.sA (n:Int);rw[FG hlt] at f;have e:AA (.Dk 1) [S AO]=zx (.sl 1 ([AO].map Cr)):=D2 (ws:=[AO]) rfl Bf;have tz:AA (.Dk 1) [S Fw]=zx (.sl 1 ([Fw].map Cr)):=D2 (ws:=[Fw]) rfl Bf;have r2:=aj (ws:=[AO]) Cw Bf b.AI[n] h1;have g:=aj (ws:=[Fw]) Cw Bf b.AI[n] h1;rw[M9 hlt,DZ] at ha;simp only[abS,i1,MW,f,e,r2,tz,g,C0 ((n:Int)) 1];rw[C5];refine⟨λh2=>?_,λh2=>?_⟩;.simp only[h2,VN] at ha;simp[BS.J3,ha,h2,BR]
  .simp only[h2,GM] at ha;rw[C5];refine⟨λd=>?_,λd=>?_⟩;.rw[d] at ha;simp[BS.J3,ha,h2,CA,EV]
   .rw[d] at ha;exact zp n rfl ⟨Ab,ha,rfl⟩ Ab
def ao(r:Ai×Int):List Aa:=[zt r.1,I r.2]
def oR{z:Nat}{AD:List (List Aa)}{args:List Aa}(e:args=AD.map Aa.agg)(hz:∀r∈AD,zz r=z)(hl:zz AD*z<=16777216):AA (.Dk z) args=zx (.sl z AD):=by
 subst e;have f:(AD.map Aa.agg).all (λa=>zz a.cells==z)=z3:=by simp[Aa.cells];exact hz
 have d:(AD.map Aa.agg).map (·.cells)=AD:=by rw[List.map_map];exact List.map_id _
 rw[gj,f,d];simp[hl]
def û{args:List Aa}(e:args=(JX.map ao).map Aa.agg):AA (.Dk 2) args=zx (.sl 2 (JX.map ao)):=oR e (λr hr=>by obtain⟨x,_,rfl⟩:=Bs.1 hr;rfl) Bf
def aKA:BK cx 336 [] h (.sl 2 (JX.map ao)) h:=by simp only[Ad,mV,abS,zy,AQ];exact(Cj (λz=>eL z λv=>[v]=[Aa.sl 2 (JX.map ao)]) (û rfl)).mpr (by rw[Qy])
def RG{s:Ai}{i:Item}:AU [s] i=decide (i.A7=1/\i.name=s):=by rw[AU];simp
def t_{i:Item}{k:Nat}:b.HH i k=match JX.find? λr=>AU [r.1] i with
  |zx r=>zx r.2
  |zc=>if AU [LK] i then zx (BS.J3 (b.AI.take k)) else if AU [V_,W_] i&&decide (0<k) then zx 15 else if AU [AO] i then zx (b.tm.getLast?.getD 7) else if AU [Sj] i&&decide (0<k) then zx 4 else if AU [DQ] i then zx (if b.head=0 then 3 else 6) else if k=0 then zx 7 else zc:=by
 rw[BS.HH];by_cases hs:i.A7=1
 .rw[Af hs];have e:(λr:Ai×Int=>AU [r.1] i)=λr=>decide (r.1=i.name):=by funext r;rw[RG,Ds];exact⟨λh=>h.2.symm,λh=>⟨hs,h.symm⟩⟩
  rw[e];cases hf:JX.find? λr=>decide (r.1=i.name) with
  |some r=>rfl
  |none=>simp[AU,hs,Nr,AR,D1,L8,Bq,Cd]
 .rw[Ac hs];have e:(λr:Ai×Int=>AU [r.1] i)=λ_=>zj:=by funext r;rw[RG,Al (λh=>hs h.1)]
  rw[e];have d:JX.find? (λ_=>zj)=zc:=Bf;simp[d,AU,hs,bO,DX,CA,EV,bI]
def aKB(w:BX h bi a o c t G b)(rm:B0 b m)(i:Item){k:Nat}(hk:k<=b.AI.length):BK cx 189 [Pt bi 0,z6 i.row,I (k:Int)] h (zr [I ((b.HH i k).getD 7),.bool (b.HH i k).isSome]) h:=by
 have ho:=rm.AI;have R:=rm.tm;have et:AX 2 (JX.map ao) (.sl 2 (JX.map ao)):= .mk;have C:=λws hw=>aj (ws:=ws) Cw hw i h;rw[t_,Ad,kU];have hlen:JX.length=9:=rfl;have Q:=et.CK;rw[hlen] at Q;simp only[BD,↓reduceIte,ER,aKA,Q];refine Bj (λn:Nat=>[I 0,ff,I (n:Int)]) (λn h1=>n<=9/\(JX.find? λr=>AU [r.1] i)=((JX.drop n).find? λr=>AU [r.1] i)/\h1=h) (λn=>9 -n) 0 rfl ⟨AV _,rfl,rfl⟩ ?_;rintro n h1 ⟨hn,ha,rfl⟩;obtain hlt|Et:=AP n 9
 .have Ug:n<JX.length:=hlt;have em:AA (.Dk 1) [.str JX[n].1]=zx (.sl 1 ([JX[n].1].map Cr)):=D2 (ws:=[JX[n].1]) rfl AH;rw[AG Ug,DZ] at ha;simp only[BD,Nat.reduceLeDiff,↓reduceIte,Wn,(Ab:(n:Int)<((9:Nat):Int)),et.BG Ug,ao,em,C [JX[n].1] AH,By n];rw[C5];refine⟨λh2=>?_,λh2=>?_⟩;.rw[h2] at ha;rw[ha];simp
  .rw[h2] at ha;exact zp (n+1) rfl ⟨hlt,ha,rfl⟩ Ab
 .have T:n=9:=by omega
  subst T;have ha:(JX.find? λr=>AU [r.1] i)=zc:=ha;rw[ha];have q:AA (.Dk 1) [S aXN]=zx (.sl 1 ([LK].map Cr)):=D2 (ws:=[LK]) rfl Bf;have s:AA (.Dk 1) [S [116,100],S [116,104]]=zx (.sl 1 ([V_,W_].map Cr)):=D2 (ws:=[V_,W_]) rfl Bf;have u:AA (.Dk 1) [S aXs]=zx (.sl 1 ([AO].map Cr)):=D2 (ws:=[AO]) rfl Bf;have J:AA (.Dk 1) [S aXY]=zx (.sl 1 ([Sj].map Cr)):=D2 (ws:=[Sj]) rfl Bf;have L:AA (.Dk 1) [S aXv]=zx (.sl 1 ([DQ].map Cr)):=D2 (ws:=[DQ]) rfl Bf;have f:=C [LK] Bf;have d:=C [V_,W_] Bf;have g:=C [AO] Bf;have y:=C [Sj] Bf;have B:=C [DQ] Bf;have rs:=aKz w rm hk;have lt:=(w.t.1.S4 (h:=h1));have j:¬((9:Nat):Int)<((9:Nat):Int):=Bf;have l6:=w.l6;have H:b.tm≠[]->∃p,AA (.int .sub) [I (b.tm.length:Int),I 1]=zx (I ((b.tm.length-1:Nat):Int))/\AA (.EE 1) [t,I ((b.tm.length-1:Nat):Int)]=zx p/\A5 h1 zc p=zx (I (b.tm.getLast?.getD 7)):=by intro hne;have hpos:=Ej.2 hne;obtain⟨p,E,D⟩:=lt.at_ (b.tm.length-1) Ab;refine⟨p,IK hpos Ab,E,?_⟩;rw[D,Li,An Ab];rfl
  by_cases g1:AU [LK] i=z3;.rw[g1] at f;simp only[abS,↓reduceIte,j,q,f,rs,g1,FE,pQ]
  .have g1:AU [LK] i=zj:=by simpa using g1
   rw[g1] at f;by_cases A:0<k
   .have N:¬k=0:=by omega
    have z:¬(k:Int)=0:=Ab;have v:(0:Int)<(k:Int):=Ab;cases g2:AU [V_,W_] i<;>rw[g2] at d;rotate_left;.simp only[BD,↓reduceIte,j,q,f,s,d,A,v,g1,JO]
    cases g3:AU [AO] i<;>rw[g3] at g;rotate_left
    .by_cases ht:b.tm=[];.simp only[BD,↓reduceIte,j,q,f,s,d,u,g,A,v,g1,JO,l6,lt.len,ht,Int.natCast_zero,aCP,vM]
     .obtain⟨p,E,D,M⟩:=H ht;have FX:¬b.tm.length=0:=λe=>ht (Ms.1 e);simp only[BD,↓reduceIte,j,q,f,s,d,u,g,A,v,g1,JO,l6,lt.len,(Ab:(0:Int)<(b.tm.length:Int)),E,D,M]
    cases P:AU [Sj] i<;>rw[P] at y;rotate_left;.simp only[BD,↓reduceIte,j,q,f,s,d,u,g,J,y,A,v,g1,JO]
    all_goals cases O:AU [DQ] i<;>rw[O] at B
    all_goals first
     |simp only[BD,↓reduceIte,j,q,f,s,d,u,g,J,y,L,B,A,N,z,v,g1,JO];done
     |by_cases K:b.head=0
      .simp only[BD,↓reduceIte,j,q,f,s,d,u,g,J,y,L,B,A,z,v,g1,JO,w.l7,K]
      .simp only[BD,↓reduceIte,j,q,f,s,d,u,g,J,y,L,B,A,z,v,g1,JO,w.l7,K]
   .have N:k=0:=by omega
    subst N;have v:¬(0:Int)<((0:Nat):Int):=Bf;have z:((0:Nat):Int)=0:=rfl;by_cases g3:AU [AO] i=z3
    .rw[g3] at g;cases g2:AU [V_,W_] i<;>rw[g2] at d<;>by_cases ht:b.tm=[];all_goals first
      |simp only[BD,↓reduceIte,j,q,f,s,d,u,g,z,g1,g3,JO,l6,lt.len,ht,aCP,vM,DF];done
      |obtain⟨p,E,D,M⟩:=H ht
       have FX:¬b.tm.length=0:=λe=>ht (Ms.1 e);simp only[BD,↓reduceIte,j,q,f,s,d,u,g,z,g1,g3,JO,l6,lt.len,(Ab:(0:Int)<(b.tm.length:Int)),E,D,M,DF]
    .have g3:AU [AO] i=zj:=by simpa using g3
     rw[g3] at g;cases g2:AU [V_,W_] i<;>rw[g2] at d<;>cases P:AU [Sj] i<;>rw[P] at y<;>cases O:AU [DQ] i<;>rw[O] at B<;>by_cases K:b.head=0;all_goals simp only[BD,↓reduceIte,j,q,f,s,d,u,g,J,y,L,B,z,g1,g3,JO,w.l7,K,DF]
end
section
variable{h h':Ah}{bi a:Nat}{o c t:Aa}{G G' F:Nat->Prop}{b:BS}{x:Int}{m:Nat}
variable{nm:Ai}{av:Aa}{l:List A9}{r:List Aa}{sp p:Int}
def BX.aBY(w:BX h bi a o c t G b):A5 h (zx 4) (Pt bi 10)=zx (z6 b.ctx.row):=by simp only[A5,w.hb];rfl
def BX.tV(w:BX h bi a o c t G b)(v:Int):BX (z9 h bi 4 (I v)) bi a o c t G {b with mode:=v}:=w.put rfl rfl w.o w.t
def B0.mode{v:Int}(rm:B0 b m):B0 {b with mode:=v} m:=⟨rm.n,rm.at_,rm.data,rm.AI,rm.AW,rm.tm,rm.DL,rm.Xe⟩
def aBZ(w:BX h bi a o c t G b)(rm:B0 b m):
  ∃h',BK cx 75 [Pt bi 0] h (.tuple []) h'/\BX h' bi a o c t G b.H7/\Du h (Bu bi G) h' (Bu bi G):=by
 have ho:=rm.AI;have IJ:Ev cx 75 [Pt bi 0] h λr h'=>r= .tuple []/\BX h' bi a o c t G b.H7/\Du h (Bu bi G) h' (Bu bi G):=by
  unfold Ev;have w1:=w.tV 7;rw[zP];simp only[abS,I1 w,w.st (k:=4) (v:=I 7) rfl rfl,Vy w1.sA,C0 ((b.AI.length:Int)) 1];refine Bj (λn:Nat=>[I ((n:Int)-1)]) (λn h1=>n<=b.AI.length/\b.Mi b.AI.length=b.Mi n/\h1=z9 h bi 4 (I 7)) (λn=>n) b.AI.length rfl ⟨Ae _,rfl,rfl⟩ ?_;rintro n h1 ⟨hn,ha,rfl⟩;cases n with
  |zero=>
   have e:b.H7={b with mode:=7}:=by unfold BS.H7;rw[ha];rfl
   simp only[abS,(Ab:¬(0:Int)<=((0:Nat):Int)-1)];exact⟨_,rfl,rfl,by rw[e];exact w1,Bd⟩
  |succ n=>
   have hlt:n<b.AI.length:=Ab;have i1:((n+1:Nat):Int)-1=(n:Int):=Ab;have g:=Xh w1.sA (n:Int);rw[show Dc ({b with mode:=7}:BS).AI (n:Int)=b.AI[n] from FG hlt] at g;have r2:∀i:Item,BK cx 189 [Pt bi 0,.agg i.row,I (n:Int)] (z9 h bi 4 (I 7)) (.tuple [I ((b.HH i n).getD 7),.bool (b.HH i n).isSome]) (z9 h bi 4 (I 7)):=λi=>aKB w1 rm.mode i (k:=n) DA;have d:=r2 (b.EY n);have Ia:∀v,Cy (z9 h bi 4 (I 7)) 1 (Pt bi 4) (I v)=zx (z9 (z9 h bi 4 (I 7)) bi 4 (I v)):=λv=>w1.st (k:=4) rfl rfl;have e:b.Mi (n+1)=match b.HH (b.EY n) n with|zx m=>m|zc=>b.Mi n:=rfl
   rw[e] at ha;have Ti:=w1.l9;have hlc:=w1.aBY;have Qq:=C0 ((n:Int)) 1;cases hm:b.HH (b.EY n) n with
   |none=>
    rw[hm] at d ha;by_cases h0:n=0
    .have bZ:((n:Int)=0)=True:=AE Ab;cases hf:b.Mz with
     |true=>
      have f:b.EY n=b.ctx:=by unfold BS.EY;rw[Af ⟨h0,hf⟩]
      rw[f] at d;rw[show({b with mode:=7}:BS).Mz=z3 from hf] at Ti;simp only[BD,ER,i1,g,Ti,hlc,d,Ia,JO,MW,bZ,Qq];exact zp n rfl ⟨Ab,ha,rfl⟩ Ab
     |false=>
      have f:b.EY n=b.AI[n]:=by unfold BS.EY;rw[Ac (by simp[hf]),AS,An hlt];rfl
      rw[f] at d;rw[show({b with mode:=7}:BS).Mz=zj from hf] at Ti;simp only[BD,ER,i1,g,Ti,hlc,d,Ia,JO,MW,bZ,Qq];exact zp n rfl ⟨Ab,ha,rfl⟩ Ab
    .have f:b.EY n=b.AI[n]:=by unfold BS.EY;rw[Ac (by simp[h0]),AS,An hlt];rfl
     rw[f] at d;have bZ:¬(n:Int)=0:=Ab;simp only[BD,ER,i1,g,d,Ia,JO,MW,bZ,Qq];exact zp n rfl ⟨Ab,ha,rfl⟩ Ab
   |some v=>
    rw[hm] at d ha;have e:b.H7={b with mode:=v}:=by unfold BS.H7;rw[ha]
    have j:BX (z9 (z9 h bi 4 (I 7)) bi 4 (I v)) bi a o c t G b.H7:=by rw[e];exact w1.tV v
    by_cases h0:n=0
    .have bZ:((n:Int)=0)=True:=AE Ab;cases hf:b.Mz with
     |true=>
      have f:b.EY n=b.ctx:=by unfold BS.EY;rw[Af ⟨h0,hf⟩]
      rw[f] at d;rw[show({b with mode:=7}:BS).Mz=z3 from hf] at Ti;simp only[BD,ER,i1,g,Ti,hlc,d,Ia,JO,MW,bZ];exact⟨_,rfl,rfl,j,Bd.trans Bd⟩
     |false=>
      have f:b.EY n=b.AI[n]:=by unfold BS.EY;rw[Ac (by simp[hf]),AS,An hlt];rfl
      rw[f] at d;rw[show({b with mode:=7}:BS).Mz=false from hf] at Ti;simp only[BD,ER,i1,g,Ti,hlc,d,Ia,JO,MW,bZ];exact⟨_,rfl,rfl,j,Bd.trans Bd⟩
    .have f:b.EY n=b.AI[n]:=by unfold BS.EY;rw[Ac (by simp[h0]),AS,An hlt];rfl
     rw[f] at d;have bZ:¬(n:Int)=0:=Ab;simp only[BD,ER,i1,g,d,Ia,JO,MW,bZ];exact⟨_,rfl,rfl,j,Bd.trans Bd⟩
 obtain⟨r,h',hr,rfl,w',x'⟩:=IJ.ret;exact⟨h',hr,w',x'⟩
def ua{h0 u:Ah}{V:Aa}{L:List A9}{N:Nat}(j:N=zz h0)(g:JD (h0++u) V L)(i:Up N V)(hb:zz L<=1000000000)(y:A9):
  ∃f d,GF (h0++u) 3 40 V (.sl 3 [y.row])=zx (h0++f,d)/\JD (h0++f) d (L++[y])/\Up N d:=by
 subst j;have cF:A0=140737488355328:=rfl;rcases g with⟨rfl,rfl⟩|⟨id,rfl,hc,hl⟩
 .refine⟨u++[zl (([y]:List A9).map zu).flatten],.CC (h0++u).length 0 1 3,by rw[<-AK];rfl,ze ⟨(h0++u).length,rfl,AH,AH⟩,λid k e=>by injection e with e;rw[<-e,Aw];omega⟩
 .have IC:zz h0<=id:=i id _ rfl;have hg:=Kb (b:=40) (AD:=L.map zu) (r2:=[y.row]) (v:= .sl 3 [y.row]) (aGd L) Bf hc .mk AH (by rw[Ao];simp;omega);rw[Ao] at hg;have e:(h0++u).set id .CU++[zl (L.map zu++[y.row]).flatten]=h0++(u.set (id-zz h0) .CU++[zl ((L++[y]).map zu).flatten]):=by rw[BV _ _ IC,AK,BL];rfl
  rw[e] at hg;have eH:(h0++(u.set (id-zz h0) DG.CU++[zl ((L++[y]).map zu).flatten]))=(h0++u.set (id-zz h0) DG.CU)++[zl ((L++[y]).map zu).flatten]:=by rw[AK]
  have pV:(h0++u.set (id-zz h0) DG.CU).length=(h0++u).length:=AH;refine⟨_,_,hg,ze ⟨(h0++u).length,AH,?_,?_⟩,λid k e=>by injection e with e;rw[<-e,Aw];omega⟩;.rw[eH,<-pV,Bz (Ae _),Dl];rfl
  .rw[eH];simp only[Aw,Br,Bn,BP];omega
def aKC(y c:A9)(h:Ah):BK cx 191 [z6 c.row,.CH y.row] h (zh (decide (DM ⟨0,y.name,y.value⟩=DM c))) h:=by
 simp only[Ad,kW,zu,zu,BD];refine⟨λh1=>?_,λh1=>?_⟩;.congr 2;rw[Ds];simp[DM,h1];exact wq
 .rw[Al (λe=>h1 (by simp[DM] at e;exact e.1.symm))]
def A9.fJ{y:A9}:(⟨0,y.name,y.value⟩:A9).row=[I 0,zt y.name,zt y.value]:=rfl
def VC(k:Int×Ai):∀{l out:List A9},(HU out l).any (λz=>decide (k=DM z))=(out++l).any λz=>decide (k=DM z)
 |[],out=>by simp[HU]
 |y::l,out=>by
  rw[HU];split
  .rename_i h;rw[VC k,WO,WO,J5];by_cases hk:k=DM y;.subst hk;rw[h];rfl
   .simp[hk]
  .rw[VC k,AK];rfl
def ü(k:Int×Ai)(l:List A9):(Cz l).any (λz=>decide (k=DM z))=l.any λz=>decide (k=DM z):=VC k
def RH{l:List A9}{y:A9}:Cz (l++[y])=if(Cz l).any (λz=>decide (DM y=DM z)) then Cz l else Cz l++[y]:=Z7
def aKD(w:BX h bi a o c t G b)(ok:ET b)(rm:B0 b (m+1000))(hr:OG nm av r)(hv:AL l av)(hl:DV l)(x:Int):
  ∃h' G',BK cx 76 [Pt bi 0,z6 r,I x] h (zr []) h'/\BX h' bi a o c t G' (b.EG l x)/\Du h (Bu bi G) h' (Bu bi G'):=by
 let⟨K1,V1,d,B,_,_⟩:=Xm w ok rm x;have w1:=w.HY (u:=d);obtain⟨Y,X,W,U,T,S,Q,P,SM,TO,rfl⟩:=hr;have v:Du h (Bu bi G) (h++d) (Bu bi G):=w.C3;by_cases hk:(b.a.nd x).kind=4;rotate_left;.refine⟨h++d,G,?_,by rw[BS.EG];rwa[Ac hk],v⟩;simp only[Ad,jS,abS,↓reduceIte,I1 w,B,B3,hk]
 let⟨K2,Z,A,r2,_,f,g⟩:=Xm w1 ok rm x;have hx:b.a.has x:=by
  by_cases hp:b.a.has x;.exact hp
  .rw[H6 hp] at hk;simp at hk
 have VV:=rm.at_ x;have wL:=hl.1;have IJ:Ev cx 76 [Pt bi 0,z6 [Y,zt nm,X,W,U,T,S,Q,av,P,SM,TO],I x] h λr h'=>r= zr []/\∃G',BX h' bi a o c t G' (b.EG l x)/\Du h (Bu bi G) h' (Bu bi G'):=by
  rw[Ev];rw[jS];have hvl:=AX.CK hv;simp only[abS,↓reduceIte,I1 w,B,r2,B3,hk,hvl];refine Bj (λs:Aa×Nat=>[s.1,I (s.2:Int)]) (λs h1=>∃u L,h1=h++d++u/\s.2<=zz l/\JD h1 s.1 L/\Up (h++d).length s.1/\Cz L=Cz ((b.a.nd x).Aj++BS.plain (l.take s.2))/\(∀y∈L,yw y.A7)/\zz L<=(b.a.nd x).Aj.length+s.2) (λs=>zz l-s.2) (Z,0) rfl ⟨A,(b.a.nd x).Aj,rfl,AV _,f,g,?_,?_,AH⟩ ?_;.simp[BS.plain]
  .exact λy hy=>(ok.ok.T1 x hx).ļ y hy
  rintro⟨V,n⟩ h1 ⟨u,L,rfl,hn,f,g,j,hs,EH⟩;simp only at hn f g j EH;obtain hlt|Et:=AP n l.length
  .have E:=AX.BG (k:= z8) hv hlt;rw[zu] at E;have i:=aDD f.in_ Ab (F:= yz (.func 191) [] [.CH l[n].row]) (q:=λc=>decide (DM ⟨0,l[n].name,l[n].value⟩=DM c)) ⟨_,_,rfl,Bf,λc=>aKC l[n] c _⟩;rw[zu] at i;let⟨O,V',g1,g2,g3⟩:=ua (N:=(h++d).length) rfl f g Ab ⟨0,l[n].name,l[n].value⟩;rw[A9.fJ] at g1;have em:AA (.Dk 3) [z6 [I 0,zt l[n].name,zt l[n].value]]=zx (.sl 3 [[I 0,zt l[n].name,zt l[n].value]]):=rfl;have H:Cz ((b.a.nd x).Aj++BS.plain (l.take (n+1)))=Cz (L++[⟨0,l[n].name,l[n].value⟩]):=by rw[AB hlt,BS.plain,BL,<-AK,aRy,RH,RH,j];rfl
   have D:Cz (L++[⟨0,l[n].name,l[n].value⟩])=if L.any (λz=>decide (DM ⟨0,l[n].name,l[n].value⟩=DM z)) then Cz L else Cz L++[⟨0,l[n].name,l[n].value⟩]:=by rw[RH,ü]
   simp only[abS,Nat.reduceLeDiff,↓reduceIte,AQ,(Ab:(n:Int)<(l.length:Int)),E,i,em,g1,By n];rw[C5];refine⟨λh2=>?_,λh2=>?_⟩
   .refine zp (V',n+1) rfl ⟨O,_,rfl,hlt,g2,g3,H.symm,?_,EP⟩ DA;intro y hy;obtain hy|hy:=Ay.1 hy
    .exact hs y hy
    .simp at hy;subst hy;exact⟨DA,DA⟩
   .have h2:(L.any λz=>decide (DM ⟨0,l[n].name,l[n].value⟩=DM z))=z3:=zv h2
    rw[Af h2] at D;exact zp (V,n+1) rfl ⟨u,L,rfl,hlt,f,g,by rw[H,D],hs,DA⟩ DA
  .have PH:n=zz l:=by omega
   subst PH;rw[Bt] at j;simp only[abS,↓reduceIte,(Ab:¬(l.length:Int)<(l.length:Int)),(w1.HY (u:=u)).l0];let⟨C,G3,i,M,J⟩:=(w1.HY (u:=u)).step (A':=b.a.JW x L) (R:=λC=>BK cx 192 [Pt a 0,I x,V] (h++d++u) (I 0) C) λn m ps K=>by let⟨h',JK,f1,f2,f3⟩:=aJX K rm.Wt hx hk f.in_ Ab hs;exact⟨h',n,m,JK,f1,f2,f3⟩
   have e:b.EG l x={b with a:=b.a.JW x L}:=by rw[BS.EG];rw[Af hk];unfold Ar.JW;rw[j]
   simp only[BD,i];refine⟨_,rfl,rfl,G3,?_,?_⟩;.rw[e];exact M
   .exact(v.trans w1.C3).trans J
 obtain⟨r,h',hr,rfl,G',w',x'⟩:=IJ.ret;exact⟨h',G',hr,w',x'⟩
end
end Go.Am
end
