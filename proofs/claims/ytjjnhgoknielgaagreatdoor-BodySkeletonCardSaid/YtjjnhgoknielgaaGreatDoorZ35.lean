/- Lemmas -/
import Derived.Test.YtjjnhgoknielgaaGreatDoorZ33
import Derived.Test.YtjjnhgoknielgaaGreatDoorZ34
set_option linter.all false
namespace Go.Am
open Go
set_option maxRecDepth 100000
section
variable{h:Ai}{a n:Nat}{m:Option Nat}{ps:List PN}{A:Ar}{x e:Int}
def İ(w:PA h a n m ps A){u:Ai}:PA (h++u) a n m ps A:=w.FM λi hi=>Al (w.lt i hi)
def p8(A:Ar)(k:Int):List Aa:=[.str (A.nd k).name]
def aKU(w:PA h a n m ps A)(g:NB A)(ok:EA A e)(hx:A.has x):∃c v2 u,Cy cx 8 [.ptr (some (a,0)),.int .i64 x] h (.tuple [c,v2]) (h++u)/\BB 1 ((A.el x).map (p8 A)) c/\BB 1 ((A.el x).map Dj) v2:=by
 have hlen:=g.Bm ok x;obtain⟨kv,o,hk⟩:=Þ (x:=x) w g hlen;have lk:=BB.GN hk;have B:AV=140737488355328:=rfl;have aQg:=ok.N7 x hx;have Qa:Ev cx 8 [.ptr (some (a,0)),.int .i64 x] h λr h'=>∃c v2 u,r= .tuple [c,v2]/\h'=h++u/\BB 1 ((A.el x).map (p8 A)) c/\BB 1 ((A.el x).map Dj) v2:=by
  unfold Ar.el;generalize(A.nd x).Bm=ks at*;unfold Ev;rw[aIP,t8];simp only[abS,o.Ae];refine Co (λs:Aa×Aa×Nat=>[s.1,s.2.1,.int .i64 (s.2.2:Int)]) (λs h1=>s.2.2<=ks.length/\∃u,h1=h++u/\BB 1 (((ks.take s.2.2).filter λk=>decide ((A.nd k).kind=4)).map (p8 A)) s.1/\BB 1 (((ks.take s.2.2).filter λk=>decide ((A.nd k).kind=4)).map Dj) s.2.1) (λs=>ks.length-s.2.2) (.slnil,.slnil,0) rfl ⟨Bp _,[],AB,.inr ⟨rfl,rfl⟩,.inr ⟨rfl,rfl⟩⟩ ?_;rintro⟨c,v2,k⟩ h1 ⟨qX,u,rfl,i1,f⟩;simp only at qX i1 f⊢;by_cases hlt:k<ks.length
  .have i:(k:Int)<(ks.length:Int):=by omega
   have l:=BB.DN (k:= .i64) hk hlt;rw[Dj] at l;have hy:=aQg _ (AF hlt);obtain⟨r,t,r2,K,V,C,_⟩:=aAO (x:=ks[k]) (İ w (u:=u)) g (g.Bm ok _);rw[C,Af hy.1] at r2;have j:ks.take (k+1)=ks.take k++[ks[k]]:=Bd hlt;have Jj:((ks.take k).filter λk=>decide ((A.nd k).kind=4)).length<=1000000000:=by have:=Wv (λk=>decide ((A.nd k).kind=4)) (ks.take k);rw[Ay] at this;omega
   generalize ks[k]=y at*;have pi:=Dw (Ab:k<9223372036854775807);by_cases d:(A.nd y).kind=4
   .have z:AH (.CC 1) [.str (A.nd y).name]=some (.sl 1 ([y].map (p8 A))):=rfl;have v:AH (.CC 1) [.int .i64 y]=some (.sl 1 ([y].map Dj)):=rfl;obtain⟨q,a1,b1⟩:=BB.Z6 (l2:=[y]) (b:=16) i1 .mk (by simp only[AS];omega);obtain⟨p,a2,b2⟩:=BB.Z6 (l2:=[y]) (b:=8) f .mk (by simp only[AS];omega);simp only[abS,lk,i,l,r2.Ae,d,z,a1,v,a2,pi,CY,C4,A0,AN,OX,A5,AU,Jh];refine BC.next (q,p,k+1) rfl ⟨hlt,u++t,by rw[A6],?_,?_⟩ HC;.simp only;rw[j,Bc,Du (by simp[d])];exact b1
    .simp only;rw[j,Bc,Du (by simp[d])];exact b2
   .simp only[abS,lk,i,l,r2.Ae,d,pi,CY,C4,A0,AN,OX,A5,AU,Jh];refine BC.next (c,v2,k+1) rfl ⟨hlt,u++t,by rw[A6],?_,?_⟩ HC;.simp only;rw[j,Bc,Dv (by simp[d])];simpa using i1
    .simp only;rw[j,Bc,Dv (by simp[d])];simpa using f
  .have i:¬(k:Int)<(ks.length:Int):=by omega
   rw[Bf Ab] at i1 f;simp only[abS,lk,i];exact⟨_,rfl,c,v2,u,rfl,rfl,i1,f⟩
 obtain⟨r,h',hr,c,v2,u,rfl,rfl,b1,b2⟩:=Qa.ret;exact⟨c,v2,u,hr,b1,b2⟩
def Vc:DF:=⟨6,[],false,[],false,[],false,false,[],false,[],0⟩
def t_:Vc.Mc saB=true:=AA
def aGW:ģ (Vc,.slnil):=⟨Ĥ,(AA:(-2147483648:Int)<=0/\(0:Int)<=2147483647),Bp _⟩
end
def lA:∀l,WJ [.sl ta] l->Ev cx 3 l [] λr _=>r= .bool true:=by
 rintro _ ⟨v,_,rfl,ha,rfl⟩;obtain⟨l,hv,hl,hp⟩:=tc ha;have d:=BB.GN hv;have Z:AV=140737488355328:=rfl;unfold Ev;rw[aIN,t3];rcases th hl hv hp [] with⟨D,hs,hn⟩|D
 rotate_left;.simp only[abS,D.Ae,Zw.BH rfl rfl];exact⟨_,rfl,rfl⟩
 simp only[abS,D.Ae];refine Co (λk:Nat=>[ff,.int .i64 (k:Int)]) (λk h1=>k<=l.length/\h1=[]) (λk=>l.length-k) 0 rfl ⟨Bp _,rfl⟩ ?_;rintro k h1 ⟨hk,rfl⟩;by_cases hlt:k<l.length
 .have c:(k:Int)<(l.length:Int):=by omega
  have s:=OS hv hlt;rw[CE] at s;have pi:=Dw (Ab:k<9223372036854775807);by_cases C:l[k].1.k=2
  .by_cases y:l[k].1.name=aWA;.simp only[abS,Nat.reduceLeDiff,↓reduceIte,d,c,s,C,y,Zw.BH rfl rfl,LI,FO];exact⟨_,rfl,rfl⟩
   .simp only[abS,Nat.reduceLeDiff,↓reduceIte,d,c,s,C,y,pi,LI,FO,(AA:¬(2:Int)=6)];exact BC.next (k+1) rfl ⟨hlt,rfl⟩ Ab
  .by_cases y:l[k].1.k=6;.simp only[abS,Nat.reduceLeDiff,↓reduceIte,d,c,s,C,y,Zw.BH rfl rfl,LI,FO,(AA:¬(6:Int)=2)];exact⟨_,rfl,rfl⟩
   .simp only[abS,Nat.reduceLeDiff,↓reduceIte,d,c,s,C,y,pi,LI,FO];exact BC.next (k+1) rfl ⟨hlt,rfl⟩ Ab
 .have c:¬(k:Int)<(l.length:Int):=by omega
  obtain⟨u1,a1,i1⟩:=BB.Z6 (l:=([]:List (DF×Aa))) (f:=λp=>CE p.1 p.2) (v:= .slnil) (b:=136) (.inr ⟨rfl,rfl⟩) hv Et;rw[BA] at i1;have N:AH (.CC 12) [.agg (CE Vc .slnil)]=some (.sl 12 ([(Vc,Aa.slnil)].map λp=>CE p.1 p.2)):=rfl;obtain⟨u2,a2,Y⟩:=BB.Z6 (l2:=[(Vc,Aa.slnil)]) (b:=136) i1 .mk (by simp only[AS];omega);have hlen:(l++[(Vc,Aa.slnil)]).length=l.length+1:=AB;obtain⟨h1,bi,F,g,w,x,eQ⟩:=tg (e:=0) Y (λp ke=>by
   rcases An.1 ke with h|h
   .exact hp p h
   .simp at h;subst h;exact aGW) (λp ke=>by
   rcases An.1 ke with h|h
   .exact hs p h
   .simp at h;subst h;exact t_) Ab []
  have em:(l++[(Vc,Aa.slnil)]).map (·.1)=l.map (·.1)++[Vc]:=AB;rw[em] at g w eQ;simp only[CE,Vc] at N a2;by_cases h2:(D3 OR (l.map (·.1)++[Vc]) (II false)).2=2;rotate_left
  .have e:((D3 OR (l.map (·.1)++[Vc]) (II false)).2==2)=false:=by simpa using h2
   rw[e] at g;simp only[abS,Nat.reduceLeDiff,↓reduceIte,Cl,d,c,a1,N,a2,g.Ae,Zw.BH rfl rfl];exact⟨_,rfl,rfl⟩
  obtain⟨o,z⟩:=eQ h2;have se:=į (l:=l.map (·.1)) (t:=Vc) rfl h2 kL;rw[h2] at g;generalize(D3 OR (l.map (·.1)++[Vc]) (II false)).1=b at*;obtain⟨J,E,et,eh,eo,ed,eL⟩:=se.ex;have R:=z.rm.Wk;have Ci:=w.Ci;rw[se.stop] at Ci;obtain⟨ar,_,_,_,G,wx,_,rfl⟩:=w;have l0:=wx.l0;have U:=wx.lt;obtain⟨n',m',ps,O⟩:=wx.w.pa;have ok:=o.cm.ok;have uK:J∈b.Au/\E∈b.Au:=by have h3:∀i∈b.Au.take 2,i∈b.Au:=λi hi=>AZ hi;rw[et] at h3;exact⟨h3 J AB,h3 E AB⟩
  have P:=ok.op J uK.1;have X:=ok.op E uK.2;have q:=(Ca.1 eh).2;have j:=(Ca.1 eo).2;simp only[AE,Ej,Ml] at q j;have hK:=o.hd (by rw[se.mode];decide);obtain⟨v1,v2,u,W,I,S⟩:=aKU O R ok.ok ok.BM.1;rw[ed] at I S;have g1:=BB.GN I;have g2:=BB.DN (k:= .i64) I (n:=0) AB;have g3:=BB.DN (k:= .i64) S (n:=0) AB;obtain⟨v3,v4,u4,V,B,i8⟩:=aKU (İ O (u:=u)) R ok.ok P.1;rw[eL] at B i8;have M:=BB.GN B;have L:=BB.DN (k:= .i64) B (n:=0) AB;have K:=BB.DN (k:= .i64) B (n:=1) AB;simp only[p8,Dj,Vg,JK,P.2.2.2,q,hK.name,X.2.2.2,j,AK,AW] at g1 g2 g3 M L K;have Q:∀(k:Nat) (w:Ai),Bn (h1++w) none (.ptr (some (bi,k)))=Bn h1 none (.ptr (some (bi,k))):=λk w=>by simp only[Bn,Al U]
  have H:∀(k:Nat) (w:Ai),Bn (h1++u++w) none (.ptr (some (bi,k)))=Bn h1 none (.ptr (some (bi,k))):=λk w=>by rw[A6,Q]
  have z0:((0:Nat):Int)=0:=rfl;have T:((1:Nat):Int)=1:=rfl;have z2:((0+1:Nat):Int)=1:=rfl;have z3:((0+1+1:Nat):Int)=2:=rfl;rw[z0] at g2 g3 L;rw[T] at K;rw[z2] at g1;rw[z3] at M;simp only[abS,Nat.reduceLeDiff,↓reduceIte,Cl,d,c,a1,N,a2,g.Ae,show((2:Nat)==2)=true from rfl,l0,Ci,W.Ae,g1,g2,g3,H,Q,V.Ae,M,L,K,Zw.BH rfl rfl,CY,C4,A0,AN,OX,A5,AU,Jh];exact⟨_,rfl,rfl⟩
end Go.Am
