/- Lemmas -/
import Derived.Test.YtemolpggcmbieaaGreatDoorZ32
import Derived.Test.YtemolpggcmbieaaGreatDoorZ33
set_option linter.all false
set_option maxRecDepth 100000
section
namespace Go.Am
open Go
section
variable{h h':Ah}{bi lo:Nat}{b c:BS}{F F':Nat->Prop}{m n o a j:Nat}{t:DU}{av:Aa}
def wj(w:PB h bi b F)(rm:Cd b m):∃t' o' c' u,Ca cx 31 [Pt bi 0] h (.agg (XO b.Z5 t' o' c')) (h++u)/\UB (h++u) h.length b.Z5 t' o' c':=by obtain⟨e,d,c,tt,G,w,hc,rfl⟩:=w;exact aLY w hc rm
end
section
variable{h:Ah}{bi:Nat}{b:BS}{F:Nat->Prop}
end
section
variable{h h':Ah}{bi bj lo a n a' n':Nat}{m m':Option Nat}{ps Mj:List PN}{A:Ar}{o c t v v':Aa}{F F2 F':Nat->Prop}{b b' d:BS}{av:Aa}{j k:Nat}{e x:Int}
def aMS(s:GF)(hv:A8 s.Av av){l:List QO}(ho:ZP l v)(h:Ah):Ca cx 4 [.agg (Qo s av),v] h (.bool (decide (Nr l 40/\UC s))) h:=by
 have f:Ca cx 10 [v,I 40] h (.bool (decide (Nr l 40))) h:=f4 ho (m:=40) AI h;have i:=f5 s hv h;have fm:av.cells=[av]:=Bz.cells hv;rw[Ae,aFA,t4,Qo];by_cases g:Nr l 40
 .rw[Al g] at f;by_cases p:UC s;.rw[Al p] at i;simp only[abS,f.Ad,i.Ad,g,p,X7,GN]
  .rw[Ai p] at i;simp only[abS,f.Ad,i.Ad,g,p,ŉ,Fc]
 .rw[Ai g] at f;simp only[abS,f.Ad,g,Ŋ,Fc]
def aMT{l:List Int}(hv:MS h v l)(Gc:MS h v' l)(hb:l.length<=1000000000):Ca cx 86 [v,v'] h tt h:=by
 rw[Ae,aAN,t86];simp only[abS,hv.len,Gc.len,CA,Cq];refine B1 (λn:Nat=>[ff,I (n:Int)]) (λn h1=>n<=l.length/\h1=h) (λn=>l.length-n) 0 rfl ⟨Bd _,rfl⟩ ?_;rintro n h1 ⟨hn,rfl⟩;rcases Bk n l.length with hlt|Hh
 .obtain⟨p,a1,a2⟩:=hv.at_ n hlt;obtain⟨p',b1,b2⟩:=Gc.at_ n hlt;simp only[abS,hv.len,(Ac:(n:Int)<(l.length:Int)),a1,a2,b1,b2,CA,Cq,CR (Ac:n<9223372036854775807)];exact By.next (n+1) rfl ⟨hlt,rfl⟩ Ac
 .simp only[abS,hv.len,(Ac:¬(n:Int)<(l.length:Int))]
def aMU{l:List A7}(hv:MA h v l)(Gc:MA h v' l)(hb:l.length<=1000000000):Ca cx 183 [v,v'] h tt h:=by
 rw[Ae,É,aFG];simp only[abS,hv.len,Gc.len,CA,Cq];refine B1 (λn:Nat=>[ff,I (n:Int)]) (λn h1=>n<=l.length/\h1=h) (λn=>l.length-n) 0 rfl ⟨Bd _,rfl⟩ ?_;rintro n h1 ⟨hn,rfl⟩;rcases Bk n l.length with hlt|Hh
 .obtain⟨p,a1,a2⟩:=hv.at_ n hlt;obtain⟨p',b1,b2⟩:=Gc.at_ n hlt;simp only[abS,hv.len,(Ac:(n:Int)<(l.length:Int)),a1,a2,b1,b2,aHf,CR (Ac:n<9223372036854775807)];exact By.next (n+1) rfl ⟨hlt,rfl⟩ Ac
 .simp only[abS,hv.len,(Ac:¬(n:Int)<(l.length:Int))]
def SL(w':PB h bj d F2)(hd:∀i,F i->¬F2 i)(x:Ew h F h' F'):PB h' bj d F2/\∀i,F' i->¬F2 i:=
 ⟨w'.DT λi hi=>x.old i (w'.lt hi) λhf=>hd i hf hi,λi hi h2=>by
  rcases x.BM i hi with h1|h1
  .exact hd i h1 h2
  .have:=w'.lt h2;omega⟩
def ZZ{l:List (Int×Int)}(hl:l.length<=1000000000)(h:Ss l):Q0 l=true:=by unfold Q0;simp only[AO,B4,CK];exact⟨⟨hl,h.1⟩,λp hp=>h.2 p hp⟩
def kZ:∀l:List (Int×Int),NV (l.map λx:Int×Int=>(I x.1,I x.2))=some l
 |[]=>rfl
 |p::l=>by rw[A0,NV,kZ l];rfl
def Pz.C5{f:Int->Int}(w:Pz h m f):∃l,Wu h m=some l/\Ss l/\∀k v,(k,v)∈l↔(f k=v/\v≠0):=by
 rcases w with⟨rfl,h0⟩|⟨id,l,rfl,hc,hl,ok⟩
 .exact⟨[],rfl,⟨J3,λp hp=>nomatch hp⟩,λk v=>⟨λh=>(nomatch h),λ⟨h1,h2⟩=>absurd (h1.symm.trans (h0 k)) h2⟩⟩
 .refine⟨l,by simp only[Wu,hc,kZ],ok,λk v=>⟨λhm=>?_,λ⟨h1,h2⟩=>?_⟩⟩
  .have e:l.find? (λx=>decide (k=x.1))=some (k,v):=by
    cases hf:l.find? (λx=>decide (k=x.1)) with
    |none=>exact absurd (Ax:decide (k=(k,v).1)=true) (IN.1 hf _ hm)
    |some y=>
     have h1:=Hq hf;have h2:k=y.1:=by simpa using Lb hf
     have g:=ok.1;rw[Fb,HC] at g;by_cases e:y=(k,v);.rw[e]
     .obtain⟨i,hi,r⟩:=OJ h1;obtain⟨j,hj,q⟩:=OJ hm;have hp:=xo.1 g;rcases aOT i j with ġ|ġ|ġ
      .exact absurd (by rw[r,q];exact h2.symm) (hp i j hi hj ġ)
      .subst ġ;exact absurd (r.symm.trans q) e
      .exact absurd (by rw[r,q];exact h2) (hp j i hj hi ġ)
   have g:=hl k;rw[e] at g;by_cases h0:f k=0;.rw[Af h0] at g;cases g
   .rw[Ag h0] at g;simp only[Bt,Bx] at g;exact⟨g.symm,by rw[g];exact h0⟩
  .have g:=hl k;rw[Ag (by rw[h1];exact h2)] at g;obtain⟨y,hy,e⟩:=IL.1 g;have s:k=y.1:=by simpa using Lb hy
   have:=Hq hy;rw[show(k,v)=y from Prod.ext s (by rw[<-h1];exact e.symm)];exact this
def fh{l l':List (Int×Int)}{f:Int->Int}(h1:Ss l)(h2:Ss l')(r:∀k v,(k,v)∈l↔(f k=v/\v≠0))(q:∀k v,(k,v)∈l'↔(f k=v/\v≠0)):Pe l l'=true:=by
 have i:l.Nodup:=by have:=h1.1;rw[Fb,HC] at this;rw[Fb];exact this.imp λh e=>h (by rw[e])
 have g:l'.Nodup:=by have:=h2.1;rw[Fb,HC] at this;rw[Fb];exact this.imp λh e=>h (by rw[e])
 have p:l.Perm l':=(List.perm_ext_iff_of_nodup i g).2 λx=>(r x.1 x.2).trans (q x.1 x.2).symm;unfold Pe;rw[Al p.length_eq,Z0,CK];exact λx hx=>Al (p.mem_iff.1 hx)
def lA:∀{N:Nat} {l:List Int},l.Nodup->(∀x∈l,1<=x/\x<=(N:Int))->l.length<=N
 |0,l,_,h=>by
  cases l with
  |nil=>exact Ab _
  |cons x l=>have:=h x Ax;omega
 |N+1,l,hn,h=>by
  have h1:=lA (N:=N) (l:=l.erase ((N+1:Nat):Int)) (hn.erase _) λx hx=>by have h2:=(List.Nodup.mem_erase_iff hn).1 hx;have:=h x h2.2;have:=h2.1;omega
  rw[List.length_erase] at h1;split at h1<;>omega
def lB{l:List (Int×Int)}(g:A.len<=1000000000)(h1:Ss l)(i:∀k v,(k,v)∈l↔(A.inr k=v/\v≠0)):l.length<=1000000000:=by
 have h:=lA (N:=1000000000) (l:=l.map (·.1)) h1.1 λx hx=>by obtain⟨p,hp,rfl⟩:=AZ.1 hx;have h2:=(i p.1 p.2).1 hp;have f:A.has p.1:=Decidable.byContradiction λh=>h2.2 (by rw[<-h2.1];unfold Ar.inr;rw[Ag h]);have:=f.1;have:=f.2;unfold Ar.len at g;omega
 rwa [As] at h
def aMV(w:Pz h m A.inr)(w':Pz h m' A.inr)(r:A.len<=1000000000):Ca cx 88 [.map m,.map m'] h tt h:=by
 obtain⟨l,u,i,q⟩:=w.C5;obtain⟨l',s,f,p⟩:=w'.C5;have g:Wv h [.map m,.map m']=some (h,tt):=by simp only[Wv,u,s,ZZ (lB r i q) i,ZZ (lB r f p) f,fh i f q p,Bool.and_self,BD]
 rw[Ae];show W cx (Ww [.map m,.map m']) _ h;unfold Ww;simp only[Ci,DC,g]
def wk(w:PA h a n m ps A)(hx:A.has x):NRd h (A.nd x) (pN ps x).row:=by
 have hk:=w.P2 hx;have hv:A8 (A.nd x).Av (pN ps x).av:=by rw[w.att hx];exact Sr
 refine⟨(pN ps x).kv,(pN ps x).av,?_,hk.Su,Xw hv,?_,Bz.cells hv⟩;.rw[PN.row,(w.pn hx).2.1]
 .rcases hk with⟨e,_⟩|⟨id,cs,e,_⟩<;>rw[e]<;>rfl
def aMW{y:GL}{r r':List Aa}(hr:NRd h y r)(Hd:NRd h y r')(hb:y.Av.length<=1000000000):Ca cx 87 [.BW r,.BW r'] h tt h:=by obtain⟨K,V,rfl,q,i,p,l⟩:=hr;obtain⟨u,s,rfl,uj,Ņ,g,YK⟩:=Hd;have f:=aMU i Ņ hb;rw[Ae,aAO,t87];simp only[abS,Nat.reduceLeDiff,↓reduceIte,Cq,f.Ad,GN]
def aMX(f:PA h a n m ps A)(g:PA h a' n' m' Mj A)(l:Mi A)(ok:EY A e)(hb:A.n.length<=900000000):Ca cx 32 [Pt a 0,Pt a' 0] h tt h:=by
 have rJ:A.n.length=ps.length:=by rw[f.e,As]
 have aSr:A.n.length=Mj.length:=by rw[g.e,As]
 have l1:=aF1 f;have w:=aF1 g;have u:Bi h none (Pt a 1)=some (.map m):=by simp only[Bi,f.ha];rfl
 have s:Bi h none (Pt a' 1)=some (.map m'):=by simp only[Bi,g.ha];rfl
 have q:=aMV f.mp g.mp (by unfold Ar.len;omega);have ln:Ay (.len false) [.CW n 0 ps.length 13]=some (I (ps.length:Int)):=rfl;rw[Ae,aAG,t32];simp only[abS,l1.Ad,w.Ad,CA,Cq,AW,AM,Nx,A3,AR,f.nodes,ln];refine B1 (λk:Nat=>[ff,I (k:Int)]) (λk h1=>k<=ps.length/\h1=h) (λk=>ps.length-k) 0 rfl ⟨Bd _,rfl⟩ ?_;rintro k h1 ⟨hk,rfl⟩;rcases Bk k ps.length with hlt|Hh
 .obtain⟨hx,ex⟩:=aC8 (A:=A) (k:=k) Ac;have ea:Ay (.FH 13) [.CW n 0 ps.length 13,I (k:Int)]=some (.ptr (some (n,nP n ((k:Int)+1)))):=by have:=Fi (k:= .i64) (id:=n) (z:=13) hlt;rw[this];unfold nP;congr 4
  have D:Ay (.FH 13) [.CW n' 0 Mj.length 13,I (k:Int)]=some (.ptr (some (n',nP n' ((k:Int)+1)))):=by have:=Fi (k:= .i64) (id:=n') (z:=13) (Ac:k<Mj.length);rw[this];unfold nP;congr 4
  have p:=f.row hx;have lb:=g.row hx;have na:=wk f hx;have nb:=wk g hx;have r2:=aMW na nb (by have:=l.at_ ((k:Int)+1);omega);obtain⟨K,V,C,B,H,G,E⟩:=na;obtain⟨L,J,i,uj,Ņ,y,YK⟩:=nb;have r:=aMT B uj (l.Bw ok _);rw[C] at p r2;rw[i] at lb r2;simp only[abS,Nat.reduceLeDiff,↓reduceIte,(Ac:(k:Int)<(ps.length:Int)),f.nodes,g.nodes,ea,D,p,lb,Bl,r.Ad,r2.Ad,CA,Cq,AW,AM,Nx,A3,AR,CR (Ac:k<9223372036854775807)];exact By.next (k+1) rfl ⟨hlt,rfl⟩ Ac
 .simp only[abS,(Ac:¬(k:Int)<(ps.length:Int)),u,s,q.Ad]
def aMY(w:PB h bi b F)(w':PB h bj b F2)(ok:BA b){m:Nat}(rm:Cd b m)(hm:10<=m):∃u,Ca cx 9 [Pt bi 0,Pt bj 0] h tt (h++u):=by obtain⟨J,L,N,g,H,B⟩:=wj w rm;obtain⟨t2,K,M,l,E,z⟩:=wj (w'.JL (u:=g)) rm;have p:=B.DT (h':=h++g++l) λi _ hi=>An hi;have D:=f22 p z (show b.tm.length<=1000000000 by have:=rm.tm;omega) (show(b.AL.map Item.node).length<=1000000000 by rw[As];have:=rm.AL;omega) (show b.AY.length<=1000000000 by have:=rm.AY;omega) (λe he=>by have:=(rm.C5 e he).2.1;omega);have w1:=(w.JL (u:=g)).JL (u:=l);have y:=(w'.JL (u:=g)).JL (u:=l);obtain⟨O,_,_,_,G,wx,_,rfl⟩:=w1;obtain⟨I,_,_,_,P,f,_,rfl⟩:=y;have l0:=wx.l0;have q:=f.l0;obtain⟨n,m,ps,s⟩:=wx.w.pa;obtain⟨n',m',Mj,r⟩:=f.w.pa;have C:=aMX s r rm.UY ok.ok (by have:=rm.n;omega);refine⟨g++l,?_⟩;rw[<-AQ,Ae,aFD,t9];simp only[abS,H.Ad,E.Ad,D.Ad,l0,q,C.Ad]
end
section
variable{h h':Ah}{bi bj:Nat}{F F2:Nat->Prop}{b:BS}{v av:Aa}{j:Nat}
def Fin.gz(f:Fin b (j+1)):Gz b (5000000*j+5000000) b.AL.length b.AY.length:=⟨f.ok,f.sz.rm.le Ac,Ab _,Ab _⟩
def Fin.gzB(f:Fin b (j+1)):Gz b (5000000*j+800000+8*(4*(b.AL.length+b.AY.length+8)+10)+8*b.AY.length+2000) b.AL.length b.AY.length:=by have h1:=f.sz.AL;have h2:=f.sz.AY;exact f.gz.dn Ac
def wm(s:GF)(hv:A8 s.Av av)(hl:EM s.Av){l:List QO}(ho:ZP l v)(hb:l.length<=60)(hq:∀x∈l,í x.q)(h:Ah):
  ∃h1 h2 bi bj a F2,Ca cx 7 [.agg (Qo s av),v] h (Pt bi 0) h1/\Ca cx 7 [.agg (Qo s av),v] h1 (Pt bj 0) h2/\PB h2 bi (L5 s.b l) a/\PB h2 bj (L5 s.b l) F2/\∀i,a i->¬F2 i:=by
 obtain⟨h1,bi,a,g,w1,n⟩:=ņ s hv hl ho hb hq h;obtain⟨h2,bj,F2,f,e,c⟩:=ņ s hv hl ho hb hq h1;refine⟨h1,h2,bi,bj,a,F2,g,f,w1.DT λi hi=>c.old i (w1.lt hi) λh=>h,e,λi m k=>?_⟩;rcases c.BM i k with d|d
 .exact d
 .have:=w1.lt m;omega
end
noncomputable def BS.SM(r:Int)(b:BS)(t:DU):BS×Bool:=
 if r=1 then b.KN Qp t else if r=2 then b.GG t else if r=3 then b.GH t else if r=4 then b.DH t else if r=5 then b.GI t
 else if r=6 then b.Fk t else if r=7 then b.MU t else if r=8 then b.MT t else if r=9 then b.Fu t else(b,false)
def IJ(m:Int):Int:=if 1<=m/\m<=8 then m else if m=18 then 9 else -1
section
variable{h h':Ah}{bi bj:Nat}{F F2:Nat->Prop}{b:BS}{v av:Aa}{j n o a:Nat}{t:DU}{r:Int}
def wo(h:¬t.ok):b.SM r t=(b,false):=by
 unfold BS.SM;split;.unfold BS.KN;rw[Af h]
 split;.unfold BS.GG;rw[Af h]
 split;.unfold BS.GH;rw[Af h]
 split;.unfold BS.DH;rw[Af h]
 split;.unfold BS.GI;rw[Af h]
 split;.unfold BS.Fk;rw[Af h]
 split;.unfold BS.MU;rw[Af h]
 split;.unfold BS.MT;rw[Af h]
 split;.unfold BS.Fu;rw[Af h]
 .rfl
def X5:b.apply Qp t=b.SM (IJ b.mode) t:=by
 by_cases h:¬t.ok;.rw[wo h];unfold BS.apply;rw[Af h]
 unfold BS.apply;rw[Ag h];unfold BS.SM IJ;by_cases c:1<=b.mode/\b.mode<=8;.rw[Af c];have hc:b.mode=1\/b.mode=2\/b.mode=3\/b.mode=4\/b.mode=5\/b.mode=6\/b.mode=7\/b.mode=8:=Ac;rcases hc with e|e|e|e|e|e|e|e<;>simp[e]
 .rw[Ag c];by_cases d:b.mode=18;.simp[d]
  .have q:¬b.mode=1:=by omega
   have p:¬b.mode=2:=Ac;have m:¬b.mode=3:=Ac;have l:¬b.mode=4:=Ac;have k:¬b.mode=5:=Ac;have i:¬b.mode=6:=Ac;have g:¬b.mode=7:=Ac;have f:¬b.mode=8:=Ac;simp[q,p,m,l,k,i,g,f,d]
def aHQ(w:PB h bi b F)(g:Gz b (n+8*(4*(o+a+8)+10)+8*a+2000) o a)(ht:t.Sm)(hp:t.JN.length<=AK)(hv:A8 t.Av av)(hl:t.Av.length<=1000000)(h0:r≠0):
  Fe h F 8 [Pt bi 0,.agg (I r::B2 t av)] (.bool (b.SM r t).2) bi (b.SM r t).1:=by
 obtain⟨YH,Gc,ro⟩:=aHL hv hl;have c:=ro h;have ge:∀{m},m<=8*(4*(o+a+8)+10)+8*a+2000->Gz b (n+m) o a:=λhm=>g.dn Ac;have f:t.st [aTu]->Fe h F 27 [Pt bi 0,.agg (B2 t YH)] ff bi (b.Jv t):=λhs=>Nv (n:=n) w (ge Ac) ht Gc hs;unfold BS.SM;by_cases z:r=1;.subst z;rw[Af rfl];obtain⟨h2,F2,q,e,d⟩:=aHH (n:=n) w (ge Ac) ht Gc (λh=>f75 t hp h);refine⟨h2,F2,?_,e,d⟩;simp only[B2] at c q;rw[Ae,Pw,t8];simp[abS,Nat.reduceLeDiff,↓reduceIte,B2,c.Ad,q.Ad]
 rw[Ag z];by_cases y:r=2;.subst y;rw[Af rfl];obtain⟨h2,F2,q,e,d⟩:=aHm (n:=n) w (ge Ac) ht Gc;refine⟨h2,F2,?_,e,d⟩;simp only[B2] at c q;rw[Ae,Pw,t8];simp[abS,Nat.reduceLeDiff,↓reduceIte,B2,c.Ad,q.Ad]
 rw[Ag y];by_cases x:r=3;.subst x;rw[Af rfl];obtain⟨h2,F2,q,e,d⟩:=aHn (n:=n) w (ge Ac) ht Gc f;refine⟨h2,F2,?_,e,d⟩;simp only[B2] at c q;rw[Ae,Pw,t8];simp[abS,Nat.reduceLeDiff,↓reduceIte,B2,c.Ad,q.Ad]
 rw[Ag x];by_cases u:r=4;.subst u;rw[Af rfl];obtain⟨h2,F2,q,e,d⟩:=eM (n:=n) w (ge Ac) ht Gc f;refine⟨h2,F2,?_,e,d⟩;simp only[B2] at c q;rw[Ae,Pw,t8];simp[abS,Nat.reduceLeDiff,↓reduceIte,B2,c.Ad,q.Ad]
 rw[Ag u];by_cases s:r=5;.subst s;rw[Af rfl];obtain⟨h2,F2,q,e,d⟩:=aHp (n:=n) w (ge Ac) ht Gc f;refine⟨h2,F2,?_,e,d⟩;simp only[B2] at c q;rw[Ae,Pw,t8];simp[abS,Nat.reduceLeDiff,↓reduceIte,B2,c.Ad,q.Ad]
 rw[Ag s];by_cases p:r=6;.subst p;rw[Af rfl];obtain⟨h2,F2,q,e,d⟩:=aHr (n:=n) w (ge Ac) ht Gc f;refine⟨h2,F2,?_,e,d⟩;simp only[B2] at c q;rw[Ae,Pw,t8];simp[abS,Nat.reduceLeDiff,↓reduceIte,B2,c.Ad,q.Ad]
 rw[Ag p];by_cases l:r=7;.subst l;rw[Af rfl];obtain⟨h2,F2,q,e,d⟩:=aHE (n:=n) w g ht Gc;refine⟨h2,F2,?_,e,d⟩;simp only[B2] at c q;rw[Ae,Pw,t8];simp[abS,Nat.reduceLeDiff,↓reduceIte,B2,c.Ad,q.Ad]
 rw[Ag l];by_cases k:r=8;.subst k;rw[Af rfl];obtain⟨h2,F2,q,e,d⟩:=aHs (n:=n) w (ge Ac) ht Gc;refine⟨h2,F2,?_,e,d⟩;simp only[B2] at c q;rw[Ae,Pw,t8];simp[abS,Nat.reduceLeDiff,↓reduceIte,B2,c.Ad,q.Ad]
 rw[Ag k];by_cases i:r=9;.subst i;rw[Af rfl];obtain⟨h2,F2,q,e,d⟩:=aDA (n:=n) w (g.dn (n':=n+4*a+1005) Ac) ht Gc;refine⟨h2,F2,?_,e,d⟩;simp only[B2] at c q;rw[Ae,Pw,t8];simp[abS,Nat.reduceLeDiff,↓reduceIte,B2,c.Ad,q.Ad]
 rw[Ag i];refine⟨_,_,?_,w,.refl⟩;simp only[B2] at c;rw[Ae,Pw,t8];simp[abS,Nat.reduceLeDiff,↓reduceIte,B2,c.Ad,h0,z,y,x,u,s,p,l,k,i]
def aHR(w:PB h bi b F)(g:Gz b (n+8*(4*(o+a+8)+10)+8*a+2000) o a)(ht:t.Sm)(hp:t.JN.length<=AK)(hv:A8 t.Av av)(hl:t.Av.length<=1000000):
  Fe h F 8 [Pt bi 0,.agg (I 0::B2 t av)] (.bool (b.apply Qp t).2) bi (b.apply Qp t).1:=by
 obtain⟨YH,Gc,ro⟩:=aHL hv hl;have c:=ro h;obtain⟨h2,F2,q,e,d⟩:=aHJ (n:=n) w g ht Gc (λh=>f75 t hp h);refine⟨h2,F2,?_,e,d⟩;simp only[B2] at c q;rw[Ae,Pw,t8];simp[abS,Nat.reduceLeDiff,↓reduceIte,B2,c.Ad,q.Ad]
def Gz.JA(g:Gz b n o a):BA b/\Cd b n:=⟨g.ok.ba,g.rm⟩
def eT(g:Gz b (n+1005) o a)(ht:t.Sm):BA (b.Fk t).1/\Cd (b.Fk t).1 n:=by
 have g0:Gz b n o a:=g.dn Ac;have d:Gz b (n+4) o a:=g.dn Ac;have T:∀{c:Prop} [Decidable c] {x y:BS×Bool},(c->BA x.1/\Cd x.1 n)->(BA y.1/\Cd y.1 n)->BA (if c then x else y).1/\Cd (if c then x else y).1 n:=λh1 h2=>by
  split;.rename_i h;exact h1 h
  .exact h2
 unfold BS.Fk;refine T (λ_=>g0.JA) (T (λ_=>g0.JA) (T (λ_=>g0.JA) (T (λ_=>g0.JA) (T (λ_=>((g.dn (n':=n+5) Ac).OM).JA) (T (λ_=>((g.dn (n':=n+5) Ac).DM ht.data).JA) (T (λ_=>((g.dn (n':=n+1000) Ac).Jv ht).JA)
  (T (λ_=>?_) (T (λ_=>?_) (T (λhs=>vi (g.dn (n':=n+7) Ac) ht hs) (T (λ_=>((g.dn (n':=n+1004) Ac).DH ht).JA) ?_))))))))))
 .exact((d.Df ht).eq (c:={b.Df t with fs:=false,mode:=7}) rfl rfl rfl rfl rfl).JA
 .exact((d.Df ht).eq (c:={b.Df t with mode:=20}) rfl rfl rfl rfl rfl).JA
 .exact((d.Df (t:=Mm aTy) (Iz AI)).eq (c:={b.Df (Mm aTy) with mode:=7}) rfl rfl rfl rfl rfl).JA
def wq(g:Gz b (n+8*(4*(o+a+8)+10)+8*a+2000) o a)(ht:t.Sm):BA (b.apply Qp t).1/\Cd (b.apply Qp t).1 n:=by
 by_cases c:b.mode=6
 .have e:b.apply Qp t=b.Fk t:=by rw[X5,show IJ b.mode=6 by unfold IJ;rw[c];rfl];rfl
  rw[e];exact eT (g.dn Ac) ht
 .exact(Gz.apply g (λh=>absurd h c) ht).JA
end
def qJ(s:GF){av:Aa}(hv:A8 s.Av av){l:List QO}{v:Aa}(ho:ZP l v)(hr:∀x∈l,-2147483648<=x.q.r/\x.q.r<=2147483647){p:DU×Aa}(hp:aDG p)(m:Int):Ev cx 3 [.agg (Qo s av),v,I m,.agg (B2 p.1 p.2)] [] λr _=>r= .bool true:=by
 have f:=aMS s hv ho [];rw[Qo] at f;have w:=aMQ (sa:=saB) (λh hv=>h9B h hv) hp.v [];simp only[B2] at w;have k:p.2.cells=[p.2]:=Bz.cells hp.v;unfold Ev;rw[aFz,t3,Qo];by_cases C:Nr l 40/\UC s;rotate_left;.rw[Ai C] at f;simp only[abS,B2,f.Ad,TU.BG rfl rfl];exact⟨_,rfl,rfl⟩
 rw[Al C] at f;cases z:p.1.OF saB with
 |false=>rw[z] at w;simp only[abS,B2,f.Ad,w.Ad,TU.BG rfl rfl];exact⟨_,rfl,rfl⟩
 |true=>
 rw[z] at w;have hq:∀x∈l,í x.q:=λx hx=>(C.1.2 x hx).ok (hr x hx);have ID:Fin (L5 s.b l) (49+1):=XQ (j:=50) (s.ID.le (by have:=C.1.1;omega)) hq;have ht:=wh z hp.r;have tD:=fg z;have H:p.1.Av.length<=1000000:=by have:=(HE (p:=E8 p.1.Av) (by unfold DU.OF at z;simp only[AO] at z;exact z.2.2.2.2)).1;omega
 obtain⟨h1,h2,bi,bj,F1,F2,G,E,w1,w2,d⟩:=wm s hv C.2.2.OF ho (by have:=C.1.1;omega) hq [];generalize L5 s.b l=b at*;obtain⟨L,Z,T⟩:=E9 w1 m;obtain⟨Y,d4⟩:=SL w2 d T;obtain⟨K,X,R⟩:=E9 Y m;obtain⟨W,d6⟩:=SL Z (λi a b=>d4 i b a) R;have g:Gz {b with mode:=m} (5000000*49+800000+8*(4*(b.AL.length+b.AY.length+8)+10)+8*b.AY.length+2000) b.AL.length b.AY.length:=ID.gzB.eq rfl rfl rfl rfl rfl;obtain⟨h3,F3,D,V,Q⟩:=aHR (n:=5000000*49+800000) W g ht tD hp.v H;obtain⟨U,d8⟩:=SL X (λi a b=>d6 i b a) Q;have hro:IJ m≠0:=by unfold IJ;split;omega;split<;>omega
 obtain⟨h4,F4,c,O,P⟩:=aHQ (n:=5000000*49+800000) (r:=IJ m) U g ht tD hp.v H hro;obtain⟨fG,d10⟩:=SL V (λi a b=>d8 i b a) P;have ea:({b with mode:=m}:BS).apply Qp p.1=({b with mode:=m}:BS).SM (IJ m) p.1:=X5;obtain⟨ba,rm⟩:=wq (n:=5000000*49+800000) g ht;rw[<-ea] at O c;obtain⟨u,M⟩:=aMY fG O ba (rm.le (m':=1000) Ac) AI;rw[Qo] at G E;simp only[B2] at D c;have J:∀SM:Int,Ay (.BV [I 0,I 0,S [],ff,S [],ff,S [],ff,ff,.slnil,ff,S [],.int .i32 0] [(0,1),(1,12)]) [I SM,.agg (B2 p.1 p.2)]=some (.agg (I SM::B2 p.1 p.2)):=λSM=>by have hc:(I SM).cells=[I SM]:=rfl;rfl
 simp only[B2] at J;generalize(({b with mode:=m}:BS).apply Qp p.1).2=rb at*;by_cases B:1<=m
 .by_cases A:m<=8
  .have e:IJ m=m:=by unfold IJ;rw[Af ⟨B,A⟩]
   have N:¬m=18:=Ac;rw[e] at c;simp only[abS,Nat.reduceLeDiff,↓reduceIte,B2,k,f.Ad,w.Ad,G.Ad,E.Ad,L,K,B,A,N,J,D.Ad,c.Ad,M.Ad,TU.BG rfl rfl];exact⟨_,rfl,rfl⟩
  .by_cases y:m=18
   .have e:IJ m=9:=by unfold IJ;rw[Ag (λh=>A h.2),Af y]
    rw[e] at c;simp only[abS,Nat.reduceLeDiff,↓reduceIte,B2,k,f.Ad,w.Ad,G.Ad,E.Ad,L,K,B,A,A6 y,J,D.Ad,c.Ad,M.Ad,TU.BG rfl rfl];exact⟨_,rfl,rfl⟩
   .have e:IJ m= -1:=by unfold IJ;rw[Ag (λh=>A h.2),Ag y]
    rw[e] at c;simp only[abS,Nat.reduceLeDiff,↓reduceIte,B2,k,f.Ad,w.Ad,G.Ad,E.Ad,L,K,B,A,y,J,D.Ad,c.Ad,M.Ad,TU.BG rfl rfl];exact⟨_,rfl,rfl⟩
 .have y:¬m=18:=by omega
  have e:IJ m= -1:=by unfold IJ;rw[Ag (λh=>B h.1),Ag y]
  rw[e] at c;simp only[abS,Nat.reduceLeDiff,↓reduceIte,B2,k,f.Ad,w.Ad,G.Ad,E.Ad,L,K,B,y,J,D.Ad,c.Ad,M.Ad,TU.BG rfl rfl];exact⟨_,rfl,rfl⟩
def lC:∀l,Vk [dZ,.sl tOp,.int .i64,we] l->Ev cx 3 l [] λr _=>r= .bool true:=by
 rintro _ ⟨a,_,rfl,ha,b,_,rfl,hb,c,_,rfl,hc,d,_,rfl,hd,rfl⟩;obtain⟨s,av,rfl,hv⟩:=pS ha;obtain⟨l,ho,hr⟩:=uk hb;obtain⟨q,rfl⟩:∃q,c= I q:=by obtain⟨n,e,_⟩:=KL (show Yn (.int .i64) [c] from hc);exact⟨n,by simpa using e⟩
 obtain⟨p,rfl,hp⟩:=wg hd;exact qJ s hv ho hr hp q
end Go.Am
end
