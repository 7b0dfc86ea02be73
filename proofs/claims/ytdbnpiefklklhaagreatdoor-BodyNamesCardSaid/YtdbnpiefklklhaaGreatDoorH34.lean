/- Lemmas -/
import Derived.Test.YtdbnpiefklklhaaGreatDoorH32
import Derived.Test.YtdbnpiefklklhaaGreatDoorH33
set_option linter.all false
set_option maxRecDepth 100000
section
namespace Go.Am
open Go
section
variable{h h':Ai}{bi lo:Nat}{b c:BS}{F F':Nat->Prop}{m n o a j:Nat}{t:DH}{av:Aa}
def ÿ(nm:Ah):DH:=⟨3,nm,false,[],false,[],false,false,[],false,[],0⟩
def aDA(nm:Ah)(h:Ai):B9 cx 13 [.str nm] h (.agg (B1 (MV nm) .slnil)) h:=by rw[Ag,o_,t13];simp only[abS,Nat.reduceLeDiff,↓reduceIte,Br,MV]
def aMU(nm:Ah)(h:Ai):B9 cx 15 [.str nm] h (.agg (B1 (ÿ nm) .slnil)) h:=by rw[Ag,pc,t15];simp only[abS,Nat.reduceLeDiff,↓reduceIte,Br,ÿ]
def lD:Bb ([]:List A3) .slnil:= .nil
def aDB{nm:Ah}(h:nm.length<=1000):(ÿ nm).Sm:=⟨h,TV,(AM:([]:Ah).length<=1000),show(-2147483648:Int)<=0/\(0:Int)<=2147483647 by decide⟩
def wq(w:PB h bi b F)(rm:Cx b m):∃t' o' c' u,B9 cx 34 [Pt bi 0] h (.agg (XL b.Z8 t' o' c')) (h++u)/\UB (h++u) h.length b.Z8 t' o' c':=by obtain⟨e,d,c,tt,G,w,hc,rfl⟩:=w;exact aLR w hc rm
end
section
variable{h:Ai}{bi:Nat}{b:BS}{F:Nat->Prop}
end
section
variable{h h':Ai}{bi bj lo a n a' n':Nat}{m m':Option Nat}{ps Mi:List PN}{A:Ar}{o c t v v':Aa}{F F2 F':Nat->Prop}{b b' d:BS}{av:Aa}{j k:Nat}{e x:Int}
def aHM(s:Gc)(hv:Bb s.Au av){l:List QO}(ho:XM l v)(h:Ai):B9 cx 5 [.agg (Nn s av),v] h (.bool (decide (MB l 40/\SL s))) h:=by
 have f:B9 cx 16 [v,I 40] h (.bool (decide (MB l 40))) h:=f4 ho (m:=40) AM h;have i:=f5 s hv h;have fo:av.cells=[av]:=Bv.cells hv;rw[Ag,aFz,t5,Nn];by_cases g:MB l 40
 .rw[Al g] at f;by_cases p:SL s;.rw[Al p] at i;simp only[abS,f.Ac,i.Ac,g,p,lJ,GS]
  .rw[Ak p] at i;simp only[abS,f.Ac,i.Ac,g,p,Ň,E8]
 .rw[Ak g] at f;simp only[abS,f.Ac,g,ň,E8]
def aMV(rule:Int){t:DH}(av:Aa)(hn:t.name.length<=1000)(h:Ai):B9 cx 7 [I rule,.agg (B1 t av)] h (.bool (QK rule t)) h:=by
 have w1:Lm cx 18 [.str aTv,.str t.name] (.bool (decide (t.name∈QJ))):=by have:=aFO aTv t.name Cz Ab;rwa [Sc (ws:=QJ) Cz Cz] at this
 have B:Lm cx 18 [.str aTy,.str t.name] (.bool (decide (t.name∈ZT))):=by have:=aFO aTy t.name Cz Ab;rwa [Sc (ws:=ZT) Cz Cz] at this
 have z:∀(p:Prop) [Decidable p],(Aa.bool (decide p))= .bool (decide p):=λ_ _=>rfl;rw[Ag,aFB,t7];unfold QK;by_cases HW:t.ok;rotate_left
 .rw[Af HW];unfold DH.ok at HW;by_cases a1:t.k<1;.simp[abS,B1,a1]
  .simp[abS,B1,a1,(Ab:6<t.k)]
 rw[Ad (by simpa using HW)];have a1:¬t.k<1:=by have:=HW.1;omega
 have a2:¬6<t.k:=by have:=HW.2;omega
 by_cases u:t.k=1;.rw[Af u];by_cases C:rule=1<;>simp[abS,B1,u,C]
 rw[Ad u];by_cases g:rule=8
 .rw[Af g];by_cases q:t.k=2;.simp[abS,B1,q,g]
  .by_cases D:t.k=4<;>simp[abS,B1,a1,a2,u,q,D,g]
 rw[Ad g];by_cases f:rule=7
 .by_cases s:t.k=5;.rw[Af ⟨f,s⟩];simp[abS,B1,f,s]
  .rw[Ad (λh=>s h.2),Af f];by_cases q:t.k=2;.simp[abS,B1,f,q,w1.Bn rfl rfl]
   .simp[abS,B1,a1,a2,u,f,s,q]
 rw[Ad (λh=>f h.1),Ad f];by_cases i:rule<=3
 .by_cases s:t.k=5;.rw[Af ⟨i,s⟩];by_cases E:t.r=32<;>simp[abS,B1,g,f,i,s,E]
  .rw[Ad (λh=>s h.2)];by_cases l:t.k=3
   .by_cases r2:2<=rule;.rw[Af (.inr ⟨r2,Ab,l⟩)];simp[abS,B1,g,f,i,(Ab:¬rule=9),r2,(Ab:rule<=6),l,B.Bn rfl rfl]
    .rw[Ad Ab];simp[abS,B1,g,f,i,(Ab:¬rule=9),r2,l,(Ab:¬4<=rule)]
   .rw[Ad Ab];by_cases r2:2<=rule<;>simp[abS,B1,a1,a2,u,g,f,i,s,(Ab:¬rule=9),r2,(Ab:rule<=6),l,(Ab:¬4<=rule)]
 .rw[Ad (λh=>i h.1)];by_cases w:rule=9
  .rw[Af (.inl w)];by_cases l:t.k=3;.simp[abS,B1,w,l,B.Bn rfl rfl]
   .simp[abS,B1,a1,a2,u,w,l]
  .by_cases y:rule<=6
   .by_cases l:t.k=3;.rw[Af (.inr ⟨Ab,y,l⟩)];simp[abS,B1,g,f,i,w,(Ab:2<=rule),y,l,B.Bn rfl rfl]
    .rw[Ad Ab];by_cases q:t.k=2;.simp[abS,B1,g,f,i,w,(Ab:2<=rule),y,q,(Ab:4<=rule)]
     .simp[abS,B1,a1,a2,u,g,f,i,w,(Ab:2<=rule),y,l,q,(Ab:4<=rule)]
   .rw[Ad Ab];by_cases q:t.k=2;.simp[abS,B1,g,f,i,w,(Ab:2<=rule),y,q,(Ab:4<=rule)]
    .simp[abS,B1,a1,a2,u,g,f,i,w,(Ab:2<=rule),y,q,(Ab:4<=rule)]
def aMW{l:List Int}(hv:N4 h v l)(Gm:N4 h v' l)(hb:l.length<=1000000000):B9 cx 90 [v,v'] h tt h:=by
 rw[Ag,aAQ,t90];simp only[abS,hv.len,Gm.len,Cy,Cn];refine BM (λn:Nat=>[ff,I (n:Int)]) (λn h1=>n<=l.length/\h1=h) (λn=>l.length-n) 0 rfl ⟨A7 _,rfl⟩ ?_;rintro n h1 ⟨hn,rfl⟩;rcases Bi n l.length with hlt|GX
 .obtain⟨p,a1,a2⟩:=hv.at_ n hlt;obtain⟨p',b1,b2⟩:=Gm.at_ n hlt;simp only[abS,hv.len,(Ab:(n:Int)<(l.length:Int)),a1,a2,b1,b2,Cy,Cn,CI (Ab:n<9223372036854775807)];exact Bq.next (n+1) rfl ⟨hlt,rfl⟩ Ab
 .simp only[abS,hv.len,(Ab:¬(n:Int)<(l.length:Int))]
def aMX{l:List A3}(hv:Mx h v l)(Gm:Mx h v' l)(hb:l.length<=1000000000):B9 cx 187 [v,v'] h tt h:=by
 rw[Ag,Ê,aFL];simp only[abS,hv.len,Gm.len,Cy,Cn];refine BM (λn:Nat=>[ff,I (n:Int)]) (λn h1=>n<=l.length/\h1=h) (λn=>l.length-n) 0 rfl ⟨A7 _,rfl⟩ ?_;rintro n h1 ⟨hn,rfl⟩;rcases Bi n l.length with hlt|GX
 .obtain⟨p,a1,a2⟩:=hv.at_ n hlt;obtain⟨p',b1,b2⟩:=Gm.at_ n hlt;simp only[abS,hv.len,(Ab:(n:Int)<(l.length:Int)),a1,a2,b1,b2,aHl,CI (Ab:n<9223372036854775807)];exact Bq.next (n+1) rfl ⟨hlt,rfl⟩ Ab
 .simp only[abS,hv.len,(Ab:¬(n:Int)<(l.length:Int))]
def PH(w':PB h bj d F2)(hd:∀i,F i->¬F2 i)(x:Ew h F h' F'):PB h' bj d F2/\∀i,F' i->¬F2 i:=
 ⟨w'.DQ λi hi=>x.old i (w'.lt hi) λhf=>hd i hf hi,λi hi h2=>by
  rcases x.BK i hi with h1|h1
  .exact hd i h1 h2
  .have:=w'.lt h2;omega⟩
def Z3{l:List (Int×Int)}(hl:l.length<=1000000000)(h:SA l):Q0 l=true:=by unfold Q0;simp only[AN,B0,Cg];exact⟨⟨hl,h.1⟩,λp hp=>h.2 p hp⟩
def lE:∀l:List (Int×Int),NN (l.map λx:Int×Int=>(I x.1,I x.2))=some l
 |[]=>rfl
 |p::l=>by rw[A9,NN,lE l];rfl
def Pu.C7{f:Int->Int}(w:Pu h m f):∃l,Wq h m=some l/\SA l/\∀k v,(k,v)∈l↔(f k=v/\v≠0):=by
 rcases w with⟨rfl,h0⟩|⟨id,l,rfl,hc,hl,ok⟩
 .exact⟨[],rfl,⟨JQ,λp hp=>nomatch hp⟩,λk v=>⟨λh=>(nomatch h),λ⟨h1,h2⟩=>absurd (h1.symm.trans (h0 k)) h2⟩⟩
 .refine⟨l,by simp only[Wq,hc,lE],ok,λk v=>⟨λhm=>?_,λ⟨h1,h2⟩=>?_⟩⟩
  .have e:l.find? (λx=>decide (k=x.1))=some (k,v):=by
    cases hf:l.find? (λx=>decide (k=x.1)) with
    |none=>exact absurd (Ax:decide (k=(k,v).1)=true) (IJ.1 hf _ hm)
    |some y=>
     have h1:=Ht hf;have h2:k=y.1:=by simpa using KZ hf
     have g:=ok.1;rw[E7,HC] at g;by_cases e:y=(k,v);.rw[e]
     .obtain⟨i,hi,r⟩:=OB h1;obtain⟨j,hj,q⟩:=OB hm;have hp:=xt.1 g;rcases aO6 i j with Ğ|Ğ|Ğ
      .exact absurd (by rw[r,q];exact h2.symm) (hp i j hi hj Ğ)
      .subst Ğ;exact absurd (r.symm.trans q) e
      .exact absurd (by rw[r,q];exact h2) (hp j i hj hi Ğ)
   have g:=hl k;rw[e] at g;by_cases h0:f k=0;.rw[Af h0] at g;cases g
   .rw[Ad h0] at g;simp only[By,Bx] at g;exact⟨g.symm,by rw[g];exact h0⟩
  .have g:=hl k;rw[Ad (by rw[h1];exact h2)] at g;obtain⟨y,hy,e⟩:=GN.1 g;have s:k=y.1:=by simpa using KZ hy
   have:=Ht hy;rw[show(k,v)=y from Prod.ext s (by rw[<-h1];exact e.symm)];exact this
def fg{l l':List (Int×Int)}{f:Int->Int}(h1:SA l)(h2:SA l')(r:∀k v,(k,v)∈l↔(f k=v/\v≠0))(q:∀k v,(k,v)∈l'↔(f k=v/\v≠0)):O7 l l'=true:=by
 have i:l.Nodup:=by have:=h1.1;rw[E7,HC] at this;rw[E7];exact this.imp λh e=>h (by rw[e])
 have g:l'.Nodup:=by have:=h2.1;rw[E7,HC] at this;rw[E7];exact this.imp λh e=>h (by rw[e])
 have p:l.Perm l':=(List.perm_ext_iff_of_nodup i g).2 λx=>(r x.1 x.2).trans (q x.1 x.2).symm;unfold O7;rw[Al p.length_eq,Z5,Cg];exact λx hx=>Al (p.mem_iff.1 hx)
def lF:∀{N:Nat} {l:List Int},l.Nodup->(∀x∈l,1<=x/\x<=(N:Int))->l.length<=N
 |0,l,_,h=>by
  cases l with
  |nil=>exact Ae _
  |cons x l=>have:=h x Ax;omega
 |N+1,l,hn,h=>by
  have h1:=lF (N:=N) (l:=l.erase ((N+1:Nat):Int)) (hn.erase _) λx hx=>by have h2:=(List.Nodup.mem_erase_iff hn).1 hx;have:=h x h2.2;have:=h2.1;omega
  rw[List.length_erase] at h1;split at h1<;>omega
def lG{l:List (Int×Int)}(g:A.len<=1000000000)(h1:SA l)(i:∀k v,(k,v)∈l↔(A.inr k=v/\v≠0)):l.length<=1000000000:=by
 have h:=lF (N:=1000000000) (l:=l.map (·.1)) h1.1 λx hx=>by obtain⟨p,hp,rfl⟩:=A4.1 hx;have h2:=(i p.1 p.2).1 hp;have f:A.has p.1:=Decidable.byContradiction λh=>h2.2 (by rw[<-h2.1];unfold Ar.inr;rw[Ad h]);have:=f.1;have:=f.2;unfold Ar.len at g;omega
 rwa [Av] at h
def aMY(w:Pu h m A.inr)(w':Pu h m' A.inr)(r:A.len<=1000000000):B9 cx 92 [.map m,.map m'] h tt h:=by
 obtain⟨l,u,i,q⟩:=w.C7;obtain⟨l',s,f,p⟩:=w'.C7;have g:Ws h [.map m,.map m']=some (h,tt):=by simp only[Ws,u,s,Z3 (lG r i q) i,Z3 (lG r f p) f,fg i f q p,Bool.and_self,BE]
 rw[Ag];show W cx (Wt [.map m,.map m']) _ h;unfold Wt;simp only[Cf,DS,g]
def wv(w:PA h a n m ps A)(hx:A.has x):NRd h (A.nd x) (pN ps x).row:=by
 have hk:=w.PZ hx;have hv:Bb (A.nd x).Au (pN ps x).av:=by rw[w.att hx];exact Sy
 refine⟨(pN ps x).kv,(pN ps x).av,?_,hk.Vb,Xt hv,?_,Bv.cells hv⟩;.rw[PN.row,(w.pn hx).2.1]
 .rcases hk with⟨e,_⟩|⟨id,cs,e,_⟩<;>rw[e]<;>rfl
def aMZ{y:GQ}{r r':List Aa}(hr:NRd h y r)(Hh:NRd h y r')(hb:y.Au.length<=1000000000):B9 cx 91 [.BR r,.BR r'] h tt h:=by obtain⟨K,V,rfl,q,i,p,l⟩:=hr;obtain⟨u,s,rfl,uv,ł,g,YF⟩:=Hh;have f:=aMX i ł hb;rw[Ag,aAR,t91];simp only[abS,Nat.reduceLeDiff,↓reduceIte,Cn,f.Ac,GS]
def aM0(f:PA h a n m ps A)(g:PA h a' n' m' Mi A)(l:Mh A)(ok:EZ A e)(hb:A.n.length<=900000000):B9 cx 35 [Pt a 0,Pt a' 0] h tt h:=by
 have rP:A.n.length=ps.length:=by rw[f.e,Av]
 have aSw:A.n.length=Mi.length:=by rw[g.e,Av]
 have l1:=aF7 f;have w:=aF7 g;have u:Bj h none (Pt a 1)=some (.map m):=by simp only[Bj,f.ha];rfl
 have s:Bj h none (Pt a' 1)=some (.map m'):=by simp only[Bj,g.ha];rfl
 have q:=aMY f.mp g.mp (by unfold Ar.len;omega);have ln:Az (.len false) [.C3 n 0 ps.length 13]=some (I (ps.length:Int)):=rfl;rw[Ag,aAG,t35];simp only[abS,l1.Ac,w.Ac,Cy,Cn,AU,AH,Nq,AV,AP,f.nodes,ln];refine BM (λk:Nat=>[ff,I (k:Int)]) (λk h1=>k<=ps.length/\h1=h) (λk=>ps.length-k) 0 rfl ⟨A7 _,rfl⟩ ?_;rintro k h1 ⟨hk,rfl⟩;rcases Bi k ps.length with hlt|GX
 .obtain⟨hx,ex⟩:=aC6 (A:=A) (k:=k) Ab;have ea:Az (.FA 13) [.C3 n 0 ps.length 13,I (k:Int)]=some (.ptr (some (n,nP n ((k:Int)+1)))):=by have:=Fe (k:= .i64) (id:=n) (z:=13) hlt;rw[this];unfold nP;congr 4
  have D:Az (.FA 13) [.C3 n' 0 Mi.length 13,I (k:Int)]=some (.ptr (some (n',nP n' ((k:Int)+1)))):=by have:=Fe (k:= .i64) (id:=n') (z:=13) (Ab:k<Mi.length);rw[this];unfold nP;congr 4
  have p:=f.row hx;have lb:=g.row hx;have na:=wv f hx;have nb:=wv g hx;have r2:=aMZ na nb (by have:=l.at_ ((k:Int)+1);omega);obtain⟨K,V,C,B,H,G,E⟩:=na;obtain⟨L,J,i,uv,ł,y,YF⟩:=nb;have r:=aMW B uv (l.Bw ok _);rw[C] at p r2;rw[i] at lb r2;simp only[abS,Nat.reduceLeDiff,↓reduceIte,(Ab:(k:Int)<(ps.length:Int)),f.nodes,g.nodes,ea,D,p,lb,Bk,r.Ac,r2.Ac,Cy,Cn,AU,AH,Nq,AV,AP,CI (Ab:k<9223372036854775807)];exact Bq.next (k+1) rfl ⟨hlt,rfl⟩ Ab
 .simp only[abS,(Ab:¬(k:Int)<(ps.length:Int)),u,s,q.Ac]
def aDC(w:PB h bi b F)(w':PB h bj b F2)(ok:EI b){m:Nat}(rm:Cx b m)(hm:10<=m):∃u,B9 cx 11 [Pt bi 0,Pt bj 0] h tt (h++u):=by obtain⟨J,L,N,g,H,B⟩:=wq w rm;obtain⟨t2,K,M,l,E,z⟩:=wq (w'.JX (u:=g)) rm;have p:=B.DQ (h':=h++g++l) λi _ hi=>An hi;have D:=f22 p z (show b.tm.length<=1000000000 by have:=rm.tm;omega) (show(b.AK.map Item.node).length<=1000000000 by rw[Av];have:=rm.AK;omega) (show b.AZ.length<=1000000000 by have:=rm.AZ;omega) (λe he=>by have:=(rm.C7 e he).2.1;omega);have w1:=(w.JX (u:=g)).JX (u:=l);have y:=(w'.JX (u:=g)).JX (u:=l);obtain⟨O,_,_,_,G,wx,_,rfl⟩:=w1;obtain⟨I,_,_,_,P,f,_,rfl⟩:=y;have l0:=wx.l0;have q:=f.l0;obtain⟨n,m,ps,s⟩:=wx.w.pa;obtain⟨n',m',Mi,r⟩:=f.w.pa;have C:=aM0 s r rm.UZ ok.ok (by have:=rm.n;omega);refine⟨g++l,?_⟩;rw[<-AS,Ag,aAv,t11];simp only[abS,H.Ac,E.Ac,D.Ac,l0,q,C.Ac]
end
section
variable{h h':Ai}{bi bj:Nat}{F F2:Nat->Prop}{b:BS}{v av:Aa}{j:Nat}
def Fin.gz(f:Fin b (j+1)):Gz b (5000000*j+5000000) b.AK.length b.AZ.length:=⟨f.ok,f.sz.rm.le Ab,Ae _,Ae _⟩
def Fin.gzB(f:Fin b (j+1)):Gz b (5000000*j+800000+8*(4*(b.AK.length+b.AZ.length+8)+10)+8*b.AZ.length+2000) b.AK.length b.AZ.length:=by have h1:=f.sz.AK;have h2:=f.sz.AZ;exact f.gz.dn Ab
def lH(s:Gc)(hv:Bb s.Au av)(hl:Eb s.Au){l:List QO}(ho:XM l v)(hb:l.length<=60)(hq:∀x∈l,xr x.q)(h:Ai):
  ∃h1 h2 bi bj a F2,B9 cx 9 [.agg (Nn s av),v] h (Pt bi 0) h1/\B9 cx 9 [.agg (Nn s av),v] h1 (Pt bj 0) h2/\PB h2 bi (KQ s.b l) a/\PB h2 bj (KQ s.b l) F2/\∀i,a i->¬F2 i:=by
 obtain⟨h1,bi,a,g,w1,n⟩:=Ń s hv hl ho hb hq h;obtain⟨h2,bj,F2,f,e,c⟩:=Ń s hv hl ho hb hq h1;refine⟨h1,h2,bi,bj,a,F2,g,f,w1.DQ λi hi=>c.old i (w1.lt hi) λh=>h,e,λi m k=>?_⟩;rcases c.BK i k with d|d
 .exact d
 .have:=w1.lt m;omega
end
def qP(s:Gc){av:Aa}(hv:Bb s.Au av){l:List QO}{v:Aa}(ho:XM l v)(hr:∀x∈l,-2147483648<=x.q.r/\x.q.r<=2147483647){p:DH×Aa}(hp:aDz p)(rule:Int):Ev cx 3 [.agg (Nn s av),v,I rule,.agg (B1 p.1 p.2)] [] λr _=>r= .bool true:=by
 have a:=aHM s hv ho [];rw[Nn] at a;have c:=aMS (sa:=saB) (λh hv=>h9B h hv) hp.v [];simp only[B1] at c;unfold Ev;rw[aFx,t3,Nn];by_cases f:MB l 40/\SL s;rotate_left;.rw[Ak f] at a;simp only[abS,B1,a.Ac,Og.Bn rfl rfl];exact⟨_,rfl,rfl⟩
 rw[Al f] at a;cases e:p.1.MA saB with
 |false=>rw[e] at c;simp only[abS,B1,a.Ac,c.Ac,Og.Bn rfl rfl];exact⟨_,rfl,rfl⟩
 |true=>
 rw[e] at c;have r2:=aMV rule (t:=p.1) p.2 (lC e hp.r).name [];simp only[B1] at r2;by_cases g:rule<1;.simp only[abS,B1,a.Ac,c.Ac,g,Og.Bn rfl rfl];exact⟨_,rfl,rfl⟩
 by_cases k:9<rule;.simp only[abS,B1,a.Ac,c.Ac,g,k,Og.Bn rfl rfl];exact⟨_,rfl,rfl⟩
 cases i:QK rule p.1 with
 |false=>rw[i] at r2;simp only[abS,B1,a.Ac,c.Ac,g,k,r2.Ac,Og.Bn rfl rfl];exact⟨_,rfl,rfl⟩
 |true=>
 rw[i] at r2;have hq:∀x∈l,xr x.q:=λx hx=>(f.1.2 x hx).ok (hr x hx);have HM:Fin (KQ s.b l) (49+1):=SJ (j:=50) (s.HM.le (by have:=f.1.1;omega)) hq;obtain⟨h1,h2,bi,bj,J,F2,w,o,w1,C,d⟩:=lH s hv f.2.2.MA ho (by have:=f.1.1;omega) hq [];generalize KQ s.b l=b at*;obtain⟨E,H,m,B,z⟩:=aHH (n:=5000000*49+800000) w1 HM.gzB (lC e hp.r) (fc e) hp.v (by have:=(Cq (p:=ER p.1.Au) (by unfold DH.MA at e;simp only[AN] at e;exact e.2.2.2.2)).1;omega) Ab Ab i;obtain⟨A,G⟩:=PH C d z;obtain⟨u,D⟩:=aDC B A HM.ok (HM.sz.rm.le (m':=1000) Ab) AM;rw[Nn] at w o;simp only[B1] at m;have y:Az (.B6 [I 0,I 0,S [],ff,S [],ff,S [],ff,ff,.slnil,ff,S [],.int .i32 0] [(0,1),(1,12)]) [I rule,.agg (B1 p.1 p.2)]=some (.agg (I rule::B1 p.1 p.2)):=by have hc:(I rule).cells=[I rule]:=rfl;rfl
 simp only[B1] at y;simp only[abS,B1,a.Ac,c.Ac,g,k,r2.Ac,w.Ac,o.Ac,y,m.Ac,D.Ac,Og.Bn rfl rfl];exact⟨_,rfl,rfl⟩
def lI:∀l,R4 [Rm,.sl ò,.int .i64,wm] l->Ev cx 3 l [] λr _=>r= .bool true:=by
 rintro _ ⟨a,_,rfl,ha,b,_,rfl,hb,c,_,rfl,hc,d,_,rfl,hd,rfl⟩;obtain⟨s,av,rfl,hv⟩:=XP ha;obtain⟨l,ho,hr⟩:=kJ hb;obtain⟨q,rfl⟩:∃q,c= I q:=by obtain⟨n,e,_⟩:=KA (show X6 (.int .i64) [c] from hc);exact⟨n,by simpa using e⟩
 obtain⟨p,rfl,hp⟩:=wo hd;exact qP s hv ho hr hp q
end Go.Am
end
