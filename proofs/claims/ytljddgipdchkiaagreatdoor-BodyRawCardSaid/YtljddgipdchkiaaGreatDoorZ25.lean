/- Lemmas -/
import Derived.Test.YtljddgipdchkiaaGreatDoorZ24
set_option linter.all false
noncomputable section
set_option maxHeartbeats 0
set_option maxRecDepth 100000
section
namespace Go.Am
open Go
section
variable{h h':Ah}{bi a:Nat}{o c t:Aa}{G G' F:Nat->Prop}{b:BS}{x:Int}{m:Nat}
variable{nm:Aq}{av:Aa}{l:List A6}{r:List Aa}{sp p:Int}
def BX.ò(w:BX h bi a o c t G b):Bg h (some 4) (Pt bi 10)=some (.agg b.ctx.row):=by simp only[Bg,w.hb];rfl
def BX.iV(w:BX h bi a o c t G b)(v:Int):BX (Am.put h bi 4 (I v)) bi a o c t G {b with mode:=v}:=w.put rfl rfl w.o w.t
def B9.mode{v:Int}(rm:B9 b m):B9 {b with mode:=v} m:=⟨rm.n,rm.at_,rm.data,rm.AY,rm.Bb,rm.tm,rm.DD,rm.X8⟩
def ó(w:BX h bi a o c t G b)(rm:B9 b m):
  ∃h',BZ cx 76 [Pt bi 0] h (.tuple []) h'/\BX h' bi a o c t G b.IF/\DE h (Bw bi G) h' (Bw bi G):=by
 have ho:=rm.AY;have Jc:Ev cx 76 [Pt bi 0] h λr h'=>r= .tuple []/\BX h' bi a o c t G b.IF/\DE h (Bw bi G) h' (Bw bi G):=by
  unfold Ev;have w1:=w.iV 7;rw[kz,t76];simp only[abS,(Ip w).Ad,w.st (k:=4) (v:=I 7) rfl rfl,(UT w1.sA).Ad,C6 (Ab: -9223372036854775808<=(b.AY.length:Int)-1) (Ab:(b.AY.length:Int)-1<9223372036854775808)];refine Bj (λn:Nat=>[I ((n:Int)-1)]) (λn h1=>n<=b.AY.length/\b.LA b.AY.length=b.LA n/\h1=Am.put h bi 4 (I 7)) (λn=>n) b.AY.length rfl ⟨Ag _,rfl,rfl⟩ ?_;rintro n h1 ⟨hn,ha,rfl⟩;cases n with
  |zero=>
   have e:b.IF={b with mode:=7}:=by unfold BS.IF;rw[ha];rfl
   simp only[abS,(Ab:¬(0:Int)<=((0:Nat):Int)-1)];exact⟨_,rfl,rfl,by rw[e];exact w1,Bq⟩
  |succ n=>
   have hlt:n<b.AY.length:=Ab;have i1:((n+1:Nat):Int)-1=(n:Int):=Ab;have g:=Xy w1.sA (n:Int);rw[show Ht ({b with mode:=7}:BS).AY (n:Int)=b.AY[n] from H9 hlt] at g;have r2:∀i:Item,BZ cx 190 [Pt bi 0,.agg i.row,I (n:Int)] (Am.put h bi 4 (I 7)) (.tuple [I ((b.Hd i n).getD 7),.bool (b.Hd i n).isSome]) (Am.put h bi 4 (I 7)):=λi=>aJF w1 rm.mode i (k:=n) Dp;have d:=r2 (b.EC n);have HT:∀v,Cw (Am.put h bi 4 (I 7)) 1 (Pt bi 4) (I v)=some (Am.put (Am.put h bi 4 (I 7)) bi 4 (I v)):=λv=>w1.st (k:=4) rfl rfl;have e:b.LA (n+1)=match b.Hd (b.EC n) n with|some m=>m|none=>b.LA n:=rfl
   rw[e] at ha;have Rn:=w1.l9;have hlc:=w1.ò;have OQ:=C6 (Ab: -9223372036854775808<=(n:Int)-1) (Ab:(n:Int)-1<9223372036854775808);cases hm:b.Hd (b.EC n) n with
   |none=>
    rw[hm] at d ha;by_cases h0:n=0
    .have Yk:((n:Int)=0)=True:=A0 Ab;cases hf:b.LS with
     |true=>
      have f:b.EC n=b.ctx:=by unfold BS.EC;rw[Ae ⟨h0,hf⟩]
      rw[f] at d;rw[show({b with mode:=7}:BS).LS=true from hf] at Rn;simp only[BJ,Fc,i1,g.Ad,Rn,hlc,d.Ad,HT,Jd,(Ab:(0:Int)<=(n:Int)),Yk,OQ];exact AM.next n rfl ⟨Ab,ha,rfl⟩ Ab
     |false=>
      have f:b.EC n=b.AY[n]:=by unfold BS.EC;rw[Ac (by simp[hf]),AL,Ai hlt];rfl
      rw[f] at d;rw[show({b with mode:=7}:BS).LS=false from hf] at Rn;simp only[BJ,Fc,i1,g.Ad,Rn,hlc,d.Ad,HT,Jd,(Ab:(0:Int)<=(n:Int)),Yk,OQ];exact AM.next n rfl ⟨Ab,ha,rfl⟩ Ab
    .have f:b.EC n=b.AY[n]:=by unfold BS.EC;rw[Ac (by simp[h0]),AL,Ai hlt];rfl
     rw[f] at d;have Yk:¬(n:Int)=0:=Ab;simp only[BJ,Fc,i1,g.Ad,d.Ad,HT,Jd,(Ab:(0:Int)<=(n:Int)),Yk,OQ];exact AM.next n rfl ⟨Ab,ha,rfl⟩ Ab
   |some v=>
    rw[hm] at d ha;have e:b.IF={b with mode:=v}:=by unfold BS.IF;rw[ha]
    have j:BX (Am.put (Am.put h bi 4 (I 7)) bi 4 (I v)) bi a o c t G b.IF:=by rw[e];exact w1.iV v
    by_cases h0:n=0
    .have Yk:((n:Int)=0)=True:=A0 Ab;cases hf:b.LS with
     |true=>
      have f:b.EC n=b.ctx:=by unfold BS.EC;rw[Ae ⟨h0,hf⟩]
      rw[f] at d;rw[show({b with mode:=7}:BS).LS=true from hf] at Rn;simp only[BJ,Fc,i1,g.Ad,Rn,hlc,d.Ad,HT,Jd,(Ab:(0:Int)<=(n:Int)),Yk];exact⟨_,rfl,rfl,j,Bq.trans Bq⟩
     |false=>
      have f:b.EC n=b.AY[n]:=by unfold BS.EC;rw[Ac (by simp[hf]),AL,Ai hlt];rfl
      rw[f] at d;rw[show({b with mode:=7}:BS).LS=false from hf] at Rn;simp only[BJ,Fc,i1,g.Ad,Rn,hlc,d.Ad,HT,Jd,(Ab:(0:Int)<=(n:Int)),Yk];exact⟨_,rfl,rfl,j,Bq.trans Bq⟩
    .have f:b.EC n=b.AY[n]:=by unfold BS.EC;rw[Ac (by simp[h0]),AL,Ai hlt];rfl
     rw[f] at d;have Yk:¬(n:Int)=0:=Ab;simp only[BJ,Fc,i1,g.Ad,d.Ad,HT,Jd,(Ab:(0:Int)<=(n:Int)),Yk];exact⟨_,rfl,rfl,j,Bq.trans Bq⟩
 obtain⟨r,h',hr,rfl,w',x'⟩:=Jc.ret;exact⟨h',hr,w',x'⟩
def zR{h0 u:Ah}{V:Aa}{L:List A6}{N:Nat}(j:N=h0.length)(g:I3 (h0++u) V L)(i:Up N V)(hb:L.length<=1000000000)(y:A6):
  ∃f d,F9 (h0++u) 3 40 V (.sl 3 [y.row])=some (h0++f,d)/\I3 (h0++f) d (L++[y])/\Up N d:=by
 subst j;have dT:AX=140737488355328:=rfl;rcases g with⟨rfl,rfl⟩|⟨id,rfl,hc,hl⟩
 .refine⟨u++[.cells (([y]:List A6).map A6.row).flatten],.CD (h0++u).length 0 1 3,by rw[<-AJ];rfl,.inr ⟨(h0++u).length,rfl,AK,AK⟩,λid k e=>by injection e with e;rw[<-e,Au];omega⟩
 .have Ik:h0.length<=id:=i id _ rfl;have hg:=JE (b:=40) (Az:=L.map A6.row) (r2:=[y.row]) (v:= .sl 3 [y.row]) (aDG L) A5 hc .mk AK (by rw[Al];simp;omega);rw[Al] at hg;have e:(h0++u).set id .CT++[.cells (L.map A6.row++[y.row]).flatten]=h0++(u.set (id-h0.length) .CT++[.cells ((L++[y]).map A6.row).flatten]):=by rw[BP _ _ Ik,AJ,BL];rfl
  rw[e] at hg;have Y8:(h0++(u.set (id-h0.length) Dx.CT++[.cells ((L++[y]).map A6.row).flatten]))=(h0++u.set (id-h0.length) Dx.CT)++[.cells ((L++[y]).map A6.row).flatten]:=by rw[AJ]
  have dS:(h0++u.set (id-h0.length) Dx.CT).length=(h0++u).length:=AK;refine⟨_,_,hg,.inr ⟨(h0++u).length,AK,?_,?_⟩,λid k e=>by injection e with e;rw[<-e,Au];omega⟩;.rw[Y8,<-dS,Bm (Ag _),C9];rfl
  .rw[Y8];simp only[Au,Br,Be,B1];omega
def aJG(y c:A6)(h:Ah):BZ cx 192 [.agg c.row,.Cq y.row] h (.bool (decide (Dw ⟨0,y.name,y.value⟩=Dw c))) h:=by
 rw[Af,rX,aCc,A6.row,A6.row];simp only[BJ];refine⟨λh1=>?_,λh1=>?_⟩;.congr 2;rw[Dv];simp[Dw,h1];exact bu
 .rw[AG (λe=>h1 (by simp[Dw] at e;exact e.1.symm))]
def A6.ZA{y:A6}:(⟨0,y.name,y.value⟩:A6).row=[I 0,.str y.name,.str y.value]:=rfl
def Ts(k:Int×Aq):∀{l out:List A6},(Hv out l).any (λz=>decide (k=Dw z))=(out++l).any λz=>decide (k=Dw z)
 |[],out=>by simp[Hv]
 |y::l,out=>by
  rw[Hv];split
  .rename_i h;rw[Ts k,Uu,Uu,Rk];by_cases hk:k=Dw y;.subst hk;rw[h];rfl
   .simp[hk]
  .rw[Ts k,AJ];rfl
def ob(k:Int×Aq)(l:List A6):(Cx l).any (λz=>decide (k=Dw z))=l.any λz=>decide (k=Dw z):=Ts k
def Qc{l:List A6}{y:A6}:Cx (l++[y])=if(Cx l).any (λz=>decide (Dw y=Dw z)) then Cx l else Cx l++[y]:=XD
def aOS(w:BX h bi a o c t G b)(ok:Ez b)(rm:B9 b (m+1000))(hr:Oo nm av r)(hv:Bz l av)(hl:D1 l)(x:Int):
  ∃h' G',BZ cx 77 [Pt bi 0,.agg r,I x] h (.tuple []) h'/\BX h' bi a o c t G' (b.Hw l x)/\DE h (Bw bi G) h' (Bw bi G'):=by
 obtain⟨K1,V1,d,B,_,_⟩:=U5 w ok rm x;have w1:=w.Iq (u:=d);obtain⟨Y,X,W,U,T,S,Q,P,UL,WB,rfl⟩:=hr;have v:DE h (Bw bi G) (h++d) (Bw bi G):=w.C7;by_cases hk:(b.a.nd x).kind=4;rotate_left;.refine⟨h++d,G,?_,by unfold BS.Hw;rw[Ac hk];exact w1,v⟩;rw[Af,nE,t77];simp only[abS,↓reduceIte,(Ip w).Ad,B.Ad,Ca,hk]
 obtain⟨K2,Z,A,r2,_,f,g⟩:=U5 w1 ok rm x;have w2:=w1.Iq (u:=A);have x2:DE h (Bw bi G) (h++d++A) (Bw bi G):=v.trans w1.C7;have hx:b.a.has x:=by
  by_cases hp:b.a.has x;.exact hp
  .rw[HF hp] at hk;simp at hk
 have Vi:=rm.at_ x;have kM:=hl.1;have Jc:Ev cx 77 [Pt bi 0,.agg [Y,.str nm,X,W,U,T,S,Q,av,P,UL,WB],I x] h λr h'=>r= .tuple []/\∃G',BX h' bi a o c t G' (b.Hw l x)/\DE h (Bw bi G) h' (Bw bi G'):=by
  unfold Ev;rw[nE,t77];have hvl:=AV.CN hv;simp only[abS,↓reduceIte,(Ip w).Ad,B.Ad,r2.Ad,Ca,hk,hvl];refine Bj (λs:Aa×Nat=>[s.1,I (s.2:Int)]) (λs h1=>∃u L,h1=h++d++u/\s.2<=l.length/\I3 h1 s.1 L/\Up (h++d).length s.1/\Cx L=Cx ((b.a.nd x).AA++BS.plain (l.take s.2))/\(∀y∈L,BS.HX y.A9)/\L.length<=(b.a.nd x).AA.length+s.2) (λs=>l.length-s.2) (Z,0) rfl ⟨A,(b.a.nd x).AA,rfl,AU _,f,g,?_,?_,AK⟩ ?_;.simp[BS.plain]
  .exact λy hy=>(ok.ok.Sd x hx).qn y hy
  rintro⟨V,n⟩ h1 ⟨u,L,rfl,hn,f,g,j,hs,En⟩;simp only at hn f g j En;rcases AO n l.length with hlt|Ef
  .have E:=AV.BN (k:= .i64) hv hlt;rw[A6.row] at E;have i:=ŋ f.in_ Ab (F:= .func (.func 192) [] [.Cq l[n].row]) (q:=λc=>decide (Dw ⟨0,l[n].name,l[n].value⟩=Dw c)) ⟨_,_,rfl,A5,λc=>aJG l[n] c _⟩;rw[A6.row] at i;obtain⟨O,V',g1,g2,g3⟩:=zR (N:=(h++d).length) rfl f g Ab ⟨0,l[n].name,l[n].value⟩;rw[A6.ZA] at g1;have em:AB (.BI 3) [.agg [I 0,.str l[n].name,.str l[n].value]]=some (.sl 3 [[I 0,.str l[n].name,.str l[n].value]]):=rfl;have H:Cx ((b.a.nd x).AA++BS.plain (l.take (n+1)))=Cx (L++[⟨0,l[n].name,l[n].value⟩]):=by rw[Ay hlt,BS.plain,BL,<-AJ,aQe,Qc,Qc,j];rfl
   have D:Cx (L++[⟨0,l[n].name,l[n].value⟩])=if L.any (λz=>decide (Dw ⟨0,l[n].name,l[n].value⟩=Dw z)) then Cx L else Cx L++[⟨0,l[n].name,l[n].value⟩]:=by rw[Qc,ob]
   simp only[abS,Nat.reduceLeDiff,↓reduceIte,AR,(Ab:(n:Int)<(l.length:Int)),E,i.Ad,em,g1,BQ (Ab:n<9223372036854775807)];rw[CQ];refine⟨λh2=>?_,λh2=>?_⟩
   .refine AM.next (V',n+1) rfl ⟨O,_,rfl,hlt,g2,g3,H.symm,?_,Eg⟩ Dp;intro y hy;rcases Av.1 hy with hy|hy
    .exact hs y hy
    .simp at hy;subst hy;exact⟨Dp,Dp⟩
   .have h2:(L.any λz=>decide (Dw ⟨0,l[n].name,l[n].value⟩=Dw z))=true:=by simpa using h2
    rw[Ae h2] at D;exact AM.next (V,n+1) rfl ⟨u,L,rfl,hlt,f,g,by rw[H,D],hs,Dp⟩ Dp
  .have OC:n=l.length:=by omega
   subst OC;rw[By] at j;simp only[abS,↓reduceIte,(Ab:¬(l.length:Int)<(l.length:Int)),(w1.Iq (u:=u)).l0];obtain⟨C,G3,i,M,J⟩:=(w1.Iq (u:=u)).step (A':=b.a.Jo x L) (R:=λC=>BZ cx 193 [Pt a 0,I x,V] (h++d++u) (I 0) C) λn m ps K=>by obtain⟨h',Jt,f1,f2,f3⟩:=aI3 K rm.X9 hx hk f.in_ Ab hs;exact⟨h',n,m,Jt,f1,f2,f3⟩
   have e:b.Hw l x={b with a:=b.a.Jo x L}:=by unfold BS.Hw;rw[Ae hk];unfold Ar.Jo;rw[j]
   simp only[BJ,i.Ad];refine⟨_,rfl,rfl,G3,?_,?_⟩;.rw[e];exact M
   .exact(v.trans w1.C7).trans J
 obtain⟨r,h',hr,rfl,G',w',x'⟩:=Jc.ret;exact⟨h',G',hr,w',x'⟩
end
section
variable{h h':Ah}{bi a:Nat}{o c t:Aa}{G G' F:Nat->Prop}{b b':BS}{x:Int}{m:Nat}
variable{nm:Aq}{av:Aa}{l:List A6}{r:List Aa}{sp p:Int}
def B9.sub(rm:B9 b m)(ha:b'.a=b.a)(ho:b'.AY.Sublist b.AY)(hc:b'.Bb.Sublist b.Bb)(ht:b'.tm.length<=b.tm.length):B9 b' m:=
 ⟨by rw[ha];exact rm.n,by rw[ha];exact rm.at_,by rw[ha];exact rm.data,by have:=rm.AY;have:=ho.length_le;omega,by have:=rm.Bb;have:=hc.length_le;omega,by have:=rm.tm;omega,λe he=>rm.DD e (hc.subset he),λi hi=>rm.X8 i (ho.subset hi)⟩
def aJH{v:Aa}{l:List Int}(hv:Tp l v)(hb:l.length<=1000000000)(h:Ah):∃u,BZ cx 118 [v] h u h/\YD l u:=by
 have hm:AX=140737488355328:=rfl;have e0:AB (.Gb 1) []=some (.Gb 1):=rfl;rcases hv with hv|⟨rfl,rfl⟩
 .have DG:AV 1 (l.map Cp) v:=hv;rcases DG with rfl|⟨rfl,h0⟩
  .cases l with
   |nil=>refine⟨.Gb 1,?_,.inr ⟨rfl,rfl⟩,nofun⟩;rw[Af,Sl,zG];simp only[BJ,Df,show AB (.GC false .sl) [.sl 1 [],.slnil]=some (.bool false) from rfl,e0,show AB (.append 1 8) [.Gb 1,.sl 1 []]=some (.Gb 1) from rfl]
   |cons x l=>
    have QQ:((x::l).map Cp).length*8<=AX:=by rw[Al];omega
    have d:AB (.append 1 8) [.Gb 1,.sl 1 ((x::l).map Cp)]=some (.sl 1 ((x::l).map Cp)):=by simp only[Bs] at QQ⊢;simp only[AB,HP,BT,DJ];rw[Ae ⟨trivial,QQ⟩]
    refine⟨_,?_,.inl .mk,λe=>by injection e with _ e;simp at e⟩;rw[Af,Sl,zG];simp only[BJ,show AB (.GC false .sl) [.sl 1 ((x::l).map Cp),.slnil]=some (.bool false) from rfl,e0,d]
  .refine⟨.slnil,?_,.inl (.inr ⟨rfl,h0⟩),nofun⟩;rw[Af,Sl,zG];simp only[BJ,show AB (.GC false .sl) [.slnil,.slnil]=some (.bool true) from rfl]
 .refine⟨.Gb 1,?_,.inr ⟨rfl,rfl⟩,nofun⟩;rw[Af,Sl,zG];simp only[BJ,show AB (.GC false .sl) [.Gb 1,.slnil]=some (.bool false) from rfl,e0,show AB (.append 1 8) [.Gb 1,.Gb 1]=some (.Gb 1) from rfl]
def BX.nY{u:Aa}{l:List Int}(w:BX h bi a o c t G b)(hu:YD l u):BX (Am.put h bi 6 u) bi a o c u G {b with tm:=l}:=w.put rfl rfl w.o hu
def iW:AB (.BI 1) [S aWb]=some (.sl 1 ([Bd].map CH)):=D7 (ws:=[Bd]) rfl A5
def aOT(w:BX h bi a o c t G b)(hc:B7 b.Bb c)(rm:B9 b m):
  ∃h' o' c' t',BZ cx 78 [Pt bi 0] h (.tuple []) h'/\BX h' bi a o' c' t' G b.Du/\B7 b.Du.Bb c'/\DE h (Bw bi G) h' (Bw bi G):=by
 have ho:=rm.AY;have SQ:=rm.Bb;have O:=rm.tm;have A:=aDB w.sA Ab Bd;by_cases FW:AP (BD [Bd]) b.AY<0;.refine⟨h,o,c,t,?_,by unfold BS.Du;rw[Ae FW];exact w,by unfold BS.Du;rw[Ae FW];exact hc,.refl⟩;rw[Af,bN,t78];simp only[abS,(Ip w).Ad,A.Ad,FW]
 obtain⟨y,r2,OO⟩:=aN1 w.sO Ab;have w1:=w.IH OO;have l1:(DR CO C0 b.AY).length<=b.AY.length:=P2;obtain⟨f,H,Jj⟩:=f66 w1.sO Dp (Da (ws:=[Bd])) A5;have D:=w1.IH Jj;obtain⟨fs,Hh,hcs⟩:=hc;have Hn:fs.length=b.Bb.length:=by rw[<-Hh,Al]
 obtain⟨d,E,ô⟩:=f65 (show Tc _ bi 3 fs from⟨c,D.vP,hcs⟩) Ab;have j:=D.Lj (u:=d) (l:=Gv b.Bb);have Nc:B7 (Gv b.Bb) d:=⟨_,by rw[VB,Hh],ô⟩;have lt:=w.t.1.len;have l6:=j.l6;have e:b.Du=BS.IF {b with AY:=DR C0 (BD [Bd]) (DR CO C0 b.AY),Bb:=Gv b.Bb,tm:=b.tm.dropLast}:=by unfold BS.Du;rw[Ac FW]
 have sO:(DR C0 (BD [Bd]) (DR CO C0 b.AY)).Sublist b.AY:=(Fi (p:=C0) (q:=BD [Bd]) (l:=DR CO C0 b.AY)).trans Fi;have C:DE h (Bw bi G) (put (put (put h bi 2 y) bi 2 f) bi 3 d) (Bw bi G):=(Bq.trans Bq).trans Bq;by_cases h0:b.tm=[]
 .have v:BX (put (put (put h bi 2 y) bi 2 f) bi 3 d) bi a f d t G {b with AY:=DR C0 (BD [Bd]) (DR CO C0 b.AY),Bb:=Gv b.Bb,tm:=b.tm.dropLast}:=by
   have:b.tm.dropLast=b.tm:=by rw[h0];rfl
   rw[this];exact j
  obtain⟨Q,z,s,K⟩:=ó v (rm.sub (b':={b with AY:=DR C0 (BD [Bd]) (DR CO C0 b.AY),Bb:=Gv b.Bb,tm:=b.tm.dropLast}) rfl sO (DN _ _) AK);refine⟨Q,f,d,t,?_,by rw[e];exact s,by rw[e];exact Nc,C.trans K⟩;have B:AB (.len false) [t]=some (I 0):=by rw[lt,h0];rfl
  rw[Af,bN,t78];simp only[abS,(Ip w).Ad,A.Ad,FW,r2.Ad,iW,H.Ad,E.Ad,l6,B,z.Ad,Jd]
 .have hpos:=EG.2 h0;obtain⟨S,R,i⟩:=AV.Mh (w.t.1.ne h0) (k:= .i64) (n:=b.tm.length-1) Ab;rw[<-aE7] at i;obtain⟨M,z,g⟩:=aJH (.inl i) Eg (put (put (put h bi 2 y) bi 2 f) bi 3 d);have s:=j.nY g;obtain⟨P,N,L,J⟩:=ó s (rm.sub (b':={b with AY:=DR C0 (BD [Bd]) (DR CO C0 b.AY),Bb:=Gv b.Bb,tm:=b.tm.dropLast}) rfl sO (DN _ _) AK);refine⟨P,f,d,M,?_,by rw[e];exact L,by rw[e];exact Nc,(C.trans Bq).trans J⟩;rw[Af,bN,t78];simp only[abS,(Ip w).Ad,A.Ad,FW,r2.Ad,iW,H.Ad,E.Ad,l6,lt,(Ab:(0:Int)<(b.tm.length:Int)),If hpos (Ab:b.tm.length<9223372036854775807),R,z.Ad,j.st (k:=6) (v0:=t) rfl g.1.cells,N.Ad,Jd]
def aOV(w:BX h bi a o c t G b):∃h',BZ cx 79 [Pt bi 0] h (.tuple []) h'/\BX h' bi a o c t G {b with stop:=true}/\DE h (Bw bi G) h' (Bw bi G):=by refine⟨_,?_,w.put (k:=19) (v:= .bool true) rfl rfl w.o w.t,Bq⟩;rw[Af,k_,t79];simp only[BJ,(Ip w).Ad,w.st (k:=19) (v:=tt) rfl rfl]
def aDS(w:BX h bi a o c t G b)(rm:B9 b m):∃h' o',BZ cx 82 [Pt bi 2] h (.agg b.gZ.row) h'/\BX h' bi a o' c t G b.Ky/\DE h (Bw bi G) h' (Bw bi G):=by
 have ho:=rm.AY;have ld:Bg h none (Pt bi 2)=some o:=w.ld 2;have lo:=AV.CN w.o;unfold BS.Ky BS.gZ;by_cases h2:b.AY.length<2;.refine⟨h,o,?_,by rw[Ae h2];exact w,.refl⟩;rw[Ae h2,Af,bO,t82];simp only[abS,↓reduceIte,AR,(UT w.sA).Ad,(Ab:(b.AY.length:Int)<2)];rfl
 .obtain⟨u,e,hu⟩:=AV.Mh w.o (k:= .i64) (n:=b.AY.length-1) Ab;refine⟨_,u,?_,by rw[Ac h2];exact w.IH hu,Bq⟩;rw[Ac h2,Af,bO,t82];simp only[abS,↓reduceIte,AR,Fc,(UT w.sA).Ad,(Ab:¬(b.AY.length:Int)<2),(f39 w.sA Ab).Ad,ld,lo,If (Ab:0<b.AY.length) (Ab:b.AY.length<9223372036854775807),e,w.st (k:=2) (v0:=o) rfl (AV.cells hu)]
end
def Sv{U:Type}(enc:U->List Aa)(D4:U->Ah->Prop)(Z:U->Nat)(i:Nat)(HC:U->Ah->Prop)(s:U):HB:=
 λx vs h1=>(x= .normal/\∃s',vs=enc s'/\D4 s' h1/\Z s'<Z s)\/(x= .exit i/\∃s',vs=enc s'/\HC s' h1)
def Sv.next{U:Type}{enc:U->List Aa}{D4 HC:U->Ah->Prop}{Z:U->Nat}{i:Nat}{s:U}{vs:List Aa}{h:Ah}(s':U)(e:vs=enc s')(hi:D4 s' h)(hl:Z s'<Z s):Sv enc D4 Z i HC s .normal vs h:= .inl ⟨rfl,s',e,hi,hl⟩
def Sv.HC{U:Type}{enc:U->List Aa}{D4 HC:U->Ah->Prop}{Z:U->Nat}{i:Nat}{s:U}{vs:List Aa}{h:Ah}(s':U)(e:vs=enc s')(hi:HC s' h):Sv enc D4 Z i HC s (.exit i) vs h:= .inr ⟨rfl,s',e,hi⟩
def DS{C:FZ}{Q:HB}{h:Ah}{U:Type}{key i:Nat}{init:List Aa}{body:List Aa->IT}{k:Fp->List Aa->IT}(enc:U->List Aa)(D4:U->Ah->Prop)(Z:U->Nat)(HC:U->Ah->Prop)(s0:U)(h0:init=enc s0)(hi:D4 s0 h)
  (round:∀s h,D4 s h->W C (body (enc s)) (Sv enc D4 Z i HC s) h) (hk:∀s h,HC s h->W C (k (.exit i) (enc s)) Q h):W C (.loop key init body k) Q h:=by
 refine Bj enc D4 Z s0 h0 hi λs h hs=>W.mono (round s h hs) ?_;rintro x vs h1 (hn|⟨rfl,s',rfl,hf⟩);.exact .inl hn
 .exact .inr ⟨AK,hk s' h1 hf⟩
def ZB{h:Ah}{id z:Nat}{Az:List (List Aa)}(hr:∀r∈Az,r.length=z)(hc:h[id]?=some (.cells Az.flatten)){i:Nat}(hi:i<Az.length):Bg h (some z) (Pt id (i*z))=some (.agg Az[i]):=by
 have hl:i*z+z<=Az.flatten.length:=by rw[FT hr];have:=DU z (Ab:i+1<=Az.length);rwa [BM,D5] at this
 simp only[Bg,hc,MQ];rw[Ae hl,IV hr,AF hi,CW,CJ (by rw[hr _ (AN hi)];exact Ag _),AD (by rw[hr _ (AN hi)];exact Ag _)]
section
variable{h h':Ah}{bi a:Nat}{o c t:Aa}{G G' F:Nat->Prop}{b b':BS}{x:Int}{m:Nat}
variable{nm:Aq}{av:Aa}{l:List A6}{r:List Aa}{sp p:Int}
def od(e:Cl)(h:Ah):∃r,BZ cx 182 [.agg e.row] h (.agg r) h/\Oo e.c.name e.v r:=by have hv:e.v.cells=[e.v]:=AV.cells e.ok;refine⟨_,?_,I 2,ff,S [],ff,S [],ff,ff,ff,S [],.int .i32 0,rfl⟩;rw[Af,rQ,aB5,Cl.row];simp only[abS,Nat.reduceLeDiff,↓reduceIte,AR,hv]
def ZC:∀{l:List Cu} {b:BS} {m:Nat},B9 b (m+4*l.length)->(∀e∈l,e.name.length<=1000/\D1 e.AA)->B9 (BS.Jp l b).2 m
 |[],b,m,r,_=>by simpa[BS.Jp] using r
 |e::l,b,m,r,hl=>by have h1:=hl e AK;rw[BS.Jp];exact ZC (Mm (m:=m+4*l.length) (r.le Eg) h1.2 h1.1) λx hx=>hl x (by simp[hx])
def Sw:b.Lf<=b.Bb.length:=by unfold BS.Lf;rcases De (q:=b.settled) (l:=b.Bb) with⟨h,_⟩|⟨n,h1,h2,_⟩<;>omega
structure cY(h:Ah)(bi a:Nat)(t:Aa)(G0:Nat->Prop)(b:BS)(fs:List Cl)(id m k:Nat)(h1:Ah):Prop where
 le:k<=fs.length
 low:b.Lf<=k
 ex:∃(o:Aa) (G:Nat->Prop) (b1:BS) (HY:List Cl),BX h1 bi a o (.CD id 0 fs.length 3) t G b1/\Ez b1/\B9 b1 (m+4*(fs.length-k))/\h1[id]?=some (.cells (HY.map Cl.row).flatten)/\HY.length=fs.length/\HY.drop k=fs.drop k/\
  BS.DT b={(BS.Jp (b.Bb.drop k) b1).2 with Bb:=(HY.take k).map (·.c)++(BS.Jp (b.Bb.drop k) b1).1}/\¬Bw bi G id/\DE h (Bw bi G0) h1 (Bw bi G)
def BX.cZ(w:BX h bi a o c t G {b with Bb:=b.Bb}):BX h bi a o c t G b:=w
def Pz{h1:Ah}{id:Nat}{v v':Aa}(ha:At h id 3 v)(hf:Kq h v=some (h1,v'))(he:h1[id]?=h[id]?):L5 h 3 (Pt id 0)=some (Am.put h1 id 3 v'):=by obtain⟨cs,hc,e⟩:=ha;rw[hc] at he;unfold L5;simp only[hc,B0,e,hf,Cv,he];rw[Ig he]
def vU{v:Aa}{l:List Cl}(hv:Dl l v):Kq h v=some (h,v):=by rcases hv with rfl|⟨rfl,_⟩<;>rfl
def aJL{v:Aa}(hv:Dl [] v)(h:Ah):∃u,BZ cx 181 [v] h u h/\Dl [] u:=by
 have d:=Pk (h:=h) (s:= .sl 3 []) (b:=48) (.inr rfl) hv;rcases hv with rfl|⟨rfl,h0⟩
 .refine⟨.sl 3 [],?_,.mk⟩;rw[Af,Vv,lz];simp only[Df] at d;simp only[BJ,Df,show AB (.GC false .sl) [.sl 3 [],.slnil]=some (.bool false) from rfl,show AB (.BI 3) []=some (.sl 3 []) from rfl,d]
 .refine⟨.slnil,?_,.inr ⟨rfl,rfl⟩⟩;rw[Af,Vv,lz];simp only[BJ,show AB (.GC false .sl) [.slnil,.slnil]=some (.bool true) from rfl]
def cY.init(w:BX h bi a o c t G b)(ok:Ez b)(rm:B9 b (m+4*b.Bb.length)){fs:List Cl}(Hh:fs.map (·.c)=b.Bb):
  cY h bi a t G b fs h.length m b.Lf (Am.put (h++[.cells (fs.map Cl.row).flatten]) bi 3 (.CD h.length 0 fs.length 3)):=by
 have Hn:b.Bb.length=fs.length:=by rw[<-Hh,Al]
 have hk:=Sw (b:=b);have hne:h.length≠bi:=Nat.ne_of_gt w.lt;refine⟨Ab,Ag _,o,G,b,fs,((w.Iq (u:=[.cells (fs.map Cl.row).flatten])).Lj (l:=b.Bb)).cZ,ok,rm.le Ab,?_,rfl,rfl,?_,?_,w.C7.trans Bq⟩;.rw[Cm hne];simp
 .unfold BS.DT;simp only;rw[Ge,Hh]
 .rintro(rfl|hg);.exact hne rfl
  .exact absurd (w.w.lt hg) (Dr _)
def cY.step{fs:List Cl}{id k:Nat}{h1:Ah}(Hh:fs.map (·.c)=b.Bb)(Kv:∀e∈b.Bb,e.name.length<=1000/\D1 e.AA)(hi:h.length<=id)(hlt:k<fs.length)(i:cY h bi a t G b fs id m k h1):
  ∃(r:List Aa) (h2:Ah) (n:Int),Bg h1 none (Pt bi 3)=some (.CD id 0 fs.length 3)/\Bg h1 (some 3) (Pt id (k*3))=some (.agg fs[k].row)/\BZ cx 182 [.agg fs[k].row] h1 (.agg r) h1/\BZ cx 65 [Pt bi 0,.agg r] h1 (I n) h2/\Bg h2 none (Pt bi 3)=some (.CD id 0 fs.length 3)/\
   Cw h2 1 (Pt id (k*3)) (I n)=some (Am.put h2 id (k*3) (I n))/\cY h bi a t G b fs id m (k+1) (Am.put h2 id (k*3) (I n)):=by
 obtain⟨D,E,b1,HY,w1,U4,nZ,Rm,Vr,bH,zS,M2,g⟩:=i.ex;have Rf:k<HY.length:=Ab;have Hn:b.Bb.length=fs.length:=by rw[<-Hh,Al]
 have oe:k<b.Bb.length:=Ab;have q:HY[k]=fs[k]:=by have:=Ce (λl=>l[0]?) bH;simp only[Ct,Bv] at this;rw[Ai Rf,Ai hlt] at this;exact D3 this
 have y:b.Bb[k]=fs[k].c:=by simp only[<-Hh,CY]
 have f:=ZB (Og HY) Rm (i:=k) (by simpa using Rf);rw[CY,q] at f;have Kv:=Kv fs[k].c (by rw[<-y];exact AN oe);obtain⟨r,A,hr⟩:=od fs[k] h1;obtain⟨h2,B,z,r2,w,d⟩:=ð (m:=m+4*(fs.length-(k+1))) w1 U4.ba (nZ.le Ab) hr fs[k].ok Kv.2 Kv.1;have xN:id<h1.length:=(Ak.1 Rm).1;have IS:h2[id]?=some (.cells (HY.map Cl.row).flatten):=by rw[d.old id xN M2];exact Rm
 have SO:¬Bw bi z id:=λhg=>by
  rcases d.Bw id hg with hg|hg
  .exact M2 hg
  .omega
 have u:At h2 id (k*3) (I fs[k].c.node):=⟨_,IS,by have:=Li (k:=0) (Og HY) A5 (i:=k) (r:=fs[k].row) (by rw[Cn,Ai Rf,q];rfl);rw[Bv] at this;rw[this];rfl⟩
 let s:Cl:=⟨{fs[k].c with node:=b1.a.len+1},fs[k].v,fs[k].ok⟩
 have hrow:(HY.map Cl.row).flatten.set (k*3) (I (b1.a.len+1))=((HY.set k s).map Cl.row).flatten:=by have:=NJ (Az:=HY.map Cl.row) (i:=k) (k:=0) (v:= I (b1.a.len+1)) (Og HY) (by simpa using Rf) A5;rw[Bv] at this;rw[Eo,B2,Ae (by rw[FT (Og HY),Al];omega)];rw[AJ] at this;rw[show s.row=((HY.map Cl.row)[k]'(by simpa using Rf)).set 0 (I (b1.a.len+1)) by rw[CY,q];rfl];exact this
 have C:id≠bi:=λe=>SO (.inl e);refine⟨r,h2,b1.a.len+1,w1.l3,f,A,r2,w.l3,u.store rfl,⟨hlt,by have:=i.low;omega,B,z,_,HY.set k s,w.Dj λj hj=>Cm λe=>SO (e▸hj),Rb U4,Mm (m:=m+4*(fs.length-(k+1))) (nZ.le Ab) Kv.2 Kv.1,?_,by rw[Br];exact Vr,?_,?_,SO,⟨by rw[Jy];exact(g.trans d).len,λj hj hn=>(Cm Ab).trans ((g.trans d).old j hj hn),(g.trans d).Bw⟩⟩⟩;.rw[Ig IS,AQ (by have:=d.len;omega),hrow]
 .rw[YG (Na k)];have:=Ce (λl=>l.drop 1) bH;simpa[Ei] using this
 .rw[zS,AF oe,y,BS.Jp];simp only
  congr 1
  rw[Ay (by rw[Br];exact Rf),aE8,BL,OJ (Ag k),AJ];rfl
def aOX(w:BX h bi a o c t G b)(hc:B7 b.Bb c)(ok:Ez b)(rm:B9 b (m+4*b.Bb.length)):
  ∃h' o' c' G',BZ cx 73 [Pt bi 0] h (.tuple []) h'/\BX h' bi a o' c' t G' b.DT/\B7 b.DT.Bb c'/\DE h (Bw bi G) h' (Bw bi G'):=by
 have ho:=rm.AY;have SQ:=rm.Bb;obtain⟨fs,Hh,hcs⟩:=hc;have Hn:b.Bb.length=fs.length:=by rw[<-Hh,Al]
 have Jc:Ev cx 73 [Pt bi 0] h λr h'=>r= .tuple []/\∃o' c' G',BX h' bi a o' c' t G' b.DT/\B7 b.DT.Bb c'/\DE h (Bw bi G) h' (Bw bi G'):=by
  unfold Ev;have l3:=w.l3;have lc:=AV.CN hcs;rw[kx,t73];simp only[abS,(Ip w).Ad,l3,lc];refine DS (i:=0) (λn:Nat=>[I (n:Int)]) (λn h1=>n<=fs.length/\AP b.settled b.Bb=AP b.settled (b.Bb.take n)/\h1=h) (λn=>n) (λn h1=>n=b.Lf/\h1=h) fs.length rfl ⟨Ag _,by rw[<-Hn,By],rfl⟩ ?_ ?_
  .rintro n h1 ⟨hn,ha,rfl⟩;cases n with
   |zero=>simp only[abS,(A5:¬(0:Int)<((0:Nat):Int))];refine .HC 0 rfl ⟨?_,rfl⟩;unfold BS.Lf;rw[ha];rfl
   |succ n=>
    have hlt:n<b.Bb.length:=Ab;have Sp:n<fs.length:=Ab;rw[GQ hlt] at ha;have i1:=If (n:=n+1) (Ab:0<n+1) (Ab:n+1<9223372036854775807);rw[Fb] at i1;have d:=AV.BN (k:= .i64) hcs Sp;have en:fs[n].c.node=b.Bb[n].node:=by simp only[<-Hh,CY]
    have f:=Yz w.sA Ab b.Bb[n].node;have g:b.settled b.Bb[n]=true->n+1=b.Lf:=by intro hs;rw[Ae hs] at ha;unfold BS.Lf;rw[ha];omega
    rw[Cl.row,en] at d;simp only[abS,(Ab:(0:Int)<((n+1:Nat):Int)),l3,i1,d,f.Ad,Ca];refine⟨λh1=>⟨λh2=>?_,λh2=>?_⟩,λh1=>?_⟩
    .have hs:b.settled b.Bb[n]=false:=by unfold BS.settled;rw[AG];omega
     rw[Ac (by rw[hs];decide)] at ha;exact .next n rfl ⟨Ab,ha,rfl⟩ Ab
    .exact .HC (n+1) rfl ⟨g (by unfold BS.settled;rw[AI];omega),rfl⟩
    .exact .HC (n+1) rfl ⟨g (by unfold BS.settled;rw[AI];omega),rfl⟩
  .rintro n h1 ⟨rfl,O⟩;rw[O];by_cases hne:fs=[]
   .subst hne;have ha:b.Bb=[]:=Hh.symm;have g:b.Lf=0:=by have:=Sw (b:=b);rw[ha] at this;exact Nat.le_zero.1 this
    have hb:b.DT=b:=by unfold BS.DT;rw[ha];simp only[Ĕ,BS.Jp,ĕ,BV];rw[<-ha]
    obtain⟨u,f,hu⟩:=aJL hcs h;have w1:=(w.Lj (u:=u) (l:=b.Bb)).cZ;have d:=Pz w1.vP (vU hu) rfl;have B:=AV.CN hu;have y:=w1.l3;rw[B1] at B;have hz:(b.Lf:Int)=((0:Nat):Int):=by rw[g]
    simp only[abS,l3,f.Ad,w.st (k:=3) (v0:=c) rfl (AV.cells hu)];refine DS (i:=2) (λn:Nat=>[I (n:Int)]) (λn h1=>n=0/\h1=Am.put h bi 3 u) (λn=>n) (λn h1=>n=0/\h1=Am.put h bi 3 u) 0 (by rw[hz]) ⟨rfl,rfl⟩ ?_ ?_;.rintro n h1 ⟨rfl,rfl⟩;simp only[abS,y,B,(A5:¬((0:Nat):Int)<((0:Nat):Int))];exact .HC 0 rfl ⟨rfl,rfl⟩
    .rintro n h1 ⟨rfl,rfl⟩;simp only[BJ,d];refine⟨_,rfl,rfl,o,u,G,?_,⟨[],by rw[hb,ha];rfl,hu⟩,Bq.trans Bq⟩;rw[hb];exact(w1.Lj (l:=b.Bb)).cZ
   .have i0:=cY.init (m:=m) w ok rm Hh;have f:=aDF (h:=h) hcs hne Ab;have w0:=w.Iq (u:=[.cells (fs.map Cl.row).flatten]);simp only[abS,l3,f.Ad,w0.st (k:=3) (v:= .CD h.length 0 fs.length 3) (v0:=c) rfl rfl];refine DS (i:=2) (λn:Nat=>[I (n:Int)]) (λk h1=>cY h bi a t G b fs h.length m k h1) (λk=>fs.length-k) (λk h1=>k=fs.length/\cY h bi a t G b fs h.length m k h1) b.Lf rfl i0 ?_ ?_
    .intro k h1 i;have En:=i.le;have C:AB (.len false) [.CD h.length 0 fs.length 3]=some (I (fs.length:Int)):=rfl;rcases AO k fs.length with hlt|Ef
     .obtain⟨r,h2,n,N,M,L,K,J,H,E⟩:=cY.step Hh rm.DD (Ag _) hlt i;have d:AB (.FC 3) [.CD h.length 0 fs.length 3,I (k:Int)]=some (Pt h.length (k*3)):=E0 hlt;simp only[abS,N,C,(Ab:(k:Int)<(fs.length:Int)),d,M,L.Ad,BO,K.Ad,J,H,BQ (Ab:k<9223372036854775807)];exact .next (k+1) rfl E Ab
     .obtain⟨s,A,b1,HY,w1,_⟩:=i.ex;simp only[abS,w1.l3,C,(Ab:¬(k:Int)<(fs.length:Int))];exact .HC k rfl ⟨Ab,i⟩
    .rintro k h1 ⟨rfl,i⟩;obtain⟨s,A,b1,HY,w1,U4,nZ,Rm,Vr,bH,zS,M2,q⟩:=i.ex;have hf:=JU (Og HY) Rm;rw[Al,Vr] at hf;have z:h.length≠bi:=λe=>M2 (.inl e);have d:=Pz w1.vP hf (by rw[Ao z]);have D:BX (h1.set h.length .CT) bi a s _ t A b1:=w1.Dj λj hj=>Ao λe=>M2 (by rw[e];exact hj);simp only[BJ,d];have hb:b.DT={b1 with Bb:=HY.map (·.c)}:=by rw[zS,AW Ab,AD Ab];simp only[BS.Jp,BK]
     refine⟨_,rfl,rfl,s,_,A,by rw[hb];exact D.Lj,⟨HY,by rw[hb],.mk⟩,?_⟩;refine DE.trans ⟨by rw[Br];exact q.len,λj hj hn=>?_,q.Bw⟩ Bq;rw[Ao Ab];exact q.old j hj hn
 obtain⟨r,h',hr,rfl,o',c',G',w',KE,x'⟩:=Jc.ret;exact⟨h',o',c',G',hr,w',KE,x'⟩
end
def õ{id l k:Nat}(hl:0<l)(hk:k<=l):AB (.HO 3 false false true) [.CD id 0 l 3,I (k:Int)]=some (.CD id 0 k 3):=by
 have d:Fo (k:Int) l=some k:=by unfold Fo;rw[Ae Ab];rfl
 simp[AB,J4,Ea,d];omega
def ö{id l k:Nat}(hk:k<=l):AB (.HO 3 false true false) [.CD id 0 l 3,I (k:Int)]=some (if k<l then .CD id (k*3) (l-k) 3 else .sl 3 []):=by
 have d:Fo (k:Int) l=some k:=by unfold Fo;rw[Ae Ab];rfl
 simp[AB,J4,Ea,d];split<;>rfl
def He{U:Type}{l:List U}{k:Nat}(hk:k<l.length):(Bf l k).length=l.length-1:=by unfold Bf;rw[Au,As,Bc];omega
def aJN{h:Ah}{id k:Nat}{Az:List (List Aa)}(hr:∀r∈Az,r.length=3)(hc:h[id]?=some (.cells Az.flatten))(hk:k<Az.length)(hb:Az.length<=1000000000):
  ∃GW,BZ cx 405 [.CD id 0 Az.length 3,I (k:Int),I ((k+1:Nat):Int)] h (.CD id 0 (Az.length-1) 3) (h.set id (.cells ((Bf Az k).flatten++GW))):=by
 have Ik:=(Ak.1 hc).1;have v:=He hk;have Rn:=FT hr;have u:∀r∈Bf Az k,r.length=3:=λr hm=>hr r (by
  unfold Bf at hm;rcases Av.1 hm with hm|hm
  .exact Bn hm
  .exact BG hm)
 have pQ:=FT u;rw[v] at pQ;have TS:(Az.take k).flatten=Az.flatten.take (k*3):=(Zj hr).symm;have d:(Az.drop (k+1)).flatten=Az.flatten.drop ((k+1)*3):=(IV hr).symm;obtain⟨RM,z,hcl⟩:∃RM,F9 h 3 48 (.CD id 0 k 3) (if k+1<Az.length then .CD id ((k+1)*3) (Az.length-(k+1)) 3 else .sl 3 [])=some (h.set id (.cells ((Bf Az k).flatten++RM)),.CD id 0 (Az.length-1) 3)/\RM.length=3:=by
  have g:GX h 3 (if k+1<Az.length then .CD id ((k+1)*3) (Az.length-(k+1)) 3 else .sl 3 [])=some (Az.drop (k+1)):=by
   by_cases PQ:k+1<Az.length;.rw[Ae PQ];have q:=Zk hr (n:=Az.length-(k+1)) (off:=k+1) Ab;rw[AD (by rw[Bc];exact Ag _)] at q;simp only[GX,BT,hc,q];rw[Ae (by rw[Rn];omega)]
   .rw[Ac PQ,AW Ab];rfl
  by_cases nh:k+1=Az.length
  .refine⟨Az.flatten.drop (k*3),?_,by rw[Bc,Rn];omega⟩;have j:Az.drop (k+1)=[]:=AW Ab;rw[j] at g;have w:(Bf Az k).flatten++Az.flatten.drop (k*3)=Az.flatten:=by unfold Bf;rw[j,BK,TS,CF]
   have C:h.set id (.cells ((Bf Az k).flatten++Az.flatten.drop (k*3)))=h:=by rw[w];obtain⟨Y8,B⟩:=Ak.1 hc;rw[<-B,JM]
   simp only[F9,g,BT];rw[C,(Ab:Az.length-1=k)]
  .obtain⟨y,s,hd⟩:∃y s,Az.drop (k+1)=y::s:=⟨_,_,AF (Ab:k+1<Az.length)⟩;have vN:(y::s).length=Az.length-(k+1):=by rw[<-hd,Bc]
   refine⟨Az.flatten.drop ((Az.length-1)*3),?_,by rw[Bc,Rn];omega⟩;rw[hd] at g;simp only[F9,g,hc,BT];rw[vN,Ae (by rw[Rn];omega)];rw[<-hd,d,B0,B0,(Ab:k+(Az.length-(k+1))=Az.length-1)];unfold Bf;rw[KM,TS,d]
 generalize Ŏ:h.set id (.cells ((Bf Az k).flatten++RM))=h2 at z;have IS:h2[id]?=some (.cells ((Bf Az k).flatten++RM)):=by rw[<-Ŏ];exact AQ Ik
 have nU:((Bf Az k).flatten++RM).length=Az.length*3:=by rw[Au,pQ,hcl];omega
 have j:E5 (.wR 3 true true) h2 [.CD id 0 (Az.length-1) 3,I ((Az.length-1:Nat):Int),I (Az.length:Int)]=some (h2,.CD id ((Az.length-1)*3) 1 3):=by
  simp only[E5,dY,IS];have D:Fo (Az.length:Int) ((((Bf Az k).flatten++RM).length-0)/3)=some Az.length:=by unfold Fo;rw[Ae (by rw[nU];omega)];rfl
  have q:Fo ((Az.length-1:Nat):Int) Az.length=some (Az.length-1):=by unfold Fo;rw[Ae Ab];rfl
  rw[Ae ⟨trivial,trivial,AU _⟩];simp only[Ea,D,q,Cv,Cc];rw[Ae (by rw[nU];omega)];congr 3
  .omega
  .omega
 have A:E5 (.clear 3 [I 0,S [],.slnil]) h2 [.CD id ((Az.length-1)*3) 1 3]=some (h.set id (.cells ((Bf Az k).flatten++[I 0,S [],.slnil])),.bool true):=by
  simp only[E5,VK,IS];rw[Ae ⟨trivial,rfl,by rw[nU];omega⟩];congr 2
  rw[<-Ŏ,aEt];congr 2
  rw[HN pQ,AW (by rw[nU];omega)];simp
 refine⟨[I 0,S [],.slnil],?_⟩;have f:∀i n,AB (.len false) [.CD i 0 n 3]=some (I (n:Int)):=λ_ _=>rfl;have w:E5 (.jX 3) h [.CD id 0 Az.length 3,I (k:Int),I ((k+1:Nat):Int),I (Az.length:Int)]=some (h,.bool true):=by simp only[E5,VL];simp;omega
 rw[Af,uU,aDl];simp only[abS,f,w,(Ab:¬(k:Int)=((k+1:Nat):Int)),õ (id:=id) (Ab:0<Az.length) (Ab:k<=Az.length),ö (id:=id) (Ab:k+1<=Az.length),z,j,A]
def Sx{z:Nat}:∀{Az:List (List Aa)} {cs Yj:List Aa},(∀r∈Az,r.length=z)->Cz (Yj++(Az.flatten++cs)) z Yj.length Az.length=Az
 |[],_,_,_=>rfl
 |x::Az,cs,Yj,h=>by have hx:=h x AK;have:=Sx (Az:=Az) (cs:=cs) (Yj:=Yj++x) (λr hr=>h r (by simp[hr]));simp only[AJ,Au,hx] at this;simp only[CW,Be,Cz,AJ];rw[Jv rfl,HN hx,this]
def oA{h:Ah}{id z:Nat}{Az:List (List Aa)}{cs:List Aa}(hr:∀r∈Az,r.length=z)(hc:h[id]?=some (.cells (Az.flatten++cs))):Kq h (.CD id 0 Az.length z)=some (h.set id .CT,.sl z Az):=by unfold Kq;simp only[hc,B0];have:=Sx (cs:=cs) (Yj:=[]) hr;simp only[BV,B1] at this;rw[Ae (by rw[Au,FT hr];omega),this]
def FL(e:Cl)(at_ mk:Int)(anc far:Item)(last:Int):List Aa:=
 [I e.c.node,.str e.c.name,e.v,I at_,I mk,I anc.node,I anc.A9,.str anc.name,.bool anc.OH,I far.node,I far.A9,.str far.name,.bool far.OH,I last]
def MG(ai bi:Nat)(G:Nat->Prop):Nat->Prop:=λi=>i=ai\/Bw bi G i
section
variable{h h':Ah}{bi a ai:Nat}{o c t:Aa}{G G' F:Nat->Prop}{b b':BS}{x:Int}{m:Nat}
variable{nm:Aq}{av:Aa}{l:List A6}{r:List Aa}{sp p:Int}{e:Cl}{at_ mk last:Int}{anc far:Item}
def EX(x:DE h (Bw bi G) h' (Bw bi G'))(ai:Nat):DE h (MG ai bi G) h' (MG ai bi G'):=
 ⟨x.len,λi hi hn=>x.old i hi λhg=>hn (.inr hg),λi hi=>by
  rcases hi with hi|hi
  .exact .inl (.inl hi)
  .rcases x.Bw i hi with h|h
   .exact .inl (.inr h)
   .exact .inr h⟩
def PC{k:Nat}{v:Aa}:DE h (Am.MG ai bi G) (put h ai k v) (Am.MG ai bi G):=⟨by rw[Jy];exact Ag _,λi _ hn=>Cm λe=>hn (.inl e),λ_ h=> .inl h⟩
def Ia{id k:Nat}{v:Aa}{cs:List Aa}(hc:h[id]?=some (.cells cs)):(put h id k v)[id]?=some (.cells (cs.set k v)):=by rw[Ig hc,AQ (Ak.1 hc).1]
def down(k:Nat)(x:Int):Int:=if(k:Int)<x then x-1 else x
def vV(w:BX h bi a o c t G b)(hc:B7 b.Bb c)(rm:B9 b m)(ha:h[ai]?=some (.cells (FL e at_ mk anc far last)))(hn:¬Bw bi G ai){k:Nat}(hk:k<b.Bb.length)(h1:0<=at_/\at_<=1000000000)(h2:0<=mk/\mk<=1000000000):
  ∃h' c',BZ cx 331 [Pt ai 0,Pt bi 0,I (k:Int)] h (.tuple []) h'/\BX h' bi a o c' t G {b with Bb:=Bf b.Bb k}/\B7 (Bf b.Bb k) c'/\h'[ai]?=some (.cells (FL e (down k at_) (down k mk) anc far last))/\DE h (MG ai bi G) h' (MG ai bi G):=by
 obtain⟨fs,Hh,hcs⟩:=hc;have SQ:=rm.Bb;have Hn:b.Bb.length=fs.length:=by rw[<-Hh,Al]
 have hne:fs≠[]:=by intro e;rw[Hn,e] at hk;exact absurd hk (Nat.not_lt_zero _)
 have X7:ai≠bi:=λe=>hn (.inl e);have z:ai<h.length:=(Ak.1 ha).1;have C:=aDF (h:=h) hcs hne Ab;have hX:(h++[Dx.cells (fs.map Cl.row).flatten])[h.length]?=some (.cells (fs.map Cl.row).flatten):=AK;obtain⟨GW,r2⟩:=aJN (Og fs) hX (k:=k) Eg Eg;rw[Al] at r2;have e2:(h++[Dx.cells (fs.map Cl.row).flatten]).set h.length (.cells ((Bf (fs.map Cl.row) k).flatten++GW))=h++[.cells ((Bf (fs.map Cl.row) k).flatten++GW)]:=by rw[BP _ _ (Ag _),C9];rfl
 rw[e2] at r2;generalize A:h++[Dx.cells ((Bf (fs.map Cl.row) k).flatten++GW)]=H at r2;have w1:BX H bi a o c t G b:=by rw[<-A];exact w.Iq
 have Yn:H[ai]?=some (.cells (FL e at_ mk anc far last)):=by rw[<-A,Aj z];exact ha
 have Q:H[h.length]?=some (.cells ((Bf (fs.map Cl.row) k).flatten++GW)):=by rw[<-A];simp
 have hL:H.length=h.length+1:=by rw[<-A];simp
 have Z:DE h (MG ai bi G) H (MG ai bi G):=by rw[<-A];exact EX w.C7 ai
 have s:bi≠h.length:=OV w.lt;have Vi:ai≠h.length:=OV z;have B:=w1.st (k:=3) (v:= .CD h.length 0 (fs.length-1) 3) (v0:=c) rfl rfl;have w2:=w1.Lj (u:= .CD h.length 0 (fs.length-1) 3) (l:=b.Bb);have OP:(put H bi 3 (.CD h.length 0 (fs.length-1) 3))[ai]?=some (.cells (FL e at_ mk anc far last)):=by rw[Cm X7];exact Yn
 have P:(put H bi 3 (.CD h.length 0 (fs.length-1) 3))[h.length]?=some (.cells ((Bf (fs.map Cl.row) k).flatten++GW)):=by rw[Cm (DH s)];exact Q
 have Y:DE h (MG ai bi G) (put H bi 3 (.CD h.length 0 (fs.length-1) 3)) (MG ai bi G):=Z.trans (EX Bq ai);generalize R:put H bi 3 (.CD h.length 0 (fs.length-1) 3)=f at*;have hL2:f.length=h.length+1:=by rw[<-R,Jy,hL]
 have t3:At f ai 3 (I at_):=⟨_,OP,rfl⟩;have lN:=Ia (k:=3) (v:= I (down k at_)) OP;have E:put f ai 3 (I (down k at_))=if(k:Int)<at_ then put f ai 3 (I (at_-1)) else f:=by
  unfold down;split;.rfl
  .exact t3.same
 have w3:BX (put f ai 3 (I (down k at_))) bi a o _ t G _:=w2.Dj λj hj=>Cm λe=>hn (e▸hj);have O:(put f ai 3 (I (down k at_)))[h.length]?=_:=(Cm (DH Vi)).trans P;have X:=Y.trans (PC (k:=3) (v:= I (down k at_)));generalize hH3:put f ai 3 (I (down k at_))=d at*;have t4:At d ai 4 (I mk):=⟨_,lN,rfl⟩;have M:=Ia (k:=4) (v:= I (down k mk)) lN;have q:put d ai 4 (I (down k mk))=if(k:Int)<mk then put d ai 4 (I (mk-1)) else d:=by
  unfold down;split;.rfl
  .exact t4.same
 have T:BX (put d ai 4 (I (down k mk))) bi a o _ t G _:=w3.Dj λj hj=>Cm λe=>hn (e▸hj);have N:(put d ai 4 (I (down k mk)))[h.length]?=_:=(Cm (DH Vi)).trans O;have J:=X.trans (PC (k:=4) (v:= I (down k mk)));generalize hH4:put d ai 4 (I (down k mk))=S at*;have L:∀r∈Bf (fs.map Cl.row) k,r.length=3:=λr hm=>Og fs r (by
  unfold Bf at hm;rcases Av.1 hm with hm|hm
  .exact Bn hm
  .exact BG hm)
 have f4:=oA L N;rw[He Eg,Al] at f4;have D:=Pz T.vP f4 (by rw[Ao (DH s)]);have w5:BX (S.set h.length .CT) bi a o _ t G {b with Bb:=b.Bb}:=T.Dj λj hj=>Ao λe=>by
  subst e;rcases hj with hj|hj
  .exact s hj.symm
  .exact absurd (w.w.lt hj) (Dr _)
 have ed:Bf (fs.map Cl.row) k=(Bf fs k).map Cl.row:=by unfold Bf;rw[BL,Ge,JA]
 have ec:(Bf fs k).map (·.c)=Bf b.Bb k:=by unfold Bf;rw[BL,Ge,JA,Hh]
 refine⟨_,.sl 3 (Bf (fs.map Cl.row) k),?_,w5.Lj (l:=Bf b.Bb k),⟨Bf fs k,ec,by rw[ed];exact .mk⟩,?_,?_⟩
 .have i:Bg f none (Pt ai 3)=some (I at_):=t3.load;have g:Bg d none (Pt ai 4)=some (I mk):=t4.load;have inc:=BQ (Ab:k<9223372036854775807);have W:=C6 (Ab: -9223372036854775808<=at_-1) (Ab:at_-1<9223372036854775808);have V:=C6 (Ab: -9223372036854775808<=mk-1) (Ab:mk-1<9223372036854775808);rw[Af,tS,aCT];by_cases y:(k:Int)<at_
  .rw[Ae y] at E;have U:Cw f 1 (Pt ai 3) (I (at_-1))=some d:=by rw[E];exact t3.store rfl
   by_cases n:(k:Int)<mk
   .rw[Ae n] at q;have K:Cw d 1 (Pt ai 4) (I (mk-1))=some S:=by rw[q];exact t4.store rfl
    simp only[abS,w.l3,C.Ad,inc,r2.Ad,B,i,y,W,U,g,n,V,K,D]
   .rw[Ac n] at q;subst q;simp only[abS,w.l3,C.Ad,inc,r2.Ad,B,i,y,W,U,g,n,D]
  .rw[Ac y] at E;subst E;by_cases n:(k:Int)<mk
   .rw[Ae n] at q;have K:Cw d 1 (Pt ai 4) (I (mk-1))=some S:=by rw[q];exact t4.store rfl
    simp only[abS,w.l3,C.Ad,inc,r2.Ad,B,i,y,g,n,V,K,D]
   .rw[Ac n] at q;subst q;simp only[abS,w.l3,C.Ad,inc,r2.Ad,B,i,y,g,n,D]
 .rw[Cm X7,Ao (DH Vi),M];rfl
 .refine DE.trans ⟨by rw[Br];exact J.len,λj hj hn=>?_,J.Bw⟩ (EX Bq ai);rw[Ao Ab];exact J.old j hj hn
end
section
variable{U:Type}{q:U->Bool}{l:List U}
def Mp{p:Nat}(hp:p<l.length)(h1:q l[p]=true)(h2:∀j (hj:j<l.length),p<j->q l[j]=false):AP q l=(p:Int):=by
 rcases De (q:=q) (l:=l) with⟨e,h⟩|⟨n,hn,e,d,f⟩
 .rw[h _ (AN hp)] at h1;exact absurd h1 A5
 .rcases Nat.lt_trichotomy n p with h|h|h
  .have:=f p hp h;rw[this] at h1;exact absurd h1 A5
  .rw[e,h]
  .have:=h2 n hn h;rw[this] at d;exact absurd d A5
def II{p:Nat}(e:AP q l=(p:Int)):∃hp:p<l.length,q l[p]=true/\∀j (hj:j<l.length),p<j->q l[j]=false:=by
 rcases De (q:=q) (l:=l) with⟨g,h⟩|⟨n,hn,g,f,d⟩
 .omega
 .have:n=p:=by omega
  subst this;exact⟨hn,f,λj hj h=>d j hj h⟩
def iX{k j:Nat}(hk:k<l.length):(Bf l k)[j]?=if j<k then l[j]? else l[j+1]?:=by
 unfold Bf;by_cases h:j<k;.rw[Ae h,Aj (by rw[As];omega),Cj,Ae h]
 .rw[Ac h,Bm (by rw[As];omega),Ct];congr 1
  rw[As];omega
def Oq{k j:Nat}(hk:k<l.length)(hj:j<(Bf l k).length):(Bf l k)[j]=if h:j<k then l[j]'(by omega) else l[j+1]'(by rw[He hk] at hj;omega):=by
 have hl:=He hk;have:=iX (j:=j) hk;rw[Ai hj] at this;by_cases h:j<k;.rw[jJ h];rw[Ae h,Ai Ab] at this;exact D3 this
 .rw[dif_neg h];rw[Ac h,Ai Ab] at this;exact D3 this
def dA{p k:Nat}(e:AP q l=(p:Int))(hk:k<l.length)(hne:k≠p):AP q (Bf l k)=down k p:=by
 obtain⟨hp,h1,h2⟩:=II e;have hl:=He hk;unfold down;by_cases d:k<p
 .rw[Ae Ab,(Ab:(p:Int)-1=((p-1:Nat):Int))];refine Mp Ab ?_ ?_;.rw[Oq hk,dif_neg Ab];have:p-1+1=p:=Ab;simp only[this,h1]
  .intro j hj h;rw[Oq hk,dif_neg Ab];exact h2 _ _ Ab
 .rw[Ac Ab];refine Mp Ab ?_ ?_;.rw[Oq hk,jJ Ab];exact h1
  .intro j hj h;rw[Oq hk];split;.exact h2 _ _ h
   .exact h2 _ _ Ab
def iY{p k:Nat}{x:U}(e:AP q l=(p:Int))(hne:k≠p)(hx:q x=false):AP q (l.set k x)=(p:Int):=by
 obtain⟨hp,h1,h2⟩:=II e;refine Mp (by rw[Br];exact hp) ?_ ?_;.rw[List.getElem_set_ne hne];exact h1
 .intro j hj h;rw[List.getElem_set];split;.exact hx
  .rw[Br] at hj;exact h2 j hj h
end
def dB{l:List Item}(hn:(l.map Item.node).Nodup){i:Nat}(hi:i<l.length):AP (BB l[i].node) l=(i:Int):=by
 refine Mp hi (by simp[BB]) λj hj h=>?_;by_cases he:l[i].node=l[j].node
 .have h2:(l.map Item.node)[i]'(by simpa using hi)=(l.map Item.node)[j]'(by simpa using hj):=by simpa using he
  exact absurd h2 (List.pairwise_iff_getElem.1 hn i j (by simpa using hi) (by simpa using hj) h)
 .unfold BB;simpa using λe=>he e.symm
def Hz{n:Int}{l:List Cu}(h:0<=Fh n l):∃p:Nat,∃hp:p<l.length,Fh n l=(p:Int)/\n≠0/\l[p].node=n/\AP (Xj n) l=(p:Int):=by
 unfold Fh at h⊢;split at h;.omega
 .rename_i h0;rw[Ac h0];obtain⟨p,hp⟩:∃p:Nat,AP (Xj n) l=(p:Int):=⟨_,(GV h).symm⟩;obtain⟨h1,h2,_⟩:=II hp;exact⟨p,h1,hp,h0,by simpa[Xj] using h2,hp⟩
def ZD{n:Int}{l:List Cu}{k:Nat}(h:0<=Fh n l)(hk:k<l.length)(hne:l[k].node≠n):Fh n (Bf l k)=down k (Fh n l):=by obtain⟨p,hp,e,h0,h1,h2⟩:=Hz h;rw[e,<-dA h2 hk (by rintro rfl;exact hne h1)];unfold Fh;rw[Ac h0]
def iZ{n:Int}{l:List Cu}{k:Nat}{x:Cu}(h:0<=Fh n l)(hk:k<l.length)(hne:l[k].node≠n)(hx:x.node≠n):Fh n (l.set k x)=Fh n l:=by obtain⟨p,hp,e,h0,h1,h2⟩:=Hz h;rw[e,<-iY (x:=x) (k:=k) h2 (by rintro rfl;exact hne h1) (by simp[Xj];exact hx)];unfold Fh;rw[Ac h0]
def zT{n:Int}{l:List Cu}(hn:((l.map Cu.node).filter λn=>decide (n≠0)).Nodup)(h:0<=Fh n l):Fh n (Bf l (Fh n l).toNat)<0:=by
 obtain⟨p,hp,e,h0,h1,h2⟩:=Hz h;rw[e,AT];refine Int.not_le.1 λi=>?_;obtain⟨g,f,j,_,d,_⟩:=Hz i;have:l=l.take p++l[p]::l.drop (p+1):=by rw[<-AF hp,CF]
 rw[this,BL,Bs,DW,Hm,Ae (by simpa[h1] using h0),B5,B8] at hn;have hm:=AN f;generalize(Bf l p)[g]=y at hm d;unfold Bf at hm;rcases Av.1 hm with hm|hm
 .exact hn.2.2 y.node (DI.2 ⟨OL hm,by simpa[d] using h0⟩) l[p].node AK (by rw[d,h1])
 .exact hn.2.1.1 (DI.2 ⟨by rw[h1,<-d];exact OL hm,by simpa[h1] using h0⟩)
section
variable{h h':Ah}{bi a ai:Nat}{o c t:Aa}{G G' F:Nat->Prop}{b b':BS}{x:Int}{m:Nat}
variable{nm:Aq}{av:Aa}{l:List A6}{r:List Aa}{sp p:Int}{e:Cl}{at_ mk last:Int}{anc far:Item}
def Ot{blk anc:Int}{far i:Nat}{l:Int}{mk m:Nat}(r:B9 b (m+4)):B9 (BS.Fq blk anc far i b l mk).1 m:=by
 unfold BS.Fq;simp only
 split;.exact(r.le Ab).sub rfl Di (A4 _) (Ag _)
 .split;.exact(r.le Ab).sub rfl Di Di (Ag _)
  .rename_i he _;obtain⟨p,hp,f,_,_,_⟩:=Hz (Ji.1 he);rw[f,AT,AL,Ai hp,Hl];have Kv:=r.DD _ (AN hp);have d:=I1 (m:=m+1) (nm:=b.Bb[p].name) (l:=b.Bb[p].AA) (sp:=1) (p:=anc) (r.le Ab) Kv.2;have r2:=(d.le (m':=m) Ab).Ku (JX (p:=(b.Gw b.Bb[p].name b.Bb[p].AA 1).node) (x:=l) (bf:=0));refine⟨r2.n,r2.at_,r2.data,by simp only[Br];exact r2.AY,by simp only[Br];exact r2.Bb,r2.tm,λe he=>?_,λi hi=>?_⟩
   .rcases Db he with he|rfl
    .exact r2.DD e he
    .exact Kv
   .rcases Db hi with hi|rfl
    .exact r2.X8 i hi
    .exact NI Kv.1
end
def Tt{A:Ar}{x p bf:Int}(h:(A.nd p).kind=4):A.Ey x p bf=A.FV p x bf:=by unfold Ar.Ey;rw[Ac (by rw[h];intro h;exact absurd h.1 A5)]
section
variable{h h':Ah}{bi a ai:Nat}{o c t:Aa}{G G' F:Nat->Prop}{b b':BS}{x:Int}{m:Nat}
variable{nm:Aq}{av:Aa}{l:List A6}{r:List Aa}{sp p:Int}{e:Cl}{at_ mk last:Int}{anc far:Item}
def B7.at(hc:B7 b.Bb c)(w:BX h bi a o c t G b)(rm:B9 b m)(n:Int):BZ cx 188 [Pt bi 3,I n] h (I (Fh n b.Bb)) h:=by obtain⟨fs,Hh,hv⟩:=hc;have ha:=rm.Bb;have:=f41 w.vP hv (by rw[<-Hh,Al] at ha;omega) n;rwa [XJ,Hh] at this
structure i5(h:Ah)(bi a ai:Nat)(t:Aa)(G0:Nat->Prop)(fe:Cl)(anc far:Item)(k N m:Nat)(s0:BS×Int×Nat)(n:Nat)(h1:Ah)(o c:Aa)(G:Nat->Prop)(s:BS×Int×Nat):Prop where
 le:n<=N
 w:BX h1 bi a o c t G s.1
 hc:B7 s.1.Bb c
 ok:Ez s.1
 rm:B9 s.1 (m+4*n)
 last:s.1.a.has s.2.1
 st:h1[ai]?=some (.cells (FL fe (Fh fe.c.node s.1.Bb) (s.2.2:Int) anc far s.2.1))
 hn:¬Bw bi G ai
 x:DE h (MG ai bi G0) h1 (MG ai bi G)
 Vn:0<=Fh fe.c.node s.1.Bb
 Œ:s.2.2<=1000000000
 AY:s.1.AY.take (k+n+1)=s0.1.AY.take (k+n+1)
 len:k+n+1<=s.1.AY.length
 eq:BS.Kt far.node anc.node (k+1+N) k N s0=BS.Kt far.node anc.node (k+1+N) k n s
 fe:s.1.a.has fe.c.node
def ZE{blk anc:Int}{far i:Nat}{l:Int}{mk:Nat}(hi:i<b.AY.length):(BS.Fq blk anc far i b l mk).1.AY.take i=b.AY.take i/\i<=(BS.Fq blk anc far i b l mk).1.AY.length:=by
 have h1:(Bf b.AY i).take i=b.AY.take i/\i<=(Bf b.AY i).length:=by refine⟨?_,by rw[He hi];omega⟩;unfold Bf;rw[CJ (by rw[As];omega),FA,Nat.min_self]
 unfold BS.Fq;simp only
 split;.exact h1
 .split;.exact h1
  .have NS:∀nm l p,(b.EB nm l 1 p).AY=b.AY:=λnm l p=>by unfold BS.EB;rw[Ae JQ]
   simp only[NS];exact⟨OJ (Ag i),by rw[Br];omega⟩
def i5.step{h1 h2:Ah}{C D A z:Aa}{B u:Nat->Prop}{fe:Cl}{k N n:Nat}{s0 s s':BS×Int×Nat}(i:i5 h bi a ai t G fe anc far k N m s0 (n+1) h1 C D B s)(e:s'=BS.Fq far.node anc.node (k+1+N) (k+(n+1)) s.1 s.2.1 s.2.2)
  (w:BX h2 bi a A z t u s'.1) (hc:B7 s'.1.Bb z) (st:h2[ai]?=some (.cells (FL fe (Fh fe.c.node s'.1.Bb) (s'.2.2:Int) anc far s'.2.1))) (hn:¬Bw bi u ai) (x:DE h1 (MG ai bi B) h2 (MG ai bi u)) (Vn:0<=Fh fe.c.node s'.1.Bb) (mk:s'.2.2<=1000000000):
  i5 h bi a ai t G fe anc far k N m s0 n h2 A z u s':=by
 obtain⟨g,last',j⟩:=Xo (blk:=far.node) (anc:=anc.node) (far:=k+1+N) (i:=k+(n+1)) (m:=s.2.2) i.ok i.last;have hl:=i.len;obtain⟨f,v⟩:=ZE (blk:=far.node) (anc:=anc.node) (far:=k+1+N) (i:=k+(n+1)) (l:=s.2.1) (mk:=s.2.2) (b:=s.1) Ab;have d:=Ot (blk:=far.node) (anc:=anc.node) (far:=k+1+N) (i:=k+(n+1)) (l:=s.2.1) (mk:=s.2.2) (m:=m+4*n) (i.rm.le Ab);have NS:=i.AY;have y:BS.Kt far.node anc.node (k+1+N) k (n+1) s=BS.Kt far.node anc.node (k+1+N) k n (BS.Fq far.node anc.node (k+1+N) (k+(n+1)) s.1 s.2.1 s.2.2):=rfl;have q:=i.eq.trans y;rw[<-e] at g last' j f v d q;refine⟨by have:=i.le;omega,w,hc,g,d,last',st,hn,i.x.trans x,Vn,mk,?_,Ab,q,j.has _ i.fe⟩;have:=Ce (λl=>l.take (k+(n+1))) NS;simp only[FA] at this;rw[(Ab:k+n+1=k+(n+1)),f];rwa [Cs Ab] at this
def aJT{fe:Cl}{k N:Nat}{s0:BS×Int×Nat}(i0:i5 h bi a ai t G fe anc far k N m s0 N h o c G s0)(Yb:1<=k)(PQ:AP (BB fe.c.node) s0.1.AY=(k:Int))(hN:k+1+N<s0.1.AY.length):
  ∃h' o' c' G' s',BZ cx 334 [Pt bi 0,Pt ai 0,I (k:Int),I ((k+1+N:Nat):Int)] h (.tuple []) h'/\s'=BS.Kt far.node anc.node (k+1+N) k N s0/\i5 h bi a ai t G fe anc far k N m s0 0 h' o' c' G' s':=by
 have ho:=i0.rm.AY;have Jc:Ev cx 334 [Pt bi 0,Pt ai 0,I (k:Int),I ((k+1+N:Nat):Int)] h λr h'=>r= .tuple []/\∃o' c' G' s',s'=BS.Kt far.node anc.node (k+1+N) k N s0/\i5 h bi a ai t G fe anc far k N m s0 0 h' o' c' G' s':=by
  unfold Ev;rw[tV,aCW];have i1:=C6 (a:=((k+1+N:Nat):Int)) (b:=1) Ab Ab;rw[(Ab:((k+1+N:Nat):Int)-1=((k+N:Nat):Int))] at i1;simp only[BJ,i1];refine Bj (λn:Nat=>[I ((N-n:Nat):Int),I ((k+n:Nat):Int)]) (λn h1=>∃o c G1 s,i5 h bi a ai t G fe anc far k N m s0 n h1 o c G1 s) (λn=>n) N (by rw[C9];rfl) ⟨o,c,_,s0,i0⟩ ?_;rintro n h1 ⟨o1,c1,G1,s,i⟩;cases n with
  |zero=>simp only[abS,↓reduceIte,(Ab:¬(k:Int)<(k:Int))];exact⟨_,rfl,rfl,o1,c1,G1,s,i.eq.symm,i⟩
  |succ n=>
   have hnN:=i.le;have hlen:=i.len;have ZF:k+(n+1)<s.1.AY.length:=Ab;have hwo:=i.rm.AY;have hwa:=i.rm.Bb;have X7:ai≠bi:=λe=>i.hn (.inl e);have hai:ai<h1.length:=(Ak.1 i.st).1;have J:=Xy i.w.sA ((k+(n+1):Nat):Int);rw[H9 ZF] at J;have T:=dB i.ok.qo ZF;have hxf:s.1.AY[k+(n+1)].node≠fe.c.node:=by have h2:=Ce (λl=>l[k+(n+1)]?) i.AY;simp only[Cj] at h2;rw[Ae Ab,Ae Ab,Ai ZF,Ai Ab] at h2;obtain⟨_,_,K⟩:=II PQ;have g:=K (k+(n+1)) Ab Ab;rw[D3 h2];intro h5;unfold BB at g;rw[h5] at g;simp at g
   have VD:s.1.AY.getD (k+(n+1)) Item.zero=s.1.AY[k+(n+1)]:=by rw[AL,Ai ZF];rfl
   generalize s.1.AY[k+(n+1)]=x at*;have r2:=i.hc.at i.w i.rm x.node;obtain⟨q,hq,zN,hq0,hq2,hq3⟩:=Hz i.Vn;have inc:AB (.int .add) [I ((N-(n+1):Nat):Int),I 1]=some (I ((N-n:Nat):Int)):=by have:=BQ (n:=N-(n+1)) Ab;rwa [(Ab:N-(n+1)+1=N-n)] at this
   have dec:AB (.int .sub) [I ((k+(n+1):Nat):Int),I 1]=some (I ((k+n:Nat):Int)):=by have:=If (n:=k+(n+1)) Ab Ab;rwa [(Ab:k+(n+1)-1=k+n)] at this
   have bo:(k:Int)<((k+(n+1):Nat):Int):=Ab;have U:∀l:List Item,l=s.1.AY->C2 x.node l=Bf l (k+(n+1)):=by intro l e;subst e;unfold C2;rw[T,Ac Ab,AT]
   by_cases he:Fh x.node s.1.Bb<0
   .obtain⟨u,B,hu⟩:=aDD i.w.sO Ab x.node;rw[U _ rfl] at hu;have y:=i.w.IH hu;have es:({s.1 with AY:=Bf s.1.AY (k+(n+1))},s.2.1,s.2.2)=BS.Fq far.node anc.node (k+1+N) (k+(n+1)) s.1 s.2.1 s.2.2:=by unfold BS.Fq;simp only[VD];rw[Ae he]
    have C:=i.step es y i.hc ((Cm X7).trans i.st) i.hn (EX Bq ai) i.Vn i.Œ;by_cases Nc:(3:Int)<((N-n:Nat):Int);.simp only[abS,↓reduceIte,Fc,bo,J.Ad,inc,r2.Ad,Nc,he,(Ab:¬(0:Int)<=Fh x.node s.1.Bb),B.Ad,dec];exact AM.next n rfl ⟨_,_,_,_,C⟩ Ab
    .simp only[abS,↓reduceIte,Fc,bo,J.Ad,inc,r2.Ad,Nc,he,B.Ad,dec];exact AM.next n rfl ⟨_,_,_,_,C⟩ Ab
   .obtain⟨p,hp,ep,Nv,YC,hp3⟩:=Hz (Ji.1 he);have Ef:(0:Int)<=(p:Int):=Ab;rw[ep] at r2;have V:s.1.Bb[p].node≠fe.c.node:=by rw[YC];exact hxf
    have D:(Fh x.node s.1.Bb).toNat=p:=by rw[ep,AT]
    by_cases Nc:(3:Int)<((N-n:Nat):Int)
    .obtain⟨h2,c2,B,y,IS,œ,E⟩:=vV i.w i.hc i.rm i.st i.hn hp ⟨i.Vn,Ab⟩ ⟨Ab,by have:=i.Œ;omega⟩;have Uk:B9 {s.1 with Bb:=Bf s.1.Bb p} (m+4*(n+1)):=i.rm.sub rfl (A4 _) Di (Ag _);have r4:=B7.at (b:={s.1 with Bb:=Bf s.1.Bb p}) IS y Uk x.node;have pW:Fh x.node (Bf s.1.Bb p)<0:=by have:=zT (n:=x.node) i.ok.yW (Ji.1 he);rwa [D] at this
     obtain⟨u,Z,hu⟩:=aDD y.sO Dp x.node;rw[U _ rfl] at hu;have L:=y.IH hu;have og:(((if p<s.2.2 then s.2.2 -1 else s.2.2:Nat)):Int)=down p (s.2.2:Int):=by unfold down;split<;>split<;>omega
     have es:({s.1 with Bb:=Bf s.1.Bb p,AY:=Bf s.1.AY (k+(n+1))},s.2.1,if p<s.2.2 then s.2.2 -1 else s.2.2)=BS.Fq far.node anc.node (k+1+N) (k+(n+1)) s.1 s.2.1 s.2.2:=by unfold BS.Fq;simp only[VD];rw[Ac he,Ae (Ab:k+(n+1)+3<k+1+N),D]
     have aJU:=ZD i.Vn hp V;have hd0:0<=down p (Fh fe.c.node s.1.Bb):=by unfold down;split<;>omega
     have C:=i.step es L IS (by rw[Cm X7,œ];simp only;rw[aJU,og]) i.hn (E.trans (EX Bq ai)) (by simp only;rw[aJU];exact hd0) (by have:=i.Œ;simp only;split<;>omega);simp only[abS,↓reduceIte,Fc,bo,J.Ad,inc,r2.Ad,Nc,Ef,B.Ad,r4.Ad,pW,Z.Ad,dec];exact AM.next n rfl ⟨_,_,_,_,C⟩ Ab
    .obtain⟨fs,Hh,hv⟩:=i.hc;have Hn:s.1.Bb.length=fs.length:=by rw[<-Hh,Al]
     have aDT:p<fs.length:=Ab;have Y:fs[p].c=s.1.Bb[p]:=by simp only[<-Hh,CY]
     have l3:=i.w.l3;have e1:=AV.BN (k:= .i64) hv aDT;have l5:Bg h1 none (Pt ai 5)=some (I anc.node):=At.load ⟨_,i.st,rfl⟩;obtain⟨r,B,hr⟩:=od fs[p] h1;have Kv:=i.rm.DD _ (AN hp);rw[<-Y] at Kv;obtain⟨h2,G2,r4,y,E⟩:=nu (m:=m+4*n) i.w i.ok.ba (i.rm.le Ab) hr fs[p].ok Kv.2 Kv.1 anc.node 1;obtain⟨nv,f,le2⟩:=Px (nm:=fs[p].c.name) (at_:=fs[p].c.AA) (p:=anc.node) i.ok JQ;have Uk:=I1 (m:=m+4*n+1) (nm:=fs[p].c.name) (l:=fs[p].c.AA) (sp:=1) (p:=anc.node) (i.rm.le Ab) Kv.2;have NS:(s.1.EB fs[p].c.name fs[p].c.AA 1 anc.node).AY=s.1.AY:=by unfold BS.EB;rw[Ae JQ]
     have SQ:(s.1.EB fs[p].c.name fs[p].c.AA 1 anc.node).Bb=s.1.Bb:=by unfold BS.EB;rw[Ae JQ]
     have X:BS.Fq far.node anc.node (k+1+N) (k+(n+1)) s.1 s.2.1 s.2.2=({s.1.EB fs[p].c.name fs[p].c.AA 1 anc.node with a:=(s.1.EB fs[p].c.name fs[p].c.AA 1 anc.node).a.FV (s.1.Gw fs[p].c.name fs[p].c.AA 1).node s.2.1 0,AY:=(s.1.EB fs[p].c.name fs[p].c.AA 1 anc.node).AY.set (k+(n+1)) (s.1.Gw fs[p].c.name fs[p].c.AA 1),Bb:=(s.1.EB fs[p].c.name fs[p].c.AA 1 anc.node).Bb.set p {fs[p].c with node:=(s.1.Gw fs[p].c.name fs[p].c.AA 1).node}},(s.1.Gw fs[p].c.name fs[p].c.AA 1).node,if s.2.1=far.node then p+1 else s.2.2):=by unfold BS.Fq;simp only[VD];rw[Ac he,Ac Ab,D,AL,Ai hp,Hl,<-Y]
     have pO:=NG i.ok f;have hna:=P9 i.ok f;have hnf:(s.1.Gw fs[p].c.name fs[p].c.AA 1).node≠fe.c.node:=λe2=>f.new (by rw[e2];exact i.fe);have aO5:=le2.has _ i.last;have aDU:(s.1.Gw fs[p].c.name fs[p].c.AA 1).name.length<=1000:=NI Kv.1;generalize s.1.Gw fs[p].c.name fs[p].c.AA 1=d at*;generalize s.1.EB fs[p].c.name fs[p].c.AA 1 anc.node=b2 at*;have SO:¬Bw bi G2 ai:=λhg=>by
      rcases E.Bw ai hg with hg|hg
      .exact i.hn hg
      .omega
     have œ:h2[ai]?=_:=(E.old ai hai i.hn).trans i.st;obtain⟨H,M,Z,OO⟩:=aN5 y.sO (by have:=Uk.AY;omega) x.node d;have ø:Pp x.node d b2.AY=b2.AY.set (k+(n+1)) d:=by unfold Pp;rw[NS,T,Ac Ab,AT]
     rw[ø] at OO;have L:=(y.IH OO).Iq (u:=M);have x3:DE h1 (MG ai bi G1) (put h2 bi 2 H++M) (MG ai bi G2):=(EX E ai).trans (EX (Bq.trans (y.IH OO).C7) ai);have ai2:ai<h2.length:=by have:=E.len;omega
     have st3:(put h2 bi 2 H++M)[ai]?=_:=(Aj (by rw[Jy];exact ai2)).trans ((Cm X7).trans œ);have ai3:ai<(put h2 bi 2 H++M).length:=by rw[Au,Jy];omega
     generalize put h2 bi 2 H++M=K at*;have aO6:=(Kv.2).1;obtain⟨A,t2,e2,he2,r6,Jj⟩:=aOk (h:=K) (id:=bi) (o:=3) (l:=fs) ⟨c1,L.vP,hv⟩ Ab x.node (e:=⟨{fs[p].c with node:=d.node},fs[p].v,fs[p].ok⟩) (by unfold Yx;simp only;omega);have hei:Hu x.node fs=(p:Int):=by rw[XJ,Hh,ep]
     rw[hei,Ac Ab,AT] at Jj;have w4:=(L.Lj (u:=A) (l:=b2.Bb.set p {fs[p].c with node:=d.node})).Iq (u:=t2);have hc4:B7 (b2.Bb.set p {fs[p].c with node:=d.node}) A:=⟨_,by rw[Eo,Hh,he2,SQ],Jj⟩;have x4:=x3.trans (EX ((Bq (k:=3) (v:=A)).trans (BX.C7 (u:=t2) (L.Lj (u:=A) (l:=b2.Bb.set p {fs[p].c with node:=d.node})))) ai);have z:(put K bi 3 A++t2)[ai]?=_:=(Aj (by rw[Jy];exact ai3)).trans ((Cm X7).trans st3);generalize put K bi 3 A++t2=g at*;have Ŕ:=nv.mX (i:=d) (k:=k+(n+1)) ⟨f.has,f.kind,f.A9,f.name⟩ (by rw[NS];exact pO);have bn:=Ŕ.mY (e:={fs[p].c with node:=d.node}) (k:=p) ⟨f.has,f.kind⟩ (by simp only[SQ];exact hna);have rm4:B9 {b2 with AY:=b2.AY.set (k+(n+1)) d,Bb:=b2.Bb.set p {fs[p].c with node:=d.node}} (m+4*n+1):=by
      refine⟨Uk.n,Uk.at_,Uk.data,by simp only[Br];exact Uk.AY,by simp only[Br];exact Uk.Bb,Uk.tm,λe he=>?_,λi hi=>?_⟩
      .rcases Db he with he|rfl
       .exact Uk.DD e he
       .exact Kv
      .rcases Db hi with hi|rfl
       .exact Uk.X8 i hi
       .exact aDU
     have R:Bg g none (Pt ai 13)=some (I s.2.1):=At.load ⟨_,z,rfl⟩;have l9:Bg g none (Pt ai 9)=some (I far.node):=At.load ⟨_,z,rfl⟩;have t4:At g ai 4 (I (s.2.2:Int)):=⟨_,z,rfl⟩;obtain⟨Tu,U8⟩:∃Tu:Nat,Tu=if s.2.1=far.node then p+1 else s.2.2:=⟨_,rfl⟩
     have e5:put g ai 4 (I (Tu:Int))=if s.2.1=far.node then put g ai 4 (I ((p+1:Nat):Int)) else g:=by
      rw[U8];split;.rfl
      .exact t4.same
     have P:=Ia (k:=4) (v:= I (Tu:Int)) z;have w5:BX (put g ai 4 (I (Tu:Int))) bi a H A t G2 {b2 with AY:=b2.AY.set (k+(n+1)) d,Bb:=b2.Bb.set p {fs[p].c with node:=d.node}}:=w4.Dj λj hj=>Cm λe=>SO (e▸hj);have x5:=x4.trans (PC (k:=4) (v:= I (Tu:Int)));have ai5:ai<(put g ai 4 (I (Tu:Int))).length:=by have:=x5.len;omega
     have t5:Bg (put g ai 4 (I (Tu:Int))) none (Pt ai 13)=some (I s.2.1):=At.load ⟨_,P,rfl⟩;generalize hh5:put g ai 4 (I (Tu:Int))=h5 at*;obtain⟨h6,G6,r7,w6,x6⟩:=iR (x:=s.2.1) (p:=d.node) (bf:=0) w5 bn.ba rm4;rw[Tt (by exact f.kind)] at w6;have W:¬Bw bi G6 ai:=λhg=>by
      rcases x6.Bw ai hg with hg|hg
      .exact SO hg
      .omega
     have O:h6[ai]?=_:=(x6.old ai ai5 SO).trans P;have t6:At h6 ai 13 (I s.2.1):=⟨_,O,rfl⟩;have st7:=Ia (k:=13) (v:= I d.node) O;have w7:BX (put h6 ai 13 (I d.node)) bi a H A t G6 _:=w6.Dj λj hj=>Cm λe=>W (e▸hj);have x7:=(x5.trans (EX x6 ai)).trans (PC (k:=13) (v:= I d.node));have XL:Fh fe.c.node (b2.Bb.set p {fs[p].c with node:=d.node})=Fh fe.c.node s.1.Bb:=by rw[SQ];exact iZ i.Vn hp V hnf
     rw[<-U8] at X;have C:=i.step X.symm w7 hc4 (by simp only;rw[st7,XL];rfl) W x7 (by simp only;rw[XL];exact i.Vn) (by simp only;rw[U8];have:=i.Œ;split<;>omega);have zU:fs[p].v.cells=[fs[p].v]:=AV.cells fs[p].ok;have S:=BQ (Ab:p<9223372036854775807);have Q:BZ cx 408 [Pt bi 3,I x.node,.agg [I d.node,.str fs[p].c.name,fs[p].v]] K (.bool (decide (0<=Hu x.node fs))) g:=r6;rw[Cl.row] at e1 B;by_cases Rn:s.2.1=far.node
     .rw[Ae Rn] at e5;have s5:Cw g 1 (Pt ai 4) (I ((p+1:Nat):Int))=some h5:=by rw[e5];exact t4.store rfl
      simp only[abS,Nat.reduceLeDiff,↓reduceIte,AR,Fc,bo,J.Ad,inc,r2.Ad,Nc,Ef,(Ab:¬(p:Int)<0),l3,e1,l5,B.Ad,BO,r4.Ad,Z.Ad,zU,Q.Ad,R,l9,A0 Rn,S,s5,t5,r7.Ad,t6.store (u:= I d.node) rfl,dec];exact AM.next n rfl ⟨_,_,_,_,C⟩ Ab
     .rw[Ac Rn] at e5;subst e5;simp only[abS,Nat.reduceLeDiff,↓reduceIte,AR,Fc,bo,J.Ad,inc,r2.Ad,Nc,Ef,(Ab:¬(p:Int)<0),l3,e1,l5,B.Ad,BO,r4.Ad,Z.Ad,zU,Q.Ad,R,l9,Rn,r7.Ad,t6.store (u:= I d.node) rfl,dec];exact AM.next n rfl ⟨_,_,_,_,C⟩ Ab
 obtain⟨r,h',hr,rfl,o',c',G',s',e',i'⟩:=Jc.ret;exact⟨h',o',c',G',s',hr,e',i'⟩
end
section
variable{h h':Ah}{bi a ai:Nat}{o c t:Aa}{G G' F:Nat->Prop}{b b':BS}{x:Int}{m:Nat}
variable{nm:Aq}{av:Aa}{l:List A6}{r:List Aa}{sp p:Int}{e:Cl}{at_ mk last:Int}{anc far:Item}
def B7.find(hc:B7 b.Bb c)(w:BX h bi a o c t G b)(rm:B9 b m)(nm:Aq):BZ cx 330 [Pt bi 3,.str nm] h (I (GD nm b.Bb)) h:=by obtain⟨fs,Hh,hv⟩:=hc;have ha:=rm.Bb;have:=aN9 w.vP hv (by rw[<-Hh,Al] at ha;omega) nm;rwa [vR,Hh] at this
def XM(d:h.length<=ai)(x:DE h (MG ai bi G) h' (MG ai bi G')):DE h (Bw bi G) h' (Bw bi G'):=
 ⟨x.len,λi hi hn=>x.old i hi λhg=>by
  rcases hg with rfl|hg
  .omega
  .exact hn hg,λi hi=>by
  rcases x.Bw i (.inr hi) with(rfl|h)|h
  .exact .inr d
  .exact .inl h
  .exact .inr h⟩
def Sy{nm:Aq}{l:List Cu}(h:0<=GD nm l):∃p:Nat,∃hp:p<l.length,GD nm l=(p:Int):=by
 have key:∀r:List Cu,Pv nm r<r.length:=by
  intro r;induction r with
  |nil=>show(-1:Int)<0;decide
  |cons x r ih=>rw[Pv];simp only[Be];split<;>(try split)<;>omega
 have:=key l.reverse;rw[KP] at this;refine⟨(GD nm l).toNat,?_,Ab⟩;unfold GD at h⊢;omega
def vW{l:List Cu}{f:Nat}(hn:((l.map Cu.node).filter λn=>decide (n≠0)).Nodup)(hf:f<l.length)(h0:l[f].node≠0):Fh l[f].node l=(f:Int):=by
 unfold Fh;rw[Ac h0];refine Mp hf (by simp[Xj]) λj hj h=>?_;by_cases he:l[j].node=l[f].node
 .exfalso;have:l=l.take j++l[j]::l.drop (j+1):=by rw[<-AF hj,CF]
  rw[this,BL,Bs,DW,Hm,Ae (by simpa[he] using h0),B5] at hn;have hm:l[f]∈l.take j:=List.mem_take_iff_getElem.2 ⟨f,Ab,rfl⟩;exact hn.2.2 l[f].node (DI.2 ⟨OL hm,by simpa using h0⟩) l[j].node AK he.symm
 .simp[Xj,he]
def i6{v:Dx}:DE h (Am.MG ai bi G) (h.set ai v) (Am.MG ai bi G):=⟨by rw[Br];exact Ag _,λi _ hn=>Ao λe=>hn (.inl e.symm),λ_ h=> .inl h⟩
def aDW(hc:h[ai]?=some (.cells (FL e at_ mk anc far last)))(i:Item):Cw h 4 (Pt ai 5) (.agg i.row)=some (h.set ai (.cells (FL e at_ mk i far last))):=by simp only[Cw,hc];rfl
def aDX(hc:h[ai]?=some (.cells (FL e at_ mk anc far last)))(i:Item):Cw h 4 (Pt ai 9) (.agg i.row)=some (h.set ai (.cells (FL e at_ mk anc i last))):=by simp only[Cw,hc];rfl
def aDY(hc:h[ai]?=some (.cells (FL e at_ mk anc far last))):Bg h (some 3) (Pt ai 0)=some (.agg e.row):=by simp only[Bg,hc];rfl
def QG{A:Ar}{n x:Int}{l:List Int}:BS.CA A n (l++[x])=(BS.CA A n l).FV n x 0:=by unfold BS.CA;rw[List.foldl_append];rfl
def aO8(w:BX h bi a o c t G b)(hc:B7 b.Bb c)(ok:Ez b)(rm:B9 b (m+4*b.AY.length+10))(nm:Aq):
  ∃h' o' c' G',BZ cx 189 [Pt bi 0,.str nm] h (.bool (b.round nm).1) h'/\BX h' bi a o' c' t G' (b.round nm).2/\B7 (b.round nm).2.Bb c'/\DE h (Bw bi G) h' (Bw bi G'):=by
 have ho:=rm.AY;have SQ:=rm.Bb;have U:=hc.find w rm nm;by_cases hf:GD nm b.Bb<0
 .obtain⟨h2,o2,r2,L,x2⟩:=aJC w rm nm;have e:b.round nm=(false,b.Dm nm):=by unfold BS.round;simp only;rw[Ae hf]
  have ea:(b.Dm nm).Bb=b.Bb:=by
   unfold BS.Dm;split;.split<;>rfl
   .rfl
  rw[e];refine⟨h2,o2,c,G,?_,L,by rw[ea];exact hc,x2⟩;rw[Af,Ol,iG];simp only[abS,Nat.reduceLeDiff,↓reduceIte,AR,U.Ad,hf,r2.Ad]
 obtain⟨f,Hn,ef⟩:=Sy (Ji.1 hf);have jQ:¬(f:Int)<0:=Ab;rw[ef] at U;have KE:=hc;obtain⟨fs,Hh,hv⟩:=KE;have aO9:b.Bb.length=fs.length:=by rw[<-Hh,Al]
 have E:fs[f].c=b.Bb[f]:=by simp only[<-Hh,CY]
 have l3:=w.l3;have e1:=AV.BN (k:= .i64) hv (Ab:f<fs.length);generalize hfe:fs[f]=fe at*;have VD:b.Bb.getD f Cu.zero=fe.c:=by rw[AL,Ai Hn];exact E.symm
 have zU:fe.v.cells=[fe.v]:=AV.cells fe.ok;have w1:=w.Iq (u:=[.cells (FL fe (f:Int) (f:Int) Item.zero Item.zero 0)]);have z:(h++[Dx.cells (FL fe (f:Int) (f:Int) Item.zero Item.zero 0)])[h.length]?=some (.cells (FL fe (f:Int) (f:Int) Item.zero Item.zero 0)):=AK;have Y:DE h (Bw bi G) (h++[Dx.cells (FL fe (f:Int) (f:Int) Item.zero Item.zero 0)]) (Bw bi G):=w.C7;have M2:¬Bw bi G h.length:=by
  rintro(e|hg);.exact absurd w.lt Ab
  .exact absurd (w.w.lt hg) (Dr _)
 obtain⟨B,y⟩:∃B,B=h++[Dx.cells (FL fe (f:Int) (f:Int) Item.zero Item.zero 0)]:=⟨_,rfl⟩;rw[<-y] at w1 z Y;have l0:Bg B none (Pt h.length 0)=some (I fe.c.node):=At.load ⟨_,z,rfl⟩;have r2:=Yz w1.sA Ab fe.c.node;have Vi:FL fe (f:Int) (f:Int) Item.zero Item.zero 0=[I fe.c.node,.str fe.c.name,fe.v,I (f:Int),I (f:Int),I 0,I 0,S [],ff,I 0,I 0,S [],ff,I 0]:=rfl;rw[Vi] at y;rw[Cl.row] at e1;by_cases hk:AP (BB fe.c.node) b.AY<0
 .obtain⟨h2,c2,T,L,IS,_,x2⟩:=vV w1 hc rm z M2 Hn ⟨Ab,Ab⟩ ⟨Ab,Ab⟩;have e:b.round nm=(false,{b with Bb:=Bf b.Bb f}):=by unfold BS.round;simp only;rw[Ac hf,ef,AT,VD,Ae hk]
  rw[e];refine⟨h2,o,c2,G,?_,L,IS,XM (Ag _) ((EX Y h.length).trans x2)⟩;rw[Af,Ol,iG];simp only[abS,Nat.reduceLeDiff,↓reduceIte,AR,U.Ad,jQ,l3,e1,<-y,l0,r2.Ad,hk,T.Ad]
 obtain⟨k,W⟩:∃k:Nat,AP (BB fe.c.node) b.AY=(k:Int):=⟨_,(GV (Ji.1 hk)).symm⟩;obtain⟨PQ,hkq,_⟩:=II W;have iM:¬(k:Int)<0:=Ab;rw[W] at r2;by_cases hkz:k=0
 .have e:b.round nm=(false,b):=by unfold BS.round;simp only;rw[Ac hf,ef,AT,VD,Ac hk,Ae (.inl (by rw[W,hkz];rfl))]
  rw[e];refine⟨B,o,c,G,?_,w1,hc,Y⟩;rw[Af,Ol,iG];simp only[abS,Nat.reduceLeDiff,↓reduceIte,AR,U.Ad,jQ,l3,e1,<-y,l0,r2.Ad,iM,A0 (Ab:(k:Int)=0)]
 have i7:¬(k:Int)=0:=Ab;have T:=aNR w1.sA Ab 1 fe.c.node;by_cases Qo:J2 (BB fe.c.node) (JG 1) b.AY.reverse=false
 .have e:b.round nm=(false,b):=by unfold BS.round;simp only;rw[Ac hf,ef,AT,VD,Ac hk,Ae (.inr Qo)]
  rw[e];refine⟨B,o,c,G,?_,w1,hc,Y⟩;rw[Qo] at T;rw[Af,Ol,iG];simp only[abS,Nat.reduceLeDiff,↓reduceIte,AR,U.Ad,jQ,l3,e1,<-y,l0,r2.Ad,iM,i7,T.Ad]
 have aDZ:J2 (BB fe.c.node) (JG 1) b.AY.reverse=true:=by simpa using Qo
 rw[aDZ] at T;have r4:=aNU w1.sA Ab fe.c.node;have hor:¬(AP (BB fe.c.node) b.AY=0\/J2 (BB fe.c.node) (JG 1) b.AY.reverse=false):=by rw[W];rintro(h|h);exact i7 h;exact Qo h
 by_cases hfa:D0 fe.c.node b.AY<0
 .have e:b.round nm=(false,{b with AY:=GS fe.c.node b.AY,Bb:=Bf b.Bb f}):=by unfold BS.round;simp only;rw[Ac hf,ef,AT,VD,Ac hk,Ac hor,Ae hfa]
  obtain⟨u,r5,hu⟩:=aIP w1.sO Ab fe.c.node;have L:=w1.IH hu;have œ:(put B bi 2 u)[h.length]?=_:=(Cm (λe=>M2 (.inl e))).trans z;obtain⟨h3,c3,r6,w3,Nc,_,x3⟩:=vV L hc ((rm.le (m':=0) Ab).sub rfl IG (A4 _) (Ag _)) œ M2 Hn ⟨Ab,Ab⟩ ⟨Ab,Ab⟩;rw[e];refine⟨h3,u,c3,G,?_,w3,Nc,XM (Ag _) ((EX (Y.trans Bq) h.length).trans x3)⟩;rw[Af,Ol,iG];simp only[abS,Nat.reduceLeDiff,↓reduceIte,AR,U.Ad,jQ,l3,e1,<-y,l0,r2.Ad,iM,i7,T.Ad,r4.Ad,hfa,r5.Ad,r6.Ad]
 obtain⟨N,hN,eN⟩:∃N:Nat,k+1+N<b.AY.length/\D0 fe.c.node b.AY=((k+1+N:Nat):Int):=by
  have oB:=hfa;rw[IB,Ac hk,W,AT] at oB⊢;unfold E1 at oB⊢;split at oB;.rename_i j hj;have:=(EH.1 hj).1;rw[Bc] at this;exact⟨j,Ab,Ab⟩
  .omega
 obtain⟨d,zK⟩:∃d,d=b.AY[k+1+N]:=⟨_,rfl⟩;obtain⟨an,é⟩:∃an,an=b.AY[k-1]'(by omega):=⟨_,rfl⟩;have gu:b.AY.getD (k+1+N) Item.zero=d:=by rw[AL,Ai hN,zK];rfl
 have hga:b.AY.getD (k-1) Item.zero=an:=by rw[AL,Ai Ab,é];rfl
 have e:b.round nm=(true,BS.GG fe.c d.node an.node (BS.Kt d.node an.node (k+1+N) k N (b,d.node,f))):=by
  unfold BS.round;simp only
  rw[Ac hf,ef,AT,VD,Ac hk,Ac hor,Ac hfa,W,eN,AT,AT,gu,hga,(Ab:k+1+N-1 -k=N)]
 have zV:=ok.op d (by rw[zK];exact AN _);have aD0:b.AY[k].node=fe.c.node:=by simpa[BB] using hkq
 have ù:b.a.has fe.c.node:=by rw[<-aD0];exact(ok.op _ (AN _)).1
 have ú:b.Bb[f].node≠0:=by rw[<-E];have:=ù.1;omega
 have XL:=vW ok.yW Hn ú;rw[<-E] at XL;have Kv:=rm.DD _ (AN Hn);rw[<-E] at Kv;have UM:=If (n:=k) Ab Ab;have r5:=Xy w1.sA ((k-1:Nat):Int);rw[H9 Ab,<-é] at r5;have r6:=Xy w1.sA ((k+1+N:Nat):Int);rw[H9 hN,<-zK] at r6;have s5:=aDW z an;have Vr:h.length<B.length:=(Ak.1 z).1;have hbn:h.length≠bi:=λe=>M2 (.inl e);have œ:(B.set h.length (.cells (FL fe f f an Item.zero 0)))[h.length]?=_:=AQ Vr;have L:BX (B.set h.length (.cells (FL fe f f an Item.zero 0))) bi a o c t G b:=w1.Dj λj hj=>Ao λe=>M2 (by rw[e];exact hj);have x2:=(EX Y h.length).trans (i6 (v:= .cells (FL fe f f an Item.zero 0)));generalize B.set h.length (.cells (FL fe f f an Item.zero 0))=H2 at*;have s6:=aDX œ d;have Y8:h.length<H2.length:=(Ak.1 œ).1;have Q:(H2.set h.length (.cells (FL fe f f an d 0)))[h.length]?=_:=AQ Y8;have w3:BX (H2.set h.length (.cells (FL fe f f an d 0))) bi a o c t G b:=L.Dj λj hj=>Ao λe=>M2 (by rw[e];exact hj);have x3:=x2.trans (i6 (v:= .cells (FL fe f f an d 0)));generalize H2.set h.length (.cells (FL fe f f an d 0))=H3 at*;have l9:Bg H3 none (Pt h.length 9)=some (I d.node):=At.load ⟨_,Q,rfl⟩;have t13:At H3 h.length 13 (I 0):=⟨_,Q,rfl⟩;have s7:=t13.store (u:= I d.node) rfl;have st4:=Ia (k:=13) (v:= I d.node) Q;have w4:BX (put H3 h.length 13 (I d.node)) bi a o c t G b:=w3.Dj λj hj=>Cm λe=>M2 (by rw[<-e];exact hj);have x4:=x3.trans (PC (k:=13) (v:= I d.node));generalize put H3 h.length 13 (I d.node)=H4 at*;have i0:i5 H4 bi a h.length t G fe an d k N (m+10) (b,d.node,f) N H4 o c G (b,d.node,f):=
  ⟨Ag _,w4,hc,ok,rm.le Ab,zV.1,by rw[XL];exact st4,M2,.refl,by rw[XL];omega,by show f<=1000000000;omega,rfl,Dp,rfl,ù⟩
 have le0:=(Vu (blk:=d.node) (anc:=an.node) (far:=k+1+N) (k:=k) (c:=N) (s:=(b,d.node,f)) ok zV.1).2.2;obtain⟨h5,o5,c5,G5,s',r7,es,i⟩:=aJT i0 Ab W hN;rw[<-es] at le0 e;obtain⟨q,hq,zN,hq0,hq2,hq3⟩:=Hz i.Vn;have D:=i.st;rw[zN] at D;have ķ:=i.Œ;have X7:h.length≠bi:=hbn;have l5:Bg h5 none (Pt h.length 5)=some (I an.node):=At.load ⟨_,D,rfl⟩;obtain⟨u6,r8⟩:=î i.w i.ok.ba i.rm an.node;have w6:=i.w.Iq (u:=u6);have w6':=i.w.C7 (u:=u6);have hl5:h.length<h5.length:=(Ak.1 D).1;have st6:(h5++u6)[h.length]?=_:=(Aj hl5).trans D;have l13:Bg (h5++u6) none (Pt h.length 13)=some (I s'.2.1):=At.load ⟨_,st6,rfl⟩;have hl6:h.length<(h5++u6).length:=by rw[Au];omega
 obtain⟨h7,G7,r9,w7,x7⟩:=iR (x:=s'.2.1) (p:=(s'.1.place an.node).1) (bf:=(s'.1.place an.node).2) w6 i.ok.ba i.rm;have hn7:¬Bw bi G7 h.length:=λhg=>by
  rcases x7.Bw h.length hg with hg|hg
  .exact i.hn hg
  .omega
 have C:h7[h.length]?=_:=(x7.old h.length hl6 i.hn).trans st6;have l3b:Bg h7 (some 3) (Pt h.length 0)=some (.agg fe.row):=aDY C;have l9b:Bg h7 none (Pt h.length 9)=some (I d.node):=At.load ⟨_,C,rfl⟩;obtain⟨r,vX,hr⟩:=od fe h7;have le7:Le s'.1.a (s'.1.a.Ey s'.2.1 (s'.1.place an.node).1 (s'.1.place an.node).2):=I0;have V:=i.ok.Ku (Oj (n:=s'.2.1) (p:=(s'.1.place an.node).1) (b:=(s'.1.place an.node).2) i.ok.ok) le7;have R:=i.rm.Ku (JY (x:=s'.2.1) (p:=(s'.1.place an.node).1) (bf:=(s'.1.place an.node).2));obtain⟨b2,NT⟩:∃b2,b2={s'.1 with a:=s'.1.a.Ey s'.2.1 (s'.1.place an.node).1 (s'.1.place an.node).2}:=⟨_,rfl⟩;have X3:b2.AY=s'.1.AY:=by rw[NT]
 have IS:b2.Bb=s'.1.Bb:=by rw[NT]
 have le2:Le s'.1.a b2.a:=by rw[NT];exact le7
 rw[<-NT] at w7 V R;obtain⟨K,G8,r11,w8,x8⟩:=nu (m:=m+7) w7 V.ba (R.le Ab) hr fe.ok Kv.2 Kv.1 d.node 1;obtain⟨qt,fr,le8⟩:=Px (nm:=fe.c.name) (at_:=fe.c.AA) (p:=d.node) V JQ;have û:=I1 (m:=m+7) (nm:=fe.c.name) (l:=fe.c.AA) (sp:=1) (p:=d.node) (R.le Ab) Kv.2;obtain⟨g,hnw⟩:∃g,g=b2.Gw fe.c.name fe.c.AA 1:=⟨_,rfl⟩;obtain⟨b3,bh⟩:∃b3,b3=b2.EB fe.c.name fe.c.AA 1 d.node:=⟨_,rfl⟩;have ho3:b3.AY=s'.1.AY:=by rw[bh,<-X3];unfold BS.EB;rw[Ae JQ]
 have Nc:b3.Bb=s'.1.Bb:=by rw[bh,<-IS];unfold BS.EB;rw[Ae JQ]
 rw[<-hnw] at r11 fr;rw[<-bh] at w8 qt fr le8 û;have hl7:h.length<h7.length:=(Ak.1 C).1;have hn8:¬Bw bi G8 h.length:=λhg=>by
  rcases x8.Bw h.length hg with hg|hg
  .exact hn7 hg
  .omega
 have P:K[h.length]?=_:=(x8.old h.length hl7 hn7).trans C;have l9c:Bg K none (Pt h.length 9)=some (I d.node):=At.load ⟨_,P,rfl⟩;obtain⟨kv,r12,vO⟩:∃v,BZ cx 306 [Pt a 0,I d.node] K v K/\D2 (b3.a.nd d.node).A8 v:=by obtain⟨n',m',ps,wa⟩:=w8.w.pa;exact ņ wa û.X9 (û.X9.A8 qt.ok d.node)
 have aJ1:(b3.a.nd d.node).A8.length<=1000000000:=û.X9.A8 qt.ok d.node;have Vj:g.row=[I g.node,I g.A9,.str g.name,.bool g.OH]:=rfl;rw[Cl.row] at vX l3b;have Jc:Ev cx 189 [Pt bi 0,.str nm] h λr h'=>r= .bool true/\∃o' c' G',BX h' bi a o' c' t G' (BS.GG fe.c d.node an.node s')/\B7 (BS.GG fe.c d.node an.node s').Bb c'/\DE h (Bw bi G) h' (Bw bi G'):=by
  unfold Ev;rw[Ol,iG];simp only[abS,Nat.reduceLeDiff,↓reduceIte,AR,U.Ad,jQ,l3,e1,<-y,l0,r2.Ad,iM,i7,T.Ad,r4.Ad,eN,(Ab:¬((k+1+N:Nat):Int)<0),UM,r5.Ad,r6.Ad,s5,s6,l9,s7];simp only[abS,r7.Ad,l5,r8.Ad];simp only[abS,l13,r9.Ad];simp only[BJ,l3b,l9b];simp only[abS,↓reduceIte,Fc,vX.Ad,BO,r11.Ad,l9b];simp only[BJ,w8.l0,l9c,r12.Ad,AV.CN vO];have ŕ:DE h (MG h.length bi G) K (MG h.length bi G8):=(((x4.trans i.x).trans (EX w6' h.length)).trans (EX x7 h.length)).trans (EX x8 h.length);refine DS (i:=0) (λj:Nat=>[I (j:Int)]) (λj A=>j<=(b3.a.nd d.node).A8.length/\∃H,BX A bi a o5 c5 t H {b3 with a:=BS.CA b3.a g.node ((b3.a.nd d.node).A8.take j)}/\Ez {b3 with a:=BS.CA b3.a g.node ((b3.a.nd d.node).A8.take j)}/\B9 {b3 with a:=BS.CA b3.a g.node ((b3.a.nd d.node).A8.take j)} (m+7)/\DE K (Bw bi G8) A (Bw bi H)) (λj=>(b3.a.nd d.node).A8.length-j)
   (λj A=>j=(b3.a.nd d.node).A8.length/\∃H,BX A bi a o5 c5 t H {b3 with a:=BS.CA b3.a g.node ((b3.a.nd d.node).A8.take j)}/\Ez {b3 with a:=BS.CA b3.a g.node ((b3.a.nd d.node).A8.take j)}/\B9 {b3 with a:=BS.CA b3.a g.node ((b3.a.nd d.node).A8.take j)} (m+7)/\DE K (Bw bi G8) A (Bw bi H)) 0 rfl ⟨AU _,G8,w8,qt,û,.refl⟩ ?_ ?_
  .rintro j A ⟨hj,H,w9,oC,vY,X⟩;rcases AO j (b3.a.nd d.node).A8.length with hlt|Ef
   .have e9:=AV.BN (k:= .i64) vO hlt;obtain⟨UZ,J,Ŗ,Tv,oD⟩:=iR (x:=(b3.a.nd d.node).A8[j]) (p:=g.node) (bf:=0) w9 oC.ba vY;have lej:=(MR (n:=g.node) (l:=(b3.a.nd d.node).A8.take j) qt.ok).2;rw[Tt (by show((BS.CA b3.a g.node ((b3.a.nd d.node).A8.take j)).nd g.node).kind=4;rw[lej.kind _ fr.has];exact fr.kind)] at Tv;have hs:BS.CA b3.a g.node ((b3.a.nd d.node).A8.take (j+1))=(BS.CA b3.a g.node ((b3.a.nd d.node).A8.take j)).FV g.node (b3.a.nd d.node).A8[j] 0:=by rw[Ay hlt,QG]
    rw[Cp] at e9;simp only[abS,(Ab:(j:Int)<((b3.a.nd d.node).A8.length:Int)),e9,Ŗ.Ad,BQ (Ab:j<9223372036854775807)];refine .next (j+1) rfl ⟨hlt,J,by rw[hs];exact Tv,?_,?_,X.trans oD⟩ Ab
    .have:=oC.Ku (P4 (p:=g.node) (n:=(b3.a.nd d.node).A8[j]) (b:=0) oC.ok) Oi;rw[hs];exact this
    .have:=vY.Ku (JX (p:=g.node) (x:=(b3.a.nd d.node).A8[j]) (bf:=0));rw[hs];exact this
   .simp only[abS,(Ab:¬(j:Int)<((b3.a.nd d.node).A8.length:Int))];exact .HC j rfl ⟨Ab,H,w9,oC,vY,X⟩
  .rintro j A ⟨rfl,H,w9,oC,vY,X⟩;rw[By] at w9 oC vY;have hl8:h.length<K.length:=(Ak.1 P).1;have hn9:¬Bw bi H h.length:=λhg=>by
    rcases X.Bw h.length hg with hg|hg
    .exact hn8 hg
    .omega
   have O:A[h.length]?=_:=(X.old h.length hl8 hn8).trans P;have l9d:Bg A none (Pt h.length 9)=some (I d.node):=At.load ⟨_,O,rfl⟩;have le9:=(MR (n:=g.node) (l:=(b3.a.nd d.node).A8) qt.ok).2;have lef:Le b.a (BS.CA b3.a g.node (b3.a.nd d.node).A8):=((le0.trans le2).trans le8).trans le9;obtain⟨UZ,J,Ŗ,Tv,oD⟩:=iR (x:=g.node) (p:=d.node) (bf:=0) w9 oC.ba vY;rw[Tt (by show((BS.CA b3.a g.node (b3.a.nd d.node).A8).nd d.node).kind=4;rw[lef.kind _ zV.1];exact zV.2.1)] at Tv;have dV:h.length<A.length:=(Ak.1 O).1;have aPf:¬Bw bi J h.length:=λhg=>by
    rcases oD.Bw h.length hg with hg|hg
    .exact hn9 hg
    .omega
   have aJ2:UZ[h.length]?=_:=(oD.old h.length dV hn9).trans O;have l3c:Bg UZ none (Pt h.length 3)=some (I (q:Int)):=At.load ⟨_,aJ2,rfl⟩;have aPg:=vY.Ku (JX (p:=d.node) (x:=g.node) (bf:=0));have ü:B7 ({b3 with a:=(BS.CA b3.a g.node (b3.a.nd d.node).A8).FV d.node g.node 0}:BS).Bb c5:=by simp only;rw[Nc];exact i.hc
   have hqa:=i.rm.Bb;obtain⟨Zb,WB,r14,ý,zW,þ,x11⟩:=vV Tv ü aPg aJ2 aPf (k:=q) (by simp only;rw[Nc];exact hq) ⟨Ab,Ab⟩ ⟨Ab,Ab⟩;simp only at ý zW;have l1:Bg Zb none (Pt h.length 1)=some (.str fe.c.name):=At.load ⟨_,þ,rfl⟩;have l2:Bg Zb none (Pt h.length 2)=some fe.v:=At.load ⟨_,þ,rfl⟩;have l4:Bg Zb none (Pt h.length 4)=some (I (down q (s'.2.2:Int))):=At.load ⟨_,þ,rfl⟩;obtain⟨fs2,aD4,Wb⟩:=zW;have aUI:b3.Bb.length=s'.1.Bb.length:=by rw[Nc]
   have aUJ:fs2.length<=900000000:=by have h1:=Ce List.length aD4;rw[Al,He (by rw[Nc];exact hq)] at h1;omega
   have aO6:=Kv.2.1;obtain⟨Z,e2,he2,r15,OO⟩:=aOj (h:=Zb) (id:=bi) (o:=3) (l:=fs2) ⟨WB,ý.vP,Wb⟩ Ab (e:=⟨{fe.c with node:=g.node},fe.v,fe.ok⟩) (by unfold Yx;simp only;omega) (down q (s'.2.2:Int));have aPh:BZ cx 335 [Pt bi 3,.agg [I g.node,.str fe.c.name,fe.v],I (down q (s'.2.2:Int))] Zb (.tuple []) (put Zb bi 3 Z):=r15;obtain⟨Tu,U8⟩:∃Tu:Nat,Tu=if q<s'.2.2 then s'.2.2 -1 else s'.2.2:=⟨_,rfl⟩
   have og:down q (s'.2.2:Int)=(Tu:Int):=by rw[U8];unfold down;split<;>split<;>omega
   have qu:=ý.Lj (u:=Z) (l:=(Bf b3.Bb q).take (CG Tu (Bf b3.Bb q).length)++{fe.c with node:=g.node}::(Bf b3.Bb q).drop (CG Tu (Bf b3.Bb q).length));have ÿ:B7 ((Bf b3.Bb q).take (CG Tu (Bf b3.Bb q).length)++{fe.c with node:=g.node}::(Bf b3.Bb q).drop (CG Tu (Bf b3.Bb q).length)) Z:=by refine⟨_,?_,OO⟩;rw[og,BL,Bs,Ge,JA,aD4,he2,<-aD4,Al]
   have hob:=i.rm.AY;obtain⟨u2,r16,Jj⟩:=aDD qu.sO (by simp only;rw[ho3];omega) fe.c.node;have M:=qu.IH Jj;have jN:(C2 fe.c.node b3.AY).length<=s'.1.AY.length:=by rw[<-ho3];exact Lg.length_le
   have aPi:(put (put Zb bi 3 Z) bi 2 u2)[h.length]?=_:=(Cm X7).trans ((Cm X7).trans þ);have l9e:Bg (put (put Zb bi 3 Z) bi 2 u2) none (Pt h.length 9)=some (I d.node):=At.load ⟨_,aPi,rfl⟩;have r17:=Yz M.sA Dp d.node;have hli: -1<=AP (BB d.node) (C2 fe.c.node b3.AY)/\AP (BB d.node) (C2 fe.c.node b3.AY)<=(C2 fe.c.node b3.AY).length:=by rcases De (q:=BB d.node) (l:=C2 fe.c.node b3.AY) with⟨h,_⟩|⟨n,h1,h2,_⟩<;>omega
   have add:=Od (a:=AP (BB d.node) (C2 fe.c.node b3.AY)) (b:=1) Ab Ab;obtain⟨u3,r18,ô⟩:=aN3 M.sO Dp g (AP (BB d.node) (C2 fe.c.node b3.AY)+1);have w14:=M.IH ô;simp only[abS,Nat.reduceLeDiff,↓reduceIte,AR,Fc,l9d,Ŗ.Ad,l3c,r14.Ad,l1,l2,zU,l4,aPh.Ad,r16.Ad,l9e,r17.Ad,add,r18.Ad];have hE:BS.GG fe.c d.node an.node s'={b3 with a:=(BS.CA b3.a g.node (b3.a.nd d.node).A8).FV d.node g.node 0,Bb:=(Bf b3.Bb q).take (CG Tu (Bf b3.Bb q).length)++{fe.c with node:=g.node}::(Bf b3.Bb q).drop (CG Tu (Bf b3.Bb q).length),AY:=(C2 fe.c.node b3.AY).take (E2 (AP (BB d.node) (C2 fe.c.node b3.AY)+1) (C2 fe.c.node b3.AY).length)++g::(C2 fe.c.node b3.AY).drop (E2 (AP (BB d.node) (C2 fe.c.node b3.AY)+1) (C2 fe.c.node b3.AY).length)}:=by
    have g_:Fh fe.c.node b3.Bb=(q:Int):=by rw[Nc];exact zN
    unfold BS.GG;simp only
    rw[<-NT,<-bh,<-hnw,g_,AT,<-U8]
   rw[hE];refine⟨_,rfl,rfl,u3,Z,J,w14,ÿ,XM (Ag _) ?_⟩;exact((((ŕ.trans (EX (X.trans oD) h.length)).trans x11).trans (EX Bq h.length)).trans (EX Bq h.length)).trans (EX Bq h.length)
 obtain⟨r,h',hr,rfl,o',c',G',w',KE,x'⟩:=Jc.ret;rw[e];exact⟨h',o',c',G',hr,w',KE,x'⟩
end
section
variable{h h':Ah}{bi a ai:Nat}{o c t:Aa}{G G' F:Nat->Prop}{b b':BS}{x:Int}{m:Nat}
variable{nm:Aq}{av:Aa}{l:List A6}{r:List Aa}{sp p:Int}{e:Cl}{at_ mk last:Int}{anc far:Item}
def zX{blk anc:Int}{far i:Nat}{l:Int}{mk:Nat}:(BS.Fq blk anc far i b l mk).1.AY.length<=b.AY.length:=by
 have h1:(Bf b.AY i).length<=b.AY.length:=Di.length_le;unfold BS.Fq;simp only
 split;.exact h1
 .split;.exact h1
  .have NS:∀nm l p,(b.EB nm l 1 p).AY=b.AY:=λnm l p=>by unfold BS.EB;rw[Ae JQ]
   simp only[NS,Br];exact Ag _
def ZG{blk anc:Int}{far k m:Nat}:∀{c:Nat} {s:BS×Int×Nat},B9 s.1 (m+4*c)->B9 (BS.Kt blk anc far k c s).1 m/\(BS.Kt blk anc far k c s).1.AY.length<=s.1.AY.length
 |0,s,r=>⟨r.le Ab,Ag _⟩
 |c+1,s,r=>by have d:=Ot (blk:=blk) (anc:=anc) (far:=far) (i:=k+(c+1)) (l:=s.2.1) (mk:=s.2.2) (m:=m+4*c) (r.le Ab);have h:=ZG (blk:=blk) (anc:=anc) (far:=far) (k:=k) (m:=m) (c:=c) (s:=BS.Fq blk anc far (k+(c+1)) s.1 s.2.1 s.2.2) d;exact⟨h.1,Bu h.2 zX⟩
def jA{fe:Cu}{blk anc:Int}{s:BS×Int×Nat}(r:B9 s.1 (m+4))(Kv:fe.name.length<=1000/\D1 fe.AA):B9 (BS.GG fe blk anc s) m/\(BS.GG fe blk anc s).AY.length<=s.1.AY.length+1:=by
 unfold BS.GG;simp only
 generalize Zr:s.1.place anc=pb;have j:=r.Ku (JY (x:=s.2.1) (p:=pb.1) (bf:=pb.2));generalize NT:({s.1 with a:=s.1.a.Ey s.2.1 pb.1 pb.2}:BS)=b2 at j;have X3:b2.AY=s.1.AY:=by rw[<-NT]
 have d:=I1 (m:=m+1) (nm:=fe.name) (l:=fe.AA) (sp:=1) (p:=blk) (j.le Ab) Kv.2;have NS:(b2.EB fe.name fe.AA 1 blk).AY=b2.AY:=by unfold BS.EB;rw[Ae JQ]
 have g:(b2.Gw fe.name fe.AA 1).name.length<=1000:=NI Kv.1;generalize b2.EB fe.name fe.AA 1 blk=b3 at*;generalize b2.Gw fe.name fe.AA 1=n at*;have q:=d.Ku ((QD (n:=n.node) (l:=(b3.a.nd blk).A8)).trans (JX (p:=blk) (x:=n.node) (bf:=0)));have Nb:∀{U:Type} (l:List U) (k:Nat) (y:U),(l.take k++y::l.drop k).length=l.length+1/\∀z∈l.take k++y::l.drop k,z∈l\/z=y:=λl k y=>⟨by rw[Au,Be,As,Bc];omega,λz hz=>by
  rcases Av.1 hz with hz|hz
  .exact .inl (Bn hz)
  .rcases AS.1 hz with rfl|hz
   .exact .inr rfl
   .exact .inl (BG hz)⟩
 have hr:=Lg (n:=fe.node) (l:=b3.AY);have hd:=Di (l:=b3.Bb) (k:=(Fh fe.node b3.Bb).toNat);have f:=q.le (m':=m) Ab;refine⟨⟨f.n,f.at_,f.data,?_,?_,f.tm,λe he=>?_,λi hi=>?_⟩,?_⟩;.simp only[(Nb _ _ _).1];have:=hr.length_le;have:=d.AY;omega
 .simp only[(Nb _ _ _).1];have:=hd.length_le;have:=d.Bb;omega
 .rcases(Nb _ _ _).2 e he with he|rfl
  .exact d.DD e (hd.subset he)
  .exact Kv
 .rcases(Nb _ _ _).2 i hi with hi|rfl
  .exact d.X8 i (hr.subset hi)
  .exact g
 .simp only[(Nb _ _ _).1];have h1:=hr.length_le;have h2:=Ce List.length (NS.trans X3);omega
def Ou(r:B9 b (m+4*b.AY.length+10))(nm:Aq):B9 (b.round nm).2 m/\(b.round nm).2.AY.length<=b.AY.length+1:=by
 have d:B9 b m:=r.le Ab;unfold BS.round;simp only
 split
 .have key:(b.Dm nm).a=b.a/\List.Sublist (b.Dm nm).AY b.AY/\(b.Dm nm).Bb=b.Bb/\(b.Dm nm).tm=b.tm:=by
   unfold BS.Dm;split
   .split;.exact⟨rfl,IG.trans Fi,rfl,rfl⟩
    .exact⟨rfl,A4 _,rfl,rfl⟩
   .exact⟨rfl,A4 _,rfl,rfl⟩
  exact⟨d.sub key.1 key.2.1 (by rw[key.2.2.1];exact A4 _) (by rw[key.2.2.2];exact Ag _),Bu key.2.1.length_le (Fj _)⟩
 .rename_i hf;obtain⟨f,Hn,g⟩:=Sy (Ji.1 hf);have VD:b.Bb.getD (GD nm b.Bb).toNat Cu.zero=b.Bb[f]:=by rw[g,AT,AL,Ai Hn];rfl
  have Kv:=r.DD _ (AN Hn);rw[VD];split;.exact⟨d.sub rfl (A4 _) Di (Ag _),Fj _⟩
  .split;.exact⟨d,Fj _⟩
   .split;.exact⟨d.sub rfl IG Di (Ag _),Bu IG.length_le (Fj _)⟩
    .rename_i hk _ hfa;have hlt:(D0 b.Bb[f].node b.AY).toNat-1 -(AP (BB b.Bb[f].node) b.AY).toNat<=b.AY.length:=by
      rw[IB];split;.omega
      .unfold E1;split;.rename_i j hj;have:=(EH.1 hj).1;rw[Bc] at this;omega
       .omega
     have h1:=ZG (blk:=(b.AY.getD (D0 b.Bb[f].node b.AY).toNat Item.zero).node) (anc:=(b.AY.getD ((AP (BB b.Bb[f].node) b.AY).toNat-1) Item.zero).node) (far:=(D0 b.Bb[f].node b.AY).toNat) (k:=(AP (BB b.Bb[f].node) b.AY).toNat) (m:=m+4) (c:=(D0 b.Bb[f].node b.AY).toNat-1 -(AP (BB b.Bb[f].node) b.AY).toNat) (s:=(b,(b.AY.getD (D0 b.Bb[f].node b.AY).toNat Item.zero).node,(GD nm b.Bb).toNat)) (r.le Ab);have h2:=jA (fe:=b.Bb[f]) (blk:=(b.AY.getD (D0 b.Bb[f].node b.AY).toNat Item.zero).node) (anc:=(b.AY.getD ((AP (BB b.Bb[f].node) b.AY).toNat-1) Item.zero).node) h1.1 Kv;exact⟨h2.1,Bu h2.2 (Nat.succ_le_succ h1.2)⟩
def Um:∀{n:Nat} {b:BS} {k:Nat},b.AY.length<=k->B9 b (m+n*(4*(k+n)+10))->B9 (BS.Ee n b nm) m/\(BS.Ee n b nm).AY.length<=k+n
 |0,b,k,hk,r=>⟨r.le Ab,hk⟩
 |n+1,b,k,hk,r=>by
  have e:(n+1)*(4*(k+(n+1))+10)=n*(4*(k+1+n)+10)+(4*(k+(n+1))+10):=by rw[BM,D5,(Ab:k+(n+1)=k+1+n)]
  rw[e] at r;have h1:=Ou (m:=m+n*(4*(k+1+n)+10)) (r.le Ab) nm;unfold BS.Ee;simp only
  split;.have h2:=Um (n:=n) (k:=k+1) Ab h1.1;exact⟨h2.1,Ab⟩
  .exact⟨h1.1.le Ab,Ab⟩
def aPj(w:BX h bi a o c t G b)(hc:B7 b.Bb c)(ok:Ez b)(rm:B9 b (m+8*(4*(b.AY.length+8)+10)))(nm:Aq):
  ∃h' o' c' G',BZ cx 75 [Pt bi 0,.str nm] h (.tuple []) h'/\BX h' bi a o' c' t G' (b.Ih nm)/\B7 (b.Ih nm).Bb c'/\DE h (Bw bi G) h' (Bw bi G'):=by
 have ho:=rm.AY;have C:=aJm w rm;have em:AB (.BI 1) [.str nm]=some (.sl 1 ([nm].map CH)):=D7 (ws:=[nm]) rfl AK;have r2:BZ cx 162 [.agg (Fx b.AY).row,.sl 1 ([nm].map CH)] h (.bool (BD [nm] (Fx b.AY))) h:=nV (ws:=[nm]) Da AK _ h;have H:=hc.at w rm (Fx b.AY).node;have E:b.Ky.Bb=b.Bb:=by unfold BS.Ky;split<;>rfl
 by_cases h1:BD [nm] (Fx b.AY)=true/\Fh (Fx b.AY).node b.Bb<0
 .obtain⟨h2,u,L,q,j⟩:=aDS w rm;have e:b.Ih nm=b.Ky:=by unfold BS.Ih;rw[Ae h1]
  rw[e];refine⟨h2,u,c,G,?_,q,by rw[E];exact hc,j⟩;rw[h1.1] at r2;rw[Af,nD,t75];simp only[abS,Fc,(Ip w).Ad,C.Ad,em,r2.Ad,H.Ad,h1.2,L.Ad]
 have e:b.Ih nm=BS.Ee 8 b nm:=by unfold BS.Ih;rw[Ac h1]
 rw[e];have Jc:Ev cx 75 [Pt bi 0,.str nm] h λr h'=>r= .tuple []/\∃o' c' G',BX h' bi a o' c' t G' (BS.Ee 8 b nm)/\B7 (BS.Ee 8 b nm).Bb c'/\DE h (Bw bi G) h' (Bw bi G'):=by
  unfold Ev;rw[nD,t75];have HC:∀(Q:HB) (k:Fp->List Aa->IT),(∀x vs h1,(x= .exit 0\/x= .ret)->(∃o' c' G',BX h1 bi a o' c' t G' (BS.Ee 8 b nm)/\B7 (BS.Ee 8 b nm).Bb c'/\DE h (Bw bi G) h1 (Bw bi G'))->W cx (k x vs) Q h1)->
    W cx (.loop 5 [I 0] (λd=> .op (.int .lss) [g d 0,I 8] λv14=> .AE v14 (.call 189 [Pt bi 0,.str nm] λB=> .op (.un .not) [B] λv16=> .AE v16 (.ret .ret [g d 0]) (.op (.int .add) [g d 0,I 1] λA=> .ret .normal [A])) (.ret (.exit 0) [g d 0])) k) Q h:=by
   intro Q k hk;refine Bj (λn:Nat=>[I ((8 -n:Nat):Int)]) (λn h1=>n<=8/\∃D v y b1,BX h1 bi a D v t y b1/\B7 b1.Bb v/\Ez b1/\B9 b1 (m+n*(4*(b.AY.length+8)+10))/\b1.AY.length<=b.AY.length+(8 -n)/\BS.Ee 8 b nm=BS.Ee n b1 nm/\DE h (Bw bi G) h1 (Bw bi y)) (λn=>n) 8 rfl ⟨Ag _,o,c,G,b,w,hc,ok,rm,Ab,rfl,.refl⟩ ?_;rintro n h1 ⟨hn,D,v,y,b1,w1,Rm,U4,nZ,Vr,i,z⟩;cases n with
   |zero=>simp only[abS,(A5:¬((8 -0:Nat):Int)<8)];exact hk _ _ _ (.inl rfl) ⟨D,v,y,by rw[i];exact w1,by rw[i];exact Rm,z⟩
   |succ n=>
    have hsp:(n+1)*(4*(b.AY.length+8)+10)=n*(4*(b.AY.length+8)+10)+(4*(b.AY.length+8)+10):=by rw[BM,D5]
    rw[hsp] at nZ;have zY:B9 b1 (m+n*(4*(b.AY.length+8)+10)+4*b1.AY.length+10):=nZ.le Ab;obtain⟨h2,u,J,K,s,q,IS,j⟩:=aO8 w1 Rm U4 zY nm;obtain⟨Uk,Y8⟩:=Ou zY nm;have nv:=(Xp (nm:=nm) U4).1;have hlt:((8 -(n+1):Nat):Int)<8:=Ab;have inc:AB (.int .add) [I ((8 -(n+1):Nat):Int),I 1]=some (I ((8 -n:Nat):Int)):=by have:=BQ (n:=8 -(n+1)) Ab;rwa [(Ab:8 -(n+1)+1=8 -n)] at this
    have f:BS.Ee (n+1) b1 nm=if(b1.round nm).1 then BS.Ee n (b1.round nm).2 nm else(b1.round nm).2:=rfl
    cases hr:(b1.round nm).1 with
    |true=>rw[hr] at s f;simp only[abS,hlt,s.Ad,inc];exact AM.next n rfl ⟨Ab,u,J,K,_,q,IS,nv,Uk,Ab,i.trans f,z.trans j⟩ Ab
    |false=>rw[hr] at s f;simp only[abS,hlt,s.Ad];exact hk _ _ _ (.inr rfl) ⟨u,J,K,by rw[i,f];exact q,by rw[i,f];exact IS,z.trans j⟩
  by_cases h2:BD [nm] (Fx b.AY)=true
  .have M:¬Fh (Fx b.AY).node b.Bb<0:=λh=>h1 ⟨h2,h⟩;rw[h2] at r2;simp only[abS,Fc,(Ip w).Ad,C.Ad,em,r2.Ad,H.Ad,M];refine HC _ _ ?_;rintro x vs h1 (rfl|rfl) ⟨o',c',G',a1,a2,a3⟩;.simp only[BJ];exact⟨_,rfl,rfl,o',c',G',a1,a2,a3⟩
   .simp only[BJ];exact⟨_,rfl,rfl,o',c',G',a1,a2,a3⟩
  .have h2:BD [nm] (Fx b.AY)=false:=by simpa using h2
   rw[h2] at r2;simp only[abS,Fc,(Ip w).Ad,C.Ad,em,r2.Ad];refine HC _ _ ?_;rintro x vs h1 (rfl|rfl) ⟨o',c',G',a1,a2,a3⟩;.simp only[BJ];exact⟨_,rfl,rfl,o',c',G',a1,a2,a3⟩
   .simp only[BJ];exact⟨_,rfl,rfl,o',c',G',a1,a2,a3⟩
 obtain⟨r,h',hr,rfl,o',c',G',w',KE,x'⟩:=Jc.ret;exact⟨h',o',c',G',hr,w',KE,x'⟩
end
structure jB where
 k:Int
 name:Aq
 AA:List A6
 A9:Int
 a:Int
 b:Bool
 s:Aq
 r:Int
 n:Int
def NL(h:Int):Item:=⟨h,0,[],false⟩
def XN(b:BS)(q:jB):BS×Item:=
 if q.k=1 then(b.Fa q.name q.AA 1,NL (b.a.len+1))
 else if q.k=2 then(b.Fa q.name q.AA q.A9,NL (b.Pw q.A9))
 else if q.k=3 then(b.Kh q.name q.AA,NL (b.a.len+1))
 else if q.k=4 then(b.Sg q.r,Item.zero)
 else if q.k=5 then(b.KY q.s q.a,Item.zero)
 else if q.k=6 then(b.P5 q.name q.AA q.n,Item.zero)
 else if q.k=7 then(b.JJ,Item.zero)
 else if q.k=8 then(b.DT,Item.zero)
 else if q.k=9 then(b.Dm q.name,Item.zero)
 else if q.k=10 then(b.Ih q.name,Item.zero)
 else if q.k=11 then(b.IF,Item.zero)
 else if q.k=12 then(b.Hw q.AA q.a,Item.zero)
 else if q.k=13 then(b.Du,Item.zero)
 else if q.k=14 then({b with stop:=true},Item.zero)
 else if q.k=15 then({b with EW:=q.b},Item.zero)
 else if q.k=16 then({b with tm:=b.tm++[q.n]},Item.zero)
 else if q.k=17 then({b with Bb:=b.Bb++[Cu.zero]},Item.zero)
 else if q.k=18 then(b.Ky,b.gZ)
 else if q.k=19 then({b with head:=q.a},Item.zero)
 else if q.k=20 then({b with mode:=q.n},Item.zero)
 else if q.k=21 then({b with Bb:=Gv b.Bb},Item.zero)
 else if q.k=22 then({b with AY:=DR C0 (BD [q.name]) b.AY},Item.zero)
 else if q.k=23 then({b with NF:=q.a},Item.zero)
 else if q.k=24 then(b.EB q.name q.AA q.A9 q.a,b.Gw q.name q.AA q.A9)
 else(b,Item.zero)
structure zZ(q:jB):Prop where
 name:q.name.length<=1000
 AA:D1 q.AA
 s:q.s.length<=1000
 r: -2147483648<=q.r/\q.r<=2147483647
section
variable{b:BS}{q:jB}{m j:Nat}
def aD5(o:Ez b){nm:Aq}{l:List A6}{sp p:Int}:Ez (b.EB nm l sp p):=by
 by_cases hs:BS.HX sp;.exact(Px o hs).1
 .unfold BS.EB;rw[Ac hs];exact o
def Ā(o:Ez b):Ez {b with Bb:=b.Bb++[Cu.zero]}:=by have:=o.aA7 (e:=Cu.zero) (k:=b.Bb.length) (.inl rfl) (.inl rfl);rw[By,Ep] at this;exact this
def ED{U:Type}{P:U->Prop}{c:Prop}[Decidable c]{x y:U}(h1:P x)(h2:P y):P (if c then x else y):=by split;exact h1;exact h2
def XO{P:BS×Item->Prop}(h1:P (b.Fa q.name q.AA 1,NL (b.a.len+1)))(h2:P (b.Fa q.name q.AA q.A9,NL (b.Pw q.A9)))(A:P (b.Kh q.name q.AA,NL (b.a.len+1)))(z:P (b.Sg q.r,Item.zero))(y:P (b.KY q.s q.a,Item.zero))(x:P (b.P5 q.name q.AA q.n,Item.zero))(w:P (b.JJ,Item.zero))(v:P (b.DT,Item.zero))(u:P (b.Dm q.name,Item.zero))(UZ:P (b.Ih q.name,Item.zero))(Zb:P (b.IF,Item.zero))(ŗ:P (b.Hw q.AA q.a,Item.zero))(t:P (b.Du,Item.zero))(p:P ({b with stop:=true},Item.zero))(o:P ({b with EW:=q.b},Item.zero))(l:P ({b with tm:=b.tm++[q.n]},Item.zero))(k:P ({b with Bb:=b.Bb++[Cu.zero]},Item.zero))(i:P (b.Ky,b.gZ))(h:P ({b with head:=q.a},Item.zero))(g:P ({b with mode:=q.n},Item.zero))(f:P ({b with Bb:=Gv b.Bb},Item.zero))(e:P ({b with AY:=DR C0 (BD [q.name]) b.AY},Item.zero))(d:P ({b with NF:=q.a},Item.zero))(c:P (b.EB q.name q.AA q.A9 q.a,b.Gw q.name q.AA q.A9))(h0:P (b,Item.zero)):P (XN b q):=by unfold XN;exact ED h1 (ED h2 (ED A (ED z (ED y (ED x (ED w (ED v (ED u (ED UZ (ED Zb (ED ŗ (ED t (ED p (ED o (ED l (ED k (ED i (ED h (ED g (ED f (ED e (ED d (ED c (h0))))))))))))))))))))))))
def aD6(o:Ez b):Ez (XN b q).1:=XO (P:=λr=>Ez r.1) (Rb (nm:=q.name) (at_:=q.AA) (sp:=1) o) (Rb o) (yZ o) (qY o) (m6 o) (m7 o) (zB o) (m8 o) (Zq o) (zD o) (Sk o) (jx o) (Xn o) (o.of_eq rfl rfl rfl rfl) (o.of_eq rfl rfl rfl rfl) (o.of_eq rfl rfl rfl rfl) (Ā o) (jy o) (o.of_eq rfl rfl rfl rfl) (o.of_eq rfl rfl rfl rfl) (o.iC (DN _ _)) (o.UP Fi) (o.of_eq rfl rfl rfl rfl) (aD5 o) o
def B9.vZ{k m:Nat}{h:Int}{x:EV}(r:B9 b (m+k))(h1:x.AA.length<=(b.a.nd h).AA.length+k\/x.AA.length<=1000)(h2:x.data.length<=(b.a.nd h).data.length+k\/x.data.length<=100000):B9 {b with a:=b.a.set h x} m:=by
 have hn:(b.a.set h x).n.length=b.a.n.length:=by have:=uv (A:=b.a) (h:=h) (x:=x);unfold Ar.len at this;omega
 have c:=r.le (m':=m) Ab;have rn:=r.n;refine⟨by simp only;rw[hn];exact c.n,λy=>?_,λy=>?_,c.AY,c.Bb,c.tm,c.DD,c.X8⟩
 .simp only;rw[JI];split;.rename_i d;have:=r.at_ h;omega
  .exact c.at_ y
 .simp only;rw[JI];split;.have:=r.data h;omega
  .exact c.data y
def Un{m:Nat}{s:Aq}{p bf:Int}(r:B9 b (m+5))(hs:s.length<=4):B9 {b with a:=BS.Ly b.a s p bf} m:=by
 have Nl:∀d,B9 {b with a:=(b.a.add {kind:=5,CM:=d,data:=s}).Ey (b.a.len+1) p bf} m:=λd=>((r.le (m':=m+1) Ab).FN (NH (AU _) Dp)).Ku JY
 have c:=r.le (m':=m) Ab;unfold BS.Ly;split
 .split
  .split;.exact B9.vZ (k:=5) r (.inl Dp) (.inl (by simp only[Au];omega))
   .exact Nl _
  .exact Nl _
 .exact c
def PD{m:Nat}{s:Aq}{p bf:Int}(r:B9 b (m+5))(hs:s.length<=100000):B9 {b with a:=BS.E3 b.a s p bf} m:=by
 unfold BS.E3;split;.exact((r.le (m':=m+1) Ab).FN (NH (AU _) hs)).Ku JY
 .exact r.le Ab
end
section
variable{b:BS}{q:jB}{m j:Nat}{nm:Aq}
def oE{l:List A6}{x:Int}(r:B9 b (m+1000))(hl:l.length<=1000):B9 (b.Hw l x) m:=by
 unfold BS.Hw;split;.refine B9.vZ (k:=1000) r (.inl ?_) (.inl Dp);have:=P3 (l:=(b.a.nd x).AA++BS.plain l);rw[Au,BS.plain,Al] at this;unfold BS.plain;simp only;omega
 .exact r.le Ab
def ZH:∀{l:List Cu} {b:BS},(BS.Jp l b).2.AY.length<=b.AY.length+l.length/\(BS.Jp l b).2.Bb=b.Bb/\(BS.Jp l b).1.length=l.length/\∀e∈(BS.Jp l b).1,∃a∈l,e.name=a.name/\e.AA=a.AA
 |[],b=>⟨by simp[BS.Jp],rfl,rfl,λe he=>by simp[BS.Jp] at he⟩
 |e::l,b=>by
  obtain⟨h1,h2,g,f⟩:=ZH (l:=l) (b:=b.Fa e.name e.AA 1);have i:(b.Fa e.name e.AA 1).AY.length<=b.AY.length+1:=by
   unfold BS.Fa;rw[Ae JQ];simp only
   have:(b.EB e.name e.AA 1 (b.place 0).1).AY=b.AY:=by unfold BS.EB;rw[Ae JQ]
   rw[Au,Bp];first|(rw[this];exact Ag _)|exact Ag _
  rw[BS.Jp];refine⟨by simp only[Be];omega,by simp only;rw[h2,Gx],by simp only[Be,g],λh he=>?_⟩;rcases AS.1 he with rfl|he
  .exact⟨e,AK,rfl,rfl⟩
  .obtain⟨a,d,c⟩:=f h he;exact⟨a,by simp[d],c⟩
def dC(r:B9 b (m+4*b.Bb.length)):B9 b.DT m/\b.DT.AY.length<=b.AY.length+b.Bb.length/\b.DT.Bb.length=b.Bb.length:=by
 have hk:=Sw (b:=b);have a:=ZC (l:=b.Bb.drop b.Lf) (b:=b) (m:=m) (r.le (by rw[Bc];omega)) λe he=>r.DD e (BG he);obtain⟨h1,h2,c,h⟩:=ZH (l:=b.Bb.drop b.Lf) (b:=b);rw[Bc] at h1 c;have hl:b.DT.Bb.length=b.Bb.length:=by unfold BS.DT;simp only[Au,As,c];omega
 refine⟨⟨a.n,a.at_,a.data,a.AY,?_,a.tm,λe he=>?_,a.X8⟩,by unfold BS.DT;simp only;omega,hl⟩;.rw[hl];have:=r.Bb;omega
 .unfold BS.DT at he;simp only at he;rcases Av.1 he with he|he
  .exact r.DD e (Bn he)
  .obtain⟨i,g,f,d⟩:=h e he;rw[f,d];exact r.DD i (BG g)
def jC{blk anc:Int}{far k:Nat}:∀{c:Nat} {s:BS×Int×Nat},(BS.Kt blk anc far k c s).1.Bb.length<=s.1.Bb.length
 |0,s=>Ag _
 |c+1,s=>by
  refine Bu (jC (c:=c)) ?_;unfold BS.Fq;simp only
  split;.exact Ag _
  .split;.exact Di.length_le
   .have:∀nm l p,(s.1.EB nm l 1 p).Bb=s.1.Bb:=λnm l p=>by unfold BS.EB;rw[Ae JQ]
    simp only[this,Br];exact Ag _
def aa:(b.round nm).2.Bb.length<=b.Bb.length+1:=by
 unfold BS.round;simp only
 split
 .have:(b.Dm nm).Bb=b.Bb:=by
   unfold BS.Dm;split;.split<;>rfl
   .rfl
  rw[this];omega
 .split;.exact Bu Di.length_le (Fj _)
  .split;.exact Fj _
   .split;.exact Bu Di.length_le (Fj _)
    .unfold BS.GG;simp only
     generalize hs:BS.Kt _ _ _ _ _ _=s;have h1:s.1.Bb.length<=b.Bb.length:=by rw[<-hs];exact jC
     have:∀(b2:BS) nm l p,(b2.EB nm l 1 p).Bb=b2.Bb:=λb2 nm l p=>by unfold BS.EB;rw[Ae JQ]
     simp only[this,Au,Be,As,Bc];have h2:∀k,(Bf s.1.Bb k).length<=s.1.Bb.length:=λk=>Di.length_le;refine Bu (m:=(Bf s.1.Bb (Fh (b.Bb.getD (GD nm b.Bb).toNat Cu.zero).node s.1.Bb).toNat).length+1) ?_ (Nat.succ_le_succ (Bu (h2 _) h1));omega
def XP:∀{n:Nat} {b:BS},(BS.Ee n b nm).Bb.length<=b.Bb.length+n
 |0,b=>Ag _
 |n+1,b=>by
  have h:=aa (b:=b) (nm:=nm);unfold BS.Ee;simp only
  split;.have:=XP (n:=n) (b:=(b.round nm).2);omega
  .omega
structure Sz(b:BS)(j:Nat):Prop where
 rm:B9 b (5000000*j)
 AY:b.AY.length+1200*j<=125000
 Bb:b.Bb.length+10*j<=1100
def Sz.of{b':BS}(h:Sz b (j+1))(r:B9 b' (5000000*j))(h1:b'.AY.length<=b.AY.length+1200)(h2:b'.Bb.length<=b.Bb.length+10):Sz b' j:=⟨r,by have:=h.AY;omega,by have:=h.Bb;omega⟩
def Sz.XQ{k:Nat}(h:Sz b (j+1))(hk:k<=5000000:=by omega):B9 b (5000000*j+k):=h.rm.le Ab
def Sz.OS{b':BS}(h:Sz b (j+1))(ha:b'.a=b.a)(ho:b'.AY.Sublist b.AY)(hc:b'.Bb.Sublist b.Bb)(ht:b'.tm.length<=b.tm.length):Sz b' j:=
 h.of ((h.rm.le Ab).sub ha ho hc ht) (by have:=ho.length_le;omega) (by have:=hc.length_le;omega)
def Sz.Ky(h:Sz b (j+1)):Sz b.Ky j:=by
 unfold BS.Ky;split;.exact h.OS rfl (A4 _) (A4 _) (Ag _)
 .exact h.OS rfl (DN _ _) (A4 _) (Ag _)
def SA{l:List A6}{sp:Int}:(b.Fa nm l sp).AY.length<=b.AY.length+1200:=by
 unfold BS.Fa;split
 .rename_i hs;have:(b.EB nm l sp (b.place 0).1).AY=b.AY:=by unfold BS.EB;rw[Ae hs]
  have:=Ce List.length this;simp only[Au,Bp];omega
 .omega
def oF{l:List A6}:(b.Kh nm l).Bb.length<=b.Bb.length+10:=by
 unfold BS.Kh;simp only
 obtain⟨l',h1,h2⟩:=Xm (l:=(b.Fa nm l 1).Bb) (e:=⟨b.a.len+1,nm,l⟩);rw[h2,Au,Bp];have:=h1.length_le;rw[Gx] at this;omega
def aD7(h:Sz b (j+1))(hq:zZ q):Sz (XN b q).1 j:=XO (P:=λr=>Sz r.1 j)
 (h.of (Mm (sp:=1) h.XQ hq.AA hq.name) SA (by rw[Gx];omega))
 (h.of (Mm h.XQ hq.AA hq.name) SA (by rw[Gx];omega))
 (h.of (iF h.XQ hq.AA hq.name) SA oF)
 (h.of (Un h.XQ (Ss _)) (F8 _ _) (F8 _ _))
 (by
  dsimp only;unfold BS.KY;split;.exact h.of (PD h.XQ (by have:=hq.s;omega)) (F8 _ _) (F8 _ _)
  .exact h.of (PD h.XQ (by have:=hq.s;omega)) (F8 _ _) (F8 _ _))
 (h.of ((Mm h.XQ hq.AA hq.name).eq rfl rfl rfl rfl) SA (by show(b.Fa q.name q.AA 1).Bb.length<=_;rw[Gx];omega))
 (by
  dsimp only;unfold BS.JJ;split;.exact h.OS rfl (Fi.trans Fi) (A4 _) (Ag _)
  .exact h.OS rfl (A4 _) (A4 _) (Ag _))
 (by dsimp only;have h1:=dC (m:=5000000*j) (h.rm.le (by have:=h.Bb;omega));exact h.of h1.1 (by have:=h.Bb;have:=h1.2.1;omega) (by rw[h1.2.2];omega))
 (by
  dsimp only;unfold BS.Dm;split
  .split;.exact h.OS rfl (IG.trans Fi) (A4 _) (Ag _)
   .exact h.OS rfl (A4 _) (A4 _) (Ag _)
  .exact h.OS rfl (A4 _) (A4 _) (Ag _))
 (by
  dsimp only;unfold BS.Ih;split;.exact h.Ky
  .have h1:=Um (n:=8) (b:=b) (k:=b.AY.length) (nm:=q.name) (m:=5000000*j) (Ag _) (h.rm.le (by have:=h.AY;omega));exact h.of h1.1 (by have:=h1.2;omega) (by have:=XP (n:=8) (b:=b) (nm:=q.name);omega))
 (h.OS rfl (A4 _) (A4 _) (Ag _))
 (by
  dsimp only;have e:(b.Hw q.AA q.a).AY=b.AY/\(b.Hw q.AA q.a).Bb=b.Bb:=by unfold BS.Hw;split<;>exact⟨rfl,rfl⟩
  exact h.of (oE (m:=5000000*j) (h.rm.le Ab) hq.AA.1) (by rw[e.1];omega) (by rw[e.2];omega))
 (by
  dsimp only;unfold BS.Du;split;.exact h.OS rfl (A4 _) (A4 _) (Ag _)
  .exact h.OS rfl (show(DR C0 (BD [Bd]) (DR CO C0 b.AY)).Sublist b.AY from Fi.trans Fi) (DN _ _) (AK:b.tm.dropLast.length<=b.tm.length))
 (h.OS rfl (A4 _) (A4 _) (Ag _))
 (h.OS rfl (A4 _) (A4 _) (Ag _))
 (by dsimp only;have r:=h.rm.le (m':=5000000*j+1) Ab;have c:=r.le (m':=5000000*j) Ab;exact h.of ⟨c.n,c.at_,c.data,c.AY,c.Bb,by have:=r.tm;simp only[Au,Bp];omega,c.DD,c.X8⟩ (F8 _ _) (F8 _ _))
 (by
  dsimp only;refine h.of ((h.rm.le (m':=5000000*j+1) Ab).ľ (e:=Cu.zero) AK (λe he=>?_) ⟨A5,A5,λa ha=>by cases ha⟩) (F8 _ _) AK;rcases Av.1 he with he|he
  .exact .inl he
  .exact .inr (by simpa using he))
 (h.Ky)
 (h.OS rfl (A4 _) (A4 _) (Ag _))
 (h.OS rfl (A4 _) (A4 _) (Ag _))
 (h.OS rfl (A4 _) (DN _ _) (Ag _))
 (h.OS rfl Fi (A4 _) (Ag _))
 (h.OS rfl (A4 _) (A4 _) (Ag _))
 (by
  dsimp only;have e:(b.EB q.name q.AA q.A9 q.a).AY=b.AY/\(b.EB q.name q.AA q.A9 q.a).Bb=b.Bb:=by unfold BS.EB;split<;>exact⟨rfl,rfl⟩
  exact h.of (I1 (m:=5000000*j) (h.rm.le Ab) hq.AA) (by rw[e.1];omega) (by rw[e.2];omega))
 (h.OS rfl (A4 _) (A4 _) (Ag _))
end
def LC(q:jB)(av:Aa):List Aa:=[I q.k,.str q.name,av,I q.A9,I q.a,.bool q.b,.str q.s,.int .i32 q.r,I q.n]
section
variable{h h':Ah}{bi a:Nat}{o c t:Aa}{G G' F:Nat->Prop}{b:BS}{x:Int}{m j:Nat}{q:jB}
variable{nm:Aq}{av:Aa}{l:List A6}{r:List Aa}{sp p:Int}
def U9(hv:Bz q.AA av)(hl:q.AA.length<=1000)(h:Ah):∃r ZI,BZ cx 66 [.agg (LC q av)] h (.agg r) h/\Oo q.name ZI r/\Bz q.AA ZI:=by have dT:AX=140737488355328:=rfl;obtain⟨u,e,hu⟩:=AV.Gu (b:=40) hv Ab;have hc:u.cells=[u]:=AV.cells hu;refine⟨_,u,?_,⟨I 2,ff,S [],ff,S [],ff,ff,ff,S [],.int .i32 0,rfl⟩,hu⟩;rw[Af,aBE,t66,LC];simp only[abS,Nat.reduceLeDiff,↓reduceIte,AR,e,hc]
def aJ5(i:Item)(h:Ah):BZ cx 81 [.agg i.row] h (.agg i.row) h:=by rw[Af,aBF,t81,Item.row];simp only[abS,Nat.reduceLeDiff,↓reduceIte,AR]
def aPl(w:BX h bi a o c t G b)(hc:B7 b.Bb c)(ok:Ez b)(sz:Sz b (j+1))(hq:zZ q)(hv:Bz q.AA av):
  ∃h' o' c' t' G',BZ cx 24 [Pt bi 0,.agg (LC q av)] h (.agg (XN b q).2.row) h'/\BX h' bi a o' c' t' G' (XN b q).1/\B7 (XN b q).1.Bb c'/\DE h (Bw bi G) h' (Bw bi G'):=by
 unfold XN LC;by_cases d:q.k=1;.rw[Ae d];dsimp only;obtain⟨r,ZI,D,hr,DG⟩:=U9 (q:=q) hv hq.AA.1 h;rw[LC] at D;obtain⟨h',o',G',r2,w',x'⟩:=ð (m:=5000000*j) w ok sz.XQ hr DG hq.AA hq.name;refine⟨h',o',c,t,G',?_,w',by rw[Gx];exact hc,x'⟩;rw[Af,FH,Uh];simp only[abS,Nat.reduceLeDiff,↓reduceIte,AR,A0 d,D.Ad,r2.Ad];try rfl
 rw[Ac d];by_cases f:q.k=2;.rw[Ae f];dsimp only;obtain⟨r,ZI,D,hr,DG⟩:=U9 (q:=q) hv hq.AA.1 h;rw[LC] at D;obtain⟨h',o',G',r2,w',x'⟩:=aJs (m:=5000000*j) w ok sz.XQ hr DG hq.AA hq.name q.A9;refine⟨h',o',c,t,G',?_,w',by rw[Gx];exact hc,x'⟩;rw[Af,FH,Uh];simp only[abS,Nat.reduceLeDiff,↓reduceIte,AR,d,A0 f,D.Ad,r2.Ad];try rfl
 rw[Ac f];by_cases g:q.k=3;.rw[Ae g];dsimp only;obtain⟨r,ZI,D,hr,DG⟩:=U9 (q:=q) hv hq.AA.1 h;rw[LC] at D;obtain⟨h',o',c',G',r2,w',KE,x'⟩:=aOL (m:=5000000*j) w hc ok sz.XQ hr DG hq.AA hq.name;refine⟨h',o',c',t,G',?_,w',KE,x'⟩;rw[Af,FH,Uh];simp only[abS,Nat.reduceLeDiff,↓reduceIte,AR,d,f,A0 g,D.Ad,r2.Ad];try rfl
 rw[Ac g];by_cases i:q.k=4;.rw[Ae i];dsimp only;obtain⟨h',G',r2,w',x'⟩:=aJA (m:=5000000*j) w ok sz.XQ q.r hq.r;refine⟨h',o,c,t,G',?_,w',hc,x'⟩;rw[Af,FH,Uh];simp only[abS,↓reduceIte,AR,d,f,g,A0 i,r2.Ad];try rfl
 rw[Ac i];by_cases y:q.k=5;.rw[Ae y];dsimp only;obtain⟨h',G',r2,w',x'⟩:=aOP (m:=5000000*j) w ok sz.XQ q.s (by have:=hq.s;omega) q.a;refine⟨h',o,c,t,G',?_,w',hc,x'⟩;rw[Af,FH,Uh];simp only[abS,↓reduceIte,AR,d,f,g,i,A0 y,r2.Ad];try rfl
 rw[Ac y];by_cases z:q.k=6;.rw[Ae z];dsimp only;obtain⟨r,ZI,D,hr,DG⟩:=U9 (q:=q) hv hq.AA.1 h;rw[LC] at D;obtain⟨h',o',G',r2,w',x'⟩:=aOQ (m:=5000000*j) w ok sz.XQ hr DG hq.AA hq.name q.n;refine⟨h',o',c,t,G',?_,w',by show B7 (b.Fa q.name q.AA 1).Bb c;rw[Gx];exact hc,x'⟩;rw[Af,FH,Uh];simp only[abS,↓reduceIte,AR,d,f,g,i,y,A0 z,D.Ad,r2.Ad];try rfl
 rw[Ac z];by_cases A:q.k=7;.rw[Ae A];dsimp only;obtain⟨h',o',r2,w',x'⟩:=aOR w sz.rm;refine⟨h',o',c,t,G,?_,w',by have e:b.JJ.Bb=b.Bb:=(by unfold BS.JJ;split<;>rfl);rw[e];exact hc,x'⟩;rw[Af,FH,Uh];simp only[abS,↓reduceIte,AR,d,f,g,i,y,z,A0 A,r2.Ad];try rfl
 rw[Ac A];by_cases B:q.k=8;.rw[Ae B];dsimp only;obtain⟨h',o',c',G',r2,w',KE,x'⟩:=aOX (m:=5000000*j) w hc ok (sz.rm.le (by have:=sz.Bb;omega));refine⟨h',o',c',t,G',?_,w',KE,x'⟩;rw[Af,FH,Uh];simp only[abS,↓reduceIte,AR,d,f,g,i,y,z,A,A0 B,r2.Ad];try rfl
 rw[Ac B];by_cases C:q.k=9;.rw[Ae C];dsimp only;obtain⟨h',o',r2,w',x'⟩:=aJC w sz.rm q.name;refine⟨h',o',c,t,G,?_,w',by have e:(b.Dm q.name).Bb=b.Bb:=(by unfold BS.Dm;split;split<;>rfl;rfl);rw[e];exact hc,x'⟩;rw[Af,FH,Uh];simp only[abS,↓reduceIte,AR,d,f,g,i,y,z,A,B,A0 C,r2.Ad];try rfl
 rw[Ac C];by_cases OT:q.k=10;.rw[Ae OT];dsimp only;obtain⟨h',o',c',G',r2,w',KE,x'⟩:=aPj (m:=5000000*j) w hc ok (sz.rm.le (by have:=sz.AY;omega)) q.name;refine⟨h',o',c',t,G',?_,w',KE,x'⟩;rw[Af,FH,Uh];simp only[abS,↓reduceIte,AR,d,f,g,i,y,z,A,B,C,A0 OT,r2.Ad];try rfl
 rw[Ac OT];by_cases PE:q.k=11;.rw[Ae PE];dsimp only;obtain⟨h',r2,w',x'⟩:=ó w sz.rm;refine⟨h',o,c,t,G,?_,w',hc,x'⟩;rw[Af,FH,Uh];simp only[abS,↓reduceIte,AR,d,f,g,i,y,z,A,B,C,OT,A0 PE,r2.Ad];try rfl
 rw[Ac PE];by_cases Qi:q.k=12;.rw[Ae Qi];dsimp only;obtain⟨r,ZI,D,hr,DG⟩:=U9 (q:=q) hv hq.AA.1 h;rw[LC] at D;obtain⟨h',G',r2,w',x'⟩:=aOS (m:=5000000*j) w ok sz.XQ hr DG hq.AA q.a;refine⟨h',o,c,t,G',?_,w',by have e:(b.Hw q.AA q.a).Bb=b.Bb:=(by unfold BS.Hw;split<;>rfl);rw[e];exact hc,x'⟩;rw[Af,FH,Uh];simp only[abS,↓reduceIte,AR,d,f,g,i,y,z,A,B,C,OT,PE,A0 Qi,D.Ad,r2.Ad];try rfl
 rw[Ac Qi];by_cases Rg:q.k=13;.rw[Ae Rg];dsimp only;obtain⟨h',o',c',t',r2,w',KE,x'⟩:=aOT w hc sz.rm;refine⟨h',o',c',t',G,?_,w',KE,x'⟩;rw[Af,FH,Uh];simp only[abS,↓reduceIte,AR,d,f,g,i,y,z,A,B,C,OT,PE,Qi,A0 Rg,r2.Ad];try rfl
 rw[Ac Rg];by_cases SB:q.k=14;.rw[Ae SB];dsimp only;obtain⟨h',r2,w',x'⟩:=aOV w;refine⟨h',o,c,t,G,?_,w',hc,x'⟩;rw[Af,FH,Uh];simp only[abS,↓reduceIte,AR,d,f,g,i,y,z,A,B,C,OT,PE,Qi,Rg,A0 SB,r2.Ad];try rfl
 rw[Ac SB];by_cases Tw:q.k=15;.rw[Ae Tw];dsimp only;have w':BX (put h bi 15 (.bool q.b)) bi a o c t G {b with EW:=q.b}:=w.put rfl rfl w.o w.t;refine⟨put h bi 15 (.bool q.b),o,c,t,G,?_,w',hc,Bq⟩;rw[Af,FH,Uh];simp only[abS,↓reduceIte,AR,d,f,g,i,y,z,A,B,C,OT,PE,Qi,Rg,SB,A0 Tw,w.st (k:=15) (v:= .bool q.b) rfl rfl];try rfl
 rw[Ac Tw];by_cases Va:q.k=16;.rw[Ae Va];dsimp only;have H:=sz.rm.tm;have dT:AX=140737488355328:=rfl;obtain⟨u,K,hu⟩:=w.t.1.Gu Ab;have J:=AV.Ke (b:=8) (a:=q.n) hu Ab;have em:AB (.BI 1) [I q.n]=some (.sl 1 [Cp q.n]):=rfl;have Jj:D2 (b.tm++[q.n]) (.sl 1 ((b.tm++[q.n]).map Cp)):= .mk;have w':=w.nY (YD.fx (l:=b.tm) (m:=q.n));refine⟨put h bi 6 (.sl 1 ((b.tm++[q.n]).map Cp)),o,c,_,G,?_,w',hc,Bq⟩;rw[Af,FH,Uh];simp only[abS,↓reduceIte,AR,d,f,g,i,y,z,A,B,C,OT,PE,Qi,Rg,SB,Tw,A0 Va,w.l6,K,em,J,w.st (k:=6) (v0:=t) rfl (AV.cells Jj)];try rfl
 rw[Ac Va];by_cases XR:q.k=17;.rw[Ae XR];dsimp only;have SQ:=sz.rm.Bb;obtain⟨fs,Hh,Wb⟩:=hc;obtain⟨u,r2,hu⟩:=f63 (h:=h) (id:=bi) (o:=3) (l:=fs) ⟨c,w.vP,Wb⟩ (by rw[<-Hh,Al] at SQ;omega);have w':=w.Lj (u:=u) (l:=b.Bb++[Cu.zero]);have KE:B7 (b.Bb++[Cu.zero]) u:=⟨_,by rw[BL,Hh];rfl,hu⟩;refine⟨put h bi 3 u,o,u,t,G,?_,w',KE,Bq⟩;rw[Af,FH,Uh];simp only[abS,↓reduceIte,AR,d,f,g,i,y,z,A,B,C,OT,PE,Qi,Rg,SB,Tw,Va,A0 XR,r2.Ad];try rfl
 rw[Ac XR];by_cases YE:q.k=18;.rw[Ae YE];dsimp only;obtain⟨h',o',r2,w',x'⟩:=aDS w sz.rm;have E:=aJ5 b.gZ h';refine⟨h',o',c,t,G,?_,w',by have e:b.Ky.Bb=b.Bb:=(by unfold BS.Ky;split<;>rfl);rw[e];exact hc,x'⟩;rw[Af,FH,Uh];simp only[abS,↓reduceIte,AR,Fc,d,f,g,i,y,z,A,B,C,OT,PE,Qi,Rg,SB,Tw,Va,XR,A0 YE,r2.Ad,E.Ad];try rfl
 rw[Ac YE];by_cases dD:q.k=19;.rw[Ae dD];dsimp only;have w':BX (put h bi 7 (I q.a)) bi a o c t G {b with head:=q.a}:=w.put rfl rfl w.o w.t;refine⟨put h bi 7 (I q.a),o,c,t,G,?_,w',hc,Bq⟩;rw[Af,FH,Uh];simp only[abS,↓reduceIte,AR,d,f,g,i,y,z,A,B,C,OT,PE,Qi,Rg,SB,Tw,Va,XR,YE,A0 dD,w.st (k:=7) (v:= I q.a) rfl rfl];try rfl
 rw[Ac dD];by_cases jD:q.k=20;.rw[Ae jD];dsimp only;have w':=w.iV q.n;refine⟨put h bi 4 (I q.n),o,c,t,G,?_,w',hc,Bq⟩;rw[Af,FH,Uh];simp only[abS,↓reduceIte,AR,d,f,g,i,y,z,A,B,C,OT,PE,Qi,Rg,SB,Tw,Va,XR,YE,dD,A0 jD,w.st (k:=4) (v:= I q.n) rfl rfl];try rfl
 rw[Ac jD];by_cases oG:q.k=21;.rw[Ae oG];dsimp only;have SQ:=sz.rm.Bb;obtain⟨fs,Hh,Wb⟩:=hc;obtain⟨u,r2,hu⟩:=f65 (h:=h) (id:=bi) (o:=3) (l:=fs) ⟨c,w.vP,Wb⟩ (by rw[<-Hh,Al] at SQ;omega);have w':=w.Lj (u:=u) (l:=Gv b.Bb);have KE:B7 (Gv b.Bb) u:=⟨_,by rw[VB,Hh],hu⟩;refine⟨put h bi 3 u,o,u,t,G,?_,w',KE,Bq⟩;rw[Af,FH,Uh];simp only[abS,↓reduceIte,AR,d,f,g,i,y,z,A,B,C,OT,PE,Qi,Rg,SB,Tw,Va,XR,YE,dD,jD,A0 oG,r2.Ad];try rfl
 rw[Ac oG];by_cases ae:q.k=22;.rw[Ae ae];dsimp only;have ho:=sz.rm.AY;have em:AB (.BI 1) [.str q.name]=some (.sl 1 ([q.name].map CH)):=D7 (ws:=[q.name]) rfl AK;obtain⟨u,r2,hu⟩:=f66 w.sO Ab (Da (ws:=[q.name])) AK;have w':=w.IH hu;refine⟨put h bi 2 u,u,c,t,G,?_,w',hc,Bq⟩;rw[Af,FH,Uh];simp only[abS,↓reduceIte,AR,d,f,g,i,y,z,A,B,C,OT,PE,Qi,Rg,SB,Tw,Va,XR,YE,dD,jD,oG,A0 ae,em,r2.Ad];try rfl
 rw[Ac ae];by_cases oh:q.k=23;.rw[Ae oh];dsimp only;have w':BX (put h bi 8 (I q.a)) bi a o c t G {b with NF:=q.a}:=w.put rfl rfl w.o w.t;refine⟨put h bi 8 (I q.a),o,c,t,G,?_,w',hc,Bq⟩;rw[Af,FH,Uh];simp only[abS,↓reduceIte,AR,d,f,g,i,y,z,A,B,C,OT,PE,Qi,Rg,SB,Tw,Va,XR,YE,dD,jD,oG,ae,A0 oh,w.st (k:=8) (v:= I q.a) rfl rfl];try rfl
 rw[Ac oh];by_cases ā:q.k=24;.rw[Ae ā];dsimp only;obtain⟨r,ZI,D,hr,DG⟩:=U9 (q:=q) hv hq.AA.1 h;rw[LC] at D;obtain⟨h',G',r2,w',x'⟩:=nu (m:=5000000*j) w ok sz.XQ hr DG hq.AA hq.name q.a q.A9;have E:=aJ5 (b.Gw q.name q.AA q.A9) h';refine⟨h',o,c,t,G',?_,w',by have e:(b.EB q.name q.AA q.A9 q.a).Bb=b.Bb:=(by unfold BS.EB;split<;>rfl);rw[e];exact hc,x'⟩;rw[Af,FH,Uh];simp only[abS,↓reduceIte,AR,Fc,d,f,g,i,y,z,A,B,C,OT,PE,Qi,Rg,SB,Tw,Va,XR,YE,dD,jD,oG,ae,oh,A0 ā,D.Ad,r2.Ad,E.Ad];try rfl
 rw[Ac ā];refine⟨h,o,c,t,G,?_,w,hc,.refl⟩;rw[Af,FH,Uh];simp only[abS,↓reduceIte,AR,d,f,g,i,y,z,A,B,C,OT,PE,Qi,Rg,SB,Tw,Va,XR,YE,dD,jD,oG,ae,oh,ā];try rfl
end
def NM:∀l:List Int,(l.map Cp).flatten=l.map (Aa.int .i64)
 |[]=>rfl
 |x::l=>by simp[Cp,NM l]
def bq(q:Bool):Ar:={n:=[{kind:=1,CM:=1,CI:=q}],i:=[0]}
def Dt(q:Bool):BS:={a:=bq q,CM:=1,AY:=[],Bb:=[],mode:=1,Jn:=0,tm:=[],head:=0,NF:=0,LS:=false,ctx:=Item.zero,fs:=true,EW:=false,gY:=[],skip:=false,sw:=0,stop:=false}
def I9(sp:Int)(nm:Aq)(l:List A6)(q:Bool):BS:=
 {(Dt q).EB Dy [] 1 1 with a:=((Dt q).EB Dy [] 1 1).a.Ey ((Dt q).Gw Dy [] 1).node 1 0,AY:=((Dt q).EB Dy [] 1 1).AY++[(Dt q).Gw Dy [] 1],LS:=true,ctx:=⟨0,sp,nm,Fm sp nm l⟩}
def LH(sp:Int)(nm:Aq)(l:List A6)(q:Bool):BS:=if BD [Bd] (I9 sp nm l q).ctx then{I9 sp nm l q with tm:=[18]} else I9 sp nm l q
def Tx(sp:Int)(nm:Aq)(l:List A6)(q f:Bool):BS:=if f then{(LH sp nm l q).IF with NF:= -1} else(LH sp nm l q).IF
structure EY where
 LS:Bool
 A9:Int
 name:Aq
 AA:List A6
 CI:Bool
 NF:Bool
def EY.b(s:EY):BS:=if s.LS then Tx s.A9 s.name s.AA s.CI s.NF else Dt s.CI
def Mq(s:EY)(av:Aa):List Aa:=[.bool s.LS,I s.A9,.str s.name,av,.bool s.CI,.bool s.NF]
def aD8(q:Bool):EK (bq q) 0:=by
 have h0:EK (⟨[],[]⟩:Ar) 0:=by
  have hn:∀h,¬(⟨[],[]⟩:Ar).has h:=λh d=>by have h1:=d.1;have h2:=d.2;simp at h2;omega
  exact⟨rfl,λh d=>absurd d (hn h),λh d=>absurd d (hn h),λh d=>absurd d (hn h),λh d=>absurd d (hn h),λh d=>absurd d (hn h),λh d=>absurd d (hn h),λh d=>absurd d (hn h),λh d=>absurd d (hn h),λh d=>absurd d (hn h),⟨λ_=>0,λh d=>absurd d (hn h)⟩⟩
 have hx:bl {kind:=1,CM:=1,CI:=q}:=by constructor<;>simp[Cx,Hv]
 exact Xh h0 hx (.inl ⟨rfl,rfl⟩) rfl rfl rfl rfl (λh=>absurd h.1 (A5:¬(1:Int)=4))
def Ov(q:Bool):Ez (Dt q):=by refine⟨aD8 q,⟨⟨Gy 1,Gy 1⟩,rfl⟩,λi hi=>(nomatch hi),My,λe he=>(nomatch he),My⟩
def Ow{q:Bool}(x:Int):(Dt q).a.nd x=if x=1 then{kind:=1,CM:=1,CI:=q} else{}:=by
 unfold Ar.nd;by_cases h:x=1;.subst h;rfl
 .rw[Ac h,Ac];intro d;have h1:=d.1;have h2:=d.2;simp[Dt,bq] at h2;omega
def Ox(q:Bool):Sz (Dt q) 101:=by
 refine⟨⟨by simp[Dt,bq],λx=>?_,λx=>?_,by simp[Dt],by simp[Dt],by simp[Dt],λe he=>(nomatch he),λi hi=>(nomatch hi)⟩,by simp[Dt],by simp[Dt]⟩;.rw[Ow];split<;>simp
 .rw[Ow];split<;>simp
section
variable{h h':Ah}{bi a:Nat}{o c t:Aa}{G G' F:Nat->Prop}{b:BS}{x:Int}{m j:Nat}{q:jB}
variable{nm:Aq}{av:Aa}{l:List A6}{r:List Aa}{sp p:Int}
def aPm(h:Ah)(q:Bool):∃h1 h',BZ cx 57 [] h (Pt h.length 0) h1/\BZ cx 58 [Pt h.length 0,.bool q] h1 (I 1) h'/\PA h' h.length (h.length+1) none [⟨{kind:=1,CM:=1,CI:=q},.slnil,.slnil,rfl⟩] (bq q)/\h'=h++[.cells [.CD (h.length+1) 0 1 13,.map none],.cells [I 1,I 0,.slnil,I 1,I 0,S [],.slnil,S [],S [],S [],.bool q,I 0,I 0]]:=by
 have dT:AX=140737488355328:=rfl;have g1:∀u:Ah,F9 u 13 168 .slnil (.sl 13 [[I 1,I 0,.slnil,I 0,I 0,S [],.slnil,S [],S [],S [],.bool q,I 0,I 0]])=some (u++[.cells [I 1,I 0,.slnil,I 0,I 0,S [],.slnil,S [],S [],S [],.bool q,I 0,I 0]],.CD u.length 0 1 13):=λu=>rfl;obtain⟨d,e⟩:∃d,d=h++[Dx.cells [.slnil,.map none]]:=⟨_,rfl⟩;have A:d[h.length]?=some (.cells [.slnil,.map none]):=by rw[e];simp
 have Vr:d.length=h.length+1:=by rw[e];simp
 have g2:=g1 d;rw[Vr] at g2;have B:At d h.length 0 .slnil:=⟨_,A,rfl⟩;have w:(d++[Dx.cells [I 1,I 0,.slnil,I 0,I 0,S [],.slnil,S [],S [],S [],.bool q,I 0,I 0]])[h.length]?=some (.cells [.slnil,.map none]):=(Aj Ab).trans A;have J:(d++[Dx.cells [I 1,I 0,.slnil,I 0,I 0,S [],.slnil,S [],S [],S [],.bool q,I 0,I 0]])[h.length+1]?=some (.cells [I 1,I 0,.slnil,I 0,I 0,S [],.slnil,S [],S [],S [],.bool q,I 0,I 0]):=by rw[<-Vr];simp
 have Y8:(d++[Dx.cells [I 1,I 0,.slnil,I 0,I 0,S [],.slnil,S [],S [],S [],.bool q,I 0,I 0]]).length=h.length+2:=by rw[Au,Vr];rfl
 have s:d++[Dx.cells [I 1,I 0,.slnil,I 0,I 0,S [],.slnil,S [],S [],S [],.bool q,I 0,I 0]]=h++[.cells [.slnil,.map none],.cells [I 1,I 0,.slnil,I 0,I 0,S [],.slnil,S [],S [],S [],.bool q,I 0,I 0]]:=by rw[e,AJ];rfl
 generalize d++[Dx.cells [I 1,I 0,.slnil,I 0,I 0,S [],.slnil,S [],S [],S [],.bool q,I 0,I 0]]=g at*;have t2:At g h.length 0 .slnil:=⟨_,w,rfl⟩;have D:=t2.store (u:= .CD (h.length+1) 0 1 13) rfl;have z:=Ia (k:=0) (v:= .CD (h.length+1) 0 1 13) w;have n:(put g h.length 0 (.CD (h.length+1) 0 1 13))[h.length+1]?=_:=(Cm Ab).trans J;have M:put g h.length 0 (.CD (h.length+1) 0 1 13)=h++[.cells [.CD (h.length+1) 0 1 13,.map none],.cells [I 1,I 0,.slnil,I 0,I 0,S [],.slnil,S [],S [],S [],.bool q,I 0,I 0]]:=by rw[Ig w,s,BP _ _ (Ag _),C9];rfl
 generalize put g h.length 0 (.CD (h.length+1) 0 1 13)=f at*;have l3:Bg f none (Pt h.length 0)=some (.CD (h.length+1) 0 1 13):=At.load ⟨_,z,rfl⟩;have L:AB (.FC 13) [.CD (h.length+1) 0 1 13,I 0]=some (.ptr (some (h.length+1,0))):=E0 (k:= .i64) (i:=0) A5;have t3:At f (h.length+1) 3 (I 0):=⟨_,n,rfl⟩;have C:=t3.store (u:=I 1) rfl;have N:(put f (h.length+1) 3 (I 1))[h.length]?=_:=(Cm Ab).trans z;have H:=Ia (k:=3) (v:=I 1) n;have K:put f (h.length+1) 3 (I 1)=h++[.cells [.CD (h.length+1) 0 1 13,.map none],.cells [I 1,I 0,.slnil,I 1,I 0,S [],.slnil,S [],S [],S [],.bool q,I 0,I 0]]:=by rw[Ig n,M,BP _ _ Ab,SJ];rfl
 refine⟨d,put f (h.length+1) 3 (I 1),?_,?_,⟨rfl,rfl,N,H,?_,?_,.inl ⟨rfl,λk=>?_⟩⟩,K⟩;.rw[Af,kg,t57];simp only[abS,↓reduceIte,AR,e]
 .have E:BZ cx 158 [Pt h.length 0,.agg [I 1,I 0,.slnil,I 0,I 0,S [],.slnil,S [],S [],S [],.bool q,I 0,I 0]] d (I 1) f:=by rw[Af,bU,xl];simp only[BJ,Nat.reduceLeDiff,↓reduceIte,AR,gC,B.load,show AB (.BI 13) [.agg [I 1,I 0,.slnil,I 0,I 0,S [],.slnil,S [],S [],S [],.bool q,I 0,I 0]]=some (.sl 13 [[I 1,I 0,.slnil,I 0,I 0,S [],.slnil,S [],S [],S [],.bool q,I 0,I 0]]) from rfl,g2,D,l3,show AB (.len false) [.CD (h.length+1) 0 1 13]=some (I 1) from rfl]
  have r2:BZ cx 153 [Pt h.length 0,I 1] f (.ptr (some (h.length+1,0))) f:=by rw[Af,bT,xk];simp only[BJ,gC,l3,show AB (.int .sub) [I 1,I 1]=some (I 0) from rfl,L]
  rw[Af,nA,t58];simp only[abS,Nat.reduceLeDiff,↓reduceIte,AR,E.Ad,r2.Ad,C]
 .intro p hp;rw[DA] at hp;subst hp;exact .inl ⟨rfl,rfl⟩
 .simp[Gi,HK]
 .unfold Ar.inr;split;.rename_i y;have h1:=y.1;have h2:=y.2;simp[bq] at h2;have:k=1:=Ab;subst this;rfl
  .rfl
def aJ6(h:Ah)(q:Bool):∃h1 h2 h' bi G,BZ cx 57 [] h (Pt h.length 0) h1/\BZ cx 58 [Pt h.length 0,.bool q] h1 (I 1) h2/\BZ cx 60 [Pt h.length 0,I 1] h2 (Pt bi 0) h'/\BX h' bi h.length .slnil .slnil .slnil G (Dt q)/\DE h (λ_=>False) h' (Bw bi G):=by
 obtain⟨h1,h2,g,r2,d,f⟩:=aPm h q;obtain⟨r,t,e,K,V,rfl,n,k,_⟩:=aIZ (x:=1) d ((Ox q).rm.X9) ((Ox q).rm.X9.A8 (Ov q).ok 1);have hx:(bq q).has 1:=⟨Gy 1,Gy 1⟩;have qk:(bq q).nd 1={kind:=1,CM:=1,CI:=q}:=(Ow (q:=q) 1).trans (Ae rfl);rw[Ae hx,qk] at e;have wt:PA (h2++t) _ _ _ _ _:=d.Dj λi hi=>Aj (d.lt i hi);refine⟨h1,h2,h2++t++[.cells (Je h.length (Dt q) .slnil .slnil .slnil)],(h2++t).length,λi=>i∈Gi h.length (h.length+1) none [⟨{kind:=1,CM:=1,CI:=q},.slnil,.slnil,rfl⟩],g,r2,?_,⟨AK,.inr ⟨rfl,rfl⟩,YD.nil,?_,?_⟩,?_⟩;.rw[Af,kh,t60];simp only[abS,Nat.reduceLeDiff,↓reduceIte,AR,e.Ad,aaS];exact⟨λh=>absurd rfl h,λ_=>⟨λh=>absurd rfl h,λ_=>rfl⟩⟩
 .exact⟨_,_,_,wt.Dj λi hi=>Aj (wt.lt i hi),λi=>aEr⟩
 .intro hm;exact absurd (wt.lt _ hm) (Dr _)
 .have En:h.length<=h2.length:=by rw[f];simp
  refine⟨Eg,λi hi _=>?_,λi hi=> .inr ?_⟩;.rw[AJ,Aj Ab,f,Aj hi]
  .rcases hi with rfl|hi
   .simp;omega
   .simp[Gi,HK] at hi;omega
def oj(sp:Int)(nm:Aq)(l:List A6)(q:Bool):Ez (I9 sp nm l q)/\Sz (I9 sp nm l q) 100:=by
 refine⟨?_,?_⟩
 .obtain⟨U4,f,u⟩:=Px (nm:=Dy) (at_:=[]) (p:=1) (Ov q) JQ;have nv:=U4.Ku (Oj (n:=((Dt q).Gw Dy [] 1).node) (p:=1) (b:=0) U4.ok) I0;have g:Le ((Dt q).EB Dy [] 1 1).a (((Dt q).EB Dy [] 1 1).a.Ey ((Dt q).Gw Dy [] 1).node 1 0):=I0;have ho:((Dt q).EB Dy [] 1 1).AY=[]:=by unfold BS.EB;rw[Ae JQ];rfl
  have Ŕ:=nv.aA6 (i:=(Dt q).Gw Dy [] 1) (k:=0) ⟨g.has _ f.has,by rw[g.kind _ f.has];exact f.kind,by rw[g.A9 _ f.has];exact f.A9,by rw[g.name _ f.has];exact f.name⟩ (by simp only[ho];simp);exact Ŕ.of_eq rfl rfl (by unfold I9;simp only[ho];rfl) rfl
 .have sz:=Ox q;have e:((Dt q).EB Dy [] 1 1).AY=[]/\((Dt q).EB Dy [] 1 1).Bb=[]:=by unfold BS.EB;rw[Ae JQ];exact⟨rfl,rfl⟩
  have s:=I1 (m:=5000000*100+1) (nm:=Dy) (l:=[]) (sp:=1) (p:=1) (sz.rm.le Ab) ⟨A5,λa ha=>(nomatch ha)⟩;have r2:=s.Ku (JY (x:=((Dt q).Gw Dy [] 1).node) (p:=1) (bf:=0));have d:=r2.Ľ (i:=(Dt q).Gw Dy [] 1) (l':=((Dt q).EB Dy [] 1 1).AY++[(Dt q).Gw Dy [] 1]) AK (λj hj=>by simpa using hj) (NI A5);exact⟨⟨d.n,d.at_,d.data,d.AY,d.Bb,d.tm,d.DD,d.X8⟩,by unfold I9;simp only[e.1];show 1+1200*100<=125000;decide,by unfold I9;simp only[e.2];decide⟩
def XS(sp:Int)(nm:Aq)(l:List A6)(q:Bool):Ez (LH sp nm l q)/\Sz (LH sp nm l q) 100:=by
 obtain⟨Ŕ,d⟩:=oj sp nm l q;unfold LH;split;.have r:=d.rm;exact⟨Ŕ.of_eq rfl rfl rfl rfl,⟨⟨r.n,r.at_,r.data,r.AY,r.Bb,AK,r.DD,r.X8⟩,d.AY,d.Bb⟩⟩
 .exact⟨Ŕ,d⟩
def Ă(sp:Int)(nm:Aq)(l:List A6)(q f:Bool):Ez (Tx sp nm l q f)/\Sz (Tx sp nm l q f) 100:=by
 obtain⟨bn,ă⟩:=XS sp nm l q;have d:B9 (LH sp nm l q).IF (5000000*100):=ă.rm.mode;unfold Tx;split;.exact⟨(Sk bn).of_eq rfl rfl rfl rfl,⟨⟨d.n,d.at_,d.data,d.AY,d.Bb,d.tm,d.DD,d.X8⟩,ă.AY,ă.Bb⟩⟩
 .exact⟨Sk bn,⟨d,ă.AY,ă.Bb⟩⟩
def BX.om(w:BX h bi a o c t G b)(i:Item):∃h',Cw h 4 (Pt bi 10) (.agg i.row)=some h'/\BX h' bi a o c t G {b with ctx:=i}/\DE h (Bw bi G) h' (Bw bi G):=by refine⟨h.set bi (.cells (Je a {b with ctx:=i} o c t)),?_,⟨AQ w.lt,w.o,w.t,w.w.Dj λj hj=>Ao λe=>w.nb (by rw[e];exact hj),w.nb⟩,⟨by rw[Br];exact Ag _,λj _ hn=>Ao λe=>hn (.inl e.symm),λ_ h=> .inl h⟩⟩;simp only[Cw,w.hb];rfl
def aPn(h:Ah)(sp:Int)(nm:Aq)(hv:Bz l av)(hl:D1 l)(q f Z:Bool):∃h1 h2 h' bi o t G,BZ cx 57 [] h (Pt h.length 0) h1/\BZ cx 58 [Pt h.length 0,.bool q] h1 (I 1) h2/\BZ cx 59 [Pt h.length 0,I 1,.agg [I sp,.str nm,av,.bool Z,.bool f]] h2 (Pt bi 0) h'/\BX h' bi h.length o .slnil t G (Tx sp nm l q f)/\DE h (λ_=>False) h' (Bw bi G):=by
 obtain⟨h1,h2,h3,bi,G,L,r2,K,w,x⟩:=aJ6 h q;have hr:Oo Dy .slnil [I 2,.str Dy,ff,S [],ff,S [],ff,ff,.slnil,ff,S [],.int .i32 0]:=⟨I 2,ff,S [],ff,S [],ff,ff,ff,S [],.int .i32 0,rfl⟩;obtain⟨h4,G4,J,X,U⟩:=nu (m:=1000) w (Ov q).ba ((Ox q).rm.le Ab) hr (l:=[]) (.inr ⟨rfl,rfl⟩) ⟨A5,λa ha=>(nomatch ha)⟩ A5 1 1;obtain⟨bn,f4,le4⟩:=Px (nm:=Dy) (at_:=[]) (p:=1) (Ov q) JQ;have N:=I1 (m:=1000) (nm:=Dy) (l:=[]) (sp:=1) (p:=1) ((Ox q).rm.le Ab) ⟨A5,λa ha=>(nomatch ha)⟩;obtain⟨y,g,H,P,T⟩:=iR (x:=((Dt q).Gw Dy [] 1).node) (p:=1) (bf:=0) X bn.ba N;have ho:((Dt q).EB Dy [] 1 1).AY=[]:=by unfold BS.EB;rw[Ae JQ];rfl
 obtain⟨d,E,z⟩:=f95 P.sO (by simp only[ho];decide) ((Dt q).Gw Dy [] 1);have M:=P.IH z;have W:BX (put (put y bi 2 d) bi 9 tt) bi h.length d .slnil .slnil g _:=M.put (k:=9) (v:=tt) (b':={{{(Dt q).EB Dy [] 1 1 with a:=((Dt q).EB Dy [] 1 1).a.Ey ((Dt q).Gw Dy [] 1).node 1 0} with AY:=((Dt q).EB Dy [] 1 1).AY++[(Dt q).Gw Dy [] 1]} with LS:=true}) rfl rfl z M.t;have C:Cw (put y bi 2 d) 1 (Pt bi 9) tt=some (put (put y bi 2 d) bi 9 tt):=M.st (k:=9) (v:=tt) (v0:= .bool ((Dt q).EB Dy [] 1 1).LS) rfl rfl;have D:BZ cx 161 [I sp,.str nm,av] (put (put y bi 2 d) bi 9 tt) (.bool (Fm sp nm l)) (put (put y bi 2 d) bi 9 tt):=f96 hv (λa ha=>by have:=(hl.2 a ha).2;have:AX=140737488355328:=rfl;omega) (by have:=hl.1;omega) sp nm _;obtain⟨s,Y,O,R⟩:=W.om ⟨0,sp,nm,Fm sp nm l⟩;have Ř:BX s bi h.length d .slnil .slnil g (I9 sp nm l q):=O;have ŕ:DE h (λ_=>False) s (Bw bi g):=((((x.trans U).trans T).trans Bq).trans Bq).trans R;clear O;have i:=Ř.ò;have aD9:(I9 sp nm l q).ctx=⟨0,sp,nm,Fm sp nm l⟩:=rfl;obtain⟨aPo,ă⟩:=XS sp nm l q;have u:=nV (ws:=[Bd]) Da A5 (I9 sp nm l q).ctx s;have key:∃A t9,BX A bi h.length d .slnil t9 g (LH sp nm l q)/\DE s (Bw bi g) A (Bw bi g)/\(BD [Bd] (I9 sp nm l q).ctx=true->Cw s 1 (Pt bi 6) (.sl 1 [[I 18]])=some A)/\(BD [Bd] (I9 sp nm l q).ctx=false->A=s):=by
  by_cases n:BD [Bd] (I9 sp nm l q).ctx=true;.have hu:D2 [18] (.sl 1 [[I 18]]):= .mk;refine⟨put s bi 6 (.sl 1 [[I 18]]),.sl 1 [[I 18]],?_,Bq,λ_=>Ř.st (k:=6) (v0:= .slnil) rfl rfl,λh=>absurd n (by rw[h];decide)⟩;unfold LH;rw[Ae n];exact Ř.nY ⟨.inl hu,λe=>by injection e with _ e;simp at e⟩
  .refine⟨s,.slnil,?_,.refl,λh=>absurd h n,λ_=>rfl⟩;unfold LH;rw[Ac n];exact Ř
 obtain⟨A,t9,V,Q,k1,k2⟩:=key;obtain⟨UZ,vX,Tv,oD⟩:=ó V ă.rm;have em:AB (.BI 1) [I 18]=some (.sl 1 [[I 18]]):=rfl;have B:DE h (λ_=>False) UZ (Bw bi g):=(ŕ.trans Q).trans oD;have hir:((Dt q).Gw Dy [] 1).row=[I ((Dt q).Gw Dy [] 1).node,I ((Dt q).Gw Dy [] 1).A9,.str ((Dt q).Gw Dy [] 1).name,.bool ((Dt q).Gw Dy [] 1).OH]:=rfl;generalize(Dt q).Gw Dy [] 1=it at*;have oq:Cw (put (put y bi 2 d) bi 9 tt) 4 (Pt bi 10) (.agg [I 0,I sp,.str nm,.bool (Fm sp nm l)])=some s:=Y;have zP:AB (.BI 1) [S aWb]=some (.sl 1 ([Bd].map CH)):=iW;cases n:BD [Bd] (I9 sp nm l q).ctx with
 |true=>
  rw[n] at u;have ř:=k1 n;cases f with
  |true=>
   refine⟨h1,h2,put UZ bi 8 (I (-1)),bi,d,t9,g,L,r2,?_,?_,B.trans Bq⟩;.rw[Af,bM,t59];simp only[abS,Nat.reduceLeDiff,↓reduceIte,AR,Fc,K.Ad,J.Ad,H.Ad,E.Ad,C,D.Ad,oq,i,zP,u.Ad,em,ř,vX.Ad,Tv.st (k:=8) (v:=I (-1)) rfl rfl]
   .unfold Tx;rw[Ae rfl];exact Tv.put rfl rfl Tv.o Tv.t
  |false=>refine⟨h1,h2,UZ,bi,d,t9,g,L,r2,?_,Tv,B⟩;rw[Af,bM,t59];simp only[abS,Nat.reduceLeDiff,↓reduceIte,AR,Fc,K.Ad,J.Ad,H.Ad,E.Ad,C,D.Ad,oq,i,zP,u.Ad,em,ř,vX.Ad]
 |false=>
  rw[n] at u;have Ś:=k2 n;subst Ś;cases f with
  |true=>
   refine⟨h1,h2,put UZ bi 8 (I (-1)),bi,d,t9,g,L,r2,?_,?_,B.trans Bq⟩;.rw[Af,bM,t59];simp only[abS,Nat.reduceLeDiff,↓reduceIte,AR,Fc,K.Ad,J.Ad,H.Ad,E.Ad,C,D.Ad,oq,i,zP,u.Ad,em,vX.Ad,Tv.st (k:=8) (v:=I (-1)) rfl rfl]
   .unfold Tx;rw[Ae rfl];exact Tv.put rfl rfl Tv.o Tv.t
  |false=>refine⟨h1,h2,UZ,bi,d,t9,g,L,r2,?_,Tv,B⟩;rw[Af,bM,t59];simp only[abS,Nat.reduceLeDiff,↓reduceIte,AR,Fc,K.Ad,J.Ad,H.Ad,E.Ad,C,D.Ad,oq,i,zP,u.Ad,em,vX.Ad]
def aPp(h:Ah)(s:EY)(hv:Bz s.AA av)(hl:D1 s.AA):∃h' bi a o c t G,BZ cx 22 [.agg (Mq s av)] h (Pt bi 0) h'/\BX h' bi a o c t G s.b/\B7 s.b.Bb c/\DE h (λ_=>False) h' (Bw bi G):=by
 have lN:(I9 s.A9 s.name s.AA s.CI).Bb=[]:=by unfold I9;simp only;unfold BS.EB;rw[Ae JQ];rfl
 cases hf:s.LS with
 |true=>
  obtain⟨h1,h2,h',bi,o,t,G,f,r2,d,w,x⟩:=aPn h s.A9 s.name hv hl s.CI s.NF s.CI;refine⟨h',bi,h.length,o,.slnil,t,G,?_,by unfold EY.b;rw[Ae hf];exact w,?_,x⟩;.rw[Af,j_,t22,Mq,hf];simp only[BJ,f.Ad,r2.Ad,d.Ad]
  .have e:s.b.Bb=[]:=by unfold EY.b Tx LH;rw[Ae hf];split<;>split<;>exact lN
   rw[e];exact⟨[],rfl,.inr ⟨rfl,rfl⟩⟩
 |false=>
  obtain⟨h1,h2,h',bi,G,f,r2,d,w,x⟩:=aJ6 h s.CI;have e:s.b=Dt s.CI:=by unfold EY.b;rw[Ac (by rw[hf];decide)]
  refine⟨h',bi,h.length,.slnil,.slnil,.slnil,G,?_,by rw[e];exact w,by rw[e];exact⟨[],rfl,.inr ⟨rfl,rfl⟩⟩,x⟩;rw[Af,j_,t22,Mq,hf];simp only[BJ,f.Ad,r2.Ad,d.Ad]
def EY.ok(s:EY):Ez s.b/\Sz s.b 100:=by
 unfold EY.b;split;.exact Ă _ _ _ _ _
 .have h:=Ox s.CI;exact⟨Ov _,⟨h.rm.le Ab,by have:=h.AY;omega,by have:=h.Bb;omega⟩⟩
end
end Go.Am
end
