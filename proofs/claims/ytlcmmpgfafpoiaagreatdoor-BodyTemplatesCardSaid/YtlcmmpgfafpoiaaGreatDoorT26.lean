/- Lemmas -/
import Derived.Test.YtlcmmpgfafpoiaaGreatDoorT25
set_option linter.all false
noncomputable section
set_option maxHeartbeats 0
set_option maxRecDepth 100000
section
namespace Go.Am
open Go
section
variable{h h':Ah}{bi a:Nat}{o c t:Aa}{G G' F:Nat->Prop}{b:BS}{x:Int}{m:Nat}
variable{nm:An}{av:Aa}{l:List A6}{r:List Aa}{sp p:Int}
def BX.Ŝ(w:BX h bi a o c t G b):A7 h (some 4) (Pt bi 10)=some (.agg b.ctx.row):=by simp only[A7,w.hb];rfl
def BX.pG(w:BX h bi a o c t G b)(v:Int):BX (Am.put h bi 4 (I v)) bi a o c t G {b with mode:=v}:=w.put rfl rfl w.o w.t
def BZ.mode{v:Int}(rm:BZ b m):BZ {b with mode:=v} m:=⟨rm.n,rm.at_,rm.data,rm.AW,rm.A5,rm.tm,rm.DE,rm.Yr⟩
def yf(w:BX h bi a o c t G b)(rm:BZ b m):
  ∃h',BK cx 76 [Pt bi 0] h (.tuple []) h'/\BX h' bi a o c t G b.GG/\DB h (Bt bi G) h' (Bt bi G):=by
 have ho:=rm.AW;have Jl:Ev cx 76 [Pt bi 0] h λr h'=>r= .tuple []/\BX h' bi a o c t G b.GG/\DB h (Bt bi G) h' (Bt bi G):=by
  unfold Ev;have w1:=w.pG 7;rw[uL];simp only[abS,(Iu w).Ac,w.st (k:=4) (v:=I 7) rfl rfl,(VG w1.sA).Ac,C3 (Ab: -9223372036854775808<=(b.AW.length:Int)-1) (Ab:(b.AW.length:Int)-1<9223372036854775808)];refine Bl (λn:Nat=>[I ((n:Int)-1)]) (λn h1=>n<=b.AW.length/\b.LQ b.AW.length=b.LQ n/\h1=Am.put h bi 4 (I 7)) (λn=>n) b.AW.length rfl ⟨Ag _,rfl,rfl⟩ ?_;rintro n h1 ⟨hn,ha,rfl⟩;cases n with
  |zero=>
   have e:b.GG={b with mode:=7}:=by unfold BS.GG;rw[ha];rfl
   simp only[abS,(Ab:¬(0:Int)<=((0:Nat):Int)-1)];exact⟨_,rfl,rfl,by rw[e];exact w1,Bg⟩
  |succ n=>
   have hlt:n<b.AW.length:=Ab;have i1:((n+1:Nat):Int)-1=(n:Int):=Ab;have g:=YC w1.sA (n:Int);rw[show Hh ({b with mode:=7}:BS).AW (n:Int)=b.AW[n] from Ie hlt] at g;have r2:∀i:Item,BK cx 190 [Pt bi 0,.agg i.row,I (n:Int)] (Am.put h bi 4 (I 7)) (.tuple [I ((b.Hi i n).getD 7),.bool (b.Hi i n).isSome]) (Am.put h bi 4 (I 7)):=λi=>aHO w1 rm.mode i (k:=n) Dv;have d:=r2 (b.ED n);have HT:∀v,Co (Am.put h bi 4 (I 7)) 1 (Pt bi 4) (I v)=some (Am.put (Am.put h bi 4 (I 7)) bi 4 (I v)):=λv=>w1.st (k:=4) rfl rfl;have e:b.LQ (n+1)=match b.Hi (b.ED n) n with|some m=>m|none=>b.LQ n:=rfl
   rw[e] at ha;have RU:=w1.l9;have hlc:=w1.Ŝ;have O9:=C3 (Ab: -9223372036854775808<=(n:Int)-1) (Ab:(n:Int)-1<9223372036854775808);cases hm:b.Hi (b.ED n) n with
   |none=>
    rw[hm] at d ha;by_cases h0:n=0
    .have ZB:((n:Int)=0)=True:=AM Ab;cases hf:b.L7 with
     |true=>
      have f:b.ED n=b.ctx:=by unfold BS.ED;rw[Af ⟨h0,hf⟩]
      rw[f] at d;rw[show({b with mode:=7}:BS).L7=true from hf] at RU;simp only[BF,Fc,i1,g.Ac,RU,hlc,d.Ac,HT,IU,(Ab:(0:Int)<=(n:Int)),ZB,O9];exact AL.next n rfl ⟨Ab,ha,rfl⟩ Ab
     |false=>
      have f:b.ED n=b.AW[n]:=by unfold BS.ED;rw[Ad (by simp[hf]),AJ,Ak hlt];rfl
      rw[f] at d;rw[show({b with mode:=7}:BS).L7=false from hf] at RU;simp only[BF,Fc,i1,g.Ac,RU,hlc,d.Ac,HT,IU,(Ab:(0:Int)<=(n:Int)),ZB,O9];exact AL.next n rfl ⟨Ab,ha,rfl⟩ Ab
    .have f:b.ED n=b.AW[n]:=by unfold BS.ED;rw[Ad (by simp[h0]),AJ,Ak hlt];rfl
     rw[f] at d;have ZB:¬(n:Int)=0:=Ab;simp only[BF,Fc,i1,g.Ac,d.Ac,HT,IU,(Ab:(0:Int)<=(n:Int)),ZB,O9];exact AL.next n rfl ⟨Ab,ha,rfl⟩ Ab
   |some v=>
    rw[hm] at d ha;have e:b.GG={b with mode:=v}:=by unfold BS.GG;rw[ha]
    have j:BX (Am.put (Am.put h bi 4 (I 7)) bi 4 (I v)) bi a o c t G b.GG:=by rw[e];exact w1.pG v
    by_cases h0:n=0
    .have ZB:((n:Int)=0)=True:=AM Ab;cases hf:b.L7 with
     |true=>
      have f:b.ED n=b.ctx:=by unfold BS.ED;rw[Af ⟨h0,hf⟩]
      rw[f] at d;rw[show({b with mode:=7}:BS).L7=true from hf] at RU;simp only[BF,Fc,i1,g.Ac,RU,hlc,d.Ac,HT,IU,(Ab:(0:Int)<=(n:Int)),ZB];exact⟨_,rfl,rfl,j,Bg.trans Bg⟩
     |false=>
      have f:b.ED n=b.AW[n]:=by unfold BS.ED;rw[Ad (by simp[hf]),AJ,Ak hlt];rfl
      rw[f] at d;rw[show({b with mode:=7}:BS).L7=false from hf] at RU;simp only[BF,Fc,i1,g.Ac,RU,hlc,d.Ac,HT,IU,(Ab:(0:Int)<=(n:Int)),ZB];exact⟨_,rfl,rfl,j,Bg.trans Bg⟩
    .have f:b.ED n=b.AW[n]:=by unfold BS.ED;rw[Ad (by simp[h0]),AJ,Ak hlt];rfl
     rw[f] at d;have ZB:¬(n:Int)=0:=Ab;simp only[BF,Fc,i1,g.Ac,d.Ac,HT,IU,(Ab:(0:Int)<=(n:Int)),ZB];exact⟨_,rfl,rfl,j,Bg.trans Bg⟩
 obtain⟨r,h',hr,rfl,w',x'⟩:=Jl.ret;exact⟨h',hr,w',x'⟩
def kx{h0 u:Ah}{V:Aa}{L:List A6}{N:Nat}(j:N=h0.length)(g:Ja (h0++u) V L)(i:Up N V)(hb:L.length<=1000000000)(y:A6):
  ∃f d,Fw (h0++u) 3 40 V (.sl 3 [y.row])=some (h0++f,d)/\Ja (h0++f) d (L++[y])/\Up N d:=by
 subst j;have aT:AS=140737488355328:=rfl;rcases g with⟨rfl,rfl⟩|⟨id,rfl,hc,hl⟩
 .refine⟨u++[.cells (([y]:List A6).map A6.row).flatten],.Cs (h0++u).length 0 1 3,by rw[<-AI];rfl,.inr ⟨(h0++u).length,rfl,AH,AH⟩,λid k e=>by injection e with e;rw[<-e,Av];omega⟩
 .have Ih:h0.length<=id:=i id _ rfl;have hg:=IF (b:=40) (AD:=L.map A6.row) (r2:=[y.row]) (v:= .sl 3 [y.row]) (aDC L) AU hc .mk AH (by rw[Aj];simp;omega);rw[Aj] at hg;have e:(h0++u).set id .CF++[.cells (L.map A6.row++[y.row]).flatten]=h0++(u.set (id-h0.length) .CF++[.cells ((L++[y]).map A6.row).flatten]):=by rw[BB _ _ Ih,AI,BE];rfl
  rw[e] at hg;have aQ:(h0++(u.set (id-h0.length) Du.CF++[.cells ((L++[y]).map A6.row).flatten]))=(h0++u.set (id-h0.length) Du.CF)++[.cells ((L++[y]).map A6.row).flatten]:=by rw[AI]
  have lM:(h0++u.set (id-h0.length) Du.CF).length=(h0++u).length:=AH;refine⟨_,_,hg,.inr ⟨(h0++u).length,AH,?_,?_⟩,λid k e=>by injection e with e;rw[<-e,Av];omega⟩;.rw[aQ,<-lM,Bd (Ag _),Dc];rfl
  .rw[aQ];simp only[Av,Bp,Bf,BT];omega
def aHP(y c:A6)(h:Ah):BK cx 192 [.agg c.row,.CJ y.row] h (.bool (decide (DF ⟨0,y.name,y.value⟩=DF c))) h:=by
 rw[Ae,gQ,A6.row,A6.row];simp only[BF];refine⟨λh1=>?_,λh1=>?_⟩;.congr 2;rw[Db];simp[DF,h1];exact ob
 .rw[Aq (λe=>h1 (by simp[DF] at e;exact e.1.symm))]
def A6.bS{y:A6}:(⟨0,y.name,y.value⟩:A6).row=[I 0,.str y.name,.str y.value]:=rfl
def T9(k:Int×An):∀{l out:List A6},(HA out l).any (λz=>decide (k=DF z))=(out++l).any λz=>decide (k=DF z)
 |[],out=>by simp[HA]
 |y::l,out=>by
  rw[HA];split
  .rename_i h;rw[T9 k,Vl,Vl,Nx];by_cases hk:k=DF y;.subst hk;rw[h];rfl
   .simp[hk]
  .rw[T9 k,AI];rfl
def yg(k:Int×An)(l:List A6):(Ct l).any (λz=>decide (k=DF z))=l.any λz=>decide (k=DF z):=T9 k
def QH{l:List A6}{y:A6}:Ct (l++[y])=if(Ct l).any (λz=>decide (DF y=DF z)) then Ct l else Ct l++[y]:=YH
def aMR(w:BX h bi a o c t G b)(ok:EB b)(rm:BZ b (m+1000))(hr:N1 nm av r)(hv:Bq l av)(hl:DP l)(x:Int):
  ∃h' G',BK cx 77 [Pt bi 0,.agg r,I x] h (.tuple []) h'/\BX h' bi a o c t G' (b.Gf l x)/\DB h (Bt bi G) h' (Bt bi G'):=by
 obtain⟨K1,V1,d,B,_,_⟩:=VM w ok rm x;have w1:=w.Ib (u:=d);obtain⟨Y,X,W,U,T,S,Q,P,VA,XK,rfl⟩:=hr;have v:DB h (Bt bi G) (h++d) (Bt bi G):=w.C0;by_cases hk:(b.a.nd x).kind=4;rotate_left;.refine⟨h++d,G,?_,by unfold BS.Gf;rw[Ad hk];exact w1,v⟩;rw[Ae,fH];simp only[abS,↓reduceIte,(Iu w).Ac,B.Ac,B2,hk]
 obtain⟨K2,Z,A,r2,_,f,g⟩:=VM w1 ok rm x;have w2:=w1.Ib (u:=A);have x2:DB h (Bt bi G) (h++d++A) (Bt bi G):=v.trans w1.C0;have hx:b.a.has x:=by
  by_cases hp:b.a.has x;.exact hp
  .rw[HI hp] at hk;simp at hk
 have VX:=rm.at_ x;have rF:=hl.1;have Jl:Ev cx 77 [Pt bi 0,.agg [Y,.str nm,X,W,U,T,S,Q,av,P,VA,XK],I x] h λr h'=>r= .tuple []/\∃G',BX h' bi a o c t G' (b.Gf l x)/\DB h (Bt bi G) h' (Bt bi G'):=by
  unfold Ev;rw[fH];have hvl:=AV.CN hv;simp only[abS,↓reduceIte,(Iu w).Ac,B.Ac,r2.Ac,B2,hk,hvl];refine Bl (λs:Aa×Nat=>[s.1,I (s.2:Int)]) (λs h1=>∃u L,h1=h++d++u/\s.2<=l.length/\Ja h1 s.1 L/\Up (h++d).length s.1/\Ct L=Ct ((b.a.nd x).Az++BS.plain (l.take s.2))/\(∀y∈L,BS.HX y.Bc)/\L.length<=(b.a.nd x).Az.length+s.2) (λs=>l.length-s.2) (Z,0) rfl ⟨A,(b.a.nd x).Az,rfl,AZ _,f,g,?_,?_,AH⟩ ?_;.simp[BS.plain]
  .exact λy hy=>(ok.ok.SM x hx).N_ y hy
  rintro⟨V,n⟩ h1 ⟨u,L,rfl,hn,f,g,j,hs,Eo⟩;simp only at hn f g j Eo;rcases AQ n l.length with hlt|Ei
  .have E:=AV.BM (k:= .i64) hv hlt;rw[A6.row] at E;have i:=aA5 f.in_ Ab (F:= .func (.func 192) [] [.CJ l[n].row]) (q:=λc=>decide (DF ⟨0,l[n].name,l[n].value⟩=DF c)) ⟨_,_,rfl,AU,λc=>aHP l[n] c _⟩;rw[A6.row] at i;obtain⟨O,V',g1,g2,g3⟩:=kx (N:=(h++d).length) rfl f g Ab ⟨0,l[n].name,l[n].value⟩;rw[A6.bS] at g1;have em:AB (.C8 3) [.agg [I 0,.str l[n].name,.str l[n].value]]=some (.sl 3 [[I 0,.str l[n].name,.str l[n].value]]):=rfl;have H:Ct ((b.a.nd x).Az++BS.plain (l.take (n+1)))=Ct (L++[⟨0,l[n].name,l[n].value⟩]):=by rw[AE hlt,BS.plain,BE,<-AI,aOe,QH,QH,j];rfl
   have D:Ct (L++[⟨0,l[n].name,l[n].value⟩])=if L.any (λz=>decide (DF ⟨0,l[n].name,l[n].value⟩=DF z)) then Ct L else Ct L++[⟨0,l[n].name,l[n].value⟩]:=by rw[QH,yg]
   simp only[abS,Nat.reduceLeDiff,↓reduceIte,AT,(Ab:(n:Int)<(l.length:Int)),E,i.Ac,em,g1,BO (Ab:n<9223372036854775807)];rw[CT];refine⟨λh2=>?_,λh2=>?_⟩
   .refine AL.next (V',n+1) rfl ⟨O,_,rfl,hlt,g2,g3,H.symm,?_,D9⟩ Dv;intro y hy;rcases Ax.1 hy with hy|hy
    .exact hs y hy
    .simp at hy;subst hy;exact⟨Dv,Dv⟩
   .have h2:(L.any λz=>decide (DF ⟨0,l[n].name,l[n].value⟩=DF z))=true:=by simpa using h2
    rw[Af h2] at D;exact AL.next (V,n+1) rfl ⟨u,L,rfl,hlt,f,g,by rw[H,D],hs,Dv⟩ Dv
  .have OV:n=l.length:=by omega
   subst OV;rw[Bx] at j;simp only[abS,↓reduceIte,(Ab:¬(l.length:Int)<(l.length:Int)),(w1.Ib (u:=u)).l0];obtain⟨C,G3,i,M,J⟩:=(w1.Ib (u:=u)).step (A':=b.a.Jy x L) (R:=λC=>BK cx 193 [Pt a 0,I x,V] (h++d++u) (I 0) C) λn m ps K=>by obtain⟨h',JB,f1,f2,f3⟩:=aHa K rm.Zp hx hk f.in_ Ab hs;exact⟨h',n,m,JB,f1,f2,f3⟩
   have e:b.Gf l x={b with a:=b.a.Jy x L}:=by unfold BS.Gf;rw[Af hk];unfold Ar.Jy;rw[j]
   simp only[BF,i.Ac];refine⟨_,rfl,rfl,G3,?_,?_⟩;.rw[e];exact M
   .exact(v.trans w1.C0).trans J
 obtain⟨r,h',hr,rfl,G',w',x'⟩:=Jl.ret;exact⟨h',G',hr,w',x'⟩
end
section
variable{h h':Ah}{bi a:Nat}{o c t:Aa}{G G' F:Nat->Prop}{b b':BS}{x:Int}{m:Nat}
variable{nm:An}{av:Aa}{l:List A6}{r:List Aa}{sp p:Int}
def BZ.sub(rm:BZ b m)(ha:b'.a=b.a)(ho:b'.AW.Sublist b.AW)(hc:b'.A5.Sublist b.A5)(ht:b'.tm.length<=b.tm.length):BZ b' m:=
 ⟨by rw[ha];exact rm.n,by rw[ha];exact rm.at_,by rw[ha];exact rm.data,by have:=rm.AW;have:=ho.length_le;omega,by have:=rm.A5;have:=hc.length_le;omega,by have:=rm.tm;omega,λe he=>rm.DE e (hc.subset he),λi hi=>rm.Yr i (ho.subset hi)⟩
def ŝ{v:Aa}{l:List Int}(hv:RJ l v)(hb:l.length<=1000000000)(h:Ah):∃u,BK cx 118 [v] h u h/\T6 l u:=by
 have hm:AS=140737488355328:=rfl;have e0:AB (.E4 1) []=some (.E4 1):=rfl;rcases hv with hv|⟨rfl,rfl⟩
 .have DL:AV 1 (l.map BH) v:=hv;rcases DL with rfl|⟨rfl,h0⟩
  .cases l with
   |nil=>refine⟨.E4 1,?_,.inr ⟨rfl,rfl⟩,nofun⟩;rw[Ae,QC];simp only[BF,C2,show AB (.Gd false .sl) [.sl 1 [],.slnil]=some (.bool false) from rfl,e0,show AB (.append 1 8) [.E4 1,.sl 1 []]=some (.E4 1) from rfl]
   |cons x l=>
    have Qh:((x::l).map BH).length*8<=AS:=by rw[Aj];omega
    have d:AB (.append 1 8) [.E4 1,.sl 1 ((x::l).map BH)]=some (.sl 1 ((x::l).map BH)):=by simp only[Bk] at Qh⊢;simp only[AB,HR,BI,DN];rw[Af ⟨trivial,Qh⟩]
    refine⟨_,?_,.inl .mk,λe=>by injection e with _ e;simp at e⟩;rw[Ae,QC];simp only[BF,show AB (.Gd false .sl) [.sl 1 ((x::l).map BH),.slnil]=some (.bool false) from rfl,e0,d]
  .refine⟨.slnil,?_,.inl (.inr ⟨rfl,h0⟩),nofun⟩;rw[Ae,QC];simp only[BF,show AB (.Gd false .sl) [.slnil,.slnil]=some (.bool true) from rfl]
 .refine⟨.E4 1,?_,.inr ⟨rfl,rfl⟩,nofun⟩;rw[Ae,QC];simp only[BF,show AB (.Gd false .sl) [.E4 1,.slnil]=some (.bool false) from rfl,e0,show AB (.append 1 8) [.E4 1,.E4 1]=some (.E4 1) from rfl]
def BX.YP{u:Aa}{l:List Int}(w:BX h bi a o c t G b)(hu:T6 l u):BX (Am.put h bi 6 u) bi a o c u G {b with tm:=l}:=w.put rfl rfl w.o hu
def bT:AB (.C8 1) [S aTR]=some (.sl 1 ([AK].map CC)):=D1 (ws:=[AK]) rfl AU
def aHQ(w:BX h bi a o c t G b)(hc:B1 b.A5 c)(rm:BZ b m):
  ∃h' o' c' t',BK cx 78 [Pt bi 0] h (.tuple []) h'/\BX h' bi a o' c' t' G b.Cv/\B1 b.Cv.A5 c'/\DB h (Bt bi G) h' (Bt bi G):=by
 have ho:=rm.AW;have QB:=rm.A5;have ye:=rm.tm;have y:=Ō w.sA Ab AK;by_cases FY:AR (Bs [AK]) b.AW<0;.refine⟨h,o,c,t,?_,by unfold BS.Cv;rw[Af FY];exact w,by unfold BS.Cv;rw[Af FY];exact hc,.refl⟩;rw[Ae,Yu];simp only[abS,(Iu w).Ac,y.Ac,FY]
 obtain⟨s,r2,O7⟩:=aL2 w.sO Ab;have w1:=w.HZ O7;have l1:(DA CG Cx b.AW).length<=b.AW.length:=Qu;obtain⟨f,C,IE⟩:=f66 w1.sO Dv (CX (ws:=[AK])) AU;have A:=w1.HZ IE;obtain⟨fs,Gw,hcs⟩:=hc;have Hm:fs.length=b.A5.length:=by rw[<-Gw,Aj]
 obtain⟨d,B,Ş⟩:=f65 (show TS _ bi 3 fs from⟨c,A.qM,hcs⟩) Ab;have g:=A.Kh (u:=d) (l:=Ee b.A5);have Nv:B1 (Ee b.A5) d:=⟨_,by rw[QF,Gw],Ş⟩;have lt:=w.t.1.len;have l6:=g.l6;have e:b.Cv=BS.GG {b with AW:=DA Cx (Bs [AK]) (DA CG Cx b.AW),A5:=Ee b.A5,tm:=b.tm.dropLast}:=by unfold BS.Cv;rw[Ad FY]
 have sO:(DA Cx (Bs [AK]) (DA CG Cx b.AW)).Sublist b.AW:=(DO (p:=Cx) (q:=Bs [AK]) (l:=DA CG Cx b.AW)).trans DO;have z:DB h (Bt bi G) (put (put (put h bi 2 s) bi 2 f) bi 3 d) (Bt bi G):=(Bg.trans Bg).trans Bg;by_cases h0:b.tm=[]
 .have j:BX (put (put (put h bi 2 s) bi 2 f) bi 3 d) bi a f d t G {b with AW:=DA Cx (Bs [AK]) (DA CG Cx b.AW),A5:=Ee b.A5,tm:=b.tm.dropLast}:=by
   have:b.tm.dropLast=b.tm:=by rw[h0];rfl
   rw[this];exact g
  obtain⟨M,v,i,E⟩:=yf j (rm.sub (b':={b with AW:=DA Cx (Bs [AK]) (DA CG Cx b.AW),A5:=Ee b.A5,tm:=b.tm.dropLast}) rfl sO (CM _ _) AH);refine⟨M,f,d,t,?_,by rw[e];exact i,by rw[e];exact Nv,z.trans E⟩;have ş:AB (.len false) [t]=some (I 0):=by rw[lt,h0];rfl
  rw[Ae,Yu];simp only[abS,(Iu w).Ac,y.Ac,FY,r2.Ac,bT,C.Ac,B.Ac,l6,ş,v.Ac,IU]
 .have hpos:=Dy.2 h0;obtain⟨O,N,yh⟩:=AV.Lw (w.t.1.ne h0) (k:= .i64) (n:=b.tm.length-1) Ab;rw[<-JX] at yh;obtain⟨J,v,R_⟩:=ŝ (.inl yh) D9 (put (put (put h bi 2 s) bi 2 f) bi 3 d);have i:=g.YP R_;obtain⟨L,K,H,D⟩:=yf i (rm.sub (b':={b with AW:=DA Cx (Bs [AK]) (DA CG Cx b.AW),A5:=Ee b.A5,tm:=b.tm.dropLast}) rfl sO (CM _ _) AH);refine⟨L,f,d,J,?_,by rw[e];exact H,by rw[e];exact Nv,(z.trans Bg).trans D⟩;rw[Ae,Yu];simp only[abS,(Iu w).Ac,y.Ac,FY,r2.Ac,bT,C.Ac,B.Ac,l6,lt,(Ab:(0:Int)<(b.tm.length:Int)),Hw hpos (Ab:b.tm.length<9223372036854775807),N,v.Ac,g.st (k:=6) (v0:=t) rfl R_.1.cells,K.Ac,IU]
def aHR(w:BX h bi a o c t G b):∃h',BK cx 79 [Pt bi 0] h (.tuple []) h'/\BX h' bi a o c t G {b with stop:=true}/\DB h (Bt bi G) h' (Bt bi G):=by refine⟨_,?_,w.put (k:=19) (v:= .bool true) rfl rfl w.o w.t,Bg⟩;rw[Ae,uM];simp only[BF,(Iu w).Ac,w.st (k:=19) (v:=tt) rfl rfl]
def aDO(w:BX h bi a o c t G b)(rm:BZ b m):∃h' o',BK cx 82 [Pt bi 2] h (.agg b.oL.row) h'/\BX h' bi a o' c t G b.Lk/\DB h (Bt bi G) h' (Bt bi G):=by
 have ho:=rm.AW;have ld:A7 h none (Pt bi 2)=some o:=w.ld 2;have lo:=AV.CN w.o;unfold BS.Lk BS.oL;by_cases h2:b.AW.length<2;.refine⟨h,o,?_,by rw[Af h2];exact w,.refl⟩;rw[Af h2,Ae,Yv];simp only[abS,↓reduceIte,AT,(VG w.sA).Ac,(Ab:(b.AW.length:Int)<2)];rfl
 .obtain⟨u,e,hu⟩:=AV.Lw w.o (k:= .i64) (n:=b.AW.length-1) Ab;refine⟨_,u,?_,by rw[Ad h2];exact w.HZ hu,Bg⟩;rw[Ad h2,Ae,Yv];simp only[abS,↓reduceIte,AT,Fc,(VG w.sA).Ac,(Ab:¬(b.AW.length:Int)<2),(f39 w.sA Ab).Ac,ld,lo,Hw (Ab:0<b.AW.length) (Ab:b.AW.length<9223372036854775807),e,w.st (k:=2) (v0:=o) rfl (AV.cells hu)]
end
def S9{U:Type}(enc:U->List Aa)(D8:U->Ah->Prop)(Z:U->Nat)(i:Nat)(HG:U->Ah->Prop)(s:U):HF:=
 λx vs h1=>(x= .normal/\∃s',vs=enc s'/\D8 s' h1/\Z s'<Z s)\/(x= .exit i/\∃s',vs=enc s'/\HG s' h1)
def S9.next{U:Type}{enc:U->List Aa}{D8 HG:U->Ah->Prop}{Z:U->Nat}{i:Nat}{s:U}{vs:List Aa}{h:Ah}(s':U)(e:vs=enc s')(hi:D8 s' h)(hl:Z s'<Z s):S9 enc D8 Z i HG s .normal vs h:= .inl ⟨rfl,s',e,hi,hl⟩
def S9.HG{U:Type}{enc:U->List Aa}{D8 HG:U->Ah->Prop}{Z:U->Nat}{i:Nat}{s:U}{vs:List Aa}{h:Ah}(s':U)(e:vs=enc s')(hi:HG s' h):S9 enc D8 Z i HG s (.exit i) vs h:= .inr ⟨rfl,s',e,hi⟩
def DW{C:F8}{Q:HF}{h:Ah}{U:Type}{key i:Nat}{init:List Aa}{body:List Aa->IT}{k:DX->List Aa->IT}(enc:U->List Aa)(D8:U->Ah->Prop)(Z:U->Nat)(HG:U->Ah->Prop)(s0:U)(h0:init=enc s0)(hi:D8 s0 h)
  (round:∀s h,D8 s h->W C (body (enc s)) (S9 enc D8 Z i HG s) h) (hk:∀s h,HG s h->W C (k (.exit i) (enc s)) Q h):W C (.loop key init body k) Q h:=by
 refine Bl enc D8 Z s0 h0 hi λs h hs=>W.mono (round s h hs) ?_;rintro x vs h1 (hn|⟨rfl,s',rfl,hf⟩);.exact .inl hn
 .exact .inr ⟨AH,hk s' h1 hf⟩
def bU{h:Ah}{id z:Nat}{AD:List (List Aa)}(hr:∀r∈AD,r.length=z)(hc:h[id]?=some (.cells AD.flatten)){i:Nat}(hi:i<AD.length):A7 h (some z) (Pt id (i*z))=some (.agg AD[i]):=by
 have hl:i*z+z<=AD.flatten.length:=by rw[FV hr];have:=DY z (Ab:i+1<=AD.length);rwa [BJ,Ea] at this
 simp only[A7,hc,M6];rw[Af hl,I1 hr,AG hi,CK,CI (by rw[hr _ (AN hi)];exact Ag _),AF (by rw[hr _ (AN hi)];exact Ag _)]
section
variable{h h':Ah}{bi a:Nat}{o c t:Aa}{G G' F:Nat->Prop}{b b':BS}{x:Int}{m:Nat}
variable{nm:An}{av:Aa}{l:List A6}{r:List Aa}{sp p:Int}
def yi(e:Ci)(h:Ah):∃r,BK cx 182 [.agg e.row] h (.agg r) h/\N1 e.c.name e.v r:=by have hv:e.v.cells=[e.v]:=AV.cells e.ok;refine⟨_,?_,I 2,ff,S [],ff,S [],ff,ff,ff,S [],.int .i32 0,rfl⟩;rw[Ae,gJ,Ci.row];simp only[abS,Nat.reduceLeDiff,↓reduceIte,AT,hv]
def bV:∀{l:List Cc} {b:BS} {m:Nat},BZ b (m+4*l.length)->(∀e∈l,e.name.length<=1000/\DP e.Az)->BZ (BS.Jn l b).2 m
 |[],b,m,r,_=>by simpa[BS.Jn] using r
 |e::l,b,m,r,hl=>by have h1:=hl e AH;rw[BS.Jn];exact bV (JA (m:=m+4*l.length) (r.le D9) h1.2 h1.1) λx hx=>hl x (by simp[hx])
def Ta:b.Ly<=b.A5.length:=by unfold BS.Ly;rcases Dh (q:=b.settled) (l:=b.A5) with⟨h,_⟩|⟨n,h1,h2,_⟩<;>omega
structure kM(h:Ah)(bi a:Nat)(t:Aa)(G0:Nat->Prop)(b:BS)(fs:List Ci)(id m k:Nat)(h1:Ah):Prop where
 le:k<=fs.length
 low:b.Ly<=k
 ex:∃(o:Aa) (G:Nat->Prop) (b1:BS) (H5:List Ci),BX h1 bi a o (.Cs id 0 fs.length 3) t G b1/\EB b1/\BZ b1 (m+4*(fs.length-k))/\h1[id]?=some (.cells (H5.map Ci.row).flatten)/\H5.length=fs.length/\H5.drop k=fs.drop k/\
  BS.CR b={(BS.Jn (b.A5.drop k) b1).2 with A5:=(H5.take k).map (·.c)++(BS.Jn (b.A5.drop k) b1).1}/\¬Bt bi G id/\DB h (Bt bi G0) h1 (Bt bi G)
def BX.kN(w:BX h bi a o c t G {b with A5:=b.A5}):BX h bi a o c t G b:=w
def P4{h1:Ah}{id:Nat}{v v':Aa}(ha:At h id 3 v)(hf:Kd h v=some (h1,v'))(he:h1[id]?=h[id]?):KR h 3 (Pt id 0)=some (Am.put h1 id 3 v'):=by obtain⟨cs,hc,e⟩:=ha;rw[hc] at he;unfold KR;simp only[hc,BL,e,hf,Cm,he];rw[Hy he]
def cf{v:Aa}{l:List Ci}(hv:Dr l v):Kd h v=some (h,v):=by rcases hv with rfl|⟨rfl,_⟩<;>rfl
def aHS{v:Aa}(hv:Dr [] v)(h:Ah):∃u,BK cx 181 [v] h u h/\Dr [] u:=by
 have d:=PO (h:=h) (s:= .sl 3 []) (b:=48) (.inr rfl) hv;rcases hv with rfl|⟨rfl,h0⟩
 .refine⟨.sl 3 [],?_,.mk⟩;rw[Ae,SY];simp only[C2] at d;simp only[BF,C2,show AB (.Gd false .sl) [.sl 3 [],.slnil]=some (.bool false) from rfl,show AB (.C8 3) []=some (.sl 3 []) from rfl,d]
 .refine⟨.slnil,?_,.inr ⟨rfl,rfl⟩⟩;rw[Ae,SY];simp only[BF,show AB (.Gd false .sl) [.slnil,.slnil]=some (.bool true) from rfl]
def kM.init(w:BX h bi a o c t G b)(ok:EB b)(rm:BZ b (m+4*b.A5.length)){fs:List Ci}(Gw:fs.map (·.c)=b.A5):
  kM h bi a t G b fs h.length m b.Ly (Am.put (h++[.cells (fs.map Ci.row).flatten]) bi 3 (.Cs h.length 0 fs.length 3)):=by
 have Hm:b.A5.length=fs.length:=by rw[<-Gw,Aj]
 have hk:=Ta (b:=b);have hne:h.length≠bi:=Nat.ne_of_gt w.lt;refine⟨Ab,Ag _,o,G,b,fs,((w.Ib (u:=[.cells (fs.map Ci.row).flatten])).Kh (l:=b.A5)).kN,ok,rm.le Ab,?_,rfl,rfl,?_,?_,w.C0.trans Bg⟩;.rw[Cj hne];simp
 .unfold BS.CR;simp only;rw[Ft,Gw]
 .rintro(rfl|hg);.exact hne rfl
  .exact absurd (w.w.lt hg) (Dj _)
def kM.step{fs:List Ci}{id k:Nat}{h1:Ah}(Gw:fs.map (·.c)=b.A5)(KI:∀e∈b.A5,e.name.length<=1000/\DP e.Az)(hi:h.length<=id)(hlt:k<fs.length)(i:kM h bi a t G b fs id m k h1):
  ∃(r:List Aa) (h2:Ah) (n:Int),A7 h1 none (Pt bi 3)=some (.Cs id 0 fs.length 3)/\A7 h1 (some 3) (Pt id (k*3))=some (.agg fs[k].row)/\BK cx 182 [.agg fs[k].row] h1 (.agg r) h1/\BK cx 65 [Pt bi 0,.agg r] h1 (I n) h2/\A7 h2 none (Pt bi 3)=some (.Cs id 0 fs.length 3)/\
   Co h2 1 (Pt id (k*3)) (I n)=some (Am.put h2 id (k*3) (I n))/\kM h bi a t G b fs id m (k+1) (Am.put h2 id (k*3) (I n)):=by
 obtain⟨D,E,b1,H5,w1,VL,vC,RS,Wa,eY,ky,Nj,g⟩:=i.ex;have RK:k<H5.length:=Ab;have Hm:b.A5.length=fs.length:=by rw[<-Gw,Aj]
 have yj:k<b.A5.length:=Ab;have q:H5[k]=fs[k]:=by have:=Ca (λl=>l[0]?) eY;simp only[Cr,Bu] at this;rw[Ak RK,Ak hlt] at this;exact D7 this
 have y:b.A5[k]=fs[k].c:=by simp only[<-Gw,CZ]
 have f:=bU (OB H5) RS (i:=k) (by simpa using RK);rw[CZ,q] at f;have KI:=KI fs[k].c (by rw[<-y];exact AN yj);obtain⟨r,A,hr⟩:=yi fs[k] h1;obtain⟨h2,B,z,r2,w,d⟩:=x_ (m:=m+4*(fs.length-(k+1))) w1 VL.ba (vC.le Ab) hr fs[k].ok KI.2 KI.1;have gl:id<h1.length:=(Al.1 RS).1;have IZ:h2[id]?=some (.cells (H5.map Ci.row).flatten):=by rw[d.old id gl Nj];exact RS
 have Tv:¬Bt bi z id:=λhg=>by
  rcases d.Bt id hg with hg|hg
  .exact Nj hg
  .omega
 have u:At h2 id (k*3) (I fs[k].c.node):=⟨_,IZ,by have:=LC (k:=0) (OB H5) AU (i:=k) (r:=fs[k].row) (by rw[Ck,Ak RK,q];rfl);rw[Bu] at this;rw[this];rfl⟩
 let s:Ci:=⟨{fs[k].c with node:=b1.a.len+1},fs[k].v,fs[k].ok⟩
 have hrow:(H5.map Ci.row).flatten.set (k*3) (I (b1.a.len+1))=((H5.set k s).map Ci.row).flatten:=by have:=N0 (AD:=H5.map Ci.row) (i:=k) (k:=0) (v:= I (b1.a.len+1)) (OB H5) (by simpa using RK) AU;rw[Bu] at this;rw[Ep,BQ,Af (by rw[FV (OB H5),Aj];omega)];rw[AI] at this;rw[show s.row=((H5.map Ci.row)[k]'(by simpa using RK)).set 0 (I (b1.a.len+1)) by rw[CZ,q];rfl];exact this
 have C:id≠bi:=λe=>Tv (.inl e);refine⟨r,h2,b1.a.len+1,w1.l3,f,A,r2,w.l3,u.store rfl,⟨hlt,by have:=i.low;omega,B,z,_,H5.set k s,w.Dn λj hj=>Cj λe=>Tv (e▸hj),P2 VL,JA (m:=m+4*(fs.length-(k+1))) (vC.le Ab) KI.2 KI.1,?_,by rw[Bp];exact Wa,?_,?_,Tv,⟨by rw[JG];exact(g.trans d).len,λj hj hn=>(Cj Ab).trans ((g.trans d).old j hj hn),(g.trans d).Bt⟩⟩⟩;.rw[Hy IZ,AO (by have:=d.len;omega),hrow]
 .rw[ZW (Nt k)];have:=Ca (λl=>l.drop 1) eY;simpa[El] using this
 .rw[ky,AG yj,y,BS.Jn];simp only
  congr 1
  rw[AE (by rw[Bp];exact RK),aFf,BE,O2 (Ag k),AI];rfl
def aHU(w:BX h bi a o c t G b)(hc:B1 b.A5 c)(ok:EB b)(rm:BZ b (m+4*b.A5.length)):
  ∃h' o' c' G',BK cx 73 [Pt bi 0] h (.tuple []) h'/\BX h' bi a o' c' t G' b.CR/\B1 b.CR.A5 c'/\DB h (Bt bi G) h' (Bt bi G'):=by
 have ho:=rm.AW;have QB:=rm.A5;obtain⟨fs,Gw,hcs⟩:=hc;have Hm:b.A5.length=fs.length:=by rw[<-Gw,Aj]
 have Jl:Ev cx 73 [Pt bi 0] h λr h'=>r= .tuple []/\∃o' c' G',BX h' bi a o' c' t G' b.CR/\B1 b.CR.A5 c'/\DB h (Bt bi G) h' (Bt bi G'):=by
  unfold Ev;have l3:=w.l3;have lc:=AV.CN hcs;rw[uJ];simp only[abS,(Iu w).Ac,l3,lc];refine DW (i:=0) (λn:Nat=>[I (n:Int)]) (λn h1=>n<=fs.length/\AR b.settled b.A5=AR b.settled (b.A5.take n)/\h1=h) (λn=>n) (λn h1=>n=b.Ly/\h1=h) fs.length rfl ⟨Ag _,by rw[<-Hm,Bx],rfl⟩ ?_ ?_
  .rintro n h1 ⟨hn,ha,rfl⟩;cases n with
   |zero=>simp only[abS,(AU:¬(0:Int)<((0:Nat):Int))];refine .HG 0 rfl ⟨?_,rfl⟩;unfold BS.Ly;rw[ha];rfl
   |succ n=>
    have hlt:n<b.A5.length:=Ab;have S4:n<fs.length:=Ab;rw[GV hlt] at ha;have i1:=Hw (n:=n+1) (Ab:0<n+1) (Ab:n+1<9223372036854775807);rw[Fb] at i1;have d:=AV.BM (k:= .i64) hcs S4;have en:fs[n].c.node=b.A5[n].node:=by simp only[<-Gw,CZ]
    have f:=ZP w.sA Ab b.A5[n].node;have g:b.settled b.A5[n]=true->n+1=b.Ly:=by intro hs;rw[Af hs] at ha;unfold BS.Ly;rw[ha];omega
    rw[Ci.row,en] at d;simp only[abS,(Ab:(0:Int)<((n+1:Nat):Int)),l3,i1,d,f.Ac,B2];refine⟨λh1=>⟨λh2=>?_,λh2=>?_⟩,λh1=>?_⟩
    .have hs:b.settled b.A5[n]=false:=by unfold BS.settled;rw[Aq];omega
     rw[Ad (by rw[hs];decide)] at ha;exact .next n rfl ⟨Ab,ha,rfl⟩ Ab
    .exact .HG (n+1) rfl ⟨g (by unfold BS.settled;rw[As];omega),rfl⟩
    .exact .HG (n+1) rfl ⟨g (by unfold BS.settled;rw[As];omega),rfl⟩
  .rintro n h1 ⟨rfl,O⟩;rw[O];by_cases hne:fs=[]
   .subst hne;have ha:b.A5=[]:=Gw.symm;have g:b.Ly=0:=by have:=Ta (b:=b);rw[ha] at this;exact Nat.le_zero.1 this
    have hb:b.CR=b:=by unfold BS.CR;rw[ha];simp only[aAd,BS.Jn,aAe,BU];rw[<-ha]
    obtain⟨u,f,hu⟩:=aHS hcs h;have w1:=(w.Kh (u:=u) (l:=b.A5)).kN;have d:=P4 w1.qM (cf hu) rfl;have B:=AV.CN hu;have y:=w1.l3;rw[BT] at B;have hz:(b.Ly:Int)=((0:Nat):Int):=by rw[g]
    simp only[abS,l3,f.Ac,w.st (k:=3) (v0:=c) rfl (AV.cells hu)];refine DW (i:=2) (λn:Nat=>[I (n:Int)]) (λn h1=>n=0/\h1=Am.put h bi 3 u) (λn=>n) (λn h1=>n=0/\h1=Am.put h bi 3 u) 0 (by rw[hz]) ⟨rfl,rfl⟩ ?_ ?_;.rintro n h1 ⟨rfl,rfl⟩;simp only[abS,y,B,(AU:¬((0:Nat):Int)<((0:Nat):Int))];exact .HG 0 rfl ⟨rfl,rfl⟩
    .rintro n h1 ⟨rfl,rfl⟩;simp only[BF,d];refine⟨_,rfl,rfl,o,u,G,?_,⟨[],by rw[hb,ha];rfl,hu⟩,Bg.trans Bg⟩;rw[hb];exact(w1.Kh (l:=b.A5)).kN
   .have i0:=kM.init (m:=m) w ok rm Gw;have f:=aDB (h:=h) hcs hne Ab;have w0:=w.Ib (u:=[.cells (fs.map Ci.row).flatten]);simp only[abS,l3,f.Ac,w0.st (k:=3) (v:= .Cs h.length 0 fs.length 3) (v0:=c) rfl rfl];refine DW (i:=2) (λn:Nat=>[I (n:Int)]) (λk h1=>kM h bi a t G b fs h.length m k h1) (λk=>fs.length-k) (λk h1=>k=fs.length/\kM h bi a t G b fs h.length m k h1) b.Ly rfl i0 ?_ ?_
    .intro k h1 i;have Eo:=i.le;have C:AB (.len false) [.Cs h.length 0 fs.length 3]=some (I (fs.length:Int)):=rfl;rcases AQ k fs.length with hlt|Ei
     .obtain⟨r,h2,n,N,M,L,K,J,H,E⟩:=kM.step Gw rm.DE (Ag _) hlt i;have d:AB (.Fu 3) [.Cs h.length 0 fs.length 3,I (k:Int)]=some (Pt h.length (k*3)):=E0 hlt;simp only[abS,N,C,(Ab:(k:Int)<(fs.length:Int)),d,M,L.Ac,BN,K.Ac,J,H,BO (Ab:k<9223372036854775807)];exact .next (k+1) rfl E Ab
     .obtain⟨s,A,b1,H5,w1,_⟩:=i.ex;simp only[abS,w1.l3,C,(Ab:¬(k:Int)<(fs.length:Int))];exact .HG k rfl ⟨Ab,i⟩
    .rintro k h1 ⟨rfl,i⟩;obtain⟨s,A,b1,H5,w1,VL,vC,RS,Wa,eY,ky,Nj,q⟩:=i.ex;have hf:=I2 (OB H5) RS;rw[Aj,Wa] at hf;have z:h.length≠bi:=λe=>Nj (.inl e);have d:=P4 w1.qM hf (by rw[Ap z]);have D:BX (h1.set h.length .CF) bi a s _ t A b1:=w1.Dn λj hj=>Ap λe=>Nj (by rw[e];exact hj);simp only[BF,d];have hb:b.CR={b1 with A5:=H5.map (·.c)}:=by rw[ky,A0 Ab,AF Ab];simp only[BS.Jn,By]
     refine⟨_,rfl,rfl,s,_,A,by rw[hb];exact D.Kh,⟨H5,by rw[hb],.mk⟩,?_⟩;refine DB.trans ⟨by rw[Bp];exact q.len,λj hj hn=>?_,q.Bt⟩ Bg;rw[Ap Ab];exact q.old j hj hn
 obtain⟨r,h',hr,rfl,o',c',G',w',JO,x'⟩:=Jl.ret;exact⟨h',o',c',G',hr,w',JO,x'⟩
end
def Š{id l k:Nat}(hl:0<l)(hk:k<=l):AB (.KK 3 false false true) [.Cs id 0 l 3,I (k:Int)]=some (.Cs id 0 k 3):=by
 have d:E6 (k:Int) l=some k:=by unfold E6;rw[Af Ab];rfl
 simp[AB,JE,D3,d];omega
def š{id l k:Nat}(hk:k<=l):AB (.KK 3 false true false) [.Cs id 0 l 3,I (k:Int)]=some (if k<l then .Cs id (k*3) (l-k) 3 else .sl 3 []):=by
 have d:E6 (k:Int) l=some k:=by unfold E6;rw[Af Ab];rfl
 simp[AB,JE,D3,d];split<;>rfl
def Hj{U:Type}{l:List U}{k:Nat}(hk:k<l.length):(Bi l k).length=l.length-1:=by unfold Bi;rw[Av,Aw,Be];omega
def aHV{h:Ah}{id k:Nat}{AD:List (List Aa)}(hr:∀r∈AD,r.length=3)(hc:h[id]?=some (.cells AD.flatten))(hk:k<AD.length)(hb:AD.length<=1000000000):
  ∃Ha,BK cx 405 [.Cs id 0 AD.length 3,I (k:Int),I ((k+1:Nat):Int)] h (.Cs id 0 (AD.length-1) 3) (h.set id (.cells ((Bi AD k).flatten++Ha))):=by
 have Ih:=(Al.1 hc).1;have w:=Hj hk;have RU:=FV hr;have v:∀r∈Bi AD k,r.length=3:=λr hm=>hr r (by
  unfold Bi at hm;rcases Ax.1 hm with hm|hm
  .exact Bn hm
  .exact Bw hm)
 have wX:=FV v;rw[w] at wX;have UC:(AD.take k).flatten=AD.flatten.take (k*3):=(bB hr).symm;have f:(AD.drop (k+1)).flatten=AD.flatten.drop ((k+1)*3):=(I1 hr).symm;obtain⟨Sr,A,hcl⟩:∃Sr,Fw h 3 48 (.Cs id 0 k 3) (if k+1<AD.length then .Cs id ((k+1)*3) (AD.length-(k+1)) 3 else .sl 3 [])=some (h.set id (.cells ((Bi AD k).flatten++Sr)),.Cs id 0 (AD.length-1) 3)/\Sr.length=3:=by
  have j:Gp h 3 (if k+1<AD.length then .Cs id ((k+1)*3) (AD.length-(k+1)) 3 else .sl 3 [])=some (AD.drop (k+1)):=by
   by_cases Qi:k+1<AD.length;.rw[Af Qi];have s:=bC hr (n:=AD.length-(k+1)) (off:=k+1) Ab;rw[AF (by rw[Be];exact Ag _)] at s;simp only[Gp,BI,hc,s];rw[Af (by rw[RU];omega)]
   .rw[Ad Qi,A0 Ab];rfl
  by_cases xo:k+1=AD.length
  .refine⟨AD.flatten.drop (k*3),?_,by rw[Be,RU];omega⟩;have q:AD.drop (k+1)=[]:=A0 Ab;rw[q] at j;have z:(Bi AD k).flatten++AD.flatten.drop (k*3)=AD.flatten:=by unfold Bi;rw[q,By,UC,CD]
   have D:h.set id (.cells ((Bi AD k).flatten++AD.flatten.drop (k*3)))=h:=by rw[z];obtain⟨aQ,C⟩:=Al.1 hc;rw[<-C,HE]
   simp only[Fw,j,BI];rw[D,(Ab:AD.length-1=k)]
  .obtain⟨y,u,hd⟩:∃y u,AD.drop (k+1)=y::u:=⟨_,_,AG (Ab:k+1<AD.length)⟩;have bt:(y::u).length=AD.length-(k+1):=by rw[<-hd,Be]
   refine⟨AD.flatten.drop ((AD.length-1)*3),?_,by rw[Be,RU];omega⟩;rw[hd] at j;simp only[Fw,j,hc,BI];rw[bt,Af (by rw[RU];omega)];rw[<-hd,f,BL,BL,(Ab:k+(AD.length-(k+1))=AD.length-1)];unfold Bi;rw[K5,UC,f]
 generalize d:h.set id (.cells ((Bi AD k).flatten++Sr))=h2 at A;have IZ:h2[id]?=some (.cells ((Bi AD k).flatten++Sr)):=by rw[<-d];exact AO Ih
 have uZ:((Bi AD k).flatten++Sr).length=AD.length*3:=by rw[Av,wX,hcl];omega
 have q:E7 (.ey 3 true true) h2 [.Cs id 0 (AD.length-1) 3,I ((AD.length-1:Nat):Int),I (AD.length:Int)]=some (h2,.Cs id ((AD.length-1)*3) 1 3):=by
  simp only[E7,lT,IZ];have E:E6 (AD.length:Int) ((((Bi AD k).flatten++Sr).length-0)/3)=some AD.length:=by unfold E6;rw[Af (by rw[uZ];omega)];rfl
  have s:E6 ((AD.length-1:Nat):Int) AD.length=some (AD.length-1):=by unfold E6;rw[Af Ab];rfl
  rw[Af ⟨trivial,trivial,AZ _⟩];simp only[D3,E,s,Cm,B5];rw[Af (by rw[uZ];omega)];congr 3
  .omega
  .omega
 have B:E7 (.clear 3 [I 0,S [],.slnil]) h2 [.Cs id ((AD.length-1)*3) 1 3]=some (h.set id (.cells ((Bi AD k).flatten++[I 0,S [],.slnil])),.bool true):=by
  simp only[E7,WR,IZ];rw[Af ⟨trivial,rfl,by rw[uZ];omega⟩];congr 2
  rw[<-d,Pg];congr 2
  rw[HQ wX,A0 (by rw[uZ];omega)];simp
 refine⟨[I 0,S [],.slnil],?_⟩;have g:∀i n,AB (.len false) [.Cs i 0 n 3]=some (I (n:Int)):=λ_ _=>rfl;have z:E7 (.qR 3) h [.Cs id 0 AD.length 3,I (k:Int),I ((k+1:Nat):Int),I (AD.length:Int)]=some (h,.bool true):=by simp only[E7,WS];simp;omega
 rw[Ae,jV];simp only[abS,g,z,(Ab:¬(k:Int)=((k+1:Nat):Int)),Š (id:=id) (Ab:0<AD.length) (Ab:k<=AD.length),š (id:=id) (Ab:k+1<=AD.length),A,q,B]
def Tb{z:Nat}:∀{AD:List (List Aa)} {cs ZA:List Aa},(∀r∈AD,r.length=z)->Cw (ZA++(AD.flatten++cs)) z ZA.length AD.length=AD
 |[],_,_,_=>rfl
 |x::AD,cs,ZA,h=>by have hx:=h x AH;have:=Tb (AD:=AD) (cs:=cs) (ZA:=ZA++x) (λr hr=>h r (by simp[hr]));simp only[AI,Av,hx] at this;simp only[CK,Bf,Cw,AI];rw[JD rfl,HQ hx,this]
def vD{h:Ah}{id z:Nat}{AD:List (List Aa)}{cs:List Aa}(hr:∀r∈AD,r.length=z)(hc:h[id]?=some (.cells (AD.flatten++cs))):Kd h (.Cs id 0 AD.length z)=some (h.set id .CF,.sl z AD):=by unfold Kd;simp only[hc,BL];have:=Tb (cs:=cs) (ZA:=[]) hr;simp only[BU,BT] at this;rw[Af (by rw[Av,FV hr];omega),this]
def FO(e:Ci)(at_ mk:Int)(anc far:Item)(last:Int):List Aa:=
 [I e.c.node,.str e.c.name,e.v,I at_,I mk,I anc.node,I anc.Bc,.str anc.name,.bool anc.O0,I far.node,I far.Bc,.str far.name,.bool far.O0,I last]
def MU(ai bi:Nat)(G:Nat->Prop):Nat->Prop:=λi=>i=ai\/Bt bi G i
section
variable{h h':Ah}{bi a ai:Nat}{o c t:Aa}{G G' F:Nat->Prop}{b b':BS}{x:Int}{m:Nat}
variable{nm:An}{av:Aa}{l:List A6}{r:List Aa}{sp p:Int}{e:Ci}{at_ mk last:Int}{anc far:Item}
def EW(x:DB h (Bt bi G) h' (Bt bi G'))(ai:Nat):DB h (MU ai bi G) h' (MU ai bi G'):=
 ⟨x.len,λi hi hn=>x.old i hi λhg=>hn (.inr hg),λi hi=>by
  rcases hi with hi|hi
  .exact .inl (.inl hi)
  .rcases x.Bt i hi with h|h
   .exact .inl (.inr h)
   .exact .inr h⟩
def P5{k:Nat}{v:Aa}:DB h (Am.MU ai bi G) (put h ai k v) (Am.MU ai bi G):=⟨by rw[JG];exact Ag _,λi _ hn=>Cj λe=>hn (.inl e),λ_ h=> .inl h⟩
def If{id k:Nat}{v:Aa}{cs:List Aa}(hc:h[id]?=some (.cells cs)):(put h id k v)[id]?=some (.cells (cs.set k v)):=by rw[Hy hc,AO (Al.1 hc).1]
def down(k:Nat)(x:Int):Int:=if(k:Int)<x then x-1 else x
def cj(w:BX h bi a o c t G b)(hc:B1 b.A5 c)(rm:BZ b m)(ha:h[ai]?=some (.cells (FO e at_ mk anc far last)))(hn:¬Bt bi G ai){k:Nat}(hk:k<b.A5.length)(h1:0<=at_/\at_<=1000000000)(h2:0<=mk/\mk<=1000000000):
  ∃h' c',BK cx 331 [Pt ai 0,Pt bi 0,I (k:Int)] h (.tuple []) h'/\BX h' bi a o c' t G {b with A5:=Bi b.A5 k}/\B1 (Bi b.A5 k) c'/\h'[ai]?=some (.cells (FO e (down k at_) (down k mk) anc far last))/\DB h (MU ai bi G) h' (MU ai bi G):=by
 obtain⟨fs,Gw,hcs⟩:=hc;have QB:=rm.A5;have Hm:b.A5.length=fs.length:=by rw[<-Gw,Aj]
 have hne:fs≠[]:=by intro e;rw[Hm,e] at hk;exact absurd hk (Nat.not_lt_zero _)
 have Zn:ai≠bi:=λe=>hn (.inl e);have z:ai<h.length:=(Al.1 ha).1;have C:=aDB (h:=h) hcs hne Ab;have hX:(h++[Du.cells (fs.map Ci.row).flatten])[h.length]?=some (.cells (fs.map Ci.row).flatten):=AH;obtain⟨Ha,r2⟩:=aHV (OB fs) hX (k:=k) D9 D9;rw[Aj] at r2;have e2:(h++[Du.cells (fs.map Ci.row).flatten]).set h.length (.cells ((Bi (fs.map Ci.row) k).flatten++Ha))=h++[.cells ((Bi (fs.map Ci.row) k).flatten++Ha)]:=by rw[BB _ _ (Ag _),Dc];rfl
 rw[e2] at r2;generalize A:h++[Du.cells ((Bi (fs.map Ci.row) k).flatten++Ha)]=H at r2;have w1:BX H bi a o c t G b:=by rw[<-A];exact w.Ib
 have ZE:H[ai]?=some (.cells (FO e at_ mk anc far last)):=by rw[<-A,Ai z];exact ha
 have Q:H[h.length]?=some (.cells ((Bi (fs.map Ci.row) k).flatten++Ha)):=by rw[<-A];simp
 have hL:H.length=h.length+1:=by rw[<-A];simp
 have Z:DB h (MU ai bi G) H (MU ai bi G):=by rw[<-A];exact EW w.C0 ai
 have s:bi≠h.length:=Pf w.lt;have VX:ai≠h.length:=Pf z;have B:=w1.st (k:=3) (v:= .Cs h.length 0 (fs.length-1) 3) (v0:=c) rfl rfl;have w2:=w1.Kh (u:= .Cs h.length 0 (fs.length-1) 3) (l:=b.A5);have O8:(put H bi 3 (.Cs h.length 0 (fs.length-1) 3))[ai]?=some (.cells (FO e at_ mk anc far last)):=by rw[Cj Zn];exact ZE
 have P:(put H bi 3 (.Cs h.length 0 (fs.length-1) 3))[h.length]?=some (.cells ((Bi (fs.map Ci.row) k).flatten++Ha)):=by rw[Cj (DJ s)];exact Q
 have Y:DB h (MU ai bi G) (put H bi 3 (.Cs h.length 0 (fs.length-1) 3)) (MU ai bi G):=Z.trans (EW Bg ai);generalize R:put H bi 3 (.Cs h.length 0 (fs.length-1) 3)=f at*;have hL2:f.length=h.length+1:=by rw[<-R,JG,hL]
 have t3:At f ai 3 (I at_):=⟨_,O8,rfl⟩;have sH:=If (k:=3) (v:= I (down k at_)) O8;have E:put f ai 3 (I (down k at_))=if(k:Int)<at_ then put f ai 3 (I (at_-1)) else f:=by
  unfold down;split;.rfl
  .exact t3.same
 have w3:BX (put f ai 3 (I (down k at_))) bi a o _ t G _:=w2.Dn λj hj=>Cj λe=>hn (e▸hj);have O:(put f ai 3 (I (down k at_)))[h.length]?=_:=(Cj (DJ VX)).trans P;have X:=Y.trans (P5 (k:=3) (v:= I (down k at_)));generalize hH3:put f ai 3 (I (down k at_))=d at*;have t4:At d ai 4 (I mk):=⟨_,sH,rfl⟩;have M:=If (k:=4) (v:= I (down k mk)) sH;have q:put d ai 4 (I (down k mk))=if(k:Int)<mk then put d ai 4 (I (mk-1)) else d:=by
  unfold down;split;.rfl
  .exact t4.same
 have T:BX (put d ai 4 (I (down k mk))) bi a o _ t G _:=w3.Dn λj hj=>Cj λe=>hn (e▸hj);have N:(put d ai 4 (I (down k mk)))[h.length]?=_:=(Cj (DJ VX)).trans O;have J:=X.trans (P5 (k:=4) (v:= I (down k mk)));generalize hH4:put d ai 4 (I (down k mk))=S at*;have L:∀r∈Bi (fs.map Ci.row) k,r.length=3:=λr hm=>OB fs r (by
  unfold Bi at hm;rcases Ax.1 hm with hm|hm
  .exact Bn hm
  .exact Bw hm)
 have f4:=vD L N;rw[Hj D9,Aj] at f4;have D:=P4 T.qM f4 (by rw[Ap (DJ s)]);have w5:BX (S.set h.length .CF) bi a o _ t G {b with A5:=b.A5}:=T.Dn λj hj=>Ap λe=>by
  subst e;rcases hj with hj|hj
  .exact s hj.symm
  .exact absurd (w.w.lt hj) (Dj _)
 have ed:Bi (fs.map Ci.row) k=(Bi fs k).map Ci.row:=by unfold Bi;rw[BE,Ft,JJ]
 have ec:(Bi fs k).map (·.c)=Bi b.A5 k:=by unfold Bi;rw[BE,Ft,JJ,Gw]
 refine⟨_,.sl 3 (Bi (fs.map Ci.row) k),?_,w5.Kh (l:=Bi b.A5 k),⟨Bi fs k,ec,by rw[ed];exact .mk⟩,?_,?_⟩
 .have i:A7 f none (Pt ai 3)=some (I at_):=t3.load;have g:A7 d none (Pt ai 4)=some (I mk):=t4.load;have inc:=BO (Ab:k<9223372036854775807);have W:=C3 (Ab: -9223372036854775808<=at_-1) (Ab:at_-1<9223372036854775808);have V:=C3 (Ab: -9223372036854775808<=mk-1) (Ab:mk-1<9223372036854775808);rw[Ae,iY];by_cases y:(k:Int)<at_
  .rw[Af y] at E;have U:Co f 1 (Pt ai 3) (I (at_-1))=some d:=by rw[E];exact t3.store rfl
   by_cases n:(k:Int)<mk
   .rw[Af n] at q;have K:Co d 1 (Pt ai 4) (I (mk-1))=some S:=by rw[q];exact t4.store rfl
    simp only[abS,w.l3,C.Ac,inc,r2.Ac,B,i,y,W,U,g,n,V,K,D]
   .rw[Ad n] at q;subst q;simp only[abS,w.l3,C.Ac,inc,r2.Ac,B,i,y,W,U,g,n,D]
  .rw[Ad y] at E;subst E;by_cases n:(k:Int)<mk
   .rw[Af n] at q;have K:Co d 1 (Pt ai 4) (I (mk-1))=some S:=by rw[q];exact t4.store rfl
    simp only[abS,w.l3,C.Ac,inc,r2.Ac,B,i,y,g,n,V,K,D]
   .rw[Ad n] at q;subst q;simp only[abS,w.l3,C.Ac,inc,r2.Ac,B,i,y,g,n,D]
 .rw[Cj Zn,Ap (DJ VX),M];rfl
 .refine DB.trans ⟨by rw[Bp];exact J.len,λj hj hn=>?_,J.Bt⟩ (EW Bg ai);rw[Ap Ab];exact J.old j hj hn
end
section
variable{U:Type}{q:U->Bool}{l:List U}
def MB{p:Nat}(hp:p<l.length)(h1:q l[p]=true)(h2:∀j (hj:j<l.length),p<j->q l[j]=false):AR q l=(p:Int):=by
 rcases Dh (q:=q) (l:=l) with⟨e,h⟩|⟨n,hn,e,d,f⟩
 .rw[h _ (AN hp)] at h1;exact absurd h1 AU
 .rcases Nat.lt_trichotomy n p with h|h|h
  .have:=f p hp h;rw[this] at h1;exact absurd h1 AU
  .rw[e,h]
  .have:=h2 n hn h;rw[this] at d;exact absurd d AU
def IM{p:Nat}(e:AR q l=(p:Int)):∃hp:p<l.length,q l[p]=true/\∀j (hj:j<l.length),p<j->q l[j]=false:=by
 rcases Dh (q:=q) (l:=l) with⟨g,h⟩|⟨n,hn,g,f,d⟩
 .omega
 .have:n=p:=by omega
  subst this;exact⟨hn,f,λj hj h=>d j hj h⟩
def pH{k j:Nat}(hk:k<l.length):(Bi l k)[j]?=if j<k then l[j]? else l[j+1]?:=by
 unfold Bi;by_cases h:j<k;.rw[Af h,Ai (by rw[Aw];omega),Cg,Af h]
 .rw[Ad h,Bd (by rw[Aw];omega),Cr];congr 1
  rw[Aw];omega
def OL{k j:Nat}(hk:k<l.length)(hj:j<(Bi l k).length):(Bi l k)[j]=if h:j<k then l[j]'(by omega) else l[j+1]'(by rw[Hj hk] at hj;omega):=by
 have hl:=Hj hk;have:=pH (j:=j) hk;rw[Ak hj] at this;by_cases h:j<k;.rw[qC h];rw[Af h,Ak Ab] at this;exact D7 this
 .rw[dif_neg h];rw[Ad h,Ak Ab] at this;exact D7 this
def kO{p k:Nat}(e:AR q l=(p:Int))(hk:k<l.length)(hne:k≠p):AR q (Bi l k)=down k p:=by
 obtain⟨hp,h1,h2⟩:=IM e;have hl:=Hj hk;unfold down;by_cases d:k<p
 .rw[Af Ab,(Ab:(p:Int)-1=((p-1:Nat):Int))];refine MB Ab ?_ ?_;.rw[OL hk,dif_neg Ab];have:p-1+1=p:=Ab;simp only[this,h1]
  .intro j hj h;rw[OL hk,dif_neg Ab];exact h2 _ _ Ab
 .rw[Ad Ab];refine MB Ab ?_ ?_;.rw[OL hk,qC Ab];exact h1
  .intro j hj h;rw[OL hk];split;.exact h2 _ _ h
   .exact h2 _ _ Ab
def pI{p k:Nat}{x:U}(e:AR q l=(p:Int))(hne:k≠p)(hx:q x=false):AR q (l.set k x)=(p:Int):=by
 obtain⟨hp,h1,h2⟩:=IM e;refine MB (by rw[Bp];exact hp) ?_ ?_;.rw[List.getElem_set_ne hne];exact h1
 .intro j hj h;rw[List.getElem_set];split;.exact hx
  .rw[Bp] at hj;exact h2 j hj h
end
def kP{l:List Item}(hn:(l.map Item.node).Nodup){i:Nat}(hi:i<l.length):AR (Bz l[i].node) l=(i:Int):=by
 refine MB hi (by simp[Bz]) λj hj h=>?_;by_cases he:l[i].node=l[j].node
 .have h2:(l.map Item.node)[i]'(by simpa using hi)=(l.map Item.node)[j]'(by simpa using hj):=by simpa using he
  exact absurd h2 (List.pairwise_iff_getElem.1 hn i j (by simpa using hi) (by simpa using hj) h)
 .unfold Bz;simpa using λe=>he e.symm
def HC{n:Int}{l:List Cc}(h:0<=Fi n l):∃p:Nat,∃hp:p<l.length,Fi n l=(p:Int)/\n≠0/\l[p].node=n/\AR (Yi n) l=(p:Int):=by
 unfold Fi at h⊢;split at h;.omega
 .rename_i h0;rw[Ad h0];obtain⟨p,hp⟩:∃p:Nat,AR (Yi n) l=(p:Int):=⟨_,(GZ h).symm⟩;obtain⟨h1,h2,_⟩:=IM hp;exact⟨p,h1,hp,h0,by simpa[Yi] using h2,hp⟩
def bW{n:Int}{l:List Cc}{k:Nat}(h:0<=Fi n l)(hk:k<l.length)(hne:l[k].node≠n):Fi n (Bi l k)=down k (Fi n l):=by obtain⟨p,hp,e,h0,h1,h2⟩:=HC h;rw[e,<-kO h2 hk (by rintro rfl;exact hne h1)];unfold Fi;rw[Ad h0]
def pJ{n:Int}{l:List Cc}{k:Nat}{x:Cc}(h:0<=Fi n l)(hk:k<l.length)(hne:l[k].node≠n)(hx:x.node≠n):Fi n (l.set k x)=Fi n l:=by obtain⟨p,hp,e,h0,h1,h2⟩:=HC h;rw[e,<-pI (x:=x) (k:=k) h2 (by rintro rfl;exact hne h1) (by simp[Yi];exact hx)];unfold Fi;rw[Ad h0]
def kz{n:Int}{l:List Cc}(hn:((l.map Cc.node).filter λn=>decide (n≠0)).Nodup)(h:0<=Fi n l):Fi n (Bi l (Fi n l).toNat)<0:=by
 obtain⟨p,hp,e,h0,h1,h2⟩:=HC h;rw[e,AY];refine Int.not_le.1 λi=>?_;obtain⟨g,f,j,_,d,_⟩:=HC i;have:l=l.take p++l[p]::l.drop (p+1):=by rw[<-AG hp,CD]
 rw[this,BE,Bk,DZ,Hq,Af (by simpa[h1] using h0),B3,B6] at hn;have hm:=AN f;generalize(Bi l p)[g]=y at hm d;unfold Bi at hm;rcases Ax.1 hm with hm|hm
 .exact hn.2.2 y.node (DM.2 ⟨O4 hm,by simpa[d] using h0⟩) l[p].node AH (by rw[d,h1])
 .exact hn.2.1.1 (DM.2 ⟨by rw[h1,<-d];exact O4 hm,by simpa[h1] using h0⟩)
section
variable{h h':Ah}{bi a ai:Nat}{o c t:Aa}{G G' F:Nat->Prop}{b b':BS}{x:Int}{m:Nat}
variable{nm:An}{av:Aa}{l:List A6}{r:List Aa}{sp p:Int}{e:Ci}{at_ mk last:Int}{anc far:Item}
def OM{blk anc:Int}{far i:Nat}{l:Int}{mk m:Nat}(r:BZ b (m+4)):BZ (BS.Fp blk anc far i b l mk).1 m:=by
 unfold BS.Fp;simp only
 split;.exact(r.le Ab).sub rfl Dl (AP _) (Ag _)
 .split;.exact(r.le Ab).sub rfl Dl Dl (Ag _)
  .rename_i he _;obtain⟨p,hp,f,_,_,_⟩:=HC (Js.1 he);rw[f,AY,AJ,Ak hp,Hp];have KI:=r.DE _ (AN hp);have d:=I8 (m:=m+1) (nm:=b.A5[p].name) (l:=b.A5[p].Az) (sp:=1) (p:=anc) (r.le Ab) KI.2;have r2:=(d.le (m':=m) Ab).KH (J7 (p:=(b.GB b.A5[p].name b.A5[p].Az 1).node) (x:=l) (bf:=0));refine⟨r2.n,r2.at_,r2.data,by simp only[Bp];exact r2.AW,by simp only[Bp];exact r2.A5,r2.tm,λe he=>?_,λi hi=>?_⟩
   .rcases Dd he with he|rfl
    .exact r2.DE e he
    .exact KI
   .rcases Dd hi with hi|rfl
    .exact r2.Yr i hi
    .exact NZ KI.1
end
def Ua{A:Ar}{x p bf:Int}(h:(A.nd p).kind=4):A.EA x p bf=A.FX p x bf:=by unfold Ar.EA;rw[Ad (by rw[h];intro h;exact absurd h.1 AU)]
section
variable{h h':Ah}{bi a ai:Nat}{o c t:Aa}{G G' F:Nat->Prop}{b b':BS}{x:Int}{m:Nat}
variable{nm:An}{av:Aa}{l:List A6}{r:List Aa}{sp p:Int}{e:Ci}{at_ mk last:Int}{anc far:Item}
def B1.at(hc:B1 b.A5 c)(w:BX h bi a o c t G b)(rm:BZ b m)(n:Int):BK cx 188 [Pt bi 3,I n] h (I (Fi n b.A5)) h:=by obtain⟨fs,Gw,hv⟩:=hc;have ha:=rm.A5;have:=f41 w.qM hv (by rw[<-Gw,Aj] at ha;omega) n;rwa [YN,Gw] at this
structure pK(h:Ah)(bi a ai:Nat)(t:Aa)(G0:Nat->Prop)(fe:Ci)(anc far:Item)(k N m:Nat)(s0:BS×Int×Nat)(n:Nat)(h1:Ah)(o c:Aa)(G:Nat->Prop)(s:BS×Int×Nat):Prop where
 le:n<=N
 w:BX h1 bi a o c t G s.1
 hc:B1 s.1.A5 c
 ok:EB s.1
 rm:BZ s.1 (m+4*n)
 last:s.1.a.has s.2.1
 st:h1[ai]?=some (.cells (FO fe (Fi fe.c.node s.1.A5) (s.2.2:Int) anc far s.2.1))
 hn:¬Bt bi G ai
 x:DB h (MU ai bi G0) h1 (MU ai bi G)
 V5:0<=Fi fe.c.node s.1.A5
 mkb:s.2.2<=1000000000
 AW:s.1.AW.take (k+n+1)=s0.1.AW.take (k+n+1)
 len:k+n+1<=s.1.AW.length
 eq:BS.KG far.node anc.node (k+1+N) k N s0=BS.KG far.node anc.node (k+1+N) k n s
 fe:s.1.a.has fe.c.node
def bX{blk anc:Int}{far i:Nat}{l:Int}{mk:Nat}(hi:i<b.AW.length):(BS.Fp blk anc far i b l mk).1.AW.take i=b.AW.take i/\i<=(BS.Fp blk anc far i b l mk).1.AW.length:=by
 have h1:(Bi b.AW i).take i=b.AW.take i/\i<=(Bi b.AW i).length:=by refine⟨?_,by rw[Hj hi];omega⟩;unfold Bi;rw[CI (by rw[Aw];omega),FD,Nat.min_self]
 unfold BS.Fp;simp only
 split;.exact h1
 .split;.exact h1
  .have Oa:∀nm l p,(b.Es nm l 1 p).AW=b.AW:=λnm l p=>by unfold BS.Es;rw[Af J1]
   simp only[Oa];exact⟨O2 (Ag i),by rw[Bp];omega⟩
def pK.step{h1 h2:Ah}{C D A z:Aa}{B u:Nat->Prop}{fe:Ci}{k N n:Nat}{s0 s s':BS×Int×Nat}(i:pK h bi a ai t G fe anc far k N m s0 (n+1) h1 C D B s)(e:s'=BS.Fp far.node anc.node (k+1+N) (k+(n+1)) s.1 s.2.1 s.2.2)
  (w:BX h2 bi a A z t u s'.1) (hc:B1 s'.1.A5 z) (st:h2[ai]?=some (.cells (FO fe (Fi fe.c.node s'.1.A5) (s'.2.2:Int) anc far s'.2.1))) (hn:¬Bt bi u ai) (x:DB h1 (MU ai bi B) h2 (MU ai bi u)) (V5:0<=Fi fe.c.node s'.1.A5) (mk:s'.2.2<=1000000000):
  pK h bi a ai t G fe anc far k N m s0 n h2 A z u s':=by
 obtain⟨g,last',j⟩:=Yp (blk:=far.node) (anc:=anc.node) (far:=k+1+N) (i:=k+(n+1)) (m:=s.2.2) i.ok i.last;have hl:=i.len;obtain⟨f,v⟩:=bX (blk:=far.node) (anc:=anc.node) (far:=k+1+N) (i:=k+(n+1)) (l:=s.2.1) (mk:=s.2.2) (b:=s.1) Ab;have d:=OM (blk:=far.node) (anc:=anc.node) (far:=k+1+N) (i:=k+(n+1)) (l:=s.2.1) (mk:=s.2.2) (m:=m+4*n) (i.rm.le Ab);have Oa:=i.AW;have y:BS.KG far.node anc.node (k+1+N) k (n+1) s=BS.KG far.node anc.node (k+1+N) k n (BS.Fp far.node anc.node (k+1+N) (k+(n+1)) s.1 s.2.1 s.2.2):=rfl;have q:=i.eq.trans y;rw[<-e] at g last' j f v d q;refine⟨by have:=i.le;omega,w,hc,g,d,last',st,hn,i.x.trans x,V5,mk,?_,Ab,q,j.has _ i.fe⟩;have:=Ca (λl=>l.take (k+(n+1))) Oa;simp only[FD] at this;rw[(Ab:k+n+1=k+(n+1)),f];rwa [Cq Ab] at this
def aH1{fe:Ci}{k N:Nat}{s0:BS×Int×Nat}(i0:pK h bi a ai t G fe anc far k N m s0 N h o c G s0)(Zs:1<=k)(Qi:AR (Bz fe.c.node) s0.1.AW=(k:Int))(hN:k+1+N<s0.1.AW.length):
  ∃h' o' c' G' s',BK cx 334 [Pt bi 0,Pt ai 0,I (k:Int),I ((k+1+N:Nat):Int)] h (.tuple []) h'/\s'=BS.KG far.node anc.node (k+1+N) k N s0/\pK h bi a ai t G fe anc far k N m s0 0 h' o' c' G' s':=by
 have ho:=i0.rm.AW;have Jl:Ev cx 334 [Pt bi 0,Pt ai 0,I (k:Int),I ((k+1+N:Nat):Int)] h λr h'=>r= .tuple []/\∃o' c' G' s',s'=BS.KG far.node anc.node (k+1+N) k N s0/\pK h bi a ai t G fe anc far k N m s0 0 h' o' c' G' s':=by
  unfold Ev;rw[i6];have i1:=C3 (a:=((k+1+N:Nat):Int)) (b:=1) Ab Ab;rw[(Ab:((k+1+N:Nat):Int)-1=((k+N:Nat):Int))] at i1;simp only[BF,i1];refine Bl (λn:Nat=>[I ((N-n:Nat):Int),I ((k+n:Nat):Int)]) (λn h1=>∃o c G1 s,pK h bi a ai t G fe anc far k N m s0 n h1 o c G1 s) (λn=>n) N (by rw[Dc];rfl) ⟨o,c,_,s0,i0⟩ ?_;rintro n h1 ⟨o1,c1,G1,s,i⟩;cases n with
  |zero=>simp only[abS,↓reduceIte,(Ab:¬(k:Int)<(k:Int))];exact⟨_,rfl,rfl,o1,c1,G1,s,i.eq.symm,i⟩
  |succ n=>
   have hnN:=i.le;have hlen:=i.len;have bY:k+(n+1)<s.1.AW.length:=Ab;have hwo:=i.rm.AW;have hwa:=i.rm.A5;have Zn:ai≠bi:=λe=>i.hn (.inl e);have hai:ai<h1.length:=(Al.1 i.st).1;have J:=YC i.w.sA ((k+(n+1):Nat):Int);rw[Ie bY] at J;have T:=kP i.ok.O_ bY;have hxf:s.1.AW[k+(n+1)].node≠fe.c.node:=by have h2:=Ca (λl=>l[k+(n+1)]?) i.AW;simp only[Cg] at h2;rw[Af Ab,Af Ab,Ak bY,Ak Ab] at h2;obtain⟨_,_,K⟩:=IM Qi;have g:=K (k+(n+1)) Ab Ab;rw[D7 h2];intro h5;unfold Bz at g;rw[h5] at g;simp at g
   have WH:s.1.AW.getD (k+(n+1)) Item.zero=s.1.AW[k+(n+1)]:=by rw[AJ,Ak bY];rfl
   generalize s.1.AW[k+(n+1)]=x at*;have r2:=i.hc.at i.w i.rm x.node;obtain⟨q,hq,ki,hq0,hq2,hq3⟩:=HC i.V5;have inc:AB (.int .add) [I ((N-(n+1):Nat):Int),I 1]=some (I ((N-n:Nat):Int)):=by have:=BO (n:=N-(n+1)) Ab;rwa [(Ab:N-(n+1)+1=N-n)] at this
   have dec:AB (.int .sub) [I ((k+(n+1):Nat):Int),I 1]=some (I ((k+n:Nat):Int)):=by have:=Hw (n:=k+(n+1)) Ab Ab;rwa [(Ab:k+(n+1)-1=k+n)] at this
   have nr:(k:Int)<((k+(n+1):Nat):Int):=Ab;have U:∀l:List Item,l=s.1.AW->C4 x.node l=Bi l (k+(n+1)):=by intro l e;subst e;unfold C4;rw[T,Ad Ab,AY]
   by_cases he:Fi x.node s.1.A5<0
   .obtain⟨u,B,hu⟩:=aDA i.w.sO Ab x.node;rw[U _ rfl] at hu;have y:=i.w.HZ hu;have es:({s.1 with AW:=Bi s.1.AW (k+(n+1))},s.2.1,s.2.2)=BS.Fp far.node anc.node (k+1+N) (k+(n+1)) s.1 s.2.1 s.2.2:=by unfold BS.Fp;simp only[WH];rw[Af he]
    have C:=i.step es y i.hc ((Cj Zn).trans i.st) i.hn (EW Bg ai) i.V5 i.mkb;by_cases Nv:(3:Int)<((N-n:Nat):Int);.simp only[abS,↓reduceIte,Fc,nr,J.Ac,inc,r2.Ac,Nv,he,(Ab:¬(0:Int)<=Fi x.node s.1.A5),B.Ac,dec];exact AL.next n rfl ⟨_,_,_,_,C⟩ Ab
    .simp only[abS,↓reduceIte,Fc,nr,J.Ac,inc,r2.Ac,Nv,he,B.Ac,dec];exact AL.next n rfl ⟨_,_,_,_,C⟩ Ab
   .obtain⟨p,hp,ep,NO,ZS,hp3⟩:=HC (Js.1 he);have Ei:(0:Int)<=(p:Int):=Ab;rw[ep] at r2;have V:s.1.A5[p].node≠fe.c.node:=by rw[ZS];exact hxf
    have D:(Fi x.node s.1.A5).toNat=p:=by rw[ep,AY]
    by_cases Nv:(3:Int)<((N-n:Nat):Int)
    .obtain⟨h2,c2,B,y,IZ,yk,E⟩:=cj i.w i.hc i.rm i.st i.hn hp ⟨i.V5,Ab⟩ ⟨Ab,by have:=i.mkb;omega⟩;have U9:BZ {s.1 with A5:=Bi s.1.A5 p} (m+4*(n+1)):=i.rm.sub rfl (AP _) Dl (Ag _);have r4:=B1.at (b:={s.1 with A5:=Bi s.1.A5 p}) IZ y U9 x.node;have xC:Fi x.node (Bi s.1.A5 p)<0:=by have:=kz (n:=x.node) i.ok.jr (Js.1 he);rwa [D] at this
     obtain⟨u,Z,hu⟩:=aDA y.sO Dv x.node;rw[U _ rfl] at hu;have L:=y.HZ hu;have yl:(((if p<s.2.2 then s.2.2 -1 else s.2.2:Nat)):Int)=down p (s.2.2:Int):=by unfold down;split<;>split<;>omega
     have es:({s.1 with A5:=Bi s.1.A5 p,AW:=Bi s.1.AW (k+(n+1))},s.2.1,if p<s.2.2 then s.2.2 -1 else s.2.2)=BS.Fp far.node anc.node (k+1+N) (k+(n+1)) s.1 s.2.1 s.2.2:=by unfold BS.Fp;simp only[WH];rw[Ad he,Af (Ab:k+(n+1)+3<k+1+N),D]
     have aH2:=bW i.V5 hp V;have hd0:0<=down p (Fi fe.c.node s.1.A5):=by unfold down;split<;>omega
     have C:=i.step es L IZ (by rw[Cj Zn,yk];simp only;rw[aH2,yl]) i.hn (E.trans (EW Bg ai)) (by simp only;rw[aH2];exact hd0) (by have:=i.mkb;simp only;split<;>omega);simp only[abS,↓reduceIte,Fc,nr,J.Ac,inc,r2.Ac,Nv,Ei,B.Ac,r4.Ac,xC,Z.Ac,dec];exact AL.next n rfl ⟨_,_,_,_,C⟩ Ab
    .obtain⟨fs,Gw,hv⟩:=i.hc;have Hm:s.1.A5.length=fs.length:=by rw[<-Gw,Aj]
     have aDP:p<fs.length:=Ab;have Y:fs[p].c=s.1.A5[p]:=by simp only[<-Gw,CZ]
     have l3:=i.w.l3;have e1:=AV.BM (k:= .i64) hv aDP;have l5:A7 h1 none (Pt ai 5)=some (I anc.node):=At.load ⟨_,i.st,rfl⟩;obtain⟨r,B,hr⟩:=yi fs[p] h1;have KI:=i.rm.DE _ (AN hp);rw[<-Y] at KI;obtain⟨h2,G2,r4,y,E⟩:=xy (m:=m+4*n) i.w i.ok.ba (i.rm.le Ab) hr fs[p].ok KI.2 KI.1 anc.node 1;obtain⟨xz,f,le2⟩:=P1 (nm:=fs[p].c.name) (at_:=fs[p].c.Az) (p:=anc.node) i.ok J1;have U9:=I8 (m:=m+4*n+1) (nm:=fs[p].c.name) (l:=fs[p].c.Az) (sp:=1) (p:=anc.node) (i.rm.le Ab) KI.2;have Oa:(s.1.Es fs[p].c.name fs[p].c.Az 1 anc.node).AW=s.1.AW:=by unfold BS.Es;rw[Af J1]
     have QB:(s.1.Es fs[p].c.name fs[p].c.Az 1 anc.node).A5=s.1.A5:=by unfold BS.Es;rw[Af J1]
     have X:BS.Fp far.node anc.node (k+1+N) (k+(n+1)) s.1 s.2.1 s.2.2=({s.1.Es fs[p].c.name fs[p].c.Az 1 anc.node with a:=(s.1.Es fs[p].c.name fs[p].c.Az 1 anc.node).a.FX (s.1.GB fs[p].c.name fs[p].c.Az 1).node s.2.1 0,AW:=(s.1.Es fs[p].c.name fs[p].c.Az 1 anc.node).AW.set (k+(n+1)) (s.1.GB fs[p].c.name fs[p].c.Az 1),A5:=(s.1.Es fs[p].c.name fs[p].c.Az 1 anc.node).A5.set p {fs[p].c with node:=(s.1.GB fs[p].c.name fs[p].c.Az 1).node}},(s.1.GB fs[p].c.name fs[p].c.Az 1).node,if s.2.1=far.node then p+1 else s.2.2):=by unfold BS.Fp;simp only[WH];rw[Ad he,Ad Ab,D,AJ,Ak hp,Hp,<-Y]
     have wV:=NX i.ok f;have hna:=QA i.ok f;have hnf:(s.1.GB fs[p].c.name fs[p].c.Az 1).node≠fe.c.node:=λe2=>f.new (by rw[e2];exact i.fe);have aM1:=le2.has _ i.last;have aDQ:(s.1.GB fs[p].c.name fs[p].c.Az 1).name.length<=1000:=NZ KI.1;generalize s.1.GB fs[p].c.name fs[p].c.Az 1=d at*;generalize s.1.Es fs[p].c.name fs[p].c.Az 1 anc.node=b2 at*;have Tv:¬Bt bi G2 ai:=λhg=>by
      rcases E.Bt ai hg with hg|hg
      .exact i.hn hg
      .omega
     have yk:h2[ai]?=_:=(E.old ai hai i.hn).trans i.st;obtain⟨H,M,Z,O7⟩:=aL6 y.sO (by have:=U9.AW;omega) x.node d;have Ţ:PU x.node d b2.AW=b2.AW.set (k+(n+1)) d:=by unfold PU;rw[Oa,T,Ad Ab,AY]
     rw[Ţ] at O7;have L:=(y.HZ O7).Ib (u:=M);have x3:DB h1 (MU ai bi G1) (put h2 bi 2 H++M) (MU ai bi G2):=(EW E ai).trans (EW (Bg.trans (y.HZ O7).C0) ai);have ai2:ai<h2.length:=by have:=E.len;omega
     have st3:(put h2 bi 2 H++M)[ai]?=_:=(Ai (by rw[JG];exact ai2)).trans ((Cj Zn).trans yk);have ai3:ai<(put h2 bi 2 H++M).length:=by rw[Av,JG];omega
     generalize put h2 bi 2 H++M=K at*;have aM2:=(KI.2).1;obtain⟨A,t2,e2,he2,r6,IE⟩:=aMl (h:=K) (id:=bi) (o:=3) (l:=fs) ⟨c1,L.qM,hv⟩ Ab x.node (e:=⟨{fs[p].c with node:=d.node},fs[p].v,fs[p].ok⟩) (by unfold Zo;simp only;omega);have hei:Hz x.node fs=(p:Int):=by rw[YN,Gw,ep]
     rw[hei,Ad Ab,AY] at IE;have w4:=(L.Kh (u:=A) (l:=b2.A5.set p {fs[p].c with node:=d.node})).Ib (u:=t2);have hc4:B1 (b2.A5.set p {fs[p].c with node:=d.node}) A:=⟨_,by rw[Ep,Gw,he2,QB],IE⟩;have x4:=x3.trans (EW ((Bg (k:=3) (v:=A)).trans (BX.C0 (u:=t2) (L.Kh (u:=A) (l:=b2.A5.set p {fs[p].c with node:=d.node})))) ai);have z:(put K bi 3 A++t2)[ai]?=_:=(Ai (by rw[JG];exact ai3)).trans ((Cj Zn).trans st3);generalize put K bi 3 A++t2=g at*;have ok3:=xz.tW (i:=d) (k:=k+(n+1)) ⟨f.has,f.kind,f.Bc,f.name⟩ (by rw[Oa];exact wV);have np:=ok3.tX (e:={fs[p].c with node:=d.node}) (k:=p) ⟨f.has,f.kind⟩ (by simp only[QB];exact hna);have rm4:BZ {b2 with AW:=b2.AW.set (k+(n+1)) d,A5:=b2.A5.set p {fs[p].c with node:=d.node}} (m+4*n+1):=by
      refine⟨U9.n,U9.at_,U9.data,by simp only[Bp];exact U9.AW,by simp only[Bp];exact U9.A5,U9.tm,λe he=>?_,λi hi=>?_⟩
      .rcases Dd he with he|rfl
       .exact U9.DE e he
       .exact KI
      .rcases Dd hi with hi|rfl
       .exact U9.Yr i hi
       .exact aDQ
     have R:A7 g none (Pt ai 13)=some (I s.2.1):=At.load ⟨_,z,rfl⟩;have l9:A7 g none (Pt ai 9)=some (I far.node):=At.load ⟨_,z,rfl⟩;have t4:At g ai 4 (I (s.2.2:Int)):=⟨_,z,rfl⟩;obtain⟨Ub,VO⟩:∃Ub:Nat,Ub=if s.2.1=far.node then p+1 else s.2.2:=⟨_,rfl⟩
     have e5:put g ai 4 (I (Ub:Int))=if s.2.1=far.node then put g ai 4 (I ((p+1:Nat):Int)) else g:=by
      rw[VO];split;.rfl
      .exact t4.same
     have P:=If (k:=4) (v:= I (Ub:Int)) z;have w5:BX (put g ai 4 (I (Ub:Int))) bi a H A t G2 {b2 with AW:=b2.AW.set (k+(n+1)) d,A5:=b2.A5.set p {fs[p].c with node:=d.node}}:=w4.Dn λj hj=>Cj λe=>Tv (e▸hj);have x5:=x4.trans (P5 (k:=4) (v:= I (Ub:Int)));have ai5:ai<(put g ai 4 (I (Ub:Int))).length:=by have:=x5.len;omega
     have t5:A7 (put g ai 4 (I (Ub:Int))) none (Pt ai 13)=some (I s.2.1):=At.load ⟨_,P,rfl⟩;generalize hh5:put g ai 4 (I (Ub:Int))=h5 at*;obtain⟨h6,G6,r7,w6,x6⟩:=pC (x:=s.2.1) (p:=d.node) (bf:=0) w5 np.ba rm4;rw[Ua (by exact f.kind)] at w6;have W:¬Bt bi G6 ai:=λhg=>by
      rcases x6.Bt ai hg with hg|hg
      .exact Tv hg
      .omega
     have O:h6[ai]?=_:=(x6.old ai ai5 Tv).trans P;have t6:At h6 ai 13 (I s.2.1):=⟨_,O,rfl⟩;have st7:=If (k:=13) (v:= I d.node) O;have w7:BX (put h6 ai 13 (I d.node)) bi a H A t G6 _:=w6.Dn λj hj=>Cj λe=>W (e▸hj);have x7:=(x5.trans (EW x6 ai)).trans (P5 (k:=13) (v:= I d.node));have YQ:Fi fe.c.node (b2.A5.set p {fs[p].c with node:=d.node})=Fi fe.c.node s.1.A5:=by rw[QB];exact pJ i.V5 hp V hnf
     rw[<-VO] at X;have C:=i.step X.symm w7 hc4 (by simp only;rw[st7,YQ];rfl) W x7 (by simp only;rw[YQ];exact i.V5) (by simp only;rw[VO];have:=i.mkb;split<;>omega);have k_:fs[p].v.cells=[fs[p].v]:=AV.cells fs[p].ok;have S:=BO (Ab:p<9223372036854775807);have Q:BK cx 408 [Pt bi 3,I x.node,.agg [I d.node,.str fs[p].c.name,fs[p].v]] K (.bool (decide (0<=Hz x.node fs))) g:=r6;rw[Ci.row] at e1 B;by_cases RU:s.2.1=far.node
     .rw[Af RU] at e5;have s5:Co g 1 (Pt ai 4) (I ((p+1:Nat):Int))=some h5:=by rw[e5];exact t4.store rfl
      simp only[abS,Nat.reduceLeDiff,↓reduceIte,AT,Fc,nr,J.Ac,inc,r2.Ac,Nv,Ei,(Ab:¬(p:Int)<0),l3,e1,l5,B.Ac,BN,r4.Ac,Z.Ac,k_,Q.Ac,R,l9,AM RU,S,s5,t5,r7.Ac,t6.store (u:= I d.node) rfl,dec];exact AL.next n rfl ⟨_,_,_,_,C⟩ Ab
     .rw[Ad RU] at e5;subst e5;simp only[abS,Nat.reduceLeDiff,↓reduceIte,AT,Fc,nr,J.Ac,inc,r2.Ac,Nv,Ei,(Ab:¬(p:Int)<0),l3,e1,l5,B.Ac,BN,r4.Ac,Z.Ac,k_,Q.Ac,R,l9,RU,r7.Ac,t6.store (u:= I d.node) rfl,dec];exact AL.next n rfl ⟨_,_,_,_,C⟩ Ab
 obtain⟨r,h',hr,rfl,o',c',G',s',e',i'⟩:=Jl.ret;exact⟨h',o',c',G',s',hr,e',i'⟩
end
section
variable{h h':Ah}{bi a ai:Nat}{o c t:Aa}{G G' F:Nat->Prop}{b b':BS}{x:Int}{m:Nat}
variable{nm:An}{av:Aa}{l:List A6}{r:List Aa}{sp p:Int}{e:Ci}{at_ mk last:Int}{anc far:Item}
def B1.find(hc:B1 b.A5 c)(w:BX h bi a o c t G b)(rm:BZ b m)(nm:An):BK cx 330 [Pt bi 3,.str nm] h (I (GF nm b.A5)) h:=by obtain⟨fs,Gw,hv⟩:=hc;have ha:=rm.A5;have:=aL9 w.qM hv (by rw[<-Gw,Aj] at ha;omega) nm;rwa [bz,Gw] at this
def YR(d:h.length<=ai)(x:DB h (MU ai bi G) h' (MU ai bi G')):DB h (Bt bi G) h' (Bt bi G'):=
 ⟨x.len,λi hi hn=>x.old i hi λhg=>by
  rcases hg with rfl|hg
  .omega
  .exact hn hg,λi hi=>by
  rcases x.Bt i (.inr hi) with(rfl|h)|h
  .exact .inr d
  .exact .inl h
  .exact .inr h⟩
def Tc{nm:An}{l:List Cc}(h:0<=GF nm l):∃p:Nat,∃hp:p<l.length,GF nm l=(p:Int):=by
 have key:∀r:List Cc,P0 nm r<r.length:=by
  intro r;induction r with
  |nil=>show(-1:Int)<0;decide
  |cons x r ih=>rw[P0];simp only[Bf];split<;>(try split)<;>omega
 have:=key l.reverse;rw[K9] at this;refine⟨(GF nm l).toNat,?_,Ab⟩;unfold GF at h⊢;omega
def cm{l:List Cc}{f:Nat}(hn:((l.map Cc.node).filter λn=>decide (n≠0)).Nodup)(hf:f<l.length)(h0:l[f].node≠0):Fi l[f].node l=(f:Int):=by
 unfold Fi;rw[Ad h0];refine MB hf (by simp[Yi]) λj hj h=>?_;by_cases he:l[j].node=l[f].node
 .exfalso;have:l=l.take j++l[j]::l.drop (j+1):=by rw[<-AG hj,CD]
  rw[this,BE,Bk,DZ,Hq,Af (by simpa[he] using h0),B3] at hn;have hm:l[f]∈l.take j:=List.mem_take_iff_getElem.2 ⟨f,Ab,rfl⟩;exact hn.2.2 l[f].node (DM.2 ⟨O4 hm,by simpa using h0⟩) l[j].node AH he.symm
 .simp[Yi,he]
def pL{v:Du}:DB h (Am.MU ai bi G) (h.set ai v) (Am.MU ai bi G):=⟨by rw[Bp];exact Ag _,λi _ hn=>Ap λe=>hn (.inl e.symm),λ_ h=> .inl h⟩
def aDS(hc:h[ai]?=some (.cells (FO e at_ mk anc far last)))(i:Item):Co h 4 (Pt ai 5) (.agg i.row)=some (h.set ai (.cells (FO e at_ mk i far last))):=by simp only[Co,hc];rfl
def aDT(hc:h[ai]?=some (.cells (FO e at_ mk anc far last)))(i:Item):Co h 4 (Pt ai 9) (.agg i.row)=some (h.set ai (.cells (FO e at_ mk anc i last))):=by simp only[Co,hc];rfl
def aDU(hc:h[ai]?=some (.cells (FO e at_ mk anc far last))):A7 h (some 3) (Pt ai 0)=some (.agg e.row):=by simp only[A7,hc];rfl
def Rb{A:Ar}{n x:Int}{l:List Int}:BS.Cy A n (l++[x])=(BS.Cy A n l).FX n x 0:=by unfold BS.Cy;rw[List.foldl_append];rfl
def aM4(w:BX h bi a o c t G b)(hc:B1 b.A5 c)(ok:EB b)(rm:BZ b (m+4*b.AW.length+10))(nm:An):
  ∃h' o' c' G',BK cx 189 [Pt bi 0,.str nm] h (.bool (b.round nm).1) h'/\BX h' bi a o' c' t G' (b.round nm).2/\B1 (b.round nm).2.A5 c'/\DB h (Bt bi G) h' (Bt bi G'):=by
 have ho:=rm.AW;have QB:=rm.A5;have V:=hc.find w rm nm;by_cases hf:GF nm b.A5<0
 .obtain⟨h2,o2,r2,L,x2⟩:=aHL w rm nm;have e:b.round nm=(false,b.Ds nm):=by unfold BS.round;simp only;rw[Af hf]
  have ea:(b.Ds nm).A5=b.A5:=by
   unfold BS.Ds;split;.split<;>rfl
   .rfl
  rw[e];refine⟨h2,o2,c,G,?_,L,by rw[ea];exact hc,x2⟩;rw[Ae,M8,uR];simp only[abS,Nat.reduceLeDiff,↓reduceIte,AT,V.Ac,hf,r2.Ac]
 obtain⟨f,Hm,ef⟩:=Tc (Js.1 hf);have qI:¬(f:Int)<0:=Ab;rw[ef] at V;have JO:=hc;obtain⟨fs,Gw,hv⟩:=JO;have aM5:b.A5.length=fs.length:=by rw[<-Gw,Aj]
 have E:fs[f].c=b.A5[f]:=by simp only[<-Gw,CZ]
 have l3:=w.l3;have e1:=AV.BM (k:= .i64) hv (Ab:f<fs.length);generalize hfe:fs[f]=fe at*;have WH:b.A5.getD f Cc.zero=fe.c:=by rw[AJ,Ak Hm];exact E.symm
 have k_:fe.v.cells=[fe.v]:=AV.cells fe.ok;have w1:=w.Ib (u:=[.cells (FO fe (f:Int) (f:Int) Item.zero Item.zero 0)]);have z:(h++[Du.cells (FO fe (f:Int) (f:Int) Item.zero Item.zero 0)])[h.length]?=some (.cells (FO fe (f:Int) (f:Int) Item.zero Item.zero 0)):=AH;have Z:DB h (Bt bi G) (h++[Du.cells (FO fe (f:Int) (f:Int) Item.zero Item.zero 0)]) (Bt bi G):=w.C0;have Nj:¬Bt bi G h.length:=by
  rintro(e|hg);.exact absurd w.lt Ab
  .exact absurd (w.w.lt hg) (Dj _)
 obtain⟨B,y⟩:∃B,B=h++[Du.cells (FO fe (f:Int) (f:Int) Item.zero Item.zero 0)]:=⟨_,rfl⟩;rw[<-y] at w1 z Z;have l0:A7 B none (Pt h.length 0)=some (I fe.c.node):=At.load ⟨_,z,rfl⟩;have r2:=ZP w1.sA Ab fe.c.node;have VX:FO fe (f:Int) (f:Int) Item.zero Item.zero 0=[I fe.c.node,.str fe.c.name,fe.v,I (f:Int),I (f:Int),I 0,I 0,S [],ff,I 0,I 0,S [],ff,I 0]:=rfl;rw[VX] at y;rw[Ci.row] at e1;by_cases hk:AR (Bz fe.c.node) b.AW<0
 .obtain⟨h2,c2,T,L,IZ,_,x2⟩:=cj w1 hc rm z Nj Hm ⟨Ab,Ab⟩ ⟨Ab,Ab⟩;have e:b.round nm=(false,{b with A5:=Bi b.A5 f}):=by unfold BS.round;simp only;rw[Ad hf,ef,AY,WH,Af hk]
  rw[e];refine⟨h2,o,c2,G,?_,L,IZ,YR (Ag _) ((EW Z h.length).trans x2)⟩;rw[Ae,M8,uR];simp only[abS,Nat.reduceLeDiff,↓reduceIte,AT,V.Ac,qI,l3,e1,<-y,l0,r2.Ac,hk,T.Ac]
 obtain⟨k,X⟩:∃k:Nat,AR (Bz fe.c.node) b.AW=(k:Int):=⟨_,(GZ (Js.1 hk)).symm⟩;obtain⟨Qi,hkq,_⟩:=IM X;have o7:¬(k:Int)<0:=Ab;rw[X] at r2;by_cases hkz:k=0
 .have e:b.round nm=(false,b):=by unfold BS.round;simp only;rw[Ad hf,ef,AY,WH,Ad hk,Af (.inl (by rw[X,hkz];rfl))]
  rw[e];refine⟨B,o,c,G,?_,w1,hc,Z⟩;rw[Ae,M8,uR];simp only[abS,Nat.reduceLeDiff,↓reduceIte,AT,V.Ac,qI,l3,e1,<-y,l0,r2.Ac,o7,AM (Ab:(k:Int)=0)]
 have pM:¬(k:Int)=0:=Ab;have T:=aLT w1.sA Ab 1 fe.c.node;by_cases QT:Kf (Bz fe.c.node) (JR 1) b.AW.reverse=false
 .have e:b.round nm=(false,b):=by unfold BS.round;simp only;rw[Ad hf,ef,AY,WH,Ad hk,Af (.inr QT)]
  rw[e];refine⟨B,o,c,G,?_,w1,hc,Z⟩;rw[QT] at T;rw[Ae,M8,uR];simp only[abS,Nat.reduceLeDiff,↓reduceIte,AT,V.Ac,qI,l3,e1,<-y,l0,r2.Ac,o7,pM,T.Ac]
 have aDV:Kf (Bz fe.c.node) (JR 1) b.AW.reverse=true:=by simpa using QT
 rw[aDV] at T;have r4:=aLW w1.sA Ab fe.c.node;have hor:¬(AR (Bz fe.c.node) b.AW=0\/Kf (Bz fe.c.node) (JR 1) b.AW.reverse=false):=by rw[X];rintro(h|h);exact pM h;exact QT h
 by_cases hfa:D6 fe.c.node b.AW<0
 .have e:b.round nm=(false,{b with AW:=GX fe.c.node b.AW,A5:=Bi b.A5 f}):=by unfold BS.round;simp only;rw[Ad hf,ef,AY,WH,Ad hk,Ad hor,Af hfa]
  obtain⟨u,r5,hu⟩:=aGV w1.sO Ab fe.c.node;have L:=w1.HZ hu;have yk:(put B bi 2 u)[h.length]?=_:=(Cj (λe=>Nj (.inl e))).trans z;obtain⟨h3,c3,r6,w3,Nv,_,x3⟩:=cj L hc ((rm.le (m':=0) Ab).sub rfl IK (AP _) (Ag _)) yk Nj Hm ⟨Ab,Ab⟩ ⟨Ab,Ab⟩;rw[e];refine⟨h3,u,c3,G,?_,w3,Nv,YR (Ag _) ((EW (Z.trans Bg) h.length).trans x3)⟩;rw[Ae,M8,uR];simp only[abS,Nat.reduceLeDiff,↓reduceIte,AT,V.Ac,qI,l3,e1,<-y,l0,r2.Ac,o7,pM,T.Ac,r4.Ac,hfa,r5.Ac,r6.Ac]
 obtain⟨N,hN,eN⟩:∃N:Nat,k+1+N<b.AW.length/\D6 fe.c.node b.AW=((k+1+N:Nat):Int):=by
  have vE:=hfa;rw[IG,Ad hk,X,AY] at vE⊢;unfold E1 at vE⊢;split at vE;.rename_i j hj;have:=(EI.1 hj).1;rw[Be] at this;exact⟨j,Ab,Ab⟩
  .omega
 obtain⟨d,kf⟩:∃d,d=b.AW[k+1+N]:=⟨_,rfl⟩;obtain⟨an,Ŕ⟩:∃an,an=b.AW[k-1]'(by omega):=⟨_,rfl⟩;have sx:b.AW.getD (k+1+N) Item.zero=d:=by rw[AJ,Ak hN,kf];rfl
 have hga:b.AW.getD (k-1) Item.zero=an:=by rw[AJ,Ak Ab,Ŕ];rfl
 have e:b.round nm=(true,BS.GJ fe.c d.node an.node (BS.KG d.node an.node (k+1+N) k N (b,d.node,f))):=by
  unfold BS.round;simp only
  rw[Ad hf,ef,AY,WH,Ad hk,Ad hor,Ad hfa,X,eN,AY,AY,sx,hga,(Ab:k+1+N-1 -k=N)]
 have la:=ok.op d (by rw[kf];exact AN _);have aDW:b.AW[k].node=fe.c.node:=by simpa[Bz] using hkq
 have ţ:b.a.has fe.c.node:=by rw[<-aDW];exact(ok.op _ (AN _)).1
 have Ť:b.A5[f].node≠0:=by rw[<-E];have:=ţ.1;omega
 have YQ:=cm ok.jr Hm Ť;rw[<-E] at YQ;have KI:=rm.DE _ (AN Hm);rw[<-E] at KI;have VB:=Hw (n:=k) Ab Ab;have r5:=YC w1.sA ((k-1:Nat):Int);rw[Ie Ab,<-Ŕ] at r5;have r6:=YC w1.sA ((k+1+N:Nat):Int);rw[Ie hN,<-kf] at r6;have s5:=aDS z an;have Wa:h.length<B.length:=(Al.1 z).1;have hbn:h.length≠bi:=λe=>Nj (.inl e);have yk:(B.set h.length (.cells (FO fe f f an Item.zero 0)))[h.length]?=_:=AO Wa;have L:BX (B.set h.length (.cells (FO fe f f an Item.zero 0))) bi a o c t G b:=w1.Dn λj hj=>Ap λe=>Nj (by rw[e];exact hj);have x2:=(EW Z h.length).trans (pL (v:= .cells (FO fe f f an Item.zero 0)));generalize B.set h.length (.cells (FO fe f f an Item.zero 0))=H2 at*;have s6:=aDT yk d;have aQ:h.length<H2.length:=(Al.1 yk).1;have Q:(H2.set h.length (.cells (FO fe f f an d 0)))[h.length]?=_:=AO aQ;have w3:BX (H2.set h.length (.cells (FO fe f f an d 0))) bi a o c t G b:=L.Dn λj hj=>Ap λe=>Nj (by rw[e];exact hj);have x3:=x2.trans (pL (v:= .cells (FO fe f f an d 0)));generalize H2.set h.length (.cells (FO fe f f an d 0))=H3 at*;have l9:A7 H3 none (Pt h.length 9)=some (I d.node):=At.load ⟨_,Q,rfl⟩;have t13:At H3 h.length 13 (I 0):=⟨_,Q,rfl⟩;have s7:=t13.store (u:= I d.node) rfl;have st4:=If (k:=13) (v:= I d.node) Q;have w4:BX (put H3 h.length 13 (I d.node)) bi a o c t G b:=w3.Dn λj hj=>Cj λe=>Nj (by rw[<-e];exact hj);have x4:=x3.trans (P5 (k:=13) (v:= I d.node));generalize put H3 h.length 13 (I d.node)=H4 at*;have i0:pK H4 bi a h.length t G fe an d k N (m+10) (b,d.node,f) N H4 o c G (b,d.node,f):=
  ⟨Ag _,w4,hc,ok,rm.le Ab,la.1,by rw[YQ];exact st4,Nj,.refl,by rw[YQ];omega,by show f<=1000000000;omega,rfl,Dv,rfl,ţ⟩
 have le0:=(We (blk:=d.node) (anc:=an.node) (far:=k+1+N) (k:=k) (c:=N) (s:=(b,d.node,f)) ok la.1).2.2;obtain⟨h5,o5,c5,G5,s',r7,es,i⟩:=aH1 i0 Ab X hN;rw[<-es] at le0 e;obtain⟨q,hq,ki,hq0,hq2,hq3⟩:=HC i.V5;have D:=i.st;rw[ki] at D;have hmk:=i.mkb;have Zn:h.length≠bi:=hbn;have l5:A7 h5 none (Pt h.length 5)=some (I an.node):=At.load ⟨_,D,rfl⟩;obtain⟨u6,r8⟩:=ř i.w i.ok.ba i.rm an.node;have w6:=i.w.Ib (u:=u6);have w6':=i.w.C0 (u:=u6);have hl5:h.length<h5.length:=(Al.1 D).1;have st6:(h5++u6)[h.length]?=_:=(Ai hl5).trans D;have l13:A7 (h5++u6) none (Pt h.length 13)=some (I s'.2.1):=At.load ⟨_,st6,rfl⟩;have hl6:h.length<(h5++u6).length:=by rw[Av];omega
 obtain⟨h7,G7,r9,w7,x7⟩:=pC (x:=s'.2.1) (p:=(s'.1.place an.node).1) (bf:=(s'.1.place an.node).2) w6 i.ok.ba i.rm;have hn7:¬Bt bi G7 h.length:=λhg=>by
  rcases x7.Bt h.length hg with hg|hg
  .exact i.hn hg
  .omega
 have C:h7[h.length]?=_:=(x7.old h.length hl6 i.hn).trans st6;have l3b:A7 h7 (some 3) (Pt h.length 0)=some (.agg fe.row):=aDU C;have l9b:A7 h7 none (Pt h.length 9)=some (I d.node):=At.load ⟨_,C,rfl⟩;obtain⟨r,cq,hr⟩:=yi fe h7;have le7:Le s'.1.a (s'.1.a.EA s'.2.1 (s'.1.place an.node).1 (s'.1.place an.node).2):=I7;have W:=i.ok.KH (OE (n:=s'.2.1) (p:=(s'.1.place an.node).1) (b:=(s'.1.place an.node).2) i.ok.ok) le7;have R:=i.rm.KH (J8 (x:=s'.2.1) (p:=(s'.1.place an.node).1) (bf:=(s'.1.place an.node).2));obtain⟨b2,Ob⟩:∃b2,b2={s'.1 with a:=s'.1.a.EA s'.2.1 (s'.1.place an.node).1 (s'.1.place an.node).2}:=⟨_,rfl⟩;have Zi:b2.AW=s'.1.AW:=by rw[Ob]
 have IZ:b2.A5=s'.1.A5:=by rw[Ob]
 have le2:Le s'.1.a b2.a:=by rw[Ob];exact le7
 rw[<-Ob] at w7 W R;obtain⟨K,G8,r11,w8,x8⟩:=xy (m:=m+7) w7 W.ba (R.le Ab) hr fe.ok KI.2 KI.1 d.node 1;obtain⟨S_,fr,le8⟩:=P1 (nm:=fe.c.name) (at_:=fe.c.Az) (p:=d.node) W J1;have ť:=I8 (m:=m+7) (nm:=fe.c.name) (l:=fe.c.Az) (sp:=1) (p:=d.node) (R.le Ab) KI.2;obtain⟨g,hnw⟩:∃g,g=b2.GB fe.c.name fe.c.Az 1:=⟨_,rfl⟩;obtain⟨b3,ni⟩:∃b3,b3=b2.Es fe.c.name fe.c.Az 1 d.node:=⟨_,rfl⟩;have ho3:b3.AW=s'.1.AW:=by rw[ni,<-Zi];unfold BS.Es;rw[Af J1]
 have Nv:b3.A5=s'.1.A5:=by rw[ni,<-IZ];unfold BS.Es;rw[Af J1]
 rw[<-hnw] at r11 fr;rw[<-ni] at w8 S_ fr le8 ť;have hl7:h.length<h7.length:=(Al.1 C).1;have hn8:¬Bt bi G8 h.length:=λhg=>by
  rcases x8.Bt h.length hg with hg|hg
  .exact hn7 hg
  .omega
 have P:K[h.length]?=_:=(x8.old h.length hl7 hn7).trans C;have l9c:A7 K none (Pt h.length 9)=some (I d.node):=At.load ⟨_,P,rfl⟩;obtain⟨kv,r12,bu⟩:∃v,BK cx 306 [Pt a 0,I d.node] K v K/\DV (b3.a.nd d.node).Bb v:=by obtain⟨n',m',ps,wa⟩:=w8.w.pa;exact aA0 wa ť.Zp (ť.Zp.Bb S_.ok d.node)
 have aH9:(b3.a.nd d.node).Bb.length<=1000000000:=ť.Zp.Bb S_.ok d.node;have VY:g.row=[I g.node,I g.Bc,.str g.name,.bool g.O0]:=rfl;rw[Ci.row] at cq l3b;have Jl:Ev cx 189 [Pt bi 0,.str nm] h λr h'=>r= .bool true/\∃o' c' G',BX h' bi a o' c' t G' (BS.GJ fe.c d.node an.node s')/\B1 (BS.GJ fe.c d.node an.node s').A5 c'/\DB h (Bt bi G) h' (Bt bi G'):=by
  unfold Ev;rw[M8,uR];simp only[abS,Nat.reduceLeDiff,↓reduceIte,AT,V.Ac,qI,l3,e1,<-y,l0,r2.Ac,o7,pM,T.Ac,r4.Ac,eN,(Ab:¬((k+1+N:Nat):Int)<0),VB,r5.Ac,r6.Ac,s5,s6,l9,s7];simp only[abS,r7.Ac,l5,r8.Ac];simp only[abS,l13,r9.Ac];simp only[BF,l3b,l9b];simp only[abS,↓reduceIte,Fc,cq.Ac,BN,r11.Ac,l9b];simp only[BF,w8.l0,l9c,r12.Ac,AV.CN bu];have x8':DB h (MU h.length bi G) K (MU h.length bi G8):=(((x4.trans i.x).trans (EW w6' h.length)).trans (EW x7 h.length)).trans (EW x8 h.length);refine DW (i:=0) (λj:Nat=>[I (j:Int)]) (λj A=>j<=(b3.a.nd d.node).Bb.length/\∃H,BX A bi a o5 c5 t H {b3 with a:=BS.Cy b3.a g.node ((b3.a.nd d.node).Bb.take j)}/\EB {b3 with a:=BS.Cy b3.a g.node ((b3.a.nd d.node).Bb.take j)}/\BZ {b3 with a:=BS.Cy b3.a g.node ((b3.a.nd d.node).Bb.take j)} (m+7)/\DB K (Bt bi G8) A (Bt bi H)) (λj=>(b3.a.nd d.node).Bb.length-j)
   (λj A=>j=(b3.a.nd d.node).Bb.length/\∃H,BX A bi a o5 c5 t H {b3 with a:=BS.Cy b3.a g.node ((b3.a.nd d.node).Bb.take j)}/\EB {b3 with a:=BS.Cy b3.a g.node ((b3.a.nd d.node).Bb.take j)}/\BZ {b3 with a:=BS.Cy b3.a g.node ((b3.a.nd d.node).Bb.take j)} (m+7)/\DB K (Bt bi G8) A (Bt bi H)) 0 rfl ⟨AZ _,G8,w8,S_,ť,.refl⟩ ?_ ?_
  .rintro j A ⟨hj,H,w9,vF,cr,Y⟩;rcases AQ j (b3.a.nd d.node).Bb.length with hlt|Ei
   .have e9:=AV.BM (k:= .i64) bu hlt;obtain⟨U8,J,U,Uc,vG⟩:=pC (x:=(b3.a.nd d.node).Bb[j]) (p:=g.node) (bf:=0) w9 vF.ba cr;have lej:=(M7 (n:=g.node) (l:=(b3.a.nd d.node).Bb.take j) S_.ok).2;rw[Ua (by show((BS.Cy b3.a g.node ((b3.a.nd d.node).Bb.take j)).nd g.node).kind=4;rw[lej.kind _ fr.has];exact fr.kind)] at Uc;have hs:BS.Cy b3.a g.node ((b3.a.nd d.node).Bb.take (j+1))=(BS.Cy b3.a g.node ((b3.a.nd d.node).Bb.take j)).FX g.node (b3.a.nd d.node).Bb[j] 0:=by rw[AE hlt,Rb]
    rw[BH] at e9;simp only[abS,(Ab:(j:Int)<((b3.a.nd d.node).Bb.length:Int)),e9,U.Ac,BO (Ab:j<9223372036854775807)];refine .next (j+1) rfl ⟨hlt,J,by rw[hs];exact Uc,?_,?_,Y.trans vG⟩ Ab
    .have:=vF.KH (Qw (p:=g.node) (n:=(b3.a.nd d.node).Bb[j]) (b:=0) vF.ok) OD;rw[hs];exact this
    .have:=cr.KH (J7 (p:=g.node) (x:=(b3.a.nd d.node).Bb[j]) (bf:=0));rw[hs];exact this
   .simp only[abS,(Ab:¬(j:Int)<((b3.a.nd d.node).Bb.length:Int))];exact .HG j rfl ⟨Ab,H,w9,vF,cr,Y⟩
  .rintro j A ⟨rfl,H,w9,vF,cr,Y⟩;rw[Bx] at w9 vF cr;have hl8:h.length<K.length:=(Al.1 P).1;have hn9:¬Bt bi H h.length:=λhg=>by
    rcases Y.Bt h.length hg with hg|hg
    .exact hn8 hg
    .omega
   have O:A[h.length]?=_:=(Y.old h.length hl8 hn8).trans P;have l9d:A7 A none (Pt h.length 9)=some (I d.node):=At.load ⟨_,O,rfl⟩;have le9:=(M7 (n:=g.node) (l:=(b3.a.nd d.node).Bb) S_.ok).2;have lef:Le b.a (BS.Cy b3.a g.node (b3.a.nd d.node).Bb):=((le0.trans le2).trans le8).trans le9;obtain⟨U8,J,U,Uc,vG⟩:=pC (x:=g.node) (p:=d.node) (bf:=0) w9 vF.ba cr;rw[Ua (by show((BS.Cy b3.a g.node (b3.a.nd d.node).Bb).nd d.node).kind=4;rw[lef.kind _ la.1];exact la.2.1)] at Uc;have lP:h.length<A.length:=(Al.1 O).1;have aNb:¬Bt bi J h.length:=λhg=>by
    rcases vG.Bt h.length hg with hg|hg
    .exact hn9 hg
    .omega
   have aIa:U8[h.length]?=_:=(vG.old h.length lP hn9).trans O;have l3c:A7 U8 none (Pt h.length 3)=some (I (q:Int)):=At.load ⟨_,aIa,rfl⟩;have aNc:=cr.KH (J7 (p:=d.node) (x:=g.node) (bf:=0));have Ŧ:B1 ({b3 with a:=(BS.Cy b3.a g.node (b3.a.nd d.node).Bb).FX d.node g.node 0}:BS).A5 c5:=by simp only;rw[Nv];exact i.hc
   have hqa:=i.rm.A5;obtain⟨Zm,XK,r14,ŧ,lf,Ũ,x11⟩:=cj Uc Ŧ aNc aIa aNb (k:=q) (by simp only;rw[Nv];exact hq) ⟨Ab,Ab⟩ ⟨Ab,Ab⟩;simp only at ŧ lf;have l1:A7 Zm none (Pt h.length 1)=some (.str fe.c.name):=At.load ⟨_,Ũ,rfl⟩;have l2:A7 Zm none (Pt h.length 2)=some fe.v:=At.load ⟨_,Ũ,rfl⟩;have l4:A7 Zm none (Pt h.length 4)=some (I (down q (s'.2.2:Int))):=At.load ⟨_,Ũ,rfl⟩;obtain⟨fs2,aD0,Sk⟩:=lf;have aSd:b3.A5.length=s'.1.A5.length:=by rw[Nv]
   have aSe:fs2.length<=900000000:=by have h1:=Ca List.length aD0;rw[Aj,Hj (by rw[Nv];exact hq)] at h1;omega
   have aM2:=KI.2.1;obtain⟨u1,e2,he2,r15,O7⟩:=aMj (h:=Zm) (id:=bi) (o:=3) (l:=fs2) ⟨XK,ŧ.qM,Sk⟩ Ab (e:=⟨{fe.c with node:=g.node},fe.v,fe.ok⟩) (by unfold Zo;simp only;omega) (down q (s'.2.2:Int));have aNd:BK cx 335 [Pt bi 3,.agg [I g.node,.str fe.c.name,fe.v],I (down q (s'.2.2:Int))] Zm (.tuple []) (put Zm bi 3 u1):=r15;obtain⟨Ub,VO⟩:∃Ub:Nat,Ub=if q<s'.2.2 then s'.2.2 -1 else s'.2.2:=⟨_,rfl⟩
   have yl:down q (s'.2.2:Int)=(Ub:Int):=by rw[VO];unfold down;split<;>split<;>omega
   have T_:=ŧ.Kh (u:=u1) (l:=(Bi b3.A5 q).take (CE Ub (Bi b3.A5 q).length)++{fe.c with node:=g.node}::(Bi b3.A5 q).drop (CE Ub (Bi b3.A5 q).length));have ũ:B1 ((Bi b3.A5 q).take (CE Ub (Bi b3.A5 q).length)++{fe.c with node:=g.node}::(Bi b3.A5 q).drop (CE Ub (Bi b3.A5 q).length)) u1:=by refine⟨_,?_,O7⟩;rw[yl,BE,Bk,Ft,JJ,aD0,he2,<-aD0,Aj]
   have hob:=i.rm.AW;obtain⟨u2,r16,IE⟩:=aDA T_.sO (by simp only;rw[ho3];omega) fe.c.node;have M:=T_.HZ IE;have qF:(C4 fe.c.node b3.AW).length<=s'.1.AW.length:=by rw[<-ho3];exact LA.length_le
   have aNe:(put (put Zm bi 3 u1) bi 2 u2)[h.length]?=_:=(Cj Zn).trans ((Cj Zn).trans Ũ);have l9e:A7 (put (put Zm bi 3 u1) bi 2 u2) none (Pt h.length 9)=some (I d.node):=At.load ⟨_,aNe,rfl⟩;have r17:=ZP M.sA Dv d.node;have hli: -1<=AR (Bz d.node) (C4 fe.c.node b3.AW)/\AR (Bz d.node) (C4 fe.c.node b3.AW)<=(C4 fe.c.node b3.AW).length:=by rcases Dh (q:=Bz d.node) (l:=C4 fe.c.node b3.AW) with⟨h,_⟩|⟨n,h1,h2,_⟩<;>omega
   have add:=Oz (a:=AR (Bz d.node) (C4 fe.c.node b3.AW)) (b:=1) Ab Ab;obtain⟨u3,r18,Ş⟩:=aL4 M.sO Dv g (AR (Bz d.node) (C4 fe.c.node b3.AW)+1);have w14:=M.HZ Ş;simp only[abS,Nat.reduceLeDiff,↓reduceIte,AT,Fc,l9d,U.Ac,l3c,r14.Ac,l1,l2,k_,l4,aNd.Ac,r16.Ac,l9e,r17.Ac,add,r18.Ac];have hE:BS.GJ fe.c d.node an.node s'={b3 with a:=(BS.Cy b3.a g.node (b3.a.nd d.node).Bb).FX d.node g.node 0,A5:=(Bi b3.A5 q).take (CE Ub (Bi b3.A5 q).length)++{fe.c with node:=g.node}::(Bi b3.A5 q).drop (CE Ub (Bi b3.A5 q).length),AW:=(C4 fe.c.node b3.AW).take (E2 (AR (Bz d.node) (C4 fe.c.node b3.AW)+1) (C4 fe.c.node b3.AW).length)++g::(C4 fe.c.node b3.AW).drop (E2 (AR (Bz d.node) (C4 fe.c.node b3.AW)+1) (C4 fe.c.node b3.AW).length)}:=by
    have th:Fi fe.c.node b3.A5=(q:Int):=by rw[Nv];exact ki
    unfold BS.GJ;simp only
    rw[<-Ob,<-ni,<-hnw,th,AY,<-VO]
   rw[hE];refine⟨_,rfl,rfl,u3,u1,J,w14,ũ,YR (Ag _) ?_⟩;exact((((x8'.trans (EW (Y.trans vG) h.length)).trans x11).trans (EW Bg h.length)).trans (EW Bg h.length)).trans (EW Bg h.length)
 obtain⟨r,h',hr,rfl,o',c',G',w',JO,x'⟩:=Jl.ret;rw[e];exact⟨h',o',c',G',hr,w',JO,x'⟩
end
section
variable{h h':Ah}{bi a ai:Nat}{o c t:Aa}{G G' F:Nat->Prop}{b b':BS}{x:Int}{m:Nat}
variable{nm:An}{av:Aa}{l:List A6}{r:List Aa}{sp p:Int}{e:Ci}{at_ mk last:Int}{anc far:Item}
def lg{blk anc:Int}{far i:Nat}{l:Int}{mk:Nat}:(BS.Fp blk anc far i b l mk).1.AW.length<=b.AW.length:=by
 have h1:(Bi b.AW i).length<=b.AW.length:=Dl.length_le;unfold BS.Fp;simp only
 split;.exact h1
 .split;.exact h1
  .have Oa:∀nm l p,(b.Es nm l 1 p).AW=b.AW:=λnm l p=>by unfold BS.Es;rw[Af J1]
   simp only[Oa,Bp];exact Ag _
def bZ{blk anc:Int}{far k m:Nat}:∀{c:Nat} {s:BS×Int×Nat},BZ s.1 (m+4*c)->BZ (BS.KG blk anc far k c s).1 m/\(BS.KG blk anc far k c s).1.AW.length<=s.1.AW.length
 |0,s,r=>⟨r.le Ab,Ag _⟩
 |c+1,s,r=>by have d:=OM (blk:=blk) (anc:=anc) (far:=far) (i:=k+(c+1)) (l:=s.2.1) (mk:=s.2.2) (m:=m+4*c) (r.le Ab);have h:=bZ (blk:=blk) (anc:=anc) (far:=far) (k:=k) (m:=m) (c:=c) (s:=BS.Fp blk anc far (k+(c+1)) s.1 s.2.1 s.2.2) d;exact⟨h.1,Br h.2 lg⟩
def pO{fe:Cc}{blk anc:Int}{s:BS×Int×Nat}(r:BZ s.1 (m+4))(KI:fe.name.length<=1000/\DP fe.Az):BZ (BS.GJ fe blk anc s) m/\(BS.GJ fe blk anc s).AW.length<=s.1.AW.length+1:=by
 unfold BS.GJ;simp only
 generalize bJ:s.1.place anc=pb;have j:=r.KH (J8 (x:=s.2.1) (p:=pb.1) (bf:=pb.2));generalize Ob:({s.1 with a:=s.1.a.EA s.2.1 pb.1 pb.2}:BS)=b2 at j;have Zi:b2.AW=s.1.AW:=by rw[<-Ob]
 have d:=I8 (m:=m+1) (nm:=fe.name) (l:=fe.Az) (sp:=1) (p:=blk) (j.le Ab) KI.2;have Oa:(b2.Es fe.name fe.Az 1 blk).AW=b2.AW:=by unfold BS.Es;rw[Af J1]
 have g:(b2.GB fe.name fe.Az 1).name.length<=1000:=NZ KI.1;generalize b2.Es fe.name fe.Az 1 blk=b3 at*;generalize b2.GB fe.name fe.Az 1=n at*;have q:=d.KH ((Q8 (n:=n.node) (l:=(b3.a.nd blk).Bb)).trans (J7 (p:=blk) (x:=n.node) (bf:=0)));have MR:∀{U:Type} (l:List U) (k:Nat) (y:U),(l.take k++y::l.drop k).length=l.length+1/\∀z∈l.take k++y::l.drop k,z∈l\/z=y:=λl k y=>⟨by rw[Av,Bf,Aw,Be];omega,λz hz=>by
  rcases Ax.1 hz with hz|hz
  .exact .inl (Bn hz)
  .rcases AX.1 hz with rfl|hz
   .exact .inr rfl
   .exact .inl (Bw hz)⟩
 have hr:=LA (n:=fe.node) (l:=b3.AW);have hd:=Dl (l:=b3.A5) (k:=(Fi fe.node b3.A5).toNat);have f:=q.le (m':=m) Ab;refine⟨⟨f.n,f.at_,f.data,?_,?_,f.tm,λe he=>?_,λi hi=>?_⟩,?_⟩;.simp only[(MR _ _ _).1];have:=hr.length_le;have:=d.AW;omega
 .simp only[(MR _ _ _).1];have:=hd.length_le;have:=d.A5;omega
 .rcases(MR _ _ _).2 e he with he|rfl
  .exact d.DE e (hd.subset he)
  .exact KI
 .rcases(MR _ _ _).2 i hi with hi|rfl
  .exact d.Yr i (hr.subset hi)
  .exact g
 .simp only[(MR _ _ _).1];have h1:=hr.length_le;have h2:=Ca List.length (Oa.trans Zi);omega
def ON(r:BZ b (m+4*b.AW.length+10))(nm:An):BZ (b.round nm).2 m/\(b.round nm).2.AW.length<=b.AW.length+1:=by
 have d:BZ b m:=r.le Ab;unfold BS.round;simp only
 split
 .have key:(b.Ds nm).a=b.a/\List.Sublist (b.Ds nm).AW b.AW/\(b.Ds nm).A5=b.A5/\(b.Ds nm).tm=b.tm:=by
   unfold BS.Ds;split
   .split;.exact⟨rfl,IK.trans DO,rfl,rfl⟩
    .exact⟨rfl,AP _,rfl,rfl⟩
   .exact⟨rfl,AP _,rfl,rfl⟩
  exact⟨d.sub key.1 key.2.1 (by rw[key.2.2.1];exact AP _) (by rw[key.2.2.2];exact Ag _),Br key.2.1.length_le (Fj _)⟩
 .rename_i hf;obtain⟨f,Hm,g⟩:=Tc (Js.1 hf);have WH:b.A5.getD (GF nm b.A5).toNat Cc.zero=b.A5[f]:=by rw[g,AY,AJ,Ak Hm];rfl
  have KI:=r.DE _ (AN Hm);rw[WH];split;.exact⟨d.sub rfl (AP _) Dl (Ag _),Fj _⟩
  .split;.exact⟨d,Fj _⟩
   .split;.exact⟨d.sub rfl IK Dl (Ag _),Br IK.length_le (Fj _)⟩
    .rename_i hk _ hfa;have hlt:(D6 b.A5[f].node b.AW).toNat-1 -(AR (Bz b.A5[f].node) b.AW).toNat<=b.AW.length:=by
      rw[IG];split;.omega
      .unfold E1;split;.rename_i j hj;have:=(EI.1 hj).1;rw[Be] at this;omega
       .omega
     have h1:=bZ (blk:=(b.AW.getD (D6 b.A5[f].node b.AW).toNat Item.zero).node) (anc:=(b.AW.getD ((AR (Bz b.A5[f].node) b.AW).toNat-1) Item.zero).node) (far:=(D6 b.A5[f].node b.AW).toNat) (k:=(AR (Bz b.A5[f].node) b.AW).toNat) (m:=m+4) (c:=(D6 b.A5[f].node b.AW).toNat-1 -(AR (Bz b.A5[f].node) b.AW).toNat) (s:=(b,(b.AW.getD (D6 b.A5[f].node b.AW).toNat Item.zero).node,(GF nm b.A5).toNat)) (r.le Ab);have h2:=pO (fe:=b.A5[f]) (blk:=(b.AW.getD (D6 b.A5[f].node b.AW).toNat Item.zero).node) (anc:=(b.AW.getD ((AR (Bz b.A5[f].node) b.AW).toNat-1) Item.zero).node) h1.1 KI;exact⟨h2.1,Br h2.2 (Nat.succ_le_succ h1.2)⟩
def Vb:∀{n:Nat} {b:BS} {k:Nat},b.AW.length<=k->BZ b (m+n*(4*(k+n)+10))->BZ (BS.Eh n b nm) m/\(BS.Eh n b nm).AW.length<=k+n
 |0,b,k,hk,r=>⟨r.le Ab,hk⟩
 |n+1,b,k,hk,r=>by
  have e:(n+1)*(4*(k+(n+1))+10)=n*(4*(k+1+n)+10)+(4*(k+(n+1))+10):=by rw[BJ,Ea,(Ab:k+(n+1)=k+1+n)]
  rw[e] at r;have h1:=ON (m:=m+n*(4*(k+1+n)+10)) (r.le Ab) nm;unfold BS.Eh;simp only
  split;.have h2:=Vb (n:=n) (k:=k+1) Ab h1.1;exact⟨h2.1,Ab⟩
  .exact⟨h1.1.le Ab,Ab⟩
def aNf(w:BX h bi a o c t G b)(hc:B1 b.A5 c)(ok:EB b)(rm:BZ b (m+8*(4*(b.AW.length+8)+10)))(nm:An):
  ∃h' o' c' G',BK cx 75 [Pt bi 0,.str nm] h (.tuple []) h'/\BX h' bi a o' c' t G' (b.Ik nm)/\B1 (b.Ik nm).A5 c'/\DB h (Bt bi G) h' (Bt bi G'):=by
 have ho:=rm.AW;have C:=aHt w rm;have em:AB (.C8 1) [.str nm]=some (.sl 1 ([nm].map CC)):=D1 (ws:=[nm]) rfl AH;have r2:BK cx 162 [.agg (FA b.AW).row,.sl 1 ([nm].map CC)] h (.bool (Bs [nm] (FA b.AW))) h:=u9 (ws:=[nm]) CX AH _ h;have H:=hc.at w rm (FA b.AW).node;have E:b.Lk.A5=b.A5:=by unfold BS.Lk;split<;>rfl
 by_cases h1:Bs [nm] (FA b.AW)=true/\Fi (FA b.AW).node b.A5<0
 .obtain⟨h2,u,L,q,j⟩:=aDO w rm;have e:b.Ik nm=b.Lk:=by unfold BS.Ik;rw[Af h1]
  rw[e];refine⟨h2,u,c,G,?_,q,by rw[E];exact hc,j⟩;rw[h1.1] at r2;rw[Ae,fG];simp only[abS,Fc,(Iu w).Ac,C.Ac,em,r2.Ac,H.Ac,h1.2,L.Ac]
 have e:b.Ik nm=BS.Eh 8 b nm:=by unfold BS.Ik;rw[Ad h1]
 rw[e];have Jl:Ev cx 75 [Pt bi 0,.str nm] h λr h'=>r= .tuple []/\∃o' c' G',BX h' bi a o' c' t G' (BS.Eh 8 b nm)/\B1 (BS.Eh 8 b nm).A5 c'/\DB h (Bt bi G) h' (Bt bi G'):=by
  unfold Ev;rw[fG];have HG:∀(Q:HF) (k:DX->List Aa->IT),(∀x vs h1,(x= .exit 0\/x= .ret)->(∃o' c' G',BX h1 bi a o' c' t G' (BS.Eh 8 b nm)/\B1 (BS.Eh 8 b nm).A5 c'/\DB h (Bt bi G) h1 (Bt bi G'))->W cx (k x vs) Q h1)->
    W cx (.loop 5 [I 0] (λd=> .op (.int .lss) [g d 0,I 8] λv14=> .Gg v14 (.call 189 [Pt bi 0,.str nm] λB=> .op (.un .not) [B] λv16=> .Gg v16 (.ret .ret [g d 0]) (.op (.int .add) [g d 0,I 1] λA=> .ret .normal [A])) (.ret (.exit 0) [g d 0])) k) Q h:=by
   intro Q k hk;refine Bl (λn:Nat=>[I ((8 -n:Nat):Int)]) (λn h1=>n<=8/\∃D v y b1,BX h1 bi a D v t y b1/\B1 b1.A5 v/\EB b1/\BZ b1 (m+n*(4*(b.AW.length+8)+10))/\b1.AW.length<=b.AW.length+(8 -n)/\BS.Eh 8 b nm=BS.Eh n b1 nm/\DB h (Bt bi G) h1 (Bt bi y)) (λn=>n) 8 rfl ⟨Ag _,o,c,G,b,w,hc,ok,rm,Ab,rfl,.refl⟩ ?_;rintro n h1 ⟨hn,D,v,y,b1,w1,RS,VL,vC,Wa,i,z⟩;cases n with
   |zero=>simp only[abS,(AU:¬((8 -0:Nat):Int)<8)];exact hk _ _ _ (.inl rfl) ⟨D,v,y,by rw[i];exact w1,by rw[i];exact RS,z⟩
   |succ n=>
    have hsp:(n+1)*(4*(b.AW.length+8)+10)=n*(4*(b.AW.length+8)+10)+(4*(b.AW.length+8)+10):=by rw[BJ,Ea]
    rw[hsp] at vC;have lj:BZ b1 (m+n*(4*(b.AW.length+8)+10)+4*b1.AW.length+10):=vC.le Ab;obtain⟨h2,u,J,K,s,q,IZ,j⟩:=aM4 w1 RS VL lj nm;obtain⟨U9,aQ⟩:=ON lj nm;have xz:=(Yq (nm:=nm) VL).1;have hlt:((8 -(n+1):Nat):Int)<8:=Ab;have inc:AB (.int .add) [I ((8 -(n+1):Nat):Int),I 1]=some (I ((8 -n:Nat):Int)):=by have:=BO (n:=8 -(n+1)) Ab;rwa [(Ab:8 -(n+1)+1=8 -n)] at this
    have f:BS.Eh (n+1) b1 nm=if(b1.round nm).1 then BS.Eh n (b1.round nm).2 nm else(b1.round nm).2:=rfl
    cases hr:(b1.round nm).1 with
    |true=>rw[hr] at s f;simp only[abS,hlt,s.Ac,inc];exact AL.next n rfl ⟨Ab,u,J,K,_,q,IZ,xz,U9,Ab,i.trans f,z.trans j⟩ Ab
    |false=>rw[hr] at s f;simp only[abS,hlt,s.Ac];exact hk _ _ _ (.inr rfl) ⟨u,J,K,by rw[i,f];exact q,by rw[i,f];exact IZ,z.trans j⟩
  by_cases h2:Bs [nm] (FA b.AW)=true
  .have M:¬Fi (FA b.AW).node b.A5<0:=λh=>h1 ⟨h2,h⟩;rw[h2] at r2;simp only[abS,Fc,(Iu w).Ac,C.Ac,em,r2.Ac,H.Ac,M];refine HG _ _ ?_;rintro x vs h1 (rfl|rfl) ⟨o',c',G',a1,a2,a3⟩;.simp only[BF];exact⟨_,rfl,rfl,o',c',G',a1,a2,a3⟩
   .simp only[BF];exact⟨_,rfl,rfl,o',c',G',a1,a2,a3⟩
  .have h2:Bs [nm] (FA b.AW)=false:=by simpa using h2
   rw[h2] at r2;simp only[abS,Fc,(Iu w).Ac,C.Ac,em,r2.Ac];refine HG _ _ ?_;rintro x vs h1 (rfl|rfl) ⟨o',c',G',a1,a2,a3⟩;.simp only[BF];exact⟨_,rfl,rfl,o',c',G',a1,a2,a3⟩
   .simp only[BF];exact⟨_,rfl,rfl,o',c',G',a1,a2,a3⟩
 obtain⟨r,h',hr,rfl,o',c',G',w',JO,x'⟩:=Jl.ret;exact⟨h',o',c',G',hr,w',JO,x'⟩
end
structure pP where
 k:Int
 name:An
 Az:List A6
 Bc:Int
 a:Int
 b:Bool
 s:An
 r:Int
 n:Int
def N2(h:Int):Item:=⟨h,0,[],false⟩
def YS(b:BS)(q:pP):BS×Item:=
 if q.k=1 then(b.EG q.name q.Az 1,N2 (b.a.len+1))
 else if q.k=2 then(b.EG q.name q.Az q.Bc,N2 (b.Pc q.Bc))
 else if q.k=3 then(b.Ks q.name q.Az,N2 (b.a.len+1))
 else if q.k=4 then(b.Nn q.r,Item.zero)
 else if q.k=5 then(b.Fe q.s q.a,Item.zero)
 else if q.k=6 then(b.Fs q.name q.Az q.n,Item.zero)
 else if q.k=7 then(b.JV,Item.zero)
 else if q.k=8 then(b.CR,Item.zero)
 else if q.k=9 then(b.Ds q.name,Item.zero)
 else if q.k=10 then(b.Ik q.name,Item.zero)
 else if q.k=11 then(b.GG,Item.zero)
 else if q.k=12 then(b.Gf q.Az q.a,Item.zero)
 else if q.k=13 then(b.Cv,Item.zero)
 else if q.k=14 then({b with stop:=true},Item.zero)
 else if q.k=15 then({b with EV:=q.b},Item.zero)
 else if q.k=16 then({b with tm:=b.tm++[q.n]},Item.zero)
 else if q.k=17 then({b with A5:=b.A5++[Cc.zero]},Item.zero)
 else if q.k=18 then(b.Lk,b.oL)
 else if q.k=19 then({b with head:=q.a},Item.zero)
 else if q.k=20 then({b with mode:=q.n},Item.zero)
 else if q.k=21 then({b with A5:=Ee b.A5},Item.zero)
 else if q.k=22 then({b with AW:=DA Cx (Bs [q.name]) b.AW},Item.zero)
 else if q.k=23 then({b with MT:=q.a},Item.zero)
 else if q.k=24 then(b.Es q.name q.Az q.Bc q.a,b.GB q.name q.Az q.Bc)
 else(b,Item.zero)
structure lp(q:pP):Prop where
 name:q.name.length<=1000
 Az:DP q.Az
 s:q.s.length<=1000
 r: -2147483648<=q.r/\q.r<=2147483647
section
variable{b:BS}{q:pP}{m j:Nat}
def aD1(o:EB b){nm:An}{l:List A6}{sp p:Int}:EB (b.Es nm l sp p):=by
 by_cases hs:BS.HX sp;.exact(P1 o hs).1
 .unfold BS.Es;rw[Ad hs];exact o
def cu(o:EB b):EB {b with A5:=b.A5++[Cc.zero]}:=by have:=o.aC0 (e:=Cc.zero) (k:=b.A5.length) (.inl rfl) (.inl rfl);rw[Bx,Er] at this;exact this
def EE{U:Type}{P:U->Prop}{c:Prop}[Decidable c]{x y:U}(h1:P x)(h2:P y):P (if c then x else y):=by split;exact h1;exact h2
def YT{P:BS×Item->Prop}(h1:P (b.EG q.name q.Az 1,N2 (b.a.len+1)))(h2:P (b.EG q.name q.Az q.Bc,N2 (b.Pc q.Bc)))(B:P (b.Ks q.name q.Az,N2 (b.a.len+1)))(A:P (b.Nn q.r,Item.zero))(z:P (b.Fe q.s q.a,Item.zero))(y:P (b.Fs q.name q.Az q.n,Item.zero))(x:P (b.JV,Item.zero))(w:P (b.CR,Item.zero))(v:P (b.Ds q.name,Item.zero))(U8:P (b.Ik q.name,Item.zero))(Zm:P (b.GG,Item.zero))(u:P (b.Gf q.Az q.a,Item.zero))(t:P (b.Cv,Item.zero))(p:P ({b with stop:=true},Item.zero))(o:P ({b with EV:=q.b},Item.zero))(l:P ({b with tm:=b.tm++[q.n]},Item.zero))(k:P ({b with A5:=b.A5++[Cc.zero]},Item.zero))(i:P (b.Lk,b.oL))(h:P ({b with head:=q.a},Item.zero))(g:P ({b with mode:=q.n},Item.zero))(f:P ({b with A5:=Ee b.A5},Item.zero))(e:P ({b with AW:=DA Cx (Bs [q.name]) b.AW},Item.zero))(d:P ({b with MT:=q.a},Item.zero))(c:P (b.Es q.name q.Az q.Bc q.a,b.GB q.name q.Az q.Bc))(h0:P (b,Item.zero)):P (YS b q):=by unfold YS;exact EE h1 (EE h2 (EE B (EE A (EE z (EE y (EE x (EE w (EE v (EE U8 (EE Zm (EE u (EE t (EE p (EE o (EE l (EE k (EE i (EE h (EE g (EE f (EE e (EE d (EE c (h0))))))))))))))))))))))))
def aD2(o:EB b):EB (YS b q).1:=YT (P:=λr=>EB r.1) (P2 (nm:=q.name) (at_:=q.Az) (sp:=1) o) (P2 o) (ju o) (yF o) (Ym o) (tZ o) (jw o) (Yo o) (bI o) (jy o) (SV o) (oS o) (Yn o) (o.of_eq rfl rfl rfl rfl) (o.of_eq rfl rfl rfl rfl) (o.of_eq rfl rfl rfl rfl) (cu o) (vd o) (o.of_eq rfl rfl rfl rfl) (o.of_eq rfl rfl rfl rfl) (o.oQ (CM _ _)) (o.SR DO) (o.of_eq rfl rfl rfl rfl) (aD1 o) o
def BZ.cy{k m:Nat}{h:Int}{x:EU}(r:BZ b (m+k))(h1:x.Az.length<=(b.a.nd h).Az.length+k\/x.Az.length<=1000)(h2:x.data.length<=(b.a.nd h).data.length+k\/x.data.length<=100000):BZ {b with a:=b.a.set h x} m:=by
 have hn:(b.a.set h x).n.length=b.a.n.length:=by have:=ò (A:=b.a) (h:=h) (x:=x);unfold Ar.len at this;omega
 have c:=r.le (m':=m) Ab;have rn:=r.n;refine⟨by simp only;rw[hn];exact c.n,λy=>?_,λy=>?_,c.AW,c.A5,c.tm,c.DE,c.Yr⟩
 .simp only;rw[JU];split;.rename_i d;have:=r.at_ h;omega
  .exact c.at_ y
 .simp only;rw[JU];split;.have:=r.data h;omega
  .exact c.data y
def Vd{m:Nat}{s:An}{p bf:Int}(r:BZ b (m+5))(hs:s.length<=4):BZ {b with a:=BS.LP b.a s p bf} m:=by
 have ND:∀d,BZ {b with a:=(b.a.add {kind:=5,CQ:=d,data:=s}).EA (b.a.len+1) p bf} m:=λd=>((r.le (m':=m+1) Ab).JL (NY (AZ _) Dv)).KH J8
 have c:=r.le (m':=m) Ab;unfold BS.LP;split
 .split
  .split;.exact BZ.cy (k:=5) r (.inl Dv) (.inl (by simp only[Av];omega))
   .exact ND _
  .exact ND _
 .exact c
def Kw{m:Nat}{s:An}{p bf:Int}(r:BZ b (m+5))(hs:s.length<=100000):BZ {b with a:=BS.E3 b.a s p bf} m:=by
 unfold BS.E3;split;.exact((r.le (m':=m+1) Ab).JL (NY (AZ _) hs)).KH J8
 .exact r.le Ab
end
section
variable{b:BS}{q:pP}{m j:Nat}{nm:An}
def YU{l:List A6}{x:Int}(r:BZ b (m+1000))(hl:l.length<=1000):BZ (b.Gf l x) m:=by
 unfold BS.Gf;split;.refine BZ.cy (k:=1000) r (.inl ?_) (.inl Dv);have:=Qv (l:=(b.a.nd x).Az++BS.plain l);rw[Av,BS.plain,Aj] at this;unfold BS.plain;simp only;omega
 .exact r.le Ab
def cA:∀{l:List Cc} {b:BS},(BS.Jn l b).2.AW.length<=b.AW.length+l.length/\(BS.Jn l b).2.A5=b.A5/\(BS.Jn l b).1.length=l.length/\∀e∈(BS.Jn l b).1,∃a∈l,e.name=a.name/\e.Az=a.Az
 |[],b=>⟨by simp[BS.Jn],rfl,rfl,λe he=>by simp[BS.Jn] at he⟩
 |e::l,b=>by
  obtain⟨h1,h2,g,f⟩:=cA (l:=l) (b:=b.EG e.name e.Az 1);have i:(b.EG e.name e.Az 1).AW.length<=b.AW.length+1:=by
   unfold BS.EG;rw[Af J1];simp only
   have:(b.Es e.name e.Az 1 (b.place 0).1).AW=b.AW:=by unfold BS.Es;rw[Af J1]
   rw[Av,A9];first|(rw[this];exact Ag _)|exact Ag _
  rw[BS.Jn];refine⟨by simp only[Bf];omega,by simp only;rw[h2,Ek],by simp only[Bf,g],λh he=>?_⟩;rcases AX.1 he with rfl|he
  .exact⟨e,AH,rfl,rfl⟩
  .obtain⟨a,d,c⟩:=f h he;exact⟨a,by simp[d],c⟩
def Td(r:BZ b (m+4*b.A5.length)):BZ b.CR m/\b.CR.AW.length<=b.AW.length+b.A5.length/\b.CR.A5.length=b.A5.length:=by
 have hk:=Ta (b:=b);have a:=bV (l:=b.A5.drop b.Ly) (b:=b) (m:=m) (r.le (by rw[Be];omega)) λe he=>r.DE e (Bw he);obtain⟨h1,h2,c,h⟩:=cA (l:=b.A5.drop b.Ly) (b:=b);rw[Be] at h1 c;have hl:b.CR.A5.length=b.A5.length:=by unfold BS.CR;simp only[Av,Aw,c];omega
 refine⟨⟨a.n,a.at_,a.data,a.AW,?_,a.tm,λe he=>?_,a.Yr⟩,by unfold BS.CR;simp only;omega,hl⟩;.rw[hl];have:=r.A5;omega
 .unfold BS.CR at he;simp only at he;rcases Ax.1 he with he|he
  .exact r.DE e (Bn he)
  .obtain⟨i,g,f,d⟩:=h e he;rw[f,d];exact r.DE i (Bw g)
def pQ{blk anc:Int}{far k:Nat}:∀{c:Nat} {s:BS×Int×Nat},(BS.KG blk anc far k c s).1.A5.length<=s.1.A5.length
 |0,s=>Ag _
 |c+1,s=>by
  refine Br (pQ (c:=c)) ?_;unfold BS.Fp;simp only
  split;.exact Ag _
  .split;.exact Dl.length_le
   .have:∀nm l p,(s.1.Es nm l 1 p).A5=s.1.A5:=λnm l p=>by unfold BS.Es;rw[Af J1]
    simp only[this,Bp];exact Ag _
def lq:(b.round nm).2.A5.length<=b.A5.length+1:=by
 unfold BS.round;simp only
 split
 .have:(b.Ds nm).A5=b.A5:=by
   unfold BS.Ds;split;.split<;>rfl
   .rfl
  rw[this];omega
 .split;.exact Br Dl.length_le (Fj _)
  .split;.exact Fj _
   .split;.exact Br Dl.length_le (Fj _)
    .unfold BS.GJ;simp only
     generalize hs:BS.KG _ _ _ _ _ _=s;have h1:s.1.A5.length<=b.A5.length:=by rw[<-hs];exact pQ
     have:∀(b2:BS) nm l p,(b2.Es nm l 1 p).A5=b2.A5:=λb2 nm l p=>by unfold BS.Es;rw[Af J1]
     simp only[this,Av,Bf,Aw,Be];have h2:∀k,(Bi s.1.A5 k).length<=s.1.A5.length:=λk=>Dl.length_le;refine Br (m:=(Bi s.1.A5 (Fi (b.A5.getD (GF nm b.A5).toNat Cc.zero).node s.1.A5).toNat).length+1) ?_ (Nat.succ_le_succ (Br (h2 _) h1));omega
def YV:∀{n:Nat} {b:BS},(BS.Eh n b nm).A5.length<=b.A5.length+n
 |0,b=>Ag _
 |n+1,b=>by
  have h:=lq (b:=b) (nm:=nm);unfold BS.Eh;simp only
  split;.have:=YV (n:=n) (b:=(b.round nm).2);omega
  .omega
structure Sz(b:BS)(j:Nat):Prop where
 rm:BZ b (5000000*j)
 AW:b.AW.length+1200*j<=125000
 A5:b.A5.length+10*j<=1100
def Sz.of{b':BS}(h:Sz b (j+1))(r:BZ b' (5000000*j))(h1:b'.AW.length<=b.AW.length+1200)(h2:b'.A5.length<=b.A5.length+10):Sz b' j:=⟨r,by have:=h.AW;omega,by have:=h.A5;omega⟩
def Sz.YW{k:Nat}(h:Sz b (j+1))(hk:k<=5000000:=by omega):BZ b (5000000*j+k):=h.rm.le Ab
def Sz.Pd{b':BS}(h:Sz b (j+1))(ha:b'.a=b.a)(ho:b'.AW.Sublist b.AW)(hc:b'.A5.Sublist b.A5)(ht:b'.tm.length<=b.tm.length):Sz b' j:=
 h.of ((h.rm.le Ab).sub ha ho hc ht) (by have:=ho.length_le;omega) (by have:=hc.length_le;omega)
def Sz.Lk(h:Sz b (j+1)):Sz b.Lk j:=by
 unfold BS.Lk;split;.exact h.Pd rfl (AP _) (AP _) (Ag _)
 .exact h.Pd rfl (CM _ _) (AP _) (Ag _)
def Te{l:List A6}{sp:Int}:(b.EG nm l sp).AW.length<=b.AW.length+1200:=by
 unfold BS.EG;split
 .rename_i hs;have:(b.Es nm l sp (b.place 0).1).AW=b.AW:=by unfold BS.Es;rw[Af hs]
  have:=Ca List.length this;simp only[Av,A9];omega
 .omega
def vH{l:List A6}:(b.Ks nm l).A5.length<=b.A5.length+10:=by
 unfold BS.Ks;simp only
 obtain⟨l',h1,h2⟩:=Yl (l:=(b.EG nm l 1).A5) (e:=⟨b.a.len+1,nm,l⟩);rw[h2,Av,A9];have:=h1.length_le;rw[Ek] at this;omega
def aD3(h:Sz b (j+1))(hq:lp q):Sz (YS b q).1 j:=YT (P:=λr=>Sz r.1 j)
 (h.of (JA (sp:=1) h.YW hq.Az hq.name) Te (by rw[Ek];omega))
 (h.of (JA h.YW hq.Az hq.name) Te (by rw[Ek];omega))
 (h.of (oU h.YW hq.Az hq.name) Te vH)
 (h.of (Vd h.YW (S7 _)) (Gc _ _) (Gc _ _))
 (by
  dsimp only;unfold BS.Fe;split;.exact h.of (Kw h.YW (by have:=hq.s;omega)) (Gc _ _) (Gc _ _)
  .exact h.of (Kw h.YW (by have:=hq.s;omega)) (Gc _ _) (Gc _ _))
 (h.of ((JA h.YW hq.Az hq.name).eq rfl rfl rfl rfl) Te (by show(b.EG q.name q.Az 1).A5.length<=_;rw[Ek];omega))
 (by
  dsimp only;unfold BS.JV;split;.exact h.Pd rfl (DO.trans DO) (AP _) (Ag _)
  .exact h.Pd rfl (AP _) (AP _) (Ag _))
 (by dsimp only;have h1:=Td (m:=5000000*j) (h.rm.le (by have:=h.A5;omega));exact h.of h1.1 (by have:=h.A5;have:=h1.2.1;omega) (by rw[h1.2.2];omega))
 (by
  dsimp only;unfold BS.Ds;split
  .split;.exact h.Pd rfl (IK.trans DO) (AP _) (Ag _)
   .exact h.Pd rfl (AP _) (AP _) (Ag _)
  .exact h.Pd rfl (AP _) (AP _) (Ag _))
 (by
  dsimp only;unfold BS.Ik;split;.exact h.Lk
  .have h1:=Vb (n:=8) (b:=b) (k:=b.AW.length) (nm:=q.name) (m:=5000000*j) (Ag _) (h.rm.le (by have:=h.AW;omega));exact h.of h1.1 (by have:=h1.2;omega) (by have:=YV (n:=8) (b:=b) (nm:=q.name);omega))
 (h.Pd rfl (AP _) (AP _) (Ag _))
 (by
  dsimp only;have e:(b.Gf q.Az q.a).AW=b.AW/\(b.Gf q.Az q.a).A5=b.A5:=by unfold BS.Gf;split<;>exact⟨rfl,rfl⟩
  exact h.of (YU (m:=5000000*j) (h.rm.le Ab) hq.Az.1) (by rw[e.1];omega) (by rw[e.2];omega))
 (by
  dsimp only;unfold BS.Cv;split;.exact h.Pd rfl (AP _) (AP _) (Ag _)
  .exact h.Pd rfl (show(DA Cx (Bs [AK]) (DA CG Cx b.AW)).Sublist b.AW from DO.trans DO) (CM _ _) (AH:b.tm.dropLast.length<=b.tm.length))
 (h.Pd rfl (AP _) (AP _) (Ag _))
 (h.Pd rfl (AP _) (AP _) (Ag _))
 (by dsimp only;have r:=h.rm.le (m':=5000000*j+1) Ab;have c:=r.le (m':=5000000*j) Ab;exact h.of ⟨c.n,c.at_,c.data,c.AW,c.A5,by have:=r.tm;simp only[Av,A9];omega,c.DE,c.Yr⟩ (Gc _ _) (Gc _ _))
 (by
  dsimp only;refine h.of ((h.rm.le (m':=5000000*j+1) Ab).yH (e:=Cc.zero) AH (λe he=>?_) ⟨AU,AU,λa ha=>by cases ha⟩) (Gc _ _) AH;rcases Ax.1 he with he|he
  .exact .inl he
  .exact .inr (by simpa using he))
 (h.Lk)
 (h.Pd rfl (AP _) (AP _) (Ag _))
 (h.Pd rfl (AP _) (AP _) (Ag _))
 (h.Pd rfl (AP _) (CM _ _) (Ag _))
 (h.Pd rfl DO (AP _) (Ag _))
 (h.Pd rfl (AP _) (AP _) (Ag _))
 (by
  dsimp only;have e:(b.Es q.name q.Az q.Bc q.a).AW=b.AW/\(b.Es q.name q.Az q.Bc q.a).A5=b.A5:=by unfold BS.Es;split<;>exact⟨rfl,rfl⟩
  exact h.of (I8 (m:=5000000*j) (h.rm.le Ab) hq.Az) (by rw[e.1];omega) (by rw[e.2];omega))
 (h.Pd rfl (AP _) (AP _) (Ag _))
end
def LS(q:pP)(av:Aa):List Aa:=[I q.k,.str q.name,av,I q.Bc,I q.a,.bool q.b,.str q.s,.int .i32 q.r,I q.n]
section
variable{h h':Ah}{bi a:Nat}{o c t:Aa}{G G' F:Nat->Prop}{b:BS}{x:Int}{m j:Nat}{q:pP}
variable{nm:An}{av:Aa}{l:List A6}{r:List Aa}{sp p:Int}
def VP(hv:Bq q.Az av)(hl:q.Az.length<=1000)(h:Ah):∃r cB,BK cx 66 [.agg (LS q av)] h (.agg r) h/\N1 q.name cB r/\Bq q.Az cB:=by have aT:AS=140737488355328:=rfl;obtain⟨u,e,hu⟩:=AV.FJ (b:=40) hv Ab;have hc:u.cells=[u]:=AV.cells hu;refine⟨_,u,?_,⟨I 2,ff,S [],ff,S [],ff,ff,ff,S [],.int .i32 0,rfl⟩,hu⟩;rw[Ae,aDf,LS];simp only[abS,Nat.reduceLeDiff,↓reduceIte,AT,e,hc]
def aId(i:Item)(h:Ah):BK cx 81 [.agg i.row] h (.agg i.row) h:=by rw[Ae,aDg,Item.row];simp only[abS,Nat.reduceLeDiff,↓reduceIte,AT]
def aNh(w:BX h bi a o c t G b)(hc:B1 b.A5 c)(ok:EB b)(sz:Sz b (j+1))(hq:lp q)(hv:Bq q.Az av):
  ∃h' o' c' t' G',BK cx 24 [Pt bi 0,.agg (LS q av)] h (.agg (YS b q).2.row) h'/\BX h' bi a o' c' t' G' (YS b q).1/\B1 (YS b q).1.A5 c'/\DB h (Bt bi G) h' (Bt bi G'):=by
 unfold YS LS;by_cases d:q.k=1;.rw[Af d];dsimp only;obtain⟨r,cB,D,hr,DL⟩:=VP (q:=q) hv hq.Az.1 h;rw[LS] at D;obtain⟨h',o',G',r2,w',x'⟩:=x_ (m:=5000000*j) w ok sz.YW hr DL hq.Az hq.name;refine⟨h',o',c,t,G',?_,w',by rw[Ek];exact hc,x'⟩;rw[Ae,FL];simp only[abS,Nat.reduceLeDiff,↓reduceIte,AT,AM d,D.Ac,r2.Ac];try rfl
 rw[Ad d];by_cases f:q.k=2;.rw[Af f];dsimp only;obtain⟨r,cB,D,hr,DL⟩:=VP (q:=q) hv hq.Az.1 h;rw[LS] at D;obtain⟨h',o',G',r2,w',x'⟩:=aHz (m:=5000000*j) w ok sz.YW hr DL hq.Az hq.name q.Bc;refine⟨h',o',c,t,G',?_,w',by rw[Ek];exact hc,x'⟩;rw[Ae,FL];simp only[abS,Nat.reduceLeDiff,↓reduceIte,AT,d,AM f,D.Ac,r2.Ac];try rfl
 rw[Ad f];by_cases g:q.k=3;.rw[Af g];dsimp only;obtain⟨r,cB,D,hr,DL⟩:=VP (q:=q) hv hq.Az.1 h;rw[LS] at D;obtain⟨h',o',c',G',r2,w',JO,x'⟩:=aMM (m:=5000000*j) w hc ok sz.YW hr DL hq.Az hq.name;refine⟨h',o',c',t,G',?_,w',JO,x'⟩;rw[Ae,FL];simp only[abS,Nat.reduceLeDiff,↓reduceIte,AT,d,f,AM g,D.Ac,r2.Ac];try rfl
 rw[Ad g];by_cases i:q.k=4;.rw[Af i];dsimp only;obtain⟨h',G',r2,w',x'⟩:=aHH (m:=5000000*j) w ok sz.YW q.r hq.r;refine⟨h',o,c,t,G',?_,w',hc,x'⟩;rw[Ae,FL];simp only[abS,↓reduceIte,AT,d,f,g,AM i,r2.Ac];try rfl
 rw[Ad i];by_cases y:q.k=5;.rw[Af y];dsimp only;obtain⟨h',G',r2,w',x'⟩:=aHJ (m:=5000000*j) w ok sz.YW q.s (by have:=hq.s;omega) q.a;refine⟨h',o,c,t,G',?_,w',hc,x'⟩;rw[Ae,FL];simp only[abS,↓reduceIte,AT,d,f,g,i,AM y,r2.Ac];try rfl
 rw[Ad y];by_cases z:q.k=6;.rw[Af z];dsimp only;obtain⟨r,cB,D,hr,DL⟩:=VP (q:=q) hv hq.Az.1 h;rw[LS] at D;obtain⟨h',o',G',r2,w',x'⟩:=aHK (m:=5000000*j) w ok sz.YW hr DL hq.Az hq.name q.n;refine⟨h',o',c,t,G',?_,w',by show B1 (b.EG q.name q.Az 1).A5 c;rw[Ek];exact hc,x'⟩;rw[Ae,FL];simp only[abS,↓reduceIte,AT,d,f,g,i,y,AM z,D.Ac,r2.Ac];try rfl
 rw[Ad z];by_cases A:q.k=7;.rw[Af A];dsimp only;obtain⟨h',o',r2,w',x'⟩:=aMQ w sz.rm;refine⟨h',o',c,t,G,?_,w',by have e:b.JV.A5=b.A5:=(by unfold BS.JV;split<;>rfl);rw[e];exact hc,x'⟩;rw[Ae,FL];simp only[abS,↓reduceIte,AT,d,f,g,i,y,z,AM A,r2.Ac];try rfl
 rw[Ad A];by_cases B:q.k=8;.rw[Af B];dsimp only;obtain⟨h',o',c',G',r2,w',JO,x'⟩:=aHU (m:=5000000*j) w hc ok (sz.rm.le (by have:=sz.A5;omega));refine⟨h',o',c',t,G',?_,w',JO,x'⟩;rw[Ae,FL];simp only[abS,↓reduceIte,AT,d,f,g,i,y,z,A,AM B,r2.Ac];try rfl
 rw[Ad B];by_cases C:q.k=9;.rw[Af C];dsimp only;obtain⟨h',o',r2,w',x'⟩:=aHL w sz.rm q.name;refine⟨h',o',c,t,G,?_,w',by have e:(b.Ds q.name).A5=b.A5:=(by unfold BS.Ds;split;split<;>rfl;rfl);rw[e];exact hc,x'⟩;rw[Ae,FL];simp only[abS,↓reduceIte,AT,d,f,g,i,y,z,A,B,AM C,r2.Ac];try rfl
 rw[Ad C];by_cases L9:q.k=10;.rw[Af L9];dsimp only;obtain⟨h',o',c',G',r2,w',JO,x'⟩:=aNf (m:=5000000*j) w hc ok (sz.rm.le (by have:=sz.AW;omega)) q.name;refine⟨h',o',c',t,G',?_,w',JO,x'⟩;rw[Ae,FL];simp only[abS,↓reduceIte,AT,d,f,g,i,y,z,A,B,C,AM L9,r2.Ac];try rfl
 rw[Ad L9];by_cases MP:q.k=11;.rw[Af MP];dsimp only;obtain⟨h',r2,w',x'⟩:=yf w sz.rm;refine⟨h',o,c,t,G,?_,w',hc,x'⟩;rw[Ae,FL];simp only[abS,↓reduceIte,AT,d,f,g,i,y,z,A,B,C,L9,AM MP,r2.Ac];try rfl
 rw[Ad MP];by_cases Nq:q.k=12;.rw[Af Nq];dsimp only;obtain⟨r,cB,D,hr,DL⟩:=VP (q:=q) hv hq.Az.1 h;rw[LS] at D;obtain⟨h',G',r2,w',x'⟩:=aMR (m:=5000000*j) w ok sz.YW hr DL hq.Az q.a;refine⟨h',o,c,t,G',?_,w',by have e:(b.Gf q.Az q.a).A5=b.A5:=(by unfold BS.Gf;split<;>rfl);rw[e];exact hc,x'⟩;rw[Ae,FL];simp only[abS,↓reduceIte,AT,d,f,g,i,y,z,A,B,C,L9,MP,AM Nq,D.Ac,r2.Ac];try rfl
 rw[Ad Nq];by_cases Pj:q.k=13;.rw[Af Pj];dsimp only;obtain⟨h',o',c',t',r2,w',JO,x'⟩:=aHQ w hc sz.rm;refine⟨h',o',c',t',G,?_,w',JO,x'⟩;rw[Ae,FL];simp only[abS,↓reduceIte,AT,d,f,g,i,y,z,A,B,C,L9,MP,Nq,AM Pj,r2.Ac];try rfl
 rw[Ad Pj];by_cases QI:q.k=14;.rw[Af QI];dsimp only;obtain⟨h',r2,w',x'⟩:=aHR w;refine⟨h',o,c,t,G,?_,w',hc,x'⟩;rw[Ae,FL];simp only[abS,↓reduceIte,AT,d,f,g,i,y,z,A,B,C,L9,MP,Nq,Pj,AM QI,r2.Ac];try rfl
 rw[Ad QI];by_cases Ud:q.k=15;.rw[Af Ud];dsimp only;have w':BX (put h bi 15 (.bool q.b)) bi a o c t G {b with EV:=q.b}:=w.put rfl rfl w.o w.t;refine⟨put h bi 15 (.bool q.b),o,c,t,G,?_,w',hc,Bg⟩;rw[Ae,FL];simp only[abS,↓reduceIte,AT,d,f,g,i,y,z,A,B,C,L9,MP,Nq,Pj,QI,AM Ud,w.st (k:=15) (v:= .bool q.b) rfl rfl];try rfl
 rw[Ad Ud];by_cases VQ:q.k=16;.rw[Af VQ];dsimp only;have ye:=sz.rm.tm;have aT:AS=140737488355328:=rfl;obtain⟨u,J,hu⟩:=w.t.1.FJ Ab;have H:=AV.Jv (b:=8) (a:=q.n) hu Ab;have em:AB (.C8 1) [I q.n]=some (.sl 1 [BH q.n]):=rfl;have IE:DV (b.tm++[q.n]) (.sl 1 ((b.tm++[q.n]).map BH)):= .mk;have w':=w.YP (T6.rS (l:=b.tm) (m:=q.n));refine⟨put h bi 6 (.sl 1 ((b.tm++[q.n]).map BH)),o,c,_,G,?_,w',hc,Bg⟩;rw[Ae,FL];simp only[abS,↓reduceIte,AT,d,f,g,i,y,z,A,B,C,L9,MP,Nq,Pj,QI,Ud,AM VQ,w.l6,J,em,H,w.st (k:=6) (v0:=t) rfl (AV.cells IE)];try rfl
 rw[Ad VQ];by_cases YX:q.k=17;.rw[Af YX];dsimp only;have QB:=sz.rm.A5;obtain⟨fs,Gw,Sk⟩:=hc;obtain⟨u,r2,hu⟩:=f63 (h:=h) (id:=bi) (o:=3) (l:=fs) ⟨c,w.qM,Sk⟩ (by rw[<-Gw,Aj] at QB;omega);have w':=w.Kh (u:=u) (l:=b.A5++[Cc.zero]);have JO:B1 (b.A5++[Cc.zero]) u:=⟨_,by rw[BE,Gw];rfl,hu⟩;refine⟨put h bi 3 u,o,u,t,G,?_,w',JO,Bg⟩;rw[Ae,FL];simp only[abS,↓reduceIte,AT,d,f,g,i,y,z,A,B,C,L9,MP,Nq,Pj,QI,Ud,VQ,AM YX,r2.Ac];try rfl
 rw[Ad YX];by_cases ZT:q.k=18;.rw[Af ZT];dsimp only;obtain⟨h',o',r2,w',x'⟩:=aDO w sz.rm;have E:=aId b.oL h';refine⟨h',o',c,t,G,?_,w',by have e:b.Lk.A5=b.A5:=(by unfold BS.Lk;split<;>rfl);rw[e];exact hc,x'⟩;rw[Ae,FL];simp only[abS,↓reduceIte,AT,Fc,d,f,g,i,y,z,A,B,C,L9,MP,Nq,Pj,QI,Ud,VQ,YX,AM ZT,r2.Ac,E.Ac];try rfl
 rw[Ad ZT];by_cases kQ:q.k=19;.rw[Af kQ];dsimp only;have w':BX (put h bi 7 (I q.a)) bi a o c t G {b with head:=q.a}:=w.put rfl rfl w.o w.t;refine⟨put h bi 7 (I q.a),o,c,t,G,?_,w',hc,Bg⟩;rw[Ae,FL];simp only[abS,↓reduceIte,AT,d,f,g,i,y,z,A,B,C,L9,MP,Nq,Pj,QI,Ud,VQ,YX,ZT,AM kQ,w.st (k:=7) (v:= I q.a) rfl rfl];try rfl
 rw[Ad kQ];by_cases pS:q.k=20;.rw[Af pS];dsimp only;have w':=w.pG q.n;refine⟨put h bi 4 (I q.n),o,c,t,G,?_,w',hc,Bg⟩;rw[Ae,FL];simp only[abS,↓reduceIte,AT,d,f,g,i,y,z,A,B,C,L9,MP,Nq,Pj,QI,Ud,VQ,YX,ZT,kQ,AM pS,w.st (k:=4) (v:= I q.n) rfl rfl];try rfl
 rw[Ad pS];by_cases vI:q.k=21;.rw[Af vI];dsimp only;have QB:=sz.rm.A5;obtain⟨fs,Gw,Sk⟩:=hc;obtain⟨u,r2,hu⟩:=f65 (h:=h) (id:=bi) (o:=3) (l:=fs) ⟨c,w.qM,Sk⟩ (by rw[<-Gw,Aj] at QB;omega);have w':=w.Kh (u:=u) (l:=Ee b.A5);have JO:B1 (Ee b.A5) u:=⟨_,by rw[QF,Gw],hu⟩;refine⟨put h bi 3 u,o,u,t,G,?_,w',JO,Bg⟩;rw[Ae,FL];simp only[abS,↓reduceIte,AT,d,f,g,i,y,z,A,B,C,L9,MP,Nq,Pj,QI,Ud,VQ,YX,ZT,kQ,pS,AM vI,r2.Ac];try rfl
 rw[Ad vI];by_cases ls:q.k=22;.rw[Af ls];dsimp only;have ho:=sz.rm.AW;have em:AB (.C8 1) [.str q.name]=some (.sl 1 ([q.name].map CC)):=D1 (ws:=[q.name]) rfl AH;obtain⟨u,r2,hu⟩:=f66 w.sO Ab (CX (ws:=[q.name])) AH;have w':=w.HZ hu;refine⟨put h bi 2 u,u,c,t,G,?_,w',hc,Bg⟩;rw[Ae,FL];simp only[abS,↓reduceIte,AT,d,f,g,i,y,z,A,B,C,L9,MP,Nq,Pj,QI,Ud,VQ,YX,ZT,kQ,pS,vI,AM ls,em,r2.Ac];try rfl
 rw[Ad ls];by_cases ym:q.k=23;.rw[Af ym];dsimp only;have w':BX (put h bi 8 (I q.a)) bi a o c t G {b with MT:=q.a}:=w.put rfl rfl w.o w.t;refine⟨put h bi 8 (I q.a),o,c,t,G,?_,w',hc,Bg⟩;rw[Ae,FL];simp only[abS,↓reduceIte,AT,d,f,g,i,y,z,A,B,C,L9,MP,Nq,Pj,QI,Ud,VQ,YX,ZT,kQ,pS,vI,ls,AM ym,w.st (k:=8) (v:= I q.a) rfl rfl];try rfl
 rw[Ad ym];by_cases Ū:q.k=24;.rw[Af Ū];dsimp only;obtain⟨r,cB,D,hr,DL⟩:=VP (q:=q) hv hq.Az.1 h;rw[LS] at D;obtain⟨h',G',r2,w',x'⟩:=xy (m:=5000000*j) w ok sz.YW hr DL hq.Az hq.name q.a q.Bc;have E:=aId (b.GB q.name q.Az q.Bc) h';refine⟨h',o,c,t,G',?_,w',by have e:(b.Es q.name q.Az q.Bc q.a).A5=b.A5:=(by unfold BS.Es;split<;>rfl);rw[e];exact hc,x'⟩;rw[Ae,FL];simp only[abS,↓reduceIte,AT,Fc,d,f,g,i,y,z,A,B,C,L9,MP,Nq,Pj,QI,Ud,VQ,YX,ZT,kQ,pS,vI,ls,ym,AM Ū,D.Ac,r2.Ac,E.Ac];try rfl
 rw[Ad Ū];refine⟨h,o,c,t,G,?_,w,hc,.refl⟩;rw[Ae,FL];simp only[abS,↓reduceIte,AT,d,f,g,i,y,z,A,B,C,L9,MP,Nq,Pj,QI,Ud,VQ,YX,ZT,kQ,pS,vI,ls,ym,Ū];try rfl
end
def N3:∀l:List Int,(l.map BH).flatten=l.map (Aa.int .i64)
 |[]=>rfl
 |x::l=>by simp[BH,N3 l]
def nu(q:Bool):Ar:={n:=[{kind:=1,CQ:=1,CH:=q}],i:=[0]}
def DC(q:Bool):BS:={a:=nu q,CQ:=1,AW:=[],A5:=[],mode:=1,SN:=0,tm:=[],head:=0,MT:=0,L7:=false,ctx:=Item.zero,fs:=true,EV:=false,oK:=[],skip:=false,sw:=0,stop:=false}
def Jh(sp:Int)(nm:An)(l:List A6)(q:Bool):BS:=
 {(DC q).Es DI [] 1 1 with a:=((DC q).Es DI [] 1 1).a.EA ((DC q).GB DI [] 1).node 1 0,AW:=((DC q).Es DI [] 1 1).AW++[(DC q).GB DI [] 1],L7:=true,ctx:=⟨0,sp,nm,Fm sp nm l⟩}
def LX(sp:Int)(nm:An)(l:List A6)(q:Bool):BS:=if Bs [AK] (Jh sp nm l q).ctx then{Jh sp nm l q with tm:=[18]} else Jh sp nm l q
def Ue(sp:Int)(nm:An)(l:List A6)(q f:Bool):BS:=if f then{(LX sp nm l q).GG with MT:= -1} else(LX sp nm l q).GG
structure EX where
 L7:Bool
 Bc:Int
 name:An
 Az:List A6
 CH:Bool
 MT:Bool
def EX.b(s:EX):BS:=if s.L7 then Ue s.Bc s.name s.Az s.CH s.MT else DC s.CH
def MC(s:EX)(av:Aa):List Aa:=[.bool s.L7,I s.Bc,.str s.name,av,.bool s.CH,.bool s.MT]
def aD4(q:Bool):EK (nu q) 0:=by
 have h0:EK (⟨[],[]⟩:Ar) 0:=by
  have hn:∀h,¬(⟨[],[]⟩:Ar).has h:=λh d=>by have h1:=d.1;have h2:=d.2;simp at h2;omega
  exact⟨rfl,λh d=>absurd d (hn h),λh d=>absurd d (hn h),λh d=>absurd d (hn h),λh d=>absurd d (hn h),λh d=>absurd d (hn h),λh d=>absurd d (hn h),λh d=>absurd d (hn h),λh d=>absurd d (hn h),λh d=>absurd d (hn h),⟨λ_=>0,λh d=>absurd d (hn h)⟩⟩
 have hx:nl {kind:=1,CQ:=1,CH:=q}:=by constructor<;>simp[Ct,HA]
 exact Yg h0 hx (.inl ⟨rfl,rfl⟩) rfl rfl rfl rfl (λh=>absurd h.1 (AU:¬(1:Int)=4))
def OO(q:Bool):EB (DC q):=by refine⟨aD4 q,⟨⟨GC 1,GC 1⟩,rfl⟩,λi hi=>(nomatch hi),MK,λe he=>(nomatch he),MK⟩
def OP{q:Bool}(x:Int):(DC q).a.nd x=if x=1 then{kind:=1,CQ:=1,CH:=q} else{}:=by
 unfold Ar.nd;by_cases h:x=1;.subst h;rfl
 .rw[Ad h,Ad];intro d;have h1:=d.1;have h2:=d.2;simp[DC,nu] at h2;omega
def OQ(q:Bool):Sz (DC q) 101:=by
 refine⟨⟨by simp[DC,nu],λx=>?_,λx=>?_,by simp[DC],by simp[DC],by simp[DC],λe he=>(nomatch he),λi hi=>(nomatch hi)⟩,by simp[DC],by simp[DC]⟩;.rw[OP];split<;>simp
 .rw[OP];split<;>simp
section
variable{h h':Ah}{bi a:Nat}{o c t:Aa}{G G' F:Nat->Prop}{b:BS}{x:Int}{m j:Nat}{q:pP}
variable{nm:An}{av:Aa}{l:List A6}{r:List Aa}{sp p:Int}
def aNi(h:Ah)(q:Bool):∃h1 h',BK cx 57 [] h (Pt h.length 0) h1/\BK cx 58 [Pt h.length 0,.bool q] h1 (I 1) h'/\PA h' h.length (h.length+1) none [⟨{kind:=1,CQ:=1,CH:=q},.slnil,.slnil,rfl⟩] (nu q)/\h'=h++[.cells [.Cs (h.length+1) 0 1 13,.map none],.cells [I 1,I 0,.slnil,I 1,I 0,S [],.slnil,S [],S [],S [],.bool q,I 0,I 0]]:=by
 have aT:AS=140737488355328:=rfl;have g1:∀u:Ah,Fw u 13 168 .slnil (.sl 13 [[I 1,I 0,.slnil,I 0,I 0,S [],.slnil,S [],S [],S [],.bool q,I 0,I 0]])=some (u++[.cells [I 1,I 0,.slnil,I 0,I 0,S [],.slnil,S [],S [],S [],.bool q,I 0,I 0]],.Cs u.length 0 1 13):=λu=>rfl;obtain⟨d,e⟩:∃d,d=h++[Du.cells [.slnil,.map none]]:=⟨_,rfl⟩;have A:d[h.length]?=some (.cells [.slnil,.map none]):=by rw[e];simp
 have Wa:d.length=h.length+1:=by rw[e];simp
 have g2:=g1 d;rw[Wa] at g2;have B:At d h.length 0 .slnil:=⟨_,A,rfl⟩;have w:(d++[Du.cells [I 1,I 0,.slnil,I 0,I 0,S [],.slnil,S [],S [],S [],.bool q,I 0,I 0]])[h.length]?=some (.cells [.slnil,.map none]):=(Ai Ab).trans A;have J:(d++[Du.cells [I 1,I 0,.slnil,I 0,I 0,S [],.slnil,S [],S [],S [],.bool q,I 0,I 0]])[h.length+1]?=some (.cells [I 1,I 0,.slnil,I 0,I 0,S [],.slnil,S [],S [],S [],.bool q,I 0,I 0]):=by rw[<-Wa];simp
 have aQ:(d++[Du.cells [I 1,I 0,.slnil,I 0,I 0,S [],.slnil,S [],S [],S [],.bool q,I 0,I 0]]).length=h.length+2:=by rw[Av,Wa];rfl
 have s:d++[Du.cells [I 1,I 0,.slnil,I 0,I 0,S [],.slnil,S [],S [],S [],.bool q,I 0,I 0]]=h++[.cells [.slnil,.map none],.cells [I 1,I 0,.slnil,I 0,I 0,S [],.slnil,S [],S [],S [],.bool q,I 0,I 0]]:=by rw[e,AI];rfl
 generalize d++[Du.cells [I 1,I 0,.slnil,I 0,I 0,S [],.slnil,S [],S [],S [],.bool q,I 0,I 0]]=g at*;have t2:At g h.length 0 .slnil:=⟨_,w,rfl⟩;have D:=t2.store (u:= .Cs (h.length+1) 0 1 13) rfl;have z:=If (k:=0) (v:= .Cs (h.length+1) 0 1 13) w;have n:(put g h.length 0 (.Cs (h.length+1) 0 1 13))[h.length+1]?=_:=(Cj Ab).trans J;have M:put g h.length 0 (.Cs (h.length+1) 0 1 13)=h++[.cells [.Cs (h.length+1) 0 1 13,.map none],.cells [I 1,I 0,.slnil,I 0,I 0,S [],.slnil,S [],S [],S [],.bool q,I 0,I 0]]:=by rw[Hy w,s,BB _ _ (Ag _),Dc];rfl
 generalize put g h.length 0 (.Cs (h.length+1) 0 1 13)=f at*;have l3:A7 f none (Pt h.length 0)=some (.Cs (h.length+1) 0 1 13):=At.load ⟨_,z,rfl⟩;have L:AB (.Fu 13) [.Cs (h.length+1) 0 1 13,I 0]=some (.ptr (some (h.length+1,0))):=E0 (k:= .i64) (i:=0) AU;have t3:At f (h.length+1) 3 (I 0):=⟨_,n,rfl⟩;have C:=t3.store (u:=I 1) rfl;have N:(put f (h.length+1) 3 (I 1))[h.length]?=_:=(Cj Ab).trans z;have H:=If (k:=3) (v:=I 1) n;have K:put f (h.length+1) 3 (I 1)=h++[.cells [.Cs (h.length+1) 0 1 13,.map none],.cells [I 1,I 0,.slnil,I 1,I 0,S [],.slnil,S [],S [],S [],.bool q,I 0,I 0]]:=by rw[Hy n,M,BB _ _ Ab,Tr];rfl
 refine⟨d,put f (h.length+1) 3 (I 1),?_,?_,⟨rfl,rfl,N,H,?_,?_,.inl ⟨rfl,λk=>?_⟩⟩,K⟩;.rw[Ae,uD];simp only[abS,↓reduceIte,AT,e]
 .have E:BK cx 158 [Pt h.length 0,.agg [I 1,I 0,.slnil,I 0,I 0,S [],.slnil,S [],S [],S [],.bool q,I 0,I 0]] d (I 1) f:=by rw[Ae,Wj];simp only[BF,Nat.reduceLeDiff,↓reduceIte,AT,lN,B.load,show AB (.C8 13) [.agg [I 1,I 0,.slnil,I 0,I 0,S [],.slnil,S [],S [],S [],.bool q,I 0,I 0]]=some (.sl 13 [[I 1,I 0,.slnil,I 0,I 0,S [],.slnil,S [],S [],S [],.bool q,I 0,I 0]]) from rfl,g2,D,l3,show AB (.len false) [.Cs (h.length+1) 0 1 13]=some (I 1) from rfl]
  have r2:BK cx 153 [Pt h.length 0,I 1] f (.ptr (some (h.length+1,0))) f:=by rw[Ae,Wi];simp only[BF,lN,l3,show AB (.int .sub) [I 1,I 1]=some (I 0) from rfl,L]
  rw[Ae,fC];simp only[abS,Nat.reduceLeDiff,↓reduceIte,AT,E.Ac,r2.Ac,C]
 .intro p hp;rw[Dt] at hp;subst hp;exact .inl ⟨rfl,rfl⟩
 .simp[Gn,HN]
 .unfold Ar.inr;split;.rename_i y;have h1:=y.1;have h2:=y.2;simp[nu] at h2;have:k=1:=Ab;subst this;rfl
  .rfl
def aIe(h:Ah)(q:Bool):∃h1 h2 h' bi G,BK cx 57 [] h (Pt h.length 0) h1/\BK cx 58 [Pt h.length 0,.bool q] h1 (I 1) h2/\BK cx 60 [Pt h.length 0,I 1] h2 (Pt bi 0) h'/\BX h' bi h.length .slnil .slnil .slnil G (DC q)/\DB h (λ_=>False) h' (Bt bi G):=by
 obtain⟨h1,h2,g,r2,d,f⟩:=aNi h q;obtain⟨r,t,e,K,V,rfl,n,k,_⟩:=aG6 (x:=1) d ((OQ q).rm.Zp) ((OQ q).rm.Zp.Bb (OO q).ok 1);have hx:(nu q).has 1:=⟨GC 1,GC 1⟩;have K_:(nu q).nd 1={kind:=1,CQ:=1,CH:=q}:=(OP (q:=q) 1).trans (Af rfl);rw[Af hx,K_] at e;have wt:PA (h2++t) _ _ _ _ _:=d.Dn λi hi=>Ai (d.lt i hi);refine⟨h1,h2,h2++t++[.cells (IL h.length (DC q) .slnil .slnil .slnil)],(h2++t).length,λi=>i∈Gn h.length (h.length+1) none [⟨{kind:=1,CQ:=1,CH:=q},.slnil,.slnil,rfl⟩],g,r2,?_,⟨AH,.inr ⟨rfl,rfl⟩,T6.nil,?_,?_⟩,?_⟩;.rw[Ae,uE];simp only[abS,Nat.reduceLeDiff,↓reduceIte,AT,e.Ac,aaS];exact⟨λh=>absurd rfl h,λ_=>⟨λh=>absurd rfl h,λ_=>rfl⟩⟩
 .exact⟨_,_,_,wt.Dn λi hi=>Ai (wt.lt i hi),λi=>aEx⟩
 .intro hm;exact absurd (wt.lt _ hm) (Dj _)
 .have Eo:h.length<=h2.length:=by rw[f];simp
  refine⟨D9,λi hi _=>?_,λi hi=> .inr ?_⟩;.rw[AI,Ai Ab,f,Ai hi]
  .rcases hi with rfl|hi
   .simp;omega
   .simp[Gn,HN] at hi;omega
def yn(sp:Int)(nm:An)(l:List A6)(q:Bool):EB (Jh sp nm l q)/\Sz (Jh sp nm l q) 100:=by
 refine⟨?_,?_⟩
 .obtain⟨VL,f,v⟩:=P1 (nm:=DI) (at_:=[]) (p:=1) (OO q) J1;have xz:=VL.KH (OE (n:=((DC q).GB DI [] 1).node) (p:=1) (b:=0) VL.ok) I7;have g:Le ((DC q).Es DI [] 1 1).a (((DC q).Es DI [] 1 1).a.EA ((DC q).GB DI [] 1).node 1 0):=I7;have ho:((DC q).Es DI [] 1 1).AW=[]:=by unfold BS.Es;rw[Af J1];rfl
  have s:=xz.aCZ (i:=(DC q).GB DI [] 1) (k:=0) ⟨g.has _ f.has,by rw[g.kind _ f.has];exact f.kind,by rw[g.Bc _ f.has];exact f.Bc,by rw[g.name _ f.has];exact f.name⟩ (by simp only[ho];simp);exact s.of_eq rfl rfl (by unfold Jh;simp only[ho];rfl) rfl
 .have sz:=OQ q;have e:((DC q).Es DI [] 1 1).AW=[]/\((DC q).Es DI [] 1 1).A5=[]:=by unfold BS.Es;rw[Af J1];exact⟨rfl,rfl⟩
  have u:=I8 (m:=5000000*100+1) (nm:=DI) (l:=[]) (sp:=1) (p:=1) (sz.rm.le Ab) ⟨AU,λa ha=>(nomatch ha)⟩;have r2:=u.KH (J8 (x:=((DC q).GB DI [] 1).node) (p:=1) (bf:=0));have d:=r2.aAS (i:=(DC q).GB DI [] 1) (l':=((DC q).Es DI [] 1 1).AW++[(DC q).GB DI [] 1]) AH (λj hj=>by simpa using hj) (NZ AU);exact⟨⟨d.n,d.at_,d.data,d.AW,d.A5,d.tm,d.DE,d.Yr⟩,by unfold Jh;simp only[e.1];show 1+1200*100<=125000;decide,by unfold Jh;simp only[e.2];decide⟩
def YY(sp:Int)(nm:An)(l:List A6)(q:Bool):EB (LX sp nm l q)/\Sz (LX sp nm l q) 100:=by
 obtain⟨e,d⟩:=yn sp nm l q;unfold LX;split;.have r:=d.rm;exact⟨e.of_eq rfl rfl rfl rfl,⟨⟨r.n,r.at_,r.data,r.AW,r.A5,AH,r.DE,r.Yr⟩,d.AW,d.A5⟩⟩
 .exact⟨e,d⟩
def ū(sp:Int)(nm:An)(l:List A6)(q f:Bool):EB (Ue sp nm l q f)/\Sz (Ue sp nm l q f) 100:=by
 obtain⟨np,Ŭ⟩:=YY sp nm l q;have d:BZ (LX sp nm l q).GG (5000000*100):=Ŭ.rm.mode;unfold Ue;split;.exact⟨(SV np).of_eq rfl rfl rfl rfl,⟨⟨d.n,d.at_,d.data,d.AW,d.A5,d.tm,d.DE,d.Yr⟩,Ŭ.AW,Ŭ.A5⟩⟩
 .exact⟨SV np,⟨d,Ŭ.AW,Ŭ.A5⟩⟩
def BX.yo(w:BX h bi a o c t G b)(i:Item):∃h',Co h 4 (Pt bi 10) (.agg i.row)=some h'/\BX h' bi a o c t G {b with ctx:=i}/\DB h (Bt bi G) h' (Bt bi G):=by refine⟨h.set bi (.cells (IL a {b with ctx:=i} o c t)),?_,⟨AO w.lt,w.o,w.t,w.w.Dn λj hj=>Ap λe=>w.nb (by rw[e];exact hj),w.nb⟩,⟨by rw[Bp];exact Ag _,λj _ hn=>Ap λe=>hn (.inl e.symm),λ_ h=> .inl h⟩⟩;simp only[Co,w.hb];rfl
def aNj(h:Ah)(sp:Int)(nm:An)(hv:Bq l av)(hl:DP l)(q f q':Bool):∃h1 h2 h' bi o t G,BK cx 57 [] h (Pt h.length 0) h1/\BK cx 58 [Pt h.length 0,.bool q] h1 (I 1) h2/\BK cx 59 [Pt h.length 0,I 1,.agg [I sp,.str nm,av,.bool q',.bool f]] h2 (Pt bi 0) h'/\BX h' bi h.length o .slnil t G (Ue sp nm l q f)/\DB h (λ_=>False) h' (Bt bi G):=by
 obtain⟨h1,h2,h3,bi,G,N,r2,M,w,x⟩:=aIe h q;have hr:N1 DI .slnil [I 2,.str DI,ff,S [],ff,S [],ff,ff,.slnil,ff,S [],.int .i32 0]:=⟨I 2,ff,S [],ff,S [],ff,ff,ff,S [],.int .i32 0,rfl⟩;obtain⟨h4,G4,L,w4,Y⟩:=xy (m:=1000) w (OO q).ba ((OQ q).rm.le Ab) hr (l:=[]) (.inr ⟨rfl,rfl⟩) ⟨AU,λa ha=>(nomatch ha)⟩ AU 1 1;obtain⟨np,f4,le4⟩:=P1 (nm:=DI) (at_:=[]) (p:=1) (OO q) J1;have Q:=I8 (m:=1000) (nm:=DI) (l:=[]) (sp:=1) (p:=1) ((OQ q).rm.le Ab) ⟨AU,λa ha=>(nomatch ha)⟩;obtain⟨z,g,K,U,X⟩:=pC (x:=((DC q).GB DI [] 1).node) (p:=1) (bf:=0) w4 np.ba Q;have ho:((DC q).Es DI [] 1 1).AW=[]:=by unfold BS.Es;rw[Af J1];rfl
 obtain⟨d,J,B⟩:=f95 U.sO (by simp only[ho];decide) ((DC q).GB DI [] 1);have P:=U.HZ B;have w7:BX (put (put z bi 2 d) bi 9 tt) bi h.length d .slnil .slnil g _:=P.put (k:=9) (v:=tt) (b':={{{(DC q).Es DI [] 1 1 with a:=((DC q).Es DI [] 1 1).a.EA ((DC q).GB DI [] 1).node 1 0} with AW:=((DC q).Es DI [] 1 1).AW++[(DC q).GB DI [] 1]} with L7:=true}) rfl rfl B P.t;have E:Co (put z bi 2 d) 1 (Pt bi 9) tt=some (put (put z bi 2 d) bi 9 tt):=P.st (k:=9) (v:=tt) (v0:= .bool ((DC q).Es DI [] 1 1).L7) rfl rfl;have H:BK cx 161 [I sp,.str nm,av] (put (put z bi 2 d) bi 9 tt) (.bool (Fm sp nm l)) (put (put z bi 2 d) bi 9 tt):=f96 hv (λa ha=>by have:=(hl.2 a ha).2;have:AS=140737488355328:=rfl;omega) (by have:=hl.1;omega) sp nm _;obtain⟨u,s8,T,W⟩:=w7.yo ⟨0,sp,nm,Fm sp nm l⟩;have i:BX u bi h.length d .slnil .slnil g (Jh sp nm l q):=T;have O:DB h (λ_=>False) u (Bt bi g):=((((x.trans Y).trans X).trans Bg).trans Bg).trans W;clear T;have n:=i.Ŝ;have aD5:(Jh sp nm l q).ctx=⟨0,sp,nm,Fm sp nm l⟩:=rfl;obtain⟨aNk,Ŭ⟩:=YY sp nm l q;have y:=u9 (ws:=[AK]) CX AU (Jh sp nm l q).ctx u;have key:∃C t9,BX C bi h.length d .slnil t9 g (LX sp nm l q)/\DB u (Bt bi g) C (Bt bi g)/\(Bs [AK] (Jh sp nm l q).ctx=true->Co u 1 (Pt bi 6) (.sl 1 [[I 18]])=some C)/\(Bs [AK] (Jh sp nm l q).ctx=false->C=u):=by
  by_cases s:Bs [AK] (Jh sp nm l q).ctx=true;.have hu:DV [18] (.sl 1 [[I 18]]):= .mk;refine⟨put u bi 6 (.sl 1 [[I 18]]),.sl 1 [[I 18]],?_,Bg,λ_=>i.st (k:=6) (v0:= .slnil) rfl rfl,λh=>absurd s (by rw[h];decide)⟩;unfold LX;rw[Af s];exact i.YP ⟨.inl hu,λe=>by injection e with _ e;simp at e⟩
  .refine⟨u,.slnil,?_,.refl,λh=>absurd h s,λ_=>rfl⟩;unfold LX;rw[Ad s];exact i
 obtain⟨C,t9,Z,V,k1,k2⟩:=key;obtain⟨U8,cq,Uc,vG⟩:=yf Z Ŭ.rm;have em:AB (.C8 1) [I 18]=some (.sl 1 [[I 18]]):=rfl;have D:DB h (λ_=>False) U8 (Bt bi g):=(O.trans V).trans vG;have hir:((DC q).GB DI [] 1).row=[I ((DC q).GB DI [] 1).node,I ((DC q).GB DI [] 1).Bc,.str ((DC q).GB DI [] 1).name,.bool ((DC q).GB DI [] 1).O0]:=rfl;generalize(DC q).GB DI [] 1=it at*;have yp:Co (put (put z bi 2 d) bi 9 tt) 4 (Pt bi 10) (.agg [I 0,I sp,.str nm,.bool (Fm sp nm l)])=some u:=s8;have kq:AB (.C8 1) [S aTR]=some (.sl 1 ([AK].map CC)):=bT;cases s:Bs [AK] (Jh sp nm l q).ctx with
 |true=>
  rw[s] at y;have A:=k1 s;cases f with
  |true=>
   refine⟨h1,h2,put U8 bi 8 (I (-1)),bi,d,t9,g,N,r2,?_,?_,D.trans Bg⟩;.rw[Ae,fD];simp only[abS,Nat.reduceLeDiff,↓reduceIte,AT,Fc,M.Ac,L.Ac,K.Ac,J.Ac,E,H.Ac,yp,n,kq,y.Ac,em,A,cq.Ac,Uc.st (k:=8) (v:=I (-1)) rfl rfl]
   .unfold Ue;rw[Af rfl];exact Uc.put rfl rfl Uc.o Uc.t
  |false=>refine⟨h1,h2,U8,bi,d,t9,g,N,r2,?_,Uc,D⟩;rw[Ae,fD];simp only[abS,Nat.reduceLeDiff,↓reduceIte,AT,Fc,M.Ac,L.Ac,K.Ac,J.Ac,E,H.Ac,yp,n,kq,y.Ac,em,A,cq.Ac]
 |false=>
  rw[s] at y;have R:=k2 s;subst R;cases f with
  |true=>
   refine⟨h1,h2,put U8 bi 8 (I (-1)),bi,d,t9,g,N,r2,?_,?_,D.trans Bg⟩;.rw[Ae,fD];simp only[abS,Nat.reduceLeDiff,↓reduceIte,AT,Fc,M.Ac,L.Ac,K.Ac,J.Ac,E,H.Ac,yp,n,kq,y.Ac,em,cq.Ac,Uc.st (k:=8) (v:=I (-1)) rfl rfl]
   .unfold Ue;rw[Af rfl];exact Uc.put rfl rfl Uc.o Uc.t
  |false=>refine⟨h1,h2,U8,bi,d,t9,g,N,r2,?_,Uc,D⟩;rw[Ae,fD];simp only[abS,Nat.reduceLeDiff,↓reduceIte,AT,Fc,M.Ac,L.Ac,K.Ac,J.Ac,E,H.Ac,yp,n,kq,y.Ac,em,cq.Ac]
def aNl(h:Ah)(s:EX)(hv:Bq s.Az av)(hl:DP s.Az):∃h' bi a o c t G,BK cx 22 [.agg (MC s av)] h (Pt bi 0) h'/\BX h' bi a o c t G s.b/\B1 s.b.A5 c/\DB h (λ_=>False) h' (Bt bi G):=by
 have sH:(Jh s.Bc s.name s.Az s.CH).A5=[]:=by unfold Jh;simp only;unfold BS.Es;rw[Af J1];rfl
 cases hf:s.L7 with
 |true=>
  obtain⟨h1,h2,h',bi,o,t,G,f,r2,d,w,x⟩:=aNj h s.Bc s.name hv hl s.CH s.MT s.CH;refine⟨h',bi,h.length,o,.slnil,t,G,?_,by unfold EX.b;rw[Af hf];exact w,?_,x⟩;.rw[Ae,vn,MC,hf];simp only[BF,f.Ac,r2.Ac,d.Ac]
  .have e:s.b.A5=[]:=by unfold EX.b Ue LX;rw[Af hf];split<;>split<;>exact sH
   rw[e];exact⟨[],rfl,.inr ⟨rfl,rfl⟩⟩
 |false=>
  obtain⟨h1,h2,h',bi,G,f,r2,d,w,x⟩:=aIe h s.CH;have e:s.b=DC s.CH:=by unfold EX.b;rw[Ad (by rw[hf];decide)]
  refine⟨h',bi,h.length,.slnil,.slnil,.slnil,G,?_,by rw[e];exact w,by rw[e];exact⟨[],rfl,.inr ⟨rfl,rfl⟩⟩,x⟩;rw[Ae,vn,MC,hf];simp only[BF,f.Ac,r2.Ac,d.Ac]
def EX.ok(s:EX):EB s.b/\Sz s.b 100:=by
 unfold EX.b;split;.exact ū _ _ _ _ _
 .have h:=OQ s.CH;exact⟨OO _,⟨h.rm.le Ab,by have:=h.AW;omega,by have:=h.A5;omega⟩⟩
end
end Go.Am
end
