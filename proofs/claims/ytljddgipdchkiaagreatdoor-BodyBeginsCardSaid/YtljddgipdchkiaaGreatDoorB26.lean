/- Lemmas -/
import Derived.Test.YtljddgipdchkiaaGreatDoorB25
set_option linter.all false
noncomputable section
set_option maxHeartbeats 0
set_option maxRecDepth 100000
section
namespace Go.Am
open Go
section
variable{h h':Ah}{bi a:Nat}{o c t:Aa}{G G' F:Nat->Prop}{b:BS}{x:Int}{m:Nat}
variable{nm:Ao}{av:Aa}{l:List A3}{r:List Aa}{sp p:Int}
def BX.Đ(w:BX h bi a o c t G b):Bd h (some 4) (Pt bi 10)=some (.agg b.ctx.row):=by simp only[Bd,w.hb];rfl
def BX.nW(w:BX h bi a o c t G b)(v:Int):BX (Am.put h bi 4 (I v)) bi a o c t G {b with mode:=v}:=w.put rfl rfl w.o w.t
def B6.mode{v:Int}(rm:B6 b m):B6 {b with mode:=v} m:=⟨rm.n,rm.at_,rm.data,rm.AY,rm.A8,rm.tm,rm.DD,rm.YS⟩
def đ(w:BX h bi a o c t G b)(rm:B6 b m):
  ∃h',BH cx 76 [Pt bi 0] h (.tuple []) h'/\BX h' bi a o c t G b.IF/\DA h (Bt bi G) h' (Bt bi G):=by
 have ho:=rm.AY;have Ji:Ev cx 76 [Pt bi 0] h λr h'=>r= .tuple []/\BX h' bi a o c t G b.IF/\DA h (Bt bi G) h' (Bt bi G):=by
  unfold Ev;have w1:=w.nW 7;rw[sY];simp only[abS,(Ip w).Ad,w.st (k:=4) (v:=I 7) rfl rfl,(Vg w1.sA).Ad,C3 (Ab: -9223372036854775808<=(b.AY.length:Int)-1) (Ab:(b.AY.length:Int)-1<9223372036854775808)];refine Bf (λn:Nat=>[I ((n:Int)-1)]) (λn h1=>n<=b.AY.length/\b.LH b.AY.length=b.LH n/\h1=Am.put h bi 4 (I 7)) (λn=>n) b.AY.length rfl ⟨Ag _,rfl,rfl⟩ ?_;rintro n h1 ⟨hn,ha,rfl⟩;cases n with
  |zero=>
   have e:b.IF={b with mode:=7}:=by unfold BS.IF;rw[ha];rfl
   simp only[abS,(Ab:¬(0:Int)<=((0:Nat):Int)-1)];exact⟨_,rfl,rfl,by rw[e];exact w1,Bp⟩
  |succ n=>
   have hlt:n<b.AY.length:=Ab;have i1:((n+1:Nat):Int)-1=(n:Int):=Ab;have g:=Yc w1.sA (n:Int);rw[show Hv ({b with mode:=7}:BS).AY (n:Int)=b.AY[n] from H8 hlt] at g;have r2:∀i:Item,BH cx 190 [Pt bi 0,.agg i.row,I (n:Int)] (Am.put h bi 4 (I 7)) (.tuple [I ((b.Hg i n).getD 7),.bool (b.Hg i n).isSome]) (Am.put h bi 4 (I 7)):=λi=>aGn w1 rm.mode i (k:=n) Dq;have d:=r2 (b.Ex n);have HR:∀v,Cx (Am.put h bi 4 (I 7)) 1 (Pt bi 4) (I v)=some (Am.put (Am.put h bi 4 (I 7)) bi 4 (I v)):=λv=>w1.st (k:=4) rfl rfl;have e:b.LH (n+1)=match b.Hg (b.Ex n) n with|some m=>m|none=>b.LH n:=rfl
   rw[e] at ha;have RJ:=w1.l9;have hlc:=w1.Đ;have OW:=C3 (Ab: -9223372036854775808<=(n:Int)-1) (Ab:(n:Int)-1<9223372036854775808);cases hm:b.Hg (b.Ex n) n with
   |none=>
    rw[hm] at d ha;by_cases h0:n=0
    .have Y6:((n:Int)=0)=True:=AW Ab;cases hf:b.LX with
     |true=>
      have f:b.Ex n=b.ctx:=by unfold BS.Ex;rw[Ae ⟨h0,hf⟩]
      rw[f] at d;rw[show({b with mode:=7}:BS).LX=true from hf] at RJ;simp only[BC,Fa,i1,g.Ad,RJ,hlc,d.Ad,HR,Jk,(Ab:(0:Int)<=(n:Int)),Y6,OW];exact AK.next n rfl ⟨Ab,ha,rfl⟩ Ab
     |false=>
      have f:b.Ex n=b.AY[n]:=by unfold BS.Ex;rw[Ac (by simp[hf]),AJ,Ai hlt];rfl
      rw[f] at d;rw[show({b with mode:=7}:BS).LX=false from hf] at RJ;simp only[BC,Fa,i1,g.Ad,RJ,hlc,d.Ad,HR,Jk,(Ab:(0:Int)<=(n:Int)),Y6,OW];exact AK.next n rfl ⟨Ab,ha,rfl⟩ Ab
    .have f:b.Ex n=b.AY[n]:=by unfold BS.Ex;rw[Ac (by simp[h0]),AJ,Ai hlt];rfl
     rw[f] at d;have Y6:¬(n:Int)=0:=Ab;simp only[BC,Fa,i1,g.Ad,d.Ad,HR,Jk,(Ab:(0:Int)<=(n:Int)),Y6,OW];exact AK.next n rfl ⟨Ab,ha,rfl⟩ Ab
   |some v=>
    rw[hm] at d ha;have e:b.IF={b with mode:=v}:=by unfold BS.IF;rw[ha]
    have j:BX (Am.put (Am.put h bi 4 (I 7)) bi 4 (I v)) bi a o c t G b.IF:=by rw[e];exact w1.nW v
    by_cases h0:n=0
    .have Y6:((n:Int)=0)=True:=AW Ab;cases hf:b.LX with
     |true=>
      have f:b.Ex n=b.ctx:=by unfold BS.Ex;rw[Ae ⟨h0,hf⟩]
      rw[f] at d;rw[show({b with mode:=7}:BS).LX=true from hf] at RJ;simp only[BC,Fa,i1,g.Ad,RJ,hlc,d.Ad,HR,Jk,(Ab:(0:Int)<=(n:Int)),Y6];exact⟨_,rfl,rfl,j,Bp.trans Bp⟩
     |false=>
      have f:b.Ex n=b.AY[n]:=by unfold BS.Ex;rw[Ac (by simp[hf]),AJ,Ai hlt];rfl
      rw[f] at d;rw[show({b with mode:=7}:BS).LX=false from hf] at RJ;simp only[BC,Fa,i1,g.Ad,RJ,hlc,d.Ad,HR,Jk,(Ab:(0:Int)<=(n:Int)),Y6];exact⟨_,rfl,rfl,j,Bp.trans Bp⟩
    .have f:b.Ex n=b.AY[n]:=by unfold BS.Ex;rw[Ac (by simp[h0]),AJ,Ai hlt];rfl
     rw[f] at d;have Y6:¬(n:Int)=0:=Ab;simp only[BC,Fa,i1,g.Ad,d.Ad,HR,Jk,(Ab:(0:Int)<=(n:Int)),Y6];exact⟨_,rfl,rfl,j,Bp.trans Bp⟩
 obtain⟨r,h',hr,rfl,w',x'⟩:=Ji.ret;exact⟨h',hr,w',x'⟩
def gp{h0 u:Ah}{V:Aa}{L:List A3}{N:Nat}(j:N=h0.length)(g:I7 (h0++u) V L)(i:Up N V)(hb:L.length<=1000000000)(y:A3):
  ∃f d,F8 (h0++u) 3 40 V (.sl 3 [y.row])=some (h0++f,d)/\I7 (h0++f) d (L++[y])/\Up N d:=by
 subst j;have kD:AM=140737488355328:=rfl;rcases g with⟨rfl,rfl⟩|⟨id,rfl,hc,hl⟩
 .refine⟨u++[.cells (([y]:List A3).map A3.row).flatten],.CE (h0++u).length 0 1 3,by rw[<-AI];rfl,.inr ⟨(h0++u).length,rfl,AH,AH⟩,λid k e=>by injection e with e;rw[<-e,Aw];omega⟩
 .have Ij:h0.length<=id:=i id _ rfl;have hg:=JM (b:=40) (AD:=L.map A3.row) (r2:=[y.row]) (v:= .sl 3 [y.row]) (aCm L) AX hc .mk AH (by rw[Ak];simp;omega);rw[Ak] at hg;have e:(h0++u).set id .CO++[.cells (L.map A3.row++[y.row]).flatten]=h0++(u.set (id-h0.length) .CO++[.cells ((L++[y]).map A3.row).flatten]):=by rw[BM _ _ Ij,AI,BF];rfl
  rw[e] at hg;have ZZ:(h0++(u.set (id-h0.length) Dw.CO++[.cells ((L++[y]).map A3.row).flatten]))=(h0++u.set (id-h0.length) Dw.CO)++[.cells ((L++[y]).map A3.row).flatten]:=by rw[AI]
  have kC:(h0++u.set (id-h0.length) Dw.CO).length=(h0++u).length:=AH;refine⟨_,_,hg,.inr ⟨(h0++u).length,AH,?_,?_⟩,λid k e=>by injection e with e;rw[<-e,Aw];omega⟩;.rw[ZZ,<-kC,Bl (Ag _),C6];rfl
  .rw[ZZ];simp only[Aw,Bn,A9,BP];omega
def aGo(y c:A3)(h:Ah):BH cx 192 [.agg c.row,.CG y.row] h (.bool (decide (Dx ⟨0,y.name,y.value⟩=Dx c))) h:=by
 rw[Af,fJ,A3.row,A3.row];simp only[BC];refine⟨λh1=>?_,λh1=>?_⟩;.congr 2;rw[C5];simp[Dx,h1];exact jw
 .rw[Ay (λe=>h1 (by simp[Dx] at e;exact e.1.symm))]
def A3.aT{y:A3}:(⟨0,y.name,y.value⟩:A3).row=[I 0,.str y.name,.str y.value]:=rfl
def TQ(k:Int×Ao):∀{l out:List A3},(GA out l).any (λz=>decide (k=Dx z))=(out++l).any λz=>decide (k=Dx z)
 |[],out=>by simp[GA]
 |y::l,out=>by
  rw[GA];split
  .rename_i h;rw[TQ k,UM,UM,JH];by_cases hk:k=Dx y;.subst hk;rw[h];rfl
   .simp[hk]
  .rw[TQ k,AI];rfl
def uw(k:Int×Ao)(l:List A3):(Cv l).any (λz=>decide (k=Dx z))=l.any λz=>decide (k=Dx z):=TQ k
def Qw{l:List A3}{y:A3}:Cv (l++[y])=if(Cv l).any (λz=>decide (Dx y=Dx z)) then Cv l else Cv l++[y]:=Yh
def aLk(w:BX h bi a o c t G b)(ok:Eu b)(rm:B6 b (m+1000))(hr:NO nm av r)(hv:Br l av)(hl:DU l)(x:Int):
  ∃h' G',BH cx 77 [Pt bi 0,.agg r,I x] h (.tuple []) h'/\BX h' bi a o c t G' (b.Hy l x)/\DA h (Bt bi G) h' (Bt bi G'):=by
 obtain⟨K1,V1,d,B,_,_⟩:=Vm w ok rm x;have w1:=w.IA (u:=d);obtain⟨Y,X,W,U,T,S,Q,P,U7,Xk,rfl⟩:=hr;have v:DA h (Bt bi G) (h++d) (Bt bi G):=w.C7;by_cases hk:(b.a.nd x).kind=4;rotate_left;.refine⟨h++d,G,?_,by unfold BS.Hy;rw[Ac hk];exact w1,v⟩;rw[Af,dX];simp only[abS,↓reduceIte,(Ip w).Ad,B.Ad,BW,hk]
 obtain⟨K2,Z,A,r2,_,f,g⟩:=Vm w1 ok rm x;have w2:=w1.IA (u:=A);have x2:DA h (Bt bi G) (h++d++A) (Bt bi G):=v.trans w1.C7;have hx:b.a.has x:=by
  by_cases hp:b.a.has x;.exact hp
  .rw[HE hp] at hk;simp at hk
 have Vx:=rm.at_ x;have pV:=hl.1;have Ji:Ev cx 77 [Pt bi 0,.agg [Y,.str nm,X,W,U,T,S,Q,av,P,U7,Xk],I x] h λr h'=>r= .tuple []/\∃G',BX h' bi a o c t G' (b.Hy l x)/\DA h (Bt bi G) h' (Bt bi G'):=by
  unfold Ev;rw[dX];have hvl:=AU.CL hv;simp only[abS,↓reduceIte,(Ip w).Ad,B.Ad,r2.Ad,BW,hk,hvl];refine Bf (λs:Aa×Nat=>[s.1,I (s.2:Int)]) (λs h1=>∃u L,h1=h++d++u/\s.2<=l.length/\I7 h1 s.1 L/\Up (h++d).length s.1/\Cv L=Cv ((b.a.nd x).Az++BS.plain (l.take s.2))/\(∀y∈L,BS.HV y.A7)/\L.length<=(b.a.nd x).Az.length+s.2) (λs=>l.length-s.2) (Z,0) rfl ⟨A,(b.a.nd x).Az,rfl,AQ _,f,g,?_,?_,AH⟩ ?_;.simp[BS.plain]
  .exact λy hy=>(ok.ok.RH x hx).qe y hy
  rintro⟨V,n⟩ h1 ⟨u,L,rfl,hn,f,g,j,hs,Ej⟩;simp only at hn f g j Ej;rcases AN n l.length with hlt|D6
  .have E:=AU.BJ (k:= .i64) hv hlt;rw[A3.row] at E;have i:=ū f.in_ Ab (F:= .func (.func 192) [] [.CG l[n].row]) (q:=λc=>decide (Dx ⟨0,l[n].name,l[n].value⟩=Dx c)) ⟨_,_,rfl,AX,λc=>aGo l[n] c _⟩;rw[A3.row] at i;obtain⟨O,V',g1,g2,g3⟩:=gp (N:=(h++d).length) rfl f g Ab ⟨0,l[n].name,l[n].value⟩;rw[A3.aT] at g1;have em:AE (.Dh 3) [.agg [I 0,.str l[n].name,.str l[n].value]]=some (.sl 3 [[I 0,.str l[n].name,.str l[n].value]]):=rfl;have H:Cv ((b.a.nd x).Az++BS.plain (l.take (n+1)))=Cv (L++[⟨0,l[n].name,l[n].value⟩]):=by rw[AB hlt,BS.plain,BF,<-AI,aMY,Qw,Qw,j];rfl
   have D:Cv (L++[⟨0,l[n].name,l[n].value⟩])=if L.any (λz=>decide (Dx ⟨0,l[n].name,l[n].value⟩=Dx z)) then Cv L else Cv L++[⟨0,l[n].name,l[n].value⟩]:=by rw[Qw,uw]
   simp only[abS,Nat.reduceLeDiff,↓reduceIte,AP,(Ab:(n:Int)<(l.length:Int)),E,i.Ad,em,g1,BI (Ab:n<9223372036854775807)];rw[Cu];refine⟨λh2=>?_,λh2=>?_⟩
   .refine AK.next (V',n+1) rfl ⟨O,_,rfl,hlt,g2,g3,H.symm,?_,Ee⟩ Dq;intro y hy;rcases Ax.1 hy with hy|hy
    .exact hs y hy
    .simp at hy;subst hy;exact⟨Dq,Dq⟩
   .have h2:(L.any λz=>decide (Dx ⟨0,l[n].name,l[n].value⟩=Dx z))=true:=by simpa using h2
    rw[Ae h2] at D;exact AK.next (V,n+1) rfl ⟨u,L,rfl,hlt,f,g,by rw[H,D],hs,Dq⟩ Dq
  .have OH:n=l.length:=by omega
   subst OH;rw[Bv] at j;simp only[abS,↓reduceIte,(Ab:¬(l.length:Int)<(l.length:Int)),(w1.IA (u:=u)).l0];obtain⟨C,G3,i,M,J⟩:=(w1.IA (u:=u)).step (A':=b.a.Jv x L) (R:=λC=>BH cx 193 [Pt a 0,I x,V] (h++d++u) (I 0) C) λn m ps K=>by obtain⟨h',IN,f1,f2,f3⟩:=aFM K rm.Vd hx hk f.in_ Ab hs;exact⟨h',n,m,IN,f1,f2,f3⟩
   have e:b.Hy l x={b with a:=b.a.Jv x L}:=by unfold BS.Hy;rw[Ae hk];unfold Ar.Jv;rw[j]
   simp only[BC,i.Ad];refine⟨_,rfl,rfl,G3,?_,?_⟩;.rw[e];exact M
   .exact(v.trans w1.C7).trans J
 obtain⟨r,h',hr,rfl,G',w',x'⟩:=Ji.ret;exact⟨h',G',hr,w',x'⟩
end
section
variable{h h':Ah}{bi a:Nat}{o c t:Aa}{G G' F:Nat->Prop}{b b':BS}{x:Int}{m:Nat}
variable{nm:Ao}{av:Aa}{l:List A3}{r:List Aa}{sp p:Int}
def B6.sub(rm:B6 b m)(ha:b'.a=b.a)(ho:b'.AY.Sublist b.AY)(hc:b'.A8.Sublist b.A8)(ht:b'.tm.length<=b.tm.length):B6 b' m:=
 ⟨by rw[ha];exact rm.n,by rw[ha];exact rm.at_,by rw[ha];exact rm.data,by have:=rm.AY;have:=ho.length_le;omega,by have:=rm.A8;have:=hc.length_le;omega,by have:=rm.tm;omega,λe he=>rm.DD e (hc.subset he),λi hi=>rm.YS i (ho.subset hi)⟩
def aGp{v:Aa}{l:List Int}(hv:TN l v)(hb:l.length<=1000000000)(h:Ah):∃u,BH cx 118 [v] h u h/\Zr l u:=by
 have hm:AM=140737488355328:=rfl;have e0:AE (.Gb 1) []=some (.Gb 1):=rfl;rcases hv with hv|⟨rfl,rfl⟩
 .have DC:AU 1 (l.map Cn) v:=hv;rcases DC with rfl|⟨rfl,h0⟩
  .cases l with
   |nil=>refine⟨.Gb 1,?_,.inr ⟨rfl,rfl⟩,nofun⟩;rw[Af,Qr];simp only[BC,CW,show AE (.Gy false .sl) [.sl 1 [],.slnil]=some (.bool false) from rfl,e0,show AE (.append 1 8) [.Gb 1,.sl 1 []]=some (.Gb 1) from rfl]
   |cons x l=>
    have Q9:((x::l).map Cn).length*8<=AM:=by rw[Ak];omega
    have d:AE (.append 1 8) [.Gb 1,.sl 1 ((x::l).map Cn)]=some (.sl 1 ((x::l).map Cn)):=by simp only[Bk] at Q9⊢;simp only[AE,HP,BL,DI];rw[Ae ⟨trivial,Q9⟩]
    refine⟨_,?_,.inl .mk,λe=>by injection e with _ e;simp at e⟩;rw[Af,Qr];simp only[BC,show AE (.Gy false .sl) [.sl 1 ((x::l).map Cn),.slnil]=some (.bool false) from rfl,e0,d]
  .refine⟨.slnil,?_,.inl (.inr ⟨rfl,h0⟩),nofun⟩;rw[Af,Qr];simp only[BC,show AE (.Gy false .sl) [.slnil,.slnil]=some (.bool true) from rfl]
 .refine⟨.Gb 1,?_,.inr ⟨rfl,rfl⟩,nofun⟩;rw[Af,Qr];simp only[BC,show AE (.Gy false .sl) [.Gb 1,.slnil]=some (.bool false) from rfl,e0,show AE (.append 1 8) [.Gb 1,.Gb 1]=some (.Gb 1) from rfl]
def BX.tT{u:Aa}{l:List Int}(w:BX h bi a o c t G b)(hu:Zr l u):BX (Am.put h bi 6 u) bi a o c u G {b with tm:=l}:=w.put rfl rfl w.o hu
def nX:AE (.Dh 1) [S aSz]=some (.sl 1 ([Bc].map BZ)):=DF (ws:=[Bc]) rfl AX
def aLl(w:BX h bi a o c t G b)(hc:B4 b.A8 c)(rm:B6 b m):
  ∃h' o' c' t',BH cx 78 [Pt bi 0] h (.tuple []) h'/\BX h' bi a o' c' t' G b.Du/\B4 b.Du.A8 c'/\DA h (Bt bi G) h' (Bt bi G):=by
 have ho:=rm.AY;have Td:=rm.A8;have O:=rm.tm;have A:=aCi w.sA Ab Bc;by_cases FQ:AR (By [Bc]) b.AY<0;.refine⟨h,o,c,t,?_,by unfold BS.Du;rw[Ae FQ];exact w,by unfold BS.Du;rw[Ae FQ];exact hc,.refl⟩;rw[Af,X2];simp only[abS,(Ip w).Ad,A.Ad,FQ]
 obtain⟨y,r2,OU⟩:=aKt w.sO Ab;have w1:=w.I8 OU;have l1:(DO CM CX b.AY).length<=b.AY.length:=Qk;obtain⟨f,H,Jr⟩:=f66 w1.sO Dq (C0 (ws:=[Bc])) AX;have D:=w1.I8 Jr;obtain⟨fs,Hj,hcs⟩:=hc;have Ho:fs.length=b.A8.length:=by rw[<-Hj,Ak]
 obtain⟨d,E,Ē⟩:=f65 (show Tx _ bi 3 fs from⟨c,D.zQ,hcs⟩) Ab;have j:=D.Lr (u:=d) (l:=Gu b.A8);have Nk:B4 (Gu b.A8) d:=⟨_,by rw[We,Hj],Ē⟩;have lt:=w.t.1.len;have l6:=j.l6;have e:b.Du=BS.IF {b with AY:=DO CX (By [Bc]) (DO CM CX b.AY),A8:=Gu b.A8,tm:=b.tm.dropLast}:=by unfold BS.Du;rw[Ac FQ]
 have sO:(DO CX (By [Bc]) (DO CM CX b.AY)).Sublist b.AY:=(Fg (p:=CX) (q:=By [Bc]) (l:=DO CM CX b.AY)).trans Fg;have C:DA h (Bt bi G) (put (put (put h bi 2 y) bi 2 f) bi 3 d) (Bt bi G):=(Bp.trans Bp).trans Bp;by_cases h0:b.tm=[]
 .have v:BX (put (put (put h bi 2 y) bi 2 f) bi 3 d) bi a f d t G {b with AY:=DO CX (By [Bc]) (DO CM CX b.AY),A8:=Gu b.A8,tm:=b.tm.dropLast}:=by
   have:b.tm.dropLast=b.tm:=by rw[h0];rfl
   rw[this];exact j
  obtain⟨Q,z,s,K⟩:=đ v (rm.sub (b':={b with AY:=DO CX (By [Bc]) (DO CM CX b.AY),A8:=Gu b.A8,tm:=b.tm.dropLast}) rfl sO (Eb _ _) AH);refine⟨Q,f,d,t,?_,by rw[e];exact s,by rw[e];exact Nk,C.trans K⟩;have B:AE (.len false) [t]=some (I 0):=by rw[lt,h0];rfl
  rw[Af,X2];simp only[abS,(Ip w).Ad,A.Ad,FQ,r2.Ad,nX,H.Ad,E.Ad,l6,B,z.Ad,Jk]
 .have hpos:=EC.2 h0;obtain⟨S,R,i⟩:=AU.Mn (w.t.1.ne h0) (k:= .i64) (n:=b.tm.length-1) Ab;rw[<-aDR] at i;obtain⟨M,z,g⟩:=aGp (.inl i) Ee (put (put (put h bi 2 y) bi 2 f) bi 3 d);have s:=j.tT g;obtain⟨P,N,L,J⟩:=đ s (rm.sub (b':={b with AY:=DO CX (By [Bc]) (DO CM CX b.AY),A8:=Gu b.A8,tm:=b.tm.dropLast}) rfl sO (Eb _ _) AH);refine⟨P,f,d,M,?_,by rw[e];exact L,by rw[e];exact Nk,(C.trans Bp).trans J⟩;rw[Af,X2];simp only[abS,(Ip w).Ad,A.Ad,FQ,r2.Ad,nX,H.Ad,E.Ad,l6,lt,(Ab:(0:Int)<(b.tm.length:Int)),Ie hpos (Ab:b.tm.length<9223372036854775807),R,z.Ad,j.st (k:=6) (v0:=t) rfl g.1.cells,N.Ad,Jk]
def aLn(w:BX h bi a o c t G b):∃h',BH cx 79 [Pt bi 0] h (.tuple []) h'/\BX h' bi a o c t G {b with stop:=true}/\DA h (Bt bi G) h' (Bt bi G):=by refine⟨_,?_,w.put (k:=19) (v:= .bool true) rfl rfl w.o w.t,Bp⟩;rw[Af,sZ];simp only[BC,(Ip w).Ad,w.st (k:=19) (v:=tt) rfl rfl]
def aGt(w:BX h bi a o c t G b)(rm:B6 b m):∃h' o',BH cx 82 [Pt bi 2] h (.agg b.sC.row) h'/\BX h' bi a o' c t G b.Ru/\DA h (Bt bi G) h' (Bt bi G):=by
 have ho:=rm.AY;have ld:Bd h none (Pt bi 2)=some o:=w.ld 2;have lo:=AU.CL w.o;unfold BS.Ru BS.sC;by_cases h2:b.AY.length<2;.refine⟨h,o,?_,by rw[Ae h2];exact w,.refl⟩;rw[Ae h2,Af,X3];simp only[abS,↓reduceIte,AP,(Vg w.sA).Ad,(Ab:(b.AY.length:Int)<2)];rfl
 .obtain⟨u,e,hu⟩:=AU.Mn w.o (k:= .i64) (n:=b.AY.length-1) Ab;refine⟨_,u,?_,by rw[Ac h2];exact w.I8 hu,Bp⟩;rw[Ac h2,Af,X3];simp only[abS,↓reduceIte,AP,Fa,(Vg w.sA).Ad,(Ab:¬(b.AY.length:Int)<2),(f39 w.sA Ab).Ad,ld,lo,Ie (Ab:0<b.AY.length) (Ab:b.AY.length<9223372036854775807),e,w.st (k:=2) (v0:=o) rfl (AU.cells hu)]
end
def SQ{U:Type}(enc:U->List Aa)(D3:U->Ah->Prop)(Z:U->Nat)(i:Nat)(HC:U->Ah->Prop)(s:U):Hb:=
 λx vs h1=>(x= .normal/\∃s',vs=enc s'/\D3 s' h1/\Z s'<Z s)\/(x= .exit i/\∃s',vs=enc s'/\HC s' h1)
def SQ.next{U:Type}{enc:U->List Aa}{D3 HC:U->Ah->Prop}{Z:U->Nat}{i:Nat}{s:U}{vs:List Aa}{h:Ah}(s':U)(e:vs=enc s')(hi:D3 s' h)(hl:Z s'<Z s):SQ enc D3 Z i HC s .normal vs h:= .inl ⟨rfl,s',e,hi,hl⟩
def SQ.HC{U:Type}{enc:U->List Aa}{D3 HC:U->Ah->Prop}{Z:U->Nat}{i:Nat}{s:U}{vs:List Aa}{h:Ah}(s':U)(e:vs=enc s')(hi:HC s' h):SQ enc D3 Z i HC s (.exit i) vs h:= .inr ⟨rfl,s',e,hi⟩
def DP{C:FW}{Q:Hb}{h:Ah}{U:Type}{key i:Nat}{init:List Aa}{body:List Aa->IT}{k:DQ->List Aa->IT}(enc:U->List Aa)(D3:U->Ah->Prop)(Z:U->Nat)(HC:U->Ah->Prop)(s0:U)(h0:init=enc s0)(hi:D3 s0 h)
  (round:∀s h,D3 s h->W C (body (enc s)) (SQ enc D3 Z i HC s) h) (hk:∀s h,HC s h->W C (k (.exit i) (enc s)) Q h):W C (.loop key init body k) Q h:=by
 refine Bf enc D3 Z s0 h0 hi λs h hs=>W.mono (round s h hs) ?_;rintro x vs h1 (hn|⟨rfl,s',rfl,hf⟩);.exact .inl hn
 .exact .inr ⟨AH,hk s' h1 hf⟩
def aU{h:Ah}{id z:Nat}{AD:List (List Aa)}(hr:∀r∈AD,r.length=z)(hc:h[id]?=some (.cells AD.flatten)){i:Nat}(hi:i<AD.length):Bd h (some z) (Pt id (i*z))=some (.agg AD[i]):=by
 have hl:i*z+z<=AD.flatten.length:=by rw[FO hr];have:=DT z (Ab:i+1<=AD.length);rwa [BG,D4] at this
 simp only[Bd,hc,MV];rw[Ae hl,IY hr,AF hi,CT,CI (by rw[hr _ (AL hi)];exact Ag _),AG (by rw[hr _ (AL hi)];exact Ag _)]
section
variable{h h':Ah}{bi a:Nat}{o c t:Aa}{G G' F:Nat->Prop}{b b':BS}{x:Int}{m:Nat}
variable{nm:Ao}{av:Aa}{l:List A3}{r:List Aa}{sp p:Int}
def ux(e:Cj)(h:Ah):∃r,BH cx 182 [.agg e.row] h (.agg r) h/\NO e.c.name e.v r:=by have hv:e.v.cells=[e.v]:=AU.cells e.ok;refine⟨_,?_,I 2,ff,S [],ff,S [],ff,ff,ff,S [],.int .i32 0,rfl⟩;rw[Af,fC,Cj.row];simp only[abS,Nat.reduceLeDiff,↓reduceIte,AP,hv]
def aV:∀{l:List Cs} {b:BS} {m:Nat},B6 b (m+4*l.length)->(∀e∈l,e.name.length<=1000/\DU e.Az)->B6 (BS.Jw l b).2 m
 |[],b,m,r,_=>by simpa[BS.Jw] using r
 |e::l,b,m,r,hl=>by have h1:=hl e AH;rw[BS.Jw];exact aV (Lo (m:=m+4*l.length) (r.le Ee) h1.2 h1.1) λx hx=>hl x (by simp[hx])
def SR:b.Lm<=b.A8.length:=by unfold BS.Lm;rcases Dc (q:=b.settled) (l:=b.A8) with⟨h,_⟩|⟨n,h1,h2,_⟩<;>omega
structure jN(h:Ah)(bi a:Nat)(t:Aa)(G0:Nat->Prop)(b:BS)(fs:List Cj)(id m k:Nat)(h1:Ah):Prop where
 le:k<=fs.length
 low:b.Lm<=k
 ex:∃(o:Aa) (G:Nat->Prop) (b1:BS) (HX:List Cj),BX h1 bi a o (.CE id 0 fs.length 3) t G b1/\Eu b1/\B6 b1 (m+4*(fs.length-k))/\h1[id]?=some (.cells (HX.map Cj.row).flatten)/\HX.length=fs.length/\HX.drop k=fs.drop k/\
  BS.DS b={(BS.Jw (b.A8.drop k) b1).2 with A8:=(HX.take k).map (·.c)++(BS.Jw (b.A8.drop k) b1).1}/\¬Bt bi G id/\DA h (Bt bi G0) h1 (Bt bi G)
def BX.jO(w:BX h bi a o c t G {b with A8:=b.A8}):BX h bi a o c t G b:=w
def PS{h1:Ah}{id:Nat}{v v':Aa}(ha:At h id 3 v)(hf:Kw h v=some (h1,v'))(he:h1[id]?=h[id]?):Ma h 3 (Pt id 0)=some (Am.put h1 id 3 v'):=by obtain⟨cs,hc,e⟩:=ha;rw[hc] at he;unfold Ma;simp only[hc,BU,e,hf,Ct,he];rw[If he]
def zV{v:Aa}{l:List Cj}(hv:Dk l v):Kw h v=some (h,v):=by rcases hv with rfl|⟨rfl,_⟩<;>rfl
def aGu{v:Aa}(hv:Dk [] v)(h:Ah):∃u,BH cx 181 [v] h u h/\Dk [] u:=by
 have d:=Pz (h:=h) (s:= .sl 3 []) (b:=48) (.inr rfl) hv;rcases hv with rfl|⟨rfl,h0⟩
 .refine⟨.sl 3 [],?_,.mk⟩;rw[Af,SH];simp only[CW] at d;simp only[BC,CW,show AE (.Gy false .sl) [.sl 3 [],.slnil]=some (.bool false) from rfl,show AE (.Dh 3) []=some (.sl 3 []) from rfl,d]
 .refine⟨.slnil,?_,.inr ⟨rfl,rfl⟩⟩;rw[Af,SH];simp only[BC,show AE (.Gy false .sl) [.slnil,.slnil]=some (.bool true) from rfl]
def jN.init(w:BX h bi a o c t G b)(ok:Eu b)(rm:B6 b (m+4*b.A8.length)){fs:List Cj}(Hj:fs.map (·.c)=b.A8):
  jN h bi a t G b fs h.length m b.Lm (Am.put (h++[.cells (fs.map Cj.row).flatten]) bi 3 (.CE h.length 0 fs.length 3)):=by
 have Ho:b.A8.length=fs.length:=by rw[<-Hj,Ak]
 have hk:=SR (b:=b);have hne:h.length≠bi:=Nat.ne_of_gt w.lt;refine⟨Ab,Ag _,o,G,b,fs,((w.IA (u:=[.cells (fs.map Cj.row).flatten])).Lr (l:=b.A8)).jO,ok,rm.le Ab,?_,rfl,rfl,?_,?_,w.C7.trans Bp⟩;.rw[Ck hne];simp
 .unfold BS.DS;simp only;rw[Fs,Hj]
 .rintro(rfl|hg);.exact hne rfl
  .exact absurd (w.w.lt hg) (Dr _)
def jN.step{fs:List Cj}{id k:Nat}{h1:Ah}(Hj:fs.map (·.c)=b.A8)(Kz:∀e∈b.A8,e.name.length<=1000/\DU e.Az)(hi:h.length<=id)(hlt:k<fs.length)(i:jN h bi a t G b fs id m k h1):
  ∃(r:List Aa) (h2:Ah) (n:Int),Bd h1 none (Pt bi 3)=some (.CE id 0 fs.length 3)/\Bd h1 (some 3) (Pt id (k*3))=some (.agg fs[k].row)/\BH cx 182 [.agg fs[k].row] h1 (.agg r) h1/\BH cx 65 [Pt bi 0,.agg r] h1 (I n) h2/\Bd h2 none (Pt bi 3)=some (.CE id 0 fs.length 3)/\
   Cx h2 1 (Pt id (k*3)) (I n)=some (Am.put h2 id (k*3) (I n))/\jN h bi a t G b fs id m (k+1) (Am.put h2 id (k*3) (I n)):=by
 obtain⟨D,E,b1,HX,w1,QZ,tU,RG,VG,dJ,gq,Na,g⟩:=i.ex;have Ry:k<HX.length:=Ab;have Ho:b.A8.length=fs.length:=by rw[<-Hj,Ak]
 have uy:k<b.A8.length:=Ab;have q:HX[k]=fs[k]:=by have:=Cb (λl=>l[0]?) dJ;simp only[Cr,Bs] at this;rw[Ai Ry,Ai hlt] at this;exact D2 this
 have y:b.A8[k]=fs[k].c:=by simp only[<-Hj,CU]
 have f:=aU (Om HX) RG (i:=k) (by simpa using Ry);rw[CU,q] at f;have Kz:=Kz fs[k].c (by rw[<-y];exact AL uy);obtain⟨r,A,hr⟩:=ux fs[k] h1;obtain⟨h2,B,z,r2,w,d⟩:=um (m:=m+4*(fs.length-(k+1))) w1 QZ.ba (tU.le Ab) hr fs[k].ok Kz.2 Kz.1;have cm:id<h1.length:=(Al.1 RG).1;have IV:h2[id]?=some (.cells (HX.map Cj.row).flatten):=by rw[d.old id cm Na];exact RG
 have Tb:¬Bt bi z id:=λhg=>by
  rcases d.Bt id hg with hg|hg
  .exact Na hg
  .omega
 have u:At h2 id (k*3) (I fs[k].c.node):=⟨_,IV,by have:=Lq (k:=0) (Om HX) AX (i:=k) (r:=fs[k].row) (by rw[Cl,Ai Ry,q];rfl);rw[Bs] at this;rw[this];rfl⟩
 let s:Cj:=⟨{fs[k].c with node:=b1.a.len+1},fs[k].v,fs[k].ok⟩
 have hrow:(HX.map Cj.row).flatten.set (k*3) (I (b1.a.len+1))=((HX.set k s).map Cj.row).flatten:=by have:=NN (AD:=HX.map Cj.row) (i:=k) (k:=0) (v:= I (b1.a.len+1)) (Om HX) (by simpa using Ry) AX;rw[Bs] at this;rw[Ek,BY,Ae (by rw[FO (Om HX),Ak];omega)];rw[AI] at this;rw[show s.row=((HX.map Cj.row)[k]'(by simpa using Ry)).set 0 (I (b1.a.len+1)) by rw[CU,q];rfl];exact this
 have C:id≠bi:=λe=>Tb (.inl e);refine⟨r,h2,b1.a.len+1,w1.l3,f,A,r2,w.l3,u.store rfl,⟨hlt,by have:=i.low;omega,B,z,_,HX.set k s,w.Df λj hj=>Ck λe=>Tb (e▸hj),PO QZ,Lo (m:=m+4*(fs.length-(k+1))) (tU.le Ab) Kz.2 Kz.1,?_,by rw[Bn];exact VG,?_,?_,Tb,⟨by rw[JD];exact(g.trans d).len,λj hj hn=>(Ck Ab).trans ((g.trans d).old j hj hn),(g.trans d).Bt⟩⟩⟩;.rw[If IV,AS (by have:=d.len;omega),hrow]
 .rw[Zw (Ni k)];have:=Cb (λl=>l.drop 1) dJ;simpa[Eg] using this
 .rw[gq,AF uy,y,BS.Jw];simp only
  congr 1
  rw[AB (by rw[Bn];exact Ry),aDS,BF,OP (Ag k),AI];rfl
def aLp(w:BX h bi a o c t G b)(hc:B4 b.A8 c)(ok:Eu b)(rm:B6 b (m+4*b.A8.length)):
  ∃h' o' c' G',BH cx 73 [Pt bi 0] h (.tuple []) h'/\BX h' bi a o' c' t G' b.DS/\B4 b.DS.A8 c'/\DA h (Bt bi G) h' (Bt bi G'):=by
 have ho:=rm.AY;have Td:=rm.A8;obtain⟨fs,Hj,hcs⟩:=hc;have Ho:b.A8.length=fs.length:=by rw[<-Hj,Ak]
 have Ji:Ev cx 73 [Pt bi 0] h λr h'=>r= .tuple []/\∃o' c' G',BX h' bi a o' c' t G' b.DS/\B4 b.DS.A8 c'/\DA h (Bt bi G) h' (Bt bi G'):=by
  unfold Ev;have l3:=w.l3;have lc:=AU.CL hcs;rw[sW];simp only[abS,(Ip w).Ad,l3,lc];refine DP (i:=0) (λn:Nat=>[I (n:Int)]) (λn h1=>n<=fs.length/\AR b.settled b.A8=AR b.settled (b.A8.take n)/\h1=h) (λn=>n) (λn h1=>n=b.Lm/\h1=h) fs.length rfl ⟨Ag _,by rw[<-Ho,Bv],rfl⟩ ?_ ?_
  .rintro n h1 ⟨hn,ha,rfl⟩;cases n with
   |zero=>simp only[abS,(AX:¬(0:Int)<((0:Nat):Int))];refine .HC 0 rfl ⟨?_,rfl⟩;unfold BS.Lm;rw[ha];rfl
   |succ n=>
    have hlt:n<b.A8.length:=Ab;have SN:n<fs.length:=Ab;rw[GR hlt] at ha;have i1:=Ie (n:=n+1) (Ab:0<n+1) (Ab:n+1<9223372036854775807);rw[E9] at i1;have d:=AU.BJ (k:= .i64) hcs SN;have en:fs[n].c.node=b.A8[n].node:=by simp only[<-Hj,CU]
    have f:=Zn w.sA Ab b.A8[n].node;have g:b.settled b.A8[n]=true->n+1=b.Lm:=by intro hs;rw[Ae hs] at ha;unfold BS.Lm;rw[ha];omega
    rw[Cj.row,en] at d;simp only[abS,(Ab:(0:Int)<((n+1:Nat):Int)),l3,i1,d,f.Ad,BW];refine⟨λh1=>⟨λh2=>?_,λh2=>?_⟩,λh1=>?_⟩
    .have hs:b.settled b.A8[n]=false:=by unfold BS.settled;rw[Ay];omega
     rw[Ac (by rw[hs];decide)] at ha;exact .next n rfl ⟨Ab,ha,rfl⟩ Ab
    .exact .HC (n+1) rfl ⟨g (by unfold BS.settled;rw[AA];omega),rfl⟩
    .exact .HC (n+1) rfl ⟨g (by unfold BS.settled;rw[AA];omega),rfl⟩
  .rintro n h1 ⟨rfl,O⟩;rw[O];by_cases hne:fs=[]
   .subst hne;have ha:b.A8=[]:=Hj.symm;have g:b.Lm=0:=by have:=SR (b:=b);rw[ha] at this;exact Nat.le_zero.1 this
    have hb:b.DS=b:=by unfold BS.DS;rw[ha];simp only[Ĵ,BS.Jw,ĵ,BQ];rw[<-ha]
    obtain⟨u,f,hu⟩:=aGu hcs h;have w1:=(w.Lr (u:=u) (l:=b.A8)).jO;have d:=PS w1.zQ (zV hu) rfl;have B:=AU.CL hu;have y:=w1.l3;rw[BP] at B;have hz:(b.Lm:Int)=((0:Nat):Int):=by rw[g]
    simp only[abS,l3,f.Ad,w.st (k:=3) (v0:=c) rfl (AU.cells hu)];refine DP (i:=2) (λn:Nat=>[I (n:Int)]) (λn h1=>n=0/\h1=Am.put h bi 3 u) (λn=>n) (λn h1=>n=0/\h1=Am.put h bi 3 u) 0 (by rw[hz]) ⟨rfl,rfl⟩ ?_ ?_;.rintro n h1 ⟨rfl,rfl⟩;simp only[abS,y,B,(AX:¬((0:Nat):Int)<((0:Nat):Int))];exact .HC 0 rfl ⟨rfl,rfl⟩
    .rintro n h1 ⟨rfl,rfl⟩;simp only[BC,d];refine⟨_,rfl,rfl,o,u,G,?_,⟨[],by rw[hb,ha];rfl,hu⟩,Bp.trans Bp⟩;rw[hb];exact(w1.Lr (l:=b.A8)).jO
   .have i0:=jN.init (m:=m) w ok rm Hj;have f:=aCl (h:=h) hcs hne Ab;have w0:=w.IA (u:=[.cells (fs.map Cj.row).flatten]);simp only[abS,l3,f.Ad,w0.st (k:=3) (v:= .CE h.length 0 fs.length 3) (v0:=c) rfl rfl];refine DP (i:=2) (λn:Nat=>[I (n:Int)]) (λk h1=>jN h bi a t G b fs h.length m k h1) (λk=>fs.length-k) (λk h1=>k=fs.length/\jN h bi a t G b fs h.length m k h1) b.Lm rfl i0 ?_ ?_
    .intro k h1 i;have Ej:=i.le;have C:AE (.len false) [.CE h.length 0 fs.length 3]=some (I (fs.length:Int)):=rfl;rcases AN k fs.length with hlt|D6
     .obtain⟨r,h2,n,N,M,L,K,J,H,E⟩:=jN.step Hj rm.DD (Ag _) hlt i;have d:AE (.E2 3) [.CE h.length 0 fs.length 3,I (k:Int)]=some (Pt h.length (k*3)):=EX hlt;simp only[abS,N,C,(Ab:(k:Int)<(fs.length:Int)),d,M,L.Ad,BK,K.Ad,J,H,BI (Ab:k<9223372036854775807)];exact .next (k+1) rfl E Ab
     .obtain⟨s,A,b1,HX,w1,_⟩:=i.ex;simp only[abS,w1.l3,C,(Ab:¬(k:Int)<(fs.length:Int))];exact .HC k rfl ⟨Ab,i⟩
    .rintro k h1 ⟨rfl,i⟩;obtain⟨s,A,b1,HX,w1,QZ,tU,RG,VG,dJ,gq,Na,q⟩:=i.ex;have hf:=J0 (Om HX) RG;rw[Ak,VG] at hf;have z:h.length≠bi:=λe=>Na (.inl e);have d:=PS w1.zQ hf (by rw[Ap z]);have D:BX (h1.set h.length .CO) bi a s _ t A b1:=w1.Df λj hj=>Ap λe=>Na (by rw[e];exact hj);simp only[BC,d];have hb:b.DS={b1 with A8:=HX.map (·.c)}:=by rw[gq,AO Ab,AG Ab];simp only[BS.Jw,BE]
     refine⟨_,rfl,rfl,s,_,A,by rw[hb];exact D.Lr,⟨HX,by rw[hb],.mk⟩,?_⟩;refine DA.trans ⟨by rw[Bn];exact q.len,λj hj hn=>?_,q.Bt⟩ Bp;rw[Ap Ab];exact q.old j hj hn
 obtain⟨r,h',hr,rfl,o',c',G',w',KI,x'⟩:=Ji.ret;exact⟨h',o',c',G',hr,w',KI,x'⟩
end
def ē{id l k:Nat}(hl:0<l)(hk:k<=l):AE (.KA 3 false false true) [.CE id 0 l 3,I (k:Int)]=some (.CE id 0 k 3):=by
 have d:E3 (k:Int) l=some k:=by unfold E3;rw[Ae Ab];rfl
 simp[AE,JB,DX,d];omega
def Ĕ{id l k:Nat}(hk:k<=l):AE (.KA 3 false true false) [.CE id 0 l 3,I (k:Int)]=some (if k<l then .CE id (k*3) (l-k) 3 else .sl 3 []):=by
 have d:E3 (k:Int) l=some k:=by unfold E3;rw[Ae Ab];rfl
 simp[AE,JB,DX,d];split<;>rfl
def Hh{U:Type}{l:List U}{k:Nat}(hk:k<l.length):(Be l k).length=l.length-1:=by unfold Be;rw[Aw,As,Bb];omega
def aGw{h:Ah}{id k:Nat}{AD:List (List Aa)}(hr:∀r∈AD,r.length=3)(hc:h[id]?=some (.cells AD.flatten))(hk:k<AD.length)(hb:AD.length<=1000000000):
  ∃GX,BH cx 405 [.CE id 0 AD.length 3,I (k:Int),I ((k+1:Nat):Int)] h (.CE id 0 (AD.length-1) 3) (h.set id (.cells ((Be AD k).flatten++GX))):=by
 have Ij:=(Al.1 hc).1;have v:=Hh hk;have RJ:=FO hr;have u:∀r∈Be AD k,r.length=3:=λr hm=>hr r (by
  unfold Be at hm;rcases Ax.1 hm with hm|hm
  .exact Bm hm
  .exact BB hm)
 have vL:=FO u;rw[v] at vL;have Ue:(AD.take k).flatten=AD.flatten.take (k*3):=(aD hr).symm;have d:(AD.drop (k+1)).flatten=AD.flatten.drop ((k+1)*3):=(IY hr).symm;obtain⟨Se,z,hcl⟩:∃Se,F8 h 3 48 (.CE id 0 k 3) (if k+1<AD.length then .CE id ((k+1)*3) (AD.length-(k+1)) 3 else .sl 3 [])=some (h.set id (.cells ((Be AD k).flatten++Se)),.CE id 0 (AD.length-1) 3)/\Se.length=3:=by
  have g:GY h 3 (if k+1<AD.length then .CE id ((k+1)*3) (AD.length-(k+1)) 3 else .sl 3 [])=some (AD.drop (k+1)):=by
   by_cases P7:k+1<AD.length;.rw[Ae P7];have q:=aE hr (n:=AD.length-(k+1)) (off:=k+1) Ab;rw[AG (by rw[Bb];exact Ag _)] at q;simp only[GY,BL,hc,q];rw[Ae (by rw[RJ];omega)]
   .rw[Ac P7,AO Ab];rfl
  by_cases ud:k+1=AD.length
  .refine⟨AD.flatten.drop (k*3),?_,by rw[Bb,RJ];omega⟩;have j:AD.drop (k+1)=[]:=AO Ab;rw[j] at g;have w:(Be AD k).flatten++AD.flatten.drop (k*3)=AD.flatten:=by unfold Be;rw[j,BE,Ue,CF]
   have C:h.set id (.cells ((Be AD k).flatten++AD.flatten.drop (k*3)))=h:=by rw[w];obtain⟨ZZ,B⟩:=Al.1 hc;rw[<-B,JS]
   simp only[F8,g,BL];rw[C,(Ab:AD.length-1=k)]
  .obtain⟨y,s,hd⟩:∃y s,AD.drop (k+1)=y::s:=⟨_,_,AF (Ab:k+1<AD.length)⟩;have nO:(y::s).length=AD.length-(k+1):=by rw[<-hd,Bb]
   refine⟨AD.flatten.drop ((AD.length-1)*3),?_,by rw[Bb,RJ];omega⟩;rw[hd] at g;simp only[F8,g,hc,BL];rw[nO,Ae (by rw[RJ];omega)];rw[<-hd,d,BU,BU,(Ab:k+(AD.length-(k+1))=AD.length-1)];unfold Be;rw[KR,Ue,d]
 generalize Ů:h.set id (.cells ((Be AD k).flatten++Se))=h2 at z;have IV:h2[id]?=some (.cells ((Be AD k).flatten++Se)):=by rw[<-Ů];exact AS Ij
 have tP:((Be AD k).flatten++Se).length=AD.length*3:=by rw[Aw,vL,hcl];omega
 have j:E4 (.bc 3 true true) h2 [.CE id 0 (AD.length-1) 3,I ((AD.length-1:Nat):Int),I (AD.length:Int)]=some (h2,.CE id ((AD.length-1)*3) 1 3):=by
  simp only[E4,kI,IV];have D:E3 (AD.length:Int) ((((Be AD k).flatten++Se).length-0)/3)=some AD.length:=by unfold E3;rw[Ae (by rw[tP];omega)];rfl
  have q:E3 ((AD.length-1:Nat):Int) AD.length=some (AD.length-1):=by unfold E3;rw[Ae Ab];rfl
  rw[Ae ⟨trivial,trivial,AQ _⟩];simp only[DX,D,q,Ct,B9];rw[Ae (by rw[tP];omega)];congr 3
  .omega
  .omega
 have A:E4 (.clear 3 [I 0,S [],.slnil]) h2 [.CE id ((AD.length-1)*3) 1 3]=some (h.set id (.cells ((Be AD k).flatten++[I 0,S [],.slnil])),.bool true):=by
  simp only[E4,Wn,IV];rw[Ae ⟨trivial,rfl,by rw[tP];omega⟩];congr 2
  rw[<-Ů,aDd];congr 2
  rw[HO vL,AO (by rw[tP];omega)];simp
 refine⟨[I 0,S [],.slnil],?_⟩;have f:∀i n,AE (.len false) [.CE i 0 n 3]=some (I (n:Int)):=λ_ _=>rfl;have w:E4 (.pF 3) h [.CE id 0 AD.length 3,I (k:Int),I ((k+1:Nat):Int),I (AD.length:Int)]=some (h,.bool true):=by simp only[E4,Wo];simp;omega
 rw[Af,iU];simp only[abS,f,w,(Ab:¬(k:Int)=((k+1:Nat):Int)),ē (id:=id) (Ab:0<AD.length) (Ab:k<=AD.length),Ĕ (id:=id) (Ab:k+1<=AD.length),z,j,A]
def SU{z:Nat}:∀{AD:List (List Aa)} {cs Y5:List Aa},(∀r∈AD,r.length=z)->CA (Y5++(AD.flatten++cs)) z Y5.length AD.length=AD
 |[],_,_,_=>rfl
 |x::AD,cs,Y5,h=>by have hx:=h x AH;have:=SU (AD:=AD) (cs:=cs) (Y5:=Y5++x) (λr hr=>h r (by simp[hr]));simp only[AI,Aw,hx] at this;simp only[CT,A9,CA,AI];rw[JA rfl,HO hx,this]
def tV{h:Ah}{id z:Nat}{AD:List (List Aa)}{cs:List Aa}(hr:∀r∈AD,r.length=z)(hc:h[id]?=some (.cells (AD.flatten++cs))):Kw h (.CE id 0 AD.length z)=some (h.set id .CO,.sl z AD):=by unfold Kw;simp only[hc,BU];have:=SU (cs:=cs) (Y5:=[]) hr;simp only[BQ,BP] at this;rw[Ae (by rw[Aw,FO hr];omega),this]
def FJ(e:Cj)(at_ mk:Int)(anc far:Item)(last:Int):List Aa:=
 [I e.c.node,.str e.c.name,e.v,I at_,I mk,I anc.node,I anc.A7,.str anc.name,.bool anc.OM,I far.node,I far.A7,.str far.name,.bool far.OM,I last]
def ML(ai bi:Nat)(G:Nat->Prop):Nat->Prop:=λi=>i=ai\/Bt bi G i
section
variable{h h':Ah}{bi a ai:Nat}{o c t:Aa}{G G' F:Nat->Prop}{b b':BS}{x:Int}{m:Nat}
variable{nm:Ao}{av:Aa}{l:List A3}{r:List Aa}{sp p:Int}{e:Cj}{at_ mk last:Int}{anc far:Item}
def ES(x:DA h (Bt bi G) h' (Bt bi G'))(ai:Nat):DA h (ML ai bi G) h' (ML ai bi G'):=
 ⟨x.len,λi hi hn=>x.old i hi λhg=>hn (.inr hg),λi hi=>by
  rcases hi with hi|hi
  .exact .inl (.inl hi)
  .rcases x.Bt i hi with h|h
   .exact .inl (.inr h)
   .exact .inr h⟩
def PT{k:Nat}{v:Aa}:DA h (Am.ML ai bi G) (put h ai k v) (Am.ML ai bi G):=⟨by rw[JD];exact Ag _,λi _ hn=>Ck λe=>hn (.inl e),λ_ h=> .inl h⟩
def H9{id k:Nat}{v:Aa}{cs:List Aa}(hc:h[id]?=some (.cells cs)):(put h id k v)[id]?=some (.cells (cs.set k v)):=by rw[If hc,AS (Al.1 hc).1]
def down(k:Nat)(x:Int):Int:=if(k:Int)<x then x-1 else x
def zW(w:BX h bi a o c t G b)(hc:B4 b.A8 c)(rm:B6 b m)(ha:h[ai]?=some (.cells (FJ e at_ mk anc far last)))(hn:¬Bt bi G ai){k:Nat}(hk:k<b.A8.length)(h1:0<=at_/\at_<=1000000000)(h2:0<=mk/\mk<=1000000000):
  ∃h' c',BH cx 331 [Pt ai 0,Pt bi 0,I (k:Int)] h (.tuple []) h'/\BX h' bi a o c' t G {b with A8:=Be b.A8 k}/\B4 (Be b.A8 k) c'/\h'[ai]?=some (.cells (FJ e (down k at_) (down k mk) anc far last))/\DA h (ML ai bi G) h' (ML ai bi G):=by
 obtain⟨fs,Hj,hcs⟩:=hc;have Td:=rm.A8;have Ho:b.A8.length=fs.length:=by rw[<-Hj,Ak]
 have hne:fs≠[]:=by intro e;rw[Ho,e] at hk;exact absurd hk (Nat.not_lt_zero _)
 have YQ:ai≠bi:=λe=>hn (.inl e);have z:ai<h.length:=(Al.1 ha).1;have C:=aCl (h:=h) hcs hne Ab;have hX:(h++[Dw.cells (fs.map Cj.row).flatten])[h.length]?=some (.cells (fs.map Cj.row).flatten):=AH;obtain⟨GX,r2⟩:=aGw (Om fs) hX (k:=k) Ee Ee;rw[Ak] at r2;have e2:(h++[Dw.cells (fs.map Cj.row).flatten]).set h.length (.cells ((Be (fs.map Cj.row) k).flatten++GX))=h++[.cells ((Be (fs.map Cj.row) k).flatten++GX)]:=by rw[BM _ _ (Ag _),C6];rfl
 rw[e2] at r2;generalize A:h++[Dw.cells ((Be (fs.map Cj.row) k).flatten++GX)]=H at r2;have w1:BX H bi a o c t G b:=by rw[<-A];exact w.IA
 have Za:H[ai]?=some (.cells (FJ e at_ mk anc far last)):=by rw[<-A,Aj z];exact ha
 have Q:H[h.length]?=some (.cells ((Be (fs.map Cj.row) k).flatten++GX)):=by rw[<-A];simp
 have hL:H.length=h.length+1:=by rw[<-A];simp
 have Z:DA h (ML ai bi G) H (ML ai bi G):=by rw[<-A];exact ES w.C7 ai
 have s:bi≠h.length:=O2 w.lt;have Vx:ai≠h.length:=O2 z;have B:=w1.st (k:=3) (v:= .CE h.length 0 (fs.length-1) 3) (v0:=c) rfl rfl;have w2:=w1.Lr (u:= .CE h.length 0 (fs.length-1) 3) (l:=b.A8);have OV:(put H bi 3 (.CE h.length 0 (fs.length-1) 3))[ai]?=some (.cells (FJ e at_ mk anc far last)):=by rw[Ck YQ];exact Za
 have P:(put H bi 3 (.CE h.length 0 (fs.length-1) 3))[h.length]?=some (.cells ((Be (fs.map Cj.row) k).flatten++GX)):=by rw[Ck (DG s)];exact Q
 have Y:DA h (ML ai bi G) (put H bi 3 (.CE h.length 0 (fs.length-1) 3)) (ML ai bi G):=Z.trans (ES Bp ai);generalize R:put H bi 3 (.CE h.length 0 (fs.length-1) 3)=f at*;have hL2:f.length=h.length+1:=by rw[<-R,JD,hL]
 have t3:At f ai 3 (I at_):=⟨_,OV,rfl⟩;have qV:=H9 (k:=3) (v:= I (down k at_)) OV;have E:put f ai 3 (I (down k at_))=if(k:Int)<at_ then put f ai 3 (I (at_-1)) else f:=by
  unfold down;split;.rfl
  .exact t3.same
 have w3:BX (put f ai 3 (I (down k at_))) bi a o _ t G _:=w2.Df λj hj=>Ck λe=>hn (e▸hj);have O:(put f ai 3 (I (down k at_)))[h.length]?=_:=(Ck (DG Vx)).trans P;have X:=Y.trans (PT (k:=3) (v:= I (down k at_)));generalize hH3:put f ai 3 (I (down k at_))=d at*;have t4:At d ai 4 (I mk):=⟨_,qV,rfl⟩;have M:=H9 (k:=4) (v:= I (down k mk)) qV;have q:put d ai 4 (I (down k mk))=if(k:Int)<mk then put d ai 4 (I (mk-1)) else d:=by
  unfold down;split;.rfl
  .exact t4.same
 have T:BX (put d ai 4 (I (down k mk))) bi a o _ t G _:=w3.Df λj hj=>Ck λe=>hn (e▸hj);have N:(put d ai 4 (I (down k mk)))[h.length]?=_:=(Ck (DG Vx)).trans O;have J:=X.trans (PT (k:=4) (v:= I (down k mk)));generalize hH4:put d ai 4 (I (down k mk))=S at*;have L:∀r∈Be (fs.map Cj.row) k,r.length=3:=λr hm=>Om fs r (by
  unfold Be at hm;rcases Ax.1 hm with hm|hm
  .exact Bm hm
  .exact BB hm)
 have f4:=tV L N;rw[Hh Ee,Ak] at f4;have D:=PS T.zQ f4 (by rw[Ap (DG s)]);have w5:BX (S.set h.length .CO) bi a o _ t G {b with A8:=b.A8}:=T.Df λj hj=>Ap λe=>by
  subst e;rcases hj with hj|hj
  .exact s hj.symm
  .exact absurd (w.w.lt hj) (Dr _)
 have ed:Be (fs.map Cj.row) k=(Be fs k).map Cj.row:=by unfold Be;rw[BF,Fs,JG]
 have ec:(Be fs k).map (·.c)=Be b.A8 k:=by unfold Be;rw[BF,Fs,JG,Hj]
 refine⟨_,.sl 3 (Be (fs.map Cj.row) k),?_,w5.Lr (l:=Be b.A8 k),⟨Be fs k,ec,by rw[ed];exact .mk⟩,?_,?_⟩
 .have i:Bd f none (Pt ai 3)=some (I at_):=t3.load;have g:Bd d none (Pt ai 4)=some (I mk):=t4.load;have inc:=BI (Ab:k<9223372036854775807);have W:=C3 (Ab: -9223372036854775808<=at_-1) (Ab:at_-1<9223372036854775808);have V:=C3 (Ab: -9223372036854775808<=mk-1) (Ab:mk-1<9223372036854775808);rw[Af,gV];by_cases y:(k:Int)<at_
  .rw[Ae y] at E;have U:Cx f 1 (Pt ai 3) (I (at_-1))=some d:=by rw[E];exact t3.store rfl
   by_cases n:(k:Int)<mk
   .rw[Ae n] at q;have K:Cx d 1 (Pt ai 4) (I (mk-1))=some S:=by rw[q];exact t4.store rfl
    simp only[abS,w.l3,C.Ad,inc,r2.Ad,B,i,y,W,U,g,n,V,K,D]
   .rw[Ac n] at q;subst q;simp only[abS,w.l3,C.Ad,inc,r2.Ad,B,i,y,W,U,g,n,D]
  .rw[Ac y] at E;subst E;by_cases n:(k:Int)<mk
   .rw[Ae n] at q;have K:Cx d 1 (Pt ai 4) (I (mk-1))=some S:=by rw[q];exact t4.store rfl
    simp only[abS,w.l3,C.Ad,inc,r2.Ad,B,i,y,g,n,V,K,D]
   .rw[Ac n] at q;subst q;simp only[abS,w.l3,C.Ad,inc,r2.Ad,B,i,y,g,n,D]
 .rw[Ck YQ,Ap (DG Vx),M];rfl
 .refine DA.trans ⟨by rw[Bn];exact J.len,λj hj hn=>?_,J.Bt⟩ (ES Bp ai);rw[Ap Ab];exact J.old j hj hn
end
section
variable{U:Type}{q:U->Bool}{l:List U}
def Mu{p:Nat}(hp:p<l.length)(h1:q l[p]=true)(h2:∀j (hj:j<l.length),p<j->q l[j]=false):AR q l=(p:Int):=by
 rcases Dc (q:=q) (l:=l) with⟨e,h⟩|⟨n,hn,e,d,f⟩
 .rw[h _ (AL hp)] at h1;exact absurd h1 AX
 .rcases Nat.lt_trichotomy n p with h|h|h
  .have:=f p hp h;rw[this] at h1;exact absurd h1 AX
  .rw[e,h]
  .have:=h2 n hn h;rw[this] at d;exact absurd d AX
def II{p:Nat}(e:AR q l=(p:Int)):∃hp:p<l.length,q l[p]=true/\∀j (hj:j<l.length),p<j->q l[j]=false:=by
 rcases Dc (q:=q) (l:=l) with⟨g,h⟩|⟨n,hn,g,f,d⟩
 .omega
 .have:n=p:=by omega
  subst this;exact⟨hn,f,λj hj h=>d j hj h⟩
def nY{k j:Nat}(hk:k<l.length):(Be l k)[j]?=if j<k then l[j]? else l[j+1]?:=by
 unfold Be;by_cases h:j<k;.rw[Ae h,Aj (by rw[As];omega),Ch,Ae h]
 .rw[Ac h,Bl (by rw[As];omega),Cr];congr 1
  rw[As];omega
def Oy{k j:Nat}(hk:k<l.length)(hj:j<(Be l k).length):(Be l k)[j]=if h:j<k then l[j]'(by omega) else l[j+1]'(by rw[Hh hk] at hj;omega):=by
 have hl:=Hh hk;have:=nY (j:=j) hk;rw[Ai hj] at this;by_cases h:j<k;.rw[oV h];rw[Ae h,Ai Ab] at this;exact D2 this
 .rw[dif_neg h];rw[Ac h,Ai Ab] at this;exact D2 this
def jP{p k:Nat}(e:AR q l=(p:Int))(hk:k<l.length)(hne:k≠p):AR q (Be l k)=down k p:=by
 obtain⟨hp,h1,h2⟩:=II e;have hl:=Hh hk;unfold down;by_cases d:k<p
 .rw[Ae Ab,(Ab:(p:Int)-1=((p-1:Nat):Int))];refine Mu Ab ?_ ?_;.rw[Oy hk,dif_neg Ab];have:p-1+1=p:=Ab;simp only[this,h1]
  .intro j hj h;rw[Oy hk,dif_neg Ab];exact h2 _ _ Ab
 .rw[Ac Ab];refine Mu Ab ?_ ?_;.rw[Oy hk,oV Ab];exact h1
  .intro j hj h;rw[Oy hk];split;.exact h2 _ _ h
   .exact h2 _ _ Ab
def nZ{p k:Nat}{x:U}(e:AR q l=(p:Int))(hne:k≠p)(hx:q x=false):AR q (l.set k x)=(p:Int):=by
 obtain⟨hp,h1,h2⟩:=II e;refine Mu (by rw[Bn];exact hp) ?_ ?_;.rw[List.getElem_set_ne hne];exact h1
 .intro j hj h;rw[List.getElem_set];split;.exact hx
  .rw[Bn] at hj;exact h2 j hj h
end
def jQ{l:List Item}(hn:(l.map Item.node).Nodup){i:Nat}(hi:i<l.length):AR (Bw l[i].node) l=(i:Int):=by
 refine Mu hi (by simp[Bw]) λj hj h=>?_;by_cases he:l[i].node=l[j].node
 .have h2:(l.map Item.node)[i]'(by simpa using hi)=(l.map Item.node)[j]'(by simpa using hj):=by simpa using he
  exact absurd h2 (List.pairwise_iff_getElem.1 hn i j (by simpa using hi) (by simpa using hj) h)
 .unfold Bw;simpa using λe=>he e.symm
def HA{n:Int}{l:List Cs}(h:0<=Ff n l):∃p:Nat,∃hp:p<l.length,Ff n l=(p:Int)/\n≠0/\l[p].node=n/\AR (XR n) l=(p:Int):=by
 unfold Ff at h⊢;split at h;.omega
 .rename_i h0;rw[Ac h0];obtain⟨p,hp⟩:∃p:Nat,AR (XR n) l=(p:Int):=⟨_,(GW h).symm⟩;obtain⟨h1,h2,_⟩:=II hp;exact⟨p,h1,hp,h0,by simpa[XR] using h2,hp⟩
def aW{n:Int}{l:List Cs}{k:Nat}(h:0<=Ff n l)(hk:k<l.length)(hne:l[k].node≠n):Ff n (Be l k)=down k (Ff n l):=by obtain⟨p,hp,e,h0,h1,h2⟩:=HA h;rw[e,<-jP h2 hk (by rintro rfl;exact hne h1)];unfold Ff;rw[Ac h0]
def oA{n:Int}{l:List Cs}{k:Nat}{x:Cs}(h:0<=Ff n l)(hk:k<l.length)(hne:l[k].node≠n)(hx:x.node≠n):Ff n (l.set k x)=Ff n l:=by obtain⟨p,hp,e,h0,h1,h2⟩:=HA h;rw[e,<-nZ (x:=x) (k:=k) h2 (by rintro rfl;exact hne h1) (by simp[XR];exact hx)];unfold Ff;rw[Ac h0]
def gr{n:Int}{l:List Cs}(hn:((l.map Cs.node).filter λn=>decide (n≠0)).Nodup)(h:0<=Ff n l):Ff n (Be l (Ff n l).toNat)<0:=by
 obtain⟨p,hp,e,h0,h1,h2⟩:=HA h;rw[e,AV];refine Int.not_le.1 λi=>?_;obtain⟨g,f,j,_,d,_⟩:=HA i;have:l=l.take p++l[p]::l.drop (p+1):=by rw[<-AF hp,CF]
 rw[this,BF,Bk,DV,Hn,Ae (by simpa[h1] using h0),B2,B5] at hn;have hm:=AL f;generalize(Be l p)[g]=y at hm d;unfold Be at hm;rcases Ax.1 hm with hm|hm
 .exact hn.2.2 y.node (DH.2 ⟨OR hm,by simpa[d] using h0⟩) l[p].node AH (by rw[d,h1])
 .exact hn.2.1.1 (DH.2 ⟨by rw[h1,<-d];exact OR hm,by simpa[h1] using h0⟩)
section
variable{h h':Ah}{bi a ai:Nat}{o c t:Aa}{G G' F:Nat->Prop}{b b':BS}{x:Int}{m:Nat}
variable{nm:Ao}{av:Aa}{l:List A3}{r:List Aa}{sp p:Int}{e:Cj}{at_ mk last:Int}{anc far:Item}
def Oz{blk anc:Int}{far i:Nat}{l:Int}{mk m:Nat}(r:B6 b (m+4)):B6 (BS.Fo blk anc far i b l mk).1 m:=by
 unfold BS.Fo;simp only
 split;.exact(r.le Ab).sub rfl De (A4 _) (Ag _)
 .split;.exact(r.le Ab).sub rfl De De (Ag _)
  .rename_i he _;obtain⟨p,hp,f,_,_,_⟩:=HA (Jq.1 he);rw[f,AV,AJ,Ai hp,Hm];have Kz:=r.DD _ (AL hp);have d:=I6 (m:=m+1) (nm:=b.A8[p].name) (l:=b.A8[p].Az) (sp:=1) (p:=anc) (r.le Ab) Kz.2;have r2:=(d.le (m':=m) Ab).I4 (I5 (p:=(b.Gv b.A8[p].name b.A8[p].Az 1).node) (x:=l) (bf:=0));refine⟨r2.n,r2.at_,r2.data,by simp only[Bn];exact r2.AY,by simp only[Bn];exact r2.A8,r2.tm,λe he=>?_,λi hi=>?_⟩
   .rcases C8 he with he|rfl
    .exact r2.DD e he
    .exact Kz
   .rcases C8 hi with hi|rfl
    .exact r2.YS i hi
    .exact NM Kz.1
end
def TR{A:Ar}{x p bf:Int}(h:(A.nd p).kind=4):A.Et x p bf=A.Fq p x bf:=by unfold Ar.Et;rw[Ac (by rw[h];intro h;exact absurd h.1 AX)]
section
variable{h h':Ah}{bi a ai:Nat}{o c t:Aa}{G G' F:Nat->Prop}{b b':BS}{x:Int}{m:Nat}
variable{nm:Ao}{av:Aa}{l:List A3}{r:List Aa}{sp p:Int}{e:Cj}{at_ mk last:Int}{anc far:Item}
def B4.at(hc:B4 b.A8 c)(w:BX h bi a o c t G b)(rm:B6 b m)(n:Int):BH cx 188 [Pt bi 3,I n] h (I (Ff n b.A8)) h:=by obtain⟨fs,Hj,hv⟩:=hc;have ha:=rm.A8;have:=f41 w.zQ hv (by rw[<-Hj,Ak] at ha;omega) n;rwa [Yn,Hj] at this
structure oB(h:Ah)(bi a ai:Nat)(t:Aa)(G0:Nat->Prop)(fe:Cj)(anc far:Item)(k N m:Nat)(s0:BS×Int×Nat)(n:Nat)(h1:Ah)(o c:Aa)(G:Nat->Prop)(s:BS×Int×Nat):Prop where
 le:n<=N
 w:BX h1 bi a o c t G s.1
 hc:B4 s.1.A8 c
 ok:Eu s.1
 rm:B6 s.1 (m+4*n)
 last:s.1.a.has s.2.1
 st:h1[ai]?=some (.cells (FJ fe (Ff fe.c.node s.1.A8) (s.2.2:Int) anc far s.2.1))
 hn:¬Bt bi G ai
 x:DA h (ML ai bi G0) h1 (ML ai bi G)
 VC:0<=Ff fe.c.node s.1.A8
 ų:s.2.2<=1000000000
 AY:s.1.AY.take (k+n+1)=s0.1.AY.take (k+n+1)
 len:k+n+1<=s.1.AY.length
 eq:BS.Ky far.node anc.node (k+1+N) k N s0=BS.Ky far.node anc.node (k+1+N) k n s
 fe:s.1.a.has fe.c.node
def aX{blk anc:Int}{far i:Nat}{l:Int}{mk:Nat}(hi:i<b.AY.length):(BS.Fo blk anc far i b l mk).1.AY.take i=b.AY.take i/\i<=(BS.Fo blk anc far i b l mk).1.AY.length:=by
 have h1:(Be b.AY i).take i=b.AY.take i/\i<=(Be b.AY i).length:=by refine⟨?_,by rw[Hh hi];omega⟩;unfold Be;rw[CI (by rw[As];omega),FA,Nat.min_self]
 unfold BS.Fo;simp only
 split;.exact h1
 .split;.exact h1
  .have NY:∀nm l p,(b.Em nm l 1 p).AY=b.AY:=λnm l p=>by unfold BS.Em;rw[Ae JW]
   simp only[NY];exact⟨OP (Ag i),by rw[Bn];omega⟩
def oB.step{h1 h2:Ah}{C D A z:Aa}{B u:Nat->Prop}{fe:Cj}{k N n:Nat}{s0 s s':BS×Int×Nat}(i:oB h bi a ai t G fe anc far k N m s0 (n+1) h1 C D B s)(e:s'=BS.Fo far.node anc.node (k+1+N) (k+(n+1)) s.1 s.2.1 s.2.2)
  (w:BX h2 bi a A z t u s'.1) (hc:B4 s'.1.A8 z) (st:h2[ai]?=some (.cells (FJ fe (Ff fe.c.node s'.1.A8) (s'.2.2:Int) anc far s'.2.1))) (hn:¬Bt bi u ai) (x:DA h1 (ML ai bi B) h2 (ML ai bi u)) (VC:0<=Ff fe.c.node s'.1.A8) (mk:s'.2.2<=1000000000):
  oB h bi a ai t G fe anc far k N m s0 n h2 A z u s':=by
 obtain⟨g,last',j⟩:=XY (blk:=far.node) (anc:=anc.node) (far:=k+1+N) (i:=k+(n+1)) (m:=s.2.2) i.ok i.last;have hl:=i.len;obtain⟨f,v⟩:=aX (blk:=far.node) (anc:=anc.node) (far:=k+1+N) (i:=k+(n+1)) (l:=s.2.1) (mk:=s.2.2) (b:=s.1) Ab;have d:=Oz (blk:=far.node) (anc:=anc.node) (far:=k+1+N) (i:=k+(n+1)) (l:=s.2.1) (mk:=s.2.2) (m:=m+4*n) (i.rm.le Ab);have NY:=i.AY;have y:BS.Ky far.node anc.node (k+1+N) k (n+1) s=BS.Ky far.node anc.node (k+1+N) k n (BS.Fo far.node anc.node (k+1+N) (k+(n+1)) s.1 s.2.1 s.2.2):=rfl;have q:=i.eq.trans y;rw[<-e] at g last' j f v d q;refine⟨by have:=i.le;omega,w,hc,g,d,last',st,hn,i.x.trans x,VC,mk,?_,Ab,q,j.has _ i.fe⟩;have:=Cb (λl=>l.take (k+(n+1))) NY;simp only[FA] at this;rw[(Ab:k+n+1=k+(n+1)),f];rwa [Cp Ab] at this
def aGC{fe:Cj}{k N:Nat}{s0:BS×Int×Nat}(i0:oB h bi a ai t G fe anc far k N m s0 N h o c G s0)(YW:1<=k)(P7:AR (Bw fe.c.node) s0.1.AY=(k:Int))(hN:k+1+N<s0.1.AY.length):
  ∃h' o' c' G' s',BH cx 334 [Pt bi 0,Pt ai 0,I (k:Int),I ((k+1+N:Nat):Int)] h (.tuple []) h'/\s'=BS.Ky far.node anc.node (k+1+N) k N s0/\oB h bi a ai t G fe anc far k N m s0 0 h' o' c' G' s':=by
 have ho:=i0.rm.AY;have Ji:Ev cx 334 [Pt bi 0,Pt ai 0,I (k:Int),I ((k+1+N:Nat):Int)] h λr h'=>r= .tuple []/\∃o' c' G' s',s'=BS.Ky far.node anc.node (k+1+N) k N s0/\oB h bi a ai t G fe anc far k N m s0 0 h' o' c' G' s':=by
  unfold Ev;rw[gY];have i1:=C3 (a:=((k+1+N:Nat):Int)) (b:=1) Ab Ab;rw[(Ab:((k+1+N:Nat):Int)-1=((k+N:Nat):Int))] at i1;simp only[BC,i1];refine Bf (λn:Nat=>[I ((N-n:Nat):Int),I ((k+n:Nat):Int)]) (λn h1=>∃o c G1 s,oB h bi a ai t G fe anc far k N m s0 n h1 o c G1 s) (λn=>n) N (by rw[C6];rfl) ⟨o,c,_,s0,i0⟩ ?_;rintro n h1 ⟨o1,c1,G1,s,i⟩;cases n with
  |zero=>simp only[abS,↓reduceIte,(Ab:¬(k:Int)<(k:Int))];exact⟨_,rfl,rfl,o1,c1,G1,s,i.eq.symm,i⟩
  |succ n=>
   have hnN:=i.le;have hlen:=i.len;have aY:k+(n+1)<s.1.AY.length:=Ab;have hwo:=i.rm.AY;have hwa:=i.rm.A8;have YQ:ai≠bi:=λe=>i.hn (.inl e);have hai:ai<h1.length:=(Al.1 i.st).1;have J:=Yc i.w.sA ((k+(n+1):Nat):Int);rw[H8 aY] at J;have T:=jQ i.ok.xg aY;have hxf:s.1.AY[k+(n+1)].node≠fe.c.node:=by have h2:=Cb (λl=>l[k+(n+1)]?) i.AY;simp only[Ch] at h2;rw[Ae Ab,Ae Ab,Ai aY,Ai Ab] at h2;obtain⟨_,_,K⟩:=II P7;have g:=K (k+(n+1)) Ab Ab;rw[D2 h2];intro h5;unfold Bw at g;rw[h5] at g;simp at g
   have Wg:s.1.AY.getD (k+(n+1)) Item.zero=s.1.AY[k+(n+1)]:=by rw[AJ,Ai aY];rfl
   generalize s.1.AY[k+(n+1)]=x at*;have r2:=i.hc.at i.w i.rm x.node;obtain⟨q,hq,gi,hq0,hq2,hq3⟩:=HA i.VC;have inc:AE (.int .add) [I ((N-(n+1):Nat):Int),I 1]=some (I ((N-n:Nat):Int)):=by have:=BI (n:=N-(n+1)) Ab;rwa [(Ab:N-(n+1)+1=N-n)] at this
   have dec:AE (.int .sub) [I ((k+(n+1):Nat):Int),I 1]=some (I ((k+n:Nat):Int)):=by have:=Ie (n:=k+(n+1)) Ab Ab;rwa [(Ab:k+(n+1)-1=k+n)] at this
   have jr:(k:Int)<((k+(n+1):Nat):Int):=Ab;have U:∀l:List Item,l=s.1.AY->CY x.node l=Be l (k+(n+1)):=by intro l e;subst e;unfold CY;rw[T,Ac Ab,AV]
   by_cases he:Ff x.node s.1.A8<0
   .obtain⟨u,B,hu⟩:=aCk i.w.sO Ab x.node;rw[U _ rfl] at hu;have y:=i.w.I8 hu;have es:({s.1 with AY:=Be s.1.AY (k+(n+1))},s.2.1,s.2.2)=BS.Fo far.node anc.node (k+1+N) (k+(n+1)) s.1 s.2.1 s.2.2:=by unfold BS.Fo;simp only[Wg];rw[Ae he]
    have C:=i.step es y i.hc ((Ck YQ).trans i.st) i.hn (ES Bp ai) i.VC i.ų;by_cases Nk:(3:Int)<((N-n:Nat):Int);.simp only[abS,↓reduceIte,Fa,jr,J.Ad,inc,r2.Ad,Nk,he,(Ab:¬(0:Int)<=Ff x.node s.1.A8),B.Ad,dec];exact AK.next n rfl ⟨_,_,_,_,C⟩ Ab
    .simp only[abS,↓reduceIte,Fa,jr,J.Ad,inc,r2.Ad,Nk,he,B.Ad,dec];exact AK.next n rfl ⟨_,_,_,_,C⟩ Ab
   .obtain⟨p,hp,ep,NA,Zq,hp3⟩:=HA (Jq.1 he);have D6:(0:Int)<=(p:Int):=Ab;rw[ep] at r2;have V:s.1.A8[p].node≠fe.c.node:=by rw[Zq];exact hxf
    have D:(Ff x.node s.1.A8).toNat=p:=by rw[ep,AV]
    by_cases Nk:(3:Int)<((N-n:Nat):Int)
    .obtain⟨h2,c2,B,y,IV,Ŵ,E⟩:=zW i.w i.hc i.rm i.st i.hn hp ⟨i.VC,Ab⟩ ⟨Ab,by have:=i.ų;omega⟩;have UD:B6 {s.1 with A8:=Be s.1.A8 p} (m+4*(n+1)):=i.rm.sub rfl (A4 _) De (Ag _);have r4:=B4.at (b:={s.1 with A8:=Be s.1.A8 p}) IV y UD x.node;have vQ:Ff x.node (Be s.1.A8 p)<0:=by have:=gr (n:=x.node) i.ok.fg (Jq.1 he);rwa [D] at this
     obtain⟨u,Z,hu⟩:=aCk y.sO Dq x.node;rw[U _ rfl] at hu;have L:=y.I8 hu;have uz:(((if p<s.2.2 then s.2.2 -1 else s.2.2:Nat)):Int)=down p (s.2.2:Int):=by unfold down;split<;>split<;>omega
     have es:({s.1 with A8:=Be s.1.A8 p,AY:=Be s.1.AY (k+(n+1))},s.2.1,if p<s.2.2 then s.2.2 -1 else s.2.2)=BS.Fo far.node anc.node (k+1+N) (k+(n+1)) s.1 s.2.1 s.2.2:=by unfold BS.Fo;simp only[Wg];rw[Ac he,Ae (Ab:k+(n+1)+3<k+1+N),D]
     have aGD:=aW i.VC hp V;have hd0:0<=down p (Ff fe.c.node s.1.A8):=by unfold down;split<;>omega
     have C:=i.step es L IV (by rw[Ck YQ,Ŵ];simp only;rw[aGD,uz]) i.hn (E.trans (ES Bp ai)) (by simp only;rw[aGD];exact hd0) (by have:=i.ų;simp only;split<;>omega);simp only[abS,↓reduceIte,Fa,jr,J.Ad,inc,r2.Ad,Nk,D6,B.Ad,r4.Ad,vQ,Z.Ad,dec];exact AK.next n rfl ⟨_,_,_,_,C⟩ Ab
    .obtain⟨fs,Hj,hv⟩:=i.hc;have Ho:s.1.A8.length=fs.length:=by rw[<-Hj,Ak]
     have aCy:p<fs.length:=Ab;have Y:fs[p].c=s.1.A8[p]:=by simp only[<-Hj,CU]
     have l3:=i.w.l3;have e1:=AU.BJ (k:= .i64) hv aCy;have l5:Bd h1 none (Pt ai 5)=some (I anc.node):=At.load ⟨_,i.st,rfl⟩;obtain⟨r,B,hr⟩:=ux fs[p] h1;have Kz:=i.rm.DD _ (AL hp);rw[<-Y] at Kz;obtain⟨h2,G2,r4,y,E⟩:=uj (m:=m+4*n) i.w i.ok.ba (i.rm.le Ab) hr fs[p].ok Kz.2 Kz.1 anc.node 1;obtain⟨uk,f,le2⟩:=PM (nm:=fs[p].c.name) (at_:=fs[p].c.Az) (p:=anc.node) i.ok JW;have UD:=I6 (m:=m+4*n+1) (nm:=fs[p].c.name) (l:=fs[p].c.Az) (sp:=1) (p:=anc.node) (i.rm.le Ab) Kz.2;have NY:(s.1.Em fs[p].c.name fs[p].c.Az 1 anc.node).AY=s.1.AY:=by unfold BS.Em;rw[Ae JW]
     have Td:(s.1.Em fs[p].c.name fs[p].c.Az 1 anc.node).A8=s.1.A8:=by unfold BS.Em;rw[Ae JW]
     have X:BS.Fo far.node anc.node (k+1+N) (k+(n+1)) s.1 s.2.1 s.2.2=({s.1.Em fs[p].c.name fs[p].c.Az 1 anc.node with a:=(s.1.Em fs[p].c.name fs[p].c.Az 1 anc.node).a.Fq (s.1.Gv fs[p].c.name fs[p].c.Az 1).node s.2.1 0,AY:=(s.1.Em fs[p].c.name fs[p].c.Az 1 anc.node).AY.set (k+(n+1)) (s.1.Gv fs[p].c.name fs[p].c.Az 1),A8:=(s.1.Em fs[p].c.name fs[p].c.Az 1 anc.node).A8.set p {fs[p].c with node:=(s.1.Gv fs[p].c.name fs[p].c.Az 1).node}},(s.1.Gv fs[p].c.name fs[p].c.Az 1).node,if s.2.1=far.node then p+1 else s.2.2):=by unfold BS.Fo;simp only[Wg];rw[Ac he,Ac Ab,D,AJ,Ai hp,Hm,<-Y]
     have vJ:=NL i.ok f;have hna:=Qq i.ok f;have hnf:(s.1.Gv fs[p].c.name fs[p].c.Az 1).node≠fe.c.node:=λe2=>f.new (by rw[e2];exact i.fe);have aLx:=le2.has _ i.last;have aCz:(s.1.Gv fs[p].c.name fs[p].c.Az 1).name.length<=1000:=NM Kz.1;generalize s.1.Gv fs[p].c.name fs[p].c.Az 1=d at*;generalize s.1.Em fs[p].c.name fs[p].c.Az 1 anc.node=b2 at*;have Tb:¬Bt bi G2 ai:=λhg=>by
      rcases E.Bt ai hg with hg|hg
      .exact i.hn hg
      .omega
     have Ŵ:h2[ai]?=_:=(E.old ai hai i.hn).trans i.st;obtain⟨H,M,Z,OU⟩:=aKx y.sO (by have:=UD.AY;omega) x.node d;have ĕ:PG x.node d b2.AY=b2.AY.set (k+(n+1)) d:=by unfold PG;rw[NY,T,Ac Ab,AV]
     rw[ĕ] at OU;have L:=(y.I8 OU).IA (u:=M);have x3:DA h1 (ML ai bi G1) (put h2 bi 2 H++M) (ML ai bi G2):=(ES E ai).trans (ES (Bp.trans (y.I8 OU).C7) ai);have ai2:ai<h2.length:=by have:=E.len;omega
     have st3:(put h2 bi 2 H++M)[ai]?=_:=(Aj (by rw[JD];exact ai2)).trans ((Ck YQ).trans Ŵ);have ai3:ai<(put h2 bi 2 H++M).length:=by rw[Aw,JD];omega
     generalize put h2 bi 2 H++M=K at*;have aLy:=(Kz.2).1;obtain⟨A,t2,e2,he2,r6,Jr⟩:=aKM (h:=K) (id:=bi) (o:=3) (l:=fs) ⟨c1,L.zQ,hv⟩ Ab x.node (e:=⟨{fs[p].c with node:=d.node},fs[p].v,fs[p].ok⟩) (by unfold Zk;simp only;omega);have hei:Hw x.node fs=(p:Int):=by rw[Yn,Hj,ep]
     rw[hei,Ac Ab,AV] at Jr;have w4:=(L.Lr (u:=A) (l:=b2.A8.set p {fs[p].c with node:=d.node})).IA (u:=t2);have hc4:B4 (b2.A8.set p {fs[p].c with node:=d.node}) A:=⟨_,by rw[Ek,Hj,he2,Td],Jr⟩;have x4:=x3.trans (ES ((Bp (k:=3) (v:=A)).trans (BX.C7 (u:=t2) (L.Lr (u:=A) (l:=b2.A8.set p {fs[p].c with node:=d.node})))) ai);have z:(put K bi 3 A++t2)[ai]?=_:=(Aj (by rw[JD];exact ai3)).trans ((Ck YQ).trans st3);generalize put K bi 3 A++t2=g at*;have ŵ:=uk.sH (i:=d) (k:=k+(n+1)) ⟨f.has,f.kind,f.A7,f.name⟩ (by rw[NY];exact vJ);have jo:=ŵ.sI (e:={fs[p].c with node:=d.node}) (k:=p) ⟨f.has,f.kind⟩ (by simp only[Td];exact hna);have rm4:B6 {b2 with AY:=b2.AY.set (k+(n+1)) d,A8:=b2.A8.set p {fs[p].c with node:=d.node}} (m+4*n+1):=by
      refine⟨UD.n,UD.at_,UD.data,by simp only[Bn];exact UD.AY,by simp only[Bn];exact UD.A8,UD.tm,λe he=>?_,λi hi=>?_⟩
      .rcases C8 he with he|rfl
       .exact UD.DD e he
       .exact Kz
      .rcases C8 hi with hi|rfl
       .exact UD.YS i hi
       .exact aCz
     have R:Bd g none (Pt ai 13)=some (I s.2.1):=At.load ⟨_,z,rfl⟩;have l9:Bd g none (Pt ai 9)=some (I far.node):=At.load ⟨_,z,rfl⟩;have t4:At g ai 4 (I (s.2.2:Int)):=⟨_,z,rfl⟩;obtain⟨TS,Vo⟩:∃TS:Nat,TS=if s.2.1=far.node then p+1 else s.2.2:=⟨_,rfl⟩
     have e5:put g ai 4 (I (TS:Int))=if s.2.1=far.node then put g ai 4 (I ((p+1:Nat):Int)) else g:=by
      rw[Vo];split;.rfl
      .exact t4.same
     have P:=H9 (k:=4) (v:= I (TS:Int)) z;have w5:BX (put g ai 4 (I (TS:Int))) bi a H A t G2 {b2 with AY:=b2.AY.set (k+(n+1)) d,A8:=b2.A8.set p {fs[p].c with node:=d.node}}:=w4.Df λj hj=>Ck λe=>Tb (e▸hj);have x5:=x4.trans (PT (k:=4) (v:= I (TS:Int)));have ai5:ai<(put g ai 4 (I (TS:Int))).length:=by have:=x5.len;omega
     have t5:Bd (put g ai 4 (I (TS:Int))) none (Pt ai 13)=some (I s.2.1):=At.load ⟨_,P,rfl⟩;generalize hh5:put g ai 4 (I (TS:Int))=h5 at*;obtain⟨h6,G6,r7,w6,x6⟩:=nS (x:=s.2.1) (p:=d.node) (bf:=0) w5 jo.ba rm4;rw[TR (by exact f.kind)] at w6;have W:¬Bt bi G6 ai:=λhg=>by
      rcases x6.Bt ai hg with hg|hg
      .exact Tb hg
      .omega
     have O:h6[ai]?=_:=(x6.old ai ai5 Tb).trans P;have t6:At h6 ai 13 (I s.2.1):=⟨_,O,rfl⟩;have st7:=H9 (k:=13) (v:= I d.node) O;have w7:BX (put h6 ai 13 (I d.node)) bi a H A t G6 _:=w6.Df λj hj=>Ck λe=>W (e▸hj);have x7:=(x5.trans (ES x6 ai)).trans (PT (k:=13) (v:= I d.node));have Yq:Ff fe.c.node (b2.A8.set p {fs[p].c with node:=d.node})=Ff fe.c.node s.1.A8:=by rw[Td];exact oA i.VC hp V hnf
     rw[<-Vo] at X;have C:=i.step X.symm w7 hc4 (by simp only;rw[st7,Yq];rfl) W x7 (by simp only;rw[Yq];exact i.VC) (by simp only;rw[Vo];have:=i.ų;split<;>omega);have gu:fs[p].v.cells=[fs[p].v]:=AU.cells fs[p].ok;have S:=BI (Ab:p<9223372036854775807);have Q:BH cx 408 [Pt bi 3,I x.node,.agg [I d.node,.str fs[p].c.name,fs[p].v]] K (.bool (decide (0<=Hw x.node fs))) g:=r6;rw[Cj.row] at e1 B;by_cases RJ:s.2.1=far.node
     .rw[Ae RJ] at e5;have s5:Cx g 1 (Pt ai 4) (I ((p+1:Nat):Int))=some h5:=by rw[e5];exact t4.store rfl
      simp only[abS,Nat.reduceLeDiff,↓reduceIte,AP,Fa,jr,J.Ad,inc,r2.Ad,Nk,D6,(Ab:¬(p:Int)<0),l3,e1,l5,B.Ad,BK,r4.Ad,Z.Ad,gu,Q.Ad,R,l9,AW RJ,S,s5,t5,r7.Ad,t6.store (u:= I d.node) rfl,dec];exact AK.next n rfl ⟨_,_,_,_,C⟩ Ab
     .rw[Ac RJ] at e5;subst e5;simp only[abS,Nat.reduceLeDiff,↓reduceIte,AP,Fa,jr,J.Ad,inc,r2.Ad,Nk,D6,(Ab:¬(p:Int)<0),l3,e1,l5,B.Ad,BK,r4.Ad,Z.Ad,gu,Q.Ad,R,l9,RJ,r7.Ad,t6.store (u:= I d.node) rfl,dec];exact AK.next n rfl ⟨_,_,_,_,C⟩ Ab
 obtain⟨r,h',hr,rfl,o',c',G',s',e',i'⟩:=Ji.ret;exact⟨h',o',c',G',s',hr,e',i'⟩
end
section
variable{h h':Ah}{bi a ai:Nat}{o c t:Aa}{G G' F:Nat->Prop}{b b':BS}{x:Int}{m:Nat}
variable{nm:Ao}{av:Aa}{l:List A3}{r:List Aa}{sp p:Int}{e:Cj}{at_ mk last:Int}{anc far:Item}
def B4.find(hc:B4 b.A8 c)(w:BX h bi a o c t G b)(rm:B6 b m)(nm:Ao):BH cx 330 [Pt bi 3,.str nm] h (I (GB nm b.A8)) h:=by obtain⟨fs,Hj,hv⟩:=hc;have ha:=rm.A8;have:=aKB w.zQ hv (by rw[<-Hj,Ak] at ha;omega) nm;rwa [zS,Hj] at this
def Yr(d:h.length<=ai)(x:DA h (ML ai bi G) h' (ML ai bi G')):DA h (Bt bi G) h' (Bt bi G'):=
 ⟨x.len,λi hi hn=>x.old i hi λhg=>by
  rcases hg with rfl|hg
  .omega
  .exact hn hg,λi hi=>by
  rcases x.Bt i (.inr hi) with(rfl|h)|h
  .exact .inr d
  .exact .inl h
  .exact .inr h⟩
def SV{nm:Ao}{l:List Cs}(h:0<=GB nm l):∃p:Nat,∃hp:p<l.length,GB nm l=(p:Int):=by
 have key:∀r:List Cs,PL nm r<r.length:=by
  intro r;induction r with
  |nil=>show(-1:Int)<0;decide
  |cons x r ih=>rw[PL];simp only[A9];split<;>(try split)<;>omega
 have:=key l.reverse;rw[KU] at this;refine⟨(GB nm l).toNat,?_,Ab⟩;unfold GB at h⊢;omega
def zX{l:List Cs}{f:Nat}(hn:((l.map Cs.node).filter λn=>decide (n≠0)).Nodup)(hf:f<l.length)(h0:l[f].node≠0):Ff l[f].node l=(f:Int):=by
 unfold Ff;rw[Ac h0];refine Mu hf (by simp[XR]) λj hj h=>?_;by_cases he:l[j].node=l[f].node
 .exfalso;have:l=l.take j++l[j]::l.drop (j+1):=by rw[<-AF hj,CF]
  rw[this,BF,Bk,DV,Hn,Ae (by simpa[he] using h0),B2] at hn;have hm:l[f]∈l.take j:=List.mem_take_iff_getElem.2 ⟨f,Ab,rfl⟩;exact hn.2.2 l[f].node (DH.2 ⟨OR hm,by simpa using h0⟩) l[j].node AH he.symm
 .simp[XR,he]
def oC{v:Dw}:DA h (Am.ML ai bi G) (h.set ai v) (Am.ML ai bi G):=⟨by rw[Bn];exact Ag _,λi _ hn=>Ap λe=>hn (.inl e.symm),λ_ h=> .inl h⟩
def aCB(hc:h[ai]?=some (.cells (FJ e at_ mk anc far last)))(i:Item):Cx h 4 (Pt ai 5) (.agg i.row)=some (h.set ai (.cells (FJ e at_ mk i far last))):=by simp only[Cx,hc];rfl
def aCC(hc:h[ai]?=some (.cells (FJ e at_ mk anc far last)))(i:Item):Cx h 4 (Pt ai 9) (.agg i.row)=some (h.set ai (.cells (FJ e at_ mk anc i last))):=by simp only[Cx,hc];rfl
def aCD(hc:h[ai]?=some (.cells (FJ e at_ mk anc far last))):Bd h (some 3) (Pt ai 0)=some (.agg e.row):=by simp only[Bd,hc];rfl
def Q0{A:Ar}{n x:Int}{l:List Int}:BS.CB A n (l++[x])=(BS.CB A n l).Fq n x 0:=by unfold BS.CB;rw[List.foldl_append];rfl
def aLA(w:BX h bi a o c t G b)(hc:B4 b.A8 c)(ok:Eu b)(rm:B6 b (m+4*b.AY.length+10))(nm:Ao):
  ∃h' o' c' G',BH cx 189 [Pt bi 0,.str nm] h (.bool (b.round nm).1) h'/\BX h' bi a o' c' t G' (b.round nm).2/\B4 (b.round nm).2.A8 c'/\DA h (Bt bi G) h' (Bt bi G'):=by
 have ho:=rm.AY;have Td:=rm.A8;have U:=hc.find w rm nm;by_cases hf:GB nm b.A8<0
 .obtain⟨h2,o2,r2,L,x2⟩:=aGk w rm nm;have e:b.round nm=(false,b.Dl nm):=by unfold BS.round;simp only;rw[Ae hf]
  have ea:(b.Dl nm).A8=b.A8:=by
   unfold BS.Dl;split;.split<;>rfl
   .rfl
  rw[e];refine⟨h2,o2,c,G,?_,L,by rw[ea];exact hc,x2⟩;rw[Af,M0,tG];simp only[abS,Nat.reduceLeDiff,↓reduceIte,AP,U.Ad,hf,r2.Ad]
 obtain⟨f,Ho,ef⟩:=SV (Jq.1 hf);have o8:¬(f:Int)<0:=Ab;rw[ef] at U;have KI:=hc;obtain⟨fs,Hj,hv⟩:=KI;have aLB:b.A8.length=fs.length:=by rw[<-Hj,Ak]
 have E:fs[f].c=b.A8[f]:=by simp only[<-Hj,CU]
 have l3:=w.l3;have e1:=AU.BJ (k:= .i64) hv (Ab:f<fs.length);generalize hfe:fs[f]=fe at*;have Wg:b.A8.getD f Cs.zero=fe.c:=by rw[AJ,Ai Ho];exact E.symm
 have gu:fe.v.cells=[fe.v]:=AU.cells fe.ok;have w1:=w.IA (u:=[.cells (FJ fe (f:Int) (f:Int) Item.zero Item.zero 0)]);have z:(h++[Dw.cells (FJ fe (f:Int) (f:Int) Item.zero Item.zero 0)])[h.length]?=some (.cells (FJ fe (f:Int) (f:Int) Item.zero Item.zero 0)):=AH;have Y:DA h (Bt bi G) (h++[Dw.cells (FJ fe (f:Int) (f:Int) Item.zero Item.zero 0)]) (Bt bi G):=w.C7;have Na:¬Bt bi G h.length:=by
  rintro(e|hg);.exact absurd w.lt Ab
  .exact absurd (w.w.lt hg) (Dr _)
 obtain⟨B,y⟩:∃B,B=h++[Dw.cells (FJ fe (f:Int) (f:Int) Item.zero Item.zero 0)]:=⟨_,rfl⟩;rw[<-y] at w1 z Y;have l0:Bd B none (Pt h.length 0)=some (I fe.c.node):=At.load ⟨_,z,rfl⟩;have r2:=Zn w1.sA Ab fe.c.node;have Vx:FJ fe (f:Int) (f:Int) Item.zero Item.zero 0=[I fe.c.node,.str fe.c.name,fe.v,I (f:Int),I (f:Int),I 0,I 0,S [],ff,I 0,I 0,S [],ff,I 0]:=rfl;rw[Vx] at y;rw[Cj.row] at e1;by_cases hk:AR (Bw fe.c.node) b.AY<0
 .obtain⟨h2,c2,T,L,IV,_,x2⟩:=zW w1 hc rm z Na Ho ⟨Ab,Ab⟩ ⟨Ab,Ab⟩;have e:b.round nm=(false,{b with A8:=Be b.A8 f}):=by unfold BS.round;simp only;rw[Ac hf,ef,AV,Wg,Ae hk]
  rw[e];refine⟨h2,o,c2,G,?_,L,IV,Yr (Ag _) ((ES Y h.length).trans x2)⟩;rw[Af,M0,tG];simp only[abS,Nat.reduceLeDiff,↓reduceIte,AP,U.Ad,o8,l3,e1,<-y,l0,r2.Ad,hk,T.Ad]
 obtain⟨k,W⟩:∃k:Nat,AR (Bw fe.c.node) b.AY=(k:Int):=⟨_,(GW (Jq.1 hk)).symm⟩;obtain⟨P7,hkq,_⟩:=II W;have nJ:¬(k:Int)<0:=Ab;rw[W] at r2;by_cases hkz:k=0
 .have e:b.round nm=(false,b):=by unfold BS.round;simp only;rw[Ac hf,ef,AV,Wg,Ac hk,Ae (.inl (by rw[W,hkz];rfl))]
  rw[e];refine⟨B,o,c,G,?_,w1,hc,Y⟩;rw[Af,M0,tG];simp only[abS,Nat.reduceLeDiff,↓reduceIte,AP,U.Ad,o8,l3,e1,<-y,l0,r2.Ad,nJ,AW (Ab:(k:Int)=0)]
 have oD:¬(k:Int)=0:=Ab;have T:=aKj w1.sA Ab 1 fe.c.node;by_cases QG:J7 (Bw fe.c.node) (JN 1) b.AY.reverse=false
 .have e:b.round nm=(false,b):=by unfold BS.round;simp only;rw[Ac hf,ef,AV,Wg,Ac hk,Ae (.inr QG)]
  rw[e];refine⟨B,o,c,G,?_,w1,hc,Y⟩;rw[QG] at T;rw[Af,M0,tG];simp only[abS,Nat.reduceLeDiff,↓reduceIte,AP,U.Ad,o8,l3,e1,<-y,l0,r2.Ad,nJ,oD,T.Ad]
 have aCE:J7 (Bw fe.c.node) (JN 1) b.AY.reverse=true:=by simpa using QG
 rw[aCE] at T;have r4:=aKm w1.sA Ab fe.c.node;have hor:¬(AR (Bw fe.c.node) b.AY=0\/J7 (Bw fe.c.node) (JN 1) b.AY.reverse=false):=by rw[W];rintro(h|h);exact oD h;exact QG h
 by_cases hfa:D0 fe.c.node b.AY<0
 .have e:b.round nm=(false,{b with AY:=GU fe.c.node b.AY,A8:=Be b.A8 f}):=by unfold BS.round;simp only;rw[Ac hf,ef,AV,Wg,Ac hk,Ac hor,Ae hfa]
  obtain⟨u,r5,hu⟩:=aFx w1.sO Ab fe.c.node;have L:=w1.I8 hu;have Ŵ:(put B bi 2 u)[h.length]?=_:=(Ck (λe=>Na (.inl e))).trans z;obtain⟨h3,c3,r6,w3,Nk,_,x3⟩:=zW L hc ((rm.le (m':=0) Ab).sub rfl IG (A4 _) (Ag _)) Ŵ Na Ho ⟨Ab,Ab⟩ ⟨Ab,Ab⟩;rw[e];refine⟨h3,u,c3,G,?_,w3,Nk,Yr (Ag _) ((ES (Y.trans Bp) h.length).trans x3)⟩;rw[Af,M0,tG];simp only[abS,Nat.reduceLeDiff,↓reduceIte,AP,U.Ad,o8,l3,e1,<-y,l0,r2.Ad,nJ,oD,T.Ad,r4.Ad,hfa,r5.Ad,r6.Ad]
 obtain⟨N,hN,eN⟩:∃N:Nat,k+1+N<b.AY.length/\D0 fe.c.node b.AY=((k+1+N:Nat):Int):=by
  have tW:=hfa;rw[IB,Ac hk,W,AV] at tW⊢;unfold EY at tW⊢;split at tW;.rename_i j hj;have:=(ED.1 hj).1;rw[Bb] at this;exact⟨j,Ab,Ab⟩
  .omega
 obtain⟨d,gd⟩:∃d,d=b.AY[k+1+N]:=⟨_,rfl⟩;obtain⟨an,Ĉ⟩:∃an,an=b.AY[k-1]'(by omega):=⟨_,rfl⟩;have og:b.AY.getD (k+1+N) Item.zero=d:=by rw[AJ,Ai hN,gd];rfl
 have hga:b.AY.getD (k-1) Item.zero=an:=by rw[AJ,Ai Ab,Ĉ];rfl
 have e:b.round nm=(true,BS.GD fe.c d.node an.node (BS.Ky d.node an.node (k+1+N) k N (b,d.node,f))):=by
  unfold BS.round;simp only
  rw[Ac hf,ef,AV,Wg,Ac hk,Ac hor,Ac hfa,W,eN,AV,AV,og,hga,(Ab:k+1+N-1 -k=N)]
 have gw:=ok.op d (by rw[gd];exact AL _);have aCF:b.AY[k].node=fe.c.node:=by simpa[Bw] using hkq
 have Ė:b.a.has fe.c.node:=by rw[<-aCF];exact(ok.op _ (AL _)).1
 have ė:b.A8[f].node≠0:=by rw[<-E];have:=Ė.1;omega
 have Yq:=zX ok.fg Ho ė;rw[<-E] at Yq;have Kz:=rm.DD _ (AL Ho);rw[<-E] at Kz;have U8:=Ie (n:=k) Ab Ab;have r5:=Yc w1.sA ((k-1:Nat):Int);rw[H8 Ab,<-Ĉ] at r5;have r6:=Yc w1.sA ((k+1+N:Nat):Int);rw[H8 hN,<-gd] at r6;have s5:=aCB z an;have VG:h.length<B.length:=(Al.1 z).1;have hbn:h.length≠bi:=λe=>Na (.inl e);have Ŵ:(B.set h.length (.cells (FJ fe f f an Item.zero 0)))[h.length]?=_:=AS VG;have L:BX (B.set h.length (.cells (FJ fe f f an Item.zero 0))) bi a o c t G b:=w1.Df λj hj=>Ap λe=>Na (by rw[e];exact hj);have x2:=(ES Y h.length).trans (oC (v:= .cells (FJ fe f f an Item.zero 0)));generalize B.set h.length (.cells (FJ fe f f an Item.zero 0))=H2 at*;have s6:=aCC Ŵ d;have ZZ:h.length<H2.length:=(Al.1 Ŵ).1;have Q:(H2.set h.length (.cells (FJ fe f f an d 0)))[h.length]?=_:=AS ZZ;have w3:BX (H2.set h.length (.cells (FJ fe f f an d 0))) bi a o c t G b:=L.Df λj hj=>Ap λe=>Na (by rw[e];exact hj);have x3:=x2.trans (oC (v:= .cells (FJ fe f f an d 0)));generalize H2.set h.length (.cells (FJ fe f f an d 0))=H3 at*;have l9:Bd H3 none (Pt h.length 9)=some (I d.node):=At.load ⟨_,Q,rfl⟩;have t13:At H3 h.length 13 (I 0):=⟨_,Q,rfl⟩;have s7:=t13.store (u:= I d.node) rfl;have st4:=H9 (k:=13) (v:= I d.node) Q;have w4:BX (put H3 h.length 13 (I d.node)) bi a o c t G b:=w3.Df λj hj=>Ck λe=>Na (by rw[<-e];exact hj);have x4:=x3.trans (PT (k:=13) (v:= I d.node));generalize put H3 h.length 13 (I d.node)=H4 at*;have i0:oB H4 bi a h.length t G fe an d k N (m+10) (b,d.node,f) N H4 o c G (b,d.node,f):=
  ⟨Ag _,w4,hc,ok,rm.le Ab,gw.1,by rw[Yq];exact st4,Na,.refl,by rw[Yq];omega,by show f<=1000000000;omega,rfl,Dq,rfl,Ė⟩
 have le0:=(VJ (blk:=d.node) (anc:=an.node) (far:=k+1+N) (k:=k) (c:=N) (s:=(b,d.node,f)) ok gw.1).2.2;obtain⟨h5,o5,c5,G5,s',r7,es,i⟩:=aGC i0 Ab W hN;rw[<-es] at le0 e;obtain⟨q,hq,gi,hq0,hq2,hq3⟩:=HA i.VC;have D:=i.st;rw[gi] at D;have ŗ:=i.ų;have YQ:h.length≠bi:=hbn;have l5:Bd h5 none (Pt h.length 5)=some (I an.node):=At.load ⟨_,D,rfl⟩;obtain⟨u6,r8⟩:=č i.w i.ok.ba i.rm an.node;have w6:=i.w.IA (u:=u6);have w6':=i.w.C7 (u:=u6);have hl5:h.length<h5.length:=(Al.1 D).1;have st6:(h5++u6)[h.length]?=_:=(Aj hl5).trans D;have l13:Bd (h5++u6) none (Pt h.length 13)=some (I s'.2.1):=At.load ⟨_,st6,rfl⟩;have hl6:h.length<(h5++u6).length:=by rw[Aw];omega
 obtain⟨h7,G7,r9,w7,x7⟩:=nS (x:=s'.2.1) (p:=(s'.1.place an.node).1) (bf:=(s'.1.place an.node).2) w6 i.ok.ba i.rm;have hn7:¬Bt bi G7 h.length:=λhg=>by
  rcases x7.Bt h.length hg with hg|hg
  .exact i.hn hg
  .omega
 have C:h7[h.length]?=_:=(x7.old h.length hl6 i.hn).trans st6;have l3b:Bd h7 (some 3) (Pt h.length 0)=some (.agg fe.row):=aCD C;have l9b:Bd h7 none (Pt h.length 9)=some (I d.node):=At.load ⟨_,C,rfl⟩;obtain⟨r,zY,hr⟩:=ux fe h7;have le7:Le s'.1.a (s'.1.a.Et s'.2.1 (s'.1.place an.node).1 (s'.1.place an.node).2):=I3;have V:=i.ok.I4 (Oq (n:=s'.2.1) (p:=(s'.1.place an.node).1) (b:=(s'.1.place an.node).2) i.ok.ok) le7;have R:=i.rm.I4 (J3 (x:=s'.2.1) (p:=(s'.1.place an.node).1) (bf:=(s'.1.place an.node).2));obtain⟨b2,NZ⟩:∃b2,b2={s'.1 with a:=s'.1.a.Et s'.2.1 (s'.1.place an.node).1 (s'.1.place an.node).2}:=⟨_,rfl⟩;have YM:b2.AY=s'.1.AY:=by rw[NZ]
 have IV:b2.A8=s'.1.A8:=by rw[NZ]
 have le2:Le s'.1.a b2.a:=by rw[NZ];exact le7
 rw[<-NZ] at w7 V R;obtain⟨K,G8,r11,w8,x8⟩:=uj (m:=m+7) w7 V.ba (R.le Ab) hr fe.ok Kz.2 Kz.1 d.node 1;obtain⟨xj,fr,le8⟩:=PM (nm:=fe.c.name) (at_:=fe.c.Az) (p:=d.node) V JW;have Ę:=I6 (m:=m+7) (nm:=fe.c.name) (l:=fe.c.Az) (sp:=1) (p:=d.node) (R.le Ab) Kz.2;obtain⟨g,hnw⟩:∃g,g=b2.Gv fe.c.name fe.c.Az 1:=⟨_,rfl⟩;obtain⟨b3,jl⟩:∃b3,b3=b2.Em fe.c.name fe.c.Az 1 d.node:=⟨_,rfl⟩;have ho3:b3.AY=s'.1.AY:=by rw[jl,<-YM];unfold BS.Em;rw[Ae JW]
 have Nk:b3.A8=s'.1.A8:=by rw[jl,<-IV];unfold BS.Em;rw[Ae JW]
 rw[<-hnw] at r11 fr;rw[<-jl] at w8 xj fr le8 Ę;have hl7:h.length<h7.length:=(Al.1 C).1;have hn8:¬Bt bi G8 h.length:=λhg=>by
  rcases x8.Bt h.length hg with hg|hg
  .exact hn7 hg
  .omega
 have P:K[h.length]?=_:=(x8.old h.length hl7 hn7).trans C;have l9c:Bd K none (Pt h.length 9)=some (I d.node):=At.load ⟨_,P,rfl⟩;obtain⟨kv,r12,zP⟩:∃v,BH cx 306 [Pt a 0,I d.node] K v K/\D1 (b3.a.nd d.node).A6 v:=by obtain⟨n',m',ps,wa⟩:=w8.w.pa;exact Ŧ wa Ę.Vd (Ę.Vd.A6 xj.ok d.node)
 have aGK:(b3.a.nd d.node).A6.length<=1000000000:=Ę.Vd.A6 xj.ok d.node;have Vy:g.row=[I g.node,I g.A7,.str g.name,.bool g.OM]:=rfl;rw[Cj.row] at zY l3b;have Ji:Ev cx 189 [Pt bi 0,.str nm] h λr h'=>r= .bool true/\∃o' c' G',BX h' bi a o' c' t G' (BS.GD fe.c d.node an.node s')/\B4 (BS.GD fe.c d.node an.node s').A8 c'/\DA h (Bt bi G) h' (Bt bi G'):=by
  unfold Ev;rw[M0,tG];simp only[abS,Nat.reduceLeDiff,↓reduceIte,AP,U.Ad,o8,l3,e1,<-y,l0,r2.Ad,nJ,oD,T.Ad,r4.Ad,eN,(Ab:¬((k+1+N:Nat):Int)<0),U8,r5.Ad,r6.Ad,s5,s6,l9,s7];simp only[abS,r7.Ad,l5,r8.Ad];simp only[abS,l13,r9.Ad];simp only[BC,l3b,l9b];simp only[abS,↓reduceIte,Fa,zY.Ad,BK,r11.Ad,l9b];simp only[BC,w8.l0,l9c,r12.Ad,AU.CL zP];have Ŷ:DA h (ML h.length bi G) K (ML h.length bi G8):=(((x4.trans i.x).trans (ES w6' h.length)).trans (ES x7 h.length)).trans (ES x8 h.length);refine DP (i:=0) (λj:Nat=>[I (j:Int)]) (λj A=>j<=(b3.a.nd d.node).A6.length/\∃H,BX A bi a o5 c5 t H {b3 with a:=BS.CB b3.a g.node ((b3.a.nd d.node).A6.take j)}/\Eu {b3 with a:=BS.CB b3.a g.node ((b3.a.nd d.node).A6.take j)}/\B6 {b3 with a:=BS.CB b3.a g.node ((b3.a.nd d.node).A6.take j)} (m+7)/\DA K (Bt bi G8) A (Bt bi H)) (λj=>(b3.a.nd d.node).A6.length-j)
   (λj A=>j=(b3.a.nd d.node).A6.length/\∃H,BX A bi a o5 c5 t H {b3 with a:=BS.CB b3.a g.node ((b3.a.nd d.node).A6.take j)}/\Eu {b3 with a:=BS.CB b3.a g.node ((b3.a.nd d.node).A6.take j)}/\B6 {b3 with a:=BS.CB b3.a g.node ((b3.a.nd d.node).A6.take j)} (m+7)/\DA K (Bt bi G8) A (Bt bi H)) 0 rfl ⟨AQ _,G8,w8,xj,Ę,.refl⟩ ?_ ?_
  .rintro j A ⟨hj,H,w9,tX,zZ,X⟩;rcases AN j (b3.a.nd d.node).A6.length with hlt|D6
   .have e9:=AU.BJ (k:= .i64) zP hlt;obtain⟨Vl,J,ŷ,TT,tY⟩:=nS (x:=(b3.a.nd d.node).A6[j]) (p:=g.node) (bf:=0) w9 tX.ba zZ;have lej:=(MY (n:=g.node) (l:=(b3.a.nd d.node).A6.take j) xj.ok).2;rw[TR (by show((BS.CB b3.a g.node ((b3.a.nd d.node).A6.take j)).nd g.node).kind=4;rw[lej.kind _ fr.has];exact fr.kind)] at TT;have hs:BS.CB b3.a g.node ((b3.a.nd d.node).A6.take (j+1))=(BS.CB b3.a g.node ((b3.a.nd d.node).A6.take j)).Fq g.node (b3.a.nd d.node).A6[j] 0:=by rw[AB hlt,Q0]
    rw[Cn] at e9;simp only[abS,(Ab:(j:Int)<((b3.a.nd d.node).A6.length:Int)),e9,ŷ.Ad,BI (Ab:j<9223372036854775807)];refine .next (j+1) rfl ⟨hlt,J,by rw[hs];exact TT,?_,?_,X.trans tY⟩ Ab
    .have:=tX.I4 (Oo (p:=g.node) (n:=(b3.a.nd d.node).A6[j]) (b:=0) tX.ok) MW;rw[hs];exact this
    .have:=zZ.I4 (I5 (p:=g.node) (x:=(b3.a.nd d.node).A6[j]) (bf:=0));rw[hs];exact this
   .simp only[abS,(Ab:¬(j:Int)<((b3.a.nd d.node).A6.length:Int))];exact .HC j rfl ⟨Ab,H,w9,tX,zZ,X⟩
  .rintro j A ⟨rfl,H,w9,tX,zZ,X⟩;rw[Bv] at w9 tX zZ;have hl8:h.length<K.length:=(Al.1 P).1;have hn9:¬Bt bi H h.length:=λhg=>by
    rcases X.Bt h.length hg with hg|hg
    .exact hn8 hg
    .omega
   have O:A[h.length]?=_:=(X.old h.length hl8 hn8).trans P;have l9d:Bd A none (Pt h.length 9)=some (I d.node):=At.load ⟨_,O,rfl⟩;have le9:=(MY (n:=g.node) (l:=(b3.a.nd d.node).A6) xj.ok).2;have lef:Le b.a (BS.CB b3.a g.node (b3.a.nd d.node).A6):=((le0.trans le2).trans le8).trans le9;obtain⟨Vl,J,ŷ,TT,tY⟩:=nS (x:=g.node) (p:=d.node) (bf:=0) w9 tX.ba zZ;rw[TR (by show((BS.CB b3.a g.node (b3.a.nd d.node).A6).nd d.node).kind=4;rw[lef.kind _ gw.1];exact gw.2.1)] at TT;have kE:h.length<A.length:=(Al.1 O).1;have aLH:¬Bt bi J h.length:=λhg=>by
    rcases tY.Bt h.length hg with hg|hg
    .exact hn9 hg
    .omega
   have aGL:Vl[h.length]?=_:=(tY.old h.length kE hn9).trans O;have l3c:Bd Vl none (Pt h.length 3)=some (I (q:Int)):=At.load ⟨_,aGL,rfl⟩;have aLI:=zZ.I4 (I5 (p:=d.node) (x:=g.node) (bf:=0));have ę:B4 ({b3 with a:=(BS.CB b3.a g.node (b3.a.nd d.node).A6).Fq d.node g.node 0}:BS).A8 c5:=by simp only;rw[Nk];exact i.hc
   have hqa:=i.rm.A8;obtain⟨Z4,Xk,r14,Ě,gx,ě,x11⟩:=zW TT ę aLI aGL aLH (k:=q) (by simp only;rw[Nk];exact hq) ⟨Ab,Ab⟩ ⟨Ab,Ab⟩;simp only at Ě gx;have l1:Bd Z4 none (Pt h.length 1)=some (.str fe.c.name):=At.load ⟨_,ě,rfl⟩;have l2:Bd Z4 none (Pt h.length 2)=some fe.v:=At.load ⟨_,ě,rfl⟩;have l4:Bd Z4 none (Pt h.length 4)=some (I (down q (s'.2.2:Int))):=At.load ⟨_,ě,rfl⟩;obtain⟨fs2,aCJ,WN⟩:=gx;have aQ0:b3.A8.length=s'.1.A8.length:=by rw[Nk]
   have aQ1:fs2.length<=900000000:=by have h1:=Cb List.length aCJ;rw[Ak,Hh (by rw[Nk];exact hq)] at h1;omega
   have aLy:=Kz.2.1;obtain⟨Z,e2,he2,r15,OU⟩:=aKL (h:=Z4) (id:=bi) (o:=3) (l:=fs2) ⟨Xk,Ě.zQ,WN⟩ Ab (e:=⟨{fe.c with node:=g.node},fe.v,fe.ok⟩) (by unfold Zk;simp only;omega) (down q (s'.2.2:Int));have aLJ:BH cx 335 [Pt bi 3,.agg [I g.node,.str fe.c.name,fe.v],I (down q (s'.2.2:Int))] Z4 (.tuple []) (put Z4 bi 3 Z):=r15;obtain⟨TS,Vo⟩:∃TS:Nat,TS=if q<s'.2.2 then s'.2.2 -1 else s'.2.2:=⟨_,rfl⟩
   have uz:down q (s'.2.2:Int)=(TS:Int):=by rw[Vo];unfold down;split<;>split<;>omega
   have xk:=Ě.Lr (u:=Z) (l:=(Be b3.A8 q).take (CH TS (Be b3.A8 q).length)++{fe.c with node:=g.node}::(Be b3.A8 q).drop (CH TS (Be b3.A8 q).length));have Ĝ:B4 ((Be b3.A8 q).take (CH TS (Be b3.A8 q).length)++{fe.c with node:=g.node}::(Be b3.A8 q).drop (CH TS (Be b3.A8 q).length)) Z:=by refine⟨_,?_,OU⟩;rw[uz,BF,Bk,Fs,JG,aCJ,he2,<-aCJ,Ak]
   have hob:=i.rm.AY;obtain⟨u2,r16,Jr⟩:=aCk xk.sO (by simp only;rw[ho3];omega) fe.c.node;have M:=xk.I8 Jr;have oY:(CY fe.c.node b3.AY).length<=s'.1.AY.length:=by rw[<-ho3];exact Ln.length_le
   have aLK:(put (put Z4 bi 3 Z) bi 2 u2)[h.length]?=_:=(Ck YQ).trans ((Ck YQ).trans ě);have l9e:Bd (put (put Z4 bi 3 Z) bi 2 u2) none (Pt h.length 9)=some (I d.node):=At.load ⟨_,aLK,rfl⟩;have r17:=Zn M.sA Dq d.node;have hli: -1<=AR (Bw d.node) (CY fe.c.node b3.AY)/\AR (Bw d.node) (CY fe.c.node b3.AY)<=(CY fe.c.node b3.AY).length:=by rcases Dc (q:=Bw d.node) (l:=CY fe.c.node b3.AY) with⟨h,_⟩|⟨n,h1,h2,_⟩<;>omega
   have add:=Oj (a:=AR (Bw d.node) (CY fe.c.node b3.AY)) (b:=1) Ab Ab;obtain⟨u3,r18,Ē⟩:=aKv M.sO Dq g (AR (Bw d.node) (CY fe.c.node b3.AY)+1);have w14:=M.I8 Ē;simp only[abS,Nat.reduceLeDiff,↓reduceIte,AP,Fa,l9d,ŷ.Ad,l3c,r14.Ad,l1,l2,gu,l4,aLJ.Ad,r16.Ad,l9e,r17.Ad,add,r18.Ad];have hE:BS.GD fe.c d.node an.node s'={b3 with a:=(BS.CB b3.a g.node (b3.a.nd d.node).A6).Fq d.node g.node 0,A8:=(Be b3.A8 q).take (CH TS (Be b3.A8 q).length)++{fe.c with node:=g.node}::(Be b3.A8 q).drop (CH TS (Be b3.A8 q).length),AY:=(CY fe.c.node b3.AY).take (EZ (AR (Bw d.node) (CY fe.c.node b3.AY)+1) (CY fe.c.node b3.AY).length)++g::(CY fe.c.node b3.AY).drop (EZ (AR (Bw d.node) (CY fe.c.node b3.AY)+1) (CY fe.c.node b3.AY).length)}:=by
    have ot:Ff fe.c.node b3.A8=(q:Int):=by rw[Nk];exact gi
    unfold BS.GD;simp only
    rw[<-NZ,<-jl,<-hnw,ot,AV,<-Vo]
   rw[hE];refine⟨_,rfl,rfl,u3,Z,J,w14,Ĝ,Yr (Ag _) ?_⟩;exact((((Ŷ.trans (ES (X.trans tY) h.length)).trans x11).trans (ES Bp h.length)).trans (ES Bp h.length)).trans (ES Bp h.length)
 obtain⟨r,h',hr,rfl,o',c',G',w',KI,x'⟩:=Ji.ret;rw[e];exact⟨h',o',c',G',hr,w',KI,x'⟩
end
section
variable{h h':Ah}{bi a ai:Nat}{o c t:Aa}{G G' F:Nat->Prop}{b b':BS}{x:Int}{m:Nat}
variable{nm:Ao}{av:Aa}{l:List A3}{r:List Aa}{sp p:Int}{e:Cj}{at_ mk last:Int}{anc far:Item}
def gy{blk anc:Int}{far i:Nat}{l:Int}{mk:Nat}:(BS.Fo blk anc far i b l mk).1.AY.length<=b.AY.length:=by
 have h1:(Be b.AY i).length<=b.AY.length:=De.length_le;unfold BS.Fo;simp only
 split;.exact h1
 .split;.exact h1
  .have NY:∀nm l p,(b.Em nm l 1 p).AY=b.AY:=λnm l p=>by unfold BS.Em;rw[Ae JW]
   simp only[NY,Bn];exact Ag _
def aZ{blk anc:Int}{far k m:Nat}:∀{c:Nat} {s:BS×Int×Nat},B6 s.1 (m+4*c)->B6 (BS.Ky blk anc far k c s).1 m/\(BS.Ky blk anc far k c s).1.AY.length<=s.1.AY.length
 |0,s,r=>⟨r.le Ab,Ag _⟩
 |c+1,s,r=>by have d:=Oz (blk:=blk) (anc:=anc) (far:=far) (i:=k+(c+1)) (l:=s.2.1) (mk:=s.2.2) (m:=m+4*c) (r.le Ab);have h:=aZ (blk:=blk) (anc:=anc) (far:=far) (k:=k) (m:=m) (c:=c) (s:=BS.Fo blk anc far (k+(c+1)) s.1 s.2.1 s.2.2) d;exact⟨h.1,Bu h.2 gy⟩
def oE{fe:Cs}{blk anc:Int}{s:BS×Int×Nat}(r:B6 s.1 (m+4))(Kz:fe.name.length<=1000/\DU fe.Az):B6 (BS.GD fe blk anc s) m/\(BS.GD fe blk anc s).AY.length<=s.1.AY.length+1:=by
 unfold BS.GD;simp only
 generalize Vb:s.1.place anc=pb;have j:=r.I4 (J3 (x:=s.2.1) (p:=pb.1) (bf:=pb.2));generalize NZ:({s.1 with a:=s.1.a.Et s.2.1 pb.1 pb.2}:BS)=b2 at j;have YM:b2.AY=s.1.AY:=by rw[<-NZ]
 have d:=I6 (m:=m+1) (nm:=fe.name) (l:=fe.Az) (sp:=1) (p:=blk) (j.le Ab) Kz.2;have NY:(b2.Em fe.name fe.Az 1 blk).AY=b2.AY:=by unfold BS.Em;rw[Ae JW]
 have g:(b2.Gv fe.name fe.Az 1).name.length<=1000:=NM Kz.1;generalize b2.Em fe.name fe.Az 1 blk=b3 at*;generalize b2.Gv fe.name fe.Az 1=n at*;have q:=d.I4 ((QW (n:=n.node) (l:=(b3.a.nd blk).A6)).trans (I5 (p:=blk) (x:=n.node) (bf:=0)));have MN:∀{U:Type} (l:List U) (k:Nat) (y:U),(l.take k++y::l.drop k).length=l.length+1/\∀z∈l.take k++y::l.drop k,z∈l\/z=y:=λl k y=>⟨by rw[Aw,A9,As,Bb];omega,λz hz=>by
  rcases Ax.1 hz with hz|hz
  .exact .inl (Bm hz)
  .rcases AT.1 hz with rfl|hz
   .exact .inr rfl
   .exact .inl (BB hz)⟩
 have hr:=Ln (n:=fe.node) (l:=b3.AY);have hd:=De (l:=b3.A8) (k:=(Ff fe.node b3.A8).toNat);have f:=q.le (m':=m) Ab;refine⟨⟨f.n,f.at_,f.data,?_,?_,f.tm,λe he=>?_,λi hi=>?_⟩,?_⟩;.simp only[(MN _ _ _).1];have:=hr.length_le;have:=d.AY;omega
 .simp only[(MN _ _ _).1];have:=hd.length_le;have:=d.A8;omega
 .rcases(MN _ _ _).2 e he with he|rfl
  .exact d.DD e (hd.subset he)
  .exact Kz
 .rcases(MN _ _ _).2 i hi with hi|rfl
  .exact d.YS i (hr.subset hi)
  .exact g
 .simp only[(MN _ _ _).1];have h1:=hr.length_le;have h2:=Cb List.length (NY.trans YM);omega
def OA(r:B6 b (m+4*b.AY.length+10))(nm:Ao):B6 (b.round nm).2 m/\(b.round nm).2.AY.length<=b.AY.length+1:=by
 have d:B6 b m:=r.le Ab;unfold BS.round;simp only
 split
 .have key:(b.Dl nm).a=b.a/\List.Sublist (b.Dl nm).AY b.AY/\(b.Dl nm).A8=b.A8/\(b.Dl nm).tm=b.tm:=by
   unfold BS.Dl;split
   .split;.exact⟨rfl,IG.trans Fg,rfl,rfl⟩
    .exact⟨rfl,A4 _,rfl,rfl⟩
   .exact⟨rfl,A4 _,rfl,rfl⟩
  exact⟨d.sub key.1 key.2.1 (by rw[key.2.2.1];exact A4 _) (by rw[key.2.2.2];exact Ag _),Bu key.2.1.length_le (Fi _)⟩
 .rename_i hf;obtain⟨f,Ho,g⟩:=SV (Jq.1 hf);have Wg:b.A8.getD (GB nm b.A8).toNat Cs.zero=b.A8[f]:=by rw[g,AV,AJ,Ai Ho];rfl
  have Kz:=r.DD _ (AL Ho);rw[Wg];split;.exact⟨d.sub rfl (A4 _) De (Ag _),Fi _⟩
  .split;.exact⟨d,Fi _⟩
   .split;.exact⟨d.sub rfl IG De (Ag _),Bu IG.length_le (Fi _)⟩
    .rename_i hk _ hfa;have hlt:(D0 b.A8[f].node b.AY).toNat-1 -(AR (Bw b.A8[f].node) b.AY).toNat<=b.AY.length:=by
      rw[IB];split;.omega
      .unfold EY;split;.rename_i j hj;have:=(ED.1 hj).1;rw[Bb] at this;omega
       .omega
     have h1:=aZ (blk:=(b.AY.getD (D0 b.A8[f].node b.AY).toNat Item.zero).node) (anc:=(b.AY.getD ((AR (Bw b.A8[f].node) b.AY).toNat-1) Item.zero).node) (far:=(D0 b.A8[f].node b.AY).toNat) (k:=(AR (Bw b.A8[f].node) b.AY).toNat) (m:=m+4) (c:=(D0 b.A8[f].node b.AY).toNat-1 -(AR (Bw b.A8[f].node) b.AY).toNat) (s:=(b,(b.AY.getD (D0 b.A8[f].node b.AY).toNat Item.zero).node,(GB nm b.A8).toNat)) (r.le Ab);have h2:=oE (fe:=b.A8[f]) (blk:=(b.AY.getD (D0 b.A8[f].node b.AY).toNat Item.zero).node) (anc:=(b.AY.getD ((AR (Bw b.A8[f].node) b.AY).toNat-1) Item.zero).node) h1.1 Kz;exact⟨h2.1,Bu h2.2 (Nat.succ_le_succ h1.2)⟩
def UF:∀{n:Nat} {b:BS} {k:Nat},b.AY.length<=k->B6 b (m+n*(4*(k+n)+10))->B6 (BS.Ed n b nm) m/\(BS.Ed n b nm).AY.length<=k+n
 |0,b,k,hk,r=>⟨r.le Ab,hk⟩
 |n+1,b,k,hk,r=>by
  have e:(n+1)*(4*(k+(n+1))+10)=n*(4*(k+1+n)+10)+(4*(k+(n+1))+10):=by rw[BG,D4,(Ab:k+(n+1)=k+1+n)]
  rw[e] at r;have h1:=OA (m:=m+n*(4*(k+1+n)+10)) (r.le Ab) nm;unfold BS.Ed;simp only
  split;.have h2:=UF (n:=n) (k:=k+1) Ab h1.1;exact⟨h2.1,Ab⟩
  .exact⟨h1.1.le Ab,Ab⟩
def aLL(w:BX h bi a o c t G b)(hc:B4 b.A8 c)(ok:Eu b)(rm:B6 b (m+8*(4*(b.AY.length+8)+10)))(nm:Ao):
  ∃h' o' c' G',BH cx 75 [Pt bi 0,.str nm] h (.tuple []) h'/\BX h' bi a o' c' t G' (b.Ig nm)/\B4 (b.Ig nm).A8 c'/\DA h (Bt bi G) h' (Bt bi G'):=by
 have ho:=rm.AY;have C:=aF4 w rm;have em:AE (.Dh 1) [.str nm]=some (.sl 1 ([nm].map BZ)):=DF (ws:=[nm]) rfl AH;have r2:BH cx 162 [.agg (Fx b.AY).row,.sl 1 ([nm].map BZ)] h (.bool (By [nm] (Fx b.AY))) h:=tQ (ws:=[nm]) C0 AH _ h;have H:=hc.at w rm (Fx b.AY).node;have E:b.Ru.A8=b.A8:=by unfold BS.Ru;split<;>rfl
 by_cases h1:By [nm] (Fx b.AY)=true/\Ff (Fx b.AY).node b.A8<0
 .obtain⟨h2,u,L,q,j⟩:=aGt w rm;have e:b.Ig nm=b.Ru:=by unfold BS.Ig;rw[Ae h1]
  rw[e];refine⟨h2,u,c,G,?_,q,by rw[E];exact hc,j⟩;rw[h1.1] at r2;rw[Af,dW];simp only[abS,Fa,(Ip w).Ad,C.Ad,em,r2.Ad,H.Ad,h1.2,L.Ad]
 have e:b.Ig nm=BS.Ed 8 b nm:=by unfold BS.Ig;rw[Ac h1]
 rw[e];have Ji:Ev cx 75 [Pt bi 0,.str nm] h λr h'=>r= .tuple []/\∃o' c' G',BX h' bi a o' c' t G' (BS.Ed 8 b nm)/\B4 (BS.Ed 8 b nm).A8 c'/\DA h (Bt bi G) h' (Bt bi G'):=by
  unfold Ev;rw[dW];have HC:∀(Q:Hb) (k:DQ->List Aa->IT),(∀x vs h1,(x= .exit 0\/x= .ret)->(∃o' c' G',BX h1 bi a o' c' t G' (BS.Ed 8 b nm)/\B4 (BS.Ed 8 b nm).A8 c'/\DA h (Bt bi G) h1 (Bt bi G'))->W cx (k x vs) Q h1)->
    W cx (.loop 5 [I 0] (λd=> .op (.int .lss) [g d 0,I 8] λv14=> .Gc v14 (.call 189 [Pt bi 0,.str nm] λB=> .op (.un .not) [B] λv16=> .Gc v16 (.ret .ret [g d 0]) (.op (.int .add) [g d 0,I 1] λA=> .ret .normal [A])) (.ret (.exit 0) [g d 0])) k) Q h:=by
   intro Q k hk;refine Bf (λn:Nat=>[I ((8 -n:Nat):Int)]) (λn h1=>n<=8/\∃D v y b1,BX h1 bi a D v t y b1/\B4 b1.A8 v/\Eu b1/\B6 b1 (m+n*(4*(b.AY.length+8)+10))/\b1.AY.length<=b.AY.length+(8 -n)/\BS.Ed 8 b nm=BS.Ed n b1 nm/\DA h (Bt bi G) h1 (Bt bi y)) (λn=>n) 8 rfl ⟨Ag _,o,c,G,b,w,hc,ok,rm,Ab,rfl,.refl⟩ ?_;rintro n h1 ⟨hn,D,v,y,b1,w1,RG,QZ,tU,VG,i,z⟩;cases n with
   |zero=>simp only[abS,(AX:¬((8 -0:Nat):Int)<8)];exact hk _ _ _ (.inl rfl) ⟨D,v,y,by rw[i];exact w1,by rw[i];exact RG,z⟩
   |succ n=>
    have hsp:(n+1)*(4*(b.AY.length+8)+10)=n*(4*(b.AY.length+8)+10)+(4*(b.AY.length+8)+10):=by rw[BG,D4]
    rw[hsp] at tU;have gz:B6 b1 (m+n*(4*(b.AY.length+8)+10)+4*b1.AY.length+10):=tU.le Ab;obtain⟨h2,u,J,K,s,q,IV,j⟩:=aLA w1 RG QZ gz nm;obtain⟨UD,ZZ⟩:=OA gz nm;have uk:=(XZ (nm:=nm) QZ).1;have hlt:((8 -(n+1):Nat):Int)<8:=Ab;have inc:AE (.int .add) [I ((8 -(n+1):Nat):Int),I 1]=some (I ((8 -n:Nat):Int)):=by have:=BI (n:=8 -(n+1)) Ab;rwa [(Ab:8 -(n+1)+1=8 -n)] at this
    have f:BS.Ed (n+1) b1 nm=if(b1.round nm).1 then BS.Ed n (b1.round nm).2 nm else(b1.round nm).2:=rfl
    cases hr:(b1.round nm).1 with
    |true=>rw[hr] at s f;simp only[abS,hlt,s.Ad,inc];exact AK.next n rfl ⟨Ab,u,J,K,_,q,IV,uk,UD,Ab,i.trans f,z.trans j⟩ Ab
    |false=>rw[hr] at s f;simp only[abS,hlt,s.Ad];exact hk _ _ _ (.inr rfl) ⟨u,J,K,by rw[i,f];exact q,by rw[i,f];exact IV,z.trans j⟩
  by_cases h2:By [nm] (Fx b.AY)=true
  .have M:¬Ff (Fx b.AY).node b.A8<0:=λh=>h1 ⟨h2,h⟩;rw[h2] at r2;simp only[abS,Fa,(Ip w).Ad,C.Ad,em,r2.Ad,H.Ad,M];refine HC _ _ ?_;rintro x vs h1 (rfl|rfl) ⟨o',c',G',a1,a2,a3⟩;.simp only[BC];exact⟨_,rfl,rfl,o',c',G',a1,a2,a3⟩
   .simp only[BC];exact⟨_,rfl,rfl,o',c',G',a1,a2,a3⟩
  .have h2:By [nm] (Fx b.AY)=false:=by simpa using h2
   rw[h2] at r2;simp only[abS,Fa,(Ip w).Ad,C.Ad,em,r2.Ad];refine HC _ _ ?_;rintro x vs h1 (rfl|rfl) ⟨o',c',G',a1,a2,a3⟩;.simp only[BC];exact⟨_,rfl,rfl,o',c',G',a1,a2,a3⟩
   .simp only[BC];exact⟨_,rfl,rfl,o',c',G',a1,a2,a3⟩
 obtain⟨r,h',hr,rfl,o',c',G',w',KI,x'⟩:=Ji.ret;exact⟨h',o',c',G',hr,w',KI,x'⟩
end
structure oF where
 k:Int
 name:Ao
 Az:List A3
 A7:Int
 a:Int
 b:Bool
 s:Ao
 r:Int
 n:Int
def NP(h:Int):Item:=⟨h,0,[],false⟩
def Ys(b:BS)(q:oF):BS×Item:=
 if q.k=1 then(b.EG q.name q.Az 1,NP (b.a.len+1))
 else if q.k=2 then(b.EG q.name q.Az q.A7,NP (b.OY q.A7))
 else if q.k=3 then(b.Kk q.name q.Az,NP (b.a.len+1))
 else if q.k=4 then(b.sB q.r,Item.zero)
 else if q.k=5 then(b.FZ q.s q.a,Item.zero)
 else if q.k=6 then(b.Qm q.name q.Az q.n,Item.zero)
 else if q.k=7 then(b.JQ,Item.zero)
 else if q.k=8 then(b.DS,Item.zero)
 else if q.k=9 then(b.Dl q.name,Item.zero)
 else if q.k=10 then(b.Ig q.name,Item.zero)
 else if q.k=11 then(b.IF,Item.zero)
 else if q.k=12 then(b.Hy q.Az q.a,Item.zero)
 else if q.k=13 then(b.Du,Item.zero)
 else if q.k=14 then({b with stop:=true},Item.zero)
 else if q.k=15 then({b with ER:=q.b},Item.zero)
 else if q.k=16 then({b with tm:=b.tm++[q.n]},Item.zero)
 else if q.k=17 then({b with A8:=b.A8++[Cs.zero]},Item.zero)
 else if q.k=18 then(b.Ru,b.sC)
 else if q.k=19 then({b with head:=q.a},Item.zero)
 else if q.k=20 then({b with mode:=q.n},Item.zero)
 else if q.k=21 then({b with A8:=Gu b.A8},Item.zero)
 else if q.k=22 then({b with AY:=DO CX (By [q.name]) b.AY},Item.zero)
 else if q.k=23 then({b with NJ:=q.a},Item.zero)
 else if q.k=24 then(b.Em q.name q.Az q.A7 q.a,b.Gv q.name q.Az q.A7)
 else(b,Item.zero)
structure g_(q:oF):Prop where
 name:q.name.length<=1000
 Az:DU q.Az
 s:q.s.length<=1000
 r: -2147483648<=q.r/\q.r<=2147483647
section
variable{b:BS}{q:oF}{m j:Nat}
def aCK(o:Eu b){nm:Ao}{l:List A3}{sp p:Int}:Eu (b.Em nm l sp p):=by
 by_cases hs:BS.HV sp;.exact(PM o hs).1
 .unfold BS.Em;rw[Ac hs];exact o
def ĝ(o:Eu b):Eu {b with A8:=b.A8++[Cs.zero]}:=by have:=o.aBL (e:=Cs.zero) (k:=b.A8.length) (.inl rfl) (.inl rfl);rw[Bv,El] at this;exact this
def Ey{U:Type}{P:U->Prop}{c:Prop}[Decidable c]{x y:U}(h1:P x)(h2:P y):P (if c then x else y):=by split;exact h1;exact h2
def Yt{P:BS×Item->Prop}(h1:P (b.EG q.name q.Az 1,NP (b.a.len+1)))(h2:P (b.EG q.name q.Az q.A7,NP (b.OY q.A7)))(A:P (b.Kk q.name q.Az,NP (b.a.len+1)))(z:P (b.sB q.r,Item.zero))(y:P (b.FZ q.s q.a,Item.zero))(x:P (b.Qm q.name q.Az q.n,Item.zero))(w:P (b.JQ,Item.zero))(v:P (b.DS,Item.zero))(u:P (b.Dl q.name,Item.zero))(Vl:P (b.Ig q.name,Item.zero))(Z4:P (b.IF,Item.zero))(Ÿ:P (b.Hy q.Az q.a,Item.zero))(t:P (b.Du,Item.zero))(p:P ({b with stop:=true},Item.zero))(o:P ({b with ER:=q.b},Item.zero))(l:P ({b with tm:=b.tm++[q.n]},Item.zero))(k:P ({b with A8:=b.A8++[Cs.zero]},Item.zero))(i:P (b.Ru,b.sC))(h:P ({b with head:=q.a},Item.zero))(g:P ({b with mode:=q.n},Item.zero))(f:P ({b with A8:=Gu b.A8},Item.zero))(e:P ({b with AY:=DO CX (By [q.name]) b.AY},Item.zero))(d:P ({b with NJ:=q.a},Item.zero))(c:P (b.Em q.name q.Az q.A7 q.a,b.Gv q.name q.Az q.A7))(h0:P (b,Item.zero)):P (Ys b q):=by unfold Ys;exact Ey h1 (Ey h2 (Ey A (Ey z (Ey y (Ey x (Ey w (Ey v (Ey u (Ey Vl (Ey Z4 (Ey Ÿ (Ey t (Ey p (Ey o (Ey l (Ey k (Ey i (Ey h (Ey g (Ey f (Ey e (Ey d (Ey c (h0))))))))))))))))))))))))
def aCL(o:Eu b):Eu (Ys b q).1:=Yt (P:=λr=>Eu r.1) (PO (nm:=q.name) (at_:=q.Az) (sp:=1) o) (PO o) (fk o) (G_ o) (XW o) (sK o) (fo o) (sL o) (aK o) (fu o) (SG o) (qt o) (XX o) (o.of_eq rfl rfl rfl rfl) (o.of_eq rfl rfl rfl rfl) (o.of_eq rfl rfl rfl rfl) (ĝ o) (qu o) (o.of_eq rfl rfl rfl rfl) (o.of_eq rfl rfl rfl rfl) (o.sF (Eb _ _)) (o.dO Fg) (o.of_eq rfl rfl rfl rfl) (aCK o) o
def B6.aa{k m:Nat}{h:Int}{x:EP}(r:B6 b (m+k))(h1:x.Az.length<=(b.a.nd h).Az.length+k\/x.Az.length<=1000)(h2:x.data.length<=(b.a.nd h).data.length+k\/x.data.length<=100000):B6 {b with a:=b.a.set h x} m:=by
 have hn:(b.a.set h x).n.length=b.a.n.length:=by have:=zu (A:=b.a) (h:=h) (x:=x);unfold Ar.len at this;omega
 have c:=r.le (m':=m) Ab;have rn:=r.n;refine⟨by simp only;rw[hn];exact c.n,λy=>?_,λy=>?_,c.AY,c.A8,c.tm,c.DD,c.YS⟩
 .simp only;rw[JP];split;.rename_i d;have:=r.at_ h;omega
  .exact c.at_ y
 .simp only;rw[JP];split;.have:=r.data h;omega
  .exact c.data y
def oG{m:Nat}{s:Ao}{p bf:Int}(r:B6 b (m+5))(hs:s.length<=4):B6 {b with a:=BS.LG b.a s p bf} m:=by
 have Nr:∀d,B6 {b with a:=(b.a.add {kind:=5,Cf:=d,data:=s}).Et (b.a.len+1) p bf} m:=λd=>((r.le (m':=m+1) Ab).IP (Kl (AQ _) Dq)).I4 J3
 have c:=r.le (m':=m) Ab;unfold BS.LG;split
 .split
  .split;.exact B6.aa (k:=5) r (.inl Dq) (.inl (by simp only[Aw];omega))
   .exact Nr _
  .exact Nr _
 .exact c
def Ko{m:Nat}{s:Ao}{p bf:Int}(r:B6 b (m+5))(hs:s.length<=100000):B6 {b with a:=BS.E0 b.a s p bf} m:=by
 unfold BS.E0;split;.exact((r.le (m':=m+1) Ab).IP (Kl (AQ _) hs)).I4 J3
 .exact r.le Ab
end
section
variable{b:BS}{q:oF}{m j:Nat}{nm:Ao}
def tZ{l:List A3}{x:Int}(r:B6 b (m+1000))(hl:l.length<=1000):B6 (b.Hy l x) m:=by
 unfold BS.Hy;split;.refine B6.aa (k:=1000) r (.inl ?_) (.inl Dq);have:=Ql (l:=(b.a.nd x).Az++BS.plain l);rw[Aw,BS.plain,Ak] at this;unfold BS.plain;simp only;omega
 .exact r.le Ab
def bA:∀{l:List Cs} {b:BS},(BS.Jw l b).2.AY.length<=b.AY.length+l.length/\(BS.Jw l b).2.A8=b.A8/\(BS.Jw l b).1.length=l.length/\∀e∈(BS.Jw l b).1,∃a∈l,e.name=a.name/\e.Az=a.Az
 |[],b=>⟨by simp[BS.Jw],rfl,rfl,λe he=>by simp[BS.Jw] at he⟩
 |e::l,b=>by
  obtain⟨h1,h2,g,f⟩:=bA (l:=l) (b:=b.EG e.name e.Az 1);have i:(b.EG e.name e.Az 1).AY.length<=b.AY.length+1:=by
   unfold BS.EG;rw[Ae JW];simp only
   have:(b.Em e.name e.Az 1 (b.place 0).1).AY=b.AY:=by unfold BS.Em;rw[Ae JW]
   rw[Aw,Bi];first|(rw[this];exact Ag _)|exact Ag _
  rw[BS.Jw];refine⟨by simp only[A9];omega,by simp only;rw[h2,Fh],by simp only[A9,g],λh he=>?_⟩;rcases AT.1 he with rfl|he
  .exact⟨e,AH,rfl,rfl⟩
  .obtain⟨a,d,c⟩:=f h he;exact⟨a,by simp[d],c⟩
def jR(r:B6 b (m+4*b.A8.length)):B6 b.DS m/\b.DS.AY.length<=b.AY.length+b.A8.length/\b.DS.A8.length=b.A8.length:=by
 have hk:=SR (b:=b);have a:=aV (l:=b.A8.drop b.Lm) (b:=b) (m:=m) (r.le (by rw[Bb];omega)) λe he=>r.DD e (BB he);obtain⟨h1,h2,c,h⟩:=bA (l:=b.A8.drop b.Lm) (b:=b);rw[Bb] at h1 c;have hl:b.DS.A8.length=b.A8.length:=by unfold BS.DS;simp only[Aw,As,c];omega
 refine⟨⟨a.n,a.at_,a.data,a.AY,?_,a.tm,λe he=>?_,a.YS⟩,by unfold BS.DS;simp only;omega,hl⟩;.rw[hl];have:=r.A8;omega
 .unfold BS.DS at he;simp only at he;rcases Ax.1 he with he|he
  .exact r.DD e (Bm he)
  .obtain⟨i,g,f,d⟩:=h e he;rw[f,d];exact r.DD i (BB g)
def oH{blk anc:Int}{far k:Nat}:∀{c:Nat} {s:BS×Int×Nat},(BS.Ky blk anc far k c s).1.A8.length<=s.1.A8.length
 |0,s=>Ag _
 |c+1,s=>by
  refine Bu (oH (c:=c)) ?_;unfold BS.Fo;simp only
  split;.exact Ag _
  .split;.exact De.length_le
   .have:∀nm l p,(s.1.Em nm l 1 p).A8=s.1.A8:=λnm l p=>by unfold BS.Em;rw[Ae JW]
    simp only[this,Bn];exact Ag _
def h_:(b.round nm).2.A8.length<=b.A8.length+1:=by
 unfold BS.round;simp only
 split
 .have:(b.Dl nm).A8=b.A8:=by
   unfold BS.Dl;split;.split<;>rfl
   .rfl
  rw[this];omega
 .split;.exact Bu De.length_le (Fi _)
  .split;.exact Fi _
   .split;.exact Bu De.length_le (Fi _)
    .unfold BS.GD;simp only
     generalize hs:BS.Ky _ _ _ _ _ _=s;have h1:s.1.A8.length<=b.A8.length:=by rw[<-hs];exact oH
     have:∀(b2:BS) nm l p,(b2.Em nm l 1 p).A8=b2.A8:=λb2 nm l p=>by unfold BS.Em;rw[Ae JW]
     simp only[this,Aw,A9,As,Bb];have h2:∀k,(Be s.1.A8 k).length<=s.1.A8.length:=λk=>De.length_le;refine Bu (m:=(Be s.1.A8 (Ff (b.A8.getD (GB nm b.A8).toNat Cs.zero).node s.1.A8).toNat).length+1) ?_ (Nat.succ_le_succ (Bu (h2 _) h1));omega
def Yu:∀{n:Nat} {b:BS},(BS.Ed n b nm).A8.length<=b.A8.length+n
 |0,b=>Ag _
 |n+1,b=>by
  have h:=h_ (b:=b) (nm:=nm);unfold BS.Ed;simp only
  split;.have:=Yu (n:=n) (b:=(b.round nm).2);omega
  .omega
structure Sz(b:BS)(j:Nat):Prop where
 rm:B6 b (5000000*j)
 AY:b.AY.length+1200*j<=125000
 A8:b.A8.length+10*j<=1100
def Sz.of{b':BS}(h:Sz b (j+1))(r:B6 b' (5000000*j))(h1:b'.AY.length<=b.AY.length+1200)(h2:b'.A8.length<=b.A8.length+10):Sz b' j:=⟨r,by have:=h.AY;omega,by have:=h.A8;omega⟩
def Sz.Yv{k:Nat}(h:Sz b (j+1))(hk:k<=5000000:=by omega):B6 b (5000000*j+k):=h.rm.le Ab
def Sz.OZ{b':BS}(h:Sz b (j+1))(ha:b'.a=b.a)(ho:b'.AY.Sublist b.AY)(hc:b'.A8.Sublist b.A8)(ht:b'.tm.length<=b.tm.length):Sz b' j:=
 h.of ((h.rm.le Ab).sub ha ho hc ht) (by have:=ho.length_le;omega) (by have:=hc.length_le;omega)
def Sz.Ru(h:Sz b (j+1)):Sz b.Ru j:=by
 unfold BS.Ru;split;.exact h.OZ rfl (A4 _) (A4 _) (Ag _)
 .exact h.OZ rfl (Eb _ _) (A4 _) (Ag _)
def SW{l:List A3}{sp:Int}:(b.EG nm l sp).AY.length<=b.AY.length+1200:=by
 unfold BS.EG;split
 .rename_i hs;have:(b.Em nm l sp (b.place 0).1).AY=b.AY:=by unfold BS.Em;rw[Ae hs]
  have:=Cb List.length this;simp only[Aw,Bi];omega
 .omega
def uA{l:List A3}:(b.Kk nm l).A8.length<=b.A8.length+10:=by
 unfold BS.Kk;simp only
 obtain⟨l',h1,h2⟩:=XV (l:=(b.EG nm l 1).A8) (e:=⟨b.a.len+1,nm,l⟩);rw[h2,Aw,Bi];have:=h1.length_le;rw[Fh] at this;omega
def aCM(h:Sz b (j+1))(hq:g_ q):Sz (Ys b q).1 j:=Yt (P:=λr=>Sz r.1 j)
 (h.of (Lo (sp:=1) h.Yv hq.Az hq.name) SW (by rw[Fh];omega))
 (h.of (Lo h.Yv hq.Az hq.name) SW (by rw[Fh];omega))
 (h.of (nD h.Yv hq.Az hq.name) SW uA)
 (h.of (oG h.Yv (Yp _)) (F7 _ _) (F7 _ _))
 (by
  dsimp only;unfold BS.FZ;split;.exact h.of (Ko h.Yv (by have:=hq.s;omega)) (F7 _ _) (F7 _ _)
  .exact h.of (Ko h.Yv (by have:=hq.s;omega)) (F7 _ _) (F7 _ _))
 (h.of ((Lo h.Yv hq.Az hq.name).eq rfl rfl rfl rfl) SW (by show(b.EG q.name q.Az 1).A8.length<=_;rw[Fh];omega))
 (by
  dsimp only;unfold BS.JQ;split;.exact h.OZ rfl (Fg.trans Fg) (A4 _) (Ag _)
  .exact h.OZ rfl (A4 _) (A4 _) (Ag _))
 (by dsimp only;have h1:=jR (m:=5000000*j) (h.rm.le (by have:=h.A8;omega));exact h.of h1.1 (by have:=h.A8;have:=h1.2.1;omega) (by rw[h1.2.2];omega))
 (by
  dsimp only;unfold BS.Dl;split
  .split;.exact h.OZ rfl (IG.trans Fg) (A4 _) (Ag _)
   .exact h.OZ rfl (A4 _) (A4 _) (Ag _)
  .exact h.OZ rfl (A4 _) (A4 _) (Ag _))
 (by
  dsimp only;unfold BS.Ig;split;.exact h.Ru
  .have h1:=UF (n:=8) (b:=b) (k:=b.AY.length) (nm:=q.name) (m:=5000000*j) (Ag _) (h.rm.le (by have:=h.AY;omega));exact h.of h1.1 (by have:=h1.2;omega) (by have:=Yu (n:=8) (b:=b) (nm:=q.name);omega))
 (h.OZ rfl (A4 _) (A4 _) (Ag _))
 (by
  dsimp only;have e:(b.Hy q.Az q.a).AY=b.AY/\(b.Hy q.Az q.a).A8=b.A8:=by unfold BS.Hy;split<;>exact⟨rfl,rfl⟩
  exact h.of (tZ (m:=5000000*j) (h.rm.le Ab) hq.Az.1) (by rw[e.1];omega) (by rw[e.2];omega))
 (by
  dsimp only;unfold BS.Du;split;.exact h.OZ rfl (A4 _) (A4 _) (Ag _)
  .exact h.OZ rfl (show(DO CX (By [Bc]) (DO CM CX b.AY)).Sublist b.AY from Fg.trans Fg) (Eb _ _) (AH:b.tm.dropLast.length<=b.tm.length))
 (h.OZ rfl (A4 _) (A4 _) (Ag _))
 (h.OZ rfl (A4 _) (A4 _) (Ag _))
 (by dsimp only;have r:=h.rm.le (m':=5000000*j+1) Ab;have c:=r.le (m':=5000000*j) Ab;exact h.of ⟨c.n,c.at_,c.data,c.AY,c.A8,by have:=r.tm;simp only[Aw,Bi];omega,c.DD,c.YS⟩ (F7 _ _) (F7 _ _))
 (by
  dsimp only;refine h.of ((h.rm.le (m':=5000000*j+1) Ab).Ş (e:=Cs.zero) AH (λe he=>?_) ⟨AX,AX,λa ha=>by cases ha⟩) (F7 _ _) AH;rcases Ax.1 he with he|he
  .exact .inl he
  .exact .inr (by simpa using he))
 (h.Ru)
 (h.OZ rfl (A4 _) (A4 _) (Ag _))
 (h.OZ rfl (A4 _) (A4 _) (Ag _))
 (h.OZ rfl (A4 _) (Eb _ _) (Ag _))
 (h.OZ rfl Fg (A4 _) (Ag _))
 (h.OZ rfl (A4 _) (A4 _) (Ag _))
 (by
  dsimp only;have e:(b.Em q.name q.Az q.A7 q.a).AY=b.AY/\(b.Em q.name q.Az q.A7 q.a).A8=b.A8:=by unfold BS.Em;split<;>exact⟨rfl,rfl⟩
  exact h.of (I6 (m:=5000000*j) (h.rm.le Ab) hq.Az) (by rw[e.1];omega) (by rw[e.2];omega))
 (h.OZ rfl (A4 _) (A4 _) (Ag _))
end
def LJ(q:oF)(av:Aa):List Aa:=[I q.k,.str q.name,av,I q.A7,I q.a,.bool q.b,.str q.s,.int .i32 q.r,I q.n]
section
variable{h h':Ah}{bi a:Nat}{o c t:Aa}{G G' F:Nat->Prop}{b:BS}{x:Int}{m j:Nat}{q:oF}
variable{nm:Ao}{av:Aa}{l:List A3}{r:List Aa}{sp p:Int}
def Vp(hv:Br q.Az av)(hl:q.Az.length<=1000)(h:Ah):∃r YT,BH cx 66 [.agg (LJ q av)] h (.agg r) h/\NO q.name YT r/\Br q.Az YT:=by have kD:AM=140737488355328:=rfl;obtain⟨u,e,hu⟩:=AU.Gt (b:=40) hv Ab;have hc:u.cells=[u]:=AU.cells hu;refine⟨_,u,?_,⟨I 2,ff,S [],ff,S [],ff,ff,ff,S [],.int .i32 0,rfl⟩,hu⟩;rw[Af,aBY,LJ];simp only[abS,Nat.reduceLeDiff,↓reduceIte,AP,e,hc]
def aGO(i:Item)(h:Ah):BH cx 81 [.agg i.row] h (.agg i.row) h:=by rw[Af,aBZ,Item.row];simp only[abS,Nat.reduceLeDiff,↓reduceIte,AP]
def aLN(w:BX h bi a o c t G b)(hc:B4 b.A8 c)(ok:Eu b)(sz:Sz b (j+1))(hq:g_ q)(hv:Br q.Az av):
  ∃h' o' c' t' G',BH cx 24 [Pt bi 0,.agg (LJ q av)] h (.agg (Ys b q).2.row) h'/\BX h' bi a o' c' t' G' (Ys b q).1/\B4 (Ys b q).1.A8 c'/\DA h (Bt bi G) h' (Bt bi G'):=by
 unfold Ys LJ;by_cases d:q.k=1;.rw[Ae d];dsimp only;obtain⟨r,YT,D,hr,DC⟩:=Vp (q:=q) hv hq.Az.1 h;rw[LJ] at D;obtain⟨h',o',G',r2,w',x'⟩:=um (m:=5000000*j) w ok sz.Yv hr DC hq.Az hq.name;refine⟨h',o',c,t,G',?_,w',by rw[Fh];exact hc,x'⟩;rw[Af,FG];simp only[abS,Nat.reduceLeDiff,↓reduceIte,AP,AW d,D.Ad,r2.Ad];try rfl
 rw[Ac d];by_cases f:q.k=2;.rw[Ae f];dsimp only;obtain⟨r,YT,D,hr,DC⟩:=Vp (q:=q) hv hq.Az.1 h;rw[LJ] at D;obtain⟨h',o',G',r2,w',x'⟩:=aGa (m:=5000000*j) w ok sz.Yv hr DC hq.Az hq.name q.A7;refine⟨h',o',c,t,G',?_,w',by rw[Fh];exact hc,x'⟩;rw[Af,FG];simp only[abS,Nat.reduceLeDiff,↓reduceIte,AP,d,AW f,D.Ad,r2.Ad];try rfl
 rw[Ac f];by_cases g:q.k=3;.rw[Ae g];dsimp only;obtain⟨r,YT,D,hr,DC⟩:=Vp (q:=q) hv hq.Az.1 h;rw[LJ] at D;obtain⟨h',o',c',G',r2,w',KI,x'⟩:=aLd (m:=5000000*j) w hc ok sz.Yv hr DC hq.Az hq.name;refine⟨h',o',c',t,G',?_,w',KI,x'⟩;rw[Af,FG];simp only[abS,Nat.reduceLeDiff,↓reduceIte,AP,d,f,AW g,D.Ad,r2.Ad];try rfl
 rw[Ac g];by_cases i:q.k=4;.rw[Ae i];dsimp only;obtain⟨h',G',r2,w',x'⟩:=aLf (m:=5000000*j) w ok sz.Yv q.r hq.r;refine⟨h',o,c,t,G',?_,w',hc,x'⟩;rw[Af,FG];simp only[abS,↓reduceIte,AP,d,f,g,AW i,r2.Ad];try rfl
 rw[Ac i];by_cases y:q.k=5;.rw[Ae y];dsimp only;obtain⟨h',G',r2,w',x'⟩:=aGj (m:=5000000*j) w ok sz.Yv q.s (by have:=hq.s;omega) q.a;refine⟨h',o,c,t,G',?_,w',hc,x'⟩;rw[Af,FG];simp only[abS,↓reduceIte,AP,d,f,g,i,AW y,r2.Ad];try rfl
 rw[Ac y];by_cases z:q.k=6;.rw[Ae z];dsimp only;obtain⟨r,YT,D,hr,DC⟩:=Vp (q:=q) hv hq.Az.1 h;rw[LJ] at D;obtain⟨h',o',G',r2,w',x'⟩:=aLi (m:=5000000*j) w ok sz.Yv hr DC hq.Az hq.name q.n;refine⟨h',o',c,t,G',?_,w',by show B4 (b.EG q.name q.Az 1).A8 c;rw[Fh];exact hc,x'⟩;rw[Af,FG];simp only[abS,↓reduceIte,AP,d,f,g,i,y,AW z,D.Ad,r2.Ad];try rfl
 rw[Ac z];by_cases A:q.k=7;.rw[Ae A];dsimp only;obtain⟨h',o',r2,w',x'⟩:=aLj w sz.rm;refine⟨h',o',c,t,G,?_,w',by have e:b.JQ.A8=b.A8:=(by unfold BS.JQ;split<;>rfl);rw[e];exact hc,x'⟩;rw[Af,FG];simp only[abS,↓reduceIte,AP,d,f,g,i,y,z,AW A,r2.Ad];try rfl
 rw[Ac A];by_cases B:q.k=8;.rw[Ae B];dsimp only;obtain⟨h',o',c',G',r2,w',KI,x'⟩:=aLp (m:=5000000*j) w hc ok (sz.rm.le (by have:=sz.A8;omega));refine⟨h',o',c',t,G',?_,w',KI,x'⟩;rw[Af,FG];simp only[abS,↓reduceIte,AP,d,f,g,i,y,z,A,AW B,r2.Ad];try rfl
 rw[Ac B];by_cases C:q.k=9;.rw[Ae C];dsimp only;obtain⟨h',o',r2,w',x'⟩:=aGk w sz.rm q.name;refine⟨h',o',c,t,G,?_,w',by have e:(b.Dl q.name).A8=b.A8:=(by unfold BS.Dl;split;split<;>rfl;rfl);rw[e];exact hc,x'⟩;rw[Af,FG];simp only[abS,↓reduceIte,AP,d,f,g,i,y,z,A,B,AW C,r2.Ad];try rfl
 rw[Ac C];by_cases O0:q.k=10;.rw[Ae O0];dsimp only;obtain⟨h',o',c',G',r2,w',KI,x'⟩:=aLL (m:=5000000*j) w hc ok (sz.rm.le (by have:=sz.AY;omega)) q.name;refine⟨h',o',c',t,G',?_,w',KI,x'⟩;rw[Af,FG];simp only[abS,↓reduceIte,AP,d,f,g,i,y,z,A,B,C,AW O0,r2.Ad];try rfl
 rw[Ac O0];by_cases PU:q.k=11;.rw[Ae PU];dsimp only;obtain⟨h',r2,w',x'⟩:=đ w sz.rm;refine⟨h',o,c,t,G,?_,w',hc,x'⟩;rw[Af,FG];simp only[abS,↓reduceIte,AP,d,f,g,i,y,z,A,B,C,O0,AW PU,r2.Ad];try rfl
 rw[Ac PU];by_cases QA:q.k=12;.rw[Ae QA];dsimp only;obtain⟨r,YT,D,hr,DC⟩:=Vp (q:=q) hv hq.Az.1 h;rw[LJ] at D;obtain⟨h',G',r2,w',x'⟩:=aLk (m:=5000000*j) w ok sz.Yv hr DC hq.Az q.a;refine⟨h',o,c,t,G',?_,w',by have e:(b.Hy q.Az q.a).A8=b.A8:=(by unfold BS.Hy;split<;>rfl);rw[e];exact hc,x'⟩;rw[Af,FG];simp only[abS,↓reduceIte,AP,d,f,g,i,y,z,A,B,C,O0,PU,AW QA,D.Ad,r2.Ad];try rfl
 rw[Ac QA];by_cases Rz:q.k=13;.rw[Ae Rz];dsimp only;obtain⟨h',o',c',t',r2,w',KI,x'⟩:=aLl w hc sz.rm;refine⟨h',o',c',t',G,?_,w',KI,x'⟩;rw[Af,FG];simp only[abS,↓reduceIte,AP,d,f,g,i,y,z,A,B,C,O0,PU,QA,AW Rz,r2.Ad];try rfl
 rw[Ac Rz];by_cases SX:q.k=14;.rw[Ae SX];dsimp only;obtain⟨h',r2,w',x'⟩:=aLn w;refine⟨h',o,c,t,G,?_,w',hc,x'⟩;rw[Af,FG];simp only[abS,↓reduceIte,AP,d,f,g,i,y,z,A,B,C,O0,PU,QA,Rz,AW SX,r2.Ad];try rfl
 rw[Ac SX];by_cases TU:q.k=15;.rw[Ae TU];dsimp only;have w':BX (put h bi 15 (.bool q.b)) bi a o c t G {b with ER:=q.b}:=w.put rfl rfl w.o w.t;refine⟨put h bi 15 (.bool q.b),o,c,t,G,?_,w',hc,Bp⟩;rw[Af,FG];simp only[abS,↓reduceIte,AP,d,f,g,i,y,z,A,B,C,O0,PU,QA,Rz,SX,AW TU,w.st (k:=15) (v:= .bool q.b) rfl rfl];try rfl
 rw[Ac TU];by_cases Vq:q.k=16;.rw[Ae Vq];dsimp only;have H:=sz.rm.tm;have kD:AM=140737488355328:=rfl;obtain⟨u,K,hu⟩:=w.t.1.Gt Ab;have J:=AU.Ki (b:=8) (a:=q.n) hu Ab;have em:AE (.Dh 1) [I q.n]=some (.sl 1 [Cn q.n]):=rfl;have Jr:D1 (b.tm++[q.n]) (.sl 1 ((b.tm++[q.n]).map Cn)):= .mk;have w':=w.tT (Zr.nj (l:=b.tm) (m:=q.n));refine⟨put h bi 6 (.sl 1 ((b.tm++[q.n]).map Cn)),o,c,_,G,?_,w',hc,Bp⟩;rw[Af,FG];simp only[abS,↓reduceIte,AP,d,f,g,i,y,z,A,B,C,O0,PU,QA,Rz,SX,TU,AW Vq,w.l6,K,em,J,w.st (k:=6) (v0:=t) rfl (AU.cells Jr)];try rfl
 rw[Ac Vq];by_cases Yw:q.k=17;.rw[Ae Yw];dsimp only;have Td:=sz.rm.A8;obtain⟨fs,Hj,WN⟩:=hc;obtain⟨u,r2,hu⟩:=f63 (h:=h) (id:=bi) (o:=3) (l:=fs) ⟨c,w.zQ,WN⟩ (by rw[<-Hj,Ak] at Td;omega);have w':=w.Lr (u:=u) (l:=b.A8++[Cs.zero]);have KI:B4 (b.A8++[Cs.zero]) u:=⟨_,by rw[BF,Hj];rfl,hu⟩;refine⟨put h bi 3 u,o,u,t,G,?_,w',KI,Bp⟩;rw[Af,FG];simp only[abS,↓reduceIte,AP,d,f,g,i,y,z,A,B,C,O0,PU,QA,Rz,SX,TU,Vq,AW Yw,r2.Ad];try rfl
 rw[Ac Yw];by_cases Zs:q.k=18;.rw[Ae Zs];dsimp only;obtain⟨h',o',r2,w',x'⟩:=aGt w sz.rm;have E:=aGO b.sC h';refine⟨h',o',c,t,G,?_,w',by have e:b.Ru.A8=b.A8:=(by unfold BS.Ru;split<;>rfl);rw[e];exact hc,x'⟩;rw[Af,FG];simp only[abS,↓reduceIte,AP,Fa,d,f,g,i,y,z,A,B,C,O0,PU,QA,Rz,SX,TU,Vq,Yw,AW Zs,r2.Ad,E.Ad];try rfl
 rw[Ac Zs];by_cases jS:q.k=19;.rw[Ae jS];dsimp only;have w':BX (put h bi 7 (I q.a)) bi a o c t G {b with head:=q.a}:=w.put rfl rfl w.o w.t;refine⟨put h bi 7 (I q.a),o,c,t,G,?_,w',hc,Bp⟩;rw[Af,FG];simp only[abS,↓reduceIte,AP,d,f,g,i,y,z,A,B,C,O0,PU,QA,Rz,SX,TU,Vq,Yw,Zs,AW jS,w.st (k:=7) (v:= I q.a) rfl rfl];try rfl
 rw[Ac jS];by_cases oI:q.k=20;.rw[Ae oI];dsimp only;have w':=w.nW q.n;refine⟨put h bi 4 (I q.n),o,c,t,G,?_,w',hc,Bp⟩;rw[Af,FG];simp only[abS,↓reduceIte,AP,d,f,g,i,y,z,A,B,C,O0,PU,QA,Rz,SX,TU,Vq,Yw,Zs,jS,AW oI,w.st (k:=4) (v:= I q.n) rfl rfl];try rfl
 rw[Ac oI];by_cases uB:q.k=21;.rw[Ae uB];dsimp only;have Td:=sz.rm.A8;obtain⟨fs,Hj,WN⟩:=hc;obtain⟨u,r2,hu⟩:=f65 (h:=h) (id:=bi) (o:=3) (l:=fs) ⟨c,w.zQ,WN⟩ (by rw[<-Hj,Ak] at Td;omega);have w':=w.Lr (u:=u) (l:=Gu b.A8);have KI:B4 (Gu b.A8) u:=⟨_,by rw[We,Hj],hu⟩;refine⟨put h bi 3 u,o,u,t,G,?_,w',KI,Bp⟩;rw[Af,FG];simp only[abS,↓reduceIte,AP,d,f,g,i,y,z,A,B,C,O0,PU,QA,Rz,SX,TU,Vq,Yw,Zs,jS,oI,AW uB,r2.Ad];try rfl
 rw[Ac uB];by_cases ic:q.k=22;.rw[Ae ic];dsimp only;have ho:=sz.rm.AY;have em:AE (.Dh 1) [.str q.name]=some (.sl 1 ([q.name].map BZ)):=DF (ws:=[q.name]) rfl AH;obtain⟨u,r2,hu⟩:=f66 w.sO Ab (C0 (ws:=[q.name])) AH;have w':=w.I8 hu;refine⟨put h bi 2 u,u,c,t,G,?_,w',hc,Bp⟩;rw[Af,FG];simp only[abS,↓reduceIte,AP,d,f,g,i,y,z,A,B,C,O0,PU,QA,Rz,SX,TU,Vq,Yw,Zs,jS,oI,uB,AW ic,em,r2.Ad];try rfl
 rw[Ac ic];by_cases u_:q.k=23;.rw[Ae u_];dsimp only;have w':BX (put h bi 8 (I q.a)) bi a o c t G {b with NJ:=q.a}:=w.put rfl rfl w.o w.t;refine⟨put h bi 8 (I q.a),o,c,t,G,?_,w',hc,Bp⟩;rw[Af,FG];simp only[abS,↓reduceIte,AP,d,f,g,i,y,z,A,B,C,O0,PU,QA,Rz,SX,TU,Vq,Yw,Zs,jS,oI,uB,ic,AW u_,w.st (k:=8) (v:= I q.a) rfl rfl];try rfl
 rw[Ac u_];by_cases Ğ:q.k=24;.rw[Ae Ğ];dsimp only;obtain⟨r,YT,D,hr,DC⟩:=Vp (q:=q) hv hq.Az.1 h;rw[LJ] at D;obtain⟨h',G',r2,w',x'⟩:=uj (m:=5000000*j) w ok sz.Yv hr DC hq.Az hq.name q.a q.A7;have E:=aGO (b.Gv q.name q.Az q.A7) h';refine⟨h',o,c,t,G',?_,w',by have e:(b.Em q.name q.Az q.A7 q.a).A8=b.A8:=(by unfold BS.Em;split<;>rfl);rw[e];exact hc,x'⟩;rw[Af,FG];simp only[abS,↓reduceIte,AP,Fa,d,f,g,i,y,z,A,B,C,O0,PU,QA,Rz,SX,TU,Vq,Yw,Zs,jS,oI,uB,ic,u_,AW Ğ,D.Ad,r2.Ad,E.Ad];try rfl
 rw[Ac Ğ];refine⟨h,o,c,t,G,?_,w,hc,.refl⟩;rw[Af,FG];simp only[abS,↓reduceIte,AP,d,f,g,i,y,z,A,B,C,O0,PU,QA,Rz,SX,TU,Vq,Yw,Zs,jS,oI,uB,ic,u_,Ğ];try rfl
end
def NQ:∀l:List Int,(l.map Cn).flatten=l.map (Aa.int .i64)
 |[]=>rfl
 |x::l=>by simp[Cn,NQ l]
def js(q:Bool):Ar:={n:=[{kind:=1,Cf:=1,Cq:=q}],i:=[0]}
def Dt(q:Bool):BS:={a:=js q,Cf:=1,AY:=[],A8:=[],mode:=1,SB:=0,tm:=[],head:=0,NJ:=0,LX:=false,ctx:=Item.zero,fs:=true,ER:=false,m7:=[],skip:=false,sw:=0,stop:=false}
def Jf(sp:Int)(nm:Ao)(l:List A3)(q:Bool):BS:=
 {(Dt q).Em Dz [] 1 1 with a:=((Dt q).Em Dz [] 1 1).a.Et ((Dt q).Gv Dz [] 1).node 1 0,AY:=((Dt q).Em Dz [] 1 1).AY++[(Dt q).Gv Dz [] 1],LX:=true,ctx:=⟨0,sp,nm,Fl sp nm l⟩}
def LN(sp:Int)(nm:Ao)(l:List A3)(q:Bool):BS:=if By [Bc] (Jf sp nm l q).ctx then{Jf sp nm l q with tm:=[18]} else Jf sp nm l q
def TV(sp:Int)(nm:Ao)(l:List A3)(q f:Bool):BS:=if f then{(LN sp nm l q).IF with NJ:= -1} else(LN sp nm l q).IF
structure ET where
 LX:Bool
 A7:Int
 name:Ao
 Az:List A3
 Cq:Bool
 NJ:Bool
def ET.b(s:ET):BS:=if s.LX then TV s.A7 s.name s.Az s.Cq s.NJ else Dt s.Cq
def LZ(s:ET)(av:Aa):List Aa:=[.bool s.LX,I s.A7,.str s.name,av,.bool s.Cq,.bool s.NJ]
def aCN(q:Bool):EA (js q) 0:=by
 have h0:EA (⟨[],[]⟩:Ar) 0:=by
  have hn:∀h,¬(⟨[],[]⟩:Ar).has h:=λh d=>by have h1:=d.1;have h2:=d.2;simp at h2;omega
  exact⟨rfl,λh d=>absurd d (hn h),λh d=>absurd d (hn h),λh d=>absurd d (hn h),λh d=>absurd d (hn h),λh d=>absurd d (hn h),λh d=>absurd d (hn h),λh d=>absurd d (hn h),λh d=>absurd d (hn h),λh d=>absurd d (hn h),⟨λ_=>0,λh d=>absurd d (hn h)⟩⟩
 have hx:rU {kind:=1,Cf:=1,Cq:=q}:=by constructor<;>simp[Cv,GA]
 exact PK h0 hx (.inl ⟨rfl,rfl⟩) rfl rfl rfl rfl (λh=>absurd h.1 (AX:¬(1:Int)=4))
def OB(q:Bool):Eu (Dt q):=by refine⟨aCN q,⟨⟨Gw 1,Gw 1⟩,rfl⟩,λi hi=>(nomatch hi),MC,λe he=>(nomatch he),MC⟩
def OC{q:Bool}(x:Int):(Dt q).a.nd x=if x=1 then{kind:=1,Cf:=1,Cq:=q} else{}:=by
 unfold Ar.nd;by_cases h:x=1;.subst h;rfl
 .rw[Ac h,Ac];intro d;have h1:=d.1;have h2:=d.2;simp[Dt,js] at h2;omega
def OD(q:Bool):Sz (Dt q) 101:=by
 refine⟨⟨by simp[Dt,js],λx=>?_,λx=>?_,by simp[Dt],by simp[Dt],by simp[Dt],λe he=>(nomatch he),λi hi=>(nomatch hi)⟩,by simp[Dt],by simp[Dt]⟩;.rw[OC];split<;>simp
 .rw[OC];split<;>simp
section
variable{h h':Ah}{bi a:Nat}{o c t:Aa}{G G' F:Nat->Prop}{b:BS}{x:Int}{m j:Nat}{q:oF}
variable{nm:Ao}{av:Aa}{l:List A3}{r:List Aa}{sp p:Int}
def aLO(h:Ah)(q:Bool):∃h1 h',BH cx 57 [] h (Pt h.length 0) h1/\BH cx 58 [Pt h.length 0,.bool q] h1 (I 1) h'/\PA h' h.length (h.length+1) none [⟨{kind:=1,Cf:=1,Cq:=q},.slnil,.slnil,rfl⟩] (js q)/\h'=h++[.cells [.CE (h.length+1) 0 1 13,.map none],.cells [I 1,I 0,.slnil,I 1,I 0,S [],.slnil,S [],S [],S [],.bool q,I 0,I 0]]:=by
 have kD:AM=140737488355328:=rfl;have g1:∀u:Ah,F8 u 13 168 .slnil (.sl 13 [[I 1,I 0,.slnil,I 0,I 0,S [],.slnil,S [],S [],S [],.bool q,I 0,I 0]])=some (u++[.cells [I 1,I 0,.slnil,I 0,I 0,S [],.slnil,S [],S [],S [],.bool q,I 0,I 0]],.CE u.length 0 1 13):=λu=>rfl;obtain⟨d,e⟩:∃d,d=h++[Dw.cells [.slnil,.map none]]:=⟨_,rfl⟩;have A:d[h.length]?=some (.cells [.slnil,.map none]):=by rw[e];simp
 have VG:d.length=h.length+1:=by rw[e];simp
 have g2:=g1 d;rw[VG] at g2;have B:At d h.length 0 .slnil:=⟨_,A,rfl⟩;have w:(d++[Dw.cells [I 1,I 0,.slnil,I 0,I 0,S [],.slnil,S [],S [],S [],.bool q,I 0,I 0]])[h.length]?=some (.cells [.slnil,.map none]):=(Aj Ab).trans A;have J:(d++[Dw.cells [I 1,I 0,.slnil,I 0,I 0,S [],.slnil,S [],S [],S [],.bool q,I 0,I 0]])[h.length+1]?=some (.cells [I 1,I 0,.slnil,I 0,I 0,S [],.slnil,S [],S [],S [],.bool q,I 0,I 0]):=by rw[<-VG];simp
 have ZZ:(d++[Dw.cells [I 1,I 0,.slnil,I 0,I 0,S [],.slnil,S [],S [],S [],.bool q,I 0,I 0]]).length=h.length+2:=by rw[Aw,VG];rfl
 have s:d++[Dw.cells [I 1,I 0,.slnil,I 0,I 0,S [],.slnil,S [],S [],S [],.bool q,I 0,I 0]]=h++[.cells [.slnil,.map none],.cells [I 1,I 0,.slnil,I 0,I 0,S [],.slnil,S [],S [],S [],.bool q,I 0,I 0]]:=by rw[e,AI];rfl
 generalize d++[Dw.cells [I 1,I 0,.slnil,I 0,I 0,S [],.slnil,S [],S [],S [],.bool q,I 0,I 0]]=g at*;have t2:At g h.length 0 .slnil:=⟨_,w,rfl⟩;have D:=t2.store (u:= .CE (h.length+1) 0 1 13) rfl;have z:=H9 (k:=0) (v:= .CE (h.length+1) 0 1 13) w;have n:(put g h.length 0 (.CE (h.length+1) 0 1 13))[h.length+1]?=_:=(Ck Ab).trans J;have M:put g h.length 0 (.CE (h.length+1) 0 1 13)=h++[.cells [.CE (h.length+1) 0 1 13,.map none],.cells [I 1,I 0,.slnil,I 0,I 0,S [],.slnil,S [],S [],S [],.bool q,I 0,I 0]]:=by rw[If w,s,BM _ _ (Ag _),C6];rfl
 generalize put g h.length 0 (.CE (h.length+1) 0 1 13)=f at*;have l3:Bd f none (Pt h.length 0)=some (.CE (h.length+1) 0 1 13):=At.load ⟨_,z,rfl⟩;have L:AE (.E2 13) [.CE (h.length+1) 0 1 13,I 0]=some (.ptr (some (h.length+1,0))):=EX (k:= .i64) (i:=0) AX;have t3:At f (h.length+1) 3 (I 0):=⟨_,n,rfl⟩;have C:=t3.store (u:=I 1) rfl;have N:(put f (h.length+1) 3 (I 1))[h.length]?=_:=(Ck Ab).trans z;have H:=H9 (k:=3) (v:=I 1) n;have K:put f (h.length+1) 3 (I 1)=h++[.cells [.CE (h.length+1) 0 1 13,.map none],.cells [I 1,I 0,.slnil,I 1,I 0,S [],.slnil,S [],S [],S [],.bool q,I 0,I 0]]:=by rw[If n,M,BM _ _ Ab,S7];rfl
 refine⟨d,put f (h.length+1) 3 (I 1),?_,?_,⟨rfl,rfl,N,H,?_,?_,.inl ⟨rfl,λk=>?_⟩⟩,K⟩;.rw[Af,sQ];simp only[abS,↓reduceIte,AP,e]
 .have E:BH cx 158 [Pt h.length 0,.agg [I 1,I 0,.slnil,I 0,I 0,S [],.slnil,S [],S [],S [],.bool q,I 0,I 0]] d (I 1) f:=by rw[Af,VM];simp only[BC,Nat.reduceLeDiff,↓reduceIte,AP,aC,B.load,show AE (.Dh 13) [.agg [I 1,I 0,.slnil,I 0,I 0,S [],.slnil,S [],S [],S [],.bool q,I 0,I 0]]=some (.sl 13 [[I 1,I 0,.slnil,I 0,I 0,S [],.slnil,S [],S [],S [],.bool q,I 0,I 0]]) from rfl,g2,D,l3,show AE (.len false) [.CE (h.length+1) 0 1 13]=some (I 1) from rfl]
  have r2:BH cx 153 [Pt h.length 0,I 1] f (.ptr (some (h.length+1,0))) f:=by rw[Af,VL];simp only[BC,aC,l3,show AE (.int .sub) [I 1,I 1]=some (I 0) from rfl,L]
  rw[Af,dQ];simp only[abS,Nat.reduceLeDiff,↓reduceIte,AP,E.Ad,r2.Ad,C]
 .intro p hp;rw[DB] at hp;subst hp;exact .inl ⟨rfl,rfl⟩
 .simp[Ga,HL]
 .unfold Ar.inr;split;.rename_i y;have h1:=y.1;have h2:=y.2;simp[js] at h2;have:k=1:=Ab;subst this;rfl
  .rfl
def aGP(h:Ah)(q:Bool):∃h1 h2 h' bi G,BH cx 57 [] h (Pt h.length 0) h1/\BH cx 58 [Pt h.length 0,.bool q] h1 (I 1) h2/\BH cx 60 [Pt h.length 0,I 1] h2 (Pt bi 0) h'/\BX h' bi h.length .slnil .slnil .slnil G (Dt q)/\DA h (λ_=>False) h' (Bt bi G):=by
 obtain⟨h1,h2,g,r2,d,f⟩:=aLO h q;obtain⟨r,t,e,K,V,rfl,n,k,_⟩:=aFI (x:=1) d ((OD q).rm.Vd) ((OD q).rm.Vd.A6 (OB q).ok 1);have hx:(js q).has 1:=⟨Gw 1,Gw 1⟩;have xd:(js q).nd 1={kind:=1,Cf:=1,Cq:=q}:=(OC (q:=q) 1).trans (Ae rfl);rw[Ae hx,xd] at e;have wt:PA (h2++t) _ _ _ _ _:=d.Df λi hi=>Aj (d.lt i hi);refine⟨h1,h2,h2++t++[.cells (Jl h.length (Dt q) .slnil .slnil .slnil)],(h2++t).length,λi=>i∈Ga h.length (h.length+1) none [⟨{kind:=1,Cf:=1,Cq:=q},.slnil,.slnil,rfl⟩],g,r2,?_,⟨AH,.inr ⟨rfl,rfl⟩,Zr.nil,?_,?_⟩,?_⟩;.rw[Af,sR];simp only[abS,Nat.reduceLeDiff,↓reduceIte,AP,e.Ad,aaS];exact⟨λh=>absurd rfl h,λ_=>⟨λh=>absurd rfl h,λ_=>rfl⟩⟩
 .exact⟨_,_,_,wt.Df λi hi=>Aj (wt.lt i hi),λi=>aDb⟩
 .intro hm;exact absurd (wt.lt _ hm) (Dr _)
 .have Ej:h.length<=h2.length:=by rw[f];simp
  refine⟨Ee,λi hi _=>?_,λi hi=> .inr ?_⟩;.rw[AI,Aj Ab,f,Aj hi]
  .rcases hi with rfl|hi
   .simp;omega
   .simp[Ga,HL] at hi;omega
def vd(sp:Int)(nm:Ao)(l:List A3)(q:Bool):Eu (Jf sp nm l q)/\Sz (Jf sp nm l q) 100:=by
 refine⟨?_,?_⟩
 .obtain⟨QZ,f,u⟩:=PM (nm:=Dz) (at_:=[]) (p:=1) (OB q) JW;have uk:=QZ.I4 (Oq (n:=((Dt q).Gv Dz [] 1).node) (p:=1) (b:=0) QZ.ok) I3;have g:Le ((Dt q).Em Dz [] 1 1).a (((Dt q).Em Dz [] 1 1).a.Et ((Dt q).Gv Dz [] 1).node 1 0):=I3;have ho:((Dt q).Em Dz [] 1 1).AY=[]:=by unfold BS.Em;rw[Ae JW];rfl
  have ŵ:=uk.aBK (i:=(Dt q).Gv Dz [] 1) (k:=0) ⟨g.has _ f.has,by rw[g.kind _ f.has];exact f.kind,by rw[g.A7 _ f.has];exact f.A7,by rw[g.name _ f.has];exact f.name⟩ (by simp only[ho];simp);exact ŵ.of_eq rfl rfl (by unfold Jf;simp only[ho];rfl) rfl
 .have sz:=OD q;have e:((Dt q).Em Dz [] 1 1).AY=[]/\((Dt q).Em Dz [] 1 1).A8=[]:=by unfold BS.Em;rw[Ae JW];exact⟨rfl,rfl⟩
  have s:=I6 (m:=5000000*100+1) (nm:=Dz) (l:=[]) (sp:=1) (p:=1) (sz.rm.le Ab) ⟨AX,λa ha=>(nomatch ha)⟩;have r2:=s.I4 (J3 (x:=((Dt q).Gv Dz [] 1).node) (p:=1) (bf:=0));have d:=r2.ŝ (i:=(Dt q).Gv Dz [] 1) (l':=((Dt q).Em Dz [] 1 1).AY++[(Dt q).Gv Dz [] 1]) AH (λj hj=>by simpa using hj) (NM AX);exact⟨⟨d.n,d.at_,d.data,d.AY,d.A8,d.tm,d.DD,d.YS⟩,by unfold Jf;simp only[e.1];show 1+1200*100<=125000;decide,by unfold Jf;simp only[e.2];decide⟩
def Yx(sp:Int)(nm:Ao)(l:List A3)(q:Bool):Eu (LN sp nm l q)/\Sz (LN sp nm l q) 100:=by
 obtain⟨ŵ,d⟩:=vd sp nm l q;unfold LN;split;.have r:=d.rm;exact⟨ŵ.of_eq rfl rfl rfl rfl,⟨⟨r.n,r.at_,r.data,r.AY,r.A8,AH,r.DD,r.YS⟩,d.AY,d.A8⟩⟩
 .exact⟨ŵ,d⟩
def ğ(sp:Int)(nm:Ao)(l:List A3)(q f:Bool):Eu (TV sp nm l q f)/\Sz (TV sp nm l q f) 100:=by
 obtain⟨jo,Ġ⟩:=Yx sp nm l q;have d:B6 (LN sp nm l q).IF (5000000*100):=Ġ.rm.mode;unfold TV;split;.exact⟨(SG jo).of_eq rfl rfl rfl rfl,⟨⟨d.n,d.at_,d.data,d.AY,d.A8,d.tm,d.DD,d.YS⟩,Ġ.AY,Ġ.A8⟩⟩
 .exact⟨SG jo,⟨d,Ġ.AY,Ġ.A8⟩⟩
def BX.ve(w:BX h bi a o c t G b)(i:Item):∃h',Cx h 4 (Pt bi 10) (.agg i.row)=some h'/\BX h' bi a o c t G {b with ctx:=i}/\DA h (Bt bi G) h' (Bt bi G):=by refine⟨h.set bi (.cells (Jl a {b with ctx:=i} o c t)),?_,⟨AS w.lt,w.o,w.t,w.w.Df λj hj=>Ap λe=>w.nb (by rw[e];exact hj),w.nb⟩,⟨by rw[Bn];exact Ag _,λj _ hn=>Ap λe=>hn (.inl e.symm),λ_ h=> .inl h⟩⟩;simp only[Cx,w.hb];rfl
def aLP(h:Ah)(sp:Int)(nm:Ao)(hv:Br l av)(hl:DU l)(q f Z:Bool):∃h1 h2 h' bi o t G,BH cx 57 [] h (Pt h.length 0) h1/\BH cx 58 [Pt h.length 0,.bool q] h1 (I 1) h2/\BH cx 59 [Pt h.length 0,I 1,.agg [I sp,.str nm,av,.bool Z,.bool f]] h2 (Pt bi 0) h'/\BX h' bi h.length o .slnil t G (TV sp nm l q f)/\DA h (λ_=>False) h' (Bt bi G):=by
 obtain⟨h1,h2,h3,bi,G,L,r2,K,w,x⟩:=aGP h q;have hr:NO Dz .slnil [I 2,.str Dz,ff,S [],ff,S [],ff,ff,.slnil,ff,S [],.int .i32 0]:=⟨I 2,ff,S [],ff,S [],ff,ff,ff,S [],.int .i32 0,rfl⟩;obtain⟨h4,G4,J,X,U⟩:=uj (m:=1000) w (OB q).ba ((OD q).rm.le Ab) hr (l:=[]) (.inr ⟨rfl,rfl⟩) ⟨AX,λa ha=>(nomatch ha)⟩ AX 1 1;obtain⟨jo,f4,le4⟩:=PM (nm:=Dz) (at_:=[]) (p:=1) (OB q) JW;have N:=I6 (m:=1000) (nm:=Dz) (l:=[]) (sp:=1) (p:=1) ((OD q).rm.le Ab) ⟨AX,λa ha=>(nomatch ha)⟩;obtain⟨y,g,H,P,T⟩:=nS (x:=((Dt q).Gv Dz [] 1).node) (p:=1) (bf:=0) X jo.ba N;have ho:((Dt q).Em Dz [] 1 1).AY=[]:=by unfold BS.Em;rw[Ae JW];rfl
 obtain⟨d,E,z⟩:=f95 P.sO (by simp only[ho];decide) ((Dt q).Gv Dz [] 1);have M:=P.I8 z;have W:BX (put (put y bi 2 d) bi 9 tt) bi h.length d .slnil .slnil g _:=M.put (k:=9) (v:=tt) (b':={{{(Dt q).Em Dz [] 1 1 with a:=((Dt q).Em Dz [] 1 1).a.Et ((Dt q).Gv Dz [] 1).node 1 0} with AY:=((Dt q).Em Dz [] 1 1).AY++[(Dt q).Gv Dz [] 1]} with LX:=true}) rfl rfl z M.t;have C:Cx (put y bi 2 d) 1 (Pt bi 9) tt=some (put (put y bi 2 d) bi 9 tt):=M.st (k:=9) (v:=tt) (v0:= .bool ((Dt q).Em Dz [] 1 1).LX) rfl rfl;have D:BH cx 161 [I sp,.str nm,av] (put (put y bi 2 d) bi 9 tt) (.bool (Fl sp nm l)) (put (put y bi 2 d) bi 9 tt):=f96 hv (λa ha=>by have:=(hl.2 a ha).2;have:AM=140737488355328:=rfl;omega) (by have:=hl.1;omega) sp nm _;obtain⟨s,Y,O,R⟩:=W.ve ⟨0,sp,nm,Fl sp nm l⟩;have Ź:BX s bi h.length d .slnil .slnil g (Jf sp nm l q):=O;have Ŷ:DA h (λ_=>False) s (Bt bi g):=((((x.trans U).trans T).trans Bp).trans Bp).trans R;clear O;have i:=Ź.Đ;have aCO:(Jf sp nm l q).ctx=⟨0,sp,nm,Fl sp nm l⟩:=rfl;obtain⟨aLQ,Ġ⟩:=Yx sp nm l q;have u:=tQ (ws:=[Bc]) C0 AX (Jf sp nm l q).ctx s;have key:∃A t9,BX A bi h.length d .slnil t9 g (LN sp nm l q)/\DA s (Bt bi g) A (Bt bi g)/\(By [Bc] (Jf sp nm l q).ctx=true->Cx s 1 (Pt bi 6) (.sl 1 [[I 18]])=some A)/\(By [Bc] (Jf sp nm l q).ctx=false->A=s):=by
  by_cases n:By [Bc] (Jf sp nm l q).ctx=true;.have hu:D1 [18] (.sl 1 [[I 18]]):= .mk;refine⟨put s bi 6 (.sl 1 [[I 18]]),.sl 1 [[I 18]],?_,Bp,λ_=>Ź.st (k:=6) (v0:= .slnil) rfl rfl,λh=>absurd n (by rw[h];decide)⟩;unfold LN;rw[Ae n];exact Ź.tT ⟨.inl hu,λe=>by injection e with _ e;simp at e⟩
  .refine⟨s,.slnil,?_,.refl,λh=>absurd h n,λ_=>rfl⟩;unfold LN;rw[Ac n];exact Ź
 obtain⟨A,t9,V,Q,k1,k2⟩:=key;obtain⟨Vl,zY,TT,tY⟩:=đ V Ġ.rm;have em:AE (.Dh 1) [I 18]=some (.sl 1 [[I 18]]):=rfl;have B:DA h (λ_=>False) Vl (Bt bi g):=(Ŷ.trans Q).trans tY;have hir:((Dt q).Gv Dz [] 1).row=[I ((Dt q).Gv Dz [] 1).node,I ((Dt q).Gv Dz [] 1).A7,.str ((Dt q).Gv Dz [] 1).name,.bool ((Dt q).Gv Dz [] 1).OM]:=rfl;generalize(Dt q).Gv Dz [] 1=it at*;have vf:Cx (put (put y bi 2 d) bi 9 tt) 4 (Pt bi 10) (.agg [I 0,I sp,.str nm,.bool (Fl sp nm l)])=some s:=Y;have gl:AE (.Dh 1) [S aSz]=some (.sl 1 ([Bc].map BZ)):=nX;cases n:By [Bc] (Jf sp nm l q).ctx with
 |true=>
  rw[n] at u;have ź:=k1 n;cases f with
  |true=>
   refine⟨h1,h2,put Vl bi 8 (I (-1)),bi,d,t9,g,L,r2,?_,?_,B.trans Bp⟩;.rw[Af,dR];simp only[abS,Nat.reduceLeDiff,↓reduceIte,AP,Fa,K.Ad,J.Ad,H.Ad,E.Ad,C,D.Ad,vf,i,gl,u.Ad,em,ź,zY.Ad,TT.st (k:=8) (v:=I (-1)) rfl rfl]
   .unfold TV;rw[Ae rfl];exact TT.put rfl rfl TT.o TT.t
  |false=>refine⟨h1,h2,Vl,bi,d,t9,g,L,r2,?_,TT,B⟩;rw[Af,dR];simp only[abS,Nat.reduceLeDiff,↓reduceIte,AP,Fa,K.Ad,J.Ad,H.Ad,E.Ad,C,D.Ad,vf,i,gl,u.Ad,em,ź,zY.Ad]
 |false=>
  rw[n] at u;have Ż:=k2 n;subst Ż;cases f with
  |true=>
   refine⟨h1,h2,put Vl bi 8 (I (-1)),bi,d,t9,g,L,r2,?_,?_,B.trans Bp⟩;.rw[Af,dR];simp only[abS,Nat.reduceLeDiff,↓reduceIte,AP,Fa,K.Ad,J.Ad,H.Ad,E.Ad,C,D.Ad,vf,i,gl,u.Ad,em,zY.Ad,TT.st (k:=8) (v:=I (-1)) rfl rfl]
   .unfold TV;rw[Ae rfl];exact TT.put rfl rfl TT.o TT.t
  |false=>refine⟨h1,h2,Vl,bi,d,t9,g,L,r2,?_,TT,B⟩;rw[Af,dR];simp only[abS,Nat.reduceLeDiff,↓reduceIte,AP,Fa,K.Ad,J.Ad,H.Ad,E.Ad,C,D.Ad,vf,i,gl,u.Ad,em,zY.Ad]
def aLR(h:Ah)(s:ET)(hv:Br s.Az av)(hl:DU s.Az):∃h' bi a o c t G,BH cx 22 [.agg (LZ s av)] h (Pt bi 0) h'/\BX h' bi a o c t G s.b/\B4 s.b.A8 c/\DA h (λ_=>False) h' (Bt bi G):=by
 have qV:(Jf s.A7 s.name s.Az s.Cq).A8=[]:=by unfold Jf;simp only;unfold BS.Em;rw[Ae JW];rfl
 cases hf:s.LX with
 |true=>
  obtain⟨h1,h2,h',bi,o,t,G,f,r2,d,w,x⟩:=aLP h s.A7 s.name hv hl s.Cq s.NJ s.Cq;refine⟨h',bi,h.length,o,.slnil,t,G,?_,by unfold ET.b;rw[Ae hf];exact w,?_,x⟩;.rw[Af,rl,LZ,hf];simp only[BC,f.Ad,r2.Ad,d.Ad]
  .have e:s.b.A8=[]:=by unfold ET.b TV LN;rw[Ae hf];split<;>split<;>exact qV
   rw[e];exact⟨[],rfl,.inr ⟨rfl,rfl⟩⟩
 |false=>
  obtain⟨h1,h2,h',bi,G,f,r2,d,w,x⟩:=aGP h s.Cq;have e:s.b=Dt s.Cq:=by unfold ET.b;rw[Ac (by rw[hf];decide)]
  refine⟨h',bi,h.length,.slnil,.slnil,.slnil,G,?_,by rw[e];exact w,by rw[e];exact⟨[],rfl,.inr ⟨rfl,rfl⟩⟩,x⟩;rw[Af,rl,LZ,hf];simp only[BC,f.Ad,r2.Ad,d.Ad]
def ET.ok(s:ET):Eu s.b/\Sz s.b 100:=by
 unfold ET.b;split;.exact ğ _ _ _ _ _
 .have h:=OD s.Cq;exact⟨OB _,⟨h.rm.le Ab,by have:=h.AY;omega,by have:=h.A8;omega⟩⟩
end
end Go.Am
end
