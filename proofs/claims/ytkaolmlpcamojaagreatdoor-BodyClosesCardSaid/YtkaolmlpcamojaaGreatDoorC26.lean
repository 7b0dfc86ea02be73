/- Lemmas -/
import Derived.Test.YtkaolmlpcamojaaGreatDoorC25
set_option linter.all false
noncomputable section
set_option maxHeartbeats 0
set_option maxRecDepth 100000
section
namespace Go.Am
open Go
section
variable{h h':Ah}{bi a:Nat}{o c t:Aa}{G G' F:Nat->Prop}{b:BS}{x:Int}{m:Nat}
variable{nm:Ai}{av:Aa}{l:List A5}{r:List Aa}{sp p:Int}
def BX.ś(w:BX h bi a o c t G b):A8 h (some 4) (Pt bi 10)=some (.agg b.ctx.row):=by simp only[A8,w.hb];rfl
def BX.pH(w:BX h bi a o c t G b)(v:Int):BX (Am.put h bi 4 (I v)) bi a o c t G {b with mode:=v}:=w.put rfl rfl w.o w.t
def B6.mode{v:Int}(rm:B6 b m):B6 {b with mode:=v} m:=⟨rm.n,rm.at_,rm.data,rm.AN,rm.A6,rm.tm,rm.DE,rm.VM⟩
def Ŝ(w:BX h bi a o c t G b)(rm:B6 b m):
  ∃h',BL cx 76 [Pt bi 0] h (.tuple []) h'/\BX h' bi a o c t G b.HL/\DC h (Bu bi G) h' (Bu bi G):=by
 have ho:=rm.AN;have I2:Ev cx 76 [Pt bi 0] h λr h'=>r= .tuple []/\BX h' bi a o c t G b.HL/\DC h (Bu bi G) h' (Bu bi G):=by
  unfold Ev;have w1:=w.pH 7;rw[uT];simp only[abS,(Iy w).Ac,w.st (k:=4) (v:=I 7) rfl rfl,(VP w1.sA).Ac,Da (Ab: -9223372036854775808<=(b.AN.length:Int)-1) (Ab:(b.AN.length:Int)-1<9223372036854775808)];refine Bi (λn:Nat=>[I ((n:Int)-1)]) (λn h1=>n<=b.AN.length/\b.LL b.AN.length=b.LL n/\h1=Am.put h bi 4 (I 7)) (λn=>n) b.AN.length rfl ⟨Ag _,rfl,rfl⟩ ?_;rintro n h1 ⟨hn,ha,rfl⟩;cases n with
  |zero=>
   have e:b.HL={b with mode:=7}:=by unfold BS.HL;rw[ha];rfl
   simp only[abS,(Ab:¬(0:Int)<=((0:Nat):Int)-1)];exact⟨_,rfl,rfl,by rw[e];exact w1,Bg⟩
  |succ n=>
   have hlt:n<b.AN.length:=Ab;have i1:((n+1:Nat):Int)-1=(n:Int):=Ab;have g:=YJ w1.sA (n:Int);rw[show Hh ({b with mode:=7}:BS).AN (n:Int)=b.AN[n] from Ih hlt] at g;have r2:∀i:Item,BL cx 190 [Pt bi 0,.agg i.row,I (n:Int)] (Am.put h bi 4 (I 7)) (.tuple [I ((b.Hi i n).getD 7),.bool (b.Hi i n).isSome]) (Am.put h bi 4 (I 7)):=λi=>aHX w1 rm.mode i (k:=n) Dx;have d:=r2 (b.EB n);have HN:∀v,Cv (Am.put h bi 4 (I 7)) 1 (Pt bi 4) (I v)=some (Am.put (Am.put h bi 4 (I 7)) bi 4 (I v)):=λv=>w1.st (k:=4) rfl rfl;have e:b.LL (n+1)=match b.Hi (b.EB n) n with|some m=>m|none=>b.LL n:=rfl
   rw[e] at ha;have Sb:=w1.l9;have hlc:=w1.ś;have Pc:=Da (Ab: -9223372036854775808<=(n:Int)-1) (Ab:(n:Int)-1<9223372036854775808);cases hm:b.Hi (b.EB n) n with
   |none=>
    rw[hm] at d ha;by_cases h0:n=0
    .have Zy:((n:Int)=0)=True:=AQ Ab;cases hf:b.L3 with
     |true=>
      have f:b.EB n=b.ctx:=by unfold BS.EB;rw[Af ⟨h0,hf⟩]
      rw[f] at d;rw[show({b with mode:=7}:BS).L3=true from hf] at Sb;simp only[BD,E9,i1,g.Ac,Sb,hlc,d.Ac,HN,JZ,(Ab:(0:Int)<=(n:Int)),Zy,Pc];exact AK.next n rfl ⟨Ab,ha,rfl⟩ Ab
     |false=>
      have f:b.EB n=b.AN[n]:=by unfold BS.EB;rw[Ad (by simp[hf]),AJ,Al hlt];rfl
      rw[f] at d;rw[show({b with mode:=7}:BS).L3=false from hf] at Sb;simp only[BD,E9,i1,g.Ac,Sb,hlc,d.Ac,HN,JZ,(Ab:(0:Int)<=(n:Int)),Zy,Pc];exact AK.next n rfl ⟨Ab,ha,rfl⟩ Ab
    .have f:b.EB n=b.AN[n]:=by unfold BS.EB;rw[Ad (by simp[h0]),AJ,Al hlt];rfl
     rw[f] at d;have Zy:¬(n:Int)=0:=Ab;simp only[BD,E9,i1,g.Ac,d.Ac,HN,JZ,(Ab:(0:Int)<=(n:Int)),Zy,Pc];exact AK.next n rfl ⟨Ab,ha,rfl⟩ Ab
   |some v=>
    rw[hm] at d ha;have e:b.HL={b with mode:=v}:=by unfold BS.HL;rw[ha]
    have j:BX (Am.put (Am.put h bi 4 (I 7)) bi 4 (I v)) bi a o c t G b.HL:=by rw[e];exact w1.pH v
    by_cases h0:n=0
    .have Zy:((n:Int)=0)=True:=AQ Ab;cases hf:b.L3 with
     |true=>
      have f:b.EB n=b.ctx:=by unfold BS.EB;rw[Af ⟨h0,hf⟩]
      rw[f] at d;rw[show({b with mode:=7}:BS).L3=true from hf] at Sb;simp only[BD,E9,i1,g.Ac,Sb,hlc,d.Ac,HN,JZ,(Ab:(0:Int)<=(n:Int)),Zy];exact⟨_,rfl,rfl,j,Bg.trans Bg⟩
     |false=>
      have f:b.EB n=b.AN[n]:=by unfold BS.EB;rw[Ad (by simp[hf]),AJ,Al hlt];rfl
      rw[f] at d;rw[show({b with mode:=7}:BS).L3=false from hf] at Sb;simp only[BD,E9,i1,g.Ac,Sb,hlc,d.Ac,HN,JZ,(Ab:(0:Int)<=(n:Int)),Zy];exact⟨_,rfl,rfl,j,Bg.trans Bg⟩
    .have f:b.EB n=b.AN[n]:=by unfold BS.EB;rw[Ad (by simp[h0]),AJ,Al hlt];rfl
     rw[f] at d;have Zy:¬(n:Int)=0:=Ab;simp only[BD,E9,i1,g.Ac,d.Ac,HN,JZ,(Ab:(0:Int)<=(n:Int)),Zy];exact⟨_,rfl,rfl,j,Bg.trans Bg⟩
 obtain⟨r,h',hr,rfl,w',x'⟩:=I2.ret;exact⟨h',hr,w',x'⟩
def k_{h0 u:Ah}{V:Aa}{L:List A5}{N:Nat}(j:N=h0.length)(g:Jc (h0++u) V L)(i:Up N V)(hb:L.length<=1000000000)(y:A5):
  ∃f d,Gb (h0++u) 3 40 V (.sl 3 [y.row])=some (h0++f,d)/\Jc (h0++f) d (L++[y])/\Up N d:=by
 subst j;have dU:AX=140737488355328:=rfl;rcases g with⟨rfl,rfl⟩|⟨id,rfl,hc,hl⟩
 .refine⟨u++[.cells (([y]:List A5).map A5.row).flatten],.CF (h0++u).length 0 1 3,by rw[<-AI];rfl,.inr ⟨(h0++u).length,rfl,AH,AH⟩,λid k e=>by injection e with e;rw[<-e,Au];omega⟩
 .have Ie:h0.length<=id:=i id _ rfl;have hg:=JN (b:=40) (AE:=L.map A5.row) (r2:=[y.row]) (v:= .sl 3 [y.row]) (aDA L) AM hc .mk AH (by rw[An];simp;omega);rw[An] at hg;have e:(h0++u).set id .CR++[.cells (L.map A5.row++[y.row]).flatten]=h0++(u.set (id-h0.length) .CR++[.cells ((L++[y]).map A5.row).flatten]):=by rw[BO _ _ Ie,AI,BF];rfl
  rw[e] at hg;have aN:(h0++(u.set (id-h0.length) DA.CR++[.cells ((L++[y]).map A5.row).flatten]))=(h0++u.set (id-h0.length) DA.CR)++[.cells ((L++[y]).map A5.row).flatten]:=by rw[AI]
  have lM:(h0++u.set (id-h0.length) DA.CR).length=(h0++u).length:=AH;refine⟨_,_,hg,.inr ⟨(h0++u).length,AH,?_,?_⟩,λid k e=>by injection e with e;rw[<-e,Au];omega⟩;.rw[aN,<-lM,Bm (Ag _),De];rfl
  .rw[aN];simp only[Au,Bq,A9,BJ];omega
def aHY(y c:A5)(h:Ah):BL cx 192 [.agg c.row,.CH y.row] h (.bool (decide (DF ⟨0,y.name,y.value⟩=DF c))) h:=by
 rw[Ae,gM,A5.row,A5.row];simp only[BD];refine⟨λh1=>?_,λh1=>?_⟩;.congr 2;rw[Dd];simp[DF,h1];exact oa
 .rw[Ap (λe=>h1 (by simp[DF] at e;exact e.1.symm))]
def A5.bP{y:A5}:(⟨0,y.name,y.value⟩:A5).row=[I 0,.str y.name,.str y.value]:=rfl
def Ul(k:Int×Ai):∀{l out:List A5},(Hz out l).any (λz=>decide (k=DF z))=(out++l).any λz=>decide (k=DF z)
 |[],out=>by simp[Hz]
 |y::l,out=>by
  rw[Hz];split
  .rename_i h;rw[Ul k,Vs,Vs,Nx];by_cases hk:k=DF y;.subst hk;rw[h];rfl
   .simp[hk]
  .rw[Ul k,AI];rfl
def yd(k:Int×Ai)(l:List A5):(Cz l).any (λz=>decide (k=DF z))=l.any λz=>decide (k=DF z):=Ul k
def QL{l:List A5}{y:A5}:Cz (l++[y])=if(Cz l).any (λz=>decide (DF y=DF z)) then Cz l else Cz l++[y]:=YO
def aMZ(w:BX h bi a o c t G b)(ok:Ey b)(rm:B6 b (m+1000))(hr:N2 nm av r)(hv:Bt l av)(hl:DL l)(x:Int):
  ∃h' G',BL cx 77 [Pt bi 0,.agg r,I x] h (.tuple []) h'/\BX h' bi a o c t G' (b.Ge l x)/\DC h (Bu bi G) h' (Bu bi G'):=by
 obtain⟨K1,V1,d,B,_,_⟩:=VW w ok rm x;have w1:=w.HJ (u:=d);obtain⟨Y,X,W,U,T,S,Q,P,VH,TK,rfl⟩:=hr;have v:DC h (Bu bi G) (h++d) (Bu bi G):=w.C6;by_cases hk:(b.a.nd x).kind=4;rotate_left;.refine⟨h++d,G,?_,by unfold BS.Ge;rw[Ad hk];exact w1,v⟩;rw[Ae,fB];simp only[abS,↓reduceIte,(Iy w).Ac,B.Ac,BW,hk]
 obtain⟨K2,Z,A,r2,_,f,g⟩:=VW w1 ok rm x;have w2:=w1.HJ (u:=A);have x2:DC h (Bu bi G) (h++d++A) (Bu bi G):=v.trans w1.C6;have hx:b.a.has x:=by
  by_cases hp:b.a.has x;.exact hp
  .rw[HK hp] at hk;simp at hk
 have Wb:=rm.at_ x;have rP:=hl.1;have I2:Ev cx 77 [Pt bi 0,.agg [Y,.str nm,X,W,U,T,S,Q,av,P,VH,TK],I x] h λr h'=>r= .tuple []/\∃G',BX h' bi a o c t G' (b.Ge l x)/\DC h (Bu bi G) h' (Bu bi G'):=by
  unfold Ev;rw[fB];have hvl:=AU.CN hv;simp only[abS,↓reduceIte,(Iy w).Ac,B.Ac,r2.Ac,BW,hk,hvl];refine Bi (λs:Aa×Nat=>[s.1,I (s.2:Int)]) (λs h1=>∃u L,h1=h++d++u/\s.2<=l.length/\Jc h1 s.1 L/\Up (h++d).length s.1/\Cz L=Cz ((b.a.nd x).Ay++BS.plain (l.take s.2))/\(∀y∈L,BS.H8 y.Bc)/\L.length<=(b.a.nd x).Ay.length+s.2) (λs=>l.length-s.2) (Z,0) rfl ⟨A,(b.a.nd x).Ay,rfl,AV _,f,g,?_,?_,AH⟩ ?_;.simp[BS.plain]
  .exact λy hy=>(ok.ok.SZ x hx).C_ y hy
  rintro⟨V,n⟩ h1 ⟨u,L,rfl,hn,f,g,j,hs,En⟩;simp only at hn f g j En;rcases AP n l.length with hlt|Eg
  .have E:=AU.BK (k:= .i64) hv hlt;rw[A5.row] at E;have i:=aA4 f.in_ Ab (F:= .func (.func 192) [] [.CH l[n].row]) (q:=λc=>decide (DF ⟨0,l[n].name,l[n].value⟩=DF c)) ⟨_,_,rfl,AM,λc=>aHY l[n] c _⟩;rw[A5.row] at i;obtain⟨O,V',g1,g2,g3⟩:=k_ (N:=(h++d).length) rfl f g Ab ⟨0,l[n].name,l[n].value⟩;rw[A5.bP] at g1;have em:AD (.Dm 3) [.agg [I 0,.str l[n].name,.str l[n].value]]=some (.sl 3 [[I 0,.str l[n].name,.str l[n].value]]):=rfl;have H:Cz ((b.a.nd x).Ay++BS.plain (l.take (n+1)))=Cz (L++[⟨0,l[n].name,l[n].value⟩]):=by rw[AB hlt,BS.plain,BF,<-AI,aOK,QL,QL,j];rfl
   have D:Cz (L++[⟨0,l[n].name,l[n].value⟩])=if L.any (λz=>decide (DF ⟨0,l[n].name,l[n].value⟩=DF z)) then Cz L else Cz L++[⟨0,l[n].name,l[n].value⟩]:=by rw[QL,yd]
   simp only[abS,Nat.reduceLeDiff,↓reduceIte,AR,(Ab:(n:Int)<(l.length:Int)),E,i.Ac,em,g1,BM (Ab:n<9223372036854775807)];rw[CS];refine⟨λh2=>?_,λh2=>?_⟩
   .refine AK.next (V',n+1) rfl ⟨O,_,rfl,hlt,g2,g3,H.symm,?_,Ei⟩ Dx;intro y hy;rcases Ax.1 hy with hy|hy
    .exact hs y hy
    .simp at hy;subst hy;exact⟨Dx,Dx⟩
   .have h2:(L.any λz=>decide (DF ⟨0,l[n].name,l[n].value⟩=DF z))=true:=by simpa using h2
    rw[Af h2] at D;exact AK.next (V,n+1) rfl ⟨u,L,rfl,hlt,f,g,by rw[H,D],hs,Dx⟩ Dx
  .have OX:n=l.length:=by omega
   subst OX;rw[Bx] at j;simp only[abS,↓reduceIte,(Ab:¬(l.length:Int)<(l.length:Int)),(w1.HJ (u:=u)).l0];obtain⟨C,G3,i,M,J⟩:=(w1.HJ (u:=u)).step (A':=b.a.Jy x L) (R:=λC=>BL cx 193 [Pt a 0,I x,V] (h++d++u) (I 0) C) λn m ps K=>by obtain⟨h',JA,f1,f2,f3⟩:=aHj K rm.Zm hx hk f.in_ Ab hs;exact⟨h',n,m,JA,f1,f2,f3⟩
   have e:b.Ge l x={b with a:=b.a.Jy x L}:=by unfold BS.Ge;rw[Af hk];unfold Ar.Jy;rw[j]
   simp only[BD,i.Ac];refine⟨_,rfl,rfl,G3,?_,?_⟩;.rw[e];exact M
   .exact(v.trans w1.C6).trans J
 obtain⟨r,h',hr,rfl,G',w',x'⟩:=I2.ret;exact⟨h',G',hr,w',x'⟩
end
section
variable{h h':Ah}{bi a:Nat}{o c t:Aa}{G G' F:Nat->Prop}{b b':BS}{x:Int}{m:Nat}
variable{nm:Ai}{av:Aa}{l:List A5}{r:List Aa}{sp p:Int}
def B6.sub(rm:B6 b m)(ha:b'.a=b.a)(ho:b'.AN.Sublist b.AN)(hc:b'.A6.Sublist b.A6)(ht:b'.tm.length<=b.tm.length):B6 b' m:=
 ⟨by rw[ha];exact rm.n,by rw[ha];exact rm.at_,by rw[ha];exact rm.data,by have:=rm.AN;have:=ho.length_le;omega,by have:=rm.A6;have:=hc.length_le;omega,by have:=rm.tm;omega,λe he=>rm.DE e (hc.subset he),λi hi=>rm.VM i (ho.subset hi)⟩
def aDN{v:Aa}{l:List Int}(hv:RT l v)(hb:l.length<=1000000000)(h:Ah):∃u,BL cx 118 [v] h u h/\Ui l u:=by
 have hm:AX=140737488355328:=rfl;have e0:AD (.Gf 1) []=some (.Gf 1):=rfl;rcases hv with hv|⟨rfl,rfl⟩
 .have DJ:AU 1 (l.map Ce) v:=hv;rcases DJ with rfl|⟨rfl,h0⟩
  .cases l with
   |nil=>refine⟨.Gf 1,?_,.inr ⟨rfl,rfl⟩,nofun⟩;rw[Ae,QF];simp only[BD,Dn,show AD (.Ga false .sl) [.sl 1 [],.slnil]=some (.bool false) from rfl,e0,show AD (.append 1 8) [.Gf 1,.sl 1 []]=some (.Gf 1) from rfl]
   |cons x l=>
    have Ru:((x::l).map Ce).length*8<=AX:=by rw[An];omega
    have d:AD (.append 1 8) [.Gf 1,.sl 1 ((x::l).map Ce)]=some (.sl 1 ((x::l).map Ce)):=by simp only[Bl] at Ru⊢;simp only[AD,HY,BN,DO];rw[Af ⟨trivial,Ru⟩]
    refine⟨_,?_,.inl .mk,λe=>by injection e with _ e;simp at e⟩;rw[Ae,QF];simp only[BD,show AD (.Ga false .sl) [.sl 1 ((x::l).map Ce),.slnil]=some (.bool false) from rfl,e0,d]
  .refine⟨.slnil,?_,.inl (.inr ⟨rfl,h0⟩),nofun⟩;rw[Ae,QF];simp only[BD,show AD (.Ga false .sl) [.slnil,.slnil]=some (.bool true) from rfl]
 .refine⟨.Gf 1,?_,.inr ⟨rfl,rfl⟩,nofun⟩;rw[Ae,QF];simp only[BD,show AD (.Ga false .sl) [.Gf 1,.slnil]=some (.bool false) from rfl,e0,show AD (.append 1 8) [.Gf 1,.Gf 1]=some (.Gf 1) from rfl]
def BX.pI{u:Aa}{l:List Int}(w:BX h bi a o c t G b)(hu:Ui l u):BX (Am.put h bi 6 u) bi a o c u G {b with tm:=l}:=w.put rfl rfl w.o hu
def pJ:AD (.Dm 1) [S aUd]=some (.sl 1 ([AZ].map Cr)):=DR (ws:=[AZ]) rfl AM
def aHZ(w:BX h bi a o c t G b)(hc:B2 b.A6 c)(rm:B6 b m):
  ∃h' o' c' t',BL cx 78 [Pt bi 0] h (.tuple []) h'/\BX h' bi a o' c' t' G b.Cx/\B2 b.Cx.A6 c'/\DC h (Bu bi G) h' (Bu bi G):=by
 have ho:=rm.AN;have QE:=rm.A6;have O:=rm.tm;have A:=ŋ w.sA Ab AZ;by_cases FU:AT (Bn [AZ]) b.AN<0;.refine⟨h,o,c,t,?_,by unfold BS.Cx;rw[Af FU];exact w,by unfold BS.Cx;rw[Af FU];exact hc,.refl⟩;rw[Ae,Yz];simp only[abS,(Iy w).Ac,A.Ac,FU]
 obtain⟨y,r2,O9⟩:=aMb w.sO Ab;have w1:=w.HU O9;have l1:(Dq CJ Cu b.AN).length<=b.AN.length:=Qx;obtain⟨f,H,Jh⟩:=f66 w1.sO Dx (Cc (ws:=[AZ])) AM;have D:=w1.HU Jh;obtain⟨fs,Gu,hcs⟩:=hc;have Hp:fs.length=b.A6.length:=by rw[<-Gu,An]
 obtain⟨d,E,ŝ⟩:=f65 (show T5 _ bi 3 fs from⟨c,D.qX,hcs⟩) Ab;have j:=D.Kr (u:=d) (l:=EE b.A6);have Nv:B2 (EE b.A6) d:=⟨_,by rw[QJ,Gu],ŝ⟩;have lt:=w.t.1.len;have l6:=j.l6;have e:b.Cx=BS.HL {b with AN:=Dq Cu (Bn [AZ]) (Dq CJ Cu b.AN),A6:=EE b.A6,tm:=b.tm.dropLast}:=by unfold BS.Cx;rw[Ad FU]
 have sO:(Dq Cu (Bn [AZ]) (Dq CJ Cu b.AN)).Sublist b.AN:=(CT (p:=Cu) (q:=Bn [AZ]) (l:=Dq CJ Cu b.AN)).trans CT;have C:DC h (Bu bi G) (put (put (put h bi 2 y) bi 2 f) bi 3 d) (Bu bi G):=(Bg.trans Bg).trans Bg;by_cases h0:b.tm=[]
 .have v:BX (put (put (put h bi 2 y) bi 2 f) bi 3 d) bi a f d t G {b with AN:=Dq Cu (Bn [AZ]) (Dq CJ Cu b.AN),A6:=EE b.A6,tm:=b.tm.dropLast}:=by
   have:b.tm.dropLast=b.tm:=by rw[h0];rfl
   rw[this];exact j
  obtain⟨Q,z,s,K⟩:=Ŝ v (rm.sub (b':={b with AN:=Dq Cu (Bn [AZ]) (Dq CJ Cu b.AN),A6:=EE b.A6,tm:=b.tm.dropLast}) rfl sO (Df _ _) AH);refine⟨Q,f,d,t,?_,by rw[e];exact s,by rw[e];exact Nv,C.trans K⟩;have B:AD (.len false) [t]=some (I 0):=by rw[lt,h0];rfl
  rw[Ae,Yz];simp only[abS,(Iy w).Ac,A.Ac,FU,r2.Ac,pJ,H.Ac,E.Ac,l6,B,z.Ac,JZ]
 .have hpos:=EH.2 h0;obtain⟨S,R,i⟩:=AU.Ms (w.t.1.ne h0) (k:= .i64) (n:=b.tm.length-1) Ab;rw[<-aFn] at i;obtain⟨M,z,g⟩:=aDN (.inl i) Ei (put (put (put h bi 2 y) bi 2 f) bi 3 d);have s:=j.pI g;obtain⟨P,N,L,J⟩:=Ŝ s (rm.sub (b':={b with AN:=Dq Cu (Bn [AZ]) (Dq CJ Cu b.AN),A6:=EE b.A6,tm:=b.tm.dropLast}) rfl sO (Df _ _) AH);refine⟨P,f,d,M,?_,by rw[e];exact L,by rw[e];exact Nv,(C.trans Bg).trans J⟩;rw[Ae,Yz];simp only[abS,(Iy w).Ac,A.Ac,FU,r2.Ac,pJ,H.Ac,E.Ac,l6,lt,(Ab:(0:Int)<(b.tm.length:Int)),Il hpos (Ab:b.tm.length<9223372036854775807),R,z.Ac,j.st (k:=6) (v0:=t) rfl g.1.cells,N.Ac,JZ]
def aM1(w:BX h bi a o c t G b):∃h',BL cx 79 [Pt bi 0] h (.tuple []) h'/\BX h' bi a o c t G {b with stop:=true}/\DC h (Bu bi G) h' (Bu bi G):=by refine⟨_,?_,w.put (k:=19) (v:= .bool true) rfl rfl w.o w.t,Bg⟩;rw[Ae,uU];simp only[BD,(Iy w).Ac,w.st (k:=19) (v:=tt) rfl rfl]
def aDO(w:BX h bi a o c t G b)(rm:B6 b m):∃h' o',BL cx 82 [Pt bi 2] h (.agg b.oM.row) h'/\BX h' bi a o' c t G b.LR/\DC h (Bu bi G) h' (Bu bi G):=by
 have ho:=rm.AN;have ld:A8 h none (Pt bi 2)=some o:=w.ld 2;have lo:=AU.CN w.o;unfold BS.LR BS.oM;by_cases h2:b.AN.length<2;.refine⟨h,o,?_,by rw[Af h2];exact w,.refl⟩;rw[Af h2,Ae,YA];simp only[abS,↓reduceIte,AR,(VP w.sA).Ac,(Ab:(b.AN.length:Int)<2)];rfl
 .obtain⟨u,e,hu⟩:=AU.Ms w.o (k:= .i64) (n:=b.AN.length-1) Ab;refine⟨_,u,?_,by rw[Ad h2];exact w.HU hu,Bg⟩;rw[Ad h2,Ae,YA];simp only[abS,↓reduceIte,AR,E9,(VP w.sA).Ac,(Ab:¬(b.AN.length:Int)<2),(f39 w.sA Ab).Ac,ld,lo,Il (Ab:0<b.AN.length) (Ab:b.AN.length<9223372036854775807),e,w.st (k:=2) (v0:=o) rfl (AU.cells hu)]
end
def Th{U:Type}(enc:U->List Aa)(D6:U->Ah->Prop)(Z:U->Nat)(i:Nat)(HF:U->Ah->Prop)(s:U):HG:=
 λx vs h1=>(x= .normal/\∃s',vs=enc s'/\D6 s' h1/\Z s'<Z s)\/(x= .exit i/\∃s',vs=enc s'/\HF s' h1)
def Th.next{U:Type}{enc:U->List Aa}{D6 HF:U->Ah->Prop}{Z:U->Nat}{i:Nat}{s:U}{vs:List Aa}{h:Ah}(s':U)(e:vs=enc s')(hi:D6 s' h)(hl:Z s'<Z s):Th enc D6 Z i HF s .normal vs h:= .inl ⟨rfl,s',e,hi,hl⟩
def Th.HF{U:Type}{enc:U->List Aa}{D6 HF:U->Ah->Prop}{Z:U->Nat}{i:Nat}{s:U}{vs:List Aa}{h:Ah}(s':U)(e:vs=enc s')(hi:HF s' h):Th enc D6 Z i HF s (.exit i) vs h:= .inr ⟨rfl,s',e,hi⟩
def DM{C:FY}{Q:HG}{h:Ah}{U:Type}{key i:Nat}{init:List Aa}{body:List Aa->IT}{k:DX->List Aa->IT}(enc:U->List Aa)(D6:U->Ah->Prop)(Z:U->Nat)(HF:U->Ah->Prop)(s0:U)(h0:init=enc s0)(hi:D6 s0 h)
  (round:∀s h,D6 s h->W C (body (enc s)) (Th enc D6 Z i HF s) h) (hk:∀s h,HF s h->W C (k (.exit i) (enc s)) Q h):W C (.loop key init body k) Q h:=by
 refine Bi enc D6 Z s0 h0 hi λs h hs=>W.mono (round s h hs) ?_;rintro x vs h1 (hn|⟨rfl,s',rfl,hf⟩);.exact .inl hn
 .exact .inr ⟨AH,hk s' h1 hf⟩
def bQ{h:Ah}{id z:Nat}{AE:List (List Aa)}(hr:∀r∈AE,r.length=z)(hc:h[id]?=some (.cells AE.flatten)){i:Nat}(hi:i<AE.length):A8 h (some z) (Pt id (i*z))=some (.agg AE[i]):=by
 have hl:i*z+z<=AE.flatten.length:=by rw[FQ hr];have:=DY z (Ab:i+1<=AE.length);rwa [BH,D7] at this
 simp only[A8,hc,M6];rw[Af hl,I3 hr,AG hi,CZ,CL (by rw[hr _ (AL hi)];exact Ag _),AF (by rw[hr _ (AL hi)];exact Ag _)]
section
variable{h h':Ah}{bi a:Nat}{o c t:Aa}{G G' F:Nat->Prop}{b b':BS}{x:Int}{m:Nat}
variable{nm:Ai}{av:Aa}{l:List A5}{r:List Aa}{sp p:Int}
def ye(e:Cl)(h:Ah):∃r,BL cx 182 [.agg e.row] h (.agg r) h/\N2 e.c.name e.v r:=by have hv:e.v.cells=[e.v]:=AU.cells e.ok;refine⟨_,?_,I 2,ff,S [],ff,S [],ff,ff,ff,S [],.int .i32 0,rfl⟩;rw[Ae,gF,Cl.row];simp only[abS,Nat.reduceLeDiff,↓reduceIte,AR,hv]
def bR:∀{l:List Cp} {b:BS} {m:Nat},B6 b (m+4*l.length)->(∀e∈l,e.name.length<=1000/\DL e.Ay)->B6 (BS.Jn l b).2 m
 |[],b,m,r,_=>by simpa[BS.Jn] using r
 |e::l,b,m,r,hl=>by have h1:=hl e AH;rw[BS.Jn];exact bR (Lu (m:=m+4*l.length) (r.le Ei) h1.2 h1.1) λx hx=>hl x (by simp[hx])
def Ti:b.Lt<=b.A6.length:=by unfold BS.Lt;rcases Dl (q:=b.settled) (l:=b.A6) with⟨h,_⟩|⟨n,h1,h2,_⟩<;>omega
structure kQ(h:Ah)(bi a:Nat)(t:Aa)(G0:Nat->Prop)(b:BS)(fs:List Cl)(id m k:Nat)(h1:Ah):Prop where
 le:k<=fs.length
 low:b.Lt<=k
 ex:∃(o:Aa) (G:Nat->Prop) (b1:BS) (H9:List Cl),BX h1 bi a o (.CF id 0 fs.length 3) t G b1/\Ey b1/\B6 b1 (m+4*(fs.length-k))/\h1[id]?=some (.cells (H9.map Cl.row).flatten)/\H9.length=fs.length/\H9.drop k=fs.drop k/\
  BS.CM b={(BS.Jn (b.A6.drop k) b1).2 with A6:=(H9.take k).map (·.c)++(BS.Jn (b.A6.drop k) b1).1}/\¬Bu bi G id/\DC h (Bu bi G0) h1 (Bu bi G)
def BX.kR(w:BX h bi a o c t G {b with A6:=b.A6}):BX h bi a o c t G b:=w
def P8{h1:Ah}{id:Nat}{v v':Aa}(ha:At h id 3 v)(hf:KA h v=some (h1,v'))(he:h1[id]?=h[id]?):Mg h 3 (Pt id 0)=some (Am.put h1 id 3 v'):=by obtain⟨cs,hc,e⟩:=ha;rw[hc] at he;unfold Mg;simp only[hc,BV,e,hf,Cw,he];rw[Io he]
def bw{v:Aa}{l:List Cl}(hv:Dw l v):KA h v=some (h,v):=by rcases hv with rfl|⟨rfl,_⟩<;>rfl
def aH3{v:Aa}(hv:Dw [] v)(h:Ah):∃u,BL cx 181 [v] h u h/\Dw [] u:=by
 have d:=PS (h:=h) (s:= .sl 3 []) (b:=48) (.inr rfl) hv;rcases hv with rfl|⟨rfl,h0⟩
 .refine⟨.sl 3 [],?_,.mk⟩;rw[Ae,S6];simp only[Dn] at d;simp only[BD,Dn,show AD (.Ga false .sl) [.sl 3 [],.slnil]=some (.bool false) from rfl,show AD (.Dm 3) []=some (.sl 3 []) from rfl,d]
 .refine⟨.slnil,?_,.inr ⟨rfl,rfl⟩⟩;rw[Ae,S6];simp only[BD,show AD (.Ga false .sl) [.slnil,.slnil]=some (.bool true) from rfl]
def kQ.init(w:BX h bi a o c t G b)(ok:Ey b)(rm:B6 b (m+4*b.A6.length)){fs:List Cl}(Gu:fs.map (·.c)=b.A6):
  kQ h bi a t G b fs h.length m b.Lt (Am.put (h++[.cells (fs.map Cl.row).flatten]) bi 3 (.CF h.length 0 fs.length 3)):=by
 have Hp:b.A6.length=fs.length:=by rw[<-Gu,An]
 have hk:=Ti (b:=b);have hne:h.length≠bi:=Nat.ne_of_gt w.lt;refine⟨Ab,Ag _,o,G,b,fs,((w.HJ (u:=[.cells (fs.map Cl.row).flatten])).Kr (l:=b.A6)).kR,ok,rm.le Ab,?_,rfl,rfl,?_,?_,w.C6.trans Bg⟩;.rw[Cb hne];simp
 .unfold BS.CM;simp only;rw[Gk,Gu]
 .rintro(rfl|hg);.exact hne rfl
  .exact absurd (w.w.lt hg) (Dr _)
def kQ.step{fs:List Cl}{id k:Nat}{h1:Ah}(Gu:fs.map (·.c)=b.A6)(KE:∀e∈b.A6,e.name.length<=1000/\DL e.Ay)(hi:h.length<=id)(hlt:k<fs.length)(i:kQ h bi a t G b fs id m k h1):
  ∃(r:List Aa) (h2:Ah) (n:Int),A8 h1 none (Pt bi 3)=some (.CF id 0 fs.length 3)/\A8 h1 (some 3) (Pt id (k*3))=some (.agg fs[k].row)/\BL cx 182 [.agg fs[k].row] h1 (.agg r) h1/\BL cx 65 [Pt bi 0,.agg r] h1 (I n) h2/\A8 h2 none (Pt bi 3)=some (.CF id 0 fs.length 3)/\
   Cv h2 1 (Pt id (k*3)) (I n)=some (Am.put h2 id (k*3) (I n))/\kQ h bi a t G b fs id m (k+1) (Am.put h2 id (k*3) (I n)):=by
 obtain⟨D,E,b1,H9,w1,VV,vK,R7,Wl,eS,la,Nn,g⟩:=i.ex;have RU:k<H9.length:=Ab;have Hp:b.A6.length=fs.length:=by rw[<-Gu,An]
 have yf:k<b.A6.length:=Ab;have q:H9[k]=fs[k]:=by have:=Ca (λl=>l[0]?) eS;simp only[Ct,Bv] at this;rw[Al RU,Al hlt] at this;exact D5 this
 have y:b.A6[k]=fs[k].c:=by simp only[<-Gu,C1]
 have f:=bQ (OD H9) R7 (i:=k) (by simpa using RU);rw[C1,q] at f;have KE:=KE fs[k].c (by rw[<-y];exact AL yf);obtain⟨r,A,hr⟩:=ye fs[k] h1;obtain⟨h2,B,z,r2,w,d⟩:=xz (m:=m+4*(fs.length-(k+1))) w1 VV.ba (vK.le Ab) hr fs[k].ok KE.2 KE.1;have gj:id<h1.length:=(Ak.1 R7).1;have I0:h2[id]?=some (.cells (H9.map Cl.row).flatten):=by rw[d.old id gj Nn];exact R7
 have TI:¬Bu bi z id:=λhg=>by
  rcases d.Bu id hg with hg|hg
  .exact Nn hg
  .omega
 have u:At h2 id (k*3) (I fs[k].c.node):=⟨_,I0,by have:=Lw (k:=0) (OD H9) AM (i:=k) (r:=fs[k].row) (by rw[Cm,Al RU,q];rfl);rw[Bv] at this;rw[this];rfl⟩
 let s:Cl:=⟨{fs[k].c with node:=b1.a.len+1},fs[k].v,fs[k].ok⟩
 have hrow:(H9.map Cl.row).flatten.set (k*3) (I (b1.a.len+1))=((H9.set k s).map Cl.row).flatten:=by have:=N1 (AE:=H9.map Cl.row) (i:=k) (k:=0) (v:= I (b1.a.len+1)) (OD H9) (by simpa using RU) AM;rw[Bv] at this;rw[Eo,BZ,Af (by rw[FQ (OD H9),An];omega)];rw[AI] at this;rw[show s.row=((H9.map Cl.row)[k]'(by simpa using RU)).set 0 (I (b1.a.len+1)) by rw[C1,q];rfl];exact this
 have C:id≠bi:=λe=>TI (.inl e);refine⟨r,h2,b1.a.len+1,w1.l3,f,A,r2,w.l3,u.store rfl,⟨hlt,by have:=i.low;omega,B,z,_,H9.set k s,w.Dj λj hj=>Cb λe=>TI (e▸hj),P6 VV,Lu (m:=m+4*(fs.length-(k+1))) (vK.le Ab) KE.2 KE.1,?_,by rw[Bq];exact Wl,?_,?_,TI,⟨by rw[I7];exact(g.trans d).len,λj hj hn=>(Cb Ab).trans ((g.trans d).old j hj hn),(g.trans d).Bu⟩⟩⟩;.rw[Io I0,AO (by have:=d.len;omega),hrow]
 .rw[ZU (Nu k)];have:=Ca (λl=>l.drop 1) eS;simpa[Ek] using this
 .rw[la,AG yf,y,BS.Jn];simp only
  congr 1
  rw[AB (by rw[Bq];exact RU),aFo,BF,O5 (Ag k),AI];rfl
def aH5(w:BX h bi a o c t G b)(hc:B2 b.A6 c)(ok:Ey b)(rm:B6 b (m+4*b.A6.length)):
  ∃h' o' c' G',BL cx 73 [Pt bi 0] h (.tuple []) h'/\BX h' bi a o' c' t G' b.CM/\B2 b.CM.A6 c'/\DC h (Bu bi G) h' (Bu bi G'):=by
 have ho:=rm.AN;have QE:=rm.A6;obtain⟨fs,Gu,hcs⟩:=hc;have Hp:b.A6.length=fs.length:=by rw[<-Gu,An]
 have I2:Ev cx 73 [Pt bi 0] h λr h'=>r= .tuple []/\∃o' c' G',BX h' bi a o' c' t G' b.CM/\B2 b.CM.A6 c'/\DC h (Bu bi G) h' (Bu bi G'):=by
  unfold Ev;have l3:=w.l3;have lc:=AU.CN hcs;rw[uR];simp only[abS,(Iy w).Ac,l3,lc];refine DM (i:=0) (λn:Nat=>[I (n:Int)]) (λn h1=>n<=fs.length/\AT b.settled b.A6=AT b.settled (b.A6.take n)/\h1=h) (λn=>n) (λn h1=>n=b.Lt/\h1=h) fs.length rfl ⟨Ag _,by rw[<-Hp,Bx],rfl⟩ ?_ ?_
  .rintro n h1 ⟨hn,ha,rfl⟩;cases n with
   |zero=>simp only[abS,(AM:¬(0:Int)<((0:Nat):Int))];refine .HF 0 rfl ⟨?_,rfl⟩;unfold BS.Lt;rw[ha];rfl
   |succ n=>
    have hlt:n<b.A6.length:=Ab;have Tc:n<fs.length:=Ab;rw[GR hlt] at ha;have i1:=Il (n:=n+1) (Ab:0<n+1) (Ab:n+1<9223372036854775807);rw[E8] at i1;have d:=AU.BK (k:= .i64) hcs Tc;have en:fs[n].c.node=b.A6[n].node:=by simp only[<-Gu,C1]
    have f:=ZN w.sA Ab b.A6[n].node;have g:b.settled b.A6[n]=true->n+1=b.Lt:=by intro hs;rw[Af hs] at ha;unfold BS.Lt;rw[ha];omega
    rw[Cl.row,en] at d;simp only[abS,(Ab:(0:Int)<((n+1:Nat):Int)),l3,i1,d,f.Ac,BW];refine⟨λh1=>⟨λh2=>?_,λh2=>?_⟩,λh1=>?_⟩
    .have hs:b.settled b.A6[n]=false:=by unfold BS.settled;rw[Ap];omega
     rw[Ad (by rw[hs];decide)] at ha;exact .next n rfl ⟨Ab,ha,rfl⟩ Ab
    .exact .HF (n+1) rfl ⟨g (by unfold BS.settled;rw[As];omega),rfl⟩
    .exact .HF (n+1) rfl ⟨g (by unfold BS.settled;rw[As];omega),rfl⟩
  .rintro n h1 ⟨rfl,O⟩;rw[O];by_cases hne:fs=[]
   .subst hne;have ha:b.A6=[]:=Gu.symm;have g:b.Lt=0:=by have:=Ti (b:=b);rw[ha] at this;exact Nat.le_zero.1 this
    have hb:b.CM=b:=by unfold BS.CM;rw[ha];simp only[aAc,BS.Jn,aAd,BR];rw[<-ha]
    obtain⟨u,f,hu⟩:=aH3 hcs h;have w1:=(w.Kr (u:=u) (l:=b.A6)).kR;have d:=P8 w1.qX (bw hu) rfl;have B:=AU.CN hu;have y:=w1.l3;rw[BJ] at B;have hz:(b.Lt:Int)=((0:Nat):Int):=by rw[g]
    simp only[abS,l3,f.Ac,w.st (k:=3) (v0:=c) rfl (AU.cells hu)];refine DM (i:=2) (λn:Nat=>[I (n:Int)]) (λn h1=>n=0/\h1=Am.put h bi 3 u) (λn=>n) (λn h1=>n=0/\h1=Am.put h bi 3 u) 0 (by rw[hz]) ⟨rfl,rfl⟩ ?_ ?_;.rintro n h1 ⟨rfl,rfl⟩;simp only[abS,y,B,(AM:¬((0:Nat):Int)<((0:Nat):Int))];exact .HF 0 rfl ⟨rfl,rfl⟩
    .rintro n h1 ⟨rfl,rfl⟩;simp only[BD,d];refine⟨_,rfl,rfl,o,u,G,?_,⟨[],by rw[hb,ha];rfl,hu⟩,Bg.trans Bg⟩;rw[hb];exact(w1.Kr (l:=b.A6)).kR
   .have i0:=kQ.init (m:=m) w ok rm Gu;have f:=aDz (h:=h) hcs hne Ab;have w0:=w.HJ (u:=[.cells (fs.map Cl.row).flatten]);simp only[abS,l3,f.Ac,w0.st (k:=3) (v:= .CF h.length 0 fs.length 3) (v0:=c) rfl rfl];refine DM (i:=2) (λn:Nat=>[I (n:Int)]) (λk h1=>kQ h bi a t G b fs h.length m k h1) (λk=>fs.length-k) (λk h1=>k=fs.length/\kQ h bi a t G b fs h.length m k h1) b.Lt rfl i0 ?_ ?_
    .intro k h1 i;have En:=i.le;have C:AD (.len false) [.CF h.length 0 fs.length 3]=some (I (fs.length:Int)):=rfl;rcases AP k fs.length with hlt|Eg
     .obtain⟨r,h2,n,N,M,L,K,J,H,E⟩:=kQ.step Gu rm.DE (Ag _) hlt i;have d:AD (.Fl 3) [.CF h.length 0 fs.length 3,I (k:Int)]=some (Pt h.length (k*3)):=EY hlt;simp only[abS,N,C,(Ab:(k:Int)<(fs.length:Int)),d,M,L.Ac,BI,K.Ac,J,H,BM (Ab:k<9223372036854775807)];exact .next (k+1) rfl E Ab
     .obtain⟨s,A,b1,H9,w1,_⟩:=i.ex;simp only[abS,w1.l3,C,(Ab:¬(k:Int)<(fs.length:Int))];exact .HF k rfl ⟨Ab,i⟩
    .rintro k h1 ⟨rfl,i⟩;obtain⟨s,A,b1,H9,w1,VV,vK,R7,Wl,eS,la,Nn,q⟩:=i.ex;have hf:=J0 (OD H9) R7;rw[An,Wl] at hf;have z:h.length≠bi:=λe=>Nn (.inl e);have d:=P8 w1.qX hf (by rw[Ao z]);have D:BX (h1.set h.length .CR) bi a s _ t A b1:=w1.Dj λj hj=>Ao λe=>Nn (by rw[e];exact hj);simp only[BD,d];have hb:b.CM={b1 with A6:=H9.map (·.c)}:=by rw[la,AW Ab,AF Ab];simp only[BS.Jn,By]
     refine⟨_,rfl,rfl,s,_,A,by rw[hb];exact D.Kr,⟨H9,by rw[hb],.mk⟩,?_⟩;refine DC.trans ⟨by rw[Bq];exact q.len,λj hj hn=>?_,q.Bu⟩ Bg;rw[Ao Ab];exact q.old j hj hn
 obtain⟨r,h',hr,rfl,o',c',G',w',Jm,x'⟩:=I2.ret;exact⟨h',o',c',G',hr,w',Jm,x'⟩
end
def Ş{id l k:Nat}(hl:0<l)(hk:k<=l):AD (.K0 3 false false true) [.CF id 0 l 3,I (k:Int)]=some (.CF id 0 k 3):=by
 have d:Fm (k:Int) l=some k:=by unfold Fm;rw[Af Ab];rfl
 simp[AD,Kd,Ed,d];omega
def ş{id l k:Nat}(hk:k<=l):AD (.K0 3 false true false) [.CF id 0 l 3,I (k:Int)]=some (if k<l then .CF id (k*3) (l-k) 3 else .sl 3 []):=by
 have d:Fm (k:Int) l=some k:=by unfold Fm;rw[Af Ab];rfl
 simp[AD,Kd,Ed,d];split<;>rfl
def Hj{U:Type}{l:List U}{k:Nat}(hk:k<l.length):(Bf l k).length=l.length-1:=by unfold Bf;rw[Au,Aw,Bd];omega
def aH6{h:Ah}{id k:Nat}{AE:List (List Aa)}(hr:∀r∈AE,r.length=3)(hc:h[id]?=some (.cells AE.flatten))(hk:k<AE.length)(hb:AE.length<=1000000000):
  ∃GY,BL cx 405 [.CF id 0 AE.length 3,I (k:Int),I ((k+1:Nat):Int)] h (.CF id 0 (AE.length-1) 3) (h.set id (.cells ((Bf AE k).flatten++GY))):=by
 have Ie:=(Ak.1 hc).1;have w:=Hj hk;have Sb:=FQ hr;have v:∀r∈Bf AE k,r.length=3:=λr hm=>hr r (by
  unfold Bf at hm;rcases Ax.1 hm with hm|hm
  .exact Bp hm
  .exact Bw hm)
 have xM:=FQ v;rw[w] at xM;have UL:(AE.take k).flatten=AE.flatten.take (k*3):=(aX hr).symm;have f:(AE.drop (k+1)).flatten=AE.flatten.drop ((k+1)*3):=(I3 hr).symm;obtain⟨SE,A,hcl⟩:∃SE,Gb h 3 48 (.CF id 0 k 3) (if k+1<AE.length then .CF id ((k+1)*3) (AE.length-(k+1)) 3 else .sl 3 [])=some (h.set id (.cells ((Bf AE k).flatten++SE)),.CF id 0 (AE.length-1) 3)/\SE.length=3:=by
  have j:GZ h 3 (if k+1<AE.length then .CF id ((k+1)*3) (AE.length-(k+1)) 3 else .sl 3 [])=some (AE.drop (k+1)):=by
   by_cases Ql:k+1<AE.length;.rw[Af Ql];have s:=aY hr (n:=AE.length-(k+1)) (off:=k+1) Ab;rw[AF (by rw[Bd];exact Ag _)] at s;simp only[GZ,BN,hc,s];rw[Af (by rw[Sb];omega)]
   .rw[Ad Ql,AW Ab];rfl
  by_cases xm:k+1=AE.length
  .refine⟨AE.flatten.drop (k*3),?_,by rw[Bd,Sb];omega⟩;have q:AE.drop (k+1)=[]:=AW Ab;rw[q] at j;have z:(Bf AE k).flatten++AE.flatten.drop (k*3)=AE.flatten:=by unfold Bf;rw[q,By,UL,CG]
   have D:h.set id (.cells ((Bf AE k).flatten++AE.flatten.drop (k*3)))=h:=by rw[z];obtain⟨aN,C⟩:=Ak.1 hc;rw[<-C,JR]
   simp only[Gb,j,BN];rw[D,(Ab:AE.length-1=k)]
  .obtain⟨y,u,hd⟩:∃y u,AE.drop (k+1)=y::u:=⟨_,_,AG (Ab:k+1<AE.length)⟩;have bn:(y::u).length=AE.length-(k+1):=by rw[<-hd,Bd]
   refine⟨AE.flatten.drop ((AE.length-1)*3),?_,by rw[Bd,Sb];omega⟩;rw[hd] at j;simp only[Gb,j,hc,BN];rw[bn,Af (by rw[Sb];omega)];rw[<-hd,f,BV,BV,(Ab:k+(AE.length-(k+1))=AE.length-1)];unfold Bf;rw[KW,UL,f]
 generalize d:h.set id (.cells ((Bf AE k).flatten++SE))=h2 at A;have I0:h2[id]?=some (.cells ((Bf AE k).flatten++SE)):=by rw[<-d];exact AO Ie
 have vG:((Bf AE k).flatten++SE).length=AE.length*3:=by rw[Au,xM,hcl];omega
 have q:E3 (.et 3 true true) h2 [.CF id 0 (AE.length-1) 3,I ((AE.length-1:Nat):Int),I (AE.length:Int)]=some (h2,.CF id ((AE.length-1)*3) 1 3):=by
  simp only[E3,lU,I0];have E:Fm (AE.length:Int) ((((Bf AE k).flatten++SE).length-0)/3)=some AE.length:=by unfold Fm;rw[Af (by rw[vG];omega)];rfl
  have s:Fm ((AE.length-1:Nat):Int) AE.length=some (AE.length-1):=by unfold Fm;rw[Af Ab];rfl
  rw[Af ⟨trivial,trivial,AV _⟩];simp only[Ed,E,s,Cw,B0];rw[Af (by rw[vG];omega)];congr 3
  .omega
  .omega
 have B:E3 (.clear 3 [I 0,S [],.slnil]) h2 [.CF id ((AE.length-1)*3) 1 3]=some (h.set id (.cells ((Bf AE k).flatten++[I 0,S [],.slnil])),.bool true):=by
  simp only[E3,WZ,I0];rw[Af ⟨trivial,rfl,by rw[vG];omega⟩];congr 2
  rw[<-d,aEH];congr 2
  rw[HX xM,AW (by rw[vG];omega)];simp
 refine⟨[I 0,S [],.slnil],?_⟩;have g:∀i n,AD (.len false) [.CF i 0 n 3]=some (I (n:Int)):=λ_ _=>rfl;have z:E3 (.rB 3) h [.CF id 0 AE.length 3,I (k:Int),I ((k+1:Nat):Int),I (AE.length:Int)]=some (h,.bool true):=by simp only[E3,W0];simp;omega
 rw[Ae,j0];simp only[abS,g,z,(Ab:¬(k:Int)=((k+1:Nat):Int)),Ş (id:=id) (Ab:0<AE.length) (Ab:k<=AE.length),ş (id:=id) (Ab:k+1<=AE.length),A,q,B]
def Tj{z:Nat}:∀{AE:List (List Aa)} {cs Zx:List Aa},(∀r∈AE,r.length=z)->CA (Zx++(AE.flatten++cs)) z Zx.length AE.length=AE
 |[],_,_,_=>rfl
 |x::AE,cs,Zx,h=>by have hx:=h x AH;have:=Tj (AE:=AE) (cs:=cs) (Zx:=Zx++x) (λr hr=>h r (by simp[hr]));simp only[AI,Au,hx] at this;simp only[CZ,A9,CA,AI];rw[JC rfl,HX hx,this]
def vL{h:Ah}{id z:Nat}{AE:List (List Aa)}{cs:List Aa}(hr:∀r∈AE,r.length=z)(hc:h[id]?=some (.cells (AE.flatten++cs))):KA h (.CF id 0 AE.length z)=some (h.set id .CR,.sl z AE):=by unfold KA;simp only[hc,BV];have:=Tj (cs:=cs) (Zx:=[]) hr;simp only[BR,BJ] at this;rw[Af (by rw[Au,FQ hr];omega),this]
def FL(e:Cl)(at_ mk:Int)(anc far:Item)(last:Int):List Aa:=
 [I e.c.node,.str e.c.name,e.v,I at_,I mk,I anc.node,I anc.Bc,.str anc.name,.bool anc.O2,I far.node,I far.Bc,.str far.name,.bool far.O2,I last]
def MV(ai bi:Nat)(G:Nat->Prop):Nat->Prop:=λi=>i=ai\/Bu bi G i
section
variable{h h':Ah}{bi a ai:Nat}{o c t:Aa}{G G' F:Nat->Prop}{b b':BS}{x:Int}{m:Nat}
variable{nm:Ai}{av:Aa}{l:List A5}{r:List Aa}{sp p:Int}{e:Cl}{at_ mk last:Int}{anc far:Item}
def EV(x:DC h (Bu bi G) h' (Bu bi G'))(ai:Nat):DC h (MV ai bi G) h' (MV ai bi G'):=
 ⟨x.len,λi hi hn=>x.old i hi λhg=>hn (.inr hg),λi hi=>by
  rcases hi with hi|hi
  .exact .inl (.inl hi)
  .rcases x.Bu i hi with h|h
   .exact .inl (.inr h)
   .exact .inr h⟩
def P9{k:Nat}{v:Aa}:DC h (Am.MV ai bi G) (put h ai k v) (Am.MV ai bi G):=⟨by rw[I7];exact Ag _,λi _ hn=>Cb λe=>hn (.inl e),λ_ h=> .inl h⟩
def HB{id k:Nat}{v:Aa}{cs:List Aa}(hc:h[id]?=some (.cells cs)):(put h id k v)[id]?=some (.cells (cs.set k v)):=by rw[Io hc,AO (Ak.1 hc).1]
def down(k:Nat)(x:Int):Int:=if(k:Int)<x then x-1 else x
def bz(w:BX h bi a o c t G b)(hc:B2 b.A6 c)(rm:B6 b m)(ha:h[ai]?=some (.cells (FL e at_ mk anc far last)))(hn:¬Bu bi G ai){k:Nat}(hk:k<b.A6.length)(h1:0<=at_/\at_<=1000000000)(h2:0<=mk/\mk<=1000000000):
  ∃h' c',BL cx 331 [Pt ai 0,Pt bi 0,I (k:Int)] h (.tuple []) h'/\BX h' bi a o c' t G {b with A6:=Bf b.A6 k}/\B2 (Bf b.A6 k) c'/\h'[ai]?=some (.cells (FL e (down k at_) (down k mk) anc far last))/\DC h (MV ai bi G) h' (MV ai bi G):=by
 obtain⟨fs,Gu,hcs⟩:=hc;have QE:=rm.A6;have Hp:b.A6.length=fs.length:=by rw[<-Gu,An]
 have hne:fs≠[]:=by intro e;rw[Hp,e] at hk;exact absurd hk (Nat.not_lt_zero _)
 have Zl:ai≠bi:=λe=>hn (.inl e);have z:ai<h.length:=(Ak.1 ha).1;have C:=aDz (h:=h) hcs hne Ab;have hX:(h++[DA.cells (fs.map Cl.row).flatten])[h.length]?=some (.cells (fs.map Cl.row).flatten):=AH;obtain⟨GY,r2⟩:=aH6 (OD fs) hX (k:=k) Ei Ei;rw[An] at r2;have e2:(h++[DA.cells (fs.map Cl.row).flatten]).set h.length (.cells ((Bf (fs.map Cl.row) k).flatten++GY))=h++[.cells ((Bf (fs.map Cl.row) k).flatten++GY)]:=by rw[BO _ _ (Ag _),De];rfl
 rw[e2] at r2;generalize A:h++[DA.cells ((Bf (fs.map Cl.row) k).flatten++GY)]=H at r2;have w1:BX H bi a o c t G b:=by rw[<-A];exact w.HJ
 have ZB:H[ai]?=some (.cells (FL e at_ mk anc far last)):=by rw[<-A,Aj z];exact ha
 have Q:H[h.length]?=some (.cells ((Bf (fs.map Cl.row) k).flatten++GY)):=by rw[<-A];simp
 have hL:H.length=h.length+1:=by rw[<-A];simp
 have Z:DC h (MV ai bi G) H (MV ai bi G):=by rw[<-A];exact EV w.C6 ai
 have s:bi≠h.length:=Pj w.lt;have Wb:ai≠h.length:=Pj z;have B:=w1.st (k:=3) (v:= .CF h.length 0 (fs.length-1) 3) (v0:=c) rfl rfl;have w2:=w1.Kr (u:= .CF h.length 0 (fs.length-1) 3) (l:=b.A6);have Pb:(put H bi 3 (.CF h.length 0 (fs.length-1) 3))[ai]?=some (.cells (FL e at_ mk anc far last)):=by rw[Cb Zl];exact ZB
 have P:(put H bi 3 (.CF h.length 0 (fs.length-1) 3))[h.length]?=some (.cells ((Bf (fs.map Cl.row) k).flatten++GY)):=by rw[Cb (DG s)];exact Q
 have Y:DC h (MV ai bi G) (put H bi 3 (.CF h.length 0 (fs.length-1) 3)) (MV ai bi G):=Z.trans (EV Bg ai);generalize R:put H bi 3 (.CF h.length 0 (fs.length-1) 3)=f at*;have hL2:f.length=h.length+1:=by rw[<-R,I7,hL]
 have t3:At f ai 3 (I at_):=⟨_,Pb,rfl⟩;have sQ:=HB (k:=3) (v:= I (down k at_)) Pb;have E:put f ai 3 (I (down k at_))=if(k:Int)<at_ then put f ai 3 (I (at_-1)) else f:=by
  unfold down;split;.rfl
  .exact t3.same
 have w3:BX (put f ai 3 (I (down k at_))) bi a o _ t G _:=w2.Dj λj hj=>Cb λe=>hn (e▸hj);have O:(put f ai 3 (I (down k at_)))[h.length]?=_:=(Cb (DG Wb)).trans P;have X:=Y.trans (P9 (k:=3) (v:= I (down k at_)));generalize hH3:put f ai 3 (I (down k at_))=d at*;have t4:At d ai 4 (I mk):=⟨_,sQ,rfl⟩;have M:=HB (k:=4) (v:= I (down k mk)) sQ;have q:put d ai 4 (I (down k mk))=if(k:Int)<mk then put d ai 4 (I (mk-1)) else d:=by
  unfold down;split;.rfl
  .exact t4.same
 have T:BX (put d ai 4 (I (down k mk))) bi a o _ t G _:=w3.Dj λj hj=>Cb λe=>hn (e▸hj);have N:(put d ai 4 (I (down k mk)))[h.length]?=_:=(Cb (DG Wb)).trans O;have J:=X.trans (P9 (k:=4) (v:= I (down k mk)));generalize hH4:put d ai 4 (I (down k mk))=S at*;have L:∀r∈Bf (fs.map Cl.row) k,r.length=3:=λr hm=>OD fs r (by
  unfold Bf at hm;rcases Ax.1 hm with hm|hm
  .exact Bp hm
  .exact Bw hm)
 have f4:=vL L N;rw[Hj Ei,An] at f4;have D:=P8 T.qX f4 (by rw[Ao (DG s)]);have w5:BX (S.set h.length .CR) bi a o _ t G {b with A6:=b.A6}:=T.Dj λj hj=>Ao λe=>by
  subst e;rcases hj with hj|hj
  .exact s hj.symm
  .exact absurd (w.w.lt hj) (Dr _)
 have ed:Bf (fs.map Cl.row) k=(Bf fs k).map Cl.row:=by unfold Bf;rw[BF,Gk,JG]
 have ec:(Bf fs k).map (·.c)=Bf b.A6 k:=by unfold Bf;rw[BF,Gk,JG,Gu]
 refine⟨_,.sl 3 (Bf (fs.map Cl.row) k),?_,w5.Kr (l:=Bf b.A6 k),⟨Bf fs k,ec,by rw[ed];exact .mk⟩,?_,?_⟩
 .have i:A8 f none (Pt ai 3)=some (I at_):=t3.load;have g:A8 d none (Pt ai 4)=some (I mk):=t4.load;have inc:=BM (Ab:k<9223372036854775807);have W:=Da (Ab: -9223372036854775808<=at_-1) (Ab:at_-1<9223372036854775808);have V:=Da (Ab: -9223372036854775808<=mk-1) (Ab:mk-1<9223372036854775808);rw[Ae,iZ];by_cases y:(k:Int)<at_
  .rw[Af y] at E;have U:Cv f 1 (Pt ai 3) (I (at_-1))=some d:=by rw[E];exact t3.store rfl
   by_cases n:(k:Int)<mk
   .rw[Af n] at q;have K:Cv d 1 (Pt ai 4) (I (mk-1))=some S:=by rw[q];exact t4.store rfl
    simp only[abS,w.l3,C.Ac,inc,r2.Ac,B,i,y,W,U,g,n,V,K,D]
   .rw[Ad n] at q;subst q;simp only[abS,w.l3,C.Ac,inc,r2.Ac,B,i,y,W,U,g,n,D]
  .rw[Ad y] at E;subst E;by_cases n:(k:Int)<mk
   .rw[Af n] at q;have K:Cv d 1 (Pt ai 4) (I (mk-1))=some S:=by rw[q];exact t4.store rfl
    simp only[abS,w.l3,C.Ac,inc,r2.Ac,B,i,y,g,n,V,K,D]
   .rw[Ad n] at q;subst q;simp only[abS,w.l3,C.Ac,inc,r2.Ac,B,i,y,g,n,D]
 .rw[Cb Zl,Ao (DG Wb),M];rfl
 .refine DC.trans ⟨by rw[Bq];exact J.len,λj hj hn=>?_,J.Bu⟩ (EV Bg ai);rw[Ao Ab];exact J.old j hj hn
end
section
variable{U:Type}{q:U->Bool}{l:List U}
def Mz{p:Nat}(hp:p<l.length)(h1:q l[p]=true)(h2:∀j (hj:j<l.length),p<j->q l[j]=false):AT q l=(p:Int):=by
 rcases Dl (q:=q) (l:=l) with⟨e,h⟩|⟨n,hn,e,d,f⟩
 .rw[h _ (AL hp)] at h1;exact absurd h1 AM
 .rcases Nat.lt_trichotomy n p with h|h|h
  .have:=f p hp h;rw[this] at h1;exact absurd h1 AM
  .rw[e,h]
  .have:=h2 n hn h;rw[this] at d;exact absurd d AM
def IM{p:Nat}(e:AT q l=(p:Int)):∃hp:p<l.length,q l[p]=true/\∀j (hj:j<l.length),p<j->q l[j]=false:=by
 rcases Dl (q:=q) (l:=l) with⟨g,h⟩|⟨n,hn,g,f,d⟩
 .omega
 .have:n=p:=by omega
  subst this;exact⟨hn,f,λj hj h=>d j hj h⟩
def pK{k j:Nat}(hk:k<l.length):(Bf l k)[j]?=if j<k then l[j]? else l[j+1]?:=by
 unfold Bf;by_cases h:j<k;.rw[Af h,Aj (by rw[Aw];omega),Ci,Af h]
 .rw[Ad h,Bm (by rw[Aw];omega),Ct];congr 1
  rw[Aw];omega
def OL{k j:Nat}(hk:k<l.length)(hj:j<(Bf l k).length):(Bf l k)[j]=if h:j<k then l[j]'(by omega) else l[j+1]'(by rw[Hj hk] at hj;omega):=by
 have hl:=Hj hk;have:=pK (j:=j) hk;rw[Al hj] at this;by_cases h:j<k;.rw[qN h];rw[Af h,Al Ab] at this;exact D5 this
 .rw[dif_neg h];rw[Ad h,Al Ab] at this;exact D5 this
def kS{p k:Nat}(e:AT q l=(p:Int))(hk:k<l.length)(hne:k≠p):AT q (Bf l k)=down k p:=by
 obtain⟨hp,h1,h2⟩:=IM e;have hl:=Hj hk;unfold down;by_cases d:k<p
 .rw[Af Ab,(Ab:(p:Int)-1=((p-1:Nat):Int))];refine Mz Ab ?_ ?_;.rw[OL hk,dif_neg Ab];have:p-1+1=p:=Ab;simp only[this,h1]
  .intro j hj h;rw[OL hk,dif_neg Ab];exact h2 _ _ Ab
 .rw[Ad Ab];refine Mz Ab ?_ ?_;.rw[OL hk,qN Ab];exact h1
  .intro j hj h;rw[OL hk];split;.exact h2 _ _ h
   .exact h2 _ _ Ab
def pL{p k:Nat}{x:U}(e:AT q l=(p:Int))(hne:k≠p)(hx:q x=false):AT q (l.set k x)=(p:Int):=by
 obtain⟨hp,h1,h2⟩:=IM e;refine Mz (by rw[Bq];exact hp) ?_ ?_;.rw[List.getElem_set_ne hne];exact h1
 .intro j hj h;rw[List.getElem_set];split;.exact hx
  .rw[Bq] at hj;exact h2 j hj h
end
def kT{l:List Item}(hn:(l.map Item.node).Nodup){i:Nat}(hi:i<l.length):AT (Br l[i].node) l=(i:Int):=by
 refine Mz hi (by simp[Br]) λj hj h=>?_;by_cases he:l[i].node=l[j].node
 .have h2:(l.map Item.node)[i]'(by simpa using hi)=(l.map Item.node)[j]'(by simpa using hj):=by simpa using he
  exact absurd h2 (List.pairwise_iff_getElem.1 hn i j (by simpa using hi) (by simpa using hj) h)
 .unfold Br;simpa using λe=>he e.symm
def HC{n:Int}{l:List Cp}(h:0<=Fe n l):∃p:Nat,∃hp:p<l.length,Fe n l=(p:Int)/\n≠0/\l[p].node=n/\AT (Yo n) l=(p:Int):=by
 unfold Fe at h⊢;split at h;.omega
 .rename_i h0;rw[Ad h0];obtain⟨p,hp⟩:∃p:Nat,AT (Yo n) l=(p:Int):=⟨_,(GX h).symm⟩;obtain⟨h1,h2,_⟩:=IM hp;exact⟨p,h1,hp,h0,by simpa[Yo] using h2,hp⟩
def bS{n:Int}{l:List Cp}{k:Nat}(h:0<=Fe n l)(hk:k<l.length)(hne:l[k].node≠n):Fe n (Bf l k)=down k (Fe n l):=by obtain⟨p,hp,e,h0,h1,h2⟩:=HC h;rw[e,<-kS h2 hk (by rintro rfl;exact hne h1)];unfold Fe;rw[Ad h0]
def pM{n:Int}{l:List Cp}{k:Nat}{x:Cp}(h:0<=Fe n l)(hk:k<l.length)(hne:l[k].node≠n)(hx:x.node≠n):Fe n (l.set k x)=Fe n l:=by obtain⟨p,hp,e,h0,h1,h2⟩:=HC h;rw[e,<-pL (x:=x) (k:=k) h2 (by rintro rfl;exact hne h1) (by simp[Yo];exact hx)];unfold Fe;rw[Ad h0]
def lf{n:Int}{l:List Cp}(hn:((l.map Cp.node).filter λn=>decide (n≠0)).Nodup)(h:0<=Fe n l):Fe n (Bf l (Fe n l).toNat)<0:=by
 obtain⟨p,hp,e,h0,h1,h2⟩:=HC h;rw[e,AY];refine Int.not_le.1 λi=>?_;obtain⟨g,f,j,_,d,_⟩:=HC i;have:l=l.take p++l[p]::l.drop (p+1):=by rw[<-AG hp,CG]
 rw[this,BF,Bl,DZ,Ho,Af (by simpa[h1] using h0),B3,B5] at hn;have hm:=AL f;generalize(Bf l p)[g]=y at hm d;unfold Bf at hm;rcases Ax.1 hm with hm|hm
 .exact hn.2.2 y.node (DN.2 ⟨O7 hm,by simpa[d] using h0⟩) l[p].node AH (by rw[d,h1])
 .exact hn.2.1.1 (DN.2 ⟨by rw[h1,<-d];exact O7 hm,by simpa[h1] using h0⟩)
section
variable{h h':Ah}{bi a ai:Nat}{o c t:Aa}{G G' F:Nat->Prop}{b b':BS}{x:Int}{m:Nat}
variable{nm:Ai}{av:Aa}{l:List A5}{r:List Aa}{sp p:Int}{e:Cl}{at_ mk last:Int}{anc far:Item}
def OM{blk anc:Int}{far i:Nat}{l:Int}{mk m:Nat}(r:B6 b (m+4)):B6 (BS.Fp blk anc far i b l mk).1 m:=by
 unfold BS.Fp;simp only
 split;.exact(r.le Ab).sub rfl Dt (A4 _) (Ag _)
 .split;.exact(r.le Ab).sub rfl Dt Dt (Ag _)
  .rename_i he _;obtain⟨p,hp,f,_,_,_⟩:=HC (Jt.1 he);rw[f,AY,AJ,Al hp,Fg];have KE:=r.DE _ (AL hp);have d:=Ja (m:=m+1) (nm:=b.A6[p].name) (l:=b.A6[p].Ay) (sp:=1) (p:=anc) (r.le Ab) KE.2;have r2:=(d.le (m':=m) Ab).KD (J5 (p:=(b.GA b.A6[p].name b.A6[p].Ay 1).node) (x:=l) (bf:=0));refine⟨r2.n,r2.at_,r2.data,by simp only[Bq];exact r2.AN,by simp only[Bq];exact r2.A6,r2.tm,λe he=>?_,λi hi=>?_⟩
   .rcases Dg he with he|rfl
    .exact r2.DE e he
    .exact KE
   .rcases Dg hi with hi|rfl
    .exact r2.VM i hi
    .exact N0 KE.1
end
def Um{A:Ar}{x p bf:Int}(h:(A.nd p).kind=4):A.Ex x p bf=A.FT p x bf:=by unfold Ar.Ex;rw[Ad (by rw[h];intro h;exact absurd h.1 AM)]
section
variable{h h':Ah}{bi a ai:Nat}{o c t:Aa}{G G' F:Nat->Prop}{b b':BS}{x:Int}{m:Nat}
variable{nm:Ai}{av:Aa}{l:List A5}{r:List Aa}{sp p:Int}{e:Cl}{at_ mk last:Int}{anc far:Item}
def B2.at(hc:B2 b.A6 c)(w:BX h bi a o c t G b)(rm:B6 b m)(n:Int):BL cx 188 [Pt bi 3,I n] h (I (Fe n b.A6)) h:=by obtain⟨fs,Gu,hv⟩:=hc;have ha:=rm.A6;have:=f41 w.qX hv (by rw[<-Gu,An] at ha;omega) n;rwa [YU,Gu] at this
structure pO(h:Ah)(bi a ai:Nat)(t:Aa)(G0:Nat->Prop)(fe:Cl)(anc far:Item)(k N m:Nat)(s0:BS×Int×Nat)(n:Nat)(h1:Ah)(o c:Aa)(G:Nat->Prop)(s:BS×Int×Nat):Prop where
 le:n<=N
 w:BX h1 bi a o c t G s.1
 hc:B2 s.1.A6 c
 ok:Ey s.1
 rm:B6 s.1 (m+4*n)
 last:s.1.a.has s.2.1
 st:h1[ai]?=some (.cells (FL fe (Fe fe.c.node s.1.A6) (s.2.2:Int) anc far s.2.1))
 hn:¬Bu bi G ai
 x:DC h (MV ai bi G0) h1 (MV ai bi G)
 Wh:0<=Fe fe.c.node s.1.A6
 mkb:s.2.2<=1000000000
 AN:s.1.AN.take (k+n+1)=s0.1.AN.take (k+n+1)
 len:k+n+1<=s.1.AN.length
 eq:BS.KC far.node anc.node (k+1+N) k N s0=BS.KC far.node anc.node (k+1+N) k n s
 fe:s.1.a.has fe.c.node
def bT{blk anc:Int}{far i:Nat}{l:Int}{mk:Nat}(hi:i<b.AN.length):(BS.Fp blk anc far i b l mk).1.AN.take i=b.AN.take i/\i<=(BS.Fp blk anc far i b l mk).1.AN.length:=by
 have h1:(Bf b.AN i).take i=b.AN.take i/\i<=(Bf b.AN i).length:=by refine⟨?_,by rw[Hj hi];omega⟩;unfold Bf;rw[CL (by rw[Aw];omega),FA,Nat.min_self]
 unfold BS.Fp;simp only
 split;.exact h1
 .split;.exact h1
  .have Oc:∀nm l p,(b.Er nm l 1 p).AN=b.AN:=λnm l p=>by unfold BS.Er;rw[Af JV]
   simp only[Oc];exact⟨O5 (Ag i),by rw[Bq];omega⟩
def pO.step{h1 h2:Ah}{C D A z:Aa}{B u:Nat->Prop}{fe:Cl}{k N n:Nat}{s0 s s':BS×Int×Nat}(i:pO h bi a ai t G fe anc far k N m s0 (n+1) h1 C D B s)(e:s'=BS.Fp far.node anc.node (k+1+N) (k+(n+1)) s.1 s.2.1 s.2.2)
  (w:BX h2 bi a A z t u s'.1) (hc:B2 s'.1.A6 z) (st:h2[ai]?=some (.cells (FL fe (Fe fe.c.node s'.1.A6) (s'.2.2:Int) anc far s'.2.1))) (hn:¬Bu bi u ai) (x:DC h1 (MV ai bi B) h2 (MV ai bi u)) (Wh:0<=Fe fe.c.node s'.1.A6) (mk:s'.2.2<=1000000000):
  pO h bi a ai t G fe anc far k N m s0 n h2 A z u s':=by
 obtain⟨g,last',j⟩:=Yv (blk:=far.node) (anc:=anc.node) (far:=k+1+N) (i:=k+(n+1)) (m:=s.2.2) i.ok i.last;have hl:=i.len;obtain⟨f,v⟩:=bT (blk:=far.node) (anc:=anc.node) (far:=k+1+N) (i:=k+(n+1)) (l:=s.2.1) (mk:=s.2.2) (b:=s.1) Ab;have d:=OM (blk:=far.node) (anc:=anc.node) (far:=k+1+N) (i:=k+(n+1)) (l:=s.2.1) (mk:=s.2.2) (m:=m+4*n) (i.rm.le Ab);have Oc:=i.AN;have y:BS.KC far.node anc.node (k+1+N) k (n+1) s=BS.KC far.node anc.node (k+1+N) k n (BS.Fp far.node anc.node (k+1+N) (k+(n+1)) s.1 s.2.1 s.2.2):=rfl;have q:=i.eq.trans y;rw[<-e] at g last' j f v d q;refine⟨by have:=i.le;omega,w,hc,g,d,last',st,hn,i.x.trans x,Wh,mk,?_,Ab,q,j.has _ i.fe⟩;have:=Ca (λl=>l.take (k+(n+1))) Oc;simp only[FA] at this;rw[(Ab:k+n+1=k+(n+1)),f];rwa [Cs Ab] at this
def aIc{fe:Cl}{k N:Nat}{s0:BS×Int×Nat}(i0:pO h bi a ai t G fe anc far k N m s0 N h o c G s0)(Zp:1<=k)(Ql:AT (Br fe.c.node) s0.1.AN=(k:Int))(hN:k+1+N<s0.1.AN.length):
  ∃h' o' c' G' s',BL cx 334 [Pt bi 0,Pt ai 0,I (k:Int),I ((k+1+N:Nat):Int)] h (.tuple []) h'/\s'=BS.KC far.node anc.node (k+1+N) k N s0/\pO h bi a ai t G fe anc far k N m s0 0 h' o' c' G' s':=by
 have ho:=i0.rm.AN;have I2:Ev cx 334 [Pt bi 0,Pt ai 0,I (k:Int),I ((k+1+N:Nat):Int)] h λr h'=>r= .tuple []/\∃o' c' G' s',s'=BS.KC far.node anc.node (k+1+N) k N s0/\pO h bi a ai t G fe anc far k N m s0 0 h' o' c' G' s':=by
  unfold Ev;rw[i7];have i1:=Da (a:=((k+1+N:Nat):Int)) (b:=1) Ab Ab;rw[(Ab:((k+1+N:Nat):Int)-1=((k+N:Nat):Int))] at i1;simp only[BD,i1];refine Bi (λn:Nat=>[I ((N-n:Nat):Int),I ((k+n:Nat):Int)]) (λn h1=>∃o c G1 s,pO h bi a ai t G fe anc far k N m s0 n h1 o c G1 s) (λn=>n) N (by rw[De];rfl) ⟨o,c,_,s0,i0⟩ ?_;rintro n h1 ⟨o1,c1,G1,s,i⟩;cases n with
  |zero=>simp only[abS,↓reduceIte,(Ab:¬(k:Int)<(k:Int))];exact⟨_,rfl,rfl,o1,c1,G1,s,i.eq.symm,i⟩
  |succ n=>
   have hnN:=i.le;have hlen:=i.len;have bU:k+(n+1)<s.1.AN.length:=Ab;have hwo:=i.rm.AN;have hwa:=i.rm.A6;have Zl:ai≠bi:=λe=>i.hn (.inl e);have hai:ai<h1.length:=(Ak.1 i.st).1;have K:=YJ i.w.sA ((k+(n+1):Nat):Int);rw[Ih bU] at K;have U:=kT i.ok.D_ bU;have hxf:s.1.AN[k+(n+1)].node≠fe.c.node:=by have h2:=Ca (λl=>l[k+(n+1)]?) i.AN;simp only[Ci] at h2;rw[Af Ab,Af Ab,Al bU,Al Ab] at h2;obtain⟨_,_,L⟩:=IM Ql;have g:=L (k+(n+1)) Ab Ab;rw[D5 h2];intro h5;unfold Br at g;rw[h5] at g;simp at g
   have WU:s.1.AN.getD (k+(n+1)) Item.zero=s.1.AN[k+(n+1)]:=by rw[AJ,Al bU];rfl
   generalize s.1.AN[k+(n+1)]=x at*;have r2:=i.hc.at i.w i.rm x.node;obtain⟨q,hq,ku,hq0,hq2,hq3⟩:=HC i.Wh;have inc:AD (.int .add) [I ((N-(n+1):Nat):Int),I 1]=some (I ((N-n:Nat):Int)):=by have:=BM (n:=N-(n+1)) Ab;rwa [(Ab:N-(n+1)+1=N-n)] at this
   have dec:AD (.int .sub) [I ((k+(n+1):Nat):Int),I 1]=some (I ((k+n:Nat):Int)):=by have:=Il (n:=k+(n+1)) Ab Ab;rwa [(Ab:k+(n+1)-1=k+n)] at this
   have nu:(k:Int)<((k+(n+1):Nat):Int):=Ab;have V:∀l:List Item,l=s.1.AN->CW x.node l=Bf l (k+(n+1)):=by intro l e;subst e;unfold CW;rw[U,Ad Ab,AY]
   by_cases he:Fe x.node s.1.A6<0
   .obtain⟨u,B,hu⟩:=Ŏ i.w.sO Ab x.node;rw[V _ rfl] at hu;have y:=i.w.HU hu;have es:({s.1 with AN:=Bf s.1.AN (k+(n+1))},s.2.1,s.2.2)=BS.Fp far.node anc.node (k+1+N) (k+(n+1)) s.1 s.2.1 s.2.2:=by unfold BS.Fp;simp only[WU];rw[Af he]
    have D:=i.step es y i.hc ((Cb Zl).trans i.st) i.hn (EV Bg ai) i.Wh i.mkb;by_cases Nv:(3:Int)<((N-n:Nat):Int);.simp only[abS,↓reduceIte,E9,nu,K.Ac,inc,r2.Ac,Nv,he,(Ab:¬(0:Int)<=Fe x.node s.1.A6),B.Ac,dec];exact AK.next n rfl ⟨_,_,_,_,D⟩ Ab
    .simp only[abS,↓reduceIte,E9,nu,K.Ac,inc,r2.Ac,Nv,he,B.Ac,dec];exact AK.next n rfl ⟨_,_,_,_,D⟩ Ab
   .obtain⟨p,hp,ep,NP,ZQ,hp3⟩:=HC (Jt.1 he);have Eg:(0:Int)<=(p:Int):=Ab;rw[ep] at r2;have W:s.1.A6[p].node≠fe.c.node:=by rw[ZQ];exact hxf
    have E:(Fe x.node s.1.A6).toNat=p:=by rw[ep,AY]
    by_cases Nv:(3:Int)<((N-n:Nat):Int)
    .obtain⟨h2,c2,B,y,I0,C,H⟩:=bz i.w i.hc i.rm i.st i.hn hp ⟨i.Wh,Ab⟩ ⟨Ab,by have:=i.mkb;omega⟩;have Vh:B6 {s.1 with A6:=Bf s.1.A6 p} (m+4*(n+1)):=i.rm.sub rfl (A4 _) Dt (Ag _);have r4:=B2.at (b:={s.1 with A6:=Bf s.1.A6 p}) I0 y Vh x.node;have xR:Fe x.node (Bf s.1.A6 p)<0:=by have:=lf (n:=x.node) i.ok.jt (Jt.1 he);rwa [E] at this
     obtain⟨u,r5,hu⟩:=Ŏ y.sO Dx x.node;rw[V _ rfl] at hu;have M:=y.HU hu;have yg:(((if p<s.2.2 then s.2.2 -1 else s.2.2:Nat)):Int)=down p (s.2.2:Int):=by unfold down;split<;>split<;>omega
     have es:({s.1 with A6:=Bf s.1.A6 p,AN:=Bf s.1.AN (k+(n+1))},s.2.1,if p<s.2.2 then s.2.2 -1 else s.2.2)=BS.Fp far.node anc.node (k+1+N) (k+(n+1)) s.1 s.2.1 s.2.2:=by unfold BS.Fp;simp only[WU];rw[Ad he,Af (Ab:k+(n+1)+3<k+1+N),E]
     have aId:=bS i.Wh hp W;have hd0:0<=down p (Fe fe.c.node s.1.A6):=by unfold down;split<;>omega
     have D:=i.step es M I0 (by rw[Cb Zl,C];simp only;rw[aId,yg]) i.hn (H.trans (EV Bg ai)) (by simp only;rw[aId];exact hd0) (by have:=i.mkb;simp only;split<;>omega);simp only[abS,↓reduceIte,E9,nu,K.Ac,inc,r2.Ac,Nv,Eg,B.Ac,r4.Ac,xR,r5.Ac,dec];exact AK.next n rfl ⟨_,_,_,_,D⟩ Ab
    .obtain⟨fs,Gu,hv⟩:=i.hc;have Hp:s.1.A6.length=fs.length:=by rw[<-Gu,An]
     have aDP:p<fs.length:=Ab;have Z:fs[p].c=s.1.A6[p]:=by simp only[<-Gu,C1]
     have l3:=i.w.l3;have e1:=AU.BK (k:= .i64) hv aDP;have l5:A8 h1 none (Pt ai 5)=some (I anc.node):=At.load ⟨_,i.st,rfl⟩;obtain⟨r,B,hr⟩:=ye fs[p] h1;have KE:=i.rm.DE _ (AL hp);rw[<-Z] at KE;obtain⟨h2,G2,r4,y,H⟩:=xw (m:=m+4*n) i.w i.ok.ba (i.rm.le Ab) hr fs[p].ok KE.2 KE.1 anc.node 1;obtain⟨xy,f,le2⟩:=P5 (nm:=fs[p].c.name) (at_:=fs[p].c.Ay) (p:=anc.node) i.ok JV;have Vh:=Ja (m:=m+4*n+1) (nm:=fs[p].c.name) (l:=fs[p].c.Ay) (sp:=1) (p:=anc.node) (i.rm.le Ab) KE.2;have Oc:(s.1.Er fs[p].c.name fs[p].c.Ay 1 anc.node).AN=s.1.AN:=by unfold BS.Er;rw[Af JV]
     have QE:(s.1.Er fs[p].c.name fs[p].c.Ay 1 anc.node).A6=s.1.A6:=by unfold BS.Er;rw[Af JV]
     have Y:BS.Fp far.node anc.node (k+1+N) (k+(n+1)) s.1 s.2.1 s.2.2=({s.1.Er fs[p].c.name fs[p].c.Ay 1 anc.node with a:=(s.1.Er fs[p].c.name fs[p].c.Ay 1 anc.node).a.FT (s.1.GA fs[p].c.name fs[p].c.Ay 1).node s.2.1 0,AN:=(s.1.Er fs[p].c.name fs[p].c.Ay 1 anc.node).AN.set (k+(n+1)) (s.1.GA fs[p].c.name fs[p].c.Ay 1),A6:=(s.1.Er fs[p].c.name fs[p].c.Ay 1 anc.node).A6.set p {fs[p].c with node:=(s.1.GA fs[p].c.name fs[p].c.Ay 1).node}},(s.1.GA fs[p].c.name fs[p].c.Ay 1).node,if s.2.1=far.node then p+1 else s.2.2):=by unfold BS.Fp;simp only[WU];rw[Ad he,Ad Ab,E,AJ,Al hp,Fg,<-Z]
     have xK:=NY i.ok f;have hna:=QD i.ok f;have hnf:(s.1.GA fs[p].c.name fs[p].c.Ay 1).node≠fe.c.node:=λe2=>f.new (by rw[e2];exact i.fe);have aNa:=le2.has _ i.last;have aDQ:(s.1.GA fs[p].c.name fs[p].c.Ay 1).name.length<=1000:=N0 KE.1;generalize s.1.GA fs[p].c.name fs[p].c.Ay 1=d at*;generalize s.1.Er fs[p].c.name fs[p].c.Ay 1 anc.node=b2 at*;have TI:¬Bu bi G2 ai:=λhg=>by
      rcases H.Bu ai hg with hg|hg
      .exact i.hn hg
      .omega
     have C:h2[ai]?=_:=(H.old ai hai i.hn).trans i.st;obtain⟨J,O,r5,O9⟩:=aMf y.sO (by have:=Vh.AN;omega) x.node d;have Š:PZ x.node d b2.AN=b2.AN.set (k+(n+1)) d:=by unfold PZ;rw[Oc,U,Ad Ab,AY]
     rw[Š] at O9;have M:=(y.HU O9).HJ (u:=O);have x3:DC h1 (MV ai bi G1) (put h2 bi 2 J++O) (MV ai bi G2):=(EV H ai).trans (EV (Bg.trans (y.HU O9).C6) ai);have ai2:ai<h2.length:=by have:=H.len;omega
     have st3:(put h2 bi 2 J++O)[ai]?=_:=(Aj (by rw[I7];exact ai2)).trans ((Cb Zl).trans C);have ai3:ai<(put h2 bi 2 J++O).length:=by rw[Au,I7];omega
     generalize put h2 bi 2 J++O=L at*;have aNb:=(KE.2).1;obtain⟨A,t2,e2,he2,r6,Jh⟩:=aMt (h:=L) (id:=bi) (o:=3) (l:=fs) ⟨c1,M.qX,hv⟩ Ab x.node (e:=⟨{fs[p].c with node:=d.node},fs[p].v,fs[p].ok⟩) (by unfold ZL;simp only;omega);have hei:Hy x.node fs=(p:Int):=by rw[YU,Gu,ep]
     rw[hei,Ad Ab,AY] at Jh;have w4:=(M.Kr (u:=A) (l:=b2.A6.set p {fs[p].c with node:=d.node})).HJ (u:=t2);have hc4:B2 (b2.A6.set p {fs[p].c with node:=d.node}) A:=⟨_,by rw[Eo,Gu,he2,QE],Jh⟩;have x4:=x3.trans (EV ((Bg (k:=3) (v:=A)).trans (BX.C6 (u:=t2) (M.Kr (u:=A) (l:=b2.A6.set p {fs[p].c with node:=d.node})))) ai);have z:(put L bi 3 A++t2)[ai]?=_:=(Aj (by rw[I7];exact ai3)).trans ((Cb Zl).trans st3);generalize put L bi 3 A++t2=g at*;have ok3:=xy.uE (i:=d) (k:=k+(n+1)) ⟨f.has,f.kind,f.Bc,f.name⟩ (by rw[Oc];exact xK);have nr:=ok3.uF (e:={fs[p].c with node:=d.node}) (k:=p) ⟨f.has,f.kind⟩ (by simp only[QE];exact hna);have rm4:B6 {b2 with AN:=b2.AN.set (k+(n+1)) d,A6:=b2.A6.set p {fs[p].c with node:=d.node}} (m+4*n+1):=by
      refine⟨Vh.n,Vh.at_,Vh.data,by simp only[Bq];exact Vh.AN,by simp only[Bq];exact Vh.A6,Vh.tm,λe he=>?_,λi hi=>?_⟩
      .rcases Dg he with he|rfl
       .exact Vh.DE e he
       .exact KE
      .rcases Dg hi with hi|rfl
       .exact Vh.VM i hi
       .exact aDQ
     have S:A8 g none (Pt ai 13)=some (I s.2.1):=At.load ⟨_,z,rfl⟩;have l9:A8 g none (Pt ai 9)=some (I far.node):=At.load ⟨_,z,rfl⟩;have t4:At g ai 4 (I (s.2.2:Int)):=⟨_,z,rfl⟩;obtain⟨Un,VY⟩:∃Un:Nat,Un=if s.2.1=far.node then p+1 else s.2.2:=⟨_,rfl⟩
     have e5:put g ai 4 (I (Un:Int))=if s.2.1=far.node then put g ai 4 (I ((p+1:Nat):Int)) else g:=by
      rw[VY];split;.rfl
      .exact t4.same
     have Q:=HB (k:=4) (v:= I (Un:Int)) z;have w5:BX (put g ai 4 (I (Un:Int))) bi a J A t G2 {b2 with AN:=b2.AN.set (k+(n+1)) d,A6:=b2.A6.set p {fs[p].c with node:=d.node}}:=w4.Dj λj hj=>Cb λe=>TI (e▸hj);have x5:=x4.trans (P9 (k:=4) (v:= I (Un:Int)));have ai5:ai<(put g ai 4 (I (Un:Int))).length:=by have:=x5.len;omega
     have t5:A8 (put g ai 4 (I (Un:Int))) none (Pt ai 13)=some (I s.2.1):=At.load ⟨_,Q,rfl⟩;generalize hh5:put g ai 4 (I (Un:Int))=h5 at*;obtain⟨h6,G6,r7,w6,x6⟩:=pD (x:=s.2.1) (p:=d.node) (bf:=0) w5 nr.ba rm4;rw[Um (by exact f.kind)] at w6;have X:¬Bu bi G6 ai:=λhg=>by
      rcases x6.Bu ai hg with hg|hg
      .exact TI hg
      .omega
     have P:h6[ai]?=_:=(x6.old ai ai5 TI).trans Q;have t6:At h6 ai 13 (I s.2.1):=⟨_,P,rfl⟩;have st7:=HB (k:=13) (v:= I d.node) P;have w7:BX (put h6 ai 13 (I d.node)) bi a J A t G6 _:=w6.Dj λj hj=>Cb λe=>X (e▸hj);have x7:=(x5.trans (EV x6 ai)).trans (P9 (k:=13) (v:= I d.node));have YW:Fe fe.c.node (b2.A6.set p {fs[p].c with node:=d.node})=Fe fe.c.node s.1.A6:=by rw[QE];exact pM i.Wh hp W hnf
     rw[<-VY] at Y;have D:=i.step Y.symm w7 hc4 (by simp only;rw[st7,YW];rfl) X x7 (by simp only;rw[YW];exact i.Wh) (by simp only;rw[VY];have:=i.mkb;split<;>omega);have lg:fs[p].v.cells=[fs[p].v]:=AU.cells fs[p].ok;have T:=BM (Ab:p<9223372036854775807);have R:BL cx 408 [Pt bi 3,I x.node,.agg [I d.node,.str fs[p].c.name,fs[p].v]] L (.bool (decide (0<=Hy x.node fs))) g:=r6;rw[Cl.row] at e1 B;by_cases Sb:s.2.1=far.node
     .rw[Af Sb] at e5;have s5:Cv g 1 (Pt ai 4) (I ((p+1:Nat):Int))=some h5:=by rw[e5];exact t4.store rfl
      simp only[abS,Nat.reduceLeDiff,↓reduceIte,AR,E9,nu,K.Ac,inc,r2.Ac,Nv,Eg,(Ab:¬(p:Int)<0),l3,e1,l5,B.Ac,BI,r4.Ac,r5.Ac,lg,R.Ac,S,l9,AQ Sb,T,s5,t5,r7.Ac,t6.store (u:= I d.node) rfl,dec];exact AK.next n rfl ⟨_,_,_,_,D⟩ Ab
     .rw[Ad Sb] at e5;subst e5;simp only[abS,Nat.reduceLeDiff,↓reduceIte,AR,E9,nu,K.Ac,inc,r2.Ac,Nv,Eg,(Ab:¬(p:Int)<0),l3,e1,l5,B.Ac,BI,r4.Ac,r5.Ac,lg,R.Ac,S,l9,Sb,r7.Ac,t6.store (u:= I d.node) rfl,dec];exact AK.next n rfl ⟨_,_,_,_,D⟩ Ab
 obtain⟨r,h',hr,rfl,o',c',G',s',e',i'⟩:=I2.ret;exact⟨h',o',c',G',s',hr,e',i'⟩
end
section
variable{h h':Ah}{bi a ai:Nat}{o c t:Aa}{G G' F:Nat->Prop}{b b':BS}{x:Int}{m:Nat}
variable{nm:Ai}{av:Aa}{l:List A5}{r:List Aa}{sp p:Int}{e:Cl}{at_ mk last:Int}{anc far:Item}
def B2.find(hc:B2 b.A6 c)(w:BX h bi a o c t G b)(rm:B6 b m)(nm:Ai):BL cx 330 [Pt bi 3,.str nm] h (I (GF nm b.A6)) h:=by obtain⟨fs,Gu,hv⟩:=hc;have ha:=rm.A6;have:=aMh w.qX hv (by rw[<-Gu,An] at ha;omega) nm;rwa [br,Gu] at this
def YX(d:h.length<=ai)(x:DC h (MV ai bi G) h' (MV ai bi G')):DC h (Bu bi G) h' (Bu bi G'):=
 ⟨x.len,λi hi hn=>x.old i hi λhg=>by
  rcases hg with rfl|hg
  .omega
  .exact hn hg,λi hi=>by
  rcases x.Bu i (.inr hi) with(rfl|h)|h
  .exact .inr d
  .exact .inl h
  .exact .inr h⟩
def Tk{nm:Ai}{l:List Cp}(h:0<=GF nm l):∃p:Nat,∃hp:p<l.length,GF nm l=(p:Int):=by
 have key:∀r:List Cp,P4 nm r<r.length:=by
  intro r;induction r with
  |nil=>show(-1:Int)<0;decide
  |cons x r ih=>rw[P4];simp only[A9];split<;>(try split)<;>omega
 have:=key l.reverse;rw[KZ] at this;refine⟨(GF nm l).toNat,?_,Ab⟩;unfold GF at h⊢;omega
def b_{l:List Cp}{f:Nat}(hn:((l.map Cp.node).filter λn=>decide (n≠0)).Nodup)(hf:f<l.length)(h0:l[f].node≠0):Fe l[f].node l=(f:Int):=by
 unfold Fe;rw[Ad h0];refine Mz hf (by simp[Yo]) λj hj h=>?_;by_cases he:l[j].node=l[f].node
 .exfalso;have:l=l.take j++l[j]::l.drop (j+1):=by rw[<-AG hj,CG]
  rw[this,BF,Bl,DZ,Ho,Af (by simpa[he] using h0),B3] at hn;have hm:l[f]∈l.take j:=List.mem_take_iff_getElem.2 ⟨f,Ab,rfl⟩;exact hn.2.2 l[f].node (DN.2 ⟨O7 hm,by simpa using h0⟩) l[j].node AH he.symm
 .simp[Yo,he]
def pP{v:DA}:DC h (Am.MV ai bi G) (h.set ai v) (Am.MV ai bi G):=⟨by rw[Bq];exact Ag _,λi _ hn=>Ao λe=>hn (.inl e.symm),λ_ h=> .inl h⟩
def aDS(hc:h[ai]?=some (.cells (FL e at_ mk anc far last)))(i:Item):Cv h 4 (Pt ai 5) (.agg i.row)=some (h.set ai (.cells (FL e at_ mk i far last))):=by simp only[Cv,hc];rfl
def aDT(hc:h[ai]?=some (.cells (FL e at_ mk anc far last)))(i:Item):Cv h 4 (Pt ai 9) (.agg i.row)=some (h.set ai (.cells (FL e at_ mk anc i last))):=by simp only[Cv,hc];rfl
def aDU(hc:h[ai]?=some (.cells (FL e at_ mk anc far last))):A8 h (some 3) (Pt ai 0)=some (.agg e.row):=by simp only[A8,hc];rfl
def Rm{A:Ar}{n x:Int}{l:List Int}:BS.CB A n (l++[x])=(BS.CB A n l).FT n x 0:=by unfold BS.CB;rw[List.foldl_append];rfl
def aNd(w:BX h bi a o c t G b)(hc:B2 b.A6 c)(ok:Ey b)(rm:B6 b (m+4*b.AN.length+10))(nm:Ai):
  ∃h' o' c' G',BL cx 189 [Pt bi 0,.str nm] h (.bool (b.round nm).1) h'/\BX h' bi a o' c' t G' (b.round nm).2/\B2 (b.round nm).2.A6 c'/\DC h (Bu bi G) h' (Bu bi G'):=by
 have ho:=rm.AN;have QE:=rm.A6;have W:=hc.find w rm nm;by_cases hf:GF nm b.A6<0
 .obtain⟨h2,o2,r2,M,x2⟩:=aDJ w rm nm;have e:b.round nm=(false,b.CO nm):=by unfold BS.round;simp only;rw[Af hf]
  have ea:(b.CO nm).A6=b.A6:=by
   unfold BS.CO;split;.split<;>rfl
   .rfl
  rw[e];refine⟨h2,o2,c,G,?_,M,by rw[ea];exact hc,x2⟩;rw[Ae,M8,uZ];simp only[abS,Nat.reduceLeDiff,↓reduceIte,AR,W.Ac,hf,r2.Ac]
 obtain⟨f,Hp,ef⟩:=Tk (Jt.1 hf);have qU:¬(f:Int)<0:=Ab;rw[ef] at W;have Jm:=hc;obtain⟨fs,Gu,hv⟩:=Jm;have aNe:b.A6.length=fs.length:=by rw[<-Gu,An]
 have H:fs[f].c=b.A6[f]:=by simp only[<-Gu,C1]
 have l3:=w.l3;have e1:=AU.BK (k:= .i64) hv (Ab:f<fs.length);generalize hfe:fs[f]=fe at*;have WU:b.A6.getD f Cp.zero=fe.c:=by rw[AJ,Al Hp];exact H.symm
 have lg:fe.v.cells=[fe.v]:=AU.cells fe.ok;have w1:=w.HJ (u:=[.cells (FL fe (f:Int) (f:Int) Item.zero Item.zero 0)]);have z:(h++[DA.cells (FL fe (f:Int) (f:Int) Item.zero Item.zero 0)])[h.length]?=some (.cells (FL fe (f:Int) (f:Int) Item.zero Item.zero 0)):=AH;have x1:DC h (Bu bi G) (h++[DA.cells (FL fe (f:Int) (f:Int) Item.zero Item.zero 0)]) (Bu bi G):=w.C6;have Nn:¬Bu bi G h.length:=by
  rintro(e|hg);.exact absurd w.lt Ab
  .exact absurd (w.w.lt hg) (Dr _)
 obtain⟨B,y⟩:∃B,B=h++[DA.cells (FL fe (f:Int) (f:Int) Item.zero Item.zero 0)]:=⟨_,rfl⟩;rw[<-y] at w1 z x1;have l0:A8 B none (Pt h.length 0)=some (I fe.c.node):=At.load ⟨_,z,rfl⟩;have r2:=ZN w1.sA Ab fe.c.node;have Wb:FL fe (f:Int) (f:Int) Item.zero Item.zero 0=[I fe.c.node,.str fe.c.name,fe.v,I (f:Int),I (f:Int),I 0,I 0,S [],ff,I 0,I 0,S [],ff,I 0]:=rfl;rw[Wb] at y;rw[Cl.row] at e1;by_cases hk:AT (Br fe.c.node) b.AN<0
 .obtain⟨h2,c2,U,M,I0,_,x2⟩:=bz w1 hc rm z Nn Hp ⟨Ab,Ab⟩ ⟨Ab,Ab⟩;have e:b.round nm=(false,{b with A6:=Bf b.A6 f}):=by unfold BS.round;simp only;rw[Ad hf,ef,AY,WU,Af hk]
  rw[e];refine⟨h2,o,c2,G,?_,M,I0,YX (Ag _) ((EV x1 h.length).trans x2)⟩;rw[Ae,M8,uZ];simp only[abS,Nat.reduceLeDiff,↓reduceIte,AR,W.Ac,qU,l3,e1,<-y,l0,r2.Ac,hk,U.Ac]
 obtain⟨k,Y⟩:∃k:Nat,AT (Br fe.c.node) b.AN=(k:Int):=⟨_,(GX (Jt.1 hk)).symm⟩;obtain⟨Ql,hkq,_⟩:=IM Y;have o8:¬(k:Int)<0:=Ab;rw[Y] at r2;by_cases hkz:k=0
 .have e:b.round nm=(false,b):=by unfold BS.round;simp only;rw[Ad hf,ef,AY,WU,Ad hk,Af (.inl (by rw[Y,hkz];rfl))]
  rw[e];refine⟨B,o,c,G,?_,w1,hc,x1⟩;rw[Ae,M8,uZ];simp only[abS,Nat.reduceLeDiff,↓reduceIte,AR,W.Ac,qU,l3,e1,<-y,l0,r2.Ac,o8,AQ (Ab:(k:Int)=0)]
 have pQ:¬(k:Int)=0:=Ab;have U:=aGX w1.sA Ab 1 fe.c.node;by_cases Q4:HI (Br fe.c.node) (Hw 1) b.AN.reverse=false
 .have e:b.round nm=(false,b):=by unfold BS.round;simp only;rw[Ad hf,ef,AY,WU,Ad hk,Af (.inr Q4)]
  rw[e];refine⟨B,o,c,G,?_,w1,hc,x1⟩;rw[Q4] at U;rw[Ae,M8,uZ];simp only[abS,Nat.reduceLeDiff,↓reduceIte,AR,W.Ac,qU,l3,e1,<-y,l0,r2.Ac,o8,pQ,U.Ac]
 have aDV:HI (Br fe.c.node) (Hw 1) b.AN.reverse=true:=by simpa using Q4
 rw[aDV] at U;have r4:=aL7 w1.sA Ab fe.c.node;have hor:¬(AT (Br fe.c.node) b.AN=0\/HI (Br fe.c.node) (Hw 1) b.AN.reverse=false):=by rw[Y];rintro(h|h);exact pQ h;exact Q4 h
 by_cases hfa:D3 fe.c.node b.AN<0
 .have e:b.round nm=(false,{b with AN:=GU fe.c.node b.AN,A6:=Bf b.A6 f}):=by unfold BS.round;simp only;rw[Ad hf,ef,AY,WU,Ad hk,Ad hor,Af hfa]
  obtain⟨u,r5,hu⟩:=aG3 w1.sO Ab fe.c.node;have M:=w1.HU hu;have D:(put B bi 2 u)[h.length]?=_:=(Cb (λe=>Nn (.inl e))).trans z;obtain⟨h3,c3,r6,w3,Nv,_,x3⟩:=bz M hc ((rm.le (m':=0) Ab).sub rfl HM (A4 _) (Ag _)) D Nn Hp ⟨Ab,Ab⟩ ⟨Ab,Ab⟩;rw[e];refine⟨h3,u,c3,G,?_,w3,Nv,YX (Ag _) ((EV (x1.trans Bg) h.length).trans x3)⟩;rw[Ae,M8,uZ];simp only[abS,Nat.reduceLeDiff,↓reduceIte,AR,W.Ac,qU,l3,e1,<-y,l0,r2.Ac,o8,pQ,U.Ac,r4.Ac,hfa,r5.Ac,r6.Ac]
 obtain⟨N,hN,eN⟩:∃N:Nat,k+1+N<b.AN.length/\D3 fe.c.node b.AN=((k+1+N:Nat):Int):=by
  have vM:=hfa;rw[IH,Ad hk,Y,AY] at vM⊢;unfold EZ at vM⊢;split at vM;.rename_i j hj;have:=(EI.1 hj).1;rw[Bd] at this;exact⟨j,Ab,Ab⟩
  .omega
 obtain⟨d,ki⟩:∃d,d=b.AN[k+1+N]:=⟨_,rfl⟩;obtain⟨an,œ⟩:∃an,an=b.AN[k-1]'(by omega):=⟨_,rfl⟩;have sn:b.AN.getD (k+1+N) Item.zero=d:=by rw[AJ,Al hN,ki];rfl
 have hga:b.AN.getD (k-1) Item.zero=an:=by rw[AJ,Al Ab,œ];rfl
 have e:b.round nm=(true,BS.GH fe.c d.node an.node (BS.KC d.node an.node (k+1+N) k N (b,d.node,f))):=by
  unfold BS.round;simp only
  rw[Ad hf,ef,AY,WU,Ad hk,Ad hor,Ad hfa,Y,eN,AY,AY,sn,hga,(Ab:k+1+N-1 -k=N)]
 have lj:=ok.op d (by rw[ki];exact AL _);have aDW:b.AN[k].node=fe.c.node:=by simpa[Br] using hkq
 have š:b.a.has fe.c.node:=by rw[<-aDW];exact(ok.op _ (AL _)).1
 have Ţ:b.A6[f].node≠0:=by rw[<-H];have:=š.1;omega
 have YW:=b_ ok.jt Hp Ţ;rw[<-H] at YW;have KE:=rm.DE _ (AL Hp);rw[<-H] at KE;have VI:=Il (n:=k) Ab Ab;have r5:=YJ w1.sA ((k-1:Nat):Int);rw[Ih Ab,<-œ] at r5;have r6:=YJ w1.sA ((k+1+N:Nat):Int);rw[Ih hN,<-ki] at r6;have s5:=aDS z an;have Wl:h.length<B.length:=(Ak.1 z).1;have hbn:h.length≠bi:=λe=>Nn (.inl e);have D:(B.set h.length (.cells (FL fe f f an Item.zero 0)))[h.length]?=_:=AO Wl;have M:BX (B.set h.length (.cells (FL fe f f an Item.zero 0))) bi a o c t G b:=w1.Dj λj hj=>Ao λe=>Nn (by rw[e];exact hj);have x2:=(EV x1 h.length).trans (pP (v:= .cells (FL fe f f an Item.zero 0)));generalize B.set h.length (.cells (FL fe f f an Item.zero 0))=H2 at*;have s6:=aDT D d;have aN:h.length<H2.length:=(Ak.1 D).1;have R:(H2.set h.length (.cells (FL fe f f an d 0)))[h.length]?=_:=AO aN;have w3:BX (H2.set h.length (.cells (FL fe f f an d 0))) bi a o c t G b:=M.Dj λj hj=>Ao λe=>Nn (by rw[e];exact hj);have x3:=x2.trans (pP (v:= .cells (FL fe f f an d 0)));generalize H2.set h.length (.cells (FL fe f f an d 0))=H3 at*;have l9:A8 H3 none (Pt h.length 9)=some (I d.node):=At.load ⟨_,R,rfl⟩;have t13:At H3 h.length 13 (I 0):=⟨_,R,rfl⟩;have s7:=t13.store (u:= I d.node) rfl;have st4:=HB (k:=13) (v:= I d.node) R;have w4:BX (put H3 h.length 13 (I d.node)) bi a o c t G b:=w3.Dj λj hj=>Cb λe=>Nn (by rw[<-e];exact hj);have x4:=x3.trans (P9 (k:=13) (v:= I d.node));generalize put H3 h.length 13 (I d.node)=H4 at*;have i0:pO H4 bi a h.length t G fe an d k N (m+10) (b,d.node,f) N H4 o c G (b,d.node,f):=
  ⟨Ag _,w4,hc,ok,rm.le Ab,lj.1,by rw[YW];exact st4,Nn,.refl,by rw[YW];omega,by show f<=1000000000;omega,rfl,Dx,rfl,š⟩
 have le0:=(Wo (blk:=d.node) (anc:=an.node) (far:=k+1+N) (k:=k) (c:=N) (s:=(b,d.node,f)) ok lj.1).2.2;obtain⟨h5,o5,c5,G5,s',r7,es,i⟩:=aIc i0 Ab Y hN;rw[<-es] at le0 e;obtain⟨q,hq,ku,hq0,hq2,hq3⟩:=HC i.Wh;have E:=i.st;rw[ku] at E;have hmk:=i.mkb;have Zl:h.length≠bi:=hbn;have l5:A8 h5 none (Pt h.length 5)=some (I an.node):=At.load ⟨_,E,rfl⟩;obtain⟨u6,r8⟩:=Ř i.w i.ok.ba i.rm an.node;have w6:=i.w.HJ (u:=u6);have w6':=i.w.C6 (u:=u6);have hl5:h.length<h5.length:=(Ak.1 E).1;have st6:(h5++u6)[h.length]?=_:=(Aj hl5).trans E;have l13:A8 (h5++u6) none (Pt h.length 13)=some (I s'.2.1):=At.load ⟨_,st6,rfl⟩;have hl6:h.length<(h5++u6).length:=by rw[Au];omega
 obtain⟨h7,G7,r9,w7,x7⟩:=pD (x:=s'.2.1) (p:=(s'.1.place an.node).1) (bf:=(s'.1.place an.node).2) w6 i.ok.ba i.rm;have hn7:¬Bu bi G7 h.length:=λhg=>by
  rcases x7.Bu h.length hg with hg|hg
  .exact i.hn hg
  .omega
 have C:h7[h.length]?=_:=(x7.old h.length hl6 i.hn).trans st6;have l3b:A8 h7 (some 3) (Pt h.length 0)=some (.agg fe.row):=aDU C;have l9b:A8 h7 none (Pt h.length 9)=some (I d.node):=At.load ⟨_,C,rfl⟩;obtain⟨r,cg,hr⟩:=ye fe h7;have le7:Le s'.1.a (s'.1.a.Ex s'.2.1 (s'.1.place an.node).1 (s'.1.place an.node).2):=I9;have X:=i.ok.KD (OG (n:=s'.2.1) (p:=(s'.1.place an.node).1) (b:=(s'.1.place an.node).2) i.ok.ok) le7;have T:=i.rm.KD (J6 (x:=s'.2.1) (p:=(s'.1.place an.node).1) (bf:=(s'.1.place an.node).2));obtain⟨b2,Od⟩:∃b2,b2={s'.1 with a:=s'.1.a.Ex s'.2.1 (s'.1.place an.node).1 (s'.1.place an.node).2}:=⟨_,rfl⟩;have Zh:b2.AN=s'.1.AN:=by rw[Od]
 have I0:b2.A6=s'.1.A6:=by rw[Od]
 have le2:Le s'.1.a b2.a:=by rw[Od];exact le7
 rw[<-Od] at w7 X T;obtain⟨L,G8,r11,w8,x8⟩:=xw (m:=m+7) w7 X.ba (T.le Ab) hr fe.ok KE.2 KE.1 d.node 1;obtain⟨G_,fr,le8⟩:=P5 (nm:=fe.c.name) (at_:=fe.c.Ay) (p:=d.node) X JV;have ţ:=Ja (m:=m+7) (nm:=fe.c.name) (l:=fe.c.Ay) (sp:=1) (p:=d.node) (T.le Ab) KE.2;obtain⟨g,hnw⟩:∃g,g=b2.GA fe.c.name fe.c.Ay 1:=⟨_,rfl⟩;obtain⟨b3,nl⟩:∃b3,b3=b2.Er fe.c.name fe.c.Ay 1 d.node:=⟨_,rfl⟩;have ho3:b3.AN=s'.1.AN:=by rw[nl,<-Zh];unfold BS.Er;rw[Af JV]
 have Nv:b3.A6=s'.1.A6:=by rw[nl,<-I0];unfold BS.Er;rw[Af JV]
 rw[<-hnw] at r11 fr;rw[<-nl] at w8 G_ fr le8 ţ;have hl7:h.length<h7.length:=(Ak.1 C).1;have hn8:¬Bu bi G8 h.length:=λhg=>by
  rcases x8.Bu h.length hg with hg|hg
  .exact hn7 hg
  .omega
 have Q:L[h.length]?=_:=(x8.old h.length hl7 hn7).trans C;have l9c:A8 L none (Pt h.length 9)=some (I d.node):=At.load ⟨_,Q,rfl⟩;obtain⟨kv,r12,bo⟩:∃v,BL cx 306 [Pt a 0,I d.node] L v L/\D4 (b3.a.nd d.node).Bb v:=by obtain⟨n',m',ps,wa⟩:=w8.w.pa;exact aAZ wa ţ.Zm (ţ.Zm.Bb G_.ok d.node)
 have aIk:(b3.a.nd d.node).Bb.length<=1000000000:=ţ.Zm.Bb G_.ok d.node;have Wc:g.row=[I g.node,I g.Bc,.str g.name,.bool g.O2]:=rfl;rw[Cl.row] at cg l3b;have I2:Ev cx 189 [Pt bi 0,.str nm] h λr h'=>r= .bool true/\∃o' c' G',BX h' bi a o' c' t G' (BS.GH fe.c d.node an.node s')/\B2 (BS.GH fe.c d.node an.node s').A6 c'/\DC h (Bu bi G) h' (Bu bi G'):=by
  unfold Ev;rw[M8,uZ];simp only[abS,Nat.reduceLeDiff,↓reduceIte,AR,W.Ac,qU,l3,e1,<-y,l0,r2.Ac,o8,pQ,U.Ac,r4.Ac,eN,(Ab:¬((k+1+N:Nat):Int)<0),VI,r5.Ac,r6.Ac,s5,s6,l9,s7];simp only[abS,r7.Ac,l5,r8.Ac];simp only[abS,l13,r9.Ac];simp only[BD,l3b,l9b];simp only[abS,↓reduceIte,E9,cg.Ac,BI,r11.Ac,l9b];simp only[BD,w8.l0,l9c,r12.Ac,AU.CN bo];have x8':DC h (MV h.length bi G) L (MV h.length bi G8):=(((x4.trans i.x).trans (EV w6' h.length)).trans (EV x7 h.length)).trans (EV x8 h.length);refine DM (i:=0) (λj:Nat=>[I (j:Int)]) (λj A=>j<=(b3.a.nd d.node).Bb.length/\∃J,BX A bi a o5 c5 t J {b3 with a:=BS.CB b3.a g.node ((b3.a.nd d.node).Bb.take j)}/\Ey {b3 with a:=BS.CB b3.a g.node ((b3.a.nd d.node).Bb.take j)}/\B6 {b3 with a:=BS.CB b3.a g.node ((b3.a.nd d.node).Bb.take j)} (m+7)/\DC L (Bu bi G8) A (Bu bi J)) (λj=>(b3.a.nd d.node).Bb.length-j)
   (λj A=>j=(b3.a.nd d.node).Bb.length/\∃J,BX A bi a o5 c5 t J {b3 with a:=BS.CB b3.a g.node ((b3.a.nd d.node).Bb.take j)}/\Ey {b3 with a:=BS.CB b3.a g.node ((b3.a.nd d.node).Bb.take j)}/\B6 {b3 with a:=BS.CB b3.a g.node ((b3.a.nd d.node).Bb.take j)} (m+7)/\DC L (Bu bi G8) A (Bu bi J)) 0 rfl ⟨AV _,G8,w8,G_,ţ,.refl⟩ ?_ ?_
  .rintro j A ⟨hj,J,w9,vN,cj,Z⟩;rcases AP j (b3.a.nd d.node).Bb.length with hlt|Eg
   .have e9:=AU.BK (k:= .i64) bo hlt;obtain⟨VU,K,V,Uo,cm⟩:=pD (x:=(b3.a.nd d.node).Bb[j]) (p:=g.node) (bf:=0) w9 vN.ba cj;have lej:=(M7 (n:=g.node) (l:=(b3.a.nd d.node).Bb.take j) G_.ok).2;rw[Um (by show((BS.CB b3.a g.node ((b3.a.nd d.node).Bb.take j)).nd g.node).kind=4;rw[lej.kind _ fr.has];exact fr.kind)] at Uo;have hs:BS.CB b3.a g.node ((b3.a.nd d.node).Bb.take (j+1))=(BS.CB b3.a g.node ((b3.a.nd d.node).Bb.take j)).FT g.node (b3.a.nd d.node).Bb[j] 0:=by rw[AB hlt,Rm]
    rw[Ce] at e9;simp only[abS,(Ab:(j:Int)<((b3.a.nd d.node).Bb.length:Int)),e9,V.Ac,BM (Ab:j<9223372036854775807)];refine .next (j+1) rfl ⟨hlt,K,by rw[hs];exact Uo,?_,?_,Z.trans cm⟩ Ab
    .have:=vN.KD (Qz (p:=g.node) (n:=(b3.a.nd d.node).Bb[j]) (b:=0) vN.ok) OF;rw[hs];exact this
    .have:=cj.KD (J5 (p:=g.node) (x:=(b3.a.nd d.node).Bb[j]) (bf:=0));rw[hs];exact this
   .simp only[abS,(Ab:¬(j:Int)<((b3.a.nd d.node).Bb.length:Int))];exact .HF j rfl ⟨Ab,J,w9,vN,cj,Z⟩
  .rintro j A ⟨rfl,J,w9,vN,cj,Z⟩;rw[Bx] at w9 vN cj;have hl8:h.length<L.length:=(Ak.1 Q).1;have hn9:¬Bu bi J h.length:=λhg=>by
    rcases Z.Bu h.length hg with hg|hg
    .exact hn8 hg
    .omega
   have P:A[h.length]?=_:=(Z.old h.length hl8 hn8).trans Q;have l9d:A8 A none (Pt h.length 9)=some (I d.node):=At.load ⟨_,P,rfl⟩;have le9:=(M7 (n:=g.node) (l:=(b3.a.nd d.node).Bb) G_.ok).2;have lef:Le b.a (BS.CB b3.a g.node (b3.a.nd d.node).Bb):=((le0.trans le2).trans le8).trans le9;obtain⟨VU,K,V,Uo,cm⟩:=pD (x:=g.node) (p:=d.node) (bf:=0) w9 vN.ba cj;rw[Um (by show((BS.CB b3.a g.node (b3.a.nd d.node).Bb).nd d.node).kind=4;rw[lef.kind _ lj.1];exact lj.2.1)] at Uo;have lQ:h.length<A.length:=(Ak.1 P).1;have aNk:¬Bu bi K h.length:=λhg=>by
    rcases cm.Bu h.length hg with hg|hg
    .exact hn9 hg
    .omega
   have aIl:VU[h.length]?=_:=(cm.old h.length lQ hn9).trans P;have l3c:A8 VU none (Pt h.length 3)=some (I (q:Int)):=At.load ⟨_,aIl,rfl⟩;have aNl:=cj.KD (J5 (p:=d.node) (x:=g.node) (bf:=0));have Ť:B2 ({b3 with a:=(BS.CB b3.a g.node (b3.a.nd d.node).Bb).FT d.node g.node 0}:BS).A6 c5:=by simp only;rw[Nv];exact i.hc
   have hqa:=i.rm.A6;obtain⟨lN,TK,r14,ť,lp,Ŧ,x11⟩:=bz Uo Ť aNl aIl aNk (k:=q) (by simp only;rw[Nv];exact hq) ⟨Ab,Ab⟩ ⟨Ab,Ab⟩;simp only at ť lp;have l1:A8 lN none (Pt h.length 1)=some (.str fe.c.name):=At.load ⟨_,Ŧ,rfl⟩;have l2:A8 lN none (Pt h.length 2)=some fe.v:=At.load ⟨_,Ŧ,rfl⟩;have l4:A8 lN none (Pt h.length 4)=some (I (down q (s'.2.2:Int))):=At.load ⟨_,Ŧ,rfl⟩;obtain⟨fs2,aD0,Sx⟩:=lp;have aSF:b3.A6.length=s'.1.A6.length:=by rw[Nv]
   have aSG:fs2.length<=900000000:=by have h1:=Ca List.length aD0;rw[An,Hj (by rw[Nv];exact hq)] at h1;omega
   have aNb:=KE.2.1;obtain⟨u1,e2,he2,r15,O9⟩:=aMr (h:=lN) (id:=bi) (o:=3) (l:=fs2) ⟨TK,ť.qX,Sx⟩ Ab (e:=⟨{fe.c with node:=g.node},fe.v,fe.ok⟩) (by unfold ZL;simp only;omega) (down q (s'.2.2:Int));have aNn:BL cx 335 [Pt bi 3,.agg [I g.node,.str fe.c.name,fe.v],I (down q (s'.2.2:Int))] lN (.tuple []) (put lN bi 3 u1):=r15;obtain⟨Un,VY⟩:∃Un:Nat,Un=if q<s'.2.2 then s'.2.2 -1 else s'.2.2:=⟨_,rfl⟩
   have yg:down q (s'.2.2:Int)=(Un:Int):=by rw[VY];unfold down;split<;>split<;>omega
   have w12:=ť.Kr (u:=u1) (l:=(Bf b3.A6 q).take (CI Un (Bf b3.A6 q).length)++{fe.c with node:=g.node}::(Bf b3.A6 q).drop (CI Un (Bf b3.A6 q).length));have ŧ:B2 ((Bf b3.A6 q).take (CI Un (Bf b3.A6 q).length)++{fe.c with node:=g.node}::(Bf b3.A6 q).drop (CI Un (Bf b3.A6 q).length)) u1:=by refine⟨_,?_,O9⟩;rw[yg,BF,Bl,Gk,JG,aD0,he2,<-aD0,An]
   have hob:=i.rm.AN;obtain⟨u2,r16,Jh⟩:=Ŏ w12.sO (by simp only;rw[ho3];omega) fe.c.node;have O:=w12.HU Jh;have qR:(CW fe.c.node b3.AN).length<=s'.1.AN.length:=by rw[<-ho3];exact J4.length_le
   have aNo:(put (put lN bi 3 u1) bi 2 u2)[h.length]?=_:=(Cb Zl).trans ((Cb Zl).trans Ŧ);have l9e:A8 (put (put lN bi 3 u1) bi 2 u2) none (Pt h.length 9)=some (I d.node):=At.load ⟨_,aNo,rfl⟩;have r17:=ZN O.sA Dx d.node;have hli: -1<=AT (Br d.node) (CW fe.c.node b3.AN)/\AT (Br d.node) (CW fe.c.node b3.AN)<=(CW fe.c.node b3.AN).length:=by rcases Dl (q:=Br d.node) (l:=CW fe.c.node b3.AN) with⟨h,_⟩|⟨n,h1,h2,_⟩<;>omega
   have add:=OB (a:=AT (Br d.node) (CW fe.c.node b3.AN)) (b:=1) Ab Ab;obtain⟨u3,r18,ŝ⟩:=aMd O.sO Dx g (AT (Br d.node) (CW fe.c.node b3.AN)+1);have w14:=O.HU ŝ;simp only[abS,Nat.reduceLeDiff,↓reduceIte,AR,E9,l9d,V.Ac,l3c,r14.Ac,l1,l2,lg,l4,aNn.Ac,r16.Ac,l9e,r17.Ac,add,r18.Ac];have hE:BS.GH fe.c d.node an.node s'={b3 with a:=(BS.CB b3.a g.node (b3.a.nd d.node).Bb).FT d.node g.node 0,A6:=(Bf b3.A6 q).take (CI Un (Bf b3.A6 q).length)++{fe.c with node:=g.node}::(Bf b3.A6 q).drop (CI Un (Bf b3.A6 q).length),AN:=(CW fe.c.node b3.AN).take (E0 (AT (Br d.node) (CW fe.c.node b3.AN)+1) (CW fe.c.node b3.AN).length)++g::(CW fe.c.node b3.AN).drop (E0 (AT (Br d.node) (CW fe.c.node b3.AN)+1) (CW fe.c.node b3.AN).length)}:=by
    have sx:Fe fe.c.node b3.A6=(q:Int):=by rw[Nv];exact ku
    unfold BS.GH;simp only
    rw[<-Od,<-nl,<-hnw,sx,AY,<-VY]
   rw[hE];refine⟨_,rfl,rfl,u3,u1,K,w14,ŧ,YX (Ag _) ?_⟩;exact((((x8'.trans (EV (Z.trans cm) h.length)).trans x11).trans (EV Bg h.length)).trans (EV Bg h.length)).trans (EV Bg h.length)
 obtain⟨r,h',hr,rfl,o',c',G',w',Jm,x'⟩:=I2.ret;rw[e];exact⟨h',o',c',G',hr,w',Jm,x'⟩
end
section
variable{h h':Ah}{bi a ai:Nat}{o c t:Aa}{G G' F:Nat->Prop}{b b':BS}{x:Int}{m:Nat}
variable{nm:Ai}{av:Aa}{l:List A5}{r:List Aa}{sp p:Int}{e:Cl}{at_ mk last:Int}{anc far:Item}
def lq{blk anc:Int}{far i:Nat}{l:Int}{mk:Nat}:(BS.Fp blk anc far i b l mk).1.AN.length<=b.AN.length:=by
 have h1:(Bf b.AN i).length<=b.AN.length:=Dt.length_le;unfold BS.Fp;simp only
 split;.exact h1
 .split;.exact h1
  .have Oc:∀nm l p,(b.Er nm l 1 p).AN=b.AN:=λnm l p=>by unfold BS.Er;rw[Af JV]
   simp only[Oc,Bq];exact Ag _
def bV{blk anc:Int}{far k m:Nat}:∀{c:Nat} {s:BS×Int×Nat},B6 s.1 (m+4*c)->B6 (BS.KC blk anc far k c s).1 m/\(BS.KC blk anc far k c s).1.AN.length<=s.1.AN.length
 |0,s,r=>⟨r.le Ab,Ag _⟩
 |c+1,s,r=>by have d:=OM (blk:=blk) (anc:=anc) (far:=far) (i:=k+(c+1)) (l:=s.2.1) (mk:=s.2.2) (m:=m+4*c) (r.le Ab);have h:=bV (blk:=blk) (anc:=anc) (far:=far) (k:=k) (m:=m) (c:=c) (s:=BS.Fp blk anc far (k+(c+1)) s.1 s.2.1 s.2.2) d;exact⟨h.1,Bs h.2 lq⟩
def pS{fe:Cp}{blk anc:Int}{s:BS×Int×Nat}(r:B6 s.1 (m+4))(KE:fe.name.length<=1000/\DL fe.Ay):B6 (BS.GH fe blk anc s) m/\(BS.GH fe blk anc s).AN.length<=s.1.AN.length+1:=by
 unfold BS.GH;simp only
 generalize bF:s.1.place anc=pb;have j:=r.KD (J6 (x:=s.2.1) (p:=pb.1) (bf:=pb.2));generalize Od:({s.1 with a:=s.1.a.Ex s.2.1 pb.1 pb.2}:BS)=b2 at j;have Zh:b2.AN=s.1.AN:=by rw[<-Od]
 have d:=Ja (m:=m+1) (nm:=fe.name) (l:=fe.Ay) (sp:=1) (p:=blk) (j.le Ab) KE.2;have Oc:(b2.Er fe.name fe.Ay 1 blk).AN=b2.AN:=by unfold BS.Er;rw[Af JV]
 have g:(b2.GA fe.name fe.Ay 1).name.length<=1000:=N0 KE.1;generalize b2.Er fe.name fe.Ay 1 blk=b3 at*;generalize b2.GA fe.name fe.Ay 1=n at*;have q:=d.KD ((Rj (n:=n.node) (l:=(b3.a.nd blk).Bb)).trans (J5 (p:=blk) (x:=n.node) (bf:=0)));have L8:∀{U:Type} (l:List U) (k:Nat) (y:U),(l.take k++y::l.drop k).length=l.length+1/\∀z∈l.take k++y::l.drop k,z∈l\/z=y:=λl k y=>⟨by rw[Au,A9,Aw,Bd];omega,λz hz=>by
  rcases Ax.1 hz with hz|hz
  .exact .inl (Bp hz)
  .rcases AS.1 hz with rfl|hz
   .exact .inr rfl
   .exact .inl (Bw hz)⟩
 have hr:=J4 (n:=fe.node) (l:=b3.AN);have hd:=Dt (l:=b3.A6) (k:=(Fe fe.node b3.A6).toNat);have f:=q.le (m':=m) Ab;refine⟨⟨f.n,f.at_,f.data,?_,?_,f.tm,λe he=>?_,λi hi=>?_⟩,?_⟩;.simp only[(L8 _ _ _).1];have:=hr.length_le;have:=d.AN;omega
 .simp only[(L8 _ _ _).1];have:=hd.length_le;have:=d.A6;omega
 .rcases(L8 _ _ _).2 e he with he|rfl
  .exact d.DE e (hd.subset he)
  .exact KE
 .rcases(L8 _ _ _).2 i hi with hi|rfl
  .exact d.VM i (hr.subset hi)
  .exact g
 .simp only[(L8 _ _ _).1];have h1:=hr.length_le;have h2:=Ca List.length (Oc.trans Zh);omega
def ON(r:B6 b (m+4*b.AN.length+10))(nm:Ai):B6 (b.round nm).2 m/\(b.round nm).2.AN.length<=b.AN.length+1:=by
 have d:B6 b m:=r.le Ab;unfold BS.round;simp only
 split
 .have key:(b.CO nm).a=b.a/\List.Sublist (b.CO nm).AN b.AN/\(b.CO nm).A6=b.A6/\(b.CO nm).tm=b.tm:=by
   unfold BS.CO;split
   .split;.exact⟨rfl,HM.trans CT,rfl,rfl⟩
    .exact⟨rfl,A4 _,rfl,rfl⟩
   .exact⟨rfl,A4 _,rfl,rfl⟩
  exact⟨d.sub key.1 key.2.1 (by rw[key.2.2.1];exact A4 _) (by rw[key.2.2.2];exact Ag _),Bs key.2.1.length_le (Ff _)⟩
 .rename_i hf;obtain⟨f,Hp,g⟩:=Tk (Jt.1 hf);have WU:b.A6.getD (GF nm b.A6).toNat Cp.zero=b.A6[f]:=by rw[g,AY,AJ,Al Hp];rfl
  have KE:=r.DE _ (AL Hp);rw[WU];split;.exact⟨d.sub rfl (A4 _) Dt (Ag _),Ff _⟩
  .split;.exact⟨d,Ff _⟩
   .split;.exact⟨d.sub rfl HM Dt (Ag _),Bs HM.length_le (Ff _)⟩
    .rename_i hk _ hfa;have hlt:(D3 b.A6[f].node b.AN).toNat-1 -(AT (Br b.A6[f].node) b.AN).toNat<=b.AN.length:=by
      rw[IH];split;.omega
      .unfold EZ;split;.rename_i j hj;have:=(EI.1 hj).1;rw[Bd] at this;omega
       .omega
     have h1:=bV (blk:=(b.AN.getD (D3 b.A6[f].node b.AN).toNat Item.zero).node) (anc:=(b.AN.getD ((AT (Br b.A6[f].node) b.AN).toNat-1) Item.zero).node) (far:=(D3 b.A6[f].node b.AN).toNat) (k:=(AT (Br b.A6[f].node) b.AN).toNat) (m:=m+4) (c:=(D3 b.A6[f].node b.AN).toNat-1 -(AT (Br b.A6[f].node) b.AN).toNat) (s:=(b,(b.AN.getD (D3 b.A6[f].node b.AN).toNat Item.zero).node,(GF nm b.A6).toNat)) (r.le Ab);have h2:=pS (fe:=b.A6[f]) (blk:=(b.AN.getD (D3 b.A6[f].node b.AN).toNat Item.zero).node) (anc:=(b.AN.getD ((AT (Br b.A6[f].node) b.AN).toNat-1) Item.zero).node) h1.1 KE;exact⟨h2.1,Bs h2.2 (Nat.succ_le_succ h1.2)⟩
def Nb:∀{n:Nat} {b:BS} {k:Nat},b.AN.length<=k->B6 b (m+n*(4*(k+n)+10))->B6 (BS.Eh n b nm) m/\(BS.Eh n b nm).AN.length<=k+n
 |0,b,k,hk,r=>⟨r.le Ab,hk⟩
 |n+1,b,k,hk,r=>by
  have e:(n+1)*(4*(k+(n+1))+10)=n*(4*(k+1+n)+10)+(4*(k+(n+1))+10):=by rw[BH,D7,(Ab:k+(n+1)=k+1+n)]
  rw[e] at r;have h1:=ON (m:=m+n*(4*(k+1+n)+10)) (r.le Ab) nm;unfold BS.Eh;simp only
  split;.have h2:=Nb (n:=n) (k:=k+1) Ab h1.1;exact⟨h2.1,Ab⟩
  .exact⟨h1.1.le Ab,Ab⟩
def aIo(w:BX h bi a o c t G b)(hc:B2 b.A6 c)(ok:Ey b)(rm:B6 b (m+8*(4*(b.AN.length+8)+10)))(nm:Ai):
  ∃h' o' c' G',BL cx 75 [Pt bi 0,.str nm] h (.tuple []) h'/\BX h' bi a o' c' t G' (b.Fz nm)/\B2 (b.Fz nm).A6 c'/\DC h (Bu bi G) h' (Bu bi G'):=by
 have ho:=rm.AN;have C:=aHC w rm;have em:AD (.Dm 1) [.str nm]=some (.sl 1 ([nm].map Cr)):=DR (ws:=[nm]) rfl AH;have r2:BL cx 162 [.agg (Fx b.AN).row,.sl 1 ([nm].map Cr)] h (.bool (Bn [nm] (Fx b.AN))) h:=vH (ws:=[nm]) Cc AH _ h;have H:=hc.at w rm (Fx b.AN).node;have E:b.LR.A6=b.A6:=by unfold BS.LR;split<;>rfl
 by_cases h1:Bn [nm] (Fx b.AN)=true/\Fe (Fx b.AN).node b.A6<0
 .obtain⟨h2,u,L,q,j⟩:=aDO w rm;have e:b.Fz nm=b.LR:=by unfold BS.Fz;rw[Af h1]
  rw[e];refine⟨h2,u,c,G,?_,q,by rw[E];exact hc,j⟩;rw[h1.1] at r2;rw[Ae,fA];simp only[abS,E9,(Iy w).Ac,C.Ac,em,r2.Ac,H.Ac,h1.2,L.Ac]
 have e:b.Fz nm=BS.Eh 8 b nm:=by unfold BS.Fz;rw[Ad h1]
 rw[e];have I2:Ev cx 75 [Pt bi 0,.str nm] h λr h'=>r= .tuple []/\∃o' c' G',BX h' bi a o' c' t G' (BS.Eh 8 b nm)/\B2 (BS.Eh 8 b nm).A6 c'/\DC h (Bu bi G) h' (Bu bi G'):=by
  unfold Ev;rw[fA];have HF:∀(Q:HG) (k:DX->List Aa->IT),(∀x vs h1,(x= .exit 0\/x= .ret)->(∃o' c' G',BX h1 bi a o' c' t G' (BS.Eh 8 b nm)/\B2 (BS.Eh 8 b nm).A6 c'/\DC h (Bu bi G) h1 (Bu bi G'))->W cx (k x vs) Q h1)->
    W cx (.loop 5 [I 0] (λd=> .op (.int .lss) [g d 0,I 8] λv14=> .Gg v14 (.call 189 [Pt bi 0,.str nm] λB=> .op (.un .not) [B] λv16=> .Gg v16 (.ret .ret [g d 0]) (.op (.int .add) [g d 0,I 1] λA=> .ret .normal [A])) (.ret (.exit 0) [g d 0])) k) Q h:=by
   intro Q k hk;refine Bi (λn:Nat=>[I ((8 -n:Nat):Int)]) (λn h1=>n<=8/\∃D v y b1,BX h1 bi a D v t y b1/\B2 b1.A6 v/\Ey b1/\B6 b1 (m+n*(4*(b.AN.length+8)+10))/\b1.AN.length<=b.AN.length+(8 -n)/\BS.Eh 8 b nm=BS.Eh n b1 nm/\DC h (Bu bi G) h1 (Bu bi y)) (λn=>n) 8 rfl ⟨Ag _,o,c,G,b,w,hc,ok,rm,Ab,rfl,.refl⟩ ?_;rintro n h1 ⟨hn,D,v,y,b1,w1,R7,VV,vK,Wl,i,z⟩;cases n with
   |zero=>simp only[abS,(AM:¬((8 -0:Nat):Int)<8)];exact hk _ _ _ (.inl rfl) ⟨D,v,y,by rw[i];exact w1,by rw[i];exact R7,z⟩
   |succ n=>
    have hsp:(n+1)*(4*(b.AN.length+8)+10)=n*(4*(b.AN.length+8)+10)+(4*(b.AN.length+8)+10):=by rw[BH,D7]
    rw[hsp] at vK;have ls:B6 b1 (m+n*(4*(b.AN.length+8)+10)+4*b1.AN.length+10):=vK.le Ab;obtain⟨h2,u,J,K,s,q,I0,j⟩:=aNd w1 R7 VV ls nm;obtain⟨Vh,aN⟩:=ON ls nm;have xy:=(Yw (nm:=nm) VV).1;have hlt:((8 -(n+1):Nat):Int)<8:=Ab;have inc:AD (.int .add) [I ((8 -(n+1):Nat):Int),I 1]=some (I ((8 -n:Nat):Int)):=by have:=BM (n:=8 -(n+1)) Ab;rwa [(Ab:8 -(n+1)+1=8 -n)] at this
    have f:BS.Eh (n+1) b1 nm=if(b1.round nm).1 then BS.Eh n (b1.round nm).2 nm else(b1.round nm).2:=rfl
    cases hr:(b1.round nm).1 with
    |true=>rw[hr] at s f;simp only[abS,hlt,s.Ac,inc];exact AK.next n rfl ⟨Ab,u,J,K,_,q,I0,xy,Vh,Ab,i.trans f,z.trans j⟩ Ab
    |false=>rw[hr] at s f;simp only[abS,hlt,s.Ac];exact hk _ _ _ (.inr rfl) ⟨u,J,K,by rw[i,f];exact q,by rw[i,f];exact I0,z.trans j⟩
  by_cases h2:Bn [nm] (Fx b.AN)=true
  .have M:¬Fe (Fx b.AN).node b.A6<0:=λh=>h1 ⟨h2,h⟩;rw[h2] at r2;simp only[abS,E9,(Iy w).Ac,C.Ac,em,r2.Ac,H.Ac,M];refine HF _ _ ?_;rintro x vs h1 (rfl|rfl) ⟨o',c',G',a1,a2,a3⟩;.simp only[BD];exact⟨_,rfl,rfl,o',c',G',a1,a2,a3⟩
   .simp only[BD];exact⟨_,rfl,rfl,o',c',G',a1,a2,a3⟩
  .have h2:Bn [nm] (Fx b.AN)=false:=by simpa using h2
   rw[h2] at r2;simp only[abS,E9,(Iy w).Ac,C.Ac,em,r2.Ac];refine HF _ _ ?_;rintro x vs h1 (rfl|rfl) ⟨o',c',G',a1,a2,a3⟩;.simp only[BD];exact⟨_,rfl,rfl,o',c',G',a1,a2,a3⟩
   .simp only[BD];exact⟨_,rfl,rfl,o',c',G',a1,a2,a3⟩
 obtain⟨r,h',hr,rfl,o',c',G',w',Jm,x'⟩:=I2.ret;exact⟨h',o',c',G',hr,w',Jm,x'⟩
end
structure pT where
 k:Int
 name:Ai
 Ay:List A5
 Bc:Int
 a:Int
 b:Bool
 s:Ai
 r:Int
 n:Int
def N3(h:Int):Item:=⟨h,0,[],false⟩
def YY(b:BS)(q:pT):BS×Item:=
 if q.k=1 then(b.EF q.name q.Ay 1,N3 (b.a.len+1))
 else if q.k=2 then(b.EF q.name q.Ay q.Bc,N3 (b.Pe q.Bc))
 else if q.k=3 then(b.Ko q.name q.Ay,N3 (b.a.len+1))
 else if q.k=4 then(b.VL q.r,Item.zero)
 else if q.k=5 then(b.Hq q.s q.a,Item.zero)
 else if q.k=6 then(b.HS q.name q.Ay q.n,Item.zero)
 else if q.k=7 then(b.F7,Item.zero)
 else if q.k=8 then(b.CM,Item.zero)
 else if q.k=9 then(b.CO q.name,Item.zero)
 else if q.k=10 then(b.Fz q.name,Item.zero)
 else if q.k=11 then(b.HL,Item.zero)
 else if q.k=12 then(b.Ge q.Ay q.a,Item.zero)
 else if q.k=13 then(b.Cx,Item.zero)
 else if q.k=14 then({b with stop:=true},Item.zero)
 else if q.k=15 then({b with ET:=q.b},Item.zero)
 else if q.k=16 then({b with tm:=b.tm++[q.n]},Item.zero)
 else if q.k=17 then({b with A6:=b.A6++[Cp.zero]},Item.zero)
 else if q.k=18 then(b.LR,b.oM)
 else if q.k=19 then({b with head:=q.a},Item.zero)
 else if q.k=20 then({b with mode:=q.n},Item.zero)
 else if q.k=21 then({b with A6:=EE b.A6},Item.zero)
 else if q.k=22 then({b with AN:=Dq Cu (Bn [q.name]) b.AN},Item.zero)
 else if q.k=23 then({b with Fk:=q.a},Item.zero)
 else if q.k=24 then(b.Er q.name q.Ay q.Bc q.a,b.GA q.name q.Ay q.Bc)
 else(b,Item.zero)
structure ly(q:pT):Prop where
 name:q.name.length<=1000
 Ay:DL q.Ay
 s:q.s.length<=1000
 r: -2147483648<=q.r/\q.r<=2147483647
section
variable{b:BS}{q:pT}{m j:Nat}
def aD2(o:Ey b){nm:Ai}{l:List A5}{sp p:Int}:Ey (b.Er nm l sp p):=by
 by_cases hs:BS.H8 sp;.exact(P5 o hs).1
 .unfold BS.Er;rw[Ad hs];exact o
def cq(o:Ey b):Ey {b with A6:=b.A6++[Cp.zero]}:=by have:=o.aCT (e:=Cp.zero) (k:=b.A6.length) (.inl rfl) (.inl rfl);rw[Bx,Ep] at this;exact this
def EC{U:Type}{P:U->Prop}{c:Prop}[Decidable c]{x y:U}(h1:P x)(h2:P y):P (if c then x else y):=by split;exact h1;exact h2
def YZ{P:BS×Item->Prop}(h1:P (b.EF q.name q.Ay 1,N3 (b.a.len+1)))(h2:P (b.EF q.name q.Ay q.Bc,N3 (b.Pe q.Bc)))(B:P (b.Ko q.name q.Ay,N3 (b.a.len+1)))(A:P (b.VL q.r,Item.zero))(z:P (b.Hq q.s q.a,Item.zero))(y:P (b.HS q.name q.Ay q.n,Item.zero))(x:P (b.F7,Item.zero))(w:P (b.CM,Item.zero))(v:P (b.CO q.name,Item.zero))(VU:P (b.Fz q.name,Item.zero))(lN:P (b.HL,Item.zero))(u:P (b.Ge q.Ay q.a,Item.zero))(t:P (b.Cx,Item.zero))(p:P ({b with stop:=true},Item.zero))(o:P ({b with ET:=q.b},Item.zero))(l:P ({b with tm:=b.tm++[q.n]},Item.zero))(k:P ({b with A6:=b.A6++[Cp.zero]},Item.zero))(i:P (b.LR,b.oM))(h:P ({b with head:=q.a},Item.zero))(g:P ({b with mode:=q.n},Item.zero))(f:P ({b with A6:=EE b.A6},Item.zero))(e:P ({b with AN:=Dq Cu (Bn [q.name]) b.AN},Item.zero))(d:P ({b with Fk:=q.a},Item.zero))(c:P (b.Er q.name q.Ay q.Bc q.a,b.GA q.name q.Ay q.Bc))(h0:P (b,Item.zero)):P (YY b q):=by unfold YY;exact EC h1 (EC h2 (EC B (EC A (EC z (EC y (EC x (EC w (EC v (EC VU (EC lN (EC u (EC t (EC p (EC o (EC l (EC k (EC i (EC h (EC g (EC f (EC e (EC d (EC c (h0))))))))))))))))))))))))
def aD3(o:Ey b):Ey (YY b q).1:=YZ (P:=λr=>Ey r.1) (P6 (nm:=q.name) (at_:=q.Ay) (sp:=1) o) (P6 o) (jw o) (yV o) (Ys o) (uH o) (jy o) (Yu o) (bE o) (bH o) (S5 o) (oT o) (Yt o) (o.of_eq rfl rfl rfl rfl) (o.of_eq rfl rfl rfl rfl) (o.of_eq rfl rfl rfl rfl) (cq o) (ux o) (o.of_eq rfl rfl rfl rfl) (o.of_eq rfl rfl rfl rfl) (o.oR (Df _ _)) (o.LM CT) (o.of_eq rfl rfl rfl rfl) (aD2 o) o
def B6.cr{k m:Nat}{h:Int}{x:ES}(r:B6 b (m+k))(h1:x.Ay.length<=(b.a.nd h).Ay.length+k\/x.Ay.length<=1000)(h2:x.data.length<=(b.a.nd h).data.length+k\/x.data.length<=100000):B6 {b with a:=b.a.set h x} m:=by
 have hn:(b.a.set h x).n.length=b.a.n.length:=by have:=è (A:=b.a) (h:=h) (x:=x);unfold Ar.len at this;omega
 have c:=r.le (m':=m) Ab;have rn:=r.n;refine⟨by simp only;rw[hn];exact c.n,λy=>?_,λy=>?_,c.AN,c.A6,c.tm,c.DE,c.VM⟩
 .simp only;rw[JP];split;.rename_i d;have:=r.at_ h;omega
  .exact c.at_ y
 .simp only;rw[JP];split;.have:=r.data h;omega
  .exact c.data y
def Vj{m:Nat}{s:Ai}{p bf:Int}(r:B6 b (m+5))(hs:s.length<=4):B6 {b with a:=BS.LK b.a s p bf} m:=by
 have NF:∀d,B6 {b with a:=(b.a.add {kind:=5,CQ:=d,data:=s}).Ex (b.a.len+1) p bf} m:=λd=>((r.le (m':=m+1) Ab).JI (NZ (AV _) Dx)).KD J6
 have c:=r.le (m':=m) Ab;unfold BS.LK;split
 .split
  .split;.exact B6.cr (k:=5) r (.inl Dx) (.inl (by simp only[Au];omega))
   .exact NF _
  .exact NF _
 .exact c
def Ks{m:Nat}{s:Ai}{p bf:Int}(r:B6 b (m+5))(hs:s.length<=100000):B6 {b with a:=BS.E1 b.a s p bf} m:=by
 unfold BS.E1;split;.exact((r.le (m':=m+1) Ab).JI (NZ (AV _) hs)).KD J6
 .exact r.le Ab
end
section
variable{b:BS}{q:pT}{m j:Nat}{nm:Ai}
def Y0{l:List A5}{x:Int}(r:B6 b (m+1000))(hl:l.length<=1000):B6 (b.Ge l x) m:=by
 unfold BS.Ge;split;.refine B6.cr (k:=1000) r (.inl ?_) (.inl Dx);have:=Qy (l:=(b.a.nd x).Ay++BS.plain l);rw[Au,BS.plain,An] at this;unfold BS.plain;simp only;omega
 .exact r.le Ab
def bW:∀{l:List Cp} {b:BS},(BS.Jn l b).2.AN.length<=b.AN.length+l.length/\(BS.Jn l b).2.A6=b.A6/\(BS.Jn l b).1.length=l.length/\∀e∈(BS.Jn l b).1,∃a∈l,e.name=a.name/\e.Ay=a.Ay
 |[],b=>⟨by simp[BS.Jn],rfl,rfl,λe he=>by simp[BS.Jn] at he⟩
 |e::l,b=>by
  obtain⟨h1,h2,g,f⟩:=bW (l:=l) (b:=b.EF e.name e.Ay 1);have i:(b.EF e.name e.Ay 1).AN.length<=b.AN.length+1:=by
   unfold BS.EF;rw[Af JV];simp only
   have:(b.Er e.name e.Ay 1 (b.place 0).1).AN=b.AN:=by unfold BS.Er;rw[Af JV]
   rw[Au,Be];first|(rw[this];exact Ag _)|exact Ag _
  rw[BS.Jn];refine⟨by simp only[A9];omega,by simp only;rw[h2,EU],by simp only[A9,g],λh he=>?_⟩;rcases AS.1 he with rfl|he
  .exact⟨e,AH,rfl,rfl⟩
  .obtain⟨a,d,c⟩:=f h he;exact⟨a,by simp[d],c⟩
def Tl(r:B6 b (m+4*b.A6.length)):B6 b.CM m/\b.CM.AN.length<=b.AN.length+b.A6.length/\b.CM.A6.length=b.A6.length:=by
 have hk:=Ti (b:=b);have a:=bR (l:=b.A6.drop b.Lt) (b:=b) (m:=m) (r.le (by rw[Bd];omega)) λe he=>r.DE e (Bw he);obtain⟨h1,h2,c,h⟩:=bW (l:=b.A6.drop b.Lt) (b:=b);rw[Bd] at h1 c;have hl:b.CM.A6.length=b.A6.length:=by unfold BS.CM;simp only[Au,Aw,c];omega
 refine⟨⟨a.n,a.at_,a.data,a.AN,?_,a.tm,λe he=>?_,a.VM⟩,by unfold BS.CM;simp only;omega,hl⟩;.rw[hl];have:=r.A6;omega
 .unfold BS.CM at he;simp only at he;rcases Ax.1 he with he|he
  .exact r.DE e (Bp he)
  .obtain⟨i,g,f,d⟩:=h e he;rw[f,d];exact r.DE i (Bw g)
def pU{blk anc:Int}{far k:Nat}:∀{c:Nat} {s:BS×Int×Nat},(BS.KC blk anc far k c s).1.A6.length<=s.1.A6.length
 |0,s=>Ag _
 |c+1,s=>by
  refine Bs (pU (c:=c)) ?_;unfold BS.Fp;simp only
  split;.exact Ag _
  .split;.exact Dt.length_le
   .have:∀nm l p,(s.1.Er nm l 1 p).A6=s.1.A6:=λnm l p=>by unfold BS.Er;rw[Af JV]
    simp only[this,Bq];exact Ag _
def lz:(b.round nm).2.A6.length<=b.A6.length+1:=by
 unfold BS.round;simp only
 split
 .have:(b.CO nm).A6=b.A6:=by
   unfold BS.CO;split;.split<;>rfl
   .rfl
  rw[this];omega
 .split;.exact Bs Dt.length_le (Ff _)
  .split;.exact Ff _
   .split;.exact Bs Dt.length_le (Ff _)
    .unfold BS.GH;simp only
     generalize hs:BS.KC _ _ _ _ _ _=s;have h1:s.1.A6.length<=b.A6.length:=by rw[<-hs];exact pU
     have:∀(b2:BS) nm l p,(b2.Er nm l 1 p).A6=b2.A6:=λb2 nm l p=>by unfold BS.Er;rw[Af JV]
     simp only[this,Au,A9,Aw,Bd];have h2:∀k,(Bf s.1.A6 k).length<=s.1.A6.length:=λk=>Dt.length_le;refine Bs (m:=(Bf s.1.A6 (Fe (b.A6.getD (GF nm b.A6).toNat Cp.zero).node s.1.A6).toNat).length+1) ?_ (Nat.succ_le_succ (Bs (h2 _) h1));omega
def RV:∀{n:Nat} {b:BS},(BS.Eh n b nm).A6.length<=b.A6.length+n
 |0,b=>Ag _
 |n+1,b=>by
  have h:=lz (b:=b) (nm:=nm);unfold BS.Eh;simp only
  split;.have:=RV (n:=n) (b:=(b.round nm).2);omega
  .omega
structure Sz(b:BS)(j:Nat):Prop where
 rm:B6 b (5000000*j)
 AN:b.AN.length+1200*j<=125000
 A6:b.A6.length+10*j<=1100
def Sz.of{b':BS}(h:Sz b (j+1))(r:B6 b' (5000000*j))(h1:b'.AN.length<=b.AN.length+1200)(h2:b'.A6.length<=b.A6.length+10):Sz b' j:=⟨r,by have:=h.AN;omega,by have:=h.A6;omega⟩
def Sz.Y1{k:Nat}(h:Sz b (j+1))(hk:k<=5000000:=by omega):B6 b (5000000*j+k):=h.rm.le Ab
def Sz.Pf{b':BS}(h:Sz b (j+1))(ha:b'.a=b.a)(ho:b'.AN.Sublist b.AN)(hc:b'.A6.Sublist b.A6)(ht:b'.tm.length<=b.tm.length):Sz b' j:=
 h.of ((h.rm.le Ab).sub ha ho hc ht) (by have:=ho.length_le;omega) (by have:=hc.length_le;omega)
def Sz.LR(h:Sz b (j+1)):Sz b.LR j:=by
 unfold BS.LR;split;.exact h.Pf rfl (A4 _) (A4 _) (Ag _)
 .exact h.Pf rfl (Df _ _) (A4 _) (Ag _)
def Tm{l:List A5}{sp:Int}:(b.EF nm l sp).AN.length<=b.AN.length+1200:=by
 unfold BS.EF;split
 .rename_i hs;have:(b.Er nm l sp (b.place 0).1).AN=b.AN:=by unfold BS.Er;rw[Af hs]
  have:=Ca List.length this;simp only[Au,Be];omega
 .omega
def vO{l:List A5}:(b.Ko nm l).A6.length<=b.A6.length+10:=by
 unfold BS.Ko;simp only
 obtain⟨l',h1,h2⟩:=Yr (l:=(b.EF nm l 1).A6) (e:=⟨b.a.len+1,nm,l⟩);rw[h2,Au,Be];have:=h1.length_le;rw[EU] at this;omega
def aD4(h:Sz b (j+1))(hq:ly q):Sz (YY b q).1 j:=YZ (P:=λr=>Sz r.1 j)
 (h.of (Lu (sp:=1) h.Y1 hq.Ay hq.name) Tm (by rw[EU];omega))
 (h.of (Lu h.Y1 hq.Ay hq.name) Tm (by rw[EU];omega))
 (h.of (oV h.Y1 hq.Ay hq.name) Tm vO)
 (h.of (Vj h.Y1 (Tf _)) (F9 _ _) (F9 _ _))
 (by
  dsimp only;unfold BS.Hq;split;.exact h.of (Ks h.Y1 (by have:=hq.s;omega)) (F9 _ _) (F9 _ _)
  .exact h.of (Ks h.Y1 (by have:=hq.s;omega)) (F9 _ _) (F9 _ _))
 (h.of ((Lu h.Y1 hq.Ay hq.name).eq rfl rfl rfl rfl) Tm (by show(b.EF q.name q.Ay 1).A6.length<=_;rw[EU];omega))
 (by
  dsimp only;unfold BS.F7;split;.exact h.Pf rfl (CT.trans CT) (A4 _) (Ag _)
  .exact h.Pf rfl (A4 _) (A4 _) (Ag _))
 (by dsimp only;have h1:=Tl (m:=5000000*j) (h.rm.le (by have:=h.A6;omega));exact h.of h1.1 (by have:=h.A6;have:=h1.2.1;omega) (by rw[h1.2.2];omega))
 (by
  dsimp only;unfold BS.CO;split
  .split;.exact h.Pf rfl (HM.trans CT) (A4 _) (Ag _)
   .exact h.Pf rfl (A4 _) (A4 _) (Ag _)
  .exact h.Pf rfl (A4 _) (A4 _) (Ag _))
 (by
  dsimp only;unfold BS.Fz;split;.exact h.LR
  .have h1:=Nb (n:=8) (b:=b) (k:=b.AN.length) (nm:=q.name) (m:=5000000*j) (Ag _) (h.rm.le (by have:=h.AN;omega));exact h.of h1.1 (by have:=h1.2;omega) (by have:=RV (n:=8) (b:=b) (nm:=q.name);omega))
 (h.Pf rfl (A4 _) (A4 _) (Ag _))
 (by
  dsimp only;have e:(b.Ge q.Ay q.a).AN=b.AN/\(b.Ge q.Ay q.a).A6=b.A6:=by unfold BS.Ge;split<;>exact⟨rfl,rfl⟩
  exact h.of (Y0 (m:=5000000*j) (h.rm.le Ab) hq.Ay.1) (by rw[e.1];omega) (by rw[e.2];omega))
 (by
  dsimp only;unfold BS.Cx;split;.exact h.Pf rfl (A4 _) (A4 _) (Ag _)
  .exact h.Pf rfl (show(Dq Cu (Bn [AZ]) (Dq CJ Cu b.AN)).Sublist b.AN from CT.trans CT) (Df _ _) (AH:b.tm.dropLast.length<=b.tm.length))
 (h.Pf rfl (A4 _) (A4 _) (Ag _))
 (h.Pf rfl (A4 _) (A4 _) (Ag _))
 (by dsimp only;have r:=h.rm.le (m':=5000000*j+1) Ab;have c:=r.le (m':=5000000*j) Ab;exact h.of ⟨c.n,c.at_,c.data,c.AN,c.A6,by have:=r.tm;simp only[Au,Be];omega,c.DE,c.VM⟩ (F9 _ _) (F9 _ _))
 (by
  dsimp only;refine h.of ((h.rm.le (m':=5000000*j+1) Ab).uz (e:=Cp.zero) AH (λe he=>?_) ⟨AM,AM,λa ha=>by cases ha⟩) (F9 _ _) AH;rcases Ax.1 he with he|he
  .exact .inl he
  .exact .inr (by simpa using he))
 (h.LR)
 (h.Pf rfl (A4 _) (A4 _) (Ag _))
 (h.Pf rfl (A4 _) (A4 _) (Ag _))
 (h.Pf rfl (A4 _) (Df _ _) (Ag _))
 (h.Pf rfl CT (A4 _) (Ag _))
 (h.Pf rfl (A4 _) (A4 _) (Ag _))
 (by
  dsimp only;have e:(b.Er q.name q.Ay q.Bc q.a).AN=b.AN/\(b.Er q.name q.Ay q.Bc q.a).A6=b.A6:=by unfold BS.Er;split<;>exact⟨rfl,rfl⟩
  exact h.of (Ja (m:=5000000*j) (h.rm.le Ab) hq.Ay) (by rw[e.1];omega) (by rw[e.2];omega))
 (h.Pf rfl (A4 _) (A4 _) (Ag _))
end
def LO(q:pT)(av:Aa):List Aa:=[I q.k,.str q.name,av,I q.Bc,I q.a,.bool q.b,.str q.s,.int .i32 q.r,I q.n]
section
variable{h h':Ah}{bi a:Nat}{o c t:Aa}{G G' F:Nat->Prop}{b:BS}{x:Int}{m j:Nat}{q:pT}
variable{nm:Ai}{av:Aa}{l:List A5}{r:List Aa}{sp p:Int}
def VZ(hv:Bt q.Ay av)(hl:q.Ay.length<=1000)(h:Ah):∃r Vk,BL cx 66 [.agg (LO q av)] h (.agg r) h/\N2 q.name Vk r/\Bt q.Ay Vk:=by have dU:AX=140737488355328:=rfl;obtain⟨u,e,hu⟩:=AU.Gy (b:=40) hv Ab;have hc:u.cells=[u]:=AU.cells hu;refine⟨_,u,?_,⟨I 2,ff,S [],ff,S [],ff,ff,ff,S [],.int .i32 0,rfl⟩,hu⟩;rw[Ae,aDa,LO];simp only[abS,Nat.reduceLeDiff,↓reduceIte,AR,e,hc]
def aIp(i:Item)(h:Ah):BL cx 81 [.agg i.row] h (.agg i.row) h:=by rw[Ae,aDb,Item.row];simp only[abS,Nat.reduceLeDiff,↓reduceIte,AR]
def aNq(w:BX h bi a o c t G b)(hc:B2 b.A6 c)(ok:Ey b)(sz:Sz b (j+1))(hq:ly q)(hv:Bt q.Ay av):
  ∃h' o' c' t' G',BL cx 24 [Pt bi 0,.agg (LO q av)] h (.agg (YY b q).2.row) h'/\BX h' bi a o' c' t' G' (YY b q).1/\B2 (YY b q).1.A6 c'/\DC h (Bu bi G) h' (Bu bi G'):=by
 unfold YY LO;by_cases d:q.k=1;.rw[Af d];dsimp only;obtain⟨r,Vk,D,hr,DJ⟩:=VZ (q:=q) hv hq.Ay.1 h;rw[LO] at D;obtain⟨h',o',G',r2,w',x'⟩:=xz (m:=5000000*j) w ok sz.Y1 hr DJ hq.Ay hq.name;refine⟨h',o',c,t,G',?_,w',by rw[EU];exact hc,x'⟩;rw[Ae,FH];simp only[abS,Nat.reduceLeDiff,↓reduceIte,AR,AQ d,D.Ac,r2.Ac];try rfl
 rw[Ad d];by_cases f:q.k=2;.rw[Af f];dsimp only;obtain⟨r,Vk,D,hr,DJ⟩:=VZ (q:=q) hv hq.Ay.1 h;rw[LO] at D;obtain⟨h',o',G',r2,w',x'⟩:=aHI (m:=5000000*j) w ok sz.Y1 hr DJ hq.Ay hq.name q.Bc;refine⟨h',o',c,t,G',?_,w',by rw[EU];exact hc,x'⟩;rw[Ae,FH];simp only[abS,Nat.reduceLeDiff,↓reduceIte,AR,d,AQ f,D.Ac,r2.Ac];try rfl
 rw[Ad f];by_cases g:q.k=3;.rw[Af g];dsimp only;obtain⟨r,Vk,D,hr,DJ⟩:=VZ (q:=q) hv hq.Ay.1 h;rw[LO] at D;obtain⟨h',o',c',G',r2,w',Jm,x'⟩:=aMV (m:=5000000*j) w hc ok sz.Y1 hr DJ hq.Ay hq.name;refine⟨h',o',c',t,G',?_,w',Jm,x'⟩;rw[Ae,FH];simp only[abS,Nat.reduceLeDiff,↓reduceIte,AR,d,f,AQ g,D.Ac,r2.Ac];try rfl
 rw[Ad g];by_cases i:q.k=4;.rw[Af i];dsimp only;obtain⟨h',G',r2,w',x'⟩:=aHQ (m:=5000000*j) w ok sz.Y1 q.r hq.r;refine⟨h',o,c,t,G',?_,w',hc,x'⟩;rw[Ae,FH];simp only[abS,↓reduceIte,AR,d,f,g,AQ i,r2.Ac];try rfl
 rw[Ad i];by_cases y:q.k=5;.rw[Af y];dsimp only;obtain⟨h',G',r2,w',x'⟩:=aHS (m:=5000000*j) w ok sz.Y1 q.s (by have:=hq.s;omega) q.a;refine⟨h',o,c,t,G',?_,w',hc,x'⟩;rw[Ae,FH];simp only[abS,↓reduceIte,AR,d,f,g,i,AQ y,r2.Ac];try rfl
 rw[Ad y];by_cases z:q.k=6;.rw[Af z];dsimp only;obtain⟨r,Vk,D,hr,DJ⟩:=VZ (q:=q) hv hq.Ay.1 h;rw[LO] at D;obtain⟨h',o',G',r2,w',x'⟩:=aHT (m:=5000000*j) w ok sz.Y1 hr DJ hq.Ay hq.name q.n;refine⟨h',o',c,t,G',?_,w',by show B2 (b.EF q.name q.Ay 1).A6 c;rw[EU];exact hc,x'⟩;rw[Ae,FH];simp only[abS,↓reduceIte,AR,d,f,g,i,y,AQ z,D.Ac,r2.Ac];try rfl
 rw[Ad z];by_cases A:q.k=7;.rw[Af A];dsimp only;obtain⟨h',o',r2,w',x'⟩:=aHU w sz.rm;refine⟨h',o',c,t,G,?_,w',by have e:b.F7.A6=b.A6:=(by unfold BS.F7;split<;>rfl);rw[e];exact hc,x'⟩;rw[Ae,FH];simp only[abS,↓reduceIte,AR,d,f,g,i,y,z,AQ A,r2.Ac];try rfl
 rw[Ad A];by_cases B:q.k=8;.rw[Af B];dsimp only;obtain⟨h',o',c',G',r2,w',Jm,x'⟩:=aH5 (m:=5000000*j) w hc ok (sz.rm.le (by have:=sz.A6;omega));refine⟨h',o',c',t,G',?_,w',Jm,x'⟩;rw[Ae,FH];simp only[abS,↓reduceIte,AR,d,f,g,i,y,z,A,AQ B,r2.Ac];try rfl
 rw[Ad B];by_cases C:q.k=9;.rw[Af C];dsimp only;obtain⟨h',o',r2,w',x'⟩:=aDJ w sz.rm q.name;refine⟨h',o',c,t,G,?_,w',by have e:(b.CO q.name).A6=b.A6:=(by unfold BS.CO;split;split<;>rfl;rfl);rw[e];exact hc,x'⟩;rw[Ae,FH];simp only[abS,↓reduceIte,AR,d,f,g,i,y,z,A,B,AQ C,r2.Ac];try rfl
 rw[Ad C];by_cases MS:q.k=10;.rw[Af MS];dsimp only;obtain⟨h',o',c',G',r2,w',Jm,x'⟩:=aIo (m:=5000000*j) w hc ok (sz.rm.le (by have:=sz.AN;omega)) q.name;refine⟨h',o',c',t,G',?_,w',Jm,x'⟩;rw[Ae,FH];simp only[abS,↓reduceIte,AR,d,f,g,i,y,z,A,B,C,AQ MS,r2.Ac];try rfl
 rw[Ad MS];by_cases Oe:q.k=11;.rw[Af Oe];dsimp only;obtain⟨h',r2,w',x'⟩:=Ŝ w sz.rm;refine⟨h',o,c,t,G,?_,w',hc,x'⟩;rw[Ae,FH];simp only[abS,↓reduceIte,AR,d,f,g,i,y,z,A,B,C,MS,AQ Oe,r2.Ac];try rfl
 rw[Ad Oe];by_cases O4:q.k=12;.rw[Af O4];dsimp only;obtain⟨r,Vk,D,hr,DJ⟩:=VZ (q:=q) hv hq.Ay.1 h;rw[LO] at D;obtain⟨h',G',r2,w',x'⟩:=aMZ (m:=5000000*j) w ok sz.Y1 hr DJ hq.Ay q.a;refine⟨h',o,c,t,G',?_,w',by have e:(b.Ge q.Ay q.a).A6=b.A6:=(by unfold BS.Ge;split<;>rfl);rw[e];exact hc,x'⟩;rw[Ae,FH];simp only[abS,↓reduceIte,AR,d,f,g,i,y,z,A,B,C,MS,Oe,AQ O4,D.Ac,r2.Ac];try rfl
 rw[Ad O4];by_cases Pl:q.k=13;.rw[Af Pl];dsimp only;obtain⟨h',o',c',t',r2,w',Jm,x'⟩:=aHZ w hc sz.rm;refine⟨h',o',c',t',G,?_,w',Jm,x'⟩;rw[Ae,FH];simp only[abS,↓reduceIte,AR,d,f,g,i,y,z,A,B,C,MS,Oe,O4,AQ Pl,r2.Ac];try rfl
 rw[Ad Pl];by_cases QM:q.k=14;.rw[Af QM];dsimp only;obtain⟨h',r2,w',x'⟩:=aM1 w;refine⟨h',o,c,t,G,?_,w',hc,x'⟩;rw[Ae,FH];simp only[abS,↓reduceIte,AR,d,f,g,i,y,z,A,B,C,MS,Oe,O4,Pl,AQ QM,r2.Ac];try rfl
 rw[Ad QM];by_cases Uq:q.k=15;.rw[Af Uq];dsimp only;have w':BX (put h bi 15 (.bool q.b)) bi a o c t G {b with ET:=q.b}:=w.put rfl rfl w.o w.t;refine⟨put h bi 15 (.bool q.b),o,c,t,G,?_,w',hc,Bg⟩;rw[Ae,FH];simp only[abS,↓reduceIte,AR,d,f,g,i,y,z,A,B,C,MS,Oe,O4,Pl,QM,AQ Uq,w.st (k:=15) (v:= .bool q.b) rfl rfl];try rfl
 rw[Ad Uq];by_cases V0:q.k=16;.rw[Af V0];dsimp only;have H:=sz.rm.tm;have dU:AX=140737488355328:=rfl;obtain⟨u,K,hu⟩:=w.t.1.Gy Ab;have J:=AU.J2 (b:=8) (a:=q.n) hu Ab;have em:AD (.Dm 1) [I q.n]=some (.sl 1 [Ce q.n]):=rfl;have Jh:D4 (b.tm++[q.n]) (.sl 1 ((b.tm++[q.n]).map Ce)):= .mk;have w':=w.pI (Ui.gp (l:=b.tm) (m:=q.n));refine⟨put h bi 6 (.sl 1 ((b.tm++[q.n]).map Ce)),o,c,_,G,?_,w',hc,Bg⟩;rw[Ae,FH];simp only[abS,↓reduceIte,AR,d,f,g,i,y,z,A,B,C,MS,Oe,O4,Pl,QM,Uq,AQ V0,w.l6,K,em,J,w.st (k:=6) (v0:=t) rfl (AU.cells Jh)];try rfl
 rw[Ad V0];by_cases Y2:q.k=17;.rw[Af Y2];dsimp only;have QE:=sz.rm.A6;obtain⟨fs,Gu,Sx⟩:=hc;obtain⟨u,r2,hu⟩:=f63 (h:=h) (id:=bi) (o:=3) (l:=fs) ⟨c,w.qX,Sx⟩ (by rw[<-Gu,An] at QE;omega);have w':=w.Kr (u:=u) (l:=b.A6++[Cp.zero]);have Jm:B2 (b.A6++[Cp.zero]) u:=⟨_,by rw[BF,Gu];rfl,hu⟩;refine⟨put h bi 3 u,o,u,t,G,?_,w',Jm,Bg⟩;rw[Ae,FH];simp only[abS,↓reduceIte,AR,d,f,g,i,y,z,A,B,C,MS,Oe,O4,Pl,QM,Uq,V0,AQ Y2,r2.Ac];try rfl
 rw[Ad Y2];by_cases ZR:q.k=18;.rw[Af ZR];dsimp only;obtain⟨h',o',r2,w',x'⟩:=aDO w sz.rm;have E:=aIp b.oM h';refine⟨h',o',c,t,G,?_,w',by have e:b.LR.A6=b.A6:=(by unfold BS.LR;split<;>rfl);rw[e];exact hc,x'⟩;rw[Ae,FH];simp only[abS,↓reduceIte,AR,E9,d,f,g,i,y,z,A,B,C,MS,Oe,O4,Pl,QM,Uq,V0,Y2,AQ ZR,r2.Ac,E.Ac];try rfl
 rw[Ad ZR];by_cases kU:q.k=19;.rw[Af kU];dsimp only;have w':BX (put h bi 7 (I q.a)) bi a o c t G {b with head:=q.a}:=w.put rfl rfl w.o w.t;refine⟨put h bi 7 (I q.a),o,c,t,G,?_,w',hc,Bg⟩;rw[Ae,FH];simp only[abS,↓reduceIte,AR,d,f,g,i,y,z,A,B,C,MS,Oe,O4,Pl,QM,Uq,V0,Y2,ZR,AQ kU,w.st (k:=7) (v:= I q.a) rfl rfl];try rfl
 rw[Ad kU];by_cases pV:q.k=20;.rw[Af pV];dsimp only;have w':=w.pH q.n;refine⟨put h bi 4 (I q.n),o,c,t,G,?_,w',hc,Bg⟩;rw[Ae,FH];simp only[abS,↓reduceIte,AR,d,f,g,i,y,z,A,B,C,MS,Oe,O4,Pl,QM,Uq,V0,Y2,ZR,kU,AQ pV,w.st (k:=4) (v:= I q.n) rfl rfl];try rfl
 rw[Ad pV];by_cases vP:q.k=21;.rw[Af vP];dsimp only;have QE:=sz.rm.A6;obtain⟨fs,Gu,Sx⟩:=hc;obtain⟨u,r2,hu⟩:=f65 (h:=h) (id:=bi) (o:=3) (l:=fs) ⟨c,w.qX,Sx⟩ (by rw[<-Gu,An] at QE;omega);have w':=w.Kr (u:=u) (l:=EE b.A6);have Jm:B2 (EE b.A6) u:=⟨_,by rw[QJ,Gu],hu⟩;refine⟨put h bi 3 u,o,u,t,G,?_,w',Jm,Bg⟩;rw[Ae,FH];simp only[abS,↓reduceIte,AR,d,f,g,i,y,z,A,B,C,MS,Oe,O4,Pl,QM,Uq,V0,Y2,ZR,kU,pV,AQ vP,r2.Ac];try rfl
 rw[Ad vP];by_cases l_:q.k=22;.rw[Af l_];dsimp only;have ho:=sz.rm.AN;have em:AD (.Dm 1) [.str q.name]=some (.sl 1 ([q.name].map Cr)):=DR (ws:=[q.name]) rfl AH;obtain⟨u,r2,hu⟩:=f66 w.sO Ab (Cc (ws:=[q.name])) AH;have w':=w.HU hu;refine⟨put h bi 2 u,u,c,t,G,?_,w',hc,Bg⟩;rw[Ae,FH];simp only[abS,↓reduceIte,AR,d,f,g,i,y,z,A,B,C,MS,Oe,O4,Pl,QM,Uq,V0,Y2,ZR,kU,pV,vP,AQ l_,em,r2.Ac];try rfl
 rw[Ad l_];by_cases yh:q.k=23;.rw[Af yh];dsimp only;have w':BX (put h bi 8 (I q.a)) bi a o c t G {b with Fk:=q.a}:=w.put rfl rfl w.o w.t;refine⟨put h bi 8 (I q.a),o,c,t,G,?_,w',hc,Bg⟩;rw[Ae,FH];simp only[abS,↓reduceIte,AR,d,f,g,i,y,z,A,B,C,MS,Oe,O4,Pl,QM,Uq,V0,Y2,ZR,kU,pV,vP,l_,AQ yh,w.st (k:=8) (v:= I q.a) rfl rfl];try rfl
 rw[Ad yh];by_cases Ũ:q.k=24;.rw[Af Ũ];dsimp only;obtain⟨r,Vk,D,hr,DJ⟩:=VZ (q:=q) hv hq.Ay.1 h;rw[LO] at D;obtain⟨h',G',r2,w',x'⟩:=xw (m:=5000000*j) w ok sz.Y1 hr DJ hq.Ay hq.name q.a q.Bc;have E:=aIp (b.GA q.name q.Ay q.Bc) h';refine⟨h',o,c,t,G',?_,w',by have e:(b.Er q.name q.Ay q.Bc q.a).A6=b.A6:=(by unfold BS.Er;split<;>rfl);rw[e];exact hc,x'⟩;rw[Ae,FH];simp only[abS,↓reduceIte,AR,E9,d,f,g,i,y,z,A,B,C,MS,Oe,O4,Pl,QM,Uq,V0,Y2,ZR,kU,pV,vP,l_,yh,AQ Ũ,D.Ac,r2.Ac,E.Ac];try rfl
 rw[Ad Ũ];refine⟨h,o,c,t,G,?_,w,hc,.refl⟩;rw[Ae,FH];simp only[abS,↓reduceIte,AR,d,f,g,i,y,z,A,B,C,MS,Oe,O4,Pl,QM,Uq,V0,Y2,ZR,kU,pV,vP,l_,yh,Ũ];try rfl
end
def N4:∀l:List Int,(l.map Ce).flatten=l.map (Aa.int .i64)
 |[]=>rfl
 |x::l=>by simp[Ce,N4 l]
def nv(q:Bool):Ar:={n:=[{kind:=1,CQ:=1,CK:=q}],i:=[0]}
def DD(q:Bool):BS:={a:=nv q,CQ:=1,AN:=[],A6:=[],mode:=1,S0:=0,tm:=[],head:=0,Fk:=0,L3:=false,ctx:=Item.zero,fs:=true,ET:=false,oL:=[],skip:=false,sw:=0,stop:=false}
def Jj(sp:Int)(nm:Ai)(l:List A5)(q:Bool):BS:=
 {(DD q).Er DI [] 1 1 with a:=((DD q).Er DI [] 1 1).a.Ex ((DD q).GA DI [] 1).node 1 0,AN:=((DD q).Er DI [] 1 1).AN++[(DD q).GA DI [] 1],L3:=true,ctx:=⟨0,sp,nm,Fj sp nm l⟩}
def LS(sp:Int)(nm:Ai)(l:List A5)(q:Bool):BS:=if Bn [AZ] (Jj sp nm l q).ctx then{Jj sp nm l q with tm:=[18]} else Jj sp nm l q
def Ur(sp:Int)(nm:Ai)(l:List A5)(q f:Bool):BS:=if f then{(LS sp nm l q).HL with Fk:= -1} else(LS sp nm l q).HL
structure EW where
 L3:Bool
 Bc:Int
 name:Ai
 Ay:List A5
 CK:Bool
 Fk:Bool
def EW.b(s:EW):BS:=if s.L3 then Ur s.Bc s.name s.Ay s.CK s.Fk else DD s.CK
def MA(s:EW)(av:Aa):List Aa:=[.bool s.L3,I s.Bc,.str s.name,av,.bool s.CK,.bool s.Fk]
def aD5(q:Bool):EJ (nv q) 0:=by
 have h0:EJ (⟨[],[]⟩:Ar) 0:=by
  have hn:∀h,¬(⟨[],[]⟩:Ar).has h:=λh d=>by have h1:=d.1;have h2:=d.2;simp at h2;omega
  exact⟨rfl,λh d=>absurd d (hn h),λh d=>absurd d (hn h),λh d=>absurd d (hn h),λh d=>absurd d (hn h),λh d=>absurd d (hn h),λh d=>absurd d (hn h),λh d=>absurd d (hn h),λh d=>absurd d (hn h),λh d=>absurd d (hn h),⟨λ_=>0,λh d=>absurd d (hn h)⟩⟩
 have hx:np {kind:=1,CQ:=1,CK:=q}:=by constructor<;>simp[Cz,Hz]
 exact Ym h0 hx (.inl ⟨rfl,rfl⟩) rfl rfl rfl rfl (λh=>absurd h.1 (AM:¬(1:Int)=4))
def OO(q:Bool):Ey (DD q):=by refine⟨aD5 q,⟨⟨GB 1,GB 1⟩,rfl⟩,λi hi=>(nomatch hi),MM,λe he=>(nomatch he),MM⟩
def OP{q:Bool}(x:Int):(DD q).a.nd x=if x=1 then{kind:=1,CQ:=1,CK:=q} else{}:=by
 unfold Ar.nd;by_cases h:x=1;.subst h;rfl
 .rw[Ad h,Ad];intro d;have h1:=d.1;have h2:=d.2;simp[DD,nv] at h2;omega
def OQ(q:Bool):Sz (DD q) 101:=by
 refine⟨⟨by simp[DD,nv],λx=>?_,λx=>?_,by simp[DD],by simp[DD],by simp[DD],λe he=>(nomatch he),λi hi=>(nomatch hi)⟩,by simp[DD],by simp[DD]⟩;.rw[OP];split<;>simp
 .rw[OP];split<;>simp
section
variable{h h':Ah}{bi a:Nat}{o c t:Aa}{G G' F:Nat->Prop}{b:BS}{x:Int}{m j:Nat}{q:pT}
variable{nm:Ai}{av:Aa}{l:List A5}{r:List Aa}{sp p:Int}
def aNr(h:Ah)(q:Bool):∃h1 h',BL cx 57 [] h (Pt h.length 0) h1/\BL cx 58 [Pt h.length 0,.bool q] h1 (I 1) h'/\PA h' h.length (h.length+1) none [⟨{kind:=1,CQ:=1,CK:=q},.slnil,.slnil,rfl⟩] (nv q)/\h'=h++[.cells [.CF (h.length+1) 0 1 13,.map none],.cells [I 1,I 0,.slnil,I 1,I 0,S [],.slnil,S [],S [],S [],.bool q,I 0,I 0]]:=by
 have dU:AX=140737488355328:=rfl;have g1:∀u:Ah,Gb u 13 168 .slnil (.sl 13 [[I 1,I 0,.slnil,I 0,I 0,S [],.slnil,S [],S [],S [],.bool q,I 0,I 0]])=some (u++[.cells [I 1,I 0,.slnil,I 0,I 0,S [],.slnil,S [],S [],S [],.bool q,I 0,I 0]],.CF u.length 0 1 13):=λu=>rfl;obtain⟨d,e⟩:∃d,d=h++[DA.cells [.slnil,.map none]]:=⟨_,rfl⟩;have A:d[h.length]?=some (.cells [.slnil,.map none]):=by rw[e];simp
 have Wl:d.length=h.length+1:=by rw[e];simp
 have g2:=g1 d;rw[Wl] at g2;have B:At d h.length 0 .slnil:=⟨_,A,rfl⟩;have w:(d++[DA.cells [I 1,I 0,.slnil,I 0,I 0,S [],.slnil,S [],S [],S [],.bool q,I 0,I 0]])[h.length]?=some (.cells [.slnil,.map none]):=(Aj Ab).trans A;have J:(d++[DA.cells [I 1,I 0,.slnil,I 0,I 0,S [],.slnil,S [],S [],S [],.bool q,I 0,I 0]])[h.length+1]?=some (.cells [I 1,I 0,.slnil,I 0,I 0,S [],.slnil,S [],S [],S [],.bool q,I 0,I 0]):=by rw[<-Wl];simp
 have aN:(d++[DA.cells [I 1,I 0,.slnil,I 0,I 0,S [],.slnil,S [],S [],S [],.bool q,I 0,I 0]]).length=h.length+2:=by rw[Au,Wl];rfl
 have s:d++[DA.cells [I 1,I 0,.slnil,I 0,I 0,S [],.slnil,S [],S [],S [],.bool q,I 0,I 0]]=h++[.cells [.slnil,.map none],.cells [I 1,I 0,.slnil,I 0,I 0,S [],.slnil,S [],S [],S [],.bool q,I 0,I 0]]:=by rw[e,AI];rfl
 generalize d++[DA.cells [I 1,I 0,.slnil,I 0,I 0,S [],.slnil,S [],S [],S [],.bool q,I 0,I 0]]=g at*;have t2:At g h.length 0 .slnil:=⟨_,w,rfl⟩;have D:=t2.store (u:= .CF (h.length+1) 0 1 13) rfl;have z:=HB (k:=0) (v:= .CF (h.length+1) 0 1 13) w;have n:(put g h.length 0 (.CF (h.length+1) 0 1 13))[h.length+1]?=_:=(Cb Ab).trans J;have M:put g h.length 0 (.CF (h.length+1) 0 1 13)=h++[.cells [.CF (h.length+1) 0 1 13,.map none],.cells [I 1,I 0,.slnil,I 0,I 0,S [],.slnil,S [],S [],S [],.bool q,I 0,I 0]]:=by rw[Io w,s,BO _ _ (Ag _),De];rfl
 generalize put g h.length 0 (.CF (h.length+1) 0 1 13)=f at*;have l3:A8 f none (Pt h.length 0)=some (.CF (h.length+1) 0 1 13):=At.load ⟨_,z,rfl⟩;have L:AD (.Fl 13) [.CF (h.length+1) 0 1 13,I 0]=some (.ptr (some (h.length+1,0))):=EY (k:= .i64) (i:=0) AM;have t3:At f (h.length+1) 3 (I 0):=⟨_,n,rfl⟩;have C:=t3.store (u:=I 1) rfl;have N:(put f (h.length+1) 3 (I 1))[h.length]?=_:=(Cb Ab).trans z;have H:=HB (k:=3) (v:=I 1) n;have K:put f (h.length+1) 3 (I 1)=h++[.cells [.CF (h.length+1) 0 1 13,.map none],.cells [I 1,I 0,.slnil,I 1,I 0,S [],.slnil,S [],S [],S [],.bool q,I 0,I 0]]:=by rw[Io n,M,BO _ _ Ab,TE];rfl
 refine⟨d,put f (h.length+1) 3 (I 1),?_,?_,⟨rfl,rfl,N,H,?_,?_,.inl ⟨rfl,λk=>?_⟩⟩,K⟩;.rw[Ae,uL];simp only[abS,↓reduceIte,AR,e]
 .have E:BL cx 158 [Pt h.length 0,.agg [I 1,I 0,.slnil,I 0,I 0,S [],.slnil,S [],S [],S [],.bool q,I 0,I 0]] d (I 1) f:=by rw[Ae,Ws];simp only[BD,Nat.reduceLeDiff,↓reduceIte,AR,lO,B.load,show AD (.Dm 13) [.agg [I 1,I 0,.slnil,I 0,I 0,S [],.slnil,S [],S [],S [],.bool q,I 0,I 0]]=some (.sl 13 [[I 1,I 0,.slnil,I 0,I 0,S [],.slnil,S [],S [],S [],.bool q,I 0,I 0]]) from rfl,g2,D,l3,show AD (.len false) [.CF (h.length+1) 0 1 13]=some (I 1) from rfl]
  have r2:BL cx 153 [Pt h.length 0,I 1] f (.ptr (some (h.length+1,0))) f:=by rw[Ae,Wq];simp only[BD,lO,l3,show AD (.int .sub) [I 1,I 1]=some (I 0) from rfl,L]
  rw[Ae,eW];simp only[abS,Nat.reduceLeDiff,↓reduceIte,AR,E.Ac,r2.Ac,C]
 .intro p hp;rw[BG] at hp;subst hp;exact .inl ⟨rfl,rfl⟩
 .simp[Gm,HT]
 .unfold Ar.inr;split;.rename_i y;have h1:=y.1;have h2:=y.2;simp[nv] at h2;have:k=1:=Ab;subst this;rfl
  .rfl
def aIq(h:Ah)(q:Bool):∃h1 h2 h' bi G,BL cx 57 [] h (Pt h.length 0) h1/\BL cx 58 [Pt h.length 0,.bool q] h1 (I 1) h2/\BL cx 60 [Pt h.length 0,I 1] h2 (Pt bi 0) h'/\BX h' bi h.length .slnil .slnil .slnil G (DD q)/\DC h (λ_=>False) h' (Bu bi G):=by
 obtain⟨h1,h2,g,r2,d,f⟩:=aNr h q;obtain⟨r,t,e,K,V,rfl,n,k,_⟩:=aHf (x:=1) d ((OQ q).rm.Zm) ((OQ q).rm.Zm.Bb (OO q).ok 1);have hx:(nv q).has 1:=⟨GB 1,GB 1⟩;have z_:(nv q).nd 1={kind:=1,CQ:=1,CK:=q}:=(OP (q:=q) 1).trans (Af rfl);rw[Af hx,z_] at e;have wt:PA (h2++t) _ _ _ _ _:=d.Dj λi hi=>Aj (d.lt i hi);refine⟨h1,h2,h2++t++[.cells (Jo h.length (DD q) .slnil .slnil .slnil)],(h2++t).length,λi=>i∈Gm h.length (h.length+1) none [⟨{kind:=1,CQ:=1,CK:=q},.slnil,.slnil,rfl⟩],g,r2,?_,⟨AH,.inr ⟨rfl,rfl⟩,Ui.nil,?_,?_⟩,?_⟩;.rw[Ae,uM];simp only[abS,Nat.reduceLeDiff,↓reduceIte,AR,e.Ac,aaS];exact⟨λh=>absurd rfl h,λ_=>⟨λh=>absurd rfl h,λ_=>rfl⟩⟩
 .exact⟨_,_,_,wt.Dj λi hi=>Aj (wt.lt i hi),λi=>aEF⟩
 .intro hm;exact absurd (wt.lt _ hm) (Dr _)
 .have En:h.length<=h2.length:=by rw[f];simp
  refine⟨Ei,λi hi _=>?_,λi hi=> .inr ?_⟩;.rw[AI,Aj Ab,f,Aj hi]
  .rcases hi with rfl|hi
   .simp;omega
   .simp[Gm,HT] at hi;omega
def yi(sp:Int)(nm:Ai)(l:List A5)(q:Bool):Ey (Jj sp nm l q)/\Sz (Jj sp nm l q) 100:=by
 refine⟨?_,?_⟩
 .obtain⟨VV,f,v⟩:=P5 (nm:=DI) (at_:=[]) (p:=1) (OO q) JV;have xy:=VV.KD (OG (n:=((DD q).GA DI [] 1).node) (p:=1) (b:=0) VV.ok) I9;have g:Le ((DD q).Er DI [] 1 1).a (((DD q).Er DI [] 1 1).a.Ex ((DD q).GA DI [] 1).node 1 0):=I9;have ho:((DD q).Er DI [] 1 1).AN=[]:=by unfold BS.Er;rw[Af JV];rfl
  have s:=xy.aCS (i:=(DD q).GA DI [] 1) (k:=0) ⟨g.has _ f.has,by rw[g.kind _ f.has];exact f.kind,by rw[g.Bc _ f.has];exact f.Bc,by rw[g.name _ f.has];exact f.name⟩ (by simp only[ho];simp);exact s.of_eq rfl rfl (by unfold Jj;simp only[ho];rfl) rfl
 .have sz:=OQ q;have e:((DD q).Er DI [] 1 1).AN=[]/\((DD q).Er DI [] 1 1).A6=[]:=by unfold BS.Er;rw[Af JV];exact⟨rfl,rfl⟩
  have u:=Ja (m:=5000000*100+1) (nm:=DI) (l:=[]) (sp:=1) (p:=1) (sz.rm.le Ab) ⟨AM,λa ha=>(nomatch ha)⟩;have r2:=u.KD (J6 (x:=((DD q).GA DI [] 1).node) (p:=1) (bf:=0));have d:=r2.aAR (i:=(DD q).GA DI [] 1) (l':=((DD q).Er DI [] 1 1).AN++[(DD q).GA DI [] 1]) AH (λj hj=>by simpa using hj) (N0 AM);exact⟨⟨d.n,d.at_,d.data,d.AN,d.A6,d.tm,d.DE,d.VM⟩,by unfold Jj;simp only[e.1];show 1+1200*100<=125000;decide,by unfold Jj;simp only[e.2];decide⟩
def Y3(sp:Int)(nm:Ai)(l:List A5)(q:Bool):Ey (LS sp nm l q)/\Sz (LS sp nm l q) 100:=by
 obtain⟨e,d⟩:=yi sp nm l q;unfold LS;split;.have r:=d.rm;exact⟨e.of_eq rfl rfl rfl rfl,⟨⟨r.n,r.at_,r.data,r.AN,r.A6,AH,r.DE,r.VM⟩,d.AN,d.A6⟩⟩
 .exact⟨e,d⟩
def ũ(sp:Int)(nm:Ai)(l:List A5)(q f:Bool):Ey (Ur sp nm l q f)/\Sz (Ur sp nm l q f) 100:=by
 obtain⟨nr,Ū⟩:=Y3 sp nm l q;have d:B6 (LS sp nm l q).HL (5000000*100):=Ū.rm.mode;unfold Ur;split;.exact⟨(S5 nr).of_eq rfl rfl rfl rfl,⟨⟨d.n,d.at_,d.data,d.AN,d.A6,d.tm,d.DE,d.VM⟩,Ū.AN,Ū.A6⟩⟩
 .exact⟨S5 nr,⟨d,Ū.AN,Ū.A6⟩⟩
def BX.yj(w:BX h bi a o c t G b)(i:Item):∃h',Cv h 4 (Pt bi 10) (.agg i.row)=some h'/\BX h' bi a o c t G {b with ctx:=i}/\DC h (Bu bi G) h' (Bu bi G):=by refine⟨h.set bi (.cells (Jo a {b with ctx:=i} o c t)),?_,⟨AO w.lt,w.o,w.t,w.w.Dj λj hj=>Ao λe=>w.nb (by rw[e];exact hj),w.nb⟩,⟨by rw[Bq];exact Ag _,λj _ hn=>Ao λe=>hn (.inl e.symm),λ_ h=> .inl h⟩⟩;simp only[Cv,w.hb];rfl
def aNs(h:Ah)(sp:Int)(nm:Ai)(hv:Bt l av)(hl:DL l)(q f q':Bool):∃h1 h2 h' bi o t G,BL cx 57 [] h (Pt h.length 0) h1/\BL cx 58 [Pt h.length 0,.bool q] h1 (I 1) h2/\BL cx 59 [Pt h.length 0,I 1,.agg [I sp,.str nm,av,.bool q',.bool f]] h2 (Pt bi 0) h'/\BX h' bi h.length o .slnil t G (Ur sp nm l q f)/\DC h (λ_=>False) h' (Bu bi G):=by
 obtain⟨h1,h2,h3,bi,G,M,r2,L,w,x⟩:=aIq h q;have hr:N2 DI .slnil [I 2,.str DI,ff,S [],ff,S [],ff,ff,.slnil,ff,S [],.int .i32 0]:=⟨I 2,ff,S [],ff,S [],ff,ff,ff,S [],.int .i32 0,rfl⟩;obtain⟨h4,G4,K,w4,X⟩:=xw (m:=1000) w (OO q).ba ((OQ q).rm.le Ab) hr (l:=[]) (.inr ⟨rfl,rfl⟩) ⟨AM,λa ha=>(nomatch ha)⟩ AM 1 1;obtain⟨nr,f4,le4⟩:=P5 (nm:=DI) (at_:=[]) (p:=1) (OO q) JV;have P:=Ja (m:=1000) (nm:=DI) (l:=[]) (sp:=1) (p:=1) ((OQ q).rm.le Ab) ⟨AM,λa ha=>(nomatch ha)⟩;obtain⟨z,g,J,T,W⟩:=pD (x:=((DD q).GA DI [] 1).node) (p:=1) (bf:=0) w4 nr.ba P;have ho:((DD q).Er DI [] 1 1).AN=[]:=by unfold BS.Er;rw[Af JV];rfl
 obtain⟨d,H,H_⟩:=f95 T.sO (by simp only[ho];decide) ((DD q).GA DI [] 1);have O:=T.HU H_;have Z:BX (put (put z bi 2 d) bi 9 tt) bi h.length d .slnil .slnil g _:=O.put (k:=9) (v:=tt) (b':={{{(DD q).Er DI [] 1 1 with a:=((DD q).Er DI [] 1 1).a.Ex ((DD q).GA DI [] 1).node 1 0} with AN:=((DD q).Er DI [] 1 1).AN++[(DD q).GA DI [] 1]} with L3:=true}) rfl rfl H_ O.t;have D:Cv (put z bi 2 d) 1 (Pt bi 9) tt=some (put (put z bi 2 d) bi 9 tt):=O.st (k:=9) (v:=tt) (v0:= .bool ((DD q).Er DI [] 1 1).L3) rfl rfl;have E:BL cx 161 [I sp,.str nm,av] (put (put z bi 2 d) bi 9 tt) (.bool (Fj sp nm l)) (put (put z bi 2 d) bi 9 tt):=f96 hv (λa ha=>by have:=(hl.2 a ha).2;have:AX=140737488355328:=rfl;omega) (by have:=hl.1;omega) sp nm _;obtain⟨u,s8,R,V⟩:=Z.yj ⟨0,sp,nm,Fj sp nm l⟩;have i:BX u bi h.length d .slnil .slnil g (Jj sp nm l q):=R;have N:DC h (λ_=>False) u (Bu bi g):=((((x.trans X).trans W).trans Bg).trans Bg).trans V;clear R;have n:=i.ś;have aD6:(Jj sp nm l q).ctx=⟨0,sp,nm,Fj sp nm l⟩:=rfl;obtain⟨aNt,Ū⟩:=Y3 sp nm l q;have y:=vH (ws:=[AZ]) Cc AM (Jj sp nm l q).ctx u;have key:∃B t9,BX B bi h.length d .slnil t9 g (LS sp nm l q)/\DC u (Bu bi g) B (Bu bi g)/\(Bn [AZ] (Jj sp nm l q).ctx=true->Cv u 1 (Pt bi 6) (.sl 1 [[I 18]])=some B)/\(Bn [AZ] (Jj sp nm l q).ctx=false->B=u):=by
  by_cases s:Bn [AZ] (Jj sp nm l q).ctx=true;.have hu:D4 [18] (.sl 1 [[I 18]]):= .mk;refine⟨put u bi 6 (.sl 1 [[I 18]]),.sl 1 [[I 18]],?_,Bg,λ_=>i.st (k:=6) (v0:= .slnil) rfl rfl,λh=>absurd s (by rw[h];decide)⟩;unfold LS;rw[Af s];exact i.pI ⟨.inl hu,λe=>by injection e with _ e;simp at e⟩
  .refine⟨u,.slnil,?_,.refl,λh=>absurd h s,λ_=>rfl⟩;unfold LS;rw[Ad s];exact i
 obtain⟨B,t9,Y,U,k1,k2⟩:=key;obtain⟨VU,cg,Uo,cm⟩:=Ŝ Y Ū.rm;have em:AD (.Dm 1) [I 18]=some (.sl 1 [[I 18]]):=rfl;have C:DC h (λ_=>False) VU (Bu bi g):=(N.trans U).trans cm;have hir:((DD q).GA DI [] 1).row=[I ((DD q).GA DI [] 1).node,I ((DD q).GA DI [] 1).Bc,.str ((DD q).GA DI [] 1).name,.bool ((DD q).GA DI [] 1).O2]:=rfl;generalize(DD q).GA DI [] 1=it at*;have yk:Cv (put (put z bi 2 d) bi 9 tt) 4 (Pt bi 10) (.agg [I 0,I sp,.str nm,.bool (Fj sp nm l)])=some u:=s8;have ky:AD (.Dm 1) [S aUd]=some (.sl 1 ([AZ].map Cr)):=pJ;cases s:Bn [AZ] (Jj sp nm l q).ctx with
 |true=>
  rw[s] at y;have A:=k1 s;cases f with
  |true=>
   refine⟨h1,h2,put VU bi 8 (I (-1)),bi,d,t9,g,M,r2,?_,?_,C.trans Bg⟩;.rw[Ae,eX];simp only[abS,Nat.reduceLeDiff,↓reduceIte,AR,E9,L.Ac,K.Ac,J.Ac,H.Ac,D,E.Ac,yk,n,ky,y.Ac,em,A,cg.Ac,Uo.st (k:=8) (v:=I (-1)) rfl rfl]
   .unfold Ur;rw[Af rfl];exact Uo.put rfl rfl Uo.o Uo.t
  |false=>refine⟨h1,h2,VU,bi,d,t9,g,M,r2,?_,Uo,C⟩;rw[Ae,eX];simp only[abS,Nat.reduceLeDiff,↓reduceIte,AR,E9,L.Ac,K.Ac,J.Ac,H.Ac,D,E.Ac,yk,n,ky,y.Ac,em,A,cg.Ac]
 |false=>
  rw[s] at y;have Q:=k2 s;subst Q;cases f with
  |true=>
   refine⟨h1,h2,put VU bi 8 (I (-1)),bi,d,t9,g,M,r2,?_,?_,C.trans Bg⟩;.rw[Ae,eX];simp only[abS,Nat.reduceLeDiff,↓reduceIte,AR,E9,L.Ac,K.Ac,J.Ac,H.Ac,D,E.Ac,yk,n,ky,y.Ac,em,cg.Ac,Uo.st (k:=8) (v:=I (-1)) rfl rfl]
   .unfold Ur;rw[Af rfl];exact Uo.put rfl rfl Uo.o Uo.t
  |false=>refine⟨h1,h2,VU,bi,d,t9,g,M,r2,?_,Uo,C⟩;rw[Ae,eX];simp only[abS,Nat.reduceLeDiff,↓reduceIte,AR,E9,L.Ac,K.Ac,J.Ac,H.Ac,D,E.Ac,yk,n,ky,y.Ac,em,cg.Ac]
def aNu(h:Ah)(s:EW)(hv:Bt s.Ay av)(hl:DL s.Ay):∃h' bi a o c t G,BL cx 22 [.agg (MA s av)] h (Pt bi 0) h'/\BX h' bi a o c t G s.b/\B2 s.b.A6 c/\DC h (λ_=>False) h' (Bu bi G):=by
 have sQ:(Jj s.Bc s.name s.Ay s.CK).A6=[]:=by unfold Jj;simp only;unfold BS.Er;rw[Af JV];rfl
 cases hf:s.L3 with
 |true=>
  obtain⟨h1,h2,h',bi,o,t,G,f,r2,d,w,x⟩:=aNs h s.Bc s.name hv hl s.CK s.Fk s.CK;refine⟨h',bi,h.length,o,.slnil,t,G,?_,by unfold EW.b;rw[Af hf];exact w,?_,x⟩;.rw[Ae,vh,MA,hf];simp only[BD,f.Ac,r2.Ac,d.Ac]
  .have e:s.b.A6=[]:=by unfold EW.b Ur LS;rw[Af hf];split<;>split<;>exact sQ
   rw[e];exact⟨[],rfl,.inr ⟨rfl,rfl⟩⟩
 |false=>
  obtain⟨h1,h2,h',bi,G,f,r2,d,w,x⟩:=aIq h s.CK;have e:s.b=DD s.CK:=by unfold EW.b;rw[Ad (by rw[hf];decide)]
  refine⟨h',bi,h.length,.slnil,.slnil,.slnil,G,?_,by rw[e];exact w,by rw[e];exact⟨[],rfl,.inr ⟨rfl,rfl⟩⟩,x⟩;rw[Ae,vh,MA,hf];simp only[BD,f.Ac,r2.Ac,d.Ac]
def EW.ok(s:EW):Ey s.b/\Sz s.b 100:=by
 unfold EW.b;split;.exact ũ _ _ _ _ _
 .have h:=OQ s.CK;exact⟨OO _,⟨h.rm.le Ab,by have:=h.AN;omega,by have:=h.A6;omega⟩⟩
end
end Go.Am
end
