/- Lemmas -/
import Derived.Test.YtkaolmlpcamojaaGreatDoorH25
set_option linter.all false
noncomputable section
set_option maxHeartbeats 0
set_option maxRecDepth 100000
section
namespace Go.Am
open Go
section
variable{h h':Ai}{bi a:Nat}{o c t:Aa}{G G' F:Nat->Prop}{b:BS}{x:Int}{m:Nat}
variable{nm:Aj}{av:Aa}{l:List A5}{r:List Aa}{sp p:Int}
def BX.aAr(w:BX h bi a o c t G b):A7 h (some 4) (Pt bi 10)=some (.agg b.ctx.row):=by simp only[A7,w.hb];rfl
def BX.rF(w:BX h bi a o c t G b)(v:Int):BX (Am.put h bi 4 (I v)) bi a o c t G {b with mode:=v}:=w.put rfl rfl w.o w.t
def BM.mode{v:Int}(rm:BM b m):BM {b with mode:=v} m:=⟨rm.n,rm.at_,rm.data,rm.AQ,rm.A6,rm.tm,rm.DB,rm.Wg⟩
def aAs(w:BX h bi a o c t G b)(rm:BM b m):
  ∃h',BG cx 76 [Pt bi 0] h (.tuple []) h'/\BX h' bi a o c t G b.HS/\DC h (Bs bi G) h' (Bs bi G):=by
 have ho:=rm.AQ;have I9:Ev cx 76 [Pt bi 0] h λr h'=>r= .tuple []/\BX h' bi a o c t G b.HS/\DC h (Bs bi G) h' (Bs bi G):=by
  unfold Ev;have w1:=w.rF 7;rw[wM];simp only[abS,(IH w).Ab,w.st (k:=4) (v:=I 7) rfl rfl,(Uz w1.sA).Ab,Da (Ac: -9223372036854775808<=(b.AQ.length:Int)-1) (Ac:(b.AQ.length:Int)-1<9223372036854775808)];refine Bm (λn:Nat=>[I ((n:Int)-1)]) (λn h1=>n<=b.AQ.length/\b.L6 b.AQ.length=b.L6 n/\h1=Am.put h bi 4 (I 7)) (λn=>n) b.AQ.length rfl ⟨Ag _,rfl,rfl⟩ ?_;rintro n h1 ⟨hn,ha,rfl⟩;cases n with
  |zero=>
   have e:b.HS={b with mode:=7}:=by unfold BS.HS;rw[ha];rfl
   simp only[abS,(Ac:¬(0:Int)<=((0:Nat):Int)-1)];exact⟨_,rfl,rfl,by rw[e];exact w1,Bf⟩
  |succ n=>
   have hlt:n<b.AQ.length:=Ac;have i1:((n+1:Nat):Int)-1=(n:Int):=Ac;have g:=Wj w1.sA (n:Int);rw[show EI ({b with mode:=7}:BS).AQ (n:Int)=b.AQ[n] from HE hlt] at g;have r2:∀i:Item,BG cx 190 [Pt bi 0,.agg i.row,I (n:Int)] (Am.put h bi 4 (I 7)) (.tuple [I ((b.Hp i n).getD 7),.bool (b.Hp i n).isSome]) (Am.put h bi 4 (I 7)):=λi=>aIG w1 rm.mode i (k:=n) Dv;have d:=r2 (b.EF n);have Ib:∀v,Cv (Am.put h bi 4 (I 7)) 1 (Pt bi 4) (I v)=some (Am.put (Am.put h bi 4 (I 7)) bi 4 (I v)):=λv=>w1.st (k:=4) rfl rfl;have e:b.L6 (n+1)=match b.Hp (b.EF n) n with|some m=>m|none=>b.L6 n:=rfl
   rw[e] at ha;have SC:=w1.l9;have hlc:=w1.aAr;have PC:=Da (Ac: -9223372036854775808<=(n:Int)-1) (Ac:(n:Int)-1<9223372036854775808);cases hm:b.Hp (b.EF n) n with
   |none=>
    rw[hm] at d ha;by_cases h0:n=0
    .have Z5:((n:Int)=0)=True:=AL Ac;cases hf:b.Mo with
     |true=>
      have f:b.EF n=b.ctx:=by unfold BS.EF;rw[Af ⟨h0,hf⟩]
      rw[f] at d;rw[show({b with mode:=7}:BS).Mo=true from hf] at SC;simp only[BE,E9,i1,g.Ab,SC,hlc,d.Ab,Ib,Jr,(Ac:(0:Int)<=(n:Int)),Z5,PC];exact AK.next n rfl ⟨Ac,ha,rfl⟩ Ac
     |false=>
      have f:b.EF n=b.AQ[n]:=by unfold BS.EF;rw[Ad (by simp[hf]),AJ,Ap hlt];rfl
      rw[f] at d;rw[show({b with mode:=7}:BS).Mo=false from hf] at SC;simp only[BE,E9,i1,g.Ab,SC,hlc,d.Ab,Ib,Jr,(Ac:(0:Int)<=(n:Int)),Z5,PC];exact AK.next n rfl ⟨Ac,ha,rfl⟩ Ac
    .have f:b.EF n=b.AQ[n]:=by unfold BS.EF;rw[Ad (by simp[h0]),AJ,Ap hlt];rfl
     rw[f] at d;have Z5:¬(n:Int)=0:=Ac;simp only[BE,E9,i1,g.Ab,d.Ab,Ib,Jr,(Ac:(0:Int)<=(n:Int)),Z5,PC];exact AK.next n rfl ⟨Ac,ha,rfl⟩ Ac
   |some v=>
    rw[hm] at d ha;have e:b.HS={b with mode:=v}:=by unfold BS.HS;rw[ha]
    have j:BX (Am.put (Am.put h bi 4 (I 7)) bi 4 (I v)) bi a o c t G b.HS:=by rw[e];exact w1.rF v
    by_cases h0:n=0
    .have Z5:((n:Int)=0)=True:=AL Ac;cases hf:b.Mo with
     |true=>
      have f:b.EF n=b.ctx:=by unfold BS.EF;rw[Af ⟨h0,hf⟩]
      rw[f] at d;rw[show({b with mode:=7}:BS).Mo=true from hf] at SC;simp only[BE,E9,i1,g.Ab,SC,hlc,d.Ab,Ib,Jr,(Ac:(0:Int)<=(n:Int)),Z5];exact⟨_,rfl,rfl,j,Bf.trans Bf⟩
     |false=>
      have f:b.EF n=b.AQ[n]:=by unfold BS.EF;rw[Ad (by simp[hf]),AJ,Ap hlt];rfl
      rw[f] at d;rw[show({b with mode:=7}:BS).Mo=false from hf] at SC;simp only[BE,E9,i1,g.Ab,SC,hlc,d.Ab,Ib,Jr,(Ac:(0:Int)<=(n:Int)),Z5];exact⟨_,rfl,rfl,j,Bf.trans Bf⟩
    .have f:b.EF n=b.AQ[n]:=by unfold BS.EF;rw[Ad (by simp[h0]),AJ,Ap hlt];rfl
     rw[f] at d;have Z5:¬(n:Int)=0:=Ac;simp only[BE,E9,i1,g.Ab,d.Ab,Ib,Jr,(Ac:(0:Int)<=(n:Int)),Z5];exact⟨_,rfl,rfl,j,Bf.trans Bf⟩
 obtain⟨r,h',hr,rfl,w',x'⟩:=I9.ret;exact⟨h',hr,w',x'⟩
def ob{h0 u:Ai}{V:Aa}{L:List A5}{N:Nat}(j:N=h0.length)(g:Jh (h0++u) V L)(i:Up N V)(hb:L.length<=1000000000)(y:A5):
  ∃f d,Gj (h0++u) 3 40 V (.sl 3 [y.row])=some (h0++f,d)/\Jh (h0++f) d (L++[y])/\Up N d:=by
 subst j;have bX:AW=140737488355328:=rfl;rcases g with⟨rfl,rfl⟩|⟨id,rfl,hc,hl⟩
 .refine⟨u++[.cells (([y]:List A5).map A5.row).flatten],.CE (h0++u).length 0 1 3,by rw[<-AI];rfl,.inr ⟨(h0++u).length,rfl,AH,AH⟩,λid k e=>by injection e with e;rw[<-e,Au];omega⟩
 .have Im:h0.length<=id:=i id _ rfl;have hg:=JY (b:=40) (AE:=L.map A5.row) (r2:=[y.row]) (v:= .sl 3 [y.row]) (aEt L) AP hc .mk AH (by rw[Ao];simp;omega);rw[Ao] at hg;have e:(h0++u).set id .CR++[.cells (L.map A5.row++[y.row]).flatten]=h0++(u.set (id-h0.length) .CR++[.cells ((L++[y]).map A5.row).flatten]):=by rw[BH _ _ Im,AI,Bu];rfl
  rw[e] at hg;have bU:(h0++(u.set (id-h0.length) Dx.CR++[.cells ((L++[y]).map A5.row).flatten]))=(h0++u.set (id-h0.length) Dx.CR)++[.cells ((L++[y]).map A5.row).flatten]:=by rw[AI]
  have nE:(h0++u.set (id-h0.length) Dx.CR).length=(h0++u).length:=AH;refine⟨_,_,hg,.inr ⟨(h0++u).length,AH,?_,?_⟩,λid k e=>by injection e with e;rw[<-e,Au];omega⟩;.rw[bU,<-nE,Bk (Ag _),C5];rfl
  .rw[bU];simp only[Au,Bq,Bd,BR];omega
def aIH(y c:A5)(h:Ai):BG cx 192 [.agg c.row,.CI y.row] h (.bool (decide (DD ⟨0,y.name,y.value⟩=DD c))) h:=by
 rw[Ae,iZ,A5.row,A5.row];simp only[BE];refine⟨λh1=>?_,λh1=>?_⟩;.congr 2;rw[Dd];simp[DD,h1];exact rh
 .rw[Ah (λe=>h1 (by simp[DD] at e;exact e.1.symm))]
def A5.cW{y:A5}:(⟨0,y.name,y.value⟩:A5).row=[I 0,.str y.name,.str y.value]:=rfl
def UD(k:Int×Aj):∀{l out:List A5},(HG out l).any (λz=>decide (k=DD z))=(out++l).any λz=>decide (k=DD z)
 |[],out=>by simp[HG]
 |y::l,out=>by
  rw[HG];split
  .rename_i h;rw[UD k,VS,VS,NV];by_cases hk:k=DD y;.subst hk;rw[h];rfl
   .simp[hk]
  .rw[UD k,AI];rfl
def B_(k:Int×Aj)(l:List A5):(Cw l).any (λz=>decide (k=DD z))=l.any λz=>decide (k=DD z):=UD k
def Q3{l:List A5}{y:A5}:Cw (l++[y])=if(Cw l).any (λz=>decide (DD y=DD z)) then Cw l else Cw l++[y]:=Zb
def aII(w:BX h bi a o c t G b)(ok:EB b)(rm:BM b (m+1000))(hr:Oq nm av r)(hv:Bi l av)(hl:DO l)(x:Int):
  ∃h' G',BG cx 77 [Pt bi 0,.agg r,I x] h (.tuple []) h'/\BX h' bi a o c t G' (b.EL l x)/\DC h (Bs bi G) h' (Bs bi G'):=by
 obtain⟨K1,V1,d,B,_,_⟩:=Wp w ok rm x;have w1:=w.HQ (u:=d);obtain⟨Y,X,W,U,T,S,Q,P,Wb,Yg,rfl⟩:=hr;have v:DC h (Bs bi G) (h++d) (Bs bi G):=w.C2;by_cases hk:(b.a.nd x).kind=4;rotate_left;.refine⟨h++d,G,?_,by unfold BS.EL;rw[Ad hk];exact w1,v⟩;rw[Ae,gQ];simp only[abS,↓reduceIte,(IH w).Ab,B.Ab,B7,hk]
 obtain⟨K2,Z,A,r2,_,f,g⟩:=Wp w1 ok rm x;have w2:=w1.HQ (u:=A);have x2:DC h (Bs bi G) (h++d++A) (Bs bi G):=v.trans w1.C2;have hx:b.a.has x:=by
  by_cases hp:b.a.has x;.exact hp
  .rw[HR hp] at hk;simp at hk
 have WC:=rm.at_ x;have tK:=hl.1;have I9:Ev cx 77 [Pt bi 0,.agg [Y,.str nm,X,W,U,T,S,Q,av,P,Wb,Yg],I x] h λr h'=>r= .tuple []/\∃G',BX h' bi a o c t G' (b.EL l x)/\DC h (Bs bi G) h' (Bs bi G'):=by
  unfold Ev;rw[gQ];have hvl:=AU.CN hv;simp only[abS,↓reduceIte,(IH w).Ab,B.Ab,r2.Ab,B7,hk,hvl];refine Bm (λs:Aa×Nat=>[s.1,I (s.2:Int)]) (λs h1=>∃u L,h1=h++d++u/\s.2<=l.length/\Jh h1 s.1 L/\Up (h++d).length s.1/\Cw L=Cw ((b.a.nd x).Av++BS.plain (l.take s.2))/\(∀y∈L,BS.Ig y.Bb)/\L.length<=(b.a.nd x).Av.length+s.2) (λs=>l.length-s.2) (Z,0) rfl ⟨A,(b.a.nd x).Av,rfl,AY _,f,g,?_,?_,AH⟩ ?_;.simp[BS.plain]
  .exact λy hy=>(ok.ok.Tm x hx).å y hy
  rintro⟨V,n⟩ h1 ⟨u,L,rfl,hn,f,g,j,hs,Er⟩;simp only at hn f g j Er;rcases AR n l.length with hlt|Eh
  .have E:=AU.BL (k:= .i64) hv hlt;rw[A5.row] at E;have i:=aB1 f.in_ Ac (F:= .func (.func 192) [] [.CI l[n].row]) (q:=λc=>decide (DD ⟨0,l[n].name,l[n].value⟩=DD c)) ⟨_,_,rfl,AP,λc=>aIH l[n] c _⟩;rw[A5.row] at i;obtain⟨O,V',g1,g2,g3⟩:=ob (N:=(h++d).length) rfl f g Ac ⟨0,l[n].name,l[n].value⟩;rw[A5.cW] at g1;have em:AD (.Dk 3) [.agg [I 0,.str l[n].name,.str l[n].value]]=some (.sl 3 [[I 0,.str l[n].name,.str l[n].value]]):=rfl;have H:Cw ((b.a.nd x).Av++BS.plain (l.take (n+1)))=Cw (L++[⟨0,l[n].name,l[n].value⟩]):=by rw[AB hlt,BS.plain,Bu,<-AI,aPp,Q3,Q3,j];rfl
   have D:Cw (L++[⟨0,l[n].name,l[n].value⟩])=if L.any (λz=>decide (DD ⟨0,l[n].name,l[n].value⟩=DD z)) then Cw L else Cw L++[⟨0,l[n].name,l[n].value⟩]:=by rw[Q3,B_]
   simp only[abS,Nat.reduceLeDiff,↓reduceIte,AT,(Ac:(n:Int)<(l.length:Int)),E,i.Ab,em,g1,BN (Ac:n<9223372036854775807)];rw[CS];refine⟨λh2=>?_,λh2=>?_⟩
   .refine AK.next (V',n+1) rfl ⟨O,_,rfl,hlt,g2,g3,H.symm,?_,Ei⟩ Dv;intro y hy;rcases Ay.1 hy with hy|hy
    .exact hs y hy
    .simp at hy;subst hy;exact⟨Dv,Dv⟩
   .have h2:(L.any λz=>decide (DD ⟨0,l[n].name,l[n].value⟩=DD z))=true:=by simpa using h2
    rw[Af h2] at D;exact AK.next (V,n+1) rfl ⟨u,L,rfl,hlt,f,g,by rw[H,D],hs,Dv⟩ Dv
  .have Pn:n=l.length:=by omega
   subst Pn;rw[Bx] at j;simp only[abS,↓reduceIte,(Ac:¬(l.length:Int)<(l.length:Int)),(w1.HQ (u:=u)).l0];obtain⟨C,G3,i,M,J⟩:=(w1.HQ (u:=u)).step (A':=b.a.JF x L) (R:=λC=>BG cx 193 [Pt a 0,I x,V] (h++d++u) (I 0) C) λn m ps K=>by obtain⟨h',JI,f1,f2,f3⟩:=aH3 K rm.ZR hx hk f.in_ Ac hs;exact⟨h',n,m,JI,f1,f2,f3⟩
   have e:b.EL l x={b with a:=b.a.JF x L}:=by unfold BS.EL;rw[Af hk];unfold Ar.JF;rw[j]
   simp only[BE,i.Ab];refine⟨_,rfl,rfl,G3,?_,?_⟩;.rw[e];exact M
   .exact(v.trans w1.C2).trans J
 obtain⟨r,h',hr,rfl,G',w',x'⟩:=I9.ret;exact⟨h',G',hr,w',x'⟩
end
section
variable{h h':Ai}{bi a:Nat}{o c t:Aa}{G G' F:Nat->Prop}{b b':BS}{x:Int}{m:Nat}
variable{nm:Aj}{av:Aa}{l:List A5}{r:List Aa}{sp p:Int}
def BM.sub(rm:BM b m)(ha:b'.a=b.a)(ho:b'.AQ.Sublist b.AQ)(hc:b'.A6.Sublist b.A6)(ht:b'.tm.length<=b.tm.length):BM b' m:=
 ⟨by rw[ha];exact rm.n,by rw[ha];exact rm.at_,by rw[ha];exact rm.data,by have:=rm.AQ;have:=ho.length_le;omega,by have:=rm.A6;have:=hc.length_le;omega,by have:=rm.tm;omega,λe he=>rm.DB e (hc.subset he),λi hi=>rm.Wg i (ho.subset hi)⟩
def aAt{v:Aa}{l:List Int}(hv:Sn l v)(hb:l.length<=1000000000)(h:Ai):∃u,BG cx 118 [v] h u h/\TC l u:=by
 have hm:AW=140737488355328:=rfl;have e0:AD (.Gl 1) []=some (.Gl 1):=rfl;rcases hv with hv|⟨rfl,rfl⟩
 .have DH:AU 1 (l.map B8) v:=hv;rcases DH with rfl|⟨rfl,h0⟩
  .cases l with
   |nil=>refine⟨.Gl 1,?_,.inr ⟨rfl,rfl⟩,nofun⟩;rw[Ae,QZ];simp only[BE,C4,show AD (.Gu false .sl) [.sl 1 [],.slnil]=some (.bool false) from rfl,e0,show AD (.append 1 8) [.Gl 1,.sl 1 []]=some (.Gl 1) from rfl]
   |cons x l=>
    have RP:((x::l).map B8).length*8<=AW:=by rw[Ao];omega
    have d:AD (.append 1 8) [.Gl 1,.sl 1 ((x::l).map B8)]=some (.sl 1 ((x::l).map B8)):=by simp only[Bj] at RP⊢;simp only[AD,H9,BJ,DM];rw[Af ⟨trivial,RP⟩]
    refine⟨_,?_,.inl .mk,λe=>by injection e with _ e;simp at e⟩;rw[Ae,QZ];simp only[BE,show AD (.Gu false .sl) [.sl 1 ((x::l).map B8),.slnil]=some (.bool false) from rfl,e0,d]
  .refine⟨.slnil,?_,.inl (.inr ⟨rfl,h0⟩),nofun⟩;rw[Ae,QZ];simp only[BE,show AD (.Gu false .sl) [.slnil,.slnil]=some (.bool true) from rfl]
 .refine⟨.Gl 1,?_,.inr ⟨rfl,rfl⟩,nofun⟩;rw[Ae,QZ];simp only[BE,show AD (.Gu false .sl) [.Gl 1,.slnil]=some (.bool false) from rfl,e0,show AD (.append 1 8) [.Gl 1,.Gl 1]=some (.Gl 1) from rfl]
def BX.mC{u:Aa}{l:List Int}(w:BX h bi a o c t G b)(hu:TC l u):BX (Am.put h bi 6 u) bi a o c u G {b with tm:=l}:=w.put rfl rfl w.o hu
def rG:AD (.Dk 1) [S aVg]=some (.sl 1 ([AM].map Cu)):=Ea (ws:=[AM]) rfl AP
def aIJ(w:BX h bi a o c t G b)(hc:B1 b.A6 c)(rm:BM b m):
  ∃h' o' c' t',BG cx 78 [Pt bi 0] h (.tuple []) h'/\BX h' bi a o' c' t' G b.Cy/\B1 b.Cy.A6 c'/\DC h (Bs bi G) h' (Bs bi G):=by
 have ho:=rm.AQ;have Rx:=rm.A6;have P:=rm.tm;have A:=aAa w.sA Ac AM;by_cases F7:AV (Bw [AM]) b.AQ<0;.refine⟨h,o,c,t,?_,by unfold BS.Cy;rw[Af F7];exact w,by unfold BS.Cy;rw[Af F7];exact hc,.refl⟩;rw[Ae,YX];simp only[abS,(IH w).Ab,A.Ab,F7]
 obtain⟨y,r2,Py⟩:=aM6 w.sO Ac;have w1:=w.HZ Py;have l1:(DN CK CY b.AQ).length<=b.AQ.length:=QS;obtain⟨f,J,IG⟩:=f66 w1.sO Dv (C1 (ws:=[AM])) AP;have E:=w1.HZ IG;obtain⟨fs,GK,hcs⟩:=hc;have Hu:fs.length=b.A6.length:=by rw[<-GK,Ao]
 obtain⟨d,H,C⟩:=f65 (show Um _ bi 3 fs from⟨c,E.sQ,hcs⟩) Ac;have j:=E.KE (u:=d) (l:=Ge b.A6);have NR:B1 (Ge b.A6) d:=⟨_,by rw[Xm,GK],C⟩;have lt:=w.t.1.len;have l6:=j.l6;have e:b.Cy=BS.HS {b with AQ:=DN CY (Bw [AM]) (DN CK CY b.AQ),A6:=Ge b.A6,tm:=b.tm.dropLast}:=by unfold BS.Cy;rw[Ad F7]
 have sO:(DN CY (Bw [AM]) (DN CK CY b.AQ)).Sublist b.AQ:=(EC (p:=CY) (q:=Bw [AM]) (l:=DN CK CY b.AQ)).trans EC;have D:DC h (Bs bi G) (put (put (put h bi 2 y) bi 2 f) bi 3 d) (Bs bi G):=(Bf.trans Bf).trans Bf;by_cases h0:b.tm=[]
 .have v:BX (put (put (put h bi 2 y) bi 2 f) bi 3 d) bi a f d t G {b with AQ:=DN CY (Bw [AM]) (DN CK CY b.AQ),A6:=Ge b.A6,tm:=b.tm.dropLast}:=by
   have:b.tm.dropLast=b.tm:=by rw[h0];rfl
   rw[this];exact j
  obtain⟨R,z,s,L⟩:=aAs v (rm.sub (b':={b with AQ:=DN CY (Bw [AM]) (DN CK CY b.AQ),A6:=Ge b.A6,tm:=b.tm.dropLast}) rfl sO (Dq _ _) AH);refine⟨R,f,d,t,?_,by rw[e];exact s,by rw[e];exact NR,D.trans L⟩;have B:AD (.len false) [t]=some (I 0):=by rw[lt,h0];rfl
  rw[Ae,YX];simp only[abS,(IH w).Ab,A.Ab,F7,r2.Ab,rG,J.Ab,H.Ab,l6,B,z.Ab,Jr]
 .have hpos:=D7.2 h0;obtain⟨T,S,i⟩:=AU.ML (w.t.1.ne h0) (k:= .i64) (n:=b.tm.length-1) Ac;rw[<-aF7] at i;obtain⟨N,z,g⟩:=aAt (.inl i) Ei (put (put (put h bi 2 y) bi 2 f) bi 3 d);have s:=j.mC g;obtain⟨Q,O,M,K⟩:=aAs s (rm.sub (b':={b with AQ:=DN CY (Bw [AM]) (DN CK CY b.AQ),A6:=Ge b.A6,tm:=b.tm.dropLast}) rfl sO (Dq _ _) AH);refine⟨Q,f,d,N,?_,by rw[e];exact M,by rw[e];exact NR,(D.trans Bf).trans K⟩;rw[Ae,YX];simp only[abS,(IH w).Ab,A.Ab,F7,r2.Ab,rG,J.Ab,H.Ab,l6,lt,(Ac:(0:Int)<(b.tm.length:Int)),Iv hpos (Ac:b.tm.length<9223372036854775807),S,z.Ab,j.st (k:=6) (v0:=t) rfl g.1.cells,O.Ab,Jr]
def aNT(w:BX h bi a o c t G b):∃h',BG cx 79 [Pt bi 0] h (.tuple []) h'/\BX h' bi a o c t G {b with stop:=true}/\DC h (Bs bi G) h' (Bs bi G):=by refine⟨_,?_,w.put (k:=19) (v:= .bool true) rfl rfl w.o w.t,Bf⟩;rw[Ae,wO];simp only[BE,(IH w).Ab,w.st (k:=19) (v:=tt) rfl rfl]
def aAv(w:BX h bi a o c t G b)(rm:BM b m):∃h' o',BG cx 82 [Pt bi 2] h (.agg b.gF.row) h'/\BX h' bi a o' c t G b.Jt/\DC h (Bs bi G) h' (Bs bi G):=by
 have ho:=rm.AQ;have ld:A7 h none (Pt bi 2)=some o:=w.ld 2;have lo:=AU.CN w.o;unfold BS.Jt BS.gF;by_cases h2:b.AQ.length<2;.refine⟨h,o,?_,by rw[Af h2];exact w,.refl⟩;rw[Af h2,Ae,YY];simp only[abS,↓reduceIte,AT,(Uz w.sA).Ab,(Ac:(b.AQ.length:Int)<2)];rfl
 .obtain⟨u,e,hu⟩:=AU.ML w.o (k:= .i64) (n:=b.AQ.length-1) Ac;refine⟨_,u,?_,by rw[Ad h2];exact w.HZ hu,Bf⟩;rw[Ad h2,Ae,YY];simp only[abS,↓reduceIte,AT,E9,(Uz w.sA).Ab,(Ac:¬(b.AQ.length:Int)<2),(f39 w.sA Ac).Ab,ld,lo,Iv (Ac:0<b.AQ.length) (Ac:b.AQ.length<9223372036854775807),e,w.st (k:=2) (v0:=o) rfl (AU.cells hu)]
end
def TF{U:Type}(enc:U->List Aa)(D5:U->Ai->Prop)(Z:U->Nat)(i:Nat)(HN:U->Ai->Prop)(s:U):HO:=
 λx vs h1=>(x= .normal/\∃s',vs=enc s'/\D5 s' h1/\Z s'<Z s)\/(x= .exit i/\∃s',vs=enc s'/\HN s' h1)
def TF.next{U:Type}{enc:U->List Aa}{D5 HN:U->Ai->Prop}{Z:U->Nat}{i:Nat}{s:U}{vs:List Aa}{h:Ai}(s':U)(e:vs=enc s')(hi:D5 s' h)(hl:Z s'<Z s):TF enc D5 Z i HN s .normal vs h:= .inl ⟨rfl,s',e,hi,hl⟩
def TF.HN{U:Type}{enc:U->List Aa}{D5 HN:U->Ai->Prop}{Z:U->Nat}{i:Nat}{s:U}{vs:List Aa}{h:Ai}(s':U)(e:vs=enc s')(hi:HN s' h):TF enc D5 Z i HN s (.exit i) vs h:= .inr ⟨rfl,s',e,hi⟩
def DK{C:Gb}{Q:HO}{h:Ai}{U:Type}{key i:Nat}{init:List Aa}{body:List Aa->IT}{k:DU->List Aa->IT}(enc:U->List Aa)(D5:U->Ai->Prop)(Z:U->Nat)(HN:U->Ai->Prop)(s0:U)(h0:init=enc s0)(hi:D5 s0 h)
  (round:∀s h,D5 s h->W C (body (enc s)) (TF enc D5 Z i HN s) h) (hk:∀s h,HN s h->W C (k (.exit i) (enc s)) Q h):W C (.loop key init body k) Q h:=by
 refine Bm enc D5 Z s0 h0 hi λs h hs=>W.mono (round s h hs) ?_;rintro x vs h1 (hn|⟨rfl,s',rfl,hf⟩);.exact .inl hn
 .exact .inr ⟨AH,hk s' h1 hf⟩
def cX{h:Ai}{id z:Nat}{AE:List (List Aa)}(hr:∀r∈AE,r.length=z)(hc:h[id]?=some (.cells AE.flatten)){i:Nat}(hi:i<AE.length):A7 h (some z) (Pt id (i*z))=some (.agg AE[i]):=by
 have hl:i*z+z<=AE.flatten.length:=by rw[FY hr];have:=DW z (Ac:i+1<=AE.length);rwa [BI,D6] at this
 simp only[A7,hc,No];rw[Af hl,Ja hr,AG hi,CZ,CM (by rw[hr _ (AN hi)];exact Ag _),AF (by rw[hr _ (AN hi)];exact Ag _)]
section
variable{h h':Ai}{bi a:Nat}{o c t:Aa}{G G' F:Nat->Prop}{b b':BS}{x:Int}{m:Nat}
variable{nm:Aj}{av:Aa}{l:List A5}{r:List Aa}{sp p:Int}
def C_(e:Ck)(h:Ai):∃r,BG cx 182 [.agg e.row] h (.agg r) h/\Oq e.c.name e.v r:=by have hv:e.v.cells=[e.v]:=AU.cells e.ok;refine⟨_,?_,I 2,ff,S [],ff,S [],ff,ff,ff,S [],.int .i32 0,rfl⟩;rw[Ae,iS,Ck.row];simp only[abS,Nat.reduceLeDiff,↓reduceIte,AT,hv]
def cY:∀{l:List Cb} {b:BS} {m:Nat},BM b (m+4*l.length)->(∀e∈l,e.name.length<=1000/\DO e.Av)->BM (BS.JG l b).2 m
 |[],b,m,r,_=>by simpa[BS.JG] using r
 |e::l,b,m,r,hl=>by have h1:=hl e AH;rw[BS.JG];exact cY (Ih (m:=m+4*l.length) (r.le Ei) h1.2 h1.1) λx hx=>hl x (by simp[hx])
def TG:b.LQ<=b.A6.length:=by unfold BS.LQ;rcases Dj (q:=b.settled) (l:=b.A6) with⟨h,_⟩|⟨n,h1,h2,_⟩<;>omega
structure mD(h:Ai)(bi a:Nat)(t:Aa)(G0:Nat->Prop)(b:BS)(fs:List Ck)(id m k:Nat)(h1:Ai):Prop where
 le:k<=fs.length
 low:b.LQ<=k
 ex:∃(o:Aa) (G:Nat->Prop) (b1:BS) (Ii:List Ck),BX h1 bi a o (.CE id 0 fs.length 3) t G b1/\EB b1/\BM b1 (m+4*(fs.length-k))/\h1[id]?=some (.cells (Ii.map Ck.row).flatten)/\Ii.length=fs.length/\Ii.drop k=fs.drop k/\
  BS.DV b={(BS.JG (b.A6.drop k) b1).2 with A6:=(Ii.take k).map (·.c)++(BS.JG (b.A6.drop k) b1).1}/\¬Bs bi G id/\DC h (Bs bi G0) h1 (Bs bi G)
def BX.mE(w:BX h bi a o c t G {b with A6:=b.A6}):BX h bi a o c t G b:=w
def Qt{h1:Ai}{id:Nat}{v v':Aa}(ha:At h id 3 v)(hf:KT h v=some (h1,v'))(he:h1[id]?=h[id]?):Mz h 3 (Pt id 0)=some (Am.put h1 id 3 v'):=by obtain⟨cs,hc,e⟩:=ha;rw[hc] at he;unfold Mz;simp only[hc,BW,e,hf,Ct,he];rw[Iw he]
def gh{v:Aa}{l:List Ck}(hv:Dt l v):KT h v=some (h,v):=by rcases hv with rfl|⟨rfl,_⟩<;>rfl
def aIN{v:Aa}(hv:Dt [] v)(h:Ai):∃u,BG cx 181 [v] h u h/\Dt [] u:=by
 have d:=Qe (h:=h) (s:= .sl 3 []) (b:=48) (.inr rfl) hv;rcases hv with rfl|⟨rfl,h0⟩
 .refine⟨.sl 3 [],?_,.mk⟩;rw[Ae,Ts];simp only[C4] at d;simp only[BE,C4,show AD (.Gu false .sl) [.sl 3 [],.slnil]=some (.bool false) from rfl,show AD (.Dk 3) []=some (.sl 3 []) from rfl,d]
 .refine⟨.slnil,?_,.inr ⟨rfl,rfl⟩⟩;rw[Ae,Ts];simp only[BE,show AD (.Gu false .sl) [.slnil,.slnil]=some (.bool true) from rfl]
def mD.init(w:BX h bi a o c t G b)(ok:EB b)(rm:BM b (m+4*b.A6.length)){fs:List Ck}(GK:fs.map (·.c)=b.A6):
  mD h bi a t G b fs h.length m b.LQ (Am.put (h++[.cells (fs.map Ck.row).flatten]) bi 3 (.CE h.length 0 fs.length 3)):=by
 have Hu:b.A6.length=fs.length:=by rw[<-GK,Ao]
 have hk:=TG (b:=b);have hne:h.length≠bi:=Nat.ne_of_gt w.lt;refine⟨Ac,Ag _,o,G,b,fs,((w.HQ (u:=[.cells (fs.map Ck.row).flatten])).KE (l:=b.A6)).mE,ok,rm.le Ac,?_,rfl,rfl,?_,?_,w.C2.trans Bf⟩;.rw[Cm hne];simp
 .unfold BS.DV;simp only;rw[Gq,GK]
 .rintro(rfl|hg);.exact hne rfl
  .exact absurd (w.w.lt hg) (Dm _)
def mD.step{fs:List Ck}{id k:Nat}{h1:Ai}(GK:fs.map (·.c)=b.A6)(KX:∀e∈b.A6,e.name.length<=1000/\DO e.Av)(hi:h.length<=id)(hlt:k<fs.length)(i:mD h bi a t G b fs id m k h1):
  ∃(r:List Aa) (h2:Ai) (n:Int),A7 h1 none (Pt bi 3)=some (.CE id 0 fs.length 3)/\A7 h1 (some 3) (Pt id (k*3))=some (.agg fs[k].row)/\BG cx 182 [.agg fs[k].row] h1 (.agg r) h1/\BG cx 65 [Pt bi 0,.agg r] h1 (I n) h2/\A7 h2 none (Pt bi 3)=some (.CE id 0 fs.length 3)/\
   Cv h2 1 (Pt id (k*3)) (I n)=some (Am.put h2 id (k*3) (I n))/\mD h bi a t G b fs id m (k+1) (Am.put h2 id (k*3) (I n)):=by
 obtain⟨D,E,b1,Ii,w1,Wo,xH,SA,WM,gE,oe,ND,g⟩:=i.ex;have So:k<Ii.length:=Ac;have Hu:b.A6.length=fs.length:=by rw[<-GK,Ao]
 have D_:k<b.A6.length:=Ac;have q:Ii[k]=fs[k]:=by have:=Cc (λl=>l[0]?) gE;simp only[Cr,Bt] at this;rw[Ap So,Ap hlt] at this;exact D4 this
 have y:b.A6[k]=fs[k].c:=by simp only[<-GK,C0]
 have f:=cX (O1 Ii) SA (i:=k) (by simpa using So);rw[C0,q] at f;have KX:=KX fs[k].c (by rw[<-y];exact AN D_);obtain⟨r,A,hr⟩:=C_ fs[k] h1;obtain⟨h2,B,z,r2,w,d⟩:=n_ (m:=m+4*(fs.length-(k+1))) w1 Wo.ba (xH.le Ac) hr fs[k].ok KX.2 KX.1;have ka:id<h1.length:=(An.1 SA).1;have I7:h2[id]?=some (.cells (Ii.map Ck.row).flatten):=by rw[d.old id ka ND];exact SA
 have TY:¬Bs bi z id:=λhg=>by
  rcases d.Bs id hg with hg|hg
  .exact ND hg
  .omega
 have u:At h2 id (k*3) (I fs[k].c.node):=⟨_,I7,by have:=LS (k:=0) (O1 Ii) AP (i:=k) (r:=fs[k].row) (by rw[Cn,Ap So,q];rfl);rw[Bt] at this;rw[this];rfl⟩
 let s:Ck:=⟨{fs[k].c with node:=b1.a.len+1},fs[k].v,fs[k].ok⟩
 have hrow:(Ii.map Ck.row).flatten.set (k*3) (I (b1.a.len+1))=((Ii.set k s).map Ck.row).flatten:=by have:=Oo (AE:=Ii.map Ck.row) (i:=k) (k:=0) (v:= I (b1.a.len+1)) (O1 Ii) (by simpa using So) AP;rw[Bt] at this;rw[Et,B0,Af (by rw[FY (O1 Ii),Ao];omega)];rw[AI] at this;rw[show s.row=((Ii.map Ck.row)[k]'(by simpa using So)).set 0 (I (b1.a.len+1)) by rw[C0,q];rfl];exact this
 have C:id≠bi:=λe=>TY (.inl e);refine⟨r,h2,b1.a.len+1,w1.l3,f,A,r2,w.l3,u.store rfl,⟨hlt,by have:=i.low;omega,B,z,_,Ii.set k s,w.Dl λj hj=>Cm λe=>TY (e▸hj),Qq Wo,Ih (m:=m+4*(fs.length-(k+1))) (xH.le Ac) KX.2 KX.1,?_,by rw[Bq];exact WM,?_,?_,TY,⟨by rw[JN];exact(g.trans d).len,λj hj hn=>(Cm Ac).trans ((g.trans d).old j hj hn),(g.trans d).Bs⟩⟩⟩;.rw[Iw I7,AO (by have:=d.len;omega),hrow]
 .rw[aT (NQ k)];have:=Cc (λl=>l.drop 1) gE;simpa[Em] using this
 .rw[oe,AG D_,y,BS.JG];simp only
  congr 1
  rw[AB (by rw[Bq];exact So),aF8,Bu,Pu (Ag k),AI];rfl
def aNV(w:BX h bi a o c t G b)(hc:B1 b.A6 c)(ok:EB b)(rm:BM b (m+4*b.A6.length)):
  ∃h' o' c' G',BG cx 73 [Pt bi 0] h (.tuple []) h'/\BX h' bi a o' c' t G' b.DV/\B1 b.DV.A6 c'/\DC h (Bs bi G) h' (Bs bi G'):=by
 have ho:=rm.AQ;have Rx:=rm.A6;obtain⟨fs,GK,hcs⟩:=hc;have Hu:b.A6.length=fs.length:=by rw[<-GK,Ao]
 have I9:Ev cx 73 [Pt bi 0] h λr h'=>r= .tuple []/\∃o' c' G',BX h' bi a o' c' t G' b.DV/\B1 b.DV.A6 c'/\DC h (Bs bi G) h' (Bs bi G'):=by
  unfold Ev;have l3:=w.l3;have lc:=AU.CN hcs;rw[wK];simp only[abS,(IH w).Ab,l3,lc];refine DK (i:=0) (λn:Nat=>[I (n:Int)]) (λn h1=>n<=fs.length/\AV b.settled b.A6=AV b.settled (b.A6.take n)/\h1=h) (λn=>n) (λn h1=>n=b.LQ/\h1=h) fs.length rfl ⟨Ag _,by rw[<-Hu,Bx],rfl⟩ ?_ ?_
  .rintro n h1 ⟨hn,ha,rfl⟩;cases n with
   |zero=>simp only[abS,(AP:¬(0:Int)<((0:Nat):Int))];refine .HN 0 rfl ⟨?_,rfl⟩;unfold BS.LQ;rw[ha];rfl
   |succ n=>
    have hlt:n<b.A6.length:=Ac;have Tz:n<fs.length:=Ac;rw[Hb hlt] at ha;have i1:=Iv (n:=n+1) (Ac:0<n+1) (Ac:n+1<9223372036854775807);rw[Fb] at i1;have d:=AU.BL (k:= .i64) hcs Tz;have en:fs[n].c.node=b.A6[n].node:=by simp only[<-GK,C0]
    have f:=aL w.sA Ac b.A6[n].node;have g:b.settled b.A6[n]=true->n+1=b.LQ:=by intro hs;rw[Af hs] at ha;unfold BS.LQ;rw[ha];omega
    rw[Ck.row,en] at d;simp only[abS,(Ac:(0:Int)<((n+1:Nat):Int)),l3,i1,d,f.Ab,B7];refine⟨λh1=>⟨λh2=>?_,λh2=>?_⟩,λh1=>?_⟩
    .have hs:b.settled b.A6[n]=false:=by unfold BS.settled;rw[Ah];omega
     rw[Ad (by rw[hs];decide)] at ha;exact .next n rfl ⟨Ac,ha,rfl⟩ Ac
    .exact .HN (n+1) rfl ⟨g (by unfold BS.settled;rw[Al];omega),rfl⟩
    .exact .HN (n+1) rfl ⟨g (by unfold BS.settled;rw[Al];omega),rfl⟩
  .rintro n h1 ⟨rfl,O⟩;rw[O];by_cases hne:fs=[]
   .subst hne;have ha:b.A6=[]:=GK.symm;have g:b.LQ=0:=by have:=TG (b:=b);rw[ha] at this;exact Nat.le_zero.1 this
    have hb:b.DV=b:=by unfold BS.DV;rw[ha];simp only[aA9,BS.JG,aBa,BT];rw[<-ha]
    obtain⟨u,f,hu⟩:=aIN hcs h;have w1:=(w.KE (u:=u) (l:=b.A6)).mE;have d:=Qt w1.sQ (gh hu) rfl;have B:=AU.CN hu;have y:=w1.l3;rw[BR] at B;have hz:(b.LQ:Int)=((0:Nat):Int):=by rw[g]
    simp only[abS,l3,f.Ab,w.st (k:=3) (v0:=c) rfl (AU.cells hu)];refine DK (i:=2) (λn:Nat=>[I (n:Int)]) (λn h1=>n=0/\h1=Am.put h bi 3 u) (λn=>n) (λn h1=>n=0/\h1=Am.put h bi 3 u) 0 (by rw[hz]) ⟨rfl,rfl⟩ ?_ ?_;.rintro n h1 ⟨rfl,rfl⟩;simp only[abS,y,B,(AP:¬((0:Nat):Int)<((0:Nat):Int))];exact .HN 0 rfl ⟨rfl,rfl⟩
    .rintro n h1 ⟨rfl,rfl⟩;simp only[BE,d];refine⟨_,rfl,rfl,o,u,G,?_,⟨[],by rw[hb,ha];rfl,hu⟩,Bf.trans Bf⟩;rw[hb];exact(w1.KE (l:=b.A6)).mE
   .have i0:=mD.init (m:=m) w ok rm GK;have f:=aEs (h:=h) hcs hne Ac;have w0:=w.HQ (u:=[.cells (fs.map Ck.row).flatten]);simp only[abS,l3,f.Ab,w0.st (k:=3) (v:= .CE h.length 0 fs.length 3) (v0:=c) rfl rfl];refine DK (i:=2) (λn:Nat=>[I (n:Int)]) (λk h1=>mD h bi a t G b fs h.length m k h1) (λk=>fs.length-k) (λk h1=>k=fs.length/\mD h bi a t G b fs h.length m k h1) b.LQ rfl i0 ?_ ?_
    .intro k h1 i;have Er:=i.le;have C:AD (.len false) [.CE h.length 0 fs.length 3]=some (I (fs.length:Int)):=rfl;rcases AR k fs.length with hlt|Eh
     .obtain⟨r,h2,n,N,M,L,K,J,H,E⟩:=mD.step GK rm.DB (Ag _) hlt i;have d:AD (.Ff 3) [.CE h.length 0 fs.length 3,I (k:Int)]=some (Pt h.length (k*3)):=E1 hlt;simp only[abS,N,C,(Ac:(k:Int)<(fs.length:Int)),d,M,L.Ab,BK,K.Ab,J,H,BN (Ac:k<9223372036854775807)];exact .next (k+1) rfl E Ac
     .obtain⟨s,A,b1,Ii,w1,_⟩:=i.ex;simp only[abS,w1.l3,C,(Ac:¬(k:Int)<(fs.length:Int))];exact .HN k rfl ⟨Ac,i⟩
    .rintro k h1 ⟨rfl,i⟩;obtain⟨s,A,b1,Ii,w1,Wo,xH,SA,WM,gE,oe,ND,q⟩:=i.ex;have hf:=Ke (O1 Ii) SA;rw[Ao,WM] at hf;have z:h.length≠bi:=λe=>ND (.inl e);have d:=Qt w1.sQ hf (by rw[As z]);have D:BX (h1.set h.length .CR) bi a s _ t A b1:=w1.Dl λj hj=>As λe=>ND (by rw[e];exact hj);simp only[BE,d];have hb:b.DV={b1 with A6:=Ii.map (·.c)}:=by rw[oe,AZ Ac,AF Ac];simp only[BS.JG,By]
     refine⟨_,rfl,rfl,s,_,A,by rw[hb];exact D.KE,⟨Ii,by rw[hb],.mk⟩,?_⟩;refine DC.trans ⟨by rw[Bq];exact q.len,λj hj hn=>?_,q.Bs⟩ Bf;rw[As Ac];exact q.old j hj hn
 obtain⟨r,h',hr,rfl,o',c',G',w',Kw,x'⟩:=I9.ret;exact⟨h',o',c',G',hr,w',Kw,x'⟩
end
def aAw{id l k:Nat}(hl:0<l)(hk:k<=l):AD (.K6 3 false false true) [.CE id 0 l 3,I (k:Int)]=some (.CE id 0 k 3):=by
 have d:Fq (k:Int) l=some k:=by unfold Fq;rw[Af Ac];rfl
 simp[AD,Kp,Ed,d];omega
def aAx{id l k:Nat}(hk:k<=l):AD (.K6 3 false true false) [.CE id 0 l 3,I (k:Int)]=some (if k<l then .CE id (k*3) (l-k) 3 else .sl 3 []):=by
 have d:Fq (k:Int) l=some k:=by unfold Fq;rw[Af Ac];rfl
 simp[AD,Kp,Ed,d];split<;>rfl
def Hq{U:Type}{l:List U}{k:Nat}(hk:k<l.length):(Bg l k).length=l.length-1:=by unfold Bg;rw[Au,Ax,Be];omega
def aIP{h:Ai}{id k:Nat}{AE:List (List Aa)}(hr:∀r∈AE,r.length=3)(hc:h[id]?=some (.cells AE.flatten))(hk:k<AE.length)(hb:AE.length<=1000000000):
  ∃Hi,BG cx 405 [.CE id 0 AE.length 3,I (k:Int),I ((k+1:Nat):Int)] h (.CE id 0 (AE.length-1) 3) (h.set id (.cells ((Bg AE k).flatten++Hi))):=by
 have Im:=(An.1 hc).1;have w:=Hq hk;have SC:=FY hr;have v:∀r∈Bg AE k,r.length=3:=λr hm=>hr r (by
  unfold Bg at hm;rcases Ay.1 hm with hm|hm
  .exact Bp hm
  .exact BD hm)
 have zC:=FY v;rw[w] at zC;have Ve:(AE.take k).flatten=AE.flatten.take (k*3):=(cF hr).symm;have f:(AE.drop (k+1)).flatten=AE.flatten.drop ((k+1)*3):=(Ja hr).symm;obtain⟨S4,A,hcl⟩:∃S4,Gj h 3 48 (.CE id 0 k 3) (if k+1<AE.length then .CE id ((k+1)*3) (AE.length-(k+1)) 3 else .sl 3 [])=some (h.set id (.cells ((Bg AE k).flatten++S4)),.CE id 0 (AE.length-1) 3)/\S4.length=3:=by
  have j:Hj h 3 (if k+1<AE.length then .CE id ((k+1)*3) (AE.length-(k+1)) 3 else .sl 3 [])=some (AE.drop (k+1)):=by
   by_cases QF:k+1<AE.length;.rw[Af QF];have s:=cG hr (n:=AE.length-(k+1)) (off:=k+1) Ac;rw[AF (by rw[Be];exact Ag _)] at s;simp only[Hj,BJ,hc,s];rw[Af (by rw[SC];omega)]
   .rw[Ad QF,AZ Ac];rfl
  by_cases zl:k+1=AE.length
  .refine⟨AE.flatten.drop (k*3),?_,by rw[Be,SC];omega⟩;have q:AE.drop (k+1)=[]:=AZ Ac;rw[q] at j;have z:(Bg AE k).flatten++AE.flatten.drop (k*3)=AE.flatten:=by unfold Bg;rw[q,By,Ve,CH]
   have D:h.set id (.cells ((Bg AE k).flatten++AE.flatten.drop (k*3)))=h:=by rw[z];obtain⟨bU,C⟩:=An.1 hc;rw[<-C,J5]
   simp only[Gj,j,BJ];rw[D,(Ac:AE.length-1=k)]
  .obtain⟨y,u,hd⟩:∃y u,AE.drop (k+1)=y::u:=⟨_,_,AG (Ac:k+1<AE.length)⟩;have fx:(y::u).length=AE.length-(k+1):=by rw[<-hd,Be]
   refine⟨AE.flatten.drop ((AE.length-1)*3),?_,by rw[Be,SC];omega⟩;rw[hd] at j;simp only[Gj,j,hc,BJ];rw[fx,Af (by rw[SC];omega)];rw[<-hd,f,BW,BW,(Ac:k+(AE.length-(k+1))=AE.length-1)];unfold Bg;rw[Ln,Ve,f]
 generalize d:h.set id (.cells ((Bg AE k).flatten++S4))=h2 at A;have I7:h2[id]?=some (.cells ((Bg AE k).flatten++S4)):=by rw[<-d];exact AO Im
 have xC:((Bg AE k).flatten++S4).length=AE.length*3:=by rw[Au,zC,hcl];omega
 have q:Ep (.jf 3 true true) h2 [.CE id 0 (AE.length-1) 3,I ((AE.length-1:Nat):Int),I (AE.length:Int)]=some (h2,.CE id ((AE.length-1)*3) 1 3):=by
  simp only[Ep,nK,I7];have E:Fq (AE.length:Int) ((((Bg AE k).flatten++S4).length-0)/3)=some AE.length:=by unfold Fq;rw[Af (by rw[xC];omega)];rfl
  have s:Fq ((AE.length-1:Nat):Int) AE.length=some (AE.length-1):=by unfold Fq;rw[Af Ac];rfl
  rw[Af ⟨trivial,trivial,AY _⟩];simp only[Ed,E,s,Ct,BY];rw[Af (by rw[xC];omega)];congr 3
  .omega
  .omega
 have B:Ep (.clear 3 [I 0,S [],.slnil]) h2 [.CE id ((AE.length-1)*3) 1 3]=some (h.set id (.cells ((Bg AE k).flatten++[I 0,S [],.slnil])),.bool true):=by
  simp only[Ep,Xv,I7];rw[Af ⟨trivial,rfl,by rw[xC];omega⟩];congr 2
  rw[<-d,sF];congr 2
  rw[H8 zC,AZ (by rw[xC];omega)];simp
 refine⟨[I 0,S [],.slnil],?_⟩;have g:∀i n,AD (.len false) [.CE i 0 n 3]=some (I (n:Int)):=λ_ _=>rfl;have z:Ep (.sV 3) h [.CE id 0 AE.length 3,I (k:Int),I ((k+1:Nat):Int),I (AE.length:Int)]=some (h,.bool true):=by simp only[Ep,Xw];simp;omega
 rw[Ae,lG];simp only[abS,g,z,(Ac:¬(k:Int)=((k+1:Nat):Int)),aAw (id:=id) (Ac:0<AE.length) (Ac:k<=AE.length),aAx (id:=id) (Ac:k+1<=AE.length),A,q,B]
def TH{z:Nat}:∀{AE:List (List Aa)} {cs Z4:List Aa},(∀r∈AE,r.length=z)->Cz (Z4++(AE.flatten++cs)) z Z4.length AE.length=AE
 |[],_,_,_=>rfl
 |x::AE,cs,Z4,h=>by have hx:=h x AH;have:=TH (AE:=AE) (cs:=cs) (Z4:=Z4++x) (λr hr=>h r (by simp[hr]));simp only[AI,Au,hx] at this;simp only[CZ,Bd,Cz,AI];rw[JL rfl,H8 hx,this]
def xI{h:Ai}{id z:Nat}{AE:List (List Aa)}{cs:List Aa}(hr:∀r∈AE,r.length=z)(hc:h[id]?=some (.cells (AE.flatten++cs))):KT h (.CE id 0 AE.length z)=some (h.set id .CR,.sl z AE):=by unfold KT;simp only[hc,BW];have:=TH (cs:=cs) (Z4:=[]) hr;simp only[BT,BR] at this;rw[Af (by rw[Au,FY hr];omega),this]
def FQ(e:Ck)(at_ mk:Int)(anc far:Item)(last:Int):List Aa:=
 [I e.c.node,.str e.c.name,e.v,I at_,I mk,I anc.node,I anc.Bb,.str anc.name,.bool anc.Og,I far.node,I far.Bb,.str far.name,.bool far.Og,I last]
def Nc(ai bi:Nat)(G:Nat->Prop):Nat->Prop:=λi=>i=ai\/Bs bi G i
section
variable{h h':Ai}{bi a ai:Nat}{o c t:Aa}{G G' F:Nat->Prop}{b b':BS}{x:Int}{m:Nat}
variable{nm:Aj}{av:Aa}{l:List A5}{r:List Aa}{sp p:Int}{e:Ck}{at_ mk last:Int}{anc far:Item}
def EY(x:DC h (Bs bi G) h' (Bs bi G'))(ai:Nat):DC h (Nc ai bi G) h' (Nc ai bi G'):=
 ⟨x.len,λi hi hn=>x.old i hi λhg=>hn (.inr hg),λi hi=>by
  rcases hi with hi|hi
  .exact .inl (.inl hi)
  .rcases x.Bs i hi with h|h
   .exact .inl (.inr h)
   .exact .inr h⟩
def Qu{k:Nat}{v:Aa}:DC h (Am.Nc ai bi G) (put h ai k v) (Am.Nc ai bi G):=⟨by rw[JN];exact Ag _,λi _ hn=>Cm λe=>hn (.inl e),λ_ h=> .inl h⟩
def Iq{id k:Nat}{v:Aa}{cs:List Aa}(hc:h[id]?=some (.cells cs)):(put h id k v)[id]?=some (.cells (cs.set k v)):=by rw[Iw hc,AO (An.1 hc).1]
def down(k:Nat)(x:Int):Int:=if(k:Int)<x then x-1 else x
def gi(w:BX h bi a o c t G b)(hc:B1 b.A6 c)(rm:BM b m)(ha:h[ai]?=some (.cells (FQ e at_ mk anc far last)))(hn:¬Bs bi G ai){k:Nat}(hk:k<b.A6.length)(h1:0<=at_/\at_<=1000000000)(h2:0<=mk/\mk<=1000000000):
  ∃h' c',BG cx 331 [Pt ai 0,Pt bi 0,I (k:Int)] h (.tuple []) h'/\BX h' bi a o c' t G {b with A6:=Bg b.A6 k}/\B1 (Bg b.A6 k) c'/\h'[ai]?=some (.cells (FQ e (down k at_) (down k mk) anc far last))/\DC h (Nc ai bi G) h' (Nc ai bi G):=by
 obtain⟨fs,GK,hcs⟩:=hc;have Rx:=rm.A6;have Hu:b.A6.length=fs.length:=by rw[<-GK,Ao]
 have hne:fs≠[]:=by intro e;rw[Hu,e] at hk;exact absurd hk (Nat.not_lt_zero _)
 have ZO:ai≠bi:=λe=>hn (.inl e);have z:ai<h.length:=(An.1 ha).1;have C:=aEs (h:=h) hcs hne Ac;have hX:(h++[Dx.cells (fs.map Ck.row).flatten])[h.length]?=some (.cells (fs.map Ck.row).flatten):=AH;obtain⟨Hi,r2⟩:=aIP (O1 fs) hX (k:=k) Ei Ei;rw[Ao] at r2;have e2:(h++[Dx.cells (fs.map Ck.row).flatten]).set h.length (.cells ((Bg (fs.map Ck.row) k).flatten++Hi))=h++[.cells ((Bg (fs.map Ck.row) k).flatten++Hi)]:=by rw[BH _ _ (Ag _),C5];rfl
 rw[e2] at r2;generalize A:h++[Dx.cells ((Bg (fs.map Ck.row) k).flatten++Hi)]=H at r2;have w1:BX H bi a o c t G b:=by rw[<-A];exact w.HQ
 have Z9:H[ai]?=some (.cells (FQ e at_ mk anc far last)):=by rw[<-A,Ak z];exact ha
 have Q:H[h.length]?=some (.cells ((Bg (fs.map Ck.row) k).flatten++Hi)):=by rw[<-A];simp
 have hL:H.length=h.length+1:=by rw[<-A];simp
 have Z:DC h (Nc ai bi G) H (Nc ai bi G):=by rw[<-A];exact EY w.C2 ai
 have s:bi≠h.length:=PG w.lt;have WC:ai≠h.length:=PG z;have B:=w1.st (k:=3) (v:= .CE h.length 0 (fs.length-1) 3) (v0:=c) rfl rfl;have w2:=w1.KE (u:= .CE h.length 0 (fs.length-1) 3) (l:=b.A6);have Pz:(put H bi 3 (.CE h.length 0 (fs.length-1) 3))[ai]?=some (.cells (FQ e at_ mk anc far last)):=by rw[Cm ZO];exact Z9
 have P:(put H bi 3 (.CE h.length 0 (fs.length-1) 3))[h.length]?=some (.cells ((Bg (fs.map Ck.row) k).flatten++Hi)):=by rw[Cm (Dz s)];exact Q
 have Y:DC h (Nc ai bi G) (put H bi 3 (.CE h.length 0 (fs.length-1) 3)) (Nc ai bi G):=Z.trans (EY Bf ai);generalize R:put H bi 3 (.CE h.length 0 (fs.length-1) 3)=f at*;have hL2:f.length=h.length+1:=by rw[<-R,JN,hL]
 have t3:At f ai 3 (I at_):=⟨_,Pz,rfl⟩;have uK:=Iq (k:=3) (v:= I (down k at_)) Pz;have E:put f ai 3 (I (down k at_))=if(k:Int)<at_ then put f ai 3 (I (at_-1)) else f:=by
  unfold down;split;.rfl
  .exact t3.same
 have w3:BX (put f ai 3 (I (down k at_))) bi a o _ t G _:=w2.Dl λj hj=>Cm λe=>hn (e▸hj);have O:(put f ai 3 (I (down k at_)))[h.length]?=_:=(Cm (Dz WC)).trans P;have X:=Y.trans (Qu (k:=3) (v:= I (down k at_)));generalize hH3:put f ai 3 (I (down k at_))=d at*;have t4:At d ai 4 (I mk):=⟨_,uK,rfl⟩;have M:=Iq (k:=4) (v:= I (down k mk)) uK;have q:put d ai 4 (I (down k mk))=if(k:Int)<mk then put d ai 4 (I (mk-1)) else d:=by
  unfold down;split;.rfl
  .exact t4.same
 have T:BX (put d ai 4 (I (down k mk))) bi a o _ t G _:=w3.Dl λj hj=>Cm λe=>hn (e▸hj);have N:(put d ai 4 (I (down k mk)))[h.length]?=_:=(Cm (Dz WC)).trans O;have J:=X.trans (Qu (k:=4) (v:= I (down k mk)));generalize hH4:put d ai 4 (I (down k mk))=S at*;have L:∀r∈Bg (fs.map Ck.row) k,r.length=3:=λr hm=>O1 fs r (by
  unfold Bg at hm;rcases Ay.1 hm with hm|hm
  .exact Bp hm
  .exact BD hm)
 have f4:=xI L N;rw[Hq Ei,Ao] at f4;have D:=Qt T.sQ f4 (by rw[As (Dz s)]);have w5:BX (S.set h.length .CR) bi a o _ t G {b with A6:=b.A6}:=T.Dl λj hj=>As λe=>by
  subst e;rcases hj with hj|hj
  .exact s hj.symm
  .exact absurd (w.w.lt hj) (Dm _)
 have ed:Bg (fs.map Ck.row) k=(Bg fs k).map Ck.row:=by unfold Bg;rw[Bu,Gq,JR]
 have ec:(Bg fs k).map (·.c)=Bg b.A6 k:=by unfold Bg;rw[Bu,Gq,JR,GK]
 refine⟨_,.sl 3 (Bg (fs.map Ck.row) k),?_,w5.KE (l:=Bg b.A6 k),⟨Bg fs k,ec,by rw[ed];exact .mk⟩,?_,?_⟩
 .have i:A7 f none (Pt ai 3)=some (I at_):=t3.load;have g:A7 d none (Pt ai 4)=some (I mk):=t4.load;have inc:=BN (Ac:k<9223372036854775807);have W:=Da (Ac: -9223372036854775808<=at_-1) (Ac:at_-1<9223372036854775808);have V:=Da (Ac: -9223372036854775808<=mk-1) (Ac:mk-1<9223372036854775808);rw[Ae,kC];by_cases y:(k:Int)<at_
  .rw[Af y] at E;have U:Cv f 1 (Pt ai 3) (I (at_-1))=some d:=by rw[E];exact t3.store rfl
   by_cases n:(k:Int)<mk
   .rw[Af n] at q;have K:Cv d 1 (Pt ai 4) (I (mk-1))=some S:=by rw[q];exact t4.store rfl
    simp only[abS,w.l3,C.Ab,inc,r2.Ab,B,i,y,W,U,g,n,V,K,D]
   .rw[Ad n] at q;subst q;simp only[abS,w.l3,C.Ab,inc,r2.Ab,B,i,y,W,U,g,n,D]
  .rw[Ad y] at E;subst E;by_cases n:(k:Int)<mk
   .rw[Af n] at q;have K:Cv d 1 (Pt ai 4) (I (mk-1))=some S:=by rw[q];exact t4.store rfl
    simp only[abS,w.l3,C.Ab,inc,r2.Ab,B,i,y,g,n,V,K,D]
   .rw[Ad n] at q;subst q;simp only[abS,w.l3,C.Ab,inc,r2.Ab,B,i,y,g,n,D]
 .rw[Cm ZO,As (Dz WC),M];rfl
 .refine DC.trans ⟨by rw[Bq];exact J.len,λj hj hn=>?_,J.Bs⟩ (EY Bf ai);rw[As Ac];exact J.old j hj hn
end
section
variable{U:Type}{q:U->Bool}{l:List U}
def MS{p:Nat}(hp:p<l.length)(h1:q l[p]=true)(h2:∀j (hj:j<l.length),p<j->q l[j]=false):AV q l=(p:Int):=by
 rcases Dj (q:=q) (l:=l) with⟨e,h⟩|⟨n,hn,e,d,f⟩
 .rw[h _ (AN hp)] at h1;exact absurd h1 AP
 .rcases Nat.lt_trichotomy n p with h|h|h
  .have:=f p hp h;rw[this] at h1;exact absurd h1 AP
  .rw[e,h]
  .have:=h2 n hn h;rw[this] at d;exact absurd d AP
def IZ{p:Nat}(e:AV q l=(p:Int)):∃hp:p<l.length,q l[p]=true/\∀j (hj:j<l.length),p<j->q l[j]=false:=by
 rcases Dj (q:=q) (l:=l) with⟨g,h⟩|⟨n,hn,g,f,d⟩
 .omega
 .have:n=p:=by omega
  subst this;exact⟨hn,f,λj hj h=>d j hj h⟩
def rH{k j:Nat}(hk:k<l.length):(Bg l k)[j]?=if j<k then l[j]? else l[j+1]?:=by
 unfold Bg;by_cases h:j<k;.rw[Af h,Ak (by rw[Ax];omega),Ci,Af h]
 .rw[Ad h,Bk (by rw[Ax];omega),Cr];congr 1
  rw[Ax];omega
def O9{k j:Nat}(hk:k<l.length)(hj:j<(Bg l k).length):(Bg l k)[j]=if h:j<k then l[j]'(by omega) else l[j+1]'(by rw[Hq hk] at hj;omega):=by
 have hl:=Hq hk;have:=rH (j:=j) hk;rw[Ap hj] at this;by_cases h:j<k;.rw[sD h];rw[Af h,Ap Ac] at this;exact D4 this
 .rw[dif_neg h];rw[Ad h,Ap Ac] at this;exact D4 this
def mF{p k:Nat}(e:AV q l=(p:Int))(hk:k<l.length)(hne:k≠p):AV q (Bg l k)=down k p:=by
 obtain⟨hp,h1,h2⟩:=IZ e;have hl:=Hq hk;unfold down;by_cases d:k<p
 .rw[Af Ac,(Ac:(p:Int)-1=((p-1:Nat):Int))];refine MS Ac ?_ ?_;.rw[O9 hk,dif_neg Ac];have:p-1+1=p:=Ac;simp only[this,h1]
  .intro j hj h;rw[O9 hk,dif_neg Ac];exact h2 _ _ Ac
 .rw[Ad Ac];refine MS Ac ?_ ?_;.rw[O9 hk,sD Ac];exact h1
  .intro j hj h;rw[O9 hk];split;.exact h2 _ _ h
   .exact h2 _ _ Ac
def rI{p k:Nat}{x:U}(e:AV q l=(p:Int))(hne:k≠p)(hx:q x=false):AV q (l.set k x)=(p:Int):=by
 obtain⟨hp,h1,h2⟩:=IZ e;refine MS (by rw[Bq];exact hp) ?_ ?_;.rw[List.getElem_set_ne hne];exact h1
 .intro j hj h;rw[List.getElem_set];split;.exact hx
  .rw[Bq] at hj;exact h2 j hj h
end
def mG{l:List Item}(hn:(l.map Item.node).Nodup){i:Nat}(hi:i<l.length):AV (Bz l[i].node) l=(i:Int):=by
 refine MS hi (by simp[Bz]) λj hj h=>?_;by_cases he:l[i].node=l[j].node
 .have h2:(l.map Item.node)[i]'(by simpa using hi)=(l.map Item.node)[j]'(by simpa using hj):=by simpa using he
  exact absurd h2 (List.pairwise_iff_getElem.1 hn i j (by simpa using hi) (by simpa using hj) h)
 .unfold Bz;simpa using λe=>he e.symm
def HJ{n:Int}{l:List Cb}(h:0<=Fk n l):∃p:Nat,∃hp:p<l.length,Fk n l=(p:Int)/\n≠0/\l[p].node=n/\AV (YO n) l=(p:Int):=by
 unfold Fk at h⊢;split at h;.omega
 .rename_i h0;rw[Ad h0];obtain⟨p,hp⟩:∃p:Nat,AV (YO n) l=(p:Int):=⟨_,(Hh h).symm⟩;obtain⟨h1,h2,_⟩:=IZ hp;exact⟨p,h1,hp,h0,by simpa[YO] using h2,hp⟩
def cZ{n:Int}{l:List Cb}{k:Nat}(h:0<=Fk n l)(hk:k<l.length)(hne:l[k].node≠n):Fk n (Bg l k)=down k (Fk n l):=by obtain⟨p,hp,e,h0,h1,h2⟩:=HJ h;rw[e,<-mF h2 hk (by rintro rfl;exact hne h1)];unfold Fk;rw[Ad h0]
def rJ{n:Int}{l:List Cb}{k:Nat}{x:Cb}(h:0<=Fk n l)(hk:k<l.length)(hne:l[k].node≠n)(hx:x.node≠n):Fk n (l.set k x)=Fk n l:=by obtain⟨p,hp,e,h0,h1,h2⟩:=HJ h;rw[e,<-rI (x:=x) (k:=k) h2 (by rintro rfl;exact hne h1) (by simp[YO];exact hx)];unfold Fk;rw[Ad h0]
def og{n:Int}{l:List Cb}(hn:((l.map Cb.node).filter λn=>decide (n≠0)).Nodup)(h:0<=Fk n l):Fk n (Bg l (Fk n l).toNat)<0:=by
 obtain⟨p,hp,e,h0,h1,h2⟩:=HJ h;rw[e,AX];refine Int.not_le.1 λi=>?_;obtain⟨g,f,j,_,d,_⟩:=HJ i;have:l=l.take p++l[p]::l.drop (p+1):=by rw[<-AG hp,CH]
 rw[this,Bu,Bj,DY,Hy,Af (by simpa[h1] using h0),B3,B5] at hn;have hm:=AN f;generalize(Bg l p)[g]=y at hm d;unfold Bg at hm;rcases Ay.1 hm with hm|hm
 .exact hn.2.2 y.node (DL.2 ⟨Pw hm,by simpa[d] using h0⟩) l[p].node AH (by rw[d,h1])
 .exact hn.2.1.1 (DL.2 ⟨by rw[h1,<-d];exact Pw hm,by simpa[h1] using h0⟩)
section
variable{h h':Ai}{bi a ai:Nat}{o c t:Aa}{G G' F:Nat->Prop}{b b':BS}{x:Int}{m:Nat}
variable{nm:Aj}{av:Aa}{l:List A5}{r:List Aa}{sp p:Int}{e:Ck}{at_ mk last:Int}{anc far:Item}
def Pb{blk anc:Int}{far i:Nat}{l:Int}{mk m:Nat}(r:BM b (m+4)):BM (BS.Fs blk anc far i b l mk).1 m:=by
 unfold BS.Fs;simp only
 split;.exact(r.le Ac).sub rfl Dp (A4 _) (Ag _)
 .split;.exact(r.le Ac).sub rfl Dp Dp (Ag _)
  .rename_i he _;obtain⟨p,hp,f,_,_,_⟩:=HJ (JA.1 he);rw[f,AX,AJ,Ap hp,Gg];have KX:=r.DB _ (AN hp);have d:=Jf (m:=m+1) (nm:=b.A6[p].name) (l:=b.A6[p].Av) (sp:=1) (p:=anc) (r.le Ac) KX.2;have r2:=(d.le (m':=m) Ac).KW (Ki (p:=(b.GG b.A6[p].name b.A6[p].Av 1).node) (x:=l) (bf:=0));refine⟨r2.n,r2.at_,r2.data,by simp only[Bq];exact r2.AQ,by simp only[Bq];exact r2.A6,r2.tm,λe he=>?_,λi hi=>?_⟩
   .rcases De he with he|rfl
    .exact r2.DB e he
    .exact KX
   .rcases De hi with hi|rfl
    .exact r2.Wg i hi
    .exact On KX.1
end
def UE{A:Ar}{x p bf:Int}(h:(A.nd p).kind=4):A.Es x p bf=A.F0 p x bf:=by unfold Ar.Es;rw[Ad (by rw[h];intro h;exact absurd h.1 AP)]
section
variable{h h':Ai}{bi a ai:Nat}{o c t:Aa}{G G' F:Nat->Prop}{b b':BS}{x:Int}{m:Nat}
variable{nm:Aj}{av:Aa}{l:List A5}{r:List Aa}{sp p:Int}{e:Ck}{at_ mk last:Int}{anc far:Item}
def B1.at(hc:B1 b.A6 c)(w:BX h bi a o c t G b)(rm:BM b m)(n:Int):BG cx 188 [Pt bi 3,I n] h (I (Fk n b.A6)) h:=by obtain⟨fs,GK,hv⟩:=hc;have ha:=rm.A6;have:=f41 w.sQ hv (by rw[<-GK,Ao] at ha;omega) n;rwa [Zh,GK] at this
structure rK(h:Ai)(bi a ai:Nat)(t:Aa)(G0:Nat->Prop)(fe:Ck)(anc far:Item)(k N m:Nat)(s0:BS×Int×Nat)(n:Nat)(h1:Ai)(o c:Aa)(G:Nat->Prop)(s:BS×Int×Nat):Prop where
 le:n<=N
 w:BX h1 bi a o c t G s.1
 hc:B1 s.1.A6 c
 ok:EB s.1
 rm:BM s.1 (m+4*n)
 last:s.1.a.has s.2.1
 st:h1[ai]?=some (.cells (FQ fe (Fk fe.c.node s.1.A6) (s.2.2:Int) anc far s.2.1))
 hn:¬Bs bi G ai
 x:DC h (Nc ai bi G0) h1 (Nc ai bi G)
 WI:0<=Fk fe.c.node s.1.A6
 mkb:s.2.2<=1000000000
 AQ:s.1.AQ.take (k+n+1)=s0.1.AQ.take (k+n+1)
 len:k+n+1<=s.1.AQ.length
 eq:BS.KV far.node anc.node (k+1+N) k N s0=BS.KV far.node anc.node (k+1+N) k n s
 fe:s.1.a.has fe.c.node
def dB{blk anc:Int}{far i:Nat}{l:Int}{mk:Nat}(hi:i<b.AQ.length):(BS.Fs blk anc far i b l mk).1.AQ.take i=b.AQ.take i/\i<=(BS.Fs blk anc far i b l mk).1.AQ.length:=by
 have h1:(Bg b.AQ i).take i=b.AQ.take i/\i<=(Bg b.AQ i).length:=by refine⟨?_,by rw[Hq hi];omega⟩;unfold Bg;rw[CM (by rw[Ax];omega),FC,Nat.min_self]
 unfold BS.Fs;simp only
 split;.exact h1
 .split;.exact h1
  .have OB:∀nm l p,(b.El nm l 1 p).AQ=b.AQ:=λnm l p=>by unfold BS.El;rw[Af J9]
   simp only[OB];exact⟨Pu (Ag i),by rw[Bq];omega⟩
def rK.step{h1 h2:Ai}{C D A z:Aa}{B u:Nat->Prop}{fe:Ck}{k N n:Nat}{s0 s s':BS×Int×Nat}(i:rK h bi a ai t G fe anc far k N m s0 (n+1) h1 C D B s)(e:s'=BS.Fs far.node anc.node (k+1+N) (k+(n+1)) s.1 s.2.1 s.2.2)
  (w:BX h2 bi a A z t u s'.1) (hc:B1 s'.1.A6 z) (st:h2[ai]?=some (.cells (FQ fe (Fk fe.c.node s'.1.A6) (s'.2.2:Int) anc far s'.2.1))) (hn:¬Bs bi u ai) (x:DC h1 (Nc ai bi B) h2 (Nc ai bi u)) (WI:0<=Fk fe.c.node s'.1.A6) (mk:s'.2.2<=1000000000):
  rK h bi a ai t G fe anc far k N m s0 n h2 A z u s':=by
 obtain⟨g,last',j⟩:=YU (blk:=far.node) (anc:=anc.node) (far:=k+1+N) (i:=k+(n+1)) (m:=s.2.2) i.ok i.last;have hl:=i.len;obtain⟨f,v⟩:=dB (blk:=far.node) (anc:=anc.node) (far:=k+1+N) (i:=k+(n+1)) (l:=s.2.1) (mk:=s.2.2) (b:=s.1) Ac;have d:=Pb (blk:=far.node) (anc:=anc.node) (far:=k+1+N) (i:=k+(n+1)) (l:=s.2.1) (mk:=s.2.2) (m:=m+4*n) (i.rm.le Ac);have OB:=i.AQ;have y:BS.KV far.node anc.node (k+1+N) k (n+1) s=BS.KV far.node anc.node (k+1+N) k n (BS.Fs far.node anc.node (k+1+N) (k+(n+1)) s.1 s.2.1 s.2.2):=rfl;have q:=i.eq.trans y;rw[<-e] at g last' j f v d q;refine⟨by have:=i.le;omega,w,hc,g,d,last',st,hn,i.x.trans x,WI,mk,?_,Ac,q,j.has _ i.fe⟩;have:=Cc (λl=>l.take (k+(n+1))) OB;simp only[FC] at this;rw[(Ac:k+n+1=k+(n+1)),f];rwa [Cq Ac] at this
def aIV{fe:Ck}{k N:Nat}{s0:BS×Int×Nat}(i0:rK h bi a ai t G fe anc far k N m s0 N h o c G s0)(ZU:1<=k)(QF:AV (Bz fe.c.node) s0.1.AQ=(k:Int))(hN:k+1+N<s0.1.AQ.length):
  ∃h' o' c' G' s',BG cx 334 [Pt bi 0,Pt ai 0,I (k:Int),I ((k+1+N:Nat):Int)] h (.tuple []) h'/\s'=BS.KV far.node anc.node (k+1+N) k N s0/\rK h bi a ai t G fe anc far k N m s0 0 h' o' c' G' s':=by
 have ho:=i0.rm.AQ;have I9:Ev cx 334 [Pt bi 0,Pt ai 0,I (k:Int),I ((k+1+N:Nat):Int)] h λr h'=>r= .tuple []/\∃o' c' G' s',s'=BS.KV far.node anc.node (k+1+N) k N s0/\rK h bi a ai t G fe anc far k N m s0 0 h' o' c' G' s':=by
  unfold Ev;rw[kF];have i1:=Da (a:=((k+1+N:Nat):Int)) (b:=1) Ac Ac;rw[(Ac:((k+1+N:Nat):Int)-1=((k+N:Nat):Int))] at i1;simp only[BE,i1];refine Bm (λn:Nat=>[I ((N-n:Nat):Int),I ((k+n:Nat):Int)]) (λn h1=>∃o c G1 s,rK h bi a ai t G fe anc far k N m s0 n h1 o c G1 s) (λn=>n) N (by rw[C5];rfl) ⟨o,c,_,s0,i0⟩ ?_;rintro n h1 ⟨o1,c1,G1,s,i⟩;cases n with
  |zero=>simp only[abS,↓reduceIte,(Ac:¬(k:Int)<(k:Int))];exact⟨_,rfl,rfl,o1,c1,G1,s,i.eq.symm,i⟩
  |succ n=>
   have hnN:=i.le;have hlen:=i.len;have dD:k+(n+1)<s.1.AQ.length:=Ac;have hwo:=i.rm.AQ;have hwa:=i.rm.A6;have ZO:ai≠bi:=λe=>i.hn (.inl e);have hai:ai<h1.length:=(An.1 i.st).1;have K:=Wj i.w.sA ((k+(n+1):Nat):Int);rw[HE dD] at K;have U:=mG i.ok.æ dD;have hxf:s.1.AQ[k+(n+1)].node≠fe.c.node:=by have h2:=Cc (λl=>l[k+(n+1)]?) i.AQ;simp only[Ci] at h2;rw[Af Ac,Af Ac,Ap dD,Ap Ac] at h2;obtain⟨_,_,L⟩:=IZ QF;have g:=L (k+(n+1)) Ac Ac;rw[D4 h2];intro h5;unfold Bz at g;rw[h5] at g;simp at g
   have Xo:s.1.AQ.getD (k+(n+1)) Item.zero=s.1.AQ[k+(n+1)]:=by rw[AJ,Ap dD];rfl
   generalize s.1.AQ[k+(n+1)]=x at*;have r2:=i.hc.at i.w i.rm x.node;obtain⟨q,hq,ny,hq0,hq2,hq3⟩:=HJ i.WI;have inc:AD (.int .add) [I ((N-(n+1):Nat):Int),I 1]=some (I ((N-n:Nat):Int)):=by have:=BN (n:=N-(n+1)) Ac;rwa [(Ac:N-(n+1)+1=N-n)] at this
   have dec:AD (.int .sub) [I ((k+(n+1):Nat):Int),I 1]=some (I ((k+n:Nat):Int)):=by have:=Iv (n:=k+(n+1)) Ac Ac;rwa [(Ac:k+(n+1)-1=k+n)] at this
   have qu:(k:Int)<((k+(n+1):Nat):Int):=Ac;have V:∀l:List Item,l=s.1.AQ->CX x.node l=Bg l (k+(n+1)):=by intro l e;subst e;unfold CX;rw[U,Ad Ac,AX]
   by_cases he:Fk x.node s.1.A6<0
   .obtain⟨u,B,hu⟩:=aAd i.w.sO Ac x.node;rw[V _ rfl] at hu;have y:=i.w.HZ hu;have es:({s.1 with AQ:=Bg s.1.AQ (k+(n+1))},s.2.1,s.2.2)=BS.Fs far.node anc.node (k+1+N) (k+(n+1)) s.1 s.2.1 s.2.2:=by unfold BS.Fs;simp only[Xo];rw[Af he]
    have D:=i.step es y i.hc ((Cm ZO).trans i.st) i.hn (EY Bf ai) i.WI i.mkb;by_cases NR:(3:Int)<((N-n:Nat):Int);.simp only[abS,↓reduceIte,E9,qu,K.Ab,inc,r2.Ab,NR,he,(Ac:¬(0:Int)<=Fk x.node s.1.A6),B.Ab,dec];exact AK.next n rfl ⟨_,_,_,_,D⟩ Ac
    .simp only[abS,↓reduceIte,E9,qu,K.Ab,inc,r2.Ab,NR,he,B.Ab,dec];exact AK.next n rfl ⟨_,_,_,_,D⟩ Ac
   .obtain⟨p,hp,ep,Ob,aO,hp3⟩:=HJ (JA.1 he);have Eh:(0:Int)<=(p:Int):=Ac;rw[ep] at r2;have W:s.1.A6[p].node≠fe.c.node:=by rw[aO];exact hxf
    have E:(Fk x.node s.1.A6).toNat=p:=by rw[ep,AX]
    by_cases NR:(3:Int)<((N-n:Nat):Int)
    .obtain⟨h2,c2,B,y,I7,C,H⟩:=gi i.w i.hc i.rm i.st i.hn hp ⟨i.WI,Ac⟩ ⟨Ac,by have:=i.mkb;omega⟩;have VF:BM {s.1 with A6:=Bg s.1.A6 p} (m+4*(n+1)):=i.rm.sub rfl (A4 _) Dp (Ag _);have r4:=B1.at (b:={s.1 with A6:=Bg s.1.A6 p}) I7 y VF x.node;have zH:Fk x.node (Bg s.1.A6 p)<0:=by have:=og (n:=x.node) i.ok.mv (JA.1 he);rwa [E] at this
     obtain⟨u,r5,hu⟩:=aAd y.sO Dv x.node;rw[V _ rfl] at hu;have M:=y.HZ hu;have E_:(((if p<s.2.2 then s.2.2 -1 else s.2.2:Nat)):Int)=down p (s.2.2:Int):=by unfold down;split<;>split<;>omega
     have es:({s.1 with A6:=Bg s.1.A6 p,AQ:=Bg s.1.AQ (k+(n+1))},s.2.1,if p<s.2.2 then s.2.2 -1 else s.2.2)=BS.Fs far.node anc.node (k+1+N) (k+(n+1)) s.1 s.2.1 s.2.2:=by unfold BS.Fs;simp only[Xo];rw[Ad he,Af (Ac:k+(n+1)+3<k+1+N),E]
     have aIW:=cZ i.WI hp W;have hd0:0<=down p (Fk fe.c.node s.1.A6):=by unfold down;split<;>omega
     have D:=i.step es M I7 (by rw[Cm ZO,C];simp only;rw[aIW,E_]) i.hn (H.trans (EY Bf ai)) (by simp only;rw[aIW];exact hd0) (by have:=i.mkb;simp only;split<;>omega);simp only[abS,↓reduceIte,E9,qu,K.Ab,inc,r2.Ab,NR,Eh,B.Ab,r4.Ab,zH,r5.Ab,dec];exact AK.next n rfl ⟨_,_,_,_,D⟩ Ac
    .obtain⟨fs,GK,hv⟩:=i.hc;have Hu:s.1.A6.length=fs.length:=by rw[<-GK,Ao]
     have aEF:p<fs.length:=Ac;have Z:fs[p].c=s.1.A6[p]:=by simp only[<-GK,C0]
     have l3:=i.w.l3;have e1:=AU.BL (k:= .i64) hv aEF;have l5:A7 h1 none (Pt ai 5)=some (I anc.node):=At.load ⟨_,i.st,rfl⟩;obtain⟨r,B,hr⟩:=C_ fs[p] h1;have KX:=i.rm.DB _ (AN hp);rw[<-Z] at KX;obtain⟨h2,G2,r4,y,H⟩:=zu (m:=m+4*n) i.w i.ok.ba (i.rm.le Ac) hr fs[p].ok KX.2 KX.1 anc.node 1;obtain⟨zw,f,le2⟩:=Qp (nm:=fs[p].c.name) (at_:=fs[p].c.Av) (p:=anc.node) i.ok J9;have VF:=Jf (m:=m+4*n+1) (nm:=fs[p].c.name) (l:=fs[p].c.Av) (sp:=1) (p:=anc.node) (i.rm.le Ac) KX.2;have OB:(s.1.El fs[p].c.name fs[p].c.Av 1 anc.node).AQ=s.1.AQ:=by unfold BS.El;rw[Af J9]
     have Rx:(s.1.El fs[p].c.name fs[p].c.Av 1 anc.node).A6=s.1.A6:=by unfold BS.El;rw[Af J9]
     have Y:BS.Fs far.node anc.node (k+1+N) (k+(n+1)) s.1 s.2.1 s.2.2=({s.1.El fs[p].c.name fs[p].c.Av 1 anc.node with a:=(s.1.El fs[p].c.name fs[p].c.Av 1 anc.node).a.F0 (s.1.GG fs[p].c.name fs[p].c.Av 1).node s.2.1 0,AQ:=(s.1.El fs[p].c.name fs[p].c.Av 1 anc.node).AQ.set (k+(n+1)) (s.1.GG fs[p].c.name fs[p].c.Av 1),A6:=(s.1.El fs[p].c.name fs[p].c.Av 1 anc.node).A6.set p {fs[p].c with node:=(s.1.GG fs[p].c.name fs[p].c.Av 1).node}},(s.1.GG fs[p].c.name fs[p].c.Av 1).node,if s.2.1=far.node then p+1 else s.2.2):=by unfold BS.Fs;simp only[Xo];rw[Ad he,Ad Ac,E,AJ,Ap hp,Gg,<-Z]
     have zB:=Ol i.ok f;have hna:=QY i.ok f;have hnf:(s.1.GG fs[p].c.name fs[p].c.Av 1).node≠fe.c.node:=λe2=>f.new (by rw[e2];exact i.fe);have aN3:=le2.has _ i.last;have aEG:(s.1.GG fs[p].c.name fs[p].c.Av 1).name.length<=1000:=On KX.1;generalize s.1.GG fs[p].c.name fs[p].c.Av 1=d at*;generalize s.1.El fs[p].c.name fs[p].c.Av 1 anc.node=b2 at*;have TY:¬Bs bi G2 ai:=λhg=>by
      rcases H.Bs ai hg with hg|hg
      .exact i.hn hg
      .omega
     have C:h2[ai]?=_:=(H.old ai hai i.hn).trans i.st;obtain⟨J,O,r5,Py⟩:=aNa y.sO (by have:=VF.AQ;omega) x.node d;have aAy:Qj x.node d b2.AQ=b2.AQ.set (k+(n+1)) d:=by unfold Qj;rw[OB,U,Ad Ac,AX]
     rw[aAy] at Py;have M:=(y.HZ Py).HQ (u:=O);have x3:DC h1 (Nc ai bi G1) (put h2 bi 2 J++O) (Nc ai bi G2):=(EY H ai).trans (EY (Bf.trans (y.HZ Py).C2) ai);have ai2:ai<h2.length:=by have:=H.len;omega
     have st3:(put h2 bi 2 J++O)[ai]?=_:=(Ak (by rw[JN];exact ai2)).trans ((Cm ZO).trans C);have ai3:ai<(put h2 bi 2 J++O).length:=by rw[Au,JN];omega
     generalize put h2 bi 2 J++O=L at*;have aN4:=(KX.2).1;obtain⟨A,t2,e2,he2,r6,IG⟩:=aNp (h:=L) (id:=bi) (o:=3) (l:=fs) ⟨c1,M.sQ,hv⟩ Ac x.node (e:=⟨{fs[p].c with node:=d.node},fs[p].v,fs[p].ok⟩) (by unfold ZQ;simp only;omega);have hei:HF x.node fs=(p:Int):=by rw[Zh,GK,ep]
     rw[hei,Ad Ac,AX] at IG;have w4:=(M.KE (u:=A) (l:=b2.A6.set p {fs[p].c with node:=d.node})).HQ (u:=t2);have hc4:B1 (b2.A6.set p {fs[p].c with node:=d.node}) A:=⟨_,by rw[Et,GK,he2,Rx],IG⟩;have x4:=x3.trans (EY ((Bf (k:=3) (v:=A)).trans (BX.C2 (u:=t2) (M.KE (u:=A) (l:=b2.A6.set p {fs[p].c with node:=d.node})))) ai);have z:(put L bi 3 A++t2)[ai]?=_:=(Ak (by rw[JN];exact ai3)).trans ((Cm ZO).trans st3);generalize put L bi 3 A++t2=g at*;have ok3:=zw.vV (i:=d) (k:=k+(n+1)) ⟨f.has,f.kind,f.Bb,f.name⟩ (by rw[OB];exact zB);have qt:=ok3.vW (e:={fs[p].c with node:=d.node}) (k:=p) ⟨f.has,f.kind⟩ (by simp only[Rx];exact hna);have rm4:BM {b2 with AQ:=b2.AQ.set (k+(n+1)) d,A6:=b2.A6.set p {fs[p].c with node:=d.node}} (m+4*n+1):=by
      refine⟨VF.n,VF.at_,VF.data,by simp only[Bq];exact VF.AQ,by simp only[Bq];exact VF.A6,VF.tm,λe he=>?_,λi hi=>?_⟩
      .rcases De he with he|rfl
       .exact VF.DB e he
       .exact KX
      .rcases De hi with hi|rfl
       .exact VF.Wg i hi
       .exact aEG
     have S:A7 g none (Pt ai 13)=some (I s.2.1):=At.load ⟨_,z,rfl⟩;have l9:A7 g none (Pt ai 9)=some (I far.node):=At.load ⟨_,z,rfl⟩;have t4:At g ai 4 (I (s.2.2:Int)):=⟨_,z,rfl⟩;obtain⟨UF,Ws⟩:∃UF:Nat,UF=if s.2.1=far.node then p+1 else s.2.2:=⟨_,rfl⟩
     have e5:put g ai 4 (I (UF:Int))=if s.2.1=far.node then put g ai 4 (I ((p+1:Nat):Int)) else g:=by
      rw[Ws];split;.rfl
      .exact t4.same
     have Q:=Iq (k:=4) (v:= I (UF:Int)) z;have w5:BX (put g ai 4 (I (UF:Int))) bi a J A t G2 {b2 with AQ:=b2.AQ.set (k+(n+1)) d,A6:=b2.A6.set p {fs[p].c with node:=d.node}}:=w4.Dl λj hj=>Cm λe=>TY (e▸hj);have x5:=x4.trans (Qu (k:=4) (v:= I (UF:Int)));have ai5:ai<(put g ai 4 (I (UF:Int))).length:=by have:=x5.len;omega
     have t5:A7 (put g ai 4 (I (UF:Int))) none (Pt ai 13)=some (I s.2.1):=At.load ⟨_,Q,rfl⟩;generalize hh5:put g ai 4 (I (UF:Int))=h5 at*;obtain⟨h6,G6,r7,w6,x6⟩:=rB (x:=s.2.1) (p:=d.node) (bf:=0) w5 qt.ba rm4;rw[UE (by exact f.kind)] at w6;have X:¬Bs bi G6 ai:=λhg=>by
      rcases x6.Bs ai hg with hg|hg
      .exact TY hg
      .omega
     have P:h6[ai]?=_:=(x6.old ai ai5 TY).trans Q;have t6:At h6 ai 13 (I s.2.1):=⟨_,P,rfl⟩;have st7:=Iq (k:=13) (v:= I d.node) P;have w7:BX (put h6 ai 13 (I d.node)) bi a J A t G6 _:=w6.Dl λj hj=>Cm λe=>X (e▸hj);have x7:=(x5.trans (EY x6 ai)).trans (Qu (k:=13) (v:= I d.node));have Zj:Fk fe.c.node (b2.A6.set p {fs[p].c with node:=d.node})=Fk fe.c.node s.1.A6:=by rw[Rx];exact rJ i.WI hp W hnf
     rw[<-Ws] at Y;have D:=i.step Y.symm w7 hc4 (by simp only;rw[st7,Zj];rfl) X x7 (by simp only;rw[Zj];exact i.WI) (by simp only;rw[Ws];have:=i.mkb;split<;>omega);have oh:fs[p].v.cells=[fs[p].v]:=AU.cells fs[p].ok;have T:=BN (Ac:p<9223372036854775807);have R:BG cx 408 [Pt bi 3,I x.node,.agg [I d.node,.str fs[p].c.name,fs[p].v]] L (.bool (decide (0<=HF x.node fs))) g:=r6;rw[Ck.row] at e1 B;by_cases SC:s.2.1=far.node
     .rw[Af SC] at e5;have s5:Cv g 1 (Pt ai 4) (I ((p+1:Nat):Int))=some h5:=by rw[e5];exact t4.store rfl
      simp only[abS,Nat.reduceLeDiff,↓reduceIte,AT,E9,qu,K.Ab,inc,r2.Ab,NR,Eh,(Ac:¬(p:Int)<0),l3,e1,l5,B.Ab,BK,r4.Ab,r5.Ab,oh,R.Ab,S,l9,AL SC,T,s5,t5,r7.Ab,t6.store (u:= I d.node) rfl,dec];exact AK.next n rfl ⟨_,_,_,_,D⟩ Ac
     .rw[Ad SC] at e5;subst e5;simp only[abS,Nat.reduceLeDiff,↓reduceIte,AT,E9,qu,K.Ab,inc,r2.Ab,NR,Eh,(Ac:¬(p:Int)<0),l3,e1,l5,B.Ab,BK,r4.Ab,r5.Ab,oh,R.Ab,S,l9,SC,r7.Ab,t6.store (u:= I d.node) rfl,dec];exact AK.next n rfl ⟨_,_,_,_,D⟩ Ac
 obtain⟨r,h',hr,rfl,o',c',G',s',e',i'⟩:=I9.ret;exact⟨h',o',c',G',s',hr,e',i'⟩
end
section
variable{h h':Ai}{bi a ai:Nat}{o c t:Aa}{G G' F:Nat->Prop}{b b':BS}{x:Int}{m:Nat}
variable{nm:Aj}{av:Aa}{l:List A5}{r:List Aa}{sp p:Int}{e:Ck}{at_ mk last:Int}{anc far:Item}
def B1.find(hc:B1 b.A6 c)(w:BX h bi a o c t G b)(rm:BM b m)(nm:Aj):BG cx 330 [Pt bi 3,.str nm] h (I (GL nm b.A6)) h:=by obtain⟨fs,GK,hv⟩:=hc;have ha:=rm.A6;have:=aNd w.sQ hv (by rw[<-GK,Ao] at ha;omega) nm;rwa [gd,GK] at this
def Zk(d:h.length<=ai)(x:DC h (Nc ai bi G) h' (Nc ai bi G')):DC h (Bs bi G) h' (Bs bi G'):=
 ⟨x.len,λi hi hn=>x.old i hi λhg=>by
  rcases hg with rfl|hg
  .omega
  .exact hn hg,λi hi=>by
  rcases x.Bs i (.inr hi) with(rfl|h)|h
  .exact .inr d
  .exact .inl h
  .exact .inr h⟩
def TI{nm:Aj}{l:List Cb}(h:0<=GL nm l):∃p:Nat,∃hp:p<l.length,GL nm l=(p:Int):=by
 have key:∀r:List Cb,Qo nm r<r.length:=by
  intro r;induction r with
  |nil=>show(-1:Int)<0;decide
  |cons x r ih=>rw[Qo];simp only[Bd];split<;>(try split)<;>omega
 have:=key l.reverse;rw[Lq] at this;refine⟨(GL nm l).toNat,?_,Ac⟩;unfold GL at h⊢;omega
def gj{l:List Cb}{f:Nat}(hn:((l.map Cb.node).filter λn=>decide (n≠0)).Nodup)(hf:f<l.length)(h0:l[f].node≠0):Fk l[f].node l=(f:Int):=by
 unfold Fk;rw[Ad h0];refine MS hf (by simp[YO]) λj hj h=>?_;by_cases he:l[j].node=l[f].node
 .exfalso;have:l=l.take j++l[j]::l.drop (j+1):=by rw[<-AG hj,CH]
  rw[this,Bu,Bj,DY,Hy,Af (by simpa[he] using h0),B3] at hn;have hm:l[f]∈l.take j:=List.mem_take_iff_getElem.2 ⟨f,Ac,rfl⟩;exact hn.2.2 l[f].node (DL.2 ⟨Pw hm,by simpa using h0⟩) l[j].node AH he.symm
 .simp[YO,he]
def rL{v:Dx}:DC h (Am.Nc ai bi G) (h.set ai v) (Am.Nc ai bi G):=⟨by rw[Bq];exact Ag _,λi _ hn=>As λe=>hn (.inl e.symm),λ_ h=> .inl h⟩
def aEI(hc:h[ai]?=some (.cells (FQ e at_ mk anc far last)))(i:Item):Cv h 4 (Pt ai 5) (.agg i.row)=some (h.set ai (.cells (FQ e at_ mk i far last))):=by simp only[Cv,hc];rfl
def aEJ(hc:h[ai]?=some (.cells (FQ e at_ mk anc far last)))(i:Item):Cv h 4 (Pt ai 9) (.agg i.row)=some (h.set ai (.cells (FQ e at_ mk anc i last))):=by simp only[Cv,hc];rfl
def aEK(hc:h[ai]?=some (.cells (FQ e at_ mk anc far last))):A7 h (some 3) (Pt ai 0)=some (.agg e.row):=by simp only[A7,hc];rfl
def RD{A:Ar}{n x:Int}{l:List Int}:BS.CB A n (l++[x])=(BS.CB A n l).F0 n x 0:=by unfold BS.CB;rw[List.foldl_append];rfl
def aN6(w:BX h bi a o c t G b)(hc:B1 b.A6 c)(ok:EB b)(rm:BM b (m+4*b.AQ.length+10))(nm:Aj):
  ∃h' o' c' G',BG cx 189 [Pt bi 0,.str nm] h (.bool (b.round nm).1) h'/\BX h' bi a o' c' t G' (b.round nm).2/\B1 (b.round nm).2.A6 c'/\DC h (Bs bi G) h' (Bs bi G'):=by
 have ho:=rm.AQ;have Rx:=rm.A6;have X:=hc.find w rm nm;by_cases hf:GL nm b.A6<0
 .obtain⟨h2,o2,r2,O,x2⟩:=aID w rm nm;have e:b.round nm=(false,b.Du nm):=by unfold BS.round;simp only;rw[Af hf]
  have ea:(b.Du nm).A6=b.A6:=by
   unfold BS.Du;split;.split<;>rfl
   .rfl
  rw[e];refine⟨h2,o2,c,G,?_,O,by rw[ea];exact hc,x2⟩;rw[Ae,Nr,wU];simp only[abS,Nat.reduceLeDiff,↓reduceIte,AT,X.Ab,hf,r2.Ab]
 obtain⟨f,Hu,ef⟩:=TI (JA.1 hf);have sM:¬(f:Int)<0:=Ac;rw[ef] at X;have Kw:=hc;obtain⟨fs,GK,hv⟩:=Kw;have aN7:b.A6.length=fs.length:=by rw[<-GK,Ao]
 have J:fs[f].c=b.A6[f]:=by simp only[<-GK,C0]
 have l3:=w.l3;have e1:=AU.BL (k:= .i64) hv (Ac:f<fs.length);generalize hfe:fs[f]=fe at*;have Xo:b.A6.getD f Cb.zero=fe.c:=by rw[AJ,Ap Hu];exact J.symm
 have oh:fe.v.cells=[fe.v]:=AU.cells fe.ok;have w1:=w.HQ (u:=[.cells (FQ fe (f:Int) (f:Int) Item.zero Item.zero 0)]);have z:(h++[Dx.cells (FQ fe (f:Int) (f:Int) Item.zero Item.zero 0)])[h.length]?=some (.cells (FQ fe (f:Int) (f:Int) Item.zero Item.zero 0)):=AH;have x1:DC h (Bs bi G) (h++[Dx.cells (FQ fe (f:Int) (f:Int) Item.zero Item.zero 0)]) (Bs bi G):=w.C2;have ND:¬Bs bi G h.length:=by
  rintro(e|hg);.exact absurd w.lt Ac
  .exact absurd (w.w.lt hg) (Dm _)
 obtain⟨C,y⟩:∃C,C=h++[Dx.cells (FQ fe (f:Int) (f:Int) Item.zero Item.zero 0)]:=⟨_,rfl⟩;rw[<-y] at w1 z x1;have l0:A7 C none (Pt h.length 0)=some (I fe.c.node):=At.load ⟨_,z,rfl⟩;have r2:=aL w1.sA Ac fe.c.node;have WC:FQ fe (f:Int) (f:Int) Item.zero Item.zero 0=[I fe.c.node,.str fe.c.name,fe.v,I (f:Int),I (f:Int),I 0,I 0,S [],ff,I 0,I 0,S [],ff,I 0]:=rfl;rw[WC] at y;rw[Ck.row] at e1;by_cases hk:AV (Bz fe.c.node) b.AQ<0
 .obtain⟨h2,c2,W,O,I7,_,x2⟩:=gi w1 hc rm z ND Hu ⟨Ac,Ac⟩ ⟨Ac,Ac⟩;have e:b.round nm=(false,{b with A6:=Bg b.A6 f}):=by unfold BS.round;simp only;rw[Ad hf,ef,AX,Xo,Af hk]
  rw[e];refine⟨h2,o,c2,G,?_,O,I7,Zk (Ag _) ((EY x1 h.length).trans x2)⟩;rw[Ae,Nr,wU];simp only[abS,Nat.reduceLeDiff,↓reduceIte,AT,X.Ab,sM,l3,e1,<-y,l0,r2.Ab,hk,W.Ab]
 obtain⟨k,Z⟩:∃k:Nat,AV (Bz fe.c.node) b.AQ=(k:Int):=⟨_,(Hh (JA.1 hk)).symm⟩;obtain⟨QF,hkq,_⟩:=IZ Z;have qW:¬(k:Int)<0:=Ac;rw[Z] at r2;by_cases hkz:k=0
 .have e:b.round nm=(false,b):=by unfold BS.round;simp only;rw[Ad hf,ef,AX,Xo,Ad hk,Af (.inl (by rw[Z,hkz];rfl))]
  rw[e];refine⟨C,o,c,G,?_,w1,hc,x1⟩;rw[Ae,Nr,wU];simp only[abS,Nat.reduceLeDiff,↓reduceIte,AT,X.Ab,sM,l3,e1,<-y,l0,r2.Ab,qW,AL (Ac:(k:Int)=0)]
 have rM:¬(k:Int)=0:=Ac;have W:=aMV w1.sA Ac 1 fe.c.node;by_cases Ri:Kn (Bz fe.c.node) (JZ 1) b.AQ.reverse=false
 .have e:b.round nm=(false,b):=by unfold BS.round;simp only;rw[Ad hf,ef,AX,Xo,Ad hk,Af (.inr Ri)]
  rw[e];refine⟨C,o,c,G,?_,w1,hc,x1⟩;rw[Ri] at W;rw[Ae,Nr,wU];simp only[abS,Nat.reduceLeDiff,↓reduceIte,AT,X.Ab,sM,l3,e1,<-y,l0,r2.Ab,qW,rM,W.Ab]
 have aEL:Kn (Bz fe.c.node) (JZ 1) b.AQ.reverse=true:=by simpa using Ri
 rw[aEL] at W;have r4:=aMZ w1.sA Ac fe.c.node;have hor:¬(AV (Bz fe.c.node) b.AQ=0\/Kn (Bz fe.c.node) (JZ 1) b.AQ.reverse=false):=by rw[Z];rintro(h|h);exact rM h;exact Ri h
 by_cases hfa:D2 fe.c.node b.AQ<0
 .have e:b.round nm=(false,{b with AQ:=Hd fe.c.node b.AQ,A6:=Bg b.A6 f}):=by unfold BS.round;simp only;rw[Ad hf,ef,AX,Xo,Ad hk,Ad hor,Af hfa]
  obtain⟨u,r5,hu⟩:=aHN w1.sO Ac fe.c.node;have O:=w1.HZ hu;have E:(put C bi 2 u)[h.length]?=_:=(Cm (λe=>ND (.inl e))).trans z;obtain⟨h3,c3,r6,w3,NR,_,x3⟩:=gi O hc ((rm.le (m':=0) Ac).sub rfl IY (A4 _) (Ag _)) E ND Hu ⟨Ac,Ac⟩ ⟨Ac,Ac⟩;rw[e];refine⟨h3,u,c3,G,?_,w3,NR,Zk (Ag _) ((EY (x1.trans Bf) h.length).trans x3)⟩;rw[Ae,Nr,wU];simp only[abS,Nat.reduceLeDiff,↓reduceIte,AT,X.Ab,sM,l3,e1,<-y,l0,r2.Ab,qW,rM,W.Ab,r4.Ab,hfa,r5.Ab,r6.Ab]
 obtain⟨N,hN,eN⟩:∃N:Nat,k+1+N<b.AQ.length/\D2 fe.c.node b.AQ=((k+1+N:Nat):Int):=by
  have xJ:=hfa;rw[IS,Ad hk,Z,AX] at xJ⊢;unfold E2 at xJ⊢;split at xJ;.rename_i j hj;have:=(EK.1 hj).1;rw[Be] at this;exact⟨j,Ac,Ac⟩
  .omega
 obtain⟨d,nr⟩:∃d,d=b.AQ[k+1+N]:=⟨_,rfl⟩;obtain⟨an,han⟩:∃an,an=b.AQ[k-1]'(by omega):=⟨_,rfl⟩;have vr:b.AQ.getD (k+1+N) Item.zero=d:=by rw[AJ,Ap hN,nr];rfl
 have hga:b.AQ.getD (k-1) Item.zero=an:=by rw[AJ,Ap Ac,han];rfl
 have e:b.round nm=(true,BS.GP fe.c d.node an.node (BS.KV d.node an.node (k+1+N) k N (b,d.node,f))):=by
  unfold BS.round;simp only
  rw[Ad hf,ef,AX,Xo,Ad hk,Ad hor,Ad hfa,Z,eN,AX,AX,vr,hga,(Ac:k+1+N-1 -k=N)]
 have oj:=ok.op d (by rw[nr];exact AN _);have aEM:b.AQ[k].node=fe.c.node:=by simpa[Bz] using hkq
 have aAz:b.a.has fe.c.node:=by rw[<-aEM];exact(ok.op _ (AN _)).1
 have aAA:b.A6[f].node≠0:=by rw[<-J];have:=aAz.1;omega
 have Zj:=gj ok.mv Hu aAA;rw[<-J] at Zj;have KX:=rm.DB _ (AN Hu);rw[<-J] at KX;have Wc:=Iv (n:=k) Ac Ac;have r5:=Wj w1.sA ((k-1:Nat):Int);rw[HE Ac,<-han] at r5;have r6:=Wj w1.sA ((k+1+N:Nat):Int);rw[HE hN,<-nr] at r6;have s5:=aEI z an;have WM:h.length<C.length:=(An.1 z).1;have hbn:h.length≠bi:=λe=>ND (.inl e);have E:(C.set h.length (.cells (FQ fe f f an Item.zero 0)))[h.length]?=_:=AO WM;have O:BX (C.set h.length (.cells (FQ fe f f an Item.zero 0))) bi a o c t G b:=w1.Dl λj hj=>As λe=>ND (by rw[e];exact hj);have x2:=(EY x1 h.length).trans (rL (v:= .cells (FQ fe f f an Item.zero 0)));generalize C.set h.length (.cells (FQ fe f f an Item.zero 0))=H2 at*;have s6:=aEJ E d;have bU:h.length<H2.length:=(An.1 E).1;have U:(H2.set h.length (.cells (FQ fe f f an d 0)))[h.length]?=_:=AO bU;have w3:BX (H2.set h.length (.cells (FQ fe f f an d 0))) bi a o c t G b:=O.Dl λj hj=>As λe=>ND (by rw[e];exact hj);have x3:=x2.trans (rL (v:= .cells (FQ fe f f an d 0)));generalize H2.set h.length (.cells (FQ fe f f an d 0))=H3 at*;have l9:A7 H3 none (Pt h.length 9)=some (I d.node):=At.load ⟨_,U,rfl⟩;have t13:At H3 h.length 13 (I 0):=⟨_,U,rfl⟩;have s7:=t13.store (u:= I d.node) rfl;have st4:=Iq (k:=13) (v:= I d.node) U;have w4:BX (put H3 h.length 13 (I d.node)) bi a o c t G b:=w3.Dl λj hj=>Cm λe=>ND (by rw[<-e];exact hj);have x4:=x3.trans (Qu (k:=13) (v:= I d.node));generalize put H3 h.length 13 (I d.node)=H4 at*;have i0:rK H4 bi a h.length t G fe an d k N (m+10) (b,d.node,f) N H4 o c G (b,d.node,f):=
  ⟨Ag _,w4,hc,ok,rm.le Ac,oj.1,by rw[Zj];exact st4,ND,.refl,by rw[Zj];omega,by show f<=1000000000;omega,rfl,Dv,rfl,aAz⟩
 have le0:=(WQ (blk:=d.node) (anc:=an.node) (far:=k+1+N) (k:=k) (c:=N) (s:=(b,d.node,f)) ok oj.1).2.2;obtain⟨h5,o5,c5,G5,s',r7,es,i⟩:=aIV i0 Ac Z hN;rw[<-es] at le0 e;obtain⟨q,hq,ny,hq0,hq2,hq3⟩:=HJ i.WI;have H:=i.st;rw[ny] at H;have hmk:=i.mkb;have ZO:h.length≠bi:=hbn;have l5:A7 h5 none (Pt h.length 5)=some (I an.node):=At.load ⟨_,H,rfl⟩;obtain⟨u6,r8⟩:=aAo i.w i.ok.ba i.rm an.node;have w6:=i.w.HQ (u:=u6);have w6':=i.w.C2 (u:=u6);have hl5:h.length<h5.length:=(An.1 H).1;have st6:(h5++u6)[h.length]?=_:=(Ak hl5).trans H;have l13:A7 (h5++u6) none (Pt h.length 13)=some (I s'.2.1):=At.load ⟨_,st6,rfl⟩;have hl6:h.length<(h5++u6).length:=by rw[Au];omega
 obtain⟨h7,G7,r9,w7,x7⟩:=rB (x:=s'.2.1) (p:=(s'.1.place an.node).1) (bf:=(s'.1.place an.node).2) w6 i.ok.ba i.rm;have hn7:¬Bs bi G7 h.length:=λhg=>by
  rcases x7.Bs h.length hg with hg|hg
  .exact i.hn hg
  .omega
 have D:h7[h.length]?=_:=(x7.old h.length hl6 i.hn).trans st6;have l3b:A7 h7 (some 3) (Pt h.length 0)=some (.agg fe.row):=aEK D;have l9b:A7 h7 none (Pt h.length 9)=some (I d.node):=At.load ⟨_,D,rfl⟩;obtain⟨r,rN,hr⟩:=C_ fe h7;have le7:Le s'.1.a (s'.1.a.Es s'.2.1 (s'.1.place an.node).1 (s'.1.place an.node).2):=IE;have Y:=i.ok.KW (Np (n:=s'.2.1) (p:=(s'.1.place an.node).1) (b:=(s'.1.place an.node).2) i.ok.ok) le7;have V:=i.rm.KW (Kj (x:=s'.2.1) (p:=(s'.1.place an.node).1) (bf:=(s'.1.place an.node).2));obtain⟨b2,OC⟩:∃b2,b2={s'.1 with a:=s'.1.a.Es s'.2.1 (s'.1.place an.node).1 (s'.1.place an.node).2}:=⟨_,rfl⟩;have ZK:b2.AQ=s'.1.AQ:=by rw[OC]
 have I7:b2.A6=s'.1.A6:=by rw[OC]
 have le2:Le s'.1.a b2.a:=by rw[OC];exact le7
 rw[<-OC] at w7 Y V;obtain⟨M,G8,r11,w8,x8⟩:=zu (m:=m+7) w7 Y.ba (V.le Ac) hr fe.ok KX.2 KX.1 d.node 1;obtain⟨é,fr,le8⟩:=Qp (nm:=fe.c.name) (at_:=fe.c.Av) (p:=d.node) Y J9;have A:=Jf (m:=m+7) (nm:=fe.c.name) (l:=fe.c.Av) (sp:=1) (p:=d.node) (V.le Ac) KX.2;obtain⟨g,hnw⟩:∃g,g=b2.GG fe.c.name fe.c.Av 1:=⟨_,rfl⟩;obtain⟨b3,qo⟩:∃b3,b3=b2.El fe.c.name fe.c.Av 1 d.node:=⟨_,rfl⟩;have ho3:b3.AQ=s'.1.AQ:=by rw[qo,<-ZK];unfold BS.El;rw[Af J9]
 have NR:b3.A6=s'.1.A6:=by rw[qo,<-I7];unfold BS.El;rw[Af J9]
 rw[<-hnw] at r11 fr;rw[<-qo] at w8 é fr le8 A;have hl7:h.length<h7.length:=(An.1 D).1;have hn8:¬Bs bi G8 h.length:=λhg=>by
  rcases x8.Bs h.length hg with hg|hg
  .exact hn7 hg
  .omega
 have T:M[h.length]?=_:=(x8.old h.length hl7 hn7).trans D;have l9c:A7 M none (Pt h.length 9)=some (I d.node):=At.load ⟨_,T,rfl⟩;obtain⟨kv,r12,fy⟩:∃v,BG cx 306 [Pt a 0,I d.node] M v M/\DX (b3.a.nd d.node).Bc v:=by obtain⟨n',m',ps,wa⟩:=w8.w.pa;exact aBW wa A.ZR (A.ZR.Bc é.ok d.node)
 have aI2:(b3.a.nd d.node).Bc.length<=1000000000:=A.ZR.Bc é.ok d.node;have WD:g.row=[I g.node,I g.Bb,.str g.name,.bool g.Og]:=rfl;rw[Ck.row] at rN l3b;have I9:Ev cx 189 [Pt bi 0,.str nm] h λr h'=>r= .bool true/\∃o' c' G',BX h' bi a o' c' t G' (BS.GP fe.c d.node an.node s')/\B1 (BS.GP fe.c d.node an.node s').A6 c'/\DC h (Bs bi G) h' (Bs bi G'):=by
  unfold Ev;rw[Nr,wU];simp only[abS,Nat.reduceLeDiff,↓reduceIte,AT,X.Ab,sM,l3,e1,<-y,l0,r2.Ab,qW,rM,W.Ab,r4.Ab,eN,(Ac:¬((k+1+N:Nat):Int)<0),Wc,r5.Ab,r6.Ab,s5,s6,l9,s7];simp only[abS,r7.Ab,l5,r8.Ab];simp only[abS,l13,r9.Ab];simp only[BE,l3b,l9b];simp only[abS,↓reduceIte,E9,rN.Ab,BK,r11.Ab,l9b];simp only[BE,w8.l0,l9c,r12.Ab,AU.CN fy];have x8':DC h (Nc h.length bi G) M (Nc h.length bi G8):=(((x4.trans i.x).trans (EY w6' h.length)).trans (EY x7 h.length)).trans (EY x8 h.length);refine DK (i:=0) (λj:Nat=>[I (j:Int)]) (λj B=>j<=(b3.a.nd d.node).Bc.length/\∃K,BX B bi a o5 c5 t K {b3 with a:=BS.CB b3.a g.node ((b3.a.nd d.node).Bc.take j)}/\EB {b3 with a:=BS.CB b3.a g.node ((b3.a.nd d.node).Bc.take j)}/\BM {b3 with a:=BS.CB b3.a g.node ((b3.a.nd d.node).Bc.take j)} (m+7)/\DC M (Bs bi G8) B (Bs bi K)) (λj=>(b3.a.nd d.node).Bc.length-j)
   (λj B=>j=(b3.a.nd d.node).Bc.length/\∃K,BX B bi a o5 c5 t K {b3 with a:=BS.CB b3.a g.node ((b3.a.nd d.node).Bc.take j)}/\EB {b3 with a:=BS.CB b3.a g.node ((b3.a.nd d.node).Bc.take j)}/\BM {b3 with a:=BS.CB b3.a g.node ((b3.a.nd d.node).Bc.take j)} (m+7)/\DC M (Bs bi G8) B (Bs bi K)) 0 rfl ⟨AY _,G8,w8,é,A,.refl⟩ ?_ ?_
  .rintro j B ⟨hj,K,w9,xK,gl,x9⟩;rcases AR j (b3.a.nd d.node).Bc.length with hlt|Eh
   .have e9:=AU.BL (k:= .i64) fy hlt;obtain⟨VE,L,F_,UG,xL⟩:=rB (x:=(b3.a.nd d.node).Bc[j]) (p:=g.node) (bf:=0) w9 xK.ba gl;have lej:=(Nq (n:=g.node) (l:=(b3.a.nd d.node).Bc.take j) é.ok).2;rw[UE (by show((BS.CB b3.a g.node ((b3.a.nd d.node).Bc.take j)).nd g.node).kind=4;rw[lej.kind _ fr.has];exact fr.kind)] at UG;have hs:BS.CB b3.a g.node ((b3.a.nd d.node).Bc.take (j+1))=(BS.CB b3.a g.node ((b3.a.nd d.node).Bc.take j)).F0 g.node (b3.a.nd d.node).Bc[j] 0:=by rw[AB hlt,RD]
    rw[B8] at e9;simp only[abS,(Ac:(j:Int)<((b3.a.nd d.node).Bc.length:Int)),e9,F_.Ab,BN (Ac:j<9223372036854775807)];refine .next (j+1) rfl ⟨hlt,L,by rw[hs];exact UG,?_,?_,x9.trans xL⟩ Ac
    .have:=xK.KW (QU (p:=g.node) (n:=(b3.a.nd d.node).Bc[j]) (b:=0) xK.ok) O3;rw[hs];exact this
    .have:=gl.KW (Ki (p:=g.node) (x:=(b3.a.nd d.node).Bc[j]) (bf:=0));rw[hs];exact this
   .simp only[abS,(Ac:¬(j:Int)<((b3.a.nd d.node).Bc.length:Int))];exact .HN j rfl ⟨Ac,K,w9,xK,gl,x9⟩
  .rintro j B ⟨rfl,K,w9,xK,gl,x9⟩;rw[Bx] at w9 xK gl;have hl8:h.length<M.length:=(An.1 T).1;have hn9:¬Bs bi K h.length:=λhg=>by
    rcases x9.Bs h.length hg with hg|hg
    .exact hn8 hg
    .omega
   have R:B[h.length]?=_:=(x9.old h.length hl8 hn8).trans T;have l9d:A7 B none (Pt h.length 9)=some (I d.node):=At.load ⟨_,R,rfl⟩;have le9:=(Nq (n:=g.node) (l:=(b3.a.nd d.node).Bc) é.ok).2;have lef:Le b.a (BS.CB b3.a g.node (b3.a.nd d.node).Bc):=((le0.trans le2).trans le8).trans le9;obtain⟨VE,L,F_,UG,xL⟩:=rB (x:=g.node) (p:=d.node) (bf:=0) w9 xK.ba gl;rw[UE (by show((BS.CB b3.a g.node (b3.a.nd d.node).Bc).nd d.node).kind=4;rw[lef.kind _ oj.1];exact oj.2.1)] at UG;have nG:h.length<B.length:=(An.1 R).1;have aOc:¬Bs bi L h.length:=λhg=>by
    rcases xL.Bs h.length hg with hg|hg
    .exact hn9 hg
    .omega
   have aI3:VE[h.length]?=_:=(xL.old h.length nG hn9).trans R;have l3c:A7 VE none (Pt h.length 3)=some (I (q:Int)):=At.load ⟨_,aI3,rfl⟩;have aOd:=gl.KW (Ki (p:=d.node) (x:=g.node) (bf:=0));have aAC:B1 ({b3 with a:=(BS.CB b3.a g.node (b3.a.nd d.node).Bc).F0 d.node g.node 0}:BS).A6 c5:=by simp only;rw[NR];exact i.hc
   have hqa:=i.rm.A6;obtain⟨aB,Yg,r14,Q,om,aAF,x11⟩:=gi UG aAC aOd aI3 aOc (k:=q) (by simp only;rw[NR];exact hq) ⟨Ac,Ac⟩ ⟨Ac,Ac⟩;simp only at Q om;have l1:A7 aB none (Pt h.length 1)=some (.str fe.c.name):=At.load ⟨_,aAF,rfl⟩;have l2:A7 aB none (Pt h.length 2)=some fe.v:=At.load ⟨_,aAF,rfl⟩;have l4:A7 aB none (Pt h.length 4)=some (I (down q (s'.2.2:Int))):=At.load ⟨_,aAF,rfl⟩;obtain⟨fs2,aEQ,Ud⟩:=om;have aTs:b3.A6.length=s'.1.A6.length:=by rw[NR]
   have aTt:fs2.length<=900000000:=by have h1:=Cc List.length aEQ;rw[Ao,Hq (by rw[NR];exact hq)] at h1;omega
   have aN4:=KX.2.1;obtain⟨u1,e2,he2,r15,Py⟩:=aNo (h:=aB) (id:=bi) (o:=3) (l:=fs2) ⟨Yg,Q.sQ,Ud⟩ Ac (e:=⟨{fe.c with node:=g.node},fe.v,fe.ok⟩) (by unfold ZQ;simp only;omega) (down q (s'.2.2:Int));have aOe:BG cx 335 [Pt bi 3,.agg [I g.node,.str fe.c.name,fe.v],I (down q (s'.2.2:Int))] aB (.tuple []) (put aB bi 3 u1):=r15;obtain⟨UF,Ws⟩:∃UF:Nat,UF=if q<s'.2.2 then s'.2.2 -1 else s'.2.2:=⟨_,rfl⟩
   have E_:down q (s'.2.2:Int)=(UF:Int):=by rw[Ws];unfold down;split<;>split<;>omega
   have ê:=Q.KE (u:=u1) (l:=(Bg b3.A6 q).take (CJ UF (Bg b3.A6 q).length)++{fe.c with node:=g.node}::(Bg b3.A6 q).drop (CJ UF (Bg b3.A6 q).length));have aAG:B1 ((Bg b3.A6 q).take (CJ UF (Bg b3.A6 q).length)++{fe.c with node:=g.node}::(Bg b3.A6 q).drop (CJ UF (Bg b3.A6 q).length)) u1:=by refine⟨_,?_,Py⟩;rw[E_,Bu,Bj,Gq,JR,aEQ,he2,<-aEQ,Ao]
   have hob:=i.rm.AQ;obtain⟨u2,r16,IG⟩:=aAd ê.sO (by simp only;rw[ho3];omega) fe.c.node;have P:=ê.HZ IG;have sJ:(CX fe.c.node b3.AQ).length<=s'.1.AQ.length:=by rw[<-ho3];exact Kh.length_le
   have aOf:(put (put aB bi 3 u1) bi 2 u2)[h.length]?=_:=(Cm ZO).trans ((Cm ZO).trans aAF);have l9e:A7 (put (put aB bi 3 u1) bi 2 u2) none (Pt h.length 9)=some (I d.node):=At.load ⟨_,aOf,rfl⟩;have r17:=aL P.sA Dv d.node;have hli: -1<=AV (Bz d.node) (CX fe.c.node b3.AQ)/\AV (Bz d.node) (CX fe.c.node b3.AQ)<=(CX fe.c.node b3.AQ).length:=by rcases Dj (q:=Bz d.node) (l:=CX fe.c.node b3.AQ) with⟨h,_⟩|⟨n,h1,h2,_⟩<;>omega
   have add:=OY (a:=AV (Bz d.node) (CX fe.c.node b3.AQ)) (b:=1) Ac Ac;obtain⟨u3,r18,hu3⟩:=aM8 P.sO Dv g (AV (Bz d.node) (CX fe.c.node b3.AQ)+1);have w14:=P.HZ hu3;simp only[abS,Nat.reduceLeDiff,↓reduceIte,AT,E9,l9d,F_.Ab,l3c,r14.Ab,l1,l2,oh,l4,aOe.Ab,r16.Ab,l9e,r17.Ab,add,r18.Ab];have hE:BS.GP fe.c d.node an.node s'={b3 with a:=(BS.CB b3.a g.node (b3.a.nd d.node).Bc).F0 d.node g.node 0,A6:=(Bg b3.A6 q).take (CJ UF (Bg b3.A6 q).length)++{fe.c with node:=g.node}::(Bg b3.A6 q).drop (CJ UF (Bg b3.A6 q).length),AQ:=(CX fe.c.node b3.AQ).take (E3 (AV (Bz d.node) (CX fe.c.node b3.AQ)+1) (CX fe.c.node b3.AQ).length)++g::(CX fe.c.node b3.AQ).drop (E3 (AV (Bz d.node) (CX fe.c.node b3.AQ)+1) (CX fe.c.node b3.AQ).length)}:=by
    have vz:Fk fe.c.node b3.A6=(q:Int):=by rw[NR];exact ny
    unfold BS.GP;simp only
    rw[<-OC,<-qo,<-hnw,vz,AX,<-Ws]
   rw[hE];refine⟨_,rfl,rfl,u3,u1,L,w14,aAG,Zk (Ag _) ?_⟩;exact((((x8'.trans (EY (x9.trans xL) h.length)).trans x11).trans (EY Bf h.length)).trans (EY Bf h.length)).trans (EY Bf h.length)
 obtain⟨r,h',hr,rfl,o',c',G',w',Kw,x'⟩:=I9.ret;rw[e];exact⟨h',o',c',G',hr,w',Kw,x'⟩
end
section
variable{h h':Ai}{bi a ai:Nat}{o c t:Aa}{G G' F:Nat->Prop}{b b':BS}{x:Int}{m:Nat}
variable{nm:Aj}{av:Aa}{l:List A5}{r:List Aa}{sp p:Int}{e:Ck}{at_ mk last:Int}{anc far:Item}
def oq{blk anc:Int}{far i:Nat}{l:Int}{mk:Nat}:(BS.Fs blk anc far i b l mk).1.AQ.length<=b.AQ.length:=by
 have h1:(Bg b.AQ i).length<=b.AQ.length:=Dp.length_le;unfold BS.Fs;simp only
 split;.exact h1
 .split;.exact h1
  .have OB:∀nm l p,(b.El nm l 1 p).AQ=b.AQ:=λnm l p=>by unfold BS.El;rw[Af J9]
   simp only[OB,Bq];exact Ag _
def dE{blk anc:Int}{far k m:Nat}:∀{c:Nat} {s:BS×Int×Nat},BM s.1 (m+4*c)->BM (BS.KV blk anc far k c s).1 m/\(BS.KV blk anc far k c s).1.AQ.length<=s.1.AQ.length
 |0,s,r=>⟨r.le Ac,Ag _⟩
 |c+1,s,r=>by have d:=Pb (blk:=blk) (anc:=anc) (far:=far) (i:=k+(c+1)) (l:=s.2.1) (mk:=s.2.2) (m:=m+4*c) (r.le Ac);have h:=dE (blk:=blk) (anc:=anc) (far:=far) (k:=k) (m:=m) (c:=c) (s:=BS.Fs blk anc far (k+(c+1)) s.1 s.2.1 s.2.2) d;exact⟨h.1,Br h.2 oq⟩
def rO{fe:Cb}{blk anc:Int}{s:BS×Int×Nat}(r:BM s.1 (m+4))(KX:fe.name.length<=1000/\DO fe.Av):BM (BS.GP fe blk anc s) m/\(BS.GP fe blk anc s).AQ.length<=s.1.AQ.length+1:=by
 unfold BS.GP;simp only
 generalize cN:s.1.place anc=pb;have j:=r.KW (Kj (x:=s.2.1) (p:=pb.1) (bf:=pb.2));generalize OC:({s.1 with a:=s.1.a.Es s.2.1 pb.1 pb.2}:BS)=b2 at j;have ZK:b2.AQ=s.1.AQ:=by rw[<-OC]
 have d:=Jf (m:=m+1) (nm:=fe.name) (l:=fe.Av) (sp:=1) (p:=blk) (j.le Ac) KX.2;have OB:(b2.El fe.name fe.Av 1 blk).AQ=b2.AQ:=by unfold BS.El;rw[Af J9]
 have g:(b2.GG fe.name fe.Av 1).name.length<=1000:=On KX.1;generalize b2.El fe.name fe.Av 1 blk=b3 at*;generalize b2.GG fe.name fe.Av 1=n at*;have q:=d.KW ((Ry (n:=n.node) (l:=(b3.a.nd blk).Bc)).trans (Ki (p:=blk) (x:=n.node) (bf:=0)));have Na:∀{U:Type} (l:List U) (k:Nat) (y:U),(l.take k++y::l.drop k).length=l.length+1/\∀z∈l.take k++y::l.drop k,z∈l\/z=y:=λl k y=>⟨by rw[Au,Bd,Ax,Be];omega,λz hz=>by
  rcases Ay.1 hz with hz|hz
  .exact .inl (Bp hz)
  .rcases AS.1 hz with rfl|hz
   .exact .inr rfl
   .exact .inl (BD hz)⟩
 have hr:=Kh (n:=fe.node) (l:=b3.AQ);have hd:=Dp (l:=b3.A6) (k:=(Fk fe.node b3.A6).toNat);have f:=q.le (m':=m) Ac;refine⟨⟨f.n,f.at_,f.data,?_,?_,f.tm,λe he=>?_,λi hi=>?_⟩,?_⟩;.simp only[(Na _ _ _).1];have:=hr.length_le;have:=d.AQ;omega
 .simp only[(Na _ _ _).1];have:=hd.length_le;have:=d.A6;omega
 .rcases(Na _ _ _).2 e he with he|rfl
  .exact d.DB e (hd.subset he)
  .exact KX
 .rcases(Na _ _ _).2 i hi with hi|rfl
  .exact d.Wg i (hr.subset hi)
  .exact g
 .simp only[(Na _ _ _).1];have h1:=hr.length_le;have h2:=Cc List.length (OB.trans ZK);omega
def Pc(r:BM b (m+4*b.AQ.length+10))(nm:Aj):BM (b.round nm).2 m/\(b.round nm).2.AQ.length<=b.AQ.length+1:=by
 have d:BM b m:=r.le Ac;unfold BS.round;simp only
 split
 .have key:(b.Du nm).a=b.a/\List.Sublist (b.Du nm).AQ b.AQ/\(b.Du nm).A6=b.A6/\(b.Du nm).tm=b.tm:=by
   unfold BS.Du;split
   .split;.exact⟨rfl,IY.trans EC,rfl,rfl⟩
    .exact⟨rfl,A4 _,rfl,rfl⟩
   .exact⟨rfl,A4 _,rfl,rfl⟩
  exact⟨d.sub key.1 key.2.1 (by rw[key.2.2.1];exact A4 _) (by rw[key.2.2.2];exact Ag _),Br key.2.1.length_le (Fl _)⟩
 .rename_i hf;obtain⟨f,Hu,g⟩:=TI (JA.1 hf);have Xo:b.A6.getD (GL nm b.A6).toNat Cb.zero=b.A6[f]:=by rw[g,AX,AJ,Ap Hu];rfl
  have KX:=r.DB _ (AN Hu);rw[Xo];split;.exact⟨d.sub rfl (A4 _) Dp (Ag _),Fl _⟩
  .split;.exact⟨d,Fl _⟩
   .split;.exact⟨d.sub rfl IY Dp (Ag _),Br IY.length_le (Fl _)⟩
    .rename_i hk _ hfa;have hlt:(D2 b.A6[f].node b.AQ).toNat-1 -(AV (Bz b.A6[f].node) b.AQ).toNat<=b.AQ.length:=by
      rw[IS];split;.omega
      .unfold E2;split;.rename_i j hj;have:=(EK.1 hj).1;rw[Be] at this;omega
       .omega
     have h1:=dE (blk:=(b.AQ.getD (D2 b.A6[f].node b.AQ).toNat Item.zero).node) (anc:=(b.AQ.getD ((AV (Bz b.A6[f].node) b.AQ).toNat-1) Item.zero).node) (far:=(D2 b.A6[f].node b.AQ).toNat) (k:=(AV (Bz b.A6[f].node) b.AQ).toNat) (m:=m+4) (c:=(D2 b.A6[f].node b.AQ).toNat-1 -(AV (Bz b.A6[f].node) b.AQ).toNat) (s:=(b,(b.AQ.getD (D2 b.A6[f].node b.AQ).toNat Item.zero).node,(GL nm b.A6).toNat)) (r.le Ac);have h2:=rO (fe:=b.A6[f]) (blk:=(b.AQ.getD (D2 b.A6[f].node b.AQ).toNat Item.zero).node) (anc:=(b.AQ.getD ((AV (Bz b.A6[f].node) b.AQ).toNat-1) Item.zero).node) h1.1 KX;exact⟨h2.1,Br h2.2 (Nat.succ_le_succ h1.2)⟩
def VH:∀{n:Nat} {b:BS} {k:Nat},b.AQ.length<=k->BM b (m+n*(4*(k+n)+10))->BM (BS.Eg n b nm) m/\(BS.Eg n b nm).AQ.length<=k+n
 |0,b,k,hk,r=>⟨r.le Ac,hk⟩
 |n+1,b,k,hk,r=>by
  have e:(n+1)*(4*(k+(n+1))+10)=n*(4*(k+1+n)+10)+(4*(k+(n+1))+10):=by rw[BI,D6,(Ac:k+(n+1)=k+1+n)]
  rw[e] at r;have h1:=Pc (m:=m+n*(4*(k+1+n)+10)) (r.le Ac) nm;unfold BS.Eg;simp only
  split;.have h2:=VH (n:=n) (k:=k+1) Ac h1.1;exact⟨h2.1,Ac⟩
  .exact⟨h1.1.le Ac,Ac⟩
def aOg(w:BX h bi a o c t G b)(hc:B1 b.A6 c)(ok:EB b)(rm:BM b (m+8*(4*(b.AQ.length+8)+10)))(nm:Aj):
  ∃h' o' c' G',BG cx 75 [Pt bi 0,.str nm] h (.tuple []) h'/\BX h' bi a o' c' t G' (b.Iy nm)/\B1 (b.Iy nm).A6 c'/\DC h (Bs bi G) h' (Bs bi G'):=by
 have ho:=rm.AQ;have C:=aIm w rm;have em:AD (.Dk 1) [.str nm]=some (.sl 1 ([nm].map Cu)):=Ea (ws:=[nm]) rfl AH;have r2:BG cx 162 [.agg (Fy b.AQ).row,.sl 1 ([nm].map Cu)] h (.bool (Bw [nm] (Fy b.AQ))) h:=xD (ws:=[nm]) C1 AH _ h;have H:=hc.at w rm (Fy b.AQ).node;have E:b.Jt.A6=b.A6:=by unfold BS.Jt;split<;>rfl
 by_cases h1:Bw [nm] (Fy b.AQ)=true/\Fk (Fy b.AQ).node b.A6<0
 .obtain⟨h2,u,L,q,j⟩:=aAv w rm;have e:b.Iy nm=b.Jt:=by unfold BS.Iy;rw[Af h1]
  rw[e];refine⟨h2,u,c,G,?_,q,by rw[E];exact hc,j⟩;rw[h1.1] at r2;rw[Ae,gP];simp only[abS,E9,(IH w).Ab,C.Ab,em,r2.Ab,H.Ab,h1.2,L.Ab]
 have e:b.Iy nm=BS.Eg 8 b nm:=by unfold BS.Iy;rw[Ad h1]
 rw[e];have I9:Ev cx 75 [Pt bi 0,.str nm] h λr h'=>r= .tuple []/\∃o' c' G',BX h' bi a o' c' t G' (BS.Eg 8 b nm)/\B1 (BS.Eg 8 b nm).A6 c'/\DC h (Bs bi G) h' (Bs bi G'):=by
  unfold Ev;rw[gP];have HN:∀(Q:HO) (k:DU->List Aa->IT),(∀x vs h1,(x= .exit 0\/x= .ret)->(∃o' c' G',BX h1 bi a o' c' t G' (BS.Eg 8 b nm)/\B1 (BS.Eg 8 b nm).A6 c'/\DC h (Bs bi G) h1 (Bs bi G'))->W cx (k x vs) Q h1)->
    W cx (.loop 5 [I 0] (λd=> .op (.int .lss) [g d 0,I 8] λv14=> .Gm v14 (.call 189 [Pt bi 0,.str nm] λB=> .op (.un .not) [B] λv16=> .Gm v16 (.ret .ret [g d 0]) (.op (.int .add) [g d 0,I 1] λA=> .ret .normal [A])) (.ret (.exit 0) [g d 0])) k) Q h:=by
   intro Q k hk;refine Bm (λn:Nat=>[I ((8 -n:Nat):Int)]) (λn h1=>n<=8/\∃D v y b1,BX h1 bi a D v t y b1/\B1 b1.A6 v/\EB b1/\BM b1 (m+n*(4*(b.AQ.length+8)+10))/\b1.AQ.length<=b.AQ.length+(8 -n)/\BS.Eg 8 b nm=BS.Eg n b1 nm/\DC h (Bs bi G) h1 (Bs bi y)) (λn=>n) 8 rfl ⟨Ag _,o,c,G,b,w,hc,ok,rm,Ac,rfl,.refl⟩ ?_;rintro n h1 ⟨hn,D,v,y,b1,w1,SA,Wo,xH,WM,i,z⟩;cases n with
   |zero=>simp only[abS,(AP:¬((8 -0:Nat):Int)<8)];exact hk _ _ _ (.inl rfl) ⟨D,v,y,by rw[i];exact w1,by rw[i];exact SA,z⟩
   |succ n=>
    have hsp:(n+1)*(4*(b.AQ.length+8)+10)=n*(4*(b.AQ.length+8)+10)+(4*(b.AQ.length+8)+10):=by rw[BI,D6]
    rw[hsp] at xH;have ot:BM b1 (m+n*(4*(b.AQ.length+8)+10)+4*b1.AQ.length+10):=xH.le Ac;obtain⟨h2,u,J,K,s,q,I7,j⟩:=aN6 w1 SA Wo ot nm;obtain⟨VF,bU⟩:=Pc ot nm;have zw:=(YV (nm:=nm) Wo).1;have hlt:((8 -(n+1):Nat):Int)<8:=Ac;have inc:AD (.int .add) [I ((8 -(n+1):Nat):Int),I 1]=some (I ((8 -n:Nat):Int)):=by have:=BN (n:=8 -(n+1)) Ac;rwa [(Ac:8 -(n+1)+1=8 -n)] at this
    have f:BS.Eg (n+1) b1 nm=if(b1.round nm).1 then BS.Eg n (b1.round nm).2 nm else(b1.round nm).2:=rfl
    cases hr:(b1.round nm).1 with
    |true=>rw[hr] at s f;simp only[abS,hlt,s.Ab,inc];exact AK.next n rfl ⟨Ac,u,J,K,_,q,I7,zw,VF,Ac,i.trans f,z.trans j⟩ Ac
    |false=>rw[hr] at s f;simp only[abS,hlt,s.Ab];exact hk _ _ _ (.inr rfl) ⟨u,J,K,by rw[i,f];exact q,by rw[i,f];exact I7,z.trans j⟩
  by_cases h2:Bw [nm] (Fy b.AQ)=true
  .have M:¬Fk (Fy b.AQ).node b.A6<0:=λh=>h1 ⟨h2,h⟩;rw[h2] at r2;simp only[abS,E9,(IH w).Ab,C.Ab,em,r2.Ab,H.Ab,M];refine HN _ _ ?_;rintro x vs h1 (rfl|rfl) ⟨o',c',G',a1,a2,a3⟩;.simp only[BE];exact⟨_,rfl,rfl,o',c',G',a1,a2,a3⟩
   .simp only[BE];exact⟨_,rfl,rfl,o',c',G',a1,a2,a3⟩
  .have h2:Bw [nm] (Fy b.AQ)=false:=by simpa using h2
   rw[h2] at r2;simp only[abS,E9,(IH w).Ab,C.Ab,em,r2.Ab];refine HN _ _ ?_;rintro x vs h1 (rfl|rfl) ⟨o',c',G',a1,a2,a3⟩;.simp only[BE];exact⟨_,rfl,rfl,o',c',G',a1,a2,a3⟩
   .simp only[BE];exact⟨_,rfl,rfl,o',c',G',a1,a2,a3⟩
 obtain⟨r,h',hr,rfl,o',c',G',w',Kw,x'⟩:=I9.ret;exact⟨h',o',c',G',hr,w',Kw,x'⟩
end
structure rP where
 k:Int
 name:Aj
 Av:List A5
 Bb:Int
 a:Int
 b:Bool
 s:Aj
 r:Int
 n:Int
def Ot(h:Int):Item:=⟨h,0,[],false⟩
def Zl(b:BS)(q:rP):BS×Item:=
 if q.k=1 then(b.Ej q.name q.Av 1,Ot (b.a.len+1))
 else if q.k=2 then(b.Ej q.name q.Av q.Bb,Ot (b.LP q.Bb))
 else if q.k=3 then(b.KA q.name q.Av,Ot (b.a.len+1))
 else if q.k=4 then(b.Q6 q.r,Item.zero)
 else if q.k=5 then(b.Fc q.s q.a,Item.zero)
 else if q.k=6 then(b.Fe q.name q.Av q.n,Item.zero)
 else if q.k=7 then(b.J3,Item.zero)
 else if q.k=8 then(b.DV,Item.zero)
 else if q.k=9 then(b.Du q.name,Item.zero)
 else if q.k=10 then(b.Iy q.name,Item.zero)
 else if q.k=11 then(b.HS,Item.zero)
 else if q.k=12 then(b.EL q.Av q.a,Item.zero)
 else if q.k=13 then(b.Cy,Item.zero)
 else if q.k=14 then({b with stop:=true},Item.zero)
 else if q.k=15 then({b with EX:=q.b},Item.zero)
 else if q.k=16 then({b with tm:=b.tm++[q.n]},Item.zero)
 else if q.k=17 then({b with A6:=b.A6++[Cb.zero]},Item.zero)
 else if q.k=18 then(b.Jt,b.gF)
 else if q.k=19 then({b with head:=q.a},Item.zero)
 else if q.k=20 then({b with mode:=q.n},Item.zero)
 else if q.k=21 then({b with A6:=Ge b.A6},Item.zero)
 else if q.k=22 then({b with AQ:=DN CY (Bw [q.name]) b.AQ},Item.zero)
 else if q.k=23 then({b with NH:=q.a},Item.zero)
 else if q.k=24 then(b.El q.name q.Av q.Bb q.a,b.GG q.name q.Av q.Bb)
 else(b,Item.zero)
structure ou(q:rP):Prop where
 name:q.name.length<=1000
 Av:DO q.Av
 s:q.s.length<=1000
 r: -2147483648<=q.r/\q.r<=2147483647
section
variable{b:BS}{q:rP}{m j:Nat}
def aER(o:EB b){nm:Aj}{l:List A5}{sp p:Int}:EB (b.El nm l sp p):=by
 by_cases hs:BS.Ig sp;.exact(Qp o hs).1
 .unfold BS.El;rw[Ad hs];exact o
def gm(o:EB b):EB {b with A6:=b.A6++[Cb.zero]}:=by have:=o.aDS (e:=Cb.zero) (k:=b.A6.length) (.inl rfl) (.inl rfl);rw[Bx,Eu] at this;exact this
def EG{U:Type}{P:U->Prop}{c:Prop}[Decidable c]{x y:U}(h1:P x)(h2:P y):P (if c then x else y):=by split;exact h1;exact h2
def Zm{P:BS×Item->Prop}(h1:P (b.Ej q.name q.Av 1,Ot (b.a.len+1)))(h2:P (b.Ej q.name q.Av q.Bb,Ot (b.LP q.Bb)))(B:P (b.KA q.name q.Av,Ot (b.a.len+1)))(A:P (b.Q6 q.r,Item.zero))(z:P (b.Fc q.s q.a,Item.zero))(y:P (b.Fe q.name q.Av q.n,Item.zero))(x:P (b.J3,Item.zero))(w:P (b.DV,Item.zero))(v:P (b.Du q.name,Item.zero))(VE:P (b.Iy q.name,Item.zero))(aB:P (b.HS,Item.zero))(u:P (b.EL q.Av q.a,Item.zero))(t:P (b.Cy,Item.zero))(p:P ({b with stop:=true},Item.zero))(o:P ({b with EX:=q.b},Item.zero))(l:P ({b with tm:=b.tm++[q.n]},Item.zero))(k:P ({b with A6:=b.A6++[Cb.zero]},Item.zero))(i:P (b.Jt,b.gF))(h:P ({b with head:=q.a},Item.zero))(g:P ({b with mode:=q.n},Item.zero))(f:P ({b with A6:=Ge b.A6},Item.zero))(e:P ({b with AQ:=DN CY (Bw [q.name]) b.AQ},Item.zero))(d:P ({b with NH:=q.a},Item.zero))(c:P (b.El q.name q.Av q.Bb q.a,b.GG q.name q.Av q.Bb))(h0:P (b,Item.zero)):P (Zl b q):=by unfold Zl;exact EG h1 (EG h2 (EG B (EG A (EG z (EG y (EG x (EG w (EG v (EG VE (EG aB (EG u (EG t (EG p (EG o (EG l (EG k (EG i (EG h (EG g (EG f (EG e (EG d (EG c (h0))))))))))))))))))))))))
def aET(o:EB b):EB (Zl b q).1:=Zm (P:=λr=>EB r.1) (Qq (nm:=q.name) (at_:=q.Av) (sp:=1) o) (Qq o) (mz o) (ax o) (YS o) (vY o) (nc o) (vZ o) (cM o) (nh o) (Tr o) (qN o) (YT o) (o.of_eq rfl rfl rfl rfl) (o.of_eq rfl rfl rfl rfl) (o.of_eq rfl rfl rfl rfl) (gm o) (xw o) (o.of_eq rfl rfl rfl rfl) (o.of_eq rfl rfl rfl rfl) (o.qL (Dq _ _)) (o.Sj EC) (o.of_eq rfl rfl rfl rfl) (aER o) o
def BM.gp{k m:Nat}{h:Int}{x:EW}(r:BM b (m+k))(h1:x.Av.length<=(b.a.nd h).Av.length+k\/x.Av.length<=1000)(h2:x.data.length<=(b.a.nd h).data.length+k\/x.data.length<=100000):BM {b with a:=b.a.set h x} m:=by
 have hn:(b.a.set h x).n.length=b.a.n.length:=by have:=Ĥ (A:=b.a) (h:=h) (x:=x);unfold Ar.len at this;omega
 have c:=r.le (m':=m) Ac;have rn:=r.n;refine⟨by simp only;rw[hn];exact c.n,λy=>?_,λy=>?_,c.AQ,c.A6,c.tm,c.DB,c.Wg⟩
 .simp only;rw[J2];split;.rename_i d;have:=r.at_ h;omega
  .exact c.at_ y
 .simp only;rw[J2];split;.have:=r.data h;omega
  .exact c.data y
def VI{m:Nat}{s:Aj}{p bf:Int}(r:BM b (m+5))(hs:s.length<=4):BM {b with a:=BS.L5 b.a s p bf} m:=by
 have N2:∀d,BM {b with a:=(b.a.add {kind:=5,CG:=d,data:=s}).Es (b.a.len+1) p bf} m:=λd=>((r.le (m':=m+1) Ac).JT (Om (AY _) Dv)).KW Kj
 have c:=r.le (m':=m) Ac;unfold BS.L5;split
 .split
  .split;.exact BM.gp (k:=5) r (.inl Dv) (.inl (by simp only[Au];omega))
   .exact N2 _
  .exact N2 _
 .exact c
def KF{m:Nat}{s:Aj}{p bf:Int}(r:BM b (m+5))(hs:s.length<=100000):BM {b with a:=BS.E4 b.a s p bf} m:=by
 unfold BS.E4;split;.exact((r.le (m':=m+1) Ac).JT (Om (AY _) hs)).KW Kj
 .exact r.le Ac
end
section
variable{b:BS}{q:rP}{m j:Nat}{nm:Aj}
def Zn{l:List A5}{x:Int}(r:BM b (m+1000))(hl:l.length<=1000):BM (b.EL l x) m:=by
 unfold BS.EL;split;.refine BM.gp (k:=1000) r (.inl ?_) (.inl Dv);have:=QT (l:=(b.a.nd x).Av++BS.plain l);rw[Au,BS.plain,Ao] at this;unfold BS.plain;simp only;omega
 .exact r.le Ac
def dF:∀{l:List Cb} {b:BS},(BS.JG l b).2.AQ.length<=b.AQ.length+l.length/\(BS.JG l b).2.A6=b.A6/\(BS.JG l b).1.length=l.length/\∀e∈(BS.JG l b).1,∃a∈l,e.name=a.name/\e.Av=a.Av
 |[],b=>⟨by simp[BS.JG],rfl,rfl,λe he=>by simp[BS.JG] at he⟩
 |e::l,b=>by
  obtain⟨h1,h2,g,f⟩:=dF (l:=l) (b:=b.Ej e.name e.Av 1);have i:(b.Ej e.name e.Av 1).AQ.length<=b.AQ.length+1:=by
   unfold BS.Ej;rw[Af J9];simp only
   have:(b.El e.name e.Av 1 (b.place 0).1).AQ=b.AQ:=by unfold BS.El;rw[Af J9]
   rw[Au,A9];first|(rw[this];exact Ag _)|exact Ag _
  rw[BS.JG];refine⟨by simp only[Bd];omega,by simp only;rw[h2,D3],by simp only[Bd,g],λh he=>?_⟩;rcases AS.1 he with rfl|he
  .exact⟨e,AH,rfl,rfl⟩
  .obtain⟨a,d,c⟩:=f h he;exact⟨a,by simp[d],c⟩
def mH(r:BM b (m+4*b.A6.length)):BM b.DV m/\b.DV.AQ.length<=b.AQ.length+b.A6.length/\b.DV.A6.length=b.A6.length:=by
 have hk:=TG (b:=b);have a:=cY (l:=b.A6.drop b.LQ) (b:=b) (m:=m) (r.le (by rw[Be];omega)) λe he=>r.DB e (BD he);obtain⟨h1,h2,c,h⟩:=dF (l:=b.A6.drop b.LQ) (b:=b);rw[Be] at h1 c;have hl:b.DV.A6.length=b.A6.length:=by unfold BS.DV;simp only[Au,Ax,c];omega
 refine⟨⟨a.n,a.at_,a.data,a.AQ,?_,a.tm,λe he=>?_,a.Wg⟩,by unfold BS.DV;simp only;omega,hl⟩;.rw[hl];have:=r.A6;omega
 .unfold BS.DV at he;simp only at he;rcases Ay.1 he with he|he
  .exact r.DB e (Bp he)
  .obtain⟨i,g,f,d⟩:=h e he;rw[f,d];exact r.DB i (BD g)
def rQ{blk anc:Int}{far k:Nat}:∀{c:Nat} {s:BS×Int×Nat},(BS.KV blk anc far k c s).1.A6.length<=s.1.A6.length
 |0,s=>Ag _
 |c+1,s=>by
  refine Br (rQ (c:=c)) ?_;unfold BS.Fs;simp only
  split;.exact Ag _
  .split;.exact Dp.length_le
   .have:∀nm l p,(s.1.El nm l 1 p).A6=s.1.A6:=λnm l p=>by unfold BS.El;rw[Af J9]
    simp only[this,Bq];exact Ag _
def ov:(b.round nm).2.A6.length<=b.A6.length+1:=by
 unfold BS.round;simp only
 split
 .have:(b.Du nm).A6=b.A6:=by
   unfold BS.Du;split;.split<;>rfl
   .rfl
  rw[this];omega
 .split;.exact Br Dp.length_le (Fl _)
  .split;.exact Fl _
   .split;.exact Br Dp.length_le (Fl _)
    .unfold BS.GP;simp only
     generalize hs:BS.KV _ _ _ _ _ _=s;have h1:s.1.A6.length<=b.A6.length:=by rw[<-hs];exact rQ
     have:∀(b2:BS) nm l p,(b2.El nm l 1 p).A6=b2.A6:=λb2 nm l p=>by unfold BS.El;rw[Af J9]
     simp only[this,Au,Bd,Ax,Be];have h2:∀k,(Bg s.1.A6 k).length<=s.1.A6.length:=λk=>Dp.length_le;refine Br (m:=(Bg s.1.A6 (Fk (b.A6.getD (GL nm b.A6).toNat Cb.zero).node s.1.A6).toNat).length+1) ?_ (Nat.succ_le_succ (Br (h2 _) h1));omega
def Zo:∀{n:Nat} {b:BS},(BS.Eg n b nm).A6.length<=b.A6.length+n
 |0,b=>Ag _
 |n+1,b=>by
  have h:=ov (b:=b) (nm:=nm);unfold BS.Eg;simp only
  split;.have:=Zo (n:=n) (b:=(b.round nm).2);omega
  .omega
structure Sz(b:BS)(j:Nat):Prop where
 rm:BM b (5000000*j)
 AQ:b.AQ.length+1200*j<=125000
 A6:b.A6.length+10*j<=1100
def Sz.of{b':BS}(h:Sz b (j+1))(r:BM b' (5000000*j))(h1:b'.AQ.length<=b.AQ.length+1200)(h2:b'.A6.length<=b.A6.length+10):Sz b' j:=⟨r,by have:=h.AQ;omega,by have:=h.A6;omega⟩
def Sz.Zp{k:Nat}(h:Sz b (j+1))(hk:k<=5000000:=by omega):BM b (5000000*j+k):=h.rm.le Ac
def Sz.PE{b':BS}(h:Sz b (j+1))(ha:b'.a=b.a)(ho:b'.AQ.Sublist b.AQ)(hc:b'.A6.Sublist b.A6)(ht:b'.tm.length<=b.tm.length):Sz b' j:=
 h.of ((h.rm.le Ac).sub ha ho hc ht) (by have:=ho.length_le;omega) (by have:=hc.length_le;omega)
def Sz.Jt(h:Sz b (j+1)):Sz b.Jt j:=by
 unfold BS.Jt;split;.exact h.PE rfl (A4 _) (A4 _) (Ag _)
 .exact h.PE rfl (Dq _ _) (A4 _) (Ag _)
def TJ{l:List A5}{sp:Int}:(b.Ej nm l sp).AQ.length<=b.AQ.length+1200:=by
 unfold BS.Ej;split
 .rename_i hs;have:(b.El nm l sp (b.place 0).1).AQ=b.AQ:=by unfold BS.El;rw[Af hs]
  have:=Cc List.length this;simp only[Au,A9];omega
 .omega
def xM{l:List A5}:(b.KA nm l).A6.length<=b.A6.length+10:=by
 unfold BS.KA;simp only
 obtain⟨l',h1,h2⟩:=YR (l:=(b.Ej nm l 1).A6) (e:=⟨b.a.len+1,nm,l⟩);rw[h2,Au,A9];have:=h1.length_le;rw[D3] at this;omega
def aEU(h:Sz b (j+1))(hq:ou q):Sz (Zl b q).1 j:=Zm (P:=λr=>Sz r.1 j)
 (h.of (Ih (sp:=1) h.Zp hq.Av hq.name) TJ (by rw[D3];omega))
 (h.of (Ih h.Zp hq.Av hq.name) TJ (by rw[D3];omega))
 (h.of (qQ h.Zp hq.Av hq.name) TJ xM)
 (h.of (VI h.Zp (TD _)) (Gi _ _) (Gi _ _))
 (by
  dsimp only;unfold BS.Fc;split;.exact h.of (KF h.Zp (by have:=hq.s;omega)) (Gi _ _) (Gi _ _)
  .exact h.of (KF h.Zp (by have:=hq.s;omega)) (Gi _ _) (Gi _ _))
 (h.of ((Ih h.Zp hq.Av hq.name).eq rfl rfl rfl rfl) TJ (by show(b.Ej q.name q.Av 1).A6.length<=_;rw[D3];omega))
 (by
  dsimp only;unfold BS.J3;split;.exact h.PE rfl (EC.trans EC) (A4 _) (Ag _)
  .exact h.PE rfl (A4 _) (A4 _) (Ag _))
 (by dsimp only;have h1:=mH (m:=5000000*j) (h.rm.le (by have:=h.A6;omega));exact h.of h1.1 (by have:=h.A6;have:=h1.2.1;omega) (by rw[h1.2.2];omega))
 (by
  dsimp only;unfold BS.Du;split
  .split;.exact h.PE rfl (IY.trans EC) (A4 _) (Ag _)
   .exact h.PE rfl (A4 _) (A4 _) (Ag _)
  .exact h.PE rfl (A4 _) (A4 _) (Ag _))
 (by
  dsimp only;unfold BS.Iy;split;.exact h.Jt
  .have h1:=VH (n:=8) (b:=b) (k:=b.AQ.length) (nm:=q.name) (m:=5000000*j) (Ag _) (h.rm.le (by have:=h.AQ;omega));exact h.of h1.1 (by have:=h1.2;omega) (by have:=Zo (n:=8) (b:=b) (nm:=q.name);omega))
 (h.PE rfl (A4 _) (A4 _) (Ag _))
 (by
  dsimp only;have e:(b.EL q.Av q.a).AQ=b.AQ/\(b.EL q.Av q.a).A6=b.A6:=by unfold BS.EL;split<;>exact⟨rfl,rfl⟩
  exact h.of (Zn (m:=5000000*j) (h.rm.le Ac) hq.Av.1) (by rw[e.1];omega) (by rw[e.2];omega))
 (by
  dsimp only;unfold BS.Cy;split;.exact h.PE rfl (A4 _) (A4 _) (Ag _)
  .exact h.PE rfl (show(DN CY (Bw [AM]) (DN CK CY b.AQ)).Sublist b.AQ from EC.trans EC) (Dq _ _) (AH:b.tm.dropLast.length<=b.tm.length))
 (h.PE rfl (A4 _) (A4 _) (Ag _))
 (h.PE rfl (A4 _) (A4 _) (Ag _))
 (by dsimp only;have r:=h.rm.le (m':=5000000*j+1) Ac;have c:=r.le (m':=5000000*j) Ac;exact h.of ⟨c.n,c.at_,c.data,c.AQ,c.A6,by have:=r.tm;simp only[Au,A9];omega,c.DB,c.Wg⟩ (Gi _ _) (Gi _ _))
 (by
  dsimp only;refine h.of ((h.rm.le (m':=5000000*j+1) Ac).qP (e:=Cb.zero) AH (λe he=>?_) ⟨AP,AP,λa ha=>by cases ha⟩) (Gi _ _) AH;rcases Ay.1 he with he|he
  .exact .inl he
  .exact .inr (by simpa using he))
 (h.Jt)
 (h.PE rfl (A4 _) (A4 _) (Ag _))
 (h.PE rfl (A4 _) (A4 _) (Ag _))
 (h.PE rfl (A4 _) (Dq _ _) (Ag _))
 (h.PE rfl EC (A4 _) (Ag _))
 (h.PE rfl (A4 _) (A4 _) (Ag _))
 (by
  dsimp only;have e:(b.El q.name q.Av q.Bb q.a).AQ=b.AQ/\(b.El q.name q.Av q.Bb q.a).A6=b.A6:=by unfold BS.El;split<;>exact⟨rfl,rfl⟩
  exact h.of (Jf (m:=5000000*j) (h.rm.le Ac) hq.Av) (by rw[e.1];omega) (by rw[e.2];omega))
 (h.PE rfl (A4 _) (A4 _) (Ag _))
end
def Ma(q:rP)(av:Aa):List Aa:=[I q.k,.str q.name,av,I q.Bb,I q.a,.bool q.b,.str q.s,.int .i32 q.r,I q.n]
section
variable{h h':Ai}{bi a:Nat}{o c t:Aa}{G G' F:Nat->Prop}{b:BS}{x:Int}{m j:Nat}{q:rP}
variable{nm:Aj}{av:Aa}{l:List A5}{r:List Aa}{sp p:Int}
def Wt(hv:Bi q.Av av)(hl:q.Av.length<=1000)(h:Ai):∃r dG,BG cx 66 [.agg (Ma q av)] h (.agg r) h/\Oq q.name dG r/\Bi q.Av dG:=by have bX:AW=140737488355328:=rfl;obtain⟨u,e,hu⟩:=AU.FL (b:=40) hv Ac;have hc:u.cells=[u]:=AU.cells hu;refine⟨_,u,?_,⟨I 2,ff,S [],ff,S [],ff,ff,ff,S [],.int .i32 0,rfl⟩,hu⟩;rw[Ae,aD7,Ma];simp only[abS,Nat.reduceLeDiff,↓reduceIte,AT,e,hc]
def aI6(i:Item)(h:Ai):BG cx 81 [.agg i.row] h (.agg i.row) h:=by rw[Ae,aD8,Item.row];simp only[abS,Nat.reduceLeDiff,↓reduceIte,AT]
def aOj(w:BX h bi a o c t G b)(hc:B1 b.A6 c)(ok:EB b)(sz:Sz b (j+1))(hq:ou q)(hv:Bi q.Av av):
  ∃h' o' c' t' G',BG cx 24 [Pt bi 0,.agg (Ma q av)] h (.agg (Zl b q).2.row) h'/\BX h' bi a o' c' t' G' (Zl b q).1/\B1 (Zl b q).1.A6 c'/\DC h (Bs bi G) h' (Bs bi G'):=by
 unfold Zl Ma;by_cases d:q.k=1;.rw[Af d];dsimp only;obtain⟨r,dG,D,hr,DH⟩:=Wt (q:=q) hv hq.Av.1 h;rw[Ma] at D;obtain⟨h',o',G',r2,w',x'⟩:=n_ (m:=5000000*j) w ok sz.Zp hr DH hq.Av hq.name;refine⟨h',o',c,t,G',?_,w',by rw[D3];exact hc,x'⟩;rw[Ae,FM];simp only[abS,Nat.reduceLeDiff,↓reduceIte,AT,AL d,D.Ab,r2.Ab];try rfl
 rw[Ad d];by_cases f:q.k=2;.rw[Af f];dsimp only;obtain⟨r,dG,D,hr,DH⟩:=Wt (q:=q) hv hq.Av.1 h;rw[Ma] at D;obtain⟨h',o',G',r2,w',x'⟩:=aIs (m:=5000000*j) w ok sz.Zp hr DH hq.Av hq.name q.Bb;refine⟨h',o',c,t,G',?_,w',by rw[D3];exact hc,x'⟩;rw[Ae,FM];simp only[abS,Nat.reduceLeDiff,↓reduceIte,AT,d,AL f,D.Ab,r2.Ab];try rfl
 rw[Ad f];by_cases g:q.k=3;.rw[Af g];dsimp only;obtain⟨r,dG,D,hr,DH⟩:=Wt (q:=q) hv hq.Av.1 h;rw[Ma] at D;obtain⟨h',o',c',G',r2,w',Kw,x'⟩:=aNN (m:=5000000*j) w hc ok sz.Zp hr DH hq.Av hq.name;refine⟨h',o',c',t,G',?_,w',Kw,x'⟩;rw[Ae,FM];simp only[abS,Nat.reduceLeDiff,↓reduceIte,AT,d,f,AL g,D.Ab,r2.Ab];try rfl
 rw[Ad g];by_cases i:q.k=4;.rw[Af i];dsimp only;obtain⟨h',G',r2,w',x'⟩:=aIA (m:=5000000*j) w ok sz.Zp q.r hq.r;refine⟨h',o,c,t,G',?_,w',hc,x'⟩;rw[Ae,FM];simp only[abS,↓reduceIte,AT,d,f,g,AL i,r2.Ab];try rfl
 rw[Ad i];by_cases y:q.k=5;.rw[Af y];dsimp only;obtain⟨h',G',r2,w',x'⟩:=aIC (m:=5000000*j) w ok sz.Zp q.s (by have:=hq.s;omega) q.a;refine⟨h',o,c,t,G',?_,w',hc,x'⟩;rw[Ae,FM];simp only[abS,↓reduceIte,AT,d,f,g,i,AL y,r2.Ab];try rfl
 rw[Ad y];by_cases z:q.k=6;.rw[Af z];dsimp only;obtain⟨r,dG,D,hr,DH⟩:=Wt (q:=q) hv hq.Av.1 h;rw[Ma] at D;obtain⟨h',o',G',r2,w',x'⟩:=aEC (m:=5000000*j) w ok sz.Zp hr DH hq.Av hq.name q.n;refine⟨h',o',c,t,G',?_,w',by show B1 (b.Ej q.name q.Av 1).A6 c;rw[D3];exact hc,x'⟩;rw[Ae,FM];simp only[abS,↓reduceIte,AT,d,f,g,i,y,AL z,D.Ab,r2.Ab];try rfl
 rw[Ad z];by_cases A:q.k=7;.rw[Af A];dsimp only;obtain⟨h',o',r2,w',x'⟩:=aNR w sz.rm;refine⟨h',o',c,t,G,?_,w',by have e:b.J3.A6=b.A6:=(by unfold BS.J3;split<;>rfl);rw[e];exact hc,x'⟩;rw[Ae,FM];simp only[abS,↓reduceIte,AT,d,f,g,i,y,z,AL A,r2.Ab];try rfl
 rw[Ad A];by_cases B:q.k=8;.rw[Af B];dsimp only;obtain⟨h',o',c',G',r2,w',Kw,x'⟩:=aNV (m:=5000000*j) w hc ok (sz.rm.le (by have:=sz.A6;omega));refine⟨h',o',c',t,G',?_,w',Kw,x'⟩;rw[Ae,FM];simp only[abS,↓reduceIte,AT,d,f,g,i,y,z,A,AL B,r2.Ab];try rfl
 rw[Ad B];by_cases C:q.k=9;.rw[Af C];dsimp only;obtain⟨h',o',r2,w',x'⟩:=aID w sz.rm q.name;refine⟨h',o',c,t,G,?_,w',by have e:(b.Du q.name).A6=b.A6:=(by unfold BS.Du;split;split<;>rfl;rfl);rw[e];exact hc,x'⟩;rw[Ae,FM];simp only[abS,↓reduceIte,AT,d,f,g,i,y,z,A,B,AL C,r2.Ab];try rfl
 rw[Ad C];by_cases KG:q.k=10;.rw[Af KG];dsimp only;obtain⟨h',o',c',G',r2,w',Kw,x'⟩:=aOg (m:=5000000*j) w hc ok (sz.rm.le (by have:=sz.AQ;omega)) q.name;refine⟨h',o',c',t,G',?_,w',Kw,x'⟩;rw[Ae,FM];simp only[abS,↓reduceIte,AT,d,f,g,i,y,z,A,B,C,AL KG,r2.Ab];try rfl
 rw[Ad KG];by_cases NT:q.k=11;.rw[Af NT];dsimp only;obtain⟨h',r2,w',x'⟩:=aAs w sz.rm;refine⟨h',o,c,t,G,?_,w',hc,x'⟩;rw[Ae,FM];simp only[abS,↓reduceIte,AT,d,f,g,i,y,z,A,B,C,KG,AL NT,r2.Ab];try rfl
 rw[Ad NT];by_cases OD:q.k=12;.rw[Af OD];dsimp only;obtain⟨r,dG,D,hr,DH⟩:=Wt (q:=q) hv hq.Av.1 h;rw[Ma] at D;obtain⟨h',G',r2,w',x'⟩:=aII (m:=5000000*j) w ok sz.Zp hr DH hq.Av q.a;refine⟨h',o,c,t,G',?_,w',by have e:(b.EL q.Av q.a).A6=b.A6:=(by unfold BS.EL;split<;>rfl);rw[e];exact hc,x'⟩;rw[Ae,FM];simp only[abS,↓reduceIte,AT,d,f,g,i,y,z,A,B,C,KG,NT,AL OD,D.Ab,r2.Ab];try rfl
 rw[Ad OD];by_cases NN:q.k=13;.rw[Af NN];dsimp only;obtain⟨h',o',c',t',r2,w',Kw,x'⟩:=aIJ w hc sz.rm;refine⟨h',o',c',t',G,?_,w',Kw,x'⟩;rw[Ae,FM];simp only[abS,↓reduceIte,AT,d,f,g,i,y,z,A,B,C,KG,NT,OD,AL NN,r2.Ab];try rfl
 rw[Ad NN];by_cases PI:q.k=14;.rw[Af PI];dsimp only;obtain⟨h',r2,w',x'⟩:=aNT w;refine⟨h',o,c,t,G,?_,w',hc,x'⟩;rw[Ae,FM];simp only[abS,↓reduceIte,AT,d,f,g,i,y,z,A,B,C,KG,NT,OD,NN,AL PI,r2.Ab];try rfl
 rw[Ad PI];by_cases Sp:q.k=15;.rw[Af Sp];dsimp only;have w':BX (put h bi 15 (.bool q.b)) bi a o c t G {b with EX:=q.b}:=w.put rfl rfl w.o w.t;refine⟨put h bi 15 (.bool q.b),o,c,t,G,?_,w',hc,Bf⟩;rw[Ae,FM];simp only[abS,↓reduceIte,AT,d,f,g,i,y,z,A,B,C,KG,NT,OD,NN,PI,AL Sp,w.st (k:=15) (v:= .bool q.b) rfl rfl];try rfl
 rw[Ad Sp];by_cases TK:q.k=16;.rw[Af TK];dsimp only;have J:=sz.rm.tm;have bX:AW=140737488355328:=rfl;obtain⟨u,L,hu⟩:=w.t.1.FL Ac;have K:=AU.JD (b:=8) (a:=q.n) hu Ac;have em:AD (.Dk 1) [I q.n]=some (.sl 1 [B8 q.n]):=rfl;have IG:DX (b.tm++[q.n]) (.sl 1 ((b.tm++[q.n]).map B8)):= .mk;have w':=w.mC (TC.tX (l:=b.tm) (m:=q.n));refine⟨put h bi 6 (.sl 1 ((b.tm++[q.n]).map B8)),o,c,_,G,?_,w',hc,Bf⟩;rw[Ae,FM];simp only[abS,↓reduceIte,AT,d,f,g,i,y,z,A,B,C,KG,NT,OD,NN,PI,Sp,AL TK,w.l6,L,em,K,w.st (k:=6) (v0:=t) rfl (AU.cells IG)];try rfl
 rw[Ad TK];by_cases UH:q.k=17;.rw[Af UH];dsimp only;have Rx:=sz.rm.A6;obtain⟨fs,GK,Ud⟩:=hc;obtain⟨u,r2,hu⟩:=f63 (h:=h) (id:=bi) (o:=3) (l:=fs) ⟨c,w.sQ,Ud⟩ (by rw[<-GK,Ao] at Rx;omega);have w':=w.KE (u:=u) (l:=b.A6++[Cb.zero]);have Kw:B1 (b.A6++[Cb.zero]) u:=⟨_,by rw[Bu,GK];rfl,hu⟩;refine⟨put h bi 3 u,o,u,t,G,?_,w',Kw,Bf⟩;rw[Ae,FM];simp only[abS,↓reduceIte,AT,d,f,g,i,y,z,A,B,C,KG,NT,OD,NN,PI,Sp,TK,AL UH,r2.Ab];try rfl
 rw[Ad UH];by_cases Wu:q.k=18;.rw[Af Wu];dsimp only;obtain⟨h',o',r2,w',x'⟩:=aAv w sz.rm;have H:=aI6 b.gF h';refine⟨h',o',c,t,G,?_,w',by have e:b.Jt.A6=b.A6:=(by unfold BS.Jt;split<;>rfl);rw[e];exact hc,x'⟩;rw[Ae,FM];simp only[abS,↓reduceIte,AT,E9,d,f,g,i,y,z,A,B,C,KG,NT,OD,NN,PI,Sp,TK,UH,AL Wu,r2.Ab,H.Ab];try rfl
 rw[Ad Wu];by_cases Zq:q.k=19;.rw[Af Zq];dsimp only;have w':BX (put h bi 7 (I q.a)) bi a o c t G {b with head:=q.a}:=w.put rfl rfl w.o w.t;refine⟨put h bi 7 (I q.a),o,c,t,G,?_,w',hc,Bf⟩;rw[Ae,FM];simp only[abS,↓reduceIte,AT,d,f,g,i,y,z,A,B,C,KG,NT,OD,NN,PI,Sp,TK,UH,Wu,AL Zq,w.st (k:=7) (v:= I q.a) rfl rfl];try rfl
 rw[Ad Zq];by_cases aP:q.k=20;.rw[Af aP];dsimp only;have w':=w.rF q.n;refine⟨put h bi 4 (I q.n),o,c,t,G,?_,w',hc,Bf⟩;rw[Ae,FM];simp only[abS,↓reduceIte,AT,d,f,g,i,y,z,A,B,C,KG,NT,OD,NN,PI,Sp,TK,UH,Wu,Zq,AL aP,w.st (k:=4) (v:= I q.n) rfl rfl];try rfl
 rw[Ad aP];by_cases mI:q.k=21;.rw[Af mI];dsimp only;have Rx:=sz.rm.A6;obtain⟨fs,GK,Ud⟩:=hc;obtain⟨u,r2,hu⟩:=f65 (h:=h) (id:=bi) (o:=3) (l:=fs) ⟨c,w.sQ,Ud⟩ (by rw[<-GK,Ao] at Rx;omega);have w':=w.KE (u:=u) (l:=Ge b.A6);have Kw:B1 (Ge b.A6) u:=⟨_,by rw[Xm,GK],hu⟩;refine⟨put h bi 3 u,o,u,t,G,?_,w',Kw,Bf⟩;rw[Ae,FM];simp only[abS,↓reduceIte,AT,d,f,g,i,y,z,A,B,C,KG,NT,OD,NN,PI,Sp,TK,UH,Wu,Zq,aP,AL mI,r2.Ab];try rfl
 rw[Ad mI];by_cases oz:q.k=22;.rw[Af oz];dsimp only;have ho:=sz.rm.AQ;have em:AD (.Dk 1) [.str q.name]=some (.sl 1 ([q.name].map Cu)):=Ea (ws:=[q.name]) rfl AH;obtain⟨u,r2,hu⟩:=f66 w.sO Ac (C1 (ws:=[q.name])) AH;have w':=w.HZ hu;refine⟨put h bi 2 u,u,c,t,G,?_,w',hc,Bf⟩;rw[Ae,FM];simp only[abS,↓reduceIte,AT,d,f,g,i,y,z,A,B,C,KG,NT,OD,NN,PI,Sp,TK,UH,Wu,Zq,aP,mI,AL oz,em,r2.Ab];try rfl
 rw[Ad oz];by_cases G_:q.k=23;.rw[Af G_];dsimp only;have w':BX (put h bi 8 (I q.a)) bi a o c t G {b with NH:=q.a}:=w.put rfl rfl w.o w.t;refine⟨put h bi 8 (I q.a),o,c,t,G,?_,w',hc,Bf⟩;rw[Ae,FM];simp only[abS,↓reduceIte,AT,d,f,g,i,y,z,A,B,C,KG,NT,OD,NN,PI,Sp,TK,UH,Wu,Zq,aP,mI,oz,AL G_,w.st (k:=8) (v:= I q.a) rfl rfl];try rfl
 rw[Ad G_];by_cases E:q.k=24;.rw[Af E];dsimp only;obtain⟨r,dG,D,hr,DH⟩:=Wt (q:=q) hv hq.Av.1 h;rw[Ma] at D;obtain⟨h',G',r2,w',x'⟩:=zu (m:=5000000*j) w ok sz.Zp hr DH hq.Av hq.name q.a q.Bb;have H:=aI6 (b.GG q.name q.Av q.Bb) h';refine⟨h',o,c,t,G',?_,w',by have e:(b.El q.name q.Av q.Bb q.a).A6=b.A6:=(by unfold BS.El;split<;>rfl);rw[e];exact hc,x'⟩;rw[Ae,FM];simp only[abS,↓reduceIte,AT,E9,d,f,g,i,y,z,A,B,C,KG,NT,OD,NN,PI,Sp,TK,UH,Wu,Zq,aP,mI,oz,G_,AL E,D.Ab,r2.Ab,H.Ab];try rfl
 rw[Ad E];refine⟨h,o,c,t,G,?_,w,hc,.refl⟩;rw[Ae,FM];simp only[abS,↓reduceIte,AT,d,f,g,i,y,z,A,B,C,KG,NT,OD,NN,PI,Sp,TK,UH,Wu,Zq,aP,mI,oz,G_,E];try rfl
end
def Ou:∀l:List Int,(l.map B8).flatten=l.map (Aa.int .i64)
 |[]=>rfl
 |x::l=>by simp[B8,Ou l]
def qv(q:Bool):Ar:={n:=[{kind:=1,CG:=1,CL:=q}],i:=[0]}
def DA(q:Bool):BS:={a:=qv q,CG:=1,AQ:=[],A6:=[],mode:=1,Si:=0,tm:=[],head:=0,NH:=0,Mo:=false,ctx:=Item.zero,fs:=true,EX:=false,qG:=[],skip:=false,sw:=0,stop:=false}
def Jn(sp:Int)(nm:Aj)(l:List A5)(q:Bool):BS:=
 {(DA q).El DI [] 1 1 with a:=((DA q).El DI [] 1 1).a.Es ((DA q).GG DI [] 1).node 1 0,AQ:=((DA q).El DI [] 1 1).AQ++[(DA q).GG DI [] 1],Mo:=true,ctx:=⟨0,sp,nm,Fp sp nm l⟩}
def Me(sp:Int)(nm:Aj)(l:List A5)(q:Bool):BS:=if Bw [AM] (Jn sp nm l q).ctx then{Jn sp nm l q with tm:=[18]} else Jn sp nm l q
def UI(sp:Int)(nm:Aj)(l:List A5)(q f:Bool):BS:=if f then{(Me sp nm l q).HS with NH:= -1} else(Me sp nm l q).HS
structure EZ where
 Mo:Bool
 Bb:Int
 name:Aj
 Av:List A5
 CL:Bool
 NH:Bool
def EZ.b(s:EZ):BS:=if s.Mo then UI s.Bb s.name s.Av s.CL s.NH else DA s.CL
def MT(s:EZ)(av:Aa):List Aa:=[.bool s.Mo,I s.Bb,.str s.name,av,.bool s.CL,.bool s.NH]
def aEV(q:Bool):EM (qv q) 0:=by
 have h0:EM (⟨[],[]⟩:Ar) 0:=by
  have hn:∀h,¬(⟨[],[]⟩:Ar).has h:=λh d=>by have h1:=d.1;have h2:=d.2;simp at h2;omega
  exact⟨rfl,λh d=>absurd d (hn h),λh d=>absurd d (hn h),λh d=>absurd d (hn h),λh d=>absurd d (hn h),λh d=>absurd d (hn h),λh d=>absurd d (hn h),λh d=>absurd d (hn h),λh d=>absurd d (hn h),λh d=>absurd d (hn h),⟨λ_=>0,λh d=>absurd d (hn h)⟩⟩
 have hx:qq {kind:=1,CG:=1,CL:=q}:=by constructor<;>simp[Cw,HG]
 exact YM h0 hx (.inl ⟨rfl,rfl⟩) rfl rfl rfl rfl (λh=>absurd h.1 (AP:¬(1:Int)=4))
def Pd(q:Bool):EB (DA q):=by refine⟨aEV q,⟨⟨GI 1,GI 1⟩,rfl⟩,λi hi=>(nomatch hi),M4,λe he=>(nomatch he),M4⟩
def Pe{q:Bool}(x:Int):(DA q).a.nd x=if x=1 then{kind:=1,CG:=1,CL:=q} else{}:=by
 unfold Ar.nd;by_cases h:x=1;.subst h;rfl
 .rw[Ad h,Ad];intro d;have h1:=d.1;have h2:=d.2;simp[DA,qv] at h2;omega
def Pf(q:Bool):Sz (DA q) 101:=by
 refine⟨⟨by simp[DA,qv],λx=>?_,λx=>?_,by simp[DA],by simp[DA],by simp[DA],λe he=>(nomatch he),λi hi=>(nomatch hi)⟩,by simp[DA],by simp[DA]⟩;.rw[Pe];split<;>simp
 .rw[Pe];split<;>simp
section
variable{h h':Ai}{bi a:Nat}{o c t:Aa}{G G' F:Nat->Prop}{b:BS}{x:Int}{m j:Nat}{q:rP}
variable{nm:Aj}{av:Aa}{l:List A5}{r:List Aa}{sp p:Int}
def aOk(h:Ai)(q:Bool):∃h1 h',BG cx 57 [] h (Pt h.length 0) h1/\BG cx 58 [Pt h.length 0,.bool q] h1 (I 1) h'/\PA h' h.length (h.length+1) none [⟨{kind:=1,CG:=1,CL:=q},.slnil,.slnil,rfl⟩] (qv q)/\h'=h++[.cells [.CE (h.length+1) 0 1 13,.map none],.cells [I 1,I 0,.slnil,I 1,I 0,S [],.slnil,S [],S [],S [],.bool q,I 0,I 0]]:=by
 have bX:AW=140737488355328:=rfl;have g1:∀u:Ai,Gj u 13 168 .slnil (.sl 13 [[I 1,I 0,.slnil,I 0,I 0,S [],.slnil,S [],S [],S [],.bool q,I 0,I 0]])=some (u++[.cells [I 1,I 0,.slnil,I 0,I 0,S [],.slnil,S [],S [],S [],.bool q,I 0,I 0]],.CE u.length 0 1 13):=λu=>rfl;obtain⟨d,e⟩:∃d,d=h++[Dx.cells [.slnil,.map none]]:=⟨_,rfl⟩;have A:d[h.length]?=some (.cells [.slnil,.map none]):=by rw[e];simp
 have WM:d.length=h.length+1:=by rw[e];simp
 have g2:=g1 d;rw[WM] at g2;have B:At d h.length 0 .slnil:=⟨_,A,rfl⟩;have w:(d++[Dx.cells [I 1,I 0,.slnil,I 0,I 0,S [],.slnil,S [],S [],S [],.bool q,I 0,I 0]])[h.length]?=some (.cells [.slnil,.map none]):=(Ak Ac).trans A;have J:(d++[Dx.cells [I 1,I 0,.slnil,I 0,I 0,S [],.slnil,S [],S [],S [],.bool q,I 0,I 0]])[h.length+1]?=some (.cells [I 1,I 0,.slnil,I 0,I 0,S [],.slnil,S [],S [],S [],.bool q,I 0,I 0]):=by rw[<-WM];simp
 have bU:(d++[Dx.cells [I 1,I 0,.slnil,I 0,I 0,S [],.slnil,S [],S [],S [],.bool q,I 0,I 0]]).length=h.length+2:=by rw[Au,WM];rfl
 have s:d++[Dx.cells [I 1,I 0,.slnil,I 0,I 0,S [],.slnil,S [],S [],S [],.bool q,I 0,I 0]]=h++[.cells [.slnil,.map none],.cells [I 1,I 0,.slnil,I 0,I 0,S [],.slnil,S [],S [],S [],.bool q,I 0,I 0]]:=by rw[e,AI];rfl
 generalize d++[Dx.cells [I 1,I 0,.slnil,I 0,I 0,S [],.slnil,S [],S [],S [],.bool q,I 0,I 0]]=g at*;have t2:At g h.length 0 .slnil:=⟨_,w,rfl⟩;have D:=t2.store (u:= .CE (h.length+1) 0 1 13) rfl;have z:=Iq (k:=0) (v:= .CE (h.length+1) 0 1 13) w;have n:(put g h.length 0 (.CE (h.length+1) 0 1 13))[h.length+1]?=_:=(Cm Ac).trans J;have M:put g h.length 0 (.CE (h.length+1) 0 1 13)=h++[.cells [.CE (h.length+1) 0 1 13,.map none],.cells [I 1,I 0,.slnil,I 0,I 0,S [],.slnil,S [],S [],S [],.bool q,I 0,I 0]]:=by rw[Iw w,s,BH _ _ (Ag _),C5];rfl
 generalize put g h.length 0 (.CE (h.length+1) 0 1 13)=f at*;have l3:A7 f none (Pt h.length 0)=some (.CE (h.length+1) 0 1 13):=At.load ⟨_,z,rfl⟩;have L:AD (.Ff 13) [.CE (h.length+1) 0 1 13,I 0]=some (.ptr (some (h.length+1,0))):=E1 (k:= .i64) (i:=0) AP;have t3:At f (h.length+1) 3 (I 0):=⟨_,n,rfl⟩;have C:=t3.store (u:=I 1) rfl;have N:(put f (h.length+1) 3 (I 1))[h.length]?=_:=(Cm Ac).trans z;have H:=Iq (k:=3) (v:=I 1) n;have K:put f (h.length+1) 3 (I 1)=h++[.cells [.CE (h.length+1) 0 1 13,.map none],.cells [I 1,I 0,.slnil,I 1,I 0,S [],.slnil,S [],S [],S [],.bool q,I 0,I 0]]:=by rw[Iw n,M,BH _ _ Ac,TU];rfl
 refine⟨d,put f (h.length+1) 3 (I 1),?_,?_,⟨rfl,rfl,N,H,?_,?_,.inl ⟨rfl,λk=>?_⟩⟩,K⟩;.rw[Ae,wD];simp only[abS,↓reduceIte,AT,e]
 .have E:BG cx 158 [Pt h.length 0,.agg [I 1,I 0,.slnil,I 0,I 0,S [],.slnil,S [],S [],S [],.bool q,I 0,I 0]] d (I 1) f:=by rw[Ae,WU];simp only[BE,Nat.reduceLeDiff,↓reduceIte,AT,ZP,B.load,show AD (.Dk 13) [.agg [I 1,I 0,.slnil,I 0,I 0,S [],.slnil,S [],S [],S [],.bool q,I 0,I 0]]=some (.sl 13 [[I 1,I 0,.slnil,I 0,I 0,S [],.slnil,S [],S [],S [],.bool q,I 0,I 0]]) from rfl,g2,D,l3,show AD (.len false) [.CE (h.length+1) 0 1 13]=some (I 1) from rfl]
  have r2:BG cx 153 [Pt h.length 0,I 1] f (.ptr (some (h.length+1,0))) f:=by rw[Ae,WT];simp only[BE,ZP,l3,show AD (.int .sub) [I 1,I 1]=some (I 0) from rfl,L]
  rw[Ae,gL];simp only[abS,Nat.reduceLeDiff,↓reduceIte,AT,E.Ab,r2.Ab,C]
 .intro p hp;rw[BP] at hp;subst hp;exact .inl ⟨rfl,rfl⟩
 .simp[Gt,HY]
 .unfold Ar.inr;split;.rename_i y;have h1:=y.1;have h2:=y.2;simp[qv] at h2;have:k=1:=Ac;subst this;rfl
  .rfl
def aI7(h:Ai)(q:Bool):∃h1 h2 h' bi G,BG cx 57 [] h (Pt h.length 0) h1/\BG cx 58 [Pt h.length 0,.bool q] h1 (I 1) h2/\BG cx 60 [Pt h.length 0,I 1] h2 (Pt bi 0) h'/\BX h' bi h.length .slnil .slnil .slnil G (DA q)/\DC h (λ_=>False) h' (Bs bi G):=by
 obtain⟨h1,h2,g,r2,d,f⟩:=aOk h q;obtain⟨r,t,e,K,V,rfl,n,k,_⟩:=aHZ (x:=1) d ((Pf q).rm.ZR) ((Pf q).rm.ZR.Bc (Pd q).ok 1);have hx:(qv q).has 1:=⟨GI 1,GI 1⟩;have â:(qv q).nd 1={kind:=1,CG:=1,CL:=q}:=(Pe (q:=q) 1).trans (Af rfl);rw[Af hx,â] at e;have wt:PA (h2++t) _ _ _ _ _:=d.Dl λi hi=>Ak (d.lt i hi);refine⟨h1,h2,h2++t++[.cells (Ju h.length (DA q) .slnil .slnil .slnil)],(h2++t).length,λi=>i∈Gt h.length (h.length+1) none [⟨{kind:=1,CG:=1,CL:=q},.slnil,.slnil,rfl⟩],g,r2,?_,⟨AH,.inr ⟨rfl,rfl⟩,TC.nil,?_,?_⟩,?_⟩;.rw[Ae,wF];simp only[abS,Nat.reduceLeDiff,↓reduceIte,AT,e.Ab,aaS];exact⟨λh=>absurd rfl h,λ_=>⟨λh=>absurd rfl h,λ_=>rfl⟩⟩
 .exact⟨_,_,_,wt.Dl λi hi=>Ak (wt.lt i hi),λi=>aFo⟩
 .intro hm;exact absurd (wt.lt _ hm) (Dm _)
 .have Er:h.length<=h2.length:=by rw[f];simp
  refine⟨Ei,λi hi _=>?_,λi hi=> .inr ?_⟩;.rw[AI,Ak Ac,f,Ak hi]
  .rcases hi with rfl|hi
   .simp;omega
   .simp[Gt,HY] at hi;omega
def H_(sp:Int)(nm:Aj)(l:List A5)(q:Bool):EB (Jn sp nm l q)/\Sz (Jn sp nm l q) 100:=by
 refine⟨?_,?_⟩
 .obtain⟨Wo,f,v⟩:=Qp (nm:=DI) (at_:=[]) (p:=1) (Pd q) J9;have zw:=Wo.KW (Np (n:=((DA q).GG DI [] 1).node) (p:=1) (b:=0) Wo.ok) IE;have g:Le ((DA q).El DI [] 1 1).a (((DA q).El DI [] 1 1).a.Es ((DA q).GG DI [] 1).node 1 0):=IE;have ho:((DA q).El DI [] 1 1).AQ=[]:=by unfold BS.El;rw[Af J9];rfl
  have s:=zw.aDR (i:=(DA q).GG DI [] 1) (k:=0) ⟨g.has _ f.has,by rw[g.kind _ f.has];exact f.kind,by rw[g.Bb _ f.has];exact f.Bb,by rw[g.name _ f.has];exact f.name⟩ (by simp only[ho];simp);exact s.of_eq rfl rfl (by unfold Jn;simp only[ho];rfl) rfl
 .have sz:=Pf q;have e:((DA q).El DI [] 1 1).AQ=[]/\((DA q).El DI [] 1 1).A6=[]:=by unfold BS.El;rw[Af J9];exact⟨rfl,rfl⟩
  have u:=Jf (m:=5000000*100+1) (nm:=DI) (l:=[]) (sp:=1) (p:=1) (sz.rm.le Ac) ⟨AP,λa ha=>(nomatch ha)⟩;have r2:=u.KW (Kj (x:=((DA q).GG DI [] 1).node) (p:=1) (bf:=0));have d:=r2.xz (i:=(DA q).GG DI [] 1) (l':=((DA q).El DI [] 1 1).AQ++[(DA q).GG DI [] 1]) AH (λj hj=>by simpa using hj) (On AP);exact⟨⟨d.n,d.at_,d.data,d.AQ,d.A6,d.tm,d.DB,d.Wg⟩,by unfold Jn;simp only[e.1];show 1+1200*100<=125000;decide,by unfold Jn;simp only[e.2];decide⟩
def Zr(sp:Int)(nm:Aj)(l:List A5)(q:Bool):EB (Me sp nm l q)/\Sz (Me sp nm l q) 100:=by
 obtain⟨e,d⟩:=H_ sp nm l q;unfold Me;split;.have r:=d.rm;exact⟨e.of_eq rfl rfl rfl rfl,⟨⟨r.n,r.at_,r.data,r.AQ,r.A6,AH,r.DB,r.Wg⟩,d.AQ,d.A6⟩⟩
 .exact⟨e,d⟩
def aAJ(sp:Int)(nm:Aj)(l:List A5)(q f:Bool):EB (UI sp nm l q f)/\Sz (UI sp nm l q f) 100:=by
 obtain⟨qt,d⟩:=Zr sp nm l q;have e:BM (Me sp nm l q).HS (5000000*100):=d.rm.mode;unfold UI;split;.exact⟨(Tr qt).of_eq rfl rfl rfl rfl,⟨⟨e.n,e.at_,e.data,e.AQ,e.A6,e.tm,e.DB,e.Wg⟩,d.AQ,d.A6⟩⟩
 .exact⟨Tr qt,⟨e,d.AQ,d.A6⟩⟩
def BX.I_(w:BX h bi a o c t G b)(i:Item):∃h',Cv h 4 (Pt bi 10) (.agg i.row)=some h'/\BX h' bi a o c t G {b with ctx:=i}/\DC h (Bs bi G) h' (Bs bi G):=by refine⟨h.set bi (.cells (Ju a {b with ctx:=i} o c t)),?_,⟨AO w.lt,w.o,w.t,w.w.Dl λj hj=>As λe=>w.nb (by rw[e];exact hj),w.nb⟩,⟨by rw[Bq];exact Ag _,λj _ hn=>As λe=>hn (.inl e.symm),λ_ h=> .inl h⟩⟩;simp only[Cv,w.hb];rfl
def aOm(h:Ai)(sp:Int)(nm:Aj)(hv:Bi l av)(hl:DO l)(q f q':Bool):∃h1 h2 h' bi o t G,BG cx 57 [] h (Pt h.length 0) h1/\BG cx 58 [Pt h.length 0,.bool q] h1 (I 1) h2/\BG cx 59 [Pt h.length 0,I 1,.agg [I sp,.str nm,av,.bool q',.bool f]] h2 (Pt bi 0) h'/\BX h' bi h.length o .slnil t G (UI sp nm l q f)/\DC h (λ_=>False) h' (Bs bi G):=by
 obtain⟨h1,h2,h3,bi,G,N,r2,M,w,x⟩:=aI7 h q;have hr:Oq DI .slnil [I 2,.str DI,ff,S [],ff,S [],ff,ff,.slnil,ff,S [],.int .i32 0]:=⟨I 2,ff,S [],ff,S [],ff,ff,ff,S [],.int .i32 0,rfl⟩;obtain⟨h4,G4,L,w4,Y⟩:=zu (m:=1000) w (Pd q).ba ((Pf q).rm.le Ac) hr (l:=[]) (.inr ⟨rfl,rfl⟩) ⟨AP,λa ha=>(nomatch ha)⟩ AP 1 1;obtain⟨qt,f4,le4⟩:=Qp (nm:=DI) (at_:=[]) (p:=1) (Pd q) J9;have R:=Jf (m:=1000) (nm:=DI) (l:=[]) (sp:=1) (p:=1) ((Pf q).rm.le Ac) ⟨AP,λa ha=>(nomatch ha)⟩;obtain⟨z,g,K,U,X⟩:=rB (x:=((DA q).GG DI [] 1).node) (p:=1) (bf:=0) w4 qt.ba R;have ho:((DA q).El DI [] 1 1).AQ=[]:=by unfold BS.El;rw[Af J9];rfl
 obtain⟨d,J,B⟩:=f95 U.sO (by simp only[ho];decide) ((DA q).GG DI [] 1);have P:=U.HZ B;have w7:BX (put (put z bi 2 d) bi 9 tt) bi h.length d .slnil .slnil g _:=P.put (k:=9) (v:=tt) (b':={{{(DA q).El DI [] 1 1 with a:=((DA q).El DI [] 1 1).a.Es ((DA q).GG DI [] 1).node 1 0} with AQ:=((DA q).El DI [] 1 1).AQ++[(DA q).GG DI [] 1]} with Mo:=true}) rfl rfl B P.t;have E:Cv (put z bi 2 d) 1 (Pt bi 9) tt=some (put (put z bi 2 d) bi 9 tt):=P.st (k:=9) (v:=tt) (v0:= .bool ((DA q).El DI [] 1 1).Mo) rfl rfl;have H:BG cx 161 [I sp,.str nm,av] (put (put z bi 2 d) bi 9 tt) (.bool (Fp sp nm l)) (put (put z bi 2 d) bi 9 tt):=f96 hv (λa ha=>by have:=(hl.2 a ha).2;have:AW=140737488355328:=rfl;omega) (by have:=hl.1;omega) sp nm _;obtain⟨u,s8,T,W⟩:=w7.I_ ⟨0,sp,nm,Fp sp nm l⟩;have i:BX u bi h.length d .slnil .slnil g (Jn sp nm l q):=T;have O:DC h (λ_=>False) u (Bs bi g):=((((x.trans Y).trans X).trans Bf).trans Bf).trans W;clear T;have n:=i.aAr;have aEX:(Jn sp nm l q).ctx=⟨0,sp,nm,Fp sp nm l⟩:=rfl;obtain⟨aOn,Q⟩:=Zr sp nm l q;have y:=xD (ws:=[AM]) C1 AP (Jn sp nm l q).ctx u;have key:∃C t9,BX C bi h.length d .slnil t9 g (Me sp nm l q)/\DC u (Bs bi g) C (Bs bi g)/\(Bw [AM] (Jn sp nm l q).ctx=true->Cv u 1 (Pt bi 6) (.sl 1 [[I 18]])=some C)/\(Bw [AM] (Jn sp nm l q).ctx=false->C=u):=by
  by_cases s:Bw [AM] (Jn sp nm l q).ctx=true;.have hu:DX [18] (.sl 1 [[I 18]]):= .mk;refine⟨put u bi 6 (.sl 1 [[I 18]]),.sl 1 [[I 18]],?_,Bf,λ_=>i.st (k:=6) (v0:= .slnil) rfl rfl,λh=>absurd s (by rw[h];decide)⟩;unfold Me;rw[Af s];exact i.mC ⟨.inl hu,λe=>by injection e with _ e;simp at e⟩
  .refine⟨u,.slnil,?_,.refl,λh=>absurd h s,λ_=>rfl⟩;unfold Me;rw[Ad s];exact i
 obtain⟨C,t9,Z,V,k1,k2⟩:=key;obtain⟨VE,rN,UG,xL⟩:=aAs Z Q.rm;have em:AD (.Dk 1) [I 18]=some (.sl 1 [[I 18]]):=rfl;have D:DC h (λ_=>False) VE (Bs bi g):=(O.trans V).trans xL;have hir:((DA q).GG DI [] 1).row=[I ((DA q).GG DI [] 1).node,I ((DA q).GG DI [] 1).Bb,.str ((DA q).GG DI [] 1).name,.bool ((DA q).GG DI [] 1).Og]:=rfl;generalize(DA q).GG DI [] 1=it at*;have J_:Cv (put (put z bi 2 d) bi 9 tt) 4 (Pt bi 10) (.agg [I 0,I sp,.str nm,.bool (Fp sp nm l)])=some u:=s8;have xF:AD (.Dk 1) [S aVg]=some (.sl 1 ([AM].map Cu)):=rG;cases s:Bw [AM] (Jn sp nm l q).ctx with
 |true=>
  rw[s] at y;have A:=k1 s;cases f with
  |true=>
   refine⟨h1,h2,put VE bi 8 (I (-1)),bi,d,t9,g,N,r2,?_,?_,D.trans Bf⟩;.rw[Ae,gM];simp only[abS,Nat.reduceLeDiff,↓reduceIte,AT,E9,M.Ab,L.Ab,K.Ab,J.Ab,E,H.Ab,J_,n,xF,y.Ab,em,A,rN.Ab,UG.st (k:=8) (v:=I (-1)) rfl rfl]
   .unfold UI;rw[Af rfl];exact UG.put rfl rfl UG.o UG.t
  |false=>refine⟨h1,h2,VE,bi,d,t9,g,N,r2,?_,UG,D⟩;rw[Ae,gM];simp only[abS,Nat.reduceLeDiff,↓reduceIte,AT,E9,M.Ab,L.Ab,K.Ab,J.Ab,E,H.Ab,J_,n,xF,y.Ab,em,A,rN.Ab]
 |false=>
  rw[s] at y;have qw:=k2 s;subst qw;cases f with
  |true=>
   refine⟨h1,h2,put VE bi 8 (I (-1)),bi,d,t9,g,N,r2,?_,?_,D.trans Bf⟩;.rw[Ae,gM];simp only[abS,Nat.reduceLeDiff,↓reduceIte,AT,E9,M.Ab,L.Ab,K.Ab,J.Ab,E,H.Ab,J_,n,xF,y.Ab,em,rN.Ab,UG.st (k:=8) (v:=I (-1)) rfl rfl]
   .unfold UI;rw[Af rfl];exact UG.put rfl rfl UG.o UG.t
  |false=>refine⟨h1,h2,VE,bi,d,t9,g,N,r2,?_,UG,D⟩;rw[Ae,gM];simp only[abS,Nat.reduceLeDiff,↓reduceIte,AT,E9,M.Ab,L.Ab,K.Ab,J.Ab,E,H.Ab,J_,n,xF,y.Ab,em,rN.Ab]
def aOo(h:Ai)(s:EZ)(hv:Bi s.Av av)(hl:DO s.Av):∃h' bi a o c t G,BG cx 22 [.agg (MT s av)] h (Pt bi 0) h'/\BX h' bi a o c t G s.b/\B1 s.b.A6 c/\DC h (λ_=>False) h' (Bs bi G):=by
 have uK:(Jn s.Bb s.name s.Av s.CL).A6=[]:=by unfold Jn;simp only;unfold BS.El;rw[Af J9];rfl
 cases hf:s.Mo with
 |true=>
  obtain⟨h1,h2,h',bi,o,t,G,f,r2,d,w,x⟩:=aOm h s.Bb s.name hv hl s.CL s.NH s.CL;refine⟨h',bi,h.length,o,.slnil,t,G,?_,by unfold EZ.b;rw[Af hf];exact w,?_,x⟩;.rw[Ae,yd,MT,hf];simp only[BE,f.Ab,r2.Ab,d.Ab]
  .have e:s.b.A6=[]:=by unfold EZ.b UI Me;rw[Af hf];split<;>split<;>exact uK
   rw[e];exact⟨[],rfl,.inr ⟨rfl,rfl⟩⟩
 |false=>
  obtain⟨h1,h2,h',bi,G,f,r2,d,w,x⟩:=aI7 h s.CL;have e:s.b=DA s.CL:=by unfold EZ.b;rw[Ad (by rw[hf];decide)]
  refine⟨h',bi,h.length,.slnil,.slnil,.slnil,G,?_,by rw[e];exact w,by rw[e];exact⟨[],rfl,.inr ⟨rfl,rfl⟩⟩,x⟩;rw[Ae,yd,MT,hf];simp only[BE,f.Ab,r2.Ab,d.Ab]
def EZ.ok(s:EZ):EB s.b/\Sz s.b 100:=by
 unfold EZ.b;split;.exact aAJ _ _ _ _ _
 .have h:=Pf s.CL;exact⟨Pd _,⟨h.rm.le Ac,by have:=h.AQ;omega,by have:=h.A6;omega⟩⟩
end
end Go.Am
end
