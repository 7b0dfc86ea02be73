/- Lemmas -/
import Derived.Test.YtffmdapalbecoaaGreatDoorO25
set_option linter.all false
open List renaming replicate→zk,length→yx
open Go.Am.Item renaming zero→zy,node→z7
open Go.Am.Aa renaming slnil→zx,bool→zp,agg→zh,str→zb,tuple→z8,int→yw,map→ys
open Nat renaming succ_le_succ→yy
open Go.Am.DG renaming cells→zt,cells→zm
open Option renaming some→zr,none→zf
open Go.Am.Cp renaming row→zq
open Bool renaming false→zl,true→zd
open Go.Am.At renaming load→zj
open Or renaming inl→zi,inr→ze
open Go.Am.BS renaming Ex→zc,FJ→z0,CE→z3,round→z4,Ih→z5,En→z6,K4→yz
open Go.Am.Oc renaming append→yt
open Go.Am.B5 renaming zero→z1
open Go.Am.AX renaming cells→z2
noncomputable section
set_option maxHeartbeats 0
set_option maxRecDepth 100000
section
namespace Go.Am
open Go
section
variable{h h':Ah}{bi a:Nat}{o c t:Aa}{G G' F:Nat->Prop}{b b':BS}{x:Int}{m:Nat}
variable{nm:Ai}{av:Aa}{l:List A9}{r:List Aa}{sp p:Int}
def B0.sub(rm:B0 b m)(ha:b'.a=b.a)(ho:b'.AI.Sublist b.AI)(hc:b'.AW.Sublist b.AW)(ht:yx b'.tm<=yx b.tm):B0 b' m:=
 ⟨by rw[ha];exact rm.n,by rw[ha];exact rm.at_,by rw[ha];exact rm.data,by have:=rm.AI;have:=ho.length_le;omega,by have:=rm.AW;have:=hc.length_le;omega,by have:=rm.tm;omega,λe he=>rm.DL e (hc.subset he),λi hi=>rm.Xe i (ho.subset hi)⟩
def aGr{v:Aa}{l:List Int}(hv:S5 l v)(hb:yx l<=1000000000)(h:Ah):∃u,BK cx 117 [v] h u h/\Vz l u:=by
 have hm:A0=140737488355328:=rfl;have e0:AA (.GI 1) []=zr (.GI 1):=rfl;obtain hv|⟨rfl,rfl⟩:=hv
 .have DR:AX 1 (l.map Cb) v:=hv;obtain rfl|⟨rfl,h0⟩:=DR
  .cases l with
   |nil=>refine⟨.GI 1,?_,ze ⟨rfl,rfl⟩,nofun⟩;simp[Ad,Ry,BD,Da,show AA (.GD zl .sl) [.sl 1 [],zx]=zr (zp zl) from rfl,e0,show AA (yt 1 8) [.GI 1,.sl 1 []]=zr (.GI 1) from rfl]
   |cons x l=>
    have Te:((x::l).map Cb).length*8<=A0:=by rw[Ao];omega
    have d:AA (yt 1 8) [.GI 1,.sl 1 ((x::l).map Cb)]=zr (.sl 1 ((x::l).map Cb)):=by simp only[Bm] at Te⊢;simp only[AA,Ip,BR,D0];rw[Af ⟨trivial,Te⟩]
    refine⟨_,?_,zi .mk,λe=>by injection e with _ e;simp at e⟩;simp only[Ad,Ry,BD,show AA (.GD zl .sl) [.sl 1 ((x::l).map Cb),zx]=zr (zp zl) from rfl,e0,d]
  .refine⟨zx,?_,zi (ze ⟨rfl,h0⟩),nofun⟩;simp[Ad,Ry,BD,show AA (.GD zl .sl) [zx,zx]=zr (zp zd) from rfl]
 .refine⟨.GI 1,?_,ze ⟨rfl,rfl⟩,nofun⟩;simp[Ad,Ry,BD,show AA (.GD zl .sl) [.GI 1,zx]=zr (zp zl) from rfl,e0,show AA (yt 1 8) [.GI 1,.GI 1]=zr (.GI 1) from rfl]
def BX.oS{u:Aa}{l:List Int}(w:BX h bi a o c t G b)(hu:Vz l u):BX (Am.put h bi 6 u) bi a o c u G {b with tm:=l}:=w.put rfl rfl w.o hu
def tW:AA (.Dk 1) [S aXs]=zr (.sl 1 ([AO].map Cr)):=D2 (ws:=[AO]) rfl Bf
section
variable(w:BX h bi a o c t G b)
def aKE(hc:B4 b.AW c)(rm:B0 b m):
  ∃h' o' c' t',BK cx 77 [Pt bi 0] h (z8 []) h'/\BX h' bi a o' c' t' G b.CT/\B4 b.CT.AW c'/\Du h (Bu bi G) h' (Bu bi G):=by
 have ho:=rm.AI;have Sk:=rm.AW;have P:=rm.tm;have A:=aBH w.sA Ab AO;by_cases Gt:AZ (AU [AO]) b.AI<0;.refine⟨h,o,c,t,?_,by rw[BS.CT];rwa[Af Gt],by rw[BS.CT];rwa[Af Gt],.refl⟩;simp[Ad,ZQ,abS,I1 w,A,Gt]
 let⟨y,r2,PU⟩:=aO1 w.sO Ab;have w1:=w.H5 PU;have l1:(DI CM Cx b.AI).length<=yx b.AI:=Rq;let⟨f,J,Ja⟩:=f66 w1.sO DA (Cw (ws:=[AO])) Bf;have E:=w1.H5 Ja;let⟨fs,Gp,hcs⟩:=hc;have HB:yx fs=yx b.AW:=by rw[<-Gp,Ao]
 let⟨d,H,C⟩:=f65 (show Vj _ bi 3 fs from⟨c,E.tQ,hcs⟩) Ab;have j:=E.KC (u:=d) (l:=GB b.AW);have Ob:B4 (GB b.AW) d:=⟨_,by rw[Ye,Gp],C⟩;have lt:=w.t.1.len;have l6:=j.l6;have e:b.CT=BS.H7 {b with AI:=DI Cx (AU [AO]) (DI CM Cx b.AI),AW:=GB b.AW,tm:=b.tm.dropLast}:=by rw[BS.CT];rw[Ac Gt]
 have sO:(DI Cx (AU [AO]) (DI CM Cx b.AI)).Sublist b.AI:=(C9 (p:=Cx) (q:=AU [AO]) (l:=DI CM Cx b.AI)).trans C9;have D:Du h (Bu bi G) (put (put (put h bi 2 y) bi 2 f) bi 3 d) (Bu bi G):=(Bd.trans Bd).trans Bd;by_cases h0:b.tm=[]
 .have v:BX (put (put (put h bi 2 y) bi 2 f) bi 3 d) bi a f d t G {b with AI:=DI Cx (AU [AO]) (DI CM Cx b.AI),AW:=GB b.AW,tm:=b.tm.dropLast}:=by
   have:b.tm.dropLast=b.tm:=by rw[h0];rfl
   rwa[this]
  let⟨R,z,s,L⟩:=aBZ v (rm.sub (b':={b with AI:=DI Cx (AU [AO]) (DI CM Cx b.AI),AW:=GB b.AW,tm:=b.tm.dropLast}) rfl sO (CB _ _) AH);refine⟨R,f,d,t,?_,by rwa[e],by rwa[e],D.trans L⟩;have B:AA (.len zl) [t]=zr (I 0):=by rw[lt,h0];rfl
  simp only[Ad,ZQ,abS,I1 w,A,Gt,r2,tW,J,H,l6,B,z,JO]
 .have hpos:=Ej.2 h0;let⟨T,S,i⟩:=AX.Mo (w.t.1.ne h0) (k:= .i64) (n:=yx b.tm-1) Ab;rw[<-aH2] at i;let⟨N,z,g⟩:=aGr (zi i) EP (put (put (put h bi 2 y) bi 2 f) bi 3 d);have s:=j.oS g;let⟨Q,O,M,K⟩:=aBZ s (rm.sub (b':={b with AI:=DI Cx (AU [AO]) (DI CM Cx b.AI),AW:=GB b.AW,tm:=b.tm.dropLast}) rfl sO (CB _ _) AH);refine⟨Q,f,d,N,?_,by rwa[e],by rwa[e],(D.trans Bd).trans K⟩;simp only[Ad,ZQ,abS,I1 w,A,Gt,r2,tW,J,H,l6,lt,(Ab:(0:Int)<(yx b.tm:Int)),IK hpos (Ab:yx b.tm<9223372036854775807),S,z,j.st (k:=6) (v0:=t) rfl g.1.cells,O,JO]
def aPG:∃h',BK cx 78 [Pt bi 0] h (z8 []) h'/\BX h' bi a o c t G {b with stop:=zd}/\Du h (Bu bi G) h' (Bu bi G):=by refine⟨_,?_,w.put (k:=19) (v:= zp zd) rfl rfl w.o w.t,Bd⟩;simp[Ad,zQ,BD,I1 w,w.st (k:=19) (v:=tt) rfl rfl]
def aGu(rm:B0 b m):∃h' o',BK cx 81 [Pt bi 2] h (zh b.sW.row) h'/\BX h' bi a o' c t G b.IW/\Du h (Bu bi G) h' (Bu bi G):=by
 have ho:=rm.AI;have ld:A5 h zf (Pt bi 2)=zr o:=w.ld 2;have lo:=AX.CK w.o;unfold BS.IW BS.sW;by_cases h2:yx b.AI<2;.refine⟨h,o,?_,by rwa[Af h2],.refl⟩;simp[Af h2,Ad,ZR,abS,AQ,Vy w.sA,(Ab:(yx b.AI:Int)<2)];rfl
 .let⟨u,e,hu⟩:=AX.Mo w.o (k:= .i64) (n:=yx b.AI-1) Ab;refine⟨_,u,?_,by rw[Ac h2];exact w.H5 hu,Bd⟩;simp only[Ac h2,Ad,ZR,abS,AQ,ER,Vy w.sA,(Ab:¬(yx b.AI:Int)<2),f39 w.sA Ab,ld,lo,IK (Ab:0<yx b.AI) (Ab:yx b.AI<9223372036854775807),e,w.st (k:=2) (v0:=o) rfl (z2 hu)]
end
end
def Ul{U:Type}(enc:U->List Aa)(Eh:U->Ah->Prop)(Z:U->Nat)(i:Nat)(He:U->Ah->Prop)(s:U):HC:=
 λx vs h1=>(x= .normal/\∃s',vs=enc s'/\Eh s' h1/\Z s'<Z s)\/(x= .exit i/\∃s',vs=enc s'/\He s' h1)
section
variable{U:Type}{enc:U->List Aa}{Eh He:U->Ah->Prop}{Z:U->Nat}{i:Nat}{s:U}{vs:List Aa}{h:Ah}(s':U)(e:vs=enc s')
def Ul.next(hi:Eh s' h)(hl:Z s'<Z s):Ul enc Eh Z i He s .normal vs h:= zi ⟨rfl,s',e,hi,hl⟩
end
def Ul.He{U:Type}{enc:U->List Aa}{Eh He:U->Ah->Prop}{Z:U->Nat}{i:Nat}{s:U}{vs:List Aa}{h:Ah}(s':U)(e:vs=enc s')(hi:He s' h):Ul enc Eh Z i He s (.exit i) vs h:= ze ⟨rfl,s',e,hi⟩
def Dr{C:GN}{Q:HC}{h:Ah}{U:Type}{key i:Nat}{init:List Aa}{body:List Aa->IT}{k:Dm->List Aa->IT}(enc:U->List Aa)(Eh:U->Ah->Prop)(Z:U->Nat)(He:U->Ah->Prop)(s0:U)(h0:init=enc s0)(hi:Eh s0 h)
  (round:∀s h,Eh s h->W C (body (enc s)) (Ul enc Eh Z i He s) h) (hk:∀s h,He s h->W C (k (.exit i) (enc s)) Q h):W C (.loop key init body k) Q h:=by
 refine Bj enc Eh Z s0 h0 hi λs h hs=>W.mono (round s h hs) ?_;rintro x vs h1 (hn|⟨rfl,s',rfl,hf⟩);.exact zi hn
 .exact ze ⟨AH,hk s' h1 hf⟩
def fK{h:Ah}{id z:Nat}{AD:List (List Aa)}(hr:∀r∈AD,yx r=z)(hc:h[id]?=zr (zt AD.flatten)){i:Nat}(hi:i<yx AD):A5 h (zr z) (Pt id (i*z))=zr (zh AD[i]):=by
 have hl:i*z+z<=yx AD.flatten:=by rw[Gq hr];have:=Ea z (Ab:i+1<=yx AD);rwa [B9,Gd] at this
 simp only[A5,hc,NL];rw[Af hl,Js hr,AG hi,Dt,C6 (by rw[hr _ (AN hi)];exact Ae _),AF (by rw[hr _ (AN hi)];exact Ae _)]
section
variable{h h':Ah}{bi a:Nat}{o c t:Aa}{G G' F:Nat->Prop}{b b':BS}{x:Int}{m:Nat}
variable{nm:Ai}{av:Aa}{l:List A9}{r:List Aa}{sp p:Int}
def ý(e:Cp)(h:Ah):∃r,BK cx 181 [zh e.row] h (zh r) h/\OG e.c.name e.v r:=by have hv:e.v.cells=[e.v]:=z2 e.ok;refine⟨_,?_,I 2,ff,S [],ff,S [],ff,ff,ff,S [],yw .i32 0,rfl⟩;simp[Ad,kO,zq,abS,AQ,hv]
def fL:∀{l:List B5} {b:BS} {m:Nat},B0 b (m+4*yx l)->(∀e∈l,yx e.name<=1000/\DV e.Aj)->B0 (z5 l b).2 m
 |[],b,m,r,_=>by simpa[z5] using r
 |e::l,b,m,r,hl=>by have h1:=hl e AH;rw[z5];exact fL (JY (m:=m+4*yx l) (r.le EP) h1.2 h1.1) λx hx=>hl x (by simp[hx])
def Um:b.L0<=yx b.AW:=by rw[BS.L0];rcases Dy (q:=b.settled) (l:=b.AW) with⟨h,_⟩|⟨n,h1,h2,_⟩<;>omega
structure oT(h:Ah)(bi a:Nat)(t:Aa)(G0:Nat->Prop)(b:BS)(fs:List Cp)(id m k:Nat)(h1:Ah):Prop where
 le:k<=yx fs
 low:b.L0<=k
 ex:∃(o:Aa) (G:Nat->Prop) (b1:BS) (Iv:List Cp),BX h1 bi a o (.CC id 0 (yx fs) 3) t G b1/\ET b1/\B0 b1 (m+4*(yx fs-k))/\h1[id]?=zr (zt (Iv.map zq).flatten)/\yx Iv=yx fs/\Iv.drop k=fs.drop k/\
  BS.A6 b={(z5 (b.AW.drop k) b1).2 with AW:=(Iv.take k).map (·.c)++(z5 (b.AW.drop k) b1).1}/\¬Bu bi G id/\Du h (Bu bi G0) h1 (Bu bi G)
def BX.oU(w:BX h bi a o c t G {b with AW:=b.AW}):BX h bi a o c t G b:=w
def QS{h1:Ah}{id:Nat}{v v':Aa}(ha:At h id 3 v)(hf:KY h v=zr (h1,v'))(he:h1[id]?=h[id]?):MO h 3 (Pt id 0)=zr (Am.put h1 id 3 v'):=by let⟨cs,hc,e⟩:=ha;rw[hc] at he;rw[MO];simp[hc,B2,e,hf,CP,he];rw[IM he]
def ly{v:Aa}{l:List Cp}(hv:Dp l v):KY h v=zr (h,v):=by obtain rfl|⟨rfl,_⟩:=hv<;>rfl
def aKG{v:Aa}(hv:Dp [] v)(h:Ah):∃u,BK cx 180 [v] h u h/\Dp [] u:=by
 have d:=QC (h:=h) (s:= .sl 3 []) (b:=48) (ze rfl) hv;obtain rfl|⟨rfl,h0⟩:=hv
 .refine⟨.sl 3 [],?_,.mk⟩;rw[Ad,T8];simp[Da] at d;simp[BD,Da,show AA (.GD zl .sl) [.sl 3 [],zx]=zr (zp zl) from rfl,show AA (.Dk 3) []=zr (.sl 3 []) from rfl,d]
 .refine⟨zx,?_,ze ⟨rfl,rfl⟩⟩;simp[Ad,T8,BD,show AA (.GD zl .sl) [zx,zx]=zr (zp zd) from rfl]
def oT.init(w:BX h bi a o c t G b)(ok:ET b)(rm:B0 b (m+4*yx b.AW)){fs:List Cp}(Gp:fs.map (·.c)=b.AW):
  oT h bi a t G b fs (yx h) m b.L0 (Am.put (h++[zt (fs.map zq).flatten]) bi 3 (.CC (yx h) 0 (yx fs) 3)):=by
 have HB:yx b.AW=yx fs:=by rw[<-Gp,Ao]
 have hk:=Um (b:=b);have hne:yx h≠bi:=Nat.ne_of_gt w.lt;refine⟨Ab,Ae _,o,G,b,fs,((w.HY (u:=[zt (fs.map zq).flatten])).KC (l:=b.AW)).oU,ok,rm.le Ab,?_,rfl,rfl,?_,?_,w.C3.trans Bd⟩;.rw[Ce hne];simp
 .unfold BS.A6;simp only;rw[FM,Gp]
 .rintro(rfl|hg);.exact hne rfl
  .cases (DF _) (w.w.lt hg)
def oT.step{fs:List Cp}{id k:Nat}{h1:Ah}(Gp:fs.map (·.c)=b.AW)(K6:∀e∈b.AW,yx e.name<=1000/\DV e.Aj)(hi:yx h<=id)(hlt:k<yx fs)(i:oT h bi a t G b fs id m k h1):
  ∃(r:List Aa) (h2:Ah) (n:Int),A5 h1 zf (Pt bi 3)=zr (.CC id 0 (yx fs) 3)/\A5 h1 (zr 3) (Pt id (k*3))=zr (zh fs[k].row)/\BK cx 181 [zh fs[k].row] h1 (zh r) h1/\BK cx 64 [Pt bi 0,zh r] h1 (I n) h2/\A5 h2 zf (Pt bi 3)=zr (.CC id 0 (yx fs) 3)/\
   Cy h2 1 (Pt id (k*3)) (I n)=zr (Am.put h2 id (k*3) (I n))/\oT h bi a t G b fs id m (k+1) (Am.put h2 id (k*3) (I n)):=by
 let⟨C,D,b1,Iv,w1,Xl,aq,Tg,XF,jJ,vW,ND,g⟩:=i.ex;have S6:k<yx Iv:=Ab;have HB:yx b.AW=yx fs:=by rw[<-Gp,Ao]
 have þ:k<yx b.AW:=Ab;have q:Iv[k]=fs[k]:=by have:=Cj (λl=>l[0]?) jJ;simp[Cu,Bw] at this;rw[An S6,An hlt] at this;exact EA this
 have w:b.AW[k]=fs[k].c:=by simp[<-Gp,CR]
 have f:=fK (Pe Iv) Tg (i:=k) (zv S6);rw[CR,q] at f;have K6:=K6 fs[k].c (by rw[<-w];exact AN þ);let⟨r,z,hr⟩:=ý fs[k] h1;let⟨h2,A,y,r2,u,d⟩:=ö (m:=m+4*(yx fs-(k+1))) w1 Xl.ba (aq.le Ab) hr fs[k].ok K6.2 K6.1;have py:id<yx h1:=(Aq.1 Tg).1;have JH:h2[id]?=zr (zt (Iv.map zq).flatten):=by rwa[d.old id py ND]
 have Tf:¬Bu bi y id:=λhg=>by
  obtain hg|hg:=d.Bu id hg
  .exact ND hg
  .omega
 have s:At h2 id (k*3) (I fs[k].c.node):=⟨_,JH,by have:=L2 (k:=0) (Pe Iv) Bf (i:=k) (r:=fs[k].row) (by rw[Cc,An S6,q];rfl);rw[Bw] at this;rw[this];rfl⟩
 let e':Cp:=⟨{fs[k].c with node:=b1.a.len+1},fs[k].v,fs[k].ok⟩
 have hrow:(Iv.map zq).flatten.set (k*3) (I (b1.a.len+1))=((Iv.set k e').map zq).flatten:=by have:=OF (AD:=Iv.map zq) (i:=k) (k:=0) (v:= I (b1.a.len+1)) (Pe Iv) (zv S6) Bf;rw[Bw] at this;rw[EI,B1,Af (by rw[Gq (Pe Iv),Ao];omega)];rw[AK] at this;rwa[show e'.row=((Iv.map zq)[k]'(zv S6)).set 0 (I (b1.a.len+1)) by rw[CR,q];rfl]
 refine⟨r,h2,b1.a.len+1,w1.l3,f,z,r2,u.l3,s.store rfl,⟨hlt,by have:=i.low;omega,A,y,_,Iv.set k e',u.Dj λj hj=>Ce λe=>Tf (e▸hj),QQ Xl,JY (m:=m+4*(yx fs-(k+1))) (aq.le Ab) K6.2 K6.1,?_,by rwa[Br],?_,?_,Tf,⟨by rw[Jw];exact(g.trans d).len,λj hj hn=>(Ce Ab).trans ((g.trans d).old j hj hn),(g.trans d).Bu⟩⟩⟩;.rw[IM JH,AY (by have:=d.len;omega),hrow]
 .rw[cX (N9 k)];have:=Cj (λl=>l.drop 1) jJ;simpa[Fi] using this
 .rw[vW,AG þ,w,z5];simp only
  congr 1
  rw[AB (by rwa[Br]),aH3,BL,PQ (Ae k),AK];rfl
def aKI(w:BX h bi a o c t G b)(hc:B4 b.AW c)(ok:ET b)(rm:B0 b (m+4*yx b.AW)):
  ∃h' o' c' G',BK cx 72 [Pt bi 0] h (z8 []) h'/\BX h' bi a o' c' t G' b.A6/\B4 b.A6.AW c'/\Du h (Bu bi G) h' (Bu bi G'):=by
 have ho:=rm.AI;have Sk:=rm.AW;let⟨fs,Gp,hcs⟩:=hc;have HB:yx b.AW=yx fs:=by rw[<-Gp,Ao]
 have IJ:Ev cx 72 [Pt bi 0] h λr h'=>r= z8 []/\∃o' c' G',BX h' bi a o' c' t G' b.A6/\B4 b.A6.AW c'/\Du h (Bu bi G) h' (Bu bi G'):=by
  unfold Ev;have l3:=w.l3;have lc:=AX.CK hcs;simp only[zM,abS,I1 w,l3,lc];refine Dr (i:=0) (λn:Nat=>[I (n:Int)]) (λn h1=>n<=yx fs/\AZ b.settled b.AW=AZ b.settled (b.AW.take n)/\h1=h) (λn=>n) (λn h1=>n=b.L0/\h1=h) (yx fs) rfl ⟨Ae _,by rw[<-HB,Bt],rfl⟩ ?_ ?_
  .rintro n h1 ⟨hn,ha,rfl⟩;cases n with
   |zero=>simp[abS,(Bf:¬(0:Int)<((0:Nat):Int))];refine .He 0 rfl ⟨?_,rfl⟩;unfold BS.L0;rw[ha];rfl
   |succ n=>
    have hlt:n<yx b.AW:=Ab;have Ug:n<yx fs:=Ab;rw[Ht hlt] at ha;have i1:=IK (n:=n+1) (Ab:0<n+1) (Ab:n+1<9223372036854775807);rw[Fy] at i1;have d:=AX.BG (k:= .i64) hcs Ug;have en:fs[n].c.node=b.AW[n].node:=by simp[<-Gp,CR]
    have f:=cQ w.sA Ab b.AW[n].node;have g:b.settled b.AW[n]=zd->n+1=b.L0:=by intro hs;rw[Af hs] at ha;unfold BS.L0;rw[ha];omega
    rw[zq,en] at d;simp only[abS,(Ab:(0:Int)<((n+1:Nat):Int)),l3,i1,d,f,B3];refine⟨λh1=>⟨λh2=>?_,λh2=>?_⟩,λh1=>?_⟩
    .have hs:b.settled b.AW[n]=zl:=by unfold BS.settled;rw[Al];omega
     rw[Ac (by rw[hs];decide)] at ha;exact .next n rfl ⟨Ab,ha,rfl⟩ Ab
    .exact .He (n+1) rfl ⟨g (by unfold BS.settled;rw[As];omega),rfl⟩
    .exact .He (n+1) rfl ⟨g (by unfold BS.settled;rw[As];omega),rfl⟩
  .rintro n h1 ⟨rfl,O⟩;rw[O];by_cases hne:fs=[]
   .subst hne;have ha:b.AW=[]:=Gp.symm;have g:b.L0=0:=by have:=Um (b:=b);rw[ha] at this;exact Nat.le_zero.1 this
    have hb:b.A6=b:=by unfold BS.A6;simp only[ha,aCN,BS.Ih,aCO,BY];rw[<-ha]
    let⟨u,f,hu⟩:=aKG hcs h;have w1:=(w.KC (u:=u) (l:=b.AW)).oU;have d:=QS w1.tQ (ly hu) rfl;have B:=AX.CK hu;have y:=w1.l3;rw[BP] at B;have hz:(b.L0:Int)=((0:Nat):Int):=by rw[g]
    simp only[abS,l3,f,w.st (k:=3) (v0:=c) rfl (AX.cells hu)];refine Dr (i:=2) (λn:Nat=>[I (n:Int)]) (λn h1=>n=0/\h1=Am.put h bi 3 u) (λn=>n) (λn h1=>n=0/\h1=Am.put h bi 3 u) 0 (by rw[hz]) ⟨rfl,rfl⟩ ?_ ?_;.rintro n h1 ⟨rfl,rfl⟩;simp[abS,y,B,(Bf:¬((0:Nat):Int)<((0:Nat):Int))];exact .He 0 rfl ⟨rfl,rfl⟩
    .rintro n h1 ⟨rfl,rfl⟩;simp only[BD,d];refine⟨_,rfl,rfl,o,u,G,?_,⟨[],by rw[hb,ha];rfl,hu⟩,Bd.trans Bd⟩;rw[hb];exact(w1.KC (l:=b.AW)).oU
   .have i0:=oT.init (m:=m) w ok rm Gp;have f:=aGc (h:=h) hcs hne Ab;have w0:=w.HY (u:=[zt (fs.map zq).flatten]);simp only[abS,l3,f,w0.st (k:=3) (v:= .CC h.length 0 fs.length 3) (v0:=c) rfl rfl];refine Dr (i:=2) (λn:Nat=>[I (n:Int)]) (λk h1=>oT h bi a t G b fs (yx h) m k h1) (λk=>yx fs-k) (λk h1=>k=yx fs/\oT h bi a t G b fs (yx h) m k h1) b.L0 rfl i0 ?_ ?_
    .intro k h1 i;have EH:=i.le;have C:AA (.len zl) [.CC (yx h) 0 (yx fs) 3]=zr (I (yx fs:Int)):=rfl;obtain hlt|Et:=AP k fs.length
     .let⟨r,h2,n,N,M,L,K,J,H,E⟩:=oT.step Gp rm.DL (Ae _) hlt i;have d:AA (.EE 3) [.CC (yx h) 0 (yx fs) 3,I (k:Int)]=zr (Pt (yx h) (k*3)):=Fk hlt;simp only[abS,N,C,(Ab:(k:Int)<(fs.length:Int)),d,M,L,BN,K,J,H,By k];exact .next (k+1) rfl E Ab
     .let⟨s,A,b1,Iv,w1,_⟩:=i.ex;simp only[abS,w1.l3,C,(Ab:¬(k:Int)<(fs.length:Int))];exact .He k rfl ⟨Ab,i⟩
    .rintro k h1 ⟨rfl,i⟩;let⟨s,A,b1,Iv,w1,Xl,aq,Tg,XF,jJ,vW,ND,q⟩:=i.ex;have hf:=Kr (Pe Iv) Tg;rw[Ao,XF] at hf;have z:yx h≠bi:=λe=>ND (zi e);have d:=QS w1.tQ hf (by rw[Au z]);have D:BX (h1.set (yx h) .CU) bi a s _ t A b1:=w1.Dj λj hj=>Au λe=>ND (by rw[e];exact hj);simp only[BD,d];have hb:b.A6={b1 with AW:=Iv.map (·.c)}:=by rw[vW,AT Ab,AF Ab];simp only[BS.Ih,BB]
     refine⟨_,rfl,rfl,s,_,A,by rw[hb];exact D.KC,⟨Iv,by rw[hb],.mk⟩,?_⟩;refine Du.trans ⟨by rw[Br];exact q.len,λj hj hn=>?_,q.Bu⟩ Bd;rw[Au Ab];exact q.old j hj hn
 obtain⟨r,h',hr,rfl,o',c',G',w',Jq,x'⟩:=IJ.ret;exact⟨h',o',c',G',hr,w',Jq,x'⟩
end
def aB1{id l k:Nat}(hl:0<l)(hk:k<=l):AA (.K9 3 zl zl zd) [.CC id 0 l 3,I (k:Int)]=zr (.CC id 0 k 3):=by
 have d:FH (k:Int) l=zr k:=by rw[FH];rw[Af Ab];rfl
 simp[AA,KE,Ep,d];omega
def aB2{id l k:Nat}(hk:k<=l):AA (.K9 3 zl zd zl) [.CC id 0 l 3,I (k:Int)]=zr (if k<l then .CC id (k*3) (l-k) 3 else .sl 3 []):=by
 have d:FH (k:Int) l=zr k:=by rw[FH];rw[Af Ab];rfl
 simp[AA,KE,Ep,d];split<;>rfl
def HI{U:Type}{l:List U}{k:Nat}(hk:k<yx l):(Bg l k).length=yx l-1:=by rw[Bg];rw[Aw,Ax,Bi];omega
def aKJ{h:Ah}{id k:Nat}{AD:List (List Aa)}(hr:∀r∈AD,yx r=3)(hc:h[id]?=zr (zt AD.flatten))(hk:k<yx AD)(hb:yx AD<=1000000000):
  ∃HJ,BK cx 404 [.CC id 0 (yx AD) 3,I (k:Int),I ((k+1:Nat):Int)] h (.CC id 0 (yx AD-1) 3) (h.set id (zt ((Bg AD k).flatten++HJ))):=by
 have IC:=(Aq.1 hc).1;have w:=HI hk;have Ti:=Gq hr;have v:∀r∈Bg AD k,yx r=3:=λr hm=>hr r (by
  rw[Bg] at hm;obtain hm|hm:=Ay.1 hm
  .exact BJ hm
  .exact BO hm)
 have ee:=Gq v;rw[w] at ee;have VY:(AD.take k).flatten=AD.flatten.take (k*3):=(eS hr).symm;have f:(AD.drop (k+1)).flatten=AD.flatten.drop ((k+1)*3):=(Js hr).symm;obtain⟨TH,A,hcl⟩:∃TH,GF h 3 48 (.CC id 0 k 3) (if k+1<yx AD then .CC id ((k+1)*3) (yx AD-(k+1)) 3 else .sl 3 [])=zr (h.set id (zt ((Bg AD k).flatten++TH)),.CC id 0 (yx AD-1) 3)/\yx TH=3:=by
  have j:Hz h 3 (if k+1<yx AD then .CC id ((k+1)*3) (yx AD-(k+1)) 3 else .sl 3 [])=zr (AD.drop (k+1)):=by
   by_cases Re:k+1<yx AD;.rw[Af Re];have s:=eT hr (n:=yx AD-(k+1)) (off:=k+1) Ab;rw[AF (by rw[Bi];exact Ae _)] at s;simp only[Hz,BR,hc,s];rw[Af (by rw[Ti];omega)]
   .rw[Ac Re,AT Ab];rfl
  by_cases î:k+1=yx AD
  .refine⟨AD.flatten.drop (k*3),?_,by rw[Bi,Ti];omega⟩;have q:AD.drop (k+1)=[]:=AT Ab;rw[q] at j;have z:(Bg AD k).flatten++AD.flatten.drop (k*3)=AD.flatten:=by rw[Bg];rw[q,BB,VY,CJ]
   have D:h.set id (zt ((Bg AD k).flatten++AD.flatten.drop (k*3)))=h:=by rw[z];let⟨eH,C⟩:=Aq.1 hc;rw[<-C,Kj]
   simp only[GF,j,BR];rw[D,(Ab:yx AD-1=k)]
  .obtain⟨y,u,hd⟩:∃y u,AD.drop (k+1)=y::u:=⟨_,_,AG (Ab:k+1<yx AD)⟩;have lj:(y::u).length=yx AD-(k+1):=by rw[<-hd,Bi]
   refine⟨AD.flatten.drop ((yx AD-1)*3),?_,by rw[Bi,Ti];omega⟩;rw[hd] at j;simp only[GF,j,hc,BR];rw[lj,Af (by rw[Ti];omega)];rw[<-hd,f,B2,B2,(Ab:k+(yx AD-(k+1))=yx AD-1)];rw[Bg];rw[PR,VY,f]
 generalize d:h.set id (zt ((Bg AD k).flatten++TH))=h2 at A;have JH:h2[id]?=zr (zt ((Bg AD k).flatten++TH)):=by rw[<-d];exact AY IC
 have ah:((Bg AD k).flatten++TH).length=yx AD*3:=by rw[Aw,ee,hcl];omega
 have q:EF (.og 3 zd zd) h2 [.CC id 0 (yx AD-1) 3,I ((yx AD-1:Nat):Int),I (yx AD:Int)]=zr (h2,.CC id ((yx AD-1)*3) 1 3):=by
  simp only[EF,p9,JH];have E:FH (yx AD:Int) ((((Bg AD k).flatten++TH).length-0)/3)=zr (yx AD):=by rw[FH];rw[Af (by rw[ah];omega)];rfl
  have s:FH ((yx AD-1:Nat):Int) (yx AD)=zr (yx AD-1):=by rw[FH];rw[Af Ab];rfl
  rw[Af ⟨trivial,trivial,AV _⟩];simp only[Ep,E,s,CP,B6];rw[Af (by rw[ah];omega)];congr 3
  .omega
  .omega
 have B:EF (.clear 3 [I 0,S [],zx]) h2 [.CC id ((yx AD-1)*3) 1 3]=zr (h.set id (zt ((Bg AD k).flatten++[I 0,S [],zx])),zp zd):=by
  simp only[EF,Ym,JH];rw[Af ⟨trivial,rfl,by rw[ah];omega⟩];congr 2
  rw[<-d,vL];congr 2
  rw[Io ee,AT (by rw[ah];omega)];simp
 refine⟨[I 0,S [],zx],?_⟩;have g:∀i n,AA (.len zl) [.CC i 0 n 3]=zr (I (n:Int)):=λ_ _=>rfl;have z:EF (.v8 3) h [.CC id 0 (yx AD) 3,I (k:Int),I ((k+1:Nat):Int),I (yx AD:Int)]=zr (h,zp zd):=by simp only[EF,Yn];simp;omega
 simp only[Ad,nU,abS,g,z,(Ab:¬(k:Int)=((k+1:Nat):Int)),aB1 (id:=id) (Ab:0<AD.length) (Ab:k<=AD.length),aB2 (id:=id) (Ab:k+1<=AD.length),A,q,B]
def Un{z:Nat}:∀{AD:List (List Aa)} {cs UO:List Aa},(∀r∈AD,yx r=z)->CD (UO++(AD.flatten++cs)) z (yx UO) (yx AD)=AD
 |[],_,_,_=>rfl
 |x::AD,cs,UO,h=>by have hx:=h x AH;have:=Un (AD:=AD) (cs:=cs) (UO:=UO++x) (λr hr=>h r (by simp[hr]));simp[AK,Aw,hx] at this;simp only[Dt,Bn,CD,AK];rw[J1 rfl,Io hx,this]
def au{h:Ah}{id z:Nat}{AD:List (List Aa)}{cs:List Aa}(hr:∀r∈AD,yx r=z)(hc:h[id]?=zr (zt (AD.flatten++cs))):KY h (.CC id 0 (yx AD) z)=zr (h.set id .CU,.sl z AD):=by simp only[KY,hc,B2];have:=Un (cs:=cs) (UO:=[]) hr;simp[BY,BP] at this;rw[Af (by rw[Aw,Gq hr];omega),this]
def Gl(e:Cp)(at_ mk:Int)(anc far:Item)(last:Int):List Aa:=
 [I e.c.node,zb e.c.name,e.v,I at_,I mk,I anc.node,I anc.A7,zb anc.name,zp anc.NM,I far.node,I far.A7,zb far.name,zp far.NM,I last]
def Nx(ai bi:Nat)(G:Nat->Prop):Nat->Prop:=λi=>i=ai\/Bu bi G i
section
variable{h h':Ah}{bi a ai:Nat}{o c t:Aa}{G G' F:Nat->Prop}{b b':BS}{x:Int}{m:Nat}
variable{nm:Ai}{av:Aa}{l:List A9}{r:List Aa}{sp p:Int}{e:Cp}{at_ mk last:Int}{anc far:Item}
def Ff(x:Du h (Bu bi G) h' (Bu bi G'))(ai:Nat):Du h (Nx ai bi G) h' (Nx ai bi G'):=
 ⟨x.len,λi hi hn=>x.old i hi λhg=>hn (ze hg),λi hi=>by
  obtain hi|hi:=hi
  .exact zi (zi hi)
  .rcases x.Bu i hi with h|h
   .exact zi (ze h)
   .exact ze h⟩
def QT{k:Nat}{v:Aa}:Du h (Am.Nx ai bi G) (put h ai k v) (Am.Nx ai bi G):=⟨by rw[Jw];exact Ae _,λi _ hn=>Ce λe=>hn (zi e),λ_ h=> zi h⟩
def HV{id k:Nat}{v:Aa}{cs:List Aa}(hc:h[id]?=zr (zt cs)):(put h id k v)[id]?=zr (zt (cs.set k v)):=by rw[IM hc,AY (Aq.1 hc).1]
def down(k:Nat)(x:Int):Int:=if(k:Int)<x then x-1 else x
def lz(w:BX h bi a o c t G b)(hc:B4 b.AW c)(rm:B0 b m)(ha:h[ai]?=zr (zt (Gl e at_ mk anc far last)))(hn:¬Bu bi G ai){k:Nat}(hk:k<yx b.AW)(h1:0<=at_/\at_<=1000000000)(h2:0<=mk/\mk<=1000000000):
  ∃h' c',BK cx 330 [Pt ai 0,Pt bi 0,I (k:Int)] h (z8 []) h'/\BX h' bi a o c' t G {b with AW:=Bg b.AW k}/\B4 (Bg b.AW k) c'/\h'[ai]?=zr (zt (Gl e (down k at_) (down k mk) anc far last))/\Du h (Nx ai bi G) h' (Nx ai bi G):=by
 let⟨fs,Gp,hcs⟩:=hc;have Sk:=rm.AW;have HB:yx b.AW=yx fs:=by rw[<-Gp,Ao]
 have hne:fs≠[]:=by intro e;rw[HB,e] at hk;cases (Nat.not_lt_zero _) hk
 have bM:ai≠bi:=λe=>hn (zi e);have z:ai<yx h:=(Aq.1 ha).1;have C:=aGc (h:=h) hcs hne Ab;have hX:(h++[zm (fs.map zq).flatten])[yx h]?=zr (zt (fs.map zq).flatten):=AH;let⟨HJ,r2⟩:=aKJ (Pe fs) hX (k:=k) EP EP;rw[Ao] at r2;have e2:(h++[zm (fs.map zq).flatten]).set (yx h) (zt ((Bg (fs.map zq) k).flatten++HJ))=h++[zt ((Bg (fs.map zq) k).flatten++HJ)]:=by rw[BV _ _ (Ae _),Dl];rfl
 rw[e2] at r2;generalize A:h++[zm ((Bg (fs.map zq) k).flatten++HJ)]=H at r2;have w1:BX H bi a o c t G b:=by rw[<-A];exact w.HY
 have cD:H[ai]?=zr (zt (Gl e at_ mk anc far last)):=by rwa[<-A,Ak z]
 have Q:H[yx h]?=zr (zt ((Bg (fs.map zq) k).flatten++HJ)):=by rw[<-A];simp
 have hL:yx H=yx h+1:=by rw[<-A];simp
 have Z:Du h (Nx ai bi G) H (Nx ai bi G):=by rw[<-A];exact Ff w.C3 ai
 have s:bi≠yx h:=P3 w.lt;have VV:ai≠yx h:=P3 z;have B:=w1.st (k:=3) (v:= .CC (yx h) 0 (yx fs-1) 3) (v0:=c) rfl rfl;have w2:=w1.KC (u:= .CC (yx h) 0 (yx fs-1) 3) (l:=b.AW);have PV:(put H bi 3 (.CC (yx h) 0 (yx fs-1) 3))[ai]?=zr (zt (Gl e at_ mk anc far last)):=by rwa[Ce bM]
 have P:(put H bi 3 (.CC (yx h) 0 (yx fs-1) 3))[yx h]?=zr (zt ((Bg (fs.map zq) k).flatten++HJ)):=by rwa[Ce (DY s)]
 have Y:Du h (Nx ai bi G) (put H bi 3 (.CC (yx h) 0 (yx fs-1) 3)) (Nx ai bi G):=Z.trans (Ff Bd ai);generalize R:put H bi 3 (.CC (yx h) 0 (yx fs-1) 3)=f at*;have hL2:yx f=yx h+1:=by rw[<-R,Jw,hL]
 have t3:At f ai 3 (I at_):=⟨_,PV,rfl⟩;have xM:=HV (k:=3) (v:= I (down k at_)) PV;have E:put f ai 3 (I (down k at_))=if(k:Int)<at_ then put f ai 3 (I (at_-1)) else f:=by
  rw[down];split;.rfl
  .exact t3.same
 have w3:BX (put f ai 3 (I (down k at_))) bi a o _ t G _:=w2.Dj λj hj=>Ce λe=>hn (e▸hj);have O:(put f ai 3 (I (down k at_)))[yx h]?=_:=(Ce (DY VV)).trans P;have X:=Y.trans (QT (k:=3) (v:= I (down k at_)));generalize hH3:put f ai 3 (I (down k at_))=d at*;have t4:At d ai 4 (I mk):=⟨_,xM,rfl⟩;have M:=HV (k:=4) (v:= I (down k mk)) xM;have q:put d ai 4 (I (down k mk))=if(k:Int)<mk then put d ai 4 (I (mk-1)) else d:=by
  rw[down];split;.rfl
  .exact t4.same
 have T:BX (put d ai 4 (I (down k mk))) bi a o _ t G _:=w3.Dj λj hj=>Ce λe=>hn (e▸hj);have N:(put d ai 4 (I (down k mk)))[yx h]?=_:=(Ce (DY VV)).trans O;have J:=X.trans (QT (k:=4) (v:= I (down k mk)));generalize hH4:put d ai 4 (I (down k mk))=S at*;have L:∀r∈Bg (fs.map zq) k,yx r=3:=λr hm=>Pe fs r (by
  rw[Bg] at hm;obtain hm|hm:=Ay.1 hm
  .exact BJ hm
  .exact BO hm)
 have f4:=au L N;rw[HI EP,Ao] at f4;have D:=QS T.tQ f4 (by rw[Au (DY s)]);have w5:BX (S.set (yx h) .CU) bi a o _ t G {b with AW:=b.AW}:=T.Dj λj hj=>Au λe=>by
  subst e;obtain hj|hj:=hj
  .exact s hj.symm
  .cases (DF _) (w.w.lt hj)
 have ed:Bg (fs.map zq) k=(Bg fs k).map zq:=by unfold Bg;rw[BL,FM,IP]
 have ec:(Bg fs k).map (·.c)=Bg b.AW k:=by unfold Bg;rw[BL,FM,IP,Gp]
 refine⟨_,.sl 3 (Bg (fs.map zq) k),?_,w5.KC (l:=Bg b.AW k),⟨Bg fs k,ec,by rw[ed];exact .mk⟩,?_,?_⟩
 .have i:A5 f zf (Pt ai 3)=zr (I at_):=t3.load;have g:A5 d zf (Pt ai 4)=zr (I mk):=t4.load;have inc:=By k;have W:=C0 at_ 1;have V:=C0 mk 1;rw[Ad,mP];by_cases y:(k:Int)<at_
  .rw[Af y] at E;have U:Cy f 1 (Pt ai 3) (I (at_-1))=zr d:=by rw[E];exact t3.store rfl
   by_cases n:(k:Int)<mk
   .rw[Af n] at q;have K:Cy d 1 (Pt ai 4) (I (mk-1))=zr S:=by rw[q];exact t4.store rfl
    simp only[abS,w.l3,C,inc,r2,B,i,y,W,U,g,n,V,K,D]
   .rw[Ac n] at q;subst q;simp only[abS,w.l3,C,inc,r2,B,i,y,W,U,g,n,D]
  .rw[Ac y] at E;subst E;by_cases n:(k:Int)<mk
   .rw[Af n] at q;have K:Cy d 1 (Pt ai 4) (I (mk-1))=zr S:=by rw[q];exact t4.store rfl
    simp only[abS,w.l3,C,inc,r2,B,i,y,g,n,V,K,D]
   .rw[Ac n] at q;subst q;simp only[abS,w.l3,C,inc,r2,B,i,y,g,n,D]
 .rw[Ce bM,Au (DY VV),M];rfl
 .refine Du.trans ⟨by rw[Br];exact J.len,λj hj hn=>?_,J.Bu⟩ (Ff Bd ai);rw[Au Ab];exact J.old j hj hn
end
section
variable{U:Type}{q:U->Bool}{l:List U}
def Na{p:Nat}(hp:p<yx l)(h1:q l[p]=zd)(h2:∀j (hj:j<yx l),p<j->q l[j]=zl):AZ q l=(p:Int):=by
 rcases Dy (q:=q) (l:=l) with⟨e,h⟩|⟨n,hn,e,d,f⟩
 .rw[h _ (AN hp)] at h1;cases Bf h1
 .rcases Nat.lt_trichotomy n p with h|h|h
  .have:=f p hp h;rw[this] at h1;cases Bf h1
  .rw[e,h]
  .have:=h2 n hn h;rw[this] at d;cases Bf d
def Jg{p:Nat}(e:AZ q l=(p:Int)):∃hp:p<yx l,q l[p]=zd/\∀j (hj:j<yx l),p<j->q l[j]=zl:=by
 rcases Dy (q:=q) (l:=l) with⟨g,h⟩|⟨n,hn,g,f,d⟩
 .omega
 .have:n=p:=by omega
  subst this;exact⟨hn,f,λj hj h=>d j hj h⟩
def tX{k j:Nat}(hk:k<yx l):(Bg l k)[j]?=if j<k then l[j]? else l[j+1]?:=by
 rw[Bg];by_cases h:j<k;.rw[Af h,Ak (by rw[Ax];omega),Ci,Af h]
 .rw[Ac h,Bz (by rw[Ax];omega),Cu];congr 1
  rw[Ax];omega
def Po{k j:Nat}(hk:k<yx l)(hj:j<(Bg l k).length):(Bg l k)[j]=if h:j<k then l[j]'(by omega) else l[j+1]'(by rw[HI hk] at hj;omega):=by
 have hl:=HI hk;have:=tX (j:=j) hk;rw[An hj] at this;by_cases h:j<k;.rw[dif_pos h];rw[Af h,An Ab] at this;exact EA this
 .rw[dif_neg h];rw[Ac h,An Ab] at this;exact EA this
def oV{p k:Nat}(e:AZ q l=(p:Int))(hk:k<yx l)(hne:k≠p):AZ q (Bg l k)=down k p:=by
 let⟨hp,h1,h2⟩:=Jg e;have hl:=HI hk;rw[down];by_cases d:k<p
 .rw[Af Ab,(Ab:(p:Int)-1=((p-1:Nat):Int))];refine Na Ab ?_ ?_;.rw[Po hk,dif_neg Ab];have:p-1+1=p:=Ab;simp[this,h1]
  .intro j hj h;rw[Po hk,dif_neg Ab];exact h2 _ _ Ab
 .rw[Ac Ab];refine Na Ab ?_ ?_;.rw[Po hk,dif_pos Ab];exact h1
  .intro j hj h;rw[Po hk];split;.exact h2 _ _ h
   .exact h2 _ _ Ab
def tY{p k:Nat}{x:U}(e:AZ q l=(p:Int))(hne:k≠p)(hx:q x=zl):AZ q (l.set k x)=(p:Int):=by
 let⟨hp,h1,h2⟩:=Jg e;refine Na (by rwa[Br]) ?_ ?_;.rw[List.getElem_set_ne hne];exact h1
 .intro j hj h;rw[List.getElem_set];split;.exact hx
  .rw[Br] at hj;exact h2 j hj h
end
def oW{l:List Item}(hn:(l.map z7).Nodup){i:Nat}(hi:i<yx l):AZ (BE l[i].node) l=(i:Int):=by
 refine Na hi (by simp[BE]) λj hj h=>?_;by_cases he:l[i].node=l[j].node
 .have h2:(l.map z7)[i]'(zv hi)=(l.map z7)[j]'(zv hj):=zv he
  cases (List.pairwise_iff_getElem.1 hn i j (zv hi) (zv hj) h) h2
 .unfold BE;simpa using λe=>he e.symm
section
variable{n:Int}{l:List B5}
def GZ(h:0<=D8 n l):∃p:Nat,∃hp:p<yx l,D8 n l=(p:Int)/\n≠0/\l[p].node=n/\AZ (ZE n) l=(p:Int):=by
 rw[D8] at h⊢;split at h;.omega
 next h0=>rw[Ac h0];obtain⟨p,hp⟩:∃p:Nat,AZ (ZE n) l=(p:Int):=⟨_,(E3 h).symm⟩;let⟨h1,h2,_⟩:=Jg hp;exact⟨p,h1,hp,h0,by simpa[ZE] using h2,hp⟩
def fM{k:Nat}(h:0<=D8 n l)(hk:k<yx l)(hne:l[k].node≠n):D8 n (Bg l k)=down k (D8 n l):=by let⟨p,hp,e,h0,h1,h2⟩:=GZ h;rw[e,<-oV h2 hk (by rintro rfl;exact hne h1)];rw[D8];rw[Ac h0]
def tZ{k:Nat}{x:B5}(h:0<=D8 n l)(hk:k<yx l)(hne:l[k].node≠n)(hx:x.node≠n):D8 n (l.set k x)=D8 n l:=by let⟨p,hp,e,h0,h1,h2⟩:=GZ h;rw[e,<-tY (x:=x) (k:=k) h2 (by rintro rfl;exact hne h1) (by simp[ZE];exact hx)];rw[D8];rw[Ac h0]
def ub(hn:((l.map B5.node).filter λn=>decide (n≠0)).Nodup)(h:0<=D8 n l):D8 n (Bg l (D8 n l).toNat)<0:=by
 let⟨p,hp,e,h0,h1,h2⟩:=GZ h;rw[e,A3];refine Int.not_le.1 λi=>?_;let⟨g,f,j,_,d,_⟩:=GZ i;have:l=l.take p++l[p]::l.drop (p+1):=by rw[<-AG hp,CJ]
 rw[this,BL,Bm,Fx,HM,Af (by simpa[h1] using h0),CO,Cl] at hn;have hm:=AN f;generalize(Bg l p)[g]=y at hm d;rw[Bg] at hm;obtain hm|hm:=Ay.1 hm
 .exact hn.2.2 y.node (Gc.2 ⟨PT hm,by simpa[d] using h0⟩) l[p].node AH (by rw[d,h1])
 .exact hn.2.1.1 (Gc.2 ⟨by rw[h1,<-d];exact PT hm,by simpa[h1] using h0⟩)
end
section
variable{h h':Ah}{bi a ai:Nat}{o c t:Aa}{G G' F:Nat->Prop}{b b':BS}{x:Int}{m:Nat}
variable{nm:Ai}{av:Aa}{l:List A9}{r:List Aa}{sp p:Int}{e:Cp}{at_ mk last:Int}{anc far:Item}
def Pp{blk anc:Int}{far i:Nat}{l:Int}{mk m:Nat}(r:B0 b (m+4)):B0 (z0 blk anc far i b l mk).1 m:=by
 rw[z0];simp only
 split;.exact(r.le Ab).sub rfl Dg (A4 _) (Ae _)
 .split;.exact(r.le Ab).sub rfl Dg Dg (Ae _)
  .rename_i he _;let⟨p,hp,f,_,_,_⟩:=GZ (JR.1 he);rw[f,A3,AS,An hp,FE];have K6:=r.DL _ (AN hp);have d:=JB (m:=m+1) (nm:=b.AW[p].name) (l:=b.AW[p].Aj) (sp:=1) (p:=anc) (r.le Ab) K6.2;have r2:=(d.le (m':=m) Ab).JA (Ku (p:=(b.Hb b.AW[p].name b.AW[p].Aj 1).node) (x:=l) (bf:=0));refine⟨r2.n,r2.at_,r2.data,by simp[Br];exact r2.AI,by simp[Br];exact r2.AW,r2.tm,λe he=>?_,λi hi=>?_⟩
   .rcases DK he with he|rfl
    .exact r2.DL e he
    .exact K6
   .rcases DK hi with hi|rfl
    .exact r2.Xe i hi
    .exact OE K6.1
end
def VD{A:Ar}{x p bf:Int}(h:(A.nd p).kind=4):A.ES x p bf=A.Gs p x bf:=by rw[Ar.ES];rw[Ac (by rw[h];intro h;cases Bf h.1)]
section
variable{h h':Ah}{bi a ai:Nat}{o c t:Aa}{G G' F:Nat->Prop}{b b':BS}{x:Int}{m:Nat}
variable{nm:Ai}{av:Aa}{l:List A9}{r:List Aa}{sp p:Int}{e:Cp}{at_ mk last:Int}{anc far:Item}
def B4.at(hc:B4 b.AW c)(w:BX h bi a o c t G b)(rm:B0 b m)(n:Int):BK cx 187 [Pt bi 3,I n] h (I (D8 n b.AW)) h:=by let⟨fs,Gp,hv⟩:=hc;have ha:=rm.AW;have:=f41 w.tQ hv (by rw[<-Gp,Ao] at ha;omega) n;rwa [Uj,Gp] at this
structure uA(h:Ah)(bi a ai:Nat)(t:Aa)(G0:Nat->Prop)(fe:Cp)(anc far:Item)(k N m:Nat)(s0:BS×Int×Nat)(n:Nat)(h1:Ah)(o c:Aa)(G:Nat->Prop)(s:BS×Int×Nat):Prop where
 le:n<=N
 w:BX h1 bi a o c t G s.1
 hc:B4 s.1.AW c
 ok:ET s.1
 rm:B0 s.1 (m+4*n)
 last:s.1.a.has s.2.1
 st:h1[ai]?=zr (zt (Gl fe (D8 fe.c.node s.1.AW) (s.2.2:Int) anc far s.2.1))
 hn:¬Bu bi G ai
 x:Du h (Nx ai bi G0) h1 (Nx ai bi G)
 XB:0<=D8 fe.c.node s.1.AW
 mkb:s.2.2<=1000000000
 AI:s.1.AI.take (k+n+1)=s0.1.AI.take (k+n+1)
 len:k+n+1<=s.1.AI.length
 eq:yz far.node anc.node (k+1+N) k N s0=yz far.node anc.node (k+1+N) k n s
 fe:s.1.a.has fe.c.node
def fN{blk anc:Int}{far i:Nat}{l:Int}{mk:Nat}(hi:i<yx b.AI):(z0 blk anc far i b l mk).1.AI.take i=b.AI.take i/\i<=(z0 blk anc far i b l mk).1.AI.length:=by
 have h1:(Bg b.AI i).take i=b.AI.take i/\i<=(Bg b.AI i).length:=by refine⟨?_,by rw[HI hi];omega⟩;rw[Bg];rw[C6 (by rw[Ax];omega),Fj,Nat.min_self]
 rw[z0];simp only
 split;.exact h1
 .split;.exact h1
  .have OQ:∀nm l p,(b.Ex nm l 1 p).AI=b.AI:=λnm l p=>by rw[zc];rw[Af Kn]
   simp only[OQ];exact⟨PQ (Ae i),by rw[Br];omega⟩
def uA.step{h1 h2:Ah}{C D A z:Aa}{B u:Nat->Prop}{fe:Cp}{k N n:Nat}{s0 s s':BS×Int×Nat}(i:uA h bi a ai t G fe anc far k N m s0 (n+1) h1 C D B s)(e:s'=z0 far.node anc.node (k+1+N) (k+(n+1)) s.1 s.2.1 s.2.2)
  (w:BX h2 bi a A z t u s'.1) (hc:B4 s'.1.AW z) (st:h2[ai]?=zr (zt (Gl fe (D8 fe.c.node s'.1.AW) (s'.2.2:Int) anc far s'.2.1))) (hn:¬Bu bi u ai) (x:Du h1 (Nx ai bi B) h2 (Nx ai bi u)) (XB:0<=D8 fe.c.node s'.1.AW) (mk:s'.2.2<=1000000000):
  uA h bi a ai t G fe anc far k N m s0 n h2 A z u s':=by
 let⟨g,last',j⟩:=ZL (blk:=far.node) (anc:=anc.node) (far:=k+1+N) (i:=k+(n+1)) (m:=s.2.2) i.ok i.last;have hl:=i.len;let⟨f,v⟩:=fN (blk:=far.node) (anc:=anc.node) (far:=k+1+N) (i:=k+(n+1)) (l:=s.2.1) (mk:=s.2.2) (b:=s.1) Ab;have d:=Pp (blk:=far.node) (anc:=anc.node) (far:=k+1+N) (i:=k+(n+1)) (l:=s.2.1) (mk:=s.2.2) (m:=m+4*n) (i.rm.le Ab);have OQ:=i.AI;have y:yz far.node anc.node (k+1+N) k (n+1) s=yz far.node anc.node (k+1+N) k n (z0 far.node anc.node (k+1+N) (k+(n+1)) s.1 s.2.1 s.2.2):=rfl;have q:=i.eq.trans y;rw[<-e] at g last' j f v d q;refine⟨by have:=i.le;omega,w,hc,g,d,last',st,hn,i.x.trans x,XB,mk,?_,Ab,q,j.has _ i.fe⟩;have:=Cj (λl=>l.take (k+(n+1))) OQ;simp only[Fj] at this;rw[(Ab:k+n+1=k+(n+1)),f];rwa [Ct Ab] at this
def aKP{fe:Cp}{k N:Nat}{s0:BS×Int×Nat}(i0:uA h bi a ai t G fe anc far k N m s0 N h o c G s0)(bQ:1<=k)(Re:AZ (BE fe.c.node) s0.1.AI=(k:Int))(hN:k+1+N<s0.1.AI.length):
  ∃h' o' c' G' s',BK cx 333 [Pt bi 0,Pt ai 0,I (k:Int),I ((k+1+N:Nat):Int)] h (z8 []) h'/\s'=yz far.node anc.node (k+1+N) k N s0/\uA h bi a ai t G fe anc far k N m s0 0 h' o' c' G' s':=by
 have ho:=i0.rm.AI;have IJ:Ev cx 333 [Pt bi 0,Pt ai 0,I (k:Int),I ((k+1+N:Nat):Int)] h λr h'=>r= z8 []/\∃o' c' G' s',s'=yz far.node anc.node (k+1+N) k N s0/\uA h bi a ai t G fe anc far k N m s0 0 h' o' c' G' s':=by
  unfold Ev;rw[mS];have i1:=TS (a:=((k+1+N:Nat):Int)) (b:=1) Ab Ab;rw[(Ab:((k+1+N:Nat):Int)-1=((k+N:Nat):Int))] at i1;simp only[BD,i1];refine Bj (λn:Nat=>[I ((N-n:Nat):Int),I ((k+n:Nat):Int)]) (λn h1=>∃o c G1 s,uA h bi a ai t G fe anc far k N m s0 n h1 o c G1 s) (λn=>n) N (by rw[Dl];rfl) ⟨o,c,_,s0,i0⟩ ?_;rintro n h1 ⟨o1,c1,G1,s,i⟩;cases n with
  |zero=>simp only[abS,↓reduceIte,(Ab:¬(k:Int)<(k:Int))];exact⟨_,rfl,rfl,o1,c1,G1,s,i.eq.symm,i⟩
  |succ n=>
   have hnN:=i.le;have hlen:=i.len;have fO:k+(n+1)<s.1.AI.length:=Ab;have hwo:=i.rm.AI;have hwa:=i.rm.AW;have bM:ai≠bi:=λe=>i.hn (.inl e);have hai:ai<h1.length:=(Aq.1 i.st).1;have K:=Xh i.w.sA ((k+(n+1):Nat):Int);rw[FG fO] at K;have U:=oW i.ok.Ľ fO;have hxf:s.1.AI[k+(n+1)].node≠fe.c.node:=by have h2:=Cj (λl=>l[k+(n+1)]?) i.AI;simp only[Ci] at h2;rw[Af Ab,Af Ab,An fO,An Ab] at h2;obtain⟨_,_,L⟩:=Jg Re;have g:=L (k+(n+1)) Ab Ab;rw[EA h2];intro h5;unfold BE at g;rw[h5] at g;simp at g
   have Yg:s.1.AI.getD (k+(n+1)) zy=s.1.AI[k+(n+1)]:=by rw[AS,An fO];rfl
   generalize s.1.AI[k+(n+1)]=x at*;have r2:=i.hc.at i.w i.rm x.node;obtain⟨q,hq,tr,hq0,hq2,hq3⟩:=GZ i.XB;have inc:AA (.int .add) [I ((N-(n+1):Nat):Int),I 1]=zr (I ((N-n:Nat):Int)):=by have:=Vg (n:=N-(n+1)) Ab;rwa [(Ab:N-(n+1)+1=N-n)] at this
   have dec:AA (.int .sub) [I ((k+(n+1):Nat):Int),I 1]=zr (I ((k+n:Nat):Int)):=by have:=IK (n:=k+(n+1)) Ab Ab;rwa [(Ab:k+(n+1)-1=k+n)] at this
   have we:(k:Int)<((k+(n+1):Nat):Int):=Ab;have V:∀l:List Item,l=s.1.AI->CN x.node l=Bg l (k+(n+1)):=by intro l e;subst e;unfold CN;rw[U,Ac Ab,A3]
   by_cases he:D8 x.node s.1.AW<0
   .obtain⟨u,B,hu⟩:=aBK i.w.sO Ab x.node;rw[V _ rfl] at hu;have y:=i.w.H5 hu;have es:({s.1 with AI:=Bg s.1.AI (k+(n+1))},s.2.1,s.2.2)=z0 far.node anc.node (k+1+N) (k+(n+1)) s.1 s.2.1 s.2.2:=by unfold BS.FJ;simp only[Yg];rw[Af he]
    have D:=i.step es y i.hc ((Ce bM).trans i.st) i.hn (Ff Bd ai) i.XB i.mkb;by_cases Ob:(3:Int)<((N-n:Nat):Int);.simp only[abS,↓reduceIte,ER,we,K,inc,r2,Ob,he,(Ab:¬(0:Int)<=D8 x.node s.1.AW),B,dec];exact AJ.next n rfl ⟨_,_,_,_,D⟩ Ab
    .simp only[abS,↓reduceIte,ER,we,K,inc,r2,Ob,he,B,dec];exact AJ.next n rfl ⟨_,_,_,_,D⟩ Ab
   .obtain⟨p,hp,ep,Ov,cT,hp3⟩:=GZ (JR.1 he);have Et:(0:Int)<=(p:Int):=Ab;rw[ep] at r2;have W:s.1.AW[p].node≠fe.c.node:=by rw[cT];exact hxf
    have E:(D8 x.node s.1.AW).toNat=p:=by rw[ep,A3]
    by_cases Ob:(3:Int)<((N-n:Nat):Int)
    .obtain⟨h2,c2,B,y,JH,C,H⟩:=lz i.w i.hc i.rm i.st i.hn hp ⟨i.XB,Ab⟩ ⟨Ab,by have:=i.mkb;omega⟩;have Ww:B0 {s.1 with AW:=Bg s.1.AW p} (m+4*(n+1)):=i.rm.sub rfl (A4 _) Dg (Ae _);have r4:=B4.at (b:={s.1 with AW:=Bg s.1.AW p}) JH y Ww x.node;have e_:D8 x.node (Bg s.1.AW p)<0:=by have:=ub (n:=x.node) i.ok.sr (JR.1 he);rwa [E] at this
     obtain⟨u,r5,hu⟩:=aBK y.sO DA x.node;rw[V _ rfl] at hu;have M:=y.H5 hu;have ÿ:(((if p<s.2.2 then s.2.2 -1 else s.2.2:Nat)):Int)=down p (s.2.2:Int):=by unfold down;split<;>split<;>omega
     have es:({s.1 with AW:=Bg s.1.AW p,AI:=Bg s.1.AI (k+(n+1))},s.2.1,if p<s.2.2 then s.2.2 -1 else s.2.2)=z0 far.node anc.node (k+1+N) (k+(n+1)) s.1 s.2.1 s.2.2:=by unfold BS.FJ;simp only[Yg];rw[Ac he,Af (Ab:k+(n+1)+3<k+1+N),E]
     have aKQ:=fM i.XB hp W;have hd0:0<=down p (D8 fe.c.node s.1.AW):=by unfold down;split<;>omega
     have D:=i.step es M JH (by rw[Ce bM,C];simp only;rw[aKQ,ÿ]) i.hn (H.trans (Ff Bd ai)) (by simp only;rw[aKQ];exact hd0) (by have:=i.mkb;simp only;split<;>omega);simp only[abS,↓reduceIte,ER,we,K,inc,r2,Ob,Et,B,r4,e_,r5,dec];exact AJ.next n rfl ⟨_,_,_,_,D⟩ Ab
    .obtain⟨fs,Gp,hv⟩:=i.hc;have HB:s.1.AW.length=fs.length:=by rw[<-Gp,Ao]
     have aGv:p<fs.length:=Ab;have Z:fs[p].c=s.1.AW[p]:=by simp only[<-Gp,CR]
     have l3:=i.w.l3;have e1:=AX.BG (k:= .i64) hv aGv;have l5:A5 h1 zf (Pt ai 5)=zr (I anc.node):=zj ⟨_,i.st,rfl⟩;obtain⟨r,B,hr⟩:=ý fs[p] h1;have K6:=i.rm.DL _ (AN hp);rw[<-Z] at K6;obtain⟨h2,G2,r4,y,H⟩:=ô (m:=m+4*n) i.w i.ok.ba (i.rm.le Ab) hr fs[p].ok K6.2 K6.1 anc.node 1;obtain⟨õ,f,le2⟩:=QP (nm:=fs[p].c.name) (at_:=fs[p].c.Aj) (p:=anc.node) i.ok Kn;have Ww:=JB (m:=m+4*n+1) (nm:=fs[p].c.name) (l:=fs[p].c.Aj) (sp:=1) (p:=anc.node) (i.rm.le Ab) K6.2;have OQ:(s.1.Ex fs[p].c.name fs[p].c.Aj 1 anc.node).AI=s.1.AI:=by unfold BS.Ex;rw[Af Kn]
     have Sk:(s.1.Ex fs[p].c.name fs[p].c.Aj 1 anc.node).AW=s.1.AW:=by unfold BS.Ex;rw[Af Kn]
     have Y:z0 far.node anc.node (k+1+N) (k+(n+1)) s.1 s.2.1 s.2.2=({s.1.Ex fs[p].c.name fs[p].c.Aj 1 anc.node with a:=(s.1.Ex fs[p].c.name fs[p].c.Aj 1 anc.node).a.Gs (s.1.Hb fs[p].c.name fs[p].c.Aj 1).node s.2.1 0,AI:=(s.1.Ex fs[p].c.name fs[p].c.Aj 1 anc.node).AI.set (k+(n+1)) (s.1.Hb fs[p].c.name fs[p].c.Aj 1),AW:=(s.1.Ex fs[p].c.name fs[p].c.Aj 1 anc.node).AW.set p {fs[p].c with node:=(s.1.Hb fs[p].c.name fs[p].c.Aj 1).node}},(s.1.Hb fs[p].c.name fs[p].c.Aj 1).node,if s.2.1=far.node then p+1 else s.2.2):=by unfold BS.FJ;simp only[Yg];rw[Ac he,Ac Ab,E,AS,An hp,FE,<-Z]
     have d_:=OC i.ok f;have hna:=Rx i.ok f;have hnf:(s.1.Hb fs[p].c.name fs[p].c.Aj 1).node≠fe.c.node:=λe2=>f.new (by rw[e2];exact i.fe);have aPP:=le2.has _ i.last;have aGw:(s.1.Hb fs[p].c.name fs[p].c.Aj 1).name.length<=1000:=OE K6.1;generalize s.1.Hb fs[p].c.name fs[p].c.Aj 1=d at*;generalize s.1.Ex fs[p].c.name fs[p].c.Aj 1 anc.node=b2 at*;have Tf:¬Bu bi G2 ai:=λhg=>by
      obtain hg|hg:=H.Bu ai hg
      .exact i.hn hg
      .omega
     have C:h2[ai]?=_:=(H.old ai hai i.hn).trans i.st;obtain⟨J,O,r5,PU⟩:=aO5 y.sO (by have:=Ww.AI;omega) x.node d;have aB3:QI x.node d b2.AI=b2.AI.set (k+(n+1)) d:=by unfold QI;rw[OQ,U,Ac Ab,A3]
     rw[aB3] at PU;have M:=(y.H5 PU).HY (u:=O);have x3:Du h1 (Nx ai bi G1) (put h2 bi 2 J++O) (Nx ai bi G2):=(Ff H ai).trans (Ff (Bd.trans (y.H5 PU).C3) ai);have ai2:ai<h2.length:=by have:=H.len;omega
     have st3:(put h2 bi 2 J++O)[ai]?=_:=(Ak (by rw[Jw];exact ai2)).trans ((Ce bM).trans C);have ai3:ai<(put h2 bi 2 J++O).length:=by rw[Aw,Jw];omega
     generalize put h2 bi 2 J++O=L at*;have aPQ:=(K6.2).1;obtain⟨A,t2,e2,he2,r6,Ja⟩:=aPf (h:=L) (id:=bi) (o:=3) (l:=fs) ⟨c1,M.tQ,hv⟩ Ab x.node (e:=⟨{fs[p].c with node:=d.node},fs[p].v,fs[p].ok⟩) (by unfold bN;simp only;omega);have hei:HT x.node fs=(p:Int):=by rw[Uj,Gp,ep]
     rw[hei,Ac Ab,A3] at Ja;have w4:=(M.KC (u:=A) (l:=b2.AW.set p {fs[p].c with node:=d.node})).HY (u:=t2);have hc4:B4 (b2.AW.set p {fs[p].c with node:=d.node}) A:=⟨_,by rw[EI,Gp,he2,Sk],Ja⟩;have x4:=x3.trans (Ff ((Bd (k:=3) (v:=A)).trans (BX.C3 (u:=t2) (M.KC (u:=A) (l:=b2.AW.set p {fs[p].c with node:=d.node})))) ai);have z:(put L bi 3 A++t2)[ai]?=_:=(Ak (by rw[Jw];exact ai3)).trans ((Ce bM).trans st3);generalize put L bi 3 A++t2=g at*;have ok3:=õ.yX (i:=d) (k:=k+(n+1)) ⟨f.has,f.kind,f.A7,f.name⟩ (by rw[OQ];exact d_);have wc:=ok3.yY (e:={fs[p].c with node:=d.node}) (k:=p) ⟨f.has,f.kind⟩ (by simp only[Sk];exact hna);have rm4:B0 {b2 with AI:=b2.AI.set (k+(n+1)) d,AW:=b2.AW.set p {fs[p].c with node:=d.node}} (m+4*n+1):=by
      refine⟨Ww.n,Ww.at_,Ww.data,by simp only[Br];exact Ww.AI,by simp only[Br];exact Ww.AW,Ww.tm,λe he=>?_,λi hi=>?_⟩
      .rcases DK he with he|rfl
       .exact Ww.DL e he
       .exact K6
      .rcases DK hi with hi|rfl
       .exact Ww.Xe i hi
       .exact aGw
     have S:A5 g zf (Pt ai 13)=zr (I s.2.1):=zj ⟨_,z,rfl⟩;have l9:A5 g zf (Pt ai 9)=zr (I far.node):=zj ⟨_,z,rfl⟩;have t4:At g ai 4 (I (s.2.2:Int)):=⟨_,z,rfl⟩;obtain⟨VE,Xo⟩:∃VE:Nat,VE=if s.2.1=far.node then p+1 else s.2.2:=⟨_,rfl⟩
     have e5:put g ai 4 (I (VE:Int))=if s.2.1=far.node then put g ai 4 (I ((p+1:Nat):Int)) else g:=by
      rw[Xo];split;.rfl
      .exact t4.same
     have Q:=HV (k:=4) (v:= I (VE:Int)) z;have w5:BX (put g ai 4 (I (VE:Int))) bi a J A t G2 {b2 with AI:=b2.AI.set (k+(n+1)) d,AW:=b2.AW.set p {fs[p].c with node:=d.node}}:=w4.Dj λj hj=>Ce λe=>Tf (e▸hj);have x5:=x4.trans (QT (k:=4) (v:= I (VE:Int)));have ai5:ai<(put g ai 4 (I (VE:Int))).length:=by have:=x5.len;omega
     have t5:A5 (put g ai 4 (I (VE:Int))) zf (Pt ai 13)=zr (I s.2.1):=zj ⟨_,Q,rfl⟩;generalize hh5:put g ai 4 (I (VE:Int))=h5 at*;obtain⟨h6,G6,r7,w6,x6⟩:=tR (x:=s.2.1) (p:=d.node) (bf:=0) w5 wc.ba rm4;rw[VD (by exact f.kind)] at w6;have X:¬Bu bi G6 ai:=λhg=>by
      obtain hg|hg:=x6.Bu ai hg
      .exact Tf hg
      .omega
     have P:h6[ai]?=_:=(x6.old ai ai5 Tf).trans Q;have t6:At h6 ai 13 (I s.2.1):=⟨_,P,rfl⟩;have st7:=HV (k:=13) (v:= I d.node) P;have w7:BX (put h6 ai 13 (I d.node)) bi a J A t G6 _:=w6.Dj λj hj=>Ce λe=>X (e▸hj);have x7:=(x5.trans (Ff x6 ai)).trans (QT (k:=13) (v:= I d.node));have aE:D8 fe.c.node (b2.AW.set p {fs[p].c with node:=d.node})=D8 fe.c.node s.1.AW:=by rw[Sk];exact tZ i.XB hp W hnf
     rw[<-Xo] at Y;have D:=i.step Y.symm w7 hc4 (by simp only;rw[st7,aE];rfl) X x7 (by simp only;rw[aE];exact i.XB) (by simp only;rw[Xo];have:=i.mkb;split<;>omega);have ax:fs[p].v.cells=[fs[p].v]:=z2 fs[p].ok;have T:=By p;have R:BK cx 407 [Pt bi 3,I x.node,.agg [I d.node,.str fs[p].c.name,fs[p].v]] L (.bool (decide (0<=HT x.node fs))) g:=r6;rw[zq] at e1 B;by_cases Ti:s.2.1=far.node
     .rw[Af Ti] at e5;have s5:Cy g 1 (Pt ai 4) (I ((p+1:Nat):Int))=zr h5:=by rw[e5];exact t4.store rfl
      simp only[abS,Nat.reduceLeDiff,↓reduceIte,AQ,ER,we,K,inc,r2,Ob,Et,(Ab:¬(p:Int)<0),l3,e1,l5,B,BN,r4,r5,ax,R,S,l9,AE Ti,T,s5,t5,r7,t6.store (u:= I d.node) rfl,dec];exact AJ.next n rfl ⟨_,_,_,_,D⟩ Ab
     .rw[Ac Ti] at e5;subst e5;simp only[abS,Nat.reduceLeDiff,↓reduceIte,AQ,ER,we,K,inc,r2,Ob,Et,(Ab:¬(p:Int)<0),l3,e1,l5,B,BN,r4,r5,ax,R,S,l9,Ti,r7,t6.store (u:= I d.node) rfl,dec];exact AJ.next n rfl ⟨_,_,_,_,D⟩ Ab
 obtain⟨r,h',hr,rfl,o',c',G',s',e',i'⟩:=IJ.ret;exact⟨h',o',c',G',s',hr,e',i'⟩
end
section
variable{h h':Ah}{bi a ai:Nat}{o c t:Aa}{G G' F:Nat->Prop}{b b':BS}{x:Int}{m:Nat}
variable{nm:Ai}{av:Aa}{l:List A9}{r:List Aa}{sp p:Int}{e:Cp}{at_ mk last:Int}{anc far:Item}
def B4.find(hc:B4 b.AW c)(w:BX h bi a o c t G b)(rm:B0 b m)(nm:Ai):BK cx 329 [Pt bi 3,zb nm] h (I (DT nm b.AW)) h:=by let⟨fs,Gp,hv⟩:=hc;have ha:=rm.AW;have:=aJL w.tQ hv (by rw[<-Gp,Ao] at ha;omega) nm;rwa [oL,Gp] at this
def aF(d:yx h<=ai)(x:Du h (Nx ai bi G) h' (Nx ai bi G')):Du h (Bu bi G) h' (Bu bi G'):=
 ⟨x.len,λi hi hn=>x.old i hi λhg=>by
  obtain rfl|hg:=hg
  .omega
  .exact hn hg,λi hi=>by
  rcases x.Bu i (ze hi) with(rfl|h)|h
  .exact ze d
  .exact zi h
  .exact ze h⟩
def OH{nm:Ai}{l:List B5}(h:0<=DT nm l):∃p:Nat,∃hp:p<yx l,DT nm l=(p:Int):=by
 have key:∀r:List B5,QN nm r<yx r:=by
  intro r;induction r with
  |nil=>show(-1:Int)<0;decide
  |cons x r ih=>simp[QN,Bn];split<;>(try split)<;>omega
 have:=key l.reverse;rw[I2] at this;refine⟨(DT nm l).toNat,?_,Ab⟩;rw[DT] at h⊢;omega
def l_{l:List B5}{f:Nat}(hn:((l.map B5.node).filter λn=>decide (n≠0)).Nodup)(hf:f<yx l)(h0:l[f].node≠0):D8 l[f].node l=(f:Int):=by
 rw[D8];rw[Ac h0];refine Na hf (by simp[ZE]) λj hj h=>?_;by_cases he:l[j].node=l[f].node
 .exfalso;have:l=l.take j++l[j]::l.drop (j+1):=by rw[<-AG hj,CJ]
  rw[this,BL,Bm,Fx,HM,Af (by simpa[he] using h0),CO] at hn;have hm:l[f]∈l.take j:=List.mem_take_iff_getElem.2 ⟨f,Ab,rfl⟩;exact hn.2.2 l[f].node (Gc.2 ⟨PT hm,zv h0⟩) l[j].node AH he.symm
 .simp[ZE,he]
def uB{v:DG}:Du h (Am.Nx ai bi G) (h.set ai v) (Am.Nx ai bi G):=⟨by rw[Br];exact Ae _,λi _ hn=>Au λe=>hn (zi e.symm),λ_ h=> zi h⟩
section
variable(hc:h[ai]?=some (.cells (Gl e at_ mk anc far last)))
def aGy(i:Item):Cy h 4 (Pt ai 5) (zh i.row)=zr (h.set ai (zt (Gl e at_ mk i far last))):=by simp only[Cy,hc];rfl
def aGz(i:Item):Cy h 4 (Pt ai 9) (zh i.row)=zr (h.set ai (zt (Gl e at_ mk anc i last))):=by simp only[Cy,hc];rfl
def aGA:A5 h (zr 3) (Pt ai 0)=zr (zh e.row):=by simp only[A5,hc];rfl
end
def Sp{A:Ar}{n x:Int}{l:List Int}:z3 A n (l++[x])=(z3 A n l).Gs n x 0:=by rw[z3];rw[List.foldl_append];rfl
def aPS(w:BX h bi a o c t G b)(hc:B4 b.AW c)(ok:ET b)(rm:B0 b (m+4*yx b.AI+10))(nm:Ai):
  ∃h' o' c' G',BK cx 188 [Pt bi 0,zb nm] h (zp (b.round nm).1) h'/\BX h' bi a o' c' t G' (b.round nm).2/\B4 (b.round nm).2.AW c'/\Du h (Bu bi G) h' (Bu bi G'):=by
 have ho:=rm.AI;have Sk:=rm.AW;have X:=hc.find w rm nm;by_cases hf:DT nm b.AW<0
 .obtain⟨h2,o2,r2,O,x2⟩:=aKy w rm nm;have e:b.round nm=(zl,b.Dz nm):=by unfold BS.round;simp only;rw[Af hf]
  have ea:(b.Dz nm).AW=b.AW:=by
   unfold BS.Dz;split;.split<;>rfl
   .rfl
  rw[e];refine⟨h2,o2,c,G,?_,O,by rw[ea];exact hc,x2⟩;rw[Ad,NO,zW];simp only[abS,Nat.reduceLeDiff,↓reduceIte,AQ,X,hf,r2]
 obtain⟨f,HB,ef⟩:=OH (JR.1 hf);have vS:¬(f:Int)<0:=Ab;rw[ef] at X;have Jq:=hc;obtain⟨fs,Gp,hv⟩:=Jq;have aPT:yx b.AW=yx fs:=by rw[<-Gp,Ao]
 have J:fs[f].c=b.AW[f]:=by simp only[<-Gp,CR]
 have l3:=w.l3;have e1:=AX.BG (k:= .i64) hv (Ab:f<yx fs);generalize hfe:fs[f]=fe at*;have Yg:b.AW.getD f z1=fe.c:=by rw[AS,An HB];exact J.symm
 have ax:fe.v.cells=[fe.v]:=z2 fe.ok;have w1:=w.HY (u:=[zt (Gl fe (f:Int) (f:Int) zy zy 0)]);have z:(h++[zm (Gl fe (f:Int) (f:Int) zy zy 0)])[yx h]?=zr (zt (Gl fe (f:Int) (f:Int) zy zy 0)):=AH;have x1:Du h (Bu bi G) (h++[zm (Gl fe (f:Int) (f:Int) zy zy 0)]) (Bu bi G):=w.C3;have ND:¬Bu bi G (yx h):=by
  rintro(e|hg);.exact absurd w.lt Ab
  .exact absurd (w.w.lt hg) (DF _)
 obtain⟨C,y⟩:∃C,C=h++[zm (Gl fe (f:Int) (f:Int) zy zy 0)]:=⟨_,rfl⟩;rw[<-y] at w1 z x1;have l0:A5 C zf (Pt (yx h) 0)=zr (I fe.c.node):=zj ⟨_,z,rfl⟩;have r2:=cQ w1.sA Ab fe.c.node;have VV:Gl fe (f:Int) (f:Int) zy zy 0=[I fe.c.node,zb fe.c.name,fe.v,I (f:Int),I (f:Int),I 0,I 0,S [],ff,I 0,I 0,S [],ff,I 0]:=rfl;rw[VV] at y;rw[zq] at e1;by_cases hk:AZ (BE fe.c.node) b.AI<0
 .obtain⟨h2,c2,W,O,JH,_,x2⟩:=lz w1 hc rm z ND HB ⟨Ab,Ab⟩ ⟨Ab,Ab⟩;have e:b.round nm=(zl,{b with AW:=Bg b.AW f}):=by unfold BS.round;simp only;rw[Ac hf,ef,A3,Yg,Af hk]
  rw[e];refine⟨h2,o,c2,G,?_,O,JH,aF (Ae _) ((Ff x1 (yx h)).trans x2)⟩;rw[Ad,NO,zW];simp only[abS,Nat.reduceLeDiff,↓reduceIte,AQ,X,vS,l3,e1,<-y,l0,r2,hk,W]
 obtain⟨k,Z⟩:∃k:Nat,AZ (BE fe.c.node) b.AI=(k:Int):=⟨_,(E3 (JR.1 hk)).symm⟩;obtain⟨Re,hkq,_⟩:=Jg Z;have tL:¬(k:Int)<0:=Ab;rw[Z] at r2;by_cases hkz:k=0
 .have e:b.round nm=(zl,b):=by unfold BS.round;simp only;rw[Ac hf,ef,A3,Yg,Ac hk,Af (zi (by rw[Z,hkz];rfl))]
  rw[e];refine⟨C,o,c,G,?_,w1,hc,x1⟩;rw[Ad,NO,zW];simp only[abS,Nat.reduceLeDiff,↓reduceIte,AQ,X,vS,l3,e1,<-y,l0,r2,tL,AE (Ab:(k:Int)=0)]
 have uC:¬(k:Int)=0:=Ab;have W:=aOU w1.sA Ab 1 fe.c.node;by_cases RZ:HZ (BE fe.c.node) (HG 1) b.AI.reverse=zl
 .have e:b.round nm=(zl,b):=by unfold BS.round;simp only;rw[Ac hf,ef,A3,Yg,Ac hk,Af (ze RZ)]
  rw[e];refine⟨C,o,c,G,?_,w1,hc,x1⟩;rw[RZ] at W;rw[Ad,NO,zW];simp only[abS,Nat.reduceLeDiff,↓reduceIte,AQ,X,vS,l3,e1,<-y,l0,r2,tL,uC,W]
 have aGB:HZ (BE fe.c.node) (HG 1) b.AI.reverse=zd:=by simpa using RZ
 rw[aGB] at W;have r4:=aOX w1.sA Ab fe.c.node;have hor:¬(AZ (BE fe.c.node) b.AI=0\/HZ (BE fe.c.node) (HG 1) b.AI.reverse=zl):=by rw[Z];rintro(h|h);exact uC h;exact RZ h
 by_cases hfa:Eg fe.c.node b.AI<0
 .have e:b.round nm=(zl,{b with AI:=Hu fe.c.node b.AI,AW:=Bg b.AW f}):=by unfold BS.round;simp only;rw[Ac hf,ef,A3,Yg,Ac hk,Ac hor,Af hfa]
  obtain⟨u,r5,hu⟩:=aJH w1.sO Ab fe.c.node;have O:=w1.H5 hu;have E:(put C bi 2 u)[yx h]?=_:=(Ce (λe=>ND (zi e))).trans z;obtain⟨h3,c3,r6,w3,Ob,_,x3⟩:=lz O hc ((rm.le (m':=0) Ab).sub rfl Je (A4 _) (Ae _)) E ND HB ⟨Ab,Ab⟩ ⟨Ab,Ab⟩;rw[e];refine⟨h3,u,c3,G,?_,w3,Ob,aF (Ae _) ((Ff (x1.trans Bd) (yx h)).trans x3)⟩;rw[Ad,NO,zW];simp only[abS,Nat.reduceLeDiff,↓reduceIte,AQ,X,vS,l3,e1,<-y,l0,r2,tL,uC,W,r4,hfa,r5,r6]
 obtain⟨N,hN,eN⟩:∃N:Nat,k+1+N<yx b.AI/\Eg fe.c.node b.AI=((k+1+N:Nat):Int):=by
  have ay:=hfa;rw[Jb,Ac hk,Z,A3] at ay⊢;unfold Fm at ay⊢;split at ay;.rename_i j hj;have:=(E4.1 hj).1;rw[Bi] at this;exact⟨j,Ab,Ab⟩
  .omega
 obtain⟨d,tl⟩:∃d,d=b.AI[k+1+N]:=⟨_,rfl⟩;obtain⟨an,han⟩:∃an,an=b.AI[k-1]'(by omega):=⟨_,rfl⟩;have zn:b.AI.getD (k+1+N) zy=d:=by rw[AS,An hN,tl];rfl
 have hga:b.AI.getD (k-1) zy=an:=by rw[AS,An Ab,han];rfl
 have e:b.round nm=(zd,BS.Hh fe.c d.node an.node (yz d.node an.node (k+1+N) k N (b,d.node,f))):=by
  unfold BS.round;simp only
  rw[Ac hf,ef,A3,Yg,Ac hk,Ac hor,Ac hfa,Z,eN,A3,A3,zn,hga,(Ab:k+1+N-1 -k=N)]
 have uc:=ok.op d (by rw[tl];exact AN _);have aGC:b.AI[k].node=fe.c.node:=by simpa[BE] using hkq
 have aB4:b.a.has fe.c.node:=by rw[<-aGC];exact(ok.op _ (AN _)).1
 have aB5:b.AW[f].node≠0:=by rw[<-J];have:=aB4.1;omega
 have aE:=l_ ok.sr HB aB5;rw[<-J] at aE;have K6:=rm.DL _ (AN HB);rw[<-J] at K6;have Xa:=IK (n:=k) Ab Ab;have r5:=Xh w1.sA ((k-1:Nat):Int);rw[FG Ab,<-han] at r5;have r6:=Xh w1.sA ((k+1+N:Nat):Int);rw[FG hN,<-tl] at r6;have s5:=aGy z an;have XF:yx h<yx C:=(Aq.1 z).1;have hbn:yx h≠bi:=λe=>ND (zi e);have E:(C.set (yx h) (zt (Gl fe f f an zy 0)))[yx h]?=_:=AY XF;have O:BX (C.set (yx h) (zt (Gl fe f f an zy 0))) bi a o c t G b:=w1.Dj λj hj=>Au λe=>ND (by rw[e];exact hj);have x2:=(Ff x1 (yx h)).trans (uB (v:= zt (Gl fe f f an zy 0)));generalize C.set (yx h) (zt (Gl fe f f an zy 0))=H2 at*;have s6:=aGz E d;have eH:yx h<yx H2:=(Aq.1 E).1;have U:(H2.set (yx h) (zt (Gl fe f f an d 0)))[yx h]?=_:=AY eH;have w3:BX (H2.set (yx h) (zt (Gl fe f f an d 0))) bi a o c t G b:=O.Dj λj hj=>Au λe=>ND (by rw[e];exact hj);have x3:=x2.trans (uB (v:= zt (Gl fe f f an d 0)));generalize H2.set (yx h) (zt (Gl fe f f an d 0))=H3 at*;have l9:A5 H3 zf (Pt (yx h) 9)=zr (I d.node):=zj ⟨_,U,rfl⟩;have t13:At H3 (yx h) 13 (I 0):=⟨_,U,rfl⟩;have s7:=t13.store (u:= I d.node) rfl;have st4:=HV (k:=13) (v:= I d.node) U;have w4:BX (put H3 (yx h) 13 (I d.node)) bi a o c t G b:=w3.Dj λj hj=>Ce λe=>ND (by rw[<-e];exact hj);have x4:=x3.trans (QT (k:=13) (v:= I d.node));generalize put H3 (yx h) 13 (I d.node)=H4 at*;have i0:uA H4 bi a (yx h) t G fe an d k N (m+10) (b,d.node,f) N H4 o c G (b,d.node,f):=
  ⟨Ae _,w4,hc,ok,rm.le Ab,uc.1,by rw[aE];exact st4,ND,.refl,by rw[aE];omega,by show f<=1000000000;omega,rfl,DA,rfl,aB4⟩
 have le0:=(XI (blk:=d.node) (anc:=an.node) (far:=k+1+N) (k:=k) (c:=N) (s:=(b,d.node,f)) ok uc.1).2.2;obtain⟨h5,o5,c5,G5,s',r7,es,i⟩:=aKP i0 Ab Z hN;rw[<-es] at le0 e;obtain⟨q,hq,tr,hq0,hq2,hq3⟩:=GZ i.XB;have H:=i.st;rw[tr] at H;have qt:=i.mkb;have bM:yx h≠bi:=hbn;have l5:A5 h5 zf (Pt (yx h) 5)=zr (I an.node):=zj ⟨_,H,rfl⟩;obtain⟨u6,r8⟩:=aBV i.w i.ok.ba i.rm an.node;have w6:=i.w.HY (u:=u6);have w6':=i.w.C3 (u:=u6);have hl5:yx h<yx h5:=(Aq.1 H).1;have st6:(h5++u6)[yx h]?=_:=(Ak hl5).trans H;have l13:A5 (h5++u6) zf (Pt (yx h) 13)=zr (I s'.2.1):=zj ⟨_,st6,rfl⟩;have hl6:yx h<(h5++u6).length:=by rw[Aw];omega
 obtain⟨h7,G7,r9,w7,x7⟩:=tR (x:=s'.2.1) (p:=(s'.1.place an.node).1) (bf:=(s'.1.place an.node).2) w6 i.ok.ba i.rm;have hn7:¬Bu bi G7 (yx h):=λhg=>by
  obtain hg|hg:=x7.Bu h.length hg
  .exact i.hn hg
  .omega
 have D:h7[yx h]?=_:=(x7.old (yx h) hl6 i.hn).trans st6;have l3b:A5 h7 (zr 3) (Pt (yx h) 0)=zr (zh fe.row):=aGA D;have l9b:A5 h7 zf (Pt (yx h) 9)=zr (I d.node):=zj ⟨_,D,rfl⟩;obtain⟨r,uD,hr⟩:=ý fe h7;have le7:Le s'.1.a (s'.1.a.ES s'.2.1 (s'.1.place an.node).1 (s'.1.place an.node).2):=Jz;have Y:=i.ok.JA (Ph (n:=s'.2.1) (p:=(s'.1.place an.node).1) (b:=(s'.1.place an.node).2) i.ok.ok) le7;have V:=i.rm.JA (Kv (x:=s'.2.1) (p:=(s'.1.place an.node).1) (bf:=(s'.1.place an.node).2));obtain⟨b2,PL⟩:∃b2,b2={s'.1 with a:=s'.1.a.ES s'.2.1 (s'.1.place an.node).1 (s'.1.place an.node).2}:=⟨_,rfl⟩;have bX:b2.AI=s'.1.AI:=by rw[PL]
 have JH:b2.AW=s'.1.AW:=by rw[PL]
 have le2:Le s'.1.a b2.a:=by rw[PL];exact le7
 rw[<-PL] at w7 Y V;obtain⟨M,G8,r11,w8,x8⟩:=ô (m:=m+7) w7 Y.ba (V.le Ab) hr fe.ok K6.2 K6.1 d.node 1;obtain⟨Ł,fr,le8⟩:=QP (nm:=fe.c.name) (at_:=fe.c.Aj) (p:=d.node) Y Kn;have A:=JB (m:=m+7) (nm:=fe.c.name) (l:=fe.c.Aj) (sp:=1) (p:=d.node) (V.le Ab) K6.2;obtain⟨g,hnw⟩:∃g,g=b2.Hb fe.c.name fe.c.Aj 1:=⟨_,rfl⟩;obtain⟨b3,vy⟩:∃b3,b3=b2.Ex fe.c.name fe.c.Aj 1 d.node:=⟨_,rfl⟩;have ho3:b3.AI=s'.1.AI:=by rw[vy,<-bX];unfold BS.Ex;rw[Af Kn]
 have Ob:b3.AW=s'.1.AW:=by rw[vy,<-JH];unfold BS.Ex;rw[Af Kn]
 rw[<-hnw] at r11 fr;rw[<-vy] at w8 Ł fr le8 A;have hl7:yx h<yx h7:=(Aq.1 D).1;have hn8:¬Bu bi G8 (yx h):=λhg=>by
  obtain hg|hg:=x8.Bu h.length hg
  .exact hn7 hg
  .omega
 have T:M[yx h]?=_:=(x8.old (yx h) hl7 hn7).trans D;have l9c:A5 M zf (Pt (yx h) 9)=zr (I d.node):=zj ⟨_,T,rfl⟩;obtain⟨kv,r12,lp⟩:∃v,BK cx 305 [Pt a 0,I d.node] M v M/\Ec (b3.a.nd d.node).Be v:=by obtain⟨n',m',ps,wa⟩:=w8.w.pa;exact aDy wa A.Wt (A.Wt.Be Ł.ok d.node)
 have aKW:(b3.a.nd d.node).Be.length<=1000000000:=A.Wt.Be Ł.ok d.node;have Xw:g.row=[I g.node,I g.A7,.str g.name,.bool g.NM]:=rfl;rw[zq] at uD l3b;have IJ:Ev cx 188 [Pt bi 0,zb nm] h λr h'=>r= zp zd/\∃o' c' G',BX h' bi a o' c' t G' (BS.Hh fe.c d.node an.node s')/\B4 (BS.Hh fe.c d.node an.node s').AW c'/\Du h (Bu bi G) h' (Bu bi G'):=by
  unfold Ev;rw[NO,zW];simp only[abS,Nat.reduceLeDiff,↓reduceIte,AQ,X,vS,l3,e1,<-y,l0,r2,tL,uC,W,r4,eN,(Ab:¬((k+1+N:Nat):Int)<0),Xa,r5,r6,s5,s6,l9,s7];simp only[abS,r7,l5,r8];simp only[abS,l13,r9];simp only[BD,l3b,l9b];simp only[abS,↓reduceIte,ER,uD,BN,r11,l9b];simp only[BD,w8.l0,l9c,r12,AX.CK lp];have x8':Du h (Nx (yx h) bi G) M (Nx (yx h) bi G8):=(((x4.trans i.x).trans (Ff w6' (yx h))).trans (Ff x7 (yx h))).trans (Ff x8 (yx h));refine Dr (i:=0) (λj:Nat=>[I (j:Int)]) (λj B=>j<=(b3.a.nd d.node).Be.length/\∃K,BX B bi a o5 c5 t K {b3 with a:=z3 b3.a g.node ((b3.a.nd d.node).Be.take j)}/\ET {b3 with a:=z3 b3.a g.node ((b3.a.nd d.node).Be.take j)}/\B0 {b3 with a:=z3 b3.a g.node ((b3.a.nd d.node).Be.take j)} (m+7)/\Du M (Bu bi G8) B (Bu bi K)) (λj=>(b3.a.nd d.node).Be.length-j)
   (λj B=>j=(b3.a.nd d.node).Be.length/\∃K,BX B bi a o5 c5 t K {b3 with a:=z3 b3.a g.node ((b3.a.nd d.node).Be.take j)}/\ET {b3 with a:=z3 b3.a g.node ((b3.a.nd d.node).Be.take j)}/\B0 {b3 with a:=z3 b3.a g.node ((b3.a.nd d.node).Be.take j)} (m+7)/\Du M (Bu bi G8) B (Bu bi K)) 0 rfl ⟨AV _,G8,w8,Ł,A,.refl⟩ ?_ ?_
  .rintro j B ⟨hj,K,w9,az,ma,x9⟩;obtain hlt|Et:=AP j (b3.a.nd d.node).Be.length
   .have e9:=AX.BG (k:= .i64) lp hlt;obtain⟨Yc,L,Ā,VF,mb⟩:=tR (x:=(b3.a.nd d.node).Be[j]) (p:=g.node) (bf:=0) w9 az.ba ma;have lej:=(NN (n:=g.node) (l:=(b3.a.nd d.node).Be.take j) Ł.ok).2;rw[VD (by show((z3 b3.a g.node ((b3.a.nd d.node).Be.take j)).nd g.node).kind=4;rw[lej.kind _ fr.has];exact fr.kind)] at VF;have hs:z3 b3.a g.node ((b3.a.nd d.node).Be.take (j+1))=(z3 b3.a g.node ((b3.a.nd d.node).Be.take j)).Gs g.node (b3.a.nd d.node).Be[j] 0:=by rw[AB hlt,Sp]
    rw[Cb] at e9;simp only[abS,(Ab:(j:Int)<((b3.a.nd d.node).Be.length:Int)),e9,Ā,By j];refine .next (j+1) rfl ⟨hlt,L,by rw[hs];exact VF,?_,?_,x9.trans mb⟩ Ab
    .have:=az.JA (Rt (p:=g.node) (n:=(b3.a.nd d.node).Be[j]) (b:=0) az.ok) Pg;rw[hs];exact this
    .have:=ma.JA (Ku (p:=g.node) (x:=(b3.a.nd d.node).Be[j]) (bf:=0));rw[hs];exact this
   .simp only[abS,(Ab:¬(j:Int)<((b3.a.nd d.node).Be.length:Int))];exact .He j rfl ⟨Ab,K,w9,az,ma,x9⟩
  .rintro j B ⟨rfl,K,w9,az,ma,x9⟩;rw[Bt] at w9 az ma;have hl8:yx h<yx M:=(Aq.1 T).1;have hn9:¬Bu bi K (yx h):=λhg=>by
    obtain hg|hg:=x9.Bu h.length hg
    .exact hn8 hg
    .omega
   have R:B[yx h]?=_:=(x9.old (yx h) hl8 hn8).trans T;have l9d:A5 B zf (Pt (yx h) 9)=zr (I d.node):=zj ⟨_,R,rfl⟩;have le9:=(NN (n:=g.node) (l:=(b3.a.nd d.node).Be) Ł.ok).2;have lef:Le b.a (z3 b3.a g.node (b3.a.nd d.node).Be):=((le0.trans le2).trans le8).trans le9;obtain⟨Yc,L,Ā,VF,mb⟩:=tR (x:=g.node) (p:=d.node) (bf:=0) w9 az.ba ma;rw[VD (by show((z3 b3.a g.node (b3.a.nd d.node).Be).nd d.node).kind=4;rw[lef.kind _ uc.1];exact uc.2.1)] at VF;have pW:yx h<yx B:=(Aq.1 R).1;have aPY:¬Bu bi L (yx h):=λhg=>by
    obtain hg|hg:=mb.Bu h.length hg
    .exact hn9 hg
    .omega
   have aKX:Yc[yx h]?=_:=(mb.old (yx h) pW hn9).trans R;have l3c:A5 Yc zf (Pt (yx h) 3)=zr (I (q:Int)):=zj ⟨_,aKX,rfl⟩;have aPZ:=ma.JA (Ku (p:=d.node) (x:=g.node) (bf:=0));have aB7:B4 ({b3 with a:=(z3 b3.a g.node (b3.a.nd d.node).Be).Gs d.node g.node 0}:BS).AW c5:=by simp only;rw[Ob];exact i.hc
   have hqa:=i.rm.AW;obtain⟨iT,TO,r14,Q,ud,aCa,x11⟩:=lz VF aB7 aPZ aKX aPY (k:=q) (by simp only;rw[Ob];exact hq) ⟨Ab,Ab⟩ ⟨Ab,Ab⟩;simp only at Q ud;have l1:A5 iT zf (Pt (yx h) 1)=zr (zb fe.c.name):=zj ⟨_,aCa,rfl⟩;have l2:A5 iT zf (Pt (yx h) 2)=zr fe.v:=zj ⟨_,aCa,rfl⟩;have l4:A5 iT zf (Pt (yx h) 4)=zr (I (down q (s'.2.2:Int))):=zj ⟨_,aCa,rfl⟩;obtain⟨fs2,aGG,SI⟩:=ud;have aVy:yx b3.AW=s'.1.AW.length:=by rw[Ob]
   have aVz:fs2.length<=900000000:=by have h1:=Cj List.length aGG;rw[Ao,HI (by rw[Ob];exact hq)] at h1;omega
   have aPQ:=K6.2.1;obtain⟨u1,e2,he2,r15,PU⟩:=aPe (h:=iT) (id:=bi) (o:=3) (l:=fs2) ⟨TO,Q.tQ,SI⟩ Ab (e:=⟨{fe.c with node:=g.node},fe.v,fe.ok⟩) (by unfold bN;simp only;omega) (down q (s'.2.2:Int));have aP1:BK cx 334 [Pt bi 3,zh [I g.node,zb fe.c.name,fe.v],I (down q (s'.2.2:Int))] iT (z8 []) (put iT bi 3 u1):=r15;obtain⟨VE,Xo⟩:∃VE:Nat,VE=if q<s'.2.2 then s'.2.2 -1 else s'.2.2:=⟨_,rfl⟩
   have ÿ:down q (s'.2.2:Int)=(VE:Int):=by rw[Xo];unfold down;split<;>split<;>omega
   have w12:=Q.KC (u:=u1) (l:=(Bg b3.AW q).take (CL VE (Bg b3.AW q).length)++{fe.c with node:=g.node}::(Bg b3.AW q).drop (CL VE (Bg b3.AW q).length));have aCb:B4 ((Bg b3.AW q).take (CL VE (Bg b3.AW q).length)++{fe.c with node:=g.node}::(Bg b3.AW q).drop (CL VE (Bg b3.AW q).length)) u1:=by refine⟨_,?_,PU⟩;rw[ÿ,BL,Bm,FM,IP,aGG,he2,<-aGG,Ao]
   have hob:=i.rm.AI;obtain⟨u2,r16,Ja⟩:=aBK w12.sO (by simp only;rw[ho3];omega) fe.c.node;have P:=w12.H5 Ja;have vP:(CN fe.c.node b3.AI).length<=s'.1.AI.length:=by rw[<-ho3];exact Jf.length_le
   have aP2:(put (put iT bi 3 u1) bi 2 u2)[yx h]?=_:=(Ce bM).trans ((Ce bM).trans aCa);have l9e:A5 (put (put iT bi 3 u1) bi 2 u2) zf (Pt (yx h) 9)=zr (I d.node):=zj ⟨_,aP2,rfl⟩;have r17:=cQ P.sA DA d.node;have hli: -1<=AZ (BE d.node) (CN fe.c.node b3.AI)/\AZ (BE d.node) (CN fe.c.node b3.AI)<=(CN fe.c.node b3.AI).length:=by rcases Dy (q:=BE d.node) (l:=CN fe.c.node b3.AI) with⟨h,_⟩|⟨n,h1,h2,_⟩<;>omega
   have add:=Pd (a:=AZ (BE d.node) (CN fe.c.node b3.AI)) (b:=1) Ab Ab;obtain⟨u3,r18,hu3⟩:=aO3 P.sO DA g (AZ (BE d.node) (CN fe.c.node b3.AI)+1);have w14:=P.H5 hu3;simp only[abS,Nat.reduceLeDiff,↓reduceIte,AQ,ER,l9d,Ā,l3c,r14,l1,l2,ax,l4,aP1,r16,l9e,r17,add,r18];have hE:BS.Hh fe.c d.node an.node s'={b3 with a:=(z3 b3.a g.node (b3.a.nd d.node).Be).Gs d.node g.node 0,AW:=(Bg b3.AW q).take (CL VE (Bg b3.AW q).length)++{fe.c with node:=g.node}::(Bg b3.AW q).drop (CL VE (Bg b3.AW q).length),AI:=(CN fe.c.node b3.AI).take (Fo (AZ (BE d.node) (CN fe.c.node b3.AI)+1) (CN fe.c.node b3.AI).length)++g::(CN fe.c.node b3.AI).drop (Fo (AZ (BE d.node) (CN fe.c.node b3.AI)+1) (CN fe.c.node b3.AI).length)}:=by
    have zu:D8 fe.c.node b3.AW=(q:Int):=by rw[Ob];exact tr
    unfold BS.Hh;simp only
    rw[<-PL,<-vy,<-hnw,zu,A3,<-Xo]
   rw[hE];refine⟨_,rfl,rfl,u3,u1,L,w14,aCb,aF (Ae _) ?_⟩;exact((((x8'.trans (Ff (x9.trans mb) (yx h))).trans x11).trans (Ff Bd (yx h))).trans (Ff Bd (yx h))).trans (Ff Bd (yx h))
 obtain⟨r,h',hr,rfl,o',c',G',w',Jq,x'⟩:=IJ.ret;rw[e];exact⟨h',o',c',G',hr,w',Jq,x'⟩
end
section
variable{h h':Ah}{bi a ai:Nat}{o c t:Aa}{G G' F:Nat->Prop}{b b':BS}{x:Int}{m:Nat}
variable{nm:Ai}{av:Aa}{l:List A9}{r:List Aa}{sp p:Int}{e:Cp}{at_ mk last:Int}{anc far:Item}
def ue{blk anc:Int}{far i:Nat}{l:Int}{mk:Nat}:(z0 blk anc far i b l mk).1.AI.length<=yx b.AI:=by
 have h1:(Bg b.AI i).length<=yx b.AI:=Dg.length_le;rw[z0];simp only
 split;.exact h1
 .split;.exact h1
  .have OQ:∀nm l p,(b.Ex nm l 1 p).AI=b.AI:=λnm l p=>by rw[zc];rw[Af Kn]
   simp only[OQ,Br];exact Ae _
def fP{blk anc:Int}{far k m:Nat}:∀{c:Nat} {s:BS×Int×Nat},B0 s.1 (m+4*c)->B0 (yz blk anc far k c s).1 m/\(yz blk anc far k c s).1.AI.length<=s.1.AI.length
 |0,s,r=>⟨r.le Ab,Ae _⟩
 |c+1,s,r=>by have d:=Pp (blk:=blk) (anc:=anc) (far:=far) (i:=k+(c+1)) (l:=s.2.1) (mk:=s.2.2) (m:=m+4*c) (r.le Ab);have h:=fP (blk:=blk) (anc:=anc) (far:=far) (k:=k) (m:=m) (c:=c) (s:=z0 blk anc far (k+(c+1)) s.1 s.2.1 s.2.2) d;exact⟨h.1,Bv h.2 ue⟩
def uE{fe:B5}{blk anc:Int}{s:BS×Int×Nat}(r:B0 s.1 (m+4))(K6:yx fe.name<=1000/\DV fe.Aj):B0 (BS.Hh fe blk anc s) m/\(BS.Hh fe blk anc s).AI.length<=s.1.AI.length+1:=by
 rw[BS.Hh];simp only
 generalize fB:s.1.place anc=pb;have j:=r.JA (Kv (x:=s.2.1) (p:=pb.1) (bf:=pb.2));generalize PL:({s.1 with a:=s.1.a.ES s.2.1 pb.1 pb.2}:BS)=b2 at j;have bX:b2.AI=s.1.AI:=by rw[<-PL]
 have d:=JB (m:=m+1) (nm:=fe.name) (l:=fe.Aj) (sp:=1) (p:=blk) (j.le Ab) K6.2;have OQ:(b2.Ex fe.name fe.Aj 1 blk).AI=b2.AI:=by rw[zc];rw[Af Kn]
 have g:(b2.Hb fe.name fe.Aj 1).name.length<=1000:=OE K6.1;generalize b2.Ex fe.name fe.Aj 1 blk=b3 at*;generalize b2.Hb fe.name fe.Aj 1=n at*;have q:=d.JA ((Sl (n:=n.node) (l:=(b3.a.nd blk).Be)).trans (Ku (p:=blk) (x:=n.node) (bf:=0)));have L9:∀{U:Type} (l:List U) (k:Nat) (y:U),(l.take k++y::l.drop k).length=yx l+1/\∀z∈l.take k++y::l.drop k,z∈l\/z=y:=λl k y=>⟨by rw[Aw,Bn,Ax,Bi];omega,λz hz=>by
  obtain hz|hz:=Ay.1 hz
  .exact zi (BJ hz)
  .rcases AR.1 hz with rfl|hz
   .exact ze rfl
   .exact zi (BO hz)⟩
 have hr:=Jf (n:=fe.node) (l:=b3.AI);have hd:=Dg (l:=b3.AW) (k:=(D8 fe.node b3.AW).toNat);have f:=q.le (m':=m) Ab;refine⟨⟨f.n,f.at_,f.data,?_,?_,f.tm,λe he=>?_,λi hi=>?_⟩,?_⟩;.simp only[(L9 _ _ _).1];have:=hr.length_le;have:=d.AI;omega
 .simp only[(L9 _ _ _).1];have:=hd.length_le;have:=d.AW;omega
 .rcases(L9 _ _ _).2 e he with he|rfl
  .exact d.DL e (hd.subset he)
  .exact K6
 .rcases(L9 _ _ _).2 i hi with hi|rfl
  .exact d.Xe i (hr.subset hi)
  .exact g
 .simp only[(L9 _ _ _).1];have h1:=hr.length_le;have h2:=Cj List.length (OQ.trans bX);omega
def Pq(r:B0 b (m+4*yx b.AI+10))(nm:Ai):B0 (b.round nm).2 m/\(b.round nm).2.AI.length<=yx b.AI+1:=by
 have d:B0 b m:=r.le Ab;rw[z4];simp only
 split
 .have key:(b.Dz nm).a=b.a/\List.Sublist (b.Dz nm).AI b.AI/\(b.Dz nm).AW=b.AW/\(b.Dz nm).tm=b.tm:=by
   rw[BS.Dz];split
   .split;.exact⟨rfl,Je.trans C9,rfl,rfl⟩
    .exact⟨rfl,A4 _,rfl,rfl⟩
   .exact⟨rfl,A4 _,rfl,rfl⟩
  exact⟨d.sub key.1 key.2.1 (by rw[key.2.2.1];exact A4 _) (by rw[key.2.2.2];exact Ae _),Bv key.2.1.length_le (FD _)⟩
 .rename_i hf;let⟨f,HB,g⟩:=OH (JR.1 hf);have Yg:b.AW.getD (DT nm b.AW).toNat z1=b.AW[f]:=by rw[g,A3,AS,An HB];rfl
  have K6:=r.DL _ (AN HB);rw[Yg];split;.exact⟨d.sub rfl (A4 _) Dg (Ae _),FD _⟩
  .split;.exact⟨d,FD _⟩
   .split;.exact⟨d.sub rfl Je Dg (Ae _),Bv Je.length_le (FD _)⟩
    .rename_i hk _ hfa;have hlt:(Eg b.AW[f].node b.AI).toNat-1 -(AZ (BE b.AW[f].node) b.AI).toNat<=yx b.AI:=by
      rw[Jb];split;.omega
      .unfold Fm;split;.rename_i j hj;have:=(E4.1 hj).1;rw[Bi] at this;omega
       .omega
     have h1:=fP (blk:=(b.AI.getD (Eg b.AW[f].node b.AI).toNat zy).node) (anc:=(b.AI.getD ((AZ (BE b.AW[f].node) b.AI).toNat-1) zy).node) (far:=(Eg b.AW[f].node b.AI).toNat) (k:=(AZ (BE b.AW[f].node) b.AI).toNat) (m:=m+4) (c:=(Eg b.AW[f].node b.AI).toNat-1 -(AZ (BE b.AW[f].node) b.AI).toNat) (s:=(b,(b.AI.getD (Eg b.AW[f].node b.AI).toNat zy).node,(DT nm b.AW).toNat)) (r.le Ab);have h2:=uE (fe:=b.AW[f]) (blk:=(b.AI.getD (Eg b.AW[f].node b.AI).toNat zy).node) (anc:=(b.AI.getD ((AZ (BE b.AW[f].node) b.AI).toNat-1) zy).node) h1.1 K6;exact⟨h2.1,Bv h2.2 (yy h1.2)⟩
def NR:∀{n:Nat} {b:BS} {k:Nat},yx b.AI<=k->B0 b (m+n*(4*(k+n)+10))->B0 (z6 n b nm) m/\(z6 n b nm).AI.length<=k+n
 |0,b,k,hk,r=>⟨r.le Ab,hk⟩
 |n+1,b,k,hk,r=>by
  have e:(n+1)*(4*(k+(n+1))+10)=n*(4*(k+1+n)+10)+(4*(k+(n+1))+10):=by rw[B9,Gd,(Ab:k+(n+1)=k+1+n)]
  rw[e] at r;have h1:=Pq (m:=m+n*(4*(k+1+n)+10)) (r.le Ab) nm;unfold z6;simp only
  split;.have h2:=NR (n:=n) (k:=k+1) Ab h1.1;exact⟨h2.1,Ab⟩
  .exact⟨h1.1.le Ab,Ab⟩
def aK0(w:BX h bi a o c t G b)(hc:B4 b.AW c)(ok:ET b)(rm:B0 b (m+8*(4*(yx b.AI+8)+10)))(nm:Ai):
  ∃h' o' c' G',BK cx 74 [Pt bi 0,zb nm] h (z8 []) h'/\BX h' bi a o' c' t G' (b.CI nm)/\B4 (b.CI nm).AW c'/\Du h (Bu bi G) h' (Bu bi G'):=by
 have ho:=rm.AI;have B:=aGj w rm;have em:AA (.Dk 1) [zb nm]=zr (.sl 1 ([nm].map Cr)):=D2 (ws:=[nm]) rfl AH;have r2:BK cx 161 [zh (DB b.AI).row,.sl 1 ([nm].map Cr)] h (zp (AU [nm] (DB b.AI))) h:=aj (ws:=[nm]) Cw AH _ h;have E:=hc.at w rm (DB b.AI).node;have D:b.IW.AW=b.AW:=by unfold BS.IW;split<;>rfl
 by_cases h1:AU [nm] (DB b.AI)=zd/\D8 (DB b.AI).node b.AW<0
 .let⟨h2,s,K,j,i⟩:=aGu w rm;have e:b.CI nm=b.IW:=by unfold BS.CI;rw[Af h1]
  rw[e];refine⟨h2,s,c,G,?_,j,by rw[D];exact hc,i⟩;rw[h1.1] at r2;simp only[Ad,jR,abS,ER,I1 w,B,em,r2,E,h1.2,K]
 have e:b.CI nm=z6 8 b nm:=by unfold BS.CI;rw[Ac h1]
 rw[e];have IJ:Ev cx 74 [Pt bi 0,zb nm] h λr h'=>r= z8 []/\∃o' c' G',BX h' bi a o' c' t G' (z6 8 b nm)/\B4 (z6 8 b nm).AW c'/\Du h (Bu bi G) h' (Bu bi G'):=by
  unfold Ev;rw[jR];have He:∀(Q:HC) (k:Dm->List Aa->IT),(∀x vs h1,(x= .exit 0\/x= .ret)->(∃o' c' G',BX h1 bi a o' c' t G' (z6 8 b nm)/\B4 (z6 8 b nm).AW c'/\Du h (Bu bi G) h1 (Bu bi G'))->W cx (k x vs) Q h1)->
    W cx (.loop 5 [I 0] (λł=> .op (.int .lss) [g ł 0,I 8] λv14=> .GJ v14 (.call 188 [Pt bi 0,zb nm] λA=> .op (.un .not) [A] λv16=> .GJ v16 (.ret .ret [g ł 0]) (.op (.int .add) [g ł 0,I 1] λz=> .ret .normal [z])) (.ret (.exit 0) [g ł 0])) k) Q h:=by
   intro Q k hk;refine Bj (λn:Nat=>[I ((8 -n:Nat):Int)]) (λn h1=>n<=8/\∃C u v b1,BX h1 bi a C u t v b1/\B4 b1.AW u/\ET b1/\B0 b1 (m+n*(4*(yx b.AI+8)+10))/\yx b1.AI<=yx b.AI+(8 -n)/\z6 8 b nm=z6 n b1 nm/\Du h (Bu bi G) h1 (Bu bi v)) (λn=>n) 8 rfl ⟨Ae _,o,c,G,b,w,hc,ok,rm,Ab,rfl,.refl⟩ ?_;rintro n h1 ⟨hn,C,u,v,b1,w1,Tg,Xl,aq,XF,f,y⟩;cases n with
   |zero=>simp[abS,(Bf:¬((8 -0:Nat):Int)<8)];exact hk _ _ _ (zi rfl) ⟨C,u,v,by rw[f];exact w1,by rw[f];exact Tg,y⟩
   |succ n=>
    have hsp:(n+1)*(4*(yx b.AI+8)+10)=n*(4*(yx b.AI+8)+10)+(4*(yx b.AI+8)+10):=by rw[B9,Gd]
    rw[hsp] at aq;have uf:B0 b1 (m+n*(4*(yx b.AI+8)+10)+4*yx b1.AI+10):=aq.le Ab;let⟨h2,s,H,J,q,j,JH,i⟩:=aPS w1 Tg Xl uf nm;let⟨Ww,eH⟩:=Pq uf nm;have õ:=(ZM (nm:=nm) Xl).1;have hlt:((8 -(n+1):Nat):Int)<8:=Ab;have inc:AA (.int .add) [I ((8 -(n+1):Nat):Int),I 1]=zr (I ((8 -n:Nat):Int)):=by have:=Vg (n:=8 -(n+1)) Ab;rwa [(Ab:8 -(n+1)+1=8 -n)] at this
    have d:z6 (n+1) b1 nm=if(b1.round nm).1 then z6 n (b1.round nm).2 nm else(b1.round nm).2:=rfl
    cases hr:(b1.round nm).1 with
    |true=>rw[hr] at q d;simp only[abS,hlt,q,inc];exact AJ.next n rfl ⟨Ab,s,H,J,_,j,JH,õ,Ww,Ab,f.trans d,y.trans i⟩ Ab
    |false=>rw[hr] at q d;simp only[abS,hlt,q];exact hk _ _ _ (ze rfl) ⟨s,H,J,by rw[f,d];exact j,by rw[f,d];exact JH,y.trans i⟩
  by_cases h2:AU [nm] (DB b.AI)=zd
  .have L:¬D8 (DB b.AI).node b.AW<0:=λh=>h1 ⟨h2,h⟩;rw[h2] at r2;simp only[abS,ER,I1 w,B,em,r2,E,L];refine He _ _ ?_;rintro x vs h1 (rfl|rfl) ⟨o',c',G',a1,a2,a3⟩;.simp only[BD];exact⟨_,rfl,rfl,o',c',G',a1,a2,a3⟩
   .simp only[BD];exact⟨_,rfl,rfl,o',c',G',a1,a2,a3⟩
  .have h2:AU [nm] (DB b.AI)=zl:=zv h2
   rw[h2] at r2;simp only[abS,ER,I1 w,B,em,r2];refine He _ _ ?_;rintro x vs h1 (rfl|rfl) ⟨o',c',G',a1,a2,a3⟩;.simp only[BD];exact⟨_,rfl,rfl,o',c',G',a1,a2,a3⟩
   .simp only[BD];exact⟨_,rfl,rfl,o',c',G',a1,a2,a3⟩
 obtain⟨r,h',hr,rfl,o',c',G',w',Jq,x'⟩:=IJ.ret;exact⟨h',o',c',G',hr,w',Jq,x'⟩
end
structure uF where
 k:Int
 name:Ai
 Aj:List A9
 A7:Int
 a:Int
 b:Bool
 s:Ai
 r:Int
 n:Int
def OI(h:Int):Item:=⟨h,0,[],zl⟩
def aG(b:BS)(q:uF):BS×Item:=
 if q.k=1 then(b.D9 q.name q.Aj 1,OI (b.a.len+1))
 else if q.k=2 then(b.D9 q.name q.Aj q.A7,OI (b.M5 q.A7))
 else if q.k=3 then(b.GX q.name q.Aj,OI (b.a.len+1))
 else if q.k=4 then(b.Xd q.r,zy)
 else if q.k=5 then(b.HN q.s q.a,zy)
 else if q.k=6 then(b.DE q.name q.Aj q.n,zy)
 else if q.k=7 then(b.BH,zy)
 else if q.k=8 then(b.A6,zy)
 else if q.k=9 then(b.Dz q.name,zy)
 else if q.k=10 then(b.CI q.name,zy)
 else if q.k=11 then(b.H7,zy)
 else if q.k=12 then(b.EG q.Aj q.a,zy)
 else if q.k=13 then(b.CT,zy)
 else if q.k=14 then({b with stop:=zd},zy)
 else if q.k=15 then({b with Fe:=q.b},zy)
 else if q.k=16 then({b with tm:=b.tm++[q.n]},zy)
 else if q.k=17 then({b with AW:=b.AW++[z1]},zy)
 else if q.k=18 then(b.IW,b.sW)
 else if q.k=19 then({b with head:=q.a},zy)
 else if q.k=20 then({b with mode:=q.n},zy)
 else if q.k=21 then({b with AW:=GB b.AW},zy)
 else if q.k=22 then({b with AI:=DI Cx (AU [q.name]) b.AI},zy)
 else if q.k=23 then({b with KP:=q.a},zy)
 else if q.k=24 then(b.Ex q.name q.Aj q.A7 q.a,b.Hb q.name q.Aj q.A7)
 else(b,zy)
structure ug(q:uF):Prop where
 name:yx q.name<=1000
 Aj:DV q.Aj
 s:yx q.s<=1000
 r: -2147483648<=q.r/\q.r<=2147483647
section
variable{b:BS}{q:uF}{m j:Nat}
def aGI(o:ET b){nm:Ai}{l:List A9}{sp p:Int}:ET (b.Ex nm l sp p):=by
 by_cases hs:BS.If sp;.exact(QP o hs).1
 .unfold zc;rwa[Ac hs]
def mc(o:ET b):ET {b with AW:=b.AW++[z1]}:=by have:=o.aFA (e:=z1) (k:=yx b.AW) (zi rfl) (zi rfl);rwa[Bt,EJ] at this
def EZ{U:Type}{P:U->Prop}{c:Prop}[Decidable c]{x y:U}(h1:P x)(h2:P y):P (if c then x else y):=by split;exact h1;exact h2
def aH{P:BS×Item->Prop}(h1:P (b.D9 q.name q.Aj 1,OI (b.a.len+1)))(h2:P (b.D9 q.name q.Aj q.A7,OI (b.M5 q.A7)))(B:P (b.GX q.name q.Aj,OI (b.a.len+1)))(A:P (b.Xd q.r,zy))(z:P (b.HN q.s q.a,zy))(y:P (b.DE q.name q.Aj q.n,zy))(x:P (b.BH,zy))(w:P (b.A6,zy))(v:P (b.Dz q.name,zy))(Yc:P (b.CI q.name,zy))(iT:P (b.H7,zy))(u:P (b.EG q.Aj q.a,zy))(t:P (b.CT,zy))(p:P ({b with stop:=zd},zy))(o:P ({b with Fe:=q.b},zy))(l:P ({b with tm:=b.tm++[q.n]},zy))(k:P ({b with AW:=b.AW++[z1]},zy))(i:P (b.IW,b.sW))(h:P ({b with head:=q.a},zy))(g:P ({b with mode:=q.n},zy))(f:P ({b with AW:=GB b.AW},zy))(e:P ({b with AI:=DI Cx (AU [q.name]) b.AI},zy))(d:P ({b with KP:=q.a},zy))(c:P (b.Ex q.name q.Aj q.A7 q.a,b.Hb q.name q.Aj q.A7))(h0:P (b,zy)):P (aG b q):=by rw[aG];exact EZ h1 (EZ h2 (EZ B (EZ A (EZ z (EZ y (EZ x (EZ w (EZ v (EZ Yc (EZ iT (EZ u (EZ t (EZ p (EZ o (EZ l (EZ k (EZ i (EZ h (EZ g (EZ f (EZ e (EZ d (EZ c (h0))))))))))))))))))))))))
def aGL(o:ET b):ET (aG b q).1:=aH (P:=λr=>ET r.1) (QQ (nm:=q.name) (at_:=q.Aj) (sp:=1) o) (QQ o) (eZ o) (iv o) (ZI o) (zB o) (s_ o) (ZK o) (fA o) (fD o) (T7 o) (tF o) (ZJ o) (o.of_eq rfl rfl rfl rfl) (o.of_eq rfl rfl rfl rfl) (o.of_eq rfl rfl rfl rfl) (mc o) (Á o) (o.of_eq rfl rfl rfl rfl) (o.of_eq rfl rfl rfl rfl) (o.tD (CB _ _)) (o.K5 C9) (o.of_eq rfl rfl rfl rfl) (aGI o) o
def B0.me{k m:Nat}{h:Int}{x:Fc}(r:B0 b (m+k))(h1:yx x.Aj<=(b.a.nd h).Aj.length+k\/yx x.Aj<=1000)(h2:yx x.data<=(b.a.nd h).data.length+k\/yx x.data<=100000):B0 {b with a:=b.a.set h x} m:=by
 have hn:(b.a.set h x).n.length=yx b.a.n:=by have:=ż (A:=b.a) (h:=h) (x:=x);unfold Ar.len at this;omega
 have c:=r.le (m':=m) Ab;have rn:=r.n;refine⟨by simp only;rw[hn];exact c.n,λy=>?_,λy=>?_,c.AI,c.AW,c.tm,c.DL,c.Xe⟩
 .simp only;rw[Kf];split;.rename_i d;have:=r.at_ h;omega
  .exact c.at_ y
 .simp only;rw[Kf];split;.have:=r.data h;omega
  .exact c.data y
section
variable{m:Nat}{s:Ai}{p bf:Int}(r:B0 b (m+5))
def Wy(hs:yx s<=4):B0 {b with a:=BS.Mh b.a s p bf} m:=by
 have Oj:∀d,B0 {b with a:=(b.a.add {kind:=5,CF:=d,data:=s}).ES (b.a.len+1) p bf} m:=λd=>((r.le (m':=m+1) Ab).J7 (OD (AV _) DA)).JA Kv
 have c:=r.le (m':=m) Ab;rw[BS.Mh];split
 .split
  .split;.exact B0.me (k:=5) r (zi DA) (zi (by simp[Aw];omega))
   .exact Oj _
  .exact Oj _
 .exact c
def KS(hs:yx s<=100000):B0 {b with a:=BS.Fp b.a s p bf} m:=by
 rw[BS.Fp];split;.exact((r.le (m':=m+1) Ab).J7 (OD (AV _) hs)).JA Kv
 .exact r.le Ab
end
end
section
variable{b:BS}{q:uF}{m j:Nat}{nm:Ai}
def aI{l:List A9}{x:Int}(r:B0 b (m+1000))(hl:yx l<=1000):B0 (b.EG l x) m:=by
 rw[BS.EG];split;.refine B0.me (k:=1000) r (zi ?_) (zi DA);have:=Rr (l:=(b.a.nd x).Aj++BS.plain l);rw[Aw,BS.plain,Ao] at this;rw[BS.plain];simp only;omega
 .exact r.le Ab
def fQ:∀{l:List B5} {b:BS},(z5 l b).2.AI.length<=yx b.AI+yx l/\(z5 l b).2.AW=b.AW/\(z5 l b).1.length=yx l/\∀e∈(z5 l b).1,∃e'∈l,e.name=e'.name/\e.Aj=e'.Aj
 |[],b=>⟨by simp[z5],rfl,rfl,λe he=>by simp[z5] at he⟩
 |e::l,b=>by
  let⟨h1,h2,f,d⟩:=fQ (l:=l) (b:=b.D9 e.name e.Aj 1);have h:(b.D9 e.name e.Aj 1).AI.length<=yx b.AI+1:=by
   rw[BS.D9];rw[Af Kn];simp only
   have:(b.Ex e.name e.Aj 1 (b.place 0).1).AI=b.AI:=by rw[zc];rw[Af Kn]
   rw[Aw,Bl];first|(rw[this];exact Ae _)|exact Ae _
  rw[z5];refine⟨by simp[Bn];omega,by simp only;rw[h2,Er],by simp[Bn,f],λg he=>?_⟩;obtain rfl|he:=AR.1 he
  .exact⟨e,AH,rfl,rfl⟩
  .let⟨e',c,a⟩:=d g he;exact⟨e',by simp[c],a⟩
def Uo(r:B0 b (m+4*yx b.AW)):B0 b.A6 m/\yx b.A6.AI<=yx b.AI+yx b.AW/\yx b.A6.AW=yx b.AW:=by
 have a:=fL (l:=b.AW.drop b.L0) (b:=b) (m:=m) (r.le (by rw[Bi];omega)) λe he=>r.DL e (BO he);let⟨h1,h2,c,h⟩:=fQ (l:=b.AW.drop b.L0) (b:=b);rw[Bi] at h1 c;have hl:yx b.A6.AW=yx b.AW:=by rw[BS.A6];simp[Aw,Ax,c];omega
 refine⟨⟨a.n,a.at_,a.data,a.AI,?_,a.tm,λe he=>?_,a.Xe⟩,by rw[BS.A6];simp only;omega,hl⟩;.rw[hl];have:=r.AW;omega
 .unfold BS.A6 at he;simp only at he;obtain he|he:=Ay.1 he
  .exact r.DL e (BJ he)
  .let⟨e',g,f,d⟩:=h e he;rw[f,d];exact r.DL e' (BO g)
def uG{blk anc:Int}{far k:Nat}:∀{c:Nat} {s:BS×Int×Nat},(yz blk anc far k c s).1.AW.length<=s.1.AW.length
 |0,s=>Ae _
 |c+1,s=>by
  refine Bv (uG (c:=c)) ?_;rw[z0];simp only
  split;.exact Ae _
  .split;.exact Dg.length_le
   .have:∀nm l p,(s.1.Ex nm l 1 p).AW=s.1.AW:=λnm l p=>by rw[zc];rw[Af Kn]
    simp only[this,Br];exact Ae _
def uh:(b.round nm).2.AW.length<=yx b.AW+1:=by
 rw[z4];simp only
 split
 .have:(b.Dz nm).AW=b.AW:=by
   rw[BS.Dz];split;.split<;>rfl
   .rfl
  rw[this];omega
 .split;.exact Bv Dg.length_le (FD _)
  .split;.exact FD _
   .split;.exact Bv Dg.length_le (FD _)
    .unfold BS.Hh;simp only
     generalize hs:yz _ _ _ _ _ _=s;have h1:s.1.AW.length<=yx b.AW:=by rw[<-hs];exact uG
     have:∀(b2:BS) nm l p,(b2.Ex nm l 1 p).AW=b2.AW:=λb2 nm l p=>by rw[zc];rw[Af Kn]
     simp only[this,Aw,Bn,Ax,Bi];have h2:∀k,(Bg s.1.AW k).length<=s.1.AW.length:=λk=>Dg.length_le;refine Bv (m:=(Bg s.1.AW (D8 (b.AW.getD (DT nm b.AW).toNat z1).node s.1.AW).toNat).length+1) ?_ (yy (Bv (h2 _) h1));omega
def S7:∀{n:Nat} {b:BS},(z6 n b nm).AW.length<=yx b.AW+n
 |0,b=>Ae _
 |n+1,b=>by
  have h:=uh (b:=b) (nm:=nm);unfold z6;simp only
  split;.have:=S7 (n:=n) (b:=(b.round nm).2);omega
  .omega
structure Sz(b:BS)(j:Nat):Prop where
 rm:B0 b (5000000*j)
 AI:yx b.AI+1200*j<=125000
 AW:yx b.AW+10*j<=1100
def Sz.of{b':BS}(h:Sz b (j+1))(r:B0 b' (5000000*j))(h1:yx b'.AI<=yx b.AI+1200)(h2:yx b'.AW<=yx b.AW+10):Sz b' j:=⟨r,by have:=h.AI;omega,by have:=h.AW;omega⟩
def Sz.aJ{k:Nat}(h:Sz b (j+1))(hk:k<=5000000:=by omega):B0 b (5000000*j+k):=h.rm.le Ab
def Sz.PZ{b':BS}(h:Sz b (j+1))(ha:b'.a=b.a)(ho:b'.AI.Sublist b.AI)(hc:b'.AW.Sublist b.AW)(ht:yx b'.tm<=yx b.tm):Sz b' j:=
 h.of ((h.rm.le Ab).sub ha ho hc ht) (by have:=ho.length_le;omega) (by have:=hc.length_le;omega)
def Sz.IW(h:Sz b (j+1)):Sz b.IW j:=by
 rw[BS.IW];split;.exact h.PZ rfl (A4 _) (A4 _) (Ae _)
 .exact h.PZ rfl (CB _ _) (A4 _) (Ae _)
def Uq{l:List A9}{sp:Int}:(b.D9 nm l sp).AI.length<=yx b.AI+1200:=by
 rw[BS.D9];split
 .rename_i hs;have:(b.Ex nm l sp (b.place 0).1).AI=b.AI:=by rw[zc];rw[Af hs]
  have:=Cj List.length this;simp[Aw,Bl];omega
 .omega
def a_{l:List A9}:(b.GX nm l).AW.length<=yx b.AW+10:=by
 rw[BS.GX];simp only
 let⟨l',h1,h2⟩:=T5 (l:=(b.D9 nm l 1).AW) (e:=⟨b.a.len+1,nm,l⟩);rw[h2,Aw,Bl];have:=h1.length_le;rw[Er] at this;omega
def aGM(h:Sz b (j+1))(hq:ug q):Sz (aG b q).1 j:=aH (P:=λr=>Sz r.1 j)
 (h.of (JY (sp:=1) h.aJ hq.Aj hq.name) Uq (by rw[Er];omega))
 (h.of (JY h.aJ hq.Aj hq.name) Uq (by rw[Er];omega))
 (h.of (Wu h.aJ hq.Aj hq.name) Uq a_)
 (h.of (Wy h.aJ (Uk _)) (GC _ _) (GC _ _))
 (by
  dsimp only;rw[BS.HN];split;.exact h.of (KS h.aJ (by have:=hq.s;omega)) (GC _ _) (GC _ _)
  .exact h.of (KS h.aJ (by have:=hq.s;omega)) (GC _ _) (GC _ _))
 (h.of ((JY h.aJ hq.Aj hq.name).eq rfl rfl rfl rfl) Uq (by show(b.D9 q.name q.Aj 1).AW.length<=_;rw[Er];omega))
 (by
  dsimp only;rw[BS.BH];split;.exact h.PZ rfl (C9.trans C9) (A4 _) (Ae _)
  .exact h.PZ rfl (A4 _) (A4 _) (Ae _))
 (by dsimp only;have h1:=Uo (m:=5000000*j) (h.rm.le (by have:=h.AW;omega));exact h.of h1.1 (by have:=h.AW;have:=h1.2.1;omega) (by rw[h1.2.2];omega))
 (by
  dsimp only;rw[BS.Dz];split
  .split;.exact h.PZ rfl (Je.trans C9) (A4 _) (Ae _)
   .exact h.PZ rfl (A4 _) (A4 _) (Ae _)
  .exact h.PZ rfl (A4 _) (A4 _) (Ae _))
 (by
  dsimp only;rw[BS.CI];split;.exact h.IW
  .have h1:=NR (n:=8) (b:=b) (k:=yx b.AI) (nm:=q.name) (m:=5000000*j) (Ae _) (h.rm.le (by have:=h.AI;omega));exact h.of h1.1 (by have:=h1.2;omega) (by have:=S7 (n:=8) (b:=b) (nm:=q.name);omega))
 (h.PZ rfl (A4 _) (A4 _) (Ae _))
 (by
  dsimp only;have e:(b.EG q.Aj q.a).AI=b.AI/\(b.EG q.Aj q.a).AW=b.AW:=by rw[BS.EG];split<;>exact⟨rfl,rfl⟩
  exact h.of (aI (m:=5000000*j) (h.rm.le Ab) hq.Aj.1) (by rw[e.1];omega) (by rw[e.2];omega))
 (by
  dsimp only;rw[BS.CT];split;.exact h.PZ rfl (A4 _) (A4 _) (Ae _)
  .exact h.PZ rfl (show(DI Cx (AU [AO]) (DI CM Cx b.AI)).Sublist b.AI from C9.trans C9) (CB _ _) (AH:yx b.tm.dropLast<=yx b.tm))
 (h.PZ rfl (A4 _) (A4 _) (Ae _))
 (h.PZ rfl (A4 _) (A4 _) (Ae _))
 (by dsimp only;have r:=h.rm.le (m':=5000000*j+1) Ab;have c:=r.le (m':=5000000*j) Ab;exact h.of ⟨c.n,c.at_,c.data,c.AI,c.AW,by have:=r.tm;simp[Aw,Bl];omega,c.DL,c.Xe⟩ (GC _ _) (GC _ _))
 (by
  dsimp only;refine h.of ((h.rm.le (m':=5000000*j+1) Ab).iy (e:=z1) AH (λe he=>?_) ⟨Bf,Bf,λa ha=>by cases ha⟩) (GC _ _) AH;obtain he|he:=Ay.1 he
  .exact zi he
  .exact ze (zv he))
 (h.IW)
 (h.PZ rfl (A4 _) (A4 _) (Ae _))
 (h.PZ rfl (A4 _) (A4 _) (Ae _))
 (h.PZ rfl (A4 _) (CB _ _) (Ae _))
 (h.PZ rfl C9 (A4 _) (Ae _))
 (h.PZ rfl (A4 _) (A4 _) (Ae _))
 (by
  dsimp only;have e:(b.Ex q.name q.Aj q.A7 q.a).AI=b.AI/\(b.Ex q.name q.Aj q.A7 q.a).AW=b.AW:=by rw[zc];split<;>exact⟨rfl,rfl⟩
  exact h.of (JB (m:=5000000*j) (h.rm.le Ab) hq.Aj) (by rw[e.1];omega) (by rw[e.2];omega))
 (h.PZ rfl (A4 _) (A4 _) (Ae _))
end
def Mk(q:uF)(av:Aa):List Aa:=[I q.k,zb q.name,av,I q.A7,I q.a,zp q.b,zb q.s,yw .i32 q.r,I q.n]
section
variable{h h':Ah}{bi a:Nat}{o c t:Aa}{G G' F:Nat->Prop}{b:BS}{x:Int}{m j:Nat}{q:uF}
variable{nm:Ai}{av:Aa}{l:List A9}{r:List Aa}{sp p:Int}
def Xp(hv:AL q.Aj av)(hl:yx q.Aj<=1000)(h:Ah):∃r fR,BK cx 65 [zh (Mk q av)] h (zh r) h/\OG q.name fR r/\AL q.Aj fR:=by have cF:A0=140737488355328:=rfl;let⟨u,e,hu⟩:=AX.Gg (b:=40) hv Ab;have hc:u.cells=[u]:=z2 hu;refine⟨_,u,?_,⟨I 2,ff,S [],ff,S [],ff,ff,ff,S [],yw .i32 0,rfl⟩,hu⟩;simp[Ad,aFO,Mk,abS,AQ,e,hc]
def aK1(i:Item)(h:Ah):BK cx 80 [zh i.row] h (zh i.row) h:=by simp[Ad,aFP,Item.row,abS,AQ]
def aP5(w:BX h bi a o c t G b)(hc:B4 b.AW c)(ok:ET b)(sz:Sz b (j+1))(hq:ug q)(hv:AL q.Aj av):
  ∃h' o' c' t' G',BK cx 23 [Pt bi 0,zh (Mk q av)] h (zh (aG b q).2.row) h'/\BX h' bi a o' c' t' G' (aG b q).1/\B4 (aG b q).1.AW c'/\Du h (Bu bi G) h' (Bu bi G'):=by
 unfold aG Mk;by_cases d:q.k=1;.rw[Af d];dsimp only;let⟨r,fR,D,hr,DR⟩:=Xp (q:=q) hv hq.Aj.1 h;rw[Mk] at D;let⟨h',o',G',r2,w',x'⟩:=ö (m:=5000000*j) w ok sz.aJ hr DR hq.Aj hq.name;refine⟨h',o',c,t,G',?_,w',by rw[Er];exact hc,x'⟩;rw[Ad,Gi];simp only[abS,Nat.reduceLeDiff,↓reduceIte,AQ,AE d,D,r2];try rfl
 rw[Ac d];by_cases f:q.k=2;.rw[Af f];dsimp only;let⟨r,fR,D,hr,DR⟩:=Xp (q:=q) hv hq.Aj.1 h;rw[Mk] at D;let⟨h',o',G',r2,w',x'⟩:=aGl (m:=5000000*j) w ok sz.aJ hr DR hq.Aj hq.name q.A7;refine⟨h',o',c,t,G',?_,w',by rw[Er];exact hc,x'⟩;rw[Ad,Gi];simp only[abS,Nat.reduceLeDiff,↓reduceIte,AQ,d,AE f,D,r2];try rfl
 rw[Ac f];by_cases g:q.k=3;.rw[Af g];dsimp only;let⟨r,fR,D,hr,DR⟩:=Xp (q:=q) hv hq.Aj.1 h;rw[Mk] at D;let⟨h',o',c',G',r2,w',Jq,x'⟩:=aKn (m:=5000000*j) w hc ok sz.aJ hr DR hq.Aj hq.name;refine⟨h',o',c',t,G',?_,w',Jq,x'⟩;rw[Ad,Gi];simp only[abS,Nat.reduceLeDiff,↓reduceIte,AQ,d,f,AE g,D,r2];try rfl
 rw[Ac g];by_cases i:q.k=4;.rw[Af i];dsimp only;let⟨h',G',r2,w',x'⟩:=aKt (m:=5000000*j) w ok sz.aJ q.r hq.r;refine⟨h',o,c,t,G',?_,w',hc,x'⟩;rw[Ad,Gi];simp only[abS,↓reduceIte,AQ,d,f,g,AE i,r2];try rfl
 rw[Ac i];by_cases y:q.k=5;.rw[Af y];dsimp only;let⟨h',G',r2,w',x'⟩:=aKv (m:=5000000*j) w ok sz.aJ q.s (by have:=hq.s;omega) q.a;refine⟨h',o,c,t,G',?_,w',hc,x'⟩;rw[Ad,Gi];simp only[abS,↓reduceIte,AQ,d,f,g,i,AE y,r2];try rfl
 rw[Ac y];by_cases z:q.k=6;.rw[Af z];dsimp only;let⟨r,fR,D,hr,DR⟩:=Xp (q:=q) hv hq.Aj.1 h;rw[Mk] at D;let⟨h',o',G',r2,w',x'⟩:=aKw (m:=5000000*j) w ok sz.aJ hr DR hq.Aj hq.name q.n;refine⟨h',o',c,t,G',?_,w',by show B4 (b.D9 q.name q.Aj 1).AW c;rw[Er];exact hc,x'⟩;rw[Ad,Gi];simp only[abS,↓reduceIte,AQ,d,f,g,i,y,AE z,D,r2];try rfl
 rw[Ac z];by_cases A:q.k=7;.rw[Af A];dsimp only;let⟨h',o',r2,w',x'⟩:=aKx w sz.rm;refine⟨h',o',c,t,G,?_,w',by have e:b.BH.AW=b.AW:=(by unfold BS.BH;split<;>rfl);rw[e];exact hc,x'⟩;rw[Ad,Gi];simp only[abS,↓reduceIte,AQ,d,f,g,i,y,z,AE A,r2];try rfl
 rw[Ac A];by_cases B:q.k=8;.rw[Af B];dsimp only;let⟨h',o',c',G',r2,w',Jq,x'⟩:=aKI (m:=5000000*j) w hc ok (sz.rm.le (by have:=sz.AW;omega));refine⟨h',o',c',t,G',?_,w',Jq,x'⟩;rw[Ad,Gi];simp only[abS,↓reduceIte,AQ,d,f,g,i,y,z,A,AE B,r2];try rfl
 rw[Ac B];by_cases C:q.k=9;.rw[Af C];dsimp only;let⟨h',o',r2,w',x'⟩:=aKy w sz.rm q.name;refine⟨h',o',c,t,G,?_,w',by have e:(b.Dz q.name).AW=b.AW:=(by unfold BS.Dz;split;split<;>rfl;rfl);rw[e];exact hc,x'⟩;rw[Ad,Gi];simp only[abS,↓reduceIte,AQ,d,f,g,i,y,z,A,B,AE C,r2];try rfl
 rw[Ac C];by_cases KT:q.k=10;.rw[Af KT];dsimp only;let⟨h',o',c',G',r2,w',Jq,x'⟩:=aK0 (m:=5000000*j) w hc ok (sz.rm.le (by have:=sz.AI;omega)) q.name;refine⟨h',o',c',t,G',?_,w',Jq,x'⟩;rw[Ad,Gi];simp only[abS,↓reduceIte,AQ,d,f,g,i,y,z,A,B,C,AE KT,r2];try rfl
 rw[Ac KT];by_cases Lf:q.k=11;.rw[Af Lf];dsimp only;let⟨h',r2,w',x'⟩:=aBZ w sz.rm;refine⟨h',o,c,t,G,?_,w',hc,x'⟩;rw[Ad,Gi];simp only[abS,↓reduceIte,AQ,d,f,g,i,y,z,A,B,C,KT,AE Lf,r2];try rfl
 rw[Ac Lf];by_cases L5:q.k=12;.rw[Af L5];dsimp only;let⟨r,fR,D,hr,DR⟩:=Xp (q:=q) hv hq.Aj.1 h;rw[Mk] at D;let⟨h',G',r2,w',x'⟩:=aKD (m:=5000000*j) w ok sz.aJ hr DR hq.Aj q.a;refine⟨h',o,c,t,G',?_,w',by have e:(b.EG q.Aj q.a).AW=b.AW:=(by unfold BS.EG;split<;>rfl);rw[e];exact hc,x'⟩;rw[Ad,Gi];simp only[abS,↓reduceIte,AQ,d,f,g,i,y,z,A,B,C,KT,Lf,AE L5,D,r2];try rfl
 rw[Ac L5];by_cases Mq:q.k=13;.rw[Af Mq];dsimp only;let⟨h',o',c',t',r2,w',Jq,x'⟩:=aKE w hc sz.rm;refine⟨h',o',c',t',G,?_,w',Jq,x'⟩;rw[Ad,Gi];simp only[abS,↓reduceIte,AQ,d,f,g,i,y,z,A,B,C,KT,Lf,L5,AE Mq,r2];try rfl
 rw[Ac Mq];by_cases Nb:q.k=14;.rw[Af Nb];dsimp only;let⟨h',r2,w',x'⟩:=aPG w;refine⟨h',o,c,t,G,?_,w',hc,x'⟩;rw[Ad,Gi];simp only[abS,↓reduceIte,AQ,d,f,g,i,y,z,A,B,C,KT,Lf,L5,Mq,AE Nb,r2];try rfl
 rw[Ac Nb];by_cases OJ:q.k=15;.rw[Af OJ];dsimp only;have w':BX (put h bi 15 (zp q.b)) bi a o c t G {b with Fe:=q.b}:=w.put rfl rfl w.o w.t;refine⟨put h bi 15 (zp q.b),o,c,t,G,?_,w',hc,Bd⟩;rw[Ad,Gi];simp only[abS,↓reduceIte,AQ,d,f,g,i,y,z,A,B,C,KT,Lf,L5,Mq,Nb,AE OJ,w.st (k:=15) (v:= .bool q.b) rfl rfl];try rfl
 rw[Ac OJ];by_cases PO:q.k=16;.rw[Af PO];dsimp only;have J:=sz.rm.tm;have cF:A0=140737488355328:=rfl;let⟨u,L,hu⟩:=w.t.1.Gg Ab;have K:=AX.JU (b:=8) (a:=q.n) hu Ab;have em:AA (.Dk 1) [I q.n]=zr (.sl 1 [Cb q.n]):=rfl;have Ja:Ec (b.tm++[q.n]) (.sl 1 ((b.tm++[q.n]).map Cb)):= .mk;have w':=w.oS (Vz.qa (l:=b.tm) (m:=q.n));refine⟨put h bi 6 (.sl 1 ((b.tm++[q.n]).map Cb)),o,c,_,G,?_,w',hc,Bd⟩;rw[Ad,Gi];simp only[abS,↓reduceIte,AQ,d,f,g,i,y,z,A,B,C,KT,Lf,L5,Mq,Nb,OJ,AE PO,w.l6,L,em,K,w.st (k:=6) (v0:=t) rfl (AX.cells Ja)];try rfl
 rw[Ac PO];by_cases QU:q.k=17;.rw[Af QU];dsimp only;have Sk:=sz.rm.AW;let⟨fs,Gp,SI⟩:=hc;let⟨u,r2,hu⟩:=f63 (h:=h) (id:=bi) (o:=3) (l:=fs) ⟨c,w.tQ,SI⟩ (by rw[<-Gp,Ao] at Sk;omega);have w':=w.KC (u:=u) (l:=b.AW++[z1]);have Jq:B4 (b.AW++[z1]) u:=⟨_,by rw[BL,Gp];rfl,hu⟩;refine⟨put h bi 3 u,o,u,t,G,?_,w',Jq,Bd⟩;rw[Ad,Gi];simp only[abS,↓reduceIte,AQ,d,f,g,i,y,z,A,B,C,KT,Lf,L5,Mq,Nb,OJ,PO,AE QU,r2];try rfl
 rw[Ac QU];by_cases Sq:q.k=18;.rw[Af Sq];dsimp only;let⟨h',o',r2,w',x'⟩:=aGu w sz.rm;have H:=aK1 b.sW h';refine⟨h',o',c,t,G,?_,w',by have e:b.IW.AW=b.AW:=(by unfold BS.IW;split<;>rfl);rw[e];exact hc,x'⟩;rw[Ad,Gi];simp only[abS,↓reduceIte,AQ,ER,d,f,g,i,y,z,A,B,C,KT,Lf,L5,Mq,Nb,OJ,PO,QU,AE Sq,r2,H];try rfl
 rw[Ac Sq];by_cases Ur:q.k=19;.rw[Af Ur];dsimp only;have w':BX (put h bi 7 (I q.a)) bi a o c t G {b with head:=q.a}:=w.put rfl rfl w.o w.t;refine⟨put h bi 7 (I q.a),o,c,t,G,?_,w',hc,Bd⟩;rw[Ad,Gi];simp only[abS,↓reduceIte,AQ,d,f,g,i,y,z,A,B,C,KT,Lf,L5,Mq,Nb,OJ,PO,QU,Sq,AE Ur,w.st (k:=7) (v:= I q.a) rfl rfl];try rfl
 rw[Ac Ur];by_cases Wz:q.k=20;.rw[Af Wz];dsimp only;have w':=w.tV q.n;refine⟨put h bi 4 (I q.n),o,c,t,G,?_,w',hc,Bd⟩;rw[Ad,Gi];simp only[abS,↓reduceIte,AQ,d,f,g,i,y,z,A,B,C,KT,Lf,L5,Mq,Nb,OJ,PO,QU,Sq,Ur,AE Wz,w.st (k:=4) (v:= I q.n) rfl rfl];try rfl
 rw[Ac Wz];by_cases oX:q.k=21;.rw[Af oX];dsimp only;have Sk:=sz.rm.AW;let⟨fs,Gp,SI⟩:=hc;let⟨u,r2,hu⟩:=f65 (h:=h) (id:=bi) (o:=3) (l:=fs) ⟨c,w.tQ,SI⟩ (by rw[<-Gp,Ao] at Sk;omega);have w':=w.KC (u:=u) (l:=GB b.AW);have Jq:B4 (GB b.AW) u:=⟨_,by rw[Ye,Gp],hu⟩;refine⟨put h bi 3 u,o,u,t,G,?_,w',Jq,Bd⟩;rw[Ad,Gi];simp only[abS,↓reduceIte,AQ,d,f,g,i,y,z,A,B,C,KT,Lf,L5,Mq,Nb,OJ,PO,QU,Sq,Ur,Wz,AE oX,r2];try rfl
 rw[Ac oX];by_cases ui:q.k=22;.rw[Af ui];dsimp only;have ho:=sz.rm.AI;have em:AA (.Dk 1) [zb q.name]=zr (.sl 1 ([q.name].map Cr)):=D2 (ws:=[q.name]) rfl AH;let⟨u,r2,hu⟩:=f66 w.sO Ab (Cw (ws:=[q.name])) AH;have w':=w.H5 hu;refine⟨put h bi 2 u,u,c,t,G,?_,w',hc,Bd⟩;rw[Ad,Gi];simp only[abS,↓reduceIte,AQ,d,f,g,i,y,z,A,B,C,KT,Lf,L5,Mq,Nb,OJ,PO,QU,Sq,Ur,Wz,oX,AE ui,em,r2];try rfl
 rw[Ac ui];by_cases ā:q.k=23;.rw[Af ā];dsimp only;have w':BX (put h bi 8 (I q.a)) bi a o c t G {b with KP:=q.a}:=w.put rfl rfl w.o w.t;refine⟨put h bi 8 (I q.a),o,c,t,G,?_,w',hc,Bd⟩;rw[Ad,Gi];simp only[abS,↓reduceIte,AQ,d,f,g,i,y,z,A,B,C,KT,Lf,L5,Mq,Nb,OJ,PO,QU,Sq,Ur,Wz,oX,ui,AE ā,w.st (k:=8) (v:= I q.a) rfl rfl];try rfl
 rw[Ac ā];by_cases E:q.k=24;.rw[Af E];dsimp only;let⟨r,fR,D,hr,DR⟩:=Xp (q:=q) hv hq.Aj.1 h;rw[Mk] at D;let⟨h',G',r2,w',x'⟩:=ô (m:=5000000*j) w ok sz.aJ hr DR hq.Aj hq.name q.a q.A7;have H:=aK1 (b.Hb q.name q.Aj q.A7) h';refine⟨h',o,c,t,G',?_,w',by have e:(b.Ex q.name q.Aj q.A7 q.a).AW=b.AW:=(by unfold BS.Ex;split<;>rfl);rw[e];exact hc,x'⟩;rw[Ad,Gi];simp only[abS,↓reduceIte,AQ,ER,d,f,g,i,y,z,A,B,C,KT,Lf,L5,Mq,Nb,OJ,PO,QU,Sq,Ur,Wz,oX,ui,ā,AE E,D,r2,H];try rfl
 rw[Ac E];refine⟨h,o,c,t,G,?_,w,hc,.refl⟩;rw[Ad,Gi];simp only[abS,↓reduceIte,AQ,d,f,g,i,y,z,A,B,C,KT,Lf,L5,Mq,Nb,OJ,PO,QU,Sq,Ur,Wz,oX,ui,ā,E];try rfl
end
def OK:∀l:List Int,(l.map Cb).flatten=l.map (Aa.int .i64)
 |[]=>rfl
 |x::l=>by simp[Cb,OK l]
def wg(q:Bool):Ar:={n:=[{kind:=1,CF:=1,Cs:=q}],i:=[0]}
def DJ(q:Bool):BS:={a:=wg q,CF:=1,AI:=[],AW:=[],mode:=1,RL:=0,tm:=[],head:=0,KP:=0,Mz:=zl,ctx:=zy,fs:=zd,Fe:=zl,sV:=[],skip:=zl,sw:=0,stop:=zl}
section
variable(sp:Int)(nm:Ai)(l:List A9)
def JL(q:Bool):BS:=
 {(DJ q).Ex DQ [] 1 1 with a:=((DJ q).Ex DQ [] 1 1).a.ES ((DJ q).Hb DQ [] 1).node 1 0,AI:=((DJ q).Ex DQ [] 1 1).AI++[(DJ q).Hb DQ [] 1],Mz:=zd,ctx:=⟨0,sp,nm,Fl sp nm l⟩}
def Mr(q:Bool):BS:=if AU [AO] (JL sp nm l q).ctx then{JL sp nm l q with tm:=[18]} else JL sp nm l q
def VG(q f:Bool):BS:=if f then{(Mr sp nm l q).H7 with KP:= -1} else(Mr sp nm l q).H7
end
structure Fg where
 Mz:Bool
 A7:Int
 name:Ai
 Aj:List A9
 Cs:Bool
 KP:Bool
def Fg.b(s:Fg):BS:=if s.Mz then VG s.A7 s.name s.Aj s.Cs s.KP else DJ s.Cs
def Nc(s:Fg)(av:Aa):List Aa:=[zp s.Mz,I s.A7,zb s.name,av,zp s.Cs,zp s.KP]
def aGN(q:Bool):E1 (wg q) 0:=by
 have h0:E1 (⟨[],[]⟩:Ar) 0:=by
  have hn:∀h,¬(⟨[],[]⟩:Ar).has h:=λh d=>by have h1:=d.1;have h2:=d.2;simp at h2;omega
  exact⟨rfl,λh d=>absurd d (hn h),λh d=>absurd d (hn h),λh d=>absurd d (hn h),λh d=>absurd d (hn h),λh d=>absurd d (hn h),λh d=>absurd d (hn h),λh d=>absurd d (hn h),λh d=>absurd d (hn h),λh d=>absurd d (hn h),⟨λ_=>0,λh d=>absurd d (hn h)⟩⟩
 have hx:v_ {kind:=1,CF:=1,Cs:=q}:=by constructor<;>simp[Cz,HU]
 exact ZC h0 hx (zi ⟨rfl,rfl⟩) rfl rfl rfl rfl (λh=>absurd h.1 (Bf:¬(1:Int)=4))
def Pr(q:Bool):ET (DJ q):=by refine⟨aGN q,⟨⟨IA 1,IA 1⟩,rfl⟩,λi hi=>(nomatch hi),Q7,λe he=>(nomatch he),Q7⟩
def Ps{q:Bool}(x:Int):(DJ q).a.nd x=if x=1 then{kind:=1,CF:=1,Cs:=q} else{}:=by
 rw[Ar.nd];by_cases h:x=1;.subst h;rfl
 .rw[Ac h,Ac];intro d;have h1:=d.1;have h2:=d.2;simp[DJ,wg] at h2;omega
def Pu(q:Bool):Sz (DJ q) 101:=by
 refine⟨⟨by simp[DJ,wg],λx=>?_,λx=>?_,by simp[DJ],by simp[DJ],by simp[DJ],λe he=>(nomatch he),λi hi=>(nomatch hi)⟩,by simp[DJ],by simp[DJ]⟩;.rw[Ps];split<;>simp
 .rw[Ps];split<;>simp
section
variable{h h':Ah}{bi a:Nat}{o c t:Aa}{G G' F:Nat->Prop}{b:BS}{x:Int}{m j:Nat}{q:uF}
variable{nm:Ai}{av:Aa}{l:List A9}{r:List Aa}{sp p:Int}
def aP6(h:Ah)(q:Bool):∃h1 h',BK cx 56 [] h (Pt (yx h) 0) h1/\BK cx 57 [Pt (yx h) 0,zp q] h1 (I 1) h'/\PA h' (yx h) (yx h+1) zf [⟨{kind:=1,CF:=1,Cs:=q},zx,zx,rfl⟩] (wg q)/\h'=h++[zt [.CC (yx h+1) 0 1 13,ys zf],zt [I 1,I 0,zx,I 1,I 0,S [],zx,S [],S [],S [],zp q,I 0,I 0]]:=by
 have g1:∀u:Ah,GF u 13 168 zx (.sl 13 [[I 1,I 0,zx,I 0,I 0,S [],zx,S [],S [],S [],zp q,I 0,I 0]])=zr (u++[zt [I 1,I 0,zx,I 0,I 0,S [],zx,S [],S [],S [],zp q,I 0,I 0]],.CC (yx u) 0 1 13):=λu=>rfl;obtain⟨d,e⟩:∃d,d=h++[zm [zx,ys zf]]:=⟨_,rfl⟩;have A:d[yx h]?=zr (zt [zx,ys zf]):=by rw[e];simp
 have XF:yx d=yx h+1:=by rw[e];simp
 have g2:=g1 d;rw[XF] at g2;have B:At d (yx h) 0 zx:=⟨_,A,rfl⟩;have w:(d++[zm [I 1,I 0,zx,I 0,I 0,S [],zx,S [],S [],S [],zp q,I 0,I 0]])[yx h]?=zr (zt [zx,ys zf]):=(Ak Ab).trans A;have J:(d++[zm [I 1,I 0,zx,I 0,I 0,S [],zx,S [],S [],S [],zp q,I 0,I 0]])[yx h+1]?=zr (zt [I 1,I 0,zx,I 0,I 0,S [],zx,S [],S [],S [],zp q,I 0,I 0]):=by rw[<-XF];simp
 have eH:(d++[zm [I 1,I 0,zx,I 0,I 0,S [],zx,S [],S [],S [],zp q,I 0,I 0]]).length=yx h+2:=by rw[Aw,XF];rfl
 have s:d++[zm [I 1,I 0,zx,I 0,I 0,S [],zx,S [],S [],S [],zp q,I 0,I 0]]=h++[zt [zx,ys zf],zt [I 1,I 0,zx,I 0,I 0,S [],zx,S [],S [],S [],zp q,I 0,I 0]]:=by rw[e,AK];rfl
 generalize d++[zm [I 1,I 0,zx,I 0,I 0,S [],zx,S [],S [],S [],zp q,I 0,I 0]]=g at*;have t2:At g (yx h) 0 zx:=⟨_,w,rfl⟩;have D:=t2.store (u:= .CC (yx h+1) 0 1 13) rfl;have z:=HV (k:=0) (v:= .CC (yx h+1) 0 1 13) w;have n:(put g (yx h) 0 (.CC (yx h+1) 0 1 13))[yx h+1]?=_:=(Ce Ab).trans J;have M:put g (yx h) 0 (.CC (yx h+1) 0 1 13)=h++[zt [.CC (yx h+1) 0 1 13,ys zf],zt [I 1,I 0,zx,I 0,I 0,S [],zx,S [],S [],S [],zp q,I 0,I 0]]:=by rw[IM w,s,BV _ _ (Ae _),Dl];rfl
 generalize put g (yx h) 0 (.CC (yx h+1) 0 1 13)=f at*;have l3:A5 f zf (Pt (yx h) 0)=zr (.CC (yx h+1) 0 1 13):=zj ⟨_,z,rfl⟩;have L:AA (.EE 13) [.CC (yx h+1) 0 1 13,I 0]=zr (.ptr (zr (yx h+1,0))):=Fk (k:= .i64) (i:=0) Bf;have t3:At f (yx h+1) 3 (I 0):=⟨_,n,rfl⟩;have C:=t3.store (u:=I 1) rfl;have N:(put f (yx h+1) 3 (I 1))[yx h]?=_:=(Ce Ab).trans z;have H:=HV (k:=3) (v:=I 1) n;have K:put f (yx h+1) 3 (I 1)=h++[zt [.CC (yx h+1) 0 1 13,ys zf],zt [I 1,I 0,zx,I 1,I 0,S [],zx,S [],S [],S [],zp q,I 0,I 0]]:=by rw[IM n,M,BV _ _ Ab,UL];rfl
 refine⟨d,put f (yx h+1) 3 (I 1),?_,?_,⟨rfl,rfl,N,H,?_,?_,zi ⟨rfl,λk=>?_⟩⟩,K⟩;.rw[Ad,zF];simp[abS,AQ,e]
 .have E:BK cx 157 [Pt (yx h) 0,zh [I 1,I 0,zx,I 0,I 0,S [],zx,S [],S [],S [],zp q,I 0,I 0]] d (I 1) f:=by simp[Ad,XL,BD,AQ,Wn,B.load,show AA (.Dk 13) [zh [I 1,I 0,zx,I 0,I 0,S [],zx,S [],S [],S [],zp q,I 0,I 0]]=zr (.sl 13 [[I 1,I 0,zx,I 0,I 0,S [],zx,S [],S [],S [],zp q,I 0,I 0]]) from rfl,g2,D,l3,show AA (.len zl) [.CC (yx h+1) 0 1 13]=zr (I 1) from rfl]
  have r2:BK cx 152 [Pt (yx h) 0,I 1] f (.ptr (zr (yx h+1,0))) f:=by simp[Ad,XK,BD,Wn,l3,show AA (.int .sub) [I 1,I 1]=zr (I 0) from rfl,L]
  simp[Ad,jN,abS,AQ,E,r2,C]
 .intro p hp;rw[AM] at hp;subst hp;exact zi ⟨rfl,rfl⟩
 .simp[GH,Ii]
 .unfold Ar.inr;split;.rename_i y;have h1:=y.1;have h2:=y.2;simp[wg] at h2;have:k=1:=Ab;subst this;rfl
  .rfl
def aK2(h:Ah)(q:Bool):∃h1 h2 h' bi G,BK cx 56 [] h (Pt (yx h) 0) h1/\BK cx 57 [Pt (yx h) 0,zp q] h1 (I 1) h2/\BK cx 59 [Pt (yx h) 0,I 1] h2 (Pt bi 0) h'/\BX h' bi (yx h) zx zx zx G (DJ q)/\Du h (λ_=>False) h' (Bu bi G):=by
 let⟨h1,h2,g,r2,d,f⟩:=aP6 h q;obtain⟨r,t,e,K,V,rfl,n,k,_⟩:=aGe (x:=1) d ((Pu q).rm.Wt) ((Pu q).rm.Wt.Be (Pr q).ok 1);have hx:(wg q).has 1:=⟨IA 1,IA 1⟩;have ŏ:(wg q).nd 1={kind:=1,CF:=1,Cs:=q}:=(Ps (q:=q) 1).trans (Af rfl);rw[Af hx,ŏ] at e;have wt:PA (h2++t) _ _ _ _ _:=d.Dj λi hi=>Ak (d.lt i hi);refine⟨h1,h2,h2++t++[zt (JP (yx h) (DJ q) zx zx zx)],(h2++t).length,λi=>i∈GH (yx h) (yx h+1) zf [⟨{kind:=1,CF:=1,Cs:=q},zx,zx,rfl⟩],g,r2,?_,⟨AH,ze ⟨rfl,rfl⟩,Vz.nil,?_,?_⟩,?_⟩;.rw[Ad,zG];simp only[abS,Nat.reduceLeDiff,AQ,e,aaS];exact⟨λh=>absurd rfl h,λ_=>⟨λh=>absurd rfl h,λ_=>rfl⟩⟩
 .exact⟨_,_,_,wt.Dj λi hi=>Ak (wt.lt i hi),λi=>Iff.rfl⟩
 .intro hm;cases (DF _) (wt.lt _ hm)
 .have EH:yx h<=yx h2:=by rw[f];simp
  refine⟨EP,λi hi _=>?_,λi hi=> ze ?_⟩;.rw[AK,Ak Ab,f,Ak hi]
  .rcases hi with rfl|hi
   .simp;omega
   .simp[GH,Ii] at hi;omega
section
variable(sp:Int)(nm:Ai)(l:List A9)
def Ă(q:Bool):ET (JL sp nm l q)/\Sz (JL sp nm l q) 100:=by
 refine⟨?_,?_⟩
 .let⟨Xl,f,v⟩:=QP (nm:=DQ) (at_:=[]) (p:=1) (Pr q) Kn;have õ:=Xl.JA (Ph (n:=((DJ q).Hb DQ [] 1).node) (p:=1) (b:=0) Xl.ok) Jz;have g:Le ((DJ q).Ex DQ [] 1 1).a (((DJ q).Ex DQ [] 1 1).a.ES ((DJ q).Hb DQ [] 1).node 1 0):=Jz;have ho:((DJ q).Ex DQ [] 1 1).AI=[]:=by rw[zc];rw[Af Kn];rfl
  have s:=õ.aFz (i:=(DJ q).Hb DQ [] 1) (k:=0) ⟨g.has _ f.has,by rw[g.kind _ f.has];exact f.kind,by rw[g.A7 _ f.has];exact f.A7,by rw[g.name _ f.has];exact f.name⟩ (by simp only[ho];simp);exact s.of_eq rfl rfl (by simp only[JL,ho];rfl) rfl
 .have sz:=Pu q;have e:((DJ q).Ex DQ [] 1 1).AI=[]/\((DJ q).Ex DQ [] 1 1).AW=[]:=by rw[zc];rw[Af Kn];exact⟨rfl,rfl⟩
  have u:=JB (m:=5000000*100+1) (nm:=DQ) (l:=[]) (sp:=1) (p:=1) (sz.rm.le Ab) ⟨Bf,λa ha=>(nomatch ha)⟩;have r2:=u.JA (Kv (x:=((DJ q).Hb DQ [] 1).node) (p:=1) (bf:=0));have d:=r2.aDq (i:=(DJ q).Hb DQ [] 1) (l':=((DJ q).Ex DQ [] 1 1).AI++[(DJ q).Hb DQ [] 1]) AH (λj hj=>zv hj) (OE Bf);exact⟨⟨d.n,d.at_,d.data,d.AI,d.AW,d.tm,d.DL,d.Xe⟩,by simp only[JL,e.1];show 1+1200*100<=125000;decide,by simp only[JL,e.2];decide⟩
def aK(q:Bool):ET (Mr sp nm l q)/\Sz (Mr sp nm l q) 100:=by
 let⟨e,d⟩:=Ă sp nm l q;rw[Mr];split;.have r:=d.rm;exact⟨e.of_eq rfl rfl rfl rfl,⟨⟨r.n,r.at_,r.data,r.AI,r.AW,AH,r.DL,r.Xe⟩,d.AI,d.AW⟩⟩
 .exact⟨e,d⟩
def aCd(q f:Bool):ET (VG sp nm l q f)/\Sz (VG sp nm l q f) 100:=by
 let⟨wc,d⟩:=aK sp nm l q;have e:B0 (Mr sp nm l q).H7 (5000000*100):=d.rm.mode;rw[VG];split;.exact⟨(T7 wc).of_eq rfl rfl rfl rfl,⟨⟨e.n,e.at_,e.data,e.AI,e.AW,e.tm,e.DL,e.Xe⟩,d.AI,d.AW⟩⟩
 .exact⟨T7 wc,⟨e,d.AI,d.AW⟩⟩
end
def BX.ă(w:BX h bi a o c t G b)(i:Item):∃h',Cy h 4 (Pt bi 10) (zh i.row)=zr h'/\BX h' bi a o c t G {b with ctx:=i}/\Du h (Bu bi G) h' (Bu bi G):=by refine⟨h.set bi (zt (JP a {b with ctx:=i} o c t)),?_,⟨AY w.lt,w.o,w.t,w.w.Dj λj hj=>Au λe=>w.nb (by rwa[e]),w.nb⟩,⟨by rw[Br];exact Ae _,λj _ hn=>Au λe=>hn (zi e.symm),λ_ h=> zi h⟩⟩;simp only[Cy,w.hb];rfl
def aP8(h:Ah)(sp:Int)(nm:Ai)(hv:AL l av)(hl:DV l)(q f q':Bool):∃h1 h2 h' bi o t G,BK cx 56 [] h (Pt (yx h) 0) h1/\BK cx 57 [Pt (yx h) 0,zp q] h1 (I 1) h2/\BK cx 58 [Pt (yx h) 0,I 1,zh [I sp,zb nm,av,zp q',zp f]] h2 (Pt bi 0) h'/\BX h' bi (yx h) o zx t G (VG sp nm l q f)/\Du h (λ_=>False) h' (Bu bi G):=by
 let⟨h1,h2,h3,bi,G,M,r2,L,w,x⟩:=aK2 h q;have hr:OG DQ zx [I 2,zb DQ,ff,S [],ff,S [],ff,ff,zx,ff,S [],yw .i32 0]:=⟨I 2,ff,S [],ff,S [],ff,ff,ff,S [],yw .i32 0,rfl⟩;let⟨h4,G4,K,w4,X⟩:=ô (m:=1000) w (Pr q).ba ((Pu q).rm.le Ab) hr (l:=[]) (ze ⟨rfl,rfl⟩) ⟨Bf,λa ha=>(nomatch ha)⟩ Bf 1 1;let⟨wc,f4,le4⟩:=QP (nm:=DQ) (at_:=[]) (p:=1) (Pr q) Kn;have Q:=JB (m:=1000) (nm:=DQ) (l:=[]) (sp:=1) (p:=1) ((Pu q).rm.le Ab) ⟨Bf,λa ha=>(nomatch ha)⟩;let⟨z,g,J,T,W⟩:=tR (x:=((DJ q).Hb DQ [] 1).node) (p:=1) (bf:=0) w4 wc.ba Q;have ho:((DJ q).Ex DQ [] 1 1).AI=[]:=by rw[BS.Ex];rw[Af Kn];rfl
 let⟨d,H,A⟩:=f95 T.sO (by simp only[ho];decide) ((DJ q).Hb DQ [] 1);have O:=T.H5 A;have Z:BX (put (put z bi 2 d) bi 9 tt) bi (yx h) d zx zx g _:=O.put (k:=9) (v:=tt) (b':={{{(DJ q).Ex DQ [] 1 1 with a:=((DJ q).Ex DQ [] 1 1).a.ES ((DJ q).Hb DQ [] 1).node 1 0} with AI:=((DJ q).Ex DQ [] 1 1).AI++[(DJ q).Hb DQ [] 1]} with Mz:=zd}) rfl rfl A O.t;have D:Cy (put z bi 2 d) 1 (Pt bi 9) tt=zr (put (put z bi 2 d) bi 9 tt):=O.st (k:=9) (v:=tt) (v0:= zp ((DJ q).Ex DQ [] 1 1).Mz) rfl rfl;have E:BK cx 160 [I sp,zb nm,av] (put (put z bi 2 d) bi 9 tt) (zp (Fl sp nm l)) (put (put z bi 2 d) bi 9 tt):=f96 hv (λa ha=>by have:=(hl.2 a ha).2;have:A0=140737488355328:=rfl;omega) (by have:=hl.1;omega) sp nm _;let⟨u,s8,R,V⟩:=Z.ă ⟨0,sp,nm,Fl sp nm l⟩;have i:BX u bi (yx h) d zx zx g (JL sp nm l q):=R;have N:Du h (λ_=>False) u (Bu bi g):=((((x.trans X).trans W).trans Bd).trans Bd).trans V;clear R;have n:=i.aBY;let⟨aP9,P⟩:=aK sp nm l q;have y:=aj (ws:=[AO]) Cw Bf (JL sp nm l q).ctx u;have key:∃B t9,BX B bi (yx h) d zx t9 g (Mr sp nm l q)/\Du u (Bu bi g) B (Bu bi g)/\(AU [AO] (JL sp nm l q).ctx=zd->Cy u 1 (Pt bi 6) (.sl 1 [[I 18]])=zr B)/\(AU [AO] (JL sp nm l q).ctx=zl->B=u):=by
  by_cases s:AU [AO] (JL sp nm l q).ctx=zd;.have hu:Ec [18] (.sl 1 [[I 18]]):= .mk;refine⟨put u bi 6 (.sl 1 [[I 18]]),.sl 1 [[I 18]],?_,Bd,λ_=>i.st (k:=6) (v0:= zx) rfl rfl,λh=>absurd s (by rw[h];decide)⟩;rw[Mr];rw[Af s];exact i.oS ⟨zi hu,λe=>by injection e with _ e;simp at e⟩
  .refine⟨u,zx,?_,.refl,λh=>absurd h s,λ_=>rfl⟩;rw[Mr];rwa[Ac s]
 let⟨B,t9,Y,U,k1,k2⟩:=key;let⟨Yc,uD,VF,mb⟩:=aBZ Y P.rm;have em:AA (.Dk 1) [I 18]=zr (.sl 1 [[I 18]]):=rfl;have C:Du h (λ_=>False) Yc (Bu bi g):=(N.trans U).trans mb;generalize(DJ q).Hb DQ [] 1=it at*;have Ą:Cy (put (put z bi 2 d) bi 9 tt) 4 (Pt bi 10) (zh [I 0,I sp,zb nm,zp (Fl sp nm l)])=zr u:=s8;have tz:AA (.Dk 1) [S aXs]=zr (.sl 1 ([AO].map Cr)):=tW;cases s:AU [AO] (JL sp nm l q).ctx with
 |true=>
  rw[s] at y;have uH:=k1 s;cases f with
  |true=>
   refine⟨h1,h2,put Yc bi 8 (I (-1)),bi,d,t9,g,M,r2,?_,?_,C.trans Bd⟩;.rw[Ad,jO];simp only[abS,Nat.reduceLeDiff,↓reduceIte,AQ,ER,L,K,J,H,D,E,Ą,n,tz,y,em,uH,uD,VF.st (k:=8) (v:=I (-1)) rfl rfl]
   .unfold VG;rw[Af rfl];exact VF.put rfl rfl VF.o VF.t
  |false=>refine⟨h1,h2,Yc,bi,d,t9,g,M,r2,?_,VF,C⟩;simp only[Ad,jO,abS,Nat.reduceLeDiff,↓reduceIte,AQ,ER,L,K,J,H,D,E,Ą,n,tz,y,em,uH,uD]
 |false=>
  rw[s] at y;have wh:=k2 s;subst wh;cases f with
  |true=>
   refine⟨h1,h2,put Yc bi 8 (I (-1)),bi,d,t9,g,M,r2,?_,?_,C.trans Bd⟩;.rw[Ad,jO];simp only[abS,Nat.reduceLeDiff,↓reduceIte,AQ,ER,L,K,J,H,D,E,Ą,n,tz,y,em,uD,VF.st (k:=8) (v:=I (-1)) rfl rfl]
   .unfold VG;rw[Af rfl];exact VF.put rfl rfl VF.o VF.t
  |false=>refine⟨h1,h2,Yc,bi,d,t9,g,M,r2,?_,VF,C⟩;simp only[Ad,jO,abS,Nat.reduceLeDiff,↓reduceIte,AQ,ER,L,K,J,H,D,E,Ą,n,tz,y,em,uD]
def aQa(h:Ah)(s:Fg)(hv:AL s.Aj av)(hl:DV s.Aj):∃h' bi a o c t G,BK cx 21 [zh (Nc s av)] h (Pt bi 0) h'/\BX h' bi a o c t G s.b/\B4 s.b.AW c/\Du h (λ_=>False) h' (Bu bi G):=by
 have xM:(JL s.A7 s.name s.Aj s.Cs).AW=[]:=by rw[JL];simp only;rw[zc];rw[Af Kn];rfl
 cases hf:s.Mz with
 |true=>
  let⟨h1,h2,h',bi,o,t,G,f,r2,d,w,x⟩:=aP8 h s.A7 s.name hv hl s.Cs s.KP s.Cs;refine⟨h',bi,yx h,o,zx,t,G,?_,by rw[Fg.b];rwa[Af hf],?_,x⟩;.rw[Ad,È,Nc,hf];simp[BD,f,r2,d]
  .have e:s.b.AW=[]:=by unfold Fg.b VG Mr;rw[Af hf];split<;>split<;>exact xM
   rw[e];exact⟨[],rfl,ze ⟨rfl,rfl⟩⟩
 |false=>
  let⟨h1,h2,h',bi,G,f,r2,d,w,x⟩:=aK2 h s.Cs;have e:s.b=DJ s.Cs:=by rw[Fg.b];rw[Ac (by rw[hf];decide)]
  refine⟨h',bi,yx h,zx,zx,zx,G,?_,by rwa[e],by rw[e];exact⟨[],rfl,ze ⟨rfl,rfl⟩⟩,x⟩;simp[Ad,È,Nc,hf,BD,f,r2,d]
def Fg.ok(s:Fg):ET s.b/\Sz s.b 100:=by
 rw[Fg.b];split;.exact aCd _ _ _ _ _
 .have h:=Pu s.Cs;exact⟨Pr _,⟨h.rm.le Ab,by have:=h.AI;omega,by have:=h.AW;omega⟩⟩
end
def NS(h:Ah)(lo:Nat)(v:Aa)(l:List Int):Prop:=(v= zx/\l=[])\/∃id,lo<=id/\v= .CC id 0 (yx l) 1/\h[id]?=zr (zt (l.map (Aa.int .i64)))
def Nd(h:Ah)(lo:Nat)(v:Aa)(l:List B5):Prop:=(v= zx/\l=[])\/∃id,∃fs:List Cp,lo<=id/\v= .CC id 0 (yx fs) 3/\h[id]?=zr (zt (fs.map zq).flatten)/\fs.map (·.c)=l
section
variable{h h':Ah}{lo lo':Nat}{v:Aa}
def NS.cells{l:List Int}(hv:NS h lo v l):v.cells=[v]:=by rcases hv with⟨rfl,_⟩|⟨id,_,rfl,_⟩<;>rfl
def Nd.cells{l:List B5}(hv:Nd h lo v l):v.cells=[v]:=by rcases hv with⟨rfl,_⟩|⟨id,fs,_,rfl,_⟩<;>rfl
def NS.Dj{l:List Int}(hv:NS h lo v l)(hf:∀i,lo<=i->i<yx h->h'[i]?=h[i]?):NS h' lo v l:=by
 obtain hv|⟨id,h1,h2,d⟩:=hv
 .exact zi hv
 .exact ze ⟨id,h1,h2,by rwa[hf id h1 (Aq.1 d).1]⟩
section
variable{l:List B5}(hv:Nd h lo v l)
def Nd.Dj(hf:∀i,lo<=i->i<yx h->h'[i]?=h[i]?):Nd h' lo v l:=by
 obtain hv|⟨id,fs,h1,h2,d,e⟩:=hv
 .exact zi hv
 .exact ze ⟨id,fs,h1,h2,by rwa[hf id h1 (Aq.1 d).1],e⟩
def Nd.low(hl:lo'<=lo):Nd h lo' v l:=by
 obtain hv|⟨id,fs,h1,h2⟩:=hv
 .exact zi hv
 .exact ze ⟨id,fs,Ab,h2⟩
end
def NS.S4{l:List Int}(hv:NS h lo v l):QR h v l:=by
 rcases hv with⟨rfl,rfl⟩|⟨id,_,rfl,hc⟩
 .exact⟨rfl,λk hk=>by simp at hk⟩
 .refine⟨rfl,λk hlt=>⟨Pt id k,by have:=Fk (id:=id) (z:=1) (k:= .i64) hlt;rwa [Ge] at this,?_⟩⟩;simp only[A5,hc,Fu];simp[hlt]
def aDT{h u:Ah}{V:Aa}{L:List Int}(i:NS (h++u) (yx h) V L)(hb:yx L<=1000000000)(x:Int):∃d g,GF (h++u) 1 8 V (.sl 1 [[I x]])=zr (h++d,g)/\NS (h++d) (yx h) g (L++[x]):=by
 have cF:A0=140737488355328:=rfl;rcases i with⟨rfl,rfl⟩|⟨id,IC,rfl,hc⟩
 .exact⟨u++[zt [I x]],.CC (h++u).length 0 1 1,by rw[<-AK];rfl,ze ⟨(h++u).length,AH,rfl,AH⟩⟩
 .have hr:∀r∈L.map Cb,yx r=1:=M0 (f:=Cb) (λ_=>rfl) L;have Jq:(h++u)[id]?=zr (zt (L.map Cb).flatten):=by rwa[OK]
  have hg:=Kb (b:=8) (AD:=L.map Cb) (r2:=[[I x]]) (v:= .sl 1 [[I x]]) hr Bf Jq .mk AH (by rw[Ao];simp;omega);rw[Ao] at hg;have e:(h++u).set id .CU++[zm (L.map Cb++[[I x]]).flatten]=h++(u.set (id-yx h) .CU++[zt ((L++[x]).map (Aa.int .i64))]):=by rw[BV _ _ IC,AK,PR,OK,BL];rfl
  rw[e] at hg;have eH:(h++(u.set (id-yx h) DG.CU++[zt ((L++[x]).map (Aa.int .i64))]))=(h++u.set (id-yx h) DG.CU)++[zt ((L++[x]).map (Aa.int .i64))]:=by rw[AK]
  have pV:(h++u.set (id-yx h) DG.CU).length=(h++u).length:=AH;refine⟨_,_,hg,ze ⟨(h++u).length,AH,AH,?_⟩⟩;rw[eH,<-pV,Bz (Ae _),Dl];rfl
def aK4{h u:Ah}{V:Aa}{L:List B5}(g:Nd (h++u) (yx h) V L)(hb:yx L<=1000000000)(x:Cp):∃d f,GF (h++u) 3 48 V (.sl 3 [x.row])=zr (h++d,f)/\Nd (h++d) (yx h) f (L++[x.c]):=by
 have cF:A0=140737488355328:=rfl;rcases g with⟨rfl,rfl⟩|⟨id,fs,IC,rfl,hc,rfl⟩
 .exact⟨u++[zt (([x]:List Cp).map zq).flatten],.CC (h++u).length 0 1 3,by rw[<-AK];rfl,ze ⟨(h++u).length,[x],AH,rfl,AH,rfl⟩⟩
 .rw[Ao] at hb;have hg:=Kb (b:=48) (AD:=fs.map zq) (r2:=[x.row]) (v:= .sl 3 [x.row]) (Pe fs) Bf hc .mk AH (by rw[Ao];simp;omega);rw[Ao] at hg;have e:(h++u).set id .CU++[zt (fs.map zq++[x.row]).flatten]=h++(u.set (id-yx h) .CU++[zt ((fs++[x]).map zq).flatten]):=by rw[BV _ _ IC,AK,BL];rfl
  rw[e] at hg;have eH:(h++(u.set (id-yx h) DG.CU++[zt ((fs++[x]).map zq).flatten]))=(h++u.set (id-yx h) DG.CU)++[zt ((fs++[x]).map zq).flatten]:=by rw[AK]
  have pV:(h++u.set (id-yx h) DG.CU).length=(h++u).length:=AH;refine⟨_,_,hg,ze ⟨(h++u).length,fs++[x],AH,AH,?_,AH⟩⟩;rw[eH,<-pV,Bz (Ae _),Dl];rfl
end
structure SS where
 mode:Int
 RL:Int
 tm:List Int
 AI:List Int
 AW:List B5
 head:Int
 KP:Int
 fs:Bool
 Fe:Bool
 sV:Ai
 skip:Bool
 sw:Int
 stop:Bool
def BS.Yo(b:BS):SS:=⟨b.mode,b.RL,b.tm,b.AI.map z7,b.AW,b.head,b.KP,b.fs,b.Fe,b.sV,b.skip,b.sw,b.stop⟩
def WA(s:SS)(t o c:Aa):List Aa:=[I s.mode,I s.RL,t,o,c,I s.head,I s.KP,zp s.fs,zp s.Fe,zb s.sV,zp s.skip,I s.sw,zp s.stop]
structure Us(h:Ah)(lo:Nat)(s:SS)(t o c:Aa):Prop where
 t:S5 s.tm t
 o:NS h lo o s.AI
 c:Nd h lo c s.AW
section
variable{h h':Ah}{bi a lo:Nat}{o c t:Aa}{G G' F:Nat->Prop}{b:BS}{x:Int}{m:Nat}
def Us.Dj{s:SS}(w:Us h lo s t o c)(hf:∀i,lo<=i->i<yx h->h'[i]?=h[i]?):Us h' lo s t o c:=⟨w.t,w.o.Dj hf,w.c.Dj hf⟩
def bb{h:Ah}{n:Nat}(hn:n<=1000000000):Tm h 3 48 [I 0,S [],zx] (I (n:Int)) (I (n:Int))=zr (h++[zt (zk n [I 0,S [],zx]).flatten],.CC (yx h) 0 n 3):=by
 have hm:A0=140737488355328:=rfl;unfold Tm;simp only
 rw[Af ⟨Ab,Ab,Ab,rfl⟩];rfl
def aQb(w:BX h bi a o c t G b)(hc:B4 b.AW c)(rm:B0 b m):∃t' o' c' u,BK cx 47 [Pt bi 0] h (zh (WA b.Yo t' o' c')) (h++u)/\Us (h++u) (yx h) b.Yo t' o' c':=by
 have cF:A0=140737488355328:=rfl;have ho:=rm.AI;have Sk:=rm.AW;have M:=rm.tm;let⟨t',e0,FX⟩:=aGr w.t.1 Ab h;have B:t'.cells=[t']:=FX.1.cells;let⟨fs,Gp,hv⟩:=hc;have HB:yx b.AW=yx fs:=by rw[<-Gp,Ao]
 have s:=AX.CK w.o;have IJ:Ev cx 47 [Pt bi 0] h λr h'=>∃t' o' c' u,r= zh (WA b.Yo t' o' c')/\h'=h++u/\Us (h++u) (yx h) b.Yo t' o' c':=by
  unfold Ev;simp only[aFI,t47,abS,Nat.reduceLeDiff,↓reduceIte,AQ,I1 w,w.ld,JP,e0,BN,B,s];refine Dr (i:=0) (λz:Aa×Nat=>[zh [I b.mode,I b.RL,t',z.1,zx,I b.head,I b.KP,zp b.fs,zp b.Fe,zb b.sV,zp b.skip,I b.sw,zp b.stop],I (z.2:Int)]) (λz h1=>z.2<=yx b.AI/\∃u,h1=h++u/\NS (h++u) (yx h) z.1 ((b.AI.take z.2).map z7)) (λz=>yx b.AI-z.2) (λz h1=>∃u,h1=h++u/\NS (h++u) (yx h) z.1 (b.AI.map z7)) (zx,0) rfl ⟨AV _,[],AH,zi ⟨rfl,AH⟩⟩ ?_ ?_
  .rintro⟨V,n⟩ h1 ⟨hn,u,rfl,l⟩;simp only at hn l;have N:=l.cells;obtain hlt|Et:=AP n b.AI.length
   .have q:=AX.BG (k:= .i64) w.o hlt;rw[Item.row] at q;let⟨E,U,g1,j⟩:=aDT l (by rw[Ao,Ax];omega) b.AI[n].node;have g:=j.cells;have em:AA (.Dk 1) [I b.AI[n].node]=zr (.sl 1 [[I b.AI[n].node]]):=rfl;simp only[abS,Nat.reduceLeDiff,↓reduceIte,(Ab:(n:Int)<(b.AI.length:Int)),q,em,g1,g,By n];exact .next (U,n+1) rfl ⟨hlt,E,rfl,by rw[AB hlt,BL];exact j⟩ DA
   .rw[AF Et] at l;simp[abS,(Ab:¬(n:Int)<(b.AI.length:Int))];exact .He (V,n) rfl ⟨u,rfl,l⟩
  .rintro⟨O,W⟩ h1 ⟨u,rfl,p⟩;simp only at p;have P:=p.cells;have w1:=w.HY (u:=u);have A:=w1.l3;have lc:=AX.CK hv;simp only[abS,↓reduceIte,A,lc];refine wC (bb (h:=h++u) (n:=yx fs) Ab) ?_;obtain⟨d,f⟩:∃d,d=h++u:=⟨_,rfl⟩;rw[<-f] at p⊢;have T:(d++[zm (zk (yx fs) [I 0,S [],zx]).flatten])[yx d]?=zr (zt (zk (yx fs) [I 0,S [],zx]).flatten):=AH;have y:A5 (d++[zm (zk (yx fs) [I 0,S [],zx]).flatten]) zf (Pt bi 3)=zr c:=by rw[f];exact(w1.HY).l3
   have aB3:(zk (yx fs) [I 0,S [],Aa.slnil]).flatten.length=yx fs*3:=by rw[Gq (z:=3) (by intro r hr;rw[(List.mem_replicate.1 hr).2];rfl),Gu]
   have R:EF (.copy 3) (d++[zm (zk (yx fs) [I 0,S [],zx]).flatten]) [.CC (yx d) 0 (yx fs) 3,c]=zr (d++[zm (fs.map zq).flatten],I (yx fs:Int)):=by
    have Q:Hz (d++[zm (zk (yx fs) [I 0,S [],zx]).flatten]) 3 c=zr (fs.map zq):=by
     obtain rfl|⟨rfl,h0⟩:=hv
     .simp[Hz]
     .rw[h0];rfl
    simp only[EF,de,Q,T];rw[Af ⟨trivial,AH,by rw[aB3];omega⟩];have h1:(zk (yx fs) [I 0,S [],Aa.slnil]).flatten.drop (0+(fs.map zq).length*3)=[]:=AT (by rw[aB3,Ao];omega);rw[h1,KU,BY,BB,Ao,BV _ _ (Ae _),Dl];rfl
   have K:AA (.len zl) [.CC (yx d) 0 (yx fs) 3]=zr (I (yx fs:Int)):=rfl;simp only[abS,↓reduceIte,y,R,K];refine Dr (i:=2) (λn:Nat=>[I (n:Int)]) (λn h1=>n<=yx fs/\∃Iv:List Cp,h1=d++[zt (Iv.map zq).flatten]/\yx Iv=yx fs/\Iv.map (·.c)=b.AW) (λn=>yx fs-n) (λn h1=>∃Iv:List Cp,h1=d++[zt (Iv.map zq).flatten]/\yx Iv=yx fs/\Iv.map (·.c)=b.AW) 0 rfl ⟨AV _,fs,rfl,rfl,Gp⟩ ?_ ?_
   .rintro n h1 ⟨hn,Iv,rfl,XF,vW⟩;obtain hlt|Et:=AP n fs.length
    .have S6:n<yx Iv:=by omega
     have C:Iv[n].c=b.AW[n]'(by omega):=by simp only[<-vW,CR]
     have VV:=(rm.DL Iv[n].c (by rw[C];exact AN _)).2.1;have q:AA (.EE 3) [.CC (yx d) 0 (yx fs) 3,I (n:Int)]=zr (Pt (yx d) (n*3)):=Fk hlt;have D:(d++[zm (Iv.map zq).flatten])[yx d]?=zr (zt (Iv.map zq).flatten):=AH;have hg:(Iv.map zq)[n]?=zr Iv[n].row:=by rw[Cc,An S6];rfl
     have L:A5 (d++[zm (Iv.map zq).flatten]) zf (Pt (yx d) (n*3+2))=zr Iv[n].v:=by simp only[A5,D,Fu];exact L2 (Pe Iv) Bf hg
     let⟨av,J,bJ⟩:=f45 (h:=d++[zm (Iv.map zq).flatten]) Iv[n].ok Ab;have aGP:av.cells=[av]:=z2 bJ;have H:Cy (d++[zm (Iv.map zq).flatten]) 1 (Pt (yx d) (n*3+2)) av=zr (d++[zt ((Iv.set n ⟨Iv[n].c,av,bJ⟩).map zq).flatten]):=by have e:=OF (AD:=Iv.map zq) (i:=n) (k:=2) (v:=av) (Pe Iv) (zv S6) Bf;simp only[Cy,D,aGP,Bl,Nr];rw[Af (by rw[Gq (Pe Iv),Ao];omega),e,BV _ _ (Ae _),Dl,EI,CR];rfl
     simp only[abS,(Ab:(n:Int)<(fs.length:Int)),q,L,J,H,By n];refine .next (n+1) rfl ⟨hlt,_,rfl,by rw[Br];exact XF,?_⟩ Ab
     rw[EI,vW];have vV:n<b.AW.length:=Ab;show b.AW.set n Iv[n].c=b.AW;rw[C,Kj]
    .simp only[abS,(Ab:¬(n:Int)<(yx fs:Int))];exact .He n rfl ⟨Iv,rfl,XF,vW⟩
   .rintro n h1 ⟨Iv,rfl,XF,vW⟩;simp only[BD,↓reduceIte];refine⟨_,rfl,t',O,.CC (yx d) 0 (yx fs) 3,u++[zt (Iv.map zq).flatten],rfl,by rw[f,AK],FX.1,?_,?_⟩;.rw[<-AK,<-f];exact p.Dj λi _ hi=>Ak hi
    .rw[<-AK,<-f];exact ze ⟨yx d,Iv,by rw[f];simp,by rw[XF],AH,vW⟩
 obtain⟨r,h',hr,t',o',c',u,rfl,rfl,hs⟩:=IJ.ret;exact⟨t',o',c',u,hr,hs⟩
end
def PB(h:Ah)(bi:Nat)(b:BS)(F:Nat->Prop):Prop:=∃a o c t G,BX h bi a o c t G b/\B4 b.AW c/\F=Bu bi G
structure Fin(b:BS)(j:Nat):Prop where
 ok:ET b
 sz:Sz b j
section
variable{h h':Ah}{bi wi:Nat}{b:BS}{F F2:Nat->Prop}{q:uF}{av:Aa}{j:Nat}
def PB.lt(w:PB h bi b F){i:Nat}(hi:F i):i<yx h:=by
 obtain⟨a,o,c,t,G,w,_,rfl⟩:=w;obtain rfl|hi:=hi
 .exact w.lt
 .exact w.w.lt hi
def PB.Dj(w:PB h bi b F)(hf:∀i,F i->h'[i]?=h[i]?):PB h' bi b F:=by obtain⟨a,o,c,t,G,w,hc,rfl⟩:=w;exact⟨a,o,c,t,G,w.Dj hf,hc,rfl⟩
def PB.HY(w:PB h bi b F){u:Ah}:PB (h++u) bi b F:=w.Dj λi hi=>Ak (w.lt hi)
def aQc(w:PB h bi b F)(f:Fin b (j+1))(hq:ug q)(hv:AL q.Aj av):∃h' F',BK cx 23 [Pt bi 0,zh (Mk q av)] h (zh (aG b q).2.row) h'/\PB h' bi (aG b q).1 F'/\Du h F h' F':=by obtain⟨a,o,c,t,G,w,hc,rfl⟩:=w;let⟨h',o',c',t',G',r,w',Jq,x⟩:=aP5 w hc f.ok f.sz hq hv;exact⟨h',_,r,⟨a,o',c',t',G',w',Jq,rfl⟩,x⟩
def aQd(s:Fg)(hv:AL s.Aj av)(hl:DV s.Aj)(h:Ah):∃h' bi F,BK cx 21 [zh (Nc s av)] h (Pt bi 0) h'/\PB h' bi s.b F/\Du h (λ_=>False) h' F:=by let⟨h',bi,a,o,c,t,G,r,w,hc,x⟩:=aQa h s hv hl;exact⟨h',bi,_,r,⟨a,o,c,t,G,w,hc,rfl⟩,x⟩
end
structure QO where
 q:uF
 v:Aa
 ok:AL q.Aj v
def QO.row(x:QO):List Aa:=Mk x.q x.v
def QO.CS{x:QO}:yx x.row=9:=rfl
def QO.Iu{x:QO}:x.row.take 9=x.row:=rfl
def fS(l:List QO)(v:Aa):Prop:=AX 9 (l.map QO.row) v
def Kw:BS->List QO->BS
 |b,[]=>b
 |b,x::l=>Kw (aG b x.q).1 l
def aL:∀{l:List QO} {b:BS} {x:QO},Kw b (l++[x])=(aG (Kw b l) x.q).1
 |[],_,_=>rfl
 |y::l,b,x=>by rw[CQ,Kw,aL,Kw]
end Go.Am
end
