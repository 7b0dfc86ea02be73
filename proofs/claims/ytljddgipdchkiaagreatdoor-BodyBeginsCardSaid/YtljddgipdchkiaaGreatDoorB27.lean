/- Lemmas -/
import Derived.Test.YtljddgipdchkiaaGreatDoorB26
set_option linter.all false
set_option maxRecDepth 100000
section
namespace Go.Am
open Go
def M2(h:Ah)(lo:Nat)(v:Aa)(l:List Int):Prop:=(v= .slnil/\l=[])\/∃id,lo<=id/\v= .CE id 0 l.length 1/\h[id]?=some (.cells (l.map (Aa.int .i64)))
def Mv(h:Ah)(lo:Nat)(v:Aa)(l:List Cs):Prop:=(v= .slnil/\l=[])\/∃id,∃fs:List Cj,lo<=id/\v= .CE id 0 fs.length 3/\h[id]?=some (.cells (fs.map Cj.row).flatten)/\fs.map (·.c)=l
section
variable{h h':Ah}{lo lo':Nat}{v:Aa}
def M2.cells{l:List Int}(hv:M2 h lo v l):v.cells=[v]:=by rcases hv with⟨rfl,_⟩|⟨id,_,rfl,_⟩<;>rfl
def Mv.cells{l:List Cs}(hv:Mv h lo v l):v.cells=[v]:=by rcases hv with⟨rfl,_⟩|⟨id,fs,_,rfl,_⟩<;>rfl
def M2.Df{l:List Int}(hv:M2 h lo v l)(hf:∀i,lo<=i->i<h.length->h'[i]?=h[i]?):M2 h' lo v l:=by
 rcases hv with hv|⟨id,h1,h2,d⟩
 .exact .inl hv
 .exact .inr ⟨id,h1,h2,by rw[hf id h1 (Al.1 d).1];exact d⟩
def Mv.Df{l:List Cs}(hv:Mv h lo v l)(hf:∀i,lo<=i->i<h.length->h'[i]?=h[i]?):Mv h' lo v l:=by
 rcases hv with hv|⟨id,fs,h1,h2,d,e⟩
 .exact .inl hv
 .exact .inr ⟨id,fs,h1,h2,by rw[hf id h1 (Al.1 d).1];exact d,e⟩
def Mv.low{l:List Cs}(hv:Mv h lo v l)(hl:lo'<=lo):Mv h lo' v l:=by
 rcases hv with hv|⟨id,fs,h1,h2⟩
 .exact .inl hv
 .exact .inr ⟨id,fs,Ab,h2⟩
def M2.Rx{l:List Int}(hv:M2 h lo v l):PR h v l:=by
 rcases hv with⟨rfl,rfl⟩|⟨id,_,rfl,hc⟩
 .exact⟨rfl,λk hk=>by simp at hk⟩
 .refine⟨rfl,λk hlt=>⟨Pt id k,by have:=EX (id:=id) (z:=1) (k:= .i64) hlt;rwa [FE] at this,?_⟩⟩;simp only[Bd,hc,E7];simp[hlt]
def ż{h u:Ah}{V:Aa}{L:List Int}(i:M2 (h++u) h.length V L)(hb:L.length<=1000000000)(x:Int):∃d g,F8 (h++u) 1 8 V (.sl 1 [[I x]])=some (h++d,g)/\M2 (h++d) h.length g (L++[x]):=by
 have kD:AM=140737488355328:=rfl;rcases i with⟨rfl,rfl⟩|⟨id,Ij,rfl,hc⟩
 .exact⟨u++[.cells [I x]],.CE (h++u).length 0 1 1,by rw[<-AI];rfl,.inr ⟨(h++u).length,AH,rfl,AH⟩⟩
 .have hr:∀r∈L.map Cn,r.length=1:=Ml (f:=Cn) (λ_=>rfl) L;have KI:(h++u)[id]?=some (.cells (L.map Cn).flatten):=by rw[NQ];exact hc
  have hg:=JM (b:=8) (AD:=L.map Cn) (r2:=[[I x]]) (v:= .sl 1 [[I x]]) hr AX KI .mk AH (by rw[Ak];simp;omega);rw[Ak] at hg;have e:(h++u).set id .CO++[Dw.cells (L.map Cn++[[I x]]).flatten]=h++(u.set (id-h.length) .CO++[.cells ((L++[x]).map (Aa.int .i64))]):=by rw[BM _ _ Ij,AI,KR,NQ,BF];rfl
  rw[e] at hg;have ZZ:(h++(u.set (id-h.length) Dw.CO++[.cells ((L++[x]).map (Aa.int .i64))]))=(h++u.set (id-h.length) Dw.CO)++[.cells ((L++[x]).map (Aa.int .i64))]:=by rw[AI]
  have kC:(h++u.set (id-h.length) Dw.CO).length=(h++u).length:=AH;refine⟨_,_,hg,.inr ⟨(h++u).length,AH,AH,?_⟩⟩;rw[ZZ,<-kC,Bl (Ag _),C6];rfl
def aGR{h u:Ah}{V:Aa}{L:List Cs}(g:Mv (h++u) h.length V L)(hb:L.length<=1000000000)(x:Cj):∃d f,F8 (h++u) 3 48 V (.sl 3 [x.row])=some (h++d,f)/\Mv (h++d) h.length f (L++[x.c]):=by
 have kD:AM=140737488355328:=rfl;rcases g with⟨rfl,rfl⟩|⟨id,fs,Ij,rfl,hc,rfl⟩
 .exact⟨u++[.cells (([x]:List Cj).map Cj.row).flatten],.CE (h++u).length 0 1 3,by rw[<-AI];rfl,.inr ⟨(h++u).length,[x],AH,rfl,AH,rfl⟩⟩
 .rw[Ak] at hb;have hg:=JM (b:=48) (AD:=fs.map Cj.row) (r2:=[x.row]) (v:= .sl 3 [x.row]) (Om fs) AX hc .mk AH (by rw[Ak];simp;omega);rw[Ak] at hg;have e:(h++u).set id .CO++[.cells (fs.map Cj.row++[x.row]).flatten]=h++(u.set (id-h.length) .CO++[.cells ((fs++[x]).map Cj.row).flatten]):=by rw[BM _ _ Ij,AI,BF];rfl
  rw[e] at hg;have ZZ:(h++(u.set (id-h.length) Dw.CO++[.cells ((fs++[x]).map Cj.row).flatten]))=(h++u.set (id-h.length) Dw.CO)++[.cells ((fs++[x]).map Cj.row).flatten]:=by rw[AI]
  have kC:(h++u.set (id-h.length) Dw.CO).length=(h++u).length:=AH;refine⟨_,_,hg,.inr ⟨(h++u).length,fs++[x],AH,AH,?_,AH⟩⟩;rw[ZZ,<-kC,Bl (Ag _),C6];rfl
end
structure SS where
 mode:Int
 SB:Int
 tm:List Int
 AY:List Int
 A8:List Cs
 head:Int
 NJ:Int
 fs:Bool
 ER:Bool
 m7:Ao
 skip:Bool
 sw:Int
 stop:Bool
def BS.Wq(b:BS):SS:=⟨b.mode,b.SB,b.tm,b.AY.map Item.node,b.A8,b.head,b.NJ,b.fs,b.ER,b.m7,b.skip,b.sw,b.stop⟩
def UG(s:SS)(t o c:Aa):List Aa:=[I s.mode,I s.SB,t,o,c,I s.head,I s.NJ,.bool s.fs,.bool s.ER,.str s.m7,.bool s.skip,I s.sw,.bool s.stop]
structure SY(h:Ah)(lo:Nat)(s:SS)(t o c:Aa):Prop where
 t:TN s.tm t
 o:M2 h lo o s.AY
 c:Mv h lo c s.A8
section
variable{h h':Ah}{bi a lo:Nat}{o c t:Aa}{G G' F:Nat->Prop}{b:BS}{x:Int}{m:Nat}
def SY.Df{s:SS}(w:SY h lo s t o c)(hf:∀i,lo<=i->i<h.length->h'[i]?=h[i]?):SY h' lo s t o c:=⟨w.t,w.o.Df hf,w.c.Df hf⟩
def uC{h:Ah}{n:Nat}(hn:n<=1000000000):RO h 3 48 [I 0,S [],.slnil] (I (n:Int)) (I (n:Int))=some (h++[.cells (List.replicate n [I 0,S [],.slnil]).flatten],.CE h.length 0 n 3):=by
 have hm:AM=140737488355328:=rfl;unfold RO;simp only
 rw[Ae ⟨Ab,Ab,Ab,rfl⟩];rfl
def aLS(w:BX h bi a o c t G b)(hc:B4 b.A8 c)(rm:B6 b m):∃t' o' c' u,BH cx 48 [Pt bi 0] h (.agg (UG b.Wq t' o' c')) (h++u)/\SY (h++u) h.length b.Wq t' o' c':=by
 have kD:AM=140737488355328:=rfl;have ho:=rm.AY;have Td:=rm.A8;have L:=rm.tm;obtain⟨t',e0,Gg⟩:=aGp w.t.1 Ab h;have Ž:t'.cells=[t']:=Gg.1.cells;obtain⟨fs,Hj,hv⟩:=hc;have Ho:b.A8.length=fs.length:=by rw[<-Hj,Ak]
 have s:=AU.CL w.o;have Ji:Ev cx 48 [Pt bi 0] h λr h'=>∃t' o' c' u,r= .agg (UG b.Wq t' o' c')/\h'=h++u/\SY (h++u) h.length b.Wq t' o' c':=by
  unfold Ev;rw[aBS,t48];simp only[abS,Nat.reduceLeDiff,↓reduceIte,AP,(Ip w).Ad,w.ld,Jl,e0.Ad,BK,Ž,s];refine DP (i:=0) (λz:Aa×Nat=>[.agg [I b.mode,I b.SB,t',z.1,.slnil,I b.head,I b.NJ,.bool b.fs,.bool b.ER,.str b.m7,.bool b.skip,I b.sw,.bool b.stop],I (z.2:Int)]) (λz h1=>z.2<=b.AY.length/\∃u,h1=h++u/\M2 (h++u) h.length z.1 ((b.AY.take z.2).map Item.node)) (λz=>b.AY.length-z.2) (λz h1=>∃u,h1=h++u/\M2 (h++u) h.length z.1 (b.AY.map Item.node)) (.slnil,0) rfl ⟨AQ _,[],AH,.inl ⟨rfl,AH⟩⟩ ?_ ?_
  .rintro⟨V,n⟩ h1 ⟨hn,u,rfl,l⟩;simp only at hn l;have M:=l.cells;rcases AN n b.AY.length with hlt|D6
   .have q:=AU.BJ (k:= .i64) w.o hlt;rw[Item.row] at q;obtain⟨D,T,g1,j⟩:=ż l (by rw[Ak,As];omega) b.AY[n].node;have g:=j.cells;have em:AE (.Dh 1) [I b.AY[n].node]=some (.sl 1 [[I b.AY[n].node]]):=rfl;simp only[abS,Nat.reduceLeDiff,↓reduceIte,(Ab:(n:Int)<(b.AY.length:Int)),q,em,g1,g,BI (Ab:n<9223372036854775807)];exact .next (T,n+1) rfl ⟨hlt,D,rfl,by rw[AB hlt,BF];exact j⟩ Dq
   .rw[AG D6] at l;simp only[abS,↓reduceIte,(Ab:¬(n:Int)<(b.AY.length:Int))];exact .HC (V,n) rfl ⟨u,rfl,l⟩
  .rintro⟨O,U⟩ h1 ⟨u,rfl,p⟩;simp only at p;have N:=p.cells;have w1:=w.IA (u:=u);have A:=w1.l3;have lc:=AU.CL hv;simp only[abS,↓reduceIte,A,lc];refine pK (uC (h:=h++u) (n:=fs.length) Ab) ?_;obtain⟨d,f⟩:∃d,d=h++u:=⟨_,rfl⟩;rw[<-f] at p⊢;have R:(d++[Dw.cells (List.replicate fs.length [I 0,S [],.slnil]).flatten])[d.length]?=some (.cells (List.replicate fs.length [I 0,S [],.slnil]).flatten):=AH;have y:Bd (d++[Dw.cells (List.replicate fs.length [I 0,S [],.slnil]).flatten]) none (Pt bi 3)=some c:=by rw[f];exact(w1.IA).l3
   have ĕ:(List.replicate fs.length [I 0,S [],Aa.slnil]).flatten.length=fs.length*3:=by rw[FO (z:=3) (by intro r hr;rw[(List.mem_replicate.1 hr).2];rfl),FT]
   have Q:E4 (.copy 3) (d++[Dw.cells (List.replicate fs.length [I 0,S [],.slnil]).flatten]) [.CE d.length 0 fs.length 3,c]=some (d++[Dw.cells (fs.map Cj.row).flatten],I (fs.length:Int)):=by
    have P:GY (d++[Dw.cells (List.replicate fs.length [I 0,S [],.slnil]).flatten]) 3 c=some (fs.map Cj.row):=by
     rcases hv with rfl|⟨rfl,h0⟩
     .simp[GY]
     .rw[h0];rfl
    simp only[E4,uW,P,R];rw[Ae ⟨trivial,AH,by rw[ĕ];omega⟩];have h1:(List.replicate fs.length [I 0,S [],Aa.slnil]).flatten.drop (0+(fs.map Cj.row).length*3)=[]:=AO (by rw[ĕ,Ak];omega);rw[h1,Kq,BQ,BE,Ak,BM _ _ (Ag _),C6];rfl
   have J:AE (.len false) [.CE d.length 0 fs.length 3]=some (I (fs.length:Int)):=rfl;simp only[abS,↓reduceIte,y,Q,J];refine DP (i:=2) (λn:Nat=>[I (n:Int)]) (λn h1=>n<=fs.length/\∃HX:List Cj,h1=d++[.cells (HX.map Cj.row).flatten]/\HX.length=fs.length/\HX.map (·.c)=b.A8) (λn=>fs.length-n) (λn h1=>∃HX:List Cj,h1=d++[.cells (HX.map Cj.row).flatten]/\HX.length=fs.length/\HX.map (·.c)=b.A8) 0 rfl ⟨AQ _,fs,rfl,rfl,Hj⟩ ?_ ?_
   .rintro n h1 ⟨hn,HX,rfl,VG,gq⟩;rcases AN n fs.length with hlt|D6
    .have Ry:n<HX.length:=by omega
     have B:HX[n].c=b.A8[n]'(by omega):=by simp only[<-gq,CU]
     have Vx:=(rm.DD HX[n].c (by rw[B];exact AL _)).2.1;have q:AE (.E2 3) [.CE d.length 0 fs.length 3,I (n:Int)]=some (Pt d.length (n*3)):=EX hlt;have C:(d++[Dw.cells (HX.map Cj.row).flatten])[d.length]?=some (.cells (HX.map Cj.row).flatten):=AH;have hg:(HX.map Cj.row)[n]?=some HX[n].row:=by rw[Cl,Ai Ry];rfl
     have K:Bd (d++[Dw.cells (HX.map Cj.row).flatten]) none (Pt d.length (n*3+2))=some HX[n].v:=by simp only[Bd,C,E7];exact Lq (Om HX) AX hg
     obtain⟨av,H,WH⟩:=f45 (h:=d++[Dw.cells (HX.map Cj.row).flatten]) HX[n].ok Ab;have aCP:av.cells=[av]:=AU.cells WH;have E:Cx (d++[Dw.cells (HX.map Cj.row).flatten]) 1 (Pt d.length (n*3+2)) av=some (d++[.cells ((HX.set n ⟨HX[n].c,av,WH⟩).map Cj.row).flatten]):=by have e:=NN (AD:=HX.map Cj.row) (i:=n) (k:=2) (v:=av) (Om HX) (by simpa using Ry) AX;simp only[Cx,C,aCP,Bi,MD];rw[Ae (by rw[FO (Om HX),Ak];omega),e,BM _ _ (Ag _),C6,Ek,CU];rfl
     simp only[abS,(Ab:(n:Int)<(fs.length:Int)),q,K,H.Ad,E,BI (Ab:n<9223372036854775807)];refine .next (n+1) rfl ⟨hlt,_,rfl,by rw[Bn];exact VG,?_⟩ Ab
     rw[Ek,gq];have zH:n<b.A8.length:=Ab;show b.A8.set n HX[n].c=b.A8;rw[B,JS]
    .simp only[abS,(Ab:¬(n:Int)<(fs.length:Int))];exact .HC n rfl ⟨HX,rfl,VG,gq⟩
   .rintro n h1 ⟨HX,rfl,VG,gq⟩;simp only[BC,↓reduceIte];refine⟨_,rfl,t',O,.CE d.length 0 fs.length 3,u++[.cells (HX.map Cj.row).flatten],rfl,by rw[f,AI],Gg.1,?_,?_⟩;.rw[<-AI,<-f];exact p.Df λi _ hi=>Aj hi
    .rw[<-AI,<-f];exact .inr ⟨d.length,HX,by rw[f];simp,by rw[VG],AH,gq⟩
 obtain⟨r,h',hr,t',o',c',u,rfl,rfl,hs⟩:=Ji.ret;exact⟨t',o',c',u,hr,hs⟩
end
def PB(h:Ah)(bi:Nat)(b:BS)(F:Nat->Prop):Prop:=∃a o c t G,BX h bi a o c t G b/\B4 b.A8 c/\F=Bt bi G
structure Fin(b:BS)(j:Nat):Prop where
 ok:Eu b
 sz:Sz b j
section
variable{h h':Ah}{bi wi:Nat}{b:BS}{F F2:Nat->Prop}{q:oF}{av:Aa}{j:Nat}
def PB.lt(w:PB h bi b F){i:Nat}(hi:F i):i<h.length:=by
 obtain⟨a,o,c,t,G,w,_,rfl⟩:=w;rcases hi with rfl|hi
 .exact w.lt
 .exact w.w.lt hi
def PB.Df(w:PB h bi b F)(hf:∀i,F i->h'[i]?=h[i]?):PB h' bi b F:=by obtain⟨a,o,c,t,G,w,hc,rfl⟩:=w;exact⟨a,o,c,t,G,w.Df hf,hc,rfl⟩
def PB.IA(w:PB h bi b F){u:Ah}:PB (h++u) bi b F:=w.Df λi hi=>Aj (w.lt hi)
def aLT(w:PB h bi b F)(f:Fin b (j+1))(hq:g_ q)(hv:Br q.Az av):∃h' F',BH cx 24 [Pt bi 0,.agg (LJ q av)] h (.agg (Ys b q).2.row) h'/\PB h' bi (Ys b q).1 F'/\DA h F h' F':=by obtain⟨a,o,c,t,G,w,hc,rfl⟩:=w;obtain⟨h',o',c',t',G',r,w',KI,x⟩:=aLN w hc f.ok f.sz hq hv;exact⟨h',_,r,⟨a,o',c',t',G',w',KI,rfl⟩,x⟩
def aLU(s:ET)(hv:Br s.Az av)(hl:DU s.Az)(h:Ah):∃h' bi F,BH cx 22 [.agg (LZ s av)] h (Pt bi 0) h'/\PB h' bi s.b F/\DA h (λ_=>False) h' F:=by obtain⟨h',bi,a,o,c,t,G,r,w,hc,x⟩:=aLR h s hv hl;exact⟨h',bi,_,r,⟨a,o,c,t,G,w,hc,rfl⟩,x⟩
end
structure QO where
 q:oF
 v:Aa
 ok:Br q.Az v
def QO.row(x:QO):List Aa:=LJ x.q x.v
def QO.CK{x:QO}:x.row.length=9:=rfl
def QO.HU{x:QO}:x.row.take 9=x.row:=rfl
def bB(l:List QO)(v:Aa):Prop:=AU 9 (l.map QO.row) v
noncomputable def M3:BS->List QO->BS
 |b,[]=>b
 |b,x::l=>M3 (Ys b x.q).1 l
def Yy:∀{l:List QO} {b:BS} {x:QO},M3 b (l++[x])=(Ys (M3 b l) x.q).1
 |[],_,_=>rfl
 |y::l,b,x=>by rw[CJ,M3,Yy,M3]
structure uD(h:Ah)(v:Aa)(fs:List Cj):Prop where
 len:AE (.len false) [v]=some (I (fs.length:Int))
 at_:∀k (hk:k<fs.length),∃id o,AE (.E2 3) [v,I (k:Int)]=some (Pt id o)/\Bd h none (Pt id o)=some (I fs[k].c.node)/\Bd h none (Pt id (o+1))=some (.str fs[k].c.name)/\Bd h none (Pt id (o+2))=some fs[k].v
def ž(h:Ah)(x:EP)(r:List Aa):Prop:=∃K V,r=[I x.kind,I x.FL,K,I x.Cf,I x.A7,.str x.name,V,.str x.data,.str x.Gi,.str x.sys,.bool x.Cq,I x.cont,I x.Ei]/\PR h K x.A6/\M1 h V x.Az/\K.cells=[K]/\V.cells=[V]
def Yz(h:Ah)(v:Aa)(l:List EP):Prop:=∃AD:List (List Aa),AU 13 AD v/\AD.length=l.length/\∀k (h1:k<AD.length) (h2:k<l.length),ž h l[k] AD[k]
def YA(h:Ah)(lo:Nat)(v:Aa)(l:List EP):Prop:=∃AD:List (List Aa),AU 13 AD v/\AD.length=l.length/\∀k (h1:k<AD.length) (h2:k<l.length),Vk h lo l[k] AD[k]
section
variable{h h':Ah}{lo lo':Nat}{v v':Aa}
def Mv.at_{l:List Cs}(hv:Mv h lo v l):∃fs:List Cj,fs.map (·.c)=l/\uD h v fs:=by
 rcases hv with⟨rfl,rfl⟩|⟨id,fs,_,rfl,hc,e⟩
 .exact⟨[],rfl,rfl,λk hk=>by simp at hk⟩
 .refine⟨fs,e,rfl,λk hk=>⟨id,k*3,EX hk,?_⟩⟩;have hg:(fs.map Cj.row)[k]?=some fs[k].row:=by rw[Cl,Ai hk];rfl
  have ld:∀j,j<3->Bd h none (Pt id (k*3+j))=fs[k].row[j]?:=λj hj=>by simp only[Bd,hc,E7];exact Lq (Om fs) hj hg
  have l0:=ld 0 AX;rw[Bs] at l0;exact⟨l0,ld 1 AX,ld 2 AX⟩
def Up.le{N b:Nat}(hu:Up N v)(hl:b<=N):Up b v:=λid k e=>Bu hl (hu id k e)
def Vk.rd{x:EP}{r:List Aa}(hr:Vk h lo x r):ž h x r:=let⟨K,V,e,h1,h2,_⟩:=hr;⟨K,V,e,h1.Rx,h2.in_,AU.cells h1,h2.cells⟩
def Vk.low{x:EP}{r:List Aa}(hr:Vk h lo x r)(hl:lo'<=lo):Vk h lo' x r:=let⟨K,V,e,h1,h2,b⟩:=hr;⟨K,V,e,h1,h2,b.le hl⟩
def YA.rd{l:List EP}(hv:YA h lo v l):Yz h v l:=let⟨AD,h1,h2,c⟩:=hv;⟨AD,h1,h2,λk a b=>(c k a b).rd⟩
def f18{l:List Int}(hv:PR h v l)(DC:PR h v' l)(hb:l.length<=1000000000):BH cx 144 [v,v'] h tt h:=by
 rw[Af,U_];simp only[abS,hv.len,DC.len,BW,Cw];refine Bf (λn:Nat=>[ff,I (n:Int)]) (λn h1=>n<=l.length/\h1=h) (λn=>l.length-n) 0 rfl ⟨AQ _,rfl⟩ ?_;rintro n h1 ⟨hn,rfl⟩;rcases AN n l.length with hlt|D6
 .obtain⟨p,a1,a2⟩:=hv.at_ n hlt;obtain⟨p',b1,b2⟩:=DC.at_ n hlt;simp only[abS,hv.len,(Ab:(n:Int)<(l.length:Int)),a1,a2,b1,b2,BW,Cw,BI (Ab:n<9223372036854775807)];exact AK.next (n+1) rfl ⟨hlt,rfl⟩ Ab
 .simp only[abS,hv.len,(Ab:¬(n:Int)<(l.length:Int))]
def aGS(y:A3):AE (.geq true [.i,.s,.s]) [.agg y.row,.agg y.row]=some (.bool false):=by rw[Rm];simp[A3.row,D5,Lx]
def aGT{l:List A3}(hv:M1 h v l)(DC:M1 h v' l)(hb:l.length<=1000000000):BH cx 420 [v,v'] h tt h:=by
 rw[Af,Ā];simp only[abS,hv.len,DC.len,BW,Cw];refine Bf (λn:Nat=>[ff,I (n:Int)]) (λn h1=>n<=l.length/\h1=h) (λn=>l.length-n) 0 rfl ⟨AQ _,rfl⟩ ?_;rintro n h1 ⟨hn,rfl⟩;rcases AN n l.length with hlt|D6
 .obtain⟨p,a1,a2⟩:=hv.at_ n hlt;obtain⟨p',b1,b2⟩:=DC.at_ n hlt;simp only[abS,hv.len,(Ab:(n:Int)<(l.length:Int)),a1,a2,b1,b2,aGS,BI (Ab:n<9223372036854775807)];exact AK.next (n+1) rfl ⟨hlt,rfl⟩ Ab
 .simp only[abS,hv.len,(Ab:¬(n:Int)<(l.length:Int))]
def f87{fs ġ:List Cj}(hv:uD h v fs)(DC:uD h v' ġ)(he:fs.map (·.c)=ġ.map (·.c))(hb:fs.length<=1000000000)(ha:∀e∈fs,e.c.Az.length<=1000000000):BH cx 145 [v,v'] h tt h:=by
 have hl:ġ.length=fs.length:=by have:=Cb List.length he;simpa using this.symm
 have l1:=hv.len;have i:=DC.len;rw[hl] at i;rw[Af,V_];simp only[abS,l1,i,BW,Cw];refine Bf (λn:Nat=>[ff,I (n:Int)]) (λn h1=>n<=fs.length/\h1=h) (λn=>fs.length-n) 0 rfl ⟨AQ _,rfl⟩ ?_;rintro n h1 ⟨hn,rfl⟩;rcases AN n fs.length with hlt|D6
 .have SN:n<ġ.length:=by omega
  have p:ġ[n].c=fs[n].c:=by have:=Cb (λl=>l[n]?) he;simp only[Cl,Ai hlt,Ai SN,B9,Bz] at this;exact this.symm
  obtain⟨id,o,a1,a2,a3,a4⟩:=hv.at_ n hlt;obtain⟨FM,o',b1,b2,b3,b4⟩:=DC.at_ n SN;rw[p] at b2 b3;have WH:Br fs[n].c.Az fs[n].v:=fs[n].ok;have aGU:Br fs[n].c.Az ġ[n].v:=by rw[<-p];exact ġ[n].ok
  have YQ:=ha _ (AL hlt);have d:=AU.CL WH;have q:=AU.CL aGU;generalize fs[n].v=av at*;generalize ġ[n].v=YT at*;generalize fs[n].c.Az=b at*;simp only[abS,l1,(Ab:(n:Int)<(fs.length:Int)),a1,a2,a3,a4,b1,b2,b3,b4,BW,Cw,d,q];refine Bf (λj:Nat=>[ff,I (j:Int)]) (λj h2=>j<=b.length/\h2=h1) (λj=>b.length-j) 0 rfl ⟨AQ _,rfl⟩ ?_;rintro j h2 ⟨hj,rfl⟩;rcases AN j b.length with ZP|r
  .have t:=AU.BJ (k:= .i64) WH ZP;have s:=AU.BJ (k:= .i64) aGU ZP;have g:(A3.row b[j]).length=3:=rfl;have f:(A3.row b[j]).take 3=A3.row b[j]:=rfl;simp only[abS,a1,a4,b1,b4,d,(Ab:(j:Int)<(b.length:Int)),t,s,g,f,Ag,aGS,BI (Ab:j<9223372036854775807)];exact AK.next (j+1) rfl ⟨ZP,rfl⟩ Ab
  .simp only[abS,a1,a4,d,(Ab:¬(j:Int)<(b.length:Int)),BI (Ab:n<9223372036854775807)];exact AK.next (n+1) rfl ⟨hlt,rfl⟩ Ab
 .simp only[abS,l1,(Ab:¬(n:Int)<(fs.length:Int))]
def f22{s:SS}{t o c t' o' c':Aa}(w:SY h lo s t o c)(w':SY h lo' s t' o' c')(b1:s.tm.length<=1000000000)(b2:s.AY.length<=1000000000)(b3:s.A8.length<=1000000000)(b4:∀e∈s.A8,e.Az.length<=1000000000):BH cx 47 [.agg (UG s t o c),.agg (UG s t' o' c')] h tt h:=by
 obtain⟨fs,d,he⟩:=w.c.at_;obtain⟨ġ,b,Qy⟩:=w'.c.at_;have g:=f18 w.o.Rx w'.o.Rx b2;have r2:=f87 he Qy (d.trans b.symm) (by rw[<-d,Ak] at b3;exact b3) (λe hm=>b4 e.c (by rw[<-d];exact OR hm));have p:t.cells=[t]:=w.t.cells;have f:t'.cells=[t']:=w'.t.cells;have q:=w.o.cells;have i:=w'.o.cells;have r:=w.c.cells;have l:=w'.c.cells;have l1:=w.t.len;have j:=w'.t.len;rw[Af,aBR,UG,UG];simp only[abS,l1,j,BW,Cw,g.Ad,r2.Ad];refine Bf (λn:Nat=>[ff,I (n:Int)]) (λn h1=>n<=s.tm.length/\h1=h) (λn=>s.tm.length-n) 0 rfl ⟨AQ _,rfl⟩ ?_;rintro n h1 ⟨hn,rfl⟩;rcases AN n s.tm.length with hlt|D6
 .have a1:=AU.BJ (k:= .i64) (w.t.ne λe=>by rw[e] at hlt;simp at hlt) hlt;have a2:=AU.BJ (k:= .i64) (w'.t.ne λe=>by rw[e] at hlt;simp at hlt) hlt;rw[Cn] at a1 a2;simp only[abS,l1,(Ab:(n:Int)<(s.tm.length:Int)),a1,a2,BW,Cw,BI (Ab:n<9223372036854775807)];exact AK.next (n+1) rfl ⟨hlt,rfl⟩ Ab
 .simp only[abS,l1,(Ab:¬(n:Int)<(s.tm.length:Int)),Cw,Dp]
def aLW{x:EP}{r r':List Aa}(hr:ž h x r)(FX:ž h x r')(hb:x.Az.length<=1000000000):BH cx 386 [.agg r,.agg r'] h tt h:=by obtain⟨K,V,rfl,i,e,g,f⟩:=hr;obtain⟨k,j,rfl,ź,Ż,d,c⟩:=FX;have b:=aGT e Ż hb;rw[Af,û];simp only[abS,Cw,b.Ad,Dp]
def aLX{x:EP}{r r':List Aa}(hr:ž h x r)(FX:ž h x r')(hb:x.Az.length<=1000000000)(hk:x.A6.length<=1000000000):BH cx 295 [.agg r,.agg r'] h tt h:=by have b:=aLW hr FX hb;obtain⟨K,V,rfl,e,i,g,f⟩:=hr;obtain⟨k,j,rfl,ź,Ż,d,c⟩:=FX;have r2:=f18 e ź hk;rw[Af,ä];simp only[BC,Cw,b.Ad,r2.Ad,Dp]
def f90{l:List EP}(hv:Yz h v l)(DC:Yz h v' l)(hb:l.length<=1000000000)(ha:∀x∈l,x.Az.length<=1000000000/\x.A6.length<=1000000000):BH cx 150 [v,v'] h tt h:=by
 obtain⟨AD,i,s,q⟩:=hv;obtain⟨b,c,g,e⟩:=DC;have l1:=i.len;have p:=c.len;rw[s] at l1;rw[g] at p;rw[Af,Y_];simp only[abS,l1,p,BW,Cw];refine Bf (λn:Nat=>[ff,I (n:Int)]) (λn h1=>n<=l.length/\h1=h) (λn=>l.length-n) 0 rfl ⟨AQ _,rfl⟩ ?_;rintro n h1 ⟨hn,rfl⟩;rcases AN n l.length with hlt|D6
 .have a1:=i.E2 (k:= .i64) (Ab:n<AD.length);have a2:=c.E2 (k:= .i64) (Ab:n<b.length);have o:=q n Ab hlt;have j:=e n Ab hlt;have hm:=ha _ (AL hlt);have d:=aLX o j hm.1 hm.2;obtain⟨K,V,r,_⟩:=o;obtain⟨u,t,f,_⟩:=j;rw[r] at a1 d;rw[f] at a2 d;simp only[abS,Nat.reduceLeDiff,↓reduceIte,l1,(Ab:(n:Int)<(l.length:Int)),a1,a2,d.Ad,BI (Ab:n<9223372036854775807)];exact AK.next (n+1) rfl ⟨hlt,rfl⟩ Ab
 .simp only[abS,↓reduceIte,l1,(Ab:¬(n:Int)<(l.length:Int))]
end
def uE{A:Ar}{k:Nat}(hk:k<A.n.length):A.has ((k:Int)+1)/\A.nd ((k:Int)+1)=A.n[k]:=by
 have h1:A.has ((k:Int)+1):=by unfold Ar.has;omega
 refine⟨h1,?_⟩;unfold Ar.nd;rw[Ae h1,AJ,(Ab:((k:Int)+1).toNat-1=k),Ai hk];rfl
section
variable{h h':Ah}{a n:Nat}{m:Option Nat}{ps:List PN}{A:Ar}{x:Int}
def aLY(w:PA h a n m ps A)(p:MZ A)(hk:∀x,(A.nd x).A6.length<=1000000000)(hb:A.n.length<=900000000):∃v u,BH cx 151 [Pt a 0] h v (h++u)/\YA (h++u) h.length v A.n:=by
 have kD:AM=140737488355328:=rfl;have bS:A.n.length=ps.length:=by rw[w.e,Ak]
 have Ji:Ev cx 151 [Pt a 0] h λr h'=>∃u,h'=h++u/\YA (h++u) h.length r A.n:=by
  unfold Ev;rw[Z_];simp only[BC,aC,w.nodes,show AE (.len false) [.CE n 0 ps.length 13]=some (I (ps.length:Int)) from rfl];refine Bf (λz:Aa×Nat=>[z.1,I (z.2:Int)]) (λz h1=>z.2<=ps.length/\∃u,h1=h++u/\YA (h++u) h.length z.1 (A.n.take z.2)) (λz=>ps.length-z.2) (.slnil,0) rfl ⟨AQ _,[],AH,[],.nil,AH,λk h1 h2=>by simp at h1⟩ ?_;rintro⟨V,k⟩ h1 ⟨YW,u,rfl,c⟩;simp only at YW c;have w1:PA (h++u) a n m ps A:=w.Df λi hi=>Aj (w.lt i hi);rcases AN k ps.length with hlt|D6
  .obtain⟨hx,ex⟩:=uE (A:=A) (k:=k) Ab;obtain⟨r,t,l,hr⟩:=ť w1 p hx (hk _);have ea:AE (.E2 13) [.CE n 0 ps.length 13,I (k:Int)]=some (.ptr (some (n,nP n ((k:Int)+1)))):=by have:=EX (k:= .i64) (id:=n) (z:=13) hlt;rw[this];unfold nP;congr 4
   obtain⟨AD,g,d,o⟩:=c;rw[As,Cp Ab] at d;obtain⟨K,W,f,LQ⟩:=hr;have em:AE (.Dh 13) [.agg r]=some (.sl 13 [r]):=Mk (a:= .agg r) (by rw[f];rfl) AX;have s:=AU.pq (b:=168) (row:=r) g Ab;simp only[abS,(Ab:(k:Int)<(ps.length:Int)),w1.nodes,ea,l.Ad,em,s,BI (Ab:k<9223372036854775807)];refine AK.next (_,k+1) rfl ⟨hlt,u++t,by rw[AI],AD++[r],.mk,by rw[Aw,As,d];simp;omega,λj h1 h2=>?_⟩ Dq;rw[<-AI];rw[aOr];by_cases hj:j<AD.length;.rw[Gf hj];have:=o j hj (by rw[As];omega);rw[aOr] at this;exact this.IA
   .have q:j=k:=by simp at h1;omega
    subst q;rw[xl Ab];simp only[d,C6,aDe];rw[<-ex];exact Vk.low (lo:=(h++u).length) ⟨K,W,f,LQ⟩ AH
  .rw[AG Ab] at c;simp only[abS,(Ab:¬(k:Int)<(ps.length:Int))];exact⟨_,rfl,u,rfl,c⟩
 obtain⟨r,h',hr,u,rfl,c⟩:=Ji.ret;exact⟨r,u,hr,c⟩
end
structure RN where
 x:EP
 kv:Aa
 av:Aa
 okk:D1 x.A6 kv
 oka:Br x.Az av
def RN.row(p:RN):List Aa:=[I p.x.kind,I p.x.FL,p.kv,I p.x.Cf,I p.x.A7,.str p.x.name,p.av,.str p.x.data,.str p.x.Gi,.str p.x.sys,.bool p.x.Cq,I p.x.cont,I p.x.Ei]
def RN.z:RN:=⟨{},.slnil,.slnil,.inr ⟨rfl,rfl⟩,.inr ⟨rfl,rfl⟩⟩
def vg(l:List RN):∀r∈l.map RN.row,r.length=13:=Ml (f:=RN.row) (λ_=>rfl) l
structure RA(h:Ah)(a n i:Nat)(ps:List RN)(A:Ar):Prop where
 e:A.n=ps.map RN.x
 il:A.i.length=A.n.length
 ha:h[a]?=some (.cells [.CE n 0 (ps.length+1) 13,.CE i 0 (ps.length+1) 1])
 hn:h[n]?=some (.cells ((RN.z::ps).map RN.row).flatten)
 hi:h[i]?=some (.cells ((0::A.i).map (Aa.int .i64)))
 d:a≠n/\a≠i/\n≠i
def I9(a n i:Nat):Nat->Prop:=λj=>j=a\/j=n\/j=i
def RW(h:Ah)(G:Nat->Prop)(a:Nat)(A:Ar):Prop:=∃n i ps,RA h a n i ps A/\G=I9 a n i
def pR(ps:List RN)(x:Int):RN:=(RN.z::ps).getD x.toNat RN.z
def nR(x:Int):Nat:=x.toNat*13
section
variable{h h':Ah}{a n i:Nat}{ps:List RN}{A:Ar}{x:Int}{G:Nat->Prop}
def RA.Df(w:RA h a n i ps A)(hf:∀j,I9 a n i j->h'[j]?=h[j]?):RA h' a n i ps A:=
 ⟨w.e,w.il,by rw[hf a (.inl rfl)];exact w.ha,by rw[hf n (.inr (.inl rfl))];exact w.hn,by rw[hf i (.inr (.inr rfl))];exact w.hi,w.d⟩
def RA.lt(w:RA h a n i ps A){j:Nat}(hj:I9 a n i j):j<h.length:=by
 rcases hj with rfl|rfl|rfl
 .exact(Al.1 w.ha).1
 .exact(Al.1 w.hn).1
 .exact(Al.1 w.hi).1
def RW.Df(w:RW h G a A)(hf:∀j,G j->h'[j]?=h[j]?):RW h' G a A:=by obtain⟨n,i,ps,w,rfl⟩:=w;exact⟨n,i,ps,w.Df hf,rfl⟩
def RW.lt(w:RW h G a A){j:Nat}(hj:G j):j<h.length:=by obtain⟨n,i,ps,w,rfl⟩:=w;exact w.lt hj
def RA.len(w:RA h a n i ps A):A.n.length=ps.length:=by rw[w.e,Ak]
def RA.nodes(w:RA h a n i ps A):Bd h none (Pt a 0)=some (.CE n 0 (ps.length+1) 13):=by simp only[Bd,w.ha];rfl
def RA.Yj(w:RA h a n i ps A):Bd h none (Pt a 1)=some (.CE i 0 (ps.length+1) 1):=by simp only[Bd,w.ha];rfl
def RA.at(w:RA h a n i ps A)(hx:A.has x):x.toNat<ps.length+1/\(x.toNat:Int)=x:=by have h1:=hx.1;have h2:=hx.2;rw[w.len] at h2;omega
def RA.pn(w:RA h a n i ps A)(hx:A.has x):(RN.z::ps)[x.toNat]?=some (pR ps x)/\(pR ps x).x=A.nd x:=by
 have h1:=(w.at hx).1;have h2:=hx.1;have hl:x.toNat<(RN.z::ps).length:=by simpa using h1
 refine⟨by unfold pR;rw[AJ,Ai hl];rfl,?_⟩;unfold Ar.nd pR;rw[Ae hx,w.e];obtain⟨k,hk⟩:∃k,x.toNat=k+1:=⟨x.toNat-1,Ab⟩;rw[hk,ZA,E9,AJ,AJ,Cl];have:k<ps.length:=Ab;rw[Ai this];rfl
def RA.Py(w:RA h a n i ps A)(hx:A.has x){k:Nat}(hk:k<13):Bd h none (Pt n (nR x+k))=(pR ps x).row[k]?:=by unfold nR;simp only[Bd,w.hn,E7];exact Lq (vg _) hk (by rw[Cl,(w.pn hx).1];rfl)
def RA.addr(w:RA h a n i ps A)(hx:A.has x):AE (.E2 13) [.CE n 0 (ps.length+1) 13,I x]=some (Pt n (nR x)):=by obtain⟨h1,h2⟩:=w.at hx;have:=EX (k:= .i64) (id:=n) (z:=13) h1;rwa [h2] at this
def RA.f0(w:RA h a n i ps A)(hx:A.has x):Bd h none (Pt n (nR x))=some (I (A.nd x).kind):=by have:=w.Py hx (k:=0) AX;rw[Bs] at this;rw[this,<-(w.pn hx).2];rfl
def RA.f1(w:RA h a n i ps A)(hx:A.has x):Bd h none (Pt n (nR x+1))=some (I (A.nd x).FL):=by rw[w.Py hx AX,<-(w.pn hx).2];rfl
def RA.f2(w:RA h a n i ps A)(hx:A.has x):Bd h none (Pt n (nR x+2))=some (pR ps x).kv:=by rw[w.Py hx AX];rfl
def RA.f3(w:RA h a n i ps A)(hx:A.has x):Bd h none (Pt n (nR x+3))=some (I (A.nd x).Cf):=by rw[w.Py hx AX,<-(w.pn hx).2];rfl
def RA.f4(w:RA h a n i ps A)(hx:A.has x):Bd h none (Pt n (nR x+4))=some (I (A.nd x).A7):=by rw[w.Py hx AX,<-(w.pn hx).2];rfl
def RA.f5(w:RA h a n i ps A)(hx:A.has x):Bd h none (Pt n (nR x+5))=some (.str (A.nd x).name):=by rw[w.Py hx AX,<-(w.pn hx).2];rfl
def RA.f6(w:RA h a n i ps A)(hx:A.has x):Bd h none (Pt n (nR x+6))=some (pR ps x).av:=by rw[w.Py hx AX];rfl
def RA.f7(w:RA h a n i ps A)(hx:A.has x):Bd h none (Pt n (nR x+7))=some (.str (A.nd x).data):=by rw[w.Py hx AX,<-(w.pn hx).2];rfl
def RA.ſ(w:RA h a n i ps A)(hx:A.has x):Bd h none (Pt n (nR x+11))=some (I (A.nd x).cont):=by rw[w.Py hx AX,<-(w.pn hx).2];rfl
def RA.f12(w:RA h a n i ps A)(hx:A.has x):Bd h none (Pt n (nR x+12))=some (I (A.nd x).Ei):=by rw[w.Py hx AX,<-(w.pn hx).2];rfl
def RA.MK(w:RA h a n i ps A)(hx:A.has x):D1 (A.nd x).A6 (pR ps x).kv:=by rw[<-(w.pn hx).2];exact(pR ps x).okk
def RA.jq(w:RA h a n i ps A)(hx:A.has x):Br (A.nd x).Az (pR ps x).av:=by rw[<-(w.pn hx).2];exact(pR ps x).oka
def RA.wr(w:RA h a n i ps A)(hx:A.has x){k:Nat}(hk:k<13){v:Aa}(hv:v.cells=[v]){p:RN}(hp:p.row=(pR ps x).row.set k v):
  ∃h',Cx h 1 (Pt n (nR x+k)) v=some h'/\RA h' a n i (ps.set (x.toNat-1) p) (A.set x p.x)/\DA h (I9 a n i) h' (I9 a n i)/\h'.length=h.length:=by
 obtain⟨hlt,b⟩:=w.at hx;have h1:=hx.1;have hg:=(w.pn hx).1;have SN:x.toNat<(RN.z::ps).length:=by simpa using hlt
 rw[Ai SN,Bz] at hg;have e:=NN (AD:=(RN.z::ps).map RN.row) (i:=x.toNat) (k:=k) (v:=v) (vg _) (by simpa using hlt) hk;rw[CU,hg,<-hp,<-Ek] at e;have es:(RN.z::ps).set x.toNat p=RN.z::ps.set (x.toNat-1) p:=by obtain⟨j,hj⟩:∃j,x.toNat=j+1:=⟨x.toNat-1,Ab⟩;rw[hj,aMZ,E9]
 rw[es] at e;have OH:=w.lt (.inr (.inl rfl));refine⟨h.set n (.cells ((RN.z::ps.set (x.toNat-1) p).map RN.row).flatten),?_,⟨?_,?_,?_,AS OH,?_,w.d⟩,⟨by rw[Bn];exact Ag _,λj _ hn=>Ap λe=>hn (.inr (.inl e.symm)),λj hj=> .inl hj⟩,Bn⟩;.unfold nR;simp only[Cx,w.hn,hv,Bi,MD];rw[Ae (by rw[FO (vg _),Ak];have:=DT 13 (show x.toNat+1<=(RN.z::ps).length from SN);omega),e]
 .unfold Ar.set;simp only;rw[Ae hx,w.e,Ek]
 .unfold Ar.set;simp only;rw[Ae hx,Bn];exact w.il
 .rw[Ap (DG w.d.1),Bn];exact w.ha
 .rw[Ap w.d.2.2];exact w.hi
def HF(w:RA h a n i ps A):BH cx 281 [Pt a 0,I x] h (.bool (decide (A.has x))) h:=by
 have hl:=w.len;rw[Af,Þ];by_cases h0:0<x
 .have e:decide (A.has x)=decide (x<((ps.length+1:Nat):Int)):=by rw[C5];unfold Ar.has;omega
  rw[e];simp only[BC,aC,h0,w.nodes,show AE (.len false) [.CE n 0 (ps.length+1) 13]=some (I ((ps.length+1:Nat):Int)) from rfl]
 .have e:decide (A.has x)=false:=by rw[Ay];unfold Ar.has;omega
  rw[e];simp only[abS,h0]
def aGV(w:RA h a n i ps A):BH cx 411 [Pt a 0,I x] h (I (A.nd x).FL) h:=by
 rw[Af,ý];by_cases hx:A.has x;.simp only[abS,(HF (x:=x) w).Ad,AA hx,w.nodes,w.addr hx,w.f1 hx]
 .rw[HE hx];simp only[abS,(HF (x:=x) w).Ad,Ay hx]
def vh(w:RA h a n i ps A)(hb:(A.nd x).A6.length<=1000000000):∃v,BH cx 212 [Pt a 0,I x] h v h/\D1 (A.nd x).A6 v:=by
 have hm:AM=140737488355328:=rfl;by_cases hx:A.has x;.obtain⟨u,e,hu⟩:=AU.Gt (b:=8) (w.MK hx) Ab;refine⟨u,?_,hu⟩;rw[Af,xL];simp only[abS,(HF (x:=x) w).Ad,AA hx,w.nodes,w.addr hx,w.f2 hx,e]
 .refine⟨.slnil,?_,by rw[HE hx];exact .inr ⟨rfl,rfl⟩⟩;rw[Af,xL];simp only[abS,(HF (x:=x) w).Ad,Ay hx]
def aGW(w:RA h a n i ps A)(hx:A.has x):BH cx 418 [Pt a 0,I x] h (I (A.up x)) h:=by
 rw[Af,ÿ];by_cases hp:(A.nd x).FL=0
 .have e:A.up x=(A.nd x).Ei:=by unfold Ar.up;rw[Ac (by simpa using hp)]
  simp only[abS,w.nodes,w.addr hx,w.f1 hx,hp,w.f12 hx,e,BW,Cw]
 .have e:A.up x=(A.nd x).FL:=by unfold Ar.up;rw[Ae (by simpa using hp)]
  simp only[abS,w.nodes,w.addr hx,w.f1 hx,hp,e,BW]
end
def aGX{A:Ar}{e x:Int}(ok:EA A e)(hx:A.has x)(h0:A.up x≠0):A.has (A.up x):=by
 unfold Ar.up at h0⊢;split at h0;.rename_i h;rw[Ae h];exact(ok.FL x hx h).1
 .rename_i h;rw[Ac h];exact(ok.Ei x hx h0).1
def ij{A:Ar}{t x:Int}(hne:x≠t):Reach A t x↔A.up x≠0/\Reach A t (A.up x):=by
 constructor
 .intro h;cases h with
  |refl=>exact absurd rfl hne
  |step h1 h2=>exact⟨h1,h2⟩
 .exact λh=> .step h.1 h.2
section
variable{h h':Ah}{a n i:Nat}{ps:List RN}{A:Ar}{x:Int}{G:Nat->Prop}
open Classical in
def aGY{up e:Int}(w:RA h a n i ps A)(ok:EA A e)(hu:A.has up)(hx:A.has x):BH cx 379 [Pt a 0,I up,I x] h (.bool (decide (Reach A up x))) h:=by
 obtain⟨r,hr⟩:=ok.dI;have d:up≠0:=by have:=hu.1;omega
 rw[Af,õ];simp only[abS,(HF (x:=up) w).Ad,(HF (x:=x) w).Ad,AA hu,AA hx];refine Bf (λc:Int=>[I c,ff]) (λc h1=>(c=0\/A.has c)/\(Reach A up x↔c≠0/\Reach A up c)/\h1=h) (λc=>if c=0 then 0 else r c+1) x rfl ⟨.inr hx,⟨λh=>⟨by have:=hx.1;omega,h⟩,λh=>h.2⟩,rfl⟩ ?_;rintro c h1 ⟨hc,he,rfl⟩;by_cases h0:c=0;.have e:decide (Reach A up x)=false:=Ay (λf=>(he.1 f).1 h0);simp only[abS,h0,BW,e]
 .have hc:=hc.resolve_left h0;by_cases b:c=up;.have e:decide (Reach A up x)=true:=AA (he.2 ⟨h0,by rw[b];exact .refl⟩);simp only[abS,h0,BW,AW b,e]
  .simp only[abS,h0,BW,b,(aGW w hc).Ad];refine AK.next (A.up c) rfl ⟨?_,?_,rfl⟩ ?_
   .by_cases hz:A.up c=0;.exact .inl hz
    .exact .inr (aGX ok hc hz)
   .rw[he,ij b];exact⟨λh=>h.2,λh=>⟨h0,h⟩⟩
   .by_cases hz:A.up c=0;.rw[Ae hz,Ac h0];omega
    .rw[Ac hz,Ac h0];have:=hr c hc hz;omega
def aGZ{v:Aa}{l:List Int}(hv:D1 l v)(hb:l.length<=1000000000)(x:Int)(h:Ah):∃u,BH cx 380 [v,I x] h u h/\D1 (l.filter λk=>decide (k≠x)) u:=by
 have hm:AM=140737488355328:=rfl;have Ji:Ev cx 380 [v,I x] h λr h'=>D1 (l.filter λk=>decide (k≠x)) r/\h'=h:=by
  unfold Ev;rw[ö];refine Bf (λs:Aa×Nat=>[s.1,I (s.2:Int)]) (λs h1=>s.2<=l.length/\D1 ((l.take s.2).filter λk=>decide (k≠x)) s.1/\h1=h) (λs=>l.length-s.2) (.slnil,0) rfl ⟨AQ _,.inr ⟨rfl,rfl⟩,rfl⟩ ?_;rintro⟨u,k⟩ h1 ⟨hk,hu,rfl⟩;simp only at hk hu;have hvl:=AU.CL hv;rcases AN k l.length with hlt|D6
  .have c:=AU.BJ (k:= .i64) hv hlt;rw[Cn] at c;have em:AE (.Dh 1) [I l[k]]=some (.sl 1 [Cn l[k]]):=rfl;have Ho:((l.take k).filter λk=>decide (k≠x)).length<=l.length:=Bu (Vr _ _) (by rw[As];omega);have d:=AU.Ki (b:=8) (a:=l[k]) hu Ab;simp only[abS,hvl,(Ab:(k:Int)<(l.length:Int)),c,em,d,BI (Ab:k<9223372036854775807),BW];refine⟨λh2=>?_,λh2=>?_⟩
   .refine AK.next (_,k+1) rfl ⟨hlt,?_,rfl⟩ Dq;rw[AB hlt,DV];have:[l[k]].filter (λk=>decide (k≠x))=[l[k]]:=by simp[h2]
    rw[this];exact .mk
   .refine AK.next (u,k+1) rfl ⟨hlt,?_,rfl⟩ Dq;rw[AB hlt,DV];have h2:l[k]=x:=by simpa using h2
    have:[l[k]].filter (λk=>decide (k≠x))=[]:=by simp[h2]
    rw[this,BE];exact hu
  .rw[AG D6] at hu;simp only[abS,hvl,(Ab:¬(k:Int)<(l.length:Int))];exact⟨_,rfl,hu⟩
 obtain⟨r,h',hr,hu,rfl⟩:=Ji.ret;exact⟨r,hr,hu⟩
def aG0(w:RA h a n i ps A)(hx:A.has x)(hb:∀y,(A.nd y).A6.length<=1000000000){e:Int}(ok:EA A e):∃h' IN,BH cx 278 [Pt a 0,I x] h (I 0) h'/\RA h' a n i IN (A.cut x)/\DA h (I9 a n i) h' (I9 a n i):=by
 by_cases hp:(A.nd x).FL=0;.refine⟨h,ps,?_,by unfold Ar.cut;simp only;rw[Ae hp];exact w,.refl⟩;rw[Af,yT];simp only[abS,(HF (x:=x) w).Ad,AA hx,w.nodes,w.addr hx,w.f1 hx,hp,BW]
 .obtain⟨hq,_⟩:=ok.FL x hx hp;obtain⟨q,eq⟩:∃q,q=(A.nd x).FL:=⟨_,rfl⟩;rw[<-eq] at hp hq;obtain⟨u,m,hu⟩:=aGZ (w.MK hq) (hb q) x h;obtain⟨h1,l,w1,f,l1⟩:=w.wr hq (k:=2) AX (v:=u) (AU.cells hu) (p:=⟨{A.nd q with A6:=(A.nd q).A6.filter λk=>decide (k≠x)},u,(pR ps q).av,hu,w.jq hq⟩) (by simp only[RN.row];rw[(w.pn hq).2];rfl);have OX:(A.set q {A.nd q with A6:=(A.nd q).A6.filter λk=>decide (k≠x)}).has x:=Il.2 hx;have Zq:=(w1.pn OX).2;obtain⟨h2,j,g,d,s⟩:=w1.wr OX (k:=1) AX (v:=I 0) rfl (p:=⟨{(A.set q {A.nd q with A6:=(A.nd q).A6.filter λk=>decide (k≠x)}).nd x with FL:=0},(pR _ x).kv,(pR _ x).av,w1.MK OX,w1.jq OX⟩) (by simp only[RN.row];rw[Zq];rfl);have o:A.cut x=(A.set q {A.nd q with A6:=(A.nd q).A6.filter λk=>decide (k≠x)}).set x {(A.set q {A.nd q with A6:=(A.nd q).A6.filter λk=>decide (k≠x)}).nd x with FL:=0}:=by unfold Ar.cut;simp only;rw[<-eq,Ac hp]
  refine⟨h2,_,?_,by rw[o];exact g,f.trans d⟩;have r:(A.nd x).FL=q:=eq.symm;have b:=w1.nodes;have c:=w1.addr OX;rw[Bn] at b c;rw[Af,yT];simp only[abS,(HF (x:=x) w).Ad,AA hx,w.nodes,w.addr hx,w.f1 hx,r,hp,BW,w.addr hq,w.f2 hq,m.Ad,BK,l,b,j]
open Classical in
def aG1{p b e:Int}(w:RA h a n i ps A)(ok:EA A e):∃q:Int,BH cx 277 [Pt a 0,I p,I x,I b] h (I q) h/\(q=0↔qg A p x b):=by
 by_cases hp:A.has p;rotate_left;.refine⟨3,?_,⟨λh=>absurd h AX,λf=>absurd f.hp hp⟩⟩;rw[Af,Km];simp only[abS,(HF (x:=p) w).Ad,Ay hp,AZ]
 by_cases hx:A.has x;rotate_left;.refine⟨3,?_,⟨λh=>absurd h AX,λf=>absurd f.hn hx⟩⟩;rw[Af,Km];simp only[abS,(HF (x:=p) w).Ad,AA hp,(HF (x:=x) w).Ad,Ay hx,AZ]
 by_cases hb:b≠0/\¬A.has b;.refine⟨3,?_,⟨λh=>absurd h AX,λf=>absurd (f.hb hb.1).1 hb.2⟩⟩;rw[Af,Km];simp only[abS,(HF (x:=p) w).Ad,AA hp,(HF (x:=x) w).Ad,AA hx,BW,hb.1,(HF (x:=b) w).Ad,Ay hb.2,AZ]
 have m:b≠0->A.has b:=λh0=>by
  by_cases h1:A.has b;.exact h1
  .exact absurd ⟨h0,h1⟩ hb
 have first:∀(Q:Hb) (k:DQ->List Aa->IT),W cx (k .normal [ff]) Q h->W cx (.N0 200001 (.call 281 [Pt a 0,I p] λv0=> .op (.un .not) [v0] λs=> .Gc s (.ret .normal [tt]) (.call 281 [Pt a 0,I x] λv2=> .op (.un .not) [v2] λv3=> .Gc v3 (.ret .normal [tt]) (.op (.int .neq) [I b,I 0] λv4=> .Gc v4 (.call 281 [Pt a 0,I b] λv5=> .op (.un .not) [v5] λr=> .ret .normal [r]) (.ret .normal [ff])))) k) Q h:=by
  intro Q k hk;by_cases h0:b=0;.simp only[abS,(HF (x:=p) w).Ad,AA hp,(HF (x:=x) w).Ad,AA hx,BW,h0,AZ];exact hk
  .simp only[abS,(HF (x:=p) w).Ad,AA hp,(HF (x:=x) w).Ad,AA hx,BW,h0,(HF (x:=b) w).Ad,AA (m h0),AZ];exact hk
 by_cases kp:Ll (A.nd p).kind;rotate_left
 .refine⟨4,?_,⟨λh=>absurd h AX,λf=>absurd f.kp kp⟩⟩;unfold Ll at kp;have v:¬(A.nd p).kind=1:=λe=>kp (.inl e);have u:¬(A.nd p).kind=2:=λe=>kp (.inr (.inl e));have t:¬(A.nd p).kind=4:=λe=>kp (.inr (.inr e));rw[Af,Km];refine first _ _ ?_
  simp only[abS,w.nodes,w.addr hp,w.f0 hp,w.addr hx,w.f0 hx,AZ,BW,v,u,t]
 by_cases d:(A.nd x).kind=1
 .refine⟨4,?_,⟨λh=>absurd h AX,λf=>absurd d f.kn.1⟩⟩;rw[Af,Km];refine first _ _ ?_
  rcases kp with kp|kp|kp<;>simp only[abS,w.nodes,w.addr hp,w.f0 hp,w.addr hx,w.f0 hx,AZ,BW,(AX:¬(2:Int)=1),(AX:¬(4:Int)=1),(AX:¬(4:Int)=2),kp,d]
 by_cases c:(A.nd x).kind=2
 .refine⟨4,?_,⟨λh=>absurd h AX,λf=>absurd c f.kn.2⟩⟩;rw[Af,Km];refine first _ _ ?_
  rcases kp with kp|kp|kp<;>simp only[abS,w.nodes,w.addr hp,w.f0 hp,w.addr hx,w.f0 hx,AZ,BW,(AX:¬(2:Int)=1),(AX:¬(4:Int)=1),(AX:¬(4:Int)=2),kp,c]
 have j:=aGY w ok hx hp;by_cases re:Reach A x p
 .refine⟨4,?_,⟨λh=>absurd h AX,λf=>absurd re f.re⟩⟩;rw[AA re] at j;rw[Af,Km];refine first _ _ ?_
  rcases kp with kp|kp|kp<;>simp only[abS,w.nodes,w.addr hp,w.f0 hp,w.addr hx,w.f0 hx,AZ,BW,(AX:¬(2:Int)=1),(AX:¬(4:Int)=1),(AX:¬(4:Int)=2),kp,d,c,j.Ad]
 rw[Ay re] at j;by_cases g:b=0
 .refine⟨0,?_,⟨λ_=>⟨hp,hx,λh=>absurd g h,kp,⟨d,c⟩,re⟩,λ_=>rfl⟩⟩;rw[Af,Km];refine first _ _ ?_
  rcases kp with kp|kp|kp<;>simp only[abS,w.nodes,w.addr hp,w.f0 hp,w.addr hx,w.f0 hx,AZ,BW,(AX:¬(2:Int)=1),(AX:¬(4:Int)=1),(AX:¬(4:Int)=2),kp,d,c,j.Ad,g]
 by_cases l:b=x
 .refine⟨5,?_,⟨λh=>absurd h AX,λf=>absurd l (f.hb g).2.1⟩⟩;rw[Af,Km];refine first _ _ ?_
  have NA:¬x=0:=by rw[<-l];exact g
  rcases kp with kp|kp|kp<;>simp only[abS,w.nodes,w.addr hp,w.f0 hp,w.addr hx,w.f0 hx,AZ,BW,(AX:¬(2:Int)=1),(AX:¬(4:Int)=1),(AX:¬(4:Int)=2),kp,d,c,j.Ad,l,NA]
 have P9:=m g;by_cases o:(A.nd b).FL=p
 .refine⟨0,?_,⟨λ_=>⟨hp,hx,λh=>⟨P9,l,o⟩,kp,⟨d,c⟩,re⟩,λ_=>rfl⟩⟩;rw[Af,Km];refine first _ _ ?_
  rcases kp with kp|kp|kp<;>simp only[abS,w.nodes,w.addr hp,w.f0 hp,w.addr hx,w.f0 hx,AZ,BW,(AX:¬(2:Int)=1),(AX:¬(4:Int)=1),(AX:¬(4:Int)=2),kp,d,c,j.Ad,g,l,w.addr P9,w.f1 P9,AW o]
 .refine⟨5,?_,⟨λh=>absurd h AX,λf=>absurd (f.hb g).2.2 o⟩⟩;rw[Af,Km];refine first _ _ ?_
  rcases kp with kp|kp|kp<;>simp only[abS,w.nodes,w.addr hp,w.f0 hp,w.addr hx,w.f0 hx,AZ,BW,(AX:¬(2:Int)=1),(AX:¬(4:Int)=1),(AX:¬(4:Int)=2),kp,d,c,j.Ad,g,l,w.addr P9,w.f1 P9,o]
def QB(b x:Int)(l:List Int):List Int:=l.flatMap λk=>if k=b then[x,k] else[k]
def TW{b x:Int}:∀{l:List Int},b∉l->QB b x l=l
 |[],_=>rfl
 |y::l,h=>by have h1:¬y=b:=λe=>h (by simp[e]);have h2:b∉l:=λe=>h (by simp[e]);have:=TW (x:=x) h2;unfold QB at this⊢;rw[MA,Ac h1,this];rfl
def oJ{b x:Int}:∀{l:List Int},l.Nodup->b∈l->QB b x l=l.takeWhile (λk=>decide (k≠b))++x::l.dropWhile (λk=>decide (k≠b))
 |[],_,h=>by cases h
 |y::l,hn,h=>by
  rw[B5] at hn;by_cases h1:y=b;.subst h1;have:=TW (x:=x) hn.1;unfold QB at this⊢;rw[MA,Ae rfl,this];simp
  .have h2:b∈l:=by rcases AT.1 h with h|h;exact absurd h.symm h1;exact h
   have:=oJ (x:=x) hn.2 h2;unfold QB at this⊢;rw[MA,Ac h1,this,aIP,aIQ];simp[h1]
def oK{b x:Int}{l:List Int}:(QB b x l).length<=2*l.length:=by
 induction l with
 |nil=>simp[QB]
 |cons y l ih=>unfold QB at ih⊢;rw[MA,Aw,A9];split<;>simp only[A9,BP]<;>omega
def ir{b x y:Int}{l:List Int}:QB b x (l++[y])=QB b x l++if y=b then[x,y] else[y]:=by unfold QB;rw[List.flatMap_append];simp
open Classical in
def aG2{p b e:Int}(w:RA h a n i ps A)(ok:EA A e)(hb:∀y,(A.nd y).A6.length<=900000000):∃q h' IN,BH cx 129 [Pt a 0,I p,I x,I b] h (I q) h'/\RA h' a n i IN (A.Fq p x b)/\DA h (I9 a n i) h' (I9 a n i):=by
 obtain⟨q,K,o⟩:=aG1 (p:=p) (x:=x) (b:=b) w ok;by_cases hf:qg A p x b;rotate_left;.have h0:¬q=0:=λh=>hf (o.1 h);refine⟨q,h,ps,?_,by rw[Ox hf];exact w,.refl⟩;rw[Af,xJ];simp only[abS,K.Ad,BW,h0]
 have h0:=o.2 hf;subst h0;obtain⟨h1,Wc,r2,w1,E⟩:=aG0 w hf.hn (λy=>Bu (hb y) AX) ok;have xd:((A.cut x).nd p).A6.Nodup/\(b≠0->b∈((A.cut x).nd p).A6)/\((A.cut x).nd p).A6.length<=900000000/\(0:Int)∉((A.cut x).nd p).A6/\(A.cut x).has p/\(A.cut x).has x:=by
  have QZ:=rX ok hf.hn hf.kn.2;have QY:(A.cut x).has p:=K5.2 hf.hp;refine⟨(QZ.RH p QY).wK,λh0=>?_,?_,λh0=>?_,QY,K5.2 hf.hn⟩
  .obtain⟨b1,b2,b3⟩:=hf.hb h0;have uh:((A.cut x).nd b).FL=p:=by rw[Rt ok hf.hn,Ac b2];split<;>exact b3
   have:=(QZ.FL b (K5.2 b1) (by rw[uh];have:=hf.hp.1;omega)).2;rwa [uh] at this
  .have h1:=hb p;have h2:=hb x;rw[Rt ok hf.hn];split;.exact h2
   .split;.exact Bu (Vr _ _) h1
    .exact h1
  .have:=(QZ.MK p QY 0 h0).1.1;omega
 obtain⟨xd,t,ć,hz,QY,OX⟩:=xd;generalize z:A.cut x=c at*;have Ji:Ev cx 129 [Pt a 0,I p,I x,I b] h λr h'=>r=I 0/\∃IN,RA h' a n i IN (A.Fq p x b)/\DA h (I9 a n i) h' (I9 a n i):=by
  have hm:AM=140737488355328:=rfl;unfold Ev;rw[xJ];simp only[abS,K.Ad,BW,r2.Ad];have YW:=w1.MK QY;have lk:=AU.CL YW;refine DP (i:=0) (λs:Aa×Nat=>[s.1,I (s.2:Int)]) (λs h2=>s.2<=(c.nd p).A6.length/\D1 (QB b x ((c.nd p).A6.take s.2)) s.1/\h2=h1) (λs=>(c.nd p).A6.length-s.2) (λs h2=>D1 (QB b x (c.nd p).A6) s.1/\h2=h1) (.slnil,0) rfl ⟨AQ _,.inr ⟨rfl,rfl⟩,rfl⟩ ?_ ?_
  .rintro⟨u,k⟩ h2 ⟨hk,hu,rfl⟩;simp only at hk hu;rcases AN k (c.nd p).A6.length with hlt|D6
   .have B:=AU.BJ (k:= .i64) YW hlt;rw[Cn] at B;have bS:=oK (b:=b) (x:=x) (l:=(c.nd p).A6.take k);rw[As] at bS;have f:AE (.Dh 1) [I x]=some (.sl 1 [Cn x]):=rfl;have gl:AE (.Dh 1) [I (c.nd p).A6[k]]=some (.sl 1 [Cn (c.nd p).A6[k]]):=rfl;have hs:=ir (b:=b) (x:=x) (y:=(c.nd p).A6[k]) (l:=(c.nd p).A6.take k);rw[<-AB hlt] at hs;by_cases xw:(c.nd p).A6[k]=b;.have a1:=AU.Ki (b:=8) (a:=x) hu Ab;have OU:D1 (QB b x ((c.nd p).A6.take k)++[x]) (.sl 1 ((QB b x ((c.nd p).A6.take k)++[x]).map Cn)):= .mk;have a2:=AU.Ki (b:=8) (a:=(c.nd p).A6[k]) OU (by rw[Aw,Bi];omega);rw[Ae xw,show[x,(c.nd p).A6[k]]=[x]++[(c.nd p).A6[k]] from rfl,<-AI] at hs;simp only[abS,w1.nodes,w1.addr QY,w1.f2 QY,lk,(Ab:(k:Int)<((c.nd p).A6.length:Int)),B,AW xw,f,a1,gl,a2,AZ,BI (Ab:k<9223372036854775807)];exact .next (_,k+1) rfl ⟨hlt,by rw[hs];exact .mk,rfl⟩ Dq
    .have a2:=AU.Ki (b:=8) (a:=(c.nd p).A6[k]) hu Ab;rw[Ac xw] at hs;simp only[abS,w1.nodes,w1.addr QY,w1.f2 QY,lk,(Ab:(k:Int)<((c.nd p).A6.length:Int)),B,xw,gl,a2,AZ,BI (Ab:k<9223372036854775807)];exact .next (_,k+1) rfl ⟨hlt,by rw[hs];exact .mk,rfl⟩ Dq
   .rw[AG D6] at hu;simp only[abS,w1.nodes,w1.addr QY,w1.f2 QY,lk,(Ab:¬(k:Int)<((c.nd p).A6.length:Int))];exact .HC (u,k) rfl ⟨hu,rfl⟩
  .rintro⟨u,k⟩ h2 ⟨hu,rfl⟩;simp only at hu;obtain⟨m,Jr,hw⟩:∃m,D1 (Je (c.nd p).A6 b x) m/\(b=0->AE (.append 1 8) [u,.sl 1 [Cn x]]=some m)/\(b≠0->m=u):=by
    have bS:=oK (b:=b) (x:=x) (l:=(c.nd p).A6);by_cases h0:b=0;.have a1:=AU.Ki (b:=8) (a:=x) hu Ab;refine⟨_,?_,λ_=>a1,λh=>absurd h0 h⟩;have e:QB b x (c.nd p).A6=(c.nd p).A6:=TW (by rw[h0];exact hz);rw[e];unfold Je;rw[Ae h0];exact .mk
    .refine⟨u,?_,λh=>absurd h h0,λ_=>rfl⟩;unfold Je;rw[Ac h0,<-oJ xd (t h0)];exact hu
   obtain⟨O,J,j,D,_⟩:=w1.wr QY (k:=2) AX (v:=m) (AU.cells Jr) (p:=⟨{c.nd p with A6:=Je (c.nd p).A6 b x},m,(pR Wc p).av,Jr,w1.jq QY⟩) (by simp only[RN.row];rw[(w1.pn QY).2];rfl);have Č:(c.set p {c.nd p with A6:=Je (c.nd p).A6 b x}).has x:=Il.2 OX;have Zq:=(j.pn Č).2;obtain⟨N,H,F,C,_⟩:=j.wr Č (k:=1) AX (v:= I p) rfl (p:=⟨{(c.set p {c.nd p with A6:=Je (c.nd p).A6 b x}).nd x with FL:=p},(pR _ x).kv,(pR _ x).av,j.MK Č,j.jq Č⟩) (by simp only[RN.row];rw[Zq];rfl);have L:A.Fq p x b=(c.set p {c.nd p with A6:=Je (c.nd p).A6 b x}).set x {(c.set p {c.nd p with A6:=Je (c.nd p).A6 b x}).nd x with FL:=p}:=by unfold Ar.Fq;rw[Ae hf,z];rfl
   have d:=j.nodes;have g:=j.addr Č;rw[Bn] at d g;have f:AE (.Dh 1) [I x]=some (.sl 1 [Cn x]):=rfl;by_cases h0:b=0;.have a1:=hw.1 h0;simp only[abS,AW h0,f,a1,AZ,w1.nodes,w1.addr QY,J,d,g,H];exact⟨_,rfl,rfl,_,by rw[L];exact F,(E.trans D).trans C⟩
   .have M:=hw.2 h0;subst M;simp only[abS,h0,AZ,w1.nodes,w1.addr QY,J,d,g,H];exact⟨_,rfl,rfl,_,by rw[L];exact F,(E.trans D).trans C⟩
 obtain⟨r,h',hr,rfl,IN,w',x'⟩:=Ji.ret;exact⟨0,h',IN,hr,w',x'⟩
def ae(s:Int):Jj cx 207 [I s] (.bool (decide (BS.HV s))):=by rw[Lk,Ä];by_cases h1:0<=s<;>by_cases h2:s<=7<;>simp[h1,h2,BS.HV]
def oL(w:RA h a n i ps A)(hl:A.len<=1000000000)(p:RN):∃h' n' o,BH cx 164 [Pt a 0,.agg p.row] h (I (A.len+1)) h'/\RA h' a n' o (ps++[p]) (A.add p.x)/\DA h (I9 a n i) h' (I9 a n' o):=by
 have hm:AM=140737488355328:=rfl;have hlen:=w.len;have aY:=w.il;have bS:ps.length<=1000000000:=by unfold Ar.len at hl;omega
 have g1:=JM (b:=168) (AD:=(RN.z::ps).map RN.row) (r2:=[p.row]) (v:= .sl 13 [p.row]) (vg _) AX w.hn .mk AH Ee;have M:((RN.z::ps).map RN.row).length=ps.length+1:=AH;rw[M,Bi] at g1;have m:(h.set n .CO++[Dw.cells ((RN.z::ps).map RN.row++[p.row]).flatten]).length=h.length+1:=AH;have l:(h.set n .CO++[Dw.cells ((RN.z::ps).map RN.row++[p.row]).flatten])[h.length]?=some (.cells ((RN.z::(ps++[p])).map RN.row).flatten):=by rw[Bl AH];simp
 have Vx:=w.lt (.inl rfl);have aL1:=w.lt (.inr (.inr rfl));have OH:=w.lt (.inr (.inl rfl));have a1:(h.set n .CO++[Dw.cells ((RN.z::ps).map RN.row++[p.row]).flatten])[a]?=some (.cells [.CE n 0 (ps.length+1) 13,.CE i 0 (ps.length+1) 1]):=by rw[Aj (by simpa using Vx),Ap (DG w.d.1)];exact w.ha
 have i1:(h.set n .CO++[Dw.cells ((RN.z::ps).map RN.row++[p.row]).flatten])[i]?=some (.cells ((0::A.i).map (Aa.int .i64))):=by rw[Aj (by simpa using aL1),Ap w.d.2.2];exact w.hi
 have B:∀j,j<h.length->j≠n->(h.set n .CO++[Dw.cells ((RN.z::ps).map RN.row++[p.row]).flatten])[j]?=h[j]?:=λj hj hn=>by rw[Aj (by simpa using hj),Ap (DG hn)]
 generalize h.set n .CO++[Dw.cells ((RN.z::ps).map RN.row++[p.row]).flatten]=h1 at*;have q:At h1 a 0 _:=⟨_,a1,rfl⟩;have s:=q.store (u:= .CE h.length 0 (ps.length+1+1) 13) rfl;have a2:=H9 (k:=0) (v:= .CE h.length 0 (ps.length+1+1) 13) a1;have D:(put h1 a 0 (.CE h.length 0 (ps.length+1+1) 13))[h.length]?=_:=(Ck Ab).trans l;have H:(put h1 a 0 (.CE h.length 0 (ps.length+1+1) 13))[i]?=_:=(Ck (DG w.d.2.1)).trans i1;have y:∀j,j<h.length->j≠n->j≠a->(put h1 a 0 (.CE h.length 0 (ps.length+1+1) 13))[j]?=h[j]?:=λj hj hn ha=>(Ck ha).trans (B j hj hn);have g:(put h1 a 0 (.CE h.length 0 (ps.length+1+1) 13)).length=h.length+1:=by rw[JD,m]
 generalize put h1 a 0 (.CE h.length 0 (ps.length+1+1) 13)=h2 at*;have F:Bd h2 none (Pt a 1)=some (.CE i 0 (ps.length+1) 1):=At.load ⟨_,a2,rfl⟩;have g2:=JM (b:=8) (h:=h2) (id:=i) (AD:=(0::A.i).map Cn) (r2:=[Cn 0]) (v:= .sl 1 [[I 0]]) (Ml (f:=Cn) (λ_=>rfl) _) AX (by rw[NQ];exact H) (.inl rfl) AH Ee;have L:((0::A.i).map Cn).length=ps.length+1:=Ee;rw[L,Bi,g] at g2;have aL2:a<h2.length:=Ab;have a3:(h2.set i .CO++[Dw.cells ((0::A.i).map Cn++[Cn 0]).flatten])[a]?=_:=((Aj (by simpa using aL2)).trans (Ap (DG w.d.2.1))).trans a2;have C:(h2.set i .CO++[Dw.cells ((0::A.i).map Cn++[Cn 0]).flatten])[h.length]?=_:=((Aj Ee).trans (Ap Ab)).trans D;have i3:(h2.set i .CO++[Dw.cells ((0::A.i).map Cn++[Cn 0]).flatten])[h.length+1]?=some (.cells ((0::(A.i++[0])).map (Aa.int .i64))):=by rw[Bl Ee];simp only[Bn,g,C6,IK];rw[<-NQ];simp
 have t:∀j,j<h.length->j≠n->j≠a->j≠i->(h2.set i .CO++[Dw.cells ((0::A.i).map Cn++[Cn 0]).flatten])[j]?=h[j]?:=λj hj hn ha hi=>((Aj Ee).trans (Ap (DG hi))).trans (y j hj hn ha)
 have K:(h2.set i .CO++[Dw.cells ((0::A.i).map Cn++[Cn 0]).flatten]).length=h.length+2:=Ee;generalize h2.set i .CO++[Dw.cells ((0::A.i).map Cn++[Cn 0]).flatten]=c at*;have t3:At c a 1 (.CE i 0 (ps.length+1) 1):=⟨_,a3,rfl⟩;have r:=t3.store (u:= .CE (h.length+1) 0 (ps.length+1+1) 1) rfl;have a4:=H9 (k:=1) (v:= .CE (h.length+1) 0 (ps.length+1+1) 1) a3;have l4:Bd (put c a 1 (.CE (h.length+1) 0 (ps.length+1+1) 1)) none (Pt a 0)=some (.CE h.length 0 (ps.length+1+1) 13):=At.load ⟨_,a4,rfl⟩;refine⟨put c a 1 (.CE (h.length+1) 0 (ps.length+1+1) 1),h.length,h.length+1,?_,⟨?_,?_,?_,?_,?_,?_⟩,⟨by rw[JD];omega,λj hj hn=>?_,λj hj=>?_⟩⟩
 .have em:AE (.Dh 13) [.agg p.row]=some (.sl 13 [p.row]):=rfl;have gl:AE (.Dh 1) [I 0]=some (.sl 1 [[I 0]]):=rfl;have hd:=Ie (n:=ps.length+1+1) Ab Ab;have J:A.len+1=((ps.length+1+1 -1:Nat):Int):=by unfold Ar.len;omega
  have E:AE (.len false) [.CE h.length 0 (ps.length+1+1) 13]=some (I ((ps.length+1+1:Nat):Int)):=rfl;rw[RN.row] at em g1;rw[Af,Á,RN.row,J];simp only[abS,w.nodes,em,g1,s,F,gl,g2,r,l4,E,hd]
 .unfold Ar.add;simp only;rw[w.e,BF];rfl
 .unfold Ar.add;simp only[Aw,Bi];omega
 .rw[a4,Aw];rfl
 .rw[Ck Ab];exact C
 .rw[Ck Ab];exact i3
 .exact⟨Ab,Ab,Ab⟩
 .have h1:j≠a:=λe=>hn (.inl e);have h2:j≠n:=λe=>hn (.inr (.inl e));have c:j≠i:=λe=>hn (.inr (.inr e));rw[Ck h1];exact t j hj h2 h1 c
 .rcases hj with rfl|rfl|rfl
  .exact .inl (.inl rfl)
  .exact .inr (Ag _)
  .exact .inr (Fi _)
def aAa{v:Aa}{l:List A3}(hv:Br l v)(hb:l.length<=1000000000)(hs:∀y∈l,BS.HV y.A7)(h:Ah):BH cx 312 [v] h (.bool true) h:=by
 rw[Af,æ];refine Bf (λk:Nat=>[ff,I (k:Int)]) (λk h1=>k<=l.length/\h1=h) (λk=>l.length-k) 0 rfl ⟨AQ _,rfl⟩ ?_;rintro k h1 ⟨hk,rfl⟩;have hvl:=AU.CL hv;rcases AN k l.length with hlt|D6
 .have b:=AU.BJ (k:= .i64) hv hlt;rw[A3.row] at b;have c:∀{Q:Hb} {h:Ah} {kk:Aa->IT},W cx (.BV 207 [I l[k].A7] kk) Q h↔W cx (kk (.bool (decide (BS.HV l[k].A7)))) Q h:=(ae _).BV rfl rfl;simp only[abS,hvl,(Ab:(k:Int)<(l.length:Int)),b,c,AA (hs _ (AL hlt)),BI (Ab:k<9223372036854775807)];exact AK.next (k+1) rfl ⟨hlt,rfl⟩ Ab
 .simp only[abS,hvl,(Ab:¬(k:Int)<(l.length:Int))]
def aAb{v:Aa}{l:List A3}(hv:Br l v)(hb:l.length<=1000000000)(h:Ah):∃u,BH cx 313 [v] h u h/\Br (Cv l) u:=by
 have hm:AM=140737488355328:=rfl;have hvl:=AU.CL hv;have Ji:Ev cx 313 [v] h λr h'=>Br (Cv l) r/\h'=h:=by
  unfold Ev;rw[ç];refine Bf (λs:Aa×Nat=>[s.1,I (s.2:Int)]) (λs h1=>s.2<=l.length/\Br (Cv (l.take s.2)) s.1/\h1=h) (λs=>l.length-s.2) (.slnil,0) rfl ⟨AQ _,.inr ⟨rfl,rfl⟩,rfl⟩ ?_;rintro⟨u,k⟩ h1 ⟨hk,hu,rfl⟩;simp only at hk hu;rcases AN k l.length with hlt|D6
  .have j8:=AU.CL hu;have ji:=Ql (l:=l.take k);rw[As] at ji;have e:=AU.BJ (k:= .i64) hv hlt;rw[A3.row] at e;simp only[abS,↓reduceIte,hvl,(Ab:(k:Int)<(l.length:Int))];refine DP (i:=2) (λj:Nat=>[.bool (((Cv (l.take k)).take j).any λz=>decide (Dx l[k]=Dx z)),I (j:Int)]) (λj h2=>j<=(Cv (l.take k)).length/\h2=h1) (λj=>(Cv (l.take k)).length-j) (λj h2=>j=(Cv (l.take k)).length/\h2=h1) 0 rfl ⟨AQ _,rfl⟩ ?_ ?_
   .rintro j h2 ⟨hj,rfl⟩;rcases AN j (Cv (l.take k)).length with c|q
    .have o:=AU.BJ (k:= .i64) hu c;rw[A3.row] at o;have es:((Cv (l.take k)).take (j+1)).any (λz=>decide (Dx l[k]=Dx z))=(((Cv (l.take k)).take j).any (λz=>decide (Dx l[k]=Dx z))||decide (Dx l[k]=Dx (Cv (l.take k))[j])):=by rw[AB c,UM];simp
     by_cases g:(Cv (l.take k))[j].A7=l[k].A7
     .by_cases p:(Cv (l.take k))[j].name=l[k].name
      .have d:decide (Dx l[k]=Dx (Cv (l.take k))[j])=true:=by simp[Dx,g,p]
       simp only[abS,j8,(Ab:(j:Int)<((Cv (l.take k)).length:Int)),e,o,AW g,AA p,BI (Ab:j<9223372036854775807)];exact .next (j+1) (by rw[es,d,aDc]) ⟨c,rfl⟩ Ab
      .have d:decide (Dx l[k]=Dx (Cv (l.take k))[j])=false:=by simp[Dx];exact λ_ h=>p h.symm
       simp only[abS,j8,(Ab:(j:Int)<((Cv (l.take k)).length:Int)),e,o,AW g,Ay p,BI (Ab:j<9223372036854775807)];exact .next (j+1) (by rw[es,d,JF]) ⟨c,rfl⟩ Ab
     .have d:decide (Dx l[k]=Dx (Cv (l.take k))[j])=false:=by simp[Dx];exact λh=>absurd h.symm g
      simp only[abS,j8,(Ab:(j:Int)<((Cv (l.take k)).length:Int)),e,o,g,BI (Ab:j<9223372036854775807)];exact .next (j+1) (by rw[es,d,JF]) ⟨c,rfl⟩ Ab
    .simp only[abS,j8,(Ab:¬(j:Int)<((Cv (l.take k)).length:Int))];exact .HC j rfl ⟨Ab,rfl⟩
   .rintro j h2 ⟨rfl,rfl⟩;have m:Cv (l.take (k+1))=if(Cv (l.take k)).any (λz=>decide (Dx l[k]=Dx z)) then Cv (l.take k) else Cv (l.take k)++[l[k]]:=by rw[AB hlt];exact Qw
    have em:AE (.Dh 3) [.agg [I l[k].A7,.str l[k].name,.str l[k].value]]=some (.sl 3 [[I l[k].A7,.str l[k].name,.str l[k].value]]):=rfl;have a1:=AU.Ki (f:=A3.row) (b:=40) (a:=l[k]) hu Ab;rw[A3.row] at a1;rw[Bv];cases hq:(Cv (l.take k)).any (λz=>decide (Dx l[k]=Dx z)) with
    |true=>rw[Ae hq] at m;simp only[abS,↓reduceIte,BI (Ab:k<9223372036854775807)];exact AK.next (u,k+1) rfl ⟨hlt,by rw[m];exact hu,rfl⟩ Dq
    |false=>rw[Ac (by rw[hq];decide)] at m;simp only[abS,Nat.reduceLeDiff,↓reduceIte,e,em,a1,BI (Ab:k<9223372036854775807)];exact AK.next (_,k+1) rfl ⟨hlt,by rw[m];exact .mk,rfl⟩ Dq
  .rw[AG D6] at hu;simp only[abS,↓reduceIte,hvl,(Ab:¬(k:Int)<(l.length:Int))];exact⟨_,rfl,hu⟩
 obtain⟨r,h',hr,hu,rfl⟩:=Ji.ret;exact⟨r,hr,hu⟩
end
section
variable{h h':Ah}{a n i:Nat}{ps:List RN}{A:Ar}{x d:Int}{G:Nat->Prop}
def oM(w:RA h a n i ps A)(hd:A.has d)(hk:(A.nd d).kind=1):BH cx 168 [Pt a 0,I d] h (I 0) h:=by rw[Af,Ã];simp only[abS,(HF (x:=d) w).Ad,AA hd,w.nodes,w.addr hd,w.f0 hd,hk,BW]
def aG7(w:RA h a n i ps A)(hl:A.len<=1000000000)(hd:A.has d)(hk:(A.nd d).kind=1)(k:Int)(s:Ao):
  ∃h' n' c IN,BH cx 128 [Pt a 0,I d,.agg [I k,I 0,.slnil,I 0,I 0,S [],.slnil,.str s,S [],S [],ff,I 0,I 0]] h (.tuple [I (A.len+1),I 0]) h'/\RA h' a n' c IN (A.add {kind:=k,Cf:=d,data:=s})/\DA h (I9 a n i) h' (I9 a n' c):=by
 obtain⟨h1,f,i1,b,w1,e⟩:=oL w hl ⟨{kind:=k,Cf:=d,data:=s},.slnil,.slnil,.inr ⟨rfl,rfl⟩,.inr ⟨rfl,rfl⟩⟩;refine⟨h1,f,i1,_,?_,w1,e⟩;rw[RN.row] at b;rw[Af,xI];simp only[abS,(oM w hd hk).Ad,b.Ad,BW]
def aG8(w:RA h a n i ps A)(hl:A.len<=1000000000)(q:Bool):
  ∃h' n' c IN,BH cx 62 [Pt a 0,.bool q] h (I (A.len+1)) h'/\RA h' a n' c IN (A.add {kind:=1,Cf:=A.len+1,Cq:=q})/\DA h (I9 a n i) h' (I9 a n' c):=by
 obtain⟨h1,g,i1,b,w1,f⟩:=oL w hl ⟨{kind:=1,Cf:=A.len+1,Cq:=q},.slnil,.slnil,.inr ⟨rfl,rfl⟩,.inr ⟨rfl,rfl⟩⟩;refine⟨h1,g,i1,_,?_,w1,f⟩;have hn:=w.len;have e:((ps.length+1:Nat):Int)=A.len+1:=by unfold Ar.len;omega
 have j:AE (.len false) [.CE n 0 (ps.length+1) 13]=some (I (A.len+1)):=by rw[<-e];rfl
 rw[RN.row] at b;rw[Af,aBV];simp only[abS,Nat.reduceLeDiff,↓reduceIte,AP,w.nodes,j,b.Ad]
def RA.af(w:RA h a n i ps A)(hx:A.has x):AE (.E2 1) [.CE i 0 (ps.length+1) 1,I x]=some (Pt i x.toNat):=by obtain⟨h1,h2⟩:=w.at hx;have:=EX (k:= .i64) (id:=i) (z:=1) h1;rwa [h2,FE] at this
def RA.iat(w:RA h a n i ps A)(hx:A.has x):At h i x.toNat (I (A.inr x)):=by obtain⟨h1,h2⟩:=w.at hx;have b:=hx.1;have hl:=w.len;have aY:=w.il;refine⟨_,w.hi,?_⟩;obtain⟨k,hk⟩:∃k,x.toNat=k+1:=⟨x.toNat-1,Ab⟩;rw[hk,Bk,LO,Cl];unfold Ar.inr;rw[Ae hx,hk,E9,AJ,Ai Ab];rfl
def RA.aHa(w:RA h a n i ps A)(hx:A.has x)(v:Int):RA (put h i x.toNat (I v)) a n i ps (A.I2 x v)/\DA h (I9 a n i) (put h i x.toNat (I v)) (I9 a n i):=by
 obtain⟨h1,h2⟩:=w.at hx;have b:=hx.1;refine⟨⟨w.e,?_,(Ck w.d.2.1).trans w.ha,(Ck w.d.2.2).trans w.hn,?_,w.d⟩,⟨by rw[JD];exact Ag _,λj _ hn=>Ck λe=>hn (.inr (.inr e)),λj hj=> .inl hj⟩⟩;.unfold Ar.I2;simp only;rw[Ae hx,Bn];exact w.il
 .rw[H9 w.hi];obtain⟨k,hk⟩:∃k,x.toNat=k+1:=⟨x.toNat-1,Ab⟩;unfold Ar.I2;simp only;rw[Ae hx,hk,E9,Bk,aMZ,Bk,Ek]
def aHb(w:RA h a n i ps A)(hl:A.len<=1000000000)(hd:A.has d):∃h' n' j IN,BH cx 315 [Pt a 0,I d] h (I (A.Fy d)) h'/\RA h' a n' j IN (A.Dd d)/\DA h (I9 a n i) h' (I9 a n' j):=by
 by_cases h0:A.inr d=0;rotate_left
 .refine⟨h,n,i,ps,?_,by unfold Ar.Dd;rw[Ae h0];exact w,.refl⟩;have e:A.Fy d=A.inr d:=by unfold Ar.Fy;rw[Ae h0]
  rw[Af,yU,e];simp only[abS,w.Yj,w.af hd,(w.iat hd).load,h0]
 .obtain⟨h1,r,i1,Wc,q,w1,m⟩:=aG8 w hl false;have dJ:(A.add {kind:=1,Cf:=A.len+1,Cq:=false}).has d:=DJ.2 (.inl hd);have Na:(A.add {kind:=1,Cf:=A.len+1,Cq:=false}).has (A.len+1):=DJ.2 (.inr rfl);obtain⟨b,l⟩:=w1.aHa dJ (A.len+1);have Tb:((A.add {kind:=1,Cf:=A.len+1,Cq:=false}).I2 d (A.len+1)).has (A.len+1):=Na;have g:(((A.add {kind:=1,Cf:=A.len+1,Cq:=false}).I2 d (A.len+1)).I2 (A.len+1) (A.len+1)).has d:=dJ;obtain⟨c,k⟩:=b.aHa Tb (A.len+1);have e:A.Fy d=A.len+1:=by unfold Ar.Fy;rw[Ac (by simpa using h0)]
  have t:A.Dd d=(((A.add {kind:=1,Cf:=A.len+1,Cq:=false}).I2 d (A.len+1)).I2 (A.len+1) (A.len+1)):=by unfold Ar.Dd;rw[Ac (by simpa using h0)]
  refine⟨_,r,i1,Wc,?_,by rw[t];exact c,(m.trans l).trans k⟩;have s:(((A.add {kind:=1,Cf:=A.len+1,Cq:=false}).I2 d (A.len+1)).I2 (A.len+1) (A.len+1)).inr d=A.len+1:=by
   have f:(A.add {kind:=1,Cf:=A.len+1,Cq:=false}).i.length=(A.add {kind:=1,Cf:=A.len+1,Cq:=false}).n.length:=w1.il;rw[PJ b.il,PJ f];split;.rfl
   .rw[Ae ⟨rfl,dJ⟩]
  have p:=(w1.iat dJ).store (u:= I (A.len+1)) rfl;have o:=(b.iat Tb).store (u:= I (A.len+1)) rfl;have ld:=(c.iat g).load;rw[s] at ld;rw[Af,yU,e];simp only[abS,w.Yj,w.af hd,(w.iat hd).load,h0,q.Ad,w1.Yj,w1.af dJ,p,b.Yj,b.af Tb,o,c.Yj,ld]
def aHc{v:Aa}{l:List A3}(w:RA h a n i ps A)(hx:A.has x)(hk:(A.nd x).kind=4)(hv:Br l v)(hb:l.length<=1000000000)(hs:∀y∈l,BS.HV y.A7):
  ∃h' IN,BH cx 226 [Pt a 0,I x,v] h (I 0) h'/\RA h' a n i IN (A.Jv x l)/\DA h (I9 a n i) h' (I9 a n i):=by
 have e:=aAa hv hb hs h;obtain⟨u,r2,hu⟩:=aAb hv hb h;obtain⟨h1,c,w1,b,_⟩:=w.wr hx (k:=6) AX (v:=u) (AU.cells hu) (p:=⟨{A.nd x with Az:=Cv l},(pR ps x).kv,u,w.MK hx,hu⟩) (by simp only[RN.row];rw[(w.pn hx).2];rfl);refine⟨h1,_,?_,w1,b⟩;rw[Af,Ó];simp only[abS,(HF (x:=x) w).Ad,AA hx,w.nodes,w.addr hx,w.f0 hx,hk,BW,e.Ad,r2.Ad,BK,c]
def aHd(p:RN)(h:Ah):BH cx 314 [.agg p.row] h (.bool (decide (YR p.x))) h:=by rw[Af,è,RN.row];simp only[BC,YR];refine⟨λh1=>⟨λh2=>?_,λh2=>?_⟩,λh1=>?_⟩<;>simp[*]
def RA.aAc(w:RA h a n i ps A)(hx:A.has x):Bd h (some 13) (Pt n (nR x))=some (.agg (pR ps x).row):=by
 obtain⟨h1,h2⟩:=w.at hx;have hlt:x.toNat<(RN.z::ps).length:=by simpa using h1
 have:=aU (vg _) w.hn (i:=x.toNat) (by simpa using h1);rw[CU] at this;have e:=(w.pn hx).1;rw[Ai hlt,Bz] at e;rw[e] at this;exact this
def aAd{v:Aa}{l:List A3}{sp:Int}{nm:Ao}(w:RA h a n i ps A)(hl:A.len+3<=1000000000)(hd:A.has d)(hk:(A.nd d).kind=1)(hs:BS.HV sp)(hv:Br l v)(hb:l.length<=1000000000)(me:∀y∈l,BS.HV y.A7):
  ∃h' n' B IN,BH cx 165 [Pt a 0,I d,I sp,.str nm,v] h (.tuple [I (A.len+1),I 0]) h'/\RA h' a n' B IN (A.elem d sp nm l)/\DA h (I9 a n i) h' (I9 a n' B):=by
 have t:=aAa hv hb me h;obtain⟨u,r2,hu⟩:=aAb hv hb h;have f:u.cells=[u]:=AU.cells hu;obtain⟨h1,M,i1,j,w1,r⟩:=oL w Ab ⟨{kind:=4,Cf:=d,A7:=sp,name:=nm,Az:=Cv l},.slnil,u,.inr ⟨rfl,rfl⟩,hu⟩;have z:∀{Q:Hb} {h:Ah} {kk:Aa->IT},W cx (.BV 207 [I sp] kk) Q h↔W cx (kk (.bool (decide (BS.HV sp)))) Q h:=(ae _).BV rfl rfl;have Na:(A.add {kind:=4,Cf:=d,A7:=sp,name:=nm,Az:=Cv l}).has (A.len+1):=DJ.2 (.inr rfl);have dJ:(A.add {kind:=4,Cf:=d,A7:=sp,name:=nm,Az:=Cv l}).has d:=DJ.2 (.inl hd);have VG:(A.add {kind:=4,Cf:=d,A7:=sp,name:=nm,Az:=Cv l}).len=A.len+1:=by unfold Ar.add Ar.len;simp
 have e:=aHd (pR (ps++[⟨{kind:=4,Cf:=d,A7:=sp,name:=nm,Az:=Cv l},.slnil,u,.inr ⟨rfl,rfl⟩,hu⟩]) (A.len+1)) h1;rw[(w1.pn Na).2,IC,Ae rfl] at e;have ld:=w1.aAc Na;rw[RN.row] at j;unfold Ar.elem;simp only
 by_cases g:YR {kind:=4,Cf:=d,A7:=sp,name:=nm,Az:=Cv l};rotate_left;.rw[Ac g];rw[Ay g] at e;refine⟨h1,M,i1,_,?_,w1,r⟩;rw[Af,xK];simp only[abS,Nat.reduceLeDiff,↓reduceIte,AP,(oM w hd hk).Ad,BW,z,AA hs,t.Ad,r2.Ad,f,j.Ad,w1.nodes,w1.addr Na,ld,e.Ad]
 .rw[Ae g];rw[AA g] at e;generalize o:A.add {kind:=4,Cf:=d,A7:=sp,name:=nm,Az:=Cv l}=b at*;generalize ps++[(⟨{kind:=4,Cf:=d,A7:=sp,name:=nm,Az:=Cv l},.slnil,u,.inr ⟨rfl,rfl⟩,hu⟩:RN)]=Wc at*;obtain⟨h2,O,P,tM,K,H,E⟩:=aHb w1 Ab dJ;have ZZ:(b.Dd d).len<=A.len+2:=by
   unfold Ar.Dd;split;.omega
   .rw[Sx,Sx];have:(b.add {kind:=1,Cf:=b.len+1}).len=b.len+1:=by unfold Ar.add Ar.len;simp
    omega
  have Tb:(b.Dd d).has (A.len+1):=by
   unfold Ar.Dd;split;.exact Na
   .rw[NH,NH];exact DJ.2 (.inl Na)
  obtain⟨R,L,i3,s,c,D⟩:=oL H Ab ⟨{kind:=2,Ei:=A.len+1,Cf:=b.Fy d},.slnil,.slnil,.inr ⟨rfl,rfl⟩,.inr ⟨rfl,rfl⟩⟩;have ŭ:((b.Dd d).add {kind:=2,Ei:=A.len+1,Cf:=b.Fy d}).has (A.len+1):=DJ.2 (.inl Tb);have aCQ:((b.Dd d).add {kind:=2,Ei:=A.len+1,Cf:=b.Fy d}).nd (A.len+1)={kind:=4,Cf:=d,A7:=sp,name:=nm,Az:=Cv l}:=by
   have Ej:=Tb.2;rw[IC,Ac (by unfold Ar.len at Ej⊢;omega)];have h0:b.nd (A.len+1)={kind:=4,Cf:=d,A7:=sp,name:=nm,Az:=Cv l}:=by rw[<-o,IC,Ae rfl]
   unfold Ar.Dd;split;.exact h0
   .rw[Sy,Sy,IC,Ac Ab];exact h0
  have Zq:=(c.pn ŭ).2;rw[aCQ] at Zq;obtain⟨N,J,F,C,_⟩:=c.wr ŭ (k:=11) AX (v:= I ((b.Dd d).len+1)) rfl (p:=⟨{kind:=4,Cf:=d,A7:=sp,name:=nm,Az:=Cv l,cont:=(b.Dd d).len+1},(pR _ (A.len+1)).kv,(pR _ (A.len+1)).av,by have:=c.MK ŭ;rw[aCQ] at this;exact this,by have:=c.jq ŭ;rw[aCQ] at this;exact this⟩) (by simp only[RN.row];rw[Zq];rfl);refine⟨N,L,i3,_,?_,F,((r.trans E).trans D).trans C⟩;rw[RN.row] at s;have m:=c.nodes;have q:=c.addr ŭ;rw[Af,xK];simp only[abS,Nat.reduceLeDiff,↓reduceIte,AP,(oM w hd hk).Ad,BW,z,AA hs,t.Ad,r2.Ad,f,j.Ad,w1.nodes,w1.addr Na,ld,e.Ad,K.Ad,s.Ad,m,q,J]
end
structure RX(h:Ah)(bi a:Nat)(o c t:Aa)(G:Nat->Prop)(b:BS):Prop where
 hb:h[bi]?=some (.cells (Jl a b o c t))
 o:B1 b.AY o
 t:D1 b.tm t
 w:RW h G a b.a
 nb:¬G bi
section
variable{h h':Ah}{bi a:Nat}{o c t:Aa}{G G' F:Nat->Prop}{b:BS}{x:Int}{m:Nat}
def RX.lt(w:RX h bi a o c t G b):bi<h.length:=(Al.1 w.hb).1
def RX.Df{h':Ah}(w:RX h bi a o c t G b)(hf:∀i,i=bi\/G i->h'[i]?=h[i]?):RX h' bi a o c t G b:=
 ⟨by rw[hf bi (.inl rfl)];exact w.hb,w.o,w.t,w.w.Df λi hi=>hf i (.inr hi),w.nb⟩
def RX.IA(w:RX h bi a o c t G b){u:Ah}:RX (h++u) bi a o c t G b:=w.Df λi hi=>Aj (by rcases hi with rfl|hi;exact w.lt;exact w.w.lt hi)
def RX.ld(w:RX h bi a o c t G b)(k:Nat):Bd h none (Pt bi k)=(Jl a b o c t)[k]?:=by simp only[Bd,w.hb,E7]
def RX.l0(w:RX h bi a o c t G b):Bd h none (Pt bi 0)=some (Pt a 0):=w.ld 0
def RX.l1(w:RX h bi a o c t G b):Bd h none (Pt bi 1)=some (I b.Cf):=w.ld 1
def RX.l4(w:RX h bi a o c t G b):Bd h none (Pt bi 4)=some (I b.mode):=w.ld 4
def RX.l7(w:RX h bi a o c t G b):Bd h none (Pt bi 7)=some (I b.head):=w.ld 7
def RX.l9(w:RX h bi a o c t G b):Bd h none (Pt bi 9)=some (.bool b.LX):=w.ld 9
def RX.xh(w:RX h bi a o c t G b):Bd h none (Pt bi 15)=some (.bool b.ER):=w.ld 15
def RX.l3(w:RX h bi a o c t G b):Bd h none (Pt bi 3)=some c:=w.ld 3
def RX.l6(w:RX h bi a o c t G b):Bd h none (Pt bi 6)=some t:=w.ld 6
def RX.zQ(w:RX h bi a o c t G b):At h bi 3 c:=⟨_,w.hb,rfl⟩
def RX.zR{A':Ar}(w:RX h bi a o c t G b)(hp:RW h' G' a A')(x:DA h G h' G'):RX h' bi a o c t G' {b with a:=A'}/\DA h (Bt bi G) h' (Bt bi G'):=
 ⟨⟨by rw[x.old bi w.lt w.nb];exact w.hb,w.o,w.t,hp,λhg=>by rcases x.Bt bi hg with h|h;exact w.nb h;have:=w.lt;omega⟩,x.Ų⟩
def RX.C7(w:RX h bi a o c t G b){u:Ah}:DA h (Bt bi G) (h++u) (Bt bi G):= .IA
def RX.put{k:Nat}{v o' c' t':Aa}{b':BS}(w:RX h bi a o c t G b)(e:(Jl a b o c t).set k v=Jl a b' o' c' t')(ea:b'.a=b.a)(ho:B1 b'.AY o')(ht:D1 b'.tm t'):RX (Am.put h bi k v) bi a o' c' t' G b':=
 ⟨by rw[If w.hb,e];exact AS w.lt,ho,ht,by rw[ea];exact w.w.Df λi hi=>Ck λe=>w.nb (e▸hi),w.nb⟩
def RX.I8{u:Aa}{l:List Item}(w:RX h bi a o c t G b)(hu:B1 l u):RX (Am.put h bi 2 u) bi a u c t G {b with AY:=l}:=w.put rfl rfl hu w.t
def RX.Lr{u:Aa}{l:List Cs}(w:RX h bi a o c t G b):RX (Am.put h bi 3 u) bi a o u t G {b with A8:=l}:=w.put rfl rfl w.o w.t
def RX.st{k:Nat}{v v0:Aa}(w:RX h bi a o c t G b)(hk:(Jl a b o c t)[k]?=some v0)(hv:v.cells=[v]):Cx h 1 (Pt bi k) v=some (Am.put h bi k v):=At.store (v:=v0) ⟨_,w.hb,hk⟩ hv
def RX.Đ(w:RX h bi a o c t G b):Bd h (some 4) (Pt bi 10)=some (.agg b.ctx.row):=by simp only[Bd,w.hb];rfl
def RX.nW(w:RX h bi a o c t G b)(v:Int):RX (Am.put h bi 4 (I v)) bi a o c t G {b with mode:=v}:=w.put rfl rfl w.o w.t
def RX.tT{u:Aa}{l:List Int}(w:RX h bi a o c t G b)(hu:D1 l u):RX (Am.put h bi 6 u) bi a o c u G {b with tm:=l}:=w.put rfl rfl w.o hu
def RX.step{A':Ar}{R:Ah->Prop}(w:RX h bi a o c t G b)(f:∀n i ps,RA h a n i ps b.a->∃h' n' d IN,R h'/\RA h' a n' d IN A'/\DA h (I9 a n i) h' (I9 a n' d)):
  ∃h' G',R h'/\RX h' bi a o c t G' {b with a:=A'}/\DA h (Bt bi G) h' (Bt bi G'):=by
 obtain⟨n,i,ps,j,e⟩:=w.w;obtain⟨h',n',d,IN,r,w',x⟩:=f n i ps j;obtain⟨k,g⟩:=w.zR (G':=I9 a n' d) ⟨n',d,IN,w',rfl⟩ (by rw[e];exact x);exact⟨h',_,r,k,g⟩
def Mw(w:RX h bi a o c t G b)(x:Int):BH cx 209 [Pt bi 0,I x] h (I (b.a.nd x).kind) h:=by
 obtain⟨n,i,ps,d,e⟩:=w.w;rw[Af,Æ];by_cases hx:b.a.has x;.simp only[abS,w.l0,(HF (x:=x) d).Ad,AA hx,d.nodes,d.addr hx,d.f0 hx]
 .rw[HE hx];simp only[abS,w.l0,(HF (x:=x) d).Ad,Ay hx]
def ag(w:RX h bi a o c t G b)(x:Int):BH cx 214 [Pt bi 0,I x] h (I (if b.a.has x then(b.a.nd x).Cf else b.Cf)) h:=by
 obtain⟨n,i,ps,d,e⟩:=w.w;rw[Af,Ê];by_cases hx:b.a.has x;.rw[Ae hx];simp only[abS,w.l0,(HF (x:=x) d).Ad,AA hx,d.nodes,d.addr hx,d.f3 hx]
 .rw[Ac hx];simp only[abS,w.l0,(HF (x:=x) d).Ad,Ay hx,w.l1]
def aAe(w:RX h bi a o c t G b)(x:Int)(ws:Ao)(hw:ws.length<9223372036854775806)(hn:(b.a.nd x).name.length<9223372036854775807):BH cx 232 [Pt bi 0,I x,.str ws] h (.bool (decide ((b.a.nd x).kind=4/\(b.a.nd x).A7=1)&&FY ws (b.a.nd x).name)) h:=by
 obtain⟨n,i,ps,d,e⟩:=w.w;rw[Af,Ú];by_cases hk:(b.a.nd x).kind=4
 .have hx:b.a.has x:=by
   by_cases hp:b.a.has x;.exact hp
   .rw[HE hp] at hk;simp at hk
  have r2:∀{Q:Hb} {h:Ah} {kk:Aa->IT},W cx (.BV 139 [.str ws,.str (b.a.nd x).name] kk) Q h↔W cx (kk (.bool (FY ws (b.a.nd x).name))) Q h:=(aFk ws _ hw hn).BV rfl rfl;by_cases hs:(b.a.nd x).A7=1;.simp only[abS,(Mw w x).Ad,AW hk,w.l0,d.nodes,d.addr hx,d.f4 hx,AW hs,d.f5 hx,r2,Jk]
  .simp only[abS,(Mw w x).Ad,AW hk,w.l0,d.nodes,d.addr hx,d.f4 hx,hs,Jk]
 .simp only[abS,(Mw w x).Ad,hk,Jk]
def RX.YB(w:RX h bi a o c t G b)(ok:BA b)(rm:B6 b m)(p x bf:Int):∃d h' G',BH cx 129 [Pt a 0,I p,I x,I bf] h (I d) h'/\RX h' bi a o c t G' {b with a:=b.a.Fq p x bf}/\DA h (Bt bi G) h' (Bt bi G'):=by
 have hk:∀y,(b.a.nd y).A6.length<=900000000:=λy=>Bu (Yl ok.ok y) (by have:=rm.n;omega);obtain⟨h',G',⟨d,r⟩,w',x'⟩:=w.step (A':=b.a.Fq p x bf) (R:=λh'=>∃d:Int,BH cx 129 [Pt a 0,I p,I x,I bf] h (I d) h') λn i ps e=>by obtain⟨d,h',IN,r,w',x'⟩:=aG2 (p:=p) (x:=x) (b:=bf) e ok.ok hk;exact⟨h',n,i,IN,⟨d,r⟩,w',x'⟩
 exact⟨d,h',G',r,w',x'⟩
def RX.self(w:RX h bi a o c t G b){A':Ar}(e:A'=b.a):RX h bi a o c t G {b with a:=A'}:=by subst e;exact w
def ah(w:RX h bi a o c t G b)(ok:BA b)(rm:B6 b m)(p x bf:Int):∃h' G',BH cx 166 [Pt bi 0,I p,I x,I bf] h (.tuple []) h'/\RX h' bi a o c t G' {b with a:=b.a.Et x p bf}/\DA h (Bt bi G) h' (Bt bi G'):=by
 obtain⟨s,h1,l,g,w1,f⟩:=w.YB ok rm p x bf;by_cases hp:(b.a.nd p).kind=1;rotate_left
 .have e:b.a.Et x p bf=b.a.Fq p x bf:=by unfold Ar.Et;rw[Ac λh=>hp h.1]
  refine⟨h1,l,?_,by rw[e];exact w1,f⟩;rw[Af,eR];simp only[abS,(Mw w p).Ad,hp,w.l0,g.Ad]
 by_cases hx:(b.a.nd x).kind=4;rotate_left
 .have e:b.a.Et x p bf=b.a.Fq p x bf:=by unfold Ar.Et;rw[Ac λh=>hx h.2.1]
  refine⟨h1,l,?_,by rw[e];exact w1,f⟩;rw[Af,eR];simp only[abS,(Mw w p).Ad,AW hp,(Mw w x).Ad,hx,w.l0,g.Ad]
 have P7:(b.a.nd p).A6.length<=1000000000:=Bu (Yl ok.ok p) (by have:=rm.n;omega);obtain⟨kv,r2,zP⟩:∃v,BH cx 212 [Pt a 0,I p] h v h/\D1 (b.a.nd p).A6 v:=by obtain⟨n,i,ps,q,_⟩:=w.w;exact vh q P7
 have Ji:Ev cx 166 [Pt bi 0,I p,I x,I bf] h λr h'=>r= .tuple []/\∃G',RX h' bi a o c t G' {b with a:=b.a.Et x p bf}/\DA h (Bt bi G) h' (Bt bi G'):=by
  unfold Ev;have hvl:=AU.CL zP;rw[eR];simp only[abS,(Mw w p).Ad,AW hp,(Mw w x).Ad,AW hx,w.l0,r2.Ad];refine Bf (λk:Nat=>[I (k:Int)]) (λk h1=>k<=(b.a.nd p).A6.length/\(∀y∈(b.a.nd p).A6.take k,¬(b.a.nd y).kind=4)/\h1=h) (λk=>(b.a.nd p).A6.length-k) 0 rfl ⟨AQ _,λy hy=>by simp at hy,rfl⟩ ?_;rintro k h2 ⟨hk,ha,rfl⟩;rcases AN k (b.a.nd p).A6.length with hlt|D6
  .have j:=AU.BJ (k:= .i64) zP hlt;rw[Cn] at j;by_cases d:(b.a.nd (b.a.nd p).A6[k]).kind=4
   .have e:b.a.Et x p bf=b.a:=by unfold Ar.Et;rw[Ae ⟨hp,hx,_,AL hlt,d⟩]
    simp only[abS,hvl,(Ab:(k:Int)<((b.a.nd p).A6.length:Int)),j,(Mw w _).Ad,AW d];exact⟨_,rfl,rfl,G,w.self e,.refl⟩
   .simp only[abS,hvl,(Ab:(k:Int)<((b.a.nd p).A6.length:Int)),j,(Mw w _).Ad,d,BI (Ab:k<9223372036854775807)];refine AK.next (k+1) rfl ⟨hlt,λy hy=>?_,rfl⟩ Ab;rw[AB hlt] at hy;rcases Ax.1 hy with hy|hy
    .exact ha y hy
    .rw[DB] at hy;rw[hy];exact d
  .rw[AG D6] at ha;have e:b.a.Et x p bf=b.a.Fq p x bf:=by unfold Ar.Et;rw[Ac λh=>by obtain⟨_,_,y,hy,d⟩:=h;exact ha y hy d]
   simp only[abS,hvl,(Ab:¬(k:Int)<((b.a.nd p).A6.length:Int)),w.l0,g.Ad];exact⟨_,rfl,rfl,l,by rw[e];exact w1,f⟩
 obtain⟨r,h',hr,rfl,G',w',x'⟩:=Ji.ret;exact⟨h',G',hr,w',x'⟩
def aHe{v:Aa}{l:List Int}(hv:D1 l v)(hb:l.length<=1000000000)(x:Int)(h:Ah):BH cx 213 [v,I x] h (I (B8 (λy=>decide (x=y)) 0 l)) h:=by
 rw[Af,É];have hvl:=AU.CL hv;refine Bf (λk:Nat=>[I 0,I (k:Int)]) (λk h1=>k<=l.length/\B8 (λy=>decide (x=y)) 0 l=B8 (λy=>decide (x=y)) k (l.drop k)/\h1=h) (λk=>l.length-k) 0 rfl ⟨AQ _,rfl,rfl⟩ ?_;rintro k h1 ⟨hk,ha,rfl⟩;rcases AN k l.length with hlt|D6
 .have d:=AU.BJ (k:= .i64) hv hlt;rw[Cn] at d;rw[AF hlt,B8] at ha;simp only[abS,hvl,(Ab:(k:Int)<(l.length:Int)),d,BI (Ab:k<9223372036854775807)];refine⟨λh2=>?_,λh2=>?_⟩;.rw[ha,Ae (by simp[h2])]
  .rw[Ac (by simpa using λe=>h2 e.symm)] at ha;exact AK.next (k+1) rfl ⟨hlt,ha,rfl⟩ Ab
 .rw[AO D6,B8] at ha;simp only[abS,hvl,(Ab:¬(k:Int)<(l.length:Int)),ha]
def vi(w:RX h bi a o c t G b)(x:Int):BH cx 411 [Pt a 0,I x] h (I (b.a.nd x).FL) h:=by obtain⟨n,i,ps,d,_⟩:=w.w;exact aGV d
def vj(w:RX h bi a o c t G b)(rm:B6 b m):BH cx 221 [Pt bi 0] h (.agg (Fx b.AY).row) h:=by have ho:=rm.AY;have ld:Bd h none (Pt bi 2)=some o:=w.ld 2;rw[Af,Ð];simp only[BC,Fa,ld,(aKn w.o Ab).Ad]
def aHf(w:RX h bi a o c t G b)(rm:B6 b m):BH cx 348 [Pt bi 0] h (.tuple [I b.J8.1,I b.J8.2]) h:=by
 have hl:=rm.AY;have ld:Bd h none (Pt bi 2)=some o:=w.ld 2;have f:=aCj (h:=h) w.o Ab E8;have r2:=aCj (h:=h) w.o Ab Bc;have b1:=KO (q:=By [E8]) (l:=b.AY);have b2:=KO (q:=By [Bc]) (l:=b.AY);have at_:∀k:Nat,k<b.AY.length->AE (.E2 4) [o,I (k:Int)]=some (.CG [I (Hv b.AY k).node,I (Hv b.AY k).A7,.str (Hv b.AY k).name,.bool (Hv b.AY k).OM]):=λk hk=>by have:=AU.BJ (k:= .i64) w.o hk;rw[H8 hk,this];rfl
 unfold BS.J8;simp only
 generalize AR (By [E8]) b.AY=i at f b1⊢;generalize AR (By [Bc]) b.AY=d at r2 b2⊢;rw[Af,ê];by_cases h1:i<d;.obtain⟨k,rfl⟩:∃k:Nat,d=(k:Int):=⟨d.toNat,Ab⟩;rw[Ae h1];simp only[abS,ld,r2.Ad,BK,f.Ad,(Ab:(0:Int)<=(k:Int)),h1,AZ,at_ k Ab,Jk]
 .rw[Ac h1];by_cases h2:i<0;.rw[Ae h2];by_cases h0:(0:Int)<=d<;>simp only[abS,Fa,r2.Ad,BK,f.Ad,h0,h1,AZ,Jk,h2,ld,(aFt (h:=h) w.o 0).Ad]
  .obtain⟨k,rfl⟩:∃k:Nat,i=(k:Int):=⟨i.toNat,Ab⟩;rw[Ac h2];by_cases g:(b.a.nd (Hv b.AY k).node).FL=0
   .rw[Ac (by simpa using g)];by_cases j:k=0
    .have e:max ((k:Int)-1) 0=(k:Int):=by omega
     by_cases h0:(0:Int)<=d<;>simp only[abS,Fa,r2.Ad,BK,f.Ad,h0,h1,AZ,Jk,(Ab:¬(k:Int)<0),ld,at_ k Ab,w.l0,(vi w _).Ad,g,BW,AW (Ab:(k:Int)=0),e]
    .have hd:=Ie (n:=k) Ab Ab;have e:max ((k:Int)-1) 0=((k-1:Nat):Int):=Ab;by_cases h0:(0:Int)<=d<;>simp only[abS,Fa,r2.Ad,BK,f.Ad,h0,h1,AZ,Jk,(Ab:¬(k:Int)<0),ld,at_ k Ab,w.l0,(vi w _).Ad,g,BW,(Ab:¬(k:Int)=0),hd,at_ (k-1) Ab,e]
   .rw[Ae g];by_cases h0:(0:Int)<=d<;>simp only[abS,Fa,r2.Ad,BK,f.Ad,h0,h1,AZ,Jk,h2,ld,at_ k Ab,w.l0,(vi w _).Ad,g,BW]
end
def vn{s:Ao}:FY aSI s=decide (s∈HJ):=D7 EF EF
def Ģ{s:Ao}:FY aSz s=decide (s∈[Bc]):=D7 EF EF
def bC{A:Ar}{y:Int}{ws:List Ao}{q:Bool}(hq:q=decide ((A.nd y).name∈ws)):(decide ((A.nd y).kind=4/\(A.nd y).A7=1)&&q)=decide (SC ws A y):=by subst hq;rw[<-Bool.decide_and];rw[C5];unfold SC;exact⟨λh=>⟨h.1.1,h.1.2,h.2⟩,λh=>⟨⟨h.1,h.2.1⟩,h.2.2⟩⟩
def Lu{A:Ar}(ok:EA A 0)(y:Int):(A.nd y).cont≠0↔SC [Bc] A y:=by
 by_cases hy:A.has y
 .constructor;.intro h;have:=(ok.RH y hy).SA h;exact⟨this.1,this.2.1,by rw[this.2.2];simp⟩
  .intro h;exact ok.jn y hy (by have:=hy.1;omega) ⟨h.1,h.2.1,by simpa using h.2.2⟩
 .rw[HE hy];constructor;.intro h;simp at h
  .intro h;have:=h.1;rw[HE hy] at this;simp at this
section
variable{h h':Ah}{bi a:Nat}{o c t:Aa}{G G' F:Nat->Prop}{b:BS}{x:Int}{m:Nat}
def aHg(w:RX h bi a o c t G b)(hnm:∀x,(b.a.nd x).name.length<=1000)(x:Int):BH cx 232 [Pt bi 0,I x,S aSI] h (.bool (decide (SC HJ b.a x))) h:=by have:=aAe w x aSI AX (by have:=hnm x;omega);rwa [bC vn] at this
def aAf(w:RX h bi a o c t G b)(hnm:∀x,(b.a.nd x).name.length<=1000)(x:Int):BH cx 232 [Pt bi 0,I x,S aSz] h (.bool (decide (SC [Bc] b.a x))) h:=by have:=aAe w x aSz AX (by have:=hnm x;omega);rwa [bC Ģ] at this
def aj(w:RX h bi a o c t G b)(ok:BA b)(rm:B6 b m)(hnm:∀x,(b.a.nd x).name.length<=1000)(x:Int):BH cx 208 [Pt bi 0,I x] h (.tuple [I (b.place x).1,I (b.place x).2]) h:=by
 have ho:=rm.AY;have ld:Bd h none (Pt bi 2)=some o:=w.ld 2;have lo:=AU.CL w.o;have p:=vj w rm;have r2:=aHf w rm;obtain⟨n,i,ps,f,_⟩:=w.w;rw[Af,Å];by_cases he:x=0/\b.AY=[]
 .have e:b.place x=(b.Cf,0):=by unfold BS.place;rw[Ae he]
  have q:AE (.len false) [o]=some (I 0):=by rw[lo,he.2];rfl
  rw[e];simp only[abS,AW he.1,ld,q,w.l1,AZ]
 obtain⟨t',Gg⟩:∃t',t'=if x=0 then(Fx b.AY).node else x:=⟨_,rfl⟩
 obtain⟨pb,Vb⟩:∃pb:Int×Int,pb=if b.ER=true/\SC HJ b.a t' then b.J8 else(t',0):=⟨_,rfl⟩
 have e:b.place x=if(b.a.nd pb.1).cont≠0 then((b.a.nd pb.1).cont,0) else pb:=by unfold BS.place;rw[Ac he];simp only;rw[<-Gg,<-Vb]
 have k:=aHg w hnm t';have d:=aAf w hnm pb.1;have SZ:=w.xh;have lI:x=0->¬(b.AY.length:Int)=0:=λh0 h1=>he ⟨h0,LP.1 Ab⟩;rw[e];cases l:b.ER with
 |false=>
  rw[l] at SZ;rw[Ac (by rw[l];intro h;exact absurd h.1 AX)] at Vb;subst Vb;simp only at d⊢;by_cases g:SC [Bc] b.a t'
  .have hc:=(Lu ok.ok t').2 g;have j:b.a.has t':=by
    by_cases hp:b.a.has t';.exact hp
    .have:=g.1;rw[HE hp] at this;simp at this
   rw[AA g] at d;rw[Ae hc];by_cases NA:x=0;.rw[Ae NA] at Gg;subst Gg;simp only[abS,Fa,AW NA,ld,lo,lI NA,p.Ad,AZ,SZ,d.Ad,w.l0,f.nodes,f.addr j,f.ſ j]
   .rw[Ac NA] at Gg;subst Gg;simp only[abS,NA,AZ,SZ,d.Ad,w.l0,f.nodes,f.addr j,f.ſ j]
  .have hc:=λh=>g ((Lu ok.ok t').1 h);rw[Ay g] at d;rw[Ac hc];by_cases NA:x=0;.rw[Ae NA] at Gg;subst Gg;simp only[abS,Fa,AW NA,ld,lo,lI NA,p.Ad,AZ,SZ,d.Ad]
   .rw[Ac NA] at Gg;subst Gg;simp only[abS,NA,AZ,SZ,d.Ad]
 |true=>
  rw[l] at SZ;by_cases hw:SC HJ b.a t'
  .rw[Ae ⟨l,hw⟩] at Vb;subst Vb;rw[AA hw] at k;by_cases g:SC [Bc] b.a b.J8.1
   .have hc:=(Lu ok.ok b.J8.1).2 g;have j:b.a.has b.J8.1:=by
     by_cases hp:b.a.has b.J8.1;.exact hp
     .have:=g.1;rw[HE hp] at this;simp at this
    rw[AA g] at d;rw[Ae hc];by_cases NA:x=0;.rw[Ae NA] at Gg;subst Gg;simp only[abS,Fa,AW NA,ld,lo,lI NA,p.Ad,AZ,SZ,k.Ad,r2.Ad,d.Ad,w.l0,f.nodes,f.addr j,f.ſ j]
    .rw[Ac NA] at Gg;subst Gg;simp only[abS,NA,AZ,SZ,k.Ad,r2.Ad,d.Ad,w.l0,f.nodes,f.addr j,f.ſ j]
   .have hc:=λh=>g ((Lu ok.ok b.J8.1).1 h);rw[Ay g] at d;rw[Ac hc];by_cases NA:x=0;.rw[Ae NA] at Gg;subst Gg;simp only[abS,Fa,AW NA,ld,lo,lI NA,p.Ad,AZ,SZ,k.Ad,r2.Ad,d.Ad]
    .rw[Ac NA] at Gg;subst Gg;simp only[abS,NA,AZ,SZ,k.Ad,r2.Ad,d.Ad]
  .rw[Ac (λh=>hw h.2)] at Vb;subst Vb;rw[Ay hw] at k;simp only at d⊢;by_cases g:SC [Bc] b.a t'
   .have hc:=(Lu ok.ok t').2 g;have j:b.a.has t':=by
     by_cases hp:b.a.has t';.exact hp
     .have:=g.1;rw[HE hp] at this;simp at this
    rw[AA g] at d;rw[Ae hc];by_cases NA:x=0;.rw[Ae NA] at Gg;subst Gg;simp only[abS,Fa,AW NA,ld,lo,lI NA,p.Ad,AZ,SZ,k.Ad,d.Ad,w.l0,f.nodes,f.addr j,f.ſ j]
    .rw[Ac NA] at Gg;subst Gg;simp only[abS,NA,AZ,SZ,k.Ad,d.Ad,w.l0,f.nodes,f.addr j,f.ſ j]
   .have hc:=λh=>g ((Lu ok.ok t').1 h);rw[Ay g] at d;rw[Ac hc];by_cases NA:x=0;.rw[Ae NA] at Gg;subst Gg;simp only[abS,Fa,AW NA,ld,lo,lI NA,p.Ad,AZ,SZ,k.Ad,d.Ad]
    .rw[Ac NA] at Gg;subst Gg;simp only[abS,NA,AZ,SZ,k.Ad,d.Ad]
end
def Nm(A:Ar):Prop:=∀x,(A.nd x).name.length<=1000
section
variable{A A':Ar}{b:BS}{q:oF}{m j:Nat}{nm:Ao}{l:List A3}{sp p x:Int}
def Nm.le(h:Nm A)(hl:Le A A')(hn:A'.n.length=A.n.length):Nm A':=λy=>by
 by_cases hy:A.has y;.rw[hl.name y hy];exact h y
 .have:¬A'.has y:=by unfold Ar.has at hy⊢;rw[hn];exact hy
  rw[HE this];simp
def Nm.add(h:Nm A){y:EP}(hy:y.name.length<=1000):Nm (A.add y):=λx=>by
 rw[IC];split;.exact hy
 .exact h x
def Nm.set(h:Nm A){y:EP}{k:Int}(hy:y.name.length<=1000):Nm (A.set k y):=λx=>by
 rw[JP];split;.exact hy
 .exact h x
def Nm.I2(h:Nm A){k v:Int}:Nm (A.I2 k v):=λx=>by rw[Sy];exact h x
def Nm.Fq(h:Nm A){bf:Int}:Nm (A.Fq p x bf):=h.le MW (I5 (A:=A)).n
def Nm.Et(h:Nm A){bf:Int}:Nm (A.Et x p bf):=h.le I3 (J3 (A:=A)).n
def Nm.Dd(h:Nm A){d:Int}:Nm (A.Dd d):=by
 unfold Ar.Dd;split;.exact h
 .exact(h.add AH).I2.I2
def Nm.elem(h:Nm A){d:Int}(hn:nm.length<=1000):Nm (A.elem d sp nm l):=by
 have h1:Nm (A.add {kind:=4,Cf:=d,A7:=sp,name:=nm,Az:=Cv l}):=h.add hn;unfold Ar.elem;simp only
 split;.exact(h1.Dd.add AH).set hn
 .exact h1
def Nm.mk(h:Nm b.a)(hn:nm.length<=1000):Nm (b.Em nm l sp p).a:=by
 unfold BS.Em;split;.exact h.elem (by rw[X1];exact hn)
 .exact h
def Nm.MN(h:Nm b.a)(hn:nm.length<=1000):Nm (b.EG nm l sp).a:=by
 unfold BS.EG;split;.exact(h.mk hn).Et
 .exact h
def Nm.LG(h:Nm A){s:Ao}{bf:Int}:Nm (BS.LG A s p bf):=by
 unfold BS.LG;split
 .split
  .split;.exact h.set (h _)
   .exact(h.add AH).Et
  .exact(h.add AH).Et
 .exact h
def Nm.E0(h:Nm A){s:Ao}{bf:Int}:Nm (BS.E0 A s p bf):=by
 unfold BS.E0;split;.exact(h.add AH).Et
 .exact h
def Nm.Jw:∀{l:List Cs} {b:BS},Nm b.a->(∀e∈l,e.name.length<=1000)->Nm (BS.Jw l b).2.a
 |[],b,h,_=>h
 |e::l,b,h,hl=>by rw[BS.Jw];exact Nm.Jw (h.MN (hl e AH)) λx hx=>hl x (by simp[hx])
def Nm.Hy(h:Nm b.a):Nm (b.Hy l x).a:=by
 unfold BS.Hy;split;.exact h.set (h _)
 .exact h
def Nm.Fo{blk anc:Int}{far i:Nat}{l:Int}{mk:Nat}(h:Nm b.a)(r:B6 b m):Nm (BS.Fo blk anc far i b l mk).1.a:=by
 unfold BS.Fo;simp only
 split;.exact h
 .split;.exact h
  .rename_i he _;obtain⟨p,hp,c,_,_,_⟩:=HA (Jq.1 he);rw[c,AV,AJ,Ai hp,Hm];exact(h.mk (r.DD _ (AL hp)).1).Fq
def Nm.Ky{blk anc:Int}{far k m:Nat}:∀{c:Nat} {s:BS×Int×Nat},Nm s.1.a->B6 s.1 (m+4*c)->Nm (BS.Ky blk anc far k c s).1.a
 |0,s,h,_=>h
 |c+1,s,h,r=>Nm.Ky (c:=c) (h.Fo r) (Oz (m:=m+4*c) (r.le Ab))
def Nm.CB{n:Int}:∀{l:List Int} {A:Ar},Nm A->Nm (BS.CB A n l)
 |[],A,h=>h
 |y::l,A,h=>Nm.CB (l:=l) (h.Fq (p:=n) (x:=y) (bf:=0))
def Nm.GD{fe:Cs}{blk anc:Int}{s:BS×Int×Nat}(h:Nm s.1.a)(Kz:fe.name.length<=1000):Nm (BS.GD fe blk anc s).a:=by
 unfold BS.GD;simp only
 generalize Vb:s.1.place anc=pb;have h2:Nm (s.1.a.Et s.2.1 pb.1 pb.2):=h.Et;have c:=Nm.mk (b:={s.1 with a:=s.1.a.Et s.2.1 pb.1 pb.2}) (nm:=fe.name) (l:=fe.Az) (sp:=1) (p:=blk) h2 Kz;exact(Nm.CB c).Fq
def Nm.round(h:Nm b.a)(r:B6 b (m+4*b.AY.length+10)):Nm (b.round nm).2.a:=by
 unfold BS.round;simp only
 split
 .have:(b.Dl nm).a=b.a:=by
   unfold BS.Dl;split;.split<;>rfl
   .rfl
  rw[this];exact h
 .rename_i hf;obtain⟨f,Ho,c⟩:=SV (Jq.1 hf);have Wg:b.A8.getD (GB nm b.A8).toNat Cs.zero=b.A8[f]:=by rw[c,AV,AJ,Ai Ho];rfl
  have Kz:=r.DD _ (AL Ho);rw[Wg];split;.exact h
  .split;.exact h
   .split;.exact h
    .have hlt:(D0 b.A8[f].node b.AY).toNat-1 -(AR (Bw b.A8[f].node) b.AY).toNat<=b.AY.length:=by
      rw[IB];split;.omega
      .unfold EY;split;.rename_i j hj;have:=(ED.1 hj).1;rw[Bb] at this;omega
       .omega
     exact Nm.GD (Nm.Ky (m:=m) h (r.le Ab)) Kz.1
def Nm.Ed:∀{n:Nat} {b:BS} {k:Nat},Nm b.a->b.AY.length<=k->B6 b (m+n*(4*(k+n)+10))->Nm (BS.Ed n b nm).a
 |0,b,k,h,hk,r=>h
 |n+1,b,k,h,hk,r=>by
  have e:(n+1)*(4*(k+(n+1))+10)=n*(4*(k+1+n)+10)+(4*(k+(n+1))+10):=by rw[BG,D4,(Ab:k+(n+1)=k+1+n)]
  rw[e] at r;have h1:=OA (m:=m+n*(4*(k+1+n)+10)) (r.le Ab) nm;have h2:=h.round (m:=m+n*(4*(k+1+n)+10)) (nm:=nm) (r.le Ab);unfold BS.Ed;simp only
  split;.exact Nm.Ed (n:=n) (k:=k+1) h2 Ab h1.1
  .exact h2
def aCR(h:Nm b.a)(sz:Sz b (j+1))(hq:g_ q):Nm (Ys b q).1.a:=Yt (P:=λr=>Nm r.1.a)
 (h.MN hq.name)
 (h.MN hq.name)
 (Nm.MN (b:=b) (sp:=1) (l:=q.Az) h hq.name)
 (h.LG)
 (by
  dsimp only;unfold BS.FZ;split;.exact h.E0
  .exact h.E0)
 (Nm.MN (b:=b) (sp:=1) (l:=q.Az) h hq.name)
 (by
  dsimp only;unfold BS.JQ;split;.exact h
  .exact h)
 (Nm.Jw h λe he=>(sz.rm.DD e (BB he)).1)
 (by
  dsimp only;unfold BS.Dl;split
  .split;.exact h
   .exact h
  .exact h)
 (by
  dsimp only;unfold BS.Ig;split
  .unfold BS.Ru;split;.exact h
   .exact h
  .exact Nm.Ed (n:=8) (k:=b.AY.length) (m:=5000000*j) h (Ag _) (sz.rm.le (by have:=sz.AY;omega)))
 h
 (h.Hy)
 (by
  dsimp only;unfold BS.Du;split;.exact h
  .exact h)
 h
 h
 h
 h
 (by
  dsimp only;unfold BS.Ru;split;.exact h
  .exact h)
 h
 h
 h
 h
 h
 (h.mk hq.name)
 h
def ak(q:Bool):Nm (Dt q).a:=λx=>by rw[OC];split<;>simp
def vo(s:ET):Nm s.b.a:=by
 have d:Nm (Jf s.A7 s.name s.Az s.Cq).a:=((ak s.Cq).mk (nm:=Dz) AX).Et;have c:Nm (LN s.A7 s.name s.Az s.Cq).a:=by unfold LN;split<;>exact d
 unfold ET.b TV;split
 .split;.exact c
  .exact c
 .exact ak _
end
section
variable{h h':Ah}{bi a:Nat}{o c t:Aa}{G G' F:Nat->Prop}{b:BS}{x:Int}{m:Nat}
variable{nm:Ao}{av:Aa}{l:List A3}{r:List Aa}{sp p:Int}
def aCS(ok:BA b)(y:Int):(if b.a.has y then(b.a.nd y).Cf else b.Cf)=if(b.a.nd y).Cf≠0 then(b.a.nd y).Cf else b.Cf:=by
 by_cases hy:b.a.has y;.have:=(ok.ok.Cf y hy).1.1;rw[Ae hy,Ae Ab]
 .rw[Ac hy,HE hy,Ac AH]
def ģ(w:RX h bi a o c t G b)(ok:BA b)(rm:B6 b (m+3))(hnm:Nm b.a)(hr:NO nm av r)(hv:Br l av)(hl:DU l)(hn:nm.length<=1000)(p sp:Int):
  ∃h' G',BH cx 104 [Pt bi 0,.agg r,I sp,I p] h (.agg (b.Gv nm l sp).row) h'/\RX h' bi a o c t G' (b.Em nm l sp p)/\DA h (Bt bi G) h' (Bt bi G'):=by
 obtain⟨T,P,O,N,M,L,K,J,U7,Xk,rfl⟩:=hr;have s:∀{Q:Hb} {h:Ah} {kk:Aa->IT},W cx (.BV 207 [I sp] kk) Q h↔W cx (kk (.bool (decide (BS.HV sp)))) Q h:=(ae _).BV rfl rfl;by_cases hs:BS.HV sp;rotate_left
 .refine⟨h,G,?_,by unfold BS.Em;rw[Ac hs];exact w,.refl⟩;have e:b.Gv nm l sp=Item.zero:=by unfold BS.Gv;rw[Ac hs]
  rw[e,Nf,Af,wX];simp only[abS,↓reduceIte,AP,s,Ay hs]
 obtain⟨u,v,hu⟩:=aLa (h:=h) hv (λy hy=>(hl.2 y hy).1) hl.1 sp;have hd:=Qp ok (p:=p);have B:∀y∈l.map (CZ sp),BS.HV y.A7:=by intro y hy;obtain⟨z,_,rfl⟩:=Bj.1 hy;exact dN
 have hlen:(l.map (CZ sp)).length<=1000000000:=by rw[Ak];have:=hl.1;omega
 obtain⟨h',G',j,E,D⟩:=w.step (A':=b.a.elem (b.ID p) sp (BS.IE sp nm) (l.map (CZ sp))) (R:=λh'=>BH cx 165 [Pt a 0,I (b.ID p),I sp,.str (BS.IE sp nm),u] h (.tuple [I (b.a.len+1),I 0]) h') λn i ps f=>by obtain⟨h',n',H,IN,r,wp,C⟩:=aAd (nm:=BS.IE sp nm) f (rm.len Ab) hd.1 hd.2 hs hu hlen B;exact⟨h',n',H,IN,r,wp,C⟩
 have OH:=X1 (sp:=sp) (nm:=nm);have g:=aFp (h:=h') hu (λy hy=>by obtain⟨z,hz,rfl⟩:=Bj.1 hy;rw[aM];have:=(hl.2 z hz).2;have:AM=140737488355328:=rfl;omega) Ab sp (BS.IE sp nm) Ab;have em:AE (.Cm [I 0,I 0,S [],ff] [(0,1),(1,1),(2,1),(3,1)]) [I (b.a.len+1),I sp,.str (BS.IE sp nm),.bool (Fl sp (BS.IE sp nm) (l.map (CZ sp)))]=some (.agg (b.Gv nm l sp).row):=by rw[aF];unfold BS.Gv;rw[Ae hs]
 have q:=aAf w hnm p;refine⟨h',G',?_,by unfold BS.Em;rw[Ae hs];exact E,D⟩;have aY:=λ(y:Item)=>@Item.CK y;obtain⟨n,i,ps,f,_⟩:=w.w;have key:∀(Q:Hb) (kk:DQ->List Aa->IT) (p':Int),p'=(if SC [Bc] b.a p then(b.a.nd p).cont else p)->(if b.a.has p' then(b.a.nd p').Cf else b.Cf)=b.ID p:=by
  intro Q kk p' e;rw[aCS ok];unfold BS.ID;by_cases d:SC [Bc] b.a p;.rw[Ae d] at e;subst e;rw[Ae ((Lu ok.ok p).2 d)]
  .rw[Ac d] at e;subst e;rw[Ac (λh=>d ((Lu ok.ok p').1 h))]
 have key:=key (λ_ _ _=>True) (λ_ _=> .fail);rw[Af,wX];by_cases d:SC [Bc] b.a p
 .have A:b.a.has p:=by
   by_cases hp:b.a.has p;.exact hp
   .have:=d.1;rw[HE hp] at this;simp at this
  have k:=ag w (b.a.nd p).cont;rw[key _ (Ae d).symm] at k;rw[AA d] at q;by_cases h2:sp=2
  .have e:BS.IE sp nm=Co nm IZ:=by unfold BS.IE;rw[Ae h2]
   rw[e] at j g em;simp only[abS,↓reduceIte,AP,Fa,s,AA hs,v.Ad,AW h2,(aFn nm).BV rfl rfl,AZ,q.Ad,w.l0,f.nodes,f.addr A,f.ſ A,k.Ad,BK,j.Ad,g.Ad,em,aY]
  .have e:BS.IE sp nm=nm:=by unfold BS.IE;rw[Ac h2]
   rw[e] at j g em;simp only[abS,↓reduceIte,AP,Fa,s,AA hs,v.Ad,h2,AZ,q.Ad,w.l0,f.nodes,f.addr A,f.ſ A,k.Ad,BK,j.Ad,g.Ad,em,aY]
 .have k:=ag w p;rw[key _ (Ac d).symm] at k;rw[Ay d] at q;by_cases h2:sp=2
  .have e:BS.IE sp nm=Co nm IZ:=by unfold BS.IE;rw[Ae h2]
   rw[e] at j g em;simp only[abS,↓reduceIte,AP,Fa,s,AA hs,v.Ad,AW h2,(aFn nm).BV rfl rfl,AZ,q.Ad,w.l0,k.Ad,BK,j.Ad,g.Ad,em,aY]
  .have e:BS.IE sp nm=nm:=by unfold BS.IE;rw[Ac h2]
   rw[e] at j g em;simp only[abS,↓reduceIte,AP,Fa,s,AA hs,v.Ad,h2,AZ,q.Ad,w.l0,k.Ad,BK,j.Ad,g.Ad,em,aY]
end
section
variable{h h':Ah}{bi a:Nat}{o c t:Aa}{G G' F:Nat->Prop}{b:BS}{x:Int}{m:Nat}
variable{nm:Ao}{av:Aa}{l:List A3}{r:List Aa}{sp p:Int}
def aHh(w:RX h bi a o c t G b)(ok:BA b)(rm:B6 b (m+4))(hnm:Nm b.a)(hr:NO nm av r)(hv:Br l av)(hl:DU l)(hn:nm.length<=1000)(sp:Int):
  ∃h' o' G',BH cx 87 [Pt bi 0,.agg r,I sp] h (I (b.OY sp)) h'/\RX h' bi a o' c t G' (b.EG nm l sp)/\DA h (Bt bi G) h' (Bt bi G'):=by
 have kD:AM=140737488355328:=rfl;have ho:=rm.AY;have g:∀{Q:Hb} {h:Ah} {kk:Aa->IT},W cx (.BV 207 [I sp] kk) Q h↔W cx (kk (.bool (decide (BS.HV sp)))) Q h:=(ae _).BV rfl rfl;have FX:=hr;obtain⟨L,K,J,H,E,D,C,B,U7,Xk,rfl⟩:=hr;by_cases hs:BS.HV sp;rotate_left
 .refine⟨h,o,G,?_,by unfold BS.EG;rw[Ac hs];exact w,.refl⟩;have e:b.OY sp=0:=by unfold BS.OY;rw[Ac hs]
  rw[e,Af,sr];simp only[abS,g,Ay hs]
 have s:=aj w ok rm hnm 0;obtain⟨h1,M,r2,w1,j⟩:=ģ (m:=m+1) w ok (rm.le Ab) hnm FX hv hl hn (b.place 0).1 sp;have QZ:=qo (nm:=nm) (at_:=l) (p:=(b.place 0).1) ok hs;have tU:=I6 (m:=m+1) (nm:=nm) (sp:=sp) (p:=(b.place 0).1) (rm.le Ab) hl;have Ym:(b.Gv nm l sp).node=b.a.len+1:=by unfold BS.Gv;rw[Ae hs]
 have NY:(b.Em nm l sp (b.place 0).1).AY=b.AY:=by unfold BS.Em;rw[Ae hs]
 obtain⟨h2,A,q,d,i⟩:=ah w1 QZ tU (b.place 0).1 (b.Gv nm l sp).node (b.place 0).2;have ld:Bd h2 none (Pt bi 2)=some o:=d.ld 2;obtain⟨u,z,hu⟩:=AU.Gt (b:=40) d.o (by simp only[NY];omega);have v:=AU.Ki (f:=Item.row) (b:=40) (a:=b.Gv nm l sp) hu (by simp only[NY];omega);have Jr:B1 (({b.Em nm l sp (b.place 0).1 with a:=(b.Em nm l sp (b.place 0).1).a.Et (b.Gv nm l sp).node (b.place 0).1 (b.place 0).2}:BS).AY++[b.Gv nm l sp]) _:=AU.mk;have n:=d.I8 Jr;have e:b.OY sp=(b.Gv nm l sp).node:=by unfold BS.OY;rw[Ae hs,Ym]
 refine⟨_,_,A,?_,by unfold BS.EG;rw[Ae hs];simp only;rw[<-Ym];exact n,(j.trans i).trans Bp⟩;have em:AE (.Dh 4) [.agg (b.Gv nm l sp).row]=some (.sl 4 [(b.Gv nm l sp).row]):=Mo;have aY:=λ(y:Item)=>@Item.CK y;rw[e,Af,sr];simp only[abS,Fa,g,AA hs,s.Ad,r2.Ad,aY,q.Ad,ld,z,em,v,d.st (k:=2) (v0:=o) rfl (AU.cells Jr)]
def vp(w:RX h bi a o c t G b)(ok:BA b)(rm:B6 b (m+4))(hnm:Nm b.a)(hr:NO nm av r)(hv:Br l av)(hl:DU l)(hn:nm.length<=1000):
  ∃h' o' G',BH cx 86 [Pt bi 0,.agg r] h (I (b.a.len+1)) h'/\RX h' bi a o' c t G' (b.EG nm l 1)/\DA h (Bt bi G) h' (Bt bi G'):=by
 obtain⟨h',o',G',d,w',x'⟩:=aHh w ok rm hnm hr hv hl hn 1;refine⟨h',o',G',?_,w',x'⟩;have e:b.OY 1=b.a.len+1:=by unfold BS.OY;rw[Ae JW]
 rw[e] at d;obtain⟨s,q,n,k,j,i,g,f,U7,Xk,rfl⟩:=hr;rw[Af,aB0];simp only[BC,d.Ad]
def aL3(w:RX h bi a o c t G b):∃h',BH cx 99 [Pt bi 0] h (.tuple []) h'/\RX h' bi a o c t G {b with stop:=true}/\DA h (Bt bi G) h' (Bt bi G):=by refine⟨_,?_,w.put (k:=19) (v:= .bool true) rfl rfl w.o w.t,Bp⟩;rw[Af,aB6];simp only[BC,w.st (k:=19) (v:=tt) rfl rfl]
end
section
variable{h h':Ah}{bi a:Nat}{o c t:Aa}{G G' F:Nat->Prop}{b:BS}{x:Int}{m:Nat}
variable{nm:Ao}{av:Aa}{l:List A3}{r:List Aa}{sp p:Int}
def aL4(w:RX h bi a o c t G b)(ok:Eu b)(rm:B6 b (m+1000))(hr:NO nm av r)(hv:Br l av)(hl:DU l)(x:Int):
  ∃h' G',BH cx 97 [Pt bi 0,.agg r,I x] h (.tuple []) h'/\RX h' bi a o c t G' (b.Hy l x)/\DA h (Bt bi G) h' (Bt bi G'):=by
 have kD:AM=140737488355328:=rfl;obtain⟨M,L,K,J,H,E,D,C,U7,Xk,rfl⟩:=hr;by_cases hk:(b.a.nd x).kind=4;rotate_left;.refine⟨h,G,?_,by unfold BS.Hy;rw[Ac hk];exact w,.refl⟩;rw[Af,s_];simp only[abS,↓reduceIte,(Mw w x).Ad,hk,BW]
 have hx:b.a.has x:=by
  by_cases hp:b.a.has x;.exact hp
  .rw[HE hp] at hk;simp at hk
 have Vx:=rm.at_ x;have pV:=hl.1;obtain⟨n,i,ps,d,_⟩:=w.w;obtain⟨A,e0,g⟩:=AU.Gt (b:=40) (d.jq hx) Ab;have Ji:Ev cx 97 [Pt bi 0,.agg [M,.str nm,L,K,J,H,E,D,av,C,U7,Xk],I x] h λr h'=>r= .tuple []/\∃G',RX h' bi a o c t G' (b.Hy l x)/\DA h (Bt bi G) h' (Bt bi G'):=by
  unfold Ev;have hvl:=AU.CL hv;rw[s_];simp only[abS,↓reduceIte,(Mw w x).Ad,AW hk,BW,w.l0,d.nodes,d.addr hx,d.f6 hx,e0];refine Bf (λs:Aa×Nat=>[s.1,I (s.2:Int)]) (λs h1=>s.2<=l.length/\Br ((b.a.nd x).Az++BS.plain (l.take s.2)) s.1/\h1=h) (λs=>l.length-s.2) (A,0) rfl ⟨AQ _,by simp only[Kq,BS.plain,CW,BE];exact g,rfl⟩ ?_;rintro⟨u,k⟩ h1 ⟨YW,hu,rfl⟩;simp only at YW hu;rcases AN k l.length with hlt|D6
  .have j:=AU.BJ (k:= .i64) hv hlt;rw[A3.row] at j;have em:AE (.Dh 3) [.agg [I 0,.str l[k].name,.str l[k].value]]=some (.sl 3 [[I 0,.str l[k].name,.str l[k].value]]):=rfl;have a1:=AU.Ki (f:=A3.row) (b:=40) (a:=⟨0,l[k].name,l[k].value⟩) hu (by rw[Aw,BS.plain,Ak,As];omega);rw[A3.aT] at a1;have hs:(b.a.nd x).Az++BS.plain (l.take (k+1))=((b.a.nd x).Az++BS.plain (l.take k))++[⟨0,l[k].name,l[k].value⟩]:=by rw[AB hlt,BS.plain,BF,<-AI];rfl
   simp only[abS,Nat.reduceLeDiff,↓reduceIte,AP,hvl,(Ab:(k:Int)<(l.length:Int)),j,aaS,em,a1,BI (Ab:k<9223372036854775807)];exact AK.next (_,k+1) rfl ⟨hlt,by rw[hs,AI];exact .mk,rfl⟩ Dq
  .have P7:k=l.length:=by omega
   subst P7;rw[Bv] at hu;have hsp:∀y∈(b.a.nd x).Az++BS.plain l,BS.HV y.A7:=by
    intro y hy;rcases Ax.1 hy with hy|hy
    .exact(ok.ok.RH x hx).qe y hy
    .obtain⟨z,_,rfl⟩:=Bj.1 hy;exact⟨Dq,Dq⟩
   obtain⟨h2,N,B,v,q⟩:=w.step (A':=b.a.Jv x ((b.a.nd x).Az++BS.plain l)) (R:=λh2=>BH cx 226 [Pt a 0,I x,u] h1 (I 0) h2) λn i ps d=>by obtain⟨h',IN,f1,f2,f3⟩:=aHc d hx hk hu (by rw[Aw,BS.plain,Ak];omega) hsp;exact⟨h',n,i,IN,f1,f2,f3⟩
   have e:b.Hy l x={b with a:=b.a.Jv x ((b.a.nd x).Az++BS.plain l)}:=by unfold BS.Hy;rw[Ae hk]
   simp only[abS,Nat.reduceLeDiff,↓reduceIte,AP,hvl,(Ab:¬(l.length:Int)<(l.length:Int)),w.l0,B.Ad];exact⟨_,rfl,rfl,N,by rw[e];exact v,q⟩
 obtain⟨r,h',hr,rfl,G',w',x'⟩:=Ji.ret;exact⟨h',G',hr,w',x'⟩
def aL5(w:RX h bi a o c t G b)(rm:B6 b m):
  ∃h' o',BH cx 92 [Pt bi 0] h (.tuple []) h'/\RX h' bi a o' c t G b.JQ/\DA h (Bt bi G) h' (Bt bi G):=by
 have ho:=rm.AY;have hnm:∀i∈b.AY,i.name.length<9223372036854775807:=λi hi=>by have:=rm.YS i hi;omega
 have em:AE (.Dh 1) [S [112]]=some (.sl 1 ([wP].map BZ)):=DF (ws:=[wP]) rfl AX;have ld:Bd h none (Pt bi 2)=some o:=w.ld 2;have e:=aKp (h:=h) w.o Ab hnm 3 (C0 (ws:=[wP])) AX;by_cases hs:J7 (By [wP]) (JN 3) b.AY.reverse=true;rotate_left
 .have Vw:J7 (By [wP]) (JN 3) b.AY.reverse=false:=by simpa using hs
  rw[Vw] at e;refine⟨h,o,?_,by unfold BS.JQ;rw[Ac hs];exact w,.refl⟩;rw[Af,sx];simp only[BC,ld,em,e.Ad]
 .rw[hs] at e;obtain⟨d,g,r2,OU⟩:=f165 (h:=h) w.o Ab hnm wP false;have w1:=w.IA (u:=g);have f:=w1.I8 OU;have HR:EN wP false=Es wP:=by funext a;rfl
  have l1:(DO (EN wP false) CX b.AY).length<=b.AY.length:=Qk;have Ĥ:Bd (put (h++g) bi 2 d) none (Pt bi 2)=some d:=f.ld 2;obtain⟨p,t2,q,Jr⟩:=f85 (h:=put (h++g) bi 2 d) OU Ab (C0 (ws:=[wP])) AX;have j:=f.IA (u:=t2);rw[<-Ol] at Jr;have n:=j.I8 Jr;refine⟨_,p,?_,by unfold BS.JQ;rw[Ae hs,<-HR];exact n,((w.C7.trans Bp).trans f.C7).trans Bp⟩;rw[Af,sx];simp only[BC,ld,em,e.Ad,r2.Ad,w1.st (k:=2) (v0:=o) rfl (AU.cells OU),Ĥ,q.Ad,j.st (k:=2) (v0:=d) rfl (AU.cells Jr)]
variable{nm:Ao}{av:Aa}{l:List A3}{r:List Aa}
def aL6(w:RX h bi a o c t G b)(ok:BA b)(rm:B6 b (m+4))(hnm:Nm b.a)(hr:NO nm av r)(hv:Br l av)(hl:DU l)(hn:nm.length<=1000)(st:Int):
  ∃h' o' G',BH cx 91 [Pt bi 0,.agg r,I st] h (.tuple []) h'/\RX h' bi a o' c t G' (b.Qm nm l st)/\DA h (Bt bi G) h' (Bt bi G'):=by
 obtain⟨h1,e,f,s,w1,i⟩:=vp w ok rm hnm hr hv hl hn;obtain⟨E,D,C,B,A,z,y,u,U7,Xk,rfl⟩:=hr;have d:RX (put h1 bi 18 (I st)) bi a e c t f {b.EG nm l 1 with sw:=st}:=w1.put rfl rfl w1.o w1.t;have g:RX (put (put h1 bi 18 (I st)) bi 5 (I (b.EG nm l 1).mode)) bi a e c t f {{b.EG nm l 1 with sw:=st} with SB:=(b.EG nm l 1).mode}:=d.put rfl rfl d.o d.t;have j:=g.nW 8;refine⟨_,e,f,?_,j,((i.trans Bp).trans Bp).trans Bp⟩;have q:=w1.st (k:=18) (v:= I st) (v0:= I (b.EG nm l 1).sw) rfl rfl;have p:=d.st (k:=5) (v:= I (b.EG nm l 1).mode) (v0:= I (b.EG nm l 1).SB) rfl rfl;have n:=g.st (k:=4) (v:=I 8) (v0:= I (b.EG nm l 1).mode) rfl rfl;have l4:Bd (put h1 bi 18 (I st)) none (Pt bi 4)=some (I (b.EG nm l 1).mode):=d.l4;rw[Af,aB2];simp only[BC,s.Ad,q,l4,p,n]
def aL7(w:RX h bi a o c t G b)(rm:B6 b m):∃h' o',BH cx 101 [Pt bi 0] h (.agg b.sC.row) h'/\RX h' bi a o' c t G b.Ru/\DA h (Bt bi G) h' (Bt bi G):=by
 have ho:=rm.AY;have ld:Bd h none (Pt bi 2)=some o:=w.ld 2;have lo:=AU.CL w.o;unfold BS.Ru BS.sC;by_cases h2:b.AY.length<2;.refine⟨h,o,?_,by rw[Ae h2];exact w,.refl⟩;rw[Ae h2,Af,wW];simp only[abS,↓reduceIte,AP,ld,lo,(Ab:(b.AY.length:Int)<2)];rfl
 .obtain⟨u,e,f,hu⟩:=aFy (h:=h) w.o Ab;have hc:KM b.AY ((b.AY.length:Int)-1)=b.AY.take (b.AY.length-1):=by unfold KM;congr 1;omega
  rw[hc] at hu;have w1:=w.IA (u:=e);have d:=w1.I8 hu;refine⟨_,u,?_,by rw[Ac h2];exact d,w.C7.trans Bp⟩;rw[Ac h2,Af,wW];simp only[abS,↓reduceIte,AP,Fa,ld,lo,(Ab:¬(b.AY.length:Int)<2),(vj w rm).Ad,f.Ad,w1.st (k:=2) (v0:=o) rfl (AU.cells hu)]
def aHi(w:RX h bi a o c t G b)(rm:B6 b m)(nm:Ao):
  ∃h' o',BH cx 94 [Pt bi 0,.str nm] h (.tuple []) h'/\RX h' bi a o' c t G (b.Dl nm)/\DA h (Bt bi G) h' (Bt bi G):=by
 have ho:=rm.AY;have hnm:∀i∈b.AY,i.name.length<9223372036854775807:=λi hi=>by have:=rm.YS i hi;omega
 have ld:Bd h none (Pt bi 2)=some o:=w.ld 2;have lo:=AU.CL w.o;have Ji:Ev cx 94 [Pt bi 0,.str nm] h λr h'=>r= .tuple []/\∃o',RX h' bi a o' c t G (b.Dl nm)/\DA h (Bt bi G) h' (Bt bi G):=by
  unfold Ev;rw[aB4];simp only[BC,ld,lo,C3 (Ab: -9223372036854775808<=(b.AY.length:Int)-1) (Ab:(b.AY.length:Int)-1<9223372036854775808)];refine Bf (λn:Nat=>[I ((n:Int)-1)]) (λn h1=>n<=b.AY.length/\(b.AY.reverse.find? λi=>By [nm] i||GS i)=((b.AY.take n).reverse.find? λi=>By [nm] i||GS i)/\h1=h) (λn=>n) b.AY.length rfl ⟨Ag _,by rw[Bv],rfl⟩ ?_;rintro n h1 ⟨hn,ha,rfl⟩;cases n with
  |zero=>
   have e:b.Dl nm=b:=by unfold BS.Dl;rw[ha];rfl
   simp only[abS,↓reduceIte,(Ab:¬(0:Int)<=((0:Nat):Int)-1)];exact⟨_,rfl,rfl,o,by rw[e];exact w,.refl⟩
  |succ n=>
   have hlt:n<b.AY.length:=Ab;have i1:((n+1:Nat):Int)-1=(n:Int):=Ab;have s:=AU.BJ (k:= .i64) w.o hlt;have UZ:=hnm _ (AL hlt);have em:AE (.Dh 1) [.str nm]=some (.sl 1 ([nm].map BZ)):=DF (ws:=[nm]) rfl AH;rw[SP hlt,GG] at ha;generalize hi:b.AY[n]=i at*;have r2:BH cx 218 [.agg i.row,.sl 1 ([nm].map BZ)] h1 (.bool (By [nm] i)) h1:=f167 i (C0 (ws:=[nm])) AH;have sub:=C3 (Ab: -9223372036854775808<=(n:Int)-1) (Ab:(n:Int)-1<9223372036854775808);cases h2:By [nm] i with
   |true=>
    rw[h2] at r2 ha;obtain⟨f,q,g,OU⟩:=f165 (h:=h1) w.o Ab hnm nm false;have w1:=w.IA (u:=q);have p:=w1.I8 OU;have HR:EN nm false=Es nm:=by funext a;rfl
    have l1:(DO (EN nm false) CX b.AY).length<=b.AY.length:=Qk;have Ĥ:Bd (put (h1++q) bi 2 f) none (Pt bi 2)=some f:=p.ld 2;obtain⟨z,t2,A,Jr⟩:=aFz (h:=put (h1++q) bi 2 f) OU Ab i.node;have v:=p.IA (u:=t2);have y:=v.I8 Jr;have e:b.Dl nm={b with AY:=GU i.node (DO (Es nm) CX b.AY)}:=by unfold BS.Dl;rw[ha];simp only[h2,Jn,BL]
    simp only[abS,Nat.reduceLeDiff,↓reduceIte,Fa,i1,(Ab:(0:Int)<=(n:Int)),ld,s,em,r2.Ad,g.Ad,w1.st (k:=2) (v0:=o) rfl (AU.cells OU),Ĥ,A.Ad,v.st (k:=2) (v0:=f) rfl (AU.cells Jr)];exact⟨_,rfl,rfl,z,by rw[e,<-HR];exact y,((w.C7.trans Bp).trans p.C7).trans Bp⟩
   |false=>
    rw[h2] at r2 ha;have g:∀{Q:Hb} {h:Ah} {kk:Aa->IT},W cx (.BV 220 [I i.A7,.str i.name] kk) Q h↔W cx (kk (.bool (Er i.A7 i.name))) Q h:=(f169 i.A7 i.name UZ).BV rfl rfl;cases j:GS i with
    |true=>
     have d:Er i.A7 i.name=true:=j;rw[j] at ha;have e:b.Dl nm=b:=by unfold BS.Dl;rw[ha];simp[h2]
     simp only[abS,Nat.reduceLeDiff,↓reduceIte,Fa,i1,(Ab:(0:Int)<=(n:Int)),ld,s,em,r2.Ad,g,d];exact⟨_,rfl,rfl,o,by rw[e];exact w,.refl⟩
    |false=>have d:Er i.A7 i.name=false:=j;rw[j] at ha;simp only[abS,Nat.reduceLeDiff,↓reduceIte,Fa,i1,(Ab:(0:Int)<=(n:Int)),ld,s,em,r2.Ad,g,d,sub];exact AK.next n rfl ⟨Ab,ha,rfl⟩ Ab
 obtain⟨r,h',hr,rfl,o',w',x'⟩:=Ji.ret;exact⟨h',o',hr,w',x'⟩
variable{nm:Ao}{av:Aa}{l:List A3}{r:List Aa}
def aL8(w:RX h bi a o c t G b)(hc:B4 b.A8 c)(ok:Eu b)(rm:B6 b (m+5))(hnm:Nm b.a)(hr:NO nm av r)(hv:Br l av)(hl:DU l)(hn:nm.length<=1000):
  ∃h' o' c' G',BH cx 88 [Pt bi 0,.agg r] h (I (b.a.len+1)) h'/\RX h' bi a o' c' t G' (b.Kk nm l)/\B4 (b.Kk nm l).A8 c'/\DA h (Bt bi G) h' (Bt bi G'):=by
 obtain⟨h1,j,n,i,w1,g⟩:=vp (m:=m+1) w ok (rm.le Ab) hnm hr hv hl hn;obtain⟨fs,d,hf⟩:=hc;have ha:=rm.A8;have Ho:fs.length=b.A8.length:=by rw[<-d,Ak]
 obtain⟨u,p,Qy,r2,hu⟩:=aKN (h:=h1) (l:=fs) hf Ab (zT d λx hx=>((rm.DD x hx).2).1) (e:=⟨⟨b.a.len+1,nm,l⟩,av,hv⟩) (by unfold Zk;have:=hl.1;simp only;omega);refine⟨_,j,u,n,?_,w1.Lr (u:=u),?_,g.trans Bp⟩;.obtain⟨C,B,A,z,y,v,s,q,U7,Xk,rfl⟩:=hr;have f:BH cx 137 [c,.agg [I (b.a.len+1),.str nm,av]] h1 u h1:=r2;have WH:av.cells=[av]:=AU.cells hv;rw[Af,aB1];simp only[abS,Nat.reduceLeDiff,↓reduceIte,AP,i.Ad,w1.l3,WH,f.Ad,w1.st (k:=3) (v0:=c) rfl (AU.cells hu)]
 .refine⟨_,?_,hu⟩;rw[nT Qy,d];unfold BS.Kk;simp only;rw[Fh]
end
def jT{n:Nat}(d:Nat)(hd:0<d)(h:n<2147483648)(e:AE (.int .quo) [I (n:Int),I (d:Int)]=some (I (IntKind.i64.wrap ((n:Int).tdiv (d:Int))))):AE (.int .quo) [I (n:Int),I (d:Int)]=some (I ((n/d:Nat):Int)):=by
 have h2:(n:Int).tdiv (d:Int)=((n/d:Nat):Int):=by rw[Int.tdiv_eq_ediv_of_nonneg Ab];rfl
 have a:n/d<=n:=Nat.div_le_self n d;rw[e,h2];generalize n/d=k at*;rw[wrap_i64 Ab Ab]
def ĥ{n:Nat}(d:Nat)(hd:0<d)(h:n<2147483648)(e:AE (.int .rem) [I (n:Int),I (d:Int)]=some (I ((n:Int).tmod (d:Int)))):AE (.int .rem) [I (n:Int),I (d:Int)]=some (I ((n%d:Nat):Int)):=by
 have h2:(n:Int).tmod (d:Int)=((n%d:Nat):Int):=by rw[Int.tmod_eq_emod_of_nonneg Ab];rfl
 have a:n%d<=n:=Nat.mod_le n d;rw[e,h2]
def YC{n:Nat}(h:n<2147483648):AE (.int .quo) [I (n:Int),I 64]=some (I ((n/64:Nat):Int)):=jT 64 AX h rfl
def YD{n:Nat}(h:n<2147483648):AE (.int .quo) [I (n:Int),I 4096]=some (I ((n/4096:Nat):Int)):=jT 4096 AX h rfl
def jU{n:Nat}(h:n<2147483648):AE (.int .quo) [I (n:Int),I 262144]=some (I ((n/262144:Nat):Int)):=jT 262144 AX h rfl
def NR{n:Nat}(h:n<2147483648):AE (.int .rem) [I (n:Int),I 64]=some (I ((n%64:Nat):Int)):=ĥ 64 AX h rfl
def S0{n:Nat}(c:Nat)(h:c+n<2147483648):AE (.int .add) [I (c:Int),I (n:Int)]=some (I ((c+n:Nat):Int)):=by rw[Oj Ab Ab];congr 2
def L7{n:Nat}(h:n<64):AE (.int .add) [I 128,I (n:Int)]=some (I ((128+n:Nat):Int)):=S0 128 Ab
def iu{n:Nat}(h:n<64):AE (.int .add) [I 192,I (n:Int)]=some (I ((192+n:Nat):Int)):=S0 192 Ab
def iv{n:Nat}(h:n<64):AE (.int .add) [I 224,I (n:Int)]=some (I ((224+n:Nat):Int)):=S0 224 Ab
def iw{n:Nat}(h:n<64):AE (.int .add) [I 240,I (n:Int)]=some (I ((240+n:Nat):Int)):=S0 240 Ab
def Q1{n:Nat}(h:n<256):AE (.conv .u8) [I (n:Int)]=some (.int .u8 (n:Int)):=by rw[TP];congr 3;omega
def PV(r:Int):Prop:=(0<=r/\r<=55295)\/(57344<=r/\r<=1114111)
instance(r:Int):Decidable (PV r):=by unfold PV;infer_instance
def aHj(r:Int):Jj cx 210 [.int .i32 r] (.bool (decide (PV r))):=by rw[Lk,Ç];by_cases h1:0<=r<;>by_cases h2:r<=55295<;>by_cases b:57344<=r<;>by_cases a:r<=1114111<;>simp[h1,h2,b,a,PV]
def aHk(r:Int)(hr:PV r)(h:Ah):BH cx 211 [.int .i32 r] h (.sl 1 (Cd (HK r))) h:=by
 have one:∀{a:Nat} (h1:a<256),AE (.Dh 1) [.int .u8 (a:Int)]=some (.sl 1 (Cd [UInt8.ofNat a])):=by intro a h1;simp only[Cd,Bk,CW,aR h1];rfl
 have YX:∀{a b:Nat} (h1:a<256) (h2:b<256),AE (.Dh 1) [.int .u8 (a:Int),.int .u8 (b:Int)]=some (.sl 1 (Cd [UInt8.ofNat a,UInt8.ofNat b])):=by intro a b h1 h2;simp only[Cd,Bk,CW,aR h1,aR h2];rfl
 have T8:∀{a b c:Nat} (h1:a<256) (h2:b<256) (d:c<256),AE (.Dh 1) [.int .u8 (a:Int),.int .u8 (b:Int),.int .u8 (c:Int)]=some (.sl 1 (Cd [UInt8.ofNat a,UInt8.ofNat b,UInt8.ofNat c])):=by intro a b c h1 h2 d;simp only[Cd,Bk,CW,aR h1,aR h2,aR d];rfl
 have four:∀{a b c f:Nat} (h1:a<256) (h2:b<256) (d:c<256) (g:f<256),AE (.Dh 1) [.int .u8 (a:Int),.int .u8 (b:Int),.int .u8 (c:Int),.int .u8 (f:Int)]=some (.sl 1 (Cd [UInt8.ofNat a,UInt8.ofNat b,UInt8.ofNat c,UInt8.ofNat f])):=by intro a b c f h1 h2 d g;simp only[Cd,Bk,CW,aR h1,aR h2,aR d,aR g];rfl
 have FX:=hr;unfold PV at hr;obtain⟨n,rfl⟩:=IM (Ab:0<=r);have hn:n<=1114111:=Ab;have cv:AE (.conv .i64) [.int .i32 (n:Int)]=some (I (n:Int)):=by rw[Qf,wrap_i64 Ab Ab]
 rw[Af,È];by_cases k:n<128
 .have e:HK (n:Int)=[UInt8.ofNat n]:=by unfold HK;rw[Ae Ab];rfl
  rw[e];simp only[abS,cv,(Ab:(n:Int)<128),Q1 (Ab:n<256),one (Ab:n<256)]
 by_cases j:n<2048
 .have e:HK (n:Int)=[UInt8.ofNat (192+n/64),UInt8.ofNat (128+n%64)]:=by unfold HK;rw[Ac Ab,Ae Ab];rfl
  rw[e];simp only[abS,cv,(Ab:¬(n:Int)<128),(Ab:(n:Int)<2048),YC (Ab:n<2147483648),iu (Ab:n/64<64),Q1 (Ab:192+n/64<256),NR (Ab:n<2147483648),L7 (Ab:n%64<64),Q1 (Ab:128+n%64<256),YX (Ab:192+n/64<256) (Ab:128+n%64<256)]
 by_cases i:n<65536
 .have e:HK (n:Int)=[UInt8.ofNat (224+n/4096),UInt8.ofNat (128+n/64%64),UInt8.ofNat (128+n%64)]:=by unfold HK;rw[Ac Ab,Ac Ab,Ae Ab];rfl
  rw[e];simp only[abS,cv,(Ab:¬(n:Int)<128),(Ab:¬(n:Int)<2048),(Ab:(n:Int)<65536),YD (Ab:n<2147483648),iv (Ab:n/4096<64),Q1 (Ab:224+n/4096<256),YC (Ab:n<2147483648),NR (Ab:n/64<2147483648),L7 (Ab:n/64%64<64),Q1 (Ab:128+n/64%64<256),NR (Ab:n<2147483648),L7 (Ab:n%64<64),Q1 (Ab:128+n%64<256),T8 (Ab:224+n/4096<256) (Ab:128+n/64%64<256) (Ab:128+n%64<256)]
 .have e:HK (n:Int)=[UInt8.ofNat (240+n/262144),UInt8.ofNat (128+n/4096%64),UInt8.ofNat (128+n/64%64),UInt8.ofNat (128+n%64)]:=by unfold HK;rw[Ac Ab,Ac Ab,Ac Ab,Ae Ab];rfl
  rw[e];simp only[abS,cv,(Ab:¬(n:Int)<128),(Ab:¬(n:Int)<2048),(Ab:¬(n:Int)<65536),jU (Ab:n<2147483648),iw (Ab:n/262144<64),Q1 (Ab:240+n/262144<256),YD (Ab:n<2147483648),NR (Ab:n/4096<2147483648),L7 (Ab:n/4096%64<64),Q1 (Ab:128+n/4096%64<256),YC (Ab:n<2147483648),NR (Ab:n/64<2147483648),L7 (Ab:n/64%64<64),Q1 (Ab:128+n/64%64<256),NR (Ab:n<2147483648),L7 (Ab:n%64<64),Q1 (Ab:128+n%64<256),four (Ab:240+n/262144<256) (Ab:128+n/4096%64<256) (Ab:128+n/64%64<256) (Ab:128+n%64<256)]
def iy(r:Int):HK (if PV r then r else 65533)=HK r:=by
 by_cases h:PV r;.rw[Ae h]
 .rw[Ac h];unfold PV at h;have:HK r=[239,191,189]:=by unfold HK;rw[Ac Ab,Ac Ab,Ac Ab,Ac Ab]
  have h2:HK 65533=[239,191,189]:=by unfold HK;rw[Ac Ab,Ac Ab,Ae Ab];decide+kernel
  rw[this,h2]
def vq(r:Int):PV (if PV r then r else 65533):=by
 by_cases h:PV r;.rw[Ae h];exact h
 .rw[Ac h];decide
section
variable{h h':Ah}{bi a:Nat}{o c t:Aa}{G G' F:Nat->Prop}{b:BS}{x:Int}{m:Nat}
variable{nm:Ao}{av:Aa}{l:List A3}{r:List Aa}{sp p:Int}
def RX.leaf{k d:Int}{s:Ao}(w:RX h bi a o c t G b)(ok:Eu b)(rm:B6 b (m+1))(hk:k=5\/k=6)(hd:b.a.has d/\(b.a.nd d).kind=1)(hs:s.length<=100000)(p bf:Int):
  ∃e h' G',BH cx 128 [Pt a 0,I d,.agg [I k,I 0,.slnil,I 0,I 0,S [],.slnil,.str s,S [],S [],ff,I 0,I 0]] h (.tuple [I (b.a.len+1),I 0]) e/\BH cx 166 [Pt bi 0,I p,I (b.a.len+1),I bf] e (.tuple []) h'/\RX h' bi a o c t G' {b with a:=(b.a.add {kind:=k,Cf:=d,data:=s}).Et (b.a.len+1) p bf}/\DA h (Bt bi G) h' (Bt bi G'):=by
 obtain⟨e,D,B,z,u⟩:=w.step (A':=b.a.add {kind:=k,Cf:=d,data:=s}) (R:=λh'=>BH cx 128 [Pt a 0,I d,.agg [I k,I 0,.slnil,I 0,I 0,S [],.slnil,.str s,S [],S [],ff,I 0,I 0]] h (.tuple [I (b.a.len+1),I 0]) h') (λn i ps v=>by obtain⟨h',n',C,IN,r,wp,j⟩:=aG7 v (show b.a.len<=1000000000 by have:=rm.n;unfold Ar.len;omega) hd.1 hd.2 k s;exact⟨h',n',C,IN,r,wp,j⟩)
 obtain⟨g,f⟩:=jK (m:=m) (k:=k) (s:=s) ok rm hk hd hs;obtain⟨h',G',A,y,q⟩:=ah z g.ba f p (b.a.len+1) bf;exact⟨e,h',G',B,A,y,u.trans q⟩
def aL9(w:RX h bi a o c t G b)(ok:Eu b)(rm:B6 b (m+5))(hnm:Nm b.a)(r:Int):
  ∃h' G',BH cx 89 [Pt bi 0,.int .i32 r] h (.tuple []) h'/\RX h' bi a o c t G' (b.sB r)/\DA h (Bt bi G) h' (Bt bi G'):=by
 have g:=aj w ok rm hnm 0;obtain⟨hp,N⟩:=XU ok (t:=0) (.inl rfl);unfold BS.sB;generalize(b.place 0).1=p at*;generalize(b.place 0).2=bf at*;have r2:=Mw w p;unfold BS.LG;by_cases hk:(b.a.nd p).kind=4\/(b.a.nd p).kind=2;rotate_left;.refine⟨h,G,?_,by rw[Ac hk];exact w,.refl⟩;have Z:¬(b.a.nd p).kind=4:=λe=>hk (.inl e);have k2:¬(b.a.nd p).kind=2:=λe=>hk (.inr e);rw[Af,dZ];simp only[abS,g.Ad,r2.Ad,BW,Z,k2,AZ]
 rw[Ae hk];obtain⟨i,hi,tL,U8,M⟩:=nV (l:=(b.a.nd p).A6) (bf:=bf) (λh=>by have:=N h;have h2:=(ok.ok.FL bf this.1 (by rw[this.2];have:=hp.1;omega)).2;rwa [this.2] at h2);rw[M];have P7:(b.a.nd p).A6.length<=1000000000:=rm.Vd.A6 ok.ok p;obtain⟨n,R,ps,d,eG⟩:=w.w;obtain⟨kv,y,zP⟩:=vh (x:=p) d P7;have hvl:=AU.CL zP;have q:=aHe (h:=h) zP P7 bf;have rd:=ag w p;rw[Ae hp] at rd;have z:∀{Q:Hb} {h:Ah} {kk:Aa->IT},W cx (.BV 210 [.int .i32 r] kk) Q h↔W cx (kk (.bool (decide (PV r)))) Q h:=(aHj r).BV rfl rfl;obtain⟨r',FX⟩:∃r',r'=if PV r then r else 65533:=⟨_,rfl⟩
 have Vw:=vq r;have vK:=iy r;rw[<-FX] at Vw vK;have rb:=aHk r' Vw h;rw[vK] at rb;have j8:=Yp r;generalize hs:HK r=s at*;have f3:Kw h (.sl 1 (Cd s))=some (h,.sl 1 (Cd s)):=rfl;have b3:AE .Wh [.sl 1 (Cd s)]=some (.str s):=by simp[AE,Wj,Rn]
 have jL:=ok.ok.Cf p hp;obtain⟨h4,S,T,J,H,P,O⟩:=w.leaf (m:=m) (k:=5) (s:=s) ok (rm.le Ab) (.inl rfl) jL Ab p bf;by_cases hz:i=0
 .subst hz;simp only[↓reduceIte];refine⟨S,T,?_,P,O⟩;rw[Af,dZ];rcases hk with hk|hk<;>by_cases QG:PV r<;>by_cases h0:bf=0
  all_goals first|rw[Ae QG] at FX|rw[Ac QG] at FX
  all_goals subst FX
  all_goals first
   |(rw[<-tL h0] at hvl;simp only[abS,Nat.reduceLeDiff,↓reduceIte,AP,g.Ad,r2.Ad,BW,hk,(AX:¬(2:Int)=4),AZ,z,AA QG,rb.Ad,f3,b3,w.l0,y.Ad,hvl,AW h0,(AX:¬(0:Int)<((0:Nat):Int)),rd.Ad,BK,J.Ad,H.Ad];done)
   |(rw[<-tL h0] at hvl;simp only[abS,Nat.reduceLeDiff,↓reduceIte,AP,g.Ad,r2.Ad,BW,hk,(AX:¬(2:Int)=4),AZ,z,Ay QG,rb.Ad,f3,b3,w.l0,y.Ad,hvl,AW h0,(AX:¬(0:Int)<((0:Nat):Int)),rd.Ad,BK,J.Ad,H.Ad];done)
   |(rw[U8 h0] at q;simp only[abS,Nat.reduceLeDiff,↓reduceIte,AP,g.Ad,r2.Ad,BW,hk,(AX:¬(2:Int)=4),AZ,z,AA QG,rb.Ad,f3,b3,w.l0,y.Ad,hvl,h0,q.Ad,(AX:¬(0:Int)<((0:Nat):Int)),rd.Ad,BK,J.Ad,H.Ad];done)
   |(rw[U8 h0] at q;simp only[abS,Nat.reduceLeDiff,↓reduceIte,AP,g.Ad,r2.Ad,BW,hk,(AX:¬(2:Int)=4),AZ,z,Ay QG,rb.Ad,f3,b3,w.l0,y.Ad,hvl,h0,q.Ad,(AX:¬(0:Int)<((0:Nat):Int)),rd.Ad,BK,J.Ad,H.Ad];done)
 .obtain⟨j,rfl⟩:∃j,i=j+1:=⟨i-1,Ab⟩;have hj:j<(b.a.nd p).A6.length:=Ab;rw[Ac hz,E9,Ai hj];simp only
  have ht:=ok.ok.MK p hp _ (AL hj);have C:=AU.BJ (k:= .i64) zP hj;rw[Cn] at C;have D:AE (.int .sub) [I ((j+1:Nat):Int),I 1]=some (I (j:Int)):=by have:=Ie (n:=j+1) Ab Ab;simpa using this
  have f:(0:Int)<((j+1:Nat):Int):=Ab;generalize hte:(b.a.nd p).A6[j]=B at*;have E:=Mw w B;by_cases A:(b.a.nd B).kind=5
  .rw[Ae A];have o9:=rm.data B;obtain⟨h8,K,Y,V,_⟩:=d.wr ht.1 (k:=7) AX (v:= .str ((b.a.nd B).data++s)) rfl (p:=⟨{b.a.nd B with data:=(b.a.nd B).data++s},(pR ps B).kv,(pR ps B).av,d.MK ht.1,d.jq ht.1⟩) (by simp only[RN.row];rw[(d.pn ht.1).2];rfl);obtain⟨X,U⟩:=w.zR (G':=I9 a n R) ⟨n,R,_,Y,rfl⟩ (by rw[eG];exact V);refine⟨h8,_,?_,X,U⟩;have L:=jJ (s:=(b.a.nd B).data) (u:=s) Ab;rw[Af,dZ];rcases hk with hk|hk<;>by_cases QG:PV r<;>by_cases h0:bf=0
   all_goals first|rw[Ae QG] at FX|rw[Ac QG] at FX
   all_goals subst FX
   all_goals first
    |(rw[<-tL h0] at hvl;simp only[abS,Nat.reduceLeDiff,↓reduceIte,AP,g.Ad,r2.Ad,BW,hk,(AX:¬(2:Int)=4),AZ,z,AA QG,rb.Ad,f3,b3,w.l0,y.Ad,hvl,AW h0,f,D,C,E.Ad,AW A,d.nodes,d.addr ht.1,d.f7 ht.1,L,K];done)
    |(rw[<-tL h0] at hvl;simp only[abS,Nat.reduceLeDiff,↓reduceIte,AP,g.Ad,r2.Ad,BW,hk,(AX:¬(2:Int)=4),AZ,z,Ay QG,rb.Ad,f3,b3,w.l0,y.Ad,hvl,AW h0,f,D,C,E.Ad,AW A,d.nodes,d.addr ht.1,d.f7 ht.1,L,K];done)
    |(rw[U8 h0] at q;simp only[abS,Nat.reduceLeDiff,↓reduceIte,AP,g.Ad,r2.Ad,BW,hk,(AX:¬(2:Int)=4),AZ,z,AA QG,rb.Ad,f3,b3,w.l0,y.Ad,hvl,h0,q.Ad,f,D,C,E.Ad,AW A,d.nodes,d.addr ht.1,d.f7 ht.1,L,K];done)
    |(rw[U8 h0] at q;simp only[abS,Nat.reduceLeDiff,↓reduceIte,AP,g.Ad,r2.Ad,BW,hk,(AX:¬(2:Int)=4),AZ,z,Ay QG,rb.Ad,f3,b3,w.l0,y.Ad,hvl,h0,q.Ad,f,D,C,E.Ad,AW A,d.nodes,d.addr ht.1,d.f7 ht.1,L,K];done)
  .rw[Ac A];refine⟨S,T,?_,P,O⟩;rw[Af,dZ];rcases hk with hk|hk<;>by_cases QG:PV r<;>by_cases h0:bf=0
   all_goals first|rw[Ae QG] at FX|rw[Ac QG] at FX
   all_goals subst FX
   all_goals first
    |(rw[<-tL h0] at hvl;simp only[abS,Nat.reduceLeDiff,↓reduceIte,AP,g.Ad,r2.Ad,BW,hk,(AX:¬(2:Int)=4),AZ,z,AA QG,rb.Ad,f3,b3,w.l0,y.Ad,hvl,AW h0,f,D,C,E.Ad,A,rd.Ad,BK,J.Ad,H.Ad];done)
    |(rw[<-tL h0] at hvl;simp only[abS,Nat.reduceLeDiff,↓reduceIte,AP,g.Ad,r2.Ad,BW,hk,(AX:¬(2:Int)=4),AZ,z,Ay QG,rb.Ad,f3,b3,w.l0,y.Ad,hvl,AW h0,f,D,C,E.Ad,A,rd.Ad,BK,J.Ad,H.Ad];done)
    |(rw[U8 h0] at q;simp only[abS,Nat.reduceLeDiff,↓reduceIte,AP,g.Ad,r2.Ad,BW,hk,(AX:¬(2:Int)=4),AZ,z,AA QG,rb.Ad,f3,b3,w.l0,y.Ad,hvl,h0,q.Ad,f,D,C,E.Ad,A,rd.Ad,BK,J.Ad,H.Ad];done)
    |(rw[U8 h0] at q;simp only[abS,Nat.reduceLeDiff,↓reduceIte,AP,g.Ad,r2.Ad,BW,hk,(AX:¬(2:Int)=4),AZ,z,Ay QG,rb.Ad,f3,b3,w.l0,y.Ad,hvl,h0,q.Ad,f,D,C,E.Ad,A,rd.Ad,BK,J.Ad,H.Ad];done)
def RX.Mt{s:Ao}{p bf x:Int}(hstart:(¬x=0/\p=x/\bf=0)\/(x=0/\BH cx 208 [Pt bi 0,I 0] h (.tuple [I p,I bf]) h))(w:RX h bi a o c t G b)(ok:Eu b)(rm:B6 b (m+1))(hs:s.length<=100000):
  ∃h' G',BH cx 90 [Pt bi 0,.str s,I x] h (.tuple []) h'/\RX h' bi a o c t G' {b with a:=BS.E0 b.a s p bf}/\DA h (Bt bi G) h' (Bt bi G'):=by
 have r2:=Mw w p;unfold BS.E0;by_cases hk:Ll (b.a.nd p).kind
 .rw[Ae hk];have hp:b.a.has p:=by
   by_cases hp:b.a.has p;.exact hp
   .rw[HE hp] at hk;unfold Ll at hk;simp at hk
  have jL:=ok.ok.Cf p hp;have rd:=ag w p;rw[Ae hp] at rd;obtain⟨y,u,v,f,e,q,n⟩:=w.leaf (m:=m) (k:=6) (s:=s) ok rm (.inr rfl) jL hs p bf;refine⟨u,v,?_,q,n⟩;rw[Af,su];rcases hstart with⟨hx,rfl,rfl⟩|⟨hx,d⟩
  .rcases hk with hk|hk|hk<;>simp only[abS,Nat.reduceLeDiff,↓reduceIte,AP,AZ,r2.Ad,BW,hk,(AX:¬(2:Int)=1),(AX:¬(4:Int)=1),(AX:¬(4:Int)=2),w.l0,rd.Ad,BK,f.Ad,e.Ad,hx]
  .rcases hk with hk|hk|hk<;>simp only[abS,Nat.reduceLeDiff,↓reduceIte,AP,AZ,r2.Ad,BW,hk,(AX:¬(2:Int)=1),(AX:¬(4:Int)=1),(AX:¬(4:Int)=2),w.l0,rd.Ad,BK,f.Ad,e.Ad,AW hx,d.Ad]
 .rw[Ac hk];refine⟨h,G,?_,w,.refl⟩;unfold Ll at hk;have j:¬(b.a.nd p).kind=1:=Ab;have i:¬(b.a.nd p).kind=2:=Ab;have g:¬(b.a.nd p).kind=4:=Ab;rw[Af,su];rcases hstart with⟨hx,rfl,rfl⟩|⟨hx,d⟩
  .simp only[abS,Nat.reduceLeDiff,↓reduceIte,AP,AZ,r2.Ad,BW,j,i,g,hx]
  .simp only[abS,Nat.reduceLeDiff,↓reduceIte,AP,AZ,r2.Ad,BW,j,i,g,AW hx,d.Ad]
def aHl(w:RX h bi a o c t G b)(ok:Eu b)(rm:B6 b (m+1))(hnm:Nm b.a)(s:Ao)(hs:s.length<=100000)(x:Int):
  ∃h' G',BH cx 90 [Pt bi 0,.str s,I x] h (.tuple []) h'/\RX h' bi a o c t G' (b.FZ s x)/\DA h (Bt bi G) h' (Bt bi G'):=by
 unfold BS.FZ;by_cases h0:x=0;.rw[Ae h0];exact RX.Mt (p:=(b.place 0).1) (bf:=(b.place 0).2) (.inr ⟨h0,aj w ok rm hnm 0⟩) w ok rm hs
 .rw[Ac h0];exact RX.Mt (p:=x) (bf:=0) (.inl ⟨h0,rfl,rfl⟩) w ok rm hs
end
def oN(n:Int)(l:List Cs):List Cs:=if 0<=Ff n l then Be l (Ff n l).toNat else l
def oO{U:Type}{l:List U}{k:Nat}{x:U}(hk:k<l.length):(Be l k).take k++x::(Be l k).drop k=l.set k x:=by
 have h1:(l.take k).length=k:=by rw[As];omega
 unfold Be;rw[HO h1,JA h1,BY,Ae hk]
def UH{p n:Nat}(h:p<=n):CH (p:Int) n=p:=by unfold CH;omega
section
variable{h h':Ah}{bi a:Nat}{o c t:Aa}{G G' F:Nat->Prop}{b:BS}{x:Int}{m:Nat}
variable{nm:Ao}{av:Aa}{l:List A3}{r:List Aa}{sp p:Int}
def B4.ix{d:List Cs}{n:Nat}(hc:B4 d c)(hb:d.length<=900000000)(x:Int)(h:Ah):BH cx 222 [c,I x] h (I (Ff x d)) h:=by obtain⟨fs,Hj,hv⟩:=hc;have:=aKE (h:=h) hv (by rw[<-Hj,Ak] at hb;omega) x;rwa [Yn,Hj] at this
def B4.wo{d:List Cs}(hc:B4 d c)(hb:d.length<=900000000){k:Nat}(hk:k<d.length)(h:Ah):∃u,BH cx 283 [c,I (k:Int)] h u h/\B4 (Be d k) u/\u.cells=[u]:=by
 obtain⟨fs,Hj,hv⟩:=hc;have hl:d.length=fs.length:=by rw[<-Hj,Ak]
 obtain⟨u,r,hu⟩:=aFG (h:=h) hv Ab (k:=k) Ab;exact⟨u,r,⟨Be fs k,by unfold Be;rw[BF,Fs,JG,Hj],hu⟩,AU.cells hu⟩
def B4.wi{d:List Cs}(hc:B4 d c)(hb:d.length<=900000000){e:Cs}{v:Aa}(hv:Br e.Az v)(he:e.Az.length<=1000000000)(i:Int)(h:Ah):∃u,BH cx 100 [c,.agg [I e.node,.str e.name,v],I i] h u h/\B4 (d.take (CH i d.length)++e::d.drop (CH i d.length)) u/\u.cells=[u]:=by
 obtain⟨fs,Hj,WN⟩:=hc;have hl:d.length=fs.length:=by rw[<-Hj,Ak]
 obtain⟨u,f,Qy,r,hu⟩:=f82 (h:=h) WN Ab (e:=⟨e,v,hv⟩) he i;refine⟨u,r,⟨_,?_,hu⟩,AU.cells hu⟩;rw[BF,Bk,Fs,JG,Hj,Qy,hl]
def vr(w:RX h bi a o c t G b)(hc:B4 b.A8 c)(hb:b.A8.length<=900000000)(x:Int):
  ∃h' c',BH cx 354 [Pt bi 0,I x] h (.tuple []) h'/\RX h' bi a o c' t G {b with A8:=oN x b.A8}/\B4 (oN x b.A8) c'/\DA h (Bt bi G) h' (Bt bi G):=by
 have d:=hc.ix (n:=0) hb x h;unfold oN;by_cases h0:0<=Ff x b.A8;.obtain⟨q,hq,e,_⟩:=HA h0;obtain⟨u,r2,hu,f⟩:=hc.wo hb hq h;rw[Ae h0];rw[e] at d⊢;rw[AV];refine⟨_,u,?_,w.Lr,hu,Bp⟩;rw[Af,yV];simp only[abS,w.l3,d.Ad,(Ab:(0:Int)<=(q:Int)),r2.Ad,w.st (k:=3) (v0:=c) rfl f]
 .rw[Ac h0];refine⟨h,c,?_,w,hc,.refl⟩;rw[Af,yV];simp only[abS,w.l3,d.Ad,h0]
structure iz(h:Ah)(bi a:Nat)(t:Aa)(G0:Nat->Prop)(fe blk anc:Int)(k N m:Nat)(s0:BS×Int×Nat)(n:Nat)(h1:Ah)(o c:Aa)(G:Nat->Prop)(s:BS×Int×Nat):Prop where
 le:n<=N
 w:RX h1 bi a o c t G s.1
 hc:B4 s.1.A8 c
 ok:Eu s.1
 rm:B6 s.1 (m+4*n)
 nm:Nm s.1.a
 last:s.1.a.has s.2.1
 x:DA h (Bt bi G0) h1 (Bt bi G)
 ų:s.2.2<=1000000000
 len:k+n+1<=s.1.AY.length
 eq:BS.Ky blk anc (k+1+N) k N s0=BS.Ky blk anc (k+1+N) k n s
 VC:0<=Ff fe s.1.A8
 AY:s.1.AY.take (k+n+1)=s0.1.AY.take (k+n+1)
 feh:s.1.a.has fe
def iz.step{h1 h2:Ah}{D E B z:Aa}{C A:Nat->Prop}{fe blk anc:Int}{k N n:Nat}{s0 s s':BS×Int×Nat}(i:iz h bi a t G fe blk anc k N m s0 (n+1) h1 D E C s)(e:s'=BS.Fo blk anc (k+1+N) (k+(n+1)) s.1 s.2.1 s.2.2)
  (w:RX h2 bi a B z t A s'.1) (hc:B4 s'.1.A8 z) (x:DA h1 (Bt bi C) h2 (Bt bi A)) (mk:s'.2.2<=1000000000) (VC:0<=Ff fe s'.1.A8):
  iz h bi a t G fe blk anc k N m s0 n h2 B z A s':=by
 obtain⟨g,last',q⟩:=XY (blk:=blk) (anc:=anc) (far:=k+1+N) (i:=k+(n+1)) (m:=s.2.2) i.ok i.last;have hl:=i.len;obtain⟨f,v⟩:=aX (blk:=blk) (anc:=anc) (far:=k+1+N) (i:=k+(n+1)) (l:=s.2.1) (mk:=s.2.2) (b:=s.1) Ab;have d:=Oz (blk:=blk) (anc:=anc) (far:=k+1+N) (i:=k+(n+1)) (l:=s.2.1) (mk:=s.2.2) (m:=m+4*n) (i.rm.le Ab);have j:=Nm.Fo (blk:=blk) (anc:=anc) (far:=k+1+N) (i:=k+(n+1)) (l:=s.2.1) (mk:=s.2.2) i.nm i.rm;have y:BS.Ky blk anc (k+1+N) k (n+1) s=BS.Ky blk anc (k+1+N) k n (BS.Fo blk anc (k+1+N) (k+(n+1)) s.1 s.2.1 s.2.2):=rfl;have u:=i.eq.trans y;have NY:=i.AY;rw[<-e] at g last' q f v d j u;refine⟨by have:=i.le;omega,w,hc,g,d,j,last',i.x.trans x,mk,Ab,u,VC,?_,q.has _ i.feh⟩;have:=Cb (λl=>l.take (k+(n+1))) NY;simp only[FA] at this;rw[(Ab:k+n+1=k+(n+1)),f];rwa [Cp Ab] at this
def aHm{anc fe:Int}{k N f:Nat}(w:RX h bi a o c t G b)(hc:B4 b.A8 c)(ok:Eu b)(rm:B6 b (m+4*N))(hnm:Nm b.a)(hN:k+1+N<b.AY.length)(hf:f<=1000000000){d:Item}(gd:b.AY[k+1+N]=d)(P7:AR (Bw fe) b.AY=(k:Int))(VC:0<=Ff fe b.A8)(feh:b.a.has fe):
  ∃h' o' c' G' s',BH cx 356 [Pt bi 0,I (f:Int),I (k:Int),I ((k+1+N:Nat):Int),I anc] h (.tuple [I s'.2.1,I (s'.2.2:Int)]) h'/\s'=BS.Ky d.node anc (k+1+N) k N (b,d.node,f)/\iz h bi a t G fe d.node anc k N m (b,d.node,f) 0 h' o' c' G' s':=by
 have ho:=rm.AY;have kD:AM=140737488355328:=rfl;have ud:b.a.has d.node:=(ok.op d (by rw[<-gd];exact AL _)).1;have Ji:Ev cx 356 [Pt bi 0,I (f:Int),I (k:Int),I ((k+1+N:Nat):Int),I anc] h λr h'=>∃o' c' G' s',r= .tuple [I s'.2.1,I (s'.2.2:Int)]/\s'=BS.Ky d.node anc (k+1+N) k N (b,d.node,f)/\iz h bi a t G fe d.node anc k N m (b,d.node,f) 0 h' o' c' G' s':=by
  unfold Ev;have ld:Bd h none (Pt bi 2)=some o:=w.ld 2;have e0:=AU.BJ (k:= .i64) w.o hN;rw[gd,Item.row] at e0;have i1:=C3 (a:=((k+1+N:Nat):Int)) (b:=1) Ab Ab;rw[(Ab:((k+1+N:Nat):Int)-1=((k+N:Nat):Int))] at i1;rw[ñ];simp only[BC,ld,e0,i1];refine Bf (λz:Nat×Int×Nat=>[I z.2.1,I (z.2.2:Int),I ((k+z.1:Nat):Int)]) (λz h1=>∃o c G1 b1,iz h bi a t G fe d.node anc k N m (b,d.node,f) z.1 h1 o c G1 (b1,z.2)) (λz=>z.1) (N,d.node,f) rfl ⟨o,c,G,b,⟨Ag _,w,hc,ok,rm,hnm,ud,.refl,hf,Dq,rfl,VC,rfl,feh⟩⟩ ?_;rintro⟨n,last,mk⟩ h1 ⟨T,W,G1,b1,i⟩;simp only at i;cases n with
  |zero=>simp only[abS,↓reduceIte,(Ab:¬(k:Int)<(k:Int))];exact⟨_,rfl,T,W,G1,(b1,last,mk),rfl,i.eq.symm,i⟩
  |succ n=>
   have hnN:=i.le;have hlen:=i.len;simp only at hlen;have aY:k+(n+1)<b1.AY.length:=Ab;have hwo:=i.rm.AY;have hwa:=i.rm.A8;have htl:=i.rm.tm;simp only at hwo hwa;have j:RX h1 bi a T W t G1 b1:=i.w;have J:B4 b1.A8 W:=i.hc;have ŗ:mk<=1000000000:=i.ų;have jt:Bd h1 none (Pt bi 2)=some T:=j.ld 2;have U:=AU.BJ (k:= .i64) j.o aY;have Wg:b1.AY.getD (k+(n+1)) Item.zero=b1.AY[k+(n+1)]:=by rw[AJ,Ai aY];rfl
   have hxf:b1.AY[k+(n+1)].node≠fe:=by have h2:=Cb (λl=>l[k+(n+1)]?) i.AY;simp only[Ch] at h2;rw[Ae Ab,Ae Ab,Ai aY,Ai Ab] at h2;obtain⟨_,_,h3⟩:=II P7;have h4:=h3 (k+(n+1)) Ab Ab;rw[D2 h2];intro h5;unfold Bw at h4;rw[h5] at h4;simp at h4
   generalize hxe:b1.AY[k+(n+1)]=x at*;obtain⟨q,hq,gi,hq0,hq2,hq3⟩:=HA i.VC;simp only at hq gi;have r2:=J.ix (n:=0) Ab x.node h1;have jr:(k:Int)<((k+(n+1):Nat):Int):=Ab;have dec:AE (.int .sub) [I ((k+(n+1):Nat):Int),I 1]=some (I ((k+n:Nat):Int)):=by have:=Ie (n:=k+(n+1)) Ab Ab;rwa [(Ab:k+(n+1)-1=k+n)] at this
   have inc:AE (.int .add) [I ((k+(n+1):Nat):Int),I 1]=some (I ((k+(n+1)+1:Nat):Int)):=BI Ab;have s:AE (.int .sub) [I ((k+1+N:Nat):Int),I ((k+(n+1):Nat):Int)]=some (I ((N-n:Nat):Int)):=by rw[C3 Ab Ab];congr 2;omega
   have aRw:x.row.length=4:=rfl;have K:∀{h2:Ah} {O V:Aa} {G2:Nat->Prop} {b2:BS},RX h2 bi a O V t G2 b2->b2.AY=b1.AY->∃M L R B,Bd h2 none (Pt bi 2)=some O/\AE (.KA 4 false false true) [O,I ((k+(n+1):Nat):Int)]=some M/\AE (.append 4 40) [.slnil,M]=some L/\AE (.KA 4 false true false) [O,I ((k+(n+1)+1:Nat):Int)]=some R/\AE (.append 4 40) [L,R]=some B/\Cx h2 1 (Pt bi 2) B=some (Am.put h2 bi 2 B)/\RX (Am.put h2 bi 2 B) bi a B V t G2 {b2 with AY:=Be b1.AY (k+(n+1))}:=by
    intro h2 O V G2 b2 A P;have YM:B1 b1.AY O:=by rw[<-P];exact A.o
    obtain⟨M,H,q1⟩:=AU.Mn YM (k:= .i64) (n:=k+(n+1)) Ab;obtain⟨L,E,q2⟩:=AU.Gt (b:=40) q1 (by rw[As];omega);obtain⟨R,D,q3⟩:=AU.Sp YM (k:= .i64) (n:=k+(n+1)+1) Ab;obtain⟨B,C,q4⟩:=AU.cZ (b:=40) q2 q3 (by rw[As,Bb];omega);exact⟨M,L,R,B,A.ld 2,H,E,D,C,A.st (k:=2) (v0:=O) rfl (AU.cells q4),A.I8 q4⟩
   by_cases he:Ff x.node b1.A8<0
   .obtain⟨M,L,R,B,_,H,E,D,C,X,Q⟩:=K j rfl;have es:({b1 with AY:=Be b1.AY (k+(n+1))},last,mk)=BS.Fo d.node anc (k+1+N) (k+(n+1)) b1 last mk:=by unfold BS.Fo;simp only[Wg];rw[Ae he]
    have y:=i.step es Q J Bp ŗ i.VC;by_cases Nk:(3:Int)<((N-n:Nat):Int);.simp only[abS,Nat.reduceLeDiff,↓reduceIte,AP,Fa,jr,jt,U,j.l3,r2.Ad,AZ,s,Nk,(Ab:¬(0:Int)<=Ff x.node b1.A8),he,H,E,inc,D,C,X,dec];exact AK.next (n,last,mk) rfl ⟨_,_,_,_,y⟩ Dq
    .simp only[abS,Nat.reduceLeDiff,↓reduceIte,AP,Fa,jr,jt,U,j.l3,r2.Ad,AZ,s,Nk,he,H,E,inc,D,C,X,dec];exact AK.next (n,last,mk) rfl ⟨_,_,_,_,y⟩ Dq
   .obtain⟨p,hp,ep,NA,Zq,hp3⟩:=HA (Jq.1 he);have D6:(0:Int)<=(p:Int):=Ab;rw[ep] at r2;have ept:(Ff x.node b1.A8).toNat=p:=by rw[ep,AV]
    have hpf:b1.A8[p].node≠fe:=by rw[Zq];exact hxf
    by_cases Nk:(3:Int)<((N-n:Nat):Int)
    .obtain⟨V,r3,IV,aHn⟩:=J.wo Ab hp h1;have A:=j.Lr (u:=V) (l:=Be b1.A8 p);obtain⟨M,L,R,B,Ĥ,H,E,D,C,X,Q⟩:=K A rfl;have es:({b1 with A8:=Be b1.A8 p,AY:=Be b1.AY (k+(n+1))},last,if p<mk then mk-1 else mk)=BS.Fo d.node anc (k+1+N) (k+(n+1)) b1 last mk:=by unfold BS.Fo;simp only[Wg];rw[Ac he,Ae (Ab:k+(n+1)+3<k+1+N),ept]
     have y:=i.step es Q IV (Bp.trans Bp) (by simp only;split<;>omega) (by simp only;rw[aW i.VC hp hpf];have:=i.VC;unfold down;split<;>omega);have s3:=j.st (k:=3) (v0:=W) rfl aHn;by_cases hpm:(p:Int)<(mk:Int);.have dm:=Ie (n:=mk) Ab Ab;rw[Ae (Ab:p<mk)] at y;simp only[abS,Nat.reduceLeDiff,↓reduceIte,AP,Fa,jr,jt,U,j.l3,r2.Ad,AZ,s,Nk,D6,r3.Ad,s3,hpm,dm,(AX:(-1:Int)<0),Ĥ,H,E,inc,D,C,X,dec];exact AK.next (n,last,mk-1) rfl ⟨_,_,_,_,y⟩ Dq
     .rw[Ac (Ab:¬p<mk)] at y;simp only[abS,Nat.reduceLeDiff,↓reduceIte,AP,Fa,jr,jt,U,j.l3,r2.Ad,AZ,s,Nk,D6,r3.Ad,s3,hpm,(AX:(-1:Int)<0),Ĥ,H,E,inc,D,C,X,dec];exact AK.next (n,last,mk) rfl ⟨_,_,_,_,y⟩ Dq
    .obtain⟨fs,Hj,hv⟩:=J;have Ho:b1.A8.length=fs.length:=by rw[<-Hj,Ak]
     have aCy:p<fs.length:=Ab;have efp:fs[p].c=b1.A8[p]:=by simp only[<-Hj,CU]
     have P:=AU.BJ (k:= .i64) hv aCy;have gu:fs[p].v.cells=[fs[p].v]:=AU.cells fs[p].ok;have hr:NO fs[p].c.name fs[p].v [I 2,.str fs[p].c.name,ff,S [],ff,S [],ff,ff,fs[p].v,ff,S [],.int .i32 0]:=⟨I 2,ff,S [],ff,S [],ff,ff,ff,S [],.int .i32 0,rfl⟩;have Kz:=i.rm.DD _ (AL hp);rw[<-efp] at Kz;obtain⟨h2,G2,r4,A,x2⟩:=ģ (m:=m+4*n) j i.ok.ba (i.rm.le Ab) i.nm hr fs[p].ok Kz.2 Kz.1 anc 1;obtain⟨uk,fr,le2⟩:=PM (nm:=fs[p].c.name) (at_:=fs[p].c.Az) (p:=anc) i.ok JW;have UD:=I6 (m:=m+4*n+1) (nm:=fs[p].c.name) (l:=fs[p].c.Az) (sp:=1) (p:=anc) (i.rm.le Ab) Kz.2;have NY:(b1.Em fs[p].c.name fs[p].c.Az 1 anc).AY=b1.AY:=by unfold BS.Em;rw[Ae JW]
     have Td:(b1.Em fs[p].c.name fs[p].c.Az 1 anc).A8=b1.A8:=by unfold BS.Em;rw[Ae JW]
     have es0:BS.Fo d.node anc (k+1+N) (k+(n+1)) b1 last mk=({b1.Em fs[p].c.name fs[p].c.Az 1 anc with a:=(b1.Em fs[p].c.name fs[p].c.Az 1 anc).a.Fq (b1.Gv fs[p].c.name fs[p].c.Az 1).node last 0,AY:=(b1.Em fs[p].c.name fs[p].c.Az 1 anc).AY.set (k+(n+1)) (b1.Gv fs[p].c.name fs[p].c.Az 1),A8:=(b1.Em fs[p].c.name fs[p].c.Az 1 anc).A8.set p {fs[p].c with node:=(b1.Gv fs[p].c.name fs[p].c.Az 1).node}},(b1.Gv fs[p].c.name fs[p].c.Az 1).node,if last=d.node then p+1 else mk):=by unfold BS.Fo;simp only[Wg];rw[Ac he,Ac Ab,ept,AJ,Ai hp,Hm,<-efp]
     have vJ:=NL i.ok fr;have hna:=Qq i.ok fr;have hnf:(b1.Gv fs[p].c.name fs[p].c.Az 1).node≠fe:=λP=>fr.new (by rw[P];exact i.feh);have aCz:(b1.Gv fs[p].c.name fs[p].c.Az 1).name.length<=1000:=NM Kz.1;simp only at vJ hna;generalize b1.Gv fs[p].c.name fs[p].c.Az 1=g at*;generalize b1.Em fs[p].c.name fs[p].c.Az 1 anc=b2 at*;have Ĥ:Bd h2 none (Pt bi 2)=some T:=A.ld 2;have YM:B1 b1.AY T:=j.o;obtain⟨M,H,q1⟩:=AU.Mn YM (k:= .i64) (n:=k+(n+1)) Ab;obtain⟨L,E,q2⟩:=AU.Gt (b:=40) q1 (by rw[As];omega);have D:=AU.Ki (a:=g) (b:=40) q2 (by rw[As];omega);obtain⟨B,C,q4⟩:=AU.Sp YM (k:= .i64) (n:=k+(n+1)+1) Ab;obtain⟨u5,p5,q5⟩:=AU.cZ (f:=Item.row) (l:=b1.AY.take (k+(n+1))++[g]) (b:=40) .mk q4 (by rw[Aw,As,Bb,Bi];omega);have es5:b1.AY.take (k+(n+1))++[g]++b1.AY.drop (k+(n+1)+1)=b2.AY.set (k+(n+1)) g:=by rw[NY,BY,Ae aY,AI];rfl
     rw[es5] at q5;have Ħ:AE (.Dh 4) [.agg g.row]=some (.sl 4 [g.row]):=Mo;have s5:=A.st (k:=2) (v0:=T) rfl (AU.cells q5);have w3:=A.I8 q5;have x3:=x2.trans (Bp (k:=2) (v:=u5));generalize put h2 bi 2 u5=h3 at*;have Z:=w3.l3;have hc0:B4 b1.A8 W:=⟨fs,Hj,hv⟩;obtain⟨V,r6,IV,aHn⟩:=hc0.wo Ab hp h3;obtain⟨c3,r7,aHo,aMa⟩:=IV.wi (by rw[Hh hp];omega) (e:={fs[p].c with node:=g.node}) fs[p].ok (by have:=Kz.2.1;simp only;omega) (p:Int) h3;rw[UH (by rw[Hh hp];omega),oO hp] at aHo;have s6:=w3.st (k:=3) (v0:=W) rfl aMa;have Q:=w3.Lr (u:=c3) (l:=b2.A8.set p {fs[p].c with node:=g.node});have hc4:B4 (b2.A8.set p {fs[p].c with node:=g.node}) c3:=by rw[Td];exact aHo
     have x4:=x3.trans (Bp (k:=3) (v:=c3));generalize put h3 bi 3 c3=h4 at*;have ŵ:=uk.sH (i:=g) (k:=k+(n+1)) ⟨fr.has,fr.kind,fr.A7,fr.name⟩ (by rw[NY];exact vJ);have jo:=ŵ.sI (e:={fs[p].c with node:=g.node}) (k:=p) ⟨fr.has,fr.kind⟩ (by simp only[Td];exact hna);have rm4:B6 {b2 with AY:=b2.AY.set (k+(n+1)) g,A8:=b2.A8.set p {fs[p].c with node:=g.node}} (m+4*n+1):=by
      refine⟨UD.n,UD.at_,UD.data,by simp only[Bn];exact UD.AY,by simp only[Bn];exact UD.A8,UD.tm,λe he=>?_,λi hi=>?_⟩
      .rcases C8 he with he|rfl
       .exact UD.DD e he
       .exact Kz
      .rcases C8 hi with hi|rfl
       .exact UD.YS i hi
       .exact aCz
     obtain⟨er,h6,G6,r8,w6,x6⟩:=Q.YB jo.ba rm4 g.node last 0;have y:=i.step es0.symm w6 hc4 (x4.trans x6) (by simp only;split<;>omega) (by simp only;rw[Td,oA i.VC hp hpf hnf];exact i.VC);have Y:=Q.l0;have incp:=BI (Ab:p<9223372036854775807);rw[Cj.row] at P;by_cases RJ:last=d.node;.rw[Ae RJ] at y;simp only[abS,Nat.reduceLeDiff,↓reduceIte,AP,Fa,jr,jt,U,j.l3,r2.Ad,AZ,s,Nk,(Ab:¬(p:Int)<0),P,gu,r4.Ad,Ĥ,H,E,Ħ,D,inc,C,p5,s5,Z,r6.Ad,r7.Ad,s6,AW RJ,incp,Y,r8.Ad,dec];exact AK.next (n,g.node,p+1) rfl ⟨_,_,_,_,y⟩ Dq
     .rw[Ac RJ] at y;simp only[abS,Nat.reduceLeDiff,↓reduceIte,AP,Fa,jr,jt,U,j.l3,r2.Ad,AZ,s,Nk,(Ab:¬(p:Int)<0),P,gu,r4.Ad,Ĥ,H,E,Ħ,D,inc,C,p5,s5,Z,r6.Ad,r7.Ad,s6,RJ,Y,r8.Ad,dec];exact AK.next (n,g.node,mk) rfl ⟨_,_,_,_,y⟩ Dq
 obtain⟨r,h',hr,o',c',G',s',rfl,e',i'⟩:=Ji.ret;exact⟨h',o',c',G',s',hr,e',i'⟩
end
end Go.Am
end
