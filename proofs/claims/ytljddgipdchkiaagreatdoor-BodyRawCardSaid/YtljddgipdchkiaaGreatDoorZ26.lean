/- Lemmas -/
import Derived.Test.YtljddgipdchkiaaGreatDoorZ25
set_option linter.all false
set_option maxRecDepth 100000
section
namespace Go.Am
open Go
def MU(h:Ah)(lo:Nat)(v:Aa)(l:List Int):Prop:=(v= .slnil/\l=[])\/∃id,lo<=id/\v= .CD id 0 l.length 1/\h[id]?=some (.cells (l.map (Aa.int .i64)))
def Mr(h:Ah)(lo:Nat)(v:Aa)(l:List Cu):Prop:=(v= .slnil/\l=[])\/∃id,∃fs:List Cl,lo<=id/\v= .CD id 0 fs.length 3/\h[id]?=some (.cells (fs.map Cl.row).flatten)/\fs.map (·.c)=l
section
variable{h h':Ah}{lo lo':Nat}{v:Aa}
def MU.cells{l:List Int}(hv:MU h lo v l):v.cells=[v]:=by rcases hv with⟨rfl,_⟩|⟨id,_,rfl,_⟩<;>rfl
def Mr.cells{l:List Cu}(hv:Mr h lo v l):v.cells=[v]:=by rcases hv with⟨rfl,_⟩|⟨id,fs,_,rfl,_⟩<;>rfl
def MU.Dj{l:List Int}(hv:MU h lo v l)(hf:∀i,lo<=i->i<h.length->h'[i]?=h[i]?):MU h' lo v l:=by
 rcases hv with hv|⟨id,h1,h2,d⟩
 .exact .inl hv
 .exact .inr ⟨id,h1,h2,by rw[hf id h1 (Ak.1 d).1];exact d⟩
def Mr.Dj{l:List Cu}(hv:Mr h lo v l)(hf:∀i,lo<=i->i<h.length->h'[i]?=h[i]?):Mr h' lo v l:=by
 rcases hv with hv|⟨id,fs,h1,h2,d,e⟩
 .exact .inl hv
 .exact .inr ⟨id,fs,h1,h2,by rw[hf id h1 (Ak.1 d).1];exact d,e⟩
def Mr.low{l:List Cu}(hv:Mr h lo v l)(hl:lo'<=lo):Mr h lo' v l:=by
 rcases hv with hv|⟨id,fs,h1,h2⟩
 .exact .inl hv
 .exact .inr ⟨id,fs,Ab,h2⟩
def MU.Re{l:List Int}(hv:MU h lo v l):Py h v l:=by
 rcases hv with⟨rfl,rfl⟩|⟨id,_,rfl,hc⟩
 .exact⟨rfl,λk hk=>by simp at hk⟩
 .refine⟨rfl,λk hlt=>⟨Pt id k,by have:=E0 (id:=id) (z:=1) (k:= .i64) hlt;rwa [FF] at this,?_⟩⟩;simp only[Bg,hc,E8];simp[hlt]
def ś{h u:Ah}{V:Aa}{L:List Int}(i:MU (h++u) h.length V L)(hb:L.length<=1000000000)(x:Int):∃d g,F9 (h++u) 1 8 V (.sl 1 [[I x]])=some (h++d,g)/\MU (h++d) h.length g (L++[x]):=by
 have dT:AX=140737488355328:=rfl;rcases i with⟨rfl,rfl⟩|⟨id,Ik,rfl,hc⟩
 .exact⟨u++[.cells [I x]],.CD (h++u).length 0 1 1,by rw[<-AJ];rfl,.inr ⟨(h++u).length,AK,rfl,AK⟩⟩
 .have hr:∀r∈L.map Cp,r.length=1:=Mf (f:=Cp) (λ_=>rfl) L;have KE:(h++u)[id]?=some (.cells (L.map Cp).flatten):=by rw[NM];exact hc
  have hg:=JE (b:=8) (Az:=L.map Cp) (r2:=[[I x]]) (v:= .sl 1 [[I x]]) hr A5 KE .mk AK (by rw[Al];simp;omega);rw[Al] at hg;have e:(h++u).set id .CT++[Dx.cells (L.map Cp++[[I x]]).flatten]=h++(u.set (id-h.length) .CT++[.cells ((L++[x]).map (Aa.int .i64))]):=by rw[BP _ _ Ik,AJ,KM,NM,BL];rfl
  rw[e] at hg;have Y8:(h++(u.set (id-h.length) Dx.CT++[.cells ((L++[x]).map (Aa.int .i64))]))=(h++u.set (id-h.length) Dx.CT)++[.cells ((L++[x]).map (Aa.int .i64))]:=by rw[AJ]
  have dS:(h++u.set (id-h.length) Dx.CT).length=(h++u).length:=AK;refine⟨_,_,hg,.inr ⟨(h++u).length,AK,AK,?_⟩⟩;rw[Y8,<-dS,Bm (Ag _),C9];rfl
def aJ8{h u:Ah}{V:Aa}{L:List Cu}(g:Mr (h++u) h.length V L)(hb:L.length<=1000000000)(x:Cl):∃d f,F9 (h++u) 3 48 V (.sl 3 [x.row])=some (h++d,f)/\Mr (h++d) h.length f (L++[x.c]):=by
 have dT:AX=140737488355328:=rfl;rcases g with⟨rfl,rfl⟩|⟨id,fs,Ik,rfl,hc,rfl⟩
 .exact⟨u++[.cells (([x]:List Cl).map Cl.row).flatten],.CD (h++u).length 0 1 3,by rw[<-AJ];rfl,.inr ⟨(h++u).length,[x],AK,rfl,AK,rfl⟩⟩
 .rw[Al] at hb;have hg:=JE (b:=48) (Az:=fs.map Cl.row) (r2:=[x.row]) (v:= .sl 3 [x.row]) (Og fs) A5 hc .mk AK (by rw[Al];simp;omega);rw[Al] at hg;have e:(h++u).set id .CT++[.cells (fs.map Cl.row++[x.row]).flatten]=h++(u.set (id-h.length) .CT++[.cells ((fs++[x]).map Cl.row).flatten]):=by rw[BP _ _ Ik,AJ,BL];rfl
  rw[e] at hg;have Y8:(h++(u.set (id-h.length) Dx.CT++[.cells ((fs++[x]).map Cl.row).flatten]))=(h++u.set (id-h.length) Dx.CT)++[.cells ((fs++[x]).map Cl.row).flatten]:=by rw[AJ]
  have dS:(h++u.set (id-h.length) Dx.CT).length=(h++u).length:=AK;refine⟨_,_,hg,.inr ⟨(h++u).length,fs++[x],AK,AK,?_,AK⟩⟩;rw[Y8,<-dS,Bm (Ag _),C9];rfl
end
structure SS where
 mode:Int
 Jn:Int
 tm:List Int
 AY:List Int
 Bb:List Cu
 head:Int
 NF:Int
 fs:Bool
 EW:Bool
 gY:Aq
 skip:Bool
 sw:Int
 stop:Bool
def BS.VN(b:BS):SS:=⟨b.mode,b.Jn,b.tm,b.AY.map Item.node,b.Bb,b.head,b.NF,b.fs,b.EW,b.gY,b.skip,b.sw,b.stop⟩
def Uo(s:SS)(t o c:Aa):List Aa:=[I s.mode,I s.Jn,t,o,c,I s.head,I s.NF,.bool s.fs,.bool s.EW,.str s.gY,.bool s.skip,I s.sw,.bool s.stop]
structure SC(h:Ah)(lo:Nat)(s:SS)(t o c:Aa):Prop where
 t:Tp s.tm t
 o:MU h lo o s.AY
 c:Mr h lo c s.Bb
section
variable{h h':Ah}{bi a lo:Nat}{o c t:Aa}{G G' F:Nat->Prop}{b:BS}{x:Int}{m:Nat}
def SC.Dj{s:SS}(w:SC h lo s t o c)(hf:∀i,lo<=i->i<h.length->h'[i]?=h[i]?):SC h' lo s t o c:=⟨w.t,w.o.Dj hf,w.c.Dj hf⟩
def oH{h:Ah}{n:Nat}(hn:n<=1000000000):Rr h 3 48 [I 0,S [],.slnil] (I (n:Int)) (I (n:Int))=some (h++[.cells (List.replicate n [I 0,S [],.slnil]).flatten],.CD h.length 0 n 3):=by
 have hm:AX=140737488355328:=rfl;unfold Rr;simp only
 rw[Ae ⟨Ab,Ab,Ab,rfl⟩];rfl
def aPq(w:BX h bi a o c t G b)(hc:B7 b.Bb c)(rm:B9 b m):∃t' o' c' u,BZ cx 48 [Pt bi 0] h (.agg (Uo b.VN t' o' c')) (h++u)/\SC (h++u) h.length b.VN t' o' c':=by
 have dT:AX=140737488355328:=rfl;have ho:=rm.AY;have SQ:=rm.Bb;have M:=rm.tm;obtain⟨t',e0,Gg⟩:=aJH w.t.1 Ab h;have B:t'.cells=[t']:=Gg.1.cells;obtain⟨fs,Hh,hv⟩:=hc;have Hn:b.Bb.length=fs.length:=by rw[<-Hh,Al]
 have s:=AV.CN w.o;have Jc:Ev cx 48 [Pt bi 0] h λr h'=>∃t' o' c' u,r= .agg (Uo b.VN t' o' c')/\h'=h++u/\SC (h++u) h.length b.VN t' o' c':=by
  unfold Ev;rw[aBv,t48];simp only[abS,Nat.reduceLeDiff,↓reduceIte,AR,(Ip w).Ad,w.ld,Je,e0.Ad,BO,B,s];refine DS (i:=0) (λz:Aa×Nat=>[.agg [I b.mode,I b.Jn,t',z.1,.slnil,I b.head,I b.NF,.bool b.fs,.bool b.EW,.str b.gY,.bool b.skip,I b.sw,.bool b.stop],I (z.2:Int)]) (λz h1=>z.2<=b.AY.length/\∃u,h1=h++u/\MU (h++u) h.length z.1 ((b.AY.take z.2).map Item.node)) (λz=>b.AY.length-z.2) (λz h1=>∃u,h1=h++u/\MU (h++u) h.length z.1 (b.AY.map Item.node)) (.slnil,0) rfl ⟨AU _,[],AK,.inl ⟨rfl,AK⟩⟩ ?_ ?_
  .rintro⟨V,n⟩ h1 ⟨hn,u,rfl,l⟩;simp only at hn l;have N:=l.cells;rcases AO n b.AY.length with hlt|Ef
   .have q:=AV.BN (k:= .i64) w.o hlt;rw[Item.row] at q;obtain⟨E,U,g1,j⟩:=ś l (by rw[Al,As];omega) b.AY[n].node;have g:=j.cells;have em:AB (.BI 1) [I b.AY[n].node]=some (.sl 1 [[I b.AY[n].node]]):=rfl;simp only[abS,Nat.reduceLeDiff,↓reduceIte,(Ab:(n:Int)<(b.AY.length:Int)),q,em,g1,g,BQ (Ab:n<9223372036854775807)];exact .next (U,n+1) rfl ⟨hlt,E,rfl,by rw[Ay hlt,BL];exact j⟩ Dp
   .rw[AD Ef] at l;simp only[abS,↓reduceIte,(Ab:¬(n:Int)<(b.AY.length:Int))];exact .HC (V,n) rfl ⟨u,rfl,l⟩
  .rintro⟨O,W⟩ h1 ⟨u,rfl,p⟩;simp only at p;have P:=p.cells;have w1:=w.Iq (u:=u);have A:=w1.l3;have lc:=AV.CN hv;simp only[abS,↓reduceIte,A,lc];refine kD (oH (h:=h++u) (n:=fs.length) Ab) ?_;obtain⟨d,f⟩:∃d,d=h++u:=⟨_,rfl⟩;rw[<-f] at p⊢;have T:(d++[Dx.cells (List.replicate fs.length [I 0,S [],.slnil]).flatten])[d.length]?=some (.cells (List.replicate fs.length [I 0,S [],.slnil]).flatten):=AK;have y:Bg (d++[Dx.cells (List.replicate fs.length [I 0,S [],.slnil]).flatten]) none (Pt bi 3)=some c:=by rw[f];exact(w1.Iq).l3
   have ø:(List.replicate fs.length [I 0,S [],Aa.slnil]).flatten.length=fs.length*3:=by rw[FT (z:=3) (by intro r hr;rw[(List.mem_replicate.1 hr).2];rfl),FX]
   have R:E5 (.copy 3) (d++[Dx.cells (List.replicate fs.length [I 0,S [],.slnil]).flatten]) [.CD d.length 0 fs.length 3,c]=some (d++[Dx.cells (fs.map Cl.row).flatten],I (fs.length:Int)):=by
    have Q:GX (d++[Dx.cells (List.replicate fs.length [I 0,S [],.slnil]).flatten]) 3 c=some (fs.map Cl.row):=by
     rcases hv with rfl|⟨rfl,h0⟩
     .simp[GX]
     .rw[h0];rfl
    simp only[E5,o9,Q,T];rw[Ae ⟨trivial,AK,by rw[ø];omega⟩];have h1:(List.replicate fs.length [I 0,S [],Aa.slnil]).flatten.drop (0+(fs.map Cl.row).length*3)=[]:=AW (by rw[ø,Al];omega);rw[h1,Kl,BV,BK,Al,BP _ _ (Ag _),C9];rfl
   have K:AB (.len false) [.CD d.length 0 fs.length 3]=some (I (fs.length:Int)):=rfl;simp only[abS,↓reduceIte,y,R,K];refine DS (i:=2) (λn:Nat=>[I (n:Int)]) (λn h1=>n<=fs.length/\∃HY:List Cl,h1=d++[.cells (HY.map Cl.row).flatten]/\HY.length=fs.length/\HY.map (·.c)=b.Bb) (λn=>fs.length-n) (λn h1=>∃HY:List Cl,h1=d++[.cells (HY.map Cl.row).flatten]/\HY.length=fs.length/\HY.map (·.c)=b.Bb) 0 rfl ⟨AU _,fs,rfl,rfl,Hh⟩ ?_ ?_
   .rintro n h1 ⟨hn,HY,rfl,Vr,zS⟩;rcases AO n fs.length with hlt|Ef
    .have Rf:n<HY.length:=by omega
     have C:HY[n].c=b.Bb[n]'(by omega):=by simp only[<-zS,CY]
     have Vi:=(rm.DD HY[n].c (by rw[C];exact AN _)).2.1;have q:AB (.FC 3) [.CD d.length 0 fs.length 3,I (n:Int)]=some (Pt d.length (n*3)):=E0 hlt;have D:(d++[Dx.cells (HY.map Cl.row).flatten])[d.length]?=some (.cells (HY.map Cl.row).flatten):=AK;have hg:(HY.map Cl.row)[n]?=some HY[n].row:=by rw[Cn,Ai Rf];rfl
     have L:Bg (d++[Dx.cells (HY.map Cl.row).flatten]) none (Pt d.length (n*3+2))=some HY[n].v:=by simp only[Bg,D,E8];exact Li (Og HY) A5 hg
     obtain⟨av,J,X2⟩:=f45 (h:=d++[Dx.cells (HY.map Cl.row).flatten]) HY[n].ok Ab;have aEa:av.cells=[av]:=AV.cells X2;have H:Cw (d++[Dx.cells (HY.map Cl.row).flatten]) 1 (Pt d.length (n*3+2)) av=some (d++[.cells ((HY.set n ⟨HY[n].c,av,X2⟩).map Cl.row).flatten]):=by have e:=NJ (Az:=HY.map Cl.row) (i:=n) (k:=2) (v:=av) (Og HY) (by simpa using Rf) A5;simp only[Cw,D,aEa,Bp,Mz];rw[Ae (by rw[FT (Og HY),Al];omega),e,BP _ _ (Ag _),C9,Eo,CY];rfl
     simp only[abS,(Ab:(n:Int)<(fs.length:Int)),q,L,J.Ad,H,BQ (Ab:n<9223372036854775807)];refine .next (n+1) rfl ⟨hlt,_,rfl,by rw[Br];exact Vr,?_⟩ Ab
     rw[Eo,zS];have mn:n<b.Bb.length:=Ab;show b.Bb.set n HY[n].c=b.Bb;rw[C,JM]
    .simp only[abS,(Ab:¬(n:Int)<(fs.length:Int))];exact .HC n rfl ⟨HY,rfl,Vr,zS⟩
   .rintro n h1 ⟨HY,rfl,Vr,zS⟩;simp only[BJ,↓reduceIte];refine⟨_,rfl,t',O,.CD d.length 0 fs.length 3,u++[.cells (HY.map Cl.row).flatten],rfl,by rw[f,AJ],Gg.1,?_,?_⟩;.rw[<-AJ,<-f];exact p.Dj λi _ hi=>Aj hi
    .rw[<-AJ,<-f];exact .inr ⟨d.length,HY,by rw[f];simp,by rw[Vr],AK,zS⟩
 obtain⟨r,h',hr,t',o',c',u,rfl,rfl,hs⟩:=Jc.ret;exact⟨t',o',c',u,hr,hs⟩
end
def PB(h:Ah)(bi:Nat)(b:BS)(F:Nat->Prop):Prop:=∃a o c t G,BX h bi a o c t G b/\B7 b.Bb c/\F=Bw bi G
structure Fin(b:BS)(j:Nat):Prop where
 ok:Ez b
 sz:Sz b j
section
variable{h h':Ah}{bi wi:Nat}{b:BS}{F F2:Nat->Prop}{q:jB}{av:Aa}{j:Nat}
def PB.lt(w:PB h bi b F){i:Nat}(hi:F i):i<h.length:=by
 obtain⟨a,o,c,t,G,w,_,rfl⟩:=w;rcases hi with rfl|hi
 .exact w.lt
 .exact w.w.lt hi
def PB.Dj(w:PB h bi b F)(hf:∀i,F i->h'[i]?=h[i]?):PB h' bi b F:=by obtain⟨a,o,c,t,G,w,hc,rfl⟩:=w;exact⟨a,o,c,t,G,w.Dj hf,hc,rfl⟩
def PB.Iq(w:PB h bi b F){u:Ah}:PB (h++u) bi b F:=w.Dj λi hi=>Aj (w.lt hi)
def aPr(w:PB h bi b F)(f:Fin b (j+1))(hq:zZ q)(hv:Bz q.AA av):∃h' F',BZ cx 24 [Pt bi 0,.agg (LC q av)] h (.agg (XN b q).2.row) h'/\PB h' bi (XN b q).1 F'/\DE h F h' F':=by obtain⟨a,o,c,t,G,w,hc,rfl⟩:=w;obtain⟨h',o',c',t',G',r,w',KE,x⟩:=aPl w hc f.ok f.sz hq hv;exact⟨h',_,r,⟨a,o',c',t',G',w',KE,rfl⟩,x⟩
def aPs(s:EY)(hv:Bz s.AA av)(hl:D1 s.AA)(h:Ah):∃h' bi F,BZ cx 22 [.agg (Mq s av)] h (Pt bi 0) h'/\PB h' bi s.b F/\DE h (λ_=>False) h' F:=by obtain⟨h',bi,a,o,c,t,G,r,w,hc,x⟩:=aPp h s hv hl;exact⟨h',bi,_,r,⟨a,o,c,t,G,w,hc,rfl⟩,x⟩
end
structure QO where
 q:jB
 v:Aa
 ok:Bz q.AA v
def QO.row(x:QO):List Aa:=LC x.q x.v
def QO.CL{x:QO}:x.row.length=9:=rfl
def QO.HW{x:QO}:x.row.take 9=x.row:=rfl
def ZJ(l:List QO)(v:Aa):Prop:=AV 9 (l.map QO.row) v
noncomputable def Lm:BS->List QO->BS
 |b,[]=>b
 |b,x::l=>Lm (XN b x.q).1 l
def XT:∀{l:List QO} {b:BS} {x:QO},Lm b (l++[x])=(XN (Lm b l) x.q).1
 |[],_,_=>rfl
 |y::l,b,x=>by rw[CK,Lm,XT,Lm]
structure oI(h:Ah)(v:Aa)(fs:List Cl):Prop where
 len:AB (.len false) [v]=some (I (fs.length:Int))
 at_:∀k (hk:k<fs.length),∃id o,AB (.FC 3) [v,I (k:Int)]=some (Pt id o)/\Bg h none (Pt id o)=some (I fs[k].c.node)/\Bg h none (Pt id (o+1))=some (.str fs[k].c.name)/\Bg h none (Pt id (o+2))=some fs[k].v
def Ŝ(h:Ah)(x:EV)(r:List Aa):Prop:=∃K V,r=[I x.kind,I x.FM,K,I x.CM,I x.A9,.str x.name,V,.str x.data,.str x.bk,.str x.sys,.bool x.CI,I x.cont,I x.Em]/\Py h K x.A8/\MT h V x.AA/\K.cells=[K]/\V.cells=[V]
def XU(h:Ah)(v:Aa)(l:List EV):Prop:=∃Az:List (List Aa),AV 13 Az v/\Az.length=l.length/\∀k (h1:k<Az.length) (h2:k<l.length),Ŝ h l[k] Az[k]
def XV(h:Ah)(lo:Nat)(v:Aa)(l:List EV):Prop:=∃Az:List (List Aa),AV 13 Az v/\Az.length=l.length/\∀k (h1:k<Az.length) (h2:k<l.length),UY h lo l[k] Az[k]
section
variable{h h':Ah}{lo lo':Nat}{v v':Aa}
def Mr.at_{l:List Cu}(hv:Mr h lo v l):∃fs:List Cl,fs.map (·.c)=l/\oI h v fs:=by
 rcases hv with⟨rfl,rfl⟩|⟨id,fs,_,rfl,hc,e⟩
 .exact⟨[],rfl,rfl,λk hk=>by simp at hk⟩
 .refine⟨fs,e,rfl,λk hk=>⟨id,k*3,E0 hk,?_⟩⟩;have hg:(fs.map Cl.row)[k]?=some fs[k].row:=by rw[Cn,Ai hk];rfl
  have ld:∀j,j<3->Bg h none (Pt id (k*3+j))=fs[k].row[j]?:=λj hj=>by simp only[Bg,hc,E8];exact Li (Og fs) hj hg
  have l0:=ld 0 A5;rw[Bv] at l0;exact⟨l0,ld 1 A5,ld 2 A5⟩
def Up.le{N b:Nat}(hu:Up N v)(hl:b<=N):Up b v:=λid k e=>Bu hl (hu id k e)
def UY.rd{x:EV}{r:List Aa}(hr:UY h lo x r):Ŝ h x r:=let⟨K,V,e,h1,h2,_⟩:=hr;⟨K,V,e,h1.Re,h2.in_,AV.cells h1,h2.cells⟩
def UY.low{x:EV}{r:List Aa}(hr:UY h lo x r)(hl:lo'<=lo):UY h lo' x r:=let⟨K,V,e,h1,h2,b⟩:=hr;⟨K,V,e,h1,h2,b.le hl⟩
def XV.rd{l:List EV}(hv:XV h lo v l):XU h v l:=let⟨Az,h1,h2,c⟩:=hv;⟨Az,h1,h2,λk a b=>(c k a b).rd⟩
def f18{l:List Int}(hv:Py h v l)(DG:Py h v' l)(hb:l.length<=1000000000):BZ cx 144 [v,v'] h tt h:=by
 rw[Af,xc,aGQ];simp only[abS,hv.len,DG.len,Ca,CE];refine Bj (λn:Nat=>[ff,I (n:Int)]) (λn h1=>n<=l.length/\h1=h) (λn=>l.length-n) 0 rfl ⟨AU _,rfl⟩ ?_;rintro n h1 ⟨hn,rfl⟩;rcases AO n l.length with hlt|Ef
 .obtain⟨p,a1,a2⟩:=hv.at_ n hlt;obtain⟨p',b1,b2⟩:=DG.at_ n hlt;simp only[abS,hv.len,(Ab:(n:Int)<(l.length:Int)),a1,a2,b1,b2,Ca,CE,BQ (Ab:n<9223372036854775807)];exact AM.next (n+1) rfl ⟨hlt,rfl⟩ Ab
 .simp only[abS,hv.len,(Ab:¬(n:Int)<(l.length:Int))]
def aKa(y:A6):AB (.geq true [.i,.s,.s]) [.agg y.row,.agg y.row]=some (.bool false):=by rw[Q3];simp[A6.row,D6,Lr]
def aKb{l:List A6}(hv:MT h v l)(DG:MT h v' l)(hb:l.length<=1000000000):BZ cx 420 [v,v'] h tt h:=by
 rw[Af,à,aIx];simp only[abS,hv.len,DG.len,Ca,CE];refine Bj (λn:Nat=>[ff,I (n:Int)]) (λn h1=>n<=l.length/\h1=h) (λn=>l.length-n) 0 rfl ⟨AU _,rfl⟩ ?_;rintro n h1 ⟨hn,rfl⟩;rcases AO n l.length with hlt|Ef
 .obtain⟨p,a1,a2⟩:=hv.at_ n hlt;obtain⟨p',b1,b2⟩:=DG.at_ n hlt;simp only[abS,hv.len,(Ab:(n:Int)<(l.length:Int)),a1,a2,b1,b2,aKa,BQ (Ab:n<9223372036854775807)];exact AM.next (n+1) rfl ⟨hlt,rfl⟩ Ab
 .simp only[abS,hv.len,(Ab:¬(n:Int)<(l.length:Int))]
def f87{fs Ą:List Cl}(hv:oI h v fs)(DG:oI h v' Ą)(he:fs.map (·.c)=Ą.map (·.c))(hb:fs.length<=1000000000)(ha:∀e∈fs,e.c.AA.length<=1000000000):BZ cx 145 [v,v'] h tt h:=by
 have hl:Ą.length=fs.length:=by have:=Ce List.length he;simpa using this.symm
 have l1:=hv.len;have g:=DG.len;rw[hl] at g;rw[Af,xd,aGR];simp only[abS,l1,g,Ca,CE];refine Bj (λn:Nat=>[ff,I (n:Int)]) (λn h1=>n<=fs.length/\h1=h) (λn=>fs.length-n) 0 rfl ⟨AU _,rfl⟩ ?_;rintro n h1 ⟨hn,rfl⟩;rcases AO n fs.length with hlt|Ef
 .have Sp:n<Ą.length:=by omega
  have i:Ą[n].c=fs[n].c:=by have:=Ce (λl=>l[n]?) he;simp only[Cn,Ai hlt,Ai Sp,Cc,BE] at this;exact this.symm
  obtain⟨id,o,a1,a2,a3,a4⟩:=hv.at_ n hlt;obtain⟨FO,o',b1,b2,b3,b4⟩:=DG.at_ n Sp;rw[i] at b2 b3;have X2:Bz fs[n].c.AA fs[n].v:=fs[n].ok;have aKc:Bz fs[n].c.AA Ą[n].v:=by rw[<-i];exact Ą[n].ok
  have X7:=ha _ (AN hlt);have d:=AV.CN X2;have p:=AV.CN aKc;generalize fs[n].v=av at*;generalize Ą[n].v=ZI at*;generalize fs[n].c.AA=b at*;simp only[abS,l1,(Ab:(n:Int)<(fs.length:Int)),a1,a2,a3,a4,b1,b2,b3,b4,Ca,CE,d,p];refine Bj (λj:Nat=>[ff,I (j:Int)]) (λj h2=>j<=b.length/\h2=h1) (λj=>b.length-j) 0 rfl ⟨AU _,rfl⟩ ?_;rintro j h2 ⟨hj,rfl⟩;rcases AO j b.length with YX|q
  .have s:=AV.BN (k:= .i64) X2 YX;have r:=AV.BN (k:= .i64) aKc YX;have ž:(A6.row b[j]).length=3:=rfl;have f:(A6.row b[j]).take 3=A6.row b[j]:=rfl;simp only[abS,a1,a4,b1,b4,d,(Ab:(j:Int)<(b.length:Int)),s,r,ž,f,Ag,aKa,BQ (Ab:j<9223372036854775807)];exact AM.next (j+1) rfl ⟨YX,rfl⟩ Ab
  .simp only[abS,a1,a4,d,(Ab:¬(j:Int)<(b.length:Int)),BQ (Ab:n<9223372036854775807)];exact AM.next (n+1) rfl ⟨hlt,rfl⟩ Ab
 .simp only[abS,l1,(Ab:¬(n:Int)<(fs.length:Int))]
def f22{s:SS}{t o c t' o' c':Aa}(w:SC h lo s t o c)(w':SC h lo' s t' o' c')(b1:s.tm.length<=1000000000)(b2:s.AY.length<=1000000000)(b3:s.Bb.length<=1000000000)(b4:∀e∈s.Bb,e.AA.length<=1000000000):BZ cx 47 [.agg (Uo s t o c),.agg (Uo s t' o' c')] h tt h:=by
 obtain⟨fs,d,he⟩:=w.c.at_;obtain⟨Ą,b,Qf⟩:=w'.c.at_;have g:=f18 w.o.Re w'.o.Re b2;have r2:=f87 he Qf (d.trans b.symm) (by rw[<-d,Al] at b3;exact b3) (λe hm=>b4 e.c (by rw[<-d];exact OL hm));have p:t.cells=[t]:=w.t.cells;have f:t'.cells=[t']:=w'.t.cells;have q:=w.o.cells;have i:=w'.o.cells;have r:=w.c.cells;have l:=w'.c.cells;have l1:=w.t.len;have j:=w'.t.len;rw[Af,aBu,t47,Uo,Uo];simp only[abS,l1,j,Ca,CE,g.Ad,r2.Ad];refine Bj (λn:Nat=>[ff,I (n:Int)]) (λn h1=>n<=s.tm.length/\h1=h) (λn=>s.tm.length-n) 0 rfl ⟨AU _,rfl⟩ ?_;rintro n h1 ⟨hn,rfl⟩;rcases AO n s.tm.length with hlt|Ef
 .have a1:=AV.BN (k:= .i64) (w.t.ne λe=>by rw[e] at hlt;simp at hlt) hlt;have a2:=AV.BN (k:= .i64) (w'.t.ne λe=>by rw[e] at hlt;simp at hlt) hlt;rw[Cp] at a1 a2;simp only[abS,l1,(Ab:(n:Int)<(s.tm.length:Int)),a1,a2,Ca,CE,BQ (Ab:n<9223372036854775807)];exact AM.next (n+1) rfl ⟨hlt,rfl⟩ Ab
 .simp only[abS,l1,(Ab:¬(n:Int)<(s.tm.length:Int)),CE,DV]
def aPu{x:EV}{r r':List Aa}(hr:Ŝ h x r)(F0:Ŝ h x r')(hb:x.AA.length<=1000000000):BZ cx 386 [.agg r,.agg r'] h tt h:=by obtain⟨K,V,rfl,i,e,g,f⟩:=hr;obtain⟨k,j,rfl,ř,Ś,d,c⟩:=F0;have b:=aKb e Ś hb;rw[Af,Õ,aIs];simp only[abS,CE,b.Ad,DV]
def aPv{x:EV}{r r':List Aa}(hr:Ŝ h x r)(F0:Ŝ h x r')(hb:x.AA.length<=1000000000)(hk:x.A8.length<=1000000000):BZ cx 295 [.agg r,.agg r'] h tt h:=by have b:=aPu hr F0 hb;obtain⟨K,V,rfl,e,i,g,f⟩:=hr;obtain⟨k,j,rfl,ř,Ś,d,c⟩:=F0;have r2:=f18 e ř hk;rw[Af,N_,aHX];simp only[BJ,CE,b.Ad,r2.Ad,DV]
def f90{l:List EV}(hv:XU h v l)(DG:XU h v' l)(hb:l.length<=1000000000)(ha:∀x∈l,x.AA.length<=1000000000/\x.A8.length<=1000000000):BZ cx 150 [v,v'] h tt h:=by
 obtain⟨Az,i,s,q⟩:=hv;obtain⟨b,c,g,e⟩:=DG;have l1:=i.len;have p:=c.len;rw[s] at l1;rw[g] at p;rw[Af,xh,aGT];simp only[abS,l1,p,Ca,CE];refine Bj (λn:Nat=>[ff,I (n:Int)]) (λn h1=>n<=l.length/\h1=h) (λn=>l.length-n) 0 rfl ⟨AU _,rfl⟩ ?_;rintro n h1 ⟨hn,rfl⟩;rcases AO n l.length with hlt|Ef
 .have a1:=i.FC (k:= .i64) (Ab:n<Az.length);have a2:=c.FC (k:= .i64) (Ab:n<b.length);have o:=q n Ab hlt;have j:=e n Ab hlt;have hm:=ha _ (AN hlt);have d:=aPv o j hm.1 hm.2;obtain⟨K,V,r,_⟩:=o;obtain⟨u,t,f,_⟩:=j;rw[r] at a1 d;rw[f] at a2 d;simp only[abS,Nat.reduceLeDiff,↓reduceIte,l1,(Ab:(n:Int)<(l.length:Int)),a1,a2,d.Ad,BQ (Ab:n<9223372036854775807)];exact AM.next (n+1) rfl ⟨hlt,rfl⟩ Ab
 .simp only[abS,↓reduceIte,l1,(Ab:¬(n:Int)<(l.length:Int))]
end
def oJ{A:Ar}{k:Nat}(hk:k<A.n.length):A.has ((k:Int)+1)/\A.nd ((k:Int)+1)=A.n[k]:=by
 have h1:A.has ((k:Int)+1):=by unfold Ar.has;omega
 refine⟨h1,?_⟩;unfold Ar.nd;rw[Ae h1,AL,(Ab:((k:Int)+1).toNat-1=k),Ai hk];rfl
section
variable{h h':Ah}{a n:Nat}{m:Option Nat}{ps:List PN}{A:Ar}{x:Int}
def aPw(w:PA h a n m ps A)(p:Nd A)(hk:∀x,(A.nd x).A8.length<=1000000000)(hb:A.n.length<=900000000):∃v u,BZ cx 151 [Pt a 0] h v (h++u)/\XV (h++u) h.length v A.n:=by
 have dT:AX=140737488355328:=rfl;have dP:A.n.length=ps.length:=by rw[w.e,Al]
 have Jc:Ev cx 151 [Pt a 0] h λr h'=>∃u,h'=h++u/\XV (h++u) h.length r A.n:=by
  unfold Ev;rw[xi,aGU];simp only[BJ,gC,w.nodes,show AB (.len false) [.CD n 0 ps.length 13]=some (I (ps.length:Int)) from rfl];refine Bj (λz:Aa×Nat=>[z.1,I (z.2:Int)]) (λz h1=>z.2<=ps.length/\∃u,h1=h++u/\XV (h++u) h.length z.1 (A.n.take z.2)) (λz=>ps.length-z.2) (.slnil,0) rfl ⟨AU _,[],AK,[],.nil,AK,λk h1 h2=>by simp at h1⟩ ?_;rintro⟨V,k⟩ h1 ⟨Yb,u,rfl,c⟩;simp only at Yb c;have w1:PA (h++u) a n m ps A:=w.Dj λi hi=>Aj (w.lt i hi);rcases AO k ps.length with hlt|Ef
  .obtain⟨hx,ex⟩:=oJ (A:=A) (k:=k) Ab;obtain⟨r,t,l,hr⟩:=Ņ w1 p hx (hk _);have ea:AB (.FC 13) [.CD n 0 ps.length 13,I (k:Int)]=some (.ptr (some (n,nP n ((k:Int)+1)))):=by have:=E0 (k:= .i64) (id:=n) (z:=13) hlt;rw[this];unfold nP;congr 4
   obtain⟨Az,g,d,o⟩:=c;rw[As,Cs Ab] at d;obtain⟨K,W,f,LL⟩:=hr;have em:AB (.BI 13) [.agg r]=some (.sl 13 [r]):=Me (a:= .agg r) (by rw[f];rfl) A5;have s:=AV.jb (b:=168) (row:=r) g Ab;simp only[abS,(Ab:(k:Int)<(ps.length:Int)),w1.nodes,ea,l.Ad,em,s,BQ (Ab:k<9223372036854775807)];refine AM.next (_,k+1) rfl ⟨hlt,u++t,by rw[AJ],Az++[r],.mk,by rw[Au,As,d];simp;omega,λj h1 h2=>?_⟩ Dp;rw[<-AJ];rw[aSd];by_cases hj:j<Az.length;.rw[Gf hj];have:=o j hj (by rw[As];omega);rw[aSd] at this;exact this.Iq
   .have q:j=k:=by simp at h1;omega
    subst q;rw[qv Ab];simp only[d,C9,aEu];rw[<-ex];exact UY.low (lo:=(h++u).length) ⟨K,W,f,LL⟩ AK
  .rw[AD Ab] at c;simp only[abS,(Ab:¬(k:Int)<(ps.length:Int))];exact⟨_,rfl,u,rfl,c⟩
 obtain⟨r,h',hr,u,rfl,c⟩:=Jc.ret;exact⟨r,u,hr,c⟩
end
structure RN where
 x:EV
 kv:Aa
 av:Aa
 okk:D2 x.A8 kv
 oka:Bz x.AA av
def RN.row(p:RN):List Aa:=[I p.x.kind,I p.x.FM,p.kv,I p.x.CM,I p.x.A9,.str p.x.name,p.av,.str p.x.data,.str p.x.bk,.str p.x.sys,.bool p.x.CI,I p.x.cont,I p.x.Em]
def RN.z:RN:=⟨{},.slnil,.slnil,.inr ⟨rfl,rfl⟩,.inr ⟨rfl,rfl⟩⟩
def ot(l:List RN):∀r∈l.map RN.row,r.length=13:=Mf (f:=RN.row) (λ_=>rfl) l
structure RA(h:Ah)(a n i:Nat)(ps:List RN)(A:Ar):Prop where
 e:A.n=ps.map RN.x
 il:A.i.length=A.n.length
 ha:h[a]?=some (.cells [.CD n 0 (ps.length+1) 13,.CD i 0 (ps.length+1) 1])
 hn:h[n]?=some (.cells ((RN.z::ps).map RN.row).flatten)
 hi:h[i]?=some (.cells ((0::A.i).map (Aa.int .i64)))
 d:a≠n/\a≠i/\n≠i
def Ju(a n i:Nat):Nat->Prop:=λj=>j=a\/j=n\/j=i
def RW(h:Ah)(G:Nat->Prop)(a:Nat)(A:Ar):Prop:=∃n i ps,RA h a n i ps A/\G=Ju a n i
def pR(ps:List RN)(x:Int):RN:=(RN.z::ps).getD x.toNat RN.z
def nR(x:Int):Nat:=x.toNat*13
section
variable{h h':Ah}{a n i:Nat}{ps:List RN}{A:Ar}{x:Int}{G:Nat->Prop}
def RA.Dj(w:RA h a n i ps A)(hf:∀j,Ju a n i j->h'[j]?=h[j]?):RA h' a n i ps A:=
 ⟨w.e,w.il,by rw[hf a (.inl rfl)];exact w.ha,by rw[hf n (.inr (.inl rfl))];exact w.hn,by rw[hf i (.inr (.inr rfl))];exact w.hi,w.d⟩
def RA.lt(w:RA h a n i ps A){j:Nat}(hj:Ju a n i j):j<h.length:=by
 rcases hj with rfl|rfl|rfl
 .exact(Ak.1 w.ha).1
 .exact(Ak.1 w.hn).1
 .exact(Ak.1 w.hi).1
def RW.Dj(w:RW h G a A)(hf:∀j,G j->h'[j]?=h[j]?):RW h' G a A:=by obtain⟨n,i,ps,w,rfl⟩:=w;exact⟨n,i,ps,w.Dj hf,rfl⟩
def RW.lt(w:RW h G a A){j:Nat}(hj:G j):j<h.length:=by obtain⟨n,i,ps,w,rfl⟩:=w;exact w.lt hj
def RA.len(w:RA h a n i ps A):A.n.length=ps.length:=by rw[w.e,Al]
def RA.nodes(w:RA h a n i ps A):Bg h none (Pt a 0)=some (.CD n 0 (ps.length+1) 13):=by simp only[Bg,w.ha];rfl
def RA.XF(w:RA h a n i ps A):Bg h none (Pt a 1)=some (.CD i 0 (ps.length+1) 1):=by simp only[Bg,w.ha];rfl
def RA.at(w:RA h a n i ps A)(hx:A.has x):x.toNat<ps.length+1/\(x.toNat:Int)=x:=by have h1:=hx.1;have h2:=hx.2;rw[w.len] at h2;omega
def RA.pn(w:RA h a n i ps A)(hx:A.has x):(RN.z::ps)[x.toNat]?=some (pR ps x)/\(pR ps x).x=A.nd x:=by
 have h1:=(w.at hx).1;have h2:=hx.1;have hl:x.toNat<(RN.z::ps).length:=by simpa using h1
 refine⟨by unfold pR;rw[AL,Ai hl];rfl,?_⟩;unfold Ar.nd pR;rw[Ae hx,w.e];obtain⟨k,hk⟩:∃k,x.toNat=k+1:=⟨x.toNat-1,Ab⟩;rw[hk,aL3,Fb,AL,AL,Cn];have:k<ps.length:=Ab;rw[Ai this];rfl
def RA.Bt(w:RA h a n i ps A)(hx:A.has x){k:Nat}(hk:k<13):Bg h none (Pt n (nR x+k))=(pR ps x).row[k]?:=by unfold nR;simp only[Bg,w.hn,E8];exact Li (ot _) hk (by rw[Cn,(w.pn hx).1];rfl)
def RA.addr(w:RA h a n i ps A)(hx:A.has x):AB (.FC 13) [.CD n 0 (ps.length+1) 13,I x]=some (Pt n (nR x)):=by obtain⟨h1,h2⟩:=w.at hx;have:=E0 (k:= .i64) (id:=n) (z:=13) h1;rwa [h2] at this
def RA.f0(w:RA h a n i ps A)(hx:A.has x):Bg h none (Pt n (nR x))=some (I (A.nd x).kind):=by have:=w.Bt hx (k:=0) A5;rw[Bv] at this;rw[this,<-(w.pn hx).2];rfl
def RA.f1(w:RA h a n i ps A)(hx:A.has x):Bg h none (Pt n (nR x+1))=some (I (A.nd x).FM):=by rw[w.Bt hx A5,<-(w.pn hx).2];rfl
def RA.f2(w:RA h a n i ps A)(hx:A.has x):Bg h none (Pt n (nR x+2))=some (pR ps x).kv:=by rw[w.Bt hx A5];rfl
def RA.f3(w:RA h a n i ps A)(hx:A.has x):Bg h none (Pt n (nR x+3))=some (I (A.nd x).CM):=by rw[w.Bt hx A5,<-(w.pn hx).2];rfl
def RA.f4(w:RA h a n i ps A)(hx:A.has x):Bg h none (Pt n (nR x+4))=some (I (A.nd x).A9):=by rw[w.Bt hx A5,<-(w.pn hx).2];rfl
def RA.f5(w:RA h a n i ps A)(hx:A.has x):Bg h none (Pt n (nR x+5))=some (.str (A.nd x).name):=by rw[w.Bt hx A5,<-(w.pn hx).2];rfl
def RA.f6(w:RA h a n i ps A)(hx:A.has x):Bg h none (Pt n (nR x+6))=some (pR ps x).av:=by rw[w.Bt hx A5];rfl
def RA.f7(w:RA h a n i ps A)(hx:A.has x):Bg h none (Pt n (nR x+7))=some (.str (A.nd x).data):=by rw[w.Bt hx A5,<-(w.pn hx).2];rfl
def RA.ŝ(w:RA h a n i ps A)(hx:A.has x):Bg h none (Pt n (nR x+11))=some (I (A.nd x).cont):=by rw[w.Bt hx A5,<-(w.pn hx).2];rfl
def RA.f12(w:RA h a n i ps A)(hx:A.has x):Bg h none (Pt n (nR x+12))=some (I (A.nd x).Em):=by rw[w.Bt hx A5,<-(w.pn hx).2];rfl
def RA.MO(w:RA h a n i ps A)(hx:A.has x):D2 (A.nd x).A8 (pR ps x).kv:=by rw[<-(w.pn hx).2];exact(pR ps x).okk
def RA.mv(w:RA h a n i ps A)(hx:A.has x):Bz (A.nd x).AA (pR ps x).av:=by rw[<-(w.pn hx).2];exact(pR ps x).oka
def RA.wr(w:RA h a n i ps A)(hx:A.has x){k:Nat}(hk:k<13){v:Aa}(hv:v.cells=[v]){p:RN}(hp:p.row=(pR ps x).row.set k v):
  ∃h',Cw h 1 (Pt n (nR x+k)) v=some h'/\RA h' a n i (ps.set (x.toNat-1) p) (A.set x p.x)/\DE h (Ju a n i) h' (Ju a n i)/\h'.length=h.length:=by
 obtain⟨hlt,b⟩:=w.at hx;have h1:=hx.1;have hg:=(w.pn hx).1;have Sp:x.toNat<(RN.z::ps).length:=by simpa using hlt
 rw[Ai Sp,BE] at hg;have e:=NJ (Az:=(RN.z::ps).map RN.row) (i:=x.toNat) (k:=k) (v:=v) (ot _) (by simpa using hlt) hk;rw[CY,hg,<-hp,<-Eo] at e;have es:(RN.z::ps).set x.toNat p=RN.z::ps.set (x.toNat-1) p:=by obtain⟨j,hj⟩:∃j,x.toNat=j+1:=⟨x.toNat-1,Ab⟩;rw[hj,aQf,Fb]
 rw[es] at e;have OC:=w.lt (.inr (.inl rfl));refine⟨h.set n (.cells ((RN.z::ps.set (x.toNat-1) p).map RN.row).flatten),?_,⟨?_,?_,?_,AQ OC,?_,w.d⟩,⟨by rw[Br];exact Ag _,λj _ hn=>Ao λe=>hn (.inr (.inl e.symm)),λj hj=> .inl hj⟩,Br⟩;.unfold nR;simp only[Cw,w.hn,hv,Bp,Mz];rw[Ae (by rw[FT (ot _),Al];have:=DU 13 (show x.toNat+1<=(RN.z::ps).length from Sp);omega),e]
 .unfold Ar.set;simp only;rw[Ae hx,w.e,Eo]
 .unfold Ar.set;simp only;rw[Ae hx,Br];exact w.il
 .rw[Ao (DH w.d.1),Br];exact w.ha
 .rw[Ao w.d.2.2];exact w.hi
def HZ(w:RA h a n i ps A):BZ cx 281 [Pt a 0,I x] h (.bool (decide (A.has x))) h:=by
 have hl:=w.len;rw[Af,H_,aHR];by_cases h0:0<x
 .have e:decide (A.has x)=decide (x<((ps.length+1:Nat):Int)):=by rw[Dv];unfold Ar.has;omega
  rw[e];simp only[BJ,gC,h0,w.nodes,show AB (.len false) [.CD n 0 (ps.length+1) 13]=some (I ((ps.length+1:Nat):Int)) from rfl]
 .have e:decide (A.has x)=false:=by rw[AG];unfold Ar.has;omega
  rw[e];simp only[abS,h0]
def aKd(w:RA h a n i ps A):BZ cx 411 [Pt a 0,I x] h (I (A.nd x).FM) h:=by
 rw[Af,Ü,aIu];by_cases hx:A.has x;.simp only[abS,(HZ (x:=x) w).Ad,AI hx,w.nodes,w.addr hx,w.f1 hx]
 .rw[HF hx];simp only[abS,(HZ (x:=x) w).Ad,AG hx]
def ou(w:RA h a n i ps A)(hb:(A.nd x).A8.length<=1000000000):∃v,BZ cx 212 [Pt a 0,I x] h v h/\D2 (A.nd x).A8 v:=by
 have hm:AX=140737488355328:=rfl;by_cases hx:A.has x;.obtain⟨u,e,hu⟩:=AV.Gu (b:=8) (w.MO hx) Ab;refine⟨u,?_,hu⟩;rw[Af,sL,aCp];simp only[abS,(HZ (x:=x) w).Ad,AI hx,w.nodes,w.addr hx,w.f2 hx,e]
 .refine⟨.slnil,?_,by rw[HF hx];exact .inr ⟨rfl,rfl⟩⟩;rw[Af,sL,aCp];simp only[abS,(HZ (x:=x) w).Ad,AG hx]
def aKe(w:RA h a n i ps A)(hx:A.has x):BZ cx 418 [Pt a 0,I x] h (I (A.up x)) h:=by
 rw[Af,ß,aIw];by_cases hp:(A.nd x).FM=0
 .have e:A.up x=(A.nd x).Em:=by unfold Ar.up;rw[Ac (by simpa using hp)]
  simp only[abS,w.nodes,w.addr hx,w.f1 hx,hp,w.f12 hx,e,Ca,CE]
 .have e:A.up x=(A.nd x).FM:=by unfold Ar.up;rw[Ae (by simpa using hp)]
  simp only[abS,w.nodes,w.addr hx,w.f1 hx,hp,e,Ca]
end
def aKf{A:Ar}{e x:Int}(ok:EK A e)(hx:A.has x)(h0:A.up x≠0):A.has (A.up x):=by
 unfold Ar.up at h0⊢;split at h0;.rename_i h;rw[Ae h];exact(ok.FM x hx h).1
 .rename_i h;rw[Ac h];exact(ok.Em x hx h0).1
def af{A:Ar}{t x:Int}(hne:x≠t):Reach A t x↔A.up x≠0/\Reach A t (A.up x):=by
 constructor
 .intro h;cases h with
  |refl=>exact absurd rfl hne
  |step h1 h2=>exact⟨h1,h2⟩
 .exact λh=> .step h.1 h.2
section
variable{h h':Ah}{a n i:Nat}{ps:List RN}{A:Ar}{x:Int}{G:Nat->Prop}
open Classical in
def aKg{up e:Int}(w:RA h a n i ps A)(ok:EK A e)(hu:A.has up)(hx:A.has x):BZ cx 379 [Pt a 0,I up,I x] h (.bool (decide (Reach A up x))) h:=by
 obtain⟨r,hr⟩:=ok.bG;have d:up≠0:=by have:=hu.1;omega
 rw[Af,Ñ,aIo];simp only[abS,(HZ (x:=up) w).Ad,(HZ (x:=x) w).Ad,AI hu,AI hx];refine Bj (λc:Int=>[I c,ff]) (λc h1=>(c=0\/A.has c)/\(Reach A up x↔c≠0/\Reach A up c)/\h1=h) (λc=>if c=0 then 0 else r c+1) x rfl ⟨.inr hx,⟨λh=>⟨by have:=hx.1;omega,h⟩,λh=>h.2⟩,rfl⟩ ?_;rintro c h1 ⟨hc,he,rfl⟩;by_cases h0:c=0;.have e:decide (Reach A up x)=false:=AG (λf=>(he.1 f).1 h0);simp only[abS,h0,Ca,e]
 .have hc:=hc.resolve_left h0;by_cases b:c=up;.have e:decide (Reach A up x)=true:=AI (he.2 ⟨h0,by rw[b];exact .refl⟩);simp only[abS,h0,Ca,A0 b,e]
  .simp only[abS,h0,Ca,b,(aKe w hc).Ad];refine AM.next (A.up c) rfl ⟨?_,?_,rfl⟩ ?_
   .by_cases hz:A.up c=0;.exact .inl hz
    .exact .inr (aKf ok hc hz)
   .rw[he,af b];exact⟨λh=>h.2,λh=>⟨h0,h⟩⟩
   .by_cases hz:A.up c=0;.rw[Ae hz,Ac h0];omega
    .rw[Ac hz,Ac h0];have:=hr c hc hz;omega
def aKh{v:Aa}{l:List Int}(hv:D2 l v)(hb:l.length<=1000000000)(x:Int)(h:Ah):∃u,BZ cx 380 [v,I x] h u h/\D2 (l.filter λk=>decide (k≠x)) u:=by
 have hm:AX=140737488355328:=rfl;have Jc:Ev cx 380 [v,I x] h λr h'=>D2 (l.filter λk=>decide (k≠x)) r/\h'=h:=by
  unfold Ev;rw[Ò,aIp];refine Bj (λs:Aa×Nat=>[s.1,I (s.2:Int)]) (λs h1=>s.2<=l.length/\D2 ((l.take s.2).filter λk=>decide (k≠x)) s.1/\h1=h) (λs=>l.length-s.2) (.slnil,0) rfl ⟨AU _,.inr ⟨rfl,rfl⟩,rfl⟩ ?_;rintro⟨u,k⟩ h1 ⟨hk,hu,rfl⟩;simp only at hk hu;have hvl:=AV.CN hv;rcases AO k l.length with hlt|Ef
  .have c:=AV.BN (k:= .i64) hv hlt;rw[Cp] at c;have em:AB (.BI 1) [I l[k]]=some (.sl 1 [Cp l[k]]):=rfl;have Hn:((l.take k).filter λk=>decide (k≠x)).length<=l.length:=Bu (Vb _ _) (by rw[As];omega);have d:=AV.Ke (b:=8) (a:=l[k]) hu Ab;simp only[abS,hvl,(Ab:(k:Int)<(l.length:Int)),c,em,d,BQ (Ab:k<9223372036854775807),Ca];refine⟨λh2=>?_,λh2=>?_⟩
   .refine AM.next (_,k+1) rfl ⟨hlt,?_,rfl⟩ Dp;rw[Ay hlt,DW];have:[l[k]].filter (λk=>decide (k≠x))=[l[k]]:=by simp[h2]
    rw[this];exact .mk
   .refine AM.next (u,k+1) rfl ⟨hlt,?_,rfl⟩ Dp;rw[Ay hlt,DW];have h2:l[k]=x:=by simpa using h2
    have:[l[k]].filter (λk=>decide (k≠x))=[]:=by simp[h2]
    rw[this,BK];exact hu
  .rw[AD Ef] at hu;simp only[abS,hvl,(Ab:¬(k:Int)<(l.length:Int))];exact⟨_,rfl,hu⟩
 obtain⟨r,h',hr,hu,rfl⟩:=Jc.ret;exact⟨r,hr,hu⟩
def aKi(w:RA h a n i ps A)(hx:A.has x)(hb:∀y,(A.nd y).A8.length<=1000000000){e:Int}(ok:EK A e):∃h' Jt,BZ cx 278 [Pt a 0,I x] h (I 0) h'/\RA h' a n i Jt (A.cut x)/\DE h (Ju a n i) h' (Ju a n i):=by
 by_cases hp:(A.nd x).FM=0;.refine⟨h,ps,?_,by unfold Ar.cut;simp only;rw[Ae hp];exact w,.refl⟩;rw[Af,sV,aCy];simp only[abS,(HZ (x:=x) w).Ad,AI hx,w.nodes,w.addr hx,w.f1 hx,hp,Ca]
 .obtain⟨hq,_⟩:=ok.FM x hx hp;obtain⟨q,eq⟩:∃q,q=(A.nd x).FM:=⟨_,rfl⟩;rw[<-eq] at hp hq;obtain⟨u,m,hu⟩:=aKh (w.MO hq) (hb q) x h;obtain⟨h1,l,w1,f,l1⟩:=w.wr hq (k:=2) A5 (v:=u) (AV.cells hu) (p:=⟨{A.nd q with A8:=(A.nd q).A8.filter λk=>decide (k≠x)},u,(pR ps q).av,hu,w.mv hq⟩) (by simp only[RN.row];rw[(w.pn hq).2];rfl);have OR:(A.set q {A.nd q with A8:=(A.nd q).A8.filter λk=>decide (k≠x)}).has x:=Im.2 hx;have YC:=(w1.pn OR).2;obtain⟨h2,j,g,d,s⟩:=w1.wr OR (k:=1) A5 (v:=I 0) rfl (p:=⟨{(A.set q {A.nd q with A8:=(A.nd q).A8.filter λk=>decide (k≠x)}).nd x with FM:=0},(pR _ x).kv,(pR _ x).av,w1.MO OR,w1.mv OR⟩) (by simp only[RN.row];rw[YC];rfl);have o:A.cut x=(A.set q {A.nd q with A8:=(A.nd q).A8.filter λk=>decide (k≠x)}).set x {(A.set q {A.nd q with A8:=(A.nd q).A8.filter λk=>decide (k≠x)}).nd x with FM:=0}:=by unfold Ar.cut;simp only;rw[<-eq,Ac hp]
  refine⟨h2,_,?_,by rw[o];exact g,f.trans d⟩;have r:(A.nd x).FM=q:=eq.symm;have b:=w1.nodes;have c:=w1.addr OR;rw[Br] at b c;rw[Af,sV,aCy];simp only[abS,(HZ (x:=x) w).Ad,AI hx,w.nodes,w.addr hx,w.f1 hx,r,hp,Ca,w.addr hq,w.f2 hq,m.Ad,BO,l,b,j]
open Classical in
def aKj{p b e:Int}(w:RA h a n i ps A)(ok:EK A e):∃q:Int,BZ cx 277 [Pt a 0,I p,I x,I b] h (I q) h/\(q=0↔jl A p x b):=by
 by_cases hp:A.has p;rotate_left;.refine⟨3,?_,⟨λh=>absurd h A5,λf=>absurd f.hp hp⟩⟩;rw[Af,Ki,UQ];simp only[abS,(HZ (x:=p) w).Ad,AG hp,AZ]
 by_cases hx:A.has x;rotate_left;.refine⟨3,?_,⟨λh=>absurd h A5,λf=>absurd f.hn hx⟩⟩;rw[Af,Ki,UQ];simp only[abS,(HZ (x:=p) w).Ad,AI hp,(HZ (x:=x) w).Ad,AG hx,AZ]
 by_cases hb:b≠0/\¬A.has b;.refine⟨3,?_,⟨λh=>absurd h A5,λf=>absurd (f.hb hb.1).1 hb.2⟩⟩;rw[Af,Ki,UQ];simp only[abS,(HZ (x:=p) w).Ad,AI hp,(HZ (x:=x) w).Ad,AI hx,Ca,hb.1,(HZ (x:=b) w).Ad,AG hb.2,AZ]
 have m:b≠0->A.has b:=λh0=>by
  by_cases h1:A.has b;.exact h1
  .exact absurd ⟨h0,h1⟩ hb
 have first:∀(Q:HB) (k:Fp->List Aa->IT),W cx (k .normal [ff]) Q h->W cx (.Dz 200001 (.call 281 [Pt a 0,I p] λv0=> .op (.un .not) [v0] λs=> .AE s (.ret .normal [tt]) (.call 281 [Pt a 0,I x] λv2=> .op (.un .not) [v2] λv3=> .AE v3 (.ret .normal [tt]) (.op (.int .neq) [I b,I 0] λv4=> .AE v4 (.call 281 [Pt a 0,I b] λv5=> .op (.un .not) [v5] λr=> .ret .normal [r]) (.ret .normal [ff])))) k) Q h:=by
  intro Q k hk;by_cases h0:b=0;.simp only[abS,(HZ (x:=p) w).Ad,AI hp,(HZ (x:=x) w).Ad,AI hx,Ca,h0,AZ];exact hk
  .simp only[abS,(HZ (x:=p) w).Ad,AI hp,(HZ (x:=x) w).Ad,AI hx,Ca,h0,(HZ (x:=b) w).Ad,AI (m h0),AZ];exact hk
 by_cases kp:Ld (A.nd p).kind;rotate_left
 .refine⟨4,?_,⟨λh=>absurd h A5,λf=>absurd f.kp kp⟩⟩;unfold Ld at kp;have v:¬(A.nd p).kind=1:=λe=>kp (.inl e);have u:¬(A.nd p).kind=2:=λe=>kp (.inr (.inl e));have t:¬(A.nd p).kind=4:=λe=>kp (.inr (.inr e));rw[Af,Ki,UQ];refine first _ _ ?_
  simp only[abS,w.nodes,w.addr hp,w.f0 hp,w.addr hx,w.f0 hx,AZ,Ca,v,u,t]
 by_cases d:(A.nd x).kind=1
 .refine⟨4,?_,⟨λh=>absurd h A5,λf=>absurd d f.kn.1⟩⟩;rw[Af,Ki,UQ];refine first _ _ ?_
  rcases kp with kp|kp|kp<;>simp only[abS,w.nodes,w.addr hp,w.f0 hp,w.addr hx,w.f0 hx,AZ,Ca,(A5:¬(2:Int)=1),(A5:¬(4:Int)=1),(A5:¬(4:Int)=2),kp,d]
 by_cases c:(A.nd x).kind=2
 .refine⟨4,?_,⟨λh=>absurd h A5,λf=>absurd c f.kn.2⟩⟩;rw[Af,Ki,UQ];refine first _ _ ?_
  rcases kp with kp|kp|kp<;>simp only[abS,w.nodes,w.addr hp,w.f0 hp,w.addr hx,w.f0 hx,AZ,Ca,(A5:¬(2:Int)=1),(A5:¬(4:Int)=1),(A5:¬(4:Int)=2),kp,c]
 have j:=aKg w ok hx hp;by_cases re:Reach A x p
 .refine⟨4,?_,⟨λh=>absurd h A5,λf=>absurd re f.re⟩⟩;rw[AI re] at j;rw[Af,Ki,UQ];refine first _ _ ?_
  rcases kp with kp|kp|kp<;>simp only[abS,w.nodes,w.addr hp,w.f0 hp,w.addr hx,w.f0 hx,AZ,Ca,(A5:¬(2:Int)=1),(A5:¬(4:Int)=1),(A5:¬(4:Int)=2),kp,d,c,j.Ad]
 rw[AG re] at j;by_cases g:b=0
 .refine⟨0,?_,⟨λ_=>⟨hp,hx,λh=>absurd g h,kp,⟨d,c⟩,re⟩,λ_=>rfl⟩⟩;rw[Af,Ki,UQ];refine first _ _ ?_
  rcases kp with kp|kp|kp<;>simp only[abS,w.nodes,w.addr hp,w.f0 hp,w.addr hx,w.f0 hx,AZ,Ca,(A5:¬(2:Int)=1),(A5:¬(4:Int)=1),(A5:¬(4:Int)=2),kp,d,c,j.Ad,g]
 by_cases l:b=x
 .refine⟨5,?_,⟨λh=>absurd h A5,λf=>absurd l (f.hb g).2.1⟩⟩;rw[Af,Ki,UQ];refine first _ _ ?_
  have Nv:¬x=0:=by rw[<-l];exact g
  rcases kp with kp|kp|kp<;>simp only[abS,w.nodes,w.addr hp,w.f0 hp,w.addr hx,w.f0 hx,AZ,Ca,(A5:¬(2:Int)=1),(A5:¬(4:Int)=1),(A5:¬(4:Int)=2),kp,d,c,j.Ad,l,Nv]
 have PS:=m g;by_cases o:(A.nd b).FM=p
 .refine⟨0,?_,⟨λ_=>⟨hp,hx,λh=>⟨PS,l,o⟩,kp,⟨d,c⟩,re⟩,λ_=>rfl⟩⟩;rw[Af,Ki,UQ];refine first _ _ ?_
  rcases kp with kp|kp|kp<;>simp only[abS,w.nodes,w.addr hp,w.f0 hp,w.addr hx,w.f0 hx,AZ,Ca,(A5:¬(2:Int)=1),(A5:¬(4:Int)=1),(A5:¬(4:Int)=2),kp,d,c,j.Ad,g,l,w.addr PS,w.f1 PS,A0 o]
 .refine⟨5,?_,⟨λh=>absurd h A5,λf=>absurd (f.hb g).2.2 o⟩⟩;rw[Af,Ki,UQ];refine first _ _ ?_
  rcases kp with kp|kp|kp<;>simp only[abS,w.nodes,w.addr hp,w.f0 hp,w.addr hx,w.f0 hx,AZ,Ca,(A5:¬(2:Int)=1),(A5:¬(4:Int)=1),(A5:¬(4:Int)=2),kp,d,c,j.Ad,g,l,w.addr PS,w.f1 PS,o]
def Qj(b x:Int)(l:List Int):List Int:=l.flatMap λk=>if k=b then[x,k] else[k]
def Tz{b x:Int}:∀{l:List Int},b∉l->Qj b x l=l
 |[],_=>rfl
 |y::l,h=>by have h1:¬y=b:=λe=>h (by simp[e]);have h2:b∉l:=λe=>h (by simp[e]);have:=Tz (x:=x) h2;unfold Qj at this⊢;rw[Mw,Ac h1,this];rfl
def jE{b x:Int}:∀{l:List Int},l.Nodup->b∈l->Qj b x l=l.takeWhile (λk=>decide (k≠b))++x::l.dropWhile (λk=>decide (k≠b))
 |[],_,h=>by cases h
 |y::l,hn,h=>by
  rw[B8] at hn;by_cases h1:y=b;.subst h1;have:=Tz (x:=x) hn.1;unfold Qj at this⊢;rw[Mw,Ae rfl,this];simp
  .have h2:b∈l:=by rcases AS.1 h with h|h;exact absurd h.symm h1;exact h
   have:=jE (x:=x) hn.2 h2;unfold Qj at this⊢;rw[Mw,Ac h1,this,aL4,aL5];simp[h1]
def jF{b x:Int}{l:List Int}:(Qj b x l).length<=2*l.length:=by
 induction l with
 |nil=>simp[Qj]
 |cons y l ih=>unfold Qj at ih⊢;rw[Mw,Au,Be];split<;>simp only[Be,B1]<;>omega
def ag{b x y:Int}{l:List Int}:Qj b x (l++[y])=Qj b x l++if y=b then[x,y] else[y]:=by unfold Qj;rw[List.flatMap_append];simp
open Classical in
def aKk{p b e:Int}(w:RA h a n i ps A)(ok:EK A e)(hb:∀y,(A.nd y).A8.length<=900000000):∃q h' Jt,BZ cx 129 [Pt a 0,I p,I x,I b] h (I q) h'/\RA h' a n i Jt (A.FV p x b)/\DE h (Ju a n i) h' (Ju a n i):=by
 obtain⟨q,K,o⟩:=aKj (p:=p) (x:=x) (b:=b) w ok;by_cases hf:jl A p x b;rotate_left;.have h0:¬q=0:=λh=>hf (o.1 h);refine⟨q,h,ps,?_,by rw[On hf];exact w,.refl⟩;rw[Af,rA,aBQ];simp only[abS,K.Ad,Ca,h0]
 have h0:=o.2 hf;subst h0;obtain⟨h1,dU,r2,w1,E⟩:=aKi w hf.hn (λy=>Bu (hb y) A5) ok;have qk:((A.cut x).nd p).A8.Nodup/\(b≠0->b∈((A.cut x).nd p).A8)/\((A.cut x).nd p).A8.length<=900000000/\(0:Int)∉((A.cut x).nd p).A8/\(A.cut x).has p/\(A.cut x).has x:=by
  have U4:=mR ok hf.hn hf.kn.2;have QF:(A.cut x).has p:=KX.2 hf.hp;refine⟨(U4.Sd p QF).yS,λh0=>?_,?_,λh0=>?_,QF,KX.2 hf.hn⟩
  .obtain⟨b1,b2,b3⟩:=hf.hb h0;have np:((A.cut x).nd b).FM=p:=by rw[Ra ok hf.hn,Ac b2];split<;>exact b3
   have:=(U4.FM b (KX.2 b1) (by rw[np];have:=hf.hp.1;omega)).2;rwa [np] at this
  .have h1:=hb p;have h2:=hb x;rw[Ra ok hf.hn];split;.exact h2
   .split;.exact Bu (Vb _ _) h1
    .exact h1
  .have:=(U4.MO p QF 0 h0).1.1;omega
 obtain⟨qk,t,ç,hz,QF,OR⟩:=qk;generalize z:A.cut x=c at*;have Jc:Ev cx 129 [Pt a 0,I p,I x,I b] h λr h'=>r=I 0/\∃Jt,RA h' a n i Jt (A.FV p x b)/\DE h (Ju a n i) h' (Ju a n i):=by
  have hm:AX=140737488355328:=rfl;unfold Ev;rw[rA,aBQ];simp only[abS,K.Ad,Ca,r2.Ad];have Yb:=w1.MO QF;have lk:=AV.CN Yb;refine DS (i:=0) (λs:Aa×Nat=>[s.1,I (s.2:Int)]) (λs h2=>s.2<=(c.nd p).A8.length/\D2 (Qj b x ((c.nd p).A8.take s.2)) s.1/\h2=h1) (λs=>(c.nd p).A8.length-s.2) (λs h2=>D2 (Qj b x (c.nd p).A8) s.1/\h2=h1) (.slnil,0) rfl ⟨AU _,.inr ⟨rfl,rfl⟩,rfl⟩ ?_ ?_
  .rintro⟨u,k⟩ h2 ⟨hk,hu,rfl⟩;simp only at hk hu;rcases AO k (c.nd p).A8.length with hlt|Ef
   .have B:=AV.BN (k:= .i64) Yb hlt;rw[Cp] at B;have dP:=jF (b:=b) (x:=x) (l:=(c.nd p).A8.take k);rw[As] at dP;have f:AB (.BI 1) [I x]=some (.sl 1 [Cp x]):=rfl;have zP:AB (.BI 1) [I (c.nd p).A8[k]]=some (.sl 1 [Cp (c.nd p).A8[k]]):=rfl;have hs:=ag (b:=b) (x:=x) (y:=(c.nd p).A8[k]) (l:=(c.nd p).A8.take k);rw[<-Ay hlt] at hs;by_cases rj:(c.nd p).A8[k]=b;.have a1:=AV.Ke (b:=8) (a:=x) hu Ab;have OO:D2 (Qj b x ((c.nd p).A8.take k)++[x]) (.sl 1 ((Qj b x ((c.nd p).A8.take k)++[x]).map Cp)):= .mk;have a2:=AV.Ke (b:=8) (a:=(c.nd p).A8[k]) OO (by rw[Au,Bp];omega);rw[Ae rj,show[x,(c.nd p).A8[k]]=[x]++[(c.nd p).A8[k]] from rfl,<-AJ] at hs;simp only[abS,w1.nodes,w1.addr QF,w1.f2 QF,lk,(Ab:(k:Int)<((c.nd p).A8.length:Int)),B,A0 rj,f,a1,zP,a2,AZ,BQ (Ab:k<9223372036854775807)];exact .next (_,k+1) rfl ⟨hlt,by rw[hs];exact .mk,rfl⟩ Dp
    .have a2:=AV.Ke (b:=8) (a:=(c.nd p).A8[k]) hu Ab;rw[Ac rj] at hs;simp only[abS,w1.nodes,w1.addr QF,w1.f2 QF,lk,(Ab:(k:Int)<((c.nd p).A8.length:Int)),B,rj,zP,a2,AZ,BQ (Ab:k<9223372036854775807)];exact .next (_,k+1) rfl ⟨hlt,by rw[hs];exact .mk,rfl⟩ Dp
   .rw[AD Ef] at hu;simp only[abS,w1.nodes,w1.addr QF,w1.f2 QF,lk,(Ab:¬(k:Int)<((c.nd p).A8.length:Int))];exact .HC (u,k) rfl ⟨hu,rfl⟩
  .rintro⟨u,k⟩ h2 ⟨hu,rfl⟩;simp only at hu;obtain⟨m,Jj,hw⟩:∃m,D2 (I8 (c.nd p).A8 b x) m/\(b=0->AB (.append 1 8) [u,.sl 1 [Cp x]]=some m)/\(b≠0->m=u):=by
    have dP:=jF (b:=b) (x:=x) (l:=(c.nd p).A8);by_cases h0:b=0;.have a1:=AV.Ke (b:=8) (a:=x) hu Ab;refine⟨_,?_,λ_=>a1,λh=>absurd h0 h⟩;have e:Qj b x (c.nd p).A8=(c.nd p).A8:=Tz (by rw[h0];exact hz);rw[e];unfold I8;rw[Ae h0];exact .mk
    .refine⟨u,?_,λh=>absurd h h0,λ_=>rfl⟩;unfold I8;rw[Ac h0,<-jE qk (t h0)];exact hu
   obtain⟨O,J,j,D,_⟩:=w1.wr QF (k:=2) A5 (v:=m) (AV.cells Jj) (p:=⟨{c.nd p with A8:=I8 (c.nd p).A8 b x},m,(pR dU p).av,Jj,w1.mv QF⟩) (by simp only[RN.row];rw[(w1.pn QF).2];rfl);have í:(c.set p {c.nd p with A8:=I8 (c.nd p).A8 b x}).has x:=Im.2 OR;have YC:=(j.pn í).2;obtain⟨N,H,F,C,_⟩:=j.wr í (k:=1) A5 (v:= I p) rfl (p:=⟨{(c.set p {c.nd p with A8:=I8 (c.nd p).A8 b x}).nd x with FM:=p},(pR _ x).kv,(pR _ x).av,j.MO í,j.mv í⟩) (by simp only[RN.row];rw[YC];rfl);have L:A.FV p x b=(c.set p {c.nd p with A8:=I8 (c.nd p).A8 b x}).set x {(c.set p {c.nd p with A8:=I8 (c.nd p).A8 b x}).nd x with FM:=p}:=by unfold Ar.FV;rw[Ae hf,z];rfl
   have d:=j.nodes;have g:=j.addr í;rw[Br] at d g;have f:AB (.BI 1) [I x]=some (.sl 1 [Cp x]):=rfl;by_cases h0:b=0;.have a1:=hw.1 h0;simp only[abS,A0 h0,f,a1,AZ,w1.nodes,w1.addr QF,J,d,g,H];exact⟨_,rfl,rfl,_,by rw[L];exact F,(E.trans D).trans C⟩
   .have M:=hw.2 h0;subst M;simp only[abS,h0,AZ,w1.nodes,w1.addr QF,J,d,g,H];exact⟨_,rfl,rfl,_,by rw[L];exact F,(E.trans D).trans C⟩
 obtain⟨r,h',hr,rfl,Jt,w',x'⟩:=Jc.ret;exact⟨0,h',Jt,hr,w',x'⟩
def v8(s:Int):Ks cx 207 [I s] (.bool (decide (BS.HX s))):=by rw[M5,ya,aGY];by_cases h1:0<=s<;>by_cases h2:s<=7<;>simp[h1,h2,BS.HX]
def wA(w:RA h a n i ps A)(hl:A.len<=1000000000)(p:RN):∃h' n' o,BZ cx 164 [Pt a 0,.agg p.row] h (I (A.len+1)) h'/\RA h' a n' o (ps++[p]) (A.add p.x)/\DE h (Ju a n i) h' (Ju a n' o):=by
 have hm:AX=140737488355328:=rfl;have hlen:=w.len;have ZF:=w.il;have dP:ps.length<=1000000000:=by unfold Ar.len at hl;omega
 have g1:=JE (b:=168) (Az:=(RN.z::ps).map RN.row) (r2:=[p.row]) (v:= .sl 13 [p.row]) (ot _) A5 w.hn .mk AK Eg;have M:((RN.z::ps).map RN.row).length=ps.length+1:=AK;rw[M,Bp] at g1;have m:(h.set n .CT++[Dx.cells ((RN.z::ps).map RN.row++[p.row]).flatten]).length=h.length+1:=AK;have l:(h.set n .CT++[Dx.cells ((RN.z::ps).map RN.row++[p.row]).flatten])[h.length]?=some (.cells ((RN.z::(ps++[p])).map RN.row).flatten):=by rw[Bm AK];simp
 have Vi:=w.lt (.inl rfl);have aPz:=w.lt (.inr (.inr rfl));have OC:=w.lt (.inr (.inl rfl));have a1:(h.set n .CT++[Dx.cells ((RN.z::ps).map RN.row++[p.row]).flatten])[a]?=some (.cells [.CD n 0 (ps.length+1) 13,.CD i 0 (ps.length+1) 1]):=by rw[Aj (by simpa using Vi),Ao (DH w.d.1)];exact w.ha
 have i1:(h.set n .CT++[Dx.cells ((RN.z::ps).map RN.row++[p.row]).flatten])[i]?=some (.cells ((0::A.i).map (Aa.int .i64))):=by rw[Aj (by simpa using aPz),Ao w.d.2.2];exact w.hi
 have B:∀j,j<h.length->j≠n->(h.set n .CT++[Dx.cells ((RN.z::ps).map RN.row++[p.row]).flatten])[j]?=h[j]?:=λj hj hn=>by rw[Aj (by simpa using hj),Ao (DH hn)]
 generalize h.set n .CT++[Dx.cells ((RN.z::ps).map RN.row++[p.row]).flatten]=h1 at*;have q:At h1 a 0 _:=⟨_,a1,rfl⟩;have s:=q.store (u:= .CD h.length 0 (ps.length+1+1) 13) rfl;have a2:=Ia (k:=0) (v:= .CD h.length 0 (ps.length+1+1) 13) a1;have D:(put h1 a 0 (.CD h.length 0 (ps.length+1+1) 13))[h.length]?=_:=(Cm Ab).trans l;have H:(put h1 a 0 (.CD h.length 0 (ps.length+1+1) 13))[i]?=_:=(Cm (DH w.d.2.1)).trans i1;have y:∀j,j<h.length->j≠n->j≠a->(put h1 a 0 (.CD h.length 0 (ps.length+1+1) 13))[j]?=h[j]?:=λj hj hn ha=>(Cm ha).trans (B j hj hn);have g:(put h1 a 0 (.CD h.length 0 (ps.length+1+1) 13)).length=h.length+1:=by rw[Jy,m]
 generalize put h1 a 0 (.CD h.length 0 (ps.length+1+1) 13)=h2 at*;have F:Bg h2 none (Pt a 1)=some (.CD i 0 (ps.length+1) 1):=At.load ⟨_,a2,rfl⟩;have g2:=JE (b:=8) (h:=h2) (id:=i) (Az:=(0::A.i).map Cp) (r2:=[Cp 0]) (v:= .sl 1 [[I 0]]) (Mf (f:=Cp) (λ_=>rfl) _) A5 (by rw[NM];exact H) (.inl rfl) AK Eg;have L:((0::A.i).map Cp).length=ps.length+1:=Eg;rw[L,Bp,g] at g2;have aPA:a<h2.length:=Ab;have a3:(h2.set i .CT++[Dx.cells ((0::A.i).map Cp++[Cp 0]).flatten])[a]?=_:=((Aj (by simpa using aPA)).trans (Ao (DH w.d.2.1))).trans a2;have C:(h2.set i .CT++[Dx.cells ((0::A.i).map Cp++[Cp 0]).flatten])[h.length]?=_:=((Aj Eg).trans (Ao Ab)).trans D;have i3:(h2.set i .CT++[Dx.cells ((0::A.i).map Cp++[Cp 0]).flatten])[h.length+1]?=some (.cells ((0::(A.i++[0])).map (Aa.int .i64))):=by rw[Bm Eg];simp only[Br,g,C9,IK];rw[<-NM];simp
 have t:∀j,j<h.length->j≠n->j≠a->j≠i->(h2.set i .CT++[Dx.cells ((0::A.i).map Cp++[Cp 0]).flatten])[j]?=h[j]?:=λj hj hn ha hi=>((Aj Eg).trans (Ao (DH hi))).trans (y j hj hn ha)
 have K:(h2.set i .CT++[Dx.cells ((0::A.i).map Cp++[Cp 0]).flatten]).length=h.length+2:=Eg;generalize h2.set i .CT++[Dx.cells ((0::A.i).map Cp++[Cp 0]).flatten]=c at*;have t3:At c a 1 (.CD i 0 (ps.length+1) 1):=⟨_,a3,rfl⟩;have r:=t3.store (u:= .CD (h.length+1) 0 (ps.length+1+1) 1) rfl;have a4:=Ia (k:=1) (v:= .CD (h.length+1) 0 (ps.length+1+1) 1) a3;have l4:Bg (put c a 1 (.CD (h.length+1) 0 (ps.length+1+1) 1)) none (Pt a 0)=some (.CD h.length 0 (ps.length+1+1) 13):=At.load ⟨_,a4,rfl⟩;refine⟨put c a 1 (.CD (h.length+1) 0 (ps.length+1+1) 1),h.length,h.length+1,?_,⟨?_,?_,?_,?_,?_,?_⟩,⟨by rw[Jy];omega,λj hj hn=>?_,λj hj=>?_⟩⟩
 .have em:AB (.BI 13) [.agg p.row]=some (.sl 13 [p.row]):=rfl;have zP:AB (.BI 1) [I 0]=some (.sl 1 [[I 0]]):=rfl;have hd:=If (n:=ps.length+1+1) Ab Ab;have J:A.len+1=((ps.length+1+1 -1:Nat):Int):=by unfold Ar.len;omega
  have E:AB (.len false) [.CD h.length 0 (ps.length+1+1) 13]=some (I ((ps.length+1+1:Nat):Int)):=rfl;rw[RN.row] at em g1;rw[Af,xn,t164,RN.row,J];simp only[abS,w.nodes,em,g1,s,F,zP,g2,r,l4,E,hd]
 .unfold Ar.add;simp only;rw[w.e,BL];rfl
 .unfold Ar.add;simp only[Au,Bp];omega
 .rw[a4,Au];rfl
 .rw[Cm Ab];exact C
 .rw[Cm Ab];exact i3
 .exact⟨Ab,Ab,Ab⟩
 .have h1:j≠a:=λe=>hn (.inl e);have h2:j≠n:=λe=>hn (.inr (.inl e));have c:j≠i:=λe=>hn (.inr (.inr e));rw[Cm h1];exact t j hj h2 h1 c
 .rcases hj with rfl|rfl|rfl
  .exact .inl (.inl rfl)
  .exact .inr (Ag _)
  .exact .inr (Fj _)
def Ş{v:Aa}{l:List A6}(hv:Bz l v)(hb:l.length<=1000000000)(hs:∀y∈l,BS.HX y.A9)(h:Ah):BZ cx 312 [v] h (.bool true) h:=by
 rw[Af,Q_,aHZ];refine Bj (λk:Nat=>[ff,I (k:Int)]) (λk h1=>k<=l.length/\h1=h) (λk=>l.length-k) 0 rfl ⟨AU _,rfl⟩ ?_;rintro k h1 ⟨hk,rfl⟩;have hvl:=AV.CN hv;rcases AO k l.length with hlt|Ef
 .have b:=AV.BN (k:= .i64) hv hlt;rw[A6.row] at b;have c:∀{Q:HB} {h:Ah} {kk:Aa->IT},W cx (.Bk 207 [I l[k].A9] kk) Q h↔W cx (kk (.bool (decide (BS.HX l[k].A9)))) Q h:=(v8 _).Bk rfl rfl;simp only[abS,hvl,(Ab:(k:Int)<(l.length:Int)),b,c,AI (hs _ (AN hlt)),BQ (Ab:k<9223372036854775807)];exact AM.next (k+1) rfl ⟨hlt,rfl⟩ Ab
 .simp only[abS,hvl,(Ab:¬(k:Int)<(l.length:Int))]
def ş{v:Aa}{l:List A6}(hv:Bz l v)(hb:l.length<=1000000000)(h:Ah):∃u,BZ cx 313 [v] h u h/\Bz (Cx l) u:=by
 have hm:AX=140737488355328:=rfl;have hvl:=AV.CN hv;have Jc:Ev cx 313 [v] h λr h'=>Bz (Cx l) r/\h'=h:=by
  unfold Ev;rw[R_,aH0];refine Bj (λs:Aa×Nat=>[s.1,I (s.2:Int)]) (λs h1=>s.2<=l.length/\Bz (Cx (l.take s.2)) s.1/\h1=h) (λs=>l.length-s.2) (.slnil,0) rfl ⟨AU _,.inr ⟨rfl,rfl⟩,rfl⟩ ?_;rintro⟨u,k⟩ h1 ⟨hk,hu,rfl⟩;simp only at hk hu;rcases AO k l.length with hlt|Ef
  .have dQ:=AV.CN hu;have bd:=P3 (l:=l.take k);rw[As] at bd;have e:=AV.BN (k:= .i64) hv hlt;rw[A6.row] at e;simp only[abS,↓reduceIte,hvl,(Ab:(k:Int)<(l.length:Int))];refine DS (i:=2) (λj:Nat=>[.bool (((Cx (l.take k)).take j).any λz=>decide (Dw l[k]=Dw z)),I (j:Int)]) (λj h2=>j<=(Cx (l.take k)).length/\h2=h1) (λj=>(Cx (l.take k)).length-j) (λj h2=>j=(Cx (l.take k)).length/\h2=h1) 0 rfl ⟨AU _,rfl⟩ ?_ ?_
   .rintro j h2 ⟨hj,rfl⟩;rcases AO j (Cx (l.take k)).length with c|q
    .have o:=AV.BN (k:= .i64) hu c;rw[A6.row] at o;have es:((Cx (l.take k)).take (j+1)).any (λz=>decide (Dw l[k]=Dw z))=(((Cx (l.take k)).take j).any (λz=>decide (Dw l[k]=Dw z))||decide (Dw l[k]=Dw (Cx (l.take k))[j])):=by rw[Ay c,Uu];simp
     by_cases g:(Cx (l.take k))[j].A9=l[k].A9
     .by_cases p:(Cx (l.take k))[j].name=l[k].name
      .have d:decide (Dw l[k]=Dw (Cx (l.take k))[j])=true:=by simp[Dw,g,p]
       simp only[abS,dQ,(Ab:(j:Int)<((Cx (l.take k)).length:Int)),e,o,A0 g,AI p,BQ (Ab:j<9223372036854775807)];exact .next (j+1) (by rw[es,d,aEs]) ⟨c,rfl⟩ Ab
      .have d:decide (Dw l[k]=Dw (Cx (l.take k))[j])=false:=by simp[Dw];exact λ_ h=>p h.symm
       simp only[abS,dQ,(Ab:(j:Int)<((Cx (l.take k)).length:Int)),e,o,A0 g,AG p,BQ (Ab:j<9223372036854775807)];exact .next (j+1) (by rw[es,d,Lo]) ⟨c,rfl⟩ Ab
     .have d:decide (Dw l[k]=Dw (Cx (l.take k))[j])=false:=by simp[Dw];exact λh=>absurd h.symm g
      simp only[abS,dQ,(Ab:(j:Int)<((Cx (l.take k)).length:Int)),e,o,g,BQ (Ab:j<9223372036854775807)];exact .next (j+1) (by rw[es,d,Lo]) ⟨c,rfl⟩ Ab
    .simp only[abS,dQ,(Ab:¬(j:Int)<((Cx (l.take k)).length:Int))];exact .HC j rfl ⟨Ab,rfl⟩
   .rintro j h2 ⟨rfl,rfl⟩;have m:Cx (l.take (k+1))=if(Cx (l.take k)).any (λz=>decide (Dw l[k]=Dw z)) then Cx (l.take k) else Cx (l.take k)++[l[k]]:=by rw[Ay hlt];exact Qc
    have em:AB (.BI 3) [.agg [I l[k].A9,.str l[k].name,.str l[k].value]]=some (.sl 3 [[I l[k].A9,.str l[k].name,.str l[k].value]]):=rfl;have a1:=AV.Ke (f:=A6.row) (b:=40) (a:=l[k]) hu Ab;rw[A6.row] at a1;rw[By];cases hq:(Cx (l.take k)).any (λz=>decide (Dw l[k]=Dw z)) with
    |true=>rw[Ae hq] at m;simp only[abS,↓reduceIte,BQ (Ab:k<9223372036854775807)];exact AM.next (u,k+1) rfl ⟨hlt,by rw[m];exact hu,rfl⟩ Dp
    |false=>rw[Ac (by rw[hq];decide)] at m;simp only[abS,Nat.reduceLeDiff,↓reduceIte,e,em,a1,BQ (Ab:k<9223372036854775807)];exact AM.next (_,k+1) rfl ⟨hlt,by rw[m];exact .mk,rfl⟩ Dp
  .rw[AD Ef] at hu;simp only[abS,↓reduceIte,hvl,(Ab:¬(k:Int)<(l.length:Int))];exact⟨_,rfl,hu⟩
 obtain⟨r,h',hr,hu,rfl⟩:=Jc.ret;exact⟨r,hr,hu⟩
end
section
variable{h h':Ah}{a n i:Nat}{ps:List RN}{A:Ar}{x d:Int}{G:Nat->Prop}
def wB(w:RA h a n i ps A)(hd:A.has d)(hk:(A.nd d).kind=1):BZ cx 168 [Pt a 0,I d] h (I 0) h:=by rw[Af,xr,aGX];simp only[abS,(HZ (x:=d) w).Ad,AI hd,w.nodes,w.addr hd,w.f0 hd,hk,Ca]
def aKp(w:RA h a n i ps A)(hl:A.len<=1000000000)(hd:A.has d)(hk:(A.nd d).kind=1)(k:Int)(s:Aq):
  ∃h' n' c Jt,BZ cx 128 [Pt a 0,I d,.agg [I k,I 0,.slnil,I 0,I 0,S [],.slnil,.str s,S [],S [],ff,I 0,I 0]] h (.tuple [I (A.len+1),I 0]) h'/\RA h' a n' c Jt (A.add {kind:=k,CM:=d,data:=s})/\DE h (Ju a n i) h' (Ju a n' c):=by
 obtain⟨h1,f,i1,b,w1,e⟩:=wA w hl ⟨{kind:=k,CM:=d,data:=s},.slnil,.slnil,.inr ⟨rfl,rfl⟩,.inr ⟨rfl,rfl⟩⟩;refine⟨h1,f,i1,_,?_,w1,e⟩;rw[RN.row] at b;rw[Af,wq,aGL];simp only[abS,(wB w hd hk).Ad,b.Ad,Ca]
def aKq(w:RA h a n i ps A)(hl:A.len<=1000000000)(q:Bool):
  ∃h' n' c Jt,BZ cx 62 [Pt a 0,.bool q] h (I (A.len+1)) h'/\RA h' a n' c Jt (A.add {kind:=1,CM:=A.len+1,CI:=q})/\DE h (Ju a n i) h' (Ju a n' c):=by
 obtain⟨h1,g,i1,b,w1,f⟩:=wA w hl ⟨{kind:=1,CM:=A.len+1,CI:=q},.slnil,.slnil,.inr ⟨rfl,rfl⟩,.inr ⟨rfl,rfl⟩⟩;refine⟨h1,g,i1,_,?_,w1,f⟩;have hn:=w.len;have e:((ps.length+1:Nat):Int)=A.len+1:=by unfold Ar.len;omega
 have j:AB (.len false) [.CD n 0 (ps.length+1) 13]=some (I (A.len+1)):=by rw[<-e];rfl
 rw[RN.row] at b;rw[Af,aBB,t62];simp only[abS,Nat.reduceLeDiff,↓reduceIte,AR,w.nodes,j,b.Ad]
def RA.wC(w:RA h a n i ps A)(hx:A.has x):AB (.FC 1) [.CD i 0 (ps.length+1) 1,I x]=some (Pt i x.toNat):=by obtain⟨h1,h2⟩:=w.at hx;have:=E0 (k:= .i64) (id:=i) (z:=1) h1;rwa [h2,FF] at this
def RA.iat(w:RA h a n i ps A)(hx:A.has x):At h i x.toNat (I (A.inr x)):=by obtain⟨h1,h2⟩:=w.at hx;have b:=hx.1;have hl:=w.len;have ZF:=w.il;refine⟨_,w.hi,?_⟩;obtain⟨k,hk⟩:∃k,x.toNat=k+1:=⟨x.toNat-1,Ab⟩;rw[hk,Bs,LI,Cn];unfold Ar.inr;rw[Ae hx,hk,Fb,AL,Ai Ab];rfl
def RA.aKs(w:RA h a n i ps A)(hx:A.has x)(v:Int):RA (put h i x.toNat (I v)) a n i ps (A.IZ x v)/\DE h (Ju a n i) (put h i x.toNat (I v)) (Ju a n i):=by
 obtain⟨h1,h2⟩:=w.at hx;have b:=hx.1;refine⟨⟨w.e,?_,(Cm w.d.2.1).trans w.ha,(Cm w.d.2.2).trans w.hn,?_,w.d⟩,⟨by rw[Jy];exact Ag _,λj _ hn=>Cm λe=>hn (.inr (.inr e)),λj hj=> .inl hj⟩⟩;.unfold Ar.IZ;simp only;rw[Ae hx,Br];exact w.il
 .rw[Ia w.hi];obtain⟨k,hk⟩:∃k,x.toNat=k+1:=⟨x.toNat-1,Ab⟩;unfold Ar.IZ;simp only;rw[Ae hx,hk,Fb,Bs,aQf,Bs,Eo]
def aKt(w:RA h a n i ps A)(hl:A.len<=1000000000)(hd:A.has d):∃h' n' j Jt,BZ cx 315 [Pt a 0,I d] h (I (A.Fy d)) h'/\RA h' a n' j Jt (A.Dh d)/\DE h (Ju a n i) h' (Ju a n' j):=by
 by_cases h0:A.inr d=0;rotate_left
 .refine⟨h,n,i,ps,?_,by unfold Ar.Dh;rw[Ae h0];exact w,.refl⟩;have e:A.Fy d=A.inr d:=by unfold Ar.Fy;rw[Ae h0]
  rw[Af,tE,aCF,e];simp only[abS,w.XF,w.wC hd,(w.iat hd).load,h0]
 .obtain⟨h1,r,i1,dU,q,w1,m⟩:=aKq w hl false;have bH:(A.add {kind:=1,CM:=A.len+1,CI:=false}).has d:=DL.2 (.inl hd);have M2:(A.add {kind:=1,CM:=A.len+1,CI:=false}).has (A.len+1):=DL.2 (.inr rfl);obtain⟨b,l⟩:=w1.aKs bH (A.len+1);have SO:((A.add {kind:=1,CM:=A.len+1,CI:=false}).IZ d (A.len+1)).has (A.len+1):=M2;have g:(((A.add {kind:=1,CM:=A.len+1,CI:=false}).IZ d (A.len+1)).IZ (A.len+1) (A.len+1)).has d:=bH;obtain⟨c,k⟩:=b.aKs SO (A.len+1);have e:A.Fy d=A.len+1:=by unfold Ar.Fy;rw[Ac (by simpa using h0)]
  have t:A.Dh d=(((A.add {kind:=1,CM:=A.len+1,CI:=false}).IZ d (A.len+1)).IZ (A.len+1) (A.len+1)):=by unfold Ar.Dh;rw[Ac (by simpa using h0)]
  refine⟨_,r,i1,dU,?_,by rw[t];exact c,(m.trans l).trans k⟩;have s:(((A.add {kind:=1,CM:=A.len+1,CI:=false}).IZ d (A.len+1)).IZ (A.len+1) (A.len+1)).inr d=A.len+1:=by
   have f:(A.add {kind:=1,CM:=A.len+1,CI:=false}).i.length=(A.add {kind:=1,CM:=A.len+1,CI:=false}).n.length:=w1.il;rw[Ps b.il,Ps f];split;.rfl
   .rw[Ae ⟨rfl,bH⟩]
  have p:=(w1.iat bH).store (u:= I (A.len+1)) rfl;have o:=(b.iat SO).store (u:= I (A.len+1)) rfl;have ld:=(c.iat g).load;rw[s] at ld;rw[Af,tE,aCF,e];simp only[abS,w.XF,w.wC hd,(w.iat hd).load,h0,q.Ad,w1.XF,w1.wC bH,p,b.XF,b.wC SO,o,c.XF,ld]
def aKu{v:Aa}{l:List A6}(w:RA h a n i ps A)(hx:A.has x)(hk:(A.nd x).kind=4)(hv:Bz l v)(hb:l.length<=1000000000)(hs:∀y∈l,BS.HX y.A9):
  ∃h' Jt,BZ cx 226 [Pt a 0,I x,v] h (I 0) h'/\RA h' a n i Jt (A.Jo x l)/\DE h (Ju a n i) h' (Ju a n i):=by
 have e:=Ş hv hb hs h;obtain⟨u,r2,hu⟩:=ş hv hb h;obtain⟨h1,c,w1,b,_⟩:=w.wr hx (k:=6) A5 (v:=u) (AV.cells hu) (p:=⟨{A.nd x with AA:=Cx l},(pR ps x).kv,u,w.MO hx,hu⟩) (by simp only[RN.row];rw[(w.pn hx).2];rfl);refine⟨h1,_,?_,w1,b⟩;rw[Af,yp,aHd];simp only[abS,(HZ (x:=x) w).Ad,AI hx,w.nodes,w.addr hx,w.f0 hx,hk,Ca,e.Ad,r2.Ad,BO,c]
def aKv(p:RN)(h:Ah):BZ cx 314 [.agg p.row] h (.bool (decide (bE p.x))) h:=by rw[Af,S_,aH1,RN.row];simp only[BJ,bE];refine⟨λh1=>⟨λh2=>?_,λh2=>?_⟩,λh1=>?_⟩<;>simp[*]
def RA.Š(w:RA h a n i ps A)(hx:A.has x):Bg h (some 13) (Pt n (nR x))=some (.agg (pR ps x).row):=by
 obtain⟨h1,h2⟩:=w.at hx;have hlt:x.toNat<(RN.z::ps).length:=by simpa using h1
 have:=ZB (ot _) w.hn (i:=x.toNat) (by simpa using h1);rw[CY] at this;have e:=(w.pn hx).1;rw[Ai hlt,BE] at e;rw[e] at this;exact this
def š{v:Aa}{l:List A6}{sp:Int}{nm:Aq}(w:RA h a n i ps A)(hl:A.len+3<=1000000000)(hd:A.has d)(hk:(A.nd d).kind=1)(hs:BS.HX sp)(hv:Bz l v)(hb:l.length<=1000000000)(dx:∀y∈l,BS.HX y.A9):
  ∃h' n' B Jt,BZ cx 165 [Pt a 0,I d,I sp,.str nm,v] h (.tuple [I (A.len+1),I 0]) h'/\RA h' a n' B Jt (A.elem d sp nm l)/\DE h (Ju a n i) h' (Ju a n' B):=by
 have t:=Ş hv hb dx h;obtain⟨u,r2,hu⟩:=ş hv hb h;have f:u.cells=[u]:=AV.cells hu;obtain⟨h1,M,i1,j,w1,r⟩:=wA w Ab ⟨{kind:=4,CM:=d,A9:=sp,name:=nm,AA:=Cx l},.slnil,u,.inr ⟨rfl,rfl⟩,hu⟩;have z:∀{Q:HB} {h:Ah} {kk:Aa->IT},W cx (.Bk 207 [I sp] kk) Q h↔W cx (kk (.bool (decide (BS.HX sp)))) Q h:=(v8 _).Bk rfl rfl;have M2:(A.add {kind:=4,CM:=d,A9:=sp,name:=nm,AA:=Cx l}).has (A.len+1):=DL.2 (.inr rfl);have bH:(A.add {kind:=4,CM:=d,A9:=sp,name:=nm,AA:=Cx l}).has d:=DL.2 (.inl hd);have Vr:(A.add {kind:=4,CM:=d,A9:=sp,name:=nm,AA:=Cx l}).len=A.len+1:=by unfold Ar.add Ar.len;simp
 have e:=aKv (pR (ps++[⟨{kind:=4,CM:=d,A9:=sp,name:=nm,AA:=Cx l},.slnil,u,.inr ⟨rfl,rfl⟩,hu⟩]) (A.len+1)) h1;rw[(w1.pn M2).2,IC,Ae rfl] at e;have ld:=w1.Š M2;rw[RN.row] at j;unfold Ar.elem;simp only
 by_cases g:bE {kind:=4,CM:=d,A9:=sp,name:=nm,AA:=Cx l};rotate_left;.rw[Ac g];rw[AG g] at e;refine⟨h1,M,i1,_,?_,w1,r⟩;rw[Af,rF,aBU];simp only[abS,Nat.reduceLeDiff,↓reduceIte,AR,(wB w hd hk).Ad,Ca,z,AI hs,t.Ad,r2.Ad,f,j.Ad,w1.nodes,w1.addr M2,ld,e.Ad]
 .rw[Ae g];rw[AI g] at e;generalize o:A.add {kind:=4,CM:=d,A9:=sp,name:=nm,AA:=Cx l}=b at*;generalize ps++[(⟨{kind:=4,CM:=d,A9:=sp,name:=nm,AA:=Cx l},.slnil,u,.inr ⟨rfl,rfl⟩,hu⟩:RN)]=dU at*;obtain⟨h2,O,P,nQ,K,H,E⟩:=aKt w1 Ab bH;have Y8:(b.Dh d).len<=A.len+2:=by
   unfold Ar.Dh;split;.omega
   .rw[Sb,Sb];have:(b.add {kind:=1,CM:=b.len+1}).len=b.len+1:=by unfold Ar.add Ar.len;simp
    omega
  have SO:(b.Dh d).has (A.len+1):=by
   unfold Ar.Dh;split;.exact M2
   .rw[NC,NC];exact DL.2 (.inl M2)
  obtain⟨R,L,i3,s,c,D⟩:=wA H Ab ⟨{kind:=2,Em:=A.len+1,CM:=b.Fy d},.slnil,.slnil,.inr ⟨rfl,rfl⟩,.inr ⟨rfl,rfl⟩⟩;have ō:((b.Dh d).add {kind:=2,Em:=A.len+1,CM:=b.Fy d}).has (A.len+1):=DL.2 (.inl SO);have aEb:((b.Dh d).add {kind:=2,Em:=A.len+1,CM:=b.Fy d}).nd (A.len+1)={kind:=4,CM:=d,A9:=sp,name:=nm,AA:=Cx l}:=by
   have En:=SO.2;rw[IC,Ac (by unfold Ar.len at En⊢;omega)];have h0:b.nd (A.len+1)={kind:=4,CM:=d,A9:=sp,name:=nm,AA:=Cx l}:=by rw[<-o,IC,Ae rfl]
   unfold Ar.Dh;split;.exact h0
   .rw[Sc,Sc,IC,Ac Ab];exact h0
  have YC:=(c.pn ō).2;rw[aEb] at YC;obtain⟨N,J,F,C,_⟩:=c.wr ō (k:=11) A5 (v:= I ((b.Dh d).len+1)) rfl (p:=⟨{kind:=4,CM:=d,A9:=sp,name:=nm,AA:=Cx l,cont:=(b.Dh d).len+1},(pR _ (A.len+1)).kv,(pR _ (A.len+1)).av,by have:=c.MO ō;rw[aEb] at this;exact this,by have:=c.mv ō;rw[aEb] at this;exact this⟩) (by simp only[RN.row];rw[YC];rfl);refine⟨N,L,i3,_,?_,F,((r.trans E).trans D).trans C⟩;rw[RN.row] at s;have m:=c.nodes;have q:=c.addr ō;rw[Af,rF,aBU];simp only[abS,Nat.reduceLeDiff,↓reduceIte,AR,(wB w hd hk).Ad,Ca,z,AI hs,t.Ad,r2.Ad,f,j.Ad,w1.nodes,w1.addr M2,ld,e.Ad,K.Ad,s.Ad,m,q,J]
end
structure RX(h:Ah)(bi a:Nat)(o c t:Aa)(G:Nat->Prop)(b:BS):Prop where
 hb:h[bi]?=some (.cells (Je a b o c t))
 o:B4 b.AY o
 t:D2 b.tm t
 w:RW h G a b.a
 nb:¬G bi
section
variable{h h':Ah}{bi a:Nat}{o c t:Aa}{G G' F:Nat->Prop}{b:BS}{x:Int}{m:Nat}
def RX.lt(w:RX h bi a o c t G b):bi<h.length:=(Ak.1 w.hb).1
def RX.Dj{h':Ah}(w:RX h bi a o c t G b)(hf:∀i,i=bi\/G i->h'[i]?=h[i]?):RX h' bi a o c t G b:=
 ⟨by rw[hf bi (.inl rfl)];exact w.hb,w.o,w.t,w.w.Dj λi hi=>hf i (.inr hi),w.nb⟩
def RX.Iq(w:RX h bi a o c t G b){u:Ah}:RX (h++u) bi a o c t G b:=w.Dj λi hi=>Aj (by rcases hi with rfl|hi;exact w.lt;exact w.w.lt hi)
def RX.ld(w:RX h bi a o c t G b)(k:Nat):Bg h none (Pt bi k)=(Je a b o c t)[k]?:=by simp only[Bg,w.hb,E8]
def RX.l0(w:RX h bi a o c t G b):Bg h none (Pt bi 0)=some (Pt a 0):=w.ld 0
def RX.l1(w:RX h bi a o c t G b):Bg h none (Pt bi 1)=some (I b.CM):=w.ld 1
def RX.l4(w:RX h bi a o c t G b):Bg h none (Pt bi 4)=some (I b.mode):=w.ld 4
def RX.l7(w:RX h bi a o c t G b):Bg h none (Pt bi 7)=some (I b.head):=w.ld 7
def RX.l9(w:RX h bi a o c t G b):Bg h none (Pt bi 9)=some (.bool b.LS):=w.ld 9
def RX.qp(w:RX h bi a o c t G b):Bg h none (Pt bi 15)=some (.bool b.EW):=w.ld 15
def RX.l3(w:RX h bi a o c t G b):Bg h none (Pt bi 3)=some c:=w.ld 3
def RX.l6(w:RX h bi a o c t G b):Bg h none (Pt bi 6)=some t:=w.ld 6
def RX.vP(w:RX h bi a o c t G b):At h bi 3 c:=⟨_,w.hb,rfl⟩
def RX.vQ{A':Ar}(w:RX h bi a o c t G b)(hp:RW h' G' a A')(x:DE h G h' G'):RX h' bi a o c t G' {b with a:=A'}/\DE h (Bw bi G) h' (Bw bi G'):=
 ⟨⟨by rw[x.old bi w.lt w.nb];exact w.hb,w.o,w.t,hp,λhg=>by rcases x.Bw bi hg with h|h;exact w.nb h;have:=w.lt;omega⟩,x.ő⟩
def RX.C7(w:RX h bi a o c t G b){u:Ah}:DE h (Bw bi G) (h++u) (Bw bi G):= .Iq
def RX.put{k:Nat}{v o' c' t':Aa}{b':BS}(w:RX h bi a o c t G b)(e:(Je a b o c t).set k v=Je a b' o' c' t')(ea:b'.a=b.a)(ho:B4 b'.AY o')(ht:D2 b'.tm t'):RX (Am.put h bi k v) bi a o' c' t' G b':=
 ⟨by rw[Ig w.hb,e];exact AQ w.lt,ho,ht,by rw[ea];exact w.w.Dj λi hi=>Cm λe=>w.nb (e▸hi),w.nb⟩
def RX.IH{u:Aa}{l:List Item}(w:RX h bi a o c t G b)(hu:B4 l u):RX (Am.put h bi 2 u) bi a u c t G {b with AY:=l}:=w.put rfl rfl hu w.t
def RX.Lj{u:Aa}{l:List Cu}(w:RX h bi a o c t G b):RX (Am.put h bi 3 u) bi a o u t G {b with Bb:=l}:=w.put rfl rfl w.o w.t
def RX.st{k:Nat}{v v0:Aa}(w:RX h bi a o c t G b)(hk:(Je a b o c t)[k]?=some v0)(hv:v.cells=[v]):Cw h 1 (Pt bi k) v=some (Am.put h bi k v):=At.store (v:=v0) ⟨_,w.hb,hk⟩ hv
def RX.ò(w:RX h bi a o c t G b):Bg h (some 4) (Pt bi 10)=some (.agg b.ctx.row):=by simp only[Bg,w.hb];rfl
def RX.iV(w:RX h bi a o c t G b)(v:Int):RX (Am.put h bi 4 (I v)) bi a o c t G {b with mode:=v}:=w.put rfl rfl w.o w.t
def RX.nY{u:Aa}{l:List Int}(w:RX h bi a o c t G b)(hu:D2 l u):RX (Am.put h bi 6 u) bi a o c u G {b with tm:=l}:=w.put rfl rfl w.o hu
def RX.step{A':Ar}{R:Ah->Prop}(w:RX h bi a o c t G b)(f:∀n i ps,RA h a n i ps b.a->∃h' n' d Jt,R h'/\RA h' a n' d Jt A'/\DE h (Ju a n i) h' (Ju a n' d)):
  ∃h' G',R h'/\RX h' bi a o c t G' {b with a:=A'}/\DE h (Bw bi G) h' (Bw bi G'):=by
 obtain⟨n,i,ps,j,e⟩:=w.w;obtain⟨h',n',d,Jt,r,w',x⟩:=f n i ps j;obtain⟨k,g⟩:=w.vQ (G':=Ju a n' d) ⟨n',d,Jt,w',rfl⟩ (by rw[e];exact x);exact⟨h',_,r,k,g⟩
def Ms(w:RX h bi a o c t G b)(x:Int):BZ cx 209 [Pt bi 0,I x] h (I (b.a.nd x).kind) h:=by
 obtain⟨n,i,ps,d,e⟩:=w.w;rw[Af,yc,aG0];by_cases hx:b.a.has x;.simp only[abS,w.l0,(HZ (x:=x) d).Ad,AI hx,d.nodes,d.addr hx,d.f0 hx]
 .rw[HF hx];simp only[abS,w.l0,(HZ (x:=x) d).Ad,AG hx]
def wD(w:RX h bi a o c t G b)(x:Int):BZ cx 214 [Pt bi 0,I x] h (I (if b.a.has x then(b.a.nd x).CM else b.CM)) h:=by
 obtain⟨n,i,ps,d,e⟩:=w.w;rw[Af,yg,aG4];by_cases hx:b.a.has x;.rw[Ae hx];simp only[abS,w.l0,(HZ (x:=x) d).Ad,AI hx,d.nodes,d.addr hx,d.f3 hx]
 .rw[Ac hx];simp only[abS,w.l0,(HZ (x:=x) d).Ad,AG hx,w.l1]
def Ţ(w:RX h bi a o c t G b)(x:Int)(ws:Aq)(hw:ws.length<9223372036854775806)(hn:(b.a.nd x).name.length<9223372036854775807):BZ cx 232 [Pt bi 0,I x,.str ws] h (.bool (decide ((b.a.nd x).kind=4/\(b.a.nd x).A9=1)&&Gt ws (b.a.nd x).name)) h:=by
 obtain⟨n,i,ps,d,e⟩:=w.w;rw[Af,yw,aHj];by_cases hk:(b.a.nd x).kind=4
 .have hx:b.a.has x:=by
   by_cases hp:b.a.has x;.exact hp
   .rw[HF hp] at hk;simp at hk
  have r2:∀{Q:HB} {h:Ah} {kk:Aa->IT},W cx (.Bk 139 [.str ws,.str (b.a.nd x).name] kk) Q h↔W cx (kk (.bool (Gt ws (b.a.nd x).name))) Q h:=(aIB ws _ hw hn).Bk rfl rfl;by_cases hs:(b.a.nd x).A9=1;.simp only[abS,(Ms w x).Ad,A0 hk,w.l0,d.nodes,d.addr hx,d.f4 hx,A0 hs,d.f5 hx,r2,Jd]
  .simp only[abS,(Ms w x).Ad,A0 hk,w.l0,d.nodes,d.addr hx,d.f4 hx,hs,Jd]
 .simp only[abS,(Ms w x).Ad,hk,Jd]
def RX.dE(w:RX h bi a o c t G b)(ok:BA b)(rm:B9 b m)(p x bf:Int):∃d h' G',BZ cx 129 [Pt a 0,I p,I x,I bf] h (I d) h'/\RX h' bi a o c t G' {b with a:=b.a.FV p x bf}/\DE h (Bw bi G) h' (Bw bi G'):=by
 have hk:∀y,(b.a.nd y).A8.length<=900000000:=λy=>Bu (XH ok.ok y) (by have:=rm.n;omega);obtain⟨h',G',⟨d,r⟩,w',x'⟩:=w.step (A':=b.a.FV p x bf) (R:=λh'=>∃d:Int,BZ cx 129 [Pt a 0,I p,I x,I bf] h (I d) h') λn i ps e=>by obtain⟨d,h',Jt,r,w',x'⟩:=aKk (p:=p) (x:=x) (b:=bf) e ok.ok hk;exact⟨h',n,i,Jt,⟨d,r⟩,w',x'⟩
 exact⟨d,h',G',r,w',x'⟩
def RX.self(w:RX h bi a o c t G b){A':Ar}(e:A'=b.a):RX h bi a o c t G {b with a:=A'}:=by subst e;exact w
def wE(w:RX h bi a o c t G b)(ok:BA b)(rm:B9 b m)(p x bf:Int):∃h' G',BZ cx 166 [Pt bi 0,I p,I x,I bf] h (.tuple []) h'/\RX h' bi a o c t G' {b with a:=b.a.Ey x p bf}/\DE h (Bw bi G) h' (Bw bi G'):=by
 obtain⟨s,h1,l,g,w1,f⟩:=w.dE ok rm p x bf;by_cases hp:(b.a.nd p).kind=1;rotate_left
 .have e:b.a.Ey x p bf=b.a.FV p x bf:=by unfold Ar.Ey;rw[Ac λh=>hp h.1]
  refine⟨h1,l,?_,by rw[e];exact w1,f⟩;rw[Af,bW,xo];simp only[abS,(Ms w p).Ad,hp,w.l0,g.Ad]
 by_cases hx:(b.a.nd x).kind=4;rotate_left
 .have e:b.a.Ey x p bf=b.a.FV p x bf:=by unfold Ar.Ey;rw[Ac λh=>hx h.2.1]
  refine⟨h1,l,?_,by rw[e];exact w1,f⟩;rw[Af,bW,xo];simp only[abS,(Ms w p).Ad,A0 hp,(Ms w x).Ad,hx,w.l0,g.Ad]
 have PQ:(b.a.nd p).A8.length<=1000000000:=Bu (XH ok.ok p) (by have:=rm.n;omega);obtain⟨kv,r2,vO⟩:∃v,BZ cx 212 [Pt a 0,I p] h v h/\D2 (b.a.nd p).A8 v:=by obtain⟨n,i,ps,q,_⟩:=w.w;exact ou q PQ
 have Jc:Ev cx 166 [Pt bi 0,I p,I x,I bf] h λr h'=>r= .tuple []/\∃G',RX h' bi a o c t G' {b with a:=b.a.Ey x p bf}/\DE h (Bw bi G) h' (Bw bi G'):=by
  unfold Ev;have hvl:=AV.CN vO;rw[bW,xo];simp only[abS,(Ms w p).Ad,A0 hp,(Ms w x).Ad,A0 hx,w.l0,r2.Ad];refine Bj (λk:Nat=>[I (k:Int)]) (λk h1=>k<=(b.a.nd p).A8.length/\(∀y∈(b.a.nd p).A8.take k,¬(b.a.nd y).kind=4)/\h1=h) (λk=>(b.a.nd p).A8.length-k) 0 rfl ⟨AU _,λy hy=>by simp at hy,rfl⟩ ?_;rintro k h2 ⟨hk,ha,rfl⟩;rcases AO k (b.a.nd p).A8.length with hlt|Ef
  .have j:=AV.BN (k:= .i64) vO hlt;rw[Cp] at j;by_cases d:(b.a.nd (b.a.nd p).A8[k]).kind=4
   .have e:b.a.Ey x p bf=b.a:=by unfold Ar.Ey;rw[Ae ⟨hp,hx,_,AN hlt,d⟩]
    simp only[abS,hvl,(Ab:(k:Int)<((b.a.nd p).A8.length:Int)),j,(Ms w _).Ad,A0 d];exact⟨_,rfl,rfl,G,w.self e,.refl⟩
   .simp only[abS,hvl,(Ab:(k:Int)<((b.a.nd p).A8.length:Int)),j,(Ms w _).Ad,d,BQ (Ab:k<9223372036854775807)];refine AM.next (k+1) rfl ⟨hlt,λy hy=>?_,rfl⟩ Ab;rw[Ay hlt] at hy;rcases Av.1 hy with hy|hy
    .exact ha y hy
    .rw[DA] at hy;rw[hy];exact d
  .rw[AD Ef] at ha;have e:b.a.Ey x p bf=b.a.FV p x bf:=by unfold Ar.Ey;rw[Ac λh=>by obtain⟨_,_,y,hy,d⟩:=h;exact ha y hy d]
   simp only[abS,hvl,(Ab:¬(k:Int)<((b.a.nd p).A8.length:Int)),w.l0,g.Ad];exact⟨_,rfl,rfl,l,by rw[e];exact w1,f⟩
 obtain⟨r,h',hr,rfl,G',w',x'⟩:=Jc.ret;exact⟨h',G',hr,w',x'⟩
def aKw{v:Aa}{l:List Int}(hv:D2 l v)(hb:l.length<=1000000000)(x:Int)(h:Ah):BZ cx 213 [v,I x] h (I (Co (λy=>decide (x=y)) 0 l)) h:=by
 rw[Af,yf,aG3];have hvl:=AV.CN hv;refine Bj (λk:Nat=>[I 0,I (k:Int)]) (λk h1=>k<=l.length/\Co (λy=>decide (x=y)) 0 l=Co (λy=>decide (x=y)) k (l.drop k)/\h1=h) (λk=>l.length-k) 0 rfl ⟨AU _,rfl,rfl⟩ ?_;rintro k h1 ⟨hk,ha,rfl⟩;rcases AO k l.length with hlt|Ef
 .have d:=AV.BN (k:= .i64) hv hlt;rw[Cp] at d;rw[AF hlt,Co] at ha;simp only[abS,hvl,(Ab:(k:Int)<(l.length:Int)),d,BQ (Ab:k<9223372036854775807)];refine⟨λh2=>?_,λh2=>?_⟩;.rw[ha,Ae (by simp[h2])]
  .rw[Ac (by simpa using λe=>h2 e.symm)] at ha;exact AM.next (k+1) rfl ⟨hlt,ha,rfl⟩ Ab
 .rw[AW Ef,Co] at ha;simp only[abS,hvl,(Ab:¬(k:Int)<(l.length:Int)),ha]
def ov(w:RX h bi a o c t G b)(x:Int):BZ cx 411 [Pt a 0,I x] h (I (b.a.nd x).FM) h:=by obtain⟨n,i,ps,d,_⟩:=w.w;exact aKd d
def oz(w:RX h bi a o c t G b)(rm:B9 b m):BZ cx 221 [Pt bi 0] h (.agg (Fx b.AY).row) h:=by have ho:=rm.AY;have ld:Bg h none (Pt bi 2)=some o:=w.ld 2;rw[Af,ym,aHa];simp only[BJ,Fc,ld,(aNV w.o Ab).Ad]
def aKx(w:RX h bi a o c t G b)(rm:B9 b m):BZ cx 348 [Pt bi 0] h (.tuple [I b.J3.1,I b.J3.2]) h:=by
 have hl:=rm.AY;have ld:Bg h none (Pt bi 2)=some o:=w.ld 2;have f:=aDC (h:=h) w.o Ab E9;have r2:=aDC (h:=h) w.o Ab Bd;have b1:=KJ (q:=BD [E9]) (l:=b.AY);have b2:=KJ (q:=BD [Bd]) (l:=b.AY);have at_:∀k:Nat,k<b.AY.length->AB (.FC 4) [o,I (k:Int)]=some (.Cq [I (Ht b.AY k).node,I (Ht b.AY k).A9,.str (Ht b.AY k).name,.bool (Ht b.AY k).OH]):=λk hk=>by have:=AV.BN (k:= .i64) w.o hk;rw[H9 hk,this];rfl
 unfold BS.J3;simp only
 generalize AP (BD [E9]) b.AY=i at f b1⊢;generalize AP (BD [Bd]) b.AY=d at r2 b2⊢;rw[Af,V_,aH3];by_cases h1:i<d;.obtain⟨k,rfl⟩:∃k:Nat,d=(k:Int):=⟨d.toNat,Ab⟩;rw[Ae h1];simp only[abS,ld,r2.Ad,BO,f.Ad,(Ab:(0:Int)<=(k:Int)),h1,AZ,at_ k Ab,Jd]
 .rw[Ac h1];by_cases h2:i<0;.rw[Ae h2];by_cases h0:(0:Int)<=d<;>simp only[abS,Fc,r2.Ad,BO,f.Ad,h0,h1,AZ,Jd,h2,ld,(aIL (h:=h) w.o 0).Ad]
  .obtain⟨k,rfl⟩:∃k:Nat,i=(k:Int):=⟨i.toNat,Ab⟩;rw[Ac h2];by_cases g:(b.a.nd (Ht b.AY k).node).FM=0
   .rw[Ac (by simpa using g)];by_cases j:k=0
    .have e:max ((k:Int)-1) 0=(k:Int):=by omega
     by_cases h0:(0:Int)<=d<;>simp only[abS,Fc,r2.Ad,BO,f.Ad,h0,h1,AZ,Jd,(Ab:¬(k:Int)<0),ld,at_ k Ab,w.l0,(ov w _).Ad,g,Ca,A0 (Ab:(k:Int)=0),e]
    .have hd:=If (n:=k) Ab Ab;have e:max ((k:Int)-1) 0=((k-1:Nat):Int):=Ab;by_cases h0:(0:Int)<=d<;>simp only[abS,Fc,r2.Ad,BO,f.Ad,h0,h1,AZ,Jd,(Ab:¬(k:Int)<0),ld,at_ k Ab,w.l0,(ov w _).Ad,g,Ca,(Ab:¬(k:Int)=0),hd,at_ (k-1) Ab,e]
   .rw[Ae g];by_cases h0:(0:Int)<=d<;>simp only[abS,Fc,r2.Ad,BO,f.Ad,h0,h1,AZ,Jd,h2,ld,at_ k Ab,w.l0,(ov w _).Ad,g,Ca]
end
def o_{s:Aq}:Gt aWi s=decide (s∈HI):=El GB GB
def ą{s:Aq}:Gt aWb s=decide (s∈[Bd]):=El GB GB
def ZK{A:Ar}{y:Int}{ws:List Aq}{q:Bool}(hq:q=decide ((A.nd y).name∈ws)):(decide ((A.nd y).kind=4/\(A.nd y).A9=1)&&q)=decide (Se ws A y):=by subst hq;rw[<-Bool.decide_and];rw[Dv];unfold Se;exact⟨λh=>⟨h.1.1,h.1.2,h.2⟩,λh=>⟨⟨h.1,h.2.1⟩,h.2.2⟩⟩
def Ln{A:Ar}(ok:EK A 0)(y:Int):(A.nd y).cont≠0↔Se [Bd] A y:=by
 by_cases hy:A.has y
 .constructor;.intro h;have:=(ok.Sd y hy).Ug h;exact⟨this.1,this.2.1,by rw[this.2.2];simp⟩
  .intro h;exact ok.bm y hy (by have:=hy.1;omega) ⟨h.1,h.2.1,by simpa using h.2.2⟩
 .rw[HF hy];constructor;.intro h;simp at h
  .intro h;have:=h.1;rw[HF hy] at this;simp at this
section
variable{h h':Ah}{bi a:Nat}{o c t:Aa}{G G' F:Nat->Prop}{b:BS}{x:Int}{m:Nat}
def aKy(w:RX h bi a o c t G b)(hnm:∀x,(b.a.nd x).name.length<=1000)(x:Int):BZ cx 232 [Pt bi 0,I x,S aWi] h (.bool (decide (Se HI b.a x))) h:=by have:=Ţ w x aWi A5 (by have:=hnm x;omega);rwa [ZK o_] at this
def ţ(w:RX h bi a o c t G b)(hnm:∀x,(b.a.nd x).name.length<=1000)(x:Int):BZ cx 232 [Pt bi 0,I x,S aWb] h (.bool (decide (Se [Bd] b.a x))) h:=by have:=Ţ w x aWb A5 (by have:=hnm x;omega);rwa [ZK ą] at this
def wF(w:RX h bi a o c t G b)(ok:BA b)(rm:B9 b m)(hnm:∀x,(b.a.nd x).name.length<=1000)(x:Int):BZ cx 208 [Pt bi 0,I x] h (.tuple [I (b.place x).1,I (b.place x).2]) h:=by
 have ho:=rm.AY;have ld:Bg h none (Pt bi 2)=some o:=w.ld 2;have lo:=AV.CN w.o;have p:=oz w rm;have r2:=aKx w rm;obtain⟨n,i,ps,f,_⟩:=w.w;rw[Af,yb,aGZ];by_cases he:x=0/\b.AY=[]
 .have e:b.place x=(b.CM,0):=by unfold BS.place;rw[Ae he]
  have q:AB (.len false) [o]=some (I 0):=by rw[lo,he.2];rfl
  rw[e];simp only[abS,A0 he.1,ld,q,w.l1,AZ]
 obtain⟨t',Gg⟩:∃t',t'=if x=0 then(Fx b.AY).node else x:=⟨_,rfl⟩
 obtain⟨pb,Zr⟩:∃pb:Int×Int,pb=if b.EW=true/\Se HI b.a t' then b.J3 else(t',0):=⟨_,rfl⟩
 have e:b.place x=if(b.a.nd pb.1).cont≠0 then((b.a.nd pb.1).cont,0) else pb:=by unfold BS.place;rw[Ac he];simp only;rw[<-Gg,<-Zr]
 have k:=aKy w hnm t';have d:=ţ w hnm pb.1;have SD:=w.qp;have fB:x=0->¬(b.AY.length:Int)=0:=λh0 h1=>he ⟨h0,LJ.1 Ab⟩;rw[e];cases l:b.EW with
 |false=>
  rw[l] at SD;rw[Ac (by rw[l];intro h;exact absurd h.1 A5)] at Zr;subst Zr;simp only at d⊢;by_cases g:Se [Bd] b.a t'
  .have hc:=(Ln ok.ok t').2 g;have j:b.a.has t':=by
    by_cases hp:b.a.has t';.exact hp
    .have:=g.1;rw[HF hp] at this;simp at this
   rw[AI g] at d;rw[Ae hc];by_cases Nv:x=0;.rw[Ae Nv] at Gg;subst Gg;simp only[abS,Fc,A0 Nv,ld,lo,fB Nv,p.Ad,AZ,SD,d.Ad,w.l0,f.nodes,f.addr j,f.ŝ j]
   .rw[Ac Nv] at Gg;subst Gg;simp only[abS,Nv,AZ,SD,d.Ad,w.l0,f.nodes,f.addr j,f.ŝ j]
  .have hc:=λh=>g ((Ln ok.ok t').1 h);rw[AG g] at d;rw[Ac hc];by_cases Nv:x=0;.rw[Ae Nv] at Gg;subst Gg;simp only[abS,Fc,A0 Nv,ld,lo,fB Nv,p.Ad,AZ,SD,d.Ad]
   .rw[Ac Nv] at Gg;subst Gg;simp only[abS,Nv,AZ,SD,d.Ad]
 |true=>
  rw[l] at SD;by_cases hw:Se HI b.a t'
  .rw[Ae ⟨l,hw⟩] at Zr;subst Zr;rw[AI hw] at k;by_cases g:Se [Bd] b.a b.J3.1
   .have hc:=(Ln ok.ok b.J3.1).2 g;have j:b.a.has b.J3.1:=by
     by_cases hp:b.a.has b.J3.1;.exact hp
     .have:=g.1;rw[HF hp] at this;simp at this
    rw[AI g] at d;rw[Ae hc];by_cases Nv:x=0;.rw[Ae Nv] at Gg;subst Gg;simp only[abS,Fc,A0 Nv,ld,lo,fB Nv,p.Ad,AZ,SD,k.Ad,r2.Ad,d.Ad,w.l0,f.nodes,f.addr j,f.ŝ j]
    .rw[Ac Nv] at Gg;subst Gg;simp only[abS,Nv,AZ,SD,k.Ad,r2.Ad,d.Ad,w.l0,f.nodes,f.addr j,f.ŝ j]
   .have hc:=λh=>g ((Ln ok.ok b.J3.1).1 h);rw[AG g] at d;rw[Ac hc];by_cases Nv:x=0;.rw[Ae Nv] at Gg;subst Gg;simp only[abS,Fc,A0 Nv,ld,lo,fB Nv,p.Ad,AZ,SD,k.Ad,r2.Ad,d.Ad]
    .rw[Ac Nv] at Gg;subst Gg;simp only[abS,Nv,AZ,SD,k.Ad,r2.Ad,d.Ad]
  .rw[Ac (λh=>hw h.2)] at Zr;subst Zr;rw[AG hw] at k;simp only at d⊢;by_cases g:Se [Bd] b.a t'
   .have hc:=(Ln ok.ok t').2 g;have j:b.a.has t':=by
     by_cases hp:b.a.has t';.exact hp
     .have:=g.1;rw[HF hp] at this;simp at this
    rw[AI g] at d;rw[Ae hc];by_cases Nv:x=0;.rw[Ae Nv] at Gg;subst Gg;simp only[abS,Fc,A0 Nv,ld,lo,fB Nv,p.Ad,AZ,SD,k.Ad,d.Ad,w.l0,f.nodes,f.addr j,f.ŝ j]
    .rw[Ac Nv] at Gg;subst Gg;simp only[abS,Nv,AZ,SD,k.Ad,d.Ad,w.l0,f.nodes,f.addr j,f.ŝ j]
   .have hc:=λh=>g ((Ln ok.ok t').1 h);rw[AG g] at d;rw[Ac hc];by_cases Nv:x=0;.rw[Ae Nv] at Gg;subst Gg;simp only[abS,Fc,A0 Nv,ld,lo,fB Nv,p.Ad,AZ,SD,k.Ad,d.Ad]
    .rw[Ac Nv] at Gg;subst Gg;simp only[abS,Nv,AZ,SD,k.Ad,d.Ad]
end
def Nm(A:Ar):Prop:=∀x,(A.nd x).name.length<=1000
section
variable{A A':Ar}{b:BS}{q:jB}{m j:Nat}{nm:Aq}{l:List A6}{sp p x:Int}
def Nm.le(h:Nm A)(hl:Le A A')(hn:A'.n.length=A.n.length):Nm A':=λy=>by
 by_cases hy:A.has y;.rw[hl.name y hy];exact h y
 .have:¬A'.has y:=by unfold Ar.has at hy⊢;rw[hn];exact hy
  rw[HF this];simp
def Nm.add(h:Nm A){y:EV}(hy:y.name.length<=1000):Nm (A.add y):=λx=>by
 rw[IC];split;.exact hy
 .exact h x
def Nm.set(h:Nm A){y:EV}{k:Int}(hy:y.name.length<=1000):Nm (A.set k y):=λx=>by
 rw[JI];split;.exact hy
 .exact h x
def Nm.IZ(h:Nm A){k v:Int}:Nm (A.IZ k v):=λx=>by rw[Sc];exact h x
def Nm.FV(h:Nm A){bf:Int}:Nm (A.FV p x bf):=h.le Oi (JX (A:=A)).n
def Nm.Ey(h:Nm A){bf:Int}:Nm (A.Ey x p bf):=h.le I0 (JY (A:=A)).n
def Nm.Dh(h:Nm A){d:Int}:Nm (A.Dh d):=by
 unfold Ar.Dh;split;.exact h
 .exact(h.add AK).IZ.IZ
def Nm.elem(h:Nm A){d:Int}(hn:nm.length<=1000):Nm (A.elem d sp nm l):=by
 have h1:Nm (A.add {kind:=4,CM:=d,A9:=sp,name:=nm,AA:=Cx l}):=h.add hn;unfold Ar.elem;simp only
 split;.exact(h1.Dh.add AK).set hn
 .exact h1
def Nm.mk(h:Nm b.a)(hn:nm.length<=1000):Nm (b.EB nm l sp p).a:=by
 unfold BS.EB;split;.exact h.elem (by rw[Xq];exact hn)
 .exact h
def Nm.Nb(h:Nm b.a)(hn:nm.length<=1000):Nm (b.Fa nm l sp).a:=by
 unfold BS.Fa;split;.exact(h.mk hn).Ey
 .exact h
def Nm.Ly(h:Nm A){s:Aq}{bf:Int}:Nm (BS.Ly A s p bf):=by
 unfold BS.Ly;split
 .split
  .split;.exact h.set (h _)
   .exact(h.add AK).Ey
  .exact(h.add AK).Ey
 .exact h
def Nm.E3(h:Nm A){s:Aq}{bf:Int}:Nm (BS.E3 A s p bf):=by
 unfold BS.E3;split;.exact(h.add AK).Ey
 .exact h
def Nm.Jp:∀{l:List Cu} {b:BS},Nm b.a->(∀e∈l,e.name.length<=1000)->Nm (BS.Jp l b).2.a
 |[],b,h,_=>h
 |e::l,b,h,hl=>by rw[BS.Jp];exact Nm.Jp (h.Nb (hl e AK)) λx hx=>hl x (by simp[hx])
def Nm.Hw(h:Nm b.a):Nm (b.Hw l x).a:=by
 unfold BS.Hw;split;.exact h.set (h _)
 .exact h
def Nm.Fq{blk anc:Int}{far i:Nat}{l:Int}{mk:Nat}(h:Nm b.a)(r:B9 b m):Nm (BS.Fq blk anc far i b l mk).1.a:=by
 unfold BS.Fq;simp only
 split;.exact h
 .split;.exact h
  .rename_i he _;obtain⟨p,hp,c,_,_,_⟩:=Hz (Ji.1 he);rw[c,AT,AL,Ai hp,Hl];exact(h.mk (r.DD _ (AN hp)).1).FV
def Nm.Kt{blk anc:Int}{far k m:Nat}:∀{c:Nat} {s:BS×Int×Nat},Nm s.1.a->B9 s.1 (m+4*c)->Nm (BS.Kt blk anc far k c s).1.a
 |0,s,h,_=>h
 |c+1,s,h,r=>Nm.Kt (c:=c) (h.Fq r) (Ot (m:=m+4*c) (r.le Ab))
def Nm.CA{n:Int}:∀{l:List Int} {A:Ar},Nm A->Nm (BS.CA A n l)
 |[],A,h=>h
 |y::l,A,h=>Nm.CA (l:=l) (h.FV (p:=n) (x:=y) (bf:=0))
def Nm.GG{fe:Cu}{blk anc:Int}{s:BS×Int×Nat}(h:Nm s.1.a)(Kv:fe.name.length<=1000):Nm (BS.GG fe blk anc s).a:=by
 unfold BS.GG;simp only
 generalize Zr:s.1.place anc=pb;have h2:Nm (s.1.a.Ey s.2.1 pb.1 pb.2):=h.Ey;have c:=Nm.mk (b:={s.1 with a:=s.1.a.Ey s.2.1 pb.1 pb.2}) (nm:=fe.name) (l:=fe.AA) (sp:=1) (p:=blk) h2 Kv;exact(Nm.CA c).FV
def Nm.round(h:Nm b.a)(r:B9 b (m+4*b.AY.length+10)):Nm (b.round nm).2.a:=by
 unfold BS.round;simp only
 split
 .have:(b.Dm nm).a=b.a:=by
   unfold BS.Dm;split;.split<;>rfl
   .rfl
  rw[this];exact h
 .rename_i hf;obtain⟨f,Hn,c⟩:=Sy (Ji.1 hf);have VD:b.Bb.getD (GD nm b.Bb).toNat Cu.zero=b.Bb[f]:=by rw[c,AT,AL,Ai Hn];rfl
  have Kv:=r.DD _ (AN Hn);rw[VD];split;.exact h
  .split;.exact h
   .split;.exact h
    .have hlt:(D0 b.Bb[f].node b.AY).toNat-1 -(AP (BB b.Bb[f].node) b.AY).toNat<=b.AY.length:=by
      rw[IB];split;.omega
      .unfold E1;split;.rename_i j hj;have:=(EH.1 hj).1;rw[Bc] at this;omega
       .omega
     exact Nm.GG (Nm.Kt (m:=m) h (r.le Ab)) Kv.1
def Nm.Ee:∀{n:Nat} {b:BS} {k:Nat},Nm b.a->b.AY.length<=k->B9 b (m+n*(4*(k+n)+10))->Nm (BS.Ee n b nm).a
 |0,b,k,h,hk,r=>h
 |n+1,b,k,h,hk,r=>by
  have e:(n+1)*(4*(k+(n+1))+10)=n*(4*(k+1+n)+10)+(4*(k+(n+1))+10):=by rw[BM,D5,(Ab:k+(n+1)=k+1+n)]
  rw[e] at r;have h1:=Ou (m:=m+n*(4*(k+1+n)+10)) (r.le Ab) nm;have h2:=h.round (m:=m+n*(4*(k+1+n)+10)) (nm:=nm) (r.le Ab);unfold BS.Ee;simp only
  split;.exact Nm.Ee (n:=n) (k:=k+1) h2 Ab h1.1
  .exact h2
def aEc(h:Nm b.a)(sz:Sz b (j+1))(hq:zZ q):Nm (XN b q).1.a:=XO (P:=λr=>Nm r.1.a)
 (h.Nb hq.name)
 (h.Nb hq.name)
 (Nm.Nb (b:=b) (sp:=1) (l:=q.AA) h hq.name)
 (h.Ly)
 (by
  dsimp only;unfold BS.KY;split;.exact h.E3
  .exact h.E3)
 (Nm.Nb (b:=b) (sp:=1) (l:=q.AA) h hq.name)
 (by
  dsimp only;unfold BS.JJ;split;.exact h
  .exact h)
 (Nm.Jp h λe he=>(sz.rm.DD e (BG he)).1)
 (by
  dsimp only;unfold BS.Dm;split
  .split;.exact h
   .exact h
  .exact h)
 (by
  dsimp only;unfold BS.Ih;split
  .unfold BS.Ky;split;.exact h
   .exact h
  .exact Nm.Ee (n:=8) (k:=b.AY.length) (m:=5000000*j) h (Ag _) (sz.rm.le (by have:=sz.AY;omega)))
 h
 (h.Hw)
 (by
  dsimp only;unfold BS.Du;split;.exact h
  .exact h)
 h
 h
 h
 h
 (by
  dsimp only;unfold BS.Ky;split;.exact h
  .exact h)
 h
 h
 h
 h
 h
 (h.mk hq.name)
 h
def wG(q:Bool):Nm (Dt q).a:=λx=>by rw[Ow];split<;>simp
def pc(s:EY):Nm s.b.a:=by
 have d:Nm (I9 s.A9 s.name s.AA s.CI).a:=((wG s.CI).mk (nm:=Dy) A5).Ey;have c:Nm (LH s.A9 s.name s.AA s.CI).a:=by unfold LH;split<;>exact d
 unfold EY.b Tx;split
 .split;.exact c
  .exact c
 .exact wG _
end
section
variable{h h':Ah}{bi a:Nat}{o c t:Aa}{G G' F:Nat->Prop}{b:BS}{x:Int}{m:Nat}
variable{nm:Aq}{av:Aa}{l:List A6}{r:List Aa}{sp p:Int}
def aEd(ok:BA b)(y:Int):(if b.a.has y then(b.a.nd y).CM else b.CM)=if(b.a.nd y).CM≠0 then(b.a.nd y).CM else b.CM:=by
 by_cases hy:b.a.has y;.have:=(ok.ok.CM y hy).1.1;rw[Ae hy,Ae Ab]
 .rw[Ac hy,HF hy,Ac AK]
def Ć(w:RX h bi a o c t G b)(ok:BA b)(rm:B9 b (m+3))(hnm:Nm b.a)(hr:Oo nm av r)(hv:Bz l av)(hl:D1 l)(hn:nm.length<=1000)(p sp:Int):
  ∃h' G',BZ cx 104 [Pt bi 0,.agg r,I sp,I p] h (.agg (b.Gw nm l sp).row) h'/\RX h' bi a o c t G' (b.EB nm l sp p)/\DE h (Bw bi G) h' (Bw bi G'):=by
 obtain⟨T,P,O,N,M,L,K,J,UL,WB,rfl⟩:=hr;have s:∀{Q:HB} {h:Ah} {kk:Aa->IT},W cx (.Bk 207 [I sp] kk) Q h↔W cx (kk (.bool (decide (BS.HX sp)))) Q h:=(v8 _).Bk rfl rfl;by_cases hs:BS.HX sp;rotate_left
 .refine⟨h,G,?_,by unfold BS.EB;rw[Ac hs];exact w,.refl⟩;have e:b.Gw nm l sp=Item.zero:=by unfold BS.Gw;rw[Ac hs]
  rw[e,M7,Af,q7,aBO];simp only[abS,↓reduceIte,AR,s,AG hs]
 obtain⟨u,v,hu⟩:=aOI (h:=h) hv (λy hy=>(hl.2 y hy).1) hl.1 sp;have hd:=P8 ok (p:=p);have B:∀y∈l.map (C3 sp),BS.HX y.A9:=by intro y hy;obtain⟨z,_,rfl⟩:=Bl.1 hy;exact bK
 have hlen:(l.map (C3 sp)).length<=1000000000:=by rw[Al];have:=hl.1;omega
 obtain⟨h',G',j,E,D⟩:=w.step (A':=b.a.elem (b.ID p) sp (BS.IE sp nm) (l.map (C3 sp))) (R:=λh'=>BZ cx 165 [Pt a 0,I (b.ID p),I sp,.str (BS.IE sp nm),u] h (.tuple [I (b.a.len+1),I 0]) h') λn i ps f=>by obtain⟨h',n',H,Jt,r,wp,C⟩:=š (nm:=BS.IE sp nm) f (rm.len Ab) hd.1 hd.2 hs hu hlen B;exact⟨h',n',H,Jt,r,wp,C⟩
 have OC:=Xq (sp:=sp) (nm:=nm);have g:=aIH (h:=h') hu (λy hy=>by obtain⟨z,hz,rfl⟩:=Bl.1 hy;rw[Zt];have:=(hl.2 z hz).2;have:AX=140737488355328:=rfl;omega) Ab sp (BS.IE sp nm) Ab;have em:AB (.BF [I 0,I 0,S [],ff] [(0,1),(1,1),(2,1),(3,1)]) [I (b.a.len+1),I sp,.str (BS.IE sp nm),.bool (Fm sp (BS.IE sp nm) (l.map (C3 sp)))]=some (.agg (b.Gw nm l sp).row):=by rw[Zl];unfold BS.Gw;rw[Ae hs]
 have q:=ţ w hnm p;refine⟨h',G',?_,by unfold BS.EB;rw[Ae hs];exact E,D⟩;have ZF:=λ(y:Item)=>@Item.CL y;obtain⟨n,i,ps,f,_⟩:=w.w;have key:∀(Q:HB) (kk:Fp->List Aa->IT) (p':Int),p'=(if Se [Bd] b.a p then(b.a.nd p).cont else p)->(if b.a.has p' then(b.a.nd p').CM else b.CM)=b.ID p:=by
  intro Q kk p' e;rw[aEd ok];unfold BS.ID;by_cases d:Se [Bd] b.a p;.rw[Ae d] at e;subst e;rw[Ae ((Ln ok.ok p).2 d)]
  .rw[Ac d] at e;subst e;rw[Ac (λh=>d ((Ln ok.ok p').1 h))]
 have key:=key (λ_ _ _=>True) (λ_ _=> .fail);rw[Af,q7,aBO];by_cases d:Se [Bd] b.a p
 .have A:b.a.has p:=by
   by_cases hp:b.a.has p;.exact hp
   .have:=d.1;rw[HF hp] at this;simp at this
  have k:=wD w (b.a.nd p).cont;rw[key _ (Ae d).symm] at k;rw[AI d] at q;by_cases h2:sp=2
  .have e:BS.IE sp nm=Cr nm IW:=by unfold BS.IE;rw[Ae h2]
   rw[e] at j g em;simp only[abS,↓reduceIte,AR,Fc,s,AI hs,v.Ad,A0 h2,(aIE nm).Bk rfl rfl,AZ,q.Ad,w.l0,f.nodes,f.addr A,f.ŝ A,k.Ad,BO,j.Ad,g.Ad,em,ZF]
  .have e:BS.IE sp nm=nm:=by unfold BS.IE;rw[Ac h2]
   rw[e] at j g em;simp only[abS,↓reduceIte,AR,Fc,s,AI hs,v.Ad,h2,AZ,q.Ad,w.l0,f.nodes,f.addr A,f.ŝ A,k.Ad,BO,j.Ad,g.Ad,em,ZF]
 .have k:=wD w p;rw[key _ (Ac d).symm] at k;rw[AG d] at q;by_cases h2:sp=2
  .have e:BS.IE sp nm=Cr nm IW:=by unfold BS.IE;rw[Ae h2]
   rw[e] at j g em;simp only[abS,↓reduceIte,AR,Fc,s,AI hs,v.Ad,A0 h2,(aIE nm).Bk rfl rfl,AZ,q.Ad,w.l0,k.Ad,BO,j.Ad,g.Ad,em,ZF]
  .have e:BS.IE sp nm=nm:=by unfold BS.IE;rw[Ac h2]
   rw[e] at j g em;simp only[abS,↓reduceIte,AR,Fc,s,AI hs,v.Ad,h2,AZ,q.Ad,w.l0,k.Ad,BO,j.Ad,g.Ad,em,ZF]
end
section
variable{h h':Ah}{bi a:Nat}{o c t:Aa}{G G' F:Nat->Prop}{b:BS}{x:Int}{m:Nat}
variable{nm:Aq}{av:Aa}{l:List A6}{r:List Aa}{sp p:Int}
def aKz(w:RX h bi a o c t G b)(ok:BA b)(rm:B9 b (m+4))(hnm:Nm b.a)(hr:Oo nm av r)(hv:Bz l av)(hl:D1 l)(hn:nm.length<=1000)(sp:Int):
  ∃h' o' G',BZ cx 87 [Pt bi 0,.agg r,I sp] h (I (b.Pw sp)) h'/\RX h' bi a o' c t G' (b.Fa nm l sp)/\DE h (Bw bi G) h' (Bw bi G'):=by
 have dT:AX=140737488355328:=rfl;have ho:=rm.AY;have g:∀{Q:HB} {h:Ah} {kk:Aa->IT},W cx (.Bk 207 [I sp] kk) Q h↔W cx (kk (.bool (decide (BS.HX sp)))) Q h:=(v8 _).Bk rfl rfl;have F0:=hr;obtain⟨L,K,J,H,E,D,C,B,UL,WB,rfl⟩:=hr;by_cases hs:BS.HX sp;rotate_left
 .refine⟨h,o,G,?_,by unfold BS.Fa;rw[Ac hs];exact w,.refl⟩;have e:b.Pw sp=0:=by unfold BS.Pw;rw[Ac hs]
  rw[e,Af,lj,t87];simp only[abS,g,AG hs]
 have s:=wF w ok rm hnm 0;obtain⟨h1,M,r2,w1,j⟩:=Ć (m:=m+1) w ok (rm.le Ab) hnm F0 hv hl hn (b.place 0).1 sp;have U4:=ju (nm:=nm) (at_:=l) (p:=(b.place 0).1) ok hs;have nZ:=I1 (m:=m+1) (nm:=nm) (sp:=sp) (p:=(b.place 0).1) (rm.le Ab) hl;have XI:(b.Gw nm l sp).node=b.a.len+1:=by unfold BS.Gw;rw[Ae hs]
 have NS:(b.EB nm l sp (b.place 0).1).AY=b.AY:=by unfold BS.EB;rw[Ae hs]
 obtain⟨h2,A,q,d,i⟩:=wE w1 U4 nZ (b.place 0).1 (b.Gw nm l sp).node (b.place 0).2;have ld:Bg h2 none (Pt bi 2)=some o:=d.ld 2;obtain⟨u,z,hu⟩:=AV.Gu (b:=40) d.o (by simp only[NS];omega);have v:=AV.Ke (f:=Item.row) (b:=40) (a:=b.Gw nm l sp) hu (by simp only[NS];omega);have Jj:B4 (({b.EB nm l sp (b.place 0).1 with a:=(b.EB nm l sp (b.place 0).1).a.Ey (b.Gw nm l sp).node (b.place 0).1 (b.place 0).2}:BS).AY++[b.Gw nm l sp]) _:=AV.mk;have n:=d.IH Jj;have e:b.Pw sp=(b.Gw nm l sp).node:=by unfold BS.Pw;rw[Ae hs,XI]
 refine⟨_,_,A,?_,by unfold BS.Fa;rw[Ae hs];simp only;rw[<-XI];exact n,(j.trans i).trans Bq⟩;have em:AB (.BI 4) [.agg (b.Gw nm l sp).row]=some (.sl 4 [(b.Gw nm l sp).row]):=Mi;have ZF:=λ(y:Item)=>@Item.CL y;rw[e,Af,lj,t87];simp only[abS,Fc,g,AI hs,s.Ad,r2.Ad,ZF,q.Ad,ld,z,em,v,d.st (k:=2) (v0:=o) rfl (AV.cells Jj)]
def ć(w:RX h bi a o c t G b)(ok:BA b)(rm:B9 b (m+4))(hnm:Nm b.a)(hr:Oo nm av r)(hv:Bz l av)(hl:D1 l)(hn:nm.length<=1000):
  ∃h' o' G',BZ cx 86 [Pt bi 0,.agg r] h (I (b.a.len+1)) h'/\RX h' bi a o' c t G' (b.Fa nm l 1)/\DE h (Bw bi G) h' (Bw bi G'):=by
 obtain⟨h',o',G',d,w',x'⟩:=aKz w ok rm hnm hr hv hl hn 1;refine⟨h',o',G',?_,w',x'⟩;have e:b.Pw 1=b.a.len+1:=by unfold BS.Pw;rw[Ae JQ]
 rw[e] at d;obtain⟨s,q,n,k,j,i,g,f,UL,WB,rfl⟩:=hr;rw[Af,aBG,t86];simp only[BJ,d.Ad]
def aPB(w:RX h bi a o c t G b):∃h',BZ cx 99 [Pt bi 0] h (.tuple []) h'/\RX h' bi a o c t G {b with stop:=true}/\DE h (Bw bi G) h' (Bw bi G):=by refine⟨_,?_,w.put (k:=19) (v:= .bool true) rfl rfl w.o w.t,Bq⟩;rw[Af,aBM,t99];simp only[BJ,w.st (k:=19) (v:=tt) rfl rfl]
end
section
variable{h h':Ah}{bi a:Nat}{o c t:Aa}{G G' F:Nat->Prop}{b:BS}{x:Int}{m:Nat}
variable{nm:Aq}{av:Aa}{l:List A6}{r:List Aa}{sp p:Int}
def aPC(w:RX h bi a o c t G b)(ok:Ez b)(rm:B9 b (m+1000))(hr:Oo nm av r)(hv:Bz l av)(hl:D1 l)(x:Int):
  ∃h' G',BZ cx 97 [Pt bi 0,.agg r,I x] h (.tuple []) h'/\RX h' bi a o c t G' (b.Hw l x)/\DE h (Bw bi G) h' (Bw bi G'):=by
 have dT:AX=140737488355328:=rfl;obtain⟨M,L,K,J,H,E,D,C,UL,WB,rfl⟩:=hr;by_cases hk:(b.a.nd x).kind=4;rotate_left;.refine⟨h,G,?_,by unfold BS.Hw;rw[Ac hk];exact w,.refl⟩;rw[Af,ly,t97];simp only[abS,↓reduceIte,(Ms w x).Ad,hk,Ca]
 have hx:b.a.has x:=by
  by_cases hp:b.a.has x;.exact hp
  .rw[HF hp] at hk;simp at hk
 have Vi:=rm.at_ x;have kM:=hl.1;obtain⟨n,i,ps,d,_⟩:=w.w;obtain⟨A,e0,g⟩:=AV.Gu (b:=40) (d.mv hx) Ab;have Jc:Ev cx 97 [Pt bi 0,.agg [M,.str nm,L,K,J,H,E,D,av,C,UL,WB],I x] h λr h'=>r= .tuple []/\∃G',RX h' bi a o c t G' (b.Hw l x)/\DE h (Bw bi G) h' (Bw bi G'):=by
  unfold Ev;have hvl:=AV.CN hv;rw[ly,t97];simp only[abS,↓reduceIte,(Ms w x).Ad,A0 hk,Ca,w.l0,d.nodes,d.addr hx,d.f6 hx,e0];refine Bj (λs:Aa×Nat=>[s.1,I (s.2:Int)]) (λs h1=>s.2<=l.length/\Bz ((b.a.nd x).AA++BS.plain (l.take s.2)) s.1/\h1=h) (λs=>l.length-s.2) (A,0) rfl ⟨AU _,by simp only[Kl,BS.plain,Df,BK];exact g,rfl⟩ ?_;rintro⟨u,k⟩ h1 ⟨Yb,hu,rfl⟩;simp only at Yb hu;rcases AO k l.length with hlt|Ef
  .have j:=AV.BN (k:= .i64) hv hlt;rw[A6.row] at j;have em:AB (.BI 3) [.agg [I 0,.str l[k].name,.str l[k].value]]=some (.sl 3 [[I 0,.str l[k].name,.str l[k].value]]):=rfl;have a1:=AV.Ke (f:=A6.row) (b:=40) (a:=⟨0,l[k].name,l[k].value⟩) hu (by rw[Au,BS.plain,Al,As];omega);rw[A6.ZA] at a1;have hs:(b.a.nd x).AA++BS.plain (l.take (k+1))=((b.a.nd x).AA++BS.plain (l.take k))++[⟨0,l[k].name,l[k].value⟩]:=by rw[Ay hlt,BS.plain,BL,<-AJ];rfl
   simp only[abS,Nat.reduceLeDiff,↓reduceIte,AR,hvl,(Ab:(k:Int)<(l.length:Int)),j,aaS,em,a1,BQ (Ab:k<9223372036854775807)];exact AM.next (_,k+1) rfl ⟨hlt,by rw[hs,AJ];exact .mk,rfl⟩ Dp
  .have PQ:k=l.length:=by omega
   subst PQ;rw[By] at hu;have hsp:∀y∈(b.a.nd x).AA++BS.plain l,BS.HX y.A9:=by
    intro y hy;rcases Av.1 hy with hy|hy
    .exact(ok.ok.Sd x hx).qn y hy
    .obtain⟨z,_,rfl⟩:=Bl.1 hy;exact⟨Dp,Dp⟩
   obtain⟨h2,N,B,v,q⟩:=w.step (A':=b.a.Jo x ((b.a.nd x).AA++BS.plain l)) (R:=λh2=>BZ cx 226 [Pt a 0,I x,u] h1 (I 0) h2) λn i ps d=>by obtain⟨h',Jt,f1,f2,f3⟩:=aKu d hx hk hu (by rw[Au,BS.plain,Al];omega) hsp;exact⟨h',n,i,Jt,f1,f2,f3⟩
   have e:b.Hw l x={b with a:=b.a.Jo x ((b.a.nd x).AA++BS.plain l)}:=by unfold BS.Hw;rw[Ae hk]
   simp only[abS,Nat.reduceLeDiff,↓reduceIte,AR,hvl,(Ab:¬(l.length:Int)<(l.length:Int)),w.l0,B.Ad];exact⟨_,rfl,rfl,N,by rw[e];exact v,q⟩
 obtain⟨r,h',hr,rfl,G',w',x'⟩:=Jc.ret;exact⟨h',G',hr,w',x'⟩
def aPD(w:RX h bi a o c t G b)(rm:B9 b m):
  ∃h' o',BZ cx 92 [Pt bi 0] h (.tuple []) h'/\RX h' bi a o' c t G b.JJ/\DE h (Bw bi G) h' (Bw bi G):=by
 have ho:=rm.AY;have hnm:∀i∈b.AY,i.name.length<9223372036854775807:=λi hi=>by have:=rm.X8 i hi;omega
 have em:AB (.BI 1) [S [112]]=some (.sl 1 ([wP].map CH)):=D7 (ws:=[wP]) rfl A5;have ld:Bg h none (Pt bi 2)=some o:=w.ld 2;have e:=aNX (h:=h) w.o Ab hnm 3 (Da (ws:=[wP])) A5;by_cases hs:J2 (BD [wP]) (JG 3) b.AY.reverse=true;rotate_left
 .have Vh:J2 (BD [wP]) (JG 3) b.AY.reverse=false:=by simpa using hs
  rw[Vh] at e;refine⟨h,o,?_,by unfold BS.JJ;rw[Ac hs];exact w,.refl⟩;rw[Af,lq,t92];simp only[BJ,ld,em,e.Ad]
 .rw[hs] at e;obtain⟨d,g,r2,OO⟩:=f165 (h:=h) w.o Ab hnm wP false;have w1:=w.Iq (u:=g);have f:=w1.IH OO;have HT:ET wP false=Ex wP:=by funext a;rfl
  have l1:(DR (ET wP false) C0 b.AY).length<=b.AY.length:=P2;have Ĉ:Bg (put (h++g) bi 2 d) none (Pt bi 2)=some d:=f.ld 2;obtain⟨p,t2,q,Jj⟩:=f85 (h:=put (h++g) bi 2 d) OO Ab (Da (ws:=[wP])) A5;have j:=f.Iq (u:=t2);rw[<-Of] at Jj;have n:=j.IH Jj;refine⟨_,p,?_,by unfold BS.JJ;rw[Ae hs,<-HT];exact n,((w.C7.trans Bq).trans f.C7).trans Bq⟩;rw[Af,lq,t92];simp only[BJ,ld,em,e.Ad,r2.Ad,w1.st (k:=2) (v0:=o) rfl (AV.cells OO),Ĉ,q.Ad,j.st (k:=2) (v0:=d) rfl (AV.cells Jj)]
variable{nm:Aq}{av:Aa}{l:List A6}{r:List Aa}
def aPE(w:RX h bi a o c t G b)(ok:BA b)(rm:B9 b (m+4))(hnm:Nm b.a)(hr:Oo nm av r)(hv:Bz l av)(hl:D1 l)(hn:nm.length<=1000)(st:Int):
  ∃h' o' G',BZ cx 91 [Pt bi 0,.agg r,I st] h (.tuple []) h'/\RX h' bi a o' c t G' (b.P5 nm l st)/\DE h (Bw bi G) h' (Bw bi G'):=by
 obtain⟨h1,e,f,s,w1,i⟩:=ć w ok rm hnm hr hv hl hn;obtain⟨E,D,C,B,A,z,y,u,UL,WB,rfl⟩:=hr;have d:RX (put h1 bi 18 (I st)) bi a e c t f {b.Fa nm l 1 with sw:=st}:=w1.put rfl rfl w1.o w1.t;have g:RX (put (put h1 bi 18 (I st)) bi 5 (I (b.Fa nm l 1).mode)) bi a e c t f {{b.Fa nm l 1 with sw:=st} with Jn:=(b.Fa nm l 1).mode}:=d.put rfl rfl d.o d.t;have j:=g.iV 8;refine⟨_,e,f,?_,j,((i.trans Bq).trans Bq).trans Bq⟩;have q:=w1.st (k:=18) (v:= I st) (v0:= I (b.Fa nm l 1).sw) rfl rfl;have p:=d.st (k:=5) (v:= I (b.Fa nm l 1).mode) (v0:= I (b.Fa nm l 1).Jn) rfl rfl;have n:=g.st (k:=4) (v:=I 8) (v0:= I (b.Fa nm l 1).mode) rfl rfl;have l4:Bg (put h1 bi 18 (I st)) none (Pt bi 4)=some (I (b.Fa nm l 1).mode):=d.l4;rw[Af,aBI,t91];simp only[BJ,s.Ad,q,l4,p,n]
def aPF(w:RX h bi a o c t G b)(rm:B9 b m):∃h' o',BZ cx 101 [Pt bi 0] h (.agg b.gZ.row) h'/\RX h' bi a o' c t G b.Ky/\DE h (Bw bi G) h' (Bw bi G):=by
 have ho:=rm.AY;have ld:Bg h none (Pt bi 2)=some o:=w.ld 2;have lo:=AV.CN w.o;unfold BS.Ky BS.gZ;by_cases h2:b.AY.length<2;.refine⟨h,o,?_,by rw[Ae h2];exact w,.refl⟩;rw[Ae h2,Af,q6,aBN];simp only[abS,↓reduceIte,AR,ld,lo,(Ab:(b.AY.length:Int)<2)];rfl
 .obtain⟨u,e,f,hu⟩:=aDE (h:=h) w.o Ab;have hc:Kf b.AY ((b.AY.length:Int)-1)=b.AY.take (b.AY.length-1):=by unfold Kf;congr 1;omega
  rw[hc] at hu;have w1:=w.Iq (u:=e);have d:=w1.IH hu;refine⟨_,u,?_,by rw[Ac h2];exact d,w.C7.trans Bq⟩;rw[Ac h2,Af,q6,aBN];simp only[abS,↓reduceIte,AR,Fc,ld,lo,(Ab:¬(b.AY.length:Int)<2),(oz w rm).Ad,f.Ad,w1.st (k:=2) (v0:=o) rfl (AV.cells hu)]
def aKA(w:RX h bi a o c t G b)(rm:B9 b m)(nm:Aq):
  ∃h' o',BZ cx 94 [Pt bi 0,.str nm] h (.tuple []) h'/\RX h' bi a o' c t G (b.Dm nm)/\DE h (Bw bi G) h' (Bw bi G):=by
 have ho:=rm.AY;have hnm:∀i∈b.AY,i.name.length<9223372036854775807:=λi hi=>by have:=rm.X8 i hi;omega
 have ld:Bg h none (Pt bi 2)=some o:=w.ld 2;have lo:=AV.CN w.o;have Jc:Ev cx 94 [Pt bi 0,.str nm] h λr h'=>r= .tuple []/\∃o',RX h' bi a o' c t G (b.Dm nm)/\DE h (Bw bi G) h' (Bw bi G):=by
  unfold Ev;rw[aBK,t94];simp only[BJ,ld,lo,C6 (Ab: -9223372036854775808<=(b.AY.length:Int)-1) (Ab:(b.AY.length:Int)-1<9223372036854775808)];refine Bj (λn:Nat=>[I ((n:Int)-1)]) (λn h1=>n<=b.AY.length/\(b.AY.reverse.find? λi=>BD [nm] i||GR i)=((b.AY.take n).reverse.find? λi=>BD [nm] i||GR i)/\h1=h) (λn=>n) b.AY.length rfl ⟨Ag _,by rw[By],rfl⟩ ?_;rintro n h1 ⟨hn,ha,rfl⟩;cases n with
  |zero=>
   have e:b.Dm nm=b:=by unfold BS.Dm;rw[ha];rfl
   simp only[abS,↓reduceIte,(Ab:¬(0:Int)<=((0:Nat):Int)-1)];exact⟨_,rfl,rfl,o,by rw[e];exact w,.refl⟩
  |succ n=>
   have hlt:n<b.AY.length:=Ab;have i1:((n+1:Nat):Int)-1=(n:Int):=Ab;have s:=AV.BN (k:= .i64) w.o hlt;have UI:=hnm _ (AN hlt);have em:AB (.BI 1) [.str nm]=some (.sl 1 ([nm].map CH)):=D7 (ws:=[nm]) rfl AK;rw[Su hlt,GH] at ha;generalize hi:b.AY[n]=i at*;have r2:BZ cx 218 [.agg i.row,.sl 1 ([nm].map CH)] h1 (.bool (BD [nm] i)) h1:=f167 i (Da (ws:=[nm])) AK;have sub:=C6 (Ab: -9223372036854775808<=(n:Int)-1) (Ab:(n:Int)-1<9223372036854775808);cases h2:BD [nm] i with
   |true=>
    rw[h2] at r2 ha;obtain⟨f,q,g,OO⟩:=f165 (h:=h1) w.o Ab hnm nm false;have w1:=w.Iq (u:=q);have p:=w1.IH OO;have HT:ET nm false=Ex nm:=by funext a;rfl
    have l1:(DR (ET nm false) C0 b.AY).length<=b.AY.length:=P2;have Ĉ:Bg (put (h1++q) bi 2 f) none (Pt bi 2)=some f:=p.ld 2;obtain⟨z,t2,A,Jj⟩:=aIQ (h:=put (h1++q) bi 2 f) OO Ab i.node;have v:=p.Iq (u:=t2);have y:=v.IH Jj;have e:b.Dm nm={b with AY:=GS i.node (DR (Ex nm) C0 b.AY)}:=by unfold BS.Dm;rw[ha];simp only[h2,TF,BT]
    simp only[abS,Nat.reduceLeDiff,↓reduceIte,Fc,i1,(Ab:(0:Int)<=(n:Int)),ld,s,em,r2.Ad,g.Ad,w1.st (k:=2) (v0:=o) rfl (AV.cells OO),Ĉ,A.Ad,v.st (k:=2) (v0:=f) rfl (AV.cells Jj)];exact⟨_,rfl,rfl,z,by rw[e,<-HT];exact y,((w.C7.trans Bq).trans p.C7).trans Bq⟩
   |false=>
    rw[h2] at r2 ha;have g:∀{Q:HB} {h:Ah} {kk:Aa->IT},W cx (.Bk 220 [I i.A9,.str i.name] kk) Q h↔W cx (kk (.bool (Ew i.A9 i.name))) Q h:=(f169 i.A9 i.name UI).Bk rfl rfl;cases j:GR i with
    |true=>
     have d:Ew i.A9 i.name=true:=j;rw[j] at ha;have e:b.Dm nm=b:=by unfold BS.Dm;rw[ha];simp[h2]
     simp only[abS,Nat.reduceLeDiff,↓reduceIte,Fc,i1,(Ab:(0:Int)<=(n:Int)),ld,s,em,r2.Ad,g,d];exact⟨_,rfl,rfl,o,by rw[e];exact w,.refl⟩
    |false=>have d:Ew i.A9 i.name=false:=j;rw[j] at ha;simp only[abS,Nat.reduceLeDiff,↓reduceIte,Fc,i1,(Ab:(0:Int)<=(n:Int)),ld,s,em,r2.Ad,g,d,sub];exact AM.next n rfl ⟨Ab,ha,rfl⟩ Ab
 obtain⟨r,h',hr,rfl,o',w',x'⟩:=Jc.ret;exact⟨h',o',hr,w',x'⟩
variable{nm:Aq}{av:Aa}{l:List A6}{r:List Aa}
def aPG(w:RX h bi a o c t G b)(hc:B7 b.Bb c)(ok:Ez b)(rm:B9 b (m+5))(hnm:Nm b.a)(hr:Oo nm av r)(hv:Bz l av)(hl:D1 l)(hn:nm.length<=1000):
  ∃h' o' c' G',BZ cx 88 [Pt bi 0,.agg r] h (I (b.a.len+1)) h'/\RX h' bi a o' c' t G' (b.Kh nm l)/\B7 (b.Kh nm l).Bb c'/\DE h (Bw bi G) h' (Bw bi G'):=by
 obtain⟨h1,j,n,i,w1,g⟩:=ć (m:=m+1) w ok (rm.le Ab) hnm hr hv hl hn;obtain⟨fs,d,hf⟩:=hc;have ha:=rm.Bb;have Hn:fs.length=b.Bb.length:=by rw[<-d,Al]
 obtain⟨u,p,Qf,r2,hu⟩:=aOl (h:=h1) (l:=fs) hf Ab (vS d λx hx=>((rm.DD x hx).2).1) (e:=⟨⟨b.a.len+1,nm,l⟩,av,hv⟩) (by unfold Yx;have:=hl.1;simp only;omega);refine⟨_,j,u,n,?_,w1.Lj (u:=u),?_,g.trans Bq⟩;.obtain⟨C,B,A,z,y,v,s,q,UL,WB,rfl⟩:=hr;have f:BZ cx 137 [c,.agg [I (b.a.len+1),.str nm,av]] h1 u h1:=r2;have X2:av.cells=[av]:=AV.cells hv;rw[Af,aBH,t88];simp only[abS,Nat.reduceLeDiff,↓reduceIte,AR,i.Ad,w1.l3,X2,f.Ad,w1.st (k:=3) (v0:=c) rfl (AV.cells hu)]
 .refine⟨_,?_,hu⟩;rw[iS Qf,d];unfold BS.Kh;simp only;rw[Gx]
end
def dF{n:Nat}(d:Nat)(hd:0<d)(h:n<2147483648)(e:AB (.int .quo) [I (n:Int),I (d:Int)]=some (I (IntKind.i64.wrap ((n:Int).tdiv (d:Int))))):AB (.int .quo) [I (n:Int),I (d:Int)]=some (I ((n/d:Nat):Int)):=by
 have h2:(n:Int).tdiv (d:Int)=((n/d:Nat):Int):=by rw[Int.tdiv_eq_ediv_of_nonneg Ab];rfl
 have a:n/d<=n:=Nat.div_le_self n d;rw[e,h2];generalize n/d=k at*;rw[wrap_i64 Ab Ab]
def ĉ{n:Nat}(d:Nat)(hd:0<d)(h:n<2147483648)(e:AB (.int .rem) [I (n:Int),I (d:Int)]=some (I ((n:Int).tmod (d:Int)))):AB (.int .rem) [I (n:Int),I (d:Int)]=some (I ((n%d:Nat):Int)):=by
 have h2:(n:Int).tmod (d:Int)=((n%d:Nat):Int):=by rw[Int.tmod_eq_emod_of_nonneg Ab];rfl
 have a:n%d<=n:=Nat.mod_le n d;rw[e,h2]
def XW{n:Nat}(h:n<2147483648):AB (.int .quo) [I (n:Int),I 64]=some (I ((n/64:Nat):Int)):=dF 64 A5 h rfl
def XX{n:Nat}(h:n<2147483648):AB (.int .quo) [I (n:Int),I 4096]=some (I ((n/4096:Nat):Int)):=dF 4096 A5 h rfl
def dG{n:Nat}(h:n<2147483648):AB (.int .quo) [I (n:Int),I 262144]=some (I ((n/262144:Nat):Int)):=dF 262144 A5 h rfl
def NN{n:Nat}(h:n<2147483648):AB (.int .rem) [I (n:Int),I 64]=some (I ((n%64:Nat):Int)):=ĉ 64 A5 h rfl
def SE{n:Nat}(c:Nat)(h:c+n<2147483648):AB (.int .add) [I (c:Int),I (n:Int)]=some (I ((c+n:Nat):Int)):=by rw[Od Ab Ab];congr 2
def L1{n:Nat}(h:n<64):AB (.int .add) [I 128,I (n:Int)]=some (I ((128+n:Nat):Int)):=SE 128 Ab
def ah{n:Nat}(h:n<64):AB (.int .add) [I 192,I (n:Int)]=some (I ((192+n:Nat):Int)):=SE 192 Ab
def aj{n:Nat}(h:n<64):AB (.int .add) [I 224,I (n:Int)]=some (I ((224+n:Nat):Int)):=SE 224 Ab
def ak{n:Nat}(h:n<64):AB (.int .add) [I 240,I (n:Int)]=some (I ((240+n:Nat):Int)):=SE 240 Ab
def QH{n:Nat}(h:n<256):AB (.conv .u8) [I (n:Int)]=some (.int .u8 (n:Int)):=by rw[Tr];congr 3;omega
def PF(r:Int):Prop:=(0<=r/\r<=55295)\/(57344<=r/\r<=1114111)
instance(r:Int):Decidable (PF r):=by unfold PF;infer_instance
def aKB(r:Int):Ks cx 210 [.int .i32 r] (.bool (decide (PF r))):=by rw[M5,yd,aG1];by_cases h1:0<=r<;>by_cases h2:r<=55295<;>by_cases b:57344<=r<;>by_cases a:r<=1114111<;>simp[h1,h2,b,a,PF]
def aKC(r:Int)(hr:PF r)(h:Ah):BZ cx 211 [.int .i32 r] h (.sl 1 (Cg (HJ r))) h:=by
 have one:∀{a:Nat} (h1:a<256),AB (.BI 1) [.int .u8 (a:Int)]=some (.sl 1 (Cg [UInt8.ofNat a])):=by intro a h1;simp only[Cg,Bs,Df,Zy h1];rfl
 have eI:∀{a b:Nat} (h1:a<256) (h2:b<256),AB (.BI 1) [.int .u8 (a:Int),.int .u8 (b:Int)]=some (.sl 1 (Cg [UInt8.ofNat a,UInt8.ofNat b])):=by intro a b h1 h2;simp only[Cg,Bs,Df,Zy h1,Zy h2];rfl
 have TM:∀{a b c:Nat} (h1:a<256) (h2:b<256) (d:c<256),AB (.BI 1) [.int .u8 (a:Int),.int .u8 (b:Int),.int .u8 (c:Int)]=some (.sl 1 (Cg [UInt8.ofNat a,UInt8.ofNat b,UInt8.ofNat c])):=by intro a b c h1 h2 d;simp only[Cg,Bs,Df,Zy h1,Zy h2,Zy d];rfl
 have four:∀{a b c f:Nat} (h1:a<256) (h2:b<256) (d:c<256) (g:f<256),AB (.BI 1) [.int .u8 (a:Int),.int .u8 (b:Int),.int .u8 (c:Int),.int .u8 (f:Int)]=some (.sl 1 (Cg [UInt8.ofNat a,UInt8.ofNat b,UInt8.ofNat c,UInt8.ofNat f])):=by intro a b c f h1 h2 d g;simp only[Cg,Bs,Df,Zy h1,Zy h2,Zy d,Zy g];rfl
 have F0:=hr;unfold PF at hr;obtain⟨n,rfl⟩:=IM (Ab:0<=r);have hn:n<=1114111:=Ab;have cv:AB (.conv .i64) [.int .i32 (n:Int)]=some (I (n:Int)):=by rw[RU,wrap_i64 Ab Ab]
 rw[Af,ye,aG2];by_cases k:n<128
 .have e:HJ (n:Int)=[UInt8.ofNat n]:=by unfold HJ;rw[Ae Ab];rfl
  rw[e];simp only[abS,cv,(Ab:(n:Int)<128),QH (Ab:n<256),one (Ab:n<256)]
 by_cases j:n<2048
 .have e:HJ (n:Int)=[UInt8.ofNat (192+n/64),UInt8.ofNat (128+n%64)]:=by unfold HJ;rw[Ac Ab,Ae Ab];rfl
  rw[e];simp only[abS,cv,(Ab:¬(n:Int)<128),(Ab:(n:Int)<2048),XW (Ab:n<2147483648),ah (Ab:n/64<64),QH (Ab:192+n/64<256),NN (Ab:n<2147483648),L1 (Ab:n%64<64),QH (Ab:128+n%64<256),eI (Ab:192+n/64<256) (Ab:128+n%64<256)]
 by_cases i:n<65536
 .have e:HJ (n:Int)=[UInt8.ofNat (224+n/4096),UInt8.ofNat (128+n/64%64),UInt8.ofNat (128+n%64)]:=by unfold HJ;rw[Ac Ab,Ac Ab,Ae Ab];rfl
  rw[e];simp only[abS,cv,(Ab:¬(n:Int)<128),(Ab:¬(n:Int)<2048),(Ab:(n:Int)<65536),XX (Ab:n<2147483648),aj (Ab:n/4096<64),QH (Ab:224+n/4096<256),XW (Ab:n<2147483648),NN (Ab:n/64<2147483648),L1 (Ab:n/64%64<64),QH (Ab:128+n/64%64<256),NN (Ab:n<2147483648),L1 (Ab:n%64<64),QH (Ab:128+n%64<256),TM (Ab:224+n/4096<256) (Ab:128+n/64%64<256) (Ab:128+n%64<256)]
 .have e:HJ (n:Int)=[UInt8.ofNat (240+n/262144),UInt8.ofNat (128+n/4096%64),UInt8.ofNat (128+n/64%64),UInt8.ofNat (128+n%64)]:=by unfold HJ;rw[Ac Ab,Ac Ab,Ac Ab,Ae Ab];rfl
  rw[e];simp only[abS,cv,(Ab:¬(n:Int)<128),(Ab:¬(n:Int)<2048),(Ab:¬(n:Int)<65536),dG (Ab:n<2147483648),ak (Ab:n/262144<64),QH (Ab:240+n/262144<256),XX (Ab:n<2147483648),NN (Ab:n/4096<2147483648),L1 (Ab:n/4096%64<64),QH (Ab:128+n/4096%64<256),XW (Ab:n<2147483648),NN (Ab:n/64<2147483648),L1 (Ab:n/64%64<64),QH (Ab:128+n/64%64<256),NN (Ab:n<2147483648),L1 (Ab:n%64<64),QH (Ab:128+n%64<256),four (Ab:240+n/262144<256) (Ab:128+n/4096%64<256) (Ab:128+n/64%64<256) (Ab:128+n%64<256)]
def ao(r:Int):HJ (if PF r then r else 65533)=HJ r:=by
 by_cases h:PF r;.rw[Ae h]
 .rw[Ac h];unfold PF at h;have:HJ r=[239,191,189]:=by unfold HJ;rw[Ac Ab,Ac Ab,Ac Ab,Ac Ab]
  have h2:HJ 65533=[239,191,189]:=by unfold HJ;rw[Ac Ab,Ac Ab,Ae Ab];decide+kernel
  rw[this,h2]
def pd(r:Int):PF (if PF r then r else 65533):=by
 by_cases h:PF r;.rw[Ae h];exact h
 .rw[Ac h];decide
section
variable{h h':Ah}{bi a:Nat}{o c t:Aa}{G G' F:Nat->Prop}{b:BS}{x:Int}{m:Nat}
variable{nm:Aq}{av:Aa}{l:List A6}{r:List Aa}{sp p:Int}
def RX.leaf{k d:Int}{s:Aq}(w:RX h bi a o c t G b)(ok:Ez b)(rm:B9 b (m+1))(hk:k=5\/k=6)(hd:b.a.has d/\(b.a.nd d).kind=1)(hs:s.length<=100000)(p bf:Int):
  ∃e h' G',BZ cx 128 [Pt a 0,I d,.agg [I k,I 0,.slnil,I 0,I 0,S [],.slnil,.str s,S [],S [],ff,I 0,I 0]] h (.tuple [I (b.a.len+1),I 0]) e/\BZ cx 166 [Pt bi 0,I p,I (b.a.len+1),I bf] e (.tuple []) h'/\RX h' bi a o c t G' {b with a:=(b.a.add {kind:=k,CM:=d,data:=s}).Ey (b.a.len+1) p bf}/\DE h (Bw bi G) h' (Bw bi G'):=by
 obtain⟨e,D,B,z,u⟩:=w.step (A':=b.a.add {kind:=k,CM:=d,data:=s}) (R:=λh'=>BZ cx 128 [Pt a 0,I d,.agg [I k,I 0,.slnil,I 0,I 0,S [],.slnil,.str s,S [],S [],ff,I 0,I 0]] h (.tuple [I (b.a.len+1),I 0]) h') (λn i ps v=>by obtain⟨h',n',C,Jt,r,wp,j⟩:=aKp v (show b.a.len<=1000000000 by have:=rm.n;unfold Ar.len;omega) hd.1 hd.2 k s;exact⟨h',n',C,Jt,r,wp,j⟩)
 obtain⟨g,f⟩:=cV (m:=m) (k:=k) (s:=s) ok rm hk hd hs;obtain⟨h',G',A,y,q⟩:=wE z g.ba f p (b.a.len+1) bf;exact⟨e,h',G',B,A,y,u.trans q⟩
def aKD(w:RX h bi a o c t G b)(ok:Ez b)(rm:B9 b (m+5))(hnm:Nm b.a)(r:Int):
  ∃h' G',BZ cx 89 [Pt bi 0,.int .i32 r] h (.tuple []) h'/\RX h' bi a o c t G' (b.Sg r)/\DE h (Bw bi G) h' (Bw bi G'):=by
 have f:=wF w ok rm hnm 0;obtain⟨hp,M⟩:=Xl ok (t:=0) (.inl rfl);unfold BS.Sg;generalize(b.place 0).1=p at*;generalize(b.place 0).2=bf at*;have r2:=Ms w p;unfold BS.Ly;by_cases hk:(b.a.nd p).kind=4\/(b.a.nd p).kind=2;rotate_left;.refine⟨h,G,?_,by rw[Ac hk];exact w,.refl⟩;have Y:¬(b.a.nd p).kind=4:=λe=>hk (.inl e);have Z:¬(b.a.nd p).kind=2:=λe=>hk (.inr e);rw[Af,bP,t89];simp only[abS,f.Ad,r2.Ad,Ca,Y,Z,AZ]
 rw[Ae hk];obtain⟨i,hi,nO,UM,L⟩:=iU (l:=(b.a.nd p).A8) (bf:=bf) (λh=>by have:=M h;have h2:=(ok.ok.FM bf this.1 (by rw[this.2];have:=hp.1;omega)).2;rwa [this.2] at h2);rw[L];have PQ:(b.a.nd p).A8.length<=1000000000:=rm.X9.A8 ok.ok p;obtain⟨n,P,ps,d,eG⟩:=w.w;obtain⟨kv,q,vO⟩:=ou (x:=p) d PQ;have hvl:=AV.CN vO;have g:=aKw (h:=h) vO PQ bf;have rd:=wD w p;rw[Ae hp] at rd;have y:∀{Q:HB} {h:Ah} {kk:Aa->IT},W cx (.Bk 210 [.int .i32 r] kk) Q h↔W cx (kk (.bool (decide (PF r)))) Q h:=(aKB r).Bk rfl rfl;obtain⟨r',F0⟩:∃r',r'=if PF r then r else 65533:=⟨_,rfl⟩
 have Vh:=pd r;have pP:=ao r;rw[<-F0] at Vh pP;have rb:=aKC r' Vh h;rw[pP] at rb;have dQ:=Ss r;generalize hs:HJ r=s at*;have f3:Kq h (.sl 1 (Cg s))=some (h,.sl 1 (Cg s)):=rfl;have b3:AB .Ux [.sl 1 (Cg s)]=some (.str s):=by simp[AB,VG,Q4]
 have cW:=ok.ok.CM p hp;obtain⟨h4,R,S,H,E,O,N⟩:=w.leaf (m:=m) (k:=5) (s:=s) ok (rm.le Ab) (.inl rfl) cW Ab p bf;by_cases hz:i=0
 .subst hz;simp only[↓reduceIte];refine⟨R,S,?_,O,N⟩;rw[Af,bP,t89];rcases hk with hk|hk<;>by_cases Qo:PF r<;>by_cases h0:bf=0
  all_goals first|rw[Ae Qo] at F0|rw[Ac Qo] at F0
  all_goals subst F0
  all_goals first
   |(rw[<-nO h0] at hvl;simp only[abS,Nat.reduceLeDiff,↓reduceIte,AR,f.Ad,r2.Ad,Ca,hk,(A5:¬(2:Int)=4),AZ,y,AI Qo,rb.Ad,f3,b3,w.l0,q.Ad,hvl,A0 h0,(A5:¬(0:Int)<((0:Nat):Int)),rd.Ad,BO,H.Ad,E.Ad];done)
   |(rw[<-nO h0] at hvl;simp only[abS,Nat.reduceLeDiff,↓reduceIte,AR,f.Ad,r2.Ad,Ca,hk,(A5:¬(2:Int)=4),AZ,y,AG Qo,rb.Ad,f3,b3,w.l0,q.Ad,hvl,A0 h0,(A5:¬(0:Int)<((0:Nat):Int)),rd.Ad,BO,H.Ad,E.Ad];done)
   |(rw[UM h0] at g;simp only[abS,Nat.reduceLeDiff,↓reduceIte,AR,f.Ad,r2.Ad,Ca,hk,(A5:¬(2:Int)=4),AZ,y,AI Qo,rb.Ad,f3,b3,w.l0,q.Ad,hvl,h0,g.Ad,(A5:¬(0:Int)<((0:Nat):Int)),rd.Ad,BO,H.Ad,E.Ad];done)
   |(rw[UM h0] at g;simp only[abS,Nat.reduceLeDiff,↓reduceIte,AR,f.Ad,r2.Ad,Ca,hk,(A5:¬(2:Int)=4),AZ,y,AG Qo,rb.Ad,f3,b3,w.l0,q.Ad,hvl,h0,g.Ad,(A5:¬(0:Int)<((0:Nat):Int)),rd.Ad,BO,H.Ad,E.Ad];done)
 .obtain⟨j,rfl⟩:∃j,i=j+1:=⟨i-1,Ab⟩;have hj:j<(b.a.nd p).A8.length:=Ab;rw[Ac hz,Fb,Ai hj];simp only
  have ht:=ok.ok.MO p hp _ (AN hj);have B:=AV.BN (k:= .i64) vO hj;rw[Cp] at B;have C:AB (.int .sub) [I ((j+1:Nat):Int),I 1]=some (I (j:Int)):=by have:=If (n:=j+1) Ab Ab;simpa using this
  have Ť:(0:Int)<((j+1:Nat):Int):=Ab;generalize hte:(b.a.nd p).A8[j]=A at*;have D:=Ms w A;by_cases z:(b.a.nd A).kind=5
  .rw[Ae z];have jR:=rm.data A;obtain⟨h8,J,X,U,_⟩:=d.wr ht.1 (k:=7) A5 (v:= .str ((b.a.nd A).data++s)) rfl (p:=⟨{b.a.nd A with data:=(b.a.nd A).data++s},(pR ps A).kv,(pR ps A).av,d.MO ht.1,d.mv ht.1⟩) (by simp only[RN.row];rw[(d.pn ht.1).2];rfl);obtain⟨V,T⟩:=w.vQ (G':=Ju a n P) ⟨n,P,_,X,rfl⟩ (by rw[eG];exact U);refine⟨h8,_,?_,V,T⟩;have K:=cU (s:=(b.a.nd A).data) (u:=s) Ab;rw[Af,bP,t89];rcases hk with hk|hk<;>by_cases Qo:PF r<;>by_cases h0:bf=0
   all_goals first|rw[Ae Qo] at F0|rw[Ac Qo] at F0
   all_goals subst F0
   all_goals first
    |(rw[<-nO h0] at hvl;simp only[abS,Nat.reduceLeDiff,↓reduceIte,AR,f.Ad,r2.Ad,Ca,hk,(A5:¬(2:Int)=4),AZ,y,AI Qo,rb.Ad,f3,b3,w.l0,q.Ad,hvl,A0 h0,Ť,C,B,D.Ad,A0 z,d.nodes,d.addr ht.1,d.f7 ht.1,K,J];done)
    |(rw[<-nO h0] at hvl;simp only[abS,Nat.reduceLeDiff,↓reduceIte,AR,f.Ad,r2.Ad,Ca,hk,(A5:¬(2:Int)=4),AZ,y,AG Qo,rb.Ad,f3,b3,w.l0,q.Ad,hvl,A0 h0,Ť,C,B,D.Ad,A0 z,d.nodes,d.addr ht.1,d.f7 ht.1,K,J];done)
    |(rw[UM h0] at g;simp only[abS,Nat.reduceLeDiff,↓reduceIte,AR,f.Ad,r2.Ad,Ca,hk,(A5:¬(2:Int)=4),AZ,y,AI Qo,rb.Ad,f3,b3,w.l0,q.Ad,hvl,h0,g.Ad,Ť,C,B,D.Ad,A0 z,d.nodes,d.addr ht.1,d.f7 ht.1,K,J];done)
    |(rw[UM h0] at g;simp only[abS,Nat.reduceLeDiff,↓reduceIte,AR,f.Ad,r2.Ad,Ca,hk,(A5:¬(2:Int)=4),AZ,y,AG Qo,rb.Ad,f3,b3,w.l0,q.Ad,hvl,h0,g.Ad,Ť,C,B,D.Ad,A0 z,d.nodes,d.addr ht.1,d.f7 ht.1,K,J];done)
  .rw[Ac z];refine⟨R,S,?_,O,N⟩;rw[Af,bP,t89];rcases hk with hk|hk<;>by_cases Qo:PF r<;>by_cases h0:bf=0
   all_goals first|rw[Ae Qo] at F0|rw[Ac Qo] at F0
   all_goals subst F0
   all_goals first
    |(rw[<-nO h0] at hvl;simp only[abS,Nat.reduceLeDiff,↓reduceIte,AR,f.Ad,r2.Ad,Ca,hk,(A5:¬(2:Int)=4),AZ,y,AI Qo,rb.Ad,f3,b3,w.l0,q.Ad,hvl,A0 h0,Ť,C,B,D.Ad,z,rd.Ad,BO,H.Ad,E.Ad];done)
    |(rw[<-nO h0] at hvl;simp only[abS,Nat.reduceLeDiff,↓reduceIte,AR,f.Ad,r2.Ad,Ca,hk,(A5:¬(2:Int)=4),AZ,y,AG Qo,rb.Ad,f3,b3,w.l0,q.Ad,hvl,A0 h0,Ť,C,B,D.Ad,z,rd.Ad,BO,H.Ad,E.Ad];done)
    |(rw[UM h0] at g;simp only[abS,Nat.reduceLeDiff,↓reduceIte,AR,f.Ad,r2.Ad,Ca,hk,(A5:¬(2:Int)=4),AZ,y,AI Qo,rb.Ad,f3,b3,w.l0,q.Ad,hvl,h0,g.Ad,Ť,C,B,D.Ad,z,rd.Ad,BO,H.Ad,E.Ad];done)
    |(rw[UM h0] at g;simp only[abS,Nat.reduceLeDiff,↓reduceIte,AR,f.Ad,r2.Ad,Ca,hk,(A5:¬(2:Int)=4),AZ,y,AG Qo,rb.Ad,f3,b3,w.l0,q.Ad,hvl,h0,g.Ad,Ť,C,B,D.Ad,z,rd.Ad,BO,H.Ad,E.Ad];done)
def RX.Mo{s:Aq}{p bf x:Int}(hstart:(¬x=0/\p=x/\bf=0)\/(x=0/\BZ cx 208 [Pt bi 0,I 0] h (.tuple [I p,I bf]) h))(w:RX h bi a o c t G b)(ok:Ez b)(rm:B9 b (m+1))(hs:s.length<=100000):
  ∃h' G',BZ cx 90 [Pt bi 0,.str s,I x] h (.tuple []) h'/\RX h' bi a o c t G' {b with a:=BS.E3 b.a s p bf}/\DE h (Bw bi G) h' (Bw bi G'):=by
 have r2:=Ms w p;unfold BS.E3;by_cases hk:Ld (b.a.nd p).kind
 .rw[Ae hk];have hp:b.a.has p:=by
   by_cases hp:b.a.has p;.exact hp
   .rw[HF hp] at hk;unfold Ld at hk;simp at hk
  have cW:=ok.ok.CM p hp;have rd:=wD w p;rw[Ae hp] at rd;obtain⟨y,u,v,f,e,q,n⟩:=w.leaf (m:=m) (k:=6) (s:=s) ok rm (.inr rfl) cW hs p bf;refine⟨u,v,?_,q,n⟩;rw[Af,lp,t90];rcases hstart with⟨hx,rfl,rfl⟩|⟨hx,d⟩
  .rcases hk with hk|hk|hk<;>simp only[abS,Nat.reduceLeDiff,↓reduceIte,AR,AZ,r2.Ad,Ca,hk,(A5:¬(2:Int)=1),(A5:¬(4:Int)=1),(A5:¬(4:Int)=2),w.l0,rd.Ad,BO,f.Ad,e.Ad,hx]
  .rcases hk with hk|hk|hk<;>simp only[abS,Nat.reduceLeDiff,↓reduceIte,AR,AZ,r2.Ad,Ca,hk,(A5:¬(2:Int)=1),(A5:¬(4:Int)=1),(A5:¬(4:Int)=2),w.l0,rd.Ad,BO,f.Ad,e.Ad,A0 hx,d.Ad]
 .rw[Ac hk];refine⟨h,G,?_,w,.refl⟩;unfold Ld at hk;have j:¬(b.a.nd p).kind=1:=Ab;have i:¬(b.a.nd p).kind=2:=Ab;have g:¬(b.a.nd p).kind=4:=Ab;rw[Af,lp,t90];rcases hstart with⟨hx,rfl,rfl⟩|⟨hx,d⟩
  .simp only[abS,Nat.reduceLeDiff,↓reduceIte,AR,AZ,r2.Ad,Ca,j,i,g,hx]
  .simp only[abS,Nat.reduceLeDiff,↓reduceIte,AR,AZ,r2.Ad,Ca,j,i,g,A0 hx,d.Ad]
def aPH(w:RX h bi a o c t G b)(ok:Ez b)(rm:B9 b (m+1))(hnm:Nm b.a)(s:Aq)(hs:s.length<=100000)(x:Int):
  ∃h' G',BZ cx 90 [Pt bi 0,.str s,I x] h (.tuple []) h'/\RX h' bi a o c t G' (b.KY s x)/\DE h (Bw bi G) h' (Bw bi G'):=by
 unfold BS.KY;by_cases h0:x=0;.rw[Ae h0];exact RX.Mo (p:=(b.place 0).1) (bf:=(b.place 0).2) (.inr ⟨h0,wF w ok rm hnm 0⟩) w ok rm hs
 .rw[Ac h0];exact RX.Mo (p:=x) (bf:=0) (.inl ⟨h0,rfl,rfl⟩) w ok rm hs
end
def jG(n:Int)(l:List Cu):List Cu:=if 0<=Fh n l then Bf l (Fh n l).toNat else l
def jH{U:Type}{l:List U}{k:Nat}{x:U}(hk:k<l.length):(Bf l k).take k++x::(Bf l k).drop k=l.set k x:=by
 have h1:(l.take k).length=k:=by rw[As];omega
 unfold Bf;rw[HN h1,Jv h1,B2,Ae hk]
def Uq{p n:Nat}(h:p<=n):CG (p:Int) n=p:=by unfold CG;omega
section
variable{h h':Ah}{bi a:Nat}{o c t:Aa}{G G' F:Nat->Prop}{b:BS}{x:Int}{m:Nat}
variable{nm:Aq}{av:Aa}{l:List A6}{r:List Aa}{sp p:Int}
def B7.ix{d:List Cu}{n:Nat}(hc:B7 d c)(hb:d.length<=900000000)(x:Int)(h:Ah):BZ cx 222 [c,I x] h (I (Fh x d)) h:=by obtain⟨fs,Hh,hv⟩:=hc;have:=aOc (h:=h) hv (by rw[<-Hh,Al] at hb;omega) x;rwa [XJ,Hh] at this
def B7.wo{d:List Cu}(hc:B7 d c)(hb:d.length<=900000000){k:Nat}(hk:k<d.length)(h:Ah):∃u,BZ cx 283 [c,I (k:Int)] h u h/\B7 (Bf d k) u/\u.cells=[u]:=by
 obtain⟨fs,Hh,hv⟩:=hc;have hl:d.length=fs.length:=by rw[<-Hh,Al]
 obtain⟨u,r,hu⟩:=aIX (h:=h) hv Ab (k:=k) Ab;exact⟨u,r,⟨Bf fs k,by unfold Bf;rw[BL,Ge,JA,Hh],hu⟩,AV.cells hu⟩
def B7.wi{d:List Cu}(hc:B7 d c)(hb:d.length<=900000000){e:Cu}{v:Aa}(hv:Bz e.AA v)(he:e.AA.length<=1000000000)(i:Int)(h:Ah):∃u,BZ cx 100 [c,.agg [I e.node,.str e.name,v],I i] h u h/\B7 (d.take (CG i d.length)++e::d.drop (CG i d.length)) u/\u.cells=[u]:=by
 obtain⟨fs,Hh,Wb⟩:=hc;have hl:d.length=fs.length:=by rw[<-Hh,Al]
 obtain⟨u,f,Qf,r,hu⟩:=f82 (h:=h) Wb Ab (e:=⟨e,v,hv⟩) he i;refine⟨u,r,⟨_,?_,hu⟩,AV.cells hu⟩;rw[BL,Bs,Ge,JA,Hh,Qf,hl]
def pg(w:RX h bi a o c t G b)(hc:B7 b.Bb c)(hb:b.Bb.length<=900000000)(x:Int):
  ∃h' c',BZ cx 354 [Pt bi 0,I x] h (.tuple []) h'/\RX h' bi a o c' t G {b with Bb:=jG x b.Bb}/\B7 (jG x b.Bb) c'/\DE h (Bw bi G) h' (Bw bi G):=by
 have d:=hc.ix (n:=0) hb x h;unfold jG;by_cases h0:0<=Fh x b.Bb;.obtain⟨q,hq,e,_⟩:=Hz h0;obtain⟨u,r2,hu,f⟩:=hc.wo hb hq h;rw[Ae h0];rw[e] at d⊢;rw[AT];refine⟨_,u,?_,w.Lj,hu,Bq⟩;rw[Af,uI,aC9];simp only[abS,w.l3,d.Ad,(Ab:(0:Int)<=(q:Int)),r2.Ad,w.st (k:=3) (v0:=c) rfl f]
 .rw[Ac h0];refine⟨h,c,?_,w,hc,.refl⟩;rw[Af,uI,aC9];simp only[abS,w.l3,d.Ad,h0]
structure aq(h:Ah)(bi a:Nat)(t:Aa)(G0:Nat->Prop)(fe blk anc:Int)(k N m:Nat)(s0:BS×Int×Nat)(n:Nat)(h1:Ah)(o c:Aa)(G:Nat->Prop)(s:BS×Int×Nat):Prop where
 le:n<=N
 w:RX h1 bi a o c t G s.1
 hc:B7 s.1.Bb c
 ok:Ez s.1
 rm:B9 s.1 (m+4*n)
 nm:Nm s.1.a
 last:s.1.a.has s.2.1
 x:DE h (Bw bi G0) h1 (Bw bi G)
 Œ:s.2.2<=1000000000
 len:k+n+1<=s.1.AY.length
 eq:BS.Kt blk anc (k+1+N) k N s0=BS.Kt blk anc (k+1+N) k n s
 Vn:0<=Fh fe s.1.Bb
 AY:s.1.AY.take (k+n+1)=s0.1.AY.take (k+n+1)
 feh:s.1.a.has fe
def aq.step{h1 h2:Ah}{D E B z:Aa}{C A:Nat->Prop}{fe blk anc:Int}{k N n:Nat}{s0 s s':BS×Int×Nat}(i:aq h bi a t G fe blk anc k N m s0 (n+1) h1 D E C s)(e:s'=BS.Fq blk anc (k+1+N) (k+(n+1)) s.1 s.2.1 s.2.2)
  (w:RX h2 bi a B z t A s'.1) (hc:B7 s'.1.Bb z) (x:DE h1 (Bw bi C) h2 (Bw bi A)) (mk:s'.2.2<=1000000000) (Vn:0<=Fh fe s'.1.Bb):
  aq h bi a t G fe blk anc k N m s0 n h2 B z A s':=by
 obtain⟨g,last',q⟩:=Xo (blk:=blk) (anc:=anc) (far:=k+1+N) (i:=k+(n+1)) (m:=s.2.2) i.ok i.last;have hl:=i.len;obtain⟨f,v⟩:=ZE (blk:=blk) (anc:=anc) (far:=k+1+N) (i:=k+(n+1)) (l:=s.2.1) (mk:=s.2.2) (b:=s.1) Ab;have d:=Ot (blk:=blk) (anc:=anc) (far:=k+1+N) (i:=k+(n+1)) (l:=s.2.1) (mk:=s.2.2) (m:=m+4*n) (i.rm.le Ab);have j:=Nm.Fq (blk:=blk) (anc:=anc) (far:=k+1+N) (i:=k+(n+1)) (l:=s.2.1) (mk:=s.2.2) i.nm i.rm;have y:BS.Kt blk anc (k+1+N) k (n+1) s=BS.Kt blk anc (k+1+N) k n (BS.Fq blk anc (k+1+N) (k+(n+1)) s.1 s.2.1 s.2.2):=rfl;have u:=i.eq.trans y;have NS:=i.AY;rw[<-e] at g last' q f v d j u;refine⟨by have:=i.le;omega,w,hc,g,d,j,last',i.x.trans x,mk,Ab,u,Vn,?_,q.has _ i.feh⟩;have:=Ce (λl=>l.take (k+(n+1))) NS;simp only[FA] at this;rw[(Ab:k+n+1=k+(n+1)),f];rwa [Cs Ab] at this
def aKE{anc fe:Int}{k N f:Nat}(w:RX h bi a o c t G b)(hc:B7 b.Bb c)(ok:Ez b)(rm:B9 b (m+4*N))(hnm:Nm b.a)(hN:k+1+N<b.AY.length)(hf:f<=1000000000){d:Item}(zK:b.AY[k+1+N]=d)(PQ:AP (BB fe) b.AY=(k:Int))(Vn:0<=Fh fe b.Bb)(feh:b.a.has fe):
  ∃h' o' c' G' s',BZ cx 356 [Pt bi 0,I (f:Int),I (k:Int),I ((k+1+N:Nat):Int),I anc] h (.tuple [I s'.2.1,I (s'.2.2:Int)]) h'/\s'=BS.Kt d.node anc (k+1+N) k N (b,d.node,f)/\aq h bi a t G fe d.node anc k N m (b,d.node,f) 0 h' o' c' G' s':=by
 have ho:=rm.AY;have dT:AX=140737488355328:=rfl;have nh:b.a.has d.node:=(ok.op d (by rw[<-zK];exact AN _)).1;have Jc:Ev cx 356 [Pt bi 0,I (f:Int),I (k:Int),I ((k+1+N:Nat):Int),I anc] h λr h'=>∃o' c' G' s',r= .tuple [I s'.2.1,I (s'.2.2:Int)]/\s'=BS.Kt d.node anc (k+1+N) k N (b,d.node,f)/\aq h bi a t G fe d.node anc k N m (b,d.node,f) 0 h' o' c' G' s':=by
  unfold Ev;have ld:Bg h none (Pt bi 2)=some o:=w.ld 2;have e0:=AV.BN (k:= .i64) w.o hN;rw[zK,Item.row] at e0;have i1:=C6 (a:=((k+1+N:Nat):Int)) (b:=1) Ab Ab;rw[(Ab:((k+1+N:Nat):Int)-1=((k+N:Nat):Int))] at i1;rw[Â,aIa];simp only[BJ,ld,e0,i1];refine Bj (λz:Nat×Int×Nat=>[I z.2.1,I (z.2.2:Int),I ((k+z.1:Nat):Int)]) (λz h1=>∃o c G1 b1,aq h bi a t G fe d.node anc k N m (b,d.node,f) z.1 h1 o c G1 (b1,z.2)) (λz=>z.1) (N,d.node,f) rfl ⟨o,c,G,b,⟨Ag _,w,hc,ok,rm,hnm,nh,.refl,hf,Dp,rfl,Vn,rfl,feh⟩⟩ ?_;rintro⟨n,last,mk⟩ h1 ⟨T,W,G1,b1,i⟩;simp only at i;cases n with
  |zero=>simp only[abS,↓reduceIte,(Ab:¬(k:Int)<(k:Int))];exact⟨_,rfl,T,W,G1,(b1,last,mk),rfl,i.eq.symm,i⟩
  |succ n=>
   have hnN:=i.le;have hlen:=i.len;simp only at hlen;have ZF:k+(n+1)<b1.AY.length:=Ab;have hwo:=i.rm.AY;have hwa:=i.rm.Bb;have ż:=i.rm.tm;simp only at hwo hwa;have j:RX h1 bi a T W t G1 b1:=i.w;have J:B7 b1.Bb W:=i.hc;have ķ:mk<=1000000000:=i.Œ;have VE:Bg h1 none (Pt bi 2)=some T:=j.ld 2;have U:=AV.BN (k:= .i64) j.o ZF;have VD:b1.AY.getD (k+(n+1)) Item.zero=b1.AY[k+(n+1)]:=by rw[AL,Ai ZF];rfl
   have hxf:b1.AY[k+(n+1)].node≠fe:=by have h2:=Ce (λl=>l[k+(n+1)]?) i.AY;simp only[Cj] at h2;rw[Ae Ab,Ae Ab,Ai ZF,Ai Ab] at h2;obtain⟨_,_,h3⟩:=II PQ;have h4:=h3 (k+(n+1)) Ab Ab;rw[D3 h2];intro h5;unfold BB at h4;rw[h5] at h4;simp at h4
   generalize hxe:b1.AY[k+(n+1)]=x at*;obtain⟨q,hq,zN,hq0,hq2,hq3⟩:=Hz i.Vn;simp only at hq zN;have r2:=J.ix (n:=0) Ab x.node h1;have bo:(k:Int)<((k+(n+1):Nat):Int):=Ab;have dec:AB (.int .sub) [I ((k+(n+1):Nat):Int),I 1]=some (I ((k+n:Nat):Int)):=by have:=If (n:=k+(n+1)) Ab Ab;rwa [(Ab:k+(n+1)-1=k+n)] at this
   have inc:AB (.int .add) [I ((k+(n+1):Nat):Int),I 1]=some (I ((k+(n+1)+1:Nat):Int)):=BQ Ab;have s:AB (.int .sub) [I ((k+1+N:Nat):Int),I ((k+(n+1):Nat):Int)]=some (I ((N-n:Nat):Int)):=by rw[C6 Ab Ab];congr 2;omega
   have aVe:x.row.length=4:=rfl;have K:∀{h2:Ah} {O V:Aa} {G2:Nat->Prop} {b2:BS},RX h2 bi a O V t G2 b2->b2.AY=b1.AY->∃M L R B,Bg h2 none (Pt bi 2)=some O/\AB (.HO 4 false false true) [O,I ((k+(n+1):Nat):Int)]=some M/\AB (.append 4 40) [.slnil,M]=some L/\AB (.HO 4 false true false) [O,I ((k+(n+1)+1:Nat):Int)]=some R/\AB (.append 4 40) [L,R]=some B/\Cw h2 1 (Pt bi 2) B=some (Am.put h2 bi 2 B)/\RX (Am.put h2 bi 2 B) bi a B V t G2 {b2 with AY:=Bf b1.AY (k+(n+1))}:=by
    intro h2 O V G2 b2 A P;have X3:B4 b1.AY O:=by rw[<-P];exact A.o
    obtain⟨M,H,q1⟩:=AV.Mh X3 (k:= .i64) (n:=k+(n+1)) Ab;obtain⟨L,E,q2⟩:=AV.Gu (b:=40) q1 (by rw[As];omega);obtain⟨R,D,q3⟩:=AV.RZ X3 (k:= .i64) (n:=k+(n+1)+1) Ab;obtain⟨B,C,q4⟩:=AV.aX (b:=40) q2 q3 (by rw[As,Bc];omega);exact⟨M,L,R,B,A.ld 2,H,E,D,C,A.st (k:=2) (v0:=O) rfl (AV.cells q4),A.IH q4⟩
   by_cases he:Fh x.node b1.Bb<0
   .obtain⟨M,L,R,B,_,H,E,D,C,X,Q⟩:=K j rfl;have es:({b1 with AY:=Bf b1.AY (k+(n+1))},last,mk)=BS.Fq d.node anc (k+1+N) (k+(n+1)) b1 last mk:=by unfold BS.Fq;simp only[VD];rw[Ae he]
    have y:=i.step es Q J Bq ķ i.Vn;by_cases Nc:(3:Int)<((N-n:Nat):Int);.simp only[abS,Nat.reduceLeDiff,↓reduceIte,AR,Fc,bo,VE,U,j.l3,r2.Ad,AZ,s,Nc,(Ab:¬(0:Int)<=Fh x.node b1.Bb),he,H,E,inc,D,C,X,dec];exact AM.next (n,last,mk) rfl ⟨_,_,_,_,y⟩ Dp
    .simp only[abS,Nat.reduceLeDiff,↓reduceIte,AR,Fc,bo,VE,U,j.l3,r2.Ad,AZ,s,Nc,he,H,E,inc,D,C,X,dec];exact AM.next (n,last,mk) rfl ⟨_,_,_,_,y⟩ Dp
   .obtain⟨p,hp,ep,Nv,YC,hp3⟩:=Hz (Ji.1 he);have Ef:(0:Int)<=(p:Int):=Ab;rw[ep] at r2;have ept:(Fh x.node b1.Bb).toNat=p:=by rw[ep,AT]
    have hpf:b1.Bb[p].node≠fe:=by rw[YC];exact hxf
    by_cases Nc:(3:Int)<((N-n:Nat):Int)
    .obtain⟨V,r3,IS,aKF⟩:=J.wo Ab hp h1;have A:=j.Lj (u:=V) (l:=Bf b1.Bb p);obtain⟨M,L,R,B,Ĉ,H,E,D,C,X,Q⟩:=K A rfl;have es:({b1 with Bb:=Bf b1.Bb p,AY:=Bf b1.AY (k+(n+1))},last,if p<mk then mk-1 else mk)=BS.Fq d.node anc (k+1+N) (k+(n+1)) b1 last mk:=by unfold BS.Fq;simp only[VD];rw[Ac he,Ae (Ab:k+(n+1)+3<k+1+N),ept]
     have y:=i.step es Q IS (Bq.trans Bq) (by simp only;split<;>omega) (by simp only;rw[ZD i.Vn hp hpf];have:=i.Vn;unfold down;split<;>omega);have s3:=j.st (k:=3) (v0:=W) rfl aKF;by_cases hpm:(p:Int)<(mk:Int);.have dm:=If (n:=mk) Ab Ab;rw[Ae (Ab:p<mk)] at y;simp only[abS,Nat.reduceLeDiff,↓reduceIte,AR,Fc,bo,VE,U,j.l3,r2.Ad,AZ,s,Nc,Ef,r3.Ad,s3,hpm,dm,(A5:(-1:Int)<0),Ĉ,H,E,inc,D,C,X,dec];exact AM.next (n,last,mk-1) rfl ⟨_,_,_,_,y⟩ Dp
     .rw[Ac (Ab:¬p<mk)] at y;simp only[abS,Nat.reduceLeDiff,↓reduceIte,AR,Fc,bo,VE,U,j.l3,r2.Ad,AZ,s,Nc,Ef,r3.Ad,s3,hpm,(A5:(-1:Int)<0),Ĉ,H,E,inc,D,C,X,dec];exact AM.next (n,last,mk) rfl ⟨_,_,_,_,y⟩ Dp
    .obtain⟨fs,Hh,hv⟩:=J;have Hn:b1.Bb.length=fs.length:=by rw[<-Hh,Al]
     have aDT:p<fs.length:=Ab;have efp:fs[p].c=b1.Bb[p]:=by simp only[<-Hh,CY]
     have P:=AV.BN (k:= .i64) hv aDT;have zU:fs[p].v.cells=[fs[p].v]:=AV.cells fs[p].ok;have hr:Oo fs[p].c.name fs[p].v [I 2,.str fs[p].c.name,ff,S [],ff,S [],ff,ff,fs[p].v,ff,S [],.int .i32 0]:=⟨I 2,ff,S [],ff,S [],ff,ff,ff,S [],.int .i32 0,rfl⟩;have Kv:=i.rm.DD _ (AN hp);rw[<-efp] at Kv;obtain⟨h2,G2,r4,A,x2⟩:=Ć (m:=m+4*n) j i.ok.ba (i.rm.le Ab) i.nm hr fs[p].ok Kv.2 Kv.1 anc 1;obtain⟨nv,fr,le2⟩:=Px (nm:=fs[p].c.name) (at_:=fs[p].c.AA) (p:=anc) i.ok JQ;have Uk:=I1 (m:=m+4*n+1) (nm:=fs[p].c.name) (l:=fs[p].c.AA) (sp:=1) (p:=anc) (i.rm.le Ab) Kv.2;have NS:(b1.EB fs[p].c.name fs[p].c.AA 1 anc).AY=b1.AY:=by unfold BS.EB;rw[Ae JQ]
     have SQ:(b1.EB fs[p].c.name fs[p].c.AA 1 anc).Bb=b1.Bb:=by unfold BS.EB;rw[Ae JQ]
     have es0:BS.Fq d.node anc (k+1+N) (k+(n+1)) b1 last mk=({b1.EB fs[p].c.name fs[p].c.AA 1 anc with a:=(b1.EB fs[p].c.name fs[p].c.AA 1 anc).a.FV (b1.Gw fs[p].c.name fs[p].c.AA 1).node last 0,AY:=(b1.EB fs[p].c.name fs[p].c.AA 1 anc).AY.set (k+(n+1)) (b1.Gw fs[p].c.name fs[p].c.AA 1),Bb:=(b1.EB fs[p].c.name fs[p].c.AA 1 anc).Bb.set p {fs[p].c with node:=(b1.Gw fs[p].c.name fs[p].c.AA 1).node}},(b1.Gw fs[p].c.name fs[p].c.AA 1).node,if last=d.node then p+1 else mk):=by unfold BS.Fq;simp only[VD];rw[Ac he,Ac Ab,ept,AL,Ai hp,Hl,<-efp]
     have pO:=NG i.ok fr;have hna:=P9 i.ok fr;have hnf:(b1.Gw fs[p].c.name fs[p].c.AA 1).node≠fe:=λP=>fr.new (by rw[P];exact i.feh);have aDU:(b1.Gw fs[p].c.name fs[p].c.AA 1).name.length<=1000:=NI Kv.1;simp only at pO hna;generalize b1.Gw fs[p].c.name fs[p].c.AA 1=g at*;generalize b1.EB fs[p].c.name fs[p].c.AA 1 anc=b2 at*;have Ĉ:Bg h2 none (Pt bi 2)=some T:=A.ld 2;have X3:B4 b1.AY T:=j.o;obtain⟨M,H,q1⟩:=AV.Mh X3 (k:= .i64) (n:=k+(n+1)) Ab;obtain⟨L,E,q2⟩:=AV.Gu (b:=40) q1 (by rw[As];omega);have D:=AV.Ke (a:=g) (b:=40) q2 (by rw[As];omega);obtain⟨B,C,q4⟩:=AV.RZ X3 (k:= .i64) (n:=k+(n+1)+1) Ab;obtain⟨u5,p5,q5⟩:=AV.aX (f:=Item.row) (l:=b1.AY.take (k+(n+1))++[g]) (b:=40) .mk q4 (by rw[Au,As,Bc,Bp];omega);have es5:b1.AY.take (k+(n+1))++[g]++b1.AY.drop (k+(n+1)+1)=b2.AY.set (k+(n+1)) g:=by rw[NS,B2,Ae ZF,AJ];rfl
     rw[es5] at q5;have Ċ:AB (.BI 4) [.agg g.row]=some (.sl 4 [g.row]):=Mi;have s5:=A.st (k:=2) (v0:=T) rfl (AV.cells q5);have w3:=A.IH q5;have x3:=x2.trans (Bq (k:=2) (v:=u5));generalize put h2 bi 2 u5=h3 at*;have Z:=w3.l3;have hc0:B7 b1.Bb W:=⟨fs,Hh,hv⟩;obtain⟨V,r6,IS,aKF⟩:=hc0.wo Ab hp h3;obtain⟨c3,r7,aKG,aPI⟩:=IS.wi (by rw[He hp];omega) (e:={fs[p].c with node:=g.node}) fs[p].ok (by have:=Kv.2.1;simp only;omega) (p:Int) h3;rw[Uq (by rw[He hp];omega),jH hp] at aKG;have s6:=w3.st (k:=3) (v0:=W) rfl aPI;have Q:=w3.Lj (u:=c3) (l:=b2.Bb.set p {fs[p].c with node:=g.node});have hc4:B7 (b2.Bb.set p {fs[p].c with node:=g.node}) c3:=by rw[SQ];exact aKG
     have x4:=x3.trans (Bq (k:=3) (v:=c3));generalize put h3 bi 3 c3=h4 at*;have Ŕ:=nv.mX (i:=g) (k:=k+(n+1)) ⟨fr.has,fr.kind,fr.A9,fr.name⟩ (by rw[NS];exact pO);have bn:=Ŕ.mY (e:={fs[p].c with node:=g.node}) (k:=p) ⟨fr.has,fr.kind⟩ (by simp only[SQ];exact hna);have rm4:B9 {b2 with AY:=b2.AY.set (k+(n+1)) g,Bb:=b2.Bb.set p {fs[p].c with node:=g.node}} (m+4*n+1):=by
      refine⟨Uk.n,Uk.at_,Uk.data,by simp only[Br];exact Uk.AY,by simp only[Br];exact Uk.Bb,Uk.tm,λe he=>?_,λi hi=>?_⟩
      .rcases Db he with he|rfl
       .exact Uk.DD e he
       .exact Kv
      .rcases Db hi with hi|rfl
       .exact Uk.X8 i hi
       .exact aDU
     obtain⟨er,h6,G6,r8,w6,x6⟩:=Q.dE bn.ba rm4 g.node last 0;have y:=i.step es0.symm w6 hc4 (x4.trans x6) (by simp only;split<;>omega) (by simp only;rw[SQ,iZ i.Vn hp hpf hnf];exact i.Vn);have Y:=Q.l0;have incp:=BQ (Ab:p<9223372036854775807);rw[Cl.row] at P;by_cases Rn:last=d.node;.rw[Ae Rn] at y;simp only[abS,Nat.reduceLeDiff,↓reduceIte,AR,Fc,bo,VE,U,j.l3,r2.Ad,AZ,s,Nc,(Ab:¬(p:Int)<0),P,zU,r4.Ad,Ĉ,H,E,Ċ,D,inc,C,p5,s5,Z,r6.Ad,r7.Ad,s6,A0 Rn,incp,Y,r8.Ad,dec];exact AM.next (n,g.node,p+1) rfl ⟨_,_,_,_,y⟩ Dp
     .rw[Ac Rn] at y;simp only[abS,Nat.reduceLeDiff,↓reduceIte,AR,Fc,bo,VE,U,j.l3,r2.Ad,AZ,s,Nc,(Ab:¬(p:Int)<0),P,zU,r4.Ad,Ĉ,H,E,Ċ,D,inc,C,p5,s5,Z,r6.Ad,r7.Ad,s6,Rn,Y,r8.Ad,dec];exact AM.next (n,g.node,mk) rfl ⟨_,_,_,_,y⟩ Dp
 obtain⟨r,h',hr,o',c',G',s',rfl,e',i'⟩:=Jc.ret;exact⟨h',o',c',G',s',hr,e',i'⟩
end
end Go.Am
end
