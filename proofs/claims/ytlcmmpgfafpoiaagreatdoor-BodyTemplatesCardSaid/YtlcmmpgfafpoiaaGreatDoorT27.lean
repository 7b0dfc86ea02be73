/- Lemmas -/
import Derived.Test.YtlcmmpgfafpoiaaGreatDoorT26
set_option linter.all false
set_option maxRecDepth 100000
section
namespace Go.Am
open Go
def Na(h:Ah)(lo:Nat)(v:Aa)(l:List Int):Prop:=(v= .slnil/\l=[])\/∃id,lo<=id/\v= .Cs id 0 l.length 1/\h[id]?=some (.cells (l.map (Aa.int .i64)))
def MD(h:Ah)(lo:Nat)(v:Aa)(l:List Cc):Prop:=(v= .slnil/\l=[])\/∃id,∃fs:List Ci,lo<=id/\v= .Cs id 0 fs.length 3/\h[id]?=some (.cells (fs.map Ci.row).flatten)/\fs.map (·.c)=l
section
variable{h h':Ah}{lo lo':Nat}{v:Aa}
def Na.cells{l:List Int}(hv:Na h lo v l):v.cells=[v]:=by rcases hv with⟨rfl,_⟩|⟨id,_,rfl,_⟩<;>rfl
def MD.cells{l:List Cc}(hv:MD h lo v l):v.cells=[v]:=by rcases hv with⟨rfl,_⟩|⟨id,fs,_,rfl,_⟩<;>rfl
def Na.Dn{l:List Int}(hv:Na h lo v l)(hf:∀i,lo<=i->i<h.length->h'[i]?=h[i]?):Na h' lo v l:=by
 rcases hv with hv|⟨id,h1,h2,d⟩
 .exact .inl hv
 .exact .inr ⟨id,h1,h2,by rw[hf id h1 (Al.1 d).1];exact d⟩
def MD.Dn{l:List Cc}(hv:MD h lo v l)(hf:∀i,lo<=i->i<h.length->h'[i]?=h[i]?):MD h' lo v l:=by
 rcases hv with hv|⟨id,fs,h1,h2,d,e⟩
 .exact .inl hv
 .exact .inr ⟨id,fs,h1,h2,by rw[hf id h1 (Al.1 d).1];exact d,e⟩
def MD.low{l:List Cc}(hv:MD h lo v l)(hl:lo'<=lo):MD h lo' v l:=by
 rcases hv with hv|⟨id,fs,h1,h2⟩
 .exact .inl hv
 .exact .inr ⟨id,fs,Ab,h2⟩
def Na.RI{l:List Int}(hv:Na h lo v l):P3 h v l:=by
 rcases hv with⟨rfl,rfl⟩|⟨id,_,rfl,hc⟩
 .exact⟨rfl,λk hk=>by simp at hk⟩
 .refine⟨rfl,λk hlt=>⟨Pt id k,by have:=E0 (id:=id) (z:=1) (k:= .i64) hlt;rwa [FH] at this,?_⟩⟩;simp only[A7,hc,Ex];simp[hlt]
def aBl{h u:Ah}{V:Aa}{L:List Int}(i:Na (h++u) h.length V L)(hb:L.length<=1000000000)(x:Int):∃d g,Fw (h++u) 1 8 V (.sl 1 [[I x]])=some (h++d,g)/\Na (h++d) h.length g (L++[x]):=by
 have aT:AS=140737488355328:=rfl;rcases i with⟨rfl,rfl⟩|⟨id,Ih,rfl,hc⟩
 .exact⟨u++[.cells [I x]],.Cs (h++u).length 0 1 1,by rw[<-AI];rfl,.inr ⟨(h++u).length,AH,rfl,AH⟩⟩
 .have hr:∀r∈L.map BH,r.length=1:=Kq (f:=BH) (λ_=>rfl) L;have JO:(h++u)[id]?=some (.cells (L.map BH).flatten):=by rw[N3];exact hc
  have hg:=IF (b:=8) (AD:=L.map BH) (r2:=[[I x]]) (v:= .sl 1 [[I x]]) hr AU JO .mk AH (by rw[Aj];simp;omega);rw[Aj] at hg;have e:(h++u).set id .CF++[Du.cells (L.map BH++[[I x]]).flatten]=h++(u.set (id-h.length) .CF++[.cells ((L++[x]).map (Aa.int .i64))]):=by rw[BB _ _ Ih,AI,K5,N3,BE];rfl
  rw[e] at hg;have aQ:(h++(u.set (id-h.length) Du.CF++[.cells ((L++[x]).map (Aa.int .i64))]))=(h++u.set (id-h.length) Du.CF)++[.cells ((L++[x]).map (Aa.int .i64))]:=by rw[AI]
  have lM:(h++u.set (id-h.length) Du.CF).length=(h++u).length:=AH;refine⟨_,_,hg,.inr ⟨(h++u).length,AH,AH,?_⟩⟩;rw[aQ,<-lM,Bd (Ag _),Dc];rfl
def aIg{h u:Ah}{V:Aa}{L:List Cc}(g:MD (h++u) h.length V L)(hb:L.length<=1000000000)(x:Ci):∃d f,Fw (h++u) 3 48 V (.sl 3 [x.row])=some (h++d,f)/\MD (h++d) h.length f (L++[x.c]):=by
 have aT:AS=140737488355328:=rfl;rcases g with⟨rfl,rfl⟩|⟨id,fs,Ih,rfl,hc,rfl⟩
 .exact⟨u++[.cells (([x]:List Ci).map Ci.row).flatten],.Cs (h++u).length 0 1 3,by rw[<-AI];rfl,.inr ⟨(h++u).length,[x],AH,rfl,AH,rfl⟩⟩
 .rw[Aj] at hb;have hg:=IF (b:=48) (AD:=fs.map Ci.row) (r2:=[x.row]) (v:= .sl 3 [x.row]) (OB fs) AU hc .mk AH (by rw[Aj];simp;omega);rw[Aj] at hg;have e:(h++u).set id .CF++[.cells (fs.map Ci.row++[x.row]).flatten]=h++(u.set (id-h.length) .CF++[.cells ((fs++[x]).map Ci.row).flatten]):=by rw[BB _ _ Ih,AI,BE];rfl
  rw[e] at hg;have aQ:(h++(u.set (id-h.length) Du.CF++[.cells ((fs++[x]).map Ci.row).flatten]))=(h++u.set (id-h.length) Du.CF)++[.cells ((fs++[x]).map Ci.row).flatten]:=by rw[AI]
  have lM:(h++u.set (id-h.length) Du.CF).length=(h++u).length:=AH;refine⟨_,_,hg,.inr ⟨(h++u).length,fs++[x],AH,AH,?_,AH⟩⟩;rw[aQ,<-lM,Bd (Ag _),Dc];rfl
end
structure SS where
 mode:Int
 SN:Int
 tm:List Int
 AW:List Int
 A5:List Cc
 head:Int
 MT:Int
 fs:Bool
 EV:Bool
 oK:An
 skip:Bool
 sw:Int
 stop:Bool
def BS.WU(b:BS):SS:=⟨b.mode,b.SN,b.tm,b.AW.map Item.node,b.A5,b.head,b.MT,b.fs,b.EV,b.oK,b.skip,b.sw,b.stop⟩
def Ve(s:SS)(t o c:Aa):List Aa:=[I s.mode,I s.SN,t,o,c,I s.head,I s.MT,.bool s.fs,.bool s.EV,.str s.oK,.bool s.skip,I s.sw,.bool s.stop]
structure Tf(h:Ah)(lo:Nat)(s:SS)(t o c:Aa):Prop where
 t:RJ s.tm t
 o:Na h lo o s.AW
 c:MD h lo c s.A5
section
variable{h h':Ah}{bi a lo:Nat}{o c t:Aa}{G G' F:Nat->Prop}{b:BS}{x:Int}{m:Nat}
def Tf.Dn{s:SS}(w:Tf h lo s t o c)(hf:∀i,lo<=i->i<h.length->h'[i]?=h[i]?):Tf h' lo s t o c:=⟨w.t,w.o.Dn hf,w.c.Dn hf⟩
def vJ{h:Ah}{n:Nat}(hn:n<=1000000000):R2 h 3 48 [I 0,S [],.slnil] (I (n:Int)) (I (n:Int))=some (h++[.cells (List.replicate n [I 0,S [],.slnil]).flatten],.Cs h.length 0 n 3):=by
 have hm:AS=140737488355328:=rfl;unfold R2;simp only
 rw[Af ⟨Ab,Ab,Ab,rfl⟩];rfl
def aNm(w:BX h bi a o c t G b)(hc:B1 b.A5 c)(rm:BZ b m):∃t' o' c' u,BK cx 48 [Pt bi 0] h (.agg (Ve b.WU t' o' c')) (h++u)/\Tf (h++u) h.length b.WU t' o' c':=by
 have aT:AS=140737488355328:=rfl;have ho:=rm.AW;have QB:=rm.A5;have ye:=rm.tm;obtain⟨t',e0,Gm⟩:=ŝ w.t.1 Ab h;have B:t'.cells=[t']:=Gm.1.cells;obtain⟨fs,Gw,hv⟩:=hc;have Hm:b.A5.length=fs.length:=by rw[<-Gw,Aj]
 have s:=AV.CN w.o;have Jl:Ev cx 48 [Pt bi 0] h λr h'=>∃t' o' c' u,r= .agg (Ve b.WU t' o' c')/\h'=h++u/\Tf (h++u) h.length b.WU t' o' c':=by
  unfold Ev;rw[aC9,t48];simp only[abS,Nat.reduceLeDiff,↓reduceIte,AT,(Iu w).Ac,w.ld,IL,e0.Ac,BN,B,s];refine DW (i:=0) (λz:Aa×Nat=>[.agg [I b.mode,I b.SN,t',z.1,.slnil,I b.head,I b.MT,.bool b.fs,.bool b.EV,.str b.oK,.bool b.skip,I b.sw,.bool b.stop],I (z.2:Int)]) (λz h1=>z.2<=b.AW.length/\∃u,h1=h++u/\Na (h++u) h.length z.1 ((b.AW.take z.2).map Item.node)) (λz=>b.AW.length-z.2) (λz h1=>∃u,h1=h++u/\Na (h++u) h.length z.1 (b.AW.map Item.node)) (.slnil,0) rfl ⟨AZ _,[],AH,.inl ⟨rfl,AH⟩⟩ ?_ ?_
  .rintro⟨V,n⟩ h1 ⟨hn,u,rfl,l⟩;simp only at hn l;have M:=l.cells;rcases AQ n b.AW.length with hlt|Ei
   .have q:=AV.BM (k:= .i64) w.o hlt;rw[Item.row] at q;obtain⟨E,T,g1,j⟩:=aBl l (by rw[Aj,Aw];omega) b.AW[n].node;have g:=j.cells;have em:AB (.C8 1) [I b.AW[n].node]=some (.sl 1 [[I b.AW[n].node]]):=rfl;simp only[abS,Nat.reduceLeDiff,↓reduceIte,(Ab:(n:Int)<(b.AW.length:Int)),q,em,g1,g,BO (Ab:n<9223372036854775807)];exact .next (T,n+1) rfl ⟨hlt,E,rfl,by rw[AE hlt,BE];exact j⟩ Dv
   .rw[AF Ei] at l;simp only[abS,↓reduceIte,(Ab:¬(n:Int)<(b.AW.length:Int))];exact .HG (V,n) rfl ⟨u,rfl,l⟩
  .rintro⟨O,U⟩ h1 ⟨u,rfl,p⟩;simp only at p;have N:=p.cells;have w1:=w.Ib (u:=u);have A:=w1.l3;have lc:=AV.CN hv;simp only[abS,↓reduceIte,A,lc];refine qW (vJ (h:=h++u) (n:=fs.length) Ab) ?_;obtain⟨d,f⟩:∃d,d=h++u:=⟨_,rfl⟩;rw[<-f] at p⊢;have R:(d++[Du.cells (List.replicate fs.length [I 0,S [],.slnil]).flatten])[d.length]?=some (.cells (List.replicate fs.length [I 0,S [],.slnil]).flatten):=AH;have y:A7 (d++[Du.cells (List.replicate fs.length [I 0,S [],.slnil]).flatten]) none (Pt bi 3)=some c:=by rw[f];exact(w1.Ib).l3
   have Ţ:(List.replicate fs.length [I 0,S [],Aa.slnil]).flatten.length=fs.length*3:=by rw[FV (z:=3) (by intro r hr;rw[(List.mem_replicate.1 hr).2];rfl),FZ]
   have Q:E7 (.copy 3) (d++[Du.cells (List.replicate fs.length [I 0,S [],.slnil]).flatten]) [.Cs d.length 0 fs.length 3,c]=some (d++[Du.cells (fs.map Ci.row).flatten],I (fs.length:Int)):=by
    have P:Gp (d++[Du.cells (List.replicate fs.length [I 0,S [],.slnil]).flatten]) 3 c=some (fs.map Ci.row):=by
     rcases hv with rfl|⟨rfl,h0⟩
     .simp[Gp]
     .rw[h0];rfl
    simp only[E7,wG,P,R];rw[Af ⟨trivial,AH,by rw[Ţ];omega⟩];have h1:(List.replicate fs.length [I 0,S [],Aa.slnil]).flatten.drop (0+(fs.map Ci.row).length*3)=[]:=A0 (by rw[Ţ,Aj];omega);rw[h1,Kz,BU,By,Aj,BB _ _ (Ag _),Dc];rfl
   have K:AB (.len false) [.Cs d.length 0 fs.length 3]=some (I (fs.length:Int)):=rfl;simp only[abS,↓reduceIte,y,Q,K];refine DW (i:=2) (λn:Nat=>[I (n:Int)]) (λn h1=>n<=fs.length/\∃H5:List Ci,h1=d++[.cells (H5.map Ci.row).flatten]/\H5.length=fs.length/\H5.map (·.c)=b.A5) (λn=>fs.length-n) (λn h1=>∃H5:List Ci,h1=d++[.cells (H5.map Ci.row).flatten]/\H5.length=fs.length/\H5.map (·.c)=b.A5) 0 rfl ⟨AZ _,fs,rfl,rfl,Gw⟩ ?_ ?_
   .rintro n h1 ⟨hn,H5,rfl,Wa,ky⟩;rcases AQ n fs.length with hlt|Ei
    .have RK:n<H5.length:=by omega
     have C:H5[n].c=b.A5[n]'(by omega):=by simp only[<-ky,CZ]
     have VX:=(rm.DE H5[n].c (by rw[C];exact AN _)).2.1;have q:AB (.Fu 3) [.Cs d.length 0 fs.length 3,I (n:Int)]=some (Pt d.length (n*3)):=E0 hlt;have D:(d++[Du.cells (H5.map Ci.row).flatten])[d.length]?=some (.cells (H5.map Ci.row).flatten):=AH;have hg:(H5.map Ci.row)[n]?=some H5[n].row:=by rw[Ck,Ak RK];rfl
     have L:A7 (d++[Du.cells (H5.map Ci.row).flatten]) none (Pt d.length (n*3+2))=some H5[n].v:=by simp only[A7,D,Ex];exact LC (OB H5) AU hg
     obtain⟨av,J,Zh⟩:=f45 (h:=d++[Du.cells (H5.map Ci.row).flatten]) H5[n].ok Ab;have aD6:av.cells=[av]:=AV.cells Zh;have H:Co (d++[Du.cells (H5.map Ci.row).flatten]) 1 (Pt d.length (n*3+2)) av=some (d++[.cells ((H5.set n ⟨H5[n].c,av,Zh⟩).map Ci.row).flatten]):=by have e:=N0 (AD:=H5.map Ci.row) (i:=n) (k:=2) (v:=av) (OB H5) (by simpa using RK) AU;simp only[Co,D,aD6,A9,ML];rw[Af (by rw[FV (OB H5),Aj];omega),e,BB _ _ (Ag _),Dc,Ep,CZ];rfl
     simp only[abS,(Ab:(n:Int)<(fs.length:Int)),q,L,J.Ac,H,BO (Ab:n<9223372036854775807)];refine .next (n+1) rfl ⟨hlt,_,rfl,by rw[Bp];exact Wa,?_⟩ Ab
     rw[Ep,ky];have xd:n<b.A5.length:=Ab;show b.A5.set n H5[n].c=b.A5;rw[C,HE]
    .simp only[abS,(Ab:¬(n:Int)<(fs.length:Int))];exact .HG n rfl ⟨H5,rfl,Wa,ky⟩
   .rintro n h1 ⟨H5,rfl,Wa,ky⟩;simp only[BF,↓reduceIte];refine⟨_,rfl,t',O,.Cs d.length 0 fs.length 3,u++[.cells (H5.map Ci.row).flatten],rfl,by rw[f,AI],Gm.1,?_,?_⟩;.rw[<-AI,<-f];exact p.Dn λi _ hi=>Ai hi
    .rw[<-AI,<-f];exact .inr ⟨d.length,H5,by rw[f];simp,by rw[Wa],AH,ky⟩
 obtain⟨r,h',hr,t',o',c',u,rfl,rfl,hs⟩:=Jl.ret;exact⟨t',o',c',u,hr,hs⟩
end
def PB(h:Ah)(bi:Nat)(b:BS)(F:Nat->Prop):Prop:=∃a o c t G,BX h bi a o c t G b/\B1 b.A5 c/\F=Bt bi G
structure Fin(b:BS)(j:Nat):Prop where
 ok:EB b
 sz:Sz b j
section
variable{h h':Ah}{bi wi:Nat}{b:BS}{F F2:Nat->Prop}{q:pP}{av:Aa}{j:Nat}
def PB.lt(w:PB h bi b F){i:Nat}(hi:F i):i<h.length:=by
 obtain⟨a,o,c,t,G,w,_,rfl⟩:=w;rcases hi with rfl|hi
 .exact w.lt
 .exact w.w.lt hi
def PB.Dn(w:PB h bi b F)(hf:∀i,F i->h'[i]?=h[i]?):PB h' bi b F:=by obtain⟨a,o,c,t,G,w,hc,rfl⟩:=w;exact⟨a,o,c,t,G,w.Dn hf,hc,rfl⟩
def PB.Ib(w:PB h bi b F){u:Ah}:PB (h++u) bi b F:=w.Dn λi hi=>Ai (w.lt hi)
def aNn(w:PB h bi b F)(f:Fin b (j+1))(hq:lp q)(hv:Bq q.Az av):∃h' F',BK cx 24 [Pt bi 0,.agg (LS q av)] h (.agg (YS b q).2.row) h'/\PB h' bi (YS b q).1 F'/\DB h F h' F':=by obtain⟨a,o,c,t,G,w,hc,rfl⟩:=w;obtain⟨h',o',c',t',G',r,w',JO,x⟩:=aNh w hc f.ok f.sz hq hv;exact⟨h',_,r,⟨a,o',c',t',G',w',JO,rfl⟩,x⟩
def aNo(s:EX)(hv:Bq s.Az av)(hl:DP s.Az)(h:Ah):∃h' bi F,BK cx 22 [.agg (MC s av)] h (Pt bi 0) h'/\PB h' bi s.b F/\DB h (λ_=>False) h' F:=by obtain⟨h',bi,a,o,c,t,G,r,w,hc,x⟩:=aNl h s hv hl;exact⟨h',bi,_,r,⟨a,o,c,t,G,w,hc,rfl⟩,x⟩
end
structure QO where
 q:pP
 v:Aa
 ok:Bq q.Az v
def QO.row(x:QO):List Aa:=LS x.q x.v
def QO.CP{x:QO}:x.row.length=9:=rfl
def QO.HW{x:QO}:x.row.take 9=x.row:=rfl
def cC(l:List QO)(v:Aa):Prop:=AV 9 (l.map QO.row) v
noncomputable def KO:BS->List QO->BS
 |b,[]=>b
 |b,x::l=>KO (YS b x.q).1 l
def YZ:∀{l:List QO} {b:BS} {x:QO},KO b (l++[x])=(YS (KO b l) x.q).1
 |[],_,_=>rfl
 |y::l,b,x=>by rw[CO,KO,YZ,KO]
structure vK(h:Ah)(v:Aa)(fs:List Ci):Prop where
 len:AB (.len false) [v]=some (I (fs.length:Int))
 at_:∀k (hk:k<fs.length),∃id o,AB (.Fu 3) [v,I (k:Int)]=some (Pt id o)/\A7 h none (Pt id o)=some (I fs[k].c.node)/\A7 h none (Pt id (o+1))=some (.str fs[k].c.name)/\A7 h none (Pt id (o+2))=some fs[k].v
def NRd(h:Ah)(x:EU)(r:List Aa):Prop:=∃K V,r=[I x.kind,I x.FQ,K,I x.CQ,I x.Bc,.str x.name,V,.str x.data,.str x.nj,.str x.sys,.bool x.CH,I x.cont,I x.En]/\P3 h K x.Bb/\M9 h V x.Az/\K.cells=[K]/\V.cells=[V]
def Y0(h:Ah)(v:Aa)(l:List EU):Prop:=∃AD:List (List Aa),AV 13 AD v/\AD.length=l.length/\∀k (h1:k<AD.length) (h2:k<l.length),NRd h l[k] AD[k]
def Y1(h:Ah)(lo:Nat)(v:Aa)(l:List EU):Prop:=∃AD:List (List Aa),AV 13 AD v/\AD.length=l.length/\∀k (h1:k<AD.length) (h2:k<l.length),VK h lo l[k] AD[k]
section
variable{h h':Ah}{lo lo':Nat}{v v':Aa}
def MD.at_{l:List Cc}(hv:MD h lo v l):∃fs:List Ci,fs.map (·.c)=l/\vK h v fs:=by
 rcases hv with⟨rfl,rfl⟩|⟨id,fs,_,rfl,hc,e⟩
 .exact⟨[],rfl,rfl,λk hk=>by simp at hk⟩
 .refine⟨fs,e,rfl,λk hk=>⟨id,k*3,E0 hk,?_⟩⟩;have hg:(fs.map Ci.row)[k]?=some fs[k].row:=by rw[Ck,Ak hk];rfl
  have ld:∀j,j<3->A7 h none (Pt id (k*3+j))=fs[k].row[j]?:=λj hj=>by simp only[A7,hc,Ex];exact LC (OB fs) hj hg
  have l0:=ld 0 AU;rw[Bu] at l0;exact⟨l0,ld 1 AU,ld 2 AU⟩
def Up.le{N b:Nat}(hu:Up N v)(hl:b<=N):Up b v:=λid k e=>Br hl (hu id k e)
def VK.rd{x:EU}{r:List Aa}(hr:VK h lo x r):NRd h x r:=let⟨K,V,e,h1,h2,_⟩:=hr;⟨K,V,e,h1.RI,h2.in_,AV.cells h1,h2.cells⟩
def VK.low{x:EU}{r:List Aa}(hr:VK h lo x r)(hl:lo'<=lo):VK h lo' x r:=let⟨K,V,e,h1,h2,b⟩:=hr;⟨K,V,e,h1,h2,b.le hl⟩
def Y1.rd{l:List EU}(hv:Y1 h lo v l):Y0 h v l:=let⟨AD,h1,h2,c⟩:=hv;⟨AD,h1,h2,λk a b=>(c k a b).rd⟩
def f18{l:List Int}(hv:P3 h v l)(DL:P3 h v' l)(hb:l.length<=1000000000):BK cx 144 [v,v'] h tt h:=by
 rw[Ae,Ĉ];simp only[abS,hv.len,DL.len,B2,CB];refine Bl (λn:Nat=>[ff,I (n:Int)]) (λn h1=>n<=l.length/\h1=h) (λn=>l.length-n) 0 rfl ⟨AZ _,rfl⟩ ?_;rintro n h1 ⟨hn,rfl⟩;rcases AQ n l.length with hlt|Ei
 .obtain⟨p,a1,a2⟩:=hv.at_ n hlt;obtain⟨p',b1,b2⟩:=DL.at_ n hlt;simp only[abS,hv.len,(Ab:(n:Int)<(l.length:Int)),a1,a2,b1,b2,B2,CB,BO (Ab:n<9223372036854775807)];exact AL.next (n+1) rfl ⟨hlt,rfl⟩ Ab
 .simp only[abS,hv.len,(Ab:¬(n:Int)<(l.length:Int))]
def aIh(y:A6):AB (.geq true [.i,.s,.s]) [.agg y.row,.agg y.row]=some (.bool false):=by rw[Rx];simp[A6.row,Eb,LJ]
def aIi{l:List A6}(hv:M9 h v l)(DL:M9 h v' l)(hb:l.length<=1000000000):BK cx 420 [v,v'] h tt h:=by
 rw[Ae,ŉ];simp only[abS,hv.len,DL.len,B2,CB];refine Bl (λn:Nat=>[ff,I (n:Int)]) (λn h1=>n<=l.length/\h1=h) (λn=>l.length-n) 0 rfl ⟨AZ _,rfl⟩ ?_;rintro n h1 ⟨hn,rfl⟩;rcases AQ n l.length with hlt|Ei
 .obtain⟨p,a1,a2⟩:=hv.at_ n hlt;obtain⟨p',b1,b2⟩:=DL.at_ n hlt;simp only[abS,hv.len,(Ab:(n:Int)<(l.length:Int)),a1,a2,b1,b2,aIh,BO (Ab:n<9223372036854775807)];exact AL.next (n+1) rfl ⟨hlt,rfl⟩ Ab
 .simp only[abS,hv.len,(Ab:¬(n:Int)<(l.length:Int))]
def f87{fs ŭ:List Ci}(hv:vK h v fs)(DL:vK h v' ŭ)(he:fs.map (·.c)=ŭ.map (·.c))(hb:fs.length<=1000000000)(ha:∀e∈fs,e.c.Az.length<=1000000000):BK cx 145 [v,v'] h tt h:=by
 have hl:ŭ.length=fs.length:=by have:=Ca List.length he;simpa using this.symm
 have l1:=hv.len;have i:=DL.len;rw[hl] at i;rw[Ae,ĉ];simp only[abS,l1,i,B2,CB];refine Bl (λn:Nat=>[ff,I (n:Int)]) (λn h1=>n<=fs.length/\h1=h) (λn=>fs.length-n) 0 rfl ⟨AZ _,rfl⟩ ?_;rintro n h1 ⟨hn,rfl⟩;rcases AQ n fs.length with hlt|Ei
 .have S4:n<ŭ.length:=by omega
  have p:ŭ[n].c=fs[n].c:=by have:=Ca (λl=>l[n]?) he;simp only[Ck,Ak hlt,Ak S4,B5,BD] at this;exact this.symm
  obtain⟨id,o,a1,a2,a3,a4⟩:=hv.at_ n hlt;obtain⟨FT,o',b1,b2,b3,b4⟩:=DL.at_ n S4;rw[p] at b2 b3;have Zh:Bq fs[n].c.Az fs[n].v:=fs[n].ok;have aIj:Bq fs[n].c.Az ŭ[n].v:=by rw[<-p];exact ŭ[n].ok
  have Zn:=ha _ (AN hlt);have d:=AV.CN Zh;have q:=AV.CN aIj;generalize fs[n].v=av at*;generalize ŭ[n].v=cB at*;generalize fs[n].c.Az=b at*;simp only[abS,l1,(Ab:(n:Int)<(fs.length:Int)),a1,a2,a3,a4,b1,b2,b3,b4,B2,CB,d,q];refine Bl (λj:Nat=>[ff,I (j:Int)]) (λj h2=>j<=b.length/\h2=h1) (λj=>b.length-j) 0 rfl ⟨AZ _,rfl⟩ ?_;rintro j h2 ⟨hj,rfl⟩;rcases AQ j b.length with aF|r
  .have t:=AV.BM (k:= .i64) Zh aF;have s:=AV.BM (k:= .i64) aIj aF;have g:(A6.row b[j]).length=3:=rfl;have f:(A6.row b[j]).take 3=A6.row b[j]:=rfl;simp only[abS,a1,a4,b1,b4,d,(Ab:(j:Int)<(b.length:Int)),t,s,g,f,Ag,aIh,BO (Ab:j<9223372036854775807)];exact AL.next (j+1) rfl ⟨aF,rfl⟩ Ab
  .simp only[abS,a1,a4,d,(Ab:¬(j:Int)<(b.length:Int)),BO (Ab:n<9223372036854775807)];exact AL.next (n+1) rfl ⟨hlt,rfl⟩ Ab
 .simp only[abS,l1,(Ab:¬(n:Int)<(fs.length:Int))]
def f22{s:SS}{t o c t' o' c':Aa}(w:Tf h lo s t o c)(w':Tf h lo' s t' o' c')(b1:s.tm.length<=1000000000)(b2:s.AW.length<=1000000000)(b3:s.A5.length<=1000000000)(b4:∀e∈s.A5,e.Az.length<=1000000000):BK cx 47 [.agg (Ve s t o c),.agg (Ve s t' o' c')] h tt h:=by
 obtain⟨fs,d,he⟩:=w.c.at_;obtain⟨ŭ,b,PH⟩:=w'.c.at_;have g:=f18 w.o.RI w'.o.RI b2;have r2:=f87 he PH (d.trans b.symm) (by rw[<-d,Aj] at b3;exact b3) (λe hm=>b4 e.c (by rw[<-d];exact O4 hm));have p:t.cells=[t]:=w.t.cells;have f:t'.cells=[t']:=w'.t.cells;have q:=w.o.cells;have i:=w'.o.cells;have r:=w.c.cells;have l:=w'.c.cells;have l1:=w.t.len;have j:=w'.t.len;rw[Ae,aC8,Ve,Ve];simp only[abS,l1,j,B2,CB,g.Ac,r2.Ac];refine Bl (λn:Nat=>[ff,I (n:Int)]) (λn h1=>n<=s.tm.length/\h1=h) (λn=>s.tm.length-n) 0 rfl ⟨AZ _,rfl⟩ ?_;rintro n h1 ⟨hn,rfl⟩;rcases AQ n s.tm.length with hlt|Ei
 .have a1:=AV.BM (k:= .i64) (w.t.ne λe=>by rw[e] at hlt;simp at hlt) hlt;have a2:=AV.BM (k:= .i64) (w'.t.ne λe=>by rw[e] at hlt;simp at hlt) hlt;rw[BH] at a1 a2;simp only[abS,l1,(Ab:(n:Int)<(s.tm.length:Int)),a1,a2,B2,CB,BO (Ab:n<9223372036854775807)];exact AL.next (n+1) rfl ⟨hlt,rfl⟩ Ab
 .simp only[abS,l1,(Ab:¬(n:Int)<(s.tm.length:Int)),CB,Dx]
def aNq{x:EU}{r r':List Aa}(hr:NRd h x r)(F9:NRd h x r')(hb:x.Az.length<=1000000000):BK cx 386 [.agg r,.agg r'] h tt h:=by obtain⟨K,V,rfl,k,f,j,i⟩:=hr;obtain⟨o,l,rfl,g,b,e,d⟩:=F9;have c:=aIi f b hb;rw[Ae,ń];simp only[abS,CB,c.Ac,Dx]
def aNr{x:EU}{r r':List Aa}(hr:NRd h x r)(F9:NRd h x r')(hb:x.Az.length<=1000000000)(hk:x.Bb.length<=1000000000):BK cx 295 [.agg r,.agg r'] h tt h:=by have c:=aNq hr F9 hb;obtain⟨K,V,rfl,g,k,j,i⟩:=hr;obtain⟨o,l,rfl,b,f,e,d⟩:=F9;have r2:=f18 g b hk;rw[Ae,į];simp only[BF,CB,c.Ac,r2.Ac,Dx]
def f90{l:List EU}(hv:Y0 h v l)(DL:Y0 h v' l)(hb:l.length<=1000000000)(ha:∀x∈l,x.Az.length<=1000000000/\x.Bb.length<=1000000000):BK cx 150 [v,v'] h tt h:=by
 obtain⟨AD,i,s,q⟩:=hv;obtain⟨b,c,g,e⟩:=DL;have l1:=i.len;have p:=c.len;rw[s] at l1;rw[g] at p;rw[Ae,Č];simp only[abS,l1,p,B2,CB];refine Bl (λn:Nat=>[ff,I (n:Int)]) (λn h1=>n<=l.length/\h1=h) (λn=>l.length-n) 0 rfl ⟨AZ _,rfl⟩ ?_;rintro n h1 ⟨hn,rfl⟩;rcases AQ n l.length with hlt|Ei
 .have a1:=i.Fu (k:= .i64) (Ab:n<AD.length);have a2:=c.Fu (k:= .i64) (Ab:n<b.length);have o:=q n Ab hlt;have j:=e n Ab hlt;have hm:=ha _ (AN hlt);have d:=aNr o j hm.1 hm.2;obtain⟨K,V,r,_⟩:=o;obtain⟨u,t,f,_⟩:=j;rw[r] at a1 d;rw[f] at a2 d;simp only[abS,Nat.reduceLeDiff,↓reduceIte,l1,(Ab:(n:Int)<(l.length:Int)),a1,a2,d.Ac,BO (Ab:n<9223372036854775807)];exact AL.next (n+1) rfl ⟨hlt,rfl⟩ Ab
 .simp only[abS,↓reduceIte,l1,(Ab:¬(n:Int)<(l.length:Int))]
end
def vL{A:Ar}{k:Nat}(hk:k<A.n.length):A.has ((k:Int)+1)/\A.nd ((k:Int)+1)=A.n[k]:=by
 have h1:A.has ((k:Int)+1):=by unfold Ar.has;omega
 refine⟨h1,?_⟩;unfold Ar.nd;rw[Af h1,AJ,(Ab:((k:Int)+1).toNat-1=k),Ak hk];rfl
section
variable{h h':Ah}{a n:Nat}{m:Option Nat}{ps:List PN}{A:Ar}{x:Int}
def aNs(w:PA h a n m ps A)(p:Nw A)(hk:∀x,(A.nd x).Bb.length<=1000000000)(hb:A.n.length<=900000000):∃v u,BK cx 151 [Pt a 0] h v (h++u)/\Y1 (h++u) h.length v A.n:=by
 have aT:AS=140737488355328:=rfl;have lJ:A.n.length=ps.length:=by rw[w.e,Aj]
 have Jl:Ev cx 151 [Pt a 0] h λr h'=>∃u,h'=h++u/\Y1 (h++u) h.length r A.n:=by
  unfold Ev;rw[č];simp only[BF,lN,w.nodes,show AB (.len false) [.Cs n 0 ps.length 13]=some (I (ps.length:Int)) from rfl];refine Bl (λz:Aa×Nat=>[z.1,I (z.2:Int)]) (λz h1=>z.2<=ps.length/\∃u,h1=h++u/\Y1 (h++u) h.length z.1 (A.n.take z.2)) (λz=>ps.length-z.2) (.slnil,0) rfl ⟨AZ _,[],AH,[],.nil,AH,λk h1 h2=>by simp at h1⟩ ?_;rintro⟨V,k⟩ h1 ⟨Zs,u,rfl,c⟩;simp only at Zs c;have w1:PA (h++u) a n m ps A:=w.Dn λi hi=>Ai (w.lt i hi);rcases AQ k ps.length with hlt|Ei
  .obtain⟨hx,ex⟩:=vL (A:=A) (k:=k) Ab;obtain⟨r,t,l,hr⟩:=aAZ w1 p hx (hk _);have ea:AB (.Fu 13) [.Cs n 0 ps.length 13,I (k:Int)]=some (.ptr (some (n,nP n ((k:Int)+1)))):=by have:=E0 (k:= .i64) (id:=n) (z:=13) hlt;rw[this];unfold nP;congr 4
   obtain⟨AD,g,d,o⟩:=c;rw[Aw,Cq Ab] at d;obtain⟨K,W,f,L0⟩:=hr;have em:AB (.C8 13) [.agg r]=some (.sl 13 [r]):=Ms (a:= .agg r) (by rw[f];rfl) AU;have s:=AV.sZ (b:=168) (row:=r) g Ab;simp only[abS,(Ab:(k:Int)<(ps.length:Int)),w1.nodes,ea,l.Ac,em,s,BO (Ab:k<9223372036854775807)];refine AL.next (_,k+1) rfl ⟨hlt,u++t,by rw[AI],AD++[r],.mk,by rw[Av,Aw,d];simp;omega,λj h1 h2=>?_⟩ Dv;rw[<-AI];rw[aPH];by_cases hj:j<AD.length;.rw[Gl hj];have:=o j hj (by rw[Aw];omega);rw[aPH] at this;exact this.Ib
   .have q:j=k:=by simp at h1;omega
    subst q;rw[U_ Ab];simp only[d,Dc,aEA];rw[<-ex];exact VK.low (lo:=(h++u).length) ⟨K,W,f,L0⟩ AH
  .rw[AF Ab] at c;simp only[abS,(Ab:¬(k:Int)<(ps.length:Int))];exact⟨_,rfl,u,rfl,c⟩
 obtain⟨r,h',hr,u,rfl,c⟩:=Jl.ret;exact⟨r,u,hr,c⟩
end
structure RN where
 x:EU
 kv:Aa
 av:Aa
 okk:DV x.Bb kv
 oka:Bq x.Az av
def RN.row(p:RN):List Aa:=[I p.x.kind,I p.x.FQ,p.kv,I p.x.CQ,I p.x.Bc,.str p.x.name,p.av,.str p.x.data,.str p.x.nj,.str p.x.sys,.bool p.x.CH,I p.x.cont,I p.x.En]
def RN.z:RN:=⟨{},.slnil,.slnil,.inr ⟨rfl,rfl⟩,.inr ⟨rfl,rfl⟩⟩
def yq(l:List RN):∀r∈l.map RN.row,r.length=13:=Kq (f:=RN.row) (λ_=>rfl) l
structure RA(h:Ah)(a n i:Nat)(ps:List RN)(A:Ar):Prop where
 e:A.n=ps.map RN.x
 il:A.i.length=A.n.length
 ha:h[a]?=some (.cells [.Cs n 0 (ps.length+1) 13,.Cs i 0 (ps.length+1) 1])
 hn:h[n]?=some (.cells ((RN.z::ps).map RN.row).flatten)
 hi:h[i]?=some (.cells ((0::A.i).map (Aa.int .i64)))
 d:a≠n/\a≠i/\n≠i
def JC(a n i:Nat):Nat->Prop:=λj=>j=a\/j=n\/j=i
def RW(h:Ah)(G:Nat->Prop)(a:Nat)(A:Ar):Prop:=∃n i ps,RA h a n i ps A/\G=JC a n i
def pR(ps:List RN)(x:Int):RN:=(RN.z::ps).getD x.toNat RN.z
def nR(x:Int):Nat:=x.toNat*13
section
variable{h h':Ah}{a n i:Nat}{ps:List RN}{A:Ar}{x:Int}{G:Nat->Prop}
def RA.Dn(w:RA h a n i ps A)(hf:∀j,JC a n i j->h'[j]?=h[j]?):RA h' a n i ps A:=
 ⟨w.e,w.il,by rw[hf a (.inl rfl)];exact w.ha,by rw[hf n (.inr (.inl rfl))];exact w.hn,by rw[hf i (.inr (.inr rfl))];exact w.hi,w.d⟩
def RA.lt(w:RA h a n i ps A){j:Nat}(hj:JC a n i j):j<h.length:=by
 rcases hj with rfl|rfl|rfl
 .exact(Al.1 w.ha).1
 .exact(Al.1 w.hn).1
 .exact(Al.1 w.hi).1
def RW.Dn(w:RW h G a A)(hf:∀j,G j->h'[j]?=h[j]?):RW h' G a A:=by obtain⟨n,i,ps,w,rfl⟩:=w;exact⟨n,i,ps,w.Dn hf,rfl⟩
def RW.lt(w:RW h G a A){j:Nat}(hj:G j):j<h.length:=by obtain⟨n,i,ps,w,rfl⟩:=w;exact w.lt hj
def RA.len(w:RA h a n i ps A):A.n.length=ps.length:=by rw[w.e,Aj]
def RA.nodes(w:RA h a n i ps A):A7 h none (Pt a 0)=some (.Cs n 0 (ps.length+1) 13):=by simp only[A7,w.ha];rfl
def RA.YJ(w:RA h a n i ps A):A7 h none (Pt a 1)=some (.Cs i 0 (ps.length+1) 1):=by simp only[A7,w.ha];rfl
def RA.at(w:RA h a n i ps A)(hx:A.has x):x.toNat<ps.length+1/\(x.toNat:Int)=x:=by have h1:=hx.1;have h2:=hx.2;rw[w.len] at h2;omega
def RA.pn(w:RA h a n i ps A)(hx:A.has x):(RN.z::ps)[x.toNat]?=some (pR ps x)/\(pR ps x).x=A.nd x:=by
 have h1:=(w.at hx).1;have h2:=hx.1;have hl:x.toNat<(RN.z::ps).length:=by simpa using h1
 refine⟨by unfold pR;rw[AJ,Ak hl];rfl,?_⟩;unfold Ar.nd pR;rw[Af hx,w.e];obtain⟨k,hk⟩:∃k,x.toNat=k+1:=⟨x.toNat-1,Ab⟩;rw[hk,aKp,Fb,AJ,AJ,Ck];have:k<ps.length:=Ab;rw[Ak this];rfl
def RA.PM(w:RA h a n i ps A)(hx:A.has x){k:Nat}(hk:k<13):A7 h none (Pt n (nR x+k))=(pR ps x).row[k]?:=by unfold nR;simp only[A7,w.hn,Ex];exact LC (yq _) hk (by rw[Ck,(w.pn hx).1];rfl)
def RA.addr(w:RA h a n i ps A)(hx:A.has x):AB (.Fu 13) [.Cs n 0 (ps.length+1) 13,I x]=some (Pt n (nR x)):=by obtain⟨h1,h2⟩:=w.at hx;have:=E0 (k:= .i64) (id:=n) (z:=13) h1;rwa [h2] at this
def RA.f0(w:RA h a n i ps A)(hx:A.has x):A7 h none (Pt n (nR x))=some (I (A.nd x).kind):=by have:=w.PM hx (k:=0) AU;rw[Bu] at this;rw[this,<-(w.pn hx).2];rfl
def RA.f1(w:RA h a n i ps A)(hx:A.has x):A7 h none (Pt n (nR x+1))=some (I (A.nd x).FQ):=by rw[w.PM hx AU,<-(w.pn hx).2];rfl
def RA.f2(w:RA h a n i ps A)(hx:A.has x):A7 h none (Pt n (nR x+2))=some (pR ps x).kv:=by rw[w.PM hx AU];rfl
def RA.f3(w:RA h a n i ps A)(hx:A.has x):A7 h none (Pt n (nR x+3))=some (I (A.nd x).CQ):=by rw[w.PM hx AU,<-(w.pn hx).2];rfl
def RA.f4(w:RA h a n i ps A)(hx:A.has x):A7 h none (Pt n (nR x+4))=some (I (A.nd x).Bc):=by rw[w.PM hx AU,<-(w.pn hx).2];rfl
def RA.f5(w:RA h a n i ps A)(hx:A.has x):A7 h none (Pt n (nR x+5))=some (.str (A.nd x).name):=by rw[w.PM hx AU,<-(w.pn hx).2];rfl
def RA.f6(w:RA h a n i ps A)(hx:A.has x):A7 h none (Pt n (nR x+6))=some (pR ps x).av:=by rw[w.PM hx AU];rfl
def RA.f7(w:RA h a n i ps A)(hx:A.has x):A7 h none (Pt n (nR x+7))=some (.str (A.nd x).data):=by rw[w.PM hx AU,<-(w.pn hx).2];rfl
def RA.f11(w:RA h a n i ps A)(hx:A.has x):A7 h none (Pt n (nR x+11))=some (I (A.nd x).cont):=by rw[w.PM hx AU,<-(w.pn hx).2];rfl
def RA.f12(w:RA h a n i ps A)(hx:A.has x):A7 h none (Pt n (nR x+12))=some (I (A.nd x).En):=by rw[w.PM hx AU,<-(w.pn hx).2];rfl
def RA.M4(w:RA h a n i ps A)(hx:A.has x):DV (A.nd x).Bb (pR ps x).kv:=by rw[<-(w.pn hx).2];exact(pR ps x).okk
def RA.xh(w:RA h a n i ps A)(hx:A.has x):Bq (A.nd x).Az (pR ps x).av:=by rw[<-(w.pn hx).2];exact(pR ps x).oka
def RA.wr(w:RA h a n i ps A)(hx:A.has x){k:Nat}(hk:k<13){v:Aa}(hv:v.cells=[v]){p:RN}(hp:p.row=(pR ps x).row.set k v):
  ∃h',Co h 1 (Pt n (nR x+k)) v=some h'/\RA h' a n i (ps.set (x.toNat-1) p) (A.set x p.x)/\DB h (JC a n i) h' (JC a n i)/\h'.length=h.length:=by
 obtain⟨hlt,b⟩:=w.at hx;have h1:=hx.1;have hg:=(w.pn hx).1;have S4:x.toNat<(RN.z::ps).length:=by simpa using hlt
 rw[Ak S4,BD] at hg;have e:=N0 (AD:=(RN.z::ps).map RN.row) (i:=x.toNat) (k:=k) (v:=v) (yq _) (by simpa using hlt) hk;rw[CZ,hg,<-hp,<-Ep] at e;have es:(RN.z::ps).set x.toNat p=RN.z::ps.set (x.toNat-1) p:=by obtain⟨j,hj⟩:∃j,x.toNat=j+1:=⟨x.toNat-1,Ab⟩;rw[hj,aOf,Fb]
 rw[es] at e;have OV:=w.lt (.inr (.inl rfl));refine⟨h.set n (.cells ((RN.z::ps.set (x.toNat-1) p).map RN.row).flatten),?_,⟨?_,?_,?_,AO OV,?_,w.d⟩,⟨by rw[Bp];exact Ag _,λj _ hn=>Ap λe=>hn (.inr (.inl e.symm)),λj hj=> .inl hj⟩,Bp⟩;.unfold nR;simp only[Co,w.hn,hv,A9,ML];rw[Af (by rw[FV (yq _),Aj];have:=DY 13 (show x.toNat+1<=(RN.z::ps).length from S4);omega),e]
 .unfold Ar.set;simp only;rw[Af hx,w.e,Ep]
 .unfold Ar.set;simp only;rw[Af hx,Bp];exact w.il
 .rw[Ap (DJ w.d.1),Bp];exact w.ha
 .rw[Ap w.d.2.2];exact w.hi
def H6(w:RA h a n i ps A):BK cx 281 [Pt a 0,I x] h (.bool (decide (A.has x))) h:=by
 have hl:=w.len;rw[Ae,ĩ];by_cases h0:0<x
 .have e:decide (A.has x)=decide (x<((ps.length+1:Nat):Int)):=by rw[Db];unfold Ar.has;omega
  rw[e];simp only[BF,lN,h0,w.nodes,show AB (.len false) [.Cs n 0 (ps.length+1) 13]=some (I ((ps.length+1:Nat):Int)) from rfl]
 .have e:decide (A.has x)=false:=by rw[Aq];unfold Ar.has;omega
  rw[e];simp only[abS,h0]
def aIk(w:RA h a n i ps A):BK cx 411 [Pt a 0,I x] h (I (A.nd x).FQ) h:=by
 rw[Ae,ņ];by_cases hx:A.has x;.simp only[abS,(H6 (x:=x) w).Ac,As hx,w.nodes,w.addr hx,w.f1 hx]
 .rw[HI hx];simp only[abS,(H6 (x:=x) w).Ac,Aq hx]
def yr(w:RA h a n i ps A)(hb:(A.nd x).Bb.length<=1000000000):∃v,BK cx 212 [Pt a 0,I x] h v h/\DV (A.nd x).Bb v:=by
 have hm:AS=140737488355328:=rfl;by_cases hx:A.has x;.obtain⟨u,e,hu⟩:=AV.FJ (b:=8) (w.M4 hx) Ab;refine⟨u,?_,hu⟩;rw[Ae,yY];simp only[abS,(H6 (x:=x) w).Ac,As hx,w.nodes,w.addr hx,w.f2 hx,e]
 .refine⟨.slnil,?_,by rw[HI hx];exact .inr ⟨rfl,rfl⟩⟩;rw[Ae,yY];simp only[abS,(H6 (x:=x) w).Ac,Aq hx]
def aIl(w:RA h a n i ps A)(hx:A.has x):BK cx 418 [Pt a 0,I x] h (I (A.up x)) h:=by
 rw[Ae,ň];by_cases hp:(A.nd x).FQ=0
 .have e:A.up x=(A.nd x).En:=by unfold Ar.up;rw[Ad (by simpa using hp)]
  simp only[abS,w.nodes,w.addr hx,w.f1 hx,hp,w.f12 hx,e,B2,CB]
 .have e:A.up x=(A.nd x).FQ:=by unfold Ar.up;rw[Af (by simpa using hp)]
  simp only[abS,w.nodes,w.addr hx,w.f1 hx,hp,e,B2]
end
def aIm{A:Ar}{e x:Int}(ok:EK A e)(hx:A.has x)(h0:A.up x≠0):A.has (A.up x):=by
 unfold Ar.up at h0⊢;split at h0;.rename_i h;rw[Af h];exact(ok.FQ x hx h).1
 .rename_i h;rw[Ad h];exact(ok.En x hx h0).1
def ly{A:Ar}{t x:Int}(hne:x≠t):Reach A t x↔A.up x≠0/\Reach A t (A.up x):=by
 constructor
 .intro h;cases h with
  |refl=>exact absurd rfl hne
  |step h1 h2=>exact⟨h1,h2⟩
 .exact λh=> .step h.1 h.2
section
variable{h h':Ah}{a n i:Nat}{ps:List RN}{A:Ar}{x:Int}{G:Nat->Prop}
open Classical in
def aIn{up e:Int}(w:RA h a n i ps A)(ok:EK A e)(hu:A.has up)(hx:A.has x):BK cx 379 [Pt a 0,I up,I x] h (.bool (decide (Reach A up x))) h:=by
 obtain⟨r,hr⟩:=ok.eX;have d:up≠0:=by have:=hu.1;omega
 rw[Ae,ŀ];simp only[abS,(H6 (x:=up) w).Ac,(H6 (x:=x) w).Ac,As hu,As hx];refine Bl (λc:Int=>[I c,ff]) (λc h1=>(c=0\/A.has c)/\(Reach A up x↔c≠0/\Reach A up c)/\h1=h) (λc=>if c=0 then 0 else r c+1) x rfl ⟨.inr hx,⟨λh=>⟨by have:=hx.1;omega,h⟩,λh=>h.2⟩,rfl⟩ ?_;rintro c h1 ⟨hc,he,rfl⟩;by_cases h0:c=0;.have e:decide (Reach A up x)=false:=Aq (λf=>(he.1 f).1 h0);simp only[abS,h0,B2,e]
 .have hc:=hc.resolve_left h0;by_cases b:c=up;.have e:decide (Reach A up x)=true:=As (he.2 ⟨h0,by rw[b];exact .refl⟩);simp only[abS,h0,B2,AM b,e]
  .simp only[abS,h0,B2,b,(aIl w hc).Ac];refine AL.next (A.up c) rfl ⟨?_,?_,rfl⟩ ?_
   .by_cases hz:A.up c=0;.exact .inl hz
    .exact .inr (aIm ok hc hz)
   .rw[he,ly b];exact⟨λh=>h.2,λh=>⟨h0,h⟩⟩
   .by_cases hz:A.up c=0;.rw[Af hz,Ad h0];omega
    .rw[Ad hz,Ad h0];have:=hr c hc hz;omega
def aIo{v:Aa}{l:List Int}(hv:DV l v)(hb:l.length<=1000000000)(x:Int)(h:Ah):∃u,BK cx 380 [v,I x] h u h/\DV (l.filter λk=>decide (k≠x)) u:=by
 have hm:AS=140737488355328:=rfl;have Jl:Ev cx 380 [v,I x] h λr h'=>DV (l.filter λk=>decide (k≠x)) r/\h'=h:=by
  unfold Ev;rw[Ł];refine Bl (λs:Aa×Nat=>[s.1,I (s.2:Int)]) (λs h1=>s.2<=l.length/\DV ((l.take s.2).filter λk=>decide (k≠x)) s.1/\h1=h) (λs=>l.length-s.2) (.slnil,0) rfl ⟨AZ _,.inr ⟨rfl,rfl⟩,rfl⟩ ?_;rintro⟨u,k⟩ h1 ⟨hk,hu,rfl⟩;simp only at hk hu;have hvl:=AV.CN hv;rcases AQ k l.length with hlt|Ei
  .have c:=AV.BM (k:= .i64) hv hlt;rw[BH] at c;have em:AB (.C8 1) [I l[k]]=some (.sl 1 [BH l[k]]):=rfl;have Hm:((l.take k).filter λk=>decide (k≠x)).length<=l.length:=Br (VR _ _) (by rw[Aw];omega);have d:=AV.Jv (b:=8) (a:=l[k]) hu Ab;simp only[abS,hvl,(Ab:(k:Int)<(l.length:Int)),c,em,d,BO (Ab:k<9223372036854775807),B2];refine⟨λh2=>?_,λh2=>?_⟩
   .refine AL.next (_,k+1) rfl ⟨hlt,?_,rfl⟩ Dv;rw[AE hlt,DZ];have:[l[k]].filter (λk=>decide (k≠x))=[l[k]]:=by simp[h2]
    rw[this];exact .mk
   .refine AL.next (u,k+1) rfl ⟨hlt,?_,rfl⟩ Dv;rw[AE hlt,DZ];have h2:l[k]=x:=by simpa using h2
    have:[l[k]].filter (λk=>decide (k≠x))=[]:=by simp[h2]
    rw[this,By];exact hu
  .rw[AF Ei] at hu;simp only[abS,hvl,(Ab:¬(k:Int)<(l.length:Int))];exact⟨_,rfl,hu⟩
 obtain⟨r,h',hr,hu,rfl⟩:=Jl.ret;exact⟨r,hr,hu⟩
def aIp(w:RA h a n i ps A)(hx:A.has x)(hb:∀y,(A.nd y).Bb.length<=1000000000){e:Int}(ok:EK A e):∃h' JB,BK cx 278 [Pt a 0,I x] h (I 0) h'/\RA h' a n i JB (A.cut x)/\DB h (JC a n i) h' (JC a n i):=by
 by_cases hp:(A.nd x).FQ=0;.refine⟨h,ps,?_,by unfold Ar.cut;simp only;rw[Af hp];exact w,.refl⟩;rw[Ae,aq];simp only[abS,(H6 (x:=x) w).Ac,As hx,w.nodes,w.addr hx,w.f1 hx,hp,B2]
 .obtain⟨hq,_⟩:=ok.FQ x hx hp;obtain⟨q,eq⟩:∃q,q=(A.nd x).FQ:=⟨_,rfl⟩;rw[<-eq] at hp hq;obtain⟨u,m,hu⟩:=aIo (w.M4 hq) (hb q) x h;obtain⟨h1,l,w1,f,l1⟩:=w.wr hq (k:=2) AU (v:=u) (AV.cells hu) (p:=⟨{A.nd q with Bb:=(A.nd q).Bb.filter λk=>decide (k≠x)},u,(pR ps q).av,hu,w.xh hq⟩) (by simp only[RN.row];rw[(w.pn hq).2];rfl);have Pb:(A.set q {A.nd q with Bb:=(A.nd q).Bb.filter λk=>decide (k≠x)}).has x:=Ir.2 hx;have ZS:=(w1.pn Pb).2;obtain⟨h2,j,g,d,s⟩:=w1.wr Pb (k:=1) AU (v:=I 0) rfl (p:=⟨{(A.set q {A.nd q with Bb:=(A.nd q).Bb.filter λk=>decide (k≠x)}).nd x with FQ:=0},(pR _ x).kv,(pR _ x).av,w1.M4 Pb,w1.xh Pb⟩) (by simp only[RN.row];rw[ZS];rfl);have o:A.cut x=(A.set q {A.nd q with Bb:=(A.nd q).Bb.filter λk=>decide (k≠x)}).set x {(A.set q {A.nd q with Bb:=(A.nd q).Bb.filter λk=>decide (k≠x)}).nd x with FQ:=0}:=by unfold Ar.cut;simp only;rw[<-eq,Ad hp]
  refine⟨h2,_,?_,by rw[o];exact g,f.trans d⟩;have r:(A.nd x).FQ=q:=eq.symm;have b:=w1.nodes;have c:=w1.addr Pb;rw[Bp] at b c;rw[Ae,aq];simp only[abS,(H6 (x:=x) w).Ac,As hx,w.nodes,w.addr hx,w.f1 hx,r,hp,B2,w.addr hq,w.f2 hq,m.Ac,BN,l,b,j]
open Classical in
def aIq{p b e:Int}(w:RA h a n i ps A)(ok:EK A e):∃q:Int,BK cx 277 [Pt a 0,I p,I x,I b] h (I q) h/\(q=0↔uk A p x b):=by
 by_cases hp:A.has p;rotate_left;.refine⟨3,?_,⟨λh=>absurd h AU,λf=>absurd f.hp hp⟩⟩;rw[Ae,Ku];simp only[abS,(H6 (x:=p) w).Ac,Aq hp,A3]
 by_cases hx:A.has x;rotate_left;.refine⟨3,?_,⟨λh=>absurd h AU,λf=>absurd f.hn hx⟩⟩;rw[Ae,Ku];simp only[abS,(H6 (x:=p) w).Ac,As hp,(H6 (x:=x) w).Ac,Aq hx,A3]
 by_cases hb:b≠0/\¬A.has b;.refine⟨3,?_,⟨λh=>absurd h AU,λf=>absurd (f.hb hb.1).1 hb.2⟩⟩;rw[Ae,Ku];simp only[abS,(H6 (x:=p) w).Ac,As hp,(H6 (x:=x) w).Ac,As hx,B2,hb.1,(H6 (x:=b) w).Ac,Aq hb.2,A3]
 have m:b≠0->A.has b:=λh0=>by
  by_cases h1:A.has b;.exact h1
  .exact absurd ⟨h0,h1⟩ hb
 have first:∀(Q:HF) (k:DX->List Aa->IT),W cx (k .normal [ff]) Q h->W cx (.Oc 200001 (.call 281 [Pt a 0,I p] λv0=> .op (.un .not) [v0] λs=> .Gg s (.ret .normal [tt]) (.call 281 [Pt a 0,I x] λv2=> .op (.un .not) [v2] λv3=> .Gg v3 (.ret .normal [tt]) (.op (.int .neq) [I b,I 0] λv4=> .Gg v4 (.call 281 [Pt a 0,I b] λv5=> .op (.un .not) [v5] λr=> .ret .normal [r]) (.ret .normal [ff])))) k) Q h:=by
  intro Q k hk;by_cases h0:b=0;.simp only[abS,(H6 (x:=p) w).Ac,As hp,(H6 (x:=x) w).Ac,As hx,B2,h0,A3];exact hk
  .simp only[abS,(H6 (x:=p) w).Ac,As hp,(H6 (x:=x) w).Ac,As hx,B2,h0,(H6 (x:=b) w).Ac,As (m h0),A3];exact hk
 by_cases kp:Lx (A.nd p).kind;rotate_left
 .refine⟨4,?_,⟨λh=>absurd h AU,λf=>absurd f.kp kp⟩⟩;unfold Lx at kp;have v:¬(A.nd p).kind=1:=λe=>kp (.inl e);have u:¬(A.nd p).kind=2:=λe=>kp (.inr (.inl e));have t:¬(A.nd p).kind=4:=λe=>kp (.inr (.inr e));rw[Ae,Ku];refine first _ _ ?_
  simp only[abS,w.nodes,w.addr hp,w.f0 hp,w.addr hx,w.f0 hx,A3,B2,v,u,t]
 by_cases d:(A.nd x).kind=1
 .refine⟨4,?_,⟨λh=>absurd h AU,λf=>absurd d f.kn.1⟩⟩;rw[Ae,Ku];refine first _ _ ?_
  rcases kp with kp|kp|kp<;>simp only[abS,w.nodes,w.addr hp,w.f0 hp,w.addr hx,w.f0 hx,A3,B2,(AU:¬(2:Int)=1),(AU:¬(4:Int)=1),(AU:¬(4:Int)=2),kp,d]
 by_cases c:(A.nd x).kind=2
 .refine⟨4,?_,⟨λh=>absurd h AU,λf=>absurd c f.kn.2⟩⟩;rw[Ae,Ku];refine first _ _ ?_
  rcases kp with kp|kp|kp<;>simp only[abS,w.nodes,w.addr hp,w.f0 hp,w.addr hx,w.f0 hx,A3,B2,(AU:¬(2:Int)=1),(AU:¬(4:Int)=1),(AU:¬(4:Int)=2),kp,c]
 have j:=aIn w ok hx hp;by_cases re:Reach A x p
 .refine⟨4,?_,⟨λh=>absurd h AU,λf=>absurd re f.re⟩⟩;rw[As re] at j;rw[Ae,Ku];refine first _ _ ?_
  rcases kp with kp|kp|kp<;>simp only[abS,w.nodes,w.addr hp,w.f0 hp,w.addr hx,w.f0 hx,A3,B2,(AU:¬(2:Int)=1),(AU:¬(4:Int)=1),(AU:¬(4:Int)=2),kp,d,c,j.Ac]
 rw[Aq re] at j;by_cases g:b=0
 .refine⟨0,?_,⟨λ_=>⟨hp,hx,λh=>absurd g h,kp,⟨d,c⟩,re⟩,λ_=>rfl⟩⟩;rw[Ae,Ku];refine first _ _ ?_
  rcases kp with kp|kp|kp<;>simp only[abS,w.nodes,w.addr hp,w.f0 hp,w.addr hx,w.f0 hx,A3,B2,(AU:¬(2:Int)=1),(AU:¬(4:Int)=1),(AU:¬(4:Int)=2),kp,d,c,j.Ac,g]
 by_cases l:b=x
 .refine⟨5,?_,⟨λh=>absurd h AU,λf=>absurd l (f.hb g).2.1⟩⟩;rw[Ae,Ku];refine first _ _ ?_
  have NO:¬x=0:=by rw[<-l];exact g
  rcases kp with kp|kp|kp<;>simp only[abS,w.nodes,w.addr hp,w.f0 hp,w.addr hx,w.f0 hx,A3,B2,(AU:¬(2:Int)=1),(AU:¬(4:Int)=1),(AU:¬(4:Int)=2),kp,d,c,j.Ac,l,NO]
 have Qk:=m g;by_cases o:(A.nd b).FQ=p
 .refine⟨0,?_,⟨λ_=>⟨hp,hx,λh=>⟨Qk,l,o⟩,kp,⟨d,c⟩,re⟩,λ_=>rfl⟩⟩;rw[Ae,Ku];refine first _ _ ?_
  rcases kp with kp|kp|kp<;>simp only[abS,w.nodes,w.addr hp,w.f0 hp,w.addr hx,w.f0 hx,A3,B2,(AU:¬(2:Int)=1),(AU:¬(4:Int)=1),(AU:¬(4:Int)=2),kp,d,c,j.Ac,g,l,w.addr Qk,w.f1 Qk,AM o]
 .refine⟨5,?_,⟨λh=>absurd h AU,λf=>absurd (f.hb g).2.2 o⟩⟩;rw[Ae,Ku];refine first _ _ ?_
  rcases kp with kp|kp|kp<;>simp only[abS,w.nodes,w.addr hp,w.f0 hp,w.addr hx,w.f0 hx,A3,B2,(AU:¬(2:Int)=1),(AU:¬(4:Int)=1),(AU:¬(4:Int)=2),kp,d,c,j.Ac,g,l,w.addr Qk,w.f1 Qk,o]
def QN(b x:Int)(l:List Int):List Int:=l.flatMap λk=>if k=b then[x,k] else[k]
def Uf{b x:Int}:∀{l:List Int},b∉l->QN b x l=l
 |[],_=>rfl
 |y::l,h=>by have h1:¬y=b:=λe=>h (by simp[e]);have h2:b∉l:=λe=>h (by simp[e]);have:=Uf (x:=x) h2;unfold QN at this⊢;rw[MI,Ad h1,this];rfl
def pT{b x:Int}:∀{l:List Int},l.Nodup->b∈l->QN b x l=l.takeWhile (λk=>decide (k≠b))++x::l.dropWhile (λk=>decide (k≠b))
 |[],_,h=>by cases h
 |y::l,hn,h=>by
  rw[B6] at hn;by_cases h1:y=b;.subst h1;have:=Uf (x:=x) hn.1;unfold QN at this⊢;rw[MI,Af rfl,this];simp
  .have h2:b∈l:=by rcases AX.1 h with h|h;exact absurd h.symm h1;exact h
   have:=pT (x:=x) hn.2 h2;unfold QN at this⊢;rw[MI,Ad h1,this,aKq,aKr];simp[h1]
def pU{b x:Int}{l:List Int}:(QN b x l).length<=2*l.length:=by
 induction l with
 |nil=>simp[QN]
 |cons y l ih=>unfold QN at ih⊢;rw[MI,Av,Bf];split<;>simp only[Bf,BT]<;>omega
def lz{b x y:Int}{l:List Int}:QN b x (l++[y])=QN b x l++if y=b then[x,y] else[y]:=by unfold QN;rw[List.flatMap_append];simp
open Classical in
def aIr{p b e:Int}(w:RA h a n i ps A)(ok:EK A e)(hb:∀y,(A.nd y).Bb.length<=900000000):∃q h' JB,BK cx 129 [Pt a 0,I p,I x,I b] h (I q) h'/\RA h' a n i JB (A.FX p x b)/\DB h (JC a n i) h' (JC a n i):=by
 obtain⟨q,K,o⟩:=aIq (p:=p) (x:=x) (b:=b) w ok;by_cases hf:uk A p x b;rotate_left;.have h0:¬q=0:=λh=>hf (o.1 h);refine⟨q,h,ps,?_,by rw[OK hf];exact w,.refl⟩;rw[Ae,yS];simp only[abS,K.Ac,B2,h0]
 have h0:=o.2 hf;subst h0;obtain⟨h1,lO,r2,w1,E⟩:=aIp w hf.hn (λy=>Br (hb y) AU) ok;have K_:((A.cut x).nd p).Bb.Nodup/\(b≠0->b∈((A.cut x).nd p).Bb)/\((A.cut x).nd p).Bb.length<=900000000/\(0:Int)∉((A.cut x).nd p).Bb/\(A.cut x).has p/\(A.cut x).has x:=by
  have VL:=tQ ok hf.hn hf.kn.2;have Ra:(A.cut x).has p:=Li.2 hf.hp;refine⟨(VL.SM p Ra).jm,λh0=>?_,?_,λh0=>?_,Ra,Li.2 hf.hn⟩
  .obtain⟨b1,b2,b3⟩:=hf.hb h0;have xu:((A.cut x).nd b).FQ=p:=by rw[RG ok hf.hn,Ad b2];split<;>exact b3
   have:=(VL.FQ b (Li.2 b1) (by rw[xu];have:=hf.hp.1;omega)).2;rwa [xu] at this
  .have h1:=hb p;have h2:=hb x;rw[RG ok hf.hn];split;.exact h2
   .split;.exact Br (VR _ _) h1
    .exact h1
  .have:=(VL.M4 p Ra 0 h0).1.1;omega
 obtain⟨K_,t,Œ,hz,Ra,Pb⟩:=K_;generalize z:A.cut x=c at*;have Jl:Ev cx 129 [Pt a 0,I p,I x,I b] h λr h'=>r=I 0/\∃JB,RA h' a n i JB (A.FX p x b)/\DB h (JC a n i) h' (JC a n i):=by
  have hm:AS=140737488355328:=rfl;unfold Ev;rw[yS];simp only[abS,K.Ac,B2,r2.Ac];have Zs:=w1.M4 Ra;have lk:=AV.CN Zs;refine DW (i:=0) (λs:Aa×Nat=>[s.1,I (s.2:Int)]) (λs h2=>s.2<=(c.nd p).Bb.length/\DV (QN b x ((c.nd p).Bb.take s.2)) s.1/\h2=h1) (λs=>(c.nd p).Bb.length-s.2) (λs h2=>DV (QN b x (c.nd p).Bb) s.1/\h2=h1) (.slnil,0) rfl ⟨AZ _,.inr ⟨rfl,rfl⟩,rfl⟩ ?_ ?_
  .rintro⟨u,k⟩ h2 ⟨hk,hu,rfl⟩;simp only at hk hu;rcases AQ k (c.nd p).Bb.length with hlt|Ei
   .have B:=AV.BM (k:= .i64) Zs hlt;rw[BH] at B;have lJ:=pU (b:=b) (x:=x) (l:=(c.nd p).Bb.take k);rw[Aw] at lJ;have f:AB (.C8 1) [I x]=some (.sl 1 [BH x]):=rfl;have kq:AB (.C8 1) [I (c.nd p).Bb[k]]=some (.sl 1 [BH (c.nd p).Bb[k]]):=rfl;have hs:=lz (b:=b) (x:=x) (y:=(c.nd p).Bb[k]) (l:=(c.nd p).Bb.take k);rw[<-AE hlt] at hs;by_cases Â:(c.nd p).Bb[k]=b;.have a1:=AV.Jv (b:=8) (a:=x) hu Ab;have O7:DV (QN b x ((c.nd p).Bb.take k)++[x]) (.sl 1 ((QN b x ((c.nd p).Bb.take k)++[x]).map BH)):= .mk;have a2:=AV.Jv (b:=8) (a:=(c.nd p).Bb[k]) O7 (by rw[Av,A9];omega);rw[Af Â,show[x,(c.nd p).Bb[k]]=[x]++[(c.nd p).Bb[k]] from rfl,<-AI] at hs;simp only[abS,w1.nodes,w1.addr Ra,w1.f2 Ra,lk,(Ab:(k:Int)<((c.nd p).Bb.length:Int)),B,AM Â,f,a1,kq,a2,A3,BO (Ab:k<9223372036854775807)];exact .next (_,k+1) rfl ⟨hlt,by rw[hs];exact .mk,rfl⟩ Dv
    .have a2:=AV.Jv (b:=8) (a:=(c.nd p).Bb[k]) hu Ab;rw[Ad Â] at hs;simp only[abS,w1.nodes,w1.addr Ra,w1.f2 Ra,lk,(Ab:(k:Int)<((c.nd p).Bb.length:Int)),B,Â,kq,a2,A3,BO (Ab:k<9223372036854775807)];exact .next (_,k+1) rfl ⟨hlt,by rw[hs];exact .mk,rfl⟩ Dv
   .rw[AF Ei] at hu;simp only[abS,w1.nodes,w1.addr Ra,w1.f2 Ra,lk,(Ab:¬(k:Int)<((c.nd p).Bb.length:Int))];exact .HG (u,k) rfl ⟨hu,rfl⟩
  .rintro⟨u,k⟩ h2 ⟨hu,rfl⟩;simp only at hu;obtain⟨m,IE,hw⟩:∃m,DV (Jg (c.nd p).Bb b x) m/\(b=0->AB (.append 1 8) [u,.sl 1 [BH x]]=some m)/\(b≠0->m=u):=by
    have lJ:=pU (b:=b) (x:=x) (l:=(c.nd p).Bb);by_cases h0:b=0;.have a1:=AV.Jv (b:=8) (a:=x) hu Ab;refine⟨_,?_,λ_=>a1,λh=>absurd h0 h⟩;have e:QN b x (c.nd p).Bb=(c.nd p).Bb:=Uf (by rw[h0];exact hz);rw[e];unfold Jg;rw[Af h0];exact .mk
    .refine⟨u,?_,λh=>absurd h h0,λ_=>rfl⟩;unfold Jg;rw[Ad h0,<-pT K_ (t h0)];exact hu
   obtain⟨O,J,j,D,_⟩:=w1.wr Ra (k:=2) AU (v:=m) (AV.cells IE) (p:=⟨{c.nd p with Bb:=Jg (c.nd p).Bb b x},m,(pR lO p).av,IE,w1.xh Ra⟩) (by simp only[RN.row];rw[(w1.pn Ra).2];rfl);have Ř:(c.set p {c.nd p with Bb:=Jg (c.nd p).Bb b x}).has x:=Ir.2 Pb;have ZS:=(j.pn Ř).2;obtain⟨N,H,F,C,_⟩:=j.wr Ř (k:=1) AU (v:= I p) rfl (p:=⟨{(c.set p {c.nd p with Bb:=Jg (c.nd p).Bb b x}).nd x with FQ:=p},(pR _ x).kv,(pR _ x).av,j.M4 Ř,j.xh Ř⟩) (by simp only[RN.row];rw[ZS];rfl);have L:A.FX p x b=(c.set p {c.nd p with Bb:=Jg (c.nd p).Bb b x}).set x {(c.set p {c.nd p with Bb:=Jg (c.nd p).Bb b x}).nd x with FQ:=p}:=by unfold Ar.FX;rw[Af hf,z];rfl
   have d:=j.nodes;have g:=j.addr Ř;rw[Bp] at d g;have f:AB (.C8 1) [I x]=some (.sl 1 [BH x]):=rfl;by_cases h0:b=0;.have a1:=hw.1 h0;simp only[abS,AM h0,f,a1,A3,w1.nodes,w1.addr Ra,J,d,g,H];exact⟨_,rfl,rfl,_,by rw[L];exact F,(E.trans D).trans C⟩
   .have M:=hw.2 h0;subst M;simp only[abS,h0,A3,w1.nodes,w1.addr Ra,J,d,g,H];exact⟨_,rfl,rfl,_,by rw[L];exact F,(E.trans D).trans C⟩
 obtain⟨r,h',hr,rfl,JB,w',x'⟩:=Jl.ret;exact⟨0,h',JB,hr,w',x'⟩
def cz(s:Int):JQ cx 207 [I s] (.bool (decide (BS.HX s))):=by rw[L4,Ē];by_cases h1:0<=s<;>by_cases h2:s<=7<;>simp[h1,h2,BS.HX]
def c_(w:RA h a n i ps A)(hl:A.len<=1000000000)(p:RN):∃h' n' o,BK cx 164 [Pt a 0,.agg p.row] h (I (A.len+1)) h'/\RA h' a n' o (ps++[p]) (A.add p.x)/\DB h (JC a n i) h' (JC a n' o):=by
 have hm:AS=140737488355328:=rfl;have hlen:=w.len;have bY:=w.il;have lJ:ps.length<=1000000000:=by unfold Ar.len at hl;omega
 have g1:=IF (b:=168) (AD:=(RN.z::ps).map RN.row) (r2:=[p.row]) (v:= .sl 13 [p.row]) (yq _) AU w.hn .mk AH D9;have M:((RN.z::ps).map RN.row).length=ps.length+1:=AH;rw[M,A9] at g1;have m:(h.set n .CF++[Du.cells ((RN.z::ps).map RN.row++[p.row]).flatten]).length=h.length+1:=AH;have l:(h.set n .CF++[Du.cells ((RN.z::ps).map RN.row++[p.row]).flatten])[h.length]?=some (.cells ((RN.z::(ps++[p])).map RN.row).flatten):=by rw[Bd AH];simp
 have VX:=w.lt (.inl rfl);have aNv:=w.lt (.inr (.inr rfl));have OV:=w.lt (.inr (.inl rfl));have a1:(h.set n .CF++[Du.cells ((RN.z::ps).map RN.row++[p.row]).flatten])[a]?=some (.cells [.Cs n 0 (ps.length+1) 13,.Cs i 0 (ps.length+1) 1]):=by rw[Ai (by simpa using VX),Ap (DJ w.d.1)];exact w.ha
 have i1:(h.set n .CF++[Du.cells ((RN.z::ps).map RN.row++[p.row]).flatten])[i]?=some (.cells ((0::A.i).map (Aa.int .i64))):=by rw[Ai (by simpa using aNv),Ap w.d.2.2];exact w.hi
 have B:∀j,j<h.length->j≠n->(h.set n .CF++[Du.cells ((RN.z::ps).map RN.row++[p.row]).flatten])[j]?=h[j]?:=λj hj hn=>by rw[Ai (by simpa using hj),Ap (DJ hn)]
 generalize h.set n .CF++[Du.cells ((RN.z::ps).map RN.row++[p.row]).flatten]=h1 at*;have q:At h1 a 0 _:=⟨_,a1,rfl⟩;have s:=q.store (u:= .Cs h.length 0 (ps.length+1+1) 13) rfl;have a2:=If (k:=0) (v:= .Cs h.length 0 (ps.length+1+1) 13) a1;have D:(put h1 a 0 (.Cs h.length 0 (ps.length+1+1) 13))[h.length]?=_:=(Cj Ab).trans l;have H:(put h1 a 0 (.Cs h.length 0 (ps.length+1+1) 13))[i]?=_:=(Cj (DJ w.d.2.1)).trans i1;have y:∀j,j<h.length->j≠n->j≠a->(put h1 a 0 (.Cs h.length 0 (ps.length+1+1) 13))[j]?=h[j]?:=λj hj hn ha=>(Cj ha).trans (B j hj hn);have g:(put h1 a 0 (.Cs h.length 0 (ps.length+1+1) 13)).length=h.length+1:=by rw[JG,m]
 generalize put h1 a 0 (.Cs h.length 0 (ps.length+1+1) 13)=h2 at*;have F:A7 h2 none (Pt a 1)=some (.Cs i 0 (ps.length+1) 1):=At.load ⟨_,a2,rfl⟩;have g2:=IF (b:=8) (h:=h2) (id:=i) (AD:=(0::A.i).map BH) (r2:=[BH 0]) (v:= .sl 1 [[I 0]]) (Kq (f:=BH) (λ_=>rfl) _) AU (by rw[N3];exact H) (.inl rfl) AH D9;have L:((0::A.i).map BH).length=ps.length+1:=D9;rw[L,A9,g] at g2;have aNw:a<h2.length:=Ab;have a3:(h2.set i .CF++[Du.cells ((0::A.i).map BH++[BH 0]).flatten])[a]?=_:=((Ai (by simpa using aNw)).trans (Ap (DJ w.d.2.1))).trans a2;have C:(h2.set i .CF++[Du.cells ((0::A.i).map BH++[BH 0]).flatten])[h.length]?=_:=((Ai D9).trans (Ap Ab)).trans D;have i3:(h2.set i .CF++[Du.cells ((0::A.i).map BH++[BH 0]).flatten])[h.length+1]?=some (.cells ((0::(A.i++[0])).map (Aa.int .i64))):=by rw[Bd D9];simp only[Bp,g,Dc,IP];rw[<-N3];simp
 have t:∀j,j<h.length->j≠n->j≠a->j≠i->(h2.set i .CF++[Du.cells ((0::A.i).map BH++[BH 0]).flatten])[j]?=h[j]?:=λj hj hn ha hi=>((Ai D9).trans (Ap (DJ hi))).trans (y j hj hn ha)
 have K:(h2.set i .CF++[Du.cells ((0::A.i).map BH++[BH 0]).flatten]).length=h.length+2:=D9;generalize h2.set i .CF++[Du.cells ((0::A.i).map BH++[BH 0]).flatten]=c at*;have t3:At c a 1 (.Cs i 0 (ps.length+1) 1):=⟨_,a3,rfl⟩;have r:=t3.store (u:= .Cs (h.length+1) 0 (ps.length+1+1) 1) rfl;have a4:=If (k:=1) (v:= .Cs (h.length+1) 0 (ps.length+1+1) 1) a3;have l4:A7 (put c a 1 (.Cs (h.length+1) 0 (ps.length+1+1) 1)) none (Pt a 0)=some (.Cs h.length 0 (ps.length+1+1) 13):=At.load ⟨_,a4,rfl⟩;refine⟨put c a 1 (.Cs (h.length+1) 0 (ps.length+1+1) 1),h.length,h.length+1,?_,⟨?_,?_,?_,?_,?_,?_⟩,⟨by rw[JG];omega,λj hj hn=>?_,λj hj=>?_⟩⟩
 .have em:AB (.C8 13) [.agg p.row]=some (.sl 13 [p.row]):=rfl;have kq:AB (.C8 1) [I 0]=some (.sl 1 [[I 0]]):=rfl;have hd:=Hw (n:=ps.length+1+1) Ab Ab;have J:A.len+1=((ps.length+1+1 -1:Nat):Int):=by unfold Ar.len;omega
  have E:AB (.len false) [.Cs h.length 0 (ps.length+1+1) 13]=some (I ((ps.length+1+1:Nat):Int)):=rfl;rw[RN.row] at em g1;rw[Ae,ď,RN.row,J];simp only[abS,w.nodes,em,g1,s,F,kq,g2,r,l4,E,hd]
 .unfold Ar.add;simp only;rw[w.e,BE];rfl
 .unfold Ar.add;simp only[Av,A9];omega
 .rw[a4,Av];rfl
 .rw[Cj Ab];exact C
 .rw[Cj Ab];exact i3
 .exact⟨Ab,Ab,Ab⟩
 .have h1:j≠a:=λe=>hn (.inl e);have h2:j≠n:=λe=>hn (.inr (.inl e));have c:j≠i:=λe=>hn (.inr (.inr e));rw[Cj h1];exact t j hj h2 h1 c
 .rcases hj with rfl|rfl|rfl
  .exact .inl (.inl rfl)
  .exact .inr (Ag _)
  .exact .inr (Fj _)
def aBo{v:Aa}{l:List A6}(hv:Bq l v)(hb:l.length<=1000000000)(hs:∀y∈l,BS.HX y.Bc)(h:Ah):BK cx 312 [v] h (.bool true) h:=by
 rw[Ae,ı];refine Bl (λk:Nat=>[ff,I (k:Int)]) (λk h1=>k<=l.length/\h1=h) (λk=>l.length-k) 0 rfl ⟨AZ _,rfl⟩ ?_;rintro k h1 ⟨hk,rfl⟩;have hvl:=AV.CN hv;rcases AQ k l.length with hlt|Ei
 .have b:=AV.BM (k:= .i64) hv hlt;rw[A6.row] at b;have c:∀{Q:HF} {h:Ah} {kk:Aa->IT},W cx (.B7 207 [I l[k].Bc] kk) Q h↔W cx (kk (.bool (decide (BS.HX l[k].Bc)))) Q h:=(cz _).B7 rfl rfl;simp only[abS,hvl,(Ab:(k:Int)<(l.length:Int)),b,c,As (hs _ (AN hlt)),BO (Ab:k<9223372036854775807)];exact AL.next (k+1) rfl ⟨hlt,rfl⟩ Ab
 .simp only[abS,hvl,(Ab:¬(k:Int)<(l.length:Int))]
def aBp{v:Aa}{l:List A6}(hv:Bq l v)(hb:l.length<=1000000000)(h:Ah):∃u,BK cx 313 [v] h u h/\Bq (Ct l) u:=by
 have hm:AS=140737488355328:=rfl;have hvl:=AV.CN hv;have Jl:Ev cx 313 [v] h λr h'=>Bq (Ct l) r/\h'=h:=by
  unfold Ev;rw[Ĳ];refine Bl (λs:Aa×Nat=>[s.1,I (s.2:Int)]) (λs h1=>s.2<=l.length/\Bq (Ct (l.take s.2)) s.1/\h1=h) (λs=>l.length-s.2) (.slnil,0) rfl ⟨AZ _,.inr ⟨rfl,rfl⟩,rfl⟩ ?_;rintro⟨u,k⟩ h1 ⟨hk,hu,rfl⟩;simp only at hk hu;rcases AQ k l.length with hlt|Ei
  .have lK:=AV.CN hu;have nc:=Qv (l:=l.take k);rw[Aw] at nc;have e:=AV.BM (k:= .i64) hv hlt;rw[A6.row] at e;simp only[abS,↓reduceIte,hvl,(Ab:(k:Int)<(l.length:Int))];refine DW (i:=2) (λj:Nat=>[.bool (((Ct (l.take k)).take j).any λz=>decide (DF l[k]=DF z)),I (j:Int)]) (λj h2=>j<=(Ct (l.take k)).length/\h2=h1) (λj=>(Ct (l.take k)).length-j) (λj h2=>j=(Ct (l.take k)).length/\h2=h1) 0 rfl ⟨AZ _,rfl⟩ ?_ ?_
   .rintro j h2 ⟨hj,rfl⟩;rcases AQ j (Ct (l.take k)).length with c|q
    .have o:=AV.BM (k:= .i64) hu c;rw[A6.row] at o;have es:((Ct (l.take k)).take (j+1)).any (λz=>decide (DF l[k]=DF z))=(((Ct (l.take k)).take j).any (λz=>decide (DF l[k]=DF z))||decide (DF l[k]=DF (Ct (l.take k))[j])):=by rw[AE c,Vl];simp
     by_cases g:(Ct (l.take k))[j].Bc=l[k].Bc
     .by_cases p:(Ct (l.take k))[j].name=l[k].name
      .have d:decide (DF l[k]=DF (Ct (l.take k))[j])=true:=by simp[DF,g,p]
       simp only[abS,lK,(Ab:(j:Int)<((Ct (l.take k)).length:Int)),e,o,AM g,As p,BO (Ab:j<9223372036854775807)];exact .next (j+1) (by rw[es,d,aEy]) ⟨c,rfl⟩ Ab
      .have d:decide (DF l[k]=DF (Ct (l.take k))[j])=false:=by simp[DF];exact λ_ h=>p h.symm
       simp only[abS,lK,(Ab:(j:Int)<((Ct (l.take k)).length:Int)),e,o,AM g,Aq p,BO (Ab:j<9223372036854775807)];exact .next (j+1) (by rw[es,d,JI]) ⟨c,rfl⟩ Ab
     .have d:decide (DF l[k]=DF (Ct (l.take k))[j])=false:=by simp[DF];exact λh=>absurd h.symm g
      simp only[abS,lK,(Ab:(j:Int)<((Ct (l.take k)).length:Int)),e,o,g,BO (Ab:j<9223372036854775807)];exact .next (j+1) (by rw[es,d,JI]) ⟨c,rfl⟩ Ab
    .simp only[abS,lK,(Ab:¬(j:Int)<((Ct (l.take k)).length:Int))];exact .HG j rfl ⟨Ab,rfl⟩
   .rintro j h2 ⟨rfl,rfl⟩;have m:Ct (l.take (k+1))=if(Ct (l.take k)).any (λz=>decide (DF l[k]=DF z)) then Ct (l.take k) else Ct (l.take k)++[l[k]]:=by rw[AE hlt];exact QH
    have em:AB (.C8 3) [.agg [I l[k].Bc,.str l[k].name,.str l[k].value]]=some (.sl 3 [[I l[k].Bc,.str l[k].name,.str l[k].value]]):=rfl;have a1:=AV.Jv (f:=A6.row) (b:=40) (a:=l[k]) hu Ab;rw[A6.row] at a1;rw[Bx];cases hq:(Ct (l.take k)).any (λz=>decide (DF l[k]=DF z)) with
    |true=>rw[Af hq] at m;simp only[abS,↓reduceIte,BO (Ab:k<9223372036854775807)];exact AL.next (u,k+1) rfl ⟨hlt,by rw[m];exact hu,rfl⟩ Dv
    |false=>rw[Ad (by rw[hq];decide)] at m;simp only[abS,Nat.reduceLeDiff,↓reduceIte,e,em,a1,BO (Ab:k<9223372036854775807)];exact AL.next (_,k+1) rfl ⟨hlt,by rw[m];exact .mk,rfl⟩ Dv
  .rw[AF Ei] at hu;simp only[abS,↓reduceIte,hvl,(Ab:¬(k:Int)<(l.length:Int))];exact⟨_,rfl,hu⟩
 obtain⟨r,h',hr,hu,rfl⟩:=Jl.ret;exact⟨r,hr,hu⟩
end
section
variable{h h':Ah}{a n i:Nat}{ps:List RN}{A:Ar}{x d:Int}{G:Nat->Prop}
def da(w:RA h a n i ps A)(hd:A.has d)(hk:(A.nd d).kind=1):BK cx 168 [Pt a 0,I d] h (I 0) h:=by rw[Ae,đ];simp only[abS,(H6 (x:=d) w).Ac,As hd,w.nodes,w.addr hd,w.f0 hd,hk,B2]
def aIw(w:RA h a n i ps A)(hl:A.len<=1000000000)(hd:A.has d)(hk:(A.nd d).kind=1)(k:Int)(s:An):
  ∃h' n' c JB,BK cx 128 [Pt a 0,I d,.agg [I k,I 0,.slnil,I 0,I 0,S [],.slnil,.str s,S [],S [],ff,I 0,I 0]] h (.tuple [I (A.len+1),I 0]) h'/\RA h' a n' c JB (A.add {kind:=k,CQ:=d,data:=s})/\DB h (JC a n i) h' (JC a n' c):=by
 obtain⟨h1,f,i1,b,w1,e⟩:=c_ w hl ⟨{kind:=k,CQ:=d,data:=s},.slnil,.slnil,.inr ⟨rfl,rfl⟩,.inr ⟨rfl,rfl⟩⟩;refine⟨h1,f,i1,_,?_,w1,e⟩;rw[RN.row] at b;rw[Ae,ă];simp only[abS,(da w hd hk).Ac,b.Ac,B2]
def aIx(w:RA h a n i ps A)(hl:A.len<=1000000000)(q:Bool):
  ∃h' n' c JB,BK cx 62 [Pt a 0,.bool q] h (I (A.len+1)) h'/\RA h' a n' c JB (A.add {kind:=1,CQ:=A.len+1,CH:=q})/\DB h (JC a n i) h' (JC a n' c):=by
 obtain⟨h1,g,i1,b,w1,f⟩:=c_ w hl ⟨{kind:=1,CQ:=A.len+1,CH:=q},.slnil,.slnil,.inr ⟨rfl,rfl⟩,.inr ⟨rfl,rfl⟩⟩;refine⟨h1,g,i1,_,?_,w1,f⟩;have hn:=w.len;have e:((ps.length+1:Nat):Int)=A.len+1:=by unfold Ar.len;omega
 have j:AB (.len false) [.Cs n 0 (ps.length+1) 13]=some (I (A.len+1)):=by rw[<-e];rfl
 rw[RN.row] at b;rw[Ae,aDc];simp only[abS,Nat.reduceLeDiff,↓reduceIte,AT,w.nodes,j,b.Ac]
def RA.db(w:RA h a n i ps A)(hx:A.has x):AB (.Fu 1) [.Cs i 0 (ps.length+1) 1,I x]=some (Pt i x.toNat):=by obtain⟨h1,h2⟩:=w.at hx;have:=E0 (k:= .i64) (id:=i) (z:=1) h1;rwa [h2,FH] at this
def RA.iat(w:RA h a n i ps A)(hx:A.has x):At h i x.toNat (I (A.inr x)):=by obtain⟨h1,h2⟩:=w.at hx;have b:=hx.1;have hl:=w.len;have bY:=w.il;refine⟨_,w.hi,?_⟩;obtain⟨k,hk⟩:∃k,x.toNat=k+1:=⟨x.toNat-1,Ab⟩;rw[hk,Bk,LY,Ck];unfold Ar.inr;rw[Af hx,hk,Fb,AJ,Ak Ab];rfl
def RA.aIz(w:RA h a n i ps A)(hx:A.has x)(v:Int):RA (put h i x.toNat (I v)) a n i ps (A.I6 x v)/\DB h (JC a n i) (put h i x.toNat (I v)) (JC a n i):=by
 obtain⟨h1,h2⟩:=w.at hx;have b:=hx.1;refine⟨⟨w.e,?_,(Cj w.d.2.1).trans w.ha,(Cj w.d.2.2).trans w.hn,?_,w.d⟩,⟨by rw[JG];exact Ag _,λj _ hn=>Cj λe=>hn (.inr (.inr e)),λj hj=> .inl hj⟩⟩;.unfold Ar.I6;simp only;rw[Af hx,Bp];exact w.il
 .rw[If w.hi];obtain⟨k,hk⟩:∃k,x.toNat=k+1:=⟨x.toNat-1,Ab⟩;unfold Ar.I6;simp only;rw[Af hx,hk,Fb,Bk,aOf,Bk,Ep]
def aIA(w:RA h a n i ps A)(hl:A.len<=1000000000)(hd:A.has d):∃h' n' j JB,BK cx 315 [Pt a 0,I d] h (I (A.FB d)) h'/\RA h' a n' j JB (A.Dk d)/\DB h (JC a n i) h' (JC a n' j):=by
 by_cases h0:A.inr d=0;rotate_left
 .refine⟨h,n,i,ps,?_,by unfold Ar.Dk;rw[Af h0];exact w,.refl⟩;have e:A.FB d=A.inr d:=by unfold Ar.FB;rw[Af h0]
  rw[Ae,au,e];simp only[abS,w.YJ,w.db hd,(w.iat hd).load,h0]
 .obtain⟨h1,r,i1,lO,q,w1,m⟩:=aIx w hl false;have eY:(A.add {kind:=1,CQ:=A.len+1,CH:=false}).has d:=DQ.2 (.inl hd);have Nj:(A.add {kind:=1,CQ:=A.len+1,CH:=false}).has (A.len+1):=DQ.2 (.inr rfl);obtain⟨b,l⟩:=w1.aIz eY (A.len+1);have Tv:((A.add {kind:=1,CQ:=A.len+1,CH:=false}).I6 d (A.len+1)).has (A.len+1):=Nj;have g:(((A.add {kind:=1,CQ:=A.len+1,CH:=false}).I6 d (A.len+1)).I6 (A.len+1) (A.len+1)).has d:=eY;obtain⟨c,k⟩:=b.aIz Tv (A.len+1);have e:A.FB d=A.len+1:=by unfold Ar.FB;rw[Ad (by simpa using h0)]
  have t:A.Dk d=(((A.add {kind:=1,CQ:=A.len+1,CH:=false}).I6 d (A.len+1)).I6 (A.len+1) (A.len+1)):=by unfold Ar.Dk;rw[Ad (by simpa using h0)]
  refine⟨_,r,i1,lO,?_,by rw[t];exact c,(m.trans l).trans k⟩;have s:(((A.add {kind:=1,CQ:=A.len+1,CH:=false}).I6 d (A.len+1)).I6 (A.len+1) (A.len+1)).inr d=A.len+1:=by
   have f:(A.add {kind:=1,CQ:=A.len+1,CH:=false}).i.length=(A.add {kind:=1,CQ:=A.len+1,CH:=false}).n.length:=w1.il;rw[PY b.il,PY f];split;.rfl
   .rw[Af ⟨rfl,eY⟩]
  have p:=(w1.iat eY).store (u:= I (A.len+1)) rfl;have o:=(b.iat Tv).store (u:= I (A.len+1)) rfl;have ld:=(c.iat g).load;rw[s] at ld;rw[Ae,au,e];simp only[abS,w.YJ,w.db hd,(w.iat hd).load,h0,q.Ac,w1.YJ,w1.db eY,p,b.YJ,b.db Tv,o,c.YJ,ld]
def aIB{v:Aa}{l:List A6}(w:RA h a n i ps A)(hx:A.has x)(hk:(A.nd x).kind=4)(hv:Bq l v)(hb:l.length<=1000000000)(hs:∀y∈l,BS.HX y.Bc):
  ∃h' JB,BK cx 226 [Pt a 0,I x,v] h (I 0) h'/\RA h' a n i JB (A.Jy x l)/\DB h (JC a n i) h' (JC a n i):=by
 have e:=aBo hv hb hs h;obtain⟨u,r2,hu⟩:=aBp hv hb h;obtain⟨h1,c,w1,b,_⟩:=w.wr hx (k:=6) AU (v:=u) (AV.cells hu) (p:=⟨{A.nd x with Az:=Ct l},(pR ps x).kv,u,w.M4 hx,hu⟩) (by simp only[RN.row];rw[(w.pn hx).2];rfl);refine⟨h1,_,?_,w1,b⟩;rw[Ae,ġ];simp only[abS,(H6 (x:=x) w).Ac,As hx,w.nodes,w.addr hx,w.f0 hx,hk,B2,e.Ac,r2.Ac,BN,c]
def aIC(p:RN)(h:Ah):BK cx 314 [.agg p.row] h (.bool (decide (eU p.x))) h:=by rw[Ae,ĳ,RN.row];simp only[BF,eU];refine⟨λh1=>⟨λh2=>?_,λh2=>?_⟩,λh1=>?_⟩<;>simp[*]
def RA.aBq(w:RA h a n i ps A)(hx:A.has x):A7 h (some 13) (Pt n (nR x))=some (.agg (pR ps x).row):=by
 obtain⟨h1,h2⟩:=w.at hx;have hlt:x.toNat<(RN.z::ps).length:=by simpa using h1
 have:=bU (yq _) w.hn (i:=x.toNat) (by simpa using h1);rw[CZ] at this;have e:=(w.pn hx).1;rw[Ak hlt,BD] at e;rw[e] at this;exact this
def aBr{v:Aa}{l:List A6}{sp:Int}{nm:An}(w:RA h a n i ps A)(hl:A.len+3<=1000000000)(hd:A.has d)(hk:(A.nd d).kind=1)(hs:BS.HX sp)(hv:Bq l v)(hb:l.length<=1000000000)(qh:∀y∈l,BS.HX y.Bc):
  ∃h' n' C JB,BK cx 165 [Pt a 0,I d,I sp,.str nm,v] h (.tuple [I (A.len+1),I 0]) h'/\RA h' a n' C JB (A.elem d sp nm l)/\DB h (JC a n i) h' (JC a n' C):=by
 have z:=aBo hv hb qh h;obtain⟨u,r2,hu⟩:=aBp hv hb h;have g:u.cells=[u]:=AV.cells hu;obtain⟨h1,N,i1,m,w1,s⟩:=c_ w Ab ⟨{kind:=4,CQ:=d,Bc:=sp,name:=nm,Az:=Ct l},.slnil,u,.inr ⟨rfl,rfl⟩,hu⟩;have B:∀{Q:HF} {h:Ah} {kk:Aa->IT},W cx (.B7 207 [I sp] kk) Q h↔W cx (kk (.bool (decide (BS.HX sp)))) Q h:=(cz _).B7 rfl rfl;have Nj:(A.add {kind:=4,CQ:=d,Bc:=sp,name:=nm,Az:=Ct l}).has (A.len+1):=DQ.2 (.inr rfl);have eY:(A.add {kind:=4,CQ:=d,Bc:=sp,name:=nm,Az:=Ct l}).has d:=DQ.2 (.inl hd);have Wa:(A.add {kind:=4,CQ:=d,Bc:=sp,name:=nm,Az:=Ct l}).len=A.len+1:=by unfold Ar.add Ar.len;simp
 have f:=aIC (pR (ps++[⟨{kind:=4,CQ:=d,Bc:=sp,name:=nm,Az:=Ct l},.slnil,u,.inr ⟨rfl,rfl⟩,hu⟩]) (A.len+1)) h1;rw[(w1.pn Nj).2,IH,Af rfl] at f;have ld:=w1.aBq Nj;rw[RN.row] at m;unfold Ar.elem;simp only
 by_cases j:eU {kind:=4,CQ:=d,Bc:=sp,name:=nm,Az:=Ct l};rotate_left;.rw[Ad j];rw[Aq j] at f;refine⟨h1,N,i1,_,?_,w1,s⟩;rw[Ae,yX];simp only[abS,Nat.reduceLeDiff,↓reduceIte,AT,(da w hd hk).Ac,B2,B,As hs,z.Ac,r2.Ac,g,m.Ac,w1.nodes,w1.addr Nj,ld,f.Ac]
 .rw[Af j];rw[As j] at f;generalize q:A.add {kind:=4,CQ:=d,Bc:=sp,name:=nm,Az:=Ct l}=b at*;generalize ps++[(⟨{kind:=4,CQ:=d,Bc:=sp,name:=nm,Az:=Ct l},.slnil,u,.inr ⟨rfl,rfl⟩,hu⟩:RN)]=lO at*;obtain⟨h2,P,R,uW,L,J,F⟩:=aIA w1 Ab eY;have aQ:(b.Dk d).len<=A.len+2:=by
   unfold Ar.Dk;split;.omega
   .rw[SK,SK];have:(b.add {kind:=1,CQ:=b.len+1}).len=b.len+1:=by unfold Ar.add Ar.len;simp
    omega
  have Tv:(b.Dk d).has (A.len+1):=by
   unfold Ar.Dk;split;.exact Nj
   .rw[NV,NV];exact DQ.2 (.inl Nj)
  obtain⟨S,M,i3,t,e,E⟩:=c_ J Ab ⟨{kind:=2,En:=A.len+1,CQ:=b.FB d},.slnil,.slnil,.inr ⟨rfl,rfl⟩,.inr ⟨rfl,rfl⟩⟩;have c:((b.Dk d).add {kind:=2,En:=A.len+1,CQ:=b.FB d}).has (A.len+1):=DQ.2 (.inl Tv);have aD7:((b.Dk d).add {kind:=2,En:=A.len+1,CQ:=b.FB d}).nd (A.len+1)={kind:=4,CQ:=d,Bc:=sp,name:=nm,Az:=Ct l}:=by
   have Eo:=Tv.2;rw[IH,Ad (by unfold Ar.len at Eo⊢;omega)];have h0:b.nd (A.len+1)={kind:=4,CQ:=d,Bc:=sp,name:=nm,Az:=Ct l}:=by rw[<-q,IH,Af rfl]
   unfold Ar.Dk;split;.exact h0
   .rw[SL,SL,IH,Ad Ab];exact h0
  have ZS:=(e.pn c).2;rw[aD7] at ZS;obtain⟨O,K,H,D,_⟩:=e.wr c (k:=11) AU (v:= I ((b.Dk d).len+1)) rfl (p:=⟨{kind:=4,CQ:=d,Bc:=sp,name:=nm,Az:=Ct l,cont:=(b.Dk d).len+1},(pR _ (A.len+1)).kv,(pR _ (A.len+1)).av,by have:=e.M4 c;rw[aD7] at this;exact this,by have:=e.xh c;rw[aD7] at this;exact this⟩) (by simp only[RN.row];rw[ZS];rfl);refine⟨O,M,i3,_,?_,H,((s.trans F).trans E).trans D⟩;rw[RN.row] at t;have o:=e.nodes;have r:=e.addr c;rw[Ae,yX];simp only[abS,Nat.reduceLeDiff,↓reduceIte,AT,(da w hd hk).Ac,B2,B,As hs,z.Ac,r2.Ac,g,m.Ac,w1.nodes,w1.addr Nj,ld,f.Ac,L.Ac,t.Ac,o,r,K]
end
structure RX(h:Ah)(bi a:Nat)(o c t:Aa)(G:Nat->Prop)(b:BS):Prop where
 hb:h[bi]?=some (.cells (IL a b o c t))
 o:BY b.AW o
 t:DV b.tm t
 w:RW h G a b.a
 nb:¬G bi
section
variable{h h':Ah}{bi a:Nat}{o c t:Aa}{G G' F:Nat->Prop}{b:BS}{x:Int}{m:Nat}
def RX.lt(w:RX h bi a o c t G b):bi<h.length:=(Al.1 w.hb).1
def RX.Dn{h':Ah}(w:RX h bi a o c t G b)(hf:∀i,i=bi\/G i->h'[i]?=h[i]?):RX h' bi a o c t G b:=
 ⟨by rw[hf bi (.inl rfl)];exact w.hb,w.o,w.t,w.w.Dn λi hi=>hf i (.inr hi),w.nb⟩
def RX.Ib(w:RX h bi a o c t G b){u:Ah}:RX (h++u) bi a o c t G b:=w.Dn λi hi=>Ai (by rcases hi with rfl|hi;exact w.lt;exact w.w.lt hi)
def RX.ld(w:RX h bi a o c t G b)(k:Nat):A7 h none (Pt bi k)=(IL a b o c t)[k]?:=by simp only[A7,w.hb,Ex]
def RX.l0(w:RX h bi a o c t G b):A7 h none (Pt bi 0)=some (Pt a 0):=w.ld 0
def RX.l1(w:RX h bi a o c t G b):A7 h none (Pt bi 1)=some (I b.CQ):=w.ld 1
def RX.l4(w:RX h bi a o c t G b):A7 h none (Pt bi 4)=some (I b.mode):=w.ld 4
def RX.l7(w:RX h bi a o c t G b):A7 h none (Pt bi 7)=some (I b.head):=w.ld 7
def RX.l9(w:RX h bi a o c t G b):A7 h none (Pt bi 9)=some (.bool b.L7):=w.ld 9
def RX.P_(w:RX h bi a o c t G b):A7 h none (Pt bi 15)=some (.bool b.EV):=w.ld 15
def RX.l3(w:RX h bi a o c t G b):A7 h none (Pt bi 3)=some c:=w.ld 3
def RX.l6(w:RX h bi a o c t G b):A7 h none (Pt bi 6)=some t:=w.ld 6
def RX.qM(w:RX h bi a o c t G b):At h bi 3 c:=⟨_,w.hb,rfl⟩
def RX.bw{A':Ar}(w:RX h bi a o c t G b)(hp:RW h' G' a A')(x:DB h G h' G'):RX h' bi a o c t G' {b with a:=A'}/\DB h (Bt bi G) h' (Bt bi G'):=
 ⟨⟨by rw[x.old bi w.lt w.nb];exact w.hb,w.o,w.t,hp,λhg=>by rcases x.Bt bi hg with h|h;exact w.nb h;have:=w.lt;omega⟩,x.aBb⟩
def RX.C0(w:RX h bi a o c t G b){u:Ah}:DB h (Bt bi G) (h++u) (Bt bi G):= .Ib
def RX.put{k:Nat}{v o' c' t':Aa}{b':BS}(w:RX h bi a o c t G b)(e:(IL a b o c t).set k v=IL a b' o' c' t')(ea:b'.a=b.a)(ho:BY b'.AW o')(ht:DV b'.tm t'):RX (Am.put h bi k v) bi a o' c' t' G b':=
 ⟨by rw[Hy w.hb,e];exact AO w.lt,ho,ht,by rw[ea];exact w.w.Dn λi hi=>Cj λe=>w.nb (e▸hi),w.nb⟩
def RX.HZ{u:Aa}{l:List Item}(w:RX h bi a o c t G b)(hu:BY l u):RX (Am.put h bi 2 u) bi a u c t G {b with AW:=l}:=w.put rfl rfl hu w.t
def RX.Kh{u:Aa}{l:List Cc}(w:RX h bi a o c t G b):RX (Am.put h bi 3 u) bi a o u t G {b with A5:=l}:=w.put rfl rfl w.o w.t
def RX.st{k:Nat}{v v0:Aa}(w:RX h bi a o c t G b)(hk:(IL a b o c t)[k]?=some v0)(hv:v.cells=[v]):Co h 1 (Pt bi k) v=some (Am.put h bi k v):=At.store (v:=v0) ⟨_,w.hb,hk⟩ hv
def RX.Ŝ(w:RX h bi a o c t G b):A7 h (some 4) (Pt bi 10)=some (.agg b.ctx.row):=by simp only[A7,w.hb];rfl
def RX.pG(w:RX h bi a o c t G b)(v:Int):RX (Am.put h bi 4 (I v)) bi a o c t G {b with mode:=v}:=w.put rfl rfl w.o w.t
def RX.YP{u:Aa}{l:List Int}(w:RX h bi a o c t G b)(hu:DV l u):RX (Am.put h bi 6 u) bi a o c u G {b with tm:=l}:=w.put rfl rfl w.o hu
def RX.step{A':Ar}{R:Ah->Prop}(w:RX h bi a o c t G b)(f:∀n i ps,RA h a n i ps b.a->∃h' n' d JB,R h'/\RA h' a n' d JB A'/\DB h (JC a n i) h' (JC a n' d)):
  ∃h' G',R h'/\RX h' bi a o c t G' {b with a:=A'}/\DB h (Bt bi G) h' (Bt bi G'):=by
 obtain⟨n,i,ps,j,e⟩:=w.w;obtain⟨h',n',d,JB,r,w',x⟩:=f n i ps j;obtain⟨k,g⟩:=w.bw (G':=JC a n' d) ⟨n',d,JB,w',rfl⟩ (by rw[e];exact x);exact⟨h',_,r,k,g⟩
def ME(w:RX h bi a o c t G b)(x:Int):BK cx 209 [Pt bi 0,I x] h (I (b.a.nd x).kind) h:=by
 obtain⟨n,i,ps,d,e⟩:=w.w;rw[Ae,Ĕ];by_cases hx:b.a.has x;.simp only[abS,w.l0,(H6 (x:=x) d).Ac,As hx,d.nodes,d.addr hx,d.f0 hx]
 .rw[HI hx];simp only[abS,w.l0,(H6 (x:=x) d).Ac,Aq hx]
def dd(w:RX h bi a o c t G b)(x:Int):BK cx 214 [Pt bi 0,I x] h (I (if b.a.has x then(b.a.nd x).CQ else b.CQ)) h:=by
 obtain⟨n,i,ps,d,e⟩:=w.w;rw[Ae,Ę];by_cases hx:b.a.has x;.rw[Af hx];simp only[abS,w.l0,(H6 (x:=x) d).Ac,As hx,d.nodes,d.addr hx,d.f3 hx]
 .rw[Ad hx];simp only[abS,w.l0,(H6 (x:=x) d).Ac,Aq hx,w.l1]
def aBs(w:RX h bi a o c t G b)(x:Int)(ws:An)(hw:ws.length<9223372036854775806)(hn:(b.a.nd x).name.length<9223372036854775807):BK cx 232 [Pt bi 0,I x,.str ws] h (.bool (decide ((b.a.nd x).kind=4/\(b.a.nd x).Bc=1)&&Ga ws (b.a.nd x).name)) h:=by
 obtain⟨n,i,ps,d,e⟩:=w.w;rw[Ae,ħ];by_cases hk:(b.a.nd x).kind=4
 .have hx:b.a.has x:=by
   by_cases hp:b.a.has x;.exact hp
   .rw[HI hp] at hk;simp at hk
  have r2:∀{Q:HF} {h:Ah} {kk:Aa->IT},W cx (.B7 139 [.str ws,.str (b.a.nd x).name] kk) Q h↔W cx (kk (.bool (Ga ws (b.a.nd x).name))) Q h:=(aGH ws _ hw hn).B7 rfl rfl;by_cases hs:(b.a.nd x).Bc=1;.simp only[abS,(ME w x).Ac,AM hk,w.l0,d.nodes,d.addr hx,d.f4 hx,AM hs,d.f5 hx,r2,IU]
  .simp only[abS,(ME w x).Ac,AM hk,w.l0,d.nodes,d.addr hx,d.f4 hx,hs,IU]
 .simp only[abS,(ME w x).Ac,hk,IU]
def RX.kR(w:RX h bi a o c t G b)(ok:BA b)(rm:BZ b m)(p x bf:Int):∃d h' G',BK cx 129 [Pt a 0,I p,I x,I bf] h (I d) h'/\RX h' bi a o c t G' {b with a:=b.a.FX p x bf}/\DB h (Bt bi G) h' (Bt bi G'):=by
 have hk:∀y,(b.a.nd y).Bb.length<=900000000:=λy=>Br (YL ok.ok y) (by have:=rm.n;omega);obtain⟨h',G',⟨d,r⟩,w',x'⟩:=w.step (A':=b.a.FX p x bf) (R:=λh'=>∃d:Int,BK cx 129 [Pt a 0,I p,I x,I bf] h (I d) h') λn i ps e=>by obtain⟨d,h',JB,r,w',x'⟩:=aIr (p:=p) (x:=x) (b:=bf) e ok.ok hk;exact⟨h',n,i,JB,⟨d,r⟩,w',x'⟩
 exact⟨d,h',G',r,w',x'⟩
def RX.self(w:RX h bi a o c t G b){A':Ar}(e:A'=b.a):RX h bi a o c t G {b with a:=A'}:=by subst e;exact w
def de(w:RX h bi a o c t G b)(ok:BA b)(rm:BZ b m)(p x bf:Int):∃h' G',BK cx 166 [Pt bi 0,I p,I x,I bf] h (.tuple []) h'/\RX h' bi a o c t G' {b with a:=b.a.EA x p bf}/\DB h (Bt bi G) h' (Bt bi G'):=by
 obtain⟨s,h1,l,g,w1,f⟩:=w.kR ok rm p x bf;by_cases hp:(b.a.nd p).kind=1;rotate_left
 .have e:b.a.EA x p bf=b.a.FX p x bf:=by unfold Ar.EA;rw[Ad λh=>hp h.1]
  refine⟨h1,l,?_,by rw[e];exact w1,f⟩;rw[Ae,fY];simp only[abS,(ME w p).Ac,hp,w.l0,g.Ac]
 by_cases hx:(b.a.nd x).kind=4;rotate_left
 .have e:b.a.EA x p bf=b.a.FX p x bf:=by unfold Ar.EA;rw[Ad λh=>hx h.2.1]
  refine⟨h1,l,?_,by rw[e];exact w1,f⟩;rw[Ae,fY];simp only[abS,(ME w p).Ac,AM hp,(ME w x).Ac,hx,w.l0,g.Ac]
 have Qi:(b.a.nd p).Bb.length<=1000000000:=Br (YL ok.ok p) (by have:=rm.n;omega);obtain⟨kv,r2,bu⟩:∃v,BK cx 212 [Pt a 0,I p] h v h/\DV (b.a.nd p).Bb v:=by obtain⟨n,i,ps,q,_⟩:=w.w;exact yr q Qi
 have Jl:Ev cx 166 [Pt bi 0,I p,I x,I bf] h λr h'=>r= .tuple []/\∃G',RX h' bi a o c t G' {b with a:=b.a.EA x p bf}/\DB h (Bt bi G) h' (Bt bi G'):=by
  unfold Ev;have hvl:=AV.CN bu;rw[fY];simp only[abS,(ME w p).Ac,AM hp,(ME w x).Ac,AM hx,w.l0,r2.Ac];refine Bl (λk:Nat=>[I (k:Int)]) (λk h1=>k<=(b.a.nd p).Bb.length/\(∀y∈(b.a.nd p).Bb.take k,¬(b.a.nd y).kind=4)/\h1=h) (λk=>(b.a.nd p).Bb.length-k) 0 rfl ⟨AZ _,λy hy=>by simp at hy,rfl⟩ ?_;rintro k h2 ⟨hk,ha,rfl⟩;rcases AQ k (b.a.nd p).Bb.length with hlt|Ei
  .have j:=AV.BM (k:= .i64) bu hlt;rw[BH] at j;by_cases d:(b.a.nd (b.a.nd p).Bb[k]).kind=4
   .have e:b.a.EA x p bf=b.a:=by unfold Ar.EA;rw[Af ⟨hp,hx,_,AN hlt,d⟩]
    simp only[abS,hvl,(Ab:(k:Int)<((b.a.nd p).Bb.length:Int)),j,(ME w _).Ac,AM d];exact⟨_,rfl,rfl,G,w.self e,.refl⟩
   .simp only[abS,hvl,(Ab:(k:Int)<((b.a.nd p).Bb.length:Int)),j,(ME w _).Ac,d,BO (Ab:k<9223372036854775807)];refine AL.next (k+1) rfl ⟨hlt,λy hy=>?_,rfl⟩ Ab;rw[AE hlt] at hy;rcases Ax.1 hy with hy|hy
    .exact ha y hy
    .rw[Dt] at hy;rw[hy];exact d
  .rw[AF Ei] at ha;have e:b.a.EA x p bf=b.a.FX p x bf:=by unfold Ar.EA;rw[Ad λh=>by obtain⟨_,_,y,hy,d⟩:=h;exact ha y hy d]
   simp only[abS,hvl,(Ab:¬(k:Int)<((b.a.nd p).Bb.length:Int)),w.l0,g.Ac];exact⟨_,rfl,rfl,l,by rw[e];exact w1,f⟩
 obtain⟨r,h',hr,rfl,G',w',x'⟩:=Jl.ret;exact⟨h',G',hr,w',x'⟩
def aID{v:Aa}{l:List Int}(hv:DV l v)(hb:l.length<=1000000000)(x:Int)(h:Ah):BK cx 213 [v,I x] h (I (Cl (λy=>decide (x=y)) 0 l)) h:=by
 rw[Ae,ė];have hvl:=AV.CN hv;refine Bl (λk:Nat=>[I 0,I (k:Int)]) (λk h1=>k<=l.length/\Cl (λy=>decide (x=y)) 0 l=Cl (λy=>decide (x=y)) k (l.drop k)/\h1=h) (λk=>l.length-k) 0 rfl ⟨AZ _,rfl,rfl⟩ ?_;rintro k h1 ⟨hk,ha,rfl⟩;rcases AQ k l.length with hlt|Ei
 .have d:=AV.BM (k:= .i64) hv hlt;rw[BH] at d;rw[AG hlt,Cl] at ha;simp only[abS,hvl,(Ab:(k:Int)<(l.length:Int)),d,BO (Ab:k<9223372036854775807)];refine⟨λh2=>?_,λh2=>?_⟩;.rw[ha,Af (by simp[h2])]
  .rw[Ad (by simpa using λe=>h2 e.symm)] at ha;exact AL.next (k+1) rfl ⟨hlt,ha,rfl⟩ Ab
 .rw[A0 Ei,Cl] at ha;simp only[abS,hvl,(Ab:¬(k:Int)<(l.length:Int)),ha]
def yt(w:RX h bi a o c t G b)(x:Int):BK cx 411 [Pt a 0,I x] h (I (b.a.nd x).FQ) h:=by obtain⟨n,i,ps,d,_⟩:=w.w;exact aIk d
def yu(w:RX h bi a o c t G b)(rm:BZ b m):BK cx 221 [Pt bi 0] h (.agg (FA b.AW).row) h:=by have ho:=rm.AW;have ld:A7 h none (Pt bi 2)=some o:=w.ld 2;rw[Ae,Ğ];simp only[BF,Fc,ld,(aLX w.o Ab).Ac]
def aIE(w:RX h bi a o c t G b)(rm:BZ b m):BK cx 348 [Pt bi 0] h (.tuple [I b.Kg.1,I b.Kg.2]) h:=by
 have hl:=rm.AW;have ld:A7 h none (Pt bi 2)=some o:=w.ld 2;have f:=ō (h:=h) w.o Ab Fa;have r2:=ō (h:=h) w.o Ab AK;have b1:=KZ (q:=Bs [Fa]) (l:=b.AW);have b2:=KZ (q:=Bs [AK]) (l:=b.AW);have at_:∀k:Nat,k<b.AW.length->AB (.Fu 4) [o,I (k:Int)]=some (.CJ [I (Hh b.AW k).node,I (Hh b.AW k).Bc,.str (Hh b.AW k).name,.bool (Hh b.AW k).O0]):=λk hk=>by have:=AV.BM (k:= .i64) w.o hk;rw[Ie hk,this];rfl
 unfold BS.Kg;simp only
 generalize AR (Bs [Fa]) b.AW=i at f b1⊢;generalize AR (Bs [AK]) b.AW=d at r2 b2⊢;rw[Ae,ĵ];by_cases h1:i<d;.obtain⟨k,rfl⟩:∃k:Nat,d=(k:Int):=⟨d.toNat,Ab⟩;rw[Af h1];simp only[abS,ld,r2.Ac,BN,f.Ac,(Ab:(0:Int)<=(k:Int)),h1,A3,at_ k Ab,IU]
 .rw[Ad h1];by_cases h2:i<0;.rw[Af h2];by_cases h0:(0:Int)<=d<;>simp only[abS,Fc,r2.Ac,BN,f.Ac,h0,h1,A3,IU,h2,ld,(aGR (h:=h) w.o 0).Ac]
  .obtain⟨k,rfl⟩:∃k:Nat,i=(k:Int):=⟨i.toNat,Ab⟩;rw[Ad h2];by_cases g:(b.a.nd (Hh b.AW k).node).FQ=0
   .rw[Ad (by simpa using g)];by_cases j:k=0
    .have e:max ((k:Int)-1) 0=(k:Int):=by omega
     by_cases h0:(0:Int)<=d<;>simp only[abS,Fc,r2.Ac,BN,f.Ac,h0,h1,A3,IU,(Ab:¬(k:Int)<0),ld,at_ k Ab,w.l0,(yt w _).Ac,g,B2,AM (Ab:(k:Int)=0),e]
    .have hd:=Hw (n:=k) Ab Ab;have e:max ((k:Int)-1) 0=((k-1:Nat):Int):=Ab;by_cases h0:(0:Int)<=d<;>simp only[abS,Fc,r2.Ac,BN,f.Ac,h0,h1,A3,IU,(Ab:¬(k:Int)<0),ld,at_ k Ab,w.l0,(yt w _).Ac,g,B2,(Ab:¬(k:Int)=0),hd,at_ (k-1) Ab,e]
   .rw[Af g];by_cases h0:(0:Int)<=d<;>simp only[abS,Fc,r2.Ac,BN,f.Ac,h0,h1,A3,IU,h2,ld,at_ k Ab,w.l0,(yt w _).Ac,g,B2]
end
def yv{s:An}:Ga aT3 s=decide (s∈HL):=Ec Di Di
def Ů{s:An}:Ga aTR s=decide (s∈[AK]):=Ec Di Di
def cD{A:Ar}{y:Int}{ws:List An}{q:Bool}(hq:q=decide ((A.nd y).name∈ws)):(decide ((A.nd y).kind=4/\(A.nd y).Bc=1)&&q)=decide (SO ws A y):=by subst hq;rw[<-Bool.decide_and];rw[Db];unfold SO;exact⟨λh=>⟨h.1.1,h.1.2,h.2⟩,λh=>⟨⟨h.1,h.2.1⟩,h.2.2⟩⟩
def LG{A:Ar}(ok:EK A 0)(y:Int):(A.nd y).cont≠0↔SO [AK] A y:=by
 by_cases hy:A.has y
 .constructor;.intro h;have:=(ok.SM y hy).U5 h;exact⟨this.1,this.2.1,by rw[this.2.2];simp⟩
  .intro h;exact ok.eW y hy (by have:=hy.1;omega) ⟨h.1,h.2.1,by simpa using h.2.2⟩
 .rw[HI hy];constructor;.intro h;simp at h
  .intro h;have:=h.1;rw[HI hy] at this;simp at this
section
variable{h h':Ah}{bi a:Nat}{o c t:Aa}{G G' F:Nat->Prop}{b:BS}{x:Int}{m:Nat}
def aIF(w:RX h bi a o c t G b)(hnm:∀x,(b.a.nd x).name.length<=1000)(x:Int):BK cx 232 [Pt bi 0,I x,S aT3] h (.bool (decide (SO HL b.a x))) h:=by have:=aBs w x aT3 AU (by have:=hnm x;omega);rwa [cD yv] at this
def aBt(w:RX h bi a o c t G b)(hnm:∀x,(b.a.nd x).name.length<=1000)(x:Int):BK cx 232 [Pt bi 0,I x,S aTR] h (.bool (decide (SO [AK] b.a x))) h:=by have:=aBs w x aTR AU (by have:=hnm x;omega);rwa [cD Ů] at this
def df(w:RX h bi a o c t G b)(ok:BA b)(rm:BZ b m)(hnm:∀x,(b.a.nd x).name.length<=1000)(x:Int):BK cx 208 [Pt bi 0,I x] h (.tuple [I (b.place x).1,I (b.place x).2]) h:=by
 have ho:=rm.AW;have ld:A7 h none (Pt bi 2)=some o:=w.ld 2;have lo:=AV.CN w.o;have p:=yu w rm;have r2:=aIE w rm;obtain⟨n,i,ps,f,_⟩:=w.w;rw[Ae,ē];by_cases he:x=0/\b.AW=[]
 .have e:b.place x=(b.CQ,0):=by unfold BS.place;rw[Af he]
  have q:AB (.len false) [o]=some (I 0):=by rw[lo,he.2];rfl
  rw[e];simp only[abS,AM he.1,ld,q,w.l1,A3]
 obtain⟨t',Gm⟩:∃t',t'=if x=0 then(FA b.AW).node else x:=⟨_,rfl⟩
 obtain⟨pb,bJ⟩:∃pb:Int×Int,pb=if b.EV=true/\SO HL b.a t' then b.Kg else(t',0):=⟨_,rfl⟩
 have e:b.place x=if(b.a.nd pb.1).cont≠0 then((b.a.nd pb.1).cont,0) else pb:=by unfold BS.place;rw[Ad he];simp only;rw[<-Gm,<-bJ]
 have k:=aIF w hnm t';have d:=aBt w hnm pb.1;have Tg:=w.P_;have mS:x=0->¬(b.AW.length:Int)=0:=λh0 h1=>he ⟨h0,LZ.1 Ab⟩;rw[e];cases l:b.EV with
 |false=>
  rw[l] at Tg;rw[Ad (by rw[l];intro h;exact absurd h.1 AU)] at bJ;subst bJ;simp only at d⊢;by_cases g:SO [AK] b.a t'
  .have hc:=(LG ok.ok t').2 g;have j:b.a.has t':=by
    by_cases hp:b.a.has t';.exact hp
    .have:=g.1;rw[HI hp] at this;simp at this
   rw[As g] at d;rw[Af hc];by_cases NO:x=0;.rw[Af NO] at Gm;subst Gm;simp only[abS,Fc,AM NO,ld,lo,mS NO,p.Ac,A3,Tg,d.Ac,w.l0,f.nodes,f.addr j,f.f11 j]
   .rw[Ad NO] at Gm;subst Gm;simp only[abS,NO,A3,Tg,d.Ac,w.l0,f.nodes,f.addr j,f.f11 j]
  .have hc:=λh=>g ((LG ok.ok t').1 h);rw[Aq g] at d;rw[Ad hc];by_cases NO:x=0;.rw[Af NO] at Gm;subst Gm;simp only[abS,Fc,AM NO,ld,lo,mS NO,p.Ac,A3,Tg,d.Ac]
   .rw[Ad NO] at Gm;subst Gm;simp only[abS,NO,A3,Tg,d.Ac]
 |true=>
  rw[l] at Tg;by_cases hw:SO HL b.a t'
  .rw[Af ⟨l,hw⟩] at bJ;subst bJ;rw[As hw] at k;by_cases g:SO [AK] b.a b.Kg.1
   .have hc:=(LG ok.ok b.Kg.1).2 g;have j:b.a.has b.Kg.1:=by
     by_cases hp:b.a.has b.Kg.1;.exact hp
     .have:=g.1;rw[HI hp] at this;simp at this
    rw[As g] at d;rw[Af hc];by_cases NO:x=0;.rw[Af NO] at Gm;subst Gm;simp only[abS,Fc,AM NO,ld,lo,mS NO,p.Ac,A3,Tg,k.Ac,r2.Ac,d.Ac,w.l0,f.nodes,f.addr j,f.f11 j]
    .rw[Ad NO] at Gm;subst Gm;simp only[abS,NO,A3,Tg,k.Ac,r2.Ac,d.Ac,w.l0,f.nodes,f.addr j,f.f11 j]
   .have hc:=λh=>g ((LG ok.ok b.Kg.1).1 h);rw[Aq g] at d;rw[Ad hc];by_cases NO:x=0;.rw[Af NO] at Gm;subst Gm;simp only[abS,Fc,AM NO,ld,lo,mS NO,p.Ac,A3,Tg,k.Ac,r2.Ac,d.Ac]
    .rw[Ad NO] at Gm;subst Gm;simp only[abS,NO,A3,Tg,k.Ac,r2.Ac,d.Ac]
  .rw[Ad (λh=>hw h.2)] at bJ;subst bJ;rw[Aq hw] at k;simp only at d⊢;by_cases g:SO [AK] b.a t'
   .have hc:=(LG ok.ok t').2 g;have j:b.a.has t':=by
     by_cases hp:b.a.has t';.exact hp
     .have:=g.1;rw[HI hp] at this;simp at this
    rw[As g] at d;rw[Af hc];by_cases NO:x=0;.rw[Af NO] at Gm;subst Gm;simp only[abS,Fc,AM NO,ld,lo,mS NO,p.Ac,A3,Tg,k.Ac,d.Ac,w.l0,f.nodes,f.addr j,f.f11 j]
    .rw[Ad NO] at Gm;subst Gm;simp only[abS,NO,A3,Tg,k.Ac,d.Ac,w.l0,f.nodes,f.addr j,f.f11 j]
   .have hc:=λh=>g ((LG ok.ok t').1 h);rw[Aq g] at d;rw[Ad hc];by_cases NO:x=0;.rw[Af NO] at Gm;subst Gm;simp only[abS,Fc,AM NO,ld,lo,mS NO,p.Ac,A3,Tg,k.Ac,d.Ac]
    .rw[Ad NO] at Gm;subst Gm;simp only[abS,NO,A3,Tg,k.Ac,d.Ac]
end
def Nm(A:Ar):Prop:=∀x,(A.nd x).name.length<=1000
section
variable{A A':Ar}{b:BS}{q:pP}{m j:Nat}{nm:An}{l:List A6}{sp p x:Int}
def Nm.le(h:Nm A)(hl:Le A A')(hn:A'.n.length=A.n.length):Nm A':=λy=>by
 by_cases hy:A.has y;.rw[hl.name y hy];exact h y
 .have:¬A'.has y:=by unfold Ar.has at hy⊢;rw[hn];exact hy
  rw[HI this];simp
def Nm.add(h:Nm A){y:EU}(hy:y.name.length<=1000):Nm (A.add y):=λx=>by
 rw[IH];split;.exact hy
 .exact h x
def Nm.set(h:Nm A){y:EU}{k:Int}(hy:y.name.length<=1000):Nm (A.set k y):=λx=>by
 rw[JU];split;.exact hy
 .exact h x
def Nm.I6(h:Nm A){k v:Int}:Nm (A.I6 k v):=λx=>by rw[SL];exact h x
def Nm.FX(h:Nm A){bf:Int}:Nm (A.FX p x bf):=h.le OD (J7 (A:=A)).n
def Nm.EA(h:Nm A){bf:Int}:Nm (A.EA x p bf):=h.le I7 (J8 (A:=A)).n
def Nm.Dk(h:Nm A){d:Int}:Nm (A.Dk d):=by
 unfold Ar.Dk;split;.exact h
 .exact(h.add AH).I6.I6
def Nm.elem(h:Nm A){d:Int}(hn:nm.length<=1000):Nm (A.elem d sp nm l):=by
 have h1:Nm (A.add {kind:=4,CQ:=d,Bc:=sp,name:=nm,Az:=Ct l}):=h.add hn;unfold Ar.elem;simp only
 split;.exact(h1.Dk.add AH).set hn
 .exact h1
def Nm.mk(h:Nm b.a)(hn:nm.length<=1000):Nm (b.Es nm l sp p).a:=by
 unfold BS.Es;split;.exact h.elem (by rw[Ys];exact hn)
 .exact h
def Nm.MR(h:Nm b.a)(hn:nm.length<=1000):Nm (b.EG nm l sp).a:=by
 unfold BS.EG;split;.exact(h.mk hn).EA
 .exact h
def Nm.LP(h:Nm A){s:An}{bf:Int}:Nm (BS.LP A s p bf):=by
 unfold BS.LP;split
 .split
  .split;.exact h.set (h _)
   .exact(h.add AH).EA
  .exact(h.add AH).EA
 .exact h
def Nm.E3(h:Nm A){s:An}{bf:Int}:Nm (BS.E3 A s p bf):=by
 unfold BS.E3;split;.exact(h.add AH).EA
 .exact h
def Nm.Jn:∀{l:List Cc} {b:BS},Nm b.a->(∀e∈l,e.name.length<=1000)->Nm (BS.Jn l b).2.a
 |[],b,h,_=>h
 |e::l,b,h,hl=>by rw[BS.Jn];exact Nm.Jn (h.MR (hl e AH)) λx hx=>hl x (by simp[hx])
def Nm.Gf(h:Nm b.a):Nm (b.Gf l x).a:=by
 unfold BS.Gf;split;.exact h.set (h _)
 .exact h
def Nm.Fp{blk anc:Int}{far i:Nat}{l:Int}{mk:Nat}(h:Nm b.a)(r:BZ b m):Nm (BS.Fp blk anc far i b l mk).1.a:=by
 unfold BS.Fp;simp only
 split;.exact h
 .split;.exact h
  .rename_i he _;obtain⟨p,hp,c,_,_,_⟩:=HC (Js.1 he);rw[c,AY,AJ,Ak hp,Hp];exact(h.mk (r.DE _ (AN hp)).1).FX
def Nm.KG{blk anc:Int}{far k m:Nat}:∀{c:Nat} {s:BS×Int×Nat},Nm s.1.a->BZ s.1 (m+4*c)->Nm (BS.KG blk anc far k c s).1.a
 |0,s,h,_=>h
 |c+1,s,h,r=>Nm.KG (c:=c) (h.Fp r) (OM (m:=m+4*c) (r.le Ab))
def Nm.Cy{n:Int}:∀{l:List Int} {A:Ar},Nm A->Nm (BS.Cy A n l)
 |[],A,h=>h
 |y::l,A,h=>Nm.Cy (l:=l) (h.FX (p:=n) (x:=y) (bf:=0))
def Nm.GJ{fe:Cc}{blk anc:Int}{s:BS×Int×Nat}(h:Nm s.1.a)(KI:fe.name.length<=1000):Nm (BS.GJ fe blk anc s).a:=by
 unfold BS.GJ;simp only
 generalize bJ:s.1.place anc=pb;have h2:Nm (s.1.a.EA s.2.1 pb.1 pb.2):=h.EA;have c:=Nm.mk (b:={s.1 with a:=s.1.a.EA s.2.1 pb.1 pb.2}) (nm:=fe.name) (l:=fe.Az) (sp:=1) (p:=blk) h2 KI;exact(Nm.Cy c).FX
def Nm.round(h:Nm b.a)(r:BZ b (m+4*b.AW.length+10)):Nm (b.round nm).2.a:=by
 unfold BS.round;simp only
 split
 .have:(b.Ds nm).a=b.a:=by
   unfold BS.Ds;split;.split<;>rfl
   .rfl
  rw[this];exact h
 .rename_i hf;obtain⟨f,Hm,c⟩:=Tc (Js.1 hf);have WH:b.A5.getD (GF nm b.A5).toNat Cc.zero=b.A5[f]:=by rw[c,AY,AJ,Ak Hm];rfl
  have KI:=r.DE _ (AN Hm);rw[WH];split;.exact h
  .split;.exact h
   .split;.exact h
    .have hlt:(D6 b.A5[f].node b.AW).toNat-1 -(AR (Bz b.A5[f].node) b.AW).toNat<=b.AW.length:=by
      rw[IG];split;.omega
      .unfold E1;split;.rename_i j hj;have:=(EI.1 hj).1;rw[Be] at this;omega
       .omega
     exact Nm.GJ (Nm.KG (m:=m) h (r.le Ab)) KI.1
def Nm.Eh:∀{n:Nat} {b:BS} {k:Nat},Nm b.a->b.AW.length<=k->BZ b (m+n*(4*(k+n)+10))->Nm (BS.Eh n b nm).a
 |0,b,k,h,hk,r=>h
 |n+1,b,k,h,hk,r=>by
  have e:(n+1)*(4*(k+(n+1))+10)=n*(4*(k+1+n)+10)+(4*(k+(n+1))+10):=by rw[BJ,Ea,(Ab:k+(n+1)=k+1+n)]
  rw[e] at r;have h1:=ON (m:=m+n*(4*(k+1+n)+10)) (r.le Ab) nm;have h2:=h.round (m:=m+n*(4*(k+1+n)+10)) (nm:=nm) (r.le Ab);unfold BS.Eh;simp only
  split;.exact Nm.Eh (n:=n) (k:=k+1) h2 Ab h1.1
  .exact h2
def aD8(h:Nm b.a)(sz:Sz b (j+1))(hq:lp q):Nm (YS b q).1.a:=YT (P:=λr=>Nm r.1.a)
 (h.MR hq.name)
 (h.MR hq.name)
 (Nm.MR (b:=b) (sp:=1) (l:=q.Az) h hq.name)
 (h.LP)
 (by
  dsimp only;unfold BS.Fe;split;.exact h.E3
  .exact h.E3)
 (Nm.MR (b:=b) (sp:=1) (l:=q.Az) h hq.name)
 (by
  dsimp only;unfold BS.JV;split;.exact h
  .exact h)
 (Nm.Jn h λe he=>(sz.rm.DE e (Bw he)).1)
 (by
  dsimp only;unfold BS.Ds;split
  .split;.exact h
   .exact h
  .exact h)
 (by
  dsimp only;unfold BS.Ik;split
  .unfold BS.Lk;split;.exact h
   .exact h
  .exact Nm.Eh (n:=8) (k:=b.AW.length) (m:=5000000*j) h (Ag _) (sz.rm.le (by have:=sz.AW;omega)))
 h
 (h.Gf)
 (by
  dsimp only;unfold BS.Cv;split;.exact h
  .exact h)
 h
 h
 h
 h
 (by
  dsimp only;unfold BS.Lk;split;.exact h
  .exact h)
 h
 h
 h
 h
 h
 (h.mk hq.name)
 h
def dg(q:Bool):Nm (DC q).a:=λx=>by rw[OP];split<;>simp
def yw(s:EX):Nm s.b.a:=by
 have d:Nm (Jh s.Bc s.name s.Az s.CH).a:=((dg s.CH).mk (nm:=DI) AU).EA;have c:Nm (LX s.Bc s.name s.Az s.CH).a:=by unfold LX;split<;>exact d
 unfold EX.b Ue;split
 .split;.exact c
  .exact c
 .exact dg _
end
section
variable{h h':Ah}{bi a:Nat}{o c t:Aa}{G G' F:Nat->Prop}{b:BS}{x:Int}{m:Nat}
variable{nm:An}{av:Aa}{l:List A6}{r:List Aa}{sp p:Int}
def aD9(ok:BA b)(y:Int):(if b.a.has y then(b.a.nd y).CQ else b.CQ)=if(b.a.nd y).CQ≠0 then(b.a.nd y).CQ else b.CQ:=by
 by_cases hy:b.a.has y;.have:=(ok.ok.CQ y hy).1.1;rw[Af hy,Af Ab]
 .rw[Ad hy,HI hy,Ad AH]
def ů(w:RX h bi a o c t G b)(ok:BA b)(rm:BZ b (m+3))(hnm:Nm b.a)(hr:N1 nm av r)(hv:Bq l av)(hl:DP l)(hn:nm.length<=1000)(p sp:Int):
  ∃h' G',BK cx 104 [Pt bi 0,.agg r,I sp,I p] h (.agg (b.GB nm l sp).row) h'/\RX h' bi a o c t G' (b.Es nm l sp p)/\DB h (Bt bi G) h' (Bt bi G'):=by
 obtain⟨T,P,O,N,M,L,K,J,VA,XK,rfl⟩:=hr;have s:∀{Q:HF} {h:Ah} {kk:Aa->IT},W cx (.B7 207 [I sp] kk) Q h↔W cx (kk (.bool (decide (BS.HX sp)))) Q h:=(cz _).B7 rfl rfl;by_cases hs:BS.HX sp;rotate_left
 .refine⟨h,G,?_,by unfold BS.Es;rw[Ad hs];exact w,.refl⟩;have e:b.GB nm l sp=Item.zero:=by unfold BS.GB;rw[Ad hs]
  rw[e,Np,Ae,yJ];simp only[abS,↓reduceIte,AT,s,Aq hs]
 obtain⟨u,v,hu⟩:=aMJ (h:=h) hv (λy hy=>(hl.2 y hy).1) hl.1 sp;have hd:=Qz ok (p:=p);have B:∀y∈l.map (C5 sp),BS.HX y.Bc:=by intro y hy;obtain⟨z,_,rfl⟩:=Bm.1 hy;exact fB
 have hlen:(l.map (C5 sp)).length<=1000000000:=by rw[Aj];have:=hl.1;omega
 obtain⟨h',G',j,E,D⟩:=w.step (A':=b.a.elem (b.II p) sp (BS.IJ sp nm) (l.map (C5 sp))) (R:=λh'=>BK cx 165 [Pt a 0,I (b.II p),I sp,.str (BS.IJ sp nm),u] h (.tuple [I (b.a.len+1),I 0]) h') λn i ps f=>by obtain⟨h',n',H,JB,r,wp,C⟩:=aBr (nm:=BS.IJ sp nm) f (rm.len Ab) hd.1 hd.2 hs hu hlen B;exact⟨h',n',H,JB,r,wp,C⟩
 have OV:=Ys (sp:=sp) (nm:=nm);have g:=aGN (h:=h') hu (λy hy=>by obtain⟨z,hz,rfl⟩:=Bm.1 hy;rw[bL];have:=(hl.2 z hz).2;have:AS=140737488355328:=rfl;omega) Ab sp (BS.IJ sp nm) Ab;have em:AB (.Cn [I 0,I 0,S [],ff] [(0,1),(1,1),(2,1),(3,1)]) [I (b.a.len+1),I sp,.str (BS.IJ sp nm),.bool (Fm sp (BS.IJ sp nm) (l.map (C5 sp)))]=some (.agg (b.GB nm l sp).row):=by rw[bD];unfold BS.GB;rw[Af hs]
 have q:=aBt w hnm p;refine⟨h',G',?_,by unfold BS.Es;rw[Af hs];exact E,D⟩;have bY:=λ(y:Item)=>@Item.CP y;obtain⟨n,i,ps,f,_⟩:=w.w;have key:∀(Q:HF) (kk:DX->List Aa->IT) (p':Int),p'=(if SO [AK] b.a p then(b.a.nd p).cont else p)->(if b.a.has p' then(b.a.nd p').CQ else b.CQ)=b.II p:=by
  intro Q kk p' e;rw[aD9 ok];unfold BS.II;by_cases d:SO [AK] b.a p;.rw[Af d] at e;subst e;rw[Af ((LG ok.ok p).2 d)]
  .rw[Ad d] at e;subst e;rw[Ad (λh=>d ((LG ok.ok p').1 h))]
 have key:=key (λ_ _ _=>True) (λ_ _=> .fail);rw[Ae,yJ];by_cases d:SO [AK] b.a p
 .have A:b.a.has p:=by
   by_cases hp:b.a.has p;.exact hp
   .have:=d.1;rw[HI hp] at this;simp at this
  have k:=dd w (b.a.nd p).cont;rw[key _ (Af d).symm] at k;rw[As d] at q;by_cases h2:sp=2
  .have e:BS.IJ sp nm=Cp nm I3:=by unfold BS.IJ;rw[Af h2]
   rw[e] at j g em;simp only[abS,↓reduceIte,AT,Fc,s,As hs,v.Ac,AM h2,(aGK nm).B7 rfl rfl,A3,q.Ac,w.l0,f.nodes,f.addr A,f.f11 A,k.Ac,BN,j.Ac,g.Ac,em,bY]
  .have e:BS.IJ sp nm=nm:=by unfold BS.IJ;rw[Ad h2]
   rw[e] at j g em;simp only[abS,↓reduceIte,AT,Fc,s,As hs,v.Ac,h2,A3,q.Ac,w.l0,f.nodes,f.addr A,f.f11 A,k.Ac,BN,j.Ac,g.Ac,em,bY]
 .have k:=dd w p;rw[key _ (Ad d).symm] at k;rw[Aq d] at q;by_cases h2:sp=2
  .have e:BS.IJ sp nm=Cp nm I3:=by unfold BS.IJ;rw[Af h2]
   rw[e] at j g em;simp only[abS,↓reduceIte,AT,Fc,s,As hs,v.Ac,AM h2,(aGK nm).B7 rfl rfl,A3,q.Ac,w.l0,k.Ac,BN,j.Ac,g.Ac,em,bY]
  .have e:BS.IJ sp nm=nm:=by unfold BS.IJ;rw[Ad h2]
   rw[e] at j g em;simp only[abS,↓reduceIte,AT,Fc,s,As hs,v.Ac,h2,A3,q.Ac,w.l0,k.Ac,BN,j.Ac,g.Ac,em,bY]
end
section
variable{h h':Ah}{bi a:Nat}{o c t:Aa}{G G' F:Nat->Prop}{b:BS}{x:Int}{m:Nat}
variable{nm:An}{av:Aa}{l:List A6}{r:List Aa}{sp p:Int}
def aIG(w:RX h bi a o c t G b)(ok:BA b)(rm:BZ b (m+4))(hnm:Nm b.a)(hr:N1 nm av r)(hv:Bq l av)(hl:DP l)(hn:nm.length<=1000)(sp:Int):
  ∃h' o' G',BK cx 87 [Pt bi 0,.agg r,I sp] h (I (b.Pc sp)) h'/\RX h' bi a o' c t G' (b.EG nm l sp)/\DB h (Bt bi G) h' (Bt bi G'):=by
 have aT:AS=140737488355328:=rfl;have ho:=rm.AW;have g:∀{Q:HF} {h:Ah} {kk:Aa->IT},W cx (.B7 207 [I sp] kk) Q h↔W cx (kk (.bool (decide (BS.HX sp)))) Q h:=(cz _).B7 rfl rfl;have F9:=hr;obtain⟨L,K,J,H,E,D,C,B,VA,XK,rfl⟩:=hr;by_cases hs:BS.HX sp;rotate_left
 .refine⟨h,o,G,?_,by unfold BS.EG;rw[Ad hs];exact w,.refl⟩;have e:b.Pc sp=0:=by unfold BS.Pc;rw[Ad hs]
  rw[e,Ae,we];simp only[abS,g,Aq hs]
 have s:=df w ok rm hnm 0;obtain⟨h1,M,r2,w1,j⟩:=ů (m:=m+1) w ok (rm.le Ab) hnm F9 hv hl hn (b.place 0).1 sp;have VL:=uy (nm:=nm) (at_:=l) (p:=(b.place 0).1) ok hs;have vC:=I8 (m:=m+1) (nm:=nm) (sp:=sp) (p:=(b.place 0).1) (rm.le Ab) hl;have YM:(b.GB nm l sp).node=b.a.len+1:=by unfold BS.GB;rw[Af hs]
 have Oa:(b.Es nm l sp (b.place 0).1).AW=b.AW:=by unfold BS.Es;rw[Af hs]
 obtain⟨h2,A,q,d,i⟩:=de w1 VL vC (b.place 0).1 (b.GB nm l sp).node (b.place 0).2;have ld:A7 h2 none (Pt bi 2)=some o:=d.ld 2;obtain⟨u,z,hu⟩:=AV.FJ (b:=40) d.o (by simp only[Oa];omega);have v:=AV.Jv (f:=Item.row) (b:=40) (a:=b.GB nm l sp) hu (by simp only[Oa];omega);have IE:BY (({b.Es nm l sp (b.place 0).1 with a:=(b.Es nm l sp (b.place 0).1).a.EA (b.GB nm l sp).node (b.place 0).1 (b.place 0).2}:BS).AW++[b.GB nm l sp]) _:=AV.mk;have n:=d.HZ IE;have e:b.Pc sp=(b.GB nm l sp).node:=by unfold BS.Pc;rw[Af hs,YM]
 refine⟨_,_,A,?_,by unfold BS.EG;rw[Af hs];simp only;rw[<-YM];exact n,(j.trans i).trans Bg⟩;have em:AB (.C8 4) [.agg (b.GB nm l sp).row]=some (.sl 4 [(b.GB nm l sp).row]):=Mu;have bY:=λ(y:Item)=>@Item.CP y;rw[e,Ae,we];simp only[abS,Fc,g,As hs,s.Ac,r2.Ac,bY,q.Ac,ld,z,em,v,d.st (k:=2) (v0:=o) rfl (AV.cells IE)]
def l_(w:RX h bi a o c t G b)(ok:BA b)(rm:BZ b (m+4))(hnm:Nm b.a)(hr:N1 nm av r)(hv:Bq l av)(hl:DP l)(hn:nm.length<=1000):
  ∃h' o' G',BK cx 86 [Pt bi 0,.agg r] h (I (b.a.len+1)) h'/\RX h' bi a o' c t G' (b.EG nm l 1)/\DB h (Bt bi G) h' (Bt bi G'):=by
 obtain⟨h',o',G',d,w',x'⟩:=aIG w ok rm hnm hr hv hl hn 1;refine⟨h',o',G',?_,w',x'⟩;have e:b.Pc 1=b.a.len+1:=by unfold BS.Pc;rw[Af J1]
 rw[e] at d;obtain⟨s,q,n,k,j,i,g,f,VA,XK,rfl⟩:=hr;rw[Ae,aDh];simp only[BF,d.Ac]
def aIH(w:RX h bi a o c t G b):∃h',BK cx 99 [Pt bi 0] h (.tuple []) h'/\RX h' bi a o c t G {b with stop:=true}/\DB h (Bt bi G) h' (Bt bi G):=by refine⟨_,?_,w.put (k:=19) (v:= .bool true) rfl rfl w.o w.t,Bg⟩;rw[Ae,aDn];simp only[BF,w.st (k:=19) (v:=tt) rfl rfl]
end
section
variable{h h':Ah}{bi a:Nat}{o c t:Aa}{G G' F:Nat->Prop}{b:BS}{x:Int}{m:Nat}
variable{nm:An}{av:Aa}{l:List A6}{r:List Aa}{sp p:Int}
def aNx(w:RX h bi a o c t G b)(ok:EB b)(rm:BZ b (m+1000))(hr:N1 nm av r)(hv:Bq l av)(hl:DP l)(x:Int):
  ∃h' G',BK cx 97 [Pt bi 0,.agg r,I x] h (.tuple []) h'/\RX h' bi a o c t G' (b.Gf l x)/\DB h (Bt bi G) h' (Bt bi G'):=by
 have aT:AS=140737488355328:=rfl;obtain⟨M,L,K,J,H,E,D,C,VA,XK,rfl⟩:=hr;by_cases hk:(b.a.nd x).kind=4;rotate_left;.refine⟨h,G,?_,by unfold BS.Gf;rw[Ad hk];exact w,.refl⟩;rw[Ae,wk];simp only[abS,↓reduceIte,(ME w x).Ac,hk,B2]
 have hx:b.a.has x:=by
  by_cases hp:b.a.has x;.exact hp
  .rw[HI hp] at hk;simp at hk
 have VX:=rm.at_ x;have rF:=hl.1;obtain⟨n,i,ps,d,_⟩:=w.w;obtain⟨A,e0,g⟩:=AV.FJ (b:=40) (d.xh hx) Ab;have Jl:Ev cx 97 [Pt bi 0,.agg [M,.str nm,L,K,J,H,E,D,av,C,VA,XK],I x] h λr h'=>r= .tuple []/\∃G',RX h' bi a o c t G' (b.Gf l x)/\DB h (Bt bi G) h' (Bt bi G'):=by
  unfold Ev;have hvl:=AV.CN hv;rw[wk];simp only[abS,↓reduceIte,(ME w x).Ac,AM hk,B2,w.l0,d.nodes,d.addr hx,d.f6 hx,e0];refine Bl (λs:Aa×Nat=>[s.1,I (s.2:Int)]) (λs h1=>s.2<=l.length/\Bq ((b.a.nd x).Az++BS.plain (l.take s.2)) s.1/\h1=h) (λs=>l.length-s.2) (A,0) rfl ⟨AZ _,by simp only[Kz,BS.plain,C2,By];exact g,rfl⟩ ?_;rintro⟨u,k⟩ h1 ⟨Zs,hu,rfl⟩;simp only at Zs hu;rcases AQ k l.length with hlt|Ei
  .have j:=AV.BM (k:= .i64) hv hlt;rw[A6.row] at j;have em:AB (.C8 3) [.agg [I 0,.str l[k].name,.str l[k].value]]=some (.sl 3 [[I 0,.str l[k].name,.str l[k].value]]):=rfl;have a1:=AV.Jv (f:=A6.row) (b:=40) (a:=⟨0,l[k].name,l[k].value⟩) hu (by rw[Av,BS.plain,Aj,Aw];omega);rw[A6.bS] at a1;have hs:(b.a.nd x).Az++BS.plain (l.take (k+1))=((b.a.nd x).Az++BS.plain (l.take k))++[⟨0,l[k].name,l[k].value⟩]:=by rw[AE hlt,BS.plain,BE,<-AI];rfl
   simp only[abS,Nat.reduceLeDiff,↓reduceIte,AT,hvl,(Ab:(k:Int)<(l.length:Int)),j,aaS,em,a1,BO (Ab:k<9223372036854775807)];exact AL.next (_,k+1) rfl ⟨hlt,by rw[hs,AI];exact .mk,rfl⟩ Dv
  .have Qi:k=l.length:=by omega
   subst Qi;rw[Bx] at hu;have hsp:∀y∈(b.a.nd x).Az++BS.plain l,BS.HX y.Bc:=by
    intro y hy;rcases Ax.1 hy with hy|hy
    .exact(ok.ok.SM x hx).N_ y hy
    .obtain⟨z,_,rfl⟩:=Bm.1 hy;exact⟨Dv,Dv⟩
   obtain⟨h2,N,B,v,q⟩:=w.step (A':=b.a.Jy x ((b.a.nd x).Az++BS.plain l)) (R:=λh2=>BK cx 226 [Pt a 0,I x,u] h1 (I 0) h2) λn i ps d=>by obtain⟨h',JB,f1,f2,f3⟩:=aIB d hx hk hu (by rw[Av,BS.plain,Aj];omega) hsp;exact⟨h',n,i,JB,f1,f2,f3⟩
   have e:b.Gf l x={b with a:=b.a.Jy x ((b.a.nd x).Az++BS.plain l)}:=by unfold BS.Gf;rw[Af hk]
   simp only[abS,Nat.reduceLeDiff,↓reduceIte,AT,hvl,(Ab:¬(l.length:Int)<(l.length:Int)),w.l0,B.Ac];exact⟨_,rfl,rfl,N,by rw[e];exact v,q⟩
 obtain⟨r,h',hr,rfl,G',w',x'⟩:=Jl.ret;exact⟨h',G',hr,w',x'⟩
def aNy(w:RX h bi a o c t G b)(rm:BZ b m):
  ∃h' o',BK cx 92 [Pt bi 0] h (.tuple []) h'/\RX h' bi a o' c t G b.JV/\DB h (Bt bi G) h' (Bt bi G):=by
 have ho:=rm.AW;have hnm:∀i∈b.AW,i.name.length<9223372036854775807:=λi hi=>by have:=rm.Yr i hi;omega
 have em:AB (.C8 1) [S [112]]=some (.sl 1 ([wP].map CC)):=D1 (ws:=[wP]) rfl AU;have ld:A7 h none (Pt bi 2)=some o:=w.ld 2;have e:=aLZ (h:=h) w.o Ab hnm 3 (CX (ws:=[wP])) AU;by_cases hs:Kf (Bs [wP]) (JR 3) b.AW.reverse=true;rotate_left
 .have VW:Kf (Bs [wP]) (JR 3) b.AW.reverse=false:=by simpa using hs
  rw[VW] at e;refine⟨h,o,?_,by unfold BS.JV;rw[Ad hs];exact w,.refl⟩;rw[Ae,wh];simp only[BF,ld,em,e.Ac]
 .rw[hs] at e;obtain⟨d,g,r2,O7⟩:=f165 (h:=h) w.o Ab hnm wP false;have w1:=w.Ib (u:=g);have f:=w1.HZ O7;have HT:ES wP false=Ez wP:=by funext a;rfl
  have l1:(DA (ES wP false) Cx b.AW).length<=b.AW.length:=Qu;have yx:A7 (put (h++g) bi 2 d) none (Pt bi 2)=some d:=f.ld 2;obtain⟨p,t2,q,IE⟩:=f85 (h:=put (h++g) bi 2 d) O7 Ab (CX (ws:=[wP])) AU;have j:=f.Ib (u:=t2);rw[<-Mv] at IE;have n:=j.HZ IE;refine⟨_,p,?_,by unfold BS.JV;rw[Af hs,<-HT];exact n,((w.C0.trans Bg).trans f.C0).trans Bg⟩;rw[Ae,wh];simp only[BF,ld,em,e.Ac,r2.Ac,w1.st (k:=2) (v0:=o) rfl (AV.cells O7),yx,q.Ac,j.st (k:=2) (v0:=d) rfl (AV.cells IE)]
variable{nm:An}{av:Aa}{l:List A6}{r:List Aa}
def aII(w:RX h bi a o c t G b)(ok:BA b)(rm:BZ b (m+4))(hnm:Nm b.a)(hr:N1 nm av r)(hv:Bq l av)(hl:DP l)(hn:nm.length<=1000)(st:Int):
  ∃h' o' G',BK cx 91 [Pt bi 0,.agg r,I st] h (.tuple []) h'/\RX h' bi a o' c t G' (b.Fs nm l st)/\DB h (Bt bi G) h' (Bt bi G'):=by
 obtain⟨h1,e,f,s,w1,i⟩:=l_ w ok rm hnm hr hv hl hn;obtain⟨E,D,C,B,A,z,y,u,VA,XK,rfl⟩:=hr;have d:RX (put h1 bi 18 (I st)) bi a e c t f {b.EG nm l 1 with sw:=st}:=w1.put rfl rfl w1.o w1.t;have g:RX (put (put h1 bi 18 (I st)) bi 5 (I (b.EG nm l 1).mode)) bi a e c t f {{b.EG nm l 1 with sw:=st} with SN:=(b.EG nm l 1).mode}:=d.put rfl rfl d.o d.t;have j:=g.pG 8;refine⟨_,e,f,?_,j,((i.trans Bg).trans Bg).trans Bg⟩;have q:=w1.st (k:=18) (v:= I st) (v0:= I (b.EG nm l 1).sw) rfl rfl;have p:=d.st (k:=5) (v:= I (b.EG nm l 1).mode) (v0:= I (b.EG nm l 1).SN) rfl rfl;have n:=g.st (k:=4) (v:=I 8) (v0:= I (b.EG nm l 1).mode) rfl rfl;have l4:A7 (put h1 bi 18 (I st)) none (Pt bi 4)=some (I (b.EG nm l 1).mode):=d.l4;rw[Ae,aDj];simp only[BF,s.Ac,q,l4,p,n]
def aNz(w:RX h bi a o c t G b)(rm:BZ b m):∃h' o',BK cx 101 [Pt bi 0] h (.agg b.oL.row) h'/\RX h' bi a o' c t G b.Lk/\DB h (Bt bi G) h' (Bt bi G):=by
 have ho:=rm.AW;have ld:A7 h none (Pt bi 2)=some o:=w.ld 2;have lo:=AV.CN w.o;unfold BS.Lk BS.oL;by_cases h2:b.AW.length<2;.refine⟨h,o,?_,by rw[Af h2];exact w,.refl⟩;rw[Af h2,Ae,yI];simp only[abS,↓reduceIte,AT,ld,lo,(Ab:(b.AW.length:Int)<2)];rfl
 .obtain⟨u,e,f,hu⟩:=ŏ (h:=h) w.o Ab;have hc:JS b.AW ((b.AW.length:Int)-1)=b.AW.take (b.AW.length-1):=by unfold JS;congr 1;omega
  rw[hc] at hu;have w1:=w.Ib (u:=e);have d:=w1.HZ hu;refine⟨_,u,?_,by rw[Ad h2];exact d,w.C0.trans Bg⟩;rw[Ad h2,Ae,yI];simp only[abS,↓reduceIte,AT,Fc,ld,lo,(Ab:¬(b.AW.length:Int)<2),(yu w rm).Ac,f.Ac,w1.st (k:=2) (v0:=o) rfl (AV.cells hu)]
def aIJ(w:RX h bi a o c t G b)(rm:BZ b m)(nm:An):
  ∃h' o',BK cx 94 [Pt bi 0,.str nm] h (.tuple []) h'/\RX h' bi a o' c t G (b.Ds nm)/\DB h (Bt bi G) h' (Bt bi G):=by
 have ho:=rm.AW;have hnm:∀i∈b.AW,i.name.length<9223372036854775807:=λi hi=>by have:=rm.Yr i hi;omega
 have ld:A7 h none (Pt bi 2)=some o:=w.ld 2;have lo:=AV.CN w.o;have Jl:Ev cx 94 [Pt bi 0,.str nm] h λr h'=>r= .tuple []/\∃o',RX h' bi a o' c t G (b.Ds nm)/\DB h (Bt bi G) h' (Bt bi G):=by
  unfold Ev;rw[aDl];simp only[BF,ld,lo,C3 (Ab: -9223372036854775808<=(b.AW.length:Int)-1) (Ab:(b.AW.length:Int)-1<9223372036854775808)];refine Bl (λn:Nat=>[I ((n:Int)-1)]) (λn h1=>n<=b.AW.length/\(b.AW.reverse.find? λi=>Bs [nm] i||GW i)=((b.AW.take n).reverse.find? λi=>Bs [nm] i||GW i)/\h1=h) (λn=>n) b.AW.length rfl ⟨Ag _,by rw[Bx],rfl⟩ ?_;rintro n h1 ⟨hn,ha,rfl⟩;cases n with
  |zero=>
   have e:b.Ds nm=b:=by unfold BS.Ds;rw[ha];rfl
   simp only[abS,↓reduceIte,(Ab:¬(0:Int)<=((0:Nat):Int)-1)];exact⟨_,rfl,rfl,o,by rw[e];exact w,.refl⟩
  |succ n=>
   have hlt:n<b.AW.length:=Ab;have i1:((n+1:Nat):Int)-1=(n:Int):=Ab;have s:=AV.BM (k:= .i64) w.o hlt;have Vx:=hnm _ (AN hlt);have em:AB (.C8 1) [.str nm]=some (.sl 1 ([nm].map CC)):=D1 (ws:=[nm]) rfl AH;rw[S8 hlt,GK] at ha;generalize hi:b.AW[n]=i at*;have r2:BK cx 218 [.agg i.row,.sl 1 ([nm].map CC)] h1 (.bool (Bs [nm] i)) h1:=f167 i (CX (ws:=[nm])) AH;have sub:=C3 (Ab: -9223372036854775808<=(n:Int)-1) (Ab:(n:Int)-1<9223372036854775808);cases h2:Bs [nm] i with
   |true=>
    rw[h2] at r2 ha;obtain⟨f,q,g,O7⟩:=f165 (h:=h1) w.o Ab hnm nm false;have w1:=w.Ib (u:=q);have p:=w1.HZ O7;have HT:ES nm false=Ez nm:=by funext a;rfl
    have l1:(DA (ES nm false) Cx b.AW).length<=b.AW.length:=Qu;have yx:A7 (put (h1++q) bi 2 f) none (Pt bi 2)=some f:=p.ld 2;obtain⟨z,t2,A,IE⟩:=aGW (h:=put (h1++q) bi 2 f) O7 Ab i.node;have v:=p.Ib (u:=t2);have y:=v.HZ IE;have e:b.Ds nm={b with AW:=GX i.node (DA (Ez nm) Cx b.AW)}:=by unfold BS.Ds;rw[ha];simp only[h2,Un,BI]
    simp only[abS,Nat.reduceLeDiff,↓reduceIte,Fc,i1,(Ab:(0:Int)<=(n:Int)),ld,s,em,r2.Ac,g.Ac,w1.st (k:=2) (v0:=o) rfl (AV.cells O7),yx,A.Ac,v.st (k:=2) (v0:=f) rfl (AV.cells IE)];exact⟨_,rfl,rfl,z,by rw[e,<-HT];exact y,((w.C0.trans Bg).trans p.C0).trans Bg⟩
   |false=>
    rw[h2] at r2 ha;have g:∀{Q:HF} {h:Ah} {kk:Aa->IT},W cx (.B7 220 [I i.Bc,.str i.name] kk) Q h↔W cx (kk (.bool (Ey i.Bc i.name))) Q h:=(f169 i.Bc i.name Vx).B7 rfl rfl;cases j:GW i with
    |true=>
     have d:Ey i.Bc i.name=true:=j;rw[j] at ha;have e:b.Ds nm=b:=by unfold BS.Ds;rw[ha];simp[h2]
     simp only[abS,Nat.reduceLeDiff,↓reduceIte,Fc,i1,(Ab:(0:Int)<=(n:Int)),ld,s,em,r2.Ac,g,d];exact⟨_,rfl,rfl,o,by rw[e];exact w,.refl⟩
    |false=>have d:Ey i.Bc i.name=false:=j;rw[j] at ha;simp only[abS,Nat.reduceLeDiff,↓reduceIte,Fc,i1,(Ab:(0:Int)<=(n:Int)),ld,s,em,r2.Ac,g,d,sub];exact AL.next n rfl ⟨Ab,ha,rfl⟩ Ab
 obtain⟨r,h',hr,rfl,o',w',x'⟩:=Jl.ret;exact⟨h',o',hr,w',x'⟩
variable{nm:An}{av:Aa}{l:List A6}{r:List Aa}
def aNA(w:RX h bi a o c t G b)(hc:B1 b.A5 c)(ok:EB b)(rm:BZ b (m+5))(hnm:Nm b.a)(hr:N1 nm av r)(hv:Bq l av)(hl:DP l)(hn:nm.length<=1000):
  ∃h' o' c' G',BK cx 88 [Pt bi 0,.agg r] h (I (b.a.len+1)) h'/\RX h' bi a o' c' t G' (b.Ks nm l)/\B1 (b.Ks nm l).A5 c'/\DB h (Bt bi G) h' (Bt bi G'):=by
 obtain⟨h1,j,n,i,w1,g⟩:=l_ (m:=m+1) w ok (rm.le Ab) hnm hr hv hl hn;obtain⟨fs,d,hf⟩:=hc;have ha:=rm.A5;have Hm:fs.length=b.A5.length:=by rw[<-d,Aj]
 obtain⟨u,p,PH,r2,hu⟩:=aG4 (h:=h1) (l:=fs) hf Ab (kG d λx hx=>((rm.DE x hx).2).1) (e:=⟨⟨b.a.len+1,nm,l⟩,av,hv⟩) (by unfold Zo;have:=hl.1;simp only;omega);refine⟨_,j,u,n,?_,w1.Kh (u:=u),?_,g.trans Bg⟩;.obtain⟨C,B,A,z,y,v,s,q,VA,XK,rfl⟩:=hr;have f:BK cx 137 [c,.agg [I (b.a.len+1),.str nm,av]] h1 u h1:=r2;have Zh:av.cells=[av]:=AV.cells hv;rw[Ae,aDi];simp only[abS,Nat.reduceLeDiff,↓reduceIte,AT,i.Ac,w1.l3,Zh,f.Ac,w1.st (k:=3) (v0:=c) rfl (AV.cells hu)]
 .refine⟨_,?_,hu⟩;rw[pD PH,d];unfold BS.Ks;simp only;rw[Ek]
end
def kS{n:Nat}(d:Nat)(hd:0<d)(h:n<2147483648)(e:AB (.int .quo) [I (n:Int),I (d:Int)]=some (I (IntKind.i64.wrap ((n:Int).tdiv (d:Int))))):AB (.int .quo) [I (n:Int),I (d:Int)]=some (I ((n/d:Nat):Int)):=by
 have h2:(n:Int).tdiv (d:Int)=((n/d:Nat):Int):=by rw[Int.tdiv_eq_ediv_of_nonneg Ab];rfl
 have a:n/d<=n:=Nat.div_le_self n d;rw[e,h2];generalize n/d=k at*;rw[wrap_i64 Ab Ab]
def Ű{n:Nat}(d:Nat)(hd:0<d)(h:n<2147483648)(e:AB (.int .rem) [I (n:Int),I (d:Int)]=some (I ((n:Int).tmod (d:Int)))):AB (.int .rem) [I (n:Int),I (d:Int)]=some (I ((n%d:Nat):Int)):=by
 have h2:(n:Int).tmod (d:Int)=((n%d:Nat):Int):=by rw[Int.tmod_eq_emod_of_nonneg Ab];rfl
 have a:n%d<=n:=Nat.mod_le n d;rw[e,h2]
def Y2{n:Nat}(h:n<2147483648):AB (.int .quo) [I (n:Int),I 64]=some (I ((n/64:Nat):Int)):=kS 64 AU h rfl
def Y3{n:Nat}(h:n<2147483648):AB (.int .quo) [I (n:Int),I 4096]=some (I ((n/4096:Nat):Int)):=kS 4096 AU h rfl
def kT{n:Nat}(h:n<2147483648):AB (.int .quo) [I (n:Int),I 262144]=some (I ((n/262144:Nat):Int)):=kS 262144 AU h rfl
def N4{n:Nat}(h:n<2147483648):AB (.int .rem) [I (n:Int),I 64]=some (I ((n%64:Nat):Int)):=Ű 64 AU h rfl
def Th{n:Nat}(c:Nat)(h:c+n<2147483648):AB (.int .add) [I (c:Int),I (n:Int)]=some (I ((c+n:Nat):Int)):=by rw[Oz Ab Ab];congr 2
def Mh{n:Nat}(h:n<64):AB (.int .add) [I 128,I (n:Int)]=some (I ((128+n:Nat):Int)):=Th 128 Ab
def ma{n:Nat}(h:n<64):AB (.int .add) [I 192,I (n:Int)]=some (I ((192+n:Nat):Int)):=Th 192 Ab
def mb{n:Nat}(h:n<64):AB (.int .add) [I 224,I (n:Int)]=some (I ((224+n:Nat):Int)):=Th 224 Ab
def mc{n:Nat}(h:n<64):AB (.int .add) [I 240,I (n:Int)]=some (I ((240+n:Nat):Int)):=Th 240 Ab
def Rc{n:Nat}(h:n<256):AB (.conv .u8) [I (n:Int)]=some (.int .u8 (n:Int)):=by rw[T8];congr 3;omega
def P6(r:Int):Prop:=(0<=r/\r<=55295)\/(57344<=r/\r<=1114111)
instance(r:Int):Decidable (P6 r):=by unfold P6;infer_instance
def aIK(r:Int):JQ cx 210 [.int .i32 r] (.bool (decide (P6 r))):=by rw[L4,ĕ];by_cases h1:0<=r<;>by_cases h2:r<=55295<;>by_cases b:57344<=r<;>by_cases a:r<=1114111<;>simp[h1,h2,b,a,P6]
def aIL(r:Int)(hr:P6 r)(h:Ah):BK cx 211 [.int .i32 r] h (.sl 1 (Cd (HM r))) h:=by
 have one:∀{a:Nat} (h1:a<256),AB (.C8 1) [.int .u8 (a:Int)]=some (.sl 1 (Cd [UInt8.ofNat a])):=by intro a h1;simp only[Cd,Bk,C2,bQ h1];rfl
 have Xf:∀{a b:Nat} (h1:a<256) (h2:b<256),AB (.C8 1) [.int .u8 (a:Int),.int .u8 (b:Int)]=some (.sl 1 (Cd [UInt8.ofNat a,UInt8.ofNat b])):=by intro a b h1 h2;simp only[Cd,Bk,C2,bQ h1,bQ h2];rfl
 have Uw:∀{a b c:Nat} (h1:a<256) (h2:b<256) (d:c<256),AB (.C8 1) [.int .u8 (a:Int),.int .u8 (b:Int),.int .u8 (c:Int)]=some (.sl 1 (Cd [UInt8.ofNat a,UInt8.ofNat b,UInt8.ofNat c])):=by intro a b c h1 h2 d;simp only[Cd,Bk,C2,bQ h1,bQ h2,bQ d];rfl
 have four:∀{a b c f:Nat} (h1:a<256) (h2:b<256) (d:c<256) (g:f<256),AB (.C8 1) [.int .u8 (a:Int),.int .u8 (b:Int),.int .u8 (c:Int),.int .u8 (f:Int)]=some (.sl 1 (Cd [UInt8.ofNat a,UInt8.ofNat b,UInt8.ofNat c,UInt8.ofNat f])):=by intro a b c f h1 h2 d g;simp only[Cd,Bk,C2,bQ h1,bQ h2,bQ d,bQ g];rfl
 have F9:=hr;unfold P6 at hr;obtain⟨n,rfl⟩:=IS (Ab:0<=r);have hn:n<=1114111:=Ab;have cv:AB (.conv .i64) [.int .i32 (n:Int)]=some (I (n:Int)):=by rw[Qq,wrap_i64 Ab Ab]
 rw[Ae,Ė];by_cases k:n<128
 .have e:HM (n:Int)=[UInt8.ofNat n]:=by unfold HM;rw[Af Ab];rfl
  rw[e];simp only[abS,cv,(Ab:(n:Int)<128),Rc (Ab:n<256),one (Ab:n<256)]
 by_cases j:n<2048
 .have e:HM (n:Int)=[UInt8.ofNat (192+n/64),UInt8.ofNat (128+n%64)]:=by unfold HM;rw[Ad Ab,Af Ab];rfl
  rw[e];simp only[abS,cv,(Ab:¬(n:Int)<128),(Ab:(n:Int)<2048),Y2 (Ab:n<2147483648),ma (Ab:n/64<64),Rc (Ab:192+n/64<256),N4 (Ab:n<2147483648),Mh (Ab:n%64<64),Rc (Ab:128+n%64<256),Xf (Ab:192+n/64<256) (Ab:128+n%64<256)]
 by_cases i:n<65536
 .have e:HM (n:Int)=[UInt8.ofNat (224+n/4096),UInt8.ofNat (128+n/64%64),UInt8.ofNat (128+n%64)]:=by unfold HM;rw[Ad Ab,Ad Ab,Af Ab];rfl
  rw[e];simp only[abS,cv,(Ab:¬(n:Int)<128),(Ab:¬(n:Int)<2048),(Ab:(n:Int)<65536),Y3 (Ab:n<2147483648),mb (Ab:n/4096<64),Rc (Ab:224+n/4096<256),Y2 (Ab:n<2147483648),N4 (Ab:n/64<2147483648),Mh (Ab:n/64%64<64),Rc (Ab:128+n/64%64<256),N4 (Ab:n<2147483648),Mh (Ab:n%64<64),Rc (Ab:128+n%64<256),Uw (Ab:224+n/4096<256) (Ab:128+n/64%64<256) (Ab:128+n%64<256)]
 .have e:HM (n:Int)=[UInt8.ofNat (240+n/262144),UInt8.ofNat (128+n/4096%64),UInt8.ofNat (128+n/64%64),UInt8.ofNat (128+n%64)]:=by unfold HM;rw[Ad Ab,Ad Ab,Ad Ab,Af Ab];rfl
  rw[e];simp only[abS,cv,(Ab:¬(n:Int)<128),(Ab:¬(n:Int)<2048),(Ab:¬(n:Int)<65536),kT (Ab:n<2147483648),mc (Ab:n/262144<64),Rc (Ab:240+n/262144<256),Y3 (Ab:n<2147483648),N4 (Ab:n/4096<2147483648),Mh (Ab:n/4096%64<64),Rc (Ab:128+n/4096%64<256),Y2 (Ab:n<2147483648),N4 (Ab:n/64<2147483648),Mh (Ab:n/64%64<64),Rc (Ab:128+n/64%64<256),N4 (Ab:n<2147483648),Mh (Ab:n%64<64),Rc (Ab:128+n%64<256),four (Ab:240+n/262144<256) (Ab:128+n/4096%64<256) (Ab:128+n/64%64<256) (Ab:128+n%64<256)]
def me(r:Int):HM (if P6 r then r else 65533)=HM r:=by
 by_cases h:P6 r;.rw[Af h]
 .rw[Ad h];unfold P6 at h;have:HM r=[239,191,189]:=by unfold HM;rw[Ad Ab,Ad Ab,Ad Ab,Ad Ab]
  have h2:HM 65533=[239,191,189]:=by unfold HM;rw[Ad Ab,Ad Ab,Af Ab];decide+kernel
  rw[this,h2]
def yy(r:Int):P6 (if P6 r then r else 65533):=by
 by_cases h:P6 r;.rw[Af h];exact h
 .rw[Ad h];decide
section
variable{h h':Ah}{bi a:Nat}{o c t:Aa}{G G' F:Nat->Prop}{b:BS}{x:Int}{m:Nat}
variable{nm:An}{av:Aa}{l:List A6}{r:List Aa}{sp p:Int}
def RX.leaf{k d:Int}{s:An}(w:RX h bi a o c t G b)(ok:EB b)(rm:BZ b (m+1))(hk:k=5\/k=6)(hd:b.a.has d/\(b.a.nd d).kind=1)(hs:s.length<=100000)(p bf:Int):
  ∃e h' G',BK cx 128 [Pt a 0,I d,.agg [I k,I 0,.slnil,I 0,I 0,S [],.slnil,.str s,S [],S [],ff,I 0,I 0]] h (.tuple [I (b.a.len+1),I 0]) e/\BK cx 166 [Pt bi 0,I p,I (b.a.len+1),I bf] e (.tuple []) h'/\RX h' bi a o c t G' {b with a:=(b.a.add {kind:=k,CQ:=d,data:=s}).EA (b.a.len+1) p bf}/\DB h (Bt bi G) h' (Bt bi G'):=by
 obtain⟨e,D,B,z,u⟩:=w.step (A':=b.a.add {kind:=k,CQ:=d,data:=s}) (R:=λh'=>BK cx 128 [Pt a 0,I d,.agg [I k,I 0,.slnil,I 0,I 0,S [],.slnil,.str s,S [],S [],ff,I 0,I 0]] h (.tuple [I (b.a.len+1),I 0]) h') (λn i ps v=>by obtain⟨h',n',C,JB,r,wp,j⟩:=aIw v (show b.a.len<=1000000000 by have:=rm.n;unfold Ar.len;omega) hd.1 hd.2 k s;exact⟨h',n',C,JB,r,wp,j⟩)
 obtain⟨g,f⟩:=kJ (m:=m) (k:=k) (s:=s) ok rm hk hd hs;obtain⟨h',G',A,y,q⟩:=de z g.ba f p (b.a.len+1) bf;exact⟨e,h',G',B,A,y,u.trans q⟩
def aIM(w:RX h bi a o c t G b)(ok:EB b)(rm:BZ b (m+5))(hnm:Nm b.a)(r:Int):
  ∃h' G',BK cx 89 [Pt bi 0,.int .i32 r] h (.tuple []) h'/\RX h' bi a o c t G' (b.Nn r)/\DB h (Bt bi G) h' (Bt bi G'):=by
 have g:=df w ok rm hnm 0;obtain⟨hp,N⟩:=Yk ok (t:=0) (.inl rfl);unfold BS.Nn;generalize(b.place 0).1=p at*;generalize(b.place 0).2=bf at*;have r2:=ME w p;unfold BS.LP;by_cases hk:(b.a.nd p).kind=4\/(b.a.nd p).kind=2;rotate_left;.refine⟨h,G,?_,by rw[Ad hk];exact w,.refl⟩;have Z:¬(b.a.nd p).kind=4:=λe=>hk (.inl e);have k2:¬(b.a.nd p).kind=2:=λe=>hk (.inr e);rw[Ae,fJ];simp only[abS,g.Ac,r2.Ac,B2,Z,k2,A3]
 rw[Af hk];obtain⟨i,hi,uV,VB,M⟩:=pF (l:=(b.a.nd p).Bb) (bf:=bf) (λh=>by have:=N h;have h2:=(ok.ok.FQ bf this.1 (by rw[this.2];have:=hp.1;omega)).2;rwa [this.2] at h2);rw[M];have Qi:(b.a.nd p).Bb.length<=1000000000:=rm.Zp.Bb ok.ok p;obtain⟨n,R,ps,d,eG⟩:=w.w;obtain⟨kv,y,bu⟩:=yr (x:=p) d Qi;have hvl:=AV.CN bu;have q:=aID (h:=h) bu Qi bf;have rd:=dd w p;rw[Af hp] at rd;have z:∀{Q:HF} {h:Ah} {kk:Aa->IT},W cx (.B7 210 [.int .i32 r] kk) Q h↔W cx (kk (.bool (decide (P6 r)))) Q h:=(aIK r).B7 rfl rfl;obtain⟨r',F9⟩:∃r',r'=if P6 r then r else 65533:=⟨_,rfl⟩
 have VW:=yy r;have wW:=me r;rw[<-F9] at VW wW;have rb:=aIL r' VW h;rw[wW] at rb;have lK:=S7 r;generalize hs:HM r=s at*;have f3:Kd h (.sl 1 (Cd s))=some (h,.sl 1 (Cd s)):=rfl;have b3:AB .WK [.sl 1 (Cd s)]=some (.str s):=by simp[AB,WM,Ry]
 have kK:=ok.ok.CQ p hp;obtain⟨h4,S,T,J,H,P,O⟩:=w.leaf (m:=m) (k:=5) (s:=s) ok (rm.le Ab) (.inl rfl) kK Ab p bf;by_cases hz:i=0
 .subst hz;simp only[↓reduceIte];refine⟨S,T,?_,P,O⟩;rw[Ae,fJ];rcases hk with hk|hk<;>by_cases QT:P6 r<;>by_cases h0:bf=0
  all_goals first|rw[Af QT] at F9|rw[Ad QT] at F9
  all_goals subst F9
  all_goals first
   |(rw[<-uV h0] at hvl;simp only[abS,Nat.reduceLeDiff,↓reduceIte,AT,g.Ac,r2.Ac,B2,hk,(AU:¬(2:Int)=4),A3,z,As QT,rb.Ac,f3,b3,w.l0,y.Ac,hvl,AM h0,(AU:¬(0:Int)<((0:Nat):Int)),rd.Ac,BN,J.Ac,H.Ac];done)
   |(rw[<-uV h0] at hvl;simp only[abS,Nat.reduceLeDiff,↓reduceIte,AT,g.Ac,r2.Ac,B2,hk,(AU:¬(2:Int)=4),A3,z,Aq QT,rb.Ac,f3,b3,w.l0,y.Ac,hvl,AM h0,(AU:¬(0:Int)<((0:Nat):Int)),rd.Ac,BN,J.Ac,H.Ac];done)
   |(rw[VB h0] at q;simp only[abS,Nat.reduceLeDiff,↓reduceIte,AT,g.Ac,r2.Ac,B2,hk,(AU:¬(2:Int)=4),A3,z,As QT,rb.Ac,f3,b3,w.l0,y.Ac,hvl,h0,q.Ac,(AU:¬(0:Int)<((0:Nat):Int)),rd.Ac,BN,J.Ac,H.Ac];done)
   |(rw[VB h0] at q;simp only[abS,Nat.reduceLeDiff,↓reduceIte,AT,g.Ac,r2.Ac,B2,hk,(AU:¬(2:Int)=4),A3,z,Aq QT,rb.Ac,f3,b3,w.l0,y.Ac,hvl,h0,q.Ac,(AU:¬(0:Int)<((0:Nat):Int)),rd.Ac,BN,J.Ac,H.Ac];done)
 .obtain⟨j,rfl⟩:∃j,i=j+1:=⟨i-1,Ab⟩;have hj:j<(b.a.nd p).Bb.length:=Ab;rw[Ad hz,Fb,Ak hj];simp only
  have ht:=ok.ok.M4 p hp _ (AN hj);have C:=AV.BM (k:= .i64) bu hj;rw[BH] at C;have D:AB (.int .sub) [I ((j+1:Nat):Int),I 1]=some (I (j:Int)):=by have:=Hw (n:=j+1) Ab Ab;simpa using this
  have f:(0:Int)<((j+1:Nat):Int):=Ab;generalize hte:(b.a.nd p).Bb[j]=B at*;have E:=ME w B;by_cases A:(b.a.nd B).kind=5
  .rw[Af A];have qK:=rm.data B;obtain⟨h8,K,Y,V,_⟩:=d.wr ht.1 (k:=7) AU (v:= .str ((b.a.nd B).data++s)) rfl (p:=⟨{b.a.nd B with data:=(b.a.nd B).data++s},(pR ps B).kv,(pR ps B).av,d.M4 ht.1,d.xh ht.1⟩) (by simp only[RN.row];rw[(d.pn ht.1).2];rfl);obtain⟨X,U⟩:=w.bw (G':=JC a n R) ⟨n,R,_,Y,rfl⟩ (by rw[eG];exact V);refine⟨h8,_,?_,X,U⟩;have L:=kI (s:=(b.a.nd B).data) (u:=s) Ab;rw[Ae,fJ];rcases hk with hk|hk<;>by_cases QT:P6 r<;>by_cases h0:bf=0
   all_goals first|rw[Af QT] at F9|rw[Ad QT] at F9
   all_goals subst F9
   all_goals first
    |(rw[<-uV h0] at hvl;simp only[abS,Nat.reduceLeDiff,↓reduceIte,AT,g.Ac,r2.Ac,B2,hk,(AU:¬(2:Int)=4),A3,z,As QT,rb.Ac,f3,b3,w.l0,y.Ac,hvl,AM h0,f,D,C,E.Ac,AM A,d.nodes,d.addr ht.1,d.f7 ht.1,L,K];done)
    |(rw[<-uV h0] at hvl;simp only[abS,Nat.reduceLeDiff,↓reduceIte,AT,g.Ac,r2.Ac,B2,hk,(AU:¬(2:Int)=4),A3,z,Aq QT,rb.Ac,f3,b3,w.l0,y.Ac,hvl,AM h0,f,D,C,E.Ac,AM A,d.nodes,d.addr ht.1,d.f7 ht.1,L,K];done)
    |(rw[VB h0] at q;simp only[abS,Nat.reduceLeDiff,↓reduceIte,AT,g.Ac,r2.Ac,B2,hk,(AU:¬(2:Int)=4),A3,z,As QT,rb.Ac,f3,b3,w.l0,y.Ac,hvl,h0,q.Ac,f,D,C,E.Ac,AM A,d.nodes,d.addr ht.1,d.f7 ht.1,L,K];done)
    |(rw[VB h0] at q;simp only[abS,Nat.reduceLeDiff,↓reduceIte,AT,g.Ac,r2.Ac,B2,hk,(AU:¬(2:Int)=4),A3,z,Aq QT,rb.Ac,f3,b3,w.l0,y.Ac,hvl,h0,q.Ac,f,D,C,E.Ac,AM A,d.nodes,d.addr ht.1,d.f7 ht.1,L,K];done)
  .rw[Ad A];refine⟨S,T,?_,P,O⟩;rw[Ae,fJ];rcases hk with hk|hk<;>by_cases QT:P6 r<;>by_cases h0:bf=0
   all_goals first|rw[Af QT] at F9|rw[Ad QT] at F9
   all_goals subst F9
   all_goals first
    |(rw[<-uV h0] at hvl;simp only[abS,Nat.reduceLeDiff,↓reduceIte,AT,g.Ac,r2.Ac,B2,hk,(AU:¬(2:Int)=4),A3,z,As QT,rb.Ac,f3,b3,w.l0,y.Ac,hvl,AM h0,f,D,C,E.Ac,A,rd.Ac,BN,J.Ac,H.Ac];done)
    |(rw[<-uV h0] at hvl;simp only[abS,Nat.reduceLeDiff,↓reduceIte,AT,g.Ac,r2.Ac,B2,hk,(AU:¬(2:Int)=4),A3,z,Aq QT,rb.Ac,f3,b3,w.l0,y.Ac,hvl,AM h0,f,D,C,E.Ac,A,rd.Ac,BN,J.Ac,H.Ac];done)
    |(rw[VB h0] at q;simp only[abS,Nat.reduceLeDiff,↓reduceIte,AT,g.Ac,r2.Ac,B2,hk,(AU:¬(2:Int)=4),A3,z,As QT,rb.Ac,f3,b3,w.l0,y.Ac,hvl,h0,q.Ac,f,D,C,E.Ac,A,rd.Ac,BN,J.Ac,H.Ac];done)
    |(rw[VB h0] at q;simp only[abS,Nat.reduceLeDiff,↓reduceIte,AT,g.Ac,r2.Ac,B2,hk,(AU:¬(2:Int)=4),A3,z,Aq QT,rb.Ac,f3,b3,w.l0,y.Ac,hvl,h0,q.Ac,f,D,C,E.Ac,A,rd.Ac,BN,J.Ac,H.Ac];done)
def RX.MA{s:An}{p bf x:Int}(hstart:(¬x=0/\p=x/\bf=0)\/(x=0/\BK cx 208 [Pt bi 0,I 0] h (.tuple [I p,I bf]) h))(w:RX h bi a o c t G b)(ok:EB b)(rm:BZ b (m+1))(hs:s.length<=100000):
  ∃h' G',BK cx 90 [Pt bi 0,.str s,I x] h (.tuple []) h'/\RX h' bi a o c t G' {b with a:=BS.E3 b.a s p bf}/\DB h (Bt bi G) h' (Bt bi G'):=by
 have r2:=ME w p;unfold BS.E3;by_cases hk:Lx (b.a.nd p).kind
 .rw[Af hk];have hp:b.a.has p:=by
   by_cases hp:b.a.has p;.exact hp
   .rw[HI hp] at hk;unfold Lx at hk;simp at hk
  have kK:=ok.ok.CQ p hp;have rd:=dd w p;rw[Af hp] at rd;obtain⟨y,u,v,f,e,q,n⟩:=w.leaf (m:=m) (k:=6) (s:=s) ok rm (.inr rfl) kK hs p bf;refine⟨u,v,?_,q,n⟩;rw[Ae,wg];rcases hstart with⟨hx,rfl,rfl⟩|⟨hx,d⟩
  .rcases hk with hk|hk|hk<;>simp only[abS,Nat.reduceLeDiff,↓reduceIte,AT,A3,r2.Ac,B2,hk,(AU:¬(2:Int)=1),(AU:¬(4:Int)=1),(AU:¬(4:Int)=2),w.l0,rd.Ac,BN,f.Ac,e.Ac,hx]
  .rcases hk with hk|hk|hk<;>simp only[abS,Nat.reduceLeDiff,↓reduceIte,AT,A3,r2.Ac,B2,hk,(AU:¬(2:Int)=1),(AU:¬(4:Int)=1),(AU:¬(4:Int)=2),w.l0,rd.Ac,BN,f.Ac,e.Ac,AM hx,d.Ac]
 .rw[Ad hk];refine⟨h,G,?_,w,.refl⟩;unfold Lx at hk;have j:¬(b.a.nd p).kind=1:=Ab;have i:¬(b.a.nd p).kind=2:=Ab;have g:¬(b.a.nd p).kind=4:=Ab;rw[Ae,wg];rcases hstart with⟨hx,rfl,rfl⟩|⟨hx,d⟩
  .simp only[abS,Nat.reduceLeDiff,↓reduceIte,AT,A3,r2.Ac,B2,j,i,g,hx]
  .simp only[abS,Nat.reduceLeDiff,↓reduceIte,AT,A3,r2.Ac,B2,j,i,g,AM hx,d.Ac]
def aIN(w:RX h bi a o c t G b)(ok:EB b)(rm:BZ b (m+1))(hnm:Nm b.a)(s:An)(hs:s.length<=100000)(x:Int):
  ∃h' G',BK cx 90 [Pt bi 0,.str s,I x] h (.tuple []) h'/\RX h' bi a o c t G' (b.Fe s x)/\DB h (Bt bi G) h' (Bt bi G'):=by
 unfold BS.Fe;by_cases h0:x=0;.rw[Af h0];exact RX.MA (p:=(b.place 0).1) (bf:=(b.place 0).2) (.inr ⟨h0,df w ok rm hnm 0⟩) w ok rm hs
 .rw[Ad h0];exact RX.MA (p:=x) (bf:=0) (.inl ⟨h0,rfl,rfl⟩) w ok rm hs
end
def pV(n:Int)(l:List Cc):List Cc:=if 0<=Fi n l then Bi l (Fi n l).toNat else l
def pW{U:Type}{l:List U}{k:Nat}{x:U}(hk:k<l.length):(Bi l k).take k++x::(Bi l k).drop k=l.set k x:=by
 have h1:(l.take k).length=k:=by rw[Aw];omega
 unfold Bi;rw[HQ h1,JD h1,BQ,Af hk]
def Vf{p n:Nat}(h:p<=n):CE (p:Int) n=p:=by unfold CE;omega
section
variable{h h':Ah}{bi a:Nat}{o c t:Aa}{G G' F:Nat->Prop}{b:BS}{x:Int}{m:Nat}
variable{nm:An}{av:Aa}{l:List A6}{r:List Aa}{sp p:Int}
def B1.ix{d:List Cc}{n:Nat}(hc:B1 d c)(hb:d.length<=900000000)(x:Int)(h:Ah):BK cx 222 [c,I x] h (I (Fi x d)) h:=by obtain⟨fs,Gw,hv⟩:=hc;have:=aMc (h:=h) hv (by rw[<-Gw,Aj] at hb;omega) x;rwa [YN,Gw] at this
def B1.wo{d:List Cc}(hc:B1 d c)(hb:d.length<=900000000){k:Nat}(hk:k<d.length)(h:Ah):∃u,BK cx 283 [c,I (k:Int)] h u h/\B1 (Bi d k) u/\u.cells=[u]:=by
 obtain⟨fs,Gw,hv⟩:=hc;have hl:d.length=fs.length:=by rw[<-Gw,Aj]
 obtain⟨u,r,hu⟩:=aG3 (h:=h) hv Ab (k:=k) Ab;exact⟨u,r,⟨Bi fs k,by unfold Bi;rw[BE,Ft,JJ,Gw],hu⟩,AV.cells hu⟩
def B1.wi{d:List Cc}(hc:B1 d c)(hb:d.length<=900000000){e:Cc}{v:Aa}(hv:Bq e.Az v)(he:e.Az.length<=1000000000)(i:Int)(h:Ah):∃u,BK cx 100 [c,.agg [I e.node,.str e.name,v],I i] h u h/\B1 (d.take (CE i d.length)++e::d.drop (CE i d.length)) u/\u.cells=[u]:=by
 obtain⟨fs,Gw,Sk⟩:=hc;have hl:d.length=fs.length:=by rw[<-Gw,Aj]
 obtain⟨u,f,PH,r,hu⟩:=f82 (h:=h) Sk Ab (e:=⟨e,v,hv⟩) he i;refine⟨u,r,⟨_,?_,hu⟩,AV.cells hu⟩;rw[BE,Bk,Ft,JJ,Gw,PH,hl]
def yz(w:RX h bi a o c t G b)(hc:B1 b.A5 c)(hb:b.A5.length<=900000000)(x:Int):
  ∃h' c',BK cx 354 [Pt bi 0,I x] h (.tuple []) h'/\RX h' bi a o c' t G {b with A5:=pV x b.A5}/\B1 (pV x b.A5) c'/\DB h (Bt bi G) h' (Bt bi G):=by
 have d:=hc.ix (n:=0) hb x h;unfold pV;by_cases h0:0<=Fi x b.A5;.obtain⟨q,hq,e,_⟩:=HC h0;obtain⟨u,r2,hu,f⟩:=hc.wo hb hq h;rw[Af h0];rw[e] at d⊢;rw[AY];refine⟨_,u,?_,w.Kh,hu,Bg⟩;rw[Ae,aw];simp only[abS,w.l3,d.Ac,(Ab:(0:Int)<=(q:Int)),r2.Ac,w.st (k:=3) (v0:=c) rfl f]
 .rw[Ad h0];refine⟨h,c,?_,w,hc,.refl⟩;rw[Ae,aw];simp only[abS,w.l3,d.Ac,h0]
structure mf(h:Ah)(bi a:Nat)(t:Aa)(G0:Nat->Prop)(fe blk anc:Int)(k N m:Nat)(s0:BS×Int×Nat)(n:Nat)(h1:Ah)(o c:Aa)(G:Nat->Prop)(s:BS×Int×Nat):Prop where
 le:n<=N
 w:RX h1 bi a o c t G s.1
 hc:B1 s.1.A5 c
 ok:EB s.1
 rm:BZ s.1 (m+4*n)
 nm:Nm s.1.a
 last:s.1.a.has s.2.1
 x:DB h (Bt bi G0) h1 (Bt bi G)
 mkb:s.2.2<=1000000000
 len:k+n+1<=s.1.AW.length
 eq:BS.KG blk anc (k+1+N) k N s0=BS.KG blk anc (k+1+N) k n s
 V5:0<=Fi fe s.1.A5
 AW:s.1.AW.take (k+n+1)=s0.1.AW.take (k+n+1)
 feh:s.1.a.has fe
def mf.step{h1 h2:Ah}{D E B z:Aa}{C A:Nat->Prop}{fe blk anc:Int}{k N n:Nat}{s0 s s':BS×Int×Nat}(i:mf h bi a t G fe blk anc k N m s0 (n+1) h1 D E C s)(e:s'=BS.Fp blk anc (k+1+N) (k+(n+1)) s.1 s.2.1 s.2.2)
  (w:RX h2 bi a B z t A s'.1) (hc:B1 s'.1.A5 z) (x:DB h1 (Bt bi C) h2 (Bt bi A)) (mk:s'.2.2<=1000000000) (V5:0<=Fi fe s'.1.A5):
  mf h bi a t G fe blk anc k N m s0 n h2 B z A s':=by
 obtain⟨g,last',q⟩:=Yp (blk:=blk) (anc:=anc) (far:=k+1+N) (i:=k+(n+1)) (m:=s.2.2) i.ok i.last;have hl:=i.len;obtain⟨f,v⟩:=bX (blk:=blk) (anc:=anc) (far:=k+1+N) (i:=k+(n+1)) (l:=s.2.1) (mk:=s.2.2) (b:=s.1) Ab;have d:=OM (blk:=blk) (anc:=anc) (far:=k+1+N) (i:=k+(n+1)) (l:=s.2.1) (mk:=s.2.2) (m:=m+4*n) (i.rm.le Ab);have j:=Nm.Fp (blk:=blk) (anc:=anc) (far:=k+1+N) (i:=k+(n+1)) (l:=s.2.1) (mk:=s.2.2) i.nm i.rm;have y:BS.KG blk anc (k+1+N) k (n+1) s=BS.KG blk anc (k+1+N) k n (BS.Fp blk anc (k+1+N) (k+(n+1)) s.1 s.2.1 s.2.2):=rfl;have u:=i.eq.trans y;have Oa:=i.AW;rw[<-e] at g last' q f v d j u;refine⟨by have:=i.le;omega,w,hc,g,d,j,last',i.x.trans x,mk,Ab,u,V5,?_,q.has _ i.feh⟩;have:=Ca (λl=>l.take (k+(n+1))) Oa;simp only[FD] at this;rw[(Ab:k+n+1=k+(n+1)),f];rwa [Cq Ab] at this
def aIO{anc fe:Int}{k N f:Nat}(w:RX h bi a o c t G b)(hc:B1 b.A5 c)(ok:EB b)(rm:BZ b (m+4*N))(hnm:Nm b.a)(hN:k+1+N<b.AW.length)(hf:f<=1000000000){d:Item}(kf:b.AW[k+1+N]=d)(Qi:AR (Bz fe) b.AW=(k:Int))(V5:0<=Fi fe b.A5)(feh:b.a.has fe):
  ∃h' o' c' G' s',BK cx 356 [Pt bi 0,I (f:Int),I (k:Int),I ((k+1+N:Nat):Int),I anc] h (.tuple [I s'.2.1,I (s'.2.2:Int)]) h'/\s'=BS.KG d.node anc (k+1+N) k N (b,d.node,f)/\mf h bi a t G fe d.node anc k N m (b,d.node,f) 0 h' o' c' G' s':=by
 have ho:=rm.AW;have aT:AS=140737488355328:=rfl;have xo:b.a.has d.node:=(ok.op d (by rw[<-kf];exact AN _)).1;have Jl:Ev cx 356 [Pt bi 0,I (f:Int),I (k:Int),I ((k+1+N:Nat):Int),I anc] h λr h'=>∃o' c' G' s',r= .tuple [I s'.2.1,I (s'.2.2:Int)]/\s'=BS.KG d.node anc (k+1+N) k N (b,d.node,f)/\mf h bi a t G fe d.node anc k N m (b,d.node,f) 0 h' o' c' G' s':=by
  unfold Ev;have ld:A7 h none (Pt bi 2)=some o:=w.ld 2;have e0:=AV.BM (k:= .i64) w.o hN;rw[kf,Item.row] at e0;have i1:=C3 (a:=((k+1+N:Nat):Int)) (b:=1) Ab Ab;rw[(Ab:((k+1+N:Nat):Int)-1=((k+N:Nat):Int))] at i1;rw[ļ];simp only[BF,ld,e0,i1];refine Bl (λz:Nat×Int×Nat=>[I z.2.1,I (z.2.2:Int),I ((k+z.1:Nat):Int)]) (λz h1=>∃o c G1 b1,mf h bi a t G fe d.node anc k N m (b,d.node,f) z.1 h1 o c G1 (b1,z.2)) (λz=>z.1) (N,d.node,f) rfl ⟨o,c,G,b,⟨Ag _,w,hc,ok,rm,hnm,xo,.refl,hf,Dv,rfl,V5,rfl,feh⟩⟩ ?_;rintro⟨n,last,mk⟩ h1 ⟨T,W,G1,b1,i⟩;simp only at i;cases n with
  |zero=>simp only[abS,↓reduceIte,(Ab:¬(k:Int)<(k:Int))];exact⟨_,rfl,T,W,G1,(b1,last,mk),rfl,i.eq.symm,i⟩
  |succ n=>
   have hnN:=i.le;have hlen:=i.len;simp only at hlen;have bY:k+(n+1)<b1.AW.length:=Ab;have hwo:=i.rm.AW;have hwa:=i.rm.A5;have htl:=i.rm.tm;simp only at hwo hwa;have j:RX h1 bi a T W t G1 b1:=i.w;have J:B1 b1.A5 W:=i.hc;have hmk:mk<=1000000000:=i.mkb;have nv:A7 h1 none (Pt bi 2)=some T:=j.ld 2;have U:=AV.BM (k:= .i64) j.o bY;have WH:b1.AW.getD (k+(n+1)) Item.zero=b1.AW[k+(n+1)]:=by rw[AJ,Ak bY];rfl
   have hxf:b1.AW[k+(n+1)].node≠fe:=by have h2:=Ca (λl=>l[k+(n+1)]?) i.AW;simp only[Cg] at h2;rw[Af Ab,Af Ab,Ak bY,Ak Ab] at h2;obtain⟨_,_,h3⟩:=IM Qi;have h4:=h3 (k+(n+1)) Ab Ab;rw[D7 h2];intro h5;unfold Bz at h4;rw[h5] at h4;simp at h4
   generalize hxe:b1.AW[k+(n+1)]=x at*;obtain⟨q,hq,ki,hq0,hq2,hq3⟩:=HC i.V5;simp only at hq ki;have r2:=J.ix (n:=0) Ab x.node h1;have nr:(k:Int)<((k+(n+1):Nat):Int):=Ab;have dec:AB (.int .sub) [I ((k+(n+1):Nat):Int),I 1]=some (I ((k+n:Nat):Int)):=by have:=Hw (n:=k+(n+1)) Ab Ab;rwa [(Ab:k+(n+1)-1=k+n)] at this
   have inc:AB (.int .add) [I ((k+(n+1):Nat):Int),I 1]=some (I ((k+(n+1)+1:Nat):Int)):=BO Ab;have s:AB (.int .sub) [I ((k+1+N:Nat):Int),I ((k+(n+1):Nat):Int)]=some (I ((N-n:Nat):Int)):=by rw[C3 Ab Ab];congr 2;omega
   have aSJ:x.row.length=4:=rfl;have K:∀{h2:Ah} {O V:Aa} {G2:Nat->Prop} {b2:BS},RX h2 bi a O V t G2 b2->b2.AW=b1.AW->∃M L R B,A7 h2 none (Pt bi 2)=some O/\AB (.KK 4 false false true) [O,I ((k+(n+1):Nat):Int)]=some M/\AB (.append 4 40) [.slnil,M]=some L/\AB (.KK 4 false true false) [O,I ((k+(n+1)+1:Nat):Int)]=some R/\AB (.append 4 40) [L,R]=some B/\Co h2 1 (Pt bi 2) B=some (Am.put h2 bi 2 B)/\RX (Am.put h2 bi 2 B) bi a B V t G2 {b2 with AW:=Bi b1.AW (k+(n+1))}:=by
    intro h2 O V G2 b2 A P;have Zi:BY b1.AW O:=by rw[<-P];exact A.o
    obtain⟨M,H,q1⟩:=AV.Lw Zi (k:= .i64) (n:=k+(n+1)) Ab;obtain⟨L,E,q2⟩:=AV.FJ (b:=40) q1 (by rw[Aw];omega);obtain⟨R,D,q3⟩:=AV.SD Zi (k:= .i64) (n:=k+(n+1)+1) Ab;obtain⟨B,C,q4⟩:=AV.eM (b:=40) q2 q3 (by rw[Aw,Be];omega);exact⟨M,L,R,B,A.ld 2,H,E,D,C,A.st (k:=2) (v0:=O) rfl (AV.cells q4),A.HZ q4⟩
   by_cases he:Fi x.node b1.A5<0
   .obtain⟨M,L,R,B,_,H,E,D,C,X,Q⟩:=K j rfl;have es:({b1 with AW:=Bi b1.AW (k+(n+1))},last,mk)=BS.Fp d.node anc (k+1+N) (k+(n+1)) b1 last mk:=by unfold BS.Fp;simp only[WH];rw[Af he]
    have y:=i.step es Q J Bg hmk i.V5;by_cases Nv:(3:Int)<((N-n:Nat):Int);.simp only[abS,Nat.reduceLeDiff,↓reduceIte,AT,Fc,nr,nv,U,j.l3,r2.Ac,A3,s,Nv,(Ab:¬(0:Int)<=Fi x.node b1.A5),he,H,E,inc,D,C,X,dec];exact AL.next (n,last,mk) rfl ⟨_,_,_,_,y⟩ Dv
    .simp only[abS,Nat.reduceLeDiff,↓reduceIte,AT,Fc,nr,nv,U,j.l3,r2.Ac,A3,s,Nv,he,H,E,inc,D,C,X,dec];exact AL.next (n,last,mk) rfl ⟨_,_,_,_,y⟩ Dv
   .obtain⟨p,hp,ep,NO,ZS,hp3⟩:=HC (Js.1 he);have Ei:(0:Int)<=(p:Int):=Ab;rw[ep] at r2;have ept:(Fi x.node b1.A5).toNat=p:=by rw[ep,AY]
    have hpf:b1.A5[p].node≠fe:=by rw[ZS];exact hxf
    by_cases Nv:(3:Int)<((N-n:Nat):Int)
    .obtain⟨V,r3,IZ,aIP⟩:=J.wo Ab hp h1;have A:=j.Kh (u:=V) (l:=Bi b1.A5 p);obtain⟨M,L,R,B,yx,H,E,D,C,X,Q⟩:=K A rfl;have es:({b1 with A5:=Bi b1.A5 p,AW:=Bi b1.AW (k+(n+1))},last,if p<mk then mk-1 else mk)=BS.Fp d.node anc (k+1+N) (k+(n+1)) b1 last mk:=by unfold BS.Fp;simp only[WH];rw[Ad he,Af (Ab:k+(n+1)+3<k+1+N),ept]
     have y:=i.step es Q IZ (Bg.trans Bg) (by simp only;split<;>omega) (by simp only;rw[bW i.V5 hp hpf];have:=i.V5;unfold down;split<;>omega);have s3:=j.st (k:=3) (v0:=W) rfl aIP;by_cases hpm:(p:Int)<(mk:Int);.have dm:=Hw (n:=mk) Ab Ab;rw[Af (Ab:p<mk)] at y;simp only[abS,Nat.reduceLeDiff,↓reduceIte,AT,Fc,nr,nv,U,j.l3,r2.Ac,A3,s,Nv,Ei,r3.Ac,s3,hpm,dm,(AU:(-1:Int)<0),yx,H,E,inc,D,C,X,dec];exact AL.next (n,last,mk-1) rfl ⟨_,_,_,_,y⟩ Dv
     .rw[Ad (Ab:¬p<mk)] at y;simp only[abS,Nat.reduceLeDiff,↓reduceIte,AT,Fc,nr,nv,U,j.l3,r2.Ac,A3,s,Nv,Ei,r3.Ac,s3,hpm,(AU:(-1:Int)<0),yx,H,E,inc,D,C,X,dec];exact AL.next (n,last,mk) rfl ⟨_,_,_,_,y⟩ Dv
    .obtain⟨fs,Gw,hv⟩:=J;have Hm:b1.A5.length=fs.length:=by rw[<-Gw,Aj]
     have aDP:p<fs.length:=Ab;have efp:fs[p].c=b1.A5[p]:=by simp only[<-Gw,CZ]
     have P:=AV.BM (k:= .i64) hv aDP;have k_:fs[p].v.cells=[fs[p].v]:=AV.cells fs[p].ok;have hr:N1 fs[p].c.name fs[p].v [I 2,.str fs[p].c.name,ff,S [],ff,S [],ff,ff,fs[p].v,ff,S [],.int .i32 0]:=⟨I 2,ff,S [],ff,S [],ff,ff,ff,S [],.int .i32 0,rfl⟩;have KI:=i.rm.DE _ (AN hp);rw[<-efp] at KI;obtain⟨h2,G2,r4,A,x2⟩:=ů (m:=m+4*n) j i.ok.ba (i.rm.le Ab) i.nm hr fs[p].ok KI.2 KI.1 anc 1;obtain⟨xz,fr,le2⟩:=P1 (nm:=fs[p].c.name) (at_:=fs[p].c.Az) (p:=anc) i.ok J1;have U9:=I8 (m:=m+4*n+1) (nm:=fs[p].c.name) (l:=fs[p].c.Az) (sp:=1) (p:=anc) (i.rm.le Ab) KI.2;have Oa:(b1.Es fs[p].c.name fs[p].c.Az 1 anc).AW=b1.AW:=by unfold BS.Es;rw[Af J1]
     have QB:(b1.Es fs[p].c.name fs[p].c.Az 1 anc).A5=b1.A5:=by unfold BS.Es;rw[Af J1]
     have es0:BS.Fp d.node anc (k+1+N) (k+(n+1)) b1 last mk=({b1.Es fs[p].c.name fs[p].c.Az 1 anc with a:=(b1.Es fs[p].c.name fs[p].c.Az 1 anc).a.FX (b1.GB fs[p].c.name fs[p].c.Az 1).node last 0,AW:=(b1.Es fs[p].c.name fs[p].c.Az 1 anc).AW.set (k+(n+1)) (b1.GB fs[p].c.name fs[p].c.Az 1),A5:=(b1.Es fs[p].c.name fs[p].c.Az 1 anc).A5.set p {fs[p].c with node:=(b1.GB fs[p].c.name fs[p].c.Az 1).node}},(b1.GB fs[p].c.name fs[p].c.Az 1).node,if last=d.node then p+1 else mk):=by unfold BS.Fp;simp only[WH];rw[Ad he,Ad Ab,ept,AJ,Ak hp,Hp,<-efp]
     have wV:=NX i.ok fr;have hna:=QA i.ok fr;have hnf:(b1.GB fs[p].c.name fs[p].c.Az 1).node≠fe:=λP=>fr.new (by rw[P];exact i.feh);have aDQ:(b1.GB fs[p].c.name fs[p].c.Az 1).name.length<=1000:=NZ KI.1;simp only at wV hna;generalize b1.GB fs[p].c.name fs[p].c.Az 1=g at*;generalize b1.Es fs[p].c.name fs[p].c.Az 1 anc=b2 at*;have yx:A7 h2 none (Pt bi 2)=some T:=A.ld 2;have Zi:BY b1.AW T:=j.o;obtain⟨M,H,q1⟩:=AV.Lw Zi (k:= .i64) (n:=k+(n+1)) Ab;obtain⟨L,E,q2⟩:=AV.FJ (b:=40) q1 (by rw[Aw];omega);have D:=AV.Jv (a:=g) (b:=40) q2 (by rw[Aw];omega);obtain⟨B,C,q4⟩:=AV.SD Zi (k:= .i64) (n:=k+(n+1)+1) Ab;obtain⟨u5,p5,q5⟩:=AV.eM (f:=Item.row) (l:=b1.AW.take (k+(n+1))++[g]) (b:=40) .mk q4 (by rw[Av,Aw,Be,A9];omega);have es5:b1.AW.take (k+(n+1))++[g]++b1.AW.drop (k+(n+1)+1)=b2.AW.set (k+(n+1)) g:=by rw[Oa,BQ,Af bY,AI];rfl
     rw[es5] at q5;have ű:AB (.C8 4) [.agg g.row]=some (.sl 4 [g.row]):=Mu;have s5:=A.st (k:=2) (v0:=T) rfl (AV.cells q5);have w3:=A.HZ q5;have x3:=x2.trans (Bg (k:=2) (v:=u5));generalize put h2 bi 2 u5=h3 at*;have Z:=w3.l3;have hc0:B1 b1.A5 W:=⟨fs,Gw,hv⟩;obtain⟨V,r6,IZ,aIP⟩:=hc0.wo Ab hp h3;obtain⟨c3,r7,aIQ,aNB⟩:=IZ.wi (by rw[Hj hp];omega) (e:={fs[p].c with node:=g.node}) fs[p].ok (by have:=KI.2.1;simp only;omega) (p:Int) h3;rw[Vf (by rw[Hj hp];omega),pW hp] at aIQ;have s6:=w3.st (k:=3) (v0:=W) rfl aNB;have Q:=w3.Kh (u:=c3) (l:=b2.A5.set p {fs[p].c with node:=g.node});have hc4:B1 (b2.A5.set p {fs[p].c with node:=g.node}) c3:=by rw[QB];exact aIQ
     have x4:=x3.trans (Bg (k:=3) (v:=c3));generalize put h3 bi 3 c3=h4 at*;have ok3:=xz.tW (i:=g) (k:=k+(n+1)) ⟨fr.has,fr.kind,fr.Bc,fr.name⟩ (by rw[Oa];exact wV);have np:=ok3.tX (e:={fs[p].c with node:=g.node}) (k:=p) ⟨fr.has,fr.kind⟩ (by simp only[QB];exact hna);have rm4:BZ {b2 with AW:=b2.AW.set (k+(n+1)) g,A5:=b2.A5.set p {fs[p].c with node:=g.node}} (m+4*n+1):=by
      refine⟨U9.n,U9.at_,U9.data,by simp only[Bp];exact U9.AW,by simp only[Bp];exact U9.A5,U9.tm,λe he=>?_,λi hi=>?_⟩
      .rcases Dd he with he|rfl
       .exact U9.DE e he
       .exact KI
      .rcases Dd hi with hi|rfl
       .exact U9.Yr i hi
       .exact aDQ
     obtain⟨er,h6,G6,r8,w6,x6⟩:=Q.kR np.ba rm4 g.node last 0;have y:=i.step es0.symm w6 hc4 (x4.trans x6) (by simp only;split<;>omega) (by simp only;rw[QB,pJ i.V5 hp hpf hnf];exact i.V5);have Y:=Q.l0;have incp:=BO (Ab:p<9223372036854775807);rw[Ci.row] at P;by_cases RU:last=d.node;.rw[Af RU] at y;simp only[abS,Nat.reduceLeDiff,↓reduceIte,AT,Fc,nr,nv,U,j.l3,r2.Ac,A3,s,Nv,(Ab:¬(p:Int)<0),P,k_,r4.Ac,yx,H,E,ű,D,inc,C,p5,s5,Z,r6.Ac,r7.Ac,s6,AM RU,incp,Y,r8.Ac,dec];exact AL.next (n,g.node,p+1) rfl ⟨_,_,_,_,y⟩ Dv
     .rw[Ad RU] at y;simp only[abS,Nat.reduceLeDiff,↓reduceIte,AT,Fc,nr,nv,U,j.l3,r2.Ac,A3,s,Nv,(Ab:¬(p:Int)<0),P,k_,r4.Ac,yx,H,E,ű,D,inc,C,p5,s5,Z,r6.Ac,r7.Ac,s6,RU,Y,r8.Ac,dec];exact AL.next (n,g.node,mk) rfl ⟨_,_,_,_,y⟩ Dv
 obtain⟨r,h',hr,o',c',G',s',rfl,e',i'⟩:=Jl.ret;exact⟨h',o',c',G',s',hr,e',i'⟩
end
end Go.Am
end
