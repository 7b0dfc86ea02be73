/- Lemmas -/
import Derived.Test.YtkaolmlpcamojaaGreatDoorH26
set_option linter.all false
set_option maxRecDepth 100000
section
namespace Go.Am
open Go
def Nt(h:Ai)(lo:Nat)(v:Aa)(l:List Int):Prop:=(v= .slnil/\l=[])\/∃id,lo<=id/\v= .CE id 0 l.length 1/\h[id]?=some (.cells (l.map (Aa.int .i64)))
def MU(h:Ai)(lo:Nat)(v:Aa)(l:List Cb):Prop:=(v= .slnil/\l=[])\/∃id,∃fs:List Ck,lo<=id/\v= .CE id 0 fs.length 3/\h[id]?=some (.cells (fs.map Ck.row).flatten)/\fs.map (·.c)=l
section
variable{h h':Ai}{lo lo':Nat}{v:Aa}
def Nt.cells{l:List Int}(hv:Nt h lo v l):v.cells=[v]:=by rcases hv with⟨rfl,_⟩|⟨id,_,rfl,_⟩<;>rfl
def MU.cells{l:List Cb}(hv:MU h lo v l):v.cells=[v]:=by rcases hv with⟨rfl,_⟩|⟨id,fs,_,rfl,_⟩<;>rfl
def Nt.Dl{l:List Int}(hv:Nt h lo v l)(hf:∀i,lo<=i->i<h.length->h'[i]?=h[i]?):Nt h' lo v l:=by
 rcases hv with hv|⟨id,h1,h2,d⟩
 .exact .inl hv
 .exact .inr ⟨id,h1,h2,by rw[hf id h1 (An.1 d).1];exact d⟩
def MU.Dl{l:List Cb}(hv:MU h lo v l)(hf:∀i,lo<=i->i<h.length->h'[i]?=h[i]?):MU h' lo v l:=by
 rcases hv with hv|⟨id,fs,h1,h2,d,e⟩
 .exact .inl hv
 .exact .inr ⟨id,fs,h1,h2,by rw[hf id h1 (An.1 d).1];exact d,e⟩
def MU.low{l:List Cb}(hv:MU h lo v l)(hl:lo'<=lo):MU h lo' v l:=by
 rcases hv with hv|⟨id,fs,h1,h2⟩
 .exact .inl hv
 .exact .inr ⟨id,fs,Ac,h2⟩
def Nt.Sl{l:List Int}(hv:Nt h lo v l):Qs h v l:=by
 rcases hv with⟨rfl,rfl⟩|⟨id,_,rfl,hc⟩
 .exact⟨rfl,λk hk=>by simp at hk⟩
 .refine⟨rfl,λk hlt=>⟨Pt id k,by have:=E1 (id:=id) (z:=1) (k:= .i64) hlt;rwa [FI] at this,?_⟩⟩;simp only[A7,hc,E8];simp[hlt]
def aCg{h u:Ai}{V:Aa}{L:List Int}(i:Nt (h++u) h.length V L)(hb:L.length<=1000000000)(x:Int):∃d g,Gj (h++u) 1 8 V (.sl 1 [[I x]])=some (h++d,g)/\Nt (h++d) h.length g (L++[x]):=by
 have bX:AW=140737488355328:=rfl;rcases i with⟨rfl,rfl⟩|⟨id,Im,rfl,hc⟩
 .exact⟨u++[.cells [I x]],.CE (h++u).length 0 1 1,by rw[<-AI];rfl,.inr ⟨(h++u).length,AH,rfl,AH⟩⟩
 .have hr:∀r∈L.map B8,r.length=1:=MJ (f:=B8) (λ_=>rfl) L;have Kw:(h++u)[id]?=some (.cells (L.map B8).flatten):=by rw[Ou];exact hc
  have hg:=JY (b:=8) (AE:=L.map B8) (r2:=[[I x]]) (v:= .sl 1 [[I x]]) hr AP Kw .mk AH (by rw[Ao];simp;omega);rw[Ao] at hg;have e:(h++u).set id .CR++[Dx.cells (L.map B8++[[I x]]).flatten]=h++(u.set (id-h.length) .CR++[.cells ((L++[x]).map (Aa.int .i64))]):=by rw[BH _ _ Im,AI,Ln,Ou,Bu];rfl
  rw[e] at hg;have bU:(h++(u.set (id-h.length) Dx.CR++[.cells ((L++[x]).map (Aa.int .i64))]))=(h++u.set (id-h.length) Dx.CR)++[.cells ((L++[x]).map (Aa.int .i64))]:=by rw[AI]
  have nE:(h++u.set (id-h.length) Dx.CR).length=(h++u).length:=AH;refine⟨_,_,hg,.inr ⟨(h++u).length,AH,AH,?_⟩⟩;rw[bU,<-nE,Bk (Ag _),C5];rfl
def aI8{h u:Ai}{V:Aa}{L:List Cb}(g:MU (h++u) h.length V L)(hb:L.length<=1000000000)(x:Ck):∃d f,Gj (h++u) 3 48 V (.sl 3 [x.row])=some (h++d,f)/\MU (h++d) h.length f (L++[x.c]):=by
 have bX:AW=140737488355328:=rfl;rcases g with⟨rfl,rfl⟩|⟨id,fs,Im,rfl,hc,rfl⟩
 .exact⟨u++[.cells (([x]:List Ck).map Ck.row).flatten],.CE (h++u).length 0 1 3,by rw[<-AI];rfl,.inr ⟨(h++u).length,[x],AH,rfl,AH,rfl⟩⟩
 .rw[Ao] at hb;have hg:=JY (b:=48) (AE:=fs.map Ck.row) (r2:=[x.row]) (v:= .sl 3 [x.row]) (O1 fs) AP hc .mk AH (by rw[Ao];simp;omega);rw[Ao] at hg;have e:(h++u).set id .CR++[.cells (fs.map Ck.row++[x.row]).flatten]=h++(u.set (id-h.length) .CR++[.cells ((fs++[x]).map Ck.row).flatten]):=by rw[BH _ _ Im,AI,Bu];rfl
  rw[e] at hg;have bU:(h++(u.set (id-h.length) Dx.CR++[.cells ((fs++[x]).map Ck.row).flatten]))=(h++u.set (id-h.length) Dx.CR)++[.cells ((fs++[x]).map Ck.row).flatten]:=by rw[AI]
  have nE:(h++u.set (id-h.length) Dx.CR).length=(h++u).length:=AH;refine⟨_,_,hg,.inr ⟨(h++u).length,fs++[x],AH,AH,?_,AH⟩⟩;rw[bU,<-nE,Bk (Ag _),C5];rfl
end
structure SS where
 mode:Int
 Si:Int
 tm:List Int
 AQ:List Int
 A6:List Cb
 head:Int
 NH:Int
 fs:Bool
 EX:Bool
 qG:Aj
 skip:Bool
 sw:Int
 stop:Bool
def BS.Xx(b:BS):SS:=⟨b.mode,b.Si,b.tm,b.AQ.map Item.node,b.A6,b.head,b.NH,b.fs,b.EX,b.qG,b.skip,b.sw,b.stop⟩
def VJ(s:SS)(t o c:Aa):List Aa:=[I s.mode,I s.Si,t,o,c,I s.head,I s.NH,.bool s.fs,.bool s.EX,.str s.qG,.bool s.skip,I s.sw,.bool s.stop]
structure TL(h:Ai)(lo:Nat)(s:SS)(t o c:Aa):Prop where
 t:Sn s.tm t
 o:Nt h lo o s.AQ
 c:MU h lo c s.A6
section
variable{h h':Ai}{bi a lo:Nat}{o c t:Aa}{G G' F:Nat->Prop}{b:BS}{x:Int}{m:Nat}
def TL.Dl{s:SS}(w:TL h lo s t o c)(hf:∀i,lo<=i->i<h.length->h'[i]?=h[i]?):TL h' lo s t o c:=⟨w.t,w.o.Dl hf,w.c.Dl hf⟩
def xN{h:Ai}{n:Nat}(hn:n<=1000000000):SH h 3 48 [I 0,S [],.slnil] (I (n:Int)) (I (n:Int))=some (h++[.cells (List.replicate n [I 0,S [],.slnil]).flatten],.CE h.length 0 n 3):=by
 have hm:AW=140737488355328:=rfl;unfold SH;simp only
 rw[Af ⟨Ac,Ac,Ac,rfl⟩];rfl
def aOp(w:BX h bi a o c t G b)(hc:B1 b.A6 c)(rm:BM b m):∃t' o' c' u,BG cx 48 [Pt bi 0] h (.agg (VJ b.Xx t' o' c')) (h++u)/\TL (h++u) h.length b.Xx t' o' c':=by
 have bX:AW=140737488355328:=rfl;have ho:=rm.AQ;have Rx:=rm.A6;have M:=rm.tm;obtain⟨t',e0,Gs⟩:=aAt w.t.1 Ac h;have B:t'.cells=[t']:=Gs.1.cells;obtain⟨fs,GK,hv⟩:=hc;have Hu:b.A6.length=fs.length:=by rw[<-GK,Ao]
 have s:=AU.CN w.o;have I9:Ev cx 48 [Pt bi 0] h λr h'=>∃t' o' c' u,r= .agg (VJ b.Xx t' o' c')/\h'=h++u/\TL (h++u) h.length b.Xx t' o' c':=by
  unfold Ev;rw[aD1,t48];simp only[abS,Nat.reduceLeDiff,↓reduceIte,AT,(IH w).Ab,w.ld,Ju,e0.Ab,BK,B,s];refine DK (i:=0) (λz:Aa×Nat=>[.agg [I b.mode,I b.Si,t',z.1,.slnil,I b.head,I b.NH,.bool b.fs,.bool b.EX,.str b.qG,.bool b.skip,I b.sw,.bool b.stop],I (z.2:Int)]) (λz h1=>z.2<=b.AQ.length/\∃u,h1=h++u/\Nt (h++u) h.length z.1 ((b.AQ.take z.2).map Item.node)) (λz=>b.AQ.length-z.2) (λz h1=>∃u,h1=h++u/\Nt (h++u) h.length z.1 (b.AQ.map Item.node)) (.slnil,0) rfl ⟨AY _,[],AH,.inl ⟨rfl,AH⟩⟩ ?_ ?_
  .rintro⟨V,n⟩ h1 ⟨hn,u,rfl,l⟩;simp only at hn l;have N:=l.cells;rcases AR n b.AQ.length with hlt|Eh
   .have q:=AU.BL (k:= .i64) w.o hlt;rw[Item.row] at q;obtain⟨E,U,g1,j⟩:=aCg l (by rw[Ao,Ax];omega) b.AQ[n].node;have g:=j.cells;have em:AD (.Dk 1) [I b.AQ[n].node]=some (.sl 1 [[I b.AQ[n].node]]):=rfl;simp only[abS,Nat.reduceLeDiff,↓reduceIte,(Ac:(n:Int)<(b.AQ.length:Int)),q,em,g1,g,BN (Ac:n<9223372036854775807)];exact .next (U,n+1) rfl ⟨hlt,E,rfl,by rw[AB hlt,Bu];exact j⟩ Dv
   .rw[AF Eh] at l;simp only[abS,↓reduceIte,(Ac:¬(n:Int)<(b.AQ.length:Int))];exact .HN (V,n) rfl ⟨u,rfl,l⟩
  .rintro⟨O,W⟩ h1 ⟨u,rfl,p⟩;simp only at p;have P:=p.cells;have w1:=w.HQ (u:=u);have A:=w1.l3;have lc:=AU.CN hv;simp only[abS,↓reduceIte,A,lc];refine sZ (xN (h:=h++u) (n:=fs.length) Ac) ?_;obtain⟨d,f⟩:∃d,d=h++u:=⟨_,rfl⟩;rw[<-f] at p⊢;have T:(d++[Dx.cells (List.replicate fs.length [I 0,S [],.slnil]).flatten])[d.length]?=some (.cells (List.replicate fs.length [I 0,S [],.slnil]).flatten):=AH;have y:A7 (d++[Dx.cells (List.replicate fs.length [I 0,S [],.slnil]).flatten]) none (Pt bi 3)=some c:=by rw[f];exact(w1.HQ).l3
   have aAy:(List.replicate fs.length [I 0,S [],Aa.slnil]).flatten.length=fs.length*3:=by rw[FY (z:=3) (by intro r hr;rw[(List.mem_replicate.1 hr).2];rfl),F8]
   have R:Ep (.copy 3) (d++[Dx.cells (List.replicate fs.length [I 0,S [],.slnil]).flatten]) [.CE d.length 0 fs.length 3,c]=some (d++[Dx.cells (fs.map Ck.row).flatten],I (fs.length:Int)):=by
    have Q:Hj (d++[Dx.cells (List.replicate fs.length [I 0,S [],.slnil]).flatten]) 3 c=some (fs.map Ck.row):=by
     rcases hv with rfl|⟨rfl,h0⟩
     .simp[Hj]
     .rw[h0];rfl
    simp only[Ep,yN,Q,T];rw[Af ⟨trivial,AH,by rw[aAy];omega⟩];have h1:(List.replicate fs.length [I 0,S [],Aa.slnil]).flatten.drop (0+(fs.map Ck.row).length*3)=[]:=AZ (by rw[aAy,Ao];omega);rw[h1,KN,BT,By,Ao,BH _ _ (Ag _),C5];rfl
   have K:AD (.len false) [.CE d.length 0 fs.length 3]=some (I (fs.length:Int)):=rfl;simp only[abS,↓reduceIte,y,R,K];refine DK (i:=2) (λn:Nat=>[I (n:Int)]) (λn h1=>n<=fs.length/\∃Ii:List Ck,h1=d++[.cells (Ii.map Ck.row).flatten]/\Ii.length=fs.length/\Ii.map (·.c)=b.A6) (λn=>fs.length-n) (λn h1=>∃Ii:List Ck,h1=d++[.cells (Ii.map Ck.row).flatten]/\Ii.length=fs.length/\Ii.map (·.c)=b.A6) 0 rfl ⟨AY _,fs,rfl,rfl,GK⟩ ?_ ?_
   .rintro n h1 ⟨hn,Ii,rfl,WM,oe⟩;rcases AR n fs.length with hlt|Eh
    .have So:n<Ii.length:=by omega
     have C:Ii[n].c=b.A6[n]'(by omega):=by simp only[<-oe,C0]
     have WC:=(rm.DB Ii[n].c (by rw[C];exact AN _)).2.1;have q:AD (.Ff 3) [.CE d.length 0 fs.length 3,I (n:Int)]=some (Pt d.length (n*3)):=E1 hlt;have D:(d++[Dx.cells (Ii.map Ck.row).flatten])[d.length]?=some (.cells (Ii.map Ck.row).flatten):=AH;have hg:(Ii.map Ck.row)[n]?=some Ii[n].row:=by rw[Cn,Ap So];rfl
     have L:A7 (d++[Dx.cells (Ii.map Ck.row).flatten]) none (Pt d.length (n*3+2))=some Ii[n].v:=by simp only[A7,D,E8];exact LS (O1 Ii) AP hg
     obtain⟨av,J,ZJ⟩:=f45 (h:=d++[Dx.cells (Ii.map Ck.row).flatten]) Ii[n].ok Ac;have aEY:av.cells=[av]:=AU.cells ZJ;have H:Cv (d++[Dx.cells (Ii.map Ck.row).flatten]) 1 (Pt d.length (n*3+2)) av=some (d++[.cells ((Ii.set n ⟨Ii[n].c,av,ZJ⟩).map Ck.row).flatten]):=by have e:=Oo (AE:=Ii.map Ck.row) (i:=n) (k:=2) (v:=av) (O1 Ii) (by simpa using So) AP;simp only[Cv,D,aEY,A9,M5];rw[Af (by rw[FY (O1 Ii),Ao];omega),e,BH _ _ (Ag _),C5,Et,C0];rfl
     simp only[abS,(Ac:(n:Int)<(fs.length:Int)),q,L,J.Ab,H,BN (Ac:n<9223372036854775807)];refine .next (n+1) rfl ⟨hlt,_,rfl,by rw[Bq];exact WM,?_⟩ Ac
     rw[Et,oe];have za:n<b.A6.length:=Ac;show b.A6.set n Ii[n].c=b.A6;rw[C,J5]
    .simp only[abS,(Ac:¬(n:Int)<(fs.length:Int))];exact .HN n rfl ⟨Ii,rfl,WM,oe⟩
   .rintro n h1 ⟨Ii,rfl,WM,oe⟩;simp only[BE,↓reduceIte];refine⟨_,rfl,t',O,.CE d.length 0 fs.length 3,u++[.cells (Ii.map Ck.row).flatten],rfl,by rw[f,AI],Gs.1,?_,?_⟩;.rw[<-AI,<-f];exact p.Dl λi _ hi=>Ak hi
    .rw[<-AI,<-f];exact .inr ⟨d.length,Ii,by rw[f];simp,by rw[WM],AH,oe⟩
 obtain⟨r,h',hr,t',o',c',u,rfl,rfl,hs⟩:=I9.ret;exact⟨t',o',c',u,hr,hs⟩
end
def PB(h:Ai)(bi:Nat)(b:BS)(F:Nat->Prop):Prop:=∃a o c t G,BX h bi a o c t G b/\B1 b.A6 c/\F=Bs bi G
structure Fin(b:BS)(j:Nat):Prop where
 ok:EB b
 sz:Sz b j
section
variable{h h':Ai}{bi wi:Nat}{b:BS}{F F2:Nat->Prop}{q:rP}{av:Aa}{j:Nat}
def PB.lt(w:PB h bi b F){i:Nat}(hi:F i):i<h.length:=by
 obtain⟨a,o,c,t,G,w,_,rfl⟩:=w;rcases hi with rfl|hi
 .exact w.lt
 .exact w.w.lt hi
def PB.Dl(w:PB h bi b F)(hf:∀i,F i->h'[i]?=h[i]?):PB h' bi b F:=by obtain⟨a,o,c,t,G,w,hc,rfl⟩:=w;exact⟨a,o,c,t,G,w.Dl hf,hc,rfl⟩
def PB.HQ(w:PB h bi b F){u:Ai}:PB (h++u) bi b F:=w.Dl λi hi=>Ak (w.lt hi)
def aOq(w:PB h bi b F)(f:Fin b (j+1))(hq:ou q)(hv:Bi q.Av av):∃h' F',BG cx 24 [Pt bi 0,.agg (Ma q av)] h (.agg (Zl b q).2.row) h'/\PB h' bi (Zl b q).1 F'/\DC h F h' F':=by obtain⟨a,o,c,t,G,w,hc,rfl⟩:=w;obtain⟨h',o',c',t',G',r,w',Kw,x⟩:=aOj w hc f.ok f.sz hq hv;exact⟨h',_,r,⟨a,o',c',t',G',w',Kw,rfl⟩,x⟩
def aOr(s:EZ)(hv:Bi s.Av av)(hl:DO s.Av)(h:Ai):∃h' bi F,BG cx 22 [.agg (MT s av)] h (Pt bi 0) h'/\PB h' bi s.b F/\DC h (λ_=>False) h' F:=by obtain⟨h',bi,a,o,c,t,G,r,w,hc,x⟩:=aOo h s hv hl;exact⟨h',bi,_,r,⟨a,o,c,t,G,w,hc,rfl⟩,x⟩
end
structure QO where
 q:rP
 v:Aa
 ok:Bi q.Av v
def QO.row(x:QO):List Aa:=Ma x.q x.v
def QO.CP{x:QO}:x.row.length=9:=rfl
def QO.If{x:QO}:x.row.take 9=x.row:=rfl
def dH(l:List QO)(v:Aa):Prop:=AU 9 (l.map QO.row) v
noncomputable def LW:BS->List QO->BS
 |b,[]=>b
 |b,x::l=>LW (Zl b x.q).1 l
def Zs:∀{l:List QO} {b:BS} {x:QO},LW b (l++[x])=(Zl (LW b l) x.q).1
 |[],_,_=>rfl
 |y::l,b,x=>by rw[Cs,LW,Zs,LW]
structure xO(h:Ai)(v:Aa)(fs:List Ck):Prop where
 len:AD (.len false) [v]=some (I (fs.length:Int))
 at_:∀k (hk:k<fs.length),∃id o,AD (.Ff 3) [v,I (k:Int)]=some (Pt id o)/\A7 h none (Pt id o)=some (I fs[k].c.node)/\A7 h none (Pt id (o+1))=some (.str fs[k].c.name)/\A7 h none (Pt id (o+2))=some fs[k].v
def NRd(h:Ai)(x:EW)(r:List Aa):Prop:=∃K V,r=[I x.kind,I x.FV,K,I x.CG,I x.Bb,.str x.name,V,.str x.data,.str x.qp,.str x.sys,.bool x.CL,I x.cont,I x.Eo]/\Qs h K x.Bc/\Ns h V x.Av/\K.cells=[K]/\V.cells=[V]
def Zt(h:Ai)(v:Aa)(l:List EW):Prop:=∃AE:List (List Aa),AU 13 AE v/\AE.length=l.length/\∀k (h1:k<AE.length) (h2:k<l.length),NRd h l[k] AE[k]
def Zu(h:Ai)(lo:Nat)(v:Aa)(l:List EW):Prop:=∃AE:List (List Aa),AU 13 AE v/\AE.length=l.length/\∀k (h1:k<AE.length) (h2:k<l.length),Wn h lo l[k] AE[k]
section
variable{h h':Ai}{lo lo':Nat}{v v':Aa}
def MU.at_{l:List Cb}(hv:MU h lo v l):∃fs:List Ck,fs.map (·.c)=l/\xO h v fs:=by
 rcases hv with⟨rfl,rfl⟩|⟨id,fs,_,rfl,hc,e⟩
 .exact⟨[],rfl,rfl,λk hk=>by simp at hk⟩
 .refine⟨fs,e,rfl,λk hk=>⟨id,k*3,E1 hk,?_⟩⟩;have hg:(fs.map Ck.row)[k]?=some fs[k].row:=by rw[Cn,Ap hk];rfl
  have ld:∀j,j<3->A7 h none (Pt id (k*3+j))=fs[k].row[j]?:=λj hj=>by simp only[A7,hc,E8];exact LS (O1 fs) hj hg
  have l0:=ld 0 AP;rw[Bt] at l0;exact⟨l0,ld 1 AP,ld 2 AP⟩
def Up.le{N b:Nat}(hu:Up N v)(hl:b<=N):Up b v:=λid k e=>Br hl (hu id k e)
def Wn.rd{x:EW}{r:List Aa}(hr:Wn h lo x r):NRd h x r:=let⟨K,V,e,h1,h2,_⟩:=hr;⟨K,V,e,h1.Sl,h2.in_,AU.cells h1,h2.cells⟩
def Wn.low{x:EW}{r:List Aa}(hr:Wn h lo x r)(hl:lo'<=lo):Wn h lo' x r:=let⟨K,V,e,h1,h2,b⟩:=hr;⟨K,V,e,h1,h2,b.le hl⟩
def Zu.rd{l:List EW}(hv:Zu h lo v l):Zt h v l:=let⟨AE,h1,h2,c⟩:=hv;⟨AE,h1,h2,λk a b=>(c k a b).rd⟩
def f18{l:List Int}(hv:Qs h v l)(DH:Qs h v' l)(hb:l.length<=1000000000):BG cx 144 [v,v'] h tt h:=by
 rw[Ae,Ļ];simp only[abS,hv.len,DH.len,B7,CF];refine Bm (λn:Nat=>[ff,I (n:Int)]) (λn h1=>n<=l.length/\h1=h) (λn=>l.length-n) 0 rfl ⟨AY _,rfl⟩ ?_;rintro n h1 ⟨hn,rfl⟩;rcases AR n l.length with hlt|Eh
 .obtain⟨p,a1,a2⟩:=hv.at_ n hlt;obtain⟨p',b1,b2⟩:=DH.at_ n hlt;simp only[abS,hv.len,(Ac:(n:Int)<(l.length:Int)),a1,a2,b1,b2,B7,CF,BN (Ac:n<9223372036854775807)];exact AK.next (n+1) rfl ⟨hlt,rfl⟩ Ac
 .simp only[abS,hv.len,(Ac:¬(n:Int)<(l.length:Int))]
def aI9(y:A5):AD (.geq true [.i,.s,.s]) [.agg y.row,.agg y.row]=some (.bool false):=by rw[R7];simp[A5.row,D8,LZ]
def aJa{l:List A5}(hv:Ns h v l)(DH:Ns h v' l)(hb:l.length<=1000000000):BG cx 420 [v,v'] h tt h:=by
 rw[Ae,Ž];simp only[abS,hv.len,DH.len,B7,CF];refine Bm (λn:Nat=>[ff,I (n:Int)]) (λn h1=>n<=l.length/\h1=h) (λn=>l.length-n) 0 rfl ⟨AY _,rfl⟩ ?_;rintro n h1 ⟨hn,rfl⟩;rcases AR n l.length with hlt|Eh
 .obtain⟨p,a1,a2⟩:=hv.at_ n hlt;obtain⟨p',b1,b2⟩:=DH.at_ n hlt;simp only[abS,hv.len,(Ac:(n:Int)<(l.length:Int)),a1,a2,b1,b2,aI9,BN (Ac:n<9223372036854775807)];exact AK.next (n+1) rfl ⟨hlt,rfl⟩ Ac
 .simp only[abS,hv.len,(Ac:¬(n:Int)<(l.length:Int))]
def f87{fs b:List Ck}(hv:xO h v fs)(DH:xO h v' b)(he:fs.map (·.c)=b.map (·.c))(hb:fs.length<=1000000000)(ha:∀e∈fs,e.c.Av.length<=1000000000):BG cx 145 [v,v'] h tt h:=by
 have hl:b.length=fs.length:=by have:=Cc List.length he;simpa using this.symm
 have l1:=hv.len;have p:=DH.len;rw[hl] at p;rw[Ae,ļ];simp only[abS,l1,p,B7,CF];refine Bm (λn:Nat=>[ff,I (n:Int)]) (λn h1=>n<=fs.length/\h1=h) (λn=>fs.length-n) 0 rfl ⟨AY _,rfl⟩ ?_;rintro n h1 ⟨hn,rfl⟩;rcases AR n fs.length with hlt|Eh
 .have Tz:n<b.length:=by omega
  have q:b[n].c=fs[n].c:=by have:=Cc (λl=>l[n]?) he;simp only[Cn,Ap hlt,Ap Tz,BY,BC] at this;exact this.symm
  obtain⟨id,o,a1,a2,a3,a4⟩:=hv.at_ n hlt;obtain⟨FW,o',b1,b2,b3,b4⟩:=DH.at_ n Tz;rw[q] at b2 b3;have ZJ:Bi fs[n].c.Av fs[n].v:=fs[n].ok;have aJb:Bi fs[n].c.Av b[n].v:=by rw[<-q];exact b[n].ok
  have ZO:=ha _ (AN hlt);have f:=AU.CN ZJ;have r:=AU.CN aJb;generalize fs[n].v=av at*;generalize b[n].v=dG at*;generalize fs[n].c.Av=d at*;simp only[abS,l1,(Ac:(n:Int)<(fs.length:Int)),a1,a2,a3,a4,b1,b2,b3,b4,B7,CF,f,r];refine Bm (λj:Nat=>[ff,I (j:Int)]) (λj h2=>j<=d.length/\h2=h1) (λj=>d.length-j) 0 rfl ⟨AY _,rfl⟩ ?_;rintro j h2 ⟨hj,rfl⟩;rcases AR j d.length with bK|s
  .have u:=AU.BL (k:= .i64) ZJ bK;have t:=AU.BL (k:= .i64) aJb bK;have i:(A5.row d[j]).length=3:=rfl;have g:(A5.row d[j]).take 3=A5.row d[j]:=rfl;simp only[abS,a1,a4,b1,b4,f,(Ac:(j:Int)<(d.length:Int)),u,t,i,g,Ag,aI9,BN (Ac:j<9223372036854775807)];exact AK.next (j+1) rfl ⟨bK,rfl⟩ Ac
  .simp only[abS,a1,a4,f,(Ac:¬(j:Int)<(d.length:Int)),BN (Ac:n<9223372036854775807)];exact AK.next (n+1) rfl ⟨hlt,rfl⟩ Ac
 .simp only[abS,l1,(Ac:¬(n:Int)<(fs.length:Int))]
def f22{s:SS}{t o c t' o' c':Aa}(w:TL h lo s t o c)(w':TL h lo' s t' o' c')(b1:s.tm.length<=1000000000)(b2:s.AQ.length<=1000000000)(b3:s.A6.length<=1000000000)(b4:∀e∈s.A6,e.Av.length<=1000000000):BG cx 47 [.agg (VJ s t o c),.agg (VJ s t' o' c')] h tt h:=by
 obtain⟨fs,d,he⟩:=w.c.at_;obtain⟨l,b,P7⟩:=w'.c.at_;have g:=f18 w.o.Sl w'.o.Sl b2;have r2:=f87 he P7 (d.trans b.symm) (by rw[<-d,Ao] at b3;exact b3) (λe hm=>b4 e.c (by rw[<-d];exact Pw hm));have q:t.cells=[t]:=w.t.cells;have f:t'.cells=[t']:=w'.t.cells;have r:=w.o.cells;have i:=w'.o.cells;have u:=w.c.cells;have p:=w'.c.cells;have l1:=w.t.len;have j:=w'.t.len;rw[Ae,aD0,VJ,VJ];simp only[abS,l1,j,B7,CF,g.Ab,r2.Ab];refine Bm (λn:Nat=>[ff,I (n:Int)]) (λn h1=>n<=s.tm.length/\h1=h) (λn=>s.tm.length-n) 0 rfl ⟨AY _,rfl⟩ ?_;rintro n h1 ⟨hn,rfl⟩;rcases AR n s.tm.length with hlt|Eh
 .have a1:=AU.BL (k:= .i64) (w.t.ne λe=>by rw[e] at hlt;simp at hlt) hlt;have a2:=AU.BL (k:= .i64) (w'.t.ne λe=>by rw[e] at hlt;simp at hlt) hlt;rw[B8] at a1 a2;simp only[abS,l1,(Ac:(n:Int)<(s.tm.length:Int)),a1,a2,B7,CF,BN (Ac:n<9223372036854775807)];exact AK.next (n+1) rfl ⟨hlt,rfl⟩ Ac
 .simp only[abS,l1,(Ac:¬(n:Int)<(s.tm.length:Int)),CF,Dw]
def aOt{x:EW}{r r':List Aa}(hr:NRd h x r)(Gc:NRd h x r')(hb:x.Av.length<=1000000000):BG cx 386 [.agg r,.agg r'] h tt h:=by obtain⟨K,V,rfl,j,e,i,g⟩:=hr;obtain⟨l,k,rfl,f,qw,d,c⟩:=Gc;have b:=aJa e qw hb;rw[Ae,Ÿ];simp only[abS,CF,b.Ab,Dw]
def aOu{x:EW}{r r':List Aa}(hr:NRd h x r)(Gc:NRd h x r')(hb:x.Av.length<=1000000000)(hk:x.Bc.length<=1000000000):BG cx 295 [.agg r,.agg r'] h tt h:=by have c:=aOt hr Gc hb;obtain⟨K,V,rfl,f,j,i,g⟩:=hr;obtain⟨l,k,rfl,b,qw,e,d⟩:=Gc;have r2:=f18 f b hk;rw[Ae,ţ];simp only[BE,CF,c.Ab,r2.Ab,Dw]
def f90{l:List EW}(hv:Zt h v l)(DH:Zt h v' l)(hb:l.length<=1000000000)(ha:∀x∈l,x.Av.length<=1000000000/\x.Bc.length<=1000000000):BG cx 150 [v,v'] h tt h:=by
 obtain⟨AE,i,s,q⟩:=hv;obtain⟨b,c,g,e⟩:=DH;have l1:=i.len;have p:=c.len;rw[s] at l1;rw[g] at p;rw[Ae,Ŀ];simp only[abS,l1,p,B7,CF];refine Bm (λn:Nat=>[ff,I (n:Int)]) (λn h1=>n<=l.length/\h1=h) (λn=>l.length-n) 0 rfl ⟨AY _,rfl⟩ ?_;rintro n h1 ⟨hn,rfl⟩;rcases AR n l.length with hlt|Eh
 .have a1:=i.Ff (k:= .i64) (Ac:n<AE.length);have a2:=c.Ff (k:= .i64) (Ac:n<b.length);have o:=q n Ac hlt;have j:=e n Ac hlt;have hm:=ha _ (AN hlt);have d:=aOu o j hm.1 hm.2;obtain⟨K,V,r,_⟩:=o;obtain⟨u,t,f,_⟩:=j;rw[r] at a1 d;rw[f] at a2 d;simp only[abS,Nat.reduceLeDiff,↓reduceIte,l1,(Ac:(n:Int)<(l.length:Int)),a1,a2,d.Ab,BN (Ac:n<9223372036854775807)];exact AK.next (n+1) rfl ⟨hlt,rfl⟩ Ac
 .simp only[abS,↓reduceIte,l1,(Ac:¬(n:Int)<(l.length:Int))]
end
def xP{A:Ar}{k:Nat}(hk:k<A.n.length):A.has ((k:Int)+1)/\A.nd ((k:Int)+1)=A.n[k]:=by
 have h1:A.has ((k:Int)+1):=by unfold Ar.has;omega
 refine⟨h1,?_⟩;unfold Ar.nd;rw[Af h1,AJ,(Ac:((k:Int)+1).toNat-1=k),Ap hk];rfl
section
variable{h h':Ai}{a n:Nat}{m:Option Nat}{ps:List PN}{A:Ar}{x:Int}
def aOv(w:PA h a n m ps A)(p:NS A)(hk:∀x,(A.nd x).Bc.length<=1000000000)(hb:A.n.length<=900000000):∃v u,BG cx 151 [Pt a 0] h v (h++u)/\Zu (h++u) h.length v A.n:=by
 have bX:AW=140737488355328:=rfl;have nB:A.n.length=ps.length:=by rw[w.e,Ao]
 have I9:Ev cx 151 [Pt a 0] h λr h'=>∃u,h'=h++u/\Zu (h++u) h.length r A.n:=by
  unfold Ev;rw[ŀ];simp only[BE,ZP,w.nodes,show AD (.len false) [.CE n 0 ps.length 13]=some (I (ps.length:Int)) from rfl];refine Bm (λz:Aa×Nat=>[z.1,I (z.2:Int)]) (λz h1=>z.2<=ps.length/\∃u,h1=h++u/\Zu (h++u) h.length z.1 (A.n.take z.2)) (λz=>ps.length-z.2) (.slnil,0) rfl ⟨AY _,[],AH,[],.nil,AH,λk h1 h2=>by simp at h1⟩ ?_;rintro⟨V,k⟩ h1 ⟨ZU,u,rfl,c⟩;simp only at ZU c;have w1:PA (h++u) a n m ps A:=w.Dl λi hi=>Ak (w.lt i hi);rcases AR k ps.length with hlt|Eh
  .obtain⟨hx,ex⟩:=xP (A:=A) (k:=k) Ac;obtain⟨r,t,l,hr⟩:=aBV w1 p hx (hk _);have ea:AD (.Ff 13) [.CE n 0 ps.length 13,I (k:Int)]=some (.ptr (some (n,nP n ((k:Int)+1)))):=by have:=E1 (k:= .i64) (id:=n) (z:=13) hlt;rw[this];unfold nP;congr 4
   obtain⟨AE,g,d,o⟩:=c;rw[Ax,Cq Ac] at d;obtain⟨K,W,f,Mh⟩:=hr;have em:AD (.Dk 13) [.agg r]=some (.sl 13 [r]):=MI (a:= .agg r) (by rw[f];rfl) AP;have s:=AU.pJ (b:=168) (row:=r) g Ac;simp only[abS,(Ac:(k:Int)<(ps.length:Int)),w1.nodes,ea,l.Ab,em,s,BN (Ac:k<9223372036854775807)];refine AK.next (_,k+1) rfl ⟨hlt,u++t,by rw[AI],AE++[r],.mk,by rw[Au,Ax,d];simp;omega,λj h1 h2=>?_⟩ Dv;rw[<-AI];rw[aQY];by_cases hj:j<AE.length;.rw[Gr hj];have:=o j hj (by rw[Ax];omega);rw[aQY] at this;exact this.HQ
   .have q:j=k:=by simp at h1;omega
    subst q;rw[ì Ac];simp only[d,C5,aFr];rw[<-ex];exact Wn.low (lo:=(h++u).length) ⟨K,W,f,Mh⟩ AH
  .rw[AF Ac] at c;simp only[abS,(Ac:¬(k:Int)<(ps.length:Int))];exact⟨_,rfl,u,rfl,c⟩
 obtain⟨r,h',hr,u,rfl,c⟩:=I9.ret;exact⟨r,u,hr,c⟩
end
structure RN where
 x:EW
 kv:Aa
 av:Aa
 okk:DX x.Bc kv
 oka:Bi x.Av av
def RN.row(p:RN):List Aa:=[I p.x.kind,I p.x.FV,p.kv,I p.x.CG,I p.x.Bb,.str p.x.name,p.av,.str p.x.data,.str p.x.qp,.str p.x.sys,.bool p.x.CL,I p.x.cont,I p.x.Eo]
def RN.z:RN:=⟨{},.slnil,.slnil,.inr ⟨rfl,rfl⟩,.inr ⟨rfl,rfl⟩⟩
def K_(l:List RN):∀r∈l.map RN.row,r.length=13:=MJ (f:=RN.row) (λ_=>rfl) l
structure RA(h:Ai)(a n i:Nat)(ps:List RN)(A:Ar):Prop where
 e:A.n=ps.map RN.x
 il:A.i.length=A.n.length
 ha:h[a]?=some (.cells [.CE n 0 (ps.length+1) 13,.CE i 0 (ps.length+1) 1])
 hn:h[n]?=some (.cells ((RN.z::ps).map RN.row).flatten)
 hi:h[i]?=some (.cells ((0::A.i).map (Aa.int .i64)))
 d:a≠n/\a≠i/\n≠i
def JJ(a n i:Nat):Nat->Prop:=λj=>j=a\/j=n\/j=i
def RW(h:Ai)(G:Nat->Prop)(a:Nat)(A:Ar):Prop:=∃n i ps,RA h a n i ps A/\G=JJ a n i
def pR(ps:List RN)(x:Int):RN:=(RN.z::ps).getD x.toNat RN.z
def nR(x:Int):Nat:=x.toNat*13
section
variable{h h':Ai}{a n i:Nat}{ps:List RN}{A:Ar}{x:Int}{G:Nat->Prop}
def RA.Dl(w:RA h a n i ps A)(hf:∀j,JJ a n i j->h'[j]?=h[j]?):RA h' a n i ps A:=
 ⟨w.e,w.il,by rw[hf a (.inl rfl)];exact w.ha,by rw[hf n (.inr (.inl rfl))];exact w.hn,by rw[hf i (.inr (.inr rfl))];exact w.hi,w.d⟩
def RA.lt(w:RA h a n i ps A){j:Nat}(hj:JJ a n i j):j<h.length:=by
 rcases hj with rfl|rfl|rfl
 .exact(An.1 w.ha).1
 .exact(An.1 w.hn).1
 .exact(An.1 w.hi).1
def RW.Dl(w:RW h G a A)(hf:∀j,G j->h'[j]?=h[j]?):RW h' G a A:=by obtain⟨n,i,ps,w,rfl⟩:=w;exact⟨n,i,ps,w.Dl hf,rfl⟩
def RW.lt(w:RW h G a A){j:Nat}(hj:G j):j<h.length:=by obtain⟨n,i,ps,w,rfl⟩:=w;exact w.lt hj
def RA.len(w:RA h a n i ps A):A.n.length=ps.length:=by rw[w.e,Ao]
def RA.nodes(w:RA h a n i ps A):A7 h none (Pt a 0)=some (.CE n 0 (ps.length+1) 13):=by simp only[A7,w.ha];rfl
def RA.Zd(w:RA h a n i ps A):A7 h none (Pt a 1)=some (.CE i 0 (ps.length+1) 1):=by simp only[A7,w.ha];rfl
def RA.at(w:RA h a n i ps A)(hx:A.has x):x.toNat<ps.length+1/\(x.toNat:Int)=x:=by have h1:=hx.1;have h2:=hx.2;rw[w.len] at h2;omega
def RA.pn(w:RA h a n i ps A)(hx:A.has x):(RN.z::ps)[x.toNat]?=some (pR ps x)/\(pR ps x).x=A.nd x:=by
 have h1:=(w.at hx).1;have h2:=hx.1;have hl:x.toNat<(RN.z::ps).length:=by simpa using h1
 refine⟨by unfold pR;rw[AJ,Ap hl];rfl,?_⟩;unfold Ar.nd pR;rw[Af hx,w.e];obtain⟨k,hk⟩:∃k,x.toNat=k+1:=⟨x.toNat-1,Ac⟩;rw[hk,aLo,Fb,AJ,AJ,Cn];have:k<ps.length:=Ac;rw[Ap this];rfl
def RA.Qd(w:RA h a n i ps A)(hx:A.has x){k:Nat}(hk:k<13):A7 h none (Pt n (nR x+k))=(pR ps x).row[k]?:=by unfold nR;simp only[A7,w.hn,E8];exact LS (K_ _) hk (by rw[Cn,(w.pn hx).1];rfl)
def RA.addr(w:RA h a n i ps A)(hx:A.has x):AD (.Ff 13) [.CE n 0 (ps.length+1) 13,I x]=some (Pt n (nR x)):=by obtain⟨h1,h2⟩:=w.at hx;have:=E1 (k:= .i64) (id:=n) (z:=13) h1;rwa [h2] at this
def RA.f0(w:RA h a n i ps A)(hx:A.has x):A7 h none (Pt n (nR x))=some (I (A.nd x).kind):=by have:=w.Qd hx (k:=0) AP;rw[Bt] at this;rw[this,<-(w.pn hx).2];rfl
def RA.f1(w:RA h a n i ps A)(hx:A.has x):A7 h none (Pt n (nR x+1))=some (I (A.nd x).FV):=by rw[w.Qd hx AP,<-(w.pn hx).2];rfl
def RA.f2(w:RA h a n i ps A)(hx:A.has x):A7 h none (Pt n (nR x+2))=some (pR ps x).kv:=by rw[w.Qd hx AP];rfl
def RA.f3(w:RA h a n i ps A)(hx:A.has x):A7 h none (Pt n (nR x+3))=some (I (A.nd x).CG):=by rw[w.Qd hx AP,<-(w.pn hx).2];rfl
def RA.f4(w:RA h a n i ps A)(hx:A.has x):A7 h none (Pt n (nR x+4))=some (I (A.nd x).Bb):=by rw[w.Qd hx AP,<-(w.pn hx).2];rfl
def RA.f5(w:RA h a n i ps A)(hx:A.has x):A7 h none (Pt n (nR x+5))=some (.str (A.nd x).name):=by rw[w.Qd hx AP,<-(w.pn hx).2];rfl
def RA.f6(w:RA h a n i ps A)(hx:A.has x):A7 h none (Pt n (nR x+6))=some (pR ps x).av:=by rw[w.Qd hx AP];rfl
def RA.f7(w:RA h a n i ps A)(hx:A.has x):A7 h none (Pt n (nR x+7))=some (.str (A.nd x).data):=by rw[w.Qd hx AP,<-(w.pn hx).2];rfl
def RA.f11(w:RA h a n i ps A)(hx:A.has x):A7 h none (Pt n (nR x+11))=some (I (A.nd x).cont):=by rw[w.Qd hx AP,<-(w.pn hx).2];rfl
def RA.f12(w:RA h a n i ps A)(hx:A.has x):A7 h none (Pt n (nR x+12))=some (I (A.nd x).Eo):=by rw[w.Qd hx AP,<-(w.pn hx).2];rfl
def RA.Nl(w:RA h a n i ps A)(hx:A.has x):DX (A.nd x).Bc (pR ps x).kv:=by rw[<-(w.pn hx).2];exact(pR ps x).okk
def RA.ze(w:RA h a n i ps A)(hx:A.has x):Bi (A.nd x).Av (pR ps x).av:=by rw[<-(w.pn hx).2];exact(pR ps x).oka
def RA.wr(w:RA h a n i ps A)(hx:A.has x){k:Nat}(hk:k<13){v:Aa}(hv:v.cells=[v]){p:RN}(hp:p.row=(pR ps x).row.set k v):
  ∃h',Cv h 1 (Pt n (nR x+k)) v=some h'/\RA h' a n i (ps.set (x.toNat-1) p) (A.set x p.x)/\DC h (JJ a n i) h' (JJ a n i)/\h'.length=h.length:=by
 obtain⟨hlt,b⟩:=w.at hx;have h1:=hx.1;have hg:=(w.pn hx).1;have Tz:x.toNat<(RN.z::ps).length:=by simpa using hlt
 rw[Ap Tz,BC] at hg;have e:=Oo (AE:=(RN.z::ps).map RN.row) (i:=x.toNat) (k:=k) (v:=v) (K_ _) (by simpa using hlt) hk;rw[C0,hg,<-hp,<-Et] at e;have es:(RN.z::ps).set x.toNat p=RN.z::ps.set (x.toNat-1) p:=by obtain⟨j,hj⟩:∃j,x.toNat=j+1:=⟨x.toNat-1,Ac⟩;rw[hj,aPq,Fb]
 rw[es] at e;have Pn:=w.lt (.inr (.inl rfl));refine⟨h.set n (.cells ((RN.z::ps.set (x.toNat-1) p).map RN.row).flatten),?_,⟨?_,?_,?_,AO Pn,?_,w.d⟩,⟨by rw[Bq];exact Ag _,λj _ hn=>As λe=>hn (.inr (.inl e.symm)),λj hj=> .inl hj⟩,Bq⟩;.unfold nR;simp only[Cv,w.hn,hv,A9,M5];rw[Af (by rw[FY (K_ _),Ao];have:=DW 13 (show x.toNat+1<=(RN.z::ps).length from Tz);omega),e]
 .unfold Ar.set;simp only;rw[Af hx,w.e,Et]
 .unfold Ar.set;simp only;rw[Af hx,Bq];exact w.il
 .rw[As (Dz w.d.1),Bq];exact w.ha
 .rw[As w.d.2.2];exact w.hi
def Ij(w:RA h a n i ps A):BG cx 281 [Pt a 0,I x] h (.bool (decide (A.has x))) h:=by
 have hl:=w.len;rw[Ae,Ŝ];by_cases h0:0<x
 .have e:decide (A.has x)=decide (x<((ps.length+1:Nat):Int)):=by rw[Dd];unfold Ar.has;omega
  rw[e];simp only[BE,ZP,h0,w.nodes,show AD (.len false) [.CE n 0 (ps.length+1) 13]=some (I ((ps.length+1:Nat):Int)) from rfl]
 .have e:decide (A.has x)=false:=by rw[Ah];unfold Ar.has;omega
  rw[e];simp only[abS,h0]
def aJc(w:RA h a n i ps A):BG cx 411 [Pt a 0,I x] h (I (A.nd x).FV) h:=by
 rw[Ae,ź];by_cases hx:A.has x;.simp only[abS,(Ij (x:=x) w).Ab,Al hx,w.nodes,w.addr hx,w.f1 hx]
 .rw[HR hx];simp only[abS,(Ij (x:=x) w).Ab,Ah hx]
def L_(w:RA h a n i ps A)(hb:(A.nd x).Bc.length<=1000000000):∃v,BG cx 212 [Pt a 0,I x] h v h/\DX (A.nd x).Bc v:=by
 have hm:AW=140737488355328:=rfl;by_cases hx:A.has x;.obtain⟨u,e,hu⟩:=AU.FL (b:=8) (w.Nl hx) Ac;refine⟨u,?_,hu⟩;rw[Ae,br];simp only[abS,(Ij (x:=x) w).Ab,Al hx,w.nodes,w.addr hx,w.f2 hx,e]
 .refine⟨.slnil,?_,by rw[HR hx];exact .inr ⟨rfl,rfl⟩⟩;rw[Ae,br];simp only[abS,(Ij (x:=x) w).Ab,Ah hx]
def aJd(w:RA h a n i ps A)(hx:A.has x):BG cx 418 [Pt a 0,I x] h (I (A.up x)) h:=by
 rw[Ae,ż];by_cases hp:(A.nd x).FV=0
 .have e:A.up x=(A.nd x).Eo:=by unfold Ar.up;rw[Ad (by simpa using hp)]
  simp only[abS,w.nodes,w.addr hx,w.f1 hx,hp,w.f12 hx,e,B7,CF]
 .have e:A.up x=(A.nd x).FV:=by unfold Ar.up;rw[Af (by simpa using hp)]
  simp only[abS,w.nodes,w.addr hx,w.f1 hx,hp,e,B7]
end
def aJe{A:Ar}{e x:Int}(ok:EM A e)(hx:A.has x)(h0:A.up x≠0):A.has (A.up x):=by
 unfold Ar.up at h0⊢;split at h0;.rename_i h;rw[Af h];exact(ok.FV x hx h).1
 .rename_i h;rw[Ad h];exact(ok.Eo x hx h0).1
def o_{A:Ar}{t x:Int}(hne:x≠t):Reach A t x↔A.up x≠0/\Reach A t (A.up x):=by
 constructor
 .intro h;cases h with
  |refl=>exact absurd rfl hne
  |step h1 h2=>exact⟨h1,h2⟩
 .exact λh=> .step h.1 h.2
section
variable{h h':Ai}{a n i:Nat}{ps:List RN}{A:Ar}{x:Int}{G:Nat->Prop}
open Classical in
def aJf{up e:Int}(w:RA h a n i ps A)(ok:EM A e)(hu:A.has up)(hx:A.has x):BG cx 379 [Pt a 0,I up,I x] h (.bool (decide (Reach A up x))) h:=by
 obtain⟨r,hr⟩:=ok.gD;have d:up≠0:=by have:=hu.1;omega
 rw[Ae,Ŵ];simp only[abS,(Ij (x:=up) w).Ab,(Ij (x:=x) w).Ab,Al hu,Al hx];refine Bm (λc:Int=>[I c,ff]) (λc h1=>(c=0\/A.has c)/\(Reach A up x↔c≠0/\Reach A up c)/\h1=h) (λc=>if c=0 then 0 else r c+1) x rfl ⟨.inr hx,⟨λh=>⟨by have:=hx.1;omega,h⟩,λh=>h.2⟩,rfl⟩ ?_;rintro c h1 ⟨hc,he,rfl⟩;by_cases h0:c=0;.have e:decide (Reach A up x)=false:=Ah (λf=>(he.1 f).1 h0);simp only[abS,h0,B7,e]
 .have hc:=hc.resolve_left h0;by_cases b:c=up;.have e:decide (Reach A up x)=true:=Al (he.2 ⟨h0,by rw[b];exact .refl⟩);simp only[abS,h0,B7,AL b,e]
  .simp only[abS,h0,B7,b,(aJd w hc).Ab];refine AK.next (A.up c) rfl ⟨?_,?_,rfl⟩ ?_
   .by_cases hz:A.up c=0;.exact .inl hz
    .exact .inr (aJe ok hc hz)
   .rw[he,o_ b];exact⟨λh=>h.2,λh=>⟨h0,h⟩⟩
   .by_cases hz:A.up c=0;.rw[Af hz,Ad h0];omega
    .rw[Ad hz,Ad h0];have:=hr c hc hz;omega
def aJg{v:Aa}{l:List Int}(hv:DX l v)(hb:l.length<=1000000000)(x:Int)(h:Ai):∃u,BG cx 380 [v,I x] h u h/\DX (l.filter λk=>decide (k≠x)) u:=by
 have hm:AW=140737488355328:=rfl;have I9:Ev cx 380 [v,I x] h λr h'=>DX (l.filter λk=>decide (k≠x)) r/\h'=h:=by
  unfold Ev;rw[ŵ];refine Bm (λs:Aa×Nat=>[s.1,I (s.2:Int)]) (λs h1=>s.2<=l.length/\DX ((l.take s.2).filter λk=>decide (k≠x)) s.1/\h1=h) (λs=>l.length-s.2) (.slnil,0) rfl ⟨AY _,.inr ⟨rfl,rfl⟩,rfl⟩ ?_;rintro⟨u,k⟩ h1 ⟨hk,hu,rfl⟩;simp only at hk hu;have hvl:=AU.CN hv;rcases AR k l.length with hlt|Eh
  .have c:=AU.BL (k:= .i64) hv hlt;rw[B8] at c;have em:AD (.Dk 1) [I l[k]]=some (.sl 1 [B8 l[k]]):=rfl;have Hu:((l.take k).filter λk=>decide (k≠x)).length<=l.length:=Br (Ww _ _) (by rw[Ax];omega);have d:=AU.JD (b:=8) (a:=l[k]) hu Ac;simp only[abS,hvl,(Ac:(k:Int)<(l.length:Int)),c,em,d,BN (Ac:k<9223372036854775807),B7];refine⟨λh2=>?_,λh2=>?_⟩
   .refine AK.next (_,k+1) rfl ⟨hlt,?_,rfl⟩ Dv;rw[AB hlt,DY];have:[l[k]].filter (λk=>decide (k≠x))=[l[k]]:=by simp[h2]
    rw[this];exact .mk
   .refine AK.next (u,k+1) rfl ⟨hlt,?_,rfl⟩ Dv;rw[AB hlt,DY];have h2:l[k]=x:=by simpa using h2
    have:[l[k]].filter (λk=>decide (k≠x))=[]:=by simp[h2]
    rw[this,By];exact hu
  .rw[AF Eh] at hu;simp only[abS,hvl,(Ac:¬(k:Int)<(l.length:Int))];exact⟨_,rfl,hu⟩
 obtain⟨r,h',hr,hu,rfl⟩:=I9.ret;exact⟨r,hr,hu⟩
def aJh(w:RA h a n i ps A)(hx:A.has x)(hb:∀y,(A.nd y).Bc.length<=1000000000){e:Int}(ok:EM A e):∃h' JI,BG cx 278 [Pt a 0,I x] h (I 0) h'/\RA h' a n i JI (A.cut x)/\DC h (JJ a n i) h' (JJ a n i):=by
 by_cases hp:(A.nd x).FV=0;.refine⟨h,ps,?_,by unfold Ar.cut;simp only;rw[Af hp];exact w,.refl⟩;rw[Ae,dz];simp only[abS,(Ij (x:=x) w).Ab,Al hx,w.nodes,w.addr hx,w.f1 hx,hp,B7]
 .obtain⟨hq,_⟩:=ok.FV x hx hp;obtain⟨q,eq⟩:∃q,q=(A.nd x).FV:=⟨_,rfl⟩;rw[<-eq] at hp hq;obtain⟨u,m,hu⟩:=aJg (w.Nl hq) (hb q) x h;obtain⟨h1,l,w1,f,l1⟩:=w.wr hq (k:=2) AP (v:=u) (AU.cells hu) (p:=⟨{A.nd q with Bc:=(A.nd q).Bc.filter λk=>decide (k≠x)},u,(pR ps q).av,hu,w.ze hq⟩) (by simp only[RN.row];rw[(w.pn hq).2];rfl);have PD:(A.set q {A.nd q with Bc:=(A.nd q).Bc.filter λk=>decide (k≠x)}).has x:=ID.2 hx;have aO:=(w1.pn PD).2;obtain⟨h2,j,g,d,s⟩:=w1.wr PD (k:=1) AP (v:=I 0) rfl (p:=⟨{(A.set q {A.nd q with Bc:=(A.nd q).Bc.filter λk=>decide (k≠x)}).nd x with FV:=0},(pR _ x).kv,(pR _ x).av,w1.Nl PD,w1.ze PD⟩) (by simp only[RN.row];rw[aO];rfl);have o:A.cut x=(A.set q {A.nd q with Bc:=(A.nd q).Bc.filter λk=>decide (k≠x)}).set x {(A.set q {A.nd q with Bc:=(A.nd q).Bc.filter λk=>decide (k≠x)}).nd x with FV:=0}:=by unfold Ar.cut;simp only;rw[<-eq,Ad hp]
  refine⟨h2,_,?_,by rw[o];exact g,f.trans d⟩;have r:(A.nd x).FV=q:=eq.symm;have b:=w1.nodes;have c:=w1.addr PD;rw[Bq] at b c;rw[Ae,dz];simp only[abS,(Ij (x:=x) w).Ab,Al hx,w.nodes,w.addr hx,w.f1 hx,r,hp,B7,w.addr hq,w.f2 hq,m.Ab,BK,l,b,j]
open Classical in
def aJi{p b e:Int}(w:RA h a n i ps A)(ok:EM A e):∃q:Int,BG cx 277 [Pt a 0,I p,I x,I b] h (I q) h/\(q=0↔xj A p x b):=by
 by_cases hp:A.has p;rotate_left;.refine⟨3,?_,⟨λh=>absurd h AP,λf=>absurd f.hp hp⟩⟩;rw[Ae,KC];simp only[abS,(Ij (x:=p) w).Ab,Ah hp,A0]
 by_cases hx:A.has x;rotate_left;.refine⟨3,?_,⟨λh=>absurd h AP,λf=>absurd f.hn hx⟩⟩;rw[Ae,KC];simp only[abS,(Ij (x:=p) w).Ab,Al hp,(Ij (x:=x) w).Ab,Ah hx,A0]
 by_cases hb:b≠0/\¬A.has b;.refine⟨3,?_,⟨λh=>absurd h AP,λf=>absurd (f.hb hb.1).1 hb.2⟩⟩;rw[Ae,KC];simp only[abS,(Ij (x:=p) w).Ab,Al hp,(Ij (x:=x) w).Ab,Al hx,B7,hb.1,(Ij (x:=b) w).Ab,Ah hb.2,A0]
 have m:b≠0->A.has b:=λh0=>by
  by_cases h1:A.has b;.exact h1
  .exact absurd ⟨h0,h1⟩ hb
 have first:∀(Q:HO) (k:DU->List Aa->IT),W cx (k .normal [ff]) Q h->W cx (.OF 200001 (.call 281 [Pt a 0,I p] λv0=> .op (.un .not) [v0] λs=> .Gm s (.ret .normal [tt]) (.call 281 [Pt a 0,I x] λv2=> .op (.un .not) [v2] λv3=> .Gm v3 (.ret .normal [tt]) (.op (.int .neq) [I b,I 0] λv4=> .Gm v4 (.call 281 [Pt a 0,I b] λv5=> .op (.un .not) [v5] λr=> .ret .normal [r]) (.ret .normal [ff])))) k) Q h:=by
  intro Q k hk;by_cases h0:b=0;.simp only[abS,(Ij (x:=p) w).Ab,Al hp,(Ij (x:=x) w).Ab,Al hx,B7,h0,A0];exact hk
  .simp only[abS,(Ij (x:=p) w).Ab,Al hp,(Ij (x:=x) w).Ab,Al hx,B7,h0,(Ij (x:=b) w).Ab,Al (m h0),A0];exact hk
 by_cases kp:LO (A.nd p).kind;rotate_left
 .refine⟨4,?_,⟨λh=>absurd h AP,λf=>absurd f.kp kp⟩⟩;unfold LO at kp;have v:¬(A.nd p).kind=1:=λe=>kp (.inl e);have u:¬(A.nd p).kind=2:=λe=>kp (.inr (.inl e));have t:¬(A.nd p).kind=4:=λe=>kp (.inr (.inr e));rw[Ae,KC];refine first _ _ ?_
  simp only[abS,w.nodes,w.addr hp,w.f0 hp,w.addr hx,w.f0 hx,A0,B7,v,u,t]
 by_cases d:(A.nd x).kind=1
 .refine⟨4,?_,⟨λh=>absurd h AP,λf=>absurd d f.kn.1⟩⟩;rw[Ae,KC];refine first _ _ ?_
  rcases kp with kp|kp|kp<;>simp only[abS,w.nodes,w.addr hp,w.f0 hp,w.addr hx,w.f0 hx,A0,B7,(AP:¬(2:Int)=1),(AP:¬(4:Int)=1),(AP:¬(4:Int)=2),kp,d]
 by_cases c:(A.nd x).kind=2
 .refine⟨4,?_,⟨λh=>absurd h AP,λf=>absurd c f.kn.2⟩⟩;rw[Ae,KC];refine first _ _ ?_
  rcases kp with kp|kp|kp<;>simp only[abS,w.nodes,w.addr hp,w.f0 hp,w.addr hx,w.f0 hx,A0,B7,(AP:¬(2:Int)=1),(AP:¬(4:Int)=1),(AP:¬(4:Int)=2),kp,c]
 have j:=aJf w ok hx hp;by_cases re:Reach A x p
 .refine⟨4,?_,⟨λh=>absurd h AP,λf=>absurd re f.re⟩⟩;rw[Al re] at j;rw[Ae,KC];refine first _ _ ?_
  rcases kp with kp|kp|kp<;>simp only[abS,w.nodes,w.addr hp,w.f0 hp,w.addr hx,w.f0 hx,A0,B7,(AP:¬(2:Int)=1),(AP:¬(4:Int)=1),(AP:¬(4:Int)=2),kp,d,c,j.Ab]
 rw[Ah re] at j;by_cases g:b=0
 .refine⟨0,?_,⟨λ_=>⟨hp,hx,λh=>absurd g h,kp,⟨d,c⟩,re⟩,λ_=>rfl⟩⟩;rw[Ae,KC];refine first _ _ ?_
  rcases kp with kp|kp|kp<;>simp only[abS,w.nodes,w.addr hp,w.f0 hp,w.addr hx,w.f0 hx,A0,B7,(AP:¬(2:Int)=1),(AP:¬(4:Int)=1),(AP:¬(4:Int)=2),kp,d,c,j.Ab,g]
 by_cases l:b=x
 .refine⟨5,?_,⟨λh=>absurd h AP,λf=>absurd l (f.hb g).2.1⟩⟩;rw[Ae,KC];refine first _ _ ?_
  have Ob:¬x=0:=by rw[<-l];exact g
  rcases kp with kp|kp|kp<;>simp only[abS,w.nodes,w.addr hp,w.f0 hp,w.addr hx,w.f0 hx,A0,B7,(AP:¬(2:Int)=1),(AP:¬(4:Int)=1),(AP:¬(4:Int)=2),kp,d,c,j.Ab,l,Ob]
 have QH:=m g;by_cases o:(A.nd b).FV=p
 .refine⟨0,?_,⟨λ_=>⟨hp,hx,λh=>⟨QH,l,o⟩,kp,⟨d,c⟩,re⟩,λ_=>rfl⟩⟩;rw[Ae,KC];refine first _ _ ?_
  rcases kp with kp|kp|kp<;>simp only[abS,w.nodes,w.addr hp,w.f0 hp,w.addr hx,w.f0 hx,A0,B7,(AP:¬(2:Int)=1),(AP:¬(4:Int)=1),(AP:¬(4:Int)=2),kp,d,c,j.Ab,g,l,w.addr QH,w.f1 QH,AL o]
 .refine⟨5,?_,⟨λh=>absurd h AP,λf=>absurd (f.hb g).2.2 o⟩⟩;rw[Ae,KC];refine first _ _ ?_
  rcases kp with kp|kp|kp<;>simp only[abS,w.nodes,w.addr hp,w.f0 hp,w.addr hx,w.f0 hx,A0,B7,(AP:¬(2:Int)=1),(AP:¬(4:Int)=1),(AP:¬(4:Int)=2),kp,d,c,j.Ab,g,l,w.addr QH,w.f1 QH,o]
def Q8(b x:Int)(l:List Int):List Int:=l.flatMap λk=>if k=b then[x,k] else[k]
def UJ{b x:Int}:∀{l:List Int},b∉l->Q8 b x l=l
 |[],_=>rfl
 |y::l,h=>by have h1:¬y=b:=λe=>h (by simp[e]);have h2:b∉l:=λe=>h (by simp[e]);have:=UJ (x:=x) h2;unfold Q8 at this⊢;rw[M2,Ad h1,this];rfl
def rR{b x:Int}:∀{l:List Int},l.Nodup->b∈l->Q8 b x l=l.takeWhile (λk=>decide (k≠b))++x::l.dropWhile (λk=>decide (k≠b))
 |[],_,h=>by cases h
 |y::l,hn,h=>by
  rw[B5] at hn;by_cases h1:y=b;.subst h1;have:=UJ (x:=x) hn.1;unfold Q8 at this⊢;rw[M2,Af rfl,this];simp
  .have h2:b∈l:=by rcases AS.1 h with h|h;exact absurd h.symm h1;exact h
   have:=rR (x:=x) hn.2 h2;unfold Q8 at this⊢;rw[M2,Ad h1,this,aLp,aLq];simp[h1]
def rS{b x:Int}{l:List Int}:(Q8 b x l).length<=2*l.length:=by
 induction l with
 |nil=>simp[Q8]
 |cons y l ih=>unfold Q8 at ih⊢;rw[M2,Au,Bd];split<;>simp only[Bd,BR]<;>omega
def pc{b x y:Int}{l:List Int}:Q8 b x (l++[y])=Q8 b x l++if y=b then[x,y] else[y]:=by unfold Q8;rw[List.flatMap_append];simp
open Classical in
def aJj{p b e:Int}(w:RA h a n i ps A)(ok:EM A e)(hb:∀y,(A.nd y).Bc.length<=900000000):∃t h' JI,BG cx 129 [Pt a 0,I p,I x,I b] h (I t) h'/\RA h' a n i JI (A.F0 p x b)/\DC h (JJ a n i) h' (JJ a n i):=by
 obtain⟨t,L,q⟩:=aJi (p:=p) (x:=x) (b:=b) w ok;by_cases hf:xj A p x b;rotate_left;.have h0:¬t=0:=λh=>hf (q.1 h);refine⟨t,h,ps,?_,by rw[O8 hf];exact w,.refl⟩;rw[Ae,bl];simp only[abS,L.Ab,B7,h0]
 have h0:=q.2 hf;subst h0;obtain⟨h1,nF,r2,w1,F⟩:=aJh w hf.hn (λy=>Br (hb y) AP) ok;have â:((A.cut x).nd p).Bc.Nodup/\(b≠0->b∈((A.cut x).nd p).Bc)/\((A.cut x).nd p).Bc.length<=900000000/\(0:Int)∉((A.cut x).nd p).Bc/\(A.cut x).has p/\(A.cut x).has x:=by
  have Wo:=vO ok hf.hn hf.kn.2;have RC:(A.cut x).has p:=Ly.2 hf.hp;refine⟨(Wo.Tm p RC).mn,λh0=>?_,?_,λh0=>?_,RC,Ly.2 hf.hn⟩
  .obtain⟨b1,b2,b3⟩:=hf.hb h0;have zr:((A.cut x).nd b).FV=p:=by rw[Sg ok hf.hn,Ad b2];split<;>exact b3
   have:=(Wo.FV b (Ly.2 b1) (by rw[zr];have:=hf.hp.1;omega)).2;rwa [zr] at this
  .have h1:=hb p;have h2:=hb x;rw[Sg ok hf.hn];split;.exact h2
   .split;.exact Br (Ww _ _) h1
    .exact h1
  .have:=(Wo.Nl p RC 0 h0).1.1;omega
 obtain⟨â,z,N,hz,RC,PD⟩:=â;generalize B:A.cut x=c at*;have I9:Ev cx 129 [Pt a 0,I p,I x,I b] h λr h'=>r=I 0/\∃JI,RA h' a n i JI (A.F0 p x b)/\DC h (JJ a n i) h' (JJ a n i):=by
  have hm:AW=140737488355328:=rfl;unfold Ev;rw[bl];simp only[abS,L.Ab,B7,r2.Ab];have ZU:=w1.Nl RC;have lk:=AU.CN ZU;refine DK (i:=0) (λs:Aa×Nat=>[s.1,I (s.2:Int)]) (λs h2=>s.2<=(c.nd p).Bc.length/\DX (Q8 b x ((c.nd p).Bc.take s.2)) s.1/\h2=h1) (λs=>(c.nd p).Bc.length-s.2) (λs h2=>DX (Q8 b x (c.nd p).Bc) s.1/\h2=h1) (.slnil,0) rfl ⟨AY _,.inr ⟨rfl,rfl⟩,rfl⟩ ?_ ?_
  .rintro⟨u,k⟩ h2 ⟨hk,hu,rfl⟩;simp only at hk hu;rcases AR k (c.nd p).Bc.length with hlt|Eh
   .have C:=AU.BL (k:= .i64) ZU hlt;rw[B8] at C;have nB:=rS (b:=b) (x:=x) (l:=(c.nd p).Bc.take k);rw[Ax] at nB;have g:AD (.Dk 1) [I x]=some (.sl 1 [B8 x]):=rfl;have xF:AD (.Dk 1) [I (c.nd p).Bc[k]]=some (.sl 1 [B8 (c.nd p).Bc[k]]):=rfl;have hs:=pc (b:=b) (x:=x) (y:=(c.nd p).Bc[k]) (l:=(c.nd p).Bc.take k);rw[<-AB hlt] at hs;by_cases ô:(c.nd p).Bc[k]=b;.have a1:=AU.JD (b:=8) (a:=x) hu Ac;have Py:DX (Q8 b x ((c.nd p).Bc.take k)++[x]) (.sl 1 ((Q8 b x ((c.nd p).Bc.take k)++[x]).map B8)):= .mk;have a2:=AU.JD (b:=8) (a:=(c.nd p).Bc[k]) Py (by rw[Au,A9];omega);rw[Af ô,show[x,(c.nd p).Bc[k]]=[x]++[(c.nd p).Bc[k]] from rfl,<-AI] at hs;simp only[abS,w1.nodes,w1.addr RC,w1.f2 RC,lk,(Ac:(k:Int)<((c.nd p).Bc.length:Int)),C,AL ô,g,a1,xF,a2,A0,BN (Ac:k<9223372036854775807)];exact .next (_,k+1) rfl ⟨hlt,by rw[hs];exact .mk,rfl⟩ Dv
    .have a2:=AU.JD (b:=8) (a:=(c.nd p).Bc[k]) hu Ac;rw[Ad ô] at hs;simp only[abS,w1.nodes,w1.addr RC,w1.f2 RC,lk,(Ac:(k:Int)<((c.nd p).Bc.length:Int)),C,ô,xF,a2,A0,BN (Ac:k<9223372036854775807)];exact .next (_,k+1) rfl ⟨hlt,by rw[hs];exact .mk,rfl⟩ Dv
   .rw[AF Eh] at hu;simp only[abS,w1.nodes,w1.addr RC,w1.f2 RC,lk,(Ac:¬(k:Int)<((c.nd p).Bc.length:Int))];exact .HN (u,k) rfl ⟨hu,rfl⟩
  .rintro⟨u,k⟩ h2 ⟨hu,rfl⟩;simp only at hu;obtain⟨o,IG,hw⟩:∃o,DX (Jm (c.nd p).Bc b x) o/\(b=0->AD (.append 1 8) [u,.sl 1 [B8 x]]=some o)/\(b≠0->o=u):=by
    have nB:=rS (b:=b) (x:=x) (l:=(c.nd p).Bc);by_cases h0:b=0;.have a1:=AU.JD (b:=8) (a:=x) hu Ac;refine⟨_,?_,λ_=>a1,λh=>absurd h0 h⟩;have e:Q8 b x (c.nd p).Bc=(c.nd p).Bc:=UJ (by rw[h0];exact hz);rw[e];unfold Jm;rw[Af h0];exact .mk
    .refine⟨u,?_,λh=>absurd h h0,λ_=>rfl⟩;unfold Jm;rw[Ad h0,<-rR â (z h0)];exact hu
   obtain⟨Q,K,m,E,_⟩:=w1.wr RC (k:=2) AP (v:=o) (AU.cells IG) (p:=⟨{c.nd p with Bc:=Jm (c.nd p).Bc b x},o,(pR nF p).av,IG,w1.ze RC⟩) (by simp only[RN.row];rw[(w1.pn RC).2];rfl);have d:(c.set p {c.nd p with Bc:=Jm (c.nd p).Bc b x}).has x:=ID.2 PD;have aO:=(m.pn d).2;obtain⟨P,J,H,D,_⟩:=m.wr d (k:=1) AP (v:= I p) rfl (p:=⟨{(c.set p {c.nd p with Bc:=Jm (c.nd p).Bc b x}).nd x with FV:=p},(pR _ x).kv,(pR _ x).av,m.Nl d,m.ze d⟩) (by simp only[RN.row];rw[aO];rfl);have M:A.F0 p x b=(c.set p {c.nd p with Bc:=Jm (c.nd p).Bc b x}).set x {(c.set p {c.nd p with Bc:=Jm (c.nd p).Bc b x}).nd x with FV:=p}:=by unfold Ar.F0;rw[Af hf,B];rfl
   have f:=m.nodes;have j:=m.addr d;rw[Bq] at f j;have g:AD (.Dk 1) [I x]=some (.sl 1 [B8 x]):=rfl;by_cases h0:b=0;.have a1:=hw.1 h0;simp only[abS,AL h0,g,a1,A0,w1.nodes,w1.addr RC,K,f,j,J];exact⟨_,rfl,rfl,_,by rw[M];exact H,(F.trans E).trans D⟩
   .have O:=hw.2 h0;subst O;simp only[abS,h0,A0,w1.nodes,w1.addr RC,K,f,j,J];exact⟨_,rfl,rfl,_,by rw[M];exact H,(F.trans E).trans D⟩
 obtain⟨r,h',hr,rfl,JI,w',x'⟩:=I9.ret;exact⟨0,h',JI,hr,w',x'⟩
def gq(s:Int):JX cx 207 [I s] (.bool (decide (BS.Ig s))):=by rw[Ml,Ņ];by_cases h1:0<=s<;>by_cases h2:s<=7<;>simp[h1,h2,BS.Ig]
def gr(w:RA h a n i ps A)(hl:A.len<=1000000000)(p:RN):∃h' n' o,BG cx 164 [Pt a 0,.agg p.row] h (I (A.len+1)) h'/\RA h' a n' o (ps++[p]) (A.add p.x)/\DC h (JJ a n i) h' (JJ a n' o):=by
 have hm:AW=140737488355328:=rfl;have hlen:=w.len;have dD:=w.il;have nB:ps.length<=1000000000:=by unfold Ar.len at hl;omega
 have g1:=JY (b:=168) (AE:=(RN.z::ps).map RN.row) (r2:=[p.row]) (v:= .sl 13 [p.row]) (K_ _) AP w.hn .mk AH Ei;have M:((RN.z::ps).map RN.row).length=ps.length+1:=AH;rw[M,A9] at g1;have m:(h.set n .CR++[Dx.cells ((RN.z::ps).map RN.row++[p.row]).flatten]).length=h.length+1:=AH;have l:(h.set n .CR++[Dx.cells ((RN.z::ps).map RN.row++[p.row]).flatten])[h.length]?=some (.cells ((RN.z::(ps++[p])).map RN.row).flatten):=by rw[Bk AH];simp
 have WC:=w.lt (.inl rfl);have aOy:=w.lt (.inr (.inr rfl));have Pn:=w.lt (.inr (.inl rfl));have a1:(h.set n .CR++[Dx.cells ((RN.z::ps).map RN.row++[p.row]).flatten])[a]?=some (.cells [.CE n 0 (ps.length+1) 13,.CE i 0 (ps.length+1) 1]):=by rw[Ak (by simpa using WC),As (Dz w.d.1)];exact w.ha
 have i1:(h.set n .CR++[Dx.cells ((RN.z::ps).map RN.row++[p.row]).flatten])[i]?=some (.cells ((0::A.i).map (Aa.int .i64))):=by rw[Ak (by simpa using aOy),As w.d.2.2];exact w.hi
 have B:∀j,j<h.length->j≠n->(h.set n .CR++[Dx.cells ((RN.z::ps).map RN.row++[p.row]).flatten])[j]?=h[j]?:=λj hj hn=>by rw[Ak (by simpa using hj),As (Dz hn)]
 generalize h.set n .CR++[Dx.cells ((RN.z::ps).map RN.row++[p.row]).flatten]=h1 at*;have q:At h1 a 0 _:=⟨_,a1,rfl⟩;have s:=q.store (u:= .CE h.length 0 (ps.length+1+1) 13) rfl;have a2:=Iq (k:=0) (v:= .CE h.length 0 (ps.length+1+1) 13) a1;have D:(put h1 a 0 (.CE h.length 0 (ps.length+1+1) 13))[h.length]?=_:=(Cm Ac).trans l;have H:(put h1 a 0 (.CE h.length 0 (ps.length+1+1) 13))[i]?=_:=(Cm (Dz w.d.2.1)).trans i1;have y:∀j,j<h.length->j≠n->j≠a->(put h1 a 0 (.CE h.length 0 (ps.length+1+1) 13))[j]?=h[j]?:=λj hj hn ha=>(Cm ha).trans (B j hj hn);have g:(put h1 a 0 (.CE h.length 0 (ps.length+1+1) 13)).length=h.length+1:=by rw[JN,m]
 generalize put h1 a 0 (.CE h.length 0 (ps.length+1+1) 13)=h2 at*;have F:A7 h2 none (Pt a 1)=some (.CE i 0 (ps.length+1) 1):=At.load ⟨_,a2,rfl⟩;have g2:=JY (b:=8) (h:=h2) (id:=i) (AE:=(0::A.i).map B8) (r2:=[B8 0]) (v:= .sl 1 [[I 0]]) (MJ (f:=B8) (λ_=>rfl) _) AP (by rw[Ou];exact H) (.inl rfl) AH Ei;have L:((0::A.i).map B8).length=ps.length+1:=Ei;rw[L,A9,g] at g2;have aOz:a<h2.length:=Ac;have a3:(h2.set i .CR++[Dx.cells ((0::A.i).map B8++[B8 0]).flatten])[a]?=_:=((Ak (by simpa using aOz)).trans (As (Dz w.d.2.1))).trans a2;have C:(h2.set i .CR++[Dx.cells ((0::A.i).map B8++[B8 0]).flatten])[h.length]?=_:=((Ak Ei).trans (As Ac)).trans D;have i3:(h2.set i .CR++[Dx.cells ((0::A.i).map B8++[B8 0]).flatten])[h.length+1]?=some (.cells ((0::(A.i++[0])).map (Aa.int .i64))):=by rw[Bk Ei];simp only[Bq,g,C5,GM];rw[<-Ou];simp
 have t:∀j,j<h.length->j≠n->j≠a->j≠i->(h2.set i .CR++[Dx.cells ((0::A.i).map B8++[B8 0]).flatten])[j]?=h[j]?:=λj hj hn ha hi=>((Ak Ei).trans (As (Dz hi))).trans (y j hj hn ha)
 have K:(h2.set i .CR++[Dx.cells ((0::A.i).map B8++[B8 0]).flatten]).length=h.length+2:=Ei;generalize h2.set i .CR++[Dx.cells ((0::A.i).map B8++[B8 0]).flatten]=c at*;have t3:At c a 1 (.CE i 0 (ps.length+1) 1):=⟨_,a3,rfl⟩;have r:=t3.store (u:= .CE (h.length+1) 0 (ps.length+1+1) 1) rfl;have a4:=Iq (k:=1) (v:= .CE (h.length+1) 0 (ps.length+1+1) 1) a3;have l4:A7 (put c a 1 (.CE (h.length+1) 0 (ps.length+1+1) 1)) none (Pt a 0)=some (.CE h.length 0 (ps.length+1+1) 13):=At.load ⟨_,a4,rfl⟩;refine⟨put c a 1 (.CE (h.length+1) 0 (ps.length+1+1) 1),h.length,h.length+1,?_,⟨?_,?_,?_,?_,?_,?_⟩,⟨by rw[JN];omega,λj hj hn=>?_,λj hj=>?_⟩⟩
 .have em:AD (.Dk 13) [.agg p.row]=some (.sl 13 [p.row]):=rfl;have xF:AD (.Dk 1) [I 0]=some (.sl 1 [[I 0]]):=rfl;have hd:=Iv (n:=ps.length+1+1) Ac Ac;have J:A.len+1=((ps.length+1+1 -1:Nat):Int):=by unfold Ar.len;omega
  have E:AD (.len false) [.CE h.length 0 (ps.length+1+1) 13]=some (I ((ps.length+1+1:Nat):Int)):=rfl;rw[RN.row] at em g1;rw[Ae,ł,RN.row,J];simp only[abS,w.nodes,em,g1,s,F,xF,g2,r,l4,E,hd]
 .unfold Ar.add;simp only;rw[w.e,Bu];rfl
 .unfold Ar.add;simp only[Au,A9];omega
 .rw[a4,Au];rfl
 .rw[Cm Ac];exact C
 .rw[Cm Ac];exact i3
 .exact⟨Ac,Ac,Ac⟩
 .have h1:j≠a:=λe=>hn (.inl e);have h2:j≠n:=λe=>hn (.inr (.inl e));have c:j≠i:=λe=>hn (.inr (.inr e));rw[Cm h1];exact t j hj h2 h1 c
 .rcases hj with rfl|rfl|rfl
  .exact .inl (.inl rfl)
  .exact .inr (Ag _)
  .exact .inr (Fl _)
def aCj{v:Aa}{l:List A5}(hv:Bi l v)(hb:l.length<=1000000000)(hs:∀y∈l,BS.Ig y.Bb)(h:Ai):BG cx 312 [v] h (.bool true) h:=by
 rw[Ae,ť];refine Bm (λk:Nat=>[ff,I (k:Int)]) (λk h1=>k<=l.length/\h1=h) (λk=>l.length-k) 0 rfl ⟨AY _,rfl⟩ ?_;rintro k h1 ⟨hk,rfl⟩;have hvl:=AU.CN hv;rcases AR k l.length with hlt|Eh
 .have b:=AU.BL (k:= .i64) hv hlt;rw[A5.row] at b;have c:∀{Q:HO} {h:Ai} {kk:Aa->IT},W cx (.B6 207 [I l[k].Bb] kk) Q h↔W cx (kk (.bool (decide (BS.Ig l[k].Bb)))) Q h:=(gq _).B6 rfl rfl;simp only[abS,hvl,(Ac:(k:Int)<(l.length:Int)),b,c,Al (hs _ (AN hlt)),BN (Ac:k<9223372036854775807)];exact AK.next (k+1) rfl ⟨hlt,rfl⟩ Ac
 .simp only[abS,hvl,(Ac:¬(k:Int)<(l.length:Int))]
def aCk{v:Aa}{l:List A5}(hv:Bi l v)(hb:l.length<=1000000000)(h:Ai):∃u,BG cx 313 [v] h u h/\Bi (Cw l) u:=by
 have hm:AW=140737488355328:=rfl;have hvl:=AU.CN hv;have I9:Ev cx 313 [v] h λr h'=>Bi (Cw l) r/\h'=h:=by
  unfold Ev;rw[Ŧ];refine Bm (λs:Aa×Nat=>[s.1,I (s.2:Int)]) (λs h1=>s.2<=l.length/\Bi (Cw (l.take s.2)) s.1/\h1=h) (λs=>l.length-s.2) (.slnil,0) rfl ⟨AY _,.inr ⟨rfl,rfl⟩,rfl⟩ ?_;rintro⟨u,k⟩ h1 ⟨hk,hu,rfl⟩;simp only at hk hu;rcases AR k l.length with hlt|Eh
  .have nC:=AU.CN hu;have ql:=QT (l:=l.take k);rw[Ax] at ql;have e:=AU.BL (k:= .i64) hv hlt;rw[A5.row] at e;simp only[abS,↓reduceIte,hvl,(Ac:(k:Int)<(l.length:Int))];refine DK (i:=2) (λj:Nat=>[.bool (((Cw (l.take k)).take j).any λz=>decide (DD l[k]=DD z)),I (j:Int)]) (λj h2=>j<=(Cw (l.take k)).length/\h2=h1) (λj=>(Cw (l.take k)).length-j) (λj h2=>j=(Cw (l.take k)).length/\h2=h1) 0 rfl ⟨AY _,rfl⟩ ?_ ?_
   .rintro j h2 ⟨hj,rfl⟩;rcases AR j (Cw (l.take k)).length with c|q
    .have o:=AU.BL (k:= .i64) hu c;rw[A5.row] at o;have es:((Cw (l.take k)).take (j+1)).any (λz=>decide (DD l[k]=DD z))=(((Cw (l.take k)).take j).any (λz=>decide (DD l[k]=DD z))||decide (DD l[k]=DD (Cw (l.take k))[j])):=by rw[AB c,VS];simp
     by_cases g:(Cw (l.take k))[j].Bb=l[k].Bb
     .by_cases p:(Cw (l.take k))[j].name=l[k].name
      .have d:decide (DD l[k]=DD (Cw (l.take k))[j])=true:=by simp[DD,g,p]
       simp only[abS,nC,(Ac:(j:Int)<((Cw (l.take k)).length:Int)),e,o,AL g,Al p,BN (Ac:j<9223372036854775807)];exact .next (j+1) (by rw[es,d,aFp]) ⟨c,rfl⟩ Ac
      .have d:decide (DD l[k]=DD (Cw (l.take k))[j])=false:=by simp[DD];exact λ_ h=>p h.symm
       simp only[abS,nC,(Ac:(j:Int)<((Cw (l.take k)).length:Int)),e,o,AL g,Ah p,BN (Ac:j<9223372036854775807)];exact .next (j+1) (by rw[es,d,JQ]) ⟨c,rfl⟩ Ac
     .have d:decide (DD l[k]=DD (Cw (l.take k))[j])=false:=by simp[DD];exact λh=>absurd h.symm g
      simp only[abS,nC,(Ac:(j:Int)<((Cw (l.take k)).length:Int)),e,o,g,BN (Ac:j<9223372036854775807)];exact .next (j+1) (by rw[es,d,JQ]) ⟨c,rfl⟩ Ac
    .simp only[abS,nC,(Ac:¬(j:Int)<((Cw (l.take k)).length:Int))];exact .HN j rfl ⟨Ac,rfl⟩
   .rintro j h2 ⟨rfl,rfl⟩;have m:Cw (l.take (k+1))=if(Cw (l.take k)).any (λz=>decide (DD l[k]=DD z)) then Cw (l.take k) else Cw (l.take k)++[l[k]]:=by rw[AB hlt];exact Q3
    have em:AD (.Dk 3) [.agg [I l[k].Bb,.str l[k].name,.str l[k].value]]=some (.sl 3 [[I l[k].Bb,.str l[k].name,.str l[k].value]]):=rfl;have a1:=AU.JD (f:=A5.row) (b:=40) (a:=l[k]) hu Ac;rw[A5.row] at a1;rw[Bx];cases hq:(Cw (l.take k)).any (λz=>decide (DD l[k]=DD z)) with
    |true=>rw[Af hq] at m;simp only[abS,↓reduceIte,BN (Ac:k<9223372036854775807)];exact AK.next (u,k+1) rfl ⟨hlt,by rw[m];exact hu,rfl⟩ Dv
    |false=>rw[Ad (by rw[hq];decide)] at m;simp only[abS,Nat.reduceLeDiff,↓reduceIte,e,em,a1,BN (Ac:k<9223372036854775807)];exact AK.next (_,k+1) rfl ⟨hlt,by rw[m];exact .mk,rfl⟩ Dv
  .rw[AF Eh] at hu;simp only[abS,↓reduceIte,hvl,(Ac:¬(k:Int)<(l.length:Int))];exact⟨_,rfl,hu⟩
 obtain⟨r,h',hr,hu,rfl⟩:=I9.ret;exact⟨r,hr,hu⟩
end
section
variable{h h':Ai}{a n i:Nat}{ps:List RN}{A:Ar}{x d:Int}{G:Nat->Prop}
def gu(w:RA h a n i ps A)(hd:A.has d)(hk:(A.nd d).kind=1):BG cx 168 [Pt a 0,I d] h (I 0) h:=by rw[Ae,ń];simp only[abS,(Ij (x:=d) w).Ab,Al hd,w.nodes,w.addr hd,w.f0 hd,hk,B7]
def aJo(w:RA h a n i ps A)(hl:A.len<=1000000000)(hd:A.has d)(hk:(A.nd d).kind=1)(k:Int)(s:Aj):
  ∃h' n' c JI,BG cx 128 [Pt a 0,I d,.agg [I k,I 0,.slnil,I 0,I 0,S [],.slnil,.str s,S [],S [],ff,I 0,I 0]] h (.tuple [I (A.len+1),I 0]) h'/\RA h' a n' c JI (A.add {kind:=k,CG:=d,data:=s})/\DC h (JJ a n i) h' (JJ a n' c):=by
 obtain⟨h1,f,i1,b,w1,e⟩:=gr w hl ⟨{kind:=k,CG:=d,data:=s},.slnil,.slnil,.inr ⟨rfl,rfl⟩,.inr ⟨rfl,rfl⟩⟩;refine⟨h1,f,i1,_,?_,w1,e⟩;rw[RN.row] at b;rw[Ae,ĵ];simp only[abS,(gu w hd hk).Ab,b.Ab,B7]
def aJp(w:RA h a n i ps A)(hl:A.len<=1000000000)(q:Bool):
  ∃h' n' c JI,BG cx 62 [Pt a 0,.bool q] h (I (A.len+1)) h'/\RA h' a n' c JI (A.add {kind:=1,CG:=A.len+1,CL:=q})/\DC h (JJ a n i) h' (JJ a n' c):=by
 obtain⟨h1,g,i1,b,w1,f⟩:=gr w hl ⟨{kind:=1,CG:=A.len+1,CL:=q},.slnil,.slnil,.inr ⟨rfl,rfl⟩,.inr ⟨rfl,rfl⟩⟩;refine⟨h1,g,i1,_,?_,w1,f⟩;have hn:=w.len;have e:((ps.length+1:Nat):Int)=A.len+1:=by unfold Ar.len;omega
 have j:AD (.len false) [.CE n 0 (ps.length+1) 13]=some (I (A.len+1)):=by rw[<-e];rfl
 rw[RN.row] at b;rw[Ae,aD4];simp only[abS,Nat.reduceLeDiff,↓reduceIte,AT,w.nodes,j,b.Ab]
def RA.gw(w:RA h a n i ps A)(hx:A.has x):AD (.Ff 1) [.CE i 0 (ps.length+1) 1,I x]=some (Pt i x.toNat):=by obtain⟨h1,h2⟩:=w.at hx;have:=E1 (k:= .i64) (id:=i) (z:=1) h1;rwa [h2,FI] at this
def RA.iat(w:RA h a n i ps A)(hx:A.has x):At h i x.toNat (I (A.inr x)):=by obtain⟨h1,h2⟩:=w.at hx;have b:=hx.1;have hl:=w.len;have dD:=w.il;refine⟨_,w.hi,?_⟩;obtain⟨k,hk⟩:∃k,x.toNat=k+1:=⟨x.toNat-1,Ac⟩;rw[hk,Bj,Mf,Cn];unfold Ar.inr;rw[Af hx,hk,Fb,AJ,Ap Ac];rfl
def RA.aJr(w:RA h a n i ps A)(hx:A.has x)(v:Int):RA (put h i x.toNat (I v)) a n i ps (A.Je x v)/\DC h (JJ a n i) (put h i x.toNat (I v)) (JJ a n i):=by
 obtain⟨h1,h2⟩:=w.at hx;have b:=hx.1;refine⟨⟨w.e,?_,(Cm w.d.2.1).trans w.ha,(Cm w.d.2.2).trans w.hn,?_,w.d⟩,⟨by rw[JN];exact Ag _,λj _ hn=>Cm λe=>hn (.inr (.inr e)),λj hj=> .inl hj⟩⟩;.unfold Ar.Je;simp only;rw[Af hx,Bq];exact w.il
 .rw[Iq w.hi];obtain⟨k,hk⟩:∃k,x.toNat=k+1:=⟨x.toNat-1,Ac⟩;unfold Ar.Je;simp only;rw[Af hx,hk,Fb,Bj,aPq,Bj,Et]
def aJs(w:RA h a n i ps A)(hl:A.len<=1000000000)(hd:A.has d):∃h' n' j JI,BG cx 315 [Pt a 0,I d] h (I (A.Fz d)) h'/\RA h' a n' j JI (A.Dn d)/\DC h (JJ a n i) h' (JJ a n' j):=by
 by_cases h0:A.inr d=0;rotate_left
 .refine⟨h,n,i,ps,?_,by unfold Ar.Dn;rw[Af h0];exact w,.refl⟩;have e:A.Fz d=A.inr d:=by unfold Ar.Fz;rw[Af h0]
  rw[Ae,d_,e];simp only[abS,w.Zd,w.gw hd,(w.iat hd).load,h0]
 .obtain⟨h1,r,i1,nF,q,w1,m⟩:=aJp w hl false;have gE:(A.add {kind:=1,CG:=A.len+1,CL:=false}).has d:=DP.2 (.inl hd);have ND:(A.add {kind:=1,CG:=A.len+1,CL:=false}).has (A.len+1):=DP.2 (.inr rfl);obtain⟨b,l⟩:=w1.aJr gE (A.len+1);have TY:((A.add {kind:=1,CG:=A.len+1,CL:=false}).Je d (A.len+1)).has (A.len+1):=ND;have g:(((A.add {kind:=1,CG:=A.len+1,CL:=false}).Je d (A.len+1)).Je (A.len+1) (A.len+1)).has d:=gE;obtain⟨c,k⟩:=b.aJr TY (A.len+1);have e:A.Fz d=A.len+1:=by unfold Ar.Fz;rw[Ad (by simpa using h0)]
  have t:A.Dn d=(((A.add {kind:=1,CG:=A.len+1,CL:=false}).Je d (A.len+1)).Je (A.len+1) (A.len+1)):=by unfold Ar.Dn;rw[Ad (by simpa using h0)]
  refine⟨_,r,i1,nF,?_,by rw[t];exact c,(m.trans l).trans k⟩;have s:(((A.add {kind:=1,CG:=A.len+1,CL:=false}).Je d (A.len+1)).Je (A.len+1) (A.len+1)).inr d=A.len+1:=by
   have f:(A.add {kind:=1,CG:=A.len+1,CL:=false}).i.length=(A.add {kind:=1,CG:=A.len+1,CL:=false}).n.length:=w1.il;rw[Qm b.il,Qm f];split;.rfl
   .rw[Af ⟨rfl,gE⟩]
  have p:=(w1.iat gE).store (u:= I (A.len+1)) rfl;have o:=(b.iat TY).store (u:= I (A.len+1)) rfl;have ld:=(c.iat g).load;rw[s] at ld;rw[Ae,d_,e];simp only[abS,w.Zd,w.gw hd,(w.iat hd).load,h0,q.Ab,w1.Zd,w1.gw gE,p,b.Zd,b.gw TY,o,c.Zd,ld]
def aJt{v:Aa}{l:List A5}(w:RA h a n i ps A)(hx:A.has x)(hk:(A.nd x).kind=4)(hv:Bi l v)(hb:l.length<=1000000000)(hs:∀y∈l,BS.Ig y.Bb):
  ∃h' JI,BG cx 226 [Pt a 0,I x,v] h (I 0) h'/\RA h' a n i JI (A.JF x l)/\DC h (JJ a n i) h' (JJ a n i):=by
 have e:=aCj hv hb hs h;obtain⟨u,r2,hu⟩:=aCk hv hb h;obtain⟨h1,c,w1,b,_⟩:=w.wr hx (k:=6) AP (v:=u) (AU.cells hu) (p:=⟨{A.nd x with Av:=Cw l},(pR ps x).kv,u,w.Nl hx,hu⟩) (by simp only[RN.row];rw[(w.pn hx).2];rfl);refine⟨h1,_,?_,w1,b⟩;rw[Ae,Ŕ];simp only[abS,(Ij (x:=x) w).Ab,Al hx,w.nodes,w.addr hx,w.f0 hx,hk,B7,e.Ab,r2.Ab,BK,c]
def aJu(p:RN)(h:Ai):BG cx 314 [.agg p.row] h (.bool (decide (gA p.x))) h:=by rw[Ae,ŧ,RN.row];simp only[BE,gA];refine⟨λh1=>⟨λh2=>?_,λh2=>?_⟩,λh1=>?_⟩<;>simp[*]
def RA.aCl(w:RA h a n i ps A)(hx:A.has x):A7 h (some 13) (Pt n (nR x))=some (.agg (pR ps x).row):=by
 obtain⟨h1,h2⟩:=w.at hx;have hlt:x.toNat<(RN.z::ps).length:=by simpa using h1
 have:=cX (K_ _) w.hn (i:=x.toNat) (by simpa using h1);rw[C0] at this;have e:=(w.pn hx).1;rw[Ap hlt,BC] at e;rw[e] at this;exact this
def aCm{v:Aa}{l:List A5}{sp:Int}{nm:Aj}(w:RA h a n i ps A)(hl:A.len+3<=1000000000)(hd:A.has d)(hk:(A.nd d).kind=1)(hs:BS.Ig sp)(hv:Bi l v)(hb:l.length<=1000000000)(t_:∀y∈l,BS.Ig y.Bb):
  ∃h' n' C JI,BG cx 165 [Pt a 0,I d,I sp,.str nm,v] h (.tuple [I (A.len+1),I 0]) h'/\RA h' a n' C JI (A.elem d sp nm l)/\DC h (JJ a n i) h' (JJ a n' C):=by
 have z:=aCj hv hb t_ h;obtain⟨u,r2,hu⟩:=aCk hv hb h;have g:u.cells=[u]:=AU.cells hu;obtain⟨h1,N,i1,m,w1,s⟩:=gr w Ac ⟨{kind:=4,CG:=d,Bb:=sp,name:=nm,Av:=Cw l},.slnil,u,.inr ⟨rfl,rfl⟩,hu⟩;have B:∀{Q:HO} {h:Ai} {kk:Aa->IT},W cx (.B6 207 [I sp] kk) Q h↔W cx (kk (.bool (decide (BS.Ig sp)))) Q h:=(gq _).B6 rfl rfl;have ND:(A.add {kind:=4,CG:=d,Bb:=sp,name:=nm,Av:=Cw l}).has (A.len+1):=DP.2 (.inr rfl);have gE:(A.add {kind:=4,CG:=d,Bb:=sp,name:=nm,Av:=Cw l}).has d:=DP.2 (.inl hd);have WM:(A.add {kind:=4,CG:=d,Bb:=sp,name:=nm,Av:=Cw l}).len=A.len+1:=by unfold Ar.add Ar.len;simp
 have f:=aJu (pR (ps++[⟨{kind:=4,CG:=d,Bb:=sp,name:=nm,Av:=Cw l},.slnil,u,.inr ⟨rfl,rfl⟩,hu⟩]) (A.len+1)) h1;rw[(w1.pn ND).2,IU,Af rfl] at f;have ld:=w1.aCl ND;rw[RN.row] at m;unfold Ar.elem;simp only
 by_cases j:gA {kind:=4,CG:=d,Bb:=sp,name:=nm,Av:=Cw l};rotate_left;.rw[Ad j];rw[Ah j] at f;refine⟨h1,N,i1,_,?_,w1,s⟩;rw[Ae,bq];simp only[abS,Nat.reduceLeDiff,↓reduceIte,AT,(gu w hd hk).Ab,B7,B,Al hs,z.Ab,r2.Ab,g,m.Ab,w1.nodes,w1.addr ND,ld,f.Ab]
 .rw[Af j];rw[Al j] at f;generalize q:A.add {kind:=4,CG:=d,Bb:=sp,name:=nm,Av:=Cw l}=b at*;generalize ps++[(⟨{kind:=4,CG:=d,Bb:=sp,name:=nm,Av:=Cw l},.slnil,u,.inr ⟨rfl,rfl⟩,hu⟩:RN)]=nF at*;obtain⟨h2,P,R,wZ,L,J,F⟩:=aJs w1 Ac gE;have bU:(b.Dn d).len<=A.len+2:=by
   unfold Ar.Dn;split;.omega
   .rw[Tk,Tk];have:(b.add {kind:=1,CG:=b.len+1}).len=b.len+1:=by unfold Ar.add Ar.len;simp
    omega
  have TY:(b.Dn d).has (A.len+1):=by
   unfold Ar.Dn;split;.exact ND
   .rw[Oj,Oj];exact DP.2 (.inl ND)
  obtain⟨S,M,i3,t,e,E⟩:=gr J Ac ⟨{kind:=2,Eo:=A.len+1,CG:=b.Fz d},.slnil,.slnil,.inr ⟨rfl,rfl⟩,.inr ⟨rfl,rfl⟩⟩;have c:((b.Dn d).add {kind:=2,Eo:=A.len+1,CG:=b.Fz d}).has (A.len+1):=DP.2 (.inl TY);have aEZ:((b.Dn d).add {kind:=2,Eo:=A.len+1,CG:=b.Fz d}).nd (A.len+1)={kind:=4,CG:=d,Bb:=sp,name:=nm,Av:=Cw l}:=by
   have Er:=TY.2;rw[IU,Ad (by unfold Ar.len at Er⊢;omega)];have h0:b.nd (A.len+1)={kind:=4,CG:=d,Bb:=sp,name:=nm,Av:=Cw l}:=by rw[<-q,IU,Af rfl]
   unfold Ar.Dn;split;.exact h0
   .rw[Tl,Tl,IU,Ad Ac];exact h0
  have aO:=(e.pn c).2;rw[aEZ] at aO;obtain⟨O,K,H,D,_⟩:=e.wr c (k:=11) AP (v:= I ((b.Dn d).len+1)) rfl (p:=⟨{kind:=4,CG:=d,Bb:=sp,name:=nm,Av:=Cw l,cont:=(b.Dn d).len+1},(pR _ (A.len+1)).kv,(pR _ (A.len+1)).av,by have:=e.Nl c;rw[aEZ] at this;exact this,by have:=e.ze c;rw[aEZ] at this;exact this⟩) (by simp only[RN.row];rw[aO];rfl);refine⟨O,M,i3,_,?_,H,((s.trans F).trans E).trans D⟩;rw[RN.row] at t;have o:=e.nodes;have r:=e.addr c;rw[Ae,bq];simp only[abS,Nat.reduceLeDiff,↓reduceIte,AT,(gu w hd hk).Ab,B7,B,Al hs,z.Ab,r2.Ab,g,m.Ab,w1.nodes,w1.addr ND,ld,f.Ab,L.Ab,t.Ab,o,r,K]
end
structure RX(h:Ai)(bi a:Nat)(o c t:Aa)(G:Nat->Prop)(b:BS):Prop where
 hb:h[bi]?=some (.cells (Ju a b o c t))
 o:BZ b.AQ o
 t:DX b.tm t
 w:RW h G a b.a
 nb:¬G bi
section
variable{h h':Ai}{bi a:Nat}{o c t:Aa}{G G' F:Nat->Prop}{b:BS}{x:Int}{m:Nat}
def RX.lt(w:RX h bi a o c t G b):bi<h.length:=(An.1 w.hb).1
def RX.Dl{h':Ai}(w:RX h bi a o c t G b)(hf:∀i,i=bi\/G i->h'[i]?=h[i]?):RX h' bi a o c t G b:=
 ⟨by rw[hf bi (.inl rfl)];exact w.hb,w.o,w.t,w.w.Dl λi hi=>hf i (.inr hi),w.nb⟩
def RX.HQ(w:RX h bi a o c t G b){u:Ai}:RX (h++u) bi a o c t G b:=w.Dl λi hi=>Ak (by rcases hi with rfl|hi;exact w.lt;exact w.w.lt hi)
def RX.ld(w:RX h bi a o c t G b)(k:Nat):A7 h none (Pt bi k)=(Ju a b o c t)[k]?:=by simp only[A7,w.hb,E8]
def RX.l0(w:RX h bi a o c t G b):A7 h none (Pt bi 0)=some (Pt a 0):=w.ld 0
def RX.l1(w:RX h bi a o c t G b):A7 h none (Pt bi 1)=some (I b.CG):=w.ld 1
def RX.l4(w:RX h bi a o c t G b):A7 h none (Pt bi 4)=some (I b.mode):=w.ld 4
def RX.l7(w:RX h bi a o c t G b):A7 h none (Pt bi 7)=some (I b.head):=w.ld 7
def RX.l9(w:RX h bi a o c t G b):A7 h none (Pt bi 9)=some (.bool b.Mo):=w.ld 9
def RX.ç(w:RX h bi a o c t G b):A7 h none (Pt bi 15)=some (.bool b.EX):=w.ld 15
def RX.l3(w:RX h bi a o c t G b):A7 h none (Pt bi 3)=some c:=w.ld 3
def RX.l6(w:RX h bi a o c t G b):A7 h none (Pt bi 6)=some t:=w.ld 6
def RX.sQ(w:RX h bi a o c t G b):At h bi 3 c:=⟨_,w.hb,rfl⟩
def RX.f_{A':Ar}(w:RX h bi a o c t G b)(hp:RW h' G' a A')(x:DC h G h' G'):RX h' bi a o c t G' {b with a:=A'}/\DC h (Bs bi G) h' (Bs bi G'):=
 ⟨⟨by rw[x.old bi w.lt w.nb];exact w.hb,w.o,w.t,hp,λhg=>by rcases x.Bs bi hg with h|h;exact w.nb h;have:=w.lt;omega⟩,x.aB7⟩
def RX.C2(w:RX h bi a o c t G b){u:Ai}:DC h (Bs bi G) (h++u) (Bs bi G):= .HQ
def RX.put{k:Nat}{v o' c' t':Aa}{b':BS}(w:RX h bi a o c t G b)(e:(Ju a b o c t).set k v=Ju a b' o' c' t')(ea:b'.a=b.a)(ho:BZ b'.AQ o')(ht:DX b'.tm t'):RX (Am.put h bi k v) bi a o' c' t' G b':=
 ⟨by rw[Iw w.hb,e];exact AO w.lt,ho,ht,by rw[ea];exact w.w.Dl λi hi=>Cm λe=>w.nb (e▸hi),w.nb⟩
def RX.HZ{u:Aa}{l:List Item}(w:RX h bi a o c t G b)(hu:BZ l u):RX (Am.put h bi 2 u) bi a u c t G {b with AQ:=l}:=w.put rfl rfl hu w.t
def RX.KE{u:Aa}{l:List Cb}(w:RX h bi a o c t G b):RX (Am.put h bi 3 u) bi a o u t G {b with A6:=l}:=w.put rfl rfl w.o w.t
def RX.st{k:Nat}{v v0:Aa}(w:RX h bi a o c t G b)(hk:(Ju a b o c t)[k]?=some v0)(hv:v.cells=[v]):Cv h 1 (Pt bi k) v=some (Am.put h bi k v):=At.store (v:=v0) ⟨_,w.hb,hk⟩ hv
def RX.aAr(w:RX h bi a o c t G b):A7 h (some 4) (Pt bi 10)=some (.agg b.ctx.row):=by simp only[A7,w.hb];rfl
def RX.rF(w:RX h bi a o c t G b)(v:Int):RX (Am.put h bi 4 (I v)) bi a o c t G {b with mode:=v}:=w.put rfl rfl w.o w.t
def RX.mC{u:Aa}{l:List Int}(w:RX h bi a o c t G b)(hu:DX l u):RX (Am.put h bi 6 u) bi a o c u G {b with tm:=l}:=w.put rfl rfl w.o hu
def RX.step{A':Ar}{R:Ai->Prop}(w:RX h bi a o c t G b)(f:∀n i ps,RA h a n i ps b.a->∃h' n' d JI,R h'/\RA h' a n' d JI A'/\DC h (JJ a n i) h' (JJ a n' d)):
  ∃h' G',R h'/\RX h' bi a o c t G' {b with a:=A'}/\DC h (Bs bi G) h' (Bs bi G'):=by
 obtain⟨n,i,ps,j,e⟩:=w.w;obtain⟨h',n',d,JI,r,w',x⟩:=f n i ps j;obtain⟨k,g⟩:=w.f_ (G':=JJ a n' d) ⟨n',d,JI,w',rfl⟩ (by rw[e];exact x);exact⟨h',_,r,k,g⟩
def MV(w:RX h bi a o c t G b)(x:Int):BG cx 209 [Pt bi 0,I x] h (I (b.a.nd x).kind) h:=by
 obtain⟨n,i,ps,d,e⟩:=w.w;rw[Ae,Ň];by_cases hx:b.a.has x;.simp only[abS,w.l0,(Ij (x:=x) d).Ab,Al hx,d.nodes,d.addr hx,d.f0 hx]
 .rw[HR hx];simp only[abS,w.l0,(Ij (x:=x) d).Ab,Ah hx]
def gx(w:RX h bi a o c t G b)(x:Int):BG cx 214 [Pt bi 0,I x] h (I (if b.a.has x then(b.a.nd x).CG else b.CG)) h:=by
 obtain⟨n,i,ps,d,e⟩:=w.w;rw[Ae,ŋ];by_cases hx:b.a.has x;.rw[Af hx];simp only[abS,w.l0,(Ij (x:=x) d).Ab,Al hx,d.nodes,d.addr hx,d.f3 hx]
 .rw[Ad hx];simp only[abS,w.l0,(Ij (x:=x) d).Ab,Ah hx,w.l1]
def aCn(w:RX h bi a o c t G b)(x:Int)(ws:Aj)(hw:ws.length<9223372036854775806)(hn:(b.a.nd x).name.length<9223372036854775807):BG cx 232 [Pt bi 0,I x,.str ws] h (.bool (decide ((b.a.nd x).kind=4/\(b.a.nd x).Bb=1)&&Gd ws (b.a.nd x).name)) h:=by
 obtain⟨n,i,ps,d,e⟩:=w.w;rw[Ae,Ś];by_cases hk:(b.a.nd x).kind=4
 .have hx:b.a.has x:=by
   by_cases hp:b.a.has x;.exact hp
   .rw[HR hp] at hk;simp at hk
  have r2:∀{Q:HO} {h:Ai} {kk:Aa->IT},W cx (.B6 139 [.str ws,.str (b.a.nd x).name] kk) Q h↔W cx (kk (.bool (Gd ws (b.a.nd x).name))) Q h:=(aHz ws _ hw hn).B6 rfl rfl;by_cases hs:(b.a.nd x).Bb=1;.simp only[abS,(MV w x).Ab,AL hk,w.l0,d.nodes,d.addr hx,d.f4 hx,AL hs,d.f5 hx,r2,Jr]
  .simp only[abS,(MV w x).Ab,AL hk,w.l0,d.nodes,d.addr hx,d.f4 hx,hs,Jr]
 .simp only[abS,(MV w x).Ab,hk,Jr]
def RX.mJ(w:RX h bi a o c t G b)(ok:BA b)(rm:BM b m)(p x bf:Int):∃d h' G',BG cx 129 [Pt a 0,I p,I x,I bf] h (I d) h'/\RX h' bi a o c t G' {b with a:=b.a.F0 p x bf}/\DC h (Bs bi G) h' (Bs bi G'):=by
 have hk:∀y,(b.a.nd y).Bc.length<=900000000:=λy=>Br (Zf ok.ok y) (by have:=rm.n;omega);obtain⟨h',G',⟨d,r⟩,w',x'⟩:=w.step (A':=b.a.F0 p x bf) (R:=λh'=>∃d:Int,BG cx 129 [Pt a 0,I p,I x,I bf] h (I d) h') λn i ps e=>by obtain⟨d,h',JI,r,w',x'⟩:=aJj (p:=p) (x:=x) (b:=bf) e ok.ok hk;exact⟨h',n,i,JI,⟨d,r⟩,w',x'⟩
 exact⟨d,h',G',r,w',x'⟩
def RX.self(w:RX h bi a o c t G b){A':Ar}(e:A'=b.a):RX h bi a o c t G {b with a:=A'}:=by subst e;exact w
def gy(w:RX h bi a o c t G b)(ok:BA b)(rm:BM b m)(p x bf:Int):∃h' G',BG cx 166 [Pt bi 0,I p,I x,I bf] h (.tuple []) h'/\RX h' bi a o c t G' {b with a:=b.a.Es x p bf}/\DC h (Bs bi G) h' (Bs bi G'):=by
 obtain⟨s,h1,l,g,w1,f⟩:=w.mJ ok rm p x bf;by_cases hp:(b.a.nd p).kind=1;rotate_left
 .have e:b.a.Es x p bf=b.a.F0 p x bf:=by unfold Ar.Es;rw[Ad λh=>hp h.1]
  refine⟨h1,l,?_,by rw[e];exact w1,f⟩;rw[Ae,iH];simp only[abS,(MV w p).Ab,hp,w.l0,g.Ab]
 by_cases hx:(b.a.nd x).kind=4;rotate_left
 .have e:b.a.Es x p bf=b.a.F0 p x bf:=by unfold Ar.Es;rw[Ad λh=>hx h.2.1]
  refine⟨h1,l,?_,by rw[e];exact w1,f⟩;rw[Ae,iH];simp only[abS,(MV w p).Ab,AL hp,(MV w x).Ab,hx,w.l0,g.Ab]
 have QF:(b.a.nd p).Bc.length<=1000000000:=Br (Zf ok.ok p) (by have:=rm.n;omega);obtain⟨kv,r2,fy⟩:∃v,BG cx 212 [Pt a 0,I p] h v h/\DX (b.a.nd p).Bc v:=by obtain⟨n,i,ps,q,_⟩:=w.w;exact L_ q QF
 have I9:Ev cx 166 [Pt bi 0,I p,I x,I bf] h λr h'=>r= .tuple []/\∃G',RX h' bi a o c t G' {b with a:=b.a.Es x p bf}/\DC h (Bs bi G) h' (Bs bi G'):=by
  unfold Ev;have hvl:=AU.CN fy;rw[iH];simp only[abS,(MV w p).Ab,AL hp,(MV w x).Ab,AL hx,w.l0,r2.Ab];refine Bm (λk:Nat=>[I (k:Int)]) (λk h1=>k<=(b.a.nd p).Bc.length/\(∀y∈(b.a.nd p).Bc.take k,¬(b.a.nd y).kind=4)/\h1=h) (λk=>(b.a.nd p).Bc.length-k) 0 rfl ⟨AY _,λy hy=>by simp at hy,rfl⟩ ?_;rintro k h2 ⟨hk,ha,rfl⟩;rcases AR k (b.a.nd p).Bc.length with hlt|Eh
  .have j:=AU.BL (k:= .i64) fy hlt;rw[B8] at j;by_cases d:(b.a.nd (b.a.nd p).Bc[k]).kind=4
   .have e:b.a.Es x p bf=b.a:=by unfold Ar.Es;rw[Af ⟨hp,hx,_,AN hlt,d⟩]
    simp only[abS,hvl,(Ac:(k:Int)<((b.a.nd p).Bc.length:Int)),j,(MV w _).Ab,AL d];exact⟨_,rfl,rfl,G,w.self e,.refl⟩
   .simp only[abS,hvl,(Ac:(k:Int)<((b.a.nd p).Bc.length:Int)),j,(MV w _).Ab,d,BN (Ac:k<9223372036854775807)];refine AK.next (k+1) rfl ⟨hlt,λy hy=>?_,rfl⟩ Ac;rw[AB hlt] at hy;rcases Ay.1 hy with hy|hy
    .exact ha y hy
    .rw[BP] at hy;rw[hy];exact d
  .rw[AF Eh] at ha;have e:b.a.Es x p bf=b.a.F0 p x bf:=by unfold Ar.Es;rw[Ad λh=>by obtain⟨_,_,y,hy,d⟩:=h;exact ha y hy d]
   simp only[abS,hvl,(Ac:¬(k:Int)<((b.a.nd p).Bc.length:Int)),w.l0,g.Ab];exact⟨_,rfl,rfl,l,by rw[e];exact w1,f⟩
 obtain⟨r,h',hr,rfl,G',w',x'⟩:=I9.ret;exact⟨h',G',hr,w',x'⟩
def aJv{v:Aa}{l:List Int}(hv:DX l v)(hb:l.length<=1000000000)(x:Int)(h:Ai):BG cx 213 [v,I x] h (I (Co (λy=>decide (x=y)) 0 l)) h:=by
 rw[Ae,Ŋ];have hvl:=AU.CN hv;refine Bm (λk:Nat=>[I 0,I (k:Int)]) (λk h1=>k<=l.length/\Co (λy=>decide (x=y)) 0 l=Co (λy=>decide (x=y)) k (l.drop k)/\h1=h) (λk=>l.length-k) 0 rfl ⟨AY _,rfl,rfl⟩ ?_;rintro k h1 ⟨hk,ha,rfl⟩;rcases AR k l.length with hlt|Eh
 .have d:=AU.BL (k:= .i64) hv hlt;rw[B8] at d;rw[AG hlt,Co] at ha;simp only[abS,hvl,(Ac:(k:Int)<(l.length:Int)),d,BN (Ac:k<9223372036854775807)];refine⟨λh2=>?_,λh2=>?_⟩;.rw[ha,Af (by simp[h2])]
  .rw[Ad (by simpa using λe=>h2 e.symm)] at ha;exact AK.next (k+1) rfl ⟨hlt,ha,rfl⟩ Ac
 .rw[AZ Eh,Co] at ha;simp only[abS,hvl,(Ac:¬(k:Int)<(l.length:Int)),ha]
def M_(w:RX h bi a o c t G b)(x:Int):BG cx 411 [Pt a 0,I x] h (I (b.a.nd x).FV) h:=by obtain⟨n,i,ps,d,_⟩:=w.w;exact aJc d
def N_(w:RX h bi a o c t G b)(rm:BM b m):BG cx 221 [Pt bi 0] h (.agg (Fy b.AQ).row) h:=by have ho:=rm.AQ;have ld:A7 h none (Pt bi 2)=some o:=w.ld 2;rw[Ae,ő];simp only[BE,E9,ld,(aM0 w.o Ac).Ab]
def aJw(w:RX h bi a o c t G b)(rm:BM b m):BG cx 348 [Pt bi 0] h (.tuple [I b.Ko.1,I b.Ko.2]) h:=by
 have hl:=rm.AQ;have ld:A7 h none (Pt bi 2)=some o:=w.ld 2;have f:=aAb (h:=h) w.o Ac Fa;have r2:=aAb (h:=h) w.o Ac AM;have b1:=Lh (q:=Bw [Fa]) (l:=b.AQ);have b2:=Lh (q:=Bw [AM]) (l:=b.AQ);have at_:∀k:Nat,k<b.AQ.length->AD (.Ff 4) [o,I (k:Int)]=some (.CI [I (EI b.AQ k).node,I (EI b.AQ k).Bb,.str (EI b.AQ k).name,.bool (EI b.AQ k).Og]):=λk hk=>by have:=AU.BL (k:= .i64) w.o hk;rw[HE hk,this];rfl
 unfold BS.Ko;simp only
 generalize AV (Bw [Fa]) b.AQ=i at f b1⊢;generalize AV (Bw [AM]) b.AQ=d at r2 b2⊢;rw[Ae,ũ];by_cases h1:i<d;.obtain⟨k,rfl⟩:∃k:Nat,d=(k:Int):=⟨d.toNat,Ac⟩;rw[Af h1];simp only[abS,ld,r2.Ab,BK,f.Ab,(Ac:(0:Int)<=(k:Int)),h1,A0,at_ k Ac,Jr]
 .rw[Ad h1];by_cases h2:i<0;.rw[Af h2];by_cases h0:(0:Int)<=d<;>simp only[abS,E9,r2.Ab,BK,f.Ab,h0,h1,A0,Jr,h2,ld,(aHJ (h:=h) w.o 0).Ab]
  .obtain⟨k,rfl⟩:∃k:Nat,i=(k:Int):=⟨i.toNat,Ac⟩;rw[Ad h2];by_cases g:(b.a.nd (EI b.AQ k).node).FV=0
   .rw[Ad (by simpa using g)];by_cases j:k=0
    .have e:max ((k:Int)-1) 0=(k:Int):=by omega
     by_cases h0:(0:Int)<=d<;>simp only[abS,E9,r2.Ab,BK,f.Ab,h0,h1,A0,Jr,(Ac:¬(k:Int)<0),ld,at_ k Ac,w.l0,(M_ w _).Ab,g,B7,AL (Ac:(k:Int)=0),e]
    .have hd:=Iv (n:=k) Ac Ac;have e:max ((k:Int)-1) 0=((k-1:Nat):Int):=Ac;by_cases h0:(0:Int)<=d<;>simp only[abS,E9,r2.Ab,BK,f.Ab,h0,h1,A0,Jr,(Ac:¬(k:Int)<0),ld,at_ k Ac,w.l0,(M_ w _).Ab,g,B7,(Ac:¬(k:Int)=0),hd,at_ (k-1) Ac,e]
   .rw[Af g];by_cases h0:(0:Int)<=d<;>simp only[abS,E9,r2.Ab,BK,f.Ab,h0,h1,A0,Jr,h2,ld,at_ k Ac,w.l0,(M_ w _).Ab,g,B7]
end
def O_{s:Aj}:Gd aVy s=decide (s∈HW):=D9 CA CA
def aAM{s:Aj}:Gd aVg s=decide (s∈[AM]):=D9 CA CA
def dI{A:Ar}{y:Int}{ws:List Aj}{q:Bool}(hq:q=decide ((A.nd y).name∈ws)):(decide ((A.nd y).kind=4/\(A.nd y).Bb=1)&&q)=decide (Tn ws A y):=by subst hq;rw[<-Bool.decide_and];rw[Dd];unfold Tn;exact⟨λh=>⟨h.1.1,h.1.2,h.2⟩,λh=>⟨⟨h.1,h.2.1⟩,h.2.2⟩⟩
def LX{A:Ar}(ok:EM A 0)(y:Int):(A.nd y).cont≠0↔Tn [AM] A y:=by
 by_cases hy:A.has y
 .constructor;.intro h;have:=(ok.Tm y hy).VC h;exact⟨this.1,this.2.1,by rw[this.2.2];simp⟩
  .intro h;exact ok.gC y hy (by have:=hy.1;omega) ⟨h.1,h.2.1,by simpa using h.2.2⟩
 .rw[HR hy];constructor;.intro h;simp at h
  .intro h;have:=h.1;rw[HR hy] at this;simp at this
section
variable{h h':Ai}{bi a:Nat}{o c t:Aa}{G G' F:Nat->Prop}{b:BS}{x:Int}{m:Nat}
def aJx(w:RX h bi a o c t G b)(hnm:∀x,(b.a.nd x).name.length<=1000)(x:Int):BG cx 232 [Pt bi 0,I x,S aVy] h (.bool (decide (Tn HW b.a x))) h:=by have:=aCn w x aVy AP (by have:=hnm x;omega);rwa [dI O_] at this
def aCo(w:RX h bi a o c t G b)(hnm:∀x,(b.a.nd x).name.length<=1000)(x:Int):BG cx 232 [Pt bi 0,I x,S aVg] h (.bool (decide (Tn [AM] b.a x))) h:=by have:=aCn w x aVg AP (by have:=hnm x;omega);rwa [dI aAM] at this
def gz(w:RX h bi a o c t G b)(ok:BA b)(rm:BM b m)(hnm:∀x,(b.a.nd x).name.length<=1000)(x:Int):BG cx 208 [Pt bi 0,I x] h (.tuple [I (b.place x).1,I (b.place x).2]) h:=by
 have ho:=rm.AQ;have ld:A7 h none (Pt bi 2)=some o:=w.ld 2;have lo:=AU.CN w.o;have p:=N_ w rm;have r2:=aJw w rm;obtain⟨n,i,ps,f,_⟩:=w.w;rw[Ae,ņ];by_cases he:x=0/\b.AQ=[]
 .have e:b.place x=(b.CG,0):=by unfold BS.place;rw[Af he]
  have q:AD (.len false) [o]=some (I 0):=by rw[lo,he.2];rfl
  rw[e];simp only[abS,AL he.1,ld,q,w.l1,A0]
 obtain⟨t',Gs⟩:∃t',t'=if x=0 then(Fy b.AQ).node else x:=⟨_,rfl⟩
 obtain⟨pb,cN⟩:∃pb:Int×Int,pb=if b.EX=true/\Tn HW b.a t' then b.Ko else(t',0):=⟨_,rfl⟩
 have e:b.place x=if(b.a.nd pb.1).cont≠0 then((b.a.nd pb.1).cont,0) else pb:=by unfold BS.place;rw[Ad he];simp only;rw[<-Gs,<-cN]
 have k:=aJx w hnm t';have d:=aCo w hnm pb.1;have TM:=w.ç;have oL:x=0->¬(b.AQ.length:Int)=0:=λh0 h1=>he ⟨h0,Mg.1 Ac⟩;rw[e];cases l:b.EX with
 |false=>
  rw[l] at TM;rw[Ad (by rw[l];intro h;exact absurd h.1 AP)] at cN;subst cN;simp only at d⊢;by_cases g:Tn [AM] b.a t'
  .have hc:=(LX ok.ok t').2 g;have j:b.a.has t':=by
    by_cases hp:b.a.has t';.exact hp
    .have:=g.1;rw[HR hp] at this;simp at this
   rw[Al g] at d;rw[Af hc];by_cases Ob:x=0;.rw[Af Ob] at Gs;subst Gs;simp only[abS,E9,AL Ob,ld,lo,oL Ob,p.Ab,A0,TM,d.Ab,w.l0,f.nodes,f.addr j,f.f11 j]
   .rw[Ad Ob] at Gs;subst Gs;simp only[abS,Ob,A0,TM,d.Ab,w.l0,f.nodes,f.addr j,f.f11 j]
  .have hc:=λh=>g ((LX ok.ok t').1 h);rw[Ah g] at d;rw[Ad hc];by_cases Ob:x=0;.rw[Af Ob] at Gs;subst Gs;simp only[abS,E9,AL Ob,ld,lo,oL Ob,p.Ab,A0,TM,d.Ab]
   .rw[Ad Ob] at Gs;subst Gs;simp only[abS,Ob,A0,TM,d.Ab]
 |true=>
  rw[l] at TM;by_cases hw:Tn HW b.a t'
  .rw[Af ⟨l,hw⟩] at cN;subst cN;rw[Al hw] at k;by_cases g:Tn [AM] b.a b.Ko.1
   .have hc:=(LX ok.ok b.Ko.1).2 g;have j:b.a.has b.Ko.1:=by
     by_cases hp:b.a.has b.Ko.1;.exact hp
     .have:=g.1;rw[HR hp] at this;simp at this
    rw[Al g] at d;rw[Af hc];by_cases Ob:x=0;.rw[Af Ob] at Gs;subst Gs;simp only[abS,E9,AL Ob,ld,lo,oL Ob,p.Ab,A0,TM,k.Ab,r2.Ab,d.Ab,w.l0,f.nodes,f.addr j,f.f11 j]
    .rw[Ad Ob] at Gs;subst Gs;simp only[abS,Ob,A0,TM,k.Ab,r2.Ab,d.Ab,w.l0,f.nodes,f.addr j,f.f11 j]
   .have hc:=λh=>g ((LX ok.ok b.Ko.1).1 h);rw[Ah g] at d;rw[Ad hc];by_cases Ob:x=0;.rw[Af Ob] at Gs;subst Gs;simp only[abS,E9,AL Ob,ld,lo,oL Ob,p.Ab,A0,TM,k.Ab,r2.Ab,d.Ab]
    .rw[Ad Ob] at Gs;subst Gs;simp only[abS,Ob,A0,TM,k.Ab,r2.Ab,d.Ab]
  .rw[Ad (λh=>hw h.2)] at cN;subst cN;rw[Ah hw] at k;simp only at d⊢;by_cases g:Tn [AM] b.a t'
   .have hc:=(LX ok.ok t').2 g;have j:b.a.has t':=by
     by_cases hp:b.a.has t';.exact hp
     .have:=g.1;rw[HR hp] at this;simp at this
    rw[Al g] at d;rw[Af hc];by_cases Ob:x=0;.rw[Af Ob] at Gs;subst Gs;simp only[abS,E9,AL Ob,ld,lo,oL Ob,p.Ab,A0,TM,k.Ab,d.Ab,w.l0,f.nodes,f.addr j,f.f11 j]
    .rw[Ad Ob] at Gs;subst Gs;simp only[abS,Ob,A0,TM,k.Ab,d.Ab,w.l0,f.nodes,f.addr j,f.f11 j]
   .have hc:=λh=>g ((LX ok.ok t').1 h);rw[Ah g] at d;rw[Ad hc];by_cases Ob:x=0;.rw[Af Ob] at Gs;subst Gs;simp only[abS,E9,AL Ob,ld,lo,oL Ob,p.Ab,A0,TM,k.Ab,d.Ab]
    .rw[Ad Ob] at Gs;subst Gs;simp only[abS,Ob,A0,TM,k.Ab,d.Ab]
end
def Nm(A:Ar):Prop:=∀x,(A.nd x).name.length<=1000
section
variable{A A':Ar}{b:BS}{q:rP}{m j:Nat}{nm:Aj}{l:List A5}{sp p x:Int}
def Nm.le(h:Nm A)(hl:Le A A')(hn:A'.n.length=A.n.length):Nm A':=λy=>by
 by_cases hy:A.has y;.rw[hl.name y hy];exact h y
 .have:¬A'.has y:=by unfold Ar.has at hy⊢;rw[hn];exact hy
  rw[HR this];simp
def Nm.add(h:Nm A){y:EW}(hy:y.name.length<=1000):Nm (A.add y):=λx=>by
 rw[IU];split;.exact hy
 .exact h x
def Nm.set(h:Nm A){y:EW}{k:Int}(hy:y.name.length<=1000):Nm (A.set k y):=λx=>by
 rw[J2];split;.exact hy
 .exact h x
def Nm.Je(h:Nm A){k v:Int}:Nm (A.Je k v):=λx=>by rw[Tl];exact h x
def Nm.F0(h:Nm A){bf:Int}:Nm (A.F0 p x bf):=h.le O3 (Ki (A:=A)).n
def Nm.Es(h:Nm A){bf:Int}:Nm (A.Es x p bf):=h.le IE (Kj (A:=A)).n
def Nm.Dn(h:Nm A){d:Int}:Nm (A.Dn d):=by
 unfold Ar.Dn;split;.exact h
 .exact(h.add AH).Je.Je
def Nm.elem(h:Nm A){d:Int}(hn:nm.length<=1000):Nm (A.elem d sp nm l):=by
 have h1:Nm (A.add {kind:=4,CG:=d,Bb:=sp,name:=nm,Av:=Cw l}):=h.add hn;unfold Ar.elem;simp only
 split;.exact(h1.Dn.add AH).set hn
 .exact h1
def Nm.mk(h:Nm b.a)(hn:nm.length<=1000):Nm (b.El nm l sp p).a:=by
 unfold BS.El;split;.exact h.elem (by rw[YW];exact hn)
 .exact h
def Nm.Na(h:Nm b.a)(hn:nm.length<=1000):Nm (b.Ej nm l sp).a:=by
 unfold BS.Ej;split;.exact(h.mk hn).Es
 .exact h
def Nm.L5(h:Nm A){s:Aj}{bf:Int}:Nm (BS.L5 A s p bf):=by
 unfold BS.L5;split
 .split
  .split;.exact h.set (h _)
   .exact(h.add AH).Es
  .exact(h.add AH).Es
 .exact h
def Nm.E4(h:Nm A){s:Aj}{bf:Int}:Nm (BS.E4 A s p bf):=by
 unfold BS.E4;split;.exact(h.add AH).Es
 .exact h
def Nm.JG:∀{l:List Cb} {b:BS},Nm b.a->(∀e∈l,e.name.length<=1000)->Nm (BS.JG l b).2.a
 |[],b,h,_=>h
 |e::l,b,h,hl=>by rw[BS.JG];exact Nm.JG (h.Na (hl e AH)) λx hx=>hl x (by simp[hx])
def Nm.EL(h:Nm b.a):Nm (b.EL l x).a:=by
 unfold BS.EL;split;.exact h.set (h _)
 .exact h
def Nm.Fs{blk anc:Int}{far i:Nat}{l:Int}{mk:Nat}(h:Nm b.a)(r:BM b m):Nm (BS.Fs blk anc far i b l mk).1.a:=by
 unfold BS.Fs;simp only
 split;.exact h
 .split;.exact h
  .rename_i he _;obtain⟨p,hp,c,_,_,_⟩:=HJ (JA.1 he);rw[c,AX,AJ,Ap hp,Gg];exact(h.mk (r.DB _ (AN hp)).1).F0
def Nm.KV{blk anc:Int}{far k m:Nat}:∀{c:Nat} {s:BS×Int×Nat},Nm s.1.a->BM s.1 (m+4*c)->Nm (BS.KV blk anc far k c s).1.a
 |0,s,h,_=>h
 |c+1,s,h,r=>Nm.KV (c:=c) (h.Fs r) (Pb (m:=m+4*c) (r.le Ac))
def Nm.CB{n:Int}:∀{l:List Int} {A:Ar},Nm A->Nm (BS.CB A n l)
 |[],A,h=>h
 |y::l,A,h=>Nm.CB (l:=l) (h.F0 (p:=n) (x:=y) (bf:=0))
def Nm.GP{fe:Cb}{blk anc:Int}{s:BS×Int×Nat}(h:Nm s.1.a)(KX:fe.name.length<=1000):Nm (BS.GP fe blk anc s).a:=by
 unfold BS.GP;simp only
 generalize cN:s.1.place anc=pb;have h2:Nm (s.1.a.Es s.2.1 pb.1 pb.2):=h.Es;have c:=Nm.mk (b:={s.1 with a:=s.1.a.Es s.2.1 pb.1 pb.2}) (nm:=fe.name) (l:=fe.Av) (sp:=1) (p:=blk) h2 KX;exact(Nm.CB c).F0
def Nm.round(h:Nm b.a)(r:BM b (m+4*b.AQ.length+10)):Nm (b.round nm).2.a:=by
 unfold BS.round;simp only
 split
 .have:(b.Du nm).a=b.a:=by
   unfold BS.Du;split;.split<;>rfl
   .rfl
  rw[this];exact h
 .rename_i hf;obtain⟨f,Hu,c⟩:=TI (JA.1 hf);have Xo:b.A6.getD (GL nm b.A6).toNat Cb.zero=b.A6[f]:=by rw[c,AX,AJ,Ap Hu];rfl
  have KX:=r.DB _ (AN Hu);rw[Xo];split;.exact h
  .split;.exact h
   .split;.exact h
    .have hlt:(D2 b.A6[f].node b.AQ).toNat-1 -(AV (Bz b.A6[f].node) b.AQ).toNat<=b.AQ.length:=by
      rw[IS];split;.omega
      .unfold E2;split;.rename_i j hj;have:=(EK.1 hj).1;rw[Be] at this;omega
       .omega
     exact Nm.GP (Nm.KV (m:=m) h (r.le Ac)) KX.1
def Nm.Eg:∀{n:Nat} {b:BS} {k:Nat},Nm b.a->b.AQ.length<=k->BM b (m+n*(4*(k+n)+10))->Nm (BS.Eg n b nm).a
 |0,b,k,h,hk,r=>h
 |n+1,b,k,h,hk,r=>by
  have e:(n+1)*(4*(k+(n+1))+10)=n*(4*(k+1+n)+10)+(4*(k+(n+1))+10):=by rw[BI,D6,(Ac:k+(n+1)=k+1+n)]
  rw[e] at r;have h1:=Pc (m:=m+n*(4*(k+1+n)+10)) (r.le Ac) nm;have h2:=h.round (m:=m+n*(4*(k+1+n)+10)) (nm:=nm) (r.le Ac);unfold BS.Eg;simp only
  split;.exact Nm.Eg (n:=n) (k:=k+1) h2 Ac h1.1
  .exact h2
def aE0(h:Nm b.a)(sz:Sz b (j+1))(hq:ou q):Nm (Zl b q).1.a:=Zm (P:=λr=>Nm r.1.a)
 (h.Na hq.name)
 (h.Na hq.name)
 (Nm.Na (b:=b) (sp:=1) (l:=q.Av) h hq.name)
 (h.L5)
 (by
  dsimp only;unfold BS.Fc;split;.exact h.E4
  .exact h.E4)
 (Nm.Na (b:=b) (sp:=1) (l:=q.Av) h hq.name)
 (by
  dsimp only;unfold BS.J3;split;.exact h
  .exact h)
 (Nm.JG h λe he=>(sz.rm.DB e (BD he)).1)
 (by
  dsimp only;unfold BS.Du;split
  .split;.exact h
   .exact h
  .exact h)
 (by
  dsimp only;unfold BS.Iy;split
  .unfold BS.Jt;split;.exact h
   .exact h
  .exact Nm.Eg (n:=8) (k:=b.AQ.length) (m:=5000000*j) h (Ag _) (sz.rm.le (by have:=sz.AQ;omega)))
 h
 (h.EL)
 (by
  dsimp only;unfold BS.Cy;split;.exact h
  .exact h)
 h
 h
 h
 h
 (by
  dsimp only;unfold BS.Jt;split;.exact h
  .exact h)
 h
 h
 h
 h
 h
 (h.mk hq.name)
 h
def g_(q:Bool):Nm (DA q).a:=λx=>by rw[Pe];split<;>simp
def P_(s:EZ):Nm s.b.a:=by
 have d:Nm (Jn s.Bb s.name s.Av s.CL).a:=((g_ s.CL).mk (nm:=DI) AP).Es;have c:Nm (Me s.Bb s.name s.Av s.CL).a:=by unfold Me;split<;>exact d
 unfold EZ.b UI;split
 .split;.exact c
  .exact c
 .exact g_ _
end
section
variable{h h':Ai}{bi a:Nat}{o c t:Aa}{G G' F:Nat->Prop}{b:BS}{x:Int}{m:Nat}
variable{nm:Aj}{av:Aa}{l:List A5}{r:List Aa}{sp p:Int}
def aE1(ok:BA b)(y:Int):(if b.a.has y then(b.a.nd y).CG else b.CG)=if(b.a.nd y).CG≠0 then(b.a.nd y).CG else b.CG:=by
 by_cases hy:b.a.has y;.have:=(ok.ok.CG y hy).1.1;rw[Af hy,Af Ac]
 .rw[Ad hy,HR hy,Ad AH]
def aAN(w:RX h bi a o c t G b)(ok:BA b)(rm:BM b (m+3))(hnm:Nm b.a)(hr:Oq nm av r)(hv:Bi l av)(hl:DO l)(hn:nm.length<=1000)(p sp:Int):
  ∃h' G',BG cx 104 [Pt bi 0,.agg r,I sp,I p] h (.agg (b.GG nm l sp).row) h'/\RX h' bi a o c t G' (b.El nm l sp p)/\DC h (Bs bi G) h' (Bs bi G'):=by
 obtain⟨T,P,O,N,M,L,K,J,Wb,Yg,rfl⟩:=hr;have s:∀{Q:HO} {h:Ai} {kk:Aa->IT},W cx (.B6 207 [I sp] kk) Q h↔W cx (kk (.bool (decide (BS.Ig sp)))) Q h:=(gq _).B6 rfl rfl;by_cases hs:BS.Ig sp;rotate_left
 .refine⟨h,G,?_,by unfold BS.El;rw[Ad hs];exact w,.refl⟩;have e:b.GG nm l sp=Item.zero:=by unfold BS.GG;rw[Ad hs]
  rw[e,NM,Ae,a_];simp only[abS,↓reduceIte,AT,s,Ah hs]
 obtain⟨u,v,hu⟩:=aNK (h:=h) hv (λy hy=>(hl.2 y hy).1) hl.1 sp;have hd:=QX ok (p:=p);have B:∀y∈l.map (C6 sp),BS.Ig y.Bb:=by intro y hy;obtain⟨z,_,rfl⟩:=Bn.1 hy;exact gI
 have hlen:(l.map (C6 sp)).length<=1000000000:=by rw[Ao];have:=hl.1;omega
 obtain⟨h',G',j,E,D⟩:=w.step (A':=b.a.elem (b.IV p) sp (BS.IW sp nm) (l.map (C6 sp))) (R:=λh'=>BG cx 165 [Pt a 0,I (b.IV p),I sp,.str (BS.IW sp nm),u] h (.tuple [I (b.a.len+1),I 0]) h') λn i ps f=>by obtain⟨h',n',H,JI,r,wp,C⟩:=aCm (nm:=BS.IW sp nm) f (rm.len Ac) hd.1 hd.2 hs hu hlen B;exact⟨h',n',H,JI,r,wp,C⟩
 have Pn:=YW (sp:=sp) (nm:=nm);have g:=aHF (h:=h') hu (λy hy=>by obtain⟨z,hz,rfl⟩:=Bn.1 hy;rw[cP];have:=(hl.2 z hz).2;have:AW=140737488355328:=rfl;omega) Ac sp (BS.IW sp nm) Ac;have em:AD (.Ch [I 0,I 0,S [],ff] [(0,1),(1,1),(2,1),(3,1)]) [I (b.a.len+1),I sp,.str (BS.IW sp nm),.bool (Fp sp (BS.IW sp nm) (l.map (C6 sp)))]=some (.agg (b.GG nm l sp).row):=by rw[cH];unfold BS.GG;rw[Af hs]
 have q:=aCo w hnm p;refine⟨h',G',?_,by unfold BS.El;rw[Af hs];exact E,D⟩;have dD:=λ(y:Item)=>@Item.CP y;obtain⟨n,i,ps,f,_⟩:=w.w;have key:∀(Q:HO) (kk:DU->List Aa->IT) (p':Int),p'=(if Tn [AM] b.a p then(b.a.nd p).cont else p)->(if b.a.has p' then(b.a.nd p').CG else b.CG)=b.IV p:=by
  intro Q kk p' e;rw[aE1 ok];unfold BS.IV;by_cases d:Tn [AM] b.a p;.rw[Af d] at e;subst e;rw[Af ((LX ok.ok p).2 d)]
  .rw[Ad d] at e;subst e;rw[Ad (λh=>d ((LX ok.ok p').1 h))]
 have key:=key (λ_ _ _=>True) (λ_ _=> .fail);rw[Ae,a_];by_cases d:Tn [AM] b.a p
 .have A:b.a.has p:=by
   by_cases hp:b.a.has p;.exact hp
   .have:=d.1;rw[HR hp] at this;simp at this
  have k:=gx w (b.a.nd p).cont;rw[key _ (Af d).symm] at k;rw[Al d] at q;by_cases h2:sp=2
  .have e:BS.IW sp nm=Cp nm Jb:=by unfold BS.IW;rw[Af h2]
   rw[e] at j g em;simp only[abS,↓reduceIte,AT,E9,s,Al hs,v.Ab,AL h2,(aHC nm).B6 rfl rfl,A0,q.Ab,w.l0,f.nodes,f.addr A,f.f11 A,k.Ab,BK,j.Ab,g.Ab,em,dD]
  .have e:BS.IW sp nm=nm:=by unfold BS.IW;rw[Ad h2]
   rw[e] at j g em;simp only[abS,↓reduceIte,AT,E9,s,Al hs,v.Ab,h2,A0,q.Ab,w.l0,f.nodes,f.addr A,f.f11 A,k.Ab,BK,j.Ab,g.Ab,em,dD]
 .have k:=gx w p;rw[key _ (Ad d).symm] at k;rw[Ah d] at q;by_cases h2:sp=2
  .have e:BS.IW sp nm=Cp nm Jb:=by unfold BS.IW;rw[Af h2]
   rw[e] at j g em;simp only[abS,↓reduceIte,AT,E9,s,Al hs,v.Ab,AL h2,(aHC nm).B6 rfl rfl,A0,q.Ab,w.l0,k.Ab,BK,j.Ab,g.Ab,em,dD]
  .have e:BS.IW sp nm=nm:=by unfold BS.IW;rw[Ad h2]
   rw[e] at j g em;simp only[abS,↓reduceIte,AT,E9,s,Al hs,v.Ab,h2,A0,q.Ab,w.l0,k.Ab,BK,j.Ab,g.Ab,em,dD]
end
section
variable{h h':Ai}{bi a:Nat}{o c t:Aa}{G G' F:Nat->Prop}{b:BS}{x:Int}{m:Nat}
variable{nm:Aj}{av:Aa}{l:List A5}{r:List Aa}{sp p:Int}
def aJy(w:RX h bi a o c t G b)(ok:BA b)(rm:BM b (m+4))(hnm:Nm b.a)(hr:Oq nm av r)(hv:Bi l av)(hl:DO l)(hn:nm.length<=1000)(sp:Int):
  ∃h' o' G',BG cx 87 [Pt bi 0,.agg r,I sp] h (I (b.LP sp)) h'/\RX h' bi a o' c t G' (b.Ej nm l sp)/\DC h (Bs bi G) h' (Bs bi G'):=by
 have bX:AW=140737488355328:=rfl;have ho:=rm.AQ;have g:∀{Q:HO} {h:Ai} {kk:Aa->IT},W cx (.B6 207 [I sp] kk) Q h↔W cx (kk (.bool (decide (BS.Ig sp)))) Q h:=(gq _).B6 rfl rfl;have Gc:=hr;obtain⟨L,K,J,H,E,D,C,B,Wb,Yg,rfl⟩:=hr;by_cases hs:BS.Ig sp;rotate_left
 .refine⟨h,o,G,?_,by unfold BS.Ej;rw[Ad hs];exact w,.refl⟩;have e:b.LP sp=0:=by unfold BS.LP;rw[Ad hs]
  rw[e,Ae,yn];simp only[abS,g,Ah hs]
 have s:=gz w ok rm hnm 0;obtain⟨h1,M,r2,w1,j⟩:=aAN (m:=m+1) w ok (rm.le Ac) hnm Gc hv hl hn (b.place 0).1 sp;have Wo:=vT (nm:=nm) (at_:=l) (p:=(b.place 0).1) ok hs;have xH:=Jf (m:=m+1) (nm:=nm) (sp:=sp) (p:=(b.place 0).1) (rm.le Ac) hl;have Zg:(b.GG nm l sp).node=b.a.len+1:=by unfold BS.GG;rw[Af hs]
 have OB:(b.El nm l sp (b.place 0).1).AQ=b.AQ:=by unfold BS.El;rw[Af hs]
 obtain⟨h2,A,q,d,i⟩:=gy w1 Wo xH (b.place 0).1 (b.GG nm l sp).node (b.place 0).2;have ld:A7 h2 none (Pt bi 2)=some o:=d.ld 2;obtain⟨u,z,hu⟩:=AU.FL (b:=40) d.o (by simp only[OB];omega);have v:=AU.JD (f:=Item.row) (b:=40) (a:=b.GG nm l sp) hu (by simp only[OB];omega);have IG:BZ (({b.El nm l sp (b.place 0).1 with a:=(b.El nm l sp (b.place 0).1).a.Es (b.GG nm l sp).node (b.place 0).1 (b.place 0).2}:BS).AQ++[b.GG nm l sp]) _:=AU.mk;have n:=d.HZ IG;have e:b.LP sp=(b.GG nm l sp).node:=by unfold BS.LP;rw[Af hs,Zg]
 refine⟨_,_,A,?_,by unfold BS.Ej;rw[Af hs];simp only;rw[<-Zg];exact n,(j.trans i).trans Bf⟩;have em:AD (.Dk 4) [.agg (b.GG nm l sp).row]=some (.sl 4 [(b.GG nm l sp).row]):=MM;have dD:=λ(y:Item)=>@Item.CP y;rw[e,Ae,yn];simp only[abS,E9,g,Al hs,s.Ab,r2.Ab,dD,q.Ab,ld,z,em,v,d.st (k:=2) (v0:=o) rfl (AU.cells IG)]
def pd(w:RX h bi a o c t G b)(ok:BA b)(rm:BM b (m+4))(hnm:Nm b.a)(hr:Oq nm av r)(hv:Bi l av)(hl:DO l)(hn:nm.length<=1000):
  ∃h' o' G',BG cx 86 [Pt bi 0,.agg r] h (I (b.a.len+1)) h'/\RX h' bi a o' c t G' (b.Ej nm l 1)/\DC h (Bs bi G) h' (Bs bi G'):=by
 obtain⟨h',o',G',d,w',x'⟩:=aJy w ok rm hnm hr hv hl hn 1;refine⟨h',o',G',?_,w',x'⟩;have e:b.LP 1=b.a.len+1:=by unfold BS.LP;rw[Af J9]
 rw[e] at d;obtain⟨s,q,n,k,j,i,g,f,Wb,Yg,rfl⟩:=hr;rw[Ae,aD9];simp only[BE,d.Ab]
def aOA(w:RX h bi a o c t G b):∃h',BG cx 99 [Pt bi 0] h (.tuple []) h'/\RX h' bi a o c t G {b with stop:=true}/\DC h (Bs bi G) h' (Bs bi G):=by refine⟨_,?_,w.put (k:=19) (v:= .bool true) rfl rfl w.o w.t,Bf⟩;rw[Ae,aEf];simp only[BE,w.st (k:=19) (v:=tt) rfl rfl]
end
section
variable{h h':Ai}{bi a:Nat}{o c t:Aa}{G G' F:Nat->Prop}{b:BS}{x:Int}{m:Nat}
variable{nm:Aj}{av:Aa}{l:List A5}{r:List Aa}{sp p:Int}
def aJz(w:RX h bi a o c t G b)(ok:EB b)(rm:BM b (m+1000))(hr:Oq nm av r)(hv:Bi l av)(hl:DO l)(x:Int):
  ∃h' G',BG cx 97 [Pt bi 0,.agg r,I x] h (.tuple []) h'/\RX h' bi a o c t G' (b.EL l x)/\DC h (Bs bi G) h' (Bs bi G'):=by
 have bX:AW=140737488355328:=rfl;obtain⟨M,L,K,J,H,E,D,C,Wb,Yg,rfl⟩:=hr;by_cases hk:(b.a.nd x).kind=4;rotate_left;.refine⟨h,G,?_,by unfold BS.EL;rw[Ad hk];exact w,.refl⟩;rw[Ae,yr];simp only[abS,↓reduceIte,(MV w x).Ab,hk,B7]
 have hx:b.a.has x:=by
  by_cases hp:b.a.has x;.exact hp
  .rw[HR hp] at hk;simp at hk
 have WC:=rm.at_ x;have tK:=hl.1;obtain⟨n,i,ps,d,_⟩:=w.w;obtain⟨A,e0,g⟩:=AU.FL (b:=40) (d.ze hx) Ac;have I9:Ev cx 97 [Pt bi 0,.agg [M,.str nm,L,K,J,H,E,D,av,C,Wb,Yg],I x] h λr h'=>r= .tuple []/\∃G',RX h' bi a o c t G' (b.EL l x)/\DC h (Bs bi G) h' (Bs bi G'):=by
  unfold Ev;have hvl:=AU.CN hv;rw[yr];simp only[abS,↓reduceIte,(MV w x).Ab,AL hk,B7,w.l0,d.nodes,d.addr hx,d.f6 hx,e0];refine Bm (λs:Aa×Nat=>[s.1,I (s.2:Int)]) (λs h1=>s.2<=l.length/\Bi ((b.a.nd x).Av++BS.plain (l.take s.2)) s.1/\h1=h) (λs=>l.length-s.2) (A,0) rfl ⟨AY _,by simp only[KN,BS.plain,C4,By];exact g,rfl⟩ ?_;rintro⟨u,k⟩ h1 ⟨ZU,hu,rfl⟩;simp only at ZU hu;rcases AR k l.length with hlt|Eh
  .have j:=AU.BL (k:= .i64) hv hlt;rw[A5.row] at j;have em:AD (.Dk 3) [.agg [I 0,.str l[k].name,.str l[k].value]]=some (.sl 3 [[I 0,.str l[k].name,.str l[k].value]]):=rfl;have a1:=AU.JD (f:=A5.row) (b:=40) (a:=⟨0,l[k].name,l[k].value⟩) hu (by rw[Au,BS.plain,Ao,Ax];omega);rw[A5.cW] at a1;have hs:(b.a.nd x).Av++BS.plain (l.take (k+1))=((b.a.nd x).Av++BS.plain (l.take k))++[⟨0,l[k].name,l[k].value⟩]:=by rw[AB hlt,BS.plain,Bu,<-AI];rfl
   simp only[abS,Nat.reduceLeDiff,↓reduceIte,AT,hvl,(Ac:(k:Int)<(l.length:Int)),j,aaS,em,a1,BN (Ac:k<9223372036854775807)];exact AK.next (_,k+1) rfl ⟨hlt,by rw[hs,AI];exact .mk,rfl⟩ Dv
  .have QF:k=l.length:=by omega
   subst QF;rw[Bx] at hu;have hsp:∀y∈(b.a.nd x).Av++BS.plain l,BS.Ig y.Bb:=by
    intro y hy;rcases Ay.1 hy with hy|hy
    .exact(ok.ok.Tm x hx).å y hy
    .obtain⟨z,_,rfl⟩:=Bn.1 hy;exact⟨Dv,Dv⟩
   obtain⟨h2,N,B,v,q⟩:=w.step (A':=b.a.JF x ((b.a.nd x).Av++BS.plain l)) (R:=λh2=>BG cx 226 [Pt a 0,I x,u] h1 (I 0) h2) λn i ps d=>by obtain⟨h',JI,f1,f2,f3⟩:=aJt d hx hk hu (by rw[Au,BS.plain,Ao];omega) hsp;exact⟨h',n,i,JI,f1,f2,f3⟩
   have e:b.EL l x={b with a:=b.a.JF x ((b.a.nd x).Av++BS.plain l)}:=by unfold BS.EL;rw[Af hk]
   simp only[abS,Nat.reduceLeDiff,↓reduceIte,AT,hvl,(Ac:¬(l.length:Int)<(l.length:Int)),w.l0,B.Ab];exact⟨_,rfl,rfl,N,by rw[e];exact v,q⟩
 obtain⟨r,h',hr,rfl,G',w',x'⟩:=I9.ret;exact⟨h',G',hr,w',x'⟩
def aOB(w:RX h bi a o c t G b)(rm:BM b m):
  ∃h' o',BG cx 92 [Pt bi 0] h (.tuple []) h'/\RX h' bi a o' c t G b.J3/\DC h (Bs bi G) h' (Bs bi G):=by
 have ho:=rm.AQ;have hnm:∀i∈b.AQ,i.name.length<9223372036854775807:=λi hi=>by have:=rm.Wg i hi;omega
 have em:AD (.Dk 1) [S [112]]=some (.sl 1 ([wP].map Cu)):=Ea (ws:=[wP]) rfl AP;have ld:A7 h none (Pt bi 2)=some o:=w.ld 2;have e:=aM2 (h:=h) w.o Ac hnm 3 (C1 (ws:=[wP])) AP;by_cases hs:Kn (Bw [wP]) (JZ 3) b.AQ.reverse=true;rotate_left
 .have WB:Kn (Bw [wP]) (JZ 3) b.AQ.reverse=false:=by simpa using hs
  rw[WB] at e;refine⟨h,o,?_,by unfold BS.J3;rw[Ad hs];exact w,.refl⟩;rw[Ae,yp];simp only[BE,ld,em,e.Ab]
 .rw[hs] at e;obtain⟨d,g,r2,Py⟩:=f165 (h:=h) w.o Ac hnm wP false;have w1:=w.HQ (u:=g);have f:=w1.HZ Py;have Ib:EU wP false=EA wP:=by funext a;rfl
  have l1:(DN (EU wP false) CY b.AQ).length<=b.AQ.length:=QS;have j:A7 (put (h++g) bi 2 d) none (Pt bi 2)=some d:=f.ld 2;obtain⟨q,t2,s,IG⟩:=f85 (h:=put (h++g) bi 2 d) Py Ac (C1 (ws:=[wP])) AP;have n:=f.HQ (u:=t2);rw[<-O0] at IG;have p:=n.HZ IG;refine⟨_,q,?_,by unfold BS.J3;rw[Af hs,<-Ib];exact p,((w.C2.trans Bf).trans f.C2).trans Bf⟩;rw[Ae,yp];simp only[BE,ld,em,e.Ab,r2.Ab,w1.st (k:=2) (v0:=o) rfl (AU.cells Py),j,s.Ab,n.st (k:=2) (v0:=d) rfl (AU.cells IG)]
variable{nm:Aj}{av:Aa}{l:List A5}{r:List Aa}
def aJA(w:RX h bi a o c t G b)(ok:BA b)(rm:BM b (m+4))(hnm:Nm b.a)(hr:Oq nm av r)(hv:Bi l av)(hl:DO l)(hn:nm.length<=1000)(st:Int):
  ∃h' o' G',BG cx 91 [Pt bi 0,.agg r,I st] h (.tuple []) h'/\RX h' bi a o' c t G' (b.Fe nm l st)/\DC h (Bs bi G) h' (Bs bi G'):=by
 obtain⟨h1,e,f,s,w1,i⟩:=pd w ok rm hnm hr hv hl hn;obtain⟨E,D,C,B,A,z,y,u,Wb,Yg,rfl⟩:=hr;have d:RX (put h1 bi 18 (I st)) bi a e c t f {b.Ej nm l 1 with sw:=st}:=w1.put rfl rfl w1.o w1.t;have g:RX (put (put h1 bi 18 (I st)) bi 5 (I (b.Ej nm l 1).mode)) bi a e c t f {{b.Ej nm l 1 with sw:=st} with Si:=(b.Ej nm l 1).mode}:=d.put rfl rfl d.o d.t;have j:=g.rF 8;refine⟨_,e,f,?_,j,((i.trans Bf).trans Bf).trans Bf⟩;have q:=w1.st (k:=18) (v:= I st) (v0:= I (b.Ej nm l 1).sw) rfl rfl;have p:=d.st (k:=5) (v:= I (b.Ej nm l 1).mode) (v0:= I (b.Ej nm l 1).Si) rfl rfl;have n:=g.st (k:=4) (v:=I 8) (v0:= I (b.Ej nm l 1).mode) rfl rfl;have l4:A7 (put h1 bi 18 (I st)) none (Pt bi 4)=some (I (b.Ej nm l 1).mode):=d.l4;rw[Ae,aEb];simp only[BE,s.Ab,q,l4,p,n]
def aOC(w:RX h bi a o c t G b)(rm:BM b m):∃h' o',BG cx 101 [Pt bi 0] h (.agg b.gF.row) h'/\RX h' bi a o' c t G b.Jt/\DC h (Bs bi G) h' (Bs bi G):=by
 have ho:=rm.AQ;have ld:A7 h none (Pt bi 2)=some o:=w.ld 2;have lo:=AU.CN w.o;unfold BS.Jt BS.gF;by_cases h2:b.AQ.length<2;.refine⟨h,o,?_,by rw[Af h2];exact w,.refl⟩;rw[Af h2,Ae,az];simp only[abS,↓reduceIte,AT,ld,lo,(Ac:(b.AQ.length:Int)<2)];rfl
 .obtain⟨u,e,f,hu⟩:=aAe (h:=h) w.o Ac;have hc:J0 b.AQ ((b.AQ.length:Int)-1)=b.AQ.take (b.AQ.length-1):=by unfold J0;congr 1;omega
  rw[hc] at hu;have w1:=w.HQ (u:=e);have d:=w1.HZ hu;refine⟨_,u,?_,by rw[Ad h2];exact d,w.C2.trans Bf⟩;rw[Ad h2,Ae,az];simp only[abS,↓reduceIte,AT,E9,ld,lo,(Ac:¬(b.AQ.length:Int)<2),(N_ w rm).Ab,f.Ab,w1.st (k:=2) (v0:=o) rfl (AU.cells hu)]
def aJB(w:RX h bi a o c t G b)(rm:BM b m)(nm:Aj):
  ∃h' o',BG cx 94 [Pt bi 0,.str nm] h (.tuple []) h'/\RX h' bi a o' c t G (b.Du nm)/\DC h (Bs bi G) h' (Bs bi G):=by
 have ho:=rm.AQ;have hnm:∀i∈b.AQ,i.name.length<9223372036854775807:=λi hi=>by have:=rm.Wg i hi;omega
 have ld:A7 h none (Pt bi 2)=some o:=w.ld 2;have lo:=AU.CN w.o;have I9:Ev cx 94 [Pt bi 0,.str nm] h λr h'=>r= .tuple []/\∃o',RX h' bi a o' c t G (b.Du nm)/\DC h (Bs bi G) h' (Bs bi G):=by
  unfold Ev;rw[aEd];simp only[BE,ld,lo,Da (Ac: -9223372036854775808<=(b.AQ.length:Int)-1) (Ac:(b.AQ.length:Int)-1<9223372036854775808)];refine Bm (λn:Nat=>[I ((n:Int)-1)]) (λn h1=>n<=b.AQ.length/\(b.AQ.reverse.find? λi=>Bw [nm] i||Hc i)=((b.AQ.take n).reverse.find? λi=>Bw [nm] i||Hc i)/\h1=h) (λn=>n) b.AQ.length rfl ⟨Ag _,by rw[Bx],rfl⟩ ?_;rintro n h1 ⟨hn,ha,rfl⟩;cases n with
  |zero=>
   have e:b.Du nm=b:=by unfold BS.Du;rw[ha];rfl
   simp only[abS,↓reduceIte,(Ac:¬(0:Int)<=((0:Nat):Int)-1)];exact⟨_,rfl,rfl,o,by rw[e];exact w,.refl⟩
  |succ n=>
   have hlt:n<b.AQ.length:=Ac;have i1:((n+1:Nat):Int)-1=(n:Int):=Ac;have v:=AU.BL (k:= .i64) w.o hlt;have V8:=hnm _ (AN hlt);have em:AD (.Dk 1) [.str nm]=some (.sl 1 ([nm].map Cu)):=Ea (ws:=[nm]) rfl AH;rw[TE hlt,GQ] at ha;generalize hi:b.AQ[n]=i at*;have r2:BG cx 218 [.agg i.row,.sl 1 ([nm].map Cu)] h1 (.bool (Bw [nm] i)) h1:=f167 i (C1 (ws:=[nm])) AH;have sub:=Da (Ac: -9223372036854775808<=(n:Int)-1) (Ac:(n:Int)-1<9223372036854775808);cases h2:Bw [nm] i with
   |true=>
    rw[h2] at r2 ha;obtain⟨f,q,g,Py⟩:=f165 (h:=h1) w.o Ac hnm nm false;have w1:=w.HQ (u:=q);have p:=w1.HZ Py;have Ib:EU nm false=EA nm:=by funext a;rfl
    have l1:(DN (EU nm false) CY b.AQ).length<=b.AQ.length:=QS;have s:A7 (put (h1++q) bi 2 f) none (Pt bi 2)=some f:=p.ld 2;obtain⟨A,t2,B,IG⟩:=aHO (h:=put (h1++q) bi 2 f) Py Ac i.node;have y:=p.HQ (u:=t2);have z:=y.HZ IG;have e:b.Du nm={b with AQ:=Hd i.node (DN (EA nm) CY b.AQ)}:=by unfold BS.Du;rw[ha];simp only[h2,UW,BJ]
    simp only[abS,Nat.reduceLeDiff,↓reduceIte,E9,i1,(Ac:(0:Int)<=(n:Int)),ld,v,em,r2.Ab,g.Ab,w1.st (k:=2) (v0:=o) rfl (AU.cells Py),s,B.Ab,y.st (k:=2) (v0:=f) rfl (AU.cells IG)];exact⟨_,rfl,rfl,A,by rw[e,<-Ib];exact z,((w.C2.trans Bf).trans p.C2).trans Bf⟩
   |false=>
    rw[h2] at r2 ha;have g:∀{Q:HO} {h:Ai} {kk:Aa->IT},W cx (.B6 220 [I i.Bb,.str i.name] kk) Q h↔W cx (kk (.bool (Ez i.Bb i.name))) Q h:=(f169 i.Bb i.name V8).B6 rfl rfl;cases j:Hc i with
    |true=>
     have d:Ez i.Bb i.name=true:=j;rw[j] at ha;have e:b.Du nm=b:=by unfold BS.Du;rw[ha];simp[h2]
     simp only[abS,Nat.reduceLeDiff,↓reduceIte,E9,i1,(Ac:(0:Int)<=(n:Int)),ld,v,em,r2.Ab,g,d];exact⟨_,rfl,rfl,o,by rw[e];exact w,.refl⟩
    |false=>have d:Ez i.Bb i.name=false:=j;rw[j] at ha;simp only[abS,Nat.reduceLeDiff,↓reduceIte,E9,i1,(Ac:(0:Int)<=(n:Int)),ld,v,em,r2.Ab,g,d,sub];exact AK.next n rfl ⟨Ac,ha,rfl⟩ Ac
 obtain⟨r,h',hr,rfl,o',w',x'⟩:=I9.ret;exact⟨h',o',hr,w',x'⟩
variable{nm:Aj}{av:Aa}{l:List A5}{r:List Aa}
def aOD(w:RX h bi a o c t G b)(hc:B1 b.A6 c)(ok:EB b)(rm:BM b (m+5))(hnm:Nm b.a)(hr:Oq nm av r)(hv:Bi l av)(hl:DO l)(hn:nm.length<=1000):
  ∃h' o' c' G',BG cx 88 [Pt bi 0,.agg r] h (I (b.a.len+1)) h'/\RX h' bi a o' c' t G' (b.KA nm l)/\B1 (b.KA nm l).A6 c'/\DC h (Bs bi G) h' (Bs bi G'):=by
 obtain⟨h1,j,n,i,w1,g⟩:=pd (m:=m+1) w ok (rm.le Ac) hnm hr hv hl hn;obtain⟨fs,d,hf⟩:=hc;have ha:=rm.A6;have Hu:fs.length=b.A6.length:=by rw[<-d,Ao]
 obtain⟨u,p,P7,r2,hu⟩:=aHX (h:=h1) (l:=fs) hf Ac (lX d λx hx=>((rm.DB x hx).2).1) (e:=⟨⟨b.a.len+1,nm,l⟩,av,hv⟩) (by unfold ZQ;have:=hl.1;simp only;omega);refine⟨_,j,u,n,?_,w1.KE (u:=u),?_,g.trans Bf⟩;.obtain⟨C,B,A,z,y,v,s,q,Wb,Yg,rfl⟩:=hr;have f:BG cx 137 [c,.agg [I (b.a.len+1),.str nm,av]] h1 u h1:=r2;have ZJ:av.cells=[av]:=AU.cells hv;rw[Ae,aEa];simp only[abS,Nat.reduceLeDiff,↓reduceIte,AT,i.Ab,w1.l3,ZJ,f.Ab,w1.st (k:=3) (v0:=c) rfl (AU.cells hu)]
 .refine⟨_,?_,hu⟩;rw[rC P7,d];unfold BS.KA;simp only;rw[D3]
end
def mK{n:Nat}(d:Nat)(hd:0<d)(h:n<2147483648)(e:AD (.int .quo) [I (n:Int),I (d:Int)]=some (I (IntKind.i64.wrap ((n:Int).tdiv (d:Int))))):AD (.int .quo) [I (n:Int),I (d:Int)]=some (I ((n/d:Nat):Int)):=by
 have h2:(n:Int).tdiv (d:Int)=((n/d:Nat):Int):=by rw[Int.tdiv_eq_ediv_of_nonneg Ac];rfl
 have a:n/d<=n:=Nat.div_le_self n d;rw[e,h2];generalize n/d=k at*;rw[wrap_i64 Ac Ac]
def aAP{n:Nat}(d:Nat)(hd:0<d)(h:n<2147483648)(e:AD (.int .rem) [I (n:Int),I (d:Int)]=some (I ((n:Int).tmod (d:Int)))):AD (.int .rem) [I (n:Int),I (d:Int)]=some (I ((n%d:Nat):Int)):=by
 have h2:(n:Int).tmod (d:Int)=((n%d:Nat):Int):=by rw[Int.tmod_eq_emod_of_nonneg Ac];rfl
 have a:n%d<=n:=Nat.mod_le n d;rw[e,h2]
def Zv{n:Nat}(h:n<2147483648):AD (.int .quo) [I (n:Int),I 64]=some (I ((n/64:Nat):Int)):=mK 64 AP h rfl
def Zw{n:Nat}(h:n<2147483648):AD (.int .quo) [I (n:Int),I 4096]=some (I ((n/4096:Nat):Int)):=mK 4096 AP h rfl
def mL{n:Nat}(h:n<2147483648):AD (.int .quo) [I (n:Int),I 262144]=some (I ((n/262144:Nat):Int)):=mK 262144 AP h rfl
def Ov{n:Nat}(h:n<2147483648):AD (.int .rem) [I (n:Int),I 64]=some (I ((n%64:Nat):Int)):=aAP 64 AP h rfl
def TN{n:Nat}(c:Nat)(h:c+n<2147483648):AD (.int .add) [I (c:Int),I (n:Int)]=some (I ((c+n:Nat):Int)):=by rw[OY Ac Ac];congr 2
def Mw{n:Nat}(h:n<64):AD (.int .add) [I 128,I (n:Int)]=some (I ((128+n:Nat):Int)):=TN 128 Ac
def pg{n:Nat}(h:n<64):AD (.int .add) [I 192,I (n:Int)]=some (I ((192+n:Nat):Int)):=TN 192 Ac
def ph{n:Nat}(h:n<64):AD (.int .add) [I 224,I (n:Int)]=some (I ((224+n:Nat):Int)):=TN 224 Ac
def pj{n:Nat}(h:n<64):AD (.int .add) [I 240,I (n:Int)]=some (I ((240+n:Nat):Int)):=TN 240 Ac
def RE{n:Nat}(h:n<256):AD (.conv .u8) [I (n:Int)]=some (.int .u8 (n:Int)):=by rw[UC];congr 3;omega
def Qv(r:Int):Prop:=(0<=r/\r<=55295)\/(57344<=r/\r<=1114111)
instance(r:Int):Decidable (Qv r):=by unfold Qv;infer_instance
def aJC(r:Int):JX cx 210 [.int .i32 r] (.bool (decide (Qv r))):=by rw[Ml,ň];by_cases h1:0<=r<;>by_cases h2:r<=55295<;>by_cases b:57344<=r<;>by_cases a:r<=1114111<;>simp[h1,h2,b,a,Qv]
def aJD(r:Int)(hr:Qv r)(h:Ai):BG cx 211 [.int .i32 r] h (.sl 1 (Ce (HX r))) h:=by
 have one:∀{a:Nat} (h1:a<256),AD (.Dk 1) [.int .u8 (a:Int)]=some (.sl 1 (Ce [UInt8.ofNat a])):=by intro a h1;simp only[Ce,Bj,C4,cU h1];rfl
 have XL:∀{a b:Nat} (h1:a<256) (h2:b<256),AD (.Dk 1) [.int .u8 (a:Int),.int .u8 (b:Int)]=some (.sl 1 (Ce [UInt8.ofNat a,UInt8.ofNat b])):=by intro a b h1 h2;simp only[Ce,Bj,C4,cU h1,cU h2];rfl
 have U7:∀{a b c:Nat} (h1:a<256) (h2:b<256) (d:c<256),AD (.Dk 1) [.int .u8 (a:Int),.int .u8 (b:Int),.int .u8 (c:Int)]=some (.sl 1 (Ce [UInt8.ofNat a,UInt8.ofNat b,UInt8.ofNat c])):=by intro a b c h1 h2 d;simp only[Ce,Bj,C4,cU h1,cU h2,cU d];rfl
 have four:∀{a b c f:Nat} (h1:a<256) (h2:b<256) (d:c<256) (g:f<256),AD (.Dk 1) [.int .u8 (a:Int),.int .u8 (b:Int),.int .u8 (c:Int),.int .u8 (f:Int)]=some (.sl 1 (Ce [UInt8.ofNat a,UInt8.ofNat b,UInt8.ofNat c,UInt8.ofNat f])):=by intro a b c f h1 h2 d g;simp only[Ce,Bj,C4,cU h1,cU h2,cU d,cU g];rfl
 have Gc:=hr;unfold Qv at hr;obtain⟨n,rfl⟩:=I3 (Ac:0<=r);have hn:n<=1114111:=Ac;have cv:AD (.conv .i64) [.int .i32 (n:Int)]=some (I (n:Int)):=by rw[QN,wrap_i64 Ac Ac]
 rw[Ae,ŉ];by_cases k:n<128
 .have e:HX (n:Int)=[UInt8.ofNat n]:=by unfold HX;rw[Af Ac];rfl
  rw[e];simp only[abS,cv,(Ac:(n:Int)<128),RE (Ac:n<256),one (Ac:n<256)]
 by_cases j:n<2048
 .have e:HX (n:Int)=[UInt8.ofNat (192+n/64),UInt8.ofNat (128+n%64)]:=by unfold HX;rw[Ad Ac,Af Ac];rfl
  rw[e];simp only[abS,cv,(Ac:¬(n:Int)<128),(Ac:(n:Int)<2048),Zv (Ac:n<2147483648),pg (Ac:n/64<64),RE (Ac:192+n/64<256),Ov (Ac:n<2147483648),Mw (Ac:n%64<64),RE (Ac:128+n%64<256),XL (Ac:192+n/64<256) (Ac:128+n%64<256)]
 by_cases i:n<65536
 .have e:HX (n:Int)=[UInt8.ofNat (224+n/4096),UInt8.ofNat (128+n/64%64),UInt8.ofNat (128+n%64)]:=by unfold HX;rw[Ad Ac,Ad Ac,Af Ac];rfl
  rw[e];simp only[abS,cv,(Ac:¬(n:Int)<128),(Ac:¬(n:Int)<2048),(Ac:(n:Int)<65536),Zw (Ac:n<2147483648),ph (Ac:n/4096<64),RE (Ac:224+n/4096<256),Zv (Ac:n<2147483648),Ov (Ac:n/64<2147483648),Mw (Ac:n/64%64<64),RE (Ac:128+n/64%64<256),Ov (Ac:n<2147483648),Mw (Ac:n%64<64),RE (Ac:128+n%64<256),U7 (Ac:224+n/4096<256) (Ac:128+n/64%64<256) (Ac:128+n%64<256)]
 .have e:HX (n:Int)=[UInt8.ofNat (240+n/262144),UInt8.ofNat (128+n/4096%64),UInt8.ofNat (128+n/64%64),UInt8.ofNat (128+n%64)]:=by unfold HX;rw[Ad Ac,Ad Ac,Ad Ac,Af Ac];rfl
  rw[e];simp only[abS,cv,(Ac:¬(n:Int)<128),(Ac:¬(n:Int)<2048),(Ac:¬(n:Int)<65536),mL (Ac:n<2147483648),pj (Ac:n/262144<64),RE (Ac:240+n/262144<256),Zw (Ac:n<2147483648),Ov (Ac:n/4096<2147483648),Mw (Ac:n/4096%64<64),RE (Ac:128+n/4096%64<256),Zv (Ac:n<2147483648),Ov (Ac:n/64<2147483648),Mw (Ac:n/64%64<64),RE (Ac:128+n/64%64<256),Ov (Ac:n<2147483648),Mw (Ac:n%64<64),RE (Ac:128+n%64<256),four (Ac:240+n/262144<256) (Ac:128+n/4096%64<256) (Ac:128+n/64%64<256) (Ac:128+n%64<256)]
def pk(r:Int):HX (if Qv r then r else 65533)=HX r:=by
 by_cases h:Qv r;.rw[Af h]
 .rw[Ad h];unfold Qv at h;have:HX r=[239,191,189]:=by unfold HX;rw[Ad Ac,Ad Ac,Ad Ac,Ad Ac]
  have h2:HX 65533=[239,191,189]:=by unfold HX;rw[Ad Ac,Ad Ac,Af Ac];decide+kernel
  rw[this,h2]
def Q_(r:Int):Qv (if Qv r then r else 65533):=by
 by_cases h:Qv r;.rw[Af h];exact h
 .rw[Ad h];decide
section
variable{h h':Ai}{bi a:Nat}{o c t:Aa}{G G' F:Nat->Prop}{b:BS}{x:Int}{m:Nat}
variable{nm:Aj}{av:Aa}{l:List A5}{r:List Aa}{sp p:Int}
def RX.leaf{k d:Int}{s:Aj}(w:RX h bi a o c t G b)(ok:EB b)(rm:BM b (m+1))(hk:k=5\/k=6)(hd:b.a.has d/\(b.a.nd d).kind=1)(hs:s.length<=100000)(p bf:Int):
  ∃e h' G',BG cx 128 [Pt a 0,I d,.agg [I k,I 0,.slnil,I 0,I 0,S [],.slnil,.str s,S [],S [],ff,I 0,I 0]] h (.tuple [I (b.a.len+1),I 0]) e/\BG cx 166 [Pt bi 0,I p,I (b.a.len+1),I bf] e (.tuple []) h'/\RX h' bi a o c t G' {b with a:=(b.a.add {kind:=k,CG:=d,data:=s}).Es (b.a.len+1) p bf}/\DC h (Bs bi G) h' (Bs bi G'):=by
 obtain⟨e,D,B,z,u⟩:=w.step (A':=b.a.add {kind:=k,CG:=d,data:=s}) (R:=λh'=>BG cx 128 [Pt a 0,I d,.agg [I k,I 0,.slnil,I 0,I 0,S [],.slnil,.str s,S [],S [],ff,I 0,I 0]] h (.tuple [I (b.a.len+1),I 0]) h') (λn i ps v=>by obtain⟨h',n',C,JI,r,wp,j⟩:=aJo v (show b.a.len<=1000000000 by have:=rm.n;unfold Ar.len;omega) hd.1 hd.2 k s;exact⟨h',n',C,JI,r,wp,j⟩)
 obtain⟨g,f⟩:=l8 (m:=m) (k:=k) (s:=s) ok rm hk hd hs;obtain⟨h',G',A,y,q⟩:=gy z g.ba f p (b.a.len+1) bf;exact⟨e,h',G',B,A,y,u.trans q⟩
def aJE(w:RX h bi a o c t G b)(ok:EB b)(rm:BM b (m+5))(hnm:Nm b.a)(r:Int):
  ∃h' G',BG cx 89 [Pt bi 0,.int .i32 r] h (.tuple []) h'/\RX h' bi a o c t G' (b.Q6 r)/\DC h (Bs bi G) h' (Bs bi G'):=by
 have g:=gz w ok rm hnm 0;obtain⟨hp,N⟩:=YQ ok (t:=0) (.inl rfl);unfold BS.Q6;generalize(b.place 0).1=p at*;generalize(b.place 0).2=bf at*;have r2:=MV w p;unfold BS.L5;by_cases hk:(b.a.nd p).kind=4\/(b.a.nd p).kind=2;rotate_left;.refine⟨h,G,?_,by rw[Ad hk];exact w,.refl⟩;have Z:¬(b.a.nd p).kind=4:=λe=>hk (.inl e);have k2:¬(b.a.nd p).kind=2:=λe=>hk (.inr e);rw[Ae,gS];simp only[abS,g.Ab,r2.Ab,B7,Z,k2,A0]
 rw[Af hk];obtain⟨i,hi,wY,Wc,M⟩:=rE (l:=(b.a.nd p).Bc) (bf:=bf) (λh=>by have:=N h;have h2:=(ok.ok.FV bf this.1 (by rw[this.2];have:=hp.1;omega)).2;rwa [this.2] at h2);rw[M];have QF:(b.a.nd p).Bc.length<=1000000000:=rm.ZR.Bc ok.ok p;obtain⟨n,R,ps,d,eG⟩:=w.w;obtain⟨kv,y,fy⟩:=L_ (x:=p) d QF;have hvl:=AU.CN fy;have q:=aJv (h:=h) fy QF bf;have rd:=gx w p;rw[Af hp] at rd;have z:∀{Q:HO} {h:Ai} {kk:Aa->IT},W cx (.B6 210 [.int .i32 r] kk) Q h↔W cx (kk (.bool (decide (Qv r)))) Q h:=(aJC r).B6 rfl rfl;obtain⟨r',Gc⟩:∃r',r'=if Qv r then r else 65533:=⟨_,rfl⟩
 have WB:=Q_ r;have sI:=pk r;rw[<-Gc] at WB sI;have rb:=aJD r' WB h;rw[sI] at rb;have nC:=TD r;generalize hs:HX r=s at*;have f3:KT h (.sl 1 (Ce s))=some (h,.sl 1 (Ce s)):=rfl;have b3:AD .Xr [.sl 1 (Ce s)]=some (.str s):=by simp[AD,Xt,Sa]
 have mA:=ok.ok.CG p hp;obtain⟨h4,S,T,J,H,P,O⟩:=w.leaf (m:=m) (k:=5) (s:=s) ok (rm.le Ac) (.inl rfl) mA Ac p bf;by_cases hz:i=0
 .subst hz;simp only[↓reduceIte];refine⟨S,T,?_,P,O⟩;rw[Ae,gS];rcases hk with hk|hk<;>by_cases Ri:Qv r<;>by_cases h0:bf=0
  all_goals first|rw[Af Ri] at Gc|rw[Ad Ri] at Gc
  all_goals subst Gc
  all_goals first
   |(rw[<-wY h0] at hvl;simp only[abS,Nat.reduceLeDiff,↓reduceIte,AT,g.Ab,r2.Ab,B7,hk,(AP:¬(2:Int)=4),A0,z,Al Ri,rb.Ab,f3,b3,w.l0,y.Ab,hvl,AL h0,(AP:¬(0:Int)<((0:Nat):Int)),rd.Ab,BK,J.Ab,H.Ab];done)
   |(rw[<-wY h0] at hvl;simp only[abS,Nat.reduceLeDiff,↓reduceIte,AT,g.Ab,r2.Ab,B7,hk,(AP:¬(2:Int)=4),A0,z,Ah Ri,rb.Ab,f3,b3,w.l0,y.Ab,hvl,AL h0,(AP:¬(0:Int)<((0:Nat):Int)),rd.Ab,BK,J.Ab,H.Ab];done)
   |(rw[Wc h0] at q;simp only[abS,Nat.reduceLeDiff,↓reduceIte,AT,g.Ab,r2.Ab,B7,hk,(AP:¬(2:Int)=4),A0,z,Al Ri,rb.Ab,f3,b3,w.l0,y.Ab,hvl,h0,q.Ab,(AP:¬(0:Int)<((0:Nat):Int)),rd.Ab,BK,J.Ab,H.Ab];done)
   |(rw[Wc h0] at q;simp only[abS,Nat.reduceLeDiff,↓reduceIte,AT,g.Ab,r2.Ab,B7,hk,(AP:¬(2:Int)=4),A0,z,Ah Ri,rb.Ab,f3,b3,w.l0,y.Ab,hvl,h0,q.Ab,(AP:¬(0:Int)<((0:Nat):Int)),rd.Ab,BK,J.Ab,H.Ab];done)
 .obtain⟨j,rfl⟩:∃j,i=j+1:=⟨i-1,Ac⟩;have hj:j<(b.a.nd p).Bc.length:=Ac;rw[Ad hz,Fb,Ap hj];simp only
  have ht:=ok.ok.Nl p hp _ (AN hj);have C:=AU.BL (k:= .i64) fy hj;rw[B8] at C;have D:AD (.int .sub) [I ((j+1:Nat):Int),I 1]=some (I (j:Int)):=by have:=Iv (n:=j+1) Ac Ac;simpa using this
  have f:(0:Int)<((j+1:Nat):Int):=Ac;generalize hte:(b.a.nd p).Bc[j]=B at*;have E:=MV w B;by_cases A:(b.a.nd B).kind=5
  .rw[Af A];have sN:=rm.data B;obtain⟨h8,K,Y,V,_⟩:=d.wr ht.1 (k:=7) AP (v:= .str ((b.a.nd B).data++s)) rfl (p:=⟨{b.a.nd B with data:=(b.a.nd B).data++s},(pR ps B).kv,(pR ps B).av,d.Nl ht.1,d.ze ht.1⟩) (by simp only[RN.row];rw[(d.pn ht.1).2];rfl);obtain⟨X,U⟩:=w.f_ (G':=JJ a n R) ⟨n,R,_,Y,rfl⟩ (by rw[eG];exact V);refine⟨h8,_,?_,X,U⟩;have L:=lZ (s:=(b.a.nd B).data) (u:=s) Ac;rw[Ae,gS];rcases hk with hk|hk<;>by_cases Ri:Qv r<;>by_cases h0:bf=0
   all_goals first|rw[Af Ri] at Gc|rw[Ad Ri] at Gc
   all_goals subst Gc
   all_goals first
    |(rw[<-wY h0] at hvl;simp only[abS,Nat.reduceLeDiff,↓reduceIte,AT,g.Ab,r2.Ab,B7,hk,(AP:¬(2:Int)=4),A0,z,Al Ri,rb.Ab,f3,b3,w.l0,y.Ab,hvl,AL h0,f,D,C,E.Ab,AL A,d.nodes,d.addr ht.1,d.f7 ht.1,L,K];done)
    |(rw[<-wY h0] at hvl;simp only[abS,Nat.reduceLeDiff,↓reduceIte,AT,g.Ab,r2.Ab,B7,hk,(AP:¬(2:Int)=4),A0,z,Ah Ri,rb.Ab,f3,b3,w.l0,y.Ab,hvl,AL h0,f,D,C,E.Ab,AL A,d.nodes,d.addr ht.1,d.f7 ht.1,L,K];done)
    |(rw[Wc h0] at q;simp only[abS,Nat.reduceLeDiff,↓reduceIte,AT,g.Ab,r2.Ab,B7,hk,(AP:¬(2:Int)=4),A0,z,Al Ri,rb.Ab,f3,b3,w.l0,y.Ab,hvl,h0,q.Ab,f,D,C,E.Ab,AL A,d.nodes,d.addr ht.1,d.f7 ht.1,L,K];done)
    |(rw[Wc h0] at q;simp only[abS,Nat.reduceLeDiff,↓reduceIte,AT,g.Ab,r2.Ab,B7,hk,(AP:¬(2:Int)=4),A0,z,Ah Ri,rb.Ab,f3,b3,w.l0,y.Ab,hvl,h0,q.Ab,f,D,C,E.Ab,AL A,d.nodes,d.addr ht.1,d.f7 ht.1,L,K];done)
  .rw[Ad A];refine⟨S,T,?_,P,O⟩;rw[Ae,gS];rcases hk with hk|hk<;>by_cases Ri:Qv r<;>by_cases h0:bf=0
   all_goals first|rw[Af Ri] at Gc|rw[Ad Ri] at Gc
   all_goals subst Gc
   all_goals first
    |(rw[<-wY h0] at hvl;simp only[abS,Nat.reduceLeDiff,↓reduceIte,AT,g.Ab,r2.Ab,B7,hk,(AP:¬(2:Int)=4),A0,z,Al Ri,rb.Ab,f3,b3,w.l0,y.Ab,hvl,AL h0,f,D,C,E.Ab,A,rd.Ab,BK,J.Ab,H.Ab];done)
    |(rw[<-wY h0] at hvl;simp only[abS,Nat.reduceLeDiff,↓reduceIte,AT,g.Ab,r2.Ab,B7,hk,(AP:¬(2:Int)=4),A0,z,Ah Ri,rb.Ab,f3,b3,w.l0,y.Ab,hvl,AL h0,f,D,C,E.Ab,A,rd.Ab,BK,J.Ab,H.Ab];done)
    |(rw[Wc h0] at q;simp only[abS,Nat.reduceLeDiff,↓reduceIte,AT,g.Ab,r2.Ab,B7,hk,(AP:¬(2:Int)=4),A0,z,Al Ri,rb.Ab,f3,b3,w.l0,y.Ab,hvl,h0,q.Ab,f,D,C,E.Ab,A,rd.Ab,BK,J.Ab,H.Ab];done)
    |(rw[Wc h0] at q;simp only[abS,Nat.reduceLeDiff,↓reduceIte,AT,g.Ab,r2.Ab,B7,hk,(AP:¬(2:Int)=4),A0,z,Ah Ri,rb.Ab,f3,b3,w.l0,y.Ab,hvl,h0,q.Ab,f,D,C,E.Ab,A,rd.Ab,BK,J.Ab,H.Ab];done)
def RX.MR{s:Aj}{p bf x:Int}(hstart:(¬x=0/\p=x/\bf=0)\/(x=0/\BG cx 208 [Pt bi 0,I 0] h (.tuple [I p,I bf]) h))(w:RX h bi a o c t G b)(ok:EB b)(rm:BM b (m+1))(hs:s.length<=100000):
  ∃h' G',BG cx 90 [Pt bi 0,.str s,I x] h (.tuple []) h'/\RX h' bi a o c t G' {b with a:=BS.E4 b.a s p bf}/\DC h (Bs bi G) h' (Bs bi G'):=by
 have r2:=MV w p;unfold BS.E4;by_cases hk:LO (b.a.nd p).kind
 .rw[Af hk];have hp:b.a.has p:=by
   by_cases hp:b.a.has p;.exact hp
   .rw[HR hp] at hk;unfold LO at hk;simp at hk
  have mA:=ok.ok.CG p hp;have rd:=gx w p;rw[Af hp] at rd;obtain⟨y,u,v,f,e,q,n⟩:=w.leaf (m:=m) (k:=6) (s:=s) ok rm (.inr rfl) mA hs p bf;refine⟨u,v,?_,q,n⟩;rw[Ae,yo];rcases hstart with⟨hx,rfl,rfl⟩|⟨hx,d⟩
  .rcases hk with hk|hk|hk<;>simp only[abS,Nat.reduceLeDiff,↓reduceIte,AT,A0,r2.Ab,B7,hk,(AP:¬(2:Int)=1),(AP:¬(4:Int)=1),(AP:¬(4:Int)=2),w.l0,rd.Ab,BK,f.Ab,e.Ab,hx]
  .rcases hk with hk|hk|hk<;>simp only[abS,Nat.reduceLeDiff,↓reduceIte,AT,A0,r2.Ab,B7,hk,(AP:¬(2:Int)=1),(AP:¬(4:Int)=1),(AP:¬(4:Int)=2),w.l0,rd.Ab,BK,f.Ab,e.Ab,AL hx,d.Ab]
 .rw[Ad hk];refine⟨h,G,?_,w,.refl⟩;unfold LO at hk;have j:¬(b.a.nd p).kind=1:=Ac;have i:¬(b.a.nd p).kind=2:=Ac;have g:¬(b.a.nd p).kind=4:=Ac;rw[Ae,yo];rcases hstart with⟨hx,rfl,rfl⟩|⟨hx,d⟩
  .simp only[abS,Nat.reduceLeDiff,↓reduceIte,AT,A0,r2.Ab,B7,j,i,g,hx]
  .simp only[abS,Nat.reduceLeDiff,↓reduceIte,AT,A0,r2.Ab,B7,j,i,g,AL hx,d.Ab]
def aJF(w:RX h bi a o c t G b)(ok:EB b)(rm:BM b (m+1))(hnm:Nm b.a)(s:Aj)(hs:s.length<=100000)(x:Int):
  ∃h' G',BG cx 90 [Pt bi 0,.str s,I x] h (.tuple []) h'/\RX h' bi a o c t G' (b.Fc s x)/\DC h (Bs bi G) h' (Bs bi G'):=by
 unfold BS.Fc;by_cases h0:x=0;.rw[Af h0];exact RX.MR (p:=(b.place 0).1) (bf:=(b.place 0).2) (.inr ⟨h0,gz w ok rm hnm 0⟩) w ok rm hs
 .rw[Ad h0];exact RX.MR (p:=x) (bf:=0) (.inl ⟨h0,rfl,rfl⟩) w ok rm hs
end
def rT(n:Int)(l:List Cb):List Cb:=if 0<=Fk n l then Bg l (Fk n l).toNat else l
def rU{U:Type}{l:List U}{k:Nat}{x:U}(hk:k<l.length):(Bg l k).take k++x::(Bg l k).drop k=l.set k x:=by
 have h1:(l.take k).length=k:=by rw[Ax];omega
 unfold Bg;rw[H8 h1,JL h1,B0,Af hk]
def VK{p n:Nat}(h:p<=n):CJ (p:Int) n=p:=by unfold CJ;omega
section
variable{h h':Ai}{bi a:Nat}{o c t:Aa}{G G' F:Nat->Prop}{b:BS}{x:Int}{m:Nat}
variable{nm:Aj}{av:Aa}{l:List A5}{r:List Aa}{sp p:Int}
def B1.ix{d:List Cb}{n:Nat}(hc:B1 d c)(hb:d.length<=900000000)(x:Int)(h:Ai):BG cx 222 [c,I x] h (I (Fk x d)) h:=by obtain⟨fs,GK,hv⟩:=hc;have:=aNg (h:=h) hv (by rw[<-GK,Ao] at hb;omega) x;rwa [Zh,GK] at this
def B1.wo{d:List Cb}(hc:B1 d c)(hb:d.length<=900000000){k:Nat}(hk:k<d.length)(h:Ai):∃u,BG cx 283 [c,I (k:Int)] h u h/\B1 (Bg d k) u/\u.cells=[u]:=by
 obtain⟨fs,GK,hv⟩:=hc;have hl:d.length=fs.length:=by rw[<-GK,Ao]
 obtain⟨u,r,hu⟩:=aHW (h:=h) hv Ac (k:=k) Ac;exact⟨u,r,⟨Bg fs k,by unfold Bg;rw[Bu,Gq,JR,GK],hu⟩,AU.cells hu⟩
def B1.wi{d:List Cb}(hc:B1 d c)(hb:d.length<=900000000){e:Cb}{v:Aa}(hv:Bi e.Av v)(he:e.Av.length<=1000000000)(i:Int)(h:Ai):∃u,BG cx 100 [c,.agg [I e.node,.str e.name,v],I i] h u h/\B1 (d.take (CJ i d.length)++e::d.drop (CJ i d.length)) u/\u.cells=[u]:=by
 obtain⟨fs,GK,Ud⟩:=hc;have hl:d.length=fs.length:=by rw[<-GK,Ao]
 obtain⟨u,f,P7,r,hu⟩:=f82 (h:=h) Ud Ac (e:=⟨e,v,hv⟩) he i;refine⟨u,r,⟨_,?_,hu⟩,AU.cells hu⟩;rw[Bu,Bj,Gq,JR,GK,P7,hl]
def R_(w:RX h bi a o c t G b)(hc:B1 b.A6 c)(hb:b.A6.length<=900000000)(x:Int):
  ∃h' c',BG cx 354 [Pt bi 0,I x] h (.tuple []) h'/\RX h' bi a o c' t G {b with A6:=rT x b.A6}/\B1 (rT x b.A6) c'/\DC h (Bs bi G) h' (Bs bi G):=by
 have d:=hc.ix (n:=0) hb x h;unfold rT;by_cases h0:0<=Fk x b.A6;.obtain⟨q,hq,e,_⟩:=HJ h0;obtain⟨u,r2,hu,f⟩:=hc.wo hb hq h;rw[Af h0];rw[e] at d⊢;rw[AX];refine⟨_,u,?_,w.KE,hu,Bf⟩;rw[Ae,ee];simp only[abS,w.l3,d.Ab,(Ac:(0:Int)<=(q:Int)),r2.Ab,w.st (k:=3) (v0:=c) rfl f]
 .rw[Ad h0];refine⟨h,c,?_,w,hc,.refl⟩;rw[Ae,ee];simp only[abS,w.l3,d.Ab,h0]
structure po(h:Ai)(bi a:Nat)(t:Aa)(G0:Nat->Prop)(fe blk anc:Int)(k N m:Nat)(s0:BS×Int×Nat)(n:Nat)(h1:Ai)(o c:Aa)(G:Nat->Prop)(s:BS×Int×Nat):Prop where
 le:n<=N
 w:RX h1 bi a o c t G s.1
 hc:B1 s.1.A6 c
 ok:EB s.1
 rm:BM s.1 (m+4*n)
 nm:Nm s.1.a
 last:s.1.a.has s.2.1
 x:DC h (Bs bi G0) h1 (Bs bi G)
 mkb:s.2.2<=1000000000
 len:k+n+1<=s.1.AQ.length
 eq:BS.KV blk anc (k+1+N) k N s0=BS.KV blk anc (k+1+N) k n s
 WI:0<=Fk fe s.1.A6
 AQ:s.1.AQ.take (k+n+1)=s0.1.AQ.take (k+n+1)
 feh:s.1.a.has fe
def po.step{h1 h2:Ai}{D E B z:Aa}{C A:Nat->Prop}{fe blk anc:Int}{k N n:Nat}{s0 s s':BS×Int×Nat}(i:po h bi a t G fe blk anc k N m s0 (n+1) h1 D E C s)(e:s'=BS.Fs blk anc (k+1+N) (k+(n+1)) s.1 s.2.1 s.2.2)
  (w:RX h2 bi a B z t A s'.1) (hc:B1 s'.1.A6 z) (x:DC h1 (Bs bi C) h2 (Bs bi A)) (mk:s'.2.2<=1000000000) (WI:0<=Fk fe s'.1.A6):
  po h bi a t G fe blk anc k N m s0 n h2 B z A s':=by
 obtain⟨g,last',q⟩:=YU (blk:=blk) (anc:=anc) (far:=k+1+N) (i:=k+(n+1)) (m:=s.2.2) i.ok i.last;have hl:=i.len;obtain⟨f,v⟩:=dB (blk:=blk) (anc:=anc) (far:=k+1+N) (i:=k+(n+1)) (l:=s.2.1) (mk:=s.2.2) (b:=s.1) Ac;have d:=Pb (blk:=blk) (anc:=anc) (far:=k+1+N) (i:=k+(n+1)) (l:=s.2.1) (mk:=s.2.2) (m:=m+4*n) (i.rm.le Ac);have j:=Nm.Fs (blk:=blk) (anc:=anc) (far:=k+1+N) (i:=k+(n+1)) (l:=s.2.1) (mk:=s.2.2) i.nm i.rm;have y:BS.KV blk anc (k+1+N) k (n+1) s=BS.KV blk anc (k+1+N) k n (BS.Fs blk anc (k+1+N) (k+(n+1)) s.1 s.2.1 s.2.2):=rfl;have u:=i.eq.trans y;have OB:=i.AQ;rw[<-e] at g last' q f v d j u;refine⟨by have:=i.le;omega,w,hc,g,d,j,last',i.x.trans x,mk,Ac,u,WI,?_,q.has _ i.feh⟩;have:=Cc (λl=>l.take (k+(n+1))) OB;simp only[FC] at this;rw[(Ac:k+n+1=k+(n+1)),f];rwa [Cq Ac] at this
def aJG{anc fe:Int}{k N f:Nat}(w:RX h bi a o c t G b)(hc:B1 b.A6 c)(ok:EB b)(rm:BM b (m+4*N))(hnm:Nm b.a)(hN:k+1+N<b.AQ.length)(hf:f<=1000000000){d:Item}(nr:b.AQ[k+1+N]=d)(QF:AV (Bz fe) b.AQ=(k:Int))(WI:0<=Fk fe b.A6)(feh:b.a.has fe):
  ∃h' o' c' G' s',BG cx 356 [Pt bi 0,I (f:Int),I (k:Int),I ((k+1+N:Nat):Int),I anc] h (.tuple [I s'.2.1,I (s'.2.2:Int)]) h'/\s'=BS.KV d.node anc (k+1+N) k N (b,d.node,f)/\po h bi a t G fe d.node anc k N m (b,d.node,f) 0 h' o' c' G' s':=by
 have ho:=rm.AQ;have bX:AW=140737488355328:=rfl;have zl:b.a.has d.node:=(ok.op d (by rw[<-nr];exact AN _)).1;have I9:Ev cx 356 [Pt bi 0,I (f:Int),I (k:Int),I ((k+1+N:Nat):Int),I anc] h λr h'=>∃o' c' G' s',r= .tuple [I s'.2.1,I (s'.2.2:Int)]/\s'=BS.KV d.node anc (k+1+N) k N (b,d.node,f)/\po h bi a t G fe d.node anc k N m (b,d.node,f) 0 h' o' c' G' s':=by
  unfold Ev;have ld:A7 h none (Pt bi 2)=some o:=w.ld 2;have e0:=AU.BL (k:= .i64) w.o hN;rw[nr,Item.row] at e0;have i1:=Da (a:=((k+1+N:Nat):Int)) (b:=1) Ac Ac;rw[(Ac:((k+1+N:Nat):Int)-1=((k+N:Nat):Int))] at i1;rw[Ű];simp only[BE,ld,e0,i1];refine Bm (λz:Nat×Int×Nat=>[I z.2.1,I (z.2.2:Int),I ((k+z.1:Nat):Int)]) (λz h1=>∃o c G1 b1,po h bi a t G fe d.node anc k N m (b,d.node,f) z.1 h1 o c G1 (b1,z.2)) (λz=>z.1) (N,d.node,f) rfl ⟨o,c,G,b,⟨Ag _,w,hc,ok,rm,hnm,zl,.refl,hf,Dv,rfl,WI,rfl,feh⟩⟩ ?_;rintro⟨n,last,mk⟩ h1 ⟨U,X,G1,b1,i⟩;simp only at i;cases n with
  |zero=>simp only[abS,↓reduceIte,(Ac:¬(k:Int)<(k:Int))];exact⟨_,rfl,U,X,G1,(b1,last,mk),rfl,i.eq.symm,i⟩
  |succ n=>
   have hnN:=i.le;have hlen:=i.len;simp only at hlen;have dD:k+(n+1)<b1.AQ.length:=Ac;have hwo:=i.rm.AQ;have hwa:=i.rm.A6;have htl:=i.rm.tm;simp only at hwo hwa;have j:RX h1 bi a U X t G1 b1:=i.w;have K:B1 b1.A6 X:=i.hc;have hmk:mk<=1000000000:=i.mkb;have qx:A7 h1 none (Pt bi 2)=some U:=j.ld 2;have V:=AU.BL (k:= .i64) j.o dD;have Xo:b1.AQ.getD (k+(n+1)) Item.zero=b1.AQ[k+(n+1)]:=by rw[AJ,Ap dD];rfl
   have hxf:b1.AQ[k+(n+1)].node≠fe:=by have h2:=Cc (λl=>l[k+(n+1)]?) i.AQ;simp only[Ci] at h2;rw[Af Ac,Af Ac,Ap dD,Ap Ac] at h2;obtain⟨_,_,h3⟩:=IZ QF;have h4:=h3 (k+(n+1)) Ac Ac;rw[D4 h2];intro h5;unfold Bz at h4;rw[h5] at h4;simp at h4
   generalize hxe:b1.AQ[k+(n+1)]=x at*;obtain⟨q,hq,ny,hq0,hq2,hq3⟩:=HJ i.WI;simp only at hq ny;have r2:=K.ix (n:=0) Ac x.node h1;have qu:(k:Int)<((k+(n+1):Nat):Int):=Ac;have dec:AD (.int .sub) [I ((k+(n+1):Nat):Int),I 1]=some (I ((k+n:Nat):Int)):=by have:=Iv (n:=k+(n+1)) Ac Ac;rwa [(Ac:k+(n+1)-1=k+n)] at this
   have inc:AD (.int .add) [I ((k+(n+1):Nat):Int),I 1]=some (I ((k+(n+1)+1:Nat):Int)):=BN Ac;have s:AD (.int .sub) [I ((k+1+N:Nat):Int),I ((k+(n+1):Nat):Int)]=some (I ((N-n:Nat):Int)):=by rw[Da Ac Ac];congr 2;omega
   have aTP:x.row.length=4:=rfl;have L:∀{h2:Ai} {P W:Aa} {G2:Nat->Prop} {b2:BS},RX h2 bi a P W t G2 b2->b2.AQ=b1.AQ->∃O M T C,A7 h2 none (Pt bi 2)=some P/\AD (.K6 4 false false true) [P,I ((k+(n+1):Nat):Int)]=some O/\AD (.append 4 40) [.slnil,O]=some M/\AD (.K6 4 false true false) [P,I ((k+(n+1)+1:Nat):Int)]=some T/\AD (.append 4 40) [M,T]=some C/\Cv h2 1 (Pt bi 2) C=some (Am.put h2 bi 2 C)/\RX (Am.put h2 bi 2 C) bi a C W t G2 {b2 with AQ:=Bg b1.AQ (k+(n+1))}:=by
    intro h2 P W G2 b2 B Q;have ZK:BZ b1.AQ P:=by rw[<-Q];exact B.o
    obtain⟨O,J,q1⟩:=AU.ML ZK (k:= .i64) (n:=k+(n+1)) Ac;obtain⟨M,H,q2⟩:=AU.FL (b:=40) q1 (by rw[Ax];omega);obtain⟨T,E,q3⟩:=AU.Td ZK (k:= .i64) (n:=k+(n+1)+1) Ac;obtain⟨C,D,q4⟩:=AU.fS (b:=40) q2 q3 (by rw[Ax,Be];omega);exact⟨O,M,T,C,B.ld 2,J,H,E,D,B.st (k:=2) (v0:=P) rfl (AU.cells q4),B.HZ q4⟩
   by_cases he:Fk x.node b1.A6<0
   .obtain⟨O,M,T,C,_,J,H,E,D,Y,R⟩:=L j rfl;have es:({b1 with AQ:=Bg b1.AQ (k+(n+1))},last,mk)=BS.Fs d.node anc (k+1+N) (k+(n+1)) b1 last mk:=by unfold BS.Fs;simp only[Xo];rw[Af he]
    have y:=i.step es R K Bf hmk i.WI;by_cases NR:(3:Int)<((N-n:Nat):Int);.simp only[abS,Nat.reduceLeDiff,↓reduceIte,AT,E9,qu,qx,V,j.l3,r2.Ab,A0,s,NR,(Ac:¬(0:Int)<=Fk x.node b1.A6),he,J,H,inc,E,D,Y,dec];exact AK.next (n,last,mk) rfl ⟨_,_,_,_,y⟩ Dv
    .simp only[abS,Nat.reduceLeDiff,↓reduceIte,AT,E9,qu,qx,V,j.l3,r2.Ab,A0,s,NR,he,J,H,inc,E,D,Y,dec];exact AK.next (n,last,mk) rfl ⟨_,_,_,_,y⟩ Dv
   .obtain⟨p,hp,ep,Ob,aO,hp3⟩:=HJ (JA.1 he);have Eh:(0:Int)<=(p:Int):=Ac;rw[ep] at r2;have ept:(Fk x.node b1.A6).toNat=p:=by rw[ep,AX]
    have hpf:b1.A6[p].node≠fe:=by rw[aO];exact hxf
    by_cases NR:(3:Int)<((N-n:Nat):Int)
    .obtain⟨W,r3,I7,aJH⟩:=K.wo Ac hp h1;have B:=j.KE (u:=W) (l:=Bg b1.A6 p);obtain⟨O,M,T,C,A,J,H,E,D,Y,R⟩:=L B rfl;have es:({b1 with A6:=Bg b1.A6 p,AQ:=Bg b1.AQ (k+(n+1))},last,if p<mk then mk-1 else mk)=BS.Fs d.node anc (k+1+N) (k+(n+1)) b1 last mk:=by unfold BS.Fs;simp only[Xo];rw[Ad he,Af (Ac:k+(n+1)+3<k+1+N),ept]
     have y:=i.step es R I7 (Bf.trans Bf) (by simp only;split<;>omega) (by simp only;rw[cZ i.WI hp hpf];have:=i.WI;unfold down;split<;>omega);have s3:=j.st (k:=3) (v0:=X) rfl aJH;by_cases hpm:(p:Int)<(mk:Int);.have dm:=Iv (n:=mk) Ac Ac;rw[Af (Ac:p<mk)] at y;simp only[abS,Nat.reduceLeDiff,↓reduceIte,AT,E9,qu,qx,V,j.l3,r2.Ab,A0,s,NR,Eh,r3.Ab,s3,hpm,dm,(AP:(-1:Int)<0),A,J,H,inc,E,D,Y,dec];exact AK.next (n,last,mk-1) rfl ⟨_,_,_,_,y⟩ Dv
     .rw[Ad (Ac:¬p<mk)] at y;simp only[abS,Nat.reduceLeDiff,↓reduceIte,AT,E9,qu,qx,V,j.l3,r2.Ab,A0,s,NR,Eh,r3.Ab,s3,hpm,(AP:(-1:Int)<0),A,J,H,inc,E,D,Y,dec];exact AK.next (n,last,mk) rfl ⟨_,_,_,_,y⟩ Dv
    .obtain⟨fs,GK,hv⟩:=K;have Hu:b1.A6.length=fs.length:=by rw[<-GK,Ao]
     have aEF:p<fs.length:=Ac;have efp:fs[p].c=b1.A6[p]:=by simp only[<-GK,C0]
     have Q:=AU.BL (k:= .i64) hv aEF;have oh:fs[p].v.cells=[fs[p].v]:=AU.cells fs[p].ok;have hr:Oq fs[p].c.name fs[p].v [I 2,.str fs[p].c.name,ff,S [],ff,S [],ff,ff,fs[p].v,ff,S [],.int .i32 0]:=⟨I 2,ff,S [],ff,S [],ff,ff,ff,S [],.int .i32 0,rfl⟩;have KX:=i.rm.DB _ (AN hp);rw[<-efp] at KX;obtain⟨h2,G2,r4,B,x2⟩:=aAN (m:=m+4*n) j i.ok.ba (i.rm.le Ac) i.nm hr fs[p].ok KX.2 KX.1 anc 1;obtain⟨zw,fr,le2⟩:=Qp (nm:=fs[p].c.name) (at_:=fs[p].c.Av) (p:=anc) i.ok J9;have VF:=Jf (m:=m+4*n+1) (nm:=fs[p].c.name) (l:=fs[p].c.Av) (sp:=1) (p:=anc) (i.rm.le Ac) KX.2;have OB:(b1.El fs[p].c.name fs[p].c.Av 1 anc).AQ=b1.AQ:=by unfold BS.El;rw[Af J9]
     have Rx:(b1.El fs[p].c.name fs[p].c.Av 1 anc).A6=b1.A6:=by unfold BS.El;rw[Af J9]
     have es0:BS.Fs d.node anc (k+1+N) (k+(n+1)) b1 last mk=({b1.El fs[p].c.name fs[p].c.Av 1 anc with a:=(b1.El fs[p].c.name fs[p].c.Av 1 anc).a.F0 (b1.GG fs[p].c.name fs[p].c.Av 1).node last 0,AQ:=(b1.El fs[p].c.name fs[p].c.Av 1 anc).AQ.set (k+(n+1)) (b1.GG fs[p].c.name fs[p].c.Av 1),A6:=(b1.El fs[p].c.name fs[p].c.Av 1 anc).A6.set p {fs[p].c with node:=(b1.GG fs[p].c.name fs[p].c.Av 1).node}},(b1.GG fs[p].c.name fs[p].c.Av 1).node,if last=d.node then p+1 else mk):=by unfold BS.Fs;simp only[Xo];rw[Ad he,Ad Ac,ept,AJ,Ap hp,Gg,<-efp]
     have zB:=Ol i.ok fr;have hna:=QY i.ok fr;have hnf:(b1.GG fs[p].c.name fs[p].c.Av 1).node≠fe:=λQ=>fr.new (by rw[Q];exact i.feh);have aEG:(b1.GG fs[p].c.name fs[p].c.Av 1).name.length<=1000:=On KX.1;simp only at zB hna;generalize b1.GG fs[p].c.name fs[p].c.Av 1=g at*;generalize b1.El fs[p].c.name fs[p].c.Av 1 anc=b2 at*;have A:A7 h2 none (Pt bi 2)=some U:=B.ld 2;have ZK:BZ b1.AQ U:=j.o;obtain⟨O,J,q1⟩:=AU.ML ZK (k:= .i64) (n:=k+(n+1)) Ac;obtain⟨M,H,q2⟩:=AU.FL (b:=40) q1 (by rw[Ax];omega);have E:=AU.JD (a:=g) (b:=40) q2 (by rw[Ax];omega);obtain⟨C,D,q4⟩:=AU.Td ZK (k:= .i64) (n:=k+(n+1)+1) Ac;obtain⟨u5,p5,q5⟩:=AU.fS (f:=Item.row) (l:=b1.AQ.take (k+(n+1))++[g]) (b:=40) .mk q4 (by rw[Au,Ax,Be,A9];omega);have es5:b1.AQ.take (k+(n+1))++[g]++b1.AQ.drop (k+(n+1)+1)=b2.AQ.set (k+(n+1)) g:=by rw[OB,B0,Af dD,AI];rfl
     rw[es5] at q5;have em4:AD (.Dk 4) [.agg g.row]=some (.sl 4 [g.row]):=MM;have s5:=B.st (k:=2) (v0:=U) rfl (AU.cells q5);have w3:=B.HZ q5;have x3:=x2.trans (Bf (k:=2) (v:=u5));generalize put h2 bi 2 u5=h3 at*;have l33:=w3.l3;have hc0:B1 b1.A6 X:=⟨fs,GK,hv⟩;obtain⟨W,r6,I7,aJH⟩:=hc0.wo Ac hp h3;obtain⟨c3,r7,aJI,aOE⟩:=I7.wi (by rw[Hq hp];omega) (e:={fs[p].c with node:=g.node}) fs[p].ok (by have:=KX.2.1;simp only;omega) (p:Int) h3;rw[VK (by rw[Hq hp];omega),rU hp] at aJI;have s6:=w3.st (k:=3) (v0:=X) rfl aOE;have R:=w3.KE (u:=c3) (l:=b2.A6.set p {fs[p].c with node:=g.node});have hc4:B1 (b2.A6.set p {fs[p].c with node:=g.node}) c3:=by rw[Rx];exact aJI
     have x4:=x3.trans (Bf (k:=3) (v:=c3));generalize put h3 bi 3 c3=h4 at*;have ok3:=zw.vV (i:=g) (k:=k+(n+1)) ⟨fr.has,fr.kind,fr.Bb,fr.name⟩ (by rw[OB];exact zB);have qt:=ok3.vW (e:={fs[p].c with node:=g.node}) (k:=p) ⟨fr.has,fr.kind⟩ (by simp only[Rx];exact hna);have rm4:BM {b2 with AQ:=b2.AQ.set (k+(n+1)) g,A6:=b2.A6.set p {fs[p].c with node:=g.node}} (m+4*n+1):=by
      refine⟨VF.n,VF.at_,VF.data,by simp only[Bq];exact VF.AQ,by simp only[Bq];exact VF.A6,VF.tm,λe he=>?_,λi hi=>?_⟩
      .rcases De he with he|rfl
       .exact VF.DB e he
       .exact KX
      .rcases De hi with hi|rfl
       .exact VF.Wg i hi
       .exact aEG
     obtain⟨er,h6,G6,r8,w6,x6⟩:=R.mJ qt.ba rm4 g.node last 0;have y:=i.step es0.symm w6 hc4 (x4.trans x6) (by simp only;split<;>omega) (by simp only;rw[Rx,rJ i.WI hp hpf hnf];exact i.WI);have Z:=R.l0;have incp:=BN (Ac:p<9223372036854775807);rw[Ck.row] at Q;by_cases SC:last=d.node;.rw[Af SC] at y;simp only[abS,Nat.reduceLeDiff,↓reduceIte,AT,E9,qu,qx,V,j.l3,r2.Ab,A0,s,NR,(Ac:¬(p:Int)<0),Q,oh,r4.Ab,A,J,H,em4,E,inc,D,p5,s5,l33,r6.Ab,r7.Ab,s6,AL SC,incp,Z,r8.Ab,dec];exact AK.next (n,g.node,p+1) rfl ⟨_,_,_,_,y⟩ Dv
     .rw[Ad SC] at y;simp only[abS,Nat.reduceLeDiff,↓reduceIte,AT,E9,qu,qx,V,j.l3,r2.Ab,A0,s,NR,(Ac:¬(p:Int)<0),Q,oh,r4.Ab,A,J,H,em4,E,inc,D,p5,s5,l33,r6.Ab,r7.Ab,s6,SC,Z,r8.Ab,dec];exact AK.next (n,g.node,mk) rfl ⟨_,_,_,_,y⟩ Dv
 obtain⟨r,h',hr,o',c',G',s',rfl,e',i'⟩:=I9.ret;exact⟨h',o',c',G',s',hr,e',i'⟩
end
end Go.Am
end
