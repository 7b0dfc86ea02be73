/- Lemmas -/
import Derived.Test.YtkaolmlpcamojaaGreatDoorC26
set_option linter.all false
set_option maxRecDepth 100000
section
namespace Go.Am
open Go
def Nc(h:Ah)(lo:Nat)(v:Aa)(l:List Int):Prop:=(v= .slnil/\l=[])\/∃id,lo<=id/\v= .CF id 0 l.length 1/\h[id]?=some (.cells (l.map (Aa.int .i64)))
def MB(h:Ah)(lo:Nat)(v:Aa)(l:List Cp):Prop:=(v= .slnil/\l=[])\/∃id,∃fs:List Cl,lo<=id/\v= .CF id 0 fs.length 3/\h[id]?=some (.cells (fs.map Cl.row).flatten)/\fs.map (·.c)=l
section
variable{h h':Ah}{lo lo':Nat}{v:Aa}
def Nc.cells{l:List Int}(hv:Nc h lo v l):v.cells=[v]:=by rcases hv with⟨rfl,_⟩|⟨id,_,rfl,_⟩<;>rfl
def MB.cells{l:List Cp}(hv:MB h lo v l):v.cells=[v]:=by rcases hv with⟨rfl,_⟩|⟨id,fs,_,rfl,_⟩<;>rfl
def Nc.Dj{l:List Int}(hv:Nc h lo v l)(hf:∀i,lo<=i->i<h.length->h'[i]?=h[i]?):Nc h' lo v l:=by
 rcases hv with hv|⟨id,h1,h2,d⟩
 .exact .inl hv
 .exact .inr ⟨id,h1,h2,by rw[hf id h1 (Ak.1 d).1];exact d⟩
def MB.Dj{l:List Cp}(hv:MB h lo v l)(hf:∀i,lo<=i->i<h.length->h'[i]?=h[i]?):MB h' lo v l:=by
 rcases hv with hv|⟨id,fs,h1,h2,d,e⟩
 .exact .inl hv
 .exact .inr ⟨id,fs,h1,h2,by rw[hf id h1 (Ak.1 d).1];exact d,e⟩
def MB.low{l:List Cp}(hv:MB h lo v l)(hl:lo'<=lo):MB h lo' v l:=by
 rcases hv with hv|⟨id,fs,h1,h2⟩
 .exact .inl hv
 .exact .inr ⟨id,fs,Ab,h2⟩
def Nc.RS{l:List Int}(hv:Nc h lo v l):P7 h v l:=by
 rcases hv with⟨rfl,rfl⟩|⟨id,_,rfl,hc⟩
 .exact⟨rfl,λk hk=>by simp at hk⟩
 .refine⟨rfl,λk hlt=>⟨Pt id k,by have:=EY (id:=id) (z:=1) (k:= .i64) hlt;rwa [FE] at this,?_⟩⟩;simp only[A8,hc,E6];simp[hlt]
def aBj{h u:Ah}{V:Aa}{L:List Int}(i:Nc (h++u) h.length V L)(hb:L.length<=1000000000)(x:Int):∃d g,Gb (h++u) 1 8 V (.sl 1 [[I x]])=some (h++d,g)/\Nc (h++d) h.length g (L++[x]):=by
 have dU:AX=140737488355328:=rfl;rcases i with⟨rfl,rfl⟩|⟨id,Ie,rfl,hc⟩
 .exact⟨u++[.cells [I x]],.CF (h++u).length 0 1 1,by rw[<-AI];rfl,.inr ⟨(h++u).length,AH,rfl,AH⟩⟩
 .have hr:∀r∈L.map Ce,r.length=1:=Mq (f:=Ce) (λ_=>rfl) L;have Jm:(h++u)[id]?=some (.cells (L.map Ce).flatten):=by rw[N4];exact hc
  have hg:=JN (b:=8) (AE:=L.map Ce) (r2:=[[I x]]) (v:= .sl 1 [[I x]]) hr AM Jm .mk AH (by rw[An];simp;omega);rw[An] at hg;have e:(h++u).set id .CR++[DA.cells (L.map Ce++[[I x]]).flatten]=h++(u.set (id-h.length) .CR++[.cells ((L++[x]).map (Aa.int .i64))]):=by rw[BO _ _ Ie,AI,KW,N4,BF];rfl
  rw[e] at hg;have aN:(h++(u.set (id-h.length) DA.CR++[.cells ((L++[x]).map (Aa.int .i64))]))=(h++u.set (id-h.length) DA.CR)++[.cells ((L++[x]).map (Aa.int .i64))]:=by rw[AI]
  have lM:(h++u.set (id-h.length) DA.CR).length=(h++u).length:=AH;refine⟨_,_,hg,.inr ⟨(h++u).length,AH,AH,?_⟩⟩;rw[aN,<-lM,Bm (Ag _),De];rfl
def aIr{h u:Ah}{V:Aa}{L:List Cp}(g:MB (h++u) h.length V L)(hb:L.length<=1000000000)(x:Cl):∃d f,Gb (h++u) 3 48 V (.sl 3 [x.row])=some (h++d,f)/\MB (h++d) h.length f (L++[x.c]):=by
 have dU:AX=140737488355328:=rfl;rcases g with⟨rfl,rfl⟩|⟨id,fs,Ie,rfl,hc,rfl⟩
 .exact⟨u++[.cells (([x]:List Cl).map Cl.row).flatten],.CF (h++u).length 0 1 3,by rw[<-AI];rfl,.inr ⟨(h++u).length,[x],AH,rfl,AH,rfl⟩⟩
 .rw[An] at hb;have hg:=JN (b:=48) (AE:=fs.map Cl.row) (r2:=[x.row]) (v:= .sl 3 [x.row]) (OD fs) AM hc .mk AH (by rw[An];simp;omega);rw[An] at hg;have e:(h++u).set id .CR++[.cells (fs.map Cl.row++[x.row]).flatten]=h++(u.set (id-h.length) .CR++[.cells ((fs++[x]).map Cl.row).flatten]):=by rw[BO _ _ Ie,AI,BF];rfl
  rw[e] at hg;have aN:(h++(u.set (id-h.length) DA.CR++[.cells ((fs++[x]).map Cl.row).flatten]))=(h++u.set (id-h.length) DA.CR)++[.cells ((fs++[x]).map Cl.row).flatten]:=by rw[AI]
  have lM:(h++u.set (id-h.length) DA.CR).length=(h++u).length:=AH;refine⟨_,_,hg,.inr ⟨(h++u).length,fs++[x],AH,AH,?_,AH⟩⟩;rw[aN,<-lM,Bm (Ag _),De];rfl
end
structure SS where
 mode:Int
 S0:Int
 tm:List Int
 AN:List Int
 A6:List Cp
 head:Int
 Fk:Int
 fs:Bool
 ET:Bool
 oL:Ai
 skip:Bool
 sw:Int
 stop:Bool
def BS.W9(b:BS):SS:=⟨b.mode,b.S0,b.tm,b.AN.map Item.node,b.A6,b.head,b.Fk,b.fs,b.ET,b.oL,b.skip,b.sw,b.stop⟩
def Vl(s:SS)(t o c:Aa):List Aa:=[I s.mode,I s.S0,t,o,c,I s.head,I s.Fk,.bool s.fs,.bool s.ET,.str s.oL,.bool s.skip,I s.sw,.bool s.stop]
structure Tn(h:Ah)(lo:Nat)(s:SS)(t o c:Aa):Prop where
 t:RT s.tm t
 o:Nc h lo o s.AN
 c:MB h lo c s.A6
section
variable{h h':Ah}{bi a lo:Nat}{o c t:Aa}{G G' F:Nat->Prop}{b:BS}{x:Int}{m:Nat}
def Tn.Dj{s:SS}(w:Tn h lo s t o c)(hf:∀i,lo<=i->i<h.length->h'[i]?=h[i]?):Tn h' lo s t o c:=⟨w.t,w.o.Dj hf,w.c.Dj hf⟩
def vQ{h:Ah}{n:Nat}(hn:n<=1000000000):Sg h 3 48 [I 0,S [],.slnil] (I (n:Int)) (I (n:Int))=some (h++[.cells (List.replicate n [I 0,S [],.slnil]).flatten],.CF h.length 0 n 3):=by
 have hm:AX=140737488355328:=rfl;unfold Sg;simp only
 rw[Af ⟨Ab,Ab,Ab,rfl⟩];rfl
def aNv(w:BX h bi a o c t G b)(hc:B2 b.A6 c)(rm:B6 b m):∃t' o' c' u,BL cx 48 [Pt bi 0] h (.agg (Vl b.W9 t' o' c')) (h++u)/\Tn (h++u) h.length b.W9 t' o' c':=by
 have dU:AX=140737488355328:=rfl;have ho:=rm.AN;have QE:=rm.A6;have M:=rm.tm;obtain⟨t',e0,Gc⟩:=aDN w.t.1 Ab h;have B:t'.cells=[t']:=Gc.1.cells;obtain⟨fs,Gu,hv⟩:=hc;have Hp:b.A6.length=fs.length:=by rw[<-Gu,An]
 have s:=AU.CN w.o;have I2:Ev cx 48 [Pt bi 0] h λr h'=>∃t' o' c' u,r= .agg (Vl b.W9 t' o' c')/\h'=h++u/\Tn (h++u) h.length b.W9 t' o' c':=by
  unfold Ev;rw[aC4,t48];simp only[abS,Nat.reduceLeDiff,↓reduceIte,AR,(Iy w).Ac,w.ld,Jo,e0.Ac,BI,B,s];refine DM (i:=0) (λz:Aa×Nat=>[.agg [I b.mode,I b.S0,t',z.1,.slnil,I b.head,I b.Fk,.bool b.fs,.bool b.ET,.str b.oL,.bool b.skip,I b.sw,.bool b.stop],I (z.2:Int)]) (λz h1=>z.2<=b.AN.length/\∃u,h1=h++u/\Nc (h++u) h.length z.1 ((b.AN.take z.2).map Item.node)) (λz=>b.AN.length-z.2) (λz h1=>∃u,h1=h++u/\Nc (h++u) h.length z.1 (b.AN.map Item.node)) (.slnil,0) rfl ⟨AV _,[],AH,.inl ⟨rfl,AH⟩⟩ ?_ ?_
  .rintro⟨V,n⟩ h1 ⟨hn,u,rfl,l⟩;simp only at hn l;have N:=l.cells;rcases AP n b.AN.length with hlt|Eg
   .have q:=AU.BK (k:= .i64) w.o hlt;rw[Item.row] at q;obtain⟨E,U,g1,j⟩:=aBj l (by rw[An,Aw];omega) b.AN[n].node;have g:=j.cells;have em:AD (.Dm 1) [I b.AN[n].node]=some (.sl 1 [[I b.AN[n].node]]):=rfl;simp only[abS,Nat.reduceLeDiff,↓reduceIte,(Ab:(n:Int)<(b.AN.length:Int)),q,em,g1,g,BM (Ab:n<9223372036854775807)];exact .next (U,n+1) rfl ⟨hlt,E,rfl,by rw[AB hlt,BF];exact j⟩ Dx
   .rw[AF Eg] at l;simp only[abS,↓reduceIte,(Ab:¬(n:Int)<(b.AN.length:Int))];exact .HF (V,n) rfl ⟨u,rfl,l⟩
  .rintro⟨O,W⟩ h1 ⟨u,rfl,p⟩;simp only at p;have P:=p.cells;have w1:=w.HJ (u:=u);have A:=w1.l3;have lc:=AU.CN hv;simp only[abS,↓reduceIte,A,lc];refine rG (vQ (h:=h++u) (n:=fs.length) Ab) ?_;obtain⟨d,f⟩:∃d,d=h++u:=⟨_,rfl⟩;rw[<-f] at p⊢;have T:(d++[DA.cells (List.replicate fs.length [I 0,S [],.slnil]).flatten])[d.length]?=some (.cells (List.replicate fs.length [I 0,S [],.slnil]).flatten):=AH;have y:A8 (d++[DA.cells (List.replicate fs.length [I 0,S [],.slnil]).flatten]) none (Pt bi 3)=some c:=by rw[f];exact(w1.HJ).l3
   have Š:(List.replicate fs.length [I 0,S [],Aa.slnil]).flatten.length=fs.length*3:=by rw[FQ (z:=3) (by intro r hr;rw[(List.mem_replicate.1 hr).2];rfl),FV]
   have R:E3 (.copy 3) (d++[DA.cells (List.replicate fs.length [I 0,S [],.slnil]).flatten]) [.CF d.length 0 fs.length 3,c]=some (d++[DA.cells (fs.map Cl.row).flatten],I (fs.length:Int)):=by
    have Q:GZ (d++[DA.cells (List.replicate fs.length [I 0,S [],.slnil]).flatten]) 3 c=some (fs.map Cl.row):=by
     rcases hv with rfl|⟨rfl,h0⟩
     .simp[GZ]
     .rw[h0];rfl
    simp only[E3,wW,Q,T];rw[Af ⟨trivial,AH,by rw[Š];omega⟩];have h1:(List.replicate fs.length [I 0,S [],Aa.slnil]).flatten.drop (0+(fs.map Cl.row).length*3)=[]:=AW (by rw[Š,An];omega);rw[h1,Ku,BR,By,An,BO _ _ (Ag _),De];rfl
   have K:AD (.len false) [.CF d.length 0 fs.length 3]=some (I (fs.length:Int)):=rfl;simp only[abS,↓reduceIte,y,R,K];refine DM (i:=2) (λn:Nat=>[I (n:Int)]) (λn h1=>n<=fs.length/\∃H9:List Cl,h1=d++[.cells (H9.map Cl.row).flatten]/\H9.length=fs.length/\H9.map (·.c)=b.A6) (λn=>fs.length-n) (λn h1=>∃H9:List Cl,h1=d++[.cells (H9.map Cl.row).flatten]/\H9.length=fs.length/\H9.map (·.c)=b.A6) 0 rfl ⟨AV _,fs,rfl,rfl,Gu⟩ ?_ ?_
   .rintro n h1 ⟨hn,H9,rfl,Wl,la⟩;rcases AP n fs.length with hlt|Eg
    .have RU:n<H9.length:=by omega
     have C:H9[n].c=b.A6[n]'(by omega):=by simp only[<-la,C1]
     have Wb:=(rm.DE H9[n].c (by rw[C];exact AL _)).2.1;have q:AD (.Fl 3) [.CF d.length 0 fs.length 3,I (n:Int)]=some (Pt d.length (n*3)):=EY hlt;have D:(d++[DA.cells (H9.map Cl.row).flatten])[d.length]?=some (.cells (H9.map Cl.row).flatten):=AH;have hg:(H9.map Cl.row)[n]?=some H9[n].row:=by rw[Cm,Al RU];rfl
     have L:A8 (d++[DA.cells (H9.map Cl.row).flatten]) none (Pt d.length (n*3+2))=some H9[n].v:=by simp only[A8,D,E6];exact Lw (OD H9) AM hg
     obtain⟨av,J,Zg⟩:=f45 (h:=d++[DA.cells (H9.map Cl.row).flatten]) H9[n].ok Ab;have aD7:av.cells=[av]:=AU.cells Zg;have H:Cv (d++[DA.cells (H9.map Cl.row).flatten]) 1 (Pt d.length (n*3+2)) av=some (d++[.cells ((H9.set n ⟨H9[n].c,av,Zg⟩).map Cl.row).flatten]):=by have e:=N1 (AE:=H9.map Cl.row) (i:=n) (k:=2) (v:=av) (OD H9) (by simpa using RU) AM;simp only[Cv,D,aD7,Be,MO];rw[Af (by rw[FQ (OD H9),An];omega),e,BO _ _ (Ag _),De,Eo,C1];rfl
     simp only[abS,(Ab:(n:Int)<(fs.length:Int)),q,L,J.Ac,H,BM (Ab:n<9223372036854775807)];refine .next (n+1) rfl ⟨hlt,_,rfl,by rw[Bq];exact Wl,?_⟩ Ab
     rw[Eo,la];have kh:n<b.A6.length:=Ab;show b.A6.set n H9[n].c=b.A6;rw[C,JR]
    .simp only[abS,(Ab:¬(n:Int)<(fs.length:Int))];exact .HF n rfl ⟨H9,rfl,Wl,la⟩
   .rintro n h1 ⟨H9,rfl,Wl,la⟩;simp only[BD,↓reduceIte];refine⟨_,rfl,t',O,.CF d.length 0 fs.length 3,u++[.cells (H9.map Cl.row).flatten],rfl,by rw[f,AI],Gc.1,?_,?_⟩;.rw[<-AI,<-f];exact p.Dj λi _ hi=>Aj hi
    .rw[<-AI,<-f];exact .inr ⟨d.length,H9,by rw[f];simp,by rw[Wl],AH,la⟩
 obtain⟨r,h',hr,t',o',c',u,rfl,rfl,hs⟩:=I2.ret;exact⟨t',o',c',u,hr,hs⟩
end
def PB(h:Ah)(bi:Nat)(b:BS)(F:Nat->Prop):Prop:=∃a o c t G,BX h bi a o c t G b/\B2 b.A6 c/\F=Bu bi G
structure Fin(b:BS)(j:Nat):Prop where
 ok:Ey b
 sz:Sz b j
section
variable{h h':Ah}{bi wi:Nat}{b:BS}{F F2:Nat->Prop}{q:pT}{av:Aa}{j:Nat}
def PB.lt(w:PB h bi b F){i:Nat}(hi:F i):i<h.length:=by
 obtain⟨a,o,c,t,G,w,_,rfl⟩:=w;rcases hi with rfl|hi
 .exact w.lt
 .exact w.w.lt hi
def PB.Dj(w:PB h bi b F)(hf:∀i,F i->h'[i]?=h[i]?):PB h' bi b F:=by obtain⟨a,o,c,t,G,w,hc,rfl⟩:=w;exact⟨a,o,c,t,G,w.Dj hf,hc,rfl⟩
def PB.HJ(w:PB h bi b F){u:Ah}:PB (h++u) bi b F:=w.Dj λi hi=>Aj (w.lt hi)
def aNx(w:PB h bi b F)(f:Fin b (j+1))(hq:ly q)(hv:Bt q.Ay av):∃h' F',BL cx 24 [Pt bi 0,.agg (LO q av)] h (.agg (YY b q).2.row) h'/\PB h' bi (YY b q).1 F'/\DC h F h' F':=by obtain⟨a,o,c,t,G,w,hc,rfl⟩:=w;obtain⟨h',o',c',t',G',r,w',Jm,x⟩:=aNq w hc f.ok f.sz hq hv;exact⟨h',_,r,⟨a,o',c',t',G',w',Jm,rfl⟩,x⟩
def aNy(s:EW)(hv:Bt s.Ay av)(hl:DL s.Ay)(h:Ah):∃h' bi F,BL cx 22 [.agg (MA s av)] h (Pt bi 0) h'/\PB h' bi s.b F/\DC h (λ_=>False) h' F:=by obtain⟨h',bi,a,o,c,t,G,r,w,hc,x⟩:=aNu h s hv hl;exact⟨h',bi,_,r,⟨a,o,c,t,G,w,hc,rfl⟩,x⟩
end
structure QO where
 q:pT
 v:Aa
 ok:Bt q.Ay v
def QO.row(x:QO):List Aa:=LO x.q x.v
def QO.CP{x:QO}:x.row.length=9:=rfl
def QO.H7{x:QO}:x.row.take 9=x.row:=rfl
def bX(l:List QO)(v:Aa):Prop:=AU 9 (l.map QO.row) v
noncomputable def J7:BS->List QO->BS
 |b,[]=>b
 |b,x::l=>J7 (YY b x.q).1 l
def Y4:∀{l:List QO} {b:BS} {x:QO},J7 b (l++[x])=(YY (J7 b l) x.q).1
 |[],_,_=>rfl
 |y::l,b,x=>by rw[CC,J7,Y4,J7]
structure vR(h:Ah)(v:Aa)(fs:List Cl):Prop where
 len:AD (.len false) [v]=some (I (fs.length:Int))
 at_:∀k (hk:k<fs.length),∃id o,AD (.Fl 3) [v,I (k:Int)]=some (Pt id o)/\A8 h none (Pt id o)=some (I fs[k].c.node)/\A8 h none (Pt id (o+1))=some (.str fs[k].c.name)/\A8 h none (Pt id (o+2))=some fs[k].v
def NRd(h:Ah)(x:ES)(r:List Aa):Prop:=∃K V,r=[I x.kind,I x.FM,K,I x.CQ,I x.Bc,.str x.name,V,.str x.data,.str x.pub,.str x.sys,.bool x.CK,I x.cont,I x.Em]/\P7 h K x.Bb/\Na h V x.Ay/\K.cells=[K]/\V.cells=[V]
def Y5(h:Ah)(v:Aa)(l:List ES):Prop:=∃AE:List (List Aa),AU 13 AE v/\AE.length=l.length/\∀k (h1:k<AE.length) (h2:k<l.length),NRd h l[k] AE[k]
def Y6(h:Ah)(lo:Nat)(v:Aa)(l:List ES):Prop:=∃AE:List (List Aa),AU 13 AE v/\AE.length=l.length/\∀k (h1:k<AE.length) (h2:k<l.length),VT h lo l[k] AE[k]
section
variable{h h':Ah}{lo lo':Nat}{v v':Aa}
def MB.at_{l:List Cp}(hv:MB h lo v l):∃fs:List Cl,fs.map (·.c)=l/\vR h v fs:=by
 rcases hv with⟨rfl,rfl⟩|⟨id,fs,_,rfl,hc,e⟩
 .exact⟨[],rfl,rfl,λk hk=>by simp at hk⟩
 .refine⟨fs,e,rfl,λk hk=>⟨id,k*3,EY hk,?_⟩⟩;have hg:(fs.map Cl.row)[k]?=some fs[k].row:=by rw[Cm,Al hk];rfl
  have ld:∀j,j<3->A8 h none (Pt id (k*3+j))=fs[k].row[j]?:=λj hj=>by simp only[A8,hc,E6];exact Lw (OD fs) hj hg
  have l0:=ld 0 AM;rw[Bv] at l0;exact⟨l0,ld 1 AM,ld 2 AM⟩
def Up.le{N b:Nat}(hu:Up N v)(hl:b<=N):Up b v:=λid k e=>Bs hl (hu id k e)
def VT.rd{x:ES}{r:List Aa}(hr:VT h lo x r):NRd h x r:=let⟨K,V,e,h1,h2,_⟩:=hr;⟨K,V,e,h1.RS,h2.in_,AU.cells h1,h2.cells⟩
def VT.low{x:ES}{r:List Aa}(hr:VT h lo x r)(hl:lo'<=lo):VT h lo' x r:=let⟨K,V,e,h1,h2,b⟩:=hr;⟨K,V,e,h1,h2,b.le hl⟩
def Y6.rd{l:List ES}(hv:Y6 h lo v l):Y5 h v l:=let⟨AE,h1,h2,c⟩:=hv;⟨AE,h1,h2,λk a b=>(c k a b).rd⟩
def f18{l:List Int}(hv:P7 h v l)(DJ:P7 h v' l)(hb:l.length<=1000000000):BL cx 144 [v,v'] h tt h:=by
 rw[Ae,Ă];simp only[abS,hv.len,DJ.len,BW,Cy];refine Bi (λn:Nat=>[ff,I (n:Int)]) (λn h1=>n<=l.length/\h1=h) (λn=>l.length-n) 0 rfl ⟨AV _,rfl⟩ ?_;rintro n h1 ⟨hn,rfl⟩;rcases AP n l.length with hlt|Eg
 .obtain⟨p,a1,a2⟩:=hv.at_ n hlt;obtain⟨p',b1,b2⟩:=DJ.at_ n hlt;simp only[abS,hv.len,(Ab:(n:Int)<(l.length:Int)),a1,a2,b1,b2,BW,Cy,BM (Ab:n<9223372036854775807)];exact AK.next (n+1) rfl ⟨hlt,rfl⟩ Ab
 .simp only[abS,hv.len,(Ab:¬(n:Int)<(l.length:Int))]
def aIs(y:A5):AD (.geq true [.i,.s,.s]) [.agg y.row,.agg y.row]=some (.bool false):=by rw[RI];simp[A5.row,D8,LC]
def aIt{l:List A5}(hv:Na h v l)(DJ:Na h v' l)(hb:l.length<=1000000000):BL cx 420 [v,v'] h tt h:=by
 rw[Ae,ň];simp only[abS,hv.len,DJ.len,BW,Cy];refine Bi (λn:Nat=>[ff,I (n:Int)]) (λn h1=>n<=l.length/\h1=h) (λn=>l.length-n) 0 rfl ⟨AV _,rfl⟩ ?_;rintro n h1 ⟨hn,rfl⟩;rcases AP n l.length with hlt|Eg
 .obtain⟨p,a1,a2⟩:=hv.at_ n hlt;obtain⟨p',b1,b2⟩:=DJ.at_ n hlt;simp only[abS,hv.len,(Ab:(n:Int)<(l.length:Int)),a1,a2,b1,b2,aIs,BM (Ab:n<9223372036854775807)];exact AK.next (n+1) rfl ⟨hlt,rfl⟩ Ab
 .simp only[abS,hv.len,(Ab:¬(n:Int)<(l.length:Int))]
def f87{fs ū:List Cl}(hv:vR h v fs)(DJ:vR h v' ū)(he:fs.map (·.c)=ū.map (·.c))(hb:fs.length<=1000000000)(ha:∀e∈fs,e.c.Ay.length<=1000000000):BL cx 145 [v,v'] h tt h:=by
 have hl:ū.length=fs.length:=by have:=Ca List.length he;simpa using this.symm
 have l1:=hv.len;have i:=DJ.len;rw[hl] at i;rw[Ae,ă];simp only[abS,l1,i,BW,Cy];refine Bi (λn:Nat=>[ff,I (n:Int)]) (λn h1=>n<=fs.length/\h1=h) (λn=>fs.length-n) 0 rfl ⟨AV _,rfl⟩ ?_;rintro n h1 ⟨hn,rfl⟩;rcases AP n fs.length with hlt|Eg
 .have Tc:n<ū.length:=by omega
  have p:ū[n].c=fs[n].c:=by have:=Ca (λl=>l[n]?) he;simp only[Cm,Al hlt,Al Tc,B0,BB] at this;exact this.symm
  obtain⟨id,o,a1,a2,a3,a4⟩:=hv.at_ n hlt;obtain⟨FN,o',b1,b2,b3,b4⟩:=DJ.at_ n Tc;rw[p] at b2 b3;have Zg:Bt fs[n].c.Ay fs[n].v:=fs[n].ok;have aIu:Bt fs[n].c.Ay ū[n].v:=by rw[<-p];exact ū[n].ok
  have Zl:=ha _ (AL hlt);have d:=AU.CN Zg;have q:=AU.CN aIu;generalize fs[n].v=av at*;generalize ū[n].v=Vk at*;generalize fs[n].c.Ay=b at*;simp only[abS,l1,(Ab:(n:Int)<(fs.length:Int)),a1,a2,a3,a4,b1,b2,b3,b4,BW,Cy,d,q];refine Bi (λj:Nat=>[ff,I (j:Int)]) (λj h2=>j<=b.length/\h2=h1) (λj=>b.length-j) 0 rfl ⟨AV _,rfl⟩ ?_;rintro j h2 ⟨hj,rfl⟩;rcases AP j b.length with aD|r
  .have t:=AU.BK (k:= .i64) Zg aD;have s:=AU.BK (k:= .i64) aIu aD;have g:(A5.row b[j]).length=3:=rfl;have f:(A5.row b[j]).take 3=A5.row b[j]:=rfl;simp only[abS,a1,a4,b1,b4,d,(Ab:(j:Int)<(b.length:Int)),t,s,g,f,Ag,aIs,BM (Ab:j<9223372036854775807)];exact AK.next (j+1) rfl ⟨aD,rfl⟩ Ab
  .simp only[abS,a1,a4,d,(Ab:¬(j:Int)<(b.length:Int)),BM (Ab:n<9223372036854775807)];exact AK.next (n+1) rfl ⟨hlt,rfl⟩ Ab
 .simp only[abS,l1,(Ab:¬(n:Int)<(fs.length:Int))]
def f22{s:SS}{t o c t' o' c':Aa}(w:Tn h lo s t o c)(w':Tn h lo' s t' o' c')(b1:s.tm.length<=1000000000)(b2:s.AN.length<=1000000000)(b3:s.A6.length<=1000000000)(b4:∀e∈s.A6,e.Ay.length<=1000000000):BL cx 47 [.agg (Vl s t o c),.agg (Vl s t' o' c')] h tt h:=by
 obtain⟨fs,d,he⟩:=w.c.at_;obtain⟨ū,b,QT⟩:=w'.c.at_;have g:=f18 w.o.RS w'.o.RS b2;have r2:=f87 he QT (d.trans b.symm) (by rw[<-d,An] at b3;exact b3) (λe hm=>b4 e.c (by rw[<-d];exact O7 hm));have p:t.cells=[t]:=w.t.cells;have f:t'.cells=[t']:=w'.t.cells;have q:=w.o.cells;have i:=w'.o.cells;have r:=w.c.cells;have l:=w'.c.cells;have l1:=w.t.len;have j:=w'.t.len;rw[Ae,aC3,Vl,Vl];simp only[abS,l1,j,BW,Cy,g.Ac,r2.Ac];refine Bi (λn:Nat=>[ff,I (n:Int)]) (λn h1=>n<=s.tm.length/\h1=h) (λn=>s.tm.length-n) 0 rfl ⟨AV _,rfl⟩ ?_;rintro n h1 ⟨hn,rfl⟩;rcases AP n s.tm.length with hlt|Eg
 .have a1:=AU.BK (k:= .i64) (w.t.ne λe=>by rw[e] at hlt;simp at hlt) hlt;have a2:=AU.BK (k:= .i64) (w'.t.ne λe=>by rw[e] at hlt;simp at hlt) hlt;rw[Ce] at a1 a2;simp only[abS,l1,(Ab:(n:Int)<(s.tm.length:Int)),a1,a2,BW,Cy,BM (Ab:n<9223372036854775807)];exact AK.next (n+1) rfl ⟨hlt,rfl⟩ Ab
 .simp only[abS,l1,(Ab:¬(n:Int)<(s.tm.length:Int)),Cy,Dz]
def aNA{x:ES}{r r':List Aa}(hr:NRd h x r)(FZ:NRd h x r')(hb:x.Ay.length<=1000000000):BL cx 386 [.agg r,.agg r'] h tt h:=by obtain⟨K,V,rfl,k,f,j,i⟩:=hr;obtain⟨o,l,rfl,g,b,e,d⟩:=FZ;have c:=aIt f b hb;rw[Ae,Ń];simp only[abS,Cy,c.Ac,Dz]
def aNB{x:ES}{r r':List Aa}(hr:NRd h x r)(FZ:NRd h x r')(hb:x.Ay.length<=1000000000)(hk:x.Bb.length<=1000000000):BL cx 295 [.agg r,.agg r'] h tt h:=by have c:=aNA hr FZ hb;obtain⟨K,V,rfl,g,k,j,i⟩:=hr;obtain⟨o,l,rfl,b,f,e,d⟩:=FZ;have r2:=f18 g b hk;rw[Ae,ĭ];simp only[BD,Cy,c.Ac,r2.Ac,Dz]
def f90{l:List ES}(hv:Y5 h v l)(DJ:Y5 h v' l)(hb:l.length<=1000000000)(ha:∀x∈l,x.Ay.length<=1000000000/\x.Bb.length<=1000000000):BL cx 150 [v,v'] h tt h:=by
 obtain⟨AE,i,s,q⟩:=hv;obtain⟨b,c,g,e⟩:=DJ;have l1:=i.len;have p:=c.len;rw[s] at l1;rw[g] at p;rw[Ae,Ć];simp only[abS,l1,p,BW,Cy];refine Bi (λn:Nat=>[ff,I (n:Int)]) (λn h1=>n<=l.length/\h1=h) (λn=>l.length-n) 0 rfl ⟨AV _,rfl⟩ ?_;rintro n h1 ⟨hn,rfl⟩;rcases AP n l.length with hlt|Eg
 .have a1:=i.Fl (k:= .i64) (Ab:n<AE.length);have a2:=c.Fl (k:= .i64) (Ab:n<b.length);have o:=q n Ab hlt;have j:=e n Ab hlt;have hm:=ha _ (AL hlt);have d:=aNB o j hm.1 hm.2;obtain⟨K,V,r,_⟩:=o;obtain⟨u,t,f,_⟩:=j;rw[r] at a1 d;rw[f] at a2 d;simp only[abS,Nat.reduceLeDiff,↓reduceIte,l1,(Ab:(n:Int)<(l.length:Int)),a1,a2,d.Ac,BM (Ab:n<9223372036854775807)];exact AK.next (n+1) rfl ⟨hlt,rfl⟩ Ab
 .simp only[abS,↓reduceIte,l1,(Ab:¬(n:Int)<(l.length:Int))]
end
def vS{A:Ar}{k:Nat}(hk:k<A.n.length):A.has ((k:Int)+1)/\A.nd ((k:Int)+1)=A.n[k]:=by
 have h1:A.has ((k:Int)+1):=by unfold Ar.has;omega
 refine⟨h1,?_⟩;unfold Ar.nd;rw[Af h1,AJ,(Ab:((k:Int)+1).toNat-1=k),Al hk];rfl
section
variable{h h':Ah}{a n:Nat}{m:Option Nat}{ps:List PN}{A:Ar}{x:Int}
def aNC(w:PA h a n m ps A)(p:Nw A)(hk:∀x,(A.nd x).Bb.length<=1000000000)(hb:A.n.length<=900000000):∃v u,BL cx 151 [Pt a 0] h v (h++u)/\Y6 (h++u) h.length v A.n:=by
 have dU:AX=140737488355328:=rfl;have lJ:A.n.length=ps.length:=by rw[w.e,An]
 have I2:Ev cx 151 [Pt a 0] h λr h'=>∃u,h'=h++u/\Y6 (h++u) h.length r A.n:=by
  unfold Ev;rw[ć];simp only[BD,lO,w.nodes,show AD (.len false) [.CF n 0 ps.length 13]=some (I (ps.length:Int)) from rfl];refine Bi (λz:Aa×Nat=>[z.1,I (z.2:Int)]) (λz h1=>z.2<=ps.length/\∃u,h1=h++u/\Y6 (h++u) h.length z.1 (A.n.take z.2)) (λz=>ps.length-z.2) (.slnil,0) rfl ⟨AV _,[],AH,[],.nil,AH,λk h1 h2=>by simp at h1⟩ ?_;rintro⟨V,k⟩ h1 ⟨Zp,u,rfl,c⟩;simp only at Zp c;have w1:PA (h++u) a n m ps A:=w.Dj λi hi=>Aj (w.lt i hi);rcases AP k ps.length with hlt|Eg
  .obtain⟨hx,ex⟩:=vS (A:=A) (k:=k) Ab;obtain⟨r,t,l,hr⟩:=aAY w1 p hx (hk _);have ea:AD (.Fl 13) [.CF n 0 ps.length 13,I (k:Int)]=some (.ptr (some (n,nP n ((k:Int)+1)))):=by have:=EY (k:= .i64) (id:=n) (z:=13) hlt;rw[this];unfold nP;congr 4
   obtain⟨AE,g,d,o⟩:=c;rw[Aw,Cs Ab] at d;obtain⟨K,W,f,LW⟩:=hr;have em:AD (.Dm 13) [.agg r]=some (.sl 13 [r]):=Mp (a:= .agg r) (by rw[f];rfl) AM;have s:=AU.tJ (b:=168) (row:=r) g Ab;simp only[abS,(Ab:(k:Int)<(ps.length:Int)),w1.nodes,ea,l.Ac,em,s,BM (Ab:k<9223372036854775807)];refine AK.next (_,k+1) rfl ⟨hlt,u++t,by rw[AI],AE++[r],.mk,by rw[Au,Aw,d];simp;omega,λj h1 h2=>?_⟩ Dx;rw[<-AI];rw[aQb];by_cases hj:j<AE.length;.rw[Gl hj];have:=o j hj (by rw[Aw];omega);rw[aQb] at this;exact this.HJ
   .have q:j=k:=by simp at h1;omega
    subst q;rw[K_ Ab];simp only[d,De,aEI];rw[<-ex];exact VT.low (lo:=(h++u).length) ⟨K,W,f,LW⟩ AH
  .rw[AF Ab] at c;simp only[abS,(Ab:¬(k:Int)<(ps.length:Int))];exact⟨_,rfl,u,rfl,c⟩
 obtain⟨r,h',hr,u,rfl,c⟩:=I2.ret;exact⟨r,u,hr,c⟩
end
structure RN where
 x:ES
 kv:Aa
 av:Aa
 okk:D4 x.Bb kv
 oka:Bt x.Ay av
def RN.row(p:RN):List Aa:=[I p.x.kind,I p.x.FM,p.kv,I p.x.CQ,I p.x.Bc,.str p.x.name,p.av,.str p.x.data,.str p.x.pub,.str p.x.sys,.bool p.x.CK,I p.x.cont,I p.x.Em]
def RN.z:RN:=⟨{},.slnil,.slnil,.inr ⟨rfl,rfl⟩,.inr ⟨rfl,rfl⟩⟩
def yl(l:List RN):∀r∈l.map RN.row,r.length=13:=Mq (f:=RN.row) (λ_=>rfl) l
structure RA(h:Ah)(a n i:Nat)(ps:List RN)(A:Ar):Prop where
 e:A.n=ps.map RN.x
 il:A.i.length=A.n.length
 ha:h[a]?=some (.cells [.CF n 0 (ps.length+1) 13,.CF i 0 (ps.length+1) 1])
 hn:h[n]?=some (.cells ((RN.z::ps).map RN.row).flatten)
 hi:h[i]?=some (.cells ((0::A.i).map (Aa.int .i64)))
 d:a≠n/\a≠i/\n≠i
def JB(a n i:Nat):Nat->Prop:=λj=>j=a\/j=n\/j=i
def RW(h:Ah)(G:Nat->Prop)(a:Nat)(A:Ar):Prop:=∃n i ps,RA h a n i ps A/\G=JB a n i
def pR(ps:List RN)(x:Int):RN:=(RN.z::ps).getD x.toNat RN.z
def nR(x:Int):Nat:=x.toNat*13
section
variable{h h':Ah}{a n i:Nat}{ps:List RN}{A:Ar}{x:Int}{G:Nat->Prop}
def RA.Dj(w:RA h a n i ps A)(hf:∀j,JB a n i j->h'[j]?=h[j]?):RA h' a n i ps A:=
 ⟨w.e,w.il,by rw[hf a (.inl rfl)];exact w.ha,by rw[hf n (.inr (.inl rfl))];exact w.hn,by rw[hf i (.inr (.inr rfl))];exact w.hi,w.d⟩
def RA.lt(w:RA h a n i ps A){j:Nat}(hj:JB a n i j):j<h.length:=by
 rcases hj with rfl|rfl|rfl
 .exact(Ak.1 w.ha).1
 .exact(Ak.1 w.hn).1
 .exact(Ak.1 w.hi).1
def RW.Dj(w:RW h G a A)(hf:∀j,G j->h'[j]?=h[j]?):RW h' G a A:=by obtain⟨n,i,ps,w,rfl⟩:=w;exact⟨n,i,ps,w.Dj hf,rfl⟩
def RW.lt(w:RW h G a A){j:Nat}(hj:G j):j<h.length:=by obtain⟨n,i,ps,w,rfl⟩:=w;exact w.lt hj
def RA.len(w:RA h a n i ps A):A.n.length=ps.length:=by rw[w.e,An]
def RA.nodes(w:RA h a n i ps A):A8 h none (Pt a 0)=some (.CF n 0 (ps.length+1) 13):=by simp only[A8,w.ha];rfl
def RA.YQ(w:RA h a n i ps A):A8 h none (Pt a 1)=some (.CF i 0 (ps.length+1) 1):=by simp only[A8,w.ha];rfl
def RA.at(w:RA h a n i ps A)(hx:A.has x):x.toNat<ps.length+1/\(x.toNat:Int)=x:=by have h1:=hx.1;have h2:=hx.2;rw[w.len] at h2;omega
def RA.pn(w:RA h a n i ps A)(hx:A.has x):(RN.z::ps)[x.toNat]?=some (pR ps x)/\(pR ps x).x=A.nd x:=by
 have h1:=(w.at hx).1;have h2:=hx.1;have hl:x.toNat<(RN.z::ps).length:=by simpa using h1
 refine⟨by unfold pR;rw[AJ,Al hl];rfl,?_⟩;unfold Ar.nd pR;rw[Af hx,w.e];obtain⟨k,hk⟩:∃k,x.toNat=k+1:=⟨x.toNat-1,Ab⟩;rw[hk,aKz,E8,AJ,AJ,Cm];have:k<ps.length:=Ab;rw[Al this];rfl
def RA.PR(w:RA h a n i ps A)(hx:A.has x){k:Nat}(hk:k<13):A8 h none (Pt n (nR x+k))=(pR ps x).row[k]?:=by unfold nR;simp only[A8,w.hn,E6];exact Lw (yl _) hk (by rw[Cm,(w.pn hx).1];rfl)
def RA.addr(w:RA h a n i ps A)(hx:A.has x):AD (.Fl 13) [.CF n 0 (ps.length+1) 13,I x]=some (Pt n (nR x)):=by obtain⟨h1,h2⟩:=w.at hx;have:=EY (k:= .i64) (id:=n) (z:=13) h1;rwa [h2] at this
def RA.f0(w:RA h a n i ps A)(hx:A.has x):A8 h none (Pt n (nR x))=some (I (A.nd x).kind):=by have:=w.PR hx (k:=0) AM;rw[Bv] at this;rw[this,<-(w.pn hx).2];rfl
def RA.f1(w:RA h a n i ps A)(hx:A.has x):A8 h none (Pt n (nR x+1))=some (I (A.nd x).FM):=by rw[w.PR hx AM,<-(w.pn hx).2];rfl
def RA.f2(w:RA h a n i ps A)(hx:A.has x):A8 h none (Pt n (nR x+2))=some (pR ps x).kv:=by rw[w.PR hx AM];rfl
def RA.f3(w:RA h a n i ps A)(hx:A.has x):A8 h none (Pt n (nR x+3))=some (I (A.nd x).CQ):=by rw[w.PR hx AM,<-(w.pn hx).2];rfl
def RA.f4(w:RA h a n i ps A)(hx:A.has x):A8 h none (Pt n (nR x+4))=some (I (A.nd x).Bc):=by rw[w.PR hx AM,<-(w.pn hx).2];rfl
def RA.f5(w:RA h a n i ps A)(hx:A.has x):A8 h none (Pt n (nR x+5))=some (.str (A.nd x).name):=by rw[w.PR hx AM,<-(w.pn hx).2];rfl
def RA.f6(w:RA h a n i ps A)(hx:A.has x):A8 h none (Pt n (nR x+6))=some (pR ps x).av:=by rw[w.PR hx AM];rfl
def RA.f7(w:RA h a n i ps A)(hx:A.has x):A8 h none (Pt n (nR x+7))=some (.str (A.nd x).data):=by rw[w.PR hx AM,<-(w.pn hx).2];rfl
def RA.f11(w:RA h a n i ps A)(hx:A.has x):A8 h none (Pt n (nR x+11))=some (I (A.nd x).cont):=by rw[w.PR hx AM,<-(w.pn hx).2];rfl
def RA.f12(w:RA h a n i ps A)(hx:A.has x):A8 h none (Pt n (nR x+12))=some (I (A.nd x).Em):=by rw[w.PR hx AM,<-(w.pn hx).2];rfl
def RA.M4(w:RA h a n i ps A)(hx:A.has x):D4 (A.nd x).Bb (pR ps x).kv:=by rw[<-(w.pn hx).2];exact(pR ps x).okk
def RA.xf(w:RA h a n i ps A)(hx:A.has x):Bt (A.nd x).Ay (pR ps x).av:=by rw[<-(w.pn hx).2];exact(pR ps x).oka
def RA.wr(w:RA h a n i ps A)(hx:A.has x){k:Nat}(hk:k<13){v:Aa}(hv:v.cells=[v]){p:RN}(hp:p.row=(pR ps x).row.set k v):
  ∃h',Cv h 1 (Pt n (nR x+k)) v=some h'/\RA h' a n i (ps.set (x.toNat-1) p) (A.set x p.x)/\DC h (JB a n i) h' (JB a n i)/\h'.length=h.length:=by
 obtain⟨hlt,b⟩:=w.at hx;have h1:=hx.1;have hg:=(w.pn hx).1;have Tc:x.toNat<(RN.z::ps).length:=by simpa using hlt
 rw[Al Tc,BB] at hg;have e:=N1 (AE:=(RN.z::ps).map RN.row) (i:=x.toNat) (k:=k) (v:=v) (yl _) (by simpa using hlt) hk;rw[C1,hg,<-hp,<-Eo] at e;have es:(RN.z::ps).set x.toNat p=RN.z::ps.set (x.toNat-1) p:=by obtain⟨j,hj⟩:∃j,x.toNat=j+1:=⟨x.toNat-1,Ab⟩;rw[hj,aOL,E8]
 rw[es] at e;have OX:=w.lt (.inr (.inl rfl));refine⟨h.set n (.cells ((RN.z::ps.set (x.toNat-1) p).map RN.row).flatten),?_,⟨?_,?_,?_,AO OX,?_,w.d⟩,⟨by rw[Bq];exact Ag _,λj _ hn=>Ao λe=>hn (.inr (.inl e.symm)),λj hj=> .inl hj⟩,Bq⟩;.unfold nR;simp only[Cv,w.hn,hv,Be,MO];rw[Af (by rw[FQ (yl _),An];have:=DY 13 (show x.toNat+1<=(RN.z::ps).length from Tc);omega),e]
 .unfold Ar.set;simp only;rw[Af hx,w.e,Eo]
 .unfold Ar.set;simp only;rw[Af hx,Bq];exact w.il
 .rw[Ao (DG w.d.1),Bq];exact w.ha
 .rw[Ao w.d.2.2];exact w.hi
def Ia(w:RA h a n i ps A):BL cx 281 [Pt a 0,I x] h (.bool (decide (A.has x))) h:=by
 have hl:=w.len;rw[Ae,ģ];by_cases h0:0<x
 .have e:decide (A.has x)=decide (x<((ps.length+1:Nat):Int)):=by rw[Dd];unfold Ar.has;omega
  rw[e];simp only[BD,lO,h0,w.nodes,show AD (.len false) [.CF n 0 (ps.length+1) 13]=some (I ((ps.length+1:Nat):Int)) from rfl]
 .have e:decide (A.has x)=false:=by rw[Ap];unfold Ar.has;omega
  rw[e];simp only[abS,h0]
def aIv(w:RA h a n i ps A):BL cx 411 [Pt a 0,I x] h (I (A.nd x).FM) h:=by
 rw[Ae,Ņ];by_cases hx:A.has x;.simp only[abS,(Ia (x:=x) w).Ac,As hx,w.nodes,w.addr hx,w.f1 hx]
 .rw[HK hx];simp only[abS,(Ia (x:=x) w).Ac,Ap hx]
def ym(w:RA h a n i ps A)(hb:(A.nd x).Bb.length<=1000000000):∃v,BL cx 212 [Pt a 0,I x] h v h/\D4 (A.nd x).Bb v:=by
 have hm:AX=140737488355328:=rfl;by_cases hx:A.has x;.obtain⟨u,e,hu⟩:=AU.Gy (b:=8) (w.M4 hx) Ab;refine⟨u,?_,hu⟩;rw[Ae,zK];simp only[abS,(Ia (x:=x) w).Ac,As hx,w.nodes,w.addr hx,w.f2 hx,e]
 .refine⟨.slnil,?_,by rw[HK hx];exact .inr ⟨rfl,rfl⟩⟩;rw[Ae,zK];simp only[abS,(Ia (x:=x) w).Ac,Ap hx]
def aIw(w:RA h a n i ps A)(hx:A.has x):BL cx 418 [Pt a 0,I x] h (I (A.up x)) h:=by
 rw[Ae,Ň];by_cases hp:(A.nd x).FM=0
 .have e:A.up x=(A.nd x).Em:=by unfold Ar.up;rw[Ad (by simpa using hp)]
  simp only[abS,w.nodes,w.addr hx,w.f1 hx,hp,w.f12 hx,e,BW,Cy]
 .have e:A.up x=(A.nd x).FM:=by unfold Ar.up;rw[Af (by simpa using hp)]
  simp only[abS,w.nodes,w.addr hx,w.f1 hx,hp,e,BW]
end
def aIx{A:Ar}{e x:Int}(ok:EJ A e)(hx:A.has x)(h0:A.up x≠0):A.has (A.up x):=by
 unfold Ar.up at h0⊢;split at h0;.rename_i h;rw[Af h];exact(ok.FM x hx h).1
 .rename_i h;rw[Ad h];exact(ok.Em x hx h0).1
def ma{A:Ar}{t x:Int}(hne:x≠t):Reach A t x↔A.up x≠0/\Reach A t (A.up x):=by
 constructor
 .intro h;cases h with
  |refl=>exact absurd rfl hne
  |step h1 h2=>exact⟨h1,h2⟩
 .exact λh=> .step h.1 h.2
section
variable{h h':Ah}{a n i:Nat}{ps:List RN}{A:Ar}{x:Int}{G:Nat->Prop}
open Classical in
def aIy{up e:Int}(w:RA h a n i ps A)(ok:EJ A e)(hu:A.has up)(hx:A.has x):BL cx 379 [Pt a 0,I up,I x] h (.bool (decide (Reach A up x))) h:=by
 obtain⟨r,hr⟩:=ok.eR;have d:up≠0:=by have:=hu.1;omega
 rw[Ae,ľ];simp only[abS,(Ia (x:=up) w).Ac,(Ia (x:=x) w).Ac,As hu,As hx];refine Bi (λc:Int=>[I c,ff]) (λc h1=>(c=0\/A.has c)/\(Reach A up x↔c≠0/\Reach A up c)/\h1=h) (λc=>if c=0 then 0 else r c+1) x rfl ⟨.inr hx,⟨λh=>⟨by have:=hx.1;omega,h⟩,λh=>h.2⟩,rfl⟩ ?_;rintro c h1 ⟨hc,he,rfl⟩;by_cases h0:c=0;.have e:decide (Reach A up x)=false:=Ap (λf=>(he.1 f).1 h0);simp only[abS,h0,BW,e]
 .have hc:=hc.resolve_left h0;by_cases b:c=up;.have e:decide (Reach A up x)=true:=As (he.2 ⟨h0,by rw[b];exact .refl⟩);simp only[abS,h0,BW,AQ b,e]
  .simp only[abS,h0,BW,b,(aIw w hc).Ac];refine AK.next (A.up c) rfl ⟨?_,?_,rfl⟩ ?_
   .by_cases hz:A.up c=0;.exact .inl hz
    .exact .inr (aIx ok hc hz)
   .rw[he,ma b];exact⟨λh=>h.2,λh=>⟨h0,h⟩⟩
   .by_cases hz:A.up c=0;.rw[Af hz,Ad h0];omega
    .rw[Ad hz,Ad h0];have:=hr c hc hz;omega
def aIz{v:Aa}{l:List Int}(hv:D4 l v)(hb:l.length<=1000000000)(x:Int)(h:Ah):∃u,BL cx 380 [v,I x] h u h/\D4 (l.filter λk=>decide (k≠x)) u:=by
 have hm:AX=140737488355328:=rfl;have I2:Ev cx 380 [v,I x] h λr h'=>D4 (l.filter λk=>decide (k≠x)) r/\h'=h:=by
  unfold Ev;rw[Ŀ];refine Bi (λs:Aa×Nat=>[s.1,I (s.2:Int)]) (λs h1=>s.2<=l.length/\D4 ((l.take s.2).filter λk=>decide (k≠x)) s.1/\h1=h) (λs=>l.length-s.2) (.slnil,0) rfl ⟨AV _,.inr ⟨rfl,rfl⟩,rfl⟩ ?_;rintro⟨u,k⟩ h1 ⟨hk,hu,rfl⟩;simp only at hk hu;have hvl:=AU.CN hv;rcases AP k l.length with hlt|Eg
  .have c:=AU.BK (k:= .i64) hv hlt;rw[Ce] at c;have em:AD (.Dm 1) [I l[k]]=some (.sl 1 [Ce l[k]]):=rfl;have Hp:((l.take k).filter λk=>decide (k≠x)).length<=l.length:=Bs (V4 _ _) (by rw[Aw];omega);have d:=AU.J2 (b:=8) (a:=l[k]) hu Ab;simp only[abS,hvl,(Ab:(k:Int)<(l.length:Int)),c,em,d,BM (Ab:k<9223372036854775807),BW];refine⟨λh2=>?_,λh2=>?_⟩
   .refine AK.next (_,k+1) rfl ⟨hlt,?_,rfl⟩ Dx;rw[AB hlt,DZ];have:[l[k]].filter (λk=>decide (k≠x))=[l[k]]:=by simp[h2]
    rw[this];exact .mk
   .refine AK.next (u,k+1) rfl ⟨hlt,?_,rfl⟩ Dx;rw[AB hlt,DZ];have h2:l[k]=x:=by simpa using h2
    have:[l[k]].filter (λk=>decide (k≠x))=[]:=by simp[h2]
    rw[this,By];exact hu
  .rw[AF Eg] at hu;simp only[abS,hvl,(Ab:¬(k:Int)<(l.length:Int))];exact⟨_,rfl,hu⟩
 obtain⟨r,h',hr,hu,rfl⟩:=I2.ret;exact⟨r,hr,hu⟩
def aIA(w:RA h a n i ps A)(hx:A.has x)(hb:∀y,(A.nd y).Bb.length<=1000000000){e:Int}(ok:EJ A e):∃h' JA,BL cx 278 [Pt a 0,I x] h (I 0) h'/\RA h' a n i JA (A.cut x)/\DC h (JB a n i) h' (JB a n i):=by
 by_cases hp:(A.nd x).FM=0;.refine⟨h,ps,?_,by unfold Ar.cut;simp only;rw[Af hp];exact w,.refl⟩;rw[Ae,aq];simp only[abS,(Ia (x:=x) w).Ac,As hx,w.nodes,w.addr hx,w.f1 hx,hp,BW]
 .obtain⟨hq,_⟩:=ok.FM x hx hp;obtain⟨q,eq⟩:∃q,q=(A.nd x).FM:=⟨_,rfl⟩;rw[<-eq] at hp hq;obtain⟨u,m,hu⟩:=aIz (w.M4 hq) (hb q) x h;obtain⟨h1,l,w1,f,l1⟩:=w.wr hq (k:=2) AM (v:=u) (AU.cells hu) (p:=⟨{A.nd q with Bb:=(A.nd q).Bb.filter λk=>decide (k≠x)},u,(pR ps q).av,hu,w.xf hq⟩) (by simp only[RN.row];rw[(w.pn hq).2];rfl);have Pd:(A.set q {A.nd q with Bb:=(A.nd q).Bb.filter λk=>decide (k≠x)}).has x:=Iv.2 hx;have ZQ:=(w1.pn Pd).2;obtain⟨h2,j,g,d,s⟩:=w1.wr Pd (k:=1) AM (v:=I 0) rfl (p:=⟨{(A.set q {A.nd q with Bb:=(A.nd q).Bb.filter λk=>decide (k≠x)}).nd x with FM:=0},(pR _ x).kv,(pR _ x).av,w1.M4 Pd,w1.xf Pd⟩) (by simp only[RN.row];rw[ZQ];rfl);have o:A.cut x=(A.set q {A.nd q with Bb:=(A.nd q).Bb.filter λk=>decide (k≠x)}).set x {(A.set q {A.nd q with Bb:=(A.nd q).Bb.filter λk=>decide (k≠x)}).nd x with FM:=0}:=by unfold Ar.cut;simp only;rw[<-eq,Ad hp]
  refine⟨h2,_,?_,by rw[o];exact g,f.trans d⟩;have r:(A.nd x).FM=q:=eq.symm;have b:=w1.nodes;have c:=w1.addr Pd;rw[Bq] at b c;rw[Ae,aq];simp only[abS,(Ia (x:=x) w).Ac,As hx,w.nodes,w.addr hx,w.f1 hx,r,hp,BW,w.addr hq,w.f2 hq,m.Ac,BI,l,b,j]
open Classical in
def aIB{p b e:Int}(w:RA h a n i ps A)(ok:EJ A e):∃q:Int,BL cx 277 [Pt a 0,I p,I x,I b] h (I q) h/\(q=0↔ug A p x b):=by
 by_cases hp:A.has p;rotate_left;.refine⟨3,?_,⟨λh=>absurd h AM,λf=>absurd f.hp hp⟩⟩;rw[Ae,Kp];simp only[abS,(Ia (x:=p) w).Ac,Ap hp,A0]
 by_cases hx:A.has x;rotate_left;.refine⟨3,?_,⟨λh=>absurd h AM,λf=>absurd f.hn hx⟩⟩;rw[Ae,Kp];simp only[abS,(Ia (x:=p) w).Ac,As hp,(Ia (x:=x) w).Ac,Ap hx,A0]
 by_cases hb:b≠0/\¬A.has b;.refine⟨3,?_,⟨λh=>absurd h AM,λf=>absurd (f.hb hb.1).1 hb.2⟩⟩;rw[Ae,Kp];simp only[abS,(Ia (x:=p) w).Ac,As hp,(Ia (x:=x) w).Ac,As hx,BW,hb.1,(Ia (x:=b) w).Ac,Ap hb.2,A0]
 have m:b≠0->A.has b:=λh0=>by
  by_cases h1:A.has b;.exact h1
  .exact absurd ⟨h0,h1⟩ hb
 have first:∀(Q:HG) (k:DX->List Aa->IT),W cx (k .normal [ff]) Q h->W cx (.Of 200001 (.call 281 [Pt a 0,I p] λv0=> .op (.un .not) [v0] λs=> .Gg s (.ret .normal [tt]) (.call 281 [Pt a 0,I x] λv2=> .op (.un .not) [v2] λv3=> .Gg v3 (.ret .normal [tt]) (.op (.int .neq) [I b,I 0] λv4=> .Gg v4 (.call 281 [Pt a 0,I b] λv5=> .op (.un .not) [v5] λr=> .ret .normal [r]) (.ret .normal [ff])))) k) Q h:=by
  intro Q k hk;by_cases h0:b=0;.simp only[abS,(Ia (x:=p) w).Ac,As hp,(Ia (x:=x) w).Ac,As hx,BW,h0,A0];exact hk
  .simp only[abS,(Ia (x:=p) w).Ac,As hp,(Ia (x:=x) w).Ac,As hx,BW,h0,(Ia (x:=b) w).Ac,As (m h0),A0];exact hk
 by_cases kp:Ls (A.nd p).kind;rotate_left
 .refine⟨4,?_,⟨λh=>absurd h AM,λf=>absurd f.kp kp⟩⟩;unfold Ls at kp;have v:¬(A.nd p).kind=1:=λe=>kp (.inl e);have u:¬(A.nd p).kind=2:=λe=>kp (.inr (.inl e));have t:¬(A.nd p).kind=4:=λe=>kp (.inr (.inr e));rw[Ae,Kp];refine first _ _ ?_
  simp only[abS,w.nodes,w.addr hp,w.f0 hp,w.addr hx,w.f0 hx,A0,BW,v,u,t]
 by_cases d:(A.nd x).kind=1
 .refine⟨4,?_,⟨λh=>absurd h AM,λf=>absurd d f.kn.1⟩⟩;rw[Ae,Kp];refine first _ _ ?_
  rcases kp with kp|kp|kp<;>simp only[abS,w.nodes,w.addr hp,w.f0 hp,w.addr hx,w.f0 hx,A0,BW,(AM:¬(2:Int)=1),(AM:¬(4:Int)=1),(AM:¬(4:Int)=2),kp,d]
 by_cases c:(A.nd x).kind=2
 .refine⟨4,?_,⟨λh=>absurd h AM,λf=>absurd c f.kn.2⟩⟩;rw[Ae,Kp];refine first _ _ ?_
  rcases kp with kp|kp|kp<;>simp only[abS,w.nodes,w.addr hp,w.f0 hp,w.addr hx,w.f0 hx,A0,BW,(AM:¬(2:Int)=1),(AM:¬(4:Int)=1),(AM:¬(4:Int)=2),kp,c]
 have j:=aIy w ok hx hp;by_cases re:Reach A x p
 .refine⟨4,?_,⟨λh=>absurd h AM,λf=>absurd re f.re⟩⟩;rw[As re] at j;rw[Ae,Kp];refine first _ _ ?_
  rcases kp with kp|kp|kp<;>simp only[abS,w.nodes,w.addr hp,w.f0 hp,w.addr hx,w.f0 hx,A0,BW,(AM:¬(2:Int)=1),(AM:¬(4:Int)=1),(AM:¬(4:Int)=2),kp,d,c,j.Ac]
 rw[Ap re] at j;by_cases g:b=0
 .refine⟨0,?_,⟨λ_=>⟨hp,hx,λh=>absurd g h,kp,⟨d,c⟩,re⟩,λ_=>rfl⟩⟩;rw[Ae,Kp];refine first _ _ ?_
  rcases kp with kp|kp|kp<;>simp only[abS,w.nodes,w.addr hp,w.f0 hp,w.addr hx,w.f0 hx,A0,BW,(AM:¬(2:Int)=1),(AM:¬(4:Int)=1),(AM:¬(4:Int)=2),kp,d,c,j.Ac,g]
 by_cases l:b=x
 .refine⟨5,?_,⟨λh=>absurd h AM,λf=>absurd l (f.hb g).2.1⟩⟩;rw[Ae,Kp];refine first _ _ ?_
  have NP:¬x=0:=by rw[<-l];exact g
  rcases kp with kp|kp|kp<;>simp only[abS,w.nodes,w.addr hp,w.f0 hp,w.addr hx,w.f0 hx,A0,BW,(AM:¬(2:Int)=1),(AM:¬(4:Int)=1),(AM:¬(4:Int)=2),kp,d,c,j.Ac,l,NP]
 have Qn:=m g;by_cases o:(A.nd b).FM=p
 .refine⟨0,?_,⟨λ_=>⟨hp,hx,λh=>⟨Qn,l,o⟩,kp,⟨d,c⟩,re⟩,λ_=>rfl⟩⟩;rw[Ae,Kp];refine first _ _ ?_
  rcases kp with kp|kp|kp<;>simp only[abS,w.nodes,w.addr hp,w.f0 hp,w.addr hx,w.f0 hx,A0,BW,(AM:¬(2:Int)=1),(AM:¬(4:Int)=1),(AM:¬(4:Int)=2),kp,d,c,j.Ac,g,l,w.addr Qn,w.f1 Qn,AQ o]
 .refine⟨5,?_,⟨λh=>absurd h AM,λf=>absurd (f.hb g).2.2 o⟩⟩;rw[Ae,Kp];refine first _ _ ?_
  rcases kp with kp|kp|kp<;>simp only[abS,w.nodes,w.addr hp,w.f0 hp,w.addr hx,w.f0 hx,A0,BW,(AM:¬(2:Int)=1),(AM:¬(4:Int)=1),(AM:¬(4:Int)=2),kp,d,c,j.Ac,g,l,w.addr Qn,w.f1 Qn,o]
def QX(b x:Int)(l:List Int):List Int:=l.flatMap λk=>if k=b then[x,k] else[k]
def Us{b x:Int}:∀{l:List Int},b∉l->QX b x l=l
 |[],_=>rfl
 |y::l,h=>by have h1:¬y=b:=λe=>h (by simp[e]);have h2:b∉l:=λe=>h (by simp[e]);have:=Us (x:=x) h2;unfold QX at this⊢;rw[MK,Ad h1,this];rfl
def pW{b x:Int}:∀{l:List Int},l.Nodup->b∈l->QX b x l=l.takeWhile (λk=>decide (k≠b))++x::l.dropWhile (λk=>decide (k≠b))
 |[],_,h=>by cases h
 |y::l,hn,h=>by
  rw[B5] at hn;by_cases h1:y=b;.subst h1;have:=Us (x:=x) hn.1;unfold QX at this⊢;rw[MK,Af rfl,this];simp
  .have h2:b∈l:=by rcases AS.1 h with h|h;exact absurd h.symm h1;exact h
   have:=pW (x:=x) hn.2 h2;unfold QX at this⊢;rw[MK,Ad h1,this,aKA,aKB];simp[h1]
def pX{b x:Int}{l:List Int}:(QX b x l).length<=2*l.length:=by
 induction l with
 |nil=>simp[QX]
 |cons y l ih=>unfold QX at ih⊢;rw[MK,Au,A9];split<;>simp only[A9,BJ]<;>omega
def mb{b x y:Int}{l:List Int}:QX b x (l++[y])=QX b x l++if y=b then[x,y] else[y]:=by unfold QX;rw[List.flatMap_append];simp
open Classical in
def aIC{p b e:Int}(w:RA h a n i ps A)(ok:EJ A e)(hb:∀y,(A.nd y).Bb.length<=900000000):∃q h' JA,BL cx 129 [Pt a 0,I p,I x,I b] h (I q) h'/\RA h' a n i JA (A.FT p x b)/\DC h (JB a n i) h' (JB a n i):=by
 obtain⟨q,K,o⟩:=aIB (p:=p) (x:=x) (b:=b) w ok;by_cases hf:ug A p x b;rotate_left;.have h0:¬q=0:=λh=>hf (o.1 h);refine⟨q,h,ps,?_,by rw[OK hf];exact w,.refl⟩;rw[Ae,zI];simp only[abS,K.Ac,BW,h0]
 have h0:=o.2 hf;subst h0;obtain⟨h1,lP,r2,w1,E⟩:=aIA w hf.hn (λy=>Bs (hb y) AM) ok;have z_:((A.cut x).nd p).Bb.Nodup/\(b≠0->b∈((A.cut x).nd p).Bb)/\((A.cut x).nd p).Bb.length<=900000000/\(0:Int)∉((A.cut x).nd p).Bb/\(A.cut x).has p/\(A.cut x).has x:=by
  have VV:=tY ok hf.hn hf.kn.2;have Rl:(A.cut x).has p:=Lc.2 hf.hp;refine⟨(VV.SZ p Rl).jo,λh0=>?_,?_,λh0=>?_,Rl,Lc.2 hf.hn⟩
  .obtain⟨b1,b2,b3⟩:=hf.hb h0;have xr:((A.cut x).nd b).FM=p:=by rw[RQ ok hf.hn,Ad b2];split<;>exact b3
   have:=(VV.FM b (Lc.2 b1) (by rw[xr];have:=hf.hp.1;omega)).2;rwa [xr] at this
  .have h1:=hb p;have h2:=hb x;rw[RQ ok hf.hn];split;.exact h2
   .split;.exact Bs (V4 _ _) h1
    .exact h1
  .have:=(VV.M4 p Rl 0 h0).1.1;omega
 obtain⟨z_,t,ő,hz,Rl,Pd⟩:=z_;generalize z:A.cut x=c at*;have I2:Ev cx 129 [Pt a 0,I p,I x,I b] h λr h'=>r=I 0/\∃JA,RA h' a n i JA (A.FT p x b)/\DC h (JB a n i) h' (JB a n i):=by
  have hm:AX=140737488355328:=rfl;unfold Ev;rw[zI];simp only[abS,K.Ac,BW,r2.Ac];have Zp:=w1.M4 Rl;have lk:=AU.CN Zp;refine DM (i:=0) (λs:Aa×Nat=>[s.1,I (s.2:Int)]) (λs h2=>s.2<=(c.nd p).Bb.length/\D4 (QX b x ((c.nd p).Bb.take s.2)) s.1/\h2=h1) (λs=>(c.nd p).Bb.length-s.2) (λs h2=>D4 (QX b x (c.nd p).Bb) s.1/\h2=h1) (.slnil,0) rfl ⟨AV _,.inr ⟨rfl,rfl⟩,rfl⟩ ?_ ?_
  .rintro⟨u,k⟩ h2 ⟨hk,hu,rfl⟩;simp only at hk hu;rcases AP k (c.nd p).Bb.length with hlt|Eg
   .have B:=AU.BK (k:= .i64) Zp hlt;rw[Ce] at B;have lJ:=pX (b:=b) (x:=x) (l:=(c.nd p).Bb.take k);rw[Aw] at lJ;have f:AD (.Dm 1) [I x]=some (.sl 1 [Ce x]):=rfl;have ky:AD (.Dm 1) [I (c.nd p).Bb[k]]=some (.sl 1 [Ce (c.nd p).Bb[k]]):=rfl;have hs:=mb (b:=b) (x:=x) (y:=(c.nd p).Bb[k]) (l:=(c.nd p).Bb.take k);rw[<-AB hlt] at hs;by_cases S_:(c.nd p).Bb[k]=b;.have a1:=AU.J2 (b:=8) (a:=x) hu Ab;have O9:D4 (QX b x ((c.nd p).Bb.take k)++[x]) (.sl 1 ((QX b x ((c.nd p).Bb.take k)++[x]).map Ce)):= .mk;have a2:=AU.J2 (b:=8) (a:=(c.nd p).Bb[k]) O9 (by rw[Au,Be];omega);rw[Af S_,show[x,(c.nd p).Bb[k]]=[x]++[(c.nd p).Bb[k]] from rfl,<-AI] at hs;simp only[abS,w1.nodes,w1.addr Rl,w1.f2 Rl,lk,(Ab:(k:Int)<((c.nd p).Bb.length:Int)),B,AQ S_,f,a1,ky,a2,A0,BM (Ab:k<9223372036854775807)];exact .next (_,k+1) rfl ⟨hlt,by rw[hs];exact .mk,rfl⟩ Dx
    .have a2:=AU.J2 (b:=8) (a:=(c.nd p).Bb[k]) hu Ab;rw[Ad S_] at hs;simp only[abS,w1.nodes,w1.addr Rl,w1.f2 Rl,lk,(Ab:(k:Int)<((c.nd p).Bb.length:Int)),B,S_,ky,a2,A0,BM (Ab:k<9223372036854775807)];exact .next (_,k+1) rfl ⟨hlt,by rw[hs];exact .mk,rfl⟩ Dx
   .rw[AF Eg] at hu;simp only[abS,w1.nodes,w1.addr Rl,w1.f2 Rl,lk,(Ab:¬(k:Int)<((c.nd p).Bb.length:Int))];exact .HF (u,k) rfl ⟨hu,rfl⟩
  .rintro⟨u,k⟩ h2 ⟨hu,rfl⟩;simp only at hu;obtain⟨m,Jh,hw⟩:∃m,D4 (Ji (c.nd p).Bb b x) m/\(b=0->AD (.append 1 8) [u,.sl 1 [Ce x]]=some m)/\(b≠0->m=u):=by
    have lJ:=pX (b:=b) (x:=x) (l:=(c.nd p).Bb);by_cases h0:b=0;.have a1:=AU.J2 (b:=8) (a:=x) hu Ab;refine⟨_,?_,λ_=>a1,λh=>absurd h0 h⟩;have e:QX b x (c.nd p).Bb=(c.nd p).Bb:=Us (by rw[h0];exact hz);rw[e];unfold Ji;rw[Af h0];exact .mk
    .refine⟨u,?_,λh=>absurd h h0,λ_=>rfl⟩;unfold Ji;rw[Ad h0,<-pW z_ (t h0)];exact hu
   obtain⟨O,J,j,D,_⟩:=w1.wr Rl (k:=2) AM (v:=m) (AU.cells Jh) (p:=⟨{c.nd p with Bb:=Ji (c.nd p).Bb b x},m,(pR lP p).av,Jh,w1.xf Rl⟩) (by simp only[RN.row];rw[(w1.pn Rl).2];rfl);have ŗ:(c.set p {c.nd p with Bb:=Ji (c.nd p).Bb b x}).has x:=Iv.2 Pd;have ZQ:=(j.pn ŗ).2;obtain⟨N,H,F,C,_⟩:=j.wr ŗ (k:=1) AM (v:= I p) rfl (p:=⟨{(c.set p {c.nd p with Bb:=Ji (c.nd p).Bb b x}).nd x with FM:=p},(pR _ x).kv,(pR _ x).av,j.M4 ŗ,j.xf ŗ⟩) (by simp only[RN.row];rw[ZQ];rfl);have L:A.FT p x b=(c.set p {c.nd p with Bb:=Ji (c.nd p).Bb b x}).set x {(c.set p {c.nd p with Bb:=Ji (c.nd p).Bb b x}).nd x with FM:=p}:=by unfold Ar.FT;rw[Af hf,z];rfl
   have d:=j.nodes;have g:=j.addr ŗ;rw[Bq] at d g;have f:AD (.Dm 1) [I x]=some (.sl 1 [Ce x]):=rfl;by_cases h0:b=0;.have a1:=hw.1 h0;simp only[abS,AQ h0,f,a1,A0,w1.nodes,w1.addr Rl,J,d,g,H];exact⟨_,rfl,rfl,_,by rw[L];exact F,(E.trans D).trans C⟩
   .have M:=hw.2 h0;subst M;simp only[abS,h0,A0,w1.nodes,w1.addr Rl,J,d,g,H];exact⟨_,rfl,rfl,_,by rw[L];exact F,(E.trans D).trans C⟩
 obtain⟨r,h',hr,rfl,JA,w',x'⟩:=I2.ret;exact⟨0,h',JA,hr,w',x'⟩
def cu(s:Int):JM cx 207 [I s] (.bool (decide (BS.H8 s))):=by rw[L0,Č];by_cases h1:0<=s<;>by_cases h2:s<=7<;>simp[h1,h2,BS.H8]
def cw(w:RA h a n i ps A)(hl:A.len<=1000000000)(p:RN):∃h' n' o,BL cx 164 [Pt a 0,.agg p.row] h (I (A.len+1)) h'/\RA h' a n' o (ps++[p]) (A.add p.x)/\DC h (JB a n i) h' (JB a n' o):=by
 have hm:AX=140737488355328:=rfl;have hlen:=w.len;have bU:=w.il;have lJ:ps.length<=1000000000:=by unfold Ar.len at hl;omega
 have g1:=JN (b:=168) (AE:=(RN.z::ps).map RN.row) (r2:=[p.row]) (v:= .sl 13 [p.row]) (yl _) AM w.hn .mk AH Ei;have M:((RN.z::ps).map RN.row).length=ps.length+1:=AH;rw[M,Be] at g1;have m:(h.set n .CR++[DA.cells ((RN.z::ps).map RN.row++[p.row]).flatten]).length=h.length+1:=AH;have l:(h.set n .CR++[DA.cells ((RN.z::ps).map RN.row++[p.row]).flatten])[h.length]?=some (.cells ((RN.z::(ps++[p])).map RN.row).flatten):=by rw[Bm AH];simp
 have Wb:=w.lt (.inl rfl);have aNF:=w.lt (.inr (.inr rfl));have OX:=w.lt (.inr (.inl rfl));have a1:(h.set n .CR++[DA.cells ((RN.z::ps).map RN.row++[p.row]).flatten])[a]?=some (.cells [.CF n 0 (ps.length+1) 13,.CF i 0 (ps.length+1) 1]):=by rw[Aj (by simpa using Wb),Ao (DG w.d.1)];exact w.ha
 have i1:(h.set n .CR++[DA.cells ((RN.z::ps).map RN.row++[p.row]).flatten])[i]?=some (.cells ((0::A.i).map (Aa.int .i64))):=by rw[Aj (by simpa using aNF),Ao w.d.2.2];exact w.hi
 have B:∀j,j<h.length->j≠n->(h.set n .CR++[DA.cells ((RN.z::ps).map RN.row++[p.row]).flatten])[j]?=h[j]?:=λj hj hn=>by rw[Aj (by simpa using hj),Ao (DG hn)]
 generalize h.set n .CR++[DA.cells ((RN.z::ps).map RN.row++[p.row]).flatten]=h1 at*;have q:At h1 a 0 _:=⟨_,a1,rfl⟩;have s:=q.store (u:= .CF h.length 0 (ps.length+1+1) 13) rfl;have a2:=HB (k:=0) (v:= .CF h.length 0 (ps.length+1+1) 13) a1;have D:(put h1 a 0 (.CF h.length 0 (ps.length+1+1) 13))[h.length]?=_:=(Cb Ab).trans l;have H:(put h1 a 0 (.CF h.length 0 (ps.length+1+1) 13))[i]?=_:=(Cb (DG w.d.2.1)).trans i1;have y:∀j,j<h.length->j≠n->j≠a->(put h1 a 0 (.CF h.length 0 (ps.length+1+1) 13))[j]?=h[j]?:=λj hj hn ha=>(Cb ha).trans (B j hj hn);have g:(put h1 a 0 (.CF h.length 0 (ps.length+1+1) 13)).length=h.length+1:=by rw[I7,m]
 generalize put h1 a 0 (.CF h.length 0 (ps.length+1+1) 13)=h2 at*;have F:A8 h2 none (Pt a 1)=some (.CF i 0 (ps.length+1) 1):=At.load ⟨_,a2,rfl⟩;have g2:=JN (b:=8) (h:=h2) (id:=i) (AE:=(0::A.i).map Ce) (r2:=[Ce 0]) (v:= .sl 1 [[I 0]]) (Mq (f:=Ce) (λ_=>rfl) _) AM (by rw[N4];exact H) (.inl rfl) AH Ei;have L:((0::A.i).map Ce).length=ps.length+1:=Ei;rw[L,Be,g] at g2;have aNG:a<h2.length:=Ab;have a3:(h2.set i .CR++[DA.cells ((0::A.i).map Ce++[Ce 0]).flatten])[a]?=_:=((Aj (by simpa using aNG)).trans (Ao (DG w.d.2.1))).trans a2;have C:(h2.set i .CR++[DA.cells ((0::A.i).map Ce++[Ce 0]).flatten])[h.length]?=_:=((Aj Ei).trans (Ao Ab)).trans D;have i3:(h2.set i .CR++[DA.cells ((0::A.i).map Ce++[Ce 0]).flatten])[h.length+1]?=some (.cells ((0::(A.i++[0])).map (Aa.int .i64))):=by rw[Bm Ei];simp only[Bq,g,De,IS];rw[<-N4];simp
 have t:∀j,j<h.length->j≠n->j≠a->j≠i->(h2.set i .CR++[DA.cells ((0::A.i).map Ce++[Ce 0]).flatten])[j]?=h[j]?:=λj hj hn ha hi=>((Aj Ei).trans (Ao (DG hi))).trans (y j hj hn ha)
 have K:(h2.set i .CR++[DA.cells ((0::A.i).map Ce++[Ce 0]).flatten]).length=h.length+2:=Ei;generalize h2.set i .CR++[DA.cells ((0::A.i).map Ce++[Ce 0]).flatten]=c at*;have t3:At c a 1 (.CF i 0 (ps.length+1) 1):=⟨_,a3,rfl⟩;have r:=t3.store (u:= .CF (h.length+1) 0 (ps.length+1+1) 1) rfl;have a4:=HB (k:=1) (v:= .CF (h.length+1) 0 (ps.length+1+1) 1) a3;have l4:A8 (put c a 1 (.CF (h.length+1) 0 (ps.length+1+1) 1)) none (Pt a 0)=some (.CF h.length 0 (ps.length+1+1) 13):=At.load ⟨_,a4,rfl⟩;refine⟨put c a 1 (.CF (h.length+1) 0 (ps.length+1+1) 1),h.length,h.length+1,?_,⟨?_,?_,?_,?_,?_,?_⟩,⟨by rw[I7];omega,λj hj hn=>?_,λj hj=>?_⟩⟩
 .have em:AD (.Dm 13) [.agg p.row]=some (.sl 13 [p.row]):=rfl;have ky:AD (.Dm 1) [I 0]=some (.sl 1 [[I 0]]):=rfl;have hd:=Il (n:=ps.length+1+1) Ab Ab;have J:A.len+1=((ps.length+1+1 -1:Nat):Int):=by unfold Ar.len;omega
  have E:AD (.len false) [.CF h.length 0 (ps.length+1+1) 13]=some (I ((ps.length+1+1:Nat):Int)):=rfl;rw[RN.row] at em g1;rw[Ae,ĉ,RN.row,J];simp only[abS,w.nodes,em,g1,s,F,ky,g2,r,l4,E,hd]
 .unfold Ar.add;simp only;rw[w.e,BF];rfl
 .unfold Ar.add;simp only[Au,Be];omega
 .rw[a4,Au];rfl
 .rw[Cb Ab];exact C
 .rw[Cb Ab];exact i3
 .exact⟨Ab,Ab,Ab⟩
 .have h1:j≠a:=λe=>hn (.inl e);have h2:j≠n:=λe=>hn (.inr (.inl e));have c:j≠i:=λe=>hn (.inr (.inr e));rw[Cb h1];exact t j hj h2 h1 c
 .rcases hj with rfl|rfl|rfl
  .exact .inl (.inl rfl)
  .exact .inr (Ag _)
  .exact .inr (Ff _)
def aBm{v:Aa}{l:List A5}(hv:Bt l v)(hb:l.length<=1000000000)(hs:∀y∈l,BS.H8 y.Bc)(h:Ah):BL cx 312 [v] h (.bool true) h:=by
 rw[Ae,į];refine Bi (λk:Nat=>[ff,I (k:Int)]) (λk h1=>k<=l.length/\h1=h) (λk=>l.length-k) 0 rfl ⟨AV _,rfl⟩ ?_;rintro k h1 ⟨hk,rfl⟩;have hvl:=AU.CN hv;rcases AP k l.length with hlt|Eg
 .have b:=AU.BK (k:= .i64) hv hlt;rw[A5.row] at b;have c:∀{Q:HG} {h:Ah} {kk:Aa->IT},W cx (.B7 207 [I l[k].Bc] kk) Q h↔W cx (kk (.bool (decide (BS.H8 l[k].Bc)))) Q h:=(cu _).B7 rfl rfl;simp only[abS,hvl,(Ab:(k:Int)<(l.length:Int)),b,c,As (hs _ (AL hlt)),BM (Ab:k<9223372036854775807)];exact AK.next (k+1) rfl ⟨hlt,rfl⟩ Ab
 .simp only[abS,hvl,(Ab:¬(k:Int)<(l.length:Int))]
def aBn{v:Aa}{l:List A5}(hv:Bt l v)(hb:l.length<=1000000000)(h:Ah):∃u,BL cx 313 [v] h u h/\Bt (Cz l) u:=by
 have hm:AX=140737488355328:=rfl;have hvl:=AU.CN hv;have I2:Ev cx 313 [v] h λr h'=>Bt (Cz l) r/\h'=h:=by
  unfold Ev;rw[İ];refine Bi (λs:Aa×Nat=>[s.1,I (s.2:Int)]) (λs h1=>s.2<=l.length/\Bt (Cz (l.take s.2)) s.1/\h1=h) (λs=>l.length-s.2) (.slnil,0) rfl ⟨AV _,.inr ⟨rfl,rfl⟩,rfl⟩ ?_;rintro⟨u,k⟩ h1 ⟨hk,hu,rfl⟩;simp only at hk hu;rcases AP k l.length with hlt|Eg
  .have lK:=AU.CN hu;have nh:=Qy (l:=l.take k);rw[Aw] at nh;have e:=AU.BK (k:= .i64) hv hlt;rw[A5.row] at e;simp only[abS,↓reduceIte,hvl,(Ab:(k:Int)<(l.length:Int))];refine DM (i:=2) (λj:Nat=>[.bool (((Cz (l.take k)).take j).any λz=>decide (DF l[k]=DF z)),I (j:Int)]) (λj h2=>j<=(Cz (l.take k)).length/\h2=h1) (λj=>(Cz (l.take k)).length-j) (λj h2=>j=(Cz (l.take k)).length/\h2=h1) 0 rfl ⟨AV _,rfl⟩ ?_ ?_
   .rintro j h2 ⟨hj,rfl⟩;rcases AP j (Cz (l.take k)).length with c|q
    .have o:=AU.BK (k:= .i64) hu c;rw[A5.row] at o;have es:((Cz (l.take k)).take (j+1)).any (λz=>decide (DF l[k]=DF z))=(((Cz (l.take k)).take j).any (λz=>decide (DF l[k]=DF z))||decide (DF l[k]=DF (Cz (l.take k))[j])):=by rw[AB c,Vs];simp
     by_cases g:(Cz (l.take k))[j].Bc=l[k].Bc
     .by_cases p:(Cz (l.take k))[j].name=l[k].name
      .have d:decide (DF l[k]=DF (Cz (l.take k))[j])=true:=by simp[DF,g,p]
       simp only[abS,lK,(Ab:(j:Int)<((Cz (l.take k)).length:Int)),e,o,AQ g,As p,BM (Ab:j<9223372036854775807)];exact .next (j+1) (by rw[es,d,aEG]) ⟨c,rfl⟩ Ab
      .have d:decide (DF l[k]=DF (Cz (l.take k))[j])=false:=by simp[DF];exact λ_ h=>p h.symm
       simp only[abS,lK,(Ab:(j:Int)<((Cz (l.take k)).length:Int)),e,o,AQ g,Ap p,BM (Ab:j<9223372036854775807)];exact .next (j+1) (by rw[es,d,JF]) ⟨c,rfl⟩ Ab
     .have d:decide (DF l[k]=DF (Cz (l.take k))[j])=false:=by simp[DF];exact λh=>absurd h.symm g
      simp only[abS,lK,(Ab:(j:Int)<((Cz (l.take k)).length:Int)),e,o,g,BM (Ab:j<9223372036854775807)];exact .next (j+1) (by rw[es,d,JF]) ⟨c,rfl⟩ Ab
    .simp only[abS,lK,(Ab:¬(j:Int)<((Cz (l.take k)).length:Int))];exact .HF j rfl ⟨Ab,rfl⟩
   .rintro j h2 ⟨rfl,rfl⟩;have m:Cz (l.take (k+1))=if(Cz (l.take k)).any (λz=>decide (DF l[k]=DF z)) then Cz (l.take k) else Cz (l.take k)++[l[k]]:=by rw[AB hlt];exact QL
    have em:AD (.Dm 3) [.agg [I l[k].Bc,.str l[k].name,.str l[k].value]]=some (.sl 3 [[I l[k].Bc,.str l[k].name,.str l[k].value]]):=rfl;have a1:=AU.J2 (f:=A5.row) (b:=40) (a:=l[k]) hu Ab;rw[A5.row] at a1;rw[Bx];cases hq:(Cz (l.take k)).any (λz=>decide (DF l[k]=DF z)) with
    |true=>rw[Af hq] at m;simp only[abS,↓reduceIte,BM (Ab:k<9223372036854775807)];exact AK.next (u,k+1) rfl ⟨hlt,by rw[m];exact hu,rfl⟩ Dx
    |false=>rw[Ad (by rw[hq];decide)] at m;simp only[abS,Nat.reduceLeDiff,↓reduceIte,e,em,a1,BM (Ab:k<9223372036854775807)];exact AK.next (_,k+1) rfl ⟨hlt,by rw[m];exact .mk,rfl⟩ Dx
  .rw[AF Eg] at hu;simp only[abS,↓reduceIte,hvl,(Ab:¬(k:Int)<(l.length:Int))];exact⟨_,rfl,hu⟩
 obtain⟨r,h',hr,hu,rfl⟩:=I2.ret;exact⟨r,hr,hu⟩
end
section
variable{h h':Ah}{a n i:Nat}{ps:List RN}{A:Ar}{x d:Int}{G:Nat->Prop}
def cy(w:RA h a n i ps A)(hd:A.has d)(hk:(A.nd d).kind=1):BL cx 168 [Pt a 0,I d] h (I 0) h:=by rw[Ae,ċ];simp only[abS,(Ia (x:=d) w).Ac,As hd,w.nodes,w.addr hd,w.f0 hd,hk,BW]
def aIH(w:RA h a n i ps A)(hl:A.len<=1000000000)(hd:A.has d)(hk:(A.nd d).kind=1)(k:Int)(s:Ai):
  ∃h' n' c JA,BL cx 128 [Pt a 0,I d,.agg [I k,I 0,.slnil,I 0,I 0,S [],.slnil,.str s,S [],S [],ff,I 0,I 0]] h (.tuple [I (A.len+1),I 0]) h'/\RA h' a n' c JA (A.add {kind:=k,CQ:=d,data:=s})/\DC h (JB a n i) h' (JB a n' c):=by
 obtain⟨h1,f,i1,b,w1,e⟩:=cw w hl ⟨{kind:=k,CQ:=d,data:=s},.slnil,.slnil,.inr ⟨rfl,rfl⟩,.inr ⟨rfl,rfl⟩⟩;refine⟨h1,f,i1,_,?_,w1,e⟩;rw[RN.row] at b;rw[Ae,ù];simp only[abS,(cy w hd hk).Ac,b.Ac,BW]
def aII(w:RA h a n i ps A)(hl:A.len<=1000000000)(q:Bool):
  ∃h' n' c JA,BL cx 62 [Pt a 0,.bool q] h (I (A.len+1)) h'/\RA h' a n' c JA (A.add {kind:=1,CQ:=A.len+1,CK:=q})/\DC h (JB a n i) h' (JB a n' c):=by
 obtain⟨h1,g,i1,b,w1,f⟩:=cw w hl ⟨{kind:=1,CQ:=A.len+1,CK:=q},.slnil,.slnil,.inr ⟨rfl,rfl⟩,.inr ⟨rfl,rfl⟩⟩;refine⟨h1,g,i1,_,?_,w1,f⟩;have hn:=w.len;have e:((ps.length+1:Nat):Int)=A.len+1:=by unfold Ar.len;omega
 have j:AD (.len false) [.CF n 0 (ps.length+1) 13]=some (I (A.len+1)):=by rw[<-e];rfl
 rw[RN.row] at b;rw[Ae,aC7];simp only[abS,Nat.reduceLeDiff,↓reduceIte,AR,w.nodes,j,b.Ac]
def RA.cz(w:RA h a n i ps A)(hx:A.has x):AD (.Fl 1) [.CF i 0 (ps.length+1) 1,I x]=some (Pt i x.toNat):=by obtain⟨h1,h2⟩:=w.at hx;have:=EY (k:= .i64) (id:=i) (z:=1) h1;rwa [h2,FE] at this
def RA.iat(w:RA h a n i ps A)(hx:A.has x):At h i x.toNat (I (A.inr x)):=by obtain⟨h1,h2⟩:=w.at hx;have b:=hx.1;have hl:=w.len;have bU:=w.il;refine⟨_,w.hi,?_⟩;obtain⟨k,hk⟩:∃k,x.toNat=k+1:=⟨x.toNat-1,Ab⟩;rw[hk,Bl,LU,Cm];unfold Ar.inr;rw[Af hx,hk,E8,AJ,Al Ab];rfl
def RA.aIK(w:RA h a n i ps A)(hx:A.has x)(v:Int):RA (put h i x.toNat (I v)) a n i ps (A.I8 x v)/\DC h (JB a n i) (put h i x.toNat (I v)) (JB a n i):=by
 obtain⟨h1,h2⟩:=w.at hx;have b:=hx.1;refine⟨⟨w.e,?_,(Cb w.d.2.1).trans w.ha,(Cb w.d.2.2).trans w.hn,?_,w.d⟩,⟨by rw[I7];exact Ag _,λj _ hn=>Cb λe=>hn (.inr (.inr e)),λj hj=> .inl hj⟩⟩;.unfold Ar.I8;simp only;rw[Af hx,Bq];exact w.il
 .rw[HB w.hi];obtain⟨k,hk⟩:∃k,x.toNat=k+1:=⟨x.toNat-1,Ab⟩;unfold Ar.I8;simp only;rw[Af hx,hk,E8,Bl,aOL,Bl,Eo]
def aIL(w:RA h a n i ps A)(hl:A.len<=1000000000)(hd:A.has d):∃h' n' j JA,BL cx 315 [Pt a 0,I d] h (I (A.Fy d)) h'/\RA h' a n' j JA (A.Ds d)/\DC h (JB a n i) h' (JB a n' j):=by
 by_cases h0:A.inr d=0;rotate_left
 .refine⟨h,n,i,ps,?_,by unfold Ar.Ds;rw[Af h0];exact w,.refl⟩;have e:A.Fy d=A.inr d:=by unfold Ar.Fy;rw[Af h0]
  rw[Ae,au,e];simp only[abS,w.YQ,w.cz hd,(w.iat hd).load,h0]
 .obtain⟨h1,r,i1,lP,q,w1,m⟩:=aII w hl false;have eS:(A.add {kind:=1,CQ:=A.len+1,CK:=false}).has d:=DS.2 (.inl hd);have Nn:(A.add {kind:=1,CQ:=A.len+1,CK:=false}).has (A.len+1):=DS.2 (.inr rfl);obtain⟨b,l⟩:=w1.aIK eS (A.len+1);have TI:((A.add {kind:=1,CQ:=A.len+1,CK:=false}).I8 d (A.len+1)).has (A.len+1):=Nn;have g:(((A.add {kind:=1,CQ:=A.len+1,CK:=false}).I8 d (A.len+1)).I8 (A.len+1) (A.len+1)).has d:=eS;obtain⟨c,k⟩:=b.aIK TI (A.len+1);have e:A.Fy d=A.len+1:=by unfold Ar.Fy;rw[Ad (by simpa using h0)]
  have t:A.Ds d=(((A.add {kind:=1,CQ:=A.len+1,CK:=false}).I8 d (A.len+1)).I8 (A.len+1) (A.len+1)):=by unfold Ar.Ds;rw[Ad (by simpa using h0)]
  refine⟨_,r,i1,lP,?_,by rw[t];exact c,(m.trans l).trans k⟩;have s:(((A.add {kind:=1,CQ:=A.len+1,CK:=false}).I8 d (A.len+1)).I8 (A.len+1) (A.len+1)).inr d=A.len+1:=by
   have f:(A.add {kind:=1,CQ:=A.len+1,CK:=false}).i.length=(A.add {kind:=1,CQ:=A.len+1,CK:=false}).n.length:=w1.il;rw[P2 b.il,P2 f];split;.rfl
   .rw[Af ⟨rfl,eS⟩]
  have p:=(w1.iat eS).store (u:= I (A.len+1)) rfl;have o:=(b.iat TI).store (u:= I (A.len+1)) rfl;have ld:=(c.iat g).load;rw[s] at ld;rw[Ae,au,e];simp only[abS,w.YQ,w.cz hd,(w.iat hd).load,h0,q.Ac,w1.YQ,w1.cz eS,p,b.YQ,b.cz TI,o,c.YQ,ld]
def aIM{v:Aa}{l:List A5}(w:RA h a n i ps A)(hx:A.has x)(hk:(A.nd x).kind=4)(hv:Bt l v)(hb:l.length<=1000000000)(hs:∀y∈l,BS.H8 y.Bc):
  ∃h' JA,BL cx 226 [Pt a 0,I x,v] h (I 0) h'/\RA h' a n i JA (A.Jy x l)/\DC h (JB a n i) h' (JB a n i):=by
 have e:=aBm hv hb hs h;obtain⟨u,r2,hu⟩:=aBn hv hb h;obtain⟨h1,c,w1,b,_⟩:=w.wr hx (k:=6) AM (v:=u) (AU.cells hu) (p:=⟨{A.nd x with Ay:=Cz l},(pR ps x).kv,u,w.M4 hx,hu⟩) (by simp only[RN.row];rw[(w.pn hx).2];rfl);refine⟨h1,_,?_,w1,b⟩;rw[Ae,ě];simp only[abS,(Ia (x:=x) w).Ac,As hx,w.nodes,w.addr hx,w.f0 hx,hk,BW,e.Ac,r2.Ac,BI,c]
def aIN(p:RN)(h:Ah):BL cx 314 [.agg p.row] h (.bool (decide (eO p.x))) h:=by rw[Ae,ı,RN.row];simp only[BD,eO];refine⟨λh1=>⟨λh2=>?_,λh2=>?_⟩,λh1=>?_⟩<;>simp[*]
def RA.aBo(w:RA h a n i ps A)(hx:A.has x):A8 h (some 13) (Pt n (nR x))=some (.agg (pR ps x).row):=by
 obtain⟨h1,h2⟩:=w.at hx;have hlt:x.toNat<(RN.z::ps).length:=by simpa using h1
 have:=bQ (yl _) w.hn (i:=x.toNat) (by simpa using h1);rw[C1] at this;have e:=(w.pn hx).1;rw[Al hlt,BB] at e;rw[e] at this;exact this
def aBp{v:Aa}{l:List A5}{sp:Int}{nm:Ai}(w:RA h a n i ps A)(hl:A.len+3<=1000000000)(hd:A.has d)(hk:(A.nd d).kind=1)(hs:BS.H8 sp)(hv:Bt l v)(hb:l.length<=1000000000)(qd:∀y∈l,BS.H8 y.Bc):
  ∃h' n' C JA,BL cx 165 [Pt a 0,I d,I sp,.str nm,v] h (.tuple [I (A.len+1),I 0]) h'/\RA h' a n' C JA (A.elem d sp nm l)/\DC h (JB a n i) h' (JB a n' C):=by
 have z:=aBm hv hb qd h;obtain⟨u,r2,hu⟩:=aBn hv hb h;have g:u.cells=[u]:=AU.cells hu;obtain⟨h1,N,i1,m,w1,s⟩:=cw w Ab ⟨{kind:=4,CQ:=d,Bc:=sp,name:=nm,Ay:=Cz l},.slnil,u,.inr ⟨rfl,rfl⟩,hu⟩;have B:∀{Q:HG} {h:Ah} {kk:Aa->IT},W cx (.B7 207 [I sp] kk) Q h↔W cx (kk (.bool (decide (BS.H8 sp)))) Q h:=(cu _).B7 rfl rfl;have Nn:(A.add {kind:=4,CQ:=d,Bc:=sp,name:=nm,Ay:=Cz l}).has (A.len+1):=DS.2 (.inr rfl);have eS:(A.add {kind:=4,CQ:=d,Bc:=sp,name:=nm,Ay:=Cz l}).has d:=DS.2 (.inl hd);have Wl:(A.add {kind:=4,CQ:=d,Bc:=sp,name:=nm,Ay:=Cz l}).len=A.len+1:=by unfold Ar.add Ar.len;simp
 have f:=aIN (pR (ps++[⟨{kind:=4,CQ:=d,Bc:=sp,name:=nm,Ay:=Cz l},.slnil,u,.inr ⟨rfl,rfl⟩,hu⟩]) (A.len+1)) h1;rw[(w1.pn Nn).2,II,Af rfl] at f;have ld:=w1.aBo Nn;rw[RN.row] at m;unfold Ar.elem;simp only
 by_cases j:eO {kind:=4,CQ:=d,Bc:=sp,name:=nm,Ay:=Cz l};rotate_left;.rw[Ad j];rw[Ap j] at f;refine⟨h1,N,i1,_,?_,w1,s⟩;rw[Ae,zJ];simp only[abS,Nat.reduceLeDiff,↓reduceIte,AR,(cy w hd hk).Ac,BW,B,As hs,z.Ac,r2.Ac,g,m.Ac,w1.nodes,w1.addr Nn,ld,f.Ac]
 .rw[Af j];rw[As j] at f;generalize q:A.add {kind:=4,CQ:=d,Bc:=sp,name:=nm,Ay:=Cz l}=b at*;generalize ps++[(⟨{kind:=4,CQ:=d,Bc:=sp,name:=nm,Ay:=Cz l},.slnil,u,.inr ⟨rfl,rfl⟩,hu⟩:RN)]=lP at*;obtain⟨h2,P,R,vD,L,J,F⟩:=aIL w1 Ab eS;have aN:(b.Ds d).len<=A.len+2:=by
   unfold Ar.Ds;split;.omega
   .rw[SX,SX];have:(b.add {kind:=1,CQ:=b.len+1}).len=b.len+1:=by unfold Ar.add Ar.len;simp
    omega
  have TI:(b.Ds d).has (A.len+1):=by
   unfold Ar.Ds;split;.exact Nn
   .rw[NW,NW];exact DS.2 (.inl Nn)
  obtain⟨S,M,i3,t,e,E⟩:=cw J Ab ⟨{kind:=2,Em:=A.len+1,CQ:=b.Fy d},.slnil,.slnil,.inr ⟨rfl,rfl⟩,.inr ⟨rfl,rfl⟩⟩;have c:((b.Ds d).add {kind:=2,Em:=A.len+1,CQ:=b.Fy d}).has (A.len+1):=DS.2 (.inl TI);have aD8:((b.Ds d).add {kind:=2,Em:=A.len+1,CQ:=b.Fy d}).nd (A.len+1)={kind:=4,CQ:=d,Bc:=sp,name:=nm,Ay:=Cz l}:=by
   have En:=TI.2;rw[II,Ad (by unfold Ar.len at En⊢;omega)];have h0:b.nd (A.len+1)={kind:=4,CQ:=d,Bc:=sp,name:=nm,Ay:=Cz l}:=by rw[<-q,II,Af rfl]
   unfold Ar.Ds;split;.exact h0
   .rw[SY,SY,II,Ad Ab];exact h0
  have ZQ:=(e.pn c).2;rw[aD8] at ZQ;obtain⟨O,K,H,D,_⟩:=e.wr c (k:=11) AM (v:= I ((b.Ds d).len+1)) rfl (p:=⟨{kind:=4,CQ:=d,Bc:=sp,name:=nm,Ay:=Cz l,cont:=(b.Ds d).len+1},(pR _ (A.len+1)).kv,(pR _ (A.len+1)).av,by have:=e.M4 c;rw[aD8] at this;exact this,by have:=e.xf c;rw[aD8] at this;exact this⟩) (by simp only[RN.row];rw[ZQ];rfl);refine⟨O,M,i3,_,?_,H,((s.trans F).trans E).trans D⟩;rw[RN.row] at t;have o:=e.nodes;have r:=e.addr c;rw[Ae,zJ];simp only[abS,Nat.reduceLeDiff,↓reduceIte,AR,(cy w hd hk).Ac,BW,B,As hs,z.Ac,r2.Ac,g,m.Ac,w1.nodes,w1.addr Nn,ld,f.Ac,L.Ac,t.Ac,o,r,K]
end
structure RX(h:Ah)(bi a:Nat)(o c t:Aa)(G:Nat->Prop)(b:BS):Prop where
 hb:h[bi]?=some (.cells (Jo a b o c t))
 o:BY b.AN o
 t:D4 b.tm t
 w:RW h G a b.a
 nb:¬G bi
section
variable{h h':Ah}{bi a:Nat}{o c t:Aa}{G G' F:Nat->Prop}{b:BS}{x:Int}{m:Nat}
def RX.lt(w:RX h bi a o c t G b):bi<h.length:=(Ak.1 w.hb).1
def RX.Dj{h':Ah}(w:RX h bi a o c t G b)(hf:∀i,i=bi\/G i->h'[i]?=h[i]?):RX h' bi a o c t G b:=
 ⟨by rw[hf bi (.inl rfl)];exact w.hb,w.o,w.t,w.w.Dj λi hi=>hf i (.inr hi),w.nb⟩
def RX.HJ(w:RX h bi a o c t G b){u:Ah}:RX (h++u) bi a o c t G b:=w.Dj λi hi=>Aj (by rcases hi with rfl|hi;exact w.lt;exact w.w.lt hi)
def RX.ld(w:RX h bi a o c t G b)(k:Nat):A8 h none (Pt bi k)=(Jo a b o c t)[k]?:=by simp only[A8,w.hb,E6]
def RX.l0(w:RX h bi a o c t G b):A8 h none (Pt bi 0)=some (Pt a 0):=w.ld 0
def RX.l1(w:RX h bi a o c t G b):A8 h none (Pt bi 1)=some (I b.CQ):=w.ld 1
def RX.l4(w:RX h bi a o c t G b):A8 h none (Pt bi 4)=some (I b.mode):=w.ld 4
def RX.l7(w:RX h bi a o c t G b):A8 h none (Pt bi 7)=some (I b.head):=w.ld 7
def RX.l9(w:RX h bi a o c t G b):A8 h none (Pt bi 9)=some (.bool b.L3):=w.ld 9
def RX.E_(w:RX h bi a o c t G b):A8 h none (Pt bi 15)=some (.bool b.ET):=w.ld 15
def RX.l3(w:RX h bi a o c t G b):A8 h none (Pt bi 3)=some c:=w.ld 3
def RX.l6(w:RX h bi a o c t G b):A8 h none (Pt bi 6)=some t:=w.ld 6
def RX.qX(w:RX h bi a o c t G b):At h bi 3 c:=⟨_,w.hb,rfl⟩
def RX.bq{A':Ar}(w:RX h bi a o c t G b)(hp:RW h' G' a A')(x:DC h G h' G'):RX h' bi a o c t G' {b with a:=A'}/\DC h (Bu bi G) h' (Bu bi G'):=
 ⟨⟨by rw[x.old bi w.lt w.nb];exact w.hb,w.o,w.t,hp,λhg=>by rcases x.Bu bi hg with h|h;exact w.nb h;have:=w.lt;omega⟩,x.aBa⟩
def RX.C6(w:RX h bi a o c t G b){u:Ah}:DC h (Bu bi G) (h++u) (Bu bi G):= .HJ
def RX.put{k:Nat}{v o' c' t':Aa}{b':BS}(w:RX h bi a o c t G b)(e:(Jo a b o c t).set k v=Jo a b' o' c' t')(ea:b'.a=b.a)(ho:BY b'.AN o')(ht:D4 b'.tm t'):RX (Am.put h bi k v) bi a o' c' t' G b':=
 ⟨by rw[Io w.hb,e];exact AO w.lt,ho,ht,by rw[ea];exact w.w.Dj λi hi=>Cb λe=>w.nb (e▸hi),w.nb⟩
def RX.HU{u:Aa}{l:List Item}(w:RX h bi a o c t G b)(hu:BY l u):RX (Am.put h bi 2 u) bi a u c t G {b with AN:=l}:=w.put rfl rfl hu w.t
def RX.Kr{u:Aa}{l:List Cp}(w:RX h bi a o c t G b):RX (Am.put h bi 3 u) bi a o u t G {b with A6:=l}:=w.put rfl rfl w.o w.t
def RX.st{k:Nat}{v v0:Aa}(w:RX h bi a o c t G b)(hk:(Jo a b o c t)[k]?=some v0)(hv:v.cells=[v]):Cv h 1 (Pt bi k) v=some (Am.put h bi k v):=At.store (v:=v0) ⟨_,w.hb,hk⟩ hv
def RX.ś(w:RX h bi a o c t G b):A8 h (some 4) (Pt bi 10)=some (.agg b.ctx.row):=by simp only[A8,w.hb];rfl
def RX.pH(w:RX h bi a o c t G b)(v:Int):RX (Am.put h bi 4 (I v)) bi a o c t G {b with mode:=v}:=w.put rfl rfl w.o w.t
def RX.pI{u:Aa}{l:List Int}(w:RX h bi a o c t G b)(hu:D4 l u):RX (Am.put h bi 6 u) bi a o c u G {b with tm:=l}:=w.put rfl rfl w.o hu
def RX.step{A':Ar}{R:Ah->Prop}(w:RX h bi a o c t G b)(f:∀n i ps,RA h a n i ps b.a->∃h' n' d JA,R h'/\RA h' a n' d JA A'/\DC h (JB a n i) h' (JB a n' d)):
  ∃h' G',R h'/\RX h' bi a o c t G' {b with a:=A'}/\DC h (Bu bi G) h' (Bu bi G'):=by
 obtain⟨n,i,ps,j,e⟩:=w.w;obtain⟨h',n',d,JA,r,w',x⟩:=f n i ps j;obtain⟨k,g⟩:=w.bq (G':=JB a n' d) ⟨n',d,JA,w',rfl⟩ (by rw[e];exact x);exact⟨h',_,r,k,g⟩
def MC(w:RX h bi a o c t G b)(x:Int):BL cx 209 [Pt bi 0,I x] h (I (b.a.nd x).kind) h:=by
 obtain⟨n,i,ps,d,e⟩:=w.w;rw[Ae,Ď];by_cases hx:b.a.has x;.simp only[abS,w.l0,(Ia (x:=x) d).Ac,As hx,d.nodes,d.addr hx,d.f0 hx]
 .rw[HK hx];simp only[abS,w.l0,(Ia (x:=x) d).Ac,Ap hx]
def c_(w:RX h bi a o c t G b)(x:Int):BL cx 214 [Pt bi 0,I x] h (I (if b.a.has x then(b.a.nd x).CQ else b.CQ)) h:=by
 obtain⟨n,i,ps,d,e⟩:=w.w;rw[Ae,Ē];by_cases hx:b.a.has x;.rw[Af hx];simp only[abS,w.l0,(Ia (x:=x) d).Ac,As hx,d.nodes,d.addr hx,d.f3 hx]
 .rw[Ad hx];simp only[abS,w.l0,(Ia (x:=x) d).Ac,Ap hx,w.l1]
def aBq(w:RX h bi a o c t G b)(x:Int)(ws:Ai)(hw:ws.length<9223372036854775806)(hn:(b.a.nd x).name.length<9223372036854775807):BL cx 232 [Pt bi 0,I x,.str ws] h (.bool (decide ((b.a.nd x).kind=4/\(b.a.nd x).Bc=1)&&F0 ws (b.a.nd x).name)) h:=by
 obtain⟨n,i,ps,d,e⟩:=w.w;rw[Ae,ġ];by_cases hk:(b.a.nd x).kind=4
 .have hx:b.a.has x:=by
   by_cases hp:b.a.has x;.exact hp
   .rw[HK hp] at hk;simp at hk
  have r2:∀{Q:HG} {h:Ah} {kk:Aa->IT},W cx (.B7 139 [.str ws,.str (b.a.nd x).name] kk) Q h↔W cx (kk (.bool (F0 ws (b.a.nd x).name))) Q h:=(aGO ws _ hw hn).B7 rfl rfl;by_cases hs:(b.a.nd x).Bc=1;.simp only[abS,(MC w x).Ac,AQ hk,w.l0,d.nodes,d.addr hx,d.f4 hx,AQ hs,d.f5 hx,r2,JZ]
  .simp only[abS,(MC w x).Ac,AQ hk,w.l0,d.nodes,d.addr hx,d.f4 hx,hs,JZ]
 .simp only[abS,(MC w x).Ac,hk,JZ]
def RX.kW(w:RX h bi a o c t G b)(ok:BA b)(rm:B6 b m)(p x bf:Int):∃d h' G',BL cx 129 [Pt a 0,I p,I x,I bf] h (I d) h'/\RX h' bi a o c t G' {b with a:=b.a.FT p x bf}/\DC h (Bu bi G) h' (Bu bi G'):=by
 have hk:∀y,(b.a.nd y).Bb.length<=900000000:=λy=>Bs (YS ok.ok y) (by have:=rm.n;omega);obtain⟨h',G',⟨d,r⟩,w',x'⟩:=w.step (A':=b.a.FT p x bf) (R:=λh'=>∃d:Int,BL cx 129 [Pt a 0,I p,I x,I bf] h (I d) h') λn i ps e=>by obtain⟨d,h',JA,r,w',x'⟩:=aIC (p:=p) (x:=x) (b:=bf) e ok.ok hk;exact⟨h',n,i,JA,⟨d,r⟩,w',x'⟩
 exact⟨d,h',G',r,w',x'⟩
def RX.self(w:RX h bi a o c t G b){A':Ar}(e:A'=b.a):RX h bi a o c t G {b with a:=A'}:=by subst e;exact w
def da(w:RX h bi a o c t G b)(ok:BA b)(rm:B6 b m)(p x bf:Int):∃h' G',BL cx 166 [Pt bi 0,I p,I x,I bf] h (.tuple []) h'/\RX h' bi a o c t G' {b with a:=b.a.Ex x p bf}/\DC h (Bu bi G) h' (Bu bi G'):=by
 obtain⟨s,h1,l,g,w1,f⟩:=w.kW ok rm p x bf;by_cases hp:(b.a.nd p).kind=1;rotate_left
 .have e:b.a.Ex x p bf=b.a.FT p x bf:=by unfold Ar.Ex;rw[Ad λh=>hp h.1]
  refine⟨h1,l,?_,by rw[e];exact w1,f⟩;rw[Ae,fU];simp only[abS,(MC w p).Ac,hp,w.l0,g.Ac]
 by_cases hx:(b.a.nd x).kind=4;rotate_left
 .have e:b.a.Ex x p bf=b.a.FT p x bf:=by unfold Ar.Ex;rw[Ad λh=>hx h.2.1]
  refine⟨h1,l,?_,by rw[e];exact w1,f⟩;rw[Ae,fU];simp only[abS,(MC w p).Ac,AQ hp,(MC w x).Ac,hx,w.l0,g.Ac]
 have Ql:(b.a.nd p).Bb.length<=1000000000:=Bs (YS ok.ok p) (by have:=rm.n;omega);obtain⟨kv,r2,bo⟩:∃v,BL cx 212 [Pt a 0,I p] h v h/\D4 (b.a.nd p).Bb v:=by obtain⟨n,i,ps,q,_⟩:=w.w;exact ym q Ql
 have I2:Ev cx 166 [Pt bi 0,I p,I x,I bf] h λr h'=>r= .tuple []/\∃G',RX h' bi a o c t G' {b with a:=b.a.Ex x p bf}/\DC h (Bu bi G) h' (Bu bi G'):=by
  unfold Ev;have hvl:=AU.CN bo;rw[fU];simp only[abS,(MC w p).Ac,AQ hp,(MC w x).Ac,AQ hx,w.l0,r2.Ac];refine Bi (λk:Nat=>[I (k:Int)]) (λk h1=>k<=(b.a.nd p).Bb.length/\(∀y∈(b.a.nd p).Bb.take k,¬(b.a.nd y).kind=4)/\h1=h) (λk=>(b.a.nd p).Bb.length-k) 0 rfl ⟨AV _,λy hy=>by simp at hy,rfl⟩ ?_;rintro k h2 ⟨hk,ha,rfl⟩;rcases AP k (b.a.nd p).Bb.length with hlt|Eg
  .have j:=AU.BK (k:= .i64) bo hlt;rw[Ce] at j;by_cases d:(b.a.nd (b.a.nd p).Bb[k]).kind=4
   .have e:b.a.Ex x p bf=b.a:=by unfold Ar.Ex;rw[Af ⟨hp,hx,_,AL hlt,d⟩]
    simp only[abS,hvl,(Ab:(k:Int)<((b.a.nd p).Bb.length:Int)),j,(MC w _).Ac,AQ d];exact⟨_,rfl,rfl,G,w.self e,.refl⟩
   .simp only[abS,hvl,(Ab:(k:Int)<((b.a.nd p).Bb.length:Int)),j,(MC w _).Ac,d,BM (Ab:k<9223372036854775807)];refine AK.next (k+1) rfl ⟨hlt,λy hy=>?_,rfl⟩ Ab;rw[AB hlt] at hy;rcases Ax.1 hy with hy|hy
    .exact ha y hy
    .rw[BG] at hy;rw[hy];exact d
  .rw[AF Eg] at ha;have e:b.a.Ex x p bf=b.a.FT p x bf:=by unfold Ar.Ex;rw[Ad λh=>by obtain⟨_,_,y,hy,d⟩:=h;exact ha y hy d]
   simp only[abS,hvl,(Ab:¬(k:Int)<((b.a.nd p).Bb.length:Int)),w.l0,g.Ac];exact⟨_,rfl,rfl,l,by rw[e];exact w1,f⟩
 obtain⟨r,h',hr,rfl,G',w',x'⟩:=I2.ret;exact⟨h',G',hr,w',x'⟩
def aIO{v:Aa}{l:List Int}(hv:D4 l v)(hb:l.length<=1000000000)(x:Int)(h:Ah):BL cx 213 [v,I x] h (I (Cn (λy=>decide (x=y)) 0 l)) h:=by
 rw[Ae,đ];have hvl:=AU.CN hv;refine Bi (λk:Nat=>[I 0,I (k:Int)]) (λk h1=>k<=l.length/\Cn (λy=>decide (x=y)) 0 l=Cn (λy=>decide (x=y)) k (l.drop k)/\h1=h) (λk=>l.length-k) 0 rfl ⟨AV _,rfl,rfl⟩ ?_;rintro k h1 ⟨hk,ha,rfl⟩;rcases AP k l.length with hlt|Eg
 .have d:=AU.BK (k:= .i64) hv hlt;rw[Ce] at d;rw[AG hlt,Cn] at ha;simp only[abS,hvl,(Ab:(k:Int)<(l.length:Int)),d,BM (Ab:k<9223372036854775807)];refine⟨λh2=>?_,λh2=>?_⟩;.rw[ha,Af (by simp[h2])]
  .rw[Ad (by simpa using λe=>h2 e.symm)] at ha;exact AK.next (k+1) rfl ⟨hlt,ha,rfl⟩ Ab
 .rw[AW Eg,Cn] at ha;simp only[abS,hvl,(Ab:¬(k:Int)<(l.length:Int)),ha]
def yn(w:RX h bi a o c t G b)(x:Int):BL cx 411 [Pt a 0,I x] h (I (b.a.nd x).FM) h:=by obtain⟨n,i,ps,d,_⟩:=w.w;exact aIv d
def yo(w:RX h bi a o c t G b)(rm:B6 b m):BL cx 221 [Pt bi 0] h (.agg (Fx b.AN).row) h:=by have ho:=rm.AN;have ld:A8 h none (Pt bi 2)=some o:=w.ld 2;rw[Ae,Ę];simp only[BD,E9,ld,(aL8 w.o Ab).Ac]
def aIP(w:RX h bi a o c t G b)(rm:B6 b m):BL cx 348 [Pt bi 0] h (.tuple [I b.Kb.1,I b.Kb.2]) h:=by
 have hl:=rm.AN;have ld:A8 h none (Pt bi 2)=some o:=w.ld 2;have f:=Ō (h:=h) w.o Ab E7;have r2:=Ō (h:=h) w.o Ab AZ;have b1:=KT (q:=Bn [E7]) (l:=b.AN);have b2:=KT (q:=Bn [AZ]) (l:=b.AN);have at_:∀k:Nat,k<b.AN.length->AD (.Fl 4) [o,I (k:Int)]=some (.CH [I (Hh b.AN k).node,I (Hh b.AN k).Bc,.str (Hh b.AN k).name,.bool (Hh b.AN k).O2]):=λk hk=>by have:=AU.BK (k:= .i64) w.o hk;rw[Ih hk,this];rfl
 unfold BS.Kb;simp only
 generalize AT (Bn [E7]) b.AN=i at f b1⊢;generalize AT (Bn [AZ]) b.AN=d at r2 b2⊢;rw[Ae,ĳ];by_cases h1:i<d;.obtain⟨k,rfl⟩:∃k:Nat,d=(k:Int):=⟨d.toNat,Ab⟩;rw[Af h1];simp only[abS,ld,r2.Ac,BI,f.Ac,(Ab:(0:Int)<=(k:Int)),h1,A0,at_ k Ab,JZ]
 .rw[Ad h1];by_cases h2:i<0;.rw[Af h2];by_cases h0:(0:Int)<=d<;>simp only[abS,E9,r2.Ac,BI,f.Ac,h0,h1,A0,JZ,h2,ld,(aGZ (h:=h) w.o 0).Ac]
  .obtain⟨k,rfl⟩:∃k:Nat,i=(k:Int):=⟨i.toNat,Ab⟩;rw[Ad h2];by_cases g:(b.a.nd (Hh b.AN k).node).FM=0
   .rw[Ad (by simpa using g)];by_cases j:k=0
    .have e:max ((k:Int)-1) 0=(k:Int):=by omega
     by_cases h0:(0:Int)<=d<;>simp only[abS,E9,r2.Ac,BI,f.Ac,h0,h1,A0,JZ,(Ab:¬(k:Int)<0),ld,at_ k Ab,w.l0,(yn w _).Ac,g,BW,AQ (Ab:(k:Int)=0),e]
    .have hd:=Il (n:=k) Ab Ab;have e:max ((k:Int)-1) 0=((k-1:Nat):Int):=Ab;by_cases h0:(0:Int)<=d<;>simp only[abS,E9,r2.Ac,BI,f.Ac,h0,h1,A0,JZ,(Ab:¬(k:Int)<0),ld,at_ k Ab,w.l0,(yn w _).Ac,g,BW,(Ab:¬(k:Int)=0),hd,at_ (k-1) Ab,e]
   .rw[Af g];by_cases h0:(0:Int)<=d<;>simp only[abS,E9,r2.Ac,BI,f.Ac,h0,h1,A0,JZ,h2,ld,at_ k Ab,w.l0,(yn w _).Ac,g,BW]
end
def yp{s:Ai}:F0 aUs s=decide (s∈HQ):=D9 C4 C4
def Ŭ{s:Ai}:F0 aUd s=decide (s∈[AZ]):=D9 C4 C4
def bY{A:Ar}{y:Int}{ws:List Ai}{q:Bool}(hq:q=decide ((A.nd y).name∈ws)):(decide ((A.nd y).kind=4/\(A.nd y).Bc=1)&&q)=decide (S1 ws A y):=by subst hq;rw[<-Bool.decide_and];rw[Dd];unfold S1;exact⟨λh=>⟨h.1.1,h.1.2,h.2⟩,λh=>⟨⟨h.1,h.2.1⟩,h.2.2⟩⟩
def LA{A:Ar}(ok:EJ A 0)(y:Int):(A.nd y).cont≠0↔S1 [AZ] A y:=by
 by_cases hy:A.has y
 .constructor;.intro h;have:=(ok.SZ y hy).Vf h;exact⟨this.1,this.2.1,by rw[this.2.2];simp⟩
  .intro h;exact ok.eQ y hy (by have:=hy.1;omega) ⟨h.1,h.2.1,by simpa using h.2.2⟩
 .rw[HK hy];constructor;.intro h;simp at h
  .intro h;have:=h.1;rw[HK hy] at this;simp at this
section
variable{h h':Ah}{bi a:Nat}{o c t:Aa}{G G' F:Nat->Prop}{b:BS}{x:Int}{m:Nat}
def aIQ(w:RX h bi a o c t G b)(hnm:∀x,(b.a.nd x).name.length<=1000)(x:Int):BL cx 232 [Pt bi 0,I x,S aUs] h (.bool (decide (S1 HQ b.a x))) h:=by have:=aBq w x aUs AM (by have:=hnm x;omega);rwa [bY yp] at this
def aBr(w:RX h bi a o c t G b)(hnm:∀x,(b.a.nd x).name.length<=1000)(x:Int):BL cx 232 [Pt bi 0,I x,S aUd] h (.bool (decide (S1 [AZ] b.a x))) h:=by have:=aBq w x aUd AM (by have:=hnm x;omega);rwa [bY Ŭ] at this
def db(w:RX h bi a o c t G b)(ok:BA b)(rm:B6 b m)(hnm:∀x,(b.a.nd x).name.length<=1000)(x:Int):BL cx 208 [Pt bi 0,I x] h (.tuple [I (b.place x).1,I (b.place x).2]) h:=by
 have ho:=rm.AN;have ld:A8 h none (Pt bi 2)=some o:=w.ld 2;have lo:=AU.CN w.o;have p:=yo w rm;have r2:=aIP w rm;obtain⟨n,i,ps,f,_⟩:=w.w;rw[Ae,č];by_cases he:x=0/\b.AN=[]
 .have e:b.place x=(b.CQ,0):=by unfold BS.place;rw[Af he]
  have q:AD (.len false) [o]=some (I 0):=by rw[lo,he.2];rfl
  rw[e];simp only[abS,AQ he.1,ld,q,w.l1,A0]
 obtain⟨t',Gc⟩:∃t',t'=if x=0 then(Fx b.AN).node else x:=⟨_,rfl⟩
 obtain⟨pb,bF⟩:∃pb:Int×Int,pb=if b.ET=true/\S1 HQ b.a t' then b.Kb else(t',0):=⟨_,rfl⟩
 have e:b.place x=if(b.a.nd pb.1).cont≠0 then((b.a.nd pb.1).cont,0) else pb:=by unfold BS.place;rw[Ad he];simp only;rw[<-Gc,<-bF]
 have k:=aIQ w hnm t';have d:=aBr w hnm pb.1;have To:=w.E_;have mT:x=0->¬(b.AN.length:Int)=0:=λh0 h1=>he ⟨h0,LV.1 Ab⟩;rw[e];cases l:b.ET with
 |false=>
  rw[l] at To;rw[Ad (by rw[l];intro h;exact absurd h.1 AM)] at bF;subst bF;simp only at d⊢;by_cases g:S1 [AZ] b.a t'
  .have hc:=(LA ok.ok t').2 g;have j:b.a.has t':=by
    by_cases hp:b.a.has t';.exact hp
    .have:=g.1;rw[HK hp] at this;simp at this
   rw[As g] at d;rw[Af hc];by_cases NP:x=0;.rw[Af NP] at Gc;subst Gc;simp only[abS,E9,AQ NP,ld,lo,mT NP,p.Ac,A0,To,d.Ac,w.l0,f.nodes,f.addr j,f.f11 j]
   .rw[Ad NP] at Gc;subst Gc;simp only[abS,NP,A0,To,d.Ac,w.l0,f.nodes,f.addr j,f.f11 j]
  .have hc:=λh=>g ((LA ok.ok t').1 h);rw[Ap g] at d;rw[Ad hc];by_cases NP:x=0;.rw[Af NP] at Gc;subst Gc;simp only[abS,E9,AQ NP,ld,lo,mT NP,p.Ac,A0,To,d.Ac]
   .rw[Ad NP] at Gc;subst Gc;simp only[abS,NP,A0,To,d.Ac]
 |true=>
  rw[l] at To;by_cases hw:S1 HQ b.a t'
  .rw[Af ⟨l,hw⟩] at bF;subst bF;rw[As hw] at k;by_cases g:S1 [AZ] b.a b.Kb.1
   .have hc:=(LA ok.ok b.Kb.1).2 g;have j:b.a.has b.Kb.1:=by
     by_cases hp:b.a.has b.Kb.1;.exact hp
     .have:=g.1;rw[HK hp] at this;simp at this
    rw[As g] at d;rw[Af hc];by_cases NP:x=0;.rw[Af NP] at Gc;subst Gc;simp only[abS,E9,AQ NP,ld,lo,mT NP,p.Ac,A0,To,k.Ac,r2.Ac,d.Ac,w.l0,f.nodes,f.addr j,f.f11 j]
    .rw[Ad NP] at Gc;subst Gc;simp only[abS,NP,A0,To,k.Ac,r2.Ac,d.Ac,w.l0,f.nodes,f.addr j,f.f11 j]
   .have hc:=λh=>g ((LA ok.ok b.Kb.1).1 h);rw[Ap g] at d;rw[Ad hc];by_cases NP:x=0;.rw[Af NP] at Gc;subst Gc;simp only[abS,E9,AQ NP,ld,lo,mT NP,p.Ac,A0,To,k.Ac,r2.Ac,d.Ac]
    .rw[Ad NP] at Gc;subst Gc;simp only[abS,NP,A0,To,k.Ac,r2.Ac,d.Ac]
  .rw[Ad (λh=>hw h.2)] at bF;subst bF;rw[Ap hw] at k;simp only at d⊢;by_cases g:S1 [AZ] b.a t'
   .have hc:=(LA ok.ok t').2 g;have j:b.a.has t':=by
     by_cases hp:b.a.has t';.exact hp
     .have:=g.1;rw[HK hp] at this;simp at this
    rw[As g] at d;rw[Af hc];by_cases NP:x=0;.rw[Af NP] at Gc;subst Gc;simp only[abS,E9,AQ NP,ld,lo,mT NP,p.Ac,A0,To,k.Ac,d.Ac,w.l0,f.nodes,f.addr j,f.f11 j]
    .rw[Ad NP] at Gc;subst Gc;simp only[abS,NP,A0,To,k.Ac,d.Ac,w.l0,f.nodes,f.addr j,f.f11 j]
   .have hc:=λh=>g ((LA ok.ok t').1 h);rw[Ap g] at d;rw[Ad hc];by_cases NP:x=0;.rw[Af NP] at Gc;subst Gc;simp only[abS,E9,AQ NP,ld,lo,mT NP,p.Ac,A0,To,k.Ac,d.Ac]
    .rw[Ad NP] at Gc;subst Gc;simp only[abS,NP,A0,To,k.Ac,d.Ac]
end
def Nm(A:Ar):Prop:=∀x,(A.nd x).name.length<=1000
section
variable{A A':Ar}{b:BS}{q:pT}{m j:Nat}{nm:Ai}{l:List A5}{sp p x:Int}
def Nm.le(h:Nm A)(hl:Le A A')(hn:A'.n.length=A.n.length):Nm A':=λy=>by
 by_cases hy:A.has y;.rw[hl.name y hy];exact h y
 .have:¬A'.has y:=by unfold Ar.has at hy⊢;rw[hn];exact hy
  rw[HK this];simp
def Nm.add(h:Nm A){y:ES}(hy:y.name.length<=1000):Nm (A.add y):=λx=>by
 rw[II];split;.exact hy
 .exact h x
def Nm.set(h:Nm A){y:ES}{k:Int}(hy:y.name.length<=1000):Nm (A.set k y):=λx=>by
 rw[JP];split;.exact hy
 .exact h x
def Nm.I8(h:Nm A){k v:Int}:Nm (A.I8 k v):=λx=>by rw[SY];exact h x
def Nm.FT(h:Nm A){bf:Int}:Nm (A.FT p x bf):=h.le OF (J5 (A:=A)).n
def Nm.Ex(h:Nm A){bf:Int}:Nm (A.Ex x p bf):=h.le I9 (J6 (A:=A)).n
def Nm.Ds(h:Nm A){d:Int}:Nm (A.Ds d):=by
 unfold Ar.Ds;split;.exact h
 .exact(h.add AH).I8.I8
def Nm.elem(h:Nm A){d:Int}(hn:nm.length<=1000):Nm (A.elem d sp nm l):=by
 have h1:Nm (A.add {kind:=4,CQ:=d,Bc:=sp,name:=nm,Ay:=Cz l}):=h.add hn;unfold Ar.elem;simp only
 split;.exact(h1.Ds.add AH).set hn
 .exact h1
def Nm.mk(h:Nm b.a)(hn:nm.length<=1000):Nm (b.Er nm l sp p).a:=by
 unfold BS.Er;split;.exact h.elem (by rw[Yx];exact hn)
 .exact h
def Nm.L8(h:Nm b.a)(hn:nm.length<=1000):Nm (b.EF nm l sp).a:=by
 unfold BS.EF;split;.exact(h.mk hn).Ex
 .exact h
def Nm.LK(h:Nm A){s:Ai}{bf:Int}:Nm (BS.LK A s p bf):=by
 unfold BS.LK;split
 .split
  .split;.exact h.set (h _)
   .exact(h.add AH).Ex
  .exact(h.add AH).Ex
 .exact h
def Nm.E1(h:Nm A){s:Ai}{bf:Int}:Nm (BS.E1 A s p bf):=by
 unfold BS.E1;split;.exact(h.add AH).Ex
 .exact h
def Nm.Jn:∀{l:List Cp} {b:BS},Nm b.a->(∀e∈l,e.name.length<=1000)->Nm (BS.Jn l b).2.a
 |[],b,h,_=>h
 |e::l,b,h,hl=>by rw[BS.Jn];exact Nm.Jn (h.L8 (hl e AH)) λx hx=>hl x (by simp[hx])
def Nm.Ge(h:Nm b.a):Nm (b.Ge l x).a:=by
 unfold BS.Ge;split;.exact h.set (h _)
 .exact h
def Nm.Fp{blk anc:Int}{far i:Nat}{l:Int}{mk:Nat}(h:Nm b.a)(r:B6 b m):Nm (BS.Fp blk anc far i b l mk).1.a:=by
 unfold BS.Fp;simp only
 split;.exact h
 .split;.exact h
  .rename_i he _;obtain⟨p,hp,c,_,_,_⟩:=HC (Jt.1 he);rw[c,AY,AJ,Al hp,Fg];exact(h.mk (r.DE _ (AL hp)).1).FT
def Nm.KC{blk anc:Int}{far k m:Nat}:∀{c:Nat} {s:BS×Int×Nat},Nm s.1.a->B6 s.1 (m+4*c)->Nm (BS.KC blk anc far k c s).1.a
 |0,s,h,_=>h
 |c+1,s,h,r=>Nm.KC (c:=c) (h.Fp r) (OM (m:=m+4*c) (r.le Ab))
def Nm.CB{n:Int}:∀{l:List Int} {A:Ar},Nm A->Nm (BS.CB A n l)
 |[],A,h=>h
 |y::l,A,h=>Nm.CB (l:=l) (h.FT (p:=n) (x:=y) (bf:=0))
def Nm.GH{fe:Cp}{blk anc:Int}{s:BS×Int×Nat}(h:Nm s.1.a)(KE:fe.name.length<=1000):Nm (BS.GH fe blk anc s).a:=by
 unfold BS.GH;simp only
 generalize bF:s.1.place anc=pb;have h2:Nm (s.1.a.Ex s.2.1 pb.1 pb.2):=h.Ex;have c:=Nm.mk (b:={s.1 with a:=s.1.a.Ex s.2.1 pb.1 pb.2}) (nm:=fe.name) (l:=fe.Ay) (sp:=1) (p:=blk) h2 KE;exact(Nm.CB c).FT
def Nm.round(h:Nm b.a)(r:B6 b (m+4*b.AN.length+10)):Nm (b.round nm).2.a:=by
 unfold BS.round;simp only
 split
 .have:(b.CO nm).a=b.a:=by
   unfold BS.CO;split;.split<;>rfl
   .rfl
  rw[this];exact h
 .rename_i hf;obtain⟨f,Hp,c⟩:=Tk (Jt.1 hf);have WU:b.A6.getD (GF nm b.A6).toNat Cp.zero=b.A6[f]:=by rw[c,AY,AJ,Al Hp];rfl
  have KE:=r.DE _ (AL Hp);rw[WU];split;.exact h
  .split;.exact h
   .split;.exact h
    .have hlt:(D3 b.A6[f].node b.AN).toNat-1 -(AT (Br b.A6[f].node) b.AN).toNat<=b.AN.length:=by
      rw[IH];split;.omega
      .unfold EZ;split;.rename_i j hj;have:=(EI.1 hj).1;rw[Bd] at this;omega
       .omega
     exact Nm.GH (Nm.KC (m:=m) h (r.le Ab)) KE.1
def Nm.Eh:∀{n:Nat} {b:BS} {k:Nat},Nm b.a->b.AN.length<=k->B6 b (m+n*(4*(k+n)+10))->Nm (BS.Eh n b nm).a
 |0,b,k,h,hk,r=>h
 |n+1,b,k,h,hk,r=>by
  have e:(n+1)*(4*(k+(n+1))+10)=n*(4*(k+1+n)+10)+(4*(k+(n+1))+10):=by rw[BH,D7,(Ab:k+(n+1)=k+1+n)]
  rw[e] at r;have h1:=ON (m:=m+n*(4*(k+1+n)+10)) (r.le Ab) nm;have h2:=h.round (m:=m+n*(4*(k+1+n)+10)) (nm:=nm) (r.le Ab);unfold BS.Eh;simp only
  split;.exact Nm.Eh (n:=n) (k:=k+1) h2 Ab h1.1
  .exact h2
def aD9(h:Nm b.a)(sz:Sz b (j+1))(hq:ly q):Nm (YY b q).1.a:=YZ (P:=λr=>Nm r.1.a)
 (h.L8 hq.name)
 (h.L8 hq.name)
 (Nm.L8 (b:=b) (sp:=1) (l:=q.Ay) h hq.name)
 (h.LK)
 (by
  dsimp only;unfold BS.Hq;split;.exact h.E1
  .exact h.E1)
 (Nm.L8 (b:=b) (sp:=1) (l:=q.Ay) h hq.name)
 (by
  dsimp only;unfold BS.F7;split;.exact h
  .exact h)
 (Nm.Jn h λe he=>(sz.rm.DE e (Bw he)).1)
 (by
  dsimp only;unfold BS.CO;split
  .split;.exact h
   .exact h
  .exact h)
 (by
  dsimp only;unfold BS.Fz;split
  .unfold BS.LR;split;.exact h
   .exact h
  .exact Nm.Eh (n:=8) (k:=b.AN.length) (m:=5000000*j) h (Ag _) (sz.rm.le (by have:=sz.AN;omega)))
 h
 (h.Ge)
 (by
  dsimp only;unfold BS.Cx;split;.exact h
  .exact h)
 h
 h
 h
 h
 (by
  dsimp only;unfold BS.LR;split;.exact h
  .exact h)
 h
 h
 h
 h
 h
 (h.mk hq.name)
 h
def dd(q:Bool):Nm (DD q).a:=λx=>by rw[OP];split<;>simp
def yq(s:EW):Nm s.b.a:=by
 have d:Nm (Jj s.Bc s.name s.Ay s.CK).a:=((dd s.CK).mk (nm:=DI) AM).Ex;have c:Nm (LS s.Bc s.name s.Ay s.CK).a:=by unfold LS;split<;>exact d
 unfold EW.b Ur;split
 .split;.exact c
  .exact c
 .exact dd _
end
section
variable{h h':Ah}{bi a:Nat}{o c t:Aa}{G G' F:Nat->Prop}{b:BS}{x:Int}{m:Nat}
variable{nm:Ai}{av:Aa}{l:List A5}{r:List Aa}{sp p:Int}
def aEa(ok:BA b)(y:Int):(if b.a.has y then(b.a.nd y).CQ else b.CQ)=if(b.a.nd y).CQ≠0 then(b.a.nd y).CQ else b.CQ:=by
 by_cases hy:b.a.has y;.have:=(ok.ok.CQ y hy).1.1;rw[Af hy,Af Ab]
 .rw[Ad hy,HK hy,Ad AH]
def ŭ(w:RX h bi a o c t G b)(ok:BA b)(rm:B6 b (m+3))(hnm:Nm b.a)(hr:N2 nm av r)(hv:Bt l av)(hl:DL l)(hn:nm.length<=1000)(p sp:Int):
  ∃h' G',BL cx 104 [Pt bi 0,.agg r,I sp,I p] h (.agg (b.GA nm l sp).row) h'/\RX h' bi a o c t G' (b.Er nm l sp p)/\DC h (Bu bi G) h' (Bu bi G'):=by
 obtain⟨T,P,O,N,M,L,K,J,VH,TK,rfl⟩:=hr;have s:∀{Q:HG} {h:Ah} {kk:Aa->IT},W cx (.B7 207 [I sp] kk) Q h↔W cx (kk (.bool (decide (BS.H8 sp)))) Q h:=(cu _).B7 rfl rfl;by_cases hs:BS.H8 sp;rotate_left
 .refine⟨h,G,?_,by unfold BS.Er;rw[Ad hs];exact w,.refl⟩;have e:b.GA nm l sp=Item.zero:=by unfold BS.GA;rw[Ad hs]
  rw[e,Nr,Ae,yY];simp only[abS,↓reduceIte,AR,s,Ap hs]
 obtain⟨u,v,hu⟩:=aMS (h:=h) hv (λy hy=>(hl.2 y hy).1) hl.1 sp;have hd:=QC ok (p:=p);have B:∀y∈l.map (C5 sp),BS.H8 y.Bc:=by intro y hy;obtain⟨z,_,rfl⟩:=Bk.1 hy;exact eV
 have hlen:(l.map (C5 sp)).length<=1000000000:=by rw[An];have:=hl.1;omega
 obtain⟨h',G',j,E,D⟩:=w.step (A':=b.a.elem (b.IJ p) sp (BS.IK sp nm) (l.map (C5 sp))) (R:=λh'=>BL cx 165 [Pt a 0,I (b.IJ p),I sp,.str (BS.IK sp nm),u] h (.tuple [I (b.a.len+1),I 0]) h') λn i ps f=>by obtain⟨h',n',H,JA,r,wp,C⟩:=aBp (nm:=BS.IK sp nm) f (rm.len Ab) hd.1 hd.2 hs hu hlen B;exact⟨h',n',H,JA,r,wp,C⟩
 have OX:=Yx (sp:=sp) (nm:=nm);have g:=aGT (h:=h') hu (λy hy=>by obtain⟨z,hz,rfl⟩:=Bk.1 hy;rw[bI];have:=(hl.2 z hz).2;have:AX=140737488355328:=rfl;omega) Ab sp (BS.IK sp nm) Ab;have em:AD (.Co [I 0,I 0,S [],ff] [(0,1),(1,1),(2,1),(3,1)]) [I (b.a.len+1),I sp,.str (BS.IK sp nm),.bool (Fj sp (BS.IK sp nm) (l.map (C5 sp)))]=some (.agg (b.GA nm l sp).row):=by rw[aZ];unfold BS.GA;rw[Af hs]
 have q:=aBr w hnm p;refine⟨h',G',?_,by unfold BS.Er;rw[Af hs];exact E,D⟩;have bU:=λ(y:Item)=>@Item.CP y;obtain⟨n,i,ps,f,_⟩:=w.w;have key:∀(Q:HG) (kk:DX->List Aa->IT) (p':Int),p'=(if S1 [AZ] b.a p then(b.a.nd p).cont else p)->(if b.a.has p' then(b.a.nd p').CQ else b.CQ)=b.IJ p:=by
  intro Q kk p' e;rw[aEa ok];unfold BS.IJ;by_cases d:S1 [AZ] b.a p;.rw[Af d] at e;subst e;rw[Af ((LA ok.ok p).2 d)]
  .rw[Ad d] at e;subst e;rw[Ad (λh=>d ((LA ok.ok p').1 h))]
 have key:=key (λ_ _ _=>True) (λ_ _=> .fail);rw[Ae,yY];by_cases d:S1 [AZ] b.a p
 .have A:b.a.has p:=by
   by_cases hp:b.a.has p;.exact hp
   .have:=d.1;rw[HK hp] at this;simp at this
  have k:=c_ w (b.a.nd p).cont;rw[key _ (Af d).symm] at k;rw[As d] at q;by_cases h2:sp=2
  .have e:BS.IK sp nm=Cq nm I4:=by unfold BS.IK;rw[Af h2]
   rw[e] at j g em;simp only[abS,↓reduceIte,AR,E9,s,As hs,v.Ac,AQ h2,(aGR nm).B7 rfl rfl,A0,q.Ac,w.l0,f.nodes,f.addr A,f.f11 A,k.Ac,BI,j.Ac,g.Ac,em,bU]
  .have e:BS.IK sp nm=nm:=by unfold BS.IK;rw[Ad h2]
   rw[e] at j g em;simp only[abS,↓reduceIte,AR,E9,s,As hs,v.Ac,h2,A0,q.Ac,w.l0,f.nodes,f.addr A,f.f11 A,k.Ac,BI,j.Ac,g.Ac,em,bU]
 .have k:=c_ w p;rw[key _ (Ad d).symm] at k;rw[Ap d] at q;by_cases h2:sp=2
  .have e:BS.IK sp nm=Cq nm I4:=by unfold BS.IK;rw[Af h2]
   rw[e] at j g em;simp only[abS,↓reduceIte,AR,E9,s,As hs,v.Ac,AQ h2,(aGR nm).B7 rfl rfl,A0,q.Ac,w.l0,k.Ac,BI,j.Ac,g.Ac,em,bU]
  .have e:BS.IK sp nm=nm:=by unfold BS.IK;rw[Ad h2]
   rw[e] at j g em;simp only[abS,↓reduceIte,AR,E9,s,As hs,v.Ac,h2,A0,q.Ac,w.l0,k.Ac,BI,j.Ac,g.Ac,em,bU]
end
section
variable{h h':Ah}{bi a:Nat}{o c t:Aa}{G G' F:Nat->Prop}{b:BS}{x:Int}{m:Nat}
variable{nm:Ai}{av:Aa}{l:List A5}{r:List Aa}{sp p:Int}
def aIR(w:RX h bi a o c t G b)(ok:BA b)(rm:B6 b (m+4))(hnm:Nm b.a)(hr:N2 nm av r)(hv:Bt l av)(hl:DL l)(hn:nm.length<=1000)(sp:Int):
  ∃h' o' G',BL cx 87 [Pt bi 0,.agg r,I sp] h (I (b.Pe sp)) h'/\RX h' bi a o' c t G' (b.EF nm l sp)/\DC h (Bu bi G) h' (Bu bi G'):=by
 have dU:AX=140737488355328:=rfl;have ho:=rm.AN;have g:∀{Q:HG} {h:Ah} {kk:Aa->IT},W cx (.B7 207 [I sp] kk) Q h↔W cx (kk (.bool (decide (BS.H8 sp)))) Q h:=(cu _).B7 rfl rfl;have FZ:=hr;obtain⟨L,K,J,H,E,D,C,B,VH,TK,rfl⟩:=hr;by_cases hs:BS.H8 sp;rotate_left
 .refine⟨h,o,G,?_,by unfold BS.EF;rw[Ad hs];exact w,.refl⟩;have e:b.Pe sp=0:=by unfold BS.Pe;rw[Ad hs]
  rw[e,Ae,wc];simp only[abS,g,Ap hs]
 have s:=db w ok rm hnm 0;obtain⟨h1,M,r2,w1,j⟩:=ŭ (m:=m+1) w ok (rm.le Ab) hnm FZ hv hl hn (b.place 0).1 sp;have VV:=ur (nm:=nm) (at_:=l) (p:=(b.place 0).1) ok hs;have vK:=Ja (m:=m+1) (nm:=nm) (sp:=sp) (p:=(b.place 0).1) (rm.le Ab) hl;have YT:(b.GA nm l sp).node=b.a.len+1:=by unfold BS.GA;rw[Af hs]
 have Oc:(b.Er nm l sp (b.place 0).1).AN=b.AN:=by unfold BS.Er;rw[Af hs]
 obtain⟨h2,A,q,d,i⟩:=da w1 VV vK (b.place 0).1 (b.GA nm l sp).node (b.place 0).2;have ld:A8 h2 none (Pt bi 2)=some o:=d.ld 2;obtain⟨u,z,hu⟩:=AU.Gy (b:=40) d.o (by simp only[Oc];omega);have v:=AU.J2 (f:=Item.row) (b:=40) (a:=b.GA nm l sp) hu (by simp only[Oc];omega);have Jh:BY (({b.Er nm l sp (b.place 0).1 with a:=(b.Er nm l sp (b.place 0).1).a.Ex (b.GA nm l sp).node (b.place 0).1 (b.place 0).2}:BS).AN++[b.GA nm l sp]) _:=AU.mk;have n:=d.HU Jh;have e:b.Pe sp=(b.GA nm l sp).node:=by unfold BS.Pe;rw[Af hs,YT]
 refine⟨_,_,A,?_,by unfold BS.EF;rw[Af hs];simp only;rw[<-YT];exact n,(j.trans i).trans Bg⟩;have em:AD (.Dm 4) [.agg (b.GA nm l sp).row]=some (.sl 4 [(b.GA nm l sp).row]):=Mt;have bU:=λ(y:Item)=>@Item.CP y;rw[e,Ae,wc];simp only[abS,E9,g,As hs,s.Ac,r2.Ac,bU,q.Ac,ld,z,em,v,d.st (k:=2) (v0:=o) rfl (AU.cells Jh)]
def yr(w:RX h bi a o c t G b)(ok:BA b)(rm:B6 b (m+4))(hnm:Nm b.a)(hr:N2 nm av r)(hv:Bt l av)(hl:DL l)(hn:nm.length<=1000):
  ∃h' o' G',BL cx 86 [Pt bi 0,.agg r] h (I (b.a.len+1)) h'/\RX h' bi a o' c t G' (b.EF nm l 1)/\DC h (Bu bi G) h' (Bu bi G'):=by
 obtain⟨h',o',G',d,w',x'⟩:=aIR w ok rm hnm hr hv hl hn 1;refine⟨h',o',G',?_,w',x'⟩;have e:b.Pe 1=b.a.len+1:=by unfold BS.Pe;rw[Af JV]
 rw[e] at d;obtain⟨s,q,n,k,j,i,g,f,VH,TK,rfl⟩:=hr;rw[Ae,aDc];simp only[BD,d.Ac]
def aNH(w:RX h bi a o c t G b):∃h',BL cx 99 [Pt bi 0] h (.tuple []) h'/\RX h' bi a o c t G {b with stop:=true}/\DC h (Bu bi G) h' (Bu bi G):=by refine⟨_,?_,w.put (k:=19) (v:= .bool true) rfl rfl w.o w.t,Bg⟩;rw[Ae,aDi];simp only[BD,w.st (k:=19) (v:=tt) rfl rfl]
end
section
variable{h h':Ah}{bi a:Nat}{o c t:Aa}{G G' F:Nat->Prop}{b:BS}{x:Int}{m:Nat}
variable{nm:Ai}{av:Aa}{l:List A5}{r:List Aa}{sp p:Int}
def aNI(w:RX h bi a o c t G b)(ok:Ey b)(rm:B6 b (m+1000))(hr:N2 nm av r)(hv:Bt l av)(hl:DL l)(x:Int):
  ∃h' G',BL cx 97 [Pt bi 0,.agg r,I x] h (.tuple []) h'/\RX h' bi a o c t G' (b.Ge l x)/\DC h (Bu bi G) h' (Bu bi G'):=by
 have dU:AX=140737488355328:=rfl;obtain⟨M,L,K,J,H,E,D,C,VH,TK,rfl⟩:=hr;by_cases hk:(b.a.nd x).kind=4;rotate_left;.refine⟨h,G,?_,by unfold BS.Ge;rw[Ad hk];exact w,.refl⟩;rw[Ae,wj];simp only[abS,↓reduceIte,(MC w x).Ac,hk,BW]
 have hx:b.a.has x:=by
  by_cases hp:b.a.has x;.exact hp
  .rw[HK hp] at hk;simp at hk
 have Wb:=rm.at_ x;have rP:=hl.1;obtain⟨n,i,ps,d,_⟩:=w.w;obtain⟨A,e0,g⟩:=AU.Gy (b:=40) (d.xf hx) Ab;have I2:Ev cx 97 [Pt bi 0,.agg [M,.str nm,L,K,J,H,E,D,av,C,VH,TK],I x] h λr h'=>r= .tuple []/\∃G',RX h' bi a o c t G' (b.Ge l x)/\DC h (Bu bi G) h' (Bu bi G'):=by
  unfold Ev;have hvl:=AU.CN hv;rw[wj];simp only[abS,↓reduceIte,(MC w x).Ac,AQ hk,BW,w.l0,d.nodes,d.addr hx,d.f6 hx,e0];refine Bi (λs:Aa×Nat=>[s.1,I (s.2:Int)]) (λs h1=>s.2<=l.length/\Bt ((b.a.nd x).Ay++BS.plain (l.take s.2)) s.1/\h1=h) (λs=>l.length-s.2) (A,0) rfl ⟨AV _,by simp only[Ku,BS.plain,Dn,By];exact g,rfl⟩ ?_;rintro⟨u,k⟩ h1 ⟨Zp,hu,rfl⟩;simp only at Zp hu;rcases AP k l.length with hlt|Eg
  .have j:=AU.BK (k:= .i64) hv hlt;rw[A5.row] at j;have em:AD (.Dm 3) [.agg [I 0,.str l[k].name,.str l[k].value]]=some (.sl 3 [[I 0,.str l[k].name,.str l[k].value]]):=rfl;have a1:=AU.J2 (f:=A5.row) (b:=40) (a:=⟨0,l[k].name,l[k].value⟩) hu (by rw[Au,BS.plain,An,Aw];omega);rw[A5.bP] at a1;have hs:(b.a.nd x).Ay++BS.plain (l.take (k+1))=((b.a.nd x).Ay++BS.plain (l.take k))++[⟨0,l[k].name,l[k].value⟩]:=by rw[AB hlt,BS.plain,BF,<-AI];rfl
   simp only[abS,Nat.reduceLeDiff,↓reduceIte,AR,hvl,(Ab:(k:Int)<(l.length:Int)),j,aaS,em,a1,BM (Ab:k<9223372036854775807)];exact AK.next (_,k+1) rfl ⟨hlt,by rw[hs,AI];exact .mk,rfl⟩ Dx
  .have Ql:k=l.length:=by omega
   subst Ql;rw[Bx] at hu;have hsp:∀y∈(b.a.nd x).Ay++BS.plain l,BS.H8 y.Bc:=by
    intro y hy;rcases Ax.1 hy with hy|hy
    .exact(ok.ok.SZ x hx).C_ y hy
    .obtain⟨z,_,rfl⟩:=Bk.1 hy;exact⟨Dx,Dx⟩
   obtain⟨h2,N,B,v,q⟩:=w.step (A':=b.a.Jy x ((b.a.nd x).Ay++BS.plain l)) (R:=λh2=>BL cx 226 [Pt a 0,I x,u] h1 (I 0) h2) λn i ps d=>by obtain⟨h',JA,f1,f2,f3⟩:=aIM d hx hk hu (by rw[Au,BS.plain,An];omega) hsp;exact⟨h',n,i,JA,f1,f2,f3⟩
   have e:b.Ge l x={b with a:=b.a.Jy x ((b.a.nd x).Ay++BS.plain l)}:=by unfold BS.Ge;rw[Af hk]
   simp only[abS,Nat.reduceLeDiff,↓reduceIte,AR,hvl,(Ab:¬(l.length:Int)<(l.length:Int)),w.l0,B.Ac];exact⟨_,rfl,rfl,N,by rw[e];exact v,q⟩
 obtain⟨r,h',hr,rfl,G',w',x'⟩:=I2.ret;exact⟨h',G',hr,w',x'⟩
def aNJ(w:RX h bi a o c t G b)(rm:B6 b m):
  ∃h' o',BL cx 92 [Pt bi 0] h (.tuple []) h'/\RX h' bi a o' c t G b.F7/\DC h (Bu bi G) h' (Bu bi G):=by
 have ho:=rm.AN;have hnm:∀i∈b.AN,i.name.length<9223372036854775807:=λi hi=>by have:=rm.VM i hi;omega
 have em:AD (.Dm 1) [S [112]]=some (.sl 1 ([wP].map Cr)):=DR (ws:=[wP]) rfl AM;have ld:A8 h none (Pt bi 2)=some o:=w.ld 2;have e:=aDw (h:=h) w.o Ab hnm 3 (Cc (ws:=[wP])) AM;by_cases hs:HI (Bn [wP]) (Hw 3) b.AN.reverse=true;rotate_left
 .have Wa:HI (Bn [wP]) (Hw 3) b.AN.reverse=false:=by simpa using hs
  rw[Wa] at e;refine⟨h,o,?_,by unfold BS.F7;rw[Ad hs];exact w,.refl⟩;rw[Ae,wg];simp only[BD,ld,em,e.Ac]
 .rw[hs] at e;obtain⟨d,g,r2,O9⟩:=f165 (h:=h) w.o Ab hnm wP false;have w1:=w.HJ (u:=g);have f:=w1.HU O9;have HN:EA wP false=C2 wP:=by funext a;rfl
  have l1:(Dq (EA wP false) Cu b.AN).length<=b.AN.length:=Qx;have Ů:A8 (put (h++g) bi 2 d) none (Pt bi 2)=some d:=f.ld 2;obtain⟨p,t2,q,Jh⟩:=f85 (h:=put (h++g) bi 2 d) O9 Ab (Cc (ws:=[wP])) AM;have j:=f.HJ (u:=t2);rw[<-KR] at Jh;have n:=j.HU Jh;refine⟨_,p,?_,by unfold BS.F7;rw[Af hs,<-HN];exact n,((w.C6.trans Bg).trans f.C6).trans Bg⟩;rw[Ae,wg];simp only[BD,ld,em,e.Ac,r2.Ac,w1.st (k:=2) (v0:=o) rfl (AU.cells O9),Ů,q.Ac,j.st (k:=2) (v0:=d) rfl (AU.cells Jh)]
variable{nm:Ai}{av:Aa}{l:List A5}{r:List Aa}
def aNK(w:RX h bi a o c t G b)(ok:BA b)(rm:B6 b (m+4))(hnm:Nm b.a)(hr:N2 nm av r)(hv:Bt l av)(hl:DL l)(hn:nm.length<=1000)(st:Int):
  ∃h' o' G',BL cx 91 [Pt bi 0,.agg r,I st] h (.tuple []) h'/\RX h' bi a o' c t G' (b.HS nm l st)/\DC h (Bu bi G) h' (Bu bi G'):=by
 obtain⟨h1,e,f,s,w1,i⟩:=yr w ok rm hnm hr hv hl hn;obtain⟨E,D,C,B,A,z,y,u,VH,TK,rfl⟩:=hr;have d:RX (put h1 bi 18 (I st)) bi a e c t f {b.EF nm l 1 with sw:=st}:=w1.put rfl rfl w1.o w1.t;have g:RX (put (put h1 bi 18 (I st)) bi 5 (I (b.EF nm l 1).mode)) bi a e c t f {{b.EF nm l 1 with sw:=st} with S0:=(b.EF nm l 1).mode}:=d.put rfl rfl d.o d.t;have j:=g.pH 8;refine⟨_,e,f,?_,j,((i.trans Bg).trans Bg).trans Bg⟩;have q:=w1.st (k:=18) (v:= I st) (v0:= I (b.EF nm l 1).sw) rfl rfl;have p:=d.st (k:=5) (v:= I (b.EF nm l 1).mode) (v0:= I (b.EF nm l 1).S0) rfl rfl;have n:=g.st (k:=4) (v:=I 8) (v0:= I (b.EF nm l 1).mode) rfl rfl;have l4:A8 (put h1 bi 18 (I st)) none (Pt bi 4)=some (I (b.EF nm l 1).mode):=d.l4;rw[Ae,aDe];simp only[BD,s.Ac,q,l4,p,n]
def aNL(w:RX h bi a o c t G b)(rm:B6 b m):∃h' o',BL cx 101 [Pt bi 0] h (.agg b.oM.row) h'/\RX h' bi a o' c t G b.LR/\DC h (Bu bi G) h' (Bu bi G):=by
 have ho:=rm.AN;have ld:A8 h none (Pt bi 2)=some o:=w.ld 2;have lo:=AU.CN w.o;unfold BS.LR BS.oM;by_cases h2:b.AN.length<2;.refine⟨h,o,?_,by rw[Af h2];exact w,.refl⟩;rw[Af h2,Ae,yX];simp only[abS,↓reduceIte,AR,ld,lo,(Ab:(b.AN.length:Int)<2)];rfl
 .obtain⟨u,e,f,hu⟩:=aDy (h:=h) w.o Ab;have hc:Km b.AN ((b.AN.length:Int)-1)=b.AN.take (b.AN.length-1):=by unfold Km;congr 1;omega
  rw[hc] at hu;have w1:=w.HJ (u:=e);have d:=w1.HU hu;refine⟨_,u,?_,by rw[Ad h2];exact d,w.C6.trans Bg⟩;rw[Ad h2,Ae,yX];simp only[abS,↓reduceIte,AR,E9,ld,lo,(Ab:¬(b.AN.length:Int)<2),(yo w rm).Ac,f.Ac,w1.st (k:=2) (v0:=o) rfl (AU.cells hu)]
def aEb(w:RX h bi a o c t G b)(rm:B6 b m)(nm:Ai):
  ∃h' o',BL cx 94 [Pt bi 0,.str nm] h (.tuple []) h'/\RX h' bi a o' c t G (b.CO nm)/\DC h (Bu bi G) h' (Bu bi G):=by
 have ho:=rm.AN;have hnm:∀i∈b.AN,i.name.length<9223372036854775807:=λi hi=>by have:=rm.VM i hi;omega
 have ld:A8 h none (Pt bi 2)=some o:=w.ld 2;have lo:=AU.CN w.o;have I2:Ev cx 94 [Pt bi 0,.str nm] h λr h'=>r= .tuple []/\∃o',RX h' bi a o' c t G (b.CO nm)/\DC h (Bu bi G) h' (Bu bi G):=by
  unfold Ev;rw[aDg];simp only[BD,ld,lo,Da (Ab: -9223372036854775808<=(b.AN.length:Int)-1) (Ab:(b.AN.length:Int)-1<9223372036854775808)];refine Bi (λn:Nat=>[I ((n:Int)-1)]) (λn h1=>n<=b.AN.length/\(b.AN.reverse.find? λi=>Bn [nm] i||GS i)=((b.AN.take n).reverse.find? λi=>Bn [nm] i||GS i)/\h1=h) (λn=>n) b.AN.length rfl ⟨Ag _,by rw[Bx],rfl⟩ ?_;rintro n h1 ⟨hn,ha,rfl⟩;cases n with
  |zero=>
   have e:b.CO nm=b:=by unfold BS.CO;rw[ha];rfl
   simp only[abS,↓reduceIte,(Ab:¬(0:Int)<=((0:Nat):Int)-1)];exact⟨_,rfl,rfl,o,by rw[e];exact w,.refl⟩
  |succ n=>
   have hlt:n<b.AN.length:=Ab;have i1:((n+1:Nat):Int)-1=(n:Int):=Ab;have s:=AU.BK (k:= .i64) w.o hlt;have VE:=hnm _ (AL hlt);have em:AD (.Dm 1) [.str nm]=some (.sl 1 ([nm].map Cr)):=DR (ws:=[nm]) rfl AH;rw[Tg hlt,FF] at ha;generalize hi:b.AN[n]=i at*;have r2:BL cx 218 [.agg i.row,.sl 1 ([nm].map Cr)] h1 (.bool (Bn [nm] i)) h1:=f167 i (Cc (ws:=[nm])) AH;have sub:=Da (Ab: -9223372036854775808<=(n:Int)-1) (Ab:(n:Int)-1<9223372036854775808);cases h2:Bn [nm] i with
   |true=>
    rw[h2] at r2 ha;obtain⟨f,q,g,O9⟩:=f165 (h:=h1) w.o Ab hnm nm false;have w1:=w.HJ (u:=q);have p:=w1.HU O9;have HN:EA nm false=C2 nm:=by funext a;rfl
    have l1:(Dq (EA nm false) Cu b.AN).length<=b.AN.length:=Qx;have Ů:A8 (put (h1++q) bi 2 f) none (Pt bi 2)=some f:=p.ld 2;obtain⟨z,t2,A,Jh⟩:=aG4 (h:=put (h1++q) bi 2 f) O9 Ab i.node;have v:=p.HJ (u:=t2);have y:=v.HU Jh;have e:b.CO nm={b with AN:=GU i.node (Dq (C2 nm) Cu b.AN)}:=by unfold BS.CO;rw[ha];simp only[h2,Uz,BN]
    simp only[abS,Nat.reduceLeDiff,↓reduceIte,E9,i1,(Ab:(0:Int)<=(n:Int)),ld,s,em,r2.Ac,g.Ac,w1.st (k:=2) (v0:=o) rfl (AU.cells O9),Ů,A.Ac,v.st (k:=2) (v0:=f) rfl (AU.cells Jh)];exact⟨_,rfl,rfl,z,by rw[e,<-HN];exact y,((w.C6.trans Bg).trans p.C6).trans Bg⟩
   |false=>
    rw[h2] at r2 ha;have g:∀{Q:HG} {h:Ah} {kk:Aa->IT},W cx (.B7 220 [I i.Bc,.str i.name] kk) Q h↔W cx (kk (.bool (Ew i.Bc i.name))) Q h:=(f169 i.Bc i.name VE).B7 rfl rfl;cases j:GS i with
    |true=>
     have d:Ew i.Bc i.name=true:=j;rw[j] at ha;have e:b.CO nm=b:=by unfold BS.CO;rw[ha];simp[h2]
     simp only[abS,Nat.reduceLeDiff,↓reduceIte,E9,i1,(Ab:(0:Int)<=(n:Int)),ld,s,em,r2.Ac,g,d];exact⟨_,rfl,rfl,o,by rw[e];exact w,.refl⟩
    |false=>have d:Ew i.Bc i.name=false:=j;rw[j] at ha;simp only[abS,Nat.reduceLeDiff,↓reduceIte,E9,i1,(Ab:(0:Int)<=(n:Int)),ld,s,em,r2.Ac,g,d,sub];exact AK.next n rfl ⟨Ab,ha,rfl⟩ Ab
 obtain⟨r,h',hr,rfl,o',w',x'⟩:=I2.ret;exact⟨h',o',hr,w',x'⟩
variable{nm:Ai}{av:Aa}{l:List A5}{r:List Aa}
def aNM(w:RX h bi a o c t G b)(hc:B2 b.A6 c)(ok:Ey b)(rm:B6 b (m+5))(hnm:Nm b.a)(hr:N2 nm av r)(hv:Bt l av)(hl:DL l)(hn:nm.length<=1000):
  ∃h' o' c' G',BL cx 88 [Pt bi 0,.agg r] h (I (b.a.len+1)) h'/\RX h' bi a o' c' t G' (b.Ko nm l)/\B2 (b.Ko nm l).A6 c'/\DC h (Bu bi G) h' (Bu bi G'):=by
 obtain⟨h1,j,n,i,w1,g⟩:=yr (m:=m+1) w ok (rm.le Ab) hnm hr hv hl hn;obtain⟨fs,d,hf⟩:=hc;have ha:=rm.A6;have Hp:fs.length=b.A6.length:=by rw[<-d,An]
 obtain⟨u,p,QT,r2,hu⟩:=aMv (h:=h1) (l:=fs) hf Ab (bt d λx hx=>((rm.DE x hx).2).1) (e:=⟨⟨b.a.len+1,nm,l⟩,av,hv⟩) (by unfold ZL;have:=hl.1;simp only;omega);refine⟨_,j,u,n,?_,w1.Kr (u:=u),?_,g.trans Bg⟩;.obtain⟨C,B,A,z,y,v,s,q,VH,TK,rfl⟩:=hr;have f:BL cx 137 [c,.agg [I (b.a.len+1),.str nm,av]] h1 u h1:=r2;have Zg:av.cells=[av]:=AU.cells hv;rw[Ae,aDd];simp only[abS,Nat.reduceLeDiff,↓reduceIte,AR,i.Ac,w1.l3,Zg,f.Ac,w1.st (k:=3) (v0:=c) rfl (AU.cells hu)]
 .refine⟨_,?_,hu⟩;rw[pE QT,d];unfold BS.Ko;simp only;rw[EU]
end
def kX{n:Nat}(d:Nat)(hd:0<d)(h:n<2147483648)(e:AD (.int .quo) [I (n:Int),I (d:Int)]=some (I (IntKind.i64.wrap ((n:Int).tdiv (d:Int))))):AD (.int .quo) [I (n:Int),I (d:Int)]=some (I ((n/d:Nat):Int)):=by
 have h2:(n:Int).tdiv (d:Int)=((n/d:Nat):Int):=by rw[Int.tdiv_eq_ediv_of_nonneg Ab];rfl
 have a:n/d<=n:=Nat.div_le_self n d;rw[e,h2];generalize n/d=k at*;rw[wrap_i64 Ab Ab]
def ů{n:Nat}(d:Nat)(hd:0<d)(h:n<2147483648)(e:AD (.int .rem) [I (n:Int),I (d:Int)]=some (I ((n:Int).tmod (d:Int)))):AD (.int .rem) [I (n:Int),I (d:Int)]=some (I ((n%d:Nat):Int)):=by
 have h2:(n:Int).tmod (d:Int)=((n%d:Nat):Int):=by rw[Int.tmod_eq_emod_of_nonneg Ab];rfl
 have a:n%d<=n:=Nat.mod_le n d;rw[e,h2]
def Y7{n:Nat}(h:n<2147483648):AD (.int .quo) [I (n:Int),I 64]=some (I ((n/64:Nat):Int)):=kX 64 AM h rfl
def Y8{n:Nat}(h:n<2147483648):AD (.int .quo) [I (n:Int),I 4096]=some (I ((n/4096:Nat):Int)):=kX 4096 AM h rfl
def kY{n:Nat}(h:n<2147483648):AD (.int .quo) [I (n:Int),I 262144]=some (I ((n/262144:Nat):Int)):=kX 262144 AM h rfl
def N5{n:Nat}(h:n<2147483648):AD (.int .rem) [I (n:Int),I 64]=some (I ((n%64:Nat):Int)):=ů 64 AM h rfl
def Tp{n:Nat}(c:Nat)(h:c+n<2147483648):AD (.int .add) [I (c:Int),I (n:Int)]=some (I ((c+n:Nat):Int)):=by rw[OB Ab Ab];congr 2
def Md{n:Nat}(h:n<64):AD (.int .add) [I 128,I (n:Int)]=some (I ((128+n:Nat):Int)):=Tp 128 Ab
def mc{n:Nat}(h:n<64):AD (.int .add) [I 192,I (n:Int)]=some (I ((192+n:Nat):Int)):=Tp 192 Ab
def me{n:Nat}(h:n<64):AD (.int .add) [I 224,I (n:Int)]=some (I ((224+n:Nat):Int)):=Tp 224 Ab
def mf{n:Nat}(h:n<64):AD (.int .add) [I 240,I (n:Int)]=some (I ((240+n:Nat):Int)):=Tp 240 Ab
def Rn{n:Nat}(h:n<256):AD (.conv .u8) [I (n:Int)]=some (.int .u8 (n:Int)):=by rw[Uk];congr 3;omega
def Qa(r:Int):Prop:=(0<=r/\r<=55295)\/(57344<=r/\r<=1114111)
instance(r:Int):Decidable (Qa r):=by unfold Qa;infer_instance
def aIS(r:Int):JM cx 210 [.int .i32 r] (.bool (decide (Qa r))):=by rw[L0,ď];by_cases h1:0<=r<;>by_cases h2:r<=55295<;>by_cases b:57344<=r<;>by_cases a:r<=1114111<;>simp[h1,h2,b,a,Qa]
def aIT(r:Int)(hr:Qa r)(h:Ah):BL cx 211 [.int .i32 r] h (.sl 1 (Cf (HR r))) h:=by
 have one:∀{a:Nat} (h1:a<256),AD (.Dm 1) [.int .u8 (a:Int)]=some (.sl 1 (Cf [UInt8.ofNat a])):=by intro a h1;simp only[Cf,Bl,Dn,bN h1];rfl
 have QR:∀{a b:Nat} (h1:a<256) (h2:b<256),AD (.Dm 1) [.int .u8 (a:Int),.int .u8 (b:Int)]=some (.sl 1 (Cf [UInt8.ofNat a,UInt8.ofNat b])):=by intro a b h1 h2;simp only[Cf,Bl,Dn,bN h1,bN h2];rfl
 have UF:∀{a b c:Nat} (h1:a<256) (h2:b<256) (d:c<256),AD (.Dm 1) [.int .u8 (a:Int),.int .u8 (b:Int),.int .u8 (c:Int)]=some (.sl 1 (Cf [UInt8.ofNat a,UInt8.ofNat b,UInt8.ofNat c])):=by intro a b c h1 h2 d;simp only[Cf,Bl,Dn,bN h1,bN h2,bN d];rfl
 have four:∀{a b c f:Nat} (h1:a<256) (h2:b<256) (d:c<256) (g:f<256),AD (.Dm 1) [.int .u8 (a:Int),.int .u8 (b:Int),.int .u8 (c:Int),.int .u8 (f:Int)]=some (.sl 1 (Cf [UInt8.ofNat a,UInt8.ofNat b,UInt8.ofNat c,UInt8.ofNat f])):=by intro a b c f h1 h2 d g;simp only[Cf,Bl,Dn,bN h1,bN h2,bN d,bN g];rfl
 have FZ:=hr;unfold Qa at hr;obtain⟨n,rfl⟩:=IV (Ab:0<=r);have hn:n<=1114111:=Ab;have cv:AD (.conv .i64) [.int .i32 (n:Int)]=some (I (n:Int)):=by rw[Qt,wrap_i64 Ab Ab]
 rw[Ae,Đ];by_cases k:n<128
 .have e:HR (n:Int)=[UInt8.ofNat n]:=by unfold HR;rw[Af Ab];rfl
  rw[e];simp only[abS,cv,(Ab:(n:Int)<128),Rn (Ab:n<256),one (Ab:n<256)]
 by_cases j:n<2048
 .have e:HR (n:Int)=[UInt8.ofNat (192+n/64),UInt8.ofNat (128+n%64)]:=by unfold HR;rw[Ad Ab,Af Ab];rfl
  rw[e];simp only[abS,cv,(Ab:¬(n:Int)<128),(Ab:(n:Int)<2048),Y7 (Ab:n<2147483648),mc (Ab:n/64<64),Rn (Ab:192+n/64<256),N5 (Ab:n<2147483648),Md (Ab:n%64<64),Rn (Ab:128+n%64<256),QR (Ab:192+n/64<256) (Ab:128+n%64<256)]
 by_cases i:n<65536
 .have e:HR (n:Int)=[UInt8.ofNat (224+n/4096),UInt8.ofNat (128+n/64%64),UInt8.ofNat (128+n%64)]:=by unfold HR;rw[Ad Ab,Ad Ab,Af Ab];rfl
  rw[e];simp only[abS,cv,(Ab:¬(n:Int)<128),(Ab:¬(n:Int)<2048),(Ab:(n:Int)<65536),Y8 (Ab:n<2147483648),me (Ab:n/4096<64),Rn (Ab:224+n/4096<256),Y7 (Ab:n<2147483648),N5 (Ab:n/64<2147483648),Md (Ab:n/64%64<64),Rn (Ab:128+n/64%64<256),N5 (Ab:n<2147483648),Md (Ab:n%64<64),Rn (Ab:128+n%64<256),UF (Ab:224+n/4096<256) (Ab:128+n/64%64<256) (Ab:128+n%64<256)]
 .have e:HR (n:Int)=[UInt8.ofNat (240+n/262144),UInt8.ofNat (128+n/4096%64),UInt8.ofNat (128+n/64%64),UInt8.ofNat (128+n%64)]:=by unfold HR;rw[Ad Ab,Ad Ab,Ad Ab,Af Ab];rfl
  rw[e];simp only[abS,cv,(Ab:¬(n:Int)<128),(Ab:¬(n:Int)<2048),(Ab:¬(n:Int)<65536),kY (Ab:n<2147483648),mf (Ab:n/262144<64),Rn (Ab:240+n/262144<256),Y8 (Ab:n<2147483648),N5 (Ab:n/4096<2147483648),Md (Ab:n/4096%64<64),Rn (Ab:128+n/4096%64<256),Y7 (Ab:n<2147483648),N5 (Ab:n/64<2147483648),Md (Ab:n/64%64<64),Rn (Ab:128+n/64%64<256),N5 (Ab:n<2147483648),Md (Ab:n%64<64),Rn (Ab:128+n%64<256),four (Ab:240+n/262144<256) (Ab:128+n/4096%64<256) (Ab:128+n/64%64<256) (Ab:128+n%64<256)]
def mg(r:Int):HR (if Qa r then r else 65533)=HR r:=by
 by_cases h:Qa r;.rw[Af h]
 .rw[Ad h];unfold Qa at h;have:HR r=[239,191,189]:=by unfold HR;rw[Ad Ab,Ad Ab,Ad Ab,Ad Ab]
  have h2:HR 65533=[239,191,189]:=by unfold HR;rw[Ad Ab,Ad Ab,Af Ab];decide+kernel
  rw[this,h2]
def yt(r:Int):Qa (if Qa r then r else 65533):=by
 by_cases h:Qa r;.rw[Af h];exact h
 .rw[Ad h];decide
section
variable{h h':Ah}{bi a:Nat}{o c t:Aa}{G G' F:Nat->Prop}{b:BS}{x:Int}{m:Nat}
variable{nm:Ai}{av:Aa}{l:List A5}{r:List Aa}{sp p:Int}
def RX.leaf{k d:Int}{s:Ai}(w:RX h bi a o c t G b)(ok:Ey b)(rm:B6 b (m+1))(hk:k=5\/k=6)(hd:b.a.has d/\(b.a.nd d).kind=1)(hs:s.length<=100000)(p bf:Int):
  ∃e h' G',BL cx 128 [Pt a 0,I d,.agg [I k,I 0,.slnil,I 0,I 0,S [],.slnil,.str s,S [],S [],ff,I 0,I 0]] h (.tuple [I (b.a.len+1),I 0]) e/\BL cx 166 [Pt bi 0,I p,I (b.a.len+1),I bf] e (.tuple []) h'/\RX h' bi a o c t G' {b with a:=(b.a.add {kind:=k,CQ:=d,data:=s}).Ex (b.a.len+1) p bf}/\DC h (Bu bi G) h' (Bu bi G'):=by
 obtain⟨e,D,B,z,u⟩:=w.step (A':=b.a.add {kind:=k,CQ:=d,data:=s}) (R:=λh'=>BL cx 128 [Pt a 0,I d,.agg [I k,I 0,.slnil,I 0,I 0,S [],.slnil,.str s,S [],S [],ff,I 0,I 0]] h (.tuple [I (b.a.len+1),I 0]) h') (λn i ps v=>by obtain⟨h',n',C,JA,r,wp,j⟩:=aIH v (show b.a.len<=1000000000 by have:=rm.n;unfold Ar.len;omega) hd.1 hd.2 k s;exact⟨h',n',C,JA,r,wp,j⟩)
 obtain⟨g,f⟩:=kN (m:=m) (k:=k) (s:=s) ok rm hk hd hs;obtain⟨h',G',A,y,q⟩:=da z g.ba f p (b.a.len+1) bf;exact⟨e,h',G',B,A,y,u.trans q⟩
def aNN(w:RX h bi a o c t G b)(ok:Ey b)(rm:B6 b (m+5))(hnm:Nm b.a)(r:Int):
  ∃h' G',BL cx 89 [Pt bi 0,.int .i32 r] h (.tuple []) h'/\RX h' bi a o c t G' (b.VL r)/\DC h (Bu bi G) h' (Bu bi G'):=by
 have g:=db w ok rm hnm 0;obtain⟨hp,N⟩:=Yq ok (t:=0) (.inl rfl);unfold BS.VL;generalize(b.place 0).1=p at*;generalize(b.place 0).2=bf at*;have r2:=MC w p;unfold BS.LK;by_cases hk:(b.a.nd p).kind=4\/(b.a.nd p).kind=2;rotate_left;.refine⟨h,G,?_,by rw[Ad hk];exact w,.refl⟩;have Z:¬(b.a.nd p).kind=4:=λe=>hk (.inl e);have k2:¬(b.a.nd p).kind=2:=λe=>hk (.inr e);rw[Ae,fD];simp only[abS,g.Ac,r2.Ac,BW,Z,k2,A0]
 rw[Af hk];obtain⟨i,hi,vC,VI,M⟩:=pG (l:=(b.a.nd p).Bb) (bf:=bf) (λh=>by have:=N h;have h2:=(ok.ok.FM bf this.1 (by rw[this.2];have:=hp.1;omega)).2;rwa [this.2] at h2);rw[M];have Ql:(b.a.nd p).Bb.length<=1000000000:=rm.Zm.Bb ok.ok p;obtain⟨n,R,ps,d,eG⟩:=w.w;obtain⟨kv,y,bo⟩:=ym (x:=p) d Ql;have hvl:=AU.CN bo;have q:=aIO (h:=h) bo Ql bf;have rd:=c_ w p;rw[Af hp] at rd;have z:∀{Q:HG} {h:Ah} {kk:Aa->IT},W cx (.B7 210 [.int .i32 r] kk) Q h↔W cx (kk (.bool (decide (Qa r)))) Q h:=(aIS r).B7 rfl rfl;obtain⟨r',FZ⟩:∃r',r'=if Qa r then r else 65533:=⟨_,rfl⟩
 have Wa:=yt r;have xL:=mg r;rw[<-FZ] at Wa xL;have rb:=aIT r' Wa h;rw[xL] at rb;have lK:=Tf r;generalize hs:HR r=s at*;have f3:KA h (.sl 1 (Cf s))=some (h,.sl 1 (Cf s)):=rfl;have b3:AD .WV [.sl 1 (Cf s)]=some (.str s):=by simp[AD,WX,RJ]
 have kO:=ok.ok.CQ p hp;obtain⟨h4,S,T,J,H,P,O⟩:=w.leaf (m:=m) (k:=5) (s:=s) ok (rm.le Ab) (.inl rfl) kO Ab p bf;by_cases hz:i=0
 .subst hz;simp only[↓reduceIte];refine⟨S,T,?_,P,O⟩;rw[Ae,fD];rcases hk with hk|hk<;>by_cases Q4:Qa r<;>by_cases h0:bf=0
  all_goals first|rw[Af Q4] at FZ|rw[Ad Q4] at FZ
  all_goals subst FZ
  all_goals first
   |(rw[<-vC h0] at hvl;simp only[abS,Nat.reduceLeDiff,↓reduceIte,AR,g.Ac,r2.Ac,BW,hk,(AM:¬(2:Int)=4),A0,z,As Q4,rb.Ac,f3,b3,w.l0,y.Ac,hvl,AQ h0,(AM:¬(0:Int)<((0:Nat):Int)),rd.Ac,BI,J.Ac,H.Ac];done)
   |(rw[<-vC h0] at hvl;simp only[abS,Nat.reduceLeDiff,↓reduceIte,AR,g.Ac,r2.Ac,BW,hk,(AM:¬(2:Int)=4),A0,z,Ap Q4,rb.Ac,f3,b3,w.l0,y.Ac,hvl,AQ h0,(AM:¬(0:Int)<((0:Nat):Int)),rd.Ac,BI,J.Ac,H.Ac];done)
   |(rw[VI h0] at q;simp only[abS,Nat.reduceLeDiff,↓reduceIte,AR,g.Ac,r2.Ac,BW,hk,(AM:¬(2:Int)=4),A0,z,As Q4,rb.Ac,f3,b3,w.l0,y.Ac,hvl,h0,q.Ac,(AM:¬(0:Int)<((0:Nat):Int)),rd.Ac,BI,J.Ac,H.Ac];done)
   |(rw[VI h0] at q;simp only[abS,Nat.reduceLeDiff,↓reduceIte,AR,g.Ac,r2.Ac,BW,hk,(AM:¬(2:Int)=4),A0,z,Ap Q4,rb.Ac,f3,b3,w.l0,y.Ac,hvl,h0,q.Ac,(AM:¬(0:Int)<((0:Nat):Int)),rd.Ac,BI,J.Ac,H.Ac];done)
 .obtain⟨j,rfl⟩:∃j,i=j+1:=⟨i-1,Ab⟩;have hj:j<(b.a.nd p).Bb.length:=Ab;rw[Ad hz,E8,Al hj];simp only
  have ht:=ok.ok.M4 p hp _ (AL hj);have C:=AU.BK (k:= .i64) bo hj;rw[Ce] at C;have D:AD (.int .sub) [I ((j+1:Nat):Int),I 1]=some (I (j:Int)):=by have:=Il (n:=j+1) Ab Ab;simpa using this
  have f:(0:Int)<((j+1:Nat):Int):=Ab;generalize hte:(b.a.nd p).Bb[j]=B at*;have E:=MC w B;by_cases A:(b.a.nd B).kind=5
  .rw[Af A];have qV:=rm.data B;obtain⟨h8,K,Y,V,_⟩:=d.wr ht.1 (k:=7) AM (v:= .str ((b.a.nd B).data++s)) rfl (p:=⟨{b.a.nd B with data:=(b.a.nd B).data++s},(pR ps B).kv,(pR ps B).av,d.M4 ht.1,d.xf ht.1⟩) (by simp only[RN.row];rw[(d.pn ht.1).2];rfl);obtain⟨X,U⟩:=w.bq (G':=JB a n R) ⟨n,R,_,Y,rfl⟩ (by rw[eG];exact V);refine⟨h8,_,?_,X,U⟩;have L:=kM (s:=(b.a.nd B).data) (u:=s) Ab;rw[Ae,fD];rcases hk with hk|hk<;>by_cases Q4:Qa r<;>by_cases h0:bf=0
   all_goals first|rw[Af Q4] at FZ|rw[Ad Q4] at FZ
   all_goals subst FZ
   all_goals first
    |(rw[<-vC h0] at hvl;simp only[abS,Nat.reduceLeDiff,↓reduceIte,AR,g.Ac,r2.Ac,BW,hk,(AM:¬(2:Int)=4),A0,z,As Q4,rb.Ac,f3,b3,w.l0,y.Ac,hvl,AQ h0,f,D,C,E.Ac,AQ A,d.nodes,d.addr ht.1,d.f7 ht.1,L,K];done)
    |(rw[<-vC h0] at hvl;simp only[abS,Nat.reduceLeDiff,↓reduceIte,AR,g.Ac,r2.Ac,BW,hk,(AM:¬(2:Int)=4),A0,z,Ap Q4,rb.Ac,f3,b3,w.l0,y.Ac,hvl,AQ h0,f,D,C,E.Ac,AQ A,d.nodes,d.addr ht.1,d.f7 ht.1,L,K];done)
    |(rw[VI h0] at q;simp only[abS,Nat.reduceLeDiff,↓reduceIte,AR,g.Ac,r2.Ac,BW,hk,(AM:¬(2:Int)=4),A0,z,As Q4,rb.Ac,f3,b3,w.l0,y.Ac,hvl,h0,q.Ac,f,D,C,E.Ac,AQ A,d.nodes,d.addr ht.1,d.f7 ht.1,L,K];done)
    |(rw[VI h0] at q;simp only[abS,Nat.reduceLeDiff,↓reduceIte,AR,g.Ac,r2.Ac,BW,hk,(AM:¬(2:Int)=4),A0,z,Ap Q4,rb.Ac,f3,b3,w.l0,y.Ac,hvl,h0,q.Ac,f,D,C,E.Ac,AQ A,d.nodes,d.addr ht.1,d.f7 ht.1,L,K];done)
  .rw[Ad A];refine⟨S,T,?_,P,O⟩;rw[Ae,fD];rcases hk with hk|hk<;>by_cases Q4:Qa r<;>by_cases h0:bf=0
   all_goals first|rw[Af Q4] at FZ|rw[Ad Q4] at FZ
   all_goals subst FZ
   all_goals first
    |(rw[<-vC h0] at hvl;simp only[abS,Nat.reduceLeDiff,↓reduceIte,AR,g.Ac,r2.Ac,BW,hk,(AM:¬(2:Int)=4),A0,z,As Q4,rb.Ac,f3,b3,w.l0,y.Ac,hvl,AQ h0,f,D,C,E.Ac,A,rd.Ac,BI,J.Ac,H.Ac];done)
    |(rw[<-vC h0] at hvl;simp only[abS,Nat.reduceLeDiff,↓reduceIte,AR,g.Ac,r2.Ac,BW,hk,(AM:¬(2:Int)=4),A0,z,Ap Q4,rb.Ac,f3,b3,w.l0,y.Ac,hvl,AQ h0,f,D,C,E.Ac,A,rd.Ac,BI,J.Ac,H.Ac];done)
    |(rw[VI h0] at q;simp only[abS,Nat.reduceLeDiff,↓reduceIte,AR,g.Ac,r2.Ac,BW,hk,(AM:¬(2:Int)=4),A0,z,As Q4,rb.Ac,f3,b3,w.l0,y.Ac,hvl,h0,q.Ac,f,D,C,E.Ac,A,rd.Ac,BI,J.Ac,H.Ac];done)
    |(rw[VI h0] at q;simp only[abS,Nat.reduceLeDiff,↓reduceIte,AR,g.Ac,r2.Ac,BW,hk,(AM:¬(2:Int)=4),A0,z,Ap Q4,rb.Ac,f3,b3,w.l0,y.Ac,hvl,h0,q.Ac,f,D,C,E.Ac,A,rd.Ac,BI,J.Ac,H.Ac];done)
def RX.My{s:Ai}{p bf x:Int}(hstart:(¬x=0/\p=x/\bf=0)\/(x=0/\BL cx 208 [Pt bi 0,I 0] h (.tuple [I p,I bf]) h))(w:RX h bi a o c t G b)(ok:Ey b)(rm:B6 b (m+1))(hs:s.length<=100000):
  ∃h' G',BL cx 90 [Pt bi 0,.str s,I x] h (.tuple []) h'/\RX h' bi a o c t G' {b with a:=BS.E1 b.a s p bf}/\DC h (Bu bi G) h' (Bu bi G'):=by
 have r2:=MC w p;unfold BS.E1;by_cases hk:Ls (b.a.nd p).kind
 .rw[Af hk];have hp:b.a.has p:=by
   by_cases hp:b.a.has p;.exact hp
   .rw[HK hp] at hk;unfold Ls at hk;simp at hk
  have kO:=ok.ok.CQ p hp;have rd:=c_ w p;rw[Af hp] at rd;obtain⟨y,u,v,f,e,q,n⟩:=w.leaf (m:=m) (k:=6) (s:=s) ok rm (.inr rfl) kO hs p bf;refine⟨u,v,?_,q,n⟩;rw[Ae,we];rcases hstart with⟨hx,rfl,rfl⟩|⟨hx,d⟩
  .rcases hk with hk|hk|hk<;>simp only[abS,Nat.reduceLeDiff,↓reduceIte,AR,A0,r2.Ac,BW,hk,(AM:¬(2:Int)=1),(AM:¬(4:Int)=1),(AM:¬(4:Int)=2),w.l0,rd.Ac,BI,f.Ac,e.Ac,hx]
  .rcases hk with hk|hk|hk<;>simp only[abS,Nat.reduceLeDiff,↓reduceIte,AR,A0,r2.Ac,BW,hk,(AM:¬(2:Int)=1),(AM:¬(4:Int)=1),(AM:¬(4:Int)=2),w.l0,rd.Ac,BI,f.Ac,e.Ac,AQ hx,d.Ac]
 .rw[Ad hk];refine⟨h,G,?_,w,.refl⟩;unfold Ls at hk;have j:¬(b.a.nd p).kind=1:=Ab;have i:¬(b.a.nd p).kind=2:=Ab;have g:¬(b.a.nd p).kind=4:=Ab;rw[Ae,we];rcases hstart with⟨hx,rfl,rfl⟩|⟨hx,d⟩
  .simp only[abS,Nat.reduceLeDiff,↓reduceIte,AR,A0,r2.Ac,BW,j,i,g,hx]
  .simp only[abS,Nat.reduceLeDiff,↓reduceIte,AR,A0,r2.Ac,BW,j,i,g,AQ hx,d.Ac]
def aNO(w:RX h bi a o c t G b)(ok:Ey b)(rm:B6 b (m+1))(hnm:Nm b.a)(s:Ai)(hs:s.length<=100000)(x:Int):
  ∃h' G',BL cx 90 [Pt bi 0,.str s,I x] h (.tuple []) h'/\RX h' bi a o c t G' (b.Hq s x)/\DC h (Bu bi G) h' (Bu bi G'):=by
 unfold BS.Hq;by_cases h0:x=0;.rw[Af h0];exact RX.My (p:=(b.place 0).1) (bf:=(b.place 0).2) (.inr ⟨h0,db w ok rm hnm 0⟩) w ok rm hs
 .rw[Ad h0];exact RX.My (p:=x) (bf:=0) (.inl ⟨h0,rfl,rfl⟩) w ok rm hs
end
def pY(n:Int)(l:List Cp):List Cp:=if 0<=Fe n l then Bf l (Fe n l).toNat else l
def pZ{U:Type}{l:List U}{k:Nat}{x:U}(hk:k<l.length):(Bf l k).take k++x::(Bf l k).drop k=l.set k x:=by
 have h1:(l.take k).length=k:=by rw[Aw];omega
 unfold Bf;rw[HX h1,JC h1,BZ,Af hk]
def Vm{p n:Nat}(h:p<=n):CI (p:Int) n=p:=by unfold CI;omega
section
variable{h h':Ah}{bi a:Nat}{o c t:Aa}{G G' F:Nat->Prop}{b:BS}{x:Int}{m:Nat}
variable{nm:Ai}{av:Aa}{l:List A5}{r:List Aa}{sp p:Int}
def B2.ix{d:List Cp}{n:Nat}(hc:B2 d c)(hb:d.length<=900000000)(x:Int)(h:Ah):BL cx 222 [c,I x] h (I (Fe x d)) h:=by obtain⟨fs,Gu,hv⟩:=hc;have:=aMk (h:=h) hv (by rw[<-Gu,An] at hb;omega) x;rwa [YU,Gu] at this
def B2.wo{d:List Cp}(hc:B2 d c)(hb:d.length<=900000000){k:Nat}(hk:k<d.length)(h:Ah):∃u,BL cx 283 [c,I (k:Int)] h u h/\B2 (Bf d k) u/\u.cells=[u]:=by
 obtain⟨fs,Gu,hv⟩:=hc;have hl:d.length=fs.length:=by rw[<-Gu,An]
 obtain⟨u,r,hu⟩:=aHd (h:=h) hv Ab (k:=k) Ab;exact⟨u,r,⟨Bf fs k,by unfold Bf;rw[BF,Gk,JG,Gu],hu⟩,AU.cells hu⟩
def B2.wi{d:List Cp}(hc:B2 d c)(hb:d.length<=900000000){e:Cp}{v:Aa}(hv:Bt e.Ay v)(he:e.Ay.length<=1000000000)(i:Int)(h:Ah):∃u,BL cx 100 [c,.agg [I e.node,.str e.name,v],I i] h u h/\B2 (d.take (CI i d.length)++e::d.drop (CI i d.length)) u/\u.cells=[u]:=by
 obtain⟨fs,Gu,Sx⟩:=hc;have hl:d.length=fs.length:=by rw[<-Gu,An]
 obtain⟨u,f,QT,r,hu⟩:=f82 (h:=h) Sx Ab (e:=⟨e,v,hv⟩) he i;refine⟨u,r,⟨_,?_,hu⟩,AU.cells hu⟩;rw[BF,Bl,Gk,JG,Gu,QT,hl]
def yu(w:RX h bi a o c t G b)(hc:B2 b.A6 c)(hb:b.A6.length<=900000000)(x:Int):
  ∃h' c',BL cx 354 [Pt bi 0,I x] h (.tuple []) h'/\RX h' bi a o c' t G {b with A6:=pY x b.A6}/\B2 (pY x b.A6) c'/\DC h (Bu bi G) h' (Bu bi G):=by
 have d:=hc.ix (n:=0) hb x h;unfold pY;by_cases h0:0<=Fe x b.A6;.obtain⟨q,hq,e,_⟩:=HC h0;obtain⟨u,r2,hu,f⟩:=hc.wo hb hq h;rw[Af h0];rw[e] at d⊢;rw[AY];refine⟨_,u,?_,w.Kr,hu,Bg⟩;rw[Ae,aw];simp only[abS,w.l3,d.Ac,(Ab:(0:Int)<=(q:Int)),r2.Ac,w.st (k:=3) (v0:=c) rfl f]
 .rw[Ad h0];refine⟨h,c,?_,w,hc,.refl⟩;rw[Ae,aw];simp only[abS,w.l3,d.Ac,h0]
structure mh(h:Ah)(bi a:Nat)(t:Aa)(G0:Nat->Prop)(fe blk anc:Int)(k N m:Nat)(s0:BS×Int×Nat)(n:Nat)(h1:Ah)(o c:Aa)(G:Nat->Prop)(s:BS×Int×Nat):Prop where
 le:n<=N
 w:RX h1 bi a o c t G s.1
 hc:B2 s.1.A6 c
 ok:Ey s.1
 rm:B6 s.1 (m+4*n)
 nm:Nm s.1.a
 last:s.1.a.has s.2.1
 x:DC h (Bu bi G0) h1 (Bu bi G)
 mkb:s.2.2<=1000000000
 len:k+n+1<=s.1.AN.length
 eq:BS.KC blk anc (k+1+N) k N s0=BS.KC blk anc (k+1+N) k n s
 Wh:0<=Fe fe s.1.A6
 AN:s.1.AN.take (k+n+1)=s0.1.AN.take (k+n+1)
 feh:s.1.a.has fe
def mh.step{h1 h2:Ah}{D E B z:Aa}{C A:Nat->Prop}{fe blk anc:Int}{k N n:Nat}{s0 s s':BS×Int×Nat}(i:mh h bi a t G fe blk anc k N m s0 (n+1) h1 D E C s)(e:s'=BS.Fp blk anc (k+1+N) (k+(n+1)) s.1 s.2.1 s.2.2)
  (w:RX h2 bi a B z t A s'.1) (hc:B2 s'.1.A6 z) (x:DC h1 (Bu bi C) h2 (Bu bi A)) (mk:s'.2.2<=1000000000) (Wh:0<=Fe fe s'.1.A6):
  mh h bi a t G fe blk anc k N m s0 n h2 B z A s':=by
 obtain⟨g,last',q⟩:=Yv (blk:=blk) (anc:=anc) (far:=k+1+N) (i:=k+(n+1)) (m:=s.2.2) i.ok i.last;have hl:=i.len;obtain⟨f,v⟩:=bT (blk:=blk) (anc:=anc) (far:=k+1+N) (i:=k+(n+1)) (l:=s.2.1) (mk:=s.2.2) (b:=s.1) Ab;have d:=OM (blk:=blk) (anc:=anc) (far:=k+1+N) (i:=k+(n+1)) (l:=s.2.1) (mk:=s.2.2) (m:=m+4*n) (i.rm.le Ab);have j:=Nm.Fp (blk:=blk) (anc:=anc) (far:=k+1+N) (i:=k+(n+1)) (l:=s.2.1) (mk:=s.2.2) i.nm i.rm;have y:BS.KC blk anc (k+1+N) k (n+1) s=BS.KC blk anc (k+1+N) k n (BS.Fp blk anc (k+1+N) (k+(n+1)) s.1 s.2.1 s.2.2):=rfl;have u:=i.eq.trans y;have Oc:=i.AN;rw[<-e] at g last' q f v d j u;refine⟨by have:=i.le;omega,w,hc,g,d,j,last',i.x.trans x,mk,Ab,u,Wh,?_,q.has _ i.feh⟩;have:=Ca (λl=>l.take (k+(n+1))) Oc;simp only[FA] at this;rw[(Ab:k+n+1=k+(n+1)),f];rwa [Cs Ab] at this
def aIU{anc fe:Int}{k N f:Nat}(w:RX h bi a o c t G b)(hc:B2 b.A6 c)(ok:Ey b)(rm:B6 b (m+4*N))(hnm:Nm b.a)(hN:k+1+N<b.AN.length)(hf:f<=1000000000){d:Item}(ki:b.AN[k+1+N]=d)(Ql:AT (Br fe) b.AN=(k:Int))(Wh:0<=Fe fe b.A6)(feh:b.a.has fe):
  ∃h' o' c' G' s',BL cx 356 [Pt bi 0,I (f:Int),I (k:Int),I ((k+1+N:Nat):Int),I anc] h (.tuple [I s'.2.1,I (s'.2.2:Int)]) h'/\s'=BS.KC d.node anc (k+1+N) k N (b,d.node,f)/\mh h bi a t G fe d.node anc k N m (b,d.node,f) 0 h' o' c' G' s':=by
 have ho:=rm.AN;have dU:AX=140737488355328:=rfl;have xm:b.a.has d.node:=(ok.op d (by rw[<-ki];exact AL _)).1;have I2:Ev cx 356 [Pt bi 0,I (f:Int),I (k:Int),I ((k+1+N:Nat):Int),I anc] h λr h'=>∃o' c' G' s',r= .tuple [I s'.2.1,I (s'.2.2:Int)]/\s'=BS.KC d.node anc (k+1+N) k N (b,d.node,f)/\mh h bi a t G fe d.node anc k N m (b,d.node,f) 0 h' o' c' G' s':=by
  unfold Ev;have ld:A8 h none (Pt bi 2)=some o:=w.ld 2;have e0:=AU.BK (k:= .i64) w.o hN;rw[ki,Item.row] at e0;have i1:=Da (a:=((k+1+N:Nat):Int)) (b:=1) Ab Ab;rw[(Ab:((k+1+N:Nat):Int)-1=((k+N:Nat):Int))] at i1;rw[ĺ];simp only[BD,ld,e0,i1];refine Bi (λz:Nat×Int×Nat=>[I z.2.1,I (z.2.2:Int),I ((k+z.1:Nat):Int)]) (λz h1=>∃o c G1 b1,mh h bi a t G fe d.node anc k N m (b,d.node,f) z.1 h1 o c G1 (b1,z.2)) (λz=>z.1) (N,d.node,f) rfl ⟨o,c,G,b,⟨Ag _,w,hc,ok,rm,hnm,xm,.refl,hf,Dx,rfl,Wh,rfl,feh⟩⟩ ?_;rintro⟨n,last,mk⟩ h1 ⟨T,W,G1,b1,i⟩;simp only at i;cases n with
  |zero=>simp only[abS,↓reduceIte,(Ab:¬(k:Int)<(k:Int))];exact⟨_,rfl,T,W,G1,(b1,last,mk),rfl,i.eq.symm,i⟩
  |succ n=>
   have hnN:=i.le;have hlen:=i.len;simp only at hlen;have bU:k+(n+1)<b1.AN.length:=Ab;have hwo:=i.rm.AN;have hwa:=i.rm.A6;have htl:=i.rm.tm;simp only at hwo hwa;have j:RX h1 bi a T W t G1 b1:=i.w;have J:B2 b1.A6 W:=i.hc;have hmk:mk<=1000000000:=i.mkb;have ny:A8 h1 none (Pt bi 2)=some T:=j.ld 2;have U:=AU.BK (k:= .i64) j.o bU;have WU:b1.AN.getD (k+(n+1)) Item.zero=b1.AN[k+(n+1)]:=by rw[AJ,Al bU];rfl
   have hxf:b1.AN[k+(n+1)].node≠fe:=by have h2:=Ca (λl=>l[k+(n+1)]?) i.AN;simp only[Ci] at h2;rw[Af Ab,Af Ab,Al bU,Al Ab] at h2;obtain⟨_,_,h3⟩:=IM Ql;have h4:=h3 (k+(n+1)) Ab Ab;rw[D5 h2];intro h5;unfold Br at h4;rw[h5] at h4;simp at h4
   generalize hxe:b1.AN[k+(n+1)]=x at*;obtain⟨q,hq,ku,hq0,hq2,hq3⟩:=HC i.Wh;simp only at hq ku;have r2:=J.ix (n:=0) Ab x.node h1;have nu:(k:Int)<((k+(n+1):Nat):Int):=Ab;have dec:AD (.int .sub) [I ((k+(n+1):Nat):Int),I 1]=some (I ((k+n:Nat):Int)):=by have:=Il (n:=k+(n+1)) Ab Ab;rwa [(Ab:k+(n+1)-1=k+n)] at this
   have inc:AD (.int .add) [I ((k+(n+1):Nat):Int),I 1]=some (I ((k+(n+1)+1:Nat):Int)):=BM Ab;have s:AD (.int .sub) [I ((k+1+N:Nat):Int),I ((k+(n+1):Nat):Int)]=some (I ((N-n:Nat):Int)):=by rw[Da Ab Ab];congr 2;omega
   have aTb:x.row.length=4:=rfl;have K:∀{h2:Ah} {O V:Aa} {G2:Nat->Prop} {b2:BS},RX h2 bi a O V t G2 b2->b2.AN=b1.AN->∃M L R B,A8 h2 none (Pt bi 2)=some O/\AD (.K0 4 false false true) [O,I ((k+(n+1):Nat):Int)]=some M/\AD (.append 4 40) [.slnil,M]=some L/\AD (.K0 4 false true false) [O,I ((k+(n+1)+1:Nat):Int)]=some R/\AD (.append 4 40) [L,R]=some B/\Cv h2 1 (Pt bi 2) B=some (Am.put h2 bi 2 B)/\RX (Am.put h2 bi 2 B) bi a B V t G2 {b2 with AN:=Bf b1.AN (k+(n+1))}:=by
    intro h2 O V G2 b2 A P;have Zh:BY b1.AN O:=by rw[<-P];exact A.o
    obtain⟨M,H,q1⟩:=AU.Ms Zh (k:= .i64) (n:=k+(n+1)) Ab;obtain⟨L,E,q2⟩:=AU.Gy (b:=40) q1 (by rw[Aw];omega);obtain⟨R,D,q3⟩:=AU.SN Zh (k:= .i64) (n:=k+(n+1)+1) Ab;obtain⟨B,C,q4⟩:=AU.eF (b:=40) q2 q3 (by rw[Aw,Bd];omega);exact⟨M,L,R,B,A.ld 2,H,E,D,C,A.st (k:=2) (v0:=O) rfl (AU.cells q4),A.HU q4⟩
   by_cases he:Fe x.node b1.A6<0
   .obtain⟨M,L,R,B,_,H,E,D,C,X,Q⟩:=K j rfl;have es:({b1 with AN:=Bf b1.AN (k+(n+1))},last,mk)=BS.Fp d.node anc (k+1+N) (k+(n+1)) b1 last mk:=by unfold BS.Fp;simp only[WU];rw[Af he]
    have y:=i.step es Q J Bg hmk i.Wh;by_cases Nv:(3:Int)<((N-n:Nat):Int);.simp only[abS,Nat.reduceLeDiff,↓reduceIte,AR,E9,nu,ny,U,j.l3,r2.Ac,A0,s,Nv,(Ab:¬(0:Int)<=Fe x.node b1.A6),he,H,E,inc,D,C,X,dec];exact AK.next (n,last,mk) rfl ⟨_,_,_,_,y⟩ Dx
    .simp only[abS,Nat.reduceLeDiff,↓reduceIte,AR,E9,nu,ny,U,j.l3,r2.Ac,A0,s,Nv,he,H,E,inc,D,C,X,dec];exact AK.next (n,last,mk) rfl ⟨_,_,_,_,y⟩ Dx
   .obtain⟨p,hp,ep,NP,ZQ,hp3⟩:=HC (Jt.1 he);have Eg:(0:Int)<=(p:Int):=Ab;rw[ep] at r2;have ept:(Fe x.node b1.A6).toNat=p:=by rw[ep,AY]
    have hpf:b1.A6[p].node≠fe:=by rw[ZQ];exact hxf
    by_cases Nv:(3:Int)<((N-n:Nat):Int)
    .obtain⟨V,r3,I0,aIV⟩:=J.wo Ab hp h1;have A:=j.Kr (u:=V) (l:=Bf b1.A6 p);obtain⟨M,L,R,B,Ů,H,E,D,C,X,Q⟩:=K A rfl;have es:({b1 with A6:=Bf b1.A6 p,AN:=Bf b1.AN (k+(n+1))},last,if p<mk then mk-1 else mk)=BS.Fp d.node anc (k+1+N) (k+(n+1)) b1 last mk:=by unfold BS.Fp;simp only[WU];rw[Ad he,Af (Ab:k+(n+1)+3<k+1+N),ept]
     have y:=i.step es Q I0 (Bg.trans Bg) (by simp only;split<;>omega) (by simp only;rw[bS i.Wh hp hpf];have:=i.Wh;unfold down;split<;>omega);have s3:=j.st (k:=3) (v0:=W) rfl aIV;by_cases hpm:(p:Int)<(mk:Int);.have dm:=Il (n:=mk) Ab Ab;rw[Af (Ab:p<mk)] at y;simp only[abS,Nat.reduceLeDiff,↓reduceIte,AR,E9,nu,ny,U,j.l3,r2.Ac,A0,s,Nv,Eg,r3.Ac,s3,hpm,dm,(AM:(-1:Int)<0),Ů,H,E,inc,D,C,X,dec];exact AK.next (n,last,mk-1) rfl ⟨_,_,_,_,y⟩ Dx
     .rw[Ad (Ab:¬p<mk)] at y;simp only[abS,Nat.reduceLeDiff,↓reduceIte,AR,E9,nu,ny,U,j.l3,r2.Ac,A0,s,Nv,Eg,r3.Ac,s3,hpm,(AM:(-1:Int)<0),Ů,H,E,inc,D,C,X,dec];exact AK.next (n,last,mk) rfl ⟨_,_,_,_,y⟩ Dx
    .obtain⟨fs,Gu,hv⟩:=J;have Hp:b1.A6.length=fs.length:=by rw[<-Gu,An]
     have aDP:p<fs.length:=Ab;have efp:fs[p].c=b1.A6[p]:=by simp only[<-Gu,C1]
     have P:=AU.BK (k:= .i64) hv aDP;have lg:fs[p].v.cells=[fs[p].v]:=AU.cells fs[p].ok;have hr:N2 fs[p].c.name fs[p].v [I 2,.str fs[p].c.name,ff,S [],ff,S [],ff,ff,fs[p].v,ff,S [],.int .i32 0]:=⟨I 2,ff,S [],ff,S [],ff,ff,ff,S [],.int .i32 0,rfl⟩;have KE:=i.rm.DE _ (AL hp);rw[<-efp] at KE;obtain⟨h2,G2,r4,A,x2⟩:=ŭ (m:=m+4*n) j i.ok.ba (i.rm.le Ab) i.nm hr fs[p].ok KE.2 KE.1 anc 1;obtain⟨xy,fr,le2⟩:=P5 (nm:=fs[p].c.name) (at_:=fs[p].c.Ay) (p:=anc) i.ok JV;have Vh:=Ja (m:=m+4*n+1) (nm:=fs[p].c.name) (l:=fs[p].c.Ay) (sp:=1) (p:=anc) (i.rm.le Ab) KE.2;have Oc:(b1.Er fs[p].c.name fs[p].c.Ay 1 anc).AN=b1.AN:=by unfold BS.Er;rw[Af JV]
     have QE:(b1.Er fs[p].c.name fs[p].c.Ay 1 anc).A6=b1.A6:=by unfold BS.Er;rw[Af JV]
     have es0:BS.Fp d.node anc (k+1+N) (k+(n+1)) b1 last mk=({b1.Er fs[p].c.name fs[p].c.Ay 1 anc with a:=(b1.Er fs[p].c.name fs[p].c.Ay 1 anc).a.FT (b1.GA fs[p].c.name fs[p].c.Ay 1).node last 0,AN:=(b1.Er fs[p].c.name fs[p].c.Ay 1 anc).AN.set (k+(n+1)) (b1.GA fs[p].c.name fs[p].c.Ay 1),A6:=(b1.Er fs[p].c.name fs[p].c.Ay 1 anc).A6.set p {fs[p].c with node:=(b1.GA fs[p].c.name fs[p].c.Ay 1).node}},(b1.GA fs[p].c.name fs[p].c.Ay 1).node,if last=d.node then p+1 else mk):=by unfold BS.Fp;simp only[WU];rw[Ad he,Ad Ab,ept,AJ,Al hp,Fg,<-efp]
     have xK:=NY i.ok fr;have hna:=QD i.ok fr;have hnf:(b1.GA fs[p].c.name fs[p].c.Ay 1).node≠fe:=λP=>fr.new (by rw[P];exact i.feh);have aDQ:(b1.GA fs[p].c.name fs[p].c.Ay 1).name.length<=1000:=N0 KE.1;simp only at xK hna;generalize b1.GA fs[p].c.name fs[p].c.Ay 1=g at*;generalize b1.Er fs[p].c.name fs[p].c.Ay 1 anc=b2 at*;have Ů:A8 h2 none (Pt bi 2)=some T:=A.ld 2;have Zh:BY b1.AN T:=j.o;obtain⟨M,H,q1⟩:=AU.Ms Zh (k:= .i64) (n:=k+(n+1)) Ab;obtain⟨L,E,q2⟩:=AU.Gy (b:=40) q1 (by rw[Aw];omega);have D:=AU.J2 (a:=g) (b:=40) q2 (by rw[Aw];omega);obtain⟨B,C,q4⟩:=AU.SN Zh (k:= .i64) (n:=k+(n+1)+1) Ab;obtain⟨u5,p5,q5⟩:=AU.eF (f:=Item.row) (l:=b1.AN.take (k+(n+1))++[g]) (b:=40) .mk q4 (by rw[Au,Aw,Bd,Be];omega);have es5:b1.AN.take (k+(n+1))++[g]++b1.AN.drop (k+(n+1)+1)=b2.AN.set (k+(n+1)) g:=by rw[Oc,BZ,Af bU,AI];rfl
     rw[es5] at q5;have Ű:AD (.Dm 4) [.agg g.row]=some (.sl 4 [g.row]):=Mt;have s5:=A.st (k:=2) (v0:=T) rfl (AU.cells q5);have w3:=A.HU q5;have x3:=x2.trans (Bg (k:=2) (v:=u5));generalize put h2 bi 2 u5=h3 at*;have Z:=w3.l3;have hc0:B2 b1.A6 W:=⟨fs,Gu,hv⟩;obtain⟨V,r6,I0,aIV⟩:=hc0.wo Ab hp h3;obtain⟨c3,r7,aIW,aNP⟩:=I0.wi (by rw[Hj hp];omega) (e:={fs[p].c with node:=g.node}) fs[p].ok (by have:=KE.2.1;simp only;omega) (p:Int) h3;rw[Vm (by rw[Hj hp];omega),pZ hp] at aIW;have s6:=w3.st (k:=3) (v0:=W) rfl aNP;have Q:=w3.Kr (u:=c3) (l:=b2.A6.set p {fs[p].c with node:=g.node});have hc4:B2 (b2.A6.set p {fs[p].c with node:=g.node}) c3:=by rw[QE];exact aIW
     have x4:=x3.trans (Bg (k:=3) (v:=c3));generalize put h3 bi 3 c3=h4 at*;have ok3:=xy.uE (i:=g) (k:=k+(n+1)) ⟨fr.has,fr.kind,fr.Bc,fr.name⟩ (by rw[Oc];exact xK);have nr:=ok3.uF (e:={fs[p].c with node:=g.node}) (k:=p) ⟨fr.has,fr.kind⟩ (by simp only[QE];exact hna);have rm4:B6 {b2 with AN:=b2.AN.set (k+(n+1)) g,A6:=b2.A6.set p {fs[p].c with node:=g.node}} (m+4*n+1):=by
      refine⟨Vh.n,Vh.at_,Vh.data,by simp only[Bq];exact Vh.AN,by simp only[Bq];exact Vh.A6,Vh.tm,λe he=>?_,λi hi=>?_⟩
      .rcases Dg he with he|rfl
       .exact Vh.DE e he
       .exact KE
      .rcases Dg hi with hi|rfl
       .exact Vh.VM i hi
       .exact aDQ
     obtain⟨er,h6,G6,r8,w6,x6⟩:=Q.kW nr.ba rm4 g.node last 0;have y:=i.step es0.symm w6 hc4 (x4.trans x6) (by simp only;split<;>omega) (by simp only;rw[QE,pM i.Wh hp hpf hnf];exact i.Wh);have Y:=Q.l0;have incp:=BM (Ab:p<9223372036854775807);rw[Cl.row] at P;by_cases Sb:last=d.node;.rw[Af Sb] at y;simp only[abS,Nat.reduceLeDiff,↓reduceIte,AR,E9,nu,ny,U,j.l3,r2.Ac,A0,s,Nv,(Ab:¬(p:Int)<0),P,lg,r4.Ac,Ů,H,E,Ű,D,inc,C,p5,s5,Z,r6.Ac,r7.Ac,s6,AQ Sb,incp,Y,r8.Ac,dec];exact AK.next (n,g.node,p+1) rfl ⟨_,_,_,_,y⟩ Dx
     .rw[Ad Sb] at y;simp only[abS,Nat.reduceLeDiff,↓reduceIte,AR,E9,nu,ny,U,j.l3,r2.Ac,A0,s,Nv,(Ab:¬(p:Int)<0),P,lg,r4.Ac,Ů,H,E,Ű,D,inc,C,p5,s5,Z,r6.Ac,r7.Ac,s6,Sb,Y,r8.Ac,dec];exact AK.next (n,g.node,mk) rfl ⟨_,_,_,_,y⟩ Dx
 obtain⟨r,h',hr,o',c',G',s',rfl,e',i'⟩:=I2.ret;exact⟨h',o',c',G',s',hr,e',i'⟩
end
end Go.Am
end
