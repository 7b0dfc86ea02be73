/- Lemmas -/
import Derived.Test.YtmfdhadocnndiaaGreatDoorS4
import Derived.Deep.AppendSrc
import Derived.Great.BuildSlice
import Derived.Laws.IdiomStrings
set_option linter.all false
section
namespace Go.Am
open Go
section
variable{C:Fo}{U0 U U':Gh}{w0 w w':World}{O:Nat->Nat}{Z:Bu}{h:Ah}{a:Act}{fid:FuncId}{ops:List Oper}
def CY{P:Program}{s:Sem Value}{v:Value}(hs:s.run P w= .ok v w'):(do pure (Next.value (<-s)):Sem Next).run P w= .ok (.value v) w':=by simp[hs]
def Rl{J:Type}{z:Nat}:∀{Af:List (List J)},(∀r∈Af,r.length=z)->∀{i:Nat} {r:List J},Af[i]?=some r->∀{j:Nat} {x:J},r[j]?=some x->Af.flatten[i*z+j]?=some x
 |[],_,i,r,hi,_,_,_=>by simp at hi
 |q::Af,hl,0,r,hi,j,x,hj=>by simp at hi;subst hi;have:j<q.length:=(Ai.1 hj).1;simp only[KI,By,Cy];rw[Al this];exact hj
 |q::Af,hl,i+1,r,hi,j,x,hj=>by
  simp at hi;have hq:q.length=z:=hl q Av;rw[Cy,BD (by rw[hq,Bp];omega)];have:=Rl (Af:=Af) (λr hr=>hl r (by simp[hr])) hi hj;rw[<-this];congr 1
  rw[hq,Bp];omega
def Gg{J:Type}{z:Nat}:∀{Af:List (List J)},(∀r∈Af,r.length=z)->Af.flatten.length=Af.length*z
 |[],_=>Av
 |q::Af,hl=>by have hq:q.length=z:=hl q Av;simp[hq,Gg (Af:=Af) (λr hr=>hl r (by simp[hr])),Bp,KF]
def Mh{Af:List (List Aa)}{us:List Value}{z b o:Nat}(hl:∀r∈Af,r.length=z)(hv:AQ U Af.flatten us)(hi:∀(j:Nat) (u:Value),us[j]?=some u->U.GQ b (o+j)=some u):DY U Af z b o:=by refine DY.FX λi r hr=>⟨hl r (Ca hr),Cz.FX λj x hj=>?_⟩;obtain⟨u,hu,hx⟩:=hv.get (Rl hl hr hj);exact⟨u,by rw[O1];exact hi _ _ hu,hx⟩
def CF.drew(hr:CF C U0 w0 U O Z h a w):CF C U0 w0 U O Z h a w.drew:=hr.world (hr.Dr.same rfl) (Kf.drew U w)
def Bu.QB(Z:Bu):Z.at Z.length= .undef:=by simp[Bu.at,List.getD]
def CF.S4(hr:CF C U0 w0 U O Z h a w){x:Aa}{v:Value}(hv:Bv U x v)(ho:HB U w0.heap.size w Z.length none v x)(d:Option Nat):∃U',CF C U0 w0 U' O (Z.put d (.BB x)) h (a.put d v) w:=by
 cases d with
 |none=>exact⟨U,hr⟩
 |some d=>
  rcases ho with ho|⟨g,n,cap,us,e,z,Af,h1,h2,h3,b,c⟩
  .exact⟨U,hr.put λs _=>⟨hv,.inl ho⟩⟩
  .have Iz:=hr.EU (s':=d) (c':=none) h3 b (λ_ u=>by rw[Bu.QB];simp) (λo ho=>by cases ho);exact⟨_,Iz.put λs hs=>by cases hs;exact⟨Bv.mono (Gd _ _ _) _ _ hv,.inr ⟨g,n,cap,us,e,z,Af,h1,h2,by simp[Gh.EU],b,c⟩⟩⟩
def CF.S5(hr:CF C U0 w0 U O Z h a w)(us:Array Value)(e:TypeId){z n cap:Nat}{Af:List (List Aa)}(hz:0<z)(hn:Af.length=n)(hl:∀r∈Af,r.length=z)(Vq:us.size=cap*z)(hc:n<=cap)(hm:cap<=maxLen)
  (hv:AQ U Af.flatten (us.toList.take (n*z))) (h1:∀u∈us.toList.take (n*z),u.oneCell'=true):
  ∃U',U.le U'/\CF C U0 w0 U' O Z h a (w.alloc (.cells us e))/\Bv U' (.sl z Af) (.slice (some ⟨w.heap.size,0,none⟩) n cap)/\HB U' w0.heap.size (w.alloc (.cells us e)) Z.length none (.slice (some ⟨w.heap.size,0,none⟩) n cap) (.sl z Af):=by
 obtain⟨hi,ha⟩:=M2 hr.Dr us e (0,0) (n*z) (some (.tail Z.length none (n*z))) (λo u ho hu=>h1 u (Ca (i:=o) (by rw[Ch ho];simpa using hu))) (.inr (.inl ⟨_,_,rfl⟩));refine⟨_,ha.le,hr.world hi ha,⟨⟨w.heap.size,0,none⟩,cap,by rw[hn],Ab,.inl rfl,Mh hl (AQ.mono ha.le _ _ hv) λj u hj=>?_⟩,.inr ⟨w.heap.size,n,cap,us,e,z,Af,rfl,rfl,by simp[Gh.CT],hr.Dh.size,heap_alloc_new w _,Vq,hc,hm,hz⟩⟩;rw[B2] at hj;split at hj;.rename_i hlt;simp only[Gh.CT,BE,By,Ad hlt];simpa using hj
 .cases hj
def S6{size:Nat}:∀(vs:List Value) (k:Nat) (cells:Array Value),(∀v∈vs,v.cells.size=size)->(k+vs.length)*size<=cells.size->
  Instr.fill (λi=>some (i*size,size)) cells ((vs.zipIdx k).map λp=>(p.2,p.1))=some (cells.toList.take (k*size)++vs.flatMap (·.cells.toList)++cells.toList.drop ((k+vs.length)*size)).toArray
 |[],k,cells,_,_=>by simp[Instr.fill]
 |v::vs,k,cells,hv,hl=>by
  have hs:v.cells.size=size:=hv v Av;simp only[AO] at hl;have D0:(k+1)*size+vs.length*size<=cells.size:=by rw[<-Bp];exact Bj (HF (by congr 1;omega)) hl
  have SX:(k+1)*size=k*size+size:=by rw[Bp,DZ]
  simp only[gA,Be,Instr.fill];have f:¬(v.cells.size≠size\/k*size+v.cells.size>cells.size):=by rw[hs];omega
  simp only[Ct,decide_not,RP,C6,aG4,decide_eq_false_iff_not] at*;rw[Ac f];have hf:=Me v.cells.toList (k*size) 0 cells (by simp[hs];omega);have aBa:v.cells.zipIdx.foldl (λcs (c,j)=>cs.setIfInBounds (k*size+j) c) cells=(cells.toList.take (k*size)++v.cells.toList++cells.toList.drop (k*size+size)).toArray:=by rw[<-aEv,aAZ];rw[hf];simp[hs]
  rw[aBa];have hlen:(cells.toList.take (k*size)++v.cells.toList++cells.toList.drop (k*size+size)).length=cells.size:=by simp[hs];omega
  rw[S6 vs (k+1) _ (λu hu=>hv u (by simp[hu])) (by simp only[Bx];rw[hlen,Bp];exact D0)]
  congr 2
  have b:(cells.toList.take (k*size)++v.cells.toList).length=(k+1)*size:=by simp[hs];omega
  have e:(cells.toList.take (k*size)++v.cells.toList++cells.toList.drop (k*size+size)).take ((k+1)*size)=cells.toList.take (k*size)++v.cells.toList:=by rw[<-b];exact ED
  have d:(cells.toList.take (k*size)++v.cells.toList++cells.toList.drop (k*size+size)).drop ((k+1+vs.length)*size)=cells.toList.drop ((k+(vs.length+1))*size):=by
   rw[Qe,A6 (by rw[b];exact DB _ Ab),b,Eb,Bt];congr 1
   have:(k+1+vs.length)*size-(k+1)*size=vs.length*size:=by rw[Bp (k+1)];omega
   rw[this,Bp k,Bp vs.length];omega
  rw[e,d];simp
def Jz{P:Program}{t:TypeId}(h:Kl P t=true):∃i z,P.info? t=some i/\i.zero=some z/\z.cells.size=i.size:=by
 unfold Kl at h;split at h
 .rename_i i hi;split at h;.rename_i z hz;exact⟨i,z,hi,hz,by simpa using h⟩
  .cases h
 .cases h
def Ih{P:Program}{t:TypeId}{n:Nat}{i:TypeInfo}(h:BI P t=some n)(hi:P.info? t=some i):i.size=n:=by simpa[BI,hi] using h
def J5{P:Program}{t:TypeId}{n:Nat}{i:TypeInfo}(h:It P t=some n)(hi:P.info? t=some i):i.bytes=n:=by simpa[It,hi] using h
def S7:∀{args:List Aa} {us:List Value} {z:Nat},AQ U args us->(∀x∈args,x.cells.length=z)->0<z->AQ U (args.map (·.cells)).flatten (us.flatMap (·.cells.toList))/\(∀u∈us.flatMap (·.cells.toList),u.oneCell'=true)/\∀u∈us,u.cells.size=z
 |[],us,z,h,_,_=>by rw[AQ] at h;subst h;exact⟨rfl,Av,Av⟩
 |x::args,us,z,h,hl,hz=>by
  obtain⟨u,C4,rfl,h1,h2⟩:=h;have hx:=hl x Av;obtain⟨b,e⟩:=Ge h1 Ab;obtain⟨d,r2,c⟩:=S7 h2 (λy hy=>hl y (by simp[hy])) hz;refine⟨by simpa using b.append d,λv hv=>?_,λv hv=>?_⟩;.simp only[List.flatMap_cons,An] at hv;exact hv.elim (e v) (r2 v)
  .rcases Az.1 hv with rfl|hv
   .have:=b.length;simp at this;omega
   .exact c v hv
def VC{a:Act}:∀{l:List (Nat×Operand)} {k:Nat},l.map (·.1)=List.range' k l.length->l.map (λp=>(p.1,a.eval p.2))=((l.map λp=>a.eval p.2).zipIdx k).map λp=>(p.2,p.1)
 |[],k,_=>Av
 |(i,x)::l,k,h=>by simp only[Be,AO,List.range'_succ,EM] at h;obtain⟨rfl,h⟩:=h;simp[gA,VC h]
def rN{o:Oper}{t e:TypeId}{len n:Nat}{parts:Array (Nat×Operand)}{args:List Aa}{u:Aa}(ho:o.op= .buildSlice t len parts)(ht:C.P.underlying t=some (.slice e))(hsz:BI C.P e=some (n+1))(hp:parts.toList.map (·.1)=List.range len)(Yb:Kl C.P e=true)
  (ha:A9 C Z (parts.toList.map (·.2))=some args) (hu:Ax (.Cb (n+1)) args=some u) (hr:CF C U0 w0 U O Z h a w):E0 C U0 w0 o a w (Z.put o.dst (.BB u)) h:=by
 obtain⟨i,z,hi,hz,hzs⟩:=Jz Yb;have N5:=Ih hsz hi;simp only[Ax] at hu;split at hu
 .rename_i hc;cases hu;simp only[Bf,Dq,yG,C6] at hc;obtain⟨UN,JJ⟩:=hc;have D6:=Di hr ha;have hlen:parts.toList.length=len:=by have:=B8 List.length hp;simpa using this
  have WJ:args.length=len:=by have:=D6.length;simp at this;simp at hlen;omega
  obtain⟨d,g,f⟩:=S7 D6 UN (CB n);have VD:=d.length;rw[Gg (z:=n+1) (by intro r hr;obtain⟨x,hx,rfl⟩:=A3.1 hr;exact UN x hx),As,WJ] at VD;have AH:∃cells:Array Value,cells.toList=(parts.toList.map (·.2) |>.map a.eval).flatMap (·.cells.toList)/\(Instr.buildSlice t len (parts.map λ(i,x)=>(i,a.eval x))).run C.P w= .ok (.slice (some ⟨w.heap.size,0,none⟩) len len) (w.alloc (.cells cells e)):=by
   have mO:(parts.map λ(i,x)=>(i,a.eval x)).toList=(((parts.toList.map (·.2)).map a.eval).zipIdx 0).map λp=>(p.2,p.1):=by have:=VC (a:=a) (l:=parts.toList) (k:=0) (by rw[hlen,<-Ž];exact hp);simp only[Lu,List.map_map];exact this
   have gQ:=S6 (size:=n+1) ((parts.toList.map (·.2)).map a.eval) 0 ((Array.range (len*(n+1))).map (z.cells[·%z.cells.size]!)) f (by simp at hlen⊢;rw[hlen];exact Ae _);rw[<-mO] at gQ;have e0:((Array.range (len*(n+1))).map (z.cells[·%z.cells.size]!)).toList.drop ((0+((parts.toList.map (·.2)).map a.eval).length)*(n+1))=[]:=by apply A6;simp at hlen⊢;rw[hlen];exact Ae _
   rw[e0] at gQ;simp only[KI,ND,Bt,Bi] at gQ;refine⟨_,rfl,?_⟩;by_cases h0:len*(n+1)=0
   .have c:len=0:=by
     rcases Nat.mul_eq_zero.1 h0 with h|h
     .exact h
     .omega
    subst c;have n_:parts=#[]:=by apply Hj;simpa using hlen
    subst n_;have b:(Array.range 0:Array Nat)=#[]:=rfl;simp[Instr.buildSlice,run_underlying ht,sizeOf,typeInfo,hi,newRow,Instr.fill,b]
   .exact run_buildSlice w t e len _ _ i z ht hi hz (by rw[N5];rw[WJ] at JJ;omega) (by rw[N5];exact h0) (by rw[N5];exact gQ)
  obtain⟨cells,hcells,AH⟩:=AH;have hcs:cells.size=len*(n+1):=by rw[<-BR,hcells];exact VD
  obtain⟨U',D0,F6,HZ,hown⟩:=hr.S5 cells e (z:=n+1) (n:=len) (cap:=len) (Af:=args.map (·.cells)) (CB n) (by simp[WJ]) (by intro r hr;obtain⟨x,hx,rfl⟩:=A3.1 hr;exact UN x hx) hcs (Ae _)
   (by rw[WJ] at JJ;have:len<=len*(n+1):=Hk _ (CB n);simp only[maxLen];omega) (by rw[hcells,AT (by rw[VD];exact Ae _)];exact d) (by rw[hcells,AT (by rw[VD];exact Ae _)];exact g)
  obtain⟨j,KT⟩:=F6.S4 HZ hown o.dst;exact E0.value (by simp only[execOp,ho];exact CY AH) KT
 .cases hu
def rO{o:Oper}{t e:TypeId}{len n:Nat}{parts:Array (Nat×Operand)}(ho:o.op= .buildSlice t len parts)(ht:C.P.underlying t=some (.slice e))(hsz:BI C.P e=some (n+1))(hp:parts.toList.map (·.1)=List.range len)(Yb:Kl C.P e=true)(h0:len=0)
  (hr:CF C U0 w0 U O Z h a w):E0 C U0 w0 o a w (Z.put o.dst (.BB (.Fb (n+1)))) h:=by
 subst h0;obtain⟨i,z,hi,hz,hzs⟩:=Jz Yb;have n_:parts=#[]:=by apply Hj;have:=B8 List.length hp;simpa using this
 subst n_;have b:(Array.range 0:Array Nat)=#[]:=rfl;have AH:(Instr.buildSlice t 0 ((#[]:Array (Nat×Operand)).map λ(i,x)=>(i,a.eval x))).run C.P w= .ok (.slice (some ⟨w.heap.size,0,none⟩) 0 0) (w.alloc (.cells #[] e)):=by simp[Instr.buildSlice,run_underlying ht,sizeOf,typeInfo,hi,newRow,Instr.fill,b]
 obtain⟨U',D0,F6,_,_⟩:=hr.S5 #[] e (z:=n+1) (n:=0) (cap:=0) (Af:=[]) (CB n) rfl Av Av (Ae _) (by simp[maxLen]) (by rw[KI];exact(rfl:AQ U [] [])) Av;obtain⟨c,KT⟩:=F6.S4 (x:= .Fb (n+1)) (v:= .slice (some ⟨w.heap.size,0,none⟩) 0 0) ⟨_,rfl⟩ (.inl (.inr ⟨_,rfl⟩)) o.dst;exact E0.value (by simp only[execOp,ho];exact CY AH) KT
def gU{t':TypeId}{size bytes:Nat}{v u r:Aa}{c:Value}(HC:(∃g,C.P.underlying t'=some (.slice g))\/C.P.underlying t'=some .string)(hi:Gm U h w)(hu:Bv U u c)(hp:Gw size bytes v u=some r):
  ∃(Af:List (List Aa)) (news:List Value),C0 size bytes v Af=some r/\Src C.P size t' c Af.length news w/\AQ U Af.flatten news/\(∀r∈Af,r.length=size):=by
 unfold Gw at hp;split at hp;.rw[show c=_ from hu];exact⟨[],[],hp,⟨HC,λ_=>rfl,run_firstCells_none w size 0 0 0,run_firstCells_none w.drew size 0 0 0,Av,Av⟩,rfl,Av⟩
 .rename_i z;split at hp;.obtain⟨b,zL⟩:=hu;rw[zL];exact⟨[],[],hp,⟨HC,λ_=>rfl,run_firstCells_some w _ _ _ _ _ [] Av (λj x hj=>by simp at hj),run_firstCells_some w.drew _ _ _ _ _ [] Av (λj x hj=>by simp at hj),Av,Av⟩,rfl,Av⟩
  .cases hp
 .rename_i z Af;split at hp
  .rename_i hz;subst hz;obtain⟨ad,cap,zL,MQ,hsp,hR⟩:=hu;obtain⟨us,f,d,e⟩:=hR.values;have LG:∀(j:Nat) (x:Value),us[j]?=some x->ad.add j=⟨ad.block,ad.off+j,none⟩:=λj x hj=>by
    have hpos:0<Af.length:=by
     rcases JX Af.length with h0|h0
     .have:us.length=0:=by rw[d,h0,KI]
      rw[B4 this] at hj;simp at hj
     .exact h0
    have bN:=L8 hsp MQ hpos;generalize ad.block=b at*;generalize ad.off=o at*;subst bN;unfold Addr.add;split<;>simp_all
   rw[zL];refine⟨Af,us,hp,⟨HC,λ_=>rfl,run_firstCells_some w _ _ _ _ _ us d (λj x hj=>by rw[LG j x hj];exact(hi.GQ _ _ _ (e j x hj)).1),run_firstCells_some w.drew _ _ _ _ _ us d (λj x hj=>by rw[LG j x hj];exact(hi.GQ _ _ _ (e j x hj)).1),d,λx hx=>?_⟩,f,λr hr=>?_⟩;.obtain⟨j,hj⟩:=Cq hx;exact(hi.GQ _ _ _ (e j x hj)).2.1
   .obtain⟨j,hj⟩:=Cq hr;exact(hR.get hj).1
  .cases hp
 .rename_i s;split at hp
  .rename_i hz;subst hz;rw[show c=_ from hu];have hlen:(CG s).length=(⟨⟨s⟩⟩:ByteArray).size:=by simp[CG,ByteArray.size]
   have hrel:∀l:List UInt8,AQ U (CG l).flatten (l.map λb=>Value.int .u8 b.toNat):=by
    intro l;induction l with
    |nil=>rfl
    |cons b l ih=>exact⟨_,_,rfl,rfl,ih⟩
   refine⟨CG s,byteCells ⟨⟨s⟩⟩,hp,?_,?_,λr hr=>?_⟩;.rw[hlen];exact⟨HC,λ_=>rfl,firstCells_string _ w,firstCells_string _ w.drew,by rw[byteCells_length,Fm],λu hu=>by obtain⟨_,_,rfl⟩:=A3.1 hu;rfl⟩
   .simpa[byteCells] using hrel s
   .obtain⟨b,_,rfl⟩:=A3.1 hr;rfl
  .cases hp
 .cases hp
def CF.rP(hr:CF C U0 w0 U O Z h a w){g n cap z:Nat}{us:Array Value}{e:TypeId}{rr Af:List (List Aa)}{news:List Value}(hown:U.BB g=some (.tail Z.length none (n*z)))(hB:w0.heap.size<=g)(hg:w.heap[g]?=some (.cells us e (0,0)))
  (Vq:us.size=cap*z) (hm:cap<=maxLen) (hz:0<z) (hv:Bv U (.sl z rr) (.slice (some ⟨g,0,none⟩) n cap)) (hl:∀r∈Af,r.length=z) (hn:AQ U Af.flatten news) (h1:∀u∈news,u.oneCell'=true) (hroom:n+Af.length<=cap):
  ∃U',U.le U'/\CF C U0 w0 U' O Z h a (w.setRow g (us.toList.take (n*z)++news++us.toList.drop (n*z+news.length)).toArray)/\Bv U' (.sl z (rr++Af)) (.slice (some ⟨g,0,none⟩) (n+Af.length) cap)/\
   HB U' w0.heap.size (w.setRow g (us.toList.take (n*z)++news++us.toList.drop (n*z+news.length)).toArray) Z.length none (.slice (some ⟨g,0,none⟩) (n+Af.length) cap) (.sl z (rr++Af)):=by
 obtain⟨ad,cap',YL,MQ,_,hR⟩:=hv;simp only[Value.slice.injEq,Bs] at YL;obtain⟨rfl,rfl,rfl⟩:=YL;simp only at hR;have N6:news.length=Af.length*z:=by rw[hn.length,Gg hl]
 have hfit:(rr.length+Af.length)*z<=us.size:=by rw[Vq];exact DB _ hroom
 rw[Bp] at hfit;have Ã:(us.toList.take (rr.length*z)).length=rr.length*z:=Ew;obtain⟨vs,l,p,k⟩:=hR.values;have hvs:vs=us.toList.take (rr.length*z):=by
  apply Oy;intro j;by_cases hj:j<rr.length*z
  .have c:j<vs.length:=by rw[p];exact hj
   have hc:=(hr.Dr.GQ _ _ _ (k j _ (Ak c))).1;rw[cell_of_row w _ _ us e (0,0) hg,By] at hc;rw[Ak c,Ch hj];simpa using hc.symm
  .rw[CZ Ab,CZ (by rw[Ã];omega)]
 rw[hvs] at l;have WK:∀u∈us.toList.take (rr.length*z),u.oneCell'=true:=λu hu=>by rw[<-hvs] at hu;obtain⟨j,hj⟩:=Cq hu;exact(hr.Dr.GQ _ _ _ (k j u hj)).2.1
 have d:(rr.length+Af.length)*z=rr.length*z+Af.length*z:=Bp _ _ _;have ic:((us.toList.take (rr.length*z)++news++us.toList.drop (rr.length*z+news.length)).toArray).toList.take ((rr.length+Af.length)*z)=us.toList.take (rr.length*z)++news:=by
  have:(us.toList.take (rr.length*z)++news).length=(rr.length+Af.length)*z:=by rw[Ap,Ã,N6,d]
  rw[<-this];exact ED
 have hsz:(us.toList.take (rr.length*z)++news++us.toList.drop (rr.length*z+news.length)).length=us.size:=by simp[N6];omega
 generalize m:(us.toList.take (rr.length*z)++news++us.toList.drop (rr.length*z+news.length)).toArray=C4 at*;have aBd:C4.size=us.size:=by rw[<-m];simpa using hsz
 obtain⟨hi,D0⟩:=bG hr.Dr hown hg C4 ((rr.length+Af.length)*z) Z.length none (λo ho=>by
   rw[<-m,AA,List.getElem?_toArray,Al Ab,Ch ho];simp)
  Ab (λo u ho hu=>by
   have:u∈C4.toList.take ((rr.length+Af.length)*z):=by refine Ca (i:=o) ?_;rw[Ch ho];simpa using hu
   rw[ic,An] at this;exact this.elim (WK u) (h1 u)) (λo v hv=>by
   have:=(hr.Dr.GQ _ _ _ hv).1;rwa [cell_of_row w _ _ us e (0,0) hg] at this)
 have hk:NN g U w (U.CT g C4 ((rr.length+Af.length)*z) (some (.tail Z.length none ((rr.length+Af.length)*z)))) (w.setRow g C4):=
  ⟨D0,λb x hb hx _=>⟨by simp only[Gh.CT,Ac hb];exact hx,setRow_other w g b C4 hb⟩⟩
 have f:DY (U.CT g C4 ((rr.length+Af.length)*z) (some (.tail Z.length none ((rr.length+Af.length)*z)))) (rr++Af) z g 0:=by
  refine Mh (us:=C4.toList.take ((rr.length+Af.length)*z)) (λr hr=>?_) ?_ (λj u hj=>?_)
  .rcases An.1 hr with hr|hr
   .obtain⟨i,hi⟩:=Cq hr;exact(hR.get hi).1
   .exact hl r hr
  .rw[ic,Jh];exact(AQ.mono D0 _ _ l).append (AQ.mono D0 _ _ hn)
  .rw[B2] at hj;split at hj;.rename_i hlt;simp only[Gh.CT,BE,By,Ad hlt];simpa using hj
   .cases hj
 refine⟨_,D0,⟨hi,⟨hr.fr.size,λs=>?_⟩,hr.Dh.write (g:=g) hB D0 Av rfl rfl rfl (λb hb=>⟨setRow_other w g b C4 hb,by simp only[Gh.CT,Ac hb]⟩),hr.defers,λx cs hx=>Cz.mono D0 _ _ _ (hr.FV x cs hx)⟩,
  ⟨⟨g,0,none⟩,cap,Av,by simpa using hroom,.inl rfl,f⟩,.inr ⟨g,rr.length+Af.length,cap,C4,e,z,rr++Af,rfl,rfl,by simp[Gh.CT],hB,setRow_heap w g us C4 e (0,0) hg,by rw[aBd,Vq],hroom,hm,hz⟩⟩
 by_cases hs:s=Z.length;.subst hs;rw[Bu.QB];trivial
 .exact(hr.fr.GO s).keptBut hown hk (by simp only[IY.bA];intro hx;cases hx;exact hs rfl)
def Mi{t t' ty:TypeId}{ts:Array TypeId}{xs:Array Value}(h0:ts[0]?=some t)(h1:ts[1]?=some t'):Builtin.append_ ts ty xs=Builtin.append_ #[t,t'] ty xs:=by simp only[Builtin.append_,h0,h1];rfl
def AQ.zM{l:List Aa}{us:List Value}{n:Nat}(h:AQ U l us)(hn:us.length<=n):AQ U l (us.take n):=by rw[AT hn];exact h
def LH{cs:List Aa}{z:Nat}:∀{n off:Nat},(Cf cs z off n).flatten=(cs.drop off).take (n*z)
 |0,off=>by simp[Cf]
 |n+1,off=>by rw[Cf,Cy,LH,Bp,DZ,KF (n*z) z,gg,Eb]
def MF{cs:List Aa}{z:Nat}:∀{n off:Nat},(Cf cs z off n).length=n
 |0,off=>rfl
 |n+1,off=>by rw[Cf,AO,MF]
def Oh{cs:List Aa}{z:Nat}:∀{n off:Nat},off+n*z<=cs.length->∀r∈Cf cs z off n,r.length=z
 |0,off,_,r,hr=>by simp[Cf] at hr
 |n+1,off,hl,r,hr=>by
  rw[Bp,DZ] at hl;rw[Cf,Az] at hr;rcases hr with rfl|hr
  .rw[Aw,A5];omega
  .exact Oh Ab r hr
def S8{t':TypeId}{size:Nat}{u:Aa}{f:Value}{Af:List (List Aa)}(HC:(∃k,C.P.underlying t'=some (.slice k))\/C.P.underlying t'=some .string)(hi:Gm U h w)(hu:Bv U u f)(hp:Gc h size u=some Af):
  ∃news:List Value,Src C.P size t' f Af.length news w/\AQ U Af.flatten news/\(∀r∈Af,r.length=size):=by
 unfold Gc at hp;split at hp;.cases hp;rw[show f=_ from hu];exact⟨[],⟨HC,λ_=>rfl,run_firstCells_none w size 0 0 0,run_firstCells_none w.drew size 0 0 0,Av,Av⟩,rfl,Av⟩
 .rename_i z;split at hp;.cases hp;obtain⟨b,zL⟩:=hu;rw[zL];exact⟨[],⟨HC,λ_=>rfl,run_firstCells_some w _ _ _ _ _ [] Av (λj x hj=>by simp at hj),run_firstCells_some w.drew _ _ _ _ _ [] Av (λj x hj=>by simp at hj),Av,Av⟩,rfl,Av⟩
  .cases hp
 .rename_i z g;split at hp
  .rename_i hz;cases hp;subst hz;obtain⟨ad,cap,zL,MQ,hsp,hR⟩:=hu;obtain⟨us,i,c,d⟩:=hR.values;have LG:∀(j:Nat) (x:Value),us[j]?=some x->ad.add j=⟨ad.block,ad.off+j,none⟩:=λj x hj=>by
    have hpos:0<Af.length:=by
     rcases JX Af.length with h0|h0
     .have:us.length=0:=by rw[c,h0,KI]
      rw[B4 this] at hj;simp at hj
     .exact h0
    have bN:=L8 hsp MQ hpos;generalize ad.block=b at*;generalize ad.off=o at*;subst bN;unfold Addr.add;split<;>simp_all
   rw[zL];refine⟨us,⟨HC,λ_=>rfl,run_firstCells_some w _ _ _ _ _ us c (λj x hj=>by rw[LG j x hj];exact(hi.GQ _ _ _ (d j x hj)).1),run_firstCells_some w.drew _ _ _ _ _ us c (λj x hj=>by rw[LG j x hj];exact(hi.GQ _ _ _ (d j x hj)).1),c,λx hx=>?_⟩,i,λr hr=>?_⟩;.obtain⟨j,hj⟩:=Cq hx;exact(hi.GQ _ _ _ (d j x hj)).2.1
   .obtain⟨j,hj⟩:=Cq hr;exact(hR.get hj).1
  .cases hp
 .rename_i s;split at hp
  .rename_i hz;cases hp;subst hz;rw[show f=_ from hu];have hlen:(CG s).length=(⟨⟨s⟩⟩:ByteArray).size:=by simp[CG,ByteArray.size]
   have hrel:∀l:List UInt8,AQ U (CG l).flatten (l.map λb=>Value.int .u8 b.toNat):=by
    intro l;induction l with
    |nil=>rfl
    |cons b l ih=>exact⟨_,_,rfl,rfl,ih⟩
   refine⟨byteCells ⟨⟨s⟩⟩,?_,?_,λr hr=>?_⟩;.rw[hlen];exact⟨HC,λ_=>rfl,firstCells_string _ w,firstCells_string _ w.drew,by rw[byteCells_length,Fm],λu hu=>by obtain⟨_,_,rfl⟩:=A3.1 hu;rfl⟩
   .simpa[byteCells] using hrel s
   .obtain⟨b,_,rfl⟩:=A3.1 hr;rfl
  .cases hp
 .rename_i id off n z;split at hp
  .rename_i hz;subst hz;split at hp
   .rename_i cs hcs;split at hp
    .rename_i hl;cases hp;obtain⟨b,cap,hb,zL,MQ,qF,hsz⟩:=hu;obtain⟨us,e,fr,i,pf,c,d⟩:=hi.cells id cs hcs b hb;have YH:(us.toList.take cs.length).length=cs.length:=c.length;have N6:(((us.toList.take cs.length).drop off).take (n*z)).length=n*z:=by rw[Aw,A5,YH];omega
     have LG:∀j,(⟨b,off,none⟩:Addr).add j=⟨b,off+j,none⟩:=λj=>by unfold Addr.add;split<;>simp_all
     have Ig:∀(j:Nat) (x:Value),(((us.toList.take cs.length).drop off).take (n*z))[j]?=some x->w.cell? ((⟨b,off,none⟩:Addr).add j)=some x:=λj x hj=>by
      rw[LG,cell_of_row w _ _ us e fr i];rw[B2] at hj;split at hj
      .rw[Ci,B2] at hj;split at hj;.simpa using hj
       .cases hj
      .cases hj
     rw[zL,MF];refine⟨((us.toList.take cs.length).drop off).take (n*z),⟨HC,λ_=>rfl,run_firstCells_some w _ _ _ _ _ _ N6 Ig,run_firstCells_some w.drew _ _ _ _ _ _ N6 (λj x hj=>Ig j x hj),N6,λx hx=>d x (Bc (AS hx))⟩,?_,Oh hl⟩;rw[LH];exact(c.drop off).take (n*z)
    .cases hp
   .cases hp
  .cases hp
 .cases hp
def MG{o:Oper}{c:Call}{t t' e:TypeId}{n b:Nat}{s x:Operand}{v u r:Aa}{Af:List (List Aa)}{news:List Value}(ho:o.op= .call c)(hc:c.callee= .builtin .append)(h0:c.argTypes[0]?=some t)(h1:c.argTypes[1]?=some t')(D6:c.args.toList=[s,x])(ht:C.P.underlying t=some (.slice e))
  (HC:(∃D,C.P.underlying t'=some (.slice D))\/C.P.underlying t'=some .string) (hsz:BI C.P e=some (n+1)) (hby:It C.P e=some (b+1)) (hown:Jt C Z s=true) (Yb:Kl C.P e=true) (hv:A9 C Z [s,x]=some [v,u])
  (HL:C0 (n+1) (b+1) v Af=some r) (IU:Src C.P (n+1) t' (a.eval x) Af.length news w) (Sm:AQ U Af.flatten news) (bW:∀q∈Af,q.length=n+1) (hr:CF C U0 w0 U O Z h a w):E0 C U0 w0 o a w ((Z.C7 (CP Z s)).put o.dst (.BB r)) h:=by
 obtain⟨i,z,hi,hz,hzs⟩:=Jz Yb;have N5:=Ih hsz hi;have oa:=J5 hby hi;obtain⟨_,_,e0,hvs,aK⟩:=Ei hr hv;cases e0;have rM:Ed C Z s=some v:=by
  unfold A9 at hv;split at hv;.rename_i p ps A F;cases hv;exact A
  .cases hv
 obtain⟨U1,D0,Iz,HZ,J⟩:=M8 hr hown rM (Z.C7 (CP Z s)).length none;have rQ:=AQ.mono D0 _ _ Sm;have IS:c.args.map a.eval=#[a.eval s,a.eval x]:=by apply Fw;simp[D6]
 have KL:∀v' w',(Builtin.append_ #[t,t'] o.type #[a.eval s,a.eval x]).run C.P w= .ok v' w'->(execOp a.eval o).run C.P w= .ok (.value v') w':=λv' w' AH=>by
  have:execOp a.eval o=(do pure (Next.value (<-Builtin.append_ #[t,t'] o.type #[a.eval s,a.eval x]))):=by rw[<-IS,<-Mi (ty:=o.type) h0 h1];simp only[execOp,ho,resolve,hc];rfl
  rw[this];exact CY AH
 have IB:Src C.P i.size t' (a.eval x) Af.length news w:=by rw[N5];exact IU
 have N6:news.length=Af.length*(n+1):=IU.newsLen;have FC:∀(base:Option Addr) (k cap:Nat) (rr:List (List Aa)) (olds:List Value),a.eval s= .slice base k cap->rr.length=k->(∀q∈rr,q.length=n+1)->AQ U1 rr.flatten olds->(∀q∈olds,q.oneCell'=true)->
   (Builtin.firstCells i.size k (.slice base k cap)).run C.P w.drew= .ok olds.toArray w.drew->cap<k+Af.length->(k+Af.length)*(b+1)<=AN->r= .sl (n+1) (rr++Af)->
   E0 C U0 w0 o a w ((Z.C7 (CP Z s)).put o.dst (.BB r)) h:=by
  intro base k cap rr olds hs hk l gV nv d hlt Qm Rm;have MV:k+Af.length<=AN:=Bj (Hk _ (CB b)) Qm;have ET:=run_append_grow_src (P:=C.P) w t t' o.type e i z ht hi hz base k cap olds d (a.eval x) Af.length news IB hlt (by simp only[AN] at MV;omega) (by rw[oa];exact growslice_fits hlt Qm);rw[<-hs] at ET;have GR:=grownCap_ge w (k+Af.length) cap e;have aBe:olds.length=k*(n+1):=by rw[gV.length,Gg l,hk]
  have mV:(olds++news).length=(k+Af.length)*(n+1):=by rw[Ap,aBe,N6,Bp]
  obtain⟨M,YI,KT,YJ,f⟩:=Iz.drew.S5 ((olds++news).toArray++Builtin.zeroCells z.cells (grownCap w (k+Af.length) cap e-(k+Af.length))) e (z:=n+1) (n:=k+Af.length) (cap:=grownCap w (k+Af.length) cap e) (Af:=rr++Af) (CB n) (by simp[hk])
   (λq hq=>(An.1 hq).elim (l q) (bW q))
   (by simp only[Ip,Bx,size_zeroCells,hzs,N5,mV,<-Bp];congr 1;omega) GR (grownCap_le_maxLen w _ _ _ (by simp only[AN] at MV;simp only[maxLen];omega))
   (by simp only[FT,Jh];rw[<-mV,ED];exact gV.append rQ)
   (λq hq=>by simp only[FT] at hq;rw[<-mV,ED,An] at hq;exact hq.elim (nv q) (IU.one q))
  rw[Rm];obtain⟨L,Ä⟩:=KT.S4 YJ f o.dst;exact E0.value (KL _ _ ET) Ä
 rcases J with(rfl|⟨m,rfl⟩)|⟨g,k,cap,us,G,m,rr,rfl,H5,Of,hB,hg,Vq,yJ,hm,I⟩
 .have H5:a.eval s= .slice none 0 0:=HZ;cases Af with
  |nil=>
   have Rm:r= .slnil:=by simpa[C0] using HL.symm
   have rD:news=[]:=B4 (by simpa using N6);subst rD;have AH:(Builtin.append_ #[t,t'] o.type #[a.eval s,a.eval x]).run C.P w= .ok (.slice none 0 0) w:=by rw[H5];have hl:=IB.len;have Sn:=IB.cells;simp only[Bq] at hl Sn;rcases HC with⟨D,hk⟩|hk<;>simp[Builtin.append_,run_underlying ht,run_underlying hk,sizeOf,typeInfo,hi,hl,Sn]
   rw[Rm];exact E0.value (KL _ _ AH) (Iz.put λ_ _=>⟨rfl,.inl (.inl rfl)⟩)
  |cons q Af=>
   have M9:r= .sl (n+1) (q::Af)/\(q::Af).length*(b+1)<=AN:=by
    simp only[C0] at HL;split at HL;.rename_i hb;cases HL;exact⟨rfl,hb⟩
    .cases HL
   exact FC none 0 0 [] [] H5 rfl Av rfl Av (run_firstCells_none _ _ _ _ _) Av (by simpa using M9.2) (by simpa using M9.1)
 .obtain⟨g,H5⟩:=id HZ;cases Af with
  |nil=>
   have Rm:m=n+1/\r= .Fb m:=by
    simp only[C0] at HL;split at HL;.rename_i UG;cases HL;exact⟨UG,by rw[UG]⟩
    .cases HL
   obtain⟨rfl,Rm⟩:=Rm;have rD:news=[]:=B4 (by simpa using N6);subst rD;have AH:(Builtin.append_ #[t,t'] o.type #[a.eval s,a.eval x]).run C.P w= .ok (.slice (some ⟨g,0,none⟩) 0 0) w:=by rw[H5];have hl:=IB.len;have Sn:=IB.cells;simp only[Bq] at hl Sn;rcases HC with⟨D,hk⟩|hk<;>simp[Builtin.append_,run_underlying ht,run_underlying hk,sizeOf,typeInfo,hi,hl,Sn,storeCells,Result.andThen]
   rw[Rm];exact E0.value (KL _ _ AH) (Iz.put λ_ _=>⟨⟨g,rfl⟩,.inl (.inr ⟨_,rfl⟩)⟩)
  |cons q Af=>
   have M9:r= .sl (n+1) (q::Af)/\(q::Af).length*(b+1)<=AN:=by
    simp only[C0] at HL;split at HL;.rename_i hb;cases HL;exact⟨rfl,hb.2⟩
    .cases HL
   exact FC (some ⟨g,0,none⟩) 0 0 [] [] H5 rfl Av rfl Av (run_firstCells_some w.drew _ _ _ _ _ [] Av (λj x hj=>by simp at hj)) Av (by simpa using M9.2) (by simpa using M9.1)
 .obtain⟨K,H,YL,MQ,_,hR⟩:=id HZ;rw[H5] at YL;simp only[Value.slice.injEq,Bs] at YL;obtain⟨rfl,hk,rfl⟩:=YL;subst hk;simp only at hR;have B:m=n+1/\r= .sl (n+1) (rr++Af)/\(Af=[]\/(rr.length+Af.length)*(b+1)<=AN):=by
   cases Af with
   |nil=>
    simp only[C0] at HL;split at HL;.rename_i UG;cases HL;exact⟨UG,by simp[UG],.inl rfl⟩
    .cases HL
   |cons q Af=>
    simp only[C0] at HL;split at HL;.rename_i UG;cases HL;exact⟨UG.1,rfl,.inr UG.2⟩
    .cases HL
  obtain⟨rfl,Rm,Qm⟩:=B;by_cases hroom:rr.length+Af.length<=cap
  .have hfit:rr.length*(n+1)+news.length<=us.size:=by rw[N6,Vq,<-Bp];exact DB _ hroom
   have AH:=run_append_room_src (P:=C.P) w t t' o.type e i ht hi g 0 rr.length cap (a.eval x) Af.length news IB hroom (λj hj=>by rw[cell_of_row w _ _ us G (0,0) hg,N5,B9 Ab];rfl) (λj hj=>frozen_of_row w _ _ us G hg)
   rw[By,N5,D5 news _ us w hg hfit,<-H5] at AH;rw[H5] at HZ;obtain⟨M,YI,KT,YJ,f⟩:=Iz.rP Of hB hg Vq hm (CB n) HZ bW rQ IU.one hroom;obtain⟨L,Ä⟩:=KT.S4 YJ f o.dst;rw[Rm];exact E0.value (KL _ _ AH) Ä
  .obtain⟨vs,A,F,E⟩:=hR.values;have LG:∀j,(⟨g,0,none⟩:Addr).add j=⟨g,0+j,none⟩:=λj=>by unfold Addr.add;split<;>simp_all
   refine FC (some ⟨g,0,none⟩) rr.length cap rr vs H5 rfl (λq hq=>?_) A (λq hq=>?_) ?_ Ab ?_ Rm;.obtain⟨j,hj⟩:=Cq hq;exact(hR.get hj).1
   .obtain⟨j,hj⟩:=Cq hq;exact(Iz.Dr.GQ _ _ _ (E j q hj)).2.1
   .rw[N5];exact run_firstCells_some w.drew _ _ _ _ _ vs F (λj y hj=>by rw[LG];exact(Iz.Dr.GQ _ _ _ (E j y hj)).1)
   .rcases Qm with rfl|Qm
    .simp at hroom;omega
    .exact Qm
def bX{o:Oper}{c:Call}{t t' e:TypeId}{n b:Nat}{s x:Operand}{v u r:Aa}(ho:o.op= .call c)(hc:c.callee= .builtin .append)(h0:c.argTypes[0]?=some t)(h1:c.argTypes[1]?=some t')(D6:c.args.toList=[s,x])(ht:C.P.underlying t=some (.slice e))
  (HC:(∃d,C.P.underlying t'=some (.slice d))\/C.P.underlying t'=some .string) (hsz:BI C.P e=some (n+1)) (hby:It C.P e=some (b+1)) (hown:Jt C Z s=true) (Yb:Kl C.P e=true) (hv:A9 C Z [s,x]=some [v,u])
  (hp:Ax (.append (n+1) (b+1)) [v,u]=some r) (hr:CF C U0 w0 U O Z h a w):E0 C U0 w0 o a w ((Z.C7 (CP Z s)).put o.dst (.BB r)) h:=by
 obtain⟨_,_,e0,hvs,aK⟩:=Ei hr hv;cases e0;simp only[Ax] at hp;obtain⟨Af,news,HL,IU,Sm,bW⟩:=gU (w:=w) HC hr.Dr aK hp;exact MG ho hc h0 h1 D6 ht HC hsz hby hown Yb hv HL IU Sm bW hr
def YM{o:Oper}{c:Call}{t t' e:TypeId}{n b:Nat}{s x:Operand}{v u r:Aa}(ho:o.op= .call c)(hc:c.callee= .builtin .append)(h0:c.argTypes[0]?=some t)(h1:c.argTypes[1]?=some t')(D6:c.args.toList=[s,x])(ht:C.P.underlying t=some (.slice e))
  (HC:(∃d,C.P.underlying t'=some (.slice d))\/C.P.underlying t'=some .string) (hsz:BI C.P e=some (n+1)) (hby:It C.P e=some (b+1)) (hown:Jt C Z s=true) (Yb:Kl C.P e=true) (hv:A9 C Z [s,x]=some [v,u])
  (hp:Oe h (n+1) (b+1) v u=some r) (hr:CF C U0 w0 U O Z h a w):E0 C U0 w0 o a w ((Z.C7 (CP Z s)).put o.dst (.BB r)) h:=by
 obtain⟨_,_,e0,hvs,aK⟩:=Ei hr hv;cases e0;unfold Oe at hp;cases hq:Gc h (n+1) u with
 |none=>rw[hq] at hp;cases hp
 |some Af=>rw[hq] at hp;obtain⟨news,IU,Sm,bW⟩:=S8 (w:=w) HC hr.Dr aK hq;exact MG ho hc h0 h1 D6 ht HC hsz hby hown Yb hv hp IU Sm bW hr
end
section
variable{C:Fo}{γ0 γ γ':Gh}{w0 w w':World}{Z:Nat->Nat}{U:Bu}{h:Ah}{a:Act}{fid:FuncId}{ops:List Oper}
def Pq:∀s:Au,(CG s).flatten=s.map λb=>Aa.int .u8 b.toNat
 |[]=>rfl
 |_::s=>by have:=Pq s;simp only[CG,Be,Cy] at this⊢;rw[this];rfl
def Ko(γ:Gh):∀l:Au,AQ γ (CG l).flatten (l.map λb=>Value.int .u8 b.toNat)
 |[]=>rfl
 |_::l=>⟨_,_,rfl,rfl,Ko γ l⟩
def Jn(s:Au)(cap:Nat):(bytesRow ⟨⟨s⟩⟩ cap).toList.take s.length=s.map λb=>Value.int .u8 b.toNat:=by have:(s.map λb=>Value.int .u8 (b.toNat:Int)).length=s.length:=Av;simp only[bytesRow,FT,Lu];rw[<-this];exact ED
def WL(s:Au):(⟨⟨s⟩⟩:ByteArray).size=s.length:=by simp[ByteArray.size]
def zN{o:Oper}{src dst e:TypeId}{x:Operand}{v u:Aa}(ho:o.op= .convert src dst x)(hs:C.P.underlying src=some .string)(hd:C.P.underlying dst=some (.slice e))(he:C.P.underlying e=some (.int .u8))(hx:A9 C U [x]=some [v])(hp:Ax .zc [v]=some u)(hr:CF C γ0 w0 γ Z U h a w):
  E0 C γ0 w0 o a w (U.put o.dst (.val u)) h:=by
 obtain⟨_,e0,hv⟩:=FF hr hx;cases e0;simp only[Ax] at hp;split at hp
 .rename_i s IS;cases IS;split at hp
  .cases hp;have AH:=run_bytes_of_string (P:=C.P) w src dst e ⟨⟨s⟩⟩ hs hd he;rw[<-Mc hv] at AH;have ij:=grownCap_ge w s.length 0 e;rw[WL] at AH;obtain⟨hi,ha⟩:=M2 hr.drew.Dr (bytesRow ⟨⟨s⟩⟩ (grownCap w s.length 0 e)) e ((bytesRow ⟨⟨s⟩⟩ (grownCap w s.length 0 e)).size,(bytesRow ⟨⟨s⟩⟩ (grownCap w s.length 0 e)).size+1) s.length none (λo u ho hu=>by have hm:u∈(bytesRow ⟨⟨s⟩⟩ (grownCap w s.length 0 e)).toList.take s.length:=Ca (i:=o) (by rw[Ch ho];simpa using hu);rw[Jn] at hm;obtain⟨b,_,rfl⟩:=A3.1 hm;rfl) (.inl rfl)
   have F6:=hr.drew.world hi ha;refine E0.value (v:= .slice (some ⟨w.heap.size,0,none⟩) s.length (grownCap w s.length 0 e)) (by simp only[execOp,ho];exact CY AH) (F6.put λ_ _=>⟨⟨w.heap.size,0,none⟩,grownCap w s.length 0 e,by simp[CG],by simpa[CG] using ij,.inl rfl,?_⟩);refine Mh (us:=s.map λb=>Value.int .u8 b.toNat) (λr hr=>?_) (Ko _ s) (λj u hj=>?_);.obtain⟨b,_,rfl⟩:=A3.1 hr;rfl
   .rw[<-Jn s (grownCap w s.length 0 e),B2] at hj;split at hj;.rename_i hlt;simp only[Gh.CT,heap_drew,BE,By,Ad hlt];simpa using hj
    .cases hj
  .cases hp
 .cases hp
def WM{o:Oper}{src dst e:TypeId}{x:Operand}{v u:Aa}{h':Ah}(ho:o.op= .convert src dst x)(hs:C.P.underlying src=some .string)(hd:C.P.underlying dst=some (.slice e))(he:C.P.underlying e=some (.int .u8))(hx:Ed C U x=some v)(hp:Ie h v=some (h',u))(hr:CF C γ0 w0 γ Z U h a w):
  E0 C γ0 w0 o a w (U.put o.dst (.val u)) h':=by
 have hv:=Fy hr hx;unfold Ie at hp;split at hp
 .rename_i s;split at hp
  .cases hp;have AH:=run_bytes_of_string (P:=C.P) w src dst e ⟨⟨s⟩⟩ hs hd he;rw[<-Mc hv] at AH;have ij:=grownCap_ge w s.length 0 e;rw[WL] at AH;have hl:(s.map λb=>Aa.int .u8 b.toNat).length=s.length:=Av;have c:(bytesRow ⟨⟨s⟩⟩ (grownCap w s.length 0 e)).size=grownCap w s.length 0 e:=by have e0:ByteArray.size ⟨⟨s⟩⟩=s.length:=WL s;simp only[bytesRow,Ip,Array.size_map,Array.size_replicate,e0];simp only[Bx];omega
   have aL:s.length<=maxLen:=by
    have aL:s.length<=AN:=by assumption
    simp only[AN] at aL;simp only[maxLen];omega
   obtain⟨γ',D0,hm,F6,hsz⟩:=hr.drew.newObj (bytesRow ⟨⟨s⟩⟩ (grownCap w s.length 0 e)) e ((bytesRow ⟨⟨s⟩⟩ (grownCap w s.length 0 e)).size,(bytesRow ⟨⟨s⟩⟩ (grownCap w s.length 0 e)).size+1) (s.map λb=>Aa.int .u8 b.toNat) (.inr (Ae _))
    (by rw[hl,Jn];have:=Ko γ s;rw[Pq] at this;exact this)
    (λu hu=>by rw[hl,Jn] at hu;obtain⟨b,_,rfl⟩:=A3.1 hu;rfl)
   exact E0.value (v:= .slice (some ⟨w.heap.size,0,none⟩) s.length (grownCap w s.length 0 e)) (by simp only[execOp,ho];exact CY AH) (F6.put λ_ _=>⟨w.heap.size,_,hm,rfl,ij,⟨CB 0,grownCap_le_maxLen w _ _ _ aL⟩,by rw[By,Fm,<-c];exact hsz⟩)
  .cases hp
 .cases hp
def GL{O:Type}(l:List O):∀(c j:Nat),j<c*l.length->(List.replicate c l).flatten[j]?=l[j%l.length]?
 |0,j,h=>by simp at h
 |c+1,j,h=>by
  have h':j<c*l.length+l.length:=by rw[Bp] at h;omega
  rw[Ji,Cy];by_cases hj:j<l.length;.rw[Al hj,Nat.mod_eq_of_lt hj]
  .rw[BD Ab,GL l c _ Ab,show j%l.length=(j-l.length)%l.length from Nat.mod_eq_sub_mod Ab]
def rR{o:Oper}{t e:TypeId}{l c:Operand}{n b:Nat}{z:Aa}{v vc u:Aa}{h':Ah}(ho:o.op= .makeSlice t l c)(ht:C.P.underlying t=some (.slice e))(hsz:BI C.P e=some (n+1))(hby:It C.P e=some (b+1))(hz:FW C.P e=some z)(hl:Ed C U l=some v)(hc:Ed C U c=some vc)
  (hm:Od h (n+1) (b+1) z.cells v vc=some (h',u)) (hr:CF C γ0 w0 γ Z U h a w):E0 C γ0 w0 o a w (U.put o.dst (.val u)) h':=by
 unfold Od at hm;split at hm
 .rename_i k m;split at hm
  .rename_i Gx;obtain⟨G,F,E,s⟩:=Gx;cases hm;unfold FW at hz;cases hi:C.P.info? e with
   |none=>rw[hi] at hz;cases hz
   |some i=>
    rw[hi] at hz;cases qG:i.zero with
    |none=>simp[qG] at hz
    |some f=>
     simp only[BZ,qG] at hz;have N5:=Ih hsz hi;have oa:=J5 hby hi;obtain⟨y,B⟩:=Ge (γ:=γ) (EA hz) Ab;have hzs:f.cells.size=n+1:=by have:=y.length;simp at this;omega
     have ir:m.toNat*(b+1)<=AN:=E;have g:m.toNat<=AN:=Bj (Hk m.toNat (CB b)) ir;have AH:=run_make (P:=C.P) w t e i f ht hi qG .i64 .i64 k m G F (by
      rw[oa];have D:((b+1:Nat):Int)*m=((m.toNat*(b+1):Nat):Int):=by rw[Int.natCast_mul,Jj Ab,Int.mul_comm]
      rw[D];simp only[AN] at ir;omega) (by simp only[AN] at g;omega)
     rw[<-DT (Fy hr hl),<-DT (Fy hr hc)] at AH;have hlen:((List.replicate m.toNat z.cells).flatten).length=m.toNat*(n+1):=by rw[Gg (z:=n+1) (λr hr=>by rw[gh hr,s]),EY]
     have p:∀(j:Nat) (u:Value),(madeCells f.cells (m.toNat*i.size)).toList[j]?=some u->j<m.toNat*(n+1)/\f.cells.toList[j%(n+1)]?=some u:=by
      intro j u hj;have rS:j<m.toNat*(n+1):=by have:=(Ai.1 hj).1;simpa[size_madeCells,N5] using this
      refine⟨rS,?_⟩;have ob:j%(n+1)<f.cells.size:=by rw[hzs];exact Nat.mod_lt _ (CB n)
      simp only[madeCells,Lu,Cj] at hj;have d:(Array.range (m.toNat*i.size)).toList[j]?=some j:=by simp[N5,rS]
      rw[d] at hj;simp only[BO,Bs] at hj;rw[hzs] at hj;rw[<-hj];simp[ob]
     have A:AQ γ (List.replicate m.toNat z.cells).flatten (madeCells f.cells (m.toNat*i.size)).toList:=by refine AQ.FX (by simp[hlen,size_madeCells,N5]) λj x u hx hu=>?_;obtain⟨rS,q⟩:=p j u hu;rw[GL z.cells _ _ (by rw[s];exact rS),s] at hx;obtain⟨H,rH,ny⟩:=y.get hx;rw[q] at rH;cases rH;exact ny
     obtain⟨γ',D0,zi,F6,aBh⟩:=hr.newObj (madeCells f.cells (m.toNat*i.size)) e (0,0) (List.replicate m.toNat z.cells).flatten (.inl rfl) (A.zM (by rw[A.length];exact Ae _)) (λu hu=>by obtain⟨j,hj⟩:=Cq (AS hu);exact B u (Ca (p j u hj).2))
     exact E0.value (by simp only[execOp,ho];exact CY AH) (F6.put λ_ _=>⟨w.heap.size,m.toNat,zi,rfl,Ab,⟨CB n,by simp only[AN] at g;simp only[maxLen];omega⟩,by rw[aBh,size_madeCells,N5,By]⟩)
  .cases hm
 .cases hm
def CF.Å(hr:CF C γ0 w0 γ Z U h a w){g:Nat}(hown:γ.BB g=some (.tail U.length none 0))(hB:w0.heap.size<=g){us:Array Value}{e:TypeId}(hg:w.heap[g]?=some (.cells us e (0,0)))(C4:Array Value)(cs:List Aa)
  (hv:AQ γ cs (C4.toList.take cs.length)) (h1:∀u∈C4.toList.take cs.length,u.oneCell'=true):∃γ',γ.le γ'/\γ'.mu h.length=some g/\CF C γ0 w0 γ' Z U (h++[.cells cs]) a (w.setRow g C4)/\γ'.sz g=some C4.size:=by
 have Á:γ.mu h.length=none:=by
  cases hc:γ.mu h.length with
  |none=>rfl
  |some y=>exact absurd (hr.Dr.mu _ y hc) (CX _)
 have hsz:γ.sz g=none:=by
  cases hc:γ.sz g with
  |none=>rfl
  |some y=>obtain⟨_,r⟩:=hr.Dr.sz g y hc;rw[hown] at r;rcases r with r|⟨_,r⟩<;>cases r
 have D0:γ.le (γ.BP g h.length (some C4.size)):=⟨λ_ _ _ hv=>hv,λid b hm=>by
  have:id≠h.length:=λhe=>by rw[he,Á] at hm;cases hm
  simp only[Gh.BP,Ac this];exact hm,λb n hm=>by
  have:b≠g:=λhe=>by rw[he,hsz] at hm;cases hm
  simp only[Gh.BP,Ac this];exact hm⟩
 have nz:∀b n,(γ.BP g h.length (some C4.size)).sz b=some n->(∃us e fr,(w.setRow g C4).heap[b]?=some (.cells us e fr)/\us.size=n)/\((γ.BP g h.length (some C4.size)).BB b=none\/∃id,(γ.BP g h.length (some C4.size)).BB b=some (.KJ id)):=λb n hb=>by
  by_cases he:b=g;.subst he;simp only[Gh.BP,BE] at hb;cases hb;exact⟨⟨C4,e,(0,0),setRow_heap w b us C4 e (0,0) hg,rfl⟩,.inr ⟨h.length,by simp[Gh.BP]⟩⟩
  .simp only[Gh.BP,Ac he] at hb⊢;obtain⟨p,r⟩:=hr.Dr.sz b n hb;exact⟨by rw[setRow_other w g b C4 he];exact p,r⟩
 have hne:∀b id,γ.BB b=some (.KJ id)->b≠g:=λb id hb he=>by rw[he,hown] at hb;cases hb
 have hk:NN g γ w (γ.BP g h.length (some C4.size)) (w.setRow g C4):=⟨D0,λb x hb hx _=>⟨by simp only[Gh.BP,Ac hb];exact hx,setRow_other w g b C4 hb⟩⟩;refine⟨_,D0,by simp[Gh.BP],⟨⟨λb o v hb=>?_,λid y Hn hy=>?_,λid FU hc b hb=>?_,λid es hc b hb=>?_,λid b hb=>?_,λb y hy=>?_,nz⟩,⟨hr.fr.size,λs=>?_⟩,hr.Dh.write (g:=g) hB D0 Av rfl rfl rfl (λb hb=>⟨setRow_other w g b C4 hb,by simp only[Gh.BP,Ac hb]⟩),hr.defers,λx FU hx=>Cz.mono D0 _ _ _ (hr.FV x FU hx)⟩,by simp[Gh.BP]⟩
 .obtain⟨p,q,r⟩:=hr.Dr.GQ b o v hb;have L9:b≠g:=λhe=>by
   subst he;rw[hown] at r;rcases r with r|⟨_,_,_,r,hl⟩
   .cases r
   .cases r;omega
  exact⟨by rw[B1 (setRow_other w g b C4 L9)];exact p,q,by simp only[Gh.BP,Ac L9];exact r⟩
 .by_cases he:id=h.length;.exact⟨g,by simp[Gh.BP,he],by simp[Gh.BP,he]⟩
  .have SU:id<h.length:=by rw[Ai] at Hn;obtain⟨hl,_⟩:=Hn;simp at hl;omega
   rw[Al SU] at Hn;obtain⟨b,p,q⟩:=hr.Dr.KJ id y Hn hy;exact⟨b,by simp only[Gh.BP,Ac he];exact p,by simp only[Gh.BP,Ac (hne b id q)];exact q⟩
 .by_cases he:id=h.length;.subst he;simp[Gh.BP] at hb;subst hb;simp at hc;subst hc;exact⟨C4,e,(0,0),setRow_heap w g us C4 e (0,0) hg,.inl rfl,AQ.mono D0 _ _ hv,h1⟩
  .simp only[Gh.BP,Ac he] at hb;have SU:=hr.Dr.mu id b hb;rw[Al SU] at hc;obtain⟨b',c,d⟩:=hr.Dr.KJ id _ hc Av;rw[hb] at c;cases c;obtain⟨bF,f,rB,p,pf,q,r⟩:=hr.Dr.cells id FU hc b hb;exact⟨bF,f,rB,by rw[setRow_other w g b C4 (hne b id d)];exact p,pf,AQ.mono D0 _ _ q,r⟩
 .by_cases he:id=h.length;.subst he;simp at hc
  .simp only[Gh.BP,Ac he] at hb;have SU:=hr.Dr.mu id b hb;rw[Al SU] at hc;obtain⟨b',c,d⟩:=hr.Dr.KJ id _ hc Av;rw[hb] at c;cases c;obtain⟨Dn,clock,p,q⟩:=hr.Dr.map id es hc b hb;exact⟨Dn,clock,by rw[setRow_other w g b C4 (hne b id d)];exact p,q.mono D0⟩
 .by_cases he:id=h.length;.simp[he]
  .simp only[Gh.BP,Ac he] at hb;have:=hr.Dr.mu id b hb;simp;omega
 .by_cases L9:b=g;.subst L9;have:=hr.Dr.BB _ _ hown;simpa using this
  .simp only[Gh.BP,Ac L9] at hy;have:=hr.Dr.BB b y hy;simpa using this
 .by_cases hs:s=U.length;.subst hs;rw[Bu.QB];trivial
  .exact(hr.fr.GO s).keptBut hown hk (by simp only[IY.bA];intro hx;cases hx;exact hs rfl)
def CF.SC(hr:CF C γ0 w0 γ Z U h a w){v v':Aa}{u:Value}{h':Ah}(hv:Bv γ v u)(hf:Lf h v=some (h',v')):∃γ',γ.le γ'/\CF C γ0 w0 γ' Z U h' a w/\Bv γ' v' u:=by
 unfold Lf at hf;split at hf
 .rename_i id off n z;obtain⟨b,cap,hb,hu,hc,hz,hsz⟩:=hv;split at hf
  .rename_i cs hcs;split at hf
   .rename_i hl;cases hf;obtain⟨us,e,fr,q,pf,p,m⟩:=hr.Dr.cells id cs hcs b hb;obtain⟨hi,ha⟩:=rC hr.Dr hcs hb q m;have bW:∀(k o:Nat),(Cf cs z o k).length=k:=by
     intro k;induction k with
     |zero=>intro o;rfl
     |succ k ih=>intro o;simp[Cf,ih]
    have d:∀(k o i:Nat) (r:List Aa),(Cf cs z o k)[i]?=some r->i<k/\r=(cs.drop (o+i*z)).take z:=by
     intro k;induction k with
     |zero=>intro o i r h;simp[Cf] at h
     |succ k ih=>
      intro o i r h;cases i with
      |zero=>simp[Cf] at h;exact⟨CB _,by simpa using h.symm⟩
      |succ i=>simp[Cf] at h;obtain⟨l,g⟩:=ih _ _ _ h;exact⟨Ab,by rw[g];congr 2;rw[Bp];omega⟩
    refine⟨_,ha.le,hr.world hi ha,⟨b,off,none⟩,cap,by rw[bW];exact hu,by rw[bW];exact hc,.inl rfl,DY.FX λi r f=>?_⟩;obtain⟨l,rfl⟩:=d n off i r f;have t:i*z+z<=n*z:=by have:=DB z (Ab:i+1<=n);rwa [Bp,DZ] at this
    refine⟨Ew,Cz.FX λj x hj=>?_⟩;rw[B2] at hj;split at hj;.rename_i s;rw[Ci] at hj;obtain⟨y,hy,c⟩:=p.get hj;have hlt:off+i*z+j<cs.length:=(Ai.1 hj).1;refine⟨y,?_,Bv.mono ha.le _ _ c⟩;simp only[Gh.CT,BE,Ad hlt];rw[Ch hlt] at hy;simpa using hy
    .cases hj
   .cases hf
  .cases hf
 .cases hf;exact⟨γ,.refl _,hr,hv⟩
def Pr:∀{Af:List (List Aa)} {s:Au},KO Af=some s->∃ns:List Int,Af=ns.map (λn=>[.int .u8 n])/\s=ns.map λn=>UInt8.ofNat n.toNat
 |[],s,hs=>by cases hs;exact⟨[],rfl,rfl⟩
 |r::Af,s,hs=>by
  unfold KO at hs;split at hs;.rename_i IS;cases IS
  .rename_i n rs IS;cases IS;cases hq:KO Af with
   |none=>rw[hq] at hs;cases hs
   |some l=>rw[hq] at hs;cases hs;obtain⟨ns,rfl,rfl⟩:=Pr hq;exact⟨n::ns,rfl,rfl⟩
  .cases hs
def S9:∀(ns:List Int) (r:ByteArray),ns.foldl (λr n=>r.push (UInt8.ofNat n.toNat)) r=⟨r.data++(ns.map λn=>UInt8.ofNat n.toNat).toArray⟩
 |[],r=>Av
 |n::ns,r=>by rw[p9,S9 ns];simp[ByteArray.push]
def zO{o:Oper}{src dst e:TypeId}{x:Operand}{v v' u:Aa}{h':Ah}(ho:o.op= .convert src dst x)(hs:C.P.underlying src=some (.slice e))(hd:C.P.underlying dst=some .string)(he:C.P.underlying e=some (.int .u8))(hx:Ed C U x=some v)(hf:Lf h v=some (h',v'))(hp:Ax .UF [v']=some u)
  (hr:CF C γ0 w0 γ Z U h a w):E0 C γ0 w0 o a w (U.put o.dst (.val u)) h':=by
 obtain⟨γ',D0,F6,HZ⟩:=hr.SC (Fy hr hx) hf;have KL:∀s,(Conv.bytesToString (a.eval x)).run C.P w= .ok s w->(∃p l c,a.eval x= .slice p l c)->(execOp a.eval o).run C.P w= .ok (.value s) w:=λs AH ⟨p,l,c,aL⟩=>by simp only[execOp,ho];refine CY ?_;rw[aL] at AH⊢;rw[run_convert_bytes_string w src dst e p l c hs he hd];exact AH
 simp only[Ax] at hp;unfold Wt at hp;split at hp
 .rename_i Af;cases hq:KO Af with
  |none=>rw[hq] at hp;cases hp
  |some s=>
   rw[hq] at hp;cases hp;obtain⟨ns,rfl,rfl⟩:=Pr hq;obtain⟨ad,cap,aL,hc,hsp,hR⟩:=HZ;have LG:∀(j:Nat) (v:Value),(ns.map (Value.int .u8))[j]?=some v->ad.add j=⟨ad.block,ad.off+j,none⟩:=λj v hj=>by
    have hpos:0<ns.length:=by have:=(Ai.1 hj).1;simp at this;omega
    have bN:=L8 hsp hc (by simpa using hpos);generalize ad.block=b at*;generalize ad.off=o at*;subst bN;unfold Addr.add;split<;>simp_all
   have hl:=run_loadCells_list (P:=C.P) w ad (ns.map (Value.int .u8)) (λj v hj=>by
    rw[LG j v hj];simp only[Cj] at hj;cases hn:ns[j]? with
    |none=>rw[hn] at hj;cases hj
    |some n=>rw[hn] at hj;cases hj;obtain⟨_,hM⟩:=hR.get (i:=j) (r:=[.int .u8 n]) (by simp[hn]);obtain⟨y,hy,f⟩:=hM.get (i:=0) (a:= .int .u8 n) rfl;rw[show y=_ from f] at hy;have:=(F6.Dr.GQ _ _ _ hy).1;simpa using this)
   simp only[As] at hl;have AH:=run_bytesToString (P:=C.P) w ad ns.length cap ns hl;have g:ByteArray.empty.data=#[]:=rfl;rw[S9,g,Array.empty_append] at AH;have d:a.eval x= .slice (some ad) ns.length cap:=by rw[aL];simp
   rw[<-d] at AH;exact E0.value (KL _ AH ⟨_,_,_,d⟩) (F6.put λ_ _=>rfl)
 .cases hp;have d:a.eval x= .slice none 0 0:=HZ;have AH:(Conv.bytesToString (a.eval x)).run C.P w= .ok (.string ⟨⟨[]⟩⟩) w:=by rw[d];simp[Conv.bytesToString];rfl
  exact E0.value (KL _ AH ⟨_,_,_,d⟩) (F6.put λ_ _=>rfl)
 .cases hp
def rT(C:Fo)(f:FuncId):Prop:=
 (∃fn c,C.P.funcs[f]?=some fn/\(fn.name== "runtime.NumGoroutine")=false/\fn.body=some c)/\
 ∀(γ:Gh) (h:Ah) (w:World) (s:Aa) (d:Value) (i x:Int) (h':Ah) (r:Aa) (g b:Nat) (us:Array Value) (e:TypeId),Gm γ h w->Bv γ s d->NJ h [s,.int .i64 i,.sl 1 [[.int .i64 x]]]=some (h',r)->
  w.heap[g]?=some (.cells us e (0,0))->us[0]?=some (.int .i64 x)->(∀id,γ.BB g≠some (.KJ id))->1<=b->us.size=b->
  Calls C.P f #[d,.int .i64 i,.slice (some ⟨g,0,none⟩) 1 b] w λe w'=>match e with
   | .returned v=>∃γ',Gm γ' h' w'/\Kf γ w γ' w'/\Bv γ' r v
   |_=>False
def Ej(C:Fo)(run:IT->Ah->Option IW):Prop:=
 ((∀g cs,C.FV g=some cs->cs.all Aa.KK=true)/\∀f,C.MZ f=true->rT C f)/\
 ∀(f:FuncId) (args:List Aa) (h:Ah) (r:Aa) (h':Ah),run (BY C f args) h=some (.ret,[r],h')->
  (∃fn c,C.P.funcs[DX f]?=some fn/\(fn.name== "runtime.NumGoroutine")=false/\fn.body=some c)/\
  ∀(γ:Gh) (w:World) (cargs:Array Value),Gm γ h w->(∀g cs,C.FV g=some cs->Cz γ cs g 0)->AQ γ args cargs.toList->
   Calls C.P (DX f) cargs w λe w'=>match e with
    | .returned v=>∃γ',Gm γ' h' w'/\Kf γ w γ' w'/\Bv γ' r v/\(C.HX f=true->∃s c,HB γ' w.heap.size w' s c v r)
    |_=>False
def CF.oc(hr:CF C γ0 w0 γ Z U h a w){h':Ah}{r:Aa}{v:Value}(hi:Gm γ' h' w')(ha:Kf γ w γ' w')(hv:Bv γ' r v){BB:Bool}(ho:BB=true->∃s c,HB γ' w.heap.size w' s c v r)(d:Option Nat):
  ∃f,CF C γ0 w0 f Z (U.put d (if BB then .BB r else .val r)) h' (a.put d v) w':=by
 cases BB with
 |false=>exact⟨γ',(hr.world hi ha).put λ_ _=>hv⟩
 |true=>
  obtain⟨s,c,i⟩:=ho rfl;rcases i with i|⟨g,n,cap,us,e,z,Af,rfl,h2,h3,k,j⟩
  .exact⟨γ',(hr.world hi ha).put λ_ _=>⟨hv,.inl i⟩⟩
  .have nu:Kf γ w (γ'.EU g (.tail U.length none (n*z))) w':=⟨ha.le.trans (Gd _ _ _),ha.size,ha.os,ha.tape,ha.output,λb hb hn=>by obtain⟨p,q⟩:=ha.Iy b hb hn;exact⟨p,by simp only[Gh.EU,Ac (Ab:b≠g)];exact q⟩⟩
   have F6:=hr.world (hi.EU (s':=U.length) (c':=none) h3) nu;exact F6.S4 (Bv.mono (Gd _ _ _) _ _ hv) (.inr ⟨g,n,cap,us,e,z,Af,rfl,h2,by simp[Gh.EU],Bj hr.Dh.size k,j⟩) d
def GP{P:Program}{f:FuncId}{fn:Func}{c:Code}(hf:P.funcs[f]?=some fn)(hname:(fn.name== "runtime.NumGoroutine")=false)(hb:fn.body=some c)(args:Array Value)(w:World):
  (callFunc f args).run P w= .ok (.enter f args) w:=by
 have hn:¬fn.name= "runtime.NumGoroutine":=by simpa using hname
 simp[callFunc,hf,hn,hb]
def Ps{o:Oper}{f:FuncId}{cargs:Array Value}{K:Act->World->Prop}{Q:Exit->Act->World->Prop}(he:(execOp a.eval o).run C.P w= .ok (.enter f cargs) w){R:Value->World->Prop}
  (hc:Calls C.P f cargs w λe w'=>match e with| .returned v=>R v w'|_=>False) (hk:∀v w',R v w'->K (a.put o.dst v) w'):o.wp C.P a w K Q:=by
 unfold Oper.wp;rw[he];refine hc.mono λe w' h=>?_;cases e with
 |returned v=>exact hk v w' h
 |_=>exact h.elim
def rU{run:IT->Ah->Option IW}(g:Ej C run){o:Oper}{c:Call}{f:FuncId}{args:List Aa}{r:Aa}{h':Ah}{K:Act->World->Prop}{Q:Exit->Act->World->Prop}(ho:o.op= .call c)(hcl:c.callee= .value (.func (DX f)))(ha:A9 C U c.args.toList=some args)
  (AH:run (BY C f args) h=some (.ret,[r],h')) (hr:CF C γ0 w0 γ Z U h a w) (hK:∀γ' v w',CF C γ0 w0 γ' Z (U.put o.dst (if C.HX f then .BB r else .val r)) h' (a.put o.dst v) w'->K (a.put o.dst v) w'):o.wp C.P a w K Q:=by
 obtain⟨⟨fn,i,hf,hname,hb⟩,d⟩:=g.2 f args h r h' AH;have b:AQ γ args (c.args.map a.eval).toList:=by simpa using Di hr ha
 refine Ps (f:=DX f) (cargs:=c.args.map a.eval) ?_ (d γ w _ hr.Dr hr.FV b) λv w' ⟨γ',hi,IC,hv,hown⟩=>?_;.have h0:a.eval (.func (DX f))= .func (.func (DX f)) #[] #[]:=rfl;simp only[execOp,ho,resolve,hcl,Deferred.ofValue,h0,Sem.run_bind,Sem.run_pure,Result.andThen_ok,invoke];simpa using GP hf hname hb (c.args.map a.eval) w
 .obtain⟨e,KT⟩:=hr.oc hi IC hv hown o.dst;exact hK e v w' KT
def zP{run:IT->Ah->Option IW}(J:Ej C run){o:Oper}{c:Call}{f:FuncId}{s i x:Operand}{args:List Aa}{r:Aa}{h':Ah}{K:Act->World->Prop}{Q:Exit->Act->World->Prop}(ho:o.op= .call c)(hcl:c.callee= .value (.func f))(hf:C.MZ f=true)(D6:c.args.toList=[s,i,x])(hown:Jt C U x=true)
  (ha:A9 C U [s,i,x]=some args) (hp:NJ h args=some (h',r)) (hr:CF C γ0 w0 γ Z U h a w) (hK:∀γ' v w',CF C γ0 w0 γ' Z (U.put o.dst (.val r)) h' (a.put o.dst v) w'->K (a.put o.dst v) w'):o.wp C.P a w K Q:=by
 obtain⟨⟨fn,W,rV,hname,hb⟩,zQ⟩:=J.1.2 f hf;have bY:=Di hr ha;obtain⟨t,zl,f1,g1,f2⟩:∃t zl,[a.eval s,a.eval i,a.eval x]=t::zl/\Bv γ (args.getD 0 .nilIface) t/\True:=by
  cases args with
  |nil=>cases bY
  |cons y l=>obtain⟨u,us,e,p,q⟩:=bY;exact⟨u,us,e,p,trivial⟩
 obtain⟨s',d,x',he,k,F,E⟩:∃s' d x',args=[s',.int .i64 d,.sl 1 [[.int .i64 x']]]/\∃(k:Bv γ s' (a.eval s)) (F:a.eval i= .int .i64 d),Bv γ (.sl 1 [[.int .i64 x']]) (a.eval x):=by
  unfold NJ at hp;split at hp;.obtain⟨_,_,_,e,D,B,A⟩:=bY.Vv;simp only[Be,DJ,EM,Hl] at e;obtain⟨rfl,rfl,rfl⟩:=e;exact⟨_,_,_,rfl,D,B,A⟩
  .obtain⟨_,_,_,e,D,B,A⟩:=bY.Vv;simp only[Be,DJ,EM,Hl] at e;obtain⟨rfl,rfl,rfl⟩:=e;exact⟨_,_,_,rfl,D,B,A⟩
  .cases hp
 subst he;have aK:Ed C U x=some (.sl 1 [[.int .i64 x']]):=by simp only[A9] at ha;cases h1:Ed C U s<;>cases h2:Ed C U i<;>cases h3:Ed C U x<;>simp_all
 obtain⟨sl,aL⟩:∃sl,Dv C U x=some sl:=by
  unfold Jt at hown;cases hs:Dv C U x with
  |none=>rw[hs] at hown;cases hown
  |some sl=>exact⟨sl,rfl⟩
 have aBi:∃v,sl= .BB v:=by unfold Jt at hown;rw[aL] at hown;cases sl<;>first|exact⟨_,rfl⟩|cases hown
 obtain⟨v,rfl⟩:=aBi;obtain⟨s0,hrel,_⟩:=Fj hr aL;have aBj:v= .sl 1 [[.int .i64 x']]:=by simp only[Ed,aL,BZ,DN.Ga,Bs] at aK;exact aK
 subst aBj;obtain⟨gT,j⟩:=hrel;rcases j with(j|⟨_,j⟩)|⟨g,n,cap,us,e,z,Af,h1,h2,h3,S,G,M,L,R,O⟩
 .cases j
 .cases j
 .cases h1;obtain⟨ad,I,H,V,T,N⟩:=E;rw[h2] at H;cases H;obtain⟨_,hm,_⟩:=N;obtain⟨⟨u,hu,hru⟩,_⟩:=hm;obtain⟨Ig,_,_⟩:=hr.Dr.GQ _ _ _ hu;have Vq:us[0]?=some (.int .i64 x'):=by rw[cell_of_row w _ _ us e (0,0) G] at Ig;rw[Ig];exact B8 some hru
  have b:c.args.map a.eval=#[a.eval s,.int .i64 d,.slice (some ⟨g,0,none⟩) 1 cap]:=by apply Fw;simp only[Lu,D6,Be,DJ,F,h2];rfl
  have Sn:=zQ γ h w s' _ d x' h' r g cap us e hr.Dr k hp G Vq (λid Hn=>by rw[h3] at Hn;cases Hn) L (by rw[M,Fm]);rw[<-b] at Sn;refine Ps (f:=f) (cargs:=c.args.map a.eval) ?_ Sn λv w' ⟨γ',hi,IC,hv⟩=>?_;.have h0:a.eval (.func f)= .func (.func f) #[] #[]:=rfl;simp only[execOp,ho,resolve,hcl,Deferred.ofValue,h0,Sem.run_bind,Sem.run_pure,Result.andThen_ok,invoke];simpa using GP rV hname hb (c.args.map a.eval) w
  .obtain⟨m,KT⟩:=hr.oc (BB:=false) hi IC hv (λe=>by cases e) o.dst;exact hK m v w' (by simpa using KT)
def Gh.apart(γ:Gh):Gh:={GQ:=γ.GQ,mu:=λ_=>none,BB:=λb=>match γ.BB b with|some (.KJ _)=>none|x=>x,sz:=γ.sz}
def Gm.apart(hi:Gm γ h w):Gm γ.apart [] w:=by
 refine⟨λb o v hb=>?_,λid x hx=>by simp at hx,λid cs hx=>by simp at hx,λid es hx=>by simp at hx,λid b hb=>(by cases hb),λb x hx=>?_,λb n hb=>?_⟩;rotate_left 2;.obtain⟨p,r⟩:=hi.sz b n hb;refine⟨p,.inl ?_⟩;simp only[Gh.apart];rcases r with r|⟨_,r⟩<;>rw[r]
 .obtain⟨p,q,r⟩:=hi.GQ b o v hb;refine⟨p,q,?_⟩;simp only[Gh.apart];rcases r with r|⟨s,c,st,r,hl⟩
  .exact .inl (by rw[r])
  .exact .inr ⟨s,c,st,by rw[r],hl⟩
 .simp only[Gh.apart] at hx;split at hx;.cases hx
  .exact hi.BB b x hx
def CF.zR(hr:CF C γ0 w0 γ Z U h a w){c:Gh}{h1:Ah}(hi:Gm c h1 w')(ha:Kf γ.apart w c w'):∃d,CF C γ0 w0 d Z U h a w':=by
 have Yc:∀b id,γ.apart.BB b≠some (.KJ id):=λb id e=>by
  simp only[Gh.apart] at e;split at e;.cases e
  .rename_i hn;exact hn id e
 have LC:∀b,b<w.heap.size->w'.heap[b]?=w.heap[b]?:=λb hb=>(ha.Iy b hb (Yc b)).1;refine⟨γ,hr.world ⟨λb o v hb=>?_,hr.Dr.KJ,λid cs hc b hb=>?_,λid es hc b hb=>?_,hr.Dr.mu,λb x hx=>JW (hr.Dr.BB b x hx) ha.size,λb n hb=>(by
   obtain⟨⟨us,e,fr,p,q⟩,r⟩:=hr.Dr.sz b n hb;exact⟨⟨us,e,fr,by rw[LC b (Aq.1 p).1];exact p,q⟩,r⟩)⟩
  ⟨.refl _,ha.size,ha.os,ha.tape,ha.output,λb hb _=>⟨LC b hb,rfl⟩⟩⟩
 .obtain⟨p,q,r⟩:=hr.Dr.GQ b o v hb;exact⟨by rw[B1 (LC b (CL p))];exact p,q,r⟩
 .obtain⟨us,e,fr,p,q⟩:=hr.Dr.cells id cs hc b hb;exact⟨us,e,fr,by rw[LC b (Aq.1 p).1];exact p,q⟩
 .obtain⟨Dn,clock,p,q⟩:=hr.Dr.map id es hc b hb;exact⟨Dn,clock,by rw[LC b (Aq.1 p).1];exact p,q⟩
def Ta{γ γ':Gh}{x:Aa}{v:Value}(hf:x.KK=true)(hv:Bv γ x v):Bv γ' x v:=by cases x<;>first|exact hv|cases hf
def VE{γ γ':Gh}:∀{l:List Aa} {us:List Value},l.all Aa.KK=true->AQ γ l us->AQ γ' l us
 |[],us,_,h=>h
 |x::l,us,hf,h=>by obtain⟨u,C4,e,h1,h2⟩:=h;simp only[Ws,Bf] at hf;exact⟨u,C4,e,Ta hf.1 h1,VE hf.2 h2⟩
def Cz.apart{γ:Gh}:∀{l:List Aa} {b o:Nat},Cz γ l b o->l.all Aa.KK=true->Cz γ.apart l b o
 |[],_,_,_,_=>trivial
 |x::l,b,o,h,hf=>by obtain⟨⟨u,h1,h2⟩,h3⟩:=h;simp only[Ws,Bf] at hf;exact⟨⟨u,h1,Ta hf.1 h2⟩,h3.apart hf.2⟩
def mW{run:IT->Ah->Option IW}(i:Ej C run){o:Oper}{c:Call}{f:FuncId}{args:List Aa}{r:Aa}{h1:Ah}{K:Act->World->Prop}{Q:Exit->Act->World->Prop}(ho:o.op= .call c)(hcl:c.callee= .value (.func (DX f)))(ha:A9 C U c.args.toList=some args)
  (hfa:args.all Aa.KK=true) (AH:run (BY C f args) []=some (.ret,[r],h1)) (gP:r.KK=true) (hr:CF C γ0 w0 γ Z U h a w) (hK:∀γ' v w',CF C γ0 w0 γ' Z (U.put o.dst (.val r)) h (a.put o.dst v) w'->K (a.put o.dst v) w'):o.wp C.P a w K Q:=by
 obtain⟨⟨fn,j,hf,hname,hb⟩,d⟩:=i.2 f args [] r h1 AH;have b:AQ γ.apart args (c.args.map a.eval).toList:=VE hfa (by simpa using Di hr ha);refine Ps (f:=DX f) (cargs:=c.args.map a.eval) ?_ (d γ.apart w _ hr.Dr.apart (λg cs hg=>(hr.FV g cs hg).apart (i.1.1 g cs hg)) b) λv w' ⟨γ',hi,IC,hv,_⟩=>?_;.have h0:a.eval (.func (DX f))= .func (.func (DX f)) #[] #[]:=rfl;simp only[execOp,ho,resolve,hcl,Deferred.ofValue,h0,Sem.run_bind,Sem.run_pure,Result.andThen_ok,invoke];simpa using GP hf hname hb (c.args.map a.eval) w
 .obtain⟨e,KT⟩:=hr.zR hi IC;exact hK e v w' (KT.put λ_ _=>Ta gP hv)
def mX{run:IT->Ah->Option IW}(l:Ej C run){o:Oper}{c:Call}{g:Operand}{k:Aa}{f:FuncId}{args args':List Aa}{r:Aa}{h':Ah}{K:Act->World->Prop}{Q:Exit->Act->World->Prop}(ho:o.op= .call c)(hcl:c.callee= .value g)(hg:Ed C U g=some k)
  (ha:A9 C U c.args.toList=some args) (ht:CA k args=some (f,args')) (AH:run (BY C f args') h=some (.ret,[r],h')) (hr:CF C γ0 w0 γ Z U h a w) (hK:∀γ' v w',CF C γ0 w0 γ' Z (U.put o.dst (.val r)) h' (a.put o.dst v) w'->K (a.put o.dst v) w'):o.wp C.P a w K Q:=by
 obtain⟨⟨fn,m,hf,hname,hb⟩,b⟩:=l.2 f args' h r h' AH;have j:=Fy hr hg;unfold CA at ht;split at ht
 .rename_i f0 first captured
  split at ht;rotate_left;.cases ht
  rename_i yK;cases ht;rw[show DX f=f from Ad yK] at hf b;obtain⟨fs,cs,GR,h1,h2⟩:=j;have d:AQ γ (first++args++captured) (fs++c.args.map a.eval++cs).toList:=by simpa using(h1.append (Di hr ha)).append h2
  refine Ps (f:=f) (cargs:=fs++c.args.map a.eval++cs) ?_ (b γ w _ hr.Dr hr.FV d) λv w' ⟨γ',hi,IC,hv,hown⟩=>?_;.simp only[execOp,ho,resolve,hcl,Deferred.ofValue,GR,Sem.run_bind,Sem.run_pure,Result.andThen_ok,invoke];exact GP hf hname hb _ w
  .obtain⟨i,KT⟩:=hr.oc (BB:=false) hi IC hv (λe=>by cases e) o.dst;exact hK i v w' (by simpa using KT)
 .cases ht
end
end Go.Am
end
