/- Lemmas -/
import Derived.Test.YtjjnhgoknielgaaGreatDoorW4
import Derived.Deep.AppendSrc
import Derived.Great.BuildSlice
import Derived.Laws.IdiomStrings
set_option linter.all false
section
namespace Go.Am
open Go
section
variable{C:Gw}{U0 U U':Gh}{w0 w w':World}{O:Nat->Nat}{Z:BT}{h:Ai}{a:Act}{fid:FuncId}{ops:List Oper}
def DM{P:Program}{s:Sem Value}{v:Value}(hs:s.run P w= .ok v w'):(do pure (Next.value (<-s)):Sem Next).run P w= .ok (.value v) w':=by simp[hs]
def VC{J:Type}{z:Nat}:∀{Ay:List (List J)},(∀r∈Ay,r.length=z)->∀{i:Nat} {r:List J},Ay[i]?=some r->∀{j:Nat} {x:J},r[j]?=some x->Ay.flatten[i*z+j]?=some x
 |[],_,i,r,hi,_,_,_=>by simp at hi
 |q::Ay,hl,0,r,hi,j,x,hj=>by simp at hi;subst hi;have:j<q.length:=(Aj.1 hj).1;simp only[NB,BG,CS];rw[Al this];exact hj
 |q::Ay,hl,i+1,r,hi,j,x,hj=>by
  simp at hi;have hq:q.length=z:=hl q AB;rw[CS,Bu (by rw[hq,BK];omega)];have:=VC (Ay:=Ay) (λr hr=>hl r (by simp[hr])) hi hj;rw[<-this];congr 1
  rw[hq,BK];omega
def HY{J:Type}{z:Nat}:∀{Ay:List (List J)},(∀r∈Ay,r.length=z)->Ay.flatten.length=Ay.length*z
 |[],_=>AB
 |q::Ay,hl=>by have hq:q.length=z:=hl q AB;simp[hq,HY (Ay:=Ay) (λr hr=>hl r (by simp[hr])),BK,Qn]
def Pw{Ay:List (List Ab)}{us:List Value}{z b o:Nat}(hl:∀r∈Ay,r.length=z)(hv:Bc U Ay.flatten us)(hi:∀(j:Nat) (u:Value),us[j]?=some u->U.I6 b (o+j)=some u):Fj U Ay z b o:=by refine Fj.HC λi r hr=>⟨hl r (CJ hr),C8.HC λj x hj=>?_⟩;obtain⟨u,hu,hx⟩:=hv.get (VC hl hr hj);exact⟨u,by rw[S7];exact hi _ _ hu,hx⟩
def Df.drew(hr:Df C U0 w0 U O Z h a w):Df C U0 w0 U O Z h a w.drew:=hr.JO (hr.Ee.same rfl) (Nb.drew U w)
def BT.UP(Z:BT):Z.at Z.length= .undef:=by simp[BT.at,List.getD]
def Df.X4(hr:Df C U0 w0 U O Z h a w){x:Ab}{v:Value}(hv:BQ U x v)(ho:J1 U w0.heap.size w Z.length none v x)(d:Option Nat):∃U',Df C U0 w0 U' O (Z.put d (.BU x)) h (a.put d v) w:=by
 cases d with
 |none=>exact⟨U,hr⟩
 |some d=>
  rcases ho with ho|⟨g,n,cap,us,e,z,Ay,h1,h2,h3,b,c⟩
  .exact⟨U,hr.put λs _=>⟨hv,.inl ho⟩⟩
  .have KF:=hr.Gg (s':=d) (c':=none) h3 b (λ_ u=>by rw[BT.UP];simp) (λo ho=>by cases ho);exact⟨_,KF.put λs hs=>by cases hs;exact⟨BQ.mono (HV _ _ _) _ _ hv,.inr ⟨g,n,cap,us,e,z,Ay,h1,h2,by simp[Gh.Gg],b,c⟩⟩⟩
def Df.X5(hr:Df C U0 w0 U O Z h a w)(us:Array Value)(e:TypeId){z n cap:Nat}{Ay:List (List Ab)}(hz:0<z)(hn:Ay.length=n)(hl:∀r∈Ay,r.length=z)(cD:us.size=cap*z)(hc:n<=cap)(hm:cap<=maxLen)
  (hv:Bc U Ay.flatten (us.toList.take (n*z))) (h1:∀u∈us.toList.take (n*z),u.oneCell'=true):
  ∃U',U.le U'/\Df C U0 w0 U' O Z h a (w.alloc (.cells us e))/\BQ U' (.sl z Ay) (.slice (some ⟨w.heap.size,0,none⟩) n cap)/\J1 U' w0.heap.size (w.alloc (.cells us e)) Z.length none (.slice (some ⟨w.heap.size,0,none⟩) n cap) (.sl z Ay):=by
 obtain⟨hi,ha⟩:=Qw hr.Ee us e (0,0) (n*z) (some (.tail Z.length none (n*z))) (λo u ho hu=>h1 u (CJ (i:=o) (by rw[CQ ho];simpa using hu))) (.inr (.inl ⟨_,_,rfl⟩));refine⟨_,ha.le,hr.JO hi ha,⟨⟨w.heap.size,0,none⟩,cap,by rw[hn],Ac,.inl rfl,Pw hl (Bc.mono ha.le _ _ hv) λj u hj=>?_⟩,.inr ⟨w.heap.size,n,cap,us,e,z,Ay,rfl,rfl,by simp[Gh.Dz],hr.D8.size,heap_alloc_new w _,cD,hc,hm,hz⟩⟩;rw[CA] at hj;split at hj;.rename_i hlt;simp only[Gh.Dz,BN,BG,Ae hlt];simpa using hj
 .cases hj
def X6{size:Nat}:∀(vs:List Value) (k:Nat) (cells:Array Value),(∀v∈vs,v.cells.size=size)->(k+vs.length)*size<=cells.size->
  Instr.fill (λi=>some (i*size,size)) cells ((vs.zipIdx k).map λp=>(p.2,p.1))=some (cells.toList.take (k*size)++vs.flatMap (·.cells.toList)++cells.toList.drop ((k+vs.length)*size)).toArray
 |[],k,cells,_,_=>by simp[Instr.fill]
 |v::vs,k,cells,hv,hl=>by
  have hs:v.cells.size=size:=hv v AB;simp only[AJ] at hl;have E0:(k+1)*size+vs.length*size<=cells.size:=by rw[<-BK];exact Bw (NA (by congr 1;omega)) hl
  have sX:(k+1)*size=k*size+size:=by rw[BK,EW]
  simp only[yC,AV,Instr.fill];have f:¬(v.cells.size≠size\/k*size+v.cells.size>cells.size):=by rw[hs];omega
  simp only[CP,decide_not,Kb,CF,aS7,decide_eq_false_iff_not] at*;rw[Aa f];have hf:=Ps v.cells.toList (k*size) 0 cells (by simp[hs];omega);have aNn:v.cells.zipIdx.foldl (λcs (c,j)=>cs.setIfInBounds (k*size+j) c) cells=(cells.toList.take (k*size)++v.cells.toList++cells.toList.drop (k*size+size)).toArray:=by rw[<-aRy,aNc];rw[hf];simp[hs]
  rw[aNn];have hlen:(cells.toList.take (k*size)++v.cells.toList++cells.toList.drop (k*size+size)).length=cells.size:=by simp[hs];omega
  rw[X6 vs (k+1) _ (λu hu=>hv u (by simp[hu])) (by simp only[B8];rw[hlen,BK];exact E0)]
  congr 2
  have b:(cells.toList.take (k*size)++v.cells.toList).length=(k+1)*size:=by simp[hs];omega
  have e:(cells.toList.take (k*size)++v.cells.toList++cells.toList.drop (k*size+size)).take ((k+1)*size)=cells.toList.take (k*size)++v.cells.toList:=by rw[<-b];exact Fb
  have d:(cells.toList.take (k*size)++v.cells.toList++cells.toList.drop (k*size+size)).drop ((k+1+vs.length)*size)=cells.toList.drop ((k+(vs.length+1))*size):=by
   rw[Jv,AX (by rw[b];exact EA _ Ac),b,Ez,Bq];congr 1
   have:(k+1+vs.length)*size-(k+1)*size=vs.length*size:=by rw[BK (k+1)];omega
   rw[this,BK k,BK vs.length];omega
  rw[e,d];simp
def Mc{P:Program}{t:TypeId}(h:M9 P t=true):∃i z,P.info? t=some i/\i.zero=some z/\z.cells.size=i.size:=by
 unfold M9 at h;split at h
 .rename_i i hi;split at h;.rename_i z hz;exact⟨i,z,hi,hz,by simpa using h⟩
  .cases h
 .cases h
def Kw{P:Program}{t:TypeId}{n:Nat}{i:TypeInfo}(h:B1 P t=some n)(hi:P.info? t=some i):i.size=n:=by simpa[B1,hi] using h
def MR{P:Program}{t:TypeId}{n:Nat}{i:TypeInfo}(h:KL P t=some n)(hi:P.info? t=some i):i.bytes=n:=by simpa[KL,hi] using h
def X7:∀{args:List Ab} {us:List Value} {z:Nat},Bc U args us->(∀x∈args,x.cells.length=z)->0<z->Bc U (args.map (·.cells)).flatten (us.flatMap (·.cells.toList))/\(∀u∈us.flatMap (·.cells.toList),u.oneCell'=true)/\∀u∈us,u.cells.size=z
 |[],us,z,h,_,_=>by rw[Bc] at h;subst h;exact⟨rfl,AB,AB⟩
 |x::args,us,z,h,hl,hz=>by
  obtain⟨u,DS,rfl,h1,h2⟩:=h;have hx:=hl x AB;obtain⟨b,e⟩:=HW h1 Ac;obtain⟨d,r2,c⟩:=X7 h2 (λy hy=>hl y (by simp[hy])) hz;refine⟨by simpa using b.append d,λv hv=>?_,λv hv=>?_⟩;.simp only[IF,Ao] at hv;exact hv.elim (e v) (r2 v)
  .rcases AF.1 hv with rfl|hv
   .have:=b.length;simp at this;omega
   .exact c v hv
def cN{a:Act}:∀{l:List (Nat×Operand)} {k:Nat},l.map (·.1)=List.range' k l.length->l.map (λp=>(p.1,a.eval p.2))=((l.map λp=>a.eval p.2).zipIdx k).map λp=>(p.2,p.1)
 |[],k,_=>AB
 |(i,x)::l,k,h=>by simp only[AV,AJ,List.range'_succ,Cu] at h;obtain⟨rfl,h⟩:=h;simp[yC,cN h]
def zi{o:Oper}{t e:TypeId}{len n:Nat}{parts:Array (Nat×Operand)}{args:List Ab}{u:Ab}(ho:o.op= .buildSlice t len parts)(ht:C.P.underlying t=some (.slice e))(Lu:B1 C.P e=some (n+1))(hp:parts.toList.map (·.1)=List.range len)(mR:M9 C.P e=true)
  (ha:Bs C Z (parts.toList.map (·.2))=some args) (hu:AE (.Cb (n+1)) args=some u) (hr:Df C U0 w0 U O Z h a w):Gl C U0 w0 o a w (Z.put o.dst (.BU u)) h:=by
 obtain⟨i,z,hi,hz,gC⟩:=Mc mR;have RR:=Kw Lu hi;simp only[AE] at hu;split at hu
 .rename_i hc;cases hu;simp only[Bg,Eg,Ŭ,CF] at hc;obtain⟨aL,Mx⟩:=hc;have E6:=D9 hr ha;have hlen:parts.toList.length=len:=by have:=B6 List.length hp;simpa using this
  have WV:args.length=len:=by have:=E6.length;simp at this;simp at hlen;omega
  obtain⟨f,j,g⟩:=X7 E6 aL (C9 n);have cO:=f.length;rw[HY (z:=n+1) (by intro r hr;obtain⟨x,hx,rfl⟩:=A5.1 hr;exact aL x hx),Aw,WV] at cO;have AR:∃cells:Array Value,cells.toList=(parts.toList.map (·.2) |>.map a.eval).flatMap (·.cells.toList)/\(Instr.buildSlice t len (parts.map λ(i,x)=>(i,a.eval x))).run C.P w= .ok (.slice (some ⟨w.heap.size,0,none⟩) len len) (w.alloc (.cells cells e)):=by
   have sE:(parts.map λ(i,x)=>(i,a.eval x)).toList=(((parts.toList.map (·.2)).map a.eval).zipIdx 0).map λp=>(p.2,p.1):=by have:=cN (a:=a) (l:=parts.toList) (k:=0) (by rw[hlen,<-aMb];exact hp);simp only[Ou,List.map_map];exact this
   have yX:=X6 (size:=n+1) ((parts.toList.map (·.2)).map a.eval) 0 ((Array.range (len*(n+1))).map (z.cells[·%z.cells.size]!)) g (by simp at hlen⊢;rw[hlen];exact Ad _);rw[<-sE] at yX;have e0:((Array.range (len*(n+1))).map (z.cells[·%z.cells.size]!)).toList.drop ((0+((parts.toList.map (·.2)).map a.eval).length)*(n+1))=[]:=by apply AX;simp at hlen⊢;rw[hlen];exact Ad _
   rw[e0] at yX;simp only[NB,Rj,Bq,A8] at yX;refine⟨_,rfl,?_⟩;by_cases h0:len*(n+1)=0
   .have d:len=0:=by
     rcases Nat.mul_eq_zero.1 h0 with h|h
     .exact h
     .omega
    subst d;have c:parts=#[]:=by apply Ju;simpa using hlen
    subst c;have b:(Array.range 0:Array Nat)=#[]:=rfl;simp[Instr.buildSlice,run_underlying ht,sizeOf,typeInfo,hi,newRow,Instr.fill,b]
   .exact run_buildSlice w t e len _ _ i z ht hi hz (by rw[RR];rw[WV] at Mx;omega) (by rw[RR];exact h0) (by rw[RR];exact yX)
  obtain⟨cells,hcells,AR⟩:=AR;have hcs:cells.size=len*(n+1):=by rw[<-Cq,hcells];exact cO
  obtain⟨U',E0,Ib,Lm,F8⟩:=hr.X5 cells e (z:=n+1) (n:=len) (cap:=len) (Ay:=args.map (·.cells)) (C9 n) (by simp[WV]) (by intro r hr;obtain⟨x,hx,rfl⟩:=A5.1 hr;exact aL x hx) hcs (Ad _)
   (by rw[WV] at Mx;have:len<=len*(n+1):=Jw _ (C9 n);simp only[maxLen];omega) (by rw[hcells,Bf (by rw[cO];exact Ad _)];exact f) (by rw[hcells,Bf (by rw[cO];exact Ad _)];exact j)
  obtain⟨m,Ng⟩:=Ib.X4 Lm F8 o.dst;exact Gl.value (by simp only[execOp,ho];exact DM AR) Ng
 .cases hu
def zj{o:Oper}{t e:TypeId}{len n:Nat}{parts:Array (Nat×Operand)}(ho:o.op= .buildSlice t len parts)(ht:C.P.underlying t=some (.slice e))(Lu:B1 C.P e=some (n+1))(hp:parts.toList.map (·.1)=List.range len)(mR:M9 C.P e=true)(h0:len=0)
  (hr:Df C U0 w0 U O Z h a w):Gl C U0 w0 o a w (Z.put o.dst (.BU (.Hi (n+1)))) h:=by
 subst h0;obtain⟨i,z,hi,hz,gC⟩:=Mc mR;have c:parts=#[]:=by apply Ju;have:=B6 List.length hp;simpa using this
 subst c;have b:(Array.range 0:Array Nat)=#[]:=rfl;have AR:(Instr.buildSlice t 0 ((#[]:Array (Nat×Operand)).map λ(i,x)=>(i,a.eval x))).run C.P w= .ok (.slice (some ⟨w.heap.size,0,none⟩) 0 0) (w.alloc (.cells #[] e)):=by simp[Instr.buildSlice,run_underlying ht,sizeOf,typeInfo,hi,newRow,Instr.fill,b]
 obtain⟨U',E0,Ib,_,_⟩:=hr.X5 #[] e (z:=n+1) (n:=0) (cap:=0) (Ay:=[]) (C9 n) rfl AB AB (Ad _) (by simp[maxLen]) (by rw[NB];exact(rfl:Bc U [] [])) AB;obtain⟨d,Ng⟩:=Ib.X4 (x:= .Hi (n+1)) (v:= .slice (some ⟨w.heap.size,0,none⟩) 0 0) ⟨_,rfl⟩ (.inl (.inr ⟨_,rfl⟩)) o.dst;exact Gl.value (by simp only[execOp,ho];exact DM AR) Ng
def y8{t':TypeId}{size bytes:Nat}{v u r:Ab}{e:Value}(J0:(∃k,C.P.underlying t'=some (.slice k))\/C.P.underlying t'=some .string)(hi:It U h w)(hu:BQ U u e)(hp:I9 size bytes v u=some r):
  ∃(Ay:List (List Ab)) (news:List Value),D2 size bytes v Ay=some r/\Src C.P size t' e Ay.length news w/\Bc U Ay.flatten news/\(∀r∈Ay,r.length=size):=by
 unfold I9 at hp;split at hp;.rw[show e=_ from hu];exact⟨[],[],hp,⟨J0,λ_=>rfl,run_firstCells_none w size 0 0 0,run_firstCells_none w.drew size 0 0 0,AB,AB⟩,rfl,AB⟩
 .rename_i z;split at hp;.obtain⟨b,c⟩:=hu;rw[c];exact⟨[],[],hp,⟨J0,λ_=>rfl,run_firstCells_some w _ _ _ _ _ [] AB (λj x hj=>by simp at hj),run_firstCells_some w.drew _ _ _ _ _ [] AB (λj x hj=>by simp at hj),AB,AB⟩,rfl,AB⟩
  .cases hp
 .rename_i z Ay;split at hp
  .rename_i hz;subst hz;obtain⟨d,cap,c,QD,hsp,hR⟩:=hu;obtain⟨us,i,f,g⟩:=hR.values;have Nf:∀(j:Nat) (x:Value),us[j]?=some x->d.add j=⟨d.block,d.off+j,none⟩:=λj x hj=>by
    have hpos:0<Ay.length:=by
     rcases Gr Ay.length with h0|h0
     .have:us.length=0:=by rw[f,h0,NB]
      rw[C5 this] at hj;simp at hj
     .exact h0
    have sZ:=Pl hsp QD hpos;generalize d.block=b at*;generalize d.off=o at*;subst sZ;unfold Addr.add;split<;>simp_all
   rw[c];refine⟨Ay,us,hp,⟨J0,λ_=>rfl,run_firstCells_some w _ _ _ _ _ us f (λj x hj=>by rw[Nf j x hj];exact(hi.I6 _ _ _ (g j x hj)).1),run_firstCells_some w.drew _ _ _ _ _ us f (λj x hj=>by rw[Nf j x hj];exact(hi.I6 _ _ _ (g j x hj)).1),f,λx hx=>?_⟩,i,λr hr=>?_⟩;.obtain⟨j,hj⟩:=CU hx;exact(hi.I6 _ _ _ (g j x hj)).2.1
   .obtain⟨j,hj⟩:=CU hr;exact(hR.get hj).1
  .cases hp
 .rename_i s;split at hp
  .rename_i hz;subst hz;rw[show e=_ from hu];have hlen:(CN s).length=(⟨⟨s⟩⟩:ByteArray).size:=by simp[CN,ByteArray.size]
   have hrel:∀l:List UInt8,Bc U (CN l).flatten (l.map λb=>Value.int .u8 b.toNat):=by
    intro l;induction l with
    |nil=>rfl
    |cons b l ih=>exact⟨_,_,rfl,rfl,ih⟩
   refine⟨CN s,byteCells ⟨⟨s⟩⟩,hp,?_,?_,λr hr=>?_⟩;.rw[hlen];exact⟨J0,λ_=>rfl,firstCells_string _ w,firstCells_string _ w.drew,by rw[byteCells_length,HM],λu hu=>by obtain⟨_,_,rfl⟩:=A5.1 hu;rfl⟩
   .simpa[byteCells] using hrel s
   .obtain⟨b,_,rfl⟩:=A5.1 hr;rfl
  .cases hp
 .cases hp
def Df.zk(hr:Df C U0 w0 U O Z h a w){g n cap z:Nat}{us:Array Value}{e:TypeId}{rr Ay:List (List Ab)}{news:List Value}(F8:U.BU g=some (.tail Z.length none (n*z)))(hB:w0.heap.size<=g)(hg:w.heap[g]?=some (.cells us e (0,0)))
  (cD:us.size=cap*z) (hm:cap<=maxLen) (hz:0<z) (hv:BQ U (.sl z rr) (.slice (some ⟨g,0,none⟩) n cap)) (hl:∀r∈Ay,r.length=z) (hn:Bc U Ay.flatten news) (h1:∀u∈news,u.oneCell'=true) (hroom:n+Ay.length<=cap):
  ∃U',U.le U'/\Df C U0 w0 U' O Z h a (w.setRow g (us.toList.take (n*z)++news++us.toList.drop (n*z+news.length)).toArray)/\BQ U' (.sl z (rr++Ay)) (.slice (some ⟨g,0,none⟩) (n+Ay.length) cap)/\
   J1 U' w0.heap.size (w.setRow g (us.toList.take (n*z)++news++us.toList.drop (n*z+news.length)).toArray) Z.length none (.slice (some ⟨g,0,none⟩) (n+Ay.length) cap) (.sl z (rr++Ay)):=by
 obtain⟨t,cap',nV,QD,_,hR⟩:=hv;simp only[Value.slice.injEq,BO] at nV;obtain⟨rfl,rfl,rfl⟩:=nV;simp only at hR;have RS:news.length=Ay.length*z:=by rw[hn.length,HY hl]
 have hfit:(rr.length+Ay.length)*z<=us.size:=by rw[cD];exact EA _ hroom
 rw[BK] at hfit;have c:(us.toList.take (rr.length*z)).length=rr.length*z:=EE;obtain⟨vs,m,q,l⟩:=hR.values;have hvs:vs=us.toList.take (rr.length*z):=by
  apply So;intro j;by_cases hj:j<rr.length*z
  .have d:j<vs.length:=by rw[q];exact hj
   have hc:=(hr.Ee.I6 _ _ _ (l j _ (Av d))).1;rw[cell_of_row w _ _ us e (0,0) hg,BG] at hc;rw[Av d,CQ hj];simpa using hc.symm
  .rw[En Ac,En (by rw[c];omega)]
 rw[hvs] at m;have gD:∀u∈us.toList.take (rr.length*z),u.oneCell'=true:=λu hu=>by rw[<-hvs] at hu;obtain⟨j,hj⟩:=CU hu;exact(hr.Ee.I6 _ _ _ (l j u hj)).2.1
 have f:(rr.length+Ay.length)*z=rr.length*z+Ay.length*z:=BK _ _ _;have aCL:((us.toList.take (rr.length*z)++news++us.toList.drop (rr.length*z+news.length)).toArray).toList.take ((rr.length+Ay.length)*z)=us.toList.take (rr.length*z)++news:=by
  have:(us.toList.take (rr.length*z)++news).length=(rr.length+Ay.length)*z:=by rw[An,c,RS,f]
  rw[<-this];exact Fb
 have Lu:(us.toList.take (rr.length*z)++news++us.toList.drop (rr.length*z+news.length)).length=us.size:=by simp[RS];omega
 generalize p:(us.toList.take (rr.length*z)++news++us.toList.drop (rr.length*z+news.length)).toArray=DS at*;have aNq:DS.size=us.size:=by rw[<-p];simpa using Lu
 obtain⟨hi,E0⟩:=sS hr.Ee F8 hg DS ((rr.length+Ay.length)*z) Z.length none (λo ho=>by
   rw[<-p,A7,List.getElem?_toArray,Al Ac,CQ ho];simp)
  Ac (λo u ho hu=>by
   have:u∈DS.toList.take ((rr.length+Ay.length)*z):=by refine CJ (i:=o) ?_;rw[CQ ho];simpa using hu
   rw[aCL,Ao] at this;exact this.elim (gD u) (h1 u)) (λo v hv=>by
   have:=(hr.Ee.I6 _ _ _ hv).1;rwa [cell_of_row w _ _ us e (0,0) hg] at this)
 have hk:Rt g U w (U.Dz g DS ((rr.length+Ay.length)*z) (some (.tail Z.length none ((rr.length+Ay.length)*z)))) (w.setRow g DS):=
  ⟨E0,λb x hb hx _=>⟨by simp only[Gh.Dz,Aa hb];exact hx,setRow_other w g b DS hb⟩⟩
 have k:Fj (U.Dz g DS ((rr.length+Ay.length)*z) (some (.tail Z.length none ((rr.length+Ay.length)*z)))) (rr++Ay) z g 0:=by
  refine Pw (us:=DS.toList.take ((rr.length+Ay.length)*z)) (λr hr=>?_) ?_ (λj u hj=>?_)
  .rcases Ao.1 hr with hr|hr
   .obtain⟨i,hi⟩:=CU hr;exact(hR.get hi).1
   .exact hl r hr
  .rw[aCL,Qj];exact(Bc.mono E0 _ _ m).append (Bc.mono E0 _ _ hn)
  .rw[CA] at hj;split at hj;.rename_i hlt;simp only[Gh.Dz,BN,BG,Ae hlt];simpa using hj
   .cases hj
 refine⟨_,E0,⟨hi,⟨hr.fr.size,λs=>?_⟩,hr.D8.write (g:=g) hB E0 AB rfl rfl rfl (λb hb=>⟨setRow_other w g b DS hb,by simp only[Gh.Dz,Aa hb]⟩),hr.defers,λx cs hx=>C8.mono E0 _ _ _ (hr.HO x cs hx)⟩,
  ⟨⟨g,0,none⟩,cap,AB,by simpa using hroom,.inl rfl,k⟩,.inr ⟨g,rr.length+Ay.length,cap,DS,e,z,rr++Ay,rfl,rfl,by simp[Gh.Dz],hB,setRow_heap w g us DS e (0,0) hg,by rw[aNq,cD],hroom,hm,hz⟩⟩
 by_cases hs:s=Z.length;.subst hs;rw[BT.UP];trivial
 .exact(hr.fr.IZ s).keptBut F8 hk (by simp only[Ll.sP];intro hx;cases hx;exact hs rfl)
def Px{t t' ty:TypeId}{ts:Array TypeId}{xs:Array Value}(h0:ts[0]?=some t)(h1:ts[1]?=some t'):Builtin.append_ ts ty xs=Builtin.append_ #[t,t'] ty xs:=by simp only[Builtin.append_,h0,h1];rfl
def Bc.aAj{l:List Ab}{us:List Value}{n:Nat}(h:Bc U l us)(hn:us.length<=n):Bc U l (us.take n):=by rw[Bf hn];exact h
def OF{cs:List Ab}{z:Nat}:∀{n off:Nat},(CI cs z off n).flatten=(cs.drop off).take (n*z)
 |0,off=>by simp[CI]
 |n+1,off=>by rw[CI,CS,OF,BK,EW,Qn (n*z) z,aCt,Ez]
def P9{cs:List Ab}{z:Nat}:∀{n off:Nat},(CI cs z off n).length=n
 |0,off=>rfl
 |n+1,off=>by rw[CI,AJ,P9]
def R6{cs:List Ab}{z:Nat}:∀{n off:Nat},off+n*z<=cs.length->∀r∈CI cs z off n,r.length=z
 |0,off,_,r,hr=>by simp[CI] at hr
 |n+1,off,hl,r,hr=>by
  rw[BK,EW] at hl;rw[CI,AF] at hr;rcases hr with rfl|hr
  .rw[Ax,A4];omega
  .exact R6 Ac r hr
def X8{t':TypeId}{size:Nat}{u:Ab}{i:Value}{Ay:List (List Ab)}(J0:(∃p,C.P.underlying t'=some (.slice p))\/C.P.underlying t'=some .string)(hi:It U h w)(hu:BQ U u i)(hp:Ij h size u=some Ay):
  ∃news:List Value,Src C.P size t' i Ay.length news w/\Bc U Ay.flatten news/\(∀r∈Ay,r.length=size):=by
 unfold Ij at hp;split at hp;.cases hp;rw[show i=_ from hu];exact⟨[],⟨J0,λ_=>rfl,run_firstCells_none w size 0 0 0,run_firstCells_none w.drew size 0 0 0,AB,AB⟩,rfl,AB⟩
 .rename_i z;split at hp;.cases hp;obtain⟨b,c⟩:=hu;rw[c];exact⟨[],⟨J0,λ_=>rfl,run_firstCells_some w _ _ _ _ _ [] AB (λj x hj=>by simp at hj),run_firstCells_some w.drew _ _ _ _ _ [] AB (λj x hj=>by simp at hj),AB,AB⟩,rfl,AB⟩
  .cases hp
 .rename_i z k;split at hp
  .rename_i hz;cases hp;subst hz;obtain⟨g,cap,c,QD,hsp,hR⟩:=hu;obtain⟨us,m,d,f⟩:=hR.values;have Nf:∀(j:Nat) (x:Value),us[j]?=some x->g.add j=⟨g.block,g.off+j,none⟩:=λj x hj=>by
    have hpos:0<Ay.length:=by
     rcases Gr Ay.length with h0|h0
     .have:us.length=0:=by rw[d,h0,NB]
      rw[C5 this] at hj;simp at hj
     .exact h0
    have sZ:=Pl hsp QD hpos;generalize g.block=b at*;generalize g.off=o at*;subst sZ;unfold Addr.add;split<;>simp_all
   rw[c];refine⟨us,⟨J0,λ_=>rfl,run_firstCells_some w _ _ _ _ _ us d (λj x hj=>by rw[Nf j x hj];exact(hi.I6 _ _ _ (f j x hj)).1),run_firstCells_some w.drew _ _ _ _ _ us d (λj x hj=>by rw[Nf j x hj];exact(hi.I6 _ _ _ (f j x hj)).1),d,λx hx=>?_⟩,m,λr hr=>?_⟩;.obtain⟨j,hj⟩:=CU hx;exact(hi.I6 _ _ _ (f j x hj)).2.1
   .obtain⟨j,hj⟩:=CU hr;exact(hR.get hj).1
  .cases hp
 .rename_i s;split at hp
  .rename_i hz;cases hp;subst hz;rw[show i=_ from hu];have hlen:(CN s).length=(⟨⟨s⟩⟩:ByteArray).size:=by simp[CN,ByteArray.size]
   have hrel:∀l:List UInt8,Bc U (CN l).flatten (l.map λb=>Value.int .u8 b.toNat):=by
    intro l;induction l with
    |nil=>rfl
    |cons b l ih=>exact⟨_,_,rfl,rfl,ih⟩
   refine⟨byteCells ⟨⟨s⟩⟩,?_,?_,λr hr=>?_⟩;.rw[hlen];exact⟨J0,λ_=>rfl,firstCells_string _ w,firstCells_string _ w.drew,by rw[byteCells_length,HM],λu hu=>by obtain⟨_,_,rfl⟩:=A5.1 hu;rfl⟩
   .simpa[byteCells] using hrel s
   .obtain⟨b,_,rfl⟩:=A5.1 hr;rfl
  .cases hp
 .rename_i id off n z;split at hp
  .rename_i hz;subst hz;split at hp
   .rename_i cs hcs;split at hp
    .rename_i hl;cases hp;obtain⟨b,cap,hb,c,QD,xh,Lu⟩:=hu;obtain⟨us,e,fr,m,pf,d,f⟩:=hi.cells id cs hcs b hb;have xf:(us.toList.take cs.length).length=cs.length:=d.length;have RS:(((us.toList.take cs.length).drop off).take (n*z)).length=n*z:=by rw[Ax,A4,xf];omega
     have Nf:∀j,(⟨b,off,none⟩:Addr).add j=⟨b,off+j,none⟩:=λj=>by unfold Addr.add;split<;>simp_all
     have Kv:∀(j:Nat) (x:Value),(((us.toList.take cs.length).drop off).take (n*z))[j]?=some x->w.cell? ((⟨b,off,none⟩:Addr).add j)=some x:=λj x hj=>by
      rw[Nf,cell_of_row w _ _ us e fr m];rw[CA] at hj;split at hj
      .rw[CE,CA] at hj;split at hj;.simpa using hj
       .cases hj
      .cases hj
     rw[c,P9];refine⟨((us.toList.take cs.length).drop off).take (n*z),⟨J0,λ_=>rfl,run_firstCells_some w _ _ _ _ _ _ RS Kv,run_firstCells_some w.drew _ _ _ _ _ _ RS (λj x hj=>Kv j x hj),RS,λx hx=>f x (A6 (A9 hx))⟩,?_,R6 hl⟩;rw[OF];exact(d.drop off).take (n*z)
    .cases hp
   .cases hp
  .cases hp
 .cases hp
def Qa{o:Oper}{c:Call}{t t' e:TypeId}{n b:Nat}{s x:Operand}{v u r:Ab}{Ay:List (List Ab)}{news:List Value}(ho:o.op= .call c)(hc:c.callee= .builtin .append)(h0:c.argTypes[0]?=some t)(h1:c.argTypes[1]?=some t')(E6:c.args.toList=[s,x])(ht:C.P.underlying t=some (.slice e))
  (J0:(∃H,C.P.underlying t'=some (.slice H))\/C.P.underlying t'=some .string) (Lu:B1 C.P e=some (n+1)) (zl:KL C.P e=some (b+1)) (F8:L7 C Z s=true) (mR:M9 C.P e=true) (hv:Bs C Z [s,x]=some [v,u])
  (J3:D2 (n+1) (b+1) v Ay=some r) (Lf:Src C.P (n+1) t' (a.eval x) Ay.length news w) (WW:Bc U Ay.flatten news) (tL:∀q∈Ay,q.length=n+1) (hr:Df C U0 w0 U O Z h a w):Gl C U0 w0 o a w ((Z.DU (Dv Z s)).put o.dst (.BU r)) h:=by
 obtain⟨i,z,hi,hz,gC⟩:=Mc mR;have RR:=Kw Lu hi;have G:=MR zl hi;obtain⟨_,_,e0,hvs,sF⟩:=Fs hr hv;cases e0;have F:Fi C Z s=some v:=by
  unfold Bs at hv;split at hv;.rename_i p ps D J;cases hv;exact D
  .cases hv
 obtain⟨U1,E0,KF,Lm,N⟩:=QC hr F8 F (Z.DU (Dv Z s)).length none;have zm:=Bc.mono E0 _ _ WW;have Ld:c.args.map a.eval=#[a.eval s,a.eval x]:=by apply Ia;simp[E6]
 have NJ:∀v' w',(Builtin.append_ #[t,t'] o.type #[a.eval s,a.eval x]).run C.P w= .ok v' w'->(execOp a.eval o).run C.P w= .ok (.value v') w':=λv' w' AR=>by
  have:execOp a.eval o=(do pure (Next.value (<-Builtin.append_ #[t,t'] o.type #[a.eval s,a.eval x]))):=by rw[<-Ld,<-Px (ty:=o.type) h0 h1];simp only[execOp,ho,resolve,hc];rfl
  rw[this];exact DM AR
 have KP:Src C.P i.size t' (a.eval x) Ay.length news w:=by rw[RR];exact Lf
 have RS:news.length=Ay.length*(n+1):=Lf.newsLen;have GZ:∀(base:Option Addr) (k cap:Nat) (rr:List (List Ab)) (olds:List Value),a.eval s= .slice base k cap->rr.length=k->(∀q∈rr,q.length=n+1)->Bc U1 rr.flatten olds->(∀q∈olds,q.oneCell'=true)->
   (Builtin.firstCells i.size k (.slice base k cap)).run C.P w.drew= .ok olds.toArray w.drew->cap<k+Ay.length->(k+Ay.length)*(b+1)<=AY->r= .sl (n+1) (rr++Ay)->
   Gl C U0 w0 o a w ((Z.DU (Dv Z s)).put o.dst (.BU r)) h:=by
  intro base k cap rr olds hs hk m A xg d hlt Tz VD;have Su:k+Ay.length<=AY:=Bw (Jw _ (C9 b)) Tz;have Hk:=run_append_grow_src (P:=C.P) w t t' o.type e i z ht hi hz base k cap olds d (a.eval x) Ay.length news KP hlt (by simp only[AY] at Su;omega) (by rw[G];exact growslice_fits hlt Tz);rw[<-hs] at Hk;have JA:=grownCap_ge w (k+Ay.length) cap e;have aNr:olds.length=k*(n+1):=by rw[A.length,HY m,hk]
  have qb:(olds++news).length=(k+Ay.length)*(n+1):=by rw[An,aNr,RS,BK]
  obtain⟨S,nS,Ng,WU,l⟩:=KF.drew.X5 ((olds++news).toArray++Builtin.zeroCells z.cells (grownCap w (k+Ay.length) cap e-(k+Ay.length))) e (z:=n+1) (n:=k+Ay.length) (cap:=grownCap w (k+Ay.length) cap e) (Ay:=rr++Ay) (C9 n) (by simp[hk])
   (λq hq=>(Ao.1 hq).elim (m q) (tL q))
   (by simp only[KD,B8,size_zeroCells,gC,RR,qb,<-BK];congr 1;omega) JA (grownCap_le_maxLen w _ _ _ (by simp only[AY] at Su;simp only[maxLen];omega))
   (by simp only[Hv,Qj];rw[<-qb,Fb];exact A.append zm)
   (λq hq=>by simp only[Hv] at hq;rw[<-qb,Fb,Ao] at hq;exact hq.elim (xg q) (Lf.one q))
  rw[VD];obtain⟨R,f⟩:=Ng.X4 WU l o.dst;exact Gl.value (NJ _ _ Hk) f
 rcases N with(rfl|⟨B,rfl⟩)|⟨g,k,cap,us,K,B,rr,rfl,Kk,UB,hB,hg,cD,M,hm,xi⟩
 .have Kk:a.eval s= .slice none 0 0:=Lm;cases Ay with
  |nil=>
   have VD:r= .slnil:=by simpa[D2] using J3.symm
   have yW:news=[]:=C5 (by simpa using RS);subst yW;have AR:(Builtin.append_ #[t,t'] o.type #[a.eval s,a.eval x]).run C.P w= .ok (.slice none 0 0) w:=by rw[Kk];have hl:=KP.len;have WX:=KP.cells;simp only[AZ] at hl WX;rcases J0 with⟨H,hk⟩|hk<;>simp[Builtin.append_,run_underlying ht,run_underlying hk,sizeOf,typeInfo,hi,hl,WX]
   rw[VD];exact Gl.value (NJ _ _ AR) (KF.put λ_ _=>⟨rfl,.inl (.inl rfl)⟩)
  |cons q Ay=>
   have QE:r= .sl (n+1) (q::Ay)/\(q::Ay).length*(b+1)<=AY:=by
    simp only[D2] at J3;split at J3;.rename_i hb;cases J3;exact⟨rfl,hb⟩
    .cases J3
   exact GZ none 0 0 [] [] Kk rfl AB rfl AB (run_firstCells_none _ _ _ _ _) AB (by simpa using QE.2) (by simpa using QE.1)
 .obtain⟨g,Kk⟩:=id Lm;cases Ay with
  |nil=>
   have VD:B=n+1/\r= .Hi B:=by
    simp only[D2] at J3;split at J3;.rename_i aE;cases J3;exact⟨aE,by rw[aE]⟩
    .cases J3
   obtain⟨rfl,VD⟩:=VD;have yW:news=[]:=C5 (by simpa using RS);subst yW;have AR:(Builtin.append_ #[t,t'] o.type #[a.eval s,a.eval x]).run C.P w= .ok (.slice (some ⟨g,0,none⟩) 0 0) w:=by rw[Kk];have hl:=KP.len;have WX:=KP.cells;simp only[AZ] at hl WX;rcases J0 with⟨H,hk⟩|hk<;>simp[Builtin.append_,run_underlying ht,run_underlying hk,sizeOf,typeInfo,hi,hl,WX,storeCells,Result.andThen]
   rw[VD];exact Gl.value (NJ _ _ AR) (KF.put λ_ _=>⟨⟨g,rfl⟩,.inl (.inr ⟨_,rfl⟩)⟩)
  |cons q Ay=>
   have QE:r= .sl (n+1) (q::Ay)/\(q::Ay).length*(b+1)<=AY:=by
    simp only[D2] at J3;split at J3;.rename_i hb;cases J3;exact⟨rfl,hb.2⟩
    .cases J3
   exact GZ (some ⟨g,0,none⟩) 0 0 [] [] Kk rfl AB rfl AB (run_firstCells_some w.drew _ _ _ _ _ [] AB (λj x hj=>by simp at hj)) AB (by simpa using QE.2) (by simpa using QE.1)
 .obtain⟨Q,L,nV,QD,_,hR⟩:=id Lm;rw[Kk] at nV;simp only[Value.slice.injEq,BO] at nV;obtain⟨rfl,hk,rfl⟩:=nV;subst hk;simp only at hR;have E:B=n+1/\r= .sl (n+1) (rr++Ay)/\(Ay=[]\/(rr.length+Ay.length)*(b+1)<=AY):=by
   cases Ay with
   |nil=>
    simp only[D2] at J3;split at J3;.rename_i aE;cases J3;exact⟨aE,by simp[aE],.inl rfl⟩
    .cases J3
   |cons q Ay=>
    simp only[D2] at J3;split at J3;.rename_i aE;cases J3;exact⟨aE.1,rfl,.inr aE.2⟩
    .cases J3
  obtain⟨rfl,VD,Tz⟩:=E;by_cases hroom:rr.length+Ay.length<=cap
  .have hfit:rr.length*(n+1)+news.length<=us.size:=by rw[RS,cD,<-BK];exact EA _ hroom
   have AR:=run_append_room_src (P:=C.P) w t t' o.type e i ht hi g 0 rr.length cap (a.eval x) Ay.length news KP hroom (λj hj=>by rw[cell_of_row w _ _ us K (0,0) hg,RR,CY Ac];rfl) (λj hj=>frozen_of_row w _ _ us K hg)
   rw[BG,RR,E5 news _ us w hg hfit,<-Kk] at AR;rw[Kk] at Lm;obtain⟨S,nS,Ng,WU,l⟩:=KF.zk UB hB hg cD hm (C9 n) Lm tL zm Lf.one hroom;obtain⟨R,f⟩:=Ng.X4 WU l o.dst;rw[VD];exact Gl.value (NJ _ _ AR) f
  .obtain⟨vs,D,J,I⟩:=hR.values;have Nf:∀j,(⟨g,0,none⟩:Addr).add j=⟨g,0+j,none⟩:=λj=>by unfold Addr.add;split<;>simp_all
   refine GZ (some ⟨g,0,none⟩) rr.length cap rr vs Kk rfl (λq hq=>?_) D (λq hq=>?_) ?_ Ac ?_ VD;.obtain⟨j,hj⟩:=CU hq;exact(hR.get hj).1
   .obtain⟨j,hj⟩:=CU hq;exact(KF.Ee.I6 _ _ _ (I j q hj)).2.1
   .rw[RR];exact run_firstCells_some w.drew _ _ _ _ _ vs J (λj y hj=>by rw[Nf];exact(KF.Ee.I6 _ _ _ (I j y hj)).1)
   .rcases Tz with rfl|Tz
    .simp at hroom;omega
    .exact Tz
def tM{o:Oper}{c:Call}{t t' e:TypeId}{n b:Nat}{s x:Operand}{v u r:Ab}(ho:o.op= .call c)(hc:c.callee= .builtin .append)(h0:c.argTypes[0]?=some t)(h1:c.argTypes[1]?=some t')(E6:c.args.toList=[s,x])(ht:C.P.underlying t=some (.slice e))
  (J0:(∃d,C.P.underlying t'=some (.slice d))\/C.P.underlying t'=some .string) (Lu:B1 C.P e=some (n+1)) (zl:KL C.P e=some (b+1)) (F8:L7 C Z s=true) (mR:M9 C.P e=true) (hv:Bs C Z [s,x]=some [v,u])
  (hp:AE (.append (n+1) (b+1)) [v,u]=some r) (hr:Df C U0 w0 U O Z h a w):Gl C U0 w0 o a w ((Z.DU (Dv Z s)).put o.dst (.BU r)) h:=by
 obtain⟨_,_,e0,hvs,sF⟩:=Fs hr hv;cases e0;simp only[AE] at hp;obtain⟨Ay,news,J3,Lf,WW,tL⟩:=y8 (w:=w) J0 hr.Ee sF hp;exact Qa ho hc h0 h1 E6 ht J0 Lu zl F8 mR hv J3 Lf WW tL hr
def nW{o:Oper}{c:Call}{t t' e:TypeId}{n b:Nat}{s x:Operand}{v u r:Ab}(ho:o.op= .call c)(hc:c.callee= .builtin .append)(h0:c.argTypes[0]?=some t)(h1:c.argTypes[1]?=some t')(E6:c.args.toList=[s,x])(ht:C.P.underlying t=some (.slice e))
  (J0:(∃d,C.P.underlying t'=some (.slice d))\/C.P.underlying t'=some .string) (Lu:B1 C.P e=some (n+1)) (zl:KL C.P e=some (b+1)) (F8:L7 C Z s=true) (mR:M9 C.P e=true) (hv:Bs C Z [s,x]=some [v,u])
  (hp:R4 h (n+1) (b+1) v u=some r) (hr:Df C U0 w0 U O Z h a w):Gl C U0 w0 o a w ((Z.DU (Dv Z s)).put o.dst (.BU r)) h:=by
 obtain⟨_,_,e0,hvs,sF⟩:=Fs hr hv;cases e0;unfold R4 at hp;cases hq:Ij h (n+1) u with
 |none=>rw[hq] at hp;cases hp
 |some Ay=>rw[hq] at hp;obtain⟨news,Lf,WW,tL⟩:=X8 (w:=w) J0 hr.Ee sF hq;exact Qa ho hc h0 h1 E6 ht J0 Lu zl F8 mR hv hp Lf WW tL hr
end
section
variable{C:Gw}{γ0 γ γ':Gh}{w0 w w':World}{Z:Nat->Nat}{U:BT}{h:Ai}{a:Act}{fid:FuncId}{ops:List Oper}
def TA:∀s:Ah,(CN s).flatten=s.map λb=>Ab.int .u8 b.toNat
 |[]=>rfl
 |_::s=>by have:=TA s;simp only[CN,AV,CS] at this⊢;rw[this];rfl
def Nh(γ:Gh):∀l:Ah,Bc γ (CN l).flatten (l.map λb=>Value.int .u8 b.toNat)
 |[]=>rfl
 |_::l=>⟨_,_,rfl,rfl,Nh γ l⟩
def LX(s:Ah)(cap:Nat):(bytesRow ⟨⟨s⟩⟩ cap).toList.take s.length=s.map λb=>Value.int .u8 b.toNat:=by have:(s.map λb=>Value.int .u8 (b.toNat:Int)).length=s.length:=AB;simp only[bytesRow,Hv,Ou];rw[<-this];exact Fb
def gE(s:Ah):(⟨⟨s⟩⟩:ByteArray).size=s.length:=by simp[ByteArray.size]
def aAm{o:Oper}{src dst e:TypeId}{x:Operand}{v u:Ab}(ho:o.op= .convert src dst x)(hs:C.P.underlying src=some .string)(hd:C.P.underlying dst=some (.slice e))(he:C.P.underlying e=some (.int .u8))(hx:Bs C U [x]=some [v])(hp:AE .s2b [v]=some u)(hr:Df C γ0 w0 γ Z U h a w):
  Gl C γ0 w0 o a w (U.put o.dst (.val u)) h:=by
 obtain⟨_,e0,hv⟩:=Hm hr hx;cases e0;simp only[AE] at hp;split at hp
 .rename_i s Ld;cases Ld;split at hp
  .cases hp;have AR:=run_bytes_of_string (P:=C.P) w src dst e ⟨⟨s⟩⟩ hs hd he;rw[<-Pq hv] at AR;have c:=grownCap_ge w s.length 0 e;rw[gE] at AR;obtain⟨hi,ha⟩:=Qw hr.drew.Ee (bytesRow ⟨⟨s⟩⟩ (grownCap w s.length 0 e)) e ((bytesRow ⟨⟨s⟩⟩ (grownCap w s.length 0 e)).size,(bytesRow ⟨⟨s⟩⟩ (grownCap w s.length 0 e)).size+1) s.length none (λo u ho hu=>by have hm:u∈(bytesRow ⟨⟨s⟩⟩ (grownCap w s.length 0 e)).toList.take s.length:=CJ (i:=o) (by rw[CQ ho];simpa using hu);rw[LX] at hm;obtain⟨b,_,rfl⟩:=A5.1 hm;rfl) (.inl rfl)
   have Ib:=hr.drew.JO hi ha;refine Gl.value (v:= .slice (some ⟨w.heap.size,0,none⟩) s.length (grownCap w s.length 0 e)) (by simp only[execOp,ho];exact DM AR) (Ib.put λ_ _=>⟨⟨w.heap.size,0,none⟩,grownCap w s.length 0 e,by simp[CN],by simpa[CN] using c,.inl rfl,?_⟩);refine Pw (us:=s.map λb=>Value.int .u8 b.toNat) (λr hr=>?_) (Nh _ s) (λj u hj=>?_);.obtain⟨b,_,rfl⟩:=A5.1 hr;rfl
   .rw[<-LX s (grownCap w s.length 0 e),CA] at hj;split at hj;.rename_i hlt;simp only[Gh.Dz,heap_drew,BN,BG,Ae hlt];simpa using hj
    .cases hj
  .cases hp
 .cases hp
def gF{o:Oper}{src dst e:TypeId}{x:Operand}{v u:Ab}{h':Ai}(ho:o.op= .convert src dst x)(hs:C.P.underlying src=some .string)(hd:C.P.underlying dst=some (.slice e))(he:C.P.underlying e=some (.int .u8))(hx:Fi C U x=some v)(hp:JD h v=some (h',u))(hr:Df C γ0 w0 γ Z U h a w):
  Gl C γ0 w0 o a w (U.put o.dst (.val u)) h':=by
 have hv:=He hr hx;unfold JD at hp;split at hp
 .rename_i s;split at hp
  .cases hp;have AR:=run_bytes_of_string (P:=C.P) w src dst e ⟨⟨s⟩⟩ hs hd he;rw[<-Pq hv] at AR;have c:=grownCap_ge w s.length 0 e;rw[gE] at AR;have hl:(s.map λb=>Ab.int .u8 b.toNat).length=s.length:=AB;have d:(bytesRow ⟨⟨s⟩⟩ (grownCap w s.length 0 e)).size=grownCap w s.length 0 e:=by have e0:ByteArray.size ⟨⟨s⟩⟩=s.length:=gE s;simp only[bytesRow,KD,Array.size_map,Array.size_replicate,e0];simp only[B8];omega
   have sG:s.length<=maxLen:=by
    have sG:s.length<=AY:=by assumption
    simp only[AY] at sG;simp only[maxLen];omega
   obtain⟨γ',E0,hm,Ib,Lu⟩:=hr.drew.newObj (bytesRow ⟨⟨s⟩⟩ (grownCap w s.length 0 e)) e ((bytesRow ⟨⟨s⟩⟩ (grownCap w s.length 0 e)).size,(bytesRow ⟨⟨s⟩⟩ (grownCap w s.length 0 e)).size+1) (s.map λb=>Ab.int .u8 b.toNat) (.inr (Ad _))
    (by rw[hl,LX];have:=Nh γ s;rw[TA] at this;exact this)
    (λu hu=>by rw[hl,LX] at hu;obtain⟨b,_,rfl⟩:=A5.1 hu;rfl)
   exact Gl.value (v:= .slice (some ⟨w.heap.size,0,none⟩) s.length (grownCap w s.length 0 e)) (by simp only[execOp,ho];exact DM AR) (Ib.put λ_ _=>⟨w.heap.size,_,hm,rfl,c,⟨C9 0,grownCap_le_maxLen w _ _ _ sG⟩,by rw[BG,HM,<-d];exact Lu⟩)
  .cases hp
 .cases hp
def IN{O:Type}(l:List O):∀(c j:Nat),j<c*l.length->(List.replicate c l).flatten[j]?=l[j%l.length]?
 |0,j,h=>by simp at h
 |c+1,j,h=>by
  have h':j<c*l.length+l.length:=by rw[BK] at h;omega
  rw[LP,CS];by_cases hj:j<l.length;.rw[Al hj,Nat.mod_eq_of_lt hj]
  .rw[Bu Ac,IN l c _ Ac,show j%l.length=(j-l.length)%l.length from Nat.mod_eq_sub_mod Ac]
def zn{o:Oper}{t e:TypeId}{l c:Operand}{n b:Nat}{z:Ab}{D vc u:Ab}{h':Ai}(ho:o.op= .makeSlice t l c)(ht:C.P.underlying t=some (.slice e))(Lu:B1 C.P e=some (n+1))(zl:KL C.P e=some (b+1))(hz:HB C.P e=some z)(hl:Fi C U l=some D)(hc:Fi C U c=some vc)
  (hm:XG h (n+1) (b+1) z.cells D vc=some (h',u)) (hr:Df C γ0 w0 γ Z U h a w):Gl C γ0 w0 o a w (U.put o.dst (.val u)) h':=by
 unfold XG at hm;split at hm
 .rename_i k m;split at hm
  .rename_i Iz;obtain⟨K,J,I,B⟩:=Iz;cases hm;unfold HB at hz;cases hi:C.P.info? e with
   |none=>rw[hi] at hz;cases hz
   |some i=>
    rw[hi] at hz;cases xj:i.zero with
    |none=>simp[xj] at hz
    |some f=>
     simp only[Cx,xj] at hz;have RR:=Kw Lu hi;have A:=MR zl hi;obtain⟨E,G⟩:=HW (γ:=γ) (FQ hz) Ac;have gC:f.cells.size=n+1:=by have:=E.length;simp at this;omega
     have q:m.toNat*(b+1)<=AY:=I;have g:m.toNat<=AY:=Bw (Jw m.toNat (C9 b)) q;have AR:=run_make (P:=C.P) w t e i f ht hi xj .i64 .i64 k m K J (by
      rw[A];have H:((b+1:Nat):Int)*m=((m.toNat*(b+1):Nat):Int):=by rw[Int.natCast_mul,I7 Ac,Int.mul_comm]
      rw[H];simp only[AY] at q;omega) (by simp only[AY] at g;omega)
     rw[<-EO (He hr hl),<-EO (He hr hc)] at AR;have hlen:((List.replicate m.toNat z.cells).flatten).length=m.toNat*(n+1):=by rw[HY (z:=n+1) (λr hr=>by rw[aCu hr,B]),Ic]
     have p:∀(j:Nat) (u:Value),(madeCells f.cells (m.toNat*i.size)).toList[j]?=some u->j<m.toNat*(n+1)/\f.cells.toList[j%(n+1)]?=some u:=by
      intro j u hj;have sH:j<m.toNat*(n+1):=by have:=(Aj.1 hj).1;simpa[size_madeCells,RR] using this
      refine⟨sH,?_⟩;have aD4:j%(n+1)<f.cells.size:=by rw[gC];exact Nat.mod_lt _ (C9 n)
      simp only[madeCells,Ou,Dt] at hj;have d:(Array.range (m.toNat*i.size)).toList[j]?=some j:=by simp[RR,sH]
      rw[d] at hj;simp only[BW,BO] at hj;rw[gC] at hj;rw[<-hj];simp[aD4]
     have F:Bc γ (List.replicate m.toNat z.cells).flatten (madeCells f.cells (m.toNat*i.size)).toList:=by refine Bc.HC (by simp[hlen,size_madeCells,RR]) λj x u hx hu=>?_;obtain⟨sH,y⟩:=p j u hu;rw[IN z.cells _ _ (by rw[B];exact sH),B] at hx;obtain⟨L,ph,s⟩:=E.get hx;rw[y] at ph;cases ph;exact s
     obtain⟨γ',E0,v,Ib,aNt⟩:=hr.newObj (madeCells f.cells (m.toNat*i.size)) e (0,0) (List.replicate m.toNat z.cells).flatten (.inl rfl) (F.aAj (by rw[F.length];exact Ad _)) (λu hu=>by obtain⟨j,hj⟩:=CU (A9 hu);exact G u (CJ (p j u hj).2))
     exact Gl.value (by simp only[execOp,ho];exact DM AR) (Ib.put λ_ _=>⟨w.heap.size,m.toNat,v,rfl,Ac,⟨C9 n,by simp only[AY] at g;simp only[maxLen];omega⟩,by rw[aNt,size_madeCells,RR,BG]⟩)
  .cases hm
 .cases hm
def Df.aIV(hr:Df C γ0 w0 γ Z U h a w){g:Nat}(F8:γ.BU g=some (.tail U.length none 0))(hB:w0.heap.size<=g){us:Array Value}{e:TypeId}(hg:w.heap[g]?=some (.cells us e (0,0)))(DS:Array Value)(cs:List Ab)
  (hv:Bc γ cs (DS.toList.take cs.length)) (h1:∀u∈DS.toList.take cs.length,u.oneCell'=true):∃γ',γ.le γ'/\γ'.mu h.length=some g/\Df C γ0 w0 γ' Z U (h++[.cells cs]) a (w.setRow g DS)/\γ'.sz g=some DS.size:=by
 have f:γ.mu h.length=none:=by
  cases hc:γ.mu h.length with
  |none=>rfl
  |some y=>exact absurd (hr.Ee.mu _ y hc) (DI _)
 have Lu:γ.sz g=none:=by
  cases hc:γ.sz g with
  |none=>rfl
  |some y=>obtain⟨_,r⟩:=hr.Ee.sz g y hc;rw[F8] at r;rcases r with r|⟨_,r⟩<;>cases r
 have E0:γ.le (γ.BV g h.length (some DS.size)):=⟨λ_ _ _ hv=>hv,λid b hm=>by
  have:id≠h.length:=λhe=>by rw[he,f] at hm;cases hm
  simp only[Gh.BV,Aa this];exact hm,λb n hm=>by
  have:b≠g:=λhe=>by rw[he,Lu] at hm;cases hm
  simp only[Gh.BV,Aa this];exact hm⟩
 have aD0:∀b n,(γ.BV g h.length (some DS.size)).sz b=some n->(∃us e fr,(w.setRow g DS).heap[b]?=some (.cells us e fr)/\us.size=n)/\((γ.BV g h.length (some DS.size)).BU b=none\/∃id,(γ.BV g h.length (some DS.size)).BU b=some (.NH id)):=λb n hb=>by
  by_cases he:b=g;.subst he;simp only[Gh.BV,BN] at hb;cases hb;exact⟨⟨DS,e,(0,0),setRow_heap w b us DS e (0,0) hg,rfl⟩,.inr ⟨h.length,by simp[Gh.BV]⟩⟩
  .simp only[Gh.BV,Aa he] at hb⊢;obtain⟨p,r⟩:=hr.Ee.sz b n hb;exact⟨by rw[setRow_other w g b DS he];exact p,r⟩
 have hne:∀b id,γ.BU b=some (.NH id)->b≠g:=λb id hb he=>by rw[he,F8] at hb;cases hb
 have hk:Rt g γ w (γ.BV g h.length (some DS.size)) (w.setRow g DS):=⟨E0,λb x hb hx _=>⟨by simp only[Gh.BV,Aa hb];exact hx,setRow_other w g b DS hb⟩⟩;refine⟨_,E0,by simp[Gh.BV],⟨⟨λb o v hb=>?_,λid y JB hy=>?_,λid Hz hc b hb=>?_,λid es hc b hb=>?_,λid b hb=>?_,λb y hy=>?_,aD0⟩,⟨hr.fr.size,λs=>?_⟩,hr.D8.write (g:=g) hB E0 AB rfl rfl rfl (λb hb=>⟨setRow_other w g b DS hb,by simp only[Gh.BV,Aa hb]⟩),hr.defers,λx Hz hx=>C8.mono E0 _ _ _ (hr.HO x Hz hx)⟩,by simp[Gh.BV]⟩
 .obtain⟨p,q,r⟩:=hr.Ee.I6 b o v hb;have Pn:b≠g:=λhe=>by
   subst he;rw[F8] at r;rcases r with r|⟨_,_,_,r,hl⟩
   .cases r
   .cases r;omega
  exact⟨by rw[CV (setRow_other w g b DS Pn)];exact p,q,by simp only[Gh.BV,Aa Pn];exact r⟩
 .by_cases he:id=h.length;.exact⟨g,by simp[Gh.BV,he],by simp[Gh.BV,he]⟩
  .have XT:id<h.length:=by rw[Aj] at JB;obtain⟨hl,_⟩:=JB;simp at hl;omega
   rw[Al XT] at JB;obtain⟨b,p,q⟩:=hr.Ee.NH id y JB hy;exact⟨b,by simp only[Gh.BV,Aa he];exact p,by simp only[Gh.BV,Aa (hne b id q)];exact q⟩
 .by_cases he:id=h.length;.subst he;simp[Gh.BV] at hb;subst hb;simp at hc;subst hc;exact⟨DS,e,(0,0),setRow_heap w g us DS e (0,0) hg,.inl rfl,Bc.mono E0 _ _ hv,h1⟩
  .simp only[Gh.BV,Aa he] at hb;have XT:=hr.Ee.mu id b hb;rw[Al XT] at hc;obtain⟨b',c,d⟩:=hr.Ee.NH id _ hc AB;rw[hb] at c;cases c;obtain⟨sR,i,yz,p,pf,q,r⟩:=hr.Ee.cells id Hz hc b hb;exact⟨sR,i,yz,by rw[setRow_other w g b DS (hne b id d)];exact p,pf,Bc.mono E0 _ _ q,r⟩
 .by_cases he:id=h.length;.subst he;simp at hc
  .simp only[Gh.BV,Aa he] at hb;have XT:=hr.Ee.mu id b hb;rw[Al XT] at hc;obtain⟨b',c,d⟩:=hr.Ee.NH id _ hc AB;rw[hb] at c;cases c;obtain⟨Es,clock,p,q⟩:=hr.Ee.map id es hc b hb;exact⟨Es,clock,by rw[setRow_other w g b DS (hne b id d)];exact p,q.mono E0⟩
 .by_cases he:id=h.length;.simp[he]
  .simp only[Gh.BV,Aa he] at hb;have:=hr.Ee.mu id b hb;simp;omega
 .by_cases Pn:b=g;.subst Pn;have:=hr.Ee.BU _ _ F8;simpa using this
  .simp only[Gh.BV,Aa Pn] at hy;have:=hr.Ee.BU b y hy;simpa using this
 .by_cases hs:s=U.length;.subst hs;rw[BT.UP];trivial
  .exact(hr.fr.IZ s).keptBut F8 hk (by simp only[Ll.sP];intro hx;cases hx;exact hs rfl)
def Df.UF(hr:Df C γ0 w0 γ Z U h a w){v v':Ab}{u:Value}{h':Ai}(hv:BQ γ v u)(hf:L6 h v=some (h',v')):∃γ',γ.le γ'/\Df C γ0 w0 γ' Z U h' a w/\BQ γ' v' u:=by
 unfold L6 at hf;split at hf
 .rename_i id off n z;obtain⟨b,cap,hb,hu,hc,hz,Lu⟩:=hv;split at hf
  .rename_i cs hcs;split at hf
   .rename_i hl;cases hf;obtain⟨us,e,fr,q,pf,p,m⟩:=hr.Ee.cells id cs hcs b hb;obtain⟨hi,ha⟩:=y_ hr.Ee hcs hb q m;have tL:∀(k o:Nat),(CI cs z o k).length=k:=by
     intro k;induction k with
     |zero=>intro o;rfl
     |succ k ih=>intro o;simp[CI,ih]
    have d:∀(k o i:Nat) (r:List Ab),(CI cs z o k)[i]?=some r->i<k/\r=(cs.drop (o+i*z)).take z:=by
     intro k;induction k with
     |zero=>intro o i r h;simp[CI] at h
     |succ k ih=>
      intro o i r h;cases i with
      |zero=>simp[CI] at h;exact⟨C9 _,by simpa using h.symm⟩
      |succ i=>simp[CI] at h;obtain⟨l,g⟩:=ih _ _ _ h;exact⟨Ac,by rw[g];congr 2;rw[BK];omega⟩
    refine⟨_,ha.le,hr.JO hi ha,⟨b,off,none⟩,cap,by rw[tL];exact hu,by rw[tL];exact hc,.inl rfl,Fj.HC λi r f=>?_⟩;obtain⟨l,rfl⟩:=d n off i r f;have t:i*z+z<=n*z:=by have:=EA z (Ac:i+1<=n);rwa [BK,EW] at this
    refine⟨EE,C8.HC λj x hj=>?_⟩;rw[CA] at hj;split at hj;.rename_i s;rw[CE] at hj;obtain⟨y,hy,c⟩:=p.get hj;have hlt:off+i*z+j<cs.length:=(Aj.1 hj).1;refine⟨y,?_,BQ.mono ha.le _ _ c⟩;simp only[Gh.Dz,BN,Ae hlt];rw[CQ hlt] at hy;simpa using hy
    .cases hj
   .cases hf
  .cases hf
 .cases hf;exact⟨γ,.refl _,hr,hv⟩
def TB:∀{Ay:List (List Ab)} {s:Ah},NT Ay=some s->∃ns:List Int,Ay=ns.map (λn=>[.int .u8 n])/\s=ns.map λn=>UInt8.ofNat n.toNat
 |[],s,hs=>by cases hs;exact⟨[],rfl,rfl⟩
 |r::Ay,s,hs=>by
  unfold NT at hs;split at hs;.rename_i Ld;cases Ld
  .rename_i n rs Ld;cases Ld;cases hq:NT Ay with
   |none=>rw[hq] at hs;cases hs
   |some l=>rw[hq] at hs;cases hs;obtain⟨ns,rfl,rfl⟩:=TB hq;exact⟨n::ns,rfl,rfl⟩
  .cases hs
def X9:∀(ns:List Int) (r:ByteArray),ns.foldl (λr n=>r.push (UInt8.ofNat n.toNat)) r=⟨r.data++(ns.map λn=>UInt8.ofNat n.toNat).toArray⟩
 |[],r=>AB
 |n::ns,r=>by rw[xb,X9 ns];simp[ByteArray.push]
def aAn{o:Oper}{src dst e:TypeId}{x:Operand}{v v' u:Ab}{h':Ai}(ho:o.op= .convert src dst x)(hs:C.P.underlying src=some (.slice e))(hd:C.P.underlying dst=some .string)(he:C.P.underlying e=some (.int .u8))(hx:Fi C U x=some v)(hf:L6 h v=some (h',v'))(hp:AE .XD [v']=some u)
  (hr:Df C γ0 w0 γ Z U h a w):Gl C γ0 w0 o a w (U.put o.dst (.val u)) h':=by
 obtain⟨γ',E0,Ib,Lm⟩:=hr.UF (He hr hx) hf;have NJ:∀s,(Conv.bytesToString (a.eval x)).run C.P w= .ok s w->(∃p l c,a.eval x= .slice p l c)->(execOp a.eval o).run C.P w= .ok (.value s) w:=λs AR ⟨p,l,c,sG⟩=>by simp only[execOp,ho];refine DM ?_;rw[sG] at AR⊢;rw[run_convert_bytes_string w src dst e p l c hs he hd];exact AR
 simp only[AE] at hp;unfold fP at hp;split at hp
 .rename_i Ay;cases hq:NT Ay with
  |none=>rw[hq] at hp;cases hp
  |some s=>
   rw[hq] at hp;cases hp;obtain⟨ns,rfl,rfl⟩:=TB hq;obtain⟨d,cap,sG,hc,hsp,hR⟩:=Lm;have Nf:∀(j:Nat) (v:Value),(ns.map (Value.int .u8))[j]?=some v->d.add j=⟨d.block,d.off+j,none⟩:=λj v hj=>by
    have hpos:0<ns.length:=by have:=(Aj.1 hj).1;simp at this;omega
    have sZ:=Pl hsp hc (by simpa using hpos);generalize d.block=b at*;generalize d.off=o at*;subst sZ;unfold Addr.add;split<;>simp_all
   have hl:=run_loadCells_list (P:=C.P) w d (ns.map (Value.int .u8)) (λj v hj=>by
    rw[Nf j v hj];simp only[Dt] at hj;cases hn:ns[j]? with
    |none=>rw[hn] at hj;cases hj
    |some n=>rw[hn] at hj;cases hj;obtain⟨_,m⟩:=hR.get (i:=j) (r:=[.int .u8 n]) (by simp[hn]);obtain⟨y,hy,g⟩:=m.get (i:=0) (a:= .int .u8 n) rfl;rw[show y=_ from g] at hy;have:=(Ib.Ee.I6 _ _ _ hy).1;simpa using this)
   simp only[Aw] at hl;have AR:=run_bytesToString (P:=C.P) w d ns.length cap ns hl;have k:ByteArray.empty.data=#[]:=rfl;rw[X9,k,Array.empty_append] at AR;have f:a.eval x= .slice (some d) ns.length cap:=by rw[sG];simp
   rw[<-f] at AR;exact Gl.value (NJ _ AR ⟨_,_,_,f⟩) (Ib.put λ_ _=>rfl)
 .cases hp;have f:a.eval x= .slice none 0 0:=Lm;have AR:(Conv.bytesToString (a.eval x)).run C.P w= .ok (.string ⟨⟨[]⟩⟩) w:=by rw[f];simp[Conv.bytesToString];rfl
  exact Gl.value (NJ _ AR ⟨_,_,_,f⟩) (Ib.put λ_ _=>rfl)
 .cases hp
def zo(C:Gw)(f:FuncId):Prop:=
 (∃fn c,C.P.funcs[f]?=some fn/\(fn.name== "runtime.NumGoroutine")=false/\fn.body=some c)/\
 ∀(γ:Gh) (h:Ai) (w:World) (s:Ab) (d:Value) (i x:Int) (h':Ai) (r:Ab) (g b:Nat) (us:Array Value) (e:TypeId),It γ h w->BQ γ s d->Rq h [s,.int .i64 i,.sl 1 [[.int .i64 x]]]=some (h',r)->
  w.heap[g]?=some (.cells us e (0,0))->us[0]?=some (.int .i64 x)->(∀id,γ.BU g≠some (.NH id))->1<=b->us.size=b->
  Calls C.P f #[d,.int .i64 i,.slice (some ⟨g,0,none⟩) 1 b] w λe w'=>match e with
   | .returned v=>∃γ',It γ' h' w'/\Nb γ w γ' w'/\BQ γ' r v
   |_=>False
def Ft(C:Gw)(run:IT->Ai->Option KE):Prop:=
 ((∀g cs,C.HO g=some cs->cs.all Ab.NI=true)/\∀f,C.Mw f=true->zo C f)/\
 ∀(f:FuncId) (args:List Ab) (h:Ai) (r:Ab) (h':Ai),run (Cf C f args) h=some (.ret,[r],h')->
  (∃fn c,C.P.funcs[Fl f]?=some fn/\(fn.name== "runtime.NumGoroutine")=false/\fn.body=some c)/\
  ∀(γ:Gh) (w:World) (cargs:Array Value),It γ h w->(∀g cs,C.HO g=some cs->C8 γ cs g 0)->Bc γ args cargs.toList->
   Calls C.P (Fl f) cargs w λe w'=>match e with
    | .returned v=>∃γ',It γ' h' w'/\Nb γ w γ' w'/\BQ γ' r v/\(C.KK f=true->∃s c,J1 γ' w.heap.size w' s c v r)
    |_=>False
def Df.aD5(hr:Df C γ0 w0 γ Z U h a w){h':Ai}{r:Ab}{v:Value}(hi:It γ' h' w')(ha:Nb γ w γ' w')(hv:BQ γ' r v){BU:Bool}(ho:BU=true->∃s c,J1 γ' w.heap.size w' s c v r)(d:Option Nat):
  ∃f,Df C γ0 w0 f Z (U.put d (if BU then .BU r else .val r)) h' (a.put d v) w':=by
 cases BU with
 |false=>exact⟨γ',(hr.JO hi ha).put λ_ _=>hv⟩
 |true=>
  obtain⟨s,c,j⟩:=ho rfl;rcases j with j|⟨g,n,cap,us,e,z,Ay,rfl,h2,h3,l,k⟩
  .exact⟨γ',(hr.JO hi ha).put λ_ _=>⟨hv,.inl j⟩⟩
  .have i:Nb γ w (γ'.Gg g (.tail U.length none (n*z))) w':=⟨ha.le.trans (HV _ _ _),ha.size,ha.os,ha.tape,ha.output,λb hb hn=>by obtain⟨p,q⟩:=ha.Pm b hb hn;exact⟨p,by simp only[Gh.Gg,Aa (Ac:b≠g)];exact q⟩⟩
   have Ib:=hr.JO (hi.Gg (s':=U.length) (c':=none) h3) i;exact Ib.X4 (BQ.mono (HV _ _ _) _ _ hv) (.inr ⟨g,n,cap,us,e,z,Ay,rfl,h2,by simp[Gh.Gg],Bw hr.D8.size l,k⟩) d
def I0{P:Program}{f:FuncId}{fn:Func}{c:Code}(hf:P.funcs[f]?=some fn)(hname:(fn.name== "runtime.NumGoroutine")=false)(hb:fn.body=some c)(args:Array Value)(w:World):
  (callFunc f args).run P w= .ok (.enter f args) w:=by
 have hn:¬fn.name= "runtime.NumGoroutine":=by simpa using hname
 simp[callFunc,hf,hn,hb]
def TC{o:Oper}{f:FuncId}{cargs:Array Value}{K:Act->World->Prop}{Q:Exit->Act->World->Prop}(he:(execOp a.eval o).run C.P w= .ok (.enter f cargs) w){R:Value->World->Prop}
  (hc:Calls C.P f cargs w λe w'=>match e with| .returned v=>R v w'|_=>False) (hk:∀v w',R v w'->K (a.put o.dst v) w'):o.wp C.P a w K Q:=by
 unfold Oper.wp;rw[he];refine hc.mono λe w' h=>?_;cases e with
 |returned v=>exact hk v w' h
 |_=>exact h.elim
def zp{run:IT->Ai->Option KE}(g:Ft C run){o:Oper}{c:Call}{f:FuncId}{args:List Ab}{r:Ab}{h':Ai}{K:Act->World->Prop}{Q:Exit->Act->World->Prop}(ho:o.op= .call c)(hcl:c.callee= .value (.func (Fl f)))(ha:Bs C U c.args.toList=some args)
  (AR:run (Cf C f args) h=some (.ret,[r],h')) (hr:Df C γ0 w0 γ Z U h a w) (i:∀γ' v w',Df C γ0 w0 γ' Z (U.put o.dst (if C.KK f then .BU r else .val r)) h' (a.put o.dst v) w'->K (a.put o.dst v) w'):o.wp C.P a w K Q:=by
 obtain⟨⟨fn,j,hf,hname,hb⟩,d⟩:=g.2 f args h r h' AR;have b:Bc γ args (c.args.map a.eval).toList:=by simpa using D9 hr ha
 refine TC (f:=Fl f) (cargs:=c.args.map a.eval) ?_ (d γ w _ hr.Ee hr.HO b) λv w' ⟨γ',hi,KQ,hv,F8⟩=>?_;.have h0:a.eval (.func (Fl f))= .func (.func (Fl f)) #[] #[]:=rfl;simp only[execOp,ho,resolve,hcl,Deferred.ofValue,h0,Sem.run_bind,Sem.run_pure,Result.andThen_ok,invoke];simpa using I0 hf hname hb (c.args.map a.eval) w
 .obtain⟨e,Ng⟩:=hr.aD5 hi KQ hv F8 o.dst;exact i e v w' Ng
def aAo{run:IT->Ai->Option KE}(L:Ft C run){o:Oper}{c:Call}{f:FuncId}{s i x:Operand}{args:List Ab}{r:Ab}{h':Ai}{K:Act->World->Prop}{Q:Exit->Act->World->Prop}(ho:o.op= .call c)(hcl:c.callee= .value (.func f))(hf:C.Mw f=true)(E6:c.args.toList=[s,i,x])(F8:L7 C U x=true)
  (ha:Bs C U [s,i,x]=some args) (hp:Rq h args=some (h',r)) (hr:Df C γ0 w0 γ Z U h a w) (M:∀γ' v w',Df C γ0 w0 γ' Z (U.put o.dst (.val r)) h' (a.put o.dst v) w'->K (a.put o.dst v) w'):o.wp C.P a w K Q:=by
 obtain⟨⟨fn,Y,y9,hname,hb⟩,aAp⟩:=L.1.2 f hf;have tN:=D9 hr ha;obtain⟨A,d,f1,g1,f2⟩:∃A d,[a.eval s,a.eval i,a.eval x]=A::d/\BQ γ (args.getD 0 .nilIface) A/\True:=by
  cases args with
  |nil=>cases tN
  |cons y l=>obtain⟨u,us,e,p,q⟩:=tN;exact⟨u,us,e,p,trivial⟩
 obtain⟨s',j,x',he,k,G,F⟩:∃s' j x',args=[s',.int .i64 j,.sl 1 [[.int .i64 x']]]/\∃(k:BQ γ s' (a.eval s)) (G:a.eval i= .int .i64 j),BQ γ (.sl 1 [[.int .i64 x']]) (a.eval x):=by
  unfold Rq at hp;split at hp;.obtain⟨_,_,_,e,E,D,B⟩:=tN.Vz;simp only[AV,CM,Cu,EN] at e;obtain⟨rfl,rfl,rfl⟩:=e;exact⟨_,_,_,rfl,E,D,B⟩
  .obtain⟨_,_,_,e,E,D,B⟩:=tN.Vz;simp only[AV,CM,Cu,EN] at e;obtain⟨rfl,rfl,rfl⟩:=e;exact⟨_,_,_,rfl,E,D,B⟩
  .cases hp
 subst he;have sF:Fi C U x=some (.sl 1 [[.int .i64 x']]):=by simp only[Bs] at ha;cases h1:Fi C U s<;>cases h2:Fi C U i<;>cases h3:Fi C U x<;>simp_all
 obtain⟨sl,sG⟩:∃sl,Er C U x=some sl:=by
  unfold L7 at F8;cases hs:Er C U x with
  |none=>rw[hs] at F8;cases F8
  |some sl=>exact⟨sl,rfl⟩
 have aNu:∃v,sl= .BU v:=by unfold L7 at F8;rw[sG] at F8;cases sl<;>first|exact⟨_,rfl⟩|cases F8
 obtain⟨v,rfl⟩:=aNu;obtain⟨s0,hrel,_⟩:=GJ hr sG;have aNv:v= .sl 1 [[.int .i64 x']]:=by simp only[Fi,sG,Cx,ER.HT,BO] at sF;exact sF
 subst aNv;obtain⟨y7,m⟩:=hrel;rcases m with(m|⟨_,m⟩)|⟨g,n,cap,us,e,z,Ay,h1,h2,h3,V,H,O,N,T,S⟩
 .cases m
 .cases m
 .cases h1;obtain⟨ad,J,I,X,W,R⟩:=F;rw[h2] at I;cases I;obtain⟨_,hm,_⟩:=R;obtain⟨⟨u,hu,hru⟩,_⟩:=hm;obtain⟨Kv,_,_⟩:=hr.Ee.I6 _ _ _ hu;have cD:us[0]?=some (.int .i64 x'):=by rw[cell_of_row w _ _ us e (0,0) H] at Kv;rw[Kv];exact B6 some hru
  have b:c.args.map a.eval=#[a.eval s,.int .i64 j,.slice (some ⟨g,0,none⟩) 1 cap]:=by apply Ia;simp only[Ou,E6,AV,CM,G,h2];rfl
  have WX:=aAp γ h w s' _ j x' h' r g cap us e hr.Ee k hp H cD (λid JB=>by rw[h3] at JB;cases JB) N (by rw[O,HM]);rw[<-b] at WX;refine TC (f:=f) (cargs:=c.args.map a.eval) ?_ WX λv w' ⟨γ',hi,KQ,hv⟩=>?_;.have h0:a.eval (.func f)= .func (.func f) #[] #[]:=rfl;simp only[execOp,ho,resolve,hcl,Deferred.ofValue,h0,Sem.run_bind,Sem.run_pure,Result.andThen_ok,invoke];simpa using I0 y9 hname hb (c.args.map a.eval) w
  .obtain⟨t,Ng⟩:=hr.aD5 (BU:=false) hi KQ hv (λe=>by cases e) o.dst;exact M t v w' (by simpa using Ng)
def Gh.apart(γ:Gh):Gh:={I6:=γ.I6,mu:=λ_=>none,BU:=λb=>match γ.BU b with|some (.NH _)=>none|x=>x,sz:=γ.sz}
def It.apart(hi:It γ h w):It γ.apart [] w:=by
 refine⟨λb o v hb=>?_,λid x hx=>by simp at hx,λid cs hx=>by simp at hx,λid es hx=>by simp at hx,λid b hb=>(by cases hb),λb x hx=>?_,λb n hb=>?_⟩;rotate_left 2;.obtain⟨p,r⟩:=hi.sz b n hb;refine⟨p,.inl ?_⟩;simp only[Gh.apart];rcases r with r|⟨_,r⟩<;>rw[r]
 .obtain⟨p,q,r⟩:=hi.I6 b o v hb;refine⟨p,q,?_⟩;simp only[Gh.apart];rcases r with r|⟨s,c,st,r,hl⟩
  .exact .inl (by rw[r])
  .exact .inr ⟨s,c,st,by rw[r],hl⟩
 .simp only[Gh.apart] at hx;split at hx;.cases hx
  .exact hi.BU b x hx
def Df.aAq(hr:Df C γ0 w0 γ Z U h a w){c:Gh}{h1:Ai}(hi:It c h1 w')(ha:Nb γ.apart w c w'):∃d,Df C γ0 w0 d Z U h a w':=by
 have zq:∀b id,γ.apart.BU b≠some (.NH id):=λb id e=>by
  simp only[Gh.apart] at e;split at e;.cases e
  .rename_i hn;exact hn id e
 have OC:∀b,b<w.heap.size->w'.heap[b]?=w.heap[b]?:=λb hb=>(ha.Pm b hb (zq b)).1;refine⟨γ,hr.JO ⟨λb o v hb=>?_,hr.Ee.NH,λid cs hc b hb=>?_,λid es hc b hb=>?_,hr.Ee.mu,λb x hx=>JV (hr.Ee.BU b x hx) ha.size,λb n hb=>(by
   obtain⟨⟨us,e,fr,p,q⟩,r⟩:=hr.Ee.sz b n hb;exact⟨⟨us,e,fr,by rw[OC b (AU.1 p).1];exact p,q⟩,r⟩)⟩
  ⟨.refl _,ha.size,ha.os,ha.tape,ha.output,λb hb _=>⟨OC b hb,rfl⟩⟩⟩
 .obtain⟨p,q,r⟩:=hr.Ee.I6 b o v hb;exact⟨by rw[CV (OC b (DV p))];exact p,q,r⟩
 .obtain⟨us,e,fr,p,q⟩:=hr.Ee.cells id cs hc b hb;exact⟨us,e,fr,by rw[OC b (AU.1 p).1];exact p,q⟩
 .obtain⟨Es,clock,p,q⟩:=hr.Ee.map id es hc b hb;exact⟨Es,clock,by rw[OC b (AU.1 p).1];exact p,q⟩
def Ya{γ γ':Gh}{x:Ab}{v:Value}(hf:x.NI=true)(hv:BQ γ x v):BQ γ' x v:=by cases x<;>first|exact hv|cases hf
def cP{γ γ':Gh}:∀{l:List Ab} {us:List Value},l.all Ab.NI=true->Bc γ l us->Bc γ' l us
 |[],us,_,h=>h
 |x::l,us,hf,h=>by obtain⟨u,DS,e,h1,h2⟩:=h;simp only[fN,Bg] at hf;exact⟨u,DS,e,Ya hf.1 h1,cP hf.2 h2⟩
def C8.apart{γ:Gh}:∀{l:List Ab} {b o:Nat},C8 γ l b o->l.all Ab.NI=true->C8 γ.apart l b o
 |[],_,_,_,_=>trivial
 |x::l,b,o,h,hf=>by obtain⟨⟨u,h1,h2⟩,h3⟩:=h;simp only[fN,Bg] at hf;exact⟨⟨u,h1,Ya hf.1 h2⟩,h3.apart hf.2⟩
def qc{run:IT->Ai->Option KE}(i:Ft C run){o:Oper}{c:Call}{f:FuncId}{args:List Ab}{r:Ab}{h1:Ai}{K:Act->World->Prop}{Q:Exit->Act->World->Prop}(ho:o.op= .call c)(hcl:c.callee= .value (.func (Fl f)))(ha:Bs C U c.args.toList=some args)
  (hfa:args.all Ab.NI=true) (AR:run (Cf C f args) []=some (.ret,[r],h1)) (XU:r.NI=true) (hr:Df C γ0 w0 γ Z U h a w) (j:∀γ' v w',Df C γ0 w0 γ' Z (U.put o.dst (.val r)) h (a.put o.dst v) w'->K (a.put o.dst v) w'):o.wp C.P a w K Q:=by
 obtain⟨⟨fn,k,hf,hname,hb⟩,d⟩:=i.2 f args [] r h1 AR;have b:Bc γ.apart args (c.args.map a.eval).toList:=cP hfa (by simpa using D9 hr ha);refine TC (f:=Fl f) (cargs:=c.args.map a.eval) ?_ (d γ.apart w _ hr.Ee.apart (λg cs hg=>(hr.HO g cs hg).apart (i.1.1 g cs hg)) b) λv w' ⟨γ',hi,KQ,hv,_⟩=>?_;.have h0:a.eval (.func (Fl f))= .func (.func (Fl f)) #[] #[]:=rfl;simp only[execOp,ho,resolve,hcl,Deferred.ofValue,h0,Sem.run_bind,Sem.run_pure,Result.andThen_ok,invoke];simpa using I0 hf hname hb (c.args.map a.eval) w
 .obtain⟨e,Ng⟩:=hr.aAq hi KQ;exact j e v w' (Ng.put λ_ _=>Ya XU hv)
def qd{run:IT->Ai->Option KE}(l:Ft C run){o:Oper}{c:Call}{g:Operand}{k:Ab}{f:FuncId}{args args':List Ab}{r:Ab}{h':Ai}{K:Act->World->Prop}{Q:Exit->Act->World->Prop}(ho:o.op= .call c)(hcl:c.callee= .value g)(hg:Fi C U g=some k)
  (ha:Bs C U c.args.toList=some args) (ht:CR k args=some (f,args')) (AR:run (Cf C f args') h=some (.ret,[r],h')) (hr:Df C γ0 w0 γ Z U h a w) (m:∀γ' v w',Df C γ0 w0 γ' Z (U.put o.dst (.val r)) h' (a.put o.dst v) w'->K (a.put o.dst v) w'):o.wp C.P a w K Q:=by
 obtain⟨⟨fn,n,hf,hname,hb⟩,b⟩:=l.2 f args' h r h' AR;have j:=He hr hg;unfold CR at ht;split at ht
 .rename_i f0 first captured
  split at ht;rotate_left;.cases ht
  rename_i ů;cases ht;rw[show Fl f=f from Ae ů] at hf b;obtain⟨fs,cs,JA,h1,h2⟩:=j;have d:Bc γ (first++args++captured) (fs++c.args.map a.eval++cs).toList:=by simpa using(h1.append (D9 hr ha)).append h2
  refine TC (f:=f) (cargs:=fs++c.args.map a.eval++cs) ?_ (b γ w _ hr.Ee hr.HO d) λv w' ⟨γ',hi,KQ,hv,F8⟩=>?_;.simp only[execOp,ho,resolve,hcl,Deferred.ofValue,JA,Sem.run_bind,Sem.run_pure,Result.andThen_ok,invoke];exact I0 hf hname hb _ w
  .obtain⟨i,Ng⟩:=hr.aD5 (BU:=false) hi KQ hv (λe=>by cases e) o.dst;exact m i v w' (by simpa using Ng)
 .cases ht
end
end Go.Am
end
