/- Lemmas -/
import Derived.Test.YtkaolmlpcamojaaGreatDoorH4
import Derived.Deep.AppendSrc
import Derived.Great.BuildSlice
import Derived.Laws.IdiomStrings
set_option linter.all false
section
namespace Go.Am
open Go
section
variable{C:Gb}{U0 U U':Gh}{w0 w w':World}{O:Nat->Nat}{Z:BU}{h:Ai}{a:Act}{fid:FuncId}{ops:List Oper}
def DJ{P:Program}{s:Sem Value}{v:Value}(hs:s.run P w= .ok v w'):(do pure (Next.value (<-s)):Sem Next).run P w= .ok (.value v) w':=by simp[hs]
def Va{J:Type}{z:Nat}:∀{AE:List (List J)},(∀r∈AE,r.length=z)->∀{i:Nat} {r:List J},AE[i]?=some r->∀{j:Nat} {x:J},r[j]?=some x->AE.flatten[i*z+j]?=some x
 |[],_,i,r,hi,_,_,_=>by simp at hi
 |q::AE,hl,0,r,hi,j,x,hj=>by simp at hi;subst hi;have:j<q.length:=(An.1 hj).1;simp only[M1,BW,CZ];rw[Ak this];exact hj
 |q::AE,hl,i+1,r,hi,j,x,hj=>by
  simp at hi;have hq:q.length=z:=hl q AH;rw[CZ,Bk (by rw[hq,BI];omega)];have:=Va (AE:=AE) (λr hr=>hl r (by simp[hr])) hi hj;rw[<-this];congr 1
  rw[hq,BI];omega
def HD{J:Type}{z:Nat}:∀{AE:List (List J)},(∀r∈AE,r.length=z)->AE.flatten.length=AE.length*z
 |[],_=>AH
 |q::AE,hl=>by have hq:q.length=z:=hl q AH;simp[hq,HD (AE:=AE) (λr hr=>hl r (by simp[hr])),BI,PF]
def OQ{AE:List (List Aa)}{us:List Value}{z b o:Nat}(hl:∀r∈AE,r.length=z)(hv:Bl U AE.flatten us)(hi:∀(j:Nat) (u:Value),us[j]?=some u->U.IF b (o+j)=some u):E7 U AE z b o:=by refine E7.Hm λi r hr=>⟨hl r (CC hr),C8.Hm λj x hj=>?_⟩;obtain⟨u,hu,hx⟩:=hv.get (Va hl hr hj);exact⟨u,by rw[Sw];exact hi _ _ hu,hx⟩
def Df.drew(hr:Df C U0 w0 U O Z h a w):Df C U0 w0 U O Z h a w.drew:=hr.Jj (hr.D5.same rfl) (LI.drew U w)
def BU.Ue(Z:BU):Z.at Z.length= .undef:=by simp[BU.at,List.getD]
def Df.XS(hr:Df C U0 w0 U O Z h a w){x:Aa}{v:Value}(hv:BQ U x v)(ho:I6 U w0.heap.size w Z.length none v x)(d:Option Nat):∃U',Df C U0 w0 U' O (Z.put d (.Bs x)) h (a.put d v) w:=by
 cases d with
 |none=>exact⟨U,hr⟩
 |some d=>
  rcases ho with ho|⟨g,n,cap,us,e,z,AE,h1,h2,f,b,c⟩
  .exact⟨U,hr.put λs _=>⟨hv,.inl ho⟩⟩
  .have KQ:=hr.FX (s':=d) (c':=none) f b (λ_ u=>by rw[BU.Ue];simp) (λo ho=>by cases ho);exact⟨_,KQ.put λs hs=>by cases hs;exact⟨BQ.mono (HA _ _ _) _ _ hv,.inr ⟨g,n,cap,us,e,z,AE,h1,h2,by simp[Gh.FX],b,c⟩⟩⟩
def Df.XT(hr:Df C U0 w0 U O Z h a w)(us:Array Value)(e:TypeId){z n cap:Nat}{AE:List (List Aa)}(hz:0<z)(hn:AE.length=n)(hl:∀r∈AE,r.length=z)(aZ:us.size=cap*z)(hc:n<=cap)(hm:cap<=maxLen)
  (hv:Bl U AE.flatten (us.toList.take (n*z))) (h1:∀u∈us.toList.take (n*z),u.oneCell'=true):
  ∃U',U.le U'/\Df C U0 w0 U' O Z h a (w.alloc (.cells us e))/\BQ U' (.sl z AE) (.slice (some ⟨w.heap.size,0,none⟩) n cap)/\I6 U' w0.heap.size (w.alloc (.cells us e)) Z.length none (.slice (some ⟨w.heap.size,0,none⟩) n cap) (.sl z AE):=by
 obtain⟨hi,ha⟩:=PT hr.D5 us e (0,0) (n*z) (some (.tail Z.length none (n*z))) (λo u ho hu=>h1 u (CC (i:=o) (by rw[C3 ho];simpa using hu))) (.inr (.inl ⟨_,_,rfl⟩));refine⟨_,ha.le,hr.Jj hi ha,⟨⟨w.heap.size,0,none⟩,cap,by rw[hn],Ac,.inl rfl,OQ hl (Bl.mono ha.le _ _ hv) λj u hj=>?_⟩,.inr ⟨w.heap.size,n,cap,us,e,z,AE,rfl,rfl,by simp[Gh.Dy],hr.DZ.size,heap_alloc_new w _,aZ,hc,hm,hz⟩⟩;rw[Ci] at hj;split at hj;.rename_i hlt;simp only[Gh.Dy,BJ,BW,Af hlt];simpa using hj
 .cases hj
def XU{size:Nat}:∀(vs:List Value) (k:Nat) (cells:Array Value),(∀v∈vs,v.cells.size=size)->(k+vs.length)*size<=cells.size->
  Instr.fill (λi=>some (i*size,size)) cells ((vs.zipIdx k).map λp=>(p.2,p.1))=some (cells.toList.take (k*size)++vs.flatMap (·.cells.toList)++cells.toList.drop ((k+vs.length)*size)).toArray
 |[],k,cells,_,_=>by simp[Instr.fill]
 |v::vs,k,cells,hv,hl=>by
  have hs:v.cells.size=size:=hv v AH;simp only[Bd] at hl;have Er:(k+1)*size+vs.length*size<=cells.size:=by rw[<-BI];exact Br (M0 (by congr 1;omega)) hl
  have ZU:(k+1)*size=k*size+size:=by rw[BI,D6]
  simp only[yF,Bj,Instr.fill];have f:¬(v.cells.size≠size\/k*size+v.cells.size>cells.size):=by rw[hs];omega
  simp only[B7,decide_not,Pj,CO,aQS,TQ] at*;rw[Ad f];have hf:=ON v.cells.toList (k*size) 0 cells (by simp[hs];omega);have aLA:v.cells.zipIdx.foldl (λcs (c,j)=>cs.setIfInBounds (k*size+j) c) cells=(cells.toList.take (k*size)++v.cells.toList++cells.toList.drop (k*size+size)).toArray:=by rw[<-aPk,aLm];rw[hf];simp[hs]
  rw[aLA];have hlen:(cells.toList.take (k*size)++v.cells.toList++cells.toList.drop (k*size+size)).length=cells.size:=by simp[hs];omega
  rw[XU vs (k+1) _ (λu hu=>hv u (by simp[hu])) (by simp only[B9];rw[hlen,BI];exact Er)]
  congr 2
  have b:(cells.toList.take (k*size)++v.cells.toList).length=(k+1)*size:=by simp[hs];omega
  have e:(cells.toList.take (k*size)++v.cells.toList++cells.toList.drop (k*size+size)).take ((k+1)*size)=cells.toList.take (k*size)++v.cells.toList:=by rw[<-b];exact FD
  have d:(cells.toList.take (k*size)++v.cells.toList++cells.toList.drop (k*size+size)).drop ((k+1+vs.length)*size)=cells.toList.drop ((k+(vs.length+1))*size):=by
   rw[TR,AZ (by rw[b];exact DW _ Ac),b,Em,BT];congr 1
   have:(k+1+vs.length)*size-(k+1)*size=vs.length*size:=by rw[BI (k+1)];omega
   rw[this,BI k,BI vs.length];omega
  rw[e,d];simp
def LL{P:Program}{t:TypeId}(h:MA P t=true):∃i z,P.info? t=some i/\i.zero=some z/\z.cells.size=i.size:=by
 unfold MA at h;split at h
 .rename_i i hi;split at h;.rename_i z hz;exact⟨i,z,hi,hz,by simpa using h⟩
  .cases h
 .cases h
def Ka{P:Program}{t:TypeId}{n:Nat}{i:TypeInfo}(h:B4 P t=some n)(hi:P.info? t=some i):i.size=n:=by simpa[B4,hi] using h
def Mi{P:Program}{t:TypeId}{n:Nat}{i:TypeInfo}(h:Kq P t=some n)(hi:P.info? t=some i):i.bytes=n:=by simpa[Kq,hi] using h
def XV:∀{args:List Aa} {us:List Value} {z:Nat},Bl U args us->(∀x∈args,x.cells.length=z)->0<z->Bl U (args.map (·.cells)).flatten (us.flatMap (·.cells.toList))/\(∀u∈us.flatMap (·.cells.toList),u.oneCell'=true)/\∀u∈us,u.cells.size=z
 |[],us,z,h,_,_=>by rw[Bl] at h;subst h;exact⟨rfl,AH,AH⟩
 |x::args,us,z,h,hl,hz=>by
  obtain⟨u,DQ,rfl,h1,h2⟩:=h;have hx:=hl x AH;obtain⟨b,e⟩:=HB h1 Ac;obtain⟨d,r2,c⟩:=XV h2 (λy hy=>hl y (by simp[hy])) hz;refine⟨by simpa using b.append d,λv hv=>?_,λv hv=>?_⟩;.simp only[M2,Ay] at hv;exact hv.elim (e v) (r2 v)
  .rcases AS.1 hv with rfl|hv
   .have:=b.length;simp at this;omega
   .exact c v hv
def bI{a:Act}:∀{l:List (Nat×Operand)} {k:Nat},l.map (·.1)=List.range' k l.length->l.map (λp=>(p.1,a.eval p.2))=((l.map λp=>a.eval p.2).zipIdx k).map λp=>(p.2,p.1)
 |[],k,_=>AH
 |(i,x)::l,k,h=>by simp only[Bj,Bd,List.range'_succ,E5] at h;obtain⟨rfl,h⟩:=h;simp[yF,bI h]
def ub{o:Oper}{t e:TypeId}{len n:Nat}{parts:Array (Nat×Operand)}{args:List Aa}{u:Aa}(ho:o.op= .buildSlice t len parts)(ht:C.P.underlying t=some (.slice e))(Ls:B4 C.P e=some (n+1))(hp:parts.toList.map (·.1)=List.range len)(nD:MA C.P e=true)
  (ha:BB C Z (parts.toList.map (·.2))=some args) (hu:AD (.Dk (n+1)) args=some u) (hr:Df C U0 w0 U O Z h a w):F9 C U0 w0 o a w (Z.put o.dst (.Bs u)) h:=by
 obtain⟨i,z,hi,hz,eQ⟩:=LL nD;have Q5:=Ka Ls hi;simp only[AD] at hu;split at hu
 .rename_i hc;cases hu;simp only[Bv,Db,Ý,CO] at hc;obtain⟨SA,I7⟩:=hc;have ET:=D0 hr ha;have hlen:parts.toList.length=len:=by have:=Cc List.length hp;simpa using this
  have WC:args.length=len:=by have:=ET.length;simp at this;simp at hlen;omega
  obtain⟨f,j,g⟩:=XV ET SA (Dc n);have bJ:=f.length;rw[HD (z:=n+1) (by intro r hr;obtain⟨x,hx,rfl⟩:=Bn.1 hr;exact SA x hx),Ao,WC] at bJ;have A3:∃cells:Array Value,cells.toList=(parts.toList.map (·.2) |>.map a.eval).flatMap (·.cells.toList)/\(Instr.buildSlice t len (parts.map λ(i,x)=>(i,a.eval x))).run C.P w= .ok (.slice (some ⟨w.heap.size,0,none⟩) len len) (w.alloc (.cells cells e)):=by
   have nB:(parts.map λ(i,x)=>(i,a.eval x)).toList=(((parts.toList.map (·.2)).map a.eval).zipIdx 0).map λp=>(p.2,p.1):=by have:=bI (a:=a) (l:=parts.toList) (k:=0) (by rw[hlen,<-aKt];exact hp);simp only[NO,List.map_map];exact this
   have zC:=XU (size:=n+1) ((parts.toList.map (·.2)).map a.eval) 0 ((Array.range (len*(n+1))).map (z.cells[·%z.cells.size]!)) g (by simp at hlen⊢;rw[hlen];exact Ag _);rw[<-nB] at zC;have e0:((Array.range (len*(n+1))).map (z.cells[·%z.cells.size]!)).toList.drop ((0+((parts.toList.map (·.2)).map a.eval).length)*(n+1))=[]:=by apply AZ;simp at hlen⊢;rw[hlen];exact Ag _
   rw[e0] at zC;simp only[M1,KN,BT,By] at zC;refine⟨_,rfl,?_⟩;by_cases h0:len*(n+1)=0
   .have d:len=0:=by
     rcases Nat.mul_eq_zero.1 h0 with h|h
     .exact h
     .omega
    subst d;have c:parts=#[]:=by apply Gf;simpa using hlen
    subst c;have b:(Array.range 0:Array Nat)=#[]:=rfl;simp[Instr.buildSlice,run_underlying ht,sizeOf,typeInfo,hi,newRow,Instr.fill,b]
   .exact run_buildSlice w t e len _ _ i z ht hi hz (by rw[Q5];rw[WC] at I7;omega) (by rw[Q5];exact h0) (by rw[Q5];exact zC)
  obtain⟨cells,hcells,A3⟩:=A3;have hcs:cells.size=len*(n+1):=by rw[<-Cg,hcells];exact bJ
  obtain⟨U',Er,Gc,DH,FJ⟩:=hr.XT cells e (z:=n+1) (n:=len) (cap:=len) (AE:=args.map (·.cells)) (Dc n) (by simp[WC]) (by intro r hr;obtain⟨x,hx,rfl⟩:=Bn.1 hr;exact SA x hx) hcs (Ag _)
   (by rw[WC] at I7;have:len<=len*(n+1):=I1 _ (Dc n);simp only[maxLen];omega) (by rw[hcells,AF (by rw[bJ];exact Ag _)];exact f) (by rw[hcells,AF (by rw[bJ];exact Ag _)];exact j)
  obtain⟨m,Mh⟩:=Gc.XS DH FJ o.dst;exact F9.value (by simp only[execOp,ho];exact DJ A3) Mh
 .cases hu
def uc{o:Oper}{t e:TypeId}{len n:Nat}{parts:Array (Nat×Operand)}(ho:o.op= .buildSlice t len parts)(ht:C.P.underlying t=some (.slice e))(Ls:B4 C.P e=some (n+1))(hp:parts.toList.map (·.1)=List.range len)(nD:MA C.P e=true)(h0:len=0)
  (hr:Df C U0 w0 U O Z h a w):F9 C U0 w0 o a w (Z.put o.dst (.Bs (.Gl (n+1)))) h:=by
 subst h0;obtain⟨i,z,hi,hz,eQ⟩:=LL nD;have c:parts=#[]:=by apply Gf;have:=Cc List.length hp;simpa using this
 subst c;have b:(Array.range 0:Array Nat)=#[]:=rfl;have A3:(Instr.buildSlice t 0 ((#[]:Array (Nat×Operand)).map λ(i,x)=>(i,a.eval x))).run C.P w= .ok (.slice (some ⟨w.heap.size,0,none⟩) 0 0) (w.alloc (.cells #[] e)):=by simp[Instr.buildSlice,run_underlying ht,sizeOf,typeInfo,hi,newRow,Instr.fill,b]
 obtain⟨U',Er,Gc,_,_⟩:=hr.XT #[] e (z:=n+1) (n:=0) (cap:=0) (AE:=[]) (Dc n) rfl AH AH (Ag _) (by simp[maxLen]) (by rw[M1];exact(rfl:Bl U [] [])) AH;obtain⟨d,Mh⟩:=Gc.XS (x:= .Gl (n+1)) (v:= .slice (some ⟨w.heap.size,0,none⟩) 0 0) ⟨_,rfl⟩ (.inl (.inr ⟨_,rfl⟩)) o.dst;exact F9.value (by simp only[execOp,ho];exact DJ A3) Mh
def zF{t':TypeId}{size bytes:Nat}{v u r:Aa}{d:Value}(Gs:(∃i,C.P.underlying t'=some (.slice i))\/C.P.underlying t'=some .string)(hi:Hv U h w)(hu:BQ U u d)(hp:H9 size bytes v u=some r):
  ∃(AE:List (List Aa)) (news:List Value),DM size bytes v AE=some r/\Src C.P size t' d AE.length news w/\Bl U AE.flatten news/\(∀r∈AE,r.length=size):=by
 unfold H9 at hp;split at hp;.rw[show d=_ from hu];exact⟨[],[],hp,⟨Gs,λ_=>rfl,run_firstCells_none w size 0 0 0,run_firstCells_none w.drew size 0 0 0,AH,AH⟩,rfl,AH⟩
 .rename_i z;split at hp;.obtain⟨b,ø⟩:=hu;rw[ø];exact⟨[],[],hp,⟨Gs,λ_=>rfl,run_firstCells_some w _ _ _ _ _ [] AH (λj x hj=>by simp at hj),run_firstCells_some w.drew _ _ _ _ _ [] AH (λj x hj=>by simp at hj),AH,AH⟩,rfl,AH⟩
  .cases hp
 .rename_i z AE;split at hp
  .rename_i hz;subst hz;obtain⟨c,cap,ø,P1,hsp,hR⟩:=hu;obtain⟨us,g,e,f⟩:=hR.values;have N2:∀(j:Nat) (x:Value),us[j]?=some x->c.add j=⟨c.block,c.off+j,none⟩:=λj x hj=>by
    have hpos:0<AE.length:=by
     rcases Jw AE.length with h0|h0
     .have:us.length=0:=by rw[e,h0,M1]
      rw[C7 this] at hj;simp at hj
     .exact h0
    have tJ:=OH hsp P1 hpos;generalize c.block=b at*;generalize c.off=o at*;subst tJ;unfold Addr.add;split<;>simp_all
   rw[ø];refine⟨AE,us,hp,⟨Gs,λ_=>rfl,run_firstCells_some w _ _ _ _ _ us e (λj x hj=>by rw[N2 j x hj];exact(hi.IF _ _ _ (f j x hj)).1),run_firstCells_some w.drew _ _ _ _ _ us e (λj x hj=>by rw[N2 j x hj];exact(hi.IF _ _ _ (f j x hj)).1),e,λx hx=>?_⟩,g,λr hr=>?_⟩;.obtain⟨j,hj⟩:=CT hx;exact(hi.IF _ _ _ (f j x hj)).2.1
   .obtain⟨j,hj⟩:=CT hr;exact(hR.get hj).1
  .cases hp
 .rename_i s;split at hp
  .rename_i hz;subst hz;rw[show d=_ from hu];have hlen:(Ce s).length=(⟨⟨s⟩⟩:ByteArray).size:=by simp[Ce,ByteArray.size]
   have hrel:∀l:List UInt8,Bl U (Ce l).flatten (l.map λb=>Value.int .u8 b.toNat):=by
    intro l;induction l with
    |nil=>rfl
    |cons b l ih=>exact⟨_,_,rfl,rfl,ih⟩
   refine⟨Ce s,byteCells ⟨⟨s⟩⟩,hp,?_,?_,λr hr=>?_⟩;.rw[hlen];exact⟨Gs,λ_=>rfl,firstCells_string _ w,firstCells_string _ w.drew,by rw[byteCells_length,FI],λu hu=>by obtain⟨_,_,rfl⟩:=Bn.1 hu;rfl⟩
   .simpa[byteCells] using hrel s
   .obtain⟨b,_,rfl⟩:=Bn.1 hr;rfl
  .cases hp
 .cases hp
def Df.ud(hr:Df C U0 w0 U O Z h a w){g n cap z:Nat}{us:Array Value}{e:TypeId}{rr AE:List (List Aa)}{news:List Value}(FJ:U.Bs g=some (.tail Z.length none (n*z)))(hB:w0.heap.size<=g)(hg:w.heap[g]?=some (.cells us e (0,0)))
  (aZ:us.size=cap*z) (hm:cap<=maxLen) (hz:0<z) (hv:BQ U (.sl z rr) (.slice (some ⟨g,0,none⟩) n cap)) (hl:∀r∈AE,r.length=z) (hn:Bl U AE.flatten news) (h1:∀u∈news,u.oneCell'=true) (hroom:n+AE.length<=cap):
  ∃U',U.le U'/\Df C U0 w0 U' O Z h a (w.setRow g (us.toList.take (n*z)++news++us.toList.drop (n*z+news.length)).toArray)/\BQ U' (.sl z (rr++AE)) (.slice (some ⟨g,0,none⟩) (n+AE.length) cap)/\
   I6 U' w0.heap.size (w.setRow g (us.toList.take (n*z)++news++us.toList.drop (n*z+news.length)).toArray) Z.length none (.slice (some ⟨g,0,none⟩) (n+AE.length) cap) (.sl z (rr++AE)):=by
 obtain⟨t,cap',oD,P1,_,hR⟩:=hv;simp only[Value.slice.injEq,BC] at oD;obtain⟨rfl,rfl,rfl⟩:=oD;simp only at hR;have Pn:news.length=AE.length*z:=by rw[hn.length,HD hl]
 have hfit:(rr.length+AE.length)*z<=us.size:=by rw[aZ];exact DW _ hroom
 rw[BI] at hfit;have c:(us.toList.take (rr.length*z)).length=rr.length*z:=Ei;obtain⟨vs,m,q,l⟩:=hR.values;have hvs:vs=us.toList.take (rr.length*z):=by
  apply RH;intro j;by_cases hj:j<rr.length*z
  .have d:j<vs.length:=by rw[q];exact hj
   have hc:=(hr.D5.IF _ _ _ (l j _ (Ap d))).1;rw[cell_of_row w _ _ us e (0,0) hg,BW] at hc;rw[Ap d,C3 hj];simpa using hc.symm
  .rw[Ec Ac,Ec (by rw[c];omega)]
 rw[hvs] at m;have Py:∀u∈us.toList.take (rr.length*z),u.oneCell'=true:=λu hu=>by rw[<-hvs] at hu;obtain⟨j,hj⟩:=CT hu;exact(hr.D5.IF _ _ _ (l j u hj)).2.1
 have f:(rr.length+AE.length)*z=rr.length*z+AE.length*z:=BI _ _ _;have aBp:((us.toList.take (rr.length*z)++news++us.toList.drop (rr.length*z+news.length)).toArray).toList.take ((rr.length+AE.length)*z)=us.toList.take (rr.length*z)++news:=by
  have:(us.toList.take (rr.length*z)++news).length=(rr.length+AE.length)*z:=by rw[Au,c,Pn,f]
  rw[<-this];exact FD
 have Ls:(us.toList.take (rr.length*z)++news++us.toList.drop (rr.length*z+news.length)).length=us.size:=by simp[Pn];omega
 generalize p:(us.toList.take (rr.length*z)++news++us.toList.drop (rr.length*z+news.length)).toArray=DQ at*;have aLD:DQ.size=us.size:=by rw[<-p];simpa using Ls
 obtain⟨hi,Er⟩:=tD hr.D5 FJ hg DQ ((rr.length+AE.length)*z) Z.length none (λo ho=>by
   rw[<-p,AI,List.getElem?_toArray,Ak Ac,C3 ho];simp)
  Ac (λo u ho hu=>by
   have:u∈DQ.toList.take ((rr.length+AE.length)*z):=by refine CC (i:=o) ?_;rw[C3 ho];simpa using hu
   rw[aBp,Ay] at this;exact this.elim (Py u) (h1 u)) (λo v hv=>by
   have:=(hr.D5.IF _ _ _ hv).1;rwa [cell_of_row w _ _ us e (0,0) hg] at this)
 have hk:QG g U w (U.Dy g DQ ((rr.length+AE.length)*z) (some (.tail Z.length none ((rr.length+AE.length)*z)))) (w.setRow g DQ):=
  ⟨Er,λb x hb hx _=>⟨by simp only[Gh.Dy,Ad hb];exact hx,setRow_other w g b DQ hb⟩⟩
 have k:E7 (U.Dy g DQ ((rr.length+AE.length)*z) (some (.tail Z.length none ((rr.length+AE.length)*z)))) (rr++AE) z g 0:=by
  refine OQ (us:=DQ.toList.take ((rr.length+AE.length)*z)) (λr hr=>?_) ?_ (λj u hj=>?_)
  .rcases Ay.1 hr with hr|hr
   .obtain⟨i,hi⟩:=CT hr;exact(hR.get hi).1
   .exact hl r hr
  .rw[aBp,Ln];exact(Bl.mono Er _ _ m).append (Bl.mono Er _ _ hn)
  .rw[Ci] at hj;split at hj;.rename_i hlt;simp only[Gh.Dy,BJ,BW,Af hlt];simpa using hj
   .cases hj
 refine⟨_,Er,⟨hi,⟨hr.fr.size,λs=>?_⟩,hr.DZ.write (g:=g) hB Er AH rfl rfl rfl (λb hb=>⟨setRow_other w g b DQ hb,by simp only[Gh.Dy,Ad hb]⟩),hr.defers,λx cs hx=>C8.mono Er _ _ _ (hr.Hk x cs hx)⟩,
  ⟨⟨g,0,none⟩,cap,AH,by simpa using hroom,.inl rfl,k⟩,.inr ⟨g,rr.length+AE.length,cap,DQ,e,z,rr++AE,rfl,rfl,by simp[Gh.Dy],hB,setRow_heap w g us DQ e (0,0) hg,by rw[aLD,aZ],hroom,hm,hz⟩⟩
 by_cases hs:s=Z.length;.subst hs;rw[BU.Ue];trivial
 .exact(hr.fr.IB s).keptBut FJ hk (by simp only[K0.sX];intro hx;cases hx;exact hs rfl)
def OR{t t' ty:TypeId}{ts:Array TypeId}{xs:Array Value}(h0:ts[0]?=some t)(h1:ts[1]?=some t'):Builtin.append_ ts ty xs=Builtin.append_ #[t,t'] ty xs:=by simp only[Builtin.append_,h0,h1];rfl
def Bl.ù{l:List Aa}{us:List Value}{n:Nat}(h:Bl U l us)(hn:us.length<=n):Bl U l (us.take n):=by rw[AF hn];exact h
def N3{cs:List Aa}{z:Nat}:∀{n off:Nat},(Cz cs z off n).flatten=(cs.drop off).take (n*z)
 |0,off=>by simp[Cz]
 |n+1,off=>by rw[Cz,CZ,N3,BI,D6,PF (n*z) z,aA7,Em]
def Po{cs:List Aa}{z:Nat}:∀{n off:Nat},(Cz cs z off n).length=n
 |0,off=>rfl
 |n+1,off=>by rw[Cz,Bd,Po]
def Rj{cs:List Aa}{z:Nat}:∀{n off:Nat},off+n*z<=cs.length->∀r∈Cz cs z off n,r.length=z
 |0,off,_,r,hr=>by simp[Cz] at hr
 |n+1,off,hl,r,hr=>by
  rw[BI,D6] at hl;rw[Cz,AS] at hr;rcases hr with rfl|hr
  .rw[Ax,Be];omega
  .exact Rj Ac r hr
def XW{t':TypeId}{size:Nat}{u:Aa}{g:Value}{AE:List (List Aa)}(Gs:(∃m,C.P.underlying t'=some (.slice m))\/C.P.underlying t'=some .string)(hi:Hv U h w)(hu:BQ U u g)(hp:Hj h size u=some AE):
  ∃news:List Value,Src C.P size t' g AE.length news w/\Bl U AE.flatten news/\(∀r∈AE,r.length=size):=by
 unfold Hj at hp;split at hp;.cases hp;rw[show g=_ from hu];exact⟨[],⟨Gs,λ_=>rfl,run_firstCells_none w size 0 0 0,run_firstCells_none w.drew size 0 0 0,AH,AH⟩,rfl,AH⟩
 .rename_i z;split at hp;.cases hp;obtain⟨b,ø⟩:=hu;rw[ø];exact⟨[],⟨Gs,λ_=>rfl,run_firstCells_some w _ _ _ _ _ [] AH (λj x hj=>by simp at hj),run_firstCells_some w.drew _ _ _ _ _ [] AH (λj x hj=>by simp at hj),AH,AH⟩,rfl,AH⟩
  .cases hp
 .rename_i z i;split at hp
  .rename_i hz;cases hp;subst hz;obtain⟨f,cap,ø,P1,hsp,hR⟩:=hu;obtain⟨us,k,c,d⟩:=hR.values;have N2:∀(j:Nat) (x:Value),us[j]?=some x->f.add j=⟨f.block,f.off+j,none⟩:=λj x hj=>by
    have hpos:0<AE.length:=by
     rcases Jw AE.length with h0|h0
     .have:us.length=0:=by rw[c,h0,M1]
      rw[C7 this] at hj;simp at hj
     .exact h0
    have tJ:=OH hsp P1 hpos;generalize f.block=b at*;generalize f.off=o at*;subst tJ;unfold Addr.add;split<;>simp_all
   rw[ø];refine⟨us,⟨Gs,λ_=>rfl,run_firstCells_some w _ _ _ _ _ us c (λj x hj=>by rw[N2 j x hj];exact(hi.IF _ _ _ (d j x hj)).1),run_firstCells_some w.drew _ _ _ _ _ us c (λj x hj=>by rw[N2 j x hj];exact(hi.IF _ _ _ (d j x hj)).1),c,λx hx=>?_⟩,k,λr hr=>?_⟩;.obtain⟨j,hj⟩:=CT hx;exact(hi.IF _ _ _ (d j x hj)).2.1
   .obtain⟨j,hj⟩:=CT hr;exact(hR.get hj).1
  .cases hp
 .rename_i s;split at hp
  .rename_i hz;cases hp;subst hz;rw[show g=_ from hu];have hlen:(Ce s).length=(⟨⟨s⟩⟩:ByteArray).size:=by simp[Ce,ByteArray.size]
   have hrel:∀l:List UInt8,Bl U (Ce l).flatten (l.map λb=>Value.int .u8 b.toNat):=by
    intro l;induction l with
    |nil=>rfl
    |cons b l ih=>exact⟨_,_,rfl,rfl,ih⟩
   refine⟨byteCells ⟨⟨s⟩⟩,?_,?_,λr hr=>?_⟩;.rw[hlen];exact⟨Gs,λ_=>rfl,firstCells_string _ w,firstCells_string _ w.drew,by rw[byteCells_length,FI],λu hu=>by obtain⟨_,_,rfl⟩:=Bn.1 hu;rfl⟩
   .simpa[byteCells] using hrel s
   .obtain⟨b,_,rfl⟩:=Bn.1 hr;rfl
  .cases hp
 .rename_i id off n z;split at hp
  .rename_i hz;subst hz;split at hp
   .rename_i cs hcs;split at hp
    .rename_i hl;cases hp;obtain⟨b,cap,hb,ø,P1,qk,Ls⟩:=hu;obtain⟨us,e,fr,k,pf,c,d⟩:=hi.cells id cs hcs b hb;have nC:(us.toList.take cs.length).length=cs.length:=c.length;have Pn:(((us.toList.take cs.length).drop off).take (n*z)).length=n*z:=by rw[Ax,Be,nC];omega
     have N2:∀j,(⟨b,off,none⟩:Addr).add j=⟨b,off+j,none⟩:=λj=>by unfold Addr.add;split<;>simp_all
     have J8:∀(j:Nat) (x:Value),(((us.toList.take cs.length).drop off).take (n*z))[j]?=some x->w.cell? ((⟨b,off,none⟩:Addr).add j)=some x:=λj x hj=>by
      rw[N2,cell_of_row w _ _ us e fr k];rw[Ci] at hj;split at hj
      .rw[Cr,Ci] at hj;split at hj;.simpa using hj
       .cases hj
      .cases hj
     rw[ø,Po];refine⟨((us.toList.take cs.length).drop off).take (n*z),⟨Gs,λ_=>rfl,run_firstCells_some w _ _ _ _ _ _ Pn J8,run_firstCells_some w.drew _ _ _ _ _ _ Pn (λj x hj=>J8 j x hj),Pn,λx hx=>d x (BD (Bp hx))⟩,?_,Rj hl⟩;rw[N3];exact(c.drop off).take (n*z)
    .cases hp
   .cases hp
  .cases hp
 .cases hp
def Pp{o:Oper}{c:Call}{t t' e:TypeId}{n b:Nat}{s x:Operand}{v u r:Aa}{AE:List (List Aa)}{news:List Value}(ho:o.op= .call c)(hc:c.callee= .builtin .append)(h0:c.argTypes[0]?=some t)(h1:c.argTypes[1]?=some t')(ET:c.args.toList=[s,x])(ht:C.P.underlying t=some (.slice e))
  (Gs:(∃G,C.P.underlying t'=some (.slice G))\/C.P.underlying t'=some .string) (Ls:B4 C.P e=some (n+1)) (ue:Kq C.P e=some (b+1)) (FJ:LF C Z s=true) (nD:MA C.P e=true) (hv:BB C Z [s,x]=some [v,u])
  (GC:DM (n+1) (b+1) v AE=some r) (KU:Src C.P (n+1) t' (a.eval x) AE.length news w) (WD:Bl U AE.flatten news) (sJ:∀q∈AE,q.length=n+1) (hr:Df C U0 w0 U O Z h a w):F9 C U0 w0 o a w ((Z.DR (Ds Z s)).put o.dst (.Bs r)) h:=by
 obtain⟨i,z,hi,hz,eQ⟩:=LL nD;have Q5:=Ka Ls hi;have F:=Mi ue hi;obtain⟨_,_,e0,hvs,sK⟩:=Fh hr hv;cases e0;have ö:E6 C Z s=some v:=by
  unfold BB at hv;split at hv;.rename_i p ps B I;cases hv;exact B
  .cases hv
 obtain⟨U1,Er,KQ,DH,M⟩:=P0 hr FJ ö (Z.DR (Ds Z s)).length none;have uf:=Bl.mono Er _ _ WD;have KR:c.args.map a.eval=#[a.eval s,a.eval x]:=by apply HM;simp[ET]
 have Nb:∀v' w',(Builtin.append_ #[t,t'] o.type #[a.eval s,a.eval x]).run C.P w= .ok v' w'->(execOp a.eval o).run C.P w= .ok (.value v') w':=λv' w' A3=>by
  have:execOp a.eval o=(do pure (Next.value (<-Builtin.append_ #[t,t'] o.type #[a.eval s,a.eval x]))):=by rw[<-KR,<-OR (ty:=o.type) h0 h1];simp only[execOp,ho,resolve,hc];rfl
  rw[this];exact DJ A3
 have Ku:Src C.P i.size t' (a.eval x) AE.length news w:=by rw[Q5];exact KU
 have Pn:news.length=AE.length*(n+1):=KU.newsLen;have JT:∀(base:Option Addr) (k cap:Nat) (rr:List (List Aa)) (olds:List Value),a.eval s= .slice base k cap->rr.length=k->(∀q∈rr,q.length=n+1)->Bl U1 rr.flatten olds->(∀q∈olds,q.oneCell'=true)->
   (Builtin.firstCells i.size k (.slice base k cap)).run C.P w.drew= .ok olds.toArray w.drew->cap<k+AE.length->(k+AE.length)*(b+1)<=AW->r= .sl (n+1) (rr++AE)->
   F9 C U0 w0 o a w ((Z.DR (Ds Z s)).put o.dst (.Bs r)) h:=by
  intro base k cap rr olds hs hk m ql E d hlt QH Vb;have RP:k+AE.length<=AW:=Br (I1 _ (Dc b)) QH;have Gj:=run_append_grow_src (P:=C.P) w t t' o.type e i z ht hi hz base k cap olds d (a.eval x) AE.length news Ku hlt (by simp only[AW] at RP;omega) (by rw[F];exact growslice_fits hlt QH);rw[<-hs] at Gj;have Eh:=grownCap_ge w (k+AE.length) cap e;have aLE:olds.length=k*(n+1):=by rw[ql.length,HD m,hk]
  have jv:(olds++news).length=(k+AE.length)*(n+1):=by rw[Au,aLE,Pn,BI]
  obtain⟨R,oB,Mh,Ud,l⟩:=KQ.drew.XT ((olds++news).toArray++Builtin.zeroCells z.cells (grownCap w (k+AE.length) cap e-(k+AE.length))) e (z:=n+1) (n:=k+AE.length) (cap:=grownCap w (k+AE.length) cap e) (AE:=rr++AE) (Dc n) (by simp[hk])
   (λq hq=>(Ay.1 hq).elim (m q) (sJ q))
   (by simp only[Kl,B9,size_zeroCells,eQ,Q5,jv,<-BI];congr 1;omega) Eh (grownCap_le_maxLen w _ _ _ (by simp only[AW] at RP;simp only[maxLen];omega))
   (by simp only[Hg,Ln];rw[<-jv,FD];exact ql.append uf)
   (λq hq=>by simp only[Hg] at hq;rw[<-jv,FD,Ay] at hq;exact hq.elim (E q) (KU.one q))
  rw[Vb];obtain⟨Q,f⟩:=Mh.XS Ud l o.dst;exact F9.value (Nb _ _ Gj) f
 rcases M with(rfl|⟨A,rfl⟩)|⟨g,k,cap,us,J,A,rr,rfl,JV,TX,hB,hg,aZ,ú,hm,L⟩
 .have JV:a.eval s= .slice none 0 0:=DH;cases AE with
  |nil=>
   have Vb:r= .slnil:=by simpa[DM] using GC.symm
   have zB:news=[]:=C7 (by simpa using Pn);subst zB;have A3:(Builtin.append_ #[t,t'] o.type #[a.eval s,a.eval x]).run C.P w= .ok (.slice none 0 0) w:=by rw[JV];have hl:=Ku.len;have WE:=Ku.cells;simp only[BR] at hl WE;rcases Gs with⟨G,hk⟩|hk<;>simp[Builtin.append_,run_underlying ht,run_underlying hk,sizeOf,typeInfo,hi,hl,WE]
   rw[Vb];exact F9.value (Nb _ _ A3) (KQ.put λ_ _=>⟨rfl,.inl (.inl rfl)⟩)
  |cons q AE=>
   have P2:r= .sl (n+1) (q::AE)/\(q::AE).length*(b+1)<=AW:=by
    simp only[DM] at GC;split at GC;.rename_i hb;cases GC;exact⟨rfl,hb⟩
    .cases GC
   exact JT none 0 0 [] [] JV rfl AH rfl AH (run_firstCells_none _ _ _ _ _) AH (by simpa using P2.2) (by simpa using P2.1)
 .obtain⟨g,JV⟩:=id DH;cases AE with
  |nil=>
   have Vb:A=n+1/\r= .Gl A:=by
    simp only[DM] at GC;split at GC;.rename_i ZV;cases GC;exact⟨ZV,by rw[ZV]⟩
    .cases GC
   obtain⟨rfl,Vb⟩:=Vb;have zB:news=[]:=C7 (by simpa using Pn);subst zB;have A3:(Builtin.append_ #[t,t'] o.type #[a.eval s,a.eval x]).run C.P w= .ok (.slice (some ⟨g,0,none⟩) 0 0) w:=by rw[JV];have hl:=Ku.len;have WE:=Ku.cells;simp only[BR] at hl WE;rcases Gs with⟨G,hk⟩|hk<;>simp[Builtin.append_,run_underlying ht,run_underlying hk,sizeOf,typeInfo,hi,hl,WE,storeCells,Result.andThen]
   rw[Vb];exact F9.value (Nb _ _ A3) (KQ.put λ_ _=>⟨⟨g,rfl⟩,.inl (.inr ⟨_,rfl⟩)⟩)
  |cons q AE=>
   have P2:r= .sl (n+1) (q::AE)/\(q::AE).length*(b+1)<=AW:=by
    simp only[DM] at GC;split at GC;.rename_i hb;cases GC;exact⟨rfl,hb.2⟩
    .cases GC
   exact JT (some ⟨g,0,none⟩) 0 0 [] [] JV rfl AH rfl AH (run_firstCells_some w.drew _ _ _ _ _ [] AH (λj x hj=>by simp at hj)) AH (by simpa using P2.2) (by simpa using P2.1)
 .obtain⟨N,K,oD,P1,_,hR⟩:=id DH;rw[JV] at oD;simp only[Value.slice.injEq,BC] at oD;obtain⟨rfl,hk,rfl⟩:=oD;subst hk;simp only at hR;have D:A=n+1/\r= .sl (n+1) (rr++AE)/\(AE=[]\/(rr.length+AE.length)*(b+1)<=AW):=by
   cases AE with
   |nil=>
    simp only[DM] at GC;split at GC;.rename_i ZV;cases GC;exact⟨ZV,by simp[ZV],.inl rfl⟩
    .cases GC
   |cons q AE=>
    simp only[DM] at GC;split at GC;.rename_i ZV;cases GC;exact⟨ZV.1,rfl,.inr ZV.2⟩
    .cases GC
  obtain⟨rfl,Vb,QH⟩:=D;by_cases hroom:rr.length+AE.length<=cap
  .have hfit:rr.length*(n+1)+news.length<=us.size:=by rw[Pn,aZ,<-BI];exact DW _ hroom
   have A3:=run_append_room_src (P:=C.P) w t t' o.type e i ht hi g 0 rr.length cap (a.eval x) AE.length news Ku hroom (λj hj=>by rw[cell_of_row w _ _ us J (0,0) hg,Q5,CV Ac];rfl) (λj hj=>frozen_of_row w _ _ us J hg)
   rw[BW,Q5,ES news _ us w hg hfit,<-JV] at A3;rw[JV] at DH;obtain⟨R,oB,Mh,Ud,l⟩:=KQ.ud TX hB hg aZ hm (Dc n) DH sJ uf KU.one hroom;obtain⟨Q,f⟩:=Mh.XS Ud l o.dst;rw[Vb];exact F9.value (Nb _ _ A3) f
  .obtain⟨vs,B,I,H⟩:=hR.values;have N2:∀j,(⟨g,0,none⟩:Addr).add j=⟨g,0+j,none⟩:=λj=>by unfold Addr.add;split<;>simp_all
   refine JT (some ⟨g,0,none⟩) rr.length cap rr vs JV rfl (λq hq=>?_) B (λq hq=>?_) ?_ Ac ?_ Vb;.obtain⟨j,hj⟩:=CT hq;exact(hR.get hj).1
   .obtain⟨j,hj⟩:=CT hq;exact(KQ.D5.IF _ _ _ (H j q hj)).2.1
   .rw[Q5];exact run_firstCells_some w.drew _ _ _ _ _ vs I (λj y hj=>by rw[N2];exact(KQ.D5.IF _ _ _ (H j y hj)).1)
   .rcases QH with rfl|QH
    .simp at hroom;omega
    .exact QH
def tT{o:Oper}{c:Call}{t t' e:TypeId}{n b:Nat}{s x:Operand}{v u r:Aa}(ho:o.op= .call c)(hc:c.callee= .builtin .append)(h0:c.argTypes[0]?=some t)(h1:c.argTypes[1]?=some t')(ET:c.args.toList=[s,x])(ht:C.P.underlying t=some (.slice e))
  (Gs:(∃d,C.P.underlying t'=some (.slice d))\/C.P.underlying t'=some .string) (Ls:B4 C.P e=some (n+1)) (ue:Kq C.P e=some (b+1)) (FJ:LF C Z s=true) (nD:MA C.P e=true) (hv:BB C Z [s,x]=some [v,u])
  (hp:AD (.append (n+1) (b+1)) [v,u]=some r) (hr:Df C U0 w0 U O Z h a w):F9 C U0 w0 o a w ((Z.DR (Ds Z s)).put o.dst (.Bs r)) h:=by
 obtain⟨_,_,e0,hvs,sK⟩:=Fh hr hv;cases e0;simp only[AD] at hp;obtain⟨AE,news,GC,KU,WD,sJ⟩:=zF (w:=w) Gs hr.D5 sK hp;exact Pp ho hc h0 h1 ET ht Gs Ls ue FJ nD hv GC KU WD sJ hr
def oE{o:Oper}{c:Call}{t t' e:TypeId}{n b:Nat}{s x:Operand}{v u r:Aa}(ho:o.op= .call c)(hc:c.callee= .builtin .append)(h0:c.argTypes[0]?=some t)(h1:c.argTypes[1]?=some t')(ET:c.args.toList=[s,x])(ht:C.P.underlying t=some (.slice e))
  (Gs:(∃d,C.P.underlying t'=some (.slice d))\/C.P.underlying t'=some .string) (Ls:B4 C.P e=some (n+1)) (ue:Kq C.P e=some (b+1)) (FJ:LF C Z s=true) (nD:MA C.P e=true) (hv:BB C Z [s,x]=some [v,u])
  (hp:Rh h (n+1) (b+1) v u=some r) (hr:Df C U0 w0 U O Z h a w):F9 C U0 w0 o a w ((Z.DR (Ds Z s)).put o.dst (.Bs r)) h:=by
 obtain⟨_,_,e0,hvs,sK⟩:=Fh hr hv;cases e0;unfold Rh at hp;cases hq:Hj h (n+1) u with
 |none=>rw[hq] at hp;cases hp
 |some AE=>rw[hq] at hp;obtain⟨news,KU,WD,sJ⟩:=XW (w:=w) Gs hr.D5 sK hq;exact Pp ho hc h0 h1 ET ht Gs Ls ue FJ nD hv hp KU WD sJ hr
end
section
variable{C:Gb}{γ0 γ γ':Gh}{w0 w w':World}{Z:Nat->Nat}{U:BU}{h:Ai}{a:Act}{fid:FuncId}{ops:List Oper}
def SZ:∀s:Aj,(Ce s).flatten=s.map λb=>Aa.int .u8 b.toNat
 |[]=>rfl
 |_::s=>by have:=SZ s;simp only[Ce,Bj,CZ] at this⊢;rw[this];rfl
def MF(γ:Gh):∀l:Aj,Bl γ (Ce l).flatten (l.map λb=>Value.int .u8 b.toNat)
 |[]=>rfl
 |_::l=>⟨_,_,rfl,rfl,MF γ l⟩
def Lu(s:Aj)(cap:Nat):(bytesRow ⟨⟨s⟩⟩ cap).toList.take s.length=s.map λb=>Value.int .u8 b.toNat:=by have:(s.map λb=>Value.int .u8 (b.toNat:Int)).length=s.length:=AH;simp only[bytesRow,Hg,NO];rw[<-this];exact FD
def eR(s:Aj):(⟨⟨s⟩⟩:ByteArray).size=s.length:=by simp[ByteArray.size]
def û{o:Oper}{src dst e:TypeId}{x:Operand}{v u:Aa}(ho:o.op= .convert src dst x)(hs:C.P.underlying src=some .string)(hd:C.P.underlying dst=some (.slice e))(he:C.P.underlying e=some (.int .u8))(hx:BB C U [x]=some [v])(hp:AD .s2b [v]=some u)(hr:Df C γ0 w0 γ Z U h a w):
  F9 C γ0 w0 o a w (U.put o.dst (.val u)) h:=by
 obtain⟨_,e0,hv⟩:=GY hr hx;cases e0;simp only[AD] at hp;split at hp
 .rename_i s KR;cases KR;split at hp
  .cases hp;have A3:=run_bytes_of_string (P:=C.P) w src dst e ⟨⟨s⟩⟩ hs hd he;rw[<-OL hv] at A3;have c:=grownCap_ge w s.length 0 e;rw[eR] at A3;obtain⟨hi,ha⟩:=PT hr.drew.D5 (bytesRow ⟨⟨s⟩⟩ (grownCap w s.length 0 e)) e ((bytesRow ⟨⟨s⟩⟩ (grownCap w s.length 0 e)).size,(bytesRow ⟨⟨s⟩⟩ (grownCap w s.length 0 e)).size+1) s.length none (λo u ho hu=>by have hm:u∈(bytesRow ⟨⟨s⟩⟩ (grownCap w s.length 0 e)).toList.take s.length:=CC (i:=o) (by rw[C3 ho];simpa using hu);rw[Lu] at hm;obtain⟨b,_,rfl⟩:=Bn.1 hm;rfl) (.inl rfl)
   have Gc:=hr.drew.Jj hi ha;refine F9.value (v:= .slice (some ⟨w.heap.size,0,none⟩) s.length (grownCap w s.length 0 e)) (by simp only[execOp,ho];exact DJ A3) (Gc.put λ_ _=>⟨⟨w.heap.size,0,none⟩,grownCap w s.length 0 e,by simp[Ce],by simpa[Ce] using c,.inl rfl,?_⟩);refine OQ (us:=s.map λb=>Value.int .u8 b.toNat) (λr hr=>?_) (MF _ s) (λj u hj=>?_);.obtain⟨b,_,rfl⟩:=Bn.1 hr;rfl
   .rw[<-Lu s (grownCap w s.length 0 e),Ci] at hj;split at hj;.rename_i hlt;simp only[Gh.Dy,heap_drew,BJ,BW,Af hlt];simpa using hj
    .cases hj
  .cases hp
 .cases hp
def eS{o:Oper}{src dst e:TypeId}{x:Operand}{v u:Aa}{h':Ai}(ho:o.op= .convert src dst x)(hs:C.P.underlying src=some .string)(hd:C.P.underlying dst=some (.slice e))(he:C.P.underlying e=some (.int .u8))(hx:E6 C U x=some v)(hp:I4 h v=some (h',u))(hr:Df C γ0 w0 γ Z U h a w):
  F9 C γ0 w0 o a w (U.put o.dst (.val u)) h':=by
 have hv:=GS hr hx;unfold I4 at hp;split at hp
 .rename_i s;split at hp
  .cases hp;have A3:=run_bytes_of_string (P:=C.P) w src dst e ⟨⟨s⟩⟩ hs hd he;rw[<-OL hv] at A3;have c:=grownCap_ge w s.length 0 e;rw[eR] at A3;have hl:(s.map λb=>Aa.int .u8 b.toNat).length=s.length:=AH;have d:(bytesRow ⟨⟨s⟩⟩ (grownCap w s.length 0 e)).size=grownCap w s.length 0 e:=by have e0:ByteArray.size ⟨⟨s⟩⟩=s.length:=eR s;simp only[bytesRow,Kl,Array.size_map,Array.size_replicate,e0];simp only[B9];omega
   have sL:s.length<=maxLen:=by
    have sL:s.length<=AW:=by assumption
    simp only[AW] at sL;simp only[maxLen];omega
   obtain⟨γ',Er,hm,Gc,Ls⟩:=hr.drew.newObj (bytesRow ⟨⟨s⟩⟩ (grownCap w s.length 0 e)) e ((bytesRow ⟨⟨s⟩⟩ (grownCap w s.length 0 e)).size,(bytesRow ⟨⟨s⟩⟩ (grownCap w s.length 0 e)).size+1) (s.map λb=>Aa.int .u8 b.toNat) (.inr (Ag _))
    (by rw[hl,Lu];have:=MF γ s;rw[SZ] at this;exact this)
    (λu hu=>by rw[hl,Lu] at hu;obtain⟨b,_,rfl⟩:=Bn.1 hu;rfl)
   exact F9.value (v:= .slice (some ⟨w.heap.size,0,none⟩) s.length (grownCap w s.length 0 e)) (by simp only[execOp,ho];exact DJ A3) (Gc.put λ_ _=>⟨w.heap.size,_,hm,rfl,c,⟨Dc 0,grownCap_le_maxLen w _ _ _ sL⟩,by rw[BW,FI,<-d];exact Ls⟩)
  .cases hp
 .cases hp
def Iu{O:Type}(l:List O):∀(c j:Nat),j<c*l.length->(List.replicate c l).flatten[j]?=l[j%l.length]?
 |0,j,h=>by simp at h
 |c+1,j,h=>by
  have h':j<c*l.length+l.length:=by rw[BI] at h;omega
  rw[Lo,CZ];by_cases hj:j<l.length;.rw[Ak hj,Nat.mod_eq_of_lt hj]
  .rw[Bk Ac,Iu l c _ Ac,show j%l.length=(j-l.length)%l.length from Nat.mod_eq_sub_mod Ac]
def ug{o:Oper}{t e:TypeId}{l c:Operand}{n b:Nat}{z:Aa}{D vc u:Aa}{h':Ai}(ho:o.op= .makeSlice t l c)(ht:C.P.underlying t=some (.slice e))(Ls:B4 C.P e=some (n+1))(ue:Kq C.P e=some (b+1))(hz:Hl C.P e=some z)(hl:E6 C U l=some D)(hc:E6 C U c=some vc)
  (hm:SH h (n+1) (b+1) z.cells D vc=some (h',u)) (hr:Df C γ0 w0 γ Z U h a w):F9 C γ0 w0 o a w (U.put o.dst (.val u)) h':=by
 unfold SH at hm;split at hm
 .rename_i k m;split at hm
  .rename_i Ic;obtain⟨K,J,I,B⟩:=Ic;cases hm;unfold Hl at hz;cases hi:C.P.info? e with
   |none=>rw[hi] at hz;cases hz
   |some i=>
    rw[hi] at hz;cases qm:i.zero with
    |none=>simp[qm] at hz
    |some f=>
     simp only[Ct,qm] at hz;have Q5:=Ka Ls hi;have A:=Mi ue hi;obtain⟨E,G⟩:=HB (γ:=γ) (Fv hz) Ac;have eQ:f.cells.size=n+1:=by have:=E.length;simp at this;omega
     have q:m.toNat*(b+1)<=AW:=I;have g:m.toNat<=AW:=Br (I1 m.toNat (Dc b)) q;have A3:=run_make (P:=C.P) w t e i f ht hi qm .i64 .i64 k m K J (by
      rw[A];have H:((b+1:Nat):Int)*m=((m.toNat*(b+1):Nat):Int):=by rw[Int.natCast_mul,Hh Ac,Int.mul_comm]
      rw[H];simp only[AW] at q;omega) (by simp only[AW] at g;omega)
     rw[<-EE (GS hr hl),<-EE (GS hr hc)] at A3;have hlen:((List.replicate m.toNat z.cells).flatten).length=m.toNat*(n+1):=by rw[HD (z:=n+1) (λr hr=>by rw[aA8 hr,B]),F8]
     have p:∀(j:Nat) (u:Value),(madeCells f.cells (m.toNat*i.size)).toList[j]?=some u->j<m.toNat*(n+1)/\f.cells.toList[j%(n+1)]?=some u:=by
      intro j u hj;have bK:j<m.toNat*(n+1):=by have:=(An.1 hj).1;simpa[size_madeCells,Q5] using this
      refine⟨bK,?_⟩;have aCU:j%(n+1)<f.cells.size:=by rw[eQ];exact Nat.mod_lt _ (Dc n)
      simp only[madeCells,NO,Cn] at hj;have d:(Array.range (m.toNat*i.size)).toList[j]?=some j:=by simp[Q5,bK]
      rw[d] at hj;simp only[BY,BC] at hj;rw[eQ] at hj;rw[<-hj];simp[aCU]
     have F:Bl γ (List.replicate m.toNat z.cells).flatten (madeCells f.cells (m.toNat*i.size)).toList:=by refine Bl.Hm (by simp[hlen,size_madeCells,Q5]) λj x u hx hu=>?_;obtain⟨bK,y⟩:=p j u hu;rw[Iu z.cells _ _ (by rw[B];exact bK),B] at hx;obtain⟨L,sI,s⟩:=E.get hx;rw[y] at sI;cases sI;exact s
     obtain⟨γ',Er,v,Gc,aLH⟩:=hr.newObj (madeCells f.cells (m.toNat*i.size)) e (0,0) (List.replicate m.toNat z.cells).flatten (.inl rfl) (F.ù (by rw[F.length];exact Ag _)) (λu hu=>by obtain⟨j,hj⟩:=CT (Bp hu);exact G u (CC (p j u hj).2))
     exact F9.value (by simp only[execOp,ho];exact DJ A3) (Gc.put λ_ _=>⟨w.heap.size,m.toNat,v,rfl,Ac,⟨Dc n,by simp only[AW] at g;simp only[maxLen];omega⟩,by rw[aLH,size_madeCells,Q5,BW]⟩)
  .cases hm
 .cases hm
def Df.aGi(hr:Df C γ0 w0 γ Z U h a w){g:Nat}(FJ:γ.Bs g=some (.tail U.length none 0))(hB:w0.heap.size<=g){us:Array Value}{e:TypeId}(hg:w.heap[g]?=some (.cells us e (0,0)))(DQ:Array Value)(cs:List Aa)
  (hv:Bl γ cs (DQ.toList.take cs.length)) (h1:∀u∈DQ.toList.take cs.length,u.oneCell'=true):∃γ',γ.le γ'/\γ'.mu h.length=some g/\Df C γ0 w0 γ' Z U (h++[.cells cs]) a (w.setRow g DQ)/\γ'.sz g=some DQ.size:=by
 have f:γ.mu h.length=none:=by
  cases hc:γ.mu h.length with
  |none=>rfl
  |some y=>exact absurd (hr.D5.mu _ y hc) (Dm _)
 have Ls:γ.sz g=none:=by
  cases hc:γ.sz g with
  |none=>rfl
  |some y=>obtain⟨_,r⟩:=hr.D5.sz g y hc;rw[FJ] at r;rcases r with r|⟨_,r⟩<;>cases r
 have Er:γ.le (γ.B2 g h.length (some DQ.size)):=⟨λ_ _ _ hv=>hv,λid b hm=>by
  have:id≠h.length:=λhe=>by rw[he,f] at hm;cases hm
  simp only[Gh.B2,Ad this];exact hm,λb n hm=>by
  have:b≠g:=λhe=>by rw[he,Ls] at hm;cases hm
  simp only[Gh.B2,Ad this];exact hm⟩
 have aCP:∀b n,(γ.B2 g h.length (some DQ.size)).sz b=some n->(∃us e fr,(w.setRow g DQ).heap[b]?=some (.cells us e fr)/\us.size=n)/\((γ.B2 g h.length (some DQ.size)).Bs b=none\/∃id,(γ.B2 g h.length (some DQ.size)).Bs b=some (.MC id)):=λb n hb=>by
  by_cases he:b=g;.subst he;simp only[Gh.B2,BJ] at hb;cases hb;exact⟨⟨DQ,e,(0,0),setRow_heap w b us DQ e (0,0) hg,rfl⟩,.inr ⟨h.length,by simp[Gh.B2]⟩⟩
  .simp only[Gh.B2,Ad he] at hb⊢;obtain⟨p,r⟩:=hr.D5.sz b n hb;exact⟨by rw[setRow_other w g b DQ he];exact p,r⟩
 have hne:∀b id,γ.Bs b=some (.MC id)->b≠g:=λb id hb he=>by rw[he,FJ] at hb;cases hb
 have hk:QG g γ w (γ.B2 g h.length (some DQ.size)) (w.setRow g DQ):=⟨Er,λb x hb hx _=>⟨by simp only[Gh.B2,Ad hb];exact hx,setRow_other w g b DQ hb⟩⟩;refine⟨_,Er,by simp[Gh.B2],⟨⟨λb o v hb=>?_,λid y Im hy=>?_,λid Hi hc b hb=>?_,λid es hc b hb=>?_,λid b hb=>?_,λb y hy=>?_,aCP⟩,⟨hr.fr.size,λs=>?_⟩,hr.DZ.write (g:=g) hB Er AH rfl rfl rfl (λb hb=>⟨setRow_other w g b DQ hb,by simp only[Gh.B2,Ad hb]⟩),hr.defers,λx Hi hx=>C8.mono Er _ _ _ (hr.Hk x Hi hx)⟩,by simp[Gh.B2]⟩
 .obtain⟨p,q,r⟩:=hr.D5.IF b o v hb;have OJ:b≠g:=λhe=>by
   subst he;rw[FJ] at r;rcases r with r|⟨_,_,_,r,hl⟩
   .cases r
   .cases r;omega
  exact⟨by rw[CU (setRow_other w g b DQ OJ)];exact p,q,by simp only[Gh.B2,Ad OJ];exact r⟩
 .by_cases he:id=h.length;.exact⟨g,by simp[Gh.B2,he],by simp[Gh.B2,he]⟩
  .have XI:id<h.length:=by rw[An] at Im;obtain⟨hl,_⟩:=Im;simp at hl;omega
   rw[Ak XI] at Im;obtain⟨b,p,q⟩:=hr.D5.MC id y Im hy;exact⟨b,by simp only[Gh.B2,Ad he];exact p,by simp only[Gh.B2,Ad (hne b id q)];exact q⟩
 .by_cases he:id=h.length;.subst he;simp[Gh.B2] at hb;subst hb;simp at hc;subst hc;exact⟨DQ,e,(0,0),setRow_heap w g us DQ e (0,0) hg,.inl rfl,Bl.mono Er _ _ hv,h1⟩
  .simp only[Gh.B2,Ad he] at hb;have XI:=hr.D5.mu id b hb;rw[Ak XI] at hc;obtain⟨b',c,d⟩:=hr.D5.MC id _ hc AH;rw[hb] at c;cases c;obtain⟨tC,i,tj,p,pf,q,r⟩:=hr.D5.cells id Hi hc b hb;exact⟨tC,i,tj,by rw[setRow_other w g b DQ (hne b id d)];exact p,pf,Bl.mono Er _ _ q,r⟩
 .by_cases he:id=h.length;.subst he;simp at hc
  .simp only[Gh.B2,Ad he] at hb;have XI:=hr.D5.mu id b hb;rw[Ak XI] at hc;obtain⟨b',c,d⟩:=hr.D5.MC id _ hc AH;rw[hb] at c;cases c;obtain⟨DB,clock,p,q⟩:=hr.D5.map id es hc b hb;exact⟨DB,clock,by rw[setRow_other w g b DQ (hne b id d)];exact p,q.mono Er⟩
 .by_cases he:id=h.length;.simp[he]
  .simp only[Gh.B2,Ad he] at hb;have:=hr.D5.mu id b hb;simp;omega
 .by_cases OJ:b=g;.subst OJ;have:=hr.D5.Bs _ _ FJ;simpa using this
  .simp only[Gh.B2,Ad OJ] at hy;have:=hr.D5.Bs b y hy;simpa using this
 .by_cases hs:s=U.length;.subst hs;rw[BU.Ue];trivial
  .exact(hr.fr.IB s).keptBut FJ hk (by simp only[K0.sX];intro hx;cases hx;exact hs rfl)
def Df.PH(hr:Df C γ0 w0 γ Z U h a w){v v':Aa}{u:Value}{h':Ai}(hv:BQ γ v u)(hf:KT h v=some (h',v')):∃γ',γ.le γ'/\Df C γ0 w0 γ' Z U h' a w/\BQ γ' v' u:=by
 unfold KT at hf;split at hf
 .rename_i id off n z;obtain⟨b,cap,hb,hu,hc,hz,Ls⟩:=hv;split at hf
  .rename_i cs hcs;split at hf
   .rename_i hl;cases hf;obtain⟨us,e,fr,q,pf,p,m⟩:=hr.D5.cells id cs hcs b hb;obtain⟨hi,ha⟩:=tk hr.D5 hcs hb q m;have sJ:∀(k o:Nat),(Cz cs z o k).length=k:=by
     intro k;induction k with
     |zero=>intro o;rfl
     |succ k ih=>intro o;simp[Cz,ih]
    have d:∀(k o i:Nat) (r:List Aa),(Cz cs z o k)[i]?=some r->i<k/\r=(cs.drop (o+i*z)).take z:=by
     intro k;induction k with
     |zero=>intro o i r h;simp[Cz] at h
     |succ k ih=>
      intro o i r h;cases i with
      |zero=>simp[Cz] at h;exact⟨Dc _,by simpa using h.symm⟩
      |succ i=>simp[Cz] at h;obtain⟨l,g⟩:=ih _ _ _ h;exact⟨Ac,by rw[g];congr 2;rw[BI];omega⟩
    refine⟨_,ha.le,hr.Jj hi ha,⟨b,off,none⟩,cap,by rw[sJ];exact hu,by rw[sJ];exact hc,.inl rfl,E7.Hm λi r f=>?_⟩;obtain⟨l,rfl⟩:=d n off i r f;have t:i*z+z<=n*z:=by have:=DW z (Ac:i+1<=n);rwa [BI,D6] at this
    refine⟨Ei,C8.Hm λj x hj=>?_⟩;rw[Ci] at hj;split at hj;.rename_i s;rw[Cr] at hj;obtain⟨y,hy,c⟩:=p.get hj;have hlt:off+i*z+j<cs.length:=(An.1 hj).1;refine⟨y,?_,BQ.mono ha.le _ _ c⟩;simp only[Gh.Dy,BJ,Af hlt];rw[C3 hlt] at hy;simpa using hy
    .cases hj
   .cases hf
  .cases hf
 .cases hf;exact⟨γ,.refl _,hr,hv⟩
def S0:∀{AE:List (List Aa)} {s:Aj},Nd AE=some s->∃ns:List Int,AE=ns.map (λn=>[.int .u8 n])/\s=ns.map λn=>UInt8.ofNat n.toNat
 |[],s,hs=>by cases hs;exact⟨[],rfl,rfl⟩
 |r::AE,s,hs=>by
  unfold Nd at hs;split at hs;.rename_i KR;cases KR
  .rename_i n rs KR;cases KR;cases hq:Nd AE with
   |none=>rw[hq] at hs;cases hs
   |some l=>rw[hq] at hs;cases hs;obtain⟨ns,rfl,rfl⟩:=S0 hq;exact⟨n::ns,rfl,rfl⟩
  .cases hs
def XX:∀(ns:List Int) (r:ByteArray),ns.foldl (λr n=>r.push (UInt8.ofNat n.toNat)) r=⟨r.data++(ns.map λn=>UInt8.ofNat n.toNat).toArray⟩
 |[],r=>AH
 |n::ns,r=>by rw[qe,XX ns];simp[ByteArray.push]
def ü{o:Oper}{src dst e:TypeId}{x:Operand}{v v' u:Aa}{h':Ai}(ho:o.op= .convert src dst x)(hs:C.P.underlying src=some (.slice e))(hd:C.P.underlying dst=some .string)(he:C.P.underlying e=some (.int .u8))(hx:E6 C U x=some v)(hf:KT h v=some (h',v'))(hp:AD .Xr [v']=some u)
  (hr:Df C γ0 w0 γ Z U h a w):F9 C γ0 w0 o a w (U.put o.dst (.val u)) h':=by
 obtain⟨γ',Er,Gc,DH⟩:=hr.PH (GS hr hx) hf;have Nb:∀s,(Conv.bytesToString (a.eval x)).run C.P w= .ok s w->(∃p l c,a.eval x= .slice p l c)->(execOp a.eval o).run C.P w= .ok (.value s) w:=λs A3 ⟨p,l,c,sL⟩=>by simp only[execOp,ho];refine DJ ?_;rw[sL] at A3⊢;rw[run_convert_bytes_string w src dst e p l c hs he hd];exact A3
 simp only[AD] at hp;unfold Xt at hp;split at hp
 .rename_i AE;cases hq:Nd AE with
  |none=>rw[hq] at hp;cases hp
  |some s=>
   rw[hq] at hp;cases hp;obtain⟨ns,rfl,rfl⟩:=S0 hq;obtain⟨d,cap,sL,hc,hsp,hR⟩:=DH;have N2:∀(j:Nat) (v:Value),(ns.map (Value.int .u8))[j]?=some v->d.add j=⟨d.block,d.off+j,none⟩:=λj v hj=>by
    have hpos:0<ns.length:=by have:=(An.1 hj).1;simp at this;omega
    have tJ:=OH hsp hc (by simpa using hpos);generalize d.block=b at*;generalize d.off=o at*;subst tJ;unfold Addr.add;split<;>simp_all
   have hl:=run_loadCells_list (P:=C.P) w d (ns.map (Value.int .u8)) (λj v hj=>by
    rw[N2 j v hj];simp only[Cn] at hj;cases hn:ns[j]? with
    |none=>rw[hn] at hj;cases hj
    |some n=>rw[hn] at hj;cases hj;obtain⟨_,m⟩:=hR.get (i:=j) (r:=[.int .u8 n]) (by simp[hn]);obtain⟨y,hy,g⟩:=m.get (i:=0) (a:= .int .u8 n) rfl;rw[show y=_ from g] at hy;have:=(Gc.D5.IF _ _ _ hy).1;simpa using this)
   simp only[Ao] at hl;have A3:=run_bytesToString (P:=C.P) w d ns.length cap ns hl;have k:ByteArray.empty.data=#[]:=rfl;rw[XX,k,Array.empty_append] at A3;have f:a.eval x= .slice (some d) ns.length cap:=by rw[sL];simp
   rw[<-f] at A3;exact F9.value (Nb _ A3 ⟨_,_,_,f⟩) (Gc.put λ_ _=>rfl)
 .cases hp;have f:a.eval x= .slice none 0 0:=DH;have A3:(Conv.bytesToString (a.eval x)).run C.P w= .ok (.string ⟨⟨[]⟩⟩) w:=by rw[f];simp[Conv.bytesToString];rfl
  exact F9.value (Nb _ A3 ⟨_,_,_,f⟩) (Gc.put λ_ _=>rfl)
 .cases hp
def uh(C:Gb)(f:FuncId):Prop:=
 (∃fn c,C.P.funcs[f]?=some fn/\(fn.name== "runtime.NumGoroutine")=false/\fn.body=some c)/\
 ∀(γ:Gh) (h:Ai) (w:World) (s:Aa) (d:Value) (i x:Int) (h':Ai) (r:Aa) (g b:Nat) (us:Array Value) (e:TypeId),Hv γ h w->BQ γ s d->QC h [s,.int .i64 i,.sl 1 [[.int .i64 x]]]=some (h',r)->
  w.heap[g]?=some (.cells us e (0,0))->us[0]?=some (.int .i64 x)->(∀id,γ.Bs g≠some (.MC id))->1<=b->us.size=b->
  Calls C.P f #[d,.int .i64 i,.slice (some ⟨g,0,none⟩) 1 b] w λe w'=>match e with
   | .returned v=>∃γ',Hv γ' h' w'/\LI γ w γ' w'/\BQ γ' r v
   |_=>False
def Fj(C:Gb)(run:IT->Ai->Option Km):Prop:=
 ((∀g cs,C.Hk g=some cs->cs.all Aa.M9=true)/\∀f,C.Na f=true->uh C f)/\
 ∀(f:FuncId) (args:List Aa) (h:Ai) (r:Aa) (h':Ai),run (Ca C f args) h=some (.ret,[r],h')->
  (∃fn c,C.P.funcs[EH f]?=some fn/\(fn.name== "runtime.NumGoroutine")=false/\fn.body=some c)/\
  ∀(γ:Gh) (w:World) (cargs:Array Value),Hv γ h w->(∀g cs,C.Hk g=some cs->C8 γ cs g 0)->Bl γ args cargs.toList->
   Calls C.P (EH f) cargs w λe w'=>match e with
    | .returned v=>∃γ',Hv γ' h' w'/\LI γ w γ' w'/\BQ γ' r v/\(C.Jq f=true->∃s c,I6 γ' w.heap.size w' s c v r)
    |_=>False
def Df.aCV(hr:Df C γ0 w0 γ Z U h a w){h':Ai}{r:Aa}{v:Value}(hi:Hv γ' h' w')(ha:LI γ w γ' w')(hv:BQ γ' r v){Bs:Bool}(ho:Bs=true->∃s c,I6 γ' w.heap.size w' s c v r)(d:Option Nat):
  ∃f,Df C γ0 w0 f Z (U.put d (if Bs then .Bs r else .val r)) h' (a.put d v) w':=by
 cases Bs with
 |false=>exact⟨γ',(hr.Jj hi ha).put λ_ _=>hv⟩
 |true=>
  obtain⟨s,c,j⟩:=ho rfl;rcases j with j|⟨g,n,cap,us,e,z,AE,rfl,h2,m,l,k⟩
  .exact⟨γ',(hr.Jj hi ha).put λ_ _=>⟨hv,.inl j⟩⟩
  .have i:LI γ w (γ'.FX g (.tail U.length none (n*z))) w':=⟨ha.le.trans (HA _ _ _),ha.size,ha.os,ha.tape,ha.output,λb hb hn=>by obtain⟨p,q⟩:=ha.OI b hb hn;exact⟨p,by simp only[Gh.FX,Ad (Ac:b≠g)];exact q⟩⟩
   have Gc:=hr.Jj (hi.FX (s':=U.length) (c':=none) m) i;exact Gc.XS (BQ.mono (HA _ _ _) _ _ hv) (.inr ⟨g,n,cap,us,e,z,AE,rfl,h2,by simp[Gh.FX],Br hr.DZ.size l,k⟩) d
def IC{P:Program}{f:FuncId}{fn:Func}{c:Code}(hf:P.funcs[f]?=some fn)(hname:(fn.name== "runtime.NumGoroutine")=false)(hb:fn.body=some c)(args:Array Value)(w:World):
  (callFunc f args).run P w= .ok (.enter f args) w:=by
 have hn:¬fn.name= "runtime.NumGoroutine":=by simpa using hname
 simp[callFunc,hf,hn,hb]
def S1{o:Oper}{f:FuncId}{cargs:Array Value}{K:Act->World->Prop}{Q:Exit->Act->World->Prop}(he:(execOp a.eval o).run C.P w= .ok (.enter f cargs) w){R:Value->World->Prop}
  (hc:Calls C.P f cargs w λe w'=>match e with| .returned v=>R v w'|_=>False) (hk:∀v w',R v w'->K (a.put o.dst v) w'):o.wp C.P a w K Q:=by
 unfold Oper.wp;rw[he];refine hc.mono λe w' h=>?_;cases e with
 |returned v=>exact hk v w' h
 |_=>exact h.elim
def ui{run:IT->Ai->Option Km}(g:Fj C run){o:Oper}{c:Call}{f:FuncId}{args:List Aa}{r:Aa}{h':Ai}{K:Act->World->Prop}{Q:Exit->Act->World->Prop}(ho:o.op= .call c)(hcl:c.callee= .value (.func (EH f)))(ha:BB C U c.args.toList=some args)
  (A3:run (Ca C f args) h=some (.ret,[r],h')) (hr:Df C γ0 w0 γ Z U h a w) (i:∀γ' v w',Df C γ0 w0 γ' Z (U.put o.dst (if C.Jq f then .Bs r else .val r)) h' (a.put o.dst v) w'->K (a.put o.dst v) w'):o.wp C.P a w K Q:=by
 obtain⟨⟨fn,j,hf,hname,hb⟩,d⟩:=g.2 f args h r h' A3;have b:Bl γ args (c.args.map a.eval).toList:=by simpa using D0 hr ha
 refine S1 (f:=EH f) (cargs:=c.args.map a.eval) ?_ (d γ w _ hr.D5 hr.Hk b) λv w' ⟨γ',hi,Kv,hv,FJ⟩=>?_;.have h0:a.eval (.func (EH f))= .func (.func (EH f)) #[] #[]:=rfl;simp only[execOp,ho,resolve,hcl,Deferred.ofValue,h0,Sem.run_bind,Sem.run_pure,Result.andThen_ok,invoke];simpa using IC hf hname hb (c.args.map a.eval) w
 .obtain⟨e,Mh⟩:=hr.aCV hi Kv hv FJ o.dst;exact i e v w' Mh
def ý{run:IT->Ai->Option Km}(M:Fj C run){o:Oper}{c:Call}{f:FuncId}{s i x:Operand}{args:List Aa}{r:Aa}{h':Ai}{K:Act->World->Prop}{Q:Exit->Act->World->Prop}(ho:o.op= .call c)(hcl:c.callee= .value (.func f))(hf:C.Na f=true)(ET:c.args.toList=[s,i,x])(FJ:LF C U x=true)
  (ha:BB C U [s,i,x]=some args) (hp:QC h args=some (h',r)) (hr:Df C γ0 w0 γ Z U h a w) (N:∀γ' v w',Df C γ0 w0 γ' Z (U.put o.dst (.val r)) h' (a.put o.dst v) w'->K (a.put o.dst v) w'):o.wp C.P a w K Q:=by
 obtain⟨⟨fn,cd,þ,hname,hb⟩,ÿ⟩:=M.1.2 f hf;have tU:=D0 hr ha;obtain⟨A,d,f1,g1,f2⟩:∃A d,[a.eval s,a.eval i,a.eval x]=A::d/\BQ γ (args.getD 0 .nilIface) A/\True:=by
  cases args with
  |nil=>cases tU
  |cons y l=>obtain⟨u,us,e,p,q⟩:=tU;exact⟨u,us,e,p,trivial⟩
 obtain⟨s',j,x',he,k,G,F⟩:∃s' j x',args=[s',.int .i64 j,.sl 1 [[.int .i64 x']]]/\∃(k:BQ γ s' (a.eval s)) (G:a.eval i= .int .i64 j),BQ γ (.sl 1 [[.int .i64 x']]) (a.eval x):=by
  unfold QC at hp;split at hp;.obtain⟨_,_,_,e,E,D,B⟩:=tU.U7;simp only[Bj,C4,E5,M3] at e;obtain⟨rfl,rfl,rfl⟩:=e;exact⟨_,_,_,rfl,E,D,B⟩
  .obtain⟨_,_,_,e,E,D,B⟩:=tU.U7;simp only[Bj,C4,E5,M3] at e;obtain⟨rfl,rfl,rfl⟩:=e;exact⟨_,_,_,rfl,E,D,B⟩
  .cases hp
 subst he;have sK:E6 C U x=some (.sl 1 [[.int .i64 x']]):=by simp only[BB] at ha;cases h1:E6 C U s<;>cases h2:E6 C U i<;>cases I:E6 C U x<;>simp_all
 obtain⟨sl,sL⟩:∃sl,Ef C U x=some sl:=by
  unfold LF at FJ;cases hs:Ef C U x with
  |none=>rw[hs] at FJ;cases FJ
  |some sl=>exact⟨sl,rfl⟩
 have aLI:∃v,sl= .Bs v:=by unfold LF at FJ;rw[sL] at FJ;cases sl<;>first|exact⟨_,rfl⟩|cases FJ
 obtain⟨v,rfl⟩:=aLI;obtain⟨s0,hrel,_⟩:=GB hr sL;have aLJ:v= .sl 1 [[.int .i64 x']]:=by simp only[E6,sL,Ct,Ew.Hz,BC] at sK;exact sK
 subst aLJ;obtain⟨zE,m⟩:=hrel;rcases m with(m|⟨_,m⟩)|⟨g,n,cap,us,e,z,AE,h1,h2,I,W,H,R,O,V,T⟩
 .cases m
 .cases m
 .cases h1;obtain⟨ad,L,J,Y,X,S⟩:=F;rw[h2] at J;cases J;obtain⟨_,hm,_⟩:=S;obtain⟨⟨u,hu,hru⟩,_⟩:=hm;obtain⟨J8,_,_⟩:=hr.D5.IF _ _ _ hu;have aZ:us[0]?=some (.int .i64 x'):=by rw[cell_of_row w _ _ us e (0,0) H] at J8;rw[J8];exact Cc some hru
  have b:c.args.map a.eval=#[a.eval s,.int .i64 j,.slice (some ⟨g,0,none⟩) 1 cap]:=by apply HM;simp only[NO,ET,Bj,C4,G,h2];rfl
  have WE:=ÿ γ h w s' _ j x' h' r g cap us e hr.D5 k hp H aZ (λid Im=>by rw[I] at Im;cases Im) O (by rw[R,FI]);rw[<-b] at WE;refine S1 (f:=f) (cargs:=c.args.map a.eval) ?_ WE λv w' ⟨γ',hi,Kv,hv⟩=>?_;.have h0:a.eval (.func f)= .func (.func f) #[] #[]:=rfl;simp only[execOp,ho,resolve,hcl,Deferred.ofValue,h0,Sem.run_bind,Sem.run_pure,Result.andThen_ok,invoke];simpa using IC þ hname hb (c.args.map a.eval) w
  .obtain⟨t,Mh⟩:=hr.aCV (Bs:=false) hi Kv hv (λe=>by cases e) o.dst;exact N t v w' (by simpa using Mh)
def Gh.apart(γ:Gh):Gh:={IF:=γ.IF,mu:=λ_=>none,Bs:=λb=>match γ.Bs b with|some (.MC _)=>none|x=>x,sz:=γ.sz}
def Hv.apart(hi:Hv γ h w):Hv γ.apart [] w:=by
 refine⟨λb o v hb=>?_,λid x hx=>by simp at hx,λid cs hx=>by simp at hx,λid es hx=>by simp at hx,λid b hb=>(by cases hb),λb x hx=>?_,λb n hb=>?_⟩;rotate_left 2;.obtain⟨p,r⟩:=hi.sz b n hb;refine⟨p,.inl ?_⟩;simp only[Gh.apart];rcases r with r|⟨_,r⟩<;>rw[r]
 .obtain⟨p,q,r⟩:=hi.IF b o v hb;refine⟨p,q,?_⟩;simp only[Gh.apart];rcases r with r|⟨s,c,st,r,hl⟩
  .exact .inl (by rw[r])
  .exact .inr ⟨s,c,st,by rw[r],hl⟩
 .simp only[Gh.apart] at hx;split at hx;.cases hx
  .exact hi.Bs b x hx
def Df.Ā(hr:Df C γ0 w0 γ Z U h a w){c:Gh}{h1:Ai}(hi:Hv c h1 w')(ha:LI γ.apart w c w'):∃d,Df C γ0 w0 d Z U h a w':=by
 have ZL:∀b id,γ.apart.Bs b≠some (.MC id):=λb id e=>by
  simp only[Gh.apart] at e;split at e;.cases e
  .rename_i hn;exact hn id e
 have NZ:∀b,b<w.heap.size->w'.heap[b]?=w.heap[b]?:=λb hb=>(ha.OI b hb (ZL b)).1;refine⟨γ,hr.Jj ⟨λb o v hb=>?_,hr.D5.MC,λid cs hc b hb=>?_,λid es hc b hb=>?_,hr.D5.mu,λb x hx=>Jv (hr.D5.Bs b x hx) ha.size,λb n hb=>(by
   obtain⟨⟨us,e,fr,p,q⟩,r⟩:=hr.D5.sz b n hb;exact⟨⟨us,e,fr,by rw[NZ b (A8.1 p).1];exact p,q⟩,r⟩)⟩
  ⟨.refl _,ha.size,ha.os,ha.tape,ha.output,λb hb _=>⟨NZ b hb,rfl⟩⟩⟩
 .obtain⟨p,q,r⟩:=hr.D5.IF b o v hb;exact⟨by rw[CU (NZ b (DS p))];exact p,q,r⟩
 .obtain⟨us,e,fr,p,q⟩:=hr.D5.cells id cs hc b hb;exact⟨us,e,fr,by rw[NZ b (A8.1 p).1];exact p,q⟩
 .obtain⟨DB,clock,p,q⟩:=hr.D5.map id es hc b hb;exact⟨DB,clock,by rw[NZ b (A8.1 p).1];exact p,q⟩
def XY{γ γ':Gh}{x:Aa}{v:Value}(hf:x.M9=true)(hv:BQ γ x v):BQ γ' x v:=by cases x<;>first|exact hv|cases hf
def bL{γ γ':Gh}:∀{l:List Aa} {us:List Value},l.all Aa.M9=true->Bl γ l us->Bl γ' l us
 |[],us,_,h=>h
 |x::l,us,hf,h=>by obtain⟨u,DQ,e,h1,h2⟩:=h;simp only[dZ,Bv] at hf;exact⟨u,DQ,e,XY hf.1 h1,bL hf.2 h2⟩
def C8.apart{γ:Gh}:∀{l:List Aa} {b o:Nat},C8 γ l b o->l.all Aa.M9=true->C8 γ.apart l b o
 |[],_,_,_,_=>trivial
 |x::l,b,o,h,hf=>by obtain⟨⟨u,h1,h2⟩,c⟩:=h;simp only[dZ,Bv] at hf;exact⟨⟨u,h1,XY hf.1 h2⟩,c.apart hf.2⟩
def jw{run:IT->Ai->Option Km}(i:Fj C run){o:Oper}{c:Call}{f:FuncId}{args:List Aa}{r:Aa}{h1:Ai}{K:Act->World->Prop}{Q:Exit->Act->World->Prop}(ho:o.op= .call c)(hcl:c.callee= .value (.func (EH f)))(ha:BB C U c.args.toList=some args)
  (hfa:args.all Aa.M9=true) (A3:run (Ca C f args) []=some (.ret,[r],h1)) (zA:r.M9=true) (hr:Df C γ0 w0 γ Z U h a w) (j:∀γ' v w',Df C γ0 w0 γ' Z (U.put o.dst (.val r)) h (a.put o.dst v) w'->K (a.put o.dst v) w'):o.wp C.P a w K Q:=by
 obtain⟨⟨fn,k,hf,hname,hb⟩,d⟩:=i.2 f args [] r h1 A3;have b:Bl γ.apart args (c.args.map a.eval).toList:=bL hfa (by simpa using D0 hr ha);refine S1 (f:=EH f) (cargs:=c.args.map a.eval) ?_ (d γ.apart w _ hr.D5.apart (λg cs hg=>(hr.Hk g cs hg).apart (i.1.1 g cs hg)) b) λv w' ⟨γ',hi,Kv,hv,_⟩=>?_;.have h0:a.eval (.func (EH f))= .func (.func (EH f)) #[] #[]:=rfl;simp only[execOp,ho,resolve,hcl,Deferred.ofValue,h0,Sem.run_bind,Sem.run_pure,Result.andThen_ok,invoke];simpa using IC hf hname hb (c.args.map a.eval) w
 .obtain⟨e,Mh⟩:=hr.Ā hi Kv;exact j e v w' (Mh.put λ_ _=>XY zA hv)
def jx{run:IT->Ai->Option Km}(l:Fj C run){o:Oper}{c:Call}{g:Operand}{k:Aa}{f:FuncId}{args args':List Aa}{r:Aa}{h':Ai}{K:Act->World->Prop}{Q:Exit->Act->World->Prop}(ho:o.op= .call c)(hcl:c.callee= .value g)(hg:E6 C U g=some k)
  (ha:BB C U c.args.toList=some args) (ht:Dh k args=some (f,args')) (A3:run (Ca C f args') h=some (.ret,[r],h')) (hr:Df C γ0 w0 γ Z U h a w) (m:∀γ' v w',Df C γ0 w0 γ' Z (U.put o.dst (.val r)) h' (a.put o.dst v) w'->K (a.put o.dst v) w'):o.wp C.P a w K Q:=by
 obtain⟨⟨fn,n,hf,hname,hb⟩,b⟩:=l.2 f args' h r h' A3;have j:=GS hr hg;unfold Dh at ht;split at ht
 .rename_i f0 first captured
  split at ht;rotate_left;.cases ht
  rename_i sM;cases ht;rw[show EH f=f from Af sM] at hf b;obtain⟨fs,cs,Eh,h1,h2⟩:=j;have d:Bl γ (first++args++captured) (fs++c.args.map a.eval++cs).toList:=by simpa using(h1.append (D0 hr ha)).append h2
  refine S1 (f:=f) (cargs:=fs++c.args.map a.eval++cs) ?_ (b γ w _ hr.D5 hr.Hk d) λv w' ⟨γ',hi,Kv,hv,FJ⟩=>?_;.simp only[execOp,ho,resolve,hcl,Deferred.ofValue,Eh,Sem.run_bind,Sem.run_pure,Result.andThen_ok,invoke];exact IC hf hname hb _ w
  .obtain⟨i,Mh⟩:=hr.aCV (Bs:=false) hi Kv hv (λe=>by cases e) o.dst;exact m i v w' (by simpa using Mh)
 .cases ht
end
end Go.Am
end
