/- Lemmas -/
import Derived.Test.YtkaolmlpcamojaaGreatDoorC4
import Derived.Deep.AppendSrc
import Derived.Great.BuildSlice
import Derived.Laws.IdiomStrings
set_option linter.all false
section
namespace Go.Am
open Go
section
variable{C:FY}{U0 U U':Gh}{w0 w w':World}{O:Nat->Nat}{Z:BT}{h:Ah}{a:Act}{fid:FuncId}{ops:List Oper}
def DK{P:Program}{s:Sem Value}{v:Value}(hs:s.run P w= .ok v w'):(do pure (Next.value (<-s)):Sem Next).run P w= .ok (.value v) w':=by simp[hs]
def UI{J:Type}{z:Nat}:∀{AE:List (List J)},(∀r∈AE,r.length=z)->∀{i:Nat} {r:List J},AE[i]?=some r->∀{j:Nat} {x:J},r[j]?=some x->AE.flatten[i*z+j]?=some x
 |[],_,i,r,hi,_,_,_=>by simp at hi
 |q::AE,hl,0,r,hi,j,x,hj=>by simp at hi;subst hi;have:j<q.length:=(Ak.1 hj).1;simp only[MJ,BV,CZ];rw[Aj this];exact hj
 |q::AE,hl,i+1,r,hi,j,x,hj=>by
  simp at hi;have hq:q.length=z:=hl q AH;rw[CZ,Bm (by rw[hq,BH];omega)];have:=UI (AE:=AE) (λr hr=>hl r (by simp[hr])) hi hj;rw[<-this];congr 1
  rw[hq,BH];omega
def Hv{J:Type}{z:Nat}:∀{AE:List (List J)},(∀r∈AE,r.length=z)->AE.flatten.length=AE.length*z
 |[],_=>AH
 |q::AE,hl=>by have hq:q.length=z:=hl q AH;simp[hq,Hv (AE:=AE) (λr hr=>hl r (by simp[hr])),BH,Ph]
def Ot{AE:List (List Aa)}{us:List Value}{z b o:Nat}(hl:∀r∈AE,r.length=z)(hv:Bj U AE.flatten us)(hi:∀(j:Nat) (u:Value),us[j]?=some u->U.Iw b (o+j)=some u):E5 U AE z b o:=by refine E5.Hd λi r hr=>⟨hl r (CD hr),C8.Hd λj x hj=>?_⟩;obtain⟨u,hu,hx⟩:=hv.get (UI hl hr hj);exact⟨u,by rw[R4];exact hi _ _ hu,hx⟩
def Dh.drew(hr:Dh C U0 w0 U O Z h a w):Dh C U0 w0 U O Z h a w.drew:=hr.Je (hr.D6.same rfl) (Lm.drew U w)
def BT.TX(Z:BT):Z.at Z.length= .undef:=by simp[BT.at,List.getD]
def Dh.Xt(hr:Dh C U0 w0 U O Z h a w){x:Aa}{v:Value}(hv:BQ U x v)(ho:IZ U w0.heap.size w Z.length none v x)(d:Option Nat):∃U',Dh C U0 w0 U' O (Z.put d (.Bu x)) h (a.put d v) w:=by
 cases d with
 |none=>exact⟨U,hr⟩
 |some d=>
  rcases ho with ho|⟨g,n,cap,us,e,z,AE,h1,h2,f,b,c⟩
  .exact⟨U,hr.put λs _=>⟨hv,.inl ho⟩⟩
  .have Kx:=hr.FO (s':=d) (c':=none) f b (λ_ u=>by rw[BT.TX];simp) (λo ho=>by cases ho);exact⟨_,Kx.put λs hs=>by cases hs;exact⟨BQ.mono (Hs _ _ _) _ _ hv,.inr ⟨g,n,cap,us,e,z,AE,h1,h2,by simp[Gh.FO],b,c⟩⟩⟩
def Dh.Xu(hr:Dh C U0 w0 U O Z h a w)(us:Array Value)(e:TypeId){z n cap:Nat}{AE:List (List Aa)}(hz:0<z)(hn:AE.length=n)(hl:∀r∈AE,r.length=z)(Z0:us.size=cap*z)(hc:n<=cap)(hm:cap<=maxLen)
  (hv:Bj U AE.flatten (us.toList.take (n*z))) (h1:∀u∈us.toList.take (n*z),u.oneCell'=true):
  ∃U',U.le U'/\Dh C U0 w0 U' O Z h a (w.alloc (.cells us e))/\BQ U' (.sl z AE) (.slice (some ⟨w.heap.size,0,none⟩) n cap)/\IZ U' w0.heap.size (w.alloc (.cells us e)) Z.length none (.slice (some ⟨w.heap.size,0,none⟩) n cap) (.sl z AE):=by
 obtain⟨hi,ha⟩:=Pw hr.D6 us e (0,0) (n*z) (some (.tail Z.length none (n*z))) (λo u ho hu=>h1 u (CD (i:=o) (by rw[C3 ho];simpa using hu))) (.inr (.inl ⟨_,_,rfl⟩));refine⟨_,ha.le,hr.Je hi ha,⟨⟨w.heap.size,0,none⟩,cap,by rw[hn],Ab,.inl rfl,Ot hl (Bj.mono ha.le _ _ hv) λj u hj=>?_⟩,.inr ⟨w.heap.size,n,cap,us,e,z,AE,rfl,rfl,by simp[Gh.DB],hr.D0.size,heap_alloc_new w _,Z0,hc,hm,hz⟩⟩;rw[Ci] at hj;split at hj;.rename_i hlt;simp only[Gh.DB,BN,BV,Af hlt];simpa using hj
 .cases hj
def Xv{size:Nat}:∀(vs:List Value) (k:Nat) (cells:Array Value),(∀v∈vs,v.cells.size=size)->(k+vs.length)*size<=cells.size->
  Instr.fill (λi=>some (i*size,size)) cells ((vs.zipIdx k).map λp=>(p.2,p.1))=some (cells.toList.take (k*size)++vs.flatMap (·.cells.toList)++cells.toList.drop ((k+vs.length)*size)).toArray
 |[],k,cells,_,_=>by simp[Instr.fill]
 |v::vs,k,cells,hv,hl=>by
  have hs:v.cells.size=size:=hv v AH;simp only[A9] at hl;have En:(k+1)*size+vs.length*size<=cells.size:=by rw[<-BH];exact Bs (MI (by congr 1;omega)) hl
  have Zp:(k+1)*size=k*size+size:=by rw[BH,D7]
  simp only[wM,Bl,Instr.fill];have f:¬(v.cells.size≠size\/k*size+v.cells.size>cells.size):=by rw[hs];omega
  simp only[BW,decide_not,OT,C0,aP4,TA] at*;rw[Ad f];have hf:=On v.cells.toList (k*size) 0 cells (by simp[hs];omega);have aKL:v.cells.zipIdx.foldl (λcs (c,j)=>cs.setIfInBounds (k*size+j) c) cells=(cells.toList.take (k*size)++v.cells.toList++cells.toList.drop (k*size+size)).toArray:=by rw[<-aOF,aKx];rw[hf];simp[hs]
  rw[aKL];have hlen:(cells.toList.take (k*size)++v.cells.toList++cells.toList.drop (k*size+size)).length=cells.size:=by simp[hs];omega
  rw[Xv vs (k+1) _ (λu hu=>hv u (by simp[hu])) (by simp only[B8];rw[hlen,BH];exact En)]
  congr 2
  have b:(cells.toList.take (k*size)++v.cells.toList).length=(k+1)*size:=by simp[hs];omega
  have e:(cells.toList.take (k*size)++v.cells.toList++cells.toList.drop (k*size+size)).take ((k+1)*size)=cells.toList.take (k*size)++v.cells.toList:=by rw[<-b];exact FB
  have d:(cells.toList.take (k*size)++v.cells.toList++cells.toList.drop (k*size+size)).drop ((k+1+vs.length)*size)=cells.toList.drop ((k+(vs.length+1))*size):=by
   rw[TB,AW (by rw[b];exact DY _ Ab),b,Ek,BR];congr 1
   have:(k+1+vs.length)*size-(k+1)*size=vs.length*size:=by rw[BH (k+1)];omega
   rw[this,BH k,BH vs.length];omega
  rw[e,d];simp
def Lp{P:Program}{t:TypeId}(h:Mh P t=true):∃i z,P.info? t=some i/\i.zero=some z/\z.cells.size=i.size:=by
 unfold Mh at h;split at h
 .rename_i i hi;split at h;.rename_i z hz;exact⟨i,z,hi,hz,by simpa using h⟩
  .cases h
 .cases h
def JW{P:Program}{t:TypeId}{n:Nat}{i:TypeInfo}(h:B4 P t=some n)(hi:P.info? t=some i):i.size=n:=by simpa[B4,hi] using h
def LX{P:Program}{t:TypeId}{n:Nat}{i:TypeInfo}(h:Ke P t=some n)(hi:P.info? t=some i):i.bytes=n:=by simpa[Ke,hi] using h
def Xw:∀{args:List Aa} {us:List Value} {z:Nat},Bj U args us->(∀x∈args,x.cells.length=z)->0<z->Bj U (args.map (·.cells)).flatten (us.flatMap (·.cells.toList))/\(∀u∈us.flatMap (·.cells.toList),u.oneCell'=true)/\∀u∈us,u.cells.size=z
 |[],us,z,h,_,_=>by rw[Bj] at h;subst h;exact⟨rfl,AH,AH⟩
 |x::args,us,z,h,hl,hz=>by
  obtain⟨u,DT,rfl,h1,h2⟩:=h;have hx:=hl x AH;obtain⟨b,e⟩:=Ht h1 Ab;obtain⟨d,r2,c⟩:=Xw h2 (λy hy=>hl y (by simp[hy])) hz;refine⟨by simpa using b.append d,λv hv=>?_,λv hv=>?_⟩;.simp only[MK,Ax] at hv;exact hv.elim (e v) (r2 v)
  .rcases AS.1 hv with rfl|hv
   .have:=b.length;simp at this;omega
   .exact c v hv
def aB{a:Act}:∀{l:List (Nat×Operand)} {k:Nat},l.map (·.1)=List.range' k l.length->l.map (λp=>(p.1,a.eval p.2))=((l.map λp=>a.eval p.2).zipIdx k).map λp=>(p.2,p.1)
 |[],k,_=>AH
 |(i,x)::l,k,h=>by simp only[Bl,A9,List.range'_succ,E2] at h;obtain⟨rfl,h⟩:=h;simp[wM,aB h]
def qg{o:Oper}{t e:TypeId}{len n:Nat}{parts:Array (Nat×Operand)}{args:List Aa}{u:Aa}(ho:o.op= .buildSlice t len parts)(ht:C.P.underlying t=some (.slice e))(K5:B4 C.P e=some (n+1))(hp:parts.toList.map (·.1)=List.range len)(lL:Mh C.P e=true)
  (ha:Bz C Z (parts.toList.map (·.2))=some args) (hu:AD (.Dm (n+1)) args=some u) (hr:Dh C U0 w0 U O Z h a w):FW C U0 w0 o a w (Z.put o.dst (.Bu u)) h:=by
 obtain⟨i,z,hi,hz,cT⟩:=Lp lL;have QS:=JW K5 hi;simp only[AD] at hu;split at hu
 .rename_i hc;cases hu;simp only[BC,Db,zt,C0] at hc;obtain⟨R7,I0⟩:=hc;have EP:=D1 hr ha;have hlen:parts.toList.length=len:=by have:=Ca List.length hp;simpa using this
  have Wb:args.length=len:=by have:=EP.length;simp at this;simp at hlen;omega
  obtain⟨f,j,g⟩:=Xw EP R7 (Dc n);have aC:=f.length;rw[Hv (z:=n+1) (by intro r hr;obtain⟨x,hx,rfl⟩:=Bk.1 hr;exact R7 x hx),An,Wb] at aC;have A3:∃cells:Array Value,cells.toList=(parts.toList.map (·.2) |>.map a.eval).flatMap (·.cells.toList)/\(Instr.buildSlice t len (parts.map λ(i,x)=>(i,a.eval x))).run C.P w= .ok (.slice (some ⟨w.heap.size,0,none⟩) len len) (w.alloc (.cells cells e)):=by
   have lJ:(parts.map λ(i,x)=>(i,a.eval x)).toList=(((parts.toList.map (·.2)).map a.eval).zipIdx 0).map λp=>(p.2,p.1):=by have:=aB (a:=a) (l:=parts.toList) (k:=0) (by rw[hlen,<-aJH];exact hp);simp only[Nt,List.map_map];exact this
   have xM:=Xv (size:=n+1) ((parts.toList.map (·.2)).map a.eval) 0 ((Array.range (len*(n+1))).map (z.cells[·%z.cells.size]!)) g (by simp at hlen⊢;rw[hlen];exact Ag _);rw[<-lJ] at xM;have e0:((Array.range (len*(n+1))).map (z.cells[·%z.cells.size]!)).toList.drop ((0+((parts.toList.map (·.2)).map a.eval).length)*(n+1))=[]:=by apply AW;simp at hlen⊢;rw[hlen];exact Ag _
   rw[e0] at xM;simp only[MJ,Ku,BR,By] at xM;refine⟨_,rfl,?_⟩;by_cases h0:len*(n+1)=0
   .have d:len=0:=by
     rcases Nat.mul_eq_zero.1 h0 with h|h
     .exact h
     .omega
    subst d;have c:parts=#[]:=by apply F8;simpa using hlen
    subst c;have b:(Array.range 0:Array Nat)=#[]:=rfl;simp[Instr.buildSlice,run_underlying ht,sizeOf,typeInfo,hi,newRow,Instr.fill,b]
   .exact run_buildSlice w t e len _ _ i z ht hi hz (by rw[QS];rw[Wb] at I0;omega) (by rw[QS];exact h0) (by rw[QS];exact xM)
  obtain⟨cells,hcells,A3⟩:=A3;have hcs:cells.size=len*(n+1):=by rw[<-Ch,hcells];exact aC
  obtain⟨U',En,FZ,DJ,FG⟩:=hr.Xu cells e (z:=n+1) (n:=len) (cap:=len) (AE:=args.map (·.cells)) (Dc n) (by simp[Wb]) (by intro r hr;obtain⟨x,hx,rfl⟩:=Bk.1 hr;exact R7 x hx) hcs (Ag _)
   (by rw[Wb] at I0;have:len<=len*(n+1):=IQ _ (Dc n);simp only[maxLen];omega) (by rw[hcells,AF (by rw[aC];exact Ag _)];exact f) (by rw[hcells,AF (by rw[aC];exact Ag _)];exact j)
  obtain⟨m,LW⟩:=FZ.Xt DJ FG o.dst;exact FW.value (by simp only[execOp,ho];exact DK A3) LW
 .cases hu
def qh{o:Oper}{t e:TypeId}{len n:Nat}{parts:Array (Nat×Operand)}(ho:o.op= .buildSlice t len parts)(ht:C.P.underlying t=some (.slice e))(K5:B4 C.P e=some (n+1))(hp:parts.toList.map (·.1)=List.range len)(lL:Mh C.P e=true)(h0:len=0)
  (hr:Dh C U0 w0 U O Z h a w):FW C U0 w0 o a w (Z.put o.dst (.Bu (.Gf (n+1)))) h:=by
 subst h0;obtain⟨i,z,hi,hz,cT⟩:=Lp lL;have c:parts=#[]:=by apply F8;have:=Ca List.length hp;simpa using this
 subst c;have b:(Array.range 0:Array Nat)=#[]:=rfl;have A3:(Instr.buildSlice t 0 ((#[]:Array (Nat×Operand)).map λ(i,x)=>(i,a.eval x))).run C.P w= .ok (.slice (some ⟨w.heap.size,0,none⟩) 0 0) (w.alloc (.cells #[] e)):=by simp[Instr.buildSlice,run_underlying ht,sizeOf,typeInfo,hi,newRow,Instr.fill,b]
 obtain⟨U',En,FZ,_,_⟩:=hr.Xu #[] e (z:=n+1) (n:=0) (cap:=0) (AE:=[]) (Dc n) rfl AH AH (Ag _) (by simp[maxLen]) (by rw[MJ];exact(rfl:Bj U [] [])) AH;obtain⟨d,LW⟩:=FZ.Xt (x:= .Gf (n+1)) (v:= .slice (some ⟨w.heap.size,0,none⟩) 0 0) ⟨_,rfl⟩ (.inl (.inr ⟨_,rfl⟩)) o.dst;exact FW.value (by simp only[execOp,ho];exact DK A3) LW
def xP{t':TypeId}{size bytes:Nat}{v u r:Aa}{d:Value}(Gc:(∃i,C.P.underlying t'=some (.slice i))\/C.P.underlying t'=some .string)(hi:Hm U h w)(hu:BQ U u d)(hp:HY size bytes v u=some r):
  ∃(AE:List (List Aa)) (news:List Value),DO size bytes v AE=some r/\Src C.P size t' d AE.length news w/\Bj U AE.flatten news/\(∀r∈AE,r.length=size):=by
 unfold HY at hp;split at hp;.rw[show d=_ from hu];exact⟨[],[],hp,⟨Gc,λ_=>rfl,run_firstCells_none w size 0 0 0,run_firstCells_none w.drew size 0 0 0,AH,AH⟩,rfl,AH⟩
 .rename_i z;split at hp;.obtain⟨b,V_⟩:=hu;rw[V_];exact⟨[],[],hp,⟨Gc,λ_=>rfl,run_firstCells_some w _ _ _ _ _ [] AH (λj x hj=>by simp at hj),run_firstCells_some w.drew _ _ _ _ _ [] AH (λj x hj=>by simp at hj),AH,AH⟩,rfl,AH⟩
  .cases hp
 .rename_i z AE;split at hp
  .rename_i hz;subst hz;obtain⟨c,cap,V_,PF,hsp,hR⟩:=hu;obtain⟨us,g,e,f⟩:=hR.values;have NF:∀(j:Nat) (x:Value),us[j]?=some x->c.add j=⟨c.block,c.off+j,none⟩:=λj x hj=>by
    have hpos:0<AE.length:=by
     rcases Jq AE.length with h0|h0
     .have:us.length=0:=by rw[e,h0,MJ]
      rw[Dy this] at hj;simp at hj
     .exact h0
    have rO:=Oh hsp PF hpos;generalize c.block=b at*;generalize c.off=o at*;subst rO;unfold Addr.add;split<;>simp_all
   rw[V_];refine⟨AE,us,hp,⟨Gc,λ_=>rfl,run_firstCells_some w _ _ _ _ _ us e (λj x hj=>by rw[NF j x hj];exact(hi.Iw _ _ _ (f j x hj)).1),run_firstCells_some w.drew _ _ _ _ _ us e (λj x hj=>by rw[NF j x hj];exact(hi.Iw _ _ _ (f j x hj)).1),e,λx hx=>?_⟩,g,λr hr=>?_⟩;.obtain⟨j,hj⟩:=CU hx;exact(hi.Iw _ _ _ (f j x hj)).2.1
   .obtain⟨j,hj⟩:=CU hr;exact(hR.get hj).1
  .cases hp
 .rename_i s;split at hp
  .rename_i hz;subst hz;rw[show d=_ from hu];have hlen:(Cf s).length=(⟨⟨s⟩⟩:ByteArray).size:=by simp[Cf,ByteArray.size]
   have hrel:∀l:List UInt8,Bj U (Cf l).flatten (l.map λb=>Value.int .u8 b.toNat):=by
    intro l;induction l with
    |nil=>rfl
    |cons b l ih=>exact⟨_,_,rfl,rfl,ih⟩
   refine⟨Cf s,byteCells ⟨⟨s⟩⟩,hp,?_,?_,λr hr=>?_⟩;.rw[hlen];exact⟨Gc,λ_=>rfl,firstCells_string _ w,firstCells_string _ w.drew,by rw[byteCells_length,FE],λu hu=>by obtain⟨_,_,rfl⟩:=Bk.1 hu;rfl⟩
   .simpa[byteCells] using hrel s
   .obtain⟨b,_,rfl⟩:=Bk.1 hr;rfl
  .cases hp
 .cases hp
def Dh.qi(hr:Dh C U0 w0 U O Z h a w){g n cap z:Nat}{us:Array Value}{e:TypeId}{rr AE:List (List Aa)}{news:List Value}(FG:U.Bu g=some (.tail Z.length none (n*z)))(hB:w0.heap.size<=g)(hg:w.heap[g]?=some (.cells us e (0,0)))
  (Z0:us.size=cap*z) (hm:cap<=maxLen) (hz:0<z) (hv:BQ U (.sl z rr) (.slice (some ⟨g,0,none⟩) n cap)) (hl:∀r∈AE,r.length=z) (hn:Bj U AE.flatten news) (h1:∀u∈news,u.oneCell'=true) (hroom:n+AE.length<=cap):
  ∃U',U.le U'/\Dh C U0 w0 U' O Z h a (w.setRow g (us.toList.take (n*z)++news++us.toList.drop (n*z+news.length)).toArray)/\BQ U' (.sl z (rr++AE)) (.slice (some ⟨g,0,none⟩) (n+AE.length) cap)/\
   IZ U' w0.heap.size (w.setRow g (us.toList.take (n*z)++news++us.toList.drop (n*z+news.length)).toArray) Z.length none (.slice (some ⟨g,0,none⟩) (n+AE.length) cap) (.sl z (rr++AE)):=by
 obtain⟨t,cap',mL,PF,_,hR⟩:=hv;simp only[Value.slice.injEq,BB] at mL;obtain⟨rfl,rfl,rfl⟩:=mL;simp only at hR;have OX:news.length=AE.length*z:=by rw[hn.length,Hv hl]
 have hfit:(rr.length+AE.length)*z<=us.size:=by rw[Z0];exact DY _ hroom
 rw[BH] at hfit;have c:(us.toList.take (rr.length*z)).length=rr.length*z:=Ei;obtain⟨vs,m,q,l⟩:=hR.values;have hvs:vs=us.toList.take (rr.length*z):=by
  apply Ro;intro j;by_cases hj:j<rr.length*z
  .have d:j<vs.length:=by rw[q];exact hj
   have hc:=(hr.D6.Iw _ _ _ (l j _ (Al d))).1;rw[cell_of_row w _ _ us e (0,0) hg,BV] at hc;rw[Al d,C3 hj];simpa using hc.symm
  .rw[Ec Ab,Ec (by rw[c];omega)]
 rw[hvs] at m;have O9:∀u∈us.toList.take (rr.length*z),u.oneCell'=true:=λu hu=>by rw[<-hvs] at hu;obtain⟨j,hj⟩:=CU hu;exact(hr.D6.Iw _ _ _ (l j u hj)).2.1
 have f:(rr.length+AE.length)*z=rr.length*z+AE.length*z:=BH _ _ _;have aAs:((us.toList.take (rr.length*z)++news++us.toList.drop (rr.length*z+news.length)).toArray).toList.take ((rr.length+AE.length)*z)=us.toList.take (rr.length*z)++news:=by
  have:(us.toList.take (rr.length*z)++news).length=(rr.length+AE.length)*z:=by rw[Au,c,OX,f]
  rw[<-this];exact FB
 have K5:(us.toList.take (rr.length*z)++news++us.toList.drop (rr.length*z+news.length)).length=us.size:=by simp[OX];omega
 generalize p:(us.toList.take (rr.length*z)++news++us.toList.drop (rr.length*z+news.length)).toArray=DT at*;have aKO:DT.size=us.size:=by rw[<-p];simpa using K5
 obtain⟨hi,En⟩:=rI hr.D6 FG hg DT ((rr.length+AE.length)*z) Z.length none (λo ho=>by
   rw[<-p,AI,List.getElem?_toArray,Aj Ab,C3 ho];simp)
  Ab (λo u ho hu=>by
   have:u∈DT.toList.take ((rr.length+AE.length)*z):=by refine CD (i:=o) ?_;rw[C3 ho];simpa using hu
   rw[aAs,Ax] at this;exact this.elim (O9 u) (h1 u)) (λo v hv=>by
   have:=(hr.D6.Iw _ _ _ hv).1;rwa [cell_of_row w _ _ us e (0,0) hg] at this)
 have hk:Qm g U w (U.DB g DT ((rr.length+AE.length)*z) (some (.tail Z.length none ((rr.length+AE.length)*z)))) (w.setRow g DT):=
  ⟨En,λb x hb hx _=>⟨by simp only[Gh.DB,Ad hb];exact hx,setRow_other w g b DT hb⟩⟩
 have k:E5 (U.DB g DT ((rr.length+AE.length)*z) (some (.tail Z.length none ((rr.length+AE.length)*z)))) (rr++AE) z g 0:=by
  refine Ot (us:=DT.toList.take ((rr.length+AE.length)*z)) (λr hr=>?_) ?_ (λj u hj=>?_)
  .rcases Ax.1 hr with hr|hr
   .obtain⟨i,hi⟩:=CU hr;exact(hR.get hi).1
   .exact hl r hr
  .rw[aAs,KW];exact(Bj.mono En _ _ m).append (Bj.mono En _ _ hn)
  .rw[Ci] at hj;split at hj;.rename_i hlt;simp only[Gh.DB,BN,BV,Af hlt];simpa using hj
   .cases hj
 refine⟨_,En,⟨hi,⟨hr.fr.size,λs=>?_⟩,hr.D0.write (g:=g) hB En AH rfl rfl rfl (λb hb=>⟨setRow_other w g b DT hb,by simp only[Gh.DB,Ad hb]⟩),hr.defers,λx cs hx=>C8.mono En _ _ _ (hr.Ha x cs hx)⟩,
  ⟨⟨g,0,none⟩,cap,AH,by simpa using hroom,.inl rfl,k⟩,.inr ⟨g,rr.length+AE.length,cap,DT,e,z,rr++AE,rfl,rfl,by simp[Gh.DB],hB,setRow_heap w g us DT e (0,0) hg,by rw[aKO,Z0],hroom,hm,hz⟩⟩
 by_cases hs:s=Z.length;.subst hs;rw[BT.TX];trivial
 .exact(hr.fr.It s).keptBut FG hk (by simp only[KH.rE];intro hx;cases hx;exact hs rfl)
def Ou{t t' ty:TypeId}{ts:Array TypeId}{xs:Array Value}(h0:ts[0]?=some t)(h1:ts[1]?=some t'):Builtin.append_ ts ty xs=Builtin.append_ #[t,t'] ty xs:=by simp only[Builtin.append_,h0,h1];rfl
def Bj.W_{l:List Aa}{us:List Value}{n:Nat}(h:Bj U l us)(hn:us.length<=n):Bj U l (us.take n):=by rw[AF hn];exact h
def NG{cs:List Aa}{z:Nat}:∀{n off:Nat},(CA cs z off n).flatten=(cs.drop off).take (n*z)
 |0,off=>by simp[CA]
 |n+1,off=>by rw[CA,CZ,NG,BH,D7,Ph (n*z) z,aAa,Ek]
def OY{cs:List Aa}{z:Nat}:∀{n off:Nat},(CA cs z off n).length=n
 |0,off=>rfl
 |n+1,off=>by rw[CA,A9,OY]
def Q5{cs:List Aa}{z:Nat}:∀{n off:Nat},off+n*z<=cs.length->∀r∈CA cs z off n,r.length=z
 |0,off,_,r,hr=>by simp[CA] at hr
 |n+1,off,hl,r,hr=>by
  rw[BH,D7] at hl;rw[CA,AS] at hr;rcases hr with rfl|hr
  .rw[Aw,Bd];omega
  .exact Q5 Ab r hr
def Xx{t':TypeId}{size:Nat}{u:Aa}{g:Value}{AE:List (List Aa)}(Gc:(∃m,C.P.underlying t'=some (.slice m))\/C.P.underlying t'=some .string)(hi:Hm U h w)(hu:BQ U u g)(hp:GZ h size u=some AE):
  ∃news:List Value,Src C.P size t' g AE.length news w/\Bj U AE.flatten news/\(∀r∈AE,r.length=size):=by
 unfold GZ at hp;split at hp;.cases hp;rw[show g=_ from hu];exact⟨[],⟨Gc,λ_=>rfl,run_firstCells_none w size 0 0 0,run_firstCells_none w.drew size 0 0 0,AH,AH⟩,rfl,AH⟩
 .rename_i z;split at hp;.cases hp;obtain⟨b,V_⟩:=hu;rw[V_];exact⟨[],⟨Gc,λ_=>rfl,run_firstCells_some w _ _ _ _ _ [] AH (λj x hj=>by simp at hj),run_firstCells_some w.drew _ _ _ _ _ [] AH (λj x hj=>by simp at hj),AH,AH⟩,rfl,AH⟩
  .cases hp
 .rename_i z i;split at hp
  .rename_i hz;cases hp;subst hz;obtain⟨f,cap,V_,PF,hsp,hR⟩:=hu;obtain⟨us,k,c,d⟩:=hR.values;have NF:∀(j:Nat) (x:Value),us[j]?=some x->f.add j=⟨f.block,f.off+j,none⟩:=λj x hj=>by
    have hpos:0<AE.length:=by
     rcases Jq AE.length with h0|h0
     .have:us.length=0:=by rw[c,h0,MJ]
      rw[Dy this] at hj;simp at hj
     .exact h0
    have rO:=Oh hsp PF hpos;generalize f.block=b at*;generalize f.off=o at*;subst rO;unfold Addr.add;split<;>simp_all
   rw[V_];refine⟨us,⟨Gc,λ_=>rfl,run_firstCells_some w _ _ _ _ _ us c (λj x hj=>by rw[NF j x hj];exact(hi.Iw _ _ _ (d j x hj)).1),run_firstCells_some w.drew _ _ _ _ _ us c (λj x hj=>by rw[NF j x hj];exact(hi.Iw _ _ _ (d j x hj)).1),c,λx hx=>?_⟩,k,λr hr=>?_⟩;.obtain⟨j,hj⟩:=CU hx;exact(hi.Iw _ _ _ (d j x hj)).2.1
   .obtain⟨j,hj⟩:=CU hr;exact(hR.get hj).1
  .cases hp
 .rename_i s;split at hp
  .rename_i hz;cases hp;subst hz;rw[show g=_ from hu];have hlen:(Cf s).length=(⟨⟨s⟩⟩:ByteArray).size:=by simp[Cf,ByteArray.size]
   have hrel:∀l:List UInt8,Bj U (Cf l).flatten (l.map λb=>Value.int .u8 b.toNat):=by
    intro l;induction l with
    |nil=>rfl
    |cons b l ih=>exact⟨_,_,rfl,rfl,ih⟩
   refine⟨byteCells ⟨⟨s⟩⟩,?_,?_,λr hr=>?_⟩;.rw[hlen];exact⟨Gc,λ_=>rfl,firstCells_string _ w,firstCells_string _ w.drew,by rw[byteCells_length,FE],λu hu=>by obtain⟨_,_,rfl⟩:=Bk.1 hu;rfl⟩
   .simpa[byteCells] using hrel s
   .obtain⟨b,_,rfl⟩:=Bk.1 hr;rfl
  .cases hp
 .rename_i id off n z;split at hp
  .rename_i hz;subst hz;split at hp
   .rename_i cs hcs;split at hp
    .rename_i hl;cases hp;obtain⟨b,cap,hb,V_,PF,ng,K5⟩:=hu;obtain⟨us,e,fr,k,pf,c,d⟩:=hi.cells id cs hcs b hb;have lK:(us.toList.take cs.length).length=cs.length:=c.length;have OX:(((us.toList.take cs.length).drop off).take (n*z)).length=n*z:=by rw[Aw,Bd,lK];omega
     have NF:∀j,(⟨b,off,none⟩:Addr).add j=⟨b,off+j,none⟩:=λj=>by unfold Addr.add;split<;>simp_all
     have JU:∀(j:Nat) (x:Value),(((us.toList.take cs.length).drop off).take (n*z))[j]?=some x->w.cell? ((⟨b,off,none⟩:Addr).add j)=some x:=λj x hj=>by
      rw[NF,cell_of_row w _ _ us e fr k];rw[Ci] at hj;split at hj
      .rw[Ct,Ci] at hj;split at hj;.simpa using hj
       .cases hj
      .cases hj
     rw[V_,OY];refine⟨((us.toList.take cs.length).drop off).take (n*z),⟨Gc,λ_=>rfl,run_firstCells_some w _ _ _ _ _ _ OX JU,run_firstCells_some w.drew _ _ _ _ _ _ OX (λj x hj=>JU j x hj),OX,λx hx=>d x (Bw (Bp hx))⟩,?_,Q5 hl⟩;rw[NG];exact(c.drop off).take (n*z)
    .cases hp
   .cases hp
  .cases hp
 .cases hp
def OZ{o:Oper}{c:Call}{t t' e:TypeId}{n b:Nat}{s x:Operand}{v u r:Aa}{AE:List (List Aa)}{news:List Value}(ho:o.op= .call c)(hc:c.callee= .builtin .append)(h0:c.argTypes[0]?=some t)(h1:c.argTypes[1]?=some t')(EP:c.args.toList=[s,x])(ht:C.P.underlying t=some (.slice e))
  (Gc:(∃G,C.P.underlying t'=some (.slice G))\/C.P.underlying t'=some .string) (K5:B4 C.P e=some (n+1)) (qj:Ke C.P e=some (b+1)) (FG:Lj C Z s=true) (lL:Mh C.P e=true) (hv:Bz C Z [s,x]=some [v,u])
  (Gv:DO (n+1) (b+1) v AE=some r) (KB:Src C.P (n+1) t' (a.eval x) AE.length news w) (Wc:Bj U AE.flatten news) (qR:∀q∈AE,q.length=n+1) (hr:Dh C U0 w0 U O Z h a w):FW C U0 w0 o a w ((Z.DU (Dv Z s)).put o.dst (.Bu r)) h:=by
 obtain⟨i,z,hi,hz,cT⟩:=Lp lL;have QS:=JW K5 hi;have F:=LX qj hi;obtain⟨_,_,e0,hvs,qS⟩:=Fb hr hv;cases e0;have U_:E4 C Z s=some v:=by
  unfold Bz at hv;split at hv;.rename_i p ps B I;cases hv;exact B
  .cases hv
 obtain⟨U1,En,Kx,DJ,M⟩:=PE hr FG U_ (Z.DU (Dv Z s)).length none;have qk:=Bj.mono En _ _ Wc;have Ky:c.args.map a.eval=#[a.eval s,a.eval x]:=by apply HE;simp[EP]
 have MU:∀v' w',(Builtin.append_ #[t,t'] o.type #[a.eval s,a.eval x]).run C.P w= .ok v' w'->(execOp a.eval o).run C.P w= .ok (.value v') w':=λv' w' A3=>by
  have:execOp a.eval o=(do pure (Next.value (<-Builtin.append_ #[t,t'] o.type #[a.eval s,a.eval x]))):=by rw[<-Ky,<-Ou (ty:=o.type) h0 h1];simp only[execOp,ho,resolve,hc];rfl
  rw[this];exact DK A3
 have Ki:Src C.P i.size t' (a.eval x) AE.length news w:=by rw[QS];exact KB
 have OX:news.length=AE.length*(n+1):=KB.newsLen;have JI:∀(base:Option Addr) (k cap:Nat) (rr:List (List Aa)) (olds:List Value),a.eval s= .slice base k cap->rr.length=k->(∀q∈rr,q.length=n+1)->Bj U1 rr.flatten olds->(∀q∈olds,q.oneCell'=true)->
   (Builtin.firstCells i.size k (.slice base k cap)).run C.P w.drew= .ok olds.toArray w.drew->cap<k+AE.length->(k+AE.length)*(b+1)<=AX->r= .sl (n+1) (rr++AE)->
   FW C U0 w0 o a w ((Z.DU (Dv Z s)).put o.dst (.Bu r)) h:=by
  intro base k cap rr olds hs hk m nh E d hlt Qn UJ;have Ru:k+AE.length<=AX:=Bs (IQ _ (Dc b)) Qn;have Gb:=run_append_grow_src (P:=C.P) w t t' o.type e i z ht hi hz base k cap olds d (a.eval x) AE.length news Ki hlt (by simp only[AX] at Ru;omega) (by rw[F];exact growslice_fits hlt Qn);rw[<-hs] at Gb;have Eg:=grownCap_ge w (k+AE.length) cap e;have aKP:olds.length=k*(n+1):=by rw[nh.length,Hv m,hk]
  have fy:(olds++news).length=(k+AE.length)*(n+1):=by rw[Au,aKP,OX,BH]
  obtain⟨R,mJ,LW,Sx,l⟩:=Kx.drew.Xu ((olds++news).toArray++Builtin.zeroCells z.cells (grownCap w (k+AE.length) cap e-(k+AE.length))) e (z:=n+1) (n:=k+AE.length) (cap:=grownCap w (k+AE.length) cap e) (AE:=rr++AE) (Dc n) (by simp[hk])
   (λq hq=>(Ax.1 hq).elim (m q) (qR q))
   (by simp only[J8,B8,size_zeroCells,cT,QS,fy,<-BH];congr 1;omega) Eg (grownCap_le_maxLen w _ _ _ (by simp only[AX] at Ru;simp only[maxLen];omega))
   (by simp only[GW,KW];rw[<-fy,FB];exact nh.append qk)
   (λq hq=>by simp only[GW] at hq;rw[<-fy,FB,Ax] at hq;exact hq.elim (E q) (KB.one q))
  rw[UJ];obtain⟨Q,f⟩:=LW.Xt Sx l o.dst;exact FW.value (MU _ _ Gb) f
 rcases M with(rfl|⟨A,rfl⟩)|⟨g,k,cap,us,J,A,rr,rfl,JK,TH,hB,hg,Z0,X_,hm,L⟩
 .have JK:a.eval s= .slice none 0 0:=DJ;cases AE with
  |nil=>
   have UJ:r= .slnil:=by simpa[DO] using Gv.symm
   have xK:news=[]:=Dy (by simpa using OX);subst xK;have A3:(Builtin.append_ #[t,t'] o.type #[a.eval s,a.eval x]).run C.P w= .ok (.slice none 0 0) w:=by rw[JK];have hl:=Ki.len;have We:=Ki.cells;simp only[BJ] at hl We;rcases Gc with⟨G,hk⟩|hk<;>simp[Builtin.append_,run_underlying ht,run_underlying hk,sizeOf,typeInfo,hi,hl,We]
   rw[UJ];exact FW.value (MU _ _ A3) (Kx.put λ_ _=>⟨rfl,.inl (.inl rfl)⟩)
  |cons q AE=>
   have PG:r= .sl (n+1) (q::AE)/\(q::AE).length*(b+1)<=AX:=by
    simp only[DO] at Gv;split at Gv;.rename_i hb;cases Gv;exact⟨rfl,hb⟩
    .cases Gv
   exact JI none 0 0 [] [] JK rfl AH rfl AH (run_firstCells_none _ _ _ _ _) AH (by simpa using PG.2) (by simpa using PG.1)
 .obtain⟨g,JK⟩:=id DJ;cases AE with
  |nil=>
   have UJ:A=n+1/\r= .Gf A:=by
    simp only[DO] at Gv;split at Gv;.rename_i Zq;cases Gv;exact⟨Zq,by rw[Zq]⟩
    .cases Gv
   obtain⟨rfl,UJ⟩:=UJ;have xK:news=[]:=Dy (by simpa using OX);subst xK;have A3:(Builtin.append_ #[t,t'] o.type #[a.eval s,a.eval x]).run C.P w= .ok (.slice (some ⟨g,0,none⟩) 0 0) w:=by rw[JK];have hl:=Ki.len;have We:=Ki.cells;simp only[BJ] at hl We;rcases Gc with⟨G,hk⟩|hk<;>simp[Builtin.append_,run_underlying ht,run_underlying hk,sizeOf,typeInfo,hi,hl,We,storeCells,Result.andThen]
   rw[UJ];exact FW.value (MU _ _ A3) (Kx.put λ_ _=>⟨⟨g,rfl⟩,.inl (.inr ⟨_,rfl⟩)⟩)
  |cons q AE=>
   have PG:r= .sl (n+1) (q::AE)/\(q::AE).length*(b+1)<=AX:=by
    simp only[DO] at Gv;split at Gv;.rename_i hb;cases Gv;exact⟨rfl,hb.2⟩
    .cases Gv
   exact JI (some ⟨g,0,none⟩) 0 0 [] [] JK rfl AH rfl AH (run_firstCells_some w.drew _ _ _ _ _ [] AH (λj x hj=>by simp at hj)) AH (by simpa using PG.2) (by simpa using PG.1)
 .obtain⟨N,K,mL,PF,_,hR⟩:=id DJ;rw[JK] at mL;simp only[Value.slice.injEq,BB] at mL;obtain⟨rfl,hk,rfl⟩:=mL;subst hk;simp only at hR;have D:A=n+1/\r= .sl (n+1) (rr++AE)/\(AE=[]\/(rr.length+AE.length)*(b+1)<=AX):=by
   cases AE with
   |nil=>
    simp only[DO] at Gv;split at Gv;.rename_i Zq;cases Gv;exact⟨Zq,by simp[Zq],.inl rfl⟩
    .cases Gv
   |cons q AE=>
    simp only[DO] at Gv;split at Gv;.rename_i Zq;cases Gv;exact⟨Zq.1,rfl,.inr Zq.2⟩
    .cases Gv
  obtain⟨rfl,UJ,Qn⟩:=D;by_cases hroom:rr.length+AE.length<=cap
  .have hfit:rr.length*(n+1)+news.length<=us.size:=by rw[OX,Z0,<-BH];exact DY _ hroom
   have A3:=run_append_room_src (P:=C.P) w t t' o.type e i ht hi g 0 rr.length cap (a.eval x) AE.length news Ki hroom (λj hj=>by rw[cell_of_row w _ _ us J (0,0) hg,QS,CX Ab];rfl) (λj hj=>frozen_of_row w _ _ us J hg)
   rw[BV,QS,EO news _ us w hg hfit,<-JK] at A3;rw[JK] at DJ;obtain⟨R,mJ,LW,Sx,l⟩:=Kx.qi TH hB hg Z0 hm (Dc n) DJ qR qk KB.one hroom;obtain⟨Q,f⟩:=LW.Xt Sx l o.dst;rw[UJ];exact FW.value (MU _ _ A3) f
  .obtain⟨vs,B,I,H⟩:=hR.values;have NF:∀j,(⟨g,0,none⟩:Addr).add j=⟨g,0+j,none⟩:=λj=>by unfold Addr.add;split<;>simp_all
   refine JI (some ⟨g,0,none⟩) rr.length cap rr vs JK rfl (λq hq=>?_) B (λq hq=>?_) ?_ Ab ?_ UJ;.obtain⟨j,hj⟩:=CU hq;exact(hR.get hj).1
   .obtain⟨j,hj⟩:=CU hq;exact(Kx.D6.Iw _ _ _ (H j q hj)).2.1
   .rw[QS];exact run_firstCells_some w.drew _ _ _ _ _ vs I (λj y hj=>by rw[NF];exact(Kx.D6.Iw _ _ _ (H j y hj)).1)
   .rcases Qn with rfl|Qn
    .simp at hroom;omega
    .exact Qn
def rY{o:Oper}{c:Call}{t t' e:TypeId}{n b:Nat}{s x:Operand}{v u r:Aa}(ho:o.op= .call c)(hc:c.callee= .builtin .append)(h0:c.argTypes[0]?=some t)(h1:c.argTypes[1]?=some t')(EP:c.args.toList=[s,x])(ht:C.P.underlying t=some (.slice e))
  (Gc:(∃d,C.P.underlying t'=some (.slice d))\/C.P.underlying t'=some .string) (K5:B4 C.P e=some (n+1)) (qj:Ke C.P e=some (b+1)) (FG:Lj C Z s=true) (lL:Mh C.P e=true) (hv:Bz C Z [s,x]=some [v,u])
  (hp:AD (.append (n+1) (b+1)) [v,u]=some r) (hr:Dh C U0 w0 U O Z h a w):FW C U0 w0 o a w ((Z.DU (Dv Z s)).put o.dst (.Bu r)) h:=by
 obtain⟨_,_,e0,hvs,qS⟩:=Fb hr hv;cases e0;simp only[AD] at hp;obtain⟨AE,news,Gv,KB,Wc,qR⟩:=xP (w:=w) Gc hr.D6 qS hp;exact OZ ho hc h0 h1 EP ht Gc K5 qj FG lL hv Gv KB Wc qR hr
def mM{o:Oper}{c:Call}{t t' e:TypeId}{n b:Nat}{s x:Operand}{v u r:Aa}(ho:o.op= .call c)(hc:c.callee= .builtin .append)(h0:c.argTypes[0]?=some t)(h1:c.argTypes[1]?=some t')(EP:c.args.toList=[s,x])(ht:C.P.underlying t=some (.slice e))
  (Gc:(∃d,C.P.underlying t'=some (.slice d))\/C.P.underlying t'=some .string) (K5:B4 C.P e=some (n+1)) (qj:Ke C.P e=some (b+1)) (FG:Lj C Z s=true) (lL:Mh C.P e=true) (hv:Bz C Z [s,x]=some [v,u])
  (hp:Q3 h (n+1) (b+1) v u=some r) (hr:Dh C U0 w0 U O Z h a w):FW C U0 w0 o a w ((Z.DU (Dv Z s)).put o.dst (.Bu r)) h:=by
 obtain⟨_,_,e0,hvs,qS⟩:=Fb hr hv;cases e0;unfold Q3 at hp;cases hq:GZ h (n+1) u with
 |none=>rw[hq] at hp;cases hp
 |some AE=>rw[hq] at hp;obtain⟨news,KB,Wc,qR⟩:=Xx (w:=w) Gc hr.D6 qS hq;exact OZ ho hc h0 h1 EP ht Gc K5 qj FG lL hv hp KB Wc qR hr
end
section
variable{C:FY}{γ0 γ γ':Gh}{w0 w w':World}{Z:Nat->Nat}{U:BT}{h:Ah}{a:Act}{fid:FuncId}{ops:List Oper}
def Sy:∀s:Ai,(Cf s).flatten=s.map λb=>Aa.int .u8 b.toNat
 |[]=>rfl
 |_::s=>by have:=Sy s;simp only[Cf,Bl,CZ] at this⊢;rw[this];rfl
def Mm(γ:Gh):∀l:Ai,Bj γ (Cf l).flatten (l.map λb=>Value.int .u8 b.toNat)
 |[]=>rfl
 |_::l=>⟨_,_,rfl,rfl,Mm γ l⟩
def K8(s:Ai)(cap:Nat):(bytesRow ⟨⟨s⟩⟩ cap).toList.take s.length=s.map λb=>Value.int .u8 b.toNat:=by have:(s.map λb=>Value.int .u8 (b.toNat:Int)).length=s.length:=AH;simp only[bytesRow,GW,Nt];rw[<-this];exact FB
def cU(s:Ai):(⟨⟨s⟩⟩:ByteArray).size=s.length:=by simp[ByteArray.size]
def Y_{o:Oper}{src dst e:TypeId}{x:Operand}{v u:Aa}(ho:o.op= .convert src dst x)(hs:C.P.underlying src=some .string)(hd:C.P.underlying dst=some (.slice e))(he:C.P.underlying e=some (.int .u8))(hx:Bz C U [x]=some [v])(hp:AD .s2b [v]=some u)(hr:Dh C γ0 w0 γ Z U h a w):
  FW C γ0 w0 o a w (U.put o.dst (.val u)) h:=by
 obtain⟨_,e0,hv⟩:=GO hr hx;cases e0;simp only[AD] at hp;split at hp
 .rename_i s Ky;cases Ky;split at hp
  .cases hp;have A3:=run_bytes_of_string (P:=C.P) w src dst e ⟨⟨s⟩⟩ hs hd he;rw[<-Ol hv] at A3;have c:=grownCap_ge w s.length 0 e;rw[cU] at A3;obtain⟨hi,ha⟩:=Pw hr.drew.D6 (bytesRow ⟨⟨s⟩⟩ (grownCap w s.length 0 e)) e ((bytesRow ⟨⟨s⟩⟩ (grownCap w s.length 0 e)).size,(bytesRow ⟨⟨s⟩⟩ (grownCap w s.length 0 e)).size+1) s.length none (λo u ho hu=>by have hm:u∈(bytesRow ⟨⟨s⟩⟩ (grownCap w s.length 0 e)).toList.take s.length:=CD (i:=o) (by rw[C3 ho];simpa using hu);rw[K8] at hm;obtain⟨b,_,rfl⟩:=Bk.1 hm;rfl) (.inl rfl)
   have FZ:=hr.drew.Je hi ha;refine FW.value (v:= .slice (some ⟨w.heap.size,0,none⟩) s.length (grownCap w s.length 0 e)) (by simp only[execOp,ho];exact DK A3) (FZ.put λ_ _=>⟨⟨w.heap.size,0,none⟩,grownCap w s.length 0 e,by simp[Cf],by simpa[Cf] using c,.inl rfl,?_⟩);refine Ot (us:=s.map λb=>Value.int .u8 b.toNat) (λr hr=>?_) (Mm _ s) (λj u hj=>?_);.obtain⟨b,_,rfl⟩:=Bk.1 hr;rfl
   .rw[<-K8 s (grownCap w s.length 0 e),Ci] at hj;split at hj;.rename_i hlt;simp only[Gh.DB,heap_drew,BN,BV,Af hlt];simpa using hj
    .cases hj
  .cases hp
 .cases hp
def cV{o:Oper}{src dst e:TypeId}{x:Operand}{v u:Aa}{h':Ah}(ho:o.op= .convert src dst x)(hs:C.P.underlying src=some .string)(hd:C.P.underlying dst=some (.slice e))(he:C.P.underlying e=some (.int .u8))(hx:E4 C U x=some v)(hp:IW h v=some (h',u))(hr:Dh C γ0 w0 γ Z U h a w):
  FW C γ0 w0 o a w (U.put o.dst (.val u)) h':=by
 have hv:=GJ hr hx;unfold IW at hp;split at hp
 .rename_i s;split at hp
  .cases hp;have A3:=run_bytes_of_string (P:=C.P) w src dst e ⟨⟨s⟩⟩ hs hd he;rw[<-Ol hv] at A3;have c:=grownCap_ge w s.length 0 e;rw[cU] at A3;have hl:(s.map λb=>Aa.int .u8 b.toNat).length=s.length:=AH;have d:(bytesRow ⟨⟨s⟩⟩ (grownCap w s.length 0 e)).size=grownCap w s.length 0 e:=by have e0:ByteArray.size ⟨⟨s⟩⟩=s.length:=cU s;simp only[bytesRow,J8,Array.size_map,Array.size_replicate,e0];simp only[B8];omega
   have qT:s.length<=maxLen:=by
    have qT:s.length<=AX:=by assumption
    simp only[AX] at qT;simp only[maxLen];omega
   obtain⟨γ',En,hm,FZ,K5⟩:=hr.drew.newObj (bytesRow ⟨⟨s⟩⟩ (grownCap w s.length 0 e)) e ((bytesRow ⟨⟨s⟩⟩ (grownCap w s.length 0 e)).size,(bytesRow ⟨⟨s⟩⟩ (grownCap w s.length 0 e)).size+1) (s.map λb=>Aa.int .u8 b.toNat) (.inr (Ag _))
    (by rw[hl,K8];have:=Mm γ s;rw[Sy] at this;exact this)
    (λu hu=>by rw[hl,K8] at hu;obtain⟨b,_,rfl⟩:=Bk.1 hu;rfl)
   exact FW.value (v:= .slice (some ⟨w.heap.size,0,none⟩) s.length (grownCap w s.length 0 e)) (by simp only[execOp,ho];exact DK A3) (FZ.put λ_ _=>⟨w.heap.size,_,hm,rfl,c,⟨Dc 0,grownCap_le_maxLen w _ _ _ qT⟩,by rw[BV,FE,<-d];exact K5⟩)
  .cases hp
 .cases hp
def Ik{O:Type}(l:List O):∀(c j:Nat),j<c*l.length->(List.replicate c l).flatten[j]?=l[j%l.length]?
 |0,j,h=>by simp at h
 |c+1,j,h=>by
  have h':j<c*l.length+l.length:=by rw[BH] at h;omega
  rw[KX,CZ];by_cases hj:j<l.length;.rw[Aj hj,Nat.mod_eq_of_lt hj]
  .rw[Bm Ab,Ik l c _ Ab,show j%l.length=(j-l.length)%l.length from Nat.mod_eq_sub_mod Ab]
def ql{o:Oper}{t e:TypeId}{l c:Operand}{n b:Nat}{z:Aa}{D vc u:Aa}{h':Ah}(ho:o.op= .makeSlice t l c)(ht:C.P.underlying t=some (.slice e))(K5:B4 C.P e=some (n+1))(qj:Ke C.P e=some (b+1))(hz:Hb C.P e=some z)(hl:E4 C U l=some D)(hc:E4 C U c=some vc)
  (hm:Sg h (n+1) (b+1) z.cells D vc=some (h',u)) (hr:Dh C γ0 w0 γ Z U h a w):FW C γ0 w0 o a w (U.put o.dst (.val u)) h':=by
 unfold Sg at hm;split at hm
 .rename_i k m;split at hm
  .rename_i H5;obtain⟨K,J,I,B⟩:=H5;cases hm;unfold Hb at hz;cases hi:C.P.info? e with
   |none=>rw[hi] at hz;cases hz
   |some i=>
    rw[hi] at hz;cases ni:i.zero with
    |none=>simp[ni] at hz
    |some f=>
     simp only[Cw,ni] at hz;have QS:=JW K5 hi;have A:=LX qj hi;obtain⟨E,G⟩:=Ht (γ:=γ) (Fu hz) Ab;have cT:f.cells.size=n+1:=by have:=E.length;simp at this;omega
     have q:m.toNat*(b+1)<=AX:=I;have g:m.toNat<=AX:=Bs (IQ m.toNat (Dc b)) q;have A3:=run_make (P:=C.P) w t e i f ht hi ni .i64 .i64 k m K J (by
      rw[A];have H:((b+1:Nat):Int)*m=((m.toNat*(b+1):Nat):Int):=by rw[Int.natCast_mul,GX Ab,Int.mul_comm]
      rw[H];simp only[AX] at q;omega) (by simp only[AX] at g;omega)
     rw[<-Ez (GJ hr hl),<-Ez (GJ hr hc)] at A3;have hlen:((List.replicate m.toNat z.cells).flatten).length=m.toNat*(n+1):=by rw[Hv (z:=n+1) (λr hr=>by rw[aAb hr,B]),FV]
     have p:∀(j:Nat) (u:Value),(madeCells f.cells (m.toNat*i.size)).toList[j]?=some u->j<m.toNat*(n+1)/\f.cells.toList[j%(n+1)]?=some u:=by
      intro j u hj;have aD:j<m.toNat*(n+1):=by have:=(Ak.1 hj).1;simpa[size_madeCells,QS] using this
      refine⟨aD,?_⟩;have aBV:j%(n+1)<f.cells.size:=by rw[cT];exact Nat.mod_lt _ (Dc n)
      simp only[madeCells,Nt,Cm] at hj;have d:(Array.range (m.toNat*i.size)).toList[j]?=some j:=by simp[QS,aD]
      rw[d] at hj;simp only[B0,BB] at hj;rw[cT] at hj;rw[<-hj];simp[aBV]
     have F:Bj γ (List.replicate m.toNat z.cells).flatten (madeCells f.cells (m.toNat*i.size)).toList:=by refine Bj.Hd (by simp[hlen,size_madeCells,QS]) λj x u hx hu=>?_;obtain⟨aD,y⟩:=p j u hu;rw[Ik z.cells _ _ (by rw[B];exact aD),B] at hx;obtain⟨L,xL,s⟩:=E.get hx;rw[y] at xL;cases xL;exact s
     obtain⟨γ',En,v,FZ,aKS⟩:=hr.newObj (madeCells f.cells (m.toNat*i.size)) e (0,0) (List.replicate m.toNat z.cells).flatten (.inl rfl) (F.W_ (by rw[F.length];exact Ag _)) (λu hu=>by obtain⟨j,hj⟩:=CU (Bp hu);exact G u (CD (p j u hj).2))
     exact FW.value (by simp only[execOp,ho];exact DK A3) (FZ.put λ_ _=>⟨w.heap.size,m.toNat,v,rfl,Ab,⟨Dc n,by simp only[AX] at g;simp only[maxLen];omega⟩,by rw[aKS,size_madeCells,QS,BV]⟩)
  .cases hm
 .cases hm
def Dh.aFy(hr:Dh C γ0 w0 γ Z U h a w){g:Nat}(FG:γ.Bu g=some (.tail U.length none 0))(hB:w0.heap.size<=g){us:Array Value}{e:TypeId}(hg:w.heap[g]?=some (.cells us e (0,0)))(DT:Array Value)(cs:List Aa)
  (hv:Bj γ cs (DT.toList.take cs.length)) (h1:∀u∈DT.toList.take cs.length,u.oneCell'=true):∃γ',γ.le γ'/\γ'.mu h.length=some g/\Dh C γ0 w0 γ' Z U (h++[.cells cs]) a (w.setRow g DT)/\γ'.sz g=some DT.size:=by
 have f:γ.mu h.length=none:=by
  cases hc:γ.mu h.length with
  |none=>rfl
  |some y=>exact absurd (hr.D6.mu _ y hc) (Dr _)
 have K5:γ.sz g=none:=by
  cases hc:γ.sz g with
  |none=>rfl
  |some y=>obtain⟨_,r⟩:=hr.D6.sz g y hc;rw[FG] at r;rcases r with r|⟨_,r⟩<;>cases r
 have En:γ.le (γ.B1 g h.length (some DT.size)):=⟨λ_ _ _ hv=>hv,λid b hm=>by
  have:id≠h.length:=λhe=>by rw[he,f] at hm;cases hm
  simp only[Gh.B1,Ad this];exact hm,λb n hm=>by
  have:b≠g:=λhe=>by rw[he,K5] at hm;cases hm
  simp only[Gh.B1,Ad this];exact hm⟩
 have aBQ:∀b n,(γ.B1 g h.length (some DT.size)).sz b=some n->(∃us e fr,(w.setRow g DT).heap[b]?=some (.cells us e fr)/\us.size=n)/\((γ.B1 g h.length (some DT.size)).Bu b=none\/∃id,(γ.B1 g h.length (some DT.size)).Bu b=some (.Mj id)):=λb n hb=>by
  by_cases he:b=g;.subst he;simp only[Gh.B1,BN] at hb;cases hb;exact⟨⟨DT,e,(0,0),setRow_heap w b us DT e (0,0) hg,rfl⟩,.inr ⟨h.length,by simp[Gh.B1]⟩⟩
  .simp only[Gh.B1,Ad he] at hb⊢;obtain⟨p,r⟩:=hr.D6.sz b n hb;exact⟨by rw[setRow_other w g b DT he];exact p,r⟩
 have hne:∀b id,γ.Bu b=some (.Mj id)->b≠g:=λb id hb he=>by rw[he,FG] at hb;cases hb
 have hk:Qm g γ w (γ.B1 g h.length (some DT.size)) (w.setRow g DT):=⟨En,λb x hb hx _=>⟨by simp only[Gh.B1,Ad hb];exact hx,setRow_other w g b DT hb⟩⟩;refine⟨_,En,by simp[Gh.B1],⟨⟨λb o v hb=>?_,λid y Ie hy=>?_,λid GY hc b hb=>?_,λid es hc b hb=>?_,λid b hb=>?_,λb y hy=>?_,aBQ⟩,⟨hr.fr.size,λs=>?_⟩,hr.D0.write (g:=g) hB En AH rfl rfl rfl (λb hb=>⟨setRow_other w g b DT hb,by simp only[Gh.B1,Ad hb]⟩),hr.defers,λx GY hx=>C8.mono En _ _ _ (hr.Ha x GY hx)⟩,by simp[Gh.B1]⟩
 .obtain⟨p,q,r⟩:=hr.D6.Iw b o v hb;have Oj:b≠g:=λhe=>by
   subst he;rw[FG] at r;rcases r with r|⟨_,_,_,r,hl⟩
   .cases r
   .cases r;omega
  exact⟨by rw[CV (setRow_other w g b DT Oj)];exact p,q,by simp only[Gh.B1,Ad Oj];exact r⟩
 .by_cases he:id=h.length;.exact⟨g,by simp[Gh.B1,he],by simp[Gh.B1,he]⟩
  .have Xk:id<h.length:=by rw[Ak] at Ie;obtain⟨hl,_⟩:=Ie;simp at hl;omega
   rw[Aj Xk] at Ie;obtain⟨b,p,q⟩:=hr.D6.Mj id y Ie hy;exact⟨b,by simp only[Gh.B1,Ad he];exact p,by simp only[Gh.B1,Ad (hne b id q)];exact q⟩
 .by_cases he:id=h.length;.subst he;simp[Gh.B1] at hb;subst hb;simp at hc;subst hc;exact⟨DT,e,(0,0),setRow_heap w g us DT e (0,0) hg,.inl rfl,Bj.mono En _ _ hv,h1⟩
  .simp only[Gh.B1,Ad he] at hb;have Xk:=hr.D6.mu id b hb;rw[Aj Xk] at hc;obtain⟨b',c,d⟩:=hr.D6.Mj id _ hc AH;rw[hb] at c;cases c;obtain⟨rH,i,pv,p,pf,q,r⟩:=hr.D6.cells id GY hc b hb;exact⟨rH,i,pv,by rw[setRow_other w g b DT (hne b id d)];exact p,pf,Bj.mono En _ _ q,r⟩
 .by_cases he:id=h.length;.subst he;simp at hc
  .simp only[Gh.B1,Ad he] at hb;have Xk:=hr.D6.mu id b hb;rw[Aj Xk] at hc;obtain⟨b',c,d⟩:=hr.D6.Mj id _ hc AH;rw[hb] at c;cases c;obtain⟨DE,clock,p,q⟩:=hr.D6.map id es hc b hb;exact⟨DE,clock,by rw[setRow_other w g b DT (hne b id d)];exact p,q.mono En⟩
 .by_cases he:id=h.length;.simp[he]
  .simp only[Gh.B1,Ad he] at hb;have:=hr.D6.mu id b hb;simp;omega
 .by_cases Oj:b=g;.subst Oj;have:=hr.D6.Bu _ _ FG;simpa using this
  .simp only[Gh.B1,Ad Oj] at hy;have:=hr.D6.Bu b y hy;simpa using this
 .by_cases hs:s=U.length;.subst hs;rw[BT.TX];trivial
  .exact(hr.fr.It s).keptBut FG hk (by simp only[KH.rE];intro hx;cases hx;exact hs rfl)
def Dh.Pk(hr:Dh C γ0 w0 γ Z U h a w){v v':Aa}{u:Value}{h':Ah}(hv:BQ γ v u)(hf:KA h v=some (h',v')):∃γ',γ.le γ'/\Dh C γ0 w0 γ' Z U h' a w/\BQ γ' v' u:=by
 unfold KA at hf;split at hf
 .rename_i id off n z;obtain⟨b,cap,hb,hu,hc,hz,K5⟩:=hv;split at hf
  .rename_i cs hcs;split at hf
   .rename_i hl;cases hf;obtain⟨us,e,fr,q,pf,p,m⟩:=hr.D6.cells id cs hcs b hb;obtain⟨hi,ha⟩:=px hr.D6 hcs hb q m;have qR:∀(k o:Nat),(CA cs z o k).length=k:=by
     intro k;induction k with
     |zero=>intro o;rfl
     |succ k ih=>intro o;simp[CA,ih]
    have d:∀(k o i:Nat) (r:List Aa),(CA cs z o k)[i]?=some r->i<k/\r=(cs.drop (o+i*z)).take z:=by
     intro k;induction k with
     |zero=>intro o i r h;simp[CA] at h
     |succ k ih=>
      intro o i r h;cases i with
      |zero=>simp[CA] at h;exact⟨Dc _,by simpa using h.symm⟩
      |succ i=>simp[CA] at h;obtain⟨l,g⟩:=ih _ _ _ h;exact⟨Ab,by rw[g];congr 2;rw[BH];omega⟩
    refine⟨_,ha.le,hr.Je hi ha,⟨b,off,none⟩,cap,by rw[qR];exact hu,by rw[qR];exact hc,.inl rfl,E5.Hd λi r f=>?_⟩;obtain⟨l,rfl⟩:=d n off i r f;have t:i*z+z<=n*z:=by have:=DY z (Ab:i+1<=n);rwa [BH,D7] at this
    refine⟨Ei,C8.Hd λj x hj=>?_⟩;rw[Ci] at hj;split at hj;.rename_i s;rw[Ct] at hj;obtain⟨y,hy,c⟩:=p.get hj;have hlt:off+i*z+j<cs.length:=(Ak.1 hj).1;refine⟨y,?_,BQ.mono ha.le _ _ c⟩;simp only[Gh.DB,BN,Af hlt];rw[C3 hlt] at hy;simpa using hy
    .cases hj
   .cases hf
  .cases hf
 .cases hf;exact⟨γ,.refl _,hr,hv⟩
def SA:∀{AE:List (List Aa)} {s:Ai},MW AE=some s->∃ns:List Int,AE=ns.map (λn=>[.int .u8 n])/\s=ns.map λn=>UInt8.ofNat n.toNat
 |[],s,hs=>by cases hs;exact⟨[],rfl,rfl⟩
 |r::AE,s,hs=>by
  unfold MW at hs;split at hs;.rename_i Ky;cases Ky
  .rename_i n rs Ky;cases Ky;cases hq:MW AE with
   |none=>rw[hq] at hs;cases hs
   |some l=>rw[hq] at hs;cases hs;obtain⟨ns,rfl,rfl⟩:=SA hq;exact⟨n::ns,rfl,rfl⟩
  .cases hs
def Xy:∀(ns:List Int) (r:ByteArray),ns.foldl (λr n=>r.push (UInt8.ofNat n.toNat)) r=⟨r.data++(ns.map λn=>UInt8.ofNat n.toNat).toArray⟩
 |[],r=>AH
 |n::ns,r=>by rw[my,Xy ns];simp[ByteArray.push]
def Z_{o:Oper}{src dst e:TypeId}{x:Operand}{v v' u:Aa}{h':Ah}(ho:o.op= .convert src dst x)(hs:C.P.underlying src=some (.slice e))(hd:C.P.underlying dst=some .string)(he:C.P.underlying e=some (.int .u8))(hx:E4 C U x=some v)(hf:KA h v=some (h',v'))(hp:AD .WV [v']=some u)
  (hr:Dh C γ0 w0 γ Z U h a w):FW C γ0 w0 o a w (U.put o.dst (.val u)) h':=by
 obtain⟨γ',En,FZ,DJ⟩:=hr.Pk (GJ hr hx) hf;have MU:∀s,(Conv.bytesToString (a.eval x)).run C.P w= .ok s w->(∃p l c,a.eval x= .slice p l c)->(execOp a.eval o).run C.P w= .ok (.value s) w:=λs A3 ⟨p,l,c,qT⟩=>by simp only[execOp,ho];refine DK ?_;rw[qT] at A3⊢;rw[run_convert_bytes_string w src dst e p l c hs he hd];exact A3
 simp only[AD] at hp;unfold WX at hp;split at hp
 .rename_i AE;cases hq:MW AE with
  |none=>rw[hq] at hp;cases hp
  |some s=>
   rw[hq] at hp;cases hp;obtain⟨ns,rfl,rfl⟩:=SA hq;obtain⟨d,cap,qT,hc,hsp,hR⟩:=DJ;have NF:∀(j:Nat) (v:Value),(ns.map (Value.int .u8))[j]?=some v->d.add j=⟨d.block,d.off+j,none⟩:=λj v hj=>by
    have hpos:0<ns.length:=by have:=(Ak.1 hj).1;simp at this;omega
    have rO:=Oh hsp hc (by simpa using hpos);generalize d.block=b at*;generalize d.off=o at*;subst rO;unfold Addr.add;split<;>simp_all
   have hl:=run_loadCells_list (P:=C.P) w d (ns.map (Value.int .u8)) (λj v hj=>by
    rw[NF j v hj];simp only[Cm] at hj;cases hn:ns[j]? with
    |none=>rw[hn] at hj;cases hj
    |some n=>rw[hn] at hj;cases hj;obtain⟨_,m⟩:=hR.get (i:=j) (r:=[.int .u8 n]) (by simp[hn]);obtain⟨y,hy,g⟩:=m.get (i:=0) (a:= .int .u8 n) rfl;rw[show y=_ from g] at hy;have:=(FZ.D6.Iw _ _ _ hy).1;simpa using this)
   simp only[An] at hl;have A3:=run_bytesToString (P:=C.P) w d ns.length cap ns hl;have k:ByteArray.empty.data=#[]:=rfl;rw[Xy,k,Array.empty_append] at A3;have f:a.eval x= .slice (some d) ns.length cap:=by rw[qT];simp
   rw[<-f] at A3;exact FW.value (MU _ A3 ⟨_,_,_,f⟩) (FZ.put λ_ _=>rfl)
 .cases hp;have f:a.eval x= .slice none 0 0:=DJ;have A3:(Conv.bytesToString (a.eval x)).run C.P w= .ok (.string ⟨⟨[]⟩⟩) w:=by rw[f];simp[Conv.bytesToString];rfl
  exact FW.value (MU _ A3 ⟨_,_,_,f⟩) (FZ.put λ_ _=>rfl)
 .cases hp
def qm(C:FY)(f:FuncId):Prop:=
 (∃fn c,C.P.funcs[f]?=some fn/\(fn.name== "runtime.NumGoroutine")=false/\fn.body=some c)/\
 ∀(γ:Gh) (h:Ah) (w:World) (s:Aa) (d:Value) (i x:Int) (h':Ah) (r:Aa) (g b:Nat) (us:Array Value) (e:TypeId),Hm γ h w->BQ γ s d->Qi h [s,.int .i64 i,.sl 1 [[.int .i64 x]]]=some (h',r)->
  w.heap[g]?=some (.cells us e (0,0))->us[0]?=some (.int .i64 x)->(∀id,γ.Bu g≠some (.Mj id))->1<=b->us.size=b->
  Calls C.P f #[d,.int .i64 i,.slice (some ⟨g,0,none⟩) 1 b] w λe w'=>match e with
   | .returned v=>∃γ',Hm γ' h' w'/\Lm γ w γ' w'/\BQ γ' r v
   |_=>False
def Fc(C:FY)(run:IT->Ah->Option Ka):Prop:=
 ((∀g cs,C.Ha g=some cs->cs.all Aa.MT=true)/\∀f,C.L8 f=true->qm C f)/\
 ∀(f:FuncId) (args:List Aa) (h:Ah) (r:Aa) (h':Ah),run (B9 C f args) h=some (.ret,[r],h')->
  (∃fn c,C.P.funcs[ED f]?=some fn/\(fn.name== "runtime.NumGoroutine")=false/\fn.body=some c)/\
  ∀(γ:Gh) (w:World) (cargs:Array Value),Hm γ h w->(∀g cs,C.Ha g=some cs->C8 γ cs g 0)->Bj γ args cargs.toList->
   Calls C.P (ED f) cargs w λe w'=>match e with
    | .returned v=>∃γ',Hm γ' h' w'/\Lm γ w γ' w'/\BQ γ' r v/\(C.Jl f=true->∃s c,IZ γ' w.heap.size w' s c v r)
    |_=>False
def Dh.aBW(hr:Dh C γ0 w0 γ Z U h a w){h':Ah}{r:Aa}{v:Value}(hi:Hm γ' h' w')(ha:Lm γ w γ' w')(hv:BQ γ' r v){Bu:Bool}(ho:Bu=true->∃s c,IZ γ' w.heap.size w' s c v r)(d:Option Nat):
  ∃f,Dh C γ0 w0 f Z (U.put d (if Bu then .Bu r else .val r)) h' (a.put d v) w':=by
 cases Bu with
 |false=>exact⟨γ',(hr.Je hi ha).put λ_ _=>hv⟩
 |true=>
  obtain⟨s,c,j⟩:=ho rfl;rcases j with j|⟨g,n,cap,us,e,z,AE,rfl,h2,m,l,k⟩
  .exact⟨γ',(hr.Je hi ha).put λ_ _=>⟨hv,.inl j⟩⟩
  .have i:Lm γ w (γ'.FO g (.tail U.length none (n*z))) w':=⟨ha.le.trans (Hs _ _ _),ha.size,ha.os,ha.tape,ha.output,λb hb hn=>by obtain⟨p,q⟩:=ha.Oi b hb hn;exact⟨p,by simp only[Gh.FO,Ad (Ab:b≠g)];exact q⟩⟩
   have FZ:=hr.Je (hi.FO (s':=U.length) (c':=none) m) i;exact FZ.Xt (BQ.mono (Hs _ _ _) _ _ hv) (.inr ⟨g,n,cap,us,e,z,AE,rfl,h2,by simp[Gh.FO],Bs hr.D0.size l,k⟩) d
def Iu{P:Program}{f:FuncId}{fn:Func}{c:Code}(hf:P.funcs[f]?=some fn)(hname:(fn.name== "runtime.NumGoroutine")=false)(hb:fn.body=some c)(args:Array Value)(w:World):
  (callFunc f args).run P w= .ok (.enter f args) w:=by
 have hn:¬fn.name= "runtime.NumGoroutine":=by simpa using hname
 simp[callFunc,hf,hn,hb]
def SB{o:Oper}{f:FuncId}{cargs:Array Value}{K:Act->World->Prop}{Q:Exit->Act->World->Prop}(he:(execOp a.eval o).run C.P w= .ok (.enter f cargs) w){R:Value->World->Prop}
  (hc:Calls C.P f cargs w λe w'=>match e with| .returned v=>R v w'|_=>False) (hk:∀v w',R v w'->K (a.put o.dst v) w'):o.wp C.P a w K Q:=by
 unfold Oper.wp;rw[he];refine hc.mono λe w' h=>?_;cases e with
 |returned v=>exact hk v w' h
 |_=>exact h.elim
def qn{run:IT->Ah->Option Ka}(g:Fc C run){o:Oper}{c:Call}{f:FuncId}{args:List Aa}{r:Aa}{h':Ah}{K:Act->World->Prop}{Q:Exit->Act->World->Prop}(ho:o.op= .call c)(hcl:c.callee= .value (.func (ED f)))(ha:Bz C U c.args.toList=some args)
  (A3:run (B9 C f args) h=some (.ret,[r],h')) (hr:Dh C γ0 w0 γ Z U h a w) (i:∀γ' v w',Dh C γ0 w0 γ' Z (U.put o.dst (if C.Jl f then .Bu r else .val r)) h' (a.put o.dst v) w'->K (a.put o.dst v) w'):o.wp C.P a w K Q:=by
 obtain⟨⟨fn,j,hf,hname,hb⟩,d⟩:=g.2 f args h r h' A3;have b:Bj γ args (c.args.map a.eval).toList:=by simpa using D1 hr ha
 refine SB (f:=ED f) (cargs:=c.args.map a.eval) ?_ (d γ w _ hr.D6 hr.Ha b) λv w' ⟨γ',hi,Kj,hv,FG⟩=>?_;.have h0:a.eval (.func (ED f))= .func (.func (ED f)) #[] #[]:=rfl;simp only[execOp,ho,resolve,hcl,Deferred.ofValue,h0,Sem.run_bind,Sem.run_pure,Result.andThen_ok,invoke];simpa using Iu hf hname hb (c.args.map a.eval) w
 .obtain⟨e,LW⟩:=hr.aBW hi Kj hv FG o.dst;exact i e v w' LW
def À{run:IT->Ah->Option Ka}(M:Fc C run){o:Oper}{c:Call}{f:FuncId}{s i x:Operand}{args:List Aa}{r:Aa}{h':Ah}{K:Act->World->Prop}{Q:Exit->Act->World->Prop}(ho:o.op= .call c)(hcl:c.callee= .value (.func f))(hf:C.L8 f=true)(EP:c.args.toList=[s,i,x])(FG:Lj C U x=true)
  (ha:Bz C U [s,i,x]=some args) (hp:Qi h args=some (h',r)) (hr:Dh C γ0 w0 γ Z U h a w) (N:∀γ' v w',Dh C γ0 w0 γ' Z (U.put o.dst (.val r)) h' (a.put o.dst v) w'->K (a.put o.dst v) w'):o.wp C.P a w K Q:=by
 obtain⟨⟨fn,cd,Á,hname,hb⟩,Â⟩:=M.1.2 f hf;have rZ:=D1 hr ha;obtain⟨A,d,f1,g1,f2⟩:∃A d,[a.eval s,a.eval i,a.eval x]=A::d/\BQ γ (args.getD 0 .nilIface) A/\True:=by
  cases args with
  |nil=>cases rZ
  |cons y l=>obtain⟨u,us,e,p,q⟩:=rZ;exact⟨u,us,e,p,trivial⟩
 obtain⟨s',j,x',he,k,G,F⟩:∃s' j x',args=[s',.int .i64 j,.sl 1 [[.int .i64 x']]]/\∃(k:BQ γ s' (a.eval s)) (G:a.eval i= .int .i64 j),BQ γ (.sl 1 [[.int .i64 x']]) (a.eval x):=by
  unfold Qi at hp;split at hp;.obtain⟨_,_,_,e,E,D,B⟩:=rZ.UF;simp only[Bl,Dn,E2,ML] at e;obtain⟨rfl,rfl,rfl⟩:=e;exact⟨_,_,_,rfl,E,D,B⟩
  .obtain⟨_,_,_,e,E,D,B⟩:=rZ.UF;simp only[Bl,Dn,E2,ML] at e;obtain⟨rfl,rfl,rfl⟩:=e;exact⟨_,_,_,rfl,E,D,B⟩
  .cases hp
 subst he;have qS:E4 C U x=some (.sl 1 [[.int .i64 x']]):=by simp only[Bz] at ha;cases h1:E4 C U s<;>cases h2:E4 C U i<;>cases I:E4 C U x<;>simp_all
 obtain⟨sl,qT⟩:∃sl,Ef C U x=some sl:=by
  unfold Lj at FG;cases hs:Ef C U x with
  |none=>rw[hs] at FG;cases FG
  |some sl=>exact⟨sl,rfl⟩
 have aKT:∃v,sl= .Bu v:=by unfold Lj at FG;rw[qT] at FG;cases sl<;>first|exact⟨_,rfl⟩|cases FG
 obtain⟨v,rfl⟩:=aKT;obtain⟨s0,hrel,_⟩:=Gt hr qT;have aKU:v= .sl 1 [[.int .i64 x']]:=by simp only[E4,qT,Cw,Es.Hr,BB] at qS;exact qS
 subst aKU;obtain⟨xO,m⟩:=hrel;rcases m with(m|⟨_,m⟩)|⟨g,n,cap,us,e,z,AE,h1,h2,I,W,H,R,O,V,T⟩
 .cases m
 .cases m
 .cases h1;obtain⟨ad,L,J,Y,X,S⟩:=F;rw[h2] at J;cases J;obtain⟨_,hm,_⟩:=S;obtain⟨⟨u,hu,hru⟩,_⟩:=hm;obtain⟨JU,_,_⟩:=hr.D6.Iw _ _ _ hu;have Z0:us[0]?=some (.int .i64 x'):=by rw[cell_of_row w _ _ us e (0,0) H] at JU;rw[JU];exact Ca some hru
  have b:c.args.map a.eval=#[a.eval s,.int .i64 j,.slice (some ⟨g,0,none⟩) 1 cap]:=by apply HE;simp only[Nt,EP,Bl,Dn,G,h2];rfl
  have We:=Â γ h w s' _ j x' h' r g cap us e hr.D6 k hp H Z0 (λid Ie=>by rw[I] at Ie;cases Ie) O (by rw[R,FE]);rw[<-b] at We;refine SB (f:=f) (cargs:=c.args.map a.eval) ?_ We λv w' ⟨γ',hi,Kj,hv⟩=>?_;.have h0:a.eval (.func f)= .func (.func f) #[] #[]:=rfl;simp only[execOp,ho,resolve,hcl,Deferred.ofValue,h0,Sem.run_bind,Sem.run_pure,Result.andThen_ok,invoke];simpa using Iu Á hname hb (c.args.map a.eval) w
  .obtain⟨t,LW⟩:=hr.aBW (Bu:=false) hi Kj hv (λe=>by cases e) o.dst;exact N t v w' (by simpa using LW)
def Gh.apart(γ:Gh):Gh:={Iw:=γ.Iw,mu:=λ_=>none,Bu:=λb=>match γ.Bu b with|some (.Mj _)=>none|x=>x,sz:=γ.sz}
def Hm.apart(hi:Hm γ h w):Hm γ.apart [] w:=by
 refine⟨λb o v hb=>?_,λid x hx=>by simp at hx,λid cs hx=>by simp at hx,λid es hx=>by simp at hx,λid b hb=>(by cases hb),λb x hx=>?_,λb n hb=>?_⟩;rotate_left 2;.obtain⟨p,r⟩:=hi.sz b n hb;refine⟨p,.inl ?_⟩;simp only[Gh.apart];rcases r with r|⟨_,r⟩<;>rw[r]
 .obtain⟨p,q,r⟩:=hi.Iw b o v hb;refine⟨p,q,?_⟩;simp only[Gh.apart];rcases r with r|⟨s,c,st,r,hl⟩
  .exact .inl (by rw[r])
  .exact .inr ⟨s,c,st,by rw[r],hl⟩
 .simp only[Gh.apart] at hx;split at hx;.cases hx
  .exact hi.Bu b x hx
def Dh.Ã(hr:Dh C γ0 w0 γ Z U h a w){c:Gh}{h1:Ah}(hi:Hm c h1 w')(ha:Lm γ.apart w c w'):∃d,Dh C γ0 w0 d Z U h a w':=by
 have Zi:∀b id,γ.apart.Bu b≠some (.Mj id):=λb id e=>by
  simp only[Gh.apart] at e;split at e;.cases e
  .rename_i hn;exact hn id e
 have NB:∀b,b<w.heap.size->w'.heap[b]?=w.heap[b]?:=λb hb=>(ha.Oi b hb (Zi b)).1;refine⟨γ,hr.Je ⟨λb o v hb=>?_,hr.D6.Mj,λid cs hc b hb=>?_,λid es hc b hb=>?_,hr.D6.mu,λb x hx=>Jp (hr.D6.Bu b x hx) ha.size,λb n hb=>(by
   obtain⟨⟨us,e,fr,p,q⟩,r⟩:=hr.D6.sz b n hb;exact⟨⟨us,e,fr,by rw[NB b (A7.1 p).1];exact p,q⟩,r⟩)⟩
  ⟨.refl _,ha.size,ha.os,ha.tape,ha.output,λb hb _=>⟨NB b hb,rfl⟩⟩⟩
 .obtain⟨p,q,r⟩:=hr.D6.Iw b o v hb;exact⟨by rw[CV (NB b (DV p))];exact p,q,r⟩
 .obtain⟨us,e,fr,p,q⟩:=hr.D6.cells id cs hc b hb;exact⟨us,e,fr,by rw[NB b (A7.1 p).1];exact p,q⟩
 .obtain⟨DE,clock,p,q⟩:=hr.D6.map id es hc b hb;exact⟨DE,clock,by rw[NB b (A7.1 p).1];exact p,q⟩
def Xz{γ γ':Gh}{x:Aa}{v:Value}(hf:x.MT=true)(hv:BQ γ x v):BQ γ' x v:=by cases x<;>first|exact hv|cases hf
def aE{γ γ':Gh}:∀{l:List Aa} {us:List Value},l.all Aa.MT=true->Bj γ l us->Bj γ' l us
 |[],us,_,h=>h
 |x::l,us,hf,h=>by obtain⟨u,DT,e,h1,h2⟩:=h;simp only[cF,BC] at hf;exact⟨u,DT,e,Xz hf.1 h1,aE hf.2 h2⟩
def C8.apart{γ:Gh}:∀{l:List Aa} {b o:Nat},C8 γ l b o->l.all Aa.MT=true->C8 γ.apart l b o
 |[],_,_,_,_=>trivial
 |x::l,b,o,h,hf=>by obtain⟨⟨u,h1,h2⟩,c⟩:=h;simp only[cF,BC] at hf;exact⟨⟨u,h1,Xz hf.1 h2⟩,c.apart hf.2⟩
def f_{run:IT->Ah->Option Ka}(i:Fc C run){o:Oper}{c:Call}{f:FuncId}{args:List Aa}{r:Aa}{h1:Ah}{K:Act->World->Prop}{Q:Exit->Act->World->Prop}(ho:o.op= .call c)(hcl:c.callee= .value (.func (ED f)))(ha:Bz C U c.args.toList=some args)
  (hfa:args.all Aa.MT=true) (A3:run (B9 C f args) []=some (.ret,[r],h1)) (xJ:r.MT=true) (hr:Dh C γ0 w0 γ Z U h a w) (j:∀γ' v w',Dh C γ0 w0 γ' Z (U.put o.dst (.val r)) h (a.put o.dst v) w'->K (a.put o.dst v) w'):o.wp C.P a w K Q:=by
 obtain⟨⟨fn,k,hf,hname,hb⟩,d⟩:=i.2 f args [] r h1 A3;have b:Bj γ.apart args (c.args.map a.eval).toList:=aE hfa (by simpa using D1 hr ha);refine SB (f:=ED f) (cargs:=c.args.map a.eval) ?_ (d γ.apart w _ hr.D6.apart (λg cs hg=>(hr.Ha g cs hg).apart (i.1.1 g cs hg)) b) λv w' ⟨γ',hi,Kj,hv,_⟩=>?_;.have h0:a.eval (.func (ED f))= .func (.func (ED f)) #[] #[]:=rfl;simp only[execOp,ho,resolve,hcl,Deferred.ofValue,h0,Sem.run_bind,Sem.run_pure,Result.andThen_ok,invoke];simpa using Iu hf hname hb (c.args.map a.eval) w
 .obtain⟨e,LW⟩:=hr.Ã hi Kj;exact j e v w' (LW.put λ_ _=>Xz xJ hv)
def gd{run:IT->Ah->Option Ka}(l:Fc C run){o:Oper}{c:Call}{g:Operand}{k:Aa}{f:FuncId}{args args':List Aa}{r:Aa}{h':Ah}{K:Act->World->Prop}{Q:Exit->Act->World->Prop}(ho:o.op= .call c)(hcl:c.callee= .value g)(hg:E4 C U g=some k)
  (ha:Bz C U c.args.toList=some args) (ht:Dp k args=some (f,args')) (A3:run (B9 C f args') h=some (.ret,[r],h')) (hr:Dh C γ0 w0 γ Z U h a w) (m:∀γ' v w',Dh C γ0 w0 γ' Z (U.put o.dst (.val r)) h' (a.put o.dst v) w'->K (a.put o.dst v) w'):o.wp C.P a w K Q:=by
 obtain⟨⟨fn,n,hf,hname,hb⟩,b⟩:=l.2 f args' h r h' A3;have j:=GJ hr hg;unfold Dp at ht;split at ht
 .rename_i f0 first captured
  split at ht;rotate_left;.cases ht
  rename_i qU;cases ht;rw[show ED f=f from Af qU] at hf b;obtain⟨fs,cs,Eg,h1,h2⟩:=j;have d:Bj γ (first++args++captured) (fs++c.args.map a.eval++cs).toList:=by simpa using(h1.append (D1 hr ha)).append h2
  refine SB (f:=f) (cargs:=fs++c.args.map a.eval++cs) ?_ (b γ w _ hr.D6 hr.Ha d) λv w' ⟨γ',hi,Kj,hv,FG⟩=>?_;.simp only[execOp,ho,resolve,hcl,Deferred.ofValue,Eg,Sem.run_bind,Sem.run_pure,Result.andThen_ok,invoke];exact Iu hf hname hb _ w
  .obtain⟨i,LW⟩:=hr.aBW (Bu:=false) hi Kj hv (λe=>by cases e) o.dst;exact m i v w' (by simpa using LW)
 .cases ht
end
end Go.Am
end
