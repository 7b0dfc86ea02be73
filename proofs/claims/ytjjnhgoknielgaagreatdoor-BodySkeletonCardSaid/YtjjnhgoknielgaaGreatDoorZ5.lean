/- Lemmas -/
import Derived.Test.YtjjnhgoknielgaaGreatDoorZ4
import Derived.Deep.AppendSrc
import Derived.Great.BuildSlice
import Derived.Laws.IdiomStrings
set_option linter.all false
section
namespace Go.Am
open Go
section
variable{C:Gj}{U0 U U':Gh}{w0 w w':World}{O:Nat->Nat}{Z:BR}{h:Ai}{a:Act}{fid:FuncId}{ops:List Oper}
def DJ{P:Program}{s:Sem Value}{v:Value}(hs:s.run P w= .ok v w'):(do pure (Next.value (<-s)):Sem Next).run P w= .ok (.value v) w':=by simp[hs]
def Vn{J:Type}{z:Nat}:∀{Ax:List (List J)},(∀r∈Ax,r.length=z)->∀{i:Nat} {r:List J},Ax[i]?=some r->∀{j:Nat} {x:J},r[j]?=some x->Ax.flatten[i*z+j]?=some x
 |[],_,i,r,hi,_,_,_=>by simp at hi
 |q::Ax,hl,0,r,hi,j,x,hj=>by simp at hi;subst hi;have:j<q.length:=(Aj.1 hj).1;simp only[Ns,BE,CO];rw[Al this];exact hj
 |q::Ax,hl,i+1,r,hi,j,x,hj=>by
  simp at hi;have hq:q.length=z:=hl q AB;rw[CO,Bu (by rw[hq,BJ];omega)];have:=Vn (Ax:=Ax) (λr hr=>hl r (by simp[hr])) hi hj;rw[<-this];congr 1
  rw[hq,BJ];omega
def HM{J:Type}{z:Nat}:∀{Ax:List (List J)},(∀r∈Ax,r.length=z)->Ax.flatten.length=Ax.length*z
 |[],_=>AB
 |q::Ax,hl=>by have hq:q.length=z:=hl q AB;simp[hq,HM (Ax:=Ax) (λr hr=>hl r (by simp[hr])),BJ,Qd]
def Ph{Ax:List (List Aa)}{us:List Value}{z b o:Nat}(hl:∀r∈Ax,r.length=z)(hv:A8 U Ax.flatten us)(hi:∀(j:Nat) (u:Value),us[j]?=some u->U.IQ b (o+j)=some u):Fb U Ax z b o:=by refine Fb.Hr λi r hr=>⟨hl r (CH hr),C2.Hr λj x hj=>?_⟩;obtain⟨u,hu,hx⟩:=hv.get (Vn hl hr hj);exact⟨u,by rw[SP];exact hi _ _ hu,hx⟩
def Db.drew(hr:Db C U0 w0 U O Z h a w):Db C U0 w0 U O Z h a w.drew:=hr.Jw (hr.Ee.same rfl) (M1.drew U w)
def BR.Uz(Z:BR):Z.at Z.length= .undef:=by simp[BR.at,List.getD]
def Db.XM(hr:Db C U0 w0 U O Z h a w){x:Aa}{v:Value}(hv:BP U x v)(ho:JO U w0.heap.size w Z.length none v x)(d:Option Nat):∃U',Db C U0 w0 U' O (Z.put d (.BT x)) h (a.put d v) w:=by
 cases d with
 |none=>exact⟨U,hr⟩
 |some d=>
  rcases ho with ho|⟨g,n,cap,us,e,z,Ax,h1,h2,h3,b,c⟩
  .exact⟨U,hr.put λs _=>⟨hv,.inl ho⟩⟩
  .have Kv:=hr.F8 (s':=d) (c':=none) h3 b (λ_ u=>by rw[BR.Uz];simp) (λo ho=>by cases ho);exact⟨_,Kv.put λs hs=>by cases hs;exact⟨BP.mono (HJ _ _ _) _ _ hv,.inr ⟨g,n,cap,us,e,z,Ax,h1,h2,by simp[Gh.F8],b,c⟩⟩⟩
def Db.XN(hr:Db C U0 w0 U O Z h a w)(us:Array Value)(e:TypeId){z n cap:Nat}{Ax:List (List Aa)}(hz:0<z)(hn:Ax.length=n)(hl:∀r∈Ax,r.length=z)(bD:us.size=cap*z)(hc:n<=cap)(hm:cap<=maxLen)
  (hv:A8 U Ax.flatten (us.toList.take (n*z))) (h1:∀u∈us.toList.take (n*z),u.oneCell'=true):
  ∃U',U.le U'/\Db C U0 w0 U' O Z h a (w.alloc (.cells us e))/\BP U' (.sl z Ax) (.slice (some ⟨w.heap.size,0,none⟩) n cap)/\JO U' w0.heap.size (w.alloc (.cells us e)) Z.length none (.slice (some ⟨w.heap.size,0,none⟩) n cap) (.sl z Ax):=by
 obtain⟨hi,ha⟩:=Qk hr.Ee us e (0,0) (n*z) (some (.tail Z.length none (n*z))) (λo u ho hu=>h1 u (CH (i:=o) (by rw[CM ho];simpa using hu))) (.inr (.inl ⟨_,_,rfl⟩));refine⟨_,ha.le,hr.Jw hi ha,⟨⟨w.heap.size,0,none⟩,cap,by rw[hn],Ab,.inl rfl,Ph hl (A8.mono ha.le _ _ hv) λj u hj=>?_⟩,.inr ⟨w.heap.size,n,cap,us,e,z,Ax,rfl,rfl,by simp[Gh.Dy],hr.D7.size,heap_alloc_new w _,bD,hc,hm,hz⟩⟩;rw[CA] at hj;split at hj;.rename_i hlt;simp only[Gh.Dy,BN,BE,Af hlt];simpa using hj
 .cases hj
def XO{size:Nat}:∀(vs:List Value) (k:Nat) (cells:Array Value),(∀v∈vs,v.cells.size=size)->(k+vs.length)*size<=cells.size->
  Instr.fill (λi=>some (i*size,size)) cells ((vs.zipIdx k).map λp=>(p.2,p.1))=some (cells.toList.take (k*size)++vs.flatMap (·.cells.toList)++cells.toList.drop ((k+vs.length)*size)).toArray
 |[],k,cells,_,_=>by simp[Instr.fill]
 |v::vs,k,cells,hv,hl=>by
  have hs:v.cells.size=size:=hv v AB;simp only[AK] at hl;have EU:(k+1)*size+vs.length*size<=cells.size:=by rw[<-BJ];exact Bv (Nr (by congr 1;omega)) hl
  have qX:(k+1)*size=k*size+size:=by rw[BJ,ER]
  simp only[wB,Bj,Instr.fill];have f:¬(v.cells.size≠size\/k*size+v.cells.size>cells.size):=by rw[hs];omega
  simp only[CY,decide_not,JY,Ct,aRM,decide_eq_false_iff_not] at*;rw[Ac f];have hf:=Pd v.cells.toList (k*size) 0 cells (by simp[hs];omega);have aL8:v.cells.zipIdx.foldl (λcs (c,j)=>cs.setIfInBounds (k*size+j) c) cells=(cells.toList.take (k*size)++v.cells.toList++cells.toList.drop (k*size+size)).toArray:=by rw[<-aQi,aLW];rw[hf];simp[hs]
  rw[aL8];have hlen:(cells.toList.take (k*size)++v.cells.toList++cells.toList.drop (k*size+size)).length=cells.size:=by simp[hs];omega
  rw[XO vs (k+1) _ (λu hu=>hv u (by simp[hu])) (by simp only[B5];rw[hlen,BJ];exact EU)]
  congr 2
  have b:(cells.toList.take (k*size)++v.cells.toList).length=(k+1)*size:=by simp[hs];omega
  have e:(cells.toList.take (k*size)++v.cells.toList++cells.toList.drop (k*size+size)).take ((k+1)*size)=cells.toList.take (k*size)++v.cells.toList:=by rw[<-b];exact E5
  have d:(cells.toList.take (k*size)++v.cells.toList++cells.toList.drop (k*size+size)).drop ((k+1+vs.length)*size)=cells.toList.drop ((k+(vs.length+1))*size):=by
   rw[Jf,AR (by rw[b];exact Ex _ Ab),b,Ew,BA];congr 1
   have:(k+1+vs.length)*size-(k+1)*size=vs.length*size:=by rw[BJ (k+1)];omega
   rw[this,BJ k,BJ vs.length];omega
  rw[e,d];simp
def L2{P:Program}{t:TypeId}(h:MZ P t=true):∃i z,P.info? t=some i/\i.zero=some z/\z.cells.size=i.size:=by
 unfold MZ at h;split at h
 .rename_i i hi;split at h;.rename_i z hz;exact⟨i,z,hi,hz,by simpa using h⟩
  .cases h
 .cases h
def Kj{P:Program}{t:TypeId}{n:Nat}{i:TypeInfo}(h:B0 P t=some n)(hi:P.info? t=some i):i.size=n:=by simpa[B0,hi] using h
def MH{P:Program}{t:TypeId}{n:Nat}{i:TypeInfo}(h:KD P t=some n)(hi:P.info? t=some i):i.bytes=n:=by simpa[KD,hi] using h
def XP:∀{args:List Aa} {us:List Value} {z:Nat},A8 U args us->(∀x∈args,x.cells.length=z)->0<z->A8 U (args.map (·.cells)).flatten (us.flatMap (·.cells.toList))/\(∀u∈us.flatMap (·.cells.toList),u.oneCell'=true)/\∀u∈us,u.cells.size=z
 |[],us,z,h,_,_=>by rw[A8] at h;subst h;exact⟨rfl,AB,AB⟩
 |x::args,us,z,h,hl,hz=>by
  obtain⟨u,DR,rfl,h1,h2⟩:=h;have hx:=hl x AB;obtain⟨b,e⟩:=HK h1 Ab;obtain⟨d,r2,c⟩:=XP h2 (λy hy=>hl y (by simp[hy])) hz;refine⟨by simpa using b.append d,λv hv=>?_,λv hv=>?_⟩;.simp only[List.flatMap_cons,An] at hv;exact hv.elim (e v) (r2 v)
  .rcases AE.1 hv with rfl|hv
   .have:=b.length;simp at this;omega
   .exact c v hv
def bO{a:Act}:∀{l:List (Nat×Operand)} {k:Nat},l.map (·.1)=List.range' k l.length->l.map (λp=>(p.1,a.eval p.2))=((l.map λp=>a.eval p.2).zipIdx k).map λp=>(p.2,p.1)
 |[],k,_=>AB
 |(i,x)::l,k,h=>by simp only[Bj,AK,List.range'_succ,Cs] at h;obtain⟨rfl,h⟩:=h;simp[wB,bO h]
def xc{o:Oper}{t e:TypeId}{len n:Nat}{parts:Array (Nat×Operand)}{args:List Aa}{u:Aa}(ho:o.op= .buildSlice t len parts)(ht:C.P.underlying t=some (.slice e))(Lk:B0 C.P e=some (n+1))(hp:parts.toList.map (·.1)=List.range len)(lE:MZ C.P e=true)
  (ha:Bs C Z (parts.toList.map (·.2))=some args) (hu:AH (.CC (n+1)) args=some u) (hr:Db C U0 w0 U O Z h a w):Ga C U0 w0 o a w (Z.put o.dst (.BT u)) h:=by
 obtain⟨i,z,hi,hz,eW⟩:=L2 lE;have RF:=Kj Lk hi;simp only[AH] at hu;split at hu
 .rename_i hc;cases hu;simp only[Bb,DQ,ı,Ct] at hc;obtain⟨ZU,Mn⟩:=hc;have E0:=D8 hr ha;have hlen:parts.toList.length=len:=by have:=B3 List.length hp;simpa using this
  have WE:args.length=len:=by have:=E0.length;simp at this;simp at hlen;omega
  obtain⟨f,j,g⟩:=XP E0 ZU (C3 n);have bP:=f.length;rw[HM (z:=n+1) (by intro r hr;obtain⟨x,hx,rfl⟩:=A7.1 hr;exact ZU x hx),Aw,WE] at bP;have AM:∃cells:Array Value,cells.toList=(parts.toList.map (·.2) |>.map a.eval).flatMap (·.cells.toList)/\(Instr.buildSlice t len (parts.map λ(i,x)=>(i,a.eval x))).run C.P w= .ok (.slice (some ⟨w.heap.size,0,none⟩) len len) (w.alloc (.cells cells e)):=by
   have eQ:(parts.map λ(i,x)=>(i,a.eval x)).toList=(((parts.toList.map (·.2)).map a.eval).zipIdx 0).map λp=>(p.2,p.1):=by have:=bO (a:=a) (l:=parts.toList) (k:=0) (by rw[hlen,<-aKW];exact hp);simp only[Oc,List.map_map];exact this
   have wY:=XO (size:=n+1) ((parts.toList.map (·.2)).map a.eval) 0 ((Array.range (len*(n+1))).map (z.cells[·%z.cells.size]!)) g (by simp at hlen⊢;rw[hlen];exact Ad _);rw[<-eQ] at wY;have e0:((Array.range (len*(n+1))).map (z.cells[·%z.cells.size]!)).toList.drop ((0+((parts.toList.map (·.2)).map a.eval).length)*(n+1))=[]:=by apply AR;simp at hlen⊢;rw[hlen];exact Ad _
   rw[e0] at wY;simp only[Ns,Q6,BA,Bg] at wY;refine⟨_,rfl,?_⟩;by_cases h0:len*(n+1)=0
   .have d:len=0:=by
     rcases Nat.mul_eq_zero.1 h0 with h|h
     .exact h
     .omega
    subst d;have c:parts=#[]:=by apply Je;simpa using hlen
    subst c;have b:(Array.range 0:Array Nat)=#[]:=rfl;simp[Instr.buildSlice,run_underlying ht,sizeOf,typeInfo,hi,newRow,Instr.fill,b]
   .exact run_buildSlice w t e len _ _ i z ht hi hz (by rw[RF];rw[WE] at Mn;omega) (by rw[RF];exact h0) (by rw[RF];exact wY)
  obtain⟨cells,hcells,AM⟩:=AM;have hcs:cells.size=len*(n+1):=by rw[<-Cp,hcells];exact bP
  obtain⟨U',EU,HY,K5,FX⟩:=hr.XN cells e (z:=n+1) (n:=len) (cap:=len) (Ax:=args.map (·.cells)) (C3 n) (by simp[WE]) (by intro r hr;obtain⟨x,hx,rfl⟩:=A7.1 hr;exact ZU x hx) hcs (Ad _)
   (by rw[WE] at Mn;have:len<=len*(n+1):=Jg _ (C3 n);simp only[maxLen];omega) (by rw[hcells,Bf (by rw[bP];exact Ad _)];exact f) (by rw[hcells,Bf (by rw[bP];exact Ad _)];exact j)
  obtain⟨m,M5⟩:=HY.XM K5 FX o.dst;exact Ga.value (by simp only[execOp,ho];exact DJ AM) M5
 .cases hu
def xd{o:Oper}{t e:TypeId}{len n:Nat}{parts:Array (Nat×Operand)}(ho:o.op= .buildSlice t len parts)(ht:C.P.underlying t=some (.slice e))(Lk:B0 C.P e=some (n+1))(hp:parts.toList.map (·.1)=List.range len)(lE:MZ C.P e=true)(h0:len=0)
  (hr:Db C U0 w0 U O Z h a w):Ga C U0 w0 o a w (Z.put o.dst (.BT (.GX (n+1)))) h:=by
 subst h0;obtain⟨i,z,hi,hz,eW⟩:=L2 lE;have c:parts=#[]:=by apply Je;have:=B3 List.length hp;simpa using this
 subst c;have b:(Array.range 0:Array Nat)=#[]:=rfl;have AM:(Instr.buildSlice t 0 ((#[]:Array (Nat×Operand)).map λ(i,x)=>(i,a.eval x))).run C.P w= .ok (.slice (some ⟨w.heap.size,0,none⟩) 0 0) (w.alloc (.cells #[] e)):=by simp[Instr.buildSlice,run_underlying ht,sizeOf,typeInfo,hi,newRow,Instr.fill,b]
 obtain⟨U',EU,HY,_,_⟩:=hr.XN #[] e (z:=n+1) (n:=0) (cap:=0) (Ax:=[]) (C3 n) rfl AB AB (Ad _) (by simp[maxLen]) (by rw[Ns];exact(rfl:A8 U [] [])) AB;obtain⟨d,M5⟩:=HY.XM (x:= .GX (n+1)) (v:= .slice (some ⟨w.heap.size,0,none⟩) 0 0) ⟨_,rfl⟩ (.inl (.inr ⟨_,rfl⟩)) o.dst;exact Ga.value (by simp only[execOp,ho];exact DJ AM) M5
def xC{t':TypeId}{size bytes:Nat}{v u r:Aa}{d:Value}(JN:(∃i,C.P.underlying t'=some (.slice i))\/C.P.underlying t'=some .string)(hi:Ic U h w)(hu:BP U u d)(hp:IW size bytes v u=some r):
  ∃(Ax:List (List Aa)) (news:List Value),DZ size bytes v Ax=some r/\Src C.P size t' d Ax.length news w/\A8 U Ax.flatten news/\(∀r∈Ax,r.length=size):=by
 unfold IW at hp;split at hp;.rw[show d=_ from hu];exact⟨[],[],hp,⟨JN,λ_=>rfl,run_firstCells_none w size 0 0 0,run_firstCells_none w.drew size 0 0 0,AB,AB⟩,rfl,AB⟩
 .rename_i z;split at hp;.obtain⟨b,Ő⟩:=hu;rw[Ő];exact⟨[],[],hp,⟨JN,λ_=>rfl,run_firstCells_some w _ _ _ _ _ [] AB (λj x hj=>by simp at hj),run_firstCells_some w.drew _ _ _ _ _ [] AB (λj x hj=>by simp at hj),AB,AB⟩,rfl,AB⟩
  .cases hp
 .rename_i z Ax;split at hp
  .rename_i hz;subst hz;obtain⟨c,cap,Ő,Qr,hsp,hR⟩:=hu;obtain⟨us,g,e,f⟩:=hR.values;have M4:∀(j:Nat) (x:Value),us[j]?=some x->c.add j=⟨c.block,c.off+j,none⟩:=λj x hj=>by
    have hpos:0<Ax.length:=by
     rcases Ge Ax.length with h0|h0
     .have:us.length=0:=by rw[e,h0,Ns]
      rw[CX this] at hj;simp at hj
     .exact h0
    have qZ:=O5 hsp Qr hpos;generalize c.block=b at*;generalize c.off=o at*;subst qZ;unfold Addr.add;split<;>simp_all
   rw[Ő];refine⟨Ax,us,hp,⟨JN,λ_=>rfl,run_firstCells_some w _ _ _ _ _ us e (λj x hj=>by rw[M4 j x hj];exact(hi.IQ _ _ _ (f j x hj)).1),run_firstCells_some w.drew _ _ _ _ _ us e (λj x hj=>by rw[M4 j x hj];exact(hi.IQ _ _ _ (f j x hj)).1),e,λx hx=>?_⟩,g,λr hr=>?_⟩;.obtain⟨j,hj⟩:=CP hx;exact(hi.IQ _ _ _ (f j x hj)).2.1
   .obtain⟨j,hj⟩:=CP hr;exact(hR.get hj).1
  .cases hp
 .rename_i s;split at hp
  .rename_i hz;subst hz;rw[show d=_ from hu];have hlen:(C8 s).length=(⟨⟨s⟩⟩:ByteArray).size:=by simp[C8,ByteArray.size]
   have hrel:∀l:List UInt8,A8 U (C8 l).flatten (l.map λb=>Value.int .u8 b.toNat):=by
    intro l;induction l with
    |nil=>rfl
    |cons b l ih=>exact⟨_,_,rfl,rfl,ih⟩
   refine⟨C8 s,byteCells ⟨⟨s⟩⟩,hp,?_,?_,λr hr=>?_⟩;.rw[hlen];exact⟨JN,λ_=>rfl,firstCells_string _ w,firstCells_string _ w.drew,by rw[byteCells_length,Hz],λu hu=>by obtain⟨_,_,rfl⟩:=A7.1 hu;rfl⟩
   .simpa[byteCells] using hrel s
   .obtain⟨b,_,rfl⟩:=A7.1 hr;rfl
  .cases hp
 .cases hp
def Db.xe(hr:Db C U0 w0 U O Z h a w){g n cap z:Nat}{us:Array Value}{e:TypeId}{rr Ax:List (List Aa)}{news:List Value}(FX:U.BT g=some (.tail Z.length none (n*z)))(hB:w0.heap.size<=g)(hg:w.heap[g]?=some (.cells us e (0,0)))
  (bD:us.size=cap*z) (hm:cap<=maxLen) (hz:0<z) (hv:BP U (.sl z rr) (.slice (some ⟨g,0,none⟩) n cap)) (hl:∀r∈Ax,r.length=z) (hn:A8 U Ax.flatten news) (h1:∀u∈news,u.oneCell'=true) (hroom:n+Ax.length<=cap):
  ∃U',U.le U'/\Db C U0 w0 U' O Z h a (w.setRow g (us.toList.take (n*z)++news++us.toList.drop (n*z+news.length)).toArray)/\BP U' (.sl z (rr++Ax)) (.slice (some ⟨g,0,none⟩) (n+Ax.length) cap)/\
   JO U' w0.heap.size (w.setRow g (us.toList.take (n*z)++news++us.toList.drop (n*z+news.length)).toArray) Z.length none (.slice (some ⟨g,0,none⟩) (n+Ax.length) cap) (.sl z (rr++Ax)):=by
 obtain⟨t,cap',mI,Qr,_,hR⟩:=hv;simp only[Value.slice.injEq,BL] at mI;obtain⟨rfl,rfl,rfl⟩:=mI;simp only at hR;have RG:news.length=Ax.length*z:=by rw[hn.length,HM hl]
 have hfit:(rr.length+Ax.length)*z<=us.size:=by rw[bD];exact Ex _ hroom
 rw[BJ] at hfit;have c:(us.toList.take (rr.length*z)).length=rr.length*z:=Et;obtain⟨vs,m,q,l⟩:=hR.values;have hvs:vs=us.toList.take (rr.length*z):=by
  apply R7;intro j;by_cases hj:j<rr.length*z
  .have d:j<vs.length:=by rw[q];exact hj
   have hc:=(hr.Ee.IQ _ _ _ (l j _ (Av d))).1;rw[cell_of_row w _ _ us e (0,0) hg,BE] at hc;rw[Av d,CM hj];simpa using hc.symm
  .rw[En Ab,En (by rw[c];omega)]
 rw[hvs] at m;have eX:∀u∈us.toList.take (rr.length*z),u.oneCell'=true:=λu hu=>by rw[<-hvs] at hu;obtain⟨j,hj⟩:=CP hu;exact(hr.Ee.IQ _ _ _ (l j u hj)).2.1
 have f:(rr.length+Ax.length)*z=rr.length*z+Ax.length*z:=BJ _ _ _;have aBK:((us.toList.take (rr.length*z)++news++us.toList.drop (rr.length*z+news.length)).toArray).toList.take ((rr.length+Ax.length)*z)=us.toList.take (rr.length*z)++news:=by
  have:(us.toList.take (rr.length*z)++news).length=(rr.length+Ax.length)*z:=by rw[Ao,c,RG,f]
  rw[<-this];exact E5
 have Lk:(us.toList.take (rr.length*z)++news++us.toList.drop (rr.length*z+news.length)).length=us.size:=by simp[RG];omega
 generalize p:(us.toList.take (rr.length*z)++news++us.toList.drop (rr.length*z+news.length)).toArray=DR at*;have aMb:DR.size=us.size:=by rw[<-p];simpa using Lk
 obtain⟨hi,EU⟩:=qS hr.Ee FX hg DR ((rr.length+Ax.length)*z) Z.length none (λo ho=>by
   rw[<-p,A6,List.getElem?_toArray,Al Ab,CM ho];simp)
  Ab (λo u ho hu=>by
   have:u∈DR.toList.take ((rr.length+Ax.length)*z):=by refine CH (i:=o) ?_;rw[CM ho];simpa using hu
   rw[aBK,An] at this;exact this.elim (eX u) (h1 u)) (λo v hv=>by
   have:=(hr.Ee.IQ _ _ _ hv).1;rwa [cell_of_row w _ _ us e (0,0) hg] at this)
 have hk:Rg g U w (U.Dy g DR ((rr.length+Ax.length)*z) (some (.tail Z.length none ((rr.length+Ax.length)*z)))) (w.setRow g DR):=
  ⟨EU,λb x hb hx _=>⟨by simp only[Gh.Dy,Ac hb];exact hx,setRow_other w g b DR hb⟩⟩
 have k:Fb (U.Dy g DR ((rr.length+Ax.length)*z) (some (.tail Z.length none ((rr.length+Ax.length)*z)))) (rr++Ax) z g 0:=by
  refine Ph (us:=DR.toList.take ((rr.length+Ax.length)*z)) (λr hr=>?_) ?_ (λj u hj=>?_)
  .rcases An.1 hr with hr|hr
   .obtain⟨i,hi⟩:=CP hr;exact(hR.get hi).1
   .exact hl r hr
  .rw[aBK,P8];exact(A8.mono EU _ _ m).append (A8.mono EU _ _ hn)
  .rw[CA] at hj;split at hj;.rename_i hlt;simp only[Gh.Dy,BN,BE,Af hlt];simpa using hj
   .cases hj
 refine⟨_,EU,⟨hi,⟨hr.fr.size,λs=>?_⟩,hr.D7.write (g:=g) hB EU AB rfl rfl rfl (λb hb=>⟨setRow_other w g b DR hb,by simp only[Gh.Dy,Ac hb]⟩),hr.defers,λx cs hx=>C2.mono EU _ _ _ (hr.HB x cs hx)⟩,
  ⟨⟨g,0,none⟩,cap,AB,by simpa using hroom,.inl rfl,k⟩,.inr ⟨g,rr.length+Ax.length,cap,DR,e,z,rr++Ax,rfl,rfl,by simp[Gh.Dy],hB,setRow_heap w g us DR e (0,0) hg,by rw[aMb,bD],hroom,hm,hz⟩⟩
 by_cases hs:s=Z.length;.subst hs;rw[BR.Uz];trivial
 .exact(hr.fr.IJ s).keptBut FX hk (by simp only[Lb.qP];intro hx;cases hx;exact hs rfl)
def Pj{t t' ty:TypeId}{ts:Array TypeId}{xs:Array Value}(h0:ts[0]?=some t)(h1:ts[1]?=some t'):Builtin.append_ ts ty xs=Builtin.append_ #[t,t'] ty xs:=by simp only[Builtin.append_,h0,h1];rfl
def A8.ő{l:List Aa}{us:List Value}{n:Nat}(h:A8 U l us)(hn:us.length<=n):A8 U l (us.take n):=by rw[Bf hn];exact h
def On{cs:List Aa}{z:Nat}:∀{n off:Nat},(CG cs z off n).flatten=(cs.drop off).take (n*z)
 |0,off=>by simp[CG]
 |n+1,off=>by rw[CG,CO,On,BJ,ER,Qd (n*z) z,aBu,Ew]
def PZ{cs:List Aa}{z:Nat}:∀{n off:Nat},(CG cs z off n).length=n
 |0,off=>rfl
 |n+1,off=>by rw[CG,AK,PZ]
def RQ{cs:List Aa}{z:Nat}:∀{n off:Nat},off+n*z<=cs.length->∀r∈CG cs z off n,r.length=z
 |0,off,_,r,hr=>by simp[CG] at hr
 |n+1,off,hl,r,hr=>by
  rw[BJ,ER] at hl;rw[CG,AE] at hr;rcases hr with rfl|hr
  .rw[Ay,AX];omega
  .exact RQ Ab r hr
def XQ{t':TypeId}{size:Nat}{u:Aa}{g:Value}{Ax:List (List Aa)}(JN:(∃m,C.P.underlying t'=some (.slice m))\/C.P.underlying t'=some .string)(hi:Ic U h w)(hu:BP U u g)(hp:H0 h size u=some Ax):
  ∃news:List Value,Src C.P size t' g Ax.length news w/\A8 U Ax.flatten news/\(∀r∈Ax,r.length=size):=by
 unfold H0 at hp;split at hp;.cases hp;rw[show g=_ from hu];exact⟨[],⟨JN,λ_=>rfl,run_firstCells_none w size 0 0 0,run_firstCells_none w.drew size 0 0 0,AB,AB⟩,rfl,AB⟩
 .rename_i z;split at hp;.cases hp;obtain⟨b,Ő⟩:=hu;rw[Ő];exact⟨[],⟨JN,λ_=>rfl,run_firstCells_some w _ _ _ _ _ [] AB (λj x hj=>by simp at hj),run_firstCells_some w.drew _ _ _ _ _ [] AB (λj x hj=>by simp at hj),AB,AB⟩,rfl,AB⟩
  .cases hp
 .rename_i z i;split at hp
  .rename_i hz;cases hp;subst hz;obtain⟨f,cap,Ő,Qr,hsp,hR⟩:=hu;obtain⟨us,k,c,d⟩:=hR.values;have M4:∀(j:Nat) (x:Value),us[j]?=some x->f.add j=⟨f.block,f.off+j,none⟩:=λj x hj=>by
    have hpos:0<Ax.length:=by
     rcases Ge Ax.length with h0|h0
     .have:us.length=0:=by rw[c,h0,Ns]
      rw[CX this] at hj;simp at hj
     .exact h0
    have qZ:=O5 hsp Qr hpos;generalize f.block=b at*;generalize f.off=o at*;subst qZ;unfold Addr.add;split<;>simp_all
   rw[Ő];refine⟨us,⟨JN,λ_=>rfl,run_firstCells_some w _ _ _ _ _ us c (λj x hj=>by rw[M4 j x hj];exact(hi.IQ _ _ _ (d j x hj)).1),run_firstCells_some w.drew _ _ _ _ _ us c (λj x hj=>by rw[M4 j x hj];exact(hi.IQ _ _ _ (d j x hj)).1),c,λx hx=>?_⟩,k,λr hr=>?_⟩;.obtain⟨j,hj⟩:=CP hx;exact(hi.IQ _ _ _ (d j x hj)).2.1
   .obtain⟨j,hj⟩:=CP hr;exact(hR.get hj).1
  .cases hp
 .rename_i s;split at hp
  .rename_i hz;cases hp;subst hz;rw[show g=_ from hu];have hlen:(C8 s).length=(⟨⟨s⟩⟩:ByteArray).size:=by simp[C8,ByteArray.size]
   have hrel:∀l:List UInt8,A8 U (C8 l).flatten (l.map λb=>Value.int .u8 b.toNat):=by
    intro l;induction l with
    |nil=>rfl
    |cons b l ih=>exact⟨_,_,rfl,rfl,ih⟩
   refine⟨byteCells ⟨⟨s⟩⟩,?_,?_,λr hr=>?_⟩;.rw[hlen];exact⟨JN,λ_=>rfl,firstCells_string _ w,firstCells_string _ w.drew,by rw[byteCells_length,Hz],λu hu=>by obtain⟨_,_,rfl⟩:=A7.1 hu;rfl⟩
   .simpa[byteCells] using hrel s
   .obtain⟨b,_,rfl⟩:=A7.1 hr;rfl
  .cases hp
 .rename_i id off n z;split at hp
  .rename_i hz;subst hz;split at hp
   .rename_i cs hcs;split at hp
    .rename_i hl;cases hp;obtain⟨b,cap,hb,Ő,Qr,ug,Lk⟩:=hu;obtain⟨us,e,fr,k,pf,c,d⟩:=hi.cells id cs hcs b hb;have ue:(us.toList.take cs.length).length=cs.length:=c.length;have RG:(((us.toList.take cs.length).drop off).take (n*z)).length=n*z:=by rw[Ay,AX,ue];omega
     have M4:∀j,(⟨b,off,none⟩:Addr).add j=⟨b,off+j,none⟩:=λj=>by unfold Addr.add;split<;>simp_all
     have Ki:∀(j:Nat) (x:Value),(((us.toList.take cs.length).drop off).take (n*z))[j]?=some x->w.cell? ((⟨b,off,none⟩:Addr).add j)=some x:=λj x hj=>by
      rw[M4,cell_of_row w _ _ us e fr k];rw[CA] at hj;split at hj
      .rw[CF,CA] at hj;split at hj;.simpa using hj
       .cases hj
      .cases hj
     rw[Ő,PZ];refine⟨((us.toList.take cs.length).drop off).take (n*z),⟨JN,λ_=>rfl,run_firstCells_some w _ _ _ _ _ _ RG Ki,run_firstCells_some w.drew _ _ _ _ _ _ RG (λj x hj=>Ki j x hj),RG,λx hx=>d x (AY (AZ hx))⟩,?_,RQ hl⟩;rw[On];exact(c.drop off).take (n*z)
    .cases hp
   .cases hp
  .cases hp
 .cases hp
def P0{o:Oper}{c:Call}{t t' e:TypeId}{n b:Nat}{s x:Operand}{v u r:Aa}{Ax:List (List Aa)}{news:List Value}(ho:o.op= .call c)(hc:c.callee= .builtin .append)(h0:c.argTypes[0]?=some t)(h1:c.argTypes[1]?=some t')(E0:c.args.toList=[s,x])(ht:C.P.underlying t=some (.slice e))
  (JN:(∃F,C.P.underlying t'=some (.slice F))\/C.P.underlying t'=some .string) (Lk:B0 C.P e=some (n+1)) (xf:KD C.P e=some (b+1)) (FX:LX C Z s=true) (lE:MZ C.P e=true) (hv:Bs C Z [s,x]=some [v,u])
  (JQ:DZ (n+1) (b+1) v Ax=some r) (K6:Src C.P (n+1) t' (a.eval x) Ax.length news w) (WG:A8 U Ax.flatten news) (rJ:∀q∈Ax,q.length=n+1) (hr:Db C U0 w0 U O Z h a w):Ga C U0 w0 o a w ((Z.DT (Dr Z s)).put o.dst (.BT r)) h:=by
 obtain⟨i,z,hi,hz,eW⟩:=L2 lE;have RF:=Kj Lk hi;have E:=MH xf hi;obtain⟨_,_,e0,hvs,qG⟩:=Fj hr hv;cases e0;have ŏ:Fa C Z s=some v:=by
  unfold Bs at hv;split at hv;.rename_i p ps B H;cases hv;exact B
  .cases hv
 obtain⟨U1,EU,Kv,K5,K⟩:=Qq hr FX ŏ (Z.DT (Dr Z s)).length none;have xg:=A8.mono EU _ _ WG;have K4:c.args.map a.eval=#[a.eval s,a.eval x]:=by apply HV;simp[E0]
 have Nz:∀v' w',(Builtin.append_ #[t,t'] o.type #[a.eval s,a.eval x]).run C.P w= .ok v' w'->(execOp a.eval o).run C.P w= .ok (.value v') w':=λv' w' AM=>by
  have:execOp a.eval o=(do pure (Next.value (<-Builtin.append_ #[t,t'] o.type #[a.eval s,a.eval x]))):=by rw[<-K4,<-Pj (ty:=o.type) h0 h1];simp only[execOp,ho,resolve,hc];rfl
  rw[this];exact DJ AM
 have KG:Src C.P i.size t' (a.eval x) Ax.length news w:=by rw[RF];exact K6
 have RG:news.length=Ax.length*(n+1):=K6.newsLen;have GL:∀(base:Option Addr) (k cap:Nat) (rr:List (List Aa)) (olds:List Value),a.eval s= .slice base k cap->rr.length=k->(∀q∈rr,q.length=n+1)->A8 U1 rr.flatten olds->(∀q∈olds,q.oneCell'=true)->
   (Builtin.firstCells i.size k (.slice base k cap)).run C.P w.drew= .ok olds.toArray w.drew->cap<k+Ax.length->(k+Ax.length)*(b+1)<=AV->r= .sl (n+1) (rr++Ax)->
   Ga C U0 w0 o a w ((Z.DT (Dr Z s)).put o.dst (.BT r)) h:=by
  intro base k cap rr olds hs hk m Œ uf d hlt Tf Vo;have Se:k+Ax.length<=AV:=Bv (Jg _ (C3 b)) Tf;have GZ:=run_append_grow_src (P:=C.P) w t t' o.type e i z ht hi hz base k cap olds d (a.eval x) Ax.length news KG hlt (by simp only[AV] at Se;omega) (by rw[E];exact growslice_fits hlt Tf);rw[<-hs] at GZ;have IS:=grownCap_ge w (k+Ax.length) cap e;have aMc:olds.length=k*(n+1):=by rw[Œ.length,HM m,hk]
  have mi:(olds++news).length=(k+Ax.length)*(n+1):=by rw[Ao,aMc,RG,BJ]
  obtain⟨N,mG,M5,WD,l⟩:=Kv.drew.XN ((olds++news).toArray++Builtin.zeroCells z.cells (grownCap w (k+Ax.length) cap e-(k+Ax.length))) e (z:=n+1) (n:=k+Ax.length) (cap:=grownCap w (k+Ax.length) cap e) (Ax:=rr++Ax) (C3 n) (by simp[hk])
   (λq hq=>(An.1 hq).elim (m q) (rJ q))
   (by simp only[Kt,B5,size_zeroCells,eW,RF,mi,<-BJ];congr 1;omega) IS (grownCap_le_maxLen w _ _ _ (by simp only[AV] at Se;simp only[maxLen];omega))
   (by simp only[Hm,P8];rw[<-mi,E5];exact Œ.append xg)
   (λq hq=>by simp only[Hm] at hq;rw[<-mi,E5,An] at hq;exact hq.elim (uf q) (K6.one q))
  rw[Vo];obtain⟨M,f⟩:=M5.XM WD l o.dst;exact Ga.value (Nz _ _ GZ) f
 rcases K with(rfl|⟨A,rfl⟩)|⟨g,k,cap,us,I,A,rr,rfl,J7,Ul,hB,hg,bD,œ,hm,uh⟩
 .have J7:a.eval s= .slice none 0 0:=K5;cases Ax with
  |nil=>
   have Vo:r= .slnil:=by simpa[DZ] using JQ.symm
   have wX:news=[]:=CX (by simpa using RG);subst wX;have AM:(Builtin.append_ #[t,t'] o.type #[a.eval s,a.eval x]).run C.P w= .ok (.slice none 0 0) w:=by rw[J7];have hl:=KG.len;have WH:=KG.cells;simp only[AW] at hl WH;rcases JN with⟨F,hk⟩|hk<;>simp[Builtin.append_,run_underlying ht,run_underlying hk,sizeOf,typeInfo,hi,hl,WH]
   rw[Vo];exact Ga.value (Nz _ _ AM) (Kv.put λ_ _=>⟨rfl,.inl (.inl rfl)⟩)
  |cons q Ax=>
   have Qs:r= .sl (n+1) (q::Ax)/\(q::Ax).length*(b+1)<=AV:=by
    simp only[DZ] at JQ;split at JQ;.rename_i hb;cases JQ;exact⟨rfl,hb⟩
    .cases JQ
   exact GL none 0 0 [] [] J7 rfl AB rfl AB (run_firstCells_none _ _ _ _ _) AB (by simpa using Qs.2) (by simpa using Qs.1)
 .obtain⟨g,J7⟩:=id K5;cases Ax with
  |nil=>
   have Vo:A=n+1/\r= .GX A:=by
    simp only[DZ] at JQ;split at JQ;.rename_i ZN;cases JQ;exact⟨ZN,by rw[ZN]⟩
    .cases JQ
   obtain⟨rfl,Vo⟩:=Vo;have wX:news=[]:=CX (by simpa using RG);subst wX;have AM:(Builtin.append_ #[t,t'] o.type #[a.eval s,a.eval x]).run C.P w= .ok (.slice (some ⟨g,0,none⟩) 0 0) w:=by rw[J7];have hl:=KG.len;have WH:=KG.cells;simp only[AW] at hl WH;rcases JN with⟨F,hk⟩|hk<;>simp[Builtin.append_,run_underlying ht,run_underlying hk,sizeOf,typeInfo,hi,hl,WH,storeCells,Result.andThen]
   rw[Vo];exact Ga.value (Nz _ _ AM) (Kv.put λ_ _=>⟨⟨g,rfl⟩,.inl (.inr ⟨_,rfl⟩)⟩)
  |cons q Ax=>
   have Qs:r= .sl (n+1) (q::Ax)/\(q::Ax).length*(b+1)<=AV:=by
    simp only[DZ] at JQ;split at JQ;.rename_i hb;cases JQ;exact⟨rfl,hb.2⟩
    .cases JQ
   exact GL (some ⟨g,0,none⟩) 0 0 [] [] J7 rfl AB rfl AB (run_firstCells_some w.drew _ _ _ _ _ [] AB (λj x hj=>by simp at hj)) AB (by simpa using Qs.2) (by simpa using Qs.1)
 .obtain⟨L,J,mI,Qr,_,hR⟩:=id K5;rw[J7] at mI;simp only[Value.slice.injEq,BL] at mI;obtain⟨rfl,hk,rfl⟩:=mI;subst hk;simp only at hR;have D:A=n+1/\r= .sl (n+1) (rr++Ax)/\(Ax=[]\/(rr.length+Ax.length)*(b+1)<=AV):=by
   cases Ax with
   |nil=>
    simp only[DZ] at JQ;split at JQ;.rename_i ZN;cases JQ;exact⟨ZN,by simp[ZN],.inl rfl⟩
    .cases JQ
   |cons q Ax=>
    simp only[DZ] at JQ;split at JQ;.rename_i ZN;cases JQ;exact⟨ZN.1,rfl,.inr ZN.2⟩
    .cases JQ
  obtain⟨rfl,Vo,Tf⟩:=D;by_cases hroom:rr.length+Ax.length<=cap
  .have hfit:rr.length*(n+1)+news.length<=us.size:=by rw[RG,bD,<-BJ];exact Ex _ hroom
   have AM:=run_append_room_src (P:=C.P) w t t' o.type e i ht hi g 0 rr.length cap (a.eval x) Ax.length news KG hroom (λj hj=>by rw[cell_of_row w _ _ us I (0,0) hg,RF,CR Ab];rfl) (λj hj=>frozen_of_row w _ _ us I hg)
   rw[BE,RF,EZ news _ us w hg hfit,<-J7] at AM;rw[J7] at K5;obtain⟨N,mG,M5,WD,l⟩:=Kv.xe Ul hB hg bD hm (C3 n) K5 rJ xg K6.one hroom;obtain⟨M,f⟩:=M5.XM WD l o.dst;rw[Vo];exact Ga.value (Nz _ _ AM) f
  .obtain⟨vs,B,H,G⟩:=hR.values;have M4:∀j,(⟨g,0,none⟩:Addr).add j=⟨g,0+j,none⟩:=λj=>by unfold Addr.add;split<;>simp_all
   refine GL (some ⟨g,0,none⟩) rr.length cap rr vs J7 rfl (λq hq=>?_) B (λq hq=>?_) ?_ Ab ?_ Vo;.obtain⟨j,hj⟩:=CP hq;exact(hR.get hj).1
   .obtain⟨j,hj⟩:=CP hq;exact(Kv.Ee.IQ _ _ _ (G j q hj)).2.1
   .rw[RF];exact run_firstCells_some w.drew _ _ _ _ _ vs H (λj y hj=>by rw[M4];exact(Kv.Ee.IQ _ _ _ (G j y hj)).1)
   .rcases Tf with rfl|Tf
    .simp at hroom;omega
    .exact Tf
def rK{o:Oper}{c:Call}{t t' e:TypeId}{n b:Nat}{s x:Operand}{v u r:Aa}(ho:o.op= .call c)(hc:c.callee= .builtin .append)(h0:c.argTypes[0]?=some t)(h1:c.argTypes[1]?=some t')(E0:c.args.toList=[s,x])(ht:C.P.underlying t=some (.slice e))
  (JN:(∃d,C.P.underlying t'=some (.slice d))\/C.P.underlying t'=some .string) (Lk:B0 C.P e=some (n+1)) (xf:KD C.P e=some (b+1)) (FX:LX C Z s=true) (lE:MZ C.P e=true) (hv:Bs C Z [s,x]=some [v,u])
  (hp:AH (.append (n+1) (b+1)) [v,u]=some r) (hr:Db C U0 w0 U O Z h a w):Ga C U0 w0 o a w ((Z.DT (Dr Z s)).put o.dst (.BT r)) h:=by
 obtain⟨_,_,e0,hvs,qG⟩:=Fj hr hv;cases e0;simp only[AH] at hp;obtain⟨Ax,news,JQ,K6,WG,rJ⟩:=xC (w:=w) JN hr.Ee qG hp;exact P0 ho hc h0 h1 E0 ht JN Lk xf FX lE hv JQ K6 WG rJ hr
def mJ{o:Oper}{c:Call}{t t' e:TypeId}{n b:Nat}{s x:Operand}{v u r:Aa}(ho:o.op= .call c)(hc:c.callee= .builtin .append)(h0:c.argTypes[0]?=some t)(h1:c.argTypes[1]?=some t')(E0:c.args.toList=[s,x])(ht:C.P.underlying t=some (.slice e))
  (JN:(∃d,C.P.underlying t'=some (.slice d))\/C.P.underlying t'=some .string) (Lk:B0 C.P e=some (n+1)) (xf:KD C.P e=some (b+1)) (FX:LX C Z s=true) (lE:MZ C.P e=true) (hv:Bs C Z [s,x]=some [v,u])
  (hp:RO h (n+1) (b+1) v u=some r) (hr:Db C U0 w0 U O Z h a w):Ga C U0 w0 o a w ((Z.DT (Dr Z s)).put o.dst (.BT r)) h:=by
 obtain⟨_,_,e0,hvs,qG⟩:=Fj hr hv;cases e0;unfold RO at hp;cases hq:H0 h (n+1) u with
 |none=>rw[hq] at hp;cases hp
 |some Ax=>rw[hq] at hp;obtain⟨news,K6,WG,rJ⟩:=XQ (w:=w) JN hr.Ee qG hq;exact P0 ho hc h0 h1 E0 ht JN Lk xf FX lE hv hp K6 WG rJ hr
end
section
variable{C:Gj}{γ0 γ γ':Gh}{w0 w w':World}{Z:Nat->Nat}{U:BR}{h:Ai}{a:Act}{fid:FuncId}{ops:List Oper}
def Tg:∀s:Ah,(C8 s).flatten=s.map λb=>Aa.int .u8 b.toNat
 |[]=>rfl
 |_::s=>by have:=Tg s;simp only[C8,Bj,CO] at this⊢;rw[this];rfl
def M6(γ:Gh):∀l:Ah,A8 γ (C8 l).flatten (l.map λb=>Value.int .u8 b.toNat)
 |[]=>rfl
 |_::l=>⟨_,_,rfl,rfl,M6 γ l⟩
def LO(s:Ah)(cap:Nat):(bytesRow ⟨⟨s⟩⟩ cap).toList.take s.length=s.map λb=>Value.int .u8 b.toNat:=by have:(s.map λb=>Value.int .u8 (b.toNat:Int)).length=s.length:=AB;simp only[bytesRow,Hm,Oc];rw[<-this];exact E5
def eY(s:Ah):(⟨⟨s⟩⟩:ByteArray).size=s.length:=by simp[ByteArray.size]
def Ŕ{o:Oper}{src dst e:TypeId}{x:Operand}{v u:Aa}(ho:o.op= .convert src dst x)(hs:C.P.underlying src=some .string)(hd:C.P.underlying dst=some (.slice e))(he:C.P.underlying e=some (.int .u8))(hx:Bs C U [x]=some [v])(hp:AH .s2b [v]=some u)(hr:Db C γ0 w0 γ Z U h a w):
  Ga C γ0 w0 o a w (U.put o.dst (.val u)) h:=by
 obtain⟨_,e0,hv⟩:=Hb hr hx;cases e0;simp only[AH] at hp;split at hp
 .rename_i s K4;cases K4;split at hp
  .cases hp;have AM:=run_bytes_of_string (P:=C.P) w src dst e ⟨⟨s⟩⟩ hs hd he;rw[<-Pb hv] at AM;have c:=grownCap_ge w s.length 0 e;rw[eY] at AM;obtain⟨hi,ha⟩:=Qk hr.drew.Ee (bytesRow ⟨⟨s⟩⟩ (grownCap w s.length 0 e)) e ((bytesRow ⟨⟨s⟩⟩ (grownCap w s.length 0 e)).size,(bytesRow ⟨⟨s⟩⟩ (grownCap w s.length 0 e)).size+1) s.length none (λo u ho hu=>by have hm:u∈(bytesRow ⟨⟨s⟩⟩ (grownCap w s.length 0 e)).toList.take s.length:=CH (i:=o) (by rw[CM ho];simpa using hu);rw[LO] at hm;obtain⟨b,_,rfl⟩:=A7.1 hm;rfl) (.inl rfl)
   have HY:=hr.drew.Jw hi ha;refine Ga.value (v:= .slice (some ⟨w.heap.size,0,none⟩) s.length (grownCap w s.length 0 e)) (by simp only[execOp,ho];exact DJ AM) (HY.put λ_ _=>⟨⟨w.heap.size,0,none⟩,grownCap w s.length 0 e,by simp[C8],by simpa[C8] using c,.inl rfl,?_⟩);refine Ph (us:=s.map λb=>Value.int .u8 b.toNat) (λr hr=>?_) (M6 _ s) (λj u hj=>?_);.obtain⟨b,_,rfl⟩:=A7.1 hr;rfl
   .rw[<-LO s (grownCap w s.length 0 e),CA] at hj;split at hj;.rename_i hlt;simp only[Gh.Dy,heap_drew,BN,BE,Af hlt];simpa using hj
    .cases hj
  .cases hp
 .cases hp
def eZ{o:Oper}{src dst e:TypeId}{x:Operand}{v u:Aa}{h':Ai}(ho:o.op= .convert src dst x)(hs:C.P.underlying src=some .string)(hd:C.P.underlying dst=some (.slice e))(he:C.P.underlying e=some (.int .u8))(hx:Fa C U x=some v)(hp:Jm h v=some (h',u))(hr:Db C γ0 w0 γ Z U h a w):
  Ga C γ0 w0 o a w (U.put o.dst (.val u)) h':=by
 have hv:=GU hr hx;unfold Jm at hp;split at hp
 .rename_i s;split at hp
  .cases hp;have AM:=run_bytes_of_string (P:=C.P) w src dst e ⟨⟨s⟩⟩ hs hd he;rw[<-Pb hv] at AM;have c:=grownCap_ge w s.length 0 e;rw[eY] at AM;have hl:(s.map λb=>Aa.int .u8 b.toNat).length=s.length:=AB;have d:(bytesRow ⟨⟨s⟩⟩ (grownCap w s.length 0 e)).size=grownCap w s.length 0 e:=by have e0:ByteArray.size ⟨⟨s⟩⟩=s.length:=eY s;simp only[bytesRow,Kt,Array.size_map,Array.size_replicate,e0];simp only[B5];omega
   have qH:s.length<=maxLen:=by
    have qH:s.length<=AV:=by assumption
    simp only[AV] at qH;simp only[maxLen];omega
   obtain⟨γ',EU,hm,HY,Lk⟩:=hr.drew.newObj (bytesRow ⟨⟨s⟩⟩ (grownCap w s.length 0 e)) e ((bytesRow ⟨⟨s⟩⟩ (grownCap w s.length 0 e)).size,(bytesRow ⟨⟨s⟩⟩ (grownCap w s.length 0 e)).size+1) (s.map λb=>Aa.int .u8 b.toNat) (.inr (Ad _))
    (by rw[hl,LO];have:=M6 γ s;rw[Tg] at this;exact this)
    (λu hu=>by rw[hl,LO] at hu;obtain⟨b,_,rfl⟩:=A7.1 hu;rfl)
   exact Ga.value (v:= .slice (some ⟨w.heap.size,0,none⟩) s.length (grownCap w s.length 0 e)) (by simp only[execOp,ho];exact DJ AM) (HY.put λ_ _=>⟨w.heap.size,_,hm,rfl,c,⟨C3 0,grownCap_le_maxLen w _ _ _ qH⟩,by rw[BE,Hz,<-d];exact Lk⟩)
  .cases hp
 .cases hp
def IA{O:Type}(l:List O):∀(c j:Nat),j<c*l.length->(List.replicate c l).flatten[j]?=l[j%l.length]?
 |0,j,h=>by simp at h
 |c+1,j,h=>by
  have h':j<c*l.length+l.length:=by rw[BJ] at h;omega
  rw[LG,CO];by_cases hj:j<l.length;.rw[Al hj,Nat.mod_eq_of_lt hj]
  .rw[Bu Ab,IA l c _ Ab,show j%l.length=(j-l.length)%l.length from Nat.mod_eq_sub_mod Ab]
def xh{o:Oper}{t e:TypeId}{l c:Operand}{n b:Nat}{z:Aa}{D vc u:Aa}{h':Ai}(ho:o.op= .makeSlice t l c)(ht:C.P.underlying t=some (.slice e))(Lk:B0 C.P e=some (n+1))(xf:KD C.P e=some (b+1))(hz:Hq C.P e=some z)(hl:Fa C U l=some D)(hc:Fa C U c=some vc)
  (hm:Xo h (n+1) (b+1) z.cells D vc=some (h',u)) (hr:Db C γ0 w0 γ Z U h a w):Ga C γ0 w0 o a w (U.put o.dst (.val u)) h':=by
 unfold Xo at hm;split at hm
 .rename_i k m;split at hm
  .rename_i Ii;obtain⟨K,J,I,B⟩:=Ii;cases hm;unfold Hq at hz;cases hi:C.P.info? e with
   |none=>rw[hi] at hz;cases hz
   |some i=>
    rw[hi] at hz;cases ui:i.zero with
    |none=>simp[ui] at hz
    |some f=>
     simp only[Cw,ui] at hz;have RF:=Kj Lk hi;have A:=MH xf hi;obtain⟨E,G⟩:=HK (γ:=γ) (FI hz) Ab;have eW:f.cells.size=n+1:=by have:=E.length;simp at this;omega
     have q:m.toNat*(b+1)<=AV:=I;have g:m.toNat<=AV:=Bv (Jg m.toNat (C3 b)) q;have AM:=run_make (P:=C.P) w t e i f ht hi ui .i64 .i64 k m K J (by
      rw[A];have H:((b+1:Nat):Int)*m=((m.toNat*(b+1):Nat):Int):=by rw[Int.natCast_mul,IU Ab,Int.mul_comm]
      rw[H];simp only[AV] at q;omega) (by simp only[AV] at g;omega)
     rw[<-EK (GU hr hl),<-EK (GU hr hc)] at AM;have hlen:((List.replicate m.toNat z.cells).flatten).length=m.toNat*(n+1):=by rw[HM (z:=n+1) (λr hr=>by rw[aBv hr,B]),HW]
     have p:∀(j:Nat) (u:Value),(madeCells f.cells (m.toNat*i.size)).toList[j]?=some u->j<m.toNat*(n+1)/\f.cells.toList[j%(n+1)]?=some u:=by
      intro j u hj;have qI:j<m.toNat*(n+1):=by have:=(Aj.1 hj).1;simpa[size_madeCells,RF] using this
      refine⟨qI,?_⟩;have aC2:j%(n+1)<f.cells.size:=by rw[eW];exact Nat.mod_lt _ (C3 n)
      simp only[madeCells,Oc,Dm] at hj;have d:(Array.range (m.toNat*i.size)).toList[j]?=some j:=by simp[RF,qI]
      rw[d] at hj;simp only[BV,BL] at hj;rw[eW] at hj;rw[<-hj];simp[aC2]
     have F:A8 γ (List.replicate m.toNat z.cells).flatten (madeCells f.cells (m.toNat*i.size)).toList:=by refine A8.Hr (by simp[hlen,size_madeCells,RF]) λj x u hx hu=>?_;obtain⟨qI,y⟩:=p j u hu;rw[IA z.cells _ _ (by rw[B];exact qI),B] at hx;obtain⟨L,ls,s⟩:=E.get hx;rw[y] at ls;cases ls;exact s
     obtain⟨γ',EU,v,HY,aMe⟩:=hr.newObj (madeCells f.cells (m.toNat*i.size)) e (0,0) (List.replicate m.toNat z.cells).flatten (.inl rfl) (F.ő (by rw[F.length];exact Ad _)) (λu hu=>by obtain⟨j,hj⟩:=CP (AZ hu);exact G u (CH (p j u hj).2))
     exact Ga.value (by simp only[execOp,ho];exact DJ AM) (HY.put λ_ _=>⟨w.heap.size,m.toNat,v,rfl,Ab,⟨C3 n,by simp only[AV] at g;simp only[maxLen];omega⟩,by rw[aMe,size_madeCells,RF,BE]⟩)
  .cases hm
 .cases hm
def Db.aHG(hr:Db C γ0 w0 γ Z U h a w){g:Nat}(FX:γ.BT g=some (.tail U.length none 0))(hB:w0.heap.size<=g){us:Array Value}{e:TypeId}(hg:w.heap[g]?=some (.cells us e (0,0)))(DR:Array Value)(cs:List Aa)
  (hv:A8 γ cs (DR.toList.take cs.length)) (h1:∀u∈DR.toList.take cs.length,u.oneCell'=true):∃γ',γ.le γ'/\γ'.mu h.length=some g/\Db C γ0 w0 γ' Z U (h++[.cells cs]) a (w.setRow g DR)/\γ'.sz g=some DR.size:=by
 have f:γ.mu h.length=none:=by
  cases hc:γ.mu h.length with
  |none=>rfl
  |some y=>exact absurd (hr.Ee.mu _ y hc) (DH _)
 have Lk:γ.sz g=none:=by
  cases hc:γ.sz g with
  |none=>rfl
  |some y=>obtain⟨_,r⟩:=hr.Ee.sz g y hc;rw[FX] at r;rcases r with r|⟨_,r⟩<;>cases r
 have EU:γ.le (γ.BU g h.length (some DR.size)):=⟨λ_ _ _ hv=>hv,λid b hm=>by
  have:id≠h.length:=λhe=>by rw[he,f] at hm;cases hm
  simp only[Gh.BU,Ac this];exact hm,λb n hm=>by
  have:b≠g:=λhe=>by rw[he,Lk] at hm;cases hm
  simp only[Gh.BU,Ac this];exact hm⟩
 have aCY:∀b n,(γ.BU g h.length (some DR.size)).sz b=some n->(∃us e fr,(w.setRow g DR).heap[b]?=some (.cells us e fr)/\us.size=n)/\((γ.BU g h.length (some DR.size)).BT b=none\/∃id,(γ.BU g h.length (some DR.size)).BT b=some (.Nw id)):=λb n hb=>by
  by_cases he:b=g;.subst he;simp only[Gh.BU,BN] at hb;cases hb;exact⟨⟨DR,e,(0,0),setRow_heap w b us DR e (0,0) hg,rfl⟩,.inr ⟨h.length,by simp[Gh.BU]⟩⟩
  .simp only[Gh.BU,Ac he] at hb⊢;obtain⟨p,r⟩:=hr.Ee.sz b n hb;exact⟨by rw[setRow_other w g b DR he];exact p,r⟩
 have hne:∀b id,γ.BT b=some (.Nw id)->b≠g:=λb id hb he=>by rw[he,FX] at hb;cases hb
 have hk:Rg g γ w (γ.BU g h.length (some DR.size)) (w.setRow g DR):=⟨EU,λb x hb hx _=>⟨by simp only[Gh.BU,Ac hb];exact hx,setRow_other w g b DR hb⟩⟩;refine⟨_,EU,by simp[Gh.BU],⟨⟨λb o v hb=>?_,λid y Jk hy=>?_,λid Hp hc b hb=>?_,λid es hc b hb=>?_,λid b hb=>?_,λb y hy=>?_,aCY⟩,⟨hr.fr.size,λs=>?_⟩,hr.D7.write (g:=g) hB EU AB rfl rfl rfl (λb hb=>⟨setRow_other w g b DR hb,by simp only[Gh.BU,Ac hb]⟩),hr.defers,λx Hp hx=>C2.mono EU _ _ _ (hr.HB x Hp hx)⟩,by simp[Gh.BU]⟩
 .obtain⟨p,q,r⟩:=hr.Ee.IQ b o v hb;have O7:b≠g:=λhe=>by
   subst he;rw[FX] at r;rcases r with r|⟨_,_,_,r,hl⟩
   .cases r
   .cases r;omega
  exact⟨by rw[CQ (setRow_other w g b DR O7)];exact p,q,by simp only[Gh.BU,Ac O7];exact r⟩
 .by_cases he:id=h.length;.exact⟨g,by simp[Gh.BU,he],by simp[Gh.BU,he]⟩
  .have XB:id<h.length:=by rw[Aj] at Jk;obtain⟨hl,_⟩:=Jk;simp at hl;omega
   rw[Al XB] at Jk;obtain⟨b,p,q⟩:=hr.Ee.Nw id y Jk hy;exact⟨b,by simp only[Gh.BU,Ac he];exact p,by simp only[Gh.BU,Ac (hne b id q)];exact q⟩
 .by_cases he:id=h.length;.subst he;simp[Gh.BU] at hb;subst hb;simp at hc;subst hc;exact⟨DR,e,(0,0),setRow_heap w g us DR e (0,0) hg,.inl rfl,A8.mono EU _ _ hv,h1⟩
  .simp only[Gh.BU,Ac he] at hb;have XB:=hr.Ee.mu id b hb;rw[Al XB] at hc;obtain⟨b',c,d⟩:=hr.Ee.Nw id _ hc AB;rw[hb] at c;cases c;obtain⟨qR,i,wk,p,pf,q,r⟩:=hr.Ee.cells id Hp hc b hb;exact⟨qR,i,wk,by rw[setRow_other w g b DR (hne b id d)];exact p,pf,A8.mono EU _ _ q,r⟩
 .by_cases he:id=h.length;.subst he;simp at hc
  .simp only[Gh.BU,Ac he] at hb;have XB:=hr.Ee.mu id b hb;rw[Al XB] at hc;obtain⟨b',c,d⟩:=hr.Ee.Nw id _ hc AB;rw[hb] at c;cases c;obtain⟨Ep,clock,p,q⟩:=hr.Ee.map id es hc b hb;exact⟨Ep,clock,by rw[setRow_other w g b DR (hne b id d)];exact p,q.mono EU⟩
 .by_cases he:id=h.length;.simp[he]
  .simp only[Gh.BU,Ac he] at hb;have:=hr.Ee.mu id b hb;simp;omega
 .by_cases O7:b=g;.subst O7;have:=hr.Ee.BT _ _ FX;simpa using this
  .simp only[Gh.BU,Ac O7] at hy;have:=hr.Ee.BT b y hy;simpa using this
 .by_cases hs:s=U.length;.subst hs;rw[BR.Uz];trivial
  .exact(hr.fr.IJ s).keptBut FX hk (by simp only[Lb.qP];intro hx;cases hx;exact hs rfl)
def Db.VY(hr:Db C γ0 w0 γ Z U h a w){v v':Aa}{u:Value}{h':Ai}(hv:BP γ v u)(hf:LW h v=some (h',v')):∃γ',γ.le γ'/\Db C γ0 w0 γ' Z U h' a w/\BP γ' v' u:=by
 unfold LW at hf;split at hf
 .rename_i id off n z;obtain⟨b,cap,hb,hu,hc,hz,Lk⟩:=hv;split at hf
  .rename_i cs hcs;split at hf
   .rename_i hl;cases hf;obtain⟨us,e,fr,q,pf,p,m⟩:=hr.Ee.cells id cs hcs b hb;obtain⟨hi,ha⟩:=wm hr.Ee hcs hb q m;have rJ:∀(k o:Nat),(CG cs z o k).length=k:=by
     intro k;induction k with
     |zero=>intro o;rfl
     |succ k ih=>intro o;simp[CG,ih]
    have d:∀(k o i:Nat) (r:List Aa),(CG cs z o k)[i]?=some r->i<k/\r=(cs.drop (o+i*z)).take z:=by
     intro k;induction k with
     |zero=>intro o i r h;simp[CG] at h
     |succ k ih=>
      intro o i r h;cases i with
      |zero=>simp[CG] at h;exact⟨C3 _,by simpa using h.symm⟩
      |succ i=>simp[CG] at h;obtain⟨l,g⟩:=ih _ _ _ h;exact⟨Ab,by rw[g];congr 2;rw[BJ];omega⟩
    refine⟨_,ha.le,hr.Jw hi ha,⟨b,off,none⟩,cap,by rw[rJ];exact hu,by rw[rJ];exact hc,.inl rfl,Fb.Hr λi r f=>?_⟩;obtain⟨l,rfl⟩:=d n off i r f;have t:i*z+z<=n*z:=by have:=Ex z (Ab:i+1<=n);rwa [BJ,ER] at this
    refine⟨Et,C2.Hr λj x hj=>?_⟩;rw[CA] at hj;split at hj;.rename_i s;rw[CF] at hj;obtain⟨y,hy,c⟩:=p.get hj;have hlt:off+i*z+j<cs.length:=(Aj.1 hj).1;refine⟨y,?_,BP.mono ha.le _ _ c⟩;simp only[Gh.Dy,BN,Af hlt];rw[CM hlt] at hy;simpa using hy
    .cases hj
   .cases hf
  .cases hf
 .cases hf;exact⟨γ,.refl _,hr,hv⟩
def Th:∀{Ax:List (List Aa)} {s:Ah},NF Ax=some s->∃ns:List Int,Ax=ns.map (λn=>[.int .u8 n])/\s=ns.map λn=>UInt8.ofNat n.toNat
 |[],s,hs=>by cases hs;exact⟨[],rfl,rfl⟩
 |r::Ax,s,hs=>by
  unfold NF at hs;split at hs;.rename_i K4;cases K4
  .rename_i n rs K4;cases K4;cases hq:NF Ax with
   |none=>rw[hq] at hs;cases hs
   |some l=>rw[hq] at hs;cases hs;obtain⟨ns,rfl,rfl⟩:=Th hq;exact⟨n::ns,rfl,rfl⟩
  .cases hs
def XR:∀(ns:List Int) (r:ByteArray),ns.foldl (λr n=>r.push (UInt8.ofNat n.toNat)) r=⟨r.data++(ns.map λn=>UInt8.ofNat n.toNat).toArray⟩
 |[],r=>AB
 |n::ns,r=>by rw[ua,XR ns];simp[ByteArray.push]
def ŕ{o:Oper}{src dst e:TypeId}{x:Operand}{v v' u:Aa}{h':Ai}(ho:o.op= .convert src dst x)(hs:C.P.underlying src=some (.slice e))(hd:C.P.underlying dst=some .string)(he:C.P.underlying e=some (.int .u8))(hx:Fa C U x=some v)(hf:LW h v=some (h',v'))(hp:AH .ZM [v']=some u)
  (hr:Db C γ0 w0 γ Z U h a w):Ga C γ0 w0 o a w (U.put o.dst (.val u)) h':=by
 obtain⟨γ',EU,HY,K5⟩:=hr.VY (GU hr hx) hf;have Nz:∀s,(Conv.bytesToString (a.eval x)).run C.P w= .ok s w->(∃p l c,a.eval x= .slice p l c)->(execOp a.eval o).run C.P w= .ok (.value s) w:=λs AM ⟨p,l,c,qH⟩=>by simp only[execOp,ho];refine DJ ?_;rw[qH] at AM⊢;rw[run_convert_bytes_string w src dst e p l c hs he hd];exact AM
 simp only[AH] at hp;unfold eE at hp;split at hp
 .rename_i Ax;cases hq:NF Ax with
  |none=>rw[hq] at hp;cases hp
  |some s=>
   rw[hq] at hp;cases hp;obtain⟨ns,rfl,rfl⟩:=Th hq;obtain⟨d,cap,qH,hc,hsp,hR⟩:=K5;have M4:∀(j:Nat) (v:Value),(ns.map (Value.int .u8))[j]?=some v->d.add j=⟨d.block,d.off+j,none⟩:=λj v hj=>by
    have hpos:0<ns.length:=by have:=(Aj.1 hj).1;simp at this;omega
    have qZ:=O5 hsp hc (by simpa using hpos);generalize d.block=b at*;generalize d.off=o at*;subst qZ;unfold Addr.add;split<;>simp_all
   have hl:=run_loadCells_list (P:=C.P) w d (ns.map (Value.int .u8)) (λj v hj=>by
    rw[M4 j v hj];simp only[Dm] at hj;cases hn:ns[j]? with
    |none=>rw[hn] at hj;cases hj
    |some n=>rw[hn] at hj;cases hj;obtain⟨_,m⟩:=hR.get (i:=j) (r:=[.int .u8 n]) (by simp[hn]);obtain⟨y,hy,g⟩:=m.get (i:=0) (a:= .int .u8 n) rfl;rw[show y=_ from g] at hy;have:=(HY.Ee.IQ _ _ _ hy).1;simpa using this)
   simp only[Aw] at hl;have AM:=run_bytesToString (P:=C.P) w d ns.length cap ns hl;have k:ByteArray.empty.data=#[]:=rfl;rw[XR,k,Array.empty_append] at AM;have f:a.eval x= .slice (some d) ns.length cap:=by rw[qH];simp
   rw[<-f] at AM;exact Ga.value (Nz _ AM ⟨_,_,_,f⟩) (HY.put λ_ _=>rfl)
 .cases hp;have f:a.eval x= .slice none 0 0:=K5;have AM:(Conv.bytesToString (a.eval x)).run C.P w= .ok (.string ⟨⟨[]⟩⟩) w:=by rw[f];simp[Conv.bytesToString];rfl
  exact Ga.value (Nz _ AM ⟨_,_,_,f⟩) (HY.put λ_ _=>rfl)
 .cases hp
def xi(C:Gj)(f:FuncId):Prop:=
 (∃fn c,C.P.funcs[f]?=some fn/\(fn.name== "runtime.NumGoroutine")=false/\fn.body=some c)/\
 ∀(γ:Gh) (h:Ai) (w:World) (s:Aa) (d:Value) (i x:Int) (h':Ai) (r:Aa) (g b:Nat) (us:Array Value) (e:TypeId),Ic γ h w->BP γ s d->Rd h [s,.int .i64 i,.sl 1 [[.int .i64 x]]]=some (h',r)->
  w.heap[g]?=some (.cells us e (0,0))->us[0]?=some (.int .i64 x)->(∀id,γ.BT g≠some (.Nw id))->1<=b->us.size=b->
  Calls C.P f #[d,.int .i64 i,.slice (some ⟨g,0,none⟩) 1 b] w λe w'=>match e with
   | .returned v=>∃γ',Ic γ' h' w'/\M1 γ w γ' w'/\BP γ' r v
   |_=>False
def Fk(C:Gj)(run:IT->Ai->Option Ku):Prop:=
 ((∀g cs,C.HB g=some cs->cs.all Aa.Nx=true)/\∀f,C.Mm f=true->xi C f)/\
 ∀(f:FuncId) (args:List Aa) (h:Ai) (r:Aa) (h':Ai),run (Cd C f args) h=some (.ret,[r],h')->
  (∃fn c,C.P.funcs[Fe f]?=some fn/\(fn.name== "runtime.NumGoroutine")=false/\fn.body=some c)/\
  ∀(γ:Gh) (w:World) (cargs:Array Value),Ic γ h w->(∀g cs,C.HB g=some cs->C2 γ cs g 0)->A8 γ args cargs.toList->
   Calls C.P (Fe f) cargs w λe w'=>match e with
    | .returned v=>∃γ',Ic γ' h' w'/\M1 γ w γ' w'/\BP γ' r v/\(C.KC f=true->∃s c,JO γ' w.heap.size w' s c v r)
    |_=>False
def Db.aC3(hr:Db C γ0 w0 γ Z U h a w){h':Ai}{r:Aa}{v:Value}(hi:Ic γ' h' w')(ha:M1 γ w γ' w')(hv:BP γ' r v){BT:Bool}(ho:BT=true->∃s c,JO γ' w.heap.size w' s c v r)(d:Option Nat):
  ∃f,Db C γ0 w0 f Z (U.put d (if BT then .BT r else .val r)) h' (a.put d v) w':=by
 cases BT with
 |false=>exact⟨γ',(hr.Jw hi ha).put λ_ _=>hv⟩
 |true=>
  obtain⟨s,c,j⟩:=ho rfl;rcases j with j|⟨g,n,cap,us,e,z,Ax,rfl,h2,h3,l,k⟩
  .exact⟨γ',(hr.Jw hi ha).put λ_ _=>⟨hv,.inl j⟩⟩
  .have i:M1 γ w (γ'.F8 g (.tail U.length none (n*z))) w':=⟨ha.le.trans (HJ _ _ _),ha.size,ha.os,ha.tape,ha.output,λb hb hn=>by obtain⟨p,q⟩:=ha.O6 b hb hn;exact⟨p,by simp only[Gh.F8,Ac (Ab:b≠g)];exact q⟩⟩
   have HY:=hr.Jw (hi.F8 (s':=U.length) (c':=none) h3) i;exact HY.XM (BP.mono (HJ _ _ _) _ _ hv) (.inr ⟨g,n,cap,us,e,z,Ax,rfl,h2,by simp[Gh.F8],Bv hr.D7.size l,k⟩) d
def IK{P:Program}{f:FuncId}{fn:Func}{c:Code}(hf:P.funcs[f]?=some fn)(hname:(fn.name== "runtime.NumGoroutine")=false)(hb:fn.body=some c)(args:Array Value)(w:World):
  (callFunc f args).run P w= .ok (.enter f args) w:=by
 have hn:¬fn.name= "runtime.NumGoroutine":=by simpa using hname
 simp[callFunc,hf,hn,hb]
def Ti{o:Oper}{f:FuncId}{cargs:Array Value}{K:Act->World->Prop}{Q:Exit->Act->World->Prop}(he:(execOp a.eval o).run C.P w= .ok (.enter f cargs) w){R:Value->World->Prop}
  (hc:Calls C.P f cargs w λe w'=>match e with| .returned v=>R v w'|_=>False) (hk:∀v w',R v w'->K (a.put o.dst v) w'):o.wp C.P a w K Q:=by
 unfold Oper.wp;rw[he];refine hc.mono λe w' h=>?_;cases e with
 |returned v=>exact hk v w' h
 |_=>exact h.elim
def xj{run:IT->Ai->Option Ku}(g:Fk C run){o:Oper}{c:Call}{f:FuncId}{args:List Aa}{r:Aa}{h':Ai}{K:Act->World->Prop}{Q:Exit->Act->World->Prop}(ho:o.op= .call c)(hcl:c.callee= .value (.func (Fe f)))(ha:Bs C U c.args.toList=some args)
  (AM:run (Cd C f args) h=some (.ret,[r],h')) (hr:Db C γ0 w0 γ Z U h a w) (i:∀γ' v w',Db C γ0 w0 γ' Z (U.put o.dst (if C.KC f then .BT r else .val r)) h' (a.put o.dst v) w'->K (a.put o.dst v) w'):o.wp C.P a w K Q:=by
 obtain⟨⟨fn,j,hf,hname,hb⟩,d⟩:=g.2 f args h r h' AM;have b:A8 γ args (c.args.map a.eval).toList:=by simpa using D8 hr ha
 refine Ti (f:=Fe f) (cargs:=c.args.map a.eval) ?_ (d γ w _ hr.Ee hr.HB b) λv w' ⟨γ',hi,KH,hv,FX⟩=>?_;.have h0:a.eval (.func (Fe f))= .func (.func (Fe f)) #[] #[]:=rfl;simp only[execOp,ho,resolve,hcl,Deferred.ofValue,h0,Sem.run_bind,Sem.run_pure,Result.andThen_ok,invoke];simpa using IK hf hname hb (c.args.map a.eval) w
 .obtain⟨e,M5⟩:=hr.aC3 hi KH hv FX o.dst;exact i e v w' M5
def Ŗ{run:IT->Ai->Option Ku}(L:Fk C run){o:Oper}{c:Call}{f:FuncId}{s i x:Operand}{args:List Aa}{r:Aa}{h':Ai}{K:Act->World->Prop}{Q:Exit->Act->World->Prop}(ho:o.op= .call c)(hcl:c.callee= .value (.func f))(hf:C.Mm f=true)(E0:c.args.toList=[s,i,x])(FX:LX C U x=true)
  (ha:Bs C U [s,i,x]=some args) (hp:Rd h args=some (h',r)) (hr:Db C γ0 w0 γ Z U h a w) (M:∀γ' v w',Db C γ0 w0 γ' Z (U.put o.dst (.val r)) h' (a.put o.dst v) w'->K (a.put o.dst v) w'):o.wp C.P a w K Q:=by
 obtain⟨⟨fn,Y,xD,hname,hb⟩,ŗ⟩:=L.1.2 f hf;have rL:=D8 hr ha;obtain⟨A,d,f1,g1,f2⟩:∃A d,[a.eval s,a.eval i,a.eval x]=A::d/\BP γ (args.getD 0 .nilIface) A/\True:=by
  cases args with
  |nil=>cases rL
  |cons y l=>obtain⟨u,us,e,p,q⟩:=rL;exact⟨u,us,e,p,trivial⟩
 obtain⟨s',j,x',he,k,G,F⟩:∃s' j x',args=[s',.int .i64 j,.sl 1 [[.int .i64 x']]]/\∃(k:BP γ s' (a.eval s)) (G:a.eval i= .int .i64 j),BP γ (.sl 1 [[.int .i64 x']]) (a.eval x):=by
  unfold Rd at hp;split at hp;.obtain⟨_,_,_,e,E,D,B⟩:=rL.bI;simp only[Bj,DM,Cs,Jh] at e;obtain⟨rfl,rfl,rfl⟩:=e;exact⟨_,_,_,rfl,E,D,B⟩
  .obtain⟨_,_,_,e,E,D,B⟩:=rL.bI;simp only[Bj,DM,Cs,Jh] at e;obtain⟨rfl,rfl,rfl⟩:=e;exact⟨_,_,_,rfl,E,D,B⟩
  .cases hp
 subst he;have qG:Fa C U x=some (.sl 1 [[.int .i64 x']]):=by simp only[Bs] at ha;cases h1:Fa C U s<;>cases h2:Fa C U i<;>cases h3:Fa C U x<;>simp_all
 obtain⟨sl,qH⟩:∃sl,Eo C U x=some sl:=by
  unfold LX at FX;cases hs:Eo C U x with
  |none=>rw[hs] at FX;cases FX
  |some sl=>exact⟨sl,rfl⟩
 have aMf:∃v,sl= .BT v:=by unfold LX at FX;rw[qH] at FX;cases sl<;>first|exact⟨_,rfl⟩|cases FX
 obtain⟨v,rfl⟩:=aMf;obtain⟨s0,hrel,_⟩:=Gx hr qH;have aMg:v= .sl 1 [[.int .i64 x']]:=by simp only[Fa,qH,Cw,EM.HH,BL] at qG;exact qG
 subst aMg;obtain⟨xB,m⟩:=hrel;rcases m with(m|⟨_,m⟩)|⟨g,n,cap,us,e,z,Ax,h1,h2,h3,V,H,O,N,T,S⟩
 .cases m
 .cases m
 .cases h1;obtain⟨ad,J,I,X,W,R⟩:=F;rw[h2] at I;cases I;obtain⟨_,hm,_⟩:=R;obtain⟨⟨u,hu,hru⟩,_⟩:=hm;obtain⟨Ki,_,_⟩:=hr.Ee.IQ _ _ _ hu;have bD:us[0]?=some (.int .i64 x'):=by rw[cell_of_row w _ _ us e (0,0) H] at Ki;rw[Ki];exact B3 some hru
  have b:c.args.map a.eval=#[a.eval s,.int .i64 j,.slice (some ⟨g,0,none⟩) 1 cap]:=by apply HV;simp only[Oc,E0,Bj,DM,G,h2];rfl
  have WH:=ŗ γ h w s' _ j x' h' r g cap us e hr.Ee k hp H bD (λid Jk=>by rw[h3] at Jk;cases Jk) N (by rw[O,Hz]);rw[<-b] at WH;refine Ti (f:=f) (cargs:=c.args.map a.eval) ?_ WH λv w' ⟨γ',hi,KH,hv⟩=>?_;.have h0:a.eval (.func f)= .func (.func f) #[] #[]:=rfl;simp only[execOp,ho,resolve,hcl,Deferred.ofValue,h0,Sem.run_bind,Sem.run_pure,Result.andThen_ok,invoke];simpa using IK xD hname hb (c.args.map a.eval) w
  .obtain⟨t,M5⟩:=hr.aC3 (BT:=false) hi KH hv (λe=>by cases e) o.dst;exact M t v w' (by simpa using M5)
def Gh.apart(γ:Gh):Gh:={IQ:=γ.IQ,mu:=λ_=>none,BT:=λb=>match γ.BT b with|some (.Nw _)=>none|x=>x,sz:=γ.sz}
def Ic.apart(hi:Ic γ h w):Ic γ.apart [] w:=by
 refine⟨λb o v hb=>?_,λid x hx=>by simp at hx,λid cs hx=>by simp at hx,λid es hx=>by simp at hx,λid b hb=>(by cases hb),λb x hx=>?_,λb n hb=>?_⟩;rotate_left 2;.obtain⟨p,r⟩:=hi.sz b n hb;refine⟨p,.inl ?_⟩;simp only[Gh.apart];rcases r with r|⟨_,r⟩<;>rw[r]
 .obtain⟨p,q,r⟩:=hi.IQ b o v hb;refine⟨p,q,?_⟩;simp only[Gh.apart];rcases r with r|⟨s,c,st,r,hl⟩
  .exact .inl (by rw[r])
  .exact .inr ⟨s,c,st,by rw[r],hl⟩
 .simp only[Gh.apart] at hx;split at hx;.cases hx
  .exact hi.BT b x hx
def Db.Ř(hr:Db C γ0 w0 γ Z U h a w){c:Gh}{h1:Ai}(hi:Ic c h1 w')(ha:M1 γ.apart w c w'):∃d,Db C γ0 w0 d Z U h a w':=by
 have xE:∀b id,γ.apart.BT b≠some (.Nw id):=λb id e=>by
  simp only[Gh.apart] at e;split at e;.cases e
  .rename_i hn;exact hn id e
 have Ok:∀b,b<w.heap.size->w'.heap[b]?=w.heap[b]?:=λb hb=>(ha.O6 b hb (xE b)).1;refine⟨γ,hr.Jw ⟨λb o v hb=>?_,hr.Ee.Nw,λid cs hc b hb=>?_,λid es hc b hb=>?_,hr.Ee.mu,λb x hx=>JI (hr.Ee.BT b x hx) ha.size,λb n hb=>(by
   obtain⟨⟨us,e,fr,p,q⟩,r⟩:=hr.Ee.sz b n hb;exact⟨⟨us,e,fr,by rw[Ok b (AQ.1 p).1];exact p,q⟩,r⟩)⟩
  ⟨.refl _,ha.size,ha.os,ha.tape,ha.output,λb hb _=>⟨Ok b hb,rfl⟩⟩⟩
 .obtain⟨p,q,r⟩:=hr.Ee.IQ b o v hb;exact⟨by rw[CQ (Ok b (DU p))];exact p,q,r⟩
 .obtain⟨us,e,fr,p,q⟩:=hr.Ee.cells id cs hc b hb;exact⟨us,e,fr,by rw[Ok b (AQ.1 p).1];exact p,q⟩
 .obtain⟨Ep,clock,p,q⟩:=hr.Ee.map id es hc b hb;exact⟨Ep,clock,by rw[Ok b (AQ.1 p).1];exact p,q⟩
def XS{γ γ':Gh}{x:Aa}{v:Value}(hf:x.Nx=true)(hv:BP γ x v):BP γ' x v:=by cases x<;>first|exact hv|cases hf
def bQ{γ γ':Gh}:∀{l:List Aa} {us:List Value},l.all Aa.Nx=true->A8 γ l us->A8 γ' l us
 |[],us,_,h=>h
 |x::l,us,hf,h=>by obtain⟨u,DR,e,h1,h2⟩:=h;simp only[SQ,Bb] at hf;exact⟨u,DR,e,XS hf.1 h1,bQ hf.2 h2⟩
def C2.apart{γ:Gh}:∀{l:List Aa} {b o:Nat},C2 γ l b o->l.all Aa.Nx=true->C2 γ.apart l b o
 |[],_,_,_,_=>trivial
 |x::l,b,o,h,hf=>by obtain⟨⟨u,h1,h2⟩,h3⟩:=h;simp only[SQ,Bb] at hf;exact⟨⟨u,h1,XS hf.1 h2⟩,h3.apart hf.2⟩
def mj{run:IT->Ai->Option Ku}(i:Fk C run){o:Oper}{c:Call}{f:FuncId}{args:List Aa}{r:Aa}{h1:Ai}{K:Act->World->Prop}{Q:Exit->Act->World->Prop}(ho:o.op= .call c)(hcl:c.callee= .value (.func (Fe f)))(ha:Bs C U c.args.toList=some args)
  (hfa:args.all Aa.Nx=true) (AM:run (Cd C f args) []=some (.ret,[r],h1)) (XC:r.Nx=true) (hr:Db C γ0 w0 γ Z U h a w) (j:∀γ' v w',Db C γ0 w0 γ' Z (U.put o.dst (.val r)) h (a.put o.dst v) w'->K (a.put o.dst v) w'):o.wp C.P a w K Q:=by
 obtain⟨⟨fn,k,hf,hname,hb⟩,d⟩:=i.2 f args [] r h1 AM;have b:A8 γ.apart args (c.args.map a.eval).toList:=bQ hfa (by simpa using D8 hr ha);refine Ti (f:=Fe f) (cargs:=c.args.map a.eval) ?_ (d γ.apart w _ hr.Ee.apart (λg cs hg=>(hr.HB g cs hg).apart (i.1.1 g cs hg)) b) λv w' ⟨γ',hi,KH,hv,_⟩=>?_;.have h0:a.eval (.func (Fe f))= .func (.func (Fe f)) #[] #[]:=rfl;simp only[execOp,ho,resolve,hcl,Deferred.ofValue,h0,Sem.run_bind,Sem.run_pure,Result.andThen_ok,invoke];simpa using IK hf hname hb (c.args.map a.eval) w
 .obtain⟨e,M5⟩:=hr.Ř hi KH;exact j e v w' (M5.put λ_ _=>XS XC hv)
def ml{run:IT->Ai->Option Ku}(l:Fk C run){o:Oper}{c:Call}{g:Operand}{k:Aa}{f:FuncId}{args args':List Aa}{r:Aa}{h':Ai}{K:Act->World->Prop}{Q:Exit->Act->World->Prop}(ho:o.op= .call c)(hcl:c.callee= .value g)(hg:Fa C U g=some k)
  (ha:Bs C U c.args.toList=some args) (ht:CN k args=some (f,args')) (AM:run (Cd C f args') h=some (.ret,[r],h')) (hr:Db C γ0 w0 γ Z U h a w) (m:∀γ' v w',Db C γ0 w0 γ' Z (U.put o.dst (.val r)) h' (a.put o.dst v) w'->K (a.put o.dst v) w'):o.wp C.P a w K Q:=by
 obtain⟨⟨fn,n,hf,hname,hb⟩,b⟩:=l.2 f args' h r h' AM;have j:=GU hr hg;unfold CN at ht;split at ht
 .rename_i f0 first captured
  split at ht;rotate_left;.cases ht
  rename_i ĵ;cases ht;rw[show Fe f=f from Af ĵ] at hf b;obtain⟨fs,cs,IS,h1,h2⟩:=j;have d:A8 γ (first++args++captured) (fs++c.args.map a.eval++cs).toList:=by simpa using(h1.append (D8 hr ha)).append h2
  refine Ti (f:=f) (cargs:=fs++c.args.map a.eval++cs) ?_ (b γ w _ hr.Ee hr.HB d) λv w' ⟨γ',hi,KH,hv,FX⟩=>?_;.simp only[execOp,ho,resolve,hcl,Deferred.ofValue,IS,Sem.run_bind,Sem.run_pure,Result.andThen_ok,invoke];exact IK hf hname hb _ w
  .obtain⟨i,M5⟩:=hr.aC3 (BT:=false) hi KH hv (λe=>by cases e) o.dst;exact m i v w' (by simpa using M5)
 .cases ht
end
end Go.Am
end
