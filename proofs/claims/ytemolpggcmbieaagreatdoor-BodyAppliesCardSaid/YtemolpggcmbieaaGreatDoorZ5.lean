/- Lemmas -/
import Derived.Test.YtemolpggcmbieaaGreatDoorZ4
import Derived.Deep.AppendSrc
import Derived.Great.BuildSlice
import Derived.Laws.IdiomStrings
set_option linter.all false
section
namespace Go.Am
open Go
section
variable{C:FB}{U0 U U':Gh}{w0 w w':World}{O:Nat->Nat}{Z:BJ}{h:Ah}{a:Act}{fid:FuncId}{ops:List Oper}
def Dg{P:Program}{s:Sem Value}{v:Value}(hs:s.run P w= .ok v w'):(do pure (Next.value (<-s)):Sem Next).run P w= .ok (.value v) w':=by simp[hs]
def T5{J:Type}{z:Nat}:∀{Aw:List (List J)},(∀r∈Aw,r.length=z)->∀{i:Nat} {r:List J},Aw[i]?=some r->∀{j:Nat} {x:J},r[j]?=some x->Aw.flatten[i*z+j]?=some x
 |[],_,i,r,hi,_,_,_=>by simp at hi
 |q::Aw,hl,0,r,hi,j,x,hj=>by simp at hi;subst hi;have:j<q.length:=(Aj.1 hj).1;simp only[L9,BC,CB];rw[An this];exact hj
 |q::Aw,hl,i+1,r,hi,j,x,hj=>by
  simp at hi;have hq:q.length=z:=hl q Ax;rw[CB,Bn (by rw[hq,BE];omega)];have:=T5 (Aw:=Aw) (λr hr=>hl r (by simp[hr])) hi hj;rw[<-this];congr 1
  rw[hq,BE];omega
def GZ{J:Type}{z:Nat}:∀{Aw:List (List J)},(∀r∈Aw,r.length=z)->Aw.flatten.length=Aw.length*z
 |[],_=>Ax
 |q::Aw,hl=>by have hq:q.length=z:=hl q Ax;simp[hq,GZ (Aw:=Aw) (λr hr=>hl r (by simp[hr])),BE,OQ]
def NP{Aw:List (List Aa)}{us:List Value}{z b o:Nat}(hl:∀r∈Aw,r.length=z)(hv:AV U Aw.flatten us)(hi:∀(j:Nat) (u:Value),us[j]?=some u->U.HW b (o+j)=some u):EG U Aw z b o:=by refine EG.GB λi r hr=>⟨hl r (Cv hr),CP.GB λj x hj=>?_⟩;obtain⟨u,hu,hx⟩:=hv.get (T5 hl hr hj);exact⟨u,by rw[Rp];exact hi _ _ hu,hx⟩
def CX.drew(hr:CX C U0 w0 U O Z h a w):CX C U0 w0 U O Z h a w.drew:=hr.IB (hr.DI.same rfl) (LB.drew U w)
def BJ.Tg(Z:BJ):Z.at Z.length= .undef:=by simp[BJ.at,List.getD]
def CX.V5(hr:CX C U0 w0 U O Z h a w){x:Aa}{v:Value}(hv:BI U x v)(ho:IF U w0.heap.size w Z.length none v x)(d:Option Nat):∃U',CX C U0 w0 U' O (Z.put d (.BM x)) h (a.put d v) w:=by
 cases d with
 |none=>exact⟨U,hr⟩
 |some d=>
  rcases ho with ho|⟨g,n,cap,us,e,z,Aw,h1,h2,f,b,c⟩
  .exact⟨U,hr.put λs _=>⟨hv,.inl ho⟩⟩
  .have Jz:=hr.Fw (s':=d) (c':=none) f b (λ_ u=>by rw[BJ.Tg];simp) (λo ho=>by cases ho);exact⟨_,Jz.put λs hs=>by cases hs;exact⟨BI.mono (GW _ _ _) _ _ hv,.inr ⟨g,n,cap,us,e,z,Aw,h1,h2,by simp[Gh.Fw],b,c⟩⟩⟩
def CX.V6(hr:CX C U0 w0 U O Z h a w)(us:Array Value)(e:TypeId){z n cap:Nat}{Aw:List (List Aa)}(hz:0<z)(hn:Aw.length=n)(hl:∀r∈Aw,r.length=z)(YU:us.size=cap*z)(hc:n<=cap)(hm:cap<=maxLen)
  (hv:AV U Aw.flatten (us.toList.take (n*z))) (h1:∀u∈us.toList.take (n*z),u.oneCell'=true):
  ∃U',U.le U'/\CX C U0 w0 U' O Z h a (w.alloc (.cells us e))/\BI U' (.sl z Aw) (.slice (some ⟨w.heap.size,0,none⟩) n cap)/\IF U' w0.heap.size (w.alloc (.cells us e)) Z.length none (.slice (some ⟨w.heap.size,0,none⟩) n cap) (.sl z Aw):=by
 obtain⟨hi,ha⟩:=OX hr.DI us e (0,0) (n*z) (some (.tail Z.length none (n*z))) (λo u ho hu=>h1 u (Cv (i:=o) (by rw[CL ho];simpa using hu))) (.inr (.inl ⟨_,_,rfl⟩));refine⟨_,ha.le,hr.IB hi ha,⟨⟨w.heap.size,0,none⟩,cap,by rw[hn],Ac,.inl rfl,NP hl (AV.mono ha.le _ _ hv) λj u hj=>?_⟩,.inr ⟨w.heap.size,n,cap,us,e,z,Aw,rfl,rfl,by simp[Gh.C6],hr.DD.size,heap_alloc_new w _,YU,hc,hm,hz⟩⟩;rw[Cn] at hj;split at hj;.rename_i hlt;simp only[Gh.C6,BD,BC,Af hlt];simpa using hj
 .cases hj
def V8{size:Nat}:∀(vs:List Value) (k:Nat) (cells:Array Value),(∀v∈vs,v.cells.size=size)->(k+vs.length)*size<=cells.size->
  Instr.fill (λi=>some (i*size,size)) cells ((vs.zipIdx k).map λp=>(p.2,p.1))=some (cells.toList.take (k*size)++vs.flatMap (·.cells.toList)++cells.toList.drop ((k+vs.length)*size)).toArray
 |[],k,cells,_,_=>by simp[Instr.fill]
 |v::vs,k,cells,hv,hl=>by
  have hs:v.cells.size=size:=hv v Ax;simp only[AJ] at hl;have Ek:(k+1)*size+vs.length*size<=cells.size:=by rw[<-BE];exact Bp (L8 (by congr 1;omega)) hl
  have xb:(k+1)*size=k*size+size:=by rw[BE,Eh]
  simp only[qK,A0,Instr.fill];have f:¬(v.cells.size≠size\/k*size+v.cells.size>cells.size):=by rw[hs];omega
  simp only[CA,decide_not,On,B4,aOL,decide_eq_false_iff_not] at*;rw[Ag f];have hf:=NM v.cells.toList (k*size) 0 cells (by simp[hs];omega);have aI8:v.cells.zipIdx.foldl (λcs (c,j)=>cs.setIfInBounds (k*size+j) c) cells=(cells.toList.take (k*size)++v.cells.toList++cells.toList.drop (k*size+size)).toArray:=by rw[<-aM0,aIX];rw[hf];simp[hs]
  rw[aI8];have hlen:(cells.toList.take (k*size)++v.cells.toList++cells.toList.drop (k*size+size)).length=cells.size:=by simp[hs];omega
  rw[V8 vs (k+1) _ (λu hu=>hv u (by simp[hu])) (by simp only[B3];rw[hlen,BE];exact Ek)]
  congr 2
  have b:(cells.toList.take (k*size)++v.cells.toList).length=(k+1)*size:=by simp[hs];omega
  have e:(cells.toList.take (k*size)++v.cells.toList++cells.toList.drop (k*size+size)).take ((k+1)*size)=cells.toList.take (k*size)++v.cells.toList:=by rw[<-b];exact Fa
  have d:(cells.toList.take (k*size)++v.cells.toList++cells.toList.drop (k*size+size)).drop ((k+1+vs.length)*size)=cells.toList.drop ((k+(vs.length+1))*size):=by
   rw[SN,AT (by rw[b];exact DW _ Ac),b,Ez,BO];congr 1
   have:(k+1+vs.length)*size-(k+1)*size=vs.length*size:=by rw[BE (k+1)];omega
   rw[this,BE k,BE vs.length];omega
  rw[e,d];simp
def KT{P:Program}{t:TypeId}(h:LM P t=true):∃i z,P.info? t=some i/\i.zero=some z/\z.cells.size=i.size:=by
 unfold LM at h;split at h
 .rename_i i hi;split at h;.rename_i z hz;exact⟨i,z,hi,hz,by simpa using h⟩
  .cases h
 .cases h
def Jp{P:Program}{t:TypeId}{n:Nat}{i:TypeInfo}(h:BR P t=some n)(hi:P.info? t=some i):i.size=n:=by simpa[BR,hi] using h
def Lo{P:Program}{t:TypeId}{n:Nat}{i:TypeInfo}(h:JD P t=some n)(hi:P.info? t=some i):i.bytes=n:=by simpa[JD,hi] using h
def V9:∀{args:List Aa} {us:List Value} {z:Nat},AV U args us->(∀x∈args,x.cells.length=z)->0<z->AV U (args.map (·.cells)).flatten (us.flatMap (·.cells.toList))/\(∀u∈us.flatMap (·.cells.toList),u.oneCell'=true)/\∀u∈us,u.cells.size=z
 |[],us,z,h,_,_=>by rw[AV] at h;subst h;exact⟨rfl,Ax,Ax⟩
 |x::args,us,z,h,hl,hz=>by
  obtain⟨u,Dq,rfl,h1,h2⟩:=h;have hx:=hl x Ax;obtain⟨b,e⟩:=GX h1 Ac;obtain⟨d,r2,c⟩:=V9 h2 (λy hy=>hl y (by simp[hy])) hz;refine⟨by simpa using b.append d,λv hv=>?_,λv hv=>?_⟩;.simp only[List.flatMap_cons,Aq] at hv;exact hv.elim (e v) (r2 v)
  .rcases AE.1 hv with rfl|hv
   .have:=b.length;simp at this;omega
   .exact c v hv
def Y5{a:Act}:∀{l:List (Nat×Operand)} {k:Nat},l.map (·.1)=List.range' k l.length->l.map (λp=>(p.1,a.eval p.2))=((l.map λp=>a.eval p.2).zipIdx k).map λp=>(p.2,p.1)
 |[],k,_=>Ax
 |(i,x)::l,k,h=>by simp only[A0,AJ,List.range'_succ,EE] at h;obtain⟨rfl,h⟩:=h;simp[qK,Y5 h]
def jr{o:Oper}{t e:TypeId}{len n:Nat}{parts:Array (Nat×Operand)}{args:List Aa}{u:Aa}(ho:o.op= .buildSlice t len parts)(ht:C.P.underlying t=some (.slice e))(K8:BR C.P e=some (n+1))(hp:parts.toList.map (·.1)=List.range len)(eY:LM C.P e=true)
  (ha:Bm C Z (parts.toList.map (·.2))=some args) (hu:Ay (.Cl (n+1)) args=some u) (hr:CX C U0 w0 U O Z h a w):Fy C U0 w0 o a w (Z.put o.dst (.BM u)) h:=by
 obtain⟨i,z,hi,hz,aI⟩:=KT eY;have Qi:=Jp K8 hi;simp only[Ay] at hu;split at hu
 .rename_i hc;cases hu;simp only[AO,CK,wv,B4] at hc;obtain⟨Yk,K9⟩:=hc;have Ep:=DE hr ha;have hlen:parts.toList.length=len:=by have:=B5 List.length hp;simpa using this
  have aJ:args.length=len:=by have:=Ep.length;simp at this;simp at hlen;omega
  obtain⟨d,g,f⟩:=V9 Ep Yk (CT n);have Y6:=d.length;rw[GZ (z:=n+1) (by intro r hr;obtain⟨x,hx,rfl⟩:=AZ.1 hr;exact Yk x hx),As,aJ] at Y6;have AG:∃cells:Array Value,cells.toList=(parts.toList.map (·.2) |>.map a.eval).flatMap (·.cells.toList)/\(Instr.buildSlice t len (parts.map λ(i,x)=>(i,a.eval x))).run C.P w= .ok (.slice (some ⟨w.heap.size,0,none⟩) len len) (w.alloc (.cells cells e)):=by
   have rJ:(parts.map λ(i,x)=>(i,a.eval x)).toList=(((parts.toList.map (·.2)).map a.eval).zipIdx 0).map λp=>(p.2,p.1):=by have:=Y5 (a:=a) (l:=parts.toList) (k:=0) (by rw[hlen,<-aHT];exact hp);simp only[MV,aDI];exact this
   have rG:=V8 (size:=n+1) ((parts.toList.map (·.2)).map a.eval) 0 ((Array.range (len*(n+1))).map (z.cells[·%z.cells.size]!)) f (by simp at hlen⊢;rw[hlen];exact Ab _);rw[<-rJ] at rG;have e0:((Array.range (len*(n+1))).map (z.cells[·%z.cells.size]!)).toList.drop ((0+((parts.toList.map (·.2)).map a.eval).length)*(n+1))=[]:=by apply AT;simp at hlen⊢;rw[hlen];exact Ab _
   rw[e0] at rG;simp only[L9,Ma,BO,Bq] at rG;refine⟨_,rfl,?_⟩;by_cases h0:len*(n+1)=0
   .have c:len=0:=by
     rcases Nat.mul_eq_zero.1 h0 with h|h
     .exact h
     .omega
    subst c;have ŝ:parts=#[]:=by apply Ij;simpa using hlen
    subst ŝ;have b:(Array.range 0:Array Nat)=#[]:=rfl;simp[Instr.buildSlice,run_underlying ht,sizeOf,typeInfo,hi,newRow,Instr.fill,b]
   .exact run_buildSlice w t e len _ _ i z ht hi hz (by rw[Qi];rw[aJ] at K9;omega) (by rw[Qi];exact h0) (by rw[Qi];exact rG)
  obtain⟨cells,hcells,AG⟩:=AG;have hcs:cells.size=len*(n+1):=by rw[<-Cb,hcells];exact Y6
  obtain⟨U',Ek,Hd,Gc,Fp⟩:=hr.V6 cells e (z:=n+1) (n:=len) (cap:=len) (Aw:=args.map (·.cells)) (CT n) (by simp[aJ]) (by intro r hr;obtain⟨x,hx,rfl⟩:=AZ.1 hr;exact Yk x hx) hcs (Ab _)
   (by rw[aJ] at K9;have:len<=len*(n+1):=Ik _ (CT n);simp only[maxLen];omega) (by rw[hcells,Be (by rw[Y6];exact Ab _)];exact d) (by rw[hcells,Be (by rw[Y6];exact Ab _)];exact g)
  obtain⟨j,LQ⟩:=Hd.V5 Gc Fp o.dst;exact Fy.value (by simp only[execOp,ho];exact Dg AG) LQ
 .cases hu
def js{o:Oper}{t e:TypeId}{len n:Nat}{parts:Array (Nat×Operand)}(ho:o.op= .buildSlice t len parts)(ht:C.P.underlying t=some (.slice e))(K8:BR C.P e=some (n+1))(hp:parts.toList.map (·.1)=List.range len)(eY:LM C.P e=true)(h0:len=0)
  (hr:CX C U0 w0 U O Z h a w):Fy C U0 w0 o a w (Z.put o.dst (.BM (.EC (n+1)))) h:=by
 subst h0;obtain⟨i,z,hi,hz,aI⟩:=KT eY;have ŝ:parts=#[]:=by apply Ij;have:=B5 List.length hp;simpa using this
 subst ŝ;have b:(Array.range 0:Array Nat)=#[]:=rfl;have AG:(Instr.buildSlice t 0 ((#[]:Array (Nat×Operand)).map λ(i,x)=>(i,a.eval x))).run C.P w= .ok (.slice (some ⟨w.heap.size,0,none⟩) 0 0) (w.alloc (.cells #[] e)):=by simp[Instr.buildSlice,run_underlying ht,sizeOf,typeInfo,hi,newRow,Instr.fill,b]
 obtain⟨U',Ek,Hd,_,_⟩:=hr.V6 #[] e (z:=n+1) (n:=0) (cap:=0) (Aw:=[]) (CT n) rfl Ax Ax (Ab _) (by simp[maxLen]) (by rw[L9];exact(rfl:AV U [] [])) Ax;obtain⟨c,LQ⟩:=Hd.V5 (x:= .EC (n+1)) (v:= .slice (some ⟨w.heap.size,0,none⟩) 0 0) ⟨_,rfl⟩ (.inl (.inr ⟨_,rfl⟩)) o.dst;exact Fy.value (by simp only[execOp,ho];exact Dg AG) LQ
def rM{t':TypeId}{size bytes:Nat}{v u r:Aa}{d:Value}(Ir:(∃f,C.P.underlying t'=some (.slice f))\/C.P.underlying t'=some .string)(hi:Hi U h w)(hu:BI U u d)(hp:Ht size bytes v u=some r):
  ∃(Aw:List (List Aa)) (news:List Value),Dl size bytes v Aw=some r/\Src C.P size t' d Aw.length news w/\AV U Aw.flatten news/\(∀r∈Aw,r.length=size):=by
 unfold Ht at hp;split at hp;.rw[show d=_ from hu];exact⟨[],[],hp,⟨Ir,λ_=>rfl,run_firstCells_none w size 0 0 0,run_firstCells_none w.drew size 0 0 0,Ax,Ax⟩,rfl,Ax⟩
 .rename_i z;split at hp;.obtain⟨b,yb⟩:=hu;rw[yb];exact⟨[],[],hp,⟨Ir,λ_=>rfl,run_firstCells_some w _ _ _ _ _ [] Ax (λj x hj=>by simp at hj),run_firstCells_some w.drew _ _ _ _ _ [] Ax (λj x hj=>by simp at hj),Ax,Ax⟩,rfl,Ax⟩
  .cases hp
 .rename_i z Aw;split at hp
  .rename_i hz;subst hz;obtain⟨c,cap,yb,O4,hsp,hR⟩:=hu;obtain⟨us,p1,p2,e⟩:=hR.values;have M5:∀(j:Nat) (x:Value),us[j]?=some x->c.add j=⟨c.block,c.off+j,none⟩:=λj x hj=>by
    have hpos:0<Aw.length:=by
     rcases Lm Aw.length with h0|h0
     .have:us.length=0:=by rw[p2,h0,L9]
      rw[CN this] at hj;simp at hj
     .exact h0
    have mA:=ND hsp O4 hpos;generalize c.block=b at*;generalize c.off=o at*;subst mA;unfold Addr.add;split<;>simp_all
   rw[yb];refine⟨Aw,us,hp,⟨Ir,λ_=>rfl,run_firstCells_some w _ _ _ _ _ us p2 (λj x hj=>by rw[M5 j x hj];exact(hi.HW _ _ _ (e j x hj)).1),run_firstCells_some w.drew _ _ _ _ _ us p2 (λj x hj=>by rw[M5 j x hj];exact(hi.HW _ _ _ (e j x hj)).1),p2,λx hx=>?_⟩,p1,λr hr=>?_⟩;.obtain⟨j,hj⟩:=CF hx;exact(hi.HW _ _ _ (e j x hj)).2.1
   .obtain⟨j,hj⟩:=CF hr;exact(hR.get hj).1
  .cases hp
 .rename_i s;split at hp
  .rename_i hz;subst hz;rw[show d=_ from hu];have hlen:(CY s).length=(⟨⟨s⟩⟩:ByteArray).size:=by simp[CY,ByteArray.size]
   have hrel:∀l:List UInt8,AV U (CY l).flatten (l.map λb=>Value.int .u8 b.toNat):=by
    intro l;induction l with
    |nil=>rfl
    |cons b l ih=>exact⟨_,_,rfl,rfl,ih⟩
   refine⟨CY s,byteCells ⟨⟨s⟩⟩,hp,?_,?_,λr hr=>?_⟩;.rw[hlen];exact⟨Ir,λ_=>rfl,firstCells_string _ w,firstCells_string _ w.drew,by rw[byteCells_length,F7],λu hu=>by obtain⟨_,_,rfl⟩:=AZ.1 hu;rfl⟩
   .simpa[byteCells] using hrel s
   .obtain⟨b,_,rfl⟩:=AZ.1 hr;rfl
  .cases hp
 .cases hp
def CX.jt(hr:CX C U0 w0 U O Z h a w){g n cap z:Nat}{us:Array Value}{e:TypeId}{rr Aw:List (List Aa)}{news:List Value}(Fp:U.BM g=some (.tail Z.length none (n*z)))(hB:w0.heap.size<=g)(hg:w.heap[g]?=some (.cells us e (0,0)))
  (YU:us.size=cap*z) (hm:cap<=maxLen) (hz:0<z) (hv:BI U (.sl z rr) (.slice (some ⟨g,0,none⟩) n cap)) (hl:∀r∈Aw,r.length=z) (hn:AV U Aw.flatten news) (h1:∀u∈news,u.oneCell'=true) (hroom:n+Aw.length<=cap):
  ∃U',U.le U'/\CX C U0 w0 U' O Z h a (w.setRow g (us.toList.take (n*z)++news++us.toList.drop (n*z+news.length)).toArray)/\BI U' (.sl z (rr++Aw)) (.slice (some ⟨g,0,none⟩) (n+Aw.length) cap)/\
   IF U' w0.heap.size (w.setRow g (us.toList.take (n*z)++news++us.toList.drop (n*z+news.length)).toArray) Z.length none (.slice (some ⟨g,0,none⟩) (n+Aw.length) cap) (.sl z (rr++Aw)):=by
 obtain⟨t,cap',gC,O4,_,hR⟩:=hv;simp only[Value.slice.injEq,Bx] at gC;obtain⟨rfl,rfl,rfl⟩:=gC;simp only at hR;have Qj:news.length=Aw.length*z:=by rw[hn.length,GZ hl]
 have hfit:(rr.length+Aw.length)*z<=us.size:=by rw[YU];exact DW _ hroom
 rw[BE] at hfit;have c:(us.toList.take (rr.length*z)).length=rr.length*z:=Ed;obtain⟨vs,m,q,l⟩:=hR.values;have hvs:vs=us.toList.take (rr.length*z):=by
  apply L7;intro j;by_cases hj:j<rr.length*z
  .have d:j<vs.length:=by rw[q];exact hj
   have hc:=(hr.DI.HW _ _ _ (l j _ (Au d))).1;rw[cell_of_row w _ _ us e (0,0) hg,BC] at hc;rw[Au d,CL hj];simpa using hc.symm
  .rw[C4 Ac,C4 (by rw[c];omega)]
 rw[hvs] at m;have aK:∀u∈us.toList.take (rr.length*z),u.oneCell'=true:=λu hu=>by rw[<-hvs] at hu;obtain⟨j,hj⟩:=CF hu;exact(hr.DI.HW _ _ _ (l j u hj)).2.1
 have f:(rr.length+Aw.length)*z=rr.length*z+Aw.length*z:=BE _ _ _;have Ē:((us.toList.take (rr.length*z)++news++us.toList.drop (rr.length*z+news.length)).toArray).toList.take ((rr.length+Aw.length)*z)=us.toList.take (rr.length*z)++news:=by
  have:(us.toList.take (rr.length*z)++news).length=(rr.length+Aw.length)*z:=by rw[Ap,c,Qj,f]
  rw[<-this];exact Fa
 have K8:(us.toList.take (rr.length*z)++news++us.toList.drop (rr.length*z+news.length)).length=us.size:=by simp[Qj];omega
 generalize p:(us.toList.take (rr.length*z)++news++us.toList.drop (rr.length*z+news.length)).toArray=Dq at*;have aJb:Dq.size=us.size:=by rw[<-p];simpa using K8
 obtain⟨hi,Ek⟩:=lV hr.DI Fp hg Dq ((rr.length+Aw.length)*z) Z.length none (λo ho=>by
   rw[<-p,AQ,List.getElem?_toArray,An Ac,CL ho];simp)
  Ac (λo u ho hu=>by
   have:u∈Dq.toList.take ((rr.length+Aw.length)*z):=by refine Cv (i:=o) ?_;rw[CL ho];simpa using hu
   rw[Ē,Aq] at this;exact this.elim (aK u) (h1 u)) (λo v hv=>by
   have:=(hr.DI.HW _ _ _ hv).1;rwa [cell_of_row w _ _ us e (0,0) hg] at this)
 have hk:PX g U w (U.C6 g Dq ((rr.length+Aw.length)*z) (some (.tail Z.length none ((rr.length+Aw.length)*z)))) (w.setRow g Dq):=
  ⟨Ek,λb x hb hx _=>⟨by simp only[Gh.C6,Ag hb];exact hx,setRow_other w g b Dq hb⟩⟩
 have k:EG (U.C6 g Dq ((rr.length+Aw.length)*z) (some (.tail Z.length none ((rr.length+Aw.length)*z)))) (rr++Aw) z g 0:=by
  refine NP (us:=Dq.toList.take ((rr.length+Aw.length)*z)) (λr hr=>?_) ?_ (λj u hj=>?_)
  .rcases Aq.1 hr with hr|hr
   .obtain⟨i,hi⟩:=CF hr;exact(hR.get hi).1
   .exact hl r hr
  .rw[Ē,Kz];exact(AV.mono Ek _ _ m).append (AV.mono Ek _ _ hn)
  .rw[Cn] at hj;split at hj;.rename_i hlt;simp only[Gh.C6,BD,BC,Af hlt];simpa using hj
   .cases hj
 refine⟨_,Ek,⟨hi,⟨hr.fr.size,λs=>?_⟩,hr.DD.write (g:=g) hB Ek Ax rfl rfl rfl (λb hb=>⟨setRow_other w g b Dq hb,by simp only[Gh.C6,Ag hb]⟩),hr.defers,λx cs hx=>CP.mono Ek _ _ _ (hr.Gy x cs hx)⟩,
  ⟨⟨g,0,none⟩,cap,Ax,by simpa using hroom,.inl rfl,k⟩,.inr ⟨g,rr.length+Aw.length,cap,Dq,e,z,rr++Aw,rfl,rfl,by simp[Gh.C6],hB,setRow_heap w g us Dq e (0,0) hg,by rw[aJb,YU],hroom,hm,hz⟩⟩
 by_cases hs:s=Z.length;.subst hs;rw[BJ.Tg];trivial
 .exact(hr.fr.HS s).keptBut Fp hk (by simp only[Kc.lS];intro hx;cases hx;exact hs rfl)
def NQ{t t' ty:TypeId}{ts:Array TypeId}{xs:Array Value}(h0:ts[0]?=some t)(h1:ts[1]?=some t'):Builtin.append_ ts ty xs=Builtin.append_ #[t,t'] ty xs:=by simp only[Builtin.append_,h0,h1];rfl
def AV.yc{l:List Aa}{us:List Value}{n:Nat}(h:AV U l us)(hn:us.length<=n):AV U l (us.take n):=by rw[Be hn];exact h
def M6{cs:List Aa}{z:Nat}:∀{n off:Nat},(Cs cs z off n).flatten=(cs.drop off).take (n*z)
 |0,off=>by simp[Cs]
 |n+1,off=>by rw[Cs,CB,M6,BE,Eh,OQ (n*z) z,ă,Ez]
def Ou{cs:List Aa}{z:Nat}:∀{n off:Nat},(Cs cs z off n).length=n
 |0,off=>rfl
 |n+1,off=>by rw[Cs,AJ,Ou]
def Qw{cs:List Aa}{z:Nat}:∀{n off:Nat},off+n*z<=cs.length->∀r∈Cs cs z off n,r.length=z
 |0,off,_,r,hr=>by simp[Cs] at hr
 |n+1,off,hl,r,hr=>by
  rw[BE,Eh] at hl;rw[Cs,AE] at hr;rcases hr with rfl|hr
  .rw[AB,Bj];omega
  .exact Qw Ac r hr
def Wa{t':TypeId}{size:Nat}{u:Aa}{f:Value}{Aw:List (List Aa)}(Ir:(∃i,C.P.underlying t'=some (.slice i))\/C.P.underlying t'=some .string)(hi:Hi U h w)(hu:BI U u f)(hp:Gb h size u=some Aw):
  ∃news:List Value,Src C.P size t' f Aw.length news w/\AV U Aw.flatten news/\(∀r∈Aw,r.length=size):=by
 unfold Gb at hp;split at hp;.cases hp;rw[show f=_ from hu];exact⟨[],⟨Ir,λ_=>rfl,run_firstCells_none w size 0 0 0,run_firstCells_none w.drew size 0 0 0,Ax,Ax⟩,rfl,Ax⟩
 .rename_i z;split at hp;.cases hp;obtain⟨b,yb⟩:=hu;rw[yb];exact⟨[],⟨Ir,λ_=>rfl,run_firstCells_some w _ _ _ _ _ [] Ax (λj x hj=>by simp at hj),run_firstCells_some w.drew _ _ _ _ _ [] Ax (λj x hj=>by simp at hj),Ax,Ax⟩,rfl,Ax⟩
  .cases hp
 .rename_i z g;split at hp
  .rename_i hz;cases hp;subst hz;obtain⟨d,cap,yb,O4,hsp,hR⟩:=hu;obtain⟨us,p1,p2,c⟩:=hR.values;have M5:∀(j:Nat) (x:Value),us[j]?=some x->d.add j=⟨d.block,d.off+j,none⟩:=λj x hj=>by
    have hpos:0<Aw.length:=by
     rcases Lm Aw.length with h0|h0
     .have:us.length=0:=by rw[p2,h0,L9]
      rw[CN this] at hj;simp at hj
     .exact h0
    have mA:=ND hsp O4 hpos;generalize d.block=b at*;generalize d.off=o at*;subst mA;unfold Addr.add;split<;>simp_all
   rw[yb];refine⟨us,⟨Ir,λ_=>rfl,run_firstCells_some w _ _ _ _ _ us p2 (λj x hj=>by rw[M5 j x hj];exact(hi.HW _ _ _ (c j x hj)).1),run_firstCells_some w.drew _ _ _ _ _ us p2 (λj x hj=>by rw[M5 j x hj];exact(hi.HW _ _ _ (c j x hj)).1),p2,λx hx=>?_⟩,p1,λr hr=>?_⟩;.obtain⟨j,hj⟩:=CF hx;exact(hi.HW _ _ _ (c j x hj)).2.1
   .obtain⟨j,hj⟩:=CF hr;exact(hR.get hj).1
  .cases hp
 .rename_i s;split at hp
  .rename_i hz;cases hp;subst hz;rw[show f=_ from hu];have hlen:(CY s).length=(⟨⟨s⟩⟩:ByteArray).size:=by simp[CY,ByteArray.size]
   have hrel:∀l:List UInt8,AV U (CY l).flatten (l.map λb=>Value.int .u8 b.toNat):=by
    intro l;induction l with
    |nil=>rfl
    |cons b l ih=>exact⟨_,_,rfl,rfl,ih⟩
   refine⟨byteCells ⟨⟨s⟩⟩,?_,?_,λr hr=>?_⟩;.rw[hlen];exact⟨Ir,λ_=>rfl,firstCells_string _ w,firstCells_string _ w.drew,by rw[byteCells_length,F7],λu hu=>by obtain⟨_,_,rfl⟩:=AZ.1 hu;rfl⟩
   .simpa[byteCells] using hrel s
   .obtain⟨b,_,rfl⟩:=AZ.1 hr;rfl
  .cases hp
 .rename_i id off n z;split at hp
  .rename_i hz;subst hz;split at hp
   .rename_i cs hcs;split at hp
    .rename_i hl;cases hp;obtain⟨b,cap,hb,yb,O4,fw,K8⟩:=hu;obtain⟨us,e,fr,p1,pf,p2,c⟩:=hi.cells id cs hcs b hb;have fu:(us.toList.take cs.length).length=cs.length:=p2.length;have Qj:(((us.toList.take cs.length).drop off).take (n*z)).length=n*z:=by rw[AB,Bj,fu];omega
     have M5:∀j,(⟨b,off,none⟩:Addr).add j=⟨b,off+j,none⟩:=λj=>by unfold Addr.add;split<;>simp_all
     have Jo:∀(j:Nat) (x:Value),(((us.toList.take cs.length).drop off).take (n*z))[j]?=some x->w.cell? ((⟨b,off,none⟩:Addr).add j)=some x:=λj x hj=>by
      rw[M5,cell_of_row w _ _ us e fr p1];rw[Cn] at hj;split at hj
      .rw[Cr,Cn] at hj;split at hj;.simpa using hj
       .cases hj
      .cases hj
     rw[yb,Ou];refine⟨((us.toList.take cs.length).drop off).take (n*z),⟨Ir,λ_=>rfl,run_firstCells_some w _ _ _ _ _ _ Qj Jo,run_firstCells_some w.drew _ _ _ _ _ _ Qj (λj x hj=>Jo j x hj),Qj,λx hx=>c x (Bu (A4 hx))⟩,?_,Qw hl⟩;rw[M6];exact(p2.drop off).take (n*z)
    .cases hp
   .cases hp
  .cases hp
 .cases hp
def Ov{o:Oper}{c:Call}{t t' e:TypeId}{n b:Nat}{s x:Operand}{v u r:Aa}{Aw:List (List Aa)}{news:List Value}(ho:o.op= .call c)(hc:c.callee= .builtin .append)(h0:c.argTypes[0]?=some t)(h1:c.argTypes[1]?=some t')(Ep:c.args.toList=[s,x])(ht:C.P.underlying t=some (.slice e))
  (Ir:(∃D,C.P.underlying t'=some (.slice D))\/C.P.underlying t'=some .string) (K8:BR C.P e=some (n+1)) (ju:JD C.P e=some (b+1)) (Fp:KP C Z s=true) (eY:LM C.P e=true) (hv:Bm C Z [s,x]=some [v,u])
  (IV:Dl (n+1) (b+1) v Aw=some r) (J8:Src C.P (n+1) t' (a.eval x) Aw.length news w) (Vh:AV U Aw.flatten news) (mJ:∀q∈Aw,q.length=n+1) (hr:CX C U0 w0 U O Z h a w):Fy C U0 w0 o a w ((Z.Dt (C3 Z s)).put o.dst (.BM r)) h:=by
 obtain⟨i,z,hi,hz,aI⟩:=KT eY;have Qi:=Jp K8 hi;have Ş:=Lo ju hi;obtain⟨_,_,e0,hvs,lH⟩:=EP hr hv;cases e0;have jq:EF C Z s=some v:=by
  unfold Bm at hv;split at hv;.rename_i p ps A F;cases hv;exact A
  .cases hv
 obtain⟨U1,Ek,Jz,Gc,J⟩:=O3 hr Fp jq (Z.Dt (C3 Z s)).length none;have jv:=AV.mono Ek _ _ Vh;have J7:c.args.map a.eval=#[a.eval s,a.eval x]:=by apply Gf;simp[Ep]
 have Mg:∀v' w',(Builtin.append_ #[t,t'] o.type #[a.eval s,a.eval x]).run C.P w= .ok v' w'->(execOp a.eval o).run C.P w= .ok (.value v') w':=λv' w' AG=>by
  have:execOp a.eval o=(do pure (Next.value (<-Builtin.append_ #[t,t'] o.type #[a.eval s,a.eval x]))):=by rw[<-J7,<-NQ (ty:=o.type) h0 h1];simp only[execOp,ho,resolve,hc];rfl
  rw[this];exact Dg AG
 have JH:Src C.P i.size t' (a.eval x) Aw.length news w:=by rw[Qi];exact J8
 have Qj:news.length=Aw.length*(n+1):=J8.newsLen;have FQ:∀(base:Option Addr) (k cap:Nat) (rr:List (List Aa)) (olds:List Value),a.eval s= .slice base k cap->rr.length=k->(∀q∈rr,q.length=n+1)->AV U1 rr.flatten olds->(∀q∈olds,q.oneCell'=true)->
   (Builtin.firstCells i.size k (.slice base k cap)).run C.P w.drew= .ok olds.toArray w.drew->cap<k+Aw.length->(k+Aw.length)*(b+1)<=AK->r= .sl (n+1) (rr++Aw)->
   Fy C U0 w0 o a w ((Z.Dt (C3 Z s)).put o.dst (.BM r)) h:=by
  intro base k cap rr olds hs hk l ye Ś d hlt SZ T6;have PV:k+Aw.length<=AK:=Bp (Ik _ (CT b)) SZ;have FT:=run_append_grow_src (P:=C.P) w t t' o.type e i z ht hi hz base k cap olds d (a.eval x) Aw.length news JH hlt (by simp only[AK] at PV;omega) (by rw[Ş];exact growslice_fits hlt SZ);rw[<-hs] at FT;have Hh:=grownCap_ge w (k+Aw.length) cap e;have aJc:olds.length=k*(n+1):=by rw[ye.length,GZ l,hk]
  have zR:(olds++news).length=(k+Aw.length)*(n+1):=by rw[Ap,aJc,Qj,BE]
  obtain⟨M,gA,LQ,Qv,f⟩:=Jz.drew.V6 ((olds++news).toArray++Builtin.zeroCells z.cells (grownCap w (k+Aw.length) cap e-(k+Aw.length))) e (z:=n+1) (n:=k+Aw.length) (cap:=grownCap w (k+Aw.length) cap e) (Aw:=rr++Aw) (CT n) (by simp[hk])
   (λq hq=>(Aq.1 hq).elim (l q) (mJ q))
   (by simp only[Jw,B3,size_zeroCells,aI,Qi,zR,<-BE];congr 1;omega) Hh (grownCap_le_maxLen w _ _ _ (by simp only[AK] at PV;simp only[maxLen];omega))
   (by simp only[Gw,Kz];rw[<-zR,Fa];exact ye.append jv)
   (λq hq=>by simp only[Gw] at hq;rw[<-zR,Fa,Aq] at hq;exact hq.elim (Ś q) (J8.one q))
  rw[T6];obtain⟨L,ş⟩:=LQ.V5 Qv f o.dst;exact Fy.value (Mg _ _ FT) ş
 rcases J with(rfl|⟨m,rfl⟩)|⟨g,k,cap,us,G,m,rr,rfl,Jb,SY,hB,hg,YU,yf,hm,I⟩
 .have Jb:a.eval s= .slice none 0 0:=Gc;cases Aw with
  |nil=>
   have T6:r= .slnil:=by simpa[Dl] using IV.symm
   have jh:news=[]:=CN (by simpa using Qj);subst jh;have AG:(Builtin.append_ #[t,t'] o.type #[a.eval s,a.eval x]).run C.P w= .ok (.slice none 0 0) w:=by rw[Jb];have hl:=JH.len;have Vi:=JH.cells;simp only[Br] at hl Vi;rcases Ir with⟨D,hk⟩|hk<;>simp[Builtin.append_,run_underlying ht,run_underlying hk,sizeOf,typeInfo,hi,hl,Vi]
   rw[T6];exact Fy.value (Mg _ _ AG) (Jz.put λ_ _=>⟨rfl,.inl (.inl rfl)⟩)
  |cons q Aw=>
   have O5:r= .sl (n+1) (q::Aw)/\(q::Aw).length*(b+1)<=AK:=by
    simp only[Dl] at IV;split at IV;.rename_i hb;cases IV;exact⟨rfl,hb⟩
    .cases IV
   exact FQ none 0 0 [] [] Jb rfl Ax rfl Ax (run_firstCells_none _ _ _ _ _) Ax (by simpa using O5.2) (by simpa using O5.1)
 .obtain⟨g,Jb⟩:=id Gc;cases Aw with
  |nil=>
   have T6:m=n+1/\r= .EC m:=by
    simp only[Dl] at IV;split at IV;.rename_i Yd;cases IV;exact⟨Yd,by rw[Yd]⟩
    .cases IV
   obtain⟨rfl,T6⟩:=T6;have jh:news=[]:=CN (by simpa using Qj);subst jh;have AG:(Builtin.append_ #[t,t'] o.type #[a.eval s,a.eval x]).run C.P w= .ok (.slice (some ⟨g,0,none⟩) 0 0) w:=by rw[Jb];have hl:=JH.len;have Vi:=JH.cells;simp only[Br] at hl Vi;rcases Ir with⟨D,hk⟩|hk<;>simp[Builtin.append_,run_underlying ht,run_underlying hk,sizeOf,typeInfo,hi,hl,Vi,storeCells,Result.andThen]
   rw[T6];exact Fy.value (Mg _ _ AG) (Jz.put λ_ _=>⟨⟨g,rfl⟩,.inl (.inr ⟨_,rfl⟩)⟩)
  |cons q Aw=>
   have O5:r= .sl (n+1) (q::Aw)/\(q::Aw).length*(b+1)<=AK:=by
    simp only[Dl] at IV;split at IV;.rename_i hb;cases IV;exact⟨rfl,hb.2⟩
    .cases IV
   exact FQ (some ⟨g,0,none⟩) 0 0 [] [] Jb rfl Ax rfl Ax (run_firstCells_some w.drew _ _ _ _ _ [] Ax (λj x hj=>by simp at hj)) Ax (by simpa using O5.2) (by simpa using O5.1)
 .obtain⟨K,H,gC,O4,_,hR⟩:=id Gc;rw[Jb] at gC;simp only[Value.slice.injEq,Bx] at gC;obtain⟨rfl,hk,rfl⟩:=gC;subst hk;simp only at hR;have B:m=n+1/\r= .sl (n+1) (rr++Aw)/\(Aw=[]\/(rr.length+Aw.length)*(b+1)<=AK):=by
   cases Aw with
   |nil=>
    simp only[Dl] at IV;split at IV;.rename_i Yd;cases IV;exact⟨Yd,by simp[Yd],.inl rfl⟩
    .cases IV
   |cons q Aw=>
    simp only[Dl] at IV;split at IV;.rename_i Yd;cases IV;exact⟨Yd.1,rfl,.inr Yd.2⟩
    .cases IV
  obtain⟨rfl,T6,SZ⟩:=B;by_cases hroom:rr.length+Aw.length<=cap
  .have hfit:rr.length*(n+1)+news.length<=us.size:=by rw[Qj,YU,<-BE];exact DW _ hroom
   have AG:=run_append_room_src (P:=C.P) w t t' o.type e i ht hi g 0 rr.length cap (a.eval x) Aw.length news JH hroom (λj hj=>by rw[cell_of_row w _ _ us G (0,0) hg,Qi,Cm Ac];rfl) (λj hj=>frozen_of_row w _ _ us G hg)
   rw[BC,Qi,Eo news _ us w hg hfit,<-Jb] at AG;rw[Jb] at Gc;obtain⟨M,gA,LQ,Qv,f⟩:=Jz.jt SY hB hg YU hm (CT n) Gc mJ jv J8.one hroom;obtain⟨L,ş⟩:=LQ.V5 Qv f o.dst;rw[T6];exact Fy.value (Mg _ _ AG) ş
  .obtain⟨vs,A,F,E⟩:=hR.values;have M5:∀j,(⟨g,0,none⟩:Addr).add j=⟨g,0+j,none⟩:=λj=>by unfold Addr.add;split<;>simp_all
   refine FQ (some ⟨g,0,none⟩) rr.length cap rr vs Jb rfl (λq hq=>?_) A (λq hq=>?_) ?_ Ac ?_ T6;.obtain⟨j,hj⟩:=CF hq;exact(hR.get hj).1
   .obtain⟨j,hj⟩:=CF hq;exact(Jz.DI.HW _ _ _ (E j q hj)).2.1
   .rw[Qi];exact run_firstCells_some w.drew _ _ _ _ _ vs F (λj y hj=>by rw[M5];exact(Jz.DI.HW _ _ _ (E j y hj)).1)
   .rcases SZ with rfl|SZ
    .simp at hroom;omega
    .exact SZ
def mK{o:Oper}{c:Call}{t t' e:TypeId}{n b:Nat}{s x:Operand}{v u r:Aa}(ho:o.op= .call c)(hc:c.callee= .builtin .append)(h0:c.argTypes[0]?=some t)(h1:c.argTypes[1]?=some t')(Ep:c.args.toList=[s,x])(ht:C.P.underlying t=some (.slice e))
  (Ir:(∃d,C.P.underlying t'=some (.slice d))\/C.P.underlying t'=some .string) (K8:BR C.P e=some (n+1)) (ju:JD C.P e=some (b+1)) (Fp:KP C Z s=true) (eY:LM C.P e=true) (hv:Bm C Z [s,x]=some [v,u])
  (hp:Ay (.append (n+1) (b+1)) [v,u]=some r) (hr:CX C U0 w0 U O Z h a w):Fy C U0 w0 o a w ((Z.Dt (C3 Z s)).put o.dst (.BM r)) h:=by
 obtain⟨_,_,e0,hvs,lH⟩:=EP hr hv;cases e0;simp only[Ay] at hp;obtain⟨Aw,news,IV,J8,Vh,mJ⟩:=rM (w:=w) Ir hr.DI lH hp;exact Ov ho hc h0 h1 Ep ht Ir K8 ju Fp eY hv IV J8 Vh mJ hr
def gD{o:Oper}{c:Call}{t t' e:TypeId}{n b:Nat}{s x:Operand}{v u r:Aa}(ho:o.op= .call c)(hc:c.callee= .builtin .append)(h0:c.argTypes[0]?=some t)(h1:c.argTypes[1]?=some t')(Ep:c.args.toList=[s,x])(ht:C.P.underlying t=some (.slice e))
  (Ir:(∃d,C.P.underlying t'=some (.slice d))\/C.P.underlying t'=some .string) (K8:BR C.P e=some (n+1)) (ju:JD C.P e=some (b+1)) (Fp:KP C Z s=true) (eY:LM C.P e=true) (hv:Bm C Z [s,x]=some [v,u])
  (hp:Qt h (n+1) (b+1) v u=some r) (hr:CX C U0 w0 U O Z h a w):Fy C U0 w0 o a w ((Z.Dt (C3 Z s)).put o.dst (.BM r)) h:=by
 obtain⟨_,_,e0,hvs,lH⟩:=EP hr hv;cases e0;unfold Qt at hp;cases hq:Gb h (n+1) u with
 |none=>rw[hq] at hp;cases hp
 |some Aw=>rw[hq] at hp;obtain⟨news,J8,Vh,mJ⟩:=Wa (w:=w) Ir hr.DI lH hq;exact Ov ho hc h0 h1 Ep ht Ir K8 ju Fp eY hv hp J8 Vh mJ hr
end
section
variable{C:FB}{γ0 γ γ':Gh}{w0 w w':World}{Z:Nat->Nat}{U:BJ}{h:Ah}{a:Act}{fid:FuncId}{ops:List Oper}
def RP:∀s:Ak,(CY s).flatten=s.map λb=>Aa.int .u8 b.toNat
 |[]=>rfl
 |_::s=>by have:=RP s;simp only[CY,A0,CB] at this⊢;rw[this];rfl
def LR(γ:Gh):∀l:Ak,AV γ (CY l).flatten (l.map λb=>Value.int .u8 b.toNat)
 |[]=>rfl
 |_::l=>⟨_,_,rfl,rfl,LR γ l⟩
def KF(s:Ak)(cap:Nat):(bytesRow ⟨⟨s⟩⟩ cap).toList.take s.length=s.map λb=>Value.int .u8 b.toNat:=by have:(s.map λb=>Value.int .u8 (b.toNat:Int)).length=s.length:=Ax;simp only[bytesRow,Gw,MV];rw[<-this];exact Fa
def aL(s:Ak):(⟨⟨s⟩⟩:ByteArray).size=s.length:=by simp[ByteArray.size]
def yg{o:Oper}{src dst e:TypeId}{x:Operand}{v u:Aa}(ho:o.op= .convert src dst x)(hs:C.P.underlying src=some .string)(hd:C.P.underlying dst=some (.slice e))(he:C.P.underlying e=some (.int .u8))(hx:Bm C U [x]=some [v])(hp:Ay .s2b [v]=some u)(hr:CX C γ0 w0 γ Z U h a w):
  Fy C γ0 w0 o a w (U.put o.dst (.val u)) h:=by
 obtain⟨_,e0,hv⟩:=Gn hr hx;cases e0;simp only[Ay] at hp;split at hp
 .rename_i s J7;cases J7;split at hp
  .cases hp;have AG:=run_bytes_of_string (P:=C.P) w src dst e ⟨⟨s⟩⟩ hs hd he;rw[<-NJ hv] at AG;have ē:=grownCap_ge w s.length 0 e;rw[aL] at AG;obtain⟨hi,ha⟩:=OX hr.drew.DI (bytesRow ⟨⟨s⟩⟩ (grownCap w s.length 0 e)) e ((bytesRow ⟨⟨s⟩⟩ (grownCap w s.length 0 e)).size,(bytesRow ⟨⟨s⟩⟩ (grownCap w s.length 0 e)).size+1) s.length none (λo u ho hu=>by have hm:u∈(bytesRow ⟨⟨s⟩⟩ (grownCap w s.length 0 e)).toList.take s.length:=Cv (i:=o) (by rw[CL ho];simpa using hu);rw[KF] at hm;obtain⟨b,_,rfl⟩:=AZ.1 hm;rfl) (.inl rfl)
   have Hd:=hr.drew.IB hi ha;refine Fy.value (v:= .slice (some ⟨w.heap.size,0,none⟩) s.length (grownCap w s.length 0 e)) (by simp only[execOp,ho];exact Dg AG) (Hd.put λ_ _=>⟨⟨w.heap.size,0,none⟩,grownCap w s.length 0 e,by simp[CY],by simpa[CY] using ē,.inl rfl,?_⟩);refine NP (us:=s.map λb=>Value.int .u8 b.toNat) (λr hr=>?_) (LR _ s) (λj u hj=>?_);.obtain⟨b,_,rfl⟩:=AZ.1 hr;rfl
   .rw[<-KF s (grownCap w s.length 0 e),Cn] at hj;split at hj;.rename_i hlt;simp only[Gh.C6,heap_drew,BD,BC,Af hlt];simpa using hj
    .cases hj
  .cases hp
 .cases hp
def aM{o:Oper}{src dst e:TypeId}{x:Operand}{v u:Aa}{h':Ah}(ho:o.op= .convert src dst x)(hs:C.P.underlying src=some .string)(hd:C.P.underlying dst=some (.slice e))(he:C.P.underlying e=some (.int .u8))(hx:EF C U x=some v)(hp:Ip h v=some (h',u))(hr:CX C γ0 w0 γ Z U h a w):
  Fy C γ0 w0 o a w (U.put o.dst (.val u)) h':=by
 have hv:=Gi hr hx;unfold Ip at hp;split at hp
 .rename_i s;split at hp
  .cases hp;have AG:=run_bytes_of_string (P:=C.P) w src dst e ⟨⟨s⟩⟩ hs hd he;rw[<-NJ hv] at AG;have ē:=grownCap_ge w s.length 0 e;rw[aL] at AG;have hl:(s.map λb=>Aa.int .u8 b.toNat).length=s.length:=Ax;have c:(bytesRow ⟨⟨s⟩⟩ (grownCap w s.length 0 e)).size=grownCap w s.length 0 e:=by have e0:ByteArray.size ⟨⟨s⟩⟩=s.length:=aL s;simp only[bytesRow,Jw,Array.size_map,Array.size_replicate,e0];simp only[B3];omega
   have lI:s.length<=maxLen:=by
    have lI:s.length<=AK:=by assumption
    simp only[AK] at lI;simp only[maxLen];omega
   obtain⟨γ',Ek,hm,Hd,K8⟩:=hr.drew.newObj (bytesRow ⟨⟨s⟩⟩ (grownCap w s.length 0 e)) e ((bytesRow ⟨⟨s⟩⟩ (grownCap w s.length 0 e)).size,(bytesRow ⟨⟨s⟩⟩ (grownCap w s.length 0 e)).size+1) (s.map λb=>Aa.int .u8 b.toNat) (.inr (Ab _))
    (by rw[hl,KF];have:=LR γ s;rw[RP] at this;exact this)
    (λu hu=>by rw[hl,KF] at hu;obtain⟨b,_,rfl⟩:=AZ.1 hu;rfl)
   exact Fy.value (v:= .slice (some ⟨w.heap.size,0,none⟩) s.length (grownCap w s.length 0 e)) (by simp only[execOp,ho];exact Dg AG) (Hd.put λ_ _=>⟨w.heap.size,_,hm,rfl,ē,⟨CT 0,grownCap_le_maxLen w _ _ _ lI⟩,by rw[BC,F7,<-c];exact K8⟩)
  .cases hp
 .cases hp
def HM{O:Type}(l:List O):∀(c j:Nat),j<c*l.length->(List.replicate c l).flatten[j]?=l[j%l.length]?
 |0,j,h=>by simp at h
 |c+1,j,h=>by
  have h':j<c*l.length+l.length:=by rw[BE] at h;omega
  rw[KA,CB];by_cases hj:j<l.length;.rw[An hj,Nat.mod_eq_of_lt hj]
  .rw[Bn Ac,HM l c _ Ac,show j%l.length=(j-l.length)%l.length from Nat.mod_eq_sub_mod Ac]
def jw{o:Oper}{t e:TypeId}{l c:Operand}{n b:Nat}{z:Aa}{y vc u:Aa}{h':Ah}(ho:o.op= .makeSlice t l c)(ht:C.P.underlying t=some (.slice e))(K8:BR C.P e=some (n+1))(ju:JD C.P e=some (b+1))(hz:GA C.P e=some z)(hl:EF C U l=some y)(hc:EF C U c=some vc)
  (hm:Rz h (n+1) (b+1) z.cells y vc=some (h',u)) (hr:CX C γ0 w0 γ Z U h a w):Fy C γ0 w0 o a w (U.put o.dst (.val u)) h':=by
 unfold Rz at hm;split at hm
 .rename_i k m;split at hm
  .rename_i Hw;obtain⟨H,G,F,v⟩:=Hw;cases hm;unfold GA at hz;cases hi:C.P.info? e with
   |none=>rw[hi] at hz;cases hz
   |some i=>
    rw[hi] at hz;cases fx:i.zero with
    |none=>simp[fx] at hz
    |some f=>
     simp only[Cj,fx] at hz;have Qi:=Jp K8 hi;have Ş:=Lo ju hi;obtain⟨A,D⟩:=GX (γ:=γ) (E2 hz) Ac;have aI:f.cells.size=n+1:=by have:=A.length;simp at this;omega
     have Ĕ:m.toNat*(b+1)<=AK:=F;have g:m.toNat<=AK:=Bp (Ik m.toNat (CT b)) Ĕ;have AG:=run_make (P:=C.P) w t e i f ht hi fx .i64 .i64 k m H G (by
      rw[Ş];have E:((b+1:Nat):Int)*m=((m.toNat*(b+1):Nat):Int):=by rw[Int.natCast_mul,HY Ac,Int.mul_comm]
      rw[E];simp only[AK] at Ĕ;omega) (by simp only[AK] at g;omega)
     rw[<-D9 (Gi hr hl),<-D9 (Gi hr hc)] at AG;have hlen:((List.replicate m.toNat z.cells).flatten).length=m.toNat*(n+1):=by rw[GZ (z:=n+1) (λr hr=>by rw[Ą hr,v]),Fx]
     have p:∀(j:Nat) (u:Value),(madeCells f.cells (m.toNat*i.size)).toList[j]?=some u->j<m.toNat*(n+1)/\f.cells.toList[j%(n+1)]?=some u:=by
      intro j u hj;have Y7:j<m.toNat*(n+1):=by have:=(Aj.1 hj).1;simpa[size_madeCells,Qi] using this
      refine⟨Y7,?_⟩;have Š:j%(n+1)<f.cells.size:=by rw[aI];exact Nat.mod_lt _ (CT n)
      simp only[madeCells,MV,Cg] at hj;have d:(Array.range (m.toNat*i.size)).toList[j]?=some j:=by simp[Qi,Y7]
      rw[d] at hj;simp only[Bt,Bx] at hj;rw[aI] at hj;rw[<-hj];simp[Š]
     have B:AV γ (List.replicate m.toNat z.cells).flatten (madeCells f.cells (m.toNat*i.size)).toList:=by refine AV.GB (by simp[hlen,size_madeCells,Qi]) λj x u hx hu=>?_;obtain⟨Y7,s⟩:=p j u hu;rw[HM z.cells _ _ (by rw[v];exact Y7),v] at hx;obtain⟨I,zG,ś⟩:=A.get hx;rw[s] at zG;cases zG;exact ś
     obtain⟨γ',Ek,q,Hd,aJf⟩:=hr.newObj (madeCells f.cells (m.toNat*i.size)) e (0,0) (List.replicate m.toNat z.cells).flatten (.inl rfl) (B.yc (by rw[B.length];exact Ab _)) (λu hu=>by obtain⟨j,hj⟩:=CF (A4 hu);exact D u (Cv (p j u hj).2))
     exact Fy.value (by simp only[execOp,ho];exact Dg AG) (Hd.put λ_ _=>⟨w.heap.size,m.toNat,q,rfl,Ac,⟨CT n,by simp only[AK] at g;simp only[maxLen];omega⟩,by rw[aJf,size_madeCells,Qi,BC]⟩)
  .cases hm
 .cases hm
def CX.aEu(hr:CX C γ0 w0 γ Z U h a w){g:Nat}(Fp:γ.BM g=some (.tail U.length none 0))(hB:w0.heap.size<=g){us:Array Value}{e:TypeId}(hg:w.heap[g]?=some (.cells us e (0,0)))(Dq:Array Value)(cs:List Aa)
  (hv:AV γ cs (Dq.toList.take cs.length)) (h1:∀u∈Dq.toList.take cs.length,u.oneCell'=true):∃γ',γ.le γ'/\γ'.mu h.length=some g/\CX C γ0 w0 γ' Z U (h++[.cells cs]) a (w.setRow g Dq)/\γ'.sz g=some Dq.size:=by
 have c:γ.mu h.length=none:=by
  cases hc:γ.mu h.length with
  |none=>rfl
  |some y=>exact absurd (hr.DI.mu _ y hc) (Dd _)
 have K8:γ.sz g=none:=by
  cases hc:γ.sz g with
  |none=>rfl
  |some y=>obtain⟨_,r⟩:=hr.DI.sz g y hc;rw[Fp] at r;rcases r with r|⟨_,r⟩<;>cases r
 have Ek:γ.le (γ.B0 g h.length (some Dq.size)):=⟨λ_ _ _ hv=>hv,λid b hm=>by
  have:id≠h.length:=λhe=>by rw[he,c] at hm;cases hm
  simp only[Gh.B0,Ag this];exact hm,λb n hm=>by
  have:b≠g:=λhe=>by rw[he,K8] at hm;cases hm
  simp only[Gh.B0,Ag this];exact hm⟩
 have Ŝ:∀b n,(γ.B0 g h.length (some Dq.size)).sz b=some n->(∃us e fr,(w.setRow g Dq).heap[b]?=some (.cells us e fr)/\us.size=n)/\((γ.B0 g h.length (some Dq.size)).BM b=none\/∃id,(γ.B0 g h.length (some Dq.size)).BM b=some (.Me id)):=λb n hb=>by
  by_cases he:b=g;.subst he;simp only[Gh.B0,BD] at hb;cases hb;exact⟨⟨Dq,e,(0,0),setRow_heap w b us Dq e (0,0) hg,rfl⟩,.inr ⟨h.length,by simp[Gh.B0]⟩⟩
  .simp only[Gh.B0,Ag he] at hb⊢;obtain⟨p,r⟩:=hr.DI.sz b n hb;exact⟨by rw[setRow_other w g b Dq he];exact p,r⟩
 have hne:∀b id,γ.BM b=some (.Me id)->b≠g:=λb id hb he=>by rw[he,Fp] at hb;cases hb
 have hk:PX g γ w (γ.B0 g h.length (some Dq.size)) (w.setRow g Dq):=⟨Ek,λb x hb hx _=>⟨by simp only[Gh.B0,Ag hb];exact hx,setRow_other w g b Dq hb⟩⟩;refine⟨_,Ek,by simp[Gh.B0],⟨⟨λb o v hb=>?_,λid y HX hy=>?_,λid Gx hc b hb=>?_,λid es hc b hb=>?_,λid b hb=>?_,λb y hy=>?_,Ŝ⟩,⟨hr.fr.size,λs=>?_⟩,hr.DD.write (g:=g) hB Ek Ax rfl rfl rfl (λb hb=>⟨setRow_other w g b Dq hb,by simp only[Gh.B0,Ag hb]⟩),hr.defers,λx Gx hx=>CP.mono Ek _ _ _ (hr.Gy x Gx hx)⟩,by simp[Gh.B0]⟩
 .obtain⟨p,q,r⟩:=hr.DI.HW b o v hb;have NG:b≠g:=λhe=>by
   subst he;rw[Fp] at r;rcases r with r|⟨_,_,_,r,hl⟩
   .cases r
   .cases r;omega
  exact⟨by rw[CI (setRow_other w g b Dq NG)];exact p,q,by simp only[Gh.B0,Ag NG];exact r⟩
 .by_cases he:id=h.length;.exact⟨g,by simp[Gh.B0,he],by simp[Gh.B0,he]⟩
  .have VT:id<h.length:=by rw[Aj] at HX;obtain⟨hl,_⟩:=HX;simp at hl;omega
   rw[An VT] at HX;obtain⟨b,p,q⟩:=hr.DI.Me id y HX hy;exact⟨b,by simp only[Gh.B0,Ag he];exact p,by simp only[Gh.B0,Ag (hne b id q)];exact q⟩
 .by_cases he:id=h.length;.subst he;simp[Gh.B0] at hb;subst hb;simp at hc;subst hc;exact⟨Dq,e,(0,0),setRow_heap w g us Dq e (0,0) hg,.inl rfl,AV.mono Ek _ _ hv,h1⟩
  .simp only[Gh.B0,Ag he] at hb;have VT:=hr.DI.mu id b hb;rw[An VT] at hc;obtain⟨b',p1,p2⟩:=hr.DI.Me id _ hc Ax;rw[hb] at p1;cases p1;obtain⟨lF,d,jf,p,pf,q,r⟩:=hr.DI.cells id Gx hc b hb;exact⟨lF,d,jf,by rw[setRow_other w g b Dq (hne b id p2)];exact p,pf,AV.mono Ek _ _ q,r⟩
 .by_cases he:id=h.length;.subst he;simp at hc
  .simp only[Gh.B0,Ag he] at hb;have VT:=hr.DI.mu id b hb;rw[An VT] at hc;obtain⟨b',p1,p2⟩:=hr.DI.Me id _ hc Ax;rw[hb] at p1;cases p1;obtain⟨C5,clock,p,q⟩:=hr.DI.map id es hc b hb;exact⟨C5,clock,by rw[setRow_other w g b Dq (hne b id p2)];exact p,q.mono Ek⟩
 .by_cases he:id=h.length;.simp[he]
  .simp only[Gh.B0,Ag he] at hb;have:=hr.DI.mu id b hb;simp;omega
 .by_cases NG:b=g;.subst NG;have:=hr.DI.BM _ _ Fp;simpa using this
  .simp only[Gh.B0,Ag NG] at hy;have:=hr.DI.BM b y hy;simpa using this
 .by_cases hs:s=U.length;.subst hs;rw[BJ.Tg];trivial
  .exact(hr.fr.HS s).keptBut Fp hk (by simp only[Kc.lS];intro hx;cases hx;exact hs rfl)
def CX.UI(hr:CX C γ0 w0 γ Z U h a w){v v':Aa}{u:Value}{h':Ah}(hv:BI γ v u)(hf:KO h v=some (h',v')):∃γ',γ.le γ'/\CX C γ0 w0 γ' Z U h' a w/\BI γ' v' u:=by
 unfold KO at hf;split at hf
 .rename_i id off n z;obtain⟨b,cap,hb,hu,hc,hz,K8⟩:=hv;split at hf
  .rename_i cs hcs;split at hf
   .rename_i hl;cases hf;obtain⟨us,e,fr,p1,pf,p2,m⟩:=hr.DI.cells id cs hcs b hb;obtain⟨hi,ha⟩:=jg hr.DI hcs hb p1 m;have mJ:∀(k o:Nat),(Cs cs z o k).length=k:=by
     intro k;induction k with
     |zero=>intro o;rfl
     |succ k ih=>intro o;simp[Cs,ih]
    have d:∀(k o i:Nat) (r:List Aa),(Cs cs z o k)[i]?=some r->i<k/\r=(cs.drop (o+i*z)).take z:=by
     intro k;induction k with
     |zero=>intro o i r h;simp[Cs] at h
     |succ k ih=>
      intro o i r h;cases i with
      |zero=>simp[Cs] at h;exact⟨CT _,by simpa using h.symm⟩
      |succ i=>simp[Cs] at h;obtain⟨l,g⟩:=ih _ _ _ h;exact⟨Ac,by rw[g];congr 2;rw[BE];omega⟩
    refine⟨_,ha.le,hr.IB hi ha,⟨b,off,none⟩,cap,by rw[mJ];exact hu,by rw[mJ];exact hc,.inl rfl,EG.GB λi r f=>?_⟩;obtain⟨l,rfl⟩:=d n off i r f;have q:i*z+z<=n*z:=by have:=DW z (Ac:i+1<=n);rwa [BE,Eh] at this
    refine⟨Ed,CP.GB λj x hj=>?_⟩;rw[Cn] at hj;split at hj;.rename_i p;rw[Cr] at hj;obtain⟨y,hy,c⟩:=p2.get hj;have hlt:off+i*z+j<cs.length:=(Aj.1 hj).1;refine⟨y,?_,BI.mono ha.le _ _ c⟩;simp only[Gh.C6,BD,Af hlt];rw[CL hlt] at hy;simpa using hy
    .cases hj
   .cases hf
  .cases hf
 .cases hf;exact⟨γ,.refl _,hr,hv⟩
def RQ:∀{Aw:List (List Aa)} {s:Ak},Mn Aw=some s->∃ns:List Int,Aw=ns.map (λn=>[.int .u8 n])/\s=ns.map λn=>UInt8.ofNat n.toNat
 |[],s,hs=>by cases hs;exact⟨[],rfl,rfl⟩
 |r::Aw,s,hs=>by
  unfold Mn at hs;split at hs;.rename_i J7;cases J7
  .rename_i n rs J7;cases J7;cases hq:Mn Aw with
   |none=>rw[hq] at hs;cases hs
   |some l=>rw[hq] at hs;cases hs;obtain⟨ns,rfl,rfl⟩:=RQ hq;exact⟨n::ns,rfl,rfl⟩
  .cases hs
def Wb:∀(ns:List Int) (r:ByteArray),ns.foldl (λr n=>r.push (UInt8.ofNat n.toNat)) r=⟨r.data++(ns.map λn=>UInt8.ofNat n.toNat).toArray⟩
 |[],r=>Ax
 |n::ns,r=>by rw[fj,Wb ns];simp[ByteArray.push]
def yh{o:Oper}{src dst e:TypeId}{x:Operand}{v v' u:Aa}{h':Ah}(ho:o.op= .convert src dst x)(hs:C.P.underlying src=some (.slice e))(hd:C.P.underlying dst=some .string)(he:C.P.underlying e=some (.int .u8))(hx:EF C U x=some v)(hf:KO h v=some (h',v'))(hp:Ay .Yc [v']=some u)
  (hr:CX C γ0 w0 γ Z U h a w):Fy C γ0 w0 o a w (U.put o.dst (.val u)) h':=by
 obtain⟨γ',Ek,Hd,Gc⟩:=hr.UI (Gi hr hx) hf;have Mg:∀s,(Conv.bytesToString (a.eval x)).run C.P w= .ok s w->(∃p l c,a.eval x= .slice p l c)->(execOp a.eval o).run C.P w= .ok (.value s) w:=λs AG ⟨p,l,c,lI⟩=>by simp only[execOp,ho];refine Dg ?_;rw[lI] at AG⊢;rw[run_convert_bytes_string w src dst e p l c hs he hd];exact AG
 simp only[Ay] at hp;unfold Z4 at hp;split at hp
 .rename_i Aw;cases hq:Mn Aw with
  |none=>rw[hq] at hp;cases hp
  |some s=>
   rw[hq] at hp;cases hp;obtain⟨ns,rfl,rfl⟩:=RQ hq;obtain⟨d,cap,lI,hc,hsp,hR⟩:=Gc;have M5:∀(j:Nat) (v:Value),(ns.map (Value.int .u8))[j]?=some v->d.add j=⟨d.block,d.off+j,none⟩:=λj v hj=>by
    have hpos:0<ns.length:=by have:=(Aj.1 hj).1;simp at this;omega
    have mA:=ND hsp hc (by simpa using hpos);generalize d.block=b at*;generalize d.off=o at*;subst mA;unfold Addr.add;split<;>simp_all
   have hl:=run_loadCells_list (P:=C.P) w d (ns.map (Value.int .u8)) (λj v hj=>by
    rw[M5 j v hj];simp only[Cg] at hj;cases hn:ns[j]? with
    |none=>rw[hn] at hj;cases hj
    |some n=>rw[hn] at hj;cases hj;obtain⟨_,m⟩:=hR.get (i:=j) (r:=[.int .u8 n]) (by simp[hn]);obtain⟨y,hy,g⟩:=m.get (i:=0) (a:= .int .u8 n) rfl;rw[show y=_ from g] at hy;have:=(Hd.DI.HW _ _ _ hy).1;simpa using this)
   simp only[As] at hl;have AG:=run_bytesToString (P:=C.P) w d ns.length cap ns hl;have k:ByteArray.empty.data=#[]:=rfl;rw[Wb,k,Array.empty_append] at AG;have f:a.eval x= .slice (some d) ns.length cap:=by rw[lI];simp
   rw[<-f] at AG;exact Fy.value (Mg _ AG ⟨_,_,_,f⟩) (Hd.put λ_ _=>rfl)
 .cases hp;have f:a.eval x= .slice none 0 0:=Gc;have AG:(Conv.bytesToString (a.eval x)).run C.P w= .ok (.string ⟨⟨[]⟩⟩) w:=by rw[f];simp[Conv.bytesToString];rfl
  exact Fy.value (Mg _ AG ⟨_,_,_,f⟩) (Hd.put λ_ _=>rfl)
 .cases hp
def jx(C:FB)(f:FuncId):Prop:=
 (∃fn c,C.P.funcs[f]?=some fn/\(fn.name== "runtime.NumGoroutine")=false/\fn.body=some c)/\
 ∀(γ:Gh) (h:Ah) (w:World) (s:Aa) (d:Value) (i x:Int) (h':Ah) (r:Aa) (g b:Nat) (us:Array Value) (e:TypeId),Hi γ h w->BI γ s d->PS h [s,.int .i64 i,.sl 1 [[.int .i64 x]]]=some (h',r)->
  w.heap[g]?=some (.cells us e (0,0))->us[0]?=some (.int .i64 x)->(∀id,γ.BM g≠some (.Me id))->1<=b->us.size=b->
  Calls C.P f #[d,.int .i64 i,.slice (some ⟨g,0,none⟩) 1 b] w λe w'=>match e with
   | .returned v=>∃γ',Hi γ' h' w'/\LB γ w γ' w'/\BI γ' r v
   |_=>False
def ER(C:FB)(run:IT->Ah->Option Jy):Prop:=
 ((∀g cs,C.Gy g=some cs->cs.all Aa.Mf=true)/\∀f,C.MG f=true->jx C f)/\
 ∀(f:FuncId) (args:List Aa) (h:Ah) (r:Aa) (h':Ah),run (B7 C f args) h=some (.ret,[r],h')->
  (∃fn c,C.P.funcs[Ec f]?=some fn/\(fn.name== "runtime.NumGoroutine")=false/\fn.body=some c)/\
  ∀(γ:Gh) (w:World) (cargs:Array Value),Hi γ h w->(∀g cs,C.Gy g=some cs->CP γ cs g 0)->AV γ args cargs.toList->
   Calls C.P (Ec f) cargs w λe w'=>match e with
    | .returned v=>∃γ',Hi γ' h' w'/\LB γ w γ' w'/\BI γ' r v/\(C.I9 f=true->∃s c,IF γ' w.heap.size w' s c v r)
    |_=>False
def CX.š(hr:CX C γ0 w0 γ Z U h a w){h':Ah}{r:Aa}{v:Value}(hi:Hi γ' h' w')(ha:LB γ w γ' w')(hv:BI γ' r v){BM:Bool}(ho:BM=true->∃s c,IF γ' w.heap.size w' s c v r)(d:Option Nat):
  ∃f,CX C γ0 w0 f Z (U.put d (if BM then .BM r else .val r)) h' (a.put d v) w':=by
 cases BM with
 |false=>exact⟨γ',(hr.IB hi ha).put λ_ _=>hv⟩
 |true=>
  obtain⟨s,c,i⟩:=ho rfl;rcases i with i|⟨g,n,cap,us,e,z,Aw,rfl,h2,l,k,j⟩
  .exact⟨γ',(hr.IB hi ha).put λ_ _=>⟨hv,.inl i⟩⟩
  .have ř:LB γ w (γ'.Fw g (.tail U.length none (n*z))) w':=⟨ha.le.trans (GW _ _ _),ha.size,ha.os,ha.tape,ha.output,λb hb hn=>by obtain⟨p,q⟩:=ha.NF b hb hn;exact⟨p,by simp only[Gh.Fw,Ag (Ac:b≠g)];exact q⟩⟩
   have Hd:=hr.IB (hi.Fw (s':=U.length) (c':=none) l) ř;exact Hd.V5 (BI.mono (GW _ _ _) _ _ hv) (.inr ⟨g,n,cap,us,e,z,Aw,rfl,h2,by simp[Gh.Fw],Bp hr.DD.size k,j⟩) d
def HT{P:Program}{f:FuncId}{fn:Func}{c:Code}(hf:P.funcs[f]?=some fn)(hname:(fn.name== "runtime.NumGoroutine")=false)(hb:fn.body=some c)(args:Array Value)(w:World):
  (callFunc f args).run P w= .ok (.enter f args) w:=by
 have hn:¬fn.name= "runtime.NumGoroutine":=by simpa using hname
 simp[callFunc,hf,hn,hb]
def RR{o:Oper}{f:FuncId}{cargs:Array Value}{K:Act->World->Prop}{Q:Exit->Act->World->Prop}(he:(execOp a.eval o).run C.P w= .ok (.enter f cargs) w){R:Value->World->Prop}
  (hc:Calls C.P f cargs w λe w'=>match e with| .returned v=>R v w'|_=>False) (hk:∀v w',R v w'->K (a.put o.dst v) w'):o.wp C.P a w K Q:=by
 unfold Oper.wp;rw[he];refine hc.mono λe w' h=>?_;cases e with
 |returned v=>exact hk v w' h
 |_=>exact h.elim
def jy{run:IT->Ah->Option Jy}(g:ER C run){o:Oper}{c:Call}{f:FuncId}{args:List Aa}{r:Aa}{h':Ah}{K:Act->World->Prop}{Q:Exit->Act->World->Prop}(ho:o.op= .call c)(hcl:c.callee= .value (.func (Ec f)))(ha:Bm C U c.args.toList=some args)
  (AG:run (B7 C f args) h=some (.ret,[r],h')) (hr:CX C γ0 w0 γ Z U h a w) (i:∀γ' v w',CX C γ0 w0 γ' Z (U.put o.dst (if C.I9 f then .BM r else .val r)) h' (a.put o.dst v) w'->K (a.put o.dst v) w'):o.wp C.P a w K Q:=by
 obtain⟨⟨fn,j,hf,hname,hb⟩,d⟩:=g.2 f args h r h' AG;have b:AV γ args (c.args.map a.eval).toList:=by simpa using DE hr ha
 refine RR (f:=Ec f) (cargs:=c.args.map a.eval) ?_ (d γ w _ hr.DI hr.Gy b) λv w' ⟨γ',hi,JI,hv,Fp⟩=>?_;.have h0:a.eval (.func (Ec f))= .func (.func (Ec f)) #[] #[]:=rfl;simp only[execOp,ho,resolve,hcl,Deferred.ofValue,h0,Sem.run_bind,Sem.run_pure,Result.andThen_ok,invoke];simpa using HT hf hname hb (c.args.map a.eval) w
 .obtain⟨e,LQ⟩:=hr.š hi JI hv Fp o.dst;exact i e v w' LQ
def yi{run:IT->Ah->Option Jy}(I:ER C run){o:Oper}{c:Call}{f:FuncId}{s i x:Operand}{args:List Aa}{r:Aa}{h':Ah}{K:Act->World->Prop}{Q:Exit->Act->World->Prop}(ho:o.op= .call c)(hcl:c.callee= .value (.func f))(hf:C.MG f=true)(Ep:c.args.toList=[s,i,x])(Fp:KP C U x=true)
  (ha:Bm C U [s,i,x]=some args) (hp:PS h args=some (h',r)) (hr:CX C γ0 w0 γ Z U h a w) (J:∀γ' v w',CX C γ0 w0 γ' Z (U.put o.dst (.val r)) h' (a.put o.dst v) w'->K (a.put o.dst v) w'):o.wp C.P a w K Q:=by
 obtain⟨⟨fn,W,yj,hname,hb⟩,yk⟩:=I.1.2 f hf;have mL:=DE hr ha;obtain⟨t,Ţ,f1,g1,f2⟩:∃t Ţ,[a.eval s,a.eval i,a.eval x]=t::Ţ/\BI γ (args.getD 0 .nilIface) t/\True:=by
  cases args with
  |nil=>cases mL
  |cons y l=>obtain⟨u,us,e,p,q⟩:=mL;exact⟨u,us,e,p,trivial⟩
 obtain⟨s',d,x',he,k,D,B⟩:∃s' d x',args=[s',.int .i64 d,.sl 1 [[.int .i64 x']]]/\∃(k:BI γ s' (a.eval s)) (D:a.eval i= .int .i64 d),BI γ (.sl 1 [[.int .i64 x']]) (a.eval x):=by
  unfold PS at hp;split at hp;.obtain⟨_,_,_,e,p1,p2,A⟩:=mL.YZ;simp only[A0,Dc,EE,Mb] at e;obtain⟨rfl,rfl,rfl⟩:=e;exact⟨_,_,_,rfl,p1,p2,A⟩
  .obtain⟨_,_,_,e,p1,p2,A⟩:=mL.YZ;simp only[A0,Dc,EE,Mb] at e;obtain⟨rfl,rfl,rfl⟩:=e;exact⟨_,_,_,rfl,p1,p2,A⟩
  .cases hp
 subst he;have lH:EF C U x=some (.sl 1 [[.int .i64 x']]):=by simp only[Bm] at ha;cases h1:EF C U s<;>cases h2:EF C U i<;>cases F:EF C U x<;>simp_all
 obtain⟨sl,lI⟩:∃sl,DP C U x=some sl:=by
  unfold KP at Fp;cases hs:DP C U x with
  |none=>rw[hs] at Fp;cases Fp
  |some sl=>exact⟨sl,rfl⟩
 have aJg:∃v,sl= .BM v:=by unfold KP at Fp;rw[lI] at Fp;cases sl<;>first|exact⟨_,rfl⟩|cases Fp
 obtain⟨v,rfl⟩:=aJg;obtain⟨s0,hrel,_⟩:=FZ hr lI;have aJh:v= .sl 1 [[.int .i64 x']]:=by simp only[EF,lI,Cj,D3.GV,Bx] at lH;exact lH
 subst aJh;obtain⟨rL,j⟩:=hrel;rcases j with(j|⟨_,j⟩)|⟨g,n,cap,us,e,z,Aw,h1,h2,F,S,E,M,L,R,O⟩
 .cases j
 .cases j
 .cases h1;obtain⟨X,H,G,V,T,N⟩:=B;rw[h2] at G;cases G;obtain⟨_,hm,_⟩:=N;obtain⟨⟨u,hu,hru⟩,_⟩:=hm;obtain⟨Jo,_,_⟩:=hr.DI.HW _ _ _ hu;have YU:us[0]?=some (.int .i64 x'):=by rw[cell_of_row w _ _ us e (0,0) E] at Jo;rw[Jo];exact B5 some hru
  have b:c.args.map a.eval=#[a.eval s,.int .i64 d,.slice (some ⟨g,0,none⟩) 1 cap]:=by apply Gf;simp only[MV,Ep,A0,Dc,D,h2];rfl
  have Vi:=yk γ h w s' _ d x' h' r g cap us e hr.DI k hp E YU (λid HX=>by rw[F] at HX;cases HX) L (by rw[M,F7]);rw[<-b] at Vi;refine RR (f:=f) (cargs:=c.args.map a.eval) ?_ Vi λv w' ⟨γ',hi,JI,hv⟩=>?_;.have h0:a.eval (.func f)= .func (.func f) #[] #[]:=rfl;simp only[execOp,ho,resolve,hcl,Deferred.ofValue,h0,Sem.run_bind,Sem.run_pure,Result.andThen_ok,invoke];simpa using HT yj hname hb (c.args.map a.eval) w
  .obtain⟨m,LQ⟩:=hr.š (BM:=false) hi JI hv (λe=>by cases e) o.dst;exact J m v w' (by simpa using LQ)
def Gh.apart(γ:Gh):Gh:={HW:=γ.HW,mu:=λ_=>none,BM:=λb=>match γ.BM b with|some (.Me _)=>none|x=>x,sz:=γ.sz}
def Hi.apart(hi:Hi γ h w):Hi γ.apart [] w:=by
 refine⟨λb o v hb=>?_,λid x hx=>by simp at hx,λid cs hx=>by simp at hx,λid es hx=>by simp at hx,λid b hb=>(by cases hb),λb x hx=>?_,λb n hb=>?_⟩;rotate_left 2;.obtain⟨p,r⟩:=hi.sz b n hb;refine⟨p,.inl ?_⟩;simp only[Gh.apart];rcases r with r|⟨_,r⟩<;>rw[r]
 .obtain⟨p,q,r⟩:=hi.HW b o v hb;refine⟨p,q,?_⟩;simp only[Gh.apart];rcases r with r|⟨s,c,st,r,hl⟩
  .exact .inl (by rw[r])
  .exact .inr ⟨s,c,st,by rw[r],hl⟩
 .simp only[Gh.apart] at hx;split at hx;.cases hx
  .exact hi.BM b x hx
def CX.yl(hr:CX C γ0 w0 γ Z U h a w){c:Gh}{h1:Ah}(hi:Hi c h1 w')(ha:LB γ.apart w c w'):∃d,CX C γ0 w0 d Z U h a w':=by
 have eZ:∀b id,γ.apart.BM b≠some (.Me id):=λb id e=>by
  simp only[Gh.apart] at e;split at e;.cases e
  .rename_i hn;exact hn id e
 have M2:∀b,b<w.heap.size->w'.heap[b]?=w.heap[b]?:=λb hb=>(ha.NF b hb (eZ b)).1;refine⟨γ,hr.IB ⟨λb o v hb=>?_,hr.DI.Me,λid cs hc b hb=>?_,λid es hc b hb=>?_,hr.DI.mu,λb x hx=>IK (hr.DI.BM b x hx) ha.size,λb n hb=>(by
   obtain⟨⟨us,e,fr,p,q⟩,r⟩:=hr.DI.sz b n hb;exact⟨⟨us,e,fr,by rw[M2 b (AN.1 p).1];exact p,q⟩,r⟩)⟩
  ⟨.refl _,ha.size,ha.os,ha.tape,ha.output,λb hb _=>⟨M2 b hb,rfl⟩⟩⟩
 .obtain⟨p,q,r⟩:=hr.DI.HW b o v hb;exact⟨by rw[CI (M2 b (Du p))];exact p,q,r⟩
 .obtain⟨us,e,fr,p,q⟩:=hr.DI.cells id cs hc b hb;exact⟨us,e,fr,by rw[M2 b (AN.1 p).1];exact p,q⟩
 .obtain⟨C5,clock,p,q⟩:=hr.DI.map id es hc b hb;exact⟨C5,clock,by rw[M2 b (AN.1 p).1];exact p,q⟩
def Wc{γ γ':Gh}{x:Aa}{v:Value}(hf:x.Mf=true)(hv:BI γ x v):BI γ' x v:=by cases x<;>first|exact hv|cases hf
def Y8{γ γ':Gh}:∀{l:List Aa} {us:List Value},l.all Aa.Mf=true->AV γ l us->AV γ' l us
 |[],us,_,h=>h
 |x::l,us,hf,h=>by obtain⟨u,Dq,e,h1,h2⟩:=h;simp only[Z3,AO] at hf;exact⟨u,Dq,e,Wc hf.1 h1,Y8 hf.2 h2⟩
def CP.apart{γ:Gh}:∀{l:List Aa} {b o:Nat},CP γ l b o->l.all Aa.Mf=true->CP γ.apart l b o
 |[],_,_,_,_=>trivial
 |x::l,b,o,h,hf=>by obtain⟨⟨u,h1,h2⟩,c⟩:=h;simp only[Z3,AO] at hf;exact⟨⟨u,h1,Wc hf.1 h2⟩,c.apart hf.2⟩
def zS{run:IT->Ah->Option Jy}(i:ER C run){o:Oper}{c:Call}{f:FuncId}{args:List Aa}{r:Aa}{h1:Ah}{K:Act->World->Prop}{Q:Exit->Act->World->Prop}(ho:o.op= .call c)(hcl:c.callee= .value (.func (Ec f)))(ha:Bm C U c.args.toList=some args)
  (hfa:args.all Aa.Mf=true) (AG:run (B7 C f args) []=some (.ret,[r],h1)) (rF:r.Mf=true) (hr:CX C γ0 w0 γ Z U h a w) (j:∀γ' v w',CX C γ0 w0 γ' Z (U.put o.dst (.val r)) h (a.put o.dst v) w'->K (a.put o.dst v) w'):o.wp C.P a w K Q:=by
 obtain⟨⟨fn,k,hf,hname,hb⟩,d⟩:=i.2 f args [] r h1 AG;have b:AV γ.apart args (c.args.map a.eval).toList:=Y8 hfa (by simpa using DE hr ha);refine RR (f:=Ec f) (cargs:=c.args.map a.eval) ?_ (d γ.apart w _ hr.DI.apart (λg cs hg=>(hr.Gy g cs hg).apart (i.1.1 g cs hg)) b) λv w' ⟨γ',hi,JI,hv,_⟩=>?_;.have h0:a.eval (.func (Ec f))= .func (.func (Ec f)) #[] #[]:=rfl;simp only[execOp,ho,resolve,hcl,Deferred.ofValue,h0,Sem.run_bind,Sem.run_pure,Result.andThen_ok,invoke];simpa using HT hf hname hb (c.args.map a.eval) w
 .obtain⟨e,LQ⟩:=hr.yl hi JI;exact j e v w' (LQ.put λ_ _=>Wc rF hv)
def zT{run:IT->Ah->Option Jy}(l:ER C run){o:Oper}{c:Call}{g:Operand}{k:Aa}{f:FuncId}{args args':List Aa}{r:Aa}{h':Ah}{K:Act->World->Prop}{Q:Exit->Act->World->Prop}(ho:o.op= .call c)(hcl:c.callee= .value g)(hg:EF C U g=some k)
  (ha:Bm C U c.args.toList=some args) (ht:Cz k args=some (f,args')) (AG:run (B7 C f args') h=some (.ret,[r],h')) (hr:CX C γ0 w0 γ Z U h a w) (m:∀γ' v w',CX C γ0 w0 γ' Z (U.put o.dst (.val r)) h' (a.put o.dst v) w'->K (a.put o.dst v) w'):o.wp C.P a w K Q:=by
 obtain⟨⟨fn,n,hf,hname,hb⟩,b⟩:=l.2 f args' h r h' AG;have j:=Gi hr hg;unfold Cz at ht;split at ht
 .rename_i f0 first captured
  split at ht;rotate_left;.cases ht
  rename_i xc;cases ht;rw[show Ec f=f from Af xc] at hf b;obtain⟨fs,cs,Hh,h1,h2⟩:=j;have d:AV γ (first++args++captured) (fs++c.args.map a.eval++cs).toList:=by simpa using(h1.append (DE hr ha)).append h2
  refine RR (f:=f) (cargs:=fs++c.args.map a.eval++cs) ?_ (b γ w _ hr.DI hr.Gy d) λv w' ⟨γ',hi,JI,hv,Fp⟩=>?_;.simp only[execOp,ho,resolve,hcl,Deferred.ofValue,Hh,Sem.run_bind,Sem.run_pure,Result.andThen_ok,invoke];exact HT hf hname hb _ w
  .obtain⟨i,LQ⟩:=hr.š (BM:=false) hi JI hv (λe=>by cases e) o.dst;exact m i v w' (by simpa using LQ)
 .cases ht
end
end Go.Am
end
