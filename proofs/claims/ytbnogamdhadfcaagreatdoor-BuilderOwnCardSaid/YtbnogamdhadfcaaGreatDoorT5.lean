/- Lemmas -/
import Derived.Test.YtbnogamdhadfcaaGreatDoorT4
import Derived.Deep.AppendSrc
import Derived.Great.BuildSlice
import Derived.Laws.IdiomStrings
set_option linter.unusedVariables false
set_option linter.unusedSimpArgs false
section
namespace Go.Am
open Go
section
variable{C:FJ}{γ0 γ γ':Gh}{w0 w w':World}{β:Nat->Nat}{σ:BG}{h:Ag}{a:Act}{fid:FuncId}{ops:List Oper}
theorem Dr{P:Program}{s:Sem Value}{v:Value}(hs:s.run P w= .ok v w'):(do pure (Next.value (<-s)):Sem Next).run P w= .ok (.value v) w':=by simp[hs]
theorem SF{α:Type}{z:Nat}:∀{Au:List (List α)},(∀r∈Au,r.length=z)->∀{i:Nat} {r:List α},Au[i]?=some r->∀{j:Nat} {x:α},r[j]?=some x->Au.flatten[i*z+j]?=some x
 |[],_,i,r,hi,_,_,_=>by simp at hi
 |q::Au,hl,0,r,hi,j,x,hj=>by simp at hi;subst hi;have:j<q.length:=(Ae.1 hj).1;simp only[dd,BJ,Dc];rw[Ad this];exact hj
 |q::Au,hl,i+1,r,hi,j,x,hj=>by
  simp at hi;have hq:q.length=z:=hl q (by simp);rw[Dc,A5 (by rw[hq,BC];omega)];have:=SF (Au:=Au) (λr hr=>hl r (by simp[hr])) hi hj;rw[<-this];congr 1
  rw[hq,BC];omega
theorem Gy{α:Type}{z:Nat}:∀{Au:List (List α)},(∀r∈Au,r.length=z)->Au.flatten.length=Au.length*z
 |[],_=>by simp
 |q::Au,hl=>by have hq:q.length=z:=hl q (by simp);simp[hq,Gy (Au:=Au) (λr hr=>hl r (by simp[hr])),BC,Nat.add_comm]
theorem MS{Au:List (List Aa)}{us:List Value}{z b o:Nat}(hl:∀r∈Au,r.length=z)(hv:Bb γ Au.flatten us)(hi:∀(j:Nat) (u:Value),us[j]?=some u->γ.HD b (o+j)=some u):ET γ Au z b o:=by refine ET.Gi λi r hr=>⟨hl r (CE hr),CJ.Gi λj x hj=>?_⟩;obtain⟨u,hu,hx⟩:=hv.get (SF hl hr hj);exact⟨u,by rw[Nat.add_assoc];exact hi _ _ hu,hx⟩
theorem CT.drew(hr:CT C γ0 w0 γ β σ h a w):CT C γ0 w0 γ β σ h a w.drew:=hr.world (hr.DD.same rfl) (J7.drew γ w)
theorem BG.RJ(σ:BG):σ.at σ.length= .undef:=by simp[BG.at,List.getD]
theorem CT.Ye(hr:CT C γ0 w0 γ β σ h a w){x:Aa}{v:Value}(hv:BH γ x v)(ho:HY γ w0.heap.size w σ.length none v x)(d:Option Nat):∃γ',CT C γ0 w0 γ' β (σ.put d (.own x)) h (a.put d v) w:=by
 cases d with
 |none=>exact⟨γ,hr⟩
 |some d=>
  rcases ho with ho|⟨g,n,cap,us,e,z,Au,h1,h2,h3,h4,h5⟩
  .exact⟨γ,hr.put λs _=>⟨hv,.inl ho⟩⟩
  .have Jv:=hr.Fc (s':=d) (c':=none) h3 h4 (λ_ u=>by rw[BG.RJ];simp) (λo ho=>by cases ho);exact⟨_,Jv.put λs hs=>by cases hs;exact⟨BH.mono (Gw _ _ _) _ _ hv,.inr ⟨g,n,cap,us,e,z,Au,h1,h2,by simp[Gh.Fc],h4,h5⟩⟩⟩
theorem CT.Z8(hr:CT C γ0 w0 γ β σ h a w)(us:Array Value)(e:TypeId){z n cap:Nat}{Au:List (List Aa)}(hz:0<z)(hn:Au.length=n)(hl:∀r∈Au,r.length=z)(RG:us.size=cap*z)(hc:n<=cap)(hm:cap<=maxLen)
  (hv:Bb γ Au.flatten (us.toList.take (n*z))) (h1:∀u∈us.toList.take (n*z),u.oneCell'=true):
  ∃γ',γ.le γ'/\CT C γ0 w0 γ' β σ h a (w.alloc (.cells us e))/\BH γ' (.sl z Au) (.slice (some ⟨w.heap.size,0,none⟩) n cap)/\HY γ' w0.heap.size (w.alloc (.cells us e)) σ.length none (.slice (some ⟨w.heap.size,0,none⟩) n cap) (.sl z Au):=by
 obtain⟨hi,ha⟩:=NP hr.DD us e (0,0) (n*z) (some (.tail σ.length none (n*z))) (λo u ho hu=>h1 u (CE (i:=o) (by rw[C9 ho];simpa using hu))) (.inr (.inl ⟨_,_,rfl⟩));refine⟨_,ha.le,hr.world hi ha,⟨⟨w.heap.size,0,none⟩,cap,by rw[hn],by omega,.inl rfl,MS hl (Bb.mono ha.le _ _ hv) λj u hj=>?_⟩,.inr ⟨w.heap.size,n,cap,us,e,z,Au,rfl,rfl,by simp[Gh.C5],hr.Dw.size,heap_alloc_new w _,RG,hc,hm,hz⟩⟩;rw[Ch] at hj;split at hj;·rename_i hlt;simp only[Gh.C5,BO,BJ,if_pos hlt];simpa using hj
 .cases hj
theorem UE{size:Nat}:∀(vs:List Value) (k:Nat) (cells:Array Value),(∀v∈vs,v.cells.size=size)->(k+vs.length)*size<=cells.size->
  Instr.fill (λi=>some (i*size,size)) cells ((vs.zipIdx k).map λp=>(p.2,p.1))=some (cells.toList.take (k*size)++vs.flatMap (·.cells.toList)++cells.toList.drop ((k+vs.length)*size)).toArray
 |[],k,cells,_,_=>by simp[Instr.fill]
 |v::vs,k,cells,hv,hl=>by
  have hs:v.cells.size=size:=hv v (by simp);simp only[Bf] at hl;have DY:(k+1)*size+vs.length*size<=cells.size:=by rw[<-BC];exact Bt (WT (by congr 1;omega)) hl
  have Wr:(k+1)*size=k*size+size:=by rw[BC,Ez]
  simp only[List.zipIdx_cons,Bm,Instr.fill];have c1:¬(v.cells.size≠size\/k*size+v.cells.size>cells.size):=by rw[hs];omega
  simp only[ne_eq,decide_not,Bool.or_eq_true,DK,Bool.not_eq_true',decide_eq_false_iff_not] at*;rw[if_neg c1];have hf:=MP v.cells.toList (k*size) 0 cells (by simp[hs];omega);have aI9:v.cells.zipIdx.foldl (λcs (c,j)=>cs.setIfInBounds (k*size+j) c) cells=(cells.toList.take (k*size)++v.cells.toList++cells.toList.drop (k*size+size)).toArray:=by rw[<-Array.foldl_toList,Array.toList_zipIdx];rw[hf];simp[hs]
  rw[aI9];have hlen:(cells.toList.take (k*size)++v.cells.toList++cells.toList.drop (k*size+size)).length=cells.size:=by simp[hs];omega
  rw[UE vs (k+1) _ (λu hu=>hv u (by simp[hu])) (by simp only[B7];rw[hlen,BC];exact DY)]
  congr 2
  have e1:(cells.toList.take (k*size)++v.cells.toList).length=(k+1)*size:=by simp[hs];omega
  have e2:(cells.toList.take (k*size)++v.cells.toList++cells.toList.drop (k*size+size)).take ((k+1)*size)=cells.toList.take (k*size)++v.cells.toList:=by rw[<-e1];exact GY
  have e3:(cells.toList.take (k*size)++v.cells.toList++cells.toList.drop (k*size+size)).drop ((k+1+vs.length)*size)=cells.toList.drop ((k+(vs.length+1))*size):=by
   rw[List.drop_append,AY (by rw[e1];exact EA _ (by omega)),e1,E9,BD];congr 1
   have:(k+1+vs.length)*size-(k+1)*size=vs.length*size:=by rw[BC (k+1)];omega
   rw[this,BC k,BC vs.length];omega
  rw[e2,e3];simp
theorem Ly{P:Program}{t:TypeId}(h:LN P t=true):∃i z,P.info? t=some i/\i.zero=some z/\z.cells.size=i.size:=by
 unfold LN at h;split at h
 .rename_i i hi;split at h;·rename_i z hz;exact⟨i,z,hi,hz,by simpa using h⟩
  .cases h
 .cases h
theorem IW{P:Program}{t:TypeId}{n:Nat}{i:TypeInfo}(h:BQ P t=some n)(hi:P.info? t=some i):i.size=n:=by simpa[BQ,hi] using h
theorem KG{P:Program}{t:TypeId}{n:Nat}{i:TypeInfo}(h:Jb P t=some n)(hi:P.info? t=some i):i.bytes=n:=by simpa[Jb,hi] using h
theorem UF:∀{args:List Aa} {us:List Value} {z:Nat},Bb γ args us->(∀x∈args,x.cells.length=z)->0<z->Bb γ (args.map (·.cells)).flatten (us.flatMap (·.cells.toList))/\(∀u∈us.flatMap (·.cells.toList),u.oneCell'=true)/\∀u∈us,u.cells.size=z
 |[],us,z,h,_,_=>by rw[Bb] at h;subst h;exact⟨rfl,by simp,by simp⟩
 |x::args,us,z,h,hl,hz=>by
  obtain⟨u,Dm,rfl,h1,h2⟩:=h;have hx:=hl x (by simp);obtain⟨q1,q2⟩:=Gx h1 (by omega);obtain⟨r1,r2,r3⟩:=UF h2 (λy hy=>hl y (by simp[hy])) hz;refine⟨by simpa using q1.append r1,λv hv=>?_,λv hv=>?_⟩;·simp only[dY,Ap] at hv;exact hv.elim (q2 v) (r2 v)
  .rcases AP.1 hv with rfl|hv
   .have:=q1.length;simp at this;omega
   .exact r3 v hv
theorem Xe{a:Act}:∀{l:List (Nat×Operand)} {k:Nat},l.map (·.1)=List.range' k l.length->l.map (λp=>(p.1,a.eval p.2))=((l.map λp=>a.eval p.2).zipIdx k).map λp=>(p.2,p.1)
 |[],k,_=>by simp
 |(i,x)::l,k,h=>by simp only[Bm,Bf,List.range'_succ,Hu] at h;obtain⟨rfl,h⟩:=h;simp[List.zipIdx_cons,Xe h]
theorem vD{o:Oper}{t e:TypeId}{len n:Nat}{parts:Array (Nat×Operand)}{args:List Aa}{u:Aa}(ho:o.op= .buildSlice t len parts)(ht:C.P.underlying t=some (.slice e))(hsz:BQ C.P e=some (n+1))(hp:parts.toList.map (·.1)=List.range len)(dS:LN C.P e=true)
  (ha:Br C σ (parts.toList.map (·.2))=some args) (hu:Aw (.By (n+1)) args=some u) (hr:CT C γ0 w0 γ β σ h a w):FM C γ0 w0 o a w (σ.put o.dst (.own u)) h:=by
 obtain⟨i,z,hi,hz,ZF⟩:=Ly dS;have O5:=IW hsz hi;simp only[Aw] at hu;split at hu
 .rename_i hc;cases hu;simp only[BK,EL,beq_iff_eq,DK] at hc;obtain⟨Qk,HZ⟩:=hc;have Ej:=Dx hr ha;have hlen:parts.toList.length=len:=by have:=Cf List.length hp;simpa using this
  have hal:args.length=len:=by have:=Ej.length;simp at this;simp at hlen;omega
  obtain⟨q1,q2,q3⟩:=UF Ej Qk (De n);have Xf:=q1.length;rw[Gy (z:=n+1) (by intro r hr;obtain⟨x,hx,rfl⟩:=Bl.1 hr;exact Qk x hx),Ah,hal] at Xf;have AV:∃cells:Array Value,cells.toList=(parts.toList.map (·.2) |>.map a.eval).flatMap (·.cells.toList)/\(Instr.buildSlice t len (parts.map λ(i,x)=>(i,a.eval x))).run C.P w= .ok (.slice (some ⟨w.heap.size,0,none⟩) len len) (w.alloc (.cells cells e)):=by
   have ZE:(parts.map λ(i,x)=>(i,a.eval x)).toList=(((parts.toList.map (·.2)).map a.eval).zipIdx 0).map λp=>(p.2,p.1):=by have:=Xe (a:=a) (l:=parts.toList) (k:=0) (by rw[hlen,<-List.range_eq_range'];exact hp);simp only[tM,List.map_map];exact this
   have kP:=UE (size:=n+1) ((parts.toList.map (·.2)).map a.eval) 0 ((Array.range (len*(n+1))).map (z.cells[·%z.cells.size]!)) q3 (by simp at hlen⊢;rw[hlen];exact Ac _);rw[<-ZE] at kP;have e0:((Array.range (len*(n+1))).map (z.cells[·%z.cells.size]!)).toList.drop ((0+((parts.toList.map (·.2)).map a.eval).length)*(n+1))=[]:=by apply AY;simp at hlen⊢;rw[hlen];exact Ac _
   rw[e0] at kP;simp only[dd,JQ,BD,Bv] at kP;refine⟨_,rfl,?_⟩;by_cases h0:len*(n+1)=0
   .have hl0:len=0:=by
     rcases Nat.mul_eq_zero.1 h0 with h|h
     .exact h
     .omega
    subst hl0;have hp0:parts=#[]:=by apply Su;simpa using hlen
    subst hp0;have hrz:(Array.range 0:Array Nat)=#[]:=rfl;simp[Instr.buildSlice,run_underlying ht,sizeOf,typeInfo,hi,newRow,Instr.fill,hrz]
   .exact run_buildSlice w t e len _ _ i z ht hi hz (by rw[O5];rw[hal] at HZ;omega) (by rw[O5];exact h0) (by rw[O5];exact kP)
  obtain⟨cells,hcells,AV⟩:=AV;have hcs:cells.size=len*(n+1):=by rw[<-Ci,hcells];exact Xf
  obtain⟨γ',DY,Fy,Du,E4⟩:=hr.Z8 cells e (z:=n+1) (n:=len) (cap:=len) (Au:=args.map (·.cells)) (De n) (by simp[hal]) (by intro r hr;obtain⟨x,hx,rfl⟩:=Bl.1 hr;exact Qk x hx) hcs (Ac _)
   (by rw[hal] at HZ;have:len<=len*(n+1):=O2 _ (De n);simp only[maxLen];omega) (by rw[hcells,Az (by rw[Xf];exact Ac _)];exact q1) (by rw[hcells,Az (by rw[Xf];exact Ac _)];exact q2)
  obtain⟨γ2,K5⟩:=Fy.Ye Du E4 o.dst;exact FM.value (by simp only[execOp,ho];exact Dr AV) K5
 .cases hu
theorem kS{t':TypeId}{size bytes:Nat}{v u r:Aa}{xv:Value}(Fp:(∃e',C.P.underlying t'=some (.slice e'))\/C.P.underlying t'=some .string)(hi:Gq γ h w)(hu:BH γ u xv)(hp:HF size bytes v u=some r):
  ∃(Au:List (List Aa)) (news:List Value),DP size bytes v Au=some r/\Src C.P size t' xv Au.length news w/\Bb γ Au.flatten news/\(∀r∈Au,r.length=size):=by
 unfold HF at hp;split at hp;·rw[show xv=_ from hu];exact⟨[],[],hp,⟨Fp,λ_=>rfl,run_firstCells_none w size 0 0 0,run_firstCells_none w.drew size 0 0 0,by simp,by simp⟩,rfl,by simp⟩
 .rename_i z Au;split at hp
  .rename_i hz;subst hz;obtain⟨ad,cap,hxv,NW,hsp,hR⟩:=hu;obtain⟨us,p1,p2,p3⟩:=hR.values;have Mb:∀(j:Nat) (x:Value),us[j]?=some x->ad.add j=⟨ad.block,ad.off+j,none⟩:=λj x hj=>by
    have hpos:0<Au.length:=by
     rcases Oz Au.length with h0|h0
     .have:us.length=0:=by rw[p2,h0,dd]
      rw[EY this] at hj;simp at hj
     .exact h0
    have eP:=MJ hsp NW hpos;generalize ad.block=b at*;generalize ad.off=o at*;subst eP;unfold Addr.add;split<;>simp_all
   rw[hxv];refine⟨Au,us,hp,⟨Fp,λ_=>rfl,run_firstCells_some w _ _ _ _ _ us p2 (λj x hj=>by rw[Mb j x hj];exact(hi.HD _ _ _ (p3 j x hj)).1),run_firstCells_some w.drew _ _ _ _ _ us p2 (λj x hj=>by rw[Mb j x hj];exact(hi.HD _ _ _ (p3 j x hj)).1),p2,λx hx=>?_⟩,p1,λr hr=>?_⟩;·obtain⟨j,hj⟩:=CU hx;exact(hi.HD _ _ _ (p3 j x hj)).2.1
   .obtain⟨j,hj⟩:=CU hr;exact(hR.get hj).1
  .cases hp
 .rename_i s;split at hp
  .rename_i hz;subst hz;rw[show xv=_ from hu];have hlen:(B1 s).length=(⟨⟨s⟩⟩:ByteArray).size:=by simp[B1,ByteArray.size]
   have hrel:∀l:List UInt8,Bb γ (B1 l).flatten (l.map λb=>Value.int .u8 b.toNat):=by
    intro l;induction l with
    |nil=>rfl
    |cons b l ih=>exact⟨_,_,rfl,rfl,ih⟩
   refine⟨B1 s,byteCells ⟨⟨s⟩⟩,hp,?_,?_,λr hr=>?_⟩;·rw[hlen];exact⟨Fp,λ_=>rfl,firstCells_string _ w,firstCells_string _ w.drew,by rw[byteCells_length,I8],λu hu=>by obtain⟨_,_,rfl⟩:=Bl.1 hu;rfl⟩
   .simpa[byteCells] using hrel s
   .obtain⟨b,_,rfl⟩:=Bl.1 hr;rfl
  .cases hp
 .cases hp
theorem CT.vE(hr:CT C γ0 w0 γ β σ h a w){g n cap z:Nat}{us:Array Value}{e:TypeId}{rr Au:List (List Aa)}{news:List Value}(E4:γ.own g=some (.tail σ.length none (n*z)))(hB:w0.heap.size<=g)(hg:w.heap[g]?=some (.cells us e (0,0)))
  (RG:us.size=cap*z) (hm:cap<=maxLen) (hz:0<z) (hv:BH γ (.sl z rr) (.slice (some ⟨g,0,none⟩) n cap)) (hl:∀r∈Au,r.length=z) (hn:Bb γ Au.flatten news) (h1:∀u∈news,u.oneCell'=true) (hroom:n+Au.length<=cap):
  ∃γ',γ.le γ'/\CT C γ0 w0 γ' β σ h a (w.setRow g (us.toList.take (n*z)++news++us.toList.drop (n*z+news.length)).toArray)/\BH γ' (.sl z (rr++Au)) (.slice (some ⟨g,0,none⟩) (n+Au.length) cap)/\
   HY γ' w0.heap.size (w.setRow g (us.toList.take (n*z)++news++us.toList.drop (n*z+news.length)).toArray) σ.length none (.slice (some ⟨g,0,none⟩) (n+Au.length) cap) (.sl z (rr++Au)):=by
 obtain⟨ad,cap',eZ,NW,_,hR⟩:=hv;simp only[Value.slice.injEq,BF] at eZ;obtain⟨rfl,rfl,rfl⟩:=eZ;simp only at hR;have Nx:news.length=Au.length*z:=by rw[hn.length,Gy hl]
 have hfit:(rr.length+Au.length)*z<=us.size:=by rw[RG];exact EA _ hroom
 rw[BC] at hfit;have yp:(us.toList.take (rr.length*z)).length=rr.length*z:=by simp;omega
 obtain⟨vs,q1,q2,q3⟩:=hR.values;have hvs:vs=us.toList.take (rr.length*z):=by
  apply List.ext_getElem?;intro j;by_cases hj:j<rr.length*z
  .have hjv:j<vs.length:=by rw[q2];exact hj
   have hc:=(hr.DD.HD _ _ _ (q3 j _ (Ai hjv))).1;rw[cell_of_row w _ _ us e (0,0) hg,BJ] at hc;rw[Ai hjv,C9 hj];simpa using hc.symm
  .rw[E3 (by omega),E3 (by rw[yp];omega)]
 rw[hvs] at q1;have Ny:∀u∈us.toList.take (rr.length*z),u.oneCell'=true:=λu hu=>by rw[<-hvs] at hu;obtain⟨j,hj⟩:=CU hu;exact(hr.DD.HD _ _ _ (q3 j u hj)).2.1
 have hkk:(rr.length+Au.length)*z=rr.length*z+Au.length*z:=BC _ _ _;have t_:((us.toList.take (rr.length*z)++news++us.toList.drop (rr.length*z+news.length)).toArray).toList.take ((rr.length+Au.length)*z)=us.toList.take (rr.length*z)++news:=by
  have:(us.toList.take (rr.length*z)++news).length=(rr.length+Au.length)*z:=by rw[Ao,yp,Nx,hkk]
  rw[<-this];exact GY
 have hsz:(us.toList.take (rr.length*z)++news++us.toList.drop (rr.length*z+news.length)).length=us.size:=by simp[Nx];omega
 generalize hU:(us.toList.take (rr.length*z)++news++us.toList.drop (rr.length*z+news.length)).toArray=Dm at*;have aJb:Dm.size=us.size:=by rw[<-hU];simpa using hsz
 obtain⟨hi,DY⟩:=eI hr.DD E4 hg Dm ((rr.length+Au.length)*z) σ.length none (λo ho=>by
   rw[<-hU,Ax,List.getElem?_toArray,Ad (by omega),C9 ho];simp)
  (by omega) (λo u ho hu=>by
   have:u∈Dm.toList.take ((rr.length+Au.length)*z):=by refine CE (i:=o) ?_;rw[C9 ho];simpa using hu
   rw[t_,Ap] at this;exact this.elim (Ny u) (h1 u)) (λo v hv=>by
   have:=(hr.DD.HD _ _ _ hv).1;rwa [cell_of_row w _ _ us e (0,0) hg] at this)
 have hk:OF g γ w (γ.C5 g Dm ((rr.length+Au.length)*z) (some (.tail σ.length none ((rr.length+Au.length)*z)))) (w.setRow g Dm):=
  ⟨DY,λb x hb hx _=>⟨by simp only[Gh.C5,if_neg hb];exact hx,setRow_other w g b Dm hb⟩⟩
 have hR':ET (γ.C5 g Dm ((rr.length+Au.length)*z) (some (.tail σ.length none ((rr.length+Au.length)*z)))) (rr++Au) z g 0:=by
  refine MS (us:=Dm.toList.take ((rr.length+Au.length)*z)) (λr hr=>?_) ?_ (λj u hj=>?_)
  .rcases Ap.1 hr with hr|hr
   .obtain⟨i,hi⟩:=CU hr;exact(hR.get hi).1
   .exact hl r hr
  .rw[t_,Wo];exact(Bb.mono DY _ _ q1).append (Bb.mono DY _ _ hn)
  .rw[Ch] at hj;split at hj;·rename_i hlt;simp only[Gh.C5,BO,BJ,if_pos hlt];simpa using hj
   .cases hj
 refine⟨_,DY,⟨hi,⟨hr.fr.size,λs=>?_⟩,hr.Dw.write (g:=g) hB DY (by simp) rfl rfl rfl (λb hb=>⟨setRow_other w g b Dm hb,by simp only[Gh.C5,if_neg hb]⟩),hr.defers,λx cs hx=>CJ.mono DY _ _ _ (hr.Gg x cs hx)⟩,
  ⟨⟨g,0,none⟩,cap,by simp,by simpa using hroom,.inl rfl,hR'⟩,.inr ⟨g,rr.length+Au.length,cap,Dm,e,z,rr++Au,rfl,rfl,by simp[Gh.C5],hB,setRow_heap w g us Dm e (0,0) hg,by rw[aJb,RG],hroom,hm,hz⟩⟩
 by_cases hs:s=σ.length;·subst hs;rw[BG.RJ];trivial
 .exact(hr.fr.Hz s).keptBut E4 hk (by simp only[Ju.eD];intro hx;cases hx;exact hs rfl)
theorem MT{t t' ty:TypeId}{ts:Array TypeId}{xs:Array Value}(h0:ts[0]?=some t)(h1:ts[1]?=some t'):Builtin.append_ ts ty xs=Builtin.append_ #[t,t'] ty xs:=by simp only[Builtin.append_,h0,h1];rfl
theorem Bb.fk{l:List Aa}{us:List Value}{n:Nat}(h:Bb γ l us)(hn:us.length<=n):Bb γ l (us.take n):=by rw[Az hn];exact h
theorem Mc{cs:List Aa}{z:Nat}:∀{n off:Nat},(Cm cs z off n).flatten=(cs.drop off).take (n*z)
 |0,off=>by simp[Cm]
 |n+1,off=>by rw[Cm,Dc,Mc,BC,Ez,Nat.add_comm (n*z) z,List.take_add,E9]
theorem Np{cs:List Aa}{z:Nat}:∀{n off:Nat},(Cm cs z off n).length=n
 |0,off=>rfl
 |n+1,off=>by rw[Cm,Bf,Np]
theorem Pf{cs:List Aa}{z:Nat}:∀{n off:Nat},off+n*z<=cs.length->∀r∈Cm cs z off n,r.length=z
 |0,off,_,r,hr=>by simp[Cm] at hr
 |n+1,off,hl,r,hr=>by
  rw[BC,Ez] at hl;rw[Cm,AP] at hr;rcases hr with rfl|hr
  .rw[Al,A8];omega
  .exact Pf (by omega) r hr
theorem UG{t':TypeId}{size:Nat}{u:Aa}{xv:Value}{Au:List (List Aa)}(Fp:(∃e',C.P.underlying t'=some (.slice e'))\/C.P.underlying t'=some .string)(hi:Gq γ h w)(hu:BH γ u xv)(hp:Ft h size u=some Au):
  ∃news:List Value,Src C.P size t' xv Au.length news w/\Bb γ Au.flatten news/\(∀r∈Au,r.length=size):=by
 unfold Ft at hp;split at hp;·cases hp;rw[show xv=_ from hu];exact⟨[],⟨Fp,λ_=>rfl,run_firstCells_none w size 0 0 0,run_firstCells_none w.drew size 0 0 0,by simp,by simp⟩,rfl,by simp⟩
 .rename_i z rows';split at hp
  .rename_i hz;cases hp;subst hz;obtain⟨ad,cap,hxv,NW,hsp,hR⟩:=hu;obtain⟨us,p1,p2,p3⟩:=hR.values;have Mb:∀(j:Nat) (x:Value),us[j]?=some x->ad.add j=⟨ad.block,ad.off+j,none⟩:=λj x hj=>by
    have hpos:0<Au.length:=by
     rcases Oz Au.length with h0|h0
     .have:us.length=0:=by rw[p2,h0,dd]
      rw[EY this] at hj;simp at hj
     .exact h0
    have eP:=MJ hsp NW hpos;generalize ad.block=b at*;generalize ad.off=o at*;subst eP;unfold Addr.add;split<;>simp_all
   rw[hxv];refine⟨us,⟨Fp,λ_=>rfl,run_firstCells_some w _ _ _ _ _ us p2 (λj x hj=>by rw[Mb j x hj];exact(hi.HD _ _ _ (p3 j x hj)).1),run_firstCells_some w.drew _ _ _ _ _ us p2 (λj x hj=>by rw[Mb j x hj];exact(hi.HD _ _ _ (p3 j x hj)).1),p2,λx hx=>?_⟩,p1,λr hr=>?_⟩;·obtain⟨j,hj⟩:=CU hx;exact(hi.HD _ _ _ (p3 j x hj)).2.1
   .obtain⟨j,hj⟩:=CU hr;exact(hR.get hj).1
  .cases hp
 .rename_i s;split at hp
  .rename_i hz;cases hp;subst hz;rw[show xv=_ from hu];have hlen:(B1 s).length=(⟨⟨s⟩⟩:ByteArray).size:=by simp[B1,ByteArray.size]
   have hrel:∀l:List UInt8,Bb γ (B1 l).flatten (l.map λb=>Value.int .u8 b.toNat):=by
    intro l;induction l with
    |nil=>rfl
    |cons b l ih=>exact⟨_,_,rfl,rfl,ih⟩
   refine⟨byteCells ⟨⟨s⟩⟩,?_,?_,λr hr=>?_⟩;·rw[hlen];exact⟨Fp,λ_=>rfl,firstCells_string _ w,firstCells_string _ w.drew,by rw[byteCells_length,I8],λu hu=>by obtain⟨_,_,rfl⟩:=Bl.1 hu;rfl⟩
   .simpa[byteCells] using hrel s
   .obtain⟨b,_,rfl⟩:=Bl.1 hr;rfl
  .cases hp
 .rename_i id off n z;split at hp
  .rename_i hz;subst hz;split at hp
   .rename_i cs hcs;split at hp
    .rename_i hl;cases hp;obtain⟨b,cap,hb,hxv,NW,di,hsz⟩:=hu;obtain⟨us,e,fr,p1,pf,p2,p3⟩:=hi.cells id cs hcs b hb;have UC:(us.toList.take cs.length).length=cs.length:=p2.length;have Nx:(((us.toList.take cs.length).drop off).take (n*z)).length=n*z:=by rw[Al,A8,UC];omega
     have Mb:∀j,(⟨b,off,none⟩:Addr).add j=⟨b,off+j,none⟩:=λj=>by unfold Addr.add;split<;>simp_all
     have IU:∀(j:Nat) (x:Value),(((us.toList.take cs.length).drop off).take (n*z))[j]?=some x->w.cell? ((⟨b,off,none⟩:Addr).add j)=some x:=λj x hj=>by
      rw[Mb,cell_of_row w _ _ us e fr p1];rw[Ch] at hj;split at hj
      .rw[CA,Ch] at hj;split at hj;·simpa using hj
       .cases hj
      .cases hj
     rw[hxv,Np];refine⟨((us.toList.take cs.length).drop off).take (n*z),⟨Fp,λ_=>rfl,run_firstCells_some w _ _ _ _ _ _ Nx IU,run_firstCells_some w.drew _ _ _ _ _ _ Nx (λj x hj=>IU j x hj),Nx,λx hx=>p3 x (Bw (Bj hx))⟩,?_,Pf hl⟩;rw[Mc];exact(p2.drop off).take (n*z)
    .cases hp
   .cases hp
  .cases hp
 .cases hp
theorem Nq{o:Oper}{c:Call}{t t' e:TypeId}{n b:Nat}{s x:Operand}{v u r:Aa}{Au:List (List Aa)}{news:List Value}(ho:o.op= .call c)(hc:c.callee= .builtin .append)(h0:c.argTypes[0]?=some t)(h1:c.argTypes[1]?=some t')(Ej:c.args.toList=[s,x])(ht:C.P.underlying t=some (.slice e))
  (Fp:(∃e',C.P.underlying t'=some (.slice e'))\/C.P.underlying t'=some .string) (hsz:BQ C.P e=some (n+1)) (vF:Jb C.P e=some (b+1)) (E4:J5 C σ s=true) (dS:LN C.P e=true) (hv:Br C σ [s,x]=some [v,u])
  (GP:DP (n+1) (b+1) v Au=some r) (JD:Src C.P (n+1) t' (a.eval x) Au.length news w) (Xg:Bb γ Au.flatten news) (dT:∀q∈Au,q.length=n+1) (hr:CT C γ0 w0 γ β σ h a w):FM C γ0 w0 o a w ((σ.Dn (CZ σ s)).put o.dst (.own r)) h:=by
 obtain⟨i,z,hi,hz,ZF⟩:=Ly dS;have O5:=IW hsz hi;have yq:=KG vF hi;obtain⟨_,_,e0,hvs,fA⟩:=Fe hr hv;cases e0;have fj:Eu C σ s=some v:=by
  unfold Br at hv;split at hv;·rename_i p ps q1 q2;cases hv;exact q1
  .cases hv
 obtain⟨γ1,DY,Jv,Du,hT⟩:=NV hr E4 fj (σ.Dn (CZ σ s)).length none;have vG:=Bb.mono DY _ _ Xg;have Jo:c.args.map a.eval=#[a.eval s,a.eval x]:=by apply Jm;simp[Ej]
 have ME:∀v' w',(Builtin.append_ #[t,t'] o.type #[a.eval s,a.eval x]).run C.P w= .ok v' w'->(execOp a.eval o).run C.P w= .ok (.value v') w':=λv' w' AV=>by
  have:execOp a.eval o=(do pure (Next.value (<-Builtin.append_ #[t,t'] o.type #[a.eval s,a.eval x]))):=by rw[<-Jo,<-MT (ty:=o.type) h0 h1];simp only[execOp,ho,resolve,hc];rfl
  rw[this];exact Dr AV
 have KB:Src C.P i.size t' (a.eval x) Au.length news w:=by rw[O5];exact JD
 have Nx:news.length=Au.length*(n+1):=JD.newsLen;have Fs:∀(base:Option Addr) (k cap:Nat) (rr:List (List Aa)) (olds:List Value),a.eval s= .slice base k cap->rr.length=k->(∀q∈rr,q.length=n+1)->Bb γ1 rr.flatten olds->(∀q∈olds,q.oneCell'=true)->
   (Builtin.firstCells i.size k (.slice base k cap)).run C.P w.drew= .ok olds.toArray w.drew->cap<k+Au.length->(k+Au.length)*(b+1)<=AT->r= .sl (n+1) (rr++Au)->
   FM C γ0 w0 o a w ((σ.Dn (CZ σ s)).put o.dst (.own r)) h:=by
  intro base k cap rr olds hs hk hrr tT ym hfirst hlt Pg Wg;have SB:k+Au.length<=AT:=Bt (O2 _ (De b)) Pg;have Fl:=run_append_grow_src (P:=C.P) w t t' o.type e i z ht hi hz base k cap olds hfirst (a.eval x) Au.length news KB hlt (by simp only[AT] at SB;omega) (by rw[yq];exact growslice_fits hlt Pg);rw[<-hs] at Fl;have DT:=grownCap_ge w (k+Au.length) cap e;have aJc:olds.length=k*(n+1):=by rw[tT.length,Gy hrr,hk]
  have qO:(olds++news).length=(k+Au.length)*(n+1):=by rw[Ao,aJc,Nx,BC]
  obtain⟨γ2,Z6,K5,UD,hT2⟩:=Jv.drew.Z8 ((olds++news).toArray++Builtin.zeroCells z.cells (grownCap w (k+Au.length) cap e-(k+Au.length))) e (z:=n+1) (n:=k+Au.length) (cap:=grownCap w (k+Au.length) cap e) (Au:=rr++Au) (De n) (by simp[hk])
   (λq hq=>(Ap.1 hq).elim (hrr q) (dT q))
   (by simp only[Qh,B7,size_zeroCells,ZF,O5,qO,<-BC];congr 1;omega) DT (grownCap_le_maxLen w _ _ _ (by simp only[AT] at SB;simp only[maxLen];omega))
   (by simp only[Jy,Wo];rw[<-qO,GY];exact tT.append vG)
   (λq hq=>by simp only[Jy] at hq;rw[<-qO,GY,Ap] at hq;exact hq.elim (ym q) (JD.one q))
  rw[Wg];obtain⟨γ3,yr⟩:=K5.Ye UD hT2 o.dst;exact FM.value (ME _ _ Fl) yr
 rcases hT with rfl|⟨g,k,cap,us,e1,zz,rr,rfl,Ku,Rr,hB,hg,RG,fm,hm,hzz⟩
 .have Ku:a.eval s= .slice none 0 0:=Du;cases Au with
  |nil=>
   have Wg:r= .slnil:=by simpa[DP] using GP.symm
   have tQ:news=[]:=EY (by simpa using Nx);subst tQ;have AV:(Builtin.append_ #[t,t'] o.type #[a.eval s,a.eval x]).run C.P w= .ok (.slice none 0 0) w:=by rw[Ku];have hl:=KB.len;have Wy:=KB.cells;simp only[BU] at hl Wy;rcases Fp with⟨e',hk⟩|hk<;>simp[Builtin.append_,run_underlying ht,run_underlying hk,sizeOf,typeInfo,hi,hl,Wy]
   rw[Wg];exact FM.value (ME _ _ AV) (Jv.put λ_ _=>⟨rfl,.inl rfl⟩)
  |cons q Au=>
   have SG:r= .sl (n+1) (q::Au)/\(q::Au).length*(b+1)<=AT:=by
    simp only[DP] at GP;split at GP;·rename_i hb;cases GP;exact⟨rfl,hb⟩
    .cases GP
   exact Fs none 0 0 [] [] Ku rfl (by simp) rfl (by simp) (run_firstCells_none _ _ _ _ _) (by simp) (by simpa using SG.2) (by simpa using SG.1)
 .obtain⟨ad0,cap0,eZ,NW,_,hR⟩:=id Du;rw[Ku] at eZ;simp only[Value.slice.injEq,BF] at eZ;obtain⟨rfl,hk,rfl⟩:=eZ;subst hk;simp only at hR;have hzn:zz=n+1/\r= .sl (n+1) (rr++Au)/\(Au=[]\/(rr.length+Au.length)*(b+1)<=AT):=by
   cases Au with
   |nil=>
    simp only[DP] at GP;split at GP;·rename_i ZB;cases GP;exact⟨ZB,by simp[ZB],.inl rfl⟩
    .cases GP
   |cons q Au=>
    simp only[DP] at GP;split at GP;·rename_i ZB;cases GP;exact⟨ZB.1,rfl,.inr ZB.2⟩
    .cases GP
  obtain⟨rfl,Wg,Pg⟩:=hzn;by_cases hroom:rr.length+Au.length<=cap
  .have hfit:rr.length*(n+1)+news.length<=us.size:=by rw[Nx,RG,<-BC];exact EA _ hroom
   have AV:=run_append_room_src (P:=C.P) w t t' o.type e i ht hi g 0 rr.length cap (a.eval x) Au.length news KB hroom (λj hj=>by rw[cell_of_row w _ _ us e1 (0,0) hg,O5,C3 (by omega)];rfl) (λj hj=>frozen_of_row w _ _ us e1 hg)
   rw[BJ,O5,Ei news _ us w hg hfit,<-Ku] at AV;rw[Ku] at Du;obtain⟨γ2,Z6,K5,UD,hT2⟩:=Jv.vE Rr hB hg RG hm (De n) Du dT vG JD.one hroom;obtain⟨γ3,yr⟩:=K5.Ye UD hT2 o.dst;rw[Wg];exact FM.value (ME _ _ AV) yr
  .obtain⟨vs,q1,q2,q3⟩:=hR.values;have Mb:∀j,(⟨g,0,none⟩:Addr).add j=⟨g,0+j,none⟩:=λj=>by unfold Addr.add;split<;>simp_all
   refine Fs (some ⟨g,0,none⟩) rr.length cap rr vs Ku rfl (λq hq=>?_) q1 (λq hq=>?_) ?_ (by omega) ?_ Wg;·obtain⟨j,hj⟩:=CU hq;exact(hR.get hj).1
   .obtain⟨j,hj⟩:=CU hq;exact(Jv.DD.HD _ _ _ (q3 j q hj)).2.1
   .rw[O5];exact run_firstCells_some w.drew _ _ _ _ _ vs q2 (λj y hj=>by rw[Mb];exact(Jv.DD.HD _ _ _ (q3 j y hj)).1)
   .rcases Pg with rfl|Pg
    .simp at hroom;omega
    .exact Pg
theorem fB{o:Oper}{c:Call}{t t' e:TypeId}{n b:Nat}{s x:Operand}{v u r:Aa}(ho:o.op= .call c)(hc:c.callee= .builtin .append)(h0:c.argTypes[0]?=some t)(h1:c.argTypes[1]?=some t')(Ej:c.args.toList=[s,x])(ht:C.P.underlying t=some (.slice e))
  (Fp:(∃e',C.P.underlying t'=some (.slice e'))\/C.P.underlying t'=some .string) (hsz:BQ C.P e=some (n+1)) (vF:Jb C.P e=some (b+1)) (E4:J5 C σ s=true) (dS:LN C.P e=true) (hv:Br C σ [s,x]=some [v,u])
  (hp:Aw (.append (n+1) (b+1)) [v,u]=some r) (hr:CT C γ0 w0 γ β σ h a w):FM C γ0 w0 o a w ((σ.Dn (CZ σ s)).put o.dst (.own r)) h:=by
 obtain⟨_,_,e0,hvs,fA⟩:=Fe hr hv;cases e0;simp only[Aw] at hp;obtain⟨Au,news,GP,JD,Xg,dT⟩:=kS (w:=w) Fp hr.DD fA hp;exact Nq ho hc h0 h1 Ej ht Fp hsz vF E4 dS hv GP JD Xg dT hr
theorem Z9{o:Oper}{c:Call}{t t' e:TypeId}{n b:Nat}{s x:Operand}{v u r:Aa}(ho:o.op= .call c)(hc:c.callee= .builtin .append)(h0:c.argTypes[0]?=some t)(h1:c.argTypes[1]?=some t')(Ej:c.args.toList=[s,x])(ht:C.P.underlying t=some (.slice e))
  (Fp:(∃e',C.P.underlying t'=some (.slice e'))\/C.P.underlying t'=some .string) (hsz:BQ C.P e=some (n+1)) (vF:Jb C.P e=some (b+1)) (E4:J5 C σ s=true) (dS:LN C.P e=true) (hv:Br C σ [s,x]=some [v,u])
  (hp:Pc h (n+1) (b+1) v u=some r) (hr:CT C γ0 w0 γ β σ h a w):FM C γ0 w0 o a w ((σ.Dn (CZ σ s)).put o.dst (.own r)) h:=by
 obtain⟨_,_,e0,hvs,fA⟩:=Fe hr hv;cases e0;unfold Pc at hp;cases hq:Ft h (n+1) u with
 |none=>rw[hq] at hp;cases hp
 |some Au=>rw[hq] at hp;obtain⟨news,JD,Xg,dT⟩:=UG (w:=w) Fp hr.DD fA hq;exact Nq ho hc h0 h1 Ej ht Fp hsz vF E4 dS hv hp JD Xg dT hr
end
section
variable{C:FJ}{γ0 γ γ':Gh}{w0 w w':World}{β:Nat->Nat}{σ:BG}{h:Ag}{a:Act}{fid:FuncId}{ops:List Oper}
theorem Qz:∀s:As,(B1 s).flatten=s.map λb=>Aa.int .u8 b.toNat
 |[]=>rfl
 |_::s=>by have:=Qz s;simp only[B1,Bm,Dc] at this⊢;rw[this];rfl
theorem K6(γ:Gh):∀l:As,Bb γ (B1 l).flatten (l.map λb=>Value.int .u8 b.toNat)
 |[]=>rfl
 |_::l=>⟨_,_,rfl,rfl,K6 γ l⟩
theorem JW(s:As)(cap:Nat):(bytesRow ⟨⟨s⟩⟩ cap).toList.take s.length=s.map λb=>Value.int .u8 b.toNat:=by
 have:(s.map λb=>Value.int .u8 (b.toNat:Int)).length=s.length:=by simp
 simp only[bytesRow,Jy,tM];rw[<-this];exact GY
theorem Yf(s:As):(⟨⟨s⟩⟩:ByteArray).size=s.length:=by simp[ByteArray.size]
theorem fo{o:Oper}{src dst e:TypeId}{x:Operand}{v u:Aa}(ho:o.op= .convert src dst x)(hs:C.P.underlying src=some .string)(hd:C.P.underlying dst=some (.slice e))(he:C.P.underlying e=some (.int .u8))(hx:Br C σ [x]=some [v])(hp:Aw .s2b [v]=some u)(hr:CT C γ0 w0 γ β σ h a w):
  FM C γ0 w0 o a w (σ.put o.dst (.val u)) h:=by
 obtain⟨_,e0,hv⟩:=F8 hr hx;cases e0;simp only[Aw] at hp;split at hp
 .rename_i s Jo;cases Jo;split at hp
  .cases hp;have AV:=run_bytes_of_string (P:=C.P) w src dst e ⟨⟨s⟩⟩ hs hd he;rw[<-MN hv] at AV;have ua:=grownCap_ge w s.length 0 e;rw[Yf] at AV;obtain⟨hi,ha⟩:=NP hr.drew.DD (bytesRow ⟨⟨s⟩⟩ (grownCap w s.length 0 e)) e ((bytesRow ⟨⟨s⟩⟩ (grownCap w s.length 0 e)).size,(bytesRow ⟨⟨s⟩⟩ (grownCap w s.length 0 e)).size+1) s.length none (λo u ho hu=>by have hm:u∈(bytesRow ⟨⟨s⟩⟩ (grownCap w s.length 0 e)).toList.take s.length:=CE (i:=o) (by rw[C9 ho];simpa using hu);rw[JW] at hm;obtain⟨b,_,rfl⟩:=Bl.1 hm;rfl) (.inl rfl)
   have Fy:=hr.drew.world hi ha;refine FM.value (v:= .slice (some ⟨w.heap.size,0,none⟩) s.length (grownCap w s.length 0 e)) (by simp only[execOp,ho];exact Dr AV) (Fy.put λ_ _=>⟨⟨w.heap.size,0,none⟩,grownCap w s.length 0 e,by simp[B1],by simpa[B1] using ua,.inl rfl,?_⟩);refine MS (us:=s.map λb=>Value.int .u8 b.toNat) (λr hr=>?_) (K6 _ s) (λj u hj=>?_);·obtain⟨b,_,rfl⟩:=Bl.1 hr;rfl
   .rw[<-JW s (grownCap w s.length 0 e),Ch] at hj;split at hj;·rename_i hlt;simp only[Gh.C5,heap_drew,BO,BJ,if_pos hlt];simpa using hj
    .cases hj
  .cases hp
 .cases hp
theorem Yg{o:Oper}{src dst e:TypeId}{x:Operand}{v u:Aa}{h':Ag}(ho:o.op= .convert src dst x)(hs:C.P.underlying src=some .string)(hd:C.P.underlying dst=some (.slice e))(he:C.P.underlying e=some (.int .u8))(hx:Eu C σ x=some v)(hp:IQ h v=some (h',u))(hr:CT C γ0 w0 γ β σ h a w):
  FM C γ0 w0 o a w (σ.put o.dst (.val u)) h':=by
 have hv:=FU hr hx;unfold IQ at hp;split at hp
 .rename_i s;split at hp
  .cases hp;have AV:=run_bytes_of_string (P:=C.P) w src dst e ⟨⟨s⟩⟩ hs hd he;rw[<-MN hv] at AV;have ua:=grownCap_ge w s.length 0 e;rw[Yf] at AV;have hl:(s.map λb=>Aa.int .u8 b.toNat).length=s.length:=by simp
   have hbs:(bytesRow ⟨⟨s⟩⟩ (grownCap w s.length 0 e)).size=grownCap w s.length 0 e:=by have e0:ByteArray.size ⟨⟨s⟩⟩=s.length:=Yf s;simp only[bytesRow,Qh,Array.size_map,Array.size_replicate,e0];simp only[B7];omega
   have dU:s.length<=maxLen:=by
    have dU:s.length<=AT:=by assumption
    simp only[AT] at dU;simp only[maxLen];omega
   obtain⟨γ',DY,hm,Fy,hsz⟩:=hr.drew.newObj (bytesRow ⟨⟨s⟩⟩ (grownCap w s.length 0 e)) e ((bytesRow ⟨⟨s⟩⟩ (grownCap w s.length 0 e)).size,(bytesRow ⟨⟨s⟩⟩ (grownCap w s.length 0 e)).size+1) (s.map λb=>Aa.int .u8 b.toNat) (.inr (Ac _))
    (by rw[hl,JW];have:=K6 γ s;rw[Qz] at this;exact this)
    (λu hu=>by rw[hl,JW] at hu;obtain⟨b,_,rfl⟩:=Bl.1 hu;rfl)
   exact FM.value (v:= .slice (some ⟨w.heap.size,0,none⟩) s.length (grownCap w s.length 0 e)) (by simp only[execOp,ho];exact Dr AV) (Fy.put λ_ _=>⟨w.heap.size,_,hm,rfl,ua,⟨De 0,grownCap_le_maxLen w _ _ _ dU⟩,by rw[BJ,I8,<-hbs];exact hsz⟩)
  .cases hp
 .cases hp
theorem Hn{α:Type}(l:List α):∀(c j:Nat),j<c*l.length->(List.replicate c l).flatten[j]?=l[j%l.length]?
 |0,j,h=>by simp at h
 |c+1,j,h=>by
  have h':j<c*l.length+l.length:=by rw[BC] at h;omega
  rw[List.replicate_succ,Dc];by_cases hj:j<l.length;·rw[Ad hj,Nat.mod_eq_of_lt hj]
  .rw[A5 (by omega),Hn l c _ (by omega),show j%l.length=(j-l.length)%l.length from Nat.mod_eq_sub_mod (by omega)]
theorem vH{o:Oper}{t e:TypeId}{l c:Operand}{n b:Nat}{z:Aa}{vl vc u:Aa}{h':Ag}(ho:o.op= .makeSlice t l c)(ht:C.P.underlying t=some (.slice e))(hsz:BQ C.P e=some (n+1))(vF:Jb C.P e=some (b+1))(hz:GO C.P e=some z)(hl:Eu C σ l=some vl)(hc:Eu C σ c=some vc)
  (hm:Ug h (n+1) (b+1) z.cells vl vc=some (h',u)) (hr:CT C γ0 w0 γ β σ h a w):FM C γ0 w0 o a w (σ.put o.dst (.val u)) h':=by
 unfold Ug at hm;split at hm
 .rename_i k m;split at hm
  .rename_i HJ;obtain⟨c1,c2,c3,c4⟩:=HJ;cases hm;unfold GO at hz;cases hi:C.P.info? e with
   |none=>rw[hi] at hz;cases hz
   |some i=>
    rw[hi] at hz;cases tU:i.zero with
    |none=>simp[tU] at hz
    |some zv=>
     simp only[Ct,tU] at hz;have O5:=IW hsz hi;have yq:=KG vF hi;obtain⟨q1,q2⟩:=Gx (γ:=γ) (EU hz) (by omega);have ZF:zv.cells.size=n+1:=by have:=q1.length;simp at this;omega
     have ub:m.toNat*(b+1)<=AT:=c3;have hmm:m.toNat<=AT:=Bt (O2 m.toNat (De b)) ub;have AV:=run_make (P:=C.P) w t e i zv ht hi tU .i64 .i64 k m c1 c2 (by
      rw[yq];have e1:((b+1:Nat):Int)*m=((m.toNat*(b+1):Nat):Int):=by rw[Int.natCast_mul,Nj (by omega),Int.mul_comm]
      rw[e1];simp only[AT] at ub;omega) (by simp only[AT] at hmm;omega)
     rw[<-D5 (FU hr hl),<-D5 (FU hr hc)] at AV;have hlen:((List.replicate m.toNat z.cells).flatten).length=m.toNat*(n+1):=by rw[Gy (z:=n+1) (λr hr=>by rw[List.eq_of_mem_replicate hr,c4]),Gr]
     have hmc:∀(j:Nat) (u:Value),(madeCells zv.cells (m.toNat*i.size)).toList[j]?=some u->j<m.toNat*(n+1)/\zv.cells.toList[j%(n+1)]?=some u:=by
      intro j u hj;have ZG:j<m.toNat*(n+1):=by have:=(Ae.1 hj).1;simpa[size_madeCells,O5] using this
      refine⟨ZG,?_⟩;have yt:j%(n+1)<zv.cells.size:=by rw[ZF];exact Nat.mod_lt _ (De n)
      simp only[madeCells,tM,Cc] at hj;have hrange:(Array.range (m.toNat*i.size)).toList[j]?=some j:=by simp[O5,ZG]
      rw[hrange] at hj;simp only[BT,BF] at hj;rw[ZF] at hj;rw[<-hj];simp[yt]
     have hV:Bb γ (List.replicate m.toNat z.cells).flatten (madeCells zv.cells (m.toNat*i.size)).toList:=by refine Bb.Gi (by simp[hlen,size_madeCells,O5]) λj x u hx hu=>?_;obtain⟨ZG,hju⟩:=hmc j u hu;rw[Hn z.cells _ _ (by rw[c4];exact ZG),c4] at hx;obtain⟨u',kO,yn⟩:=q1.get hx;rw[hju] at kO;cases kO;exact yn
     obtain⟨γ',DY,hm',Fy,aJf⟩:=hr.newObj (madeCells zv.cells (m.toNat*i.size)) e (0,0) (List.replicate m.toNat z.cells).flatten (.inl rfl) (hV.fk (by rw[hV.length];exact Ac _)) (λu hu=>by obtain⟨j,hj⟩:=CU (Bj hu);exact q2 u (CE (hmc j u hj).2))
     exact FM.value (by simp only[execOp,ho];exact Dr AV) (Fy.put λ_ _=>⟨w.heap.size,m.toNat,hm',rfl,by omega,⟨De n,by simp only[AT] at hmm;simp only[maxLen];omega⟩,by rw[aJf,size_madeCells,O5,BJ]⟩)
  .cases hm
 .cases hm
theorem CT.aDq(hr:CT C γ0 w0 γ β σ h a w){g:Nat}(E4:γ.own g=some (.tail σ.length none 0))(hB:w0.heap.size<=g){us:Array Value}{e:TypeId}(hg:w.heap[g]?=some (.cells us e (0,0)))(Dm:Array Value)(cs:List Aa)
  (hv:Bb γ cs (Dm.toList.take cs.length)) (h1:∀u∈Dm.toList.take cs.length,u.oneCell'=true):∃γ',γ.le γ'/\γ'.mu h.length=some g/\CT C γ0 w0 γ' β σ (h++[.cells cs]) a (w.setRow g Dm)/\γ'.sz g=some Dm.size:=by
 have hmu:γ.mu h.length=none:=by
  cases hc:γ.mu h.length with
  |none=>rfl
  |some y=>exact absurd (hr.DD.mu _ y hc) (Dg _)
 have hsz:γ.sz g=none:=by
  cases hc:γ.sz g with
  |none=>rfl
  |some y=>obtain⟨_,r⟩:=hr.DD.sz g y hc;rw[E4] at r;rcases r with r|⟨_,r⟩<;>cases r
 have DY:γ.le (γ.BL g h.length (some Dm.size)):=⟨λ_ _ _ hv=>hv,λid b hm=>by
  have:id≠h.length:=λhe=>by rw[he,hmu] at hm;cases hm
  simp only[Gh.BL,if_neg this];exact hm,λb n hm=>by
  have:b≠g:=λhe=>by rw[he,hsz] at hm;cases hm
  simp only[Gh.BL,if_neg this];exact hm⟩
 have yo:∀b n,(γ.BL g h.length (some Dm.size)).sz b=some n->(∃us e fr,(w.setRow g Dm).heap[b]?=some (.cells us e fr)/\us.size=n)/\((γ.BL g h.length (some Dm.size)).own b=none\/∃id,(γ.BL g h.length (some Dm.size)).own b=some (.KY id)):=λb n hb=>by
  by_cases he:b=g;·subst he;simp only[Gh.BL,BO] at hb;cases hb;exact⟨⟨Dm,e,(0,0),setRow_heap w b us Dm e (0,0) hg,rfl⟩,.inr ⟨h.length,by simp[Gh.BL]⟩⟩
  .simp only[Gh.BL,if_neg he] at hb⊢;obtain⟨p,r⟩:=hr.DD.sz b n hb;exact⟨by rw[setRow_other w g b Dm he];exact p,r⟩
 have hne:∀b id,γ.own b=some (.KY id)->b≠g:=λb id hb he=>by rw[he,E4] at hb;cases hb
 have hk:OF g γ w (γ.BL g h.length (some Dm.size)) (w.setRow g Dm):=⟨DY,λb x hb hx _=>⟨by simp only[Gh.BL,if_neg hb];exact hx,setRow_other w g b Dm hb⟩⟩;refine⟨_,DY,by simp[Gh.BL],⟨⟨λb o v hb=>?_,λid y Ha hy=>?_,λid FI hc b hb=>?_,λid es hc b hb=>?_,λid b hb=>?_,λb y hy=>?_,yo⟩,⟨hr.fr.size,λs=>?_⟩,hr.Dw.write (g:=g) hB DY (by simp) rfl rfl rfl (λb hb=>⟨setRow_other w g b Dm hb,by simp only[Gh.BL,if_neg hb]⟩),hr.defers,λx FI hx=>CJ.mono DY _ _ _ (hr.Gg x FI hx)⟩,by simp[Gh.BL]⟩
 .obtain⟨p,q,r⟩:=hr.DD.HD b o v hb;have ML:b≠g:=λhe=>by
   subst he;rw[E4] at r;rcases r with r|⟨_,_,_,r,hl⟩
   .cases r
   .cases r;omega
  exact⟨by rw[Cw (setRow_other w g b Dm ML)];exact p,q,by simp only[Gh.BL,if_neg ML];exact r⟩
 .by_cases he:id=h.length;·exact⟨g,by simp[Gh.BL,he],by simp[Gh.BL,he]⟩
  .have Ut:id<h.length:=by rw[Ae] at Ha;obtain⟨hl,_⟩:=Ha;simp at hl;omega
   rw[Ad Ut] at Ha;obtain⟨b,p,q⟩:=hr.DD.KY id y Ha hy;exact⟨b,by simp only[Gh.BL,if_neg he];exact p,by simp only[Gh.BL,if_neg (hne b id q)];exact q⟩
 .by_cases he:id=h.length;·subst he;simp[Gh.BL] at hb;subst hb;simp at hc;subst hc;exact⟨Dm,e,(0,0),setRow_heap w g us Dm e (0,0) hg,.inl rfl,Bb.mono DY _ _ hv,h1⟩
  .simp only[Gh.BL,if_neg he] at hb;have Ut:=hr.DD.mu id b hb;rw[Ad Ut] at hc;obtain⟨b',p1,p2⟩:=hr.DD.KY id _ hc (by simp);rw[hb] at p1;cases p1;obtain⟨eH,e2,uU,p,pf,q,r⟩:=hr.DD.cells id FI hc b hb;exact⟨eH,e2,uU,by rw[setRow_other w g b Dm (hne b id p2)];exact p,pf,Bb.mono DY _ _ q,r⟩
 .by_cases he:id=h.length;·subst he;simp at hc
  .simp only[Gh.BL,if_neg he] at hb;have Ut:=hr.DD.mu id b hb;rw[Ad Ut] at hc;obtain⟨b',p1,p2⟩:=hr.DD.KY id _ hc (by simp);rw[hb] at p1;cases p1;obtain⟨Dj,clock,p,q⟩:=hr.DD.map id es hc b hb;exact⟨Dj,clock,by rw[setRow_other w g b Dm (hne b id p2)];exact p,q.mono DY⟩
 .by_cases he:id=h.length;·simp[he]
  .simp only[Gh.BL,if_neg he] at hb;have:=hr.DD.mu id b hb;simp;omega
 .by_cases ML:b=g;·subst ML;have:=hr.DD.own _ _ E4;simpa using this
  .simp only[Gh.BL,if_neg ML] at hy;have:=hr.DD.own b y hy;simpa using this
 .by_cases hs:s=σ.length;·subst hs;rw[BG.RJ];trivial
  .exact(hr.fr.Hz s).keptBut E4 hk (by simp only[Ju.eD];intro hx;cases hx;exact hs rfl)
theorem CT.KW(hr:CT C γ0 w0 γ β σ h a w){v v':Aa}{u:Value}{h':Ag}(hv:BH γ v u)(hf:Kp h v=some (h',v')):∃γ',γ.le γ'/\CT C γ0 w0 γ' β σ h' a w/\BH γ' v' u:=by
 unfold Kp at hf;split at hf
 .rename_i id off n z;obtain⟨b,cap,hb,hu,hc,hz,hsz⟩:=hv;split at hf
  .rename_i cs hcs;split at hf
   .rename_i hl;cases hf;obtain⟨us,e,fr,p1,pf,p2,p3⟩:=hr.DD.cells id cs hcs b hb;obtain⟨hi,ha⟩:=uV hr.DD hcs hb p1 p3;have dT:∀(k o:Nat),(Cm cs z o k).length=k:=by
     intro k;induction k with
     |zero=>intro o;rfl
     |succ k ih=>intro o;simp[Cm,ih]
    have hrg:∀(k o i:Nat) (r:List Aa),(Cm cs z o k)[i]?=some r->i<k/\r=(cs.drop (o+i*z)).take z:=by
     intro k;induction k with
     |zero=>intro o i r h;simp[Cm] at h
     |succ k ih=>
      intro o i r h;cases i with
      |zero=>simp[Cm] at h;exact⟨De _,by simpa using h.symm⟩
      |succ i=>simp[Cm] at h;obtain⟨q1,q2⟩:=ih _ _ _ h;exact⟨by omega,by rw[q2];congr 2;rw[BC];omega⟩
    refine⟨_,ha.le,hr.world hi ha,⟨b,off,none⟩,cap,by rw[dT];exact hu,by rw[dT];exact hc,.inl rfl,ET.Gi λi r hir=>?_⟩;obtain⟨q1,rfl⟩:=hrg n off i r hir;have hiz:i*z+z<=n*z:=by have:=EA z (show i+1<=n by omega);rwa [BC,Ez] at this
    refine⟨by simp;omega,CJ.Gi λj x hj=>?_⟩;rw[Ch] at hj;split at hj;·rename_i hjz;rw[CA] at hj;obtain⟨y,hy,hxy⟩:=p2.get hj;have hlt:off+i*z+j<cs.length:=(Ae.1 hj).1;refine⟨y,?_,BH.mono ha.le _ _ hxy⟩;simp only[Gh.C5,BO,if_pos hlt];rw[C9 hlt] at hy;simpa using hy
    .cases hj
   .cases hf
  .cases hf
 .cases hf;exact⟨γ,.refl _,hr,hv⟩
theorem QA:∀{Au:List (List Aa)} {s:As},Lu Au=some s->∃ns:List Int,Au=ns.map (λn=>[.int .u8 n])/\s=ns.map λn=>UInt8.ofNat n.toNat
 |[],s,hs=>by cases hs;exact⟨[],rfl,rfl⟩
 |r::Au,s,hs=>by
  unfold Lu at hs;split at hs;·rename_i Jo;cases Jo
  .rename_i n rs Jo;cases Jo;cases hq:Lu Au with
   |none=>rw[hq] at hs;cases hs
   |some l=>rw[hq] at hs;cases hs;obtain⟨ns,rfl,rfl⟩:=QA hq;exact⟨n::ns,rfl,rfl⟩
  .cases hs
theorem UH:∀(ns:List Int) (r:ByteArray),ns.foldl (λr n=>r.push (UInt8.ofNat n.toNat)) r=⟨r.data++(ns.map λn=>UInt8.ofNat n.toNat).toArray⟩
 |[],r=>by simp
 |n::ns,r=>by rw[List.foldl_cons,UH ns];simp[ByteArray.push]
theorem fq{o:Oper}{src dst e:TypeId}{x:Operand}{v v' u:Aa}{h':Ag}(ho:o.op= .convert src dst x)(hs:C.P.underlying src=some (.slice e))(hd:C.P.underlying dst=some .string)(he:C.P.underlying e=some (.int .u8))(hx:Eu C σ x=some v)(hf:Kp h v=some (h',v'))(hp:Aw .Tc [v']=some u)
  (hr:CT C γ0 w0 γ β σ h a w):FM C γ0 w0 o a w (σ.put o.dst (.val u)) h':=by
 obtain⟨γ',DY,Fy,Du⟩:=hr.KW (FU hr hx) hf;have ME:∀s,(Conv.bytesToString (a.eval x)).run C.P w= .ok s w->(∃p l c,a.eval x= .slice p l c)->(execOp a.eval o).run C.P w= .ok (.value s) w:=λs AV ⟨p,l,c,dU⟩=>by simp only[execOp,ho];refine Dr ?_;rw[dU] at AV⊢;rw[run_convert_bytes_string w src dst e p l c hs he hd];exact AV
 simp only[Aw] at hp;unfold Ud at hp;split at hp
 .rename_i Au;cases hq:Lu Au with
  |none=>rw[hq] at hp;cases hp
  |some s=>
   rw[hq] at hp;cases hp;obtain⟨ns,rfl,rfl⟩:=QA hq;obtain⟨ad,cap,dU,hc,hsp,hR⟩:=Du;have Mb:∀(j:Nat) (v:Value),(ns.map (Value.int .u8))[j]?=some v->ad.add j=⟨ad.block,ad.off+j,none⟩:=λj v hj=>by
    have hpos:0<ns.length:=by have:=(Ae.1 hj).1;simp at this;omega
    have eP:=MJ hsp hc (by simpa using hpos);generalize ad.block=b at*;generalize ad.off=o at*;subst eP;unfold Addr.add;split<;>simp_all
   have hl:=run_loadCells_list (P:=C.P) w ad (ns.map (Value.int .u8)) (λj v hj=>by
    rw[Mb j v hj];simp only[Cc] at hj;cases hn:ns[j]? with
    |none=>rw[hn] at hj;cases hj
    |some n=>rw[hn] at hj;cases hj;obtain⟨_,hM⟩:=hR.get (i:=j) (r:=[.int .u8 n]) (by simp[hn]);obtain⟨y,hy,hyr⟩:=hM.get (i:=0) (a:= .int .u8 n) rfl;rw[show y=_ from hyr] at hy;have:=(Fy.DD.HD _ _ _ hy).1;simpa using this)
   simp only[Ah] at hl;have AV:=run_bytesToString (P:=C.P) w ad ns.length cap ns hl;have he0:ByteArray.empty.data=#[]:=rfl;rw[UH,he0,Array.empty_append] at AV;have e1:a.eval x= .slice (some ad) ns.length cap:=by rw[dU];simp
   rw[<-e1] at AV;exact FM.value (ME _ AV ⟨_,_,_,e1⟩) (Fy.put λ_ _=>rfl)
 .cases hp;have e1:a.eval x= .slice none 0 0:=Du;have AV:(Conv.bytesToString (a.eval x)).run C.P w= .ok (.string ⟨⟨[]⟩⟩) w:=by rw[e1];simp[Conv.bytesToString];rfl
  exact FM.value (ME _ AV ⟨_,_,_,e1⟩) (Fy.put λ_ _=>rfl)
 .cases hp
def vI(C:FJ)(f:FuncId):Prop:=
 (∃fn c,C.P.funcs[f]?=some fn/\(fn.name== "runtime.NumGoroutine")=false/\fn.body=some c)/\
 ∀(γ:Gh) (h:Ag) (w:World) (s:Aa) (sv:Value) (i x:Int) (h':Ag) (r:Aa) (g vcap:Nat) (us:Array Value) (e:TypeId),Gq γ h w->BH γ s sv->OB h [s,.int .i64 i,.sl 1 [[.int .i64 x]]]=some (h',r)->
  w.heap[g]?=some (.cells us e (0,0))->us[0]?=some (.int .i64 x)->(∀id,γ.own g≠some (.KY id))->1<=vcap->us.size=vcap->
  Calls C.P f #[sv,.int .i64 i,.slice (some ⟨g,0,none⟩) 1 vcap] w λe w'=>match e with
   | .returned v=>∃γ',Gq γ' h' w'/\J7 γ w γ' w'/\BH γ' r v
   |_=>False
def EF(C:FJ)(run:IT->Ag->Option Js):Prop:=
 ((∀g cs,C.Gg g=some cs->cs.all Aa.Ls=true)/\∀f,C.L1 f=true->vI C f)/\
 ∀(f:FuncId) (args:List Aa) (h:Ag) (r:Aa) (h':Ag),run (B5 C f args) h=some (.ret,[r],h')->
  (∃fn c,C.P.funcs[Ea f]?=some fn/\(fn.name== "runtime.NumGoroutine")=false/\fn.body=some c)/\
  ∀(γ:Gh) (w:World) (cargs:Array Value),Gq γ h w->(∀g cs,C.Gg g=some cs->CJ γ cs g 0)->Bb γ args cargs.toList->
   Calls C.P (Ea f) cargs w λe w'=>match e with
    | .returned v=>∃γ',Gq γ' h' w'/\J7 γ w γ' w'/\BH γ' r v/\(C.Io f=true->∃s c,HY γ' w.heap.size w' s c v r)
    |_=>False
theorem CT.yu(hr:CT C γ0 w0 γ β σ h a w){h':Ag}{r:Aa}{v:Value}(hi:Gq γ' h' w')(ha:J7 γ w γ' w')(hv:BH γ' r v){own:Bool}(ho:own=true->∃s c,HY γ' w.heap.size w' s c v r)(d:Option Nat):
  ∃γ2,CT C γ0 w0 γ2 β (σ.put d (if own then .own r else .val r)) h' (a.put d v) w':=by
 cases own with
 |false=>exact⟨γ',(hr.world hi ha).put λ_ _=>hv⟩
 |true=>
  obtain⟨s,c,hT⟩:=ho rfl;rcases hT with rfl|⟨g,n,cap,us,e,z,Au,rfl,h2,h3,h4,h5⟩
  .exact⟨γ',(hr.world hi ha).put λ_ _=>⟨hv,.inl rfl⟩⟩
  .have yl:J7 γ w (γ'.Fc g (.tail σ.length none (n*z))) w':=⟨ha.le.trans (Gw _ _ _),ha.size,ha.os,ha.tape,ha.output,λb hb hn=>by obtain⟨p,q⟩:=ha.MK b hb hn;exact⟨p,by simp only[Gh.Fc,if_neg (show b≠g by omega)];exact q⟩⟩
   have Fy:=hr.world (hi.Fc (s':=σ.length) (c':=none) h3) yl;exact Fy.Ye (BH.mono (Gw _ _ _) _ _ hv) (.inr ⟨g,n,cap,us,e,z,Au,rfl,h2,by simp[Gh.Fc],Bt hr.Dw.size h4,h5⟩) d
theorem HA{P:Program}{f:FuncId}{fn:Func}{c:Code}(hf:P.funcs[f]?=some fn)(hname:(fn.name== "runtime.NumGoroutine")=false)(hb:fn.body=some c)(args:Array Value)(w:World):
  (callFunc f args).run P w= .ok (.enter f args) w:=by
 have hn:¬fn.name= "runtime.NumGoroutine":=by simpa using hname
 simp[callFunc,hf,hn,hb]
theorem QB{o:Oper}{f:FuncId}{cargs:Array Value}{K:Act->World->Prop}{Q:Exit->Act->World->Prop}(he:(execOp a.eval o).run C.P w= .ok (.enter f cargs) w){R:Value->World->Prop}
  (hc:Calls C.P f cargs w λe w'=>match e with| .returned v=>R v w'|_=>False) (hk:∀v w',R v w'->K (a.put o.dst v) w'):o.wp C.P a w K Q:=by
 unfold Oper.wp;rw[he];refine hc.mono λe w' h=>?_;cases e with
 |returned v=>exact hk v w' h
 |_=>exact h.elim
theorem vJ{run:IT->Ag->Option Js}(hS:EF C run){o:Oper}{c:Call}{f:FuncId}{args:List Aa}{r:Aa}{h':Ag}{K:Act->World->Prop}{Q:Exit->Act->World->Prop}(ho:o.op= .call c)(hcl:c.callee= .value (.func (Ea f)))(ha:Br C σ c.args.toList=some args)
  (AV:run (B5 C f args) h=some (.ret,[r],h')) (hr:CT C γ0 w0 γ β σ h a w) (hK:∀γ' v w',CT C γ0 w0 γ' β (σ.put o.dst (if C.Io f then .own r else .val r)) h' (a.put o.dst v) w'->K (a.put o.dst v) w'):o.wp C.P a w K Q:=by
 obtain⟨⟨fn,cd,hf,hname,hb⟩,hcalls⟩:=hS.2 f args h r h' AV;have hcargs:Bb γ args (c.args.map a.eval).toList:=by simpa using Dx hr ha
 refine QB (f:=Ea f) (cargs:=c.args.map a.eval) ?_ (hcalls γ w _ hr.DD hr.Gg hcargs) λv w' ⟨γ',hi,JE,hv,E4⟩=>?_;·have h0:a.eval (.func (Ea f))= .func (.func (Ea f)) #[] #[]:=rfl;simp only[execOp,ho,resolve,hcl,Deferred.ofValue,h0,Sem.run_bind,Sem.run_pure,Result.andThen_ok,invoke];simpa using HA hf hname hb (c.args.map a.eval) w
 .obtain⟨γ2,K5⟩:=hr.yu hi JE hv E4 o.dst;exact hK γ2 v w' K5
theorem fu{run:IT->Ag->Option Js}(hS:EF C run){o:Oper}{c:Call}{f:FuncId}{s i x:Operand}{args:List Aa}{r:Aa}{h':Ag}{K:Act->World->Prop}{Q:Exit->Act->World->Prop}(ho:o.op= .call c)(hcl:c.callee= .value (.func f))(hf:C.L1 f=true)(Ej:c.args.toList=[s,i,x])(E4:J5 C σ x=true)
  (ha:Br C σ [s,i,x]=some args) (hp:OB h args=some (h',r)) (hr:CT C γ0 w0 γ β σ h a w) (hK:∀γ' v w',CT C γ0 w0 γ' β (σ.put o.dst (.val r)) h' (a.put o.dst v) w'->K (a.put o.dst v) w'):o.wp C.P a w K Q:=by
 obtain⟨⟨fn,cd,hfn,hname,hb⟩,fw⟩:=hS.1.2 f hf;have qP:=Dx hr ha;obtain⟨u1,us1,f1,g1,f2⟩:∃u1 us1,[a.eval s,a.eval i,a.eval x]=u1::us1/\BH γ (args.getD 0 .nilIface) u1/\True:=by
  cases args with
  |nil=>cases qP
  |cons y l=>obtain⟨u,us,e,p,q⟩:=qP;exact⟨u,us,e,p,trivial⟩
 obtain⟨s',i',x',he,k,xx,hx'⟩:∃s' i' x',args=[s',.int .i64 i',.sl 1 [[.int .i64 x']]]/\∃(k:BH γ s' (a.eval s)) (xx:a.eval i= .int .i64 i'),BH γ (.sl 1 [[.int .i64 x']]) (a.eval x):=by
  unfold OB at hp;split at hp;·obtain⟨_,_,_,e,p1,p2,p3⟩:=qP.SC;simp only[Bm,DR,Hu,NF] at e;obtain⟨rfl,rfl,rfl⟩:=e;exact⟨_,_,_,rfl,p1,p2,p3⟩
  .obtain⟨_,_,_,e,p1,p2,p3⟩:=qP.SC;simp only[Bm,DR,Hu,NF] at e;obtain⟨rfl,rfl,rfl⟩:=e;exact⟨_,_,_,rfl,p1,p2,p3⟩
  .cases hp
 subst he;have fA:Eu C σ x=some (.sl 1 [[.int .i64 x']]):=by simp only[Br] at ha;cases h1:Eu C σ s<;>cases h2:Eu C σ i<;>cases h3:Eu C σ x<;>simp_all
 obtain⟨sl,dU⟩:∃sl,DL C σ x=some sl:=by
  unfold J5 at E4;cases hs:DL C σ x with
  |none=>rw[hs] at E4;cases E4
  |some sl=>exact⟨sl,rfl⟩
 have aJg:∃v,sl= .own v:=by unfold J5 at E4;rw[dU] at E4;cases sl<;>first|exact⟨_,rfl⟩|cases E4
 obtain⟨v,rfl⟩:=aJg;obtain⟨s0,hrel,_⟩:=Fz hr dU;have aJh:v= .sl 1 [[.int .i64 x']]:=by simp only[Eu,dU,Ct,D9.Gt,BF] at fA;exact fA
 subst aJh;obtain⟨kR,hT⟩:=hrel;rcases hT with hT|⟨g,n,cap,us,e,z,Au,h1,h2,h3,h4,h5,h6,h7,h8,h9⟩
 .cases hT
 .cases h1;obtain⟨ad,cap2,e1,e2,e3,e4⟩:=hx';rw[h2] at e1;cases e1;obtain⟨_,hm,_⟩:=e4;obtain⟨⟨u,hu,hru⟩,_⟩:=hm;obtain⟨IU,_,_⟩:=hr.DD.HD _ _ _ hu;have RG:us[0]?=some (.int .i64 x'):=by rw[cell_of_row w _ _ us e (0,0) h5] at IU;rw[IU];exact Cf some hru
  have hcargs:c.args.map a.eval=#[a.eval s,.int .i64 i',.slice (some ⟨g,0,none⟩) 1 cap]:=by apply Jm;simp only[tM,Ej,Bm,DR,xx,h2];rfl
  have Wy:=fw γ h w s' _ i' x' h' r g cap us e hr.DD k hp h5 RG (λid Ha=>by rw[h3] at Ha;cases Ha) h7 (by rw[h6,I8]);rw[<-hcargs] at Wy;refine QB (f:=f) (cargs:=c.args.map a.eval) ?_ Wy λv w' ⟨γ',hi,JE,hv⟩=>?_;·have h0:a.eval (.func f)= .func (.func f) #[] #[]:=rfl;simp only[execOp,ho,resolve,hcl,Deferred.ofValue,h0,Sem.run_bind,Sem.run_pure,Result.andThen_ok,invoke];simpa using HA hfn hname hb (c.args.map a.eval) w
  .obtain⟨γ2,K5⟩:=hr.yu (own:=false) hi JE hv (λe=>by cases e) o.dst;exact hK γ2 v w' (by simpa using K5)
def Gh.apart(γ:Gh):Gh:={HD:=γ.HD,mu:=λ_=>none,own:=λb=>match γ.own b with|some (.KY _)=>none|x=>x,sz:=γ.sz}
theorem Gq.apart(hi:Gq γ h w):Gq γ.apart [] w:=by
 refine⟨λb o v hb=>?_,λid x hx=>by simp at hx,λid cs hx=>by simp at hx,λid es hx=>by simp at hx,λid b hb=>(by cases hb),λb x hx=>?_,λb n hb=>?_⟩;rotate_left 2;·obtain⟨p,r⟩:=hi.sz b n hb;refine⟨p,.inl ?_⟩;simp only[Gh.apart];rcases r with r|⟨_,r⟩<;>rw[r]
 .obtain⟨p,q,r⟩:=hi.HD b o v hb;refine⟨p,q,?_⟩;simp only[Gh.apart];rcases r with r|⟨s,c,st,r,hl⟩
  .exact .inl (by rw[r])
  .exact .inr ⟨s,c,st,by rw[r],hl⟩
 .simp only[Gh.apart] at hx;split at hx;·cases hx
  .exact hi.own b x hx
theorem CT.fx(hr:CT C γ0 w0 γ β σ h a w){γ1:Gh}{h1:Ag}(hi:Gq γ1 h1 w')(ha:J7 γ.apart w γ1 w'):∃γ2,CT C γ0 w0 γ2 β σ h a w':=by
 have Wh:∀b id,γ.apart.own b≠some (.KY id):=λb id e=>by
  simp only[Gh.apart] at e;split at e;·cases e
  .rename_i hn;exact hn id e
 have L8:∀b,b<w.heap.size->w'.heap[b]?=w.heap[b]?:=λb hb=>(ha.MK b hb (Wh b)).1;refine⟨γ,hr.world ⟨λb o v hb=>?_,hr.DD.KY,λid cs hc b hb=>?_,λid es hc b hb=>?_,hr.DD.mu,λb x hx=>Zz (hr.DD.own b x hx) ha.size,λb n hb=>(by
   obtain⟨⟨us,e,fr,p,q⟩,r⟩:=hr.DD.sz b n hb;exact⟨⟨us,e,fr,by rw[L8 b (A4.1 p).1];exact p,q⟩,r⟩)⟩
  ⟨.refl _,ha.size,ha.os,ha.tape,ha.output,λb hb _=>⟨L8 b hb,rfl⟩⟩⟩
 .obtain⟨p,q,r⟩:=hr.DD.HD b o v hb;exact⟨by rw[Cw (L8 b (Dp p))];exact p,q,r⟩
 .obtain⟨us,e,fr,p,q⟩:=hr.DD.cells id cs hc b hb;exact⟨us,e,fr,by rw[L8 b (A4.1 p).1];exact p,q⟩
 .obtain⟨Dj,clock,p,q⟩:=hr.DD.map id es hc b hb;exact⟨Dj,clock,by rw[L8 b (A4.1 p).1];exact p,q⟩
theorem UI{γ γ':Gh}{x:Aa}{v:Value}(hf:x.Ls=true)(hv:BH γ x v):BH γ' x v:=by cases x<;>first|exact hv|cases hf
theorem Xh{γ γ':Gh}:∀{l:List Aa} {us:List Value},l.all Aa.Ls=true->Bb γ l us->Bb γ' l us
 |[],us,_,h=>h
 |x::l,us,hf,h=>by obtain⟨u,Dm,e,h1,h2⟩:=h;simp only[List.all_cons,BK] at hf;exact⟨u,Dm,e,UI hf.1 h1,Xh hf.2 h2⟩
theorem CJ.apart{γ:Gh}:∀{l:List Aa} {b o:Nat},CJ γ l b o->l.all Aa.Ls=true->CJ γ.apart l b o
 |[],_,_,_,_=>trivial
 |x::l,b,o,h,hf=>by obtain⟨⟨u,h1,h2⟩,h3⟩:=h;simp only[List.all_cons,BK] at hf;exact⟨⟨u,h1,UI hf.1 h2⟩,h3.apart hf.2⟩
theorem qQ{run:IT->Ag->Option Js}(hS:EF C run){o:Oper}{c:Call}{f:FuncId}{args:List Aa}{r:Aa}{h1:Ag}{K:Act->World->Prop}{Q:Exit->Act->World->Prop}(ho:o.op= .call c)(hcl:c.callee= .value (.func (Ea f)))(ha:Br C σ c.args.toList=some args)
  (hfa:args.all Aa.Ls=true) (AV:run (B5 C f args) []=some (.ret,[r],h1)) (kN:r.Ls=true) (hr:CT C γ0 w0 γ β σ h a w) (hK:∀γ' v w',CT C γ0 w0 γ' β (σ.put o.dst (.val r)) h (a.put o.dst v) w'->K (a.put o.dst v) w'):o.wp C.P a w K Q:=by
 obtain⟨⟨fn,cd,hf,hname,hb⟩,hcalls⟩:=hS.2 f args [] r h1 AV;have hcargs:Bb γ.apart args (c.args.map a.eval).toList:=Xh hfa (by simpa using Dx hr ha);refine QB (f:=Ea f) (cargs:=c.args.map a.eval) ?_ (hcalls γ.apart w _ hr.DD.apart (λg cs hg=>(hr.Gg g cs hg).apart (hS.1.1 g cs hg)) hcargs) λv w' ⟨γ',hi,JE,hv,_⟩=>?_;·have h0:a.eval (.func (Ea f))= .func (.func (Ea f)) #[] #[]:=rfl;simp only[execOp,ho,resolve,hcl,Deferred.ofValue,h0,Sem.run_bind,Sem.run_pure,Result.andThen_ok,invoke];simpa using HA hf hname hb (c.args.map a.eval) w
 .obtain⟨γ2,K5⟩:=hr.fx hi JE;exact hK γ2 v w' (K5.put λ_ _=>UI kN hv)
theorem qR{run:IT->Ag->Option Js}(hS:EF C run){o:Oper}{c:Call}{g:Operand}{gv:Aa}{f:FuncId}{args args':List Aa}{r:Aa}{h':Ag}{K:Act->World->Prop}{Q:Exit->Act->World->Prop}(ho:o.op= .call c)(hcl:c.callee= .value g)(hg:Eu C σ g=some gv)
  (ha:Br C σ c.args.toList=some args) (ht:Dt gv args=some (f,args')) (AV:run (B5 C f args') h=some (.ret,[r],h')) (hr:CT C γ0 w0 γ β σ h a w) (hK:∀γ' v w',CT C γ0 w0 γ' β (σ.put o.dst (.val r)) h' (a.put o.dst v) w'->K (a.put o.dst v) w'):o.wp C.P a w K Q:=by
 obtain⟨⟨fn,cd,hf,hname,hb⟩,hcalls⟩:=hS.2 f args' h r h' AV;have hgv:=FU hr hg;unfold Dt at ht;split at ht
 .rename_i f0 first captured
  split at ht;rotate_left;·cases ht
  rename_i dV;cases ht;rw[show Ea f=f from if_pos dV] at hf hcalls;obtain⟨fs,cs,DT,h1,h2⟩:=hgv;have hcargs:Bb γ (first++args++captured) (fs++c.args.map a.eval++cs).toList:=by simpa using(h1.append (Dx hr ha)).append h2
  refine QB (f:=f) (cargs:=fs++c.args.map a.eval++cs) ?_ (hcalls γ w _ hr.DD hr.Gg hcargs) λv w' ⟨γ',hi,JE,hv,E4⟩=>?_;·simp only[execOp,ho,resolve,hcl,Deferred.ofValue,DT,Sem.run_bind,Sem.run_pure,Result.andThen_ok,invoke];exact HA hf hname hb _ w
  .obtain⟨γ2,K5⟩:=hr.yu (own:=false) hi JE hv (λe=>by cases e) o.dst;exact hK γ2 v w' (by simpa using K5)
 .cases ht
end
end Go.Am
end
