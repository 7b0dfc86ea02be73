/- Lemmas -/
import Derived.Test.YtbnogamdhadfcaaGreatDoorU4
import Derived.Deep.AppendSrc
import Derived.Great.BuildSlice
import Derived.Laws.IdiomStrings
set_option linter.unusedVariables false
set_option linter.unusedSimpArgs false
section
namespace Go.Am
open Go
section
variable{C:FI}{γ0 γ γ':Gh}{w0 w w':World}{β:Nat->Nat}{σ:BD}{h:Ae}{a:Act}{fid:FuncId}{ops:List Oper}
theorem Dq{P:Program}{s:Sem Value}{v:Value}(hs:s.run P w= .ok v w'):(do pure (Next.value (<-s)):Sem Next).run P w= .ok (.value v) w':=by simp[hs]
theorem SB{α:Type}{z:Nat}:∀{Au:List (List α)},(∀r∈Au,r.length=z)->∀{i:Nat} {r:List α},Au[i]?=some r->∀{j:Nat} {x:α},r[j]?=some x->Au.flatten[i*z+j]?=some x
 |[],_,i,r,hi,_,_,_=>by simp at hi
 |q::Au,hl,0,r,hi,j,x,hj=>by simp at hi;subst hi;have:j<q.length:=(Ah.1 hj).1;simp only[cz,BJ,Db];rw[Ad this];exact hj
 |q::Au,hl,i+1,r,hi,j,x,hj=>by
  simp at hi;have hq:q.length=z:=hl q (by simp);rw[Db,Bg (by rw[hq,BA];omega)];have:=SB (Au:=Au) (λr hr=>hl r (by simp[hr])) hi hj;rw[<-this];congr 1
  rw[hq,BA];omega
theorem Gy{α:Type}{z:Nat}:∀{Au:List (List α)},(∀r∈Au,r.length=z)->Au.flatten.length=Au.length*z
 |[],_=>by simp
 |q::Au,hl=>by have hq:q.length=z:=hl q (by simp);simp[hq,Gy (Au:=Au) (λr hr=>hl r (by simp[hr])),BA,Nat.add_comm]
theorem MP{Au:List (List Aa)}{us:List Value}{z b o:Nat}(hl:∀r∈Au,r.length=z)(hv:A8 γ Au.flatten us)(hi:∀(j:Nat) (u:Value),us[j]?=some u->γ.HA b (o+j)=some u):ER γ Au z b o:=by refine ER.Gk λi r hr=>⟨hl r (CD hr),CI.Gk λj x hj=>?_⟩;obtain⟨u,hu,hx⟩:=hv.get (SB hl hr hj);exact⟨u,by rw[Nat.add_assoc];exact hi _ _ hu,hx⟩
theorem CS.drew(hr:CS C γ0 w0 γ β σ h a w):CS C γ0 w0 γ β σ h a w.drew:=hr.world (hr.DD.same rfl) (J1.drew γ w)
theorem BD.RG(σ:BD):σ.at σ.length= .undef:=by simp[BD.at,List.getD]
theorem CS.Yc(hr:CS C γ0 w0 γ β σ h a w){x:Aa}{v:Value}(hv:BF γ x v)(ho:HU γ w0.heap.size w σ.length none v x)(d:Option Nat):∃γ',CS C γ0 w0 γ' β (σ.put d (.own x)) h (a.put d v) w:=by
 cases d with
 |none=>exact⟨γ,hr⟩
 |some d=>
  rcases ho with ho|⟨g,n,cap,us,e,z,Au,h1,h2,h3,h4,h5⟩
  .exact⟨γ,hr.put λs _=>⟨hv,.inl ho⟩⟩
  .have Jq:=hr.Fb (s':=d) (c':=none) h3 h4 (λ_ u=>by rw[BD.RG];simp) (λo ho=>by cases ho);exact⟨_,Jq.put λs hs=>by cases hs;exact⟨BF.mono (Gw _ _ _) _ _ hv,.inr ⟨g,n,cap,us,e,z,Au,h1,h2,by simp[Gh.Fb],h4,h5⟩⟩⟩
theorem CS.Z8(hr:CS C γ0 w0 γ β σ h a w)(us:Array Value)(e:TypeId){z n cap:Nat}{Au:List (List Aa)}(hz:0<z)(hn:Au.length=n)(hl:∀r∈Au,r.length=z)(WW:us.size=cap*z)(hc:n<=cap)(hm:cap<=maxLen)
  (hv:A8 γ Au.flatten (us.toList.take (n*z))) (h1:∀u∈us.toList.take (n*z),u.oneCell'=true):
  ∃γ',γ.le γ'/\CS C γ0 w0 γ' β σ h a (w.alloc (.cells us e))/\BF γ' (.sl z Au) (.slice (some ⟨w.heap.size,0,none⟩) n cap)/\HU γ' w0.heap.size (w.alloc (.cells us e)) σ.length none (.slice (some ⟨w.heap.size,0,none⟩) n cap) (.sl z Au):=by
 obtain⟨hi,ha⟩:=NM hr.DD us e (0,0) (n*z) (some (.tail σ.length none (n*z))) (λo u ho hu=>h1 u (CD (i:=o) (by rw[C9 ho];simpa using hu))) (.inr (.inl ⟨_,_,rfl⟩));refine⟨_,ha.le,hr.world hi ha,⟨⟨w.heap.size,0,none⟩,cap,by rw[hn],by omega,.inl rfl,MP hl (A8.mono ha.le _ _ hv) λj u hj=>?_⟩,.inr ⟨w.heap.size,n,cap,us,e,z,Au,rfl,rfl,by simp[Gh.C6],hr.Dw.size,heap_alloc_new w _,WW,hc,hm,hz⟩⟩;rw[Cg] at hj;split at hj;·rename_i hlt;simp only[Gh.C6,BN,BJ,if_pos hlt];simpa using hj
 .cases hj
theorem UD{size:Nat}:∀(vs:List Value) (k:Nat) (cells:Array Value),(∀v∈vs,v.cells.size=size)->(k+vs.length)*size<=cells.size->
  Instr.fill (λi=>some (i*size,size)) cells ((vs.zipIdx k).map λp=>(p.2,p.1))=some (cells.toList.take (k*size)++vs.flatMap (·.cells.toList)++cells.toList.drop ((k+vs.length)*size)).toArray
 |[],k,cells,_,_=>by simp[Instr.fill]
 |v::vs,k,cells,hv,hl=>by
  have hs:v.cells.size=size:=hv v (by simp);simp only[Bc] at hl;have DW:(k+1)*size+vs.length*size<=cells.size:=by rw[<-BA];exact Bt (WS (by congr 1;omega)) hl
  have Uv:(k+1)*size=k*size+size:=by rw[BA,Ey]
  simp only[List.zipIdx_cons,Bl,Instr.fill];have c1:¬(v.cells.size≠size\/k*size+v.cells.size>cells.size):=by rw[hs];omega
  simp only[ne_eq,decide_not,Bool.or_eq_true,DI,Bool.not_eq_true',decide_eq_false_iff_not] at*;rw[if_neg c1];have hf:=MM v.cells.toList (k*size) 0 cells (by simp[hs];omega);have aJi:v.cells.zipIdx.foldl (λcs (c,j)=>cs.setIfInBounds (k*size+j) c) cells=(cells.toList.take (k*size)++v.cells.toList++cells.toList.drop (k*size+size)).toArray:=by rw[<-Array.foldl_toList,Array.toList_zipIdx];rw[hf];simp[hs]
  rw[aJi];have hlen:(cells.toList.take (k*size)++v.cells.toList++cells.toList.drop (k*size+size)).length=cells.size:=by simp[hs];omega
  rw[UD vs (k+1) _ (λu hu=>hv u (by simp[hu])) (by simp only[B6];rw[hlen,BA];exact DW)]
  congr 2
  have e1:(cells.toList.take (k*size)++v.cells.toList).length=(k+1)*size:=by simp[hs];omega
  have e2:(cells.toList.take (k*size)++v.cells.toList++cells.toList.drop (k*size+size)).take ((k+1)*size)=cells.toList.take (k*size)++v.cells.toList:=by rw[<-e1];exact GW
  have e3:(cells.toList.take (k*size)++v.cells.toList++cells.toList.drop (k*size+size)).drop ((k+1+vs.length)*size)=cells.toList.drop ((k+(vs.length+1))*size):=by
   rw[List.drop_append,A3 (by rw[e1];exact Ez _ (by omega)),e1,E7,BH];congr 1
   have:(k+1+vs.length)*size-(k+1)*size=vs.length*size:=by rw[BA (k+1)];omega
   rw[this,BA k,BA vs.length];omega
  rw[e2,e3];simp
theorem Lv{P:Program}{t:TypeId}(h:LP P t=true):∃i z,P.info? t=some i/\i.zero=some z/\z.cells.size=i.size:=by
 unfold LP at h;split at h
 .rename_i i hi;split at h;·rename_i z hz;exact⟨i,z,hi,hz,by simpa using h⟩
  .cases h
 .cases h
theorem IQ{P:Program}{t:TypeId}{n:Nat}{i:TypeInfo}(h:BP P t=some n)(hi:P.info? t=some i):i.size=n:=by simpa[BP,hi] using h
theorem KD{P:Program}{t:TypeId}{n:Nat}{i:TypeInfo}(h:I5 P t=some n)(hi:P.info? t=some i):i.bytes=n:=by simpa[I5,hi] using h
theorem UE:∀{args:List Aa} {us:List Value} {z:Nat},A8 γ args us->(∀x∈args,x.cells.length=z)->0<z->A8 γ (args.map (·.cells)).flatten (us.flatMap (·.cells.toList))/\(∀u∈us.flatMap (·.cells.toList),u.oneCell'=true)/\∀u∈us,u.cells.size=z
 |[],us,z,h,_,_=>by rw[A8] at h;subst h;exact⟨rfl,by simp,by simp⟩
 |x::args,us,z,h,hl,hz=>by
  obtain⟨u,Dk,rfl,h1,h2⟩:=h;have hx:=hl x (by simp);obtain⟨q1,q2⟩:=Gx h1 (by omega);obtain⟨r1,r2,r3⟩:=UE h2 (λy hy=>hl y (by simp[hy])) hz;refine⟨by simpa using q1.append r1,λv hv=>?_,λv hv=>?_⟩;·simp only[eB,Ao] at hv;exact hv.elim (q2 v) (r2 v)
  .rcases AM.1 hv with rfl|hv
   .have:=q1.length;simp at this;omega
   .exact r3 v hv
theorem Xd{a:Act}:∀{l:List (Nat×Operand)} {k:Nat},l.map (·.1)=List.range' k l.length->l.map (λp=>(p.1,a.eval p.2))=((l.map λp=>a.eval p.2).zipIdx k).map λp=>(p.2,p.1)
 |[],k,_=>by simp
 |(i,x)::l,k,h=>by simp only[Bl,Bc,List.range'_succ,Hr] at h;obtain⟨rfl,h⟩:=h;simp[List.zipIdx_cons,Xd h]
theorem vA{o:Oper}{t e:TypeId}{len n:Nat}{parts:Array (Nat×Operand)}{args:List Aa}{u:Aa}(ho:o.op= .buildSlice t len parts)(ht:C.P.underlying t=some (.slice e))(hsz:BP C.P e=some (n+1))(hp:parts.toList.map (·.1)=List.range len)(dU:LP C.P e=true)
  (ha:Bq C σ (parts.toList.map (·.2))=some args) (hu:Aw (.By (n+1)) args=some u) (hr:CS C γ0 w0 γ β σ h a w):FM C γ0 w0 o a w (σ.put o.dst (.own u)) h:=by
 obtain⟨i,z,hi,hz,ZF⟩:=Lv dU;have O0:=IQ hsz hi;simp only[Aw] at hu;split at hu
 .rename_i hc;cases hu;simp only[BK,EJ,beq_iff_eq,DI] at hc;obtain⟨Ql,HV⟩:=hc;have Ee:=Dx hr ha;have hlen:parts.toList.length=len:=by have:=Ce List.length hp;simpa using this
  have hal:args.length=len:=by have:=Ee.length;simp at this;simp at hlen;omega
  obtain⟨q1,q2,q3⟩:=UE Ee Ql (Dd n);have Xe:=q1.length;rw[Gy (z:=n+1) (by intro r hr;obtain⟨x,hx,rfl⟩:=Bk.1 hr;exact Ql x hx),Ai,hal] at Xe;have AU:∃cells:Array Value,cells.toList=(parts.toList.map (·.2) |>.map a.eval).flatMap (·.cells.toList)/\(Instr.buildSlice t len (parts.map λ(i,x)=>(i,a.eval x))).run C.P w= .ok (.slice (some ⟨w.heap.size,0,none⟩) len len) (w.alloc (.cells cells e)):=by
   have ZD:(parts.map λ(i,x)=>(i,a.eval x)).toList=(((parts.toList.map (·.2)).map a.eval).zipIdx 0).map λp=>(p.2,p.1):=by have:=Xd (a:=a) (l:=parts.toList) (k:=0) (by rw[hlen,<-List.range_eq_range'];exact hp);simp only[tL,List.map_map];exact this
   have kP:=UD (size:=n+1) ((parts.toList.map (·.2)).map a.eval) 0 ((Array.range (len*(n+1))).map (z.cells[·%z.cells.size]!)) q3 (by simp at hlen⊢;rw[hlen];exact Ac _);rw[<-ZD] at kP;have e0:((Array.range (len*(n+1))).map (z.cells[·%z.cells.size]!)).toList.drop ((0+((parts.toList.map (·.2)).map a.eval).length)*(n+1))=[]:=by apply A3;simp at hlen⊢;rw[hlen];exact Ac _
   rw[e0] at kP;simp only[cz,L0,BH,BB] at kP;refine⟨_,rfl,?_⟩;by_cases h0:len*(n+1)=0
   .have hl0:len=0:=by
     rcases Nat.mul_eq_zero.1 h0 with h|h
     .exact h
     .omega
    subst hl0;have hp0:parts=#[]:=by apply Sp;simpa using hlen
    subst hp0;have hrz:(Array.range 0:Array Nat)=#[]:=rfl;simp[Instr.buildSlice,run_underlying ht,sizeOf,typeInfo,hi,newRow,Instr.fill,hrz]
   .exact run_buildSlice w t e len _ _ i z ht hi hz (by rw[O0];rw[hal] at HV;omega) (by rw[O0];exact h0) (by rw[O0];exact kP)
  obtain⟨cells,hcells,AU⟩:=AU;have hcs:cells.size=len*(n+1):=by rw[<-Ch,hcells];exact Xe
  obtain⟨γ',DW,Fy,Du,E2⟩:=hr.Z8 cells e (z:=n+1) (n:=len) (cap:=len) (Au:=args.map (·.cells)) (Dd n) (by simp[hal]) (by intro r hr;obtain⟨x,hx,rfl⟩:=Bk.1 hr;exact Ql x hx) hcs (Ac _)
   (by rw[hal] at HV;have:len<=len*(n+1):=OW _ (Dd n);simp only[maxLen];omega) (by rw[hcells,Ay (by rw[Xe];exact Ac _)];exact q1) (by rw[hcells,Ay (by rw[Xe];exact Ac _)];exact q2)
  obtain⟨γ2,K0⟩:=Fy.Yc Du E2 o.dst;exact FM.value (by simp only[execOp,ho];exact Dq AU) K0
 .cases hu
theorem kT{t':TypeId}{size bytes:Nat}{v u r:Aa}{xv:Value}(FJ:(∃e',C.P.underlying t'=some (.slice e'))\/C.P.underlying t'=some .string)(hi:Gs γ h w)(hu:BF γ u xv)(hp:HE size bytes v u=some r):
  ∃(Au:List (List Aa)) (news:List Value),DN size bytes v Au=some r/\Src C.P size t' xv Au.length news w/\A8 γ Au.flatten news/\(∀r∈Au,r.length=size):=by
 unfold HE at hp;split at hp;·rw[show xv=_ from hu];exact⟨[],[],hp,⟨FJ,λ_=>rfl,run_firstCells_none w size 0 0 0,run_firstCells_none w.drew size 0 0 0,by simp,by simp⟩,rfl,by simp⟩
 .rename_i z Au;split at hp
  .rename_i hz;subst hz;obtain⟨ad,cap,hxv,NT,hsp,hR⟩:=hu;obtain⟨us,p1,p2,p3⟩:=hR.values;have Mb:∀(j:Nat) (x:Value),us[j]?=some x->ad.add j=⟨ad.block,ad.off+j,none⟩:=λj x hj=>by
    have hpos:0<Au.length:=by
     rcases Ou Au.length with h0|h0
     .have:us.length=0:=by rw[p2,h0,cz]
      rw[EW this] at hj;simp at hj
     .exact h0
    have eR:=MG hsp NT hpos;generalize ad.block=b at*;generalize ad.off=o at*;subst eR;unfold Addr.add;split<;>simp_all
   rw[hxv];refine⟨Au,us,hp,⟨FJ,λ_=>rfl,run_firstCells_some w _ _ _ _ _ us p2 (λj x hj=>by rw[Mb j x hj];exact(hi.HA _ _ _ (p3 j x hj)).1),run_firstCells_some w.drew _ _ _ _ _ us p2 (λj x hj=>by rw[Mb j x hj];exact(hi.HA _ _ _ (p3 j x hj)).1),p2,λx hx=>?_⟩,p1,λr hr=>?_⟩;·obtain⟨j,hj⟩:=CT hx;exact(hi.HA _ _ _ (p3 j x hj)).2.1
   .obtain⟨j,hj⟩:=CT hr;exact(hR.get hj).1
  .cases hp
 .rename_i s;split at hp
  .rename_i hz;subst hz;rw[show xv=_ from hu];have hlen:(BZ s).length=(⟨⟨s⟩⟩:ByteArray).size:=by simp[BZ,ByteArray.size]
   have hrel:∀l:List UInt8,A8 γ (BZ l).flatten (l.map λb=>Value.int .u8 b.toNat):=by
    intro l;induction l with
    |nil=>rfl
    |cons b l ih=>exact⟨_,_,rfl,rfl,ih⟩
   refine⟨BZ s,byteCells ⟨⟨s⟩⟩,hp,?_,?_,λr hr=>?_⟩;·rw[hlen];exact⟨FJ,λ_=>rfl,firstCells_string _ w,firstCells_string _ w.drew,by rw[byteCells_length,Kk],λu hu=>by obtain⟨_,_,rfl⟩:=Bk.1 hu;rfl⟩
   .simpa[byteCells] using hrel s
   .obtain⟨b,_,rfl⟩:=Bk.1 hr;rfl
  .cases hp
 .cases hp
theorem CS.vB(hr:CS C γ0 w0 γ β σ h a w){g n cap z:Nat}{us:Array Value}{e:TypeId}{rr Au:List (List Aa)}{news:List Value}(E2:γ.own g=some (.tail σ.length none (n*z)))(hB:w0.heap.size<=g)(hg:w.heap[g]?=some (.cells us e (0,0)))
  (WW:us.size=cap*z) (hm:cap<=maxLen) (hz:0<z) (hv:BF γ (.sl z rr) (.slice (some ⟨g,0,none⟩) n cap)) (hl:∀r∈Au,r.length=z) (hn:A8 γ Au.flatten news) (h1:∀u∈news,u.oneCell'=true) (hroom:n+Au.length<=cap):
  ∃γ',γ.le γ'/\CS C γ0 w0 γ' β σ h a (w.setRow g (us.toList.take (n*z)++news++us.toList.drop (n*z+news.length)).toArray)/\BF γ' (.sl z (rr++Au)) (.slice (some ⟨g,0,none⟩) (n+Au.length) cap)/\
   HU γ' w0.heap.size (w.setRow g (us.toList.take (n*z)++news++us.toList.drop (n*z+news.length)).toArray) σ.length none (.slice (some ⟨g,0,none⟩) (n+Au.length) cap) (.sl z (rr++Au)):=by
 obtain⟨ad,cap',fB,NT,_,hR⟩:=hv;simp only[Value.slice.injEq,BC] at fB;obtain⟨rfl,rfl,rfl⟩:=fB;simp only at hR;have Nt:news.length=Au.length*z:=by rw[hn.length,Gy hl]
 have hfit:(rr.length+Au.length)*z<=us.size:=by rw[WW];exact Ez _ hroom
 rw[BA] at hfit;have yt:(us.toList.take (rr.length*z)).length=rr.length*z:=by simp;omega
 obtain⟨vs,q1,q2,q3⟩:=hR.values;have hvs:vs=us.toList.take (rr.length*z):=by
  apply List.ext_getElem?;intro j;by_cases hj:j<rr.length*z
  .have hjv:j<vs.length:=by rw[q2];exact hj
   have hc:=(hr.DD.HA _ _ _ (q3 j _ (Af hjv))).1;rw[cell_of_row w _ _ us e (0,0) hg,BJ] at hc;rw[Af hjv,C9 hj];simpa using hc.symm
  .rw[E1 (by omega),E1 (by rw[yt];omega)]
 rw[hvs] at q1;have Nu:∀u∈us.toList.take (rr.length*z),u.oneCell'=true:=λu hu=>by rw[<-hvs] at hu;obtain⟨j,hj⟩:=CT hu;exact(hr.DD.HA _ _ _ (q3 j u hj)).2.1
 have hkk:(rr.length+Au.length)*z=rr.length*z+Au.length*z:=BA _ _ _;have tz:((us.toList.take (rr.length*z)++news++us.toList.drop (rr.length*z+news.length)).toArray).toList.take ((rr.length+Au.length)*z)=us.toList.take (rr.length*z)++news:=by
  have:(us.toList.take (rr.length*z)++news).length=(rr.length+Au.length)*z:=by rw[Aq,yt,Nt,hkk]
  rw[<-this];exact GW
 have hsz:(us.toList.take (rr.length*z)++news++us.toList.drop (rr.length*z+news.length)).length=us.size:=by simp[Nt];omega
 generalize hU:(us.toList.take (rr.length*z)++news++us.toList.drop (rr.length*z+news.length)).toArray=Dk at*;have aJk:Dk.size=us.size:=by rw[<-hU];simpa using hsz
 obtain⟨hi,DW⟩:=eK hr.DD E2 hg Dk ((rr.length+Au.length)*z) σ.length none (λo ho=>by
   rw[<-hU,AB,List.getElem?_toArray,Ad (by omega),C9 ho];simp)
  (by omega) (λo u ho hu=>by
   have:u∈Dk.toList.take ((rr.length+Au.length)*z):=by refine CD (i:=o) ?_;rw[C9 ho];simpa using hu
   rw[tz,Ao] at this;exact this.elim (Nu u) (h1 u)) (λo v hv=>by
   have:=(hr.DD.HA _ _ _ hv).1;rwa [cell_of_row w _ _ us e (0,0) hg] at this)
 have hk:OA g γ w (γ.C6 g Dk ((rr.length+Au.length)*z) (some (.tail σ.length none ((rr.length+Au.length)*z)))) (w.setRow g Dk):=
  ⟨DW,λb x hb hx _=>⟨by simp only[Gh.C6,if_neg hb];exact hx,setRow_other w g b Dk hb⟩⟩
 have hR':ER (γ.C6 g Dk ((rr.length+Au.length)*z) (some (.tail σ.length none ((rr.length+Au.length)*z)))) (rr++Au) z g 0:=by
  refine MP (us:=Dk.toList.take ((rr.length+Au.length)*z)) (λr hr=>?_) ?_ (λj u hj=>?_)
  .rcases Ao.1 hr with hr|hr
   .obtain⟨i,hi⟩:=CT hr;exact(hR.get hi).1
   .exact hl r hr
  .rw[tz,Wm];exact(A8.mono DW _ _ q1).append (A8.mono DW _ _ hn)
  .rw[Cg] at hj;split at hj;·rename_i hlt;simp only[Gh.C6,BN,BJ,if_pos hlt];simpa using hj
   .cases hj
 refine⟨_,DW,⟨hi,⟨hr.fr.size,λs=>?_⟩,hr.Dw.write (g:=g) hB DW (by simp) rfl rfl rfl (λb hb=>⟨setRow_other w g b Dk hb,by simp only[Gh.C6,if_neg hb]⟩),hr.defers,λx cs hx=>CI.mono DW _ _ _ (hr.Gj x cs hx)⟩,
  ⟨⟨g,0,none⟩,cap,by simp,by simpa using hroom,.inl rfl,hR'⟩,.inr ⟨g,rr.length+Au.length,cap,Dk,e,z,rr++Au,rfl,rfl,by simp[Gh.C6],hB,setRow_heap w g us Dk e (0,0) hg,by rw[aJk,WW],hroom,hm,hz⟩⟩
 by_cases hs:s=σ.length;·subst hs;rw[BD.RG];trivial
 .exact(hr.fr.Hv s).keptBut E2 hk (by simp only[Jp.eF];intro hx;cases hx;exact hs rfl)
theorem MQ{t t' ty:TypeId}{ts:Array TypeId}{xs:Array Value}(h0:ts[0]?=some t)(h1:ts[1]?=some t'):Builtin.append_ ts ty xs=Builtin.append_ #[t,t'] ty xs:=by simp only[Builtin.append_,h0,h1];rfl
theorem A8.e_{l:List Aa}{us:List Value}{n:Nat}(h:A8 γ l us)(hn:us.length<=n):A8 γ l (us.take n):=by rw[Ay hn];exact h
theorem Mc{cs:List Aa}{z:Nat}:∀{n off:Nat},(Ck cs z off n).flatten=(cs.drop off).take (n*z)
 |0,off=>by simp[Ck]
 |n+1,off=>by rw[Ck,Db,Mc,BA,Ey,Nat.add_comm (n*z) z,List.take_add,E7]
theorem Nj{cs:List Aa}{z:Nat}:∀{n off:Nat},(Ck cs z off n).length=n
 |0,off=>rfl
 |n+1,off=>by rw[Ck,Bc,Nj]
theorem Pb{cs:List Aa}{z:Nat}:∀{n off:Nat},off+n*z<=cs.length->∀r∈Ck cs z off n,r.length=z
 |0,off,_,r,hr=>by simp[Ck] at hr
 |n+1,off,hl,r,hr=>by
  rw[BA,Ey] at hl;rw[Ck,AM] at hr;rcases hr with rfl|hr
  .rw[Al,A7];omega
  .exact Pb (by omega) r hr
theorem UF{t':TypeId}{size:Nat}{u:Aa}{xv:Value}{Au:List (List Aa)}(FJ:(∃e',C.P.underlying t'=some (.slice e'))\/C.P.underlying t'=some .string)(hi:Gs γ h w)(hu:BF γ u xv)(hp:Gi h size u=some Au):
  ∃news:List Value,Src C.P size t' xv Au.length news w/\A8 γ Au.flatten news/\(∀r∈Au,r.length=size):=by
 unfold Gi at hp;split at hp;·cases hp;rw[show xv=_ from hu];exact⟨[],⟨FJ,λ_=>rfl,run_firstCells_none w size 0 0 0,run_firstCells_none w.drew size 0 0 0,by simp,by simp⟩,rfl,by simp⟩
 .rename_i z rows';split at hp
  .rename_i hz;cases hp;subst hz;obtain⟨ad,cap,hxv,NT,hsp,hR⟩:=hu;obtain⟨us,p1,p2,p3⟩:=hR.values;have Mb:∀(j:Nat) (x:Value),us[j]?=some x->ad.add j=⟨ad.block,ad.off+j,none⟩:=λj x hj=>by
    have hpos:0<Au.length:=by
     rcases Ou Au.length with h0|h0
     .have:us.length=0:=by rw[p2,h0,cz]
      rw[EW this] at hj;simp at hj
     .exact h0
    have eR:=MG hsp NT hpos;generalize ad.block=b at*;generalize ad.off=o at*;subst eR;unfold Addr.add;split<;>simp_all
   rw[hxv];refine⟨us,⟨FJ,λ_=>rfl,run_firstCells_some w _ _ _ _ _ us p2 (λj x hj=>by rw[Mb j x hj];exact(hi.HA _ _ _ (p3 j x hj)).1),run_firstCells_some w.drew _ _ _ _ _ us p2 (λj x hj=>by rw[Mb j x hj];exact(hi.HA _ _ _ (p3 j x hj)).1),p2,λx hx=>?_⟩,p1,λr hr=>?_⟩;·obtain⟨j,hj⟩:=CT hx;exact(hi.HA _ _ _ (p3 j x hj)).2.1
   .obtain⟨j,hj⟩:=CT hr;exact(hR.get hj).1
  .cases hp
 .rename_i s;split at hp
  .rename_i hz;cases hp;subst hz;rw[show xv=_ from hu];have hlen:(BZ s).length=(⟨⟨s⟩⟩:ByteArray).size:=by simp[BZ,ByteArray.size]
   have hrel:∀l:List UInt8,A8 γ (BZ l).flatten (l.map λb=>Value.int .u8 b.toNat):=by
    intro l;induction l with
    |nil=>rfl
    |cons b l ih=>exact⟨_,_,rfl,rfl,ih⟩
   refine⟨byteCells ⟨⟨s⟩⟩,?_,?_,λr hr=>?_⟩;·rw[hlen];exact⟨FJ,λ_=>rfl,firstCells_string _ w,firstCells_string _ w.drew,by rw[byteCells_length,Kk],λu hu=>by obtain⟨_,_,rfl⟩:=Bk.1 hu;rfl⟩
   .simpa[byteCells] using hrel s
   .obtain⟨b,_,rfl⟩:=Bk.1 hr;rfl
  .cases hp
 .rename_i id off n z;split at hp
  .rename_i hz;subst hz;split at hp
   .rename_i cs hcs;split at hp
    .rename_i hl;cases hp;obtain⟨b,cap,hb,hxv,NT,dd,hsz⟩:=hu;obtain⟨us,e,fr,p1,pf,p2,p3⟩:=hi.cells id cs hcs b hb;have ZE:(us.toList.take cs.length).length=cs.length:=p2.length;have Nt:(((us.toList.take cs.length).drop off).take (n*z)).length=n*z:=by rw[Al,A7,ZE];omega
     have Mb:∀j,(⟨b,off,none⟩:Addr).add j=⟨b,off+j,none⟩:=λj=>by unfold Addr.add;split<;>simp_all
     have IN:∀(j:Nat) (x:Value),(((us.toList.take cs.length).drop off).take (n*z))[j]?=some x->w.cell? ((⟨b,off,none⟩:Addr).add j)=some x:=λj x hj=>by
      rw[Mb,cell_of_row w _ _ us e fr p1];rw[Cg] at hj;split at hj
      .rw[Cz,Cg] at hj;split at hj;·simpa using hj
       .cases hj
      .cases hj
     rw[hxv,Nj];refine⟨((us.toList.take cs.length).drop off).take (n*z),⟨FJ,λ_=>rfl,run_firstCells_some w _ _ _ _ _ _ Nt IN,run_firstCells_some w.drew _ _ _ _ _ _ Nt (λj x hj=>IN j x hj),Nt,λx hx=>p3 x (Bw (Bf hx))⟩,?_,Pb hl⟩;rw[Mc];exact(p2.drop off).take (n*z)
    .cases hp
   .cases hp
  .cases hp
 .cases hp
theorem Nk{o:Oper}{c:Call}{t t' e:TypeId}{n b:Nat}{s x:Operand}{v u r:Aa}{Au:List (List Aa)}{news:List Value}(ho:o.op= .call c)(hc:c.callee= .builtin .append)(h0:c.argTypes[0]?=some t)(h1:c.argTypes[1]?=some t')(Ee:c.args.toList=[s,x])(ht:C.P.underlying t=some (.slice e))
  (FJ:(∃e',C.P.underlying t'=some (.slice e'))\/C.P.underlying t'=some .string) (hsz:BP C.P e=some (n+1)) (vC:I5 C.P e=some (b+1)) (E2:JZ C σ s=true) (dU:LP C.P e=true) (hv:Bq C σ [s,x]=some [v,u])
  (GO:DN (n+1) (b+1) v Au=some r) (Jz:Src C.P (n+1) t' (a.eval x) Au.length news w) (Xf:A8 γ Au.flatten news) (dV:∀q∈Au,q.length=n+1) (hr:CS C γ0 w0 γ β σ h a w):FM C γ0 w0 o a w ((σ.Dm (CZ σ s)).put o.dst (.own r)) h:=by
 obtain⟨i,z,hi,hz,ZF⟩:=Lv dU;have O0:=IQ hsz hi;have yu:=KD vC hi;obtain⟨_,_,e0,hvs,fC⟩:=Fc hr hv;cases e0;have ez:Es C σ s=some v:=by
  unfold Bq at hv;split at hv;·rename_i p ps q1 q2;cases hv;exact q1
  .cases hv
 obtain⟨γ1,DW,Jq,Du,hT⟩:=NS hr E2 ez (σ.Dm (CZ σ s)).length none;have vD:=A8.mono DW _ _ Xf;have Ji:c.args.map a.eval=#[a.eval s,a.eval x]:=by apply Jf;simp[Ee]
 have MB:∀v' w',(Builtin.append_ #[t,t'] o.type #[a.eval s,a.eval x]).run C.P w= .ok v' w'->(execOp a.eval o).run C.P w= .ok (.value v') w':=λv' w' AU=>by
  have:execOp a.eval o=(do pure (Next.value (<-Builtin.append_ #[t,t'] o.type #[a.eval s,a.eval x]))):=by rw[<-Ji,<-MQ (ty:=o.type) h0 h1];simp only[execOp,ho,resolve,hc];rfl
  rw[this];exact Dq AU
 have KA:Src C.P i.size t' (a.eval x) Au.length news w:=by rw[O0];exact Jz
 have Nt:news.length=Au.length*(n+1):=Jz.newsLen;have Ft:∀(base:Option Addr) (k cap:Nat) (rr:List (List Aa)) (olds:List Value),a.eval s= .slice base k cap->rr.length=k->(∀q∈rr,q.length=n+1)->A8 γ1 rr.flatten olds->(∀q∈olds,q.oneCell'=true)->
   (Builtin.firstCells i.size k (.slice base k cap)).run C.P w.drew= .ok olds.toArray w.drew->cap<k+Au.length->(k+Au.length)*(b+1)<=AS->r= .sl (n+1) (rr++Au)->
   FM C γ0 w0 o a w ((σ.Dm (CZ σ s)).put o.dst (.own r)) h:=by
  intro base k cap rr olds hs hk hrr tS yp hfirst hlt Pc Wg;have Sw:k+Au.length<=AS:=Bt (OW _ (Dd b)) Pc;have Fo:=run_append_grow_src (P:=C.P) w t t' o.type e i z ht hi hz base k cap olds hfirst (a.eval x) Au.length news KA hlt (by simp only[AS] at Sw;omega) (by rw[yu];exact growslice_fits hlt Pc);rw[<-hs] at Fo;have D2:=grownCap_ge w (k+Au.length) cap e;have aJl:olds.length=k*(n+1):=by rw[tS.length,Gy hrr,hk]
  have qN:(olds++news).length=(k+Au.length)*(n+1):=by rw[Aq,aJl,Nt,BA]
  obtain⟨γ2,Z6,K0,UC,hT2⟩:=Jq.drew.Z8 ((olds++news).toArray++Builtin.zeroCells z.cells (grownCap w (k+Au.length) cap e-(k+Au.length))) e (z:=n+1) (n:=k+Au.length) (cap:=grownCap w (k+Au.length) cap e) (Au:=rr++Au) (Dd n) (by simp[hk])
   (λq hq=>(Ao.1 hq).elim (hrr q) (dV q))
   (by simp only[Qi,B6,size_zeroCells,ZF,O0,qN,<-BA];congr 1;omega) D2 (grownCap_le_maxLen w _ _ _ (by simp only[AS] at Sw;simp only[maxLen];omega))
   (by simp only[Js,Wm];rw[<-qN,GW];exact tS.append vD)
   (λq hq=>by simp only[Js] at hq;rw[<-qN,GW,Ao] at hq;exact hq.elim (yp q) (Jz.one q))
  rw[Wg];obtain⟨γ3,yv⟩:=K0.Yc UC hT2 o.dst;exact FM.value (MB _ _ Fo) yv
 rcases hT with rfl|⟨g,k,cap,us,e1,zz,rr,rfl,Ks,Rp,hB,hg,WW,fc,hm,hzz⟩
 .have Ks:a.eval s= .slice none 0 0:=Du;cases Au with
  |nil=>
   have Wg:r= .slnil:=by simpa[DN] using GO.symm
   have tP:news=[]:=EW (by simpa using Nt);subst tP;have AU:(Builtin.append_ #[t,t'] o.type #[a.eval s,a.eval x]).run C.P w= .ok (.slice none 0 0) w:=by rw[Ks];have hl:=KA.len;have Ww:=KA.cells;simp only[BT] at hl Ww;rcases FJ with⟨e',hk⟩|hk<;>simp[Builtin.append_,run_underlying ht,run_underlying hk,sizeOf,typeInfo,hi,hl,Ww]
   rw[Wg];exact FM.value (MB _ _ AU) (Jq.put λ_ _=>⟨rfl,.inl rfl⟩)
  |cons q Au=>
   have SC:r= .sl (n+1) (q::Au)/\(q::Au).length*(b+1)<=AS:=by
    simp only[DN] at GO;split at GO;·rename_i hb;cases GO;exact⟨rfl,hb⟩
    .cases GO
   exact Ft none 0 0 [] [] Ks rfl (by simp) rfl (by simp) (run_firstCells_none _ _ _ _ _) (by simp) (by simpa using SC.2) (by simpa using SC.1)
 .obtain⟨ad0,cap0,fB,NT,_,hR⟩:=id Du;rw[Ks] at fB;simp only[Value.slice.injEq,BC] at fB;obtain⟨rfl,hk,rfl⟩:=fB;subst hk;simp only at hR;have hzn:zz=n+1/\r= .sl (n+1) (rr++Au)/\(Au=[]\/(rr.length+Au.length)*(b+1)<=AS):=by
   cases Au with
   |nil=>
    simp only[DN] at GO;split at GO;·rename_i ZB;cases GO;exact⟨ZB,by simp[ZB],.inl rfl⟩
    .cases GO
   |cons q Au=>
    simp only[DN] at GO;split at GO;·rename_i ZB;cases GO;exact⟨ZB.1,rfl,.inr ZB.2⟩
    .cases GO
  obtain⟨rfl,Wg,Pc⟩:=hzn;by_cases hroom:rr.length+Au.length<=cap
  .have hfit:rr.length*(n+1)+news.length<=us.size:=by rw[Nt,WW,<-BA];exact Ez _ hroom
   have AU:=run_append_room_src (P:=C.P) w t t' o.type e i ht hi g 0 rr.length cap (a.eval x) Au.length news KA hroom (λj hj=>by rw[cell_of_row w _ _ us e1 (0,0) hg,O0,C3 (by omega)];rfl) (λj hj=>frozen_of_row w _ _ us e1 hg)
   rw[BJ,O0,Ed news _ us w hg hfit,<-Ks] at AU;rw[Ks] at Du;obtain⟨γ2,Z6,K0,UC,hT2⟩:=Jq.vB Rp hB hg WW hm (Dd n) Du dV vD Jz.one hroom;obtain⟨γ3,yv⟩:=K0.Yc UC hT2 o.dst;rw[Wg];exact FM.value (MB _ _ AU) yv
  .obtain⟨vs,q1,q2,q3⟩:=hR.values;have Mb:∀j,(⟨g,0,none⟩:Addr).add j=⟨g,0+j,none⟩:=λj=>by unfold Addr.add;split<;>simp_all
   refine Ft (some ⟨g,0,none⟩) rr.length cap rr vs Ks rfl (λq hq=>?_) q1 (λq hq=>?_) ?_ (by omega) ?_ Wg;·obtain⟨j,hj⟩:=CT hq;exact(hR.get hj).1
   .obtain⟨j,hj⟩:=CT hq;exact(Jq.DD.HA _ _ _ (q3 j q hj)).2.1
   .rw[O0];exact run_firstCells_some w.drew _ _ _ _ _ vs q2 (λj y hj=>by rw[Mb];exact(Jq.DD.HA _ _ _ (q3 j y hj)).1)
   .rcases Pc with rfl|Pc
    .simp at hroom;omega
    .exact Pc
theorem fD{o:Oper}{c:Call}{t t' e:TypeId}{n b:Nat}{s x:Operand}{v u r:Aa}(ho:o.op= .call c)(hc:c.callee= .builtin .append)(h0:c.argTypes[0]?=some t)(h1:c.argTypes[1]?=some t')(Ee:c.args.toList=[s,x])(ht:C.P.underlying t=some (.slice e))
  (FJ:(∃e',C.P.underlying t'=some (.slice e'))\/C.P.underlying t'=some .string) (hsz:BP C.P e=some (n+1)) (vC:I5 C.P e=some (b+1)) (E2:JZ C σ s=true) (dU:LP C.P e=true) (hv:Bq C σ [s,x]=some [v,u])
  (hp:Aw (.append (n+1) (b+1)) [v,u]=some r) (hr:CS C γ0 w0 γ β σ h a w):FM C γ0 w0 o a w ((σ.Dm (CZ σ s)).put o.dst (.own r)) h:=by
 obtain⟨_,_,e0,hvs,fC⟩:=Fc hr hv;cases e0;simp only[Aw] at hp;obtain⟨Au,news,GO,Jz,Xf,dV⟩:=kT (w:=w) FJ hr.DD fC hp;exact Nk ho hc h0 h1 Ee ht FJ hsz vC E2 dU hv GO Jz Xf dV hr
theorem Z9{o:Oper}{c:Call}{t t' e:TypeId}{n b:Nat}{s x:Operand}{v u r:Aa}(ho:o.op= .call c)(hc:c.callee= .builtin .append)(h0:c.argTypes[0]?=some t)(h1:c.argTypes[1]?=some t')(Ee:c.args.toList=[s,x])(ht:C.P.underlying t=some (.slice e))
  (FJ:(∃e',C.P.underlying t'=some (.slice e'))\/C.P.underlying t'=some .string) (hsz:BP C.P e=some (n+1)) (vC:I5 C.P e=some (b+1)) (E2:JZ C σ s=true) (dU:LP C.P e=true) (hv:Bq C σ [s,x]=some [v,u])
  (hp:O7 h (n+1) (b+1) v u=some r) (hr:CS C γ0 w0 γ β σ h a w):FM C γ0 w0 o a w ((σ.Dm (CZ σ s)).put o.dst (.own r)) h:=by
 obtain⟨_,_,e0,hvs,fC⟩:=Fc hr hv;cases e0;unfold O7 at hp;cases hq:Gi h (n+1) u with
 |none=>rw[hq] at hp;cases hp
 |some Au=>rw[hq] at hp;obtain⟨news,Jz,Xf,dV⟩:=UF (w:=w) FJ hr.DD fC hq;exact Nk ho hc h0 h1 Ee ht FJ hsz vC E2 dU hv hp Jz Xf dV hr
end
section
variable{C:FI}{γ0 γ γ':Gh}{w0 w w':World}{β:Nat->Nat}{σ:BD}{h:Ae}{a:Act}{fid:FuncId}{ops:List Oper}
theorem QA:∀s:As,(BZ s).flatten=s.map λb=>Aa.int .u8 b.toNat
 |[]=>rfl
 |_::s=>by have:=QA s;simp only[BZ,Bl,Db] at this⊢;rw[this];rfl
theorem K4(γ:Gh):∀l:As,A8 γ (BZ l).flatten (l.map λb=>Value.int .u8 b.toNat)
 |[]=>rfl
 |_::l=>⟨_,_,rfl,rfl,K4 γ l⟩
theorem JR(s:As)(cap:Nat):(bytesRow ⟨⟨s⟩⟩ cap).toList.take s.length=s.map λb=>Value.int .u8 b.toNat:=by
 have:(s.map λb=>Value.int .u8 (b.toNat:Int)).length=s.length:=by simp
 simp only[bytesRow,Js,tL];rw[<-this];exact GW
theorem Yd(s:As):(⟨⟨s⟩⟩:ByteArray).size=s.length:=by simp[ByteArray.size]
theorem fg{o:Oper}{src dst e:TypeId}{x:Operand}{v u:Aa}(ho:o.op= .convert src dst x)(hs:C.P.underlying src=some .string)(hd:C.P.underlying dst=some (.slice e))(he:C.P.underlying e=some (.int .u8))(hx:Bq C σ [x]=some [v])(hp:Aw .s2b [v]=some u)(hr:CS C γ0 w0 γ β σ h a w):
  FM C γ0 w0 o a w (σ.put o.dst (.val u)) h:=by
 obtain⟨_,e0,hv⟩:=F8 hr hx;cases e0;simp only[Aw] at hp;split at hp
 .rename_i s Ji;cases Ji;split at hp
  .cases hp;have AU:=run_bytes_of_string (P:=C.P) w src dst e ⟨⟨s⟩⟩ hs hd he;rw[<-MK hv] at AU;have t_:=grownCap_ge w s.length 0 e;rw[Yd] at AU;obtain⟨hi,ha⟩:=NM hr.drew.DD (bytesRow ⟨⟨s⟩⟩ (grownCap w s.length 0 e)) e ((bytesRow ⟨⟨s⟩⟩ (grownCap w s.length 0 e)).size,(bytesRow ⟨⟨s⟩⟩ (grownCap w s.length 0 e)).size+1) s.length none (λo u ho hu=>by have hm:u∈(bytesRow ⟨⟨s⟩⟩ (grownCap w s.length 0 e)).toList.take s.length:=CD (i:=o) (by rw[C9 ho];simpa using hu);rw[JR] at hm;obtain⟨b,_,rfl⟩:=Bk.1 hm;rfl) (.inl rfl)
   have Fy:=hr.drew.world hi ha;refine FM.value (v:= .slice (some ⟨w.heap.size,0,none⟩) s.length (grownCap w s.length 0 e)) (by simp only[execOp,ho];exact Dq AU) (Fy.put λ_ _=>⟨⟨w.heap.size,0,none⟩,grownCap w s.length 0 e,by simp[BZ],by simpa[BZ] using t_,.inl rfl,?_⟩);refine MP (us:=s.map λb=>Value.int .u8 b.toNat) (λr hr=>?_) (K4 _ s) (λj u hj=>?_);·obtain⟨b,_,rfl⟩:=Bk.1 hr;rfl
   .rw[<-JR s (grownCap w s.length 0 e),Cg] at hj;split at hj;·rename_i hlt;simp only[Gh.C6,heap_drew,BN,BJ,if_pos hlt];simpa using hj
    .cases hj
  .cases hp
 .cases hp
theorem Ye{o:Oper}{src dst e:TypeId}{x:Operand}{v u:Aa}{h':Ae}(ho:o.op= .convert src dst x)(hs:C.P.underlying src=some .string)(hd:C.P.underlying dst=some (.slice e))(he:C.P.underlying e=some (.int .u8))(hx:Es C σ x=some v)(hp:IL h v=some (h',u))(hr:CS C γ0 w0 γ β σ h a w):
  FM C γ0 w0 o a w (σ.put o.dst (.val u)) h':=by
 have hv:=FU hr hx;unfold IL at hp;split at hp
 .rename_i s;split at hp
  .cases hp;have AU:=run_bytes_of_string (P:=C.P) w src dst e ⟨⟨s⟩⟩ hs hd he;rw[<-MK hv] at AU;have t_:=grownCap_ge w s.length 0 e;rw[Yd] at AU;have hl:(s.map λb=>Aa.int .u8 b.toNat).length=s.length:=by simp
   have hbs:(bytesRow ⟨⟨s⟩⟩ (grownCap w s.length 0 e)).size=grownCap w s.length 0 e:=by have e0:ByteArray.size ⟨⟨s⟩⟩=s.length:=Yd s;simp only[bytesRow,Qi,Array.size_map,Array.size_replicate,e0];simp only[B6];omega
   have dW:s.length<=maxLen:=by
    have dW:s.length<=AS:=by assumption
    simp only[AS] at dW;simp only[maxLen];omega
   obtain⟨γ',DW,hm,Fy,hsz⟩:=hr.drew.newObj (bytesRow ⟨⟨s⟩⟩ (grownCap w s.length 0 e)) e ((bytesRow ⟨⟨s⟩⟩ (grownCap w s.length 0 e)).size,(bytesRow ⟨⟨s⟩⟩ (grownCap w s.length 0 e)).size+1) (s.map λb=>Aa.int .u8 b.toNat) (.inr (Ac _))
    (by rw[hl,JR];have:=K4 γ s;rw[QA] at this;exact this)
    (λu hu=>by rw[hl,JR] at hu;obtain⟨b,_,rfl⟩:=Bk.1 hu;rfl)
   exact FM.value (v:= .slice (some ⟨w.heap.size,0,none⟩) s.length (grownCap w s.length 0 e)) (by simp only[execOp,ho];exact Dq AU) (Fy.put λ_ _=>⟨w.heap.size,_,hm,rfl,t_,⟨Dd 0,grownCap_le_maxLen w _ _ _ dW⟩,by rw[BJ,Kk,<-hbs];exact hsz⟩)
  .cases hp
 .cases hp
theorem Hl{α:Type}(l:List α):∀(c j:Nat),j<c*l.length->(List.replicate c l).flatten[j]?=l[j%l.length]?
 |0,j,h=>by simp at h
 |c+1,j,h=>by
  have h':j<c*l.length+l.length:=by rw[BA] at h;omega
  rw[List.replicate_succ,Db];by_cases hj:j<l.length;·rw[Ad hj,Nat.mod_eq_of_lt hj]
  .rw[Bg (by omega),Hl l c _ (by omega),show j%l.length=(j-l.length)%l.length from Nat.mod_eq_sub_mod (by omega)]
theorem vE{o:Oper}{t e:TypeId}{l c:Operand}{n b:Nat}{z:Aa}{vl vc u:Aa}{h':Ae}(ho:o.op= .makeSlice t l c)(ht:C.P.underlying t=some (.slice e))(hsz:BP C.P e=some (n+1))(vC:I5 C.P e=some (b+1))(hz:GN C.P e=some z)(hl:Es C σ l=some vl)(hc:Es C σ c=some vc)
  (hm:Uf h (n+1) (b+1) z.cells vl vc=some (h',u)) (hr:CS C γ0 w0 γ β σ h a w):FM C γ0 w0 o a w (σ.put o.dst (.val u)) h':=by
 unfold Uf at hm;split at hm
 .rename_i k m;split at hm
  .rename_i HI;obtain⟨c1,c2,c3,c4⟩:=HI;cases hm;unfold GN at hz;cases hi:C.P.info? e with
   |none=>rw[hi] at hz;cases hz
   |some i=>
    rw[hi] at hz;cases tT:i.zero with
    |none=>simp[tT] at hz
    |some zv=>
     simp only[Cs,tT] at hz;have O0:=IQ hsz hi;have yu:=KD vC hi;obtain⟨q1,q2⟩:=Gx (γ:=γ) (ES hz) (by omega);have ZF:zv.cells.size=n+1:=by have:=q1.length;simp at this;omega
     have ua:m.toNat*(b+1)<=AS:=c3;have hmm:m.toNat<=AS:=Bt (OW m.toNat (Dd b)) ua;have AU:=run_make (P:=C.P) w t e i zv ht hi tT .i64 .i64 k m c1 c2 (by
      rw[yu];have e1:((b+1:Nat):Int)*m=((m.toNat*(b+1):Nat):Int):=by rw[Int.natCast_mul,Nd (by omega),Int.mul_comm]
      rw[e1];simp only[AS] at ua;omega) (by simp only[AS] at hmm;omega)
     rw[<-D3 (FU hr hl),<-D3 (FU hr hc)] at AU;have hlen:((List.replicate m.toNat z.cells).flatten).length=m.toNat*(n+1):=by rw[Gy (z:=n+1) (λr hr=>by rw[List.eq_of_mem_replicate hr,c4]),Iq]
     have hmc:∀(j:Nat) (u:Value),(madeCells zv.cells (m.toNat*i.size)).toList[j]?=some u->j<m.toNat*(n+1)/\zv.cells.toList[j%(n+1)]?=some u:=by
      intro j u hj;have fE:j<m.toNat*(n+1):=by have:=(Ah.1 hj).1;simpa[size_madeCells,O0] using this
      refine⟨fE,?_⟩;have yw:j%(n+1)<zv.cells.size:=by rw[ZF];exact Nat.mod_lt _ (Dd n)
      simp only[madeCells,tL,Cp] at hj;have hrange:(Array.range (m.toNat*i.size)).toList[j]?=some j:=by simp[O0,fE]
      rw[hrange] at hj;simp only[BR,BC] at hj;rw[ZF] at hj;rw[<-hj];simp[yw]
     have hV:A8 γ (List.replicate m.toNat z.cells).flatten (madeCells zv.cells (m.toNat*i.size)).toList:=by refine A8.Gk (by simp[hlen,size_madeCells,O0]) λj x u hx hu=>?_;obtain⟨fE,hju⟩:=hmc j u hu;rw[Hl z.cells _ _ (by rw[c4];exact fE),c4] at hx;obtain⟨u',kO,yq⟩:=q1.get hx;rw[hju] at kO;cases kO;exact yq
     obtain⟨γ',DW,hm',Fy,aJo⟩:=hr.newObj (madeCells zv.cells (m.toNat*i.size)) e (0,0) (List.replicate m.toNat z.cells).flatten (.inl rfl) (hV.e_ (by rw[hV.length];exact Ac _)) (λu hu=>by obtain⟨j,hj⟩:=CT (Bf hu);exact q2 u (CD (hmc j u hj).2))
     exact FM.value (by simp only[execOp,ho];exact Dq AU) (Fy.put λ_ _=>⟨w.heap.size,m.toNat,hm',rfl,by omega,⟨Dd n,by simp only[AS] at hmm;simp only[maxLen];omega⟩,by rw[aJo,size_madeCells,O0,BJ]⟩)
  .cases hm
 .cases hm
theorem CS.aDu(hr:CS C γ0 w0 γ β σ h a w){g:Nat}(E2:γ.own g=some (.tail σ.length none 0))(hB:w0.heap.size<=g){us:Array Value}{e:TypeId}(hg:w.heap[g]?=some (.cells us e (0,0)))(Dk:Array Value)(cs:List Aa)
  (hv:A8 γ cs (Dk.toList.take cs.length)) (h1:∀u∈Dk.toList.take cs.length,u.oneCell'=true):∃γ',γ.le γ'/\γ'.mu h.length=some g/\CS C γ0 w0 γ' β σ (h++[.cells cs]) a (w.setRow g Dk)/\γ'.sz g=some Dk.size:=by
 have hmu:γ.mu h.length=none:=by
  cases hc:γ.mu h.length with
  |none=>rfl
  |some y=>exact absurd (hr.DD.mu _ y hc) (C8 _)
 have hsz:γ.sz g=none:=by
  cases hc:γ.sz g with
  |none=>rfl
  |some y=>obtain⟨_,r⟩:=hr.DD.sz g y hc;rw[E2] at r;rcases r with r|⟨_,r⟩<;>cases r
 have DW:γ.le (γ.BL g h.length (some Dk.size)):=⟨λ_ _ _ hv=>hv,λid b hm=>by
  have:id≠h.length:=λhe=>by rw[he,hmu] at hm;cases hm
  simp only[Gh.BL,if_neg this];exact hm,λb n hm=>by
  have:b≠g:=λhe=>by rw[he,hsz] at hm;cases hm
  simp only[Gh.BL,if_neg this];exact hm⟩
 have yr:∀b n,(γ.BL g h.length (some Dk.size)).sz b=some n->(∃us e fr,(w.setRow g Dk).heap[b]?=some (.cells us e fr)/\us.size=n)/\((γ.BL g h.length (some Dk.size)).own b=none\/∃id,(γ.BL g h.length (some Dk.size)).own b=some (.KW id)):=λb n hb=>by
  by_cases he:b=g;·subst he;simp only[Gh.BL,BN] at hb;cases hb;exact⟨⟨Dk,e,(0,0),setRow_heap w b us Dk e (0,0) hg,rfl⟩,.inr ⟨h.length,by simp[Gh.BL]⟩⟩
  .simp only[Gh.BL,if_neg he] at hb⊢;obtain⟨p,r⟩:=hr.DD.sz b n hb;exact⟨by rw[setRow_other w g b Dk he];exact p,r⟩
 have hne:∀b id,γ.own b=some (.KW id)->b≠g:=λb id hb he=>by rw[he,E2] at hb;cases hb
 have hk:OA g γ w (γ.BL g h.length (some Dk.size)) (w.setRow g Dk):=⟨DW,λb x hb hx _=>⟨by simp only[Gh.BL,if_neg hb];exact hx,setRow_other w g b Dk hb⟩⟩;refine⟨_,DW,by simp[Gh.BL],⟨⟨λb o v hb=>?_,λid y Hj hy=>?_,λid Gf hc b hb=>?_,λid es hc b hb=>?_,λid b hb=>?_,λb y hy=>?_,yr⟩,⟨hr.fr.size,λs=>?_⟩,hr.Dw.write (g:=g) hB DW (by simp) rfl rfl rfl (λb hb=>⟨setRow_other w g b Dk hb,by simp only[Gh.BL,if_neg hb]⟩),hr.defers,λx Gf hx=>CI.mono DW _ _ _ (hr.Gj x Gf hx)⟩,by simp[Gh.BL]⟩
 .obtain⟨p,q,r⟩:=hr.DD.HA b o v hb;have MI:b≠g:=λhe=>by
   subst he;rw[E2] at r;rcases r with r|⟨_,_,_,r,hl⟩
   .cases r
   .cases r;omega
  exact⟨by rw[Cw (setRow_other w g b Dk MI)];exact p,q,by simp only[Gh.BL,if_neg MI];exact r⟩
 .by_cases he:id=h.length;·exact⟨g,by simp[Gh.BL,he],by simp[Gh.BL,he]⟩
  .have Us:id<h.length:=by rw[Ah] at Hj;obtain⟨hl,_⟩:=Hj;simp at hl;omega
   rw[Ad Us] at Hj;obtain⟨b,p,q⟩:=hr.DD.KW id y Hj hy;exact⟨b,by simp only[Gh.BL,if_neg he];exact p,by simp only[Gh.BL,if_neg (hne b id q)];exact q⟩
 .by_cases he:id=h.length;·subst he;simp[Gh.BL] at hb;subst hb;simp at hc;subst hc;exact⟨Dk,e,(0,0),setRow_heap w g us Dk e (0,0) hg,.inl rfl,A8.mono DW _ _ hv,h1⟩
  .simp only[Gh.BL,if_neg he] at hb;have Us:=hr.DD.mu id b hb;rw[Ad Us] at hc;obtain⟨b',p1,p2⟩:=hr.DD.KW id _ hc (by simp);rw[hb] at p1;cases p1;obtain⟨eJ,e2,uR,p,pf,q,r⟩:=hr.DD.cells id Gf hc b hb;exact⟨eJ,e2,uR,by rw[setRow_other w g b Dk (hne b id p2)];exact p,pf,A8.mono DW _ _ q,r⟩
 .by_cases he:id=h.length;·subst he;simp at hc
  .simp only[Gh.BL,if_neg he] at hb;have Us:=hr.DD.mu id b hb;rw[Ad Us] at hc;obtain⟨b',p1,p2⟩:=hr.DD.KW id _ hc (by simp);rw[hb] at p1;cases p1;obtain⟨Dl,clock,p,q⟩:=hr.DD.map id es hc b hb;exact⟨Dl,clock,by rw[setRow_other w g b Dk (hne b id p2)];exact p,q.mono DW⟩
 .by_cases he:id=h.length;·simp[he]
  .simp only[Gh.BL,if_neg he] at hb;have:=hr.DD.mu id b hb;simp;omega
 .by_cases MI:b=g;·subst MI;have:=hr.DD.own _ _ E2;simpa using this
  .simp only[Gh.BL,if_neg MI] at hy;have:=hr.DD.own b y hy;simpa using this
 .by_cases hs:s=σ.length;·subst hs;rw[BD.RG];trivial
  .exact(hr.fr.Hv s).keptBut E2 hk (by simp only[Jp.eF];intro hx;cases hx;exact hs rfl)
theorem CS.KU(hr:CS C γ0 w0 γ β σ h a w){v v':Aa}{u:Value}{h':Ae}(hv:BF γ v u)(hf:Kn h v=some (h',v')):∃γ',γ.le γ'/\CS C γ0 w0 γ' β σ h' a w/\BF γ' v' u:=by
 unfold Kn at hf;split at hf
 .rename_i id off n z;obtain⟨b,cap,hb,hu,hc,hz,hsz⟩:=hv;split at hf
  .rename_i cs hcs;split at hf
   .rename_i hl;cases hf;obtain⟨us,e,fr,p1,pf,p2,p3⟩:=hr.DD.cells id cs hcs b hb;obtain⟨hi,ha⟩:=uS hr.DD hcs hb p1 p3;have dV:∀(k o:Nat),(Ck cs z o k).length=k:=by
     intro k;induction k with
     |zero=>intro o;rfl
     |succ k ih=>intro o;simp[Ck,ih]
    have hrg:∀(k o i:Nat) (r:List Aa),(Ck cs z o k)[i]?=some r->i<k/\r=(cs.drop (o+i*z)).take z:=by
     intro k;induction k with
     |zero=>intro o i r h;simp[Ck] at h
     |succ k ih=>
      intro o i r h;cases i with
      |zero=>simp[Ck] at h;exact⟨Dd _,by simpa using h.symm⟩
      |succ i=>simp[Ck] at h;obtain⟨q1,q2⟩:=ih _ _ _ h;exact⟨by omega,by rw[q2];congr 2;rw[BA];omega⟩
    refine⟨_,ha.le,hr.world hi ha,⟨b,off,none⟩,cap,by rw[dV];exact hu,by rw[dV];exact hc,.inl rfl,ER.Gk λi r hir=>?_⟩;obtain⟨q1,rfl⟩:=hrg n off i r hir;have hiz:i*z+z<=n*z:=by have:=Ez z (show i+1<=n by omega);rwa [BA,Ey] at this
    refine⟨by simp;omega,CI.Gk λj x hj=>?_⟩;rw[Cg] at hj;split at hj;·rename_i hjz;rw[Cz] at hj;obtain⟨y,hy,hxy⟩:=p2.get hj;have hlt:off+i*z+j<cs.length:=(Ah.1 hj).1;refine⟨y,?_,BF.mono ha.le _ _ hxy⟩;simp only[Gh.C6,BN,if_pos hlt];rw[C9 hlt] at hy;simpa using hy
    .cases hj
   .cases hf
  .cases hf
 .cases hf;exact⟨γ,.refl _,hr,hv⟩
theorem QB:∀{Au:List (List Aa)} {s:As},Lr Au=some s->∃ns:List Int,Au=ns.map (λn=>[.int .u8 n])/\s=ns.map λn=>UInt8.ofNat n.toNat
 |[],s,hs=>by cases hs;exact⟨[],rfl,rfl⟩
 |r::Au,s,hs=>by
  unfold Lr at hs;split at hs;·rename_i Ji;cases Ji
  .rename_i n rs Ji;cases Ji;cases hq:Lr Au with
   |none=>rw[hq] at hs;cases hs
   |some l=>rw[hq] at hs;cases hs;obtain⟨ns,rfl,rfl⟩:=QB hq;exact⟨n::ns,rfl,rfl⟩
  .cases hs
theorem UG:∀(ns:List Int) (r:ByteArray),ns.foldl (λr n=>r.push (UInt8.ofNat n.toNat)) r=⟨r.data++(ns.map λn=>UInt8.ofNat n.toNat).toArray⟩
 |[],r=>by simp
 |n::ns,r=>by rw[List.foldl_cons,UG ns];simp[ByteArray.push]
theorem fh{o:Oper}{src dst e:TypeId}{x:Operand}{v v' u:Aa}{h':Ae}(ho:o.op= .convert src dst x)(hs:C.P.underlying src=some (.slice e))(hd:C.P.underlying dst=some .string)(he:C.P.underlying e=some (.int .u8))(hx:Es C σ x=some v)(hf:Kn h v=some (h',v'))(hp:Aw .S7 [v']=some u)
  (hr:CS C γ0 w0 γ β σ h a w):FM C γ0 w0 o a w (σ.put o.dst (.val u)) h':=by
 obtain⟨γ',DW,Fy,Du⟩:=hr.KU (FU hr hx) hf;have MB:∀s,(Conv.bytesToString (a.eval x)).run C.P w= .ok s w->(∃p l c,a.eval x= .slice p l c)->(execOp a.eval o).run C.P w= .ok (.value s) w:=λs AU ⟨p,l,c,dW⟩=>by simp only[execOp,ho];refine Dq ?_;rw[dW] at AU⊢;rw[run_convert_bytes_string w src dst e p l c hs he hd];exact AU
 simp only[Aw] at hp;unfold Uc at hp;split at hp
 .rename_i Au;cases hq:Lr Au with
  |none=>rw[hq] at hp;cases hp
  |some s=>
   rw[hq] at hp;cases hp;obtain⟨ns,rfl,rfl⟩:=QB hq;obtain⟨ad,cap,dW,hc,hsp,hR⟩:=Du;have Mb:∀(j:Nat) (v:Value),(ns.map (Value.int .u8))[j]?=some v->ad.add j=⟨ad.block,ad.off+j,none⟩:=λj v hj=>by
    have hpos:0<ns.length:=by have:=(Ah.1 hj).1;simp at this;omega
    have eR:=MG hsp hc (by simpa using hpos);generalize ad.block=b at*;generalize ad.off=o at*;subst eR;unfold Addr.add;split<;>simp_all
   have hl:=run_loadCells_list (P:=C.P) w ad (ns.map (Value.int .u8)) (λj v hj=>by
    rw[Mb j v hj];simp only[Cp] at hj;cases hn:ns[j]? with
    |none=>rw[hn] at hj;cases hj
    |some n=>rw[hn] at hj;cases hj;obtain⟨_,hM⟩:=hR.get (i:=j) (r:=[.int .u8 n]) (by simp[hn]);obtain⟨y,hy,hyr⟩:=hM.get (i:=0) (a:= .int .u8 n) rfl;rw[show y=_ from hyr] at hy;have:=(Fy.DD.HA _ _ _ hy).1;simpa using this)
   simp only[Ai] at hl;have AU:=run_bytesToString (P:=C.P) w ad ns.length cap ns hl;have he0:ByteArray.empty.data=#[]:=rfl;rw[UG,he0,Array.empty_append] at AU;have e1:a.eval x= .slice (some ad) ns.length cap:=by rw[dW];simp
   rw[<-e1] at AU;exact FM.value (MB _ AU ⟨_,_,_,e1⟩) (Fy.put λ_ _=>rfl)
 .cases hp;have e1:a.eval x= .slice none 0 0:=Du;have AU:(Conv.bytesToString (a.eval x)).run C.P w= .ok (.string ⟨⟨[]⟩⟩) w:=by rw[e1];simp[Conv.bytesToString];rfl
  exact FM.value (MB _ AU ⟨_,_,_,e1⟩) (Fy.put λ_ _=>rfl)
 .cases hp
def vF(C:FI)(f:FuncId):Prop:=
 (∃fn c,C.P.funcs[f]?=some fn/\(fn.name== "runtime.NumGoroutine")=false/\fn.body=some c)/\
 ∀(γ:Gh) (h:Ae) (w:World) (s:Aa) (sv:Value) (i x:Int) (h':Ae) (r:Aa) (g vcap:Nat) (us:Array Value) (e:TypeId),Gs γ h w->BF γ s sv->Ow h [s,.int .i64 i,.sl 1 [[.int .i64 x]]]=some (h',r)->
  w.heap[g]?=some (.cells us e (0,0))->us[0]?=some (.int .i64 x)->(∀id,γ.own g≠some (.KW id))->1<=vcap->us.size=vcap->
  Calls C.P f #[sv,.int .i64 i,.slice (some ⟨g,0,none⟩) 1 vcap] w λe w'=>match e with
   | .returned v=>∃γ',Gs γ' h' w'/\J1 γ w γ' w'/\BF γ' r v
   |_=>False
def ED(C:FI)(run:IT->Ae->Option Jn):Prop:=
 ((∀g cs,C.Gj g=some cs->cs.all Aa.Lp=true)/\∀f,C.L2 f=true->vF C f)/\
 ∀(f:FuncId) (args:List Aa) (h:Ae) (r:Aa) (h':Ae),run (B5 C f args) h=some (.ret,[r],h')->
  (∃fn c,C.P.funcs[D7 f]?=some fn/\(fn.name== "runtime.NumGoroutine")=false/\fn.body=some c)/\
  ∀(γ:Gh) (w:World) (cargs:Array Value),Gs γ h w->(∀g cs,C.Gj g=some cs->CI γ cs g 0)->A8 γ args cargs.toList->
   Calls C.P (D7 f) cargs w λe w'=>match e with
    | .returned v=>∃γ',Gs γ' h' w'/\J1 γ w γ' w'/\BF γ' r v/\(C.Ii f=true->∃s c,HU γ' w.heap.size w' s c v r)
    |_=>False
theorem CS.yx(hr:CS C γ0 w0 γ β σ h a w){h':Ae}{r:Aa}{v:Value}(hi:Gs γ' h' w')(ha:J1 γ w γ' w')(hv:BF γ' r v){own:Bool}(ho:own=true->∃s c,HU γ' w.heap.size w' s c v r)(d:Option Nat):
  ∃γ2,CS C γ0 w0 γ2 β (σ.put d (if own then .own r else .val r)) h' (a.put d v) w':=by
 cases own with
 |false=>exact⟨γ',(hr.world hi ha).put λ_ _=>hv⟩
 |true=>
  obtain⟨s,c,hT⟩:=ho rfl;rcases hT with rfl|⟨g,n,cap,us,e,z,Au,rfl,h2,h3,h4,h5⟩
  .exact⟨γ',(hr.world hi ha).put λ_ _=>⟨hv,.inl rfl⟩⟩
  .have yo:J1 γ w (γ'.Fb g (.tail σ.length none (n*z))) w':=⟨ha.le.trans (Gw _ _ _),ha.size,ha.os,ha.tape,ha.output,λb hb hn=>by obtain⟨p,q⟩:=ha.MH b hb hn;exact⟨p,by simp only[Gh.Fb,if_neg (show b≠g by omega)];exact q⟩⟩
   have Fy:=hr.world (hi.Fb (s':=σ.length) (c':=none) h3) yo;exact Fy.Yc (BF.mono (Gw _ _ _) _ _ hv) (.inr ⟨g,n,cap,us,e,z,Au,rfl,h2,by simp[Gh.Fb],Bt hr.Dw.size h4,h5⟩) d
theorem Hw{P:Program}{f:FuncId}{fn:Func}{c:Code}(hf:P.funcs[f]?=some fn)(hname:(fn.name== "runtime.NumGoroutine")=false)(hb:fn.body=some c)(args:Array Value)(w:World):
  (callFunc f args).run P w= .ok (.enter f args) w:=by
 have hn:¬fn.name= "runtime.NumGoroutine":=by simpa using hname
 simp[callFunc,hf,hn,hb]
theorem QC{o:Oper}{f:FuncId}{cargs:Array Value}{K:Act->World->Prop}{Q:Exit->Act->World->Prop}(he:(execOp a.eval o).run C.P w= .ok (.enter f cargs) w){R:Value->World->Prop}
  (hc:Calls C.P f cargs w λe w'=>match e with| .returned v=>R v w'|_=>False) (hk:∀v w',R v w'->K (a.put o.dst v) w'):o.wp C.P a w K Q:=by
 unfold Oper.wp;rw[he];refine hc.mono λe w' h=>?_;cases e with
 |returned v=>exact hk v w' h
 |_=>exact h.elim
theorem vG{run:IT->Ae->Option Jn}(hS:ED C run){o:Oper}{c:Call}{f:FuncId}{args:List Aa}{r:Aa}{h':Ae}{K:Act->World->Prop}{Q:Exit->Act->World->Prop}(ho:o.op= .call c)(hcl:c.callee= .value (.func (D7 f)))(ha:Bq C σ c.args.toList=some args)
  (AU:run (B5 C f args) h=some (.ret,[r],h')) (hr:CS C γ0 w0 γ β σ h a w) (hK:∀γ' v w',CS C γ0 w0 γ' β (σ.put o.dst (if C.Ii f then .own r else .val r)) h' (a.put o.dst v) w'->K (a.put o.dst v) w'):o.wp C.P a w K Q:=by
 obtain⟨⟨fn,cd,hf,hname,hb⟩,hcalls⟩:=hS.2 f args h r h' AU;have hcargs:A8 γ args (c.args.map a.eval).toList:=by simpa using Dx hr ha
 refine QC (f:=D7 f) (cargs:=c.args.map a.eval) ?_ (hcalls γ w _ hr.DD hr.Gj hcargs) λv w' ⟨γ',hi,JA,hv,E2⟩=>?_;·have h0:a.eval (.func (D7 f))= .func (.func (D7 f)) #[] #[]:=rfl;simp only[execOp,ho,resolve,hcl,Deferred.ofValue,h0,Sem.run_bind,Sem.run_pure,Result.andThen_ok,invoke];simpa using Hw hf hname hb (c.args.map a.eval) w
 .obtain⟨γ2,K0⟩:=hr.yx hi JA hv E2 o.dst;exact hK γ2 v w' K0
theorem fj{run:IT->Ae->Option Jn}(hS:ED C run){o:Oper}{c:Call}{f:FuncId}{s i x:Operand}{args:List Aa}{r:Aa}{h':Ae}{K:Act->World->Prop}{Q:Exit->Act->World->Prop}(ho:o.op= .call c)(hcl:c.callee= .value (.func f))(hf:C.L2 f=true)(Ee:c.args.toList=[s,i,x])(E2:JZ C σ x=true)
  (ha:Bq C σ [s,i,x]=some args) (hp:Ow h args=some (h',r)) (hr:CS C γ0 w0 γ β σ h a w) (hK:∀γ' v w',CS C γ0 w0 γ' β (σ.put o.dst (.val r)) h' (a.put o.dst v) w'->K (a.put o.dst v) w'):o.wp C.P a w K Q:=by
 obtain⟨⟨fn,cd,hfn,hname,hb⟩,fk⟩:=hS.1.2 f hf;have qO:=Dx hr ha;obtain⟨u1,us1,f1,g1,f2⟩:∃u1 us1,[a.eval s,a.eval i,a.eval x]=u1::us1/\BF γ (args.getD 0 .nilIface) u1/\True:=by
  cases args with
  |nil=>cases qO
  |cons y l=>obtain⟨u,us,e,p,q⟩:=qO;exact⟨u,us,e,p,trivial⟩
 obtain⟨s',i',x',he,k,xx,hx'⟩:∃s' i' x',args=[s',.int .i64 i',.sl 1 [[.int .i64 x']]]/\∃(k:BF γ s' (a.eval s)) (xx:a.eval i= .int .i64 i'),BF γ (.sl 1 [[.int .i64 x']]) (a.eval x):=by
  unfold Ow at hp;split at hp;·obtain⟨_,_,_,e,p1,p2,p3⟩:=qO.Sx;simp only[Bl,DQ,Hr,NB] at e;obtain⟨rfl,rfl,rfl⟩:=e;exact⟨_,_,_,rfl,p1,p2,p3⟩
  .obtain⟨_,_,_,e,p1,p2,p3⟩:=qO.Sx;simp only[Bl,DQ,Hr,NB] at e;obtain⟨rfl,rfl,rfl⟩:=e;exact⟨_,_,_,rfl,p1,p2,p3⟩
  .cases hp
 subst he;have fC:Es C σ x=some (.sl 1 [[.int .i64 x']]):=by simp only[Bq] at ha;cases h1:Es C σ s<;>cases h2:Es C σ i<;>cases h3:Es C σ x<;>simp_all
 obtain⟨sl,dW⟩:∃sl,DJ C σ x=some sl:=by
  unfold JZ at E2;cases hs:DJ C σ x with
  |none=>rw[hs] at E2;cases E2
  |some sl=>exact⟨sl,rfl⟩
 have aJp:∃v,sl= .own v:=by unfold JZ at E2;rw[dW] at E2;cases sl<;>first|exact⟨_,rfl⟩|cases E2
 obtain⟨v,rfl⟩:=aJp;obtain⟨s0,hrel,_⟩:=Fz hr dW;have aJq:v= .sl 1 [[.int .i64 x']]:=by simp only[Es,dW,Cs,D6.Gu,BC] at fC;exact fC
 subst aJq;obtain⟨kS,hT⟩:=hrel;rcases hT with hT|⟨g,n,cap,us,e,z,Au,h1,h2,h3,h4,h5,h6,h7,h8,h9⟩
 .cases hT
 .cases h1;obtain⟨ad,cap2,e1,e2,e3,e4⟩:=hx';rw[h2] at e1;cases e1;obtain⟨_,hm,_⟩:=e4;obtain⟨⟨u,hu,hru⟩,_⟩:=hm;obtain⟨IN,_,_⟩:=hr.DD.HA _ _ _ hu;have WW:us[0]?=some (.int .i64 x'):=by rw[cell_of_row w _ _ us e (0,0) h5] at IN;rw[IN];exact Ce some hru
  have hcargs:c.args.map a.eval=#[a.eval s,.int .i64 i',.slice (some ⟨g,0,none⟩) 1 cap]:=by apply Jf;simp only[tL,Ee,Bl,DQ,xx,h2];rfl
  have Ww:=fk γ h w s' _ i' x' h' r g cap us e hr.DD k hp h5 WW (λid Hj=>by rw[h3] at Hj;cases Hj) h7 (by rw[h6,Kk]);rw[<-hcargs] at Ww;refine QC (f:=f) (cargs:=c.args.map a.eval) ?_ Ww λv w' ⟨γ',hi,JA,hv⟩=>?_;·have h0:a.eval (.func f)= .func (.func f) #[] #[]:=rfl;simp only[execOp,ho,resolve,hcl,Deferred.ofValue,h0,Sem.run_bind,Sem.run_pure,Result.andThen_ok,invoke];simpa using Hw hfn hname hb (c.args.map a.eval) w
  .obtain⟨γ2,K0⟩:=hr.yx (own:=false) hi JA hv (λe=>by cases e) o.dst;exact hK γ2 v w' (by simpa using K0)
def Gh.apart(γ:Gh):Gh:={HA:=γ.HA,mu:=λ_=>none,own:=λb=>match γ.own b with|some (.KW _)=>none|x=>x,sz:=γ.sz}
theorem Gs.apart(hi:Gs γ h w):Gs γ.apart [] w:=by
 refine⟨λb o v hb=>?_,λid x hx=>by simp at hx,λid cs hx=>by simp at hx,λid es hx=>by simp at hx,λid b hb=>(by cases hb),λb x hx=>?_,λb n hb=>?_⟩;rotate_left 2;·obtain⟨p,r⟩:=hi.sz b n hb;refine⟨p,.inl ?_⟩;simp only[Gh.apart];rcases r with r|⟨_,r⟩<;>rw[r]
 .obtain⟨p,q,r⟩:=hi.HA b o v hb;refine⟨p,q,?_⟩;simp only[Gh.apart];rcases r with r|⟨s,c,st,r,hl⟩
  .exact .inl (by rw[r])
  .exact .inr ⟨s,c,st,by rw[r],hl⟩
 .simp only[Gh.apart] at hx;split at hx;·cases hx
  .exact hi.own b x hx
theorem CS.fm(hr:CS C γ0 w0 γ β σ h a w){γ1:Gh}{h1:Ae}(hi:Gs γ1 h1 w')(ha:J1 γ.apart w γ1 w'):∃γ2,CS C γ0 w0 γ2 β σ h a w':=by
 have Tg:∀b id,γ.apart.own b≠some (.KW id):=λb id e=>by
  simp only[Gh.apart] at e;split at e;·cases e
  .rename_i hn;exact hn id e
 have L8:∀b,b<w.heap.size->w'.heap[b]?=w.heap[b]?:=λb hb=>(ha.MH b hb (Tg b)).1;refine⟨γ,hr.world ⟨λb o v hb=>?_,hr.DD.KW,λid cs hc b hb=>?_,λid es hc b hb=>?_,hr.DD.mu,λb x hx=>Zz (hr.DD.own b x hx) ha.size,λb n hb=>(by
   obtain⟨⟨us,e,fr,p,q⟩,r⟩:=hr.DD.sz b n hb;exact⟨⟨us,e,fr,by rw[L8 b (A0.1 p).1];exact p,q⟩,r⟩)⟩
  ⟨.refl _,ha.size,ha.os,ha.tape,ha.output,λb hb _=>⟨L8 b hb,rfl⟩⟩⟩
 .obtain⟨p,q,r⟩:=hr.DD.HA b o v hb;exact⟨by rw[Cw (L8 b (Dn p))];exact p,q,r⟩
 .obtain⟨us,e,fr,p,q⟩:=hr.DD.cells id cs hc b hb;exact⟨us,e,fr,by rw[L8 b (A0.1 p).1];exact p,q⟩
 .obtain⟨Dl,clock,p,q⟩:=hr.DD.map id es hc b hb;exact⟨Dl,clock,by rw[L8 b (A0.1 p).1];exact p,q⟩
theorem UH{γ γ':Gh}{x:Aa}{v:Value}(hf:x.Lp=true)(hv:BF γ x v):BF γ' x v:=by cases x<;>first|exact hv|cases hf
theorem Xg{γ γ':Gh}:∀{l:List Aa} {us:List Value},l.all Aa.Lp=true->A8 γ l us->A8 γ' l us
 |[],us,_,h=>h
 |x::l,us,hf,h=>by obtain⟨u,Dk,e,h1,h2⟩:=h;simp only[List.all_cons,BK] at hf;exact⟨u,Dk,e,UH hf.1 h1,Xg hf.2 h2⟩
theorem CI.apart{γ:Gh}:∀{l:List Aa} {b o:Nat},CI γ l b o->l.all Aa.Lp=true->CI γ.apart l b o
 |[],_,_,_,_=>trivial
 |x::l,b,o,h,hf=>by obtain⟨⟨u,h1,h2⟩,h3⟩:=h;simp only[List.all_cons,BK] at hf;exact⟨⟨u,h1,UH hf.1 h2⟩,h3.apart hf.2⟩
theorem qP{run:IT->Ae->Option Jn}(hS:ED C run){o:Oper}{c:Call}{f:FuncId}{args:List Aa}{r:Aa}{h1:Ae}{K:Act->World->Prop}{Q:Exit->Act->World->Prop}(ho:o.op= .call c)(hcl:c.callee= .value (.func (D7 f)))(ha:Bq C σ c.args.toList=some args)
  (hfa:args.all Aa.Lp=true) (AU:run (B5 C f args) []=some (.ret,[r],h1)) (kN:r.Lp=true) (hr:CS C γ0 w0 γ β σ h a w) (hK:∀γ' v w',CS C γ0 w0 γ' β (σ.put o.dst (.val r)) h (a.put o.dst v) w'->K (a.put o.dst v) w'):o.wp C.P a w K Q:=by
 obtain⟨⟨fn,cd,hf,hname,hb⟩,hcalls⟩:=hS.2 f args [] r h1 AU;have hcargs:A8 γ.apart args (c.args.map a.eval).toList:=Xg hfa (by simpa using Dx hr ha);refine QC (f:=D7 f) (cargs:=c.args.map a.eval) ?_ (hcalls γ.apart w _ hr.DD.apart (λg cs hg=>(hr.Gj g cs hg).apart (hS.1.1 g cs hg)) hcargs) λv w' ⟨γ',hi,JA,hv,_⟩=>?_;·have h0:a.eval (.func (D7 f))= .func (.func (D7 f)) #[] #[]:=rfl;simp only[execOp,ho,resolve,hcl,Deferred.ofValue,h0,Sem.run_bind,Sem.run_pure,Result.andThen_ok,invoke];simpa using Hw hf hname hb (c.args.map a.eval) w
 .obtain⟨γ2,K0⟩:=hr.fm hi JA;exact hK γ2 v w' (K0.put λ_ _=>UH kN hv)
theorem qQ{run:IT->Ae->Option Jn}(hS:ED C run){o:Oper}{c:Call}{g:Operand}{gv:Aa}{f:FuncId}{args args':List Aa}{r:Aa}{h':Ae}{K:Act->World->Prop}{Q:Exit->Act->World->Prop}(ho:o.op= .call c)(hcl:c.callee= .value g)(hg:Es C σ g=some gv)
  (ha:Bq C σ c.args.toList=some args) (ht:Dt gv args=some (f,args')) (AU:run (B5 C f args') h=some (.ret,[r],h')) (hr:CS C γ0 w0 γ β σ h a w) (hK:∀γ' v w',CS C γ0 w0 γ' β (σ.put o.dst (.val r)) h' (a.put o.dst v) w'->K (a.put o.dst v) w'):o.wp C.P a w K Q:=by
 obtain⟨⟨fn,cd,hf,hname,hb⟩,hcalls⟩:=hS.2 f args' h r h' AU;have hgv:=FU hr hg;unfold Dt at ht;split at ht
 .rename_i f0 first captured
  split at ht;rotate_left;·cases ht
  rename_i dX;cases ht;rw[show D7 f=f from if_pos dX] at hf hcalls;obtain⟨fs,cs,D2,h1,h2⟩:=hgv;have hcargs:A8 γ (first++args++captured) (fs++c.args.map a.eval++cs).toList:=by simpa using(h1.append (Dx hr ha)).append h2
  refine QC (f:=f) (cargs:=fs++c.args.map a.eval++cs) ?_ (hcalls γ w _ hr.DD hr.Gj hcargs) λv w' ⟨γ',hi,JA,hv,E2⟩=>?_;·simp only[execOp,ho,resolve,hcl,Deferred.ofValue,D2,Sem.run_bind,Sem.run_pure,Result.andThen_ok,invoke];exact Hw hf hname hb _ w
  .obtain⟨γ2,K0⟩:=hr.yx (own:=false) hi JA hv (λe=>by cases e) o.dst;exact hK γ2 v w' (by simpa using K0)
 .cases ht
end
end Go.Am
end
