/- Lemmas -/
import Derived.Test.YtefjamneieebhaaGreatDoorS4
import Derived.Deep.AppendSrc
import Derived.Great.BuildSlice
import Derived.Laws.IdiomStrings
set_option linter.unusedVariables false
set_option linter.unusedSimpArgs false
section
namespace Go.Am
open Go
section
variable{C:FG}{γ0 γ γ':Gh}{w0 w w':World}{β:Nat->Nat}{σ:BD}{h:Ad}{a:Act}{fid:FuncId}{ops:List Oper}
theorem Dq{P:Program}{s:Sem Value}{v:Value}(hs:s.run P w= .ok v w'):(do pure (Next.value (<-s)):Sem Next).run P w= .ok (.value v) w':=by simp[hs]
theorem SI{α:Type}{z:Nat}:∀{Au:List (List α)},(∀r∈Au,r.length=z)->∀{i:Nat} {r:List α},Au[i]?=some r->∀{j:Nat} {x:α},r[j]?=some x->Au.flatten[i*z+j]?=some x
 |[],_,i,r,hi,_,_,_=>by simp at hi
 |q::Au,hl,0,r,hi,j,x,hj=>by simp at hi;subst hi;have:j<q.length:=(Ah.1 hj).1;simp only[dj,BJ,C9];rw[Af this];exact hj
 |q::Au,hl,i+1,r,hi,j,x,hj=>by
  simp at hi;have hq:q.length=z:=hl q (by simp);rw[C9,Bg (by rw[hq,BB];omega)];have:=SI (Au:=Au) (λr hr=>hl r (by simp[hr])) hi hj;rw[<-this];congr 1
  rw[hq,BB];omega
theorem Gv{α:Type}{z:Nat}:∀{Au:List (List α)},(∀r∈Au,r.length=z)->Au.flatten.length=Au.length*z
 |[],_=>by simp
 |q::Au,hl=>by have hq:q.length=z:=hl q (by simp);simp[hq,Gv (Au:=Au) (λr hr=>hl r (by simp[hr])),BB,Nat.add_comm]
theorem MW{Au:List (List Aa)}{us:List Value}{z b o:Nat}(hl:∀r∈Au,r.length=z)(hv:A9 γ Au.flatten us)(hi:∀(j:Nat) (u:Value),us[j]?=some u->γ.Hy b (o+j)=some u):EP γ Au z b o:=by refine EP.Gg λi r hr=>⟨hl r (CD hr),CI.Gg λj x hj=>?_⟩;obtain⟨u,hu,hx⟩:=hv.get (SI hl hr hj);exact⟨u,by rw[Nat.add_assoc];exact hi _ _ hu,hx⟩
theorem CR.drew(hr:CR C γ0 w0 γ β σ h a w):CR C γ0 w0 γ β σ h a w.drew:=hr.world (hr.DD.same rfl) (J3.drew γ w)
theorem BD.RM(σ:BD):σ.at σ.length= .undef:=by simp[BD.at,List.getD]
theorem CR.Yi(hr:CR C γ0 w0 γ β σ h a w){x:Aa}{v:Value}(hv:BE γ x v)(ho:HV γ w0.heap.size w σ.length none v x)(d:Option Nat):∃γ',CR C γ0 w0 γ' β (σ.put d (.own x)) h (a.put d v) w:=by
 cases d with
 |none=>exact⟨γ,hr⟩
 |some d=>
  rcases ho with ho|⟨g,n,cap,us,e,z,Au,h1,h2,h3,h4,h5⟩
  .exact⟨γ,hr.put λs _=>⟨hv,.inl ho⟩⟩
  .have Jr:=hr.E9 (s':=d) (c':=none) h3 h4 (λ_ u=>by rw[BD.RM];simp) (λo ho=>by cases ho);exact⟨_,Jr.put λs hs=>by cases hs;exact⟨BE.mono (Gt _ _ _) _ _ hv,.inr ⟨g,n,cap,us,e,z,Au,h1,h2,by simp[Gh.E9],h4,h5⟩⟩⟩
theorem CR.aG(hr:CR C γ0 w0 γ β σ h a w)(us:Array Value)(e:TypeId){z n cap:Nat}{Au:List (List Aa)}(hz:0<z)(hn:Au.length=n)(hl:∀r∈Au,r.length=z)(W8:us.size=cap*z)(hc:n<=cap)(hm:cap<=maxLen)
  (hv:A9 γ Au.flatten (us.toList.take (n*z))) (h1:∀u∈us.toList.take (n*z),u.oneCell'=true):
  ∃γ',γ.le γ'/\CR C γ0 w0 γ' β σ h a (w.alloc (.cells us e))/\BE γ' (.sl z Au) (.slice (some ⟨w.heap.size,0,none⟩) n cap)/\HV γ' w0.heap.size (w.alloc (.cells us e)) σ.length none (.slice (some ⟨w.heap.size,0,none⟩) n cap) (.sl z Au):=by
 obtain⟨hi,ha⟩:=NW hr.DD us e (0,0) (n*z) (some (.tail σ.length none (n*z))) (λo u ho hu=>h1 u (CD (i:=o) (by rw[C6 ho];simpa using hu))) (.inr (.inl ⟨_,_,rfl⟩));refine⟨_,ha.le,hr.world hi ha,⟨⟨w.heap.size,0,none⟩,cap,by rw[hn],by omega,.inl rfl,MW hl (A9.mono ha.le _ _ hv) λj u hj=>?_⟩,.inr ⟨w.heap.size,n,cap,us,e,z,Au,rfl,rfl,by simp[Gh.C3],hr.Dw.size,heap_alloc_new w _,W8,hc,hm,hz⟩⟩;rw[Cf] at hj;split at hj;·rename_i hlt;simp only[Gh.C3,BK,BJ,if_pos hlt];simpa using hj
 .cases hj
theorem UJ{size:Nat}:∀(vs:List Value) (k:Nat) (cells:Array Value),(∀v∈vs,v.cells.size=size)->(k+vs.length)*size<=cells.size->
  Instr.fill (λi=>some (i*size,size)) cells ((vs.zipIdx k).map λp=>(p.2,p.1))=some (cells.toList.take (k*size)++vs.flatMap (·.cells.toList)++cells.toList.drop ((k+vs.length)*size)).toArray
 |[],k,cells,_,_=>by simp[Instr.fill]
 |v::vs,k,cells,hv,hl=>by
  have hs:v.cells.size=size:=hv v (by simp);simp only[Bd] at hl;have DV:(k+1)*size+vs.length*size<=cells.size:=by rw[<-BB];exact Bt (WX (by congr 1;omega)) hl
  have Wt:(k+1)*size=k*size+size:=by rw[BB,Ey]
  simp only[List.zipIdx_cons,Bl,Instr.fill];have c1:¬(v.cells.size≠size\/k*size+v.cells.size>cells.size):=by rw[hs];omega
  simp only[ne_eq,decide_not,Bool.or_eq_true,DJ,Bool.not_eq_true',decide_eq_false_iff_not] at*;rw[if_neg c1];have hf:=MT v.cells.toList (k*size) 0 cells (by simp[hs];omega);have aJm:v.cells.zipIdx.foldl (λcs (c,j)=>cs.setIfInBounds (k*size+j) c) cells=(cells.toList.take (k*size)++v.cells.toList++cells.toList.drop (k*size+size)).toArray:=by rw[<-Array.foldl_toList,Array.toList_zipIdx];rw[hf];simp[hs]
  rw[aJm];have hlen:(cells.toList.take (k*size)++v.cells.toList++cells.toList.drop (k*size+size)).length=cells.size:=by simp[hs];omega
  rw[UJ vs (k+1) _ (λu hu=>hv u (by simp[hu])) (by simp only[B6];rw[hlen,BB];exact DV)]
  congr 2
  have e1:(cells.toList.take (k*size)++v.cells.toList).length=(k+1)*size:=by simp[hs];omega
  have e2:(cells.toList.take (k*size)++v.cells.toList++cells.toList.drop (k*size+size)).take ((k+1)*size)=cells.toList.take (k*size)++v.cells.toList:=by rw[<-e1];exact GS
  have e3:(cells.toList.take (k*size)++v.cells.toList++cells.toList.drop (k*size+size)).drop ((k+1+vs.length)*size)=cells.toList.drop ((k+(vs.length+1))*size):=by
   rw[List.drop_append,A3 (by rw[e1];exact Ez _ (by omega)),e1,E5,BG];congr 1
   have:(k+1+vs.length)*size-(k+1)*size=vs.length*size:=by rw[BB (k+1)];omega
   rw[this,BB k,BB vs.length];omega
  rw[e2,e3];simp
theorem LA{P:Program}{t:TypeId}(h:LQ P t=true):∃i z,P.info? t=some i/\i.zero=some z/\z.cells.size=i.size:=by
 unfold LQ at h;split at h
 .rename_i i hi;split at h;·rename_i z hz;exact⟨i,z,hi,hz,by simpa using h⟩
  .cases h
 .cases h
theorem IS{P:Program}{t:TypeId}{n:Nat}{i:TypeInfo}(h:BP P t=some n)(hi:P.info? t=some i):i.size=n:=by simpa[BP,hi] using h
theorem KD{P:Program}{t:TypeId}{n:Nat}{i:TypeInfo}(h:I6 P t=some n)(hi:P.info? t=some i):i.bytes=n:=by simpa[I6,hi] using h
theorem UK:∀{args:List Aa} {us:List Value} {z:Nat},A9 γ args us->(∀x∈args,x.cells.length=z)->0<z->A9 γ (args.map (·.cells)).flatten (us.flatMap (·.cells.toList))/\(∀u∈us.flatMap (·.cells.toList),u.oneCell'=true)/\∀u∈us,u.cells.size=z
 |[],us,z,h,_,_=>by rw[A9] at h;subst h;exact⟨rfl,by simp,by simp⟩
 |x::args,us,z,h,hl,hz=>by
  obtain⟨u,Dj,rfl,h1,h2⟩:=h;have hx:=hl x (by simp);obtain⟨q1,q2⟩:=Gu h1 (by omega);obtain⟨r1,r2,r3⟩:=UK h2 (λy hy=>hl y (by simp[hy])) hz;refine⟨by simpa using q1.append r1,λv hv=>?_,λv hv=>?_⟩;·simp only[eO,Ao] at hv;exact hv.elim (q2 v) (r2 v)
  .rcases AL.1 hv with rfl|hv
   .have:=q1.length;simp at this;omega
   .exact r3 v hv
theorem Xj{a:Act}:∀{l:List (Nat×Operand)} {k:Nat},l.map (·.1)=List.range' k l.length->l.map (λp=>(p.1,a.eval p.2))=((l.map λp=>a.eval p.2).zipIdx k).map λp=>(p.2,p.1)
 |[],k,_=>by simp
 |(i,x)::l,k,h=>by simp only[Bl,Bd,List.range'_succ,Hp] at h;obtain⟨rfl,h⟩:=h;simp[List.zipIdx_cons,Xj h]
theorem vQ{o:Oper}{t e:TypeId}{len n:Nat}{parts:Array (Nat×Operand)}{args:List Aa}{u:Aa}(ho:o.op= .buildSlice t len parts)(ht:C.P.underlying t=some (.slice e))(hsz:BP C.P e=some (n+1))(hp:parts.toList.map (·.1)=List.range len)(eH:LQ C.P e=true)
  (ha:Bq C σ (parts.toList.map (·.2))=some args) (hu:Aw (.Bx (n+1)) args=some u) (hr:CR C γ0 w0 γ β σ h a w):FJ C γ0 w0 o a w (σ.put o.dst (.own u)) h:=by
 obtain⟨i,z,hi,hz,ZJ⟩:=LA eH;have O8:=IS hsz hi;simp only[Aw] at hu;split at hu
 .rename_i hc;cases hu;simp only[BL,EI,beq_iff_eq,DJ] at hc;obtain⟨O9,HH⟩:=hc;have Ed:=Dx hr ha;have hlen:parts.toList.length=len:=by have:=Cd List.length hp;simpa using this
  have hal:args.length=len:=by have:=Ed.length;simp at this;simp at hlen;omega
  obtain⟨q1,q2,q3⟩:=UK Ed O9 (Db n);have Xk:=q1.length;rw[Gv (z:=n+1) (by intro r hr;obtain⟨x,hx,rfl⟩:=Bk.1 hr;exact O9 x hx),Ai,hal] at Xk;have AV:∃cells:Array Value,cells.toList=(parts.toList.map (·.2) |>.map a.eval).flatMap (·.cells.toList)/\(Instr.buildSlice t len (parts.map λ(i,x)=>(i,a.eval x))).run C.P w= .ok (.slice (some ⟨w.heap.size,0,none⟩) len len) (w.alloc (.cells cells e)):=by
   have ZH:(parts.map λ(i,x)=>(i,a.eval x)).toList=(((parts.toList.map (·.2)).map a.eval).zipIdx 0).map λp=>(p.2,p.1):=by have:=Xj (a:=a) (l:=parts.toList) (k:=0) (by rw[hlen,<-List.range_eq_range'];exact hp);simp only[tX,List.map_map];exact this
   have lB:=UJ (size:=n+1) ((parts.toList.map (·.2)).map a.eval) 0 ((Array.range (len*(n+1))).map (z.cells[·%z.cells.size]!)) q3 (by simp at hlen⊢;rw[hlen];exact Ac _);rw[<-ZH] at lB;have e0:((Array.range (len*(n+1))).map (z.cells[·%z.cells.size]!)).toList.drop ((0+((parts.toList.map (·.2)).map a.eval).length)*(n+1))=[]:=by apply A3;simp at hlen⊢;rw[hlen];exact Ac _
   rw[e0] at lB;simp only[dj,L5,BG,BC] at lB;refine⟨_,rfl,?_⟩;by_cases h0:len*(n+1)=0
   .have hl0:len=0:=by
     rcases Nat.mul_eq_zero.1 h0 with h|h
     .exact h
     .omega
    subst hl0;have hp0:parts=#[]:=by apply Sx;simpa using hlen
    subst hp0;have hrz:(Array.range 0:Array Nat)=#[]:=rfl;simp[Instr.buildSlice,run_underlying ht,sizeOf,typeInfo,hi,newRow,Instr.fill,hrz]
   .exact run_buildSlice w t e len _ _ i z ht hi hz (by rw[O8];rw[hal] at HH;omega) (by rw[O8];exact h0) (by rw[O8];exact lB)
  obtain⟨cells,hcells,AV⟩:=AV;have hcs:cells.size=len*(n+1):=by rw[<-Cg,hcells];exact Xk
  obtain⟨γ',DV,Fu,Du,E0⟩:=hr.aG cells e (z:=n+1) (n:=len) (cap:=len) (Au:=args.map (·.cells)) (Db n) (by simp[hal]) (by intro r hr;obtain⟨x,hx,rfl⟩:=Bk.1 hr;exact O9 x hx) hcs (Ac _)
   (by rw[hal] at HH;have:len<=len*(n+1):=O5 _ (Db n);simp only[maxLen];omega) (by rw[hcells,Ay (by rw[Xk];exact Ac _)];exact q1) (by rw[hcells,Ay (by rw[Xk];exact Ac _)];exact q2)
  obtain⟨γ2,KX⟩:=Fu.Yi Du E0 o.dst;exact FJ.value (by simp only[execOp,ho];exact Dq AV) KX
 .cases hu
theorem lE{t':TypeId}{size bytes:Nat}{v u r:Aa}{xv:Value}(FH:(∃e',C.P.underlying t'=some (.slice e'))\/C.P.underlying t'=some .string)(hi:Gp γ h w)(hu:BE γ u xv)(hp:HB size bytes v u=some r):
  ∃(Au:List (List Aa)) (news:List Value),DN size bytes v Au=some r/\Src C.P size t' xv Au.length news w/\A9 γ Au.flatten news/\(∀r∈Au,r.length=size):=by
 unfold HB at hp;split at hp;·rw[show xv=_ from hu];exact⟨[],[],hp,⟨FH,λ_=>rfl,run_firstCells_none w size 0 0 0,run_firstCells_none w.drew size 0 0 0,by simp,by simp⟩,rfl,by simp⟩
 .rename_i z Au;split at hp
  .rename_i hz;subst hz;obtain⟨ad,cap,hxv,N3,hsp,hR⟩:=hu;obtain⟨us,p1,p2,p3⟩:=hR.values;have Mh:∀(j:Nat) (x:Value),us[j]?=some x->ad.add j=⟨ad.block,ad.off+j,none⟩:=λj x hj=>by
    have hpos:0<Au.length:=by
     rcases OC Au.length with h0|h0
     .have:us.length=0:=by rw[p2,h0,dj]
      rw[EU this] at hj;simp at hj
     .exact h0
    have fC:=MN hsp N3 hpos;generalize ad.block=b at*;generalize ad.off=o at*;subst fC;unfold Addr.add;split<;>simp_all
   rw[hxv];refine⟨Au,us,hp,⟨FH,λ_=>rfl,run_firstCells_some w _ _ _ _ _ us p2 (λj x hj=>by rw[Mh j x hj];exact(hi.Hy _ _ _ (p3 j x hj)).1),run_firstCells_some w.drew _ _ _ _ _ us p2 (λj x hj=>by rw[Mh j x hj];exact(hi.Hy _ _ _ (p3 j x hj)).1),p2,λx hx=>?_⟩,p1,λr hr=>?_⟩;·obtain⟨j,hj⟩:=CS hx;exact(hi.Hy _ _ _ (p3 j x hj)).2.1
   .obtain⟨j,hj⟩:=CS hr;exact(hR.get hj).1
  .cases hp
 .rename_i s;split at hp
  .rename_i hz;subst hz;rw[show xv=_ from hu];have hlen:(BZ s).length=(⟨⟨s⟩⟩:ByteArray).size:=by simp[BZ,ByteArray.size]
   have hrel:∀l:List UInt8,A9 γ (BZ l).flatten (l.map λb=>Value.int .u8 b.toNat):=by
    intro l;induction l with
    |nil=>rfl
    |cons b l ih=>exact⟨_,_,rfl,rfl,ih⟩
   refine⟨BZ s,byteCells ⟨⟨s⟩⟩,hp,?_,?_,λr hr=>?_⟩;·rw[hlen];exact⟨FH,λ_=>rfl,firstCells_string _ w,firstCells_string _ w.drew,by rw[byteCells_length,Kj],λu hu=>by obtain⟨_,_,rfl⟩:=Bk.1 hu;rfl⟩
   .simpa[byteCells] using hrel s
   .obtain⟨b,_,rfl⟩:=Bk.1 hr;rfl
  .cases hp
 .cases hp
theorem CR.vR(hr:CR C γ0 w0 γ β σ h a w){g n cap z:Nat}{us:Array Value}{e:TypeId}{rr Au:List (List Aa)}{news:List Value}(E0:γ.own g=some (.tail σ.length none (n*z)))(hB:w0.heap.size<=g)(hg:w.heap[g]?=some (.cells us e (0,0)))
  (W8:us.size=cap*z) (hm:cap<=maxLen) (hz:0<z) (hv:BE γ (.sl z rr) (.slice (some ⟨g,0,none⟩) n cap)) (hl:∀r∈Au,r.length=z) (hn:A9 γ Au.flatten news) (h1:∀u∈news,u.oneCell'=true) (hroom:n+Au.length<=cap):
  ∃γ',γ.le γ'/\CR C γ0 w0 γ' β σ h a (w.setRow g (us.toList.take (n*z)++news++us.toList.drop (n*z+news.length)).toArray)/\BE γ' (.sl z (rr++Au)) (.slice (some ⟨g,0,none⟩) (n+Au.length) cap)/\
   HV γ' w0.heap.size (w.setRow g (us.toList.take (n*z)++news++us.toList.drop (n*z+news.length)).toArray) σ.length none (.slice (some ⟨g,0,none⟩) (n+Au.length) cap) (.sl z (rr++Au)):=by
 obtain⟨ad,cap',fM,N3,_,hR⟩:=hv;simp only[Value.slice.injEq,BA] at fM;obtain⟨rfl,rfl,rfl⟩:=fM;simp only at hR;have NF:news.length=Au.length*z:=by rw[hn.length,Gv hl]
 have hfit:(rr.length+Au.length)*z<=us.size:=by rw[W8];exact Ez _ hroom
 rw[BB] at hfit;have ym:(us.toList.take (rr.length*z)).length=rr.length*z:=by simp;omega
 obtain⟨vs,q1,q2,q3⟩:=hR.values;have hvs:vs=us.toList.take (rr.length*z):=by
  apply List.ext_getElem?;intro j;by_cases hj:j<rr.length*z
  .have hjv:j<vs.length:=by rw[q2];exact hj
   have hc:=(hr.DD.Hy _ _ _ (q3 j _ (Ae hjv))).1;rw[cell_of_row w _ _ us e (0,0) hg,BJ] at hc;rw[Ae hjv,C6 hj];simpa using hc.symm
  .rw[EZ (by omega),EZ (by rw[ym];omega)]
 rw[hvs] at q1;have NG:∀u∈us.toList.take (rr.length*z),u.oneCell'=true:=λu hu=>by rw[<-hvs] at hu;obtain⟨j,hj⟩:=CS hu;exact(hr.DD.Hy _ _ _ (q3 j u hj)).2.1
 have hkk:(rr.length+Au.length)*z=rr.length*z+Au.length*z:=BB _ _ _;have tq:((us.toList.take (rr.length*z)++news++us.toList.drop (rr.length*z+news.length)).toArray).toList.take ((rr.length+Au.length)*z)=us.toList.take (rr.length*z)++news:=by
  have:(us.toList.take (rr.length*z)++news).length=(rr.length+Au.length)*z:=by rw[As,ym,NF,hkk]
  rw[<-this];exact GS
 have hsz:(us.toList.take (rr.length*z)++news++us.toList.drop (rr.length*z+news.length)).length=us.size:=by simp[NF];omega
 generalize hU:(us.toList.take (rr.length*z)++news++us.toList.drop (rr.length*z+news.length)).toArray=Dj at*;have aJo:Dj.size=us.size:=by rw[<-hU];simpa using hsz
 obtain⟨hi,DV⟩:=eW hr.DD E0 hg Dj ((rr.length+Au.length)*z) σ.length none (λo ho=>by
   rw[<-hU,AD,List.getElem?_toArray,Af (by omega),C6 ho];simp)
  (by omega) (λo u ho hu=>by
   have:u∈Dj.toList.take ((rr.length+Au.length)*z):=by refine CD (i:=o) ?_;rw[C6 ho];simpa using hu
   rw[tq,Ao] at this;exact this.elim (NG u) (h1 u)) (λo v hv=>by
   have:=(hr.DD.Hy _ _ _ hv).1;rwa [cell_of_row w _ _ us e (0,0) hg] at this)
 have hk:OI g γ w (γ.C3 g Dj ((rr.length+Au.length)*z) (some (.tail σ.length none ((rr.length+Au.length)*z)))) (w.setRow g Dj):=
  ⟨DV,λb x hb hx _=>⟨by simp only[Gh.C3,if_neg hb];exact hx,setRow_other w g b Dj hb⟩⟩
 have hR':EP (γ.C3 g Dj ((rr.length+Au.length)*z) (some (.tail σ.length none ((rr.length+Au.length)*z)))) (rr++Au) z g 0:=by
  refine MW (us:=Dj.toList.take ((rr.length+Au.length)*z)) (λr hr=>?_) ?_ (λj u hj=>?_)
  .rcases Ao.1 hr with hr|hr
   .obtain⟨i,hi⟩:=CS hr;exact(hR.get hi).1
   .exact hl r hr
  .rw[tq,Wq];exact(A9.mono DV _ _ q1).append (A9.mono DV _ _ hn)
  .rw[Cf] at hj;split at hj;·rename_i hlt;simp only[Gh.C3,BK,BJ,if_pos hlt];simpa using hj
   .cases hj
 refine⟨_,DV,⟨hi,⟨hr.fr.size,λs=>?_⟩,hr.Dw.write (g:=g) hB DV (by simp) rfl rfl rfl (λb hb=>⟨setRow_other w g b Dj hb,by simp only[Gh.C3,if_neg hb]⟩),hr.defers,λx cs hx=>CI.mono DV _ _ _ (hr.Gf x cs hx)⟩,
  ⟨⟨g,0,none⟩,cap,by simp,by simpa using hroom,.inl rfl,hR'⟩,.inr ⟨g,rr.length+Au.length,cap,Dj,e,z,rr++Au,rfl,rfl,by simp[Gh.C3],hB,setRow_heap w g us Dj e (0,0) hg,by rw[aJo,W8],hroom,hm,hz⟩⟩
 by_cases hs:s=σ.length;·subst hs;rw[BD.RM];trivial
 .exact(hr.fr.Hs s).keptBut E0 hk (by simp only[Jq.eS];intro hx;cases hx;exact hs rfl)
theorem MX{t t' ty:TypeId}{ts:Array TypeId}{xs:Array Value}(h0:ts[0]?=some t)(h1:ts[1]?=some t'):Builtin.append_ ts ty xs=Builtin.append_ #[t,t'] ty xs:=by simp only[Builtin.append_,h0,h1];rfl
theorem A9.fq{l:List Aa}{us:List Value}{n:Nat}(h:A9 γ l us)(hn:us.length<=n):A9 γ l (us.take n):=by rw[Ay hn];exact h
theorem Mi{cs:List Aa}{z:Nat}:∀{n off:Nat},(Cj cs z off n).flatten=(cs.drop off).take (n*z)
 |0,off=>by simp[Cj]
 |n+1,off=>by rw[Cj,C9,Mi,BB,Ey,Nat.add_comm (n*z) z,List.take_add,E5]
theorem Nw{cs:List Aa}{z:Nat}:∀{n off:Nat},(Cj cs z off n).length=n
 |0,off=>rfl
 |n+1,off=>by rw[Cj,Bd,Nw]
theorem Pk{cs:List Aa}{z:Nat}:∀{n off:Nat},off+n*z<=cs.length->∀r∈Cj cs z off n,r.length=z
 |0,off,_,r,hr=>by simp[Cj] at hr
 |n+1,off,hl,r,hr=>by
  rw[BB,Ey] at hl;rw[Cj,AL] at hr;rcases hr with rfl|hr
  .rw[Al,A8];omega
  .exact Pk (by omega) r hr
theorem UL{t':TypeId}{size:Nat}{u:Aa}{xv:Value}{Au:List (List Aa)}(FH:(∃e',C.P.underlying t'=some (.slice e'))\/C.P.underlying t'=some .string)(hi:Gp γ h w)(hu:BE γ u xv)(hp:Ge h size u=some Au):
  ∃news:List Value,Src C.P size t' xv Au.length news w/\A9 γ Au.flatten news/\(∀r∈Au,r.length=size):=by
 unfold Ge at hp;split at hp;·cases hp;rw[show xv=_ from hu];exact⟨[],⟨FH,λ_=>rfl,run_firstCells_none w size 0 0 0,run_firstCells_none w.drew size 0 0 0,by simp,by simp⟩,rfl,by simp⟩
 .rename_i z rows';split at hp
  .rename_i hz;cases hp;subst hz;obtain⟨ad,cap,hxv,N3,hsp,hR⟩:=hu;obtain⟨us,p1,p2,p3⟩:=hR.values;have Mh:∀(j:Nat) (x:Value),us[j]?=some x->ad.add j=⟨ad.block,ad.off+j,none⟩:=λj x hj=>by
    have hpos:0<Au.length:=by
     rcases OC Au.length with h0|h0
     .have:us.length=0:=by rw[p2,h0,dj]
      rw[EU this] at hj;simp at hj
     .exact h0
    have fC:=MN hsp N3 hpos;generalize ad.block=b at*;generalize ad.off=o at*;subst fC;unfold Addr.add;split<;>simp_all
   rw[hxv];refine⟨us,⟨FH,λ_=>rfl,run_firstCells_some w _ _ _ _ _ us p2 (λj x hj=>by rw[Mh j x hj];exact(hi.Hy _ _ _ (p3 j x hj)).1),run_firstCells_some w.drew _ _ _ _ _ us p2 (λj x hj=>by rw[Mh j x hj];exact(hi.Hy _ _ _ (p3 j x hj)).1),p2,λx hx=>?_⟩,p1,λr hr=>?_⟩;·obtain⟨j,hj⟩:=CS hx;exact(hi.Hy _ _ _ (p3 j x hj)).2.1
   .obtain⟨j,hj⟩:=CS hr;exact(hR.get hj).1
  .cases hp
 .rename_i s;split at hp
  .rename_i hz;cases hp;subst hz;rw[show xv=_ from hu];have hlen:(BZ s).length=(⟨⟨s⟩⟩:ByteArray).size:=by simp[BZ,ByteArray.size]
   have hrel:∀l:List UInt8,A9 γ (BZ l).flatten (l.map λb=>Value.int .u8 b.toNat):=by
    intro l;induction l with
    |nil=>rfl
    |cons b l ih=>exact⟨_,_,rfl,rfl,ih⟩
   refine⟨byteCells ⟨⟨s⟩⟩,?_,?_,λr hr=>?_⟩;·rw[hlen];exact⟨FH,λ_=>rfl,firstCells_string _ w,firstCells_string _ w.drew,by rw[byteCells_length,Kj],λu hu=>by obtain⟨_,_,rfl⟩:=Bk.1 hu;rfl⟩
   .simpa[byteCells] using hrel s
   .obtain⟨b,_,rfl⟩:=Bk.1 hr;rfl
  .cases hp
 .rename_i id off n z;split at hp
  .rename_i hz;subst hz;split at hp
   .rename_i cs hcs;split at hp
    .rename_i hl;cases hp;obtain⟨b,cap,hb,hxv,N3,du,hsz⟩:=hu;obtain⟨us,e,fr,p1,pf,p2,p3⟩:=hi.cells id cs hcs b hb;have ZI:(us.toList.take cs.length).length=cs.length:=p2.length;have NF:(((us.toList.take cs.length).drop off).take (n*z)).length=n*z:=by rw[Al,A8,ZI];omega
     have Mh:∀j,(⟨b,off,none⟩:Addr).add j=⟨b,off+j,none⟩:=λj=>by unfold Addr.add;split<;>simp_all
     have IP:∀(j:Nat) (x:Value),(((us.toList.take cs.length).drop off).take (n*z))[j]?=some x->w.cell? ((⟨b,off,none⟩:Addr).add j)=some x:=λj x hj=>by
      rw[Mh,cell_of_row w _ _ us e fr p1];rw[Cf] at hj;split at hj
      .rw[Cz,Cf] at hj;split at hj;·simpa using hj
       .cases hj
      .cases hj
     rw[hxv,Nw];refine⟨((us.toList.take cs.length).drop off).take (n*z),⟨FH,λ_=>rfl,run_firstCells_some w _ _ _ _ _ _ NF IP,run_firstCells_some w.drew _ _ _ _ _ _ NF (λj x hj=>IP j x hj),NF,λx hx=>p3 x (Bv (Bf hx))⟩,?_,Pk hl⟩;rw[Mi];exact(p2.drop off).take (n*z)
    .cases hp
   .cases hp
  .cases hp
 .cases hp
theorem Nx{o:Oper}{c:Call}{t t' e:TypeId}{n b:Nat}{s x:Operand}{v u r:Aa}{Au:List (List Aa)}{news:List Value}(ho:o.op= .call c)(hc:c.callee= .builtin .append)(h0:c.argTypes[0]?=some t)(h1:c.argTypes[1]?=some t')(Ed:c.args.toList=[s,x])(ht:C.P.underlying t=some (.slice e))
  (FH:(∃e',C.P.underlying t'=some (.slice e'))\/C.P.underlying t'=some .string) (hsz:BP C.P e=some (n+1)) (vS:I6 C.P e=some (b+1)) (E0:J1 C σ s=true) (eH:LQ C.P e=true) (hv:Bq C σ [s,x]=some [v,u])
  (GK:DN (n+1) (b+1) v Au=some r) (JB:Src C.P (n+1) t' (a.eval x) Au.length news w) (Xl:A9 γ Au.flatten news) (eI:∀q∈Au,q.length=n+1) (hr:CR C γ0 w0 γ β σ h a w):FJ C γ0 w0 o a w ((σ.Dm (CY σ s)).put o.dst (.own r)) h:=by
 obtain⟨i,z,hi,hz,ZJ⟩:=LA eH;have O8:=IS hsz hi;have yn:=KD vS hi;obtain⟨_,_,e0,hvs,fN⟩:=Fa hr hv;cases e0;have fo:Es C σ s=some v:=by
  unfold Bq at hv;split at hv;·rename_i p ps q1 q2;cases hv;exact q1
  .cases hv
 obtain⟨γ1,DV,Jr,Du,hT⟩:=N2 hr E0 fo (σ.Dm (CY σ s)).length none;have vT:=A9.mono DV _ _ Xl;have Jk:c.args.map a.eval=#[a.eval s,a.eval x]:=by apply Jh;simp[Ed]
 have MI:∀v' w',(Builtin.append_ #[t,t'] o.type #[a.eval s,a.eval x]).run C.P w= .ok v' w'->(execOp a.eval o).run C.P w= .ok (.value v') w':=λv' w' AV=>by
  have:execOp a.eval o=(do pure (Next.value (<-Builtin.append_ #[t,t'] o.type #[a.eval s,a.eval x]))):=by rw[<-Jk,<-MX (ty:=o.type) h0 h1];simp only[execOp,ho,resolve,hc];rfl
  rw[this];exact Dq AV
 have Kz:Src C.P i.size t' (a.eval x) Au.length news w:=by rw[O8];exact JB
 have NF:news.length=Au.length*(n+1):=JB.newsLen;have FE:∀(base:Option Addr) (k cap:Nat) (rr:List (List Aa)) (olds:List Value),a.eval s= .slice base k cap->rr.length=k->(∀q∈rr,q.length=n+1)->A9 γ1 rr.flatten olds->(∀q∈olds,q.oneCell'=true)->
   (Builtin.firstCells i.size k (.slice base k cap)).run C.P w.drew= .ok olds.toArray w.drew->cap<k+Au.length->(k+Au.length)*(b+1)<=AS->r= .sl (n+1) (rr++Au)->
   FJ C γ0 w0 o a w ((σ.Dm (CY σ s)).put o.dst (.own r)) h:=by
  intro base k cap rr olds hs hk hrr uE yj hfirst hlt Pl Wi;have Qq:k+Au.length<=AS:=Bt (O5 _ (Db b)) Pl;have Fk:=run_append_grow_src (P:=C.P) w t t' o.type e i z ht hi hz base k cap olds hfirst (a.eval x) Au.length news Kz hlt (by simp only[AS] at Qq;omega) (by rw[yn];exact growslice_fits hlt Pl);rw[<-hs] at Fk;have D1:=grownCap_ge w (k+Au.length) cap e;have aJp:olds.length=k*(n+1):=by rw[uE.length,Gv hrr,hk]
  have qX:(olds++news).length=(k+Au.length)*(n+1):=by rw[As,aJp,NF,BB]
  obtain⟨γ2,aE,KX,UI,hT2⟩:=Jr.drew.aG ((olds++news).toArray++Builtin.zeroCells z.cells (grownCap w (k+Au.length) cap e-(k+Au.length))) e (z:=n+1) (n:=k+Au.length) (cap:=grownCap w (k+Au.length) cap e) (Au:=rr++Au) (Db n) (by simp[hk])
   (λq hq=>(Ao.1 hq).elim (hrr q) (eI q))
   (by simp only[Qn,B6,size_zeroCells,ZJ,O8,qX,<-BB];congr 1;omega) D1 (grownCap_le_maxLen w _ _ _ (by simp only[AS] at Qq;simp only[maxLen];omega))
   (by simp only[Jt,Wq];rw[<-qX,GS];exact uE.append vT)
   (λq hq=>by simp only[Jt] at hq;rw[<-qX,GS,Ao] at hq;exact hq.elim (yj q) (JB.one q))
  rw[Wi];obtain⟨γ3,yo⟩:=KX.Yi UI hT2 o.dst;exact FJ.value (MI _ _ Fk) yo
 rcases hT with rfl|⟨g,k,cap,us,e1,zz,rr,rfl,Kq,Rw,hB,hg,W8,fu,hm,hzz⟩
 .have Kq:a.eval s= .slice none 0 0:=Du;cases Au with
  |nil=>
   have Wi:r= .slnil:=by simpa[DN] using GK.symm
   have uB:news=[]:=EU (by simpa using NF);subst uB;have AV:(Builtin.append_ #[t,t'] o.type #[a.eval s,a.eval x]).run C.P w= .ok (.slice none 0 0) w:=by rw[Kq];have hl:=Kz.len;have WA:=Kz.cells;simp only[BT] at hl WA;rcases FH with⟨e',hk⟩|hk<;>simp[Builtin.append_,run_underlying ht,run_underlying hk,sizeOf,typeInfo,hi,hl,WA]
   rw[Wi];exact FJ.value (MI _ _ AV) (Jr.put λ_ _=>⟨rfl,.inl rfl⟩)
  |cons q Au=>
   have SJ:r= .sl (n+1) (q::Au)/\(q::Au).length*(b+1)<=AS:=by
    simp only[DN] at GK;split at GK;·rename_i hb;cases GK;exact⟨rfl,hb⟩
    .cases GK
   exact FE none 0 0 [] [] Kq rfl (by simp) rfl (by simp) (run_firstCells_none _ _ _ _ _) (by simp) (by simpa using SJ.2) (by simpa using SJ.1)
 .obtain⟨ad0,cap0,fM,N3,_,hR⟩:=id Du;rw[Kq] at fM;simp only[Value.slice.injEq,BA] at fM;obtain⟨rfl,hk,rfl⟩:=fM;subst hk;simp only at hR;have hzn:zz=n+1/\r= .sl (n+1) (rr++Au)/\(Au=[]\/(rr.length+Au.length)*(b+1)<=AS):=by
   cases Au with
   |nil=>
    simp only[DN] at GK;split at GK;·rename_i ZF;cases GK;exact⟨ZF,by simp[ZF],.inl rfl⟩
    .cases GK
   |cons q Au=>
    simp only[DN] at GK;split at GK;·rename_i ZF;cases GK;exact⟨ZF.1,rfl,.inr ZF.2⟩
    .cases GK
  obtain⟨rfl,Wi,Pl⟩:=hzn;by_cases hroom:rr.length+Au.length<=cap
  .have hfit:rr.length*(n+1)+news.length<=us.size:=by rw[NF,W8,<-BB];exact Ez _ hroom
   have AV:=run_append_room_src (P:=C.P) w t t' o.type e i ht hi g 0 rr.length cap (a.eval x) Au.length news Kz hroom (λj hj=>by rw[cell_of_row w _ _ us e1 (0,0) hg,O8,C2 (by omega)];rfl) (λj hj=>frozen_of_row w _ _ us e1 hg)
   rw[BJ,O8,Ec news _ us w hg hfit,<-Kq] at AV;rw[Kq] at Du;obtain⟨γ2,aE,KX,UI,hT2⟩:=Jr.vR Rw hB hg W8 hm (Db n) Du eI vT JB.one hroom;obtain⟨γ3,yo⟩:=KX.Yi UI hT2 o.dst;rw[Wi];exact FJ.value (MI _ _ AV) yo
  .obtain⟨vs,q1,q2,q3⟩:=hR.values;have Mh:∀j,(⟨g,0,none⟩:Addr).add j=⟨g,0+j,none⟩:=λj=>by unfold Addr.add;split<;>simp_all
   refine FE (some ⟨g,0,none⟩) rr.length cap rr vs Kq rfl (λq hq=>?_) q1 (λq hq=>?_) ?_ (by omega) ?_ Wi;·obtain⟨j,hj⟩:=CS hq;exact(hR.get hj).1
   .obtain⟨j,hj⟩:=CS hq;exact(Jr.DD.Hy _ _ _ (q3 j q hj)).2.1
   .rw[O8];exact run_firstCells_some w.drew _ _ _ _ _ vs q2 (λj y hj=>by rw[Mh];exact(Jr.DD.Hy _ _ _ (q3 j y hj)).1)
   .rcases Pl with rfl|Pl
    .simp at hroom;omega
    .exact Pl
theorem fO{o:Oper}{c:Call}{t t' e:TypeId}{n b:Nat}{s x:Operand}{v u r:Aa}(ho:o.op= .call c)(hc:c.callee= .builtin .append)(h0:c.argTypes[0]?=some t)(h1:c.argTypes[1]?=some t')(Ed:c.args.toList=[s,x])(ht:C.P.underlying t=some (.slice e))
  (FH:(∃e',C.P.underlying t'=some (.slice e'))\/C.P.underlying t'=some .string) (hsz:BP C.P e=some (n+1)) (vS:I6 C.P e=some (b+1)) (E0:J1 C σ s=true) (eH:LQ C.P e=true) (hv:Bq C σ [s,x]=some [v,u])
  (hp:Aw (.append (n+1) (b+1)) [v,u]=some r) (hr:CR C γ0 w0 γ β σ h a w):FJ C γ0 w0 o a w ((σ.Dm (CY σ s)).put o.dst (.own r)) h:=by
 obtain⟨_,_,e0,hvs,fN⟩:=Fa hr hv;cases e0;simp only[Aw] at hp;obtain⟨Au,news,GK,JB,Xl,eI⟩:=lE (w:=w) FH hr.DD fN hp;exact Nx ho hc h0 h1 Ed ht FH hsz vS E0 eH hv GK JB Xl eI hr
theorem aH{o:Oper}{c:Call}{t t' e:TypeId}{n b:Nat}{s x:Operand}{v u r:Aa}(ho:o.op= .call c)(hc:c.callee= .builtin .append)(h0:c.argTypes[0]?=some t)(h1:c.argTypes[1]?=some t')(Ed:c.args.toList=[s,x])(ht:C.P.underlying t=some (.slice e))
  (FH:(∃e',C.P.underlying t'=some (.slice e'))\/C.P.underlying t'=some .string) (hsz:BP C.P e=some (n+1)) (vS:I6 C.P e=some (b+1)) (E0:J1 C σ s=true) (eH:LQ C.P e=true) (hv:Bq C σ [s,x]=some [v,u])
  (hp:Pg h (n+1) (b+1) v u=some r) (hr:CR C γ0 w0 γ β σ h a w):FJ C γ0 w0 o a w ((σ.Dm (CY σ s)).put o.dst (.own r)) h:=by
 obtain⟨_,_,e0,hvs,fN⟩:=Fa hr hv;cases e0;unfold Pg at hp;cases hq:Ge h (n+1) u with
 |none=>rw[hq] at hp;cases hp
 |some Au=>rw[hq] at hp;obtain⟨news,JB,Xl,eI⟩:=UL (w:=w) FH hr.DD fN hq;exact Nx ho hc h0 h1 Ed ht FH hsz vS E0 eH hv hp JB Xl eI hr
end
section
variable{C:FG}{γ0 γ γ':Gh}{w0 w w':World}{β:Nat->Nat}{σ:BD}{h:Ad}{a:Act}{fid:FuncId}{ops:List Oper}
theorem QF:∀s:Ap,(BZ s).flatten=s.map λb=>Aa.int .u8 b.toNat
 |[]=>rfl
 |_::s=>by have:=QF s;simp only[BZ,Bl,C9] at this⊢;rw[this];rfl
theorem KY(γ:Gh):∀l:Ap,A9 γ (BZ l).flatten (l.map λb=>Value.int .u8 b.toNat)
 |[]=>rfl
 |_::l=>⟨_,_,rfl,rfl,KY γ l⟩
theorem JS(s:Ap)(cap:Nat):(bytesRow ⟨⟨s⟩⟩ cap).toList.take s.length=s.map λb=>Value.int .u8 b.toNat:=by
 have:(s.map λb=>Value.int .u8 (b.toNat:Int)).length=s.length:=by simp
 simp only[bytesRow,Jt,tX];rw[<-this];exact GS
theorem Yj(s:Ap):(⟨⟨s⟩⟩:ByteArray).size=s.length:=by simp[ByteArray.size]
theorem fw{o:Oper}{src dst e:TypeId}{x:Operand}{v u:Aa}(ho:o.op= .convert src dst x)(hs:C.P.underlying src=some .string)(hd:C.P.underlying dst=some (.slice e))(he:C.P.underlying e=some (.int .u8))(hx:Bq C σ [x]=some [v])(hp:Aw .s2b [v]=some u)(hr:CR C γ0 w0 γ β σ h a w):
  FJ C γ0 w0 o a w (σ.put o.dst (.val u)) h:=by
 obtain⟨_,e0,hv⟩:=FZ hr hx;cases e0;simp only[Aw] at hp;split at hp
 .rename_i s Jk;cases Jk;split at hp
  .cases hp;have AV:=run_bytes_of_string (P:=C.P) w src dst e ⟨⟨s⟩⟩ hs hd he;rw[<-MR hv] at AV;have tr:=grownCap_ge w s.length 0 e;rw[Yj] at AV;obtain⟨hi,ha⟩:=NW hr.drew.DD (bytesRow ⟨⟨s⟩⟩ (grownCap w s.length 0 e)) e ((bytesRow ⟨⟨s⟩⟩ (grownCap w s.length 0 e)).size,(bytesRow ⟨⟨s⟩⟩ (grownCap w s.length 0 e)).size+1) s.length none (λo u ho hu=>by have hm:u∈(bytesRow ⟨⟨s⟩⟩ (grownCap w s.length 0 e)).toList.take s.length:=CD (i:=o) (by rw[C6 ho];simpa using hu);rw[JS] at hm;obtain⟨b,_,rfl⟩:=Bk.1 hm;rfl) (.inl rfl)
   have Fu:=hr.drew.world hi ha;refine FJ.value (v:= .slice (some ⟨w.heap.size,0,none⟩) s.length (grownCap w s.length 0 e)) (by simp only[execOp,ho];exact Dq AV) (Fu.put λ_ _=>⟨⟨w.heap.size,0,none⟩,grownCap w s.length 0 e,by simp[BZ],by simpa[BZ] using tr,.inl rfl,?_⟩);refine MW (us:=s.map λb=>Value.int .u8 b.toNat) (λr hr=>?_) (KY _ s) (λj u hj=>?_);·obtain⟨b,_,rfl⟩:=Bk.1 hr;rfl
   .rw[<-JS s (grownCap w s.length 0 e),Cf] at hj;split at hj;·rename_i hlt;simp only[Gh.C3,heap_drew,BK,BJ,if_pos hlt];simpa using hj
    .cases hj
  .cases hp
 .cases hp
theorem Yk{o:Oper}{src dst e:TypeId}{x:Operand}{v u:Aa}{h':Ad}(ho:o.op= .convert src dst x)(hs:C.P.underlying src=some .string)(hd:C.P.underlying dst=some (.slice e))(he:C.P.underlying e=some (.int .u8))(hx:Es C σ x=some v)(hp:IM h v=some (h',u))(hr:CR C γ0 w0 γ β σ h a w):
  FJ C γ0 w0 o a w (σ.put o.dst (.val u)) h':=by
 have hv:=FQ hr hx;unfold IM at hp;split at hp
 .rename_i s;split at hp
  .cases hp;have AV:=run_bytes_of_string (P:=C.P) w src dst e ⟨⟨s⟩⟩ hs hd he;rw[<-MR hv] at AV;have tr:=grownCap_ge w s.length 0 e;rw[Yj] at AV;have hl:(s.map λb=>Aa.int .u8 b.toNat).length=s.length:=by simp
   have hbs:(bytesRow ⟨⟨s⟩⟩ (grownCap w s.length 0 e)).size=grownCap w s.length 0 e:=by have e0:ByteArray.size ⟨⟨s⟩⟩=s.length:=Yj s;simp only[bytesRow,Qn,Array.size_map,Array.size_replicate,e0];simp only[B6];omega
   have eJ:s.length<=maxLen:=by
    have eJ:s.length<=AS:=by assumption
    simp only[AS] at eJ;simp only[maxLen];omega
   obtain⟨γ',DV,hm,Fu,hsz⟩:=hr.drew.newObj (bytesRow ⟨⟨s⟩⟩ (grownCap w s.length 0 e)) e ((bytesRow ⟨⟨s⟩⟩ (grownCap w s.length 0 e)).size,(bytesRow ⟨⟨s⟩⟩ (grownCap w s.length 0 e)).size+1) (s.map λb=>Aa.int .u8 b.toNat) (.inr (Ac _))
    (by rw[hl,JS];have:=KY γ s;rw[QF] at this;exact this)
    (λu hu=>by rw[hl,JS] at hu;obtain⟨b,_,rfl⟩:=Bk.1 hu;rfl)
   exact FJ.value (v:= .slice (some ⟨w.heap.size,0,none⟩) s.length (grownCap w s.length 0 e)) (by simp only[execOp,ho];exact Dq AV) (Fu.put λ_ _=>⟨w.heap.size,_,hm,rfl,tr,⟨Db 0,grownCap_le_maxLen w _ _ _ eJ⟩,by rw[BJ,Kj,<-hbs];exact hsz⟩)
  .cases hp
 .cases hp
theorem Hk{α:Type}(l:List α):∀(c j:Nat),j<c*l.length->(List.replicate c l).flatten[j]?=l[j%l.length]?
 |0,j,h=>by simp at h
 |c+1,j,h=>by
  have h':j<c*l.length+l.length:=by rw[BB] at h;omega
  rw[List.replicate_succ,C9];by_cases hj:j<l.length;·rw[Af hj,Nat.mod_eq_of_lt hj]
  .rw[Bg (by omega),Hk l c _ (by omega),show j%l.length=(j-l.length)%l.length from Nat.mod_eq_sub_mod (by omega)]
theorem vU{o:Oper}{t e:TypeId}{l c:Operand}{n b:Nat}{z:Aa}{vl vc u:Aa}{h':Ad}(ho:o.op= .makeSlice t l c)(ht:C.P.underlying t=some (.slice e))(hsz:BP C.P e=some (n+1))(vS:I6 C.P e=some (b+1))(hz:GJ C.P e=some z)(hl:Es C σ l=some vl)(hc:Es C σ c=some vc)
  (hm:Ul h (n+1) (b+1) z.cells vl vc=some (h',u)) (hr:CR C γ0 w0 γ β σ h a w):FJ C γ0 w0 o a w (σ.put o.dst (.val u)) h':=by
 unfold Ul at hm;split at hm
 .rename_i k m;split at hm
  .rename_i HG;obtain⟨c1,c2,c3,c4⟩:=HG;cases hm;unfold GJ at hz;cases hi:C.P.info? e with
   |none=>rw[hi] at hz;cases hz
   |some i=>
    rw[hi] at hz;cases uF:i.zero with
    |none=>simp[uF] at hz
    |some zv=>
     simp only[Ct,uF] at hz;have O8:=IS hsz hi;have yn:=KD vS hi;obtain⟨q1,q2⟩:=Gu (γ:=γ) (ER hz) (by omega);have ZJ:zv.cells.size=n+1:=by have:=q1.length;simp at this;omega
     have tv:m.toNat*(b+1)<=AS:=c3;have hmm:m.toNat<=AS:=Bt (O5 m.toNat (Db b)) tv;have AV:=run_make (P:=C.P) w t e i zv ht hi uF .i64 .i64 k m c1 c2 (by
      rw[yn];have e1:((b+1:Nat):Int)*m=((m.toNat*(b+1):Nat):Int):=by rw[Int.natCast_mul,Nr (by omega),Int.mul_comm]
      rw[e1];simp only[AS] at tv;omega) (by simp only[AS] at hmm;omega)
     rw[<-D2 (FQ hr hl),<-D2 (FQ hr hc)] at AV;have hlen:((List.replicate m.toNat z.cells).flatten).length=m.toNat*(n+1):=by rw[Gv (z:=n+1) (λr hr=>by rw[List.eq_of_mem_replicate hr,c4]),Iq]
     have hmc:∀(j:Nat) (u:Value),(madeCells zv.cells (m.toNat*i.size)).toList[j]?=some u->j<m.toNat*(n+1)/\zv.cells.toList[j%(n+1)]?=some u:=by
      intro j u hj;have fP:j<m.toNat*(n+1):=by have:=(Ah.1 hj).1;simpa[size_madeCells,O8] using this
      refine⟨fP,?_⟩;have yp:j%(n+1)<zv.cells.size:=by rw[ZJ];exact Nat.mod_lt _ (Db n)
      simp only[madeCells,tX,Cr] at hj;have hrange:(Array.range (m.toNat*i.size)).toList[j]?=some j:=by simp[O8,fP]
      rw[hrange] at hj;simp only[BR,BA] at hj;rw[ZJ] at hj;rw[<-hj];simp[yp]
     have hV:A9 γ (List.replicate m.toNat z.cells).flatten (madeCells zv.cells (m.toNat*i.size)).toList:=by refine A9.Gg (by simp[hlen,size_madeCells,O8]) λj x u hx hu=>?_;obtain⟨fP,hju⟩:=hmc j u hu;rw[Hk z.cells _ _ (by rw[c4];exact fP),c4] at hx;obtain⟨u',lA,yk⟩:=q1.get hx;rw[hju] at lA;cases lA;exact yk
     obtain⟨γ',DV,hm',Fu,aJs⟩:=hr.newObj (madeCells zv.cells (m.toNat*i.size)) e (0,0) (List.replicate m.toNat z.cells).flatten (.inl rfl) (hV.fq (by rw[hV.length];exact Ac _)) (λu hu=>by obtain⟨j,hj⟩:=CS (Bf hu);exact q2 u (CD (hmc j u hj).2))
     exact FJ.value (by simp only[execOp,ho];exact Dq AV) (Fu.put λ_ _=>⟨w.heap.size,m.toNat,hm',rfl,by omega,⟨Db n,by simp only[AS] at hmm;simp only[maxLen];omega⟩,by rw[aJs,size_madeCells,O8,BJ]⟩)
  .cases hm
 .cases hm
theorem CR.aDv(hr:CR C γ0 w0 γ β σ h a w){g:Nat}(E0:γ.own g=some (.tail σ.length none 0))(hB:w0.heap.size<=g){us:Array Value}{e:TypeId}(hg:w.heap[g]?=some (.cells us e (0,0)))(Dj:Array Value)(cs:List Aa)
  (hv:A9 γ cs (Dj.toList.take cs.length)) (h1:∀u∈Dj.toList.take cs.length,u.oneCell'=true):∃γ',γ.le γ'/\γ'.mu h.length=some g/\CR C γ0 w0 γ' β σ (h++[.cells cs]) a (w.setRow g Dj)/\γ'.sz g=some Dj.size:=by
 have hmu:γ.mu h.length=none:=by
  cases hc:γ.mu h.length with
  |none=>rfl
  |some y=>exact absurd (hr.DD.mu _ y hc) (Dd _)
 have hsz:γ.sz g=none:=by
  cases hc:γ.sz g with
  |none=>rfl
  |some y=>obtain⟨_,r⟩:=hr.DD.sz g y hc;rw[E0] at r;rcases r with r|⟨_,r⟩<;>cases r
 have DV:γ.le (γ.BM g h.length (some Dj.size)):=⟨λ_ _ _ hv=>hv,λid b hm=>by
  have:id≠h.length:=λhe=>by rw[he,hmu] at hm;cases hm
  simp only[Gh.BM,if_neg this];exact hm,λb n hm=>by
  have:b≠g:=λhe=>by rw[he,hsz] at hm;cases hm
  simp only[Gh.BM,if_neg this];exact hm⟩
 have yl:∀b n,(γ.BM g h.length (some Dj.size)).sz b=some n->(∃us e fr,(w.setRow g Dj).heap[b]?=some (.cells us e fr)/\us.size=n)/\((γ.BM g h.length (some Dj.size)).own b=none\/∃id,(γ.BM g h.length (some Dj.size)).own b=some (.KT id)):=λb n hb=>by
  by_cases he:b=g;·subst he;simp only[Gh.BM,BK] at hb;cases hb;exact⟨⟨Dj,e,(0,0),setRow_heap w b us Dj e (0,0) hg,rfl⟩,.inr ⟨h.length,by simp[Gh.BM]⟩⟩
  .simp only[Gh.BM,if_neg he] at hb⊢;obtain⟨p,r⟩:=hr.DD.sz b n hb;exact⟨by rw[setRow_other w g b Dj he];exact p,r⟩
 have hne:∀b id,γ.own b=some (.KT id)->b≠g:=λb id hb he=>by rw[he,E0] at hb;cases hb
 have hk:OI g γ w (γ.BM g h.length (some Dj.size)) (w.setRow g Dj):=⟨DV,λb x hb hx _=>⟨by simp only[Gh.BM,if_neg hb];exact hx,setRow_other w g b Dj hb⟩⟩;refine⟨_,DV,by simp[Gh.BM],⟨⟨λb o v hb=>?_,λid y Ht hy=>?_,λid Gc hc b hb=>?_,λid es hc b hb=>?_,λid b hb=>?_,λb y hy=>?_,yl⟩,⟨hr.fr.size,λs=>?_⟩,hr.Dw.write (g:=g) hB DV (by simp) rfl rfl rfl (λb hb=>⟨setRow_other w g b Dj hb,by simp only[Gh.BM,if_neg hb]⟩),hr.defers,λx Gc hx=>CI.mono DV _ _ _ (hr.Gf x Gc hx)⟩,by simp[Gh.BM]⟩
 .obtain⟨p,q,r⟩:=hr.DD.Hy b o v hb;have MP:b≠g:=λhe=>by
   subst he;rw[E0] at r;rcases r with r|⟨_,_,_,r,hl⟩
   .cases r
   .cases r;omega
  exact⟨by rw[Cw (setRow_other w g b Dj MP)];exact p,q,by simp only[Gh.BM,if_neg MP];exact r⟩
 .by_cases he:id=h.length;·exact⟨g,by simp[Gh.BM,he],by simp[Gh.BM,he]⟩
  .have Uz:id<h.length:=by rw[Ah] at Ht;obtain⟨hl,_⟩:=Ht;simp at hl;omega
   rw[Af Uz] at Ht;obtain⟨b,p,q⟩:=hr.DD.KT id y Ht hy;exact⟨b,by simp only[Gh.BM,if_neg he];exact p,by simp only[Gh.BM,if_neg (hne b id q)];exact q⟩
 .by_cases he:id=h.length;·subst he;simp[Gh.BM] at hb;subst hb;simp at hc;subst hc;exact⟨Dj,e,(0,0),setRow_heap w g us Dj e (0,0) hg,.inl rfl,A9.mono DV _ _ hv,h1⟩
  .simp only[Gh.BM,if_neg he] at hb;have Uz:=hr.DD.mu id b hb;rw[Af Uz] at hc;obtain⟨b',p1,p2⟩:=hr.DD.KT id _ hc (by simp);rw[hb] at p1;cases p1;obtain⟨eV,e2,vG,p,pf,q,r⟩:=hr.DD.cells id Gc hc b hb;exact⟨eV,e2,vG,by rw[setRow_other w g b Dj (hne b id p2)];exact p,pf,A9.mono DV _ _ q,r⟩
 .by_cases he:id=h.length;·subst he;simp at hc
  .simp only[Gh.BM,if_neg he] at hb;have Uz:=hr.DD.mu id b hb;rw[Af Uz] at hc;obtain⟨b',p1,p2⟩:=hr.DD.KT id _ hc (by simp);rw[hb] at p1;cases p1;obtain⟨Dk,clock,p,q⟩:=hr.DD.map id es hc b hb;exact⟨Dk,clock,by rw[setRow_other w g b Dj (hne b id p2)];exact p,q.mono DV⟩
 .by_cases he:id=h.length;·simp[he]
  .simp only[Gh.BM,if_neg he] at hb;have:=hr.DD.mu id b hb;simp;omega
 .by_cases MP:b=g;·subst MP;have:=hr.DD.own _ _ E0;simpa using this
  .simp only[Gh.BM,if_neg MP] at hy;have:=hr.DD.own b y hy;simpa using this
 .by_cases hs:s=σ.length;·subst hs;rw[BD.RM];trivial
  .exact(hr.fr.Hs s).keptBut E0 hk (by simp only[Jq.eS];intro hx;cases hx;exact hs rfl)
theorem CR.KR(hr:CR C γ0 w0 γ β σ h a w){v v':Aa}{u:Value}{h':Ad}(hv:BE γ v u)(hf:Kl h v=some (h',v')):∃γ',γ.le γ'/\CR C γ0 w0 γ' β σ h' a w/\BE γ' v' u:=by
 unfold Kl at hf;split at hf
 .rename_i id off n z;obtain⟨b,cap,hb,hu,hc,hz,hsz⟩:=hv;split at hf
  .rename_i cs hcs;split at hf
   .rename_i hl;cases hf;obtain⟨us,e,fr,p1,pf,p2,p3⟩:=hr.DD.cells id cs hcs b hb;obtain⟨hi,ha⟩:=vH hr.DD hcs hb p1 p3;have eI:∀(k o:Nat),(Cj cs z o k).length=k:=by
     intro k;induction k with
     |zero=>intro o;rfl
     |succ k ih=>intro o;simp[Cj,ih]
    have hrg:∀(k o i:Nat) (r:List Aa),(Cj cs z o k)[i]?=some r->i<k/\r=(cs.drop (o+i*z)).take z:=by
     intro k;induction k with
     |zero=>intro o i r h;simp[Cj] at h
     |succ k ih=>
      intro o i r h;cases i with
      |zero=>simp[Cj] at h;exact⟨Db _,by simpa using h.symm⟩
      |succ i=>simp[Cj] at h;obtain⟨q1,q2⟩:=ih _ _ _ h;exact⟨by omega,by rw[q2];congr 2;rw[BB];omega⟩
    refine⟨_,ha.le,hr.world hi ha,⟨b,off,none⟩,cap,by rw[eI];exact hu,by rw[eI];exact hc,.inl rfl,EP.Gg λi r hir=>?_⟩;obtain⟨q1,rfl⟩:=hrg n off i r hir;have hiz:i*z+z<=n*z:=by have:=Ez z (show i+1<=n by omega);rwa [BB,Ey] at this
    refine⟨by simp;omega,CI.Gg λj x hj=>?_⟩;rw[Cf] at hj;split at hj;·rename_i hjz;rw[Cz] at hj;obtain⟨y,hy,hxy⟩:=p2.get hj;have hlt:off+i*z+j<cs.length:=(Ah.1 hj).1;refine⟨y,?_,BE.mono ha.le _ _ hxy⟩;simp only[Gh.C3,BK,if_pos hlt];rw[C6 hlt] at hy;simpa using hy
    .cases hj
   .cases hf
  .cases hf
 .cases hf;exact⟨γ,.refl _,hr,hv⟩
theorem QG:∀{Au:List (List Aa)} {s:Ap},Lv Au=some s->∃ns:List Int,Au=ns.map (λn=>[.int .u8 n])/\s=ns.map λn=>UInt8.ofNat n.toNat
 |[],s,hs=>by cases hs;exact⟨[],rfl,rfl⟩
 |r::Au,s,hs=>by
  unfold Lv at hs;split at hs;·rename_i Jk;cases Jk
  .rename_i n rs Jk;cases Jk;cases hq:Lv Au with
   |none=>rw[hq] at hs;cases hs
   |some l=>rw[hq] at hs;cases hs;obtain⟨ns,rfl,rfl⟩:=QG hq;exact⟨n::ns,rfl,rfl⟩
  .cases hs
theorem UM:∀(ns:List Int) (r:ByteArray),ns.foldl (λr n=>r.push (UInt8.ofNat n.toNat)) r=⟨r.data++(ns.map λn=>UInt8.ofNat n.toNat).toArray⟩
 |[],r=>by simp
 |n::ns,r=>by rw[List.foldl_cons,UM ns];simp[ByteArray.push]
theorem fx{o:Oper}{src dst e:TypeId}{x:Operand}{v v' u:Aa}{h':Ad}(ho:o.op= .convert src dst x)(hs:C.P.underlying src=some (.slice e))(hd:C.P.underlying dst=some .string)(he:C.P.underlying e=some (.int .u8))(hx:Es C σ x=some v)(hf:Kl h v=some (h',v'))(hp:Aw .Th [v']=some u)
  (hr:CR C γ0 w0 γ β σ h a w):FJ C γ0 w0 o a w (σ.put o.dst (.val u)) h':=by
 obtain⟨γ',DV,Fu,Du⟩:=hr.KR (FQ hr hx) hf;have MI:∀s,(Conv.bytesToString (a.eval x)).run C.P w= .ok s w->(∃p l c,a.eval x= .slice p l c)->(execOp a.eval o).run C.P w= .ok (.value s) w:=λs AV ⟨p,l,c,eJ⟩=>by simp only[execOp,ho];refine Dq ?_;rw[eJ] at AV⊢;rw[run_convert_bytes_string w src dst e p l c hs he hd];exact AV
 simp only[Aw] at hp;unfold Ui at hp;split at hp
 .rename_i Au;cases hq:Lv Au with
  |none=>rw[hq] at hp;cases hp
  |some s=>
   rw[hq] at hp;cases hp;obtain⟨ns,rfl,rfl⟩:=QG hq;obtain⟨ad,cap,eJ,hc,hsp,hR⟩:=Du;have Mh:∀(j:Nat) (v:Value),(ns.map (Value.int .u8))[j]?=some v->ad.add j=⟨ad.block,ad.off+j,none⟩:=λj v hj=>by
    have hpos:0<ns.length:=by have:=(Ah.1 hj).1;simp at this;omega
    have fC:=MN hsp hc (by simpa using hpos);generalize ad.block=b at*;generalize ad.off=o at*;subst fC;unfold Addr.add;split<;>simp_all
   have hl:=run_loadCells_list (P:=C.P) w ad (ns.map (Value.int .u8)) (λj v hj=>by
    rw[Mh j v hj];simp only[Cr] at hj;cases hn:ns[j]? with
    |none=>rw[hn] at hj;cases hj
    |some n=>rw[hn] at hj;cases hj;obtain⟨_,hM⟩:=hR.get (i:=j) (r:=[.int .u8 n]) (by simp[hn]);obtain⟨y,hy,hyr⟩:=hM.get (i:=0) (a:= .int .u8 n) rfl;rw[show y=_ from hyr] at hy;have:=(Fu.DD.Hy _ _ _ hy).1;simpa using this)
   simp only[Ai] at hl;have AV:=run_bytesToString (P:=C.P) w ad ns.length cap ns hl;have he0:ByteArray.empty.data=#[]:=rfl;rw[UM,he0,Array.empty_append] at AV;have e1:a.eval x= .slice (some ad) ns.length cap:=by rw[eJ];simp
   rw[<-e1] at AV;exact FJ.value (MI _ AV ⟨_,_,_,e1⟩) (Fu.put λ_ _=>rfl)
 .cases hp;have e1:a.eval x= .slice none 0 0:=Du;have AV:(Conv.bytesToString (a.eval x)).run C.P w= .ok (.string ⟨⟨[]⟩⟩) w:=by rw[e1];simp[Conv.bytesToString];rfl
  exact FJ.value (MI _ AV ⟨_,_,_,e1⟩) (Fu.put λ_ _=>rfl)
 .cases hp
def vV(C:FG)(f:FuncId):Prop:=
 (∃fn c,C.P.funcs[f]?=some fn/\(fn.name== "runtime.NumGoroutine")=false/\fn.body=some c)/\
 ∀(γ:Gh) (h:Ad) (w:World) (s:Aa) (sv:Value) (i x:Int) (h':Ad) (r:Aa) (g vcap:Nat) (us:Array Value) (e:TypeId),Gp γ h w->BE γ s sv->OE h [s,.int .i64 i,.sl 1 [[.int .i64 x]]]=some (h',r)->
  w.heap[g]?=some (.cells us e (0,0))->us[0]?=some (.int .i64 x)->(∀id,γ.own g≠some (.KT id))->1<=vcap->us.size=vcap->
  Calls C.P f #[sv,.int .i64 i,.slice (some ⟨g,0,none⟩) 1 vcap] w λe w'=>match e with
   | .returned v=>∃γ',Gp γ' h' w'/\J3 γ w γ' w'/\BE γ' r v
   |_=>False
def ED(C:FG)(run:IT->Ad->Option Jo):Prop:=
 ((∀g cs,C.Gf g=some cs->cs.all Aa.Ls=true)/\∀f,C.L7 f=true->vV C f)/\
 ∀(f:FuncId) (args:List Aa) (h:Ad) (r:Aa) (h':Ad),run (B5 C f args) h=some (.ret,[r],h')->
  (∃fn c,C.P.funcs[D6 f]?=some fn/\(fn.name== "runtime.NumGoroutine")=false/\fn.body=some c)/\
  ∀(γ:Gh) (w:World) (cargs:Array Value),Gp γ h w->(∀g cs,C.Gf g=some cs->CI γ cs g 0)->A9 γ args cargs.toList->
   Calls C.P (D6 f) cargs w λe w'=>match e with
    | .returned v=>∃γ',Gp γ' h' w'/\J3 γ w γ' w'/\BE γ' r v/\(C.Ii f=true->∃s c,HV γ' w.heap.size w' s c v r)
    |_=>False
theorem CR.yq(hr:CR C γ0 w0 γ β σ h a w){h':Ad}{r:Aa}{v:Value}(hi:Gp γ' h' w')(ha:J3 γ w γ' w')(hv:BE γ' r v){own:Bool}(ho:own=true->∃s c,HV γ' w.heap.size w' s c v r)(d:Option Nat):
  ∃γ2,CR C γ0 w0 γ2 β (σ.put d (if own then .own r else .val r)) h' (a.put d v) w':=by
 cases own with
 |false=>exact⟨γ',(hr.world hi ha).put λ_ _=>hv⟩
 |true=>
  obtain⟨s,c,hT⟩:=ho rfl;rcases hT with rfl|⟨g,n,cap,us,e,z,Au,rfl,h2,h3,h4,h5⟩
  .exact⟨γ',(hr.world hi ha).put λ_ _=>⟨hv,.inl rfl⟩⟩
  .have yi:J3 γ w (γ'.E9 g (.tail σ.length none (n*z))) w':=⟨ha.le.trans (Gt _ _ _),ha.size,ha.os,ha.tape,ha.output,λb hb hn=>by obtain⟨p,q⟩:=ha.MO b hb hn;exact⟨p,by simp only[Gh.E9,if_neg (show b≠g by omega)];exact q⟩⟩
   have Fu:=hr.world (hi.E9 (s':=σ.length) (c':=none) h3) yi;exact Fu.Yi (BE.mono (Gt _ _ _) _ _ hv) (.inr ⟨g,n,cap,us,e,z,Au,rfl,h2,by simp[Gh.E9],Bt hr.Dw.size h4,h5⟩) d
theorem Hu{P:Program}{f:FuncId}{fn:Func}{c:Code}(hf:P.funcs[f]?=some fn)(hname:(fn.name== "runtime.NumGoroutine")=false)(hb:fn.body=some c)(args:Array Value)(w:World):
  (callFunc f args).run P w= .ok (.enter f args) w:=by
 have hn:¬fn.name= "runtime.NumGoroutine":=by simpa using hname
 simp[callFunc,hf,hn,hb]
theorem QH{o:Oper}{f:FuncId}{cargs:Array Value}{K:Act->World->Prop}{Q:Exit->Act->World->Prop}(he:(execOp a.eval o).run C.P w= .ok (.enter f cargs) w){R:Value->World->Prop}
  (hc:Calls C.P f cargs w λe w'=>match e with| .returned v=>R v w'|_=>False) (hk:∀v w',R v w'->K (a.put o.dst v) w'):o.wp C.P a w K Q:=by
 unfold Oper.wp;rw[he];refine hc.mono λe w' h=>?_;cases e with
 |returned v=>exact hk v w' h
 |_=>exact h.elim
theorem vW{run:IT->Ad->Option Jo}(hS:ED C run){o:Oper}{c:Call}{f:FuncId}{args:List Aa}{r:Aa}{h':Ad}{K:Act->World->Prop}{Q:Exit->Act->World->Prop}(ho:o.op= .call c)(hcl:c.callee= .value (.func (D6 f)))(ha:Bq C σ c.args.toList=some args)
  (AV:run (B5 C f args) h=some (.ret,[r],h')) (hr:CR C γ0 w0 γ β σ h a w) (hK:∀γ' v w',CR C γ0 w0 γ' β (σ.put o.dst (if C.Ii f then .own r else .val r)) h' (a.put o.dst v) w'->K (a.put o.dst v) w'):o.wp C.P a w K Q:=by
 obtain⟨⟨fn,cd,hf,hname,hb⟩,hcalls⟩:=hS.2 f args h r h' AV;have hcargs:A9 γ args (c.args.map a.eval).toList:=by simpa using Dx hr ha
 refine QH (f:=D6 f) (cargs:=c.args.map a.eval) ?_ (hcalls γ w _ hr.DD hr.Gf hcargs) λv w' ⟨γ',hi,JC,hv,E0⟩=>?_;·have h0:a.eval (.func (D6 f))= .func (.func (D6 f)) #[] #[]:=rfl;simp only[execOp,ho,resolve,hcl,Deferred.ofValue,h0,Sem.run_bind,Sem.run_pure,Result.andThen_ok,invoke];simpa using Hu hf hname hb (c.args.map a.eval) w
 .obtain⟨γ2,KX⟩:=hr.yq hi JC hv E0 o.dst;exact hK γ2 v w' KX
theorem fy{run:IT->Ad->Option Jo}(hS:ED C run){o:Oper}{c:Call}{f:FuncId}{s i x:Operand}{args:List Aa}{r:Aa}{h':Ad}{K:Act->World->Prop}{Q:Exit->Act->World->Prop}(ho:o.op= .call c)(hcl:c.callee= .value (.func f))(hf:C.L7 f=true)(Ed:c.args.toList=[s,i,x])(E0:J1 C σ x=true)
  (ha:Bq C σ [s,i,x]=some args) (hp:OE h args=some (h',r)) (hr:CR C γ0 w0 γ β σ h a w) (hK:∀γ' v w',CR C γ0 w0 γ' β (σ.put o.dst (.val r)) h' (a.put o.dst v) w'->K (a.put o.dst v) w'):o.wp C.P a w K Q:=by
 obtain⟨⟨fn,cd,hfn,hname,hb⟩,f_⟩:=hS.1.2 f hf;have qY:=Dx hr ha;obtain⟨u1,us1,f1,g1,f2⟩:∃u1 us1,[a.eval s,a.eval i,a.eval x]=u1::us1/\BE γ (args.getD 0 .nilIface) u1/\True:=by
  cases args with
  |nil=>cases qY
  |cons y l=>obtain⟨u,us,e,p,q⟩:=qY;exact⟨u,us,e,p,trivial⟩
 obtain⟨s',i',x',he,k,xx,hx'⟩:∃s' i' x',args=[s',.int .i64 i',.sl 1 [[.int .i64 x']]]/\∃(k:BE γ s' (a.eval s)) (xx:a.eval i= .int .i64 i'),BE γ (.sl 1 [[.int .i64 x']]) (a.eval x):=by
  unfold OE at hp;split at hp;·obtain⟨_,_,_,e,p1,p2,p3⟩:=qY.SF;simp only[Bl,DP,Hp,NN] at e;obtain⟨rfl,rfl,rfl⟩:=e;exact⟨_,_,_,rfl,p1,p2,p3⟩
  .obtain⟨_,_,_,e,p1,p2,p3⟩:=qY.SF;simp only[Bl,DP,Hp,NN] at e;obtain⟨rfl,rfl,rfl⟩:=e;exact⟨_,_,_,rfl,p1,p2,p3⟩
  .cases hp
 subst he;have fN:Es C σ x=some (.sl 1 [[.int .i64 x']]):=by simp only[Bq] at ha;cases h1:Es C σ s<;>cases h2:Es C σ i<;>cases h3:Es C σ x<;>simp_all
 obtain⟨sl,eJ⟩:∃sl,DK C σ x=some sl:=by
  unfold J1 at E0;cases hs:DK C σ x with
  |none=>rw[hs] at E0;cases E0
  |some sl=>exact⟨sl,rfl⟩
 have aJt:∃v,sl= .own v:=by unfold J1 at E0;rw[eJ] at E0;cases sl<;>first|exact⟨_,rfl⟩|cases E0
 obtain⟨v,rfl⟩:=aJt;obtain⟨s0,hrel,_⟩:=Fv hr eJ;have aJu:v= .sl 1 [[.int .i64 x']]:=by simp only[Es,eJ,Ct,D5.Gr,BA] at fN;exact fN
 subst aJu;obtain⟨lD,hT⟩:=hrel;rcases hT with hT|⟨g,n,cap,us,e,z,Au,h1,h2,h3,h4,h5,h6,h7,h8,h9⟩
 .cases hT
 .cases h1;obtain⟨ad,cap2,e1,e2,e3,e4⟩:=hx';rw[h2] at e1;cases e1;obtain⟨_,hm,_⟩:=e4;obtain⟨⟨u,hu,hru⟩,_⟩:=hm;obtain⟨IP,_,_⟩:=hr.DD.Hy _ _ _ hu;have W8:us[0]?=some (.int .i64 x'):=by rw[cell_of_row w _ _ us e (0,0) h5] at IP;rw[IP];exact Cd some hru
  have hcargs:c.args.map a.eval=#[a.eval s,.int .i64 i',.slice (some ⟨g,0,none⟩) 1 cap]:=by apply Jh;simp only[tX,Ed,Bl,DP,xx,h2];rfl
  have WA:=f_ γ h w s' _ i' x' h' r g cap us e hr.DD k hp h5 W8 (λid Ht=>by rw[h3] at Ht;cases Ht) h7 (by rw[h6,Kj]);rw[<-hcargs] at WA;refine QH (f:=f) (cargs:=c.args.map a.eval) ?_ WA λv w' ⟨γ',hi,JC,hv⟩=>?_;·have h0:a.eval (.func f)= .func (.func f) #[] #[]:=rfl;simp only[execOp,ho,resolve,hcl,Deferred.ofValue,h0,Sem.run_bind,Sem.run_pure,Result.andThen_ok,invoke];simpa using Hu hfn hname hb (c.args.map a.eval) w
  .obtain⟨γ2,KX⟩:=hr.yq (own:=false) hi JC hv (λe=>by cases e) o.dst;exact hK γ2 v w' (by simpa using KX)
def Gh.apart(γ:Gh):Gh:={Hy:=γ.Hy,mu:=λ_=>none,own:=λb=>match γ.own b with|some (.KT _)=>none|x=>x,sz:=γ.sz}
theorem Gp.apart(hi:Gp γ h w):Gp γ.apart [] w:=by
 refine⟨λb o v hb=>?_,λid x hx=>by simp at hx,λid cs hx=>by simp at hx,λid es hx=>by simp at hx,λid b hb=>(by cases hb),λb x hx=>?_,λb n hb=>?_⟩;rotate_left 2;·obtain⟨p,r⟩:=hi.sz b n hb;refine⟨p,.inl ?_⟩;simp only[Gh.apart];rcases r with r|⟨_,r⟩<;>rw[r]
 .obtain⟨p,q,r⟩:=hi.Hy b o v hb;refine⟨p,q,?_⟩;simp only[Gh.apart];rcases r with r|⟨s,c,st,r,hl⟩
  .exact .inl (by rw[r])
  .exact .inr ⟨s,c,st,by rw[r],hl⟩
 .simp only[Gh.apart] at hx;split at hx;·cases hx
  .exact hi.own b x hx
theorem CR.gd(hr:CR C γ0 w0 γ β σ h a w){γ1:Gh}{h1:Ad}(hi:Gp γ1 h1 w')(ha:J3 γ.apart w γ1 w'):∃γ2,CR C γ0 w0 γ2 β σ h a w':=by
 have Wj:∀b id,γ.apart.own b≠some (.KT id):=λb id e=>by
  simp only[Gh.apart] at e;split at e;·cases e
  .rename_i hn;exact hn id e
 have Me:∀b,b<w.heap.size->w'.heap[b]?=w.heap[b]?:=λb hb=>(ha.MO b hb (Wj b)).1;refine⟨γ,hr.world ⟨λb o v hb=>?_,hr.DD.KT,λid cs hc b hb=>?_,λid es hc b hb=>?_,hr.DD.mu,λb x hx=>ZD (hr.DD.own b x hx) ha.size,λb n hb=>(by
   obtain⟨⟨us,e,fr,p,q⟩,r⟩:=hr.DD.sz b n hb;exact⟨⟨us,e,fr,by rw[Me b (A0.1 p).1];exact p,q⟩,r⟩)⟩
  ⟨.refl _,ha.size,ha.os,ha.tape,ha.output,λb hb _=>⟨Me b hb,rfl⟩⟩⟩
 .obtain⟨p,q,r⟩:=hr.DD.Hy b o v hb;exact⟨by rw[Cw (Me b (Dn p))];exact p,q,r⟩
 .obtain⟨us,e,fr,p,q⟩:=hr.DD.cells id cs hc b hb;exact⟨us,e,fr,by rw[Me b (A0.1 p).1];exact p,q⟩
 .obtain⟨Dk,clock,p,q⟩:=hr.DD.map id es hc b hb;exact⟨Dk,clock,by rw[Me b (A0.1 p).1];exact p,q⟩
theorem UN{γ γ':Gh}{x:Aa}{v:Value}(hf:x.Ls=true)(hv:BE γ x v):BE γ' x v:=by cases x<;>first|exact hv|cases hf
theorem Xm{γ γ':Gh}:∀{l:List Aa} {us:List Value},l.all Aa.Ls=true->A9 γ l us->A9 γ' l us
 |[],us,_,h=>h
 |x::l,us,hf,h=>by obtain⟨u,Dj,e,h1,h2⟩:=h;simp only[List.all_cons,BL] at hf;exact⟨u,Dj,e,UN hf.1 h1,Xm hf.2 h2⟩
theorem CI.apart{γ:Gh}:∀{l:List Aa} {b o:Nat},CI γ l b o->l.all Aa.Ls=true->CI γ.apart l b o
 |[],_,_,_,_=>trivial
 |x::l,b,o,h,hf=>by obtain⟨⟨u,h1,h2⟩,h3⟩:=h;simp only[List.all_cons,BL] at hf;exact⟨⟨u,h1,UN hf.1 h2⟩,h3.apart hf.2⟩
theorem qZ{run:IT->Ad->Option Jo}(hS:ED C run){o:Oper}{c:Call}{f:FuncId}{args:List Aa}{r:Aa}{h1:Ad}{K:Act->World->Prop}{Q:Exit->Act->World->Prop}(ho:o.op= .call c)(hcl:c.callee= .value (.func (D6 f)))(ha:Bq C σ c.args.toList=some args)
  (hfa:args.all Aa.Ls=true) (AV:run (B5 C f args) []=some (.ret,[r],h1)) (kZ:r.Ls=true) (hr:CR C γ0 w0 γ β σ h a w) (hK:∀γ' v w',CR C γ0 w0 γ' β (σ.put o.dst (.val r)) h (a.put o.dst v) w'->K (a.put o.dst v) w'):o.wp C.P a w K Q:=by
 obtain⟨⟨fn,cd,hf,hname,hb⟩,hcalls⟩:=hS.2 f args [] r h1 AV;have hcargs:A9 γ.apart args (c.args.map a.eval).toList:=Xm hfa (by simpa using Dx hr ha);refine QH (f:=D6 f) (cargs:=c.args.map a.eval) ?_ (hcalls γ.apart w _ hr.DD.apart (λg cs hg=>(hr.Gf g cs hg).apart (hS.1.1 g cs hg)) hcargs) λv w' ⟨γ',hi,JC,hv,_⟩=>?_;·have h0:a.eval (.func (D6 f))= .func (.func (D6 f)) #[] #[]:=rfl;simp only[execOp,ho,resolve,hcl,Deferred.ofValue,h0,Sem.run_bind,Sem.run_pure,Result.andThen_ok,invoke];simpa using Hu hf hname hb (c.args.map a.eval) w
 .obtain⟨γ2,KX⟩:=hr.gd hi JC;exact hK γ2 v w' (KX.put λ_ _=>UN kZ hv)
theorem q6{run:IT->Ad->Option Jo}(hS:ED C run){o:Oper}{c:Call}{g:Operand}{gv:Aa}{f:FuncId}{args args':List Aa}{r:Aa}{h':Ad}{K:Act->World->Prop}{Q:Exit->Act->World->Prop}(ho:o.op= .call c)(hcl:c.callee= .value g)(hg:Es C σ g=some gv)
  (ha:Bq C σ c.args.toList=some args) (ht:Dt gv args=some (f,args')) (AV:run (B5 C f args') h=some (.ret,[r],h')) (hr:CR C γ0 w0 γ β σ h a w) (hK:∀γ' v w',CR C γ0 w0 γ' β (σ.put o.dst (.val r)) h' (a.put o.dst v) w'->K (a.put o.dst v) w'):o.wp C.P a w K Q:=by
 obtain⟨⟨fn,cd,hf,hname,hb⟩,hcalls⟩:=hS.2 f args' h r h' AV;have hgv:=FQ hr hg;unfold Dt at ht;split at ht
 .rename_i f0 first captured
  split at ht;rotate_left;·cases ht
  rename_i eK;cases ht;rw[show D6 f=f from if_pos eK] at hf hcalls;obtain⟨fs,cs,D1,h1,h2⟩:=hgv;have hcargs:A9 γ (first++args++captured) (fs++c.args.map a.eval++cs).toList:=by simpa using(h1.append (Dx hr ha)).append h2
  refine QH (f:=f) (cargs:=fs++c.args.map a.eval++cs) ?_ (hcalls γ w _ hr.DD hr.Gf hcargs) λv w' ⟨γ',hi,JC,hv,E0⟩=>?_;·simp only[execOp,ho,resolve,hcl,Deferred.ofValue,D1,Sem.run_bind,Sem.run_pure,Result.andThen_ok,invoke];exact Hu hf hname hb _ w
  .obtain⟨γ2,KX⟩:=hr.yq (own:=false) hi JC hv (λe=>by cases e) o.dst;exact hK γ2 v w' (by simpa using KX)
 .cases ht
end
end Go.Am
end
