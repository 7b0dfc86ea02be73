/- Lemmas -/
import Derived.Test.YtbnogamdhadfcaaGreatDoorT12
import Derived.Test.YtbnogamdhadfcaaGreatDoorT10
import Derived.Test.YtbnogamdhadfcaaGreatDoorT13
set_option linter.unusedVariables false
set_option linter.unusedSimpArgs false
namespace Go.Am
open Go Go.RowKit
section
variable{γ γ':Gh}{h:Ag}{w w':World}
noncomputable def cx0:FJ:={cx with Gg:=λ_=>none}
theorem Gq.rel(hi:Gq γ h w):CT cx0 γ w γ (λ_=>0) [] h {tmps:=#[],defers:=[]} w:=
 ⟨hi,⟨rfl,λs=>trivial⟩,J7.refl γ w,rfl,λg cs hg=>by cases hg⟩
theorem Ys(w:World)(g:Nat)(a b:Array Value)(us:Array Value)(e:TypeId)(fr:Nat×Nat)(hg:w.heap[g]?=some (.cells us e fr)):(w.setRow g a).setRow g b=w.setRow g b:=by
 unfold World.setRow;congr 1
 apply Array.ext_getElem?;intro i;by_cases hi:i=g;·subst hi;simp[td,hg]
 .simp[td,DS hi]
theorem aP(w:World)(cv:List Value)(k n:Nat)(x:Value)(Z1 Z2:Array Value)(e:TypeId)(hl:cv.length=n)(hk:k<n)(hz:Z1.size=n+1 -k):
  let w1:=(((w.alloc (.cells ((cv.take k).toArray++Z1++Z2) e)).drew.setCells w.heap.size k [x]).drew).setCells w.heap.size (k+1) (cv.drop k)
  w1.heap=w.heap.push (.cells (cv.take k++[x]++cv.drop k++Z2.toList).toArray e (0,0))/\w1.os=w.os/\w1.tape=w.tape/\w1.output=w.output:=by
 intro w1;have hN:(cv.take k).length=k:=by simp;omega
 have IV:((cv.take k).toArray++Z1++Z2).size=n+1+Z2.size:=by simp only[Qh,B7,hN,hz];omega
 have zd:(w.alloc (.cells ((cv.take k).toArray++Z1++Z2) e)).drew.heap[w.heap.size]?=some (.cells ((cv.take k).toArray++Z1++Z2) e (0,0)):=heap_alloc_new w _;have e1:=Ei [x] k _ _ zd (by rw[IV];simp;omega);have hA:(((cv.take k).toArray++Z1++Z2).toList.take k++[x]++((cv.take k).toArray++Z1++Z2).toList.drop (k+[x].length))=cv.take k++[x]++(Z1.toList.drop 1++Z2.toList):=by
  simp only[Jy,Ax,Bf,BU];congr 1
  .exact KM hN
  .congr 1
   rw[<-E9,NI hN,List.drop_append];have:1 -Z1.toList.length=0:=by simp;omega
   simp only[BJ] at*;rw[this,Qg]
 rw[hA] at e1;have vX:((w.alloc (.cells ((cv.take k).toArray++Z1++Z2) e)).drew.setRow w.heap.size (cv.take k++[x]++(Z1.toList.drop 1++Z2.toList)).toArray).drew.heap[w.heap.size]?=some (.cells (cv.take k++[x]++(Z1.toList.drop 1++Z2.toList)).toArray e (0,0)):=setRow_heap _ _ _ _ _ _ zd;have TZ:(Z1.toList.drop 1).length=n-k:=by simp[hz];omega
 have e2:=Ei (cv.drop k) (k+1) _ _ vX (by simp[hz];omega);have hB:((cv.take k++[x]++(Z1.toList.drop 1++Z2.toList)).toArray.toList.take (k+1)++cv.drop k++(cv.take k++[x]++(Z1.toList.drop 1++Z2.toList)).toArray.toList.drop (k+1+(cv.drop k).length))=cv.take k++[x]++cv.drop k++Z2.toList:=by
  have h1:(cv.take k++[x]).length=k+1:=by simp;omega
  simp only[Wn];rw[KM h1,<-E9,NI h1];congr 1
  exact NI (by rw[TZ];simp;omega)
 rw[hB] at e2;have To:w1=((w.alloc (.cells ((cv.take k).toArray++Z1++Z2) e)).drew.setRow w.heap.size (cv.take k++[x]++(Z1.toList.drop 1++Z2.toList)).toArray).drew.setRow w.heap.size (cv.take k++[x]++cv.drop k++Z2.toList).toArray:=by show((((w.alloc _).drew.setCells _ _ _).drew).setCells _ _ _)=_;rw[e1,e2]
 rw[To];refine⟨?_,rfl,rfl,rfl⟩;apply Array.ext_getElem?;intro i;by_cases hi:i=w.heap.size;·subst hi;rw[setRow_heap _ _ _ _ _ _ vX];simp
 .rw[setRow_other _ _ _ _ hi];show((w.alloc _).drew.setRow _ _).heap[i]?=_;rw[setRow_other _ _ _ _ hi];show(w.heap.push _)[i]?=_;rw[Array.getElem?_push,Array.getElem?_push,if_neg hi,if_neg hi]
theorem rC:vI cx 199:=by
 refine⟨⟨_,_,Proofs.Tryz.func199,rfl,rfl⟩,?_⟩;intro γ h w s sv i x h' r g vcap tS e0 hi hs hp hg0 Mj Rr hvc aPd;have hd:Below w.heap.size w w.drew:=(Below.refl _ _).drew;have hvs:∀(j:Nat) (v:Value),[Value.int .i64 x][j]?=some v->w.cell? ⟨g,0+j,none⟩=some v:=λj v hj=>by
  cases j with
  |zero=>cases hj;rw[cell_of_row w _ _ tS e0 (0,0) hg0];exact Mj
  |succ j=>simp at hj
 have h1v:∀v∈[Value.int .i64 x],v.oneCell'=true:=λv hv=>by simp at hv;subst hv;rfl
 have hgl:g<w.heap.size:=(A4.1 hg0).1;unfold OB at hp;split at hp
 .rename_i i' x' Jo;cases Jo;split at hp
  .rename_i h0;subst h0;cases hp;have Ku:sv= .slice none 0 0:=hs;subst Ku;have hc:=Proofs.Any2.slices_Insert_int_end_grow Proofs.Tryz.Mi none 0 0 g 0 1 vcap [] [.int .i64 x] w (by omega) (Ac _) (by omega) (by decide) rfl rfl (λ_=>rfl) (λ_ e=>by cases e) hvs h1v;refine hc.mono λe w' he=>?_;obtain⟨rfl,rfl⟩:=he;have DT:=grownCap_ge w (0+1) 0 3;have hsz:(([]++[Value.int .i64 x]).toArray++Builtin.zeroCells (Value.int .i64 0).cells (grownCap w (0+1) 0 3 -(0+1))).size=grownCap w (0+1) 0 3:=by simp only[Qh,size_zeroCells];show 1+(grownCap w 1 0 3 -1)*1=_;have:grownCap w (0+1) 0 3=grownCap w 1 0 3:=rfl;omega
   obtain⟨TT,Nz⟩:=FZ (hi.Ka hd).1 (.cells (([]++[Value.int .i64 x]).toArray++Builtin.zeroCells (Value.int .i64 0).cells (grownCap w (0+1) 0 3 -(0+1))) 3 (0,0)) (.cells [.int .i64 x]) (some _)
    (.inl ⟨_,_,_,_,rfl,rfl,.inl rfl,⟨_,[],by simp,rfl,rfl⟩,by simp[Value.oneCell'],rfl⟩)
   exact⟨_,TT,(hi.Ka hd).2.trans Nz,⟨w.heap.size,grownCap w (0+1) 0 3,by simp[Gh.BL],rfl,DT,⟨De 0,grownCap_le_maxLen _ _ _ _ (by decide)⟩,by simp only[Gh.BL];rw[if_pos (show w.heap.size=w.drew.heap.size from rfl),hsz,I8];exact Cf some (BJ _).symm⟩⟩
  .cases hp
 .rename_i id n i' x' Jo;cases Jo;split at hp
  .rename_i cs hcs;split at hp
   .rename_i HJ;obtain⟨c1,c2,c3,c4⟩:=HJ;cases hp;obtain⟨gb,cap,hm,rfl,hnc,⟨_,f_⟩,hsz⟩:=(show BH γ _ _ from hs);obtain⟨us,e,fr,p1,pf,p2,p3⟩:=hi.cells id cs hcs gb hm;obtain⟨⟨Dm,e',qC,q1,q2⟩,_⟩:=hi.sz gb _ hsz;rw[p1] at q1;cases q1;obtain⟨gb',hm',aJF⟩:=hi.KY id _ hcs (by simp);rw[hm] at hm';cases hm';have hne:g≠gb:=λhe=>Rr id (by rw[he];exact aJF);have UC:cs.length<=us.size:=by have:=p2.length;simp at this;omega
    have NW:us.size=cap:=by rw[q2];omega
    obtain⟨k,hk⟩:∃k:Nat,i=k:=⟨i.toNat,by omega⟩;subst hk;simp only[AS] at*;generalize hcv:us.toList.take n=cv;have gr:cv.length=n:=by rw[<-hcv];simp;omega
    have hcells:∀(j:Nat) (v:Value),cv[j]?=some v->w.cell? ⟨gb,0+j,none⟩=some v:=λj v hj=>by
     rw[cell_of_row w _ _ us e fr p1,BJ];rw[<-hcv,Ch] at hj;split at hj;·simpa using hj
     .cases hj
    have gu:∀v∈cv,v.oneCell'=true:=λv hv=>p3 v (by
     rw[<-hcv] at hv;have:us.toList.take n=(us.toList.take cs.length).take n:=by rw[GX,Co c3]
     rw[this] at hv;exact Bj hv)
    have hcr:Bb γ (cs.take n) cv:=by have:=p2.take n;rw[GX,Co c3,hcv] at this;exact this
    have To:Bb γ (cs.take k++[.int .i64 x]++(cs.take n).drop k) (cv.take k++[.int .i64 x]++cv.drop k):=by
     have e1:cs.take k=(cs.take n).take k:=by rw[GX,Co c2]
     rw[e1];exact((hcr.take k).append (show Bb γ [.int .i64 x] [Value.int .i64 x] from⟨_,[],rfl,rfl,rfl⟩)).append (hcr.drop k)
    have ur:∀v∈cv.take k++[Value.int .i64 x]++cv.drop k,v.oneCell'=true:=λv hv=>by
     simp only[Ax,Ap,Fk] at hv;rcases hv with hv|rfl|hv
     .exact gu v (Bj hv)
     .rfl
     .exact gu v (Bw hv)
    have Gv:(cv.take k++[Value.int .i64 x]++cv.drop k).length=n+1:=by simp;omega
    have aJG:(cv.take k).length+[Value.int .i64 x].length+(cv.drop k).length=n+1:=by rw[<-Gv];simp only[Ao]
    have hal:(cs.take k++[Aa.int .i64 x]++(cs.take n).drop k).length=n+1:=by rw[<-Gv,To.length]
    have hsp:∀j,j<n+1->n+1<=cap->(w.cell? ⟨gb,0+j,none⟩).isSome=true:=λj hj hc=>by rw[cell_of_row w _ _ us e fr p1,C3 (by omega)];rfl
    have hfz:∀j,j<n+1->n+1<=cap->w.frozen? ⟨gb,0+j,none⟩=false:=λj hj hc=>by
     simp only[World.frozen?,p1];rcases pf with rfl|kN
     .simp
     .simp;omega
    have inplace:∀(w1:World),n+1<=cap->w1=(w.drew).setRow gb (cv.take k++[Value.int .i64 x]++cv.drop k++us.toList.drop (n+1)).toArray\/w1=w.setRow gb (cv.take k++[Value.int .i64 x]++cv.drop k++us.toList.drop (n+1)).toArray->
      ∃γ',Gq γ' (h.set id .CH++[.cells (cs.take k++[.int .i64 x]++(cs.take n).drop k)]) w1/\J7 γ w γ' w1/\BH γ' (.Ck h.length 0 (n+1) 1) (.slice (some ⟨gb,0,none⟩) (n+1) cap):=by
     intro w1 hroom zd;have QC:(cv.take k++[Value.int .i64 x]++cv.drop k++us.toList.drop (n+1)).toArray.size=us.size:=by rw[B7,Ao,Gv,A8,Ci];omega
     have SI:(cv.take k++[Value.int .i64 x]++cv.drop k++us.toList.drop (n+1)).toArray.toList.take (cs.take k++[Aa.int .i64 x]++(cs.take n).drop k).length=cv.take k++[Value.int .i64 x]++cv.drop k:=by rw[hal,<-Gv];exact GY
     have go:∀wd:World,Gq γ h wd->J7 γ w γ wd->wd.heap[gb]?=some (.cells us e fr)->∃γ',Gq γ' (h.set id .CH++[.cells (cs.take k++[.int .i64 x]++(cs.take n).drop k)]) (wd.setRow gb (cv.take k++[Value.int .i64 x]++cv.drop k++us.toList.drop (n+1)).toArray)/\J7 γ w γ' (wd.setRow gb (cv.take k++[Value.int .i64 x]++cv.drop k++us.toList.drop (n+1)).toArray)/\BH γ' (.Ck h.length 0 (n+1) 1) (.slice (some ⟨gb,0,none⟩) (n+1) cap):=by
      intro wd Ha eP hp;obtain⟨γ2,DY,Tl,K5,zn⟩:=Ha.rel.fD hcs hm hp (by rw[hsz,q2]) (cv.take k++[Value.int .i64 x]++cv.drop k++us.toList.drop (n+1)).toArray (cs.take k++[.int .i64 x]++(cs.take n).drop k) QC
       (by
        rcases pf with rfl|pf
        .exact .inl rfl
        .exact .inr (by rw[QC];exact pf)) (by rw[SI];exact To) (by rw[SI];exact ur)
      exact⟨γ2,K5.DD,eP.trans K5.Dw,gb,cap,Tl,rfl,hroom,⟨De 0,f_⟩,by rw[zn,q2]⟩
     rcases zd with rfl|rfl
     .obtain⟨Ha,eP⟩:=hi.Ka hd;exact go w.drew Ha eP p1
     .exact go w hi (J7.refl _ _) p1
    have anew:∀(w1:World) (c:Nat) (d:List Value),n+1<=c->c<=maxLen->d.length=c-(n+1)->w1.heap=(w.heap.push (.cells (cv.take k++[Value.int .i64 x]++cv.drop k++d).toArray 3 (0,0)))->w1.os=w.os->w1.tape=w.tape->w1.output=w.output->
      ∃γ',Gq γ' (h.set id .CH++[.cells (cs.take k++[.int .i64 x]++(cs.take n).drop k)]) w1/\J7 γ w γ' w1/\BH γ' (.Ck h.length 0 (n+1) 1) (.slice (some ⟨w.heap.size,0,none⟩) (n+1) c):=by
     intro w1 c d hc hcl fH hh ho ht hou;have QC:(cv.take k++[Value.int .i64 x]++cv.drop k++d).toArray.size=c:=by simp only[B7,Ao,aJG,fH];omega
     have SI:(cv.take k++[Value.int .i64 x]++cv.drop k++d).toArray.toList.take (cs.take k++[Aa.int .i64 x]++(cs.take n).drop k).length=cv.take k++[Value.int .i64 x]++cv.drop k:=by rw[hal,<-Gv];exact GY
     obtain⟨γ2,DY,Tl,K5,zn⟩:=(hi.rel.kill id).newObj (cv.take k++[Value.int .i64 x]++cv.drop k++d).toArray 3 (0,0) (cs.take k++[.int .i64 x]++(cs.take n).drop k) (.inl rfl) (by rw[SI];exact To) (by rw[SI];exact ur);have hb:Below (w.alloc (.cells (cv.take k++[Value.int .i64 x]++cv.drop k++d).toArray 3 (0,0))).heap.size (w.alloc (.cells (cv.take k++[Value.int .i64 x]++cv.drop k++d).toArray 3 (0,0))) w1:=⟨ho,ht,hou,by rw[hh];exact Ac _,λk' _=>by rw[hh];rfl⟩;obtain⟨gw,fQ⟩:=K5.DD.Ka hb;have hlen:(h.set id .CH).length=h.length:=by simp
     rw[hlen] at Tl;exact⟨γ2,gw,K5.Dw.trans fQ,w.heap.size,c,Tl,rfl,hc,⟨De 0,hcl⟩,by rw[zn,QC];simp⟩
    by_cases hroom:n+1<=cap
    .by_cases gx:k=n
     .subst gx;have hc:=Proofs.Any2.slices_Insert_int_end_room Proofs.Tryz.Mi gb 0 k cap g 0 1 vcap [.int .i64 x] w (by omega) hroom f_ rfl (λj hj=>by rw[show 0+k+j=0+(k+j) by omega];exact hsp _ (by omega) hroom) (λj hj=>by rw[show 0+k+j=0+(k+j) by omega];exact hfz _ (by omega) hroom) hvs h1v;refine hc.mono λe w' he=>?_;obtain⟨rfl,rfl⟩:=he;refine inplace _ hroom (.inr ?_);rw[Ei _ _ us w p1 (by simp;omega),BJ,hcv];congr 2
      rw[AY (by omega:cv.length<=k),Az (by omega),Bv];rfl
     .have hlt:k<n:=by omega
      have hc:=Proofs.Any2.slices_Insert_int_shift Proofs.Tryz.Mi gb 0 n cap k g 0 1 vcap cv [.int .i64 x] w hlt (by omega) hroom f_ hne gr rfl hcells (λj hj=>hsp j hj hroom) (λj hj=>hfz j hj hroom) hvs gu h1v
       e0 e tS.size us.size (by simp[World.shape?,hg0]) (by simp[World.shape?,p1]) (by omega) (by rw[World.frozen?,hg0];rfl) (by rw[World.frozen?,hg0];rfl)
      refine hc.mono λe w' he=>?_;obtain⟨rfl,rfl⟩:=he;refine inplace _ hroom (.inl ?_);have p1':w.drew.heap[gb]?=some (.cells us _ fr):=p1;rw[Ei (cv.drop k) (0+(k+1)) us w.drew p1' (by simp;omega),Ei [.int .i64 x] (0+k) _ _ (setRow_heap _ gb us _ _ _ p1') (by simp;omega),Ys _ _ _ _ us _ _ p1'];congr 2
      apply List.ext_getElem?;intro j;have e1:(us.toList.take (0+(k+1))++cv.drop k++us.toList.drop (0+(k+1)+(cv.drop k).length)).length=us.size:=by simp;omega
      have e2:∀q,us.toList.take q=(us.toList.take n).take q++(us.toList.drop n).take (q-n):=λq=>by
       conv=>lhs;rw[<-CL n us.toList]
       rw[List.take_append];simp only[Al,Ci];rw[Co (by omega:n<=us.size)]
      simp only[BJ];have Wr:(us.toList.take (k+1)++cv.drop k++us.toList.drop (k+1+(cv.drop k).length)).take k=cv.take k:=by rw[Ax,CV (by simp;omega),GX,Co (Gf k),e2 k,hcv,Nat.sub_eq_zero_of_le c2,JQ,Bv]
      have Wj:(us.toList.take (k+1)++cv.drop k++us.toList.drop (k+1+(cv.drop k).length)).drop (k+1)=cv.drop k++us.toList.drop (n+1):=by
       have:(us.toList.take (k+1)).length=k+1:=by simp;omega
       rw[Ax,NI this];congr 2
       simp;omega
      simp only[Bf,BU,BJ];rw[Wr,Wj,Ax,Ax,Ax]
    .by_cases gx:k=n
     .subst gx;have hc:=Proofs.Any2.slices_Insert_int_end_grow Proofs.Tryz.Mi (some ⟨gb,0,none⟩) k cap g 0 1 vcap cv [.int .i64 x] w (by omega) hnc (by omega) (by simpa[AT] using c4) gr rfl (λe=>by cases e) (λa ea j v hj=>by cases ea;have:=hcells j v hj;rw[BJ] at this;rw[show(Addr.mk gb 0 none).add j=⟨gb,j,none⟩ by unfold Addr.add;split<;>simp_all];exact this) hvs h1v;refine hc.mono λe w' he=>?_;obtain⟨rfl,rfl⟩:=he;have DT:=grownCap_ge w (k+1) cap 3;refine anew _ (grownCap w (k+1) cap 3) (Builtin.zeroCells (Value.int .i64 0).cells (grownCap w (k+1) cap 3 -(k+1))).toList DT (grownCap_le_maxLen _ _ _ _ (by simp only[AT] at c4;simp only[maxLen];omega)) (by rw[Ci,size_zeroCells];exact I8 _) ?_ rfl rfl rfl;rw[AY (by omega:cv.length<=k),Az (by omega),Bv];show w.heap.push _=w.heap.push _;congr 2
      apply Jm;simp;rfl
     .have hlt:k<n:=by omega
      have hc:=Proofs.Any2.slices_Insert_int_grow Proofs.Tryz.Mi gb 0 n cap k g 0 1 vcap cv [.int .i64 x] w hlt (by omega) hnc (by omega) (by simpa[AT] using c4) gr rfl hcells hvs gu h1v;refine hc.mono λe w' he=>?_;obtain⟨rfl,rfl⟩:=he;have DT:=grownCap_ge w (n+1) cap 3;have ZF:∀m,(Builtin.zeroCells (Value.int .i64 0).cells m).size=m:=λm=>by rw[size_zeroCells];exact I8 _
      refine anew _ (grownCap w (n+1) cap 3) (Builtin.zeroCells (Value.int .i64 0).cells (grownCap w (n+1) cap 3 -(n+1))).toList DT (grownCap_le_maxLen _ _ _ _ (by simp only[AT] at c4;simp only[maxLen];omega)) (by rw[Ci,ZF]) ?_ ?_ ?_ ?_;all_goals
       obtain⟨q1,q2,q3,q4⟩:=aP w cv k n (.int .i64 x) (Builtin.zeroCells (Value.int .i64 0).cells (n+1 -k)) (Builtin.zeroCells (Value.int .i64 0).cells (grownCap w (n+1) cap 3 -(n+1))) 3 gr hlt (ZF _);first|exact q1|exact q2|exact q3|exact q4
   .cases hp
  .cases hp
 .cases hp
end
end Go.Am
