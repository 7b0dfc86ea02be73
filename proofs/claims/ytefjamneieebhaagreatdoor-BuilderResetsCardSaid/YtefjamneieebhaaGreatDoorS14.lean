/- Lemmas -/
import Derived.Test.YtefjamneieebhaaGreatDoorS12
import Derived.Test.YtefjamneieebhaaGreatDoorS10
import Derived.Test.YtefjamneieebhaaGreatDoorS13
set_option linter.unusedVariables false
set_option linter.unusedSimpArgs false
namespace Go.Am
open Go Go.RowKit
section
variable{γ γ':Gh}{h:Ad}{w w':World}
noncomputable def cx0:FG:={cx with Gf:=λ_=>none}
theorem Gp.rel(hi:Gp γ h w):CR cx0 γ w γ (λ_=>0) [] h {tmps:=#[],defers:=[]} w:=
 ⟨hi,⟨rfl,λs=>trivial⟩,J3.refl γ w,rfl,λg cs hg=>by cases hg⟩
theorem Yv(w:World)(g:Nat)(a b:Array Value)(us:Array Value)(e:TypeId)(fr:Nat×Nat)(hg:w.heap[g]?=some (.cells us e fr)):(w.setRow g a).setRow g b=w.setRow g b:=by
 unfold World.setRow;congr 1
 apply Array.ext_getElem?;intro i;by_cases hi:i=g;·subst hi;simp[su,hg]
 .simp[su,DQ hi]
theorem aX(w:World)(cv:List Value)(k n:Nat)(x:Value)(Z1 Z2:Array Value)(e:TypeId)(hl:cv.length=n)(hk:k<n)(hz:Z1.size=n+1 -k):
  let w1:=(((w.alloc (.cells ((cv.take k).toArray++Z1++Z2) e)).drew.setCells w.heap.size k [x]).drew).setCells w.heap.size (k+1) (cv.drop k)
  w1.heap=w.heap.push (.cells (cv.take k++[x]++cv.drop k++Z2.toList).toArray e (0,0))/\w1.os=w.os/\w1.tape=w.tape/\w1.output=w.output:=by
 intro w1;have hN:(cv.take k).length=k:=by simp;omega
 have IQ:((cv.take k).toArray++Z1++Z2).size=n+1+Z2.size:=by simp only[Qn,B6,hN,hz];omega
 have za:(w.alloc (.cells ((cv.take k).toArray++Z1++Z2) e)).drew.heap[w.heap.size]?=some (.cells ((cv.take k).toArray++Z1++Z2) e (0,0)):=heap_alloc_new w _;have e1:=Ec [x] k _ _ za (by rw[IQ];simp;omega);have hA:(((cv.take k).toArray++Z1++Z2).toList.take k++[x]++((cv.take k).toArray++Z1++Z2).toList.drop (k+[x].length))=cv.take k++[x]++(Z1.toList.drop 1++Z2.toList):=by
  simp only[Jt,AD,Bd,BT];congr 1
  .exact KI hN
  .congr 1
   rw[<-E5,NR hN,List.drop_append];have:1 -Z1.toList.length=0:=by simp;omega
   simp only[BJ] at*;rw[this,Qm]
 rw[hA] at e1;have wK:((w.alloc (.cells ((cv.take k).toArray++Z1++Z2) e)).drew.setRow w.heap.size (cv.take k++[x]++(Z1.toList.drop 1++Z2.toList)).toArray).drew.heap[w.heap.size]?=some (.cells (cv.take k++[x]++(Z1.toList.drop 1++Z2.toList)).toArray e (0,0)):=setRow_heap _ _ _ _ _ _ za;have T3:(Z1.toList.drop 1).length=n-k:=by simp[hz];omega
 have e2:=Ec (cv.drop k) (k+1) _ _ wK (by simp[hz];omega);have hB:((cv.take k++[x]++(Z1.toList.drop 1++Z2.toList)).toArray.toList.take (k+1)++cv.drop k++(cv.take k++[x]++(Z1.toList.drop 1++Z2.toList)).toArray.toList.drop (k+1+(cv.drop k).length))=cv.take k++[x]++cv.drop k++Z2.toList:=by
  have h1:(cv.take k++[x]).length=k+1:=by simp;omega
  simp only[Wp];rw[KI h1,<-E5,NR h1];congr 1
  exact NR (by rw[T3];simp;omega)
 rw[hB] at e2;have Tt:w1=((w.alloc (.cells ((cv.take k).toArray++Z1++Z2) e)).drew.setRow w.heap.size (cv.take k++[x]++(Z1.toList.drop 1++Z2.toList)).toArray).drew.setRow w.heap.size (cv.take k++[x]++cv.drop k++Z2.toList).toArray:=by show((((w.alloc _).drew.setCells _ _ _).drew).setCells _ _ _)=_;rw[e1,e2]
 rw[Tt];refine⟨?_,rfl,rfl,rfl⟩;apply Array.ext_getElem?;intro i;by_cases hi:i=w.heap.size;·subst hi;rw[setRow_heap _ _ _ _ _ _ wK];simp
 .rw[setRow_other _ _ _ _ hi];show((w.alloc _).drew.setRow _ _).heap[i]?=_;rw[setRow_other _ _ _ _ hi];show(w.heap.push _)[i]?=_;rw[Array.getElem?_push,Array.getElem?_push,if_neg hi,if_neg hi]
theorem rJ:vV cx 235:=by
 refine⟨⟨_,_,Proofs.Tryz.func235,rfl,rfl⟩,?_⟩;intro γ h w s sv i x h' r g vcap uD e0 hi hs hp hg0 Mo Rw hvc aPn;have hd:Below w.heap.size w w.drew:=(Below.refl _ _).drew;have hvs:∀(j:Nat) (v:Value),[Value.int .i64 x][j]?=some v->w.cell? ⟨g,0+j,none⟩=some v:=λj v hj=>by
  cases j with
  |zero=>cases hj;rw[cell_of_row w _ _ uD e0 (0,0) hg0];exact Mo
  |succ j=>simp at hj
 have h1v:∀v∈[Value.int .i64 x],v.oneCell'=true:=λv hv=>by simp at hv;subst hv;rfl
 have hgl:g<w.heap.size:=(A0.1 hg0).1;unfold OE at hp;split at hp
 .rename_i i' x' Jk;cases Jk;split at hp
  .rename_i h0;subst h0;cases hp;have Kq:sv= .slice none 0 0:=hs;subst Kq;have hc:=Proofs.Any2.slices_Insert_int_end_grow Proofs.Tryz.Mn none 0 0 g 0 1 vcap [] [.int .i64 x] w (by omega) (Ac _) (by omega) (by decide) rfl rfl (λ_=>rfl) (λ_ e=>by cases e) hvs h1v;refine hc.mono λe w' he=>?_;obtain⟨rfl,rfl⟩:=he;have D1:=grownCap_ge w (0+1) 0 3;have hsz:(([]++[Value.int .i64 x]).toArray++Builtin.zeroCells (Value.int .i64 0).cells (grownCap w (0+1) 0 3 -(0+1))).size=grownCap w (0+1) 0 3:=by simp only[Qn,size_zeroCells];show 1+(grownCap w 1 0 3 -1)*1=_;have:grownCap w (0+1) 0 3=grownCap w 1 0 3:=rfl;omega
   obtain⟨TX,NH⟩:=FX (hi.J6 hd).1 (.cells (([]++[Value.int .i64 x]).toArray++Builtin.zeroCells (Value.int .i64 0).cells (grownCap w (0+1) 0 3 -(0+1))) 3 (0,0)) (.cells [.int .i64 x]) (some _)
    (.inl ⟨_,_,_,_,rfl,rfl,.inl rfl,⟨_,[],by simp,rfl,rfl⟩,by simp[Value.oneCell'],rfl⟩)
   exact⟨_,TX,(hi.J6 hd).2.trans NH,⟨w.heap.size,grownCap w (0+1) 0 3,by simp[Gh.BM],rfl,D1,⟨Db 0,grownCap_le_maxLen _ _ _ _ (by decide)⟩,by simp only[Gh.BM];rw[if_pos (show w.heap.size=w.drew.heap.size from rfl),hsz,Kj];exact Cd some (BJ _).symm⟩⟩
  .cases hp
 .rename_i id n i' x' Jk;cases Jk;split at hp
  .rename_i cs hcs;split at hp
   .rename_i HG;obtain⟨c1,c2,c3,c4⟩:=HG;cases hp;obtain⟨gb,cap,hm,rfl,hnc,⟨_,gh⟩,hsz⟩:=(show BE γ _ _ from hs);obtain⟨us,e,fr,p1,pf,p2,p3⟩:=hi.cells id cs hcs gb hm;obtain⟨⟨Dj,e',qL,q1,q2⟩,_⟩:=hi.sz gb _ hsz;rw[p1] at q1;cases q1;obtain⟨gb',hm',aJ0⟩:=hi.KT id _ hcs (by simp);rw[hm] at hm';cases hm';have hne:g≠gb:=λhe=>Rw id (by rw[he];exact aJ0);have ZI:cs.length<=us.size:=by have:=p2.length;simp at this;omega
    have N3:us.size=cap:=by rw[q2];omega
    obtain⟨k,hk⟩:∃k:Nat,i=k:=⟨i.toNat,by omega⟩;subst hk;simp only[AQ] at*;generalize hcv:us.toList.take n=cv;have gx:cv.length=n:=by rw[<-hcv];simp;omega
    have hcells:∀(j:Nat) (v:Value),cv[j]?=some v->w.cell? ⟨gb,0+j,none⟩=some v:=λj v hj=>by
     rw[cell_of_row w _ _ us e fr p1,BJ];rw[<-hcv,Cf] at hj;split at hj;·simpa using hj
     .cases hj
    have gy:∀v∈cv,v.oneCell'=true:=λv hv=>p3 v (by
     rw[<-hcv] at hv;have:us.toList.take n=(us.toList.take cs.length).take n:=by rw[GR,Cm c3]
     rw[this] at hv;exact Bf hv)
    have hcr:A9 γ (cs.take n) cv:=by have:=p2.take n;rw[GR,Cm c3,hcv] at this;exact this
    have Tt:A9 γ (cs.take k++[.int .i64 x]++(cs.take n).drop k) (cv.take k++[.int .i64 x]++cv.drop k):=by
     have e1:cs.take k=(cs.take n).take k:=by rw[GR,Cm c2]
     rw[e1];exact((hcr.take k).append (show A9 γ [.int .i64 x] [Value.int .i64 x] from⟨_,[],rfl,rfl,rfl⟩)).append (hcr.drop k)
    have uj:∀v∈cv.take k++[Value.int .i64 x]++cv.drop k,v.oneCell'=true:=λv hv=>by
     simp only[AD,Ao,Fi] at hv;rcases hv with hv|rfl|hv
     .exact gy v (Bf hv)
     .rfl
     .exact gy v (Bv hv)
    have GG:(cv.take k++[Value.int .i64 x]++cv.drop k).length=n+1:=by simp;omega
    have aJ1:(cv.take k).length+[Value.int .i64 x].length+(cv.drop k).length=n+1:=by rw[<-GG];simp only[As]
    have hal:(cs.take k++[Aa.int .i64 x]++(cs.take n).drop k).length=n+1:=by rw[<-GG,Tt.length]
    have hsp:∀j,j<n+1->n+1<=cap->(w.cell? ⟨gb,0+j,none⟩).isSome=true:=λj hj hc=>by rw[cell_of_row w _ _ us e fr p1,C2 (by omega)];rfl
    have hfz:∀j,j<n+1->n+1<=cap->w.frozen? ⟨gb,0+j,none⟩=false:=λj hj hc=>by
     simp only[World.frozen?,p1];rcases pf with rfl|kZ
     .simp
     .simp;omega
    have inplace:∀(w1:World),n+1<=cap->w1=(w.drew).setRow gb (cv.take k++[Value.int .i64 x]++cv.drop k++us.toList.drop (n+1)).toArray\/w1=w.setRow gb (cv.take k++[Value.int .i64 x]++cv.drop k++us.toList.drop (n+1)).toArray->
      ∃γ',Gp γ' (h.set id .CG++[.cells (cs.take k++[.int .i64 x]++(cs.take n).drop k)]) w1/\J3 γ w γ' w1/\BE γ' (.Cl h.length 0 (n+1) 1) (.slice (some ⟨gb,0,none⟩) (n+1) cap):=by
     intro w1 hroom za;have QI:(cv.take k++[Value.int .i64 x]++cv.drop k++us.toList.drop (n+1)).toArray.size=us.size:=by rw[B6,As,GG,A8,Cg];omega
     have SL:(cv.take k++[Value.int .i64 x]++cv.drop k++us.toList.drop (n+1)).toArray.toList.take (cs.take k++[Aa.int .i64 x]++(cs.take n).drop k).length=cv.take k++[Value.int .i64 x]++cv.drop k:=by rw[hal,<-GG];exact GS
     have go:∀wd:World,Gp γ h wd->J3 γ w γ wd->wd.heap[gb]?=some (.cells us e fr)->∃γ',Gp γ' (h.set id .CG++[.cells (cs.take k++[.int .i64 x]++(cs.take n).drop k)]) (wd.setRow gb (cv.take k++[Value.int .i64 x]++cv.drop k++us.toList.drop (n+1)).toArray)/\J3 γ w γ' (wd.setRow gb (cv.take k++[Value.int .i64 x]++cv.drop k++us.toList.drop (n+1)).toArray)/\BE γ' (.Cl h.length 0 (n+1) 1) (.slice (some ⟨gb,0,none⟩) (n+1) cap):=by
      intro wd Ht fC hp;obtain⟨γ2,DV,Tq,KX,zk⟩:=Ht.rel.fR hcs hm hp (by rw[hsz,q2]) (cv.take k++[Value.int .i64 x]++cv.drop k++us.toList.drop (n+1)).toArray (cs.take k++[.int .i64 x]++(cs.take n).drop k) QI
       (by
        rcases pf with rfl|pf
        .exact .inl rfl
        .exact .inr (by rw[QI];exact pf)) (by rw[SL];exact Tt) (by rw[SL];exact uj)
      exact⟨γ2,KX.DD,fC.trans KX.Dw,gb,cap,Tq,rfl,hroom,⟨Db 0,gh⟩,by rw[zk,q2]⟩
     rcases za with rfl|rfl
     .obtain⟨Ht,fC⟩:=hi.J6 hd;exact go w.drew Ht fC p1
     .exact go w hi (J3.refl _ _) p1
    have anew:∀(w1:World) (c:Nat) (d:List Value),n+1<=c->c<=maxLen->d.length=c-(n+1)->w1.heap=(w.heap.push (.cells (cv.take k++[Value.int .i64 x]++cv.drop k++d).toArray 3 (0,0)))->w1.os=w.os->w1.tape=w.tape->w1.output=w.output->
      ∃γ',Gp γ' (h.set id .CG++[.cells (cs.take k++[.int .i64 x]++(cs.take n).drop k)]) w1/\J3 γ w γ' w1/\BE γ' (.Cl h.length 0 (n+1) 1) (.slice (some ⟨w.heap.size,0,none⟩) (n+1) c):=by
     intro w1 c d hc hcl fW hh ho ht hou;have QI:(cv.take k++[Value.int .i64 x]++cv.drop k++d).toArray.size=c:=by simp only[B6,As,aJ1,fW];omega
     have SL:(cv.take k++[Value.int .i64 x]++cv.drop k++d).toArray.toList.take (cs.take k++[Aa.int .i64 x]++(cs.take n).drop k).length=cv.take k++[Value.int .i64 x]++cv.drop k:=by rw[hal,<-GG];exact GS
     obtain⟨γ2,DV,Tq,KX,zk⟩:=(hi.rel.kill id).newObj (cv.take k++[Value.int .i64 x]++cv.drop k++d).toArray 3 (0,0) (cs.take k++[.int .i64 x]++(cs.take n).drop k) (.inl rfl) (by rw[SL];exact Tt) (by rw[SL];exact uj);have hb:Below (w.alloc (.cells (cv.take k++[Value.int .i64 x]++cv.drop k++d).toArray 3 (0,0))).heap.size (w.alloc (.cells (cv.take k++[Value.int .i64 x]++cv.drop k++d).toArray 3 (0,0))) w1:=⟨ho,ht,hou,by rw[hh];exact Ac _,λk' _=>by rw[hh];rfl⟩;obtain⟨gz,gF⟩:=KX.DD.J6 hb;have hlen:(h.set id .CG).length=h.length:=by simp
     rw[hlen] at Tq;exact⟨γ2,gz,KX.Dw.trans gF,w.heap.size,c,Tq,rfl,hc,⟨Db 0,hcl⟩,by rw[zk,QI];simp⟩
    by_cases hroom:n+1<=cap
    .by_cases hkn:k=n
     .subst hkn;have hc:=Proofs.Any2.slices_Insert_int_end_room Proofs.Tryz.Mn gb 0 k cap g 0 1 vcap [.int .i64 x] w (by omega) hroom gh rfl (λj hj=>by rw[show 0+k+j=0+(k+j) by omega];exact hsp _ (by omega) hroom) (λj hj=>by rw[show 0+k+j=0+(k+j) by omega];exact hfz _ (by omega) hroom) hvs h1v;refine hc.mono λe w' he=>?_;obtain⟨rfl,rfl⟩:=he;refine inplace _ hroom (.inr ?_);rw[Ec _ _ us w p1 (by simp;omega),BJ,hcv];congr 2
      rw[A3 (by omega:cv.length<=k),Ay (by omega),BC];rfl
     .have hlt:k<n:=by omega
      have hc:=Proofs.Any2.slices_Insert_int_shift Proofs.Tryz.Mn gb 0 n cap k g 0 1 vcap cv [.int .i64 x] w hlt (by omega) hroom gh hne gx rfl hcells (λj hj=>hsp j hj hroom) (λj hj=>hfz j hj hroom) hvs gy h1v
       e0 e uD.size us.size (by simp[World.shape?,hg0]) (by simp[World.shape?,p1]) (by omega) (by rw[World.frozen?,hg0];rfl) (by rw[World.frozen?,hg0];rfl)
      refine hc.mono λe w' he=>?_;obtain⟨rfl,rfl⟩:=he;refine inplace _ hroom (.inl ?_);have p1':w.drew.heap[gb]?=some (.cells us _ fr):=p1;rw[Ec (cv.drop k) (0+(k+1)) us w.drew p1' (by simp;omega),Ec [.int .i64 x] (0+k) _ _ (setRow_heap _ gb us _ _ _ p1') (by simp;omega),Yv _ _ _ _ us _ _ p1'];congr 2
      apply List.ext_getElem?;intro j;have e1:(us.toList.take (0+(k+1))++cv.drop k++us.toList.drop (0+(k+1)+(cv.drop k).length)).length=us.size:=by simp;omega
      have e2:∀q,us.toList.take q=(us.toList.take n).take q++(us.toList.drop n).take (q-n):=λq=>by
       conv=>lhs;rw[<-CK n us.toList]
       rw[List.take_append];simp only[Al,Cg];rw[Cm (by omega:n<=us.size)]
      simp only[BJ];have Wt:(us.toList.take (k+1)++cv.drop k++us.toList.drop (k+1+(cv.drop k).length)).take k=cv.take k:=by rw[AD,CT (by simp;omega),GR,Cm (Gd k),e2 k,hcv,Nat.sub_eq_zero_of_le c2,L5,BC]
      have Wl:(us.toList.take (k+1)++cv.drop k++us.toList.drop (k+1+(cv.drop k).length)).drop (k+1)=cv.drop k++us.toList.drop (n+1):=by
       have:(us.toList.take (k+1)).length=k+1:=by simp;omega
       rw[AD,NR this];congr 2
       simp;omega
      simp only[Bd,BT,BJ];rw[Wt,Wl,AD,AD,AD]
    .by_cases hkn:k=n
     .subst hkn;have hc:=Proofs.Any2.slices_Insert_int_end_grow Proofs.Tryz.Mn (some ⟨gb,0,none⟩) k cap g 0 1 vcap cv [.int .i64 x] w (by omega) hnc (by omega) (by simpa[AS] using c4) gx rfl (λe=>by cases e) (λa ea j v hj=>by cases ea;have:=hcells j v hj;rw[BJ] at this;rw[show(Addr.mk gb 0 none).add j=⟨gb,j,none⟩ by unfold Addr.add;split<;>simp_all];exact this) hvs h1v;refine hc.mono λe w' he=>?_;obtain⟨rfl,rfl⟩:=he;have D1:=grownCap_ge w (k+1) cap 3;refine anew _ (grownCap w (k+1) cap 3) (Builtin.zeroCells (Value.int .i64 0).cells (grownCap w (k+1) cap 3 -(k+1))).toList D1 (grownCap_le_maxLen _ _ _ _ (by simp only[AS] at c4;simp only[maxLen];omega)) (by rw[Cg,size_zeroCells];exact Kj _) ?_ rfl rfl rfl;rw[A3 (by omega:cv.length<=k),Ay (by omega),BC];show w.heap.push _=w.heap.push _;congr 2
      apply Jh;simp;rfl
     .have hlt:k<n:=by omega
      have hc:=Proofs.Any2.slices_Insert_int_grow Proofs.Tryz.Mn gb 0 n cap k g 0 1 vcap cv [.int .i64 x] w hlt (by omega) hnc (by omega) (by simpa[AS] using c4) gx rfl hcells hvs gy h1v;refine hc.mono λe w' he=>?_;obtain⟨rfl,rfl⟩:=he;have D1:=grownCap_ge w (n+1) cap 3;have ZJ:∀m,(Builtin.zeroCells (Value.int .i64 0).cells m).size=m:=λm=>by rw[size_zeroCells];exact Kj _
      refine anew _ (grownCap w (n+1) cap 3) (Builtin.zeroCells (Value.int .i64 0).cells (grownCap w (n+1) cap 3 -(n+1))).toList D1 (grownCap_le_maxLen _ _ _ _ (by simp only[AS] at c4;simp only[maxLen];omega)) (by rw[Cg,ZJ]) ?_ ?_ ?_ ?_;all_goals
       obtain⟨q1,q2,q3,q4⟩:=aX w cv k n (.int .i64 x) (Builtin.zeroCells (Value.int .i64 0).cells (n+1 -k)) (Builtin.zeroCells (Value.int .i64 0).cells (grownCap w (n+1) cap 3 -(n+1))) 3 gx hlt (ZJ _);first|exact q1|exact q2|exact q3|exact q4
   .cases hp
  .cases hp
 .cases hp
end
end Go.Am
