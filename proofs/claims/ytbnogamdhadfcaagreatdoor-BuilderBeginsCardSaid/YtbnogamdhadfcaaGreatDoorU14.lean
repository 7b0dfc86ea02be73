/- Lemmas -/
import Derived.Test.YtbnogamdhadfcaaGreatDoorU12
import Derived.Test.YtbnogamdhadfcaaGreatDoorU10
import Derived.Test.YtbnogamdhadfcaaGreatDoorU13
set_option linter.unusedVariables false
set_option linter.unusedSimpArgs false
namespace Go.Am
open Go Go.RowKit
section
variable{γ γ':Gh}{h:Ae}{w w':World}
noncomputable def cx0:FI:={cx with Gj:=λ_=>none}
theorem Gs.rel(hi:Gs γ h w):CS cx0 γ w γ (λ_=>0) [] h {tmps:=#[],defers:=[]} w:=
 ⟨hi,⟨rfl,λs=>trivial⟩,J1.refl γ w,rfl,λg cs hg=>by cases hg⟩
theorem Yq(w:World)(g:Nat)(a b:Array Value)(us:Array Value)(e:TypeId)(fr:Nat×Nat)(hg:w.heap[g]?=some (.cells us e fr)):(w.setRow g a).setRow g b=w.setRow g b:=by
 unfold World.setRow;congr 1
 apply Array.ext_getElem?;intro i;by_cases hi:i=g;·subst hi;simp[s_,hg]
 .simp[s_,DR hi]
theorem aP(w:World)(cv:List Value)(k n:Nat)(x:Value)(Z1 Z2:Array Value)(e:TypeId)(hl:cv.length=n)(hk:k<n)(hz:Z1.size=n+1 -k):
  let w1:=(((w.alloc (.cells ((cv.take k).toArray++Z1++Z2) e)).drew.setCells w.heap.size k [x]).drew).setCells w.heap.size (k+1) (cv.drop k)
  w1.heap=w.heap.push (.cells (cv.take k++[x]++cv.drop k++Z2.toList).toArray e (0,0))/\w1.os=w.os/\w1.tape=w.tape/\w1.output=w.output:=by
 intro w1;have hN:(cv.take k).length=k:=by simp;omega
 have IP:((cv.take k).toArray++Z1++Z2).size=n+1+Z2.size:=by simp only[Qi,B6,hN,hz];omega
 have zg:(w.alloc (.cells ((cv.take k).toArray++Z1++Z2) e)).drew.heap[w.heap.size]?=some (.cells ((cv.take k).toArray++Z1++Z2) e (0,0)):=heap_alloc_new w _;have e1:=Ed [x] k _ _ zg (by rw[IP];simp;omega);have hA:(((cv.take k).toArray++Z1++Z2).toList.take k++[x]++((cv.take k).toArray++Z1++Z2).toList.drop (k+[x].length))=cv.take k++[x]++(Z1.toList.drop 1++Z2.toList):=by
  simp only[Js,AB,Bc,BT];congr 1
  .exact KJ hN
  .congr 1
   rw[<-E7,NG hN,List.drop_append];have:1 -Z1.toList.length=0:=by simp;omega
   simp only[BJ] at*;rw[this,Qh]
 rw[hA] at e1;have vV:((w.alloc (.cells ((cv.take k).toArray++Z1++Z2) e)).drew.setRow w.heap.size (cv.take k++[x]++(Z1.toList.drop 1++Z2.toList)).toArray).drew.heap[w.heap.size]?=some (.cells (cv.take k++[x]++(Z1.toList.drop 1++Z2.toList)).toArray e (0,0)):=setRow_heap _ _ _ _ _ _ zg;have TX:(Z1.toList.drop 1).length=n-k:=by simp[hz];omega
 have e2:=Ed (cv.drop k) (k+1) _ _ vV (by simp[hz];omega);have hB:((cv.take k++[x]++(Z1.toList.drop 1++Z2.toList)).toArray.toList.take (k+1)++cv.drop k++(cv.take k++[x]++(Z1.toList.drop 1++Z2.toList)).toArray.toList.drop (k+1+(cv.drop k).length))=cv.take k++[x]++cv.drop k++Z2.toList:=by
  have h1:(cv.take k++[x]).length=k+1:=by simp;omega
  simp only[Wl];rw[KJ h1,<-E7,NG h1];congr 1
  exact NG (by rw[TX];simp;omega)
 rw[hB] at e2;have Tk:w1=((w.alloc (.cells ((cv.take k).toArray++Z1++Z2) e)).drew.setRow w.heap.size (cv.take k++[x]++(Z1.toList.drop 1++Z2.toList)).toArray).drew.setRow w.heap.size (cv.take k++[x]++cv.drop k++Z2.toList).toArray:=by show((((w.alloc _).drew.setCells _ _ _).drew).setCells _ _ _)=_;rw[e1,e2]
 rw[Tk];refine⟨?_,rfl,rfl,rfl⟩;apply Array.ext_getElem?;intro i;by_cases hi:i=w.heap.size;·subst hi;rw[setRow_heap _ _ _ _ _ _ vV];simp
 .rw[setRow_other _ _ _ _ hi];show((w.alloc _).drew.setRow _ _).heap[i]?=_;rw[setRow_other _ _ _ _ hi];show(w.heap.push _)[i]?=_;rw[Array.getElem?_push,Array.getElem?_push,if_neg hi,if_neg hi]
theorem q9:vF cx 199:=by
 refine⟨⟨_,_,Proofs.Tryz.func199,rfl,rfl⟩,?_⟩;intro γ h w s sv i x h' r g vcap tR e0 hi hs hp hg0 Mi Rp hvc aPk;have hd:Below w.heap.size w w.drew:=(Below.refl _ _).drew;have hvs:∀(j:Nat) (v:Value),[Value.int .i64 x][j]?=some v->w.cell? ⟨g,0+j,none⟩=some v:=λj v hj=>by
  cases j with
  |zero=>cases hj;rw[cell_of_row w _ _ tR e0 (0,0) hg0];exact Mi
  |succ j=>simp at hj
 have h1v:∀v∈[Value.int .i64 x],v.oneCell'=true:=λv hv=>by simp at hv;subst hv;rfl
 have hgl:g<w.heap.size:=(A0.1 hg0).1;unfold Ow at hp;split at hp
 .rename_i i' x' Ji;cases Ji;split at hp
  .rename_i h0;subst h0;cases hp;have Ks:sv= .slice none 0 0:=hs;subst Ks;have hc:=Proofs.Any2.slices_Insert_int_end_grow Proofs.Tryz.Mh none 0 0 g 0 1 vcap [] [.int .i64 x] w (by omega) (Ac _) (by omega) (by decide) rfl rfl (λ_=>rfl) (λ_ e=>by cases e) hvs h1v;refine hc.mono λe w' he=>?_;obtain⟨rfl,rfl⟩:=he;have D2:=grownCap_ge w (0+1) 0 3;have hsz:(([]++[Value.int .i64 x]).toArray++Builtin.zeroCells (Value.int .i64 0).cells (grownCap w (0+1) 0 3 -(0+1))).size=grownCap w (0+1) 0 3:=by simp only[Qi,size_zeroCells];show 1+(grownCap w 1 0 3 -1)*1=_;have:grownCap w (0+1) 0 3=grownCap w 1 0 3:=rfl;omega
   obtain⟨TR,Nv⟩:=F0 (hi.J5 hd).1 (.cells (([]++[Value.int .i64 x]).toArray++Builtin.zeroCells (Value.int .i64 0).cells (grownCap w (0+1) 0 3 -(0+1))) 3 (0,0)) (.cells [.int .i64 x]) (some _)
    (.inl ⟨_,_,_,_,rfl,rfl,.inl rfl,⟨_,[],by simp,rfl,rfl⟩,by simp[Value.oneCell'],rfl⟩)
   exact⟨_,TR,(hi.J5 hd).2.trans Nv,⟨w.heap.size,grownCap w (0+1) 0 3,by simp[Gh.BL],rfl,D2,⟨Dd 0,grownCap_le_maxLen _ _ _ _ (by decide)⟩,by simp only[Gh.BL];rw[if_pos (show w.heap.size=w.drew.heap.size from rfl),hsz,Kk];exact Ce some (BJ _).symm⟩⟩
  .cases hp
 .rename_i id n i' x' Ji;cases Ji;split at hp
  .rename_i cs hcs;split at hp
   .rename_i HI;obtain⟨c1,c2,c3,c4⟩:=HI;cases hp;obtain⟨gb,cap,hm,rfl,hnc,⟨_,fq⟩,hsz⟩:=(show BF γ _ _ from hs);obtain⟨us,e,fr,p1,pf,p2,p3⟩:=hi.cells id cs hcs gb hm;obtain⟨⟨Dk,e',qB,q1,q2⟩,_⟩:=hi.sz gb _ hsz;rw[p1] at q1;cases q1;obtain⟨gb',hm',aJO⟩:=hi.KW id _ hcs (by simp);rw[hm] at hm';cases hm';have hne:g≠gb:=λhe=>Rp id (by rw[he];exact aJO);have ZE:cs.length<=us.size:=by have:=p2.length;simp at this;omega
    have NT:us.size=cap:=by rw[q2];omega
    obtain⟨k,hk⟩:∃k:Nat,i=k:=⟨i.toNat,by omega⟩;subst hk;simp only[AQ] at*;generalize hcv:us.toList.take n=cv;have gj:cv.length=n:=by rw[<-hcv];simp;omega
    have hcells:∀(j:Nat) (v:Value),cv[j]?=some v->w.cell? ⟨gb,0+j,none⟩=some v:=λj v hj=>by
     rw[cell_of_row w _ _ us e fr p1,BJ];rw[<-hcv,Cg] at hj;split at hj;·simpa using hj
     .cases hj
    have gl:∀v∈cv,v.oneCell'=true:=λv hv=>p3 v (by
     rw[<-hcv] at hv;have:us.toList.take n=(us.toList.take cs.length).take n:=by rw[GV,Cn c3]
     rw[this] at hv;exact Bf hv)
    have hcr:A8 γ (cs.take n) cv:=by have:=p2.take n;rw[GV,Cn c3,hcv] at this;exact this
    have Tk:A8 γ (cs.take k++[.int .i64 x]++(cs.take n).drop k) (cv.take k++[.int .i64 x]++cv.drop k):=by
     have e1:cs.take k=(cs.take n).take k:=by rw[GV,Cn c2]
     rw[e1];exact((hcr.take k).append (show A8 γ [.int .i64 x] [Value.int .i64 x] from⟨_,[],rfl,rfl,rfl⟩)).append (hcr.drop k)
    have uq:∀v∈cv.take k++[Value.int .i64 x]++cv.drop k,v.oneCell'=true:=λv hv=>by
     simp only[AB,Ao,Fl] at hv;rcases hv with hv|rfl|hv
     .exact gl v (Bf hv)
     .rfl
     .exact gl v (Bw hv)
    have GI:(cv.take k++[Value.int .i64 x]++cv.drop k).length=n+1:=by simp;omega
    have aJP:(cv.take k).length+[Value.int .i64 x].length+(cv.drop k).length=n+1:=by rw[<-GI];simp only[Aq]
    have hal:(cs.take k++[Aa.int .i64 x]++(cs.take n).drop k).length=n+1:=by rw[<-GI,Tk.length]
    have hsp:∀j,j<n+1->n+1<=cap->(w.cell? ⟨gb,0+j,none⟩).isSome=true:=λj hj hc=>by rw[cell_of_row w _ _ us e fr p1,C3 (by omega)];rfl
    have hfz:∀j,j<n+1->n+1<=cap->w.frozen? ⟨gb,0+j,none⟩=false:=λj hj hc=>by
     simp only[World.frozen?,p1];rcases pf with rfl|kN
     .simp
     .simp;omega
    have inplace:∀(w1:World),n+1<=cap->w1=(w.drew).setRow gb (cv.take k++[Value.int .i64 x]++cv.drop k++us.toList.drop (n+1)).toArray\/w1=w.setRow gb (cv.take k++[Value.int .i64 x]++cv.drop k++us.toList.drop (n+1)).toArray->
      ∃γ',Gs γ' (h.set id .CG++[.cells (cs.take k++[.int .i64 x]++(cs.take n).drop k)]) w1/\J1 γ w γ' w1/\BF γ' (.Cm h.length 0 (n+1) 1) (.slice (some ⟨gb,0,none⟩) (n+1) cap):=by
     intro w1 hroom zg;have QD:(cv.take k++[Value.int .i64 x]++cv.drop k++us.toList.drop (n+1)).toArray.size=us.size:=by rw[B6,Aq,GI,A7,Ch];omega
     have SE:(cv.take k++[Value.int .i64 x]++cv.drop k++us.toList.drop (n+1)).toArray.toList.take (cs.take k++[Aa.int .i64 x]++(cs.take n).drop k).length=cv.take k++[Value.int .i64 x]++cv.drop k:=by rw[hal,<-GI];exact GW
     have go:∀wd:World,Gs γ h wd->J1 γ w γ wd->wd.heap[gb]?=some (.cells us e fr)->∃γ',Gs γ' (h.set id .CG++[.cells (cs.take k++[.int .i64 x]++(cs.take n).drop k)]) (wd.setRow gb (cv.take k++[Value.int .i64 x]++cv.drop k++us.toList.drop (n+1)).toArray)/\J1 γ w γ' (wd.setRow gb (cv.take k++[Value.int .i64 x]++cv.drop k++us.toList.drop (n+1)).toArray)/\BF γ' (.Cm h.length 0 (n+1) 1) (.slice (some ⟨gb,0,none⟩) (n+1) cap):=by
      intro wd Hj eR hp;obtain⟨γ2,DW,Th,K0,zq⟩:=Hj.rel.fG hcs hm hp (by rw[hsz,q2]) (cv.take k++[Value.int .i64 x]++cv.drop k++us.toList.drop (n+1)).toArray (cs.take k++[.int .i64 x]++(cs.take n).drop k) QD
       (by
        rcases pf with rfl|pf
        .exact .inl rfl
        .exact .inr (by rw[QD];exact pf)) (by rw[SE];exact Tk) (by rw[SE];exact uq)
      exact⟨γ2,K0.DD,eR.trans K0.Dw,gb,cap,Th,rfl,hroom,⟨Dd 0,fq⟩,by rw[zq,q2]⟩
     rcases zg with rfl|rfl
     .obtain⟨Hj,eR⟩:=hi.J5 hd;exact go w.drew Hj eR p1
     .exact go w hi (J1.refl _ _) p1
    have anew:∀(w1:World) (c:Nat) (d:List Value),n+1<=c->c<=maxLen->d.length=c-(n+1)->w1.heap=(w.heap.push (.cells (cv.take k++[Value.int .i64 x]++cv.drop k++d).toArray 3 (0,0)))->w1.os=w.os->w1.tape=w.tape->w1.output=w.output->
      ∃γ',Gs γ' (h.set id .CG++[.cells (cs.take k++[.int .i64 x]++(cs.take n).drop k)]) w1/\J1 γ w γ' w1/\BF γ' (.Cm h.length 0 (n+1) 1) (.slice (some ⟨w.heap.size,0,none⟩) (n+1) c):=by
     intro w1 c d hc hcl fK hh ho ht hou;have QD:(cv.take k++[Value.int .i64 x]++cv.drop k++d).toArray.size=c:=by simp only[B6,Aq,aJP,fK];omega
     have SE:(cv.take k++[Value.int .i64 x]++cv.drop k++d).toArray.toList.take (cs.take k++[Aa.int .i64 x]++(cs.take n).drop k).length=cv.take k++[Value.int .i64 x]++cv.drop k:=by rw[hal,<-GI];exact GW
     obtain⟨γ2,DW,Th,K0,zq⟩:=(hi.rel.kill id).newObj (cv.take k++[Value.int .i64 x]++cv.drop k++d).toArray 3 (0,0) (cs.take k++[.int .i64 x]++(cs.take n).drop k) (.inl rfl) (by rw[SE];exact Tk) (by rw[SE];exact uq);have hb:Below (w.alloc (.cells (cv.take k++[Value.int .i64 x]++cv.drop k++d).toArray 3 (0,0))).heap.size (w.alloc (.cells (cv.take k++[Value.int .i64 x]++cv.drop k++d).toArray 3 (0,0))) w1:=⟨ho,ht,hou,by rw[hh];exact Ac _,λk' _=>by rw[hh];rfl⟩;obtain⟨gm,fV⟩:=K0.DD.J5 hb;have hlen:(h.set id .CG).length=h.length:=by simp
     rw[hlen] at Th;exact⟨γ2,gm,K0.Dw.trans fV,w.heap.size,c,Th,rfl,hc,⟨Dd 0,hcl⟩,by rw[zq,QD];simp⟩
    by_cases hroom:n+1<=cap
    .by_cases hkn:k=n
     .subst hkn;have hc:=Proofs.Any2.slices_Insert_int_end_room Proofs.Tryz.Mh gb 0 k cap g 0 1 vcap [.int .i64 x] w (by omega) hroom fq rfl (λj hj=>by rw[show 0+k+j=0+(k+j) by omega];exact hsp _ (by omega) hroom) (λj hj=>by rw[show 0+k+j=0+(k+j) by omega];exact hfz _ (by omega) hroom) hvs h1v;refine hc.mono λe w' he=>?_;obtain⟨rfl,rfl⟩:=he;refine inplace _ hroom (.inr ?_);rw[Ed _ _ us w p1 (by simp;omega),BJ,hcv];congr 2
      rw[A3 (by omega:cv.length<=k),Ay (by omega),BB];rfl
     .have hlt:k<n:=by omega
      have hc:=Proofs.Any2.slices_Insert_int_shift Proofs.Tryz.Mh gb 0 n cap k g 0 1 vcap cv [.int .i64 x] w hlt (by omega) hroom fq hne gj rfl hcells (λj hj=>hsp j hj hroom) (λj hj=>hfz j hj hroom) hvs gl h1v
       e0 e tR.size us.size (by simp[World.shape?,hg0]) (by simp[World.shape?,p1]) (by omega) (by rw[World.frozen?,hg0];rfl) (by rw[World.frozen?,hg0];rfl)
      refine hc.mono λe w' he=>?_;obtain⟨rfl,rfl⟩:=he;refine inplace _ hroom (.inl ?_);have p1':w.drew.heap[gb]?=some (.cells us _ fr):=p1;rw[Ed (cv.drop k) (0+(k+1)) us w.drew p1' (by simp;omega),Ed [.int .i64 x] (0+k) _ _ (setRow_heap _ gb us _ _ _ p1') (by simp;omega),Yq _ _ _ _ us _ _ p1'];congr 2
      apply List.ext_getElem?;intro j;have e1:(us.toList.take (0+(k+1))++cv.drop k++us.toList.drop (0+(k+1)+(cv.drop k).length)).length=us.size:=by simp;omega
      have e2:∀q,us.toList.take q=(us.toList.take n).take q++(us.toList.drop n).take (q-n):=λq=>by
       conv=>lhs;rw[<-CK n us.toList]
       rw[List.take_append];simp only[Al,Ch];rw[Cn (by omega:n<=us.size)]
      simp only[BJ];have Uv:(us.toList.take (k+1)++cv.drop k++us.toList.drop (k+1+(cv.drop k).length)).take k=cv.take k:=by rw[AB,CU (by simp;omega),GV,Cn (Gg k),e2 k,hcv,Nat.sub_eq_zero_of_le c2,L0,BB]
      have Wi:(us.toList.take (k+1)++cv.drop k++us.toList.drop (k+1+(cv.drop k).length)).drop (k+1)=cv.drop k++us.toList.drop (n+1):=by
       have:(us.toList.take (k+1)).length=k+1:=by simp;omega
       rw[AB,NG this];congr 2
       simp;omega
      simp only[Bc,BT,BJ];rw[Uv,Wi,AB,AB,AB]
    .by_cases hkn:k=n
     .subst hkn;have hc:=Proofs.Any2.slices_Insert_int_end_grow Proofs.Tryz.Mh (some ⟨gb,0,none⟩) k cap g 0 1 vcap cv [.int .i64 x] w (by omega) hnc (by omega) (by simpa[AS] using c4) gj rfl (λe=>by cases e) (λa ea j v hj=>by cases ea;have:=hcells j v hj;rw[BJ] at this;rw[show(Addr.mk gb 0 none).add j=⟨gb,j,none⟩ by unfold Addr.add;split<;>simp_all];exact this) hvs h1v;refine hc.mono λe w' he=>?_;obtain⟨rfl,rfl⟩:=he;have D2:=grownCap_ge w (k+1) cap 3;refine anew _ (grownCap w (k+1) cap 3) (Builtin.zeroCells (Value.int .i64 0).cells (grownCap w (k+1) cap 3 -(k+1))).toList D2 (grownCap_le_maxLen _ _ _ _ (by simp only[AS] at c4;simp only[maxLen];omega)) (by rw[Ch,size_zeroCells];exact Kk _) ?_ rfl rfl rfl;rw[A3 (by omega:cv.length<=k),Ay (by omega),BB];show w.heap.push _=w.heap.push _;congr 2
      apply Jf;simp;rfl
     .have hlt:k<n:=by omega
      have hc:=Proofs.Any2.slices_Insert_int_grow Proofs.Tryz.Mh gb 0 n cap k g 0 1 vcap cv [.int .i64 x] w hlt (by omega) hnc (by omega) (by simpa[AS] using c4) gj rfl hcells hvs gl h1v;refine hc.mono λe w' he=>?_;obtain⟨rfl,rfl⟩:=he;have D2:=grownCap_ge w (n+1) cap 3;have ZF:∀m,(Builtin.zeroCells (Value.int .i64 0).cells m).size=m:=λm=>by rw[size_zeroCells];exact Kk _
      refine anew _ (grownCap w (n+1) cap 3) (Builtin.zeroCells (Value.int .i64 0).cells (grownCap w (n+1) cap 3 -(n+1))).toList D2 (grownCap_le_maxLen _ _ _ _ (by simp only[AS] at c4;simp only[maxLen];omega)) (by rw[Ch,ZF]) ?_ ?_ ?_ ?_;all_goals
       obtain⟨q1,q2,q3,q4⟩:=aP w cv k n (.int .i64 x) (Builtin.zeroCells (Value.int .i64 0).cells (n+1 -k)) (Builtin.zeroCells (Value.int .i64 0).cells (grownCap w (n+1) cap 3 -(n+1))) 3 gj hlt (ZF _);first|exact q1|exact q2|exact q3|exact q4
   .cases hp
  .cases hp
 .cases hp
end
end Go.Am
