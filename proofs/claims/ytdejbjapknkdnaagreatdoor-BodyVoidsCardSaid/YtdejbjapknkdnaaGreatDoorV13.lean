/- Lemmas -/
import Derived.Test.YtdejbjapknkdnaaGreatDoorV11
import Derived.Test.YtdejbjapknkdnaaGreatDoorV9
import Derived.Test.YtdejbjapknkdnaaGreatDoorV12
set_option linter.all false
namespace Go.Am
open Go Go.RowKit
section
variable{U U':Gh}{h:Ae}{w w':World}
noncomputable def cx0:FT:={cx with Hs:=λ_=>none}
def HY.rel(hi:HY U h w):C4 cx0 U w U (λ_=>0) [] h {tmps:=#[],defers:=[]} w:=
 ⟨hi,⟨rfl,λs=>trivial⟩,ME.refl U w,rfl,λg cs hg=>by cases hg⟩
def dV(w:World)(g:Nat)(a b:Array Value)(us:Array Value)(e:TypeId)(fr:Nat×Nat)(hg:w.heap[g]?=some (.cells us e fr)):(w.setRow g a).setRow g b=w.setRow g b:=by
 unfold World.setRow;congr 1
 apply QN;intro i;by_cases hi:i=g;.subst hi;simp[NF,hg]
 .simp[NF,Dd hi]
def lI(w:World)(cv:List Value)(k n:Nat)(x:Value)(Z1 Z2:Array Value)(e:TypeId)(hl:cv.length=n)(hk:k<n)(hz:Z1.size=n+1 -k):
  let w1:=(((w.alloc (.cells ((cv.take k).toArray++Z1++Z2) e)).drew.setCells w.heap.size k [x]).drew).setCells w.heap.size (k+1) (cv.drop k)
  w1.heap=w.heap.push (.cells (cv.take k++[x]++cv.drop k++Z2.toList).toArray e (0,0))/\w1.os=w.os/\w1.tape=w.tape/\w1.output=w.output:=by
 intro w1;have hN:(cv.take k).length=k:=by simp;omega
 have Lm:((cv.take k).toArray++Z1++Z2).size=n+1+Z2.size:=by simp only[J5,BT,hN,hz];omega
 have vZ:(w.alloc (.cells ((cv.take k).toArray++Z1++Z2) e)).drew.heap[w.heap.size]?=some (.cells ((cv.take k).toArray++Z1++Z2) e (0,0)):=heap_alloc_new w _;have e1:=EI [x] k _ _ vZ (by rw[Lm];simp;omega);have hA:(((cv.take k).toArray++Z1++Z2).toList.take k++[x]++((cv.take k).toArray++Z1++Z2).toList.drop (k+[x].length))=cv.take k++[x]++(Z1.toList.drop 1++Z2.toList):=by
  simp only[GU,AT,AE,AY];congr 1
  .exact Jz hN
  .congr 1
   rw[<-Ed,LY hN,IV];have:1 -Z1.toList.length=0:=by simp;omega
   simp only[By] at*;rw[this,Kz]
 rw[hA] at e1;have ve:((w.alloc (.cells ((cv.take k).toArray++Z1++Z2) e)).drew.setRow w.heap.size (cv.take k++[x]++(Z1.toList.drop 1++Z2.toList)).toArray).drew.heap[w.heap.size]?=some (.cells (cv.take k++[x]++(Z1.toList.drop 1++Z2.toList)).toArray e (0,0)):=setRow_heap _ _ _ _ _ _ vZ;have jV:(Z1.toList.drop 1).length=n-k:=by simp[hz];omega
 have e2:=EI (cv.drop k) (k+1) _ _ ve (by simp[hz];omega);have hB:((cv.take k++[x]++(Z1.toList.drop 1++Z2.toList)).toArray.toList.take (k+1)++cv.drop k++(cv.take k++[x]++(Z1.toList.drop 1++Z2.toList)).toArray.toList.drop (k+1+(cv.drop k).length))=cv.take k++[x]++cv.drop k++Z2.toList:=by
  have h1:(cv.take k++[x]).length=k+1:=by simp;omega
  simp only[Lc];rw[Jz h1,<-Ed,LY h1];congr 1
  exact LY (by rw[jV];simp;omega)
 rw[hB] at e2;have V6:w1=((w.alloc (.cells ((cv.take k).toArray++Z1++Z2) e)).drew.setRow w.heap.size (cv.take k++[x]++(Z1.toList.drop 1++Z2.toList)).toArray).drew.setRow w.heap.size (cv.take k++[x]++cv.drop k++Z2.toList).toArray:=by show((((w.alloc _).drew.setCells _ _ _).drew).setCells _ _ _)=_;rw[e1,e2]
 rw[V6];refine⟨?_,rfl,rfl,rfl⟩;apply QN;intro i;by_cases hi:i=w.heap.size;.subst hi;rw[setRow_heap _ _ _ _ _ _ ve];simp
 .rw[setRow_other _ _ _ _ hi];show((w.alloc _).drew.setRow _ _).heap[i]?=_;rw[setRow_other _ _ _ _ hi];show(w.heap.push _)[i]?=_;rw[Z6,Z6,if_neg hi,if_neg hi]
def jz:ui cx 105:=by
 refine⟨⟨_,_,Proofs.Tryz.func105,rfl,rfl⟩,?_⟩;intro U h w s sv i x h' r g vcap qa e0 hi hs hp hg0 hx0 T8 hvc aSA;have hd:Below w.heap.size w w.drew:=(Below.refl _ _).drew;have hvs:∀(j:Nat) (v:Value),[Value.int .i64 x][j]?=some v->w.cell? ⟨g,0+j,none⟩=some v:=λj v hj=>by
  cases j with
  |zero=>cases hj;rw[cell_of_row w _ _ qa e0 (0,0) hg0];exact hx0
  |succ j=>simp at hj
 have h1v:∀v∈[Value.int .i64 x],v.oneCell'=true:=λv hv=>by simp at hv;subst hv;rfl
 have hgl:g<w.heap.size:=(AM.1 hg0).1;unfold QS at hp;split at hp
 .rename_i i' x' KD;cases KD;split at hp
  .rename_i h0;subst h0;cases hp;have JH:sv= .slice none 0 0:=hs;subst JH;have hc:=Proofs.Any2.slices_Insert_int_end_grow Proofs.Tryz.Od none 0 0 g 0 1 vcap [] [.int .i64 x] w (by omega) (Ab _) (by omega) (by decide) rfl rfl (λ_=>rfl) (λ_ e=>by cases e) hvs h1v;refine hc.mono λe w' he=>?_;obtain⟨rfl,rfl⟩:=he;have HK:=grownCap_ge w (0+1) 0 3;have KT:(([]++[Value.int .i64 x]).toArray++Builtin.zeroCells (Value.int .i64 0).cells (grownCap w (0+1) 0 3 -(0+1))).size=grownCap w (0+1) 0 3:=by simp only[J5,size_zeroCells];show 1+(grownCap w 1 0 3 -1)*1=_;have:grownCap w (0+1) 0 3=grownCap w 1 0 3:=rfl;omega
   obtain⟨jS,Us⟩:=OH (hi.MJ hd).1 (.cells (([]++[Value.int .i64 x]).toArray++Builtin.zeroCells (Value.int .i64 0).cells (grownCap w (0+1) 0 3 -(0+1))) 3 (0,0)) (.cells [.int .i64 x]) (some _)
    (.inl ⟨_,_,_,_,rfl,rfl,.inl rfl,⟨_,[],by simp,rfl,rfl⟩,by simp[Value.oneCell'],rfl⟩)
   exact⟨_,jS,(hi.MJ hd).2.trans Us,⟨w.heap.size,grownCap w (0+1) 0 3,by simp[Gh.BP],rfl,HK,⟨CV 0,grownCap_le_maxLen _ _ _ _ (by decide)⟩,by simp only[Gh.BP];rw[if_pos (show w.heap.size=w.drew.heap.size from rfl),KT,Gm];exact BQ some (By _).symm⟩⟩
  .cases hp
 .rename_i id n i' x' KD;cases KD;split at hp
  .rename_i cs hcs;split at hp
   .rename_i H8;obtain⟨c1,c2,c3,c4⟩:=H8;cases hp;obtain⟨gb,cap,hm,rfl,hnc,⟨_,Ĥ⟩,KT⟩:=(show BJ U _ _ from hs);obtain⟨us,e,fr,p1,pf,p2,p3⟩:=hi.cells id cs hcs gb hm;obtain⟨⟨DB,e',iw,q1,q2⟩,_⟩:=hi.sz gb _ KT;rw[p1] at q1;cases q1;obtain⟨gb',hm',aL1⟩:=hi.Ng id _ hcs (by simp);rw[hm] at hm';cases hm';have hne:g≠gb:=λhe=>T8 id (by rw[he];exact aL1);have qb:cs.length<=us.size:=by have:=p2.length;simp at this;omega
    have P4:us.size=cap:=by rw[q2];omega
    obtain⟨k,hk⟩:∃k:Nat,i=k:=⟨i.toNat,by omega⟩;subst hk;simp only[Bz] at*;generalize hcv:us.toList.take n=cv;have ı:cv.length=n:=by rw[<-hcv];simp;omega
    have hcells:∀(j:Nat) (v:Value),cv[j]?=some v->w.cell? ⟨gb,0+j,none⟩=some v:=λj v hj=>by
     rw[cell_of_row w _ _ us e fr p1,By];rw[<-hcv,Co] at hj;split at hj;.simpa using hj
     .cases hj
    have Ĳ:∀v∈cv,v.oneCell'=true:=λv hv=>p3 v (by
     rw[<-hcv] at hv;have:us.toList.take n=(us.toList.take cs.length).take n:=by rw[Cy,BG c3]
     rw[this] at hv;exact AZ hv)
    have hcr:A3 U (cs.take n) cv:=by have:=p2.take n;rw[Cy,BG c3,hcv] at this;exact this
    have V6:A3 U (cs.take k++[.int .i64 x]++(cs.take n).drop k) (cv.take k++[.int .i64 x]++cv.drop k):=by
     have e1:cs.take k=(cs.take n).take k:=by rw[Cy,BG c2]
     rw[e1];exact((hcr.take k).append (show A3 U [.int .i64 x] [Value.int .i64 x] from⟨_,[],rfl,rfl,rfl⟩)).append (hcr.drop k)
    have aBe:∀v∈cv.take k++[Value.int .i64 x]++cv.drop k,v.oneCell'=true:=λv hv=>by
     simp only[AT,Aj,Be] at hv;rcases hv with hv|rfl|hv
     .exact Ĳ v (AZ hv)
     .rfl
     .exact Ĳ v (Bc hv)
    have IZ:(cv.take k++[Value.int .i64 x]++cv.drop k).length=n+1:=by simp;omega
    have aL2:(cv.take k).length+[Value.int .i64 x].length+(cv.drop k).length=n+1:=by rw[<-IZ];simp only[Ai]
    have S5:(cs.take k++[Aa.int .i64 x]++(cs.take n).drop k).length=n+1:=by rw[<-IZ,V6.length]
    have hsp:∀j,j<n+1->n+1<=cap->(w.cell? ⟨gb,0+j,none⟩).isSome=true:=λj hj hc=>by rw[cell_of_row w _ _ us e fr p1,CJ (by omega)];rfl
    have hfz:∀j,j<n+1->n+1<=cap->w.frozen? ⟨gb,0+j,none⟩=false:=λj hj hc=>by
     simp only[World.frozen?,p1];rcases pf with rfl|oU
     .simp
     .simp;omega
    have inplace:∀(w1:World),n+1<=cap->w1=(w.drew).setRow gb (cv.take k++[Value.int .i64 x]++cv.drop k++us.toList.drop (n+1)).toArray\/w1=w.setRow gb (cv.take k++[Value.int .i64 x]++cv.drop k++us.toList.drop (n+1)).toArray->
      ∃U',HY U' (h.set id .DD++[.cells (cs.take k++[.int .i64 x]++(cs.take n).drop k)]) w1/\ME U w U' w1/\BJ U' (.C7 h.length 0 (n+1) 1) (.slice (some ⟨gb,0,none⟩) (n+1) cap):=by
     intro w1 hroom vZ;have V0:(cv.take k++[Value.int .i64 x]++cv.drop k++us.toList.drop (n+1)).toArray.size=us.size:=by rw[BT,Ai,IZ,A5,Cd];omega
     have Vl:(cv.take k++[Value.int .i64 x]++cv.drop k++us.toList.drop (n+1)).toArray.toList.take (cs.take k++[Aa.int .i64 x]++(cs.take n).drop k).length=cv.take k++[Value.int .i64 x]++cv.drop k:=by rw[S5,<-IZ];exact EO
     have go:∀wd:World,HY U h wd->ME U w U wd->wd.heap[gb]?=some (.cells us e fr)->∃U',HY U' (h.set id .DD++[.cells (cs.take k++[.int .i64 x]++(cs.take n).drop k)]) (wd.setRow gb (cv.take k++[Value.int .i64 x]++cv.drop k++us.toList.drop (n+1)).toArray)/\ME U w U' (wd.setRow gb (cv.take k++[Value.int .i64 x]++cv.drop k++us.toList.drop (n+1)).toArray)/\BJ U' (.C7 h.length 0 (n+1) 1) (.slice (some ⟨gb,0,none⟩) (n+1) cap):=by
      intro wd Iy pO hp;obtain⟨U2,EC,XC,MH,aCD⟩:=Iy.rel.uq hcs hm hp (by rw[KT,q2]) (cv.take k++[Value.int .i64 x]++cv.drop k++us.toList.drop (n+1)).toArray (cs.take k++[.int .i64 x]++(cs.take n).drop k) V0
       (by
        rcases pf with rfl|pf
        .exact .inl rfl
        .exact .inr (by rw[V0];exact pf)) (by rw[Vl];exact V6) (by rw[Vl];exact aBe)
      exact⟨U2,MH.DV,pO.trans MH.DP,gb,cap,XC,rfl,hroom,⟨CV 0,Ĥ⟩,by rw[aCD,q2]⟩
     rcases vZ with rfl|rfl
     .obtain⟨Iy,pO⟩:=hi.MJ hd;exact go w.drew Iy pO p1
     .exact go w hi (ME.refl _ _) p1
    have anew:∀(w1:World) (c:Nat) (d:List Value),n+1<=c->c<=maxLen->d.length=c-(n+1)->w1.heap=(w.heap.push (.cells (cv.take k++[Value.int .i64 x]++cv.drop k++d).toArray 3 (0,0)))->w1.os=w.os->w1.tape=w.tape->w1.output=w.output->
      ∃U',HY U' (h.set id .DD++[.cells (cs.take k++[.int .i64 x]++(cs.take n).drop k)]) w1/\ME U w U' w1/\BJ U' (.C7 h.length 0 (n+1) 1) (.slice (some ⟨w.heap.size,0,none⟩) (n+1) c):=by
     intro w1 c d hc hcl qi hh ho ht hou;have V0:(cv.take k++[Value.int .i64 x]++cv.drop k++d).toArray.size=c:=by simp only[BT,Ai,aL2,qi];omega
     have Vl:(cv.take k++[Value.int .i64 x]++cv.drop k++d).toArray.toList.take (cs.take k++[Aa.int .i64 x]++(cs.take n).drop k).length=cv.take k++[Value.int .i64 x]++cv.drop k:=by rw[S5,<-IZ];exact EO
     obtain⟨U2,EC,XC,MH,aCD⟩:=(hi.rel.kill id).newObj (cv.take k++[Value.int .i64 x]++cv.drop k++d).toArray 3 (0,0) (cs.take k++[.int .i64 x]++(cs.take n).drop k) (.inl rfl) (by rw[Vl];exact V6) (by rw[Vl];exact aBe);have hb:Below (w.alloc (.cells (cv.take k++[Value.int .i64 x]++cv.drop k++d).toArray 3 (0,0))).heap.size (w.alloc (.cells (cv.take k++[Value.int .i64 x]++cv.drop k++d).toArray 3 (0,0))) w1:=⟨ho,ht,hou,by rw[hh];exact Ab _,λk' _=>by rw[hh];rfl⟩;obtain⟨hi3,ĳ⟩:=MH.DV.MJ hb;have hlen:(h.set id .DD).length=h.length:=by simp
     rw[hlen] at XC;exact⟨U2,hi3,MH.DP.trans ĳ,w.heap.size,c,XC,rfl,hc,⟨CV 0,hcl⟩,by rw[aCD,V0];simp⟩
    by_cases hroom:n+1<=cap
    .by_cases ql:k=n
     .subst ql;have hc:=Proofs.Any2.slices_Insert_int_end_room Proofs.Tryz.Od gb 0 k cap g 0 1 vcap [.int .i64 x] w (by omega) hroom Ĥ rfl (λj hj=>by rw[show 0+k+j=0+(k+j) by omega];exact hsp _ (by omega) hroom) (λj hj=>by rw[show 0+k+j=0+(k+j) by omega];exact hfz _ (by omega) hroom) hvs h1v;refine hc.mono λe w' he=>?_;obtain⟨rfl,rfl⟩:=he;refine inplace _ hroom (.inr ?_);rw[EI _ _ us w p1 (by simp;omega),By,hcv];congr 2
      rw[AH (by omega:cv.length<=k),A7 (by omega),A8];rfl
     .have hlt:k<n:=by omega
      have hc:=Proofs.Any2.slices_Insert_int_shift Proofs.Tryz.Od gb 0 n cap k g 0 1 vcap cv [.int .i64 x] w hlt (by omega) hroom Ĥ hne ı rfl hcells (λj hj=>hsp j hj hroom) (λj hj=>hfz j hj hroom) hvs Ĳ h1v
       e0 e qa.size us.size (by simp[World.shape?,hg0]) (by simp[World.shape?,p1]) (by omega) (by rw[World.frozen?,hg0];rfl) (by rw[World.frozen?,hg0];rfl)
      refine hc.mono λe w' he=>?_;obtain⟨rfl,rfl⟩:=he;refine inplace _ hroom (.inl ?_);have p1':w.drew.heap[gb]?=some (.cells us _ fr):=p1;rw[EI (cv.drop k) (0+(k+1)) us w.drew p1' (by simp;omega),EI [.int .i64 x] (0+k) _ _ (setRow_heap _ gb us _ _ _ p1') (by simp;omega),dV _ _ _ _ us _ _ p1'];congr 2
      apply RT;intro j;have e1:(us.toList.take (0+(k+1))++cv.drop k++us.toList.drop (0+(k+1)+(cv.drop k).length)).length=us.size:=by simp;omega
      have e2:∀q,us.toList.take q=(us.toList.take n).take q++(us.toList.drop n).take (q-n):=λq=>by
       conv=>lhs;rw[<-Bl n us.toList]
       rw[uU];simp only[Av,Cd];rw[BG (by omega:n<=us.size)]
      simp only[By];have ü:(us.toList.take (k+1)++cv.drop k++us.toList.drop (k+1+(cv.drop k).length)).take k=cv.take k:=by rw[AT,A0 (by simp;omega),Cy,BG (Ft k),e2 k,hcv,Nat.sub_eq_zero_of_le c2,M7,A8]
      have Ua:(us.toList.take (k+1)++cv.drop k++us.toList.drop (k+1+(cv.drop k).length)).drop (k+1)=cv.drop k++us.toList.drop (n+1):=by
       have:(us.toList.take (k+1)).length=k+1:=by simp;omega
       rw[AT,LY this];congr 2
       simp;omega
      simp only[AE,AY,By];rw[ü,Ua,AT,AT,AT]
    .by_cases ql:k=n
     .subst ql;have hc:=Proofs.Any2.slices_Insert_int_end_grow Proofs.Tryz.Od (some ⟨gb,0,none⟩) k cap g 0 1 vcap cv [.int .i64 x] w (by omega) hnc (by omega) (by simpa[AN] using c4) ı rfl (λe=>by cases e) (λa ea j v hj=>by cases ea;have:=hcells j v hj;rw[By] at this;rw[show(Addr.mk gb 0 none).add j=⟨gb,j,none⟩ by unfold Addr.add;split<;>simp_all];exact this) hvs h1v;refine hc.mono λe w' he=>?_;obtain⟨rfl,rfl⟩:=he;have HK:=grownCap_ge w (k+1) cap 3;refine anew _ (grownCap w (k+1) cap 3) (Builtin.zeroCells (Value.int .i64 0).cells (grownCap w (k+1) cap 3 -(k+1))).toList HK (grownCap_le_maxLen _ _ _ _ (by simp only[AN] at c4;simp only[maxLen];omega)) (by rw[Cd,size_zeroCells];exact Gm _) ?_ rfl rfl rfl;rw[AH (by omega:cv.length<=k),A7 (by omega),A8];show w.heap.push _=w.heap.push _;congr 2
      apply HJ;simp;rfl
     .have hlt:k<n:=by omega
      have hc:=Proofs.Any2.slices_Insert_int_grow Proofs.Tryz.Od gb 0 n cap k g 0 1 vcap cv [.int .i64 x] w hlt (by omega) hnc (by omega) (by simpa[AN] using c4) ı rfl hcells hvs Ĳ h1v;refine hc.mono λe w' he=>?_;obtain⟨rfl,rfl⟩:=he;have HK:=grownCap_ge w (n+1) cap 3;have dJ:∀m,(Builtin.zeroCells (Value.int .i64 0).cells m).size=m:=λm=>by rw[size_zeroCells];exact Gm _
      refine anew _ (grownCap w (n+1) cap 3) (Builtin.zeroCells (Value.int .i64 0).cells (grownCap w (n+1) cap 3 -(n+1))).toList HK (grownCap_le_maxLen _ _ _ _ (by simp only[AN] at c4;simp only[maxLen];omega)) (by rw[Cd,dJ]) ?_ ?_ ?_ ?_;all_goals
       obtain⟨q1,q2,q3,q4⟩:=lI w cv k n (.int .i64 x) (Builtin.zeroCells (Value.int .i64 0).cells (n+1 -k)) (Builtin.zeroCells (Value.int .i64 0).cells (grownCap w (n+1) cap 3 -(n+1))) 3 ı hlt (dJ _);first|exact q1|exact q2|exact q3|exact q4
   .cases hp
  .cases hp
 .cases hp
end
end Go.Am
