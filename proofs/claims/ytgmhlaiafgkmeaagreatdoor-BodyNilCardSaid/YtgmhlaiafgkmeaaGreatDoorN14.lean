/- Lemmas -/
import Derived.Test.YtgmhlaiafgkmeaaGreatDoorN12
import Derived.Test.YtgmhlaiafgkmeaaGreatDoorN10
import Derived.Test.YtgmhlaiafgkmeaaGreatDoorN13
set_option linter.all false
namespace Go.Am
open Go Go.RowKit
section
variable{U U':Gh}{h:Ab}{w w':World}
noncomputable def bl:CB:={cx with C8:=λ_=>none}
def Dp.rel(hi:Dp U h w):Bk bl U w U (λ_=>0) [] h {tmps:=#[],defers:=[]} w:=
 ⟨hi,⟨rfl,λs=>trivial⟩,FC.refl U w,rfl,λg cs hg=>by cases hg⟩
def NT(w:World)(g:Nat)(a b:Array Value)(us:Array Value)(e:TypeId)(fr:Nat×Nat)(hg:w.heap[g]?=some (.cells us e fr)):(w.setRow g a).setRow g b=w.setRow g b:=by
 unfold World.setRow;congr 1
 apply HZ;intro i;by_cases hi:i=g;.subst hi;simp[Ga,hg]
 .simp[Ga,Ne.symm hi]
def OM(w:World)(cv:List Value)(k n:Nat)(x:Value)(Z1 Z2:Array Value)(e:TypeId)(hl:cv.length=n)(hk:k<n)(hz:Z1.size=n+1 -k):
  let w1:=(((w.alloc (.cells ((cv.take k).toArray++Z1++Z2) e)).drew.setCells w.heap.size k [x]).drew).setCells w.heap.size (k+1) (cv.drop k)
  w1.heap=w.heap.push (.cells (cv.take k++[x]++cv.drop k++Z2.toList).toArray e (0,0))/\w1.os=w.os/\w1.tape=w.tape/\w1.output=w.output:=by
 intro w1;have hN:(cv.take k).length=k:=by simp;omega
 have gS:((cv.take k).toArray++Z1++Z2).size=n+1+Z2.size:=by simp only[Eo,AE,hN,hz];omega
 have Q6:(w.alloc (.cells ((cv.take k).toArray++Z1++Z2) e)).drew.heap[w.heap.size]?=some (.cells ((cv.take k).toArray++Z1++Z2) e (0,0)):=heap_alloc_new w _;have e1:=BZ [x] k _ _ Q6 (by rw[gS];simp;omega);have hA:(((cv.take k).toArray++Z1++Z2).toList.take k++[x]++((cv.take k).toArray++Z1++Z2).toList.drop (k+[x].length))=cv.take k++[x]++(Z1.toList.drop 1++Z2.toList):=by
  simp only[C0,Bz,AF,A4];congr 1
  .exact SY hN
  .congr 1
   rw[<-DS,KR hN,Qy];have:1 -Z1.toList.length=0:=by simp;omega
   simp only[AL] at*;rw[this,FL]
 rw[hA] at e1;have T1:((w.alloc (.cells ((cv.take k).toArray++Z1++Z2) e)).drew.setRow w.heap.size (cv.take k++[x]++(Z1.toList.drop 1++Z2.toList)).toArray).drew.heap[w.heap.size]?=some (.cells (cv.take k++[x]++(Z1.toList.drop 1++Z2.toList)).toArray e (0,0)):=setRow_heap _ _ _ _ _ _ Q6;have wZ:(Z1.toList.drop 1).length=n-k:=by simp[hz];omega
 have e2:=BZ (cv.drop k) (k+1) _ _ T1 (by simp[hz];omega);have hB:((cv.take k++[x]++(Z1.toList.drop 1++Z2.toList)).toArray.toList.take (k+1)++cv.drop k++(cv.take k++[x]++(Z1.toList.drop 1++Z2.toList)).toArray.toList.drop (k+1+(cv.drop k).length))=cv.take k++[x]++cv.drop k++Z2.toList:=by
  have h1:(cv.take k++[x]).length=k+1:=by simp;omega
  simp only[EU];rw[SY h1,<-DS,KR h1];congr 1
  exact KR (by rw[wZ];simp;omega)
 rw[hB] at e2;have K5:w1=((w.alloc (.cells ((cv.take k).toArray++Z1++Z2) e)).drew.setRow w.heap.size (cv.take k++[x]++(Z1.toList.drop 1++Z2.toList)).toArray).drew.setRow w.heap.size (cv.take k++[x]++cv.drop k++Z2.toList).toArray:=by show((((w.alloc _).drew.setCells _ _ _).drew).setCells _ _ _)=_;rw[e1,e2]
 rw[K5];refine⟨?_,rfl,rfl,rfl⟩;apply HZ;intro i;by_cases hi:i=w.heap.size;.subst hi;rw[setRow_heap _ _ _ _ _ _ T1];simp
 .rw[setRow_other _ _ _ _ hi];show((w.alloc _).drew.setRow _ _).heap[i]?=_;rw[setRow_other _ _ _ _ hi];show(w.heap.push _)[i]?=_;rw[MD,MD,if_neg hi,if_neg hi]
def Sz:TN cx 189:=by
 refine⟨⟨_,_,Proofs.Tryz.func189,rfl,rfl⟩,?_⟩;intro U h w s sv i x h' r g vcap S0 e0 hi hs hp iS bm JS wY bn;have hd:Below w.heap.size w w.drew:=(Below.refl _ _).drew;have hvs:∀(j:Nat) (v:Value),[Value.int .i64 x][j]?=some v->w.cell? ⟨g,0+j,none⟩=some v:=λj v hj=>by
  cases j with
  |zero=>cases hj;rw[cell_of_row w _ _ S0 e0 (0,0) iS];exact bm
  |succ j=>simp at hj
 have h1v:∀v∈[Value.int .i64 x],v.oneCell'=true:=λv hv=>by simp at hv;subst hv;rfl
 have jq:g<w.heap.size:=(Ae.1 iS).1;unfold Jd at hp;split at hp
 .rename_i i' x' EI;cases EI;split at hp
  .rename_i h0;subst h0;cases hp;have Ef:sv= .slice none 0 0:=hs;subst Ef;have hc:=Proofs.Any2.slices_Insert_int_end_grow Proofs.Tryz.GB none 0 0 g 0 1 vcap [] [.int .i64 x] w (by omega) (Ap _) (by omega) (by decide) rfl rfl (λ_=>rfl) (λ_ e=>by cases e) hvs h1v;refine hc.mono λe w' he=>?_;obtain⟨rfl,rfl⟩:=he;have Jk:=grownCap_ge w (0+1) 0 3;have Fc:(([]++[Value.int .i64 x]).toArray++Builtin.zeroCells (Value.int .i64 0).cells (grownCap w (0+1) 0 3 -(0+1))).size=grownCap w (0+1) 0 3:=by simp only[Eo,size_zeroCells];show 1+(grownCap w 1 0 3 -1)*1=_;have:grownCap w (0+1) 0 3=grownCap w 1 0 3:=rfl;omega
   obtain⟨Pl,N8⟩:=GV (hi.FG hd).1 (.cells (([]++[Value.int .i64 x]).toArray++Builtin.zeroCells (Value.int .i64 0).cells (grownCap w (0+1) 0 3 -(0+1))) 3 (0,0)) (.cells [.int .i64 x]) (some _)
    (.inl ⟨_,_,_,_,rfl,rfl,.inl rfl,⟨_,[],by simp,rfl,rfl⟩,by simp[Value.oneCell'],rfl⟩)
   exact⟨_,Pl,(hi.FG hd).2.trans N8,⟨w.heap.size,grownCap w (0+1) 0 3,by simp[Gh.AJ],rfl,Jk,⟨Bd 0,grownCap_le_maxLen _ _ _ _ (by decide)⟩,by simp only[Gh.AJ];rw[if_pos (show w.heap.size=w.drew.heap.size from rfl),Fc,D1];exact Bm some (AL _).symm⟩⟩
  .cases hp
 .rename_i id n i' x' EI;cases EI;split at hp
  .rename_i cs hcs;split at hp
   .rename_i Du;obtain⟨c1,c2,c3,c4⟩:=Du;cases hp;obtain⟨gb,cap,hm,rfl,hnc,⟨_,fN⟩,Fc⟩:=(show Au U _ _ from hs);obtain⟨us,e,fr,p1,pf,p2,p3⟩:=hi.cells id cs hcs gb hm;obtain⟨⟨By,e',RX,q1,q2⟩,_⟩:=hi.sz gb _ Fc;rw[p1] at q1;cases q1;obtain⟨jr,fL,tI⟩:=hi.FV id _ hcs (by simp);rw[hm] at fL;cases fL;have hne:g≠gb:=λhe=>JS id (by rw[he];exact tI);have ZE:cs.length<=us.size:=by have:=p2.length;simp at this;omega
    have HC:us.size=cap:=by rw[q2];omega
    obtain⟨k,hk⟩:∃k:Nat,i=k:=⟨i.toNat,by omega⟩;subst hk;simp only[Int.toNat_natCast] at*;generalize fX:us.toList.take n=cv;have V2:cv.length=n:=by rw[<-fX];simp;omega
    have hcells:∀(j:Nat) (v:Value),cv[j]?=some v->w.cell? ⟨gb,0+j,none⟩=some v:=λj v hj=>by
     rw[cell_of_row w _ _ us e fr p1,AL];rw[<-fX,A0] at hj;split at hj;.simpa using hj
     .cases hj
    have V3:∀v∈cv,v.oneCell'=true:=λv hv=>p3 v (by
     rw[<-fX] at hv;have:us.toList.take n=(us.toList.take cs.length).take n:=by rw[FO,Dr c3]
     rw[this] at hv;exact AQ hv)
    have w5:Ai U (cs.take n) cv:=by have:=p2.take n;rw[FO,Dr c3,fX] at this;exact this
    have K5:Ai U (cs.take k++[.int .i64 x]++(cs.take n).drop k) (cv.take k++[.int .i64 x]++cv.drop k):=by
     have e1:cs.take k=(cs.take n).take k:=by rw[FO,Dr c2]
     rw[e1];exact((w5.take k).append (show Ai U [.int .i64 x] [Value.int .i64 x] from⟨_,[],rfl,rfl,rfl⟩)).append (w5.drop k)
    have ZW:∀v∈cv.take k++[Value.int .i64 x]++cv.drop k,v.oneCell'=true:=λv hv=>by
     simp only[Bz,Aj,vY] at hv;rcases hv with hv|rfl|hv
     .exact V3 v (AQ hv)
     .rfl
     .exact V3 v (Bu hv)
    have FX:(cv.take k++[Value.int .i64 x]++cv.drop k).length=n+1:=by simp;omega
    have tJ:(cv.take k).length+[Value.int .i64 x].length+(cv.drop k).length=n+1:=by rw[<-FX];simp only[An]
    have aW:(cs.take k++[Aa.int .i64 x]++(cs.take n).drop k).length=n+1:=by rw[<-FX,K5.length]
    have hsp:∀j,j<n+1->n+1<=cap->(w.cell? ⟨gb,0+j,none⟩).isSome=true:=λj hj hc=>by rw[cell_of_row w _ _ us e fr p1,AY (by omega)];rfl
    have hfz:∀j,j<n+1->n+1<=cap->w.frozen? ⟨gb,0+j,none⟩=false:=λj hj hc=>by
     simp only[World.frozen?,p1];rcases pf with rfl|QT
     .simp
     .simp;omega
    have inplace:∀(w1:World),n+1<=cap->w1=(w.drew).setRow gb (cv.take k++[Value.int .i64 x]++cv.drop k++us.toList.drop (n+1)).toArray\/w1=w.setRow gb (cv.take k++[Value.int .i64 x]++cv.drop k++us.toList.drop (n+1)).toArray->
      ∃U',Dp U' (h.set id .Ec++[.cells (cs.take k++[.int .i64 x]++(cs.take n).drop k)]) w1/\FC U w U' w1/\Au U' (.EG h.length 0 (n+1) 1) (.slice (some ⟨gb,0,none⟩) (n+1) cap):=by
     intro w1 hroom Q6;have K2:(cv.take k++[Value.int .i64 x]++cv.drop k++us.toList.drop (n+1)).toArray.size=us.size:=by rw[AE,An,FX,BH,AM];omega
     have LU:(cv.take k++[Value.int .i64 x]++cv.drop k++us.toList.drop (n+1)).toArray.toList.take (cs.take k++[Aa.int .i64 x]++(cs.take n).drop k).length=cv.take k++[Value.int .i64 x]++cv.drop k:=by rw[aW,<-FX];exact Cq
     have go:∀wd:World,Dp U h wd->FC U w U wd->wd.heap[gb]?=some (.cells us e fr)->∃U',Dp U' (h.set id .Ec++[.cells (cs.take k++[.int .i64 x]++(cs.take n).drop k)]) (wd.setRow gb (cv.take k++[Value.int .i64 x]++cv.drop k++us.toList.drop (n+1)).toArray)/\FC U w U' (wd.setRow gb (cv.take k++[Value.int .i64 x]++cv.drop k++us.toList.drop (n+1)).toArray)/\Au U' (.EG h.length 0 (n+1) 1) (.slice (some ⟨gb,0,none⟩) (n+1) cap):=by
      intro wd Gi PE hp;obtain⟨U2,Cd,ND,GK,bS⟩:=Gi.rel.TS hcs hm hp (by rw[Fc,q2]) (cv.take k++[Value.int .i64 x]++cv.drop k++us.toList.drop (n+1)).toArray (cs.take k++[.int .i64 x]++(cs.take n).drop k) K2
       (by
        rcases pf with rfl|pf
        .exact .inl rfl
        .exact .inr (by rw[K2];exact pf)) (by rw[LU];exact K5) (by rw[LU];exact ZW)
      exact⟨U2,GK.BI,PE.trans GK.BE,gb,cap,ND,rfl,hroom,⟨Bd 0,fN⟩,by rw[bS,q2]⟩
     rcases Q6 with rfl|rfl
     .obtain⟨Gi,PE⟩:=hi.FG hd;exact go w.drew Gi PE p1
     .exact go w hi (FC.refl _ _) p1
    have anew:∀(w1:World) (c:Nat) (d:List Value),n+1<=c->c<=maxLen->d.length=c-(n+1)->w1.heap=(w.heap.push (.cells (cv.take k++[Value.int .i64 x]++cv.drop k++d).toArray 3 (0,0)))->w1.os=w.os->w1.tape=w.tape->w1.output=w.output->
      ∃U',Dp U' (h.set id .Ec++[.cells (cs.take k++[.int .i64 x]++(cs.take n).drop k)]) w1/\FC U w U' w1/\Au U' (.EG h.length 0 (n+1) 1) (.slice (some ⟨w.heap.size,0,none⟩) (n+1) c):=by
     intro w1 c d hc hcl T4 hh ho ht bo;have K2:(cv.take k++[Value.int .i64 x]++cv.drop k++d).toArray.size=c:=by simp only[AE,An,tJ,T4];omega
     have LU:(cv.take k++[Value.int .i64 x]++cv.drop k++d).toArray.toList.take (cs.take k++[Aa.int .i64 x]++(cs.take n).drop k).length=cv.take k++[Value.int .i64 x]++cv.drop k:=by rw[aW,<-FX];exact Cq
     obtain⟨U2,Cd,ND,GK,bS⟩:=(hi.rel.kill id).newObj (cv.take k++[Value.int .i64 x]++cv.drop k++d).toArray 3 (0,0) (cs.take k++[.int .i64 x]++(cs.take n).drop k) (.inl rfl) (by rw[LU];exact K5) (by rw[LU];exact ZW);have hb:Below (w.alloc (.cells (cv.take k++[Value.int .i64 x]++cv.drop k++d).toArray 3 (0,0))).heap.size (w.alloc (.cells (cv.take k++[Value.int .i64 x]++cv.drop k++d).toArray 3 (0,0))) w1:=⟨ho,ht,bo,by rw[hh];exact Ap _,λk' _=>by rw[hh];rfl⟩;obtain⟨bT,tK⟩:=GK.BI.FG hb;have hlen:(h.set id .Ec).length=h.length:=by simp
     rw[hlen] at ND;exact⟨U2,bT,GK.BE.trans tK,w.heap.size,c,ND,rfl,hc,⟨Bd 0,hcl⟩,by rw[bS,K2];simp⟩
    by_cases hroom:n+1<=cap
    .by_cases ZX:k=n
     .subst ZX;have hc:=Proofs.Any2.slices_Insert_int_end_room Proofs.Tryz.GB gb 0 k cap g 0 1 vcap [.int .i64 x] w (by omega) hroom fN rfl (λj hj=>by rw[show 0+k+j=0+(k+j) by omega];exact hsp _ (by omega) hroom) (λj hj=>by rw[show 0+k+j=0+(k+j) by omega];exact hfz _ (by omega) hroom) hvs h1v;refine hc.mono λe w' he=>?_;obtain⟨rfl,rfl⟩:=he;refine inplace _ hroom (.inr ?_);rw[BZ _ _ us w p1 (by simp;omega),AL,fX];congr 2
      rw[Bv (by omega:cv.length<=k),AS (by omega),BM];rfl
     .have hlt:k<n:=by omega
      have hc:=Proofs.Any2.slices_Insert_int_shift Proofs.Tryz.GB gb 0 n cap k g 0 1 vcap cv [.int .i64 x] w hlt (by omega) hroom fN hne V2 rfl hcells (λj hj=>hsp j hj hroom) (λj hj=>hfz j hj hroom) hvs V3 h1v
       e0 e S0.size us.size (by simp[World.shape?,iS]) (by simp[World.shape?,p1]) (by omega) (by rw[World.frozen?,iS];rfl) (by rw[World.frozen?,iS];rfl)
      refine hc.mono λe w' he=>?_;obtain⟨rfl,rfl⟩:=he;refine inplace _ hroom (.inl ?_);have tL:w.drew.heap[gb]?=some (.cells us _ fr):=p1;rw[BZ (cv.drop k) (0+(k+1)) us w.drew tL (by simp;omega),BZ [.int .i64 x] (0+k) _ _ (setRow_heap _ gb us _ _ _ tL) (by simp;omega),NT _ _ _ _ us _ _ tL];congr 2
      apply Pb;intro j;have e1:(us.toList.take (0+(k+1))++cv.drop k++us.toList.drop (0+(k+1)+(cv.drop k).length)).length=us.size:=by simp;omega
      have e2:∀q,us.toList.take q=(us.toList.take n).take q++(us.toList.drop n).take (q-n):=λq=>by
       conv=>lhs;rw[<-gE n us.toList]
       rw[ix];simp only[Bt,AM];rw[Dr (by omega:n<=us.size)]
      simp only[AL];have Vw:(us.toList.take (k+1)++cv.drop k++us.toList.drop (k+1+(cv.drop k).length)).take k=cv.take k:=by rw[Bz,RT (by simp;omega),FO,Dr (GH k),e2 k,fX,Nat.sub_eq_zero_of_le c2,HY,BM]
      have NJ:(us.toList.take (k+1)++cv.drop k++us.toList.drop (k+1+(cv.drop k).length)).drop (k+1)=cv.drop k++us.toList.drop (n+1):=by
       have:(us.toList.take (k+1)).length=k+1:=by simp;omega
       rw[Bz,KR this];congr 2
       simp;omega
      simp only[AF,A4,AL];rw[Vw,NJ,Bz,Bz,Bz]
    .by_cases ZX:k=n
     .subst ZX;have hc:=Proofs.Any2.slices_Insert_int_end_grow Proofs.Tryz.GB (some ⟨gb,0,none⟩) k cap g 0 1 vcap cv [.int .i64 x] w (by omega) hnc (by omega) (by simpa[AO] using c4) V2 rfl (λe=>by cases e) (λa ea j v hj=>by cases ea;have:=hcells j v hj;rw[AL] at this;rw[show(Addr.mk gb 0 none).add j=⟨gb,j,none⟩ by unfold Addr.add;split<;>simp_all];exact this) hvs h1v;refine hc.mono λe w' he=>?_;obtain⟨rfl,rfl⟩:=he;have Jk:=grownCap_ge w (k+1) cap 3;refine anew _ (grownCap w (k+1) cap 3) (Builtin.zeroCells (Value.int .i64 0).cells (grownCap w (k+1) cap 3 -(k+1))).toList Jk (grownCap_le_maxLen _ _ _ _ (by simp only[AO] at c4;simp only[maxLen];omega)) (by rw[AM,size_zeroCells];exact D1 _) ?_ rfl rfl rfl;rw[Bv (by omega:cv.length<=k),AS (by omega),BM];show w.heap.push _=w.heap.push _;congr 2
      apply Dh;simp;rfl
     .have hlt:k<n:=by omega
      have hc:=Proofs.Any2.slices_Insert_int_grow Proofs.Tryz.GB gb 0 n cap k g 0 1 vcap cv [.int .i64 x] w hlt (by omega) hnc (by omega) (by simpa[AO] using c4) V2 rfl hcells hvs V3 h1v;refine hc.mono λe w' he=>?_;obtain⟨rfl,rfl⟩:=he;have Jk:=grownCap_ge w (n+1) cap 3;have NA:∀m,(Builtin.zeroCells (Value.int .i64 0).cells m).size=m:=λm=>by rw[size_zeroCells];exact D1 _
      refine anew _ (grownCap w (n+1) cap 3) (Builtin.zeroCells (Value.int .i64 0).cells (grownCap w (n+1) cap 3 -(n+1))).toList Jk (grownCap_le_maxLen _ _ _ _ (by simp only[AO] at c4;simp only[maxLen];omega)) (by rw[AM,NA]) ?_ ?_ ?_ ?_;all_goals
       obtain⟨q1,q2,q3,q4⟩:=OM w cv k n (.int .i64 x) (Builtin.zeroCells (Value.int .i64 0).cells (n+1 -k)) (Builtin.zeroCells (Value.int .i64 0).cells (grownCap w (n+1) cap 3 -(n+1))) 3 V2 hlt (NA _);first|exact q1|exact q2|exact q3|exact q4
   .cases hp
  .cases hp
 .cases hp
end
end Go.Am
