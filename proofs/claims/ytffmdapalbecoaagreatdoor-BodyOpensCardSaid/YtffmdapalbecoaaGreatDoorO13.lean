/- Lemmas -/
import Derived.Test.YtffmdapalbecoaaGreatDoorO11
import Derived.Test.YtffmdapalbecoaaGreatDoorO9
import Derived.Test.YtffmdapalbecoaaGreatDoorO12
set_option linter.all false
namespace Go.Am
open Go Go.RowKit
section
variable{U U':Gh}{h:Ah}{w w':World}
noncomputable def cx0:GN:={cx with HO:=λ_=>none}
def HK.rel(hi:HK U h w):Dd cx0 U w U (λ_=>0) [] h {tmps:=#[],defers:=[]} w:=
 ⟨hi,⟨rfl,λs=>trivial⟩,LQ.refl U w,rfl,λg cs hg=>by cases hg⟩
def iM(w:World)(g:Nat)(a b:Array Value)(us:Array Value)(e:TypeId)(fr:Nat×Nat)(hg:w.heap[g]?=some (.cells us e fr)):(w.setRow g a).setRow g b=w.setRow g b:=by
 unfold World.setRow;congr 1
 grind
def rH(w:World)(cv:List Value)(k n:Nat)(x:Value)(Z1 a:Array Value)(e:TypeId)(hl:cv.length=n)(hk:k<n)(hz:Z1.size=n+1 -k):
  let w1:=(((w.alloc (.cells ((cv.take k).toArray++Z1++a) e)).drew.setCells w.heap.size k [x]).drew).setCells w.heap.size (k+1) (cv.drop k)
  w1.heap=w.heap.push (.cells (cv.take k++[x]++cv.drop k++a.toList).toArray e (0,0))/\w1.os=w.os/\w1.tape=w.tape/\w1.output=w.output:=by
 intro w1;have b:(cv.take k).length=k:=EP;have Kn:((cv.take k).toArray++Z1++a).size=n+1+a.size:=by simp only[Ky,Ca,b,hz];omega
 have xG:(w.alloc (.cells ((cv.take k).toArray++Z1++a) e)).drew.heap[w.heap.size]?=some (.cells ((cv.take k).toArray++Z1++a) e (0,0)):=heap_alloc_new w _;have d:=Fa [x] k _ _ xG (by rw[Kn];simp;omega);have f:(((cv.take k).toArray++Z1++a).toList.take k++[x]++((cv.take k).toArray++Z1++a).toList.drop (k+[x].length))=cv.take k++[x]++(Z1.toList.drop 1++a.toList):=by
  simp only[Hy,AK,Bn,BP];congr 1
  .exact Io b
  .congr 1
   rw[<-Fi,J1 b,UI];have:1 -Z1.toList.length=0:=EP;simp only[B2] at*;rw[this,Nn]
 rw[f] at d;have zb:((w.alloc (.cells ((cv.take k).toArray++Z1++a) e)).drew.setRow w.heap.size (cv.take k++[x]++(Z1.toList.drop 1++a.toList)).toArray).drew.heap[w.heap.size]?=some (.cells (cv.take k++[x]++(Z1.toList.drop 1++a.toList)).toArray e (0,0)):=setRow_heap _ _ _ _ _ _ xG;have XF:(Z1.toList.drop 1).length=n-k:=by simp[hz];omega
 have c:=Fa (cv.drop k) (k+1) _ _ zb (by simp[hz];omega);have hB:((cv.take k++[x]++(Z1.toList.drop 1++a.toList)).toArray.toList.take (k+1)++cv.drop k++(cv.take k++[x]++(Z1.toList.drop 1++a.toList)).toArray.toList.drop (k+1+(cv.drop k).length))=cv.take k++[x]++cv.drop k++a.toList:=by
  have h1:(cv.take k++[x]).length=k+1:=EP;simp only[Lw];rw[Io h1,<-Fi,J1 h1];congr 1
  exact J1 (by rw[XF];simp;omega)
 rw[hB] at c;have W9:w1=((w.alloc (.cells ((cv.take k).toArray++Z1++a) e)).drew.setRow w.heap.size (cv.take k++[x]++(Z1.toList.drop 1++a.toList)).toArray).drew.setRow w.heap.size (cv.take k++[x]++cv.drop k++a.toList).toArray:=by show((((w.alloc _).drew.setCells _ _ _).drew).setCells _ _ _)=_;rw[d,c]
 rw[W9];refine⟨?_,rfl,rfl,rfl⟩;apply pP;intro i;by_cases hi:i=w.heap.size;.subst hi;rw[setRow_heap _ _ _ _ _ _ zb];simp
 .rw[setRow_other _ _ _ _ hi];show((w.alloc _).drew.setRow _ _).heap[i]?=_;rw[setRow_other _ _ _ _ hi];show(w.heap.push _)[i]?=_;rw[aNt,aNt,Ac hi,Ac hi]
def qp:yo cx 238:=by
 refine⟨⟨_,_,Proofs.Tryz.func238,rfl,rfl⟩,?_⟩;intro U h w s L i x h' r g f vq e0 hi hs hp p Ov UN P aTN;have hd:Below w.heap.size w w.drew:=(Below.refl _ _).drew;have hvs:∀(j:Nat) (v:Value),[Value.int .i64 x][j]?=some v->w.cell? ⟨g,0+j,none⟩=some v:=λj v hj=>by
  cases j with
  |zero=>cases hj;rw[cell_of_row w _ _ vq e0 (0,0) p];exact Ov
  |succ j=>simp at hj
 have h1v:∀v∈[Value.int .i64 x],v.oneCell'=true:=λv hv=>by simp at hv;subst hv;rfl
 have Q:g<w.heap.size:=(Bc.1 p).1;unfold Rb at hp;split at hp
 .rename_i i' x' NB;cases NB;split at hp
  .rename_i h0;subst h0;cases hp;have J9:L= .slice none 0 0:=hs;subst J9;have hc:=Proofs.Any2.slices_Insert_int_end_grow Proofs.Tryz.Ou none 0 0 g 0 1 f [] [.int .i64 x] w Ab (Ae _) Ab Bf rfl rfl (λ_=>rfl) (λ_ e=>by cases e) hvs h1v;refine hc.mono λe w' he=>?_;obtain⟨rfl,rfl⟩:=he;have Et:=grownCap_ge w (0+1) 0 3;have LC:(([]++[Value.int .i64 x]).toArray++Builtin.zeroCells (Value.int .i64 0).cells (grownCap w (0+1) 0 3 -(0+1))).size=grownCap w (0+1) 0 3:=by simp only[Ky,size_zeroCells];show 1+(grownCap w 1 0 3 -1)*1=_;have:grownCap w (0+1) 0 3=grownCap w 1 0 3:=rfl;omega
   obtain⟨Xz,PV⟩:=Hp (hi.LW hd).1 (.cells (([]++[Value.int .i64 x]).toArray++Builtin.zeroCells (Value.int .i64 0).cells (grownCap w (0+1) 0 3 -(0+1))) 3 (0,0)) (.cells [.int .i64 x]) (some _)
    (.inl ⟨_,_,_,_,rfl,rfl,.inl rfl,⟨_,[],AH,rfl,rfl⟩,by simp[Value.oneCell'],rfl⟩)
   exact⟨_,Xz,(hi.LW hd).2.trans PV,⟨w.heap.size,grownCap w (0+1) 0 3,by simp[Gh.BW],rfl,Et,⟨Db 0,grownCap_le_maxLen _ _ _ _ Bf⟩,by simp only[Gh.BW];rw[Af (show w.heap.size=w.drew.heap.size from rfl),LC,Ge];exact Cj some (B2 _).symm⟩⟩
  .cases hp
 .rename_i id n i' x' NB;cases NB;split at hp
  .rename_i cs hcs;split at hp
   .rename_i Ir;obtain⟨T,K,J,D⟩:=Ir;cases hp;obtain⟨b,cap,hm,rfl,hnc,⟨_,Ś⟩,LC⟩:=(show BT U _ _ from hs);obtain⟨us,e,fr,t,pf,G,O⟩:=hi.cells id cs hcs b hm;obtain⟨⟨D4,e',vo,C,A⟩,_⟩:=hi.sz b _ LC;rw[t] at C;cases C;obtain⟨R,B,aN9⟩:=hi.MR id _ hcs AH;rw[hm] at B;cases B;have hne:g≠b:=λhe=>UN id (by rw[he];exact aN9);have pT:cs.length<=us.size:=by have:=G.length;simp at this;omega
    have Qn:us.size=cap:=by rw[A];omega
    obtain⟨k,hk⟩:∃k:Nat,i=k:=⟨i.toNat,Ab⟩;subst hk;simp only[A3] at*;generalize o:us.toList.take n=cv;have ŧ:cv.length=n:=by rw[<-o];simp;omega
    have hcells:∀(j:Nat) (v:Value),cv[j]?=some v->w.cell? ⟨b,0+j,none⟩=some v:=λj v hj=>by
     rw[cell_of_row w _ _ us e fr t,B2];rw[<-o,Ci] at hj;split at hj;.simpa using hj
     .cases hj
    have Ũ:∀v∈cv,v.oneCell'=true:=λv hv=>O v (by
     rw[<-o] at hv;have:us.toList.take n=(us.toList.take cs.length).take n:=by rw[Fj,Ct J]
     rw[this] at hv;exact BJ hv)
    have hcr:Bp U (cs.take n) cv:=by have:=G.take n;rw[Fj,Ct J,o] at this;exact this
    have W9:Bp U (cs.take k++[.int .i64 x]++(cs.take n).drop k) (cv.take k++[.int .i64 x]++cv.drop k):=by
     have I:cs.take k=(cs.take n).take k:=by rw[Fj,Ct K]
     rw[I];exact((hcr.take k).append (show Bp U [.int .i64 x] [Value.int .i64 x] from⟨_,[],rfl,rfl,rfl⟩)).append (hcr.drop k)
    have aDi:∀v∈cv.take k++[Value.int .i64 x]++cv.drop k,v.oneCell'=true:=λv hv=>by
     simp only[AK,Ay,AM] at hv;rcases hv with hv|rfl|hv
     .exact Ũ v (BJ hv)
     .rfl
     .exact Ũ v (BO hv)
    have HB:(cv.take k++[Value.int .i64 x]++cv.drop k).length=n+1:=EP;have aOa:(cv.take k).length+[Value.int .i64 x].length+(cv.drop k).length=n+1:=by rw[<-HB];simp only[Aw]
    have VV:(cs.take k++[Aa.int .i64 x]++(cs.take n).drop k).length=n+1:=by rw[<-HB,W9.length]
    have hsp:∀j,j<n+1->n+1<=cap->(w.cell? ⟨b,0+j,none⟩).isSome=true:=λj hj hc=>by rw[cell_of_row w _ _ us e fr t,Eb Ab];rfl
    have hfz:∀j,j<n+1->n+1<=cap->w.frozen? ⟨b,0+j,none⟩=false:=λj hj hc=>by
     simp only[World.frozen?,t];rcases pf with rfl|dz
     .simp
     .simp;omega
    have l:∀(w1:World),n+1<=cap->w1=(w.drew).setRow b (cv.take k++[Value.int .i64 x]++cv.drop k++us.toList.drop (n+1)).toArray\/w1=w.setRow b (cv.take k++[Value.int .i64 x]++cv.drop k++us.toList.drop (n+1)).toArray->
      ∃U',HK U' (h.set id .CU++[.cells (cs.take k++[.int .i64 x]++(cs.take n).drop k)]) w1/\LQ U w U' w1/\BT U' (.CC h.length 0 (n+1) 1) (.slice (some ⟨b,0,none⟩) (n+1) cap):=by
     intro w1 hroom xG;have TG:(cv.take k++[Value.int .i64 x]++cv.drop k++us.toList.drop (n+1)).toArray.size=us.size:=by rw[Ca,Aw,HB,Bi,Cv];omega
     have VY:(cv.take k++[Value.int .i64 x]++cv.drop k++us.toList.drop (n+1)).toArray.toList.take (cs.take k++[Aa.int .i64 x]++(cs.take n).drop k).length=cv.take k++[Value.int .i64 x]++cv.drop k:=by rw[VV,<-HB];exact FW
     have go:∀wd:World,HK U h wd->LQ U w U wd->wd.heap[b]?=some (.cells us e fr)->∃U',HK U' (h.set id .CU++[.cells (cs.take k++[.int .i64 x]++(cs.take n).drop k)]) (wd.setRow b (cv.take k++[Value.int .i64 x]++cv.drop k++us.toList.drop (n+1)).toArray)/\LQ U w U' (wd.setRow b (cv.take k++[Value.int .i64 x]++cv.drop k++us.toList.drop (n+1)).toArray)/\BT U' (.CC h.length 0 (n+1) 1) (.slice (some ⟨b,0,none⟩) (n+1) cap):=by
      intro wd IC wK hp;obtain⟨F,EH,TF,LU,aEW⟩:=IC.rel.wX hcs hm hp (by rw[LC,A]) (cv.take k++[Value.int .i64 x]++cv.drop k++us.toList.drop (n+1)).toArray (cs.take k++[.int .i64 x]++(cs.take n).drop k) TG
       (by
        rcases pf with rfl|pf
        .exact .inl rfl
        .exact .inr (by rw[TG];exact pf)) (by rw[VY];exact W9) (by rw[VY];exact aDi)
      exact⟨F,LU.Eh,wK.trans LU.Ed,b,cap,TF,rfl,hroom,⟨Db 0,Ś⟩,by rw[aEW,A]⟩
     rcases xG with rfl|rfl
     .obtain⟨IC,wK⟩:=hi.LW hd;exact go w.drew IC wK t
     .exact go w hi (LQ.refl _ _) t
    have u:∀(w1:World) (c:Nat) (d:List Value),n+1<=c->c<=maxLen->d.length=c-(n+1)->w1.heap=(w.heap.push (.cells (cv.take k++[Value.int .i64 x]++cv.drop k++d).toArray 3 (0,0)))->w1.os=w.os->w1.tape=w.tape->w1.output=w.output->
      ∃U',HK U' (h.set id .CU++[.cells (cs.take k++[.int .i64 x]++(cs.take n).drop k)]) w1/\LQ U w U' w1/\BT U' (.CC h.length 0 (n+1) 1) (.slice (some ⟨w.heap.size,0,none⟩) (n+1) c):=by
     intro w1 c d hc hcl vT H ho ht E;have TG:(cv.take k++[Value.int .i64 x]++cv.drop k++d).toArray.size=c:=by simp only[Ca,Aw,aOa,vT];omega
     have VY:(cv.take k++[Value.int .i64 x]++cv.drop k++d).toArray.toList.take (cs.take k++[Aa.int .i64 x]++(cs.take n).drop k).length=cv.take k++[Value.int .i64 x]++cv.drop k:=by rw[VV,<-HB];exact FW
     obtain⟨F,EH,TF,LU,aEW⟩:=(hi.rel.kill id).newObj (cv.take k++[Value.int .i64 x]++cv.drop k++d).toArray 3 (0,0) (cs.take k++[.int .i64 x]++(cs.take n).drop k) (.inl rfl) (by rw[VY];exact W9) (by rw[VY];exact aDi);have hb:Below (w.alloc (.cells (cv.take k++[Value.int .i64 x]++cv.drop k++d).toArray 3 (0,0))).heap.size (w.alloc (.cells (cv.take k++[Value.int .i64 x]++cv.drop k++d).toArray 3 (0,0))) w1:=⟨ho,ht,E,by rw[H];exact Ae _,λk' _=>by rw[H];rfl⟩;obtain⟨ũ,xM⟩:=LU.Eh.LW hb;have hlen:(h.set id .CU).length=h.length:=AH;rw[hlen] at TF;exact⟨F,ũ,LU.Ed.trans xM,w.heap.size,c,TF,rfl,hc,⟨Db 0,hcl⟩,by rw[aEW,TG];simp⟩
    by_cases hroom:n+1<=cap
    .by_cases z:k=n
     .subst z;have hc:=Proofs.Any2.slices_Insert_int_end_room Proofs.Tryz.Ou b 0 k cap g 0 1 f [.int .i64 x] w Ab hroom Ś rfl (λj hj=>by rw[(Ab:0+k+j=0+(k+j))];exact hsp _ Ab hroom) (λj hj=>by rw[(Ab:0+k+j=0+(k+j))];exact hfz _ Ab hroom) hvs h1v;refine hc.mono λe w' he=>?_;obtain⟨rfl,rfl⟩:=he;refine l _ hroom (.inr ?_);rw[Fa _ _ us w t EP,B2,o];congr 2
      rw[AT (Ab:cv.length<=k),AF Ab,BB];rfl
     .have hlt:k<n:=by omega
      have hc:=Proofs.Any2.slices_Insert_int_shift Proofs.Tryz.Ou b 0 n cap k g 0 1 f cv [.int .i64 x] w hlt Ab hroom Ś hne ŧ rfl hcells (λj hj=>hsp j hj hroom) (λj hj=>hfz j hj hroom) hvs Ũ h1v
       e0 e vq.size us.size (by simp[World.shape?,p]) (by simp[World.shape?,t]) Ab (by rw[World.frozen?,p];rfl) (by rw[World.frozen?,p];rfl)
      refine hc.mono λe w' he=>?_;obtain⟨rfl,rfl⟩:=he;refine l _ hroom (.inl ?_);have y:w.drew.heap[b]?=some (.cells us _ fr):=t;rw[Fa (cv.drop k) (0+(k+1)) us w.drew y EP,Fa [.int .i64 x] (0+k) _ _ (setRow_heap _ b us _ _ _ y) EP,iM _ _ _ _ us _ _ y];congr 2
      apply Su;intro j;have I:(us.toList.take (0+(k+1))++cv.drop k++us.toList.drop (0+(k+1)+(cv.drop k).length)).length=us.size:=EP;have S:∀q,us.toList.take q=(us.toList.take n).take q++(us.toList.drop n).take (q-n):=λq=>by
       conv=>lhs;rw[<-CJ n us.toList]
       rw[cw];simp only[Ax,Cv];rw[Ct (Ab:n<=us.size)]
      simp only[B2];have bQ:(us.toList.take (k+1)++cv.drop k++us.toList.drop (k+1+(cv.drop k).length)).take k=cv.take k:=by rw[AK,C6 EP,Fj,Ct (FD k),S k,o,Nat.sub_eq_zero_of_le K,KU,BB]
      have bL:(us.toList.take (k+1)++cv.drop k++us.toList.drop (k+1+(cv.drop k).length)).drop (k+1)=cv.drop k++us.toList.drop (n+1):=by
       have:(us.toList.take (k+1)).length=k+1:=EP;rw[AK,J1 this];congr 2
       simp;omega
      simp only[Bn,BP,B2];rw[bQ,bL,AK,AK,AK]
    .by_cases z:k=n
     .subst z;have hc:=Proofs.Any2.slices_Insert_int_end_grow Proofs.Tryz.Ou (some ⟨b,0,none⟩) k cap g 0 1 f cv [.int .i64 x] w Ab hnc Ab (by simpa[A0] using D) ŧ rfl (λe=>by cases e) (λa ea j v hj=>by cases ea;have:=hcells j v hj;rw[B2] at this;rw[show(Addr.mk b 0 none).add j=⟨b,j,none⟩ by unfold Addr.add;split<;>simp_all];exact this) hvs h1v;refine hc.mono λe w' he=>?_;obtain⟨rfl,rfl⟩:=he;have Et:=grownCap_ge w (k+1) cap 3;refine u _ (grownCap w (k+1) cap 3) (Builtin.zeroCells (Value.int .i64 0).cells (grownCap w (k+1) cap 3 -(k+1))).toList Et (grownCap_le_maxLen _ _ _ _ (by simp only[A0] at D;simp only[maxLen];omega)) (by rw[Cv,size_zeroCells];exact Ge _) ?_ rfl rfl rfl;rw[AT (Ab:cv.length<=k),AF Ab,BB];show w.heap.push _=w.heap.push _;congr 2
      apply HW;simp;rfl
     .have hlt:k<n:=by omega
      have hc:=Proofs.Any2.slices_Insert_int_grow Proofs.Tryz.Ou b 0 n cap k g 0 1 f cv [.int .i64 x] w hlt Ab hnc Ab (by simpa[A0] using D) ŧ rfl hcells hvs Ũ h1v;refine hc.mono λe w' he=>?_;obtain⟨rfl,rfl⟩:=he;have Et:=grownCap_ge w (n+1) cap 3;have hZ:∀m,(Builtin.zeroCells (Value.int .i64 0).cells m).size=m:=λm=>by rw[size_zeroCells];exact Ge _
      refine u _ (grownCap w (n+1) cap 3) (Builtin.zeroCells (Value.int .i64 0).cells (grownCap w (n+1) cap 3 -(n+1))).toList Et (grownCap_le_maxLen _ _ _ _ (by simp only[A0] at D;simp only[maxLen];omega)) (by rw[Cv,hZ]) ?_ ?_ ?_ ?_;all_goals
       obtain⟨C,A,N,M⟩:=rH w cv k n (.int .i64 x) (Builtin.zeroCells (Value.int .i64 0).cells (n+1 -k)) (Builtin.zeroCells (Value.int .i64 0).cells (grownCap w (n+1) cap 3 -(n+1))) 3 ŧ hlt (hZ _);first|exact C|exact A|exact N|exact M
   .cases hp
  .cases hp
 .cases hp
end
end Go.Am
