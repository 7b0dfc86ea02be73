/- Lemmas -/
import Derived.Test.YtlcmmpgfafpoiaaGreatDoorT11
import Derived.Test.YtlcmmpgfafpoiaaGreatDoorT9
import Derived.Test.YtlcmmpgfafpoiaaGreatDoorT12
set_option linter.all false
namespace Go.Am
open Go Go.RowKit
section
variable{U U':Gh}{h:Ah}{w w':World}
noncomputable def cx0:F8:={cx with Hb:=λ_=>none}
def Hn.rel(hi:Hn U h w):De cx0 U w U (λ_=>0) [] h {tmps:=#[],defers:=[]} w:=
 ⟨hi,⟨rfl,λs=>trivial⟩,Lq.refl U w,rfl,λg cs hg=>by cases hg⟩
def dU(w:World)(g:Nat)(a b:Array Value)(us:Array Value)(e:TypeId)(fr:Nat×Nat)(hg:w.heap[g]?=some (.cells us e fr)):(w.setRow g a).setRow g b=w.setRow g b:=by
 unfold World.setRow;congr 1
 apply Qa;intro i;by_cases hi:i=g;.subst hi;simp[Nc,hg]
 .simp[Nc,DJ hi]
def m6(w:World)(cv:List Value)(k n:Nat)(x:Value)(Z1 a:Array Value)(e:TypeId)(hl:cv.length=n)(hk:k<n)(hz:Z1.size=n+1 -k):
  let w1:=(((w.alloc (.cells ((cv.take k).toArray++Z1++a) e)).drew.setCells w.heap.size k [x]).drew).setCells w.heap.size (k+1) (cv.drop k)
  w1.heap=w.heap.push (.cells (cv.take k++[x]++cv.drop k++a.toList).toArray e (0,0))/\w1.os=w.os/\w1.tape=w.tape/\w1.output=w.output:=by
 intro w1;have b:(cv.take k).length=k:=D9;have J1:((cv.take k).toArray++Z1++a).size=n+1+a.size:=by simp only[Ka,B8,b,hz];omega
 have sB:(w.alloc (.cells ((cv.take k).toArray++Z1++a) e)).drew.heap[w.heap.size]?=some (.cells ((cv.take k).toArray++Z1++a) e (0,0)):=heap_alloc_new w _;have d:=EP [x] k _ _ sB (by rw[J1];simp;omega);have f:(((cv.take k).toArray++Z1++a).toList.take k++[x]++((cv.take k).toArray++Z1++a).toList.drop (k+[x].length))=cv.take k++[x]++(Z1.toList.drop 1++a.toList):=by
  simp only[GY,AI,Bf,BT];congr 1
  .exact HQ b
  .congr 1
   rw[<-El,JD b,To];have:1 -Z1.toList.length=0:=D9;simp only[BL] at*;rw[this,Ky]
 rw[f] at d;have r_:((w.alloc (.cells ((cv.take k).toArray++Z1++a) e)).drew.setRow w.heap.size (cv.take k++[x]++(Z1.toList.drop 1++a.toList)).toArray).drew.heap[w.heap.size]?=some (.cells (cv.take k++[x]++(Z1.toList.drop 1++a.toList)).toArray e (0,0)):=setRow_heap _ _ _ _ _ _ sB;have Wa:(Z1.toList.drop 1).length=n-k:=by simp[hz];omega
 have c:=EP (cv.drop k) (k+1) _ _ r_ (by simp[hz];omega);have hB:((cv.take k++[x]++(Z1.toList.drop 1++a.toList)).toArray.toList.take (k+1)++cv.drop k++(cv.take k++[x]++(Z1.toList.drop 1++a.toList)).toArray.toList.drop (k+1+(cv.drop k).length))=cv.take k++[x]++cv.drop k++a.toList:=by
  have h1:(cv.take k++[x]).length=k+1:=D9;simp only[K4];rw[HQ h1,<-El,JD h1];congr 1
  exact JD (by rw[Wa];simp;omega)
 rw[hB] at c;have Vz:w1=((w.alloc (.cells ((cv.take k).toArray++Z1++a) e)).drew.setRow w.heap.size (cv.take k++[x]++(Z1.toList.drop 1++a.toList)).toArray).drew.setRow w.heap.size (cv.take k++[x]++cv.drop k++a.toList).toArray:=by show((((w.alloc _).drew.setCells _ _ _).drew).setCells _ _ _)=_;rw[d,c]
 rw[Vz];refine⟨?_,rfl,rfl,rfl⟩;apply Qa;intro i;by_cases hi:i=w.heap.size;.subst hi;rw[setRow_heap _ _ _ _ _ _ r_];simp
 .rw[setRow_other _ _ _ _ hi];show((w.alloc _).drew.setRow _ _).heap[i]?=_;rw[setRow_other _ _ _ _ hi];show(w.heap.push _)[i]?=_;rw[ZX,ZX,Ad hi,Ad hi]
def iu:qp cx 239:=by
 refine⟨⟨_,_,Proofs.Tryz.func239,rfl,rfl⟩,?_⟩;intro U h w s L i x h' r g f mz e0 hi hs hp p NO Tu Q aQo;have hd:Below w.heap.size w w.drew:=(Below.refl _ _).drew;have hvs:∀(j:Nat) (v:Value),[Value.int .i64 x][j]?=some v->w.cell? ⟨g,0+j,none⟩=some v:=λj v hj=>by
  cases j with
  |zero=>cases hj;rw[cell_of_row w _ _ mz e0 (0,0) p];exact NO
  |succ j=>simp at hj
 have h1v:∀v∈[Value.int .i64 x],v.oneCell'=true:=λv hv=>by simp at hv;subst hv;rfl
 have R:g<w.heap.size:=(A8.1 p).1;unfold Qe at hp;split at hp
 .rename_i P x' KD;cases KD;split at hp
  .rename_i h0;subst h0;cases hp;have JN:L= .slice none 0 0:=hs;subst JN;have hc:=Proofs.Any2.slices_Insert_int_end_grow Proofs.Tryz.NN none 0 0 g 0 1 f [] [.int .i64 x] w Ab (Ag _) Ab AU rfl rfl (λ_=>rfl) (λ_ e=>by cases e) hvs h1v;refine hc.mono λe w' he=>?_;obtain⟨rfl,rfl⟩:=he;have Ei:=grownCap_ge w (0+1) 0 3;have Lb:(([]++[Value.int .i64 x]).toArray++Builtin.zeroCells (Value.int .i64 0).cells (grownCap w (0+1) 0 3 -(0+1))).size=grownCap w (0+1) 0 3:=by simp only[Ka,size_zeroCells];show 1+(grownCap w 1 0 3 -1)*1=_;have:grownCap w (0+1) 0 3=grownCap w 1 0 3:=rfl;omega
   obtain⟨V0,O8⟩:=GQ (hi.Lu hd).1 (.cells (([]++[Value.int .i64 x]).toArray++Builtin.zeroCells (Value.int .i64 0).cells (grownCap w (0+1) 0 3 -(0+1))) 3 (0,0)) (.cells [.int .i64 x]) (some _)
    (.inl ⟨_,_,_,_,rfl,rfl,.inl rfl,⟨_,[],AH,rfl,rfl⟩,by simp[Value.oneCell'],rfl⟩)
   exact⟨_,V0,(hi.Lu hd).2.trans O8,⟨w.heap.size,grownCap w (0+1) 0 3,by simp[Gh.B0],rfl,Ei,⟨Da 0,grownCap_le_maxLen _ _ _ _ AU⟩,by simp only[Gh.B0];rw[Af (show w.heap.size=w.drew.heap.size from rfl),Lb,FH];exact Ca some (BL _).symm⟩⟩
  .cases hp
 .rename_i id n P x' KD;cases KD;split at hp
  .rename_i cs hcs;split at hp
   .rename_i HU;obtain⟨W,K,J,D⟩:=HU;cases hp;obtain⟨b,cap,hm,rfl,hnc,⟨_,Ï⟩,Lb⟩:=(show BR U _ _ from hs);obtain⟨us,e,fr,t,pf,G,O⟩:=hi.cells id cs hcs b hm;obtain⟨⟨DR,V,fc,C,A⟩,_⟩:=hi.sz b _ Lb;rw[t] at C;cases C;obtain⟨S,B,aK8⟩:=hi.Mm id _ hcs AH;rw[hm] at B;cases B;have hne:g≠b:=λhe=>Tu id (by rw[he];exact aK8);have lK:cs.length<=us.size:=by have:=G.length;simp at this;omega
    have Pz:us.size=cap:=by rw[A];omega
    obtain⟨k,hk⟩:∃k:Nat,i=k:=⟨i.toNat,Ab⟩;subst hk;simp only[AY] at*;generalize o:us.toList.take n=cv;have Ý:cv.length=n:=by rw[<-o];simp;omega
    have hcells:∀(j:Nat) (v:Value),cv[j]?=some v->w.cell? ⟨b,0+j,none⟩=some v:=λj v hj=>by
     rw[cell_of_row w _ _ us e fr t,BL];rw[<-o,Cg] at hj;split at hj;.simpa using hj
     .cases hj
    have Þ:∀v∈cv,v.oneCell'=true:=λv hv=>O v (by
     rw[<-o] at hv;have:us.toList.take n=(us.toList.take cs.length).take n:=by rw[FD,Cq J]
     rw[this] at hv;exact Bn hv)
    have hcr:Bj U (cs.take n) cv:=by have:=G.take n;rw[FD,Cq J,o] at this;exact this
    have Vz:Bj U (cs.take k++[.int .i64 x]++(cs.take n).drop k) (cv.take k++[.int .i64 x]++cv.drop k):=by
     have I:cs.take k=(cs.take n).take k:=by rw[FD,Cq K]
     rw[I];exact((hcr.take k).append (show Bj U [.int .i64 x] [Value.int .i64 x] from⟨_,[],rfl,rfl,rfl⟩)).append (hcr.drop k)
    have aAJ:∀v∈cv.take k++[Value.int .i64 x]++cv.drop k,v.oneCell'=true:=λv hv=>by
     simp only[AI,Ax,Dt] at hv;rcases hv with hv|rfl|hv
     .exact Þ v (Bn hv)
     .rfl
     .exact Þ v (Bw hv)
    have Hm:(cv.take k++[Value.int .i64 x]++cv.drop k).length=n+1:=D9;have aK9:(cv.take k).length+[Value.int .i64 x].length+(cv.drop k).length=n+1:=by rw[<-Hm];simp only[Av]
    have VX:(cs.take k++[Aa.int .i64 x]++(cs.take n).drop k).length=n+1:=by rw[<-Hm,Vz.length]
    have hsp:∀j,j<n+1->n+1<=cap->(w.cell? ⟨b,0+j,none⟩).isSome=true:=λj hj hc=>by rw[cell_of_row w _ _ us e fr t,CW Ab];rfl
    have hfz:∀j,j<n+1->n+1<=cap->w.frozen? ⟨b,0+j,none⟩=false:=λj hj hc=>by
     simp only[World.frozen?,t];rcases pf with rfl|wU
     .simp
     .simp;omega
    have l:∀(w1:World),n+1<=cap->w1=(w.drew).setRow b (cv.take k++[Value.int .i64 x]++cv.drop k++us.toList.drop (n+1)).toArray\/w1=w.setRow b (cv.take k++[Value.int .i64 x]++cv.drop k++us.toList.drop (n+1)).toArray->
      ∃U',Hn U' (h.set id .CF++[.cells (cs.take k++[.int .i64 x]++(cs.take n).drop k)]) w1/\Lq U w U' w1/\BR U' (.Cs h.length 0 (n+1) 1) (.slice (some ⟨b,0,none⟩) (n+1) cap):=by
     intro w1 hroom sB;have Sq:(cv.take k++[Value.int .i64 x]++cv.drop k++us.toList.drop (n+1)).toArray.size=us.size:=by rw[B8,Av,Hm,Be,Cf];omega
     have UC:(cv.take k++[Value.int .i64 x]++cv.drop k++us.toList.drop (n+1)).toArray.toList.take (cs.take k++[Aa.int .i64 x]++(cs.take n).drop k).length=cv.take k++[Value.int .i64 x]++cv.drop k:=by rw[VX,<-Hm];exact FE
     have go:∀wd:World,Hn U h wd->Lq U w U wd->wd.heap[b]?=some (.cells us e fr)->∃U',Hn U' (h.set id .CF++[.cells (cs.take k++[.int .i64 x]++(cs.take n).drop k)]) (wd.setRow b (cv.take k++[Value.int .i64 x]++cv.drop k++us.toList.drop (n+1)).toArray)/\Lq U w U' (wd.setRow b (cv.take k++[Value.int .i64 x]++cv.drop k++us.toList.drop (n+1)).toArray)/\BR U' (.Cs h.length 0 (n+1) 1) (.slice (some ⟨b,0,none⟩) (n+1) cap):=by
      intro wd Ih rE hp;obtain⟨F,Eo,Vv,L0,aCm⟩:=Ih.rel.rQ hcs hm hp (by rw[Lb,A]) (cv.take k++[Value.int .i64 x]++cv.drop k++us.toList.drop (n+1)).toArray (cs.take k++[.int .i64 x]++(cs.take n).drop k) Sq
       (by
        rcases pf with rfl|pf
        .exact .inl rfl
        .exact .inr (by rw[Sq];exact pf)) (by rw[UC];exact Vz) (by rw[UC];exact aAJ)
      exact⟨F,L0.D8,rE.trans L0.D0,b,cap,Vv,rfl,hroom,⟨Da 0,Ï⟩,by rw[aCm,A]⟩
     rcases sB with rfl|rfl
     .obtain⟨Ih,rE⟩:=hi.Lu hd;exact go w.drew Ih rE t
     .exact go w hi (Lq.refl _ _) t
    have u:∀(w1:World) (c:Nat) (d:List Value),n+1<=c->c<=maxLen->d.length=c-(n+1)->w1.heap=(w.heap.push (.cells (cv.take k++[Value.int .i64 x]++cv.drop k++d).toArray 3 (0,0)))->w1.os=w.os->w1.tape=w.tape->w1.output=w.output->
      ∃U',Hn U' (h.set id .CF++[.cells (cs.take k++[.int .i64 x]++(cs.take n).drop k)]) w1/\Lq U w U' w1/\BR U' (.Cs h.length 0 (n+1) 1) (.slice (some ⟨w.heap.size,0,none⟩) (n+1) c):=by
     intro w1 c d hc hcl qK H ho ht E;have Sq:(cv.take k++[Value.int .i64 x]++cv.drop k++d).toArray.size=c:=by simp only[B8,Av,aK9,qK];omega
     have UC:(cv.take k++[Value.int .i64 x]++cv.drop k++d).toArray.toList.take (cs.take k++[Aa.int .i64 x]++(cs.take n).drop k).length=cv.take k++[Value.int .i64 x]++cv.drop k:=by rw[VX,<-Hm];exact FE
     obtain⟨F,Eo,Vv,L0,aCm⟩:=(hi.rel.kill id).newObj (cv.take k++[Value.int .i64 x]++cv.drop k++d).toArray 3 (0,0) (cs.take k++[.int .i64 x]++(cs.take n).drop k) (.inl rfl) (by rw[UC];exact Vz) (by rw[UC];exact aAJ);have hb:Below (w.alloc (.cells (cv.take k++[Value.int .i64 x]++cv.drop k++d).toArray 3 (0,0))).heap.size (w.alloc (.cells (cv.take k++[Value.int .i64 x]++cv.drop k++d).toArray 3 (0,0))) w1:=⟨ho,ht,E,by rw[H];exact Ag _,λk' _=>by rw[H];rfl⟩;obtain⟨ß,sH⟩:=L0.D8.Lu hb;have hlen:(h.set id .CF).length=h.length:=AH;rw[hlen] at Vv;exact⟨F,ß,L0.D0.trans sH,w.heap.size,c,Vv,rfl,hc,⟨Da 0,hcl⟩,by rw[aCm,Sq];simp⟩
    by_cases hroom:n+1<=cap
    .by_cases z:k=n
     .subst z;have hc:=Proofs.Any2.slices_Insert_int_end_room Proofs.Tryz.NN b 0 k cap g 0 1 f [.int .i64 x] w Ab hroom Ï rfl (λj hj=>by rw[(Ab:0+k+j=0+(k+j))];exact hsp _ Ab hroom) (λj hj=>by rw[(Ab:0+k+j=0+(k+j))];exact hfz _ Ab hroom) hvs h1v;refine hc.mono λe w' he=>?_;obtain⟨rfl,rfl⟩:=he;refine l _ hroom (.inr ?_);rw[EP _ _ us w t D9,BL,o];congr 2
      rw[A0 (Ab:cv.length<=k),AF Ab,By];rfl
     .have hlt:k<n:=by omega
      have hc:=Proofs.Any2.slices_Insert_int_shift Proofs.Tryz.NN b 0 n cap k g 0 1 f cv [.int .i64 x] w hlt Ab hroom Ï hne Ý rfl hcells (λj hj=>hsp j hj hroom) (λj hj=>hfz j hj hroom) hvs Þ h1v
       e0 e mz.size us.size (by simp[World.shape?,p]) (by simp[World.shape?,t]) Ab (by rw[World.frozen?,p];rfl) (by rw[World.frozen?,p];rfl)
      refine hc.mono λe w' he=>?_;obtain⟨rfl,rfl⟩:=he;refine l _ hroom (.inl ?_);have y:w.drew.heap[b]?=some (.cells us _ fr):=t;rw[EP (cv.drop k) (0+(k+1)) us w.drew y D9,EP [.int .i64 x] (0+k) _ _ (setRow_heap _ b us _ _ _ y) D9,dU _ _ _ _ us _ _ y];congr 2
      apply Rf;intro j;have I:(us.toList.take (0+(k+1))++cv.drop k++us.toList.drop (0+(k+1)+(cv.drop k).length)).length=us.size:=D9;have T:∀q,us.toList.take q=(us.toList.take n).take q++(us.toList.drop n).take (q-n):=λq=>by
       conv=>lhs;rw[<-CD n us.toList]
       rw[v8];simp only[Aw,Cf];rw[Cq (Ab:n<=us.size)]
      simp only[BL];have Zs:(us.toList.take (k+1)++cv.drop k++us.toList.drop (k+1+(cv.drop k).length)).take k=cv.take k:=by rw[AI,CI D9,FD,Cq (Fj k),T k,o,Nat.sub_eq_zero_of_le K,Kz,By]
      have Zl:(us.toList.take (k+1)++cv.drop k++us.toList.drop (k+1+(cv.drop k).length)).drop (k+1)=cv.drop k++us.toList.drop (n+1):=by
       have:(us.toList.take (k+1)).length=k+1:=D9;rw[AI,JD this];congr 2
       simp;omega
      simp only[Bf,BT,BL];rw[Zs,Zl,AI,AI,AI]
    .by_cases z:k=n
     .subst z;have hc:=Proofs.Any2.slices_Insert_int_end_grow Proofs.Tryz.NN (some ⟨b,0,none⟩) k cap g 0 1 f cv [.int .i64 x] w Ab hnc Ab (by simpa[AS] using D) Ý rfl (λe=>by cases e) (λa ea j v hj=>by cases ea;have:=hcells j v hj;rw[BL] at this;rw[show(Addr.mk b 0 none).add j=⟨b,j,none⟩ by unfold Addr.add;split<;>simp_all];exact this) hvs h1v;refine hc.mono λe w' he=>?_;obtain⟨rfl,rfl⟩:=he;have Ei:=grownCap_ge w (k+1) cap 3;refine u _ (grownCap w (k+1) cap 3) (Builtin.zeroCells (Value.int .i64 0).cells (grownCap w (k+1) cap 3 -(k+1))).toList Ei (grownCap_le_maxLen _ _ _ _ (by simp only[AS] at D;simp only[maxLen];omega)) (by rw[Cf,size_zeroCells];exact FH _) ?_ rfl rfl rfl;rw[A0 (Ab:cv.length<=k),AF Ab,By];show w.heap.push _=w.heap.push _;congr 2
      apply HD;simp;rfl
     .have hlt:k<n:=by omega
      have hc:=Proofs.Any2.slices_Insert_int_grow Proofs.Tryz.NN b 0 n cap k g 0 1 f cv [.int .i64 x] w hlt Ab hnc Ab (by simpa[AS] using D) Ý rfl hcells hvs Þ h1v;refine hc.mono λe w' he=>?_;obtain⟨rfl,rfl⟩:=he;have Ei:=grownCap_ge w (n+1) cap 3;have dD:∀m,(Builtin.zeroCells (Value.int .i64 0).cells m).size=m:=λm=>by rw[size_zeroCells];exact FH _
      refine u _ (grownCap w (n+1) cap 3) (Builtin.zeroCells (Value.int .i64 0).cells (grownCap w (n+1) cap 3 -(n+1))).toList Ei (grownCap_le_maxLen _ _ _ _ (by simp only[AS] at D;simp only[maxLen];omega)) (by rw[Cf,dD]) ?_ ?_ ?_ ?_;all_goals
       obtain⟨C,A,N,M⟩:=m6 w cv k n (.int .i64 x) (Builtin.zeroCells (Value.int .i64 0).cells (n+1 -k)) (Builtin.zeroCells (Value.int .i64 0).cells (grownCap w (n+1) cap 3 -(n+1))) 3 Ý hlt (dD _);first|exact C|exact A|exact N|exact M
   .cases hp
  .cases hp
 .cases hp
end
end Go.Am
