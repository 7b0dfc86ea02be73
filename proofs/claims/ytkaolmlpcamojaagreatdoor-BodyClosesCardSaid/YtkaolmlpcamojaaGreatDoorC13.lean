/- Lemmas -/
import Derived.Test.YtkaolmlpcamojaaGreatDoorC11
import Derived.Test.YtkaolmlpcamojaaGreatDoorC9
import Derived.Test.YtkaolmlpcamojaaGreatDoorC12
set_option linter.all false
namespace Go.Am
open Go Go.RowKit
section
variable{U U':Gh}{h:Ah}{w w':World}
noncomputable def cx0:FY:={cx with Ha:=λ_=>none}
def Hm.rel(hi:Hm U h w):Dh cx0 U w U (λ_=>0) [] h {tmps:=#[],defers:=[]} w:=
 ⟨hi,⟨rfl,λs=>trivial⟩,Lm.refl U w,rfl,λg cs hg=>by cases hg⟩
def dJ(w:World)(g:Nat)(a b:Array Value)(us:Array Value)(e:TypeId)(fr:Nat×Nat)(hg:w.heap[g]?=some (.cells us e fr)):(w.setRow g a).setRow g b=w.setRow g b:=by
 unfold World.setRow;congr 1
 apply Qe;intro i;by_cases hi:i=g;.subst hi;simp[Ng,hg]
 .simp[Ng,DG hi]
def m7(w:World)(cv:List Value)(k n:Nat)(x:Value)(Z1 a:Array Value)(e:TypeId)(hl:cv.length=n)(hk:k<n)(hz:Z1.size=n+1 -k):
  let w1:=(((w.alloc (.cells ((cv.take k).toArray++Z1++a) e)).drew.setCells w.heap.size k [x]).drew).setCells w.heap.size (k+1) (cv.drop k)
  w1.heap=w.heap.push (.cells (cv.take k++[x]++cv.drop k++a.toList).toArray e (0,0))/\w1.os=w.os/\w1.tape=w.tape/\w1.output=w.output:=by
 intro w1;have b:(cv.take k).length=k:=Ei;have JV:((cv.take k).toArray++Z1++a).size=n+1+a.size:=by simp only[J8,B8,b,hz];omega
 have sK:(w.alloc (.cells ((cv.take k).toArray++Z1++a) e)).drew.heap[w.heap.size]?=some (.cells ((cv.take k).toArray++Z1++a) e (0,0)):=heap_alloc_new w _;have d:=EO [x] k _ _ sK (by rw[JV];simp;omega);have f:(((cv.take k).toArray++Z1++a).toList.take k++[x]++((cv.take k).toArray++Z1++a).toList.drop (k+[x].length))=cv.take k++[x]++(Z1.toList.drop 1++a.toList):=by
  simp only[GW,AI,A9,BJ];congr 1
  .exact HX b
  .congr 1
   rw[<-Ek,JC b,TB];have:1 -Z1.toList.length=0:=Ei;simp only[BV] at*;rw[this,MH]
 rw[f] at d;have rj:((w.alloc (.cells ((cv.take k).toArray++Z1++a) e)).drew.setRow w.heap.size (cv.take k++[x]++(Z1.toList.drop 1++a.toList)).toArray).drew.heap[w.heap.size]?=some (.cells (cv.take k++[x]++(Z1.toList.drop 1++a.toList)).toArray e (0,0)):=setRow_heap _ _ _ _ _ _ sK;have Wl:(Z1.toList.drop 1).length=n-k:=by simp[hz];omega
 have c:=EO (cv.drop k) (k+1) _ _ rj (by simp[hz];omega);have hB:((cv.take k++[x]++(Z1.toList.drop 1++a.toList)).toArray.toList.take (k+1)++cv.drop k++(cv.take k++[x]++(Z1.toList.drop 1++a.toList)).toArray.toList.drop (k+1+(cv.drop k).length))=cv.take k++[x]++cv.drop k++a.toList:=by
  have h1:(cv.take k++[x]).length=k+1:=Ei;simp only[KV];rw[HX h1,<-Ek,JC h1];congr 1
  exact JC (by rw[Wl];simp;omega)
 rw[hB] at c;have VG:w1=((w.alloc (.cells ((cv.take k).toArray++Z1++a) e)).drew.setRow w.heap.size (cv.take k++[x]++(Z1.toList.drop 1++a.toList)).toArray).drew.setRow w.heap.size (cv.take k++[x]++cv.drop k++a.toList).toArray:=by show((((w.alloc _).drew.setCells _ _ _).drew).setCells _ _ _)=_;rw[d,c]
 rw[VG];refine⟨?_,rfl,rfl,rfl⟩;apply Qe;intro i;by_cases hi:i=w.heap.size;.subst hi;rw[setRow_heap _ _ _ _ _ _ rj];simp
 .rw[setRow_other _ _ _ _ hi];show((w.alloc _).drew.setRow _ _).heap[i]?=_;rw[setRow_other _ _ _ _ hi];show(w.heap.push _)[i]?=_;rw[ZV,ZV,Ad hi,Ad hi]
def iw:qm cx 239:=by
 refine⟨⟨_,_,Proofs.Tryz.func239,rfl,rfl⟩,?_⟩;intro U h w s L i x h' r g f nc e0 hi hs hp p NP TH Q aQS;have hd:Below w.heap.size w w.drew:=(Below.refl _ _).drew;have hvs:∀(j:Nat) (v:Value),[Value.int .i64 x][j]?=some v->w.cell? ⟨g,0+j,none⟩=some v:=λj v hj=>by
  cases j with
  |zero=>cases hj;rw[cell_of_row w _ _ nc e0 (0,0) p];exact NP
  |succ j=>simp at hj
 have h1v:∀v∈[Value.int .i64 x],v.oneCell'=true:=λv hv=>by simp at hv;subst hv;rfl
 have R:g<w.heap.size:=(A7.1 p).1;unfold Qi at hp;split at hp
 .rename_i P x' Ky;cases Ky;split at hp
  .rename_i h0;subst h0;cases hp;have JK:L= .slice none 0 0:=hs;subst JK;have hc:=Proofs.Any2.slices_Insert_int_end_grow Proofs.Tryz.NO none 0 0 g 0 1 f [] [.int .i64 x] w Ab (Ag _) Ab AM rfl rfl (λ_=>rfl) (λ_ e=>by cases e) hvs h1v;refine hc.mono λe w' he=>?_;obtain⟨rfl,rfl⟩:=he;have Eg:=grownCap_ge w (0+1) 0 3;have K5:(([]++[Value.int .i64 x]).toArray++Builtin.zeroCells (Value.int .i64 0).cells (grownCap w (0+1) 0 3 -(0+1))).size=grownCap w (0+1) 0 3:=by simp only[J8,size_zeroCells];show 1+(grownCap w 1 0 3 -1)*1=_;have:grownCap w (0+1) 0 3=grownCap w 1 0 3:=rfl;omega
   obtain⟨Wf,Pb⟩:=GN (hi.Lq hd).1 (.cells (([]++[Value.int .i64 x]).toArray++Builtin.zeroCells (Value.int .i64 0).cells (grownCap w (0+1) 0 3 -(0+1))) 3 (0,0)) (.cells [.int .i64 x]) (some _)
    (.inl ⟨_,_,_,_,rfl,rfl,.inl rfl,⟨_,[],AH,rfl,rfl⟩,by simp[Value.oneCell'],rfl⟩)
   exact⟨_,Wf,(hi.Lq hd).2.trans Pb,⟨w.heap.size,grownCap w (0+1) 0 3,by simp[Gh.B1],rfl,Eg,⟨Dc 0,grownCap_le_maxLen _ _ _ _ AM⟩,by simp only[Gh.B1];rw[Af (show w.heap.size=w.drew.heap.size from rfl),K5,FE];exact Ca some (BV _).symm⟩⟩
  .cases hp
 .rename_i id n P x' Ky;cases Ky;split at hp
  .rename_i cs hcs;split at hp
   .rename_i H5;obtain⟨W,K,J,D⟩:=H5;cases hp;obtain⟨b,cap,hm,rfl,hnc,⟨_,Å⟩,K5⟩:=(show BQ U _ _ from hs);obtain⟨us,e,fr,t,pf,G,O⟩:=hi.cells id cs hcs b hm;obtain⟨⟨DT,V,e_,C,A⟩,_⟩:=hi.sz b _ K5;rw[t] at C;cases C;obtain⟨S,B,aLj⟩:=hi.Mj id _ hcs AH;rw[hm] at B;cases B;have hne:g≠b:=λhe=>TH id (by rw[he];exact aLj);have lK:cs.length<=us.size:=by have:=G.length;simp at this;omega
    have PF:us.size=cap:=by rw[A];omega
    obtain⟨k,hk⟩:∃k:Nat,i=k:=⟨i.toNat,Ab⟩;subst hk;simp only[AY] at*;generalize o:us.toList.take n=cv;have Ò:cv.length=n:=by rw[<-o];simp;omega
    have hcells:∀(j:Nat) (v:Value),cv[j]?=some v->w.cell? ⟨b,0+j,none⟩=some v:=λj v hj=>by
     rw[cell_of_row w _ _ us e fr t,BV];rw[<-o,Ci] at hj;split at hj;.simpa using hj
     .cases hj
    have Ó:∀v∈cv,v.oneCell'=true:=λv hv=>O v (by
     rw[<-o] at hv;have:us.toList.take n=(us.toList.take cs.length).take n:=by rw[FA,Cs J]
     rw[this] at hv;exact Bp hv)
    have hcr:Bj U (cs.take n) cv:=by have:=G.take n;rw[FA,Cs J,o] at this;exact this
    have VG:Bj U (cs.take k++[.int .i64 x]++(cs.take n).drop k) (cv.take k++[.int .i64 x]++cv.drop k):=by
     have I:cs.take k=(cs.take n).take k:=by rw[FA,Cs K]
     rw[I];exact((hcr.take k).append (show Bj U [.int .i64 x] [Value.int .i64 x] from⟨_,[],rfl,rfl,rfl⟩)).append (hcr.drop k)
    have aAH:∀v∈cv.take k++[Value.int .i64 x]++cv.drop k,v.oneCell'=true:=λv hv=>by
     simp only[AI,Ax,BG] at hv;rcases hv with hv|rfl|hv
     .exact Ó v (Bp hv)
     .rfl
     .exact Ó v (Bw hv)
    have Hp:(cv.take k++[Value.int .i64 x]++cv.drop k).length=n+1:=Ei;have aLk:(cv.take k).length+[Value.int .i64 x].length+(cv.drop k).length=n+1:=by rw[<-Hp];simp only[Au]
    have Wb:(cs.take k++[Aa.int .i64 x]++(cs.take n).drop k).length=n+1:=by rw[<-Hp,VG.length]
    have hsp:∀j,j<n+1->n+1<=cap->(w.cell? ⟨b,0+j,none⟩).isSome=true:=λj hj hc=>by rw[cell_of_row w _ _ us e fr t,CX Ab];rfl
    have hfz:∀j,j<n+1->n+1<=cap->w.frozen? ⟨b,0+j,none⟩=false:=λj hj hc=>by
     simp only[World.frozen?,t];rcases pf with rfl|xJ
     .simp
     .simp;omega
    have l:∀(w1:World),n+1<=cap->w1=(w.drew).setRow b (cv.take k++[Value.int .i64 x]++cv.drop k++us.toList.drop (n+1)).toArray\/w1=w.setRow b (cv.take k++[Value.int .i64 x]++cv.drop k++us.toList.drop (n+1)).toArray->
      ∃U',Hm U' (h.set id .CR++[.cells (cs.take k++[.int .i64 x]++(cs.take n).drop k)]) w1/\Lm U w U' w1/\BQ U' (.CF h.length 0 (n+1) 1) (.slice (some ⟨b,0,none⟩) (n+1) cap):=by
     intro w1 hroom sK;have SD:(cv.take k++[Value.int .i64 x]++cv.drop k++us.toList.drop (n+1)).toArray.size=us.size:=by rw[B8,Au,Hp,Bd,Ch];omega
     have UL:(cv.take k++[Value.int .i64 x]++cv.drop k++us.toList.drop (n+1)).toArray.toList.take (cs.take k++[Aa.int .i64 x]++(cs.take n).drop k).length=cv.take k++[Value.int .i64 x]++cv.drop k:=by rw[Wb,<-Hp];exact FB
     have go:∀wd:World,Hm U h wd->Lm U w U wd->wd.heap[b]?=some (.cells us e fr)->∃U',Hm U' (h.set id .CR++[.cells (cs.take k++[.int .i64 x]++(cs.take n).drop k)]) (wd.setRow b (cv.take k++[Value.int .i64 x]++cv.drop k++us.toList.drop (n+1)).toArray)/\Lm U w U' (wd.setRow b (cv.take k++[Value.int .i64 x]++cv.drop k++us.toList.drop (n+1)).toArray)/\BQ U' (.CF h.length 0 (n+1) 1) (.slice (some ⟨b,0,none⟩) (n+1) cap):=by
      intro wd Ie rO hp;obtain⟨F,En,VC,LW,aCf⟩:=Ie.rel.sB hcs hm hp (by rw[K5,A]) (cv.take k++[Value.int .i64 x]++cv.drop k++us.toList.drop (n+1)).toArray (cs.take k++[.int .i64 x]++(cs.take n).drop k) SD
       (by
        rcases pf with rfl|pf
        .exact .inl rfl
        .exact .inr (by rw[SD];exact pf)) (by rw[UL];exact VG) (by rw[UL];exact aAH)
      exact⟨F,LW.D6,rO.trans LW.D0,b,cap,VC,rfl,hroom,⟨Dc 0,Å⟩,by rw[aCf,A]⟩
     rcases sK with rfl|rfl
     .obtain⟨Ie,rO⟩:=hi.Lq hd;exact go w.drew Ie rO t
     .exact go w hi (Lm.refl _ _) t
    have u:∀(w1:World) (c:Nat) (d:List Value),n+1<=c->c<=maxLen->d.length=c-(n+1)->w1.heap=(w.heap.push (.cells (cv.take k++[Value.int .i64 x]++cv.drop k++d).toArray 3 (0,0)))->w1.os=w.os->w1.tape=w.tape->w1.output=w.output->
      ∃U',Hm U' (h.set id .CR++[.cells (cs.take k++[.int .i64 x]++(cs.take n).drop k)]) w1/\Lm U w U' w1/\BQ U' (.CF h.length 0 (n+1) 1) (.slice (some ⟨w.heap.size,0,none⟩) (n+1) c):=by
     intro w1 c d hc hcl qV H ho ht E;have SD:(cv.take k++[Value.int .i64 x]++cv.drop k++d).toArray.size=c:=by simp only[B8,Au,aLk,qV];omega
     have UL:(cv.take k++[Value.int .i64 x]++cv.drop k++d).toArray.toList.take (cs.take k++[Aa.int .i64 x]++(cs.take n).drop k).length=cv.take k++[Value.int .i64 x]++cv.drop k:=by rw[Wb,<-Hp];exact FB
     obtain⟨F,En,VC,LW,aCf⟩:=(hi.rel.kill id).newObj (cv.take k++[Value.int .i64 x]++cv.drop k++d).toArray 3 (0,0) (cs.take k++[.int .i64 x]++(cs.take n).drop k) (.inl rfl) (by rw[UL];exact VG) (by rw[UL];exact aAH);have hb:Below (w.alloc (.cells (cv.take k++[Value.int .i64 x]++cv.drop k++d).toArray 3 (0,0))).heap.size (w.alloc (.cells (cv.take k++[Value.int .i64 x]++cv.drop k++d).toArray 3 (0,0))) w1:=⟨ho,ht,E,by rw[H];exact Ag _,λk' _=>by rw[H];rfl⟩;obtain⟨Ô,sQ⟩:=LW.D6.Lq hb;have hlen:(h.set id .CR).length=h.length:=AH;rw[hlen] at VC;exact⟨F,Ô,LW.D0.trans sQ,w.heap.size,c,VC,rfl,hc,⟨Dc 0,hcl⟩,by rw[aCf,SD];simp⟩
    by_cases hroom:n+1<=cap
    .by_cases z:k=n
     .subst z;have hc:=Proofs.Any2.slices_Insert_int_end_room Proofs.Tryz.NO b 0 k cap g 0 1 f [.int .i64 x] w Ab hroom Å rfl (λj hj=>by rw[(Ab:0+k+j=0+(k+j))];exact hsp _ Ab hroom) (λj hj=>by rw[(Ab:0+k+j=0+(k+j))];exact hfz _ Ab hroom) hvs h1v;refine hc.mono λe w' he=>?_;obtain⟨rfl,rfl⟩:=he;refine l _ hroom (.inr ?_);rw[EO _ _ us w t Ei,BV,o];congr 2
      rw[AW (Ab:cv.length<=k),AF Ab,By];rfl
     .have hlt:k<n:=by omega
      have hc:=Proofs.Any2.slices_Insert_int_shift Proofs.Tryz.NO b 0 n cap k g 0 1 f cv [.int .i64 x] w hlt Ab hroom Å hne Ò rfl hcells (λj hj=>hsp j hj hroom) (λj hj=>hfz j hj hroom) hvs Ó h1v
       e0 e nc.size us.size (by simp[World.shape?,p]) (by simp[World.shape?,t]) Ab (by rw[World.frozen?,p];rfl) (by rw[World.frozen?,p];rfl)
      refine hc.mono λe w' he=>?_;obtain⟨rfl,rfl⟩:=he;refine l _ hroom (.inl ?_);have y:w.drew.heap[b]?=some (.cells us _ fr):=t;rw[EO (cv.drop k) (0+(k+1)) us w.drew y Ei,EO [.int .i64 x] (0+k) _ _ (setRow_heap _ b us _ _ _ y) Ei,dJ _ _ _ _ us _ _ y];congr 2
      apply Ro;intro j;have I:(us.toList.take (0+(k+1))++cv.drop k++us.toList.drop (0+(k+1)+(cv.drop k).length)).length=us.size:=Ei;have T:∀q,us.toList.take q=(us.toList.take n).take q++(us.toList.drop n).take (q-n):=λq=>by
       conv=>lhs;rw[<-CG n us.toList]
       rw[wN];simp only[Aw,Ch];rw[Cs (Ab:n<=us.size)]
      simp only[BV];have Zp:(us.toList.take (k+1)++cv.drop k++us.toList.drop (k+1+(cv.drop k).length)).take k=cv.take k:=by rw[AI,CL Ei,FA,Cs (Ff k),T k,o,Nat.sub_eq_zero_of_le K,Ku,By]
      have Zk:(us.toList.take (k+1)++cv.drop k++us.toList.drop (k+1+(cv.drop k).length)).drop (k+1)=cv.drop k++us.toList.drop (n+1):=by
       have:(us.toList.take (k+1)).length=k+1:=Ei;rw[AI,JC this];congr 2
       simp;omega
      simp only[A9,BJ,BV];rw[Zp,Zk,AI,AI,AI]
    .by_cases z:k=n
     .subst z;have hc:=Proofs.Any2.slices_Insert_int_end_grow Proofs.Tryz.NO (some ⟨b,0,none⟩) k cap g 0 1 f cv [.int .i64 x] w Ab hnc Ab (by simpa[AX] using D) Ò rfl (λe=>by cases e) (λa ea j v hj=>by cases ea;have:=hcells j v hj;rw[BV] at this;rw[show(Addr.mk b 0 none).add j=⟨b,j,none⟩ by unfold Addr.add;split<;>simp_all];exact this) hvs h1v;refine hc.mono λe w' he=>?_;obtain⟨rfl,rfl⟩:=he;have Eg:=grownCap_ge w (k+1) cap 3;refine u _ (grownCap w (k+1) cap 3) (Builtin.zeroCells (Value.int .i64 0).cells (grownCap w (k+1) cap 3 -(k+1))).toList Eg (grownCap_le_maxLen _ _ _ _ (by simp only[AX] at D;simp only[maxLen];omega)) (by rw[Ch,size_zeroCells];exact FE _) ?_ rfl rfl rfl;rw[AW (Ab:cv.length<=k),AF Ab,By];show w.heap.push _=w.heap.push _;congr 2
      apply HE;simp;rfl
     .have hlt:k<n:=by omega
      have hc:=Proofs.Any2.slices_Insert_int_grow Proofs.Tryz.NO b 0 n cap k g 0 1 f cv [.int .i64 x] w hlt Ab hnc Ab (by simpa[AX] using D) Ò rfl hcells hvs Ó h1v;refine hc.mono λe w' he=>?_;obtain⟨rfl,rfl⟩:=he;have Eg:=grownCap_ge w (n+1) cap 3;have cT:∀m,(Builtin.zeroCells (Value.int .i64 0).cells m).size=m:=λm=>by rw[size_zeroCells];exact FE _
      refine u _ (grownCap w (n+1) cap 3) (Builtin.zeroCells (Value.int .i64 0).cells (grownCap w (n+1) cap 3 -(n+1))).toList Eg (grownCap_le_maxLen _ _ _ _ (by simp only[AX] at D;simp only[maxLen];omega)) (by rw[Ch,cT]) ?_ ?_ ?_ ?_;all_goals
       obtain⟨C,A,N,M⟩:=m7 w cv k n (.int .i64 x) (Builtin.zeroCells (Value.int .i64 0).cells (n+1 -k)) (Builtin.zeroCells (Value.int .i64 0).cells (grownCap w (n+1) cap 3 -(n+1))) 3 Ò hlt (cT _);first|exact C|exact A|exact N|exact M
   .cases hp
  .cases hp
 .cases hp
end
end Go.Am
