/- Lemmas -/
import Derived.Test.YtjjnhgoknielgaaGreatDoorW11
import Derived.Test.YtjjnhgoknielgaaGreatDoorW9
import Derived.Test.YtjjnhgoknielgaaGreatDoorW12
set_option linter.all false
namespace Go.Am
open Go Go.RowKit
section
variable{U U':Gh}{h:Ai}{w w':World}
noncomputable def cx0:Gw:={cx with HO:=λ_=>none}
def It.rel(hi:It U h w):Df cx0 U w U (λ_=>0) [] h {tmps:=#[],defers:=[]} w:=
 ⟨hi,⟨rfl,λs=>trivial⟩,Nb.refl U w,rfl,λg cs hg=>by cases hg⟩
def gQ(w:World)(g:Nat)(a b:Array Value)(us:Array Value)(e:TypeId)(fr:Nat×Nat)(hg:w.heap[g]?=some (.cells us e fr)):(w.setRow g a).setRow g b=w.setRow g b:=by
 unfold World.setRow;congr 1
 apply Rk;intro i;by_cases hi:i=g;.subst hi;simp[Ob,hg]
 .simp[Ob,C3 hi]
def oM(w:World)(cv:List Value)(k n:Nat)(x:Value)(Z1 a:Array Value)(e:TypeId)(hl:cv.length=n)(hk:k<n)(hz:Z1.size=n+1 -k):
  let w1:=(((w.alloc (.cells ((cv.take k).toArray++Z1++a) e)).drew.setCells w.heap.size k [x]).drew).setCells w.heap.size (k+1) (cv.drop k)
  w1.heap=w.heap.push (.cells (cv.take k++[x]++cv.drop k++a.toList).toArray e (0,0))/\w1.os=w.os/\w1.tape=w.tape/\w1.output=w.output:=by
 intro w1;have b:(cv.take k).length=k:=EE;have KG:((cv.take k).toArray++Z1++a).size=n+1+a.size:=by simp only[KD,B8,b,hz];omega
 have zH:(w.alloc (.cells ((cv.take k).toArray++Z1++a) e)).drew.heap[w.heap.size]?=some (.cells ((cv.take k).toArray++Z1++a) e (0,0)):=heap_alloc_new w _;have d:=E5 [x] k _ _ zH (by rw[KG];simp;omega);have f:(((cv.take k).toArray++Z1++a).toList.take k++[x]++((cv.take k).toArray++Z1++a).toList.drop (k+[x].length))=cv.take k++[x]++(Z1.toList.drop 1++a.toList):=by
  simp only[Hv,A7,AJ,AZ];congr 1
  .exact Kc b
  .congr 1
   rw[<-Ez,My b,Jv];have:1 -Z1.toList.length=0:=EE;simp only[BG] at*;rw[this,K8]
 rw[f] at d;have H_:((w.alloc (.cells ((cv.take k).toArray++Z1++a) e)).drew.setRow w.heap.size (cv.take k++[x]++(Z1.toList.drop 1++a.toList)).toArray).drew.heap[w.heap.size]?=some (.cells (cv.take k++[x]++(Z1.toList.drop 1++a.toList)).toArray e (0,0)):=setRow_heap _ _ _ _ _ _ zH;have qw:(Z1.toList.drop 1).length=n-k:=by simp[hz];omega
 have c:=E5 (cv.drop k) (k+1) _ _ H_ (by simp[hz];omega);have hB:((cv.take k++[x]++(Z1.toList.drop 1++a.toList)).toArray.toList.take (k+1)++cv.drop k++(cv.take k++[x]++(Z1.toList.drop 1++a.toList)).toArray.toList.drop (k+1+(cv.drop k).length))=cv.take k++[x]++cv.drop k++a.toList:=by
  have h1:(cv.take k++[x]).length=k+1:=EE;simp only[LO];rw[Kc h1,<-Ez,My h1];congr 1
  exact My (by rw[qw];simp;omega)
 rw[hB] at c;have Ww:w1=((w.alloc (.cells ((cv.take k).toArray++Z1++a) e)).drew.setRow w.heap.size (cv.take k++[x]++(Z1.toList.drop 1++a.toList)).toArray).drew.setRow w.heap.size (cv.take k++[x]++cv.drop k++a.toList).toArray:=by show((((w.alloc _).drew.setCells _ _ _).drew).setCells _ _ _)=_;rw[d,c]
 rw[Ww];refine⟨?_,rfl,rfl,rfl⟩;apply Rk;intro i;by_cases hi:i=w.heap.size;.subst hi;rw[setRow_heap _ _ _ _ _ _ H_];simp
 .rw[setRow_other _ _ _ _ hi];show((w.alloc _).drew.setRow _ _).heap[i]?=_;rw[setRow_other _ _ _ _ hi];show(w.heap.push _)[i]?=_;rw[bX,bX,Aa hi,Aa hi]
def qx:zo cx 112:=by
 refine⟨⟨_,_,Proofs.Tryz.func112,rfl,rfl⟩,?_⟩;intro U h w s O i x h' r g f xe e0 hi hs hp p E UB T aTW;have hd:Below w.heap.size w w.drew:=(Below.refl _ _).drew;have hvs:∀(j:Nat) (v:Value),[Value.int .i64 x][j]?=some v->w.cell? ⟨g,0+j,none⟩=some v:=λj v hj=>by
  cases j with
  |zero=>cases hj;rw[cell_of_row w _ _ xe e0 (0,0) p];exact E
  |succ j=>simp at hj
 have h1v:∀v∈[Value.int .i64 x],v.oneCell'=true:=λv hv=>by simp at hv;subst hv;rfl
 have V:g<w.heap.size:=(AU.1 p).1;unfold Rq at hp;split at hp
 .rename_i S x' Ld;cases Ld;split at hp
  .rename_i h0;subst h0;cases hp;have Kk:O= .slice none 0 0:=hs;subst Kk;have hc:=Proofs.Any2.slices_Insert_int_end_grow Proofs.Tryz.OM none 0 0 g 0 1 f [] [.int .i64 x] w Ac (Ad _) Ac Az rfl rfl (λ_=>rfl) (λ_ e=>by cases e) hvs h1v;refine hc.mono λe w' he=>?_;obtain⟨rfl,rfl⟩:=he;have JA:=grownCap_ge w (0+1) 0 3;have Lu:(([]++[Value.int .i64 x]).toArray++Builtin.zeroCells (Value.int .i64 0).cells (grownCap w (0+1) 0 3 -(0+1))).size=grownCap w (0+1) 0 3:=by simp only[KD,size_zeroCells];show 1+(grownCap w 1 0 3 -1)*1=_;have:grownCap w (0+1) 0 3=grownCap w 1 0 3:=rfl;omega
   obtain⟨cQ,UR⟩:=Po (hi.Ni hd).1 (.cells (([]++[Value.int .i64 x]).toArray++Builtin.zeroCells (Value.int .i64 0).cells (grownCap w (0+1) 0 3 -(0+1))) 3 (0,0)) (.cells [.int .i64 x]) (some _)
    (.inl ⟨_,_,_,_,rfl,rfl,.inl rfl,⟨_,[],AB,rfl,rfl⟩,by simp[Value.oneCell'],rfl⟩)
   exact⟨_,cQ,(hi.Ni hd).2.trans UR,⟨w.heap.size,grownCap w (0+1) 0 3,by simp[Gh.BV],rfl,JA,⟨C9 0,grownCap_le_maxLen _ _ _ _ Az⟩,by simp only[Gh.BV];rw[Ae (show w.heap.size=w.drew.heap.size from rfl),Lu,HM];exact B6 some (BG _).symm⟩⟩
  .cases hp
 .rename_i id n S x' Ld;cases Ld;split at hp
  .rename_i cs hcs;split at hp
   .rename_i Iz;obtain⟨Z,N,M,D⟩:=Iz;cases hp;obtain⟨b,cap,hm,rfl,hnc,⟨_,z⟩,Lu⟩:=(show BQ U _ _ from hs);obtain⟨us,e,fr,t,pf,J,R⟩:=hi.cells id cs hcs b hm;obtain⟨⟨DS,Y,pd,C,A⟩,_⟩:=hi.sz b _ Lu;rw[t] at C;cases C;obtain⟨W,B,aNU⟩:=hi.NH id _ hcs AB;rw[hm] at B;cases B;have hne:g≠b:=λhe=>UB id (by rw[he];exact aNU);have xf:cs.length<=us.size:=by have:=J.length;simp at this;omega
    have QD:us.size=cap:=by rw[A];omega
    obtain⟨k,hk⟩:∃k:Nat,i=k:=⟨i.toNat,Ac⟩;subst hk;simp only[BH] at*;generalize o:us.toList.take n=cv;have aAG:cv.length=n:=by rw[<-o];simp;omega
    have hcells:∀(j:Nat) (v:Value),cv[j]?=some v->w.cell? ⟨b,0+j,none⟩=some v:=λj v hj=>by
     rw[cell_of_row w _ _ us e fr t,BG];rw[<-o,CA] at hj;split at hj;.simpa using hj
     .cases hj
    have aAH:∀v∈cv,v.oneCell'=true:=λv hv=>R v (by
     rw[<-o] at hv;have:us.toList.take n=(us.toList.take cs.length).take n:=by rw[CK,BP M]
     rw[this] at hv;exact A9 hv)
    have hcr:Bc U (cs.take n) cv:=by have:=J.take n;rw[CK,BP M,o] at this;exact this
    have Ww:Bc U (cs.take k++[.int .i64 x]++(cs.take n).drop k) (cv.take k++[.int .i64 x]++cv.drop k):=by
     have L:cs.take k=(cs.take n).take k:=by rw[CK,BP N]
     rw[L];exact((hcr.take k).append (show Bc U [.int .i64 x] [Value.int .i64 x] from⟨_,[],rfl,rfl,rfl⟩)).append (hcr.drop k)
    have aCZ:∀v∈cv.take k++[Value.int .i64 x]++cv.drop k,v.oneCell'=true:=λv hv=>by
     simp only[A7,Ao,Bv] at hv;rcases hv with hv|rfl|hv
     .exact aAH v (A9 hv)
     .rfl
     .exact aAH v (A6 hv)
    have Jz:(cv.take k++[Value.int .i64 x]++cv.drop k).length=n+1:=EE;have aNV:(cv.take k).length+[Value.int .i64 x].length+(cv.drop k).length=n+1:=by rw[<-Jz];simp only[An]
    have WV:(cs.take k++[Ab.int .i64 x]++(cs.take n).drop k).length=n+1:=by rw[<-Jz,Ww.length]
    have hsp:∀j,j<n+1->n+1<=cap->(w.cell? ⟨b,0+j,none⟩).isSome=true:=λj hj hc=>by rw[cell_of_row w _ _ us e fr t,CY Ac];rfl
    have hfz:∀j,j<n+1->n+1<=cap->w.frozen? ⟨b,0+j,none⟩=false:=λj hj hc=>by
     simp only[World.frozen?,t];rcases pf with rfl|XU
     .simp
     .simp;omega
    have l:∀(w1:World),n+1<=cap->w1=(w.drew).setRow b (cv.take k++[Value.int .i64 x]++cv.drop k++us.toList.drop (n+1)).toArray\/w1=w.setRow b (cv.take k++[Value.int .i64 x]++cv.drop k++us.toList.drop (n+1)).toArray->
      ∃U',It U' (h.set id .Ef++[.cells (cs.take k++[.int .i64 x]++(cs.take n).drop k)]) w1/\Nb U w U' w1/\BQ U' (.Du h.length 0 (n+1) 1) (.slice (some ⟨b,0,none⟩) (n+1) cap):=by
     intro w1 hroom zH;have Wq:(cv.take k++[Value.int .i64 x]++cv.drop k++us.toList.drop (n+1)).toArray.size=us.size:=by rw[B8,An,Jz,A4,Cq];omega
     have VF:(cv.take k++[Value.int .i64 x]++cv.drop k++us.toList.drop (n+1)).toArray.toList.take (cs.take k++[Ab.int .i64 x]++(cs.take n).drop k).length=cv.take k++[Value.int .i64 x]++cv.drop k:=by rw[WV,<-Jz];exact Fb
     have go:∀wd:World,It U h wd->Nb U w U wd->wd.heap[b]?=some (.cells us e fr)->∃U',It U' (h.set id .Ef++[.cells (cs.take k++[.int .i64 x]++(cs.take n).drop k)]) (wd.setRow b (cv.take k++[Value.int .i64 x]++cv.drop k++us.toList.drop (n+1)).toArray)/\Nb U w U' (wd.setRow b (cv.take k++[Value.int .i64 x]++cv.drop k++us.toList.drop (n+1)).toArray)/\BQ U' (.Du h.length 0 (n+1) 1) (.slice (some ⟨b,0,none⟩) (n+1) cap):=by
      intro wd JB sZ hp;obtain⟨I,E0,Yd,Ng,aEo⟩:=JB.rel.zx hcs hm hp (by rw[Lu,A]) (cv.take k++[Value.int .i64 x]++cv.drop k++us.toList.drop (n+1)).toArray (cs.take k++[.int .i64 x]++(cs.take n).drop k) Wq
       (by
        rcases pf with rfl|pf
        .exact .inl rfl
        .exact .inr (by rw[Wq];exact pf)) (by rw[VF];exact Ww) (by rw[VF];exact aCZ)
      exact⟨I,Ng.Ee,sZ.trans Ng.D8,b,cap,Yd,rfl,hroom,⟨C9 0,z⟩,by rw[aEo,A]⟩
     rcases zH with rfl|rfl
     .obtain⟨JB,sZ⟩:=hi.Ni hd;exact go w.drew JB sZ t
     .exact go w hi (Nb.refl _ _) t
    have u:∀(w1:World) (c:Nat) (d:List Value),n+1<=c->c<=maxLen->d.length=c-(n+1)->w1.heap=(w.heap.push (.cells (cv.take k++[Value.int .i64 x]++cv.drop k++d).toArray 3 (0,0)))->w1.os=w.os->w1.tape=w.tape->w1.output=w.output->
      ∃U',It U' (h.set id .Ef++[.cells (cs.take k++[.int .i64 x]++(cs.take n).drop k)]) w1/\Nb U w U' w1/\BQ U' (.Du h.length 0 (n+1) 1) (.slice (some ⟨w.heap.size,0,none⟩) (n+1) c):=by
     intro w1 c d hc hcl xk K ho ht F;have Wq:(cv.take k++[Value.int .i64 x]++cv.drop k++d).toArray.size=c:=by simp only[B8,An,aNV,xk];omega
     have VF:(cv.take k++[Value.int .i64 x]++cv.drop k++d).toArray.toList.take (cs.take k++[Ab.int .i64 x]++(cs.take n).drop k).length=cv.take k++[Value.int .i64 x]++cv.drop k:=by rw[WV,<-Jz];exact Fb
     obtain⟨I,E0,Yd,Ng,aEo⟩:=(hi.rel.kill id).newObj (cv.take k++[Value.int .i64 x]++cv.drop k++d).toArray 3 (0,0) (cs.take k++[.int .i64 x]++(cs.take n).drop k) (.inl rfl) (by rw[VF];exact Ww) (by rw[VF];exact aCZ);have hb:Below (w.alloc (.cells (cv.take k++[Value.int .i64 x]++cv.drop k++d).toArray 3 (0,0))).heap.size (w.alloc (.cells (cv.take k++[Value.int .i64 x]++cv.drop k++d).toArray 3 (0,0))) w1:=⟨ho,ht,F,by rw[K];exact Ad _,λk' _=>by rw[K];rfl⟩;obtain⟨G,H⟩:=Ng.Ee.Ni hb;have hlen:(h.set id .Ef).length=h.length:=AB;rw[hlen] at Yd;exact⟨I,G,Ng.D8.trans H,w.heap.size,c,Yd,rfl,hc,⟨C9 0,hcl⟩,by rw[aEo,Wq];simp⟩
    by_cases hroom:n+1<=cap
    .by_cases Y_:k=n
     .subst Y_;have hc:=Proofs.Any2.slices_Insert_int_end_room Proofs.Tryz.OM b 0 k cap g 0 1 f [.int .i64 x] w Ac hroom z rfl (λj hj=>by rw[(Ac:0+k+j=0+(k+j))];exact hsp _ Ac hroom) (λj hj=>by rw[(Ac:0+k+j=0+(k+j))];exact hfz _ Ac hroom) hvs h1v;refine hc.mono λe w' he=>?_;obtain⟨rfl,rfl⟩:=he;refine l _ hroom (.inr ?_);rw[E5 _ _ us w t EE,BG,o];congr 2
      rw[AX (Ac:cv.length<=k),Bf Ac,A8];rfl
     .have hlt:k<n:=by omega
      have hc:=Proofs.Any2.slices_Insert_int_shift Proofs.Tryz.OM b 0 n cap k g 0 1 f cv [.int .i64 x] w hlt Ac hroom z hne aAG rfl hcells (λj hj=>hsp j hj hroom) (λj hj=>hfz j hj hroom) hvs aAH h1v
       e0 e xe.size us.size (by simp[World.shape?,p]) (by simp[World.shape?,t]) Ac (by rw[World.frozen?,p];rfl) (by rw[World.frozen?,p];rfl)
      refine hc.mono λe w' he=>?_;obtain⟨rfl,rfl⟩:=he;refine l _ hroom (.inl ?_);have y:w.drew.heap[b]?=some (.cells us _ fr):=t;rw[E5 (cv.drop k) (0+(k+1)) us w.drew y EE,E5 [.int .i64 x] (0+k) _ _ (setRow_heap _ b us _ _ _ y) EE,gQ _ _ _ _ us _ _ y];congr 2
      apply So;intro j;have L:(us.toList.take (0+(k+1))++cv.drop k++us.toList.drop (0+(k+1)+(cv.drop k).length)).length=us.size:=EE;have X:∀q,us.toList.take q=(us.toList.take n).take q++(us.toList.drop n).take (q-n):=λq=>by
       conv=>lhs;rw[<-Br n us.toList]
       rw[yD];simp only[Ax,Cq];rw[BP (Ac:n<=us.size)]
      simp only[BG];have sX:(us.toList.take (k+1)++cv.drop k++us.toList.drop (k+1+(cv.drop k).length)).take k=cv.take k:=by rw[A7,Bk EE,CK,BP (F6 k),X k,o,Nat.sub_eq_zero_of_le N,Rj,A8]
      have UC:(us.toList.take (k+1)++cv.drop k++us.toList.drop (k+1+(cv.drop k).length)).drop (k+1)=cv.drop k++us.toList.drop (n+1):=by
       have:(us.toList.take (k+1)).length=k+1:=EE;rw[A7,My this];congr 2
       simp;omega
      simp only[AJ,AZ,BG];rw[sX,UC,A7,A7,A7]
    .by_cases Y_:k=n
     .subst Y_;have hc:=Proofs.Any2.slices_Insert_int_end_grow Proofs.Tryz.OM (some ⟨b,0,none⟩) k cap g 0 1 f cv [.int .i64 x] w Ac hnc Ac (by simpa[AY] using D) aAG rfl (λe=>by cases e) (λa ea j v hj=>by cases ea;have:=hcells j v hj;rw[BG] at this;rw[show(Addr.mk b 0 none).add j=⟨b,j,none⟩ by unfold Addr.add;split<;>simp_all];exact this) hvs h1v;refine hc.mono λe w' he=>?_;obtain⟨rfl,rfl⟩:=he;have JA:=grownCap_ge w (k+1) cap 3;refine u _ (grownCap w (k+1) cap 3) (Builtin.zeroCells (Value.int .i64 0).cells (grownCap w (k+1) cap 3 -(k+1))).toList JA (grownCap_le_maxLen _ _ _ _ (by simp only[AY] at D;simp only[maxLen];omega)) (by rw[Cq,size_zeroCells];exact HM _) ?_ rfl rfl rfl;rw[AX (Ac:cv.length<=k),Bf Ac,A8];show w.heap.push _=w.heap.push _;congr 2
      apply Ia;simp;rfl
     .have hlt:k<n:=by omega
      have hc:=Proofs.Any2.slices_Insert_int_grow Proofs.Tryz.OM b 0 n cap k g 0 1 f cv [.int .i64 x] w hlt Ac hnc Ac (by simpa[AY] using D) aAG rfl hcells hvs aAH h1v;refine hc.mono λe w' he=>?_;obtain⟨rfl,rfl⟩:=he;have JA:=grownCap_ge w (n+1) cap 3;have gC:∀m,(Builtin.zeroCells (Value.int .i64 0).cells m).size=m:=λm=>by rw[size_zeroCells];exact HM _
      refine u _ (grownCap w (n+1) cap 3) (Builtin.zeroCells (Value.int .i64 0).cells (grownCap w (n+1) cap 3 -(n+1))).toList JA (grownCap_le_maxLen _ _ _ _ (by simp only[AY] at D;simp only[maxLen];omega)) (by rw[Cq,gC]) ?_ ?_ ?_ ?_;all_goals
       obtain⟨C,A,Q,P⟩:=oM w cv k n (.int .i64 x) (Builtin.zeroCells (Value.int .i64 0).cells (n+1 -k)) (Builtin.zeroCells (Value.int .i64 0).cells (grownCap w (n+1) cap 3 -(n+1))) 3 aAG hlt (gC _);first|exact C|exact A|exact Q|exact P
   .cases hp
  .cases hp
 .cases hp
end
end Go.Am
