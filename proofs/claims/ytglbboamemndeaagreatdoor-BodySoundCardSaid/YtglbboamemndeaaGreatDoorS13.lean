/- Lemmas -/
import Derived.Test.YtglbboamemndeaaGreatDoorS11
import Derived.Test.YtglbboamemndeaaGreatDoorS9
import Derived.Test.YtglbboamemndeaaGreatDoorS12
set_option linter.all false
namespace Go.Am
open Go Go.RowKit
section
variable{U U':Gh}{h:Ai}{w w':World}
noncomputable def cx0:Fx:={cx with GN:=λ_=>none}
def Hw.rel(hi:Hw U h w):CW cx0 U w U (λ_=>0) [] h {tmps:=#[],defers:=[]} w:=
 ⟨hi,⟨rfl,λs=>trivial⟩,LR.refl U w,rfl,λg cs hg=>by cases hg⟩
def bQ(w:World)(g:Nat)(a b:Array Value)(us:Array Value)(e:TypeId)(fr:Nat×Nat)(hg:w.heap[g]?=some (.cells us e fr)):(w.setRow g a).setRow g b=w.setRow g b:=by
 unfold World.setRow;congr 1
 apply PQ;intro i;by_cases hi:i=g;.subst hi;simp[ML,hg]
 .simp[ML,DC hi]
def mA(w:World)(cv:List Value)(k n:Nat)(x:Value)(Z1 a:Array Value)(e:TypeId)(hl:cv.length=n)(hk:k<n)(hz:Z1.size=n+1 -k):
  let w1:=(((w.alloc (.cells ((cv.take k).toArray++Z1++a) e)).drew.setCells w.heap.size k [x]).drew).setCells w.heap.size (k+1) (cv.drop k)
  w1.heap=w.heap.push (.cells (cv.take k++[x]++cv.drop k++a.toList).toArray e (0,0))/\w1.os=w.os/\w1.tape=w.tape/\w1.output=w.output:=by
 intro w1;have b:(cv.take k).length=k:=Ek;have Lt:((cv.take k).toArray++Z1++a).size=n+1+a.size:=by simp only[Jt,BU,b,hz];omega
 have qS:(w.alloc (.cells ((cv.take k).toArray++Z1++a) e)).drew.heap[w.heap.size]?=some (.cells ((cv.take k).toArray++Z1++a) e (0,0)):=heap_alloc_new w _;have d:=Ex [x] k _ _ qS (by rw[Lt];simp;omega);have f:(((cv.take k).toArray++Z1++a).toList.take k++[x]++((cv.take k).toArray++Z1++a).toList.drop (k+[x].length))=cv.take k++[x]++(Z1.toList.drop 1++a.toList):=by
  simp only[GA,AT,AG,Bk];congr 1
  .exact I0 b
  .congr 1
   rw[<-ED,La b,SV];have:1 -Z1.toList.length=0:=Ek;simp only[BB] at*;rw[this,F0]
 rw[f] at d;have k_:((w.alloc (.cells ((cv.take k).toArray++Z1++a) e)).drew.setRow w.heap.size (cv.take k++[x]++(Z1.toList.drop 1++a.toList)).toArray).drew.heap[w.heap.size]?=some (.cells (cv.take k++[x]++(Z1.toList.drop 1++a.toList)).toArray e (0,0)):=setRow_heap _ _ _ _ _ _ qS;have az:(Z1.toList.drop 1).length=n-k:=by simp[hz];omega
 have c:=Ex (cv.drop k) (k+1) _ _ k_ (by simp[hz];omega);have hB:((cv.take k++[x]++(Z1.toList.drop 1++a.toList)).toArray.toList.take (k+1)++cv.drop k++(cv.take k++[x]++(Z1.toList.drop 1++a.toList)).toArray.toList.drop (k+1+(cv.drop k).length))=cv.take k++[x]++cv.drop k++a.toList:=by
  have h1:(cv.take k++[x]).length=k+1:=Ek;simp only[Kw];rw[I0 h1,<-ED,La h1];congr 1
  exact La (by rw[az];simp;omega)
 rw[hB] at c;have UP:w1=((w.alloc (.cells ((cv.take k).toArray++Z1++a) e)).drew.setRow w.heap.size (cv.take k++[x]++(Z1.toList.drop 1++a.toList)).toArray).drew.setRow w.heap.size (cv.take k++[x]++cv.drop k++a.toList).toArray:=by show((((w.alloc _).drew.setCells _ _ _).drew).setCells _ _ _)=_;rw[d,c]
 rw[UP];refine⟨?_,rfl,rfl,rfl⟩;apply PQ;intro i;by_cases hi:i=w.heap.size;.subst hi;rw[setRow_heap _ _ _ _ _ _ k_];simp
 .rw[setRow_other _ _ _ _ hi];show((w.alloc _).drew.setRow _ _).heap[i]?=_;rw[setRow_other _ _ _ _ hi];show(w.heap.push _)[i]?=_;rw[Zb,Zb,Af hi,Af hi]
def a_:jy cx 151:=by
 refine⟨⟨_,_,Proofs.Tryz.func151,rfl,rfl⟩,?_⟩;intro U h w s M i x h' r g f fu e0 hi hs hp p E S4 R aMj;have hd:Below w.heap.size w w.drew:=(Below.refl _ _).drew;have hvs:∀(j:Nat) (v:Value),[Value.int .i64 x][j]?=some v->w.cell? ⟨g,0+j,none⟩=some v:=λj v hj=>by
  cases j with
  |zero=>cases hj;rw[cell_of_row w _ _ fu e0 (0,0) p];exact E
  |succ j=>simp at hj
 have h1v:∀v∈[Value.int .i64 x],v.oneCell'=true:=λv hv=>by simp at hv;subst hv;rfl
 have S:g<w.heap.size:=(AO.1 p).1;unfold PX at hp;split at hp
 .rename_i Q x' Kb;cases Kb;split at hp
  .rename_i h0;subst h0;cases hp;have I8:M= .slice none 0 0:=hs;subst I8;have hc:=Proofs.Any2.slices_Insert_int_end_grow Proofs.Tryz.Np none 0 0 g 0 1 f [] [.int .i64 x] w Ac (Ab _) Ac AM rfl rfl (λ_=>rfl) (λ_ e=>by cases e) hvs h1v;refine hc.mono λe w' he=>?_;obtain⟨rfl,rfl⟩:=he;have GS:=grownCap_ge w (0+1) 0 3;have K8:(([]++[Value.int .i64 x]).toArray++Builtin.zeroCells (Value.int .i64 0).cells (grownCap w (0+1) 0 3 -(0+1))).size=grownCap w (0+1) 0 3:=by simp only[Jt,size_zeroCells];show 1+(grownCap w 1 0 3 -1)*1=_;have:grownCap w (0+1) 0 3=grownCap w 1 0 3:=rfl;omega
   obtain⟨kG,Tn⟩:=NU (hi.LW hd).1 (.cells (([]++[Value.int .i64 x]).toArray++Builtin.zeroCells (Value.int .i64 0).cells (grownCap w (0+1) 0 3 -(0+1))) 3 (0,0)) (.cells [.int .i64 x]) (some _)
    (.inl ⟨_,_,_,_,rfl,rfl,.inl rfl,⟨_,[],Ax,rfl,rfl⟩,by simp[Value.oneCell'],rfl⟩)
   exact⟨_,kG,(hi.LW hd).2.trans Tn,⟨w.heap.size,grownCap w (0+1) 0 3,by simp[Gh.BO],rfl,GS,⟨CS 0,grownCap_le_maxLen _ _ _ _ AM⟩,by simp only[Gh.BO];rw[Ag (show w.heap.size=w.drew.heap.size from rfl),K8,GL];exact Cm some (BB _).symm⟩⟩
  .cases hp
 .rename_i id n Q x' Kb;cases Kb;split at hp
  .rename_i cs hcs;split at hp
   .rename_i HC;obtain⟨X,L,K,D⟩:=HC;cases hp;obtain⟨b,cap,hm,rfl,hnc,⟨_,xk⟩,K8⟩:=(show BH U _ _ from hs);obtain⟨us,e,fr,t,pf,H,P⟩:=hi.cells id cs hcs b hm;obtain⟨⟨Dq,W,zG,C,A⟩,_⟩:=hi.sz b _ K8;rw[t] at C;cases C;obtain⟨T,B,aG4⟩:=hi.Mj id _ hcs Ax;rw[hm] at B;cases B;have hne:g≠b:=λhe=>S4 id (by rw[he];exact aG4);have lG:cs.length<=us.size:=by have:=H.length;simp at this;omega
    have Pe:us.size=cap:=by rw[A];omega
    obtain⟨k,hk⟩:∃k:Nat,i=k:=⟨i.toNat,Ac⟩;subst hk;simp only[By] at*;generalize o:us.toList.take n=cv;have yd:cv.length=n:=by rw[<-o];simp;omega
    have hcells:∀(j:Nat) (v:Value),cv[j]?=some v->w.cell? ⟨b,0+j,none⟩=some v:=λj v hj=>by
     rw[cell_of_row w _ _ us e fr t,BB];rw[<-o,Cg] at hj;split at hj;.simpa using hj
     .cases hj
    have ye:∀v∈cv,v.oneCell'=true:=λv hv=>P v (by
     rw[<-o] at hv;have:us.toList.take n=(us.toList.take cs.length).take n:=by rw[F5,Cx K]
     rw[this] at hv;exact A0 hv)
    have hcr:AX U (cs.take n) cv:=by have:=H.take n;rw[F5,Cx K,o] at this;exact this
    have UP:AX U (cs.take k++[.int .i64 x]++(cs.take n).drop k) (cv.take k++[.int .i64 x]++cv.drop k):=by
     have J:cs.take k=(cs.take n).take k:=by rw[F5,Cx L]
     rw[J];exact((hcr.take k).append (show AX U [.int .i64 x] [Value.int .i64 x] from⟨_,[],rfl,rfl,rfl⟩)).append (hcr.drop k)
    have ä:∀v∈cv.take k++[Value.int .i64 x]++cv.drop k,v.oneCell'=true:=λv hv=>by
     simp only[AT,Aq,AQ] at hv;rcases hv with hv|rfl|hv
     .exact ye v (A0 hv)
     .rfl
     .exact ye v (Bu hv)
    have Iq:(cv.take k++[Value.int .i64 x]++cv.drop k).length=n+1:=Ek;have aG5:(cv.take k).length+[Value.int .i64 x].length+(cv.drop k).length=n+1:=by rw[<-Iq];simp only[Ao]
    have kD:(cs.take k++[Aa.int .i64 x]++(cs.take n).drop k).length=n+1:=by rw[<-Iq,UP.length]
    have hsp:∀j,j<n+1->n+1<=cap->(w.cell? ⟨b,0+j,none⟩).isSome=true:=λj hj hc=>by rw[cell_of_row w _ _ us e fr t,CH Ac];rfl
    have hfz:∀j,j<n+1->n+1<=cap->w.frozen? ⟨b,0+j,none⟩=false:=λj hj hc=>by
     simp only[World.frozen?,t];rcases pf with rfl|vW
     .simp
     .simp;omega
    have l:∀(w1:World),n+1<=cap->w1=(w.drew).setRow b (cv.take k++[Value.int .i64 x]++cv.drop k++us.toList.drop (n+1)).toArray\/w1=w.setRow b (cv.take k++[Value.int .i64 x]++cv.drop k++us.toList.drop (n+1)).toArray->
      ∃U',Hw U' (h.set id .Dw++[.cells (cs.take k++[.int .i64 x]++(cs.take n).drop k)]) w1/\LR U w U' w1/\BH U' (.CT h.length 0 (n+1) 1) (.slice (some ⟨b,0,none⟩) (n+1) cap):=by
     intro w1 hroom qS;have UM:(cv.take k++[Value.int .i64 x]++cv.drop k++us.toList.drop (n+1)).toArray.size=us.size:=by rw[BU,Ao,Iq,Bi,B5];omega
     have T6:(cv.take k++[Value.int .i64 x]++cv.drop k++us.toList.drop (n+1)).toArray.toList.take (cs.take k++[Aa.int .i64 x]++(cs.take n).drop k).length=cv.take k++[Value.int .i64 x]++cv.drop k:=by rw[kD,<-Iq];exact EE
     have go:∀wd:World,Hw U h wd->LR U w U wd->wd.heap[b]?=some (.cells us e fr)->∃U',Hw U' (h.set id .Dw++[.cells (cs.take k++[.int .i64 x]++(cs.take n).drop k)]) (wd.setRow b (cv.take k++[Value.int .i64 x]++cv.drop k++us.toList.drop (n+1)).toArray)/\LR U w U' (wd.setRow b (cv.take k++[Value.int .i64 x]++cv.drop k++us.toList.drop (n+1)).toArray)/\BH U' (.CT h.length 0 (n+1) 1) (.slice (some ⟨b,0,none⟩) (n+1) cap):=by
      intro wd Ik pY hp;obtain⟨G,Es,Ww,Lu,ĺ⟩:=Ik.rel.ke hcs hm hp (by rw[K8,A]) (cv.take k++[Value.int .i64 x]++cv.drop k++us.toList.drop (n+1)).toArray (cs.take k++[.int .i64 x]++(cs.take n).drop k) UM
       (by
        rcases pf with rfl|pf
        .exact .inl rfl
        .exact .inr (by rw[UM];exact pf)) (by rw[T6];exact UP) (by rw[T6];exact ä)
      exact⟨G,Lu.DL,pY.trans Lu.DE,b,cap,Ww,rfl,hroom,⟨CS 0,xk⟩,by rw[ĺ,A]⟩
     rcases qS with rfl|rfl
     .obtain⟨Ik,pY⟩:=hi.LW hd;exact go w.drew Ik pY t
     .exact go w hi (LR.refl _ _) t
    have u:∀(w1:World) (c:Nat) (d:List Value),n+1<=c->c<=maxLen->d.length=c-(n+1)->w1.heap=(w.heap.push (.cells (cv.take k++[Value.int .i64 x]++cv.drop k++d).toArray 3 (0,0)))->w1.os=w.os->w1.tape=w.tape->w1.output=w.output->
      ∃U',Hw U' (h.set id .Dw++[.cells (cs.take k++[.int .i64 x]++(cs.take n).drop k)]) w1/\LR U w U' w1/\BH U' (.CT h.length 0 (n+1) 1) (.slice (some ⟨w.heap.size,0,none⟩) (n+1) c):=by
     intro w1 c d hc hcl fy I ho ht F;have UM:(cv.take k++[Value.int .i64 x]++cv.drop k++d).toArray.size=c:=by simp only[BU,Ao,aG5,fy];omega
     have T6:(cv.take k++[Value.int .i64 x]++cv.drop k++d).toArray.toList.take (cs.take k++[Aa.int .i64 x]++(cs.take n).drop k).length=cv.take k++[Value.int .i64 x]++cv.drop k:=by rw[kD,<-Iq];exact EE
     obtain⟨G,Es,Ww,Lu,ĺ⟩:=(hi.rel.kill id).newObj (cv.take k++[Value.int .i64 x]++cv.drop k++d).toArray 3 (0,0) (cs.take k++[.int .i64 x]++(cs.take n).drop k) (.inl rfl) (by rw[T6];exact UP) (by rw[T6];exact ä);have hb:Below (w.alloc (.cells (cv.take k++[Value.int .i64 x]++cv.drop k++d).toArray 3 (0,0))).heap.size (w.alloc (.cells (cv.take k++[Value.int .i64 x]++cv.drop k++d).toArray 3 (0,0))) w1:=⟨ho,ht,F,by rw[I];exact Ab _,λk' _=>by rw[I];rfl⟩;obtain⟨Ļ,mg⟩:=Lu.DL.LW hb;have hlen:(h.set id .Dw).length=h.length:=Ax;rw[hlen] at Ww;exact⟨G,Ļ,Lu.DE.trans mg,w.heap.size,c,Ww,rfl,hc,⟨CS 0,hcl⟩,by rw[ĺ,UM];simp⟩
    by_cases hroom:n+1<=cap
    .by_cases z:k=n
     .subst z;have hc:=Proofs.Any2.slices_Insert_int_end_room Proofs.Tryz.Np b 0 k cap g 0 1 f [.int .i64 x] w Ac hroom xk rfl (λj hj=>by rw[(Ac:0+k+j=0+(k+j))];exact hsp _ Ac hroom) (λj hj=>by rw[(Ac:0+k+j=0+(k+j))];exact hfz _ Ac hroom) hvs h1v;refine hc.mono λe w' he=>?_;obtain⟨rfl,rfl⟩:=he;refine l _ hroom (.inr ?_);rw[Ex _ _ us w t Ek,BB,o];congr 2
      rw[AV (Ac:cv.length<=k),A8 Ac,Bs];rfl
     .have hlt:k<n:=by omega
      have hc:=Proofs.Any2.slices_Insert_int_shift Proofs.Tryz.Np b 0 n cap k g 0 1 f cv [.int .i64 x] w hlt Ac hroom xk hne yd rfl hcells (λj hj=>hsp j hj hroom) (λj hj=>hfz j hj hroom) hvs ye h1v
       e0 e fu.size us.size (by simp[World.shape?,p]) (by simp[World.shape?,t]) Ac (by rw[World.frozen?,p];rfl) (by rw[World.frozen?,p];rfl)
      refine hc.mono λe w' he=>?_;obtain⟨rfl,rfl⟩:=he;refine l _ hroom (.inl ?_);have y:w.drew.heap[b]?=some (.cells us _ fr):=t;rw[Ex (cv.drop k) (0+(k+1)) us w.drew y Ek,Ex [.int .i64 x] (0+k) _ _ (setRow_heap _ b us _ _ _ y) Ek,bQ _ _ _ _ us _ _ y];congr 2
      apply QW;intro j;have J:(us.toList.take (0+(k+1))++cv.drop k++us.toList.drop (0+(k+1)+(cv.drop k).length)).length=us.size:=Ek;have V:∀q,us.toList.take q=(us.toList.take n).take q++(us.toList.drop n).take (q-n):=λq=>by
       conv=>lhs;rw[<-Cw n us.toList]
       rw[vC];simp only[AB,B5];rw[Cx (Ac:n<=us.size)]
      simp only[BB];have pA:(us.toList.take (k+1)++cv.drop k++us.toList.drop (k+1+(cv.drop k).length)).take k=cv.take k:=by rw[AT,Dz Ek,F5,Cx (Fj k),V k,o,Nat.sub_eq_zero_of_le L,Ih,Bs]
      have WJ:(us.toList.take (k+1)++cv.drop k++us.toList.drop (k+1+(cv.drop k).length)).drop (k+1)=cv.drop k++us.toList.drop (n+1):=by
       have:(us.toList.take (k+1)).length=k+1:=Ek;rw[AT,La this];congr 2
       simp;omega
      simp only[AG,Bk,BB];rw[pA,WJ,AT,AT,AT]
    .by_cases z:k=n
     .subst z;have hc:=Proofs.Any2.slices_Insert_int_end_grow Proofs.Tryz.Np (some ⟨b,0,none⟩) k cap g 0 1 f cv [.int .i64 x] w Ac hnc Ac (by simpa[AJ] using D) yd rfl (λe=>by cases e) (λa ea j v hj=>by cases ea;have:=hcells j v hj;rw[BB] at this;rw[show(Addr.mk b 0 none).add j=⟨b,j,none⟩ by unfold Addr.add;split<;>simp_all];exact this) hvs h1v;refine hc.mono λe w' he=>?_;obtain⟨rfl,rfl⟩:=he;have GS:=grownCap_ge w (k+1) cap 3;refine u _ (grownCap w (k+1) cap 3) (Builtin.zeroCells (Value.int .i64 0).cells (grownCap w (k+1) cap 3 -(k+1))).toList GS (grownCap_le_maxLen _ _ _ _ (by simp only[AJ] at D;simp only[maxLen];omega)) (by rw[B5,size_zeroCells];exact GL _) ?_ rfl rfl rfl;rw[AV (Ac:cv.length<=k),A8 Ac,Bs];show w.heap.push _=w.heap.push _;congr 2
      apply Hi;simp;rfl
     .have hlt:k<n:=by omega
      have hc:=Proofs.Any2.slices_Insert_int_grow Proofs.Tryz.Np b 0 n cap k g 0 1 f cv [.int .i64 x] w hlt Ac hnc Ac (by simpa[AJ] using D) yd rfl hcells hvs ye h1v;refine hc.mono λe w' he=>?_;obtain⟨rfl,rfl⟩:=he;have GS:=grownCap_ge w (n+1) cap 3;have bC:∀m,(Builtin.zeroCells (Value.int .i64 0).cells m).size=m:=λm=>by rw[size_zeroCells];exact GL _
      refine u _ (grownCap w (n+1) cap 3) (Builtin.zeroCells (Value.int .i64 0).cells (grownCap w (n+1) cap 3 -(n+1))).toList GS (grownCap_le_maxLen _ _ _ _ (by simp only[AJ] at D;simp only[maxLen];omega)) (by rw[B5,bC]) ?_ ?_ ?_ ?_;all_goals
       obtain⟨C,A,O,N⟩:=mA w cv k n (.int .i64 x) (Builtin.zeroCells (Value.int .i64 0).cells (n+1 -k)) (Builtin.zeroCells (Value.int .i64 0).cells (grownCap w (n+1) cap 3 -(n+1))) 3 yd hlt (bC _);first|exact C|exact A|exact O|exact N
   .cases hp
  .cases hp
 .cases hp
end
end Go.Am
