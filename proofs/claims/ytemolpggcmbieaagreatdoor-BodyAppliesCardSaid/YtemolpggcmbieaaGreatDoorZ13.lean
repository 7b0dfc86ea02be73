/- Lemmas -/
import Derived.Test.YtemolpggcmbieaaGreatDoorZ11
import Derived.Test.YtemolpggcmbieaaGreatDoorZ9
import Derived.Test.YtemolpggcmbieaaGreatDoorZ12
set_option linter.all false
namespace Go.Am
open Go Go.RowKit
section
variable{U U':Gh}{h:Ah}{w w':World}
noncomputable def cx0:FB:={cx with Gy:=λ_=>none}
def Hi.rel(hi:Hi U h w):CX cx0 U w U (λ_=>0) [] h {tmps:=#[],defers:=[]} w:=
 ⟨hi,⟨rfl,λs=>trivial⟩,LB.refl U w,rfl,λg cs hg=>by cases hg⟩
def aY(w:World)(g:Nat)(a b:Array Value)(us:Array Value)(e:TypeId)(fr:Nat×Nat)(hg:w.heap[g]?=some (.cells us e fr)):(w.setRow g a).setRow g b=w.setRow g b:=by
 unfold World.setRow;congr 1
 apply PK;intro i;by_cases hi:i=g;.subst hi;simp[ME,hg]
 .simp[ME,Dr hi]
def gT(w:World)(cv:List Value)(k n:Nat)(x:Value)(Z1 a:Array Value)(e:TypeId)(hl:cv.length=n)(hk:k<n)(hz:Z1.size=n+1 -k):
  let w1:=(((w.alloc (.cells ((cv.take k).toArray++Z1++a) e)).drew.setCells w.heap.size k [x]).drew).setCells w.heap.size (k+1) (cv.drop k)
  w1.heap=w.heap.push (.cells (cv.take k++[x]++cv.drop k++a.toList).toArray e (0,0))/\w1.os=w.os/\w1.tape=w.tape/\w1.output=w.output:=by
 intro w1;have b:(cv.take k).length=k:=Ed;have Mh:((cv.take k).toArray++Z1++a).size=n+1+a.size:=by simp only[Jw,B3,b,hz];omega
 have mU:(w.alloc (.cells ((cv.take k).toArray++Z1++a) e)).drew.heap[w.heap.size]?=some (.cells ((cv.take k).toArray++Z1++a) e (0,0)):=heap_alloc_new w _;have d:=Eo [x] k _ _ mU (by rw[Mh];simp;omega);have f:(((cv.take k).toArray++Z1++a).toList.take k++[x]++((cv.take k).toArray++Z1++a).toList.drop (k+[x].length))=cv.take k++[x]++(Z1.toList.drop 1++a.toList):=by
  simp only[Gw,AQ,AJ,Br];congr 1
  .exact I3 b
  .congr 1
   rw[<-Ez,La b,SN];have:1 -Z1.toList.length=0:=Ed;simp only[BC] at*;rw[this,J2]
 rw[f] at d;have kz:((w.alloc (.cells ((cv.take k).toArray++Z1++a) e)).drew.setRow w.heap.size (cv.take k++[x]++(Z1.toList.drop 1++a.toList)).toArray).drew.heap[w.heap.size]?=some (.cells (cv.take k++[x]++(Z1.toList.drop 1++a.toList)).toArray e (0,0)):=setRow_heap _ _ _ _ _ _ mU;have fD:(Z1.toList.drop 1).length=n-k:=by simp[hz];omega
 have c:=Eo (cv.drop k) (k+1) _ _ kz (by simp[hz];omega);have hB:((cv.take k++[x]++(Z1.toList.drop 1++a.toList)).toArray.toList.take (k+1)++cv.drop k++(cv.take k++[x]++(Z1.toList.drop 1++a.toList)).toArray.toList.drop (k+1+(cv.drop k).length))=cv.take k++[x]++cv.drop k++a.toList:=by
  have h1:(cv.take k++[x]).length=k+1:=Ed;simp only[Ky];rw[I3 h1,<-Ez,La h1];congr 1
  exact La (by rw[fD];simp;omega)
 rw[hB] at c;have UU:w1=((w.alloc (.cells ((cv.take k).toArray++Z1++a) e)).drew.setRow w.heap.size (cv.take k++[x]++(Z1.toList.drop 1++a.toList)).toArray).drew.setRow w.heap.size (cv.take k++[x]++cv.drop k++a.toList).toArray:=by show((((w.alloc _).drew.setCells _ _ _).drew).setCells _ _ _)=_;rw[d,c]
 rw[UU];refine⟨?_,rfl,rfl,rfl⟩;apply PK;intro i;by_cases hi:i=w.heap.size;.subst hi;rw[setRow_heap _ _ _ _ _ _ kz];simp
 .rw[setRow_other _ _ _ _ hi];show((w.alloc _).drew.setRow _ _).heap[i]?=_;rw[setRow_other _ _ _ _ hi];show(w.heap.push _)[i]?=_;rw[YN,YN,Ag hi,Ag hi]
def aw:jx cx 146:=by
 refine⟨⟨_,_,Proofs.Tryz.func146,rfl,rfl⟩,?_⟩;intro U h w s K i x h' r g f fq e0 hi hs hp p D SY P aPC;have hd:Below w.heap.size w w.drew:=(Below.refl _ _).drew;have hvs:∀(j:Nat) (v:Value),[Value.int .i64 x][j]?=some v->w.cell? ⟨g,0+j,none⟩=some v:=λj v hj=>by
  cases j with
  |zero=>cases hj;rw[cell_of_row w _ _ fq e0 (0,0) p];exact D
  |succ j=>simp at hj
 have h1v:∀v∈[Value.int .i64 x],v.oneCell'=true:=λv hv=>by simp at hv;subst hv;rfl
 have Q:g<w.heap.size:=(AN.1 p).1;unfold PS at hp;split at hp
 .rename_i O x' J7;cases J7;split at hp
  .rename_i h0;subst h0;cases hp;have Jb:K= .slice none 0 0:=hs;subst Jb;have hc:=Proofs.Any2.slices_Insert_int_end_grow Proofs.Tryz.Nd none 0 0 g 0 1 f [] [.int .i64 x] w Ac (Ab _) Ac AI rfl rfl (λ_=>rfl) (λ_ e=>by cases e) hvs h1v;refine hc.mono λe w' he=>?_;obtain⟨rfl,rfl⟩:=he;have Hh:=grownCap_ge w (0+1) 0 3;have K8:(([]++[Value.int .i64 x]).toArray++Builtin.zeroCells (Value.int .i64 0).cells (grownCap w (0+1) 0 3 -(0+1))).size=grownCap w (0+1) 0 3:=by simp only[Jw,size_zeroCells];show 1+(grownCap w 1 0 3 -1)*1=_;have:grownCap w (0+1) 0 3=grownCap w 1 0 3:=rfl;omega
   obtain⟨T9,RT⟩:=NH (hi.KU hd).1 (.cells (([]++[Value.int .i64 x]).toArray++Builtin.zeroCells (Value.int .i64 0).cells (grownCap w (0+1) 0 3 -(0+1))) 3 (0,0)) (.cells [.int .i64 x]) (some _)
    (.inl ⟨_,_,_,_,rfl,rfl,.inl rfl,⟨_,[],Ax,rfl,rfl⟩,by simp[Value.oneCell'],rfl⟩)
   exact⟨_,T9,(hi.KU hd).2.trans RT,⟨w.heap.size,grownCap w (0+1) 0 3,by simp[Gh.B0],rfl,Hh,⟨CT 0,grownCap_le_maxLen _ _ _ _ AI⟩,by simp only[Gh.B0];rw[Af (show w.heap.size=w.drew.heap.size from rfl),K8,F7];exact B5 some (BC _).symm⟩⟩
  .cases hp
 .rename_i id n O x' J7;cases J7;split at hp
  .rename_i cs hcs;split at hp
   .rename_i Hw;obtain⟨V,J,I,C⟩:=Hw;cases hp;obtain⟨b,cap,hm,rfl,hnc,⟨_,yn⟩,K8⟩:=(show BI U _ _ from hs);obtain⟨us,e,fr,p1,pf,p2,N⟩:=hi.cells id cs hcs b hm;obtain⟨⟨Dq,T,zE,B,z⟩,_⟩:=hi.sz b _ K8;rw[p1] at B;cases B;obtain⟨R,A,aJF⟩:=hi.Me id _ hcs Ax;rw[hm] at A;cases A;have hne:g≠b:=λhe=>SY id (by rw[he];exact aJF);have fu:cs.length<=us.size:=by have:=p2.length;simp at this;omega
    have O4:us.size=cap:=by rw[z];omega
    obtain⟨k,hk⟩:∃k:Nat,i=k:=⟨i.toNat,Ac⟩;subst hk;simp only[BH] at*;generalize o:us.toList.take n=cv;have ze:cv.length=n:=by rw[<-o];simp;omega
    have hcells:∀(j:Nat) (v:Value),cv[j]?=some v->w.cell? ⟨b,0+j,none⟩=some v:=λj v hj=>by
     rw[cell_of_row w _ _ us e fr p1,BC];rw[<-o,Cn] at hj;split at hj;.simpa using hj
     .cases hj
    have zf:∀v∈cv,v.oneCell'=true:=λv hv=>N v (by
     rw[<-o] at hv;have:us.toList.take n=(us.toList.take cs.length).take n:=by rw[F6,CG I]
     rw[this] at hv;exact A4 hv)
    have hcr:AV U (cs.take n) cv:=by have:=p2.take n;rw[F6,CG I,o] at this;exact this
    have UU:AV U (cs.take k++[.int .i64 x]++(cs.take n).drop k) (cv.take k++[.int .i64 x]++cv.drop k):=by
     have H:cs.take k=(cs.take n).take k:=by rw[F6,CG J]
     rw[H];exact((hcr.take k).append (show AV U [.int .i64 x] [Value.int .i64 x] from⟨_,[],rfl,rfl,rfl⟩)).append (hcr.drop k)
    have Ġ:∀v∈cv.take k++[Value.int .i64 x]++cv.drop k,v.oneCell'=true:=λv hv=>by
     simp only[AQ,Aq,AU] at hv;rcases hv with hv|rfl|hv
     .exact zf v (A4 hv)
     .rfl
     .exact zf v (Bu hv)
    have Im:(cv.take k++[Value.int .i64 x]++cv.drop k).length=n+1:=Ed;have aJG:(cv.take k).length+[Value.int .i64 x].length+(cv.drop k).length=n+1:=by rw[<-Im];simp only[Ap]
    have aJ:(cs.take k++[Aa.int .i64 x]++(cs.take n).drop k).length=n+1:=by rw[<-Im,UU.length]
    have hsp:∀j,j<n+1->n+1<=cap->(w.cell? ⟨b,0+j,none⟩).isSome=true:=λj hj hc=>by rw[cell_of_row w _ _ us e fr p1,Cm Ac];rfl
    have hfz:∀j,j<n+1->n+1<=cap->w.frozen? ⟨b,0+j,none⟩=false:=λj hj hc=>by
     simp only[World.frozen?,p1];rcases pf with rfl|rF
     .simp
     .simp;omega
    have l:∀(w1:World),n+1<=cap->w1=(w.drew).setRow b (cv.take k++[Value.int .i64 x]++cv.drop k++us.toList.drop (n+1)).toArray\/w1=w.setRow b (cv.take k++[Value.int .i64 x]++cv.drop k++us.toList.drop (n+1)).toArray->
      ∃U',Hi U' (h.set id .Ds++[.cells (cs.take k++[.int .i64 x]++(cs.take n).drop k)]) w1/\LB U w U' w1/\BI U' (.CW h.length 0 (n+1) 1) (.slice (some ⟨b,0,none⟩) (n+1) cap):=by
     intro w1 hroom mU;have UR:(cv.take k++[Value.int .i64 x]++cv.drop k++us.toList.drop (n+1)).toArray.size=us.size:=by rw[B3,Ap,Im,Bj,Cb];omega
     have T8:(cv.take k++[Value.int .i64 x]++cv.drop k++us.toList.drop (n+1)).toArray.toList.take (cs.take k++[Aa.int .i64 x]++(cs.take n).drop k).length=cv.take k++[Value.int .i64 x]++cv.drop k:=by rw[aJ,<-Im];exact Fa
     have go:∀wd:World,Hi U h wd->LB U w U wd->wd.heap[b]?=some (.cells us e fr)->∃U',Hi U' (h.set id .Ds++[.cells (cs.take k++[.int .i64 x]++(cs.take n).drop k)]) (wd.setRow b (cv.take k++[Value.int .i64 x]++cv.drop k++us.toList.drop (n+1)).toArray)/\LB U w U' (wd.setRow b (cv.take k++[Value.int .i64 x]++cv.drop k++us.toList.drop (n+1)).toArray)/\BI U' (.CW h.length 0 (n+1) 1) (.slice (some ⟨b,0,none⟩) (n+1) cap):=by
      intro wd HX mA hp;obtain⟨F,Ek,UQ,LQ,ų⟩:=HX.rel.kb hcs hm hp (by rw[K8,z]) (cv.take k++[Value.int .i64 x]++cv.drop k++us.toList.drop (n+1)).toArray (cs.take k++[.int .i64 x]++(cs.take n).drop k) UR
       (by
        rcases pf with rfl|pf
        .exact .inl rfl
        .exact .inr (by rw[UR];exact pf)) (by rw[T8];exact UU) (by rw[T8];exact Ġ)
      exact⟨F,LQ.DI,mA.trans LQ.DD,b,cap,UQ,rfl,hroom,⟨CT 0,yn⟩,by rw[ų,z]⟩
     rcases mU with rfl|rfl
     .obtain⟨HX,mA⟩:=hi.KU hd;exact go w.drew HX mA p1
     .exact go w hi (LB.refl _ _) p1
    have t:∀(w1:World) (c:Nat) (d:List Value),n+1<=c->c<=maxLen->d.length=c-(n+1)->w1.heap=(w.heap.push (.cells (cv.take k++[Value.int .i64 x]++cv.drop k++d).toArray 3 (0,0)))->w1.os=w.os->w1.tape=w.tape->w1.output=w.output->
      ∃U',Hi U' (h.set id .Ds++[.cells (cs.take k++[.int .i64 x]++(cs.take n).drop k)]) w1/\LB U w U' w1/\BI U' (.CW h.length 0 (n+1) 1) (.slice (some ⟨w.heap.size,0,none⟩) (n+1) c):=by
     intro w1 c d hc hcl fy G ho ht E;have UR:(cv.take k++[Value.int .i64 x]++cv.drop k++d).toArray.size=c:=by simp only[B3,Ap,aJG,fy];omega
     have T8:(cv.take k++[Value.int .i64 x]++cv.drop k++d).toArray.toList.take (cs.take k++[Aa.int .i64 x]++(cs.take n).drop k).length=cv.take k++[Value.int .i64 x]++cv.drop k:=by rw[aJ,<-Im];exact Fa
     obtain⟨F,Ek,UQ,LQ,ų⟩:=(hi.rel.kill id).newObj (cv.take k++[Value.int .i64 x]++cv.drop k++d).toArray 3 (0,0) (cs.take k++[.int .i64 x]++(cs.take n).drop k) (.inl rfl) (by rw[T8];exact UU) (by rw[T8];exact Ġ);have hb:Below (w.alloc (.cells (cv.take k++[Value.int .i64 x]++cv.drop k++d).toArray 3 (0,0))).heap.size (w.alloc (.cells (cv.take k++[Value.int .i64 x]++cv.drop k++d).toArray 3 (0,0))) w1:=⟨ho,ht,E,by rw[G];exact Ab _,λk' _=>by rw[G];rfl⟩;obtain⟨Ŵ,mf⟩:=LQ.DI.KU hb;have hlen:(h.set id .Ds).length=h.length:=Ax;rw[hlen] at UQ;exact⟨F,Ŵ,LQ.DD.trans mf,w.heap.size,c,UQ,rfl,hc,⟨CT 0,hcl⟩,by rw[ų,UR];simp⟩
    by_cases hroom:n+1<=cap
    .by_cases y:k=n
     .subst y;have hc:=Proofs.Any2.slices_Insert_int_end_room Proofs.Tryz.Nd b 0 k cap g 0 1 f [.int .i64 x] w Ac hroom yn rfl (λj hj=>by rw[(Ac:0+k+j=0+(k+j))];exact hsp _ Ac hroom) (λj hj=>by rw[(Ac:0+k+j=0+(k+j))];exact hfz _ Ac hroom) hvs h1v;refine hc.mono λe w' he=>?_;obtain⟨rfl,rfl⟩:=he;refine l _ hroom (.inr ?_);rw[Eo _ _ us w p1 Ed,BC,o];congr 2
      rw[AT (Ac:cv.length<=k),Be Ac,Bq];rfl
     .have hlt:k<n:=by omega
      have hc:=Proofs.Any2.slices_Insert_int_shift Proofs.Tryz.Nd b 0 n cap k g 0 1 f cv [.int .i64 x] w hlt Ac hroom yn hne ze rfl hcells (λj hj=>hsp j hj hroom) (λj hj=>hfz j hj hroom) hvs zf h1v
       e0 e fq.size us.size (by simp[World.shape?,p]) (by simp[World.shape?,p1]) Ac (by rw[World.frozen?,p];rfl) (by rw[World.frozen?,p];rfl)
      refine hc.mono λe w' he=>?_;obtain⟨rfl,rfl⟩:=he;refine l _ hroom (.inl ?_);have u:w.drew.heap[b]?=some (.cells us _ fr):=p1;rw[Eo (cv.drop k) (0+(k+1)) us w.drew u Ed,Eo [.int .i64 x] (0+k) _ _ (setRow_heap _ b us _ _ _ u) Ed,aY _ _ _ _ us _ _ u];congr 2
      apply L7;intro j;have H:(us.toList.take (0+(k+1))++cv.drop k++us.toList.drop (0+(k+1)+(cv.drop k).length)).length=us.size:=Ed;have S:∀q,us.toList.take q=(us.toList.take n).take q++(us.toList.drop n).take (q-n):=λq=>by
       conv=>lhs;rw[<-Cx n us.toList]
       rw[qL];simp only[AB,Cb];rw[CG (Ac:n<=us.size)]
      simp only[BC];have xb:(us.toList.take (k+1)++cv.drop k++us.toList.drop (k+1+(cv.drop k).length)).take k=cv.take k:=by rw[AQ,Dz Ed,F6,CG (Fm k),S k,o,Nat.sub_eq_zero_of_le J,Ma,Bq]
      have Ya:(us.toList.take (k+1)++cv.drop k++us.toList.drop (k+1+(cv.drop k).length)).drop (k+1)=cv.drop k++us.toList.drop (n+1):=by
       have:(us.toList.take (k+1)).length=k+1:=Ed;rw[AQ,La this];congr 2
       simp;omega
      simp only[AJ,Br,BC];rw[xb,Ya,AQ,AQ,AQ]
    .by_cases y:k=n
     .subst y;have hc:=Proofs.Any2.slices_Insert_int_end_grow Proofs.Tryz.Nd (some ⟨b,0,none⟩) k cap g 0 1 f cv [.int .i64 x] w Ac hnc Ac (by simpa[AK] using C) ze rfl (λe=>by cases e) (λa ea j v hj=>by cases ea;have:=hcells j v hj;rw[BC] at this;rw[show(Addr.mk b 0 none).add j=⟨b,j,none⟩ by unfold Addr.add;split<;>simp_all];exact this) hvs h1v;refine hc.mono λe w' he=>?_;obtain⟨rfl,rfl⟩:=he;have Hh:=grownCap_ge w (k+1) cap 3;refine t _ (grownCap w (k+1) cap 3) (Builtin.zeroCells (Value.int .i64 0).cells (grownCap w (k+1) cap 3 -(k+1))).toList Hh (grownCap_le_maxLen _ _ _ _ (by simp only[AK] at C;simp only[maxLen];omega)) (by rw[Cb,size_zeroCells];exact F7 _) ?_ rfl rfl rfl;rw[AT (Ac:cv.length<=k),Be Ac,Bq];show w.heap.push _=w.heap.push _;congr 2
      apply Gf;simp;rfl
     .have hlt:k<n:=by omega
      have hc:=Proofs.Any2.slices_Insert_int_grow Proofs.Tryz.Nd b 0 n cap k g 0 1 f cv [.int .i64 x] w hlt Ac hnc Ac (by simpa[AK] using C) ze rfl hcells hvs zf h1v;refine hc.mono λe w' he=>?_;obtain⟨rfl,rfl⟩:=he;have Hh:=grownCap_ge w (n+1) cap 3;have aI:∀m,(Builtin.zeroCells (Value.int .i64 0).cells m).size=m:=λm=>by rw[size_zeroCells];exact F7 _
      refine t _ (grownCap w (n+1) cap 3) (Builtin.zeroCells (Value.int .i64 0).cells (grownCap w (n+1) cap 3 -(n+1))).toList Hh (grownCap_le_maxLen _ _ _ _ (by simp only[AK] at C;simp only[maxLen];omega)) (by rw[Cb,aI]) ?_ ?_ ?_ ?_;all_goals
       obtain⟨B,z,M,L⟩:=gT w cv k n (.int .i64 x) (Builtin.zeroCells (Value.int .i64 0).cells (n+1 -k)) (Builtin.zeroCells (Value.int .i64 0).cells (grownCap w (n+1) cap 3 -(n+1))) 3 ze hlt (aI _);first|exact B|exact z|exact M|exact L
   .cases hp
  .cases hp
 .cases hp
end
end Go.Am
