/- Lemmas -/
import Derived.Test.YtdbnpiefklklhaaGreatDoorH11
import Derived.Test.YtdbnpiefklklhaaGreatDoorH9
import Derived.Test.YtdbnpiefklklhaaGreatDoorH12
set_option linter.all false
namespace Go.Am
open Go Go.RowKit
section
variable{U U':Gh}{h:Ai}{w w':World}
noncomputable def cx0:Fv:={cx with GC:=λ_=>none}
def Hj.rel(hi:Hj U h w):CX cx0 U w U (λ_=>0) [] h {tmps:=#[],defers:=[]} w:=
 ⟨hi,⟨rfl,λs=>trivial⟩,Lx.refl U w,rfl,λg cs hg=>by cases hg⟩
def aZ(w:World)(g:Nat)(a b:Array Value)(us:Array Value)(e:TypeId)(fr:Nat×Nat)(hg:w.heap[g]?=some (.cells us e fr)):(w.setRow g a).setRow g b=w.setRow g b:=by
 unfold World.setRow;congr 1
 apply PK;intro i;by_cases hi:i=g;.subst hi;simp[MF,hg]
 .simp[MF,Dx hi]
def gQ(w:World)(cv:List Value)(k n:Nat)(x:Value)(Z1 a:Array Value)(e:TypeId)(hl:cv.length=n)(hk:k<n)(hz:Z1.size=n+1 -k):
  let w1:=(((w.alloc (.cells ((cv.take k).toArray++Z1++a) e)).drew.setCells w.heap.size k [x]).drew).setCells w.heap.size (k+1) (cv.drop k)
  w1.heap=w.heap.push (.cells (cv.take k++[x]++cv.drop k++a.toList).toArray e (0,0))/\w1.os=w.os/\w1.tape=w.tape/\w1.output=w.output:=by
 intro w1;have b:(cv.take k).length=k:=Ei;have Mg:((cv.take k).toArray++Z1++a).size=n+1+a.size:=by simp only[Jo,BZ,b,hz];omega
 have m8:(w.alloc (.cells ((cv.take k).toArray++Z1++a) e)).drew.heap[w.heap.size]?=some (.cells ((cv.take k).toArray++Z1++a) e (0,0)):=heap_alloc_new w _;have d:=Ej [x] k _ _ m8 (by rw[Mg];simp;omega);have f:(((cv.take k).toArray++Z1++a).toList.take k++[x]++((cv.take k).toArray++Z1++a).toList.drop (k+[x].length))=cv.take k++[x]++(Z1.toList.drop 1++a.toList):=by
  simp only[GA,AS,AJ,Bt];congr 1
  .exact IX b
  .congr 1
   rw[<-Es,KY b,SV];have:1 -Z1.toList.length=0:=Ei;simp only[BJ] at*;rw[this,L8]
 rw[f] at d;have lf:((w.alloc (.cells ((cv.take k).toArray++Z1++a) e)).drew.setRow w.heap.size (cv.take k++[x]++(Z1.toList.drop 1++a.toList)).toArray).drew.heap[w.heap.size]?=some (.cells (cv.take k++[x]++(Z1.toList.drop 1++a.toList)).toArray e (0,0)):=setRow_heap _ _ _ _ _ _ m8;have fA:(Z1.toList.drop 1).length=n-k:=by simp[hz];omega
 have c:=Ej (cv.drop k) (k+1) _ _ lf (by simp[hz];omega);have hB:((cv.take k++[x]++(Z1.toList.drop 1++a.toList)).toArray.toList.take (k+1)++cv.drop k++(cv.take k++[x]++(Z1.toList.drop 1++a.toList)).toArray.toList.drop (k+1+(cv.drop k).length))=cv.take k++[x]++cv.drop k++a.toList:=by
  have h1:(cv.take k++[x]).length=k+1:=Ei;simp only[Kn];rw[IX h1,<-Es,KY h1];congr 1
  exact KY (by rw[fA];simp;omega)
 rw[hB] at c;have UU:w1=((w.alloc (.cells ((cv.take k).toArray++Z1++a) e)).drew.setRow w.heap.size (cv.take k++[x]++(Z1.toList.drop 1++a.toList)).toArray).drew.setRow w.heap.size (cv.take k++[x]++cv.drop k++a.toList).toArray:=by show((((w.alloc _).drew.setCells _ _ _).drew).setCells _ _ _)=_;rw[d,c]
 rw[UU];refine⟨?_,rfl,rfl,rfl⟩;apply PK;intro i;by_cases hi:i=w.heap.size;.subst hi;rw[setRow_heap _ _ _ _ _ _ lf];simp
 .rw[setRow_other _ _ _ _ hi];show((w.alloc _).drew.setRow _ _).heap[i]?=_;rw[setRow_other _ _ _ _ hi];show(w.heap.push _)[i]?=_;rw[YJ,YJ,Ad hi,Ad hi]
def aq:jy cx 181:=by
 refine⟨⟨_,_,Proofs.Tryz.func181,rfl,rfl⟩,?_⟩;intro U h w s K i x h' r g f fu e0 hi hs hp p D S5 P aPH;have hd:Below w.heap.size w w.drew:=(Below.refl _ _).drew;have hvs:∀(j:Nat) (v:Value),[Value.int .i64 x][j]?=some v->w.cell? ⟨g,0+j,none⟩=some v:=λj v hj=>by
  cases j with
  |zero=>cases hj;rw[cell_of_row w _ _ fu e0 (0,0) p];exact D
  |succ j=>simp at hj
 have h1v:∀v∈[Value.int .i64 x],v.oneCell'=true:=λv hv=>by simp at hv;subst hv;rfl
 have Q:g<w.heap.size:=(AL.1 p).1;unfold PQ at hp;split at hp
 .rename_i O x' JU;cases JU;split at hp
  .rename_i h0;subst h0;cases hp;have I5:K= .slice none 0 0:=hs;subst I5;have hc:=Proofs.Any2.slices_Insert_int_end_grow Proofs.Tryz.Nd none 0 0 g 0 1 f [] [.int .i64 x] w Ab (Ae _) Ab AM rfl rfl (λ_=>rfl) (λ_ e=>by cases e) hvs h1v;refine hc.mono λe w' he=>?_;obtain⟨rfl,rfl⟩:=he;have GX:=grownCap_ge w (0+1) 0 3;have KW:(([]++[Value.int .i64 x]).toArray++Builtin.zeroCells (Value.int .i64 0).cells (grownCap w (0+1) 0 3 -(0+1))).size=grownCap w (0+1) 0 3:=by simp only[Jo,size_zeroCells];show 1+(grownCap w 1 0 3 -1)*1=_;have:grownCap w (0+1) 0 3=grownCap w 1 0 3:=rfl;omega
   obtain⟨Uc,RV⟩:=Ny (hi.KG hd).1 (.cells (([]++[Value.int .i64 x]).toArray++Builtin.zeroCells (Value.int .i64 0).cells (grownCap w (0+1) 0 3 -(0+1))) 3 (0,0)) (.cells [.int .i64 x]) (some _)
    (.inl ⟨_,_,_,_,rfl,rfl,.inl rfl,⟨_,[],Ax,rfl,rfl⟩,by simp[Value.oneCell'],rfl⟩)
   exact⟨_,Uc,(hi.KG hd).2.trans RV,⟨w.heap.size,grownCap w (0+1) 0 3,by simp[Gh.BY],rfl,GX,⟨CU 0,grownCap_le_maxLen _ _ _ _ AM⟩,by simp only[Gh.BY];rw[Af (show w.heap.size=w.drew.heap.size from rfl),KW,FW];exact B2 some (BJ _).symm⟩⟩
  .cases hp
 .rename_i id n O x' JU;cases JU;split at hp
  .rename_i cs hcs;split at hp
   .rename_i Hz;obtain⟨V,J,I,C⟩:=Hz;cases hp;obtain⟨b,cap,hm,rfl,hnc,⟨_,yq⟩,KW⟩:=(show BF U _ _ from hs);obtain⟨us,e,fr,p1,pf,p2,N⟩:=hi.cells id cs hcs b hm;obtain⟨⟨Dk,T,zE,B,z⟩,_⟩:=hi.sz b _ KW;rw[p1] at B;cases B;obtain⟨R,A,aJy⟩:=hi.Md id _ hcs Ax;rw[hm] at A;cases A;have hne:g≠b:=λhe=>S5 id (by rw[he];exact aJy);have fw:cs.length<=us.size:=by have:=p2.length;simp at this;omega
    have OZ:us.size=cap:=by rw[z];omega
    obtain⟨k,hk⟩:∃k:Nat,i=k:=⟨i.toNat,Ab⟩;subst hk;simp only[BD] at*;generalize o:us.toList.take n=cv;have ze:cv.length=n:=by rw[<-o];simp;omega
    have hcells:∀(j:Nat) (v:Value),cv[j]?=some v->w.cell? ⟨b,0+j,none⟩=some v:=λj v hj=>by
     rw[cell_of_row w _ _ us e fr p1,BJ];rw[<-o,Cj] at hj;split at hj;.simpa using hj
     .cases hj
    have zf:∀v∈cv,v.oneCell'=true:=λv hv=>N v (by
     rw[<-o] at hv;have:us.toList.take n=(us.toList.take cs.length).take n:=by rw[FV,CE I]
     rw[this] at hv;exact A0 hv)
    have hcr:AW U (cs.take n) cv:=by have:=p2.take n;rw[FV,CE I,o] at this;exact this
    have UU:AW U (cs.take k++[.int .i64 x]++(cs.take n).drop k) (cv.take k++[.int .i64 x]++cv.drop k):=by
     have H:cs.take k=(cs.take n).take k:=by rw[FV,CE J]
     rw[H];exact((hcr.take k).append (show AW U [.int .i64 x] [Value.int .i64 x] from⟨_,[],rfl,rfl,rfl⟩)).append (hcr.drop k)
    have ĝ:∀v∈cv.take k++[Value.int .i64 x]++cv.drop k,v.oneCell'=true:=λv hv=>by
     simp only[AS,Ap,Bd] at hv;rcases hv with hv|rfl|hv
     .exact zf v (A0 hv)
     .rfl
     .exact zf v (Bu hv)
    have Io:(cv.take k++[Value.int .i64 x]++cv.drop k).length=n+1:=Ei;have aJz:(cv.take k).length+[Value.int .i64 x].length+(cv.drop k).length=n+1:=by rw[<-Io];simp only[Aq]
    have aM:(cs.take k++[Aa.int .i64 x]++(cs.take n).drop k).length=n+1:=by rw[<-Io,UU.length]
    have hsp:∀j,j<n+1->n+1<=cap->(w.cell? ⟨b,0+j,none⟩).isSome=true:=λj hj hc=>by rw[cell_of_row w _ _ us e fr p1,Ci Ab];rfl
    have hfz:∀j,j<n+1->n+1<=cap->w.frozen? ⟨b,0+j,none⟩=false:=λj hj hc=>by
     simp only[World.frozen?,p1];rcases pf with rfl|rL
     .simp
     .simp;omega
    have l:∀(w1:World),n+1<=cap->w1=(w.drew).setRow b (cv.take k++[Value.int .i64 x]++cv.drop k++us.toList.drop (n+1)).toArray\/w1=w.setRow b (cv.take k++[Value.int .i64 x]++cv.drop k++us.toList.drop (n+1)).toArray->
      ∃U',Hj U' (h.set id .DF++[.cells (cs.take k++[.int .i64 x]++(cs.take n).drop k)]) w1/\Lx U w U' w1/\BF U' (.C3 h.length 0 (n+1) 1) (.slice (some ⟨b,0,none⟩) (n+1) cap):=by
     intro w1 hroom m8;have UR:(cv.take k++[Value.int .i64 x]++cv.drop k++us.toList.drop (n+1)).toArray.size=us.size:=by rw[BZ,Aq,Io,Bg,B8];omega
     have Ub:(cv.take k++[Value.int .i64 x]++cv.drop k++us.toList.drop (n+1)).toArray.toList.take (cs.take k++[Aa.int .i64 x]++(cs.take n).drop k).length=cv.take k++[Value.int .i64 x]++cv.drop k:=by rw[aM,<-Io];exact E6
     have go:∀wd:World,Hj U h wd->Lx U w U wd->wd.heap[b]?=some (.cells us e fr)->∃U',Hj U' (h.set id .DF++[.cells (cs.take k++[.int .i64 x]++(cs.take n).drop k)]) (wd.setRow b (cv.take k++[Value.int .i64 x]++cv.drop k++us.toList.drop (n+1)).toArray)/\Lx U w U' (wd.setRow b (cv.take k++[Value.int .i64 x]++cv.drop k++us.toList.drop (n+1)).toArray)/\BF U' (.C3 h.length 0 (n+1) 1) (.slice (some ⟨b,0,none⟩) (n+1) cap):=by
      intro wd HV mJ hp;obtain⟨F,Ee,UQ,LP,Ų⟩:=HV.rel.kg hcs hm hp (by rw[KW,z]) (cv.take k++[Value.int .i64 x]++cv.drop k++us.toList.drop (n+1)).toArray (cs.take k++[.int .i64 x]++(cs.take n).drop k) UR
       (by
        rcases pf with rfl|pf
        .exact .inl rfl
        .exact .inr (by rw[UR];exact pf)) (by rw[Ub];exact UU) (by rw[Ub];exact ĝ)
      exact⟨F,LP.DG,mJ.trans LP.DA,b,cap,UQ,rfl,hroom,⟨CU 0,yq⟩,by rw[Ų,z]⟩
     rcases m8 with rfl|rfl
     .obtain⟨HV,mJ⟩:=hi.KG hd;exact go w.drew HV mJ p1
     .exact go w hi (Lx.refl _ _) p1
    have t:∀(w1:World) (c:Nat) (d:List Value),n+1<=c->c<=maxLen->d.length=c-(n+1)->w1.heap=(w.heap.push (.cells (cv.take k++[Value.int .i64 x]++cv.drop k++d).toArray 3 (0,0)))->w1.os=w.os->w1.tape=w.tape->w1.output=w.output->
      ∃U',Hj U' (h.set id .DF++[.cells (cs.take k++[.int .i64 x]++(cs.take n).drop k)]) w1/\Lx U w U' w1/\BF U' (.C3 h.length 0 (n+1) 1) (.slice (some ⟨w.heap.size,0,none⟩) (n+1) c):=by
     intro w1 c d hc hcl f_ G ho ht E;have UR:(cv.take k++[Value.int .i64 x]++cv.drop k++d).toArray.size=c:=by simp only[BZ,Aq,aJz,f_];omega
     have Ub:(cv.take k++[Value.int .i64 x]++cv.drop k++d).toArray.toList.take (cs.take k++[Aa.int .i64 x]++(cs.take n).drop k).length=cv.take k++[Value.int .i64 x]++cv.drop k:=by rw[aM,<-Io];exact E6
     obtain⟨F,Ee,UQ,LP,Ų⟩:=(hi.rel.kill id).newObj (cv.take k++[Value.int .i64 x]++cv.drop k++d).toArray 3 (0,0) (cs.take k++[.int .i64 x]++(cs.take n).drop k) (.inl rfl) (by rw[Ub];exact UU) (by rw[Ub];exact ĝ);have hb:Below (w.alloc (.cells (cv.take k++[Value.int .i64 x]++cv.drop k++d).toArray 3 (0,0))).heap.size (w.alloc (.cells (cv.take k++[Value.int .i64 x]++cv.drop k++d).toArray 3 (0,0))) w1:=⟨ho,ht,E,by rw[G];exact Ae _,λk' _=>by rw[G];rfl⟩;obtain⟨ų,mh⟩:=LP.DG.KG hb;have hlen:(h.set id .DF).length=h.length:=Ax;rw[hlen] at UQ;exact⟨F,ų,LP.DA.trans mh,w.heap.size,c,UQ,rfl,hc,⟨CU 0,hcl⟩,by rw[Ų,UR];simp⟩
    by_cases hroom:n+1<=cap
    .by_cases y:k=n
     .subst y;have hc:=Proofs.Any2.slices_Insert_int_end_room Proofs.Tryz.Nd b 0 k cap g 0 1 f [.int .i64 x] w Ab hroom yq rfl (λj hj=>by rw[(Ab:0+k+j=0+(k+j))];exact hsp _ Ab hroom) (λj hj=>by rw[(Ab:0+k+j=0+(k+j))];exact hfz _ Ab hroom) hvs h1v;refine hc.mono λe w' he=>?_;obtain⟨rfl,rfl⟩:=he;refine l _ hroom (.inr ?_);rw[Ej _ _ us w p1 Ei,BJ,o];congr 2
      rw[AT (Ab:cv.length<=k),A8 Ab,BB];rfl
     .have hlt:k<n:=by omega
      have hc:=Proofs.Any2.slices_Insert_int_shift Proofs.Tryz.Nd b 0 n cap k g 0 1 f cv [.int .i64 x] w hlt Ab hroom yq hne ze rfl hcells (λj hj=>hsp j hj hroom) (λj hj=>hfz j hj hroom) hvs zf h1v
       e0 e fu.size us.size (by simp[World.shape?,p]) (by simp[World.shape?,p1]) Ab (by rw[World.frozen?,p];rfl) (by rw[World.frozen?,p];rfl)
      refine hc.mono λe w' he=>?_;obtain⟨rfl,rfl⟩:=he;refine l _ hroom (.inl ?_);have u:w.drew.heap[b]?=some (.cells us _ fr):=p1;rw[Ej (cv.drop k) (0+(k+1)) us w.drew u Ei,Ej [.int .i64 x] (0+k) _ _ (setRow_heap _ b us _ _ _ u) Ei,aZ _ _ _ _ us _ _ u];congr 2
      apply L7;intro j;have H:(us.toList.take (0+(k+1))++cv.drop k++us.toList.drop (0+(k+1)+(cv.drop k).length)).length=us.size:=Ei;have S:∀q,us.toList.take q=(us.toList.take n).take q++(us.toList.drop n).take (q-n):=λq=>by
       conv=>lhs;rw[<-Cw n us.toList]
       rw[qR];simp only[AB,B8];rw[CE (Ab:n<=us.size)]
      simp only[BJ];have xb:(us.toList.take (k+1)++cv.drop k++us.toList.drop (k+1+(cv.drop k).length)).take k=cv.take k:=by rw[AS,Du Ei,FV,CE (Fh k),S k,o,Nat.sub_eq_zero_of_le J,PJ,BB]
      have X5:(us.toList.take (k+1)++cv.drop k++us.toList.drop (k+1+(cv.drop k).length)).drop (k+1)=cv.drop k++us.toList.drop (n+1):=by
       have:(us.toList.take (k+1)).length=k+1:=Ei;rw[AS,KY this];congr 2
       simp;omega
      simp only[AJ,Bt,BJ];rw[xb,X5,AS,AS,AS]
    .by_cases y:k=n
     .subst y;have hc:=Proofs.Any2.slices_Insert_int_end_grow Proofs.Tryz.Nd (some ⟨b,0,none⟩) k cap g 0 1 f cv [.int .i64 x] w Ab hnc Ab (by simpa[AO] using C) ze rfl (λe=>by cases e) (λa ea j v hj=>by cases ea;have:=hcells j v hj;rw[BJ] at this;rw[show(Addr.mk b 0 none).add j=⟨b,j,none⟩ by unfold Addr.add;split<;>simp_all];exact this) hvs h1v;refine hc.mono λe w' he=>?_;obtain⟨rfl,rfl⟩:=he;have GX:=grownCap_ge w (k+1) cap 3;refine t _ (grownCap w (k+1) cap 3) (Builtin.zeroCells (Value.int .i64 0).cells (grownCap w (k+1) cap 3 -(k+1))).toList GX (grownCap_le_maxLen _ _ _ _ (by simp only[AO] at C;simp only[maxLen];omega)) (by rw[B8,size_zeroCells];exact FW _) ?_ rfl rfl rfl;rw[AT (Ab:cv.length<=k),A8 Ab,BB];show w.heap.push _=w.heap.push _;congr 2
      apply Ge;simp;rfl
     .have hlt:k<n:=by omega
      have hc:=Proofs.Any2.slices_Insert_int_grow Proofs.Tryz.Nd b 0 n cap k g 0 1 f cv [.int .i64 x] w hlt Ab hnc Ab (by simpa[AO] using C) ze rfl hcells hvs zf h1v;refine hc.mono λe w' he=>?_;obtain⟨rfl,rfl⟩:=he;have GX:=grownCap_ge w (n+1) cap 3;have aL:∀m,(Builtin.zeroCells (Value.int .i64 0).cells m).size=m:=λm=>by rw[size_zeroCells];exact FW _
      refine t _ (grownCap w (n+1) cap 3) (Builtin.zeroCells (Value.int .i64 0).cells (grownCap w (n+1) cap 3 -(n+1))).toList GX (grownCap_le_maxLen _ _ _ _ (by simp only[AO] at C;simp only[maxLen];omega)) (by rw[B8,aL]) ?_ ?_ ?_ ?_;all_goals
       obtain⟨B,z,M,L⟩:=gQ w cv k n (.int .i64 x) (Builtin.zeroCells (Value.int .i64 0).cells (n+1 -k)) (Builtin.zeroCells (Value.int .i64 0).cells (grownCap w (n+1) cap 3 -(n+1))) 3 ze hlt (aL _);first|exact B|exact z|exact M|exact L
   .cases hp
  .cases hp
 .cases hp
end
end Go.Am
