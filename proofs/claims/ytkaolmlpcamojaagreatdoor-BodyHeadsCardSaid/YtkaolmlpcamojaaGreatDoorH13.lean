/- Lemmas -/
import Derived.Test.YtkaolmlpcamojaaGreatDoorH11
import Derived.Test.YtkaolmlpcamojaaGreatDoorH9
import Derived.Test.YtkaolmlpcamojaaGreatDoorH12
set_option linter.all false
namespace Go.Am
open Go Go.RowKit
section
variable{U U':Gh}{h:Ai}{w w':World}
noncomputable def cx0:Gb:={cx with Hk:=λ_=>none}
def Hv.rel(hi:Hv U h w):Df cx0 U w U (λ_=>0) [] h {tmps:=#[],defers:=[]} w:=
 ⟨hi,⟨rfl,λs=>trivial⟩,LI.refl U w,rfl,λg cs hg=>by cases hg⟩
def fD(w:World)(g:Nat)(a b:Array Value)(us:Array Value)(e:TypeId)(fr:Nat×Nat)(hg:w.heap[g]?=some (.cells us e fr)):(w.setRow g a).setRow g b=w.setRow g b:=by
 unfold World.setRow;congr 1
 apply Qz;intro i;by_cases hi:i=g;.subst hi;simp[Nx,hg]
 .simp[Nx,Dz hi]
def oV(w:World)(cv:List Value)(k n:Nat)(x:Value)(Z1 a:Array Value)(e:TypeId)(hl:cv.length=n)(hk:k<n)(hz:Z1.size=n+1 -k):
  let w1:=(((w.alloc (.cells ((cv.take k).toArray++Z1++a) e)).drew.setCells w.heap.size k [x]).drew).setCells w.heap.size (k+1) (cv.drop k)
  w1.heap=w.heap.push (.cells (cv.take k++[x]++cv.drop k++a.toList).toArray e (0,0))/\w1.os=w.os/\w1.tape=w.tape/\w1.output=w.output:=by
 intro w1;have b:(cv.take k).length=k:=Ei;have J9:((cv.take k).toArray++Z1++a).size=n+1+a.size:=by simp only[Kl,B9,b,hz];omega
 have uF:(w.alloc (.cells ((cv.take k).toArray++Z1++a) e)).drew.heap[w.heap.size]?=some (.cells ((cv.take k).toArray++Z1++a) e (0,0)):=heap_alloc_new w _;have d:=ES [x] k _ _ uF (by rw[J9];simp;omega);have f:(((cv.take k).toArray++Z1++a).toList.take k++[x]++((cv.take k).toArray++Z1++a).toList.drop (k+[x].length))=cv.take k++[x]++(Z1.toList.drop 1++a.toList):=by
  simp only[Hg,AI,Bd,BR];congr 1
  .exact H8 b
  .congr 1
   rw[<-Em,JL b,TR];have:1 -Z1.toList.length=0:=Ei;simp only[BW] at*;rw[this,MZ]
 rw[f] at d;have vd:((w.alloc (.cells ((cv.take k).toArray++Z1++a) e)).drew.setRow w.heap.size (cv.take k++[x]++(Z1.toList.drop 1++a.toList)).toArray).drew.heap[w.heap.size]?=some (.cells (cv.take k++[x]++(Z1.toList.drop 1++a.toList)).toArray e (0,0)):=setRow_heap _ _ _ _ _ _ uF;have WM:(Z1.toList.drop 1).length=n-k:=by simp[hz];omega
 have c:=ES (cv.drop k) (k+1) _ _ vd (by simp[hz];omega);have hB:((cv.take k++[x]++(Z1.toList.drop 1++a.toList)).toArray.toList.take (k+1)++cv.drop k++(cv.take k++[x]++(Z1.toList.drop 1++a.toList)).toArray.toList.drop (k+1+(cv.drop k).length))=cv.take k++[x]++cv.drop k++a.toList:=by
  have h1:(cv.take k++[x]).length=k+1:=Ei;simp only[Lm];rw[H8 h1,<-Em,JL h1];congr 1
  exact JL (by rw[WM];simp;omega)
 rw[hB] at c;have Wa:w1=((w.alloc (.cells ((cv.take k).toArray++Z1++a) e)).drew.setRow w.heap.size (cv.take k++[x]++(Z1.toList.drop 1++a.toList)).toArray).drew.setRow w.heap.size (cv.take k++[x]++cv.drop k++a.toList).toArray:=by show((((w.alloc _).drew.setCells _ _ _).drew).setCells _ _ _)=_;rw[d,c]
 rw[Wa];refine⟨?_,rfl,rfl,rfl⟩;apply Qz;intro i;by_cases hi:i=w.heap.size;.subst hi;rw[setRow_heap _ _ _ _ _ _ vd];simp
 .rw[setRow_other _ _ _ _ hi];show((w.alloc _).drew.setRow _ _).heap[i]?=_;rw[setRow_other _ _ _ _ hi];show(w.heap.push _)[i]?=_;rw[aU,aU,Ad hi,Ad hi]
def lg:uh cx 239:=by
 refine⟨⟨_,_,Proofs.Tryz.func239,rfl,rfl⟩,?_⟩;intro U h w s L i x h' r g f qj e0 hi hs hp p Ob TX Q aRE;have hd:Below w.heap.size w w.drew:=(Below.refl _ _).drew;have hvs:∀(j:Nat) (v:Value),[Value.int .i64 x][j]?=some v->w.cell? ⟨g,0+j,none⟩=some v:=λj v hj=>by
  cases j with
  |zero=>cases hj;rw[cell_of_row w _ _ qj e0 (0,0) p];exact Ob
  |succ j=>simp at hj
 have h1v:∀v∈[Value.int .i64 x],v.oneCell'=true:=λv hv=>by simp at hv;subst hv;rfl
 have R:g<w.heap.size:=(A8.1 p).1;unfold QC at hp;split at hp
 .rename_i P x' KR;cases KR;split at hp
  .rename_i h0;subst h0;cases hp;have JV:L= .slice none 0 0:=hs;subst JV;have hc:=Proofs.Any2.slices_Insert_int_end_grow Proofs.Tryz.Oa none 0 0 g 0 1 f [] [.int .i64 x] w Ac (Ag _) Ac AP rfl rfl (λ_=>rfl) (λ_ e=>by cases e) hvs h1v;refine hc.mono λe w' he=>?_;obtain⟨rfl,rfl⟩:=he;have Eh:=grownCap_ge w (0+1) 0 3;have Ls:(([]++[Value.int .i64 x]).toArray++Builtin.zeroCells (Value.int .i64 0).cells (grownCap w (0+1) 0 3 -(0+1))).size=grownCap w (0+1) 0 3:=by simp only[Kl,size_zeroCells];show 1+(grownCap w 1 0 3 -1)*1=_;have:grownCap w (0+1) 0 3=grownCap w 1 0 3:=rfl;omega
   obtain⟨WG,Pz⟩:=GX (hi.LM hd).1 (.cells (([]++[Value.int .i64 x]).toArray++Builtin.zeroCells (Value.int .i64 0).cells (grownCap w (0+1) 0 3 -(0+1))) 3 (0,0)) (.cells [.int .i64 x]) (some _)
    (.inl ⟨_,_,_,_,rfl,rfl,.inl rfl,⟨_,[],AH,rfl,rfl⟩,by simp[Value.oneCell'],rfl⟩)
   exact⟨_,WG,(hi.LM hd).2.trans Pz,⟨w.heap.size,grownCap w (0+1) 0 3,by simp[Gh.B2],rfl,Eh,⟨Dc 0,grownCap_le_maxLen _ _ _ _ AP⟩,by simp only[Gh.B2];rw[Af (show w.heap.size=w.drew.heap.size from rfl),Ls,FI];exact Cc some (BW _).symm⟩⟩
  .cases hp
 .rename_i id n P x' KR;cases KR;split at hp
  .rename_i cs hcs;split at hp
   .rename_i Ic;obtain⟨W,K,J,D⟩:=Ic;cases hp;obtain⟨b,cap,hm,rfl,hnc,⟨_,Ă⟩,Ls⟩:=(show BQ U _ _ from hs);obtain⟨us,e,fr,t,pf,G,O⟩:=hi.cells id cs hcs b hm;obtain⟨⟨DQ,V,ji,C,A⟩,_⟩:=hi.sz b _ Ls;rw[t] at C;cases C;obtain⟨S,B,aL9⟩:=hi.MC id _ hcs AH;rw[hm] at B;cases B;have hne:g≠b:=λhe=>TX id (by rw[he];exact aL9);have nC:cs.length<=us.size:=by have:=G.length;simp at this;omega
    have P1:us.size=cap:=by rw[A];omega
    obtain⟨k,hk⟩:∃k:Nat,i=k:=⟨i.toNat,Ac⟩;subst hk;simp only[AX] at*;generalize o:us.toList.take n=cv;have ď:cv.length=n:=by rw[<-o];simp;omega
    have hcells:∀(j:Nat) (v:Value),cv[j]?=some v->w.cell? ⟨b,0+j,none⟩=some v:=λj v hj=>by
     rw[cell_of_row w _ _ us e fr t,BW];rw[<-o,Ci] at hj;split at hj;.simpa using hj
     .cases hj
    have Đ:∀v∈cv,v.oneCell'=true:=λv hv=>O v (by
     rw[<-o] at hv;have:us.toList.take n=(us.toList.take cs.length).take n:=by rw[FC,Cq J]
     rw[this] at hv;exact Bp hv)
    have hcr:Bl U (cs.take n) cv:=by have:=G.take n;rw[FC,Cq J,o] at this;exact this
    have Wa:Bl U (cs.take k++[.int .i64 x]++(cs.take n).drop k) (cv.take k++[.int .i64 x]++cv.drop k):=by
     have I:cs.take k=(cs.take n).take k:=by rw[FC,Cq K]
     rw[I];exact((hcr.take k).append (show Bl U [.int .i64 x] [Value.int .i64 x] from⟨_,[],rfl,rfl,rfl⟩)).append (hcr.drop k)
    have aBF:∀v∈cv.take k++[Value.int .i64 x]++cv.drop k,v.oneCell'=true:=λv hv=>by
     simp only[AI,Ay,BP] at hv;rcases hv with hv|rfl|hv
     .exact Đ v (Bp hv)
     .rfl
     .exact Đ v (BD hv)
    have Hu:(cv.take k++[Value.int .i64 x]++cv.drop k).length=n+1:=Ei;have aMa:(cv.take k).length+[Value.int .i64 x].length+(cv.drop k).length=n+1:=by rw[<-Hu];simp only[Au]
    have WC:(cs.take k++[Aa.int .i64 x]++(cs.take n).drop k).length=n+1:=by rw[<-Hu,Wa.length]
    have hsp:∀j,j<n+1->n+1<=cap->(w.cell? ⟨b,0+j,none⟩).isSome=true:=λj hj hc=>by rw[cell_of_row w _ _ us e fr t,CV Ac];rfl
    have hfz:∀j,j<n+1->n+1<=cap->w.frozen? ⟨b,0+j,none⟩=false:=λj hj hc=>by
     simp only[World.frozen?,t];rcases pf with rfl|zA
     .simp
     .simp;omega
    have l:∀(w1:World),n+1<=cap->w1=(w.drew).setRow b (cv.take k++[Value.int .i64 x]++cv.drop k++us.toList.drop (n+1)).toArray\/w1=w.setRow b (cv.take k++[Value.int .i64 x]++cv.drop k++us.toList.drop (n+1)).toArray->
      ∃U',Hv U' (h.set id .CR++[.cells (cs.take k++[.int .i64 x]++(cs.take n).drop k)]) w1/\LI U w U' w1/\BQ U' (.CE h.length 0 (n+1) 1) (.slice (some ⟨b,0,none⟩) (n+1) cap):=by
     intro w1 hroom uF;have S3:(cv.take k++[Value.int .i64 x]++cv.drop k++us.toList.drop (n+1)).toArray.size=us.size:=by rw[B9,Au,Hu,Be,Cg];omega
     have Ve:(cv.take k++[Value.int .i64 x]++cv.drop k++us.toList.drop (n+1)).toArray.toList.take (cs.take k++[Aa.int .i64 x]++(cs.take n).drop k).length=cv.take k++[Value.int .i64 x]++cv.drop k:=by rw[WC,<-Hu];exact FD
     have go:∀wd:World,Hv U h wd->LI U w U wd->wd.heap[b]?=some (.cells us e fr)->∃U',Hv U' (h.set id .CR++[.cells (cs.take k++[.int .i64 x]++(cs.take n).drop k)]) (wd.setRow b (cv.take k++[Value.int .i64 x]++cv.drop k++us.toList.drop (n+1)).toArray)/\LI U w U' (wd.setRow b (cv.take k++[Value.int .i64 x]++cv.drop k++us.toList.drop (n+1)).toArray)/\BQ U' (.CE h.length 0 (n+1) 1) (.slice (some ⟨b,0,none⟩) (n+1) cap):=by
      intro wd Im tJ hp;obtain⟨F,Er,V5,Mh,aDe⟩:=Im.rel.tV hcs hm hp (by rw[Ls,A]) (cv.take k++[Value.int .i64 x]++cv.drop k++us.toList.drop (n+1)).toArray (cs.take k++[.int .i64 x]++(cs.take n).drop k) S3
       (by
        rcases pf with rfl|pf
        .exact .inl rfl
        .exact .inr (by rw[S3];exact pf)) (by rw[Ve];exact Wa) (by rw[Ve];exact aBF)
      exact⟨F,Mh.D5,tJ.trans Mh.DZ,b,cap,V5,rfl,hroom,⟨Dc 0,Ă⟩,by rw[aDe,A]⟩
     rcases uF with rfl|rfl
     .obtain⟨Im,tJ⟩:=hi.LM hd;exact go w.drew Im tJ t
     .exact go w hi (LI.refl _ _) t
    have u:∀(w1:World) (c:Nat) (d:List Value),n+1<=c->c<=maxLen->d.length=c-(n+1)->w1.heap=(w.heap.push (.cells (cv.take k++[Value.int .i64 x]++cv.drop k++d).toArray 3 (0,0)))->w1.os=w.os->w1.tape=w.tape->w1.output=w.output->
      ∃U',Hv U' (h.set id .CR++[.cells (cs.take k++[.int .i64 x]++(cs.take n).drop k)]) w1/\LI U w U' w1/\BQ U' (.CE h.length 0 (n+1) 1) (.slice (some ⟨w.heap.size,0,none⟩) (n+1) c):=by
     intro w1 c d hc hcl sN H ho ht E;have S3:(cv.take k++[Value.int .i64 x]++cv.drop k++d).toArray.size=c:=by simp only[B9,Au,aMa,sN];omega
     have Ve:(cv.take k++[Value.int .i64 x]++cv.drop k++d).toArray.toList.take (cs.take k++[Aa.int .i64 x]++(cs.take n).drop k).length=cv.take k++[Value.int .i64 x]++cv.drop k:=by rw[WC,<-Hu];exact FD
     obtain⟨F,Er,V5,Mh,aDe⟩:=(hi.rel.kill id).newObj (cv.take k++[Value.int .i64 x]++cv.drop k++d).toArray 3 (0,0) (cs.take k++[.int .i64 x]++(cs.take n).drop k) (.inl rfl) (by rw[Ve];exact Wa) (by rw[Ve];exact aBF);have hb:Below (w.alloc (.cells (cv.take k++[Value.int .i64 x]++cv.drop k++d).toArray 3 (0,0))).heap.size (w.alloc (.cells (cv.take k++[Value.int .i64 x]++cv.drop k++d).toArray 3 (0,0))) w1:=⟨ho,ht,E,by rw[H];exact Ag _,λk' _=>by rw[H];rfl⟩;obtain⟨đ,uK⟩:=Mh.D5.LM hb;have hlen:(h.set id .CR).length=h.length:=AH;rw[hlen] at V5;exact⟨F,đ,Mh.DZ.trans uK,w.heap.size,c,V5,rfl,hc,⟨Dc 0,hcl⟩,by rw[aDe,S3];simp⟩
    by_cases hroom:n+1<=cap
    .by_cases z:k=n
     .subst z;have hc:=Proofs.Any2.slices_Insert_int_end_room Proofs.Tryz.Oa b 0 k cap g 0 1 f [.int .i64 x] w Ac hroom Ă rfl (λj hj=>by rw[(Ac:0+k+j=0+(k+j))];exact hsp _ Ac hroom) (λj hj=>by rw[(Ac:0+k+j=0+(k+j))];exact hfz _ Ac hroom) hvs h1v;refine hc.mono λe w' he=>?_;obtain⟨rfl,rfl⟩:=he;refine l _ hroom (.inr ?_);rw[ES _ _ us w t Ei,BW,o];congr 2
      rw[AZ (Ac:cv.length<=k),AF Ac,By];rfl
     .have hlt:k<n:=by omega
      have hc:=Proofs.Any2.slices_Insert_int_shift Proofs.Tryz.Oa b 0 n cap k g 0 1 f cv [.int .i64 x] w hlt Ac hroom Ă hne ď rfl hcells (λj hj=>hsp j hj hroom) (λj hj=>hfz j hj hroom) hvs Đ h1v
       e0 e qj.size us.size (by simp[World.shape?,p]) (by simp[World.shape?,t]) Ac (by rw[World.frozen?,p];rfl) (by rw[World.frozen?,p];rfl)
      refine hc.mono λe w' he=>?_;obtain⟨rfl,rfl⟩:=he;refine l _ hroom (.inl ?_);have y:w.drew.heap[b]?=some (.cells us _ fr):=t;rw[ES (cv.drop k) (0+(k+1)) us w.drew y Ei,ES [.int .i64 x] (0+k) _ _ (setRow_heap _ b us _ _ _ y) Ei,fD _ _ _ _ us _ _ y];congr 2
      apply RH;intro j;have I:(us.toList.take (0+(k+1))++cv.drop k++us.toList.drop (0+(k+1)+(cv.drop k).length)).length=us.size:=Ei;have T:∀q,us.toList.take q=(us.toList.take n).take q++(us.toList.drop n).take (q-n):=λq=>by
       conv=>lhs;rw[<-CH n us.toList]
       rw[yG];simp only[Ax,Cg];rw[Cq (Ac:n<=us.size)]
      simp only[BW];have ZU:(us.toList.take (k+1)++cv.drop k++us.toList.drop (k+1+(cv.drop k).length)).take k=cv.take k:=by rw[AI,CM Ei,FC,Cq (Fl k),T k,o,Nat.sub_eq_zero_of_le K,KN,By]
      have ZN:(us.toList.take (k+1)++cv.drop k++us.toList.drop (k+1+(cv.drop k).length)).drop (k+1)=cv.drop k++us.toList.drop (n+1):=by
       have:(us.toList.take (k+1)).length=k+1:=Ei;rw[AI,JL this];congr 2
       simp;omega
      simp only[Bd,BR,BW];rw[ZU,ZN,AI,AI,AI]
    .by_cases z:k=n
     .subst z;have hc:=Proofs.Any2.slices_Insert_int_end_grow Proofs.Tryz.Oa (some ⟨b,0,none⟩) k cap g 0 1 f cv [.int .i64 x] w Ac hnc Ac (by simpa[AW] using D) ď rfl (λe=>by cases e) (λa ea j v hj=>by cases ea;have:=hcells j v hj;rw[BW] at this;rw[show(Addr.mk b 0 none).add j=⟨b,j,none⟩ by unfold Addr.add;split<;>simp_all];exact this) hvs h1v;refine hc.mono λe w' he=>?_;obtain⟨rfl,rfl⟩:=he;have Eh:=grownCap_ge w (k+1) cap 3;refine u _ (grownCap w (k+1) cap 3) (Builtin.zeroCells (Value.int .i64 0).cells (grownCap w (k+1) cap 3 -(k+1))).toList Eh (grownCap_le_maxLen _ _ _ _ (by simp only[AW] at D;simp only[maxLen];omega)) (by rw[Cg,size_zeroCells];exact FI _) ?_ rfl rfl rfl;rw[AZ (Ac:cv.length<=k),AF Ac,By];show w.heap.push _=w.heap.push _;congr 2
      apply HM;simp;rfl
     .have hlt:k<n:=by omega
      have hc:=Proofs.Any2.slices_Insert_int_grow Proofs.Tryz.Oa b 0 n cap k g 0 1 f cv [.int .i64 x] w hlt Ac hnc Ac (by simpa[AW] using D) ď rfl hcells hvs Đ h1v;refine hc.mono λe w' he=>?_;obtain⟨rfl,rfl⟩:=he;have Eh:=grownCap_ge w (n+1) cap 3;have eQ:∀m,(Builtin.zeroCells (Value.int .i64 0).cells m).size=m:=λm=>by rw[size_zeroCells];exact FI _
      refine u _ (grownCap w (n+1) cap 3) (Builtin.zeroCells (Value.int .i64 0).cells (grownCap w (n+1) cap 3 -(n+1))).toList Eh (grownCap_le_maxLen _ _ _ _ (by simp only[AW] at D;simp only[maxLen];omega)) (by rw[Cg,eQ]) ?_ ?_ ?_ ?_;all_goals
       obtain⟨C,A,N,M⟩:=oV w cv k n (.int .i64 x) (Builtin.zeroCells (Value.int .i64 0).cells (n+1 -k)) (Builtin.zeroCells (Value.int .i64 0).cells (grownCap w (n+1) cap 3 -(n+1))) 3 ď hlt (eQ _);first|exact C|exact A|exact N|exact M
   .cases hp
  .cases hp
 .cases hp
end
end Go.Am
