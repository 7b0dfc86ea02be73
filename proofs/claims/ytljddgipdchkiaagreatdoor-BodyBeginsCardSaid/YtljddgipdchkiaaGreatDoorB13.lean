/- Lemmas -/
import Derived.Test.YtljddgipdchkiaaGreatDoorB11
import Derived.Test.YtljddgipdchkiaaGreatDoorB9
import Derived.Test.YtljddgipdchkiaaGreatDoorB12
set_option linter.all false
namespace Go.Am
open Go Go.RowKit
section
variable{U U':Gh}{h:Ah}{w w':World}
noncomputable def cx0:FW:={cx with GZ:=λ_=>none}
def Hk.rel(hi:Hk U h w):C9 cx0 U w U (λ_=>0) [] h {tmps:=#[],defers:=[]} w:=
 ⟨hi,⟨rfl,λs=>trivial⟩,Ld.refl U w,rfl,λg cs hg=>by cases hg⟩
def cK(w:World)(g:Nat)(a b:Array Value)(us:Array Value)(e:TypeId)(fr:Nat×Nat)(hg:w.heap[g]?=some (.cells us e fr)):(w.setRow g a).setRow g b=w.setRow g b:=by
 unfold World.setRow;congr 1
 apply P0;intro i;by_cases hi:i=g;.subst hi;simp[M4,hg]
 .simp[M4,DG hi]
def lR(w:World)(cv:List Value)(k n:Nat)(x:Value)(Z1 a:Array Value)(e:TypeId)(hl:cv.length=n)(hk:k<n)(hz:Z1.size=n+1 -k):
  let w1:=(((w.alloc (.cells ((cv.take k).toArray++Z1++a) e)).drew.setCells w.heap.size k [x]).drew).setCells w.heap.size (k+1) (cv.drop k)
  w1.heap=w.heap.push (.cells (cv.take k++[x]++cv.drop k++a.toList).toArray e (0,0))/\w1.os=w.os/\w1.tape=w.tape/\w1.output=w.output:=by
 intro w1;have b:(cv.take k).length=k:=Ee;have JW:((cv.take k).toArray++Z1++a).size=n+1+a.size:=by simp only[J5,B7,b,hz];omega
 have qP:(w.alloc (.cells ((cv.take k).toArray++Z1++a) e)).drew.heap[w.heap.size]?=some (.cells ((cv.take k).toArray++Z1++a) e (0,0)):=heap_alloc_new w _;have d:=EL [x] k _ _ qP (by rw[JW];simp;omega);have f:(((cv.take k).toArray++Z1++a).toList.take k++[x]++((cv.take k).toArray++Z1++a).toList.drop (k+[x].length))=cv.take k++[x]++(Z1.toList.drop 1++a.toList):=by
  simp only[GV,AI,A9,BP];congr 1
  .exact HO b
  .congr 1
   rw[<-Eg,JA b,S4];have:1 -Z1.toList.length=0:=Ee;simp only[BU] at*;rw[this,Mx]
 rw[f] at d;have np:((w.alloc (.cells ((cv.take k).toArray++Z1++a) e)).drew.setRow w.heap.size (cv.take k++[x]++(Z1.toList.drop 1++a.toList)).toArray).drew.heap[w.heap.size]?=some (.cells (cv.take k++[x]++(Z1.toList.drop 1++a.toList)).toArray e (0,0)):=setRow_heap _ _ _ _ _ _ qP;have VG:(Z1.toList.drop 1).length=n-k:=by simp[hz];omega
 have c:=EL (cv.drop k) (k+1) _ _ np (by simp[hz];omega);have hB:((cv.take k++[x]++(Z1.toList.drop 1++a.toList)).toArray.toList.take (k+1)++cv.drop k++(cv.take k++[x]++(Z1.toList.drop 1++a.toList)).toArray.toList.drop (k+1+(cv.drop k).length))=cv.take k++[x]++cv.drop k++a.toList:=by
  have h1:(cv.take k++[x]).length=k+1:=Ee;simp only[KQ];rw[HO h1,<-Eg,JA h1];congr 1
  exact JA (by rw[VG];simp;omega)
 rw[hB] at c;have U5:w1=((w.alloc (.cells ((cv.take k).toArray++Z1++a) e)).drew.setRow w.heap.size (cv.take k++[x]++(Z1.toList.drop 1++a.toList)).toArray).drew.setRow w.heap.size (cv.take k++[x]++cv.drop k++a.toList).toArray:=by show((((w.alloc _).drew.setCells _ _ _).drew).setCells _ _ _)=_;rw[d,c]
 rw[U5];refine⟨?_,rfl,rfl,rfl⟩;apply P0;intro i;by_cases hi:i=w.heap.size;.subst hi;rw[setRow_heap _ _ _ _ _ _ np];simp
 .rw[setRow_other _ _ _ _ hi];show((w.alloc _).drew.setRow _ _).heap[i]?=_;rw[setRow_other _ _ _ _ hi];show(w.heap.push _)[i]?=_;rw[Zx,Zx,Ac hi,Ac hi]
def dg:mn cx 239:=by
 refine⟨⟨_,_,Proofs.Tryz.func239,rfl,rfl⟩,?_⟩;intro U h w s L i x h' r g f jg e0 hi hs hp p NA Ta Q aO9;have hd:Below w.heap.size w w.drew:=(Below.refl _ _).drew;have hvs:∀(j:Nat) (v:Value),[Value.int .i64 x][j]?=some v->w.cell? ⟨g,0+j,none⟩=some v:=λj v hj=>by
  cases j with
  |zero=>cases hj;rw[cell_of_row w _ _ jg e0 (0,0) p];exact NA
  |succ j=>simp at hj
 have h1v:∀v∈[Value.int .i64 x],v.oneCell'=true:=λv hv=>by simp at hv;subst hv;rfl
 have R:g<w.heap.size:=(A5.1 p).1;unfold P4 at hp;split at hp
 .rename_i P x' Ku;cases Ku;split at hp
  .rename_i h0;subst h0;cases hp;have JK:L= .slice none 0 0:=hs;subst JK;have hc:=Proofs.Any2.slices_Insert_int_end_grow Proofs.Tryz.Nz none 0 0 g 0 1 f [] [.int .i64 x] w Ab (Ag _) Ab AX rfl rfl (λ_=>rfl) (λ_ e=>by cases e) hvs h1v;refine hc.mono λe w' he=>?_;obtain⟨rfl,rfl⟩:=he;have D6:=grownCap_ge w (0+1) 0 3;have KW:(([]++[Value.int .i64 x]).toArray++Builtin.zeroCells (Value.int .i64 0).cells (grownCap w (0+1) 0 3 -(0+1))).size=grownCap w (0+1) 0 3:=by simp only[J5,size_zeroCells];show 1+(grownCap w 1 0 3 -1)*1=_;have:grownCap w (0+1) 0 3=grownCap w 1 0 3:=rfl;omega
   obtain⟨VA,OV⟩:=GM (hi.Li hd).1 (.cells (([]++[Value.int .i64 x]).toArray++Builtin.zeroCells (Value.int .i64 0).cells (grownCap w (0+1) 0 3 -(0+1))) 3 (0,0)) (.cells [.int .i64 x]) (some _)
    (.inl ⟨_,_,_,_,rfl,rfl,.inl rfl,⟨_,[],AH,rfl,rfl⟩,by simp[Value.oneCell'],rfl⟩)
   exact⟨_,VA,(hi.Li hd).2.trans OV,⟨w.heap.size,grownCap w (0+1) 0 3,by simp[Gh.B0],rfl,D6,⟨C4 0,grownCap_le_maxLen _ _ _ _ AX⟩,by simp only[Gh.B0];rw[Ae (show w.heap.size=w.drew.heap.size from rfl),KW,FE];exact Cb some (BU _).symm⟩⟩
  .cases hp
 .rename_i id n P x' Ku;cases Ku;split at hp
  .rename_i cs hcs;split at hp
   .rename_i HS;obtain⟨W,K,J,D⟩:=HS;cases hp;obtain⟨b,cap,hm,rfl,hnc,⟨_,yj⟩,KW⟩:=(show BO U _ _ from hs);obtain⟨us,e,fr,t,pf,G,O⟩:=hi.cells id cs hcs b hm;obtain⟨⟨DK,V,bg,C,A⟩,_⟩:=hi.sz b _ KW;rw[t] at C;cases C;obtain⟨S,B,aJy⟩:=hi.Md id _ hcs AH;rw[hm] at B;cases B;have hne:g≠b:=λhe=>Ta id (by rw[he];exact aJy);have j8:cs.length<=us.size:=by have:=G.length;simp at this;omega
    have Pl:us.size=cap:=by rw[A];omega
    obtain⟨k,hk⟩:∃k:Nat,i=k:=⟨i.toNat,Ab⟩;subst hk;simp only[AV] at*;generalize o:us.toList.take n=cv;have yx:cv.length=n:=by rw[<-o];simp;omega
    have hcells:∀(j:Nat) (v:Value),cv[j]?=some v->w.cell? ⟨b,0+j,none⟩=some v:=λj v hj=>by
     rw[cell_of_row w _ _ us e fr t,BU];rw[<-o,Ch] at hj;split at hj;.simpa using hj
     .cases hj
    have yy:∀v∈cv,v.oneCell'=true:=λv hv=>O v (by
     rw[<-o] at hv;have:us.toList.take n=(us.toList.take cs.length).take n:=by rw[FA,Cp J]
     rw[this] at hv;exact Bm hv)
    have hcr:Bg U (cs.take n) cv:=by have:=G.take n;rw[FA,Cp J,o] at this;exact this
    have U5:Bg U (cs.take k++[.int .i64 x]++(cs.take n).drop k) (cv.take k++[.int .i64 x]++cv.drop k):=by
     have I:cs.take k=(cs.take n).take k:=by rw[FA,Cp K]
     rw[I];exact((hcr.take k).append (show Bg U [.int .i64 x] [Value.int .i64 x] from⟨_,[],rfl,rfl,rfl⟩)).append (hcr.drop k)
    have Ŕ:∀v∈cv.take k++[Value.int .i64 x]++cv.drop k,v.oneCell'=true:=λv hv=>by
     simp only[AI,Ax,DB] at hv;rcases hv with hv|rfl|hv
     .exact yy v (Bm hv)
     .rfl
     .exact yy v (BB hv)
    have Ho:(cv.take k++[Value.int .i64 x]++cv.drop k).length=n+1:=Ee;have aJz:(cv.take k).length+[Value.int .i64 x].length+(cv.drop k).length=n+1:=by rw[<-Ho];simp only[Aw]
    have Vx:(cs.take k++[Aa.int .i64 x]++(cs.take n).drop k).length=n+1:=by rw[<-Ho,U5.length]
    have hsp:∀j,j<n+1->n+1<=cap->(w.cell? ⟨b,0+j,none⟩).isSome=true:=λj hj hc=>by rw[cell_of_row w _ _ us e fr t,CR Ab];rfl
    have hfz:∀j,j<n+1->n+1<=cap->w.frozen? ⟨b,0+j,none⟩=false:=λj hj hc=>by
     simp only[World.frozen?,t];rcases pf with rfl|vI
     .simp
     .simp;omega
    have l:∀(w1:World),n+1<=cap->w1=(w.drew).setRow b (cv.take k++[Value.int .i64 x]++cv.drop k++us.toList.drop (n+1)).toArray\/w1=w.setRow b (cv.take k++[Value.int .i64 x]++cv.drop k++us.toList.drop (n+1)).toArray->
      ∃U',Hk U' (h.set id .CO++[.cells (cs.take k++[.int .i64 x]++(cs.take n).drop k)]) w1/\Ld U w U' w1/\BO U' (.CE h.length 0 (n+1) 1) (.slice (some ⟨b,0,none⟩) (n+1) cap):=by
     intro w1 hroom qP;have Sd:(cv.take k++[Value.int .i64 x]++cv.drop k++us.toList.drop (n+1)).toArray.size=us.size:=by rw[B7,Aw,Ho,Bb,Cg];omega
     have Ue:(cv.take k++[Value.int .i64 x]++cv.drop k++us.toList.drop (n+1)).toArray.toList.take (cs.take k++[Aa.int .i64 x]++(cs.take n).drop k).length=cv.take k++[Value.int .i64 x]++cv.drop k:=by rw[Vx,<-Ho];exact FB
     have go:∀wd:World,Hk U h wd->Ld U w U wd->wd.heap[b]?=some (.cells us e fr)->∃U',Hk U' (h.set id .CO++[.cells (cs.take k++[.int .i64 x]++(cs.take n).drop k)]) (wd.setRow b (cv.take k++[Value.int .i64 x]++cv.drop k++us.toList.drop (n+1)).toArray)/\Ld U w U' (wd.setRow b (cv.take k++[Value.int .i64 x]++cv.drop k++us.toList.drop (n+1)).toArray)/\BO U' (.CE h.length 0 (n+1) 1) (.slice (some ⟨b,0,none⟩) (n+1) cap):=by
      intro wd Ij pU hp;obtain⟨F,Ej,UX,LQ,aA7⟩:=Ij.rel.qG hcs hm hp (by rw[KW,A]) (cv.take k++[Value.int .i64 x]++cv.drop k++us.toList.drop (n+1)).toArray (cs.take k++[.int .i64 x]++(cs.take n).drop k) Sd
       (by
        rcases pf with rfl|pf
        .exact .inl rfl
        .exact .inr (by rw[Sd];exact pf)) (by rw[Ue];exact U5) (by rw[Ue];exact Ŕ)
      exact⟨F,LQ.D3,pU.trans LQ.DW,b,cap,UX,rfl,hroom,⟨C4 0,yj⟩,by rw[aA7,A]⟩
     rcases qP with rfl|rfl
     .obtain⟨Ij,pU⟩:=hi.Li hd;exact go w.drew Ij pU t
     .exact go w hi (Ld.refl _ _) t
    have u:∀(w1:World) (c:Nat) (d:List Value),n+1<=c->c<=maxLen->d.length=c-(n+1)->w1.heap=(w.heap.push (.cells (cv.take k++[Value.int .i64 x]++cv.drop k++d).toArray 3 (0,0)))->w1.os=w.os->w1.tape=w.tape->w1.output=w.output->
      ∃U',Hk U' (h.set id .CO++[.cells (cs.take k++[.int .i64 x]++(cs.take n).drop k)]) w1/\Ld U w U' w1/\BO U' (.CE h.length 0 (n+1) 1) (.slice (some ⟨w.heap.size,0,none⟩) (n+1) c):=by
     intro w1 c d hc hcl o9 H ho ht E;have Sd:(cv.take k++[Value.int .i64 x]++cv.drop k++d).toArray.size=c:=by simp only[B7,Aw,aJz,o9];omega
     have Ue:(cv.take k++[Value.int .i64 x]++cv.drop k++d).toArray.toList.take (cs.take k++[Aa.int .i64 x]++(cs.take n).drop k).length=cv.take k++[Value.int .i64 x]++cv.drop k:=by rw[Vx,<-Ho];exact FB
     obtain⟨F,Ej,UX,LQ,aA7⟩:=(hi.rel.kill id).newObj (cv.take k++[Value.int .i64 x]++cv.drop k++d).toArray 3 (0,0) (cs.take k++[.int .i64 x]++(cs.take n).drop k) (.inl rfl) (by rw[Ue];exact U5) (by rw[Ue];exact Ŕ);have hb:Below (w.alloc (.cells (cv.take k++[Value.int .i64 x]++cv.drop k++d).toArray 3 (0,0))).heap.size (w.alloc (.cells (cv.take k++[Value.int .i64 x]++cv.drop k++d).toArray 3 (0,0))) w1:=⟨ho,ht,E,by rw[H];exact Ag _,λk' _=>by rw[H];rfl⟩;obtain⟨yz,qV⟩:=LQ.D3.Li hb;have hlen:(h.set id .CO).length=h.length:=AH;rw[hlen] at UX;exact⟨F,yz,LQ.DW.trans qV,w.heap.size,c,UX,rfl,hc,⟨C4 0,hcl⟩,by rw[aA7,Sd];simp⟩
    by_cases hroom:n+1<=cap
    .by_cases z:k=n
     .subst z;have hc:=Proofs.Any2.slices_Insert_int_end_room Proofs.Tryz.Nz b 0 k cap g 0 1 f [.int .i64 x] w Ab hroom yj rfl (λj hj=>by rw[(Ab:0+k+j=0+(k+j))];exact hsp _ Ab hroom) (λj hj=>by rw[(Ab:0+k+j=0+(k+j))];exact hfz _ Ab hroom) hvs h1v;refine hc.mono λe w' he=>?_;obtain⟨rfl,rfl⟩:=he;refine l _ hroom (.inr ?_);rw[EL _ _ us w t Ee,BU,o];congr 2
      rw[AO (Ab:cv.length<=k),AG Ab,BE];rfl
     .have hlt:k<n:=by omega
      have hc:=Proofs.Any2.slices_Insert_int_shift Proofs.Tryz.Nz b 0 n cap k g 0 1 f cv [.int .i64 x] w hlt Ab hroom yj hne yx rfl hcells (λj hj=>hsp j hj hroom) (λj hj=>hfz j hj hroom) hvs yy h1v
       e0 e jg.size us.size (by simp[World.shape?,p]) (by simp[World.shape?,t]) Ab (by rw[World.frozen?,p];rfl) (by rw[World.frozen?,p];rfl)
      refine hc.mono λe w' he=>?_;obtain⟨rfl,rfl⟩:=he;refine l _ hroom (.inl ?_);have y:w.drew.heap[b]?=some (.cells us _ fr):=t;rw[EL (cv.drop k) (0+(k+1)) us w.drew y Ee,EL [.int .i64 x] (0+k) _ _ (setRow_heap _ b us _ _ _ y) Ee,cK _ _ _ _ us _ _ y];congr 2
      apply Q3;intro j;have I:(us.toList.take (0+(k+1))++cv.drop k++us.toList.drop (0+(k+1)+(cv.drop k).length)).length=us.size:=Ee;have T:∀q,us.toList.take q=(us.toList.take n).take q++(us.toList.drop n).take (q-n):=λq=>by
       conv=>lhs;rw[<-CF n us.toList]
       rw[uP];simp only[As,Cg];rw[Cp (Ab:n<=us.size)]
      simp only[BU];have YW:(us.toList.take (k+1)++cv.drop k++us.toList.drop (k+1+(cv.drop k).length)).take k=cv.take k:=by rw[AI,CI Ee,FA,Cp (Fi k),T k,o,Nat.sub_eq_zero_of_le K,Kq,BE]
      have YP:(us.toList.take (k+1)++cv.drop k++us.toList.drop (k+1+(cv.drop k).length)).drop (k+1)=cv.drop k++us.toList.drop (n+1):=by
       have:(us.toList.take (k+1)).length=k+1:=Ee;rw[AI,JA this];congr 2
       simp;omega
      simp only[A9,BP,BU];rw[YW,YP,AI,AI,AI]
    .by_cases z:k=n
     .subst z;have hc:=Proofs.Any2.slices_Insert_int_end_grow Proofs.Tryz.Nz (some ⟨b,0,none⟩) k cap g 0 1 f cv [.int .i64 x] w Ab hnc Ab (by simpa[AM] using D) yx rfl (λe=>by cases e) (λa ea j v hj=>by cases ea;have:=hcells j v hj;rw[BU] at this;rw[show(Addr.mk b 0 none).add j=⟨b,j,none⟩ by unfold Addr.add;split<;>simp_all];exact this) hvs h1v;refine hc.mono λe w' he=>?_;obtain⟨rfl,rfl⟩:=he;have D6:=grownCap_ge w (k+1) cap 3;refine u _ (grownCap w (k+1) cap 3) (Builtin.zeroCells (Value.int .i64 0).cells (grownCap w (k+1) cap 3 -(k+1))).toList D6 (grownCap_le_maxLen _ _ _ _ (by simp only[AM] at D;simp only[maxLen];omega)) (by rw[Cg,size_zeroCells];exact FE _) ?_ rfl rfl rfl;rw[AO (Ab:cv.length<=k),AG Ab,BE];show w.heap.push _=w.heap.push _;congr 2
      apply HB;simp;rfl
     .have hlt:k<n:=by omega
      have hc:=Proofs.Any2.slices_Insert_int_grow Proofs.Tryz.Nz b 0 n cap k g 0 1 f cv [.int .i64 x] w hlt Ab hnc Ab (by simpa[AM] using D) yx rfl hcells hvs yy h1v;refine hc.mono λe w' he=>?_;obtain⟨rfl,rfl⟩:=he;have D6:=grownCap_ge w (n+1) cap 3;have bX:∀m,(Builtin.zeroCells (Value.int .i64 0).cells m).size=m:=λm=>by rw[size_zeroCells];exact FE _
      refine u _ (grownCap w (n+1) cap 3) (Builtin.zeroCells (Value.int .i64 0).cells (grownCap w (n+1) cap 3 -(n+1))).toList D6 (grownCap_le_maxLen _ _ _ _ (by simp only[AM] at D;simp only[maxLen];omega)) (by rw[Cg,bX]) ?_ ?_ ?_ ?_;all_goals
       obtain⟨C,A,N,M⟩:=lR w cv k n (.int .i64 x) (Builtin.zeroCells (Value.int .i64 0).cells (n+1 -k)) (Builtin.zeroCells (Value.int .i64 0).cells (grownCap w (n+1) cap 3 -(n+1))) 3 yx hlt (bX _);first|exact C|exact A|exact N|exact M
   .cases hp
  .cases hp
 .cases hp
end
end Go.Am
