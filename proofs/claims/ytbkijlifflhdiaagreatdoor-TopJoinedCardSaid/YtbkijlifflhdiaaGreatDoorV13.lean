/- Lemmas -/
import Derived.Test.YtbkijlifflhdiaaGreatDoorV11
import Derived.Test.YtbkijlifflhdiaaGreatDoorV9
import Derived.Test.YtbkijlifflhdiaaGreatDoorV12
set_option linter.all false
namespace Go.Am
open Go Go.RowKit
section
variable{U U':Gh}{h:Ag}{w w':World}
noncomputable def cx0:E7:={cx with Fl:=λ_=>none}
def Fg.rel(hi:Fg U h w):Ct cx0 U w U (λ_=>0) [] h {tmps:=#[],defers:=[]} w:=
 ⟨hi,⟨rfl,λs=>trivial⟩,IB.refl U w,rfl,λg cs hg=>by cases hg⟩
def WO(w:World)(g:Nat)(a b:Array Value)(us:Array Value)(e:TypeId)(fr:Nat×Nat)(hg:w.heap[g]?=some (.cells us e fr)):(w.setRow g a).setRow g b=w.setRow g b:=by
 unfold World.setRow;congr 1
 apply Nr;intro i;by_cases hi:i=g;.subst hi;simp[K6,hg]
 .simp[K6,Dv hi]
def YI(w:World)(cv:List Value)(k n:Nat)(x:Value)(Z1 a:Array Value)(e:TypeId)(hl:cv.length=n)(hk:k<n)(hz:Z1.size=n+1 -k):
  let w1:=(((w.alloc (.cells ((cv.take k).toArray++Z1++a) e)).drew.setCells w.heap.size k [x]).drew).setCells w.heap.size (k+1) (cv.drop k)
  w1.heap=w.heap.push (.cells (cv.take k++[x]++cv.drop k++a.toList).toArray e (0,0))/\w1.os=w.os/\w1.tape=w.tape/\w1.output=w.output:=by
 intro w1;have b:(cv.take k).length=k:=D5;have KH:((cv.take k).toArray++Z1++a).size=n+1+a.size:=by simp only[Ia,Bl,b,hz];omega
 have fk:(w.alloc (.cells ((cv.take k).toArray++Z1++a) e)).drew.heap[w.heap.size]?=some (.cells ((cv.take k).toArray++Z1++a) e (0,0)):=heap_alloc_new w _;have e1:=DM [x] k _ _ fk (by rw[KH];simp;omega);have d:(((cv.take k).toArray++Z1++a).toList.take k++[x]++((cv.take k).toArray++Z1++a).toList.drop (k+[x].length))=cv.take k++[x]++(Z1.toList.drop 1++a.toList):=by
  simp only[Fw,AI,AH,Bd];congr 1
  .exact HI b
  .congr 1
   rw[<-DU,Js b,PS];have:1 -Z1.toList.length=0:=D5;simp only[Bm] at*;rw[this,Ky]
 rw[d] at e1;have lT:((w.alloc (.cells ((cv.take k).toArray++Z1++a) e)).drew.setRow w.heap.size (cv.take k++[x]++(Z1.toList.drop 1++a.toList)).toArray).drew.heap[w.heap.size]?=some (.cells (cv.take k++[x]++(Z1.toList.drop 1++a.toList)).toArray e (0,0)):=setRow_heap _ _ _ _ _ _ fk;have Z7:(Z1.toList.drop 1).length=n-k:=by simp[hz];omega
 have c:=DM (cv.drop k) (k+1) _ _ lT (by simp[hz];omega);have hB:((cv.take k++[x]++(Z1.toList.drop 1++a.toList)).toArray.toList.take (k+1)++cv.drop k++(cv.take k++[x]++(Z1.toList.drop 1++a.toList)).toArray.toList.drop (k+1+(cv.drop k).length))=cv.take k++[x]++cv.drop k++a.toList:=by
  have h1:(cv.take k++[x]).length=k+1:=D5;simp only[I1];rw[HI h1,<-DU,Js h1];congr 1
  exact Js (by rw[Z7];simp;omega)
 rw[hB] at c;have RI:w1=((w.alloc (.cells ((cv.take k).toArray++Z1++a) e)).drew.setRow w.heap.size (cv.take k++[x]++(Z1.toList.drop 1++a.toList)).toArray).drew.setRow w.heap.size (cv.take k++[x]++cv.drop k++a.toList).toArray:=by show((((w.alloc _).drew.setCells _ _ _).drew).setCells _ _ _)=_;rw[e1,c]
 rw[RI];refine⟨?_,rfl,rfl,rfl⟩;apply Nr;intro i;by_cases hi:i=w.heap.size;.subst hi;rw[setRow_heap _ _ _ _ _ _ lT];simp
 .rw[setRow_other _ _ _ _ hi];show((w.alloc _).drew.setRow _ _).heap[i]?=_;rw[setRow_other _ _ _ _ hi];show(w.heap.push _)[i]?=_;rw[Va,Va,Ac hi,Ac hi]
def mB:qG cx 143:=by
 refine⟨⟨_,_,Proofs.Tryz.func143,rfl,rfl⟩,?_⟩;intro U h w s G i x h' r g f oM e0 hi hs hp yt A P0 L aFO;have hd:Below w.heap.size w w.drew:=(Below.refl _ _).drew;have hvs:∀(j:Nat) (v:Value),[Value.int .i64 x][j]?=some v->w.cell? ⟨g,0+j,none⟩=some v:=λj v hj=>by
  cases j with
  |zero=>cases hj;rw[cell_of_row w _ _ oM e0 (0,0) yt];exact A
  |succ j=>simp at hj
 have h1v:∀v∈[Value.int .i64 x],v.oneCell'=true:=λv hv=>by simp at hv;subst hv;rfl
 have M:g<w.heap.size:=(As.1 yt).1;unfold Nv at hp;split at hp
 .rename_i K x' Hy;cases Hy;split at hp
  .rename_i h0;subst h0;cases hp;have HR:G= .slice none 0 0:=hs;subst HR;have hc:=Proofs.Any2.slices_Insert_int_end_grow Proofs.Tryz.LH none 0 0 g 0 1 f [] [.int .i64 x] w Ab (Af _) Ab Be rfl rfl (λ_=>rfl) (λ_ e=>by cases e) hvs h1v;refine hc.mono λe w' he=>?_;obtain⟨rfl,rfl⟩:=he;have HK:=grownCap_ge w (0+1) 0 3;have hsz:(([]++[Value.int .i64 x]).toArray++Builtin.zeroCells (Value.int .i64 0).cells (grownCap w (0+1) 0 3 -(0+1))).size=grownCap w (0+1) 0 3:=by simp only[Ia,size_zeroCells];show 1+(grownCap w 1 0 3 -1)*1=_;have:grownCap w (0+1) 0 3=grownCap w 1 0 3:=rfl;omega
   obtain⟨NR,KI⟩:=L0 (hi.GN hd).1 (.cells (([]++[Value.int .i64 x]).toArray++Builtin.zeroCells (Value.int .i64 0).cells (grownCap w (0+1) 0 3 -(0+1))) 3 (0,0)) (.cells [.int .i64 x]) (some _)
    (.inl ⟨_,_,_,_,rfl,rfl,.inl rfl,⟨_,[],Au,rfl,rfl⟩,by simp[Value.oneCell'],rfl⟩)
   exact⟨_,NR,(hi.GN hd).2.trans KI,⟨w.heap.size,grownCap w (0+1) 0 3,by simp[Gh.BO],rfl,HK,⟨Cn 0,grownCap_le_maxLen _ _ _ _ Be⟩,by simp only[Gh.BO];rw[Ad (show w.heap.size=w.drew.heap.size from rfl),hsz,Iy];exact B1 some (Bm _).symm⟩⟩
  .cases hp
 .rename_i id n K x' Hy;cases Hy;split at hp
  .rename_i cs hcs;split at hp
   .rename_i Gg;obtain⟨c1,c2,F,z⟩:=Gg;cases hp;obtain⟨b,cap,hm,rfl,hnc,⟨_,oQ⟩,hsz⟩:=(show Bp U _ _ from hs);obtain⟨us,e,fr,o,pf,D,J⟩:=hi.cells id cs hcs b hm;obtain⟨⟨CS,P,kQ,y,u⟩,_⟩:=hi.sz b _ hsz;rw[o] at y;cases y;obtain⟨N,uz,aAK⟩:=hi.Kd id _ hcs Au;rw[hm] at uz;cases uz;have hne:g≠b:=λhe=>P0 id (by rw[he];exact aAK);have oN:cs.length<=us.size:=by have:=D.length;simp at this;omega
    have MU:us.size=cap:=by rw[u];omega
    obtain⟨k,hk⟩:∃k:Nat,i=k:=⟨i.toNat,Ab⟩;subst hk;simp only[Bw] at*;generalize vi:us.toList.take n=cv;have xS:cv.length=n:=by rw[<-vi];simp;omega
    have hcells:∀(j:Nat) (v:Value),cv[j]?=some v->w.cell? ⟨b,0+j,none⟩=some v:=λj v hj=>by
     rw[cell_of_row w _ _ us e fr o,Bm];rw[<-vi,BV] at hj;split at hj;.simpa using hj
     .cases hj
    have xT:∀v∈cv,v.oneCell'=true:=λv hv=>J v (by
     rw[<-vi] at hv;have:us.toList.take n=(us.toList.take cs.length).take n:=by rw[FZ,Cg F]
     rw[this] at hv;exact AN hv)
    have hcr:AK U (cs.take n) cv:=by have:=D.take n;rw[FZ,Cg F,vi] at this;exact this
    have RI:AK U (cs.take k++[.int .i64 x]++(cs.take n).drop k) (cv.take k++[.int .i64 x]++cv.drop k):=by
     have e1:cs.take k=(cs.take n).take k:=by rw[FZ,Cg c2]
     rw[e1];exact((hcr.take k).append (show AK U [.int .i64 x] [Value.int .i64 x] from⟨_,[],rfl,rfl,rfl⟩)).append (hcr.drop k)
    have fw:∀v∈cv.take k++[Value.int .i64 x]++cv.drop k,v.oneCell'=true:=λv hv=>by
     simp only[AI,Al,D2] at hv;rcases hv with hv|rfl|hv
     .exact xT v (AN hv)
     .rfl
     .exact xT v (A7 hv)
    have HB:(cv.take k++[Value.int .i64 x]++cv.drop k).length=n+1:=D5;have aAL:(cv.take k).length+[Value.int .i64 x].length+(cv.drop k).length=n+1:=by rw[<-HB];simp only[Ao]
    have XZ:(cs.take k++[Aa.int .i64 x]++(cs.take n).drop k).length=n+1:=by rw[<-HB,RI.length]
    have hsp:∀j,j<n+1->n+1<=cap->(w.cell? ⟨b,0+j,none⟩).isSome=true:=λj hj hc=>by rw[cell_of_row w _ _ us e fr o,Cj Ab];rfl
    have hfz:∀j,j<n+1->n+1<=cap->w.frozen? ⟨b,0+j,none⟩=false:=λj hj hc=>by
     simp only[World.frozen?,o];rcases pf with rfl|fY
     .simp
     .simp;omega
    have l:∀(w1:World),n+1<=cap->w1=(w.drew).setRow b (cv.take k++[Value.int .i64 x]++cv.drop k++us.toList.drop (n+1)).toArray\/w1=w.setRow b (cv.take k++[Value.int .i64 x]++cv.drop k++us.toList.drop (n+1)).toArray->
      ∃U',Fg U' (h.set id .Ec++[.cells (cs.take k++[.int .i64 x]++(cs.take n).drop k)]) w1/\IB U w U' w1/\Bp U' (.CG h.length 0 (n+1) 1) (.slice (some ⟨b,0,none⟩) (n+1) cap):=by
     intro w1 hroom fk;have RE:(cv.take k++[Value.int .i64 x]++cv.drop k++us.toList.drop (n+1)).toArray.size=us.size:=by rw[Bl,Ao,HB,AW,BQ];omega
     have Q1:(cv.take k++[Value.int .i64 x]++cv.drop k++us.toList.drop (n+1)).toArray.toList.take (cs.take k++[Aa.int .i64 x]++(cs.take n).drop k).length=cv.take k++[Value.int .i64 x]++cv.drop k:=by rw[XZ,<-HB];exact Ep
     have go:∀wd:World,Fg U h wd->IB U w U wd->wd.heap[b]?=some (.cells us e fr)->∃U',Fg U' (h.set id .Ec++[.cells (cs.take k++[.int .i64 x]++(cs.take n).drop k)]) (wd.setRow b (cv.take k++[Value.int .i64 x]++cv.drop k++us.toList.drop (n+1)).toArray)/\IB U w U' (wd.setRow b (cv.take k++[Value.int .i64 x]++cv.drop k++us.toList.drop (n+1)).toArray)/\Bp U' (.CG h.length 0 (n+1) 1) (.slice (some ⟨b,0,none⟩) (n+1) cap):=by
      intro wd Hm aR hp;obtain⟨C,DG,SY,JT,mh⟩:=Hm.rel.qM hcs hm hp (by rw[hsz,u]) (cv.take k++[Value.int .i64 x]++cv.drop k++us.toList.drop (n+1)).toArray (cs.take k++[.int .i64 x]++(cs.take n).drop k) RE
       (by
        rcases pf with rfl|pf
        .exact .inl rfl
        .exact .inr (by rw[RE];exact pf)) (by rw[Q1];exact RI) (by rw[Q1];exact fw)
      exact⟨C,JT.Db,aR.trans JT.C2,b,cap,SY,rfl,hroom,⟨Cn 0,oQ⟩,by rw[mh,u]⟩
     rcases fk with rfl|rfl
     .obtain⟨Hm,aR⟩:=hi.GN hd;exact go w.drew Hm aR o
     .exact go w hi (IB.refl _ _) o
    have p:∀(w1:World) (c:Nat) (d:List Value),n+1<=c->c<=maxLen->d.length=c-(n+1)->w1.heap=(w.heap.push (.cells (cv.take k++[Value.int .i64 x]++cv.drop k++d).toArray 3 (0,0)))->w1.os=w.os->w1.tape=w.tape->w1.output=w.output->
      ∃U',Fg U' (h.set id .Ec++[.cells (cs.take k++[.int .i64 x]++(cs.take n).drop k)]) w1/\IB U w U' w1/\Bp U' (.CG h.length 0 (n+1) 1) (.slice (some ⟨w.heap.size,0,none⟩) (n+1) c):=by
     intro w1 c d hc hcl q6 E ho ht B;have RE:(cv.take k++[Value.int .i64 x]++cv.drop k++d).toArray.size=c:=by simp only[Bl,Ao,aAL,q6];omega
     have Q1:(cv.take k++[Value.int .i64 x]++cv.drop k++d).toArray.toList.take (cs.take k++[Aa.int .i64 x]++(cs.take n).drop k).length=cv.take k++[Value.int .i64 x]++cv.drop k:=by rw[XZ,<-HB];exact Ep
     obtain⟨C,DG,SY,JT,mh⟩:=(hi.rel.kill id).newObj (cv.take k++[Value.int .i64 x]++cv.drop k++d).toArray 3 (0,0) (cs.take k++[.int .i64 x]++(cs.take n).drop k) (.inl rfl) (by rw[Q1];exact RI) (by rw[Q1];exact fw);have hb:Below (w.alloc (.cells (cv.take k++[Value.int .i64 x]++cv.drop k++d).toArray 3 (0,0))).heap.size (w.alloc (.cells (cv.take k++[Value.int .i64 x]++cv.drop k++d).toArray 3 (0,0))) w1:=⟨ho,ht,B,by rw[E];exact Af _,λk' _=>by rw[E];rfl⟩;obtain⟨WQ,UG⟩:=JT.Db.GN hb;have hlen:(h.set id .Ec).length=h.length:=Au;rw[hlen] at SY;exact⟨C,WQ,JT.C2.trans UG,w.heap.size,c,SY,rfl,hc,⟨Cn 0,hcl⟩,by rw[mh,RE];simp⟩
    by_cases hroom:n+1<=cap
    .by_cases yu:k=n
     .subst yu;have hc:=Proofs.Any2.slices_Insert_int_end_room Proofs.Tryz.LH b 0 k cap g 0 1 f [.int .i64 x] w Ab hroom oQ rfl (λj hj=>by rw[(Ab:0+k+j=0+(k+j))];exact hsp _ Ab hroom) (λj hj=>by rw[(Ab:0+k+j=0+(k+j))];exact hfz _ Ab hroom) hvs h1v;refine hc.mono λe w' he=>?_;obtain⟨rfl,rfl⟩:=he;refine l _ hroom (.inr ?_);rw[DM _ _ us w o D5,Bm,vi];congr 2
      rw[Bc (Ab:cv.length<=k),AT Ab,BN];rfl
     .have hlt:k<n:=by omega
      have hc:=Proofs.Any2.slices_Insert_int_shift Proofs.Tryz.LH b 0 n cap k g 0 1 f cv [.int .i64 x] w hlt Ab hroom oQ hne xS rfl hcells (λj hj=>hsp j hj hroom) (λj hj=>hfz j hj hroom) hvs xT h1v
       e0 e oM.size us.size (by simp[World.shape?,yt]) (by simp[World.shape?,o]) Ab (by rw[World.frozen?,yt];rfl) (by rw[World.frozen?,yt];rfl)
      refine hc.mono λe w' he=>?_;obtain⟨rfl,rfl⟩:=he;refine l _ hroom (.inl ?_);have t:w.drew.heap[b]?=some (.cells us _ fr):=o;rw[DM (cv.drop k) (0+(k+1)) us w.drew t D5,DM [.int .i64 x] (0+k) _ _ (setRow_heap _ b us _ _ _ t) D5,WO _ _ _ _ us _ _ t];congr 2
      apply Oc;intro j;have e1:(us.toList.take (0+(k+1))++cv.drop k++us.toList.drop (0+(k+1)+(cv.drop k).length)).length=us.size:=D5;have O:∀q,us.toList.take q=(us.toList.take n).take q++(us.toList.drop n).take (q-n):=λq=>by
       conv=>lhs;rw[<-BY n us.toList]
       rw[fK];simp only[Av,BQ];rw[Cg (Ab:n<=us.size)]
      simp only[Bm];have XW:(us.toList.take (k+1)++cv.drop k++us.toList.drop (k+1+(cv.drop k).length)).take k=cv.take k:=by rw[AI,CY D5,FZ,Cg (D7 k),O k,vi,Nat.sub_eq_zero_of_le c2,Uq,BN]
      have RJ:(us.toList.take (k+1)++cv.drop k++us.toList.drop (k+1+(cv.drop k).length)).drop (k+1)=cv.drop k++us.toList.drop (n+1):=by
       have:(us.toList.take (k+1)).length=k+1:=D5;rw[AI,Js this];congr 2
       simp;omega
      simp only[AH,Bd,Bm];rw[XW,RJ,AI,AI,AI]
    .by_cases yu:k=n
     .subst yu;have hc:=Proofs.Any2.slices_Insert_int_end_grow Proofs.Tryz.LH (some ⟨b,0,none⟩) k cap g 0 1 f cv [.int .i64 x] w Ab hnc Ab (by simpa[AO] using z) xS rfl (λe=>by cases e) (λa ea j v hj=>by cases ea;have:=hcells j v hj;rw[Bm] at this;rw[show(Addr.mk b 0 none).add j=⟨b,j,none⟩ by unfold Addr.add;split<;>simp_all];exact this) hvs h1v;refine hc.mono λe w' he=>?_;obtain⟨rfl,rfl⟩:=he;have HK:=grownCap_ge w (k+1) cap 3;refine p _ (grownCap w (k+1) cap 3) (Builtin.zeroCells (Value.int .i64 0).cells (grownCap w (k+1) cap 3 -(k+1))).toList HK (grownCap_le_maxLen _ _ _ _ (by simp only[AO] at z;simp only[maxLen];omega)) (by rw[BQ,size_zeroCells];exact Iy _) ?_ rfl rfl rfl;rw[Bc (Ab:cv.length<=k),AT Ab,BN];show w.heap.push _=w.heap.push _;congr 2
      apply Fe;simp;rfl
     .have hlt:k<n:=by omega
      have hc:=Proofs.Any2.slices_Insert_int_grow Proofs.Tryz.LH b 0 n cap k g 0 1 f cv [.int .i64 x] w hlt Ab hnc Ab (by simpa[AO] using z) xS rfl hcells hvs xT h1v;refine hc.mono λe w' he=>?_;obtain⟨rfl,rfl⟩:=he;have HK:=grownCap_ge w (n+1) cap 3;have hzs:∀m,(Builtin.zeroCells (Value.int .i64 0).cells m).size=m:=λm=>by rw[size_zeroCells];exact Iy _
      refine p _ (grownCap w (n+1) cap 3) (Builtin.zeroCells (Value.int .i64 0).cells (grownCap w (n+1) cap 3 -(n+1))).toList HK (grownCap_le_maxLen _ _ _ _ (by simp only[AO] at z;simp only[maxLen];omega)) (by rw[BQ,hzs]) ?_ ?_ ?_ ?_;all_goals
       obtain⟨y,u,I,H⟩:=YI w cv k n (.int .i64 x) (Builtin.zeroCells (Value.int .i64 0).cells (n+1 -k)) (Builtin.zeroCells (Value.int .i64 0).cells (grownCap w (n+1) cap 3 -(n+1))) 3 xS hlt (hzs _);first|exact y|exact u|exact I|exact H
   .cases hp
  .cases hp
 .cases hp
end
end Go.Am
