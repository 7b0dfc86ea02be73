/- Lemmas -/
import Derived.Test.YtbkijlifflhdiaaGreatDoorX11
import Derived.Test.YtbkijlifflhdiaaGreatDoorX9
import Derived.Test.YtbkijlifflhdiaaGreatDoorX12
set_option linter.all false
namespace Go.Am
open Go Go.RowKit
section
variable{U U':Gh}{h:Ah}{w w':World}
noncomputable def cx0:FC:={cx with Gq:=λ_=>none}
def GO.rel(hi:GO U h w):CH cx0 U w U (λ_=>0) [] h {tmps:=#[],defers:=[]} w:=
 ⟨hi,⟨rfl,λs=>trivial⟩,KF.refl U w,rfl,λg cs hg=>by cases hg⟩
def XG(w:World)(g:Nat)(a b:Array Value)(us:Array Value)(e:TypeId)(fr:Nat×Nat)(hg:w.heap[g]?=some (.cells us e fr)):(w.setRow g a).setRow g b=w.setRow g b:=by
 unfold World.setRow;congr 1
 apply N9;intro i;by_cases hi:i=g;.subst hi;simp[Lv,hg]
 .simp[Lv,DX hi]
def Zw(w:World)(cv:List Value)(k n:Nat)(x:Value)(Z1 a:Array Value)(e:TypeId)(hl:cv.length=n)(hk:k<n)(hz:Z1.size=n+1 -k):
  let w1:=(((w.alloc (.cells ((cv.take k).toArray++Z1++a) e)).drew.setCells w.heap.size k [x]).drew).setCells w.heap.size (k+1) (cv.drop k)
  w1.heap=w.heap.push (.cells (cv.take k++[x]++cv.drop k++a.toList).toArray e (0,0))/\w1.os=w.os/\w1.tape=w.tape/\w1.output=w.output:=by
 intro w1;have b:(cv.take k).length=k:=ER;have K9:((cv.take k).toArray++Z1++a).size=n+1+a.size:=by simp only[IE,BP,b,hz];omega
 have kq:(w.alloc (.cells ((cv.take k).toArray++Z1++a) e)).drew.heap[w.heap.size]?=some (.cells ((cv.take k).toArray++Z1++a) e (0,0)):=heap_alloc_new w _;have d:=Ek [x] k _ _ kq (by rw[K9];simp;omega);have f:(((cv.take k).toArray++Z1++a).toList.take k++[x]++((cv.take k).toArray++Z1++a).toList.drop (k+[x].length))=cv.take k++[x]++(Z1.toList.drop 1++a.toList):=by
  simp only[Gb,AB,AU,BK];congr 1
  .exact Ia b
  .congr 1
   rw[<-DL,J4 b,QM];have:1 -Z1.toList.length=0:=ER;simp only[BC] at*;rw[this,KX]
 rw[f] at d;have sG:((w.alloc (.cells ((cv.take k).toArray++Z1++a) e)).drew.setRow w.heap.size (cv.take k++[x]++(Z1.toList.drop 1++a.toList)).toArray).drew.heap[w.heap.size]?=some (.cells (cv.take k++[x]++(Z1.toList.drop 1++a.toList)).toArray e (0,0)):=setRow_heap _ _ _ _ _ _ kq;have Wk:(Z1.toList.drop 1).length=n-k:=by simp[hz];omega
 have c:=Ek (cv.drop k) (k+1) _ _ sG (by simp[hz];omega);have hB:((cv.take k++[x]++(Z1.toList.drop 1++a.toList)).toArray.toList.take (k+1)++cv.drop k++(cv.take k++[x]++(Z1.toList.drop 1++a.toList)).toArray.toList.drop (k+1+(cv.drop k).length))=cv.take k++[x]++cv.drop k++a.toList:=by
  have h1:(cv.take k++[x]).length=k+1:=ER;simp only[Jt];rw[Ia h1,<-DL,J4 h1];congr 1
  exact J4 (by rw[Wk];simp;omega)
 rw[hB] at c;have SF:w1=((w.alloc (.cells ((cv.take k).toArray++Z1++a) e)).drew.setRow w.heap.size (cv.take k++[x]++(Z1.toList.drop 1++a.toList)).toArray).drew.setRow w.heap.size (cv.take k++[x]++cv.drop k++a.toList).toArray:=by show((((w.alloc _).drew.setCells _ _ _).drew).setCells _ _ _)=_;rw[d,c]
 rw[SF];refine⟨?_,rfl,rfl,rfl⟩;apply N9;intro i;by_cases hi:i=w.heap.size;.subst hi;rw[setRow_heap _ _ _ _ _ _ sG];simp
 .rw[setRow_other _ _ _ _ hi];show((w.alloc _).drew.setRow _ _).heap[i]?=_;rw[setRow_other _ _ _ _ hi];show(w.heap.push _)[i]?=_;rw[VP,VP,Ac hi,Ac hi]
def nN:rP cx 143:=by
 refine⟨⟨_,_,Proofs.Tryz.func143,rfl,rfl⟩,?_⟩;intro U h w s I i x h' r g f p8 e0 hi hs hp ã A QW N aHx;have hd:Below w.heap.size w w.drew:=(Below.refl _ _).drew;have hvs:∀(j:Nat) (v:Value),[Value.int .i64 x][j]?=some v->w.cell? ⟨g,0+j,none⟩=some v:=λj v hj=>by
  cases j with
  |zero=>cases hj;rw[cell_of_row w _ _ p8 e0 (0,0) ã];exact A
  |succ j=>simp at hj
 have h1v:∀v∈[Value.int .i64 x],v.oneCell'=true:=λv hv=>by simp at hv;subst hv;rfl
 have O:g<w.heap.size:=(AK.1 ã).1;unfold Oe at hp;split at hp
 .rename_i M x' I8;cases I8;split at hp
  .rename_i h0;subst h0;cases hp;have Ih:I= .slice none 0 0:=hs;subst Ih;have hc:=Proofs.Any2.slices_Insert_int_end_grow Proofs.Tryz.Me none 0 0 g 0 1 f [] [.int .i64 x] w Ab (Af _) Ab Bj rfl rfl (λ_=>rfl) (λ_ e=>by cases e) hvs h1v;refine hc.mono λe w' he=>?_;obtain⟨rfl,rfl⟩:=he;have GW:=grownCap_ge w (0+1) 0 3;have J3:(([]++[Value.int .i64 x]).toArray++Builtin.zeroCells (Value.int .i64 0).cells (grownCap w (0+1) 0 3 -(0+1))).size=grownCap w (0+1) 0 3:=by simp only[IE,size_zeroCells];show 1+(grownCap w 1 0 3 -1)*1=_;have:grownCap w (0+1) 0 3=grownCap w 1 0 3:=rfl;omega
   obtain⟨YM,Pf⟩:=MG (hi.KJ hd).1 (.cells (([]++[Value.int .i64 x]).toArray++Builtin.zeroCells (Value.int .i64 0).cells (grownCap w (0+1) 0 3 -(0+1))) 3 (0,0)) (.cells [.int .i64 x]) (some _)
    (.inl ⟨_,_,_,_,rfl,rfl,.inl rfl,⟨_,[],Aw,rfl,rfl⟩,by simp[Value.oneCell'],rfl⟩)
   exact⟨_,YM,(hi.KJ hd).2.trans Pf,⟨w.heap.size,grownCap w (0+1) 0 3,by simp[Gh.BW],rfl,GW,⟨CE 0,grownCap_le_maxLen _ _ _ _ Bj⟩,by simp only[Gh.BW];rw[Ad (show w.heap.size=w.drew.heap.size from rfl),J3,Gp];exact Ca some (BC _).symm⟩⟩
  .cases hp
 .rename_i id n M x' I8;cases I8;split at hp
  .rename_i cs hcs;split at hp
   .rename_i GQ;obtain⟨S,H,G,z⟩:=GQ;cases hp;obtain⟨b,cap,hm,rfl,hnc,⟨_,zH⟩,J3⟩:=(show Bz U _ _ from hs);obtain⟨us,e,fr,o,pf,D,L⟩:=hi.cells id cs hcs b hm;obtain⟨⟨C6,R,mK,y,u⟩,_⟩:=hi.sz b _ J3;rw[o] at y;cases y;obtain⟨P,zk,aB8⟩:=hi.K5 id _ hcs Aw;rw[hm] at zk;cases zk;have hne:g≠b:=λhe=>QW id (by rw[he];exact aB8);have YI:cs.length<=us.size:=by have:=D.length;simp at this;omega
    have NA:us.size=cap:=by rw[u];omega
    obtain⟨k,hk⟩:∃k:Nat,i=k:=⟨i.toNat,Ab⟩;subst hk;simp only[Bn] at*;generalize zt:us.toList.take n=cv;have zU:cv.length=n:=by rw[<-zt];simp;omega
    have hcells:∀(j:Nat) (v:Value),cv[j]?=some v->w.cell? ⟨b,0+j,none⟩=some v:=λj v hj=>by
     rw[cell_of_row w _ _ us e fr o,BC];rw[<-zt,B3] at hj;split at hj;.simpa using hj
     .cases hj
    have zV:∀v∈cv,v.oneCell'=true:=λv hv=>L v (by
     rw[<-zt] at hv;have:us.toList.take n=(us.toList.take cs.length).take n:=by rw[GD,Ce G]
     rw[this] at hv;exact AN hv)
    have hcr:AS U (cs.take n) cv:=by have:=D.take n;rw[GD,Ce G,zt] at this;exact this
    have SF:AS U (cs.take k++[.int .i64 x]++(cs.take n).drop k) (cv.take k++[.int .i64 x]++cv.drop k):=by
     have F:cs.take k=(cs.take n).take k:=by rw[GD,Ce H]
     rw[F];exact((hcr.take k).append (show AS U [.int .i64 x] [Value.int .i64 x] from⟨_,[],rfl,rfl,rfl⟩)).append (hcr.drop k)
    have lg:∀v∈cv.take k++[Value.int .i64 x]++cv.drop k,v.oneCell'=true:=λv hv=>by
     simp only[AB,Ak,Dl] at hv;rcases hv with hv|rfl|hv
     .exact zV v (AN hv)
     .rfl
     .exact zV v (A6 hv)
    have HV:(cv.take k++[Value.int .i64 x]++cv.drop k).length=n+1:=ER;have aB9:(cv.take k).length+[Value.int .i64 x].length+(cv.drop k).length=n+1:=by rw[<-HV];simp only[Ap]
    have Xr:(cs.take k++[Aa.int .i64 x]++(cs.take n).drop k).length=n+1:=by rw[<-HV,SF.length]
    have hsp:∀j,j<n+1->n+1<=cap->(w.cell? ⟨b,0+j,none⟩).isSome=true:=λj hj hc=>by rw[cell_of_row w _ _ us e fr o,Cu Ab];rfl
    have hfz:∀j,j<n+1->n+1<=cap->w.frozen? ⟨b,0+j,none⟩=false:=λj hj hc=>by
     simp only[World.frozen?,o];rcases pf with rfl|iK
     .simp
     .simp;omega
    have l:∀(w1:World),n+1<=cap->w1=(w.drew).setRow b (cv.take k++[Value.int .i64 x]++cv.drop k++us.toList.drop (n+1)).toArray\/w1=w.setRow b (cv.take k++[Value.int .i64 x]++cv.drop k++us.toList.drop (n+1)).toArray->
      ∃U',GO U' (h.set id .DK++[.cells (cs.take k++[.int .i64 x]++(cs.take n).drop k)]) w1/\KF U w U' w1/\Bz U' (.CL h.length 0 (n+1) 1) (.slice (some ⟨b,0,none⟩) (n+1) cap):=by
     intro w1 hroom kq;have SC:(cv.take k++[Value.int .i64 x]++cv.drop k++us.toList.drop (n+1)).toArray.size=us.size:=by rw[BP,Ap,HV,AV,B0];omega
     have RR:(cv.take k++[Value.int .i64 x]++cv.drop k++us.toList.drop (n+1)).toArray.toList.take (cs.take k++[Aa.int .i64 x]++(cs.take n).drop k).length=cv.take k++[Value.int .i64 x]++cv.drop k:=by rw[Xr,<-HV];exact Es
     have go:∀wd:World,GO U h wd->KF U w U wd->wd.heap[b]?=some (.cells us e fr)->∃U',GO U' (h.set id .DK++[.cells (cs.take k++[.int .i64 x]++(cs.take n).drop k)]) (wd.setRow b (cv.take k++[Value.int .i64 x]++cv.drop k++us.toList.drop (n+1)).toArray)/\KF U w U' (wd.setRow b (cv.take k++[Value.int .i64 x]++cv.drop k++us.toList.drop (n+1)).toArray)/\Bz U' (.CL h.length 0 (n+1) 1) (.slice (some ⟨b,0,none⟩) (n+1) cap):=by
      intro wd Hw cL hp;obtain⟨C,Eg,TP,Lj,rh⟩:=Hw.rel.rU hcs hm hp (by rw[J3,u]) (cv.take k++[Value.int .i64 x]++cv.drop k++us.toList.drop (n+1)).toArray (cs.take k++[.int .i64 x]++(cs.take n).drop k) SC
       (by
        rcases pf with rfl|pf
        .exact .inl rfl
        .exact .inr (by rw[SC];exact pf)) (by rw[RR];exact SF) (by rw[RR];exact lg)
      exact⟨C,Lj.Dr,cL.trans Lj.Dq,b,cap,TP,rfl,hroom,⟨CE 0,zH⟩,by rw[rh,u]⟩
     rcases kq with rfl|rfl
     .obtain⟨Hw,cL⟩:=hi.KJ hd;exact go w.drew Hw cL o
     .exact go w hi (KF.refl _ _) o
    have p:∀(w1:World) (c:Nat) (d:List Value),n+1<=c->c<=maxLen->d.length=c-(n+1)->w1.heap=(w.heap.push (.cells (cv.take k++[Value.int .i64 x]++cv.drop k++d).toArray 3 (0,0)))->w1.os=w.os->w1.tape=w.tape->w1.output=w.output->
      ∃U',GO U' (h.set id .DK++[.cells (cs.take k++[.int .i64 x]++(cs.take n).drop k)]) w1/\KF U w U' w1/\Bz U' (.CL h.length 0 (n+1) 1) (.slice (some ⟨w.heap.size,0,none⟩) (n+1) c):=by
     intro w1 c d hc hcl nF E ho ht B;have SC:(cv.take k++[Value.int .i64 x]++cv.drop k++d).toArray.size=c:=by simp only[BP,Ap,aB9,nF];omega
     have RR:(cv.take k++[Value.int .i64 x]++cv.drop k++d).toArray.toList.take (cs.take k++[Aa.int .i64 x]++(cs.take n).drop k).length=cv.take k++[Value.int .i64 x]++cv.drop k:=by rw[Xr,<-HV];exact Es
     obtain⟨C,Eg,TP,Lj,rh⟩:=(hi.rel.kill id).newObj (cv.take k++[Value.int .i64 x]++cv.drop k++d).toArray 3 (0,0) (cs.take k++[.int .i64 x]++(cs.take n).drop k) (.inl rfl) (by rw[RR];exact SF) (by rw[RR];exact lg);have hb:Below (w.alloc (.cells (cv.take k++[Value.int .i64 x]++cv.drop k++d).toArray 3 (0,0))).heap.size (w.alloc (.cells (cv.take k++[Value.int .i64 x]++cv.drop k++d).toArray 3 (0,0))) w1:=⟨ho,ht,B,by rw[E];exact Af _,λk' _=>by rw[E];rfl⟩;obtain⟨rj,sY⟩:=Lj.Dr.KJ hb;have hlen:(h.set id .DK).length=h.length:=Aw;rw[hlen] at TP;exact⟨C,rj,Lj.Dq.trans sY,w.heap.size,c,TP,rfl,hc,⟨CE 0,hcl⟩,by rw[rh,SC];simp⟩
    by_cases hroom:n+1<=cap
    .by_cases ä:k=n
     .subst ä;have hc:=Proofs.Any2.slices_Insert_int_end_room Proofs.Tryz.Me b 0 k cap g 0 1 f [.int .i64 x] w Ab hroom zH rfl (λj hj=>by rw[(Ab:0+k+j=0+(k+j))];exact hsp _ Ab hroom) (λj hj=>by rw[(Ab:0+k+j=0+(k+j))];exact hfz _ Ab hroom) hvs h1v;refine hc.mono λe w' he=>?_;obtain⟨rfl,rfl⟩:=he;refine l _ hroom (.inr ?_);rw[Ek _ _ us w o ER,BC,zt];congr 2
      rw[Bd (Ab:cv.length<=k),AR Ab,BQ];rfl
     .have hlt:k<n:=by omega
      have hc:=Proofs.Any2.slices_Insert_int_shift Proofs.Tryz.Me b 0 n cap k g 0 1 f cv [.int .i64 x] w hlt Ab hroom zH hne zU rfl hcells (λj hj=>hsp j hj hroom) (λj hj=>hfz j hj hroom) hvs zV h1v
       e0 e p8.size us.size (by simp[World.shape?,ã]) (by simp[World.shape?,o]) Ab (by rw[World.frozen?,ã];rfl) (by rw[World.frozen?,ã];rfl)
      refine hc.mono λe w' he=>?_;obtain⟨rfl,rfl⟩:=he;refine l _ hroom (.inl ?_);have t:w.drew.heap[b]?=some (.cells us _ fr):=o;rw[Ek (cv.drop k) (0+(k+1)) us w.drew t ER,Ek [.int .i64 x] (0+k) _ _ (setRow_heap _ b us _ _ _ t) ER,XG _ _ _ _ us _ _ t];congr 2
      apply O0;intro j;have F:(us.toList.take (0+(k+1))++cv.drop k++us.toList.drop (0+(k+1)+(cv.drop k).length)).length=us.size:=ER;have Q:∀q,us.toList.take q=(us.toList.take n).take q++(us.toList.drop n).take (q-n):=λq=>by
       conv=>lhs;rw[<-BM n us.toList]
       rw[gY];simp only[Au,B0];rw[Ce (Ab:n<=us.size)]
      simp only[BC];have Y3:(us.toList.take (k+1)++cv.drop k++us.toList.drop (k+1+(cv.drop k).length)).take k=cv.take k:=by rw[AB,Di ER,GD,Ce (EX k),Q k,zt,Nat.sub_eq_zero_of_le H,N8,BQ]
      have S0:(us.toList.take (k+1)++cv.drop k++us.toList.drop (k+1+(cv.drop k).length)).drop (k+1)=cv.drop k++us.toList.drop (n+1):=by
       have:(us.toList.take (k+1)).length=k+1:=ER;rw[AB,J4 this];congr 2
       simp;omega
      simp only[AU,BK,BC];rw[Y3,S0,AB,AB,AB]
    .by_cases ä:k=n
     .subst ä;have hc:=Proofs.Any2.slices_Insert_int_end_grow Proofs.Tryz.Me (some ⟨b,0,none⟩) k cap g 0 1 f cv [.int .i64 x] w Ab hnc Ab (by simpa[AQ] using z) zU rfl (λe=>by cases e) (λa ea j v hj=>by cases ea;have:=hcells j v hj;rw[BC] at this;rw[show(Addr.mk b 0 none).add j=⟨b,j,none⟩ by unfold Addr.add;split<;>simp_all];exact this) hvs h1v;refine hc.mono λe w' he=>?_;obtain⟨rfl,rfl⟩:=he;have GW:=grownCap_ge w (k+1) cap 3;refine p _ (grownCap w (k+1) cap 3) (Builtin.zeroCells (Value.int .i64 0).cells (grownCap w (k+1) cap 3 -(k+1))).toList GW (grownCap_le_maxLen _ _ _ _ (by simp only[AQ] at z;simp only[maxLen];omega)) (by rw[B0,size_zeroCells];exact Gp _) ?_ rfl rfl rfl;rw[Bd (Ab:cv.length<=k),AR Ab,BQ];show w.heap.push _=w.heap.push _;congr 2
      apply GC;simp;rfl
     .have hlt:k<n:=by omega
      have hc:=Proofs.Any2.slices_Insert_int_grow Proofs.Tryz.Me b 0 n cap k g 0 1 f cv [.int .i64 x] w hlt Ab hnc Ab (by simpa[AQ] using z) zU rfl hcells hvs zV h1v;refine hc.mono λe w' he=>?_;obtain⟨rfl,rfl⟩:=he;have GW:=grownCap_ge w (n+1) cap 3;have Xq:∀m,(Builtin.zeroCells (Value.int .i64 0).cells m).size=m:=λm=>by rw[size_zeroCells];exact Gp _
      refine p _ (grownCap w (n+1) cap 3) (Builtin.zeroCells (Value.int .i64 0).cells (grownCap w (n+1) cap 3 -(n+1))).toList GW (grownCap_le_maxLen _ _ _ _ (by simp only[AQ] at z;simp only[maxLen];omega)) (by rw[B0,Xq]) ?_ ?_ ?_ ?_;all_goals
       obtain⟨y,u,K,J⟩:=Zw w cv k n (.int .i64 x) (Builtin.zeroCells (Value.int .i64 0).cells (n+1 -k)) (Builtin.zeroCells (Value.int .i64 0).cells (grownCap w (n+1) cap 3 -(n+1))) 3 zU hlt (Xq _);first|exact y|exact u|exact K|exact J
   .cases hp
  .cases hp
 .cases hp
end
end Go.Am
