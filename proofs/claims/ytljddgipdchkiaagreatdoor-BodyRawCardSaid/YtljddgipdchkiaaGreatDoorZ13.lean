/- Lemmas -/
import Derived.Test.YtljddgipdchkiaaGreatDoorZ11
import Derived.Test.YtljddgipdchkiaaGreatDoorZ9
import Derived.Test.YtljddgipdchkiaaGreatDoorZ12
set_option linter.all false
namespace Go.Am
open Go Go.RowKit
section
variable{U U':Gh}{h:Ah}{w w':World}
noncomputable def cx0:FZ:={cx with GY:=λ_=>none}
def Hj.rel(hi:Hj U h w):Dc cx0 U w U (λ_=>0) [] h {tmps:=#[],defers:=[]} w:=
 ⟨hi,⟨rfl,λs=>trivial⟩,K6.refl U w,rfl,λg cs hg=>by cases hg⟩
def aI(w:World)(g:Nat)(a b:Array Value)(us:Array Value)(e:TypeId)(fr:Nat×Nat)(hg:w.heap[g]?=some (.cells us e fr)):(w.setRow g a).setRow g b=w.setRow g b:=by
 unfold World.setRow;congr 1
 apply PH;intro i;by_cases hi:i=g;.subst hi;simp[MW,hg]
 .simp[MW,DH hi]
def fK(w:World)(cv:List Value)(k n:Nat)(x:Value)(Z1 a:Array Value)(e:TypeId)(hl:cv.length=n)(hk:k<n)(hz:Z1.size=n+1 -k):
  let w1:=(((w.alloc (.cells ((cv.take k).toArray++Z1++a) e)).drew.setCells w.heap.size k [x]).drew).setCells w.heap.size (k+1) (cv.drop k)
  w1.heap=w.heap.push (.cells (cv.take k++[x]++cv.drop k++a.toList).toArray e (0,0))/\w1.os=w.os/\w1.tape=w.tape/\w1.output=w.output:=by
 intro w1;have b:(cv.take k).length=k:=Eg;have JQ:((cv.take k).toArray++Z1++a).size=n+1+a.size:=by simp only[JZ,Cb,b,hz];omega
 have lH:(w.alloc (.cells ((cv.take k).toArray++Z1++a) e)).drew.heap[w.heap.size]?=some (.cells ((cv.take k).toArray++Z1++a) e (0,0)):=heap_alloc_new w _;have d:=ER [x] k _ _ lH (by rw[JQ];simp;omega);have f:(((cv.take k).toArray++Z1++a).toList.take k++[x]++((cv.take k).toArray++Z1++a).toList.drop (k+[x].length))=cv.take k++[x]++(Z1.toList.drop 1++a.toList):=by
  simp only[GU,AJ,Be,B1];congr 1
  .exact HN b
  .congr 1
   rw[<-Ei,Jv b,SG];have:1 -Z1.toList.length=0:=Eg;simp only[B0] at*;rw[this,Mt]
 rw[f] at d;have f_:((w.alloc (.cells ((cv.take k).toArray++Z1++a) e)).drew.setRow w.heap.size (cv.take k++[x]++(Z1.toList.drop 1++a.toList)).toArray).drew.heap[w.heap.size]?=some (.cells (cv.take k++[x]++(Z1.toList.drop 1++a.toList)).toArray e (0,0)):=setRow_heap _ _ _ _ _ _ lH;have Vr:(Z1.toList.drop 1).length=n-k:=by simp[hz];omega
 have c:=ER (cv.drop k) (k+1) _ _ f_ (by simp[hz];omega);have hB:((cv.take k++[x]++(Z1.toList.drop 1++a.toList)).toArray.toList.take (k+1)++cv.drop k++(cv.take k++[x]++(Z1.toList.drop 1++a.toList)).toArray.toList.drop (k+1+(cv.drop k).length))=cv.take k++[x]++cv.drop k++a.toList:=by
  have h1:(cv.take k++[x]).length=k+1:=Eg;simp only[KL];rw[HN h1,<-Ei,Jv h1];congr 1
  exact Jv (by rw[Vr];simp;omega)
 rw[hB] at c;have UK:w1=((w.alloc (.cells ((cv.take k).toArray++Z1++a) e)).drew.setRow w.heap.size (cv.take k++[x]++(Z1.toList.drop 1++a.toList)).toArray).drew.setRow w.heap.size (cv.take k++[x]++cv.drop k++a.toList).toArray:=by show((((w.alloc _).drew.setCells _ _ _).drew).setCells _ _ _)=_;rw[d,c]
 rw[UK];refine⟨?_,rfl,rfl,rfl⟩;apply PH;intro i;by_cases hi:i=w.heap.size;.subst hi;rw[setRow_heap _ _ _ _ _ _ f_];simp
 .rw[setRow_other _ _ _ _ hi];show((w.alloc _).drew.setRow _ _).heap[i]?=_;rw[setRow_other _ _ _ _ hi];show(w.heap.push _)[i]?=_;rw[YH,YH,Ac hi,Ac hi]
def yB:ey cx 239:=by
 refine⟨⟨_,_,Proofs.Tryz.func239,rfl,rfl⟩,?_⟩;intro U h w s L i x h' r g f bb e0 hi hs hp p Nv SN Q aSU;have hd:Below w.heap.size w w.drew:=(Below.refl _ _).drew;have hvs:∀(j:Nat) (v:Value),[Value.int .i64 x][j]?=some v->w.cell? ⟨g,0+j,none⟩=some v:=λj v hj=>by
  cases j with
  |zero=>cases hj;rw[cell_of_row w _ _ bb e0 (0,0) p];exact Nv
  |succ j=>simp at hj
 have h1v:∀v∈[Value.int .i64 x],v.oneCell'=true:=λv hv=>by simp at hv;subst hv;rfl
 have R:g<w.heap.size:=(A7.1 p).1;unfold PL at hp;split at hp
 .rename_i P x' Kp;cases Kp;split at hp
  .rename_i h0;subst h0;cases hp;have JC:L= .slice none 0 0:=hs;subst JC;have hc:=Proofs.Any2.slices_Insert_int_end_grow Proofs.Tryz.Nu none 0 0 g 0 1 f [] [.int .i64 x] w Ab (Ag _) Ab A5 rfl rfl (λ_=>rfl) (λ_ e=>by cases e) hvs h1v;refine hc.mono λe w' he=>?_;obtain⟨rfl,rfl⟩:=he;have Ef:=grownCap_ge w (0+1) 0 3;have KR:(([]++[Value.int .i64 x]).toArray++Builtin.zeroCells (Value.int .i64 0).cells (grownCap w (0+1) 0 3 -(0+1))).size=grownCap w (0+1) 0 3:=by simp only[JZ,size_zeroCells];show 1+(grownCap w 1 0 3 -1)*1=_;have:grownCap w (0+1) 0 3=grownCap w 1 0 3:=rfl;omega
   obtain⟨Vl,OP⟩:=GM (hi.Lb hd).1 (.cells (([]++[Value.int .i64 x]).toArray++Builtin.zeroCells (Value.int .i64 0).cells (grownCap w (0+1) 0 3 -(0+1))) 3 (0,0)) (.cells [.int .i64 x]) (some _)
    (.inl ⟨_,_,_,_,rfl,rfl,.inl rfl,⟨_,[],AK,rfl,rfl⟩,by simp[Value.oneCell'],rfl⟩)
   exact⟨_,Vl,(hi.Lb hd).2.trans OP,⟨w.heap.size,grownCap w (0+1) 0 3,by simp[Gh.B3],rfl,Ef,⟨C8 0,grownCap_le_maxLen _ _ _ _ A5⟩,by simp only[Gh.B3];rw[Ae (show w.heap.size=w.drew.heap.size from rfl),KR,FF];exact Ce some (B0 _).symm⟩⟩
  .cases hp
 .rename_i id n P x' Kp;cases Kp;split at hp
  .rename_i cs hcs;split at hp
   .rename_i HU;obtain⟨W,K,J,D⟩:=HU;cases hp;obtain⟨b,cap,hm,rfl,hnc,⟨_,sq⟩,KR⟩:=(show BU U _ _ from hs);obtain⟨us,e,fr,t,pf,G,O⟩:=hi.cells id cs hcs b hm;obtain⟨⟨DM,V,wV,C,A⟩,_⟩:=hi.sz b _ KR;rw[t] at C;cases C;obtain⟨S,B,aMN⟩:=hi.L8 id _ hcs AK;rw[hm] at B;cases B;have hne:g≠b:=λhe=>SN id (by rw[he];exact aMN);have dQ:cs.length<=us.size:=by have:=G.length;simp at this;omega
    have O8:us.size=cap:=by rw[A];omega
    obtain⟨k,hk⟩:∃k:Nat,i=k:=⟨i.toNat,Ab⟩;subst hk;simp only[AT] at*;generalize o:us.toList.take n=cv;have tq:cv.length=n:=by rw[<-o];simp;omega
    have hcells:∀(j:Nat) (v:Value),cv[j]?=some v->w.cell? ⟨b,0+j,none⟩=some v:=λj v hj=>by
     rw[cell_of_row w _ _ us e fr t,B0];rw[<-o,Cj] at hj;split at hj;.simpa using hj
     .cases hj
    have tr:∀v∈cv,v.oneCell'=true:=λv hv=>O v (by
     rw[<-o] at hv;have:us.toList.take n=(us.toList.take cs.length).take n:=by rw[FA,Cs J]
     rw[this] at hv;exact Bn hv)
    have hcr:Bi U (cs.take n) cv:=by have:=G.take n;rw[FA,Cs J,o] at this;exact this
    have UK:Bi U (cs.take k++[.int .i64 x]++(cs.take n).drop k) (cv.take k++[.int .i64 x]++cv.drop k):=by
     have I:cs.take k=(cs.take n).take k:=by rw[FA,Cs K]
     rw[I];exact((hcr.take k).append (show Bi U [.int .i64 x] [Value.int .i64 x] from⟨_,[],rfl,rfl,rfl⟩)).append (hcr.drop k)
    have Ĵ:∀v∈cv.take k++[Value.int .i64 x]++cv.drop k,v.oneCell'=true:=λv hv=>by
     simp only[AJ,Av,DA] at hv;rcases hv with hv|rfl|hv
     .exact tr v (Bn hv)
     .rfl
     .exact tr v (BG hv)
    have Hn:(cv.take k++[Value.int .i64 x]++cv.drop k).length=n+1:=Eg;have aMO:(cv.take k).length+[Value.int .i64 x].length+(cv.drop k).length=n+1:=by rw[<-Hn];simp only[Au]
    have Vi:(cs.take k++[Aa.int .i64 x]++(cs.take n).drop k).length=n+1:=by rw[<-Hn,UK.length]
    have hsp:∀j,j<n+1->n+1<=cap->(w.cell? ⟨b,0+j,none⟩).isSome=true:=λj hj hc=>by rw[cell_of_row w _ _ us e fr t,CU Ab];rfl
    have hfz:∀j,j<n+1->n+1<=cap->w.frozen? ⟨b,0+j,none⟩=false:=λj hj hc=>by
     simp only[World.frozen?,t];rcases pf with rfl|pM
     .simp
     .simp;omega
    have l:∀(w1:World),n+1<=cap->w1=(w.drew).setRow b (cv.take k++[Value.int .i64 x]++cv.drop k++us.toList.drop (n+1)).toArray\/w1=w.setRow b (cv.take k++[Value.int .i64 x]++cv.drop k++us.toList.drop (n+1)).toArray->
      ∃U',Hj U' (h.set id .CT++[.cells (cs.take k++[.int .i64 x]++(cs.take n).drop k)]) w1/\K6 U w U' w1/\BU U' (.CD h.length 0 (n+1) 1) (.slice (some ⟨b,0,none⟩) (n+1) cap):=by
     intro w1 hroom lH;have RL:(cv.take k++[Value.int .i64 x]++cv.drop k++us.toList.drop (n+1)).toArray.size=us.size:=by rw[Cb,Au,Hn,Bc,Ci];omega
     have TS:(cv.take k++[Value.int .i64 x]++cv.drop k++us.toList.drop (n+1)).toArray.toList.take (cs.take k++[Aa.int .i64 x]++(cs.take n).drop k).length=cv.take k++[Value.int .i64 x]++cv.drop k:=by rw[Vi,<-Hn];exact FB
     have go:∀wd:World,Hj U h wd->K6 U w U wd->wd.heap[b]?=some (.cells us e fr)->∃U',Hj U' (h.set id .CT++[.cells (cs.take k++[.int .i64 x]++(cs.take n).drop k)]) (wd.setRow b (cv.take k++[Value.int .i64 x]++cv.drop k++us.toList.drop (n+1)).toArray)/\K6 U w U' (wd.setRow b (cv.take k++[Value.int .i64 x]++cv.drop k++us.toList.drop (n+1)).toArray)/\BU U' (.CD h.length 0 (n+1) 1) (.slice (some ⟨b,0,none⟩) (n+1) cap):=by
      intro wd Ik kL hp;obtain⟨F,En,UG,LL,aAt⟩:=Ik.rel.kY hcs hm hp (by rw[KR,A]) (cv.take k++[Value.int .i64 x]++cv.drop k++us.toList.drop (n+1)).toArray (cs.take k++[.int .i64 x]++(cs.take n).drop k) RL
       (by
        rcases pf with rfl|pf
        .exact .inl rfl
        .exact .inr (by rw[RL];exact pf)) (by rw[TS];exact UK) (by rw[TS];exact Ĵ)
      exact⟨F,LL.D4,kL.trans LL.DX,b,cap,UG,rfl,hroom,⟨C8 0,sq⟩,by rw[aAt,A]⟩
     rcases lH with rfl|rfl
     .obtain⟨Ik,kL⟩:=hi.Lb hd;exact go w.drew Ik kL t
     .exact go w hi (K6.refl _ _) t
    have u:∀(w1:World) (c:Nat) (d:List Value),n+1<=c->c<=maxLen->d.length=c-(n+1)->w1.heap=(w.heap.push (.cells (cv.take k++[Value.int .i64 x]++cv.drop k++d).toArray 3 (0,0)))->w1.os=w.os->w1.tape=w.tape->w1.output=w.output->
      ∃U',Hj U' (h.set id .CT++[.cells (cs.take k++[.int .i64 x]++(cs.take n).drop k)]) w1/\K6 U w U' w1/\BU U' (.CD h.length 0 (n+1) 1) (.slice (some ⟨w.heap.size,0,none⟩) (n+1) c):=by
     intro w1 c d hc hcl jR H ho ht E;have RL:(cv.take k++[Value.int .i64 x]++cv.drop k++d).toArray.size=c:=by simp only[Cb,Au,aMO,jR];omega
     have TS:(cv.take k++[Value.int .i64 x]++cv.drop k++d).toArray.toList.take (cs.take k++[Aa.int .i64 x]++(cs.take n).drop k).length=cv.take k++[Value.int .i64 x]++cv.drop k:=by rw[Vi,<-Hn];exact FB
     obtain⟨F,En,UG,LL,aAt⟩:=(hi.rel.kill id).newObj (cv.take k++[Value.int .i64 x]++cv.drop k++d).toArray 3 (0,0) (cs.take k++[.int .i64 x]++(cs.take n).drop k) (.inl rfl) (by rw[TS];exact UK) (by rw[TS];exact Ĵ);have hb:Below (w.alloc (.cells (cv.take k++[Value.int .i64 x]++cv.drop k++d).toArray 3 (0,0))).heap.size (w.alloc (.cells (cv.take k++[Value.int .i64 x]++cv.drop k++d).toArray 3 (0,0))) w1:=⟨ho,ht,E,by rw[H];exact Ag _,λk' _=>by rw[H];rfl⟩;obtain⟨tv,lN⟩:=LL.D4.Lb hb;have hlen:(h.set id .CT).length=h.length:=AK;rw[hlen] at UG;exact⟨F,tv,LL.DX.trans lN,w.heap.size,c,UG,rfl,hc,⟨C8 0,hcl⟩,by rw[aAt,RL];simp⟩
    by_cases hroom:n+1<=cap
    .by_cases z:k=n
     .subst z;have hc:=Proofs.Any2.slices_Insert_int_end_room Proofs.Tryz.Nu b 0 k cap g 0 1 f [.int .i64 x] w Ab hroom sq rfl (λj hj=>by rw[(Ab:0+k+j=0+(k+j))];exact hsp _ Ab hroom) (λj hj=>by rw[(Ab:0+k+j=0+(k+j))];exact hfz _ Ab hroom) hvs h1v;refine hc.mono λe w' he=>?_;obtain⟨rfl,rfl⟩:=he;refine l _ hroom (.inr ?_);rw[ER _ _ us w t Eg,B0,o];congr 2
      rw[AW (Ab:cv.length<=k),AD Ab,BK];rfl
     .have hlt:k<n:=by omega
      have hc:=Proofs.Any2.slices_Insert_int_shift Proofs.Tryz.Nu b 0 n cap k g 0 1 f cv [.int .i64 x] w hlt Ab hroom sq hne tq rfl hcells (λj hj=>hsp j hj hroom) (λj hj=>hfz j hj hroom) hvs tr h1v
       e0 e bb.size us.size (by simp[World.shape?,p]) (by simp[World.shape?,t]) Ab (by rw[World.frozen?,p];rfl) (by rw[World.frozen?,p];rfl)
      refine hc.mono λe w' he=>?_;obtain⟨rfl,rfl⟩:=he;refine l _ hroom (.inl ?_);have y:w.drew.heap[b]?=some (.cells us _ fr):=t;rw[ER (cv.drop k) (0+(k+1)) us w.drew y Eg,ER [.int .i64 x] (0+k) _ _ (setRow_heap _ b us _ _ _ y) Eg,aI _ _ _ _ us _ _ y];congr 2
      apply QJ;intro j;have I:(us.toList.take (0+(k+1))++cv.drop k++us.toList.drop (0+(k+1)+(cv.drop k).length)).length=us.size:=Eg;have T:∀q,us.toList.take q=(us.toList.take n).take q++(us.toList.drop n).take (q-n):=λq=>by
       conv=>lhs;rw[<-CF n us.toList]
       rw[oV];simp only[As,Ci];rw[Cs (Ab:n<=us.size)]
      simp only[B0];have Yb:(us.toList.take (k+1)++cv.drop k++us.toList.drop (k+1+(cv.drop k).length)).take k=cv.take k:=by rw[AJ,CJ Eg,FA,Cs (Fj k),T k,o,Nat.sub_eq_zero_of_le K,Kl,BK]
      have X6:(us.toList.take (k+1)++cv.drop k++us.toList.drop (k+1+(cv.drop k).length)).drop (k+1)=cv.drop k++us.toList.drop (n+1):=by
       have:(us.toList.take (k+1)).length=k+1:=Eg;rw[AJ,Jv this];congr 2
       simp;omega
      simp only[Be,B1,B0];rw[Yb,X6,AJ,AJ,AJ]
    .by_cases z:k=n
     .subst z;have hc:=Proofs.Any2.slices_Insert_int_end_grow Proofs.Tryz.Nu (some ⟨b,0,none⟩) k cap g 0 1 f cv [.int .i64 x] w Ab hnc Ab (by simpa[AX] using D) tq rfl (λe=>by cases e) (λa ea j v hj=>by cases ea;have:=hcells j v hj;rw[B0] at this;rw[show(Addr.mk b 0 none).add j=⟨b,j,none⟩ by unfold Addr.add;split<;>simp_all];exact this) hvs h1v;refine hc.mono λe w' he=>?_;obtain⟨rfl,rfl⟩:=he;have Ef:=grownCap_ge w (k+1) cap 3;refine u _ (grownCap w (k+1) cap 3) (Builtin.zeroCells (Value.int .i64 0).cells (grownCap w (k+1) cap 3 -(k+1))).toList Ef (grownCap_le_maxLen _ _ _ _ (by simp only[AX] at D;simp only[maxLen];omega)) (by rw[Ci,size_zeroCells];exact FF _) ?_ rfl rfl rfl;rw[AW (Ab:cv.length<=k),AD Ab,BK];show w.heap.push _=w.heap.push _;congr 2
      apply HA;simp;rfl
     .have hlt:k<n:=by omega
      have hc:=Proofs.Any2.slices_Insert_int_grow Proofs.Tryz.Nu b 0 n cap k g 0 1 f cv [.int .i64 x] w hlt Ab hnc Ab (by simpa[AX] using D) tq rfl hcells hvs tr h1v;refine hc.mono λe w' he=>?_;obtain⟨rfl,rfl⟩:=he;have Ef:=grownCap_ge w (n+1) cap 3;have Z5:∀m,(Builtin.zeroCells (Value.int .i64 0).cells m).size=m:=λm=>by rw[size_zeroCells];exact FF _
      refine u _ (grownCap w (n+1) cap 3) (Builtin.zeroCells (Value.int .i64 0).cells (grownCap w (n+1) cap 3 -(n+1))).toList Ef (grownCap_le_maxLen _ _ _ _ (by simp only[AX] at D;simp only[maxLen];omega)) (by rw[Ci,Z5]) ?_ ?_ ?_ ?_;all_goals
       obtain⟨C,A,N,M⟩:=fK w cv k n (.int .i64 x) (Builtin.zeroCells (Value.int .i64 0).cells (n+1 -k)) (Builtin.zeroCells (Value.int .i64 0).cells (grownCap w (n+1) cap 3 -(n+1))) 3 tq hlt (Z5 _);first|exact C|exact A|exact N|exact M
   .cases hp
  .cases hp
 .cases hp
end
end Go.Am
