/- Lemmas -/
import Derived.Test.YtjjnhgoknielgaaGreatDoorZ11
import Derived.Test.YtjjnhgoknielgaaGreatDoorZ9
import Derived.Test.YtjjnhgoknielgaaGreatDoorZ12
set_option linter.all false
namespace Go.Am
open Go Go.RowKit
section
variable{U U':Gh}{h:Ai}{w w':World}
noncomputable def cx0:Gj:={cx with HB:=λ_=>none}
def Ic.rel(hi:Ic U h w):Db cx0 U w U (λ_=>0) [] h {tmps:=#[],defers:=[]} w:=
 ⟨hi,⟨rfl,λs=>trivial⟩,M1.refl U w,rfl,λg cs hg=>by cases hg⟩
def fL(w:World)(g:Nat)(a b:Array Value)(us:Array Value)(e:TypeId)(fr:Nat×Nat)(hg:w.heap[g]?=some (.cells us e fr)):(w.setRow g a).setRow g b=w.setRow g b:=by
 unfold World.setRow;congr 1
 apply Q7;intro i;by_cases hi:i=g;.subst hi;simp[NZ,hg]
 .simp[NZ,CZ hi]
def mZ(w:World)(cv:List Value)(k n:Nat)(x:Value)(Z1 a:Array Value)(e:TypeId)(hl:cv.length=n)(hk:k<n)(hz:Z1.size=n+1 -k):
  let w1:=(((w.alloc (.cells ((cv.take k).toArray++Z1++a) e)).drew.setCells w.heap.size k [x]).drew).setCells w.heap.size (k+1) (cv.drop k)
  w1.heap=w.heap.push (.cells (cv.take k++[x]++cv.drop k++a.toList).toArray e (0,0))/\w1.os=w.os/\w1.tape=w.tape/\w1.output=w.output:=by
 intro w1;have b:(cv.take k).length=k:=Et;have Kw:((cv.take k).toArray++Z1++a).size=n+1+a.size:=by simp only[Kt,B5,b,hz];omega
 have xM:(w.alloc (.cells ((cv.take k).toArray++Z1++a) e)).drew.heap[w.heap.size]?=some (.cells ((cv.take k).toArray++Z1++a) e (0,0)):=heap_alloc_new w _;have d:=EZ [x] k _ _ xM (by rw[Kw];simp;omega);have f:(((cv.take k).toArray++Z1++a).toList.take k++[x]++((cv.take k).toArray++Z1++a).toList.drop (k+[x].length))=cv.take k++[x]++(Z1.toList.drop 1++a.toList):=by
  simp only[Hm,A6,AK,AW];congr 1
  .exact JZ b
  .congr 1
   rw[<-Ew,Mp b,Jf];have:1 -Z1.toList.length=0:=Et;simp only[BE] at*;rw[this,FO]
 rw[f] at d;have yc:((w.alloc (.cells ((cv.take k).toArray++Z1++a) e)).drew.setRow w.heap.size (cv.take k++[x]++(Z1.toList.drop 1++a.toList)).toArray).drew.heap[w.heap.size]?=some (.cells (cv.take k++[x]++(Z1.toList.drop 1++a.toList)).toArray e (0,0)):=setRow_heap _ _ _ _ _ _ xM;have nr:(Z1.toList.drop 1).length=n-k:=by simp[hz];omega
 have c:=EZ (cv.drop k) (k+1) _ _ yc (by simp[hz];omega);have hB:((cv.take k++[x]++(Z1.toList.drop 1++a.toList)).toArray.toList.take (k+1)++cv.drop k++(cv.take k++[x]++(Z1.toList.drop 1++a.toList)).toArray.toList.drop (k+1+(cv.drop k).length))=cv.take k++[x]++cv.drop k++a.toList:=by
  have h1:(cv.take k++[x]).length=k+1:=Et;simp only[LF];rw[JZ h1,<-Ew,Mp h1];congr 1
  exact Mp (by rw[nr];simp;omega)
 rw[hB] at c;have Wg:w1=((w.alloc (.cells ((cv.take k).toArray++Z1++a) e)).drew.setRow w.heap.size (cv.take k++[x]++(Z1.toList.drop 1++a.toList)).toArray).drew.setRow w.heap.size (cv.take k++[x]++cv.drop k++a.toList).toArray:=by show((((w.alloc _).drew.setCells _ _ _).drew).setCells _ _ _)=_;rw[d,c]
 rw[Wg];refine⟨?_,rfl,rfl,rfl⟩;apply Q7;intro i;by_cases hi:i=w.heap.size;.subst hi;rw[setRow_heap _ _ _ _ _ _ yc];simp
 .rw[setRow_other _ _ _ _ hi];show((w.alloc _).drew.setRow _ _).heap[i]?=_;rw[setRow_other _ _ _ _ hi];show(w.heap.push _)[i]?=_;rw[aX,aX,Ac hi,Ac hi]
def nu:xi cx 112:=by
 refine⟨⟨_,_,Proofs.Tryz.func112,rfl,rfl⟩,?_⟩;intro U h w s M i x h' r g f ud e0 hi hs hp p D Ul R aSB;have hd:Below w.heap.size w w.drew:=(Below.refl _ _).drew;have hvs:∀(j:Nat) (v:Value),[Value.int .i64 x][j]?=some v->w.cell? ⟨g,0+j,none⟩=some v:=λj v hj=>by
  cases j with
  |zero=>cases hj;rw[cell_of_row w _ _ ud e0 (0,0) p];exact D
  |succ j=>simp at hj
 have h1v:∀v∈[Value.int .i64 x],v.oneCell'=true:=λv hv=>by simp at hv;subst hv;rfl
 have S:g<w.heap.size:=(AQ.1 p).1;unfold Rd at hp;split at hp
 .rename_i Q x' K4;cases K4;split at hp
  .rename_i h0;subst h0;cases hp;have J7:M= .slice none 0 0:=hs;subst J7;have hc:=Proofs.Any2.slices_Insert_int_end_grow Proofs.Tryz.Ox none 0 0 g 0 1 f [] [.int .i64 x] w Ab (Ad _) Ab AA rfl rfl (λ_=>rfl) (λ_ e=>by cases e) hvs h1v;refine hc.mono λe w' he=>?_;obtain⟨rfl,rfl⟩:=he;have IS:=grownCap_ge w (0+1) 0 3;have Lk:(([]++[Value.int .i64 x]).toArray++Builtin.zeroCells (Value.int .i64 0).cells (grownCap w (0+1) 0 3 -(0+1))).size=grownCap w (0+1) 0 3:=by simp only[Kt,size_zeroCells];show 1+(grownCap w 1 0 3 -1)*1=_;have:grownCap w (0+1) 0 3=grownCap w 1 0 3:=rfl;omega
   obtain⟨bR,UB⟩:=O8 (hi.M7 hd).1 (.cells (([]++[Value.int .i64 x]).toArray++Builtin.zeroCells (Value.int .i64 0).cells (grownCap w (0+1) 0 3 -(0+1))) 3 (0,0)) (.cells [.int .i64 x]) (some _)
    (.inl ⟨_,_,_,_,rfl,rfl,.inl rfl,⟨_,[],AB,rfl,rfl⟩,by simp[Value.oneCell'],rfl⟩)
   exact⟨_,bR,(hi.M7 hd).2.trans UB,⟨w.heap.size,grownCap w (0+1) 0 3,by simp[Gh.BU],rfl,IS,⟨C3 0,grownCap_le_maxLen _ _ _ _ AA⟩,by simp only[Gh.BU];rw[Af (show w.heap.size=w.drew.heap.size from rfl),Lk,Hz];exact B3 some (BE _).symm⟩⟩
  .cases hp
 .rename_i id n Q x' K4;cases K4;split at hp
  .rename_i cs hcs;split at hp
   .rename_i Ii;obtain⟨X,L,K,C⟩:=Ii;cases hp;obtain⟨b,cap,hm,rfl,hnc,⟨_,ř⟩,Lk⟩:=(show BP U _ _ from hs);obtain⟨us,e,fr,t,pf,H,P⟩:=hi.cells id cs hcs b hm;obtain⟨⟨DR,W,lp,B,z⟩,_⟩:=hi.sz b _ Lk;rw[t] at B;cases B;obtain⟨T,A,aMF⟩:=hi.Nw id _ hcs AB;rw[hm] at A;cases A;have hne:g≠b:=λhe=>Ul id (by rw[he];exact aMF);have ue:cs.length<=us.size:=by have:=H.length;simp at this;omega
    have Qr:us.size=cap:=by rw[z];omega
    obtain⟨k,hk⟩:∃k:Nat,i=k:=⟨i.toNat,Ab⟩;subst hk;simp only[BF] at*;generalize o:us.toList.take n=cv;have Ũ:cv.length=n:=by rw[<-o];simp;omega
    have hcells:∀(j:Nat) (v:Value),cv[j]?=some v->w.cell? ⟨b,0+j,none⟩=some v:=λj v hj=>by
     rw[cell_of_row w _ _ us e fr t,BE];rw[<-o,CA] at hj;split at hj;.simpa using hj
     .cases hj
    have ũ:∀v∈cv,v.oneCell'=true:=λv hv=>P v (by
     rw[<-o] at hv;have:us.toList.take n=(us.toList.take cs.length).take n:=by rw[CI,BO K]
     rw[this] at hv;exact AZ hv)
    have hcr:A8 U (cs.take n) cv:=by have:=H.take n;rw[CI,BO K,o] at this;exact this
    have Wg:A8 U (cs.take k++[.int .i64 x]++(cs.take n).drop k) (cv.take k++[.int .i64 x]++cv.drop k):=by
     have J:cs.take k=(cs.take n).take k:=by rw[CI,BO L]
     rw[J];exact((hcr.take k).append (show A8 U [.int .i64 x] [Value.int .i64 x] from⟨_,[],rfl,rfl,rfl⟩)).append (hcr.drop k)
    have aBY:∀v∈cv.take k++[Value.int .i64 x]++cv.drop k,v.oneCell'=true:=λv hv=>by
     simp only[A6,An,Bq] at hv;rcases hv with hv|rfl|hv
     .exact ũ v (AZ hv)
     .rfl
     .exact ũ v (AY hv)
    have Jj:(cv.take k++[Value.int .i64 x]++cv.drop k).length=n+1:=Et;have aMG:(cv.take k).length+[Value.int .i64 x].length+(cv.drop k).length=n+1:=by rw[<-Jj];simp only[Ao]
    have WE:(cs.take k++[Aa.int .i64 x]++(cs.take n).drop k).length=n+1:=by rw[<-Jj,Wg.length]
    have hsp:∀j,j<n+1->n+1<=cap->(w.cell? ⟨b,0+j,none⟩).isSome=true:=λj hj hc=>by rw[cell_of_row w _ _ us e fr t,CR Ab];rfl
    have hfz:∀j,j<n+1->n+1<=cap->w.frozen? ⟨b,0+j,none⟩=false:=λj hj hc=>by
     simp only[World.frozen?,t];rcases pf with rfl|XC
     .simp
     .simp;omega
    have l:∀(w1:World),n+1<=cap->w1=(w.drew).setRow b (cv.take k++[Value.int .i64 x]++cv.drop k++us.toList.drop (n+1)).toArray\/w1=w.setRow b (cv.take k++[Value.int .i64 x]++cv.drop k++us.toList.drop (n+1)).toArray->
      ∃U',Ic U' (h.set id .Ef++[.cells (cs.take k++[.int .i64 x]++(cs.take n).drop k)]) w1/\M1 U w U' w1/\BP U' (.Dn h.length 0 (n+1) 1) (.slice (some ⟨b,0,none⟩) (n+1) cap):=by
     intro w1 hroom xM;have Wb:(cv.take k++[Value.int .i64 x]++cv.drop k++us.toList.drop (n+1)).toArray.size=us.size:=by rw[B5,Ao,Jj,AX,Cp];omega
     have Vq:(cv.take k++[Value.int .i64 x]++cv.drop k++us.toList.drop (n+1)).toArray.toList.take (cs.take k++[Aa.int .i64 x]++(cs.take n).drop k).length=cv.take k++[Value.int .i64 x]++cv.drop k:=by rw[WE,<-Jj];exact E5
     have go:∀wd:World,Ic U h wd->M1 U w U wd->wd.heap[b]?=some (.cells us e fr)->∃U',Ic U' (h.set id .Ef++[.cells (cs.take k++[.int .i64 x]++(cs.take n).drop k)]) (wd.setRow b (cv.take k++[Value.int .i64 x]++cv.drop k++us.toList.drop (n+1)).toArray)/\M1 U w U' (wd.setRow b (cv.take k++[Value.int .i64 x]++cv.drop k++us.toList.drop (n+1)).toArray)/\BP U' (.Dn h.length 0 (n+1) 1) (.slice (some ⟨b,0,none⟩) (n+1) cap):=by
      intro wd Jk qZ hp;obtain⟨G,EU,XV,M5,aDl⟩:=Jk.rel.xo hcs hm hp (by rw[Lk,z]) (cv.take k++[Value.int .i64 x]++cv.drop k++us.toList.drop (n+1)).toArray (cs.take k++[.int .i64 x]++(cs.take n).drop k) Wb
       (by
        rcases pf with rfl|pf
        .exact .inl rfl
        .exact .inr (by rw[Wb];exact pf)) (by rw[Vq];exact Wg) (by rw[Vq];exact aBY)
      exact⟨G,M5.Ee,qZ.trans M5.D7,b,cap,XV,rfl,hroom,⟨C3 0,ř⟩,by rw[aDl,z]⟩
     rcases xM with rfl|rfl
     .obtain⟨Jk,qZ⟩:=hi.M7 hd;exact go w.drew Jk qZ t
     .exact go w hi (M1.refl _ _) t
    have u:∀(w1:World) (c:Nat) (d:List Value),n+1<=c->c<=maxLen->d.length=c-(n+1)->w1.heap=(w.heap.push (.cells (cv.take k++[Value.int .i64 x]++cv.drop k++d).toArray 3 (0,0)))->w1.os=w.os->w1.tape=w.tape->w1.output=w.output->
      ∃U',Ic U' (h.set id .Ef++[.cells (cs.take k++[.int .i64 x]++(cs.take n).drop k)]) w1/\M1 U w U' w1/\BP U' (.Dn h.length 0 (n+1) 1) (.slice (some ⟨w.heap.size,0,none⟩) (n+1) c):=by
     intro w1 c d hc hcl uj I ho ht E;have Wb:(cv.take k++[Value.int .i64 x]++cv.drop k++d).toArray.size=c:=by simp only[B5,Ao,aMG,uj];omega
     have Vq:(cv.take k++[Value.int .i64 x]++cv.drop k++d).toArray.toList.take (cs.take k++[Aa.int .i64 x]++(cs.take n).drop k).length=cv.take k++[Value.int .i64 x]++cv.drop k:=by rw[WE,<-Jj];exact E5
     obtain⟨G,EU,XV,M5,aDl⟩:=(hi.rel.kill id).newObj (cv.take k++[Value.int .i64 x]++cv.drop k++d).toArray 3 (0,0) (cs.take k++[.int .i64 x]++(cs.take n).drop k) (.inl rfl) (by rw[Vq];exact Wg) (by rw[Vq];exact aBY);have hb:Below (w.alloc (.cells (cv.take k++[Value.int .i64 x]++cv.drop k++d).toArray 3 (0,0))).heap.size (w.alloc (.cells (cv.take k++[Value.int .i64 x]++cv.drop k++d).toArray 3 (0,0))) w1:=⟨ho,ht,E,by rw[I];exact Ad _,λk' _=>by rw[I];rfl⟩;obtain⟨F,Ū⟩:=M5.Ee.M7 hb;have hlen:(h.set id .Ef).length=h.length:=AB;rw[hlen] at XV;exact⟨G,F,M5.D7.trans Ū,w.heap.size,c,XV,rfl,hc,⟨C3 0,hcl⟩,by rw[aDl,Wb];simp⟩
    by_cases hroom:n+1<=cap
    .by_cases rY:k=n
     .subst rY;have hc:=Proofs.Any2.slices_Insert_int_end_room Proofs.Tryz.Ox b 0 k cap g 0 1 f [.int .i64 x] w Ab hroom ř rfl (λj hj=>by rw[(Ab:0+k+j=0+(k+j))];exact hsp _ Ab hroom) (λj hj=>by rw[(Ab:0+k+j=0+(k+j))];exact hfz _ Ab hroom) hvs h1v;refine hc.mono λe w' he=>?_;obtain⟨rfl,rfl⟩:=he;refine l _ hroom (.inr ?_);rw[EZ _ _ us w t Et,BE,o];congr 2
      rw[AR (Ab:cv.length<=k),Bf Ab,Bg];rfl
     .have hlt:k<n:=by omega
      have hc:=Proofs.Any2.slices_Insert_int_shift Proofs.Tryz.Ox b 0 n cap k g 0 1 f cv [.int .i64 x] w hlt Ab hroom ř hne Ũ rfl hcells (λj hj=>hsp j hj hroom) (λj hj=>hfz j hj hroom) hvs ũ h1v
       e0 e ud.size us.size (by simp[World.shape?,p]) (by simp[World.shape?,t]) Ab (by rw[World.frozen?,p];rfl) (by rw[World.frozen?,p];rfl)
      refine hc.mono λe w' he=>?_;obtain⟨rfl,rfl⟩:=he;refine l _ hroom (.inl ?_);have y:w.drew.heap[b]?=some (.cells us _ fr):=t;rw[EZ (cv.drop k) (0+(k+1)) us w.drew y Et,EZ [.int .i64 x] (0+k) _ _ (setRow_heap _ b us _ _ _ y) Et,fL _ _ _ _ us _ _ y];congr 2
      apply R7;intro j;have J:(us.toList.take (0+(k+1))++cv.drop k++us.toList.drop (0+(k+1)+(cv.drop k).length)).length=us.size:=Et;have V:∀q,us.toList.take q=(us.toList.take n).take q++(us.toList.drop n).take (q-n):=λq=>by
       conv=>lhs;rw[<-Br n us.toList]
       rw[wC];simp only[Ay,Cp];rw[BO (Ab:n<=us.size)]
      simp only[BE];have qX:(us.toList.take (k+1)++cv.drop k++us.toList.drop (k+1+(cv.drop k).length)).take k=cv.take k:=by rw[A6,Bi Et,CI,BO (FV k),V k,o,Nat.sub_eq_zero_of_le L,Q6,Bg]
      have Um:(us.toList.take (k+1)++cv.drop k++us.toList.drop (k+1+(cv.drop k).length)).drop (k+1)=cv.drop k++us.toList.drop (n+1):=by
       have:(us.toList.take (k+1)).length=k+1:=Et;rw[A6,Mp this];congr 2
       simp;omega
      simp only[AK,AW,BE];rw[qX,Um,A6,A6,A6]
    .by_cases rY:k=n
     .subst rY;have hc:=Proofs.Any2.slices_Insert_int_end_grow Proofs.Tryz.Ox (some ⟨b,0,none⟩) k cap g 0 1 f cv [.int .i64 x] w Ab hnc Ab (by simpa[AV] using C) Ũ rfl (λe=>by cases e) (λa ea j v hj=>by cases ea;have:=hcells j v hj;rw[BE] at this;rw[show(Addr.mk b 0 none).add j=⟨b,j,none⟩ by unfold Addr.add;split<;>simp_all];exact this) hvs h1v;refine hc.mono λe w' he=>?_;obtain⟨rfl,rfl⟩:=he;have IS:=grownCap_ge w (k+1) cap 3;refine u _ (grownCap w (k+1) cap 3) (Builtin.zeroCells (Value.int .i64 0).cells (grownCap w (k+1) cap 3 -(k+1))).toList IS (grownCap_le_maxLen _ _ _ _ (by simp only[AV] at C;simp only[maxLen];omega)) (by rw[Cp,size_zeroCells];exact Hz _) ?_ rfl rfl rfl;rw[AR (Ab:cv.length<=k),Bf Ab,Bg];show w.heap.push _=w.heap.push _;congr 2
      apply HV;simp;rfl
     .have hlt:k<n:=by omega
      have hc:=Proofs.Any2.slices_Insert_int_grow Proofs.Tryz.Ox b 0 n cap k g 0 1 f cv [.int .i64 x] w hlt Ab hnc Ab (by simpa[AV] using C) Ũ rfl hcells hvs ũ h1v;refine hc.mono λe w' he=>?_;obtain⟨rfl,rfl⟩:=he;have IS:=grownCap_ge w (n+1) cap 3;have eW:∀m,(Builtin.zeroCells (Value.int .i64 0).cells m).size=m:=λm=>by rw[size_zeroCells];exact Hz _
      refine u _ (grownCap w (n+1) cap 3) (Builtin.zeroCells (Value.int .i64 0).cells (grownCap w (n+1) cap 3 -(n+1))).toList IS (grownCap_le_maxLen _ _ _ _ (by simp only[AV] at C;simp only[maxLen];omega)) (by rw[Cp,eW]) ?_ ?_ ?_ ?_;all_goals
       obtain⟨B,z,O,N⟩:=mZ w cv k n (.int .i64 x) (Builtin.zeroCells (Value.int .i64 0).cells (n+1 -k)) (Builtin.zeroCells (Value.int .i64 0).cells (grownCap w (n+1) cap 3 -(n+1))) 3 Ũ hlt (eW _);first|exact B|exact z|exact O|exact N
   .cases hp
  .cases hp
 .cases hp
end
end Go.Am
