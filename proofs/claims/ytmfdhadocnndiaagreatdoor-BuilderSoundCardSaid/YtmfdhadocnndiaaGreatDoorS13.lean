/- Lemmas -/
import Derived.Test.YtmfdhadocnndiaaGreatDoorS11
import Derived.Test.YtmfdhadocnndiaaGreatDoorS9
import Derived.Test.YtmfdhadocnndiaaGreatDoorS12
set_option linter.all false
namespace Go.Am
open Go Go.RowKit
section
variable{U U':Gh}{h:Ah}{w w':World}
noncomputable def cx0:Fo:={cx with FV:=λ_=>none}
def Gm.rel(hi:Gm U h w):CF cx0 U w U (λ_=>0) [] h {tmps:=#[],defers:=[]} w:=
 ⟨hi,⟨rfl,λs=>trivial⟩,Kf.refl U w,rfl,λg cs hg=>by cases hg⟩
def W0(w:World)(g:Nat)(a b:Array Value)(us:Array Value)(e:TypeId)(fr:Nat×Nat)(hg:w.heap[g]?=some (.cells us e fr)):(w.setRow g a).setRow g b=w.setRow g b:=by
 unfold World.setRow;congr 1
 apply NF;intro i;by_cases hi:i=g;.subst hi;simp[Lb,hg]
 .simp[Lb,DK hi]
def Y2(w:World)(cv:List Value)(k n:Nat)(x:Value)(Z1 a:Array Value)(e:TypeId)(hl:cv.length=n)(hk:k<n)(hz:Z1.size=n+1 -k):
  let w1:=(((w.alloc (.cells ((cv.take k).toArray++Z1++a) e)).drew.setCells w.heap.size k [x]).drew).setCells w.heap.size (k+1) (cv.drop k)
  w1.heap=w.heap.push (.cells (cv.take k++[x]++cv.drop k++a.toList).toArray e (0,0))/\w1.os=w.os/\w1.tape=w.tape/\w1.output=w.output:=by
 intro w1;have b:(cv.take k).length=k:=Ew;have KM:((cv.take k).toArray++Z1++a).size=n+1+a.size:=by simp only[Ip,Bx,b,hz];omega
 have ja:(w.alloc (.cells ((cv.take k).toArray++Z1++a) e)).drew.heap[w.heap.size]?=some (.cells ((cv.take k).toArray++Z1++a) e (0,0)):=heap_alloc_new w _;have d:=D5 [x] k _ _ ja (by rw[KM];simp;omega);have f:(((cv.take k).toArray++Z1++a).toList.take k++[x]++((cv.take k).toArray++Z1++a).toList.drop (k+[x].length))=cv.take k++[x]++(Z1.toList.drop 1++a.toList):=by
  simp only[FT,AA,AO,Bq];congr 1
  .exact HR b
  .congr 1
   rw[<-Eb,JK b,Qe];have:1 -Z1.toList.length=0:=Ew;simp only[By] at*;rw[this,KG]
 rw[f] at d;have nK:((w.alloc (.cells ((cv.take k).toArray++Z1++a) e)).drew.setRow w.heap.size (cv.take k++[x]++(Z1.toList.drop 1++a.toList)).toArray).drew.heap[w.heap.size]?=some (.cells (cv.take k++[x]++(Z1.toList.drop 1++a.toList)).toArray e (0,0)):=setRow_heap _ _ _ _ _ _ ja;have Yh:(Z1.toList.drop 1).length=n-k:=by simp[hz];omega
 have c:=D5 (cv.drop k) (k+1) _ _ nK (by simp[hz];omega);have hB:((cv.take k++[x]++(Z1.toList.drop 1++a.toList)).toArray.toList.take (k+1)++cv.drop k++(cv.take k++[x]++(Z1.toList.drop 1++a.toList)).toArray.toList.drop (k+1+(cv.drop k).length))=cv.take k++[x]++cv.drop k++a.toList:=by
  have h1:(cv.take k++[x]).length=k+1:=Ew;simp only[Jg];rw[HR h1,<-Eb,JK h1];congr 1
  exact JK (by rw[Yh];simp;omega)
 rw[hB] at c;have R5:w1=((w.alloc (.cells ((cv.take k).toArray++Z1++a) e)).drew.setRow w.heap.size (cv.take k++[x]++(Z1.toList.drop 1++a.toList)).toArray).drew.setRow w.heap.size (cv.take k++[x]++cv.drop k++a.toList).toArray:=by show((((w.alloc _).drew.setCells _ _ _).drew).setCells _ _ _)=_;rw[d,c]
 rw[R5];refine⟨?_,rfl,rfl,rfl⟩;apply NF;intro i;by_cases hi:i=w.heap.size;.subst hi;rw[setRow_heap _ _ _ _ _ _ nK];simp
 .rw[setRow_other _ _ _ _ hi];show((w.alloc _).drew.setRow _ _).heap[i]?=_;rw[setRow_other _ _ _ _ hi];show(w.heap.push _)[i]?=_;rw[Vj,Vj,Ac hi,Ac hi]
def nV:rT cx 167:=by
 refine⟨⟨_,_,Proofs.Tryz.func167,rfl,rfl⟩,?_⟩;intro U h w s I i x h' r g f qE e0 hi hs hp å A Of N aHV;have hd:Below w.heap.size w w.drew:=(Below.refl _ _).drew;have hvs:∀(j:Nat) (v:Value),[Value.int .i64 x][j]?=some v->w.cell? ⟨g,0+j,none⟩=some v:=λj v hj=>by
  cases j with
  |zero=>cases hj;rw[cell_of_row w _ _ qE e0 (0,0) å];exact A
  |succ j=>simp at hj
 have h1v:∀v∈[Value.int .i64 x],v.oneCell'=true:=λv hv=>by simp at hv;subst hv;rfl
 have O:g<w.heap.size:=(Aq.1 å).1;unfold NJ at hp;split at hp
 .rename_i M x' IS;cases IS;split at hp
  .rename_i h0;subst h0;cases hp;have H5:I= .slice none 0 0:=hs;subst H5;have hc:=Proofs.Any2.slices_Insert_int_end_grow Proofs.Tryz.LN none 0 0 g 0 1 f [] [.int .i64 x] w Ab (Ae _) Ab Br rfl rfl (λ_=>rfl) (λ_ e=>by cases e) hvs h1v;refine hc.mono λe w' he=>?_;obtain⟨rfl,rfl⟩:=he;have GR:=grownCap_ge w (0+1) 0 3;have hsz:(([]++[Value.int .i64 x]).toArray++Builtin.zeroCells (Value.int .i64 0).cells (grownCap w (0+1) 0 3 -(0+1))).size=grownCap w (0+1) 0 3:=by simp only[Ip,size_zeroCells];show 1+(grownCap w 1 0 3 -1)*1=_;have:grownCap w (0+1) 0 3=grownCap w 1 0 3:=rfl;omega
   obtain⟨VF,Pw⟩:=Ma (hi.JA hd).1 (.cells (([]++[Value.int .i64 x]).toArray++Builtin.zeroCells (Value.int .i64 0).cells (grownCap w (0+1) 0 3 -(0+1))) 3 (0,0)) (.cells [.int .i64 x]) (some _)
    (.inl ⟨_,_,_,_,rfl,rfl,.inl rfl,⟨_,[],Av,rfl,rfl⟩,by simp[Value.oneCell'],rfl⟩)
   exact⟨_,VF,(hi.JA hd).2.trans Pw,⟨w.heap.size,grownCap w (0+1) 0 3,by simp[Gh.BP],rfl,GR,⟨CB 0,grownCap_le_maxLen _ _ _ _ Br⟩,by simp only[Gh.BP];rw[Ad (show w.heap.size=w.drew.heap.size from rfl),hsz,Fm];exact B8 some (By _).symm⟩⟩
  .cases hp
 .rename_i id n M x' IS;cases IS;split at hp
  .rename_i cs hcs;split at hp
   .rename_i Gx;obtain⟨S,H,G,z⟩:=Gx;cases hp;obtain⟨b,cap,hm,rfl,hnc,⟨_,yL⟩,hsz⟩:=(show Bv U _ _ from hs);obtain⟨us,e,fr,o,pf,D,L⟩:=hi.cells id cs hcs b hm;obtain⟨⟨C4,R,mI,y,u⟩,_⟩:=hi.sz b _ hsz;rw[o] at y;cases y;obtain⟨P,zi,aBG⟩:=hi.KJ id _ hcs Av;rw[hm] at zi;cases zi;have hne:g≠b:=λhe=>Of id (by rw[he];exact aBG);have YH:cs.length<=us.size:=by have:=D.length;simp at this;omega
    have MQ:us.size=cap:=by rw[u];omega
    obtain⟨k,hk⟩:∃k:Nat,i=k:=⟨i.toNat,Ab⟩;subst hk;simp only[Bz] at*;generalize zq:us.toList.take n=cv;have ah:cv.length=n:=by rw[<-zq];simp;omega
    have hcells:∀(j:Nat) (v:Value),cv[j]?=some v->w.cell? ⟨b,0+j,none⟩=some v:=λj v hj=>by
     rw[cell_of_row w _ _ us e fr o,By];rw[<-zq,B2] at hj;split at hj;.simpa using hj
     .cases hj
    have aj:∀v∈cv,v.oneCell'=true:=λv hv=>L v (by
     rw[<-zq] at hv;have:us.toList.take n=(us.toList.take cs.length).take n:=by rw[Gk,Cr G]
     rw[this] at hv;exact AS hv)
    have hcr:AQ U (cs.take n) cv:=by have:=D.take n;rw[Gk,Cr G,zq] at this;exact this
    have R5:AQ U (cs.take k++[.int .i64 x]++(cs.take n).drop k) (cv.take k++[.int .i64 x]++cv.drop k):=by
     have F:cs.take k=(cs.take n).take k:=by rw[Gk,Cr H]
     rw[F];exact((hcr.take k).append (show AQ U [.int .i64 x] [Value.int .i64 x] from⟨_,[],rfl,rfl,rfl⟩)).append (hcr.drop k)
    have ji:∀v∈cv.take k++[Value.int .i64 x]++cv.drop k,v.oneCell'=true:=λv hv=>by
     simp only[AA,An,Eg] at hv;rcases hv with hv|rfl|hv
     .exact aj v (AS hv)
     .rfl
     .exact aj v (Bc hv)
    have HI:(cv.take k++[Value.int .i64 x]++cv.drop k).length=n+1:=Ew;have aBH:(cv.take k).length+[Value.int .i64 x].length+(cv.drop k).length=n+1:=by rw[<-HI];simp only[Ap]
    have WJ:(cs.take k++[Aa.int .i64 x]++(cs.take n).drop k).length=n+1:=by rw[<-HI,R5.length]
    have hsp:∀j,j<n+1->n+1<=cap->(w.cell? ⟨b,0+j,none⟩).isSome=true:=λj hj hc=>by rw[cell_of_row w _ _ us e fr o,B9 Ab];rfl
    have hfz:∀j,j<n+1->n+1<=cap->w.frozen? ⟨b,0+j,none⟩=false:=λj hj hc=>by
     simp only[World.frozen?,o];rcases pf with rfl|gP
     .simp
     .simp;omega
    have l:∀(w1:World),n+1<=cap->w1=(w.drew).setRow b (cv.take k++[Value.int .i64 x]++cv.drop k++us.toList.drop (n+1)).toArray\/w1=w.setRow b (cv.take k++[Value.int .i64 x]++cv.drop k++us.toList.drop (n+1)).toArray->
      ∃U',Gm U' (h.set id .DD++[.cells (cs.take k++[.int .i64 x]++(cs.take n).drop k)]) w1/\Kf U w U' w1/\Bv U' (.CI h.length 0 (n+1) 1) (.slice (some ⟨b,0,none⟩) (n+1) cap):=by
     intro w1 hroom ja;have RZ:(cv.take k++[Value.int .i64 x]++cv.drop k++us.toList.drop (n+1)).toArray.size=us.size:=by rw[Bx,Ap,HI,A5,BR];omega
     have Ro:(cv.take k++[Value.int .i64 x]++cv.drop k++us.toList.drop (n+1)).toArray.toList.take (cs.take k++[Aa.int .i64 x]++(cs.take n).drop k).length=cv.take k++[Value.int .i64 x]++cv.drop k:=by rw[WJ,<-HI];exact ED
     have go:∀wd:World,Gm U h wd->Kf U w U wd->wd.heap[b]?=some (.cells us e fr)->∃U',Gm U' (h.set id .DD++[.cells (cs.take k++[.int .i64 x]++(cs.take n).drop k)]) (wd.setRow b (cv.take k++[Value.int .i64 x]++cv.drop k++us.toList.drop (n+1)).toArray)/\Kf U w U' (wd.setRow b (cv.take k++[Value.int .i64 x]++cv.drop k++us.toList.drop (n+1)).toArray)/\Bv U' (.CI h.length 0 (n+1) 1) (.slice (some ⟨b,0,none⟩) (n+1) cap):=by
      intro wd Hn bN hp;obtain⟨C,D0,Td,KT,ph⟩:=Hn.rel.rY hcs hm hp (by rw[hsz,u]) (cv.take k++[Value.int .i64 x]++cv.drop k++us.toList.drop (n+1)).toArray (cs.take k++[.int .i64 x]++(cs.take n).drop k) RZ
       (by
        rcases pf with rfl|pf
        .exact .inl rfl
        .exact .inr (by rw[RZ];exact pf)) (by rw[Ro];exact R5) (by rw[Ro];exact ji)
      exact⟨C,KT.Dr,bN.trans KT.Dh,b,cap,Td,rfl,hroom,⟨CB 0,yL⟩,by rw[ph,u]⟩
     rcases ja with rfl|rfl
     .obtain⟨Hn,bN⟩:=hi.JA hd;exact go w.drew Hn bN o
     .exact go w hi (Kf.refl _ _) o
    have p:∀(w1:World) (c:Nat) (d:List Value),n+1<=c->c<=maxLen->d.length=c-(n+1)->w1.heap=(w.heap.push (.cells (cv.take k++[Value.int .i64 x]++cv.drop k++d).toArray 3 (0,0)))->w1.os=w.os->w1.tape=w.tape->w1.output=w.output->
      ∃U',Gm U' (h.set id .DD++[.cells (cs.take k++[.int .i64 x]++(cs.take n).drop k)]) w1/\Kf U w U' w1/\Bv U' (.CI h.length 0 (n+1) 1) (.slice (some ⟨w.heap.size,0,none⟩) (n+1) c):=by
     intro w1 c d hc hcl sM E ho ht B;have RZ:(cv.take k++[Value.int .i64 x]++cv.drop k++d).toArray.size=c:=by simp only[Bx,Ap,aBH,sM];omega
     have Ro:(cv.take k++[Value.int .i64 x]++cv.drop k++d).toArray.toList.take (cs.take k++[Aa.int .i64 x]++(cs.take n).drop k).length=cv.take k++[Value.int .i64 x]++cv.drop k:=by rw[WJ,<-HI];exact ED
     obtain⟨C,D0,Td,KT,ph⟩:=(hi.rel.kill id).newObj (cv.take k++[Value.int .i64 x]++cv.drop k++d).toArray 3 (0,0) (cs.take k++[.int .i64 x]++(cs.take n).drop k) (.inl rfl) (by rw[Ro];exact R5) (by rw[Ro];exact ji);have hb:Below (w.alloc (.cells (cv.take k++[Value.int .i64 x]++cv.drop k++d).toArray 3 (0,0))).heap.size (w.alloc (.cells (cv.take k++[Value.int .i64 x]++cv.drop k++d).toArray 3 (0,0))) w1:=⟨ho,ht,B,by rw[E];exact Ae _,λk' _=>by rw[E];rfl⟩;obtain⟨ak,tC⟩:=KT.Dr.JA hb;have hlen:(h.set id .DD).length=h.length:=Av;rw[hlen] at Td;exact⟨C,ak,KT.Dh.trans tC,w.heap.size,c,Td,rfl,hc,⟨CB 0,hcl⟩,by rw[ph,RZ];simp⟩
    by_cases hroom:n+1<=cap
    .by_cases æ:k=n
     .subst æ;have hc:=Proofs.Any2.slices_Insert_int_end_room Proofs.Tryz.LN b 0 k cap g 0 1 f [.int .i64 x] w Ab hroom yL rfl (λj hj=>by rw[(Ab:0+k+j=0+(k+j))];exact hsp _ Ab hroom) (λj hj=>by rw[(Ab:0+k+j=0+(k+j))];exact hfz _ Ab hroom) hvs h1v;refine hc.mono λe w' he=>?_;obtain⟨rfl,rfl⟩:=he;refine l _ hroom (.inr ?_);rw[D5 _ _ us w o Ew,By,zq];congr 2
      rw[A6 (Ab:cv.length<=k),AT Ab,Bi];rfl
     .have hlt:k<n:=by omega
      have hc:=Proofs.Any2.slices_Insert_int_shift Proofs.Tryz.LN b 0 n cap k g 0 1 f cv [.int .i64 x] w hlt Ab hroom yL hne ah rfl hcells (λj hj=>hsp j hj hroom) (λj hj=>hfz j hj hroom) hvs aj h1v
       e0 e qE.size us.size (by simp[World.shape?,å]) (by simp[World.shape?,o]) Ab (by rw[World.frozen?,å];rfl) (by rw[World.frozen?,å];rfl)
      refine hc.mono λe w' he=>?_;obtain⟨rfl,rfl⟩:=he;refine l _ hroom (.inl ?_);have t:w.drew.heap[b]?=some (.cells us _ fr):=o;rw[D5 (cv.drop k) (0+(k+1)) us w.drew t Ew,D5 [.int .i64 x] (0+k) _ _ (setRow_heap _ b us _ _ _ t) Ew,W0 _ _ _ _ us _ _ t];congr 2
      apply Oy;intro j;have F:(us.toList.take (0+(k+1))++cv.drop k++us.toList.drop (0+(k+1)+(cv.drop k).length)).length=us.size:=Ew;have Q:∀q,us.toList.take q=(us.toList.take n).take q++(us.toList.drop n).take (q-n):=λq=>by
       conv=>lhs;rw[<-Cd n us.toList]
       rw[gB];simp only[Aw,BR];rw[Cr (Ab:n<=us.size)]
      simp only[By];have SX:(us.toList.take (k+1)++cv.drop k++us.toList.drop (k+1+(cv.drop k).length)).take k=cv.take k:=by rw[AA,Da Ew,Gk,Cr (EL k),Q k,zq,Nat.sub_eq_zero_of_le H,ND,Bi]
      have O7:(us.toList.take (k+1)++cv.drop k++us.toList.drop (k+1+(cv.drop k).length)).drop (k+1)=cv.drop k++us.toList.drop (n+1):=by
       have:(us.toList.take (k+1)).length=k+1:=Ew;rw[AA,JK this];congr 2
       simp;omega
      simp only[AO,Bq,By];rw[SX,O7,AA,AA,AA]
    .by_cases æ:k=n
     .subst æ;have hc:=Proofs.Any2.slices_Insert_int_end_grow Proofs.Tryz.LN (some ⟨b,0,none⟩) k cap g 0 1 f cv [.int .i64 x] w Ab hnc Ab (by simpa[AN] using z) ah rfl (λe=>by cases e) (λa ea j v hj=>by cases ea;have:=hcells j v hj;rw[By] at this;rw[show(Addr.mk b 0 none).add j=⟨b,j,none⟩ by unfold Addr.add;split<;>simp_all];exact this) hvs h1v;refine hc.mono λe w' he=>?_;obtain⟨rfl,rfl⟩:=he;have GR:=grownCap_ge w (k+1) cap 3;refine p _ (grownCap w (k+1) cap 3) (Builtin.zeroCells (Value.int .i64 0).cells (grownCap w (k+1) cap 3 -(k+1))).toList GR (grownCap_le_maxLen _ _ _ _ (by simp only[AN] at z;simp only[maxLen];omega)) (by rw[BR,size_zeroCells];exact Fm _) ?_ rfl rfl rfl;rw[A6 (Ab:cv.length<=k),AT Ab,Bi];show w.heap.push _=w.heap.push _;congr 2
      apply Fw;simp;rfl
     .have hlt:k<n:=by omega
      have hc:=Proofs.Any2.slices_Insert_int_grow Proofs.Tryz.LN b 0 n cap k g 0 1 f cv [.int .i64 x] w hlt Ab hnc Ab (by simpa[AN] using z) ah rfl hcells hvs aj h1v;refine hc.mono λe w' he=>?_;obtain⟨rfl,rfl⟩:=he;have GR:=grownCap_ge w (n+1) cap 3;have hzs:∀m,(Builtin.zeroCells (Value.int .i64 0).cells m).size=m:=λm=>by rw[size_zeroCells];exact Fm _
      refine p _ (grownCap w (n+1) cap 3) (Builtin.zeroCells (Value.int .i64 0).cells (grownCap w (n+1) cap 3 -(n+1))).toList GR (grownCap_le_maxLen _ _ _ _ (by simp only[AN] at z;simp only[maxLen];omega)) (by rw[BR,hzs]) ?_ ?_ ?_ ?_;all_goals
       obtain⟨y,u,K,J⟩:=Y2 w cv k n (.int .i64 x) (Builtin.zeroCells (Value.int .i64 0).cells (n+1 -k)) (Builtin.zeroCells (Value.int .i64 0).cells (grownCap w (n+1) cap 3 -(n+1))) 3 ah hlt (hzs _);first|exact y|exact u|exact K|exact J
   .cases hp
  .cases hp
 .cases hp
end
end Go.Am
