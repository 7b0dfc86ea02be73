/- Lemmas -/
import Derived.Test.YtglbboamemndeaaGreatDoorS4
import Derived.Deep.AppendSrc
import Derived.Great.BuildSlice
import Derived.Laws.IdiomStrings
set_option linter.all false
section
namespace Go.Am
open Go
section
variable{C:Fx}{U0 U U':Gh}{w0 w w':World}{O:Nat->Nat}{Z:BF}{h:Ai}{a:Act}{fid:FuncId}{ops:List Oper}
def Dk{P:Program}{s:Sem Value}{v:Value}(hs:s.run P w= .ok v w'):(do pure (Next.value (<-s)):Sem Next).run P w= .ok (.value v) w':=by simp[hs]
def T3{J:Type}{z:Nat}:∀{Av:List (List J)},(∀r∈Av,r.length=z)->∀{i:Nat} {r:List J},Av[i]?=some r->∀{j:Nat} {x:J},r[j]?=some x->Av.flatten[i*z+j]?=some x
 |[],_,i,r,hi,_,_,_=>by simp at hi
 |q::Av,hl,0,r,hi,j,x,hj=>by simp at hi;subst hi;have:j<q.length:=(Al.1 hj).1;simp only[Me,BB,CB];rw[An this];exact hj
 |q::Av,hl,i+1,r,hi,j,x,hj=>by
  simp at hi;have hq:q.length=z:=hl q Ax;rw[CB,Bw (by rw[hq,BC];omega)];have:=T3 (Av:=Av) (λr hr=>hl r (by simp[hr])) hi hj;rw[<-this];congr 1
  rw[hq,BC];omega
def Hb{J:Type}{z:Nat}:∀{Av:List (List J)},(∀r∈Av,r.length=z)->Av.flatten.length=Av.length*z
 |[],_=>Ax
 |q::Av,hl=>by have hq:q.length=z:=hl q Ax;simp[hq,Hb (Av:=Av) (λr hr=>hl r (by simp[hr])),BC,Mc]
def N1{Av:List (List Aa)}{us:List Value}{z b o:Nat}(hl:∀r∈Av,r.length=z)(hv:AX U Av.flatten us)(hi:∀(j:Nat) (u:Value),us[j]?=some u->U.HW b (o+j)=some u):EL U Av z b o:=by refine EL.GD λi r hr=>⟨hl r (Cr hr),CQ.GD λj x hj=>?_⟩;obtain⟨u,hu,hx⟩:=hv.get (T3 hl hr hj);exact⟨u,by rw[Rr];exact hi _ _ hu,hx⟩
def CW.drew(hr:CW C U0 w0 U O Z h a w):CW C U0 w0 U O Z h a w.drew:=hr.IA (hr.DL.same rfl) (LR.drew U w)
def BF.Tk(Z:BF):Z.at Z.length= .undef:=by simp[BF.at,List.getD]
def CW.Wm(hr:CW C U0 w0 U O Z h a w){x:Aa}{v:Value}(hv:BH U x v)(ho:IP U w0.heap.size w Z.length none v x)(d:Option Nat):∃U',CW C U0 w0 U' O (Z.put d (.BI x)) h (a.put d v) w:=by
 cases d with
 |none=>exact⟨U,hr⟩
 |some d=>
  rcases ho with ho|⟨g,n,cap,us,e,z,Av,h1,h2,f,b,c⟩
  .exact⟨U,hr.put λs _=>⟨hv,.inl ho⟩⟩
  .have Jv:=hr.Fq (s':=d) (c':=none) f b (λ_ u=>by rw[BF.Tk];simp) (λo ho=>by cases ho);exact⟨_,Jv.put λs hs=>by cases hs;exact⟨BH.mono (GY _ _ _) _ _ hv,.inr ⟨g,n,cap,us,e,z,Av,h1,h2,by simp[Gh.Fq],b,c⟩⟩⟩
def CW.Wn(hr:CW C U0 w0 U O Z h a w)(us:Array Value)(e:TypeId){z n cap:Nat}{Av:List (List Aa)}(hz:0<z)(hn:Av.length=n)(hl:∀r∈Av,r.length=z)(Zk:us.size=cap*z)(hc:n<=cap)(hm:cap<=maxLen)
  (hv:AX U Av.flatten (us.toList.take (n*z))) (h1:∀u∈us.toList.take (n*z),u.oneCell'=true):
  ∃U',U.le U'/\CW C U0 w0 U' O Z h a (w.alloc (.cells us e))/\BH U' (.sl z Av) (.slice (some ⟨w.heap.size,0,none⟩) n cap)/\IP U' w0.heap.size (w.alloc (.cells us e)) Z.length none (.slice (some ⟨w.heap.size,0,none⟩) n cap) (.sl z Av):=by
 obtain⟨hi,ha⟩:=O6 hr.DL us e (0,0) (n*z) (some (.tail Z.length none (n*z))) (λo u ho hu=>h1 u (Cr (i:=o) (by rw[CN ho];simpa using hu))) (.inr (.inl ⟨_,_,rfl⟩));refine⟨_,ha.le,hr.IA hi ha,⟨⟨w.heap.size,0,none⟩,cap,by rw[hn],Ac,.inl rfl,N1 hl (AX.mono ha.le _ _ hv) λj u hj=>?_⟩,.inr ⟨w.heap.size,n,cap,us,e,z,Av,rfl,rfl,by simp[Gh.C5],hr.DE.size,heap_alloc_new w _,Zk,hc,hm,hz⟩⟩;rw[Cg] at hj;split at hj;.rename_i hlt;simp only[Gh.C5,BE,BB,Ag hlt];simpa using hj
 .cases hj
def Wo{size:Nat}:∀(vs:List Value) (k:Nat) (cells:Array Value),(∀v∈vs,v.cells.size=size)->(k+vs.length)*size<=cells.size->
  Instr.fill (λi=>some (i*size,size)) cells ((vs.zipIdx k).map λp=>(p.2,p.1))=some (cells.toList.take (k*size)++vs.flatMap (·.cells.toList)++cells.toList.drop ((k+vs.length)*size)).toArray
 |[],k,cells,_,_=>by simp[Instr.fill]
 |v::vs,k,cells,hv,hl=>by
  have hs:v.cells.size=size:=hv v Ax;simp only[AG] at hl;have Es:(k+1)*size+vs.length*size<=cells.size:=by rw[<-BC];exact Bn (Md (by congr 1;omega)) hl
  have pA:(k+1)*size=k*size+size:=by rw[BC,Eo]
  simp only[vB,A9,Instr.fill];have f:¬(v.cells.size≠size\/k*size+v.cells.size>cells.size):=by rw[hs];omega
  simp only[Cj,decide_not,OA,Co,aLq,decide_eq_false_iff_not] at*;rw[Af f];have hf:=NY v.cells.toList (k*size) 0 cells (by simp[hs];omega);have aGx:v.cells.zipIdx.foldl (λcs (c,j)=>cs.setIfInBounds (k*size+j) c) cells=(cells.toList.take (k*size)++v.cells.toList++cells.toList.drop (k*size+size)).toArray:=by rw[<-aJO,aGn];rw[hf];simp[hs]
  rw[aGx];have hlen:(cells.toList.take (k*size)++v.cells.toList++cells.toList.drop (k*size+size)).length=cells.size:=by simp[hs];omega
  rw[Wo vs (k+1) _ (λu hu=>hv u (by simp[hu])) (by simp only[BU];rw[hlen,BC];exact Es)]
  congr 2
  have b:(cells.toList.take (k*size)++v.cells.toList).length=(k+1)*size:=by simp[hs];omega
  have e:(cells.toList.take (k*size)++v.cells.toList++cells.toList.drop (k*size+size)).take ((k+1)*size)=cells.toList.take (k*size)++v.cells.toList:=by rw[<-b];exact EE
  have d:(cells.toList.take (k*size)++v.cells.toList++cells.toList.drop (k*size+size)).drop ((k+1+vs.length)*size)=cells.toList.drop ((k+(vs.length+1))*size):=by
   rw[SV,AV (by rw[b];exact D1 _ Ac),b,ED,BR];congr 1
   have:(k+1+vs.length)*size-(k+1)*size=vs.length*size:=by rw[BC (k+1)];omega
   rw[this,BC k,BC vs.length];omega
  rw[e,d];simp
def KR{P:Program}{t:TypeId}(h:LP P t=true):∃i z,P.info? t=some i/\i.zero=some z/\z.cells.size=i.size:=by
 unfold LP at h;split at h
 .rename_i i hi;split at h;.rename_i z hz;exact⟨i,z,hi,hz,by simpa using h⟩
  .cases h
 .cases h
def Jk{P:Program}{t:TypeId}{n:Nat}{i:TypeInfo}(h:BQ P t=some n)(hi:P.info? t=some i):i.size=n:=by simpa[BQ,hi] using h
def Lv{P:Program}{t:TypeId}{n:Nat}{i:TypeInfo}(h:JB P t=some n)(hi:P.info? t=some i):i.bytes=n:=by simpa[JB,hi] using h
def Wp:∀{args:List Aa} {us:List Value} {z:Nat},AX U args us->(∀x∈args,x.cells.length=z)->0<z->AX U (args.map (·.cells)).flatten (us.flatMap (·.cells.toList))/\(∀u∈us.flatMap (·.cells.toList),u.oneCell'=true)/\∀u∈us,u.cells.size=z
 |[],us,z,h,_,_=>by rw[AX] at h;subst h;exact⟨rfl,Ax,Ax⟩
 |x::args,us,z,h,hl,hz=>by
  obtain⟨u,Dq,rfl,h1,h2⟩:=h;have hx:=hl x Ax;obtain⟨b,e⟩:=GZ h1 Ac;obtain⟨d,r2,c⟩:=Wp h2 (λy hy=>hl y (by simp[hy])) hz;refine⟨by simpa using b.append d,λv hv=>?_,λv hv=>?_⟩;.simp only[List.flatMap_cons,Aq] at hv;exact hv.elim (e v) (r2 v)
  .rcases AF.1 hv with rfl|hv
   .have:=b.length;simp at this;omega
   .exact c v hv
def Zv{a:Act}:∀{l:List (Nat×Operand)} {k:Nat},l.map (·.1)=List.range' k l.length->l.map (λp=>(p.1,a.eval p.2))=((l.map λp=>a.eval p.2).zipIdx k).map λp=>(p.2,p.1)
 |[],k,_=>Ax
 |(i,x)::l,k,h=>by simp only[A9,AG,List.range'_succ,EJ] at h;obtain⟨rfl,h⟩:=h;simp[vB,Zv h]
def jr{o:Oper}{t e:TypeId}{len n:Nat}{parts:Array (Nat×Operand)}{args:List Aa}{u:Aa}(ho:o.op= .buildSlice t len parts)(ht:C.P.underlying t=some (.slice e))(K8:BQ C.P e=some (n+1))(hp:parts.toList.map (·.1)=List.range len)(kC:LP C.P e=true)
  (ha:Bq C Z (parts.toList.map (·.2))=some args) (hu:Az (.DX (n+1)) args=some u) (hr:CW C U0 w0 U O Z h a w):Fu C U0 w0 o a w (Z.put o.dst (.BI u)) h:=by
 obtain⟨i,z,hi,hz,bC⟩:=KR kC;have Qo:=Jk K8 hi;simp only[Az] at hu;split at hu
 .rename_i hc;cases hu;simp only[A7,DK,vn,Co] at hc;obtain⟨YJ,KS⟩:=hc;have Ey:=DF hr ha;have hlen:parts.toList.length=len:=by have:=Cm List.length hp;simpa using this
  have kD:args.length=len:=by have:=Ey.length;simp at this;simp at hlen;omega
  obtain⟨d,g,f⟩:=Wp Ey YJ (CS n);have Zw:=d.length;rw[Hb (z:=n+1) (by intro r hr;obtain⟨x,hx,rfl⟩:=A4.1 hr;exact YJ x hx),Aw,kD] at Zw;have AH:∃cells:Array Value,cells.toList=(parts.toList.map (·.2) |>.map a.eval).flatMap (·.cells.toList)/\(Instr.buildSlice t len (parts.map λ(i,x)=>(i,a.eval x))).run C.P w= .ok (.slice (some ⟨w.heap.size,0,none⟩) len len) (w.alloc (.cells cells e)):=by
   have v8:(parts.map λ(i,x)=>(i,a.eval x)).toList=(((parts.toList.map (·.2)).map a.eval).zipIdx 0).map λp=>(p.2,p.1):=by have:=Zv (a:=a) (l:=parts.toList) (k:=0) (by rw[hlen,<-aFv];exact hp);simp only[M5,List.map_map];exact this
   have vX:=Wo (size:=n+1) ((parts.toList.map (·.2)).map a.eval) 0 ((Array.range (len*(n+1))).map (z.cells[·%z.cells.size]!)) f (by simp at hlen⊢;rw[hlen];exact Ab _);rw[<-v8] at vX;have e0:((Array.range (len*(n+1))).map (z.cells[·%z.cells.size]!)).toList.drop ((0+((parts.toList.map (·.2)).map a.eval).length)*(n+1))=[]:=by apply AV;simp at hlen⊢;rw[hlen];exact Ab _
   rw[e0] at vX;simp only[Me,Ih,BR,Bs] at vX;refine⟨_,rfl,?_⟩;by_cases h0:len*(n+1)=0
   .have c:len=0:=by
     rcases Nat.mul_eq_zero.1 h0 with h|h
     .exact h
     .omega
    subst c;have ħ:parts=#[]:=by apply Ig;simpa using hlen
    subst ħ;have b:(Array.range 0:Array Nat)=#[]:=rfl;simp[Instr.buildSlice,run_underlying ht,sizeOf,typeInfo,hi,newRow,Instr.fill,b]
   .exact run_buildSlice w t e len _ _ i z ht hi hz (by rw[Qo];rw[kD] at KS;omega) (by rw[Qo];exact h0) (by rw[Qo];exact vX)
  obtain⟨cells,hcells,AH⟩:=AH;have hcs:cells.size=len*(n+1):=by rw[<-B5,hcells];exact Zw
  obtain⟨U',Es,Hn,Hq,Fl⟩:=hr.Wn cells e (z:=n+1) (n:=len) (cap:=len) (Av:=args.map (·.cells)) (CS n) (by simp[kD]) (by intro r hr;obtain⟨x,hx,rfl⟩:=A4.1 hr;exact YJ x hx) hcs (Ab _)
   (by rw[kD] at KS;have:len<=len*(n+1):=Ii _ (CS n);simp only[maxLen];omega) (by rw[hcells,A8 (by rw[Zw];exact Ab _)];exact d) (by rw[hcells,A8 (by rw[Zw];exact Ab _)];exact g)
  obtain⟨j,Lu⟩:=Hn.Wm Hq Fl o.dst;exact Fu.value (by simp only[execOp,ho];exact Dk AH) Lu
 .cases hu
def js{o:Oper}{t e:TypeId}{len n:Nat}{parts:Array (Nat×Operand)}(ho:o.op= .buildSlice t len parts)(ht:C.P.underlying t=some (.slice e))(K8:BQ C.P e=some (n+1))(hp:parts.toList.map (·.1)=List.range len)(kC:LP C.P e=true)(h0:len=0)
  (hr:CW C U0 w0 U O Z h a w):Fu C U0 w0 o a w (Z.put o.dst (.BI (.EI (n+1)))) h:=by
 subst h0;obtain⟨i,z,hi,hz,bC⟩:=KR kC;have ħ:parts=#[]:=by apply Ig;have:=Cm List.length hp;simpa using this
 subst ħ;have b:(Array.range 0:Array Nat)=#[]:=rfl;have AH:(Instr.buildSlice t 0 ((#[]:Array (Nat×Operand)).map λ(i,x)=>(i,a.eval x))).run C.P w= .ok (.slice (some ⟨w.heap.size,0,none⟩) 0 0) (w.alloc (.cells #[] e)):=by simp[Instr.buildSlice,run_underlying ht,sizeOf,typeInfo,hi,newRow,Instr.fill,b]
 obtain⟨U',Es,Hn,_,_⟩:=hr.Wn #[] e (z:=n+1) (n:=0) (cap:=0) (Av:=[]) (CS n) rfl Ax Ax (Ab _) (by simp[maxLen]) (by rw[Me];exact(rfl:AX U [] [])) Ax;obtain⟨c,Lu⟩:=Hn.Wm (x:= .EI (n+1)) (v:= .slice (some ⟨w.heap.size,0,none⟩) 0 0) ⟨_,rfl⟩ (.inl (.inr ⟨_,rfl⟩)) o.dst;exact Fu.value (by simp only[execOp,ho];exact Dk AH) Lu
def wC{t':TypeId}{size bytes:Nat}{v u r:Aa}{d:Value}(IN:(∃i,C.P.underlying t'=some (.slice i))\/C.P.underlying t'=some .string)(hi:Hw U h w)(hu:BH U u d)(hp:HA size bytes v u=some r):
  ∃(Av:List (List Aa)) (news:List Value),Dm size bytes v Av=some r/\Src C.P size t' d Av.length news w/\AX U Av.flatten news/\(∀r∈Av,r.length=size):=by
 unfold HA at hp;split at hp;.rw[show d=_ from hu];exact⟨[],[],hp,⟨IN,λ_=>rfl,run_firstCells_none w size 0 0 0,run_firstCells_none w.drew size 0 0 0,Ax,Ax⟩,rfl,Ax⟩
 .rename_i z;split at hp;.obtain⟨b,xa⟩:=hu;rw[xa];exact⟨[],[],hp,⟨IN,λ_=>rfl,run_firstCells_some w _ _ _ _ _ [] Ax (λj x hj=>by simp at hj),run_firstCells_some w.drew _ _ _ _ _ [] Ax (λj x hj=>by simp at hj),Ax,Ax⟩,rfl,Ax⟩
  .cases hp
 .rename_i z Av;split at hp
  .rename_i hz;subst hz;obtain⟨c,cap,xa,Pe,hsp,hR⟩:=hu;obtain⟨us,g,e,f⟩:=hR.values;have Ng:∀(j:Nat) (x:Value),us[j]?=some x->c.add j=⟨c.block,c.off+j,none⟩:=λj x hj=>by
    have hpos:0<Av.length:=by
     rcases Lo Av.length with h0|h0
     .have:us.length=0:=by rw[e,h0,Me]
      rw[Cy this] at hj;simp at hj
     .exact h0
    have pY:=NR hsp Pe hpos;generalize c.block=b at*;generalize c.off=o at*;subst pY;unfold Addr.add;split<;>simp_all
   rw[xa];refine⟨Av,us,hp,⟨IN,λ_=>rfl,run_firstCells_some w _ _ _ _ _ us e (λj x hj=>by rw[Ng j x hj];exact(hi.HW _ _ _ (f j x hj)).1),run_firstCells_some w.drew _ _ _ _ _ us e (λj x hj=>by rw[Ng j x hj];exact(hi.HW _ _ _ (f j x hj)).1),e,λx hx=>?_⟩,g,λr hr=>?_⟩;.obtain⟨j,hj⟩:=CF hx;exact(hi.HW _ _ _ (f j x hj)).2.1
   .obtain⟨j,hj⟩:=CF hr;exact(hR.get hj).1
  .cases hp
 .rename_i s;split at hp
  .rename_i hz;subst hz;rw[show d=_ from hu];have hlen:(CX s).length=(⟨⟨s⟩⟩:ByteArray).size:=by simp[CX,ByteArray.size]
   have hrel:∀l:List UInt8,AX U (CX l).flatten (l.map λb=>Value.int .u8 b.toNat):=by
    intro l;induction l with
    |nil=>rfl
    |cons b l ih=>exact⟨_,_,rfl,rfl,ih⟩
   refine⟨CX s,byteCells ⟨⟨s⟩⟩,hp,?_,?_,λr hr=>?_⟩;.rw[hlen];exact⟨IN,λ_=>rfl,firstCells_string _ w,firstCells_string _ w.drew,by rw[byteCells_length,GL],λu hu=>by obtain⟨_,_,rfl⟩:=A4.1 hu;rfl⟩
   .simpa[byteCells] using hrel s
   .obtain⟨b,_,rfl⟩:=A4.1 hr;rfl
  .cases hp
 .cases hp
def CW.jt(hr:CW C U0 w0 U O Z h a w){g n cap z:Nat}{us:Array Value}{e:TypeId}{rr Av:List (List Aa)}{news:List Value}(Fl:U.BI g=some (.tail Z.length none (n*z)))(hB:w0.heap.size<=g)(hg:w.heap[g]?=some (.cells us e (0,0)))
  (Zk:us.size=cap*z) (hm:cap<=maxLen) (hz:0<z) (hv:BH U (.sl z rr) (.slice (some ⟨g,0,none⟩) n cap)) (hl:∀r∈Av,r.length=z) (hn:AX U Av.flatten news) (h1:∀u∈news,u.oneCell'=true) (hroom:n+Av.length<=cap):
  ∃U',U.le U'/\CW C U0 w0 U' O Z h a (w.setRow g (us.toList.take (n*z)++news++us.toList.drop (n*z+news.length)).toArray)/\BH U' (.sl z (rr++Av)) (.slice (some ⟨g,0,none⟩) (n+Av.length) cap)/\
   IP U' w0.heap.size (w.setRow g (us.toList.take (n*z)++news++us.toList.drop (n*z+news.length)).toArray) Z.length none (.slice (some ⟨g,0,none⟩) (n+Av.length) cap) (.sl z (rr++Av)):=by
 obtain⟨t,cap',lJ,Pe,_,hR⟩:=hv;simp only[Value.slice.injEq,Bx] at lJ;obtain⟨rfl,rfl,rfl⟩:=lJ;simp only at hR;have Qp:news.length=Av.length*z:=by rw[hn.length,Hb hl]
 have hfit:(rr.length+Av.length)*z<=us.size:=by rw[Zk];exact D1 _ hroom
 rw[BC] at hfit;have c:(us.toList.take (rr.length*z)).length=rr.length*z:=Ek;obtain⟨vs,m,q,l⟩:=hR.values;have hvs:vs=us.toList.take (rr.length*z):=by
  apply QW;intro j;by_cases hj:j<rr.length*z
  .have d:j<vs.length:=by rw[q];exact hj
   have hc:=(hr.DL.HW _ _ _ (l j _ (Au d))).1;rw[cell_of_row w _ _ us e (0,0) hg,BB] at hc;rw[Au d,CN hj];simpa using hc.symm
  .rw[DQ Ac,DQ (by rw[c];omega)]
 rw[hvs] at m;have bD:∀u∈us.toList.take (rr.length*z),u.oneCell'=true:=λu hu=>by rw[<-hvs] at hu;obtain⟨j,hj⟩:=CF hu;exact(hr.DL.HW _ _ _ (l j u hj)).2.1
 have f:(rr.length+Av.length)*z=rr.length*z+Av.length*z:=BC _ _ _;have Ô:((us.toList.take (rr.length*z)++news++us.toList.drop (rr.length*z+news.length)).toArray).toList.take ((rr.length+Av.length)*z)=us.toList.take (rr.length*z)++news:=by
  have:(us.toList.take (rr.length*z)++news).length=(rr.length+Av.length)*z:=by rw[Ao,c,Qp,f]
  rw[<-this];exact EE
 have K8:(us.toList.take (rr.length*z)++news++us.toList.drop (rr.length*z+news.length)).length=us.size:=by simp[Qp];omega
 generalize p:(us.toList.take (rr.length*z)++news++us.toList.drop (rr.length*z+news.length)).toArray=Dq at*;have aGA:Dq.size=us.size:=by rw[<-p];simpa using K8
 obtain⟨hi,Es⟩:=pR hr.DL Fl hg Dq ((rr.length+Av.length)*z) Z.length none (λo ho=>by
   rw[<-p,AT,List.getElem?_toArray,An Ac,CN ho];simp)
  Ac (λo u ho hu=>by
   have:u∈Dq.toList.take ((rr.length+Av.length)*z):=by refine Cr (i:=o) ?_;rw[CN ho];simpa using hu
   rw[Ô,Aq] at this;exact this.elim (bD u) (h1 u)) (λo v hv=>by
   have:=(hr.DL.HW _ _ _ hv).1;rwa [cell_of_row w _ _ us e (0,0) hg] at this)
 have hk:P0 g U w (U.C5 g Dq ((rr.length+Av.length)*z) (some (.tail Z.length none ((rr.length+Av.length)*z)))) (w.setRow g Dq):=
  ⟨Es,λb x hb hx _=>⟨by simp only[Gh.C5,Af hb];exact hx,setRow_other w g b Dq hb⟩⟩
 have k:EL (U.C5 g Dq ((rr.length+Av.length)*z) (some (.tail Z.length none ((rr.length+Av.length)*z)))) (rr++Av) z g 0:=by
  refine N1 (us:=Dq.toList.take ((rr.length+Av.length)*z)) (λr hr=>?_) ?_ (λj u hj=>?_)
  .rcases Aq.1 hr with hr|hr
   .obtain⟨i,hi⟩:=CF hr;exact(hR.get hi).1
   .exact hl r hr
  .rw[Ô,OO];exact(AX.mono Es _ _ m).append (AX.mono Es _ _ hn)
  .rw[Cg] at hj;split at hj;.rename_i hlt;simp only[Gh.C5,BE,BB,Ag hlt];simpa using hj
   .cases hj
 refine⟨_,Es,⟨hi,⟨hr.fr.size,λs=>?_⟩,hr.DE.write (g:=g) hB Es Ax rfl rfl rfl (λb hb=>⟨setRow_other w g b Dq hb,by simp only[Gh.C5,Af hb]⟩),hr.defers,λx cs hx=>CQ.mono Es _ _ _ (hr.GN x cs hx)⟩,
  ⟨⟨g,0,none⟩,cap,Ax,by simpa using hroom,.inl rfl,k⟩,.inr ⟨g,rr.length+Av.length,cap,Dq,e,z,rr++Av,rfl,rfl,by simp[Gh.C5],hB,setRow_heap w g us Dq e (0,0) hg,by rw[aGA,Zk],hroom,hm,hz⟩⟩
 by_cases hs:s=Z.length;.subst hs;rw[BF.Tk];trivial
 .exact(hr.fr.HT s).keptBut Fl hk (by simp only[Kh.pM];intro hx;cases hx;exact hs rfl)
def N2{t t' ty:TypeId}{ts:Array TypeId}{xs:Array Value}(h0:ts[0]?=some t)(h1:ts[1]?=some t'):Builtin.append_ ts ty xs=Builtin.append_ #[t,t'] ty xs:=by simp only[Builtin.append_,h0,h1];rfl
def AX.xb{l:List Aa}{us:List Value}{n:Nat}(h:AX U l us)(hn:us.length<=n):AX U l (us.take n):=by rw[A8 hn];exact h
def Nh{cs:List Aa}{z:Nat}:∀{n off:Nat},(Cp cs z off n).flatten=(cs.drop off).take (n*z)
 |0,off=>by simp[Cp]
 |n+1,off=>by rw[Cp,CB,Nh,BC,Eo,Mc (n*z) z,Æ,ED]
def OE{cs:List Aa}{z:Nat}:∀{n off:Nat},(Cp cs z off n).length=n
 |0,off=>rfl
 |n+1,off=>by rw[Cp,AG,OE]
def QE{cs:List Aa}{z:Nat}:∀{n off:Nat},off+n*z<=cs.length->∀r∈Cp cs z off n,r.length=z
 |0,off,_,r,hr=>by simp[Cp] at hr
 |n+1,off,hl,r,hr=>by
  rw[BC,Eo] at hl;rw[Cp,AF] at hr;rcases hr with rfl|hr
  .rw[AB,Bi];omega
  .exact QE Ac r hr
def Wq{t':TypeId}{size:Nat}{u:Aa}{g:Value}{Av:List (List Aa)}(IN:(∃m,C.P.underlying t'=some (.slice m))\/C.P.underlying t'=some .string)(hi:Hw U h w)(hu:BH U u g)(hp:GX h size u=some Av):
  ∃news:List Value,Src C.P size t' g Av.length news w/\AX U Av.flatten news/\(∀r∈Av,r.length=size):=by
 unfold GX at hp;split at hp;.cases hp;rw[show g=_ from hu];exact⟨[],⟨IN,λ_=>rfl,run_firstCells_none w size 0 0 0,run_firstCells_none w.drew size 0 0 0,Ax,Ax⟩,rfl,Ax⟩
 .rename_i z;split at hp;.cases hp;obtain⟨b,xa⟩:=hu;rw[xa];exact⟨[],⟨IN,λ_=>rfl,run_firstCells_some w _ _ _ _ _ [] Ax (λj x hj=>by simp at hj),run_firstCells_some w.drew _ _ _ _ _ [] Ax (λj x hj=>by simp at hj),Ax,Ax⟩,rfl,Ax⟩
  .cases hp
 .rename_i z i;split at hp
  .rename_i hz;cases hp;subst hz;obtain⟨f,cap,xa,Pe,hsp,hR⟩:=hu;obtain⟨us,k,c,d⟩:=hR.values;have Ng:∀(j:Nat) (x:Value),us[j]?=some x->f.add j=⟨f.block,f.off+j,none⟩:=λj x hj=>by
    have hpos:0<Av.length:=by
     rcases Lo Av.length with h0|h0
     .have:us.length=0:=by rw[c,h0,Me]
      rw[Cy this] at hj;simp at hj
     .exact h0
    have pY:=NR hsp Pe hpos;generalize f.block=b at*;generalize f.off=o at*;subst pY;unfold Addr.add;split<;>simp_all
   rw[xa];refine⟨us,⟨IN,λ_=>rfl,run_firstCells_some w _ _ _ _ _ us c (λj x hj=>by rw[Ng j x hj];exact(hi.HW _ _ _ (d j x hj)).1),run_firstCells_some w.drew _ _ _ _ _ us c (λj x hj=>by rw[Ng j x hj];exact(hi.HW _ _ _ (d j x hj)).1),c,λx hx=>?_⟩,k,λr hr=>?_⟩;.obtain⟨j,hj⟩:=CF hx;exact(hi.HW _ _ _ (d j x hj)).2.1
   .obtain⟨j,hj⟩:=CF hr;exact(hR.get hj).1
  .cases hp
 .rename_i s;split at hp
  .rename_i hz;cases hp;subst hz;rw[show g=_ from hu];have hlen:(CX s).length=(⟨⟨s⟩⟩:ByteArray).size:=by simp[CX,ByteArray.size]
   have hrel:∀l:List UInt8,AX U (CX l).flatten (l.map λb=>Value.int .u8 b.toNat):=by
    intro l;induction l with
    |nil=>rfl
    |cons b l ih=>exact⟨_,_,rfl,rfl,ih⟩
   refine⟨byteCells ⟨⟨s⟩⟩,?_,?_,λr hr=>?_⟩;.rw[hlen];exact⟨IN,λ_=>rfl,firstCells_string _ w,firstCells_string _ w.drew,by rw[byteCells_length,GL],λu hu=>by obtain⟨_,_,rfl⟩:=A4.1 hu;rfl⟩
   .simpa[byteCells] using hrel s
   .obtain⟨b,_,rfl⟩:=A4.1 hr;rfl
  .cases hp
 .rename_i id off n z;split at hp
  .rename_i hz;subst hz;split at hp
   .rename_i cs hcs;split at hp
    .rename_i hl;cases hp;obtain⟨b,cap,hb,xa,Pe,fw,K8⟩:=hu;obtain⟨us,e,fr,k,pf,c,d⟩:=hi.cells id cs hcs b hb;have lG:(us.toList.take cs.length).length=cs.length:=c.length;have Qp:(((us.toList.take cs.length).drop off).take (n*z)).length=n*z:=by rw[AB,Bi,lG];omega
     have Ng:∀j,(⟨b,off,none⟩:Addr).add j=⟨b,off+j,none⟩:=λj=>by unfold Addr.add;split<;>simp_all
     have Jj:∀(j:Nat) (x:Value),(((us.toList.take cs.length).drop off).take (n*z))[j]?=some x->w.cell? ((⟨b,off,none⟩:Addr).add j)=some x:=λj x hj=>by
      rw[Ng,cell_of_row w _ _ us e fr k];rw[Cg] at hj;split at hj
      .rw[Cn,Cg] at hj;split at hj;.simpa using hj
       .cases hj
      .cases hj
     rw[xa,OE];refine⟨((us.toList.take cs.length).drop off).take (n*z),⟨IN,λ_=>rfl,run_firstCells_some w _ _ _ _ _ _ Qp Jj,run_firstCells_some w.drew _ _ _ _ _ _ Qp (λj x hj=>Jj j x hj),Qp,λx hx=>d x (Bu (A0 hx))⟩,?_,QE hl⟩;rw[Nh];exact(c.drop off).take (n*z)
    .cases hp
   .cases hp
  .cases hp
 .cases hp
def OF{o:Oper}{c:Call}{t t' e:TypeId}{n b:Nat}{s x:Operand}{v u r:Aa}{Av:List (List Aa)}{news:List Value}(ho:o.op= .call c)(hc:c.callee= .builtin .append)(h0:c.argTypes[0]?=some t)(h1:c.argTypes[1]?=some t')(Ey:c.args.toList=[s,x])(ht:C.P.underlying t=some (.slice e))
  (IN:(∃E,C.P.underlying t'=some (.slice E))\/C.P.underlying t'=some .string) (K8:BQ C.P e=some (n+1)) (ju:JB C.P e=some (b+1)) (Fl:KL C Z s=true) (kC:LP C.P e=true) (hv:Bq C Z [s,x]=some [v,u])
  (IS:Dm (n+1) (b+1) v Av=some r) (Kd:Src C.P (n+1) t' (a.eval x) Av.length news w) (Vb:AX U Av.flatten news) (qH:∀q∈Av,q.length=n+1) (hr:CW C U0 w0 U O Z h a w):Fu C U0 w0 o a w ((Z.Dr (C3 Z s)).put o.dst (.BI r)) h:=by
 obtain⟨i,z,hi,hz,bC⟩:=KR kC;have Qo:=Jk K8 hi;have Ĩ:=Lv ju hi;obtain⟨_,_,e0,hvs,pB⟩:=EU hr hv;cases e0;have w_:EK C Z s=some v:=by
  unfold Bq at hv;split at hv;.rename_i p ps B G;cases hv;exact B
  .cases hv
 obtain⟨U1,Es,Jv,Hq,K⟩:=Pd hr Fl w_ (Z.Dr (C3 Z s)).length none;have jv:=AX.mono Es _ _ Vb;have Kb:c.args.map a.eval=#[a.eval s,a.eval x]:=by apply Hi;simp[Ey]
 have Ml:∀v' w',(Builtin.append_ #[t,t'] o.type #[a.eval s,a.eval x]).run C.P w= .ok v' w'->(execOp a.eval o).run C.P w= .ok (.value v') w':=λv' w' AH=>by
  have:execOp a.eval o=(do pure (Next.value (<-Builtin.append_ #[t,t'] o.type #[a.eval s,a.eval x]))):=by rw[<-Kb,<-N2 (ty:=o.type) h0 h1];simp only[execOp,ho,resolve,hc];rfl
  rw[this];exact Dk AH
 have JH:Src C.P i.size t' (a.eval x) Av.length news w:=by rw[Qo];exact Kd
 have Qp:news.length=Av.length*(n+1):=Kd.newsLen;have ID:∀(base:Option Addr) (k cap:Nat) (rr:List (List Aa)) (olds:List Value),a.eval s= .slice base k cap->rr.length=k->(∀q∈rr,q.length=n+1)->AX U1 rr.flatten olds->(∀q∈olds,q.oneCell'=true)->
   (Builtin.firstCells i.size k (.slice base k cap)).run C.P w.drew= .ok olds.toArray w.drew->cap<k+Av.length->(k+Av.length)*(b+1)<=AJ->r= .sl (n+1) (rr++Av)->
   Fu C U0 w0 o a w ((Z.Dr (C3 Z s)).put o.dst (.BI r)) h:=by
  intro base k cap rr olds hs hk m jw Ĥ d hlt S5 T4;have OS:k+Av.length<=AJ:=Bn (Ii _ (CS b)) S5;have FN:=run_append_grow_src (P:=C.P) w t t' o.type e i z ht hi hz base k cap olds d (a.eval x) Av.length news JH hlt (by simp only[AJ] at OS;omega) (by rw[Ĩ];exact growslice_fits hlt S5);rw[<-hs] at FN;have GS:=grownCap_ge w (k+Av.length) cap e;have aGB:olds.length=k*(n+1):=by rw[jw.length,Hb m,hk]
  have zT:(olds++news).length=(k+Av.length)*(n+1):=by rw[Ao,aGB,Qp,BC]
  obtain⟨N,lH,Lu,Rv,l⟩:=Jv.drew.Wn ((olds++news).toArray++Builtin.zeroCells z.cells (grownCap w (k+Av.length) cap e-(k+Av.length))) e (z:=n+1) (n:=k+Av.length) (cap:=grownCap w (k+Av.length) cap e) (Av:=rr++Av) (CS n) (by simp[hk])
   (λq hq=>(Aq.1 hq).elim (m q) (qH q))
   (by simp only[Jt,BU,size_zeroCells,bC,Qo,zT,<-BC];congr 1;omega) GS (grownCap_le_maxLen w _ _ _ (by simp only[AJ] at OS;simp only[maxLen];omega))
   (by simp only[GA,OO];rw[<-zT,EE];exact jw.append jv)
   (λq hq=>by simp only[GA] at hq;rw[<-zT,EE,Aq] at hq;exact hq.elim (Ĥ q) (Kd.one q))
  rw[T4];obtain⟨M,f⟩:=Lu.Wm Rv l o.dst;exact Fu.value (Ml _ _ FN) f
 rcases K with(rfl|⟨A,rfl⟩)|⟨g,k,cap,us,H,A,rr,rfl,I8,S4,hB,hg,Zk,xc,hm,J⟩
 .have I8:a.eval s= .slice none 0 0:=Hq;cases Av with
  |nil=>
   have T4:r= .slnil:=by simpa[Dm] using IS.symm
   have ji:news=[]:=Cy (by simpa using Qp);subst ji;have AH:(Builtin.append_ #[t,t'] o.type #[a.eval s,a.eval x]).run C.P w= .ok (.slice none 0 0) w:=by rw[I8];have hl:=JH.len;have Vc:=JH.cells;simp only[Bk] at hl Vc;rcases IN with⟨E,hk⟩|hk<;>simp[Builtin.append_,run_underlying ht,run_underlying hk,sizeOf,typeInfo,hi,hl,Vc]
   rw[T4];exact Fu.value (Ml _ _ AH) (Jv.put λ_ _=>⟨rfl,.inl (.inl rfl)⟩)
  |cons q Av=>
   have Pf:r= .sl (n+1) (q::Av)/\(q::Av).length*(b+1)<=AJ:=by
    simp only[Dm] at IS;split at IS;.rename_i hb;cases IS;exact⟨rfl,hb⟩
    .cases IS
   exact ID none 0 0 [] [] I8 rfl Ax rfl Ax (run_firstCells_none _ _ _ _ _) Ax (by simpa using Pf.2) (by simpa using Pf.1)
 .obtain⟨g,I8⟩:=id Hq;cases Av with
  |nil=>
   have T4:A=n+1/\r= .EI A:=by
    simp only[Dm] at IS;split at IS;.rename_i YC;cases IS;exact⟨YC,by rw[YC]⟩
    .cases IS
   obtain⟨rfl,T4⟩:=T4;have ji:news=[]:=Cy (by simpa using Qp);subst ji;have AH:(Builtin.append_ #[t,t'] o.type #[a.eval s,a.eval x]).run C.P w= .ok (.slice (some ⟨g,0,none⟩) 0 0) w:=by rw[I8];have hl:=JH.len;have Vc:=JH.cells;simp only[Bk] at hl Vc;rcases IN with⟨E,hk⟩|hk<;>simp[Builtin.append_,run_underlying ht,run_underlying hk,sizeOf,typeInfo,hi,hl,Vc,storeCells,Result.andThen]
   rw[T4];exact Fu.value (Ml _ _ AH) (Jv.put λ_ _=>⟨⟨g,rfl⟩,.inl (.inr ⟨_,rfl⟩)⟩)
  |cons q Av=>
   have Pf:r= .sl (n+1) (q::Av)/\(q::Av).length*(b+1)<=AJ:=by
    simp only[Dm] at IS;split at IS;.rename_i hb;cases IS;exact⟨rfl,hb.2⟩
    .cases IS
   exact ID (some ⟨g,0,none⟩) 0 0 [] [] I8 rfl Ax rfl Ax (run_firstCells_some w.drew _ _ _ _ _ [] Ax (λj x hj=>by simp at hj)) Ax (by simpa using Pf.2) (by simpa using Pf.1)
 .obtain⟨L,I,lJ,Pe,_,hR⟩:=id Hq;rw[I8] at lJ;simp only[Value.slice.injEq,Bx] at lJ;obtain⟨rfl,hk,rfl⟩:=lJ;subst hk;simp only at hR;have D:A=n+1/\r= .sl (n+1) (rr++Av)/\(Av=[]\/(rr.length+Av.length)*(b+1)<=AJ):=by
   cases Av with
   |nil=>
    simp only[Dm] at IS;split at IS;.rename_i YC;cases IS;exact⟨YC,by simp[YC],.inl rfl⟩
    .cases IS
   |cons q Av=>
    simp only[Dm] at IS;split at IS;.rename_i YC;cases IS;exact⟨YC.1,rfl,.inr YC.2⟩
    .cases IS
  obtain⟨rfl,T4,S5⟩:=D;by_cases hroom:rr.length+Av.length<=cap
  .have hfit:rr.length*(n+1)+news.length<=us.size:=by rw[Qp,Zk,<-BC];exact D1 _ hroom
   have AH:=run_append_room_src (P:=C.P) w t t' o.type e i ht hi g 0 rr.length cap (a.eval x) Av.length news JH hroom (λj hj=>by rw[cell_of_row w _ _ us H (0,0) hg,Qo,CH Ac];rfl) (λj hj=>frozen_of_row w _ _ us H hg)
   rw[BB,Qo,Ex news _ us w hg hfit,<-I8] at AH;rw[I8] at Hq;obtain⟨N,lH,Lu,Rv,l⟩:=Jv.jt S4 hB hg Zk hm (CS n) Hq qH jv Kd.one hroom;obtain⟨M,f⟩:=Lu.Wm Rv l o.dst;rw[T4];exact Fu.value (Ml _ _ AH) f
  .obtain⟨vs,B,G,F⟩:=hR.values;have Ng:∀j,(⟨g,0,none⟩:Addr).add j=⟨g,0+j,none⟩:=λj=>by unfold Addr.add;split<;>simp_all
   refine ID (some ⟨g,0,none⟩) rr.length cap rr vs I8 rfl (λq hq=>?_) B (λq hq=>?_) ?_ Ac ?_ T4;.obtain⟨j,hj⟩:=CF hq;exact(hR.get hj).1
   .obtain⟨j,hj⟩:=CF hq;exact(Jv.DL.HW _ _ _ (F j q hj)).2.1
   .rw[Qo];exact run_firstCells_some w.drew _ _ _ _ _ vs G (λj y hj=>by rw[Ng];exact(Jv.DL.HW _ _ _ (F j y hj)).1)
   .rcases S5 with rfl|S5
    .simp at hroom;omega
    .exact S5
def qI{o:Oper}{c:Call}{t t' e:TypeId}{n b:Nat}{s x:Operand}{v u r:Aa}(ho:o.op= .call c)(hc:c.callee= .builtin .append)(h0:c.argTypes[0]?=some t)(h1:c.argTypes[1]?=some t')(Ey:c.args.toList=[s,x])(ht:C.P.underlying t=some (.slice e))
  (IN:(∃d,C.P.underlying t'=some (.slice d))\/C.P.underlying t'=some .string) (K8:BQ C.P e=some (n+1)) (ju:JB C.P e=some (b+1)) (Fl:KL C Z s=true) (kC:LP C.P e=true) (hv:Bq C Z [s,x]=some [v,u])
  (hp:Az (.append (n+1) (b+1)) [v,u]=some r) (hr:CW C U0 w0 U O Z h a w):Fu C U0 w0 o a w ((Z.Dr (C3 Z s)).put o.dst (.BI r)) h:=by
 obtain⟨_,_,e0,hvs,pB⟩:=EU hr hv;cases e0;simp only[Az] at hp;obtain⟨Av,news,IS,Kd,Vb,qH⟩:=wC (w:=w) IN hr.DL pB hp;exact OF ho hc h0 h1 Ey ht IN K8 ju Fl kC hv IS Kd Vb qH hr
def lK{o:Oper}{c:Call}{t t' e:TypeId}{n b:Nat}{s x:Operand}{v u r:Aa}(ho:o.op= .call c)(hc:c.callee= .builtin .append)(h0:c.argTypes[0]?=some t)(h1:c.argTypes[1]?=some t')(Ey:c.args.toList=[s,x])(ht:C.P.underlying t=some (.slice e))
  (IN:(∃d,C.P.underlying t'=some (.slice d))\/C.P.underlying t'=some .string) (K8:BQ C.P e=some (n+1)) (ju:JB C.P e=some (b+1)) (Fl:KL C Z s=true) (kC:LP C.P e=true) (hv:Bq C Z [s,x]=some [v,u])
  (hp:QC h (n+1) (b+1) v u=some r) (hr:CW C U0 w0 U O Z h a w):Fu C U0 w0 o a w ((Z.Dr (C3 Z s)).put o.dst (.BI r)) h:=by
 obtain⟨_,_,e0,hvs,pB⟩:=EU hr hv;cases e0;unfold QC at hp;cases hq:GX h (n+1) u with
 |none=>rw[hq] at hp;cases hp
 |some Av=>rw[hq] at hp;obtain⟨news,Kd,Vb,qH⟩:=Wq (w:=w) IN hr.DL pB hq;exact OF ho hc h0 h1 Ey ht IN K8 ju Fl kC hv hp Kd Vb qH hr
end
section
variable{C:Fx}{γ0 γ γ':Gh}{w0 w w':World}{Z:Nat->Nat}{U:BF}{h:Ai}{a:Act}{fid:FuncId}{ops:List Oper}
def RQ:∀s:Aj,(CX s).flatten=s.map λb=>Aa.int .u8 b.toNat
 |[]=>rfl
 |_::s=>by have:=RQ s;simp only[CX,A9,CB] at this⊢;rw[this];rfl
def LV(γ:Gh):∀l:Aj,AX γ (CX l).flatten (l.map λb=>Value.int .u8 b.toNat)
 |[]=>rfl
 |_::l=>⟨_,_,rfl,rfl,LV γ l⟩
def KC(s:Aj)(cap:Nat):(bytesRow ⟨⟨s⟩⟩ cap).toList.take s.length=s.map λb=>Value.int .u8 b.toNat:=by have:(s.map λb=>Value.int .u8 (b.toNat:Int)).length=s.length:=Ax;simp only[bytesRow,GA,M5];rw[<-this];exact EE
def bE(s:Aj):(⟨⟨s⟩⟩:ByteArray).size=s.length:=by simp[ByteArray.size]
def xd{o:Oper}{src dst e:TypeId}{x:Operand}{v u:Aa}(ho:o.op= .convert src dst x)(hs:C.P.underlying src=some .string)(hd:C.P.underlying dst=some (.slice e))(he:C.P.underlying e=some (.int .u8))(hx:Bq C U [x]=some [v])(hp:Az .s2b [v]=some u)(hr:CW C γ0 w0 γ Z U h a w):
  Fu C γ0 w0 o a w (U.put o.dst (.val u)) h:=by
 obtain⟨_,e0,hv⟩:=Gm hr hx;cases e0;simp only[Az] at hp;split at hp
 .rename_i s Kb;cases Kb;split at hp
  .cases hp;have AH:=run_bytes_of_string (P:=C.P) w src dst e ⟨⟨s⟩⟩ hs hd he;rw[<-NW hv] at AH;have Õ:=grownCap_ge w s.length 0 e;rw[bE] at AH;obtain⟨hi,ha⟩:=O6 hr.drew.DL (bytesRow ⟨⟨s⟩⟩ (grownCap w s.length 0 e)) e ((bytesRow ⟨⟨s⟩⟩ (grownCap w s.length 0 e)).size,(bytesRow ⟨⟨s⟩⟩ (grownCap w s.length 0 e)).size+1) s.length none (λo u ho hu=>by have hm:u∈(bytesRow ⟨⟨s⟩⟩ (grownCap w s.length 0 e)).toList.take s.length:=Cr (i:=o) (by rw[CN ho];simpa using hu);rw[KC] at hm;obtain⟨b,_,rfl⟩:=A4.1 hm;rfl) (.inl rfl)
   have Hn:=hr.drew.IA hi ha;refine Fu.value (v:= .slice (some ⟨w.heap.size,0,none⟩) s.length (grownCap w s.length 0 e)) (by simp only[execOp,ho];exact Dk AH) (Hn.put λ_ _=>⟨⟨w.heap.size,0,none⟩,grownCap w s.length 0 e,by simp[CX],by simpa[CX] using Õ,.inl rfl,?_⟩);refine N1 (us:=s.map λb=>Value.int .u8 b.toNat) (λr hr=>?_) (LV _ s) (λj u hj=>?_);.obtain⟨b,_,rfl⟩:=A4.1 hr;rfl
   .rw[<-KC s (grownCap w s.length 0 e),Cg] at hj;split at hj;.rename_i hlt;simp only[Gh.C5,heap_drew,BE,BB,Ag hlt];simpa using hj
    .cases hj
  .cases hp
 .cases hp
def bF{o:Oper}{src dst e:TypeId}{x:Operand}{v u:Aa}{h':Ai}(ho:o.op= .convert src dst x)(hs:C.P.underlying src=some .string)(hd:C.P.underlying dst=some (.slice e))(he:C.P.underlying e=some (.int .u8))(hx:EK C U x=some v)(hp:Io h v=some (h',u))(hr:CW C γ0 w0 γ Z U h a w):
  Fu C γ0 w0 o a w (U.put o.dst (.val u)) h':=by
 have hv:=Gc hr hx;unfold Io at hp;split at hp
 .rename_i s;split at hp
  .cases hp;have AH:=run_bytes_of_string (P:=C.P) w src dst e ⟨⟨s⟩⟩ hs hd he;rw[<-NW hv] at AH;have Õ:=grownCap_ge w s.length 0 e;rw[bE] at AH;have hl:(s.map λb=>Aa.int .u8 b.toNat).length=s.length:=Ax;have c:(bytesRow ⟨⟨s⟩⟩ (grownCap w s.length 0 e)).size=grownCap w s.length 0 e:=by have e0:ByteArray.size ⟨⟨s⟩⟩=s.length:=bE s;simp only[bytesRow,Jt,Array.size_map,Array.size_replicate,e0];simp only[BU];omega
   have pC:s.length<=maxLen:=by
    have pC:s.length<=AJ:=by assumption
    simp only[AJ] at pC;simp only[maxLen];omega
   obtain⟨γ',Es,hm,Hn,K8⟩:=hr.drew.newObj (bytesRow ⟨⟨s⟩⟩ (grownCap w s.length 0 e)) e ((bytesRow ⟨⟨s⟩⟩ (grownCap w s.length 0 e)).size,(bytesRow ⟨⟨s⟩⟩ (grownCap w s.length 0 e)).size+1) (s.map λb=>Aa.int .u8 b.toNat) (.inr (Ab _))
    (by rw[hl,KC];have:=LV γ s;rw[RQ] at this;exact this)
    (λu hu=>by rw[hl,KC] at hu;obtain⟨b,_,rfl⟩:=A4.1 hu;rfl)
   exact Fu.value (v:= .slice (some ⟨w.heap.size,0,none⟩) s.length (grownCap w s.length 0 e)) (by simp only[execOp,ho];exact Dk AH) (Hn.put λ_ _=>⟨w.heap.size,_,hm,rfl,Õ,⟨CS 0,grownCap_le_maxLen w _ _ _ pC⟩,by rw[BB,GL,<-c];exact K8⟩)
  .cases hp
 .cases hp
def HO{O:Type}(l:List O):∀(c j:Nat),j<c*l.length->(List.replicate c l).flatten[j]?=l[j%l.length]?
 |0,j,h=>by simp at h
 |c+1,j,h=>by
  have h':j<c*l.length+l.length:=by rw[BC] at h;omega
  rw[Kx,CB];by_cases hj:j<l.length;.rw[An hj,Nat.mod_eq_of_lt hj]
  .rw[Bw Ac,HO l c _ Ac,show j%l.length=(j-l.length)%l.length from Nat.mod_eq_sub_mod Ac]
def jx{o:Oper}{t e:TypeId}{l c:Operand}{n b:Nat}{z:Aa}{y vc u:Aa}{h':Ai}(ho:o.op= .makeSlice t l c)(ht:C.P.underlying t=some (.slice e))(K8:BQ C.P e=some (n+1))(ju:JB C.P e=some (b+1))(hz:GC C.P e=some z)(hl:EK C U l=some y)(hc:EK C U c=some vc)
  (hm:TX h (n+1) (b+1) z.cells y vc=some (h',u)) (hr:CW C γ0 w0 γ Z U h a w):Fu C γ0 w0 o a w (U.put o.dst (.val u)) h':=by
 unfold TX at hm;split at hm
 .rename_i k m;split at hm
  .rename_i HC;obtain⟨H,G,F,v⟩:=HC;cases hm;unfold GC at hz;cases hi:C.P.info? e with
   |none=>rw[hi] at hz;cases hz
   |some i=>
    rw[hi] at hz;cases fx:i.zero with
    |none=>simp[fx] at hz
    |some f=>
     simp only[Cd,fx] at hz;have Qo:=Jk K8 hi;have Ĩ:=Lv ju hi;obtain⟨A,D⟩:=GZ (γ:=γ) (E9 hz) Ac;have bC:f.cells.size=n+1:=by have:=A.length;simp at this;omega
     have Ö:m.toNat*(b+1)<=AJ:=F;have g:m.toNat<=AJ:=Bn (Ii m.toNat (CS b)) Ö;have AH:=run_make (P:=C.P) w t e i f ht hi fx .i64 .i64 k m H G (by
      rw[Ĩ];have E:((b+1:Nat):Int)*m=((m.toNat*(b+1):Nat):Int):=by rw[Int.natCast_mul,HX Ac,Int.mul_comm]
      rw[E];simp only[AJ] at Ö;omega) (by simp only[AJ] at g;omega)
     rw[<-Eh (Gc hr hl),<-Eh (Gc hr hc)] at AH;have hlen:((List.replicate m.toNat z.cells).flatten).length=m.toNat*(n+1):=by rw[Hb (z:=n+1) (λr hr=>by rw[Ç hr,v]),Hk]
     have p:∀(j:Nat) (u:Value),(madeCells f.cells (m.toNat*i.size)).toList[j]?=some u->j<m.toNat*(n+1)/\f.cells.toList[j%(n+1)]?=some u:=by
      intro j u hj;have pD:j<m.toNat*(n+1):=by have:=(Al.1 hj).1;simpa[size_madeCells,Qo] using this
      refine⟨pD,?_⟩;have ĩ:j%(n+1)<f.cells.size:=by rw[bC];exact Nat.mod_lt _ (CS n)
      simp only[madeCells,M5,CA] at hj;have d:(Array.range (m.toNat*i.size)).toList[j]?=some j:=by simp[Qo,pD]
      rw[d] at hj;simp only[BJ,Bx] at hj;rw[bC] at hj;rw[<-hj];simp[ĩ]
     have B:AX γ (List.replicate m.toNat z.cells).flatten (madeCells f.cells (m.toNat*i.size)).toList:=by refine AX.GD (by simp[hlen,size_madeCells,Qo]) λj x u hx hu=>?_;obtain⟨pD,s⟩:=p j u hu;rw[HO z.cells _ _ (by rw[v];exact pD),v] at hx;obtain⟨I,zI,ĥ⟩:=A.get hx;rw[s] at zI;cases zI;exact ĥ
     obtain⟨γ',Es,q,Hn,aGE⟩:=hr.newObj (madeCells f.cells (m.toNat*i.size)) e (0,0) (List.replicate m.toNat z.cells).flatten (.inl rfl) (B.xb (by rw[B.length];exact Ab _)) (λu hu=>by obtain⟨j,hj⟩:=CF (A0 hu);exact D u (Cr (p j u hj).2))
     exact Fu.value (by simp only[execOp,ho];exact Dk AH) (Hn.put λ_ _=>⟨w.heap.size,m.toNat,q,rfl,Ac,⟨CS n,by simp only[AJ] at g;simp only[maxLen];omega⟩,by rw[aGE,size_madeCells,Qo,BB]⟩)
  .cases hm
 .cases hm
def CW.aBV(hr:CW C γ0 w0 γ Z U h a w){g:Nat}(Fl:γ.BI g=some (.tail U.length none 0))(hB:w0.heap.size<=g){us:Array Value}{e:TypeId}(hg:w.heap[g]?=some (.cells us e (0,0)))(Dq:Array Value)(cs:List Aa)
  (hv:AX γ cs (Dq.toList.take cs.length)) (h1:∀u∈Dq.toList.take cs.length,u.oneCell'=true):∃γ',γ.le γ'/\γ'.mu h.length=some g/\CW C γ0 w0 γ' Z U (h++[.cells cs]) a (w.setRow g Dq)/\γ'.sz g=some Dq.size:=by
 have f:γ.mu h.length=none:=by
  cases hc:γ.mu h.length with
  |none=>rfl
  |some y=>exact absurd (hr.DL.mu _ y hc) (Di _)
 have K8:γ.sz g=none:=by
  cases hc:γ.sz g with
  |none=>rfl
  |some y=>obtain⟨_,r⟩:=hr.DL.sz g y hc;rw[Fl] at r;rcases r with r|⟨_,r⟩<;>cases r
 have Es:γ.le (γ.BO g h.length (some Dq.size)):=⟨λ_ _ _ hv=>hv,λid b hm=>by
  have:id≠h.length:=λhe=>by rw[he,f] at hm;cases hm
  simp only[Gh.BO,Af this];exact hm,λb n hm=>by
  have:b≠g:=λhe=>by rw[he,K8] at hm;cases hm
  simp only[Gh.BO,Af this];exact hm⟩
 have Ħ:∀b n,(γ.BO g h.length (some Dq.size)).sz b=some n->(∃us e fr,(w.setRow g Dq).heap[b]?=some (.cells us e fr)/\us.size=n)/\((γ.BO g h.length (some Dq.size)).BI b=none\/∃id,(γ.BO g h.length (some Dq.size)).BI b=some (.Mj id)):=λb n hb=>by
  by_cases he:b=g;.subst he;simp only[Gh.BO,BE] at hb;cases hb;exact⟨⟨Dq,e,(0,0),setRow_heap w b us Dq e (0,0) hg,rfl⟩,.inr ⟨h.length,by simp[Gh.BO]⟩⟩
  .simp only[Gh.BO,Af he] at hb⊢;obtain⟨p,r⟩:=hr.DL.sz b n hb;exact⟨by rw[setRow_other w g b Dq he];exact p,r⟩
 have hne:∀b id,γ.BI b=some (.Mj id)->b≠g:=λb id hb he=>by rw[he,Fl] at hb;cases hb
 have hk:P0 g γ w (γ.BO g h.length (some Dq.size)) (w.setRow g Dq):=⟨Es,λb x hb hx _=>⟨by simp only[Gh.BO,Af hb];exact hx,setRow_other w g b Dq hb⟩⟩;refine⟨_,Es,by simp[Gh.BO],⟨⟨λb o v hb=>?_,λid y Ik hy=>?_,λid GB hc b hb=>?_,λid es hc b hb=>?_,λid b hb=>?_,λb y hy=>?_,Ħ⟩,⟨hr.fr.size,λs=>?_⟩,hr.DE.write (g:=g) hB Es Ax rfl rfl rfl (λb hb=>⟨setRow_other w g b Dq hb,by simp only[Gh.BO,Af hb]⟩),hr.defers,λx GB hx=>CQ.mono Es _ _ _ (hr.GN x GB hx)⟩,by simp[Gh.BO]⟩
 .obtain⟨p,q,r⟩:=hr.DL.HW b o v hb;have NT:b≠g:=λhe=>by
   subst he;rw[Fl] at r;rcases r with r|⟨_,_,_,r,hl⟩
   .cases r
   .cases r;omega
  exact⟨by rw[CG (setRow_other w g b Dq NT)];exact p,q,by simp only[Gh.BO,Af NT];exact r⟩
 .by_cases he:id=h.length;.exact⟨g,by simp[Gh.BO,he],by simp[Gh.BO,he]⟩
  .have Wd:id<h.length:=by rw[Al] at Ik;obtain⟨hl,_⟩:=Ik;simp at hl;omega
   rw[An Wd] at Ik;obtain⟨b,p,q⟩:=hr.DL.Mj id y Ik hy;exact⟨b,by simp only[Gh.BO,Af he];exact p,by simp only[Gh.BO,Af (hne b id q)];exact q⟩
 .by_cases he:id=h.length;.subst he;simp[Gh.BO] at hb;subst hb;simp at hc;subst hc;exact⟨Dq,e,(0,0),setRow_heap w g us Dq e (0,0) hg,.inl rfl,AX.mono Es _ _ hv,h1⟩
  .simp only[Gh.BO,Af he] at hb;have Wd:=hr.DL.mu id b hb;rw[An Wd] at hc;obtain⟨b',c,d⟩:=hr.DL.Mj id _ hc Ax;rw[hb] at c;cases c;obtain⟨pQ,i,jg,p,pf,q,r⟩:=hr.DL.cells id GB hc b hb;exact⟨pQ,i,jg,by rw[setRow_other w g b Dq (hne b id d)];exact p,pf,AX.mono Es _ _ q,r⟩
 .by_cases he:id=h.length;.subst he;simp at hc
  .simp only[Gh.BO,Af he] at hb;have Wd:=hr.DL.mu id b hb;rw[An Wd] at hc;obtain⟨b',c,d⟩:=hr.DL.Mj id _ hc Ax;rw[hb] at c;cases c;obtain⟨DD,clock,p,q⟩:=hr.DL.map id es hc b hb;exact⟨DD,clock,by rw[setRow_other w g b Dq (hne b id d)];exact p,q.mono Es⟩
 .by_cases he:id=h.length;.simp[he]
  .simp only[Gh.BO,Af he] at hb;have:=hr.DL.mu id b hb;simp;omega
 .by_cases NT:b=g;.subst NT;have:=hr.DL.BI _ _ Fl;simpa using this
  .simp only[Gh.BO,Af NT] at hy;have:=hr.DL.BI b y hy;simpa using this
 .by_cases hs:s=U.length;.subst hs;rw[BF.Tk];trivial
  .exact(hr.fr.HT s).keptBut Fl hk (by simp only[Kh.pM];intro hx;cases hx;exact hs rfl)
def CW.UD(hr:CW C γ0 w0 γ Z U h a w){v v':Aa}{u:Value}{h':Ai}(hv:BH γ v u)(hf:KK h v=some (h',v')):∃γ',γ.le γ'/\CW C γ0 w0 γ' Z U h' a w/\BH γ' v' u:=by
 unfold KK at hf;split at hf
 .rename_i id off n z;obtain⟨b,cap,hb,hu,hc,hz,K8⟩:=hv;split at hf
  .rename_i cs hcs;split at hf
   .rename_i hl;cases hf;obtain⟨us,e,fr,q,pf,p,m⟩:=hr.DL.cells id cs hcs b hb;obtain⟨hi,ha⟩:=jh hr.DL hcs hb q m;have qH:∀(k o:Nat),(Cp cs z o k).length=k:=by
     intro k;induction k with
     |zero=>intro o;rfl
     |succ k ih=>intro o;simp[Cp,ih]
    have d:∀(k o i:Nat) (r:List Aa),(Cp cs z o k)[i]?=some r->i<k/\r=(cs.drop (o+i*z)).take z:=by
     intro k;induction k with
     |zero=>intro o i r h;simp[Cp] at h
     |succ k ih=>
      intro o i r h;cases i with
      |zero=>simp[Cp] at h;exact⟨CS _,by simpa using h.symm⟩
      |succ i=>simp[Cp] at h;obtain⟨l,g⟩:=ih _ _ _ h;exact⟨Ac,by rw[g];congr 2;rw[BC];omega⟩
    refine⟨_,ha.le,hr.IA hi ha,⟨b,off,none⟩,cap,by rw[qH];exact hu,by rw[qH];exact hc,.inl rfl,EL.GD λi r f=>?_⟩;obtain⟨l,rfl⟩:=d n off i r f;have t:i*z+z<=n*z:=by have:=D1 z (Ac:i+1<=n);rwa [BC,Eo] at this
    refine⟨Ek,CQ.GD λj x hj=>?_⟩;rw[Cg] at hj;split at hj;.rename_i s;rw[Cn] at hj;obtain⟨y,hy,c⟩:=p.get hj;have hlt:off+i*z+j<cs.length:=(Al.1 hj).1;refine⟨y,?_,BH.mono ha.le _ _ c⟩;simp only[Gh.C5,BE,Ag hlt];rw[CN hlt] at hy;simpa using hy
    .cases hj
   .cases hf
  .cases hf
 .cases hf;exact⟨γ,.refl _,hr,hv⟩
def RR:∀{Av:List (List Aa)} {s:Aj},Mq Av=some s->∃ns:List Int,Av=ns.map (λn=>[.int .u8 n])/\s=ns.map λn=>UInt8.ofNat n.toNat
 |[],s,hs=>by cases hs;exact⟨[],rfl,rfl⟩
 |r::Av,s,hs=>by
  unfold Mq at hs;split at hs;.rename_i Kb;cases Kb
  .rename_i n rs Kb;cases Kb;cases hq:Mq Av with
   |none=>rw[hq] at hs;cases hs
   |some l=>rw[hq] at hs;cases hs;obtain⟨ns,rfl,rfl⟩:=RR hq;exact⟨n::ns,rfl,rfl⟩
  .cases hs
def Ws:∀(ns:List Int) (r:ByteArray),ns.foldl (λr n=>r.push (UInt8.ofNat n.toNat)) r=⟨r.data++(ns.map λn=>UInt8.ofNat n.toNat).toArray⟩
 |[],r=>Ax
 |n::ns,r=>by rw[fk,Ws ns];simp[ByteArray.push]
def xe{o:Oper}{src dst e:TypeId}{x:Operand}{v v' u:Aa}{h':Ai}(ho:o.op= .convert src dst x)(hs:C.P.underlying src=some (.slice e))(hd:C.P.underlying dst=some .string)(he:C.P.underlying e=some (.int .u8))(hx:EK C U x=some v)(hf:KK h v=some (h',v'))(hp:Az .YB [v']=some u)
  (hr:CW C γ0 w0 γ Z U h a w):Fu C γ0 w0 o a w (U.put o.dst (.val u)) h':=by
 obtain⟨γ',Es,Hn,Hq⟩:=hr.UD (Gc hr hx) hf;have Ml:∀s,(Conv.bytesToString (a.eval x)).run C.P w= .ok s w->(∃p l c,a.eval x= .slice p l c)->(execOp a.eval o).run C.P w= .ok (.value s) w:=λs AH ⟨p,l,c,pC⟩=>by simp only[execOp,ho];refine Dk ?_;rw[pC] at AH⊢;rw[run_convert_bytes_string w src dst e p l c hs he hd];exact AH
 simp only[Az] at hp;unfold aP at hp;split at hp
 .rename_i Av;cases hq:Mq Av with
  |none=>rw[hq] at hp;cases hp
  |some s=>
   rw[hq] at hp;cases hp;obtain⟨ns,rfl,rfl⟩:=RR hq;obtain⟨d,cap,pC,hc,hsp,hR⟩:=Hq;have Ng:∀(j:Nat) (v:Value),(ns.map (Value.int .u8))[j]?=some v->d.add j=⟨d.block,d.off+j,none⟩:=λj v hj=>by
    have hpos:0<ns.length:=by have:=(Al.1 hj).1;simp at this;omega
    have pY:=NR hsp hc (by simpa using hpos);generalize d.block=b at*;generalize d.off=o at*;subst pY;unfold Addr.add;split<;>simp_all
   have hl:=run_loadCells_list (P:=C.P) w d (ns.map (Value.int .u8)) (λj v hj=>by
    rw[Ng j v hj];simp only[CA] at hj;cases hn:ns[j]? with
    |none=>rw[hn] at hj;cases hj
    |some n=>rw[hn] at hj;cases hj;obtain⟨_,m⟩:=hR.get (i:=j) (r:=[.int .u8 n]) (by simp[hn]);obtain⟨y,hy,g⟩:=m.get (i:=0) (a:= .int .u8 n) rfl;rw[show y=_ from g] at hy;have:=(Hn.DL.HW _ _ _ hy).1;simpa using this)
   simp only[Aw] at hl;have AH:=run_bytesToString (P:=C.P) w d ns.length cap ns hl;have k:ByteArray.empty.data=#[]:=rfl;rw[Ws,k,Array.empty_append] at AH;have f:a.eval x= .slice (some d) ns.length cap:=by rw[pC];simp
   rw[<-f] at AH;exact Fu.value (Ml _ AH ⟨_,_,_,f⟩) (Hn.put λ_ _=>rfl)
 .cases hp;have f:a.eval x= .slice none 0 0:=Hq;have AH:(Conv.bytesToString (a.eval x)).run C.P w= .ok (.string ⟨⟨[]⟩⟩) w:=by rw[f];simp[Conv.bytesToString];rfl
  exact Fu.value (Ml _ AH ⟨_,_,_,f⟩) (Hn.put λ_ _=>rfl)
 .cases hp
def jy(C:Fx)(f:FuncId):Prop:=
 (∃fn c,C.P.funcs[f]?=some fn/\(fn.name== "runtime.NumGoroutine")=false/\fn.body=some c)/\
 ∀(γ:Gh) (h:Ai) (w:World) (s:Aa) (d:Value) (i x:Int) (h':Ai) (r:Aa) (g b:Nat) (us:Array Value) (e:TypeId),Hw γ h w->BH γ s d->PX h [s,.int .i64 i,.sl 1 [[.int .i64 x]]]=some (h',r)->
  w.heap[g]?=some (.cells us e (0,0))->us[0]?=some (.int .i64 x)->(∀id,γ.BI g≠some (.Mj id))->1<=b->us.size=b->
  Calls C.P f #[d,.int .i64 i,.slice (some ⟨g,0,none⟩) 1 b] w λe w'=>match e with
   | .returned v=>∃γ',Hw γ' h' w'/\LR γ w γ' w'/\BH γ' r v
   |_=>False
def EV(C:Fx)(run:IT->Ai->Option Ju):Prop:=
 ((∀g cs,C.GN g=some cs->cs.all Aa.Mk=true)/\∀f,C.MN f=true->jy C f)/\
 ∀(f:FuncId) (args:List Aa) (h:Ai) (r:Aa) (h':Ai),run (BZ C f args) h=some (.ret,[r],h')->
  (∃fn c,C.P.funcs[EO f]?=some fn/\(fn.name== "runtime.NumGoroutine")=false/\fn.body=some c)/\
  ∀(γ:Gh) (w:World) (cargs:Array Value),Hw γ h w->(∀g cs,C.GN g=some cs->CQ γ cs g 0)->AX γ args cargs.toList->
   Calls C.P (EO f) cargs w λe w'=>match e with
    | .returned v=>∃γ',Hw γ' h' w'/\LR γ w γ' w'/\BH γ' r v/\(C.JA f=true->∃s c,IP γ' w.heap.size w' s c v r)
    |_=>False
def CW.Ī(hr:CW C γ0 w0 γ Z U h a w){h':Ai}{r:Aa}{v:Value}(hi:Hw γ' h' w')(ha:LR γ w γ' w')(hv:BH γ' r v){BI:Bool}(ho:BI=true->∃s c,IP γ' w.heap.size w' s c v r)(d:Option Nat):
  ∃f,CW C γ0 w0 f Z (U.put d (if BI then .BI r else .val r)) h' (a.put d v) w':=by
 cases BI with
 |false=>exact⟨γ',(hr.IA hi ha).put λ_ _=>hv⟩
 |true=>
  obtain⟨s,c,i⟩:=ho rfl;rcases i with i|⟨g,n,cap,us,e,z,Av,rfl,h2,l,k,j⟩
  .exact⟨γ',(hr.IA hi ha).put λ_ _=>⟨hv,.inl i⟩⟩
  .have ģ:LR γ w (γ'.Fq g (.tail U.length none (n*z))) w':=⟨ha.le.trans (GY _ _ _),ha.size,ha.os,ha.tape,ha.output,λb hb hn=>by obtain⟨p,q⟩:=ha.NS b hb hn;exact⟨p,by simp only[Gh.Fq,Af (Ac:b≠g)];exact q⟩⟩
   have Hn:=hr.IA (hi.Fq (s':=U.length) (c':=none) l) ģ;exact Hn.Wm (BH.mono (GY _ _ _) _ _ hv) (.inr ⟨g,n,cap,us,e,z,Av,rfl,h2,by simp[Gh.Fq],Bn hr.DE.size k,j⟩) d
def HU{P:Program}{f:FuncId}{fn:Func}{c:Code}(hf:P.funcs[f]?=some fn)(hname:(fn.name== "runtime.NumGoroutine")=false)(hb:fn.body=some c)(args:Array Value)(w:World):
  (callFunc f args).run P w= .ok (.enter f args) w:=by
 have hn:¬fn.name= "runtime.NumGoroutine":=by simpa using hname
 simp[callFunc,hf,hn,hb]
def RS{o:Oper}{f:FuncId}{cargs:Array Value}{K:Act->World->Prop}{Q:Exit->Act->World->Prop}(he:(execOp a.eval o).run C.P w= .ok (.enter f cargs) w){R:Value->World->Prop}
  (hc:Calls C.P f cargs w λe w'=>match e with| .returned v=>R v w'|_=>False) (hk:∀v w',R v w'->K (a.put o.dst v) w'):o.wp C.P a w K Q:=by
 unfold Oper.wp;rw[he];refine hc.mono λe w' h=>?_;cases e with
 |returned v=>exact hk v w' h
 |_=>exact h.elim
def jz{run:IT->Ai->Option Ju}(g:EV C run){o:Oper}{c:Call}{f:FuncId}{args:List Aa}{r:Aa}{h':Ai}{K:Act->World->Prop}{Q:Exit->Act->World->Prop}(ho:o.op= .call c)(hcl:c.callee= .value (.func (EO f)))(ha:Bq C U c.args.toList=some args)
  (AH:run (BZ C f args) h=some (.ret,[r],h')) (hr:CW C γ0 w0 γ Z U h a w) (i:∀γ' v w',CW C γ0 w0 γ' Z (U.put o.dst (if C.JA f then .BI r else .val r)) h' (a.put o.dst v) w'->K (a.put o.dst v) w'):o.wp C.P a w K Q:=by
 obtain⟨⟨fn,j,hf,hname,hb⟩,d⟩:=g.2 f args h r h' AH;have b:AX γ args (c.args.map a.eval).toList:=by simpa using DF hr ha
 refine RS (f:=EO f) (cargs:=c.args.map a.eval) ?_ (d γ w _ hr.DL hr.GN b) λv w' ⟨γ',hi,JI,hv,Fl⟩=>?_;.have h0:a.eval (.func (EO f))= .func (.func (EO f)) #[] #[]:=rfl;simp only[execOp,ho,resolve,hcl,Deferred.ofValue,h0,Sem.run_bind,Sem.run_pure,Result.andThen_ok,invoke];simpa using HU hf hname hb (c.args.map a.eval) w
 .obtain⟨e,Lu⟩:=hr.Ī hi JI hv Fl o.dst;exact i e v w' Lu
def xf{run:IT->Ai->Option Ju}(M:EV C run){o:Oper}{c:Call}{f:FuncId}{s i x:Operand}{args:List Aa}{r:Aa}{h':Ai}{K:Act->World->Prop}{Q:Exit->Act->World->Prop}(ho:o.op= .call c)(hcl:c.callee= .value (.func f))(hf:C.MN f=true)(Ey:c.args.toList=[s,i,x])(Fl:KL C U x=true)
  (ha:Bq C U [s,i,x]=some args) (hp:PX h args=some (h',r)) (hr:CW C γ0 w0 γ Z U h a w) (N:∀γ' v w',CW C γ0 w0 γ' Z (U.put o.dst (.val r)) h' (a.put o.dst v) w'->K (a.put o.dst v) w'):o.wp C.P a w K Q:=by
 obtain⟨⟨fn,cd,xg,hname,hb⟩,xh⟩:=M.1.2 f hf;have qJ:=DF hr ha;obtain⟨A,d,f1,g1,f2⟩:∃A d,[a.eval s,a.eval i,a.eval x]=A::d/\BH γ (args.getD 0 .nilIface) A/\True:=by
  cases args with
  |nil=>cases qJ
  |cons y l=>obtain⟨u,us,e,p,q⟩:=qJ;exact⟨u,us,e,p,trivial⟩
 obtain⟨s',j,x',he,k,G,F⟩:∃s' j x',args=[s',.int .i64 j,.sl 1 [[.int .i64 x']]]/\∃(k:BH γ s' (a.eval s)) (G:a.eval i= .int .i64 j),BH γ (.sl 1 [[.int .i64 x']]) (a.eval x):=by
  unfold PX at hp;split at hp;.obtain⟨_,_,_,e,E,D,B⟩:=qJ.Zp;simp only[A9,Dc,EJ,J7] at e;obtain⟨rfl,rfl,rfl⟩:=e;exact⟨_,_,_,rfl,E,D,B⟩
  .obtain⟨_,_,_,e,E,D,B⟩:=qJ.Zp;simp only[A9,Dc,EJ,J7] at e;obtain⟨rfl,rfl,rfl⟩:=e;exact⟨_,_,_,rfl,E,D,B⟩
  .cases hp
 subst he;have pB:EK C U x=some (.sl 1 [[.int .i64 x']]):=by simp only[Bq] at ha;cases h1:EK C U s<;>cases h2:EK C U i<;>cases I:EK C U x<;>simp_all
 obtain⟨sl,pC⟩:∃sl,DS C U x=some sl:=by
  unfold KL at Fl;cases hs:DS C U x with
  |none=>rw[hs] at Fl;cases Fl
  |some sl=>exact⟨sl,rfl⟩
 have aGF:∃v,sl= .BI v:=by unfold KL at Fl;rw[pC] at Fl;cases sl<;>first|exact⟨_,rfl⟩|cases Fl
 obtain⟨v,rfl⟩:=aGF;obtain⟨s0,hrel,_⟩:=FW hr pC;have aGG:v= .sl 1 [[.int .i64 x']]:=by simp only[EK,pC,Cd,Ec.GW,Bx] at pB;exact pB
 subst aGG;obtain⟨wB,m⟩:=hrel;rcases m with(m|⟨_,m⟩)|⟨g,n,cap,us,e,z,Av,h1,h2,I,W,H,R,O,V,T⟩
 .cases m
 .cases m
 .cases h1;obtain⟨ad,L,J,Y,X,S⟩:=F;rw[h2] at J;cases J;obtain⟨_,hm,_⟩:=S;obtain⟨⟨u,hu,hru⟩,_⟩:=hm;obtain⟨Jj,_,_⟩:=hr.DL.HW _ _ _ hu;have Zk:us[0]?=some (.int .i64 x'):=by rw[cell_of_row w _ _ us e (0,0) H] at Jj;rw[Jj];exact Cm some hru
  have b:c.args.map a.eval=#[a.eval s,.int .i64 j,.slice (some ⟨g,0,none⟩) 1 cap]:=by apply Hi;simp only[M5,Ey,A9,Dc,G,h2];rfl
  have Vc:=xh γ h w s' _ j x' h' r g cap us e hr.DL k hp H Zk (λid Ik=>by rw[I] at Ik;cases Ik) O (by rw[R,GL]);rw[<-b] at Vc;refine RS (f:=f) (cargs:=c.args.map a.eval) ?_ Vc λv w' ⟨γ',hi,JI,hv⟩=>?_;.have h0:a.eval (.func f)= .func (.func f) #[] #[]:=rfl;simp only[execOp,ho,resolve,hcl,Deferred.ofValue,h0,Sem.run_bind,Sem.run_pure,Result.andThen_ok,invoke];simpa using HU xg hname hb (c.args.map a.eval) w
  .obtain⟨t,Lu⟩:=hr.Ī (BI:=false) hi JI hv (λe=>by cases e) o.dst;exact N t v w' (by simpa using Lu)
def Gh.apart(γ:Gh):Gh:={HW:=γ.HW,mu:=λ_=>none,BI:=λb=>match γ.BI b with|some (.Mj _)=>none|x=>x,sz:=γ.sz}
def Hw.apart(hi:Hw γ h w):Hw γ.apart [] w:=by
 refine⟨λb o v hb=>?_,λid x hx=>by simp at hx,λid cs hx=>by simp at hx,λid es hx=>by simp at hx,λid b hb=>(by cases hb),λb x hx=>?_,λb n hb=>?_⟩;rotate_left 2;.obtain⟨p,r⟩:=hi.sz b n hb;refine⟨p,.inl ?_⟩;simp only[Gh.apart];rcases r with r|⟨_,r⟩<;>rw[r]
 .obtain⟨p,q,r⟩:=hi.HW b o v hb;refine⟨p,q,?_⟩;simp only[Gh.apart];rcases r with r|⟨s,c,st,r,hl⟩
  .exact .inl (by rw[r])
  .exact .inr ⟨s,c,st,by rw[r],hl⟩
 .simp only[Gh.apart] at hx;split at hx;.cases hx
  .exact hi.BI b x hx
def CW.xi(hr:CW C γ0 w0 γ Z U h a w){c:Gh}{h1:Ai}(hi:Hw c h1 w')(ha:LR γ.apart w c w'):∃d,CW C γ0 w0 d Z U h a w':=by
 have kE:∀b id,γ.apart.BI b≠some (.Mj id):=λb id e=>by
  simp only[Gh.apart] at e;split at e;.cases e
  .rename_i hn;exact hn id e
 have Nc:∀b,b<w.heap.size->w'.heap[b]?=w.heap[b]?:=λb hb=>(ha.NS b hb (kE b)).1;refine⟨γ,hr.IA ⟨λb o v hb=>?_,hr.DL.Mj,λid cs hc b hb=>?_,λid es hc b hb=>?_,hr.DL.mu,λb x hx=>IJ (hr.DL.BI b x hx) ha.size,λb n hb=>(by
   obtain⟨⟨us,e,fr,p,q⟩,r⟩:=hr.DL.sz b n hb;exact⟨⟨us,e,fr,by rw[Nc b (AO.1 p).1];exact p,q⟩,r⟩)⟩
  ⟨.refl _,ha.size,ha.os,ha.tape,ha.output,λb hb _=>⟨Nc b hb,rfl⟩⟩⟩
 .obtain⟨p,q,r⟩:=hr.DL.HW b o v hb;exact⟨by rw[CG (Nc b (Dt p))];exact p,q,r⟩
 .obtain⟨us,e,fr,p,q⟩:=hr.DL.cells id cs hc b hb;exact⟨us,e,fr,by rw[Nc b (AO.1 p).1];exact p,q⟩
 .obtain⟨DD,clock,p,q⟩:=hr.DL.map id es hc b hb;exact⟨DD,clock,by rw[Nc b (AO.1 p).1];exact p,q⟩
def Wt{γ γ':Gh}{x:Aa}{v:Value}(hf:x.Mk=true)(hv:BH γ x v):BH γ' x v:=by cases x<;>first|exact hv|cases hf
def Zx{γ γ':Gh}:∀{l:List Aa} {us:List Value},l.all Aa.Mk=true->AX γ l us->AX γ' l us
 |[],us,_,h=>h
 |x::l,us,hf,h=>by obtain⟨u,Dq,e,h1,h2⟩:=h;simp only[aM,A7] at hf;exact⟨u,Dq,e,Wt hf.1 h1,Zx hf.2 h2⟩
def CQ.apart{γ:Gh}:∀{l:List Aa} {b o:Nat},CQ γ l b o->l.all Aa.Mk=true->CQ γ.apart l b o
 |[],_,_,_,_=>trivial
 |x::l,b,o,h,hf=>by obtain⟨⟨u,h1,h2⟩,c⟩:=h;simp only[aM,A7] at hf;exact⟨⟨u,h1,Wt hf.1 h2⟩,c.apart hf.2⟩
def zU{run:IT->Ai->Option Ju}(i:EV C run){o:Oper}{c:Call}{f:FuncId}{args:List Aa}{r:Aa}{h1:Ai}{K:Act->World->Prop}{Q:Exit->Act->World->Prop}(ho:o.op= .call c)(hcl:c.callee= .value (.func (EO f)))(ha:Bq C U c.args.toList=some args)
  (hfa:args.all Aa.Mk=true) (AH:run (BZ C f args) []=some (.ret,[r],h1)) (vW:r.Mk=true) (hr:CW C γ0 w0 γ Z U h a w) (j:∀γ' v w',CW C γ0 w0 γ' Z (U.put o.dst (.val r)) h (a.put o.dst v) w'->K (a.put o.dst v) w'):o.wp C.P a w K Q:=by
 obtain⟨⟨fn,k,hf,hname,hb⟩,d⟩:=i.2 f args [] r h1 AH;have b:AX γ.apart args (c.args.map a.eval).toList:=Zx hfa (by simpa using DF hr ha);refine RS (f:=EO f) (cargs:=c.args.map a.eval) ?_ (d γ.apart w _ hr.DL.apart (λg cs hg=>(hr.GN g cs hg).apart (i.1.1 g cs hg)) b) λv w' ⟨γ',hi,JI,hv,_⟩=>?_;.have h0:a.eval (.func (EO f))= .func (.func (EO f)) #[] #[]:=rfl;simp only[execOp,ho,resolve,hcl,Deferred.ofValue,h0,Sem.run_bind,Sem.run_pure,Result.andThen_ok,invoke];simpa using HU hf hname hb (c.args.map a.eval) w
 .obtain⟨e,Lu⟩:=hr.xi hi JI;exact j e v w' (Lu.put λ_ _=>Wt vW hv)
def zV{run:IT->Ai->Option Ju}(l:EV C run){o:Oper}{c:Call}{g:Operand}{k:Aa}{f:FuncId}{args args':List Aa}{r:Aa}{h':Ai}{K:Act->World->Prop}{Q:Exit->Act->World->Prop}(ho:o.op= .call c)(hcl:c.callee= .value g)(hg:EK C U g=some k)
  (ha:Bq C U c.args.toList=some args) (ht:Cc k args=some (f,args')) (AH:run (BZ C f args') h=some (.ret,[r],h')) (hr:CW C γ0 w0 γ Z U h a w) (m:∀γ' v w',CW C γ0 w0 γ' Z (U.put o.dst (.val r)) h' (a.put o.dst v) w'->K (a.put o.dst v) w'):o.wp C.P a w K Q:=by
 obtain⟨⟨fn,n,hf,hname,hb⟩,b⟩:=l.2 f args' h r h' AH;have j:=Gc hr hg;unfold Cc at ht;split at ht
 .rename_i f0 first captured
  split at ht;rotate_left;.cases ht
  rename_i vu;cases ht;rw[show EO f=f from Ag vu] at hf b;obtain⟨fs,cs,GS,h1,h2⟩:=j;have d:AX γ (first++args++captured) (fs++c.args.map a.eval++cs).toList:=by simpa using(h1.append (DF hr ha)).append h2
  refine RS (f:=f) (cargs:=fs++c.args.map a.eval++cs) ?_ (b γ w _ hr.DL hr.GN d) λv w' ⟨γ',hi,JI,hv,Fl⟩=>?_;.simp only[execOp,ho,resolve,hcl,Deferred.ofValue,GS,Sem.run_bind,Sem.run_pure,Result.andThen_ok,invoke];exact HU hf hname hb _ w
  .obtain⟨i,Lu⟩:=hr.Ī (BI:=false) hi JI hv (λe=>by cases e) o.dst;exact m i v w' (by simpa using Lu)
 .cases ht
end
end Go.Am
end
