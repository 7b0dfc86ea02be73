/- Lemmas -/
import Derived.Test.YtgmhlaiafgkmeaaGreatDoorN4
import Derived.Deep.AppendSrc
import Derived.Great.BuildSlice
import Derived.Laws.IdiomStrings
set_option linter.all false
section
namespace Go.Am
open Go
section
variable{C:CB}{U0 U U':Gh}{w0 w w':World}{O:Nat->Nat}{Z:Av}{h:Ab}{a:Act}{fid:FuncId}{ops:List Oper}
def Bw{P:Program}{s:Sem Value}{v:Value}(hs:s.run P w= .ok v w'):(do pure (Next.value (<-s)):Sem Next).run P w= .ok (.value v) w':=by simp[hs]
def KA{J:Type}{z:Nat}:∀{Ac:List (List J)},(∀r∈Ac,r.length=z)->∀{i:Nat} {r:List J},Ac[i]?=some r->∀{j:Nat} {x:J},r[j]?=some x->Ac.flatten[i*z+j]?=some x
 |[],_,i,r,hi,_,_,_=>by simp at hi
 |q::Ac,hl,0,r,hi,j,x,hj=>by simp at hi;subst hi;have:j<q.length:=(Af.1 hj).1;simp only[FQ,AL,BT];rw[As this];exact hj
 |q::Ac,hl,i+1,r,hi,j,x,hj=>by
  simp at hi;have hq:q.length=z:=hl q (by simp);rw[BT,BL (by rw[hq,AI];omega)];have:=KA (Ac:=Ac) (λr hr=>hl r (by simp[hr])) hi hj;rw[<-this];congr 1
  rw[hq,AI];omega
def Df{J:Type}{z:Nat}:∀{Ac:List (List J)},(∀r∈Ac,r.length=z)->Ac.flatten.length=Ac.length*z
 |[],_=>by simp
 |q::Ac,hl=>by have hq:q.length=z:=hl q (by simp);simp[hq,Df (Ac:=Ac) (λr hr=>hl r (by simp[hr])),AI,Kr]
def G2{Ac:List (List Aa)}{us:List Value}{z b o:Nat}(hl:∀r∈Ac,r.length=z)(hv:Ai U Ac.flatten us)(hi:∀(j:Nat) (u:Value),us[j]?=some u->U.DI b (o+j)=some u):B3 U Ac z b o:=by refine B3.C2 λi r hr=>⟨hl r (AT hr),Bb.C2 λj x hj=>?_⟩;obtain⟨u,hu,hx⟩:=hv.get (KA hl hr hj);exact⟨u,by rw[Ng];exact hi _ _ hu,hx⟩
def Bk.drew(hr:Bk C U0 w0 U O Z h a w):Bk C U0 w0 U O Z h a w.drew:=hr.DX (hr.BI.same rfl) (FC.drew U w)
def Av.J6(Z:Av):Z.at Z.length= .undef:=by simp[Av.at,List.getD]
def Bk.LI(hr:Bk C U0 w0 U O Z h a w){x:Aa}{v:Value}(hv:Au U x v)(ho:D2 U w0.heap.size w Z.length none v x)(d:Option Nat):∃U',Bk C U0 w0 U' O (Z.put d (.A5 x)) h (a.put d v) w:=by
 cases d with
 |none=>exact⟨U,hr⟩
 |some d=>
  rcases ho with ho|⟨g,n,cap,us,e,z,Ac,h1,h2,h3,h4,h5⟩
  .exact⟨U,hr.put λs _=>⟨hv,.inl ho⟩⟩
  .have EH:=hr.Cv (s':=d) (c':=none) h3 h4 (λ_ u=>by rw[Av.J6];simp) (λo ho=>by cases ho);exact⟨_,EH.put λs hs=>by cases hs;exact⟨Au.mono (Dc _ _ _) _ _ hv,.inr ⟨g,n,cap,us,e,z,Ac,h1,h2,by simp[Gh.Cv],h4,h5⟩⟩⟩
def Bk.LJ(hr:Bk C U0 w0 U O Z h a w)(us:Array Value)(e:TypeId){z n cap:Nat}{Ac:List (List Aa)}(hz:0<z)(hn:Ac.length=n)(hl:∀r∈Ac,r.length=z)(ML:us.size=cap*z)(hc:n<=cap)(hm:cap<=maxLen)
  (hv:Ai U Ac.flatten (us.toList.take (n*z))) (h1:∀u∈us.toList.take (n*z),u.oneCell'=true):
  ∃U',U.le U'/\Bk C U0 w0 U' O Z h a (w.alloc (.cells us e))/\Au U' (.sl z Ac) (.slice (some ⟨w.heap.size,0,none⟩) n cap)/\D2 U' w0.heap.size (w.alloc (.cells us e)) Z.length none (.slice (some ⟨w.heap.size,0,none⟩) n cap) (.sl z Ac):=by
 obtain⟨hi,ha⟩:=Ht hr.BI us e (0,0) (n*z) (some (.tail Z.length none (n*z))) (λo u ho hu=>h1 u (AT (i:=o) (by rw[A6 ho];simpa using hu))) (.inr (.inl ⟨_,_,rfl⟩));refine⟨_,ha.le,hr.DX hi ha,⟨⟨w.heap.size,0,none⟩,cap,by rw[hn],by omega,.inl rfl,G2 hl (Ai.mono ha.le _ _ hv) λj u hj=>?_⟩,.inr ⟨w.heap.size,n,cap,us,e,z,Ac,rfl,rfl,by simp[Gh.Br],hr.BE.size,heap_alloc_new w _,ML,hc,hm,hz⟩⟩;rw[A0] at hj;split at hj;.rename_i hlt;simp only[Gh.Br,Bc,AL,if_pos hlt];simpa using hj
 .cases hj
def LK{size:Nat}:∀(vs:List Value) (k:Nat) (cells:Array Value),(∀v∈vs,v.cells.size=size)->(k+vs.length)*size<=cells.size->
  Instr.fill (λi=>some (i*size,size)) cells ((vs.zipIdx k).map λp=>(p.2,p.1))=some (cells.toList.take (k*size)++vs.flatMap (·.cells.toList)++cells.toList.drop ((k+vs.length)*size)).toArray
 |[],k,cells,_,_=>by simp[Instr.fill]
 |v::vs,k,cells,hv,hl=>by
  have hs:v.cells.size=size:=hv v (by simp);simp only[AF] at hl;have Cd:(k+1)*size+vs.length*size<=cells.size:=by rw[<-AI];exact AX (FM (by congr 1;omega)) hl
  have Vw:(k+1)*size=k*size+size:=by rw[AI,Fo]
  simp only[Qw,Be,Instr.fill];have c1:¬(v.cells.size≠size\/k*size+v.cells.size>cells.size):=by rw[hs];omega
  simp only[ne_eq,decide_not,Hb,CO,yY,decide_eq_false_iff_not] at*;rw[if_neg c1];have hf:=GZ v.cells.toList (k*size) 0 cells (by simp[hs];omega);have rX:v.cells.zipIdx.foldl (λcs (c,j)=>cs.setIfInBounds (k*size+j) c) cells=(cells.toList.take (k*size)++v.cells.toList++cells.toList.drop (k*size+size)).toArray:=by rw[<-vW,rF];rw[hf];simp[hs]
  rw[rX];have hlen:(cells.toList.take (k*size)++v.cells.toList++cells.toList.drop (k*size+size)).length=cells.size:=by simp[hs];omega
  rw[LK vs (k+1) _ (λu hu=>hv u (by simp[hu])) (by simp only[AE];rw[hlen,AI];exact Cd)]
  congr 2
  have e1:(cells.toList.take (k*size)++v.cells.toList).length=(k+1)*size:=by simp[hs];omega
  have e2:(cells.toList.take (k*size)++v.cells.toList++cells.toList.drop (k*size+size)).take ((k+1)*size)=cells.toList.take (k*size)++v.cells.toList:=by rw[<-e1];exact Cq
  have e3:(cells.toList.take (k*size)++v.cells.toList++cells.toList.drop (k*size+size)).drop ((k+1+vs.length)*size)=cells.toList.drop ((k+(vs.length+1))*size):=by
   rw[Qy,Bv (by rw[e1];exact CL _ (by omega)),e1,DS,Bi];congr 1
   have:(k+1+vs.length)*size-(k+1)*size=vs.length*size:=by rw[AI (k+1)];omega
   rw[this,AI k,AI vs.length];omega
  rw[e2,e3];simp
def Fa{P:Program}{t:TypeId}(h:FA P t=true):∃i z,P.info? t=some i/\i.zero=some z/\z.cells.size=i.size:=by
 unfold FA at h;split at h
 .rename_i i hi;split at h;.rename_i z hz;exact⟨i,z,hi,hz,by simpa using h⟩
  .cases h
 .cases h
def El{P:Program}{t:TypeId}{n:Nat}{i:TypeInfo}(h:Az P t=some n)(hi:P.info? t=some i):i.size=n:=by simpa[Az,hi] using h
def Fq{P:Program}{t:TypeId}{n:Nat}{i:TypeInfo}(h:Eu P t=some n)(hi:P.info? t=some i):i.bytes=n:=by simpa[Eu,hi] using h
def LL:∀{args:List Aa} {us:List Value} {z:Nat},Ai U args us->(∀x∈args,x.cells.length=z)->0<z->Ai U (args.map (·.cells)).flatten (us.flatMap (·.cells.toList))/\(∀u∈us.flatMap (·.cells.toList),u.oneCell'=true)/\∀u∈us,u.cells.size=z
 |[],us,z,h,_,_=>by rw[Ai] at h;subst h;exact⟨rfl,by simp,by simp⟩
 |x::args,us,z,h,hl,hz=>by
  obtain⟨u,By,rfl,h1,h2⟩:=h;have hx:=hl x (by simp);obtain⟨q1,q2⟩:=Dd h1 (by omega);obtain⟨r1,r2,r3⟩:=LL h2 (λy hy=>hl y (by simp[hy])) hz;refine⟨by simpa using q1.append r1,λv hv=>?_,λv hv=>?_⟩;.simp only[List.flatMap_cons,Aj] at hv;exact hv.elim (q2 v) (r2 v)
  .rcases AP.1 hv with rfl|hv
   .have:=q1.length;simp at this;omega
   .exact r3 v hv
def MV{a:Act}:∀{l:List (Nat×Operand)} {k:Nat},l.map (·.1)=List.range' k l.length->l.map (λp=>(p.1,a.eval p.2))=((l.map λp=>a.eval p.2).zipIdx k).map λp=>(p.2,p.1)
 |[],k,_=>by simp
 |(i,x)::l,k,h=>by simp only[Be,AF,iy,Cs] at h;obtain⟨rfl,h⟩:=h;simp[Qw,MV h]
def TH{o:Oper}{t e:TypeId}{len n:Nat}{parts:Array (Nat×Operand)}{args:List Aa}{u:Aa}(ho:o.op= .buildSlice t len parts)(ht:C.P.underlying t=some (.slice e))(Fc:Az C.P e=some (n+1))(hp:parts.toList.map (·.1)=List.range len)(N7:FA C.P e=true)
  (ha:Ak C Z (parts.toList.map (·.2))=some args) (hu:AA (.BD (n+1)) args=some u) (hr:Bk C U0 w0 U O Z h a w):Cx C U0 w0 o a w (Z.put o.dst (.A5 u)) h:=by
 obtain⟨i,z,hi,hz,NA⟩:=Fa N7;have Ii:=El Fc hi;simp only[AA] at hu;split at hu
 .rename_i hc;cases hu;simp only[Ao,Cb,Vl,CO] at hc;obtain⟨S1,LM⟩:=hc;have B0:=BF hr ha;have hlen:parts.toList.length=len:=by have:=Bm List.length hp;simpa using this
  have aW:args.length=len:=by have:=B0.length;simp at this;simp at hlen;omega
  obtain⟨q1,q2,q3⟩:=LL B0 S1 (Bd n);have QW:=q1.length;rw[Df (z:=n+1) (by intro r hr;obtain⟨x,hx,rfl⟩:=Ay.1 hr;exact S1 x hx),Ds,aW] at QW;have Ad:∃cells:Array Value,cells.toList=(parts.toList.map (·.2) |>.map a.eval).flatMap (·.cells.toList)/\(Instr.buildSlice t len (parts.map λ(i,x)=>(i,a.eval x))).run C.P w= .ok (.slice (some ⟨w.heap.size,0,none⟩) len len) (w.alloc (.cells cells e)):=by
   have VB:(parts.map λ(i,x)=>(i,a.eval x)).toList=(((parts.toList.map (·.2)).map a.eval).zipIdx 0).map λp=>(p.2,p.1):=by have:=MV (a:=a) (l:=parts.toList) (k:=0) (by rw[hlen,<-qI];exact hp);simp only[Gn,List.map_map];exact this
   have Vo:=LK (size:=n+1) ((parts.toList.map (·.2)).map a.eval) 0 ((Array.range (len*(n+1))).map (z.cells[·%z.cells.size]!)) q3 (by simp at hlen⊢;rw[hlen];exact Ap _);rw[<-VB] at Vo;have e0:((Array.range (len*(n+1))).map (z.cells[·%z.cells.size]!)).toList.drop ((0+((parts.toList.map (·.2)).map a.eval).length)*(n+1))=[]:=by apply Bv;simp at hlen⊢;rw[hlen];exact Ap _
   rw[e0] at Vo;simp only[FQ,HY,Bi,BM] at Vo;refine⟨_,rfl,?_⟩;by_cases h0:len*(n+1)=0
   .have zF:len=0:=by
     rcases Nat.mul_eq_zero.1 h0 with h|h
     .exact h
     .omega
    subst zF;have aX:parts=#[]:=by apply DR;simpa using hlen
    subst aX;have rY:(Array.range 0:Array Nat)=#[]:=rfl;simp[Instr.buildSlice,run_underlying ht,sizeOf,typeInfo,hi,newRow,Instr.fill,rY]
   .exact run_buildSlice w t e len _ _ i z ht hi hz (by rw[Ii];rw[aW] at LM;omega) (by rw[Ii];exact h0) (by rw[Ii];exact Vo)
  obtain⟨cells,hcells,Ad⟩:=Ad;have hcs:cells.size=len*(n+1):=by rw[<-AM,hcells];exact QW
  obtain⟨U',Cd,DC,Ih,Ct⟩:=hr.LJ cells e (z:=n+1) (n:=len) (cap:=len) (Ac:=args.map (·.cells)) (Bd n) (by simp[aW]) (by intro r hr;obtain⟨x,hx,rfl⟩:=Ay.1 hr;exact S1 x hx) hcs (Ap _)
   (by rw[aW] at LM;have:len<=len*(n+1):=DT _ (Bd n);simp only[maxLen];omega) (by rw[hcells,AS (by rw[QW];exact Ap _)];exact q1) (by rw[hcells,AS (by rw[QW];exact Ap _)];exact q2)
  obtain⟨U2,GK⟩:=DC.LI Ih Ct o.dst;exact Cx.value (by simp only[execOp,ho];exact Bw Ad) GK
 .cases hu
def TI{o:Oper}{t e:TypeId}{len n:Nat}{parts:Array (Nat×Operand)}(ho:o.op= .buildSlice t len parts)(ht:C.P.underlying t=some (.slice e))(Fc:Az C.P e=some (n+1))(hp:parts.toList.map (·.1)=List.range len)(N7:FA C.P e=true)(h0:len=0)
  (hr:Bk C U0 w0 U O Z h a w):Cx C U0 w0 o a w (Z.put o.dst (.A5 (.DU (n+1)))) h:=by
 subst h0;obtain⟨i,z,hi,hz,NA⟩:=Fa N7;have aX:parts=#[]:=by apply DR;have:=Bm List.length hp;simpa using this
 subst aX;have rY:(Array.range 0:Array Nat)=#[]:=rfl;have Ad:(Instr.buildSlice t 0 ((#[]:Array (Nat×Operand)).map λ(i,x)=>(i,a.eval x))).run C.P w= .ok (.slice (some ⟨w.heap.size,0,none⟩) 0 0) (w.alloc (.cells #[] e)):=by simp[Instr.buildSlice,run_underlying ht,sizeOf,typeInfo,hi,newRow,Instr.fill,rY]
 obtain⟨U',Cd,DC,_,_⟩:=hr.LJ #[] e (z:=n+1) (n:=0) (cap:=0) (Ac:=[]) (Bd n) rfl (by simp) (by simp) (Ap _) (by simp[maxLen]) (by rw[FQ];exact(rfl:Ai U [] [])) (by simp);obtain⟨U2,GK⟩:=DC.LI (x:= .DU (n+1)) (v:= .slice (some ⟨w.heap.size,0,none⟩) 0 0) ⟨_,rfl⟩ (.inl (.inr ⟨_,rfl⟩)) o.dst;exact Cx.value (by simp only[execOp,ho];exact Bw Ad) GK
def QX{t':TypeId}{size bytes:Nat}{v u r:Aa}{xv:Value}(Ek:(∃e',C.P.underlying t'=some (.slice e'))\/C.P.underlying t'=some .string)(hi:Dp U h w)(hu:Au U u xv)(hp:Es size bytes v u=some r):
  ∃(Ac:List (List Aa)) (news:List Value),BN size bytes v Ac=some r/\Src C.P size t' xv Ac.length news w/\Ai U Ac.flatten news/\(∀r∈Ac,r.length=size):=by
 unfold Es at hp;split at hp;.rw[show xv=_ from hu];exact⟨[],[],hp,⟨Ek,λ_=>rfl,run_firstCells_none w size 0 0 0,run_firstCells_none w.drew size 0 0 0,by simp,by simp⟩,rfl,by simp⟩
 .rename_i z;split at hp;.obtain⟨b,VG⟩:=hu;rw[VG];exact⟨[],[],hp,⟨Ek,λ_=>rfl,run_firstCells_some w _ _ _ _ _ [] (by simp) (λj x hj=>by simp at hj),run_firstCells_some w.drew _ _ _ _ _ [] (by simp) (λj x hj=>by simp at hj),by simp,by simp⟩,rfl,by simp⟩
  .cases hp
 .rename_i z Ac;split at hp
  .rename_i hz;subst hz;obtain⟨ad,cap,VG,HC,hsp,hR⟩:=hu;obtain⟨us,p1,p2,p3⟩:=hR.values;have Hz:∀(j:Nat) (x:Value),us[j]?=some x->ad.add j=⟨ad.block,ad.off+j,none⟩:=λj x hj=>by
    have hpos:0<Ac.length:=by
     rcases Fk Ac.length with h0|h0
     .have:us.length=0:=by rw[p2,h0,FQ]
      rw[Bq this] at hj;simp at hj
     .exact h0
    have PE:=GR hsp HC hpos;generalize ad.block=b at*;generalize ad.off=o at*;subst PE;unfold Addr.add;split<;>simp_all
   rw[VG];refine⟨Ac,us,hp,⟨Ek,λ_=>rfl,run_firstCells_some w _ _ _ _ _ us p2 (λj x hj=>by rw[Hz j x hj];exact(hi.DI _ _ _ (p3 j x hj)).1),run_firstCells_some w.drew _ _ _ _ _ us p2 (λj x hj=>by rw[Hz j x hj];exact(hi.DI _ _ _ (p3 j x hj)).1),p2,λx hx=>?_⟩,p1,λr hr=>?_⟩;.obtain⟨j,hj⟩:=AU hx;exact(hi.DI _ _ _ (p3 j x hj)).2.1
   .obtain⟨j,hj⟩:=AU hr;exact(hR.get hj).1
  .cases hp
 .rename_i s;split at hp
  .rename_i hz;subst hz;rw[show xv=_ from hu];have hlen:(Ed s).length=(⟨⟨s⟩⟩:ByteArray).size:=by simp[Ed,ByteArray.size]
   have hrel:∀l:List UInt8,Ai U (Ed l).flatten (l.map λb=>Value.int .u8 b.toNat):=by
    intro l;induction l with
    |nil=>rfl
    |cons b l ih=>exact⟨_,_,rfl,rfl,ih⟩
   refine⟨Ed s,byteCells ⟨⟨s⟩⟩,hp,?_,?_,λr hr=>?_⟩;.rw[hlen];exact⟨Ek,λ_=>rfl,firstCells_string _ w,firstCells_string _ w.drew,by rw[byteCells_length,D1],λu hu=>by obtain⟨_,_,rfl⟩:=Ay.1 hu;rfl⟩
   .simpa[byteCells] using hrel s
   .obtain⟨b,_,rfl⟩:=Ay.1 hr;rfl
  .cases hp
 .cases hp
def Bk.TJ(hr:Bk C U0 w0 U O Z h a w){g n cap z:Nat}{us:Array Value}{e:TypeId}{rr Ac:List (List Aa)}{news:List Value}(Ct:U.A5 g=some (.tail Z.length none (n*z)))(hB:w0.heap.size<=g)(hg:w.heap[g]?=some (.cells us e (0,0)))
  (ML:us.size=cap*z) (hm:cap<=maxLen) (hz:0<z) (hv:Au U (.sl z rr) (.slice (some ⟨g,0,none⟩) n cap)) (hl:∀r∈Ac,r.length=z) (hn:Ai U Ac.flatten news) (h1:∀u∈news,u.oneCell'=true) (hroom:n+Ac.length<=cap):
  ∃U',U.le U'/\Bk C U0 w0 U' O Z h a (w.setRow g (us.toList.take (n*z)++news++us.toList.drop (n*z+news.length)).toArray)/\Au U' (.sl z (rr++Ac)) (.slice (some ⟨g,0,none⟩) (n+Ac.length) cap)/\
   D2 U' w0.heap.size (w.setRow g (us.toList.take (n*z)++news++us.toList.drop (n*z+news.length)).toArray) Z.length none (.slice (some ⟨g,0,none⟩) (n+Ac.length) cap) (.sl z (rr++Ac)):=by
 obtain⟨ad,cap',Ow,HC,_,hR⟩:=hv;simp only[Value.slice.injEq,AG] at Ow;obtain⟨rfl,rfl,rfl⟩:=Ow;simp only at hR;have J7:news.length=Ac.length*z:=by rw[hn.length,Df hl]
 have hfit:(rr.length+Ac.length)*z<=us.size:=by rw[ML];exact CL _ hroom
 rw[AI] at hfit;have wE:(us.toList.take (rr.length*z)).length=rr.length*z:=by simp;omega
 obtain⟨vs,q1,q2,q3⟩:=hR.values;have hvs:vs=us.toList.take (rr.length*z):=by
  apply Pb;intro j;by_cases hj:j<rr.length*z
  .have wF:j<vs.length:=by rw[q2];exact hj
   have hc:=(hr.BI.DI _ _ _ (q3 j _ (Ax wF))).1;rw[cell_of_row w _ _ us e (0,0) hg,AL] at hc;rw[Ax wF,A6 hj];simpa using hc.symm
  .rw[Dj (by omega),Dj (by rw[wE];omega)]
 rw[hvs] at q1;have rZ:∀u∈us.toList.take (rr.length*z),u.oneCell'=true:=λu hu=>by rw[<-hvs] at hu;obtain⟨j,hj⟩:=AU hu;exact(hr.BI.DI _ _ _ (q3 j u hj)).2.1
 have zG:(rr.length+Ac.length)*z=rr.length*z+Ac.length*z:=AI _ _ _;have ZF:((us.toList.take (rr.length*z)++news++us.toList.drop (rr.length*z+news.length)).toArray).toList.take ((rr.length+Ac.length)*z)=us.toList.take (rr.length*z)++news:=by
  have:(us.toList.take (rr.length*z)++news).length=(rr.length+Ac.length)*z:=by rw[An,wE,J7,zG]
  rw[<-this];exact Cq
 have Fc:(us.toList.take (rr.length*z)++news++us.toList.drop (rr.length*z+news.length)).length=us.size:=by simp[J7];omega
 generalize hU:(us.toList.take (rr.length*z)++news++us.toList.drop (rr.length*z+news.length)).toArray=By at*;have r5:By.size=us.size:=by rw[<-hU];simpa using Fc
 obtain⟨hi,Cd⟩:=Pw hr.BI Ct hg By ((rr.length+Ac.length)*z) Z.length none (λo ho=>by
   rw[<-hU,Bz,List.getElem?_toArray,As (by omega),A6 ho];simp)
  (by omega) (λo u ho hu=>by
   have:u∈By.toList.take ((rr.length+Ac.length)*z):=by refine AT (i:=o) ?_;rw[A6 ho];simpa using hu
   rw[ZF,Aj] at this;exact this.elim (rZ u) (h1 u)) (λo v hv=>by
   have:=(hr.BI.DI _ _ _ hv).1;rwa [cell_of_row w _ _ us e (0,0) hg] at this)
 have hk:H5 g U w (U.Br g By ((rr.length+Ac.length)*z) (some (.tail Z.length none ((rr.length+Ac.length)*z)))) (w.setRow g By):=
  ⟨Cd,λb x hb hx _=>⟨by simp only[Gh.Br,if_neg hb];exact hx,setRow_other w g b By hb⟩⟩
 have hR':B3 (U.Br g By ((rr.length+Ac.length)*z) (some (.tail Z.length none ((rr.length+Ac.length)*z)))) (rr++Ac) z g 0:=by
  refine G2 (us:=By.toList.take ((rr.length+Ac.length)*z)) (λr hr=>?_) ?_ (λj u hj=>?_)
  .rcases Aj.1 hr with hr|hr
   .obtain⟨i,hi⟩:=AU hr;exact(hR.get hi).1
   .exact hl r hr
  .rw[ZF,rH];exact(Ai.mono Cd _ _ q1).append (Ai.mono Cd _ _ hn)
  .rw[A0] at hj;split at hj;.rename_i hlt;simp only[Gh.Br,Bc,AL,if_pos hlt];simpa using hj
   .cases hj
 refine⟨_,Cd,⟨hi,⟨hr.fr.size,λs=>?_⟩,hr.BE.write (g:=g) hB Cd (by simp) rfl rfl rfl (λb hb=>⟨setRow_other w g b By hb,by simp only[Gh.Br,if_neg hb]⟩),hr.defers,λx cs hx=>Bb.mono Cd _ _ _ (hr.C8 x cs hx)⟩,
  ⟨⟨g,0,none⟩,cap,by simp,by simpa using hroom,.inl rfl,hR'⟩,.inr ⟨g,rr.length+Ac.length,cap,By,e,z,rr++Ac,rfl,rfl,by simp[Gh.Br],hB,setRow_heap w g us By e (0,0) hg,by rw[r5,ML],hroom,hm,hz⟩⟩
 by_cases hs:s=Z.length;.subst hs;rw[Av.J6];trivial
 .exact(hr.fr.DG s).keptBut Ct hk (by simp only[EL.Ps];intro hx;cases hx;exact hs rfl)
def G3{t t' ty:TypeId}{ts:Array TypeId}{xs:Array Value}(h0:ts[0]?=some t)(h1:ts[1]?=some t'):Builtin.append_ ts ty xs=Builtin.append_ #[t,t'] ty xs:=by simp only[Builtin.append_,h0,h1];rfl
def Ai.VH{l:List Aa}{us:List Value}{n:Nat}(h:Ai U l us)(hn:us.length<=n):Ai U l (us.take n):=by rw[AS hn];exact h
def Gw{cs:List Aa}{z:Nat}:∀{n off:Nat},(A8 cs z off n).flatten=(cs.drop off).take (n*z)
 |0,off=>by simp[A8]
 |n+1,off=>by rw[A8,BT,Gw,AI,Fo,Kr (n*z) z,List.take_add,DS]
def He{cs:List Aa}{z:Nat}:∀{n off:Nat},(A8 cs z off n).length=n
 |0,off=>rfl
 |n+1,off=>by rw[A8,AF,He]
def Il{cs:List Aa}{z:Nat}:∀{n off:Nat},off+n*z<=cs.length->∀r∈A8 cs z off n,r.length=z
 |0,off,_,r,hr=>by simp[A8] at hr
 |n+1,off,hl,r,hr=>by
  rw[AI,Fo] at hl;rw[A8,AP] at hr;rcases hr with rfl|hr
  .rw[Bt,BH];omega
  .exact Il (by omega) r hr
def LN{t':TypeId}{size:Nat}{u:Aa}{xv:Value}{Ac:List (List Aa)}(Ek:(∃e',C.P.underlying t'=some (.slice e'))\/C.P.underlying t'=some .string)(hi:Dp U h w)(hu:Au U u xv)(hp:Hp h size u=some Ac):
  ∃news:List Value,Src C.P size t' xv Ac.length news w/\Ai U Ac.flatten news/\(∀r∈Ac,r.length=size):=by
 unfold Hp at hp;split at hp;.cases hp;rw[show xv=_ from hu];exact⟨[],⟨Ek,λ_=>rfl,run_firstCells_none w size 0 0 0,run_firstCells_none w.drew size 0 0 0,by simp,by simp⟩,rfl,by simp⟩
 .rename_i z;split at hp;.cases hp;obtain⟨b,VG⟩:=hu;rw[VG];exact⟨[],⟨Ek,λ_=>rfl,run_firstCells_some w _ _ _ _ _ [] (by simp) (λj x hj=>by simp at hj),run_firstCells_some w.drew _ _ _ _ _ [] (by simp) (λj x hj=>by simp at hj),by simp,by simp⟩,rfl,by simp⟩
  .cases hp
 .rename_i z rows';split at hp
  .rename_i hz;cases hp;subst hz;obtain⟨ad,cap,VG,HC,hsp,hR⟩:=hu;obtain⟨us,p1,p2,p3⟩:=hR.values;have Hz:∀(j:Nat) (x:Value),us[j]?=some x->ad.add j=⟨ad.block,ad.off+j,none⟩:=λj x hj=>by
    have hpos:0<Ac.length:=by
     rcases Fk Ac.length with h0|h0
     .have:us.length=0:=by rw[p2,h0,FQ]
      rw[Bq this] at hj;simp at hj
     .exact h0
    have PE:=GR hsp HC hpos;generalize ad.block=b at*;generalize ad.off=o at*;subst PE;unfold Addr.add;split<;>simp_all
   rw[VG];refine⟨us,⟨Ek,λ_=>rfl,run_firstCells_some w _ _ _ _ _ us p2 (λj x hj=>by rw[Hz j x hj];exact(hi.DI _ _ _ (p3 j x hj)).1),run_firstCells_some w.drew _ _ _ _ _ us p2 (λj x hj=>by rw[Hz j x hj];exact(hi.DI _ _ _ (p3 j x hj)).1),p2,λx hx=>?_⟩,p1,λr hr=>?_⟩;.obtain⟨j,hj⟩:=AU hx;exact(hi.DI _ _ _ (p3 j x hj)).2.1
   .obtain⟨j,hj⟩:=AU hr;exact(hR.get hj).1
  .cases hp
 .rename_i s;split at hp
  .rename_i hz;cases hp;subst hz;rw[show xv=_ from hu];have hlen:(Ed s).length=(⟨⟨s⟩⟩:ByteArray).size:=by simp[Ed,ByteArray.size]
   have hrel:∀l:List UInt8,Ai U (Ed l).flatten (l.map λb=>Value.int .u8 b.toNat):=by
    intro l;induction l with
    |nil=>rfl
    |cons b l ih=>exact⟨_,_,rfl,rfl,ih⟩
   refine⟨byteCells ⟨⟨s⟩⟩,?_,?_,λr hr=>?_⟩;.rw[hlen];exact⟨Ek,λ_=>rfl,firstCells_string _ w,firstCells_string _ w.drew,by rw[byteCells_length,D1],λu hu=>by obtain⟨_,_,rfl⟩:=Ay.1 hu;rfl⟩
   .simpa[byteCells] using hrel s
   .obtain⟨b,_,rfl⟩:=Ay.1 hr;rfl
  .cases hp
 .rename_i id off n z;split at hp
  .rename_i hz;subst hz;split at hp
   .rename_i cs hcs;split at hp
    .rename_i hl;cases hp;obtain⟨b,cap,hb,VG,HC,S2,Fc⟩:=hu;obtain⟨us,e,fr,p1,pf,p2,p3⟩:=hi.cells id cs hcs b hb;have ZE:(us.toList.take cs.length).length=cs.length:=p2.length;have J7:(((us.toList.take cs.length).drop off).take (n*z)).length=n*z:=by rw[Bt,BH,ZE];omega
     have Hz:∀j,(⟨b,off,none⟩:Addr).add j=⟨b,off+j,none⟩:=λj=>by unfold Addr.add;split<;>simp_all
     have EM:∀(j:Nat) (x:Value),(((us.toList.take cs.length).drop off).take (n*z))[j]?=some x->w.cell? ((⟨b,off,none⟩:Addr).add j)=some x:=λj x hj=>by
      rw[Hz,cell_of_row w _ _ us e fr p1];rw[A0] at hj;split at hj
      .rw[Bg,A0] at hj;split at hj;.simpa using hj
       .cases hj
      .cases hj
     rw[VG,He];refine⟨((us.toList.take cs.length).drop off).take (n*z),⟨Ek,λ_=>rfl,run_firstCells_some w _ _ _ _ _ _ J7 EM,run_firstCells_some w.drew _ _ _ _ _ _ J7 (λj x hj=>EM j x hj),J7,λx hx=>p3 x (Bu (AQ hx))⟩,?_,Il hl⟩;rw[Gw];exact(p2.drop off).take (n*z)
    .cases hp
   .cases hp
  .cases hp
 .cases hp
def Hg{o:Oper}{c:Call}{t t' e:TypeId}{n b:Nat}{s x:Operand}{v u r:Aa}{Ac:List (List Aa)}{news:List Value}(ho:o.op= .call c)(hc:c.callee= .builtin .append)(h0:c.argTypes[0]?=some t)(h1:c.argTypes[1]?=some t')(B0:c.args.toList=[s,x])(ht:C.P.underlying t=some (.slice e))
  (Ek:(∃e',C.P.underlying t'=some (.slice e'))\/C.P.underlying t'=some .string) (Fc:Az C.P e=some (n+1)) (TK:Eu C.P e=some (b+1)) (Ct:E5 C Z s=true) (N7:FA C.P e=true) (hv:Ak C Z [s,x]=some [v,u])
  (Fi:BN (n+1) (b+1) v Ac=some r) (EJ:Src C.P (n+1) t' (a.eval x) Ac.length news w) (LO:Ai U Ac.flatten news) (QY:∀q∈Ac,q.length=n+1) (hr:Bk C U0 w0 U O Z h a w):Cx C U0 w0 o a w ((Z.BA (Bp Z s)).put o.dst (.A5 r)) h:=by
 obtain⟨i,z,hi,hz,NA⟩:=Fa N7;have Ii:=El Fc hi;have aY:=Fq TK hi;obtain⟨_,_,e0,hvs,Pj⟩:=B9 hr hv;cases e0;have VE:B2 C Z s=some v:=by
  unfold Ak at hv;split at hv;.rename_i p ps q1 q2;cases hv;exact q1
  .cases hv
 obtain⟨U1,Cd,EH,Ih,hT⟩:=HB hr Ct VE (Z.BA (Bp Z s)).length none;have TL:=Ai.mono Cd _ _ LO;have EI:c.args.map a.eval=#[a.eval s,a.eval x]:=by apply Dh;simp[B0]
 have FY:∀v' w',(Builtin.append_ #[t,t'] o.type #[a.eval s,a.eval x]).run C.P w= .ok v' w'->(execOp a.eval o).run C.P w= .ok (.value v') w':=λv' w' Ad=>by
  have:execOp a.eval o=(do pure (Next.value (<-Builtin.append_ #[t,t'] o.type #[a.eval s,a.eval x]))):=by rw[<-EI,<-G3 (ty:=o.type) h0 h1];simp only[execOp,ho,resolve,hc];rfl
  rw[this];exact Bw Ad
 have Ez:Src C.P i.size t' (a.eval x) Ac.length news w:=by rw[Ii];exact EJ
 have J7:news.length=Ac.length*(n+1):=EJ.newsLen;have Dm:∀(base:Option Addr) (k cap:Nat) (rr:List (List Aa)) (olds:List Value),a.eval s= .slice base k cap->rr.length=k->(∀q∈rr,q.length=n+1)->Ai U1 rr.flatten olds->(∀q∈olds,q.oneCell'=true)->
   (Builtin.firstCells i.size k (.slice base k cap)).run C.P w.drew= .ok olds.toArray w.drew->cap<k+Ac.length->(k+Ac.length)*(b+1)<=AO->r= .sl (n+1) (rr++Ac)->
   Cx C U0 w0 o a w ((Z.BA (Bp Z s)).put o.dst (.A5 r)) h:=by
  intro base k cap rr olds hs hk wG aZ aT hfirst hlt Mo KB;have J3:k+Ac.length<=AO:=AX (DT _ (Bd b)) Mo;have Fz:=run_append_grow_src (P:=C.P) w t t' o.type e i z ht hi hz base k cap olds hfirst (a.eval x) Ac.length news Ez hlt (by simp only[AO] at J3;omega) (by rw[aY];exact growslice_fits hlt Mo);rw[<-hs] at Fz;have Jk:=grownCap_ge w (k+Ac.length) cap e;have r6:olds.length=k*(n+1):=by rw[aZ.length,Df wG,hk]
  have Sf:(olds++news).length=(k+Ac.length)*(n+1):=by rw[An,r6,J7,AI]
  obtain⟨U2,Ou,GK,VF,hT2⟩:=EH.drew.LJ ((olds++news).toArray++Builtin.zeroCells z.cells (grownCap w (k+Ac.length) cap e-(k+Ac.length))) e (z:=n+1) (n:=k+Ac.length) (cap:=grownCap w (k+Ac.length) cap e) (Ac:=rr++Ac) (Bd n) (by simp[hk])
   (λq hq=>(Aj.1 hq).elim (wG q) (QY q))
   (by simp only[Eo,AE,size_zeroCells,NA,Ii,Sf,<-AI];congr 1;omega) Jk (grownCap_le_maxLen w _ _ _ (by simp only[AO] at J3;simp only[maxLen];omega))
   (by simp only[C0,rH];rw[<-Sf,Cq];exact aZ.append TL)
   (λq hq=>by simp only[C0] at hq;rw[<-Sf,Cq,Aj] at hq;exact hq.elim (aT q) (EJ.one q))
  rw[KB];obtain⟨U3,gT⟩:=GK.LI VF hT2 o.dst;exact Cx.value (FY _ _ Fz) gT
 rcases hT with(rfl|⟨zz,rfl⟩)|⟨g,k,cap,us,e1,zz,rr,rfl,Ef,JS,hB,hg,ML,VI,hm,r7⟩
 .have Ef:a.eval s= .slice none 0 0:=Ih;cases Ac with
  |nil=>
   have KB:r= .slnil:=by simpa[BN] using Fi.symm
   have Vv:news=[]:=Bq (by simpa using J7);subst Vv;have Ad:(Builtin.append_ #[t,t'] o.type #[a.eval s,a.eval x]).run C.P w= .ok (.slice none 0 0) w:=by rw[Ef];have hl:=Ez.len;have Lc:=Ez.cells;simp only[A4] at hl Lc;rcases Ek with⟨e',hk⟩|hk<;>simp[Builtin.append_,run_underlying ht,run_underlying hk,sizeOf,typeInfo,hi,hl,Lc]
   rw[KB];exact Cx.value (FY _ _ Ad) (EH.put λ_ _=>⟨rfl,.inl (.inl rfl)⟩)
  |cons q Ac=>
   have HD:r= .sl (n+1) (q::Ac)/\(q::Ac).length*(b+1)<=AO:=by
    simp only[BN] at Fi;split at Fi;.rename_i hb;cases Fi;exact⟨rfl,hb⟩
    .cases Fi
   exact Dm none 0 0 [] [] Ef rfl (by simp) rfl (by simp) (run_firstCells_none _ _ _ _ _) (by simp) (by simpa using HD.2) (by simpa using HD.1)
 .obtain⟨g,Ef⟩:=id Ih;cases Ac with
  |nil=>
   have KB:zz=n+1/\r= .DU zz:=by
    simp only[BN] at Fi;split at Fi;.rename_i Mq;cases Fi;exact⟨Mq,by rw[Mq]⟩
    .cases Fi
   obtain⟨rfl,KB⟩:=KB;have Vv:news=[]:=Bq (by simpa using J7);subst Vv;have Ad:(Builtin.append_ #[t,t'] o.type #[a.eval s,a.eval x]).run C.P w= .ok (.slice (some ⟨g,0,none⟩) 0 0) w:=by rw[Ef];have hl:=Ez.len;have Lc:=Ez.cells;simp only[A4] at hl Lc;rcases Ek with⟨e',hk⟩|hk<;>simp[Builtin.append_,run_underlying ht,run_underlying hk,sizeOf,typeInfo,hi,hl,Lc,storeCells,Result.andThen]
   rw[KB];exact Cx.value (FY _ _ Ad) (EH.put λ_ _=>⟨⟨g,rfl⟩,.inl (.inr ⟨_,rfl⟩)⟩)
  |cons q Ac=>
   have HD:r= .sl (n+1) (q::Ac)/\(q::Ac).length*(b+1)<=AO:=by
    simp only[BN] at Fi;split at Fi;.rename_i hb;cases Fi;exact⟨rfl,hb.2⟩
    .cases Fi
   exact Dm (some ⟨g,0,none⟩) 0 0 [] [] Ef rfl (by simp) rfl (by simp) (run_firstCells_some w.drew _ _ _ _ _ [] (by simp) (λj x hj=>by simp at hj)) (by simp) (by simpa using HD.2) (by simpa using HD.1)
 .obtain⟨qS,cap0,Ow,HC,_,hR⟩:=id Ih;rw[Ef] at Ow;simp only[Value.slice.injEq,AG] at Ow;obtain⟨rfl,hk,rfl⟩:=Ow;subst hk;simp only at hR;have zH:zz=n+1/\r= .sl (n+1) (rr++Ac)/\(Ac=[]\/(rr.length+Ac.length)*(b+1)<=AO):=by
   cases Ac with
   |nil=>
    simp only[BN] at Fi;split at Fi;.rename_i Mq;cases Fi;exact⟨Mq,by simp[Mq],.inl rfl⟩
    .cases Fi
   |cons q Ac=>
    simp only[BN] at Fi;split at Fi;.rename_i Mq;cases Fi;exact⟨Mq.1,rfl,.inr Mq.2⟩
    .cases Fi
  obtain⟨rfl,KB,Mo⟩:=zH;by_cases hroom:rr.length+Ac.length<=cap
  .have hfit:rr.length*(n+1)+news.length<=us.size:=by rw[J7,ML,<-AI];exact CL _ hroom
   have Ad:=run_append_room_src (P:=C.P) w t t' o.type e i ht hi g 0 rr.length cap (a.eval x) Ac.length news Ez hroom (λj hj=>by rw[cell_of_row w _ _ us e1 (0,0) hg,Ii,AY (by omega)];rfl) (λj hj=>frozen_of_row w _ _ us e1 hg)
   rw[AL,Ii,BZ news _ us w hg hfit,<-Ef] at Ad;rw[Ef] at Ih;obtain⟨U2,Ou,GK,VF,hT2⟩:=EH.TJ JS hB hg ML hm (Bd n) Ih QY TL EJ.one hroom;obtain⟨U3,gT⟩:=GK.LI VF hT2 o.dst;rw[KB];exact Cx.value (FY _ _ Ad) gT
  .obtain⟨vs,q1,q2,q3⟩:=hR.values;have Hz:∀j,(⟨g,0,none⟩:Addr).add j=⟨g,0+j,none⟩:=λj=>by unfold Addr.add;split<;>simp_all
   refine Dm (some ⟨g,0,none⟩) rr.length cap rr vs Ef rfl (λq hq=>?_) q1 (λq hq=>?_) ?_ (by omega) ?_ KB;.obtain⟨j,hj⟩:=AU hq;exact(hR.get hj).1
   .obtain⟨j,hj⟩:=AU hq;exact(EH.BI.DI _ _ _ (q3 j q hj)).2.1
   .rw[Ii];exact run_firstCells_some w.drew _ _ _ _ _ vs q2 (λj y hj=>by rw[Hz];exact(EH.BI.DI _ _ _ (q3 j y hj)).1)
   .rcases Mo with rfl|Mo
    .simp at hroom;omega
    .exact Mo
def PO{o:Oper}{c:Call}{t t' e:TypeId}{n b:Nat}{s x:Operand}{v u r:Aa}(ho:o.op= .call c)(hc:c.callee= .builtin .append)(h0:c.argTypes[0]?=some t)(h1:c.argTypes[1]?=some t')(B0:c.args.toList=[s,x])(ht:C.P.underlying t=some (.slice e))
  (Ek:(∃e',C.P.underlying t'=some (.slice e'))\/C.P.underlying t'=some .string) (Fc:Az C.P e=some (n+1)) (TK:Eu C.P e=some (b+1)) (Ct:E5 C Z s=true) (N7:FA C.P e=true) (hv:Ak C Z [s,x]=some [v,u])
  (hp:AA (.append (n+1) (b+1)) [v,u]=some r) (hr:Bk C U0 w0 U O Z h a w):Cx C U0 w0 o a w ((Z.BA (Bp Z s)).put o.dst (.A5 r)) h:=by
 obtain⟨_,_,e0,hvs,Pj⟩:=B9 hr hv;cases e0;simp only[AA] at hp;obtain⟨Ac,news,Fi,EJ,LO,QY⟩:=QX (w:=w) Ek hr.BI Pj hp;exact Hg ho hc h0 h1 B0 ht Ek Fc TK Ct N7 hv Fi EJ LO QY hr
def Ox{o:Oper}{c:Call}{t t' e:TypeId}{n b:Nat}{s x:Operand}{v u r:Aa}(ho:o.op= .call c)(hc:c.callee= .builtin .append)(h0:c.argTypes[0]?=some t)(h1:c.argTypes[1]?=some t')(B0:c.args.toList=[s,x])(ht:C.P.underlying t=some (.slice e))
  (Ek:(∃e',C.P.underlying t'=some (.slice e'))\/C.P.underlying t'=some .string) (Fc:Az C.P e=some (n+1)) (TK:Eu C.P e=some (b+1)) (Ct:E5 C Z s=true) (N7:FA C.P e=true) (hv:Ak C Z [s,x]=some [v,u])
  (hp:MI h (n+1) (b+1) v u=some r) (hr:Bk C U0 w0 U O Z h a w):Cx C U0 w0 o a w ((Z.BA (Bp Z s)).put o.dst (.A5 r)) h:=by
 obtain⟨_,_,e0,hvs,Pj⟩:=B9 hr hv;cases e0;unfold MI at hp;cases hq:Hp h (n+1) u with
 |none=>rw[hq] at hp;cases hp
 |some Ac=>rw[hq] at hp;obtain⟨news,EJ,LO,QY⟩:=LN (w:=w) Ek hr.BI Pj hq;exact Hg ho hc h0 h1 B0 ht Ek Fc TK Ct N7 hv hp EJ LO QY hr
end
section
variable{C:CB}{γ0 γ γ':Gh}{w0 w w':World}{Z:Nat->Nat}{U:Av}{h:Ab}{a:Act}{fid:FuncId}{ops:List Oper}
def Jr:∀s:Ag,(Ed s).flatten=s.map λb=>Aa.int .u8 b.toNat
 |[]=>rfl
 |_::s=>by have:=Jr s;simp only[Ed,Be,BT] at this⊢;rw[this];rfl
def FF(γ:Gh):∀l:Ag,Ai γ (Ed l).flatten (l.map λb=>Value.int .u8 b.toNat)
 |[]=>rfl
 |_::l=>⟨_,_,rfl,rfl,FF γ l⟩
def EZ(s:Ag)(cap:Nat):(bytesRow ⟨⟨s⟩⟩ cap).toList.take s.length=s.map λb=>Value.int .u8 b.toNat:=by
 have:(s.map λb=>Value.int .u8 (b.toNat:Int)).length=s.length:=by simp
 simp only[bytesRow,C0,Gn];rw[<-this];exact Cq
def NB(s:Ag):(⟨⟨s⟩⟩:ByteArray).size=s.length:=by simp[ByteArray.size]
def VJ{o:Oper}{src dst e:TypeId}{x:Operand}{v u:Aa}(ho:o.op= .convert src dst x)(hs:C.P.underlying src=some .string)(hd:C.P.underlying dst=some (.slice e))(he:C.P.underlying e=some (.int .u8))(hx:Ak C U [x]=some [v])(hp:AA .fG [v]=some u)(hr:Bk C γ0 w0 γ Z U h a w):
  Cx C γ0 w0 o a w (U.put o.dst (.val u)) h:=by
 obtain⟨_,e0,hv⟩:=CW hr hx;cases e0;simp only[AA] at hp;split at hp
 .rename_i s EI;cases EI;split at hp
  .cases hp;have Ad:=run_bytes_of_string (P:=C.P) w src dst e ⟨⟨s⟩⟩ hs hd he;rw[<-GX hv] at Ad;have ZG:=grownCap_ge w s.length 0 e;rw[NB] at Ad;obtain⟨hi,ha⟩:=Ht hr.drew.BI (bytesRow ⟨⟨s⟩⟩ (grownCap w s.length 0 e)) e ((bytesRow ⟨⟨s⟩⟩ (grownCap w s.length 0 e)).size,(bytesRow ⟨⟨s⟩⟩ (grownCap w s.length 0 e)).size+1) s.length none (λo u ho hu=>by have hm:u∈(bytesRow ⟨⟨s⟩⟩ (grownCap w s.length 0 e)).toList.take s.length:=AT (i:=o) (by rw[A6 ho];simpa using hu);rw[EZ] at hm;obtain⟨b,_,rfl⟩:=Ay.1 hm;rfl) (.inl rfl)
   have DC:=hr.drew.DX hi ha;refine Cx.value (v:= .slice (some ⟨w.heap.size,0,none⟩) s.length (grownCap w s.length 0 e)) (by simp only[execOp,ho];exact Bw Ad) (DC.put λ_ _=>⟨⟨w.heap.size,0,none⟩,grownCap w s.length 0 e,by simp[Ed],by simpa[Ed] using ZG,.inl rfl,?_⟩);refine G2 (us:=s.map λb=>Value.int .u8 b.toNat) (λr hr=>?_) (FF _ s) (λj u hj=>?_);.obtain⟨b,_,rfl⟩:=Ay.1 hr;rfl
   .rw[<-EZ s (grownCap w s.length 0 e),A0] at hj;split at hj;.rename_i hlt;simp only[Gh.Br,heap_drew,Bc,AL,if_pos hlt];simpa using hj
    .cases hj
  .cases hp
 .cases hp
def NC{o:Oper}{src dst e:TypeId}{x:Operand}{v u:Aa}{h':Ab}(ho:o.op= .convert src dst x)(hs:C.P.underlying src=some .string)(hd:C.P.underlying dst=some (.slice e))(he:C.P.underlying e=some (.int .u8))(hx:B2 C U x=some v)(hp:EN h v=some (h',u))(hr:Bk C γ0 w0 γ Z U h a w):
  Cx C γ0 w0 o a w (U.put o.dst (.val u)) h':=by
 have hv:=CQ hr hx;unfold EN at hp;split at hp
 .rename_i s;split at hp
  .cases hp;have Ad:=run_bytes_of_string (P:=C.P) w src dst e ⟨⟨s⟩⟩ hs hd he;rw[<-GX hv] at Ad;have ZG:=grownCap_ge w s.length 0 e;rw[NB] at Ad;have hl:(s.map λb=>Aa.int .u8 b.toNat).length=s.length:=by simp
   have zI:(bytesRow ⟨⟨s⟩⟩ (grownCap w s.length 0 e)).size=grownCap w s.length 0 e:=by have e0:ByteArray.size ⟨⟨s⟩⟩=s.length:=NB s;simp only[bytesRow,Eo,Array.size_map,Array.size_replicate,e0];simp only[AE];omega
   have Sg:s.length<=maxLen:=by
    have Sg:s.length<=AO:=by assumption
    simp only[AO] at Sg;simp only[maxLen];omega
   obtain⟨γ',Cd,hm,DC,Fc⟩:=hr.drew.newObj (bytesRow ⟨⟨s⟩⟩ (grownCap w s.length 0 e)) e ((bytesRow ⟨⟨s⟩⟩ (grownCap w s.length 0 e)).size,(bytesRow ⟨⟨s⟩⟩ (grownCap w s.length 0 e)).size+1) (s.map λb=>Aa.int .u8 b.toNat) (.inr (Ap _))
    (by rw[hl,EZ];have:=FF γ s;rw[Jr] at this;exact this)
    (λu hu=>by rw[hl,EZ] at hu;obtain⟨b,_,rfl⟩:=Ay.1 hu;rfl)
   exact Cx.value (v:= .slice (some ⟨w.heap.size,0,none⟩) s.length (grownCap w s.length 0 e)) (by simp only[execOp,ho];exact Bw Ad) (DC.put λ_ _=>⟨w.heap.size,_,hm,rfl,ZG,⟨Bd 0,grownCap_le_maxLen w _ _ _ Sg⟩,by rw[AL,D1,<-zI];exact Fc⟩)
  .cases hp
 .cases hp
def DE{O:Type}(l:List O):∀(c j:Nat),j<c*l.length->(List.replicate c l).flatten[j]?=l[j%l.length]?
 |0,j,h=>by simp at h
 |c+1,j,h=>by
  have h':j<c*l.length+l.length:=by rw[AI] at h;omega
  rw[EV,BT];by_cases hj:j<l.length;.rw[As hj,Nat.mod_eq_of_lt hj]
  .rw[BL (by omega),DE l c _ (by omega),show j%l.length=(j-l.length)%l.length from Nat.mod_eq_sub_mod (by omega)]
def TM{o:Oper}{t e:TypeId}{l c:Operand}{n b:Nat}{z:Aa}{vl vc u:Aa}{h':Ab}(ho:o.op= .makeSlice t l c)(ht:C.P.underlying t=some (.slice e))(Fc:Az C.P e=some (n+1))(TK:Eu C.P e=some (b+1))(hz:C1 C.P e=some z)(hl:B2 C U l=some vl)(hc:B2 C U c=some vc)
  (hm:Lk h (n+1) (b+1) z.cells vl vc=some (h',u)) (hr:Bk C γ0 w0 γ Z U h a w):Cx C γ0 w0 o a w (U.put o.dst (.val u)) h':=by
 unfold Lk at hm;split at hm
 .rename_i k m;split at hm
  .rename_i Du;obtain⟨c1,c2,c3,c4⟩:=Du;cases hm;unfold C1 at hz;cases hi:C.P.info? e with
   |none=>rw[hi] at hz;cases hz
   |some i=>
    rw[hi] at hz;cases S3:i.zero with
    |none=>simp[S3] at hz
    |some zv=>
     simp only[Bx,S3] at hz;have Ii:=El Fc hi;have aY:=Fq TK hi;obtain⟨q1,q2⟩:=Dd (γ:=γ) (Cm hz) (by omega);have NA:zv.cells.size=n+1:=by have:=q1.length;simp at this;omega
     have ZH:m.toNat*(b+1)<=AO:=c3;have wH:m.toNat<=AO:=AX (DT m.toNat (Bd b)) ZH;have Ad:=run_make (P:=C.P) w t e i zv ht hi S3 .i64 .i64 k m c1 c2 (by
      rw[aY];have e1:((b+1:Nat):Int)*m=((m.toNat*(b+1):Nat):Int):=by rw[Int.natCast_mul,Hl (by omega),Int.mul_comm]
      rw[e1];simp only[AO] at ZH;omega) (by simp only[AO] at wH;omega)
     rw[<-BP (CQ hr hl),<-BP (CQ hr hc)] at Ad;have hlen:((List.replicate m.toNat z.cells).flatten).length=m.toNat*(n+1):=by rw[Df (z:=n+1) (λr hr=>by rw[Zq hr,c4]),Dk]
     have wI:∀(j:Nat) (u:Value),(madeCells zv.cells (m.toNat*i.size)).toList[j]?=some u->j<m.toNat*(n+1)/\zv.cells.toList[j%(n+1)]?=some u:=by
      intro j u hj;have Pk:j<m.toNat*(n+1):=by have:=(Af.1 hj).1;simpa[size_madeCells,Ii] using this
      refine⟨Pk,?_⟩;have bA:j%(n+1)<zv.cells.size:=by rw[NA];exact Nat.mod_lt _ (Bd n)
      simp only[madeCells,Gn,Cp] at hj;have hrange:(Array.range (m.toNat*i.size)).toList[j]?=some j:=by simp[Ii,Pk]
      rw[hrange] at hj;simp only[A3,AG] at hj;rw[NA] at hj;rw[<-hj];simp[bA]
     have hV:Ai γ (List.replicate m.toNat z.cells).flatten (madeCells zv.cells (m.toNat*i.size)).toList:=by refine Ai.C2 (by simp[hlen,size_madeCells,Ii]) λj x u hx hu=>?_;obtain⟨Pk,r8⟩:=wI j u hu;rw[DE z.cells _ _ (by rw[c4];exact Pk),c4] at hx;obtain⟨u',TB,aU⟩:=q1.get hx;rw[r8] at TB;cases TB;exact aU
     obtain⟨γ',Cd,fL,DC,sB⟩:=hr.newObj (madeCells zv.cells (m.toNat*i.size)) e (0,0) (List.replicate m.toNat z.cells).flatten (.inl rfl) (hV.VH (by rw[hV.length];exact Ap _)) (λu hu=>by obtain⟨j,hj⟩:=AU (AQ hu);exact q2 u (AT (wI j u hj).2))
     exact Cx.value (by simp only[execOp,ho];exact Bw Ad) (DC.put λ_ _=>⟨w.heap.size,m.toNat,fL,rfl,by omega,⟨Bd n,by simp only[AO] at wH;simp only[maxLen];omega⟩,by rw[sB,size_madeCells,Ii,AL]⟩)
  .cases hm
 .cases hm
def Bk.gU(hr:Bk C γ0 w0 γ Z U h a w){g:Nat}(Ct:γ.A5 g=some (.tail U.length none 0))(hB:w0.heap.size<=g){us:Array Value}{e:TypeId}(hg:w.heap[g]?=some (.cells us e (0,0)))(By:Array Value)(cs:List Aa)
  (hv:Ai γ cs (By.toList.take cs.length)) (h1:∀u∈By.toList.take cs.length,u.oneCell'=true):∃γ',γ.le γ'/\γ'.mu h.length=some g/\Bk C γ0 w0 γ' Z U (h++[.cells cs]) a (w.setRow g By)/\γ'.sz g=some By.size:=by
 have gO:γ.mu h.length=none:=by
  cases hc:γ.mu h.length with
  |none=>rfl
  |some y=>exact absurd (hr.BI.mu _ y hc) (DF _)
 have Fc:γ.sz g=none:=by
  cases hc:γ.sz g with
  |none=>rfl
  |some y=>obtain⟨_,r⟩:=hr.BI.sz g y hc;rw[Ct] at r;rcases r with r|⟨_,r⟩<;>cases r
 have Cd:γ.le (γ.AJ g h.length (some By.size)):=⟨λ_ _ _ hv=>hv,λid b hm=>by
  have:id≠h.length:=λhe=>by rw[he,gO] at hm;cases hm
  simp only[Gh.AJ,if_neg this];exact hm,λb n hm=>by
  have:b≠g:=λhe=>by rw[he,Fc] at hm;cases hm
  simp only[Gh.AJ,if_neg this];exact hm⟩
 have aV:∀b n,(γ.AJ g h.length (some By.size)).sz b=some n->(∃us e fr,(w.setRow g By).heap[b]?=some (.cells us e fr)/\us.size=n)/\((γ.AJ g h.length (some By.size)).A5 b=none\/∃id,(γ.AJ g h.length (some By.size)).A5 b=some (.FV id)):=λb n hb=>by
  by_cases he:b=g;.subst he;simp only[Gh.AJ,Bc] at hb;cases hb;exact⟨⟨By,e,(0,0),setRow_heap w b us By e (0,0) hg,rfl⟩,.inr ⟨h.length,by simp[Gh.AJ]⟩⟩
  .simp only[Gh.AJ,if_neg he] at hb⊢;obtain⟨p,r⟩:=hr.BI.sz b n hb;exact⟨by rw[setRow_other w g b By he];exact p,r⟩
 have hne:∀b id,γ.A5 b=some (.FV id)->b≠g:=λb id hb he=>by rw[he,Ct] at hb;cases hb
 have hk:H5 g γ w (γ.AJ g h.length (some By.size)) (w.setRow g By):=⟨Cd,λb x hb hx _=>⟨by simp only[Gh.AJ,if_neg hb];exact hx,setRow_other w g b By hb⟩⟩;refine⟨_,Cd,by simp[Gh.AJ],⟨⟨λb o v hb=>?_,λid y Gi hy=>?_,λid Dz hc b hb=>?_,λid es hc b hb=>?_,λid b hb=>?_,λb y hy=>?_,aV⟩,⟨hr.fr.size,λs=>?_⟩,hr.BE.write (g:=g) hB Cd (by simp) rfl rfl rfl (λb hb=>⟨setRow_other w g b By hb,by simp only[Gh.AJ,if_neg hb]⟩),hr.defers,λx Dz hx=>Bb.mono Cd _ _ _ (hr.C8 x Dz hx)⟩,by simp[Gh.AJ]⟩
 .obtain⟨p,q,r⟩:=hr.BI.DI b o v hb;have GU:b≠g:=λhe=>by
   subst he;rw[Ct] at r;rcases r with r|⟨_,_,_,r,hl⟩
   .cases r
   .cases r;omega
  exact⟨by rw[AV (setRow_other w g b By GU)];exact p,q,by simp only[Gh.AJ,if_neg GU];exact r⟩
 .by_cases he:id=h.length;.exact⟨g,by simp[Gh.AJ,he],by simp[Gh.AJ,he]⟩
  .have Lx:id<h.length:=by rw[Af] at Gi;obtain⟨hl,_⟩:=Gi;simp at hl;omega
   rw[As Lx] at Gi;obtain⟨b,p,q⟩:=hr.BI.FV id y Gi hy;exact⟨b,by simp only[Gh.AJ,if_neg he];exact p,by simp only[Gh.AJ,if_neg (hne b id q)];exact q⟩
 .by_cases he:id=h.length;.subst he;simp[Gh.AJ] at hb;subst hb;simp at hc;subst hc;exact⟨By,e,(0,0),setRow_heap w g us By e (0,0) hg,.inl rfl,Ai.mono Cd _ _ hv,h1⟩
  .simp only[Gh.AJ,if_neg he] at hb;have Lx:=hr.BI.mu id b hb;rw[As Lx] at hc;obtain⟨b',p1,p2⟩:=hr.BI.FV id _ hc (by simp);rw[hb] at p1;cases p1;obtain⟨Pv,e2,Tv,p,pf,q,r⟩:=hr.BI.cells id Dz hc b hb;exact⟨Pv,e2,Tv,by rw[setRow_other w g b By (hne b id p2)];exact p,pf,Ai.mono Cd _ _ q,r⟩
 .by_cases he:id=h.length;.subst he;simp at hc
  .simp only[Gh.AJ,if_neg he] at hb;have Lx:=hr.BI.mu id b hb;rw[As Lx] at hc;obtain⟨b',p1,p2⟩:=hr.BI.FV id _ hc (by simp);rw[hb] at p1;cases p1;obtain⟨C3,clock,p,q⟩:=hr.BI.map id es hc b hb;exact⟨C3,clock,by rw[setRow_other w g b By (hne b id p2)];exact p,q.mono Cd⟩
 .by_cases he:id=h.length;.simp[he]
  .simp only[Gh.AJ,if_neg he] at hb;have:=hr.BI.mu id b hb;simp;omega
 .by_cases GU:b=g;.subst GU;have:=hr.BI.A5 _ _ Ct;simpa using this
  .simp only[Gh.AJ,if_neg GU] at hy;have:=hr.BI.A5 b y hy;simpa using this
 .by_cases hs:s=U.length;.subst hs;rw[Av.J6];trivial
  .exact(hr.fr.DG s).keptBut Ct hk (by simp only[EL.Ps];intro hx;cases hx;exact hs rfl)
def Bk.Mn(hr:Bk C γ0 w0 γ Z U h a w){v v':Aa}{u:Value}{h':Ab}(hv:Au γ v u)(hf:IB h v=some (h',v')):∃γ',γ.le γ'/\Bk C γ0 w0 γ' Z U h' a w/\Au γ' v' u:=by
 unfold IB at hf;split at hf
 .rename_i id off n z;obtain⟨b,cap,hb,hu,hc,hz,Fc⟩:=hv;split at hf
  .rename_i cs hcs;split at hf
   .rename_i hl;cases hf;obtain⟨us,e,fr,p1,pf,p2,p3⟩:=hr.BI.cells id cs hcs b hb;obtain⟨hi,ha⟩:=Tw hr.BI hcs hb p1 p3;have QY:∀(k o:Nat),(A8 cs z o k).length=k:=by
     intro k;induction k with
     |zero=>intro o;rfl
     |succ k ih=>intro o;simp[A8,ih]
    have zJ:∀(k o i:Nat) (r:List Aa),(A8 cs z o k)[i]?=some r->i<k/\r=(cs.drop (o+i*z)).take z:=by
     intro k;induction k with
     |zero=>intro o i r h;simp[A8] at h
     |succ k ih=>
      intro o i r h;cases i with
      |zero=>simp[A8] at h;exact⟨Bd _,by simpa using h.symm⟩
      |succ i=>simp[A8] at h;obtain⟨q1,q2⟩:=ih _ _ _ h;exact⟨by omega,by rw[q2];congr 2;rw[AI];omega⟩
    refine⟨_,ha.le,hr.DX hi ha,⟨b,off,none⟩,cap,by rw[QY];exact hu,by rw[QY];exact hc,.inl rfl,B3.C2 λi r zK=>?_⟩;obtain⟨q1,rfl⟩:=zJ n off i r zK;have jd:i*z+z<=n*z:=by have:=CL z (show i+1<=n by omega);rwa [AI,Fo] at this
    refine⟨by simp;omega,Bb.C2 λj x hj=>?_⟩;rw[A0] at hj;split at hj;.rename_i je;rw[Bg] at hj;obtain⟨y,hy,zL⟩:=p2.get hj;have hlt:off+i*z+j<cs.length:=(Af.1 hj).1;refine⟨y,?_,Au.mono ha.le _ _ zL⟩;simp only[Gh.Br,Bc,if_pos hlt];rw[A6 hlt] at hy;simpa using hy
    .cases hj
   .cases hf
  .cases hf
 .cases hf;exact⟨γ,.refl _,hr,hv⟩
def Js:∀{Ac:List (List Aa)} {s:Ag},H2 Ac=some s->∃ns:List Int,Ac=ns.map (λn=>[.int .u8 n])/\s=ns.map λn=>UInt8.ofNat n.toNat
 |[],s,hs=>by cases hs;exact⟨[],rfl,rfl⟩
 |r::Ac,s,hs=>by
  unfold H2 at hs;split at hs;.rename_i EI;cases EI
  .rename_i n rs EI;cases EI;cases hq:H2 Ac with
   |none=>rw[hq] at hs;cases hs
   |some l=>rw[hq] at hs;cases hs;obtain⟨ns,rfl,rfl⟩:=Js hq;exact⟨n::ns,rfl,rfl⟩
  .cases hs
def LP:∀(ns:List Int) (r:ByteArray),ns.foldl (λr n=>r.push (UInt8.ofNat n.toNat)) r=⟨r.data++(ns.map λn=>UInt8.ofNat n.toNat).toArray⟩
 |[],r=>by simp
 |n::ns,r=>by rw[SX,LP ns];simp[ByteArray.push]
def VK{o:Oper}{src dst e:TypeId}{x:Operand}{v v' u:Aa}{h':Ab}(ho:o.op= .convert src dst x)(hs:C.P.underlying src=some (.slice e))(hd:C.P.underlying dst=some .string)(he:C.P.underlying e=some (.int .u8))(hx:B2 C U x=some v)(hf:IB h v=some (h',v'))(hp:AA .Oa [v']=some u)
  (hr:Bk C γ0 w0 γ Z U h a w):Cx C γ0 w0 o a w (U.put o.dst (.val u)) h':=by
 obtain⟨γ',Cd,DC,Ih⟩:=hr.Mn (CQ hr hx) hf;have FY:∀s,(Conv.bytesToString (a.eval x)).run C.P w= .ok s w->(∃p l c,a.eval x= .slice p l c)->(execOp a.eval o).run C.P w= .ok (.value s) w:=λs Ad ⟨p,l,c,Sg⟩=>by simp only[execOp,ho];refine Bw ?_;rw[Sg] at Ad⊢;rw[run_convert_bytes_string w src dst e p l c hs he hd];exact Ad
 simp only[AA] at hp;unfold S9 at hp;split at hp
 .rename_i Ac;cases hq:H2 Ac with
  |none=>rw[hq] at hp;cases hp
  |some s=>
   rw[hq] at hp;cases hp;obtain⟨ns,rfl,rfl⟩:=Js hq;obtain⟨ad,cap,Sg,hc,hsp,hR⟩:=Ih;have Hz:∀(j:Nat) (v:Value),(ns.map (Value.int .u8))[j]?=some v->ad.add j=⟨ad.block,ad.off+j,none⟩:=λj v hj=>by
    have hpos:0<ns.length:=by have:=(Af.1 hj).1;simp at this;omega
    have PE:=GR hsp hc (by simpa using hpos);generalize ad.block=b at*;generalize ad.off=o at*;subst PE;unfold Addr.add;split<;>simp_all
   have hl:=run_loadCells_list (P:=C.P) w ad (ns.map (Value.int .u8)) (λj v hj=>by
    rw[Hz j v hj];simp only[Cp] at hj;cases hn:ns[j]? with
    |none=>rw[hn] at hj;cases hj
    |some n=>rw[hn] at hj;cases hj;obtain⟨_,hM⟩:=hR.get (i:=j) (r:=[.int .u8 n]) (by simp[hn]);obtain⟨y,hy,zM⟩:=hM.get (i:=0) (a:= .int .u8 n) rfl;rw[show y=_ from zM] at hy;have:=(DC.BI.DI _ _ _ hy).1;simpa using this)
   simp only[Ds] at hl;have Ad:=run_bytesToString (P:=C.P) w ad ns.length cap ns hl;have zN:ByteArray.empty.data=#[]:=rfl;rw[LP,zN,Array.empty_append] at Ad;have e1:a.eval x= .slice (some ad) ns.length cap:=by rw[Sg];simp
   rw[<-e1] at Ad;exact Cx.value (FY _ Ad ⟨_,_,_,e1⟩) (DC.put λ_ _=>rfl)
 .cases hp;have e1:a.eval x= .slice none 0 0:=Ih;have Ad:(Conv.bytesToString (a.eval x)).run C.P w= .ok (.string ⟨⟨[]⟩⟩) w:=by rw[e1];simp[Conv.bytesToString];rfl
  exact Cx.value (FY _ Ad ⟨_,_,_,e1⟩) (DC.put λ_ _=>rfl)
 .cases hp
def TN(C:CB)(f:FuncId):Prop:=
 (∃fn c,C.P.funcs[f]?=some fn/\(fn.name== "runtime.NumGoroutine")=false/\fn.body=some c)/\
 ∀(γ:Gh) (h:Ab) (w:World) (s:Aa) (sv:Value) (i x:Int) (h':Ab) (r:Aa) (g vcap:Nat) (us:Array Value) (e:TypeId),Dp γ h w->Au γ s sv->Jd h [s,.int .i64 i,.sl 1 [[.int .i64 x]]]=some (h',r)->
  w.heap[g]?=some (.cells us e (0,0))->us[0]?=some (.int .i64 x)->(∀id,γ.A5 g≠some (.FV id))->1<=vcap->us.size=vcap->
  Calls C.P f #[sv,.int .i64 i,.slice (some ⟨g,0,none⟩) 1 vcap] w λe w'=>match e with
   | .returned v=>∃γ',Dp γ' h' w'/\FC γ w γ' w'/\Au γ' r v
   |_=>False
def Ca(C:CB)(run:IT->Ab->Option Ep):Prop:=
 ((∀g cs,C.C8 g=some cs->cs.all Aa.FW=true)/\∀f,C.aJ f=true->TN C f)/\
 ∀(f:FuncId) (args:List Aa) (h:Ab) (r:Aa) (h':Ab),run (AH C f args) h=some (.ret,[r],h')->
  (∃fn c,C.P.funcs[B4 f]?=some fn/\(fn.name== "runtime.NumGoroutine")=false/\fn.body=some c)/\
  ∀(γ:Gh) (w:World) (cargs:Array Value),Dp γ h w->(∀g cs,C.C8 g=some cs->Bb γ cs g 0)->Ai γ args cargs.toList->
   Calls C.P (B4 f) cargs w λe w'=>match e with
    | .returned v=>∃γ',Dp γ' h' w'/\FC γ w γ' w'/\Au γ' r v/\(C.Et f=true->∃s c,D2 γ' w.heap.size w' s c v r)
    |_=>False
def Bk.bB(hr:Bk C γ0 w0 γ Z U h a w){h':Ab}{r:Aa}{v:Value}(hi:Dp γ' h' w')(ha:FC γ w γ' w')(hv:Au γ' r v){A5:Bool}(ho:A5=true->∃s c,D2 γ' w.heap.size w' s c v r)(d:Option Nat):
  ∃γ2,Bk C γ0 w0 γ2 Z (U.put d (if A5 then .A5 r else .val r)) h' (a.put d v) w':=by
 cases A5 with
 |false=>exact⟨γ',(hr.DX hi ha).put λ_ _=>hv⟩
 |true=>
  obtain⟨s,c,hT⟩:=ho rfl;rcases hT with hT|⟨g,n,cap,us,e,z,Ac,rfl,h2,h3,h4,h5⟩
  .exact⟨γ',(hr.DX hi ha).put λ_ _=>⟨hv,.inl hT⟩⟩
  .have aS:FC γ w (γ'.Cv g (.tail U.length none (n*z))) w':=⟨ha.le.trans (Dc _ _ _),ha.size,ha.os,ha.tape,ha.output,λb hb hn=>by obtain⟨p,q⟩:=ha.GS b hb hn;exact⟨p,by simp only[Gh.Cv,if_neg (show b≠g by omega)];exact q⟩⟩
   have DC:=hr.DX (hi.Cv (s':=U.length) (c':=none) h3) aS;exact DC.LI (Au.mono (Dc _ _ _) _ _ hv) (.inr ⟨g,n,cap,us,e,z,Ac,rfl,h2,by simp[Gh.Cv],AX hr.BE.size h4,h5⟩) d
def DH{P:Program}{f:FuncId}{fn:Func}{c:Code}(hf:P.funcs[f]?=some fn)(hname:(fn.name== "runtime.NumGoroutine")=false)(hb:fn.body=some c)(args:Array Value)(w:World):
  (callFunc f args).run P w= .ok (.enter f args) w:=by
 have hn:¬fn.name= "runtime.NumGoroutine":=by simpa using hname
 simp[callFunc,hf,hn,hb]
def Jt{o:Oper}{f:FuncId}{cargs:Array Value}{K:Act->World->Prop}{Q:Exit->Act->World->Prop}(he:(execOp a.eval o).run C.P w= .ok (.enter f cargs) w){R:Value->World->Prop}
  (hc:Calls C.P f cargs w λe w'=>match e with| .returned v=>R v w'|_=>False) (hk:∀v w',R v w'->K (a.put o.dst v) w'):o.wp C.P a w K Q:=by
 unfold Oper.wp;rw[he];refine hc.mono λe w' h=>?_;cases e with
 |returned v=>exact hk v w' h
 |_=>exact h.elim
def TO{run:IT->Ab->Option Ep}(hS:Ca C run){o:Oper}{c:Call}{f:FuncId}{args:List Aa}{r:Aa}{h':Ab}{K:Act->World->Prop}{Q:Exit->Act->World->Prop}(ho:o.op= .call c)(hcl:c.callee= .value (.func (B4 f)))(ha:Ak C U c.args.toList=some args)
  (Ad:run (AH C f args) h=some (.ret,[r],h')) (hr:Bk C γ0 w0 γ Z U h a w) (hK:∀γ' v w',Bk C γ0 w0 γ' Z (U.put o.dst (if C.Et f then .A5 r else .val r)) h' (a.put o.dst v) w'->K (a.put o.dst v) w'):o.wp C.P a w K Q:=by
 obtain⟨⟨fn,cd,hf,hname,hb⟩,hcalls⟩:=hS.2 f args h r h' Ad;have hcargs:Ai γ args (c.args.map a.eval).toList:=by simpa using BF hr ha
 refine Jt (f:=B4 f) (cargs:=c.args.map a.eval) ?_ (hcalls γ w _ hr.BI hr.C8 hcargs) λv w' ⟨γ',hi,EA,hv,Ct⟩=>?_;.have h0:a.eval (.func (B4 f))= .func (.func (B4 f)) #[] #[]:=rfl;simp only[execOp,ho,resolve,hcl,Deferred.ofValue,h0,Sem.run_bind,Sem.run_pure,Result.andThen_ok,invoke];simpa using DH hf hname hb (c.args.map a.eval) w
 .obtain⟨γ2,GK⟩:=hr.bB hi EA hv Ct o.dst;exact hK γ2 v w' GK
def VL{run:IT->Ab->Option Ep}(hS:Ca C run){o:Oper}{c:Call}{f:FuncId}{s i x:Operand}{args:List Aa}{r:Aa}{h':Ab}{K:Act->World->Prop}{Q:Exit->Act->World->Prop}(ho:o.op= .call c)(hcl:c.callee= .value (.func f))(hf:C.aJ f=true)(B0:c.args.toList=[s,i,x])(Ct:E5 C U x=true)
  (ha:Ak C U [s,i,x]=some args) (hp:Jd h args=some (h',r)) (hr:Bk C γ0 w0 γ Z U h a w) (hK:∀γ' v w',Bk C γ0 w0 γ' Z (U.put o.dst (.val r)) h' (a.put o.dst v) w'->K (a.put o.dst v) w'):o.wp C.P a w K Q:=by
 obtain⟨⟨fn,cd,VM,hname,hb⟩,sC⟩:=hS.1.2 f hf;have PQ:=BF hr ha;obtain⟨u1,fM,f1,g1,f2⟩:∃u1 fM,[a.eval s,a.eval i,a.eval x]=u1::fM/\Au γ (args.getD 0 .nilIface) u1/\True:=by
  cases args with
  |nil=>cases PQ
  |cons y l=>obtain⟨u,us,e,p,q⟩:=PQ;exact⟨u,us,e,p,trivial⟩
 obtain⟨s',i',x',he,k,xx,zO⟩:∃s' i' x',args=[s',.int .i64 i',.sl 1 [[.int .i64 x']]]/\∃(k:Au γ s' (a.eval s)) (xx:a.eval i= .int .i64 i'),Au γ (.sl 1 [[.int .i64 x']]) (a.eval x):=by
  unfold Jd at hp;split at hp;.obtain⟨_,_,_,e,p1,p2,p3⟩:=PQ.QU;simp only[Be,FN,Cs,FT] at e;obtain⟨rfl,rfl,rfl⟩:=e;exact⟨_,_,_,rfl,p1,p2,p3⟩
  .obtain⟨_,_,_,e,p1,p2,p3⟩:=PQ.QU;simp only[Be,FN,Cs,FT] at e;obtain⟨rfl,rfl,rfl⟩:=e;exact⟨_,_,_,rfl,p1,p2,p3⟩
  .cases hp
 subst he;have Pj:B2 C U x=some (.sl 1 [[.int .i64 x']]):=by simp only[Ak] at ha;cases h1:B2 C U s<;>cases h2:B2 C U i<;>cases h3:B2 C U x<;>simp_all
 obtain⟨sl,Sg⟩:∃sl,BK C U x=some sl:=by
  unfold E5 at Ct;cases hs:BK C U x with
  |none=>rw[hs] at Ct;cases Ct
  |some sl=>exact⟨sl,rfl⟩
 have sD:∃v,sl= .A5 v:=by unfold E5 at Ct;rw[Sg] at Ct;cases sl<;>first|exact⟨_,rfl⟩|cases Ct
 obtain⟨v,rfl⟩:=sD;obtain⟨s0,hrel,_⟩:=CJ hr Sg;have sE:v= .sl 1 [[.int .i64 x']]:=by simp only[B2,Sg,Bx,BQ.Da,AG] at Pj;exact Pj
 subst sE;obtain⟨TG,hT⟩:=hrel;rcases hT with(hT|⟨_,hT⟩)|⟨g,n,cap,us,e,z,Ac,h1,h2,h3,h4,h5,h6,h7,h8,h9⟩
 .cases hT
 .cases hT
 .cases h1;obtain⟨ad,cap2,e1,e2,e3,e4⟩:=zO;rw[h2] at e1;cases e1;obtain⟨_,hm,_⟩:=e4;obtain⟨⟨u,hu,zP⟩,_⟩:=hm;obtain⟨EM,_,_⟩:=hr.BI.DI _ _ _ hu;have ML:us[0]?=some (.int .i64 x'):=by rw[cell_of_row w _ _ us e (0,0) h5] at EM;rw[EM];exact Bm some zP
  have hcargs:c.args.map a.eval=#[a.eval s,.int .i64 i',.slice (some ⟨g,0,none⟩) 1 cap]:=by apply Dh;simp only[Gn,B0,Be,FN,xx,h2];rfl
  have Lc:=sC γ h w s' _ i' x' h' r g cap us e hr.BI k hp h5 ML (λid Gi=>by rw[h3] at Gi;cases Gi) h7 (by rw[h6,D1]);rw[<-hcargs] at Lc;refine Jt (f:=f) (cargs:=c.args.map a.eval) ?_ Lc λv w' ⟨γ',hi,EA,hv⟩=>?_;.have h0:a.eval (.func f)= .func (.func f) #[] #[]:=rfl;simp only[execOp,ho,resolve,hcl,Deferred.ofValue,h0,Sem.run_bind,Sem.run_pure,Result.andThen_ok,invoke];simpa using DH VM hname hb (c.args.map a.eval) w
  .obtain⟨γ2,GK⟩:=hr.bB (A5:=false) hi EA hv (λe=>by cases e) o.dst;exact hK γ2 v w' (by simpa using GK)
def Gh.apart(γ:Gh):Gh:={DI:=γ.DI,mu:=λ_=>none,A5:=λb=>match γ.A5 b with|some (.FV _)=>none|x=>x,sz:=γ.sz}
def Dp.apart(hi:Dp γ h w):Dp γ.apart [] w:=by
 refine⟨λb o v hb=>?_,λid x hx=>by simp at hx,λid cs hx=>by simp at hx,λid es hx=>by simp at hx,λid b hb=>(by cases hb),λb x hx=>?_,λb n hb=>?_⟩;rotate_left 2;.obtain⟨p,r⟩:=hi.sz b n hb;refine⟨p,.inl ?_⟩;simp only[Gh.apart];rcases r with r|⟨_,r⟩<;>rw[r]
 .obtain⟨p,q,r⟩:=hi.DI b o v hb;refine⟨p,q,?_⟩;simp only[Gh.apart];rcases r with r|⟨s,c,st,r,hl⟩
  .exact .inl (by rw[r])
  .exact .inr ⟨s,c,st,by rw[r],hl⟩
 .simp only[Gh.apart] at hx;split at hx;.cases hx
  .exact hi.A5 b x hx
def Bk.VN(hr:Bk C γ0 w0 γ Z U h a w){γ1:Gh}{h1:Ab}(hi:Dp γ1 h1 w')(ha:FC γ.apart w γ1 w'):∃γ2,Bk C γ0 w0 γ2 Z U h a w':=by
 have ZI:∀b id,γ.apart.A5 b≠some (.FV id):=λb id e=>by
  simp only[Gh.apart] at e;split at e;.cases e
  .rename_i hn;exact hn id e
 have Gt:∀b,b<w.heap.size->w'.heap[b]?=w.heap[b]?:=λb hb=>(ha.GS b hb (ZI b)).1;refine⟨γ,hr.DX ⟨λb o v hb=>?_,hr.BI.FV,λid cs hc b hb=>?_,λid es hc b hb=>?_,hr.BI.mu,λb x hx=>HX (hr.BI.A5 b x hx) ha.size,λb n hb=>(by
   obtain⟨⟨us,e,fr,p,q⟩,r⟩:=hr.BI.sz b n hb;exact⟨⟨us,e,fr,by rw[Gt b (Ae.1 p).1];exact p,q⟩,r⟩)⟩
  ⟨.refl _,ha.size,ha.os,ha.tape,ha.output,λb hb _=>⟨Gt b hb,rfl⟩⟩⟩
 .obtain⟨p,q,r⟩:=hr.BI.DI b o v hb;exact⟨by rw[AV (Gt b (BB p))];exact p,q,r⟩
 .obtain⟨us,e,fr,p,q⟩:=hr.BI.cells id cs hc b hb;exact⟨us,e,fr,by rw[Gt b (Ae.1 p).1];exact p,q⟩
 .obtain⟨C3,clock,p,q⟩:=hr.BI.map id es hc b hb;exact⟨C3,clock,by rw[Gt b (Ae.1 p).1];exact p,q⟩
def LQ{γ γ':Gh}{x:Aa}{v:Value}(hf:x.FW=true)(hv:Au γ x v):Au γ' x v:=by cases x<;>first|exact hv|cases hf
def MW{γ γ':Gh}:∀{l:List Aa} {us:List Value},l.all Aa.FW=true->Ai γ l us->Ai γ' l us
 |[],us,_,h=>h
 |x::l,us,hf,h=>by obtain⟨u,By,e,h1,h2⟩:=h;simp only[Nh,Ao] at hf;exact⟨u,By,e,LQ hf.1 h1,MW hf.2 h2⟩
def Bb.apart{γ:Gh}:∀{l:List Aa} {b o:Nat},Bb γ l b o->l.all Aa.FW=true->Bb γ.apart l b o
 |[],_,_,_,_=>trivial
 |x::l,b,o,h,hf=>by obtain⟨⟨u,h1,h2⟩,h3⟩:=h;simp only[Nh,Ao] at hf;exact⟨⟨u,h1,LQ hf.1 h2⟩,h3.apart hf.2⟩
def Si{run:IT->Ab->Option Ep}(hS:Ca C run){o:Oper}{c:Call}{f:FuncId}{args:List Aa}{r:Aa}{h1:Ab}{K:Act->World->Prop}{Q:Exit->Act->World->Prop}(ho:o.op= .call c)(hcl:c.callee= .value (.func (B4 f)))(ha:Ak C U c.args.toList=some args)
  (hfa:args.all Aa.FW=true) (Ad:run (AH C f args) []=some (.ret,[r],h1)) (QT:r.FW=true) (hr:Bk C γ0 w0 γ Z U h a w) (hK:∀γ' v w',Bk C γ0 w0 γ' Z (U.put o.dst (.val r)) h (a.put o.dst v) w'->K (a.put o.dst v) w'):o.wp C.P a w K Q:=by
 obtain⟨⟨fn,cd,hf,hname,hb⟩,hcalls⟩:=hS.2 f args [] r h1 Ad;have hcargs:Ai γ.apart args (c.args.map a.eval).toList:=MW hfa (by simpa using BF hr ha);refine Jt (f:=B4 f) (cargs:=c.args.map a.eval) ?_ (hcalls γ.apart w _ hr.BI.apart (λg cs hg=>(hr.C8 g cs hg).apart (hS.1.1 g cs hg)) hcargs) λv w' ⟨γ',hi,EA,hv,_⟩=>?_;.have h0:a.eval (.func (B4 f))= .func (.func (B4 f)) #[] #[]:=rfl;simp only[execOp,ho,resolve,hcl,Deferred.ofValue,h0,Sem.run_bind,Sem.run_pure,Result.andThen_ok,invoke];simpa using DH hf hname hb (c.args.map a.eval) w
 .obtain⟨γ2,GK⟩:=hr.VN hi EA;exact hK γ2 v w' (GK.put λ_ _=>LQ QT hv)
def Sj{run:IT->Ab->Option Ep}(hS:Ca C run){o:Oper}{c:Call}{g:Operand}{gv:Aa}{f:FuncId}{args args':List Aa}{r:Aa}{h':Ab}{K:Act->World->Prop}{Q:Exit->Act->World->Prop}(ho:o.op= .call c)(hcl:c.callee= .value g)(hg:B2 C U g=some gv)
  (ha:Ak C U c.args.toList=some args) (ht:E4 gv args=some (f,args')) (Ad:run (AH C f args') h=some (.ret,[r],h')) (hr:Bk C γ0 w0 γ Z U h a w) (hK:∀γ' v w',Bk C γ0 w0 γ' Z (U.put o.dst (.val r)) h' (a.put o.dst v) w'->K (a.put o.dst v) w'):o.wp C.P a w K Q:=by
 obtain⟨⟨fn,cd,hf,hname,hb⟩,hcalls⟩:=hS.2 f args' h r h' Ad;have zQ:=CQ hr hg;unfold E4 at ht;split at ht
 .rename_i f0 first captured
  split at ht;rotate_left;.cases ht
  rename_i qT;cases ht;rw[show B4 f=f from if_pos qT] at hf hcalls;obtain⟨fs,cs,Jk,h1,h2⟩:=zQ;have hcargs:Ai γ (first++args++captured) (fs++c.args.map a.eval++cs).toList:=by simpa using(h1.append (BF hr ha)).append h2
  refine Jt (f:=f) (cargs:=fs++c.args.map a.eval++cs) ?_ (hcalls γ w _ hr.BI hr.C8 hcargs) λv w' ⟨γ',hi,EA,hv,Ct⟩=>?_;.simp only[execOp,ho,resolve,hcl,Deferred.ofValue,Jk,Sem.run_bind,Sem.run_pure,Result.andThen_ok,invoke];exact DH hf hname hb _ w
  .obtain⟨γ2,GK⟩:=hr.bB (A5:=false) hi EA hv (λe=>by cases e) o.dst;exact hK γ2 v w' (by simpa using GK)
 .cases ht
end
end Go.Am
end
