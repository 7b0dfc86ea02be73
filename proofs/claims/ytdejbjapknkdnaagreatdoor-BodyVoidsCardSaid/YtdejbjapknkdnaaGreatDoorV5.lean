/- Lemmas -/
import Derived.Test.YtdejbjapknkdnaaGreatDoorV4
import Derived.Deep.AppendSrc
import Derived.Great.BuildSlice
import Derived.Laws.IdiomStrings
set_option linter.all false
section
namespace Go.Am
open Go
section
variable{C:FT}{U0 U U':Gh}{w0 w w':World}{O:Nat->Nat}{Z:BL}{h:Ae}{a:Act}{fid:FuncId}{ops:List Oper}
def Dy{P:Program}{s:Sem Value}{v:Value}(hs:s.run P w= .ok v w'):(do pure (Next.value (<-s)):Sem Next).run P w= .ok (.value v) w':=by simp[hs]
def Vi{J:Type}{z:Nat}:∀{As:List (List J)},(∀r∈As,r.length=z)->∀{i:Nat} {r:List J},As[i]?=some r->∀{j:Nat} {x:J},r[j]?=some x->As.flatten[i*z+j]?=some x
 |[],_,i,r,hi,_,_,_=>by simp at hi
 |q::As,hl,0,r,hi,j,x,hj=>by simp at hi;subst hi;have:j<q.length:=(Af.1 hj).1;simp only[M6,By,CF];rw[Ah this];exact hj
 |q::As,hl,i+1,r,hi,j,x,hj=>by
  simp at hi;have hq:q.length=z:=hl q (by simp);rw[CF,Bi (by rw[hq,BD];omega)];have:=Vi (As:=As) (λr hr=>hl r (by simp[hr])) hi hj;rw[<-this];congr 1
  rw[hq,BD];omega
def HB{J:Type}{z:Nat}:∀{As:List (List J)},(∀r∈As,r.length=z)->As.flatten.length=As.length*z
 |[],_=>by simp
 |q::As,hl=>by have hq:q.length=z:=hl q (by simp);simp[hq,HB (As:=As) (λr hr=>hl r (by simp[hr])),BD,PL]
def OO{As:List (List Aa)}{us:List Value}{z b o:Nat}(hl:∀r∈As,r.length=z)(c:A3 U As.flatten us)(hi:∀(j:Nat) (u:Value),us[j]?=some u->U.Iw b (o+j)=some u):ES U As z b o:=by refine ES.GZ λi r hr=>⟨hl r (Cx hr),CU.GZ λj x hj=>?_⟩;obtain⟨u,hu,hx⟩:=c.get (Vi hl hr hj);exact⟨u,by rw[SC];exact hi _ _ hu,hx⟩
def C4.drew(hr:C4 C U0 w0 U O Z h a w):C4 C U0 w0 U O Z h a w.drew:=hr.I8 (hr.DV.same rfl) (ME.drew U w)
def BL.Uq(Z:BL):Z.at Z.length= .undef:=by simp[BL.at,List.getD]
def C4.Xt(hr:C4 C U0 w0 U O Z h a w){x:Aa}{v:Value}(b:BJ U x v)(ho:Jm U w0.heap.size w Z.length none v x)(d:Option Nat):∃U',C4 C U0 w0 U' O (Z.put d (.BN x)) h (a.put d v) w:=by
 cases d with
 |none=>exact⟨U,hr⟩
 |some d=>
  rcases ho with ho|⟨g,n,cap,us,e,z,As,h1,h2,h3,c,f⟩
  .exact⟨U,hr.put λs _=>⟨b,.inl ho⟩⟩
  .have J8:=hr.FC (s':=d) (c':=none) h3 c (λ_ u=>by rw[BL.Uq];simp) (λo ho=>by cases ho);exact⟨_,J8.put λs hs=>by cases hs;exact⟨BJ.mono (Hy _ _ _) _ _ b,.inr ⟨g,n,cap,us,e,z,As,h1,h2,by simp[Gh.FC],c,f⟩⟩⟩
def C4.Xu(hr:C4 C U0 w0 U O Z h a w)(us:Array Value)(e:TypeId){z n cap:Nat}{As:List (List Aa)}(hz:0<z)(hn:As.length=n)(hl:∀r∈As,r.length=z)(aC:us.size=cap*z)(hc:n<=cap)(hm:cap<=maxLen)
  (b:A3 U As.flatten (us.toList.take (n*z))) (h1:∀u∈us.toList.take (n*z),u.oneCell'=true):
  ∃U',U.le U'/\C4 C U0 w0 U' O Z h a (w.alloc (.cells us e))/\BJ U' (.sl z As) (.slice (some ⟨w.heap.size,0,none⟩) n cap)/\Jm U' w0.heap.size (w.alloc (.cells us e)) Z.length none (.slice (some ⟨w.heap.size,0,none⟩) n cap) (.sl z As):=by
 obtain⟨hi,ha⟩:=PX hr.DV us e (0,0) (n*z) (some (.tail Z.length none (n*z))) (λo u ho hu=>h1 u (Cx (i:=o) (by rw[CC ho];simpa using hu))) (.inr (.inl ⟨_,_,rfl⟩));refine⟨_,ha.le,hr.I8 hi ha,⟨⟨w.heap.size,0,none⟩,cap,by rw[hn],by omega,.inl rfl,OO hl (A3.mono ha.le _ _ b) λj u hj=>?_⟩,.inr ⟨w.heap.size,n,cap,us,e,z,As,rfl,rfl,by simp[Gh.Dk],hr.DP.size,heap_alloc_new w _,aC,hc,hm,hz⟩⟩;rw[Co] at hj;split at hj;.rename_i hlt;simp only[Gh.Dk,BM,By,if_pos hlt];simpa using hj
 .cases hj
def Xv{size:Nat}:∀(vs:List Value) (k:Nat) (cells:Array Value),(∀v∈vs,v.cells.size=size)->(k+vs.length)*size<=cells.size->
  Instr.fill (λi=>some (i*size,size)) cells ((vs.zipIdx k).map λp=>(p.2,p.1))=some (cells.toList.take (k*size)++vs.flatMap (·.cells.toList)++cells.toList.drop ((k+vs.length)*size)).toArray
 |[],k,cells,_,_=>by simp[Instr.fill]
 |v::vs,k,cells,d,hl=>by
  have hs:v.cells.size=size:=d v (by simp);simp only[AE] at hl;have EC:(k+1)*size+vs.length*size<=cells.size:=by rw[<-BD];exact Bn (M5 (by congr 1;omega)) hl
  have ü:(k+1)*size=k*size+size:=by rw[BD,Ez]
  simp only[uT,Bd,Instr.fill];have g:¬(v.cells.size≠size\/k*size+v.cells.size>cells.size):=by rw[hs];omega
  simp only[ne_eq,decide_not,Jy,Ci,aRS,decide_eq_false_iff_not] at*;rw[if_neg g];have hf:=OL v.cells.toList (k*size) 0 cells (by simp[hs];omega);have aLv:v.cells.zipIdx.foldl (λcs (c,j)=>cs.setIfInBounds (k*size+j) c) cells=(cells.toList.take (k*size)++v.cells.toList++cells.toList.drop (k*size+size)).toArray:=by rw[<-aPW,aLl];rw[hf];simp[hs]
  rw[aLv];have hlen:(cells.toList.take (k*size)++v.cells.toList++cells.toList.drop (k*size+size)).length=cells.size:=by simp[hs];omega
  rw[Xv vs (k+1) _ (λu hu=>d u (by simp[hu])) (by simp only[BT];rw[hlen,BD];exact EC)]
  congr 2
  have b:(cells.toList.take (k*size)++v.cells.toList).length=(k+1)*size:=by simp[hs];omega
  have f:(cells.toList.take (k*size)++v.cells.toList++cells.toList.drop (k*size+size)).take ((k+1)*size)=cells.toList.take (k*size)++v.cells.toList:=by rw[<-b];exact EO
  have e:(cells.toList.take (k*size)++v.cells.toList++cells.toList.drop (k*size+size)).drop ((k+1+vs.length)*size)=cells.toList.drop ((k+(vs.length+1))*size):=by
   rw[IV,AH (by rw[b];exact Ee _ (by omega)),b,Ed,Bw];congr 1
   have:(k+1+vs.length)*size-(k+1)*size=vs.length*size:=by rw[BD (k+1)];omega
   rw[this,BD k,BD vs.length];omega
  rw[f,e];simp
def LB{P:Program}{t:TypeId}(h:MC P t=true):∃i z,P.info? t=some i/\i.zero=some z/\z.cells.size=i.size:=by
 unfold MC at h;split at h
 .rename_i i hi;split at h;.rename_i z hz;exact⟨i,z,hi,hz,by simpa using h⟩
  .cases h
 .cases h
def JW{P:Program}{t:TypeId}{n:Nat}{i:TypeInfo}(h:BR P t=some n)(hi:P.info? t=some i):i.size=n:=by simpa[BR,hi] using h
def Mg{P:Program}{t:TypeId}{n:Nat}{i:TypeInfo}(h:Kg P t=some n)(hi:P.info? t=some i):i.bytes=n:=by simpa[Kg,hi] using h
def Xw:∀{args:List Aa} {us:List Value} {z:Nat},A3 U args us->(∀x∈args,x.cells.length=z)->0<z->A3 U (args.map (·.cells)).flatten (us.flatMap (·.cells.toList))/\(∀u∈us.flatMap (·.cells.toList),u.oneCell'=true)/\∀u∈us,u.cells.size=z
 |[],us,z,h,_,_=>by rw[A3] at h;subst h;exact⟨rfl,by simp,by simp⟩
 |x::args,us,z,h,hl,hz=>by
  obtain⟨u,DB,rfl,h1,h2⟩:=h;have hx:=hl x (by simp);obtain⟨c,f⟩:=Hz h1 (by omega);obtain⟨e,r2,d⟩:=Xw h2 (λy hy=>hl y (by simp[hy])) hz;refine⟨by simpa using c.append e,λv b=>?_,λv b=>?_⟩;.simp only[List.flatMap_cons,Aj] at b;exact b.elim (f v) (r2 v)
  .rcases Aw.1 b with rfl|b
   .have:=c.length;simp at this;omega
   .exact d v b
def aN{a:Act}:∀{l:List (Nat×Operand)} {k:Nat},l.map (·.1)=List.range' k l.length->l.map (λp=>(p.1,a.eval p.2))=((l.map λp=>a.eval p.2).zipIdx k).map λp=>(p.2,p.1)
 |[],k,_=>by simp
 |(i,x)::l,k,h=>by simp only[Bd,AE,List.range'_succ,Dq] at h;obtain⟨rfl,h⟩:=h;simp[uT,aN h]
def uc{o:Oper}{t e:TypeId}{len n:Nat}{parts:Array (Nat×Operand)}{args:List Aa}{u:Aa}(ho:o.op= .buildSlice t len parts)(ht:C.P.underlying t=some (.slice e))(KT:BR C.P e=some (n+1))(hp:parts.toList.map (·.1)=List.range len)(jQ:MC C.P e=true)
  (ha:Bm C Z (parts.toList.map (·.2))=some args) (hu:Az (.Cl (n+1)) args=some u) (hr:C4 C U0 w0 U O Z h a w):FG C U0 w0 o a w (Z.put o.dst (.BN u)) h:=by
 obtain⟨i,z,hi,hz,dJ⟩:=LB jQ;have Rr:=JW KT hi;simp only[Az] at hu;split at hu
 .rename_i hc;cases hu;simp only[A4,Dc,ø,Ci] at hc;obtain⟨Zx,LX⟩:=hc;have EJ:=DQ hr ha;have hlen:parts.toList.length=len:=by have:=BQ List.length hp;simpa using this
  have S5:args.length=len:=by have:=EJ.length;simp at this;simp at hlen;omega
  obtain⟨f,j,g⟩:=Xw EJ Zx (CV n);have aO:=f.length;rw[HB (z:=n+1) (by intro r hr;obtain⟨x,hx,rfl⟩:=Bb.1 hr;exact Zx x hx),Ao,S5] at aO;have AI:∃cells:Array Value,cells.toList=(parts.toList.map (·.2) |>.map a.eval).flatMap (·.cells.toList)/\(Instr.buildSlice t len (parts.map λ(i,x)=>(i,a.eval x))).run C.P w= .ok (.slice (some ⟨w.heap.size,0,none⟩) len len) (w.alloc (.cells cells e)):=by
   have dE:(parts.map λ(i,x)=>(i,a.eval x)).toList=(((parts.toList.map (·.2)).map a.eval).zipIdx 0).map λp=>(p.2,p.1):=by have:=aN (a:=a) (l:=parts.toList) (k:=0) (by rw[hlen,<-aKd];exact hp);simp only[NV,List.map_map];exact this
   have vN:=Xv (size:=n+1) ((parts.toList.map (·.2)).map a.eval) 0 ((Array.range (len*(n+1))).map (z.cells[·%z.cells.size]!)) g (by simp at hlen⊢;rw[hlen];exact Ab _);rw[<-dE] at vN;have m:((Array.range (len*(n+1))).map (z.cells[·%z.cells.size]!)).toList.drop ((0+((parts.toList.map (·.2)).map a.eval).length)*(n+1))=[]:=by apply AH;simp at hlen⊢;rw[hlen];exact Ab _
   rw[m] at vN;simp only[M6,M7,Bw,A8] at vN;refine⟨_,rfl,?_⟩;by_cases h0:len*(n+1)=0
   .have d:len=0:=by
     rcases Nat.mul_eq_zero.1 h0 with h|h
     .exact h
     .omega
    subst d;have c:parts=#[]:=by apply IU;simpa using hlen
    subst c;have b:(Array.range 0:Array Nat)=#[]:=rfl;simp[Instr.buildSlice,run_underlying ht,sizeOf,typeInfo,hi,newRow,Instr.fill,b]
   .exact run_buildSlice w t e len _ _ i z ht hi hz (by rw[Rr];rw[S5] at LX;omega) (by rw[Rr];exact h0) (by rw[Rr];exact vN)
  obtain⟨cells,hcells,AI⟩:=AI;have hcs:cells.size=len*(n+1):=by rw[<-Cd,hcells];exact aO
  obtain⟨U',EC,HM,JG,Fv⟩:=hr.Xu cells e (z:=n+1) (n:=len) (cap:=len) (As:=args.map (·.cells)) (CV n) (by simp[S5]) (by intro r hr;obtain⟨x,hx,rfl⟩:=Bb.1 hr;exact Zx x hx) hcs (Ab _)
   (by rw[S5] at LX;have:len<=len*(n+1):=IW _ (CV n);simp only[maxLen];omega) (by rw[hcells,A7 (by rw[aO];exact Ab _)];exact f) (by rw[hcells,A7 (by rw[aO];exact Ab _)];exact j)
  obtain⟨q,MH⟩:=HM.Xt JG Fv o.dst;exact FG.value (by simp only[execOp,ho];exact Dy AI) MH
 .cases hu
def ud{o:Oper}{t e:TypeId}{len n:Nat}{parts:Array (Nat×Operand)}(ho:o.op= .buildSlice t len parts)(ht:C.P.underlying t=some (.slice e))(KT:BR C.P e=some (n+1))(hp:parts.toList.map (·.1)=List.range len)(jQ:MC C.P e=true)(h0:len=0)
  (hr:C4 C U0 w0 U O Z h a w):FG C U0 w0 o a w (Z.put o.dst (.BN (.GB (n+1)))) h:=by
 subst h0;obtain⟨i,z,hi,hz,dJ⟩:=LB jQ;have c:parts=#[]:=by apply IU;have:=BQ List.length hp;simpa using this
 subst c;have b:(Array.range 0:Array Nat)=#[]:=rfl;have AI:(Instr.buildSlice t 0 ((#[]:Array (Nat×Operand)).map λ(i,x)=>(i,a.eval x))).run C.P w= .ok (.slice (some ⟨w.heap.size,0,none⟩) 0 0) (w.alloc (.cells #[] e)):=by simp[Instr.buildSlice,run_underlying ht,sizeOf,typeInfo,hi,newRow,Instr.fill,b]
 obtain⟨U',EC,HM,_,_⟩:=hr.Xu #[] e (z:=n+1) (n:=0) (cap:=0) (As:=[]) (CV n) rfl (by simp) (by simp) (Ab _) (by simp[maxLen]) (by rw[M6];exact(rfl:A3 U [] [])) (by simp);obtain⟨d,MH⟩:=HM.Xt (x:= .GB (n+1)) (v:= .slice (some ⟨w.heap.size,0,none⟩) 0 0) ⟨_,rfl⟩ (.inl (.inr ⟨_,rfl⟩)) o.dst;exact FG.value (by simp only[execOp,ho];exact Dy AI) MH
def vR{t':TypeId}{size bytes:Nat}{v u r:Aa}{d:Value}(I3:(∃i,C.P.underlying t'=some (.slice i))\/C.P.underlying t'=some .string)(hi:HY U h w)(hu:BJ U u d)(hp:IB size bytes v u=some r):
  ∃(As:List (List Aa)) (news:List Value),DJ size bytes v As=some r/\Src C.P size t' d As.length news w/\A3 U As.flatten news/\(∀r∈As,r.length=size):=by
 unfold IB at hp;split at hp;.rw[show d=_ from hu];exact⟨[],[],hp,⟨I3,λ_=>rfl,run_firstCells_none w size 0 0 0,run_firstCells_none w.drew size 0 0 0,by simp,by simp⟩,rfl,by simp⟩
 .rename_i z;split at hp;.obtain⟨b,ě⟩:=hu;rw[ě];exact⟨[],[],hp,⟨I3,λ_=>rfl,run_firstCells_some w _ _ _ _ _ [] (by simp) (λj x hj=>by simp at hj),run_firstCells_some w.drew _ _ _ _ _ [] (by simp) (λj x hj=>by simp at hj),by simp,by simp⟩,rfl,by simp⟩
  .cases hp
 .rename_i z As;split at hp
  .rename_i hz;subst hz;obtain⟨c,cap,ě,P4,hsp,hR⟩:=hu;obtain⟨us,g,e,f⟩:=hR.values;have N5:∀(j:Nat) (x:Value),us[j]?=some x->c.add j=⟨c.block,c.off+j,none⟩:=λj x hj=>by
    have hpos:0<As.length:=by
     rcases FL As.length with h0|h0
     .have:us.length=0:=by rw[e,h0,M6]
      rw[CQ this] at hj;simp at hj
     .exact h0
    have pO:=OE hsp P4 hpos;generalize c.block=b at*;generalize c.off=o at*;subst pO;unfold Addr.add;split<;>simp_all
   rw[ě];refine⟨As,us,hp,⟨I3,λ_=>rfl,run_firstCells_some w _ _ _ _ _ us e (λj x hj=>by rw[N5 j x hj];exact(hi.Iw _ _ _ (f j x hj)).1),run_firstCells_some w.drew _ _ _ _ _ us e (λj x hj=>by rw[N5 j x hj];exact(hi.Iw _ _ _ (f j x hj)).1),e,λx hx=>?_⟩,g,λr hr=>?_⟩;.obtain⟨j,hj⟩:=CG hx;exact(hi.Iw _ _ _ (f j x hj)).2.1
   .obtain⟨j,hj⟩:=CG hr;exact(hR.get hj).1
  .cases hp
 .rename_i s;split at hp
  .rename_i hz;subst hz;rw[show d=_ from hu];have hlen:(C2 s).length=(⟨⟨s⟩⟩:ByteArray).size:=by simp[C2,ByteArray.size]
   have hrel:∀l:List UInt8,A3 U (C2 l).flatten (l.map λb=>Value.int .u8 b.toNat):=by
    intro l;induction l with
    |nil=>rfl
    |cons b l ih=>exact⟨_,_,rfl,rfl,ih⟩
   refine⟨C2 s,byteCells ⟨⟨s⟩⟩,hp,?_,?_,λr hr=>?_⟩;.rw[hlen];exact⟨I3,λ_=>rfl,firstCells_string _ w,firstCells_string _ w.drew,by rw[byteCells_length,Gm],λu hu=>by obtain⟨_,_,rfl⟩:=Bb.1 hu;rfl⟩
   .simpa[byteCells] using hrel s
   .obtain⟨b,_,rfl⟩:=Bb.1 hr;rfl
  .cases hp
 .cases hp
def C4.ue(hr:C4 C U0 w0 U O Z h a w){g n cap z:Nat}{us:Array Value}{e:TypeId}{rr As:List (List Aa)}{news:List Value}(Fv:U.BN g=some (.tail Z.length none (n*z)))(hB:w0.heap.size<=g)(hg:w.heap[g]?=some (.cells us e (0,0)))
  (aC:us.size=cap*z) (hm:cap<=maxLen) (hz:0<z) (f:BJ U (.sl z rr) (.slice (some ⟨g,0,none⟩) n cap)) (hl:∀r∈As,r.length=z) (hn:A3 U As.flatten news) (h1:∀u∈news,u.oneCell'=true) (hroom:n+As.length<=cap):
  ∃U',U.le U'/\C4 C U0 w0 U' O Z h a (w.setRow g (us.toList.take (n*z)++news++us.toList.drop (n*z+news.length)).toArray)/\BJ U' (.sl z (rr++As)) (.slice (some ⟨g,0,none⟩) (n+As.length) cap)/\
   Jm U' w0.heap.size (w.setRow g (us.toList.take (n*z)++news++us.toList.drop (n*z+news.length)).toArray) Z.length none (.slice (some ⟨g,0,none⟩) (n+As.length) cap) (.sl z (rr++As)):=by
 obtain⟨y,cap',kP,P4,_,hR⟩:=f;simp only[Value.slice.injEq,Bx] at kP;obtain⟨rfl,rfl,rfl⟩:=kP;simp only at hR;have Rs:news.length=As.length*z:=by rw[hn.length,HB hl]
 have hfit:(rr.length+As.length)*z<=us.size:=by rw[aC];exact Ee _ hroom
 rw[BD] at hfit;have c:(us.toList.take (rr.length*z)).length=rr.length*z:=by simp;omega
 obtain⟨vs,p,t,m⟩:=hR.values;have hvs:vs=us.toList.take (rr.length*z):=by
  apply RT;intro j;by_cases hj:j<rr.length*z
  .have d:j<vs.length:=by rw[t];exact hj
   have hc:=(hr.DV.Iw _ _ _ (m j _ (An d))).1;rw[cell_of_row w _ _ us e (0,0) hg,By] at hc;rw[An d,CC hj];simpa using hc.symm
  .rw[D4 (by omega),D4 (by rw[c];omega)]
 rw[hvs] at p;have dK:∀u∈us.toList.take (rr.length*z),u.oneCell'=true:=λu hu=>by rw[<-hvs] at hu;obtain⟨j,hj⟩:=CG hu;exact(hr.DV.Iw _ _ _ (m j u hj)).2.1
 have k:(rr.length+As.length)*z=rr.length*z+As.length*z:=BD _ _ _;have aAZ:((us.toList.take (rr.length*z)++news++us.toList.drop (rr.length*z+news.length)).toArray).toList.take ((rr.length+As.length)*z)=us.toList.take (rr.length*z)++news:=by
  have:(us.toList.take (rr.length*z)++news).length=(rr.length+As.length)*z:=by rw[Ai,c,Rs,k]
  rw[<-this];exact EO
 have KT:(us.toList.take (rr.length*z)++news++us.toList.drop (rr.length*z+news.length)).length=us.size:=by simp[Rs];omega
 generalize q:(us.toList.take (rr.length*z)++news++us.toList.drop (rr.length*z+news.length)).toArray=DB at*;have aLy:DB.size=us.size:=by rw[<-q];simpa using KT
 obtain⟨hi,EC⟩:=pH hr.DV Fv hg DB ((rr.length+As.length)*z) Z.length none (λo ho=>by
   rw[<-q,AT,List.getElem?_toArray,Ah (by omega),CC ho];simp)
  (by omega) (λo u ho hu=>by
   have:u∈DB.toList.take ((rr.length+As.length)*z):=by refine Cx (i:=o) ?_;rw[CC ho];simpa using hu
   rw[aAZ,Aj] at this;exact this.elim (dK u) (h1 u)) (λo v f=>by
   have:=(hr.DV.Iw _ _ _ f).1;rwa [cell_of_row w _ _ us e (0,0) hg] at this)
 have hk:QV g U w (U.Dk g DB ((rr.length+As.length)*z) (some (.tail Z.length none ((rr.length+As.length)*z)))) (w.setRow g DB):=
  ⟨EC,λb x hb hx _=>⟨by simp only[Gh.Dk,if_neg hb];exact hx,setRow_other w g b DB hb⟩⟩
 have l:ES (U.Dk g DB ((rr.length+As.length)*z) (some (.tail Z.length none ((rr.length+As.length)*z)))) (rr++As) z g 0:=by
  refine OO (us:=DB.toList.take ((rr.length+As.length)*z)) (λr hr=>?_) ?_ (λj u hj=>?_)
  .rcases Aj.1 hr with hr|hr
   .obtain⟨i,hi⟩:=CG hr;exact(hR.get hi).1
   .exact hl r hr
  .rw[aAZ,Ld];exact(A3.mono EC _ _ p).append (A3.mono EC _ _ hn)
  .rw[Co] at hj;split at hj;.rename_i hlt;simp only[Gh.Dk,BM,By,if_pos hlt];simpa using hj
   .cases hj
 refine⟨_,EC,⟨hi,⟨hr.fr.size,λs=>?_⟩,hr.DP.write (g:=g) hB EC (by simp) rfl rfl rfl (λb hb=>⟨setRow_other w g b DB hb,by simp only[Gh.Dk,if_neg hb]⟩),hr.defers,λx cs hx=>CU.mono EC _ _ _ (hr.Hs x cs hx)⟩,
  ⟨⟨g,0,none⟩,cap,by simp,by simpa using hroom,.inl rfl,l⟩,.inr ⟨g,rr.length+As.length,cap,DB,e,z,rr++As,rfl,rfl,by simp[Gh.Dk],hB,setRow_heap w g us DB e (0,0) hg,by rw[aLy,aC],hroom,hm,hz⟩⟩
 by_cases hs:s=Z.length;.subst hs;rw[BL.Uq];trivial
 .exact(hr.fr.Ir s).keptBut Fv hk (by simp only[KK.pD];intro hx;cases hx;exact hs rfl)
def OP{t t' ty:TypeId}{ts:Array TypeId}{xs:Array Value}(h0:ts[0]?=some t)(h1:ts[1]?=some t'):Builtin.append_ ts ty xs=Builtin.append_ #[t,t'] ty xs:=by simp only[Builtin.append_,h0,h1];rfl
def A3.Ĝ{l:List Aa}{us:List Value}{n:Nat}(h:A3 U l us)(hn:us.length<=n):A3 U l (us.take n):=by rw[A7 hn];exact h
def N6{cs:List Aa}{z:Nat}:∀{n off:Nat},(Cv cs z off n).flatten=(cs.drop off).take (n*z)
 |0,off=>by simp[Cv]
 |n+1,off=>by rw[Cv,CF,N6,BD,Ez,PL (n*z) z,aAJ,Ed]
def Pr{cs:List Aa}{z:Nat}:∀{n off:Nat},(Cv cs z off n).length=n
 |0,off=>rfl
 |n+1,off=>by rw[Cv,AE,Pr]
def RC{cs:List Aa}{z:Nat}:∀{n off:Nat},off+n*z<=cs.length->∀r∈Cv cs z off n,r.length=z
 |0,off,_,r,hr=>by simp[Cv] at hr
 |n+1,off,hl,r,hr=>by
  rw[BD,Ez] at hl;rw[Cv,Aw] at hr;rcases hr with rfl|hr
  .rw[Av,A5];omega
  .exact RC (by omega) r hr
def Xx{t':TypeId}{size:Nat}{u:Aa}{g:Value}{As:List (List Aa)}(I3:(∃m,C.P.underlying t'=some (.slice m))\/C.P.underlying t'=some .string)(hi:HY U h w)(hu:BJ U u g)(hp:GX h size u=some As):
  ∃news:List Value,Src C.P size t' g As.length news w/\A3 U As.flatten news/\(∀r∈As,r.length=size):=by
 unfold GX at hp;split at hp;.cases hp;rw[show g=_ from hu];exact⟨[],⟨I3,λ_=>rfl,run_firstCells_none w size 0 0 0,run_firstCells_none w.drew size 0 0 0,by simp,by simp⟩,rfl,by simp⟩
 .rename_i z;split at hp;.cases hp;obtain⟨b,ě⟩:=hu;rw[ě];exact⟨[],⟨I3,λ_=>rfl,run_firstCells_some w _ _ _ _ _ [] (by simp) (λj x hj=>by simp at hj),run_firstCells_some w.drew _ _ _ _ _ [] (by simp) (λj x hj=>by simp at hj),by simp,by simp⟩,rfl,by simp⟩
  .cases hp
 .rename_i z i;split at hp
  .rename_i hz;cases hp;subst hz;obtain⟨f,cap,ě,P4,hsp,hR⟩:=hu;obtain⟨us,k,c,d⟩:=hR.values;have N5:∀(j:Nat) (x:Value),us[j]?=some x->f.add j=⟨f.block,f.off+j,none⟩:=λj x hj=>by
    have hpos:0<As.length:=by
     rcases FL As.length with h0|h0
     .have:us.length=0:=by rw[c,h0,M6]
      rw[CQ this] at hj;simp at hj
     .exact h0
    have pO:=OE hsp P4 hpos;generalize f.block=b at*;generalize f.off=o at*;subst pO;unfold Addr.add;split<;>simp_all
   rw[ě];refine⟨us,⟨I3,λ_=>rfl,run_firstCells_some w _ _ _ _ _ us c (λj x hj=>by rw[N5 j x hj];exact(hi.Iw _ _ _ (d j x hj)).1),run_firstCells_some w.drew _ _ _ _ _ us c (λj x hj=>by rw[N5 j x hj];exact(hi.Iw _ _ _ (d j x hj)).1),c,λx hx=>?_⟩,k,λr hr=>?_⟩;.obtain⟨j,hj⟩:=CG hx;exact(hi.Iw _ _ _ (d j x hj)).2.1
   .obtain⟨j,hj⟩:=CG hr;exact(hR.get hj).1
  .cases hp
 .rename_i s;split at hp
  .rename_i hz;cases hp;subst hz;rw[show g=_ from hu];have hlen:(C2 s).length=(⟨⟨s⟩⟩:ByteArray).size:=by simp[C2,ByteArray.size]
   have hrel:∀l:List UInt8,A3 U (C2 l).flatten (l.map λb=>Value.int .u8 b.toNat):=by
    intro l;induction l with
    |nil=>rfl
    |cons b l ih=>exact⟨_,_,rfl,rfl,ih⟩
   refine⟨byteCells ⟨⟨s⟩⟩,?_,?_,λr hr=>?_⟩;.rw[hlen];exact⟨I3,λ_=>rfl,firstCells_string _ w,firstCells_string _ w.drew,by rw[byteCells_length,Gm],λu hu=>by obtain⟨_,_,rfl⟩:=Bb.1 hu;rfl⟩
   .simpa[byteCells] using hrel s
   .obtain⟨b,_,rfl⟩:=Bb.1 hr;rfl
  .cases hp
 .rename_i id off n z;split at hp
  .rename_i hz;subst hz;split at hp
   .rename_i cs hcs;split at hp
    .rename_i hl;cases hp;obtain⟨b,cap,hb,ě,P4,qd,KT⟩:=hu;obtain⟨us,e,fr,k,pf,c,d⟩:=hi.cells id cs hcs b hb;have qb:(us.toList.take cs.length).length=cs.length:=c.length;have Rs:(((us.toList.take cs.length).drop off).take (n*z)).length=n*z:=by rw[Av,A5,qb];omega
     have N5:∀j,(⟨b,off,none⟩:Addr).add j=⟨b,off+j,none⟩:=λj=>by unfold Addr.add;split<;>simp_all
     have JV:∀(j:Nat) (x:Value),(((us.toList.take cs.length).drop off).take (n*z))[j]?=some x->w.cell? ((⟨b,off,none⟩:Addr).add j)=some x:=λj x hj=>by
      rw[N5,cell_of_row w _ _ us e fr k];rw[Co] at hj;split at hj
      .rw[Cu,Co] at hj;split at hj;.simpa using hj
       .cases hj
      .cases hj
     rw[ě,Pr];refine⟨((us.toList.take cs.length).drop off).take (n*z),⟨I3,λ_=>rfl,run_firstCells_some w _ _ _ _ _ _ Rs JV,run_firstCells_some w.drew _ _ _ _ _ _ Rs (λj x hj=>JV j x hj),Rs,λx hx=>d x (Bc (AZ hx))⟩,?_,RC hl⟩;rw[N6];exact(c.drop off).take (n*z)
    .cases hp
   .cases hp
  .cases hp
 .cases hp
def Ps{o:Oper}{c:Call}{t t' e:TypeId}{n b:Nat}{s x:Operand}{v u r:Aa}{As:List (List Aa)}{news:List Value}(ho:o.op= .call c)(hc:c.callee= .builtin .append)(h0:c.argTypes[0]?=some t)(h1:c.argTypes[1]?=some t')(EJ:c.args.toList=[s,x])(ht:C.P.underlying t=some (.slice e))
  (I3:(∃G,C.P.underlying t'=some (.slice G))\/C.P.underlying t'=some .string) (KT:BR C.P e=some (n+1)) (uf:Kg C.P e=some (b+1)) (Fv:Lu C Z s=true) (jQ:MC C.P e=true) (m:Bm C Z [s,x]=some [v,u])
  (Jp:DJ (n+1) (b+1) v As=some r) (KF:Src C.P (n+1) t' (a.eval x) As.length news w) (Wt:A3 U As.flatten news) (pX:∀q∈As,q.length=n+1) (hr:C4 C U0 w0 U O Z h a w):FG C U0 w0 o a w ((Z.DE (De Z s)).put o.dst (.BN r)) h:=by
 obtain⟨i,z,hi,hz,dJ⟩:=LB jQ;have Rr:=JW KT hi;have F:=Mg uf hi;obtain⟨_,_,M,hvs,oW⟩:=E1 hr m;cases M;have Ě:ER C Z s=some v:=by
  unfold Bm at m;split at m;.rename_i p ps D I;cases m;exact D
  .cases m
 obtain⟨U1,EC,J8,JG,L⟩:=P3 hr Fv Ě (Z.DE (De Z s)).length none;have ug:=A3.mono EC _ _ Wt;have KD:c.args.map a.eval=#[a.eval s,a.eval x]:=by apply HJ;simp[EJ]
 have Nj:∀v' w',(Builtin.append_ #[t,t'] o.type #[a.eval s,a.eval x]).run C.P w= .ok v' w'->(execOp a.eval o).run C.P w= .ok (.value v') w':=λv' w' AI=>by
  have:execOp a.eval o=(do pure (Next.value (<-Builtin.append_ #[t,t'] o.type #[a.eval s,a.eval x]))):=by rw[<-KD,<-OP (ty:=o.type) h0 h1];simp only[execOp,ho,resolve,hc];rfl
  rw[this];exact Dy AI
 have Kj:Src C.P i.size t' (a.eval x) As.length news w:=by rw[Rr];exact KF
 have Rs:news.length=As.length*(n+1):=KF.newsLen;have F8:∀(base:Option Addr) (k cap:Nat) (rr:List (List Aa)) (olds:List Value),a.eval s= .slice base k cap->rr.length=k->(∀q∈rr,q.length=n+1)->A3 U1 rr.flatten olds->(∀q∈olds,q.oneCell'=true)->
   (Builtin.firstCells i.size k (.slice base k cap)).run C.P w.drew= .ok olds.toArray w.drew->cap<k+As.length->(k+As.length)*(b+1)<=AN->r= .sl (n+1) (rr++As)->
   FG C U0 w0 o a w ((Z.DE (De Z s)).put o.dst (.BN r)) h:=by
  intro base k cap rr olds hs hk A qe qc d hlt T9 Vj;have RY:k+As.length<=AN:=Bn (IW _ (CV b)) T9;have Gt:=run_append_grow_src (P:=C.P) w t t' o.type e i z ht hi hz base k cap olds d (a.eval x) As.length news Kj hlt (by simp only[AN] at RY;omega) (by rw[F];exact growslice_fits hlt T9);rw[<-hs] at Gt;have HK:=grownCap_ge w (k+As.length) cap e;have aLz:olds.length=k*(n+1):=by rw[qe.length,HB A,hk]
  have ji:(olds++news).length=(k+As.length)*(n+1):=by rw[Ai,aLz,Rs,BD]
  obtain⟨R,kM,MH,Ws,l⟩:=J8.drew.Xu ((olds++news).toArray++Builtin.zeroCells z.cells (grownCap w (k+As.length) cap e-(k+As.length))) e (z:=n+1) (n:=k+As.length) (cap:=grownCap w (k+As.length) cap e) (As:=rr++As) (CV n) (by simp[hk])
   (λq hq=>(Aj.1 hq).elim (A q) (pX q))
   (by simp only[J5,BT,size_zeroCells,dJ,Rr,ji,<-BD];congr 1;omega) HK (grownCap_le_maxLen w _ _ _ (by simp only[AN] at RY;simp only[maxLen];omega))
   (by simp only[GU,Ld];rw[<-ji,EO];exact qe.append ug)
   (λq hq=>by simp only[GU] at hq;rw[<-ji,EO,Aj] at hq;exact hq.elim (qc q) (KF.one q))
  rw[Vj];obtain⟨Q,f⟩:=MH.Xt Ws l o.dst;exact FG.value (Nj _ _ Gt) f
 rcases L with(rfl|⟨B,rfl⟩)|⟨g,k,cap,us,J,B,rr,rfl,JH,T8,hB,hg,aC,ĝ,hm,qg⟩
 .have JH:a.eval s= .slice none 0 0:=JG;cases As with
  |nil=>
   have Vj:r= .slnil:=by simpa[DJ] using Jp.symm
   have tn:news=[]:=CQ (by simpa using Rs);subst tn;have AI:(Builtin.append_ #[t,t'] o.type #[a.eval s,a.eval x]).run C.P w= .ok (.slice none 0 0) w:=by rw[JH];have hl:=Kj.len;have Wu:=Kj.cells;simp only[AY] at hl Wu;rcases I3 with⟨G,hk⟩|hk<;>simp[Builtin.append_,run_underlying ht,run_underlying hk,sizeOf,typeInfo,hi,hl,Wu]
   rw[Vj];exact FG.value (Nj _ _ AI) (J8.put λ_ _=>⟨rfl,.inl (.inl rfl)⟩)
  |cons q As=>
   have P5:r= .sl (n+1) (q::As)/\(q::As).length*(b+1)<=AN:=by
    simp only[DJ] at Jp;split at Jp;.rename_i hb;cases Jp;exact⟨rfl,hb⟩
    .cases Jp
   exact F8 none 0 0 [] [] JH rfl (by simp) rfl (by simp) (run_firstCells_none _ _ _ _ _) (by simp) (by simpa using P5.2) (by simpa using P5.1)
 .obtain⟨g,JH⟩:=id JG;cases As with
  |nil=>
   have Vj:B=n+1/\r= .GB B:=by
    simp only[DJ] at Jp;split at Jp;.rename_i Zp;cases Jp;exact⟨Zp,by rw[Zp]⟩
    .cases Jp
   obtain⟨rfl,Vj⟩:=Vj;have tn:news=[]:=CQ (by simpa using Rs);subst tn;have AI:(Builtin.append_ #[t,t'] o.type #[a.eval s,a.eval x]).run C.P w= .ok (.slice (some ⟨g,0,none⟩) 0 0) w:=by rw[JH];have hl:=Kj.len;have Wu:=Kj.cells;simp only[AY] at hl Wu;rcases I3 with⟨G,hk⟩|hk<;>simp[Builtin.append_,run_underlying ht,run_underlying hk,sizeOf,typeInfo,hi,hl,Wu,storeCells,Result.andThen]
   rw[Vj];exact FG.value (Nj _ _ AI) (J8.put λ_ _=>⟨⟨g,rfl⟩,.inl (.inr ⟨_,rfl⟩)⟩)
  |cons q As=>
   have P5:r= .sl (n+1) (q::As)/\(q::As).length*(b+1)<=AN:=by
    simp only[DJ] at Jp;split at Jp;.rename_i hb;cases Jp;exact⟨rfl,hb.2⟩
    .cases Jp
   exact F8 (some ⟨g,0,none⟩) 0 0 [] [] JH rfl (by simp) rfl (by simp) (run_firstCells_some w.drew _ _ _ _ _ [] (by simp) (λj x hj=>by simp at hj)) (by simp) (by simpa using P5.2) (by simpa using P5.1)
 .obtain⟨N,K,kP,P4,_,hR⟩:=id JG;rw[JH] at kP;simp only[Value.slice.injEq,Bx] at kP;obtain⟨rfl,hk,rfl⟩:=kP;subst hk;simp only at hR;have E:B=n+1/\r= .sl (n+1) (rr++As)/\(As=[]\/(rr.length+As.length)*(b+1)<=AN):=by
   cases As with
   |nil=>
    simp only[DJ] at Jp;split at Jp;.rename_i Zp;cases Jp;exact⟨Zp,by simp[Zp],.inl rfl⟩
    .cases Jp
   |cons q As=>
    simp only[DJ] at Jp;split at Jp;.rename_i Zp;cases Jp;exact⟨Zp.1,rfl,.inr Zp.2⟩
    .cases Jp
  obtain⟨rfl,Vj,T9⟩:=E;by_cases hroom:rr.length+As.length<=cap
  .have hfit:rr.length*(n+1)+news.length<=us.size:=by rw[Rs,aC,<-BD];exact Ee _ hroom
   have AI:=run_append_room_src (P:=C.P) w t t' o.type e i ht hi g 0 rr.length cap (a.eval x) As.length news Kj hroom (λj hj=>by rw[cell_of_row w _ _ us J (0,0) hg,Rr,CJ (by omega)];rfl) (λj hj=>frozen_of_row w _ _ us J hg)
   rw[By,Rr,EI news _ us w hg hfit,<-JH] at AI;rw[JH] at JG;obtain⟨R,kM,MH,Ws,l⟩:=J8.ue T8 hB hg aC hm (CV n) JG pX ug KF.one hroom;obtain⟨Q,f⟩:=MH.Xt Ws l o.dst;rw[Vj];exact FG.value (Nj _ _ AI) f
  .obtain⟨vs,D,I,H⟩:=hR.values;have N5:∀j,(⟨g,0,none⟩:Addr).add j=⟨g,0+j,none⟩:=λj=>by unfold Addr.add;split<;>simp_all
   refine F8 (some ⟨g,0,none⟩) rr.length cap rr vs JH rfl (λq hq=>?_) D (λq hq=>?_) ?_ (by omega) ?_ Vj;.obtain⟨j,hj⟩:=CG hq;exact(hR.get hj).1
   .obtain⟨j,hj⟩:=CG hq;exact(J8.DV.Iw _ _ _ (H j q hj)).2.1
   .rw[Rr];exact run_firstCells_some w.drew _ _ _ _ _ vs I (λj y hj=>by rw[N5];exact(J8.DV.Iw _ _ _ (H j y hj)).1)
   .rcases T9 with rfl|T9
    .simp at hroom;omega
    .exact T9
def pY{o:Oper}{c:Call}{t t' e:TypeId}{n b:Nat}{s x:Operand}{v u r:Aa}(ho:o.op= .call c)(hc:c.callee= .builtin .append)(h0:c.argTypes[0]?=some t)(h1:c.argTypes[1]?=some t')(EJ:c.args.toList=[s,x])(ht:C.P.underlying t=some (.slice e))
  (I3:(∃g,C.P.underlying t'=some (.slice g))\/C.P.underlying t'=some .string) (KT:BR C.P e=some (n+1)) (uf:Kg C.P e=some (b+1)) (Fv:Lu C Z s=true) (jQ:MC C.P e=true) (d:Bm C Z [s,x]=some [v,u])
  (hp:Az (.append (n+1) (b+1)) [v,u]=some r) (hr:C4 C U0 w0 U O Z h a w):FG C U0 w0 o a w ((Z.DE (De Z s)).put o.dst (.BN r)) h:=by
 obtain⟨_,_,f,hvs,oW⟩:=E1 hr d;cases f;simp only[Az] at hp;obtain⟨As,news,Jp,KF,Wt,pX⟩:=vR (w:=w) I3 hr.DV oW hp;exact Ps ho hc h0 h1 EJ ht I3 KT uf Fv jQ d Jp KF Wt pX hr
def kQ{o:Oper}{c:Call}{t t' e:TypeId}{n b:Nat}{s x:Operand}{v u r:Aa}(ho:o.op= .call c)(hc:c.callee= .builtin .append)(h0:c.argTypes[0]?=some t)(h1:c.argTypes[1]?=some t')(EJ:c.args.toList=[s,x])(ht:C.P.underlying t=some (.slice e))
  (I3:(∃g,C.P.underlying t'=some (.slice g))\/C.P.underlying t'=some .string) (KT:BR C.P e=some (n+1)) (uf:Kg C.P e=some (b+1)) (Fv:Lu C Z s=true) (jQ:MC C.P e=true) (d:Bm C Z [s,x]=some [v,u])
  (hp:Rz h (n+1) (b+1) v u=some r) (hr:C4 C U0 w0 U O Z h a w):FG C U0 w0 o a w ((Z.DE (De Z s)).put o.dst (.BN r)) h:=by
 obtain⟨_,_,f,hvs,oW⟩:=E1 hr d;cases f;unfold Rz at hp;cases hq:GX h (n+1) u with
 |none=>rw[hq] at hp;cases hp
 |some As=>rw[hq] at hp;obtain⟨news,KF,Wt,pX⟩:=Xx (w:=w) I3 hr.DV oW hq;exact Ps ho hc h0 h1 EJ ht I3 KT uf Fv jQ d hp KF Wt pX hr
end
section
variable{C:FT}{γ0 γ γ':Gh}{w0 w w':World}{Z:Nat->Nat}{U:BL}{h:Ae}{a:Act}{fid:FuncId}{ops:List Oper}
def S6:∀s:Ad,(C2 s).flatten=s.map λb=>Aa.int .u8 b.toNat
 |[]=>rfl
 |_::s=>by have:=S6 s;simp only[C2,Bd,CF] at this⊢;rw[this];rfl
def MI(γ:Gh):∀l:Ad,A3 γ (C2 l).flatten (l.map λb=>Value.int .u8 b.toNat)
 |[]=>rfl
 |_::l=>⟨_,_,rfl,rfl,MI γ l⟩
def Ln(s:Ad)(cap:Nat):(bytesRow ⟨⟨s⟩⟩ cap).toList.take s.length=s.map λb=>Value.int .u8 b.toNat:=by
 have:(s.map λb=>Value.int .u8 (b.toNat:Int)).length=s.length:=by simp
 simp only[bytesRow,GU,NV];rw[<-this];exact EO
def dL(s:Ad):(⟨⟨s⟩⟩:ByteArray).size=s.length:=by simp[ByteArray.size]
def Ğ{o:Oper}{src dst e:TypeId}{x:Operand}{v u:Aa}(ho:o.op= .convert src dst x)(hs:C.P.underlying src=some .string)(hd:C.P.underlying dst=some (.slice e))(he:C.P.underlying e=some (.int .u8))(hx:Bm C U [x]=some [v])(hp:Az .s2b [v]=some u)(hr:C4 C γ0 w0 γ Z U h a w):
  FG C γ0 w0 o a w (U.put o.dst (.val u)) h:=by
 obtain⟨_,f,d⟩:=GD hr hx;cases f;simp only[Az] at hp;split at hp
 .rename_i s KD;cases KD;split at hp
  .cases hp;have AI:=run_bytes_of_string (P:=C.P) w src dst e ⟨⟨s⟩⟩ hs hd he;rw[<-OJ d] at AI;have c:=grownCap_ge w s.length 0 e;rw[dL] at AI;obtain⟨hi,ha⟩:=PX hr.drew.DV (bytesRow ⟨⟨s⟩⟩ (grownCap w s.length 0 e)) e ((bytesRow ⟨⟨s⟩⟩ (grownCap w s.length 0 e)).size,(bytesRow ⟨⟨s⟩⟩ (grownCap w s.length 0 e)).size+1) s.length none (λo u ho hu=>by have hm:u∈(bytesRow ⟨⟨s⟩⟩ (grownCap w s.length 0 e)).toList.take s.length:=Cx (i:=o) (by rw[CC ho];simpa using hu);rw[Ln] at hm;obtain⟨b,_,rfl⟩:=Bb.1 hm;rfl) (.inl rfl)
   have HM:=hr.drew.I8 hi ha;refine FG.value (v:= .slice (some ⟨w.heap.size,0,none⟩) s.length (grownCap w s.length 0 e)) (by simp only[execOp,ho];exact Dy AI) (HM.put λ_ _=>⟨⟨w.heap.size,0,none⟩,grownCap w s.length 0 e,by simp[C2],by simpa[C2] using c,.inl rfl,?_⟩);refine OO (us:=s.map λb=>Value.int .u8 b.toNat) (λr hr=>?_) (MI _ s) (λj u hj=>?_);.obtain⟨b,_,rfl⟩:=Bb.1 hr;rfl
   .rw[<-Ln s (grownCap w s.length 0 e),Co] at hj;split at hj;.rename_i hlt;simp only[Gh.Dk,heap_drew,BM,By,if_pos hlt];simpa using hj
    .cases hj
  .cases hp
 .cases hp
def dM{o:Oper}{src dst e:TypeId}{x:Operand}{v u:Aa}{h':Ae}(ho:o.op= .convert src dst x)(hs:C.P.underlying src=some .string)(hd:C.P.underlying dst=some (.slice e))(he:C.P.underlying e=some (.int .u8))(hx:ER C U x=some v)(hp:I1 h v=some (h',u))(hr:C4 C γ0 w0 γ Z U h a w):
  FG C γ0 w0 o a w (U.put o.dst (.val u)) h':=by
 have f:=Gw hr hx;unfold I1 at hp;split at hp
 .rename_i s;split at hp
  .cases hp;have AI:=run_bytes_of_string (P:=C.P) w src dst e ⟨⟨s⟩⟩ hs hd he;rw[<-OJ f] at AI;have c:=grownCap_ge w s.length 0 e;rw[dL] at AI;have hl:(s.map λb=>Aa.int .u8 b.toNat).length=s.length:=by simp
   have d:(bytesRow ⟨⟨s⟩⟩ (grownCap w s.length 0 e)).size=grownCap w s.length 0 e:=by have g:ByteArray.size ⟨⟨s⟩⟩=s.length:=dL s;simp only[bytesRow,J5,Array.size_map,Array.size_replicate,g];simp only[BT];omega
   have oX:s.length<=maxLen:=by
    have oX:s.length<=AN:=by assumption
    simp only[AN] at oX;simp only[maxLen];omega
   obtain⟨γ',EC,hm,HM,KT⟩:=hr.drew.newObj (bytesRow ⟨⟨s⟩⟩ (grownCap w s.length 0 e)) e ((bytesRow ⟨⟨s⟩⟩ (grownCap w s.length 0 e)).size,(bytesRow ⟨⟨s⟩⟩ (grownCap w s.length 0 e)).size+1) (s.map λb=>Aa.int .u8 b.toNat) (.inr (Ab _))
    (by rw[hl,Ln];have:=MI γ s;rw[S6] at this;exact this)
    (λu hu=>by rw[hl,Ln] at hu;obtain⟨b,_,rfl⟩:=Bb.1 hu;rfl)
   exact FG.value (v:= .slice (some ⟨w.heap.size,0,none⟩) s.length (grownCap w s.length 0 e)) (by simp only[execOp,ho];exact Dy AI) (HM.put λ_ _=>⟨w.heap.size,_,hm,rfl,c,⟨CV 0,grownCap_le_maxLen w _ _ _ oX⟩,by rw[By,Gm,<-d];exact KT⟩)
  .cases hp
 .cases hp
def Il{O:Type}(l:List O):∀(c j:Nat),j<c*l.length->(List.replicate c l).flatten[j]?=l[j%l.length]?
 |0,j,h=>by simp at h
 |c+1,j,h=>by
  have h':j<c*l.length+l.length:=by rw[BD] at h;omega
  rw[Lf,CF];by_cases hj:j<l.length;.rw[Ah hj,Nat.mod_eq_of_lt hj]
  .rw[Bi (by omega),Il l c _ (by omega),show j%l.length=(j-l.length)%l.length from Nat.mod_eq_sub_mod (by omega)]
def uh{o:Oper}{t e:TypeId}{l c:Operand}{n b:Nat}{z:Aa}{D vc u:Aa}{h':Ae}(ho:o.op= .makeSlice t l c)(ht:C.P.underlying t=some (.slice e))(KT:BR C.P e=some (n+1))(uf:Kg C.P e=some (b+1))(hz:GY C.P e=some z)(hl:ER C U l=some D)(hc:ER C U c=some vc)
  (hm:SP h (n+1) (b+1) z.cells D vc=some (h',u)) (hr:C4 C γ0 w0 γ Z U h a w):FG C γ0 w0 o a w (U.put o.dst (.val u)) h':=by
 unfold SP at hm;split at hm
 .rename_i k m;split at hm
  .rename_i H8;obtain⟨K,J,I,B⟩:=H8;cases hm;unfold GY at hz;cases hi:C.P.info? e with
   |none=>rw[hi] at hz;cases hz
   |some i=>
    rw[hi] at hz;cases qh:i.zero with
    |none=>simp[qh] at hz
    |some f=>
     simp only[Ck,qh] at hz;have Rr:=JW KT hi;have A:=Mg uf hi;obtain⟨E,G⟩:=Hz (γ:=γ) (Fi hz) (by omega);have dJ:f.cells.size=n+1:=by have:=E.length;simp at this;omega
     have q:m.toNat*(b+1)<=AN:=I;have g:m.toNat<=AN:=Bn (IW m.toNat (CV b)) q;have AI:=run_make (P:=C.P) w t e i f ht hi qh .i64 .i64 k m K J (by
      rw[A];have H:((b+1:Nat):Int)*m=((m.toNat*(b+1):Nat):Int):=by rw[Int.natCast_mul,Iz (by omega),Int.mul_comm]
      rw[H];simp only[AN] at q;omega) (by simp only[AN] at g;omega)
     rw[<-Er (Gw hr hl),<-Er (Gw hr hc)] at AI;have hlen:((List.replicate m.toNat z.cells).flatten).length=m.toNat*(n+1):=by rw[HB (z:=n+1) (λr hr=>by rw[aAK hr,B]),FE]
     have p:∀(j:Nat) (u:Value),(madeCells f.cells (m.toNat*i.size)).toList[j]?=some u->j<m.toNat*(n+1)/\f.cells.toList[j%(n+1)]?=some u:=by
      intro j u hj;have aP:j<m.toNat*(n+1):=by have:=(Af.1 hj).1;simpa[size_madeCells,Rr] using this
      refine⟨aP,?_⟩;have aCj:j%(n+1)<f.cells.size:=by rw[dJ];exact Nat.mod_lt _ (CV n)
      simp only[madeCells,NV,CE] at hj;have d:(Array.range (m.toNat*i.size)).toList[j]?=some j:=by simp[Rr,aP]
      rw[d] at hj;simp only[BF,Bx] at hj;rw[dJ] at hj;rw[<-hj];simp[aCj]
     have F:A3 γ (List.replicate m.toNat z.cells).flatten (madeCells f.cells (m.toNat*i.size)).toList:=by refine A3.GZ (by simp[hlen,size_madeCells,Rr]) λj x u hx hu=>?_;obtain⟨aP,y⟩:=p j u hu;rw[Il z.cells _ _ (by rw[B];exact aP),B] at hx;obtain⟨L,iy,s⟩:=E.get hx;rw[y] at iy;cases iy;exact s
     obtain⟨γ',EC,v,HM,aLB⟩:=hr.newObj (madeCells f.cells (m.toNat*i.size)) e (0,0) (List.replicate m.toNat z.cells).flatten (.inl rfl) (F.Ĝ (by rw[F.length];exact Ab _)) (λu hu=>by obtain⟨j,hj⟩:=CG (AZ hu);exact G u (Cx (p j u hj).2))
     exact FG.value (by simp only[execOp,ho];exact Dy AI) (HM.put λ_ _=>⟨w.heap.size,m.toNat,v,rfl,by omega,⟨CV n,by simp only[AN] at g;simp only[maxLen];omega⟩,by rw[aLB,size_madeCells,Rr,By]⟩)
  .cases hm
 .cases hm
def C4.aGW(hr:C4 C γ0 w0 γ Z U h a w){g:Nat}(Fv:γ.BN g=some (.tail U.length none 0))(hB:w0.heap.size<=g){us:Array Value}{e:TypeId}(hg:w.heap[g]?=some (.cells us e (0,0)))(DB:Array Value)(cs:List Aa)
  (f:A3 γ cs (DB.toList.take cs.length)) (h1:∀u∈DB.toList.take cs.length,u.oneCell'=true):∃γ',γ.le γ'/\γ'.mu h.length=some g/\C4 C γ0 w0 γ' Z U (h++[.cells cs]) a (w.setRow g DB)/\γ'.sz g=some DB.size:=by
 have i:γ.mu h.length=none:=by
  cases hc:γ.mu h.length with
  |none=>rfl
  |some y=>exact absurd (hr.DV.mu _ y hc) (Dw _)
 have KT:γ.sz g=none:=by
  cases hc:γ.sz g with
  |none=>rfl
  |some y=>obtain⟨_,r⟩:=hr.DV.sz g y hc;rw[Fv] at r;rcases r with r|⟨_,r⟩<;>cases r
 have EC:γ.le (γ.BP g h.length (some DB.size)):=⟨λ_ _ _ f=>f,λid b hm=>by
  have:id≠h.length:=λhe=>by rw[he,i] at hm;cases hm
  simp only[Gh.BP,if_neg this];exact hm,λb n hm=>by
  have:b≠g:=λhe=>by rw[he,KT] at hm;cases hm
  simp only[Gh.BP,if_neg this];exact hm⟩
 have aCe:∀b n,(γ.BP g h.length (some DB.size)).sz b=some n->(∃us e fr,(w.setRow g DB).heap[b]?=some (.cells us e fr)/\us.size=n)/\((γ.BP g h.length (some DB.size)).BN b=none\/∃id,(γ.BP g h.length (some DB.size)).BN b=some (.Ng id)):=λb n hb=>by
  by_cases he:b=g;.subst he;simp only[Gh.BP,BM] at hb;cases hb;exact⟨⟨DB,e,(0,0),setRow_heap w b us DB e (0,0) hg,rfl⟩,.inr ⟨h.length,by simp[Gh.BP]⟩⟩
  .simp only[Gh.BP,if_neg he] at hb⊢;obtain⟨p,r⟩:=hr.DV.sz b n hb;exact⟨by rw[setRow_other w g b DB he];exact p,r⟩
 have hne:∀b id,γ.BN b=some (.Ng id)->b≠g:=λb id hb he=>by rw[he,Fv] at hb;cases hb
 have hk:QV g γ w (γ.BP g h.length (some DB.size)) (w.setRow g DB):=⟨EC,λb x hb hx _=>⟨by simp only[Gh.BP,if_neg hb];exact hx,setRow_other w g b DB hb⟩⟩;refine⟨_,EC,by simp[Gh.BP],⟨⟨λb o v hb=>?_,λid y Iy hy=>?_,λid GW hc b hb=>?_,λid es hc b hb=>?_,λid b hb=>?_,λb y hy=>?_,aCe⟩,⟨hr.fr.size,λs=>?_⟩,hr.DP.write (g:=g) hB EC (by simp) rfl rfl rfl (λb hb=>⟨setRow_other w g b DB hb,by simp only[Gh.BP,if_neg hb]⟩),hr.defers,λx GW hx=>CU.mono EC _ _ _ (hr.Hs x GW hx)⟩,by simp[Gh.BP]⟩
 .obtain⟨p,q,r⟩:=hr.DV.Iw b o v hb;have OG:b≠g:=λhe=>by
   subst he;rw[Fv] at r;rcases r with r|⟨_,_,_,r,hl⟩
   .cases r
   .cases r;omega
  exact⟨by rw[CH (setRow_other w g b DB OG)];exact p,q,by simp only[Gh.BP,if_neg OG];exact r⟩
 .by_cases he:id=h.length;.exact⟨g,by simp[Gh.BP,he],by simp[Gh.BP,he]⟩
  .have Xj:id<h.length:=by rw[Af] at Iy;obtain⟨hl,_⟩:=Iy;simp at hl;omega
   rw[Ah Xj] at Iy;obtain⟨b,p,q⟩:=hr.DV.Ng id y Iy hy;exact⟨b,by simp only[Gh.BP,if_neg he];exact p,by simp only[Gh.BP,if_neg (hne b id q)];exact q⟩
 .by_cases he:id=h.length;.subst he;simp[Gh.BP] at hb;subst hb;simp at hc;subst hc;exact⟨DB,e,(0,0),setRow_heap w g us DB e (0,0) hg,.inl rfl,A3.mono EC _ _ f,h1⟩
  .simp only[Gh.BP,if_neg he] at hb;have Xj:=hr.DV.mu id b hb;rw[Ah Xj] at hc;obtain⟨b',c,d⟩:=hr.DV.Ng id _ hc (by simp);rw[hb] at c;cases c;obtain⟨pG,j,tk,p,pf,q,r⟩:=hr.DV.cells id GW hc b hb;exact⟨pG,j,tk,by rw[setRow_other w g b DB (hne b id d)];exact p,pf,A3.mono EC _ _ q,r⟩
 .by_cases he:id=h.length;.subst he;simp at hc
  .simp only[Gh.BP,if_neg he] at hb;have Xj:=hr.DV.mu id b hb;rw[Ah Xj] at hc;obtain⟨b',c,d⟩:=hr.DV.Ng id _ hc (by simp);rw[hb] at c;cases c;obtain⟨D0,clock,p,q⟩:=hr.DV.map id es hc b hb;exact⟨D0,clock,by rw[setRow_other w g b DB (hne b id d)];exact p,q.mono EC⟩
 .by_cases he:id=h.length;.simp[he]
  .simp only[Gh.BP,if_neg he] at hb;have:=hr.DV.mu id b hb;simp;omega
 .by_cases OG:b=g;.subst OG;have:=hr.DV.BN _ _ Fv;simpa using this
  .simp only[Gh.BP,if_neg OG] at hy;have:=hr.DV.BN b y hy;simpa using this
 .by_cases hs:s=U.length;.subst hs;rw[BL.Uq];trivial
  .exact(hr.fr.Ir s).keptBut Fv hk (by simp only[KK.pD];intro hx;cases hx;exact hs rfl)
def C4.VR(hr:C4 C γ0 w0 γ Z U h a w){v v':Aa}{u:Value}{h':Ae}(g:BJ γ v u)(hf:Lt h v=some (h',v')):∃γ',γ.le γ'/\C4 C γ0 w0 γ' Z U h' a w/\BJ γ' v' u:=by
 unfold Lt at hf;split at hf
 .rename_i id off n z;obtain⟨b,cap,hb,hu,hc,hz,KT⟩:=g;split at hf
  .rename_i cs hcs;split at hf
   .rename_i hl;cases hf;obtain⟨us,e,fr,s,pf,q,p⟩:=hr.DV.cells id cs hcs b hb;obtain⟨hi,ha⟩:=tl hr.DV hcs hb s p;have pX:∀(k o:Nat),(Cv cs z o k).length=k:=by
     intro k;induction k with
     |zero=>intro o;rfl
     |succ k ih=>intro o;simp[Cv,ih]
    have d:∀(k o i:Nat) (r:List Aa),(Cv cs z o k)[i]?=some r->i<k/\r=(cs.drop (o+i*z)).take z:=by
     intro k;induction k with
     |zero=>intro o i r h;simp[Cv] at h
     |succ k ih=>
      intro o i r h;cases i with
      |zero=>simp[Cv] at h;exact⟨CV _,by simpa using h.symm⟩
      |succ i=>simp[Cv] at h;obtain⟨m,l⟩:=ih _ _ _ h;exact⟨by omega,by rw[l];congr 2;rw[BD];omega⟩
    refine⟨_,ha.le,hr.I8 hi ha,⟨b,off,none⟩,cap,by rw[pX];exact hu,by rw[pX];exact hc,.inl rfl,ES.GZ λi r f=>?_⟩;obtain⟨m,rfl⟩:=d n off i r f;have A:i*z+z<=n*z:=by have:=Ee z (show i+1<=n by omega);rwa [BD,Ez] at this
    refine⟨by simp;omega,CU.GZ λj x hj=>?_⟩;rw[Co] at hj;split at hj;.rename_i t;rw[Cu] at hj;obtain⟨y,hy,c⟩:=q.get hj;have hlt:off+i*z+j<cs.length:=(Af.1 hj).1;refine⟨y,?_,BJ.mono ha.le _ _ c⟩;simp only[Gh.Dk,BM,if_pos hlt];rw[CC hlt] at hy;simpa using hy
    .cases hj
   .cases hf
  .cases hf
 .cases hf;exact⟨γ,.refl _,hr,g⟩
def S7:∀{As:List (List Aa)} {s:Ad},Nn As=some s->∃ns:List Int,As=ns.map (λn=>[.int .u8 n])/\s=ns.map λn=>UInt8.ofNat n.toNat
 |[],s,hs=>by cases hs;exact⟨[],rfl,rfl⟩
 |r::As,s,hs=>by
  unfold Nn at hs;split at hs;.rename_i KD;cases KD
  .rename_i n rs KD;cases KD;cases hq:Nn As with
   |none=>rw[hq] at hs;cases hs
   |some l=>rw[hq] at hs;cases hs;obtain⟨ns,rfl,rfl⟩:=S7 hq;exact⟨n::ns,rfl,rfl⟩
  .cases hs
def Xy:∀(ns:List Int) (r:ByteArray),ns.foldl (λr n=>r.push (UInt8.ofNat n.toNat)) r=⟨r.data++(ns.map λn=>UInt8.ofNat n.toNat).toArray⟩
 |[],r=>by simp
 |n::ns,r=>by rw[px,Xy ns];simp[ByteArray.push]
def ğ{o:Oper}{src dst e:TypeId}{x:Operand}{v v' u:Aa}{h':Ae}(ho:o.op= .convert src dst x)(hs:C.P.underlying src=some (.slice e))(hd:C.P.underlying dst=some .string)(he:C.P.underlying e=some (.int .u8))(hx:ER C U x=some v)(hf:Lt h v=some (h',v'))(hp:Az .Zo [v']=some u)
  (hr:C4 C γ0 w0 γ Z U h a w):FG C γ0 w0 o a w (U.put o.dst (.val u)) h':=by
 obtain⟨γ',EC,HM,JG⟩:=hr.VR (Gw hr hx) hf;have Nj:∀s,(Conv.bytesToString (a.eval x)).run C.P w= .ok s w->(∃p l c,a.eval x= .slice p l c)->(execOp a.eval o).run C.P w= .ok (.value s) w:=λs AI ⟨p,l,c,oX⟩=>by simp only[execOp,ho];refine Dy ?_;rw[oX] at AI⊢;rw[run_convert_bytes_string w src dst e p l c hs he hd];exact AI
 simp only[Az] at hp;unfold cW at hp;split at hp
 .rename_i As;cases hq:Nn As with
  |none=>rw[hq] at hp;cases hp
  |some s=>
   rw[hq] at hp;cases hp;obtain⟨ns,rfl,rfl⟩:=S7 hq;obtain⟨d,cap,oX,hc,hsp,hR⟩:=JG;have N5:∀(j:Nat) (v:Value),(ns.map (Value.int .u8))[j]?=some v->d.add j=⟨d.block,d.off+j,none⟩:=λj v hj=>by
    have hpos:0<ns.length:=by have:=(Af.1 hj).1;simp at this;omega
    have pO:=OE hsp hc (by simpa using hpos);generalize d.block=b at*;generalize d.off=o at*;subst pO;unfold Addr.add;split<;>simp_all
   have hl:=run_loadCells_list (P:=C.P) w d (ns.map (Value.int .u8)) (λj v hj=>by
    rw[N5 j v hj];simp only[CE] at hj;cases hn:ns[j]? with
    |none=>rw[hn] at hj;cases hj
    |some n=>rw[hn] at hj;cases hj;obtain⟨_,m⟩:=hR.get (i:=j) (r:=[.int .u8 n]) (by simp[hn]);obtain⟨y,hy,g⟩:=m.get (i:=0) (a:= .int .u8 n) rfl;rw[show y=_ from g] at hy;have:=(HM.DV.Iw _ _ _ hy).1;simpa using this)
   simp only[Ao] at hl;have AI:=run_bytesToString (P:=C.P) w d ns.length cap ns hl;have k:ByteArray.empty.data=#[]:=rfl;rw[Xy,k,Array.empty_append] at AI;have f:a.eval x= .slice (some d) ns.length cap:=by rw[oX];simp
   rw[<-f] at AI;exact FG.value (Nj _ AI ⟨_,_,_,f⟩) (HM.put λ_ _=>rfl)
 .cases hp;have f:a.eval x= .slice none 0 0:=JG;have AI:(Conv.bytesToString (a.eval x)).run C.P w= .ok (.string ⟨⟨[]⟩⟩) w:=by rw[f];simp[Conv.bytesToString];rfl
  exact FG.value (Nj _ AI ⟨_,_,_,f⟩) (HM.put λ_ _=>rfl)
 .cases hp
def ui(C:FT)(f:FuncId):Prop:=
 (∃fn c,C.P.funcs[f]?=some fn/\(fn.name== "runtime.NumGoroutine")=false/\fn.body=some c)/\
 ∀(γ:Gh) (h:Ae) (w:World) (s:Aa) (d:Value) (i x:Int) (h':Ae) (r:Aa) (g b:Nat) (us:Array Value) (e:TypeId),HY γ h w->BJ γ s d->QS h [s,.int .i64 i,.sl 1 [[.int .i64 x]]]=some (h',r)->
  w.heap[g]?=some (.cells us e (0,0))->us[0]?=some (.int .i64 x)->(∀id,γ.BN g≠some (.Ng id))->1<=b->us.size=b->
  Calls C.P f #[d,.int .i64 i,.slice (some ⟨g,0,none⟩) 1 b] w λe w'=>match e with
   | .returned v=>∃γ',HY γ' h' w'/\ME γ w γ' w'/\BJ γ' r v
   |_=>False
def E2(C:FT)(run:IT->Ae->Option J7):Prop:=
 ((∀g cs,C.Hs g=some cs->cs.all Aa.Nh=true)/\∀f,C.Nf f=true->ui C f)/\
 ∀(f:FuncId) (args:List Aa) (h:Ae) (r:Aa) (h':Ae),run (B7 C f args) h=some (.ret,[r],h')->
  (∃fn c,C.P.funcs[EU f]?=some fn/\(fn.name== "runtime.NumGoroutine")=false/\fn.body=some c)/\
  ∀(γ:Gh) (w:World) (cargs:Array Value),HY γ h w->(∀g cs,C.Hs g=some cs->CU γ cs g 0)->A3 γ args cargs.toList->
   Calls C.P (EU f) cargs w λe w'=>match e with
    | .returned v=>∃γ',HY γ' h' w'/\ME γ w γ' w'/\BJ γ' r v/\(C.Kf f=true->∃s c,Jm γ' w.heap.size w' s c v r)
    |_=>False
def C4.aCk(hr:C4 C γ0 w0 γ Z U h a w){h':Ae}{r:Aa}{v:Value}(hi:HY γ' h' w')(ha:ME γ w γ' w')(i:BJ γ' r v){BN:Bool}(ho:BN=true->∃s c,Jm γ' w.heap.size w' s c v r)(d:Option Nat):
  ∃f,C4 C γ0 w0 f Z (U.put d (if BN then .BN r else .val r)) h' (a.put d v) w':=by
 cases BN with
 |false=>exact⟨γ',(hr.I8 hi ha).put λ_ _=>i⟩
 |true=>
  obtain⟨s,c,k⟩:=ho rfl;rcases k with k|⟨g,n,cap,us,e,z,As,rfl,h2,h3,m,l⟩
  .exact⟨γ',(hr.I8 hi ha).put λ_ _=>⟨i,.inl k⟩⟩
  .have j:ME γ w (γ'.FC g (.tail U.length none (n*z))) w':=⟨ha.le.trans (Hy _ _ _),ha.size,ha.os,ha.tape,ha.output,λb hb hn=>by obtain⟨p,q⟩:=ha.OF b hb hn;exact⟨p,by simp only[Gh.FC,if_neg (show b≠g by omega)];exact q⟩⟩
   have HM:=hr.I8 (hi.FC (s':=U.length) (c':=none) h3) j;exact HM.Xt (BJ.mono (Hy _ _ _) _ _ i) (.inr ⟨g,n,cap,us,e,z,As,rfl,h2,by simp[Gh.FC],Bn hr.DP.size m,l⟩) d
def It{P:Program}{f:FuncId}{fn:Func}{c:Code}(hf:P.funcs[f]?=some fn)(hname:(fn.name== "runtime.NumGoroutine")=false)(hb:fn.body=some c)(args:Array Value)(w:World):
  (callFunc f args).run P w= .ok (.enter f args) w:=by
 have hn:¬fn.name= "runtime.NumGoroutine":=by simpa using hname
 simp[callFunc,hf,hn,hb]
def S8{o:Oper}{f:FuncId}{cargs:Array Value}{K:Act->World->Prop}{Q:Exit->Act->World->Prop}(he:(execOp a.eval o).run C.P w= .ok (.enter f cargs) w){R:Value->World->Prop}
  (hc:Calls C.P f cargs w λe w'=>match e with| .returned v=>R v w'|_=>False) (hk:∀v w',R v w'->K (a.put o.dst v) w'):o.wp C.P a w K Q:=by
 unfold Oper.wp;rw[he];refine hc.mono λe w' h=>?_;cases e with
 |returned v=>exact hk v w' h
 |_=>exact h.elim
def uj{run:IT->Ae->Option J7}(i:E2 C run){o:Oper}{c:Call}{f:FuncId}{args:List Aa}{r:Aa}{h':Ae}{K:Act->World->Prop}{Q:Exit->Act->World->Prop}(ho:o.op= .call c)(hcl:c.callee= .value (.func (EU f)))(ha:Bm C U c.args.toList=some args)
  (AI:run (B7 C f args) h=some (.ret,[r],h')) (hr:C4 C γ0 w0 γ Z U h a w) (j:∀γ' v w',C4 C γ0 w0 γ' Z (U.put o.dst (if C.Kf f then .BN r else .val r)) h' (a.put o.dst v) w'->K (a.put o.dst v) w'):o.wp C.P a w K Q:=by
 obtain⟨⟨fn,k,hf,hname,hb⟩,d⟩:=i.2 f args h r h' AI;have b:A3 γ args (c.args.map a.eval).toList:=by simpa using DQ hr ha
 refine S8 (f:=EU f) (cargs:=c.args.map a.eval) ?_ (d γ w _ hr.DV hr.Hs b) λv w' ⟨γ',hi,Kk,g,Fv⟩=>?_;.have h0:a.eval (.func (EU f))= .func (.func (EU f)) #[] #[]:=rfl;simp only[execOp,ho,resolve,hcl,Deferred.ofValue,h0,Sem.run_bind,Sem.run_pure,Result.andThen_ok,invoke];simpa using It hf hname hb (c.args.map a.eval) w
 .obtain⟨e,MH⟩:=hr.aCk hi Kk g Fv o.dst;exact j e v w' MH
def Ġ{run:IT->Ae->Option J7}(N:E2 C run){o:Oper}{c:Call}{f:FuncId}{s i x:Operand}{args:List Aa}{r:Aa}{h':Ae}{K:Act->World->Prop}{Q:Exit->Act->World->Prop}(ho:o.op= .call c)(hcl:c.callee= .value (.func f))(hf:C.Nf f=true)(EJ:c.args.toList=[s,i,x])(Fv:Lu C U x=true)
  (ha:Bm C U [s,i,x]=some args) (hp:QS h args=some (h',r)) (hr:C4 C γ0 w0 γ Z U h a w) (O:∀γ' v w',C4 C γ0 w0 γ' Z (U.put o.dst (.val r)) h' (a.put o.dst v) w'->K (a.put o.dst v) w'):o.wp C.P a w K Q:=by
 obtain⟨⟨fn,cd,jR,hname,hb⟩,ġ⟩:=N.1.2 f hf;have pZ:=DQ hr ha;obtain⟨A,d,f1,g1,f2⟩:∃A d,[a.eval s,a.eval i,a.eval x]=A::d/\BJ γ (args.getD 0 .nilIface) A/\True:=by
  cases args with
  |nil=>cases pZ
  |cons y l=>obtain⟨u,us,e,p,q⟩:=pZ;exact⟨u,us,e,p,trivial⟩
 obtain⟨s',j,x',he,k,H,F⟩:∃s' j x',args=[s',.int .i64 j,.sl 1 [[.int .i64 x']]]/\∃(k:BJ γ s' (a.eval s)) (H:a.eval i= .int .i64 j),BJ γ (.sl 1 [[.int .i64 x']]) (a.eval x):=by
  unfold QS at hp;split at hp;.obtain⟨_,_,_,e,E,D,B⟩:=pZ.aH;simp only[Bd,Dz,Dq,M8] at e;obtain⟨rfl,rfl,rfl⟩:=e;exact⟨_,_,_,rfl,E,D,B⟩
  .obtain⟨_,_,_,e,E,D,B⟩:=pZ.aH;simp only[Bd,Dz,Dq,M8] at e;obtain⟨rfl,rfl,rfl⟩:=e;exact⟨_,_,_,rfl,E,D,B⟩
  .cases hp
 subst he;have oW:ER C U x=some (.sl 1 [[.int .i64 x']]):=by simp only[Bm] at ha;cases h1:ER C U s<;>cases h2:ER C U i<;>cases h3:ER C U x<;>simp_all
 obtain⟨sl,oX⟩:∃sl,D8 C U x=some sl:=by
  unfold Lu at Fv;cases hs:D8 C U x with
  |none=>rw[hs] at Fv;cases Fv
  |some sl=>exact⟨sl,rfl⟩
 have aLC:∃v,sl= .BN v:=by unfold Lu at Fv;rw[oX] at Fv;cases sl<;>first|exact⟨_,rfl⟩|cases Fv
 obtain⟨v,rfl⟩:=aLC;obtain⟨s0,hrel,_⟩:=Gd hr oX;have aLD:v= .sl 1 [[.int .i64 x']]:=by simp only[ER,oX,Ck,Eu.Hv,Bx] at oW;exact oW
 subst aLD;obtain⟨vQ,m⟩:=hrel;rcases m with(m|⟨_,m⟩)|⟨g,n,cap,us,e,z,As,h1,h2,h3,X,I,S,R,W,V⟩
 .cases m
 .cases m
 .cases h1;obtain⟨ad,L,J,e2,Y,T⟩:=F;rw[h2] at J;cases J;obtain⟨_,hm,_⟩:=T;obtain⟨⟨u,hu,G⟩,_⟩:=hm;obtain⟨JV,_,_⟩:=hr.DV.Iw _ _ _ hu;have aC:us[0]?=some (.int .i64 x'):=by rw[cell_of_row w _ _ us e (0,0) I] at JV;rw[JV];exact BQ some G
  have b:c.args.map a.eval=#[a.eval s,.int .i64 j,.slice (some ⟨g,0,none⟩) 1 cap]:=by apply HJ;simp only[NV,EJ,Bd,Dz,H,h2];rfl
  have Wu:=ġ γ h w s' _ j x' h' r g cap us e hr.DV k hp I aC (λid Iy=>by rw[h3] at Iy;cases Iy) R (by rw[S,Gm]);rw[<-b] at Wu;refine S8 (f:=f) (cargs:=c.args.map a.eval) ?_ Wu λv w' ⟨γ',hi,Kk,M⟩=>?_;.have h0:a.eval (.func f)= .func (.func f) #[] #[]:=rfl;simp only[execOp,ho,resolve,hcl,Deferred.ofValue,h0,Sem.run_bind,Sem.run_pure,Result.andThen_ok,invoke];simpa using It jR hname hb (c.args.map a.eval) w
  .obtain⟨t,MH⟩:=hr.aCk (BN:=false) hi Kk M (λe=>by cases e) o.dst;exact O t v w' (by simpa using MH)
def Gh.apart(γ:Gh):Gh:={Iw:=γ.Iw,mu:=λ_=>none,BN:=λb=>match γ.BN b with|some (.Ng _)=>none|x=>x,sz:=γ.sz}
def HY.apart(hi:HY γ h w):HY γ.apart [] w:=by
 refine⟨λb o v hb=>?_,λid x hx=>by simp at hx,λid cs hx=>by simp at hx,λid es hx=>by simp at hx,λid b hb=>(by cases hb),λb x hx=>?_,λb n hb=>?_⟩;rotate_left 2;.obtain⟨p,r⟩:=hi.sz b n hb;refine⟨p,.inl ?_⟩;simp only[Gh.apart];rcases r with r|⟨_,r⟩<;>rw[r]
 .obtain⟨p,q,r⟩:=hi.Iw b o v hb;refine⟨p,q,?_⟩;simp only[Gh.apart];rcases r with r|⟨s,c,st,r,hl⟩
  .exact .inl (by rw[r])
  .exact .inr ⟨s,c,st,by rw[r],hl⟩
 .simp only[Gh.apart] at hx;split at hx;.cases hx
  .exact hi.BN b x hx
def C4.Ģ(hr:C4 C γ0 w0 γ Z U h a w){c:Gh}{h1:Ae}(hi:HY c h1 w')(ha:ME γ.apart w c w'):∃d,C4 C γ0 w0 d Z U h a w':=by
 have Zg:∀b id,γ.apart.BN b≠some (.Ng id):=λb id e=>by
  simp only[Gh.apart] at e;split at e;.cases e
  .rename_i hn;exact hn id e
 have N2:∀b,b<w.heap.size->w'.heap[b]?=w.heap[b]?:=λb hb=>(ha.OF b hb (Zg b)).1;refine⟨γ,hr.I8 ⟨λb o v hb=>?_,hr.DV.Ng,λid cs hc b hb=>?_,λid es hc b hb=>?_,hr.DV.mu,λb x hx=>Ji (hr.DV.BN b x hx) ha.size,λb n hb=>(by
   obtain⟨⟨us,e,fr,p,q⟩,r⟩:=hr.DV.sz b n hb;exact⟨⟨us,e,fr,by rw[N2 b (AM.1 p).1];exact p,q⟩,r⟩)⟩
  ⟨.refl _,ha.size,ha.os,ha.tape,ha.output,λb hb _=>⟨N2 b hb,rfl⟩⟩⟩
 .obtain⟨p,q,r⟩:=hr.DV.Iw b o v hb;exact⟨by rw[CH (N2 b (DF p))];exact p,q,r⟩
 .obtain⟨us,e,fr,p,q⟩:=hr.DV.cells id cs hc b hb;exact⟨us,e,fr,by rw[N2 b (AM.1 p).1];exact p,q⟩
 .obtain⟨D0,clock,p,q⟩:=hr.DV.map id es hc b hb;exact⟨D0,clock,by rw[N2 b (AM.1 p).1];exact p,q⟩
def Xz{γ γ':Gh}{x:Aa}{v:Value}(hf:x.Nh=true)(b:BJ γ x v):BJ γ' x v:=by cases x<;>first|exact b|cases hf
def aQ{γ γ':Gh}:∀{l:List Aa} {us:List Value},l.all Aa.Nh=true->A3 γ l us->A3 γ' l us
 |[],us,_,h=>h
 |x::l,us,hf,h=>by obtain⟨u,DB,e,h1,h2⟩:=h;simp only[SD,A4] at hf;exact⟨u,DB,e,Xz hf.1 h1,aQ hf.2 h2⟩
def CU.apart{γ:Gh}:∀{l:List Aa} {b o:Nat},CU γ l b o->l.all Aa.Nh=true->CU γ.apart l b o
 |[],_,_,_,_=>trivial
 |x::l,b,o,h,hf=>by obtain⟨⟨u,h1,h2⟩,h3⟩:=h;simp only[SD,A4] at hf;exact⟨⟨u,h1,Xz hf.1 h2⟩,h3.apart hf.2⟩
def jj{run:IT->Ae->Option J7}(i:E2 C run){o:Oper}{c:Call}{f:FuncId}{args:List Aa}{r:Aa}{h1:Ae}{K:Act->World->Prop}{Q:Exit->Act->World->Prop}(ho:o.op= .call c)(hcl:c.callee= .value (.func (EU f)))(ha:Bm C U c.args.toList=some args)
  (hfa:args.all Aa.Nh=true) (AI:run (B7 C f args) []=some (.ret,[r],h1)) (oU:r.Nh=true) (hr:C4 C γ0 w0 γ Z U h a w) (k:∀γ' v w',C4 C γ0 w0 γ' Z (U.put o.dst (.val r)) h (a.put o.dst v) w'->K (a.put o.dst v) w'):o.wp C.P a w K Q:=by
 obtain⟨⟨fn,l,hf,hname,hb⟩,d⟩:=i.2 f args [] r h1 AI;have b:A3 γ.apart args (c.args.map a.eval).toList:=aQ hfa (by simpa using DQ hr ha);refine S8 (f:=EU f) (cargs:=c.args.map a.eval) ?_ (d γ.apart w _ hr.DV.apart (λg cs hg=>(hr.Hs g cs hg).apart (i.1.1 g cs hg)) b) λv w' ⟨γ',hi,Kk,j,_⟩=>?_;.have h0:a.eval (.func (EU f))= .func (.func (EU f)) #[] #[]:=rfl;simp only[execOp,ho,resolve,hcl,Deferred.ofValue,h0,Sem.run_bind,Sem.run_pure,Result.andThen_ok,invoke];simpa using It hf hname hb (c.args.map a.eval) w
 .obtain⟨e,MH⟩:=hr.Ģ hi Kk;exact k e v w' (MH.put λ_ _=>Xz oU j)
def jk{run:IT->Ae->Option J7}(m:E2 C run){o:Oper}{c:Call}{g:Operand}{k:Aa}{f:FuncId}{args args':List Aa}{r:Aa}{h':Ae}{K:Act->World->Prop}{Q:Exit->Act->World->Prop}(ho:o.op= .call c)(hcl:c.callee= .value g)(hg:ER C U g=some k)
  (ha:Bm C U c.args.toList=some args) (ht:CD k args=some (f,args')) (AI:run (B7 C f args') h=some (.ret,[r],h')) (hr:C4 C γ0 w0 γ Z U h a w) (n:∀γ' v w',C4 C γ0 w0 γ' Z (U.put o.dst (.val r)) h' (a.put o.dst v) w'->K (a.put o.dst v) w'):o.wp C.P a w K Q:=by
 obtain⟨⟨fn,p,hf,hname,hb⟩,b⟩:=m.2 f args' h r h' AI;have j:=Gw hr hg;unfold CD at ht;split at ht
 .rename_i f0 first captured
  split at ht;rotate_left;.cases ht
  rename_i ý;cases ht;rw[show EU f=f from if_pos ý] at hf b;obtain⟨fs,cs,HK,h1,h2⟩:=j;have d:A3 γ (first++args++captured) (fs++c.args.map a.eval++cs).toList:=by simpa using(h1.append (DQ hr ha)).append h2
  refine S8 (f:=f) (cargs:=fs++c.args.map a.eval++cs) ?_ (b γ w _ hr.DV hr.Hs d) λv w' ⟨γ',hi,Kk,l,Fv⟩=>?_;.simp only[execOp,ho,resolve,hcl,Deferred.ofValue,HK,Sem.run_bind,Sem.run_pure,Result.andThen_ok,invoke];exact It hf hname hb _ w
  .obtain⟨i,MH⟩:=hr.aCk (BN:=false) hi Kk l (λe=>by cases e) o.dst;exact n i v w' (by simpa using MH)
 .cases ht
end
end Go.Am
end
