/- Lemmas -/
import Derived.Test.YtbkijlifflhdiaaGreatDoorX4
import Derived.Deep.AppendSrc
import Derived.Great.BuildSlice
import Derived.Laws.IdiomStrings
set_option linter.all false
section
namespace Go.Am
open Go
section
variable{C:FC}{U0 U U':Gh}{w0 w w':World}{O:Nat->Nat}{Z:Bx}{h:Ah}{a:Act}{fid:FuncId}{ops:List Oper}
def C2{P:Program}{s:Sem Value}{v:Value}(hs:s.run P w= .ok v w'):(do pure (Next.value (<-s)):Sem Next).run P w= .ok (.value v) w':=by simp[hs]
def RO{J:Type}{z:Nat}:∀{Ao:List (List J)},(∀r∈Ao,r.length=z)->∀{i:Nat} {r:List J},Ao[i]?=some r->∀{j:Nat} {x:J},r[j]?=some x->Ao.flatten[i*z+j]?=some x
 |[],_,i,r,hi,_,_,_=>by simp at hi
 |q::Ao,hl,0,r,hi,j,x,hj=>by simp at hi;subst hi;have:j<q.length:=(Ae.1 hj).1;simp only[KZ,BC,Cy];rw[Al this];exact hj
 |q::Ao,hl,i+1,r,hi,j,x,hj=>by
  simp at hi;have hq:q.length=z:=hl q Aw;rw[Cy,Bp (by rw[hq,Bs];omega)];have:=RO (Ao:=Ao) (λr hr=>hl r (by simp[hr])) hi hj;rw[<-this];congr 1
  rw[hq,Bs];omega
def Gz{J:Type}{z:Nat}:∀{Ao:List (List J)},(∀r∈Ao,r.length=z)->Ao.flatten.length=Ao.length*z
 |[],_=>Aw
 |q::Ao,hl=>by have hq:q.length=z:=hl q Aw;simp[hq,Gz (Ao:=Ao) (λr hr=>hl r (by simp[hr])),Bs,KW]
def MN{Ao:List (List Aa)}{us:List Value}{z b o:Nat}(hl:∀r∈Ao,r.length=z)(hv:AS U Ao.flatten us)(hi:∀(j:Nat) (u:Value),us[j]?=some u->U.Hh b (o+j)=some u):Ey U Ao z b o:=by refine Ey.Gf λi r hr=>⟨hl r (Cb hr),CD.Gf λj x hj=>?_⟩;obtain⟨u,hu,hx⟩:=hv.get (RO hl hr hj);exact⟨u,by rw[Py];exact hi _ _ hu,hx⟩
def CH.drew(hr:CH C U0 w0 U O Z h a w):CH C U0 w0 U O Z h a w.drew:=hr.HK (hr.Dr.same rfl) (KF.drew U w)
def Bx.Rd(Z:Bx):Z.at Z.length= .undef:=by simp[Bx.at,List.getD]
def CH.TG(hr:CH C U0 w0 U O Z h a w){x:Aa}{v:Value}(hv:Bz U x v)(ho:HY U w0.heap.size w Z.length none v x)(d:Option Nat):∃U',CH C U0 w0 U' O (Z.put d (.BE x)) h (a.put d v) w:=by
 cases d with
 |none=>exact⟨U,hr⟩
 |some d=>
  rcases ho with ho|⟨g,n,cap,us,e,z,Ao,h1,h2,f,b,c⟩
  .exact⟨U,hr.put λs _=>⟨hv,.inl ho⟩⟩
  .have I7:=hr.E5 (s':=d) (c':=none) f b (λ_ u=>by rw[Bx.Rd];simp) (λo ho=>by cases ho);exact⟨_,I7.put λs hs=>by cases hs;exact⟨Bz.mono (Gw _ _ _) _ _ hv,.inr ⟨g,n,cap,us,e,z,Ao,h1,h2,by simp[Gh.E5],b,c⟩⟩⟩
def CH.TH(hr:CH C U0 w0 U O Z h a w)(us:Array Value)(e:TypeId){z n cap:Nat}{Ao:List (List Aa)}(hz:0<z)(hn:Ao.length=n)(hl:∀r∈Ao,r.length=z)(VW:us.size=cap*z)(hc:n<=cap)(hm:cap<=maxLen)
  (hv:AS U Ao.flatten (us.toList.take (n*z))) (h1:∀u∈us.toList.take (n*z),u.oneCell'=true):
  ∃U',U.le U'/\CH C U0 w0 U' O Z h a (w.alloc (.cells us e))/\Bz U' (.sl z Ao) (.slice (some ⟨w.heap.size,0,none⟩) n cap)/\HY U' w0.heap.size (w.alloc (.cells us e)) Z.length none (.slice (some ⟨w.heap.size,0,none⟩) n cap) (.sl z Ao):=by
 obtain⟨hi,ha⟩:=Nt hr.Dr us e (0,0) (n*z) (some (.tail Z.length none (n*z))) (λo u ho hu=>h1 u (Cb (i:=o) (by rw[CA ho];simpa using hu))) (.inr (.inl ⟨_,_,rfl⟩));refine⟨_,ha.le,hr.HK hi ha,⟨⟨w.heap.size,0,none⟩,cap,by rw[hn],Ab,.inl rfl,MN hl (AS.mono ha.le _ _ hv) λj u hj=>?_⟩,.inr ⟨w.heap.size,n,cap,us,e,z,Ao,rfl,rfl,by simp[Gh.CT],hr.Dq.size,heap_alloc_new w _,VW,hc,hm,hz⟩⟩;rw[B3] at hj;split at hj;.rename_i hlt;simp only[Gh.CT,BH,BC,Ad hlt];simpa using hj
 .cases hj
def TI{size:Nat}:∀(vs:List Value) (k:Nat) (cells:Array Value),(∀v∈vs,v.cells.size=size)->(k+vs.length)*size<=cells.size->
  Instr.fill (λi=>some (i*size,size)) cells ((vs.zipIdx k).map λp=>(p.2,p.1))=some (cells.toList.take (k*size)++vs.flatMap (·.cells.toList)++cells.toList.drop ((k+vs.length)*size)).toArray
 |[],k,cells,_,_=>by simp[Instr.fill]
 |v::vs,k,cells,hv,hl=>by
  have hs:v.cells.size=size:=hv v Aw;simp only[AU] at hl;have Eg:(k+1)*size+vs.length*size<=cells.size:=by rw[<-Bs];exact Bm (KY (by congr 1;omega)) hl
  have Y3:(k+1)*size=k*size+size:=by rw[Bs,Ef]
  simp only[gX,Bi,Instr.fill];have f:¬(v.cells.size≠size\/k*size+v.cells.size>cells.size):=by rw[hs];omega
  simp only[CC,decide_not,So,C9,aGJ,decide_eq_false_iff_not] at*;rw[Ac f];have hf:=MK v.cells.toList (k*size) 0 cells (by simp[hs];omega);have aBD:v.cells.zipIdx.foldl (λcs (c,j)=>cs.setIfInBounds (k*size+j) c) cells=(cells.toList.take (k*size)++v.cells.toList++cells.toList.drop (k*size+size)).toArray:=by rw[<-aEO,aBs];rw[hf];simp[hs]
  rw[aBD];have hlen:(cells.toList.take (k*size)++v.cells.toList++cells.toList.drop (k*size+size)).length=cells.size:=by simp[hs];omega
  rw[TI vs (k+1) _ (λu hu=>hv u (by simp[hu])) (by simp only[BP];rw[hlen,Bs];exact Eg)]
  congr 2
  have b:(cells.toList.take (k*size)++v.cells.toList).length=(k+1)*size:=by simp[hs];omega
  have e:(cells.toList.take (k*size)++v.cells.toList++cells.toList.drop (k*size+size)).take ((k+1)*size)=cells.toList.take (k*size)++v.cells.toList:=by rw[<-b];exact Es
  have d:(cells.toList.take (k*size)++v.cells.toList++cells.toList.drop (k*size+size)).drop ((k+1+vs.length)*size)=cells.toList.drop ((k+(vs.length+1))*size):=by
   rw[QM,Bd (by rw[b];exact DM _ Ab),b,DL,BG];congr 1
   have:(k+1+vs.length)*size-(k+1)*size=vs.length*size:=by rw[Bs (k+1)];omega
   rw[this,Bs k,Bs vs.length];omega
  rw[e,d];simp
def JP{P:Program}{t:TypeId}(h:KE P t=true):∃i z,P.info? t=some i/\i.zero=some z/\z.cells.size=i.size:=by
 unfold KE at h;split at h
 .rename_i i hi;split at h;.rename_i z hz;exact⟨i,z,hi,hz,by simpa using h⟩
  .cases h
 .cases h
def Iu{P:Program}{t:TypeId}{n:Nat}{i:TypeInfo}(h:BJ P t=some n)(hi:P.info? t=some i):i.size=n:=by simpa[BJ,hi] using h
def Ko{P:Program}{t:TypeId}{n:Nat}{i:TypeInfo}(h:IK P t=some n)(hi:P.info? t=some i):i.bytes=n:=by simpa[IK,hi] using h
def TJ:∀{args:List Aa} {us:List Value} {z:Nat},AS U args us->(∀x∈args,x.cells.length=z)->0<z->AS U (args.map (·.cells)).flatten (us.flatMap (·.cells.toList))/\(∀u∈us.flatMap (·.cells.toList),u.oneCell'=true)/\∀u∈us,u.cells.size=z
 |[],us,z,h,_,_=>by rw[AS] at h;subst h;exact⟨rfl,Aw,Aw⟩
 |x::args,us,z,h,hl,hz=>by
  obtain⟨u,C6,rfl,h1,h2⟩:=h;have hx:=hl x Aw;obtain⟨b,e⟩:=Gx h1 Ab;obtain⟨d,r2,c⟩:=TJ h2 (λy hy=>hl y (by simp[hy])) hz;refine⟨by simpa using b.append d,λv hv=>?_,λv hv=>?_⟩;.simp only[List.flatMap_cons,Ak] at hv;exact hv.elim (e v) (r2 v)
  .rcases Az.1 hv with rfl|hv
   .have:=b.length;simp at this;omega
   .exact c v hv
def Wb{a:Act}:∀{l:List (Nat×Operand)} {k:Nat},l.map (·.1)=List.range' k l.length->l.map (λp=>(p.1,a.eval p.2))=((l.map λp=>a.eval p.2).zipIdx k).map λp=>(p.2,p.1)
 |[],k,_=>Aw
 |(i,x)::l,k,h=>by simp only[Bi,AU,List.range'_succ,FO] at h;obtain⟨rfl,h⟩:=h;simp[gX,Wb h]
def rI{o:Oper}{t e:TypeId}{len n:Nat}{parts:Array (Nat×Operand)}{args:List Aa}{u:Aa}(ho:o.op= .buildSlice t len parts)(ht:C.P.underlying t=some (.slice e))(J3:BJ C.P e=some (n+1))(hp:parts.toList.map (·.1)=List.range len)(YJ:KE C.P e=true)
  (ha:Be C Z (parts.toList.map (·.2))=some args) (hu:Ay (.Cf (n+1)) args=some u) (hr:CH C U0 w0 U O Z h a w):Fc C U0 w0 o a w (Z.put o.dst (.BE u)) h:=by
 obtain⟨i,z,hi,hz,Xq⟩:=JP YJ;have OE:=Iu J3 hi;simp only[Ay] at hu;split at hu
 .rename_i hc;cases hu;simp only[Bt,EG,xS,C9] at hc;obtain⟨Vt,JB⟩:=hc;have El:=Ds hr ha;have hlen:parts.toList.length=len:=by have:=Ca List.length hp;simpa using this
  have Xr:args.length=len:=by have:=El.length;simp at this;simp at hlen;omega
  obtain⟨c,f,d⟩:=TJ El Vt (CE n);have Wc:=c.length;rw[Gz (z:=n+1) (by intro r hr;obtain⟨x,hx,rfl⟩:=AZ.1 hr;exact Vt x hx),As,Xr] at Wc;have AE:∃cells:Array Value,cells.toList=(parts.toList.map (·.2) |>.map a.eval).flatMap (·.cells.toList)/\(Instr.buildSlice t len (parts.map λ(i,x)=>(i,a.eval x))).run C.P w= .ok (.slice (some ⟨w.heap.size,0,none⟩) len len) (w.alloc (.cells cells e)):=by
   have mQ:(parts.map λ(i,x)=>(i,a.eval x)).toList=(((parts.toList.map (·.2)).map a.eval).zipIdx 0).map λp=>(p.2,p.1):=by have:=Wb (a:=a) (l:=parts.toList) (k:=0) (by rw[hlen,<-aAC];exact hp);simp only[LQ,List.map_map];exact this
   have iL:=TI (size:=n+1) ((parts.toList.map (·.2)).map a.eval) 0 ((Array.range (len*(n+1))).map (z.cells[·%z.cells.size]!)) d (by simp at hlen⊢;rw[hlen];exact Af _);rw[<-mQ] at iL;have e0:((Array.range (len*(n+1))).map (z.cells[·%z.cells.size]!)).toList.drop ((0+((parts.toList.map (·.2)).map a.eval).length)*(n+1))=[]:=by apply Bd;simp at hlen⊢;rw[hlen];exact Af _
   rw[e0] at iL;simp only[KZ,N8,BG,BQ] at iL;refine⟨_,rfl,?_⟩;by_cases h0:len*(n+1)=0
   .have yW:len=0:=by
     rcases Nat.mul_eq_zero.1 h0 with h|h
     .exact h
     .omega
    subst yW;have px:parts=#[]:=by apply Ht;simpa using hlen
    subst px;have b:(Array.range 0:Array Nat)=#[]:=rfl;simp[Instr.buildSlice,run_underlying ht,sizeOf,typeInfo,hi,newRow,Instr.fill,b]
   .exact run_buildSlice w t e len _ _ i z ht hi hz (by rw[OE];rw[Xr] at JB;omega) (by rw[OE];exact h0) (by rw[OE];exact iL)
  obtain⟨cells,hcells,AE⟩:=AE;have hcs:cells.size=len*(n+1):=by rw[<-B0,hcells];exact Wc
  obtain⟨U',Eg,GH,Ig,EZ⟩:=hr.TH cells e (z:=n+1) (n:=len) (cap:=len) (Ao:=args.map (·.cells)) (CE n) (by simp[Xr]) (by intro r hr;obtain⟨x,hx,rfl⟩:=AZ.1 hr;exact Vt x hx) hcs (Af _)
   (by rw[Xr] at JB;have:len<=len*(n+1):=Hu _ (CE n);simp only[maxLen];omega) (by rw[hcells,AR (by rw[Wc];exact Af _)];exact c) (by rw[hcells,AR (by rw[Wc];exact Af _)];exact f)
  obtain⟨g,Lj⟩:=GH.TG Ig EZ o.dst;exact Fc.value (by simp only[execOp,ho];exact C2 AE) Lj
 .cases hu
def rJ{o:Oper}{t e:TypeId}{len n:Nat}{parts:Array (Nat×Operand)}(ho:o.op= .buildSlice t len parts)(ht:C.P.underlying t=some (.slice e))(J3:BJ C.P e=some (n+1))(hp:parts.toList.map (·.1)=List.range len)(YJ:KE C.P e=true)(h0:len=0)
  (hr:CH C U0 w0 U O Z h a w):Fc C U0 w0 o a w (Z.put o.dst (.BE (.Fq (n+1)))) h:=by
 subst h0;obtain⟨i,z,hi,hz,Xq⟩:=JP YJ;have px:parts=#[]:=by apply Ht;have:=Ca List.length hp;simpa using this
 subst px;have b:(Array.range 0:Array Nat)=#[]:=rfl;have AE:(Instr.buildSlice t 0 ((#[]:Array (Nat×Operand)).map λ(i,x)=>(i,a.eval x))).run C.P w= .ok (.slice (some ⟨w.heap.size,0,none⟩) 0 0) (w.alloc (.cells #[] e)):=by simp[Instr.buildSlice,run_underlying ht,sizeOf,typeInfo,hi,newRow,Instr.fill,b]
 obtain⟨U',Eg,GH,_,_⟩:=hr.TH #[] e (z:=n+1) (n:=0) (cap:=0) (Ao:=[]) (CE n) rfl Aw Aw (Af _) (by simp[maxLen]) (by rw[KZ];exact(rfl:AS U [] [])) Aw;obtain⟨c,Lj⟩:=GH.TG (x:= .Fq (n+1)) (v:= .slice (some ⟨w.heap.size,0,none⟩) 0 0) ⟨_,rfl⟩ (.inl (.inr ⟨_,rfl⟩)) o.dst;exact Fc.value (by simp only[execOp,ho];exact C2 AE) Lj
def iP{t':TypeId}{size bytes:Nat}{v u r:Aa}{d:Value}(HO:(∃i,C.P.underlying t'=some (.slice i))\/C.P.underlying t'=some .string)(hi:GO U h w)(hu:Bz U u d)(hp:GP size bytes v u=some r):
  ∃(Ao:List (List Aa)) (news:List Value),C4 size bytes v Ao=some r/\Src C.P size t' d Ao.length news w/\AS U Ao.flatten news/\(∀r∈Ao,r.length=size):=by
 unfold GP at hp;split at hp;.rw[show d=_ from hu];exact⟨[],[],hp,⟨HO,λ_=>rfl,run_firstCells_none w size 0 0 0,run_firstCells_none w.drew size 0 0 0,Aw,Aw⟩,rfl,Aw⟩
 .rename_i z;split at hp;.obtain⟨b,yX⟩:=hu;rw[yX];exact⟨[],[],hp,⟨HO,λ_=>rfl,run_firstCells_some w _ _ _ _ _ [] Aw (λj x hj=>by simp at hj),run_firstCells_some w.drew _ _ _ _ _ [] Aw (λj x hj=>by simp at hj),Aw,Aw⟩,rfl,Aw⟩
  .cases hp
 .rename_i z Ao;split at hp
  .rename_i hz;subst hz;obtain⟨c,cap,yX,NA,hsp,hR⟩:=hu;obtain⟨us,g,e,f⟩:=hR.values;have L7:∀(j:Nat) (x:Value),us[j]?=some x->c.add j=⟨c.block,c.off+j,none⟩:=λj x hj=>by
    have hpos:0<Ao.length:=by
     rcases Kf Ao.length with h0|h0
     .have:us.length=0:=by rw[e,h0,KZ]
      rw[CB this] at hj;simp at hj
     .exact h0
    have cL:=MD hsp NA hpos;generalize c.block=b at*;generalize c.off=o at*;subst cL;unfold Addr.add;split<;>simp_all
   rw[yX];refine⟨Ao,us,hp,⟨HO,λ_=>rfl,run_firstCells_some w _ _ _ _ _ us e (λj x hj=>by rw[L7 j x hj];exact(hi.Hh _ _ _ (f j x hj)).1),run_firstCells_some w.drew _ _ _ _ _ us e (λj x hj=>by rw[L7 j x hj];exact(hi.Hh _ _ _ (f j x hj)).1),e,λx hx=>?_⟩,g,λr hr=>?_⟩;.obtain⟨j,hj⟩:=Cq hx;exact(hi.Hh _ _ _ (f j x hj)).2.1
   .obtain⟨j,hj⟩:=Cq hr;exact(hR.get hj).1
  .cases hp
 .rename_i s;split at hp
  .rename_i hz;subst hz;rw[show d=_ from hu];have hlen:(CI s).length=(⟨⟨s⟩⟩:ByteArray).size:=by simp[CI,ByteArray.size]
   have hrel:∀l:List UInt8,AS U (CI l).flatten (l.map λb=>Value.int .u8 b.toNat):=by
    intro l;induction l with
    |nil=>rfl
    |cons b l ih=>exact⟨_,_,rfl,rfl,ih⟩
   refine⟨CI s,byteCells ⟨⟨s⟩⟩,hp,?_,?_,λr hr=>?_⟩;.rw[hlen];exact⟨HO,λ_=>rfl,firstCells_string _ w,firstCells_string _ w.drew,by rw[byteCells_length,Gp],λu hu=>by obtain⟨_,_,rfl⟩:=AZ.1 hu;rfl⟩
   .simpa[byteCells] using hrel s
   .obtain⟨b,_,rfl⟩:=AZ.1 hr;rfl
  .cases hp
 .cases hp
def CH.rK(hr:CH C U0 w0 U O Z h a w){g n cap z:Nat}{us:Array Value}{e:TypeId}{rr Ao:List (List Aa)}{news:List Value}(EZ:U.BE g=some (.tail Z.length none (n*z)))(hB:w0.heap.size<=g)(hg:w.heap[g]?=some (.cells us e (0,0)))
  (VW:us.size=cap*z) (hm:cap<=maxLen) (hz:0<z) (hv:Bz U (.sl z rr) (.slice (some ⟨g,0,none⟩) n cap)) (hl:∀r∈Ao,r.length=z) (hn:AS U Ao.flatten news) (h1:∀u∈news,u.oneCell'=true) (hroom:n+Ao.length<=cap):
  ∃U',U.le U'/\CH C U0 w0 U' O Z h a (w.setRow g (us.toList.take (n*z)++news++us.toList.drop (n*z+news.length)).toArray)/\Bz U' (.sl z (rr++Ao)) (.slice (some ⟨g,0,none⟩) (n+Ao.length) cap)/\
   HY U' w0.heap.size (w.setRow g (us.toList.take (n*z)++news++us.toList.drop (n*z+news.length)).toArray) Z.length none (.slice (some ⟨g,0,none⟩) (n+Ao.length) cap) (.sl z (rr++Ao)):=by
 obtain⟨q,cap',Zf,NA,_,hR⟩:=hv;simp only[Value.slice.injEq,BB] at Zf;obtain⟨rfl,rfl,rfl⟩:=Zf;simp only at hR;have OF:news.length=Ao.length*z:=by rw[hn.length,Gz hl]
 have hfit:(rr.length+Ao.length)*z<=us.size:=by rw[VW];exact DM _ hroom
 rw[Bs] at hfit;have Á:(us.toList.take (rr.length*z)).length=rr.length*z:=ER;obtain⟨vs,l,p,k⟩:=hR.values;have hvs:vs=us.toList.take (rr.length*z):=by
  apply O0;intro j;by_cases hj:j<rr.length*z
  .have c:j<vs.length:=by rw[p];exact hj
   have hc:=(hr.Dr.Hh _ _ _ (k j _ (Ai c))).1;rw[cell_of_row w _ _ us e (0,0) hg,BC] at hc;rw[Ai c,CA hj];simpa using hc.symm
  .rw[C3 Ab,C3 (by rw[Á];omega)]
 rw[hvs] at l;have Xs:∀u∈us.toList.take (rr.length*z),u.oneCell'=true:=λu hu=>by rw[<-hvs] at hu;obtain⟨j,hj⟩:=Cq hu;exact(hr.Dr.Hh _ _ _ (k j u hj)).2.1
 have d:(rr.length+Ao.length)*z=rr.length*z+Ao.length*z:=Bs _ _ _;have jz:((us.toList.take (rr.length*z)++news++us.toList.drop (rr.length*z+news.length)).toArray).toList.take ((rr.length+Ao.length)*z)=us.toList.take (rr.length*z)++news:=by
  have:(us.toList.take (rr.length*z)++news).length=(rr.length+Ao.length)*z:=by rw[Ap,Á,OF,d]
  rw[<-this];exact Es
 have J3:(us.toList.take (rr.length*z)++news++us.toList.drop (rr.length*z+news.length)).length=us.size:=by simp[OF];omega
 generalize m:(us.toList.take (rr.length*z)++news++us.toList.drop (rr.length*z+news.length)).toArray=C6 at*;have aBF:C6.size=us.size:=by rw[<-m];simpa using J3
 obtain⟨hi,Eg⟩:=cF hr.Dr EZ hg C6 ((rr.length+Ao.length)*z) Z.length none (λo ho=>by
   rw[<-m,AB,List.getElem?_toArray,Al Ab,CA ho];simp)
  Ab (λo u ho hu=>by
   have:u∈C6.toList.take ((rr.length+Ao.length)*z):=by refine Cb (i:=o) ?_;rw[CA ho];simpa using hu
   rw[jz,Ak] at this;exact this.elim (Xs u) (h1 u)) (λo v hv=>by
   have:=(hr.Dr.Hh _ _ _ hv).1;rwa [cell_of_row w _ _ us e (0,0) hg] at this)
 have hk:Oh g U w (U.CT g C6 ((rr.length+Ao.length)*z) (some (.tail Z.length none ((rr.length+Ao.length)*z)))) (w.setRow g C6):=
  ⟨Eg,λb x hb hx _=>⟨by simp only[Gh.CT,Ac hb];exact hx,setRow_other w g b C6 hb⟩⟩
 have f:Ey (U.CT g C6 ((rr.length+Ao.length)*z) (some (.tail Z.length none ((rr.length+Ao.length)*z)))) (rr++Ao) z g 0:=by
  refine MN (us:=C6.toList.take ((rr.length+Ao.length)*z)) (λr hr=>?_) ?_ (λj u hj=>?_)
  .rcases Ak.1 hr with hr|hr
   .obtain⟨i,hi⟩:=Cq hr;exact(hR.get hi).1
   .exact hl r hr
  .rw[jz,Ju];exact(AS.mono Eg _ _ l).append (AS.mono Eg _ _ hn)
  .rw[B3] at hj;split at hj;.rename_i hlt;simp only[Gh.CT,BH,BC,Ad hlt];simpa using hj
   .cases hj
 refine⟨_,Eg,⟨hi,⟨hr.fr.size,λs=>?_⟩,hr.Dq.write (g:=g) hB Eg Aw rfl rfl rfl (λb hb=>⟨setRow_other w g b C6 hb,by simp only[Gh.CT,Ac hb]⟩),hr.defers,λx cs hx=>CD.mono Eg _ _ _ (hr.Gq x cs hx)⟩,
  ⟨⟨g,0,none⟩,cap,Aw,by simpa using hroom,.inl rfl,f⟩,.inr ⟨g,rr.length+Ao.length,cap,C6,e,z,rr++Ao,rfl,rfl,by simp[Gh.CT],hB,setRow_heap w g us C6 e (0,0) hg,by rw[aBF,VW],hroom,hm,hz⟩⟩
 by_cases hs:s=Z.length;.subst hs;rw[Bx.Rd];trivial
 .exact(hr.fr.Hd s).keptBut EZ hk (by simp only[Jd.cB];intro hx;cases hx;exact hs rfl)
def MO{t t' ty:TypeId}{ts:Array TypeId}{xs:Array Value}(h0:ts[0]?=some t)(h1:ts[1]?=some t'):Builtin.append_ ts ty xs=Builtin.append_ #[t,t'] ty xs:=by simp only[Builtin.append_,h0,h1];rfl
def AS.yY{l:List Aa}{us:List Value}{n:Nat}(h:AS U l us)(hn:us.length<=n):AS U l (us.take n):=by rw[AR hn];exact h
def L8{cs:List Aa}{z:Nat}:∀{n off:Nat},(Cg cs z off n).flatten=(cs.drop off).take (n*z)
 |0,off=>by simp[Cg]
 |n+1,off=>by rw[Cg,Cy,L8,Bs,Ef,KW (n*z) z,jk,DL]
def Nb{cs:List Aa}{z:Nat}:∀{n off:Nat},(Cg cs z off n).length=n
 |0,off=>rfl
 |n+1,off=>by rw[Cg,AU,Nb]
def OO{cs:List Aa}{z:Nat}:∀{n off:Nat},off+n*z<=cs.length->∀r∈Cg cs z off n,r.length=z
 |0,off,_,r,hr=>by simp[Cg] at hr
 |n+1,off,hl,r,hr=>by
  rw[Bs,Ef] at hl;rw[Cg,Az] at hr;rcases hr with rfl|hr
  .rw[Au,AV];omega
  .exact OO Ab r hr
def TK{t':TypeId}{size:Nat}{u:Aa}{g:Value}{Ao:List (List Aa)}(HO:(∃m,C.P.underlying t'=some (.slice m))\/C.P.underlying t'=some .string)(hi:GO U h w)(hu:Bz U u g)(hp:Gv h size u=some Ao):
  ∃news:List Value,Src C.P size t' g Ao.length news w/\AS U Ao.flatten news/\(∀r∈Ao,r.length=size):=by
 unfold Gv at hp;split at hp;.cases hp;rw[show g=_ from hu];exact⟨[],⟨HO,λ_=>rfl,run_firstCells_none w size 0 0 0,run_firstCells_none w.drew size 0 0 0,Aw,Aw⟩,rfl,Aw⟩
 .rename_i z;split at hp;.cases hp;obtain⟨b,yX⟩:=hu;rw[yX];exact⟨[],⟨HO,λ_=>rfl,run_firstCells_some w _ _ _ _ _ [] Aw (λj x hj=>by simp at hj),run_firstCells_some w.drew _ _ _ _ _ [] Aw (λj x hj=>by simp at hj),Aw,Aw⟩,rfl,Aw⟩
  .cases hp
 .rename_i z i;split at hp
  .rename_i hz;cases hp;subst hz;obtain⟨f,cap,yX,NA,hsp,hR⟩:=hu;obtain⟨us,k,c,d⟩:=hR.values;have L7:∀(j:Nat) (x:Value),us[j]?=some x->f.add j=⟨f.block,f.off+j,none⟩:=λj x hj=>by
    have hpos:0<Ao.length:=by
     rcases Kf Ao.length with h0|h0
     .have:us.length=0:=by rw[c,h0,KZ]
      rw[CB this] at hj;simp at hj
     .exact h0
    have cL:=MD hsp NA hpos;generalize f.block=b at*;generalize f.off=o at*;subst cL;unfold Addr.add;split<;>simp_all
   rw[yX];refine⟨us,⟨HO,λ_=>rfl,run_firstCells_some w _ _ _ _ _ us c (λj x hj=>by rw[L7 j x hj];exact(hi.Hh _ _ _ (d j x hj)).1),run_firstCells_some w.drew _ _ _ _ _ us c (λj x hj=>by rw[L7 j x hj];exact(hi.Hh _ _ _ (d j x hj)).1),c,λx hx=>?_⟩,k,λr hr=>?_⟩;.obtain⟨j,hj⟩:=Cq hx;exact(hi.Hh _ _ _ (d j x hj)).2.1
   .obtain⟨j,hj⟩:=Cq hr;exact(hR.get hj).1
  .cases hp
 .rename_i s;split at hp
  .rename_i hz;cases hp;subst hz;rw[show g=_ from hu];have hlen:(CI s).length=(⟨⟨s⟩⟩:ByteArray).size:=by simp[CI,ByteArray.size]
   have hrel:∀l:List UInt8,AS U (CI l).flatten (l.map λb=>Value.int .u8 b.toNat):=by
    intro l;induction l with
    |nil=>rfl
    |cons b l ih=>exact⟨_,_,rfl,rfl,ih⟩
   refine⟨byteCells ⟨⟨s⟩⟩,?_,?_,λr hr=>?_⟩;.rw[hlen];exact⟨HO,λ_=>rfl,firstCells_string _ w,firstCells_string _ w.drew,by rw[byteCells_length,Gp],λu hu=>by obtain⟨_,_,rfl⟩:=AZ.1 hu;rfl⟩
   .simpa[byteCells] using hrel s
   .obtain⟨b,_,rfl⟩:=AZ.1 hr;rfl
  .cases hp
 .rename_i id off n z;split at hp
  .rename_i hz;subst hz;split at hp
   .rename_i cs hcs;split at hp
    .rename_i hl;cases hp;obtain⟨b,cap,hb,yX,NA,xX,J3⟩:=hu;obtain⟨us,e,fr,k,pf,c,d⟩:=hi.cells id cs hcs b hb;have YI:(us.toList.take cs.length).length=cs.length:=c.length;have OF:(((us.toList.take cs.length).drop off).take (n*z)).length=n*z:=by rw[Au,AV,YI];omega
     have L7:∀j,(⟨b,off,none⟩:Addr).add j=⟨b,off+j,none⟩:=λj=>by unfold Addr.add;split<;>simp_all
     have It:∀(j:Nat) (x:Value),(((us.toList.take cs.length).drop off).take (n*z))[j]?=some x->w.cell? ((⟨b,off,none⟩:Addr).add j)=some x:=λj x hj=>by
      rw[L7,cell_of_row w _ _ us e fr k];rw[B3] at hj;split at hj
      .rw[Cm,B3] at hj;split at hj;.simpa using hj
       .cases hj
      .cases hj
     rw[yX,Nb];refine⟨((us.toList.take cs.length).drop off).take (n*z),⟨HO,λ_=>rfl,run_firstCells_some w _ _ _ _ _ _ OF It,run_firstCells_some w.drew _ _ _ _ _ _ OF (λj x hj=>It j x hj),OF,λx hx=>d x (A6 (AN hx))⟩,?_,OO hl⟩;rw[L8];exact(c.drop off).take (n*z)
    .cases hp
   .cases hp
  .cases hp
 .cases hp
def Nc{o:Oper}{c:Call}{t t' e:TypeId}{n b:Nat}{s x:Operand}{v u r:Aa}{Ao:List (List Aa)}{news:List Value}(ho:o.op= .call c)(hc:c.callee= .builtin .append)(h0:c.argTypes[0]?=some t)(h1:c.argTypes[1]?=some t')(El:c.args.toList=[s,x])(ht:C.P.underlying t=some (.slice e))
  (HO:(∃D,C.P.underlying t'=some (.slice D))\/C.P.underlying t'=some .string) (J3:BJ C.P e=some (n+1)) (rL:IK C.P e=some (b+1)) (EZ:JK C Z s=true) (YJ:KE C.P e=true) (hv:Be C Z [s,x]=some [v,u])
  (H5:C4 (n+1) (b+1) v Ao=some r) (I9:Src C.P (n+1) t' (a.eval x) Ao.length news w) (SX:AS U Ao.flatten news) (cU:∀q∈Ao,q.length=n+1) (hr:CH C U0 w0 U O Z h a w):Fc C U0 w0 o a w ((Z.Da (CR Z s)).put o.dst (.BE r)) h:=by
 obtain⟨i,z,hi,hz,Xq⟩:=JP YJ;have OE:=Iu J3 hi;have py:=Ko rL hi;obtain⟨_,_,e0,hvs,bN⟩:=ED hr hv;cases e0;have yV:Ex C Z s=some v:=by
  unfold Be at hv;split at hv;.rename_i p ps A F;cases hv;exact A
  .cases hv
 obtain⟨U1,Eg,I7,Ig,J⟩:=Nz hr EZ yV (Z.Da (CR Z s)).length none;have rM:=AS.mono Eg _ _ SX;have I8:c.args.map a.eval=#[a.eval s,a.eval x]:=by apply GC;simp[El]
 have K8:∀v' w',(Builtin.append_ #[t,t'] o.type #[a.eval s,a.eval x]).run C.P w= .ok v' w'->(execOp a.eval o).run C.P w= .ok (.value v') w':=λv' w' AE=>by
  have:execOp a.eval o=(do pure (Next.value (<-Builtin.append_ #[t,t'] o.type #[a.eval s,a.eval x]))):=by rw[<-I8,<-MO (ty:=o.type) h0 h1];simp only[execOp,ho,resolve,hc];rfl
  rw[this];exact C2 AE
 have IQ:Src C.P i.size t' (a.eval x) Ao.length news w:=by rw[OE];exact I9
 have OF:news.length=Ao.length*(n+1):=I9.newsLen;have FJ:∀(base:Option Addr) (k cap:Nat) (rr:List (List Aa)) (olds:List Value),a.eval s= .slice base k cap->rr.length=k->(∀q∈rr,q.length=n+1)->AS U1 rr.flatten olds->(∀q∈olds,q.oneCell'=true)->
   (Builtin.firstCells i.size k (.slice base k cap)).run C.P w.drew= .ok olds.toArray w.drew->cap<k+Ao.length->(k+Ao.length)*(b+1)<=AQ->r= .sl (n+1) (rr++Ao)->
   Fc C U0 w0 o a w ((Z.Da (CR Z s)).put o.dst (.BE r)) h:=by
  intro base k cap rr olds hs hk l bO pq d hlt QX RP;have PR:k+Ao.length<=AQ:=Bm (Hu _ (CE b)) QX;have FX:=run_append_grow_src (P:=C.P) w t t' o.type e i z ht hi hz base k cap olds d (a.eval x) Ao.length news IQ hlt (by simp only[AQ] at PR;omega) (by rw[py];exact growslice_fits hlt QX);rw[<-hs] at FX;have GW:=grownCap_ge w (k+Ao.length) cap e;have aBG:olds.length=k*(n+1):=by rw[bO.length,Gz l,hk]
  have mX:(olds++news).length=(k+Ao.length)*(n+1):=by rw[Ap,aBG,OF,Bs]
  obtain⟨M,Zc,Lj,Zd,f⟩:=I7.drew.TH ((olds++news).toArray++Builtin.zeroCells z.cells (grownCap w (k+Ao.length) cap e-(k+Ao.length))) e (z:=n+1) (n:=k+Ao.length) (cap:=grownCap w (k+Ao.length) cap e) (Ao:=rr++Ao) (CE n) (by simp[hk])
   (λq hq=>(Ak.1 hq).elim (l q) (cU q))
   (by simp only[IE,BP,size_zeroCells,Xq,OE,mX,<-Bs];congr 1;omega) GW (grownCap_le_maxLen w _ _ _ (by simp only[AQ] at PR;simp only[maxLen];omega))
   (by simp only[Gb,Ju];rw[<-mX,Es];exact bO.append rM)
   (λq hq=>by simp only[Gb] at hq;rw[<-mX,Es,Ak] at hq;exact hq.elim (pq q) (I9.one q))
  rw[RP];obtain⟨L,Â⟩:=Lj.TG Zd f o.dst;exact Fc.value (K8 _ _ FX) Â
 rcases J with(rfl|⟨m,rfl⟩)|⟨g,k,cap,us,G,m,rr,rfl,Ih,QW,hB,hg,VW,yZ,hm,I⟩
 .have Ih:a.eval s= .slice none 0 0:=Ig;cases Ao with
  |nil=>
   have RP:r= .slnil:=by simpa[C4] using H5.symm
   have q9:news=[]:=CB (by simpa using OF);subst q9;have AE:(Builtin.append_ #[t,t'] o.type #[a.eval s,a.eval x]).run C.P w= .ok (.slice none 0 0) w:=by rw[Ih];have hl:=IQ.len;have SY:=IQ.cells;simp only[BK] at hl SY;rcases HO with⟨D,hk⟩|hk<;>simp[Builtin.append_,run_underlying ht,run_underlying hk,sizeOf,typeInfo,hi,hl,SY]
   rw[RP];exact Fc.value (K8 _ _ AE) (I7.put λ_ _=>⟨rfl,.inl (.inl rfl)⟩)
  |cons q Ao=>
   have NB:r= .sl (n+1) (q::Ao)/\(q::Ao).length*(b+1)<=AQ:=by
    simp only[C4] at H5;split at H5;.rename_i hb;cases H5;exact⟨rfl,hb⟩
    .cases H5
   exact FJ none 0 0 [] [] Ih rfl Aw rfl Aw (run_firstCells_none _ _ _ _ _) Aw (by simpa using NB.2) (by simpa using NB.1)
 .obtain⟨g,Ih⟩:=id Ig;cases Ao with
  |nil=>
   have RP:m=n+1/\r= .Fq m:=by
    simp only[C4] at H5;split at H5;.rename_i Vl;cases H5;exact⟨Vl,by rw[Vl]⟩
    .cases H5
   obtain⟨rfl,RP⟩:=RP;have q9:news=[]:=CB (by simpa using OF);subst q9;have AE:(Builtin.append_ #[t,t'] o.type #[a.eval s,a.eval x]).run C.P w= .ok (.slice (some ⟨g,0,none⟩) 0 0) w:=by rw[Ih];have hl:=IQ.len;have SY:=IQ.cells;simp only[BK] at hl SY;rcases HO with⟨D,hk⟩|hk<;>simp[Builtin.append_,run_underlying ht,run_underlying hk,sizeOf,typeInfo,hi,hl,SY,storeCells,Result.andThen]
   rw[RP];exact Fc.value (K8 _ _ AE) (I7.put λ_ _=>⟨⟨g,rfl⟩,.inl (.inr ⟨_,rfl⟩)⟩)
  |cons q Ao=>
   have NB:r= .sl (n+1) (q::Ao)/\(q::Ao).length*(b+1)<=AQ:=by
    simp only[C4] at H5;split at H5;.rename_i hb;cases H5;exact⟨rfl,hb.2⟩
    .cases H5
   exact FJ (some ⟨g,0,none⟩) 0 0 [] [] Ih rfl Aw rfl Aw (run_firstCells_some w.drew _ _ _ _ _ [] Aw (λj x hj=>by simp at hj)) Aw (by simpa using NB.2) (by simpa using NB.1)
 .obtain⟨K,H,Zf,NA,_,hR⟩:=id Ig;rw[Ih] at Zf;simp only[Value.slice.injEq,BB] at Zf;obtain⟨rfl,hk,rfl⟩:=Zf;subst hk;simp only at hR;have B:m=n+1/\r= .sl (n+1) (rr++Ao)/\(Ao=[]\/(rr.length+Ao.length)*(b+1)<=AQ):=by
   cases Ao with
   |nil=>
    simp only[C4] at H5;split at H5;.rename_i Vl;cases H5;exact⟨Vl,by simp[Vl],.inl rfl⟩
    .cases H5
   |cons q Ao=>
    simp only[C4] at H5;split at H5;.rename_i Vl;cases H5;exact⟨Vl.1,rfl,.inr Vl.2⟩
    .cases H5
  obtain⟨rfl,RP,QX⟩:=B;by_cases hroom:rr.length+Ao.length<=cap
  .have hfit:rr.length*(n+1)+news.length<=us.size:=by rw[OF,VW,<-Bs];exact DM _ hroom
   have AE:=run_append_room_src (P:=C.P) w t t' o.type e i ht hi g 0 rr.length cap (a.eval x) Ao.length news IQ hroom (λj hj=>by rw[cell_of_row w _ _ us G (0,0) hg,OE,Cu Ab];rfl) (λj hj=>frozen_of_row w _ _ us G hg)
   rw[BC,OE,Ek news _ us w hg hfit,<-Ih] at AE;rw[Ih] at Ig;obtain⟨M,Zc,Lj,Zd,f⟩:=I7.rK QW hB hg VW hm (CE n) Ig cU rM I9.one hroom;obtain⟨L,Â⟩:=Lj.TG Zd f o.dst;rw[RP];exact Fc.value (K8 _ _ AE) Â
  .obtain⟨vs,A,F,E⟩:=hR.values;have L7:∀j,(⟨g,0,none⟩:Addr).add j=⟨g,0+j,none⟩:=λj=>by unfold Addr.add;split<;>simp_all
   refine FJ (some ⟨g,0,none⟩) rr.length cap rr vs Ih rfl (λq hq=>?_) A (λq hq=>?_) ?_ Ab ?_ RP;.obtain⟨j,hj⟩:=Cq hq;exact(hR.get hj).1
   .obtain⟨j,hj⟩:=Cq hq;exact(I7.Dr.Hh _ _ _ (E j q hj)).2.1
   .rw[OE];exact run_firstCells_some w.drew _ _ _ _ _ vs F (λj y hj=>by rw[L7];exact(I7.Dr.Hh _ _ _ (E j y hj)).1)
   .rcases QX with rfl|QX
    .simp at hroom;omega
    .exact QX
def cV{o:Oper}{c:Call}{t t' e:TypeId}{n b:Nat}{s x:Operand}{v u r:Aa}(ho:o.op= .call c)(hc:c.callee= .builtin .append)(h0:c.argTypes[0]?=some t)(h1:c.argTypes[1]?=some t')(El:c.args.toList=[s,x])(ht:C.P.underlying t=some (.slice e))
  (HO:(∃d,C.P.underlying t'=some (.slice d))\/C.P.underlying t'=some .string) (J3:BJ C.P e=some (n+1)) (rL:IK C.P e=some (b+1)) (EZ:JK C Z s=true) (YJ:KE C.P e=true) (hv:Be C Z [s,x]=some [v,u])
  (hp:Ay (.append (n+1) (b+1)) [v,u]=some r) (hr:CH C U0 w0 U O Z h a w):Fc C U0 w0 o a w ((Z.Da (CR Z s)).put o.dst (.BE r)) h:=by
 obtain⟨_,_,e0,hvs,bN⟩:=ED hr hv;cases e0;simp only[Ay] at hp;obtain⟨Ao,news,H5,I9,SX,cU⟩:=iP (w:=w) HO hr.Dr bN hp;exact Nc ho hc h0 h1 El ht HO J3 rL EZ YJ hv H5 I9 SX cU hr
def Zg{o:Oper}{c:Call}{t t' e:TypeId}{n b:Nat}{s x:Operand}{v u r:Aa}(ho:o.op= .call c)(hc:c.callee= .builtin .append)(h0:c.argTypes[0]?=some t)(h1:c.argTypes[1]?=some t')(El:c.args.toList=[s,x])(ht:C.P.underlying t=some (.slice e))
  (HO:(∃d,C.P.underlying t'=some (.slice d))\/C.P.underlying t'=some .string) (J3:BJ C.P e=some (n+1)) (rL:IK C.P e=some (b+1)) (EZ:JK C Z s=true) (YJ:KE C.P e=true) (hv:Be C Z [s,x]=some [v,u])
  (hp:ON h (n+1) (b+1) v u=some r) (hr:CH C U0 w0 U O Z h a w):Fc C U0 w0 o a w ((Z.Da (CR Z s)).put o.dst (.BE r)) h:=by
 obtain⟨_,_,e0,hvs,bN⟩:=ED hr hv;cases e0;unfold ON at hp;cases hq:Gv h (n+1) u with
 |none=>rw[hq] at hp;cases hp
 |some Ao=>rw[hq] at hp;obtain⟨news,I9,SX,cU⟩:=TK (w:=w) HO hr.Dr bN hq;exact Nc ho hc h0 h1 El ht HO J3 rL EZ YJ hv hp I9 SX cU hr
end
section
variable{C:FC}{γ0 γ γ':Gh}{w0 w w':World}{Z:Nat->Nat}{U:Bx}{h:Ah}{a:Act}{fid:FuncId}{ops:List Oper}
def P0:∀s:Aq,(CI s).flatten=s.map λb=>Aa.int .u8 b.toNat
 |[]=>rfl
 |_::s=>by have:=P0 s;simp only[CI,Bi,Cy] at this⊢;rw[this];rfl
def KI(γ:Gh):∀l:Aq,AS γ (CI l).flatten (l.map λb=>Value.int .u8 b.toNat)
 |[]=>rfl
 |_::l=>⟨_,_,rfl,rfl,KI γ l⟩
def JC(s:Aq)(cap:Nat):(bytesRow ⟨⟨s⟩⟩ cap).toList.take s.length=s.map λb=>Value.int .u8 b.toNat:=by have:(s.map λb=>Value.int .u8 (b.toNat:Int)).length=s.length:=Aw;simp only[bytesRow,Gb,LQ];rw[<-this];exact Es
def Xt(s:Aq):(⟨⟨s⟩⟩:ByteArray).size=s.length:=by simp[ByteArray.size]
def zA{o:Oper}{src dst e:TypeId}{x:Operand}{v u:Aa}(ho:o.op= .convert src dst x)(hs:C.P.underlying src=some .string)(hd:C.P.underlying dst=some (.slice e))(he:C.P.underlying e=some (.int .u8))(hx:Be C U [x]=some [v])(hp:Ay .zg [v]=some u)(hr:CH C γ0 w0 γ Z U h a w):
  Fc C γ0 w0 o a w (U.put o.dst (.val u)) h:=by
 obtain⟨_,e0,hv⟩:=FZ hr hx;cases e0;simp only[Ay] at hp;split at hp
 .rename_i s I8;cases I8;split at hp
  .cases hp;have AE:=run_bytes_of_string (P:=C.P) w src dst e ⟨⟨s⟩⟩ hs hd he;rw[<-MI hv] at AE;have j_:=grownCap_ge w s.length 0 e;rw[Xt] at AE;obtain⟨hi,ha⟩:=Nt hr.drew.Dr (bytesRow ⟨⟨s⟩⟩ (grownCap w s.length 0 e)) e ((bytesRow ⟨⟨s⟩⟩ (grownCap w s.length 0 e)).size,(bytesRow ⟨⟨s⟩⟩ (grownCap w s.length 0 e)).size+1) s.length none (λo u ho hu=>by have hm:u∈(bytesRow ⟨⟨s⟩⟩ (grownCap w s.length 0 e)).toList.take s.length:=Cb (i:=o) (by rw[CA ho];simpa using hu);rw[JC] at hm;obtain⟨b,_,rfl⟩:=AZ.1 hm;rfl) (.inl rfl)
   have GH:=hr.drew.HK hi ha;refine Fc.value (v:= .slice (some ⟨w.heap.size,0,none⟩) s.length (grownCap w s.length 0 e)) (by simp only[execOp,ho];exact C2 AE) (GH.put λ_ _=>⟨⟨w.heap.size,0,none⟩,grownCap w s.length 0 e,by simp[CI],by simpa[CI] using j_,.inl rfl,?_⟩);refine MN (us:=s.map λb=>Value.int .u8 b.toNat) (λr hr=>?_) (KI _ s) (λj u hj=>?_);.obtain⟨b,_,rfl⟩:=AZ.1 hr;rfl
   .rw[<-JC s (grownCap w s.length 0 e),B3] at hj;split at hj;.rename_i hlt;simp only[Gh.CT,heap_drew,BH,BC,Ad hlt];simpa using hj
    .cases hj
  .cases hp
 .cases hp
def Xu{o:Oper}{src dst e:TypeId}{x:Operand}{v u:Aa}{h':Ah}(ho:o.op= .convert src dst x)(hs:C.P.underlying src=some .string)(hd:C.P.underlying dst=some (.slice e))(he:C.P.underlying e=some (.int .u8))(hx:Ex C U x=some v)(hp:Ir h v=some (h',u))(hr:CH C γ0 w0 γ Z U h a w):
  Fc C γ0 w0 o a w (U.put o.dst (.val u)) h':=by
 have hv:=FT hr hx;unfold Ir at hp;split at hp
 .rename_i s;split at hp
  .cases hp;have AE:=run_bytes_of_string (P:=C.P) w src dst e ⟨⟨s⟩⟩ hs hd he;rw[<-MI hv] at AE;have j_:=grownCap_ge w s.length 0 e;rw[Xt] at AE;have hl:(s.map λb=>Aa.int .u8 b.toNat).length=s.length:=Aw;have c:(bytesRow ⟨⟨s⟩⟩ (grownCap w s.length 0 e)).size=grownCap w s.length 0 e:=by have e0:ByteArray.size ⟨⟨s⟩⟩=s.length:=Xt s;simp only[bytesRow,IE,Array.size_map,Array.size_replicate,e0];simp only[BP];omega
   have bP:s.length<=maxLen:=by
    have bP:s.length<=AQ:=by assumption
    simp only[AQ] at bP;simp only[maxLen];omega
   obtain⟨γ',Eg,hm,GH,J3⟩:=hr.drew.newObj (bytesRow ⟨⟨s⟩⟩ (grownCap w s.length 0 e)) e ((bytesRow ⟨⟨s⟩⟩ (grownCap w s.length 0 e)).size,(bytesRow ⟨⟨s⟩⟩ (grownCap w s.length 0 e)).size+1) (s.map λb=>Aa.int .u8 b.toNat) (.inr (Af _))
    (by rw[hl,JC];have:=KI γ s;rw[P0] at this;exact this)
    (λu hu=>by rw[hl,JC] at hu;obtain⟨b,_,rfl⟩:=AZ.1 hu;rfl)
   exact Fc.value (v:= .slice (some ⟨w.heap.size,0,none⟩) s.length (grownCap w s.length 0 e)) (by simp only[execOp,ho];exact C2 AE) (GH.put λ_ _=>⟨w.heap.size,_,hm,rfl,j_,⟨CE 0,grownCap_le_maxLen w _ _ _ bP⟩,by rw[BC,Gp,<-c];exact J3⟩)
  .cases hp
 .cases hp
def Ha{O:Type}(l:List O):∀(c j:Nat),j<c*l.length->(List.replicate c l).flatten[j]?=l[j%l.length]?
 |0,j,h=>by simp at h
 |c+1,j,h=>by
  have h':j<c*l.length+l.length:=by rw[Bs] at h;omega
  rw[Jv,Cy];by_cases hj:j<l.length;.rw[Al hj,Nat.mod_eq_of_lt hj]
  .rw[Bp Ab,Ha l c _ Ab,show j%l.length=(j-l.length)%l.length from Nat.mod_eq_sub_mod Ab]
def rN{o:Oper}{t e:TypeId}{l c:Operand}{n b:Nat}{z:Aa}{v vc u:Aa}{h':Ah}(ho:o.op= .makeSlice t l c)(ht:C.P.underlying t=some (.slice e))(J3:BJ C.P e=some (n+1))(rL:IK C.P e=some (b+1))(hz:Ge C.P e=some z)(hl:Ex C U l=some v)(hc:Ex C U c=some vc)
  (hm:OM h (n+1) (b+1) z.cells v vc=some (h',u)) (hr:CH C γ0 w0 γ Z U h a w):Fc C γ0 w0 o a w (U.put o.dst (.val u)) h':=by
 unfold OM at hm;split at hm
 .rename_i k m;split at hm
  .rename_i GQ;obtain⟨G,F,E,s⟩:=GQ;cases hm;unfold Ge at hz;cases hi:C.P.info? e with
   |none=>rw[hi] at hz;cases hz
   |some i=>
    rw[hi] at hz;cases p9:i.zero with
    |none=>simp[p9] at hz
    |some f=>
     simp only[B5,p9] at hz;have OE:=Iu J3 hi;have py:=Ko rL hi;obtain⟨y,B⟩:=Gx (γ:=γ) (EO hz) Ab;have Xq:f.cells.size=n+1:=by have:=y.length;simp at this;omega
     have ka:m.toNat*(b+1)<=AQ:=E;have g:m.toNat<=AQ:=Bm (Hu m.toNat (CE b)) ka;have AE:=run_make (P:=C.P) w t e i f ht hi p9 .i64 .i64 k m G F (by
      rw[py];have D:((b+1:Nat):Int)*m=((m.toNat*(b+1):Nat):Int):=by rw[Int.natCast_mul,Jw Ab,Int.mul_comm]
      rw[D];simp only[AQ] at ka;omega) (by simp only[AQ] at g;omega)
     rw[<-Ea (FT hr hl),<-Ea (FT hr hc)] at AE;have hlen:((List.replicate m.toNat z.cells).flatten).length=m.toNat*(n+1):=by rw[Gz (z:=n+1) (λr hr=>by rw[jl hr,s]),Fa]
     have p:∀(j:Nat) (u:Value),(madeCells f.cells (m.toNat*i.size)).toList[j]?=some u->j<m.toNat*(n+1)/\f.cells.toList[j%(n+1)]?=some u:=by
      intro j u hj;have rO:j<m.toNat*(n+1):=by have:=(Ae.1 hj).1;simpa[size_madeCells,OE] using this
      refine⟨rO,?_⟩;have pz:j%(n+1)<f.cells.size:=by rw[Xq];exact Nat.mod_lt _ (CE n)
      simp only[madeCells,LQ,Cn] at hj;have d:(Array.range (m.toNat*i.size)).toList[j]?=some j:=by simp[OE,rO]
      rw[d] at hj;simp only[BU,BB] at hj;rw[Xq] at hj;rw[<-hj];simp[pz]
     have A:AS γ (List.replicate m.toNat z.cells).flatten (madeCells f.cells (m.toNat*i.size)).toList:=by refine AS.Gf (by simp[hlen,size_madeCells,OE]) λj x u hx hu=>?_;obtain⟨rO,q⟩:=p j u hu;rw[Ha z.cells _ _ (by rw[s];exact rO),s] at hx;obtain⟨H,rD,pt⟩:=y.get hx;rw[q] at rD;cases rD;exact pt
     obtain⟨γ',Eg,zk,GH,aBJ⟩:=hr.newObj (madeCells f.cells (m.toNat*i.size)) e (0,0) (List.replicate m.toNat z.cells).flatten (.inl rfl) (A.yY (by rw[A.length];exact Af _)) (λu hu=>by obtain⟨j,hj⟩:=Cq (AN hu);exact B u (Cb (p j u hj).2))
     exact Fc.value (by simp only[execOp,ho];exact C2 AE) (GH.put λ_ _=>⟨w.heap.size,m.toNat,zk,rfl,Ab,⟨CE n,by simp only[AQ] at g;simp only[maxLen];omega⟩,by rw[aBJ,size_madeCells,OE,BC]⟩)
  .cases hm
 .cases hm
def CH.Ã(hr:CH C γ0 w0 γ Z U h a w){g:Nat}(EZ:γ.BE g=some (.tail U.length none 0))(hB:w0.heap.size<=g){us:Array Value}{e:TypeId}(hg:w.heap[g]?=some (.cells us e (0,0)))(C6:Array Value)(cs:List Aa)
  (hv:AS γ cs (C6.toList.take cs.length)) (h1:∀u∈C6.toList.take cs.length,u.oneCell'=true):∃γ',γ.le γ'/\γ'.mu h.length=some g/\CH C γ0 w0 γ' Z U (h++[.cells cs]) a (w.setRow g C6)/\γ'.sz g=some C6.size:=by
 have Y_:γ.mu h.length=none:=by
  cases hc:γ.mu h.length with
  |none=>rfl
  |some y=>exact absurd (hr.Dr.mu _ y hc) (C8 _)
 have J3:γ.sz g=none:=by
  cases hc:γ.sz g with
  |none=>rfl
  |some y=>obtain⟨_,r⟩:=hr.Dr.sz g y hc;rw[EZ] at r;rcases r with r|⟨_,r⟩<;>cases r
 have Eg:γ.le (γ.BW g h.length (some C6.size)):=⟨λ_ _ _ hv=>hv,λid b hm=>by
  have:id≠h.length:=λhe=>by rw[he,Y_] at hm;cases hm
  simp only[Gh.BW,Ac this];exact hm,λb n hm=>by
  have:b≠g:=λhe=>by rw[he,J3] at hm;cases hm
  simp only[Gh.BW,Ac this];exact hm⟩
 have pv:∀b n,(γ.BW g h.length (some C6.size)).sz b=some n->(∃us e fr,(w.setRow g C6).heap[b]?=some (.cells us e fr)/\us.size=n)/\((γ.BW g h.length (some C6.size)).BE b=none\/∃id,(γ.BW g h.length (some C6.size)).BE b=some (.K5 id)):=λb n hb=>by
  by_cases he:b=g;.subst he;simp only[Gh.BW,BH] at hb;cases hb;exact⟨⟨C6,e,(0,0),setRow_heap w b us C6 e (0,0) hg,rfl⟩,.inr ⟨h.length,by simp[Gh.BW]⟩⟩
  .simp only[Gh.BW,Ac he] at hb⊢;obtain⟨p,r⟩:=hr.Dr.sz b n hb;exact⟨by rw[setRow_other w g b C6 he];exact p,r⟩
 have hne:∀b id,γ.BE b=some (.K5 id)->b≠g:=λb id hb he=>by rw[he,EZ] at hb;cases hb
 have hk:Oh g γ w (γ.BW g h.length (some C6.size)) (w.setRow g C6):=⟨Eg,λb x hb hx _=>⟨by simp only[Gh.BW,Ac hb];exact hx,setRow_other w g b C6 hb⟩⟩;refine⟨_,Eg,by simp[Gh.BW],⟨⟨λb o v hb=>?_,λid y Hw hy=>?_,λid Gd hc b hb=>?_,λid es hc b hb=>?_,λid b hb=>?_,λb y hy=>?_,pv⟩,⟨hr.fr.size,λs=>?_⟩,hr.Dq.write (g:=g) hB Eg Aw rfl rfl rfl (λb hb=>⟨setRow_other w g b C6 hb,by simp only[Gh.BW,Ac hb]⟩),hr.defers,λx Gd hx=>CD.mono Eg _ _ _ (hr.Gq x Gd hx)⟩,by simp[Gh.BW]⟩
 .obtain⟨p,q,r⟩:=hr.Dr.Hh b o v hb;have MF:b≠g:=λhe=>by
   subst he;rw[EZ] at r;rcases r with r|⟨_,_,_,r,hl⟩
   .cases r
   .cases r;omega
  exact⟨by rw[Cs (setRow_other w g b C6 MF)];exact p,q,by simp only[Gh.BW,Ac MF];exact r⟩
 .by_cases he:id=h.length;.exact⟨g,by simp[Gh.BW,he],by simp[Gh.BW,he]⟩
  .have Tw:id<h.length:=by rw[Ae] at Hw;obtain⟨hl,_⟩:=Hw;simp at hl;omega
   rw[Al Tw] at Hw;obtain⟨b,p,q⟩:=hr.Dr.K5 id y Hw hy;exact⟨b,by simp only[Gh.BW,Ac he];exact p,by simp only[Gh.BW,Ac (hne b id q)];exact q⟩
 .by_cases he:id=h.length;.subst he;simp[Gh.BW] at hb;subst hb;simp at hc;subst hc;exact⟨C6,e,(0,0),setRow_heap w g us C6 e (0,0) hg,.inl rfl,AS.mono Eg _ _ hv,h1⟩
  .simp only[Gh.BW,Ac he] at hb;have Tw:=hr.Dr.mu id b hb;rw[Al Tw] at hc;obtain⟨b',c,d⟩:=hr.Dr.K5 id _ hc Aw;rw[hb] at c;cases c;obtain⟨cE,f,q7,p,pf,q,r⟩:=hr.Dr.cells id Gd hc b hb;exact⟨cE,f,q7,by rw[setRow_other w g b C6 (hne b id d)];exact p,pf,AS.mono Eg _ _ q,r⟩
 .by_cases he:id=h.length;.subst he;simp at hc
  .simp only[Gh.BW,Ac he] at hb;have Tw:=hr.Dr.mu id b hb;rw[Al Tw] at hc;obtain⟨b',c,d⟩:=hr.Dr.K5 id _ hc Aw;rw[hb] at c;cases c;obtain⟨Dy,clock,p,q⟩:=hr.Dr.map id es hc b hb;exact⟨Dy,clock,by rw[setRow_other w g b C6 (hne b id d)];exact p,q.mono Eg⟩
 .by_cases he:id=h.length;.simp[he]
  .simp only[Gh.BW,Ac he] at hb;have:=hr.Dr.mu id b hb;simp;omega
 .by_cases MF:b=g;.subst MF;have:=hr.Dr.BE _ _ EZ;simpa using this
  .simp only[Gh.BW,Ac MF] at hy;have:=hr.Dr.BE b y hy;simpa using this
 .by_cases hs:s=U.length;.subst hs;rw[Bx.Rd];trivial
  .exact(hr.fr.Hd s).keptBut EZ hk (by simp only[Jd.cB];intro hx;cases hx;exact hs rfl)
def CH.Th(hr:CH C γ0 w0 γ Z U h a w){v v':Aa}{u:Value}{h':Ah}(hv:Bz γ v u)(hf:LA h v=some (h',v')):∃γ',γ.le γ'/\CH C γ0 w0 γ' Z U h' a w/\Bz γ' v' u:=by
 unfold LA at hf;split at hf
 .rename_i id off n z;obtain⟨b,cap,hb,hu,hc,hz,J3⟩:=hv;split at hf
  .rename_i cs hcs;split at hf
   .rename_i hl;cases hf;obtain⟨us,e,fr,q,pf,p,m⟩:=hr.Dr.cells id cs hcs b hb;obtain⟨hi,ha⟩:=q8 hr.Dr hcs hb q m;have cU:∀(k o:Nat),(Cg cs z o k).length=k:=by
     intro k;induction k with
     |zero=>intro o;rfl
     |succ k ih=>intro o;simp[Cg,ih]
    have d:∀(k o i:Nat) (r:List Aa),(Cg cs z o k)[i]?=some r->i<k/\r=(cs.drop (o+i*z)).take z:=by
     intro k;induction k with
     |zero=>intro o i r h;simp[Cg] at h
     |succ k ih=>
      intro o i r h;cases i with
      |zero=>simp[Cg] at h;exact⟨CE _,by simpa using h.symm⟩
      |succ i=>simp[Cg] at h;obtain⟨l,g⟩:=ih _ _ _ h;exact⟨Ab,by rw[g];congr 2;rw[Bs];omega⟩
    refine⟨_,ha.le,hr.HK hi ha,⟨b,off,none⟩,cap,by rw[cU];exact hu,by rw[cU];exact hc,.inl rfl,Ey.Gf λi r f=>?_⟩;obtain⟨l,rfl⟩:=d n off i r f;have t:i*z+z<=n*z:=by have:=DM z (Ab:i+1<=n);rwa [Bs,Ef] at this
    refine⟨ER,CD.Gf λj x hj=>?_⟩;rw[B3] at hj;split at hj;.rename_i s;rw[Cm] at hj;obtain⟨y,hy,c⟩:=p.get hj;have hlt:off+i*z+j<cs.length:=(Ae.1 hj).1;refine⟨y,?_,Bz.mono ha.le _ _ c⟩;simp only[Gh.CT,BH,Ad hlt];rw[CA hlt] at hy;simpa using hy
    .cases hj
   .cases hf
  .cases hf
 .cases hf;exact⟨γ,.refl _,hr,hv⟩
def P4:∀{Ao:List (List Aa)} {s:Aq},Lb Ao=some s->∃ns:List Int,Ao=ns.map (λn=>[.int .u8 n])/\s=ns.map λn=>UInt8.ofNat n.toNat
 |[],s,hs=>by cases hs;exact⟨[],rfl,rfl⟩
 |r::Ao,s,hs=>by
  unfold Lb at hs;split at hs;.rename_i I8;cases I8
  .rename_i n rs I8;cases I8;cases hq:Lb Ao with
   |none=>rw[hq] at hs;cases hs
   |some l=>rw[hq] at hs;cases hs;obtain⟨ns,rfl,rfl⟩:=P4 hq;exact⟨n::ns,rfl,rfl⟩
  .cases hs
def TL:∀(ns:List Int) (r:ByteArray),ns.foldl (λr n=>r.push (UInt8.ofNat n.toNat)) r=⟨r.data++(ns.map λn=>UInt8.ofNat n.toNat).toArray⟩
 |[],r=>Aw
 |n::ns,r=>by rw[pV,TL ns];simp[ByteArray.push]
def zB{o:Oper}{src dst e:TypeId}{x:Operand}{v v' u:Aa}{h':Ah}(ho:o.op= .convert src dst x)(hs:C.P.underlying src=some (.slice e))(hd:C.P.underlying dst=some .string)(he:C.P.underlying e=some (.int .u8))(hx:Ex C U x=some v)(hf:LA h v=some (h',v'))(hp:Ay .Vk [v']=some u)
  (hr:CH C γ0 w0 γ Z U h a w):Fc C γ0 w0 o a w (U.put o.dst (.val u)) h':=by
 obtain⟨γ',Eg,GH,Ig⟩:=hr.Th (FT hr hx) hf;have K8:∀s,(Conv.bytesToString (a.eval x)).run C.P w= .ok s w->(∃p l c,a.eval x= .slice p l c)->(execOp a.eval o).run C.P w= .ok (.value s) w:=λs AE ⟨p,l,c,bP⟩=>by simp only[execOp,ho];refine C2 ?_;rw[bP] at AE⊢;rw[run_convert_bytes_string w src dst e p l c hs he hd];exact AE
 simp only[Ay] at hp;unfold Xa at hp;split at hp
 .rename_i Ao;cases hq:Lb Ao with
  |none=>rw[hq] at hp;cases hp
  |some s=>
   rw[hq] at hp;cases hp;obtain⟨ns,rfl,rfl⟩:=P4 hq;obtain⟨d,cap,bP,hc,hsp,hR⟩:=Ig;have L7:∀(j:Nat) (v:Value),(ns.map (Value.int .u8))[j]?=some v->d.add j=⟨d.block,d.off+j,none⟩:=λj v hj=>by
    have hpos:0<ns.length:=by have:=(Ae.1 hj).1;simp at this;omega
    have cL:=MD hsp hc (by simpa using hpos);generalize d.block=b at*;generalize d.off=o at*;subst cL;unfold Addr.add;split<;>simp_all
   have hl:=run_loadCells_list (P:=C.P) w d (ns.map (Value.int .u8)) (λj v hj=>by
    rw[L7 j v hj];simp only[Cn] at hj;cases hn:ns[j]? with
    |none=>rw[hn] at hj;cases hj
    |some n=>rw[hn] at hj;cases hj;obtain⟨_,m⟩:=hR.get (i:=j) (r:=[.int .u8 n]) (by simp[hn]);obtain⟨y,hy,g⟩:=m.get (i:=0) (a:= .int .u8 n) rfl;rw[show y=_ from g] at hy;have:=(GH.Dr.Hh _ _ _ hy).1;simpa using this)
   simp only[As] at hl;have AE:=run_bytesToString (P:=C.P) w d ns.length cap ns hl;have k:ByteArray.empty.data=#[]:=rfl;rw[TL,k,Array.empty_append] at AE;have f:a.eval x= .slice (some d) ns.length cap:=by rw[bP];simp
   rw[<-f] at AE;exact Fc.value (K8 _ AE ⟨_,_,_,f⟩) (GH.put λ_ _=>rfl)
 .cases hp;have f:a.eval x= .slice none 0 0:=Ig;have AE:(Conv.bytesToString (a.eval x)).run C.P w= .ok (.string ⟨⟨[]⟩⟩) w:=by rw[f];simp[Conv.bytesToString];rfl
  exact Fc.value (K8 _ AE ⟨_,_,_,f⟩) (GH.put λ_ _=>rfl)
 .cases hp
def rP(C:FC)(f:FuncId):Prop:=
 (∃fn c,C.P.funcs[f]?=some fn/\(fn.name== "runtime.NumGoroutine")=false/\fn.body=some c)/\
 ∀(γ:Gh) (h:Ah) (w:World) (s:Aa) (d:Value) (i x:Int) (h':Ah) (r:Aa) (g b:Nat) (us:Array Value) (e:TypeId),GO γ h w->Bz γ s d->Oe h [s,.int .i64 i,.sl 1 [[.int .i64 x]]]=some (h',r)->
  w.heap[g]?=some (.cells us e (0,0))->us[0]?=some (.int .i64 x)->(∀id,γ.BE g≠some (.K5 id))->1<=b->us.size=b->
  Calls C.P f #[d,.int .i64 i,.slice (some ⟨g,0,none⟩) 1 b] w λe w'=>match e with
   | .returned v=>∃γ',GO γ' h' w'/\KF γ w γ' w'/\Bz γ' r v
   |_=>False
def EE(C:FC)(run:IT->Ah->Option Jb):Prop:=
 ((∀g cs,C.Gq g=some cs->cs.all Aa.K6=true)/\∀f,C.My f=true->rP C f)/\
 ∀(f:FuncId) (args:List Aa) (h:Ah) (r:Aa) (h':Ah),run (B2 C f args) h=some (.ret,[r],h')->
  (∃fn c,C.P.funcs[Ez f]?=some fn/\(fn.name== "runtime.NumGoroutine")=false/\fn.body=some c)/\
  ∀(γ:Gh) (w:World) (cargs:Array Value),GO γ h w->(∀g cs,C.Gq g=some cs->CD γ cs g 0)->AS γ args cargs.toList->
   Calls C.P (Ez f) cargs w λe w'=>match e with
    | .returned v=>∃γ',GO γ' h' w'/\KF γ w γ' w'/\Bz γ' r v/\(C.IJ f=true->∃s c,HY γ' w.heap.size w' s c v r)
    |_=>False
def CH.p_(hr:CH C γ0 w0 γ Z U h a w){h':Ah}{r:Aa}{v:Value}(hi:GO γ' h' w')(ha:KF γ w γ' w')(hv:Bz γ' r v){BE:Bool}(ho:BE=true->∃s c,HY γ' w.heap.size w' s c v r)(d:Option Nat):
  ∃f,CH C γ0 w0 f Z (U.put d (if BE then .BE r else .val r)) h' (a.put d v) w':=by
 cases BE with
 |false=>exact⟨γ',(hr.HK hi ha).put λ_ _=>hv⟩
 |true=>
  obtain⟨s,c,i⟩:=ho rfl;rcases i with i|⟨g,n,cap,us,e,z,Ao,rfl,h2,l,k,j⟩
  .exact⟨γ',(hr.HK hi ha).put λ_ _=>⟨hv,.inl i⟩⟩
  .have po:KF γ w (γ'.E5 g (.tail U.length none (n*z))) w':=⟨ha.le.trans (Gw _ _ _),ha.size,ha.os,ha.tape,ha.output,λb hb hn=>by obtain⟨p,q⟩:=ha.ME b hb hn;exact⟨p,by simp only[Gh.E5,Ac (Ab:b≠g)];exact q⟩⟩
   have GH:=hr.HK (hi.E5 (s':=U.length) (c':=none) l) po;exact GH.TG (Bz.mono (Gw _ _ _) _ _ hv) (.inr ⟨g,n,cap,us,e,z,Ao,rfl,h2,by simp[Gh.E5],Bm hr.Dq.size k,j⟩) d
def He{P:Program}{f:FuncId}{fn:Func}{c:Code}(hf:P.funcs[f]?=some fn)(hname:(fn.name== "runtime.NumGoroutine")=false)(hb:fn.body=some c)(args:Array Value)(w:World):
  (callFunc f args).run P w= .ok (.enter f args) w:=by
 have hn:¬fn.name= "runtime.NumGoroutine":=by simpa using hname
 simp[callFunc,hf,hn,hb]
def P5{o:Oper}{f:FuncId}{cargs:Array Value}{K:Act->World->Prop}{Q:Exit->Act->World->Prop}(he:(execOp a.eval o).run C.P w= .ok (.enter f cargs) w){R:Value->World->Prop}
  (hc:Calls C.P f cargs w λe w'=>match e with| .returned v=>R v w'|_=>False) (hk:∀v w',R v w'->K (a.put o.dst v) w'):o.wp C.P a w K Q:=by
 unfold Oper.wp;rw[he];refine hc.mono λe w' h=>?_;cases e with
 |returned v=>exact hk v w' h
 |_=>exact h.elim
def rQ{run:IT->Ah->Option Jb}(g:EE C run){o:Oper}{c:Call}{f:FuncId}{args:List Aa}{r:Aa}{h':Ah}{K:Act->World->Prop}{Q:Exit->Act->World->Prop}(ho:o.op= .call c)(hcl:c.callee= .value (.func (Ez f)))(ha:Be C U c.args.toList=some args)
  (AE:run (B2 C f args) h=some (.ret,[r],h')) (hr:CH C γ0 w0 γ Z U h a w) (i:∀γ' v w',CH C γ0 w0 γ' Z (U.put o.dst (if C.IJ f then .BE r else .val r)) h' (a.put o.dst v) w'->K (a.put o.dst v) w'):o.wp C.P a w K Q:=by
 obtain⟨⟨fn,j,hf,hname,hb⟩,d⟩:=g.2 f args h r h' AE;have b:AS γ args (c.args.map a.eval).toList:=by simpa using Ds hr ha
 refine P5 (f:=Ez f) (cargs:=c.args.map a.eval) ?_ (d γ w _ hr.Dr hr.Gq b) λv w' ⟨γ',hi,IS,hv,EZ⟩=>?_;.have h0:a.eval (.func (Ez f))= .func (.func (Ez f)) #[] #[]:=rfl;simp only[execOp,ho,resolve,hcl,Deferred.ofValue,h0,Sem.run_bind,Sem.run_pure,Result.andThen_ok,invoke];simpa using He hf hname hb (c.args.map a.eval) w
 .obtain⟨e,Lj⟩:=hr.p_ hi IS hv EZ o.dst;exact i e v w' Lj
def zC{run:IT->Ah->Option Jb}(L:EE C run){o:Oper}{c:Call}{f:FuncId}{s i x:Operand}{args:List Aa}{r:Aa}{h':Ah}{K:Act->World->Prop}{Q:Exit->Act->World->Prop}(ho:o.op= .call c)(hcl:c.callee= .value (.func f))(hf:C.My f=true)(El:c.args.toList=[s,i,x])(EZ:JK C U x=true)
  (ha:Be C U [s,i,x]=some args) (hp:Oe h args=some (h',r)) (hr:CH C γ0 w0 γ Z U h a w) (M:∀γ' v w',CH C γ0 w0 γ' Z (U.put o.dst (.val r)) h' (a.put o.dst v) w'->K (a.put o.dst v) w'):o.wp C.P a w K Q:=by
 obtain⟨⟨fn,Y,zD,hname,hb⟩,zE⟩:=L.1.2 f hf;have cW:=Ds hr ha;obtain⟨t,zn,f1,g1,f2⟩:∃t zn,[a.eval s,a.eval i,a.eval x]=t::zn/\Bz γ (args.getD 0 .nilIface) t/\True:=by
  cases args with
  |nil=>cases cW
  |cons y l=>obtain⟨u,us,e,p,q⟩:=cW;exact⟨u,us,e,p,trivial⟩
 obtain⟨s',d,x',he,k,F,E⟩:∃s' d x',args=[s',.int .i64 d,.sl 1 [[.int .i64 x']]]/\∃(k:Bz γ s' (a.eval s)) (F:a.eval i= .int .i64 d),Bz γ (.sl 1 [[.int .i64 x']]) (a.eval x):=by
  unfold Oe at hp;split at hp;.obtain⟨_,_,_,e,D,B,A⟩:=cW.V4;simp only[Bi,DW,FO,J1] at e;obtain⟨rfl,rfl,rfl⟩:=e;exact⟨_,_,_,rfl,D,B,A⟩
  .obtain⟨_,_,_,e,D,B,A⟩:=cW.V4;simp only[Bi,DW,FO,J1] at e;obtain⟨rfl,rfl,rfl⟩:=e;exact⟨_,_,_,rfl,D,B,A⟩
  .cases hp
 subst he;have bN:Ex C U x=some (.sl 1 [[.int .i64 x']]):=by simp only[Be] at ha;cases h1:Ex C U s<;>cases h2:Ex C U i<;>cases H:Ex C U x<;>simp_all
 obtain⟨sl,bP⟩:∃sl,DF C U x=some sl:=by
  unfold JK at EZ;cases hs:DF C U x with
  |none=>rw[hs] at EZ;cases EZ
  |some sl=>exact⟨sl,rfl⟩
 have aBK:∃v,sl= .BE v:=by unfold JK at EZ;rw[bP] at EZ;cases sl<;>first|exact⟨_,rfl⟩|cases EZ
 obtain⟨v,rfl⟩:=aBK;obtain⟨s0,hrel,_⟩:=Fy hr bP;have aBL:v= .sl 1 [[.int .i64 x']]:=by simp only[Ex,bP,B5,D0.Gt,BB] at bN;exact bN
 subst aBL;obtain⟨iO,j⟩:=hrel;rcases j with(j|⟨_,j⟩)|⟨g,n,cap,us,e,z,Ao,h1,h2,H,V,G,O,N,T,S⟩
 .cases j
 .cases j
 .cases h1;obtain⟨ad,J,I,X,W,R⟩:=E;rw[h2] at I;cases I;obtain⟨_,hm,_⟩:=R;obtain⟨⟨u,hu,hru⟩,_⟩:=hm;obtain⟨It,_,_⟩:=hr.Dr.Hh _ _ _ hu;have VW:us[0]?=some (.int .i64 x'):=by rw[cell_of_row w _ _ us e (0,0) G] at It;rw[It];exact Ca some hru
  have b:c.args.map a.eval=#[a.eval s,.int .i64 d,.slice (some ⟨g,0,none⟩) 1 cap]:=by apply GC;simp only[LQ,El,Bi,DW,F,h2];rfl
  have SY:=zE γ h w s' _ d x' h' r g cap us e hr.Dr k hp G VW (λid Hw=>by rw[H] at Hw;cases Hw) N (by rw[O,Gp]);rw[<-b] at SY;refine P5 (f:=f) (cargs:=c.args.map a.eval) ?_ SY λv w' ⟨γ',hi,IS,hv⟩=>?_;.have h0:a.eval (.func f)= .func (.func f) #[] #[]:=rfl;simp only[execOp,ho,resolve,hcl,Deferred.ofValue,h0,Sem.run_bind,Sem.run_pure,Result.andThen_ok,invoke];simpa using He zD hname hb (c.args.map a.eval) w
  .obtain⟨m,Lj⟩:=hr.p_ (BE:=false) hi IS hv (λe=>by cases e) o.dst;exact M m v w' (by simpa using Lj)
def Gh.apart(γ:Gh):Gh:={Hh:=γ.Hh,mu:=λ_=>none,BE:=λb=>match γ.BE b with|some (.K5 _)=>none|x=>x,sz:=γ.sz}
def GO.apart(hi:GO γ h w):GO γ.apart [] w:=by
 refine⟨λb o v hb=>?_,λid x hx=>by simp at hx,λid cs hx=>by simp at hx,λid es hx=>by simp at hx,λid b hb=>(by cases hb),λb x hx=>?_,λb n hb=>?_⟩;rotate_left 2;.obtain⟨p,r⟩:=hi.sz b n hb;refine⟨p,.inl ?_⟩;simp only[Gh.apart];rcases r with r|⟨_,r⟩<;>rw[r]
 .obtain⟨p,q,r⟩:=hi.Hh b o v hb;refine⟨p,q,?_⟩;simp only[Gh.apart];rcases r with r|⟨s,c,st,r,hl⟩
  .exact .inl (by rw[r])
  .exact .inr ⟨s,c,st,by rw[r],hl⟩
 .simp only[Gh.apart] at hx;split at hx;.cases hx
  .exact hi.BE b x hx
def CH.zF(hr:CH C γ0 w0 γ Z U h a w){c:Gh}{h1:Ah}(hi:GO c h1 w')(ha:KF γ.apart w c w'):∃d,CH C γ0 w0 d Z U h a w':=by
 have YK:∀b id,γ.apart.BE b≠some (.K5 id):=λb id e=>by
  simp only[Gh.apart] at e;split at e;.cases e
  .rename_i hn;exact hn id e
 have L0:∀b,b<w.heap.size->w'.heap[b]?=w.heap[b]?:=λb hb=>(ha.ME b hb (YK b)).1;refine⟨γ,hr.HK ⟨λb o v hb=>?_,hr.Dr.K5,λid cs hc b hb=>?_,λid es hc b hb=>?_,hr.Dr.mu,λb x hx=>Ke (hr.Dr.BE b x hx) ha.size,λb n hb=>(by
   obtain⟨⟨us,e,fr,p,q⟩,r⟩:=hr.Dr.sz b n hb;exact⟨⟨us,e,fr,by rw[L0 b (AK.1 p).1];exact p,q⟩,r⟩)⟩
  ⟨.refl _,ha.size,ha.os,ha.tape,ha.output,λb hb _=>⟨L0 b hb,rfl⟩⟩⟩
 .obtain⟨p,q,r⟩:=hr.Dr.Hh b o v hb;exact⟨by rw[Cs (L0 b (Db p))];exact p,q,r⟩
 .obtain⟨us,e,fr,p,q⟩:=hr.Dr.cells id cs hc b hb;exact⟨us,e,fr,by rw[L0 b (AK.1 p).1];exact p,q⟩
 .obtain⟨Dy,clock,p,q⟩:=hr.Dr.map id es hc b hb;exact⟨Dy,clock,by rw[L0 b (AK.1 p).1];exact p,q⟩
def TM{γ γ':Gh}{x:Aa}{v:Value}(hf:x.K6=true)(hv:Bz γ x v):Bz γ' x v:=by cases x<;>first|exact hv|cases hf
def Wd{γ γ':Gh}:∀{l:List Aa} {us:List Value},l.all Aa.K6=true->AS γ l us->AS γ' l us
 |[],us,_,h=>h
 |x::l,us,hf,h=>by obtain⟨u,C6,e,h1,h2⟩:=h;simp only[W8,Bt] at hf;exact⟨u,C6,e,TM hf.1 h1,Wd hf.2 h2⟩
def CD.apart{γ:Gh}:∀{l:List Aa} {b o:Nat},CD γ l b o->l.all Aa.K6=true->CD γ.apart l b o
 |[],_,_,_,_=>trivial
 |x::l,b,o,h,hf=>by obtain⟨⟨u,h1,h2⟩,c⟩:=h;simp only[W8,Bt] at hf;exact⟨⟨u,h1,TM hf.1 h2⟩,c.apart hf.2⟩
def mY{run:IT->Ah->Option Jb}(i:EE C run){o:Oper}{c:Call}{f:FuncId}{args:List Aa}{r:Aa}{h1:Ah}{K:Act->World->Prop}{Q:Exit->Act->World->Prop}(ho:o.op= .call c)(hcl:c.callee= .value (.func (Ez f)))(ha:Be C U c.args.toList=some args)
  (hfa:args.all Aa.K6=true) (AE:run (B2 C f args) []=some (.ret,[r],h1)) (iK:r.K6=true) (hr:CH C γ0 w0 γ Z U h a w) (j:∀γ' v w',CH C γ0 w0 γ' Z (U.put o.dst (.val r)) h (a.put o.dst v) w'->K (a.put o.dst v) w'):o.wp C.P a w K Q:=by
 obtain⟨⟨fn,k,hf,hname,hb⟩,d⟩:=i.2 f args [] r h1 AE;have b:AS γ.apart args (c.args.map a.eval).toList:=Wd hfa (by simpa using Ds hr ha);refine P5 (f:=Ez f) (cargs:=c.args.map a.eval) ?_ (d γ.apart w _ hr.Dr.apart (λg cs hg=>(hr.Gq g cs hg).apart (i.1.1 g cs hg)) b) λv w' ⟨γ',hi,IS,hv,_⟩=>?_;.have h0:a.eval (.func (Ez f))= .func (.func (Ez f)) #[] #[]:=rfl;simp only[execOp,ho,resolve,hcl,Deferred.ofValue,h0,Sem.run_bind,Sem.run_pure,Result.andThen_ok,invoke];simpa using He hf hname hb (c.args.map a.eval) w
 .obtain⟨e,Lj⟩:=hr.zF hi IS;exact j e v w' (Lj.put λ_ _=>TM iK hv)
def mZ{run:IT->Ah->Option Jb}(l:EE C run){o:Oper}{c:Call}{g:Operand}{k:Aa}{f:FuncId}{args args':List Aa}{r:Aa}{h':Ah}{K:Act->World->Prop}{Q:Exit->Act->World->Prop}(ho:o.op= .call c)(hcl:c.callee= .value g)(hg:Ex C U g=some k)
  (ha:Be C U c.args.toList=some args) (ht:De k args=some (f,args')) (AE:run (B2 C f args') h=some (.ret,[r],h')) (hr:CH C γ0 w0 γ Z U h a w) (m:∀γ' v w',CH C γ0 w0 γ' Z (U.put o.dst (.val r)) h' (a.put o.dst v) w'->K (a.put o.dst v) w'):o.wp C.P a w K Q:=by
 obtain⟨⟨fn,n,hf,hname,hb⟩,b⟩:=l.2 f args' h r h' AE;have j:=FT hr hg;unfold De at ht;split at ht
 .rename_i f0 first captured
  split at ht;rotate_left;.cases ht
  rename_i xY;cases ht;rw[show Ez f=f from Ad xY] at hf b;obtain⟨fs,cs,GW,h1,h2⟩:=j;have d:AS γ (first++args++captured) (fs++c.args.map a.eval++cs).toList:=by simpa using(h1.append (Ds hr ha)).append h2
  refine P5 (f:=f) (cargs:=fs++c.args.map a.eval++cs) ?_ (b γ w _ hr.Dr hr.Gq d) λv w' ⟨γ',hi,IS,hv,EZ⟩=>?_;.simp only[execOp,ho,resolve,hcl,Deferred.ofValue,GW,Sem.run_bind,Sem.run_pure,Result.andThen_ok,invoke];exact He hf hname hb _ w
  .obtain⟨i,Lj⟩:=hr.p_ (BE:=false) hi IS hv (λe=>by cases e) o.dst;exact m i v w' (by simpa using Lj)
 .cases ht
end
end Go.Am
end
