/- Lemmas -/
import Derived.Test.YtljddgipdchkiaaGreatDoorZ4
import Derived.Deep.AppendSrc
import Derived.Great.BuildSlice
import Derived.Laws.IdiomStrings
set_option linter.all false
section
namespace Go.Am
open Go
section
variable{C:FZ}{U0 U U':Gh}{w0 w w':World}{O:Nat->Nat}{Z:BW}{h:Ah}{a:Act}{fid:FuncId}{ops:List Oper}
def DF{P:Program}{s:Sem Value}{v:Value}(hs:s.run P w= .ok v w'):(do pure (Next.value (<-s)):Sem Next).run P w= .ok (.value v) w':=by simp[hs]
def TP{J:Type}{z:Nat}:∀{Az:List (List J)},(∀r∈Az,r.length=z)->∀{i:Nat} {r:List J},Az[i]?=some r->∀{j:Nat} {x:J},r[j]?=some x->Az.flatten[i*z+j]?=some x
 |[],_,i,r,hi,_,_,_=>by simp at hi
 |q::Az,hl,0,r,hi,j,x,hj=>by simp at hi;subst hi;have:j<q.length:=(Ak.1 hj).1;simp only[Mv,B0,CW];rw[Aj this];exact hj
 |q::Az,hl,i+1,r,hi,j,x,hj=>by
  simp at hi;have hq:q.length=z:=hl q AK;rw[CW,Bm (by rw[hq,BM];omega)];have:=TP (Az:=Az) (λr hr=>hl r (by simp[hr])) hi hj;rw[<-this];congr 1
  rw[hq,BM];omega
def Hs{J:Type}{z:Nat}:∀{Az:List (List J)},(∀r∈Az,r.length=z)->Az.flatten.length=Az.length*z
 |[],_=>AK
 |q::Az,hl=>by have hq:q.length=z:=hl q AK;simp[hq,Hs (Az:=Az) (λr hr=>hl r (by simp[hr])),BM,OU]
def N5{Az:List (List Aa)}{us:List Value}{z b o:Nat}(hl:∀r∈Az,r.length=z)(hv:Bi U Az.flatten us)(hi:∀(j:Nat) (u:Value),us[j]?=some u->U.Io b (o+j)=some u):E7 U Az z b o:=by refine E7.Ha λi r hr=>⟨hl r (CB hr),C4.Ha λj x hj=>?_⟩;obtain⟨u,hu,hx⟩:=hv.get (TP hl hr hj);exact⟨u,by rw[Ri];exact hi _ _ hu,hx⟩
def Dc.drew(hr:Dc C U0 w0 U O Z h a w):Dc C U0 w0 U O Z h a w.drew:=hr.I5 (hr.D4.same rfl) (K6.drew U w)
def BW.S4(Z:BW):Z.at Z.length= .undef:=by simp[BW.at,List.getD]
def Dc.Wc(hr:Dc C U0 w0 U O Z h a w){x:Aa}{v:Value}(hv:BU U x v)(ho:IQ U w0.heap.size w Z.length none v x)(d:Option Nat):∃U',Dc C U0 w0 U' O (Z.put d (.Bw x)) h (a.put d v) w:=by
 cases d with
 |none=>exact⟨U,hr⟩
 |some d=>
  rcases ho with ho|⟨g,n,cap,us,e,z,Az,h1,h2,f,b,c⟩
  .exact⟨U,hr.put λs _=>⟨hv,.inl ho⟩⟩
  .have Ko:=hr.FQ (s':=d) (c':=none) f b (λ_ u=>by rw[BW.S4];simp) (λo ho=>by cases ho);exact⟨_,Ko.put λs hs=>by cases hs;exact⟨BU.mono (Hp _ _ _) _ _ hv,.inr ⟨g,n,cap,us,e,z,Az,h1,h2,by simp[Gh.FQ],b,c⟩⟩⟩
def Dc.Wd(hr:Dc C U0 w0 U O Z h a w)(us:Array Value)(e:TypeId){z n cap:Nat}{Az:List (List Aa)}(hz:0<z)(hn:Az.length=n)(hl:∀r∈Az,r.length=z)(YM:us.size=cap*z)(hc:n<=cap)(hm:cap<=maxLen)
  (hv:Bi U Az.flatten (us.toList.take (n*z))) (h1:∀u∈us.toList.take (n*z),u.oneCell'=true):
  ∃U',U.le U'/\Dc C U0 w0 U' O Z h a (w.alloc (.cells us e))/\BU U' (.sl z Az) (.slice (some ⟨w.heap.size,0,none⟩) n cap)/\IQ U' w0.heap.size (w.alloc (.cells us e)) Z.length none (.slice (some ⟨w.heap.size,0,none⟩) n cap) (.sl z Az):=by
 obtain⟨hi,ha⟩:=O1 hr.D4 us e (0,0) (n*z) (some (.tail Z.length none (n*z))) (λo u ho hu=>h1 u (CB (i:=o) (by rw[CZ ho];simpa using hu))) (.inr (.inl ⟨_,_,rfl⟩));refine⟨_,ha.le,hr.I5 hi ha,⟨⟨w.heap.size,0,none⟩,cap,by rw[hn],Ab,.inl rfl,N5 hl (Bi.mono ha.le _ _ hv) λj u hj=>?_⟩,.inr ⟨w.heap.size,n,cap,us,e,z,Az,rfl,rfl,by simp[Gh.Ds],hr.DX.size,heap_alloc_new w _,YM,hc,hm,hz⟩⟩;rw[Cj] at hj;split at hj;.rename_i hlt;simp only[Gh.Ds,BT,B0,Ae hlt];simpa using hj
 .cases hj
def We{size:Nat}:∀(vs:List Value) (k:Nat) (cells:Array Value),(∀v∈vs,v.cells.size=size)->(k+vs.length)*size<=cells.size->
  Instr.fill (λi=>some (i*size,size)) cells ((vs.zipIdx k).map λp=>(p.2,p.1))=some (cells.toList.take (k*size)++vs.flatMap (·.cells.toList)++cells.toList.drop ((k+vs.length)*size)).toArray
 |[],k,cells,_,_=>by simp[Instr.fill]
 |v::vs,k,cells,hv,hl=>by
  have hs:v.cells.size=size:=hv v AK;simp only[Be] at hl;have En:(k+1)*size+vs.length*size<=cells.size:=by rw[<-BM];exact Bu (Mu (by congr 1;omega)) hl
  have Yb:(k+1)*size=k*size+size:=by rw[BM,D5]
  simp only[oU,Bs,Instr.fill];have f:¬(v.cells.size≠size\/k*size+v.cells.size>cells.size):=by rw[hs];omega
  simp only[Ca,decide_not,Oy,CX,aR6,SF] at*;rw[Ac f];have hf:=N2 v.cells.toList (k*size) 0 cells (by simp[hs];omega);have aMf:v.cells.zipIdx.foldl (λcs (c,j)=>cs.setIfInBounds (k*size+j) c) cells=(cells.toList.take (k*size)++v.cells.toList++cells.toList.drop (k*size+size)).toArray:=by rw[<-aP9,aL1];rw[hf];simp[hs]
  rw[aMf];have hlen:(cells.toList.take (k*size)++v.cells.toList++cells.toList.drop (k*size+size)).length=cells.size:=by simp[hs];omega
  rw[We vs (k+1) _ (λu hu=>hv u (by simp[hu])) (by simp only[Cb];rw[hlen,BM];exact En)]
  congr 2
  have b:(cells.toList.take (k*size)++v.cells.toList).length=(k+1)*size:=by simp[hs];omega
  have e:(cells.toList.take (k*size)++v.cells.toList++cells.toList.drop (k*size+size)).take ((k+1)*size)=cells.toList.take (k*size)++v.cells.toList:=by rw[<-b];exact FB
  have d:(cells.toList.take (k*size)++v.cells.toList++cells.toList.drop (k*size+size)).drop ((k+1+vs.length)*size)=cells.toList.drop ((k+(vs.length+1))*size):=by
   rw[SG,AW (by rw[b];exact DU _ Ab),b,Ei,BV];congr 1
   have:(k+1+vs.length)*size-(k+1)*size=vs.length*size:=by rw[BM (k+1)];omega
   rw[this,BM k,BM vs.length];omega
  rw[e,d];simp
def La{P:Program}{t:TypeId}(h:L6 P t=true):∃i z,P.info? t=some i/\i.zero=some z/\z.cells.size=i.size:=by
 unfold L6 at h;split at h
 .rename_i i hi;split at h;.rename_i z hz;exact⟨i,z,hi,hz,by simpa using h⟩
  .cases h
 .cases h
def JR{P:Program}{t:TypeId}{n:Nat}{i:TypeInfo}(h:B6 P t=some n)(hi:P.info? t=some i):i.size=n:=by simpa[B6,hi] using h
def LM{P:Program}{t:TypeId}{n:Nat}{i:TypeInfo}(h:J5 P t=some n)(hi:P.info? t=some i):i.bytes=n:=by simpa[J5,hi] using h
def Wf:∀{args:List Aa} {us:List Value} {z:Nat},Bi U args us->(∀x∈args,x.cells.length=z)->0<z->Bi U (args.map (·.cells)).flatten (us.flatMap (·.cells.toList))/\(∀u∈us.flatMap (·.cells.toList),u.oneCell'=true)/\∀u∈us,u.cells.size=z
 |[],us,z,h,_,_=>by rw[Bi] at h;subst h;exact⟨rfl,AK,AK⟩
 |x::args,us,z,h,hl,hz=>by
  obtain⟨u,DM,rfl,h1,h2⟩:=h;have hx:=hl x AK;obtain⟨b,e⟩:=Hq h1 Ab;obtain⟨d,r2,c⟩:=Wf h2 (λy hy=>hl y (by simp[hy])) hz;refine⟨by simpa using b.append d,λv hv=>?_,λv hv=>?_⟩;.simp only[Mw,Av] at hv;exact hv.elim (e v) (r2 v)
  .rcases AS.1 hv with rfl|hv
   .have:=b.length;simp at this;omega
   .exact c v hv
def YV{a:Act}:∀{l:List (Nat×Operand)} {k:Nat},l.map (·.1)=List.range' k l.length->l.map (λp=>(p.1,a.eval p.2))=((l.map λp=>a.eval p.2).zipIdx k).map λp=>(p.2,p.1)
 |[],k,_=>AK
 |(i,x)::l,k,h=>by simp only[Bs,Be,List.range'_succ,E4] at h;obtain⟨rfl,h⟩:=h;simp[oU,YV h]
def dz{o:Oper}{t e:TypeId}{len n:Nat}{parts:Array (Nat×Operand)}{args:List Aa}{u:Aa}(ho:o.op= .buildSlice t len parts)(ht:C.P.underlying t=some (.slice e))(KR:B6 C.P e=some (n+1))(hp:parts.toList.map (·.1)=List.range len)(dR:L6 C.P e=true)
  (ha:BC C Z (parts.toList.map (·.2))=some args) (hu:AB (.BI (n+1)) args=some u) (hr:Dc C U0 w0 U O Z h a w):FY C U0 w0 o a w (Z.put o.dst (.Bw u)) h:=by
 obtain⟨i,z,hi,hz,Z5⟩:=La dR;have Qe:=JR KR hi;simp only[AB] at hu;split at hu
 .rename_i hc;cases hu;simp only[Bx,DK,qe,CX] at hc;obtain⟨Rm,IS⟩:=hc;have ES:=DY hr ha;have hlen:parts.toList.length=len:=by have:=Ce List.length hp;simpa using this
  have Vi:args.length=len:=by have:=ES.length;simp at this;simp at hlen;omega
  obtain⟨d,g,f⟩:=Wf ES Rm (C8 n);have YW:=d.length;rw[Hs (z:=n+1) (by intro r hr;obtain⟨x,hx,rfl⟩:=Bl.1 hr;exact Rm x hx),Al,Vi] at YW;have A3:∃cells:Array Value,cells.toList=(parts.toList.map (·.2) |>.map a.eval).flatMap (·.cells.toList)/\(Instr.buildSlice t len (parts.map λ(i,x)=>(i,a.eval x))).run C.P w= .ok (.slice (some ⟨w.heap.size,0,none⟩) len len) (w.alloc (.cells cells e)):=by
   have dP:(parts.map λ(i,x)=>(i,a.eval x)).toList=(((parts.toList.map (·.2)).map a.eval).zipIdx 0).map λp=>(p.2,p.1):=by have:=YV (a:=a) (l:=parts.toList) (k:=0) (by rw[hlen,<-aK6];exact hp);simp only[M8,List.map_map];exact this
   have pQ:=We (size:=n+1) ((parts.toList.map (·.2)).map a.eval) 0 ((Array.range (len*(n+1))).map (z.cells[·%z.cells.size]!)) f (by simp at hlen⊢;rw[hlen];exact Ag _);rw[<-dP] at pQ;have e0:((Array.range (len*(n+1))).map (z.cells[·%z.cells.size]!)).toList.drop ((0+((parts.toList.map (·.2)).map a.eval).length)*(n+1))=[]:=by apply AW;simp at hlen⊢;rw[hlen];exact Ag _
   rw[e0] at pQ;simp only[Mv,Kl,BV,BK] at pQ;refine⟨_,rfl,?_⟩;by_cases h0:len*(n+1)=0
   .have c:len=0:=by
     rcases Nat.mul_eq_zero.1 h0 with h|h
     .exact h
     .omega
    subst c;have Ż:parts=#[]:=by apply F7;simpa using hlen
    subst Ż;have b:(Array.range 0:Array Nat)=#[]:=rfl;simp[Instr.buildSlice,run_underlying ht,sizeOf,typeInfo,hi,newRow,Instr.fill,b]
   .exact run_buildSlice w t e len _ _ i z ht hi hz (by rw[Qe];rw[Vi] at IS;omega) (by rw[Qe];exact h0) (by rw[Qe];exact pQ)
  obtain⟨cells,hcells,A3⟩:=A3;have hcs:cells.size=len*(n+1):=by rw[<-Ci,hcells];exact YW
  obtain⟨U',En,F0,DG,FG⟩:=hr.Wd cells e (z:=n+1) (n:=len) (cap:=len) (Az:=args.map (·.cells)) (C8 n) (by simp[Vi]) (by intro r hr;obtain⟨x,hx,rfl⟩:=Bl.1 hr;exact Rm x hx) hcs (Ag _)
   (by rw[Vi] at IS;have:len<=len*(n+1):=IJ _ (C8 n);simp only[maxLen];omega) (by rw[hcells,AD (by rw[YW];exact Ag _)];exact d) (by rw[hcells,AD (by rw[YW];exact Ag _)];exact g)
  obtain⟨j,LL⟩:=F0.Wc DG FG o.dst;exact FY.value (by simp only[execOp,ho];exact DF A3) LL
 .cases hu
def d_{o:Oper}{t e:TypeId}{len n:Nat}{parts:Array (Nat×Operand)}(ho:o.op= .buildSlice t len parts)(ht:C.P.underlying t=some (.slice e))(KR:B6 C.P e=some (n+1))(hp:parts.toList.map (·.1)=List.range len)(dR:L6 C.P e=true)(h0:len=0)
  (hr:Dc C U0 w0 U O Z h a w):FY C U0 w0 o a w (Z.put o.dst (.Bw (.Gb (n+1)))) h:=by
 subst h0;obtain⟨i,z,hi,hz,Z5⟩:=La dR;have Ż:parts=#[]:=by apply F7;have:=Ce List.length hp;simpa using this
 subst Ż;have b:(Array.range 0:Array Nat)=#[]:=rfl;have A3:(Instr.buildSlice t 0 ((#[]:Array (Nat×Operand)).map λ(i,x)=>(i,a.eval x))).run C.P w= .ok (.slice (some ⟨w.heap.size,0,none⟩) 0 0) (w.alloc (.cells #[] e)):=by simp[Instr.buildSlice,run_underlying ht,sizeOf,typeInfo,hi,newRow,Instr.fill,b]
 obtain⟨U',En,F0,_,_⟩:=hr.Wd #[] e (z:=n+1) (n:=0) (cap:=0) (Az:=[]) (C8 n) rfl AK AK (Ag _) (by simp[maxLen]) (by rw[Mv];exact(rfl:Bi U [] [])) AK;obtain⟨c,LL⟩:=F0.Wc (x:= .Gb (n+1)) (v:= .slice (some ⟨w.heap.size,0,none⟩) 0 0) ⟨_,rfl⟩ (.inl (.inr ⟨_,rfl⟩)) o.dst;exact FY.value (by simp only[execOp,ho];exact DF A3) LL
def pU{t':TypeId}{size bytes:Nat}{v u r:Aa}{d:Value}(Gg:(∃i,C.P.underlying t'=some (.slice i))\/C.P.underlying t'=some .string)(hi:Hj U h w)(hu:BU U u d)(hp:HP size bytes v u=some r):
  ∃(Az:List (List Aa)) (news:List Value),DJ size bytes v Az=some r/\Src C.P size t' d Az.length news w/\Bi U Az.flatten news/\(∀r∈Az,r.length=size):=by
 unfold HP at hp;split at hp;.rw[show d=_ from hu];exact⟨[],[],hp,⟨Gg,λ_=>rfl,run_firstCells_none w size 0 0 0,run_firstCells_none w.drew size 0 0 0,AK,AK⟩,rfl,AK⟩
 .rename_i z;split at hp;.obtain⟨b,rq⟩:=hu;rw[rq];exact⟨[],[],hp,⟨Gg,λ_=>rfl,run_firstCells_some w _ _ _ _ _ [] AK (λj x hj=>by simp at hj),run_firstCells_some w.drew _ _ _ _ _ [] AK (λj x hj=>by simp at hj),AK,AK⟩,rfl,AK⟩
  .cases hp
 .rename_i z Az;split at hp
  .rename_i hz;subst hz;obtain⟨c,cap,rq,O8,hsp,hR⟩:=hu;obtain⟨us,g,e,f⟩:=hR.values;have Nl:∀(j:Nat) (x:Value),us[j]?=some x->c.add j=⟨c.block,c.off+j,none⟩:=λj x hj=>by
    have hpos:0<Az.length:=by
     rcases Jf Az.length with h0|h0
     .have:us.length=0:=by rw[e,h0,Mv]
      rw[Dn this] at hj;simp at hj
     .exact h0
    have kL:=NW hsp O8 hpos;generalize c.block=b at*;generalize c.off=o at*;subst kL;unfold Addr.add;split<;>simp_all
   rw[rq];refine⟨Az,us,hp,⟨Gg,λ_=>rfl,run_firstCells_some w _ _ _ _ _ us e (λj x hj=>by rw[Nl j x hj];exact(hi.Io _ _ _ (f j x hj)).1),run_firstCells_some w.drew _ _ _ _ _ us e (λj x hj=>by rw[Nl j x hj];exact(hi.Io _ _ _ (f j x hj)).1),e,λx hx=>?_⟩,g,λr hr=>?_⟩;.obtain⟨j,hj⟩:=CR hx;exact(hi.Io _ _ _ (f j x hj)).2.1
   .obtain⟨j,hj⟩:=CR hr;exact(hR.get hj).1
  .cases hp
 .rename_i s;split at hp
  .rename_i hz;subst hz;rw[show d=_ from hu];have hlen:(Cg s).length=(⟨⟨s⟩⟩:ByteArray).size:=by simp[Cg,ByteArray.size]
   have hrel:∀l:List UInt8,Bi U (Cg l).flatten (l.map λb=>Value.int .u8 b.toNat):=by
    intro l;induction l with
    |nil=>rfl
    |cons b l ih=>exact⟨_,_,rfl,rfl,ih⟩
   refine⟨Cg s,byteCells ⟨⟨s⟩⟩,hp,?_,?_,λr hr=>?_⟩;.rw[hlen];exact⟨Gg,λ_=>rfl,firstCells_string _ w,firstCells_string _ w.drew,by rw[byteCells_length,FF],λu hu=>by obtain⟨_,_,rfl⟩:=Bl.1 hu;rfl⟩
   .simpa[byteCells] using hrel s
   .obtain⟨b,_,rfl⟩:=Bl.1 hr;rfl
  .cases hp
 .cases hp
def Dc.ee(hr:Dc C U0 w0 U O Z h a w){g n cap z:Nat}{us:Array Value}{e:TypeId}{rr Az:List (List Aa)}{news:List Value}(FG:U.Bw g=some (.tail Z.length none (n*z)))(hB:w0.heap.size<=g)(hg:w.heap[g]?=some (.cells us e (0,0)))
  (YM:us.size=cap*z) (hm:cap<=maxLen) (hz:0<z) (hv:BU U (.sl z rr) (.slice (some ⟨g,0,none⟩) n cap)) (hl:∀r∈Az,r.length=z) (hn:Bi U Az.flatten news) (h1:∀u∈news,u.oneCell'=true) (hroom:n+Az.length<=cap):
  ∃U',U.le U'/\Dc C U0 w0 U' O Z h a (w.setRow g (us.toList.take (n*z)++news++us.toList.drop (n*z+news.length)).toArray)/\BU U' (.sl z (rr++Az)) (.slice (some ⟨g,0,none⟩) (n+Az.length) cap)/\
   IQ U' w0.heap.size (w.setRow g (us.toList.take (n*z)++news++us.toList.drop (n*z+news.length)).toArray) Z.length none (.slice (some ⟨g,0,none⟩) (n+Az.length) cap) (.sl z (rr++Az)):=by
 obtain⟨q,cap',eT,O8,_,hR⟩:=hv;simp only[Value.slice.injEq,BE] at eT;obtain⟨rfl,rfl,rfl⟩:=eT;simp only at hR;have OC:news.length=Az.length*z:=by rw[hn.length,Hs hl]
 have hfit:(rr.length+Az.length)*z<=us.size:=by rw[YM];exact DU _ hroom
 rw[BM] at hfit;have ż:(us.toList.take (rr.length*z)).length=rr.length*z:=Eg;obtain⟨vs,l,p,k⟩:=hR.values;have hvs:vs=us.toList.take (rr.length*z):=by
  apply QJ;intro j;by_cases hj:j<rr.length*z
  .have c:j<vs.length:=by rw[p];exact hj
   have hc:=(hr.D4.Io _ _ _ (k j _ (Ai c))).1;rw[cell_of_row w _ _ us e (0,0) hg,B0] at hc;rw[Ai c,CZ hj];simpa using hc.symm
  .rw[D9 Ab,D9 (by rw[ż];omega)]
 rw[hvs] at l;have OO:∀u∈us.toList.take (rr.length*z),u.oneCell'=true:=λu hu=>by rw[<-hvs] at hu;obtain⟨j,hj⟩:=CR hu;exact(hr.D4.Io _ _ _ (k j u hj)).2.1
 have d:(rr.length+Az.length)*z=rr.length*z+Az.length*z:=BM _ _ _;have Ĥ:((us.toList.take (rr.length*z)++news++us.toList.drop (rr.length*z+news.length)).toArray).toList.take ((rr.length+Az.length)*z)=us.toList.take (rr.length*z)++news:=by
  have:(us.toList.take (rr.length*z)++news).length=(rr.length+Az.length)*z:=by rw[Au,ż,OC,d]
  rw[<-this];exact FB
 have KR:(us.toList.take (rr.length*z)++news++us.toList.drop (rr.length*z+news.length)).length=us.size:=by simp[OC];omega
 generalize m:(us.toList.take (rr.length*z)++news++us.toList.drop (rr.length*z+news.length)).toArray=DM at*;have aMi:DM.size=us.size:=by rw[<-m];simpa using KR
 obtain⟨hi,En⟩:=kF hr.D4 FG hg DM ((rr.length+Az.length)*z) Z.length none (λo ho=>by
   rw[<-m,AJ,List.getElem?_toArray,Aj Ab,CZ ho];simp)
  Ab (λo u ho hu=>by
   have:u∈DM.toList.take ((rr.length+Az.length)*z):=by refine CB (i:=o) ?_;rw[CZ ho];simpa using hu
   rw[Ĥ,Av] at this;exact this.elim (OO u) (h1 u)) (λo v hv=>by
   have:=(hr.D4.Io _ _ _ hv).1;rwa [cell_of_row w _ _ us e (0,0) hg] at this)
 have hk:PR g U w (U.Ds g DM ((rr.length+Az.length)*z) (some (.tail Z.length none ((rr.length+Az.length)*z)))) (w.setRow g DM):=
  ⟨En,λb x hb hx _=>⟨by simp only[Gh.Ds,Ac hb];exact hx,setRow_other w g b DM hb⟩⟩
 have f:E7 (U.Ds g DM ((rr.length+Az.length)*z) (some (.tail Z.length none ((rr.length+Az.length)*z)))) (rr++Az) z g 0:=by
  refine N5 (us:=DM.toList.take ((rr.length+Az.length)*z)) (λr hr=>?_) ?_ (λj u hj=>?_)
  .rcases Av.1 hr with hr|hr
   .obtain⟨i,hi⟩:=CR hr;exact(hR.get hi).1
   .exact hl r hr
  .rw[Ĥ,KM];exact(Bi.mono En _ _ l).append (Bi.mono En _ _ hn)
  .rw[Cj] at hj;split at hj;.rename_i hlt;simp only[Gh.Ds,BT,B0,Ae hlt];simpa using hj
   .cases hj
 refine⟨_,En,⟨hi,⟨hr.fr.size,λs=>?_⟩,hr.DX.write (g:=g) hB En AK rfl rfl rfl (λb hb=>⟨setRow_other w g b DM hb,by simp only[Gh.Ds,Ac hb]⟩),hr.defers,λx cs hx=>C4.mono En _ _ _ (hr.GY x cs hx)⟩,
  ⟨⟨g,0,none⟩,cap,AK,by simpa using hroom,.inl rfl,f⟩,.inr ⟨g,rr.length+Az.length,cap,DM,e,z,rr++Az,rfl,rfl,by simp[Gh.Ds],hB,setRow_heap w g us DM e (0,0) hg,by rw[aMi,YM],hroom,hm,hz⟩⟩
 by_cases hs:s=Z.length;.subst hs;rw[BW.S4];trivial
 .exact(hr.fr.Ij s).keptBut FG hk (by simp only[Kx.jZ];intro hx;cases hx;exact hs rfl)
def N6{t t' ty:TypeId}{ts:Array TypeId}{xs:Array Value}(h0:ts[0]?=some t)(h1:ts[1]?=some t'):Builtin.append_ ts ty xs=Builtin.append_ #[t,t'] ty xs:=by simp only[Builtin.append_,h0,h1];rfl
def Bi.r_{l:List Aa}{us:List Value}{n:Nat}(h:Bi U l us)(hn:us.length<=n):Bi U l (us.take n):=by rw[AD hn];exact h
def Nn{cs:List Aa}{z:Nat}:∀{n off:Nat},(Cz cs z off n).flatten=(cs.drop off).take (n*z)
 |0,off=>by simp[Cz]
 |n+1,off=>by rw[Cz,CW,Nn,BM,D5,OU (n*z) z,Ē,Ei]
def OD{cs:List Aa}{z:Nat}:∀{n off:Nat},(Cz cs z off n).length=n
 |0,off=>rfl
 |n+1,off=>by rw[Cz,Be,OD]
def Qp{cs:List Aa}{z:Nat}:∀{n off:Nat},off+n*z<=cs.length->∀r∈Cz cs z off n,r.length=z
 |0,off,_,r,hr=>by simp[Cz] at hr
 |n+1,off,hl,r,hr=>by
  rw[BM,D5] at hl;rw[Cz,AS] at hr;rcases hr with rfl|hr
  .rw[As,Bc];omega
  .exact Qp Ab r hr
def Wg{t':TypeId}{size:Nat}{u:Aa}{g:Value}{Az:List (List Aa)}(Gg:(∃m,C.P.underlying t'=some (.slice m))\/C.P.underlying t'=some .string)(hi:Hj U h w)(hu:BU U u g)(hp:GX h size u=some Az):
  ∃news:List Value,Src C.P size t' g Az.length news w/\Bi U Az.flatten news/\(∀r∈Az,r.length=size):=by
 unfold GX at hp;split at hp;.cases hp;rw[show g=_ from hu];exact⟨[],⟨Gg,λ_=>rfl,run_firstCells_none w size 0 0 0,run_firstCells_none w.drew size 0 0 0,AK,AK⟩,rfl,AK⟩
 .rename_i z;split at hp;.cases hp;obtain⟨b,rq⟩:=hu;rw[rq];exact⟨[],⟨Gg,λ_=>rfl,run_firstCells_some w _ _ _ _ _ [] AK (λj x hj=>by simp at hj),run_firstCells_some w.drew _ _ _ _ _ [] AK (λj x hj=>by simp at hj),AK,AK⟩,rfl,AK⟩
  .cases hp
 .rename_i z i;split at hp
  .rename_i hz;cases hp;subst hz;obtain⟨f,cap,rq,O8,hsp,hR⟩:=hu;obtain⟨us,k,c,d⟩:=hR.values;have Nl:∀(j:Nat) (x:Value),us[j]?=some x->f.add j=⟨f.block,f.off+j,none⟩:=λj x hj=>by
    have hpos:0<Az.length:=by
     rcases Jf Az.length with h0|h0
     .have:us.length=0:=by rw[c,h0,Mv]
      rw[Dn this] at hj;simp at hj
     .exact h0
    have kL:=NW hsp O8 hpos;generalize f.block=b at*;generalize f.off=o at*;subst kL;unfold Addr.add;split<;>simp_all
   rw[rq];refine⟨us,⟨Gg,λ_=>rfl,run_firstCells_some w _ _ _ _ _ us c (λj x hj=>by rw[Nl j x hj];exact(hi.Io _ _ _ (d j x hj)).1),run_firstCells_some w.drew _ _ _ _ _ us c (λj x hj=>by rw[Nl j x hj];exact(hi.Io _ _ _ (d j x hj)).1),c,λx hx=>?_⟩,k,λr hr=>?_⟩;.obtain⟨j,hj⟩:=CR hx;exact(hi.Io _ _ _ (d j x hj)).2.1
   .obtain⟨j,hj⟩:=CR hr;exact(hR.get hj).1
  .cases hp
 .rename_i s;split at hp
  .rename_i hz;cases hp;subst hz;rw[show g=_ from hu];have hlen:(Cg s).length=(⟨⟨s⟩⟩:ByteArray).size:=by simp[Cg,ByteArray.size]
   have hrel:∀l:List UInt8,Bi U (Cg l).flatten (l.map λb=>Value.int .u8 b.toNat):=by
    intro l;induction l with
    |nil=>rfl
    |cons b l ih=>exact⟨_,_,rfl,rfl,ih⟩
   refine⟨byteCells ⟨⟨s⟩⟩,?_,?_,λr hr=>?_⟩;.rw[hlen];exact⟨Gg,λ_=>rfl,firstCells_string _ w,firstCells_string _ w.drew,by rw[byteCells_length,FF],λu hu=>by obtain⟨_,_,rfl⟩:=Bl.1 hu;rfl⟩
   .simpa[byteCells] using hrel s
   .obtain⟨b,_,rfl⟩:=Bl.1 hr;rfl
  .cases hp
 .rename_i id off n z;split at hp
  .rename_i hz;subst hz;split at hp
   .rename_i cs hcs;split at hp
    .rename_i hl;cases hp;obtain⟨b,cap,hb,rq,O8,bc,KR⟩:=hu;obtain⟨us,e,fr,k,pf,c,d⟩:=hi.cells id cs hcs b hb;have dQ:(us.toList.take cs.length).length=cs.length:=c.length;have OC:(((us.toList.take cs.length).drop off).take (n*z)).length=n*z:=by rw[As,Bc,dQ];omega
     have Nl:∀j,(⟨b,off,none⟩:Addr).add j=⟨b,off+j,none⟩:=λj=>by unfold Addr.add;split<;>simp_all
     have JP:∀(j:Nat) (x:Value),(((us.toList.take cs.length).drop off).take (n*z))[j]?=some x->w.cell? ((⟨b,off,none⟩:Addr).add j)=some x:=λj x hj=>by
      rw[Nl,cell_of_row w _ _ us e fr k];rw[Cj] at hj;split at hj
      .rw[Ct,Cj] at hj;split at hj;.simpa using hj
       .cases hj
      .cases hj
     rw[rq,OD];refine⟨((us.toList.take cs.length).drop off).take (n*z),⟨Gg,λ_=>rfl,run_firstCells_some w _ _ _ _ _ _ OC JP,run_firstCells_some w.drew _ _ _ _ _ _ OC (λj x hj=>JP j x hj),OC,λx hx=>d x (BG (Bn hx))⟩,?_,Qp hl⟩;rw[Nn];exact(c.drop off).take (n*z)
    .cases hp
   .cases hp
  .cases hp
 .cases hp
def OE{o:Oper}{c:Call}{t t' e:TypeId}{n b:Nat}{s x:Operand}{v u r:Aa}{Az:List (List Aa)}{news:List Value}(ho:o.op= .call c)(hc:c.callee= .builtin .append)(h0:c.argTypes[0]?=some t)(h1:c.argTypes[1]?=some t')(ES:c.args.toList=[s,x])(ht:C.P.underlying t=some (.slice e))
  (Gg:(∃D,C.P.underlying t'=some (.slice D))\/C.P.underlying t'=some .string) (KR:B6 C.P e=some (n+1)) (eo:J5 C.P e=some (b+1)) (FG:K0 C Z s=true) (dR:L6 C.P e=true) (hv:BC C Z [s,x]=some [v,u])
  (Gq:DJ (n+1) (b+1) v Az=some r) (Kr:Src C.P (n+1) t' (a.eval x) Az.length news w) (Vj:Bi U Az.flatten news) (jN:∀q∈Az,q.length=n+1) (hr:Dc C U0 w0 U O Z h a w):FY C U0 w0 o a w ((Z.DO (Dk Z s)).put o.dst (.Bw r)) h:=by
 obtain⟨i,z,hi,hz,Z5⟩:=La dR;have Qe:=JR KR hi;have Ž:=LM eo hi;obtain⟨_,_,e0,hvs,jO⟩:=Ff hr hv;cases e0;have rp:E6 C Z s=some v:=by
  unfold BC at hv;split at hv;.rename_i p ps A F;cases hv;exact A
  .cases hv
 obtain⟨U1,En,Ko,DG,J⟩:=O7 hr FG rp (Z.DO (Dk Z s)).length none;have et:=Bi.mono En _ _ Vj;have Kp:c.args.map a.eval=#[a.eval s,a.eval x]:=by apply HA;simp[ES]
 have MF:∀v' w',(Builtin.append_ #[t,t'] o.type #[a.eval s,a.eval x]).run C.P w= .ok v' w'->(execOp a.eval o).run C.P w= .ok (.value v') w':=λv' w' A3=>by
  have:execOp a.eval o=(do pure (Next.value (<-Builtin.append_ #[t,t'] o.type #[a.eval s,a.eval x]))):=by rw[<-Kp,<-N6 (ty:=o.type) h0 h1];simp only[execOp,ho,resolve,hc];rfl
  rw[this];exact DF A3
 have J9:Src C.P i.size t' (a.eval x) Az.length news w:=by rw[Qe];exact Kr
 have OC:news.length=Az.length*(n+1):=Kr.newsLen;have FN:∀(base:Option Addr) (k cap:Nat) (rr:List (List Aa)) (olds:List Value),a.eval s= .slice base k cap->rr.length=k->(∀q∈rr,q.length=n+1)->Bi U1 rr.flatten olds->(∀q∈olds,q.oneCell'=true)->
   (Builtin.firstCells i.size k (.slice base k cap)).run C.P w.drew= .ok olds.toArray w.drew->cap<k+Az.length->(k+Az.length)*(b+1)<=AX->r= .sl (n+1) (rr++Az)->
   FY C U0 w0 o a w ((Z.DO (Dk Z s)).put o.dst (.Bw r)) h:=by
  intro base k cap rr olds hs hk l bd Ÿ d hlt PS TQ;have QQ:k+Az.length<=AX:=Bu (IJ _ (C8 b)) PS;have F9:=run_append_grow_src (P:=C.P) w t t' o.type e i z ht hi hz base k cap olds d (a.eval x) Az.length news J9 hlt (by simp only[AX] at QQ;omega) (by rw[Ž];exact growslice_fits hlt PS);rw[<-hs] at F9;have Ef:=grownCap_ge w (k+Az.length) cap e;have aMj:olds.length=k*(n+1):=by rw[bd.length,Hs l,hk]
  have xH:(olds++news).length=(k+Az.length)*(n+1):=by rw[Au,aMj,OC,BM]
  obtain⟨M,eR,LL,Wb,f⟩:=Ko.drew.Wd ((olds++news).toArray++Builtin.zeroCells z.cells (grownCap w (k+Az.length) cap e-(k+Az.length))) e (z:=n+1) (n:=k+Az.length) (cap:=grownCap w (k+Az.length) cap e) (Az:=rr++Az) (C8 n) (by simp[hk])
   (λq hq=>(Av.1 hq).elim (l q) (jN q))
   (by simp only[JZ,Cb,size_zeroCells,Z5,Qe,xH,<-BM];congr 1;omega) Ef (grownCap_le_maxLen w _ _ _ (by simp only[AX] at QQ;simp only[maxLen];omega))
   (by simp only[GU,KM];rw[<-xH,FB];exact bd.append et)
   (λq hq=>by simp only[GU] at hq;rw[<-xH,FB,Av] at hq;exact hq.elim (Ÿ q) (Kr.one q))
  rw[TQ];obtain⟨L,ž⟩:=LL.Wc Wb f o.dst;exact FY.value (MF _ _ F9) ž
 rcases J with(rfl|⟨m,rfl⟩)|⟨g,k,cap,us,G,m,rr,rfl,JC,SN,hB,hg,YM,sd,hm,I⟩
 .have JC:a.eval s= .slice none 0 0:=DG;cases Az with
  |nil=>
   have TQ:r= .slnil:=by simpa[DJ] using Gq.symm
   have pO:news=[]:=Dn (by simpa using OC);subst pO;have A3:(Builtin.append_ #[t,t'] o.type #[a.eval s,a.eval x]).run C.P w= .ok (.slice none 0 0) w:=by rw[JC];have hl:=J9.len;have Vk:=J9.cells;simp only[B1] at hl Vk;rcases Gg with⟨D,hk⟩|hk<;>simp[Builtin.append_,run_underlying ht,run_underlying hk,sizeOf,typeInfo,hi,hl,Vk]
   rw[TQ];exact FY.value (MF _ _ A3) (Ko.put λ_ _=>⟨rfl,.inl (.inl rfl)⟩)
  |cons q Az=>
   have O9:r= .sl (n+1) (q::Az)/\(q::Az).length*(b+1)<=AX:=by
    simp only[DJ] at Gq;split at Gq;.rename_i hb;cases Gq;exact⟨rfl,hb⟩
    .cases Gq
   exact FN none 0 0 [] [] JC rfl AK rfl AK (run_firstCells_none _ _ _ _ _) AK (by simpa using O9.2) (by simpa using O9.1)
 .obtain⟨g,JC⟩:=id DG;cases Az with
  |nil=>
   have TQ:m=n+1/\r= .Gb m:=by
    simp only[DJ] at Gq;split at Gq;.rename_i Yc;cases Gq;exact⟨Yc,by rw[Yc]⟩
    .cases Gq
   obtain⟨rfl,TQ⟩:=TQ;have pO:news=[]:=Dn (by simpa using OC);subst pO;have A3:(Builtin.append_ #[t,t'] o.type #[a.eval s,a.eval x]).run C.P w= .ok (.slice (some ⟨g,0,none⟩) 0 0) w:=by rw[JC];have hl:=J9.len;have Vk:=J9.cells;simp only[B1] at hl Vk;rcases Gg with⟨D,hk⟩|hk<;>simp[Builtin.append_,run_underlying ht,run_underlying hk,sizeOf,typeInfo,hi,hl,Vk,storeCells,Result.andThen]
   rw[TQ];exact FY.value (MF _ _ A3) (Ko.put λ_ _=>⟨⟨g,rfl⟩,.inl (.inr ⟨_,rfl⟩)⟩)
  |cons q Az=>
   have O9:r= .sl (n+1) (q::Az)/\(q::Az).length*(b+1)<=AX:=by
    simp only[DJ] at Gq;split at Gq;.rename_i hb;cases Gq;exact⟨rfl,hb.2⟩
    .cases Gq
   exact FN (some ⟨g,0,none⟩) 0 0 [] [] JC rfl AK rfl AK (run_firstCells_some w.drew _ _ _ _ _ [] AK (λj x hj=>by simp at hj)) AK (by simpa using O9.2) (by simpa using O9.1)
 .obtain⟨K,H,eT,O8,_,hR⟩:=id DG;rw[JC] at eT;simp only[Value.slice.injEq,BE] at eT;obtain⟨rfl,hk,rfl⟩:=eT;subst hk;simp only at hR;have B:m=n+1/\r= .sl (n+1) (rr++Az)/\(Az=[]\/(rr.length+Az.length)*(b+1)<=AX):=by
   cases Az with
   |nil=>
    simp only[DJ] at Gq;split at Gq;.rename_i Yc;cases Gq;exact⟨Yc,by simp[Yc],.inl rfl⟩
    .cases Gq
   |cons q Az=>
    simp only[DJ] at Gq;split at Gq;.rename_i Yc;cases Gq;exact⟨Yc.1,rfl,.inr Yc.2⟩
    .cases Gq
  obtain⟨rfl,TQ,PS⟩:=B;by_cases hroom:rr.length+Az.length<=cap
  .have hfit:rr.length*(n+1)+news.length<=us.size:=by rw[OC,YM,<-BM];exact DU _ hroom
   have A3:=run_append_room_src (P:=C.P) w t t' o.type e i ht hi g 0 rr.length cap (a.eval x) Az.length news J9 hroom (λj hj=>by rw[cell_of_row w _ _ us G (0,0) hg,Qe,CU Ab];rfl) (λj hj=>frozen_of_row w _ _ us G hg)
   rw[B0,Qe,ER news _ us w hg hfit,<-JC] at A3;rw[JC] at DG;obtain⟨M,eR,LL,Wb,f⟩:=Ko.ee SN hB hg YM hm (C8 n) DG jN et Kr.one hroom;obtain⟨L,ž⟩:=LL.Wc Wb f o.dst;rw[TQ];exact FY.value (MF _ _ A3) ž
  .obtain⟨vs,A,F,E⟩:=hR.values;have Nl:∀j,(⟨g,0,none⟩:Addr).add j=⟨g,0+j,none⟩:=λj=>by unfold Addr.add;split<;>simp_all
   refine FN (some ⟨g,0,none⟩) rr.length cap rr vs JC rfl (λq hq=>?_) A (λq hq=>?_) ?_ Ab ?_ TQ;.obtain⟨j,hj⟩:=CR hq;exact(hR.get hj).1
   .obtain⟨j,hj⟩:=CR hq;exact(Ko.D4.Io _ _ _ (E j q hj)).2.1
   .rw[Qe];exact run_firstCells_some w.drew _ _ _ _ _ vs F (λj y hj=>by rw[Nl];exact(Ko.D4.Io _ _ _ (E j y hj)).1)
   .rcases PS with rfl|PS
    .simp at hroom;omega
    .exact PS
def kW{o:Oper}{c:Call}{t t' e:TypeId}{n b:Nat}{s x:Operand}{v u r:Aa}(ho:o.op= .call c)(hc:c.callee= .builtin .append)(h0:c.argTypes[0]?=some t)(h1:c.argTypes[1]?=some t')(ES:c.args.toList=[s,x])(ht:C.P.underlying t=some (.slice e))
  (Gg:(∃d,C.P.underlying t'=some (.slice d))\/C.P.underlying t'=some .string) (KR:B6 C.P e=some (n+1)) (eo:J5 C.P e=some (b+1)) (FG:K0 C Z s=true) (dR:L6 C.P e=true) (hv:BC C Z [s,x]=some [v,u])
  (hp:AB (.append (n+1) (b+1)) [v,u]=some r) (hr:Dc C U0 w0 U O Z h a w):FY C U0 w0 o a w ((Z.DO (Dk Z s)).put o.dst (.Bw r)) h:=by
 obtain⟨_,_,e0,hvs,jO⟩:=Ff hr hv;cases e0;simp only[AB] at hp;obtain⟨Az,news,Gq,Kr,Vj,jN⟩:=pU (w:=w) Gg hr.D4 jO hp;exact OE ho hc h0 h1 ES ht Gg KR eo FG dR hv Gq Kr Vj jN hr
def eU{o:Oper}{c:Call}{t t' e:TypeId}{n b:Nat}{s x:Operand}{v u r:Aa}(ho:o.op= .call c)(hc:c.callee= .builtin .append)(h0:c.argTypes[0]?=some t)(h1:c.argTypes[1]?=some t')(ES:c.args.toList=[s,x])(ht:C.P.underlying t=some (.slice e))
  (Gg:(∃d,C.P.underlying t'=some (.slice d))\/C.P.underlying t'=some .string) (KR:B6 C.P e=some (n+1)) (eo:J5 C.P e=some (b+1)) (FG:K0 C Z s=true) (dR:L6 C.P e=true) (hv:BC C Z [s,x]=some [v,u])
  (hp:Qn h (n+1) (b+1) v u=some r) (hr:Dc C U0 w0 U O Z h a w):FY C U0 w0 o a w ((Z.DO (Dk Z s)).put o.dst (.Bw r)) h:=by
 obtain⟨_,_,e0,hvs,jO⟩:=Ff hr hv;cases e0;unfold Qn at hp;cases hq:GX h (n+1) u with
 |none=>rw[hq] at hp;cases hp
 |some Az=>rw[hq] at hp;obtain⟨news,Kr,Vj,jN⟩:=Wg (w:=w) Gg hr.D4 jO hq;exact OE ho hc h0 h1 ES ht Gg KR eo FG dR hv hp Kr Vj jN hr
end
section
variable{C:FZ}{γ0 γ γ':Gh}{w0 w w':World}{Z:Nat->Nat}{U:BW}{h:Ah}{a:Act}{fid:FuncId}{ops:List Oper}
def RH:∀s:Aq,(Cg s).flatten=s.map λb=>Aa.int .u8 b.toNat
 |[]=>rfl
 |_::s=>by have:=RH s;simp only[Cg,Bs,CW] at this⊢;rw[this];rfl
def Mb(γ:Gh):∀l:Aq,Bi γ (Cg l).flatten (l.map λb=>Value.int .u8 b.toNat)
 |[]=>rfl
 |_::l=>⟨_,_,rfl,rfl,Mb γ l⟩
def KT(s:Aq)(cap:Nat):(bytesRow ⟨⟨s⟩⟩ cap).toList.take s.length=s.map λb=>Value.int .u8 b.toNat:=by have:(s.map λb=>Value.int .u8 (b.toNat:Int)).length=s.length:=AK;simp only[bytesRow,GU,M8];rw[<-this];exact FB
def Z6(s:Aq):(⟨⟨s⟩⟩:ByteArray).size=s.length:=by simp[ByteArray.size]
def sg{o:Oper}{src dst e:TypeId}{x:Operand}{v u:Aa}(ho:o.op= .convert src dst x)(hs:C.P.underlying src=some .string)(hd:C.P.underlying dst=some (.slice e))(he:C.P.underlying e=some (.int .u8))(hx:BC C U [x]=some [v])(hp:AB .s2b [v]=some u)(hr:Dc C γ0 w0 γ Z U h a w):
  FY C γ0 w0 o a w (U.put o.dst (.val u)) h:=by
 obtain⟨_,e0,hv⟩:=GN hr hx;cases e0;simp only[AB] at hp;split at hp
 .rename_i s Kp;cases Kp;split at hp
  .cases hp;have A3:=run_bytes_of_string (P:=C.P) w src dst e ⟨⟨s⟩⟩ hs hd he;rw[<-N0 hv] at A3;have ĥ:=grownCap_ge w s.length 0 e;rw[Z6] at A3;obtain⟨hi,ha⟩:=O1 hr.drew.D4 (bytesRow ⟨⟨s⟩⟩ (grownCap w s.length 0 e)) e ((bytesRow ⟨⟨s⟩⟩ (grownCap w s.length 0 e)).size,(bytesRow ⟨⟨s⟩⟩ (grownCap w s.length 0 e)).size+1) s.length none (λo u ho hu=>by have hm:u∈(bytesRow ⟨⟨s⟩⟩ (grownCap w s.length 0 e)).toList.take s.length:=CB (i:=o) (by rw[CZ ho];simpa using hu);rw[KT] at hm;obtain⟨b,_,rfl⟩:=Bl.1 hm;rfl) (.inl rfl)
   have F0:=hr.drew.I5 hi ha;refine FY.value (v:= .slice (some ⟨w.heap.size,0,none⟩) s.length (grownCap w s.length 0 e)) (by simp only[execOp,ho];exact DF A3) (F0.put λ_ _=>⟨⟨w.heap.size,0,none⟩,grownCap w s.length 0 e,by simp[Cg],by simpa[Cg] using ĥ,.inl rfl,?_⟩);refine N5 (us:=s.map λb=>Value.int .u8 b.toNat) (λr hr=>?_) (Mb _ s) (λj u hj=>?_);.obtain⟨b,_,rfl⟩:=Bl.1 hr;rfl
   .rw[<-KT s (grownCap w s.length 0 e),Cj] at hj;split at hj;.rename_i hlt;simp only[Gh.Ds,heap_drew,BT,B0,Ae hlt];simpa using hj
    .cases hj
  .cases hp
 .cases hp
def Z7{o:Oper}{src dst e:TypeId}{x:Operand}{v u:Aa}{h':Ah}(ho:o.op= .convert src dst x)(hs:C.P.underlying src=some .string)(hd:C.P.underlying dst=some (.slice e))(he:C.P.underlying e=some (.int .u8))(hx:E6 C U x=some v)(hp:IN h v=some (h',u))(hr:Dc C γ0 w0 γ Z U h a w):
  FY C γ0 w0 o a w (U.put o.dst (.val u)) h':=by
 have hv:=GJ hr hx;unfold IN at hp;split at hp
 .rename_i s;split at hp
  .cases hp;have A3:=run_bytes_of_string (P:=C.P) w src dst e ⟨⟨s⟩⟩ hs hd he;rw[<-N0 hv] at A3;have ĥ:=grownCap_ge w s.length 0 e;rw[Z6] at A3;have hl:(s.map λb=>Aa.int .u8 b.toNat).length=s.length:=AK;have c:(bytesRow ⟨⟨s⟩⟩ (grownCap w s.length 0 e)).size=grownCap w s.length 0 e:=by have e0:ByteArray.size ⟨⟨s⟩⟩=s.length:=Z6 s;simp only[bytesRow,JZ,Array.size_map,Array.size_replicate,e0];simp only[Cb];omega
   have jP:s.length<=maxLen:=by
    have jP:s.length<=AX:=by assumption
    simp only[AX] at jP;simp only[maxLen];omega
   obtain⟨γ',En,hm,F0,KR⟩:=hr.drew.newObj (bytesRow ⟨⟨s⟩⟩ (grownCap w s.length 0 e)) e ((bytesRow ⟨⟨s⟩⟩ (grownCap w s.length 0 e)).size,(bytesRow ⟨⟨s⟩⟩ (grownCap w s.length 0 e)).size+1) (s.map λb=>Aa.int .u8 b.toNat) (.inr (Ag _))
    (by rw[hl,KT];have:=Mb γ s;rw[RH] at this;exact this)
    (λu hu=>by rw[hl,KT] at hu;obtain⟨b,_,rfl⟩:=Bl.1 hu;rfl)
   exact FY.value (v:= .slice (some ⟨w.heap.size,0,none⟩) s.length (grownCap w s.length 0 e)) (by simp only[execOp,ho];exact DF A3) (F0.put λ_ _=>⟨w.heap.size,_,hm,rfl,ĥ,⟨C8 0,grownCap_le_maxLen w _ _ _ jP⟩,by rw[B0,FF,<-c];exact KR⟩)
  .cases hp
 .cases hp
def Ie{O:Type}(l:List O):∀(c j:Nat),j<c*l.length->(List.replicate c l).flatten[j]?=l[j%l.length]?
 |0,j,h=>by simp at h
 |c+1,j,h=>by
  have h':j<c*l.length+l.length:=by rw[BM] at h;omega
  rw[KN,CW];by_cases hj:j<l.length;.rw[Aj hj,Nat.mod_eq_of_lt hj]
  .rw[Bm Ab,Ie l c _ Ab,show j%l.length=(j-l.length)%l.length from Nat.mod_eq_sub_mod Ab]
def ew{o:Oper}{t e:TypeId}{l c:Operand}{n b:Nat}{z:Aa}{y vc u:Aa}{h':Ah}(ho:o.op= .makeSlice t l c)(ht:C.P.underlying t=some (.slice e))(KR:B6 C.P e=some (n+1))(eo:J5 C.P e=some (b+1))(hz:GZ C.P e=some z)(hl:E6 C U l=some y)(hc:E6 C U c=some vc)
  (hm:Rr h (n+1) (b+1) z.cells y vc=some (h',u)) (hr:Dc C γ0 w0 γ Z U h a w):FY C γ0 w0 o a w (U.put o.dst (.val u)) h':=by
 unfold Rr at hm;split at hm
 .rename_i k m;split at hm
  .rename_i HU;obtain⟨H,G,F,v⟩:=HU;cases hm;unfold GZ at hz;cases hi:C.P.info? e with
   |none=>rw[hi] at hz;cases hz
   |some i=>
    rw[hi] at hz;cases be:i.zero with
    |none=>simp[be] at hz
    |some f=>
     simp only[Cv,be] at hz;have Qe:=JR KR hi;have Ž:=LM eo hi;obtain⟨A,D⟩:=Hq (γ:=γ) (Fu hz) Ab;have Z5:f.cells.size=n+1:=by have:=A.length;simp at this;omega
     have Ħ:m.toNat*(b+1)<=AX:=F;have g:m.toNat<=AX:=Bu (IJ m.toNat (C8 b)) Ħ;have A3:=run_make (P:=C.P) w t e i f ht hi be .i64 .i64 k m H G (by
      rw[Ž];have E:((b+1:Nat):Int)*m=((m.toNat*(b+1):Nat):Int):=by rw[Int.natCast_mul,GV Ab,Int.mul_comm]
      rw[E];simp only[AX] at Ħ;omega) (by simp only[AX] at g;omega)
     rw[<-EA (GJ hr hl),<-EA (GJ hr hc)] at A3;have hlen:((List.replicate m.toNat z.cells).flatten).length=m.toNat*(n+1):=by rw[Hs (z:=n+1) (λr hr=>by rw[ē hr,v]),FX]
     have p:∀(j:Nat) (u:Value),(madeCells f.cells (m.toNat*i.size)).toList[j]?=some u->j<m.toNat*(n+1)/\f.cells.toList[j%(n+1)]?=some u:=by
      intro j u hj;have YX:j<m.toNat*(n+1):=by have:=(Ak.1 hj).1;simpa[size_madeCells,Qe] using this
      refine⟨YX,?_⟩;have ſ:j%(n+1)<f.cells.size:=by rw[Z5];exact Nat.mod_lt _ (C8 n)
      simp only[madeCells,M8,Cn] at hj;have d:(Array.range (m.toNat*i.size)).toList[j]?=some j:=by simp[Qe,YX]
      rw[d] at hj;simp only[Cc,BE] at hj;rw[Z5] at hj;rw[<-hj];simp[ſ]
     have B:Bi γ (List.replicate m.toNat z.cells).flatten (madeCells f.cells (m.toNat*i.size)).toList:=by refine Bi.Ha (by simp[hlen,size_madeCells,Qe]) λj x u hx hu=>?_;obtain⟨YX,s⟩:=p j u hu;rw[Ie z.cells _ _ (by rw[v];exact YX),v] at hx;obtain⟨I,pP,Ź⟩:=A.get hx;rw[s] at pP;cases pP;exact Ź
     obtain⟨γ',En,q,F0,aMm⟩:=hr.newObj (madeCells f.cells (m.toNat*i.size)) e (0,0) (List.replicate m.toNat z.cells).flatten (.inl rfl) (B.r_ (by rw[B.length];exact Ag _)) (λu hu=>by obtain⟨j,hj⟩:=CR (Bn hu);exact D u (CB (p j u hj).2))
     exact FY.value (by simp only[execOp,ho];exact DF A3) (F0.put λ_ _=>⟨w.heap.size,m.toNat,q,rfl,Ab,⟨C8 n,by simp only[AX] at g;simp only[maxLen];omega⟩,by rw[aMm,size_madeCells,Qe,B0]⟩)
  .cases hm
 .cases hm
def Dc.aFi(hr:Dc C γ0 w0 γ Z U h a w){g:Nat}(FG:γ.Bw g=some (.tail U.length none 0))(hB:w0.heap.size<=g){us:Array Value}{e:TypeId}(hg:w.heap[g]?=some (.cells us e (0,0)))(DM:Array Value)(cs:List Aa)
  (hv:Bi γ cs (DM.toList.take cs.length)) (h1:∀u∈DM.toList.take cs.length,u.oneCell'=true):∃γ',γ.le γ'/\γ'.mu h.length=some g/\Dc C γ0 w0 γ' Z U (h++[.cells cs]) a (w.setRow g DM)/\γ'.sz g=some DM.size:=by
 have f:γ.mu h.length=none:=by
  cases hc:γ.mu h.length with
  |none=>rfl
  |some y=>exact absurd (hr.D4.mu _ y hc) (Dr _)
 have KR:γ.sz g=none:=by
  cases hc:γ.sz g with
  |none=>rfl
  |some y=>obtain⟨_,r⟩:=hr.D4.sz g y hc;rw[FG] at r;rcases r with r|⟨_,r⟩<;>cases r
 have En:γ.le (γ.B3 g h.length (some DM.size)):=⟨λ_ _ _ hv=>hv,λid b hm=>by
  have:id≠h.length:=λhe=>by rw[he,f] at hm;cases hm
  simp only[Gh.B3,Ac this];exact hm,λb n hm=>by
  have:b≠g:=λhe=>by rw[he,KR] at hm;cases hm
  simp only[Gh.B3,Ac this];exact hm⟩
 have ź:∀b n,(γ.B3 g h.length (some DM.size)).sz b=some n->(∃us e fr,(w.setRow g DM).heap[b]?=some (.cells us e fr)/\us.size=n)/\((γ.B3 g h.length (some DM.size)).Bw b=none\/∃id,(γ.B3 g h.length (some DM.size)).Bw b=some (.L8 id)):=λb n hb=>by
  by_cases he:b=g;.subst he;simp only[Gh.B3,BT] at hb;cases hb;exact⟨⟨DM,e,(0,0),setRow_heap w b us DM e (0,0) hg,rfl⟩,.inr ⟨h.length,by simp[Gh.B3]⟩⟩
  .simp only[Gh.B3,Ac he] at hb⊢;obtain⟨p,r⟩:=hr.D4.sz b n hb;exact⟨by rw[setRow_other w g b DM he];exact p,r⟩
 have hne:∀b id,γ.Bw b=some (.L8 id)->b≠g:=λb id hb he=>by rw[he,FG] at hb;cases hb
 have hk:PR g γ w (γ.B3 g h.length (some DM.size)) (w.setRow g DM):=⟨En,λb x hb hx _=>⟨by simp only[Gh.B3,Ac hb];exact hx,setRow_other w g b DM hb⟩⟩;refine⟨_,En,by simp[Gh.B3],⟨⟨λb o v hb=>?_,λid y Ik hy=>?_,λid GW hc b hb=>?_,λid es hc b hb=>?_,λid b hb=>?_,λb y hy=>?_,ź⟩,⟨hr.fr.size,λs=>?_⟩,hr.DX.write (g:=g) hB En AK rfl rfl rfl (λb hb=>⟨setRow_other w g b DM hb,by simp only[Gh.B3,Ac hb]⟩),hr.defers,λx GW hx=>C4.mono En _ _ _ (hr.GY x GW hx)⟩,by simp[Gh.B3]⟩
 .obtain⟨p,q,r⟩:=hr.D4.Io b o v hb;have NY:b≠g:=λhe=>by
   subst he;rw[FG] at r;rcases r with r|⟨_,_,_,r,hl⟩
   .cases r
   .cases r;omega
  exact⟨by rw[CS (setRow_other w g b DM NY)];exact p,q,by simp only[Gh.B3,Ac NY];exact r⟩
 .by_cases he:id=h.length;.exact⟨g,by simp[Gh.B3,he],by simp[Gh.B3,he]⟩
  .have VY:id<h.length:=by rw[Ak] at Ik;obtain⟨hl,_⟩:=Ik;simp at hl;omega
   rw[Aj VY] at Ik;obtain⟨b,p,q⟩:=hr.D4.L8 id y Ik hy;exact⟨b,by simp only[Gh.B3,Ac he];exact p,by simp only[Gh.B3,Ac (hne b id q)];exact q⟩
 .by_cases he:id=h.length;.subst he;simp[Gh.B3] at hb;subst hb;simp at hc;subst hc;exact⟨DM,e,(0,0),setRow_heap w g us DM e (0,0) hg,.inl rfl,Bi.mono En _ _ hv,h1⟩
  .simp only[Gh.B3,Ac he] at hb;have VY:=hr.D4.mu id b hb;rw[Aj VY] at hc;obtain⟨b',c,d⟩:=hr.D4.L8 id _ hc AK;rw[hb] at c;cases c;obtain⟨kE,i,dh,p,pf,q,r⟩:=hr.D4.cells id GW hc b hb;exact⟨kE,i,dh,by rw[setRow_other w g b DM (hne b id d)];exact p,pf,Bi.mono En _ _ q,r⟩
 .by_cases he:id=h.length;.subst he;simp at hc
  .simp only[Gh.B3,Ac he] at hb;have VY:=hr.D4.mu id b hb;rw[Aj VY] at hc;obtain⟨b',c,d⟩:=hr.D4.L8 id _ hc AK;rw[hb] at c;cases c;obtain⟨DD,clock,p,q⟩:=hr.D4.map id es hc b hb;exact⟨DD,clock,by rw[setRow_other w g b DM (hne b id d)];exact p,q.mono En⟩
 .by_cases he:id=h.length;.simp[he]
  .simp only[Gh.B3,Ac he] at hb;have:=hr.D4.mu id b hb;simp;omega
 .by_cases NY:b=g;.subst NY;have:=hr.D4.Bw _ _ FG;simpa using this
  .simp only[Gh.B3,Ac NY] at hy;have:=hr.D4.Bw b y hy;simpa using this
 .by_cases hs:s=U.length;.subst hs;rw[BW.S4];trivial
  .exact(hr.fr.Ij s).keptBut FG hk (by simp only[Kx.jZ];intro hx;cases hx;exact hs rfl)
def Dc.LK(hr:Dc C γ0 w0 γ Z U h a w){v v':Aa}{u:Value}{h':Ah}(hv:BU γ v u)(hf:Kq h v=some (h',v')):∃γ',γ.le γ'/\Dc C γ0 w0 γ' Z U h' a w/\BU γ' v' u:=by
 unfold Kq at hf;split at hf
 .rename_i id off n z;obtain⟨b,cap,hb,hu,hc,hz,KR⟩:=hv;split at hf
  .rename_i cs hcs;split at hf
   .rename_i hl;cases hf;obtain⟨us,e,fr,q,pf,p,m⟩:=hr.D4.cells id cs hcs b hb;obtain⟨hi,ha⟩:=di hr.D4 hcs hb q m;have jN:∀(k o:Nat),(Cz cs z o k).length=k:=by
     intro k;induction k with
     |zero=>intro o;rfl
     |succ k ih=>intro o;simp[Cz,ih]
    have d:∀(k o i:Nat) (r:List Aa),(Cz cs z o k)[i]?=some r->i<k/\r=(cs.drop (o+i*z)).take z:=by
     intro k;induction k with
     |zero=>intro o i r h;simp[Cz] at h
     |succ k ih=>
      intro o i r h;cases i with
      |zero=>simp[Cz] at h;exact⟨C8 _,by simpa using h.symm⟩
      |succ i=>simp[Cz] at h;obtain⟨l,g⟩:=ih _ _ _ h;exact⟨Ab,by rw[g];congr 2;rw[BM];omega⟩
    refine⟨_,ha.le,hr.I5 hi ha,⟨b,off,none⟩,cap,by rw[jN];exact hu,by rw[jN];exact hc,.inl rfl,E7.Ha λi r f=>?_⟩;obtain⟨l,rfl⟩:=d n off i r f;have t:i*z+z<=n*z:=by have:=DU z (Ab:i+1<=n);rwa [BM,D5] at this
    refine⟨Eg,C4.Ha λj x hj=>?_⟩;rw[Cj] at hj;split at hj;.rename_i s;rw[Ct] at hj;obtain⟨y,hy,c⟩:=p.get hj;have hlt:off+i*z+j<cs.length:=(Ak.1 hj).1;refine⟨y,?_,BU.mono ha.le _ _ c⟩;simp only[Gh.Ds,BT,Ae hlt];rw[CZ hlt] at hy;simpa using hy
    .cases hj
   .cases hf
  .cases hf
 .cases hf;exact⟨γ,.refl _,hr,hv⟩
def RI:∀{Az:List (List Aa)} {s:Aq},MH Az=some s->∃ns:List Int,Az=ns.map (λn=>[.int .u8 n])/\s=ns.map λn=>UInt8.ofNat n.toNat
 |[],s,hs=>by cases hs;exact⟨[],rfl,rfl⟩
 |r::Az,s,hs=>by
  unfold MH at hs;split at hs;.rename_i Kp;cases Kp
  .rename_i n rs Kp;cases Kp;cases hq:MH Az with
   |none=>rw[hq] at hs;cases hs
   |some l=>rw[hq] at hs;cases hs;obtain⟨ns,rfl,rfl⟩:=RI hq;exact⟨n::ns,rfl,rfl⟩
  .cases hs
def Wh:∀(ns:List Int) (r:ByteArray),ns.foldl (λr n=>r.push (UInt8.ofNat n.toNat)) r=⟨r.data++(ns.map λn=>UInt8.ofNat n.toNat).toArray⟩
 |[],r=>AK
 |n::ns,r=>by rw[ay,Wh ns];simp[ByteArray.push]
def si{o:Oper}{src dst e:TypeId}{x:Operand}{v v' u:Aa}{h':Ah}(ho:o.op= .convert src dst x)(hs:C.P.underlying src=some (.slice e))(hd:C.P.underlying dst=some .string)(he:C.P.underlying e=some (.int .u8))(hx:E6 C U x=some v)(hf:Kq h v=some (h',v'))(hp:AB .Ux [v']=some u)
  (hr:Dc C γ0 w0 γ Z U h a w):FY C γ0 w0 o a w (U.put o.dst (.val u)) h':=by
 obtain⟨γ',En,F0,DG⟩:=hr.LK (GJ hr hx) hf;have MF:∀s,(Conv.bytesToString (a.eval x)).run C.P w= .ok s w->(∃p l c,a.eval x= .slice p l c)->(execOp a.eval o).run C.P w= .ok (.value s) w:=λs A3 ⟨p,l,c,jP⟩=>by simp only[execOp,ho];refine DF ?_;rw[jP] at A3⊢;rw[run_convert_bytes_string w src dst e p l c hs he hd];exact A3
 simp only[AB] at hp;unfold VG at hp;split at hp
 .rename_i Az;cases hq:MH Az with
  |none=>rw[hq] at hp;cases hp
  |some s=>
   rw[hq] at hp;cases hp;obtain⟨ns,rfl,rfl⟩:=RI hq;obtain⟨d,cap,jP,hc,hsp,hR⟩:=DG;have Nl:∀(j:Nat) (v:Value),(ns.map (Value.int .u8))[j]?=some v->d.add j=⟨d.block,d.off+j,none⟩:=λj v hj=>by
    have hpos:0<ns.length:=by have:=(Ak.1 hj).1;simp at this;omega
    have kL:=NW hsp hc (by simpa using hpos);generalize d.block=b at*;generalize d.off=o at*;subst kL;unfold Addr.add;split<;>simp_all
   have hl:=run_loadCells_list (P:=C.P) w d (ns.map (Value.int .u8)) (λj v hj=>by
    rw[Nl j v hj];simp only[Cn] at hj;cases hn:ns[j]? with
    |none=>rw[hn] at hj;cases hj
    |some n=>rw[hn] at hj;cases hj;obtain⟨_,m⟩:=hR.get (i:=j) (r:=[.int .u8 n]) (by simp[hn]);obtain⟨y,hy,g⟩:=m.get (i:=0) (a:= .int .u8 n) rfl;rw[show y=_ from g] at hy;have:=(F0.D4.Io _ _ _ hy).1;simpa using this)
   simp only[Al] at hl;have A3:=run_bytesToString (P:=C.P) w d ns.length cap ns hl;have k:ByteArray.empty.data=#[]:=rfl;rw[Wh,k,Array.empty_append] at A3;have f:a.eval x= .slice (some d) ns.length cap:=by rw[jP];simp
   rw[<-f] at A3;exact FY.value (MF _ A3 ⟨_,_,_,f⟩) (F0.put λ_ _=>rfl)
 .cases hp;have f:a.eval x= .slice none 0 0:=DG;have A3:(Conv.bytesToString (a.eval x)).run C.P w= .ok (.string ⟨⟨[]⟩⟩) w:=by rw[f];simp[Conv.bytesToString];rfl
  exact FY.value (MF _ A3 ⟨_,_,_,f⟩) (F0.put λ_ _=>rfl)
 .cases hp
def ey(C:FZ)(f:FuncId):Prop:=
 (∃fn c,C.P.funcs[f]?=some fn/\(fn.name== "runtime.NumGoroutine")=false/\fn.body=some c)/\
 ∀(γ:Gh) (h:Ah) (w:World) (s:Aa) (d:Value) (i x:Int) (h':Ah) (r:Aa) (g b:Nat) (us:Array Value) (e:TypeId),Hj γ h w->BU γ s d->PL h [s,.int .i64 i,.sl 1 [[.int .i64 x]]]=some (h',r)->
  w.heap[g]?=some (.cells us e (0,0))->us[0]?=some (.int .i64 x)->(∀id,γ.Bw g≠some (.L8 id))->1<=b->us.size=b->
  Calls C.P f #[d,.int .i64 i,.slice (some ⟨g,0,none⟩) 1 b] w λe w'=>match e with
   | .returned v=>∃γ',Hj γ' h' w'/\K6 γ w γ' w'/\BU γ' r v
   |_=>False
def Fg(C:FZ)(run:IT->Ah->Option J1):Prop:=
 ((∀g cs,C.GY g=some cs->cs.all Aa.ME=true)/\∀f,C.Nb f=true->ey C f)/\
 ∀(f:FuncId) (args:List Aa) (h:Ah) (r:Aa) (h':Ah),run (Cd C f args) h=some (.ret,[r],h')->
  (∃fn c,C.P.funcs[EE f]?=some fn/\(fn.name== "runtime.NumGoroutine")=false/\fn.body=some c)/\
  ∀(γ:Gh) (w:World) (cargs:Array Value),Hj γ h w->(∀g cs,C.GY g=some cs->C4 γ cs g 0)->Bi γ args cargs.toList->
   Calls C.P (EE f) cargs w λe w'=>match e with
    | .returned v=>∃γ',Hj γ' h' w'/\K6 γ w γ' w'/\BU γ' r v/\(C.Jb f=true->∃s c,IQ γ' w.heap.size w' s c v r)
    |_=>False
def Dc.aAa(hr:Dc C γ0 w0 γ Z U h a w){h':Ah}{r:Aa}{v:Value}(hi:Hj γ' h' w')(ha:K6 γ w γ' w')(hv:BU γ' r v){Bw:Bool}(ho:Bw=true->∃s c,IQ γ' w.heap.size w' s c v r)(d:Option Nat):
  ∃f,Dc C γ0 w0 f Z (U.put d (if Bw then .Bw r else .val r)) h' (a.put d v) w':=by
 cases Bw with
 |false=>exact⟨γ',(hr.I5 hi ha).put λ_ _=>hv⟩
 |true=>
  obtain⟨s,c,i⟩:=ho rfl;rcases i with i|⟨g,n,cap,us,e,z,Az,rfl,h2,l,k,j⟩
  .exact⟨γ',(hr.I5 hi ha).put λ_ _=>⟨hv,.inl i⟩⟩
  .have ŷ:K6 γ w (γ'.FQ g (.tail U.length none (n*z))) w':=⟨ha.le.trans (Hp _ _ _),ha.size,ha.os,ha.tape,ha.output,λb hb hn=>by obtain⟨p,q⟩:=ha.NX b hb hn;exact⟨p,by simp only[Gh.FQ,Ac (Ab:b≠g)];exact q⟩⟩
   have F0:=hr.I5 (hi.FQ (s':=U.length) (c':=none) l) ŷ;exact F0.Wc (BU.mono (Hp _ _ _) _ _ hv) (.inr ⟨g,n,cap,us,e,z,Az,rfl,h2,by simp[Gh.FQ],Bu hr.DX.size k,j⟩) d
def Il{P:Program}{f:FuncId}{fn:Func}{c:Code}(hf:P.funcs[f]?=some fn)(hname:(fn.name== "runtime.NumGoroutine")=false)(hb:fn.body=some c)(args:Array Value)(w:World):
  (callFunc f args).run P w= .ok (.enter f args) w:=by
 have hn:¬fn.name= "runtime.NumGoroutine":=by simpa using hname
 simp[callFunc,hf,hn,hb]
def RJ{o:Oper}{f:FuncId}{cargs:Array Value}{K:Act->World->Prop}{Q:Exit->Act->World->Prop}(he:(execOp a.eval o).run C.P w= .ok (.enter f cargs) w){R:Value->World->Prop}
  (hc:Calls C.P f cargs w λe w'=>match e with| .returned v=>R v w'|_=>False) (hk:∀v w',R v w'->K (a.put o.dst v) w'):o.wp C.P a w K Q:=by
 unfold Oper.wp;rw[he];refine hc.mono λe w' h=>?_;cases e with
 |returned v=>exact hk v w' h
 |_=>exact h.elim
def ez{run:IT->Ah->Option J1}(g:Fg C run){o:Oper}{c:Call}{f:FuncId}{args:List Aa}{r:Aa}{h':Ah}{K:Act->World->Prop}{Q:Exit->Act->World->Prop}(ho:o.op= .call c)(hcl:c.callee= .value (.func (EE f)))(ha:BC C U c.args.toList=some args)
  (A3:run (Cd C f args) h=some (.ret,[r],h')) (hr:Dc C γ0 w0 γ Z U h a w) (i:∀γ' v w',Dc C γ0 w0 γ' Z (U.put o.dst (if C.Jb f then .Bw r else .val r)) h' (a.put o.dst v) w'->K (a.put o.dst v) w'):o.wp C.P a w K Q:=by
 obtain⟨⟨fn,j,hf,hname,hb⟩,d⟩:=g.2 f args h r h' A3;have b:Bi γ args (c.args.map a.eval).toList:=by simpa using DY hr ha
 refine RJ (f:=EE f) (cargs:=c.args.map a.eval) ?_ (d γ w _ hr.D4 hr.GY b) λv w' ⟨γ',hi,Ka,hv,FG⟩=>?_;.have h0:a.eval (.func (EE f))= .func (.func (EE f)) #[] #[]:=rfl;simp only[execOp,ho,resolve,hcl,Deferred.ofValue,h0,Sem.run_bind,Sem.run_pure,Result.andThen_ok,invoke];simpa using Il hf hname hb (c.args.map a.eval) w
 .obtain⟨e,LL⟩:=hr.aAa hi Ka hv FG o.dst;exact i e v w' LL
def sj{run:IT->Ah->Option J1}(M:Fg C run){o:Oper}{c:Call}{f:FuncId}{s i x:Operand}{args:List Aa}{r:Aa}{h':Ah}{K:Act->World->Prop}{Q:Exit->Act->World->Prop}(ho:o.op= .call c)(hcl:c.callee= .value (.func f))(hf:C.Nb f=true)(ES:c.args.toList=[s,i,x])(FG:K0 C U x=true)
  (ha:BC C U [s,i,x]=some args) (hp:PL h args=some (h',r)) (hr:Dc C γ0 w0 γ Z U h a w) (N:∀γ' v w',Dc C γ0 w0 γ' Z (U.put o.dst (.val r)) h' (a.put o.dst v) w'->K (a.put o.dst v) w'):o.wp C.P a w K Q:=by
 obtain⟨⟨fn,cd,sk,hname,hb⟩,sm⟩:=M.1.2 f hf;have kX:=DY hr ha;obtain⟨A,d,f1,g1,f2⟩:∃A d,[a.eval s,a.eval i,a.eval x]=A::d/\BU γ (args.getD 0 .nilIface) A/\True:=by
  cases args with
  |nil=>cases kX
  |cons y l=>obtain⟨u,us,e,p,q⟩:=kX;exact⟨u,us,e,p,trivial⟩
 obtain⟨s',j,x',he,k,G,F⟩:∃s' j x',args=[s',.int .i64 j,.sl 1 [[.int .i64 x']]]/\∃(k:BU γ s' (a.eval s)) (G:a.eval i= .int .i64 j),BU γ (.sl 1 [[.int .i64 x']]) (a.eval x):=by
  unfold PL at hp;split at hp;.obtain⟨_,_,_,e,E,D,B⟩:=kX.TM;simp only[Bs,Df,E4,Mx] at e;obtain⟨rfl,rfl,rfl⟩:=e;exact⟨_,_,_,rfl,E,D,B⟩
  .obtain⟨_,_,_,e,E,D,B⟩:=kX.TM;simp only[Bs,Df,E4,Mx] at e;obtain⟨rfl,rfl,rfl⟩:=e;exact⟨_,_,_,rfl,E,D,B⟩
  .cases hp
 subst he;have jO:E6 C U x=some (.sl 1 [[.int .i64 x']]):=by simp only[BC] at ha;cases h1:E6 C U s<;>cases h2:E6 C U i<;>cases I:E6 C U x<;>simp_all
 obtain⟨sl,jP⟩:∃sl,Ed C U x=some sl:=by
  unfold K0 at FG;cases hs:Ed C U x with
  |none=>rw[hs] at FG;cases FG
  |some sl=>exact⟨sl,rfl⟩
 have aMn:∃v,sl= .Bw v:=by unfold K0 at FG;rw[jP] at FG;cases sl<;>first|exact⟨_,rfl⟩|cases FG
 obtain⟨v,rfl⟩:=aMn;obtain⟨s0,hrel,_⟩:=Gp hr jP;have aMo:v= .sl 1 [[.int .i64 x']]:=by simp only[E6,jP,Cv,Er.Ho,BE] at jO;exact jO
 subst aMo;obtain⟨pT,m⟩:=hrel;rcases m with(m|⟨_,m⟩)|⟨g,n,cap,us,e,z,Az,h1,h2,I,W,H,R,O,V,T⟩
 .cases m
 .cases m
 .cases h1;obtain⟨ad,L,J,Y,X,S⟩:=F;rw[h2] at J;cases J;obtain⟨_,hm,_⟩:=S;obtain⟨⟨u,hu,hru⟩,_⟩:=hm;obtain⟨JP,_,_⟩:=hr.D4.Io _ _ _ hu;have YM:us[0]?=some (.int .i64 x'):=by rw[cell_of_row w _ _ us e (0,0) H] at JP;rw[JP];exact Ce some hru
  have b:c.args.map a.eval=#[a.eval s,.int .i64 j,.slice (some ⟨g,0,none⟩) 1 cap]:=by apply HA;simp only[M8,ES,Bs,Df,G,h2];rfl
  have Vk:=sm γ h w s' _ j x' h' r g cap us e hr.D4 k hp H YM (λid Ik=>by rw[I] at Ik;cases Ik) O (by rw[R,FF]);rw[<-b] at Vk;refine RJ (f:=f) (cargs:=c.args.map a.eval) ?_ Vk λv w' ⟨γ',hi,Ka,hv⟩=>?_;.have h0:a.eval (.func f)= .func (.func f) #[] #[]:=rfl;simp only[execOp,ho,resolve,hcl,Deferred.ofValue,h0,Sem.run_bind,Sem.run_pure,Result.andThen_ok,invoke];simpa using Il sk hname hb (c.args.map a.eval) w
  .obtain⟨t,LL⟩:=hr.aAa (Bw:=false) hi Ka hv (λe=>by cases e) o.dst;exact N t v w' (by simpa using LL)
def Gh.apart(γ:Gh):Gh:={Io:=γ.Io,mu:=λ_=>none,Bw:=λb=>match γ.Bw b with|some (.L8 _)=>none|x=>x,sz:=γ.sz}
def Hj.apart(hi:Hj γ h w):Hj γ.apart [] w:=by
 refine⟨λb o v hb=>?_,λid x hx=>by simp at hx,λid cs hx=>by simp at hx,λid es hx=>by simp at hx,λid b hb=>(by cases hb),λb x hx=>?_,λb n hb=>?_⟩;rotate_left 2;.obtain⟨p,r⟩:=hi.sz b n hb;refine⟨p,.inl ?_⟩;simp only[Gh.apart];rcases r with r|⟨_,r⟩<;>rw[r]
 .obtain⟨p,q,r⟩:=hi.Io b o v hb;refine⟨p,q,?_⟩;simp only[Gh.apart];rcases r with r|⟨s,c,st,r,hl⟩
  .exact .inl (by rw[r])
  .exact .inr ⟨s,c,st,by rw[r],hl⟩
 .simp only[Gh.apart] at hx;split at hx;.cases hx
  .exact hi.Bw b x hx
def Dc.sn(hr:Dc C γ0 w0 γ Z U h a w){c:Gh}{h1:Ah}(hi:Hj c h1 w')(ha:K6 γ.apart w c w'):∃d,Dc C γ0 w0 d Z U h a w':=by
 have X4:∀b id,γ.apart.Bw b≠some (.L8 id):=λb id e=>by
  simp only[Gh.apart] at e;split at e;.cases e
  .rename_i hn;exact hn id e
 have Ni:∀b,b<w.heap.size->w'.heap[b]?=w.heap[b]?:=λb hb=>(ha.NX b hb (X4 b)).1;refine⟨γ,hr.I5 ⟨λb o v hb=>?_,hr.D4.L8,λid cs hc b hb=>?_,λid es hc b hb=>?_,hr.D4.mu,λb x hx=>LD (hr.D4.Bw b x hx) ha.size,λb n hb=>(by
   obtain⟨⟨us,e,fr,p,q⟩,r⟩:=hr.D4.sz b n hb;exact⟨⟨us,e,fr,by rw[Ni b (A7.1 p).1];exact p,q⟩,r⟩)⟩
  ⟨.refl _,ha.size,ha.os,ha.tape,ha.output,λb hb _=>⟨Ni b hb,rfl⟩⟩⟩
 .obtain⟨p,q,r⟩:=hr.D4.Io b o v hb;exact⟨by rw[CS (Ni b (DP p))];exact p,q,r⟩
 .obtain⟨us,e,fr,p,q⟩:=hr.D4.cells id cs hc b hb;exact⟨us,e,fr,by rw[Ni b (A7.1 p).1];exact p,q⟩
 .obtain⟨DD,clock,p,q⟩:=hr.D4.map id es hc b hb;exact⟨DD,clock,by rw[Ni b (A7.1 p).1];exact p,q⟩
def Wi{γ γ':Gh}{x:Aa}{v:Value}(hf:x.ME=true)(hv:BU γ x v):BU γ' x v:=by cases x<;>first|exact hv|cases hf
def YY{γ γ':Gh}:∀{l:List Aa} {us:List Value},l.all Aa.ME=true->Bi γ l us->Bi γ' l us
 |[],us,_,h=>h
 |x::l,us,hf,h=>by obtain⟨u,DM,e,h1,h2⟩:=h;simp only[ZO,Bx] at hf;exact⟨u,DM,e,Wi hf.1 h1,YY hf.2 h2⟩
def C4.apart{γ:Gh}:∀{l:List Aa} {b o:Nat},C4 γ l b o->l.all Aa.ME=true->C4 γ.apart l b o
 |[],_,_,_,_=>trivial
 |x::l,b,o,h,hf=>by obtain⟨⟨u,h1,h2⟩,c⟩:=h;simp only[ZO,Bx] at hf;exact⟨⟨u,h1,Wi hf.1 h2⟩,c.apart hf.2⟩
def xI{run:IT->Ah->Option J1}(i:Fg C run){o:Oper}{c:Call}{f:FuncId}{args:List Aa}{r:Aa}{h1:Ah}{K:Act->World->Prop}{Q:Exit->Act->World->Prop}(ho:o.op= .call c)(hcl:c.callee= .value (.func (EE f)))(ha:BC C U c.args.toList=some args)
  (hfa:args.all Aa.ME=true) (A3:run (Cd C f args) []=some (.ret,[r],h1)) (pM:r.ME=true) (hr:Dc C γ0 w0 γ Z U h a w) (j:∀γ' v w',Dc C γ0 w0 γ' Z (U.put o.dst (.val r)) h (a.put o.dst v) w'->K (a.put o.dst v) w'):o.wp C.P a w K Q:=by
 obtain⟨⟨fn,k,hf,hname,hb⟩,d⟩:=i.2 f args [] r h1 A3;have b:Bi γ.apart args (c.args.map a.eval).toList:=YY hfa (by simpa using DY hr ha);refine RJ (f:=EE f) (cargs:=c.args.map a.eval) ?_ (d γ.apart w _ hr.D4.apart (λg cs hg=>(hr.GY g cs hg).apart (i.1.1 g cs hg)) b) λv w' ⟨γ',hi,Ka,hv,_⟩=>?_;.have h0:a.eval (.func (EE f))= .func (.func (EE f)) #[] #[]:=rfl;simp only[execOp,ho,resolve,hcl,Deferred.ofValue,h0,Sem.run_bind,Sem.run_pure,Result.andThen_ok,invoke];simpa using Il hf hname hb (c.args.map a.eval) w
 .obtain⟨e,LL⟩:=hr.sn hi Ka;exact j e v w' (LL.put λ_ _=>Wi pM hv)
def xJ{run:IT->Ah->Option J1}(l:Fg C run){o:Oper}{c:Call}{g:Operand}{k:Aa}{f:FuncId}{args args':List Aa}{r:Aa}{h':Ah}{K:Act->World->Prop}{Q:Exit->Act->World->Prop}(ho:o.op= .call c)(hcl:c.callee= .value g)(hg:E6 C U g=some k)
  (ha:BC C U c.args.toList=some args) (ht:DC k args=some (f,args')) (A3:run (Cd C f args') h=some (.ret,[r],h')) (hr:Dc C γ0 w0 γ Z U h a w) (m:∀γ' v w',Dc C γ0 w0 γ' Z (U.put o.dst (.val r)) h' (a.put o.dst v) w'->K (a.put o.dst v) w'):o.wp C.P a w K Q:=by
 obtain⟨⟨fn,n,hf,hname,hb⟩,b⟩:=l.2 f args' h r h' A3;have j:=GJ hr hg;unfold DC at ht;split at ht
 .rename_i f0 first captured
  split at ht;rotate_left;.cases ht
  rename_i jQ;cases ht;rw[show EE f=f from Ae jQ] at hf b;obtain⟨fs,cs,Ef,h1,h2⟩:=j;have d:Bi γ (first++args++captured) (fs++c.args.map a.eval++cs).toList:=by simpa using(h1.append (DY hr ha)).append h2
  refine RJ (f:=f) (cargs:=fs++c.args.map a.eval++cs) ?_ (b γ w _ hr.D4 hr.GY d) λv w' ⟨γ',hi,Ka,hv,FG⟩=>?_;.simp only[execOp,ho,resolve,hcl,Deferred.ofValue,Ef,Sem.run_bind,Sem.run_pure,Result.andThen_ok,invoke];exact Il hf hname hb _ w
  .obtain⟨i,LL⟩:=hr.aAa (Bw:=false) hi Ka hv (λe=>by cases e) o.dst;exact m i v w' (by simpa using LL)
 .cases ht
end
end Go.Am
end
