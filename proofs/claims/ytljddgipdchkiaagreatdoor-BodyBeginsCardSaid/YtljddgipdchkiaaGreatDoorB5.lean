/- Lemmas -/
import Derived.Test.YtljddgipdchkiaaGreatDoorB4
import Derived.Deep.AppendSrc
import Derived.Great.BuildSlice
import Derived.Laws.IdiomStrings
set_option linter.all false
section
namespace Go.Am
open Go
section
variable{C:FW}{U0 U U':Gh}{w0 w w':World}{O:Nat->Nat}{Z:BR}{h:Ah}{a:Act}{fid:FuncId}{ops:List Oper}
def DE{P:Program}{s:Sem Value}{v:Value}(hs:s.run P w= .ok v w'):(do pure (Next.value (<-s)):Sem Next).run P w= .ok (.value v) w':=by simp[hs]
def Ub{J:Type}{z:Nat}:∀{AD:List (List J)},(∀r∈AD,r.length=z)->∀{i:Nat} {r:List J},AD[i]?=some r->∀{j:Nat} {x:J},r[j]?=some x->AD.flatten[i*z+j]?=some x
 |[],_,i,r,hi,_,_,_=>by simp at hi
 |q::AD,hl,0,r,hi,j,x,hj=>by simp at hi;subst hi;have:j<q.length:=(Al.1 hj).1;simp only[Mz,BU,CT];rw[Aj this];exact hj
 |q::AD,hl,i+1,r,hi,j,x,hj=>by
  simp at hi;have hq:q.length=z:=hl q AH;rw[CT,Bl (by rw[hq,BG];omega)];have:=Ub (AD:=AD) (λr hr=>hl r (by simp[hr])) hi hj;rw[<-this];congr 1
  rw[hq,BG];omega
def Hu{J:Type}{z:Nat}:∀{AD:List (List J)},(∀r∈AD,r.length=z)->AD.flatten.length=AD.length*z
 |[],_=>AH
 |q::AD,hl=>by have hq:q.length=z:=hl q AH;simp[hq,Hu (AD:=AD) (λr hr=>hl r (by simp[hr])),BG,O1]
def Ob{AD:List (List Aa)}{us:List Value}{z b o:Nat}(hl:∀r∈AD,r.length=z)(hv:Bg U AD.flatten us)(hi:∀(j:Nat) (u:Value),us[j]?=some u->U.Io b (o+j)=some u):E6 U AD z b o:=by refine E6.Hc λi r hr=>⟨hl r (CC hr),C1.Hc λj x hj=>?_⟩;obtain⟨u,hu,hx⟩:=hv.get (Ub hl hr hj);exact⟨u,by rw[RD];exact hi _ _ hu,hx⟩
def C9.drew(hr:C9 C U0 w0 U O Z h a w):C9 C U0 w0 U O Z h a w.drew:=hr.Jb (hr.D3.same rfl) (Ld.drew U w)
def BR.Tq(Z:BR):Z.at Z.length= .undef:=by simp[BR.at,List.getD]
def C9.WO(hr:C9 C U0 w0 U O Z h a w){x:Aa}{v:Value}(hv:BO U x v)(ho:IU U w0.heap.size w Z.length none v x)(d:Option Nat):∃U',C9 C U0 w0 U' O (Z.put d (.Bt x)) h (a.put d v) w:=by
 cases d with
 |none=>exact⟨U,hr⟩
 |some d=>
  rcases ho with ho|⟨g,n,cap,us,e,z,AD,h1,h2,f,b,c⟩
  .exact⟨U,hr.put λs _=>⟨hv,.inl ho⟩⟩
  .have Kt:=hr.FN (s':=d) (c':=none) f b (λ_ u=>by rw[BR.Tq];simp) (λo ho=>by cases ho);exact⟨_,Kt.put λs hs=>by cases hs;exact⟨BO.mono (Hr _ _ _) _ _ hv,.inr ⟨g,n,cap,us,e,z,AD,h1,h2,by simp[Gh.FN],b,c⟩⟩⟩
def C9.WQ(hr:C9 C U0 w0 U O Z h a w)(us:Array Value)(e:TypeId){z n cap:Nat}{AD:List (List Aa)}(hz:0<z)(hn:AD.length=n)(hl:∀r∈AD,r.length=z)(ZE:us.size=cap*z)(hc:n<=cap)(hm:cap<=maxLen)
  (hv:Bg U AD.flatten (us.toList.take (n*z))) (h1:∀u∈us.toList.take (n*z),u.oneCell'=true):
  ∃U',U.le U'/\C9 C U0 w0 U' O Z h a (w.alloc (.cells us e))/\BO U' (.sl z AD) (.slice (some ⟨w.heap.size,0,none⟩) n cap)/\IU U' w0.heap.size (w.alloc (.cells us e)) Z.length none (.slice (some ⟨w.heap.size,0,none⟩) n cap) (.sl z AD):=by
 obtain⟨hi,ha⟩:=Pd hr.D3 us e (0,0) (n*z) (some (.tail Z.length none (n*z))) (λo u ho hu=>h1 u (CC (i:=o) (by rw[CV ho];simpa using hu))) (.inr (.inl ⟨_,_,rfl⟩));refine⟨_,ha.le,hr.Jb hi ha,⟨⟨w.heap.size,0,none⟩,cap,by rw[hn],Ab,.inl rfl,Ob hl (Bg.mono ha.le _ _ hv) λj u hj=>?_⟩,.inr ⟨w.heap.size,n,cap,us,e,z,AD,rfl,rfl,by simp[Gh.Ds],hr.DW.size,heap_alloc_new w _,ZE,hc,hm,hz⟩⟩;rw[Ch] at hj;split at hj;.rename_i hlt;simp only[Gh.Ds,BL,BU,Ae hlt];simpa using hj
 .cases hj
def WR{size:Nat}:∀(vs:List Value) (k:Nat) (cells:Array Value),(∀v∈vs,v.cells.size=size)->(k+vs.length)*size<=cells.size->
  Instr.fill (λi=>some (i*size,size)) cells ((vs.zipIdx k).map λp=>(p.2,p.1))=some (cells.toList.take (k*size)++vs.flatMap (·.cells.toList)++cells.toList.drop ((k+vs.length)*size)).toArray
 |[],k,cells,_,_=>by simp[Instr.fill]
 |v::vs,k,cells,hv,hl=>by
  have hs:v.cells.size=size:=hv v AH;simp only[A9] at hl;have Ej:(k+1)*size+vs.length*size<=cells.size:=by rw[<-BG];exact Bu (My (by congr 1;omega)) hl
  have YW:(k+1)*size=k*size+size:=by rw[BG,D4]
  simp only[uO,Bk,Instr.fill];have f:¬(v.cells.size≠size\/k*size+v.cells.size>cells.size):=by rw[hs];omega
  simp only[BW,decide_not,OE,Cz,aOj,S3] at*;rw[Ac f];have hf:=N8 v.cells.toList (k*size) 0 cells (by simp[hs];omega);have aI0:v.cells.zipIdx.foldl (λcs (c,j)=>cs.setIfInBounds (k*size+j) c) cells=(cells.toList.take (k*size)++v.cells.toList++cells.toList.drop (k*size+size)).toArray:=by rw[<-aMT,aIO];rw[hf];simp[hs]
  rw[aI0];have hlen:(cells.toList.take (k*size)++v.cells.toList++cells.toList.drop (k*size+size)).length=cells.size:=by simp[hs];omega
  rw[WR vs (k+1) _ (λu hu=>hv u (by simp[hu])) (by simp only[B7];rw[hlen,BG];exact Ej)]
  congr 2
  have b:(cells.toList.take (k*size)++v.cells.toList).length=(k+1)*size:=by simp[hs];omega
  have e:(cells.toList.take (k*size)++v.cells.toList++cells.toList.drop (k*size+size)).take ((k+1)*size)=cells.toList.take (k*size)++v.cells.toList:=by rw[<-b];exact FB
  have d:(cells.toList.take (k*size)++v.cells.toList++cells.toList.drop (k*size+size)).drop ((k+1+vs.length)*size)=cells.toList.drop ((k+(vs.length+1))*size):=by
   rw[S4,AO (by rw[b];exact DT _ Ab),b,Eg,BQ];congr 1
   have:(k+1+vs.length)*size-(k+1)*size=vs.length*size:=by rw[BG (k+1)];omega
   rw[this,BG k,BG vs.length];omega
  rw[e,d];simp
def Lh{P:Program}{t:TypeId}(h:Mb P t=true):∃i z,P.info? t=some i/\i.zero=some z/\z.cells.size=i.size:=by
 unfold Mb at h;split at h
 .rename_i i hi;split at h;.rename_i z hz;exact⟨i,z,hi,hz,by simpa using h⟩
  .cases h
 .cases h
def JX{P:Program}{t:TypeId}{n:Nat}{i:TypeInfo}(h:B3 P t=some n)(hi:P.info? t=some i):i.size=n:=by simpa[B3,hi] using h
def LR{P:Program}{t:TypeId}{n:Nat}{i:TypeInfo}(h:J9 P t=some n)(hi:P.info? t=some i):i.bytes=n:=by simpa[J9,hi] using h
def WS:∀{args:List Aa} {us:List Value} {z:Nat},Bg U args us->(∀x∈args,x.cells.length=z)->0<z->Bg U (args.map (·.cells)).flatten (us.flatMap (·.cells.toList))/\(∀u∈us.flatMap (·.cells.toList),u.oneCell'=true)/\∀u∈us,u.cells.size=z
 |[],us,z,h,_,_=>by rw[Bg] at h;subst h;exact⟨rfl,AH,AH⟩
 |x::args,us,z,h,hl,hz=>by
  obtain⟨u,DK,rfl,h1,h2⟩:=h;have hx:=hl x AH;obtain⟨b,e⟩:=Hs h1 Ab;obtain⟨d,r2,c⟩:=WS h2 (λy hy=>hl y (by simp[hy])) hz;refine⟨by simpa using b.append d,λv hv=>?_,λv hv=>?_⟩;.simp only[MA,Ax] at hv;exact hv.elim (e v) (r2 v)
  .rcases AT.1 hv with rfl|hv
   .have:=b.length;simp at this;omega
   .exact c v hv
def ZN{a:Act}:∀{l:List (Nat×Operand)} {k:Nat},l.map (·.1)=List.range' k l.length->l.map (λp=>(p.1,a.eval p.2))=((l.map λp=>a.eval p.2).zipIdx k).map λp=>(p.2,p.1)
 |[],k,_=>AH
 |(i,x)::l,k,h=>by simp only[Bk,A9,List.range'_succ,E1] at h;obtain⟨rfl,h⟩:=h;simp[uO,ZN h]
def mg{o:Oper}{t e:TypeId}{len n:Nat}{parts:Array (Nat×Operand)}{args:List Aa}{u:Aa}(ho:o.op= .buildSlice t len parts)(ht:C.P.underlying t=some (.slice e))(KW:B3 C.P e=some (n+1))(hp:parts.toList.map (·.1)=List.range len)(j9:Mb C.P e=true)
  (ha:Bx C Z (parts.toList.map (·.2))=some args) (hu:AE (.Dh (n+1)) args=some u) (hr:C9 C U0 w0 U O Z h a w):FU C U0 w0 o a w (Z.put o.dst (.Bt u)) h:=by
 obtain⟨i,z,hi,hz,bX⟩:=Lh j9;have Qx:=JX KW hi;simp only[AE] at hu;split at hu
 .rename_i hc;cases hu;simp only[Bq,Dv,wz,Cz] at hc;obtain⟨RG,IV⟩:=hc;have EM:=DY hr ha;have hlen:parts.toList.length=len:=by have:=Cb List.length hp;simpa using this
  have Vx:args.length=len:=by have:=EM.length;simp at this;simp at hlen;omega
  obtain⟨f,j,g⟩:=WS EM RG (C4 n);have ZO:=f.length;rw[Hu (z:=n+1) (by intro r hr;obtain⟨x,hx,rfl⟩:=Bj.1 hr;exact RG x hx),Ak,Vx] at ZO;have A0:∃cells:Array Value,cells.toList=(parts.toList.map (·.2) |>.map a.eval).flatMap (·.cells.toList)/\(Instr.buildSlice t len (parts.map λ(i,x)=>(i,a.eval x))).run C.P w= .ok (.slice (some ⟨w.heap.size,0,none⟩) len len) (w.alloc (.cells cells e)):=by
   have bS:(parts.map λ(i,x)=>(i,a.eval x)).toList=(((parts.toList.map (·.2)).map a.eval).zipIdx 0).map λp=>(p.2,p.1):=by have:=ZN (a:=a) (l:=parts.toList) (k:=0) (by rw[hlen,<-aHZ];exact hp);simp only[Ng,List.map_map];exact this
   have vL:=WR (size:=n+1) ((parts.toList.map (·.2)).map a.eval) 0 ((Array.range (len*(n+1))).map (z.cells[·%z.cells.size]!)) g (by simp at hlen⊢;rw[hlen];exact Ag _);rw[<-bS] at vL;have e0:((Array.range (len*(n+1))).map (z.cells[·%z.cells.size]!)).toList.drop ((0+((parts.toList.map (·.2)).map a.eval).length)*(n+1))=[]:=by apply AO;simp at hlen⊢;rw[hlen];exact Ag _
   rw[e0] at vL;simp only[Mz,Kq,BQ,BE] at vL;refine⟨_,rfl,?_⟩;by_cases h0:len*(n+1)=0
   .have d:len=0:=by
     rcases Nat.mul_eq_zero.1 h0 with h|h
     .exact h
     .omega
    subst d;have c:parts=#[]:=by apply F0;simpa using hlen
    subst c;have b:(Array.range 0:Array Nat)=#[]:=rfl;simp[Instr.buildSlice,run_underlying ht,sizeOf,typeInfo,hi,newRow,Instr.fill,b]
   .exact run_buildSlice w t e len _ _ i z ht hi hz (by rw[Qx];rw[Vx] at IV;omega) (by rw[Qx];exact h0) (by rw[Qx];exact vL)
  obtain⟨cells,hcells,A0⟩:=A0;have hcs:cells.size=len*(n+1):=by rw[<-Cg,hcells];exact ZO
  obtain⟨U',Ej,FX,DC,FF⟩:=hr.WQ cells e (z:=n+1) (n:=len) (cap:=len) (AD:=args.map (·.cells)) (C4 n) (by simp[Vx]) (by intro r hr;obtain⟨x,hx,rfl⟩:=Bj.1 hr;exact RG x hx) hcs (Ag _)
   (by rw[Vx] at IV;have:len<=len*(n+1):=IJ _ (C4 n);simp only[maxLen];omega) (by rw[hcells,AG (by rw[ZO];exact Ag _)];exact f) (by rw[hcells,AG (by rw[ZO];exact Ag _)];exact j)
  obtain⟨m,LQ⟩:=FX.WO DC FF o.dst;exact FU.value (by simp only[execOp,ho];exact DE A0) LQ
 .cases hu
def mh{o:Oper}{t e:TypeId}{len n:Nat}{parts:Array (Nat×Operand)}(ho:o.op= .buildSlice t len parts)(ht:C.P.underlying t=some (.slice e))(KW:B3 C.P e=some (n+1))(hp:parts.toList.map (·.1)=List.range len)(j9:Mb C.P e=true)(h0:len=0)
  (hr:C9 C U0 w0 U O Z h a w):FU C U0 w0 o a w (Z.put o.dst (.Bt (.Gb (n+1)))) h:=by
 subst h0;obtain⟨i,z,hi,hz,bX⟩:=Lh j9;have c:parts=#[]:=by apply F0;have:=Cb List.length hp;simpa using this
 subst c;have b:(Array.range 0:Array Nat)=#[]:=rfl;have A0:(Instr.buildSlice t 0 ((#[]:Array (Nat×Operand)).map λ(i,x)=>(i,a.eval x))).run C.P w= .ok (.slice (some ⟨w.heap.size,0,none⟩) 0 0) (w.alloc (.cells #[] e)):=by simp[Instr.buildSlice,run_underlying ht,sizeOf,typeInfo,hi,newRow,Instr.fill,b]
 obtain⟨U',Ej,FX,_,_⟩:=hr.WQ #[] e (z:=n+1) (n:=0) (cap:=0) (AD:=[]) (C4 n) rfl AH AH (Ag _) (by simp[maxLen]) (by rw[Mz];exact(rfl:Bg U [] [])) AH;obtain⟨d,LQ⟩:=FX.WO (x:= .Gb (n+1)) (v:= .slice (some ⟨w.heap.size,0,none⟩) 0 0) ⟨_,rfl⟩ (.inl (.inr ⟨_,rfl⟩)) o.dst;exact FU.value (by simp only[execOp,ho];exact DE A0) LQ
def vO{t':TypeId}{size bytes:Nat}{v u r:Aa}{d:Value}(Gg:(∃i,C.P.underlying t'=some (.slice i))\/C.P.underlying t'=some .string)(hi:Hk U h w)(hu:BO U u d)(hp:HP size bytes v u=some r):
  ∃(AD:List (List Aa)) (news:List Value),DI size bytes v AD=some r/\Src C.P size t' d AD.length news w/\Bg U AD.flatten news/\(∀r∈AD,r.length=size):=by
 unfold HP at hp;split at hp;.rw[show d=_ from hu];exact⟨[],[],hp,⟨Gg,λ_=>rfl,run_firstCells_none w size 0 0 0,run_firstCells_none w.drew size 0 0 0,AH,AH⟩,rfl,AH⟩
 .rename_i z;split at hp;.obtain⟨b,x_⟩:=hu;rw[x_];exact⟨[],[],hp,⟨Gg,λ_=>rfl,run_firstCells_some w _ _ _ _ _ [] AH (λj x hj=>by simp at hj),run_firstCells_some w.drew _ _ _ _ _ [] AH (λj x hj=>by simp at hj),AH,AH⟩,rfl,AH⟩
  .cases hp
 .rename_i z AD;split at hp
  .rename_i hz;subst hz;obtain⟨c,cap,x_,Pl,hsp,hR⟩:=hu;obtain⟨us,g,e,f⟩:=hR.values;have Nr:∀(j:Nat) (x:Value),us[j]?=some x->c.add j=⟨c.block,c.off+j,none⟩:=λj x hj=>by
    have hpos:0<AD.length:=by
     rcases Jm AD.length with h0|h0
     .have:us.length=0:=by rw[e,h0,Mz]
      rw[Dn this] at hj;simp at hj
     .exact h0
    have pU:=N2 hsp Pl hpos;generalize c.block=b at*;generalize c.off=o at*;subst pU;unfold Addr.add;split<;>simp_all
   rw[x_];refine⟨AD,us,hp,⟨Gg,λ_=>rfl,run_firstCells_some w _ _ _ _ _ us e (λj x hj=>by rw[Nr j x hj];exact(hi.Io _ _ _ (f j x hj)).1),run_firstCells_some w.drew _ _ _ _ _ us e (λj x hj=>by rw[Nr j x hj];exact(hi.Io _ _ _ (f j x hj)).1),e,λx hx=>?_⟩,g,λr hr=>?_⟩;.obtain⟨j,hj⟩:=CP hx;exact(hi.Io _ _ _ (f j x hj)).2.1
   .obtain⟨j,hj⟩:=CP hr;exact(hR.get hj).1
  .cases hp
 .rename_i s;split at hp
  .rename_i hz;subst hz;rw[show d=_ from hu];have hlen:(Cd s).length=(⟨⟨s⟩⟩:ByteArray).size:=by simp[Cd,ByteArray.size]
   have hrel:∀l:List UInt8,Bg U (Cd l).flatten (l.map λb=>Value.int .u8 b.toNat):=by
    intro l;induction l with
    |nil=>rfl
    |cons b l ih=>exact⟨_,_,rfl,rfl,ih⟩
   refine⟨Cd s,byteCells ⟨⟨s⟩⟩,hp,?_,?_,λr hr=>?_⟩;.rw[hlen];exact⟨Gg,λ_=>rfl,firstCells_string _ w,firstCells_string _ w.drew,by rw[byteCells_length,FE],λu hu=>by obtain⟨_,_,rfl⟩:=Bj.1 hu;rfl⟩
   .simpa[byteCells] using hrel s
   .obtain⟨b,_,rfl⟩:=Bj.1 hr;rfl
  .cases hp
 .cases hp
def C9.mi(hr:C9 C U0 w0 U O Z h a w){g n cap z:Nat}{us:Array Value}{e:TypeId}{rr AD:List (List Aa)}{news:List Value}(FF:U.Bt g=some (.tail Z.length none (n*z)))(hB:w0.heap.size<=g)(hg:w.heap[g]?=some (.cells us e (0,0)))
  (ZE:us.size=cap*z) (hm:cap<=maxLen) (hz:0<z) (hv:BO U (.sl z rr) (.slice (some ⟨g,0,none⟩) n cap)) (hl:∀r∈AD,r.length=z) (hn:Bg U AD.flatten news) (h1:∀u∈news,u.oneCell'=true) (hroom:n+AD.length<=cap):
  ∃U',U.le U'/\C9 C U0 w0 U' O Z h a (w.setRow g (us.toList.take (n*z)++news++us.toList.drop (n*z+news.length)).toArray)/\BO U' (.sl z (rr++AD)) (.slice (some ⟨g,0,none⟩) (n+AD.length) cap)/\
   IU U' w0.heap.size (w.setRow g (us.toList.take (n*z)++news++us.toList.drop (n*z+news.length)).toArray) Z.length none (.slice (some ⟨g,0,none⟩) (n+AD.length) cap) (.sl z (rr++AD)):=by
 obtain⟨t,cap',lA,Pl,_,hR⟩:=hv;simp only[Value.slice.injEq,Bz] at lA;obtain⟨rfl,rfl,rfl⟩:=lA;simp only at hR;have OH:news.length=AD.length*z:=by rw[hn.length,Hu hl]
 have hfit:(rr.length+AD.length)*z<=us.size:=by rw[ZE];exact DT _ hroom
 rw[BG] at hfit;have c:(us.toList.take (rr.length*z)).length=rr.length*z:=Ee;obtain⟨vs,m,q,l⟩:=hR.values;have hvs:vs=us.toList.take (rr.length*z):=by
  apply Q3;intro j;by_cases hj:j<rr.length*z
  .have d:j<vs.length:=by rw[q];exact hj
   have hc:=(hr.D3.Io _ _ _ (l j _ (Ai d))).1;rw[cell_of_row w _ _ us e (0,0) hg,BU] at hc;rw[Ai d,CV hj];simpa using hc.symm
  .rw[D9 Ab,D9 (by rw[c];omega)]
 rw[hvs] at m;have OU:∀u∈us.toList.take (rr.length*z),u.oneCell'=true:=λu hu=>by rw[<-hvs] at hu;obtain⟨j,hj⟩:=CP hu;exact(hr.D3.Io _ _ _ (l j u hj)).2.1
 have f:(rr.length+AD.length)*z=rr.length*z+AD.length*z:=BG _ _ _;have ń:((us.toList.take (rr.length*z)++news++us.toList.drop (rr.length*z+news.length)).toArray).toList.take ((rr.length+AD.length)*z)=us.toList.take (rr.length*z)++news:=by
  have:(us.toList.take (rr.length*z)++news).length=(rr.length+AD.length)*z:=by rw[Aw,c,OH,f]
  rw[<-this];exact FB
 have KW:(us.toList.take (rr.length*z)++news++us.toList.drop (rr.length*z+news.length)).length=us.size:=by simp[OH];omega
 generalize p:(us.toList.take (rr.length*z)++news++us.toList.drop (rr.length*z+news.length)).toArray=DK at*;have aI3:DK.size=us.size:=by rw[<-p];simpa using KW
 obtain⟨hi,Ej⟩:=pM hr.D3 FF hg DK ((rr.length+AD.length)*z) Z.length none (λo ho=>by
   rw[<-p,AI,List.getElem?_toArray,Aj Ab,CV ho];simp)
  Ab (λo u ho hu=>by
   have:u∈DK.toList.take ((rr.length+AD.length)*z):=by refine CC (i:=o) ?_;rw[CV ho];simpa using hu
   rw[ń,Ax] at this;exact this.elim (OU u) (h1 u)) (λo v hv=>by
   have:=(hr.D3.Io _ _ _ hv).1;rwa [cell_of_row w _ _ us e (0,0) hg] at this)
 have hk:P8 g U w (U.Ds g DK ((rr.length+AD.length)*z) (some (.tail Z.length none ((rr.length+AD.length)*z)))) (w.setRow g DK):=
  ⟨Ej,λb x hb hx _=>⟨by simp only[Gh.Ds,Ac hb];exact hx,setRow_other w g b DK hb⟩⟩
 have k:E6 (U.Ds g DK ((rr.length+AD.length)*z) (some (.tail Z.length none ((rr.length+AD.length)*z)))) (rr++AD) z g 0:=by
  refine Ob (us:=DK.toList.take ((rr.length+AD.length)*z)) (λr hr=>?_) ?_ (λj u hj=>?_)
  .rcases Ax.1 hr with hr|hr
   .obtain⟨i,hi⟩:=CP hr;exact(hR.get hi).1
   .exact hl r hr
  .rw[ń,KR];exact(Bg.mono Ej _ _ m).append (Bg.mono Ej _ _ hn)
  .rw[Ch] at hj;split at hj;.rename_i hlt;simp only[Gh.Ds,BL,BU,Ae hlt];simpa using hj
   .cases hj
 refine⟨_,Ej,⟨hi,⟨hr.fr.size,λs=>?_⟩,hr.DW.write (g:=g) hB Ej AH rfl rfl rfl (λb hb=>⟨setRow_other w g b DK hb,by simp only[Gh.Ds,Ac hb]⟩),hr.defers,λx cs hx=>C1.mono Ej _ _ _ (hr.GZ x cs hx)⟩,
  ⟨⟨g,0,none⟩,cap,AH,by simpa using hroom,.inl rfl,k⟩,.inr ⟨g,rr.length+AD.length,cap,DK,e,z,rr++AD,rfl,rfl,by simp[Gh.Ds],hB,setRow_heap w g us DK e (0,0) hg,by rw[aI3,ZE],hroom,hm,hz⟩⟩
 by_cases hs:s=Z.length;.subst hs;rw[BR.Tq];trivial
 .exact(hr.fr.Ii s).keptBut FF hk (by simp only[KC.pI];intro hx;cases hx;exact hs rfl)
def Oc{t t' ty:TypeId}{ts:Array TypeId}{xs:Array Value}(h0:ts[0]?=some t)(h1:ts[1]?=some t'):Builtin.append_ ts ty xs=Builtin.append_ #[t,t'] ty xs:=by simp only[Builtin.append_,h0,h1];rfl
def Bg.ya{l:List Aa}{us:List Value}{n:Nat}(h:Bg U l us)(hn:us.length<=n):Bg U l (us.take n):=by rw[AG hn];exact h
def Ns{cs:List Aa}{z:Nat}:∀{n off:Nat},(CA cs z off n).flatten=(cs.drop off).take (n*z)
 |0,off=>by simp[CA]
 |n+1,off=>by rw[CA,CT,Ns,BG,D4,O1 (n*z) z,Ĳ,Eg]
def OI{cs:List Aa}{z:Nat}:∀{n off:Nat},(CA cs z off n).length=n
 |0,off=>rfl
 |n+1,off=>by rw[CA,A9,OI]
def QH{cs:List Aa}{z:Nat}:∀{n off:Nat},off+n*z<=cs.length->∀r∈CA cs z off n,r.length=z
 |0,off,_,r,hr=>by simp[CA] at hr
 |n+1,off,hl,r,hr=>by
  rw[BG,D4] at hl;rw[CA,AT] at hr;rcases hr with rfl|hr
  .rw[As,Bb];omega
  .exact QH Ab r hr
def WT{t':TypeId}{size:Nat}{u:Aa}{g:Value}{AD:List (List Aa)}(Gg:(∃m,C.P.underlying t'=some (.slice m))\/C.P.underlying t'=some .string)(hi:Hk U h w)(hu:BO U u g)(hp:GY h size u=some AD):
  ∃news:List Value,Src C.P size t' g AD.length news w/\Bg U AD.flatten news/\(∀r∈AD,r.length=size):=by
 unfold GY at hp;split at hp;.cases hp;rw[show g=_ from hu];exact⟨[],⟨Gg,λ_=>rfl,run_firstCells_none w size 0 0 0,run_firstCells_none w.drew size 0 0 0,AH,AH⟩,rfl,AH⟩
 .rename_i z;split at hp;.cases hp;obtain⟨b,x_⟩:=hu;rw[x_];exact⟨[],⟨Gg,λ_=>rfl,run_firstCells_some w _ _ _ _ _ [] AH (λj x hj=>by simp at hj),run_firstCells_some w.drew _ _ _ _ _ [] AH (λj x hj=>by simp at hj),AH,AH⟩,rfl,AH⟩
  .cases hp
 .rename_i z i;split at hp
  .rename_i hz;cases hp;subst hz;obtain⟨f,cap,x_,Pl,hsp,hR⟩:=hu;obtain⟨us,k,c,d⟩:=hR.values;have Nr:∀(j:Nat) (x:Value),us[j]?=some x->f.add j=⟨f.block,f.off+j,none⟩:=λj x hj=>by
    have hpos:0<AD.length:=by
     rcases Jm AD.length with h0|h0
     .have:us.length=0:=by rw[c,h0,Mz]
      rw[Dn this] at hj;simp at hj
     .exact h0
    have pU:=N2 hsp Pl hpos;generalize f.block=b at*;generalize f.off=o at*;subst pU;unfold Addr.add;split<;>simp_all
   rw[x_];refine⟨us,⟨Gg,λ_=>rfl,run_firstCells_some w _ _ _ _ _ us c (λj x hj=>by rw[Nr j x hj];exact(hi.Io _ _ _ (d j x hj)).1),run_firstCells_some w.drew _ _ _ _ _ us c (λj x hj=>by rw[Nr j x hj];exact(hi.Io _ _ _ (d j x hj)).1),c,λx hx=>?_⟩,k,λr hr=>?_⟩;.obtain⟨j,hj⟩:=CP hx;exact(hi.Io _ _ _ (d j x hj)).2.1
   .obtain⟨j,hj⟩:=CP hr;exact(hR.get hj).1
  .cases hp
 .rename_i s;split at hp
  .rename_i hz;cases hp;subst hz;rw[show g=_ from hu];have hlen:(Cd s).length=(⟨⟨s⟩⟩:ByteArray).size:=by simp[Cd,ByteArray.size]
   have hrel:∀l:List UInt8,Bg U (Cd l).flatten (l.map λb=>Value.int .u8 b.toNat):=by
    intro l;induction l with
    |nil=>rfl
    |cons b l ih=>exact⟨_,_,rfl,rfl,ih⟩
   refine⟨byteCells ⟨⟨s⟩⟩,?_,?_,λr hr=>?_⟩;.rw[hlen];exact⟨Gg,λ_=>rfl,firstCells_string _ w,firstCells_string _ w.drew,by rw[byteCells_length,FE],λu hu=>by obtain⟨_,_,rfl⟩:=Bj.1 hu;rfl⟩
   .simpa[byteCells] using hrel s
   .obtain⟨b,_,rfl⟩:=Bj.1 hr;rfl
  .cases hp
 .rename_i id off n z;split at hp
  .rename_i hz;subst hz;split at hp
   .rename_i cs hcs;split at hp
    .rename_i hl;cases hp;obtain⟨b,cap,hb,x_,Pl,jh,KW⟩:=hu;obtain⟨us,e,fr,k,pf,c,d⟩:=hi.cells id cs hcs b hb;have j8:(us.toList.take cs.length).length=cs.length:=c.length;have OH:(((us.toList.take cs.length).drop off).take (n*z)).length=n*z:=by rw[As,Bb,j8];omega
     have Nr:∀j,(⟨b,off,none⟩:Addr).add j=⟨b,off+j,none⟩:=λj=>by unfold Addr.add;split<;>simp_all
     have JV:∀(j:Nat) (x:Value),(((us.toList.take cs.length).drop off).take (n*z))[j]?=some x->w.cell? ((⟨b,off,none⟩:Addr).add j)=some x:=λj x hj=>by
      rw[Nr,cell_of_row w _ _ us e fr k];rw[Ch] at hj;split at hj
      .rw[Cr,Ch] at hj;split at hj;.simpa using hj
       .cases hj
      .cases hj
     rw[x_,OI];refine⟨((us.toList.take cs.length).drop off).take (n*z),⟨Gg,λ_=>rfl,run_firstCells_some w _ _ _ _ _ _ OH JV,run_firstCells_some w.drew _ _ _ _ _ _ OH (λj x hj=>JV j x hj),OH,λx hx=>d x (BB (Bm hx))⟩,?_,QH hl⟩;rw[Ns];exact(c.drop off).take (n*z)
    .cases hp
   .cases hp
  .cases hp
 .cases hp
def OJ{o:Oper}{c:Call}{t t' e:TypeId}{n b:Nat}{s x:Operand}{v u r:Aa}{AD:List (List Aa)}{news:List Value}(ho:o.op= .call c)(hc:c.callee= .builtin .append)(h0:c.argTypes[0]?=some t)(h1:c.argTypes[1]?=some t')(EM:c.args.toList=[s,x])(ht:C.P.underlying t=some (.slice e))
  (Gg:(∃G,C.P.underlying t'=some (.slice G))\/C.P.underlying t'=some .string) (KW:B3 C.P e=some (n+1)) (mj:J9 C.P e=some (b+1)) (FF:La C Z s=true) (j9:Mb C.P e=true) (hv:Bx C Z [s,x]=some [v,u])
  (Gq:DI (n+1) (b+1) v AD=some r) (Kx:Src C.P (n+1) t' (a.eval x) AD.length news w) (Vy:Bg U AD.flatten news) (oY:∀q∈AD,q.length=n+1) (hr:C9 C U0 w0 U O Z h a w):FU C U0 w0 o a w ((Z.DL (Dj Z s)).put o.dst (.Bt r)) h:=by
 obtain⟨i,z,hi,hz,bX⟩:=Lh j9;have Qx:=JX KW hi;have F:=LR mj hi;obtain⟨_,_,e0,hvs,oZ⟩:=Fc hr hv;cases e0;have xz:E5 C Z s=some v:=by
  unfold Bx at hv;split at hv;.rename_i p ps B I;cases hv;exact B
  .cases hv
 obtain⟨U1,Ej,Kt,DC,M⟩:=Pk hr FF xz (Z.DL (Dj Z s)).length none;have ml:=Bg.mono Ej _ _ Vy;have Ku:c.args.map a.eval=#[a.eval s,a.eval x]:=by apply HB;simp[EM]
 have MJ:∀v' w',(Builtin.append_ #[t,t'] o.type #[a.eval s,a.eval x]).run C.P w= .ok v' w'->(execOp a.eval o).run C.P w= .ok (.value v') w':=λv' w' A0=>by
  have:execOp a.eval o=(do pure (Next.value (<-Builtin.append_ #[t,t'] o.type #[a.eval s,a.eval x]))):=by rw[<-Ku,<-Oc (ty:=o.type) h0 h1];simp only[execOp,ho,resolve,hc];rfl
  rw[this];exact DE A0
 have Ke:Src C.P i.size t' (a.eval x) AD.length news w:=by rw[Qx];exact Kx
 have OH:news.length=AD.length*(n+1):=Kx.newsLen;have IP:∀(base:Option Addr) (k cap:Nat) (rr:List (List Aa)) (olds:List Value),a.eval s= .slice base k cap->rr.length=k->(∀q∈rr,q.length=n+1)->Bg U1 rr.flatten olds->(∀q∈olds,q.oneCell'=true)->
   (Builtin.firstCells i.size k (.slice base k cap)).run C.P w.drew= .ok olds.toArray w.drew->cap<k+AD.length->(k+AD.length)*(b+1)<=AM->r= .sl (n+1) (rr++AD)->
   FU C U0 w0 o a w ((Z.DL (Dj Z s)).put o.dst (.Bt r)) h:=by
  intro base k cap rr olds hs hk m ji E d hlt P9 Uc;have Q9:k+AD.length<=AM:=Bu (IJ _ (C4 b)) P9;have F8:=run_append_grow_src (P:=C.P) w t t' o.type e i z ht hi hz base k cap olds d (a.eval x) AD.length news Ke hlt (by simp only[AM] at Q9;omega) (by rw[F];exact growslice_fits hlt P9);rw[<-hs] at F8;have D6:=grownCap_ge w (k+AD.length) cap e;have aI4:olds.length=k*(n+1):=by rw[ji.length,Hu m,hk]
  have bw:(olds++news).length=(k+AD.length)*(n+1):=by rw[Aw,aI4,OH,BG]
  obtain⟨R,kY,LQ,WN,l⟩:=Kt.drew.WQ ((olds++news).toArray++Builtin.zeroCells z.cells (grownCap w (k+AD.length) cap e-(k+AD.length))) e (z:=n+1) (n:=k+AD.length) (cap:=grownCap w (k+AD.length) cap e) (AD:=rr++AD) (C4 n) (by simp[hk])
   (λq hq=>(Ax.1 hq).elim (m q) (oY q))
   (by simp only[J5,B7,size_zeroCells,bX,Qx,bw,<-BG];congr 1;omega) D6 (grownCap_le_maxLen w _ _ _ (by simp only[AM] at Q9;simp only[maxLen];omega))
   (by simp only[GV,KR];rw[<-bw,FB];exact ji.append ml)
   (λq hq=>by simp only[GV] at hq;rw[<-bw,FB,Ax] at hq;exact hq.elim (E q) (Kx.one q))
  rw[Uc];obtain⟨Q,f⟩:=LQ.WO WN l o.dst;exact FU.value (MJ _ _ F8) f
 rcases M with(rfl|⟨A,rfl⟩)|⟨g,k,cap,us,J,A,rr,rfl,JK,Ta,hB,hg,ZE,yb,hm,L⟩
 .have JK:a.eval s= .slice none 0 0:=DC;cases AD with
  |nil=>
   have Uc:r= .slnil:=by simpa[DI] using Gq.symm
   have vJ:news=[]:=Dn (by simpa using OH);subst vJ;have A0:(Builtin.append_ #[t,t'] o.type #[a.eval s,a.eval x]).run C.P w= .ok (.slice none 0 0) w:=by rw[JK];have hl:=Ke.len;have Vz:=Ke.cells;simp only[BP] at hl Vz;rcases Gg with⟨G,hk⟩|hk<;>simp[Builtin.append_,run_underlying ht,run_underlying hk,sizeOf,typeInfo,hi,hl,Vz]
   rw[Uc];exact FU.value (MJ _ _ A0) (Kt.put λ_ _=>⟨rfl,.inl (.inl rfl)⟩)
  |cons q AD=>
   have Pm:r= .sl (n+1) (q::AD)/\(q::AD).length*(b+1)<=AM:=by
    simp only[DI] at Gq;split at Gq;.rename_i hb;cases Gq;exact⟨rfl,hb⟩
    .cases Gq
   exact IP none 0 0 [] [] JK rfl AH rfl AH (run_firstCells_none _ _ _ _ _) AH (by simpa using Pm.2) (by simpa using Pm.1)
 .obtain⟨g,JK⟩:=id DC;cases AD with
  |nil=>
   have Uc:A=n+1/\r= .Gb A:=by
    simp only[DI] at Gq;split at Gq;.rename_i YY;cases Gq;exact⟨YY,by rw[YY]⟩
    .cases Gq
   obtain⟨rfl,Uc⟩:=Uc;have vJ:news=[]:=Dn (by simpa using OH);subst vJ;have A0:(Builtin.append_ #[t,t'] o.type #[a.eval s,a.eval x]).run C.P w= .ok (.slice (some ⟨g,0,none⟩) 0 0) w:=by rw[JK];have hl:=Ke.len;have Vz:=Ke.cells;simp only[BP] at hl Vz;rcases Gg with⟨G,hk⟩|hk<;>simp[Builtin.append_,run_underlying ht,run_underlying hk,sizeOf,typeInfo,hi,hl,Vz,storeCells,Result.andThen]
   rw[Uc];exact FU.value (MJ _ _ A0) (Kt.put λ_ _=>⟨⟨g,rfl⟩,.inl (.inr ⟨_,rfl⟩)⟩)
  |cons q AD=>
   have Pm:r= .sl (n+1) (q::AD)/\(q::AD).length*(b+1)<=AM:=by
    simp only[DI] at Gq;split at Gq;.rename_i hb;cases Gq;exact⟨rfl,hb.2⟩
    .cases Gq
   exact IP (some ⟨g,0,none⟩) 0 0 [] [] JK rfl AH rfl AH (run_firstCells_some w.drew _ _ _ _ _ [] AH (λj x hj=>by simp at hj)) AH (by simpa using Pm.2) (by simpa using Pm.1)
 .obtain⟨N,K,lA,Pl,_,hR⟩:=id DC;rw[JK] at lA;simp only[Value.slice.injEq,Bz] at lA;obtain⟨rfl,hk,rfl⟩:=lA;subst hk;simp only at hR;have D:A=n+1/\r= .sl (n+1) (rr++AD)/\(AD=[]\/(rr.length+AD.length)*(b+1)<=AM):=by
   cases AD with
   |nil=>
    simp only[DI] at Gq;split at Gq;.rename_i YY;cases Gq;exact⟨YY,by simp[YY],.inl rfl⟩
    .cases Gq
   |cons q AD=>
    simp only[DI] at Gq;split at Gq;.rename_i YY;cases Gq;exact⟨YY.1,rfl,.inr YY.2⟩
    .cases Gq
  obtain⟨rfl,Uc,P9⟩:=D;by_cases hroom:rr.length+AD.length<=cap
  .have hfit:rr.length*(n+1)+news.length<=us.size:=by rw[OH,ZE,<-BG];exact DT _ hroom
   have A0:=run_append_room_src (P:=C.P) w t t' o.type e i ht hi g 0 rr.length cap (a.eval x) AD.length news Ke hroom (λj hj=>by rw[cell_of_row w _ _ us J (0,0) hg,Qx,CR Ab];rfl) (λj hj=>frozen_of_row w _ _ us J hg)
   rw[BU,Qx,EL news _ us w hg hfit,<-JK] at A0;rw[JK] at DC;obtain⟨R,kY,LQ,WN,l⟩:=Kt.mi Ta hB hg ZE hm (C4 n) DC oY ml Kx.one hroom;obtain⟨Q,f⟩:=LQ.WO WN l o.dst;rw[Uc];exact FU.value (MJ _ _ A0) f
  .obtain⟨vs,B,I,H⟩:=hR.values;have Nr:∀j,(⟨g,0,none⟩:Addr).add j=⟨g,0+j,none⟩:=λj=>by unfold Addr.add;split<;>simp_all
   refine IP (some ⟨g,0,none⟩) rr.length cap rr vs JK rfl (λq hq=>?_) B (λq hq=>?_) ?_ Ab ?_ Uc;.obtain⟨j,hj⟩:=CP hq;exact(hR.get hj).1
   .obtain⟨j,hj⟩:=CP hq;exact(Kt.D3.Io _ _ _ (H j q hj)).2.1
   .rw[Qx];exact run_firstCells_some w.drew _ _ _ _ _ vs I (λj y hj=>by rw[Nr];exact(Kt.D3.Io _ _ _ (H j y hj)).1)
   .rcases P9 with rfl|P9
    .simp at hroom;omega
    .exact P9
def qE{o:Oper}{c:Call}{t t' e:TypeId}{n b:Nat}{s x:Operand}{v u r:Aa}(ho:o.op= .call c)(hc:c.callee= .builtin .append)(h0:c.argTypes[0]?=some t)(h1:c.argTypes[1]?=some t')(EM:c.args.toList=[s,x])(ht:C.P.underlying t=some (.slice e))
  (Gg:(∃d,C.P.underlying t'=some (.slice d))\/C.P.underlying t'=some .string) (KW:B3 C.P e=some (n+1)) (mj:J9 C.P e=some (b+1)) (FF:La C Z s=true) (j9:Mb C.P e=true) (hv:Bx C Z [s,x]=some [v,u])
  (hp:AE (.append (n+1) (b+1)) [v,u]=some r) (hr:C9 C U0 w0 U O Z h a w):FU C U0 w0 o a w ((Z.DL (Dj Z s)).put o.dst (.Bt r)) h:=by
 obtain⟨_,_,e0,hvs,oZ⟩:=Fc hr hv;cases e0;simp only[AE] at hp;obtain⟨AD,news,Gq,Kx,Vy,oY⟩:=vO (w:=w) Gg hr.D3 oZ hp;exact OJ ho hc h0 h1 EM ht Gg KW mj FF j9 hv Gq Kx Vy oY hr
def lB{o:Oper}{c:Call}{t t' e:TypeId}{n b:Nat}{s x:Operand}{v u r:Aa}(ho:o.op= .call c)(hc:c.callee= .builtin .append)(h0:c.argTypes[0]?=some t)(h1:c.argTypes[1]?=some t')(EM:c.args.toList=[s,x])(ht:C.P.underlying t=some (.slice e))
  (Gg:(∃d,C.P.underlying t'=some (.slice d))\/C.P.underlying t'=some .string) (KW:B3 C.P e=some (n+1)) (mj:J9 C.P e=some (b+1)) (FF:La C Z s=true) (j9:Mb C.P e=true) (hv:Bx C Z [s,x]=some [v,u])
  (hp:QF h (n+1) (b+1) v u=some r) (hr:C9 C U0 w0 U O Z h a w):FU C U0 w0 o a w ((Z.DL (Dj Z s)).put o.dst (.Bt r)) h:=by
 obtain⟨_,_,e0,hvs,oZ⟩:=Fc hr hv;cases e0;unfold QF at hp;cases hq:GY h (n+1) u with
 |none=>rw[hq] at hp;cases hp
 |some AD=>rw[hq] at hp;obtain⟨news,Kx,Vy,oY⟩:=WT (w:=w) Gg hr.D3 oZ hq;exact OJ ho hc h0 h1 EM ht Gg KW mj FF j9 hv hp Kx Vy oY hr
end
section
variable{C:FW}{γ0 γ γ':Gh}{w0 w w':World}{Z:Nat->Nat}{U:BR}{h:Ah}{a:Act}{fid:FuncId}{ops:List Oper}
def R7:∀s:Ao,(Cd s).flatten=s.map λb=>Aa.int .u8 b.toNat
 |[]=>rfl
 |_::s=>by have:=R7 s;simp only[Cd,Bk,CT] at this⊢;rw[this];rfl
def Mg(γ:Gh):∀l:Ao,Bg γ (Cd l).flatten (l.map λb=>Value.int .u8 b.toNat)
 |[]=>rfl
 |_::l=>⟨_,_,rfl,rfl,Mg γ l⟩
def KY(s:Ao)(cap:Nat):(bytesRow ⟨⟨s⟩⟩ cap).toList.take s.length=s.map λb=>Value.int .u8 b.toNat:=by have:(s.map λb=>Value.int .u8 (b.toNat:Int)).length=s.length:=AH;simp only[bytesRow,GV,Ng];rw[<-this];exact FB
def bY(s:Ao):(⟨⟨s⟩⟩:ByteArray).size=s.length:=by simp[ByteArray.size]
def yc{o:Oper}{src dst e:TypeId}{x:Operand}{v u:Aa}(ho:o.op= .convert src dst x)(hs:C.P.underlying src=some .string)(hd:C.P.underlying dst=some (.slice e))(he:C.P.underlying e=some (.int .u8))(hx:Bx C U [x]=some [v])(hp:AE .s2b [v]=some u)(hr:C9 C γ0 w0 γ Z U h a w):
  FU C γ0 w0 o a w (U.put o.dst (.val u)) h:=by
 obtain⟨_,e0,hv⟩:=GN hr hx;cases e0;simp only[AE] at hp;split at hp
 .rename_i s Ku;cases Ku;split at hp
  .cases hp;have A0:=run_bytes_of_string (P:=C.P) w src dst e ⟨⟨s⟩⟩ hs hd he;rw[<-N6 hv] at A0;have Ņ:=grownCap_ge w s.length 0 e;rw[bY] at A0;obtain⟨hi,ha⟩:=Pd hr.drew.D3 (bytesRow ⟨⟨s⟩⟩ (grownCap w s.length 0 e)) e ((bytesRow ⟨⟨s⟩⟩ (grownCap w s.length 0 e)).size,(bytesRow ⟨⟨s⟩⟩ (grownCap w s.length 0 e)).size+1) s.length none (λo u ho hu=>by have hm:u∈(bytesRow ⟨⟨s⟩⟩ (grownCap w s.length 0 e)).toList.take s.length:=CC (i:=o) (by rw[CV ho];simpa using hu);rw[KY] at hm;obtain⟨b,_,rfl⟩:=Bj.1 hm;rfl) (.inl rfl)
   have FX:=hr.drew.Jb hi ha;refine FU.value (v:= .slice (some ⟨w.heap.size,0,none⟩) s.length (grownCap w s.length 0 e)) (by simp only[execOp,ho];exact DE A0) (FX.put λ_ _=>⟨⟨w.heap.size,0,none⟩,grownCap w s.length 0 e,by simp[Cd],by simpa[Cd] using Ņ,.inl rfl,?_⟩);refine Ob (us:=s.map λb=>Value.int .u8 b.toNat) (λr hr=>?_) (Mg _ s) (λj u hj=>?_);.obtain⟨b,_,rfl⟩:=Bj.1 hr;rfl
   .rw[<-KY s (grownCap w s.length 0 e),Ch] at hj;split at hj;.rename_i hlt;simp only[Gh.Ds,heap_drew,BL,BU,Ae hlt];simpa using hj
    .cases hj
  .cases hp
 .cases hp
def bZ{o:Oper}{src dst e:TypeId}{x:Operand}{v u:Aa}{h':Ah}(ho:o.op= .convert src dst x)(hs:C.P.underlying src=some .string)(hd:C.P.underlying dst=some (.slice e))(he:C.P.underlying e=some (.int .u8))(hx:E5 C U x=some v)(hp:IQ h v=some (h',u))(hr:C9 C γ0 w0 γ Z U h a w):
  FU C γ0 w0 o a w (U.put o.dst (.val u)) h':=by
 have hv:=GI hr hx;unfold IQ at hp;split at hp
 .rename_i s;split at hp
  .cases hp;have A0:=run_bytes_of_string (P:=C.P) w src dst e ⟨⟨s⟩⟩ hs hd he;rw[<-N6 hv] at A0;have Ņ:=grownCap_ge w s.length 0 e;rw[bY] at A0;have hl:(s.map λb=>Aa.int .u8 b.toNat).length=s.length:=AH;have c:(bytesRow ⟨⟨s⟩⟩ (grownCap w s.length 0 e)).size=grownCap w s.length 0 e:=by have e0:ByteArray.size ⟨⟨s⟩⟩=s.length:=bY s;simp only[bytesRow,J5,Array.size_map,Array.size_replicate,e0];simp only[B7];omega
   have o7:s.length<=maxLen:=by
    have o7:s.length<=AM:=by assumption
    simp only[AM] at o7;simp only[maxLen];omega
   obtain⟨γ',Ej,hm,FX,KW⟩:=hr.drew.newObj (bytesRow ⟨⟨s⟩⟩ (grownCap w s.length 0 e)) e ((bytesRow ⟨⟨s⟩⟩ (grownCap w s.length 0 e)).size,(bytesRow ⟨⟨s⟩⟩ (grownCap w s.length 0 e)).size+1) (s.map λb=>Aa.int .u8 b.toNat) (.inr (Ag _))
    (by rw[hl,KY];have:=Mg γ s;rw[R7] at this;exact this)
    (λu hu=>by rw[hl,KY] at hu;obtain⟨b,_,rfl⟩:=Bj.1 hu;rfl)
   exact FU.value (v:= .slice (some ⟨w.heap.size,0,none⟩) s.length (grownCap w s.length 0 e)) (by simp only[execOp,ho];exact DE A0) (FX.put λ_ _=>⟨w.heap.size,_,hm,rfl,Ņ,⟨C4 0,grownCap_le_maxLen w _ _ _ o7⟩,by rw[BU,FE,<-c];exact KW⟩)
  .cases hp
 .cases hp
def Ic{O:Type}(l:List O):∀(c j:Nat),j<c*l.length->(List.replicate c l).flatten[j]?=l[j%l.length]?
 |0,j,h=>by simp at h
 |c+1,j,h=>by
  have h':j<c*l.length+l.length:=by rw[BG] at h;omega
  rw[KS,CT];by_cases hj:j<l.length;.rw[Aj hj,Nat.mod_eq_of_lt hj]
  .rw[Bl Ab,Ic l c _ Ab,show j%l.length=(j-l.length)%l.length from Nat.mod_eq_sub_mod Ab]
def mm{o:Oper}{t e:TypeId}{l c:Operand}{n b:Nat}{z:Aa}{B vc u:Aa}{h':Ah}(ho:o.op= .makeSlice t l c)(ht:C.P.underlying t=some (.slice e))(KW:B3 C.P e=some (n+1))(mj:J9 C.P e=some (b+1))(hz:Ha C.P e=some z)(hl:E5 C U l=some B)(hc:E5 C U c=some vc)
  (hm:RO h (n+1) (b+1) z.cells B vc=some (h',u)) (hr:C9 C γ0 w0 γ Z U h a w):FU C γ0 w0 o a w (U.put o.dst (.val u)) h':=by
 unfold RO at hm;split at hm
 .rename_i k m;split at hm
  .rename_i HS;obtain⟨J,I,H,A⟩:=HS;cases hm;unfold Ha at hz;cases hi:C.P.info? e with
   |none=>rw[hi] at hz;cases hz
   |some i=>
    rw[hi] at hz;cases jj:i.zero with
    |none=>simp[jj] at hz
    |some f=>
     simp only[Ct,jj] at hz;have Qx:=JX KW hi;have y:=LR mj hi;obtain⟨D,F⟩:=Hs (γ:=γ) (Fu hz) Ab;have bX:f.cells.size=n+1:=by have:=D.length;simp at this;omega
     have ņ:m.toNat*(b+1)<=AM:=H;have g:m.toNat<=AM:=Bu (IJ m.toNat (C4 b)) ņ;have A0:=run_make (P:=C.P) w t e i f ht hi jj .i64 .i64 k m J I (by
      rw[y];have G:((b+1:Nat):Int)*m=((m.toNat*(b+1):Nat):Int):=by rw[Int.natCast_mul,GW Ab,Int.mul_comm]
      rw[G];simp only[AM] at ņ;omega) (by simp only[AM] at g;omega)
     rw[<-Ew (GI hr hl),<-Ew (GI hr hc)] at A0;have hlen:((List.replicate m.toNat z.cells).flatten).length=m.toNat*(n+1):=by rw[Hu (z:=n+1) (λr hr=>by rw[ĳ hr,A]),FT]
     have p:∀(j:Nat) (u:Value),(madeCells f.cells (m.toNat*i.size)).toList[j]?=some u->j<m.toNat*(n+1)/\f.cells.toList[j%(n+1)]?=some u:=by
      intro j u hj;have ZP:j<m.toNat*(n+1):=by have:=(Al.1 hj).1;simpa[size_madeCells,Qx] using this
      refine⟨ZP,?_⟩;have aAN:j%(n+1)<f.cells.size:=by rw[bX];exact Nat.mod_lt _ (C4 n)
      simp only[madeCells,Ng,Cl] at hj;have d:(Array.range (m.toNat*i.size)).toList[j]?=some j:=by simp[Qx,ZP]
      rw[d] at hj;simp only[B9,Bz] at hj;rw[bX] at hj;rw[<-hj];simp[aAN]
     have E:Bg γ (List.replicate m.toNat z.cells).flatten (madeCells f.cells (m.toNat*i.size)).toList:=by refine Bg.Hc (by simp[hlen,size_madeCells,Qx]) λj x u hx hu=>?_;obtain⟨ZP,v⟩:=p j u hu;rw[Ic z.cells _ _ (by rw[A];exact ZP),A] at hx;obtain⟨K,vK,q⟩:=D.get hx;rw[v] at vK;cases vK;exact q
     obtain⟨γ',Ej,s,FX,aI7⟩:=hr.newObj (madeCells f.cells (m.toNat*i.size)) e (0,0) (List.replicate m.toNat z.cells).flatten (.inl rfl) (E.ya (by rw[E.length];exact Ag _)) (λu hu=>by obtain⟨j,hj⟩:=CP (Bm hu);exact F u (CC (p j u hj).2))
     exact FU.value (by simp only[execOp,ho];exact DE A0) (FX.put λ_ _=>⟨w.heap.size,m.toNat,s,rfl,Ab,⟨C4 n,by simp only[AM] at g;simp only[maxLen];omega⟩,by rw[aI7,size_madeCells,Qx,BU]⟩)
  .cases hm
 .cases hm
def C9.aD2(hr:C9 C γ0 w0 γ Z U h a w){g:Nat}(FF:γ.Bt g=some (.tail U.length none 0))(hB:w0.heap.size<=g){us:Array Value}{e:TypeId}(hg:w.heap[g]?=some (.cells us e (0,0)))(DK:Array Value)(cs:List Aa)
  (hv:Bg γ cs (DK.toList.take cs.length)) (h1:∀u∈DK.toList.take cs.length,u.oneCell'=true):∃γ',γ.le γ'/\γ'.mu h.length=some g/\C9 C γ0 w0 γ' Z U (h++[.cells cs]) a (w.setRow g DK)/\γ'.sz g=some DK.size:=by
 have f:γ.mu h.length=none:=by
  cases hc:γ.mu h.length with
  |none=>rfl
  |some y=>exact absurd (hr.D3.mu _ y hc) (Dr _)
 have KW:γ.sz g=none:=by
  cases hc:γ.sz g with
  |none=>rfl
  |some y=>obtain⟨_,r⟩:=hr.D3.sz g y hc;rw[FF] at r;rcases r with r|⟨_,r⟩<;>cases r
 have Ej:γ.le (γ.B0 g h.length (some DK.size)):=⟨λ_ _ _ hv=>hv,λid b hm=>by
  have:id≠h.length:=λhe=>by rw[he,f] at hm;cases hm
  simp only[Gh.B0,Ac this];exact hm,λb n hm=>by
  have:b≠g:=λhe=>by rw[he,KW] at hm;cases hm
  simp only[Gh.B0,Ac this];exact hm⟩
 have aAI:∀b n,(γ.B0 g h.length (some DK.size)).sz b=some n->(∃us e fr,(w.setRow g DK).heap[b]?=some (.cells us e fr)/\us.size=n)/\((γ.B0 g h.length (some DK.size)).Bt b=none\/∃id,(γ.B0 g h.length (some DK.size)).Bt b=some (.Md id)):=λb n hb=>by
  by_cases he:b=g;.subst he;simp only[Gh.B0,BL] at hb;cases hb;exact⟨⟨DK,e,(0,0),setRow_heap w b us DK e (0,0) hg,rfl⟩,.inr ⟨h.length,by simp[Gh.B0]⟩⟩
  .simp only[Gh.B0,Ac he] at hb⊢;obtain⟨p,r⟩:=hr.D3.sz b n hb;exact⟨by rw[setRow_other w g b DK he];exact p,r⟩
 have hne:∀b id,γ.Bt b=some (.Md id)->b≠g:=λb id hb he=>by rw[he,FF] at hb;cases hb
 have hk:P8 g γ w (γ.B0 g h.length (some DK.size)) (w.setRow g DK):=⟨Ej,λb x hb hx _=>⟨by simp only[Gh.B0,Ac hb];exact hx,setRow_other w g b DK hb⟩⟩;refine⟨_,Ej,by simp[Gh.B0],⟨⟨λb o v hb=>?_,λid y Ij hy=>?_,λid GX hc b hb=>?_,λid es hc b hb=>?_,λid b hb=>?_,λb y hy=>?_,aAI⟩,⟨hr.fr.size,λs=>?_⟩,hr.DW.write (g:=g) hB Ej AH rfl rfl rfl (λb hb=>⟨setRow_other w g b DK hb,by simp only[Gh.B0,Ac hb]⟩),hr.defers,λx GX hx=>C1.mono Ej _ _ _ (hr.GZ x GX hx)⟩,by simp[Gh.B0]⟩
 .obtain⟨p,q,r⟩:=hr.D3.Io b o v hb;have N4:b≠g:=λhe=>by
   subst he;rw[FF] at r;rcases r with r|⟨_,_,_,r,hl⟩
   .cases r
   .cases r;omega
  exact⟨by rw[CQ (setRow_other w g b DK N4)];exact p,q,by simp only[Gh.B0,Ac N4];exact r⟩
 .by_cases he:id=h.length;.exact⟨g,by simp[Gh.B0,he],by simp[Gh.B0,he]⟩
  .have WC:id<h.length:=by rw[Al] at Ij;obtain⟨hl,_⟩:=Ij;simp at hl;omega
   rw[Aj WC] at Ij;obtain⟨b,p,q⟩:=hr.D3.Md id y Ij hy;exact⟨b,by simp only[Gh.B0,Ac he];exact p,by simp only[Gh.B0,Ac (hne b id q)];exact q⟩
 .by_cases he:id=h.length;.subst he;simp[Gh.B0] at hb;subst hb;simp at hc;subst hc;exact⟨DK,e,(0,0),setRow_heap w g us DK e (0,0) hg,.inl rfl,Bg.mono Ej _ _ hv,h1⟩
  .simp only[Gh.B0,Ac he] at hb;have WC:=hr.D3.mu id b hb;rw[Aj WC] at hc;obtain⟨b',c,d⟩:=hr.D3.Md id _ hc AH;rw[hb] at c;cases c;obtain⟨pL,i,lq,p,pf,q,r⟩:=hr.D3.cells id GX hc b hb;exact⟨pL,i,lq,by rw[setRow_other w g b DK (hne b id d)];exact p,pf,Bg.mono Ej _ _ q,r⟩
 .by_cases he:id=h.length;.subst he;simp at hc
  .simp only[Gh.B0,Ac he] at hb;have WC:=hr.D3.mu id b hb;rw[Aj WC] at hc;obtain⟨b',c,d⟩:=hr.D3.Md id _ hc AH;rw[hb] at c;cases c;obtain⟨DD,clock,p,q⟩:=hr.D3.map id es hc b hb;exact⟨DD,clock,by rw[setRow_other w g b DK (hne b id d)];exact p,q.mono Ej⟩
 .by_cases he:id=h.length;.simp[he]
  .simp only[Gh.B0,Ac he] at hb;have:=hr.D3.mu id b hb;simp;omega
 .by_cases N4:b=g;.subst N4;have:=hr.D3.Bt _ _ FF;simpa using this
  .simp only[Gh.B0,Ac N4] at hy;have:=hr.D3.Bt b y hy;simpa using this
 .by_cases hs:s=U.length;.subst hs;rw[BR.Tq];trivial
  .exact(hr.fr.Ii s).keptBut FF hk (by simp only[KC.pI];intro hx;cases hx;exact hs rfl)
def C9.O3(hr:C9 C γ0 w0 γ Z U h a w){v v':Aa}{u:Value}{h':Ah}(hv:BO γ v u)(hf:Kw h v=some (h',v')):∃γ',γ.le γ'/\C9 C γ0 w0 γ' Z U h' a w/\BO γ' v' u:=by
 unfold Kw at hf;split at hf
 .rename_i id off n z;obtain⟨b,cap,hb,hu,hc,hz,KW⟩:=hv;split at hf
  .rename_i cs hcs;split at hf
   .rename_i hl;cases hf;obtain⟨us,e,fr,q,pf,p,m⟩:=hr.D3.cells id cs hcs b hb;obtain⟨hi,ha⟩:=ls hr.D3 hcs hb q m;have oY:∀(k o:Nat),(CA cs z o k).length=k:=by
     intro k;induction k with
     |zero=>intro o;rfl
     |succ k ih=>intro o;simp[CA,ih]
    have d:∀(k o i:Nat) (r:List Aa),(CA cs z o k)[i]?=some r->i<k/\r=(cs.drop (o+i*z)).take z:=by
     intro k;induction k with
     |zero=>intro o i r h;simp[CA] at h
     |succ k ih=>
      intro o i r h;cases i with
      |zero=>simp[CA] at h;exact⟨C4 _,by simpa using h.symm⟩
      |succ i=>simp[CA] at h;obtain⟨l,g⟩:=ih _ _ _ h;exact⟨Ab,by rw[g];congr 2;rw[BG];omega⟩
    refine⟨_,ha.le,hr.Jb hi ha,⟨b,off,none⟩,cap,by rw[oY];exact hu,by rw[oY];exact hc,.inl rfl,E6.Hc λi r f=>?_⟩;obtain⟨l,rfl⟩:=d n off i r f;have t:i*z+z<=n*z:=by have:=DT z (Ab:i+1<=n);rwa [BG,D4] at this
    refine⟨Ee,C1.Hc λj x hj=>?_⟩;rw[Ch] at hj;split at hj;.rename_i s;rw[Cr] at hj;obtain⟨y,hy,c⟩:=p.get hj;have hlt:off+i*z+j<cs.length:=(Al.1 hj).1;refine⟨y,?_,BO.mono ha.le _ _ c⟩;simp only[Gh.Ds,BL,Ae hlt];rw[CV hlt] at hy;simpa using hy
    .cases hj
   .cases hf
  .cases hf
 .cases hf;exact⟨γ,.refl _,hr,hv⟩
def Sa:∀{AD:List (List Aa)} {s:Ao},MM AD=some s->∃ns:List Int,AD=ns.map (λn=>[.int .u8 n])/\s=ns.map λn=>UInt8.ofNat n.toNat
 |[],s,hs=>by cases hs;exact⟨[],rfl,rfl⟩
 |r::AD,s,hs=>by
  unfold MM at hs;split at hs;.rename_i Ku;cases Ku
  .rename_i n rs Ku;cases Ku;cases hq:MM AD with
   |none=>rw[hq] at hs;cases hs
   |some l=>rw[hq] at hs;cases hs;obtain⟨ns,rfl,rfl⟩:=Sa hq;exact⟨n::ns,rfl,rfl⟩
  .cases hs
def WU:∀(ns:List Int) (r:ByteArray),ns.foldl (λr n=>r.push (UInt8.ofNat n.toNat)) r=⟨r.data++(ns.map λn=>UInt8.ofNat n.toNat).toArray⟩
 |[],r=>AH
 |n::ns,r=>by rw[jd,WU ns];simp[ByteArray.push]
def yd{o:Oper}{src dst e:TypeId}{x:Operand}{v v' u:Aa}{h':Ah}(ho:o.op= .convert src dst x)(hs:C.P.underlying src=some (.slice e))(hd:C.P.underlying dst=some .string)(he:C.P.underlying e=some (.int .u8))(hx:E5 C U x=some v)(hf:Kw h v=some (h',v'))(hp:AE .Wh [v']=some u)
  (hr:C9 C γ0 w0 γ Z U h a w):FU C γ0 w0 o a w (U.put o.dst (.val u)) h':=by
 obtain⟨γ',Ej,FX,DC⟩:=hr.O3 (GI hr hx) hf;have MJ:∀s,(Conv.bytesToString (a.eval x)).run C.P w= .ok s w->(∃p l c,a.eval x= .slice p l c)->(execOp a.eval o).run C.P w= .ok (.value s) w:=λs A0 ⟨p,l,c,o7⟩=>by simp only[execOp,ho];refine DE ?_;rw[o7] at A0⊢;rw[run_convert_bytes_string w src dst e p l c hs he hd];exact A0
 simp only[AE] at hp;unfold Wj at hp;split at hp
 .rename_i AD;cases hq:MM AD with
  |none=>rw[hq] at hp;cases hp
  |some s=>
   rw[hq] at hp;cases hp;obtain⟨ns,rfl,rfl⟩:=Sa hq;obtain⟨d,cap,o7,hc,hsp,hR⟩:=DC;have Nr:∀(j:Nat) (v:Value),(ns.map (Value.int .u8))[j]?=some v->d.add j=⟨d.block,d.off+j,none⟩:=λj v hj=>by
    have hpos:0<ns.length:=by have:=(Al.1 hj).1;simp at this;omega
    have pU:=N2 hsp hc (by simpa using hpos);generalize d.block=b at*;generalize d.off=o at*;subst pU;unfold Addr.add;split<;>simp_all
   have hl:=run_loadCells_list (P:=C.P) w d (ns.map (Value.int .u8)) (λj v hj=>by
    rw[Nr j v hj];simp only[Cl] at hj;cases hn:ns[j]? with
    |none=>rw[hn] at hj;cases hj
    |some n=>rw[hn] at hj;cases hj;obtain⟨_,m⟩:=hR.get (i:=j) (r:=[.int .u8 n]) (by simp[hn]);obtain⟨y,hy,g⟩:=m.get (i:=0) (a:= .int .u8 n) rfl;rw[show y=_ from g] at hy;have:=(FX.D3.Io _ _ _ hy).1;simpa using this)
   simp only[Ak] at hl;have A0:=run_bytesToString (P:=C.P) w d ns.length cap ns hl;have k:ByteArray.empty.data=#[]:=rfl;rw[WU,k,Array.empty_append] at A0;have f:a.eval x= .slice (some d) ns.length cap:=by rw[o7];simp
   rw[<-f] at A0;exact FU.value (MJ _ A0 ⟨_,_,_,f⟩) (FX.put λ_ _=>rfl)
 .cases hp;have f:a.eval x= .slice none 0 0:=DC;have A0:(Conv.bytesToString (a.eval x)).run C.P w= .ok (.string ⟨⟨[]⟩⟩) w:=by rw[f];simp[Conv.bytesToString];rfl
  exact FU.value (MJ _ A0 ⟨_,_,_,f⟩) (FX.put λ_ _=>rfl)
 .cases hp
def mn(C:FW)(f:FuncId):Prop:=
 (∃fn c,C.P.funcs[f]?=some fn/\(fn.name== "runtime.NumGoroutine")=false/\fn.body=some c)/\
 ∀(γ:Gh) (h:Ah) (w:World) (s:Aa) (d:Value) (i x:Int) (h':Ah) (r:Aa) (g b:Nat) (us:Array Value) (e:TypeId),Hk γ h w->BO γ s d->P4 h [s,.int .i64 i,.sl 1 [[.int .i64 x]]]=some (h',r)->
  w.heap[g]?=some (.cells us e (0,0))->us[0]?=some (.int .i64 x)->(∀id,γ.Bt g≠some (.Md id))->1<=b->us.size=b->
  Calls C.P f #[d,.int .i64 i,.slice (some ⟨g,0,none⟩) 1 b] w λe w'=>match e with
   | .returned v=>∃γ',Hk γ' h' w'/\Ld γ w γ' w'/\BO γ' r v
   |_=>False
def Fe(C:FW)(run:IT->Ah->Option J6):Prop:=
 ((∀g cs,C.GZ g=some cs->cs.all Aa.MI=true)/\∀f,C.MN f=true->mn C f)/\
 ∀(f:FuncId) (args:List Aa) (h:Ah) (r:Aa) (h':Ah),run (Ca C f args) h=some (.ret,[r],h')->
  (∃fn c,C.P.funcs[Ez f]?=some fn/\(fn.name== "runtime.NumGoroutine")=false/\fn.body=some c)/\
  ∀(γ:Gh) (w:World) (cargs:Array Value),Hk γ h w->(∀g cs,C.GZ g=some cs->C1 γ cs g 0)->Bg γ args cargs.toList->
   Calls C.P (Ez f) cargs w λe w'=>match e with
    | .returned v=>∃γ',Hk γ' h' w'/\Ld γ w γ' w'/\BO γ' r v/\(C.Jh f=true->∃s c,IU γ' w.heap.size w' s c v r)
    |_=>False
def C9.aAO(hr:C9 C γ0 w0 γ Z U h a w){h':Ah}{r:Aa}{v:Value}(hi:Hk γ' h' w')(ha:Ld γ w γ' w')(hv:BO γ' r v){Bt:Bool}(ho:Bt=true->∃s c,IU γ' w.heap.size w' s c v r)(d:Option Nat):
  ∃f,C9 C γ0 w0 f Z (U.put d (if Bt then .Bt r else .val r)) h' (a.put d v) w':=by
 cases Bt with
 |false=>exact⟨γ',(hr.Jb hi ha).put λ_ _=>hv⟩
 |true=>
  obtain⟨s,c,j⟩:=ho rfl;rcases j with j|⟨g,n,cap,us,e,z,AD,rfl,h2,m,l,k⟩
  .exact⟨γ',(hr.Jb hi ha).put λ_ _=>⟨hv,.inl j⟩⟩
  .have i:Ld γ w (γ'.FN g (.tail U.length none (n*z))) w':=⟨ha.le.trans (Hr _ _ _),ha.size,ha.os,ha.tape,ha.output,λb hb hn=>by obtain⟨p,q⟩:=ha.N3 b hb hn;exact⟨p,by simp only[Gh.FN,Ac (Ab:b≠g)];exact q⟩⟩
   have FX:=hr.Jb (hi.FN (s':=U.length) (c':=none) m) i;exact FX.WO (BO.mono (Hr _ _ _) _ _ hv) (.inr ⟨g,n,cap,us,e,z,AD,rfl,h2,by simp[Gh.FN],Bu hr.DW.size l,k⟩) d
def Ik{P:Program}{f:FuncId}{fn:Func}{c:Code}(hf:P.funcs[f]?=some fn)(hname:(fn.name== "runtime.NumGoroutine")=false)(hb:fn.body=some c)(args:Array Value)(w:World):
  (callFunc f args).run P w= .ok (.enter f args) w:=by
 have hn:¬fn.name= "runtime.NumGoroutine":=by simpa using hname
 simp[callFunc,hf,hn,hb]
def Sb{o:Oper}{f:FuncId}{cargs:Array Value}{K:Act->World->Prop}{Q:Exit->Act->World->Prop}(he:(execOp a.eval o).run C.P w= .ok (.enter f cargs) w){R:Value->World->Prop}
  (hc:Calls C.P f cargs w λe w'=>match e with| .returned v=>R v w'|_=>False) (hk:∀v w',R v w'->K (a.put o.dst v) w'):o.wp C.P a w K Q:=by
 unfold Oper.wp;rw[he];refine hc.mono λe w' h=>?_;cases e with
 |returned v=>exact hk v w' h
 |_=>exact h.elim
def mo{run:IT->Ah->Option J6}(g:Fe C run){o:Oper}{c:Call}{f:FuncId}{args:List Aa}{r:Aa}{h':Ah}{K:Act->World->Prop}{Q:Exit->Act->World->Prop}(ho:o.op= .call c)(hcl:c.callee= .value (.func (Ez f)))(ha:Bx C U c.args.toList=some args)
  (A0:run (Ca C f args) h=some (.ret,[r],h')) (hr:C9 C γ0 w0 γ Z U h a w) (i:∀γ' v w',C9 C γ0 w0 γ' Z (U.put o.dst (if C.Jh f then .Bt r else .val r)) h' (a.put o.dst v) w'->K (a.put o.dst v) w'):o.wp C.P a w K Q:=by
 obtain⟨⟨fn,j,hf,hname,hb⟩,d⟩:=g.2 f args h r h' A0;have b:Bg γ args (c.args.map a.eval).toList:=by simpa using DY hr ha
 refine Sb (f:=Ez f) (cargs:=c.args.map a.eval) ?_ (d γ w _ hr.D3 hr.GZ b) λv w' ⟨γ',hi,Kf,hv,FF⟩=>?_;.have h0:a.eval (.func (Ez f))= .func (.func (Ez f)) #[] #[]:=rfl;simp only[execOp,ho,resolve,hcl,Deferred.ofValue,h0,Sem.run_bind,Sem.run_pure,Result.andThen_ok,invoke];simpa using Ik hf hname hb (c.args.map a.eval) w
 .obtain⟨e,LQ⟩:=hr.aAO hi Kf hv FF o.dst;exact i e v w' LQ
def ye{run:IT->Ah->Option J6}(M:Fe C run){o:Oper}{c:Call}{f:FuncId}{s i x:Operand}{args:List Aa}{r:Aa}{h':Ah}{K:Act->World->Prop}{Q:Exit->Act->World->Prop}(ho:o.op= .call c)(hcl:c.callee= .value (.func f))(hf:C.MN f=true)(EM:c.args.toList=[s,i,x])(FF:La C U x=true)
  (ha:Bx C U [s,i,x]=some args) (hp:P4 h args=some (h',r)) (hr:C9 C γ0 w0 γ Z U h a w) (N:∀γ' v w',C9 C γ0 w0 γ' Z (U.put o.dst (.val r)) h' (a.put o.dst v) w'->K (a.put o.dst v) w'):o.wp C.P a w K Q:=by
 obtain⟨⟨fn,cd,yf,hname,hb⟩,yg⟩:=M.1.2 f hf;have qF:=DY hr ha;obtain⟨A,d,f1,g1,f2⟩:∃A d,[a.eval s,a.eval i,a.eval x]=A::d/\BO γ (args.getD 0 .nilIface) A/\True:=by
  cases args with
  |nil=>cases qF
  |cons y l=>obtain⟨u,us,e,p,q⟩:=qF;exact⟨u,us,e,p,trivial⟩
 obtain⟨s',j,x',he,k,G,F⟩:∃s' j x',args=[s',.int .i64 j,.sl 1 [[.int .i64 x']]]/\∃(k:BO γ s' (a.eval s)) (G:a.eval i= .int .i64 j),BO γ (.sl 1 [[.int .i64 x']]) (a.eval x):=by
  unfold P4 at hp;split at hp;.obtain⟨_,_,_,e,E,D,B⟩:=qF.T8;simp only[Bk,CW,E1,MB] at e;obtain⟨rfl,rfl,rfl⟩:=e;exact⟨_,_,_,rfl,E,D,B⟩
  .obtain⟨_,_,_,e,E,D,B⟩:=qF.T8;simp only[Bk,CW,E1,MB] at e;obtain⟨rfl,rfl,rfl⟩:=e;exact⟨_,_,_,rfl,E,D,B⟩
  .cases hp
 subst he;have oZ:E5 C U x=some (.sl 1 [[.int .i64 x']]):=by simp only[Bx] at ha;cases h1:E5 C U s<;>cases h2:E5 C U i<;>cases I:E5 C U x<;>simp_all
 obtain⟨sl,o7⟩:∃sl,Ec C U x=some sl:=by
  unfold La at FF;cases hs:Ec C U x with
  |none=>rw[hs] at FF;cases FF
  |some sl=>exact⟨sl,rfl⟩
 have aI8:∃v,sl= .Bt v:=by unfold La at FF;rw[o7] at FF;cases sl<;>first|exact⟨_,rfl⟩|cases FF
 obtain⟨v,rfl⟩:=aI8;obtain⟨s0,hrel,_⟩:=Gp hr o7;have aI9:v= .sl 1 [[.int .i64 x']]:=by simp only[E5,o7,Ct,En.Hq,Bz] at oZ;exact oZ
 subst aI9;obtain⟨vN,m⟩:=hrel;rcases m with(m|⟨_,m⟩)|⟨g,n,cap,us,e,z,AD,h1,h2,I,W,H,R,O,V,T⟩
 .cases m
 .cases m
 .cases h1;obtain⟨ad,L,J,Y,X,S⟩:=F;rw[h2] at J;cases J;obtain⟨_,hm,_⟩:=S;obtain⟨⟨u,hu,hru⟩,_⟩:=hm;obtain⟨JV,_,_⟩:=hr.D3.Io _ _ _ hu;have ZE:us[0]?=some (.int .i64 x'):=by rw[cell_of_row w _ _ us e (0,0) H] at JV;rw[JV];exact Cb some hru
  have b:c.args.map a.eval=#[a.eval s,.int .i64 j,.slice (some ⟨g,0,none⟩) 1 cap]:=by apply HB;simp only[Ng,EM,Bk,CW,G,h2];rfl
  have Vz:=yg γ h w s' _ j x' h' r g cap us e hr.D3 k hp H ZE (λid Ij=>by rw[I] at Ij;cases Ij) O (by rw[R,FE]);rw[<-b] at Vz;refine Sb (f:=f) (cargs:=c.args.map a.eval) ?_ Vz λv w' ⟨γ',hi,Kf,hv⟩=>?_;.have h0:a.eval (.func f)= .func (.func f) #[] #[]:=rfl;simp only[execOp,ho,resolve,hcl,Deferred.ofValue,h0,Sem.run_bind,Sem.run_pure,Result.andThen_ok,invoke];simpa using Ik yf hname hb (c.args.map a.eval) w
  .obtain⟨t,LQ⟩:=hr.aAO (Bt:=false) hi Kf hv (λe=>by cases e) o.dst;exact N t v w' (by simpa using LQ)
def Gh.apart(γ:Gh):Gh:={Io:=γ.Io,mu:=λ_=>none,Bt:=λb=>match γ.Bt b with|some (.Md _)=>none|x=>x,sz:=γ.sz}
def Hk.apart(hi:Hk γ h w):Hk γ.apart [] w:=by
 refine⟨λb o v hb=>?_,λid x hx=>by simp at hx,λid cs hx=>by simp at hx,λid es hx=>by simp at hx,λid b hb=>(by cases hb),λb x hx=>?_,λb n hb=>?_⟩;rotate_left 2;.obtain⟨p,r⟩:=hi.sz b n hb;refine⟨p,.inl ?_⟩;simp only[Gh.apart];rcases r with r|⟨_,r⟩<;>rw[r]
 .obtain⟨p,q,r⟩:=hi.Io b o v hb;refine⟨p,q,?_⟩;simp only[Gh.apart];rcases r with r|⟨s,c,st,r,hl⟩
  .exact .inl (by rw[r])
  .exact .inr ⟨s,c,st,by rw[r],hl⟩
 .simp only[Gh.apart] at hx;split at hx;.cases hx
  .exact hi.Bt b x hx
def C9.yh(hr:C9 C γ0 w0 γ Z U h a w){c:Gh}{h1:Ah}(hi:Hk c h1 w')(ha:Ld γ.apart w c w'):∃d,C9 C γ0 w0 d Z U h a w':=by
 have YN:∀b id,γ.apart.Bt b≠some (.Md id):=λb id e=>by
  simp only[Gh.apart] at e;split at e;.cases e
  .rename_i hn;exact hn id e
 have No:∀b,b<w.heap.size->w'.heap[b]?=w.heap[b]?:=λb hb=>(ha.N3 b hb (YN b)).1;refine⟨γ,hr.Jb ⟨λb o v hb=>?_,hr.D3.Md,λid cs hc b hb=>?_,λid es hc b hb=>?_,hr.D3.mu,λb x hx=>LK (hr.D3.Bt b x hx) ha.size,λb n hb=>(by
   obtain⟨⟨us,e,fr,p,q⟩,r⟩:=hr.D3.sz b n hb;exact⟨⟨us,e,fr,by rw[No b (A5.1 p).1];exact p,q⟩,r⟩)⟩
  ⟨.refl _,ha.size,ha.os,ha.tape,ha.output,λb hb _=>⟨No b hb,rfl⟩⟩⟩
 .obtain⟨p,q,r⟩:=hr.D3.Io b o v hb;exact⟨by rw[CQ (No b (DM p))];exact p,q,r⟩
 .obtain⟨us,e,fr,p,q⟩:=hr.D3.cells id cs hc b hb;exact⟨us,e,fr,by rw[No b (A5.1 p).1];exact p,q⟩
 .obtain⟨DD,clock,p,q⟩:=hr.D3.map id es hc b hb;exact⟨DD,clock,by rw[No b (A5.1 p).1];exact p,q⟩
def WV{γ γ':Gh}{x:Aa}{v:Value}(hf:x.MI=true)(hv:BO γ x v):BO γ' x v:=by cases x<;>first|exact hv|cases hf
def ZQ{γ γ':Gh}:∀{l:List Aa} {us:List Value},l.all Aa.MI=true->Bg γ l us->Bg γ' l us
 |[],us,_,h=>h
 |x::l,us,hf,h=>by obtain⟨u,DK,e,h1,h2⟩:=h;simp only[bI,Bq] at hf;exact⟨u,DK,e,WV hf.1 h1,ZQ hf.2 h2⟩
def C1.apart{γ:Gh}:∀{l:List Aa} {b o:Nat},C1 γ l b o->l.all Aa.MI=true->C1 γ.apart l b o
 |[],_,_,_,_=>trivial
 |x::l,b,o,h,hf=>by obtain⟨⟨u,h1,h2⟩,c⟩:=h;simp only[bI,Bq] at hf;exact⟨⟨u,h1,WV hf.1 h2⟩,c.apart hf.2⟩
def bz{run:IT->Ah->Option J6}(i:Fe C run){o:Oper}{c:Call}{f:FuncId}{args:List Aa}{r:Aa}{h1:Ah}{K:Act->World->Prop}{Q:Exit->Act->World->Prop}(ho:o.op= .call c)(hcl:c.callee= .value (.func (Ez f)))(ha:Bx C U c.args.toList=some args)
  (hfa:args.all Aa.MI=true) (A0:run (Ca C f args) []=some (.ret,[r],h1)) (vI:r.MI=true) (hr:C9 C γ0 w0 γ Z U h a w) (j:∀γ' v w',C9 C γ0 w0 γ' Z (U.put o.dst (.val r)) h (a.put o.dst v) w'->K (a.put o.dst v) w'):o.wp C.P a w K Q:=by
 obtain⟨⟨fn,k,hf,hname,hb⟩,d⟩:=i.2 f args [] r h1 A0;have b:Bg γ.apart args (c.args.map a.eval).toList:=ZQ hfa (by simpa using DY hr ha);refine Sb (f:=Ez f) (cargs:=c.args.map a.eval) ?_ (d γ.apart w _ hr.D3.apart (λg cs hg=>(hr.GZ g cs hg).apart (i.1.1 g cs hg)) b) λv w' ⟨γ',hi,Kf,hv,_⟩=>?_;.have h0:a.eval (.func (Ez f))= .func (.func (Ez f)) #[] #[]:=rfl;simp only[execOp,ho,resolve,hcl,Deferred.ofValue,h0,Sem.run_bind,Sem.run_pure,Result.andThen_ok,invoke];simpa using Ik hf hname hb (c.args.map a.eval) w
 .obtain⟨e,LQ⟩:=hr.yh hi Kf;exact j e v w' (LQ.put λ_ _=>WV vI hv)
def b_{run:IT->Ah->Option J6}(l:Fe C run){o:Oper}{c:Call}{g:Operand}{k:Aa}{f:FuncId}{args args':List Aa}{r:Aa}{h':Ah}{K:Act->World->Prop}{Q:Exit->Act->World->Prop}(ho:o.op= .call c)(hcl:c.callee= .value g)(hg:E5 C U g=some k)
  (ha:Bx C U c.args.toList=some args) (ht:Di k args=some (f,args')) (A0:run (Ca C f args') h=some (.ret,[r],h')) (hr:C9 C γ0 w0 γ Z U h a w) (m:∀γ' v w',C9 C γ0 w0 γ' Z (U.put o.dst (.val r)) h' (a.put o.dst v) w'->K (a.put o.dst v) w'):o.wp C.P a w K Q:=by
 obtain⟨⟨fn,n,hf,hname,hb⟩,b⟩:=l.2 f args' h r h' A0;have j:=GI hr hg;unfold Di at ht;split at ht
 .rename_i f0 first captured
  split at ht;rotate_left;.cases ht
  rename_i o8;cases ht;rw[show Ez f=f from Ae o8] at hf b;obtain⟨fs,cs,D6,h1,h2⟩:=j;have d:Bg γ (first++args++captured) (fs++c.args.map a.eval++cs).toList:=by simpa using(h1.append (DY hr ha)).append h2
  refine Sb (f:=f) (cargs:=fs++c.args.map a.eval++cs) ?_ (b γ w _ hr.D3 hr.GZ d) λv w' ⟨γ',hi,Kf,hv,FF⟩=>?_;.simp only[execOp,ho,resolve,hcl,Deferred.ofValue,D6,Sem.run_bind,Sem.run_pure,Result.andThen_ok,invoke];exact Ik hf hname hb _ w
  .obtain⟨i,LQ⟩:=hr.aAO (Bt:=false) hi Kf hv (λe=>by cases e) o.dst;exact m i v w' (by simpa using LQ)
 .cases ht
end
end Go.Am
end
