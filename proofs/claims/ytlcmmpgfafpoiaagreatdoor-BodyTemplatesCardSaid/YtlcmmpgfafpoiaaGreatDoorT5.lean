/- Lemmas -/
import Derived.Test.YtlcmmpgfafpoiaaGreatDoorT4
import Derived.Deep.AppendSrc
import Derived.Great.BuildSlice
import Derived.Laws.IdiomStrings
set_option linter.all false
section
namespace Go.Am
open Go
section
variable{C:F8}{U0 U U':Gh}{w0 w w':World}{O:Nat->Nat}{Z:BV}{h:Ah}{a:Act}{fid:FuncId}{ops:List Oper}
def DK{P:Program}{s:Sem Value}{v:Value}(hs:s.run P w= .ok v w'):(do pure (Next.value (<-s)):Sem Next).run P w= .ok (.value v) w':=by simp[hs]
def Uz{J:Type}{z:Nat}:∀{AD:List (List J)},(∀r∈AD,r.length=z)->∀{i:Nat} {r:List J},AD[i]?=some r->∀{j:Nat} {x:J},r[j]?=some x->AD.flatten[i*z+j]?=some x
 |[],_,i,r,hi,_,_,_=>by simp at hi
 |q::AD,hl,0,r,hi,j,x,hj=>by simp at hi;subst hi;have:j<q.length:=(Al.1 hj).1;simp only[MH,BL,CK];rw[Ai this];exact hj
 |q::AD,hl,i+1,r,hi,j,x,hj=>by
  simp at hi;have hq:q.length=z:=hl q AH;rw[CK,Bd (by rw[hq,BJ];omega)];have:=Uz (AD:=AD) (λr hr=>hl r (by simp[hr])) hi hj;rw[<-this];congr 1
  rw[hq,BJ];omega
def Hv{J:Type}{z:Nat}:∀{AD:List (List J)},(∀r∈AD,r.length=z)->AD.flatten.length=AD.length*z
 |[],_=>AH
 |q::AD,hl=>by have hq:q.length=z:=hl q AH;simp[hq,Hv (AD:=AD) (λr hr=>hl r (by simp[hr])),BJ,Pe]
def Oo{AD:List (List Aa)}{us:List Value}{z b o:Nat}(hl:∀r∈AD,r.length=z)(hv:Bj U AD.flatten us)(hi:∀(j:Nat) (u:Value),us[j]?=some u->U.It b (o+j)=some u):E9 U AD z b o:=by refine E9.Hd λi r hr=>⟨hl r (Cz hr),C6.Hd λj x hj=>?_⟩;obtain⟨u,hu,hx⟩:=hv.get (Uz hl hr hj);exact⟨u,by rw[RP];exact hi _ _ hu,hx⟩
def De.drew(hr:De C U0 w0 U O Z h a w):De C U0 w0 U O Z h a w.drew:=hr.Jd (hr.D8.same rfl) (Lq.drew U w)
def BV.TK(Z:BV):Z.at Z.length= .undef:=by simp[BV.at,List.getD]
def De.Xm(hr:De C U0 w0 U O Z h a w){x:Aa}{v:Value}(hv:BR U x v)(ho:IY U w0.heap.size w Z.length none v x)(d:Option Nat):∃U',De C U0 w0 U' O (Z.put d (.Bt x)) h (a.put d v) w:=by
 cases d with
 |none=>exact⟨U,hr⟩
 |some d=>
  rcases ho with ho|⟨g,n,cap,us,e,z,AD,h1,h2,f,b,c⟩
  .exact⟨U,hr.put λs _=>⟨hv,.inl ho⟩⟩
  .have KC:=hr.FU (s':=d) (c':=none) f b (λ_ u=>by rw[BV.TK];simp) (λo ho=>by cases ho);exact⟨_,KC.put λs hs=>by cases hs;exact⟨BR.mono (Hs _ _ _) _ _ hv,.inr ⟨g,n,cap,us,e,z,AD,h1,h2,by simp[Gh.FU],b,c⟩⟩⟩
def De.Xn(hr:De C U0 w0 U O Z h a w)(us:Array Value)(e:TypeId){z n cap:Nat}{AD:List (List Aa)}(hz:0<z)(hn:AD.length=n)(hl:∀r∈AD,r.length=z)(Z4:us.size=cap*z)(hc:n<=cap)(hm:cap<=maxLen)
  (hv:Bj U AD.flatten (us.toList.take (n*z))) (h1:∀u∈us.toList.take (n*z),u.oneCell'=true):
  ∃U',U.le U'/\De C U0 w0 U' O Z h a (w.alloc (.cells us e))/\BR U' (.sl z AD) (.slice (some ⟨w.heap.size,0,none⟩) n cap)/\IY U' w0.heap.size (w.alloc (.cells us e)) Z.length none (.slice (some ⟨w.heap.size,0,none⟩) n cap) (.sl z AD):=by
 obtain⟨hi,ha⟩:=Pr hr.D8 us e (0,0) (n*z) (some (.tail Z.length none (n*z))) (λo u ho hu=>h1 u (Cz (i:=o) (by rw[C1 ho];simpa using hu))) (.inr (.inl ⟨_,_,rfl⟩));refine⟨_,ha.le,hr.Jd hi ha,⟨⟨w.heap.size,0,none⟩,cap,by rw[hn],Ab,.inl rfl,Oo hl (Bj.mono ha.le _ _ hv) λj u hj=>?_⟩,.inr ⟨w.heap.size,n,cap,us,e,z,AD,rfl,rfl,by simp[Gh.Dz],hr.D0.size,heap_alloc_new w _,Z4,hc,hm,hz⟩⟩;rw[Cg] at hj;split at hj;.rename_i hlt;simp only[Gh.Dz,BI,BL,Af hlt];simpa using hj
 .cases hj
def Xo{size:Nat}:∀(vs:List Value) (k:Nat) (cells:Array Value),(∀v∈vs,v.cells.size=size)->(k+vs.length)*size<=cells.size->
  Instr.fill (λi=>some (i*size,size)) cells ((vs.zipIdx k).map λp=>(p.2,p.1))=some (cells.toList.take (k*size)++vs.flatMap (·.cells.toList)++cells.toList.drop ((k+vs.length)*size)).toArray
 |[],k,cells,_,_=>by simp[Instr.fill]
 |v::vs,k,cells,hv,hl=>by
  have hs:v.cells.size=size:=hv v AH;simp only[Bf] at hl;have Eo:(k+1)*size+vs.length*size<=cells.size:=by rw[<-BJ];exact Br (MG (by congr 1;omega)) hl
  have Zs:(k+1)*size=k*size+size:=by rw[BJ,Ea]
  simp only[vZ,Bk,Instr.fill];have f:¬(v.cells.size≠size\/k*size+v.cells.size>cells.size):=by rw[hs];omega
  simp only[B2,decide_not,OR,CL,aPB,Tn] at*;rw[Ad f];have hf:=Ol v.cells.toList (k*size) 0 cells (by simp[hs];omega);have aKB:v.cells.zipIdx.foldl (λcs (c,j)=>cs.setIfInBounds (k*size+j) c) cells=(cells.toList.take (k*size)++v.cells.toList++cells.toList.drop (k*size+size)).toArray:=by rw[<-aN9,aKn];rw[hf];simp[hs]
  rw[aKB];have hlen:(cells.toList.take (k*size)++v.cells.toList++cells.toList.drop (k*size+size)).length=cells.size:=by simp[hs];omega
  rw[Xo vs (k+1) _ (λu hu=>hv u (by simp[hu])) (by simp only[B8];rw[hlen,BJ];exact Eo)]
  congr 2
  have b:(cells.toList.take (k*size)++v.cells.toList).length=(k+1)*size:=by simp[hs];omega
  have e:(cells.toList.take (k*size)++v.cells.toList++cells.toList.drop (k*size+size)).take ((k+1)*size)=cells.toList.take (k*size)++v.cells.toList:=by rw[<-b];exact FE
  have d:(cells.toList.take (k*size)++v.cells.toList++cells.toList.drop (k*size+size)).drop ((k+1+vs.length)*size)=cells.toList.drop ((k+(vs.length+1))*size):=by
   rw[To,A0 (by rw[b];exact DY _ Ab),b,El,BU];congr 1
   have:(k+1+vs.length)*size-(k+1)*size=vs.length*size:=by rw[BJ (k+1)];omega
   rw[this,BJ k,BJ vs.length];omega
  rw[e,d];simp
def Lt{P:Program}{t:TypeId}(h:Mk P t=true):∃i z,P.info? t=some i/\i.zero=some z/\z.cells.size=i.size:=by
 unfold Mk at h;split at h
 .rename_i i hi;split at h;.rename_i z hz;exact⟨i,z,hi,hz,by simpa using h⟩
  .cases h
 .cases h
def J2{P:Program}{t:TypeId}{n:Nat}{i:TypeInfo}(h:B4 P t=some n)(hi:P.info? t=some i):i.size=n:=by simpa[B4,hi] using h
def L1{P:Program}{t:TypeId}{n:Nat}{i:TypeInfo}(h:Ki P t=some n)(hi:P.info? t=some i):i.bytes=n:=by simpa[Ki,hi] using h
def Xp:∀{args:List Aa} {us:List Value} {z:Nat},Bj U args us->(∀x∈args,x.cells.length=z)->0<z->Bj U (args.map (·.cells)).flatten (us.flatMap (·.cells.toList))/\(∀u∈us.flatMap (·.cells.toList),u.oneCell'=true)/\∀u∈us,u.cells.size=z
 |[],us,z,h,_,_=>by rw[Bj] at h;subst h;exact⟨rfl,AH,AH⟩
 |x::args,us,z,h,hl,hz=>by
  obtain⟨u,DR,rfl,h1,h2⟩:=h;have hx:=hl x AH;obtain⟨b,e⟩:=Ht h1 Ab;obtain⟨d,r2,c⟩:=Xp h2 (λy hy=>hl y (by simp[hy])) hz;refine⟨by simpa using b.append d,λv hv=>?_,λv hv=>?_⟩;.simp only[MI,Ax] at hv;exact hv.elim (e v) (r2 v)
  .rcases AX.1 hv with rfl|hv
   .have:=b.length;simp at this;omega
   .exact c v hv
def aD{a:Act}:∀{l:List (Nat×Operand)} {k:Nat},l.map (·.1)=List.range' k l.length->l.map (λp=>(p.1,a.eval p.2))=((l.map λp=>a.eval p.2).zipIdx k).map λp=>(p.2,p.1)
 |[],k,_=>AH
 |(i,x)::l,k,h=>by simp only[Bk,Bf,List.range'_succ,E5] at h;obtain⟨rfl,h⟩:=h;simp[vZ,aD h]
def qj{o:Oper}{t e:TypeId}{len n:Nat}{parts:Array (Nat×Operand)}{args:List Aa}{u:Aa}(ho:o.op= .buildSlice t len parts)(ht:C.P.underlying t=some (.slice e))(Lb:B4 C.P e=some (n+1))(hp:parts.toList.map (·.1)=List.range len)(lL:Mk C.P e=true)
  (ha:BC C Z (parts.toList.map (·.2))=some args) (hu:AB (.C8 (n+1)) args=some u) (hr:De C U0 w0 U O Z h a w):F0 C U0 w0 o a w (Z.put o.dst (.Bt u)) h:=by
 obtain⟨i,z,hi,hz,dD⟩:=Lt lL;have QK:=J2 Lb hi;simp only[AB] at hu;split at hu
 .rename_i hc;cases hu;simp only[Bv,C9,E_,CL] at hc;obtain⟨RS,IZ⟩:=hc;have ER:=D4 hr ha;have hlen:parts.toList.length=len:=by have:=Ca List.length hp;simpa using this
  have VX:args.length=len:=by have:=ER.length;simp at this;simp at hlen;omega
  obtain⟨f,j,g⟩:=Xp ER RS (Da n);have aE:=f.length;rw[Hv (z:=n+1) (by intro r hr;obtain⟨x,hx,rfl⟩:=Bm.1 hr;exact RS x hx),Aj,VX] at aE;have A4:∃cells:Array Value,cells.toList=(parts.toList.map (·.2) |>.map a.eval).flatMap (·.cells.toList)/\(Instr.buildSlice t len (parts.map λ(i,x)=>(i,a.eval x))).run C.P w= .ok (.slice (some ⟨w.heap.size,0,none⟩) len len) (w.alloc (.cells cells e)):=by
   have lJ:(parts.map λ(i,x)=>(i,a.eval x)).toList=(((parts.toList.map (·.2)).map a.eval).zipIdx 0).map λp=>(p.2,p.1):=by have:=aD (a:=a) (l:=parts.toList) (k:=0) (by rw[hlen,<-aJv];exact hp);simp only[Nr,List.map_map];exact this
   have wX:=Xo (size:=n+1) ((parts.toList.map (·.2)).map a.eval) 0 ((Array.range (len*(n+1))).map (z.cells[·%z.cells.size]!)) g (by simp at hlen⊢;rw[hlen];exact Ag _);rw[<-lJ] at wX;have e0:((Array.range (len*(n+1))).map (z.cells[·%z.cells.size]!)).toList.drop ((0+((parts.toList.map (·.2)).map a.eval).length)*(n+1))=[]:=by apply A0;simp at hlen⊢;rw[hlen];exact Ag _
   rw[e0] at wX;simp only[MH,Kz,BU,By] at wX;refine⟨_,rfl,?_⟩;by_cases h0:len*(n+1)=0
   .have d:len=0:=by
     rcases Nat.mul_eq_zero.1 h0 with h|h
     .exact h
     .omega
    subst d;have c:parts=#[]:=by apply Gb;simpa using hlen
    subst c;have b:(Array.range 0:Array Nat)=#[]:=rfl;simp[Instr.buildSlice,run_underlying ht,sizeOf,typeInfo,hi,newRow,Instr.fill,b]
   .exact run_buildSlice w t e len _ _ i z ht hi hz (by rw[QK];rw[VX] at IZ;omega) (by rw[QK];exact h0) (by rw[QK];exact wX)
  obtain⟨cells,hcells,A4⟩:=A4;have hcs:cells.size=len*(n+1):=by rw[<-Cf,hcells];exact aE
  obtain⟨U',Eo,F9,DL,FI⟩:=hr.Xn cells e (z:=n+1) (n:=len) (cap:=len) (AD:=args.map (·.cells)) (Da n) (by simp[VX]) (by intro r hr;obtain⟨x,hx,rfl⟩:=Bm.1 hr;exact RS x hx) hcs (Ag _)
   (by rw[VX] at IZ;have:len<=len*(n+1):=IN _ (Da n);simp only[maxLen];omega) (by rw[hcells,AF (by rw[aE];exact Ag _)];exact f) (by rw[hcells,AF (by rw[aE];exact Ag _)];exact j)
  obtain⟨m,L0⟩:=F9.Xm DL FI o.dst;exact F0.value (by simp only[execOp,ho];exact DK A4) L0
 .cases hu
def qk{o:Oper}{t e:TypeId}{len n:Nat}{parts:Array (Nat×Operand)}(ho:o.op= .buildSlice t len parts)(ht:C.P.underlying t=some (.slice e))(Lb:B4 C.P e=some (n+1))(hp:parts.toList.map (·.1)=List.range len)(lL:Mk C.P e=true)(h0:len=0)
  (hr:De C U0 w0 U O Z h a w):F0 C U0 w0 o a w (Z.put o.dst (.Bt (.E4 (n+1)))) h:=by
 subst h0;obtain⟨i,z,hi,hz,dD⟩:=Lt lL;have c:parts=#[]:=by apply Gb;have:=Ca List.length hp;simpa using this
 subst c;have b:(Array.range 0:Array Nat)=#[]:=rfl;have A4:(Instr.buildSlice t 0 ((#[]:Array (Nat×Operand)).map λ(i,x)=>(i,a.eval x))).run C.P w= .ok (.slice (some ⟨w.heap.size,0,none⟩) 0 0) (w.alloc (.cells #[] e)):=by simp[Instr.buildSlice,run_underlying ht,sizeOf,typeInfo,hi,newRow,Instr.fill,b]
 obtain⟨U',Eo,F9,_,_⟩:=hr.Xn #[] e (z:=n+1) (n:=0) (cap:=0) (AD:=[]) (Da n) rfl AH AH (Ag _) (by simp[maxLen]) (by rw[MH];exact(rfl:Bj U [] [])) AH;obtain⟨d,L0⟩:=F9.Xm (x:= .E4 (n+1)) (v:= .slice (some ⟨w.heap.size,0,none⟩) 0 0) ⟨_,rfl⟩ (.inl (.inr ⟨_,rfl⟩)) o.dst;exact F0.value (by simp only[execOp,ho];exact DK A4) L0
def xA{t':TypeId}{size bytes:Nat}{v u r:Aa}{d:Value}(Gm:(∃i,C.P.underlying t'=some (.slice i))\/C.P.underlying t'=some .string)(hi:Hn U h w)(hu:BR U u d)(hp:HR size bytes v u=some r):
  ∃(AD:List (List Aa)) (news:List Value),DN size bytes v AD=some r/\Src C.P size t' d AD.length news w/\Bj U AD.flatten news/\(∀r∈AD,r.length=size):=by
 unfold HR at hp;split at hp;.rw[show d=_ from hu];exact⟨[],[],hp,⟨Gm,λ_=>rfl,run_firstCells_none w size 0 0 0,run_firstCells_none w.drew size 0 0 0,AH,AH⟩,rfl,AH⟩
 .rename_i z;split at hp;.obtain⟨b,Å⟩:=hu;rw[Å];exact⟨[],[],hp,⟨Gm,λ_=>rfl,run_firstCells_some w _ _ _ _ _ [] AH (λj x hj=>by simp at hj),run_firstCells_some w.drew _ _ _ _ _ [] AH (λj x hj=>by simp at hj),AH,AH⟩,rfl,AH⟩
  .cases hp
 .rename_i z AD;split at hp
  .rename_i hz;subst hz;obtain⟨c,cap,Å,Pz,hsp,hR⟩:=hu;obtain⟨us,g,e,f⟩:=hR.values;have ND:∀(j:Nat) (x:Value),us[j]?=some x->c.add j=⟨c.block,c.off+j,none⟩:=λj x hj=>by
    have hpos:0<AD.length:=by
     rcases Jp AD.length with h0|h0
     .have:us.length=0:=by rw[e,h0,MH]
      rw[Dw this] at hj;simp at hj
     .exact h0
    have rE:=Of hsp Pz hpos;generalize c.block=b at*;generalize c.off=o at*;subst rE;unfold Addr.add;split<;>simp_all
   rw[Å];refine⟨AD,us,hp,⟨Gm,λ_=>rfl,run_firstCells_some w _ _ _ _ _ us e (λj x hj=>by rw[ND j x hj];exact(hi.It _ _ _ (f j x hj)).1),run_firstCells_some w.drew _ _ _ _ _ us e (λj x hj=>by rw[ND j x hj];exact(hi.It _ _ _ (f j x hj)).1),e,λx hx=>?_⟩,g,λr hr=>?_⟩;.obtain⟨j,hj⟩:=CU hx;exact(hi.It _ _ _ (f j x hj)).2.1
   .obtain⟨j,hj⟩:=CU hr;exact(hR.get hj).1
  .cases hp
 .rename_i s;split at hp
  .rename_i hz;subst hz;rw[show d=_ from hu];have hlen:(Cd s).length=(⟨⟨s⟩⟩:ByteArray).size:=by simp[Cd,ByteArray.size]
   have hrel:∀l:List UInt8,Bj U (Cd l).flatten (l.map λb=>Value.int .u8 b.toNat):=by
    intro l;induction l with
    |nil=>rfl
    |cons b l ih=>exact⟨_,_,rfl,rfl,ih⟩
   refine⟨Cd s,byteCells ⟨⟨s⟩⟩,hp,?_,?_,λr hr=>?_⟩;.rw[hlen];exact⟨Gm,λ_=>rfl,firstCells_string _ w,firstCells_string _ w.drew,by rw[byteCells_length,FH],λu hu=>by obtain⟨_,_,rfl⟩:=Bm.1 hu;rfl⟩
   .simpa[byteCells] using hrel s
   .obtain⟨b,_,rfl⟩:=Bm.1 hr;rfl
  .cases hp
 .cases hp
def De.ql(hr:De C U0 w0 U O Z h a w){g n cap z:Nat}{us:Array Value}{e:TypeId}{rr AD:List (List Aa)}{news:List Value}(FI:U.Bt g=some (.tail Z.length none (n*z)))(hB:w0.heap.size<=g)(hg:w.heap[g]?=some (.cells us e (0,0)))
  (Z4:us.size=cap*z) (hm:cap<=maxLen) (hz:0<z) (hv:BR U (.sl z rr) (.slice (some ⟨g,0,none⟩) n cap)) (hl:∀r∈AD,r.length=z) (hn:Bj U AD.flatten news) (h1:∀u∈news,u.oneCell'=true) (hroom:n+AD.length<=cap):
  ∃U',U.le U'/\De C U0 w0 U' O Z h a (w.setRow g (us.toList.take (n*z)++news++us.toList.drop (n*z+news.length)).toArray)/\BR U' (.sl z (rr++AD)) (.slice (some ⟨g,0,none⟩) (n+AD.length) cap)/\
   IY U' w0.heap.size (w.setRow g (us.toList.take (n*z)++news++us.toList.drop (n*z+news.length)).toArray) Z.length none (.slice (some ⟨g,0,none⟩) (n+AD.length) cap) (.sl z (rr++AD)):=by
 obtain⟨t,cap',mK,Pz,_,hR⟩:=hv;simp only[Value.slice.injEq,BD] at mK;obtain⟨rfl,rfl,rfl⟩:=mK;simp only at hR;have OV:news.length=AD.length*z:=by rw[hn.length,Hv hl]
 have hfit:(rr.length+AD.length)*z<=us.size:=by rw[Z4];exact DY _ hroom
 rw[BJ] at hfit;have c:(us.toList.take (rr.length*z)).length=rr.length*z:=D9;obtain⟨vs,m,q,l⟩:=hR.values;have hvs:vs=us.toList.take (rr.length*z):=by
  apply Rf;intro j;by_cases hj:j<rr.length*z
  .have d:j<vs.length:=by rw[q];exact hj
   have hc:=(hr.D8.It _ _ _ (l j _ (Ak d))).1;rw[cell_of_row w _ _ us e (0,0) hg,BL] at hc;rw[Ak d,C1 hj];simpa using hc.symm
  .rw[Ef Ab,Ef (by rw[c];omega)]
 rw[hvs] at m;have O7:∀u∈us.toList.take (rr.length*z),u.oneCell'=true:=λu hu=>by rw[<-hvs] at hu;obtain⟨j,hj⟩:=CU hu;exact(hr.D8.It _ _ _ (l j u hj)).2.1
 have f:(rr.length+AD.length)*z=rr.length*z+AD.length*z:=BJ _ _ _;have aAt:((us.toList.take (rr.length*z)++news++us.toList.drop (rr.length*z+news.length)).toArray).toList.take ((rr.length+AD.length)*z)=us.toList.take (rr.length*z)++news:=by
  have:(us.toList.take (rr.length*z)++news).length=(rr.length+AD.length)*z:=by rw[Av,c,OV,f]
  rw[<-this];exact FE
 have Lb:(us.toList.take (rr.length*z)++news++us.toList.drop (rr.length*z+news.length)).length=us.size:=by simp[OV];omega
 generalize p:(us.toList.take (rr.length*z)++news++us.toList.drop (rr.length*z+news.length)).toArray=DR at*;have aKE:DR.size=us.size:=by rw[<-p];simpa using Lb
 obtain⟨hi,Eo⟩:=qY hr.D8 FI hg DR ((rr.length+AD.length)*z) Z.length none (λo ho=>by
   rw[<-p,AI,List.getElem?_toArray,Ai Ab,C1 ho];simp)
  Ab (λo u ho hu=>by
   have:u∈DR.toList.take ((rr.length+AD.length)*z):=by refine Cz (i:=o) ?_;rw[C1 ho];simpa using hu
   rw[aAt,Ax] at this;exact this.elim (O7 u) (h1 u)) (λo v hv=>by
   have:=(hr.D8.It _ _ _ hv).1;rwa [cell_of_row w _ _ us e (0,0) hg] at this)
 have hk:Qj g U w (U.Dz g DR ((rr.length+AD.length)*z) (some (.tail Z.length none ((rr.length+AD.length)*z)))) (w.setRow g DR):=
  ⟨Eo,λb x hb hx _=>⟨by simp only[Gh.Dz,Ad hb];exact hx,setRow_other w g b DR hb⟩⟩
 have k:E9 (U.Dz g DR ((rr.length+AD.length)*z) (some (.tail Z.length none ((rr.length+AD.length)*z)))) (rr++AD) z g 0:=by
  refine Oo (us:=DR.toList.take ((rr.length+AD.length)*z)) (λr hr=>?_) ?_ (λj u hj=>?_)
  .rcases Ax.1 hr with hr|hr
   .obtain⟨i,hi⟩:=CU hr;exact(hR.get hi).1
   .exact hl r hr
  .rw[aAt,K5];exact(Bj.mono Eo _ _ m).append (Bj.mono Eo _ _ hn)
  .rw[Cg] at hj;split at hj;.rename_i hlt;simp only[Gh.Dz,BI,BL,Af hlt];simpa using hj
   .cases hj
 refine⟨_,Eo,⟨hi,⟨hr.fr.size,λs=>?_⟩,hr.D0.write (g:=g) hB Eo AH rfl rfl rfl (λb hb=>⟨setRow_other w g b DR hb,by simp only[Gh.Dz,Ad hb]⟩),hr.defers,λx cs hx=>C6.mono Eo _ _ _ (hr.Hb x cs hx)⟩,
  ⟨⟨g,0,none⟩,cap,AH,by simpa using hroom,.inl rfl,k⟩,.inr ⟨g,rr.length+AD.length,cap,DR,e,z,rr++AD,rfl,rfl,by simp[Gh.Dz],hB,setRow_heap w g us DR e (0,0) hg,by rw[aKE,Z4],hroom,hm,hz⟩⟩
 by_cases hs:s=Z.length;.subst hs;rw[BV.TK];trivial
 .exact(hr.fr.Ip s).keptBut FI hk (by simp only[KM.qU];intro hx;cases hx;exact hs rfl)
def Oq{t t' ty:TypeId}{ts:Array TypeId}{xs:Array Value}(h0:ts[0]?=some t)(h1:ts[1]?=some t'):Builtin.append_ ts ty xs=Builtin.append_ #[t,t'] ty xs:=by simp only[Builtin.append_,h0,h1];rfl
def Bj.Æ{l:List Aa}{us:List Value}{n:Nat}(h:Bj U l us)(hn:us.length<=n):Bj U l (us.take n):=by rw[AF hn];exact h
def NF{cs:List Aa}{z:Nat}:∀{n off:Nat},(Cw cs z off n).flatten=(cs.drop off).take (n*z)
 |0,off=>by simp[Cw]
 |n+1,off=>by rw[Cw,CK,NF,BJ,Ea,Pe (n*z) z,aAb,El]
def OW{cs:List Aa}{z:Nat}:∀{n off:Nat},(Cw cs z off n).length=n
 |0,off=>rfl
 |n+1,off=>by rw[Cw,Bf,OW]
def QU{cs:List Aa}{z:Nat}:∀{n off:Nat},off+n*z<=cs.length->∀r∈Cw cs z off n,r.length=z
 |0,off,_,r,hr=>by simp[Cw] at hr
 |n+1,off,hl,r,hr=>by
  rw[BJ,Ea] at hl;rw[Cw,AX] at hr;rcases hr with rfl|hr
  .rw[Aw,Be];omega
  .exact QU Ab r hr
def Xq{t':TypeId}{size:Nat}{u:Aa}{g:Value}{AD:List (List Aa)}(Gm:(∃m,C.P.underlying t'=some (.slice m))\/C.P.underlying t'=some .string)(hi:Hn U h w)(hu:BR U u g)(hp:Gp h size u=some AD):
  ∃news:List Value,Src C.P size t' g AD.length news w/\Bj U AD.flatten news/\(∀r∈AD,r.length=size):=by
 unfold Gp at hp;split at hp;.cases hp;rw[show g=_ from hu];exact⟨[],⟨Gm,λ_=>rfl,run_firstCells_none w size 0 0 0,run_firstCells_none w.drew size 0 0 0,AH,AH⟩,rfl,AH⟩
 .rename_i z;split at hp;.cases hp;obtain⟨b,Å⟩:=hu;rw[Å];exact⟨[],⟨Gm,λ_=>rfl,run_firstCells_some w _ _ _ _ _ [] AH (λj x hj=>by simp at hj),run_firstCells_some w.drew _ _ _ _ _ [] AH (λj x hj=>by simp at hj),AH,AH⟩,rfl,AH⟩
  .cases hp
 .rename_i z i;split at hp
  .rename_i hz;cases hp;subst hz;obtain⟨f,cap,Å,Pz,hsp,hR⟩:=hu;obtain⟨us,k,c,d⟩:=hR.values;have ND:∀(j:Nat) (x:Value),us[j]?=some x->f.add j=⟨f.block,f.off+j,none⟩:=λj x hj=>by
    have hpos:0<AD.length:=by
     rcases Jp AD.length with h0|h0
     .have:us.length=0:=by rw[c,h0,MH]
      rw[Dw this] at hj;simp at hj
     .exact h0
    have rE:=Of hsp Pz hpos;generalize f.block=b at*;generalize f.off=o at*;subst rE;unfold Addr.add;split<;>simp_all
   rw[Å];refine⟨us,⟨Gm,λ_=>rfl,run_firstCells_some w _ _ _ _ _ us c (λj x hj=>by rw[ND j x hj];exact(hi.It _ _ _ (d j x hj)).1),run_firstCells_some w.drew _ _ _ _ _ us c (λj x hj=>by rw[ND j x hj];exact(hi.It _ _ _ (d j x hj)).1),c,λx hx=>?_⟩,k,λr hr=>?_⟩;.obtain⟨j,hj⟩:=CU hx;exact(hi.It _ _ _ (d j x hj)).2.1
   .obtain⟨j,hj⟩:=CU hr;exact(hR.get hj).1
  .cases hp
 .rename_i s;split at hp
  .rename_i hz;cases hp;subst hz;rw[show g=_ from hu];have hlen:(Cd s).length=(⟨⟨s⟩⟩:ByteArray).size:=by simp[Cd,ByteArray.size]
   have hrel:∀l:List UInt8,Bj U (Cd l).flatten (l.map λb=>Value.int .u8 b.toNat):=by
    intro l;induction l with
    |nil=>rfl
    |cons b l ih=>exact⟨_,_,rfl,rfl,ih⟩
   refine⟨byteCells ⟨⟨s⟩⟩,?_,?_,λr hr=>?_⟩;.rw[hlen];exact⟨Gm,λ_=>rfl,firstCells_string _ w,firstCells_string _ w.drew,by rw[byteCells_length,FH],λu hu=>by obtain⟨_,_,rfl⟩:=Bm.1 hu;rfl⟩
   .simpa[byteCells] using hrel s
   .obtain⟨b,_,rfl⟩:=Bm.1 hr;rfl
  .cases hp
 .rename_i id off n z;split at hp
  .rename_i hz;subst hz;split at hp
   .rename_i cs hcs;split at hp
    .rename_i hl;cases hp;obtain⟨b,cap,hb,Å,Pz,m_,Lb⟩:=hu;obtain⟨us,e,fr,k,pf,c,d⟩:=hi.cells id cs hcs b hb;have lK:(us.toList.take cs.length).length=cs.length:=c.length;have OV:(((us.toList.take cs.length).drop off).take (n*z)).length=n*z:=by rw[Aw,Be,lK];omega
     have ND:∀j,(⟨b,off,none⟩:Addr).add j=⟨b,off+j,none⟩:=λj=>by unfold Addr.add;split<;>simp_all
     have J0:∀(j:Nat) (x:Value),(((us.toList.take cs.length).drop off).take (n*z))[j]?=some x->w.cell? ((⟨b,off,none⟩:Addr).add j)=some x:=λj x hj=>by
      rw[ND,cell_of_row w _ _ us e fr k];rw[Cg] at hj;split at hj
      .rw[Cr,Cg] at hj;split at hj;.simpa using hj
       .cases hj
      .cases hj
     rw[Å,OW];refine⟨((us.toList.take cs.length).drop off).take (n*z),⟨Gm,λ_=>rfl,run_firstCells_some w _ _ _ _ _ _ OV J0,run_firstCells_some w.drew _ _ _ _ _ _ OV (λj x hj=>J0 j x hj),OV,λx hx=>d x (Bw (Bn hx))⟩,?_,QU hl⟩;rw[NF];exact(c.drop off).take (n*z)
    .cases hp
   .cases hp
  .cases hp
 .cases hp
def OX{o:Oper}{c:Call}{t t' e:TypeId}{n b:Nat}{s x:Operand}{v u r:Aa}{AD:List (List Aa)}{news:List Value}(ho:o.op= .call c)(hc:c.callee= .builtin .append)(h0:c.argTypes[0]?=some t)(h1:c.argTypes[1]?=some t')(ER:c.args.toList=[s,x])(ht:C.P.underlying t=some (.slice e))
  (Gm:(∃G,C.P.underlying t'=some (.slice G))\/C.P.underlying t'=some .string) (Lb:B4 C.P e=some (n+1)) (qm:Ki C.P e=some (b+1)) (FI:Ln C Z s=true) (lL:Mk C.P e=true) (hv:BC C Z [s,x]=some [v,u])
  (Gx:DN (n+1) (b+1) v AD=some r) (KF:Src C.P (n+1) t' (a.eval x) AD.length news w) (VY:Bj U AD.flatten news) (qF:∀q∈AD,q.length=n+1) (hr:De C U0 w0 U O Z h a w):F0 C U0 w0 o a w ((Z.DS (Dq Z s)).put o.dst (.Bt r)) h:=by
 obtain⟨i,z,hi,hz,dD⟩:=Lt lL;have QK:=J2 Lb hi;have F:=L1 qm hi;obtain⟨_,_,e0,hvs,qG⟩:=Fg hr hv;cases e0;have Ä:E8 C Z s=some v:=by
  unfold BC at hv;split at hv;.rename_i p ps B I;cases hv;exact B
  .cases hv
 obtain⟨U1,Eo,KC,DL,M⟩:=Py hr FI Ä (Z.DS (Dq Z s)).length none;have qn:=Bj.mono Eo _ _ VY;have KD:c.args.map a.eval=#[a.eval s,a.eval x]:=by apply HD;simp[ER]
 have MS:∀v' w',(Builtin.append_ #[t,t'] o.type #[a.eval s,a.eval x]).run C.P w= .ok v' w'->(execOp a.eval o).run C.P w= .ok (.value v') w':=λv' w' A4=>by
  have:execOp a.eval o=(do pure (Next.value (<-Builtin.append_ #[t,t'] o.type #[a.eval s,a.eval x]))):=by rw[<-KD,<-Oq (ty:=o.type) h0 h1];simp only[execOp,ho,resolve,hc];rfl
  rw[this];exact DK A4
 have Km:Src C.P i.size t' (a.eval x) AD.length news w:=by rw[QK];exact KF
 have OV:news.length=AD.length*(n+1):=KF.newsLen;have JL:∀(base:Option Addr) (k cap:Nat) (rr:List (List Aa)) (olds:List Value),a.eval s= .slice base k cap->rr.length=k->(∀q∈rr,q.length=n+1)->Bj U1 rr.flatten olds->(∀q∈olds,q.oneCell'=true)->
   (Builtin.firstCells i.size k (.slice base k cap)).run C.P w.drew= .ok olds.toArray w.drew->cap<k+AD.length->(k+AD.length)*(b+1)<=AS->r= .sl (n+1) (rr++AD)->
   F0 C U0 w0 o a w ((Z.DS (Dq Z s)).put o.dst (.Bt r)) h:=by
  intro base k cap rr olds hs hk m nc E d hlt Qk UA;have Qh:k+AD.length<=AS:=Br (IN _ (Da b)) Qk;have Fw:=run_append_grow_src (P:=C.P) w t t' o.type e i z ht hi hz base k cap olds d (a.eval x) AD.length news Km hlt (by simp only[AS] at Qh;omega) (by rw[F];exact growslice_fits hlt Qk);rw[<-hs] at Fw;have Ei:=grownCap_ge w (k+AD.length) cap e;have aKF:olds.length=k*(n+1):=by rw[nc.length,Hv m,hk]
  have f_:(olds++news).length=(k+AD.length)*(n+1):=by rw[Av,aKF,OV,BJ]
  obtain⟨R,mI,L0,Sk,l⟩:=KC.drew.Xn ((olds++news).toArray++Builtin.zeroCells z.cells (grownCap w (k+AD.length) cap e-(k+AD.length))) e (z:=n+1) (n:=k+AD.length) (cap:=grownCap w (k+AD.length) cap e) (AD:=rr++AD) (Da n) (by simp[hk])
   (λq hq=>(Ax.1 hq).elim (m q) (qF q))
   (by simp only[Ka,B8,size_zeroCells,dD,QK,f_,<-BJ];congr 1;omega) Ei (grownCap_le_maxLen w _ _ _ (by simp only[AS] at Qh;simp only[maxLen];omega))
   (by simp only[GY,K5];rw[<-f_,FE];exact nc.append qn)
   (λq hq=>by simp only[GY] at hq;rw[<-f_,FE,Ax] at hq;exact hq.elim (E q) (KF.one q))
  rw[UA];obtain⟨Q,f⟩:=L0.Xm Sk l o.dst;exact F0.value (MS _ _ Fw) f
 rcases M with(rfl|⟨A,rfl⟩)|⟨g,k,cap,us,J,A,rr,rfl,JN,Tu,hB,hg,Z4,Ç,hm,L⟩
 .have JN:a.eval s= .slice none 0 0:=DL;cases AD with
  |nil=>
   have UA:r= .slnil:=by simpa[DN] using Gx.symm
   have wV:news=[]:=Dw (by simpa using OV);subst wV;have A4:(Builtin.append_ #[t,t'] o.type #[a.eval s,a.eval x]).run C.P w= .ok (.slice none 0 0) w:=by rw[JN];have hl:=Km.len;have VZ:=Km.cells;simp only[BT] at hl VZ;rcases Gm with⟨G,hk⟩|hk<;>simp[Builtin.append_,run_underlying ht,run_underlying hk,sizeOf,typeInfo,hi,hl,VZ]
   rw[UA];exact F0.value (MS _ _ A4) (KC.put λ_ _=>⟨rfl,.inl (.inl rfl)⟩)
  |cons q AD=>
   have PC:r= .sl (n+1) (q::AD)/\(q::AD).length*(b+1)<=AS:=by
    simp only[DN] at Gx;split at Gx;.rename_i hb;cases Gx;exact⟨rfl,hb⟩
    .cases Gx
   exact JL none 0 0 [] [] JN rfl AH rfl AH (run_firstCells_none _ _ _ _ _) AH (by simpa using PC.2) (by simpa using PC.1)
 .obtain⟨g,JN⟩:=id DL;cases AD with
  |nil=>
   have UA:A=n+1/\r= .E4 A:=by
    simp only[DN] at Gx;split at Gx;.rename_i Zt;cases Gx;exact⟨Zt,by rw[Zt]⟩
    .cases Gx
   obtain⟨rfl,UA⟩:=UA;have wV:news=[]:=Dw (by simpa using OV);subst wV;have A4:(Builtin.append_ #[t,t'] o.type #[a.eval s,a.eval x]).run C.P w= .ok (.slice (some ⟨g,0,none⟩) 0 0) w:=by rw[JN];have hl:=Km.len;have VZ:=Km.cells;simp only[BT] at hl VZ;rcases Gm with⟨G,hk⟩|hk<;>simp[Builtin.append_,run_underlying ht,run_underlying hk,sizeOf,typeInfo,hi,hl,VZ,storeCells,Result.andThen]
   rw[UA];exact F0.value (MS _ _ A4) (KC.put λ_ _=>⟨⟨g,rfl⟩,.inl (.inr ⟨_,rfl⟩)⟩)
  |cons q AD=>
   have PC:r= .sl (n+1) (q::AD)/\(q::AD).length*(b+1)<=AS:=by
    simp only[DN] at Gx;split at Gx;.rename_i hb;cases Gx;exact⟨rfl,hb.2⟩
    .cases Gx
   exact JL (some ⟨g,0,none⟩) 0 0 [] [] JN rfl AH rfl AH (run_firstCells_some w.drew _ _ _ _ _ [] AH (λj x hj=>by simp at hj)) AH (by simpa using PC.2) (by simpa using PC.1)
 .obtain⟨N,K,mK,Pz,_,hR⟩:=id DL;rw[JN] at mK;simp only[Value.slice.injEq,BD] at mK;obtain⟨rfl,hk,rfl⟩:=mK;subst hk;simp only at hR;have D:A=n+1/\r= .sl (n+1) (rr++AD)/\(AD=[]\/(rr.length+AD.length)*(b+1)<=AS):=by
   cases AD with
   |nil=>
    simp only[DN] at Gx;split at Gx;.rename_i Zt;cases Gx;exact⟨Zt,by simp[Zt],.inl rfl⟩
    .cases Gx
   |cons q AD=>
    simp only[DN] at Gx;split at Gx;.rename_i Zt;cases Gx;exact⟨Zt.1,rfl,.inr Zt.2⟩
    .cases Gx
  obtain⟨rfl,UA,Qk⟩:=D;by_cases hroom:rr.length+AD.length<=cap
  .have hfit:rr.length*(n+1)+news.length<=us.size:=by rw[OV,Z4,<-BJ];exact DY _ hroom
   have A4:=run_append_room_src (P:=C.P) w t t' o.type e i ht hi g 0 rr.length cap (a.eval x) AD.length news Km hroom (λj hj=>by rw[cell_of_row w _ _ us J (0,0) hg,QK,CW Ab];rfl) (λj hj=>frozen_of_row w _ _ us J hg)
   rw[BL,QK,EP news _ us w hg hfit,<-JN] at A4;rw[JN] at DL;obtain⟨R,mI,L0,Sk,l⟩:=KC.ql Tu hB hg Z4 hm (Da n) DL qF qn KF.one hroom;obtain⟨Q,f⟩:=L0.Xm Sk l o.dst;rw[UA];exact F0.value (MS _ _ A4) f
  .obtain⟨vs,B,I,H⟩:=hR.values;have ND:∀j,(⟨g,0,none⟩:Addr).add j=⟨g,0+j,none⟩:=λj=>by unfold Addr.add;split<;>simp_all
   refine JL (some ⟨g,0,none⟩) rr.length cap rr vs JN rfl (λq hq=>?_) B (λq hq=>?_) ?_ Ab ?_ UA;.obtain⟨j,hj⟩:=CU hq;exact(hR.get hj).1
   .obtain⟨j,hj⟩:=CU hq;exact(KC.D8.It _ _ _ (H j q hj)).2.1
   .rw[QK];exact run_firstCells_some w.drew _ _ _ _ _ vs I (λj y hj=>by rw[ND];exact(KC.D8.It _ _ _ (H j y hj)).1)
   .rcases Qk with rfl|Qk
    .simp at hroom;omega
    .exact Qk
def rO{o:Oper}{c:Call}{t t' e:TypeId}{n b:Nat}{s x:Operand}{v u r:Aa}(ho:o.op= .call c)(hc:c.callee= .builtin .append)(h0:c.argTypes[0]?=some t)(h1:c.argTypes[1]?=some t')(ER:c.args.toList=[s,x])(ht:C.P.underlying t=some (.slice e))
  (Gm:(∃d,C.P.underlying t'=some (.slice d))\/C.P.underlying t'=some .string) (Lb:B4 C.P e=some (n+1)) (qm:Ki C.P e=some (b+1)) (FI:Ln C Z s=true) (lL:Mk C.P e=true) (hv:BC C Z [s,x]=some [v,u])
  (hp:AB (.append (n+1) (b+1)) [v,u]=some r) (hr:De C U0 w0 U O Z h a w):F0 C U0 w0 o a w ((Z.DS (Dq Z s)).put o.dst (.Bt r)) h:=by
 obtain⟨_,_,e0,hvs,qG⟩:=Fg hr hv;cases e0;simp only[AB] at hp;obtain⟨AD,news,Gx,KF,VY,qF⟩:=xA (w:=w) Gm hr.D8 qG hp;exact OX ho hc h0 h1 ER ht Gm Lb qm FI lL hv Gx KF VY qF hr
def mL{o:Oper}{c:Call}{t t' e:TypeId}{n b:Nat}{s x:Operand}{v u r:Aa}(ho:o.op= .call c)(hc:c.callee= .builtin .append)(h0:c.argTypes[0]?=some t)(h1:c.argTypes[1]?=some t')(ER:c.args.toList=[s,x])(ht:C.P.underlying t=some (.slice e))
  (Gm:(∃d,C.P.underlying t'=some (.slice d))\/C.P.underlying t'=some .string) (Lb:B4 C.P e=some (n+1)) (qm:Ki C.P e=some (b+1)) (FI:Ln C Z s=true) (lL:Mk C.P e=true) (hv:BC C Z [s,x]=some [v,u])
  (hp:QS h (n+1) (b+1) v u=some r) (hr:De C U0 w0 U O Z h a w):F0 C U0 w0 o a w ((Z.DS (Dq Z s)).put o.dst (.Bt r)) h:=by
 obtain⟨_,_,e0,hvs,qG⟩:=Fg hr hv;cases e0;unfold QS at hp;cases hq:Gp h (n+1) u with
 |none=>rw[hq] at hp;cases hp
 |some AD=>rw[hq] at hp;obtain⟨news,KF,VY,qF⟩:=Xq (w:=w) Gm hr.D8 qG hq;exact OX ho hc h0 h1 ER ht Gm Lb qm FI lL hv hp KF VY qF hr
end
section
variable{C:F8}{γ0 γ γ':Gh}{w0 w w':World}{Z:Nat->Nat}{U:BV}{h:Ah}{a:Act}{fid:FuncId}{ops:List Oper}
def Sl:∀s:An,(Cd s).flatten=s.map λb=>Aa.int .u8 b.toNat
 |[]=>rfl
 |_::s=>by have:=Sl s;simp only[Cd,Bk,CK] at this⊢;rw[this];rfl
def Mp(γ:Gh):∀l:An,Bj γ (Cd l).flatten (l.map λb=>Value.int .u8 b.toNat)
 |[]=>rfl
 |_::l=>⟨_,_,rfl,rfl,Mp γ l⟩
def Ld(s:An)(cap:Nat):(bytesRow ⟨⟨s⟩⟩ cap).toList.take s.length=s.map λb=>Value.int .u8 b.toNat:=by have:(s.map λb=>Value.int .u8 (b.toNat:Int)).length=s.length:=AH;simp only[bytesRow,GY,Nr];rw[<-this];exact FE
def dE(s:An):(⟨⟨s⟩⟩:ByteArray).size=s.length:=by simp[ByteArray.size]
def È{o:Oper}{src dst e:TypeId}{x:Operand}{v u:Aa}(ho:o.op= .convert src dst x)(hs:C.P.underlying src=some .string)(hd:C.P.underlying dst=some (.slice e))(he:C.P.underlying e=some (.int .u8))(hx:BC C U [x]=some [v])(hp:AB .s2b [v]=some u)(hr:De C γ0 w0 γ Z U h a w):
  F0 C γ0 w0 o a w (U.put o.dst (.val u)) h:=by
 obtain⟨_,e0,hv⟩:=GR hr hx;cases e0;simp only[AB] at hp;split at hp
 .rename_i s KD;cases KD;split at hp
  .cases hp;have A4:=run_bytes_of_string (P:=C.P) w src dst e ⟨⟨s⟩⟩ hs hd he;rw[<-Oj hv] at A4;have c:=grownCap_ge w s.length 0 e;rw[dE] at A4;obtain⟨hi,ha⟩:=Pr hr.drew.D8 (bytesRow ⟨⟨s⟩⟩ (grownCap w s.length 0 e)) e ((bytesRow ⟨⟨s⟩⟩ (grownCap w s.length 0 e)).size,(bytesRow ⟨⟨s⟩⟩ (grownCap w s.length 0 e)).size+1) s.length none (λo u ho hu=>by have hm:u∈(bytesRow ⟨⟨s⟩⟩ (grownCap w s.length 0 e)).toList.take s.length:=Cz (i:=o) (by rw[C1 ho];simpa using hu);rw[Ld] at hm;obtain⟨b,_,rfl⟩:=Bm.1 hm;rfl) (.inl rfl)
   have F9:=hr.drew.Jd hi ha;refine F0.value (v:= .slice (some ⟨w.heap.size,0,none⟩) s.length (grownCap w s.length 0 e)) (by simp only[execOp,ho];exact DK A4) (F9.put λ_ _=>⟨⟨w.heap.size,0,none⟩,grownCap w s.length 0 e,by simp[Cd],by simpa[Cd] using c,.inl rfl,?_⟩);refine Oo (us:=s.map λb=>Value.int .u8 b.toNat) (λr hr=>?_) (Mp _ s) (λj u hj=>?_);.obtain⟨b,_,rfl⟩:=Bm.1 hr;rfl
   .rw[<-Ld s (grownCap w s.length 0 e),Cg] at hj;split at hj;.rename_i hlt;simp only[Gh.Dz,heap_drew,BI,BL,Af hlt];simpa using hj
    .cases hj
  .cases hp
 .cases hp
def dF{o:Oper}{src dst e:TypeId}{x:Operand}{v u:Aa}{h':Ah}(ho:o.op= .convert src dst x)(hs:C.P.underlying src=some .string)(hd:C.P.underlying dst=some (.slice e))(he:C.P.underlying e=some (.int .u8))(hx:E8 C U x=some v)(hp:IV h v=some (h',u))(hr:De C γ0 w0 γ Z U h a w):
  F0 C γ0 w0 o a w (U.put o.dst (.val u)) h':=by
 have hv:=GM hr hx;unfold IV at hp;split at hp
 .rename_i s;split at hp
  .cases hp;have A4:=run_bytes_of_string (P:=C.P) w src dst e ⟨⟨s⟩⟩ hs hd he;rw[<-Oj hv] at A4;have c:=grownCap_ge w s.length 0 e;rw[dE] at A4;have hl:(s.map λb=>Aa.int .u8 b.toNat).length=s.length:=AH;have d:(bytesRow ⟨⟨s⟩⟩ (grownCap w s.length 0 e)).size=grownCap w s.length 0 e:=by have e0:ByteArray.size ⟨⟨s⟩⟩=s.length:=dE s;simp only[bytesRow,Ka,Array.size_map,Array.size_replicate,e0];simp only[B8];omega
   have qH:s.length<=maxLen:=by
    have qH:s.length<=AS:=by assumption
    simp only[AS] at qH;simp only[maxLen];omega
   obtain⟨γ',Eo,hm,F9,Lb⟩:=hr.drew.newObj (bytesRow ⟨⟨s⟩⟩ (grownCap w s.length 0 e)) e ((bytesRow ⟨⟨s⟩⟩ (grownCap w s.length 0 e)).size,(bytesRow ⟨⟨s⟩⟩ (grownCap w s.length 0 e)).size+1) (s.map λb=>Aa.int .u8 b.toNat) (.inr (Ag _))
    (by rw[hl,Ld];have:=Mp γ s;rw[Sl] at this;exact this)
    (λu hu=>by rw[hl,Ld] at hu;obtain⟨b,_,rfl⟩:=Bm.1 hu;rfl)
   exact F0.value (v:= .slice (some ⟨w.heap.size,0,none⟩) s.length (grownCap w s.length 0 e)) (by simp only[execOp,ho];exact DK A4) (F9.put λ_ _=>⟨w.heap.size,_,hm,rfl,c,⟨Da 0,grownCap_le_maxLen w _ _ _ qH⟩,by rw[BL,FH,<-d];exact Lb⟩)
  .cases hp
 .cases hp
def Ij{O:Type}(l:List O):∀(c j:Nat),j<c*l.length->(List.replicate c l).flatten[j]?=l[j%l.length]?
 |0,j,h=>by simp at h
 |c+1,j,h=>by
  have h':j<c*l.length+l.length:=by rw[BJ] at h;omega
  rw[K6,CK];by_cases hj:j<l.length;.rw[Ai hj,Nat.mod_eq_of_lt hj]
  .rw[Bd Ab,Ij l c _ Ab,show j%l.length=(j-l.length)%l.length from Nat.mod_eq_sub_mod Ab]
def qo{o:Oper}{t e:TypeId}{l c:Operand}{n b:Nat}{z:Aa}{D vc u:Aa}{h':Ah}(ho:o.op= .makeSlice t l c)(ht:C.P.underlying t=some (.slice e))(Lb:B4 C.P e=some (n+1))(qm:Ki C.P e=some (b+1))(hz:Hc C.P e=some z)(hl:E8 C U l=some D)(hc:E8 C U c=some vc)
  (hm:R2 h (n+1) (b+1) z.cells D vc=some (h',u)) (hr:De C γ0 w0 γ Z U h a w):F0 C γ0 w0 o a w (U.put o.dst (.val u)) h':=by
 unfold R2 at hm;split at hm
 .rename_i k m;split at hm
  .rename_i HU;obtain⟨K,J,I,B⟩:=HU;cases hm;unfold Hc at hz;cases hi:C.P.info? e with
   |none=>rw[hi] at hz;cases hz
   |some i=>
    rw[hi] at hz;cases ng:i.zero with
    |none=>simp[ng] at hz
    |some f=>
     simp only[Cm,ng] at hz;have QK:=J2 Lb hi;have A:=L1 qm hi;obtain⟨E,G⟩:=Ht (γ:=γ) (Fx hz) Ab;have dD:f.cells.size=n+1:=by have:=E.length;simp at this;omega
     have q:m.toNat*(b+1)<=AS:=I;have g:m.toNat<=AS:=Br (IN m.toNat (Da b)) q;have A4:=run_make (P:=C.P) w t e i f ht hi ng .i64 .i64 k m K J (by
      rw[A];have H:((b+1:Nat):Int)*m=((m.toNat*(b+1):Nat):Int):=by rw[Int.natCast_mul,GZ Ab,Int.mul_comm]
      rw[H];simp only[AS] at q;omega) (by simp only[AS] at g;omega)
     rw[<-EC (GM hr hl),<-EC (GM hr hc)] at A4;have hlen:((List.replicate m.toNat z.cells).flatten).length=m.toNat*(n+1):=by rw[Hv (z:=n+1) (λr hr=>by rw[aAc hr,B]),FZ]
     have p:∀(j:Nat) (u:Value),(madeCells f.cells (m.toNat*i.size)).toList[j]?=some u->j<m.toNat*(n+1)/\f.cells.toList[j%(n+1)]?=some u:=by
      intro j u hj;have aF:j<m.toNat*(n+1):=by have:=(Al.1 hj).1;simpa[size_madeCells,QK] using this
      refine⟨aF,?_⟩;have aB1:j%(n+1)<f.cells.size:=by rw[dD];exact Nat.mod_lt _ (Da n)
      simp only[madeCells,Nr,Ck] at hj;have d:(Array.range (m.toNat*i.size)).toList[j]?=some j:=by simp[QK,aF]
      rw[d] at hj;simp only[B5,BD] at hj;rw[dD] at hj;rw[<-hj];simp[aB1]
     have F:Bj γ (List.replicate m.toNat z.cells).flatten (madeCells f.cells (m.toNat*i.size)).toList:=by refine Bj.Hd (by simp[hlen,size_madeCells,QK]) λj x u hx hu=>?_;obtain⟨aF,y⟩:=p j u hu;rw[Ij z.cells _ _ (by rw[B];exact aF),B] at hx;obtain⟨L,wW,s⟩:=E.get hx;rw[y] at wW;cases wW;exact s
     obtain⟨γ',Eo,v,F9,aKI⟩:=hr.newObj (madeCells f.cells (m.toNat*i.size)) e (0,0) (List.replicate m.toNat z.cells).flatten (.inl rfl) (F.Æ (by rw[F.length];exact Ag _)) (λu hu=>by obtain⟨j,hj⟩:=CU (Bn hu);exact G u (Cz (p j u hj).2))
     exact F0.value (by simp only[execOp,ho];exact DK A4) (F9.put λ_ _=>⟨w.heap.size,m.toNat,v,rfl,Ab,⟨Da n,by simp only[AS] at g;simp only[maxLen];omega⟩,by rw[aKI,size_madeCells,QK,BL]⟩)
  .cases hm
 .cases hm
def De.aFp(hr:De C γ0 w0 γ Z U h a w){g:Nat}(FI:γ.Bt g=some (.tail U.length none 0))(hB:w0.heap.size<=g){us:Array Value}{e:TypeId}(hg:w.heap[g]?=some (.cells us e (0,0)))(DR:Array Value)(cs:List Aa)
  (hv:Bj γ cs (DR.toList.take cs.length)) (h1:∀u∈DR.toList.take cs.length,u.oneCell'=true):∃γ',γ.le γ'/\γ'.mu h.length=some g/\De C γ0 w0 γ' Z U (h++[.cells cs]) a (w.setRow g DR)/\γ'.sz g=some DR.size:=by
 have f:γ.mu h.length=none:=by
  cases hc:γ.mu h.length with
  |none=>rfl
  |some y=>exact absurd (hr.D8.mu _ y hc) (Dj _)
 have Lb:γ.sz g=none:=by
  cases hc:γ.sz g with
  |none=>rfl
  |some y=>obtain⟨_,r⟩:=hr.D8.sz g y hc;rw[FI] at r;rcases r with r|⟨_,r⟩<;>cases r
 have Eo:γ.le (γ.B0 g h.length (some DR.size)):=⟨λ_ _ _ hv=>hv,λid b hm=>by
  have:id≠h.length:=λhe=>by rw[he,f] at hm;cases hm
  simp only[Gh.B0,Ad this];exact hm,λb n hm=>by
  have:b≠g:=λhe=>by rw[he,Lb] at hm;cases hm
  simp only[Gh.B0,Ad this];exact hm⟩
 have aBW:∀b n,(γ.B0 g h.length (some DR.size)).sz b=some n->(∃us e fr,(w.setRow g DR).heap[b]?=some (.cells us e fr)/\us.size=n)/\((γ.B0 g h.length (some DR.size)).Bt b=none\/∃id,(γ.B0 g h.length (some DR.size)).Bt b=some (.Mm id)):=λb n hb=>by
  by_cases he:b=g;.subst he;simp only[Gh.B0,BI] at hb;cases hb;exact⟨⟨DR,e,(0,0),setRow_heap w b us DR e (0,0) hg,rfl⟩,.inr ⟨h.length,by simp[Gh.B0]⟩⟩
  .simp only[Gh.B0,Ad he] at hb⊢;obtain⟨p,r⟩:=hr.D8.sz b n hb;exact⟨by rw[setRow_other w g b DR he];exact p,r⟩
 have hne:∀b id,γ.Bt b=some (.Mm id)->b≠g:=λb id hb he=>by rw[he,FI] at hb;cases hb
 have hk:Qj g γ w (γ.B0 g h.length (some DR.size)) (w.setRow g DR):=⟨Eo,λb x hb hx _=>⟨by simp only[Gh.B0,Ad hb];exact hx,setRow_other w g b DR hb⟩⟩;refine⟨_,Eo,by simp[Gh.B0],⟨⟨λb o v hb=>?_,λid y Ih hy=>?_,λid Ha hc b hb=>?_,λid es hc b hb=>?_,λid b hb=>?_,λb y hy=>?_,aBW⟩,⟨hr.fr.size,λs=>?_⟩,hr.D0.write (g:=g) hB Eo AH rfl rfl rfl (λb hb=>⟨setRow_other w g b DR hb,by simp only[Gh.B0,Ad hb]⟩),hr.defers,λx Ha hx=>C6.mono Eo _ _ _ (hr.Hb x Ha hx)⟩,by simp[Gh.B0]⟩
 .obtain⟨p,q,r⟩:=hr.D8.It b o v hb;have Oh:b≠g:=λhe=>by
   subst he;rw[FI] at r;rcases r with r|⟨_,_,_,r,hl⟩
   .cases r
   .cases r;omega
  exact⟨by rw[CV (setRow_other w g b DR Oh)];exact p,q,by simp only[Gh.B0,Ad Oh];exact r⟩
 .by_cases he:id=h.length;.exact⟨g,by simp[Gh.B0,he],by simp[Gh.B0,he]⟩
  .have Xc:id<h.length:=by rw[Al] at Ih;obtain⟨hl,_⟩:=Ih;simp at hl;omega
   rw[Ai Xc] at Ih;obtain⟨b,p,q⟩:=hr.D8.Mm id y Ih hy;exact⟨b,by simp only[Gh.B0,Ad he];exact p,by simp only[Gh.B0,Ad (hne b id q)];exact q⟩
 .by_cases he:id=h.length;.subst he;simp[Gh.B0] at hb;subst hb;simp at hc;subst hc;exact⟨DR,e,(0,0),setRow_heap w g us DR e (0,0) hg,.inl rfl,Bj.mono Eo _ _ hv,h1⟩
  .simp only[Gh.B0,Ad he] at hb;have Xc:=hr.D8.mu id b hb;rw[Ai Xc] at hc;obtain⟨b',c,d⟩:=hr.D8.Mm id _ hc AH;rw[hb] at c;cases c;obtain⟨qX,i,py,p,pf,q,r⟩:=hr.D8.cells id Ha hc b hb;exact⟨qX,i,py,by rw[setRow_other w g b DR (hne b id d)];exact p,pf,Bj.mono Eo _ _ q,r⟩
 .by_cases he:id=h.length;.subst he;simp at hc
  .simp only[Gh.B0,Ad he] at hb;have Xc:=hr.D8.mu id b hb;rw[Ai Xc] at hc;obtain⟨b',c,d⟩:=hr.D8.Mm id _ hc AH;rw[hb] at c;cases c;obtain⟨DE,clock,p,q⟩:=hr.D8.map id es hc b hb;exact⟨DE,clock,by rw[setRow_other w g b DR (hne b id d)];exact p,q.mono Eo⟩
 .by_cases he:id=h.length;.simp[he]
  .simp only[Gh.B0,Ad he] at hb;have:=hr.D8.mu id b hb;simp;omega
 .by_cases Oh:b=g;.subst Oh;have:=hr.D8.Bt _ _ FI;simpa using this
  .simp only[Gh.B0,Ad Oh] at hy;have:=hr.D8.Bt b y hy;simpa using this
 .by_cases hs:s=U.length;.subst hs;rw[BV.TK];trivial
  .exact(hr.fr.Ip s).keptBut FI hk (by simp only[KM.qU];intro hx;cases hx;exact hs rfl)
def De.Ph(hr:De C γ0 w0 γ Z U h a w){v v':Aa}{u:Value}{h':Ah}(hv:BR γ v u)(hf:Kd h v=some (h',v')):∃γ',γ.le γ'/\De C γ0 w0 γ' Z U h' a w/\BR γ' v' u:=by
 unfold Kd at hf;split at hf
 .rename_i id off n z;obtain⟨b,cap,hb,hu,hc,hz,Lb⟩:=hv;split at hf
  .rename_i cs hcs;split at hf
   .rename_i hl;cases hf;obtain⟨us,e,fr,q,pf,p,m⟩:=hr.D8.cells id cs hcs b hb;obtain⟨hi,ha⟩:=pz hr.D8 hcs hb q m;have qF:∀(k o:Nat),(Cw cs z o k).length=k:=by
     intro k;induction k with
     |zero=>intro o;rfl
     |succ k ih=>intro o;simp[Cw,ih]
    have d:∀(k o i:Nat) (r:List Aa),(Cw cs z o k)[i]?=some r->i<k/\r=(cs.drop (o+i*z)).take z:=by
     intro k;induction k with
     |zero=>intro o i r h;simp[Cw] at h
     |succ k ih=>
      intro o i r h;cases i with
      |zero=>simp[Cw] at h;exact⟨Da _,by simpa using h.symm⟩
      |succ i=>simp[Cw] at h;obtain⟨l,g⟩:=ih _ _ _ h;exact⟨Ab,by rw[g];congr 2;rw[BJ];omega⟩
    refine⟨_,ha.le,hr.Jd hi ha,⟨b,off,none⟩,cap,by rw[qF];exact hu,by rw[qF];exact hc,.inl rfl,E9.Hd λi r f=>?_⟩;obtain⟨l,rfl⟩:=d n off i r f;have t:i*z+z<=n*z:=by have:=DY z (Ab:i+1<=n);rwa [BJ,Ea] at this
    refine⟨D9,C6.Hd λj x hj=>?_⟩;rw[Cg] at hj;split at hj;.rename_i s;rw[Cr] at hj;obtain⟨y,hy,c⟩:=p.get hj;have hlt:off+i*z+j<cs.length:=(Al.1 hj).1;refine⟨y,?_,BR.mono ha.le _ _ c⟩;simp only[Gh.Dz,BI,Af hlt];rw[C1 hlt] at hy;simpa using hy
    .cases hj
   .cases hf
  .cases hf
 .cases hf;exact⟨γ,.refl _,hr,hv⟩
def Sn:∀{AD:List (List Aa)} {s:An},MW AD=some s->∃ns:List Int,AD=ns.map (λn=>[.int .u8 n])/\s=ns.map λn=>UInt8.ofNat n.toNat
 |[],s,hs=>by cases hs;exact⟨[],rfl,rfl⟩
 |r::AD,s,hs=>by
  unfold MW at hs;split at hs;.rename_i KD;cases KD
  .rename_i n rs KD;cases KD;cases hq:MW AD with
   |none=>rw[hq] at hs;cases hs
   |some l=>rw[hq] at hs;cases hs;obtain⟨ns,rfl,rfl⟩:=Sn hq;exact⟨n::ns,rfl,rfl⟩
  .cases hs
def Xr:∀(ns:List Int) (r:ByteArray),ns.foldl (λr n=>r.push (UInt8.ofNat n.toNat)) r=⟨r.data++(ns.map λn=>UInt8.ofNat n.toNat).toArray⟩
 |[],r=>AH
 |n::ns,r=>by rw[mv,Xr ns];simp[ByteArray.push]
def É{o:Oper}{src dst e:TypeId}{x:Operand}{v v' u:Aa}{h':Ah}(ho:o.op= .convert src dst x)(hs:C.P.underlying src=some (.slice e))(hd:C.P.underlying dst=some .string)(he:C.P.underlying e=some (.int .u8))(hx:E8 C U x=some v)(hf:Kd h v=some (h',v'))(hp:AB .WK [v']=some u)
  (hr:De C γ0 w0 γ Z U h a w):F0 C γ0 w0 o a w (U.put o.dst (.val u)) h':=by
 obtain⟨γ',Eo,F9,DL⟩:=hr.Ph (GM hr hx) hf;have MS:∀s,(Conv.bytesToString (a.eval x)).run C.P w= .ok s w->(∃p l c,a.eval x= .slice p l c)->(execOp a.eval o).run C.P w= .ok (.value s) w:=λs A4 ⟨p,l,c,qH⟩=>by simp only[execOp,ho];refine DK ?_;rw[qH] at A4⊢;rw[run_convert_bytes_string w src dst e p l c hs he hd];exact A4
 simp only[AB] at hp;unfold WM at hp;split at hp
 .rename_i AD;cases hq:MW AD with
  |none=>rw[hq] at hp;cases hp
  |some s=>
   rw[hq] at hp;cases hp;obtain⟨ns,rfl,rfl⟩:=Sn hq;obtain⟨d,cap,qH,hc,hsp,hR⟩:=DL;have ND:∀(j:Nat) (v:Value),(ns.map (Value.int .u8))[j]?=some v->d.add j=⟨d.block,d.off+j,none⟩:=λj v hj=>by
    have hpos:0<ns.length:=by have:=(Al.1 hj).1;simp at this;omega
    have rE:=Of hsp hc (by simpa using hpos);generalize d.block=b at*;generalize d.off=o at*;subst rE;unfold Addr.add;split<;>simp_all
   have hl:=run_loadCells_list (P:=C.P) w d (ns.map (Value.int .u8)) (λj v hj=>by
    rw[ND j v hj];simp only[Ck] at hj;cases hn:ns[j]? with
    |none=>rw[hn] at hj;cases hj
    |some n=>rw[hn] at hj;cases hj;obtain⟨_,m⟩:=hR.get (i:=j) (r:=[.int .u8 n]) (by simp[hn]);obtain⟨y,hy,g⟩:=m.get (i:=0) (a:= .int .u8 n) rfl;rw[show y=_ from g] at hy;have:=(F9.D8.It _ _ _ hy).1;simpa using this)
   simp only[Aj] at hl;have A4:=run_bytesToString (P:=C.P) w d ns.length cap ns hl;have k:ByteArray.empty.data=#[]:=rfl;rw[Xr,k,Array.empty_append] at A4;have f:a.eval x= .slice (some d) ns.length cap:=by rw[qH];simp
   rw[<-f] at A4;exact F0.value (MS _ A4 ⟨_,_,_,f⟩) (F9.put λ_ _=>rfl)
 .cases hp;have f:a.eval x= .slice none 0 0:=DL;have A4:(Conv.bytesToString (a.eval x)).run C.P w= .ok (.string ⟨⟨[]⟩⟩) w:=by rw[f];simp[Conv.bytesToString];rfl
  exact F0.value (MS _ A4 ⟨_,_,_,f⟩) (F9.put λ_ _=>rfl)
 .cases hp
def qp(C:F8)(f:FuncId):Prop:=
 (∃fn c,C.P.funcs[f]?=some fn/\(fn.name== "runtime.NumGoroutine")=false/\fn.body=some c)/\
 ∀(γ:Gh) (h:Ah) (w:World) (s:Aa) (d:Value) (i x:Int) (h':Ah) (r:Aa) (g b:Nat) (us:Array Value) (e:TypeId),Hn γ h w->BR γ s d->Qe h [s,.int .i64 i,.sl 1 [[.int .i64 x]]]=some (h',r)->
  w.heap[g]?=some (.cells us e (0,0))->us[0]?=some (.int .i64 x)->(∀id,γ.Bt g≠some (.Mm id))->1<=b->us.size=b->
  Calls C.P f #[d,.int .i64 i,.slice (some ⟨g,0,none⟩) 1 b] w λe w'=>match e with
   | .returned v=>∃γ',Hn γ' h' w'/\Lq γ w γ' w'/\BR γ' r v
   |_=>False
def Fh(C:F8)(run:IT->Ah->Option Ke):Prop:=
 ((∀g cs,C.Hb g=some cs->cs.all Aa.MQ=true)/\∀f,C.MR f=true->qp C f)/\
 ∀(f:FuncId) (args:List Aa) (h:Ah) (r:Aa) (h':Ah),run (B9 C f args) h=some (.ret,[r],h')->
  (∃fn c,C.P.funcs[EF f]?=some fn/\(fn.name== "runtime.NumGoroutine")=false/\fn.body=some c)/\
  ∀(γ:Gh) (w:World) (cargs:Array Value),Hn γ h w->(∀g cs,C.Hb g=some cs->C6 γ cs g 0)->Bj γ args cargs.toList->
   Calls C.P (EF f) cargs w λe w'=>match e with
    | .returned v=>∃γ',Hn γ' h' w'/\Lq γ w γ' w'/\BR γ' r v/\(C.Jk f=true->∃s c,IY γ' w.heap.size w' s c v r)
    |_=>False
def De.aB2(hr:De C γ0 w0 γ Z U h a w){h':Ah}{r:Aa}{v:Value}(hi:Hn γ' h' w')(ha:Lq γ w γ' w')(hv:BR γ' r v){Bt:Bool}(ho:Bt=true->∃s c,IY γ' w.heap.size w' s c v r)(d:Option Nat):
  ∃f,De C γ0 w0 f Z (U.put d (if Bt then .Bt r else .val r)) h' (a.put d v) w':=by
 cases Bt with
 |false=>exact⟨γ',(hr.Jd hi ha).put λ_ _=>hv⟩
 |true=>
  obtain⟨s,c,j⟩:=ho rfl;rcases j with j|⟨g,n,cap,us,e,z,AD,rfl,h2,m,l,k⟩
  .exact⟨γ',(hr.Jd hi ha).put λ_ _=>⟨hv,.inl j⟩⟩
  .have i:Lq γ w (γ'.FU g (.tail U.length none (n*z))) w':=⟨ha.le.trans (Hs _ _ _),ha.size,ha.os,ha.tape,ha.output,λb hb hn=>by obtain⟨p,q⟩:=ha.Og b hb hn;exact⟨p,by simp only[Gh.FU,Ad (Ab:b≠g)];exact q⟩⟩
   have F9:=hr.Jd (hi.FU (s':=U.length) (c':=none) m) i;exact F9.Xm (BR.mono (Hs _ _ _) _ _ hv) (.inr ⟨g,n,cap,us,e,z,AD,rfl,h2,by simp[Gh.FU],Br hr.D0.size l,k⟩) d
def Iq{P:Program}{f:FuncId}{fn:Func}{c:Code}(hf:P.funcs[f]?=some fn)(hname:(fn.name== "runtime.NumGoroutine")=false)(hb:fn.body=some c)(args:Array Value)(w:World):
  (callFunc f args).run P w= .ok (.enter f args) w:=by
 have hn:¬fn.name= "runtime.NumGoroutine":=by simpa using hname
 simp[callFunc,hf,hn,hb]
def So{o:Oper}{f:FuncId}{cargs:Array Value}{K:Act->World->Prop}{Q:Exit->Act->World->Prop}(he:(execOp a.eval o).run C.P w= .ok (.enter f cargs) w){R:Value->World->Prop}
  (hc:Calls C.P f cargs w λe w'=>match e with| .returned v=>R v w'|_=>False) (hk:∀v w',R v w'->K (a.put o.dst v) w'):o.wp C.P a w K Q:=by
 unfold Oper.wp;rw[he];refine hc.mono λe w' h=>?_;cases e with
 |returned v=>exact hk v w' h
 |_=>exact h.elim
def qq{run:IT->Ah->Option Ke}(g:Fh C run){o:Oper}{c:Call}{f:FuncId}{args:List Aa}{r:Aa}{h':Ah}{K:Act->World->Prop}{Q:Exit->Act->World->Prop}(ho:o.op= .call c)(hcl:c.callee= .value (.func (EF f)))(ha:BC C U c.args.toList=some args)
  (A4:run (B9 C f args) h=some (.ret,[r],h')) (hr:De C γ0 w0 γ Z U h a w) (i:∀γ' v w',De C γ0 w0 γ' Z (U.put o.dst (if C.Jk f then .Bt r else .val r)) h' (a.put o.dst v) w'->K (a.put o.dst v) w'):o.wp C.P a w K Q:=by
 obtain⟨⟨fn,j,hf,hname,hb⟩,d⟩:=g.2 f args h r h' A4;have b:Bj γ args (c.args.map a.eval).toList:=by simpa using D4 hr ha
 refine So (f:=EF f) (cargs:=c.args.map a.eval) ?_ (d γ w _ hr.D8 hr.Hb b) λv w' ⟨γ',hi,Kn,hv,FI⟩=>?_;.have h0:a.eval (.func (EF f))= .func (.func (EF f)) #[] #[]:=rfl;simp only[execOp,ho,resolve,hcl,Deferred.ofValue,h0,Sem.run_bind,Sem.run_pure,Result.andThen_ok,invoke];simpa using Iq hf hname hb (c.args.map a.eval) w
 .obtain⟨e,L0⟩:=hr.aB2 hi Kn hv FI o.dst;exact i e v w' L0
def Ê{run:IT->Ah->Option Ke}(M:Fh C run){o:Oper}{c:Call}{f:FuncId}{s i x:Operand}{args:List Aa}{r:Aa}{h':Ah}{K:Act->World->Prop}{Q:Exit->Act->World->Prop}(ho:o.op= .call c)(hcl:c.callee= .value (.func f))(hf:C.MR f=true)(ER:c.args.toList=[s,i,x])(FI:Ln C U x=true)
  (ha:BC C U [s,i,x]=some args) (hp:Qe h args=some (h',r)) (hr:De C γ0 w0 γ Z U h a w) (N:∀γ' v w',De C γ0 w0 γ' Z (U.put o.dst (.val r)) h' (a.put o.dst v) w'->K (a.put o.dst v) w'):o.wp C.P a w K Q:=by
 obtain⟨⟨fn,cd,Ë,hname,hb⟩,Ì⟩:=M.1.2 f hf;have rP:=D4 hr ha;obtain⟨A,d,f1,g1,f2⟩:∃A d,[a.eval s,a.eval i,a.eval x]=A::d/\BR γ (args.getD 0 .nilIface) A/\True:=by
  cases args with
  |nil=>cases rP
  |cons y l=>obtain⟨u,us,e,p,q⟩:=rP;exact⟨u,us,e,p,trivial⟩
 obtain⟨s',j,x',he,k,G,F⟩:∃s' j x',args=[s',.int .i64 j,.sl 1 [[.int .i64 x']]]/\∃(k:BR γ s' (a.eval s)) (G:a.eval i= .int .i64 j),BR γ (.sl 1 [[.int .i64 x']]) (a.eval x):=by
  unfold Qe at hp;split at hp;.obtain⟨_,_,_,e,E,D,B⟩:=rP.Uw;simp only[Bk,C2,E5,MJ] at e;obtain⟨rfl,rfl,rfl⟩:=e;exact⟨_,_,_,rfl,E,D,B⟩
  .obtain⟨_,_,_,e,E,D,B⟩:=rP.Uw;simp only[Bk,C2,E5,MJ] at e;obtain⟨rfl,rfl,rfl⟩:=e;exact⟨_,_,_,rfl,E,D,B⟩
  .cases hp
 subst he;have qG:E8 C U x=some (.sl 1 [[.int .i64 x']]):=by simp only[BC] at ha;cases h1:E8 C U s<;>cases h2:E8 C U i<;>cases I:E8 C U x<;>simp_all
 obtain⟨sl,qH⟩:∃sl,Eg C U x=some sl:=by
  unfold Ln at FI;cases hs:Eg C U x with
  |none=>rw[hs] at FI;cases FI
  |some sl=>exact⟨sl,rfl⟩
 have aKJ:∃v,sl= .Bt v:=by unfold Ln at FI;rw[qH] at FI;cases sl<;>first|exact⟨_,rfl⟩|cases FI
 obtain⟨v,rfl⟩:=aKJ;obtain⟨s0,hrel,_⟩:=Gv hr qH;have aKK:v= .sl 1 [[.int .i64 x']]:=by simp only[E8,qH,Cm,Et.Hr,BD] at qG;exact qG
 subst aKK;obtain⟨wZ,m⟩:=hrel;rcases m with(m|⟨_,m⟩)|⟨g,n,cap,us,e,z,AD,h1,h2,I,W,H,R,O,V,T⟩
 .cases m
 .cases m
 .cases h1;obtain⟨ad,L,J,Y,X,S⟩:=F;rw[h2] at J;cases J;obtain⟨_,hm,_⟩:=S;obtain⟨⟨u,hu,hru⟩,_⟩:=hm;obtain⟨J0,_,_⟩:=hr.D8.It _ _ _ hu;have Z4:us[0]?=some (.int .i64 x'):=by rw[cell_of_row w _ _ us e (0,0) H] at J0;rw[J0];exact Ca some hru
  have b:c.args.map a.eval=#[a.eval s,.int .i64 j,.slice (some ⟨g,0,none⟩) 1 cap]:=by apply HD;simp only[Nr,ER,Bk,C2,G,h2];rfl
  have VZ:=Ì γ h w s' _ j x' h' r g cap us e hr.D8 k hp H Z4 (λid Ih=>by rw[I] at Ih;cases Ih) O (by rw[R,FH]);rw[<-b] at VZ;refine So (f:=f) (cargs:=c.args.map a.eval) ?_ VZ λv w' ⟨γ',hi,Kn,hv⟩=>?_;.have h0:a.eval (.func f)= .func (.func f) #[] #[]:=rfl;simp only[execOp,ho,resolve,hcl,Deferred.ofValue,h0,Sem.run_bind,Sem.run_pure,Result.andThen_ok,invoke];simpa using Iq Ë hname hb (c.args.map a.eval) w
  .obtain⟨t,L0⟩:=hr.aB2 (Bt:=false) hi Kn hv (λe=>by cases e) o.dst;exact N t v w' (by simpa using L0)
def Gh.apart(γ:Gh):Gh:={It:=γ.It,mu:=λ_=>none,Bt:=λb=>match γ.Bt b with|some (.Mm _)=>none|x=>x,sz:=γ.sz}
def Hn.apart(hi:Hn γ h w):Hn γ.apart [] w:=by
 refine⟨λb o v hb=>?_,λid x hx=>by simp at hx,λid cs hx=>by simp at hx,λid es hx=>by simp at hx,λid b hb=>(by cases hb),λb x hx=>?_,λb n hb=>?_⟩;rotate_left 2;.obtain⟨p,r⟩:=hi.sz b n hb;refine⟨p,.inl ?_⟩;simp only[Gh.apart];rcases r with r|⟨_,r⟩<;>rw[r]
 .obtain⟨p,q,r⟩:=hi.It b o v hb;refine⟨p,q,?_⟩;simp only[Gh.apart];rcases r with r|⟨s,c,st,r,hl⟩
  .exact .inl (by rw[r])
  .exact .inr ⟨s,c,st,by rw[r],hl⟩
 .simp only[Gh.apart] at hx;split at hx;.cases hx
  .exact hi.Bt b x hx
def De.Í(hr:De C γ0 w0 γ Z U h a w){c:Gh}{h1:Ah}(hi:Hn c h1 w')(ha:Lq γ.apart w c w'):∃d,De C γ0 w0 d Z U h a w':=by
 have Zj:∀b id,γ.apart.Bt b≠some (.Mm id):=λb id e=>by
  simp only[Gh.apart] at e;split at e;.cases e
  .rename_i hn;exact hn id e
 have NA:∀b,b<w.heap.size->w'.heap[b]?=w.heap[b]?:=λb hb=>(ha.Og b hb (Zj b)).1;refine⟨γ,hr.Jd ⟨λb o v hb=>?_,hr.D8.Mm,λid cs hc b hb=>?_,λid es hc b hb=>?_,hr.D8.mu,λb x hx=>LU (hr.D8.Bt b x hx) ha.size,λb n hb=>(by
   obtain⟨⟨us,e,fr,p,q⟩,r⟩:=hr.D8.sz b n hb;exact⟨⟨us,e,fr,by rw[NA b (A8.1 p).1];exact p,q⟩,r⟩)⟩
  ⟨.refl _,ha.size,ha.os,ha.tape,ha.output,λb hb _=>⟨NA b hb,rfl⟩⟩⟩
 .obtain⟨p,q,r⟩:=hr.D8.It b o v hb;exact⟨by rw[CV (NA b (DT p))];exact p,q,r⟩
 .obtain⟨us,e,fr,p,q⟩:=hr.D8.cells id cs hc b hb;exact⟨us,e,fr,by rw[NA b (A8.1 p).1];exact p,q⟩
 .obtain⟨DE,clock,p,q⟩:=hr.D8.map id es hc b hb;exact⟨DE,clock,by rw[NA b (A8.1 p).1];exact p,q⟩
def Xs{γ γ':Gh}{x:Aa}{v:Value}(hf:x.MQ=true)(hv:BR γ x v):BR γ' x v:=by cases x<;>first|exact hv|cases hf
def aG{γ γ':Gh}:∀{l:List Aa} {us:List Value},l.all Aa.MQ=true->Bj γ l us->Bj γ' l us
 |[],us,_,h=>h
 |x::l,us,hf,h=>by obtain⟨u,DR,e,h1,h2⟩:=h;simp only[cN,Bv] at hf;exact⟨u,DR,e,Xs hf.1 h1,aG hf.2 h2⟩
def C6.apart{γ:Gh}:∀{l:List Aa} {b o:Nat},C6 γ l b o->l.all Aa.MQ=true->C6 γ.apart l b o
 |[],_,_,_,_=>trivial
 |x::l,b,o,h,hf=>by obtain⟨⟨u,h1,h2⟩,c⟩:=h;simp only[cN,Bv] at hf;exact⟨⟨u,h1,Xs hf.1 h2⟩,c.apart hf.2⟩
def gd{run:IT->Ah->Option Ke}(i:Fh C run){o:Oper}{c:Call}{f:FuncId}{args:List Aa}{r:Aa}{h1:Ah}{K:Act->World->Prop}{Q:Exit->Act->World->Prop}(ho:o.op= .call c)(hcl:c.callee= .value (.func (EF f)))(ha:BC C U c.args.toList=some args)
  (hfa:args.all Aa.MQ=true) (A4:run (B9 C f args) []=some (.ret,[r],h1)) (wU:r.MQ=true) (hr:De C γ0 w0 γ Z U h a w) (j:∀γ' v w',De C γ0 w0 γ' Z (U.put o.dst (.val r)) h (a.put o.dst v) w'->K (a.put o.dst v) w'):o.wp C.P a w K Q:=by
 obtain⟨⟨fn,k,hf,hname,hb⟩,d⟩:=i.2 f args [] r h1 A4;have b:Bj γ.apart args (c.args.map a.eval).toList:=aG hfa (by simpa using D4 hr ha);refine So (f:=EF f) (cargs:=c.args.map a.eval) ?_ (d γ.apart w _ hr.D8.apart (λg cs hg=>(hr.Hb g cs hg).apart (i.1.1 g cs hg)) b) λv w' ⟨γ',hi,Kn,hv,_⟩=>?_;.have h0:a.eval (.func (EF f))= .func (.func (EF f)) #[] #[]:=rfl;simp only[execOp,ho,resolve,hcl,Deferred.ofValue,h0,Sem.run_bind,Sem.run_pure,Result.andThen_ok,invoke];simpa using Iq hf hname hb (c.args.map a.eval) w
 .obtain⟨e,L0⟩:=hr.Í hi Kn;exact j e v w' (L0.put λ_ _=>Xs wU hv)
def gg{run:IT->Ah->Option Ke}(l:Fh C run){o:Oper}{c:Call}{g:Operand}{k:Aa}{f:FuncId}{args args':List Aa}{r:Aa}{h':Ah}{K:Act->World->Prop}{Q:Exit->Act->World->Prop}(ho:o.op= .call c)(hcl:c.callee= .value g)(hg:E8 C U g=some k)
  (ha:BC C U c.args.toList=some args) (ht:DD k args=some (f,args')) (A4:run (B9 C f args') h=some (.ret,[r],h')) (hr:De C γ0 w0 γ Z U h a w) (m:∀γ' v w',De C γ0 w0 γ' Z (U.put o.dst (.val r)) h' (a.put o.dst v) w'->K (a.put o.dst v) w'):o.wp C.P a w K Q:=by
 obtain⟨⟨fn,n,hf,hname,hb⟩,b⟩:=l.2 f args' h r h' A4;have j:=GM hr hg;unfold DD at ht;split at ht
 .rename_i f0 first captured
  split at ht;rotate_left;.cases ht
  rename_i qI;cases ht;rw[show EF f=f from Af qI] at hf b;obtain⟨fs,cs,Ei,h1,h2⟩:=j;have d:Bj γ (first++args++captured) (fs++c.args.map a.eval++cs).toList:=by simpa using(h1.append (D4 hr ha)).append h2
  refine So (f:=f) (cargs:=fs++c.args.map a.eval++cs) ?_ (b γ w _ hr.D8 hr.Hb d) λv w' ⟨γ',hi,Kn,hv,FI⟩=>?_;.simp only[execOp,ho,resolve,hcl,Deferred.ofValue,Ei,Sem.run_bind,Sem.run_pure,Result.andThen_ok,invoke];exact Iq hf hname hb _ w
  .obtain⟨i,L0⟩:=hr.aB2 (Bt:=false) hi Kn hv (λe=>by cases e) o.dst;exact m i v w' (by simpa using L0)
 .cases ht
end
end Go.Am
end
