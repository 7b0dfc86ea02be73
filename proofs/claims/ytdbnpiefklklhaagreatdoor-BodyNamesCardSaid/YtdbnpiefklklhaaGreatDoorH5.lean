/- Lemmas -/
import Derived.Test.YtdbnpiefklklhaaGreatDoorH4
import Derived.Deep.AppendSrc
import Derived.Great.BuildSlice
import Derived.Laws.IdiomStrings
set_option linter.all false
section
namespace Go.Am
open Go
section
variable{C:Fv}{U0 U U':Gh}{w0 w w':World}{O:Nat->Nat}{Z:BG}{h:Ai}{a:Act}{fid:FuncId}{ops:List Oper}
def De{P:Program}{s:Sem Value}{v:Value}(hs:s.run P w= .ok v w'):(do pure (Next.value (<-s)):Sem Next).run P w= .ok (.value v) w':=by simp[hs]
def T8{J:Type}{z:Nat}:∀{Aw:List (List J)},(∀r∈Aw,r.length=z)->∀{i:Nat} {r:List J},Aw[i]?=some r->∀{j:Nat} {x:J},r[j]?=some x->Aw.flatten[i*z+j]?=some x
 |[],_,i,r,hi,_,_,_=>by simp at hi
 |q::Aw,hl,0,r,hi,j,x,hj=>by simp at hi;subst hi;have:j<q.length:=(Aj.1 hj).1;simp only[Ma,BJ,CH];rw[An this];exact hj
 |q::Aw,hl,i+1,r,hi,j,x,hj=>by
  simp at hi;have hq:q.length=z:=hl q Ax;rw[CH,BI (by rw[hq,BA];omega)];have:=T8 (Aw:=Aw) (λr hr=>hl r (by simp[hr])) hi hj;rw[<-this];congr 1
  rw[hq,BA];omega
def He{J:Type}{z:Nat}:∀{Aw:List (List J)},(∀r∈Aw,r.length=z)->Aw.flatten.length=Aw.length*z
 |[],_=>Ax
 |q::Aw,hl=>by have hq:q.length=z:=hl q Ax;simp[hq,He (Aw:=Aw) (λr hr=>hl r (by simp[hr])),BA,OJ]
def NG{Aw:List (List Aa)}{us:List Value}{z b o:Nat}(hl:∀r∈Aw,r.length=z)(hv:AW U Aw.flatten us)(hi:∀(j:Nat) (u:Value),us[j]?=some u->U.HU b (o+j)=some u):EA U Aw z b o:=by refine EA.GF λi r hr=>⟨hl r (Ct hr),CQ.GF λj x hj=>?_⟩;obtain⟨u,hu,hx⟩:=hv.get (T8 hl hr hj);exact⟨u,by rw[Rq];exact hi _ _ hu,hx⟩
def CX.drew(hr:CX C U0 w0 U O Z h a w):CX C U0 w0 U O Z h a w.drew:=hr.IA (hr.DG.same rfl) (Lx.drew U w)
def BG.Tk(Z:BG):Z.at Z.length= .undef:=by simp[BG.at,List.getD]
def CX.VZ(hr:CX C U0 w0 U O Z h a w){x:Aa}{v:Value}(hv:BF U x v)(ho:IE U w0.heap.size w Z.length none v x)(d:Option Nat):∃U',CX C U0 w0 U' O (Z.put d (.BK x)) h (a.put d v) w:=by
 cases d with
 |none=>exact⟨U,hr⟩
 |some d=>
  rcases ho with ho|⟨g,n,cap,us,e,z,Aw,h1,h2,f,b,c⟩
  .exact⟨U,hr.put λs _=>⟨hv,.inl ho⟩⟩
  .have Jq:=hr.Fp (s':=d) (c':=none) f b (λ_ u=>by rw[BG.Tk];simp) (λo ho=>by cases ho);exact⟨_,Jq.put λs hs=>by cases hs;exact⟨BF.mono (Hb _ _ _) _ _ hv,.inr ⟨g,n,cap,us,e,z,Aw,h1,h2,by simp[Gh.Fp],b,c⟩⟩⟩
def CX.V0(hr:CX C U0 w0 U O Z h a w)(us:Array Value)(e:TypeId){z n cap:Nat}{Aw:List (List Aa)}(hz:0<z)(hn:Aw.length=n)(hl:∀r∈Aw,r.length=z)(YR:us.size=cap*z)(hc:n<=cap)(hm:cap<=maxLen)
  (hv:AW U Aw.flatten (us.toList.take (n*z))) (h1:∀u∈us.toList.take (n*z),u.oneCell'=true):
  ∃U',U.le U'/\CX C U0 w0 U' O Z h a (w.alloc (.cells us e))/\BF U' (.sl z Aw) (.slice (some ⟨w.heap.size,0,none⟩) n cap)/\IE U' w0.heap.size (w.alloc (.cells us e)) Z.length none (.slice (some ⟨w.heap.size,0,none⟩) n cap) (.sl z Aw):=by
 obtain⟨hi,ha⟩:=OS hr.DG us e (0,0) (n*z) (some (.tail Z.length none (n*z))) (λo u ho hu=>h1 u (Ct (i:=o) (by rw[CM ho];simpa using hu))) (.inr (.inl ⟨_,_,rfl⟩));refine⟨_,ha.le,hr.IA hi ha,⟨⟨w.heap.size,0,none⟩,cap,by rw[hn],Ab,.inl rfl,NG hl (AW.mono ha.le _ _ hv) λj u hj=>?_⟩,.inr ⟨w.heap.size,n,cap,us,e,z,Aw,rfl,rfl,by simp[Gh.C6],hr.DA.size,heap_alloc_new w _,YR,hc,hm,hz⟩⟩;rw[Cj] at hj;split at hj;.rename_i hlt;simp only[Gh.C6,BE,BJ,Af hlt];simpa using hj
 .cases hj
def V4{size:Nat}:∀(vs:List Value) (k:Nat) (cells:Array Value),(∀v∈vs,v.cells.size=size)->(k+vs.length)*size<=cells.size->
  Instr.fill (λi=>some (i*size,size)) cells ((vs.zipIdx k).map λp=>(p.2,p.1))=some (cells.toList.take (k*size)++vs.flatMap (·.cells.toList)++cells.toList.drop ((k+vs.length)*size)).toArray
 |[],k,cells,_,_=>by simp[Instr.fill]
 |v::vs,k,cells,hv,hl=>by
  have hs:v.cells.size=size:=hv v Ax;simp only[AJ] at hl;have Ee:(k+1)*size+vs.length*size<=cells.size:=by rw[<-BA];exact Bp (L9 (by congr 1;omega)) hl
  have xb:(k+1)*size=k*size+size:=by rw[BA,Ed]
  simp only[qQ,A9,Instr.fill];have f:¬(v.cells.size≠size\/k*size+v.cells.size>cells.size):=by rw[hs];omega
  simp only[Cy,decide_not,Oh,B0,aOY,decide_eq_false_iff_not] at*;rw[Ad f];have hf:=NC v.cells.toList (k*size) 0 cells (by simp[hs];omega);have aI1:v.cells.zipIdx.foldl (λcs (c,j)=>cs.setIfInBounds (k*size+j) c) cells=(cells.toList.take (k*size)++v.cells.toList++cells.toList.drop (k*size+size)).toArray:=by rw[<-aM2,aIR];rw[hf];simp[hs]
  rw[aI1];have hlen:(cells.toList.take (k*size)++v.cells.toList++cells.toList.drop (k*size+size)).length=cells.size:=by simp[hs];omega
  rw[V4 vs (k+1) _ (λu hu=>hv u (by simp[hu])) (by simp only[BZ];rw[hlen,BA];exact Ee)]
  congr 2
  have b:(cells.toList.take (k*size)++v.cells.toList).length=(k+1)*size:=by simp[hs];omega
  have e:(cells.toList.take (k*size)++v.cells.toList++cells.toList.drop (k*size+size)).take ((k+1)*size)=cells.toList.take (k*size)++v.cells.toList:=by rw[<-b];exact E6
  have d:(cells.toList.take (k*size)++v.cells.toList++cells.toList.drop (k*size+size)).drop ((k+1+vs.length)*size)=cells.toList.drop ((k+(vs.length+1))*size):=by
   rw[SV,AT (by rw[b];exact DV _ Ab),b,Es,BT];congr 1
   have:(k+1+vs.length)*size-(k+1)*size=vs.length*size:=by rw[BA (k+1)];omega
   rw[this,BA k,BA vs.length];omega
  rw[e,d];simp
def KF{P:Program}{t:TypeId}(h:LK P t=true):∃i z,P.info? t=some i/\i.zero=some z/\z.cells.size=i.size:=by
 unfold LK at h;split at h
 .rename_i i hi;split at h;.rename_i z hz;exact⟨i,z,hi,hz,by simpa using h⟩
  .cases h
 .cases h
def Ji{P:Program}{t:TypeId}{n:Nat}{i:TypeInfo}(h:BO P t=some n)(hi:P.info? t=some i):i.size=n:=by simpa[BO,hi] using h
def Lj{P:Program}{t:TypeId}{n:Nat}{i:TypeInfo}(h:Ju P t=some n)(hi:P.info? t=some i):i.bytes=n:=by simpa[Ju,hi] using h
def V5:∀{args:List Aa} {us:List Value} {z:Nat},AW U args us->(∀x∈args,x.cells.length=z)->0<z->AW U (args.map (·.cells)).flatten (us.flatMap (·.cells.toList))/\(∀u∈us.flatMap (·.cells.toList),u.oneCell'=true)/\∀u∈us,u.cells.size=z
 |[],us,z,h,_,_=>by rw[AW] at h;subst h;exact⟨rfl,Ax,Ax⟩
 |x::args,us,z,h,hl,hz=>by
  obtain⟨u,Dk,rfl,h1,h2⟩:=h;have hx:=hl x Ax;obtain⟨b,e⟩:=Hc h1 Ab;obtain⟨d,r2,c⟩:=V5 h2 (λy hy=>hl y (by simp[hy])) hz;refine⟨by simpa using b.append d,λv hv=>?_,λv hv=>?_⟩;.simp only[List.flatMap_cons,Ap] at hv;exact hv.elim (e v) (r2 v)
  .rcases AG.1 hv with rfl|hv
   .have:=b.length;simp at this;omega
   .exact c v hv
def Y2{a:Act}:∀{l:List (Nat×Operand)} {k:Nat},l.map (·.1)=List.range' k l.length->l.map (λp=>(p.1,a.eval p.2))=((l.map λp=>a.eval p.2).zipIdx k).map λp=>(p.2,p.1)
 |[],k,_=>Ax
 |(i,x)::l,k,h=>by simp only[A9,AJ,List.range'_succ,Ex] at h;obtain⟨rfl,h⟩:=h;simp[qQ,Y2 h]
def js{o:Oper}{t e:TypeId}{len n:Nat}{parts:Array (Nat×Operand)}{args:List Aa}{u:Aa}(ho:o.op= .buildSlice t len parts)(ht:C.P.underlying t=some (.slice e))(KW:BO C.P e=some (n+1))(hp:parts.toList.map (·.1)=List.range len)(eW:LK C.P e=true)
  (ha:Bm C Z (parts.toList.map (·.2))=some args) (hu:Az (.Ch (n+1)) args=some u) (hr:CX C U0 w0 U O Z h a w):Ft C U0 w0 o a w (Z.put o.dst (.BK u)) h:=by
 obtain⟨i,z,hi,hz,aL⟩:=KF eW;have Qh:=Ji KW hi;simp only[Az] at hu;split at hu
 .rename_i hc;cases hu;simp only[AN,Cg,w_,B0] at hc;obtain⟨Yg,KX⟩:=hc;have Ek:=DB hr ha;have hlen:parts.toList.length=len:=by have:=B2 List.length hp;simpa using this
  have aM:args.length=len:=by have:=Ek.length;simp at this;simp at hlen;omega
  obtain⟨d,g,f⟩:=V5 Ek Yg (CU n);have Y3:=d.length;rw[He (z:=n+1) (by intro r hr;obtain⟨x,hx,rfl⟩:=A4.1 hr;exact Yg x hx),Av,aM] at Y3;have AI:∃cells:Array Value,cells.toList=(parts.toList.map (·.2) |>.map a.eval).flatMap (·.cells.toList)/\(Instr.buildSlice t len (parts.map λ(i,x)=>(i,a.eval x))).run C.P w= .ok (.slice (some ⟨w.heap.size,0,none⟩) len len) (w.alloc (.cells cells e)):=by
   have rP:(parts.map λ(i,x)=>(i,a.eval x)).toList=(((parts.toList.map (·.2)).map a.eval).zipIdx 0).map λp=>(p.2,p.1):=by have:=Y2 (a:=a) (l:=parts.toList) (k:=0) (by rw[hlen,<-aHO];exact hp);simp only[MW,aDF];exact this
   have rM:=V4 (size:=n+1) ((parts.toList.map (·.2)).map a.eval) 0 ((Array.range (len*(n+1))).map (z.cells[·%z.cells.size]!)) f (by simp at hlen⊢;rw[hlen];exact Ae _);rw[<-rP] at rM;have e0:((Array.range (len*(n+1))).map (z.cells[·%z.cells.size]!)).toList.drop ((0+((parts.toList.map (·.2)).map a.eval).length)*(n+1))=[]:=by apply AT;simp at hlen⊢;rw[hlen];exact Ae _
   rw[e0] at rM;simp only[Ma,PJ,BT,BB] at rM;refine⟨_,rfl,?_⟩;by_cases h0:len*(n+1)=0
   .have c:len=0:=by
     rcases Nat.mul_eq_zero.1 h0 with h|h
     .exact h
     .omega
    subst c;have ś:parts=#[]:=by apply Ik;simpa using hlen
    subst ś;have b:(Array.range 0:Array Nat)=#[]:=rfl;simp[Instr.buildSlice,run_underlying ht,sizeOf,typeInfo,hi,newRow,Instr.fill,b]
   .exact run_buildSlice w t e len _ _ i z ht hi hz (by rw[Qh];rw[aM] at KX;omega) (by rw[Qh];exact h0) (by rw[Qh];exact rM)
  obtain⟨cells,hcells,AI⟩:=AI;have hcs:cells.size=len*(n+1):=by rw[<-B8,hcells];exact Y3
  obtain⟨U',Ee,Hh,Gm,Fj⟩:=hr.V0 cells e (z:=n+1) (n:=len) (cap:=len) (Aw:=args.map (·.cells)) (CU n) (by simp[aM]) (by intro r hr;obtain⟨x,hx,rfl⟩:=A4.1 hr;exact Yg x hx) hcs (Ae _)
   (by rw[aM] at KX;have:len<=len*(n+1):=Il _ (CU n);simp only[maxLen];omega) (by rw[hcells,A8 (by rw[Y3];exact Ae _)];exact d) (by rw[hcells,A8 (by rw[Y3];exact Ae _)];exact g)
  obtain⟨j,LP⟩:=Hh.VZ Gm Fj o.dst;exact Ft.value (by simp only[execOp,ho];exact De AI) LP
 .cases hu
def jt{o:Oper}{t e:TypeId}{len n:Nat}{parts:Array (Nat×Operand)}(ho:o.op= .buildSlice t len parts)(ht:C.P.underlying t=some (.slice e))(KW:BO C.P e=some (n+1))(hp:parts.toList.map (·.1)=List.range len)(eW:LK C.P e=true)(h0:len=0)
  (hr:CX C U0 w0 U O Z h a w):Ft C U0 w0 o a w (Z.put o.dst (.BK (.H5 (n+1)))) h:=by
 subst h0;obtain⟨i,z,hi,hz,aL⟩:=KF eW;have ś:parts=#[]:=by apply Ik;have:=B2 List.length hp;simpa using this
 subst ś;have b:(Array.range 0:Array Nat)=#[]:=rfl;have AI:(Instr.buildSlice t 0 ((#[]:Array (Nat×Operand)).map λ(i,x)=>(i,a.eval x))).run C.P w= .ok (.slice (some ⟨w.heap.size,0,none⟩) 0 0) (w.alloc (.cells #[] e)):=by simp[Instr.buildSlice,run_underlying ht,sizeOf,typeInfo,hi,newRow,Instr.fill,b]
 obtain⟨U',Ee,Hh,_,_⟩:=hr.V0 #[] e (z:=n+1) (n:=0) (cap:=0) (Aw:=[]) (CU n) rfl Ax Ax (Ae _) (by simp[maxLen]) (by rw[Ma];exact(rfl:AW U [] [])) Ax;obtain⟨c,LP⟩:=Hh.VZ (x:= .H5 (n+1)) (v:= .slice (some ⟨w.heap.size,0,none⟩) 0 0) ⟨_,rfl⟩ (.inl (.inr ⟨_,rfl⟩)) o.dst;exact Ft.value (by simp only[execOp,ho];exact De AI) LP
def rS{t':TypeId}{size bytes:Nat}{v u r:Aa}{d:Value}(Ir:(∃f,C.P.underlying t'=some (.slice f))\/C.P.underlying t'=some .string)(hi:Hj U h w)(hu:BF U u d)(hp:H6 size bytes v u=some r):
  ∃(Aw:List (List Aa)) (news:List Value),Dr size bytes v Aw=some r/\Src C.P size t' d Aw.length news w/\AW U Aw.flatten news/\(∀r∈Aw,r.length=size):=by
 unfold H6 at hp;split at hp;.rw[show d=_ from hu];exact⟨[],[],hp,⟨Ir,λ_=>rfl,run_firstCells_none w size 0 0 0,run_firstCells_none w.drew size 0 0 0,Ax,Ax⟩,rfl,Ax⟩
 .rename_i z;split at hp;.obtain⟨b,yf⟩:=hu;rw[yf];exact⟨[],[],hp,⟨Ir,λ_=>rfl,run_firstCells_some w _ _ _ _ _ [] Ax (λj x hj=>by simp at hj),run_firstCells_some w.drew _ _ _ _ _ [] Ax (λj x hj=>by simp at hj),Ax,Ax⟩,rfl,Ax⟩
  .cases hp
 .rename_i z Aw;split at hp
  .rename_i hz;subst hz;obtain⟨c,cap,yf,OZ,hsp,hR⟩:=hu;obtain⟨us,p1,p2,e⟩:=hR.values;have M4:∀(j:Nat) (x:Value),us[j]?=some x->c.add j=⟨c.block,c.off+j,none⟩:=λj x hj=>by
    have hpos:0<Aw.length:=by
     rcases Lf Aw.length with h0|h0
     .have:us.length=0:=by rw[p2,h0,Ma]
      rw[CO this] at hj;simp at hj
     .exact h0
    have mJ:=Nv hsp OZ hpos;generalize c.block=b at*;generalize c.off=o at*;subst mJ;unfold Addr.add;split<;>simp_all
   rw[yf];refine⟨Aw,us,hp,⟨Ir,λ_=>rfl,run_firstCells_some w _ _ _ _ _ us p2 (λj x hj=>by rw[M4 j x hj];exact(hi.HU _ _ _ (e j x hj)).1),run_firstCells_some w.drew _ _ _ _ _ us p2 (λj x hj=>by rw[M4 j x hj];exact(hi.HU _ _ _ (e j x hj)).1),p2,λx hx=>?_⟩,p1,λr hr=>?_⟩;.obtain⟨j,hj⟩:=CD hx;exact(hi.HU _ _ _ (e j x hj)).2.1
   .obtain⟨j,hj⟩:=CD hr;exact(hR.get hj).1
  .cases hp
 .rename_i s;split at hp
  .rename_i hz;subst hz;rw[show d=_ from hu];have hlen:(CY s).length=(⟨⟨s⟩⟩:ByteArray).size:=by simp[CY,ByteArray.size]
   have hrel:∀l:List UInt8,AW U (CY l).flatten (l.map λb=>Value.int .u8 b.toNat):=by
    intro l;induction l with
    |nil=>rfl
    |cons b l ih=>exact⟨_,_,rfl,rfl,ih⟩
   refine⟨CY s,byteCells ⟨⟨s⟩⟩,hp,?_,?_,λr hr=>?_⟩;.rw[hlen];exact⟨Ir,λ_=>rfl,firstCells_string _ w,firstCells_string _ w.drew,by rw[byteCells_length,FW],λu hu=>by obtain⟨_,_,rfl⟩:=A4.1 hu;rfl⟩
   .simpa[byteCells] using hrel s
   .obtain⟨b,_,rfl⟩:=A4.1 hr;rfl
  .cases hp
 .cases hp
def CX.ju(hr:CX C U0 w0 U O Z h a w){g n cap z:Nat}{us:Array Value}{e:TypeId}{rr Aw:List (List Aa)}{news:List Value}(Fj:U.BK g=some (.tail Z.length none (n*z)))(hB:w0.heap.size<=g)(hg:w.heap[g]?=some (.cells us e (0,0)))
  (YR:us.size=cap*z) (hm:cap<=maxLen) (hz:0<z) (hv:BF U (.sl z rr) (.slice (some ⟨g,0,none⟩) n cap)) (hl:∀r∈Aw,r.length=z) (hn:AW U Aw.flatten news) (h1:∀u∈news,u.oneCell'=true) (hroom:n+Aw.length<=cap):
  ∃U',U.le U'/\CX C U0 w0 U' O Z h a (w.setRow g (us.toList.take (n*z)++news++us.toList.drop (n*z+news.length)).toArray)/\BF U' (.sl z (rr++Aw)) (.slice (some ⟨g,0,none⟩) (n+Aw.length) cap)/\
   IE U' w0.heap.size (w.setRow g (us.toList.take (n*z)++news++us.toList.drop (n*z+news.length)).toArray) Z.length none (.slice (some ⟨g,0,none⟩) (n+Aw.length) cap) (.sl z (rr++Aw)):=by
 obtain⟨t,cap',fZ,OZ,_,hR⟩:=hv;simp only[Value.slice.injEq,Bx] at fZ;obtain⟨rfl,rfl,rfl⟩:=fZ;simp only at hR;have Qj:news.length=Aw.length*z:=by rw[hn.length,He hl]
 have hfit:(rr.length+Aw.length)*z<=us.size:=by rw[YR];exact DV _ hroom
 rw[BA] at hfit;have c:(us.toList.take (rr.length*z)).length=rr.length*z:=Ei;obtain⟨vs,m,q,l⟩:=hR.values;have hvs:vs=us.toList.take (rr.length*z):=by
  apply L7;intro j;by_cases hj:j<rr.length*z
  .have d:j<vs.length:=by rw[q];exact hj
   have hc:=(hr.DG.HU _ _ _ (l j _ (As d))).1;rw[cell_of_row w _ _ us e (0,0) hg,BJ] at hc;rw[As d,CM hj];simpa using hc.symm
  .rw[C5 Ab,C5 (by rw[c];omega)]
 rw[hvs] at m;have aN:∀u∈us.toList.take (rr.length*z),u.oneCell'=true:=λu hu=>by rw[<-hvs] at hu;obtain⟨j,hj⟩:=CD hu;exact(hr.DG.HU _ _ _ (l j u hj)).2.1
 have f:(rr.length+Aw.length)*z=rr.length*z+Aw.length*z:=BA _ _ _;have ď:((us.toList.take (rr.length*z)++news++us.toList.drop (rr.length*z+news.length)).toArray).toList.take ((rr.length+Aw.length)*z)=us.toList.take (rr.length*z)++news:=by
  have:(us.toList.take (rr.length*z)++news).length=(rr.length+Aw.length)*z:=by rw[Aq,c,Qj,f]
  rw[<-this];exact E6
 have KW:(us.toList.take (rr.length*z)++news++us.toList.drop (rr.length*z+news.length)).length=us.size:=by simp[Qj];omega
 generalize p:(us.toList.take (rr.length*z)++news++us.toList.drop (rr.length*z+news.length)).toArray=Dk at*;have aI4:Dk.size=us.size:=by rw[<-p];simpa using KW
 obtain⟨hi,Ee⟩:=mD hr.DG Fj hg Dk ((rr.length+Aw.length)*z) Z.length none (λo ho=>by
   rw[<-p,AS,List.getElem?_toArray,An Ab,CM ho];simp)
  Ab (λo u ho hu=>by
   have:u∈Dk.toList.take ((rr.length+Aw.length)*z):=by refine Ct (i:=o) ?_;rw[CM ho];simpa using hu
   rw[ď,Ap] at this;exact this.elim (aN u) (h1 u)) (λo v hv=>by
   have:=(hr.DG.HU _ _ _ hv).1;rwa [cell_of_row w _ _ us e (0,0) hg] at this)
 have hk:PT g U w (U.C6 g Dk ((rr.length+Aw.length)*z) (some (.tail Z.length none ((rr.length+Aw.length)*z)))) (w.setRow g Dk):=
  ⟨Ee,λb x hb hx _=>⟨by simp only[Gh.C6,Ad hb];exact hx,setRow_other w g b Dk hb⟩⟩
 have k:EA (U.C6 g Dk ((rr.length+Aw.length)*z) (some (.tail Z.length none ((rr.length+Aw.length)*z)))) (rr++Aw) z g 0:=by
  refine NG (us:=Dk.toList.take ((rr.length+Aw.length)*z)) (λr hr=>?_) ?_ (λj u hj=>?_)
  .rcases Ap.1 hr with hr|hr
   .obtain⟨i,hi⟩:=CD hr;exact(hR.get hi).1
   .exact hl r hr
  .rw[ď,Ko];exact(AW.mono Ee _ _ m).append (AW.mono Ee _ _ hn)
  .rw[Cj] at hj;split at hj;.rename_i hlt;simp only[Gh.C6,BE,BJ,Af hlt];simpa using hj
   .cases hj
 refine⟨_,Ee,⟨hi,⟨hr.fr.size,λs=>?_⟩,hr.DA.write (g:=g) hB Ee Ax rfl rfl rfl (λb hb=>⟨setRow_other w g b Dk hb,by simp only[Gh.C6,Ad hb]⟩),hr.defers,λx cs hx=>CQ.mono Ee _ _ _ (hr.GC x cs hx)⟩,
  ⟨⟨g,0,none⟩,cap,Ax,by simpa using hroom,.inl rfl,k⟩,.inr ⟨g,rr.length+Aw.length,cap,Dk,e,z,rr++Aw,rfl,rfl,by simp[Gh.C6],hB,setRow_heap w g us Dk e (0,0) hg,by rw[aI4,YR],hroom,hm,hz⟩⟩
 by_cases hs:s=Z.length;.subst hs;rw[BG.Tk];trivial
 .exact(hr.fr.HR s).keptBut Fj hk (by simp only[J3.mA];intro hx;cases hx;exact hs rfl)
def NH{t t' ty:TypeId}{ts:Array TypeId}{xs:Array Value}(h0:ts[0]?=some t)(h1:ts[1]?=some t'):Builtin.append_ ts ty xs=Builtin.append_ #[t,t'] ty xs:=by simp only[Builtin.append_,h0,h1];rfl
def AW.yg{l:List Aa}{us:List Value}{n:Nat}(h:AW U l us)(hn:us.length<=n):AW U l (us.take n):=by rw[A8 hn];exact h
def M5{cs:List Aa}{z:Nat}:∀{n off:Nat},(Cr cs z off n).flatten=(cs.drop off).take (n*z)
 |0,off=>by simp[Cr]
 |n+1,off=>by rw[Cr,CH,M5,BA,Ed,OJ (n*z) z,Ā,Es]
def Om{cs:List Aa}{z:Nat}:∀{n off:Nat},(Cr cs z off n).length=n
 |0,off=>rfl
 |n+1,off=>by rw[Cr,AJ,Om]
def Qt{cs:List Aa}{z:Nat}:∀{n off:Nat},off+n*z<=cs.length->∀r∈Cr cs z off n,r.length=z
 |0,off,_,r,hr=>by simp[Cr] at hr
 |n+1,off,hl,r,hr=>by
  rw[BA,Ed] at hl;rw[Cr,AG] at hr;rcases hr with rfl|hr
  .rw[AB,Bg];omega
  .exact Qt Ab r hr
def V6{t':TypeId}{size:Nat}{u:Aa}{f:Value}{Aw:List (List Aa)}(Ir:(∃i,C.P.underlying t'=some (.slice i))\/C.P.underlying t'=some .string)(hi:Hj U h w)(hu:BF U u f)(hp:Ha h size u=some Aw):
  ∃news:List Value,Src C.P size t' f Aw.length news w/\AW U Aw.flatten news/\(∀r∈Aw,r.length=size):=by
 unfold Ha at hp;split at hp;.cases hp;rw[show f=_ from hu];exact⟨[],⟨Ir,λ_=>rfl,run_firstCells_none w size 0 0 0,run_firstCells_none w.drew size 0 0 0,Ax,Ax⟩,rfl,Ax⟩
 .rename_i z;split at hp;.cases hp;obtain⟨b,yf⟩:=hu;rw[yf];exact⟨[],⟨Ir,λ_=>rfl,run_firstCells_some w _ _ _ _ _ [] Ax (λj x hj=>by simp at hj),run_firstCells_some w.drew _ _ _ _ _ [] Ax (λj x hj=>by simp at hj),Ax,Ax⟩,rfl,Ax⟩
  .cases hp
 .rename_i z g;split at hp
  .rename_i hz;cases hp;subst hz;obtain⟨d,cap,yf,OZ,hsp,hR⟩:=hu;obtain⟨us,p1,p2,c⟩:=hR.values;have M4:∀(j:Nat) (x:Value),us[j]?=some x->d.add j=⟨d.block,d.off+j,none⟩:=λj x hj=>by
    have hpos:0<Aw.length:=by
     rcases Lf Aw.length with h0|h0
     .have:us.length=0:=by rw[p2,h0,Ma]
      rw[CO this] at hj;simp at hj
     .exact h0
    have mJ:=Nv hsp OZ hpos;generalize d.block=b at*;generalize d.off=o at*;subst mJ;unfold Addr.add;split<;>simp_all
   rw[yf];refine⟨us,⟨Ir,λ_=>rfl,run_firstCells_some w _ _ _ _ _ us p2 (λj x hj=>by rw[M4 j x hj];exact(hi.HU _ _ _ (c j x hj)).1),run_firstCells_some w.drew _ _ _ _ _ us p2 (λj x hj=>by rw[M4 j x hj];exact(hi.HU _ _ _ (c j x hj)).1),p2,λx hx=>?_⟩,p1,λr hr=>?_⟩;.obtain⟨j,hj⟩:=CD hx;exact(hi.HU _ _ _ (c j x hj)).2.1
   .obtain⟨j,hj⟩:=CD hr;exact(hR.get hj).1
  .cases hp
 .rename_i s;split at hp
  .rename_i hz;cases hp;subst hz;rw[show f=_ from hu];have hlen:(CY s).length=(⟨⟨s⟩⟩:ByteArray).size:=by simp[CY,ByteArray.size]
   have hrel:∀l:List UInt8,AW U (CY l).flatten (l.map λb=>Value.int .u8 b.toNat):=by
    intro l;induction l with
    |nil=>rfl
    |cons b l ih=>exact⟨_,_,rfl,rfl,ih⟩
   refine⟨byteCells ⟨⟨s⟩⟩,?_,?_,λr hr=>?_⟩;.rw[hlen];exact⟨Ir,λ_=>rfl,firstCells_string _ w,firstCells_string _ w.drew,by rw[byteCells_length,FW],λu hu=>by obtain⟨_,_,rfl⟩:=A4.1 hu;rfl⟩
   .simpa[byteCells] using hrel s
   .obtain⟨b,_,rfl⟩:=A4.1 hr;rfl
  .cases hp
 .rename_i id off n z;split at hp
  .rename_i hz;subst hz;split at hp
   .rename_i cs hcs;split at hp
    .rename_i hl;cases hp;obtain⟨b,cap,hb,yf,OZ,fx,KW⟩:=hu;obtain⟨us,e,fr,p1,pf,p2,c⟩:=hi.cells id cs hcs b hb;have fw:(us.toList.take cs.length).length=cs.length:=p2.length;have Qj:(((us.toList.take cs.length).drop off).take (n*z)).length=n*z:=by rw[AB,Bg,fw];omega
     have M4:∀j,(⟨b,off,none⟩:Addr).add j=⟨b,off+j,none⟩:=λj=>by unfold Addr.add;split<;>simp_all
     have Jh:∀(j:Nat) (x:Value),(((us.toList.take cs.length).drop off).take (n*z))[j]?=some x->w.cell? ((⟨b,off,none⟩:Addr).add j)=some x:=λj x hj=>by
      rw[M4,cell_of_row w _ _ us e fr p1];rw[Cj] at hj;split at hj
      .rw[Cp,Cj] at hj;split at hj;.simpa using hj
       .cases hj
      .cases hj
     rw[yf,Om];refine⟨((us.toList.take cs.length).drop off).take (n*z),⟨Ir,λ_=>rfl,run_firstCells_some w _ _ _ _ _ _ Qj Jh,run_firstCells_some w.drew _ _ _ _ _ _ Qj (λj x hj=>Jh j x hj),Qj,λx hx=>c x (Bu (A0 hx))⟩,?_,Qt hl⟩;rw[M5];exact(p2.drop off).take (n*z)
    .cases hp
   .cases hp
  .cases hp
 .cases hp
def On{o:Oper}{c:Call}{t t' e:TypeId}{n b:Nat}{s x:Operand}{v u r:Aa}{Aw:List (List Aa)}{news:List Value}(ho:o.op= .call c)(hc:c.callee= .builtin .append)(h0:c.argTypes[0]?=some t)(h1:c.argTypes[1]?=some t')(Ek:c.args.toList=[s,x])(ht:C.P.underlying t=some (.slice e))
  (Ir:(∃D,C.P.underlying t'=some (.slice D))\/C.P.underlying t'=some .string) (KW:BO C.P e=some (n+1)) (jv:Ju C.P e=some (b+1)) (Fj:KB C Z s=true) (eW:LK C.P e=true) (hv:Bm C Z [s,x]=some [v,u])
  (IM:Dr (n+1) (b+1) v Aw=some r) (JW:Src C.P (n+1) t' (a.eval x) Aw.length news w) (Vi:AW U Aw.flatten news) (mS:∀q∈Aw,q.length=n+1) (hr:CX C U0 w0 U O Z h a w):Ft C U0 w0 o a w ((Z.Dm (C4 Z s)).put o.dst (.BK r)) h:=by
 obtain⟨i,z,hi,hz,aL⟩:=KF eW;have Qh:=Ji KW hi;have Ŝ:=Lj jv hi;obtain⟨_,_,e0,hvs,lQ⟩:=EO hr hv;cases e0;have jr:Ez C Z s=some v:=by
  unfold Bm at hv;split at hv;.rename_i p ps A F;cases hv;exact A
  .cases hv
 obtain⟨U1,Ee,Jq,Gm,J⟩:=OY hr Fj jr (Z.Dm (C4 Z s)).length none;have jw:=AW.mono Ee _ _ Vi;have JU:c.args.map a.eval=#[a.eval s,a.eval x]:=by apply Ge;simp[Ek]
 have Mf:∀v' w',(Builtin.append_ #[t,t'] o.type #[a.eval s,a.eval x]).run C.P w= .ok v' w'->(execOp a.eval o).run C.P w= .ok (.value v') w':=λv' w' AI=>by
  have:execOp a.eval o=(do pure (Next.value (<-Builtin.append_ #[t,t'] o.type #[a.eval s,a.eval x]))):=by rw[<-JU,<-NH (ty:=o.type) h0 h1];simp only[execOp,ho,resolve,hc];rfl
  rw[this];exact De AI
 have JA:Src C.P i.size t' (a.eval x) Aw.length news w:=by rw[Qh];exact JW
 have Qj:news.length=Aw.length*(n+1):=JW.newsLen;have FH:∀(base:Option Addr) (k cap:Nat) (rr:List (List Aa)) (olds:List Value),a.eval s= .slice base k cap->rr.length=k->(∀q∈rr,q.length=n+1)->AW U1 rr.flatten olds->(∀q∈olds,q.oneCell'=true)->
   (Builtin.firstCells i.size k (.slice base k cap)).run C.P w.drew= .ok olds.toArray w.drew->cap<k+Aw.length->(k+Aw.length)*(b+1)<=AO->r= .sl (n+1) (rr++Aw)->
   Ft C U0 w0 o a w ((Z.Dm (C4 Z s)).put o.dst (.BK r)) h:=by
  intro base k cap rr olds hs hk l yh Ř d hlt S6 T9;have S4:k+Aw.length<=AO:=Bp (Il _ (CU b)) S6;have GP:=run_append_grow_src (P:=C.P) w t t' o.type e i z ht hi hz base k cap olds d (a.eval x) Aw.length news JA hlt (by simp only[AO] at S4;omega) (by rw[Ŝ];exact growslice_fits hlt S6);rw[<-hs] at GP;have GX:=grownCap_ge w (k+Aw.length) cap e;have aI5:olds.length=k*(n+1):=by rw[yh.length,He l,hk]
  have zR:(olds++news).length=(k+Aw.length)*(n+1):=by rw[Aq,aI5,Qj,BA]
  obtain⟨M,fX,LP,Qi,f⟩:=Jq.drew.V0 ((olds++news).toArray++Builtin.zeroCells z.cells (grownCap w (k+Aw.length) cap e-(k+Aw.length))) e (z:=n+1) (n:=k+Aw.length) (cap:=grownCap w (k+Aw.length) cap e) (Aw:=rr++Aw) (CU n) (by simp[hk])
   (λq hq=>(Ap.1 hq).elim (l q) (mS q))
   (by simp only[Jo,BZ,size_zeroCells,aL,Qh,zR,<-BA];congr 1;omega) GX (grownCap_le_maxLen w _ _ _ (by simp only[AO] at S4;simp only[maxLen];omega))
   (by simp only[GA,Ko];rw[<-zR,E6];exact yh.append jw)
   (λq hq=>by simp only[GA] at hq;rw[<-zR,E6,Ap] at hq;exact hq.elim (Ř q) (JW.one q))
  rw[T9];obtain⟨L,ŝ⟩:=LP.VZ Qi f o.dst;exact Ft.value (Mf _ _ GP) ŝ
 rcases J with(rfl|⟨m,rfl⟩)|⟨g,k,cap,us,G,m,rr,rfl,I5,S5,hB,hg,YR,yi,hm,I⟩
 .have I5:a.eval s= .slice none 0 0:=Gm;cases Aw with
  |nil=>
   have T9:r= .slnil:=by simpa[Dr] using IM.symm
   have ji:news=[]:=CO (by simpa using Qj);subst ji;have AI:(Builtin.append_ #[t,t'] o.type #[a.eval s,a.eval x]).run C.P w= .ok (.slice none 0 0) w:=by rw[I5];have hl:=JA.len;have Vj:=JA.cells;simp only[Bt] at hl Vj;rcases Ir with⟨D,hk⟩|hk<;>simp[Builtin.append_,run_underlying ht,run_underlying hk,sizeOf,typeInfo,hi,hl,Vj]
   rw[T9];exact Ft.value (Mf _ _ AI) (Jq.put λ_ _=>⟨rfl,.inl (.inl rfl)⟩)
  |cons q Aw=>
   have O0:r= .sl (n+1) (q::Aw)/\(q::Aw).length*(b+1)<=AO:=by
    simp only[Dr] at IM;split at IM;.rename_i hb;cases IM;exact⟨rfl,hb⟩
    .cases IM
   exact FH none 0 0 [] [] I5 rfl Ax rfl Ax (run_firstCells_none _ _ _ _ _) Ax (by simpa using O0.2) (by simpa using O0.1)
 .obtain⟨g,I5⟩:=id Gm;cases Aw with
  |nil=>
   have T9:m=n+1/\r= .H5 m:=by
    simp only[Dr] at IM;split at IM;.rename_i X9;cases IM;exact⟨X9,by rw[X9]⟩
    .cases IM
   obtain⟨rfl,T9⟩:=T9;have ji:news=[]:=CO (by simpa using Qj);subst ji;have AI:(Builtin.append_ #[t,t'] o.type #[a.eval s,a.eval x]).run C.P w= .ok (.slice (some ⟨g,0,none⟩) 0 0) w:=by rw[I5];have hl:=JA.len;have Vj:=JA.cells;simp only[Bt] at hl Vj;rcases Ir with⟨D,hk⟩|hk<;>simp[Builtin.append_,run_underlying ht,run_underlying hk,sizeOf,typeInfo,hi,hl,Vj,storeCells,Result.andThen]
   rw[T9];exact Ft.value (Mf _ _ AI) (Jq.put λ_ _=>⟨⟨g,rfl⟩,.inl (.inr ⟨_,rfl⟩)⟩)
  |cons q Aw=>
   have O0:r= .sl (n+1) (q::Aw)/\(q::Aw).length*(b+1)<=AO:=by
    simp only[Dr] at IM;split at IM;.rename_i hb;cases IM;exact⟨rfl,hb.2⟩
    .cases IM
   exact FH (some ⟨g,0,none⟩) 0 0 [] [] I5 rfl Ax rfl Ax (run_firstCells_some w.drew _ _ _ _ _ [] Ax (λj x hj=>by simp at hj)) Ax (by simpa using O0.2) (by simpa using O0.1)
 .obtain⟨K,H,fZ,OZ,_,hR⟩:=id Gm;rw[I5] at fZ;simp only[Value.slice.injEq,Bx] at fZ;obtain⟨rfl,hk,rfl⟩:=fZ;subst hk;simp only at hR;have B:m=n+1/\r= .sl (n+1) (rr++Aw)/\(Aw=[]\/(rr.length+Aw.length)*(b+1)<=AO):=by
   cases Aw with
   |nil=>
    simp only[Dr] at IM;split at IM;.rename_i X9;cases IM;exact⟨X9,by simp[X9],.inl rfl⟩
    .cases IM
   |cons q Aw=>
    simp only[Dr] at IM;split at IM;.rename_i X9;cases IM;exact⟨X9.1,rfl,.inr X9.2⟩
    .cases IM
  obtain⟨rfl,T9,S6⟩:=B;by_cases hroom:rr.length+Aw.length<=cap
  .have hfit:rr.length*(n+1)+news.length<=us.size:=by rw[Qj,YR,<-BA];exact DV _ hroom
   have AI:=run_append_room_src (P:=C.P) w t t' o.type e i ht hi g 0 rr.length cap (a.eval x) Aw.length news JA hroom (λj hj=>by rw[cell_of_row w _ _ us G (0,0) hg,Qh,Ci Ab];rfl) (λj hj=>frozen_of_row w _ _ us G hg)
   rw[BJ,Qh,Ej news _ us w hg hfit,<-I5] at AI;rw[I5] at Gm;obtain⟨M,fX,LP,Qi,f⟩:=Jq.ju S5 hB hg YR hm (CU n) Gm mS jw JW.one hroom;obtain⟨L,ŝ⟩:=LP.VZ Qi f o.dst;rw[T9];exact Ft.value (Mf _ _ AI) ŝ
  .obtain⟨vs,A,F,E⟩:=hR.values;have M4:∀j,(⟨g,0,none⟩:Addr).add j=⟨g,0+j,none⟩:=λj=>by unfold Addr.add;split<;>simp_all
   refine FH (some ⟨g,0,none⟩) rr.length cap rr vs I5 rfl (λq hq=>?_) A (λq hq=>?_) ?_ Ab ?_ T9;.obtain⟨j,hj⟩:=CD hq;exact(hR.get hj).1
   .obtain⟨j,hj⟩:=CD hq;exact(Jq.DG.HU _ _ _ (E j q hj)).2.1
   .rw[Qh];exact run_firstCells_some w.drew _ _ _ _ _ vs F (λj y hj=>by rw[M4];exact(Jq.DG.HU _ _ _ (E j y hj)).1)
   .rcases S6 with rfl|S6
    .simp at hroom;omega
    .exact S6
def mT{o:Oper}{c:Call}{t t' e:TypeId}{n b:Nat}{s x:Operand}{v u r:Aa}(ho:o.op= .call c)(hc:c.callee= .builtin .append)(h0:c.argTypes[0]?=some t)(h1:c.argTypes[1]?=some t')(Ek:c.args.toList=[s,x])(ht:C.P.underlying t=some (.slice e))
  (Ir:(∃d,C.P.underlying t'=some (.slice d))\/C.P.underlying t'=some .string) (KW:BO C.P e=some (n+1)) (jv:Ju C.P e=some (b+1)) (Fj:KB C Z s=true) (eW:LK C.P e=true) (hv:Bm C Z [s,x]=some [v,u])
  (hp:Az (.append (n+1) (b+1)) [v,u]=some r) (hr:CX C U0 w0 U O Z h a w):Ft C U0 w0 o a w ((Z.Dm (C4 Z s)).put o.dst (.BK r)) h:=by
 obtain⟨_,_,e0,hvs,lQ⟩:=EO hr hv;cases e0;simp only[Az] at hp;obtain⟨Aw,news,IM,JW,Vi,mS⟩:=rS (w:=w) Ir hr.DG lQ hp;exact On ho hc h0 h1 Ek ht Ir KW jv Fj eW hv IM JW Vi mS hr
def gA{o:Oper}{c:Call}{t t' e:TypeId}{n b:Nat}{s x:Operand}{v u r:Aa}(ho:o.op= .call c)(hc:c.callee= .builtin .append)(h0:c.argTypes[0]?=some t)(h1:c.argTypes[1]?=some t')(Ek:c.args.toList=[s,x])(ht:C.P.underlying t=some (.slice e))
  (Ir:(∃d,C.P.underlying t'=some (.slice d))\/C.P.underlying t'=some .string) (KW:BO C.P e=some (n+1)) (jv:Ju C.P e=some (b+1)) (Fj:KB C Z s=true) (eW:LK C.P e=true) (hv:Bm C Z [s,x]=some [v,u])
  (hp:Qr h (n+1) (b+1) v u=some r) (hr:CX C U0 w0 U O Z h a w):Ft C U0 w0 o a w ((Z.Dm (C4 Z s)).put o.dst (.BK r)) h:=by
 obtain⟨_,_,e0,hvs,lQ⟩:=EO hr hv;cases e0;unfold Qr at hp;cases hq:Ha h (n+1) u with
 |none=>rw[hq] at hp;cases hp
 |some Aw=>rw[hq] at hp;obtain⟨news,JW,Vi,mS⟩:=V6 (w:=w) Ir hr.DG lQ hq;exact On ho hc h0 h1 Ek ht Ir KW jv Fj eW hv hp JW Vi mS hr
end
section
variable{C:Fv}{γ0 γ γ':Gh}{w0 w w':World}{Z:Nat->Nat}{U:BG}{h:Ai}{a:Act}{fid:FuncId}{ops:List Oper}
def RR:∀s:Ah,(CY s).flatten=s.map λb=>Aa.int .u8 b.toNat
 |[]=>rfl
 |_::s=>by have:=RR s;simp only[CY,A9,CH] at this⊢;rw[this];rfl
def LQ(γ:Gh):∀l:Ah,AW γ (CY l).flatten (l.map λb=>Value.int .u8 b.toNat)
 |[]=>rfl
 |_::l=>⟨_,_,rfl,rfl,LQ γ l⟩
def Ku(s:Ah)(cap:Nat):(bytesRow ⟨⟨s⟩⟩ cap).toList.take s.length=s.map λb=>Value.int .u8 b.toNat:=by have:(s.map λb=>Value.int .u8 (b.toNat:Int)).length=s.length:=Ax;simp only[bytesRow,GA,MW];rw[<-this];exact E6
def aO(s:Ah):(⟨⟨s⟩⟩:ByteArray).size=s.length:=by simp[ByteArray.size]
def yj{o:Oper}{src dst e:TypeId}{x:Operand}{v u:Aa}(ho:o.op= .convert src dst x)(hs:C.P.underlying src=some .string)(hd:C.P.underlying dst=some (.slice e))(he:C.P.underlying e=some (.int .u8))(hx:Bm C U [x]=some [v])(hp:Az .s2b [v]=some u)(hr:CX C γ0 w0 γ Z U h a w):
  Ft C γ0 w0 o a w (U.put o.dst (.val u)) h:=by
 obtain⟨_,e0,hv⟩:=Gn hr hx;cases e0;simp only[Az] at hp;split at hp
 .rename_i s JU;cases JU;split at hp
  .cases hp;have AI:=run_bytes_of_string (P:=C.P) w src dst e ⟨⟨s⟩⟩ hs hd he;rw[<-NA hv] at AI;have Đ:=grownCap_ge w s.length 0 e;rw[aO] at AI;obtain⟨hi,ha⟩:=OS hr.drew.DG (bytesRow ⟨⟨s⟩⟩ (grownCap w s.length 0 e)) e ((bytesRow ⟨⟨s⟩⟩ (grownCap w s.length 0 e)).size,(bytesRow ⟨⟨s⟩⟩ (grownCap w s.length 0 e)).size+1) s.length none (λo u ho hu=>by have hm:u∈(bytesRow ⟨⟨s⟩⟩ (grownCap w s.length 0 e)).toList.take s.length:=Ct (i:=o) (by rw[CM ho];simpa using hu);rw[Ku] at hm;obtain⟨b,_,rfl⟩:=A4.1 hm;rfl) (.inl rfl)
   have Hh:=hr.drew.IA hi ha;refine Ft.value (v:= .slice (some ⟨w.heap.size,0,none⟩) s.length (grownCap w s.length 0 e)) (by simp only[execOp,ho];exact De AI) (Hh.put λ_ _=>⟨⟨w.heap.size,0,none⟩,grownCap w s.length 0 e,by simp[CY],by simpa[CY] using Đ,.inl rfl,?_⟩);refine NG (us:=s.map λb=>Value.int .u8 b.toNat) (λr hr=>?_) (LQ _ s) (λj u hj=>?_);.obtain⟨b,_,rfl⟩:=A4.1 hr;rfl
   .rw[<-Ku s (grownCap w s.length 0 e),Cj] at hj;split at hj;.rename_i hlt;simp only[Gh.C6,heap_drew,BE,BJ,Af hlt];simpa using hj
    .cases hj
  .cases hp
 .cases hp
def aP{o:Oper}{src dst e:TypeId}{x:Operand}{v u:Aa}{h':Ai}(ho:o.op= .convert src dst x)(hs:C.P.underlying src=some .string)(hd:C.P.underlying dst=some (.slice e))(he:C.P.underlying e=some (.int .u8))(hx:Ez C U x=some v)(hp:Ip h v=some (h',u))(hr:CX C γ0 w0 γ Z U h a w):
  Ft C γ0 w0 o a w (U.put o.dst (.val u)) h':=by
 have hv:=Gg hr hx;unfold Ip at hp;split at hp
 .rename_i s;split at hp
  .cases hp;have AI:=run_bytes_of_string (P:=C.P) w src dst e ⟨⟨s⟩⟩ hs hd he;rw[<-NA hv] at AI;have Đ:=grownCap_ge w s.length 0 e;rw[aO] at AI;have hl:(s.map λb=>Aa.int .u8 b.toNat).length=s.length:=Ax;have c:(bytesRow ⟨⟨s⟩⟩ (grownCap w s.length 0 e)).size=grownCap w s.length 0 e:=by have e0:ByteArray.size ⟨⟨s⟩⟩=s.length:=aO s;simp only[bytesRow,Jo,Array.size_map,Array.size_replicate,e0];simp only[BZ];omega
   have lR:s.length<=maxLen:=by
    have lR:s.length<=AO:=by assumption
    simp only[AO] at lR;simp only[maxLen];omega
   obtain⟨γ',Ee,hm,Hh,KW⟩:=hr.drew.newObj (bytesRow ⟨⟨s⟩⟩ (grownCap w s.length 0 e)) e ((bytesRow ⟨⟨s⟩⟩ (grownCap w s.length 0 e)).size,(bytesRow ⟨⟨s⟩⟩ (grownCap w s.length 0 e)).size+1) (s.map λb=>Aa.int .u8 b.toNat) (.inr (Ae _))
    (by rw[hl,Ku];have:=LQ γ s;rw[RR] at this;exact this)
    (λu hu=>by rw[hl,Ku] at hu;obtain⟨b,_,rfl⟩:=A4.1 hu;rfl)
   exact Ft.value (v:= .slice (some ⟨w.heap.size,0,none⟩) s.length (grownCap w s.length 0 e)) (by simp only[execOp,ho];exact De AI) (Hh.put λ_ _=>⟨w.heap.size,_,hm,rfl,Đ,⟨CU 0,grownCap_le_maxLen w _ _ _ lR⟩,by rw[BJ,FW,<-c];exact KW⟩)
  .cases hp
 .cases hp
def HL{O:Type}(l:List O):∀(c j:Nat),j<c*l.length->(List.replicate c l).flatten[j]?=l[j%l.length]?
 |0,j,h=>by simp at h
 |c+1,j,h=>by
  have h':j<c*l.length+l.length:=by rw[BA] at h;omega
  rw[Kp,CH];by_cases hj:j<l.length;.rw[An hj,Nat.mod_eq_of_lt hj]
  .rw[BI Ab,HL l c _ Ab,show j%l.length=(j-l.length)%l.length from Nat.mod_eq_sub_mod Ab]
def jx{o:Oper}{t e:TypeId}{l c:Operand}{n b:Nat}{z:Aa}{y vc u:Aa}{h':Ai}(ho:o.op= .makeSlice t l c)(ht:C.P.underlying t=some (.slice e))(KW:BO C.P e=some (n+1))(jv:Ju C.P e=some (b+1))(hz:GD C.P e=some z)(hl:Ez C U l=some y)(hc:Ez C U c=some vc)
  (hm:RB h (n+1) (b+1) z.cells y vc=some (h',u)) (hr:CX C γ0 w0 γ Z U h a w):Ft C γ0 w0 o a w (U.put o.dst (.val u)) h':=by
 unfold RB at hm;split at hm
 .rename_i k m;split at hm
  .rename_i Hz;obtain⟨H,G,F,v⟩:=Hz;cases hm;unfold GD at hz;cases hi:C.P.info? e with
   |none=>rw[hi] at hz;cases hz
   |some i=>
    rw[hi] at hz;cases fy:i.zero with
    |none=>simp[fy] at hz
    |some f=>
     simp only[Cm,fy] at hz;have Qh:=Ji KW hi;have Ŝ:=Lj jv hi;obtain⟨A,D⟩:=Hc (γ:=γ) (E1 hz) Ab;have aL:f.cells.size=n+1:=by have:=A.length;simp at this;omega
     have đ:m.toNat*(b+1)<=AO:=F;have g:m.toNat<=AO:=Bp (Il m.toNat (CU b)) đ;have AI:=run_make (P:=C.P) w t e i f ht hi fy .i64 .i64 k m H G (by
      rw[Ŝ];have E:((b+1:Nat):Int)*m=((m.toNat*(b+1):Nat):Int):=by rw[Int.natCast_mul,HX Ab,Int.mul_comm]
      rw[E];simp only[AO] at đ;omega) (by simp only[AO] at g;omega)
     rw[<-D7 (Gg hr hl),<-D7 (Gg hr hc)] at AI;have hlen:((List.replicate m.toNat z.cells).flatten).length=m.toNat*(n+1):=by rw[He (z:=n+1) (λr hr=>by rw[ā hr,v]),Fs]
     have p:∀(j:Nat) (u:Value),(madeCells f.cells (m.toNat*i.size)).toList[j]?=some u->j<m.toNat*(n+1)/\f.cells.toList[j%(n+1)]?=some u:=by
      intro j u hj;have Y4:j<m.toNat*(n+1):=by have:=(Aj.1 hj).1;simpa[size_madeCells,Qh] using this
      refine⟨Y4,?_⟩;have Ş:j%(n+1)<f.cells.size:=by rw[aL];exact Nat.mod_lt _ (CU n)
      simp only[madeCells,MW,Cd] at hj;have d:(Array.range (m.toNat*i.size)).toList[j]?=some j:=by simp[Qh,Y4]
      rw[d] at hj;simp only[By,Bx] at hj;rw[aL] at hj;rw[<-hj];simp[Ş]
     have B:AW γ (List.replicate m.toNat z.cells).flatten (madeCells f.cells (m.toNat*i.size)).toList:=by refine AW.GF (by simp[hlen,size_madeCells,Qh]) λj x u hx hu=>?_;obtain⟨Y4,s⟩:=p j u hu;rw[HL z.cells _ _ (by rw[v];exact Y4),v] at hx;obtain⟨I,zG,ř⟩:=A.get hx;rw[s] at zG;cases zG;exact ř
     obtain⟨γ',Ee,q,Hh,aI8⟩:=hr.newObj (madeCells f.cells (m.toNat*i.size)) e (0,0) (List.replicate m.toNat z.cells).flatten (.inl rfl) (B.yg (by rw[B.length];exact Ae _)) (λu hu=>by obtain⟨j,hj⟩:=CD (A0 hu);exact D u (Ct (p j u hj).2))
     exact Ft.value (by simp only[execOp,ho];exact De AI) (Hh.put λ_ _=>⟨w.heap.size,m.toNat,q,rfl,Ab,⟨CU n,by simp only[AO] at g;simp only[maxLen];omega⟩,by rw[aI8,size_madeCells,Qh,BJ]⟩)
  .cases hm
 .cases hm
def CX.aEs(hr:CX C γ0 w0 γ Z U h a w){g:Nat}(Fj:γ.BK g=some (.tail U.length none 0))(hB:w0.heap.size<=g){us:Array Value}{e:TypeId}(hg:w.heap[g]?=some (.cells us e (0,0)))(Dk:Array Value)(cs:List Aa)
  (hv:AW γ cs (Dk.toList.take cs.length)) (h1:∀u∈Dk.toList.take cs.length,u.oneCell'=true):∃γ',γ.le γ'/\γ'.mu h.length=some g/\CX C γ0 w0 γ' Z U (h++[.cells cs]) a (w.setRow g Dk)/\γ'.sz g=some Dk.size:=by
 have c:γ.mu h.length=none:=by
  cases hc:γ.mu h.length with
  |none=>rfl
  |some y=>exact absurd (hr.DG.mu _ y hc) (Dc _)
 have KW:γ.sz g=none:=by
  cases hc:γ.sz g with
  |none=>rfl
  |some y=>obtain⟨_,r⟩:=hr.DG.sz g y hc;rw[Fj] at r;rcases r with r|⟨_,r⟩<;>cases r
 have Ee:γ.le (γ.BY g h.length (some Dk.size)):=⟨λ_ _ _ hv=>hv,λid b hm=>by
  have:id≠h.length:=λhe=>by rw[he,c] at hm;cases hm
  simp only[Gh.BY,Ad this];exact hm,λb n hm=>by
  have:b≠g:=λhe=>by rw[he,KW] at hm;cases hm
  simp only[Gh.BY,Ad this];exact hm⟩
 have Ś:∀b n,(γ.BY g h.length (some Dk.size)).sz b=some n->(∃us e fr,(w.setRow g Dk).heap[b]?=some (.cells us e fr)/\us.size=n)/\((γ.BY g h.length (some Dk.size)).BK b=none\/∃id,(γ.BY g h.length (some Dk.size)).BK b=some (.Md id)):=λb n hb=>by
  by_cases he:b=g;.subst he;simp only[Gh.BY,BE] at hb;cases hb;exact⟨⟨Dk,e,(0,0),setRow_heap w b us Dk e (0,0) hg,rfl⟩,.inr ⟨h.length,by simp[Gh.BY]⟩⟩
  .simp only[Gh.BY,Ad he] at hb⊢;obtain⟨p,r⟩:=hr.DG.sz b n hb;exact⟨by rw[setRow_other w g b Dk he];exact p,r⟩
 have hne:∀b id,γ.BK b=some (.Md id)->b≠g:=λb id hb he=>by rw[he,Fj] at hb;cases hb
 have hk:PT g γ w (γ.BY g h.length (some Dk.size)) (w.setRow g Dk):=⟨Ee,λb x hb hx _=>⟨by simp only[Gh.BY,Ad hb];exact hx,setRow_other w g b Dk hb⟩⟩;refine⟨_,Ee,by simp[Gh.BY],⟨⟨λb o v hb=>?_,λid y HV hy=>?_,λid GB hc b hb=>?_,λid es hc b hb=>?_,λid b hb=>?_,λb y hy=>?_,Ś⟩,⟨hr.fr.size,λs=>?_⟩,hr.DA.write (g:=g) hB Ee Ax rfl rfl rfl (λb hb=>⟨setRow_other w g b Dk hb,by simp only[Gh.BY,Ad hb]⟩),hr.defers,λx GB hx=>CQ.mono Ee _ _ _ (hr.GC x GB hx)⟩,by simp[Gh.BY]⟩
 .obtain⟨p,q,r⟩:=hr.DG.HU b o v hb;have Nx:b≠g:=λhe=>by
   subst he;rw[Fj] at r;rcases r with r|⟨_,_,_,r,hl⟩
   .cases r
   .cases r;omega
  exact⟨by rw[CF (setRow_other w g b Dk Nx)];exact p,q,by simp only[Gh.BY,Ad Nx];exact r⟩
 .by_cases he:id=h.length;.exact⟨g,by simp[Gh.BY,he],by simp[Gh.BY,he]⟩
  .have VQ:id<h.length:=by rw[Aj] at HV;obtain⟨hl,_⟩:=HV;simp at hl;omega
   rw[An VQ] at HV;obtain⟨b,p,q⟩:=hr.DG.Md id y HV hy;exact⟨b,by simp only[Gh.BY,Ad he];exact p,by simp only[Gh.BY,Ad (hne b id q)];exact q⟩
 .by_cases he:id=h.length;.subst he;simp[Gh.BY] at hb;subst hb;simp at hc;subst hc;exact⟨Dk,e,(0,0),setRow_heap w g us Dk e (0,0) hg,.inl rfl,AW.mono Ee _ _ hv,h1⟩
  .simp only[Gh.BY,Ad he] at hb;have VQ:=hr.DG.mu id b hb;rw[An VQ] at hc;obtain⟨b',p1,p2⟩:=hr.DG.Md id _ hc Ax;rw[hb] at p1;cases p1;obtain⟨lO,d,jg,p,pf,q,r⟩:=hr.DG.cells id GB hc b hb;exact⟨lO,d,jg,by rw[setRow_other w g b Dk (hne b id p2)];exact p,pf,AW.mono Ee _ _ q,r⟩
 .by_cases he:id=h.length;.subst he;simp at hc
  .simp only[Gh.BY,Ad he] at hb;have VQ:=hr.DG.mu id b hb;rw[An VQ] at hc;obtain⟨b',p1,p2⟩:=hr.DG.Md id _ hc Ax;rw[hb] at p1;cases p1;obtain⟨C7,clock,p,q⟩:=hr.DG.map id es hc b hb;exact⟨C7,clock,by rw[setRow_other w g b Dk (hne b id p2)];exact p,q.mono Ee⟩
 .by_cases he:id=h.length;.simp[he]
  .simp only[Gh.BY,Ad he] at hb;have:=hr.DG.mu id b hb;simp;omega
 .by_cases Nx:b=g;.subst Nx;have:=hr.DG.BK _ _ Fj;simpa using this
  .simp only[Gh.BY,Ad Nx] at hy;have:=hr.DG.BK b y hy;simpa using this
 .by_cases hs:s=U.length;.subst hs;rw[BG.Tk];trivial
  .exact(hr.fr.HR s).keptBut Fj hk (by simp only[J3.mA];intro hx;cases hx;exact hs rfl)
def CX.UI(hr:CX C γ0 w0 γ Z U h a w){v v':Aa}{u:Value}{h':Ai}(hv:BF γ v u)(hf:Li h v=some (h',v')):∃γ',γ.le γ'/\CX C γ0 w0 γ' Z U h' a w/\BF γ' v' u:=by
 unfold Li at hf;split at hf
 .rename_i id off n z;obtain⟨b,cap,hb,hu,hc,hz,KW⟩:=hv;split at hf
  .rename_i cs hcs;split at hf
   .rename_i hl;cases hf;obtain⟨us,e,fr,p1,pf,p2,m⟩:=hr.DG.cells id cs hcs b hb;obtain⟨hi,ha⟩:=jh hr.DG hcs hb p1 m;have mS:∀(k o:Nat),(Cr cs z o k).length=k:=by
     intro k;induction k with
     |zero=>intro o;rfl
     |succ k ih=>intro o;simp[Cr,ih]
    have d:∀(k o i:Nat) (r:List Aa),(Cr cs z o k)[i]?=some r->i<k/\r=(cs.drop (o+i*z)).take z:=by
     intro k;induction k with
     |zero=>intro o i r h;simp[Cr] at h
     |succ k ih=>
      intro o i r h;cases i with
      |zero=>simp[Cr] at h;exact⟨CU _,by simpa using h.symm⟩
      |succ i=>simp[Cr] at h;obtain⟨l,g⟩:=ih _ _ _ h;exact⟨Ab,by rw[g];congr 2;rw[BA];omega⟩
    refine⟨_,ha.le,hr.IA hi ha,⟨b,off,none⟩,cap,by rw[mS];exact hu,by rw[mS];exact hc,.inl rfl,EA.GF λi r f=>?_⟩;obtain⟨l,rfl⟩:=d n off i r f;have q:i*z+z<=n*z:=by have:=DV z (Ab:i+1<=n);rwa [BA,Ed] at this
    refine⟨Ei,CQ.GF λj x hj=>?_⟩;rw[Cj] at hj;split at hj;.rename_i p;rw[Cp] at hj;obtain⟨y,hy,c⟩:=p2.get hj;have hlt:off+i*z+j<cs.length:=(Aj.1 hj).1;refine⟨y,?_,BF.mono ha.le _ _ c⟩;simp only[Gh.C6,BE,Af hlt];rw[CM hlt] at hy;simpa using hy
    .cases hj
   .cases hf
  .cases hf
 .cases hf;exact⟨γ,.refl _,hr,hv⟩
def RS:∀{Aw:List (List Aa)} {s:Ah},Mk Aw=some s->∃ns:List Int,Aw=ns.map (λn=>[.int .u8 n])/\s=ns.map λn=>UInt8.ofNat n.toNat
 |[],s,hs=>by cases hs;exact⟨[],rfl,rfl⟩
 |r::Aw,s,hs=>by
  unfold Mk at hs;split at hs;.rename_i JU;cases JU
  .rename_i n rs JU;cases JU;cases hq:Mk Aw with
   |none=>rw[hq] at hs;cases hs
   |some l=>rw[hq] at hs;cases hs;obtain⟨ns,rfl,rfl⟩:=RS hq;exact⟨n::ns,rfl,rfl⟩
  .cases hs
def V8:∀(ns:List Int) (r:ByteArray),ns.foldl (λr n=>r.push (UInt8.ofNat n.toNat)) r=⟨r.data++(ns.map λn=>UInt8.ofNat n.toNat).toArray⟩
 |[],r=>Ax
 |n::ns,r=>by rw[fk,V8 ns];simp[ByteArray.push]
def yk{o:Oper}{src dst e:TypeId}{x:Operand}{v v' u:Aa}{h':Ai}(ho:o.op= .convert src dst x)(hs:C.P.underlying src=some (.slice e))(hd:C.P.underlying dst=some .string)(he:C.P.underlying e=some (.int .u8))(hx:Ez C U x=some v)(hf:Li h v=some (h',v'))(hp:Az .X8 [v']=some u)
  (hr:CX C γ0 w0 γ Z U h a w):Ft C γ0 w0 o a w (U.put o.dst (.val u)) h':=by
 obtain⟨γ',Ee,Hh,Gm⟩:=hr.UI (Gg hr hx) hf;have Mf:∀s,(Conv.bytesToString (a.eval x)).run C.P w= .ok s w->(∃p l c,a.eval x= .slice p l c)->(execOp a.eval o).run C.P w= .ok (.value s) w:=λs AI ⟨p,l,c,lR⟩=>by simp only[execOp,ho];refine De ?_;rw[lR] at AI⊢;rw[run_convert_bytes_string w src dst e p l c hs he hd];exact AI
 simp only[Az] at hp;unfold Z7 at hp;split at hp
 .rename_i Aw;cases hq:Mk Aw with
  |none=>rw[hq] at hp;cases hp
  |some s=>
   rw[hq] at hp;cases hp;obtain⟨ns,rfl,rfl⟩:=RS hq;obtain⟨d,cap,lR,hc,hsp,hR⟩:=Gm;have M4:∀(j:Nat) (v:Value),(ns.map (Value.int .u8))[j]?=some v->d.add j=⟨d.block,d.off+j,none⟩:=λj v hj=>by
    have hpos:0<ns.length:=by have:=(Aj.1 hj).1;simp at this;omega
    have mJ:=Nv hsp hc (by simpa using hpos);generalize d.block=b at*;generalize d.off=o at*;subst mJ;unfold Addr.add;split<;>simp_all
   have hl:=run_loadCells_list (P:=C.P) w d (ns.map (Value.int .u8)) (λj v hj=>by
    rw[M4 j v hj];simp only[Cd] at hj;cases hn:ns[j]? with
    |none=>rw[hn] at hj;cases hj
    |some n=>rw[hn] at hj;cases hj;obtain⟨_,m⟩:=hR.get (i:=j) (r:=[.int .u8 n]) (by simp[hn]);obtain⟨y,hy,g⟩:=m.get (i:=0) (a:= .int .u8 n) rfl;rw[show y=_ from g] at hy;have:=(Hh.DG.HU _ _ _ hy).1;simpa using this)
   simp only[Av] at hl;have AI:=run_bytesToString (P:=C.P) w d ns.length cap ns hl;have k:ByteArray.empty.data=#[]:=rfl;rw[V8,k,Array.empty_append] at AI;have f:a.eval x= .slice (some d) ns.length cap:=by rw[lR];simp
   rw[<-f] at AI;exact Ft.value (Mf _ AI ⟨_,_,_,f⟩) (Hh.put λ_ _=>rfl)
 .cases hp;have f:a.eval x= .slice none 0 0:=Gm;have AI:(Conv.bytesToString (a.eval x)).run C.P w= .ok (.string ⟨⟨[]⟩⟩) w:=by rw[f];simp[Conv.bytesToString];rfl
  exact Ft.value (Mf _ AI ⟨_,_,_,f⟩) (Hh.put λ_ _=>rfl)
 .cases hp
def jy(C:Fv)(f:FuncId):Prop:=
 (∃fn c,C.P.funcs[f]?=some fn/\(fn.name== "runtime.NumGoroutine")=false/\fn.body=some c)/\
 ∀(γ:Gh) (h:Ai) (w:World) (s:Aa) (d:Value) (i x:Int) (h':Ai) (r:Aa) (g b:Nat) (us:Array Value) (e:TypeId),Hj γ h w->BF γ s d->PQ h [s,.int .i64 i,.sl 1 [[.int .i64 x]]]=some (h',r)->
  w.heap[g]?=some (.cells us e (0,0))->us[0]?=some (.int .i64 x)->(∀id,γ.BK g≠some (.Md id))->1<=b->us.size=b->
  Calls C.P f #[d,.int .i64 i,.slice (some ⟨g,0,none⟩) 1 b] w λe w'=>match e with
   | .returned v=>∃γ',Hj γ' h' w'/\Lx γ w γ' w'/\BF γ' r v
   |_=>False
def EP(C:Fv)(run:IT->Ai->Option Jp):Prop:=
 ((∀g cs,C.GC g=some cs->cs.all Aa.Me=true)/\∀f,C.MI f=true->jy C f)/\
 ∀(f:FuncId) (args:List Aa) (h:Ai) (r:Aa) (h':Ai),run (B4 C f args) h=some (.ret,[r],h')->
  (∃fn c,C.P.funcs[Ea f]?=some fn/\(fn.name== "runtime.NumGoroutine")=false/\fn.body=some c)/\
  ∀(γ:Gh) (w:World) (cargs:Array Value),Hj γ h w->(∀g cs,C.GC g=some cs->CQ γ cs g 0)->AW γ args cargs.toList->
   Calls C.P (Ea f) cargs w λe w'=>match e with
    | .returned v=>∃γ',Hj γ' h' w'/\Lx γ w γ' w'/\BF γ' r v/\(C.I3 f=true->∃s c,IE γ' w.heap.size w' s c v r)
    |_=>False
def CX.ş(hr:CX C γ0 w0 γ Z U h a w){h':Ai}{r:Aa}{v:Value}(hi:Hj γ' h' w')(ha:Lx γ w γ' w')(hv:BF γ' r v){BK:Bool}(ho:BK=true->∃s c,IE γ' w.heap.size w' s c v r)(d:Option Nat):
  ∃f,CX C γ0 w0 f Z (U.put d (if BK then .BK r else .val r)) h' (a.put d v) w':=by
 cases BK with
 |false=>exact⟨γ',(hr.IA hi ha).put λ_ _=>hv⟩
 |true=>
  obtain⟨s,c,i⟩:=ho rfl;rcases i with i|⟨g,n,cap,us,e,z,Aw,rfl,h2,l,k,j⟩
  .exact⟨γ',(hr.IA hi ha).put λ_ _=>⟨hv,.inl i⟩⟩
  .have ŗ:Lx γ w (γ'.Fp g (.tail U.length none (n*z))) w':=⟨ha.le.trans (Hb _ _ _),ha.size,ha.os,ha.tape,ha.output,λb hb hn=>by obtain⟨p,q⟩:=ha.Nw b hb hn;exact⟨p,by simp only[Gh.Fp,Ad (Ab:b≠g)];exact q⟩⟩
   have Hh:=hr.IA (hi.Fp (s':=U.length) (c':=none) l) ŗ;exact Hh.VZ (BF.mono (Hb _ _ _) _ _ hv) (.inr ⟨g,n,cap,us,e,z,Aw,rfl,h2,by simp[Gh.Fp],Bp hr.DA.size k,j⟩) d
def HS{P:Program}{f:FuncId}{fn:Func}{c:Code}(hf:P.funcs[f]?=some fn)(hname:(fn.name== "runtime.NumGoroutine")=false)(hb:fn.body=some c)(args:Array Value)(w:World):
  (callFunc f args).run P w= .ok (.enter f args) w:=by
 have hn:¬fn.name= "runtime.NumGoroutine":=by simpa using hname
 simp[callFunc,hf,hn,hb]
def RT{o:Oper}{f:FuncId}{cargs:Array Value}{K:Act->World->Prop}{Q:Exit->Act->World->Prop}(he:(execOp a.eval o).run C.P w= .ok (.enter f cargs) w){R:Value->World->Prop}
  (hc:Calls C.P f cargs w λe w'=>match e with| .returned v=>R v w'|_=>False) (hk:∀v w',R v w'->K (a.put o.dst v) w'):o.wp C.P a w K Q:=by
 unfold Oper.wp;rw[he];refine hc.mono λe w' h=>?_;cases e with
 |returned v=>exact hk v w' h
 |_=>exact h.elim
def jz{run:IT->Ai->Option Jp}(g:EP C run){o:Oper}{c:Call}{f:FuncId}{args:List Aa}{r:Aa}{h':Ai}{K:Act->World->Prop}{Q:Exit->Act->World->Prop}(ho:o.op= .call c)(hcl:c.callee= .value (.func (Ea f)))(ha:Bm C U c.args.toList=some args)
  (AI:run (B4 C f args) h=some (.ret,[r],h')) (hr:CX C γ0 w0 γ Z U h a w) (i:∀γ' v w',CX C γ0 w0 γ' Z (U.put o.dst (if C.I3 f then .BK r else .val r)) h' (a.put o.dst v) w'->K (a.put o.dst v) w'):o.wp C.P a w K Q:=by
 obtain⟨⟨fn,j,hf,hname,hb⟩,d⟩:=g.2 f args h r h' AI;have b:AW γ args (c.args.map a.eval).toList:=by simpa using DB hr ha
 refine RT (f:=Ea f) (cargs:=c.args.map a.eval) ?_ (d γ w _ hr.DG hr.GC b) λv w' ⟨γ',hi,JB,hv,Fj⟩=>?_;.have h0:a.eval (.func (Ea f))= .func (.func (Ea f)) #[] #[]:=rfl;simp only[execOp,ho,resolve,hcl,Deferred.ofValue,h0,Sem.run_bind,Sem.run_pure,Result.andThen_ok,invoke];simpa using HS hf hname hb (c.args.map a.eval) w
 .obtain⟨e,LP⟩:=hr.ş hi JB hv Fj o.dst;exact i e v w' LP
def yl{run:IT->Ai->Option Jp}(I:EP C run){o:Oper}{c:Call}{f:FuncId}{s i x:Operand}{args:List Aa}{r:Aa}{h':Ai}{K:Act->World->Prop}{Q:Exit->Act->World->Prop}(ho:o.op= .call c)(hcl:c.callee= .value (.func f))(hf:C.MI f=true)(Ek:c.args.toList=[s,i,x])(Fj:KB C U x=true)
  (ha:Bm C U [s,i,x]=some args) (hp:PQ h args=some (h',r)) (hr:CX C γ0 w0 γ Z U h a w) (J:∀γ' v w',CX C γ0 w0 γ' Z (U.put o.dst (.val r)) h' (a.put o.dst v) w'->K (a.put o.dst v) w'):o.wp C.P a w K Q:=by
 obtain⟨⟨fn,W,j_,hname,hb⟩,ym⟩:=I.1.2 f hf;have mU:=DB hr ha;obtain⟨t,Š,f1,g1,f2⟩:∃t Š,[a.eval s,a.eval i,a.eval x]=t::Š/\BF γ (args.getD 0 .nilIface) t/\True:=by
  cases args with
  |nil=>cases mU
  |cons y l=>obtain⟨u,us,e,p,q⟩:=mU;exact⟨u,us,e,p,trivial⟩
 obtain⟨s',d,x',he,k,D,B⟩:∃s' d x',args=[s',.int .i64 d,.sl 1 [[.int .i64 x']]]/\∃(k:BF γ s' (a.eval s)) (D:a.eval i= .int .i64 d),BF γ (.sl 1 [[.int .i64 x']]) (a.eval x):=by
  unfold PQ at hp;split at hp;.obtain⟨_,_,_,e,p1,p2,A⟩:=mU.YW;simp only[A9,Dw,Ex,Mb] at e;obtain⟨rfl,rfl,rfl⟩:=e;exact⟨_,_,_,rfl,p1,p2,A⟩
  .obtain⟨_,_,_,e,p1,p2,A⟩:=mU.YW;simp only[A9,Dw,Ex,Mb] at e;obtain⟨rfl,rfl,rfl⟩:=e;exact⟨_,_,_,rfl,p1,p2,A⟩
  .cases hp
 subst he;have lQ:Ez C U x=some (.sl 1 [[.int .i64 x']]):=by simp only[Bm] at ha;cases h1:Ez C U s<;>cases h2:Ez C U i<;>cases F:Ez C U x<;>simp_all
 obtain⟨sl,lR⟩:∃sl,DL C U x=some sl:=by
  unfold KB at Fj;cases hs:DL C U x with
  |none=>rw[hs] at Fj;cases Fj
  |some sl=>exact⟨sl,rfl⟩
 have aI9:∃v,sl= .BK v:=by unfold KB at Fj;rw[lR] at Fj;cases sl<;>first|exact⟨_,rfl⟩|cases Fj
 obtain⟨v,rfl⟩:=aI9;obtain⟨s0,hrel,_⟩:=FO hr lR;have aJa:v= .sl 1 [[.int .i64 x']]:=by simp only[Ez,lR,Cm,D0.GZ,Bx] at lQ;exact lQ
 subst aJa;obtain⟨rR,j⟩:=hrel;rcases j with(j|⟨_,j⟩)|⟨g,n,cap,us,e,z,Aw,h1,h2,F,S,E,M,L,R,O⟩
 .cases j
 .cases j
 .cases h1;obtain⟨X,H,G,V,T,N⟩:=B;rw[h2] at G;cases G;obtain⟨_,hm,_⟩:=N;obtain⟨⟨u,hu,hru⟩,_⟩:=hm;obtain⟨Jh,_,_⟩:=hr.DG.HU _ _ _ hu;have YR:us[0]?=some (.int .i64 x'):=by rw[cell_of_row w _ _ us e (0,0) E] at Jh;rw[Jh];exact B2 some hru
  have b:c.args.map a.eval=#[a.eval s,.int .i64 d,.slice (some ⟨g,0,none⟩) 1 cap]:=by apply Ge;simp only[MW,Ek,A9,Dw,D,h2];rfl
  have Vj:=ym γ h w s' _ d x' h' r g cap us e hr.DG k hp E YR (λid HV=>by rw[F] at HV;cases HV) L (by rw[M,FW]);rw[<-b] at Vj;refine RT (f:=f) (cargs:=c.args.map a.eval) ?_ Vj λv w' ⟨γ',hi,JB,hv⟩=>?_;.have h0:a.eval (.func f)= .func (.func f) #[] #[]:=rfl;simp only[execOp,ho,resolve,hcl,Deferred.ofValue,h0,Sem.run_bind,Sem.run_pure,Result.andThen_ok,invoke];simpa using HS j_ hname hb (c.args.map a.eval) w
  .obtain⟨m,LP⟩:=hr.ş (BK:=false) hi JB hv (λe=>by cases e) o.dst;exact J m v w' (by simpa using LP)
def Gh.apart(γ:Gh):Gh:={HU:=γ.HU,mu:=λ_=>none,BK:=λb=>match γ.BK b with|some (.Md _)=>none|x=>x,sz:=γ.sz}
def Hj.apart(hi:Hj γ h w):Hj γ.apart [] w:=by
 refine⟨λb o v hb=>?_,λid x hx=>by simp at hx,λid cs hx=>by simp at hx,λid es hx=>by simp at hx,λid b hb=>(by cases hb),λb x hx=>?_,λb n hb=>?_⟩;rotate_left 2;.obtain⟨p,r⟩:=hi.sz b n hb;refine⟨p,.inl ?_⟩;simp only[Gh.apart];rcases r with r|⟨_,r⟩<;>rw[r]
 .obtain⟨p,q,r⟩:=hi.HU b o v hb;refine⟨p,q,?_⟩;simp only[Gh.apart];rcases r with r|⟨s,c,st,r,hl⟩
  .exact .inl (by rw[r])
  .exact .inr ⟨s,c,st,by rw[r],hl⟩
 .simp only[Gh.apart] at hx;split at hx;.cases hx
  .exact hi.BK b x hx
def CX.yn(hr:CX C γ0 w0 γ Z U h a w){c:Gh}{h1:Ai}(hi:Hj c h1 w')(ha:Lx γ.apart w c w'):∃d,CX C γ0 w0 d Z U h a w':=by
 have Y5:∀b id,γ.apart.BK b≠some (.Md id):=λb id e=>by
  simp only[Gh.apart] at e;split at e;.cases e
  .rename_i hn;exact hn id e
 have M1:∀b,b<w.heap.size->w'.heap[b]?=w.heap[b]?:=λb hb=>(ha.Nw b hb (Y5 b)).1;refine⟨γ,hr.IA ⟨λb o v hb=>?_,hr.DG.Md,λid cs hc b hb=>?_,λid es hc b hb=>?_,hr.DG.mu,λb x hx=>IH (hr.DG.BK b x hx) ha.size,λb n hb=>(by
   obtain⟨⟨us,e,fr,p,q⟩,r⟩:=hr.DG.sz b n hb;exact⟨⟨us,e,fr,by rw[M1 b (AL.1 p).1];exact p,q⟩,r⟩)⟩
  ⟨.refl _,ha.size,ha.os,ha.tape,ha.output,λb hb _=>⟨M1 b hb,rfl⟩⟩⟩
 .obtain⟨p,q,r⟩:=hr.DG.HU b o v hb;exact⟨by rw[CF (M1 b (Dn p))];exact p,q,r⟩
 .obtain⟨us,e,fr,p,q⟩:=hr.DG.cells id cs hc b hb;exact⟨us,e,fr,by rw[M1 b (AL.1 p).1];exact p,q⟩
 .obtain⟨C7,clock,p,q⟩:=hr.DG.map id es hc b hb;exact⟨C7,clock,by rw[M1 b (AL.1 p).1];exact p,q⟩
def V9{γ γ':Gh}{x:Aa}{v:Value}(hf:x.Me=true)(hv:BF γ x v):BF γ' x v:=by cases x<;>first|exact hv|cases hf
def Y6{γ γ':Gh}:∀{l:List Aa} {us:List Value},l.all Aa.Me=true->AW γ l us->AW γ' l us
 |[],us,_,h=>h
 |x::l,us,hf,h=>by obtain⟨u,Dk,e,h1,h2⟩:=h;simp only[Z6,AN] at hf;exact⟨u,Dk,e,V9 hf.1 h1,Y6 hf.2 h2⟩
def CQ.apart{γ:Gh}:∀{l:List Aa} {b o:Nat},CQ γ l b o->l.all Aa.Me=true->CQ γ.apart l b o
 |[],_,_,_,_=>trivial
 |x::l,b,o,h,hf=>by obtain⟨⟨u,h1,h2⟩,c⟩:=h;simp only[Z6,AN] at hf;exact⟨⟨u,h1,V9 hf.1 h2⟩,c.apart hf.2⟩
def zS{run:IT->Ai->Option Jp}(i:EP C run){o:Oper}{c:Call}{f:FuncId}{args:List Aa}{r:Aa}{h1:Ai}{K:Act->World->Prop}{Q:Exit->Act->World->Prop}(ho:o.op= .call c)(hcl:c.callee= .value (.func (Ea f)))(ha:Bm C U c.args.toList=some args)
  (hfa:args.all Aa.Me=true) (AI:run (B4 C f args) []=some (.ret,[r],h1)) (rL:r.Me=true) (hr:CX C γ0 w0 γ Z U h a w) (j:∀γ' v w',CX C γ0 w0 γ' Z (U.put o.dst (.val r)) h (a.put o.dst v) w'->K (a.put o.dst v) w'):o.wp C.P a w K Q:=by
 obtain⟨⟨fn,k,hf,hname,hb⟩,d⟩:=i.2 f args [] r h1 AI;have b:AW γ.apart args (c.args.map a.eval).toList:=Y6 hfa (by simpa using DB hr ha);refine RT (f:=Ea f) (cargs:=c.args.map a.eval) ?_ (d γ.apart w _ hr.DG.apart (λg cs hg=>(hr.GC g cs hg).apart (i.1.1 g cs hg)) b) λv w' ⟨γ',hi,JB,hv,_⟩=>?_;.have h0:a.eval (.func (Ea f))= .func (.func (Ea f)) #[] #[]:=rfl;simp only[execOp,ho,resolve,hcl,Deferred.ofValue,h0,Sem.run_bind,Sem.run_pure,Result.andThen_ok,invoke];simpa using HS hf hname hb (c.args.map a.eval) w
 .obtain⟨e,LP⟩:=hr.yn hi JB;exact j e v w' (LP.put λ_ _=>V9 rL hv)
def zT{run:IT->Ai->Option Jp}(l:EP C run){o:Oper}{c:Call}{g:Operand}{k:Aa}{f:FuncId}{args args':List Aa}{r:Aa}{h':Ai}{K:Act->World->Prop}{Q:Exit->Act->World->Prop}(ho:o.op= .call c)(hcl:c.callee= .value g)(hg:Ez C U g=some k)
  (ha:Bm C U c.args.toList=some args) (ht:CC k args=some (f,args')) (AI:run (B4 C f args') h=some (.ret,[r],h')) (hr:CX C γ0 w0 γ Z U h a w) (m:∀γ' v w',CX C γ0 w0 γ' Z (U.put o.dst (.val r)) h' (a.put o.dst v) w'->K (a.put o.dst v) w'):o.wp C.P a w K Q:=by
 obtain⟨⟨fn,n,hf,hname,hb⟩,b⟩:=l.2 f args' h r h' AI;have j:=Gg hr hg;unfold CC at ht;split at ht
 .rename_i f0 first captured
  split at ht;rotate_left;.cases ht
  rename_i xc;cases ht;rw[show Ea f=f from Af xc] at hf b;obtain⟨fs,cs,GX,h1,h2⟩:=j;have d:AW γ (first++args++captured) (fs++c.args.map a.eval++cs).toList:=by simpa using(h1.append (DB hr ha)).append h2
  refine RT (f:=f) (cargs:=fs++c.args.map a.eval++cs) ?_ (b γ w _ hr.DG hr.GC d) λv w' ⟨γ',hi,JB,hv,Fj⟩=>?_;.simp only[execOp,ho,resolve,hcl,Deferred.ofValue,GX,Sem.run_bind,Sem.run_pure,Result.andThen_ok,invoke];exact HS hf hname hb _ w
  .obtain⟨i,LP⟩:=hr.ş (BK:=false) hi JB hv (λe=>by cases e) o.dst;exact m i v w' (by simpa using LP)
 .cases ht
end
end Go.Am
end
