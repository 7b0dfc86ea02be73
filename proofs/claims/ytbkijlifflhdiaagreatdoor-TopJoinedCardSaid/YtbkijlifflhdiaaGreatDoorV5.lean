/- Lemmas -/
import Derived.Test.YtbkijlifflhdiaaGreatDoorV4
import Derived.Deep.AppendSrc
import Derived.Great.BuildSlice
import Derived.Laws.IdiomStrings
set_option linter.all false
section
namespace Go.Am
open Go
section
variable{C:E7}{U0 U U':Gh}{w0 w w':World}{O:Nat->Nat}{Z:Bq}{h:Ag}{a:Act}{fid:FuncId}{ops:List Oper}
def CN{P:Program}{s:Sem Value}{v:Value}(hs:s.run P w= .ok v w'):(do pure (Next.value (<-s)):Sem Next).run P w= .ok (.value v) w':=by simp[hs]
def QX{J:Type}{z:Nat}:∀{An:List (List J)},(∀r∈An,r.length=z)->∀{i:Nat} {r:List J},An[i]?=some r->∀{j:Nat} {x:J},r[j]?=some x->An.flatten[i*z+j]?=some x
 |[],_,i,r,hi,_,_,_=>by simp at hi
 |q::An,hl,0,r,hi,j,x,hj=>by simp at hi;subst hi;have:j<q.length:=(Ae.1 hj).1;simp only[KA,Bm,Cs];rw[Ai this];exact hj
 |q::An,hl,i+1,r,hi,j,x,hj=>by
  simp at hi;have hq:q.length=z:=hl q Au;rw[Cs,BG (by rw[hq,Bg];omega)];have:=QX (An:=An) (λr hr=>hl r (by simp[hr])) hi hj;rw[<-this];congr 1
  rw[hq,Bg];omega
def FU{J:Type}{z:Nat}:∀{An:List (List J)},(∀r∈An,r.length=z)->An.flatten.length=An.length*z
 |[],_=>Au
 |q::An,hl=>by have hq:q.length=z:=hl q Au;simp[hq,FU (An:=An) (λr hr=>hl r (by simp[hr])),Bg,MG]
def L7{An:List (List Aa)}{us:List Value}{z b o:Nat}(hl:∀r∈An,r.length=z)(hv:AK U An.flatten us)(hi:∀(j:Nat) (u:Value),us[j]?=some u->U.GA b (o+j)=some u):DY U An z b o:=by refine DY.Fz λi r hr=>⟨hl r (B6 hr),Co.Fz λj x hj=>?_⟩;obtain⟨u,hu,hx⟩:=hv.get (QX hl hr hj);exact⟨u,by rw[ON];exact hi _ _ hu,hx⟩
def Ct.drew(hr:Ct C U0 w0 U O Z h a w):Ct C U0 w0 U O Z h a w.drew:=hr.world (hr.Db.same rfl) (IB.drew U w)
def Bq.Qg(Z:Bq):Z.at Z.length= .undef:=by simp[Bq.at,List.getD]
def Ct.SO(hr:Ct C U0 w0 U O Z h a w){x:Aa}{v:Value}(hv:Bp U x v)(ho:Hq U w0.heap.size w Z.length none v x)(d:Option Nat):∃U',Ct C U0 w0 U' O (Z.put d (.Bn x)) h (a.put d v) w:=by
 cases d with
 |none=>exact⟨U,hr⟩
 |some d=>
  rcases ho with ho|⟨g,n,cap,us,e,z,An,h1,h2,f,b,c⟩
  .exact⟨U,hr.put λs _=>⟨hv,.inl ho⟩⟩
  .have Ij:=hr.EF (s':=d) (c':=none) f b (λ_ u=>by rw[Bq.Qg];simp) (λo ho=>by cases ho);exact⟨_,Ij.put λs hs=>by cases hs;exact⟨Bp.mono (FO _ _ _) _ _ hv,.inr ⟨g,n,cap,us,e,z,An,h1,h2,by simp[Gh.EF],b,c⟩⟩⟩
def Ct.SP(hr:Ct C U0 w0 U O Z h a w)(us:Array Value)(e:TypeId){z n cap:Nat}{An:List (List Aa)}(hz:0<z)(hn:An.length=n)(hl:∀r∈An,r.length=z)(Vi:us.size=cap*z)(hc:n<=cap)(hm:cap<=maxLen)
  (hv:AK U An.flatten (us.toList.take (n*z))) (h1:∀u∈us.toList.take (n*z),u.oneCell'=true):
  ∃U',U.le U'/\Ct C U0 w0 U' O Z h a (w.alloc (.cells us e))/\Bp U' (.sl z An) (.slice (some ⟨w.heap.size,0,none⟩) n cap)/\Hq U' w0.heap.size (w.alloc (.cells us e)) Z.length none (.slice (some ⟨w.heap.size,0,none⟩) n cap) (.sl z An):=by
 obtain⟨hi,ha⟩:=KO hr.Db us e (0,0) (n*z) (some (.tail Z.length none (n*z))) (λo u ho hu=>h1 u (B6 (i:=o) (by rw[Ca ho];simpa using hu))) (.inr (.inl ⟨_,_,rfl⟩));refine⟨_,ha.le,hr.world hi ha,⟨⟨w.heap.size,0,none⟩,cap,by rw[hn],Ab,.inl rfl,L7 hl (AK.mono ha.le _ _ hv) λj u hj=>?_⟩,.inr ⟨w.heap.size,n,cap,us,e,z,An,rfl,rfl,by simp[Gh.CC],hr.C2.size,heap_alloc_new w _,Vi,hc,hm,hz⟩⟩;rw[BV] at hj;split at hj;.rename_i hlt;simp only[Gh.CC,BB,Bm,Ad hlt];simpa using hj
 .cases hj
def SQ{size:Nat}:∀(vs:List Value) (k:Nat) (cells:Array Value),(∀v∈vs,v.cells.size=size)->(k+vs.length)*size<=cells.size->
  Instr.fill (λi=>some (i*size,size)) cells ((vs.zipIdx k).map λp=>(p.2,p.1))=some (cells.toList.take (k*size)++vs.flatMap (·.cells.toList)++cells.toList.drop ((k+vs.length)*size)).toArray
 |[],k,cells,_,_=>by simp[Instr.fill]
 |v::vs,k,cells,hv,hl=>by
  have hs:v.cells.size=size:=hv v Au;simp only[AH] at hl;have DG:(k+1)*size+vs.length*size<=cells.size:=by rw[<-Bg];exact A5 (Kz (by congr 1;omega)) hl
  have XW:(k+1)*size=k*size+size:=by rw[Bg,DI]
  simp only[fJ,AZ,Instr.fill];have c1:¬(v.cells.size≠size\/k*size+v.cells.size>cells.size):=by rw[hs];omega
  simp only[CF,decide_not,Ru,Df,aEW,decide_eq_false_iff_not] at*;rw[Ac c1];have hf:=L4 v.cells.toList (k*size) 0 cells (by simp[hs];omega);have aAc:v.cells.zipIdx.foldl (λcs (c,j)=>cs.setIfInBounds (k*size+j) c) cells=(cells.toList.take (k*size)++v.cells.toList++cells.toList.drop (k*size+size)).toArray:=by rw[<-aDn,Ÿ];rw[hf];simp[hs]
  rw[aAc];have hlen:(cells.toList.take (k*size)++v.cells.toList++cells.toList.drop (k*size+size)).length=cells.size:=by simp[hs];omega
  rw[SQ vs (k+1) _ (λu hu=>hv u (by simp[hu])) (by simp only[Bl];rw[hlen,Bg];exact DG)]
  congr 2
  have e1:(cells.toList.take (k*size)++v.cells.toList).length=(k+1)*size:=by simp[hs];omega
  have d:(cells.toList.take (k*size)++v.cells.toList++cells.toList.drop (k*size+size)).take ((k+1)*size)=cells.toList.take (k*size)++v.cells.toList:=by rw[<-e1];exact Ep
  have b:(cells.toList.take (k*size)++v.cells.toList++cells.toList.drop (k*size+size)).drop ((k+1+vs.length)*size)=cells.toList.drop ((k+(vs.length+1))*size):=by
   rw[PS,Bc (by rw[e1];exact Dn _ Ab),e1,DU,Bj];congr 1
   have:(k+1+vs.length)*size-(k+1)*size=vs.length*size:=by rw[Bg (k+1)];omega
   rw[this,Bg k,Bg vs.length];omega
  rw[d,b];simp
def Jh{P:Program}{t:TypeId}(h:Kc P t=true):∃i z,P.info? t=some i/\i.zero=some z/\z.cells.size=i.size:=by
 unfold Kc at h;split at h
 .rename_i i hi;split at h;.rename_i z hz;exact⟨i,z,hi,hz,by simpa using h⟩
  .cases h
 .cases h
def HY{P:Program}{t:TypeId}{n:Nat}{i:TypeInfo}(h:BD P t=some n)(hi:P.info? t=some i):i.size=n:=by simpa[BD,hi] using h
def JU{P:Program}{t:TypeId}{n:Nat}{i:TypeInfo}(h:Ig P t=some n)(hi:P.info? t=some i):i.bytes=n:=by simpa[Ig,hi] using h
def SR:∀{args:List Aa} {us:List Value} {z:Nat},AK U args us->(∀x∈args,x.cells.length=z)->0<z->AK U (args.map (·.cells)).flatten (us.flatMap (·.cells.toList))/\(∀u∈us.flatMap (·.cells.toList),u.oneCell'=true)/\∀u∈us,u.cells.size=z
 |[],us,z,h,_,_=>by rw[AK] at h;subst h;exact⟨rfl,Au,Au⟩
 |x::args,us,z,h,hl,hz=>by
  obtain⟨u,CS,rfl,h1,h2⟩:=h;have hx:=hl x Au;obtain⟨b,e⟩:=FQ h1 Ab;obtain⟨d,r2,c⟩:=SR h2 (λy hy=>hl y (by simp[hy])) hz;refine⟨by simpa using b.append d,λv hv=>?_,λv hv=>?_⟩;.simp only[ZY,Al] at hv;exact hv.elim (e v) (r2 v)
  .rcases Az.1 hv with rfl|hv
   .have:=b.length;simp at this;omega
   .exact c v hv
def Vt{a:Act}:∀{l:List (Nat×Operand)} {k:Nat},l.map (·.1)=List.range' k l.length->l.map (λp=>(p.1,a.eval p.2))=((l.map λp=>a.eval p.2).zipIdx k).map λp=>(p.2,p.1)
 |[],k,_=>Au
 |(i,x)::l,k,h=>by simp only[AZ,AH,List.range'_succ,Ey] at h;obtain⟨rfl,h⟩:=h;simp[fJ,Vt h]
def qA{o:Oper}{t e:TypeId}{len n:Nat}{parts:Array (Nat×Operand)}{args:List Aa}{u:Aa}(ho:o.op= .buildSlice t len parts)(ht:C.P.underlying t=some (.slice e))(hsz:BD C.P e=some (n+1))(hp:parts.toList.map (·.1)=List.range len)(XY:Kc C.P e=true)
  (ha:A0 C Z (parts.toList.map (·.2))=some args) (hu:Ax (.Cd (n+1)) args=some u) (hr:Ct C U0 w0 U O Z h a w):EJ C U0 w0 o a w (Z.put o.dst (.Bn u)) h:=by
 obtain⟨i,z,hi,hz,hzs⟩:=Jh XY;have NP:=HY hsz hi;simp only[Ax] at hu;split at hu
 .rename_i hc;cases hu;simp only[Bi,D8,vZ,Df] at hc;obtain⟨UC,Jr⟩:=hc;have DN:=C4 hr ha;have hlen:parts.toList.length=len:=by have:=B1 List.length hp;simpa using this
  have XZ:args.length=len:=by have:=DN.length;simp at this;simp at hlen;omega
  obtain⟨d,g,f⟩:=SR DN UC (Cn n);have Vu:=d.length;rw[FU (z:=n+1) (by intro r hr;obtain⟨x,hx,rfl⟩:=AR.1 hr;exact UC x hx),Aw,XZ] at Vu;have Ay:∃cells:Array Value,cells.toList=(parts.toList.map (·.2) |>.map a.eval).flatMap (·.cells.toList)/\(Instr.buildSlice t len (parts.map λ(i,x)=>(i,a.eval x))).run C.P w= .ok (.slice (some ⟨w.heap.size,0,none⟩) len len) (w.alloc (.cells cells e)):=by
   have kX:(parts.map λ(i,x)=>(i,a.eval x)).toList=(((parts.toList.map (·.2)).map a.eval).zipIdx 0).map λp=>(p.2,p.1):=by have:=Vt (a:=a) (l:=parts.toList) (k:=0) (by rw[hlen,<-ń];exact hp);simp only[Lo,List.map_map];exact this
   have fZ:=SQ (size:=n+1) ((parts.toList.map (·.2)).map a.eval) 0 ((Array.range (len*(n+1))).map (z.cells[·%z.cells.size]!)) f (by simp at hlen⊢;rw[hlen];exact Af _);rw[<-kX] at fZ;have e0:((Array.range (len*(n+1))).map (z.cells[·%z.cells.size]!)).toList.drop ((0+((parts.toList.map (·.2)).map a.eval).length)*(n+1))=[]:=by apply Bc;simp at hlen⊢;rw[hlen];exact Af _
   rw[e0] at fZ;simp only[KA,Uq,Bj,BN] at fZ;refine⟨_,rfl,?_⟩;by_cases h0:len*(n+1)=0
   .have c:len=0:=by
     rcases Nat.mul_eq_zero.1 h0 with h|h
     .exact h
     .omega
    subst c;have ku:parts=#[]:=by apply GX;simpa using hlen
    subst ku;have b:(Array.range 0:Array Nat)=#[]:=rfl;simp[Instr.buildSlice,run_underlying ht,sizeOf,typeInfo,hi,newRow,Instr.fill,b]
   .exact run_buildSlice w t e len _ _ i z ht hi hz (by rw[NP];rw[XZ] at Jr;omega) (by rw[NP];exact h0) (by rw[NP];exact fZ)
  obtain⟨cells,hcells,Ay⟩:=Ay;have hcs:cells.size=len*(n+1):=by rw[<-BQ,hcells];exact Vu
  obtain⟨U',DG,FH,Gv,hown⟩:=hr.SP cells e (z:=n+1) (n:=len) (cap:=len) (An:=args.map (·.cells)) (Cn n) (by simp[XZ]) (by intro r hr;obtain⟨x,hx,rfl⟩:=AR.1 hr;exact UC x hx) hcs (Af _)
   (by rw[XZ] at Jr;have:len<=len*(n+1):=GY _ (Cn n);simp only[maxLen];omega) (by rw[hcells,AT (by rw[Vu];exact Af _)];exact d) (by rw[hcells,AT (by rw[Vu];exact Af _)];exact g)
  obtain⟨j,JT⟩:=FH.SO Gv hown o.dst;exact EJ.value (by simp only[execOp,ho];exact CN Ay) JT
 .cases hu
def qB{o:Oper}{t e:TypeId}{len n:Nat}{parts:Array (Nat×Operand)}(ho:o.op= .buildSlice t len parts)(ht:C.P.underlying t=some (.slice e))(hsz:BD C.P e=some (n+1))(hp:parts.toList.map (·.1)=List.range len)(XY:Kc C.P e=true)(h0:len=0)
  (hr:Ct C U0 w0 U O Z h a w):EJ C U0 w0 o a w (Z.put o.dst (.Bn (.EV (n+1)))) h:=by
 subst h0;obtain⟨i,z,hi,hz,hzs⟩:=Jh XY;have ku:parts=#[]:=by apply GX;have:=B1 List.length hp;simpa using this
 subst ku;have b:(Array.range 0:Array Nat)=#[]:=rfl;have Ay:(Instr.buildSlice t 0 ((#[]:Array (Nat×Operand)).map λ(i,x)=>(i,a.eval x))).run C.P w= .ok (.slice (some ⟨w.heap.size,0,none⟩) 0 0) (w.alloc (.cells #[] e)):=by simp[Instr.buildSlice,run_underlying ht,sizeOf,typeInfo,hi,newRow,Instr.fill,b]
 obtain⟨U',DG,FH,_,_⟩:=hr.SP #[] e (z:=n+1) (n:=0) (cap:=0) (An:=[]) (Cn n) rfl Au Au (Af _) (by simp[maxLen]) (by rw[KA];exact(rfl:AK U [] [])) Au;obtain⟨c,JT⟩:=FH.SO (x:= .EV (n+1)) (v:= .slice (some ⟨w.heap.size,0,none⟩) 0 0) ⟨_,rfl⟩ (.inl (.inr ⟨_,rfl⟩)) o.dst;exact EJ.value (by simp only[execOp,ho];exact CN Ay) JT
def gD{t':TypeId}{size bytes:Nat}{v u r:Aa}{c:Value}(HL:(∃g,C.P.underlying t'=some (.slice g))\/C.P.underlying t'=some .string)(hi:Fg U h w)(hu:Bp U u c)(hp:Gf size bytes v u=some r):
  ∃(An:List (List Aa)) (news:List Value),CP size bytes v An=some r/\Src C.P size t' c An.length news w/\AK U An.flatten news/\(∀r∈An,r.length=size):=by
 unfold Gf at hp;split at hp;.rw[show c=_ from hu];exact⟨[],[],hp,⟨HL,λ_=>rfl,run_firstCells_none w size 0 0 0,run_firstCells_none w.drew size 0 0 0,Au,Au⟩,rfl,Au⟩
 .rename_i z;split at hp;.obtain⟨b,wY⟩:=hu;rw[wY];exact⟨[],[],hp,⟨HL,λ_=>rfl,run_firstCells_some w _ _ _ _ _ [] Au (λj x hj=>by simp at hj),run_firstCells_some w.drew _ _ _ _ _ [] Au (λj x hj=>by simp at hj),Au,Au⟩,rfl,Au⟩
  .cases hp
 .rename_i z An;split at hp
  .rename_i hz;subst hz;obtain⟨ad,cap,wY,MU,hsp,hR⟩:=hu;obtain⟨us,f,d,e⟩:=hR.values;have LA:∀(j:Nat) (x:Value),us[j]?=some x->ad.add j=⟨ad.block,ad.off+j,none⟩:=λj x hj=>by
    have hpos:0<An.length:=by
     rcases JH An.length with h0|h0
     .have:us.length=0:=by rw[d,h0,KA]
      rw[Cq this] at hj;simp at hj
     .exact h0
    have aR:=LY hsp MU hpos;generalize ad.block=b at*;generalize ad.off=o at*;subst aR;unfold Addr.add;split<;>simp_all
   rw[wY];refine⟨An,us,hp,⟨HL,λ_=>rfl,run_firstCells_some w _ _ _ _ _ us d (λj x hj=>by rw[LA j x hj];exact(hi.GA _ _ _ (e j x hj)).1),run_firstCells_some w.drew _ _ _ _ _ us d (λj x hj=>by rw[LA j x hj];exact(hi.GA _ _ _ (e j x hj)).1),d,λx hx=>?_⟩,f,λr hr=>?_⟩;.obtain⟨j,hj⟩:=Cf hx;exact(hi.GA _ _ _ (e j x hj)).2.1
   .obtain⟨j,hj⟩:=Cf hr;exact(hR.get hj).1
  .cases hp
 .rename_i s;split at hp
  .rename_i hz;subst hz;rw[show c=_ from hu];have hlen:(Cu s).length=(⟨⟨s⟩⟩:ByteArray).size:=by simp[Cu,ByteArray.size]
   have hrel:∀l:List UInt8,AK U (Cu l).flatten (l.map λb=>Value.int .u8 b.toNat):=by
    intro l;induction l with
    |nil=>rfl
    |cons b l ih=>exact⟨_,_,rfl,rfl,ih⟩
   refine⟨Cu s,byteCells ⟨⟨s⟩⟩,hp,?_,?_,λr hr=>?_⟩;.rw[hlen];exact⟨HL,λ_=>rfl,firstCells_string _ w,firstCells_string _ w.drew,by rw[byteCells_length,Iy],λu hu=>by obtain⟨_,_,rfl⟩:=AR.1 hu;rfl⟩
   .simpa[byteCells] using hrel s
   .obtain⟨b,_,rfl⟩:=AR.1 hr;rfl
  .cases hp
 .cases hp
def Ct.qC(hr:Ct C U0 w0 U O Z h a w){g n cap z:Nat}{us:Array Value}{e:TypeId}{rr An:List (List Aa)}{news:List Value}(hown:U.Bn g=some (.tail Z.length none (n*z)))(hB:w0.heap.size<=g)(hg:w.heap[g]?=some (.cells us e (0,0)))
  (Vi:us.size=cap*z) (hm:cap<=maxLen) (hz:0<z) (hv:Bp U (.sl z rr) (.slice (some ⟨g,0,none⟩) n cap)) (hl:∀r∈An,r.length=z) (hn:AK U An.flatten news) (h1:∀u∈news,u.oneCell'=true) (hroom:n+An.length<=cap):
  ∃U',U.le U'/\Ct C U0 w0 U' O Z h a (w.setRow g (us.toList.take (n*z)++news++us.toList.drop (n*z+news.length)).toArray)/\Bp U' (.sl z (rr++An)) (.slice (some ⟨g,0,none⟩) (n+An.length) cap)/\
   Hq U' w0.heap.size (w.setRow g (us.toList.take (n*z)++news++us.toList.drop (n*z+news.length)).toArray) Z.length none (.slice (some ⟨g,0,none⟩) (n+An.length) cap) (.sl z (rr++An)):=by
 obtain⟨ad,cap',Yr,MU,_,hR⟩:=hv;simp only[Value.slice.injEq,Bv] at Yr;obtain⟨rfl,rfl,rfl⟩:=Yr;simp only at hR;have NQ:news.length=An.length*z:=by rw[hn.length,FU hl]
 have hfit:(rr.length+An.length)*z<=us.size:=by rw[Vi];exact Dn _ hroom
 rw[Bg] at hfit;have xj:(us.toList.take (rr.length*z)).length=rr.length*z:=D5;obtain⟨vs,l,p,k⟩:=hR.values;have hvs:vs=us.toList.take (rr.length*z):=by
  apply Oc;intro j;by_cases hj:j<rr.length*z
  .have c:j<vs.length:=by rw[p];exact hj
   have hc:=(hr.Db.GA _ _ _ (k j _ (Ap c))).1;rw[cell_of_row w _ _ us e (0,0) hg,Bm] at hc;rw[Ap c,Ca hj];simpa using hc.symm
  .rw[Dd Ab,Dd (by rw[xj];omega)]
 rw[hvs] at l;have Wy:∀u∈us.toList.take (rr.length*z),u.oneCell'=true:=λu hu=>by rw[<-hvs] at hu;obtain⟨j,hj⟩:=Cf hu;exact(hr.Db.GA _ _ _ (k j u hj)).2.1
 have d:(rr.length+An.length)*z=rr.length*z+An.length*z:=Bg _ _ _;have et:((us.toList.take (rr.length*z)++news++us.toList.drop (rr.length*z+news.length)).toArray).toList.take ((rr.length+An.length)*z)=us.toList.take (rr.length*z)++news:=by
  have:(us.toList.take (rr.length*z)++news).length=(rr.length+An.length)*z:=by rw[Ao,xj,NQ,d]
  rw[<-this];exact Ep
 have hsz:(us.toList.take (rr.length*z)++news++us.toList.drop (rr.length*z+news.length)).length=us.size:=by simp[NQ];omega
 generalize m:(us.toList.take (rr.length*z)++news++us.toList.drop (rr.length*z+news.length)).toArray=CS at*;have aAf:CS.size=us.size:=by rw[<-m];simpa using hsz
 obtain⟨hi,DG⟩:=aJ hr.Db hown hg CS ((rr.length+An.length)*z) Z.length none (λo ho=>by
   rw[<-m,AI,List.getElem?_toArray,Ai Ab,Ca ho];simp)
  Ab (λo u ho hu=>by
   have:u∈CS.toList.take ((rr.length+An.length)*z):=by refine B6 (i:=o) ?_;rw[Ca ho];simpa using hu
   rw[et,Al] at this;exact this.elim (Wy u) (h1 u)) (λo v hv=>by
   have:=(hr.Db.GA _ _ _ hv).1;rwa [cell_of_row w _ _ us e (0,0) hg] at this)
 have hk:Ny g U w (U.CC g CS ((rr.length+An.length)*z) (some (.tail Z.length none ((rr.length+An.length)*z)))) (w.setRow g CS):=
  ⟨DG,λb x hb hx _=>⟨by simp only[Gh.CC,Ac hb];exact hx,setRow_other w g b CS hb⟩⟩
 have f:DY (U.CC g CS ((rr.length+An.length)*z) (some (.tail Z.length none ((rr.length+An.length)*z)))) (rr++An) z g 0:=by
  refine L7 (us:=CS.toList.take ((rr.length+An.length)*z)) (λr hr=>?_) ?_ (λj u hj=>?_)
  .rcases Al.1 hr with hr|hr
   .obtain⟨i,hi⟩:=Cf hr;exact(hR.get hi).1
   .exact hl r hr
  .rw[et,MB];exact(AK.mono DG _ _ l).append (AK.mono DG _ _ hn)
  .rw[BV] at hj;split at hj;.rename_i hlt;simp only[Gh.CC,BB,Bm,Ad hlt];simpa using hj
   .cases hj
 refine⟨_,DG,⟨hi,⟨hr.fr.size,λs=>?_⟩,hr.C2.write (g:=g) hB DG Au rfl rfl rfl (λb hb=>⟨setRow_other w g b CS hb,by simp only[Gh.CC,Ac hb]⟩),hr.defers,λx cs hx=>Co.mono DG _ _ _ (hr.Fl x cs hx)⟩,
  ⟨⟨g,0,none⟩,cap,Au,by simpa using hroom,.inl rfl,f⟩,.inr ⟨g,rr.length+An.length,cap,CS,e,z,rr++An,rfl,rfl,by simp[Gh.CC],hB,setRow_heap w g us CS e (0,0) hg,by rw[aAf,Vi],hroom,hm,hz⟩⟩
 by_cases hs:s=Z.length;.subst hs;rw[Bq.Qg];trivial
 .exact(hr.fr.GB s).keptBut hown hk (by simp only[IH.aF];intro hx;cases hx;exact hs rfl)
def L8{t t' ty:TypeId}{ts:Array TypeId}{xs:Array Value}(h0:ts[0]?=some t)(h1:ts[1]?=some t'):Builtin.append_ ts ty xs=Builtin.append_ #[t,t'] ty xs:=by simp only[Builtin.append_,h0,h1];rfl
def AK.wZ{l:List Aa}{us:List Value}{n:Nat}(h:AK U l us)(hn:us.length<=n):AK U l (us.take n):=by rw[AT hn];exact h
def LB{cs:List Aa}{z:Nat}:∀{n off:Nat},(B9 cs z off n).flatten=(cs.drop off).take (n*z)
 |0,off=>by simp[B9]
 |n+1,off=>by rw[B9,Cs,LB,Bg,DI,MG (n*z) z,dk,DU]
def Mu{cs:List Aa}{z:Nat}:∀{n off:Nat},(B9 cs z off n).length=n
 |0,off=>rfl
 |n+1,off=>by rw[B9,AH,Mu]
def NZ{cs:List Aa}{z:Nat}:∀{n off:Nat},off+n*z<=cs.length->∀r∈B9 cs z off n,r.length=z
 |0,off,_,r,hr=>by simp[B9] at hr
 |n+1,off,hl,r,hr=>by
  rw[Bg,DI] at hl;rw[B9,Az] at hr;rcases hr with rfl|hr
  .rw[Av,AW];omega
  .exact NZ Ab r hr
def SS{t':TypeId}{size:Nat}{u:Aa}{f:Value}{An:List (List Aa)}(HL:(∃k,C.P.underlying t'=some (.slice k))\/C.P.underlying t'=some .string)(hi:Fg U h w)(hu:Bp U u f)(hp:Gt h size u=some An):
  ∃news:List Value,Src C.P size t' f An.length news w/\AK U An.flatten news/\(∀r∈An,r.length=size):=by
 unfold Gt at hp;split at hp;.cases hp;rw[show f=_ from hu];exact⟨[],⟨HL,λ_=>rfl,run_firstCells_none w size 0 0 0,run_firstCells_none w.drew size 0 0 0,Au,Au⟩,rfl,Au⟩
 .rename_i z;split at hp;.cases hp;obtain⟨b,wY⟩:=hu;rw[wY];exact⟨[],⟨HL,λ_=>rfl,run_firstCells_some w _ _ _ _ _ [] Au (λj x hj=>by simp at hj),run_firstCells_some w.drew _ _ _ _ _ [] Au (λj x hj=>by simp at hj),Au,Au⟩,rfl,Au⟩
  .cases hp
 .rename_i z g;split at hp
  .rename_i hz;cases hp;subst hz;obtain⟨ad,cap,wY,MU,hsp,hR⟩:=hu;obtain⟨us,i,c,d⟩:=hR.values;have LA:∀(j:Nat) (x:Value),us[j]?=some x->ad.add j=⟨ad.block,ad.off+j,none⟩:=λj x hj=>by
    have hpos:0<An.length:=by
     rcases JH An.length with h0|h0
     .have:us.length=0:=by rw[c,h0,KA]
      rw[Cq this] at hj;simp at hj
     .exact h0
    have aR:=LY hsp MU hpos;generalize ad.block=b at*;generalize ad.off=o at*;subst aR;unfold Addr.add;split<;>simp_all
   rw[wY];refine⟨us,⟨HL,λ_=>rfl,run_firstCells_some w _ _ _ _ _ us c (λj x hj=>by rw[LA j x hj];exact(hi.GA _ _ _ (d j x hj)).1),run_firstCells_some w.drew _ _ _ _ _ us c (λj x hj=>by rw[LA j x hj];exact(hi.GA _ _ _ (d j x hj)).1),c,λx hx=>?_⟩,i,λr hr=>?_⟩;.obtain⟨j,hj⟩:=Cf hx;exact(hi.GA _ _ _ (d j x hj)).2.1
   .obtain⟨j,hj⟩:=Cf hr;exact(hR.get hj).1
  .cases hp
 .rename_i s;split at hp
  .rename_i hz;cases hp;subst hz;rw[show f=_ from hu];have hlen:(Cu s).length=(⟨⟨s⟩⟩:ByteArray).size:=by simp[Cu,ByteArray.size]
   have hrel:∀l:List UInt8,AK U (Cu l).flatten (l.map λb=>Value.int .u8 b.toNat):=by
    intro l;induction l with
    |nil=>rfl
    |cons b l ih=>exact⟨_,_,rfl,rfl,ih⟩
   refine⟨byteCells ⟨⟨s⟩⟩,?_,?_,λr hr=>?_⟩;.rw[hlen];exact⟨HL,λ_=>rfl,firstCells_string _ w,firstCells_string _ w.drew,by rw[byteCells_length,Iy],λu hu=>by obtain⟨_,_,rfl⟩:=AR.1 hu;rfl⟩
   .simpa[byteCells] using hrel s
   .obtain⟨b,_,rfl⟩:=AR.1 hr;rfl
  .cases hp
 .rename_i id off n z;split at hp
  .rename_i hz;subst hz;split at hp
   .rename_i cs hcs;split at hp
    .rename_i hl;cases hp;obtain⟨b,cap,hb,wY,MU,lE,hsz⟩:=hu;obtain⟨us,e,fr,i,pf,c,d⟩:=hi.cells id cs hcs b hb;have oN:(us.toList.take cs.length).length=cs.length:=c.length;have NQ:(((us.toList.take cs.length).drop off).take (n*z)).length=n*z:=by rw[Av,AW,oN];omega
     have LA:∀j,(⟨b,off,none⟩:Addr).add j=⟨b,off+j,none⟩:=λj=>by unfold Addr.add;split<;>simp_all
     have GC:∀(j:Nat) (x:Value),(((us.toList.take cs.length).drop off).take (n*z))[j]?=some x->w.cell? ((⟨b,off,none⟩:Addr).add j)=some x:=λj x hj=>by
      rw[LA,cell_of_row w _ _ us e fr i];rw[BV] at hj;split at hj
      .rw[Cc,BV] at hj;split at hj;.simpa using hj
       .cases hj
      .cases hj
     rw[wY,Mu];refine⟨((us.toList.take cs.length).drop off).take (n*z),⟨HL,λ_=>rfl,run_firstCells_some w _ _ _ _ _ _ NQ GC,run_firstCells_some w.drew _ _ _ _ _ _ NQ (λj x hj=>GC j x hj),NQ,λx hx=>d x (A7 (AN hx))⟩,?_,NZ hl⟩;rw[LB];exact(c.drop off).take (n*z)
    .cases hp
   .cases hp
  .cases hp
 .cases hp
def Mv{o:Oper}{c:Call}{t t' e:TypeId}{n b:Nat}{s x:Operand}{v u r:Aa}{An:List (List Aa)}{news:List Value}(ho:o.op= .call c)(hc:c.callee= .builtin .append)(h0:c.argTypes[0]?=some t)(h1:c.argTypes[1]?=some t')(DN:c.args.toList=[s,x])(ht:C.P.underlying t=some (.slice e))
  (HL:(∃D,C.P.underlying t'=some (.slice D))\/C.P.underlying t'=some .string) (hsz:BD C.P e=some (n+1)) (hby:Ig C.P e=some (b+1)) (hown:Jb C Z s=true) (XY:Kc C.P e=true) (hv:A0 C Z [s,x]=some [v,u])
  (HD:CP (n+1) (b+1) v An=some r) (IC:Src C.P (n+1) t' (a.eval x) An.length news w) (Qh:AK U An.flatten news) (bA:∀q∈An,q.length=n+1) (hr:Ct C U0 w0 U O Z h a w):EJ C U0 w0 o a w ((Z.CU (CA Z s)).put o.dst (.Bn r)) h:=by
 obtain⟨i,z,hi,hz,hzs⟩:=Jh XY;have NP:=HY hsz hi;have kx:=JU hby hi;obtain⟨_,_,e0,hvs,Z5⟩:=D6 hr hv;cases e0;have oO:DX C Z s=some v:=by
  unfold A0 at hv;split at hv;.rename_i p ps A F;cases hv;exact A
  .cases hv
 obtain⟨U1,DG,Ij,Gv,I⟩:=MT hr hown oO (Z.CU (CA Z s)).length none;have qD:=AK.mono DG _ _ Qh;have Hy:c.args.map a.eval=#[a.eval s,a.eval x]:=by apply Fe;simp[DN]
 have KG:∀v' w',(Builtin.append_ #[t,t'] o.type #[a.eval s,a.eval x]).run C.P w= .ok v' w'->(execOp a.eval o).run C.P w= .ok (.value v') w':=λv' w' Ay=>by
  have:execOp a.eval o=(do pure (Next.value (<-Builtin.append_ #[t,t'] o.type #[a.eval s,a.eval x]))):=by rw[<-Hy,<-L8 (ty:=o.type) h0 h1];simp only[execOp,ho,resolve,hc];rfl
  rw[this];exact CN Ay
 have Il:Src C.P i.size t' (a.eval x) An.length news w:=by rw[NP];exact IC
 have NQ:news.length=An.length*(n+1):=IC.newsLen;have FG:∀(base:Option Addr) (k cap:Nat) (rr:List (List Aa)) (olds:List Value),a.eval s= .slice base k cap->rr.length=k->(∀q∈rr,q.length=n+1)->AK U1 rr.flatten olds->(∀q∈olds,q.oneCell'=true)->
   (Builtin.firstCells i.size k (.slice base k cap)).run C.P w.drew= .ok olds.toArray w.drew->cap<k+An.length->(k+An.length)*(b+1)<=AO->r= .sl (n+1) (rr++An)->
   EJ C U0 w0 o a w ((Z.CU (CA Z s)).put o.dst (.Bn r)) h:=by
  intro base k cap rr olds hs hk l xA kh d hlt P2 QY;have O0:k+An.length<=AO:=A5 (GY _ (Cn b)) P2;have hgrow:=run_append_grow_src (P:=C.P) w t t' o.type e i z ht hi hz base k cap olds d (a.eval x) An.length news Il hlt (by simp only[AO] at O0;omega) (by rw[kx];exact growslice_fits hlt P2);rw[<-hs] at hgrow;have HK:=grownCap_ge w (k+An.length) cap e;have aAg:olds.length=k*(n+1):=by rw[xA.length,FU l,hk]
  have lF:(olds++news).length=(k+An.length)*(n+1):=by rw[Ao,aAg,NQ,Bg]
  obtain⟨K,Yp,JT,SN,f⟩:=Ij.drew.SP ((olds++news).toArray++Builtin.zeroCells z.cells (grownCap w (k+An.length) cap e-(k+An.length))) e (z:=n+1) (n:=k+An.length) (cap:=grownCap w (k+An.length) cap e) (An:=rr++An) (Cn n) (by simp[hk])
   (λq hq=>(Al.1 hq).elim (l q) (bA q))
   (by simp only[Ia,Bl,size_zeroCells,hzs,NP,lF,<-Bg];congr 1;omega) HK (grownCap_le_maxLen w _ _ _ (by simp only[AO] at O0;simp only[maxLen];omega))
   (by simp only[Fw,MB];rw[<-lF,Ep];exact xA.append qD)
   (λq hq=>by simp only[Fw] at hq;rw[<-lF,Ep,Al] at hq;exact hq.elim (kh q) (IC.one q))
  rw[QY];obtain⟨J,xk⟩:=JT.SO SN f o.dst;exact EJ.value (KG _ _ hgrow) xk
 rcases I with(rfl|⟨m,rfl⟩)|⟨g,k,cap,us,e1,m,rr,rfl,HR,P0,hB,hg,Vi,xB,hm,H⟩
 .have HR:a.eval s= .slice none 0 0:=Gv;cases An with
  |nil=>
   have QY:r= .slnil:=by simpa[CP] using HD.symm
   have pU:news=[]:=Cq (by simpa using NQ);subst pU;have Ay:(Builtin.append_ #[t,t'] o.type #[a.eval s,a.eval x]).run C.P w= .ok (.slice none 0 0) w:=by rw[HR];have hl:=Il.len;have QZ:=Il.cells;simp only[Bd] at hl QZ;rcases HL with⟨D,hk⟩|hk<;>simp[Builtin.append_,run_underlying ht,run_underlying hk,sizeOf,typeInfo,hi,hl,QZ]
   rw[QY];exact EJ.value (KG _ _ Ay) (Ij.put λ_ _=>⟨rfl,.inl (.inl rfl)⟩)
  |cons q An=>
   have MV:r= .sl (n+1) (q::An)/\(q::An).length*(b+1)<=AO:=by
    simp only[CP] at HD;split at HD;.rename_i hb;cases HD;exact⟨rfl,hb⟩
    .cases HD
   exact FG none 0 0 [] [] HR rfl Au rfl Au (run_firstCells_none _ _ _ _ _) Au (by simpa using MV.2) (by simpa using MV.1)
 .obtain⟨g,HR⟩:=id Gv;cases An with
  |nil=>
   have QY:m=n+1/\r= .EV m:=by
    simp only[CP] at HD;split at HD;.rename_i Uv;cases HD;exact⟨Uv,by rw[Uv]⟩
    .cases HD
   obtain⟨rfl,QY⟩:=QY;have pU:news=[]:=Cq (by simpa using NQ);subst pU;have Ay:(Builtin.append_ #[t,t'] o.type #[a.eval s,a.eval x]).run C.P w= .ok (.slice (some ⟨g,0,none⟩) 0 0) w:=by rw[HR];have hl:=Il.len;have QZ:=Il.cells;simp only[Bd] at hl QZ;rcases HL with⟨D,hk⟩|hk<;>simp[Builtin.append_,run_underlying ht,run_underlying hk,sizeOf,typeInfo,hi,hl,QZ,storeCells,Result.andThen]
   rw[QY];exact EJ.value (KG _ _ Ay) (Ij.put λ_ _=>⟨⟨g,rfl⟩,.inl (.inr ⟨_,rfl⟩)⟩)
  |cons q An=>
   have MV:r= .sl (n+1) (q::An)/\(q::An).length*(b+1)<=AO:=by
    simp only[CP] at HD;split at HD;.rename_i hb;cases HD;exact⟨rfl,hb.2⟩
    .cases HD
   exact FG (some ⟨g,0,none⟩) 0 0 [] [] HR rfl Au rfl Au (run_firstCells_some w.drew _ _ _ _ _ [] Au (λj x hj=>by simp at hj)) Au (by simpa using MV.2) (by simpa using MV.1)
 .obtain⟨ň,G,Yr,MU,_,hR⟩:=id Gv;rw[HR] at Yr;simp only[Value.slice.injEq,Bv] at Yr;obtain⟨rfl,hk,rfl⟩:=Yr;subst hk;simp only at hR;have B:m=n+1/\r= .sl (n+1) (rr++An)/\(An=[]\/(rr.length+An.length)*(b+1)<=AO):=by
   cases An with
   |nil=>
    simp only[CP] at HD;split at HD;.rename_i Uv;cases HD;exact⟨Uv,by simp[Uv],.inl rfl⟩
    .cases HD
   |cons q An=>
    simp only[CP] at HD;split at HD;.rename_i Uv;cases HD;exact⟨Uv.1,rfl,.inr Uv.2⟩
    .cases HD
  obtain⟨rfl,QY,P2⟩:=B;by_cases hroom:rr.length+An.length<=cap
  .have hfit:rr.length*(n+1)+news.length<=us.size:=by rw[NQ,Vi,<-Bg];exact Dn _ hroom
   have Ay:=run_append_room_src (P:=C.P) w t t' o.type e i ht hi g 0 rr.length cap (a.eval x) An.length news Il hroom (λj hj=>by rw[cell_of_row w _ _ us e1 (0,0) hg,NP,Cj Ab];rfl) (λj hj=>frozen_of_row w _ _ us e1 hg)
   rw[Bm,NP,DM news _ us w hg hfit,<-HR] at Ay;rw[HR] at Gv;obtain⟨K,Yp,JT,SN,f⟩:=Ij.qC P0 hB hg Vi hm (Cn n) Gv bA qD IC.one hroom;obtain⟨J,xk⟩:=JT.SO SN f o.dst;rw[QY];exact EJ.value (KG _ _ Ay) xk
  .obtain⟨vs,A,F,E⟩:=hR.values;have LA:∀j,(⟨g,0,none⟩:Addr).add j=⟨g,0+j,none⟩:=λj=>by unfold Addr.add;split<;>simp_all
   refine FG (some ⟨g,0,none⟩) rr.length cap rr vs HR rfl (λq hq=>?_) A (λq hq=>?_) ?_ Ab ?_ QY;.obtain⟨j,hj⟩:=Cf hq;exact(hR.get hj).1
   .obtain⟨j,hj⟩:=Cf hq;exact(Ij.Db.GA _ _ _ (E j q hj)).2.1
   .rw[NP];exact run_firstCells_some w.drew _ _ _ _ _ vs F (λj y hj=>by rw[LA];exact(Ij.Db.GA _ _ _ (E j y hj)).1)
   .rcases P2 with rfl|P2
    .simp at hroom;omega
    .exact P2
def bC{o:Oper}{c:Call}{t t' e:TypeId}{n b:Nat}{s x:Operand}{v u r:Aa}(ho:o.op= .call c)(hc:c.callee= .builtin .append)(h0:c.argTypes[0]?=some t)(h1:c.argTypes[1]?=some t')(DN:c.args.toList=[s,x])(ht:C.P.underlying t=some (.slice e))
  (HL:(∃d,C.P.underlying t'=some (.slice d))\/C.P.underlying t'=some .string) (hsz:BD C.P e=some (n+1)) (hby:Ig C.P e=some (b+1)) (hown:Jb C Z s=true) (XY:Kc C.P e=true) (hv:A0 C Z [s,x]=some [v,u])
  (hp:Ax (.append (n+1) (b+1)) [v,u]=some r) (hr:Ct C U0 w0 U O Z h a w):EJ C U0 w0 o a w ((Z.CU (CA Z s)).put o.dst (.Bn r)) h:=by
 obtain⟨_,_,e0,hvs,Z5⟩:=D6 hr hv;cases e0;simp only[Ax] at hp;obtain⟨An,news,HD,IC,Qh,bA⟩:=gD (w:=w) HL hr.Db Z5 hp;exact Mv ho hc h0 h1 DN ht HL hsz hby hown XY hv HD IC Qh bA hr
def Ys{o:Oper}{c:Call}{t t' e:TypeId}{n b:Nat}{s x:Operand}{v u r:Aa}(ho:o.op= .call c)(hc:c.callee= .builtin .append)(h0:c.argTypes[0]?=some t)(h1:c.argTypes[1]?=some t')(DN:c.args.toList=[s,x])(ht:C.P.underlying t=some (.slice e))
  (HL:(∃d,C.P.underlying t'=some (.slice d))\/C.P.underlying t'=some .string) (hsz:BD C.P e=some (n+1)) (hby:Ig C.P e=some (b+1)) (hown:Jb C Z s=true) (XY:Kc C.P e=true) (hv:A0 C Z [s,x]=some [v,u])
  (hp:NX h (n+1) (b+1) v u=some r) (hr:Ct C U0 w0 U O Z h a w):EJ C U0 w0 o a w ((Z.CU (CA Z s)).put o.dst (.Bn r)) h:=by
 obtain⟨_,_,e0,hvs,Z5⟩:=D6 hr hv;cases e0;unfold NX at hp;cases hq:Gt h (n+1) u with
 |none=>rw[hq] at hp;cases hp
 |some An=>rw[hq] at hp;obtain⟨news,IC,Qh,bA⟩:=SS (w:=w) HL hr.Db Z5 hq;exact Mv ho hc h0 h1 DN ht HL hsz hby hown XY hv hp IC Qh bA hr
end
section
variable{C:E7}{γ0 γ γ':Gh}{w0 w w':World}{Z:Nat->Nat}{U:Bq}{h:Ag}{a:Act}{fid:FuncId}{ops:List Oper}
def O8:∀s:Aq,(Cu s).flatten=s.map λb=>Aa.int .u8 b.toNat
 |[]=>rfl
 |_::s=>by have:=O8 s;simp only[Cu,AZ,Cs] at this⊢;rw[this];rfl
def Kg(γ:Gh):∀l:Aq,AK γ (Cu l).flatten (l.map λb=>Value.int .u8 b.toNat)
 |[]=>rfl
 |_::l=>⟨_,_,rfl,rfl,Kg γ l⟩
def I6(s:Aq)(cap:Nat):(bytesRow ⟨⟨s⟩⟩ cap).toList.take s.length=s.map λb=>Value.int .u8 b.toNat:=by have:(s.map λb=>Value.int .u8 (b.toNat:Int)).length=s.length:=Au;simp only[bytesRow,Fw,Lo];rw[<-this];exact Ep
def Wz(s:Aq):(⟨⟨s⟩⟩:ByteArray).size=s.length:=by simp[ByteArray.size]
def xC{o:Oper}{src dst e:TypeId}{x:Operand}{v u:Aa}(ho:o.op= .convert src dst x)(hs:C.P.underlying src=some .string)(hd:C.P.underlying dst=some (.slice e))(he:C.P.underlying e=some (.int .u8))(hx:A0 C U [x]=some [v])(hp:Ax .ur [v]=some u)(hr:Ct C γ0 w0 γ Z U h a w):
  EJ C γ0 w0 o a w (U.put o.dst (.val u)) h:=by
 obtain⟨_,e0,hv⟩:=Fo hr hx;cases e0;simp only[Ax] at hp;split at hp
 .rename_i s Hy;cases Hy;split at hp
  .cases hp;have Ay:=run_bytes_of_string (P:=C.P) w src dst e ⟨⟨s⟩⟩ hs hd he;rw[<-L2 hv] at Ay;have wA:=grownCap_ge w s.length 0 e;rw[Wz] at Ay;obtain⟨hi,ha⟩:=KO hr.drew.Db (bytesRow ⟨⟨s⟩⟩ (grownCap w s.length 0 e)) e ((bytesRow ⟨⟨s⟩⟩ (grownCap w s.length 0 e)).size,(bytesRow ⟨⟨s⟩⟩ (grownCap w s.length 0 e)).size+1) s.length none (λo u ho hu=>by have hm:u∈(bytesRow ⟨⟨s⟩⟩ (grownCap w s.length 0 e)).toList.take s.length:=B6 (i:=o) (by rw[Ca ho];simpa using hu);rw[I6] at hm;obtain⟨b,_,rfl⟩:=AR.1 hm;rfl) (.inl rfl)
   have FH:=hr.drew.world hi ha;refine EJ.value (v:= .slice (some ⟨w.heap.size,0,none⟩) s.length (grownCap w s.length 0 e)) (by simp only[execOp,ho];exact CN Ay) (FH.put λ_ _=>⟨⟨w.heap.size,0,none⟩,grownCap w s.length 0 e,by simp[Cu],by simpa[Cu] using wA,.inl rfl,?_⟩);refine L7 (us:=s.map λb=>Value.int .u8 b.toNat) (λr hr=>?_) (Kg _ s) (λj u hj=>?_);.obtain⟨b,_,rfl⟩:=AR.1 hr;rfl
   .rw[<-I6 s (grownCap w s.length 0 e),BV] at hj;split at hj;.rename_i hlt;simp only[Gh.CC,heap_drew,BB,Bm,Ad hlt];simpa using hj
    .cases hj
  .cases hp
 .cases hp
def WA{o:Oper}{src dst e:TypeId}{x:Operand}{v u:Aa}{h':Ag}(ho:o.op= .convert src dst x)(hs:C.P.underlying src=some .string)(hd:C.P.underlying dst=some (.slice e))(he:C.P.underlying e=some (.int .u8))(hx:DX C U x=some v)(hp:HW h v=some (h',u))(hr:Ct C γ0 w0 γ Z U h a w):
  EJ C γ0 w0 o a w (U.put o.dst (.val u)) h':=by
 have hv:=Fh hr hx;unfold HW at hp;split at hp
 .rename_i s;split at hp
  .cases hp;have Ay:=run_bytes_of_string (P:=C.P) w src dst e ⟨⟨s⟩⟩ hs hd he;rw[<-L2 hv] at Ay;have wA:=grownCap_ge w s.length 0 e;rw[Wz] at Ay;have hl:(s.map λb=>Aa.int .u8 b.toNat).length=s.length:=Au;have c:(bytesRow ⟨⟨s⟩⟩ (grownCap w s.length 0 e)).size=grownCap w s.length 0 e:=by have e0:ByteArray.size ⟨⟨s⟩⟩=s.length:=Wz s;simp only[bytesRow,Ia,Array.size_map,Array.size_replicate,e0];simp only[Bl];omega
   have Z6:s.length<=maxLen:=by
    have Z6:s.length<=AO:=by assumption
    simp only[AO] at Z6;simp only[maxLen];omega
   obtain⟨γ',DG,hm,FH,hsz⟩:=hr.drew.newObj (bytesRow ⟨⟨s⟩⟩ (grownCap w s.length 0 e)) e ((bytesRow ⟨⟨s⟩⟩ (grownCap w s.length 0 e)).size,(bytesRow ⟨⟨s⟩⟩ (grownCap w s.length 0 e)).size+1) (s.map λb=>Aa.int .u8 b.toNat) (.inr (Af _))
    (by rw[hl,I6];have:=Kg γ s;rw[O8] at this;exact this)
    (λu hu=>by rw[hl,I6] at hu;obtain⟨b,_,rfl⟩:=AR.1 hu;rfl)
   exact EJ.value (v:= .slice (some ⟨w.heap.size,0,none⟩) s.length (grownCap w s.length 0 e)) (by simp only[execOp,ho];exact CN Ay) (FH.put λ_ _=>⟨w.heap.size,_,hm,rfl,wA,⟨Cn 0,grownCap_le_maxLen w _ _ _ Z6⟩,by rw[Bm,Iy,<-c];exact hsz⟩)
  .cases hp
 .cases hp
def Gx{O:Type}(l:List O):∀(c j:Nat),j<c*l.length->(List.replicate c l).flatten[j]?=l[j%l.length]?
 |0,j,h=>by simp at h
 |c+1,j,h=>by
  have h':j<c*l.length+l.length:=by rw[Bg] at h;omega
  rw[U9,Cs];by_cases hj:j<l.length;.rw[Ai hj,Nat.mod_eq_of_lt hj]
  .rw[BG Ab,Gx l c _ Ab,show j%l.length=(j-l.length)%l.length from Nat.mod_eq_sub_mod Ab]
def qE{o:Oper}{t e:TypeId}{l c:Operand}{n b:Nat}{z:Aa}{v vc u:Aa}{h':Ag}(ho:o.op= .makeSlice t l c)(ht:C.P.underlying t=some (.slice e))(hsz:BD C.P e=some (n+1))(hby:Ig C.P e=some (b+1))(hz:Fy C.P e=some z)(hl:DX C U l=some v)(hc:DX C U c=some vc)
  (hm:fQ h (n+1) (b+1) z.cells v vc=some (h',u)) (hr:Ct C γ0 w0 γ Z U h a w):EJ C γ0 w0 o a w (U.put o.dst (.val u)) h':=by
 unfold fQ at hm;split at hm
 .rename_i k m;split at hm
  .rename_i Gg;obtain⟨c1,c2,D,s⟩:=Gg;cases hm;unfold Fy at hz;cases hi:C.P.info? e with
   |none=>rw[hi] at hz;cases hz
   |some i=>
    rw[hi] at hz;cases oP:i.zero with
    |none=>simp[oP] at hz
    |some f=>
     simp only[BU,oP] at hz;have NP:=HY hsz hi;have kx:=JU hby hi;obtain⟨y,B⟩:=FQ (γ:=γ) (El hz) Ab;have hzs:f.cells.size=n+1:=by have:=y.length;simp at this;omega
     have ew:m.toNat*(b+1)<=AO:=D;have g:m.toNat<=AO:=A5 (GY m.toNat (Cn b)) ew;have Ay:=run_make (P:=C.P) w t e i f ht hi oP .i64 .i64 k m c1 c2 (by
      rw[kx];have e1:((b+1:Nat):Int)*m=((m.toNat*(b+1):Nat):Int):=by rw[Int.natCast_mul,I2 Ab,Int.mul_comm]
      rw[e1];simp only[AO] at ew;omega) (by simp only[AO] at g;omega)
     rw[<-DC (Fh hr hl),<-DC (Fh hr hc)] at Ay;have hlen:((List.replicate m.toNat z.cells).flatten).length=m.toNat*(n+1):=by rw[FU (z:=n+1) (λr hr=>by rw[dm hr,s]),F0]
     have p:∀(j:Nat) (u:Value),(madeCells f.cells (m.toNat*i.size)).toList[j]?=some u->j<m.toNat*(n+1)/\f.cells.toList[j%(n+1)]?=some u:=by
      intro j u hj;have qF:j<m.toNat*(n+1):=by have:=(Ae.1 hj).1;simpa[size_madeCells,NP] using this
      refine⟨qF,?_⟩;have ky:j%(n+1)<f.cells.size:=by rw[hzs];exact Nat.mod_lt _ (Cn n)
      simp only[madeCells,Lo,CT] at hj;have d:(Array.range (m.toNat*i.size)).toList[j]?=some j:=by simp[NP,qF]
      rw[d] at hj;simp only[BM,Bv] at hj;rw[hzs] at hj;rw[<-hj];simp[ky]
     have A:AK γ (List.replicate m.toNat z.cells).flatten (madeCells f.cells (m.toNat*i.size)).toList:=by refine AK.Fz (by simp[hlen,size_madeCells,NP]) λj x u hx hu=>?_;obtain⟨qF,q⟩:=p j u hu;rw[Gx z.cells _ _ (by rw[s];exact qF),s] at hx;obtain⟨E,aO,kj⟩:=y.get hx;rw[q] at aO;cases aO;exact kj
     obtain⟨γ',DG,uz,FH,aAk⟩:=hr.newObj (madeCells f.cells (m.toNat*i.size)) e (0,0) (List.replicate m.toNat z.cells).flatten (.inl rfl) (A.wZ (by rw[A.length];exact Af _)) (λu hu=>by obtain⟨j,hj⟩:=Cf (AN hu);exact B u (B6 (p j u hj).2))
     exact EJ.value (by simp only[execOp,ho];exact CN Ay) (FH.put λ_ _=>⟨w.heap.size,m.toNat,uz,rfl,Ab,⟨Cn n,by simp only[AO] at g;simp only[maxLen];omega⟩,by rw[aAk,size_madeCells,NP,Bm]⟩)
  .cases hm
 .cases hm
def Ct.xl(hr:Ct C γ0 w0 γ Z U h a w){g:Nat}(hown:γ.Bn g=some (.tail U.length none 0))(hB:w0.heap.size<=g){us:Array Value}{e:TypeId}(hg:w.heap[g]?=some (.cells us e (0,0)))(CS:Array Value)(cs:List Aa)
  (hv:AK γ cs (CS.toList.take cs.length)) (h1:∀u∈CS.toList.take cs.length,u.oneCell'=true):∃γ',γ.le γ'/\γ'.mu h.length=some g/\Ct C γ0 w0 γ' Z U (h++[.cells cs]) a (w.setRow g CS)/\γ'.sz g=some CS.size:=by
 have xg:γ.mu h.length=none:=by
  cases hc:γ.mu h.length with
  |none=>rfl
  |some y=>exact absurd (hr.Db.mu _ y hc) (CL _)
 have hsz:γ.sz g=none:=by
  cases hc:γ.sz g with
  |none=>rfl
  |some y=>obtain⟨_,r⟩:=hr.Db.sz g y hc;rw[hown] at r;rcases r with r|⟨_,r⟩<;>cases r
 have DG:γ.le (γ.BO g h.length (some CS.size)):=⟨λ_ _ _ hv=>hv,λid b hm=>by
  have:id≠h.length:=λhe=>by rw[he,xg] at hm;cases hm
  simp only[Gh.BO,Ac this];exact hm,λb n hm=>by
  have:b≠g:=λhe=>by rw[he,hsz] at hm;cases hm
  simp only[Gh.BO,Ac this];exact hm⟩
 have kq:∀b n,(γ.BO g h.length (some CS.size)).sz b=some n->(∃us e fr,(w.setRow g CS).heap[b]?=some (.cells us e fr)/\us.size=n)/\((γ.BO g h.length (some CS.size)).Bn b=none\/∃id,(γ.BO g h.length (some CS.size)).Bn b=some (.Kd id)):=λb n hb=>by
  by_cases he:b=g;.subst he;simp only[Gh.BO,BB] at hb;cases hb;exact⟨⟨CS,e,(0,0),setRow_heap w b us CS e (0,0) hg,rfl⟩,.inr ⟨h.length,by simp[Gh.BO]⟩⟩
  .simp only[Gh.BO,Ac he] at hb⊢;obtain⟨p,r⟩:=hr.Db.sz b n hb;exact⟨by rw[setRow_other w g b CS he];exact p,r⟩
 have hne:∀b id,γ.Bn b=some (.Kd id)->b≠g:=λb id hb he=>by rw[he,hown] at hb;cases hb
 have hk:Ny g γ w (γ.BO g h.length (some CS.size)) (w.setRow g CS):=⟨DG,λb x hb hx _=>⟨by simp only[Gh.BO,Ac hb];exact hx,setRow_other w g b CS hb⟩⟩;refine⟨_,DG,by simp[Gh.BO],⟨⟨λb o v hb=>?_,λid y Hm hy=>?_,λid Fx hc b hb=>?_,λid es hc b hb=>?_,λid b hb=>?_,λb y hy=>?_,kq⟩,⟨hr.fr.size,λs=>?_⟩,hr.C2.write (g:=g) hB DG Au rfl rfl rfl (λb hb=>⟨setRow_other w g b CS hb,by simp only[Gh.BO,Ac hb]⟩),hr.defers,λx Fx hx=>Co.mono DG _ _ _ (hr.Fl x Fx hx)⟩,by simp[Gh.BO]⟩
 .obtain⟨p,q,r⟩:=hr.Db.GA b o v hb;have LZ:b≠g:=λhe=>by
   subst he;rw[hown] at r;rcases r with r|⟨_,_,_,r,hl⟩
   .cases r
   .cases r;omega
  exact⟨by rw[BI (setRow_other w g b CS LZ)];exact p,q,by simp only[Gh.BO,Ac LZ];exact r⟩
 .by_cases he:id=h.length;.exact⟨g,by simp[Gh.BO,he],by simp[Gh.BO,he]⟩
  .have SE:id<h.length:=by rw[Ae] at Hm;obtain⟨hl,_⟩:=Hm;simp at hl;omega
   rw[Ai SE] at Hm;obtain⟨b,p,q⟩:=hr.Db.Kd id y Hm hy;exact⟨b,by simp only[Gh.BO,Ac he];exact p,by simp only[Gh.BO,Ac (hne b id q)];exact q⟩
 .by_cases he:id=h.length;.subst he;simp[Gh.BO] at hb;subst hb;simp at hc;subst hc;exact⟨CS,e,(0,0),setRow_heap w g us CS e (0,0) hg,.inl rfl,AK.mono DG _ _ hv,h1⟩
  .simp only[Gh.BO,Ac he] at hb;have SE:=hr.Db.mu id b hb;rw[Ai SE] at hc;obtain⟨b',c,d⟩:=hr.Db.Kd id _ hc Au;rw[hb] at c;cases c;obtain⟨aI,f,pS,p,pf,q,r⟩:=hr.Db.cells id Fx hc b hb;exact⟨aI,f,pS,by rw[setRow_other w g b CS (hne b id d)];exact p,pf,AK.mono DG _ _ q,r⟩
 .by_cases he:id=h.length;.subst he;simp at hc
  .simp only[Gh.BO,Ac he] at hb;have SE:=hr.Db.mu id b hb;rw[Ai SE] at hc;obtain⟨b',c,d⟩:=hr.Db.Kd id _ hc Au;rw[hb] at c;cases c;obtain⟨C3,clock,p,q⟩:=hr.Db.map id es hc b hb;exact⟨C3,clock,by rw[setRow_other w g b CS (hne b id d)];exact p,q.mono DG⟩
 .by_cases he:id=h.length;.simp[he]
  .simp only[Gh.BO,Ac he] at hb;have:=hr.Db.mu id b hb;simp;omega
 .by_cases LZ:b=g;.subst LZ;have:=hr.Db.Bn _ _ hown;simpa using this
  .simp only[Gh.BO,Ac LZ] at hy;have:=hr.Db.Bn b y hy;simpa using this
 .by_cases hs:s=U.length;.subst hs;rw[Bq.Qg];trivial
  .exact(hr.fr.GB s).keptBut hown hk (by simp only[IH.aF];intro hx;cases hx;exact hs rfl)
def Ct.Sn(hr:Ct C γ0 w0 γ Z U h a w){v v':Aa}{u:Value}{h':Ag}(hv:Bp γ v u)(hf:La h v=some (h',v')):∃γ',γ.le γ'/\Ct C γ0 w0 γ' Z U h' a w/\Bp γ' v' u:=by
 unfold La at hf;split at hf
 .rename_i id off n z;obtain⟨b,cap,hb,hu,hc,hz,hsz⟩:=hv;split at hf
  .rename_i cs hcs;split at hf
   .rename_i hl;cases hf;obtain⟨us,e,fr,q,pf,p,m⟩:=hr.Db.cells id cs hcs b hb;obtain⟨hi,ha⟩:=pT hr.Db hcs hb q m;have bA:∀(k o:Nat),(B9 cs z o k).length=k:=by
     intro k;induction k with
     |zero=>intro o;rfl
     |succ k ih=>intro o;simp[B9,ih]
    have d:∀(k o i:Nat) (r:List Aa),(B9 cs z o k)[i]?=some r->i<k/\r=(cs.drop (o+i*z)).take z:=by
     intro k;induction k with
     |zero=>intro o i r h;simp[B9] at h
     |succ k ih=>
      intro o i r h;cases i with
      |zero=>simp[B9] at h;exact⟨Cn _,by simpa using h.symm⟩
      |succ i=>simp[B9] at h;obtain⟨l,g⟩:=ih _ _ _ h;exact⟨Ab,by rw[g];congr 2;rw[Bg];omega⟩
    refine⟨_,ha.le,hr.world hi ha,⟨b,off,none⟩,cap,by rw[bA];exact hu,by rw[bA];exact hc,.inl rfl,DY.Fz λi r f=>?_⟩;obtain⟨l,rfl⟩:=d n off i r f;have t:i*z+z<=n*z:=by have:=Dn z (Ab:i+1<=n);rwa [Bg,DI] at this
    refine⟨D5,Co.Fz λj x hj=>?_⟩;rw[BV] at hj;split at hj;.rename_i s;rw[Cc] at hj;obtain⟨y,hy,c⟩:=p.get hj;have hlt:off+i*z+j<cs.length:=(Ae.1 hj).1;refine⟨y,?_,Bp.mono ha.le _ _ c⟩;simp only[Gh.CC,BB,Ad hlt];rw[Ca hlt] at hy;simpa using hy
    .cases hj
   .cases hf
  .cases hf
 .cases hf;exact⟨γ,.refl _,hr,hv⟩
def O9:∀{An:List (List Aa)} {s:Aq},KM An=some s->∃ns:List Int,An=ns.map (λn=>[.int .u8 n])/\s=ns.map λn=>UInt8.ofNat n.toNat
 |[],s,hs=>by cases hs;exact⟨[],rfl,rfl⟩
 |r::An,s,hs=>by
  unfold KM at hs;split at hs;.rename_i Hy;cases Hy
  .rename_i n rs Hy;cases Hy;cases hq:KM An with
   |none=>rw[hq] at hs;cases hs
   |some l=>rw[hq] at hs;cases hs;obtain⟨ns,rfl,rfl⟩:=O9 hq;exact⟨n::ns,rfl,rfl⟩
  .cases hs
def SU:∀(ns:List Int) (r:ByteArray),ns.foldl (λr n=>r.push (UInt8.ofNat n.toNat)) r=⟨r.data++(ns.map λn=>UInt8.ofNat n.toNat).toArray⟩
 |[],r=>Au
 |n::ns,r=>by rw[oI,SU ns];simp[ByteArray.push]
def xD{o:Oper}{src dst e:TypeId}{x:Operand}{v v' u:Aa}{h':Ag}(ho:o.op= .convert src dst x)(hs:C.P.underlying src=some (.slice e))(hd:C.P.underlying dst=some .string)(he:C.P.underlying e=some (.int .u8))(hx:DX C U x=some v)(hf:La h v=some (h',v'))(hp:Ax .Uu [v']=some u)
  (hr:Ct C γ0 w0 γ Z U h a w):EJ C γ0 w0 o a w (U.put o.dst (.val u)) h':=by
 obtain⟨γ',DG,FH,Gv⟩:=hr.Sn (Fh hr hx) hf;have KG:∀s,(Conv.bytesToString (a.eval x)).run C.P w= .ok s w->(∃p l c,a.eval x= .slice p l c)->(execOp a.eval o).run C.P w= .ok (.value s) w:=λs Ay ⟨p,l,c,Z6⟩=>by simp only[execOp,ho];refine CN ?_;rw[Z6] at Ay⊢;rw[run_convert_bytes_string w src dst e p l c hs he hd];exact Ay
 simp only[Ax] at hp;unfold Wk at hp;split at hp
 .rename_i An;cases hq:KM An with
  |none=>rw[hq] at hp;cases hp
  |some s=>
   rw[hq] at hp;cases hp;obtain⟨ns,rfl,rfl⟩:=O9 hq;obtain⟨ad,cap,Z6,hc,hsp,hR⟩:=Gv;have LA:∀(j:Nat) (v:Value),(ns.map (Value.int .u8))[j]?=some v->ad.add j=⟨ad.block,ad.off+j,none⟩:=λj v hj=>by
    have hpos:0<ns.length:=by have:=(Ae.1 hj).1;simp at this;omega
    have aR:=LY hsp hc (by simpa using hpos);generalize ad.block=b at*;generalize ad.off=o at*;subst aR;unfold Addr.add;split<;>simp_all
   have hl:=run_loadCells_list (P:=C.P) w ad (ns.map (Value.int .u8)) (λj v hj=>by
    rw[LA j v hj];simp only[CT] at hj;cases hn:ns[j]? with
    |none=>rw[hn] at hj;cases hj
    |some n=>rw[hn] at hj;cases hj;obtain⟨_,g⟩:=hR.get (i:=j) (r:=[.int .u8 n]) (by simp[hn]);obtain⟨y,hy,d⟩:=g.get (i:=0) (a:= .int .u8 n) rfl;rw[show y=_ from d] at hy;have:=(FH.Db.GA _ _ _ hy).1;simpa using this)
   simp only[Aw] at hl;have Ay:=run_bytesToString (P:=C.P) w ad ns.length cap ns hl;have f:ByteArray.empty.data=#[]:=rfl;rw[SU,f,Array.empty_append] at Ay;have e1:a.eval x= .slice (some ad) ns.length cap:=by rw[Z6];simp
   rw[<-e1] at Ay;exact EJ.value (KG _ Ay ⟨_,_,_,e1⟩) (FH.put λ_ _=>rfl)
 .cases hp;have e1:a.eval x= .slice none 0 0:=Gv;have Ay:(Conv.bytesToString (a.eval x)).run C.P w= .ok (.string ⟨⟨[]⟩⟩) w:=by rw[e1];simp[Conv.bytesToString];rfl
  exact EJ.value (KG _ Ay ⟨_,_,_,e1⟩) (FH.put λ_ _=>rfl)
 .cases hp
def qG(C:E7)(f:FuncId):Prop:=
 (∃fn c,C.P.funcs[f]?=some fn/\(fn.name== "runtime.NumGoroutine")=false/\fn.body=some c)/\
 ∀(γ:Gh) (h:Ag) (w:World) (s:Aa) (d:Value) (i x:Int) (h':Ag) (r:Aa) (g b:Nat) (us:Array Value) (e:TypeId),Fg γ h w->Bp γ s d->Nv h [s,.int .i64 i,.sl 1 [[.int .i64 x]]]=some (h',r)->
  w.heap[g]?=some (.cells us e (0,0))->us[0]?=some (.int .i64 x)->(∀id,γ.Bn g≠some (.Kd id))->1<=b->us.size=b->
  Calls C.P f #[d,.int .i64 i,.slice (some ⟨g,0,none⟩) 1 b] w λe w'=>match e with
   | .returned v=>∃γ',Fg γ' h' w'/\IB γ w γ' w'/\Bp γ' r v
   |_=>False
def DO(C:E7)(run:IT->Ag->Option IF):Prop:=
 ((∀g cs,C.Fl g=some cs->cs.all Aa.KE=true)/\∀f,C.Mr f=true->qG C f)/\
 ∀(f:FuncId) (args:List Aa) (h:Ag) (r:Aa) (h':Ag),run (BK C f args) h=some (.ret,[r],h')->
  (∃fn c,C.P.funcs[DE f]?=some fn/\(fn.name== "runtime.NumGoroutine")=false/\fn.body=some c)/\
  ∀(γ:Gh) (w:World) (cargs:Array Value),Fg γ h w->(∀g cs,C.Fl g=some cs->Co γ cs g 0)->AK γ args cargs.toList->
   Calls C.P (DE f) cargs w λe w'=>match e with
    | .returned v=>∃γ',Fg γ' h' w'/\IB γ w γ' w'/\Bp γ' r v/\(C.HP f=true->∃s c,Hq γ' w.heap.size w' s c v r)
    |_=>False
def Ct.kz(hr:Ct C γ0 w0 γ Z U h a w){h':Ag}{r:Aa}{v:Value}(hi:Fg γ' h' w')(ha:IB γ w γ' w')(hv:Bp γ' r v){Bn:Bool}(ho:Bn=true->∃s c,Hq γ' w.heap.size w' s c v r)(d:Option Nat):
  ∃f,Ct C γ0 w0 f Z (U.put d (if Bn then .Bn r else .val r)) h' (a.put d v) w':=by
 cases Bn with
 |false=>exact⟨γ',(hr.world hi ha).put λ_ _=>hv⟩
 |true=>
  obtain⟨s,c,i⟩:=ho rfl;rcases i with i|⟨g,n,cap,us,e,z,An,rfl,h2,l,k,j⟩
  .exact⟨γ',(hr.world hi ha).put λ_ _=>⟨hv,.inl i⟩⟩
  .have kg:IB γ w (γ'.EF g (.tail U.length none (n*z))) w':=⟨ha.le.trans (FO _ _ _),ha.size,ha.os,ha.tape,ha.output,λb hb hn=>by obtain⟨p,q⟩:=ha.KF b hb hn;exact⟨p,by simp only[Gh.EF,Ac (Ab:b≠g)];exact q⟩⟩
   have FH:=hr.world (hi.EF (s':=U.length) (c':=none) l) kg;exact FH.SO (Bp.mono (FO _ _ _) _ _ hv) (.inr ⟨g,n,cap,us,e,z,An,rfl,h2,by simp[Gh.EF],A5 hr.C2.size k,j⟩) d
def GD{P:Program}{f:FuncId}{fn:Func}{c:Code}(hf:P.funcs[f]?=some fn)(hname:(fn.name== "runtime.NumGoroutine")=false)(hb:fn.body=some c)(args:Array Value)(w:World):
  (callFunc f args).run P w= .ok (.enter f args) w:=by
 have hn:¬fn.name= "runtime.NumGoroutine":=by simpa using hname
 simp[callFunc,hf,hn,hb]
def Pb{o:Oper}{f:FuncId}{cargs:Array Value}{K:Act->World->Prop}{Q:Exit->Act->World->Prop}(he:(execOp a.eval o).run C.P w= .ok (.enter f cargs) w){R:Value->World->Prop}
  (hc:Calls C.P f cargs w λe w'=>match e with| .returned v=>R v w'|_=>False) (hk:∀v w',R v w'->K (a.put o.dst v) w'):o.wp C.P a w K Q:=by
 unfold Oper.wp;rw[he];refine hc.mono λe w' h=>?_;cases e with
 |returned v=>exact hk v w' h
 |_=>exact h.elim
def qH{run:IT->Ag->Option IF}(hS:DO C run){o:Oper}{c:Call}{f:FuncId}{args:List Aa}{r:Aa}{h':Ag}{K:Act->World->Prop}{Q:Exit->Act->World->Prop}(ho:o.op= .call c)(hcl:c.callee= .value (.func (DE f)))(ha:A0 C U c.args.toList=some args)
  (Ay:run (BK C f args) h=some (.ret,[r],h')) (hr:Ct C γ0 w0 γ Z U h a w) (hK:∀γ' v w',Ct C γ0 w0 γ' Z (U.put o.dst (if C.HP f then .Bn r else .val r)) h' (a.put o.dst v) w'->K (a.put o.dst v) w'):o.wp C.P a w K Q:=by
 obtain⟨⟨fn,g,hf,hname,hb⟩,d⟩:=hS.2 f args h r h' Ay;have b:AK γ args (c.args.map a.eval).toList:=by simpa using C4 hr ha
 refine Pb (f:=DE f) (cargs:=c.args.map a.eval) ?_ (d γ w _ hr.Db hr.Fl b) λv w' ⟨γ',hi,Im,hv,hown⟩=>?_;.have h0:a.eval (.func (DE f))= .func (.func (DE f)) #[] #[]:=rfl;simp only[execOp,ho,resolve,hcl,Deferred.ofValue,h0,Sem.run_bind,Sem.run_pure,Result.andThen_ok,invoke];simpa using GD hf hname hb (c.args.map a.eval) w
 .obtain⟨e,JT⟩:=hr.kz hi Im hv hown o.dst;exact hK e v w' JT
def xE{run:IT->Ag->Option IF}(hS:DO C run){o:Oper}{c:Call}{f:FuncId}{s i x:Operand}{args:List Aa}{r:Aa}{h':Ag}{K:Act->World->Prop}{Q:Exit->Act->World->Prop}(ho:o.op= .call c)(hcl:c.callee= .value (.func f))(hf:C.Mr f=true)(DN:c.args.toList=[s,i,x])(hown:Jb C U x=true)
  (ha:A0 C U [s,i,x]=some args) (hp:Nv h args=some (h',r)) (hr:Ct C γ0 w0 γ Z U h a w) (hK:∀γ' v w',Ct C γ0 w0 γ' Z (U.put o.dst (.val r)) h' (a.put o.dst v) w'->K (a.put o.dst v) w'):o.wp C.P a w K Q:=by
 obtain⟨⟨fn,T,qI,hname,hb⟩,xF⟩:=hS.1.2 f hf;have bD:=C4 hr ha;obtain⟨t,k_,f1,g1,f2⟩:∃t k_,[a.eval s,a.eval i,a.eval x]=t::k_/\Bp γ (args.getD 0 .nilIface) t/\True:=by
  cases args with
  |nil=>cases bD
  |cons y l=>obtain⟨u,us,e,p,q⟩:=bD;exact⟨u,us,e,p,trivial⟩
 obtain⟨s',d,x',he,k,F,E⟩:∃s' d x',args=[s',.int .i64 d,.sl 1 [[.int .i64 x']]]/\∃(k:Bp γ s' (a.eval s)) (F:a.eval i= .int .i64 d),Bp γ (.sl 1 [[.int .i64 x']]) (a.eval x):=by
  unfold Nv at hp;split at hp;.obtain⟨_,_,_,e,D,B,A⟩:=bD.Vn;simp only[AZ,De,Ey,KB] at e;obtain⟨rfl,rfl,rfl⟩:=e;exact⟨_,_,_,rfl,D,B,A⟩
  .obtain⟨_,_,_,e,D,B,A⟩:=bD.Vn;simp only[AZ,De,Ey,KB] at e;obtain⟨rfl,rfl,rfl⟩:=e;exact⟨_,_,_,rfl,D,B,A⟩
  .cases hp
 subst he;have Z5:DX C U x=some (.sl 1 [[.int .i64 x']]):=by simp only[A0] at ha;cases h1:DX C U s<;>cases h2:DX C U i<;>cases H:DX C U x<;>simp_all
 obtain⟨sl,Z6⟩:∃sl,Dg C U x=some sl:=by
  unfold Jb at hown;cases hs:Dg C U x with
  |none=>rw[hs] at hown;cases hown
  |some sl=>exact⟨sl,rfl⟩
 have aAl:∃v,sl= .Bn v:=by unfold Jb at hown;rw[Z6] at hown;cases sl<;>first|exact⟨_,rfl⟩|cases hown
 obtain⟨v,rfl⟩:=aAl;obtain⟨s0,hrel,_⟩:=E2 hr Z6;have aAm:v= .sl 1 [[.int .i64 x']]:=by simp only[DX,Z6,BU,Dw.FM,Bv] at Z5;exact Z5
 subst aAm;obtain⟨gC,j⟩:=hrel;rcases j with(j|⟨_,j⟩)|⟨g,n,cap,us,e,z,An,h1,h2,H,O,G,L,J,h8,N⟩
 .cases j
 .cases j
 .cases h1;obtain⟨ad,I,e1,S,R,M⟩:=E;rw[h2] at e1;cases e1;obtain⟨_,hm,_⟩:=M;obtain⟨⟨u,hu,hru⟩,_⟩:=hm;obtain⟨GC,_,_⟩:=hr.Db.GA _ _ _ hu;have Vi:us[0]?=some (.int .i64 x'):=by rw[cell_of_row w _ _ us e (0,0) G] at GC;rw[GC];exact B1 some hru
  have b:c.args.map a.eval=#[a.eval s,.int .i64 d,.slice (some ⟨g,0,none⟩) 1 cap]:=by apply Fe;simp only[Lo,DN,AZ,De,F,h2];rfl
  have QZ:=xF γ h w s' _ d x' h' r g cap us e hr.Db k hp G Vi (λid Hm=>by rw[H] at Hm;cases Hm) J (by rw[L,Iy]);rw[<-b] at QZ;refine Pb (f:=f) (cargs:=c.args.map a.eval) ?_ QZ λv w' ⟨γ',hi,Im,hv⟩=>?_;.have h0:a.eval (.func f)= .func (.func f) #[] #[]:=rfl;simp only[execOp,ho,resolve,hcl,Deferred.ofValue,h0,Sem.run_bind,Sem.run_pure,Result.andThen_ok,invoke];simpa using GD qI hname hb (c.args.map a.eval) w
  .obtain⟨m,JT⟩:=hr.kz (Bn:=false) hi Im hv (λe=>by cases e) o.dst;exact hK m v w' (by simpa using JT)
def Gh.apart(γ:Gh):Gh:={GA:=γ.GA,mu:=λ_=>none,Bn:=λb=>match γ.Bn b with|some (.Kd _)=>none|x=>x,sz:=γ.sz}
def Fg.apart(hi:Fg γ h w):Fg γ.apart [] w:=by
 refine⟨λb o v hb=>?_,λid x hx=>by simp at hx,λid cs hx=>by simp at hx,λid es hx=>by simp at hx,λid b hb=>(by cases hb),λb x hx=>?_,λb n hb=>?_⟩;rotate_left 2;.obtain⟨p,r⟩:=hi.sz b n hb;refine⟨p,.inl ?_⟩;simp only[Gh.apart];rcases r with r|⟨_,r⟩<;>rw[r]
 .obtain⟨p,q,r⟩:=hi.GA b o v hb;refine⟨p,q,?_⟩;simp only[Gh.apart];rcases r with r|⟨s,c,st,r,hl⟩
  .exact .inl (by rw[r])
  .exact .inr ⟨s,c,st,by rw[r],hl⟩
 .simp only[Gh.apart] at hx;split at hx;.cases hx
  .exact hi.Bn b x hx
def Ct.xG(hr:Ct C γ0 w0 γ Z U h a w){c:Gh}{h1:Ag}(hi:Fg c h1 w')(ha:IB γ.apart w c w'):∃d,Ct C γ0 w0 d Z U h a w':=by
 have X0:∀b id,γ.apart.Bn b≠some (.Kd id):=λb id e=>by
  simp only[Gh.apart] at e;split at e;.cases e
  .rename_i hn;exact hn id e
 have Lv:∀b,b<w.heap.size->w'.heap[b]?=w.heap[b]?:=λb hb=>(ha.KF b hb (X0 b)).1;refine⟨γ,hr.world ⟨λb o v hb=>?_,hr.Db.Kd,λid cs hc b hb=>?_,λid es hc b hb=>?_,hr.Db.mu,λb x hx=>Dm (hr.Db.Bn b x hx) ha.size,λb n hb=>(by
   obtain⟨⟨us,e,fr,p,q⟩,r⟩:=hr.Db.sz b n hb;exact⟨⟨us,e,fr,by rw[Lv b (As.1 p).1];exact p,q⟩,r⟩)⟩
  ⟨.refl _,ha.size,ha.os,ha.tape,ha.output,λb hb _=>⟨Lv b hb,rfl⟩⟩⟩
 .obtain⟨p,q,r⟩:=hr.Db.GA b o v hb;exact⟨by rw[BI (Lv b (Cr p))];exact p,q,r⟩
 .obtain⟨us,e,fr,p,q⟩:=hr.Db.cells id cs hc b hb;exact⟨us,e,fr,by rw[Lv b (As.1 p).1];exact p,q⟩
 .obtain⟨C3,clock,p,q⟩:=hr.Db.map id es hc b hb;exact⟨C3,clock,by rw[Lv b (As.1 p).1];exact p,q⟩
def SV{γ γ':Gh}{x:Aa}{v:Value}(hf:x.KE=true)(hv:Bp γ x v):Bp γ' x v:=by cases x<;>first|exact hv|cases hf
def Vv{γ γ':Gh}:∀{l:List Aa} {us:List Value},l.all Aa.KE=true->AK γ l us->AK γ' l us
 |[],us,_,h=>h
 |x::l,us,hf,h=>by obtain⟨u,CS,e,h1,h2⟩:=h;simp only[Wj,Bi] at hf;exact⟨u,CS,e,SV hf.1 h1,Vv hf.2 h2⟩
def Co.apart{γ:Gh}:∀{l:List Aa} {b o:Nat},Co γ l b o->l.all Aa.KE=true->Co γ.apart l b o
 |[],_,_,_,_=>trivial
 |x::l,b,o,h,hf=>by obtain⟨⟨u,h1,h2⟩,c⟩:=h;simp only[Wj,Bi] at hf;exact⟨⟨u,h1,SV hf.1 h2⟩,c.apart hf.2⟩
def lG{run:IT->Ag->Option IF}(hS:DO C run){o:Oper}{c:Call}{f:FuncId}{args:List Aa}{r:Aa}{h1:Ag}{K:Act->World->Prop}{Q:Exit->Act->World->Prop}(ho:o.op= .call c)(hcl:c.callee= .value (.func (DE f)))(ha:A0 C U c.args.toList=some args)
  (hfa:args.all Aa.KE=true) (Ay:run (BK C f args) []=some (.ret,[r],h1)) (fY:r.KE=true) (hr:Ct C γ0 w0 γ Z U h a w) (hK:∀γ' v w',Ct C γ0 w0 γ' Z (U.put o.dst (.val r)) h (a.put o.dst v) w'->K (a.put o.dst v) w'):o.wp C.P a w K Q:=by
 obtain⟨⟨fn,i,hf,hname,hb⟩,d⟩:=hS.2 f args [] r h1 Ay;have b:AK γ.apart args (c.args.map a.eval).toList:=Vv hfa (by simpa using C4 hr ha);refine Pb (f:=DE f) (cargs:=c.args.map a.eval) ?_ (d γ.apart w _ hr.Db.apart (λg cs hg=>(hr.Fl g cs hg).apart (hS.1.1 g cs hg)) b) λv w' ⟨γ',hi,Im,hv,_⟩=>?_;.have h0:a.eval (.func (DE f))= .func (.func (DE f)) #[] #[]:=rfl;simp only[execOp,ho,resolve,hcl,Deferred.ofValue,h0,Sem.run_bind,Sem.run_pure,Result.andThen_ok,invoke];simpa using GD hf hname hb (c.args.map a.eval) w
 .obtain⟨e,JT⟩:=hr.xG hi Im;exact hK e v w' (JT.put λ_ _=>SV fY hv)
def lH{run:IT->Ag->Option IF}(hS:DO C run){o:Oper}{c:Call}{g:Operand}{k:Aa}{f:FuncId}{args args':List Aa}{r:Aa}{h':Ag}{K:Act->World->Prop}{Q:Exit->Act->World->Prop}(ho:o.op= .call c)(hcl:c.callee= .value g)(hg:DX C U g=some k)
  (ha:A0 C U c.args.toList=some args) (ht:CM k args=some (f,args')) (Ay:run (BK C f args') h=some (.ret,[r],h')) (hr:Ct C γ0 w0 γ Z U h a w) (hK:∀γ' v w',Ct C γ0 w0 γ' Z (U.put o.dst (.val r)) h' (a.put o.dst v) w'->K (a.put o.dst v) w'):o.wp C.P a w K Q:=by
 obtain⟨⟨fn,l,hf,hname,hb⟩,b⟩:=hS.2 f args' h r h' Ay;have j:=Fh hr hg;unfold CM at ht;split at ht
 .rename_i f0 first captured
  split at ht;rotate_left;.cases ht
  rename_i wB;cases ht;rw[show DE f=f from Ad wB] at hf b;obtain⟨fs,cs,HK,h1,h2⟩:=j;have d:AK γ (first++args++captured) (fs++c.args.map a.eval++cs).toList:=by simpa using(h1.append (C4 hr ha)).append h2
  refine Pb (f:=f) (cargs:=fs++c.args.map a.eval++cs) ?_ (b γ w _ hr.Db hr.Fl d) λv w' ⟨γ',hi,Im,hv,hown⟩=>?_;.simp only[execOp,ho,resolve,hcl,Deferred.ofValue,HK,Sem.run_bind,Sem.run_pure,Result.andThen_ok,invoke];exact GD hf hname hb _ w
  .obtain⟨i,JT⟩:=hr.kz (Bn:=false) hi Im hv (λe=>by cases e) o.dst;exact hK i v w' (by simpa using JT)
 .cases ht
end
end Go.Am
end
