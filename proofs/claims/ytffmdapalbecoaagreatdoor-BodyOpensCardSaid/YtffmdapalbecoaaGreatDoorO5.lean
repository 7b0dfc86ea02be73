/- Lemmas -/
import Derived.Test.YtffmdapalbecoaaGreatDoorO4
import Derived.Deep.AppendSrc
import Derived.Great.BuildSlice
import Derived.Laws.IdiomStrings
set_option linter.all false
open List renaming length→zz,replicate→zi,range→z7
open Option renaming some→zy,none→zw
open Go.Value renaming slice→zx,int→zm
open Go.Builtin renaming append_→zu
open Go.Am.Gw renaming value→zt
open Go.Result renaming andThen_ok→zq,ok→z8
open Go.Am.Gh renaming BW→zp
open Go.Deferred renaming ofValue→zo
open Go.Instr renaming buildSlice→zn,fill→zf
open Bool renaming true→zl,false→z5
open ByteArray renaming size→zk
open Go.Conv renaming bytesToString→zj
open Array renaming range→zg
open Go.Sem renaming run_bind→ze,run_pure→zd
open Go.Am.Aa renaming int→za
open Or renaming inl→z2,inr→z3
section
namespace Go.Am
open Go
section
variable{C:GN}{U0 U U':Gh}{w0 w w':World}{O:Nat->Nat}{Z:BU}{h:Ah}{a:Act}{fid:FuncId}{ops:List Oper}
def DU{P:Program}{s:Sem Value}{v:Value}(hs:s.run P w= z8 v w'):(do pure (Next.value (<-s)):Sem Next).run P w= z8 (.value v) w':=by simp[hs]
def VU{J:Type}{z:Nat}:∀{AD:List (List J)},(∀r∈AD,zz r=z)->∀{i:Nat} {r:List J},AD[i]?=zy r->∀{j:Nat} {x:J},r[j]?=zy x->AD.flatten[i*z+j]?=zy x
 |[],_,i,r,hi,_,_,_=>by simp at hi
 |q::AD,hl,0,r,hi,j,x,hj=>by grind
 |q::AD,hl,i+1,r,hi,j,x,hj=>by have:=VU (AD:=AD) (λr hr=>hl r (by simp[hr])) hi hj;grind
def HS{J:Type}{z:Nat}:∀{AD:List (List J)},(∀r∈AD,zz r=z)->zz AD.flatten=zz AD*z
 |[],_=>AH
 |q::AD,hl=>by have hq:=hl q AH;simp[hq,HS (AD:=AD) (λr hr=>hl r (by simp[hr])),B9,P2]
def O3{AD:List (List Aa)}{us:List Value}{z b o:Nat}(hl:∀r∈AD,zz r=z)(hv:Bp U AD.flatten us)(hi:∀(j:Nat) (u:Value),us[j]?=zy u->U.IZ b (o+j)=zy u):FZ U AD z b o:=by refine FZ.HD λi r hr=>⟨hl r (CV hr),Df.HD λj x hj=>?_⟩;let⟨u,hu,hx⟩:=hv.get (VU hl hr hj);grind
def Dd.drew(hr:Dd C U0 w0 U O Z h a w):Dd C U0 w0 U O Z h a w.drew:=hr.JF (hr.Eh.same rfl) (LQ.drew U w)
def BU.U9(Z:BU):Z.at (zz Z)= .undef:=by simp[BU.at,List.getD]
section
variable(hr:Dd C U0 w0 U O Z h a w)
def Dd.YJ{x:Aa}{v:Value}(hv:BT U x v)(ho:Jp U w0.heap.size w (zz Z) zw v x)(d:Option Nat):∃U',Dd C U0 w0 U' O (Z.put d (.Bu x)) h (a.put d v) w:=by
 cases d with
 |none=>exact⟨U,hr⟩
 |some d=>
  obtain ho|⟨g,n,cap,us,e,z,AD,h1,h2,f,b,c⟩:=ho
  .exact⟨U,hr.put λs _=>⟨hv,z2 ho⟩⟩
  .have KA:=hr.Gn (s':=d) (c':=zw) f b (λ_ u=>by rw[BU.U9];simp) (λo ho=>by cases ho);exact⟨_,KA.put λs hs=>by cases hs;exact⟨BT.mono (HP _ _ _) _ _ hv,z3 ⟨g,n,cap,us,e,z,AD,h1,h2,by simp[Gh.Gn],b,c⟩⟩⟩
def Dd.YK(us:Array Value)(e:TypeId){z n cap:Nat}{AD:List (List Aa)}(hz:0<z)(hn:zz AD=n)(hl:∀r∈AD,zz r=z)(dE:us.size=cap*z)(hc:n<=cap)(hm:cap<=maxLen)
  (hv:Bp U AD.flatten (us.toList.take (n*z))) (h1:∀u∈us.toList.take (n*z),u.oneCell'=zl):
  ∃U',U.le U'/\Dd C U0 w0 U' O Z h a (w.alloc (.cells us e))/\BT U' (.sl z AD) (zx (zy ⟨w.heap.size,0,zw⟩) n cap)/\Jp U' w0.heap.size (w.alloc (.cells us e)) (zz Z) zw (zx (zy ⟨w.heap.size,0,zw⟩) n cap) (.sl z AD):=by
 let⟨hi,ha⟩:=Qg hr.Eh us e (0,0) (n*z) (zy (.tail (zz Z) zw (n*z))) (λo u ho hu=>h1 u (CV (by rw[DS ho];exact zv hu))) (z3 (z2 ⟨_,_,rfl⟩));refine⟨_,ha.le,hr.JF hi ha,⟨⟨w.heap.size,0,zw⟩,cap,by rw[hn],Ab,z2 rfl,O3 hl (Bp.mono ha.le _ _ hv) λj u hj=>?_⟩,z3 ⟨w.heap.size,n,cap,us,e,z,AD,rfl,rfl,by simp[Gh.DH],hr.Ed.size,heap_alloc_new w _,dE,hc,hm,hz⟩⟩;rw[Ci] at hj;split at hj;next hlt=>simp[Gh.DH,BR,B2,Af hlt];grind
 .cases hj
end
def YL{size:Nat}:∀(vs:List Value) (k:Nat) (cells:Array Value),(∀v∈vs,v.cells.size=size)->(k+zz vs)*size<=cells.size->
  zf (λi=>zy (i*size,size)) cells ((vs.zipIdx k).map λp=>(p.2,p.1))=zy (cells.toList.take (k*size)++vs.flatMap (·.cells.toList)++cells.toList.drop ((k+zz vs)*size)).toArray
 |[],k,cells,_,_=>by simp[zf]
 |v::vs,k,cells,hv,hl=>by
  have hs:v.cells.size=size:=hv v AH;simp[Bn] at hl;have EH:(k+1)*size+zz vs*size<=cells.size:=by rw[<-B9];exact Bv (No (by congr 1;omega)) hl
  have bQ:(k+1)*size=k*size+size:=by rw[B9,Gd]
  simp only[cu,Bm,zf];have f:¬(v.cells.size≠size\/k*size+v.cells.size>cells.size):=by rw[hs];omega
  simp only[B3,decide_not,WN,Cd,Bool.not_eq_true',UH] at*;rw[Ac f];have hf:=O0 v.cells.toList (k*size) 0 cells (by simp[hs];omega);have aNE:v.cells.zipIdx.foldl (λcs (c,j)=>cs.setIfInBounds (k*size+j) c) cells=(cells.toList.take (k*size)++v.cells.toList++cells.toList.drop (k*size+size)).toArray:=by rw[<-aRu,aNs];rw[hf];simp[hs]
  rw[aNE];have hlen:(cells.toList.take (k*size)++v.cells.toList++cells.toList.drop (k*size+size)).length=cells.size:=by simp[hs];omega
  rw[YL vs (k+1) _ (λu hu=>hv u (by simp[hu])) (by simp only[Ca];rwa[hlen,B9])]
  congr 2
  have b:(cells.toList.take (k*size)++v.cells.toList).length=(k+1)*size:=by simp[hs];omega
  have e:(cells.toList.take (k*size)++v.cells.toList++cells.toList.drop (k*size+size)).take ((k+1)*size)=cells.toList.take (k*size)++v.cells.toList:=by rw[<-b];exact FW
  have d:(cells.toList.take (k*size)++v.cells.toList++cells.toList.drop (k*size+size)).drop ((k+1+zz vs)*size)=cells.toList.drop ((k+(zz vs+1))*size):=by
   rw[UI,AT (by rw[b];exact Ea _ Ab),b,Fi,BY];congr 1
   have:(k+1+zz vs)*size-(k+1)*size=zz vs*size:=by rw[B9 (k+1)];omega
   rw[this,B9 k,B9 (zz vs)];omega
  rw[e,d];simp
section
variable{P:Program}{t:TypeId}
def LV(h:MP P t=zl):∃i z,P.info? t=zy i/\i.zero=zy z/\z.cells.size=i.size:=by rw[MP] at h;grind
def Ko{n:Nat}{i:TypeInfo}(h:B7 P t=zy n)(hi:P.info? t=zy i):i.size=n:=by simpa[B7,hi] using h
def Mu{n:Nat}{i:TypeInfo}(h:KF P t=zy n)(hi:P.info? t=zy i):i.bytes=n:=by simpa[KF,hi] using h
end
def YM:∀{args:List Aa} {us:List Value} {z:Nat},Bp U args us->(∀x∈args,zz x.cells=z)->0<z->Bp U (args.map (·.cells)).flatten (us.flatMap (·.cells.toList))/\(∀u∈us.flatMap (·.cells.toList),u.oneCell'=zl)/\∀u∈us,u.cells.size=z
 |[],us,z,h,_,_=>by rw[Bp] at h;subst h;exact⟨rfl,AH,AH⟩
 |x::args,us,z,h,hl,hz=>by
  obtain⟨u,D4,rfl,h1,h2⟩:=h;have hx:=hl x AH;let⟨b,e⟩:=HQ h1 Ab;let⟨c,r2,d⟩:=YM h2 (λy hy=>hl y (by simp[hy])) hz;refine⟨zv (b.append c),λv hv=>?_,λv hv=>?_⟩;.grind
  .rcases AR.1 hv with rfl|hv
   .have:=b.length;simp at this;omega
   .grind
def dR{a:Act}:∀{l:List (Nat×Operand)} {k:Nat},l.map (·.1)=List.range' k (zz l)->l.map (λp=>(p.1,a.eval p.2))=((l.map λp=>a.eval p.2).zipIdx k).map λp=>(p.2,p.1)
 |[],k,_=>AH
 |(i,x)::l,k,h=>by simp[Bm,Bn,List.range'_succ,Fs] at h;obtain⟨rfl,h⟩:=h;simp[cu,dR h]
section
variable{o:Oper}{t e:TypeId}{len n:Nat}{parts:Array (Nat×Operand)}
def yi{args:List Aa}{u:Aa}(ho:o.op= .buildSlice t len parts)(ht:C.P.underlying t=zy (.slice e))(LC:B7 C.P e=zy (n+1))(hp:parts.toList.map (·.1)=z7 len)(pU:MP C.P e=zl)
  (ha:BC C Z (parts.toList.map (·.2))=zy args) (hu:AA (.Dk (n+1)) args=zy u) (hr:Dd C U0 w0 U O Z h a w):Gw C U0 w0 o a w (Z.put o.dst (.Bu u)) h:=by
 let⟨i,z,hi,hz,hZ⟩:=LV pU;have RK:=Ko LC hi;simp only[AA] at hu;split at hu
 .rename_i hc;cases hu;simp[Bq,Ei,ĵ,Cd] at hc;let⟨Tg,JH⟩:=hc;have Fb:=Ee hr ha;have hlen:zz parts.toList=len:=by have:=Cj List.length hp;exact zv this
  have VV:zz args=len:=by have:=Fb.length;simp at this;simp at hlen;omega
  let⟨f,j,g⟩:=YM Fb Tg (Db n);have dS:=f.length;rw[HS (z:=n+1) (by intro r hr;obtain⟨x,hx,rfl⟩:=Bs.1 hr;exact Tg x hx),Ao,VV] at dS;have Bb:∃cells:Array Value,cells.toList=(parts.toList.map (·.2) |>.map a.eval).flatMap (·.cells.toList)/\(zn t len (parts.map λ(i,x)=>(i,a.eval x))).run C.P w= z8 (zx (zy ⟨w.heap.size,0,zw⟩) len len) (w.alloc (.cells cells e)):=by
   have pS:(parts.map λ(i,x)=>(i,a.eval x)).toList=(((parts.toList.map (·.2)).map a.eval).zipIdx 0).map λp=>(p.2,p.1):=by have:=dR (a:=a) (l:=parts.toList) (k:=0) (by rwa[hlen,<-aMv]);simp[N8,List.map_map];exact this
   have ee:=YL (size:=n+1) ((parts.toList.map (·.2)).map a.eval) 0 ((zg (len*(n+1))).map (z.cells[·%z.cells.size]!)) g (by simp at hlen⊢;rw[hlen];exact Ae _);rw[<-pS] at ee;have e0:((zg (len*(n+1))).map (z.cells[·%z.cells.size]!)).toList.drop ((0+((parts.toList.map (·.2)).map a.eval).length)*(n+1))=[]:=by apply AT;simp at hlen⊢;rw[hlen];exact Ae _
   rw[e0] at ee;simp only[VM,KU,BY,BB] at ee;refine⟨_,rfl,?_⟩;by_cases h0:len*(n+1)=0
   .have d:len=0:=by
     obtain h|h:=Nat.mul_eq_zero.1 h0
     .exact h
     .omega
    subst d;have c:parts=#[]:=by apply Jj;exact zv hlen
    subst c;have b:(zg 0:Array Nat)=#[]:=rfl;simp[zn,run_underlying ht,sizeOf,typeInfo,hi,newRow,zf,b]
   .exact run_buildSlice w t e len _ _ i z ht hi hz (by rw[RK];rw[VV] at JH;omega) (by rwa[RK]) (by rwa[RK])
  let⟨cells,hcells,Bb⟩:=Bb;have hcs:cells.size=len*(n+1):=by rwa[<-Cv,hcells]
  let⟨U',EH,Gy,DR,Gf⟩:=hr.YK cells e (z:=n+1) (n:=len) (cap:=len) (AD:=args.map (·.cells)) (Db n) (by simp[VV]) (by intro r hr;obtain⟨x,hx,rfl⟩:=Bs.1 hr;exact Tg x hx) hcs (Ae _)
   (by rw[VV] at JH;have:len<=len*(n+1):=Jk _ (Db n);simp[maxLen];omega) (by rwa[hcells,AF (by rw[dS];exact Ae _)]) (by rwa[hcells,AF (by rw[dS];exact Ae _)])
  let⟨m,LU⟩:=Gy.YJ DR Gf o.dst;exact zt (by simp only[execOp,ho];exact DU Bb) LU
 .cases hu
def yj(ho:o.op= .buildSlice t len parts)(ht:C.P.underlying t=zy (.slice e))(LC:B7 C.P e=zy (n+1))(hp:parts.toList.map (·.1)=z7 len)(pU:MP C.P e=zl)(h0:len=0)
  (hr:Dd C U0 w0 U O Z h a w):Gw C U0 w0 o a w (Z.put o.dst (.Bu (.GI (n+1)))) h:=by
 subst h0;let⟨i,z,hi,hz,hZ⟩:=LV pU;have c:parts=#[]:=by simp_all
 subst c;have b:(zg 0:Array Nat)=#[]:=rfl;have Bb:(zn t 0 ((#[]:Array (Nat×Operand)).map λ(i,x)=>(i,a.eval x))).run C.P w= z8 (zx (zy ⟨w.heap.size,0,zw⟩) 0 0) (w.alloc (.cells #[] e)):=by simp[zn,run_underlying ht,sizeOf,typeInfo,hi,newRow,zf,b]
 let⟨U',EH,Gy,_,_⟩:=hr.YK #[] e (n:=0) (AD:=[]) (Db n) rfl AH AH (Ae _) (by simp[maxLen]) (by rw[VM];exact(rfl:Bp U [] [])) AH;obtain⟨d,LU⟩:=Gy.YJ (x:= .GI (n+1)) ⟨_,rfl⟩ (z2 (z3 ⟨_,rfl⟩)) o.dst;exact zt (by simp only[execOp,ho];exact DU Bb) LU
end
def ey{t':TypeId}{size bytes:Nat}{v u r:Aa}{d:Value}(FX:(∃e',C.P.underlying t'=zy (.slice e'))\/C.P.underlying t'=zy .string)(hi:HK U h w)(hu:BT U u d)(hp:Ip size bytes v u=zy r):
  ∃(AD:List (List Aa)) (news:List Value),D0 size bytes v AD=zy r/\Src C.P size t' d (zz AD) news w/\Bp U AD.flatten news/\(∀r∈AD,zz r=size):=by
 unfold Ip at hp;split at hp;.rw[show d=_ from hu];exact⟨[],[],hp,⟨FX,λ_=>rfl,run_firstCells_none w size 0 0 0,run_firstCells_none w.drew size 0 0 0,AH,AH⟩,rfl,AH⟩
 .rename_i z;split at hp;.let⟨b,Ő⟩:=hu;rw[Ő];exact⟨[],[],hp,⟨FX,λ_=>rfl,run_firstCells_some w _ _ _ _ _ [] AH (λj x hj=>by simp at hj),run_firstCells_some w.drew _ _ _ _ _ [] AH (λj x hj=>by simp at hj),AH,AH⟩,rfl,AH⟩
  .cases hp
 .rename_i z AD;split at hp
  .rename_i hz;subst hz;let⟨c,cap,Ő,Qn,hsp,hR⟩:=hu;let⟨us,g,f,e⟩:=hR.values;have Oj:∀(j:Nat) (x:Value),us[j]?=zy x->c.add j=⟨c.block,c.off+j,zw⟩:=λj x hj=>by
    have hpos:0<zz AD:=by grind
    have wK:=OU hsp Qn hpos;generalize c.block=b at*;generalize c.off=o at*;subst wK;rw[Addr.add];split<;>simp_all
   rw[Ő];refine⟨AD,us,hp,⟨FX,λ_=>rfl,run_firstCells_some w _ _ _ _ _ us f (λj x hj=>by rw[Oj j x hj];exact(hi.IZ _ _ _ (e j x hj)).1),run_firstCells_some w.drew _ _ _ _ _ us f (λj x hj=>by rw[Oj j x hj];exact(hi.IZ _ _ _ (e j x hj)).1),f,λx hx=>?_⟩,g,λr hr=>?_⟩;.let⟨j,hj⟩:=CW hx;exact(hi.IZ _ _ _ (e j x hj)).2.1
   .let⟨j,hj⟩:=CW hr;exact(hR.get hj).1
  .cases hp
 .rename_i s;split at hp
  .rename_i hz;subst hz;rw[show d=_ from hu];have hlen:(Cg s).length=(⟨⟨s⟩⟩:ByteArray).size:=by simp[Cg,zk]
   have hrel:∀l:List UInt8,Bp U (Cg l).flatten (l.map λb=>zm .u8 b.toNat):=by
    intro l;induction l with
    |nil=>rfl
    |cons b l ih=>exact⟨_,_,rfl,rfl,ih⟩
   refine⟨Cg s,byteCells ⟨⟨s⟩⟩,hp,?_,?_,λr hr=>?_⟩;.rw[hlen];exact⟨FX,λ_=>rfl,firstCells_string _ w,firstCells_string _ w.drew,by rw[byteCells_length,Ge],λu hu=>by obtain⟨_,_,rfl⟩:=Bs.1 hu;rfl⟩
   .simpa[byteCells] using hrel s
   .obtain⟨b,_,rfl⟩:=Bs.1 hr;rfl
  .cases hp
 .cases hp
def Dd.yk(hr:Dd C U0 w0 U O Z h a w){g n cap z:Nat}{us:Array Value}{e:TypeId}{rr AD:List (List Aa)}{news:List Value}(Gf:U.Bu g=zy (.tail (zz Z) zw (n*z)))(hB:w0.heap.size<=g)(hg:w.heap[g]?=zy (.cells us e (0,0)))
  (dE:us.size=cap*z) (hm:cap<=maxLen) (hz:0<z) (hv:BT U (.sl z rr) (zx (zy ⟨g,0,zw⟩) n cap)) (hl:∀r∈AD,zz r=z) (hn:Bp U AD.flatten news) (h1:∀u∈news,u.oneCell'=zl) (hroom:n+zz AD<=cap):
  ∃U',U.le U'/\Dd C U0 w0 U' O Z h a (w.setRow g (us.toList.take (n*z)++news++us.toList.drop (n*z+zz news)).toArray)/\BT U' (.sl z (rr++AD)) (zx (zy ⟨g,0,zw⟩) (n+zz AD) cap)/\
   Jp U' w0.heap.size (w.setRow g (us.toList.take (n*z)++news++us.toList.drop (n*z+zz news)).toArray) (zz Z) zw (zx (zy ⟨g,0,zw⟩) (n+zz AD) cap) (.sl z (rr++AD)):=by
 let⟨t,cap',qQ,Qn,_,hR⟩:=hv;simp[Value.slice.injEq,BF] at qQ;obtain⟨rfl,rfl,rfl⟩:=qQ;simp only at hR;have PH:zz news=zz AD*z:=by rw[hn.length,HS hl]
 have hfit:(zz rr+zz AD)*z<=us.size:=by rw[dE];exact Ea _ hroom
 rw[B9] at hfit;have c:(us.toList.take (zz rr*z)).length=zz rr*z:=EP;let⟨vs,m,q,l⟩:=hR.values;have hvs:vs=us.toList.take (zz rr*z):=by
  apply Su;intro j;by_cases hj:j<zz rr*z
  .have d:j<zz vs:=by rwa[q]
   have hc:=(hr.Eh.IZ _ _ _ (l j _ (An d))).1;rw[cell_of_row w _ _ us e (0,0) hg,B2] at hc;rw[An d,DS hj];exact zv hc.symm
  .rw[Ki Ab,Ki (by rw[c];omega)]
 rw[hvs] at m;have PU:∀u∈us.toList.take (zz rr*z),u.oneCell'=zl:=λu hu=>by rw[<-hvs] at hu;let⟨j,hj⟩:=CW hu;exact(hr.Eh.IZ _ _ _ (l j u hj)).2.1
 have f:(zz rr+zz AD)*z=zz rr*z+zz AD*z:=B9 _ _ _;have aC3:((us.toList.take (zz rr*z)++news++us.toList.drop (zz rr*z+zz news)).toArray).toList.take ((zz rr+zz AD)*z)=us.toList.take (zz rr*z)++news:=by
  have:(us.toList.take (zz rr*z)++news).length=(zz rr+zz AD)*z:=by rw[Aw,c,PH,f]
  rw[<-this];exact FW
 have LC:(us.toList.take (zz rr*z)++news++us.toList.drop (zz rr*z+zz news)).length=us.size:=by simp[PH];omega
 generalize p:(us.toList.take (zz rr*z)++news++us.toList.drop (zz rr*z+zz news)).toArray=D4 at*;have aNH:D4.size=us.size:=by rw[<-p];exact zv LC
 let⟨hi,EH⟩:=wE hr.Eh Gf hg D4 ((zz rr+zz AD)*z) (zz Z) zw (λo ho=>by
   rw[<-p,AK,List.getElem?_toArray,Ak Ab,DS ho];simp)
  Ab (λo u ho hu=>by
   have:u∈D4.toList.take ((zz rr+zz AD)*z):=by refine CV (i:=o) ?_;rw[DS ho];exact zv hu
   rw[aC3,Ay] at this;exact this.elim (PU u) (h1 u)) (λo v hv=>by
   have:=(hr.Eh.IZ _ _ _ hv).1;rwa [cell_of_row w _ _ us e (0,0) hg] at this)
 have hk:Rf g U w (U.DH g D4 ((zz rr+zz AD)*z) (zy (.tail (zz Z) zw ((zz rr+zz AD)*z)))) (w.setRow g D4):=
  ⟨EH,λb x hb hx _=>⟨by simp[Gh.DH,Ac hb];exact hx,setRow_other w g b D4 hb⟩⟩
 have k:FZ (U.DH g D4 ((zz rr+zz AD)*z) (zy (.tail (zz Z) zw ((zz rr+zz AD)*z)))) (rr++AD) z g 0:=by
  refine O3 (us:=D4.toList.take ((zz rr+zz AD)*z)) (λr hr=>?_) ?_ (λj u hj=>?_)
  .rcases Ay.1 hr with hr|hr
   .let⟨i,hi⟩:=CW hr;exact(hR.get hi).1
   .exact hl r hr
  .rw[aC3,PR];exact(Bp.mono EH _ _ m).append (Bp.mono EH _ _ hn)
  .rw[Ci] at hj;split at hj;.rename_i hlt;simp[Gh.DH,BR,B2,Af hlt];exact zv hj
   .cases hj
 refine⟨_,EH,⟨hi,⟨hr.fr.size,λs=>?_⟩,hr.Ed.write (g:=g) hB EH AH rfl rfl rfl (λb hb=>⟨setRow_other w g b D4 hb,by simp[Gh.DH,Ac hb]⟩),hr.defers,λx cs hx=>Df.mono EH _ _ _ (hr.HO x cs hx)⟩,
  ⟨⟨g,0,zw⟩,cap,AH,zv hroom,z2 rfl,k⟩,z3 ⟨g,zz rr+zz AD,cap,D4,e,z,rr++AD,rfl,rfl,by simp[Gh.DH],hB,setRow_heap w g us D4 e (0,0) hg,by rw[aNH,dE],hroom,hm,hz⟩⟩
 by_cases hs:s=zz Z;.subst hs;rw[BU.U9];trivial
 .exact(hr.fr.IS s).keptBut Gf hk (by simp[Lc.wB];intro hx;cases hx;exact hs rfl)
def O4{t t' ty:TypeId}{ts:Array TypeId}{xs:Array Value}(h0:ts[0]?=zy t)(h1:ts[1]?=zy t'):zu ts ty xs=zu #[t,t'] ty xs:=by simp only[zu,h0,h1];rfl
def Bp.ő{l:List Aa}{us:List Value}{n:Nat}(h:Bp U l us)(hn:zz us<=n):Bp U l (us.take n):=by rwa[AF hn]
section
variable{cs:List Aa}{z:Nat}
def Ok:∀{n off:Nat},(CD cs z off n).flatten=(cs.drop off).take (n*z)
 |0,off=>by simp[CD]
 |n+1,off=>by rw[CD,Dt,Ok,B9,Gd,P2 (n*z) z,aCL,Fi]
def PI:∀{n off:Nat},(CD cs z off n).length=n
 |0,off=>rfl
 |n+1,off=>by rw[CD,Bn,PI]
def R2:∀{n off:Nat},off+n*z<=zz cs->∀r∈CD cs z off n,zz r=z
 |0,off,_,r,hr=>by simp[CD] at hr
 |n+1,off,hl,r,hr=>by
  rw[B9,Gd] at hl;rw[CD,AR] at hr;obtain rfl|hr:=hr
  .grind
  .exact R2 Ab r hr
end
def YN{t':TypeId}{size:Nat}{u:Aa}{g:Value}{AD:List (List Aa)}(FX:(∃e',C.P.underlying t'=zy (.slice e'))\/C.P.underlying t'=zy .string)(hi:HK U h w)(hu:BT U u g)(hp:Hz h size u=zy AD):
  ∃news:List Value,Src C.P size t' g (zz AD) news w/\Bp U AD.flatten news/\(∀r∈AD,zz r=size):=by
 unfold Hz at hp;split at hp;.cases hp;rw[show g=_ from hu];exact⟨[],⟨FX,λ_=>rfl,run_firstCells_none w size 0 0 0,run_firstCells_none w.drew size 0 0 0,AH,AH⟩,rfl,AH⟩
 .rename_i z;split at hp;.cases hp;let⟨b,Ő⟩:=hu;rw[Ő];exact⟨[],⟨FX,λ_=>rfl,run_firstCells_some w _ _ _ _ _ [] AH (λj x hj=>by simp at hj),run_firstCells_some w.drew _ _ _ _ _ [] AH (λj x hj=>by simp at hj),AH,AH⟩,rfl,AH⟩
  .cases hp
 .rename_i z i;split at hp
  .rename_i hz;cases hp;subst hz;let⟨f,cap,Ő,Qn,hsp,hR⟩:=hu;let⟨us,k,c,d⟩:=hR.values;have Oj:∀(j:Nat) (x:Value),us[j]?=zy x->f.add j=⟨f.block,f.off+j,zw⟩:=λj x hj=>by
    have hpos:0<zz AD:=by
     obtain h0|h0:=Q6 (zz AD)
     .have:zz us=0:=by rw[c,h0,VM]
      rw[DC this] at hj;simp at hj
     .exact h0
    have wK:=OU hsp Qn hpos;generalize f.block=b at*;generalize f.off=o at*;subst wK;rw[Addr.add];split<;>simp_all
   rw[Ő];refine⟨us,⟨FX,λ_=>rfl,run_firstCells_some w _ _ _ _ _ us c (λj x hj=>by rw[Oj j x hj];exact(hi.IZ _ _ _ (d j x hj)).1),run_firstCells_some w.drew _ _ _ _ _ us c (λj x hj=>by rw[Oj j x hj];exact(hi.IZ _ _ _ (d j x hj)).1),c,λx hx=>?_⟩,k,λr hr=>?_⟩;.let⟨j,hj⟩:=CW hx;exact(hi.IZ _ _ _ (d j x hj)).2.1
   .let⟨j,hj⟩:=CW hr;exact(hR.get hj).1
  .cases hp
 .rename_i s;split at hp
  .rename_i hz;cases hp;subst hz;rw[show g=_ from hu];have hlen:(Cg s).length=(⟨⟨s⟩⟩:ByteArray).size:=by simp[Cg,zk]
   have hrel:∀l:List UInt8,Bp U (Cg l).flatten (l.map λb=>zm .u8 b.toNat):=by
    intro l;induction l with
    |nil=>rfl
    |cons b l ih=>exact⟨_,_,rfl,rfl,ih⟩
   refine⟨byteCells ⟨⟨s⟩⟩,?_,?_,λr hr=>?_⟩;.rw[hlen];exact⟨FX,λ_=>rfl,firstCells_string _ w,firstCells_string _ w.drew,by rw[byteCells_length,Ge],λu hu=>by obtain⟨_,_,rfl⟩:=Bs.1 hu;rfl⟩
   .simpa[byteCells] using hrel s
   .obtain⟨b,_,rfl⟩:=Bs.1 hr;rfl
  .cases hp
 .rename_i id off n z;split at hp
  .rename_i hz;subst hz;split at hp
   .rename_i cs hcs;split at hp
    .rename_i hl;cases hp;let⟨b,cap,hb,Ő,Qn,vr,LC⟩:=hu;let⟨us,e,fr,k,pf,c,d⟩:=hi.cells id cs hcs b hb;have pT:(us.toList.take (zz cs)).length=zz cs:=c.length;have PH:(((us.toList.take (zz cs)).drop off).take (n*z)).length=n*z:=by rw[Ax,Bi,pT];omega
     have Oj:∀j,(⟨b,off,zw⟩:Addr).add j=⟨b,off+j,zw⟩:=λj=>by rw[Addr.add];split<;>simp_all
     have Km:∀(j:Nat) (x:Value),(((us.toList.take (zz cs)).drop off).take (n*z))[j]?=zy x->w.cell? ((⟨b,off,zw⟩:Addr).add j)=zy x:=λj x hj=>by
      rw[Oj,cell_of_row w _ _ us e fr k];rw[Ci] at hj;split at hj
      .rw[Cu,Ci] at hj;split at hj;.exact zv hj
       .cases hj
      .cases hj
     rw[Ő,PI];refine⟨((us.toList.take (zz cs)).drop off).take (n*z),⟨FX,λ_=>rfl,run_firstCells_some w _ _ _ _ _ _ PH Km,run_firstCells_some w.drew _ _ _ _ _ _ PH (λj x hj=>Km j x hj),PH,λx hx=>d x (BO (BJ hx))⟩,?_,R2 hl⟩;rw[Ok];exact(c.drop off).take (n*z)
    .cases hp
   .cases hp
  .cases hp
 .cases hp
section
variable{o:Oper}{c:Call}{t t' e:TypeId}{n b:Nat}{s x:Operand}{v u r:Aa}
def PJ{AD:List (List Aa)}{news:List Value}(ho:o.op= .call c)(hc:c.callee= .builtin .append)(h0:c.argTypes[0]?=zy t)(h1:c.argTypes[1]?=zy t')(Fb:c.args.toList=[s,x])(ht:C.P.underlying t=zy (.slice e))
  (FX:(∃e',C.P.underlying t'=zy (.slice e'))\/C.P.underlying t'=zy .string) (LC:B7 C.P e=zy (n+1)) (yl:KF C.P e=zy (b+1)) (Gf:LN C Z s=zl) (pU:MP C.P e=zl) (hv:BC C Z [s,x]=zy [v,u])
  (GV:D0 (n+1) (b+1) v AD=zy r) (K0:Src C.P (n+1) t' (a.eval x) AD.length news w) (Xw:Bp U AD.flatten news) (vP:∀q∈AD,q.length=n+1) (hr:Dd C U0 w0 U O Z h a w):Gw C U0 w0 o a w ((Z.D5 (Dx Z s)).put o.dst (.Bu r)) h:=by
 obtain⟨i,z,hi,hz,hZ⟩:=LV pU;have RK:=Ko LC hi;have G:=Mu yl hi;obtain⟨_,_,e0,hvs,vQ⟩:=FA hr hv;cases e0;have E:Ft C Z s=zy v:=by
  unfold BC at hv;split at hv;.rename_i p ps B I;cases hv;exact B
  .cases hv
 obtain⟨U1,EH,KA,DR,M⟩:=Qm hr Gf E (Z.D5 (Dx Z s)).length zw;have ym:=Bp.mono EH _ _ Xw;have NB:c.args.map a.eval=#[a.eval s,a.eval x]:=by apply HW;simp[Fb]
 have Nw:∀v' w',(zu #[t,t'] o.type #[a.eval s,a.eval x]).run C.P w= .ok v' w'->(execOp a.eval o).run C.P w= .ok (.value v') w':=λv' w' Bb=>by
  have:execOp a.eval o=(do pure (Next.value (<-zu #[t,t'] o.type #[a.eval s,a.eval x]))):=by rw[<-NB,<-O4 (ty:=o.type) h0 h1];simp only[execOp,ho,resolve,hc];rfl
  rw[this];exact DU Bb
 have KJ:Src C.P i.size t' (a.eval x) AD.length news w:=by rw[RK];exact K0
 have PH:news.length=AD.length*(n+1):=K0.newsLen;have J7:∀(base:Option Addr) (k cap:Nat) (rr:List (List Aa)) (olds:List Value),a.eval s= .slice base k cap->rr.length=k->(∀q∈rr,q.length=n+1)->Bp U1 rr.flatten olds->(∀q∈olds,q.oneCell'=zl)->
   (Builtin.firstCells i.size k (.slice base k cap)).run C.P w.drew= .ok olds.toArray w.drew->cap<k+AD.length->(k+AD.length)*(b+1)<=A0->r= .sl (n+1) (rr++AD)->
   Gw C U0 w0 o a w ((Z.D5 (Dx Z s)).put o.dst (.Bu r)) h:=by
  intro base k cap rr olds hs hk m vt F d hlt Rg VW;have Te:k+AD.length<=A0:=Bv (Jk _ (Db b)) Rg;have GF:=run_append_grow_src (P:=C.P) w t t' o.type e i z ht hi hz base k cap olds d (a.eval x) AD.length news KJ hlt (by simp only[A0] at Te;omega) (by rw[G];exact growslice_fits hlt Rg);rw[<-hs] at GF;have Et:=grownCap_ge w (k+AD.length) cap e;have aNI:olds.length=k*(n+1):=by rw[vt.length,HS m,hk]
  have pj:(olds++news).length=(k+AD.length)*(n+1):=by rw[Aw,aNI,PH,B9]
  obtain⟨R,qO,LU,SI,l⟩:=KA.drew.YK ((olds++news).toArray++Builtin.zeroCells z.cells (grownCap w (k+AD.length) cap e-(k+AD.length))) e (z:=n+1) (n:=k+AD.length) (cap:=grownCap w (k+AD.length) cap e) (AD:=rr++AD) (Db n) (by simp[hk])
   (λq hq=>(Ay.1 hq).elim (m q) (vP q))
   (by simp only[Ky,Ca,size_zeroCells,hZ,RK,pj,<-B9];congr 1;omega) Et (grownCap_le_maxLen w _ _ _ (by simp only[A0] at Te;simp only[maxLen];omega))
   (by simp only[Hy,PR];rw[<-pj,FW];exact vt.append ym)
   (λq hq=>by simp only[Hy] at hq;rw[<-pj,FW,Ay] at hq;exact hq.elim (F q) (K0.one q))
  rw[VW];obtain⟨Q,f⟩:=LU.YJ SI l o.dst;exact zt (Nw _ _ GF) f
 rcases M with(rfl|⟨A,rfl⟩)|⟨g,k,cap,us,J,A,rr,rfl,J9,UN,hB,hg,dE,Œ,hm,L⟩
 .have J9:a.eval s= .slice zw 0 0:=DR;cases AD with
  |nil=>
   have VW:r= .slnil:=by simpa[D0] using GV.symm
   have d_:news=[]:=DC (by simpa using PH);subst d_;have Bb:(zu #[t,t'] o.type #[a.eval s,a.eval x]).run C.P w= .ok (.slice zw 0 0) w:=by rw[J9];have hl:=KJ.len;have Xx:=KJ.cells;simp only[BP] at hl Xx;rcases FX with⟨e',hk⟩|hk<;>simp[zu,run_underlying ht,run_underlying hk,sizeOf,typeInfo,hi,hl,Xx]
   rw[VW];exact zt (Nw _ _ Bb) (KA.put λ_ _=>⟨rfl,.inl (.inl rfl)⟩)
  |cons q AD=>
   have Qo:r= .sl (n+1) (q::AD)/\(q::AD).length*(b+1)<=A0:=by
    simp only[D0] at GV;split at GV;.rename_i hb;cases GV;exact⟨rfl,hb⟩
    .cases GV
   exact J7 zw 0 0 [] [] J9 rfl AH rfl AH (run_firstCells_none _ _ _ _ _) AH (by simpa using Qo.2) (by simpa using Qo.1)
 .obtain⟨g,J9⟩:=id DR;cases AD with
  |nil=>
   have VW:A=n+1/\r= .GI A:=by
    simp only[D0] at GV;split at GV;.rename_i bR;cases GV;exact⟨bR,by rw[bR]⟩
    .cases GV
   obtain⟨rfl,VW⟩:=VW;have d_:news=[]:=DC (by simpa using PH);subst d_;have Bb:(zu #[t,t'] o.type #[a.eval s,a.eval x]).run C.P w= .ok (.slice (zy ⟨g,0,zw⟩) 0 0) w:=by rw[J9];have hl:=KJ.len;have Xx:=KJ.cells;simp only[BP] at hl Xx;rcases FX with⟨e',hk⟩|hk<;>simp[zu,run_underlying ht,run_underlying hk,sizeOf,typeInfo,hi,hl,Xx,storeCells,Result.andThen]
   rw[VW];exact zt (Nw _ _ Bb) (KA.put λ_ _=>⟨⟨g,rfl⟩,.inl (.inr ⟨_,rfl⟩)⟩)
  |cons q AD=>
   have Qo:r= .sl (n+1) (q::AD)/\(q::AD).length*(b+1)<=A0:=by
    simp only[D0] at GV;split at GV;.rename_i hb;cases GV;exact⟨rfl,hb.2⟩
    .cases GV
   exact J7 (zy ⟨g,0,zw⟩) 0 0 [] [] J9 rfl AH rfl AH (run_firstCells_some w.drew _ _ _ _ _ [] AH (λj x hj=>by simp at hj)) AH (by simpa using Qo.2) (by simpa using Qo.1)
 .obtain⟨N,K,qQ,Qn,_,hR⟩:=id DR;rw[J9] at qQ;simp only[Value.slice.injEq,BF] at qQ;obtain⟨rfl,hk,rfl⟩:=qQ;subst hk;simp only at hR;have D:A=n+1/\r= .sl (n+1) (rr++AD)/\(AD=[]\/(rr.length+AD.length)*(b+1)<=A0):=by
   cases AD with
   |nil=>
    simp only[D0] at GV;split at GV;.rename_i bR;cases GV;exact⟨bR,by simp[bR],.inl rfl⟩
    .cases GV
   |cons q AD=>
    simp only[D0] at GV;split at GV;.rename_i bR;cases GV;exact⟨bR.1,rfl,.inr bR.2⟩
    .cases GV
  obtain⟨rfl,VW,Rg⟩:=D;by_cases hroom:rr.length+AD.length<=cap
  .have hfit:rr.length*(n+1)+news.length<=us.size:=by rw[PH,dE,<-B9];exact Ea _ hroom
   have Bb:=run_append_room_src (P:=C.P) w t t' o.type e i ht hi g 0 rr.length cap (a.eval x) AD.length news KJ hroom (λj hj=>by rw[cell_of_row w _ _ us J (0,0) hg,RK,Eb Ab];rfl) (λj hj=>frozen_of_row w _ _ us J hg)
   rw[B2,RK,Fa news _ us w hg hfit,<-J9] at Bb;rw[J9] at DR;obtain⟨R,qO,LU,SI,l⟩:=KA.yk UN hB hg dE hm (Db n) DR vP ym K0.one hroom;obtain⟨Q,f⟩:=LU.YJ SI l o.dst;rw[VW];exact zt (Nw _ _ Bb) f
  .obtain⟨vs,B,I,H⟩:=hR.values;have Oj:∀j,(⟨g,0,zw⟩:Addr).add j=⟨g,0+j,zw⟩:=λj=>by unfold Addr.add;split<;>simp_all
   refine J7 (zy ⟨g,0,zw⟩) rr.length cap rr vs J9 rfl (λq hq=>?_) B (λq hq=>?_) ?_ Ab ?_ VW;.obtain⟨j,hj⟩:=CW hq;exact(hR.get hj).1
   .obtain⟨j,hj⟩:=CW hq;exact(KA.Eh.IZ _ _ _ (H j q hj)).2.1
   .rw[RK];exact run_firstCells_some w.drew _ _ _ _ _ vs I (λj y hj=>by rw[Oj];exact(KA.Eh.IZ _ _ _ (H j y hj)).1)
   .rcases Rg with rfl|Rg
    .simp at hroom;omega
    .exact Rg
def wV(ho:o.op= .call c)(hc:c.callee= .builtin .append)(h0:c.argTypes[0]?=zy t)(h1:c.argTypes[1]?=zy t')(Fb:c.args.toList=[s,x])(ht:C.P.underlying t=zy (.slice e))
  (FX:(∃e',C.P.underlying t'=zy (.slice e'))\/C.P.underlying t'=zy .string) (LC:B7 C.P e=zy (n+1)) (yl:KF C.P e=zy (b+1)) (Gf:LN C Z s=zl) (pU:MP C.P e=zl) (hv:BC C Z [s,x]=zy [v,u])
  (hp:AA (.append (n+1) (b+1)) [v,u]=zy r) (hr:Dd C U0 w0 U O Z h a w):Gw C U0 w0 o a w ((Z.D5 (Dx Z s)).put o.dst (.Bu r)) h:=by
 let⟨_,_,e0,hvs,vQ⟩:=FA hr hv;cases e0;let⟨AD,news,GV,K0,Xw,vP⟩:=ey FX hr.Eh vQ hp;exact PJ ho hc h0 h1 Fb ht FX LC yl Gf pU hv GV K0 Xw vP hr
def qR(ho:o.op= .call c)(hc:c.callee= .builtin .append)(h0:c.argTypes[0]?=zy t)(h1:c.argTypes[1]?=zy t')(Fb:c.args.toList=[s,x])(ht:C.P.underlying t=zy (.slice e))
  (FX:(∃e',C.P.underlying t'=zy (.slice e'))\/C.P.underlying t'=zy .string) (LC:B7 C.P e=zy (n+1)) (yl:KF C.P e=zy (b+1)) (Gf:LN C Z s=zl) (pU:MP C.P e=zl) (hv:BC C Z [s,x]=zy [v,u])
  (hp:RY h (n+1) (b+1) v u=zy r) (hr:Dd C U0 w0 U O Z h a w):Gw C U0 w0 o a w ((Z.D5 (Dx Z s)).put o.dst (.Bu r)) h:=by
 let⟨_,_,e0,hvs,vQ⟩:=FA hr hv;cases e0;rw[RY] at hp;cases hq:Hz h (n+1) u with
 |none=>rw[hq] at hp;cases hp
 |some AD=>rw[hq] at hp;let⟨news,K0,Xw,vP⟩:=YN FX hr.Eh vQ hq;exact PJ ho hc h0 h1 Fb ht FX LC yl Gf pU hv hp K0 Xw vP hr
end
end
section
variable{C:GN}{γ0 γ γ':Gh}{w0 w w':World}{Z:Nat->Nat}{U:BU}{h:Ah}{a:Act}{fid:FuncId}{ops:List Oper}
def TB:∀s:Ai,(Cg s).flatten=s.map λb=>Aa.int .u8 b.toNat
 |[]=>rfl
 |_::s=>by have:=TB s;simp only[Cg,Bm,Dt] at this⊢;rw[this];rfl
def MU(γ:Gh):∀l:Ai,Bp γ (Cg l).flatten (l.map λb=>zm .u8 b.toNat)
 |[]=>rfl
 |_::l=>⟨_,_,rfl,rfl,MU γ l⟩
def LF(s:Ai)(cap:Nat):(bytesRow ⟨⟨s⟩⟩ cap).toList.take (zz s)=s.map λb=>zm .u8 b.toNat:=by have:(s.map λb=>zm .u8 (b.toNat:Int)).length=zz s:=AH;simp only[bytesRow,Hy,N8];rw[<-this];exact FW
def iA(s:Ai):(⟨⟨s⟩⟩:ByteArray).size=zz s:=by simp[zk]
section
variable{o:Oper}{src dst e:TypeId}{x:Operand}{v u:Aa}
def œ(ho:o.op= .convert src dst x)(hs:C.P.underlying src=zy .string)(hd:C.P.underlying dst=zy (.slice e))(he:C.P.underlying e=zy (.int .u8))(hx:BC C U [x]=zy [v])(hp:AA .s2b [v]=zy u)(hr:Dd C γ0 w0 γ Z U h a w):
  Gw C γ0 w0 o a w (U.put o.dst (.val u)) h:=by
 let⟨_,e0,hv⟩:=Hq hr hx;cases e0;simp[AA] at hp;split at hp
 .rename_i s NB;cases NB;split at hp
  .cases hp;have Bb:=run_bytes_of_string (P:=C.P) w src dst e ⟨⟨s⟩⟩ hs hd he;rw[<-OY hv] at Bb;have c:=grownCap_ge w (zz s) 0 e;rw[iA] at Bb;let⟨hi,ha⟩:=Qg hr.drew.Eh (bytesRow ⟨⟨s⟩⟩ (grownCap w (zz s) 0 e)) e ((bytesRow ⟨⟨s⟩⟩ (grownCap w (zz s) 0 e)).size,(bytesRow ⟨⟨s⟩⟩ (grownCap w (zz s) 0 e)).size+1) (zz s) zw (λo u ho hu=>by have hm:u∈(bytesRow ⟨⟨s⟩⟩ (grownCap w (zz s) 0 e)).toList.take (zz s):=CV (i:=o) (by rw[DS ho];exact zv hu);rw[LF] at hm;obtain⟨b,_,rfl⟩:=Bs.1 hm;rfl) (z2 rfl)
   have Gy:=hr.drew.JF hi ha;refine zt (v:= zx (zy ⟨w.heap.size,0,zw⟩) (zz s) (grownCap w (zz s) 0 e)) (by simp only[execOp,ho];exact DU Bb) (Gy.put λ_ _=>⟨⟨w.heap.size,0,zw⟩,grownCap w (zz s) 0 e,by simp[Cg],by simpa[Cg] using c,z2 rfl,?_⟩);refine O3 (us:=s.map λb=>zm .u8 b.toNat) (λr hr=>?_) (MU _ s) (λj u hj=>?_);.obtain⟨b,_,rfl⟩:=Bs.1 hr;rfl
   .rw[<-LF s (grownCap w (zz s) 0 e),Ci] at hj;split at hj;.rename_i hlt;simp[Gh.DH,heap_drew,BR,B2,Af hlt];exact zv hj
    .cases hj
  .cases hp
 .cases hp
def iB{h':Ah}(ho:o.op= .convert src dst x)(hs:C.P.underlying src=zy .string)(hd:C.P.underlying dst=zy (.slice e))(he:C.P.underlying e=zy (.int .u8))(hx:Ft C U x=zy v)(hp:Jn h v=zy (h',u))(hr:Dd C γ0 w0 γ Z U h a w):
  Gw C γ0 w0 o a w (U.put o.dst (.val u)) h':=by
 have hv:=Hk hr hx;unfold Jn at hp;split at hp
 .rename_i s;split at hp
  .cases hp;have Bb:=run_bytes_of_string (P:=C.P) w src dst e ⟨⟨s⟩⟩ hs hd he;rw[<-OY hv] at Bb;have c:=grownCap_ge w (zz s) 0 e;rw[iA] at Bb;have hl:(s.map λb=>Aa.int .u8 b.toNat).length=zz s:=AH;have d:(bytesRow ⟨⟨s⟩⟩ (grownCap w (zz s) 0 e)).size=grownCap w (zz s) 0 e:=by have e0:zk ⟨⟨s⟩⟩=zz s:=iA s;simp[bytesRow,Ky,Array.size_map,Array.size_replicate,e0,Ca];omega
   have vR:zz s<=maxLen:=by
    have vR:zz s<=A0:=by assumption
    simp[A0] at vR;simp[maxLen];omega
   let⟨γ',EH,hm,Gy,LC⟩:=hr.drew.newObj (bytesRow ⟨⟨s⟩⟩ (grownCap w (zz s) 0 e)) e ((bytesRow ⟨⟨s⟩⟩ (grownCap w (zz s) 0 e)).size,(bytesRow ⟨⟨s⟩⟩ (grownCap w (zz s) 0 e)).size+1) (s.map λb=>Aa.int .u8 b.toNat) (z3 (Ae _))
    (by rw[hl,LF];have:=MU γ s;rwa[TB] at this)
    (λu hu=>by rw[hl,LF] at hu;obtain⟨b,_,rfl⟩:=Bs.1 hu;rfl)
   exact zt (v:= zx (zy ⟨w.heap.size,0,zw⟩) (zz s) (grownCap w (zz s) 0 e)) (by simp only[execOp,ho];exact DU Bb) (Gy.put λ_ _=>⟨w.heap.size,_,hm,rfl,c,⟨Db 0,grownCap_le_maxLen w _ _ _ vR⟩,by rwa[B2,Ge,<-d]⟩)
  .cases hp
 .cases hp
end
def II{O:Type}(l:List O):∀(c j:Nat),j<c*zz l->(zi c l).flatten[j]?=l[j%zz l]?
 |0,j,h=>by simp at h
 |c+1,j,h=>by
  have h':j<c*zz l+zz l:=by rw[B9] at h;omega
  rw[Lx,Dt];by_cases hj:j<zz l;.rw[Ak hj,Nat.mod_eq_of_lt hj]
  .rw[Bz Ab,II l c _ Ab,show j%zz l=(j-zz l)%zz l from Nat.mod_eq_sub_mod Ab]
def yn{o:Oper}{t e:TypeId}{l c:Operand}{n b:Nat}{z:Aa}{D vc u:Aa}{h':Ah}(ho:o.op= .makeSlice t l c)(ht:C.P.underlying t=zy (.slice e))(LC:B7 C.P e=zy (n+1))(yl:KF C.P e=zy (b+1))(hz:HA C.P e=zy z)(hl:Ft C U l=zy D)(hc:Ft C U c=zy vc)
  (hm:Tm h (n+1) (b+1) z.cells D vc=zy (h',u)) (hr:Dd C γ0 w0 γ Z U h a w):Gw C γ0 w0 o a w (U.put o.dst (.val u)) h':=by
 unfold Tm at hm;split at hm
 .rename_i k m;split at hm
  .rename_i Ir;let⟨K,J,I,B⟩:=Ir;cases hm;rw[HA] at hz;cases hi:C.P.info? e with
   |none=>rw[hi] at hz;cases hz
   |some i=>
    rw[hi] at hz;cases vu:i.zero with
    |none=>simp[vu] at hz
    |some f=>
     simp[CP,vu] at hz;have RK:=Ko LC hi;have A:=Mu yl hi;let⟨E,G⟩:=HQ (γ:=γ) (FO hz) Ab;have hZ:f.cells.size=n+1:=by have:=E.length;simp at this;omega
     have q:m.toNat*(b+1)<=A0:=I;have g:m.toNat<=A0:=Bv (Jk m.toNat (Db b)) q;have Bb:=run_make (P:=C.P) w t e i f ht hi vu .i64 .i64 k m K J (by
      rw[A];have H:((b+1:Nat):Int)*m=((m.toNat*(b+1):Nat):Int):=by rw[Int.natCast_mul,E3 Ab,Int.mul_comm]
      rw[H];simp[A0] at q;omega) (by simp[A0] at g;omega)
     rw[<-EW (Hk hr hl),<-EW (Hk hr hc)] at Bb;have hlen:((zi m.toNat z.cells).flatten).length=m.toNat*(n+1):=by rw[HS (z:=n+1) (λr hr=>by rw[aCM hr,B]),Gu]
     have p:∀(j:Nat) (u:Value),(madeCells f.cells (m.toNat*i.size)).toList[j]?=zy u->j<m.toNat*(n+1)/\f.cells.toList[j%(n+1)]?=zy u:=by
      intro j u hj;have dU:j<m.toNat*(n+1):=by have:=(Aq.1 hj).1;simpa[size_madeCells,RK] using this
      refine⟨dU,?_⟩;have aEC:j%(n+1)<f.cells.size:=by rw[hZ];exact Nat.mod_lt _ (Db n)
      simp only[madeCells,N8,Cc] at hj;have d:(zg (m.toNat*i.size)).toList[j]?=zy j:=by simp[RK,dU]
      rw[d] at hj;simp[B6,BF] at hj;rw[hZ] at hj;rw[<-hj];simp[aEC]
     have F:Bp γ (zi m.toNat z.cells).flatten (madeCells f.cells (m.toNat*i.size)).toList:=by refine Bp.HD (by simp[hlen,size_madeCells,RK]) λj x u hx hu=>?_;let⟨dU,y⟩:=p j u hu;rw[II z.cells _ _ (by rwa[B]),B] at hx;let⟨L,vO,s⟩:=E.get hx;rw[y] at vO;cases vO;exact s
     let⟨γ',EH,v,Gy,aNL⟩:=hr.newObj (madeCells f.cells (m.toNat*i.size)) e (0,0) (zi m.toNat z.cells).flatten (z2 rfl) (F.ő (by rw[F.length];exact Ae _)) (λu hu=>by let⟨j,hj⟩:=CW (BJ hu);exact G u (CV (p j u hj).2))
     exact zt (by simp only[execOp,ho];exact DU Bb) (Gy.put λ_ _=>⟨w.heap.size,m.toNat,v,rfl,Ab,⟨Db n,by simp[A0] at g;simp[maxLen];omega⟩,by rw[aNL,size_madeCells,RK,B2]⟩)
  .cases hm
 .cases hm
section
variable(hr:Dd C γ0 w0 γ Z U h a w)
def Dd.aId{g:Nat}(Gf:γ.Bu g=zy (.tail (zz U) zw 0))(hB:w0.heap.size<=g){us:Array Value}{e:TypeId}(hg:w.heap[g]?=zy (.cells us e (0,0)))(D4:Array Value)(cs:List Aa)
  (hv:Bp γ cs (D4.toList.take (zz cs))) (h1:∀u∈D4.toList.take (zz cs),u.oneCell'=zl):∃γ',γ.le γ'/\γ'.mu (zz h)=zy g/\Dd C γ0 w0 γ' Z U (h++[.cells cs]) a (w.setRow g D4)/\γ'.sz g=zy D4.size:=by
 have f:γ.mu (zz h)=zw:=by
  cases hc:γ.mu (zz h) with
  |none=>rfl
  |some y=>cases (DF _) (hr.Eh.mu _ y hc)
 have LC:γ.sz g=zw:=by
  cases hc:γ.sz g with
  |none=>rfl
  |some y=>let⟨_,r⟩:=hr.Eh.sz g y hc;rw[Gf] at r;obtain r|⟨_,r⟩:=r<;>cases r
 have EH:γ.le (γ.BW g (zz h) (zy D4.size)):=⟨λ_ _ _ hv=>hv,λid b hm=>by
  have:id≠zz h:=λhe=>by rw[he,f] at hm;cases hm
  simp[Gh.BW,Ac this];exact hm,λb n hm=>by
  have:b≠g:=λhe=>by rw[he,LC] at hm;cases hm
  simp[Gh.BW,Ac this];exact hm⟩
 have aEx:∀b n,(γ.BW g (zz h) (zy D4.size)).sz b=zy n->(∃us e fr,(w.setRow g D4).heap[b]?=zy (.cells us e fr)/\us.size=n)/\((γ.BW g (zz h) (zy D4.size)).Bu b=zw\/∃id,(γ.BW g (zz h) (zy D4.size)).Bu b=zy (.MR id)):=λb n hb=>by
  by_cases he:b=g;.subst he;simp[Gh.BW,BR] at hb;cases hb;exact⟨⟨D4,e,(0,0),setRow_heap w b us D4 e (0,0) hg,rfl⟩,z3 ⟨zz h,by simp[zp]⟩⟩
  .simp only[zp,Ac he] at hb⊢;let⟨p,r⟩:=hr.Eh.sz b n hb;exact⟨by rwa[setRow_other w g b D4 he],r⟩
 have hne:∀b id,γ.Bu b=zy (.MR id)->b≠g:=λb id hb he=>by rw[he,Gf] at hb;cases hb
 have hk:Rf g γ w (γ.BW g (zz h) (zy D4.size)) (w.setRow g D4):=⟨EH,λb x hb hx _=>⟨by simp[Gh.BW,Ac hb];exact hx,setRow_other w g b D4 hb⟩⟩;refine⟨_,EH,by simp[zp],⟨⟨λb o v hb=>?_,λid y IC hy=>?_,λid HJ hc b hb=>?_,λid es hc b hb=>?_,λid b hb=>?_,λb y hy=>?_,aEx⟩,⟨hr.fr.size,λs=>?_⟩,hr.Ed.write (g:=g) hB EH AH rfl rfl rfl (λb hb=>⟨setRow_other w g b D4 hb,by simp[Gh.BW,Ac hb]⟩),hr.defers,λx HJ hx=>Df.mono EH _ _ _ (hr.HO x HJ hx)⟩,by simp[zp]⟩
 .let⟨p,q,r⟩:=hr.Eh.IZ b o v hb;have OW:b≠g:=λhe=>by
   subst he;rw[Gf] at r;obtain r|⟨_,_,_,r,hl⟩:=r
   .cases r
   .cases r;omega
  exact⟨by rwa[CX (setRow_other w g b D4 OW)],q,by simp[Gh.BW,Ac OW];exact r⟩
 .by_cases he:id=zz h;.exact⟨g,by simp[zp,he],by simp[zp,he]⟩
  .have YA:id<zz h:=by rw[Aq] at IC;let⟨hl,_⟩:=IC;simp at hl;omega
   rw[Ak YA] at IC;let⟨b,p,q⟩:=hr.Eh.MR id y IC hy;exact⟨b,by simp[Gh.BW,Ac he];exact p,by simp[Gh.BW,Ac (hne b id q)];exact q⟩
 .by_cases he:id=zz h;.subst he;simp[zp] at hb;subst hb;simp at hc;subst hc;exact⟨D4,e,(0,0),setRow_heap w g us D4 e (0,0) hg,z2 rfl,Bp.mono EH _ _ hv,h1⟩
  .simp only[zp,Ac he] at hb;have YA:=hr.Eh.mu id b hb;rw[Ak YA] at hc;let⟨b',c,d⟩:=hr.Eh.MR id _ hc AH;rw[hb] at c;cases c;let⟨wD,i,xz,p,pf,q,r⟩:=hr.Eh.cells id HJ hc b hb;exact⟨wD,i,xz,by rwa[setRow_other w g b D4 (hne b id d)],pf,Bp.mono EH _ _ q,r⟩
 .by_cases he:id=zz h;.subst he;simp at hc
  .simp only[zp,Ac he] at hb;have YA:=hr.Eh.mu id b hb;rw[Ak YA] at hc;let⟨b',c,d⟩:=hr.Eh.MR id _ hc AH;rw[hb] at c;cases c;let⟨DL,clock,p,q⟩:=hr.Eh.map id es hc b hb;exact⟨DL,clock,by rwa[setRow_other w g b D4 (hne b id d)],q.mono EH⟩
 .by_cases he:id=zz h;.simp[he]
  .simp only[zp,Ac he] at hb;have:=hr.Eh.mu id b hb;simp;omega
 .by_cases OW:b=g;.subst OW;have:=hr.Eh.Bu _ _ Gf;exact zv this
  .simp only[zp,Ac OW] at hy;have:=hr.Eh.Bu b y hy;exact zv this
 .by_cases hs:s=zz U;.subst hs;rw[BU.U9];trivial
  .exact(hr.fr.IS s).keptBut Gf hk (by simp[Lc.wB];intro hx;cases hx;exact hs rfl)
def Dd.P5{v v':Aa}{u:Value}{h':Ah}(hv:BT γ v u)(hf:KY h v=zy (h',v')):∃γ',γ.le γ'/\Dd C γ0 w0 γ' Z U h' a w/\BT γ' v' u:=by
 unfold KY at hf;split at hf
 .rename_i id off n z;let⟨b,cap,hb,hu,hc,hz,LC⟩:=hv;split at hf
  .rename_i cs hcs;split at hf
   .rename_i hl;cases hf;let⟨us,e,fr,q,pf,p,m⟩:=hr.Eh.cells id cs hcs b hb;let⟨hi,ha⟩:=x_ hr.Eh hcs hb q m;have vP:∀(k o:Nat),(CD cs z o k).length=k:=by
     intro k;induction k with
     |zero=>intro o;rfl
     |succ k ih=>intro o;simp[CD,ih]
    have d:∀(k o i:Nat) (r:List Aa),(CD cs z o k)[i]?=zy r->i<k/\r=(cs.drop (o+i*z)).take z:=by
     intro k;induction k with
     |zero=>intro o i r h;simp[CD] at h
     |succ k ih=>
      intro o i r h;cases i with
      |zero=>simp[CD] at h;exact⟨Db _,zv h.symm⟩
      |succ i=>simp[CD] at h;let⟨l,g⟩:=ih _ _ _ h;exact⟨Ab,by rw[g];congr 2;rw[B9];omega⟩
    refine⟨_,ha.le,hr.JF hi ha,⟨b,off,zw⟩,cap,by rwa[vP],by rwa[vP],z2 rfl,FZ.HD λi r f=>?_⟩;obtain⟨l,rfl⟩:=d n off i r f;have t:i*z+z<=n*z:=by have:=Ea z (Ab:i+1<=n);rwa [B9,Gd] at this
    refine⟨EP,Df.HD λj x hj=>?_⟩;rw[Ci] at hj;split at hj;next s=>rw[Cu] at hj;let⟨y,hy,c⟩:=p.get hj;have hlt:off+i*z+j<zz cs:=(Aq.1 hj).1;refine⟨y,?_,BT.mono ha.le _ _ c⟩;simp[Gh.DH,BR,Af hlt];rw[DS hlt] at hy;exact zv hy
    .cases hj
   .cases hf
  .cases hf
 .cases hf;exact⟨γ,.refl _,hr,hv⟩
end
def TC:∀{AD:List (List Aa)} {s:Ai},Nz AD=zy s->∃ns:List Int,AD=ns.map (λn=>[za .u8 n])/\s=ns.map λn=>UInt8.ofNat n.toNat
 |[],s,hs=>by cases hs;exact⟨[],rfl,rfl⟩
 |r::AD,s,hs=>by
  unfold Nz at hs;split at hs;next NB=>cases NB
  .rename_i n rs NB;cases NB;cases hq:Nz AD with
   |none=>rw[hq] at hs;cases hs
   |some l=>rw[hq] at hs;cases hs;obtain⟨ns,rfl,rfl⟩:=TC hq;exact⟨n::ns,rfl,rfl⟩
  .cases hs
def YO:∀(ns:List Int) (r:ByteArray),ns.foldl (λr n=>r.push (UInt8.ofNat n.toNat)) r=⟨r.data++(ns.map λn=>UInt8.ofNat n.toNat).toArray⟩
 |[],r=>AH
 |n::ns,r=>by rw[vj,YO ns];simp[ByteArray.push]
def Ŕ{o:Oper}{src dst e:TypeId}{x:Operand}{v v' u:Aa}{h':Ah}(ho:o.op= .convert src dst x)(hs:C.P.underlying src=zy (.slice e))(hd:C.P.underlying dst=zy .string)(he:C.P.underlying e=zy (.int .u8))(hx:Ft C U x=zy v)(hf:KY h v=zy (h',v'))(hp:AA .Yi [v']=zy u)
  (hr:Dd C γ0 w0 γ Z U h a w):Gw C γ0 w0 o a w (U.put o.dst (.val u)) h':=by
 let⟨γ',EH,Gy,DR⟩:=hr.P5 (Hk hr hx) hf;have Nw:∀s,(zj (a.eval x)).run C.P w= z8 s w->(∃p l c,a.eval x= zx p l c)->(execOp a.eval o).run C.P w= z8 (.value s) w:=λs Bb ⟨p,l,c,vR⟩=>by simp only[execOp,ho];refine DU ?_;rw[vR] at Bb⊢;rwa[run_convert_bytes_string w src dst e p l c hs he hd]
 simp[AA] at hp;unfold Yk at hp;split at hp
 .rename_i AD;cases hq:Nz AD with
  |none=>rw[hq] at hp;cases hp
  |some s=>
   rw[hq] at hp;cases hp;obtain⟨ns,rfl,rfl⟩:=TC hq;let⟨d,cap,vR,hc,hsp,hR⟩:=DR;have Oj:∀(j:Nat) (v:Value),(ns.map (zm .u8))[j]?=zy v->d.add j=⟨d.block,d.off+j,zw⟩:=λj v hj=>by
    have hpos:0<zz ns:=by have:=(Aq.1 hj).1;simp at this;omega
    have wK:=OU hsp hc (zv hpos);generalize d.block=b at*;generalize d.off=o at*;subst wK;rw[Addr.add];split<;>simp_all
   have hl:=run_loadCells_list (P:=C.P) w d (ns.map (zm .u8)) (λj v hj=>by
    rw[Oj j v hj];simp only[Cc] at hj;cases hn:ns[j]? with
    |none=>rw[hn] at hj;cases hj
    |some n=>rw[hn] at hj;cases hj;let⟨_,m⟩:=hR.get (i:=j) (r:=[za .u8 n]) (by simp[hn]);let⟨y,hy,g⟩:=m.get (i:=0) (a:= za .u8 n) rfl;rw[show y=_ from g] at hy;have:=(Gy.Eh.IZ _ _ _ hy).1;exact zv this)
   simp[Ao] at hl;have Bb:=run_bytesToString (P:=C.P) w d (zz ns) cap ns hl;have k:ByteArray.empty.data=#[]:=rfl;rw[YO,k,Array.empty_append] at Bb;have f:a.eval x= zx (zy d) (zz ns) cap:=by rw[vR];simp
   rw[<-f] at Bb;exact zt (Nw _ Bb ⟨_,_,_,f⟩) (Gy.put λ_ _=>rfl)
 .cases hp;have f:a.eval x= zx zw 0 0:=DR;have Bb:(zj (a.eval x)).run C.P w= z8 (.string ⟨⟨[]⟩⟩) w:=by rw[f];simp[zj];rfl
  exact zt (Nw _ Bb ⟨_,_,_,f⟩) (Gy.put λ_ _=>rfl)
 .cases hp
def yo(C:GN)(f:FuncId):Prop:=
 (∃fn c,C.P.funcs[f]?=zy fn/\(fn.name== "runtime.NumGoroutine")=z5/\fn.body=zy c)/\
 ∀(γ:Gh) (h:Ah) (w:World) (s:Aa) (d:Value) (i x:Int) (h':Ah) (r:Aa) (g b:Nat) (us:Array Value) (e:TypeId),HK γ h w->BT γ s d->Rb h [s,za .i64 i,.sl 1 [[za .i64 x]]]=zy (h',r)->
  w.heap[g]?=zy (.cells us e (0,0))->us[0]?=zy (.int .i64 x)->(∀id,γ.Bu g≠zy (.MR id))->1<=b->us.size=b->
  Calls C.P f #[d,.int .i64 i,zx (zy ⟨g,0,zw⟩) 1 b] w λe w'=>match e with
   | .returned v=>∃γ',HK γ' h' w'/\LQ γ w γ' w'/\BT γ' r v
   |_=>False
def FB(C:GN)(run:IT->Ah->Option Kz):Prop:=
 ((∀g cs,C.HO g=zy cs->cs.all Aa.Nv=zl)/\∀f,C.L9 f=zl->yo C f)/\
 ∀(f:FuncId) (args:List Aa) (h:Ah) (r:Aa) (h':Ah),run (B8 C f args) h=zy (.ret,[r],h')->
  (∃fn c,C.P.funcs[E0 f]?=zy fn/\(fn.name== "runtime.NumGoroutine")=z5/\fn.body=zy c)/\
  ∀(γ:Gh) (w:World) (cargs:Array Value),HK γ h w->(∀g cs,C.HO g=zy cs->Df γ cs g 0)->Bp γ args cargs.toList->
   Calls C.P (E0 f) cargs w λe w'=>match e with
    | .returned v=>∃γ',HK γ' h' w'/\LQ γ w γ' w'/\BT γ' r v/\(C.JM f=zl->∃s c,Jp γ' w.heap.size w' s c v r)
    |_=>False
def Dd.aED(hr:Dd C γ0 w0 γ Z U h a w){h':Ah}{r:Aa}{v:Value}(hi:HK γ' h' w')(ha:LQ γ w γ' w')(hv:BT γ' r v){Bu:Bool}(ho:Bu=zl->∃s c,Jp γ' w.heap.size w' s c v r)(d:Option Nat):
  ∃f,Dd C γ0 w0 f Z (U.put d (if Bu then .Bu r else .val r)) h' (a.put d v) w':=by
 cases Bu with
 |false=>exact⟨γ',(hr.JF hi ha).put λ_ _=>hv⟩
 |true=>
  let⟨s,c,j⟩:=ho rfl;obtain j|⟨g,n,cap,us,e,z,AD,rfl,h2,m,l,k⟩:=j
  .exact⟨γ',(hr.JF hi ha).put λ_ _=>⟨hv,z2 j⟩⟩
  .have i:LQ γ w (γ'.Gn g (.tail (zz U) zw (n*z))) w':=⟨ha.le.trans (HP _ _ _),ha.size,ha.os,ha.tape,ha.output,λb hb hn=>by let⟨p,q⟩:=ha.OV b hb hn;exact⟨p,by simp[Gh.Gn,Ac (Ab:b≠g)];exact q⟩⟩
   have Gy:=hr.JF (hi.Gn (s':=zz U) (c':=zw) m) i;exact Gy.YJ (BT.mono (HP _ _ _) _ _ hv) (z3 ⟨g,n,cap,us,e,z,AD,rfl,h2,by simp[Gh.Gn],Bv hr.Ed.size l,k⟩) d
def IU{P:Program}{f:FuncId}{fn:Func}{c:Code}(hf:P.funcs[f]?=zy fn)(hname:(fn.name== "runtime.NumGoroutine")=z5)(hb:fn.body=zy c)(args:Array Value)(w:World):
  (callFunc f args).run P w= z8 (.enter f args) w:=by
 have hn:¬fn.name= "runtime.NumGoroutine":=zv hname
 simp[callFunc,hf,hn,hb]
def TD{o:Oper}{f:FuncId}{cargs:Array Value}{K:Act->World->Prop}{Q:Exit->Act->World->Prop}(he:(execOp a.eval o).run C.P w= z8 (.enter f cargs) w){R:Value->World->Prop}
  (hc:Calls C.P f cargs w λe w'=>match e with| .returned v=>R v w'|_=>False) (hk:∀v w',R v w'->K (a.put o.dst v) w'):o.wp C.P a w K Q:=by
 rw[Oper.wp];rw[he];refine hc.mono λe w' h=>?_;cases e with
 |returned v=>exact hk v w' h
 |_=>exact h.elim
def yp{run:IT->Ah->Option Kz}(g:FB C run){o:Oper}{c:Call}{f:FuncId}{args:List Aa}{r:Aa}{h':Ah}{K:Act->World->Prop}{Q:Exit->Act->World->Prop}(ho:o.op= .call c)(hcl:c.callee= .value (.func (E0 f)))(ha:BC C U c.args.toList=zy args)
  (Bb:run (B8 C f args) h=zy (.ret,[r],h')) (hr:Dd C γ0 w0 γ Z U h a w) (i:∀γ' v w',Dd C γ0 w0 γ' Z (U.put o.dst (if C.JM f then .Bu r else .val r)) h' (a.put o.dst v) w'->K (a.put o.dst v) w'):o.wp C.P a w K Q:=by
 let⟨⟨fn,j,hf,hname,hb⟩,d⟩:=g.2 f args h r h' Bb;have b:Bp γ args (c.args.map a.eval).toList:=zv (Ee hr ha)
 refine TD (f:=E0 f) (cargs:=c.args.map a.eval) ?_ (d γ w _ hr.Eh hr.HO b) λv w' ⟨γ',hi,KK,hv,Gf⟩=>?_;.have h0:a.eval (.func (E0 f))= .func (.func (E0 f)) #[] #[]:=rfl;simp[execOp,ho,resolve,hcl,zo,h0,ze,zd,zq,invoke];exact zv (IU hf hname hb (c.args.map a.eval) w)
 .let⟨e,LU⟩:=hr.aED hi KK hv Gf o.dst;exact i e v w' LU
def ŕ{run:IT->Ah->Option Kz}(L:FB C run){o:Oper}{c:Call}{f:FuncId}{s i x:Operand}{args:List Aa}{r:Aa}{h':Ah}{K:Act->World->Prop}{Q:Exit->Act->World->Prop}(ho:o.op= .call c)(hcl:c.callee= .value (.func f))(hf:C.L9 f=zl)(Fb:c.args.toList=[s,i,x])(Gf:LN C U x=zl)
  (ha:BC C U [s,i,x]=zy args) (hp:Rb h args=zy (h',r)) (hr:Dd C γ0 w0 γ Z U h a w) (M:∀γ' v w',Dd C γ0 w0 γ' Z (U.put o.dst (.val r)) h' (a.put o.dst v) w'->K (a.put o.dst v) w'):o.wp C.P a w K Q:=by
 obtain⟨⟨fn,Y,Ŗ,hname,hb⟩,ŗ⟩:=L.1.2 f hf;have wW:=Ee hr ha;obtain⟨t,d,f1,g1,f2⟩:∃t d,[a.eval s,a.eval i,a.eval x]=t::d/\BT γ (args.getD 0 .nilIface) t/\True:=by
  cases args with
  |nil=>cases wW
  |cons y l=>obtain⟨u,us,e,p,q⟩:=wW;exact⟨u,us,e,p,trivial⟩
 obtain⟨s',i',x',he,k,F,E⟩:∃s' i' x',args=[s',.int .i64 i',.sl 1 [[.int .i64 x']]]/\∃(k:BT γ s' (a.eval s)) (F:a.eval i= .int .i64 i'),BT γ (.sl 1 [[.int .i64 x']]) (a.eval x):=by
  unfold Rb at hp;split at hp;.obtain⟨_,_,_,e,D,B,A⟩:=wW.VR;simp only[Bm,Da,Fs,Np] at e;obtain⟨rfl,rfl,rfl⟩:=e;exact⟨_,_,_,rfl,D,B,A⟩
  .obtain⟨_,_,_,e,D,B,A⟩:=wW.VR;simp only[Bm,Da,Fs,Np] at e;obtain⟨rfl,rfl,rfl⟩:=e;exact⟨_,_,_,rfl,D,B,A⟩
  .cases hp
 subst he;have vQ:Ft C U x=zy (.sl 1 [[.int .i64 x']]):=by simp only[BC] at ha;cases h1:Ft C U s<;>cases h2:Ft C U i<;>cases H:Ft C U x<;>simp_all
 obtain⟨sl,vR⟩:∃sl,Es C U x=zy sl:=by
  unfold LN at Gf;cases hs:Es C U x with
  |none=>rw[hs] at Gf;cases Gf
  |some sl=>exact⟨sl,rfl⟩
 have aNM:∃v,sl= .Bu v:=by unfold LN at Gf;rw[vR] at Gf;cases sl<;>first|exact⟨_,rfl⟩|cases Gf
 obtain⟨v,rfl⟩:=aNM;obtain⟨s0,hrel,_⟩:=GU hr vR;have aNN:v= .sl 1 [[.int .i64 x']]:=by simp only[Ft,vR,CP,EL.IF,BF] at vQ;exact vQ
 subst aNN;obtain⟨et,j⟩:=hrel;rcases j with(j|⟨_,j⟩)|⟨g,n,cap,us,e,z,AD,h1,h2,H,V,G,O,N,T,S⟩
 .cases j
 .cases j
 .cases h1;obtain⟨ad,J,I,X,W,R⟩:=E;rw[h2] at I;cases I;obtain⟨_,hm,_⟩:=R;obtain⟨⟨u,hu,hru⟩,_⟩:=hm;obtain⟨Km,_,_⟩:=hr.Eh.IZ _ _ _ hu;have dE:us[0]?=some (.int .i64 x'):=by rw[cell_of_row w _ _ us e (0,0) G] at Km;rw[Km];exact Cj some hru
  have b:c.args.map a.eval=#[a.eval s,.int .i64 i',.slice (some ⟨g,0,none⟩) 1 cap]:=by apply HW;simp only[N8,Fb,Bm,Da,F,h2];rfl
  have Xx:=ŗ γ h w s' _ i' x' h' r g cap us e hr.Eh k hp G dE (λid IC=>by rw[H] at IC;cases IC) N (by rw[O,Ge]);rw[<-b] at Xx;refine TD (f:=f) (cargs:=c.args.map a.eval) ?_ Xx λv w' ⟨γ',hi,KK,hv⟩=>?_;.have h0:a.eval (.func f)= .func (.func f) #[] #[]:=rfl;simp only[execOp,ho,resolve,hcl,Deferred.ofValue,h0,Sem.run_bind,Sem.run_pure,Result.andThen_ok,invoke];simpa using IU Ŗ hname hb (c.args.map a.eval) w
  .obtain⟨m,LU⟩:=hr.aED (Bu:=false) hi KK hv (λe=>by cases e) o.dst;exact M m v w' (by simpa using LU)
def Gh.apart(γ:Gh):Gh:={IZ:=γ.IZ,mu:=λ_=>zw,Bu:=λb=>match γ.Bu b with|zy (.MR _)=>zw|x=>x,sz:=γ.sz}
def HK.apart(hi:HK γ h w):HK γ.apart [] w:=by
 refine⟨λb o v hb=>?_,λid x hx=>by simp at hx,λid cs hx=>by simp at hx,λid es hx=>by simp at hx,λid b hb=>(by cases hb),λb x hx=>?_,λb n hb=>?_⟩;rotate_left 2;.let⟨p,r⟩:=hi.sz b n hb;refine⟨p,z2 ?_⟩;simp[Gh.apart];obtain r|⟨_,r⟩:=r<;>rw[r]
 .let⟨p,q,r⟩:=hi.IZ b o v hb;refine⟨p,q,?_⟩;simp[Gh.apart];obtain r|⟨s,c,st,r,hl⟩:=r
  .exact z2 (by rw[r])
  .exact z3 ⟨s,c,st,by rw[r],hl⟩
 .simp only[Gh.apart] at hx;split at hx;.cases hx
  .exact hi.Bu b x hx
def Dd.Ř(hr:Dd C γ0 w0 γ Z U h a w){c:Gh}{h1:Ah}(hi:HK c h1 w')(ha:LQ γ.apart w c w'):∃d,Dd C γ0 w0 d Z U h a w':=by
 have Xy:∀b id,γ.apart.Bu b≠zy (.MR id):=λb id e=>by
  simp[Gh.apart] at e;split at e;.cases e
  next hn=>exact hn id e
 have Og:∀b,b<w.heap.size->w'.heap[b]?=w.heap[b]?:=λb hb=>(ha.OV b hb (Xy b)).1;refine⟨γ,hr.JF ⟨λb o v hb=>?_,hr.Eh.MR,λid cs hc b hb=>?_,λid es hc b hb=>?_,hr.Eh.mu,λb x hx=>JQ (hr.Eh.Bu b x hx) ha.size,λb n hb=>(by
   let⟨⟨us,e,fr,p,q⟩,r⟩:=hr.Eh.sz b n hb;exact⟨⟨us,e,fr,by rwa[Og b (Bc.1 p).1],q⟩,r⟩)⟩
  ⟨.refl _,ha.size,ha.os,ha.tape,ha.output,λb hb _=>⟨Og b hb,rfl⟩⟩⟩
 .let⟨p,q,r⟩:=hr.Eh.IZ b o v hb;exact⟨by rwa[CX (Og b (D6 p))],q,r⟩
 .let⟨us,e,fr,p,q⟩:=hr.Eh.cells id cs hc b hb;exact⟨us,e,fr,by rwa[Og b (Bc.1 p).1],q⟩
 .let⟨DL,clock,p,q⟩:=hr.Eh.map id es hc b hb;exact⟨DL,clock,by rwa[Og b (Bc.1 p).1],q⟩
def YP{γ γ':Gh}{x:Aa}{v:Value}(hf:x.Nv=zl)(hv:BT γ x v):BT γ' x v:=by cases x<;>first|exact hv|cases hf
def dW{γ γ':Gh}:∀{l:List Aa} {us:List Value},l.all Aa.Nv=zl->Bp γ l us->Bp γ' l us
 |[],us,_,h=>h
 |x::l,us,hf,h=>by let⟨u,D4,e,h1,h2⟩:=h;simp only[gN,Bq] at hf;exact⟨u,D4,e,YP hf.1 h1,dW hf.2 h2⟩
def Df.apart{γ:Gh}:∀{l:List Aa} {b o:Nat},Df γ l b o->l.all Aa.Nv=zl->Df γ.apart l b o
 |[],_,_,_,_=>trivial
 |x::l,b,o,h,hf=>by let⟨⟨u,h1,h2⟩,c⟩:=h;simp only[gN,Bq] at hf;exact⟨⟨u,h1,YP hf.1 h2⟩,c.apart hf.2⟩
def pk{run:IT->Ah->Option Kz}(i:FB C run){o:Oper}{c:Call}{f:FuncId}{args:List Aa}{r:Aa}{h1:Ah}{K:Act->World->Prop}{Q:Exit->Act->World->Prop}(ho:o.op= .call c)(hcl:c.callee= .value (.func (E0 f)))(ha:BC C U c.args.toList=zy args)
  (hfa:args.all Aa.Nv=zl) (Bb:run (B8 C f args) []=zy (.ret,[r],h1)) (dz:r.Nv=zl) (hr:Dd C γ0 w0 γ Z U h a w) (j:∀γ' v w',Dd C γ0 w0 γ' Z (U.put o.dst (.val r)) h (a.put o.dst v) w'->K (a.put o.dst v) w'):o.wp C.P a w K Q:=by
 let⟨⟨fn,k,hf,hname,hb⟩,d⟩:=i.2 f args [] r h1 Bb;have b:Bp γ.apart args (c.args.map a.eval).toList:=dW hfa (zv (Ee hr ha));refine TD (f:=E0 f) (cargs:=c.args.map a.eval) ?_ (d γ.apart w _ hr.Eh.apart (λg cs hg=>(hr.HO g cs hg).apart (i.1.1 g cs hg)) b) λv w' ⟨γ',hi,KK,hv,_⟩=>?_;.have h0:a.eval (.func (E0 f))= .func (.func (E0 f)) #[] #[]:=rfl;simp[execOp,ho,resolve,hcl,zo,h0,ze,zd,zq,invoke];exact zv (IU hf hname hb (c.args.map a.eval) w)
 .let⟨e,LU⟩:=hr.Ř hi KK;exact j e v w' (LU.put λ_ _=>YP dz hv)
def po{run:IT->Ah->Option Kz}(l:FB C run){o:Oper}{c:Call}{g:Operand}{k:Aa}{f:FuncId}{args args':List Aa}{r:Aa}{h':Ah}{K:Act->World->Prop}{Q:Exit->Act->World->Prop}(ho:o.op= .call c)(hcl:c.callee= .value g)(hg:Ft C U g=zy k)
  (ha:BC C U c.args.toList=zy args) (ht:Dw k args=zy (f,args')) (Bb:run (B8 C f args') h=zy (.ret,[r],h')) (hr:Dd C γ0 w0 γ Z U h a w) (m:∀γ' v w',Dd C γ0 w0 γ' Z (U.put o.dst (.val r)) h' (a.put o.dst v) w'->K (a.put o.dst v) w'):o.wp C.P a w K Q:=by
 let⟨⟨fn,n,hf,hname,hb⟩,b⟩:=l.2 f args' h r h' Bb;have j:=Hk hr hg;unfold Dw at ht;split at ht
 next f0 first captured=>
  split at ht;rotate_left;.cases ht
  rename_i vS;cases ht;rw[show E0 f=f from Af vS] at hf b;let⟨fs,cs,Et,h1,h2⟩:=j;have d:Bp γ (first++args++captured) (fs++c.args.map a.eval++cs).toList:=by simpa using(h1.append (Ee hr ha)).append h2
  refine TD (f:=f) (cargs:=fs++c.args.map a.eval++cs) ?_ (b γ w _ hr.Eh hr.HO d) λv w' ⟨γ',hi,KK,hv,Gf⟩=>?_;.simp only[execOp,ho,resolve,hcl,zo,Et,ze,zd,zq,invoke];exact IU hf hname hb _ w
  .let⟨i,LU⟩:=hr.aED (Bu:=z5) hi KK hv (λe=>by cases e) o.dst;exact m i v w' (zv LU)
 .cases ht
end
end Go.Am
end
