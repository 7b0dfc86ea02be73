/- Lemmas -/
import Derived.Test.YtffmdapalbecoaaGreatDoorO3
import Derived.Laws.IdiomCopy
set_option linter.all false
open Option renaming some→zz,none→zw
open List renaming length→zy,getD→zl
open Go.Instr renaming loadAt→zx,sureAddr→zr
open Go.Value renaming pointer→zu
open Go.Am.DG renaming cells→zt
open Go.Am.EL renaming box→zq,val→zj
open Go.Am.Gh renaming DH→zn
open Or renaming inl→zm,inr→zk
section
namespace Go.Am
open Go
def vp(β:Nat->Nat)(d b:Nat):Nat->Nat:=λs=>if s=d then b else β s
def Lc.wB:Lc->Option Nat
 | .MR _=>zw
 | .loc s=>zz s
 | .tail s _ _=>zz s
structure Rf(g:Nat)(γ:Gh)(w:World)(γ':Gh)(w':World):Prop where
 le:γ.le γ'
 OV:∀b x,b≠g->γ.Bu b=zz x->x.xt=false->γ'.Bu b=zz x/\w'.heap[b]?=w.heap[b]?
section
variable{C:GN}{γ0 γ γ':Gh}{w0 w w':World}{β:Nat->Nat}{U:BU}{h:Ah}{a:Act}{fid:FuncId}{ops:List Oper}
def BU.TA(U:BU)(ds:List Nat)(s:Nat):(U.drop ds).at s=match U.at s with| .FF t o=>if ds.contains t then .undef else .FF t o|x=>x:=by
 cases ds with
 |nil=>simp[BU.drop,List.contains_nil];cases U.at s<;>simp
 |cons d ds=>
  simp[BU.drop,BU.at,zl,Cc];cases hg:U[s]? with
  |none=>rfl
  |some x=>cases x<;>rfl
def BU.length_drop(U:BU)(ds:List Nat):(U.drop ds).length=zy U:=by cases ds<;>simp[BU.drop]
def Me.aNA{B s d b:Nat}{x:EL}{v:Value}(hx:Me γ β B w s x v)(hn:∀o,x≠ .FF d o)(hs:s≠d):Me γ (vp β d b) B w s x v:=by
 cases x with
 |box ver cs ow=>simpa only[Me,vp,Ac hs] using hx
 |FF t o=>have:t≠d:=λe=>hn o (by rw[e]);simpa only[Me,vp,Ac this] using hx
 |_=>exact hx
section
variable{g B s:Nat}{d:Lc}(hg:γ.Bu g=some d)(k:Rf g γ w γ' w')(hne:d.wB≠some s)
def Jp.keptBut{c:Option Nat}{v:Value}{u:Aa}(ho:Jp γ B w s c v u):Jp γ' B w' s c v u:=by
 obtain ho|⟨g2,n,cap,us,e,z,AD,h1,h2,b,m,l,j⟩:=ho
 .exact zm ho
 .have hb:g2≠g:=λhe=>by subst he;rw[hg] at b;cases b;exact hne rfl
  let⟨i,f⟩:=k.OV g2 _ hb b rfl;exact zk ⟨g2,n,cap,us,e,z,AD,h1,h2,i,m,by rwa[f],j⟩
def Me.keptBut{x:EL}{v:Value}(hx:Me γ β B w s x v):Me γ' β B w' s x v:=by
 cases x with
 |undef=>trivial
 |skip=>exact hx
 |val u=>exact BT.mono k.le u v hx
 |P7 b=>exact hx
 |Bu u=>exact⟨BT.mono k.le u v hx.1,hx.2.keptBut hg k hne⟩
 |box ver cs ow=>
  let⟨r,c,q,us,e,p,n,m,l⟩:=hx;have hb:β s≠g:=λhe=>by rw[he,hg] at c;cases c;exact hne rfl
  let⟨y,t⟩:=k.OV _ _ hb c rfl;exact⟨r,y,q,us,e,by rwa[t],Bp.mono k.le cs _ n,m,λo ho=>let⟨u,v,j,i,f⟩:=l o ho;⟨u,v,j,i,f.keptBut hg k hne⟩⟩
 |FF s' o=>exact hx
end
def Dd.ye(hr:Dd C γ0 w0 γ β U h a w)(d:Nat)(us:Array Value)(e:TypeId)(cells:List Aa)(ow:List Nat)(hc:Bp γ cells us.toList)(h1:∀u∈us.toList,u.oneCell'=true)
  (how:∀o∈ow,cells[o]?=zz .slnil):
  ∃γ' b,Dd C γ0 w0 γ' b ((U.drop [d]).set d (zq 0 cells ow)) h (a.put (zz d) (zu (zz ⟨w.heap.size,0,zw⟩))) (w.alloc (.cells us e)):=by
 let⟨hi,ha⟩:=Qg hr.Eh us e (0,0) 0 (zz (.loc d)) (λ_ _ ho=>absurd ho (Nat.not_lt_zero _)) (zk (zk ⟨rfl,AH⟩));have KA:=(hr.drop [d]).JF hi ha;refine⟨_,vp β d w.heap.size,KA.Eh,⟨by simp[Act.put,KA.fr.size],λs=>?_⟩,KA.Ed,KA.defers,KA.HO⟩;have hs:=KA.fr.IS s;by_cases he:s=d
 .subst he;by_cases hl:s<(U.drop [s]).length
  .have c:s<a.tmps.size:=by rwa[<-KA.fr.size]
   rw[BU.FQ hl];have i:(a.put (zz s) (zu (zz ⟨w.heap.size,0,zw⟩))).tmps.getD s undef= zu (zz ⟨w.heap.size,0,zw⟩):=by simp[Act.put,Array.getD,c]
   rw[i];refine⟨by simp[vp],by simp[vp,zn],?_,us,e,?_,Bp.mono ha.le _ _ hc,h1,λo ho=>?_⟩;.simp only[vp,BR];exact hr.Ed.size
   .simp only[vp,BR];exact heap_alloc_new w _
   .have hco:=how o ho;let⟨u,f,j⟩:=hc.get hco;exact⟨u,.slnil,zv f,hco,zm (zm rfl)⟩
  .have:BU.at ((U.drop [s]).set s (zq 0 cells ow)) s= .undef:=by simp[BU.at,zl];rw[Ki (zv hl)];rfl
   rw[this];trivial
 .rw[BU.GK (λe=>he e.symm)];have g:(a.put (zz d) (zu (zz ⟨w.heap.size,0,zw⟩))).tmps.getD s undef=a.tmps.getD s undef:=by simp[Act.put,Kx,vY (λe=>he e.symm)]
  rw[g];refine hs.aNA (λo ho=>?_) he;rw[BU.TA] at ho;cases hx:U.at s with
  |FF t o'=>grind
  |_=>rw[hx] at ho;cases ho
def ID{P:Program}{t:TypeId}{z:Aa}(hz:HA P t=zz z):∃v,Mt v=zz z/\∀w,(zeroValue t).run P w= .ok v w:=by
 rw[HA] at hz;cases hi:P.info? t with
 |none=>rw[hi] at hz;cases hz
 |some i=>
  rw[hi] at hz;cases hv:i.zero with
  |none=>simp[hv] at hz
  |some v=>simp[CP,hv] at hz;exact⟨v,hz,λw=>by simp[zeroValue,typeInfo,hi,hv]⟩
def wQ{cs:List Aa}{o:Nat}(h:o∈Yq cs):cs[o]?=zz .slnil:=by simp[Yq,Gc,List.mem_range] at h;grind
def Gw(C:GN)(γ0:Gh)(w0:World)(o:Oper)(a:Act)(w:World)(c:BU)(h':Ah):Prop:=
 ∃γ' b w',(∃v,(execOp a.eval o).run C.P w= .ok (.value v) w'/\Dd C γ0 w0 γ' b c h' (a.put o.dst v) w')\/((execOp a.eval o).run C.P w= .ok .skip w'/\Dd C γ0 w0 γ' b c h' (a.put o.dst undef) w')
section
variable{o:Oper}{c:BU}{h':Ah}{b:Nat->Nat}
def Gw.value{v:Value}(he:(execOp a.eval o).run C.P w= .ok (.value v) w')(hr:Dd C γ0 w0 γ' b c h' (a.put o.dst v) w'):Gw C γ0 w0 o a w c h':=⟨γ',b,w',zm ⟨v,he,hr⟩⟩
def Gw.skip(he:(execOp a.eval o).run C.P w= .ok .skip w')(hr:Dd C γ0 w0 γ' b c h' (a.put o.dst undef) w'):Gw C γ0 w0 o a w c h':=⟨γ',b,w',zk ⟨he,hr⟩⟩
end
def YF{o:Oper}{t:TypeId}{d:Nat}{z:Aa}(ho:o.op= .alloc t)(hd:o.dst=zz d)(hz:HA C.P t=zz z)(hn:z.cells≠[])(hr:Dd C γ0 w0 γ β U h a w):
  Gw C γ0 w0 o a w ((U.drop [d]).set d (zq 0 z.cells (Yq z.cells))) h:=by
 let⟨v,hv,Bb⟩:=ID hz;obtain⟨e,c⟩:=HQ (FO hv) (Ej.2 hn);let⟨γ',b,Gy⟩:=hr.ye d v.cells t z.cells (Yq z.cells) e c (λo=>wQ);refine Gw.value ?_ (by rwa[hd]);simp[execOp,ho,Instr.alloc,Bb,newVar,newRow]
def gY{o:Oper}{t:TypeId}{x:Operand}{d n:Nat}{v:Aa}(ho:o.op= .box t x)(hd:o.dst=zz d)(hx:Ft C U x=zz v)(hv:zy v.cells=n)(hn:n≠0)(hr:Dd C γ0 w0 γ β U h a w):
  Gw C γ0 w0 o a w ((U.drop [d]).set d (zq 0 v.cells [])) h:=by
 let⟨e,c⟩:=HQ (Hk hr hx) Ab;let⟨γ',b,Gy⟩:=hr.ye d (a.eval x).cells t v.cells [] e c AH;refine Gw.value ?_ (by rwa[hd]);simp[execOp,ho,Instr.box,newVar,newRow]
def Dd.newObj(hr:Dd C γ0 w0 γ β U h a w)(us:Array Value)(e:TypeId)(fr:Nat×Nat)(cells:List Aa)(dz:U4 fr us.size)(hc:Bp γ cells (us.toList.take (zy cells)))(h1:∀u∈us.toList.take (zy cells),u.oneCell'=true):
  ∃γ',γ.le γ'/\γ'.mu (zy h)=zz w.heap.size/\Dd C γ0 w0 γ' β U (h++[zt cells]) a (w.alloc (.cells us e fr))/\γ'.sz w.heap.size=zz us.size:=by
 let⟨hi,ha⟩:=Hp hr.Eh (.cells us e fr) (zt cells) (zz us.size) (zm ⟨cells,us,e,fr,rfl,rfl,dz,hc,h1,rfl⟩);exact⟨_,ha.le,by simp[Gh.BW],hr.JF hi ha,by simp[Gh.BW]⟩
def YG{o:Oper}{t:TypeId}{z:Aa}{d:Option Nat}(ho:o.op= .alloc t)(hd:o.dst=d)(hz:HA C.P t=zz z)(hn:zy z.cells≠0)(hr:Dd C γ0 w0 γ β U h a w):
  Gw C γ0 w0 o a w (U.put d (zj (.ptr (zz (zy h,0))))) (h++[zt z.cells]):=by
 let⟨v,hv,Bb⟩:=ID hz;let⟨b,c⟩:=HQ (γ:=γ) (FO hv) Ab;let⟨γ',EH,hm,Gy,_⟩:=hr.newObj v.cells t (0,0) z.cells (zm rfl) (by rwa[AF (by rw[b.length];exact Ae _)]) (λu hu=>c u (BJ hu));refine Gw.value ?_ (by rw[hd];exact Gy.put λs _=>⟨_,hm,rfl⟩);simp[execOp,ho,Instr.alloc,Bb,newVar,newRow]
def gZ{o:Oper}{t:TypeId}{x:Operand}{d:Option Nat}{v:Aa}(ho:o.op= .box t x)(hd:o.dst=d)(hx:Ft C U x=zz v)(hn:zy v.cells≠0)(hr:Dd C γ0 w0 γ β U h a w):
  Gw C γ0 w0 o a w (U.put d (zj (.ptr (zz (zy h,0))))) (h++[zt v.cells]):=by
 let⟨b,c⟩:=HQ (Hk hr hx) Ab;let⟨γ',EH,hm,Gy,_⟩:=hr.newObj (a.eval x).cells t (0,0) v.cells (zm rfl) (by rwa[AF (by rw[b.length];exact Ae _)]) (λu hu=>c u (BJ hu));refine Gw.value ?_ (by rw[hd];exact Gy.put λs _=>⟨_,hm,rfl⟩);simp[execOp,ho,Instr.box,newVar,newRow]
section
variable(hr:Dd C γ0 w0 γ β U h a w){x:Operand}
def LS{s o ver:Nat}{cs:List Aa}{ow:List Nat}(hx:GO C U x=zz (.Qd s o ver cs ow)):
  U.at s= zq ver cs ow/\a.eval x= zu (zz ⟨β s,o,zw⟩):=by
 unfold GO at hx;split at hx;next s' Hd HJ PE hs=>cases hx;have h0:=Tu hr s;rw[HE hs] at h0;exact⟨HE hs,h0.1⟩
 .rename_i s' o' _ hs;split at hx;.rename_i hb;cases hx;let⟨t,h1,_⟩:=GU hr hs;exact⟨hb,h1⟩
  .cases hx
 .simp_all
 .cases hx
def SH{p:Aa}(hx:GO C U x=zz (.ptr p)):BT γ p (a.eval x):=by
 unfold GO at hx;split at hx;.cases hx
 .grind
 .rename_i sl _ _ hs;cases hv:sl.IF with
  |none=>rw[hv] at hx;cases hx
  |some u=>rw[hv] at hx;cases hx;let⟨t,h1,_⟩:=GU hr hs;exact Oi h1 hv
 .cases hx
end
def I6{t:TypeId}{n:Option Nat}(ht:FL C.P t=zz n){cs:List Aa}{us:List Value}{b o:Nat}(hv:Bp γ cs us)(hc:∀(j:Nat) (u:Value),us[j]?=zz u->w.cell? ⟨b,o+j,zw⟩=zz u)(h1:∀u∈us,u.oneCell'=true)
  {r:Aa} (hp:FN cs 0 n=zz r):∃v,(zx t (zu (zz ⟨b,o,zw⟩))).run C.P w= .ok v w/\BT γ r v:=by
 unfold FL at ht;have Oj:∀j,(⟨b,o,zw⟩:Addr).add j=⟨b,o+j,zw⟩:=λj=>by unfold Addr.add;split<;>simp_all
 have agg:∀d,C.P.underlying t=zz d->(match d with| .struct _| .array _ _=>true|_=>false)=true->(B7 C.P t).map zz=zz n->
   ∃v,(zx t (zu (zz ⟨b,o,zw⟩))).run C.P w= .ok v w/\BT γ r v:=by
  intro d hd hb hn;cases hs:B7 C.P t with
  |none=>rw[hs] at hn;cases hn
  |some k=>
   rw[hs] at hn;cases hn;simp only[FN] at hp;split at hp
   .rename_i hk;cases hp;have hl:=run_loadCells_list (P:=C.P) w ⟨b,o,zw⟩ (us.take k) (λj v hj=>by
     rw[Oj];refine hc j v ?_;rw[Ci] at hj;split at hj;.exact hj
     .cases hj)
    have hlen:(us.take k).length=k:=by simp[hv.length];omega
    rw[hlen] at hl;refine⟨.agg (us.take k).toArray,?_,_,rfl,?_,λu hu=>h1 u (BJ (by simpa using hu))⟩
    .have wR:(isAgg t).run C.P w= .ok true w:=by unfold isAgg;rw[Sem.run_bind,run_underlying hd w];cases d<;>simp_all
     cases hq:C.P.info? t with
     |none=>simp[B7,hq] at hs
     |some i=>
      have hi:i.size=k:=by simpa[B7,hq] using hs
      simp[zx,zr,loadVar,wR,sizeOf,typeInfo,hq,hi,hl]
    .simpa using hv.take k
   .cases hp
 split at ht;.rename_i fs hd;exact agg _ hd rfl ht
 .rename_i l e hd;exact agg _ hd rfl ht
 .rename_i d ND Tf hd;cases ht;simp only[FN] at hp;obtain⟨u,hu,hr⟩:=hv.get hp;refine⟨u,?_,hr⟩;have wR:(isAgg t).run C.P w= .ok false w:=by unfold isAgg;rw[Sem.run_bind,run_underlying hd w];cases d<;>simp_all
  have Km:=hc 0 u hu;simp only[Bw] at Km;simp[zx,zr,loadVar,wR,Km]
 .cases ht
def Ql{cs:List Aa}{off:Nat}{n:Option Nat}{r:Aa}(h:FN cs off n=zz r):FN (cs.drop off) 0 n=zz r:=by
 cases n with
 |none=>simp only[FN] at h⊢;rw[Cu];exact zv h
 |some n=>simp[FN] at h⊢;grind
section
variable(hr:Dd C γ0 w0 γ β U h a w)
def Dd.dO{s ver:Nat}{cs:List Aa}{ow:List Nat}(hs:U.at s= zq ver cs ow):
  γ.Bu (β s)=zz (.loc s)/\w0.heap.size<=β s/\∃us e,w.heap[β s]?=zz (.cells us e (0,0))/\Bp γ cs us.toList/\(∀u∈us.toList,u.oneCell'=true)/\
   ∀o∈ow,∃u x,us[o]?=zz u/\cs[o]?=zz x/\Jp γ w0.heap.size w s (zz o) u x:=by
 have h0:=hr.fr.IS s;rw[hs] at h0;exact⟨h0.2.1,h0.2.2.1,h0.2.2.2⟩
def LD{t:TypeId}{n:Option Nat}(ht:FL C.P t=zz n){s ver off:Nat}{cs:List Aa}{ow:List Nat}(hs:U.at s= zq ver cs ow){r:Aa}(hp:FN cs off n=zz r):
  ∃v,(zx t (zu (zz ⟨β s,off,zw⟩))).run C.P w= .ok v w/\BT γ r v/\(n=zw->∀us e,w.heap[β s]?=zz (.cells us e (0,0))->us[off]?=zz v):=by
 let⟨_,_,us,e,h1,h2,i,_⟩:=hr.dO hs;let⟨v,f,g⟩:=I6 (w:=w) (b:=β s) (o:=off) ht (h2.drop off) (λj u hj=>by rw[cell_of_row w _ _ us e (0,0) h1];rw[Cu] at hj;exact zv hj) (λu hu=>i u (BO hu)) (Ql hp)
 refine⟨v,f,g,λhn D4 e' c=>?_⟩;subst hn;rw[h1] at c;cases c;simp[FN] at hp;let⟨u,hu,_⟩:=h2.get hp;have Km:w.cell? ⟨β s,off,zw⟩=zz u:=by rw[cell_of_row w _ _ us e (0,0) h1];exact zv hu
 have wR:∃d,C.P.underlying t=zz d/\(isAgg t).run C.P w= .ok false w:=by
  rw[FL] at ht;split at ht;.cases hz:B7 C.P t<;>rw[hz] at ht<;>cases ht
  .cases hz:B7 C.P t<;>rw[hz] at ht<;>cases ht
  next d ND Tf hd=>refine⟨d,hd,?_⟩;rw[isAgg];rw[Sem.run_bind,run_underlying hd w];cases d<;>simp_all
  .cases ht
 let⟨d,hd,wR⟩:=wR;have:(zx t (zu (zz ⟨β s,off,zw⟩))).run C.P w= .ok u w:=by simp[zx,zr,loadVar,wR,Km]
 rw[f] at this;cases this;exact zv hu
def Dd.Ŏ{s ver off:Nat}{cs:List Aa}{ow:List Nat}(hs:U.at s= zq ver cs ow)(ho:off∈ow)(ŏ:off∉ow.erase off)(s':Nat)(c':Option Nat){u:Value}{v:Aa}(hv:cs[off]?=zz v)
  (hu:∀us e,w.heap[β s]?=zz (.cells us e (0,0))->us[off]?=zz u):
  ∃γ',γ.le γ'/\Dd C γ0 w0 γ' β (U.set s (zq (ver+1) cs (ow.erase off))) h a w/\Jp γ' w0.heap.size w s' c' u v:=by
 have h0:=hr.fr.IS s;rw[hs] at h0;let⟨h1,h2,r,us,e,j,q,p,i⟩:=h0;let⟨x,v',d,c,b⟩:=i off ho;rw[hv] at c;cases c;rw[hu us e j] at d;cases d;have KA:Dd C γ0 w0 γ β (U.set s (zq (ver+1) cs (ow.erase off))) h a w:=hr.qB ⟨h1,h2,r,us,e,j,q,p,λo' ň=>i o' (List.mem_of_mem_erase ň)⟩;have hl:=BU.Qh (by rw[hs];simp);obtain b|⟨g,n,cap,wD,t,z,AD,o,m,l,f,k⟩:=b
 .exact⟨γ,.refl _,KA,zm b⟩
 .refine⟨γ.Gn g (.tail s' c' (n*z)),HP _ _ _,KA.Gn l f (λhn=>by cases hn) (λo' ň Hd HJ PE hb=>?_),zk ⟨g,n,cap,wD,t,z,AD,o,m,by simp[Gh.Gn],f,k⟩⟩;rw[BU.FQ hl] at hb;grind
end
section
variable{o:Oper}{t:TypeId}{x:Operand}
def bW{d:Nat}{take:Bool}{r:E8}{run:IT->Ah->Option Kz}{g:BU}{h':Ah}(ho:o.op= .load t x)(hd:o.dst=zz d)(hc:Md C U t x d take=zz r)(hp:∃ws,r= .pure ws)
  (GG:r.Oh C run (U.drop r.news) h g h') (hr:Dd C γ0 w0 γ β U h a w):Gw C γ0 w0 o a w g h':=by
 have Nw:∀v,(zx t (a.eval x)).run C.P w= .ok v w->(execOp a.eval o).run C.P w= .ok (.value v) w:=λv hv=>by simp[execOp,ho,hv]
 rw[Md] at hc;split at hc;.cases hc;let⟨_,e⟩:=hp;cases e
 .rename_i s off ver cs ow ht ha;let⟨hs,hx⟩:=LS hr ha;split at hc
  .rename_i hlt;have hC:cs[off]?=zz (cs.getD off .nilIface):=by simp[zl,An hlt]
   let⟨v,b,c,i⟩:=LD hr ht hs (r:=cs.getD off .nilIface) (off:=off) (by simpa[FN] using hC);rw[<-hx] at b;simp only at hc;split at hc
   .rename_i Ir;cases hc;rw[OX AH] at GG;obtain⟨rfl,rfl⟩:=GG;simp[Bq,aH0] at Ir;let⟨⟨j,f⟩,_⟩:=Ir;have f:off∉ow.erase off:=zv f
    let⟨γ',EH,Gy,Gf⟩:=hr.Ŏ hs j f d zw hC (i rfl);exact Gw.value (Nw v b) (by rw[hd];exact Gy.put (d:=zz d) λs' dG=>by cases dG;exact⟨BT.mono EH _ _ c,Gf⟩)
   .cases hc;rw[OX AH] at GG;obtain⟨rfl,rfl⟩:=GG;exact Gw.value (Nw v b) (by rw[hd];exact hr.put (d:=zz d) λ_ _=>c)
  .cases hc
 .rename_i n s off ver cs ow ht ha;let⟨hs,hx⟩:=LS hr ha;split at hc;.rename_i EH;cases hc;rw[OX AH] at GG;obtain⟨rfl,rfl⟩:=GG;let⟨v,b,c,_⟩:=LD hr ht hs (r:= .agg ((cs.drop off).take n)) (off:=off) (by simp[FN,EH]);rw[<-hx] at b;exact Gw.value (Nw v b) (by rw[hd];exact hr.put (d:=zz d) λ_ _=>c)
  .cases hc
 .cases hc
def yf{n:Option Nat}{p r:Aa}(ho:o.op= .load t x)(ht:FL C.P t=zz n)(hx:GO C U x=zz (.ptr p))(hl:A5 h n p=zz r)(hr:Dd C γ0 w0 γ β U h a w):
  Gw C γ0 w0 o a w (U.put o.dst (zj r)) h:=by
 have hv:=SH hr hx;have Nw:∀v,(zx t (a.eval x)).run C.P w= .ok v w->(execOp a.eval o).run C.P w= .ok (.value v) w:=λv hv=>by simp[execOp,ho,hv]
 unfold A5 at hl;split at hl
 .rename_i cs;let⟨b,k,hv,hm⟩:=hv;let⟨us,g,d⟩:=hm.values;let⟨v,c,f⟩:=I6 (w:=w) ht g (λj u hj=>(hr.Eh.IZ _ _ _ (d j u hj)).1) (λu hu=>by let⟨j,hj⟩:=CW hu;exact(hr.Eh.IZ _ _ _ (d j u hj)).2.1) hl
  rw[<-hv] at c;exact Gw.value (Nw v c) (hr.put λ_ _=>f)
 .rename_i id off;let⟨b,hb,hv⟩:=hv;split at hl
  .rename_i cs hcs;let⟨us,e,fr,g,pf,d,i⟩:=hr.Eh.cells id cs hcs b hb;obtain⟨v,c,f⟩:=I6 (w:=w) (b:=b) ht (d.drop off) (λj u hj=>by
    rw[cell_of_row w _ _ us e fr g];rw[Cu,Ci] at hj;split at hj;.exact zv hj
    .cases hj) (λu hu=>i u (BO hu)) (Ql hl)
   rw[<-hv] at c;exact Gw.value (Nw v c) (hr.put λ_ _=>f)
  .cases hl
 .cases hl
end
end
end Go.Am
end
section
namespace Go.Am
open Go
section
variable{C:GN}{γ0 γ γ':Gh}{w0 w w':World}{β:Nat->Nat}{U:BU}{h:Ah}{a:Act}{fid:FuncId}{ops:List Oper}
def Fa{b:Nat}{t:TypeId}{fr:Nat×Nat}:∀(vs:List Value) (o:Nat) (cur:Array Value) (w:World),w.heap[b]?=zz (.cells cur t fr)->o+zy vs<=cur.size->
  w.setCells b o vs=w.setRow b (cur.toList.take o++vs++cur.toList.drop (o+zy vs)).toArray
 |[],o,cur,w,hg,_=>by simp[World.setCells,BB,BP,Bw,CJ,Array.toArray_toList];exact(setRow_self w b cur t fr hg).symm
 |v::r,o,cur,w,hg,hl=>by simp[Bn] at hl;rw[World.setCells,setCell_eq_setRow w b o cur t fr v hg,Fa r (o+1) _ _ (setRow_heap w b cur _ t fr hg) EP,setRow_setRow];have e:=list_seg_step cur.toList o v r EP;grind
def PG{t:TypeId}{n b o:Nat}(hn:B7 C.P t=zz n){u:Value}(hu:u.cells.size=n)(h1:∀x∈u.cells.toList,x.oneCell'=true){cur:Array Value}{e:TypeId}{fr:Nat×Nat}(hg:w.heap[b]?=zz (.cells cur e fr))(dz:U4 fr cur.size)
  (hl:o+n<=cur.size):(Instr.storeAt t (zu (zz ⟨b,o,zw⟩)) u).run C.P w= .ok () (w.setRow b (cur.toList.take o++u.cells.toList++cur.toList.drop (o+n)).toArray):=by
 have hs:=run_storeCells_cells (P:=C.P) b o u.cells.toList 0 w (λj hj=>by
  rw[cell_of_row w _ _ cur e fr hg];simp at hj;rw[Eb Ab];rfl) (λj hj=>by
  simp at hj;simp only[World.frozen?,hg];obtain rfl|dz:=dz
  .simp
  .simp;omega) h1
 rw[Bw,Fa _ o cur w hg EP] at hs;cases hq:C.P.info? t with
 |none=>simp[B7,hq] at hn
 |some i=>
  have hi:i.size=n:=by simpa[B7,hq] using hn
  simp[Instr.storeAt,zr,storeVar,sizeOf,typeInfo,hq,hi,hu,hs]
def YH{Z:Type}{cs vs:List Z}{off n o:Nat}(hl:off+n<=zy cs)(hv:zy vs=n)(ho:¬(off<=o/\o<off+n)):(cs.take off++vs++cs.drop (off+n))[o]?=cs[o]?:=by
 have b:(cs.take off).length=off:=EP;by_cases h:o<off;.rw[Ak (by simp[hv];omega),Ak Ab,DS h]
 .rw[Bz (by simp[hv];omega),Cu];congr 1
  simp[hv];omega
def dQ{Z:Type}{cs:List Z}{off n:Nat}{x:Z}(hl:off+n<=zy cs):(cs.take off++[x]++cs.drop (off+n))[off]?=zz x:=by have b:(cs.take off).length=off:=EP;grind
def NF{Z:Type}{us vs:List Z}{off n len:Nat}(hl:len<=zy us)(ho:off+n<=len)(hv:zy vs=n):
  (us.take off++vs++us.drop (off+n)).take len=(us.take len).take off++vs++(us.take len).drop (off+n):=by
 have b:(us.take off++vs).length=off+n:=by simp[hv];omega
 rw[cw,AF Ab,b,Fj,Ct Ab,List.drop_take]
def O2{cs vs:List Aa}{us D4:List Value}{off n:Nat}(h:Bp γ cs us)(h':Bp γ vs D4):Bp γ (cs.take off++vs++cs.drop (off+n)) (us.take off++D4++us.drop (off+n)):=
 ((h.take off).append h').append (h.drop (off+n))
def Jp.aC1{B s d g:Nat}(hg:γ.Bu g=zz (.loc s)){c:Option Nat}{v:Value}{u:Aa}(D4:Array Value)(ho:Jp γ B w d c v u):Jp γ B (w.setRow g D4) d c v u:=by
 obtain ho|⟨g2,n,cap,us,e,z,AD,h1,h2,b,j,i,f⟩:=ho
 .exact zm ho
 .have hb:g2≠g:=λhe=>by subst he;rw[hg] at b;cases b
  exact zk ⟨g2,n,cap,us,e,z,AD,h1,h2,b,j,by rwa[setRow_other w g g2 D4 hb],f⟩
def YI(γ:Gh)(w:World)(g:Nat)(us:Array Value):Rf g γ w γ (w.setRow g us):=
 ⟨.refl _,λb x hb hx _=>⟨hx,setRow_other w g b us hb⟩⟩
section
variable(hr:Dd C γ0 w0 γ β U h a w)
def Dd.qN{s ver Hd off n:Nat}{cs:List Aa}{ow:List Nat}(hs:U.at s= zq ver cs ow){vs:List Aa}{D4:List Value}(hv:Bp γ vs D4)(h1:∀u∈D4,u.oneCell'=true)(hn:zy vs=n)
  (hl:off+n<=zy cs) {Bu:Bool} (Gf:Bu=true->∃u x,D4=[u]/\vs=[x]/\Jp γ w0.heap.size w s (zz off) u x) {us:Array Value} {e:TypeId} (hg:w.heap[β s]?=zz (.cells us e (0,0))):
  Dd C γ0 w0 γ β (U.set s (zq Hd (Yt cs off n vs) (Tp ow off n Bu))) h a (w.setRow (β s) (us.toList.take off++D4++us.toList.drop (off+n)).toArray):=by
 have h0:=hr.fr.IS s;rw[hs] at h0;let⟨r,d,k,vq,e0,j,i,v,q⟩:=h0;rw[hg] at j;cases j;have hlen:zy D4=n:=by rw[hv.length,hn]
 have pT:off+n<=zy us.toList:=by rwa[i.length]
 have yg:s<zy U:=BU.Qh (by rw[hs];simp);refine⟨om hr.Eh d _,⟨by simp[hr.fr.size],λf=>?_⟩,hr.Ed.write (g:=β s) k (.refl _) AH rfl rfl rfl (λb hb=>⟨setRow_other w _ b _ hb,rfl⟩),hr.defers,hr.HO⟩;by_cases he:f=s
 .subst he;rw[BU.FQ yg];refine⟨r,d,k,_,e,setRow_heap w _ us _ e (0,0) hg,?_,?_,?_⟩;.simpa[Yt] using O2 (off:=off) (n:=n) i hv
  .grind
  .intro o ho;have JG:(Bu=true/\o=off)\/(o∈ow/\¬(off<=o/\o<off+n)):=by
    rw[Tp] at ho;have hf:o∈ow.filter (λo=> !(decide (off<=o)&&decide (o<off+n)))->o∈ow/\¬(off<=o/\o<off+n):=λhm=>by rw[Gc] at hm;refine⟨hm.1,λhc=>?_⟩;have:=hm.2;simp[hc.1,hc.2] at this
    cases Bu with
    |true=>
     simp only[BR,AR] at ho;obtain ho|ho:=ho
     .exact zm ⟨rfl,ho⟩
     .exact zk (hf ho)
    |false=>exact zk (hf ho)
   rcases JG with⟨c,rfl⟩|⟨c,bX⟩
   .obtain⟨u,x,rfl,rfl,t⟩:=Gf c;exact⟨u,x,zv (dQ (x:=u) pT),by simpa[Yt] using dQ (x:=x) hl,t.aC1 d _⟩
   .let⟨u,x,p,m,l⟩:=q o c;refine⟨u,x,?_,?_,l.aC1 d _⟩;.rw[<-p];have:=YH pT hlen bX;exact zv this
    .rw[<-m];exact YH hl hn bX
 .rw[BU.GK (λx=>he x.symm)];exact(hr.fr.IS f).keptBut d (YI γ w _ _) (by simp[Lc.wB];intro hx;cases hx;exact he rfl)
def Qm{y:Operand}{v:Aa}(hy:LN C U y=true)(hv:Ft C U y=zz v)(s':Nat)(c':Option Nat):
  ∃γ',γ.le γ'/\Dd C γ0 w0 γ' β (U.D5 (Dx U y)) h a w/\BT γ' v (a.eval y)/\Jp γ' w0.heap.size w s' c' (a.eval y) v:=by
 rw[LN] at hy;cases hs:Es C U y with
 |none=>rw[hs] at hy;cases hy
 |some sl=>
  rw[hs] at hy;cases sl with
  |Bu u=>
   have b:u=v:=by rw[Ft] at hv;rw[hs] at hv;exact EA hv
   subst b;cases y with
   |tmp t=>have ht:=HE hs;let⟨γ',EH,Gy,h1,h2⟩:=hr.take ht s' c';exact⟨γ',EH,by simpa[Dx,ht,BU.D5] using Gy,h1,h2⟩
   |const c=>
    refine⟨γ,.refl _,hr,Hk hr hv,?_⟩;let⟨q,_⟩:=Tv (γ:=γ) (β:=β) (w:=w) hs;unfold Es at hs;split at hs;next e=>cases e
    .cases hs
    .cases hs;exact zm (zm rfl)
    .simp_all
    next e=>cases e
    .cases hs
   |global g=>have dG:(C.HO g).map (λcs=>EL.val (Aa.CH cs))=zz (.Bu u):=hs;simp_all
   |func f=>cases hs
  |_=>cases hy
end
def wS{B s:Nat}{c:Option Nat}{v:Value}{x:Aa}(h:Jp γ B w s c v x):x.cells=[x]:=by rcases h with(rfl|⟨_,rfl⟩)|⟨_,_,_,_,_,_,_,rfl,_⟩<;>rfl
section
variable{o:Oper}{t:TypeId}{x y:Operand}
def wT{s off n ver:Nat}{v:Aa}{Bu:Bool}{c:Option (Nat×Aa)}{cells:List Aa}{owned:List Nat}{run:IT->Ah->Option Kz}{i:BU}{h':Ah}(ho:o.op= .store t x y)(hd:o.dst=zw)
  (hc:J2 C U t x y=zz (.NY s off n v Bu c ver cells owned)) (GG:(E8.NY s off n v Bu c ver cells owned).Oh C run U h i h') (hr:Dd C γ0 w0 γ β U h a w):Gw C γ0 w0 o a w i h':=by
 rw[J2] at hc;split at hc;.cases hc
 .rename_i m sh s' yh Hd HJ PE v' LC vN ha hv;split at hc
  .rename_i hl;simp only[BF,E8.NY.injEq] at hc;obtain⟨rfl,rfl,rfl,rfl,Gf,bY,rfl,rfl,rfl⟩:=hc;obtain⟨hn,rfl,rfl⟩:=GG;let⟨hs,hx⟩:=LS hr ha;have et:=Hk hr hv;let⟨_,_,us,e,hg,k,l,_⟩:=hr.dO hs;have yg:yh+(m+1)<=us.size:=by have:=k.length;simp at this;omega
   let⟨f,d⟩:=HQ et Ab;have wU:(a.eval y).cells.size=m+1:=by have:=f.length;simp at this;omega
   have Ia:=PG (C:=C) (b:=β s') (o:=yh) LC wU d hg (zm rfl) yg;rw[<-hx] at Ia;have Nw:(execOp a.eval o).run C.P w= .ok .skip (w.setRow (β s') (us.toList.take yh++(a.eval y).cells.toList++us.toList.drop (yh+(m+1))).toArray):=by simp[execOp,ho,Ia]
   by_cases hw:Bu=true
   .subst hw;rw[Af Gf] at bY;subst bY;simp[Bq] at Gf;let⟨j,EH,KA,h1,h2⟩:=Qm hr Gf.2 hv s' (zz yh);have RZ:=wS h2;have Kn:(U.D5 (Dx U y)).at s'= zq Hd HJ PE:=by
     cases y with
     |tmp t'=>
      simp[Dx];cases ht:U.at t' with
      |Bu u=>simp[BU.D5];rwa[BU.GK (λe=>by rw[e,hs] at ht;cases ht)]
      |_=>exact hs
     |_=>exact hs
    have LU:=KA.qN (Hd:=Hd+1) (Bu:=true) (n:=m+1) Kn (Bp.mono EH _ _ f) d hn hl (λ_=>?_) hg;.exact Gw.skip Nw (by rwa[hd])
    .have hcl:(a.eval y).cells=#[a.eval y]:=by
      rcases h2 with(h2|⟨z,h2⟩)|⟨_,_,_,_,_,_,_,_,h2,_⟩
      .subst h2;rw[show a.eval y=_ from h1];rfl
      .subst h2;let⟨_,h1⟩:=h1;rw[h1];rfl
      .rw[h2];rfl
     exact⟨a.eval y,v',by rw[hcl],RZ,h2⟩
   .have g:Bu=false:=zv hw
    subst g;rw[Ac (by rw[Gf];simp)] at bY;subst bY;exact Gw.skip Nw (by rw[hd];exact hr.qN (Hd:=Hd+1) (Bu:=false) hs f d hn hl (λe=>by cases e) hg)
  .cases hc
 .cases hc
def ph{n:Nat}{p v:Aa}{h':Ah}(ho:o.op= .store t x y)(hd:o.dst=zw)(LC:B7 C.P t=zz (n+1))(hx:GO C U x=zz (.ptr p))(hv:Ft C U y=zz v)(Ia:Cy h (n+1) p v=zz h')(hr:Dd C γ0 w0 γ β U h a w):
  Gw C γ0 w0 o a w U h':=by
 have c:=SH hr hx;have et:=Hk hr hv;unfold Cy at Ia;split at Ia
 .rename_i id off;let⟨b,hb,d⟩:=c;split at Ia
  .rename_i cs hcs;split at Ia
   .rename_i hl;cases Ia;let⟨us,e,fr,hg,pf,k,j⟩:=hr.Eh.cells id cs hcs b hb;let⟨i,g⟩:=HQ et Ab;have wU:(a.eval y).cells.size=n+1:=by have:=i.length;simp at this;omega
    have hlt:zy cs<=us.size:=by have:=k.length;simp at this;omega
    have yg:off+(n+1)<=us.size:=Ab;have Bb:=PG (C:=C) (b:=b) (o:=off) LC wU g hg pf yg;rw[<-d] at Bb;let⟨hi,ha⟩:=Of hr.Eh hcs hb hg (us.toList.take off++(a.eval y).cells.toList++us.toList.drop (off+(n+1))).toArray (cs.take off++v.cells++cs.drop (off+(n+1)))
     (by simp[Ca,Aw,Ax,Bi,Cv,wU];omega)
     (by
      obtain rfl|pf:=pf
      .exact zm rfl
      .refine zk (Bv (No ?_) pf);simp[Ca,Aw,Ax,Bi,Cv,wU];omega)
     (by
      have:=O2 (off:=off) (n:=n+1) k i;rw[<-NF (zv hlt) hl.2 (zv wU)] at this;have f:(cs.take off++v.cells++cs.drop (off+(n+1))).length=zy cs:=by simp[hl.1];omega
      rw[f];exact zv this) (λu hu=>by
      have f:(cs.take off++v.cells++cs.drop (off+(n+1))).length=zy cs:=by simp[hl.1];omega
      rw[f] at hu;simp only[Lw] at hu;rw[NF (zv hlt) hl.2 (zv wU)] at hu;simp only[AK,Ay] at hu;obtain hu|hu|hu:=hu
      .exact j u (BJ hu)
      .exact g u hu
      .exact j u (BO hu))
    have Nw:(execOp a.eval o).run C.P w= .ok .skip (w.setRow b (us.toList.take off++(a.eval y).cells.toList++us.toList.drop (off+(n+1))).toArray):=by simp[execOp,ho,Bb]
    exact Gw.skip Nw (by rw[hd];exact hr.JF hi ha)
   .cases Ia
  .cases Ia
 .cases Ia
end
def Dd.freeze(hr:Dd C γ0 w0 γ β U h a w){s ver:Nat}{cs:List Aa}{ow:List Nat}(hs:U.at s= zq ver cs ow):
  ∃γ',γ.le γ'/\Dd C γ0 w0 γ' β (U.set s (zj (.CH cs))) h a w/\BT γ' (.CH cs) (a.tmps.getD s undef):=by
 have h0:=hr.fr.IS s;rw[hs] at h0;let⟨t,f,A,us,e,m,l,k,z⟩:=h0;have yg:s<zy U:=BU.Qh (by rw[hs];simp);have xy:∀o,γ.IZ (β s) o=zw:=λo=>by
  cases hc:γ.IZ (β s) o with
  |none=>rfl
  |some u=>let⟨_,_,q⟩:=hr.Eh.IZ _ _ _ hc;rw[f] at q;obtain q|⟨_,_,_,q,_⟩:=q<;>cases q
 have EH:γ.le (γ.DH (β s) us us.size zw):=⟨λb o v hb=>by
  have:b≠β s:=λe=>by rw[e,xy] at hb;cases hb
  simp[zn,Ac this];exact hb,λ_ _ hm=>hm,λ_ _ hm=>hm⟩
 have hne:∀b id,γ.Bu b=zz (.MR id)->b≠β s:=λb id hb e=>by rw[e,f] at hb;cases hb
 have hk:Rf (β s) γ w (γ.DH (β s) us us.size zw) w:=⟨EH,λb x hb hx _=>⟨by simp[zn,Ac hb];exact hx,rfl⟩⟩;have hv:BT (γ.DH (β s) us us.size zw) (.CH cs) (a.tmps.getD s undef):=by
  refine⟨β s,0,t,Df.HD λi x hi=>?_⟩;let⟨u,d,c⟩:=l.get hi;have hlt:i<us.size:=by have:=(Aq.1 d).1;exact zv this
  exact⟨u,by simp[zn,BR,B2,Af hlt];exact zv d,BT.mono EH _ _ c⟩
 have aEx:∀b n,γ.sz b=zz n->(∃us e fr,w.heap[b]?=zz (.cells us e fr)/\us.size=n)/\((γ.DH (β s) us us.size zw).Bu b=zw\/∃id,(γ.DH (β s) us us.size zw).Bu b=zz (.MR id)):=λb n hb=>by
  let⟨p,r⟩:=hr.Eh.sz b n hb;by_cases he:b=β s;.subst he;exact⟨p,zm (by simp[zn])⟩
  .exact⟨p,by simp[zn,Ac he];exact r⟩
 refine⟨_,EH,⟨⟨λb o v hb=>?_,λid y IC hy=>?_,λid HJ hc b hb=>?_,λid es hc b hb=>?_,hr.Eh.mu,λb x hx=>?_,aEx⟩,⟨by simp[hr.fr.size],λg=>?_⟩,?_,hr.defers,λx HJ hx=>Df.mono EH _ _ _ (hr.HO x HJ hx)⟩,hv⟩
 .by_cases he:b=β s
  .subst he;simp only[zn,BR] at hb⊢;split at hb;.exact⟨by rwa[cell_of_row _ _ _ us e (0,0) m],k v (by rw[Bc] at hb;let⟨p,q⟩:=hb;rw[<-q];exact Array.getElem_mem_toList p),zm AH⟩
   .cases hb
  .simp only[zn,Ac he] at hb⊢;exact hr.Eh.IZ b o v hb
 .let⟨b,d,c⟩:=hr.Eh.MR id y IC hy;exact⟨b,d,by simp[zn,Ac (hne b id c)];exact c⟩
 .let⟨D4,e',vo,d,qf,c,j⟩:=hr.Eh.cells id HJ hc b hb;exact⟨D4,e',vo,d,qf,Bp.mono EH _ _ c,j⟩
 .let⟨D4,e',d,c⟩:=hr.Eh.map id es hc b hb;exact⟨D4,e',d,c.mono EH⟩
 .by_cases he:b=β s;.subst he;exact hr.Eh.Bu _ _ f
  .simp only[zn,Ac he] at hx;exact hr.Eh.Bu b x hx
 .by_cases he:g=s;.subst he;rwa[BU.FQ yg]
  .rw[BU.GK (λx=>he x.symm)];exact(hr.fr.IS g).keptBut f hk (by simp[Lc.wB];intro hx;cases hx;exact he rfl)
 .refine⟨hr.Ed.le.trans EH,hr.Ed.size,hr.Ed.os,hr.Ed.tape,hr.Ed.output,λb hb hn=>?_⟩;let⟨d,c⟩:=hr.Ed.OV b hb hn;exact⟨d,by simp[zn,Ac (Ab:b≠β s)];exact c⟩
def Dd.U8:∀{b:List (Nat×List Aa)} {γ:Gh} {U:BU},Dd C γ0 w0 γ β U h a w->(∀p∈b,∃ver ow,U.at p.1= zq ver p.2 ow)->(b.map (·.1)).Nodup->
  ∃γ',γ.le γ'/\Dd C γ0 w0 γ' β (U.EB (b.map λ(s,cs)=>(s,zj (.CH cs)))) h a w/\∀p∈b,BT γ' (.CH p.2) (a.tmps.getD p.1 undef)
 |[],γ,U,hr,_,_=>⟨γ,.refl _,hr,AH⟩
 |(s,cs)::b,γ,U,hr,hb,hn=>by
  simp only[Bm,Cl] at hn;let⟨ver,ow,hs⟩:=hb (s,cs) AH;let⟨g,aNC,KA,d⟩:=hr.freeze hs;let⟨c,qO,LU,SI⟩:=U8 KA (λp hp=>by let⟨Hd,PE,f⟩:=hb p (by simp[hp]);refine⟨Hd,PE,?_⟩;rwa[BU.GK (λe=>hn.1 (by rw[show s=p.1 from e];exact Bs.2 ⟨p,hp,rfl⟩))]) hn.2
  refine⟨c,aNC.trans qO,LU,λp hp=>?_⟩;obtain rfl|hp:=AR.1 hp
  .exact BT.mono qO _ _ d
  .grind
def N2:∀{xs:List Operand} {vs:List Aa} {b:List (Nat×List Aa)},GP C U xs=zz (vs,b)->
  (∀p∈b,∃ver ow,U.at p.1= zq ver p.2 ow)/\(b.map (·.1)).Nodup/\
  ∀γ',(∀x u,Ft C U x=zz u->BT γ' u (a.eval x))->(∀p∈b,BT γ' (.CH p.2) (a.tmps.getD p.1 undef))->Bp γ' vs (xs.map a.eval)
 |[],vs,b,hc=>by cases hc;exact⟨AH,AH,λ_ _ _=>rfl⟩
 |x::xs,vs,b,hc=>by
  rw[GP] at hc;split at hc;.cases hc
  .rename_i Iq g e;let⟨h1,h2,f⟩:=N2 e;split at hc
   .rename_i s ver cs ow hs;split at hc;.cases hc
    .rename_i hn;cases hc;have hsb:U.at s= zq ver cs ow:=HE hs;refine⟨λp hp=>?_,?_,λγ' d c=>?_⟩;.grind
     .grind
     .exact⟨_,_,rfl,c (s,cs) AH,f γ' d λp hp=>c p (by simp[hp])⟩
   .rename_i sl _ hs;cases hv:sl.IF with
    |none=>rw[hv] at hc;cases hc
    |some u=>rw[hv] at hc;cases hc;exact⟨h1,h2,λγ' d c=>⟨_,_,rfl,d _ u (by rw[Ft];rwa[hs]),f γ' d c⟩⟩
   .cases hc
def qP{o:Oper}{fn:Fn}{first captured:Array Operand}{d:Nat}{as bs:List Aa}{b:List (Nat×List Aa)}(ho:o.op= .makeFunc fn first captured)(hd:o.dst=zz d)(ha:BC C U first.toList=zz as)(hb:GP C U captured.toList=zz (bs,b))(hr:Dd C γ0 w0 γ β U h a w):
  Gw C γ0 w0 o a w (((U.drop (b.map (·.1))).EB (b.map λ(s,cs)=>(s,zj (.CH cs)))).set d (zj (.func fn as bs))) h:=by
 obtain⟨h1,h2,c⟩:=N2 hb;let⟨γ',EH,Gy,hv⟩:=(hr.drop (b.map (·.1))).U8 (λp hp=>by let⟨ver,ow,hs⟩:=h1 p hp;exact⟨ver,ow,by rw[BU.TA,hs]⟩) h2
 refine Gw.value (w':=w) (v:= .func fn (first.map a.eval) (captured.map a.eval)) (by simp[execOp,ho,Instr.makeFunc]) (by rw[hd];exact Gy.put (d:=zz d) λ_ _=>⟨_,_,rfl,zv (Bp.mono EH _ _ (Ee hr ha)),zv (c γ' (λx u hx=>BT.mono EH _ _ (Hk hr hx)) hv)⟩)
end
end Go.Am
end
