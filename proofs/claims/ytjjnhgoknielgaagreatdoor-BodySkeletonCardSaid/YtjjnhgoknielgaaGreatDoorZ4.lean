/- Lemmas -/
import Derived.Test.YtjjnhgoknielgaaGreatDoorZ3
import Derived.Laws.IdiomCopy
set_option linter.all false
section
namespace Go.Am
open Go
def uc(β:Nat->Nat)(d b:Nat):Nat->Nat:=λs=>if s=d then b else β s
def Lb.qP:Lb->Option Nat
 | .Nw _=>none
 | .loc s=>some s
 | .tail s _ _=>some s
structure Rg(g:Nat)(γ:Gh)(w:World)(γ':Gh)(w':World):Prop where
 le:γ.le γ'
 O6:∀b x,b≠g->γ.BT b=some x->x.wg=false->γ'.BT b=some x/\w'.heap[b]?=w.heap[b]?
section
variable{C:Gj}{γ0 γ γ':Gh}{w0 w w':World}{β:Nat->Nat}{U:BR}{h:Ai}{a:Act}{fid:FuncId}{ops:List Oper}
def BR.WC(U:BR)(ds:List Nat)(s:Nat):(U.drop ds).at s=match U.at s with| .Fu t o=>if ds.contains t then .undef else .Fu t o|x=>x:=by
 cases ds with
 |nil=>simp only[BR.drop,List.contains_nil];cases U.at s<;>simp
 |cons d ds=>
  simp only[BR.drop,BR.at,List.getD,Dm];cases hg:U[s]? with
  |none=>rfl
  |some x=>cases x<;>rfl
def BR.length_drop(U:BR)(ds:List Nat):(U.drop ds).length=U.length:=by cases ds<;>simp[BR.drop]
def Mt.aL4{B s d b:Nat}{x:EM}{v:Value}(hx:Mt γ β B w s x v)(hn:∀o,x≠ .Fu d o)(hs:s≠d):Mt γ (uc β d b) B w s x v:=by
 cases x with
 |box ver cs ow=>simpa only[Mt,uc,Ac hs] using hx
 |Fu t o=>have:t≠d:=λe=>hn o (by rw[e]);simpa only[Mt,uc,Ac this] using hx
 |_=>exact hx
def JO.keptBut{g B s:Nat}{b:Lb}(hg:γ.BT g=some b)(k:Rg g γ w γ' w')(hne:b.qP≠some s){c:Option Nat}{v:Value}{u:Aa}(ho:JO γ B w s c v u):JO γ' B w' s c v u:=by
 rcases ho with ho|⟨g2,n,cap,us,e,z,Ax,h1,h2,h3,l,j,i⟩
 .exact .inl ho
 .have hb:g2≠g:=λhe=>by subst he;rw[hg] at h3;cases h3;exact hne rfl
  obtain⟨f,d⟩:=k.O6 g2 _ hb h3 rfl;exact .inr ⟨g2,n,cap,us,e,z,Ax,h1,h2,f,l,by rw[d];exact j,i⟩
def Mt.keptBut{g B s:Nat}{d:Lb}(hg:γ.BT g=some d)(k:Rg g γ w γ' w')(hne:d.qP≠some s){x:EM}{v:Value}(hx:Mt γ β B w s x v):Mt γ' β B w' s x v:=by
 cases x with
 |undef=>trivial
 |skip=>exact hx
 |val u=>exact BP.mono k.le u v hx
 |P9 b=>exact hx
 |BT u=>exact⟨BP.mono k.le u v hx.1,hx.2.keptBut hg k hne⟩
 |box ver cs ow=>
  obtain⟨r,c,q,us,e,p,n,m,l⟩:=hx;have hb:β s≠g:=λhe=>by rw[he,hg] at c;cases c;exact hne rfl
  obtain⟨y,t⟩:=k.O6 _ _ hb c rfl;exact⟨r,y,q,us,e,by rw[t];exact p,A8.mono k.le cs _ n,m,λo ho=>let⟨u,v,j,i,f⟩:=l o ho;⟨u,v,j,i,f.keptBut hg k hne⟩⟩
 |Fu s' o=>exact hx
def Db.w_(hr:Db C γ0 w0 γ β U h a w)(d:Nat)(us:Array Value)(e:TypeId)(cells:List Aa)(ow:List Nat)(hc:A8 γ cells us.toList)(h1:∀u∈us.toList,u.oneCell'=true)
  (how:∀o∈ow,cells[o]?=some .slnil):
  ∃γ' b,Db C γ0 w0 γ' b ((U.drop [d]).set d (.box 0 cells ow)) h (a.put (some d) (.pointer (some ⟨w.heap.size,0,none⟩))) (w.alloc (.cells us e)):=by
 obtain⟨hi,ha⟩:=Qk hr.Ee us e (0,0) 0 (some (.loc d)) (λ_ _ ho=>absurd ho (Nat.not_lt_zero _)) (.inr (.inr ⟨rfl,AB⟩));have Kv:=(hr.drop [d]).Jw hi ha;refine⟨_,uc β d w.heap.size,Kv.Ee,⟨by simp[Act.put,Kv.fr.size],λs=>?_⟩,Kv.D7,Kv.defers,Kv.HB⟩;have hs:=Kv.fr.IJ s;by_cases he:s=d
 .subst he;by_cases hl:s<(U.drop [s]).length
  .have Ň:s<a.tmps.size:=by rw[<-Kv.fr.size];exact hl
   rw[BR.FJ hl];have g:(a.put (some s) (.pointer (some ⟨w.heap.size,0,none⟩))).tmps.getD s undef= .pointer (some ⟨w.heap.size,0,none⟩):=by simp[Act.put,Array.getD,Ň]
   rw[g];refine⟨by simp[uc],by simp[uc,Gh.Dy],?_,us,e,?_,A8.mono ha.le _ _ hc,h1,λo ho=>?_⟩;.simp only[uc,BN];exact hr.D7.size
   .simp only[uc,BN];exact heap_alloc_new w _
   .have hco:=how o ho;obtain⟨u,c,i⟩:=hc.get hco;exact⟨u,.slnil,by simpa using c,hco,.inl (.inl rfl)⟩
  .have:BR.at ((U.drop [s]).set s (.box 0 cells ow)) s= .undef:=by simp[BR.at,List.getD];rw[En (by simpa using hl)];rfl
   rw[this];trivial
 .rw[BR.Gk (λe=>he e.symm)];have f:(a.put (some d) (.pointer (some ⟨w.heap.size,0,none⟩))).tmps.getD s undef=a.tmps.getD s undef:=by simp[Act.put,Hw,qN (λe=>he e.symm)]
  rw[f];refine hs.aL4 (λo ho=>?_) he;rw[BR.WC] at ho;cases hx:U.at s with
  |Fu t o'=>
   rw[hx] at ho;simp only at ho;split at ho;.cases ho
   .rename_i hc;cases ho;exact hc AB
  |_=>rw[hx] at ho;cases ho
def Iv{P:Program}{t:TypeId}{z:Aa}(hz:Hq P t=some z):∃v,LM v=some z/\∀w,(zeroValue t).run P w= .ok v w:=by
 unfold Hq at hz;cases hi:P.info? t with
 |none=>rw[hi] at hz;cases hz
 |some i=>
  rw[hi] at hz;cases hv:i.zero with
  |none=>simp[hv] at hz
  |some v=>simp only[Cw,hv] at hz;exact⟨v,hz,λw=>by simp[zeroValue,typeInfo,hi,hv]⟩
def rD{cs:List Aa}{o:Nat}(h:o∈Xs cs):cs[o]?=some .slnil:=by
 simp only[Xs,BD,List.mem_range] at h;obtain⟨h1,h2⟩:=h;simp only[List.getD,Av h1,Fq] at h2;rw[Av h1];split at h2;.rename_i he;rw[he]
 .cases h2
def Ga(C:Gj)(γ0:Gh)(w0:World)(o:Oper)(a:Act)(w:World)(c:BR)(h':Ai):Prop:=
 ∃γ' b w',(∃v,(execOp a.eval o).run C.P w= .ok (.value v) w'/\Db C γ0 w0 γ' b c h' (a.put o.dst v) w')\/((execOp a.eval o).run C.P w= .ok .skip w'/\Db C γ0 w0 γ' b c h' (a.put o.dst undef) w')
def Ga.value{o:Oper}{c:BR}{h':Ai}{b:Nat->Nat}{v:Value}(he:(execOp a.eval o).run C.P w= .ok (.value v) w')(hr:Db C γ0 w0 γ' b c h' (a.put o.dst v) w'):Ga C γ0 w0 o a w c h':=⟨γ',b,w',.inl ⟨v,he,hr⟩⟩
def Ga.skip{o:Oper}{c:BR}{h':Ai}{b:Nat->Nat}(he:(execOp a.eval o).run C.P w= .ok .skip w')(hr:Db C γ0 w0 γ' b c h' (a.put o.dst undef) w'):Ga C γ0 w0 o a w c h':=⟨γ',b,w',.inr ⟨he,hr⟩⟩
def XI{o:Oper}{t:TypeId}{d:Nat}{z:Aa}(ho:o.op= .alloc t)(hd:o.dst=some d)(hz:Hq C.P t=some z)(hn:z.cells≠[])(hr:Db C γ0 w0 γ β U h a w):
  Ga C γ0 w0 o a w ((U.drop [d]).set d (.box 0 z.cells (Xs z.cells))) h:=by
 obtain⟨v,hv,AM⟩:=Iv hz;obtain⟨e,c⟩:=HK (γ:=γ) (FI hv) (CB.2 hn);obtain⟨γ',b,HY⟩:=hr.w_ d v.cells t z.cells (Xs z.cells) e c (λo=>rD);refine Ga.value (v:= .pointer (some ⟨w.heap.size,0,none⟩)) ?_ (by rw[hd];exact HY);simp[execOp,ho,Instr.alloc,AM,newVar,newRow]
def eS{o:Oper}{t:TypeId}{x:Operand}{d n:Nat}{v:Aa}(ho:o.op= .box t x)(hd:o.dst=some d)(hx:Fa C U x=some v)(hv:v.cells.length=n)(hn:n≠0)(hr:Db C γ0 w0 γ β U h a w):
  Ga C γ0 w0 o a w ((U.drop [d]).set d (.box 0 v.cells [])) h:=by
 obtain⟨e,c⟩:=HK (GU hr hx) Ab;obtain⟨γ',b,HY⟩:=hr.w_ d (a.eval x).cells t v.cells [] e c AB;refine Ga.value (v:= .pointer (some ⟨w.heap.size,0,none⟩)) ?_ (by rw[hd];exact HY);simp[execOp,ho,Instr.box,newVar,newRow]
def Db.newObj(hr:Db C γ0 w0 γ β U h a w)(us:Array Value)(e:TypeId)(fr:Nat×Nat)(cells:List Aa)(XC:Uw fr us.size)(hc:A8 γ cells (us.toList.take cells.length))(h1:∀u∈us.toList.take cells.length,u.oneCell'=true):
  ∃γ',γ.le γ'/\γ'.mu h.length=some w.heap.size/\Db C γ0 w0 γ' β U (h++[.cells cells]) a (w.alloc (.cells us e fr))/\γ'.sz w.heap.size=some us.size:=by
 obtain⟨hi,ha⟩:=O8 hr.Ee (.cells us e fr) (.cells cells) (some us.size) (.inl ⟨cells,us,e,fr,rfl,rfl,XC,hc,h1,rfl⟩);exact⟨_,ha.le,by simp[Gh.BU],hr.Jw hi ha,by simp[Gh.BU]⟩
def XJ{o:Oper}{t:TypeId}{z:Aa}{d:Option Nat}(ho:o.op= .alloc t)(hd:o.dst=d)(hz:Hq C.P t=some z)(hn:z.cells.length≠0)(hr:Db C γ0 w0 γ β U h a w):
  Ga C γ0 w0 o a w (U.put d (.val (.ptr (some (h.length,0))))) (h++[.cells z.cells]):=by
 obtain⟨v,hv,AM⟩:=Iv hz;obtain⟨b,c⟩:=HK (γ:=γ) (FI hv) Ab;obtain⟨γ',EU,hm,HY,_⟩:=hr.newObj v.cells t (0,0) z.cells (.inl rfl) (by rw[Bf (by rw[b.length];exact Ad _)];exact b) (λu hu=>c u (AZ hu));refine Ga.value (v:= .pointer (some ⟨w.heap.size,0,none⟩)) ?_ (by rw[hd];exact HY.put λs _=>⟨_,hm,rfl⟩);simp[execOp,ho,Instr.alloc,AM,newVar,newRow]
def eU{o:Oper}{t:TypeId}{x:Operand}{d:Option Nat}{v:Aa}(ho:o.op= .box t x)(hd:o.dst=d)(hx:Fa C U x=some v)(hn:v.cells.length≠0)(hr:Db C γ0 w0 γ β U h a w):
  Ga C γ0 w0 o a w (U.put d (.val (.ptr (some (h.length,0))))) (h++[.cells v.cells]):=by
 obtain⟨b,c⟩:=HK (GU hr hx) Ab;obtain⟨γ',EU,hm,HY,_⟩:=hr.newObj (a.eval x).cells t (0,0) v.cells (.inl rfl) (by rw[Bf (by rw[b.length];exact Ad _)];exact b) (λu hu=>c u (AZ hu));refine Ga.value (v:= .pointer (some ⟨w.heap.size,0,none⟩)) ?_ (by rw[hd];exact HY.put λs _=>⟨_,hm,rfl⟩);simp[execOp,ho,Instr.box,newVar,newRow]
def L1(hr:Db C γ0 w0 γ β U h a w){x:Operand}{s o ver:Nat}{cs:List Aa}{ow:List Nat}(hx:Gt C U x=some (.Qh s o ver cs ow)):
  U.at s= .box ver cs ow/\a.eval x= .pointer (some ⟨β s,o,none⟩):=by
 unfold Gt at hx;split at hx;.rename_i s' Gv Hp O0 hs;cases hx;have h0:=S9 hr s;rw[Hs hs] at h0;exact⟨Hs hs,h0.1⟩
 .rename_i s' o' _ hs;split at hx;.rename_i hb;cases hx;obtain⟨t,h1,_⟩:=Gx hr hs;exact⟨hb,h1⟩
  .cases hx
 .rename_i sl _ _ hs;cases hv:sl.HH with
  |none=>rw[hv] at hx;cases hx
  |some u=>rw[hv] at hx;cases hx
 .cases hx
def Sj(hr:Db C γ0 w0 γ β U h a w){x:Operand}{p:Aa}(hx:Gt C U x=some (.ptr p)):BP γ p (a.eval x):=by
 unfold Gt at hx;split at hx;.cases hx
 .split at hx<;>cases hx
 .rename_i sl _ _ hs;cases hv:sl.HH with
  |none=>rw[hv] at hx;cases hx
  |some u=>rw[hv] at hx;cases hx;obtain⟨t,h1,_⟩:=Gx hr hs;exact Om h1 hv
 .cases hx
def I1{t:TypeId}{n:Option Nat}(ht:FE C.P t=some n){cs:List Aa}{us:List Value}{b o:Nat}(hv:A8 γ cs us)(hc:∀(j:Nat) (u:Value),us[j]?=some u->w.cell? ⟨b,o+j,none⟩=some u)(h1:∀u∈us,u.oneCell'=true)
  {r:Aa} (hp:FG cs 0 n=some r):∃v,(Instr.loadAt t (.pointer (some ⟨b,o,none⟩))).run C.P w= .ok v w/\BP γ r v:=by
 unfold FE at ht;have M4:∀j,(⟨b,o,none⟩:Addr).add j=⟨b,o+j,none⟩:=λj=>by unfold Addr.add;split<;>simp_all
 have agg:∀d,C.P.underlying t=some d->(match d with| .struct _| .array _ _=>true|_=>false)=true->(B0 C.P t).map some=some n->
   ∃v,(Instr.loadAt t (.pointer (some ⟨b,o,none⟩))).run C.P w= .ok v w/\BP γ r v:=by
  intro d hd hb hn;cases hs:B0 C.P t with
  |none=>rw[hs] at hn;cases hn
  |some k=>
   rw[hs] at hn;cases hn;simp only[FG] at hp;split at hp
   .rename_i hk;cases hp;have hl:=run_loadCells_list (P:=C.P) w ⟨b,o,none⟩ (us.take k) (λj v hj=>by
     rw[M4];refine hc j v ?_;rw[CA] at hj;split at hj;.exact hj
     .cases hj)
    have hlen:(us.take k).length=k:=by simp[hv.length];omega
    rw[hlen] at hl;refine⟨.agg (us.take k).toArray,?_,_,rfl,?_,λu hu=>h1 u (AZ (by simpa using hu))⟩
    .have rE:(isAgg t).run C.P w= .ok true w:=by unfold isAgg;rw[Sem.run_bind,run_underlying hd w];cases d<;>simp_all
     cases hq:C.P.info? t with
     |none=>simp[B0,hq] at hs
     |some i=>
      have hi:i.size=k:=by simpa[B0,hq] using hs
      simp[Instr.loadAt,Instr.sureAddr,loadVar,rE,sizeOf,typeInfo,hq,hi,hl]
    .simpa using hv.take k
   .cases hp
 split at ht;.rename_i fs hd;exact agg _ hd rfl ht
 .rename_i l e hd;exact agg _ hd rfl ht
 .rename_i d Te lD hd;cases ht;simp only[FG] at hp;obtain⟨u,hu,hr⟩:=hv.get hp;refine⟨u,?_,hr⟩;have rE:(isAgg t).run C.P w= .ok false w:=by unfold isAgg;rw[Sem.run_bind,run_underlying hd w];cases d<;>simp_all
  have Ki:=hc 0 u hu;simp only[By] at Ki;simp[Instr.loadAt,Instr.sureAddr,loadVar,rE,Ki]
 .cases ht
def Qp{cs:List Aa}{off:Nat}{n:Option Nat}{r:Aa}(h:FG cs off n=some r):FG (cs.drop off) 0 n=some r:=by
 cases n with
 |none=>simp only[FG] at h⊢;rw[CF];simpa using h
 |some n=>
  simp only[FG] at h⊢;split at h;.cases h;rw[Af Et];simp
  .cases h
def Db.bL(hr:Db C γ0 w0 γ β U h a w){s ver:Nat}{cs:List Aa}{ow:List Nat}(hs:U.at s= .box ver cs ow):
  γ.BT (β s)=some (.loc s)/\w0.heap.size<=β s/\∃us e,w.heap[β s]?=some (.cells us e (0,0))/\A8 γ cs us.toList/\(∀u∈us.toList,u.oneCell'=true)/\
   ∀o∈ow,∃u x,us[o]?=some u/\cs[o]?=some x/\JO γ w0.heap.size w s (some o) u x:=by
 have h0:=hr.fr.IJ s;rw[hs] at h0;exact⟨h0.2.1,h0.2.2.1,h0.2.2.2⟩
def LN(hr:Db C γ0 w0 γ β U h a w){t:TypeId}{n:Option Nat}(ht:FE C.P t=some n){s ver off:Nat}{cs:List Aa}{ow:List Nat}(hs:U.at s= .box ver cs ow){r:Aa}(hp:FG cs off n=some r):
  ∃v,(Instr.loadAt t (.pointer (some ⟨β s,off,none⟩))).run C.P w= .ok v w/\BP γ r v/\(n=none->∀us e,w.heap[β s]?=some (.cells us e (0,0))->us[off]?=some v):=by
 obtain⟨_,_,us,e,h1,h2,h3,_⟩:=hr.bL hs;obtain⟨v,f,g⟩:=I1 (w:=w) (b:=β s) (o:=off) ht (h2.drop off) (λj u hj=>by rw[cell_of_row w _ _ us e (0,0) h1];rw[CF] at hj;simpa using hj) (λu hu=>h3 u (AY hu)) (Qp hp)
 refine⟨v,f,g,λhn DR i c=>?_⟩;subst hn;rw[h1] at c;cases c;simp only[FG] at hp;obtain⟨u,hu,_⟩:=h2.get hp;have Ki:w.cell? ⟨β s,off,none⟩=some u:=by rw[cell_of_row w _ _ us e (0,0) h1];simpa using hu
 have rE:∃d,C.P.underlying t=some d/\(isAgg t).run C.P w= .ok false w:=by
  unfold FE at ht;split at ht;.cases hz:B0 C.P t<;>rw[hz] at ht<;>cases ht
  .cases hz:B0 C.P t<;>rw[hz] at ht<;>cases ht
  .rename_i d Te lD hd;refine⟨d,hd,?_⟩;unfold isAgg;rw[Sem.run_bind,run_underlying hd w];cases d<;>simp_all
  .cases ht
 obtain⟨d,hd,rE⟩:=rE;have:(Instr.loadAt t (.pointer (some ⟨β s,off,none⟩))).run C.P w= .ok u w:=by simp[Instr.loadAt,Instr.sureAddr,loadVar,rE,Ki]
 rw[f] at this;cases this;simpa using hu
def Db.Ō(hr:Db C γ0 w0 γ β U h a w){s ver off:Nat}{cs:List Aa}{ow:List Nat}(hs:U.at s= .box ver cs ow)(ho:off∈ow)(rF:off∉ow.erase off)(s':Nat)(c':Option Nat){u:Value}{v:Aa}(hv:cs[off]?=some v)
  (hu:∀us e,w.heap[β s]?=some (.cells us e (0,0))->us[off]?=some u):
  ∃γ',γ.le γ'/\Db C γ0 w0 γ' β (U.set s (.box (ver+1) cs (ow.erase off))) h a w/\JO γ' w0.heap.size w s' c' u v:=by
 have h0:=hr.fr.IJ s;rw[hs] at h0;obtain⟨h1,h2,h3,us,e,j,q,p,i⟩:=h0;obtain⟨t,v',d,c,b⟩:=i off ho;rw[hv] at c;cases c;rw[hu us e j] at d;cases d;have Kv:Db C γ0 w0 γ β (U.set s (.box (ver+1) cs (ow.erase off))) h a w:=hr.lT ⟨h1,h2,h3,us,e,j,q,p,λo' Ĵ=>i o' (List.mem_of_mem_erase Ĵ)⟩;have hl:s<U.length:=BR.Ql (by rw[hs];simp);rcases b with b|⟨g,n,cap,qR,r,z,Ax,o,m,l,f,k⟩
 .exact⟨γ,.refl _,Kv,.inl b⟩
 .refine⟨γ.F8 g (.tail s' c' (n*z)),HJ _ _ _,Kv.F8 l f (λhn=>by cases hn) (λo' Ĵ Gv Hp O0 hb=>?_),.inr ⟨g,n,cap,qR,r,z,Ax,o,m,by simp[Gh.F8],f,k⟩⟩;rw[BR.FJ hl] at hb;cases hb;cases Ĵ;exact rF
def ZS{o:Oper}{t:TypeId}{x:Operand}{d:Nat}{take:Bool}{r:EW}{run:IT->Ai->Option Ku}{g:BR}{h':Ai}(ho:o.op= .load t x)(hd:o.dst=some d)(hc:Ms C U t x d take=some r)(hp:∃ws,r= .pure ws)
  (Gg:r.Ol C run (U.drop r.news) h g h') (hr:Db C γ0 w0 γ β U h a w):Ga C γ0 w0 o a w g h':=by
 have Nz:∀v,(Instr.loadAt t (a.eval x)).run C.P w= .ok v w->(execOp a.eval o).run C.P w= .ok (.value v) w:=λv hv=>by simp[execOp,ho,hv]
 unfold Ms at hc;split at hc;.cases hc;obtain⟨_,e⟩:=hp;cases e
 .rename_i s off ver cs ow ht ha;obtain⟨hs,hx⟩:=L1 hr ha;split at hc
  .rename_i hlt;have eV:cs[off]?=some (cs.getD off .nilIface):=by simp[List.getD,Av hlt]
   obtain⟨v,b,c,i⟩:=LN hr ht hs (r:=cs.getD off .nilIface) (off:=off) (by simpa[FG] using eV);rw[<-hx] at b;simp only at hc;split at hc
   .rename_i Ii;cases hc;rw[O9 AB] at Gg;obtain⟨rfl,rfl⟩:=Gg;simp only[Bb,aHt] at Ii;obtain⟨⟨j,f⟩,_⟩:=Ii;have f:off∉ow.erase off:=by simpa using f
    obtain⟨γ',EU,HY,FX⟩:=hr.Ō hs j f d none eV (i rfl);exact Ga.value (Nz v b) (by rw[hd];exact HY.put (d:=some d) λs' lC=>by cases lC;exact⟨BP.mono EU _ _ c,FX⟩)
   .cases hc;rw[O9 AB] at Gg;obtain⟨rfl,rfl⟩:=Gg;exact Ga.value (Nz v b) (by rw[hd];exact hr.put (d:=some d) λ_ _=>c)
  .cases hc
 .rename_i n s off ver cs ow ht ha;obtain⟨hs,hx⟩:=L1 hr ha;split at hc;.rename_i EU;cases hc;rw[O9 AB] at Gg;obtain⟨rfl,rfl⟩:=Gg;obtain⟨v,b,c,_⟩:=LN hr ht hs (r:= .agg ((cs.drop off).take n)) (off:=off) (by simp[FG,EU]);rw[<-hx] at b;exact Ga.value (Nz v b) (by rw[hd];exact hr.put (d:=some d) λ_ _=>c)
  .cases hc
 .cases hc
def xa{o:Oper}{t:TypeId}{x:Operand}{n:Option Nat}{p r:Aa}(ho:o.op= .load t x)(ht:FE C.P t=some n)(hx:Gt C U x=some (.ptr p))(hl:Bn h n p=some r)(hr:Db C γ0 w0 γ β U h a w):
  Ga C γ0 w0 o a w (U.put o.dst (.val r)) h:=by
 have hv:=Sj hr hx;have Nz:∀v,(Instr.loadAt t (a.eval x)).run C.P w= .ok v w->(execOp a.eval o).run C.P w= .ok (.value v) w:=λv hv=>by simp[execOp,ho,hv]
 unfold Bn at hl;split at hl
 .rename_i cs;obtain⟨b,k,hv,hm⟩:=hv;obtain⟨us,g,d⟩:=hm.values;obtain⟨v,c,f⟩:=I1 (w:=w) ht g (λj u hj=>(hr.Ee.IQ _ _ _ (d j u hj)).1) (λu hu=>by obtain⟨j,hj⟩:=CP hu;exact(hr.Ee.IQ _ _ _ (d j u hj)).2.1) hl
  rw[<-hv] at c;exact Ga.value (Nz v c) (hr.put λ_ _=>f)
 .rename_i id off;obtain⟨b,hb,hv⟩:=hv;split at hl
  .rename_i cs hcs;obtain⟨us,e,fr,g,pf,d,i⟩:=hr.Ee.cells id cs hcs b hb;obtain⟨v,c,f⟩:=I1 (w:=w) (b:=b) (o:=off) ht (d.drop off) (λj u hj=>by
    rw[cell_of_row w _ _ us e fr g];rw[CF,CA] at hj;split at hj;.simpa using hj
    .cases hj) (λu hu=>i u (AY hu)) (Qp hl)
   rw[<-hv] at c;exact Ga.value (Nz v c) (hr.put λ_ _=>f)
  .cases hl
 .cases hl
end
end Go.Am
end
section
namespace Go.Am
open Go
section
variable{C:Gj}{γ0 γ γ':Gh}{w0 w w':World}{β:Nat->Nat}{U:BR}{h:Ai}{a:Act}{fid:FuncId}{ops:List Oper}
def EZ{b:Nat}{t:TypeId}{fr:Nat×Nat}:∀(vs:List Value) (o:Nat) (cur:Array Value) (w:World),w.heap[b]?=some (.cells cur t fr)->o+vs.length<=cur.size->
  w.setCells b o vs=w.setRow b (cur.toList.take o++vs++cur.toList.drop (o+vs.length)).toArray
 |[],o,cur,w,hg,_=>by simp only[World.setCells,Bg,AW,By,Br,Array.toArray_toList];exact(setRow_self w b cur t fr hg).symm
 |v::r,o,cur,w,hg,hl=>by simp only[AK] at hl;rw[World.setCells,setCell_eq_setRow w b o cur t fr v hg,EZ r (o+1) _ _ (setRow_heap w b cur _ t fr hg) Et,setRow_setRow];have e:=list_seg_step cur.toList o v r Et;simp only[Array.toList_setIfInBounds,AK];rw[e]
def PY{t:TypeId}{n b o:Nat}(hn:B0 C.P t=some n){u:Value}(hu:u.cells.size=n)(h1:∀x∈u.cells.toList,x.oneCell'=true){cur:Array Value}{e:TypeId}{fr:Nat×Nat}(hg:w.heap[b]?=some (.cells cur e fr))(XC:Uw fr cur.size)
  (hl:o+n<=cur.size):(Instr.storeAt t (.pointer (some ⟨b,o,none⟩)) u).run C.P w= .ok () (w.setRow b (cur.toList.take o++u.cells.toList++cur.toList.drop (o+n)).toArray):=by
 have hs:=run_storeCells_cells (P:=C.P) b o u.cells.toList 0 w (λj hj=>by
  rw[cell_of_row w _ _ cur e fr hg];simp at hj;rw[CR Ab];rfl) (λj hj=>by
  simp at hj;simp only[World.frozen?,hg];rcases XC with rfl|XC
  .simp
  .simp;omega) h1
 rw[By,EZ _ o cur w hg Et] at hs;cases hq:C.P.info? t with
 |none=>simp[B0,hq] at hn
 |some i=>
  have hi:i.size=n:=by simpa[B0,hq] using hn
  simp only[Cp,hu] at hs;simp[Instr.storeAt,Instr.sureAddr,storeVar,sizeOf,typeInfo,hq,hi,hu,hs]
def XK{Z:Type}{cs vs:List Z}{off n o:Nat}(hl:off+n<=cs.length)(hv:vs.length=n)(ho:¬(off<=o/\o<off+n)):(cs.take off++vs++cs.drop (off+n))[o]?=cs[o]?:=by
 have b:(cs.take off).length=off:=Et;by_cases h:o<off;.rw[Al (by simp[hv];omega),Al Ab,CM h]
 .rw[Bu (by simp[hv];omega),CF];congr 1
  simp[hv];omega
def bM{Z:Type}{cs:List Z}{off n:Nat}{x:Z}(hl:off+n<=cs.length):(cs.take off++[x]++cs.drop (off+n))[off]?=some x:=by have b:(cs.take off).length=off:=Et;rw[Al Et,Bu Ab];simp[b]
def NJ{Z:Type}{us vs:List Z}{off n len:Nat}(hl:len<=us.length)(ho:off+n<=len)(hv:vs.length=n):
  (us.take off++vs++us.drop (off+n)).take len=(us.take len).take off++vs++(us.take len).drop (off+n):=by
 have c:(us.take off).length=off:=Et;have b:(us.take off++vs).length=off+n:=by simp[hv];omega
 rw[wC,Bf Ab,b,CI,BO Ab,List.drop_take]
def Pg{cs vs:List Aa}{us DR:List Value}{off n:Nat}(h:A8 γ cs us)(h':A8 γ vs DR):A8 γ (cs.take off++vs++cs.drop (off+n)) (us.take off++DR++us.drop (off+n)):=
 ((h.take off).append h').append (h.drop (off+n))
def JO.aBJ{B s b g:Nat}(hg:γ.BT g=some (.loc s)){c:Option Nat}{v:Value}{u:Aa}(DR:Array Value)(ho:JO γ B w b c v u):JO γ B (w.setRow g DR) b c v u:=by
 rcases ho with ho|⟨g2,n,cap,us,e,z,Ax,h1,h2,h3,i,f,d⟩
 .exact .inl ho
 .have hb:g2≠g:=λhe=>by subst he;rw[hg] at h3;cases h3
  exact .inr ⟨g2,n,cap,us,e,z,Ax,h1,h2,h3,i,by rw[setRow_other w g g2 DR hb];exact f,d⟩
def XL(γ:Gh)(w:World)(g:Nat)(us:Array Value):Rg g γ w γ (w.setRow g us):=
 ⟨.refl _,λb x hb hx _=>⟨hx,setRow_other w g b us hb⟩⟩
def Db.mE(hr:Db C γ0 w0 γ β U h a w){s ver Gv off n:Nat}{cs:List Aa}{ow:List Nat}(hs:U.at s= .box ver cs ow){vs:List Aa}{DR:List Value}(hv:A8 γ vs DR)(h1:∀u∈DR,u.oneCell'=true)(hn:vs.length=n)
  (hl:off+n<=cs.length) {BT:Bool} (FX:BT=true->∃u x,DR=[u]/\vs=[x]/\JO γ w0.heap.size w s (some off) u x) {us:Array Value} {e:TypeId} (hg:w.heap[β s]?=some (.cells us e (0,0))):
  Db C γ0 w0 γ β (U.set s (.box Gv (Xv cs off n vs) (S4 ow off n BT))) h a (w.setRow (β s) (us.toList.take off++DR++us.toList.drop (off+n)).toArray):=by
 have h0:=hr.fr.IJ s;rw[hs] at h0;obtain⟨r,c,k,ud,e0,j,i,f,q⟩:=h0;rw[hg] at j;cases j;have hlen:DR.length=n:=by rw[hv.length,hn]
 have ue:off+n<=us.toList.length:=by rw[i.length];exact hl
 have ō:s<U.length:=BR.Ql (by rw[hs];simp);refine⟨lq hr.Ee c _,⟨by simp[hr.fr.size],λd=>?_⟩,hr.D7.write (g:=β s) k (.refl _) AB rfl rfl rfl (λb hb=>⟨setRow_other w _ b _ hb,rfl⟩),hr.defers,hr.HB⟩;by_cases he:d=s
 .subst he;rw[BR.FJ ō];refine⟨r,c,k,_,e,setRow_heap w _ us _ e (0,0) hg,?_,?_,?_⟩;.simpa[Xv] using Pg (off:=off) (n:=n) i hv
  .intro u hu;simp only[A6,An] at hu;rcases hu with hu|hu|hu
   .exact f u (AZ hu)
   .exact h1 u hu
   .exact f u (AY hu)
  .intro o ho;have Jy:(BT=true/\o=off)\/(o∈ow/\¬(off<=o/\o<off+n)):=by
    unfold S4 at ho;have hf:o∈ow.filter (λo=> !(decide (off<=o)&&decide (o<off+n)))->o∈ow/\¬(off<=o/\o<off+n):=λhm=>by rw[BD] at hm;refine⟨hm.1,λhc=>?_⟩;have:=hm.2;simp[hc.1,hc.2] at this
    cases BT with
    |true=>
     simp only[BN,AE] at ho;rcases ho with ho|ho
     .exact .inl ⟨rfl,ho⟩
     .exact .inr (hf ho)
    |false=>exact .inr (hf ho)
   rcases Jy with⟨uf,rfl⟩|⟨uf,mF⟩
   .obtain⟨u,x,rfl,rfl,t⟩:=FX uf;exact⟨u,x,by simpa using bM (x:=u) ue,by simpa[Xv] using bM (x:=x) hl,t.aBJ c _⟩
   .obtain⟨u,x,p,m,l⟩:=q o uf;refine⟨u,x,?_,?_,l.aBJ c _⟩;.rw[<-p];have:=XK ue hlen mF;simpa using this
    .rw[<-m];exact XK hl hn mF
 .rw[BR.Gk (λx=>he x.symm)];exact(hr.fr.IJ d).keptBut c (XL γ w _ _) (by simp only[Lb.qP];intro hx;cases hx;exact he rfl)
def Qq(hr:Db C γ0 w0 γ β U h a w){y:Operand}{v:Aa}(hy:LX C U y=true)(hv:Fa C U y=some v)(s':Nat)(c':Option Nat):
  ∃γ',γ.le γ'/\Db C γ0 w0 γ' β (U.DT (Dr U y)) h a w/\BP γ' v (a.eval y)/\JO γ' w0.heap.size w s' c' (a.eval y) v:=by
 unfold LX at hy;cases hs:Eo C U y with
 |none=>rw[hs] at hy;cases hy
 |some sl=>
  rw[hs] at hy;cases sl with
  |BT u=>
   have b:u=v:=by unfold Fa at hv;rw[hs] at hv;exact E8 hv
   subst b;cases y with
   |tmp t=>have ht:U.at t= .BT u:=Hs hs;obtain⟨γ',EU,HY,h1,h2⟩:=hr.take ht s' c';exact⟨γ',EU,by simpa[Dr,ht,BR.DT] using HY,h1,h2⟩
   |const c=>
    refine⟨γ,.refl _,hr,GU hr hv,?_⟩;obtain⟨q,_⟩:=Ta (γ:=γ) (β:=β) (w:=w) hs;unfold Eo at hs;split at hs;.rename_i e;cases e
    .cases hs
    .cases hs;exact .inl (.inl rfl)
    .rename_i K4;cases K4;cases hc:LM c with
     |none=>rw[hc] at hs;cases hs
     |some _=>rw[hc] at hs;cases hs
    .rename_i e;cases e
    .cases hs
   |global g=>have lC:(C.HB g).map (λcs=>EM.val (Aa.B9 cs))=some (.BT u):=hs;cases hc:C.HB g<;>rw[hc] at lC<;>cases lC
   |func f=>cases hs
  |_=>cases hy
def rG{B s:Nat}{c:Option Nat}{v:Value}{x:Aa}(h:JO γ B w s c v x):x.cells=[x]:=by rcases h with(rfl|⟨_,rfl⟩)|⟨_,_,_,_,_,_,_,rfl,_⟩<;>rfl
def rH{o:Oper}{t:TypeId}{x y:Operand}{s off n ver:Nat}{v:Aa}{BT:Bool}{c:Option (Nat×Aa)}{cells:List Aa}{owned:List Nat}{run:IT->Ai->Option Ku}{i:BR}{h':Ai}(ho:o.op= .store t x y)(hd:o.dst=none)
  (hc:J0 C U t x y=some (.N3 s off n v BT c ver cells owned)) (Gg:(EW.N3 s off n v BT c ver cells owned).Ol C run U h i h') (hr:Db C γ0 w0 γ β U h a w):Ga C γ0 w0 o a w i h':=by
 unfold J0 at hc;split at hc;.cases hc
 .rename_i m sh s' xb Gv Hp O0 v' Lk qF ha hv;split at hc
  .rename_i hl;simp only[BL,EW.N3.injEq] at hc;obtain⟨rfl,rfl,rfl,rfl,FX,ZT,rfl,rfl,rfl⟩:=hc;obtain⟨hn,rfl,rfl⟩:=Gg;obtain⟨hs,hx⟩:=L1 hr ha;have xB:=GU hr hv;obtain⟨_,_,us,e,hg,k,l,_⟩:=hr.bL hs;have ō:xb+(m+1)<=us.size:=by have:=k.length;simp at this;omega
   obtain⟨f,d⟩:=HK xB Ab;have rI:(a.eval y).cells.size=m+1:=by have:=f.length;simp at this;omega
   have JM:=PY (C:=C) (b:=β s') (o:=xb) Lk rI d hg (.inl rfl) ō;rw[<-hx] at JM;have Nz:(execOp a.eval o).run C.P w= .ok .skip (w.setRow (β s') (us.toList.take xb++(a.eval y).cells.toList++us.toList.drop (xb+(m+1))).toArray):=by simp[execOp,ho,JM]
   by_cases hw:BT=true
   .subst hw;rw[Af FX] at ZT;subst ZT;simp only[Bb] at FX;obtain⟨j,EU,Kv,h1,h2⟩:=Qq hr FX.2 hv s' (some xb);have Ŏ:=rG h2;have Kw:(U.DT (Dr U y)).at s'= .box Gv Hp O0:=by
     cases y with
     |tmp t'=>
      simp only[Dr];cases ht:U.at t' with
      |BT u=>simp only[BR.DT];rw[BR.Gk (λe=>by rw[e,hs] at ht;cases ht)];exact hs
      |_=>exact hs
     |_=>exact hs
    have M5:=Kv.mE (Gv:=Gv+1) (BT:=true) (n:=m+1) Kw (A8.mono EU _ _ f) d hn hl (λ_=>?_) hg;.exact Ga.skip Nz (by rw[hd];exact M5)
    .have hcl:(a.eval y).cells=#[a.eval y]:=by
      rcases h2 with(h2|⟨z,h2⟩)|⟨_,_,_,_,_,_,_,_,h2,_⟩
      .subst h2;rw[show a.eval y=_ from h1];rfl
      .subst h2;obtain⟨_,h1⟩:=h1;rw[h1];rfl
      .rw[h2];rfl
     exact⟨a.eval y,v',by rw[hcl],Ŏ,h2⟩
   .have g:BT=false:=by simpa using hw
    subst g;rw[Ac (by rw[FX];simp)] at ZT;subst ZT;exact Ga.skip Nz (by rw[hd];exact hr.mE (Gv:=Gv+1) (BT:=false) hs f d hn hl (λe=>by cases e) hg)
  .cases hc
 .cases hc
def mh{o:Oper}{t:TypeId}{x y:Operand}{n:Nat}{p v:Aa}{h':Ai}(ho:o.op= .store t x y)(hd:o.dst=none)(Lk:B0 C.P t=some (n+1))(hx:Gt C U x=some (.ptr p))(hv:Fa C U y=some v)(JM:C9 h (n+1) p v=some h')(hr:Db C γ0 w0 γ β U h a w):
  Ga C γ0 w0 o a w U h':=by
 have c:=Sj hr hx;have xB:=GU hr hv;unfold C9 at JM;split at JM
 .rename_i id off;obtain⟨b,hb,d⟩:=c;split at JM
  .rename_i cs hcs;split at JM
   .rename_i hl;cases JM;obtain⟨us,e,fr,hg,pf,k,j⟩:=hr.Ee.cells id cs hcs b hb;obtain⟨i,g⟩:=HK xB Ab;have rI:(a.eval y).cells.size=n+1:=by have:=i.length;simp at this;omega
    have hlt:cs.length<=us.size:=by have:=k.length;simp at this;omega
    have ō:off+(n+1)<=us.size:=Ab;have AM:=PY (C:=C) (b:=b) (o:=off) Lk rI g hg pf ō;rw[<-d] at AM;obtain⟨hi,ha⟩:=Oj hr.Ee hcs hb hg (us.toList.take off++(a.eval y).cells.toList++us.toList.drop (off+(n+1))).toArray (cs.take off++v.cells++cs.drop (off+(n+1)))
     (by simp only[B5,Ao,Ay,AX,Cp,rI];omega)
     (by
      rcases pf with rfl|pf
      .exact .inl rfl
      .refine .inr (Bv (Nr ?_) pf);simp only[B5,Ao,Ay,AX,Cp,rI];omega)
     (by
      have:=Pg (off:=off) (n:=n+1) k i;rw[<-NJ (by simpa using hlt) hl.2 (by simpa using rI)] at this;have f:(cs.take off++v.cells++cs.drop (off+(n+1))).length=cs.length:=by simp[hl.1];omega
      rw[f];simpa using this) (λu hu=>by
      have f:(cs.take off++v.cells++cs.drop (off+(n+1))).length=cs.length:=by simp[hl.1];omega
      rw[f] at hu;simp only[LF] at hu;rw[NJ (by simpa using hlt) hl.2 (by simpa using rI)] at hu;simp only[A6,An] at hu;rcases hu with hu|hu|hu
      .exact j u (AZ hu)
      .exact g u hu
      .exact j u (AY hu))
    have Nz:(execOp a.eval o).run C.P w= .ok .skip (w.setRow b (us.toList.take off++(a.eval y).cells.toList++us.toList.drop (off+(n+1))).toArray):=by simp[execOp,ho,AM]
    exact Ga.skip Nz (by rw[hd];exact hr.Jw hi ha)
   .cases JM
  .cases JM
 .cases JM
def Db.freeze(hr:Db C γ0 w0 γ β U h a w){s ver:Nat}{cs:List Aa}{ow:List Nat}(hs:U.at s= .box ver cs ow):
  ∃γ',γ.le γ'/\Db C γ0 w0 γ' β (U.set s (.val (.B9 cs))) h a w/\BP γ' (.B9 cs) (a.tmps.getD s undef):=by
 have h0:=hr.fr.IJ s;rw[hs] at h0;obtain⟨z,f,B,us,e,t,m,l,A⟩:=h0;have ō:s<U.length:=BR.Ql (by rw[hs];simp);have wj:∀o,γ.IQ (β s) o=none:=λo=>by
  cases hc:γ.IQ (β s) o with
  |none=>rfl
  |some u=>obtain⟨_,_,q⟩:=hr.Ee.IQ _ _ _ hc;rw[f] at q;rcases q with q|⟨_,_,_,q,_⟩<;>cases q
 have EU:γ.le (γ.Dy (β s) us us.size none):=⟨λb o v hb=>by
  have:b≠β s:=λe=>by rw[e,wj] at hb;cases hb
  simp only[Gh.Dy,Ac this];exact hb,λ_ _ hm=>hm,λ_ _ hm=>hm⟩
 have hne:∀b id,γ.BT b=some (.Nw id)->b≠β s:=λb id hb e=>by rw[e,f] at hb;cases hb
 have hk:Rg (β s) γ w (γ.Dy (β s) us us.size none) w:=⟨EU,λb x hb hx _=>⟨by simp only[Gh.Dy,Ac hb];exact hx,rfl⟩⟩;have hv:BP (γ.Dy (β s) us us.size none) (.B9 cs) (a.tmps.getD s undef):=by
  refine⟨β s,0,z,C2.Hr λi x hi=>?_⟩;obtain⟨u,d,c⟩:=m.get hi;have hlt:i<us.size:=by have:=(Aj.1 d).1;simpa using this
  exact⟨u,by simp only[Gh.Dy,BN,BE,Af hlt];simpa using d,BP.mono EU _ _ c⟩
 have aCY:∀b n,γ.sz b=some n->(∃us e fr,w.heap[b]?=some (.cells us e fr)/\us.size=n)/\((γ.Dy (β s) us us.size none).BT b=none\/∃id,(γ.Dy (β s) us us.size none).BT b=some (.Nw id)):=λb n hb=>by
  obtain⟨p,r⟩:=hr.Ee.sz b n hb;by_cases he:b=β s;.subst he;exact⟨p,.inl (by simp[Gh.Dy])⟩
  .exact⟨p,by simp only[Gh.Dy,Ac he];exact r⟩
 refine⟨_,EU,⟨⟨λb o v hb=>?_,λid y Jk hy=>?_,λid Hp hc b hb=>?_,λid es hc b hb=>?_,hr.Ee.mu,λb x hx=>?_,aCY⟩,⟨by simp[hr.fr.size],λj=>?_⟩,?_,hr.defers,λx Hp hx=>C2.mono EU _ _ _ (hr.HB x Hp hx)⟩,hv⟩
 .by_cases he:b=β s
  .subst he;simp only[Gh.Dy,BN] at hb⊢;split at hb;.exact⟨by rw[cell_of_row _ _ _ us e (0,0) t];exact hb,l v (by rw[AQ] at hb;obtain⟨p,q⟩:=hb;rw[<-q];exact Array.getElem_mem_toList p),.inl AB⟩
   .cases hb
  .simp only[Gh.Dy,Ac he] at hb⊢;exact hr.Ee.IQ b o v hb
 .obtain⟨b,d,c⟩:=hr.Ee.Nw id y Jk hy;exact⟨b,d,by simp only[Gh.Dy,Ac (hne b id c)];exact c⟩
 .obtain⟨DR,g,lp,d,qf,c,k⟩:=hr.Ee.cells id Hp hc b hb;exact⟨DR,g,lp,d,qf,A8.mono EU _ _ c,k⟩
 .obtain⟨DR,g,d,c⟩:=hr.Ee.map id es hc b hb;exact⟨DR,g,d,c.mono EU⟩
 .by_cases he:b=β s;.subst he;exact hr.Ee.BT _ _ f
  .simp only[Gh.Dy,Ac he] at hx;exact hr.Ee.BT b x hx
 .by_cases he:j=s;.subst he;rw[BR.FJ ō];exact hv
  .rw[BR.Gk (λx=>he x.symm)];exact(hr.fr.IJ j).keptBut f hk (by simp only[Lb.qP];intro hx;cases hx;exact he rfl)
 .refine⟨hr.D7.le.trans EU,hr.D7.size,hr.D7.os,hr.D7.tape,hr.D7.output,λb hb hn=>?_⟩;obtain⟨d,c⟩:=hr.D7.O6 b hb hn;exact⟨d,by simp only[Gh.Dy,Ac (Ab:b≠β s)];exact c⟩
def Db.bN:∀{fz:List (Nat×List Aa)} {γ:Gh} {U:BR},Db C γ0 w0 γ β U h a w->(∀p∈fz,∃ver ow,U.at p.1= .box ver p.2 ow)->(fz.map (·.1)).Nodup->
  ∃γ',γ.le γ'/\Db C γ0 w0 γ' β (U.EX (fz.map λ(s,cs)=>(s,.val (.B9 cs)))) h a w/\∀p∈fz,BP γ' (.B9 p.2) (a.tmps.getD p.1 undef)
 |[],γ,U,hr,_,_=>⟨γ,.refl _,hr,AB⟩
 |(s,cs)::fz,γ,U,hr,hb,hn=>by
  simp only[Bj,B6] at hn;obtain⟨ver,ow,hs⟩:=hb (s,cs) AB;obtain⟨d,aL6,Kv,ŏ⟩:=hr.freeze hs;obtain⟨b,mG,M5,WD⟩:=bN (fz:=fz) Kv (λp hp=>by obtain⟨Gv,O0,c⟩:=hb p (by simp[hp]);refine⟨Gv,O0,?_⟩;rw[BR.Gk (λe=>hn.1 (by rw[show s=p.1 from e];exact A7.2 ⟨p,hp,rfl⟩))];exact c) hn.2
  refine⟨b,aL6.trans mG,M5,λp hp=>?_⟩;rcases AE.1 hp with rfl|hp
  .exact BP.mono mG _ _ ŏ
  .exact WD p hp
def RP:∀{xs:List Operand} {vs:List Aa} {fz:List (Nat×List Aa)},HI C U xs=some (vs,fz)->
  (∀p∈fz,∃ver ow,U.at p.1= .box ver p.2 ow)/\(fz.map (·.1)).Nodup/\
  ∀γ',(∀x u,Fa C U x=some u->BP γ' u (a.eval x))->(∀p∈fz,BP γ' (.B9 p.2) (a.tmps.getD p.1 undef))->A8 γ' vs (xs.map a.eval)
 |[],vs,fz,hc=>by cases hc;exact⟨AB,AB,λ_ _ _=>rfl⟩
 |x::xs,vs,fz,hc=>by
  unfold HI at hc;split at hc;.cases hc
  .rename_i Ih e d;obtain⟨h1,h2,h3⟩:=RP d;split at hc
   .rename_i s ver cs ow hs;split at hc;.cases hc
    .rename_i hn;cases hc;have hsb:U.at s= .box ver cs ow:=Hs hs;refine⟨λp hp=>?_,?_,λγ' c b=>?_⟩
     .rcases AE.1 hp with rfl|hp
      .exact⟨ver,ow,hsb⟩
      .exact h1 p hp
     .simp only[Bj,B6];exact⟨by simpa using hn,h2⟩
     .exact⟨_,_,rfl,b (s,cs) AB,h3 γ' c λp hp=>b p (by simp[hp])⟩
   .rename_i sl _ hs;cases hv:sl.HH with
    |none=>rw[hv] at hc;cases hc
    |some u=>rw[hv] at hc;cases hc;exact⟨h1,h2,λγ' c b=>⟨_,_,rfl,c _ u (by unfold Fa;rw[hs];exact hv),h3 γ' c b⟩⟩
   .cases hc
def mH{o:Oper}{fn:Fn}{first captured:Array Operand}{d:Nat}{as bs:List Aa}{fz:List (Nat×List Aa)}(ho:o.op= .makeFunc fn first captured)(hd:o.dst=some d)(ha:Bs C U first.toList=some as)(hb:HI C U captured.toList=some (bs,fz))(hr:Db C γ0 w0 γ β U h a w):
  Ga C γ0 w0 o a w (((U.drop (fz.map (·.1))).EX (fz.map λ(s,cs)=>(s,.val (.B9 cs)))).set d (.val (.func fn as bs))) h:=by
 obtain⟨h1,h2,h3⟩:=RP (a:=a) hb;obtain⟨γ',EU,HY,hv⟩:=(hr.drop (fz.map (·.1))).bN (fz:=fz) (λp hp=>by obtain⟨ver,ow,hs⟩:=h1 p hp;exact⟨ver,ow,by rw[BR.WC,hs]⟩) h2
 refine Ga.value (w':=w) (v:= .func fn (first.map a.eval) (captured.map a.eval)) (by simp[execOp,ho,Instr.makeFunc]) (by rw[hd];exact HY.put (d:=some d) λ_ _=>⟨_,_,rfl,by simpa using A8.mono EU _ _ (D8 hr ha),by simpa using h3 γ' (λx u hx=>BP.mono EU _ _ (GU hr hx)) hv⟩)
end
end Go.Am
end
