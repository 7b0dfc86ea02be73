/- Lemmas -/
import Derived.Test.YtbnogamdhadfcaaGreatDoorU3
import Derived.Laws.IdiomCopy
set_option linter.unusedVariables false
set_option linter.unusedSimpArgs false
section
namespace Go.Am
open Go
def tQ(β:Nat->Nat)(d b:Nat):Nat->Nat:=λs=>if s=d then b else β s
def Jp.eF:Jp->Option Nat
 | .KW _=>none
 | .loc s=>some s
 | .tail s _ _=>some s
structure OA(g:Nat)(γ:Gh)(w:World)(γ':Gh)(w':World):Prop where
 le:γ.le γ'
 MH:∀b x,b≠g->γ.own b=some x->x.uO=false->γ'.own b=some x/\w'.heap[b]?=w.heap[b]?
section
variable{C:FI}{γ0 γ γ':Gh}{w0 w w':World}{β:Nat->Nat}{σ:BD}{h:Ae}{a:Act}{fid:FuncId}{ops:List Oper}
theorem BD.TQ(σ:BD)(ds:List Nat)(s:Nat):(σ.drop ds).at s=match σ.at s with| .EG t o=>if ds.contains t then .undef else .EG t o|x=>x:=by
 cases ds with
 |nil=>simp only[BD.drop,List.contains_nil];cases σ.at s<;>simp
 |cons d ds=>
  simp only[BD.drop,BD.at,List.getD,Cp];cases hg:σ[s]? with
  |none=>rfl
  |some x=>cases x<;>rfl
theorem BD.length_drop(σ:BD)(ds:List Nat):(σ.drop ds).length=σ.length:=by cases ds<;>simp[BD.drop]
theorem Kq.aJd{B s d b:Nat}{x:D6}{v:Value}(hx:Kq γ β B w s x v)(hn:∀o,x≠ .EG d o)(hs:s≠d):Kq γ (tQ β d b) B w s x v:=by
 cases x with
 |box ver cs ow=>simpa only[Kq,tQ,if_neg hs] using hx
 |EG t o=>have:t≠d:=λe=>hn o (by rw[e]);simpa only[Kq,tQ,if_neg this] using hx
 |_=>exact hx
theorem HU.keptBut{g B s:Nat}{x0:Jp}(hg:γ.own g=some x0)(k:OA g γ w γ' w')(hne:x0.eF≠some s){c:Option Nat}{v:Value}{u:Aa}(ho:HU γ B w s c v u):HU γ' B w' s c v u:=by
 rcases ho with ho|⟨g2,n,cap,us,e,z,Au,h1,h2,h3,h4,h5,h6⟩
 .exact .inl ho
 .have hb:g2≠g:=λhe=>by subst he;rw[hg] at h3;cases h3;exact hne rfl
  obtain⟨k1,k2⟩:=k.MH g2 _ hb h3 rfl;exact .inr ⟨g2,n,cap,us,e,z,Au,h1,h2,k1,h4,by rw[k2];exact h5,h6⟩
theorem Kq.keptBut{g B s:Nat}{x0:Jp}(hg:γ.own g=some x0)(k:OA g γ w γ' w')(hne:x0.eF≠some s){x:D6}{v:Value}(hx:Kq γ β B w s x v):Kq γ' β B w' s x v:=by
 cases x with
 |undef=>trivial
 |skip=>exact hx
 |val u=>exact BF.mono k.le u v hx
 |Nq b=>exact hx
 |own u=>exact⟨BF.mono k.le u v hx.1,hx.2.keptBut hg k hne⟩
 |box ver cs ow=>
  obtain⟨p1,p2,p3,us,e,p4,p5,p6,p7⟩:=hx;have hb:β s≠g:=λhe=>by rw[he,hg] at p2;cases p2;exact hne rfl
  obtain⟨k1,k2⟩:=k.MH _ _ hb p2 rfl;exact⟨p1,k1,p3,us,e,by rw[k2];exact p4,A8.mono k.le cs _ p5,p6,λo ho=>let⟨u,v,q1,q2,q3⟩:=p7 o ho;⟨u,v,q1,q2,q3.keptBut hg k hne⟩⟩
 |EG s' o=>exact hx
theorem CS.uX(hr:CS C γ0 w0 γ β σ h a w)(d:Nat)(us:Array Value)(e:TypeId)(cells:List Aa)(ow:List Nat)(hc:A8 γ cells us.toList)(h1:∀u∈us.toList,u.oneCell'=true)
  (how:∀o∈ow,cells[o]?=some .slnil):
  ∃γ' β',CS C γ0 w0 γ' β' ((σ.drop [d]).set d (.box 0 cells ow)) h (a.put (some d) (.pointer (some ⟨w.heap.size,0,none⟩))) (w.alloc (.cells us e)):=by
 obtain⟨hi,ha⟩:=NM hr.DD us e (0,0) 0 (some (.loc d)) (λ_ _ ho=>absurd ho (Nat.not_lt_zero _)) (.inr (.inr ⟨rfl,by simp⟩));have Jq:=(hr.drop [d]).world hi ha;refine⟨_,tQ β d w.heap.size,Jq.DD,⟨by simp[Act.put,Jq.fr.size],λs=>?_⟩,Jq.Dw,Jq.defers,Jq.Gj⟩;have hs:=Jq.fr.Hv s;by_cases he:s=d
 .subst he;by_cases hl:s<(σ.drop [s]).length
  .have hl':s<a.tmps.size:=by rw[<-Jq.fr.size];exact hl
   rw[BD.ET hl];have e1:(a.put (some s) (.pointer (some ⟨w.heap.size,0,none⟩))).tmps.getD s undef= .pointer (some ⟨w.heap.size,0,none⟩):=by simp[Act.put,Array.getD,hl']
   rw[e1];refine⟨by simp[tQ],by simp[tQ,Gh.C6],?_,us,e,?_,A8.mono ha.le _ _ hc,h1,λo ho=>?_⟩;·simp only[tQ,BN];exact hr.Dw.size
   .simp only[tQ,BN];exact heap_alloc_new w _
   .have hco:=how o ho;obtain⟨u,q1,q2⟩:=hc.get hco;exact⟨u,.slnil,by simpa using q1,hco,.inl rfl⟩
  .have:BD.at ((σ.drop [s]).set s (.box 0 cells ow)) s= .undef:=by simp[BD.at,List.getD];rw[E1 (by simpa using hl)];rfl
   rw[this];trivial
 .rw[BD.Fp (λe=>he e.symm)];have e2:(a.put (some d) (.pointer (some ⟨w.heap.size,0,none⟩))).tmps.getD s undef=a.tmps.getD s undef:=by simp[Act.put,Lo,Array.getElem?_setIfInBounds_ne (λe=>he e.symm)]
  rw[e2];refine hs.aJd (λo ho=>?_) he;rw[BD.TQ] at ho;cases hx:σ.at s with
  |EG t o'=>
   rw[hx] at ho;simp only at ho;split at ho;·cases ho
   .rename_i hc;cases ho;exact hc (by simp)
  |_=>rw[hx] at ho;cases ho
theorem Hd{P:Program}{t:TypeId}{z:Aa}(hz:GN P t=some z):∃v,JP v=some z/\∀w,(zeroValue t).run P w= .ok v w:=by
 unfold GN at hz;cases hi:P.info? t with
 |none=>rw[hi] at hz;cases hz
 |some i=>
  rw[hi] at hz;cases hv:i.zero with
  |none=>simp[hv] at hz
  |some v=>simp only[Cs,hv] at hz;exact⟨v,hz,λw=>by simp[zeroValue,typeInfo,hi,hv]⟩
theorem eW{cs:List Aa}{o:Nat}(h:o∈Uj cs):cs[o]?=some .slnil:=by
 simp only[Uj,DV,List.mem_range] at h;obtain⟨h1,h2⟩:=h;simp only[List.getD,Af h1,Ib] at h2;rw[Af h1];split at h2;·rename_i he;rw[he]
 .cases h2
def FM(C:FI)(γ0:Gh)(w0:World)(o:Oper)(a:Act)(w:World)(σ':BD)(h':Ae):Prop:=
 ∃γ' β' w',(∃v,(execOp a.eval o).run C.P w= .ok (.value v) w'/\CS C γ0 w0 γ' β' σ' h' (a.put o.dst v) w')\/((execOp a.eval o).run C.P w= .ok .skip w'/\CS C γ0 w0 γ' β' σ' h' (a.put o.dst undef) w')
theorem FM.value{o:Oper}{σ':BD}{h':Ae}{β':Nat->Nat}{v:Value}(he:(execOp a.eval o).run C.P w= .ok (.value v) w')(hr:CS C γ0 w0 γ' β' σ' h' (a.put o.dst v) w'):FM C γ0 w0 o a w σ' h':=⟨γ',β',w',.inl ⟨v,he,hr⟩⟩
theorem FM.skip{o:Oper}{σ':BD}{h':Ae}{β':Nat->Nat}(he:(execOp a.eval o).run C.P w= .ok .skip w')(hr:CS C γ0 w0 γ' β' σ' h' (a.put o.dst undef) w'):FM C γ0 w0 o a w σ' h':=⟨γ',β',w',.inr ⟨he,hr⟩⟩
theorem Uy{o:Oper}{t:TypeId}{d:Nat}{z:Aa}(ho:o.op= .alloc t)(hd:o.dst=some d)(hz:GN C.P t=some z)(hn:z.cells≠[])(hr:CS C γ0 w0 γ β σ h a w):
  FM C γ0 w0 o a w ((σ.drop [d]).set d (.box 0 z.cells (Uj z.cells))) h:=by
 obtain⟨v,hv,AU⟩:=Hd hz;obtain⟨q1,q2⟩:=Gx (γ:=γ) (ES hv) (FX.2 hn);obtain⟨γ',β',Fy⟩:=hr.uX d v.cells t z.cells (Uj z.cells) q1 q2 (λo=>eW);refine FM.value (v:= .pointer (some ⟨w.heap.size,0,none⟩)) ?_ (by rw[hd];exact Fy);simp[execOp,ho,Instr.alloc,AU,newVar,newRow]
theorem X9{o:Oper}{t:TypeId}{x:Operand}{d n:Nat}{v:Aa}(ho:o.op= .box t x)(hd:o.dst=some d)(hx:Es C σ x=some v)(hv:v.cells.length=n)(hn:n≠0)(hr:CS C γ0 w0 γ β σ h a w):
  FM C γ0 w0 o a w ((σ.drop [d]).set d (.box 0 v.cells [])) h:=by
 obtain⟨q1,q2⟩:=Gx (FU hr hx) (by omega);obtain⟨γ',β',Fy⟩:=hr.uX d (a.eval x).cells t v.cells [] q1 q2 (by simp);refine FM.value (v:= .pointer (some ⟨w.heap.size,0,none⟩)) ?_ (by rw[hd];exact Fy);simp[execOp,ho,Instr.box,newVar,newRow]
theorem CS.newObj(hr:CS C γ0 w0 γ β σ h a w)(us:Array Value)(e:TypeId)(fr:Nat×Nat)(cells:List Aa)(kN:RD fr us.size)(hc:A8 γ cells (us.toList.take cells.length))(h1:∀u∈us.toList.take cells.length,u.oneCell'=true):
  ∃γ',γ.le γ'/\γ'.mu h.length=some w.heap.size/\CS C γ0 w0 γ' β σ (h++[.cells cells]) a (w.alloc (.cells us e fr))/\γ'.sz w.heap.size=some us.size:=by
 obtain⟨hi,ha⟩:=F0 hr.DD (.cells us e fr) (.cells cells) (some us.size) (.inl ⟨cells,us,e,fr,rfl,rfl,kN,hc,h1,rfl⟩);exact⟨_,ha.le,by simp[Gh.BL],hr.world hi ha,by simp[Gh.BL]⟩
theorem Uz{o:Oper}{t:TypeId}{z:Aa}{d:Option Nat}(ho:o.op= .alloc t)(hd:o.dst=d)(hz:GN C.P t=some z)(hn:z.cells.length≠0)(hr:CS C γ0 w0 γ β σ h a w):
  FM C γ0 w0 o a w (σ.put d (.val (.ptr (some (h.length,0))))) (h++[.cells z.cells]):=by
 obtain⟨v,hv,AU⟩:=Hd hz;obtain⟨q1,q2⟩:=Gx (γ:=γ) (ES hv) (by omega);obtain⟨γ',DW,hm,Fy,_⟩:=hr.newObj v.cells t (0,0) z.cells (.inl rfl) (by rw[Ay (by rw[q1.length];exact Ac _)];exact q1) (λu hu=>q2 u (Bf hu));refine FM.value (v:= .pointer (some ⟨w.heap.size,0,none⟩)) ?_ (by rw[hd];exact Fy.put λs _=>⟨_,hm,rfl⟩);simp[execOp,ho,Instr.alloc,AU,newVar,newRow]
theorem Ya{o:Oper}{t:TypeId}{x:Operand}{d:Option Nat}{v:Aa}(ho:o.op= .box t x)(hd:o.dst=d)(hx:Es C σ x=some v)(hn:v.cells.length≠0)(hr:CS C γ0 w0 γ β σ h a w):
  FM C γ0 w0 o a w (σ.put d (.val (.ptr (some (h.length,0))))) (h++[.cells v.cells]):=by
 obtain⟨q1,q2⟩:=Gx (FU hr hx) (by omega);obtain⟨γ',DW,hm,Fy,_⟩:=hr.newObj (a.eval x).cells t (0,0) v.cells (.inl rfl) (by rw[Ay (by rw[q1.length];exact Ac _)];exact q1) (λu hu=>q2 u (Bf hu));refine FM.value (v:= .pointer (some ⟨w.heap.size,0,none⟩)) ?_ (by rw[hd];exact Fy.put λs _=>⟨_,hm,rfl⟩);simp[execOp,ho,Instr.box,newVar,newRow]
theorem J3(hr:CS C γ0 w0 γ β σ h a w){x:Operand}{s o ver:Nat}{cs:List Aa}{ow:List Nat}(hx:Fu C σ x=some (.NI s o ver cs ow)):
  σ.at s= .box ver cs ow/\a.eval x= .pointer (some ⟨β s,o,none⟩):=by
 unfold Fu at hx;split at hx;·rename_i s' Fw Gf Mz hs;cases hx;have h0:=Qv hr s;rw[Gl hs] at h0;exact⟨Gl hs,h0.1⟩
 .rename_i s' o' _ hs;split at hx;·rename_i hb;cases hx;obtain⟨t,h1,_⟩:=Fz hr hs;exact⟨hb,h1⟩
  .cases hx
 .rename_i sl _ _ hs;cases hv:sl.Gu with
  |none=>rw[hv] at hx;cases hx
  |some u=>rw[hv] at hx;cases hx
 .cases hx
theorem PL(hr:CS C γ0 w0 γ β σ h a w){x:Operand}{p:Aa}(hx:Fu C σ x=some (.ptr p)):BF γ p (a.eval x):=by
 unfold Fu at hx;split at hx;·cases hx
 .split at hx<;>cases hx
 .rename_i sl _ _ hs;cases hv:sl.Gu with
  |none=>rw[hv] at hx;cases hx
  |some u=>rw[hv] at hx;cases hx;obtain⟨t,h1,_⟩:=Fz hr hs;exact Ma h1 hv
 .cases hx
theorem HH{t:TypeId}{n:Option Nat}(ht:EN C.P t=some n){cs:List Aa}{us:List Value}{b o:Nat}(hv:A8 γ cs us)(hc:∀(j:Nat) (u:Value),us[j]?=some u->w.cell? ⟨b,o+j,none⟩=some u)(h1:∀u∈us,u.oneCell'=true)
  {r:Aa} (hp:EO cs 0 n=some r):∃v,(Instr.loadAt t (.pointer (some ⟨b,o,none⟩))).run C.P w= .ok v w/\BF γ r v:=by
 unfold EN at ht;have Mb:∀j,(⟨b,o,none⟩:Addr).add j=⟨b,o+j,none⟩:=λj=>by unfold Addr.add;split<;>simp_all
 have agg:∀d,C.P.underlying t=some d->(match d with| .struct _| .array _ _=>true|_=>false)=true->(BP C.P t).map some=some n->
   ∃v,(Instr.loadAt t (.pointer (some ⟨b,o,none⟩))).run C.P w= .ok v w/\BF γ r v:=by
  intro d hd hb hn;cases hs:BP C.P t with
  |none=>rw[hs] at hn;cases hn
  |some k=>
   rw[hs] at hn;cases hn;simp only[EO] at hp;split at hp
   .rename_i hk;cases hp;have hl:=run_loadCells_list (P:=C.P) w ⟨b,o,none⟩ (us.take k) (λj v hj=>by
     rw[Mb];refine hc j v ?_;rw[Cg] at hj;split at hj;·exact hj
     .cases hj)
    have hlen:(us.take k).length=k:=by simp[hv.length];omega
    rw[hlen] at hl;refine⟨.agg (us.take k).toArray,?_,_,rfl,?_,λu hu=>h1 u (Bf (by simpa using hu))⟩
    .have eX:(isAgg t).run C.P w= .ok true w:=by unfold isAgg;rw[Sem.run_bind,run_underlying hd w];cases d<;>simp_all
     cases hq:C.P.info? t with
     |none=>simp[BP,hq] at hs
     |some i=>
      have hi:i.size=k:=by simpa[BP,hq] using hs
      simp[Instr.loadAt,Instr.sureAddr,loadVar,eX,sizeOf,typeInfo,hq,hi,hl]
    .simpa using hv.take k
   .cases hp
 split at ht;·rename_i fs hd;exact agg _ hd rfl ht
 .rename_i l e hd;exact agg _ hd rfl ht
 .rename_i d LU Rq hd;cases ht;simp only[EO] at hp;obtain⟨u,hu,hr⟩:=hv.get hp;refine⟨u,?_,hr⟩;have eX:(isAgg t).run C.P w= .ok false w:=by unfold isAgg;rw[Sem.run_bind,run_underlying hd w];cases d<;>simp_all
  have IN:=hc 0 u hu;simp only[Bn] at IN;simp[Instr.loadAt,Instr.sureAddr,loadVar,eX,IN]
 .cases ht
theorem NR{cs:List Aa}{off:Nat}{n:Option Nat}{r:Aa}(h:EO cs off n=some r):EO (cs.drop off) 0 n=some r:=by
 cases n with
 |none=>simp only[EO] at h⊢;rw[Cz];simpa using h
 |some n=>
  simp only[EO] at h⊢;split at h;·cases h;rw[if_pos (by simp;omega)];simp
  .cases h
theorem CS.Xa(hr:CS C γ0 w0 γ β σ h a w){s ver:Nat}{cs:List Aa}{ow:List Nat}(hs:σ.at s= .box ver cs ow):
  γ.own (β s)=some (.loc s)/\w0.heap.size<=β s/\∃us e,w.heap[β s]?=some (.cells us e (0,0))/\A8 γ cs us.toList/\(∀u∈us.toList,u.oneCell'=true)/\
   ∀o∈ow,∃u x,us[o]?=some u/\cs[o]?=some x/\HU γ w0.heap.size w s (some o) u x:=by
 have h0:=hr.fr.Hv s;rw[hs] at h0;exact⟨h0.2.1,h0.2.2.1,h0.2.2.2⟩
theorem JQ(hr:CS C γ0 w0 γ β σ h a w){t:TypeId}{n:Option Nat}(ht:EN C.P t=some n){s ver off:Nat}{cs:List Aa}{ow:List Nat}(hs:σ.at s= .box ver cs ow){r:Aa}(hp:EO cs off n=some r):
  ∃v,(Instr.loadAt t (.pointer (some ⟨β s,off,none⟩))).run C.P w= .ok v w/\BF γ r v/\(n=none->∀us e,w.heap[β s]?=some (.cells us e (0,0))->us[off]?=some v):=by
 obtain⟨_,_,us,e,h1,h2,h3,_⟩:=hr.Xa hs;obtain⟨v,q1,q2⟩:=HH (w:=w) (b:=β s) (o:=off) ht (h2.drop off) (λj u hj=>by rw[cell_of_row w _ _ us e (0,0) h1];rw[Cz] at hj;simpa using hj) (λu hu=>h3 u (Bw hu)) (NR hp)
 refine⟨v,q1,q2,λhn Dk e' tr=>?_⟩;subst hn;rw[h1] at tr;cases tr;simp only[EO] at hp;obtain⟨u,hu,_⟩:=h2.get hp;have IN:w.cell? ⟨β s,off,none⟩=some u:=by rw[cell_of_row w _ _ us e (0,0) h1];simpa using hu
 have eX:∃d,C.P.underlying t=some d/\(isAgg t).run C.P w= .ok false w:=by
  unfold EN at ht;split at ht;·cases hz:BP C.P t<;>rw[hz] at ht<;>cases ht
  .cases hz:BP C.P t<;>rw[hz] at ht<;>cases ht
  .rename_i d LU Rq hd;refine⟨d,hd,?_⟩;unfold isAgg;rw[Sem.run_bind,run_underlying hd w];cases d<;>simp_all
  .cases ht
 obtain⟨d,hd,eX⟩:=eX;have:(Instr.loadAt t (.pointer (some ⟨β s,off,none⟩))).run C.P w= .ok u w:=by simp[Instr.loadAt,Instr.sureAddr,loadVar,eX,IN]
 rw[q1] at this;cases this;simpa using hu
theorem CS.ey(hr:CS C γ0 w0 γ β σ h a w){s ver off:Nat}{cs:List Aa}{ow:List Nat}(hs:σ.at s= .box ver cs ow)(ho:off∈ow)(kR:off∉ow.erase off)(s':Nat)(c':Option Nat){u:Value}{v:Aa}(hv:cs[off]?=some v)
  (hu:∀us e,w.heap[β s]?=some (.cells us e (0,0))->us[off]?=some u):
  ∃γ',γ.le γ'/\CS C γ0 w0 γ' β (σ.set s (.box (ver+1) cs (ow.erase off))) h a w/\HU γ' w0.heap.size w s' c' u v:=by
 have h0:=hr.fr.Hv s;rw[hs] at h0;obtain⟨h1,h2,h3,us,e,h4,h5,h6,h7⟩:=h0;obtain⟨u',v',q1,q2,q3⟩:=h7 off ho;rw[hv] at q2;cases q2;rw[hu us e h4] at q1;cases q1;have Jq:CS C γ0 w0 γ β (σ.set s (.box (ver+1) cs (ow.erase off))) h a w:=hr.ZQ ⟨h1,h2,h3,us,e,h4,h5,h6,λo' db=>h7 o' (List.mem_of_mem_erase db)⟩;have hl:s<σ.length:=BD.NN (by rw[hs];simp);rcases q3 with q3|⟨g,n,cap,eJ,e2,z,Au,p1,p2,p3,p4,p5⟩
 .exact⟨γ,.refl _,Jq,.inl q3⟩
 .refine⟨γ.Fb g (.tail s' c' (n*z)),Gw _ _ _,Jq.Fb p3 p4 (λhn=>by cases hn) (λo' db Fw Gf Mz hb=>?_),.inr ⟨g,n,cap,eJ,e2,z,Au,p1,p2,by simp[Gh.Fb],p4,p5⟩⟩;rw[BD.ET hl] at hb;cases hb;cases db;exact kR
theorem Wu{o:Oper}{t:TypeId}{x:Operand}{d:Nat}{take:Bool}{r:Er}{run:IT->Ae->Option Jn}{σ':BD}{h':Ae}(ho:o.op= .load t x)(hd:o.dst=some d)(hc:Kp C σ t x d take=some r)(hp:∃ws,r= .pure ws)
  (FG:r.L9 C run (σ.drop r.news) h σ' h') (hr:CS C γ0 w0 γ β σ h a w):FM C γ0 w0 o a w σ' h':=by
 have MB:∀v,(Instr.loadAt t (a.eval x)).run C.P w= .ok v w->(execOp a.eval o).run C.P w= .ok (.value v) w:=λv hv=>by simp[execOp,ho,hv]
 unfold Kp at hc;split at hc;·cases hc;obtain⟨_,e⟩:=hp;cases e
 .rename_i s off ver cs ow ht ha;obtain⟨hs,hx⟩:=J3 hr ha;split at hc
  .rename_i hlt;have Yb:cs[off]?=some (cs.getD off .nilIface):=by simp[List.getD,Af hlt]
   obtain⟨v,q1,q2,q3⟩:=JQ hr ht hs (r:=cs.getD off .nilIface) (off:=off) (by simpa[EO] using Yb);rw[<-hx] at q1;simp only at hc;split at hc
   .rename_i HI;cases hc;rw[MJ (by simp)] at FG;obtain⟨rfl,rfl⟩:=FG;simp only[BK,List.contains_iff_mem] at HI;obtain⟨⟨c1,c2⟩,_⟩:=HI;have c2:off∉ow.erase off:=by simpa using c2
    obtain⟨γ',DW,Fy,E2⟩:=hr.ey hs c1 c2 d none Yb (q3 rfl);exact FM.value (MB v q1) (by rw[hd];exact Fy.put (d:=some d) λs' TP=>by cases TP;exact⟨BF.mono DW _ _ q2,E2⟩)
   .cases hc;rw[MJ (by simp)] at FG;obtain⟨rfl,rfl⟩:=FG;exact FM.value (MB v q1) (by rw[hd];exact hr.put (d:=some d) λ_ _=>q2)
  .cases hc
 .rename_i n s off ver cs ow ht ha;obtain⟨hs,hx⟩:=J3 hr ha;split at hc;·rename_i DW;cases hc;rw[MJ (by simp)] at FG;obtain⟨rfl,rfl⟩:=FG;obtain⟨v,q1,q2,_⟩:=JQ hr ht hs (r:= .agg ((cs.drop off).take n)) (off:=off) (by simp[EO,DW]);rw[<-hx] at q1;exact FM.value (MB v q1) (by rw[hd];exact hr.put (d:=some d) λ_ _=>q2)
  .cases hc
 .cases hc
theorem uY{o:Oper}{t:TypeId}{x:Operand}{n:Option Nat}{p r:Aa}(ho:o.op= .load t x)(ht:EN C.P t=some n)(hx:Fu C σ x=some (.ptr p))(hl:Bb h n p=some r)(hr:CS C γ0 w0 γ β σ h a w):
  FM C γ0 w0 o a w (σ.put o.dst (.val r)) h:=by
 have hv:=PL hr hx;have MB:∀v,(Instr.loadAt t (a.eval x)).run C.P w= .ok v w->(execOp a.eval o).run C.P w= .ok (.value v) w:=λv hv=>by simp[execOp,ho,hv]
 unfold Bb at hl;split at hl
 .rename_i cs;obtain⟨b,k,hv,hm⟩:=hv;obtain⟨us,p1,p2⟩:=hm.values;obtain⟨v,q1,q2⟩:=HH (w:=w) ht p1 (λj u hj=>(hr.DD.HA _ _ _ (p2 j u hj)).1) (λu hu=>by obtain⟨j,hj⟩:=CT hu;exact(hr.DD.HA _ _ _ (p2 j u hj)).2.1) hl
  rw[<-hv] at q1;exact FM.value (MB v q1) (hr.put λ_ _=>q2)
 .rename_i id off;obtain⟨b,hb,hv⟩:=hv;split at hl
  .rename_i cs hcs;obtain⟨us,e,fr,p1,pf,p2,p3⟩:=hr.DD.cells id cs hcs b hb;obtain⟨v,q1,q2⟩:=HH (w:=w) (b:=b) (o:=off) ht (p2.drop off) (λj u hj=>by
    rw[cell_of_row w _ _ us e fr p1];rw[Cz,Cg] at hj;split at hj;·simpa using hj
    .cases hj) (λu hu=>p3 u (Bw hu)) (NR hl)
   rw[<-hv] at q1;exact FM.value (MB v q1) (hr.put λ_ _=>q2)
  .cases hl
 .cases hl
end
end Go.Am
end
section
namespace Go.Am
open Go
section
variable{C:FI}{γ0 γ γ':Gh}{w0 w w':World}{β:Nat->Nat}{σ:BD}{h:Ae}{a:Act}{fid:FuncId}{ops:List Oper}
theorem Ed{b:Nat}{t:TypeId}{fr:Nat×Nat}:∀(vs:List Value) (o:Nat) (cur:Array Value) (w:World),w.heap[b]?=some (.cells cur t fr)->o+vs.length<=cur.size->
  w.setCells b o vs=w.setRow b (cur.toList.take o++vs++cur.toList.drop (o+vs.length)).toArray
 |[],o,cur,w,hg,_=>by simp only[World.setCells,BB,BT,Bn,CK,Array.toArray_toList];exact(setRow_self w b cur t fr hg).symm
 |v::r,o,cur,w,hg,hl=>by simp only[Bc] at hl;rw[World.setCells,setCell_eq_setRow w b o cur t fr v hg,Ed r (o+1) _ _ (setRow_heap w b cur _ t fr hg) (by simp;omega),setRow_setRow];have e:=list_seg_step cur.toList o v r (by simp;omega);simp only[Array.toList_setIfInBounds,Bc];rw[e]
theorem Ni{t:TypeId}{n b o:Nat}(hn:BP C.P t=some n){u:Value}(hu:u.cells.size=n)(h1:∀x∈u.cells.toList,x.oneCell'=true){cur:Array Value}{e:TypeId}{fr:Nat×Nat}(hg:w.heap[b]?=some (.cells cur e fr))(kN:RD fr cur.size)
  (hl:o+n<=cur.size):(Instr.storeAt t (.pointer (some ⟨b,o,none⟩)) u).run C.P w= .ok () (w.setRow b (cur.toList.take o++u.cells.toList++cur.toList.drop (o+n)).toArray):=by
 have hs:=run_storeCells_cells (P:=C.P) b o u.cells.toList 0 w (λj hj=>by
  rw[cell_of_row w _ _ cur e fr hg];simp at hj;rw[C3 (by omega)];rfl) (λj hj=>by
  simp at hj;simp only[World.frozen?,hg];rcases kN with rfl|kN
  .simp
  .simp;omega) h1
 rw[Bn,Ed _ o cur w hg (by simp;omega)] at hs;cases hq:C.P.info? t with
 |none=>simp[BP,hq] at hn
 |some i=>
  have hi:i.size=n:=by simpa[BP,hq] using hn
  simp only[Ch,hu] at hs;simp[Instr.storeAt,Instr.sureAddr,storeVar,sizeOf,typeInfo,hq,hi,hu,hs]
theorem UA{α:Type}{cs vs:List α}{off n o:Nat}(hl:off+n<=cs.length)(hv:vs.length=n)(ho:¬(off<=o/\o<off+n)):(cs.take off++vs++cs.drop (off+n))[o]?=cs[o]?:=by
 have e1:(cs.take off).length=off:=by simp;omega
 by_cases h:o<off;·rw[Ad (by simp[hv];omega),Ad (by omega),C9 h]
 .rw[Bg (by simp[hv];omega),Cz];congr 1
  simp[hv];omega
theorem Xb{α:Type}{cs:List α}{off n:Nat}{x:α}(hl:off+n<=cs.length):(cs.take off++[x]++cs.drop (off+n))[off]?=some x:=by
 have e1:(cs.take off).length=off:=by simp;omega
 rw[Ad (by simp;omega),Bg (by omega)];simp[e1]
theorem Lu{α:Type}{us vs:List α}{off n len:Nat}(hl:len<=us.length)(ho:off+n<=len)(hv:vs.length=n):
  (us.take off++vs++us.drop (off+n)).take len=(us.take len).take off++vs++(us.take len).drop (off+n):=by
 have e1:(us.take off).length=off:=by simp;omega
 have e2:(us.take off++vs).length=off+n:=by simp[hv];omega
 rw[List.take_append,Ay (by omega),e2,GV,Cn (by omega),List.drop_take]
theorem MO{cs vs:List Aa}{us Dk:List Value}{off n:Nat}(h:A8 γ cs us)(h':A8 γ vs Dk):A8 γ (cs.take off++vs++cs.drop (off+n)) (us.take off++Dk++us.drop (off+n)):=
 ((h.take off).append h').append (h.drop (off+n))
theorem HU.tw{B s s2 g:Nat}(hg:γ.own g=some (.loc s)){c:Option Nat}{v:Value}{u:Aa}(Dk:Array Value)(ho:HU γ B w s2 c v u):HU γ B (w.setRow g Dk) s2 c v u:=by
 rcases ho with ho|⟨g2,n,cap,us,e,z,Au,h1,h2,h3,h4,h5,h6⟩
 .exact .inl ho
 .have hb:g2≠g:=λhe=>by subst he;rw[hg] at h3;cases h3
  exact .inr ⟨g2,n,cap,us,e,z,Au,h1,h2,h3,h4,by rw[setRow_other w g g2 Dk hb];exact h5,h6⟩
theorem UB(γ:Gh)(w:World)(g:Nat)(us:Array Value):OA g γ w γ (w.setRow g us):=
 ⟨.refl _,λb x hb hx _=>⟨hx,setRow_other w g b us hb⟩⟩
theorem CS.Z5(hr:CS C γ0 w0 γ β σ h a w){s ver Fw off n:Nat}{cs:List Aa}{ow:List Nat}(hs:σ.at s= .box ver cs ow){vs:List Aa}{Dk:List Value}(hv:A8 γ vs Dk)(h1:∀u∈Dk,u.oneCell'=true)(hn:vs.length=n)
  (hl:off+n<=cs.length) {own:Bool} (E2:own=true->∃u x,Dk=[u]/\vs=[x]/\HU γ w0.heap.size w s (some off) u x) {us:Array Value} {e:TypeId} (hg:w.heap[β s]?=some (.cells us e (0,0))):
  CS C γ0 w0 γ β (σ.set s (.box Fw (Um cs off n vs) (Qq ow off n own))) h a (w.setRow (β s) (us.toList.take off++Dk++us.toList.drop (off+n)).toArray):=by
 have h0:=hr.fr.Hv s;rw[hs] at h0;obtain⟨p1,p2,p3,tR,e0,p4,p5,p6,p7⟩:=h0;rw[hg] at p4;cases p4;have hlen:Dk.length=n:=by rw[hv.length,hn]
 have ZE:off+n<=us.toList.length:=by rw[p5.length];exact hl
 have uZ:s<σ.length:=BD.NN (by rw[hs];simp);refine⟨qC hr.DD p2 _,⟨by simp[hr.fr.size],λs2=>?_⟩,hr.Dw.write (g:=β s) p3 (.refl _) (by simp) rfl rfl rfl (λb hb=>⟨setRow_other w _ b _ hb,rfl⟩),hr.defers,hr.Gj⟩;by_cases he:s2=s
 .subst he;rw[BD.ET uZ];refine⟨p1,p2,p3,_,e,setRow_heap w _ us _ e (0,0) hg,?_,?_,?_⟩;·simpa[Um] using MO (off:=off) (n:=n) p5 hv
  .intro u hu;simp only[AB,Ao] at hu;rcases hu with hu|hu|hu
   .exact p6 u (Bf hu)
   .exact h1 u hu
   .exact p6 u (Bw hu)
  .intro o ho;have Ie:(own=true/\o=off)\/(o∈ow/\¬(off<=o/\o<off+n)):=by
    unfold Qq at ho;have hf:o∈ow.filter (λo=> !(decide (off<=o)&&decide (o<off+n)))->o∈ow/\¬(off<=o/\o<off+n):=λhm=>by rw[DV] at hm;refine⟨hm.1,λhc=>?_⟩;have:=hm.2;simp[hc.1,hc.2] at this
    cases own with
    |true=>
     simp only[BN,AM] at ho;rcases ho with ho|ho
     .exact .inl ⟨rfl,ho⟩
     .exact .inr (hf ho)
    |false=>exact .inr (hf ho)
   rcases Ie with⟨yp,rfl⟩|⟨yp,Wf⟩
   .obtain⟨u,x,rfl,rfl,hT⟩:=E2 yp;exact⟨u,x,by simpa using Xb (x:=u) ZE,by simpa[Um] using Xb (x:=x) hl,hT.tw p2 _⟩
   .obtain⟨u,x,q1,q2,q3⟩:=p7 o yp;refine⟨u,x,?_,?_,q3.tw p2 _⟩;·rw[<-q1];have:=UA ZE hlen Wf;simpa using this
    .rw[<-q2];exact UA hl hn Wf
 .rw[BD.Fp (λx=>he x.symm)];exact(hr.fr.Hv s2).keptBut p2 (UB γ w _ _) (by simp only[Jp.eF];intro hx;cases hx;exact he rfl)
theorem NS(hr:CS C γ0 w0 γ β σ h a w){y:Operand}{v:Aa}(hy:JZ C σ y=true)(hv:Es C σ y=some v)(s':Nat)(c':Option Nat):
  ∃γ',γ.le γ'/\CS C γ0 w0 γ' β (σ.Dm (CZ σ y)) h a w/\BF γ' v (a.eval y)/\HU γ' w0.heap.size w s' c' (a.eval y) v:=by
 unfold JZ at hy;cases hs:DJ C σ y with
 |none=>rw[hs] at hy;cases hy
 |some sl=>
  rw[hs] at hy;cases sl with
  |own u=>
   have hvu:u=v:=by unfold Es at hv;rw[hs] at hv;exact EC hv
   subst hvu;cases y with
   |tmp t=>have ht:σ.at t= .own u:=Gl hs;obtain⟨γ',DW,Fy,h1,h2⟩:=hr.take ht s' c';exact⟨γ',DW,by simpa[CZ,ht,BD.Dm] using Fy,h1,h2⟩
   |const c=>
    refine⟨γ,.refl _,hr,FU hr hv,?_⟩;obtain⟨q,_⟩:=Qw (γ:=γ) (β:=β) (w:=w) hs;unfold DJ at hs;split at hs;·rename_i e;cases e
    .cases hs
    .cases hs;exact .inl rfl
    .rename_i Ji;cases Ji;cases hc:JP c with
     |none=>rw[hc] at hs;cases hs
     |some _=>rw[hc] at hs;cases hs
    .rename_i e;cases e
    .cases hs
   |global g=>have TP:(C.Gj g).map (λcs=>D6.val (Aa.CA cs))=some (.own u):=hs;cases hc:C.Gj g<;>rw[hc] at TP<;>cases TP
   |func f=>cases hs
  |_=>cases hy
theorem eY{B s:Nat}{c:Option Nat}{v:Value}{x:Aa}(h:HU γ B w s c v x):x.cells=[x]:=by rcases h with rfl|⟨_,_,_,_,_,_,_,rfl,_⟩<;>rfl
theorem eZ{o:Oper}{t:TypeId}{x y:Operand}{s off n ver:Nat}{v:Aa}{own:Bool}{dem:Option (Nat×Aa)}{cells:List Aa}{owned:List Nat}{run:IT->Ae->Option Jn}{σ':BD}{h':Ae}(ho:o.op= .store t x y)(hd:o.dst=none)
  (hc:IA C σ t x y=some (.LN s off n v own dem ver cells owned)) (FG:(Er.LN s off n v own dem ver cells owned).L9 C run σ h σ' h') (hr:CS C γ0 w0 γ β σ h a w):FM C γ0 w0 o a w σ' h':=by
 unfold IA at hc;split at hc;·cases hc
 .rename_i m sh s' u9 Fw Gf Mz v' hsz dT ha hv;split at hc
  .rename_i hl;simp only[BC,Er.LN.injEq] at hc;obtain⟨rfl,rfl,rfl,rfl,E2,Wv,rfl,rfl,rfl⟩:=hc;obtain⟨hn,rfl,rfl⟩:=FG;obtain⟨hs,hx⟩:=J3 hr ha;have kS:=FU hr hv;obtain⟨_,_,us,e,hg,p5,p6,_⟩:=hr.Xa hs;have uZ:u9+(m+1)<=us.size:=by have:=p5.length;simp at this;omega
   obtain⟨q1,q2⟩:=Gx kS (by omega);have fA:(a.eval y).cells.size=m+1:=by have:=q1.length;simp at this;omega
   have hst:=Ni (C:=C) (b:=β s') (o:=u9) hsz fA q2 hg (.inl rfl) uZ;rw[<-hx] at hst;have MB:(execOp a.eval o).run C.P w= .ok .skip (w.setRow (β s') (us.toList.take u9++(a.eval y).cells.toList++us.toList.drop (u9+(m+1))).toArray):=by simp[execOp,ho,hst]
   by_cases hw:own=true
   .subst hw;rw[if_pos E2] at Wv;subst Wv;simp only[BK] at E2;obtain⟨γ1,DW,Jq,h1,h2⟩:=NS hr E2.2 hv s' (some u9);have O8:=eY h2;have IP:(σ.Dm (CZ σ y)).at s'= .box Fw Gf Mz:=by
     cases y with
     |tmp t'=>
      simp only[CZ];cases ht:σ.at t' with
      |own u=>simp only[BD.Dm];rw[BD.Fp (λe=>by rw[e,hs] at ht;cases ht)];exact hs
      |_=>exact hs
     |_=>exact hs
    have K0:=Jq.Z5 (Fw:=Fw+1) (own:=true) (n:=m+1) IP (A8.mono DW _ _ q1) q2 hn hl (λ_=>?_) hg;·exact FM.skip MB (by rw[hd];exact K0)
    .have hcl:(a.eval y).cells=#[a.eval y]:=by
      rcases h2 with h2|⟨_,_,_,_,_,_,_,_,h2,_⟩
      .subst h2;rw[show a.eval y=_ from h1];rfl
      .rw[h2];rfl
     exact⟨a.eval y,v',by rw[hcl],O8,h2⟩
   .have hw':own=false:=by simpa using hw
    subst hw';rw[if_neg (by rw[E2];simp)] at Wv;subst Wv;exact FM.skip MB (by rw[hd];exact hr.Z5 (Fw:=Fw+1) (own:=false) hs q1 q2 hn hl (λe=>by cases e) hg)
  .cases hc
 .cases hc
theorem qM{o:Oper}{t:TypeId}{x y:Operand}{n:Nat}{p v:Aa}{h':Ae}(ho:o.op= .store t x y)(hd:o.dst=none)(hsz:BP C.P t=some (n+1))(hx:Fu C σ x=some (.ptr p))(hv:Es C σ y=some v)(hst:Cv h (n+1) p v=some h')(hr:CS C γ0 w0 γ β σ h a w):
  FM C γ0 w0 o a w σ h':=by
 have yq:=PL hr hx;have kS:=FU hr hv;unfold Cv at hst;split at hst
 .rename_i id off;obtain⟨b,hb,hxe⟩:=yq;split at hst
  .rename_i cs hcs;split at hst
   .rename_i hl;cases hst;obtain⟨us,e,fr,hg,pf,p5,p6⟩:=hr.DD.cells id cs hcs b hb;obtain⟨q1,q2⟩:=Gx kS (by omega);have fA:(a.eval y).cells.size=n+1:=by have:=q1.length;simp at this;omega
    have hlt:cs.length<=us.size:=by have:=p5.length;simp at this;omega
    have uZ:off+(n+1)<=us.size:=by omega
    have AU:=Ni (C:=C) (b:=b) (o:=off) hsz fA q2 hg pf uZ;rw[<-hxe] at AU;obtain⟨hi,ha⟩:=L7 hr.DD hcs hb hg (us.toList.take off++(a.eval y).cells.toList++us.toList.drop (off+(n+1))).toArray (cs.take off++v.cells++cs.drop (off+(n+1)))
     (by simp only[B6,Aq,Al,A7,Ch,fA];omega)
     (by
      rcases pf with rfl|pf
      .exact .inl rfl
      .refine .inr (Bt (WS ?_) pf);simp only[B6,Aq,Al,A7,Ch,fA];omega)
     (by
      have:=MO (off:=off) (n:=n+1) p5 q1;rw[<-Lu (by simpa using hlt) hl.2 (by simpa using fA)] at this;have e1:(cs.take off++v.cells++cs.drop (off+(n+1))).length=cs.length:=by simp[hl.1];omega
      rw[e1];simpa using this) (λu hu=>by
      have e1:(cs.take off++v.cells++cs.drop (off+(n+1))).length=cs.length:=by simp[hl.1];omega
      rw[e1] at hu;simp only[Wl] at hu;rw[Lu (by simpa using hlt) hl.2 (by simpa using fA)] at hu;simp only[AB,Ao] at hu;rcases hu with hu|hu|hu
      .exact p6 u (Bf hu)
      .exact q2 u hu
      .exact p6 u (Bw hu))
    have MB:(execOp a.eval o).run C.P w= .ok .skip (w.setRow b (us.toList.take off++(a.eval y).cells.toList++us.toList.drop (off+(n+1))).toArray):=by simp[execOp,ho,AU]
    exact FM.skip MB (by rw[hd];exact hr.world hi ha)
   .cases hst
  .cases hst
 .cases hst
theorem CS.freeze(hr:CS C γ0 w0 γ β σ h a w){s ver:Nat}{cs:List Aa}{ow:List Nat}(hs:σ.at s= .box ver cs ow):
  ∃γ',γ.le γ'/\CS C γ0 w0 γ' β (σ.set s (.val (.CA cs))) h a w/\BF γ' (.CA cs) (a.tmps.getD s undef):=by
 have h0:=hr.fr.Hv s;rw[hs] at h0;obtain⟨p1,p2,p3,us,e,p4,p5,p6,p7⟩:=h0;have uZ:s<σ.length:=BD.NN (by rw[hs];simp);have uQ:∀o,γ.HA (β s) o=none:=λo=>by
  cases hc:γ.HA (β s) o with
  |none=>rfl
  |some u=>obtain⟨_,_,q⟩:=hr.DD.HA _ _ _ hc;rw[p2] at q;rcases q with q|⟨_,_,_,q,_⟩<;>cases q
 have DW:γ.le (γ.C6 (β s) us us.size none):=⟨λb o v hb=>by
  have:b≠β s:=λe=>by rw[e,uQ] at hb;cases hb
  simp only[Gh.C6,if_neg this];exact hb,λ_ _ hm=>hm,λ_ _ hm=>hm⟩
 have hne:∀b id,γ.own b=some (.KW id)->b≠β s:=λb id hb e=>by rw[e,p2] at hb;cases hb
 have hk:OA (β s) γ w (γ.C6 (β s) us us.size none) w:=⟨DW,λb x hb hx _=>⟨by simp only[Gh.C6,if_neg hb];exact hx,rfl⟩⟩;have hv:BF (γ.C6 (β s) us us.size none) (.CA cs) (a.tmps.getD s undef):=by
  refine⟨β s,0,p1,CI.Gk λi x hi=>?_⟩;obtain⟨u,q1,q2⟩:=p5.get hi;have hlt:i<us.size:=by have:=(Ah.1 q1).1;simpa using this
  exact⟨u,by simp only[Gh.C6,BN,BJ,if_pos hlt];simpa using q1,BF.mono DW _ _ q2⟩
 have yr:∀b n,γ.sz b=some n->(∃us e fr,w.heap[b]?=some (.cells us e fr)/\us.size=n)/\((γ.C6 (β s) us us.size none).own b=none\/∃id,(γ.C6 (β s) us us.size none).own b=some (.KW id)):=λb n hb=>by
  obtain⟨p,r⟩:=hr.DD.sz b n hb;by_cases he:b=β s;·subst he;exact⟨p,.inl (by simp[Gh.C6])⟩
  .exact⟨p,by simp only[Gh.C6,if_neg he];exact r⟩
 refine⟨_,DW,⟨⟨λb o v hb=>?_,λid y Hj hy=>?_,λid Gf hc b hb=>?_,λid es hc b hb=>?_,hr.DD.mu,λb x hx=>?_,yr⟩,⟨by simp[hr.fr.size],λs2=>?_⟩,?_,hr.defers,λx Gf hx=>CI.mono DW _ _ _ (hr.Gj x Gf hx)⟩,hv⟩
 .by_cases he:b=β s
  .subst he;simp only[Gh.C6,BN] at hb⊢;split at hb;·exact⟨by rw[cell_of_row _ _ _ us e (0,0) p4];exact hb,p6 v (by rw[A0] at hb;obtain⟨p,q⟩:=hb;rw[<-q];exact Array.getElem_mem_toList p),.inl (by simp)⟩
   .cases hb
  .simp only[Gh.C6,if_neg he] at hb⊢;exact hr.DD.HA b o v hb
 .obtain⟨b,q1,q2⟩:=hr.DD.KW id y Hj hy;exact⟨b,q1,by simp only[Gh.C6,if_neg (hne b id q2)];exact q2⟩
 .obtain⟨Dk,e',qB,q1,qf,q2,q3⟩:=hr.DD.cells id Gf hc b hb;exact⟨Dk,e',qB,q1,qf,A8.mono DW _ _ q2,q3⟩
 .obtain⟨Dk,e',q1,q2⟩:=hr.DD.map id es hc b hb;exact⟨Dk,e',q1,q2.mono DW⟩
 .by_cases he:b=β s;·subst he;exact hr.DD.own _ _ p2
  .simp only[Gh.C6,if_neg he] at hx;exact hr.DD.own b x hx
 .by_cases he:s2=s;·subst he;rw[BD.ET uZ];exact hv
  .rw[BD.Fp (λx=>he x.symm)];exact(hr.fr.Hv s2).keptBut p2 hk (by simp only[Jp.eF];intro hx;cases hx;exact he rfl)
 .refine⟨hr.Dw.le.trans DW,hr.Dw.size,hr.Dw.os,hr.Dw.tape,hr.Dw.output,λb hb hn=>?_⟩;obtain⟨q1,q2⟩:=hr.Dw.MH b hb hn;exact⟨q1,by simp only[Gh.C6,if_neg (show b≠β s by omega)];exact q2⟩
theorem CS.Xc:∀{fz:List (Nat×List Aa)} {γ:Gh} {σ:BD},CS C γ0 w0 γ β σ h a w->(∀p∈fz,∃ver ow,σ.at p.1= .box ver p.2 ow)->(fz.map (·.1)).Nodup->
  ∃γ',γ.le γ'/\CS C γ0 w0 γ' β (σ.Ec (fz.map λ(s,cs)=>(s,.val (.CA cs)))) h a w/\∀p∈fz,BF γ' (.CA p.2) (a.tmps.getD p.1 undef)
 |[],γ,σ,hr,_,_=>⟨γ,.refl _,hr,by simp⟩
 |(s,cs)::fz,γ,σ,hr,hb,hn=>by
  simp only[Bl,BW] at hn;obtain⟨ver,ow,hs⟩:=hb (s,cs) (by simp);obtain⟨γ1,aJg,Jq,ez⟩:=hr.freeze hs;obtain⟨γ2,Z6,K0,UC⟩:=Xc (fz:=fz) Jq (λp hp=>by obtain⟨Fw,Mz,hp'⟩:=hb p (by simp[hp]);refine⟨Fw,Mz,?_⟩;rw[BD.Fp (λe=>hn.1 (by rw[show s=p.1 from e];exact Bk.2 ⟨p,hp,rfl⟩))];exact hp') hn.2
  refine⟨γ2,aJg.trans Z6,K0,λp hp=>?_⟩;rcases AM.1 hp with rfl|hp
  .exact BF.mono Z6 _ _ ez
  .exact UC p hp
theorem O9:∀{xs:List Operand} {vs:List Aa} {fz:List (Nat×List Aa)},Gv C σ xs=some (vs,fz)->
  (∀p∈fz,∃ver ow,σ.at p.1= .box ver p.2 ow)/\(fz.map (·.1)).Nodup/\
  ∀γ',(∀x u,Es C σ x=some u->BF γ' u (a.eval x))->(∀p∈fz,BF γ' (.CA p.2) (a.tmps.getD p.1 undef))->A8 γ' vs (xs.map a.eval)
 |[],vs,fz,hc=>by cases hc;exact⟨by simp,by simp,λ_ _ _=>rfl⟩
 |x::xs,vs,fz,hc=>by
  unfold Gv at hc;split at hc;·cases hc
  .rename_i Hi fz' hxs;obtain⟨h1,h2,h3⟩:=O9 hxs;split at hc
   .rename_i s ver cs ow hs;split at hc;·cases hc
    .rename_i hn;cases hc;have hsb:σ.at s= .box ver cs ow:=Gl hs;refine⟨λp hp=>?_,?_,λγ' k1 k2=>?_⟩
     .rcases AM.1 hp with rfl|hp
      .exact⟨ver,ow,hsb⟩
      .exact h1 p hp
     .simp only[Bl,BW];exact⟨by simpa using hn,h2⟩
     .exact⟨_,_,rfl,k2 (s,cs) (by simp),h3 γ' k1 λp hp=>k2 p (by simp[hp])⟩
   .rename_i sl _ hs;cases hv:sl.Gu with
    |none=>rw[hv] at hc;cases hc
    |some u=>rw[hv] at hc;cases hc;exact⟨h1,h2,λγ' k1 k2=>⟨_,_,rfl,k1 _ u (by unfold Es;rw[hs];exact hv),h3 γ' k1 k2⟩⟩
   .cases hc
theorem Z7{o:Oper}{fn:Fn}{first captured:Array Operand}{d:Nat}{as bs:List Aa}{fz:List (Nat×List Aa)}(ho:o.op= .makeFunc fn first captured)(hd:o.dst=some d)(ha:Bq C σ first.toList=some as)(hb:Gv C σ captured.toList=some (bs,fz))(hr:CS C γ0 w0 γ β σ h a w):
  FM C γ0 w0 o a w (((σ.drop (fz.map (·.1))).Ec (fz.map λ(s,cs)=>(s,.val (.CA cs)))).set d (.val (.func fn as bs))) h:=by
 obtain⟨h1,h2,h3⟩:=O9 (a:=a) hb;obtain⟨γ',DW,Fy,hv⟩:=(hr.drop (fz.map (·.1))).Xc (fz:=fz) (λp hp=>by obtain⟨ver,ow,hs⟩:=h1 p hp;exact⟨ver,ow,by rw[BD.TQ,hs]⟩) h2
 refine FM.value (w':=w) (v:= .func fn (first.map a.eval) (captured.map a.eval)) (by simp[execOp,ho,Instr.makeFunc]) (by rw[hd];exact Fy.put (d:=some d) λ_ _=>⟨_,_,rfl,by simpa using A8.mono DW _ _ (Dx hr ha),by simpa using h3 γ' (λx u hx=>BF.mono DW _ _ (FU hr hx)) hv⟩)
end
end Go.Am
end
