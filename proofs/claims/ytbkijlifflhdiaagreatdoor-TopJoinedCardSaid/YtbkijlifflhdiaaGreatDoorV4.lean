/- Lemmas -/
import Derived.Test.YtbkijlifflhdiaaGreatDoorV3
import Derived.Laws.IdiomCopy
set_option linter.all false
section
namespace Go.Am
open Go
def oL(β:Nat->Nat)(d b:Nat):Nat->Nat:=λs=>if s=d then b else β s
def IH.aF:IH->Option Nat
 | .Kd _=>none
 | .ux s=>some s
 | .tail s _ _=>some s
structure Ny(g:Nat)(γ:Gh)(w:World)(γ':Gh)(w':World):Prop where
 le:γ.le γ'
 KF:∀b x,b≠g->γ.Bn b=some x->x.pP=false->γ'.Bn b=some x/\w'.heap[b]?=w.heap[b]?
section
variable{C:E7}{γ0 γ γ':Gh}{w0 w w':World}{β:Nat->Nat}{U:Bq}{h:Ag}{a:Act}{fid:FuncId}{ops:List Oper}
def Bq.O7(U:Bq)(ds:List Nat)(s:Nat):(U.drop ds).at s=match U.at s with| .Ed t o=>if ds.contains t then .undef else .Ed t o|x=>x:=by
 cases ds with
 |nil=>simp only[Bq.drop,List.contains_nil];cases U.at s<;>simp
 |cons d ds=>
  simp only[Bq.drop,Bq.at,List.getD,CT];cases hg:U[s]? with
  |none=>rfl
  |some x=>cases x<;>rfl
def Bq.length_drop(U:Bq)(ds:List Nat):(U.drop ds).length=U.length:=by cases ds<;>simp[Bq.drop]
def Jw.ž{B s d b:Nat}{x:Dw}{v:Value}(hx:Jw γ β B w s x v)(hn:∀o,x≠ .Ed d o)(hs:s≠d):Jw γ (oL β d b) B w s x v:=by
 cases x with
 |box ver cs ow=>simpa only[Jw,oL,Ac hs] using hx
 |Ed t o=>have:t≠d:=λe=>hn o (by rw[e]);simpa only[Jw,oL,Ac this] using hx
 |_=>exact hx
def Hq.keptBut{g B s:Nat}{d:IH}(hg:γ.Bn g=some d)(k:Ny g γ w γ' w')(hne:d.aF≠some s){c:Option Nat}{v:Value}{u:Aa}(ho:Hq γ B w s c v u):Hq γ' B w' s c v u:=by
 rcases ho with ho|⟨g2,n,cap,us,e,z,An,h1,h2,b,m,l,j⟩
 .exact .inl ho
 .have hb:g2≠g:=λhe=>by subst he;rw[hg] at b;cases b;exact hne rfl
  obtain⟨i,f⟩:=k.KF g2 _ hb b rfl;exact .inr ⟨g2,n,cap,us,e,z,An,h1,h2,i,m,by rw[f];exact l,j⟩
def Jw.keptBut{g B s:Nat}{d:IH}(hg:γ.Bn g=some d)(k:Ny g γ w γ' w')(hne:d.aF≠some s){x:Dw}{v:Value}(hx:Jw γ β B w s x v):Jw γ' β B w' s x v:=by
 cases x with
 |undef=>trivial
 |skip=>exact hx
 |val u=>exact Bp.mono k.le u v hx
 |MC b=>exact hx
 |Bn u=>exact⟨Bp.mono k.le u v hx.1,hx.2.keptBut hg k hne⟩
 |box ver cs ow=>
  obtain⟨r,c,q,us,e,p,n,m,l⟩:=hx;have hb:β s≠g:=λhe=>by rw[he,hg] at c;cases c;exact hne rfl
  obtain⟨y,t⟩:=k.KF _ _ hb c rfl;exact⟨r,y,q,us,e,by rw[t];exact p,AK.mono k.le cs _ n,m,λo ho=>let⟨u,v,j,i,f⟩:=l o ho;⟨u,v,j,i,f.keptBut hg k hne⟩⟩
 |Ed s' o=>exact hx
def Ct.pZ(hr:Ct C γ0 w0 γ β U h a w)(d:Nat)(us:Array Value)(e:TypeId)(cells:List Aa)(ow:List Nat)(hc:AK γ cells us.toList)(h1:∀u∈us.toList,u.oneCell'=true)
  (how:∀o∈ow,cells[o]?=some .slnil):
  ∃γ' b,Ct C γ0 w0 γ' b ((U.drop [d]).set d (.box 0 cells ow)) h (a.put (some d) (.pointer (some ⟨w.heap.size,0,none⟩))) (w.alloc (.cells us e)):=by
 obtain⟨hi,ha⟩:=KO hr.Db us e (0,0) 0 (some (.ux d)) (λ_ _ ho=>absurd ho (Nat.not_lt_zero _)) (.inr (.inr ⟨rfl,Au⟩));have Ij:=(hr.drop [d]).world hi ha;refine⟨_,oL β d w.heap.size,Ij.Db,⟨by simp[Act.put,Ij.fr.size],λs=>?_⟩,Ij.C2,Ij.defers,Ij.Fl⟩;have hs:=Ij.fr.GB s;by_cases he:s=d
 .subst he;by_cases hl:s<(U.drop [s]).length
  .have wR:s<a.tmps.size:=by rw[<-Ij.fr.size];exact hl
   rw[Bq.Em hl];have e1:(a.put (some s) (.pointer (some ⟨w.heap.size,0,none⟩))).tmps.getD s undef= .pointer (some ⟨w.heap.size,0,none⟩):=by simp[Act.put,Array.getD,wR]
   rw[e1];refine⟨by simp[oL],by simp[oL,Gh.CC],?_,us,e,?_,AK.mono ha.le _ _ hc,h1,λo ho=>?_⟩;.simp only[oL,BB];exact hr.C2.size
   .simp only[oL,BB];exact heap_alloc_new w _
   .have hco:=how o ho;obtain⟨u,c,g⟩:=hc.get hco;exact⟨u,.slnil,by simpa using c,hco,.inl (.inl rfl)⟩
  .have:Bq.at ((U.drop [s]).set s (.box 0 cells ow)) s= .undef:=by simp[Bq.at,List.getD];rw[Dd (by simpa using hl)];rfl
   rw[this];trivial
 .rw[Bq.EN (λe=>he e.symm)];have f:(a.put (some d) (.pointer (some ⟨w.heap.size,0,none⟩))).tmps.getD s undef=a.tmps.getD s undef:=by simp[Act.put,FB,aC (λe=>he e.symm)]
  rw[f];refine hs.ž (λo ho=>?_) he;rw[Bq.O7] at ho;cases hx:U.at s with
  |Ed t o'=>
   rw[hx] at ho;simp only at ho;split at ho;.cases ho
   .rename_i hc;cases ho;exact hc Au
  |_=>rw[hx] at ho;cases ho
def Gr{P:Program}{t:TypeId}{z:Aa}(hz:Fy P t=some z):∃v,I4 v=some z/\∀w,(zeroValue t).run P w= .ok v w:=by
 unfold Fy at hz;cases hi:P.info? t with
 |none=>rw[hi] at hz;cases hz
 |some i=>
  rw[hi] at hz;cases hv:i.zero with
  |none=>simp[hv] at hz
  |some v=>simp only[BU,hv] at hz;exact⟨v,hz,λw=>by simp[zeroValue,typeInfo,hi,hv]⟩
def aV{cs:List Aa}{o:Nat}(h:o∈Sv cs):cs[o]?=some .slnil:=by
 simp only[Sv,CH,vY] at h;obtain⟨h1,h2⟩:=h;simp only[List.getD,Ap h1,Ln] at h2;rw[Ap h1];split at h2;.rename_i he;rw[he]
 .cases h2
def EJ(C:E7)(γ0:Gh)(w0:World)(o:Oper)(a:Act)(w:World)(c:Bq)(h':Ag):Prop:=
 ∃γ' b w',(∃v,(execOp a.eval o).run C.P w= .ok (.value v) w'/\Ct C γ0 w0 γ' b c h' (a.put o.dst v) w')\/((execOp a.eval o).run C.P w= .ok .skip w'/\Ct C γ0 w0 γ' b c h' (a.put o.dst undef) w')
def EJ.value{o:Oper}{c:Bq}{h':Ag}{b:Nat->Nat}{v:Value}(he:(execOp a.eval o).run C.P w= .ok (.value v) w')(hr:Ct C γ0 w0 γ' b c h' (a.put o.dst v) w'):EJ C γ0 w0 o a w c h':=⟨γ',b,w',.inl ⟨v,he,hr⟩⟩
def EJ.skip{o:Oper}{c:Bq}{h':Ag}{b:Nat->Nat}(he:(execOp a.eval o).run C.P w= .ok .skip w')(hr:Ct C γ0 w0 γ' b c h' (a.put o.dst undef) w'):EJ C γ0 w0 o a w c h':=⟨γ',b,w',.inr ⟨he,hr⟩⟩
def SJ{o:Oper}{t:TypeId}{d:Nat}{z:Aa}(ho:o.op= .alloc t)(hd:o.dst=some d)(hz:Fy C.P t=some z)(hn:z.cells≠[])(hr:Ct C γ0 w0 γ β U h a w):
  EJ C γ0 w0 o a w ((U.drop [d]).set d (.box 0 z.cells (Sv z.cells))) h:=by
 obtain⟨v,hv,Ay⟩:=Gr hz;obtain⟨e,c⟩:=FQ (γ:=γ) (El hv) (Fv.2 hn);obtain⟨γ',b,FH⟩:=hr.pZ d v.cells t z.cells (Sv z.cells) e c (λo=>aV);refine EJ.value (v:= .pointer (some ⟨w.heap.size,0,none⟩)) ?_ (by rw[hd];exact FH);simp[execOp,ho,Instr.alloc,Ay,newVar,newRow]
def Wv{o:Oper}{t:TypeId}{x:Operand}{d n:Nat}{v:Aa}(ho:o.op= .box t x)(hd:o.dst=some d)(hx:DX C U x=some v)(hv:v.cells.length=n)(hn:n≠0)(hr:Ct C γ0 w0 γ β U h a w):
  EJ C γ0 w0 o a w ((U.drop [d]).set d (.box 0 v.cells [])) h:=by
 obtain⟨e,c⟩:=FQ (Fh hr hx) Ab;obtain⟨γ',b,FH⟩:=hr.pZ d (a.eval x).cells t v.cells [] e c Au;refine EJ.value (v:= .pointer (some ⟨w.heap.size,0,none⟩)) ?_ (by rw[hd];exact FH);simp[execOp,ho,Instr.box,newVar,newRow]
def Ct.newObj(hr:Ct C γ0 w0 γ β U h a w)(us:Array Value)(e:TypeId)(fr:Nat×Nat)(cells:List Aa)(fY:Qb fr us.size)(hc:AK γ cells (us.toList.take cells.length))(h1:∀u∈us.toList.take cells.length,u.oneCell'=true):
  ∃γ',γ.le γ'/\γ'.mu h.length=some w.heap.size/\Ct C γ0 w0 γ' β U (h++[.cells cells]) a (w.alloc (.cells us e fr))/\γ'.sz w.heap.size=some us.size:=by
 obtain⟨hi,ha⟩:=L0 hr.Db (.cells us e fr) (.cells cells) (some us.size) (.inl ⟨cells,us,e,fr,rfl,rfl,fY,hc,h1,rfl⟩);exact⟨_,ha.le,by simp[Gh.BO],hr.world hi ha,by simp[Gh.BO]⟩
def SK{o:Oper}{t:TypeId}{z:Aa}{d:Option Nat}(ho:o.op= .alloc t)(hd:o.dst=d)(hz:Fy C.P t=some z)(hn:z.cells.length≠0)(hr:Ct C γ0 w0 γ β U h a w):
  EJ C γ0 w0 o a w (U.put d (.val (.ptr (some (h.length,0))))) (h++[.cells z.cells]):=by
 obtain⟨v,hv,Ay⟩:=Gr hz;obtain⟨b,c⟩:=FQ (γ:=γ) (El hv) Ab;obtain⟨γ',DG,hm,FH,_⟩:=hr.newObj v.cells t (0,0) z.cells (.inl rfl) (by rw[AT (by rw[b.length];exact Af _)];exact b) (λu hu=>c u (AN hu));refine EJ.value (v:= .pointer (some ⟨w.heap.size,0,none⟩)) ?_ (by rw[hd];exact FH.put λs _=>⟨_,hm,rfl⟩);simp[execOp,ho,Instr.alloc,Ay,newVar,newRow]
def Ww{o:Oper}{t:TypeId}{x:Operand}{d:Option Nat}{v:Aa}(ho:o.op= .box t x)(hd:o.dst=d)(hx:DX C U x=some v)(hn:v.cells.length≠0)(hr:Ct C γ0 w0 γ β U h a w):
  EJ C γ0 w0 o a w (U.put d (.val (.ptr (some (h.length,0))))) (h++[.cells v.cells]):=by
 obtain⟨b,c⟩:=FQ (Fh hr hx) Ab;obtain⟨γ',DG,hm,FH,_⟩:=hr.newObj (a.eval x).cells t (0,0) v.cells (.inl rfl) (by rw[AT (by rw[b.length];exact Af _)];exact b) (λu hu=>c u (AN hu));refine EJ.value (v:= .pointer (some ⟨w.heap.size,0,none⟩)) ?_ (by rw[hd];exact FH.put λs _=>⟨_,hm,rfl⟩);simp[execOp,ho,Instr.box,newVar,newRow]
def Jg(hr:Ct C γ0 w0 γ β U h a w){x:Operand}{s o ver:Nat}{cs:List Aa}{ow:List Nat}(hx:EX C U x=some (.ML s o ver cs ow)):
  U.at s= .box ver cs ow/\a.eval x= .pointer (some ⟨β s,o,none⟩):=by
 unfold EX at hx;split at hx;.rename_i s' E0 Fx LV hs;cases hx;have h0:=O2 hr s;rw[FA hs] at h0;exact⟨FA hs,h0.1⟩
 .rename_i s' o' _ hs;split at hx;.rename_i hb;cases hx;obtain⟨t,h1,_⟩:=E2 hr hs;exact⟨hb,h1⟩
  .cases hx
 .rename_i sl _ _ hs;cases hv:sl.FM with
  |none=>rw[hv] at hx;cases hx
  |some u=>rw[hv] at hx;cases hx
 .cases hx
def Ol(hr:Ct C γ0 w0 γ β U h a w){x:Operand}{p:Aa}(hx:EX C U x=some (.ptr p)):Bp γ p (a.eval x):=by
 unfold EX at hx;split at hx;.cases hx
 .split at hx<;>cases hx
 .rename_i sl _ _ hs;cases hv:sl.FM with
  |none=>rw[hv] at hx;cases hx
  |some u=>rw[hv] at hx;cases hx;obtain⟨t,h1,_⟩:=E2 hr hs;exact Lx h1 hv
 .cases hx
def GK{t:TypeId}{n:Option Nat}(ht:Ei C.P t=some n){cs:List Aa}{us:List Value}{b o:Nat}(hv:AK γ cs us)(hc:∀(j:Nat) (u:Value),us[j]?=some u->w.cell? ⟨b,o+j,none⟩=some u)(h1:∀u∈us,u.oneCell'=true)
  {r:Aa} (hp:Ek cs 0 n=some r):∃v,(Instr.loadAt t (.pointer (some ⟨b,o,none⟩))).run C.P w= .ok v w/\Bp γ r v:=by
 unfold Ei at ht;have LA:∀j,(⟨b,o,none⟩:Addr).add j=⟨b,o+j,none⟩:=λj=>by unfold Addr.add;split<;>simp_all
 have agg:∀d,C.P.underlying t=some d->(match d with| .struct _| .array _ _=>true|_=>false)=true->(BD C.P t).map some=some n->
   ∃v,(Instr.loadAt t (.pointer (some ⟨b,o,none⟩))).run C.P w= .ok v w/\Bp γ r v:=by
  intro d hd hb hn;cases hs:BD C.P t with
  |none=>rw[hs] at hn;cases hn
  |some k=>
   rw[hs] at hn;cases hn;simp only[Ek] at hp;split at hp
   .rename_i hk;cases hp;have hl:=run_loadCells_list (P:=C.P) w ⟨b,o,none⟩ (us.take k) (λj v hj=>by
     rw[LA];refine hc j v ?_;rw[BV] at hj;split at hj;.exact hj
     .cases hj)
    have hlen:(us.take k).length=k:=by simp[hv.length];omega
    rw[hlen] at hl;refine⟨.agg (us.take k).toArray,?_,_,rfl,?_,λu hu=>h1 u (AN (by simpa using hu))⟩
    .have aW:(isAgg t).run C.P w= .ok true w:=by unfold isAgg;rw[Sem.run_bind,run_underlying hd w];cases d<;>simp_all
     cases hq:C.P.info? t with
     |none=>simp[BD,hq] at hs
     |some i=>
      have hi:i.size=k:=by simpa[BD,hq] using hs
      simp[Instr.loadAt,Instr.sureAddr,loadVar,aW,sizeOf,typeInfo,hq,hi,hl]
    .simpa using hv.take k
   .cases hp
 split at ht;.rename_i fs hd;exact agg _ hd rfl ht
 .rename_i l e hd;exact agg _ hd rfl ht
 .rename_i d P1 XX hd;cases ht;simp only[Ek] at hp;obtain⟨u,hu,hr⟩:=hv.get hp;refine⟨u,?_,hr⟩;have aW:(isAgg t).run C.P w= .ok false w:=by unfold isAgg;rw[Sem.run_bind,run_underlying hd w];cases d<;>simp_all
  have GC:=hc 0 u hu;simp only[A9] at GC;simp[Instr.loadAt,Instr.sureAddr,loadVar,aW,GC]
 .cases ht
def MS{cs:List Aa}{off:Nat}{n:Option Nat}{r:Aa}(h:Ek cs off n=some r):Ek (cs.drop off) 0 n=some r:=by
 cases n with
 |none=>simp only[Ek] at h⊢;rw[Cc];simpa using h
 |some n=>
  simp only[Ek] at h⊢;split at h;.cases h;rw[Ad D5];simp
  .cases h
def Ct.Vr(hr:Ct C γ0 w0 γ β U h a w){s ver:Nat}{cs:List Aa}{ow:List Nat}(hs:U.at s= .box ver cs ow):
  γ.Bn (β s)=some (.ux s)/\w0.heap.size<=β s/\∃us e,w.heap[β s]?=some (.cells us e (0,0))/\AK γ cs us.toList/\(∀u∈us.toList,u.oneCell'=true)/\
   ∀o∈ow,∃u x,us[o]?=some u/\cs[o]?=some x/\Hq γ w0.heap.size w s (some o) u x:=by
 have h0:=hr.fr.GB s;rw[hs] at h0;exact⟨h0.2.1,h0.2.2.1,h0.2.2.2⟩
def I5(hr:Ct C γ0 w0 γ β U h a w){t:TypeId}{n:Option Nat}(ht:Ei C.P t=some n){s ver off:Nat}{cs:List Aa}{ow:List Nat}(hs:U.at s= .box ver cs ow){r:Aa}(hp:Ek cs off n=some r):
  ∃v,(Instr.loadAt t (.pointer (some ⟨β s,off,none⟩))).run C.P w= .ok v w/\Bp γ r v/\(n=none->∀us e,w.heap[β s]?=some (.cells us e (0,0))->us[off]?=some v):=by
 obtain⟨_,_,us,e,h1,h2,g,_⟩:=hr.Vr hs;obtain⟨v,c,f⟩:=GK (w:=w) (b:=β s) (o:=off) ht (h2.drop off) (λj u hj=>by rw[cell_of_row w _ _ us e (0,0) h1];rw[Cc] at hj;simpa using hj) (λu hu=>g u (A7 hu)) (MS hp)
 refine⟨v,c,f,λhn CS i d_=>?_⟩;subst hn;rw[h1] at d_;cases d_;simp only[Ek] at hp;obtain⟨u,hu,_⟩:=h2.get hp;have GC:w.cell? ⟨β s,off,none⟩=some u:=by rw[cell_of_row w _ _ us e (0,0) h1];simpa using hu
 have aW:∃d,C.P.underlying t=some d/\(isAgg t).run C.P w= .ok false w:=by
  unfold Ei at ht;split at ht;.cases hz:BD C.P t<;>rw[hz] at ht<;>cases ht
  .cases hz:BD C.P t<;>rw[hz] at ht<;>cases ht
  .rename_i d P1 XX hd;refine⟨d,hd,?_⟩;unfold isAgg;rw[Sem.run_bind,run_underlying hd w];cases d<;>simp_all
  .cases ht
 obtain⟨d,hd,aW⟩:=aW;have:(Instr.loadAt t (.pointer (some ⟨β s,off,none⟩))).run C.P w= .ok u w:=by simp[Instr.loadAt,Instr.sureAddr,loadVar,aW,GC]
 rw[c] at this;cases this;simpa using hu
def Ct.wW(hr:Ct C γ0 w0 γ β U h a w){s ver off:Nat}{cs:List Aa}{ow:List Nat}(hs:U.at s= .box ver cs ow)(ho:off∈ow)(va:off∉ow.erase off)(s':Nat)(c':Option Nat){u:Value}{v:Aa}(hv:cs[off]?=some v)
  (hu:∀us e,w.heap[β s]?=some (.cells us e (0,0))->us[off]?=some u):
  ∃γ',γ.le γ'/\Ct C γ0 w0 γ' β (U.set s (.box (ver+1) cs (ow.erase off))) h a w/\Hq γ' w0.heap.size w s' c' u v:=by
 have h0:=hr.fr.GB s;rw[hs] at h0;obtain⟨h1,h2,r,us,e,j,q,p,i⟩:=h0;obtain⟨x,v',d,c,b⟩:=i off ho;rw[hv] at c;cases c;rw[hu us e j] at d;cases d;have Ij:Ct C γ0 w0 γ β (U.set s (.box (ver+1) cs (ow.erase off))) h a w:=hr.Yc ⟨h1,h2,r,us,e,j,q,p,λo' v8=>i o' (List.mem_of_mem_erase v8)⟩;have hl:s<U.length:=Bq.MO (by rw[hs];simp);rcases b with b|⟨g,n,cap,aI,t,z,An,o,m,l,f,k⟩
 .exact⟨γ,.refl _,Ij,.inl b⟩
 .refine⟨γ.EF g (.tail s' c' (n*z)),FO _ _ _,Ij.EF l f (λhn=>by cases hn) (λo' v8 E0 Fx LV hb=>?_),.inr ⟨g,n,cap,aI,t,z,An,o,m,by simp[Gh.EF],f,k⟩⟩;rw[Bq.Em hl] at hb;cases hb;cases v8;exact va
def UA{o:Oper}{t:TypeId}{x:Operand}{d:Nat}{take:Bool}{r:DK}{run:IT->Ag->Option IF}{f:Bq}{h':Ag}(ho:o.op= .load t x)(hd:o.dst=some d)(hc:Jv C U t x d take=some r)(hp:∃ws,r= .pure ws)
  (EL:r.Lw C run (U.drop r.news) h f h') (hr:Ct C γ0 w0 γ β U h a w):EJ C γ0 w0 o a w f h':=by
 have KG:∀v,(Instr.loadAt t (a.eval x)).run C.P w= .ok v w->(execOp a.eval o).run C.P w= .ok (.value v) w:=λv hv=>by simp[execOp,ho,hv]
 unfold Jv at hc;split at hc;.cases hc;obtain⟨_,e⟩:=hp;cases e
 .rename_i s off ver cs ow ht ha;obtain⟨hs,hx⟩:=Jg hr ha;split at hc
  .rename_i hlt;have Wx:cs[off]?=some (cs.getD off .nilIface):=by simp[List.getD,Ap hlt]
   obtain⟨v,b,c,g⟩:=I5 hr ht hs (r:=cs.getD off .nilIface) (off:=off) (by simpa[Ek] using Wx);rw[<-hx] at b;simp only at hc;split at hc
   .rename_i Gg;cases hc;rw[L1 Au] at EL;obtain⟨rfl,rfl⟩:=EL;simp only[Bi,wo] at Gg;obtain⟨⟨c1,c2⟩,_⟩:=Gg;have c2:off∉ow.erase off:=by simpa using c2
    obtain⟨γ',DG,FH,hown⟩:=hr.wW hs c1 c2 d none Wx (g rfl);exact EJ.value (KG v b) (by rw[hd];exact FH.put (d:=some d) λs' XV=>by cases XV;exact⟨Bp.mono DG _ _ c,hown⟩)
   .cases hc;rw[L1 Au] at EL;obtain⟨rfl,rfl⟩:=EL;exact EJ.value (KG v b) (by rw[hd];exact hr.put (d:=some d) λ_ _=>c)
  .cases hc
 .rename_i n s off ver cs ow ht ha;obtain⟨hs,hx⟩:=Jg hr ha;split at hc;.rename_i DG;cases hc;rw[L1 Au] at EL;obtain⟨rfl,rfl⟩:=EL;obtain⟨v,b,c,_⟩:=I5 hr ht hs (r:= .agg ((cs.drop off).take n)) (off:=off) (by simp[Ek,DG]);rw[<-hx] at b;exact EJ.value (KG v b) (by rw[hd];exact hr.put (d:=some d) λ_ _=>c)
  .cases hc
 .cases hc
def p8{o:Oper}{t:TypeId}{x:Operand}{n:Option Nat}{p r:Aa}(ho:o.op= .load t x)(ht:Ei C.P t=some n)(hx:EX C U x=some (.ptr p))(hl:BE h n p=some r)(hr:Ct C γ0 w0 γ β U h a w):
  EJ C γ0 w0 o a w (U.put o.dst (.val r)) h:=by
 have hv:=Ol hr hx;have KG:∀v,(Instr.loadAt t (a.eval x)).run C.P w= .ok v w->(execOp a.eval o).run C.P w= .ok (.value v) w:=λv hv=>by simp[execOp,ho,hv]
 unfold BE at hl;split at hl
 .rename_i cs;obtain⟨b,k,hv,hm⟩:=hv;obtain⟨us,g,d⟩:=hm.values;obtain⟨v,c,f⟩:=GK (w:=w) ht g (λj u hj=>(hr.Db.GA _ _ _ (d j u hj)).1) (λu hu=>by obtain⟨j,hj⟩:=Cf hu;exact(hr.Db.GA _ _ _ (d j u hj)).2.1) hl
  rw[<-hv] at c;exact EJ.value (KG v c) (hr.put λ_ _=>f)
 .rename_i id off;obtain⟨b,hb,hv⟩:=hv;split at hl
  .rename_i cs hcs;obtain⟨us,e,fr,g,pf,d,i⟩:=hr.Db.cells id cs hcs b hb;obtain⟨v,c,f⟩:=GK (w:=w) (b:=b) (o:=off) ht (d.drop off) (λj u hj=>by
    rw[cell_of_row w _ _ us e fr g];rw[Cc,BV] at hj;split at hj;.simpa using hj
    .cases hj) (λu hu=>i u (A7 hu)) (MS hl)
   rw[<-hv] at c;exact EJ.value (KG v c) (hr.put λ_ _=>f)
  .cases hl
 .cases hl
end
end Go.Am
end
section
namespace Go.Am
open Go
section
variable{C:E7}{γ0 γ γ':Gh}{w0 w w':World}{β:Nat->Nat}{U:Bq}{h:Ag}{a:Act}{fid:FuncId}{ops:List Oper}
def DM{b:Nat}{t:TypeId}{fr:Nat×Nat}:∀(vs:List Value) (o:Nat) (cur:Array Value) (w:World),w.heap[b]?=some (.cells cur t fr)->o+vs.length<=cur.size->
  w.setCells b o vs=w.setRow b (cur.toList.take o++vs++cur.toList.drop (o+vs.length)).toArray
 |[],o,cur,w,hg,_=>by simp only[World.setCells,BN,Bd,A9,BY,Array.toArray_toList];exact(setRow_self w b cur t fr hg).symm
 |v::r,o,cur,w,hg,hl=>by simp only[AH] at hl;rw[World.setCells,setCell_eq_setRow w b o cur t fr v hg,DM r (o+1) _ _ (setRow_heap w b cur _ t fr hg) D5,setRow_setRow];have e:=list_seg_step cur.toList o v r D5;simp only[Array.toList_setIfInBounds,AH];rw[e]
def Mt{t:TypeId}{n b o:Nat}(hn:BD C.P t=some n){u:Value}(hu:u.cells.size=n)(h1:∀x∈u.cells.toList,x.oneCell'=true){cur:Array Value}{e:TypeId}{fr:Nat×Nat}(hg:w.heap[b]?=some (.cells cur e fr))(fY:Qb fr cur.size)
  (hl:o+n<=cur.size):(Instr.storeAt t (.pointer (some ⟨b,o,none⟩)) u).run C.P w= .ok () (w.setRow b (cur.toList.take o++u.cells.toList++cur.toList.drop (o+n)).toArray):=by
 have hs:=run_storeCells_cells (P:=C.P) b o u.cells.toList 0 w (λj hj=>by
  rw[cell_of_row w _ _ cur e fr hg];simp at hj;rw[Cj Ab];rfl) (λj hj=>by
  simp at hj;simp only[World.frozen?,hg];rcases fY with rfl|fY
  .simp
  .simp;omega) h1
 rw[A9,DM _ o cur w hg D5] at hs;cases hq:C.P.info? t with
 |none=>simp[BD,hq] at hn
 |some i=>
  have hi:i.size=n:=by simpa[BD,hq] using hn
  simp only[BQ,hu] at hs;simp[Instr.storeAt,Instr.sureAddr,storeVar,sizeOf,typeInfo,hq,hi,hu,hs]
def SL{Z:Type}{cs vs:List Z}{off n o:Nat}(hl:off+n<=cs.length)(hv:vs.length=n)(ho:¬(off<=o/\o<off+n)):(cs.take off++vs++cs.drop (off+n))[o]?=cs[o]?:=by
 have e1:(cs.take off).length=off:=D5;by_cases h:o<off;.rw[Ai (by simp[hv];omega),Ai Ab,Ca h]
 .rw[BG (by simp[hv];omega),Cc];congr 1
  simp[hv];omega
def Vs{Z:Type}{cs:List Z}{off n:Nat}{x:Z}(hl:off+n<=cs.length):(cs.take off++[x]++cs.drop (off+n))[off]?=some x:=by have e1:(cs.take off).length=off:=D5;rw[Ai D5,BG Ab];simp[e1]
def KQ{Z:Type}{us vs:List Z}{off n len:Nat}(hl:len<=us.length)(ho:off+n<=len)(hv:vs.length=n):
  (us.take off++vs++us.drop (off+n)).take len=(us.take len).take off++vs++(us.take len).drop (off+n):=by
 have e1:(us.take off).length=off:=D5;have b:(us.take off++vs).length=off+n:=by simp[hv];omega
 rw[fK,AT Ab,b,FZ,Cg Ab,List.drop_take]
def L6{cs vs:List Aa}{us CS:List Value}{off n:Nat}(h:AK γ cs us)(h':AK γ vs CS):AK γ (cs.take off++vs++cs.drop (off+n)) (us.take off++CS++us.drop (off+n)):=
 ((h.take off).append h').append (h.drop (off+n))
def Hq.eo{B s d g:Nat}(hg:γ.Bn g=some (.ux s)){c:Option Nat}{v:Value}{u:Aa}(CS:Array Value)(ho:Hq γ B w d c v u):Hq γ B (w.setRow g CS) d c v u:=by
 rcases ho with ho|⟨g2,n,cap,us,e,z,An,h1,h2,b,j,i,f⟩
 .exact .inl ho
 .have hb:g2≠g:=λhe=>by subst he;rw[hg] at b;cases b
  exact .inr ⟨g2,n,cap,us,e,z,An,h1,h2,b,j,by rw[setRow_other w g g2 CS hb];exact i,f⟩
def SM(γ:Gh)(w:World)(g:Nat)(us:Array Value):Ny g γ w γ (w.setRow g us):=
 ⟨.refl _,λb x hb hx _=>⟨hx,setRow_other w g b us hb⟩⟩
def Ct.Yo(hr:Ct C γ0 w0 γ β U h a w){s ver E0 off n:Nat}{cs:List Aa}{ow:List Nat}(hs:U.at s= .box ver cs ow){vs:List Aa}{CS:List Value}(hv:AK γ vs CS)(h1:∀u∈CS,u.oneCell'=true)(hn:vs.length=n)
  (hl:off+n<=cs.length) {Bn:Bool} (hown:Bn=true->∃u x,CS=[u]/\vs=[x]/\Hq γ w0.heap.size w s (some off) u x) {us:Array Value} {e:TypeId} (hg:w.heap[β s]?=some (.cells us e (0,0))):
  Ct C γ0 w0 γ β (U.set s (.box E0 (Sy cs off n vs) (OV ow off n Bn))) h a (w.setRow (β s) (us.toList.take off++CS++us.toList.drop (off+n)).toArray):=by
 have h0:=hr.fr.GB s;rw[hs] at h0;obtain⟨r,c,k,oM,e0,j,i,f,q⟩:=h0;rw[hg] at j;cases j;have hlen:CS.length=n:=by rw[hv.length,hn]
 have oN:off+n<=us.toList.length:=by rw[i.length];exact hl
 have wX:s<U.length:=Bq.MO (by rw[hs];simp);refine⟨kR hr.Db c _,⟨by simp[hr.fr.size],λd=>?_⟩,hr.C2.write (g:=β s) k (.refl _) Au rfl rfl rfl (λb hb=>⟨setRow_other w _ b _ hb,rfl⟩),hr.defers,hr.Fl⟩;by_cases he:d=s
 .subst he;rw[Bq.Em wX];refine⟨r,c,k,_,e,setRow_heap w _ us _ e (0,0) hg,?_,?_,?_⟩;.simpa[Sy] using L6 (off:=off) (n:=n) i hv
  .intro u hu;simp only[AI,Al] at hu;rcases hu with hu|hu|hu
   .exact f u (AN hu)
   .exact h1 u hu
   .exact f u (A7 hu)
  .intro o ho;have Hn:(Bn=true/\o=off)\/(o∈ow/\¬(off<=o/\o<off+n)):=by
    unfold OV at ho;have hf:o∈ow.filter (λo=> !(decide (off<=o)&&decide (o<off+n)))->o∈ow/\¬(off<=o/\o<off+n):=λhm=>by rw[CH] at hm;refine⟨hm.1,λhc=>?_⟩;have:=hm.2;simp[hc.1,hc.2] at this
    cases Bn with
    |true=>
     simp only[BB,Az] at ho;rcases ho with ho|ho
     .exact .inl ⟨rfl,ho⟩
     .exact .inr (hf ho)
    |false=>exact .inr (hf ho)
   rcases Hn with⟨kh,rfl⟩|⟨kh,gB⟩
   .obtain⟨u,x,rfl,rfl,t⟩:=hown kh;exact⟨u,x,by simpa using Vs (x:=u) oN,by simpa[Sy] using Vs (x:=x) hl,t.eo c _⟩
   .obtain⟨u,x,p,m,l⟩:=q o kh;refine⟨u,x,?_,?_,l.eo c _⟩;.rw[<-p];have:=SL oN hlen gB;simpa using this
    .rw[<-m];exact SL hl hn gB
 .rw[Bq.EN (λx=>he x.symm)];exact(hr.fr.GB d).keptBut c (SM γ w _ _) (by simp only[IH.aF];intro hx;cases hx;exact he rfl)
def MT(hr:Ct C γ0 w0 γ β U h a w){y:Operand}{v:Aa}(hy:Jb C U y=true)(hv:DX C U y=some v)(s':Nat)(c':Option Nat):
  ∃γ',γ.le γ'/\Ct C γ0 w0 γ' β (U.CU (CA U y)) h a w/\Bp γ' v (a.eval y)/\Hq γ' w0.heap.size w s' c' (a.eval y) v:=by
 unfold Jb at hy;cases hs:Dg C U y with
 |none=>rw[hs] at hy;cases hy
 |some sl=>
  rw[hs] at hy;cases sl with
  |Bn u=>
   have ſ:u=v:=by unfold DX at hv;rw[hs] at hv;exact Da hv
   subst ſ;cases y with
   |tmp t=>have ht:U.at t= .Bn u:=FA hs;obtain⟨γ',DG,FH,h1,h2⟩:=hr.take ht s' c';exact⟨γ',DG,by simpa[CA,ht,Bq.CU] using FH,h1,h2⟩
   |const c=>
    refine⟨γ,.refl _,hr,Fh hr hv,?_⟩;obtain⟨q,_⟩:=O3 (γ:=γ) (β:=β) (w:=w) hs;unfold Dg at hs;split at hs;.rename_i e;cases e
    .cases hs
    .cases hs;exact .inl (.inl rfl)
    .rename_i Hy;cases Hy;cases hc:I4 c with
     |none=>rw[hc] at hs;cases hs
     |some _=>rw[hc] at hs;cases hs
    .rename_i e;cases e
    .cases hs
   |global g=>have XV:(C.Fl g).map (λcs=>Dw.val (Aa.Cb cs))=some (.Bn u):=hs;cases hc:C.Fl g<;>rw[hc] at XV<;>cases XV
   |func f=>cases hs
  |_=>cases hy
def aX{B s:Nat}{c:Option Nat}{v:Value}{x:Aa}(h:Hq γ B w s c v x):x.cells=[x]:=by rcases h with(rfl|⟨_,rfl⟩)|⟨_,_,_,_,_,_,_,rfl,_⟩<;>rfl
def aY{o:Oper}{t:TypeId}{x y:Operand}{s off n ver:Nat}{v:Aa}{Bn:Bool}{c:Option (Nat×Aa)}{cells:List Aa}{owned:List Nat}{run:IT->Ag->Option IF}{g:Bq}{h':Ag}(ho:o.op= .store t x y)(hd:o.dst=none)
  (hc:HJ C U t x y=some (.Lb s off n v Bn c ver cells owned)) (EL:(DK.Lb s off n v Bn c ver cells owned).Lw C run U h g h') (hr:Ct C γ0 w0 γ β U h a w):EJ C γ0 w0 o a w g h':=by
 unfold HJ at hc;split at hc;.cases hc
 .rename_i m k s' p9 E0 Fx LV v' hsz Z3 ha hv;split at hc
  .rename_i hl;simp only[Bv,DK.Lb.injEq] at hc;obtain⟨rfl,rfl,rfl,rfl,hown,UB,rfl,rfl,rfl⟩:=hc;obtain⟨hn,rfl,rfl⟩:=EL;obtain⟨hs,hx⟩:=Jg hr ha;have gC:=Fh hr hv;obtain⟨_,_,us,e,hg,j,l,_⟩:=hr.Vr hs;have wX:p9+(m+1)<=us.size:=by have:=j.length;simp at this;omega
   obtain⟨f,d⟩:=FQ gC Ab;have aZ:(a.eval y).cells.size=m+1:=by have:=f.length;simp at this;omega
   have Hz:=Mt (C:=C) (b:=β s') (o:=p9) hsz aZ d hg (.inl rfl) wX;rw[<-hx] at Hz;have KG:(execOp a.eval o).run C.P w= .ok .skip (w.setRow (β s') (us.toList.take p9++(a.eval y).cells.toList++us.toList.drop (p9+(m+1))).toArray):=by simp[execOp,ho,Hz]
   by_cases hw:Bn=true
   .subst hw;rw[Ad hown] at UB;subst UB;simp only[Bi] at hown;obtain⟨i,DG,Ij,h1,h2⟩:=MT hr hown.2 hv s' (some p9);have vd:=aX h2;have KH:(U.CU (CA U y)).at s'= .box E0 Fx LV:=by
     cases y with
     |tmp t'=>
      simp only[CA];cases ht:U.at t' with
      |Bn u=>simp only[Bq.CU];rw[Bq.EN (λe=>by rw[e,hs] at ht;cases ht)];exact hs
      |_=>exact hs
     |_=>exact hs
    have JT:=Ij.Yo (E0:=E0+1) (Bn:=true) (n:=m+1) KH (AK.mono DG _ _ f) d hn hl (λ_=>?_) hg;.exact EJ.skip KG (by rw[hd];exact JT)
    .have hcl:(a.eval y).cells=#[a.eval y]:=by
      rcases h2 with(h2|⟨z,h2⟩)|⟨_,_,_,_,_,_,_,_,h2,_⟩
      .subst h2;rw[show a.eval y=_ from h1];rfl
      .subst h2;obtain⟨_,h1⟩:=h1;rw[h1];rfl
      .rw[h2];rfl
     exact⟨a.eval y,v',by rw[hcl],vd,h2⟩
   .have uw:Bn=false:=by simpa using hw
    subst uw;rw[Ac (by rw[hown];simp)] at UB;subst UB;exact EJ.skip KG (by rw[hd];exact hr.Yo (E0:=E0+1) (Bn:=false) hs f d hn hl (λe=>by cases e) hg)
  .cases hc
 .cases hc
def lD{o:Oper}{t:TypeId}{x y:Operand}{n:Nat}{p v:Aa}{h':Ag}(ho:o.op= .store t x y)(hd:o.dst=none)(hsz:BD C.P t=some (n+1))(hx:EX C U x=some (.ptr p))(hv:DX C U y=some v)(Hz:Cx h (n+1) p v=some h')(hr:Ct C γ0 w0 γ β U h a w):
  EJ C γ0 w0 o a w U h':=by
 have kj:=Ol hr hx;have gC:=Fh hr hv;unfold Cx at Hz;split at Hz
 .rename_i id off;obtain⟨b,hb,c⟩:=kj;split at Hz
  .rename_i cs hcs;split at Hz
   .rename_i hl;cases Hz;obtain⟨us,e,fr,hg,pf,i,g⟩:=hr.Db.cells id cs hcs b hb;obtain⟨f,d⟩:=FQ gC Ab;have aZ:(a.eval y).cells.size=n+1:=by have:=f.length;simp at this;omega
    have hlt:cs.length<=us.size:=by have:=i.length;simp at this;omega
    have wX:off+(n+1)<=us.size:=Ab;have Ay:=Mt (C:=C) (b:=b) (o:=off) hsz aZ d hg pf wX;rw[<-c] at Ay;obtain⟨hi,ha⟩:=Lu hr.Db hcs hb hg (us.toList.take off++(a.eval y).cells.toList++us.toList.drop (off+(n+1))).toArray (cs.take off++v.cells++cs.drop (off+(n+1)))
     (by simp only[Bl,Ao,Av,AW,BQ,aZ];omega)
     (by
      rcases pf with rfl|pf
      .exact .inl rfl
      .refine .inr (A5 (Kz ?_) pf);simp only[Bl,Ao,Av,AW,BQ,aZ];omega)
     (by
      have:=L6 (off:=off) (n:=n+1) i f;rw[<-KQ (by simpa using hlt) hl.2 (by simpa using aZ)] at this;have e1:(cs.take off++v.cells++cs.drop (off+(n+1))).length=cs.length:=by simp[hl.1];omega
      rw[e1];simpa using this) (λu hu=>by
      have e1:(cs.take off++v.cells++cs.drop (off+(n+1))).length=cs.length:=by simp[hl.1];omega
      rw[e1] at hu;simp only[I1] at hu;rw[KQ (by simpa using hlt) hl.2 (by simpa using aZ)] at hu;simp only[AI,Al] at hu;rcases hu with hu|hu|hu
      .exact g u (AN hu)
      .exact d u hu
      .exact g u (A7 hu))
    have KG:(execOp a.eval o).run C.P w= .ok .skip (w.setRow b (us.toList.take off++(a.eval y).cells.toList++us.toList.drop (off+(n+1))).toArray):=by simp[execOp,ho,Ay]
    exact EJ.skip KG (by rw[hd];exact hr.world hi ha)
   .cases Hz
  .cases Hz
 .cases Hz
def Ct.freeze(hr:Ct C γ0 w0 γ β U h a w){s ver:Nat}{cs:List Aa}{ow:List Nat}(hs:U.at s= .box ver cs ow):
  ∃γ',γ.le γ'/\Ct C γ0 w0 γ' β (U.set s (.val (.Cb cs))) h a w/\Bp γ' (.Cb cs) (a.tmps.getD s undef):=by
 have h0:=hr.fr.GB s;rw[hs] at h0;obtain⟨A,f,D,us,e,z,t,m,B⟩:=h0;have wX:s<U.length:=Bq.MO (by rw[hs];simp);have pR:∀o,γ.GA (β s) o=none:=λo=>by
  cases hc:γ.GA (β s) o with
  |none=>rfl
  |some u=>obtain⟨_,_,q⟩:=hr.Db.GA _ _ _ hc;rw[f] at q;rcases q with q|⟨_,_,_,q,_⟩<;>cases q
 have DG:γ.le (γ.CC (β s) us us.size none):=⟨λb o v hb=>by
  have:b≠β s:=λe=>by rw[e,pR] at hb;cases hb
  simp only[Gh.CC,Ac this];exact hb,λ_ _ hm=>hm,λ_ _ hm=>hm⟩
 have hne:∀b id,γ.Bn b=some (.Kd id)->b≠β s:=λb id hb e=>by rw[e,f] at hb;cases hb
 have hk:Ny (β s) γ w (γ.CC (β s) us us.size none) w:=⟨DG,λb x hb hx _=>⟨by simp only[Gh.CC,Ac hb];exact hx,rfl⟩⟩;have hv:Bp (γ.CC (β s) us us.size none) (.Cb cs) (a.tmps.getD s undef):=by
  refine⟨β s,0,A,Co.Fz λi x hi=>?_⟩;obtain⟨u,d,c⟩:=t.get hi;have hlt:i<us.size:=by have:=(Ae.1 d).1;simpa using this
  exact⟨u,by simp only[Gh.CC,BB,Bm,Ad hlt];simpa using d,Bp.mono DG _ _ c⟩
 have kq:∀b n,γ.sz b=some n->(∃us e fr,w.heap[b]?=some (.cells us e fr)/\us.size=n)/\((γ.CC (β s) us us.size none).Bn b=none\/∃id,(γ.CC (β s) us us.size none).Bn b=some (.Kd id)):=λb n hb=>by
  obtain⟨p,r⟩:=hr.Db.sz b n hb;by_cases he:b=β s;.subst he;exact⟨p,.inl (by simp[Gh.CC])⟩
  .exact⟨p,by simp only[Gh.CC,Ac he];exact r⟩
 refine⟨_,DG,⟨⟨λb o v hb=>?_,λid y Hm hy=>?_,λid Fx hc b hb=>?_,λid es hc b hb=>?_,hr.Db.mu,λb x hx=>?_,kq⟩,⟨by simp[hr.fr.size],λj=>?_⟩,?_,hr.defers,λx Fx hx=>Co.mono DG _ _ _ (hr.Fl x Fx hx)⟩,hv⟩
 .by_cases he:b=β s
  .subst he;simp only[Gh.CC,BB] at hb⊢;split at hb;.exact⟨by rw[cell_of_row _ _ _ us e (0,0) z];exact hb,m v (by rw[As] at hb;obtain⟨p,q⟩:=hb;rw[<-q];exact Array.getElem_mem_toList p),.inl Au⟩
   .cases hb
  .simp only[Gh.CC,Ac he] at hb⊢;exact hr.Db.GA b o v hb
 .obtain⟨b,d,c⟩:=hr.Db.Kd id y Hm hy;exact⟨b,d,by simp only[Gh.CC,Ac (hne b id c)];exact c⟩
 .obtain⟨CS,g,kQ,d,k,c,l⟩:=hr.Db.cells id Fx hc b hb;exact⟨CS,g,kQ,d,k,AK.mono DG _ _ c,l⟩
 .obtain⟨CS,g,d,c⟩:=hr.Db.map id es hc b hb;exact⟨CS,g,d,c.mono DG⟩
 .by_cases he:b=β s;.subst he;exact hr.Db.Bn _ _ f
  .simp only[Gh.CC,Ac he] at hx;exact hr.Db.Bn b x hx
 .by_cases he:j=s;.subst he;rw[Bq.Em wX];exact hv
  .rw[Bq.EN (λx=>he x.symm)];exact(hr.fr.GB j).keptBut f hk (by simp only[IH.aF];intro hx;cases hx;exact he rfl)
 .refine⟨hr.C2.le.trans DG,hr.C2.size,hr.C2.os,hr.C2.tape,hr.C2.output,λb hb hn=>?_⟩;obtain⟨d,c⟩:=hr.C2.KF b hb hn;exact⟨d,by simp only[Gh.CC,Ac (Ab:b≠β s)];exact c⟩
def Ct.Qf:∀{fz:List (Nat×List Aa)} {γ:Gh} {U:Bq},Ct C γ0 w0 γ β U h a w->(∀p∈fz,∃ver ow,U.at p.1= .box ver p.2 ow)->(fz.map (·.1)).Nodup->
  ∃γ',γ.le γ'/\Ct C γ0 w0 γ' β (U.Dr (fz.map λ(s,cs)=>(s,.val (.Cb cs)))) h a w/\∀p∈fz,Bp γ' (.Cb p.2) (a.tmps.getD p.1 undef)
 |[],γ,U,hr,_,_=>⟨γ,.refl _,hr,Au⟩
 |(s,cs)::fz,γ,U,hr,hb,hn=>by
  simp only[AZ,By] at hn;obtain⟨ver,ow,hs⟩:=hb (s,cs) Au;obtain⟨c,aAa,Ij,oO⟩:=hr.freeze hs;obtain⟨b,Yp,JT,SN⟩:=Qf (fz:=fz) Ij (λp hp=>by obtain⟨E0,LV,uy⟩:=hb p (by simp[hp]);refine⟨E0,LV,?_⟩;rw[Bq.EN (λe=>hn.1 (by rw[show s=p.1 from e];exact AR.2 ⟨p,hp,rfl⟩))];exact uy) hn.2
  refine⟨b,aAa.trans Yp,JT,λp hp=>?_⟩;rcases Az.1 hp with rfl|hp
  .exact Bp.mono Yp _ _ oO
  .exact SN p hp
def Lh:∀{xs:List Operand} {vs:List Aa} {fz:List (Nat×List Aa)},EY C U xs=some (vs,fz)->
  (∀p∈fz,∃ver ow,U.at p.1= .box ver p.2 ow)/\(fz.map (·.1)).Nodup/\
  ∀γ',(∀x u,DX C U x=some u->Bp γ' u (a.eval x))->(∀p∈fz,Bp γ' (.Cb p.2) (a.tmps.getD p.1 undef))->AK γ' vs (xs.map a.eval)
 |[],vs,fz,hc=>by cases hc;exact⟨Au,Au,λ_ _ _=>rfl⟩
 |x::xs,vs,fz,hc=>by
  unfold EY at hc;split at hc;.cases hc
  .rename_i Gu f d;obtain⟨h1,h2,e⟩:=Lh d;split at hc
   .rename_i s ver cs ow hs;split at hc;.cases hc
    .rename_i hn;cases hc;have hsb:U.at s= .box ver cs ow:=FA hs;refine⟨λp hp=>?_,?_,λγ' c b=>?_⟩
     .rcases Az.1 hp with rfl|hp
      .exact⟨ver,ow,hsb⟩
      .exact h1 p hp
     .simp only[AZ,By];exact⟨by simpa using hn,h2⟩
     .exact⟨_,_,rfl,b (s,cs) Au,e γ' c λp hp=>b p (by simp[hp])⟩
   .rename_i sl _ hs;cases hv:sl.FM with
    |none=>rw[hv] at hc;cases hc
    |some u=>rw[hv] at hc;cases hc;exact⟨h1,h2,λγ' c b=>⟨_,_,rfl,c _ u (by unfold DX;rw[hs];exact hv),e γ' c b⟩⟩
   .cases hc
def Yq{o:Oper}{fn:Fn}{first captured:Array Operand}{d:Nat}{as bs:List Aa}{fz:List (Nat×List Aa)}(ho:o.op= .makeFunc fn first captured)(hd:o.dst=some d)(ha:A0 C U first.toList=some as)(hb:EY C U captured.toList=some (bs,fz))(hr:Ct C γ0 w0 γ β U h a w):
  EJ C γ0 w0 o a w (((U.drop (fz.map (·.1))).Dr (fz.map λ(s,cs)=>(s,.val (.Cb cs)))).set d (.val (.func fn as bs))) h:=by
 obtain⟨h1,h2,b⟩:=Lh (a:=a) hb;obtain⟨γ',DG,FH,hv⟩:=(hr.drop (fz.map (·.1))).Qf (fz:=fz) (λp hp=>by obtain⟨ver,ow,hs⟩:=h1 p hp;exact⟨ver,ow,by rw[Bq.O7,hs]⟩) h2
 refine EJ.value (w':=w) (v:= .func fn (first.map a.eval) (captured.map a.eval)) (by simp[execOp,ho,Instr.makeFunc]) (by rw[hd];exact FH.put (d:=some d) λ_ _=>⟨_,_,rfl,by simpa using AK.mono DG _ _ (C4 hr ha),by simpa using b γ' (λx u hx=>Bp.mono DG _ _ (Fh hr hx)) hv⟩)
end
end Go.Am
end
