/- Lemmas -/
import Derived.Test.YtgmhlaiafgkmeaaGreatDoorN3
import Derived.Laws.IdiomCopy
set_option linter.all false
section
namespace Go.Am
open Go
def ZC(β:Nat->Nat)(d b:Nat):Nat->Nat:=λs=>if s=d then b else β s
def EL.Ps:EL->Option Nat
 | .FV _=>none
 | .fJ s=>some s
 | .tail s _ _=>some s
structure H5(g:Nat)(γ:Gh)(w:World)(γ':Gh)(w':World):Prop where
 le:γ.le γ'
 GS:∀b x,b≠g->γ.A5 b=some x->x.Ts=false->γ'.A5 b=some x/\w'.heap[b]?=w.heap[b]?
section
variable{C:CB}{γ0 γ γ':Gh}{w0 w w':World}{β:Nat->Nat}{U:Av}{h:Ab}{a:Act}{fid:FuncId}{ops:List Oper}
def Av.Lb(U:Av)(ds:List Nat)(s:Nat):(U.drop ds).at s=match U.at s with| .Cc t o=>if ds.contains t then .undef else .Cc t o|x=>x:=by
 cases ds with
 |nil=>simp only[Av.drop,List.contains_nil];cases U.at s<;>simp
 |cons d ds=>
  simp only[Av.drop,Av.at,List.getD,Cp];cases hg:U[s]? with
  |none=>rfl
  |some x=>cases x<;>rfl
def Av.length_drop(U:Av)(ds:List Nat):(U.drop ds).length=U.length:=by cases ds<;>simp[Av.drop]
def Fg.rT{B s d b:Nat}{x:BQ}{v:Value}(hx:Fg γ β B w s x v)(hn:∀o,x≠ .Cc d o)(hs:s≠d):Fg γ (ZC β d b) B w s x v:=by
 cases x with
 |box ver cs ow=>simpa only[Fg,ZC,if_neg hs] using hx
 |Cc t o=>have:t≠d:=λe=>hn o (by rw[e]);simpa only[Fg,ZC,if_neg this] using hx
 |_=>exact hx
def D2.keptBut{g B s:Nat}{x0:EL}(hg:γ.A5 g=some x0)(k:H5 g γ w γ' w')(hne:x0.Ps≠some s){c:Option Nat}{v:Value}{u:Aa}(ho:D2 γ B w s c v u):D2 γ' B w' s c v u:=by
 rcases ho with ho|⟨g2,n,cap,us,e,z,Ac,h1,h2,h3,h4,h5,h6⟩
 .exact .inl ho
 .have hb:g2≠g:=λhe=>by subst he;rw[hg] at h3;cases h3;exact hne rfl
  obtain⟨k1,k2⟩:=k.GS g2 _ hb h3 rfl;exact .inr ⟨g2,n,cap,us,e,z,Ac,h1,h2,k1,h4,by rw[k2];exact h5,h6⟩
def Fg.keptBut{g B s:Nat}{x0:EL}(hg:γ.A5 g=some x0)(k:H5 g γ w γ' w')(hne:x0.Ps≠some s){x:BQ}{v:Value}(hx:Fg γ β B w s x v):Fg γ' β B w' s x v:=by
 cases x with
 |undef=>trivial
 |skip=>exact hx
 |val u=>exact Au.mono k.le u v hx
 |Hm b=>exact hx
 |A5 u=>exact⟨Au.mono k.le u v hx.1,hx.2.keptBut hg k hne⟩
 |box ver cs ow=>
  obtain⟨p1,p2,p3,us,e,p4,p5,p6,p7⟩:=hx;have hb:β s≠g:=λhe=>by rw[he,hg] at p2;cases p2;exact hne rfl
  obtain⟨k1,k2⟩:=k.GS _ _ hb p2 rfl;exact⟨p1,k1,p3,us,e,by rw[k2];exact p4,Ai.mono k.le cs _ p5,p6,λo ho=>let⟨u,v,q1,q2,q3⟩:=p7 o ho;⟨u,v,q1,q2,q3.keptBut hg k hne⟩⟩
 |Cc s' o=>exact hx
def Bk.TD(hr:Bk C γ0 w0 γ β U h a w)(d:Nat)(us:Array Value)(e:TypeId)(cells:List Aa)(ow:List Nat)(hc:Ai γ cells us.toList)(h1:∀u∈us.toList,u.oneCell'=true)
  (how:∀o∈ow,cells[o]?=some .slnil):
  ∃γ' β',Bk C γ0 w0 γ' β' ((U.drop [d]).set d (.box 0 cells ow)) h (a.put (some d) (.pointer (some ⟨w.heap.size,0,none⟩))) (w.alloc (.cells us e)):=by
 obtain⟨hi,ha⟩:=Ht hr.BI us e (0,0) 0 (some (.fJ d)) (λ_ _ ho=>absurd ho (Nat.not_lt_zero _)) (.inr (.inr ⟨rfl,by simp⟩));have EH:=(hr.drop [d]).DX hi ha;refine⟨_,ZC β d w.heap.size,EH.BI,⟨by simp[Act.put,EH.fr.size],λs=>?_⟩,EH.BE,EH.defers,EH.C8⟩;have hs:=EH.fr.DG s;by_cases he:s=d
 .subst he;by_cases hl:s<(U.drop [s]).length
  .have gP:s<a.tmps.size:=by rw[<-EH.fr.size];exact hl
   rw[Av.Cn hl];have e1:(a.put (some s) (.pointer (some ⟨w.heap.size,0,none⟩))).tmps.getD s undef= .pointer (some ⟨w.heap.size,0,none⟩):=by simp[Act.put,Array.getD,gP]
   rw[e1];refine⟨by simp[ZC],by simp[ZC,Gh.Br],?_,us,e,?_,Ai.mono ha.le _ _ hc,h1,λo ho=>?_⟩;.simp only[ZC,Bc];exact hr.BE.size
   .simp only[ZC,Bc];exact heap_alloc_new w _
   .have wD:=how o ho;obtain⟨u,q1,q2⟩:=hc.get wD;exact⟨u,.slnil,by simpa using q1,wD,.inl (.inl rfl)⟩
  .have:Av.at ((U.drop [s]).set s (.box 0 cells ow)) s= .undef:=by simp[Av.at,List.getD];rw[Dj (by simpa using hl)];rfl
   rw[this];trivial
 .rw[Av.CC (λe=>he e.symm)];have e2:(a.put (some d) (.pointer (some ⟨w.heap.size,0,none⟩))).tmps.getD s undef=a.tmps.getD s undef:=by simp[Act.put,C6,Pn (λe=>he e.symm)]
  rw[e2];refine hs.rT (λo ho=>?_) he;rw[Av.Lb] at ho;cases hx:U.at s with
  |Cc t o'=>
   rw[hx] at ho;simp only at ho;split at ho;.cases ho
   .rename_i hc;cases ho;exact hc (by simp)
  |_=>rw[hx] at ho;cases ho
def Dx{P:Program}{t:TypeId}{z:Aa}(hz:C1 P t=some z):∃v,EX v=some z/\∀w,(zeroValue t).run P w= .ok v w:=by
 unfold C1 at hz;cases hi:P.info? t with
 |none=>rw[hi] at hz;cases hz
 |some i=>
  rw[hi] at hz;cases hv:i.zero with
  |none=>simp[hv] at hz
  |some v=>simp only[Bx,hv] at hz;exact⟨v,hz,λw=>by simp[zeroValue,typeInfo,hi,hv]⟩
def PI{cs:List Aa}{o:Nat}(h:o∈Lo cs):cs[o]?=some .slnil:=by
 simp only[Lo,ke,List.mem_range] at h;obtain⟨h1,h2⟩:=h;simp only[List.getD,Ax h1,Qx] at h2;rw[Ax h1];split at h2;.rename_i he;rw[he]
 .cases h2
def Cx(C:CB)(γ0:Gh)(w0:World)(o:Oper)(a:Act)(w:World)(U':Av)(h':Ab):Prop:=
 ∃γ' β' w',(∃v,(execOp a.eval o).run C.P w= .ok (.value v) w'/\Bk C γ0 w0 γ' β' U' h' (a.put o.dst v) w')\/((execOp a.eval o).run C.P w= .ok .skip w'/\Bk C γ0 w0 γ' β' U' h' (a.put o.dst undef) w')
def Cx.value{o:Oper}{U':Av}{h':Ab}{β':Nat->Nat}{v:Value}(he:(execOp a.eval o).run C.P w= .ok (.value v) w')(hr:Bk C γ0 w0 γ' β' U' h' (a.put o.dst v) w'):Cx C γ0 w0 o a w U' h':=⟨γ',β',w',.inl ⟨v,he,hr⟩⟩
def Cx.skip{o:Oper}{U':Av}{h':Ab}{β':Nat->Nat}(he:(execOp a.eval o).run C.P w= .ok .skip w')(hr:Bk C γ0 w0 γ' β' U' h' (a.put o.dst undef) w'):Cx C γ0 w0 o a w U' h':=⟨γ',β',w',.inr ⟨he,hr⟩⟩
def LD{o:Oper}{t:TypeId}{d:Nat}{z:Aa}(ho:o.op= .alloc t)(hd:o.dst=some d)(hz:C1 C.P t=some z)(hn:z.cells≠[])(hr:Bk C γ0 w0 γ β U h a w):
  Cx C γ0 w0 o a w ((U.drop [d]).set d (.box 0 z.cells (Lo z.cells))) h:=by
 obtain⟨v,hv,Ad⟩:=Dx hz;obtain⟨q1,q2⟩:=Dd (γ:=γ) (Cm hv) (rG.2 hn);obtain⟨γ',β',DC⟩:=hr.TD d v.cells t z.cells (Lo z.cells) q1 q2 (λo=>PI);refine Cx.value (v:= .pointer (some ⟨w.heap.size,0,none⟩)) ?_ (by rw[hd];exact DC);simp[execOp,ho,Instr.alloc,Ad,newVar,newRow]
def Nx{o:Oper}{t:TypeId}{x:Operand}{d n:Nat}{v:Aa}(ho:o.op= .box t x)(hd:o.dst=some d)(hx:B2 C U x=some v)(hv:v.cells.length=n)(hn:n≠0)(hr:Bk C γ0 w0 γ β U h a w):
  Cx C γ0 w0 o a w ((U.drop [d]).set d (.box 0 v.cells [])) h:=by
 obtain⟨q1,q2⟩:=Dd (CQ hr hx) (by omega);obtain⟨γ',β',DC⟩:=hr.TD d (a.eval x).cells t v.cells [] q1 q2 (by simp);refine Cx.value (v:= .pointer (some ⟨w.heap.size,0,none⟩)) ?_ (by rw[hd];exact DC);simp[execOp,ho,Instr.box,newVar,newRow]
def Bk.newObj(hr:Bk C γ0 w0 γ β U h a w)(us:Array Value)(e:TypeId)(fr:Nat×Nat)(cells:List Aa)(QT:J2 fr us.size)(hc:Ai γ cells (us.toList.take cells.length))(h1:∀u∈us.toList.take cells.length,u.oneCell'=true):
  ∃γ',γ.le γ'/\γ'.mu h.length=some w.heap.size/\Bk C γ0 w0 γ' β U (h++[.cells cells]) a (w.alloc (.cells us e fr))/\γ'.sz w.heap.size=some us.size:=by
 obtain⟨hi,ha⟩:=GV hr.BI (.cells us e fr) (.cells cells) (some us.size) (.inl ⟨cells,us,e,fr,rfl,rfl,QT,hc,h1,rfl⟩);exact⟨_,ha.le,by simp[Gh.AJ],hr.DX hi ha,by simp[Gh.AJ]⟩
def LF{o:Oper}{t:TypeId}{z:Aa}{d:Option Nat}(ho:o.op= .alloc t)(hd:o.dst=d)(hz:C1 C.P t=some z)(hn:z.cells.length≠0)(hr:Bk C γ0 w0 γ β U h a w):
  Cx C γ0 w0 o a w (U.put d (.val (.ptr (some (h.length,0))))) (h++[.cells z.cells]):=by
 obtain⟨v,hv,Ad⟩:=Dx hz;obtain⟨q1,q2⟩:=Dd (γ:=γ) (Cm hv) (by omega);obtain⟨γ',Cd,hm,DC,_⟩:=hr.newObj v.cells t (0,0) z.cells (.inl rfl) (by rw[AS (by rw[q1.length];exact Ap _)];exact q1) (λu hu=>q2 u (AQ hu));refine Cx.value (v:= .pointer (some ⟨w.heap.size,0,none⟩)) ?_ (by rw[hd];exact DC.put λs _=>⟨_,hm,rfl⟩);simp[execOp,ho,Instr.alloc,Ad,newVar,newRow]
def Ny{o:Oper}{t:TypeId}{x:Operand}{d:Option Nat}{v:Aa}(ho:o.op= .box t x)(hd:o.dst=d)(hx:B2 C U x=some v)(hn:v.cells.length≠0)(hr:Bk C γ0 w0 γ β U h a w):
  Cx C γ0 w0 o a w (U.put d (.val (.ptr (some (h.length,0))))) (h++[.cells v.cells]):=by
 obtain⟨q1,q2⟩:=Dd (CQ hr hx) (by omega);obtain⟨γ',Cd,hm,DC,_⟩:=hr.newObj (a.eval x).cells t (0,0) v.cells (.inl rfl) (by rw[AS (by rw[q1.length];exact Ap _)];exact q1) (λu hu=>q2 u (AQ hu));refine Cx.value (v:= .pointer (some ⟨w.heap.size,0,none⟩)) ?_ (by rw[hd];exact DC.put λs _=>⟨_,hm,rfl⟩);simp[execOp,ho,Instr.box,newVar,newRow]
def E9(hr:Bk C γ0 w0 γ β U h a w){x:Operand}{s o ver:Nat}{cs:List Aa}{ow:List Nat}(hx:CF C U x=some (.Hq s o ver cs ow)):
  U.at s= .box ver cs ow/\a.eval x= .pointer (some ⟨β s,o,none⟩):=by
 unfold CF at hx;split at hx;.rename_i s' CH Dz GJ hs;cases hx;have h0:=Jm hr s;rw[C4 hs] at h0;exact⟨C4 hs,h0.1⟩
 .rename_i s' o' _ hs;split at hx;.rename_i hb;cases hx;obtain⟨t,h1,_⟩:=CJ hr hs;exact⟨hb,h1⟩
  .cases hx
 .rename_i sl _ _ hs;cases hv:sl.Da with
  |none=>rw[hv] at hx;cases hx
  |some u=>rw[hv] at hx;cases hx
 .cases hx
def II(hr:Bk C γ0 w0 γ β U h a w){x:Operand}{p:Aa}(hx:CF C U x=some (.ptr p)):Au γ p (a.eval x):=by
 unfold CF at hx;split at hx;.cases hx
 .split at hx<;>cases hx
 .rename_i sl _ _ hs;cases hv:sl.Da with
  |none=>rw[hv] at hx;cases hx
  |some u=>rw[hv] at hx;cases hx;obtain⟨t,h1,_⟩:=CJ hr hs;exact Gv h1 hv
 .cases hx
def DM{t:TypeId}{n:Option Nat}(ht:Cg C.P t=some n){cs:List Aa}{us:List Value}{b o:Nat}(hv:Ai γ cs us)(hc:∀(j:Nat) (u:Value),us[j]?=some u->w.cell? ⟨b,o+j,none⟩=some u)(h1:∀u∈us,u.oneCell'=true)
  {r:Aa} (hp:Cj cs 0 n=some r):∃v,(Instr.loadAt t (.pointer (some ⟨b,o,none⟩))).run C.P w= .ok v w/\Au γ r v:=by
 unfold Cg at ht;have Hz:∀j,(⟨b,o,none⟩:Addr).add j=⟨b,o+j,none⟩:=λj=>by unfold Addr.add;split<;>simp_all
 have agg:∀d,C.P.underlying t=some d->(match d with| .struct _| .array _ _=>true|_=>false)=true->(Az C.P t).map some=some n->
   ∃v,(Instr.loadAt t (.pointer (some ⟨b,o,none⟩))).run C.P w= .ok v w/\Au γ r v:=by
  intro d hd hb hn;cases hs:Az C.P t with
  |none=>rw[hs] at hn;cases hn
  |some k=>
   rw[hs] at hn;cases hn;simp only[Cj] at hp;split at hp
   .rename_i hk;cases hp;have hl:=run_loadCells_list (P:=C.P) w ⟨b,o,none⟩ (us.take k) (λj v hj=>by
     rw[Hz];refine hc j v ?_;rw[A0] at hj;split at hj;.exact hj
     .cases hj)
    have hlen:(us.take k).length=k:=by simp[hv.length];omega
    rw[hlen] at hl;refine⟨.agg (us.take k).toArray,?_,_,rfl,?_,λu hu=>h1 u (AQ (by simpa using hu))⟩
    .have PJ:(isAgg t).run C.P w= .ok true w:=by unfold isAgg;rw[Sem.run_bind,run_underlying hd w];cases d<;>simp_all
     cases hq:C.P.info? t with
     |none=>simp[Az,hq] at hs
     |some i=>
      have hi:i.size=k:=by simpa[Az,hq] using hs
      simp[Instr.loadAt,Instr.sureAddr,loadVar,PJ,sizeOf,typeInfo,hq,hi,hl]
    .simpa using hv.take k
   .cases hp
 split at ht;.rename_i fs hd;exact agg _ hd rfl ht
 .rename_i l e hd;exact agg _ hd rfl ht
 .rename_i d qO qP hd;cases ht;simp only[Cj] at hp;obtain⟨u,hu,hr⟩:=hv.get hp;refine⟨u,?_,hr⟩;have PJ:(isAgg t).run C.P w= .ok false w:=by unfold isAgg;rw[Sem.run_bind,run_underlying hd w];cases d<;>simp_all
  have EM:=hc 0 u hu;simp only[CE] at EM;simp[Instr.loadAt,Instr.sureAddr,loadVar,PJ,EM]
 .cases ht
def HA{cs:List Aa}{off:Nat}{n:Option Nat}{r:Aa}(h:Cj cs off n=some r):Cj (cs.drop off) 0 n=some r:=by
 cases n with
 |none=>simp only[Cj] at h⊢;rw[Bg];simpa using h
 |some n=>
  simp only[Cj] at h⊢;split at h;.cases h;rw[if_pos (by simp;omega)];simp
  .cases h
def Bk.MS(hr:Bk C γ0 w0 γ β U h a w){s ver:Nat}{cs:List Aa}{ow:List Nat}(hs:U.at s= .box ver cs ow):
  γ.A5 (β s)=some (.fJ s)/\w0.heap.size<=β s/\∃us e,w.heap[β s]?=some (.cells us e (0,0))/\Ai γ cs us.toList/\(∀u∈us.toList,u.oneCell'=true)/\
   ∀o∈ow,∃u x,us[o]?=some u/\cs[o]?=some x/\D2 γ w0.heap.size w s (some o) u x:=by
 have h0:=hr.fr.DG s;rw[hs] at h0;exact⟨h0.2.1,h0.2.2.1,h0.2.2.2⟩
def EY(hr:Bk C γ0 w0 γ β U h a w){t:TypeId}{n:Option Nat}(ht:Cg C.P t=some n){s ver off:Nat}{cs:List Aa}{ow:List Nat}(hs:U.at s= .box ver cs ow){r:Aa}(hp:Cj cs off n=some r):
  ∃v,(Instr.loadAt t (.pointer (some ⟨β s,off,none⟩))).run C.P w= .ok v w/\Au γ r v/\(n=none->∀us e,w.heap[β s]?=some (.cells us e (0,0))->us[off]?=some v):=by
 obtain⟨_,_,us,e,h1,h2,h3,_⟩:=hr.MS hs;obtain⟨v,q1,q2⟩:=DM (w:=w) (b:=β s) (o:=off) ht (h2.drop off) (λj u hj=>by rw[cell_of_row w _ _ us e (0,0) h1];rw[Bg] at hj;simpa using hj) (λu hu=>h3 u (Bu hu)) (HA hp)
 refine⟨v,q1,q2,λhn By e' ZA=>?_⟩;subst hn;rw[h1] at ZA;cases ZA;simp only[Cj] at hp;obtain⟨u,hu,_⟩:=h2.get hp;have EM:w.cell? ⟨β s,off,none⟩=some u:=by rw[cell_of_row w _ _ us e (0,0) h1];simpa using hu
 have PJ:∃d,C.P.underlying t=some d/\(isAgg t).run C.P w= .ok false w:=by
  unfold Cg at ht;split at ht;.cases hz:Az C.P t<;>rw[hz] at ht<;>cases ht
  .cases hz:Az C.P t<;>rw[hz] at ht<;>cases ht
  .rename_i d qO qP hd;refine⟨d,hd,?_⟩;unfold isAgg;rw[Sem.run_bind,run_underlying hd w];cases d<;>simp_all
  .cases ht
 obtain⟨d,hd,PJ⟩:=PJ;have:(Instr.loadAt t (.pointer (some ⟨β s,off,none⟩))).run C.P w= .ok u w:=by simp[Instr.loadAt,Instr.sureAddr,loadVar,PJ,EM]
 rw[q1] at this;cases this;simpa using hu
def Bk.VC(hr:Bk C γ0 w0 γ β U h a w){s ver off:Nat}{cs:List Aa}{ow:List Nat}(hs:U.at s= .box ver cs ow)(ho:off∈ow)(qQ:off∉ow.erase off)(s':Nat)(c':Option Nat){u:Value}{v:Aa}(hv:cs[off]?=some v)
  (hu:∀us e,w.heap[β s]?=some (.cells us e (0,0))->us[off]?=some u):
  ∃γ',γ.le γ'/\Bk C γ0 w0 γ' β (U.set s (.box (ver+1) cs (ow.erase off))) h a w/\D2 γ' w0.heap.size w s' c' u v:=by
 have h0:=hr.fr.DG s;rw[hs] at h0;obtain⟨h1,h2,h3,us,e,h4,h5,h6,h7⟩:=h0;obtain⟨u',v',q1,q2,q3⟩:=h7 off ho;rw[hv] at q2;cases q2;rw[hu us e h4] at q1;cases q1;have EH:Bk C γ0 w0 γ β (U.set s (.box (ver+1) cs (ow.erase off))) h a w:=hr.Od ⟨h1,h2,h3,us,e,h4,h5,h6,λo' Vn=>h7 o' (List.mem_of_mem_erase Vn)⟩;have hl:s<U.length:=Av.Hu (by rw[hs];simp);rcases q3 with q3|⟨g,n,cap,Pv,e2,z,Ac,p1,p2,p3,p4,p5⟩
 .exact⟨γ,.refl _,EH,.inl q3⟩
 .refine⟨γ.Cv g (.tail s' c' (n*z)),Dc _ _ _,EH.Cv p3 p4 (λhn=>by cases hn) (λo' Vn CH Dz GJ hb=>?_),.inr ⟨g,n,cap,Pv,e2,z,Ac,p1,p2,by simp[Gh.Cv],p4,p5⟩⟩;rw[Av.Cn hl] at hb;cases hb;cases Vn;exact qQ
def Mv{o:Oper}{t:TypeId}{x:Operand}{d:Nat}{take:Bool}{r:BV}{run:IT->Ab->Option Ep}{U':Av}{h':Ab}(ho:o.op= .load t x)(hd:o.dst=some d)(hc:Ff C U t x d take=some r)(hp:∃ws,r= .pure ws)
  (CA:r.Gu C run (U.drop r.news) h U' h') (hr:Bk C γ0 w0 γ β U h a w):Cx C γ0 w0 o a w U' h':=by
 have FY:∀v,(Instr.loadAt t (a.eval x)).run C.P w= .ok v w->(execOp a.eval o).run C.P w= .ok (.value v) w:=λv hv=>by simp[execOp,ho,hv]
 unfold Ff at hc;split at hc;.cases hc;obtain⟨_,e⟩:=hp;cases e
 .rename_i s off ver cs ow ht ha;obtain⟨hs,hx⟩:=E9 hr ha;split at hc
  .rename_i hlt;have Nz:cs[off]?=some (cs.getD off .nilIface):=by simp[List.getD,Ax hlt]
   obtain⟨v,q1,q2,q3⟩:=EY hr ht hs (r:=cs.getD off .nilIface) (off:=off) (by simpa[Cj] using Nz);rw[<-hx] at q1;simp only at hc;split at hc
   .rename_i Du;cases hc;rw[GW (by simp)] at CA;obtain⟨rfl,rfl⟩:=CA;simp only[Ao,gD] at Du;obtain⟨⟨c1,c2⟩,_⟩:=Du;have c2:off∉ow.erase off:=by simpa using c2
    obtain⟨γ',Cd,DC,Ct⟩:=hr.VC hs c1 c2 d none Nz (q3 rfl);exact Cx.value (FY v q1) (by rw[hd];exact DC.put (d:=some d) λs' Oe=>by cases Oe;exact⟨Au.mono Cd _ _ q2,Ct⟩)
   .cases hc;rw[GW (by simp)] at CA;obtain⟨rfl,rfl⟩:=CA;exact Cx.value (FY v q1) (by rw[hd];exact hr.put (d:=some d) λ_ _=>q2)
  .cases hc
 .rename_i n s off ver cs ow ht ha;obtain⟨hs,hx⟩:=E9 hr ha;split at hc;.rename_i Cd;cases hc;rw[GW (by simp)] at CA;obtain⟨rfl,rfl⟩:=CA;obtain⟨v,q1,q2,_⟩:=EY hr ht hs (r:= .agg ((cs.drop off).take n)) (off:=off) (by simp[Cj,Cd]);rw[<-hx] at q1;exact Cx.value (FY v q1) (by rw[hd];exact hr.put (d:=some d) λ_ _=>q2)
  .cases hc
 .cases hc
def TE{o:Oper}{t:TypeId}{x:Operand}{n:Option Nat}{p r:Aa}(ho:o.op= .load t x)(ht:Cg C.P t=some n)(hx:CF C U x=some (.ptr p))(hl:Ck h n p=some r)(hr:Bk C γ0 w0 γ β U h a w):
  Cx C γ0 w0 o a w (U.put o.dst (.val r)) h:=by
 have hv:=II hr hx;have FY:∀v,(Instr.loadAt t (a.eval x)).run C.P w= .ok v w->(execOp a.eval o).run C.P w= .ok (.value v) w:=λv hv=>by simp[execOp,ho,hv]
 unfold Ck at hl;split at hl
 .rename_i cs;obtain⟨b,k,hv,hm⟩:=hv;obtain⟨us,p1,p2⟩:=hm.values;obtain⟨v,q1,q2⟩:=DM (w:=w) ht p1 (λj u hj=>(hr.BI.DI _ _ _ (p2 j u hj)).1) (λu hu=>by obtain⟨j,hj⟩:=AU hu;exact(hr.BI.DI _ _ _ (p2 j u hj)).2.1) hl
  rw[<-hv] at q1;exact Cx.value (FY v q1) (hr.put λ_ _=>q2)
 .rename_i id off;obtain⟨b,hb,hv⟩:=hv;split at hl
  .rename_i cs hcs;obtain⟨us,e,fr,p1,pf,p2,p3⟩:=hr.BI.cells id cs hcs b hb;obtain⟨v,q1,q2⟩:=DM (w:=w) (b:=b) (o:=off) ht (p2.drop off) (λj u hj=>by
    rw[cell_of_row w _ _ us e fr p1];rw[Bg,A0] at hj;split at hj;.simpa using hj
    .cases hj) (λu hu=>p3 u (Bu hu)) (HA hl)
   rw[<-hv] at q1;exact Cx.value (FY v q1) (hr.put λ_ _=>q2)
  .cases hl
 .cases hl
end
end Go.Am
end
section
namespace Go.Am
open Go
section
variable{C:CB}{γ0 γ γ':Gh}{w0 w w':World}{β:Nat->Nat}{U:Av}{h:Ab}{a:Act}{fid:FuncId}{ops:List Oper}
def BZ{b:Nat}{t:TypeId}{fr:Nat×Nat}:∀(vs:List Value) (o:Nat) (cur:Array Value) (w:World),w.heap[b]?=some (.cells cur t fr)->o+vs.length<=cur.size->
  w.setCells b o vs=w.setRow b (cur.toList.take o++vs++cur.toList.drop (o+vs.length)).toArray
 |[],o,cur,w,hg,_=>by simp only[World.setCells,BM,A4,CE,gE,Array.toArray_toList];exact(setRow_self w b cur t fr hg).symm
 |v::r,o,cur,w,hg,hl=>by simp only[AF] at hl;rw[World.setCells,setCell_eq_setRow w b o cur t fr v hg,BZ r (o+1) _ _ (setRow_heap w b cur _ t fr hg) (by simp;omega),setRow_setRow];have e:=list_seg_step cur.toList o v r (by simp;omega);simp only[Array.toList_setIfInBounds,AF];rw[e]
def Hd{t:TypeId}{n b o:Nat}(hn:Az C.P t=some n){u:Value}(hu:u.cells.size=n)(h1:∀x∈u.cells.toList,x.oneCell'=true){cur:Array Value}{e:TypeId}{fr:Nat×Nat}(hg:w.heap[b]?=some (.cells cur e fr))(QT:J2 fr cur.size)
  (hl:o+n<=cur.size):(Instr.storeAt t (.pointer (some ⟨b,o,none⟩)) u).run C.P w= .ok () (w.setRow b (cur.toList.take o++u.cells.toList++cur.toList.drop (o+n)).toArray):=by
 have hs:=run_storeCells_cells (P:=C.P) b o u.cells.toList 0 w (λj hj=>by
  rw[cell_of_row w _ _ cur e fr hg];simp at hj;rw[AY (by omega)];rfl) (λj hj=>by
  simp at hj;simp only[World.frozen?,hg];rcases QT with rfl|QT
  .simp
  .simp;omega) h1
 rw[CE,BZ _ o cur w hg (by simp;omega)] at hs;cases hq:C.P.info? t with
 |none=>simp[Az,hq] at hn
 |some i=>
  have hi:i.size=n:=by simpa[Az,hq] using hn
  simp only[AM,hu] at hs;simp[Instr.storeAt,Instr.sureAddr,storeVar,sizeOf,typeInfo,hq,hi,hu,hs]
def LG{Z:Type}{cs vs:List Z}{off n o:Nat}(hl:off+n<=cs.length)(hv:vs.length=n)(ho:¬(off<=o/\o<off+n)):(cs.take off++vs++cs.drop (off+n))[o]?=cs[o]?:=by
 have e1:(cs.take off).length=off:=by simp;omega
 by_cases h:o<off;.rw[As (by simp[hv];omega),As (by omega),A6 h]
 .rw[BL (by simp[hv];omega),Bg];congr 1
  simp[hv];omega
def MT{Z:Type}{cs:List Z}{off n:Nat}{x:Z}(hl:off+n<=cs.length):(cs.take off++[x]++cs.drop (off+n))[off]?=some x:=by
 have e1:(cs.take off).length=off:=by simp;omega
 rw[As (by simp;omega),BL (by omega)];simp[e1]
def F4{Z:Type}{us vs:List Z}{off n len:Nat}(hl:len<=us.length)(ho:off+n<=len)(hv:vs.length=n):
  (us.take off++vs++us.drop (off+n)).take len=(us.take len).take off++vs++(us.take len).drop (off+n):=by
 have e1:(us.take off).length=off:=by simp;omega
 have e2:(us.take off++vs).length=off+n:=by simp[hv];omega
 rw[ix,AS (by omega),e2,FO,Dr (by omega),List.drop_take]
def G1{cs vs:List Aa}{us By:List Value}{off n:Nat}(h:Ai γ cs us)(h':Ai γ vs By):Ai γ (cs.take off++vs++cs.drop (off+n)) (us.take off++By++us.drop (off+n)):=
 ((h.take off).append h').append (h.drop (off+n))
def D2.ZD{B s s2 g:Nat}(hg:γ.A5 g=some (.fJ s)){c:Option Nat}{v:Value}{u:Aa}(By:Array Value)(ho:D2 γ B w s2 c v u):D2 γ B (w.setRow g By) s2 c v u:=by
 rcases ho with ho|⟨g2,n,cap,us,e,z,Ac,h1,h2,h3,h4,h5,h6⟩
 .exact .inl ho
 .have hb:g2≠g:=λhe=>by subst he;rw[hg] at h3;cases h3
  exact .inr ⟨g2,n,cap,us,e,z,Ac,h1,h2,h3,h4,by rw[setRow_other w g g2 By hb];exact h5,h6⟩
def LH(γ:Gh)(w:World)(g:Nat)(us:Array Value):H5 g γ w γ (w.setRow g us):=
 ⟨.refl _,λb x hb hx _=>⟨hx,setRow_other w g b us hb⟩⟩
def Bk.Ot(hr:Bk C γ0 w0 γ β U h a w){s ver CH off n:Nat}{cs:List Aa}{ow:List Nat}(hs:U.at s= .box ver cs ow){vs:List Aa}{By:List Value}(hv:Ai γ vs By)(h1:∀u∈By,u.oneCell'=true)(hn:vs.length=n)
  (hl:off+n<=cs.length) {A5:Bool} (Ct:A5=true->∃u x,By=[u]/\vs=[x]/\D2 γ w0.heap.size w s (some off) u x) {us:Array Value} {e:TypeId} (hg:w.heap[β s]?=some (.cells us e (0,0))):
  Bk C γ0 w0 γ β (U.set s (.box CH (Lr cs off n vs) (Jg ow off n A5))) h a (w.setRow (β s) (us.toList.take off++By++us.toList.drop (off+n)).toArray):=by
 have h0:=hr.fr.DG s;rw[hs] at h0;obtain⟨p1,p2,p3,S0,e0,p4,p5,p6,p7⟩:=h0;rw[hg] at p4;cases p4;have hlen:By.length=n:=by rw[hv.length,hn]
 have ZE:off+n<=us.toList.length:=by rw[p5.length];exact hl
 have VD:s<U.length:=Av.Hu (by rw[hs];simp);refine⟨RY hr.BI p2 _,⟨by simp[hr.fr.size],λs2=>?_⟩,hr.BE.write (g:=β s) p3 (.refl _) (by simp) rfl rfl rfl (λb hb=>⟨setRow_other w _ b _ hb,rfl⟩),hr.defers,hr.C8⟩;by_cases he:s2=s
 .subst he;rw[Av.Cn VD];refine⟨p1,p2,p3,_,e,setRow_heap w _ us _ e (0,0) hg,?_,?_,?_⟩;.simpa[Lr] using G1 (off:=off) (n:=n) p5 hv
  .intro u hu;simp only[Bz,Aj] at hu;rcases hu with hu|hu|hu
   .exact p6 u (AQ hu)
   .exact h1 u hu
   .exact p6 u (Bu hu)
  .intro o ho;have DY:(A5=true/\o=off)\/(o∈ow/\¬(off<=o/\o<off+n)):=by
    unfold Jg at ho;have hf:o∈ow.filter (λo=> !(decide (off<=o)&&decide (o<off+n)))->o∈ow/\¬(off<=o/\o<off+n):=λhm=>by rw[ke] at hm;refine⟨hm.1,λhc=>?_⟩;have:=hm.2;simp[hc.1,hc.2] at this
    cases A5 with
    |true=>
     simp only[Bc,AP] at ho;rcases ho with ho|ho
     .exact .inl ⟨rfl,ho⟩
     .exact .inr (hf ho)
    |false=>exact .inr (hf ho)
   rcases DY with⟨aT,rfl⟩|⟨aT,gR⟩
   .obtain⟨u,x,rfl,rfl,hT⟩:=Ct aT;exact⟨u,x,by simpa using MT (x:=u) ZE,by simpa[Lr] using MT (x:=x) hl,hT.ZD p2 _⟩
   .obtain⟨u,x,q1,q2,q3⟩:=p7 o aT;refine⟨u,x,?_,?_,q3.ZD p2 _⟩;.rw[<-q1];have:=LG ZE hlen gR;simpa using this
    .rw[<-q2];exact LG hl hn gR
 .rw[Av.CC (λx=>he x.symm)];exact(hr.fr.DG s2).keptBut p2 (LH γ w _ _) (by simp only[EL.Ps];intro hx;cases hx;exact he rfl)
def HB(hr:Bk C γ0 w0 γ β U h a w){y:Operand}{v:Aa}(hy:E5 C U y=true)(hv:B2 C U y=some v)(s':Nat)(c':Option Nat):
  ∃γ',γ.le γ'/\Bk C γ0 w0 γ' β (U.BA (Bp U y)) h a w/\Au γ' v (a.eval y)/\D2 γ' w0.heap.size w s' c' (a.eval y) v:=by
 unfold E5 at hy;cases hs:BK C U y with
 |none=>rw[hs] at hy;cases hy
 |some sl=>
  rw[hs] at hy;cases sl with
  |A5 u=>
   have rU:u=v:=by unfold B2 at hv;rw[hs] at hv;exact D7 hv
   subst rU;cases y with
   |tmp t=>have ht:U.at t= .A5 u:=C4 hs;obtain⟨γ',Cd,DC,h1,h2⟩:=hr.take ht s' c';exact⟨γ',Cd,by simpa[Bp,ht,Av.BA] using DC,h1,h2⟩
   |const c=>
    refine⟨γ,.refl _,hr,CQ hr hv,?_⟩;obtain⟨q,_⟩:=Jn (γ:=γ) (β:=β) (w:=w) hs;unfold BK at hs;split at hs;.rename_i e;cases e
    .cases hs
    .cases hs;exact .inl (.inl rfl)
    .rename_i EI;cases EI;cases hc:EX c with
     |none=>rw[hc] at hs;cases hs
     |some _=>rw[hc] at hs;cases hs
    .rename_i e;cases e
    .cases hs
   |global g=>have Oe:(C.C8 g).map (λcs=>BQ.val (Aa.A9 cs))=some (.A5 u):=hs;cases hc:C.C8 g<;>rw[hc] at Oe<;>cases Oe
   |func f=>cases hs
  |_=>cases hy
def PK{B s:Nat}{c:Option Nat}{v:Value}{x:Aa}(h:D2 γ B w s c v x):x.cells=[x]:=by rcases h with(rfl|⟨_,rfl⟩)|⟨_,_,_,_,_,_,_,rfl,_⟩<;>rfl
def PL{o:Oper}{t:TypeId}{x y:Operand}{s off n ver:Nat}{v:Aa}{A5:Bool}{dem:Option (Nat×Aa)}{cells:List Aa}{owned:List Nat}{run:IT->Ab->Option Ep}{U':Av}{h':Ab}(ho:o.op= .store t x y)(hd:o.dst=none)
  (hc:D9 C U t x y=some (.Ge s off n v A5 dem ver cells owned)) (CA:(BV.Ge s off n v A5 dem ver cells owned).Gu C run U h U' h') (hr:Bk C γ0 w0 γ β U h a w):Cx C γ0 w0 o a w U' h':=by
 unfold D9 at hc;split at hc;.cases hc
 .rename_i m sh s' TF CH Dz GJ v' Fc Ph ha hv;split at hc
  .rename_i hl;simp only[AG,BV.Ge.injEq] at hc;obtain⟨rfl,rfl,rfl,rfl,Ct,Mw,rfl,rfl,rfl⟩:=hc;obtain⟨hn,rfl,rfl⟩:=CA;obtain⟨hs,hx⟩:=E9 hr ha;have TG:=CQ hr hv;obtain⟨_,_,us,e,hg,p5,p6,_⟩:=hr.MS hs;have VD:TF+(m+1)<=us.size:=by have:=p5.length;simp at this;omega
   obtain⟨q1,q2⟩:=Dd TG (by omega);have PM:(a.eval y).cells.size=m+1:=by have:=q1.length;simp at this;omega
   have Ex:=Hd (C:=C) (b:=β s') (o:=TF) Fc PM q2 hg (.inl rfl) VD;rw[<-hx] at Ex;have FY:(execOp a.eval o).run C.P w= .ok .skip (w.setRow (β s') (us.toList.take TF++(a.eval y).cells.toList++us.toList.drop (TF+(m+1))).toArray):=by simp[execOp,ho,Ex]
   by_cases hw:A5=true
   .subst hw;rw[if_pos Ct] at Mw;subst Mw;simp only[Ao] at Ct;obtain⟨γ1,Cd,EH,h1,h2⟩:=HB hr Ct.2 hv s' (some TF);have zD:=PK h2;have gS:(U.BA (Bp U y)).at s'= .box CH Dz GJ:=by
     cases y with
     |tmp t'=>
      simp only[Bp];cases ht:U.at t' with
      |A5 u=>simp only[Av.BA];rw[Av.CC (λe=>by rw[e,hs] at ht;cases ht)];exact hs
      |_=>exact hs
     |_=>exact hs
    have GK:=EH.Ot (CH:=CH+1) (A5:=true) (n:=m+1) gS (Ai.mono Cd _ _ q1) q2 hn hl (λ_=>?_) hg;.exact Cx.skip FY (by rw[hd];exact GK)
    .have hcl:(a.eval y).cells=#[a.eval y]:=by
      rcases h2 with(h2|⟨z,h2⟩)|⟨_,_,_,_,_,_,_,_,h2,_⟩
      .subst h2;rw[show a.eval y=_ from h1];rfl
      .subst h2;obtain⟨_,h1⟩:=h1;rw[h1];rfl
      .rw[h2];rfl
     exact⟨a.eval y,v',by rw[hcl],zD,h2⟩
   .have fI:A5=false:=by simpa using hw
    subst fI;rw[if_neg (by rw[Ct];simp)] at Mw;subst Mw;exact Cx.skip FY (by rw[hd];exact hr.Ot (CH:=CH+1) (A5:=false) hs q1 q2 hn hl (λe=>by cases e) hg)
  .cases hc
 .cases hc
def Se{o:Oper}{t:TypeId}{x y:Operand}{n:Nat}{p v:Aa}{h':Ab}(ho:o.op= .store t x y)(hd:o.dst=none)(Fc:Az C.P t=some (n+1))(hx:CF C U x=some (.ptr p))(hv:B2 C U y=some v)(Ex:Dy h (n+1) p v=some h')(hr:Bk C γ0 w0 γ β U h a w):
  Cx C γ0 w0 o a w U h':=by
 have aU:=II hr hx;have TG:=CQ hr hv;unfold Dy at Ex;split at Ex
 .rename_i id off;obtain⟨b,hb,zE⟩:=aU;split at Ex
  .rename_i cs hcs;split at Ex
   .rename_i hl;cases Ex;obtain⟨us,e,fr,hg,pf,p5,p6⟩:=hr.BI.cells id cs hcs b hb;obtain⟨q1,q2⟩:=Dd TG (by omega);have PM:(a.eval y).cells.size=n+1:=by have:=q1.length;simp at this;omega
    have hlt:cs.length<=us.size:=by have:=p5.length;simp at this;omega
    have VD:off+(n+1)<=us.size:=by omega
    have Ad:=Hd (C:=C) (b:=b) (o:=off) Fc PM q2 hg pf VD;rw[<-zE] at Ad;obtain⟨hi,ha⟩:=Gs hr.BI hcs hb hg (us.toList.take off++(a.eval y).cells.toList++us.toList.drop (off+(n+1))).toArray (cs.take off++v.cells++cs.drop (off+(n+1)))
     (by simp only[AE,An,Bt,BH,AM,PM];omega)
     (by
      rcases pf with rfl|pf
      .exact .inl rfl
      .refine .inr (AX (FM ?_) pf);simp only[AE,An,Bt,BH,AM,PM];omega)
     (by
      have:=G1 (off:=off) (n:=n+1) p5 q1;rw[<-F4 (by simpa using hlt) hl.2 (by simpa using PM)] at this;have e1:(cs.take off++v.cells++cs.drop (off+(n+1))).length=cs.length:=by simp[hl.1];omega
      rw[e1];simpa using this) (λu hu=>by
      have e1:(cs.take off++v.cells++cs.drop (off+(n+1))).length=cs.length:=by simp[hl.1];omega
      rw[e1] at hu;simp only[EU] at hu;rw[F4 (by simpa using hlt) hl.2 (by simpa using PM)] at hu;simp only[Bz,Aj] at hu;rcases hu with hu|hu|hu
      .exact p6 u (AQ hu)
      .exact q2 u hu
      .exact p6 u (Bu hu))
    have FY:(execOp a.eval o).run C.P w= .ok .skip (w.setRow b (us.toList.take off++(a.eval y).cells.toList++us.toList.drop (off+(n+1))).toArray):=by simp[execOp,ho,Ad]
    exact Cx.skip FY (by rw[hd];exact hr.DX hi ha)
   .cases Ex
  .cases Ex
 .cases Ex
def Bk.freeze(hr:Bk C γ0 w0 γ β U h a w){s ver:Nat}{cs:List Aa}{ow:List Nat}(hs:U.at s= .box ver cs ow):
  ∃γ',γ.le γ'/\Bk C γ0 w0 γ' β (U.set s (.val (.A9 cs))) h a w/\Au γ' (.A9 cs) (a.tmps.getD s undef):=by
 have h0:=hr.fr.DG s;rw[hs] at h0;obtain⟨p1,p2,p3,us,e,p4,p5,p6,p7⟩:=h0;have VD:s<U.length:=Av.Hu (by rw[hs];simp);have Tu:∀o,γ.DI (β s) o=none:=λo=>by
  cases hc:γ.DI (β s) o with
  |none=>rfl
  |some u=>obtain⟨_,_,q⟩:=hr.BI.DI _ _ _ hc;rw[p2] at q;rcases q with q|⟨_,_,_,q,_⟩<;>cases q
 have Cd:γ.le (γ.Br (β s) us us.size none):=⟨λb o v hb=>by
  have:b≠β s:=λe=>by rw[e,Tu] at hb;cases hb
  simp only[Gh.Br,if_neg this];exact hb,λ_ _ hm=>hm,λ_ _ hm=>hm⟩
 have hne:∀b id,γ.A5 b=some (.FV id)->b≠β s:=λb id hb e=>by rw[e,p2] at hb;cases hb
 have hk:H5 (β s) γ w (γ.Br (β s) us us.size none) w:=⟨Cd,λb x hb hx _=>⟨by simp only[Gh.Br,if_neg hb];exact hx,rfl⟩⟩;have hv:Au (γ.Br (β s) us us.size none) (.A9 cs) (a.tmps.getD s undef):=by
  refine⟨β s,0,p1,Bb.C2 λi x hi=>?_⟩;obtain⟨u,q1,q2⟩:=p5.get hi;have hlt:i<us.size:=by have:=(Af.1 q1).1;simpa using this
  exact⟨u,by simp only[Gh.Br,Bc,AL,if_pos hlt];simpa using q1,Au.mono Cd _ _ q2⟩
 have aV:∀b n,γ.sz b=some n->(∃us e fr,w.heap[b]?=some (.cells us e fr)/\us.size=n)/\((γ.Br (β s) us us.size none).A5 b=none\/∃id,(γ.Br (β s) us us.size none).A5 b=some (.FV id)):=λb n hb=>by
  obtain⟨p,r⟩:=hr.BI.sz b n hb;by_cases he:b=β s;.subst he;exact⟨p,.inl (by simp[Gh.Br])⟩
  .exact⟨p,by simp only[Gh.Br,if_neg he];exact r⟩
 refine⟨_,Cd,⟨⟨λb o v hb=>?_,λid y Gi hy=>?_,λid Dz hc b hb=>?_,λid es hc b hb=>?_,hr.BI.mu,λb x hx=>?_,aV⟩,⟨by simp[hr.fr.size],λs2=>?_⟩,?_,hr.defers,λx Dz hx=>Bb.mono Cd _ _ _ (hr.C8 x Dz hx)⟩,hv⟩
 .by_cases he:b=β s
  .subst he;simp only[Gh.Br,Bc] at hb⊢;split at hb;.exact⟨by rw[cell_of_row _ _ _ us e (0,0) p4];exact hb,p6 v (by rw[Ae] at hb;obtain⟨p,q⟩:=hb;rw[<-q];exact Array.getElem_mem_toList p),.inl (by simp)⟩
   .cases hb
  .simp only[Gh.Br,if_neg he] at hb⊢;exact hr.BI.DI b o v hb
 .obtain⟨b,q1,q2⟩:=hr.BI.FV id y Gi hy;exact⟨b,q1,by simp only[Gh.Br,if_neg (hne b id q2)];exact q2⟩
 .obtain⟨By,e',RX,q1,qf,q2,q3⟩:=hr.BI.cells id Dz hc b hb;exact⟨By,e',RX,q1,qf,Ai.mono Cd _ _ q2,q3⟩
 .obtain⟨By,e',q1,q2⟩:=hr.BI.map id es hc b hb;exact⟨By,e',q1,q2.mono Cd⟩
 .by_cases he:b=β s;.subst he;exact hr.BI.A5 _ _ p2
  .simp only[Gh.Br,if_neg he] at hx;exact hr.BI.A5 b x hx
 .by_cases he:s2=s;.subst he;rw[Av.Cn VD];exact hv
  .rw[Av.CC (λx=>he x.symm)];exact(hr.fr.DG s2).keptBut p2 hk (by simp only[EL.Ps];intro hx;cases hx;exact he rfl)
 .refine⟨hr.BE.le.trans Cd,hr.BE.size,hr.BE.os,hr.BE.tape,hr.BE.output,λb hb hn=>?_⟩;obtain⟨q1,q2⟩:=hr.BE.GS b hb hn;exact⟨q1,by simp only[Gh.Br,if_neg (show b≠β s by omega)];exact q2⟩
def Bk.MU:∀{fz:List (Nat×List Aa)} {γ:Gh} {U:Av},Bk C γ0 w0 γ β U h a w->(∀p∈fz,∃ver ow,U.at p.1= .box ver p.2 ow)->(fz.map (·.1)).Nodup->
  ∃γ',γ.le γ'/\Bk C γ0 w0 γ' β (U.BW (fz.map λ(s,cs)=>(s,.val (.A9 cs)))) h a w/\∀p∈fz,Au γ' (.A9 p.2) (a.tmps.getD p.1 undef)
 |[],γ,U,hr,_,_=>⟨γ,.refl _,hr,by simp⟩
 |(s,cs)::fz,γ,U,hr,hb,hn=>by
  simp only[Be,KP] at hn;obtain⟨ver,ow,hs⟩:=hb (s,cs) (by simp);obtain⟨γ1,rV,EH,VE⟩:=hr.freeze hs;obtain⟨γ2,Ou,GK,VF⟩:=MU (fz:=fz) EH (λp hp=>by obtain⟨CH,GJ,fK⟩:=hb p (by simp[hp]);refine⟨CH,GJ,?_⟩;rw[Av.CC (λe=>hn.1 (by rw[show s=p.1 from e];exact Ay.2 ⟨p,hp,rfl⟩))];exact fK) hn.2
  refine⟨γ2,rV.trans Ou,GK,λp hp=>?_⟩;rcases AP.1 hp with rfl|hp
  .exact Au.mono Ou _ _ VE
  .exact VF p hp
def Ik:∀{xs:List Operand} {vs:List Aa} {fz:List (Nat×List Aa)},Db C U xs=some (vs,fz)->
  (∀p∈fz,∃ver ow,U.at p.1= .box ver p.2 ow)/\(fz.map (·.1)).Nodup/\
  ∀γ',(∀x u,B2 C U x=some u->Au γ' u (a.eval x))->(∀p∈fz,Au γ' (.A9 p.2) (a.tmps.getD p.1 undef))->Ai γ' vs (xs.map a.eval)
 |[],vs,fz,hc=>by cases hc;exact⟨by simp,by simp,λ_ _ _=>rfl⟩
 |x::xs,vs,fz,hc=>by
  unfold Db at hc;split at hc;.cases hc
  .rename_i DB qR rW;obtain⟨h1,h2,h3⟩:=Ik rW;split at hc
   .rename_i s ver cs ow hs;split at hc;.cases hc
    .rename_i hn;cases hc;have hsb:U.at s= .box ver cs ow:=C4 hs;refine⟨λp hp=>?_,?_,λγ' k1 k2=>?_⟩
     .rcases AP.1 hp with rfl|hp
      .exact⟨ver,ow,hsb⟩
      .exact h1 p hp
     .simp only[Be,KP];exact⟨by simpa using hn,h2⟩
     .exact⟨_,_,rfl,k2 (s,cs) (by simp),h3 γ' k1 λp hp=>k2 p (by simp[hp])⟩
   .rename_i sl _ hs;cases hv:sl.Da with
    |none=>rw[hv] at hc;cases hc
    |some u=>rw[hv] at hc;cases hc;exact⟨h1,h2,λγ' k1 k2=>⟨_,_,rfl,k1 _ u (by unfold B2;rw[hs];exact hv),h3 γ' k1 k2⟩⟩
   .cases hc
def Ov{o:Oper}{fn:Fn}{first captured:Array Operand}{d:Nat}{as bs:List Aa}{fz:List (Nat×List Aa)}(ho:o.op= .makeFunc fn first captured)(hd:o.dst=some d)(ha:Ak C U first.toList=some as)(hb:Db C U captured.toList=some (bs,fz))(hr:Bk C γ0 w0 γ β U h a w):
  Cx C γ0 w0 o a w (((U.drop (fz.map (·.1))).BW (fz.map λ(s,cs)=>(s,.val (.A9 cs)))).set d (.val (.func fn as bs))) h:=by
 obtain⟨h1,h2,h3⟩:=Ik (a:=a) hb;obtain⟨γ',Cd,DC,hv⟩:=(hr.drop (fz.map (·.1))).MU (fz:=fz) (λp hp=>by obtain⟨ver,ow,hs⟩:=h1 p hp;exact⟨ver,ow,by rw[Av.Lb,hs]⟩) h2
 refine Cx.value (w':=w) (v:= .func fn (first.map a.eval) (captured.map a.eval)) (by simp[execOp,ho,Instr.makeFunc]) (by rw[hd];exact DC.put (d:=some d) λ_ _=>⟨_,_,rfl,by simpa using Ai.mono Cd _ _ (BF hr ha),by simpa using h3 γ' (λx u hx=>Au.mono Cd _ _ (CQ hr hx)) hv⟩)
end
end Go.Am
end
