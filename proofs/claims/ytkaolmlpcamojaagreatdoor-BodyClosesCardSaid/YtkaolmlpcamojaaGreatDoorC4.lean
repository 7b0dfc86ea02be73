/- Lemmas -/
import Derived.Test.YtkaolmlpcamojaaGreatDoorC3
import Derived.Laws.IdiomCopy
set_option linter.all false
section
namespace Go.Am
open Go
def m_(β:Nat->Nat)(d b:Nat):Nat->Nat:=λs=>if s=d then b else β s
def KH.rE:KH->Option Nat
 | .Mj _=>none
 | .loc s=>some s
 | .tail s _ _=>some s
structure Qm(g:Nat)(γ:Gh)(w:World)(γ':Gh)(w':World):Prop where
 le:γ.le γ'
 Oi:∀b x,b≠g->γ.Bu b=some x->x.pk=false->γ'.Bu b=some x/\w'.heap[b]?=w.heap[b]?
section
variable{C:FY}{γ0 γ γ':Gh}{w0 w w':World}{β:Nat->Nat}{U:BT}{h:Ah}{a:Act}{fid:FuncId}{ops:List Oper}
def BT.Sw(U:BT)(ds:List Nat)(s:Nat):(U.drop ds).at s=match U.at s with| .Fi t o=>if ds.contains t then .undef else .Fi t o|x=>x:=by
 cases ds with
 |nil=>simp only[BT.drop,List.contains_nil];cases U.at s<;>simp
 |cons d ds=>
  simp only[BT.drop,BT.at,List.getD,Cm];cases hg:U[s]? with
  |none=>rfl
  |some x=>cases x<;>rfl
def BT.length_drop(U:BT)(ds:List Nat):(U.drop ds).length=U.length:=by cases ds<;>simp[BT.drop]
def LG.aKG{B s d b:Nat}{x:Es}{v:Value}(hx:LG γ β B w s x v)(hn:∀o,x≠ .Fi d o)(hs:s≠d):LG γ (m_ β d b) B w s x v:=by
 cases x with
 |box ver cs ow=>simpa only[LG,m_,Ad hs] using hx
 |Fi t o=>have:t≠d:=λe=>hn o (by rw[e]);simpa only[LG,m_,Ad this] using hx
 |_=>exact hx
def IZ.keptBut{g B s:Nat}{d:KH}(hg:γ.Bu g=some d)(k:Qm g γ w γ' w')(hne:d.rE≠some s){c:Option Nat}{v:Value}{u:Aa}(ho:IZ γ B w s c v u):IZ γ' B w' s c v u:=by
 rcases ho with ho|⟨g2,n,cap,us,e,z,AE,h1,h2,b,m,l,j⟩
 .exact .inl ho
 .have hb:g2≠g:=λhe=>by subst he;rw[hg] at b;cases b;exact hne rfl
  obtain⟨i,f⟩:=k.Oi g2 _ hb b rfl;exact .inr ⟨g2,n,cap,us,e,z,AE,h1,h2,i,m,by rw[f];exact l,j⟩
def LG.keptBut{g B s:Nat}{d:KH}(hg:γ.Bu g=some d)(k:Qm g γ w γ' w')(hne:d.rE≠some s){x:Es}{v:Value}(hx:LG γ β B w s x v):LG γ' β B w' s x v:=by
 cases x with
 |undef=>trivial
 |skip=>exact hx
 |val u=>exact BQ.mono k.le u v hx
 |O8 b=>exact hx
 |Bu u=>exact⟨BQ.mono k.le u v hx.1,hx.2.keptBut hg k hne⟩
 |box ver cs ow=>
  obtain⟨r,c,q,us,e,p,n,m,l⟩:=hx;have hb:β s≠g:=λhe=>by rw[he,hg] at c;cases c;exact hne rfl
  obtain⟨y,t⟩:=k.Oi _ _ hb c rfl;exact⟨r,y,q,us,e,by rw[t];exact p,Bj.mono k.le cs _ n,m,λo ho=>let⟨u,v,j,i,f⟩:=l o ho;⟨u,v,j,i,f.keptBut hg k hne⟩⟩
 |Fi s' o=>exact hx
def Dh.qb(hr:Dh C γ0 w0 γ β U h a w)(d:Nat)(us:Array Value)(e:TypeId)(cells:List Aa)(ow:List Nat)(hc:Bj γ cells us.toList)(h1:∀u∈us.toList,u.oneCell'=true)
  (how:∀o∈ow,cells[o]?=some .slnil):
  ∃γ' b,Dh C γ0 w0 γ' b ((U.drop [d]).set d (.box 0 cells ow)) h (a.put (some d) (.pointer (some ⟨w.heap.size,0,none⟩))) (w.alloc (.cells us e)):=by
 obtain⟨hi,ha⟩:=Pw hr.D6 us e (0,0) 0 (some (.loc d)) (λ_ _ ho=>absurd ho (Nat.not_lt_zero _)) (.inr (.inr ⟨rfl,AH⟩));have Kx:=(hr.drop [d]).Je hi ha;refine⟨_,m_ β d w.heap.size,Kx.D6,⟨by simp[Act.put,Kx.fr.size],λs=>?_⟩,Kx.D0,Kx.defers,Kx.Ha⟩;have hs:=Kx.fr.It s;by_cases he:s=d
 .subst he;by_cases hl:s<(U.drop [s]).length
  .have c:s<a.tmps.size:=by rw[<-Kx.fr.size];exact hl
   rw[BT.Fv hl];have i:(a.put (some s) (.pointer (some ⟨w.heap.size,0,none⟩))).tmps.getD s undef= .pointer (some ⟨w.heap.size,0,none⟩):=by simp[Act.put,Array.getD,c]
   rw[i];refine⟨by simp[m_],by simp[m_,Gh.DB],?_,us,e,?_,Bj.mono ha.le _ _ hc,h1,λo ho=>?_⟩;.simp only[m_,BN];exact hr.D0.size
   .simp only[m_,BN];exact heap_alloc_new w _
   .have hco:=how o ho;obtain⟨u,f,j⟩:=hc.get hco;exact⟨u,.slnil,by simpa using f,hco,.inl (.inl rfl)⟩
  .have:BT.at ((U.drop [s]).set s (.box 0 cells ow)) s= .undef:=by simp[BT.at,List.getD];rw[Ec (by simpa using hl)];rfl
   rw[this];trivial
 .rw[BT.Gi (λe=>he e.symm)];have g:(a.put (some d) (.pointer (some ⟨w.heap.size,0,none⟩))).tmps.getD s undef=a.tmps.getD s undef:=by simp[Act.put,Hk,qZ (λe=>he e.symm)]
  rw[g];refine hs.aKG (λo ho=>?_) he;rw[BT.Sw] at ho;cases hx:U.at s with
  |Fi t o'=>
   rw[hx] at ho;simp only at ho;split at ho;.cases ho
   .rename_i hc;cases ho;exact hc AH
  |_=>rw[hx] at ho;cases ho
def If{P:Program}{t:TypeId}{z:Aa}(hz:Hb P t=some z):∃v,K4 v=some z/\∀w,(zeroValue t).run P w= .ok v w:=by
 unfold Hb at hz;cases hi:P.info? t with
 |none=>rw[hi] at hz;cases hz
 |some i=>
  rw[hi] at hz;cases hv:i.zero with
  |none=>simp[hv] at hz
  |some v=>simp only[Cw,hv] at hz;exact⟨v,hz,λw=>by simp[zeroValue,typeInfo,hi,hv]⟩
def rT{cs:List Aa}{o:Nat}(h:o∈Xb cs):cs[o]?=some .slnil:=by
 simp only[Xb,DN,List.mem_range] at h;obtain⟨h1,h2⟩:=h;simp only[List.getD,Al h1,Fg] at h2;rw[Al h1];split at h2;.rename_i he;rw[he]
 .cases h2
def FW(C:FY)(γ0:Gh)(w0:World)(o:Oper)(a:Act)(w:World)(c:BT)(h':Ah):Prop:=
 ∃γ' b w',(∃v,(execOp a.eval o).run C.P w= .ok (.value v) w'/\Dh C γ0 w0 γ' b c h' (a.put o.dst v) w')\/((execOp a.eval o).run C.P w= .ok .skip w'/\Dh C γ0 w0 γ' b c h' (a.put o.dst undef) w')
def FW.value{o:Oper}{c:BT}{h':Ah}{b:Nat->Nat}{v:Value}(he:(execOp a.eval o).run C.P w= .ok (.value v) w')(hr:Dh C γ0 w0 γ' b c h' (a.put o.dst v) w'):FW C γ0 w0 o a w c h':=⟨γ',b,w',.inl ⟨v,he,hr⟩⟩
def FW.skip{o:Oper}{c:BT}{h':Ah}{b:Nat->Nat}(he:(execOp a.eval o).run C.P w= .ok .skip w')(hr:Dh C γ0 w0 γ' b c h' (a.put o.dst undef) w'):FW C γ0 w0 o a w c h':=⟨γ',b,w',.inr ⟨he,hr⟩⟩
def Xp{o:Oper}{t:TypeId}{d:Nat}{z:Aa}(ho:o.op= .alloc t)(hd:o.dst=some d)(hz:Hb C.P t=some z)(hn:z.cells≠[])(hr:Dh C γ0 w0 γ β U h a w):
  FW C γ0 w0 o a w ((U.drop [d]).set d (.box 0 z.cells (Xb z.cells))) h:=by
 obtain⟨v,hv,A3⟩:=If hz;obtain⟨e,c⟩:=Ht (γ:=γ) (Fu hv) (EH.2 hn);obtain⟨γ',b,FZ⟩:=hr.qb d v.cells t z.cells (Xb z.cells) e c (λo=>rT);refine FW.value (v:= .pointer (some ⟨w.heap.size,0,none⟩)) ?_ (by rw[hd];exact FZ);simp[execOp,ho,Instr.alloc,A3,newVar,newRow]
def cQ{o:Oper}{t:TypeId}{x:Operand}{d n:Nat}{v:Aa}(ho:o.op= .box t x)(hd:o.dst=some d)(hx:E4 C U x=some v)(hv:v.cells.length=n)(hn:n≠0)(hr:Dh C γ0 w0 γ β U h a w):
  FW C γ0 w0 o a w ((U.drop [d]).set d (.box 0 v.cells [])) h:=by
 obtain⟨e,c⟩:=Ht (GJ hr hx) Ab;obtain⟨γ',b,FZ⟩:=hr.qb d (a.eval x).cells t v.cells [] e c AH;refine FW.value (v:= .pointer (some ⟨w.heap.size,0,none⟩)) ?_ (by rw[hd];exact FZ);simp[execOp,ho,Instr.box,newVar,newRow]
def Dh.newObj(hr:Dh C γ0 w0 γ β U h a w)(us:Array Value)(e:TypeId)(fr:Nat×Nat)(cells:List Aa)(xJ:TT fr us.size)(hc:Bj γ cells (us.toList.take cells.length))(h1:∀u∈us.toList.take cells.length,u.oneCell'=true):
  ∃γ',γ.le γ'/\γ'.mu h.length=some w.heap.size/\Dh C γ0 w0 γ' β U (h++[.cells cells]) a (w.alloc (.cells us e fr))/\γ'.sz w.heap.size=some us.size:=by
 obtain⟨hi,ha⟩:=GN hr.D6 (.cells us e fr) (.cells cells) (some us.size) (.inl ⟨cells,us,e,fr,rfl,rfl,xJ,hc,h1,rfl⟩);exact⟨_,ha.le,by simp[Gh.B1],hr.Je hi ha,by simp[Gh.B1]⟩
def Xq{o:Oper}{t:TypeId}{z:Aa}{d:Option Nat}(ho:o.op= .alloc t)(hd:o.dst=d)(hz:Hb C.P t=some z)(hn:z.cells.length≠0)(hr:Dh C γ0 w0 γ β U h a w):
  FW C γ0 w0 o a w (U.put d (.val (.ptr (some (h.length,0))))) (h++[.cells z.cells]):=by
 obtain⟨v,hv,A3⟩:=If hz;obtain⟨b,c⟩:=Ht (γ:=γ) (Fu hv) Ab;obtain⟨γ',En,hm,FZ,_⟩:=hr.newObj v.cells t (0,0) z.cells (.inl rfl) (by rw[AF (by rw[b.length];exact Ag _)];exact b) (λu hu=>c u (Bp hu));refine FW.value (v:= .pointer (some ⟨w.heap.size,0,none⟩)) ?_ (by rw[hd];exact FZ.put λs _=>⟨_,hm,rfl⟩);simp[execOp,ho,Instr.alloc,A3,newVar,newRow]
def cR{o:Oper}{t:TypeId}{x:Operand}{d:Option Nat}{v:Aa}(ho:o.op= .box t x)(hd:o.dst=d)(hx:E4 C U x=some v)(hn:v.cells.length≠0)(hr:Dh C γ0 w0 γ β U h a w):
  FW C γ0 w0 o a w (U.put d (.val (.ptr (some (h.length,0))))) (h++[.cells v.cells]):=by
 obtain⟨b,c⟩:=Ht (GJ hr hx) Ab;obtain⟨γ',En,hm,FZ,_⟩:=hr.newObj (a.eval x).cells t (0,0) v.cells (.inl rfl) (by rw[AF (by rw[b.length];exact Ag _)];exact b) (λu hu=>c u (Bp hu));refine FW.value (v:= .pointer (some ⟨w.heap.size,0,none⟩)) ?_ (by rw[hd];exact FZ.put λs _=>⟨_,hm,rfl⟩);simp[execOp,ho,Instr.box,newVar,newRow]
def Lo(hr:Dh C γ0 w0 γ β U h a w){x:Operand}{s o ver:Nat}{cs:List Aa}{ow:List Nat}(hx:Gn C U x=some (.Ps s o ver cs ow)):
  U.at s= .box ver cs ow/\a.eval x= .pointer (some ⟨β s,o,none⟩):=by
 unfold Gn at hx;split at hx;.rename_i s' Gr GY Ob hs;cases hx;have h0:=Sq hr s;rw[He hs] at h0;exact⟨He hs,h0.1⟩
 .rename_i s' o' _ hs;split at hx;.rename_i hb;cases hx;obtain⟨t,h1,_⟩:=Gt hr hs;exact⟨hb,h1⟩
  .cases hx
 .rename_i sl _ _ hs;cases hv:sl.Hr with
  |none=>rw[hv] at hx;cases hx
  |some u=>rw[hv] at hx;cases hx
 .cases hx
def Rz(hr:Dh C γ0 w0 γ β U h a w){x:Operand}{p:Aa}(hx:Gn C U x=some (.ptr p)):BQ γ p (a.eval x):=by
 unfold Gn at hx;split at hx;.cases hx
 .split at hx<;>cases hx
 .rename_i sl _ _ hs;cases hv:sl.Hr with
  |none=>rw[hv] at hx;cases hx
  |some u=>rw[hv] at hx;cases hx;obtain⟨t,h1,_⟩:=Gt hr hs;exact ND h1 hv
 .cases hx
def ID{t:TypeId}{n:Option Nat}(ht:Fq C.P t=some n){cs:List Aa}{us:List Value}{b o:Nat}(hv:Bj γ cs us)(hc:∀(j:Nat) (u:Value),us[j]?=some u->w.cell? ⟨b,o+j,none⟩=some u)(h1:∀u∈us,u.oneCell'=true)
  {r:Aa} (hp:Ft cs 0 n=some r):∃v,(Instr.loadAt t (.pointer (some ⟨b,o,none⟩))).run C.P w= .ok v w/\BQ γ r v:=by
 unfold Fq at ht;have NF:∀j,(⟨b,o,none⟩:Addr).add j=⟨b,o+j,none⟩:=λj=>by unfold Addr.add;split<;>simp_all
 have agg:∀d,C.P.underlying t=some d->(match d with| .struct _| .array _ _=>true|_=>false)=true->(B4 C.P t).map some=some n->
   ∃v,(Instr.loadAt t (.pointer (some ⟨b,o,none⟩))).run C.P w= .ok v w/\BQ γ r v:=by
  intro d hd hb hn;cases hs:B4 C.P t with
  |none=>rw[hs] at hn;cases hn
  |some k=>
   rw[hs] at hn;cases hn;simp only[Ft] at hp;split at hp
   .rename_i hk;cases hp;have hl:=run_loadCells_list (P:=C.P) w ⟨b,o,none⟩ (us.take k) (λj v hj=>by
     rw[NF];refine hc j v ?_;rw[Ci] at hj;split at hj;.exact hj
     .cases hj)
    have hlen:(us.take k).length=k:=by simp[hv.length];omega
    rw[hlen] at hl;refine⟨.agg (us.take k).toArray,?_,_,rfl,?_,λu hu=>h1 u (Bp (by simpa using hu))⟩
    .have rU:(isAgg t).run C.P w= .ok true w:=by unfold isAgg;rw[Sem.run_bind,run_underlying hd w];cases d<;>simp_all
     cases hq:C.P.info? t with
     |none=>simp[B4,hq] at hs
     |some i=>
      have hi:i.size=k:=by simpa[B4,hq] using hs
      simp[Instr.loadAt,Instr.sureAddr,loadVar,rU,sizeOf,typeInfo,hq,hi,hl]
    .simpa using hv.take k
   .cases hp
 split at ht;.rename_i fs hd;exact agg _ hd rfl ht
 .rename_i l e hd;exact agg _ hd rfl ht
 .rename_i d Nn TI hd;cases ht;simp only[Ft] at hp;obtain⟨u,hu,hr⟩:=hv.get hp;refine⟨u,?_,hr⟩;have rU:(isAgg t).run C.P w= .ok false w:=by unfold isAgg;rw[Sem.run_bind,run_underlying hd w];cases d<;>simp_all
  have JU:=hc 0 u hu;simp only[Bv] at JU;simp[Instr.loadAt,Instr.sureAddr,loadVar,rU,JU]
 .cases ht
def PD{cs:List Aa}{off:Nat}{n:Option Nat}{r:Aa}(h:Ft cs off n=some r):Ft (cs.drop off) 0 n=some r:=by
 cases n with
 |none=>simp only[Ft] at h⊢;rw[Ct];simpa using h
 |some n=>
  simp only[Ft] at h⊢;split at h;.cases h;rw[Af Ei];simp
  .cases h
def Dh.Z9(hr:Dh C γ0 w0 γ β U h a w){s ver:Nat}{cs:List Aa}{ow:List Nat}(hs:U.at s= .box ver cs ow):
  γ.Bu (β s)=some (.loc s)/\w0.heap.size<=β s/\∃us e,w.heap[β s]?=some (.cells us e (0,0))/\Bj γ cs us.toList/\(∀u∈us.toList,u.oneCell'=true)/\
   ∀o∈ow,∃u x,us[o]?=some u/\cs[o]?=some x/\IZ γ w0.heap.size w s (some o) u x:=by
 have h0:=hr.fr.It s;rw[hs] at h0;exact⟨h0.2.1,h0.2.2.1,h0.2.2.2⟩
def K6(hr:Dh C γ0 w0 γ β U h a w){t:TypeId}{n:Option Nat}(ht:Fq C.P t=some n){s ver off:Nat}{cs:List Aa}{ow:List Nat}(hs:U.at s= .box ver cs ow){r:Aa}(hp:Ft cs off n=some r):
  ∃v,(Instr.loadAt t (.pointer (some ⟨β s,off,none⟩))).run C.P w= .ok v w/\BQ γ r v/\(n=none->∀us e,w.heap[β s]?=some (.cells us e (0,0))->us[off]?=some v):=by
 obtain⟨_,_,us,e,h1,h2,i,_⟩:=hr.Z9 hs;obtain⟨v,f,g⟩:=ID (w:=w) (b:=β s) (o:=off) ht (h2.drop off) (λj u hj=>by rw[cell_of_row w _ _ us e (0,0) h1];rw[Ct] at hj;simpa using hj) (λu hu=>i u (Bw hu)) (PD hp)
 refine⟨v,f,g,λhn DT k c=>?_⟩;subst hn;rw[h1] at c;cases c;simp only[Ft] at hp;obtain⟨u,hu,_⟩:=h2.get hp;have JU:w.cell? ⟨β s,off,none⟩=some u:=by rw[cell_of_row w _ _ us e (0,0) h1];simpa using hu
 have rU:∃d,C.P.underlying t=some d/\(isAgg t).run C.P w= .ok false w:=by
  unfold Fq at ht;split at ht;.cases hz:B4 C.P t<;>rw[hz] at ht<;>cases ht
  .cases hz:B4 C.P t<;>rw[hz] at ht<;>cases ht
  .rename_i d Nn TI hd;refine⟨d,hd,?_⟩;unfold isAgg;rw[Sem.run_bind,run_underlying hd w];cases d<;>simp_all
  .cases ht
 obtain⟨d,hd,rU⟩:=rU;have:(Instr.loadAt t (.pointer (some ⟨β s,off,none⟩))).run C.P w= .ok u w:=by simp[Instr.loadAt,Instr.sureAddr,loadVar,rU,JU]
 rw[f] at this;cases this;simpa using hu
def Dh.T_(hr:Dh C γ0 w0 γ β U h a w){s ver off:Nat}{cs:List Aa}{ow:List Nat}(hs:U.at s= .box ver cs ow)(ho:off∈ow)(z_:off∉ow.erase off)(s':Nat)(c':Option Nat){u:Value}{v:Aa}(hv:cs[off]?=some v)
  (hu:∀us e,w.heap[β s]?=some (.cells us e (0,0))->us[off]?=some u):
  ∃γ',γ.le γ'/\Dh C γ0 w0 γ' β (U.set s (.box (ver+1) cs (ow.erase off))) h a w/\IZ γ' w0.heap.size w s' c' u v:=by
 have h0:=hr.fr.It s;rw[hs] at h0;obtain⟨h1,h2,r,us,e,j,q,p,i⟩:=h0;obtain⟨x,v',d,c,b⟩:=i off ho;rw[hv] at c;cases c;rw[hu us e j] at d;cases d;have Kx:Dh C γ0 w0 γ β (U.set s (.box (ver+1) cs (ow.erase off))) h a w:=hr.lW ⟨h1,h2,r,us,e,j,q,p,λo' zy=>i o' (List.mem_of_mem_erase zy)⟩;have hl:s<U.length:=BT.Px (by rw[hs];simp);rcases b with b|⟨g,n,cap,rH,t,z,AE,o,m,l,f,k⟩
 .exact⟨γ,.refl _,Kx,.inl b⟩
 .refine⟨γ.FO g (.tail s' c' (n*z)),Hs _ _ _,Kx.FO l f (λhn=>by cases hn) (λo' zy Gr GY Ob hb=>?_),.inr ⟨g,n,cap,rH,t,z,AE,o,m,by simp[Gh.FO],f,k⟩⟩;rw[BT.Fv hl] at hb;cases hb;cases zy;exact z_
def Zv{o:Oper}{t:TypeId}{x:Operand}{d:Nat}{take:Bool}{r:EM}{run:IT->Ah->Option Ka}{g:BT}{h':Ah}(ho:o.op= .load t x)(hd:o.dst=some d)(hc:LF C U t x d take=some r)(hp:∃ws,r= .pure ws)
  (Gd:r.NC C run (U.drop r.news) h g h') (hr:Dh C γ0 w0 γ β U h a w):FW C γ0 w0 o a w g h':=by
 have MU:∀v,(Instr.loadAt t (a.eval x)).run C.P w= .ok v w->(execOp a.eval o).run C.P w= .ok (.value v) w:=λv hv=>by simp[execOp,ho,hv]
 unfold LF at hc;split at hc;.cases hc;obtain⟨_,e⟩:=hp;cases e
 .rename_i s off ver cs ow ht ha;obtain⟨hs,hx⟩:=Lo hr ha;split at hc
  .rename_i hlt;have cS:cs[off]?=some (cs.getD off .nilIface):=by simp[List.getD,Al hlt]
   obtain⟨v,b,c,i⟩:=K6 hr ht hs (r:=cs.getD off .nilIface) (off:=off) (by simpa[Ft] using cS);rw[<-hx] at b;simp only at hc;split at hc
   .rename_i H5;cases hc;rw[Ok AH] at Gd;obtain⟨rfl,rfl⟩:=Gd;simp only[BC,aFl] at H5;obtain⟨⟨j,f⟩,_⟩:=H5;have f:off∉ow.erase off:=by simpa using f
    obtain⟨γ',En,FZ,FG⟩:=hr.T_ hs j f d none cS (i rfl);exact FW.value (MU v b) (by rw[hd];exact FZ.put (d:=some d) λs' Wa=>by cases Wa;exact⟨BQ.mono En _ _ c,FG⟩)
   .cases hc;rw[Ok AH] at Gd;obtain⟨rfl,rfl⟩:=Gd;exact FW.value (MU v b) (by rw[hd];exact hr.put (d:=some d) λ_ _=>c)
  .cases hc
 .rename_i n s off ver cs ow ht ha;obtain⟨hs,hx⟩:=Lo hr ha;split at hc;.rename_i En;cases hc;rw[Ok AH] at Gd;obtain⟨rfl,rfl⟩:=Gd;obtain⟨v,b,c,_⟩:=K6 hr ht hs (r:= .agg ((cs.drop off).take n)) (off:=off) (by simp[Ft,En]);rw[<-hx] at b;exact FW.value (MU v b) (by rw[hd];exact hr.put (d:=some d) λ_ _=>c)
  .cases hc
 .cases hc
def qc{o:Oper}{t:TypeId}{x:Operand}{n:Option Nat}{p r:Aa}(ho:o.op= .load t x)(ht:Fq C.P t=some n)(hx:Gn C U x=some (.ptr p))(hl:A8 h n p=some r)(hr:Dh C γ0 w0 γ β U h a w):
  FW C γ0 w0 o a w (U.put o.dst (.val r)) h:=by
 have hv:=Rz hr hx;have MU:∀v,(Instr.loadAt t (a.eval x)).run C.P w= .ok v w->(execOp a.eval o).run C.P w= .ok (.value v) w:=λv hv=>by simp[execOp,ho,hv]
 unfold A8 at hl;split at hl
 .rename_i cs;obtain⟨b,k,hv,hm⟩:=hv;obtain⟨us,g,d⟩:=hm.values;obtain⟨v,c,f⟩:=ID (w:=w) ht g (λj u hj=>(hr.D6.Iw _ _ _ (d j u hj)).1) (λu hu=>by obtain⟨j,hj⟩:=CU hu;exact(hr.D6.Iw _ _ _ (d j u hj)).2.1) hl
  rw[<-hv] at c;exact FW.value (MU v c) (hr.put λ_ _=>f)
 .rename_i id off;obtain⟨b,hb,hv⟩:=hv;split at hl
  .rename_i cs hcs;obtain⟨us,e,fr,g,pf,d,i⟩:=hr.D6.cells id cs hcs b hb;obtain⟨v,c,f⟩:=ID (w:=w) (b:=b) (o:=off) ht (d.drop off) (λj u hj=>by
    rw[cell_of_row w _ _ us e fr g];rw[Ct,Ci] at hj;split at hj;.simpa using hj
    .cases hj) (λu hu=>i u (Bw hu)) (PD hl)
   rw[<-hv] at c;exact FW.value (MU v c) (hr.put λ_ _=>f)
  .cases hl
 .cases hl
end
end Go.Am
end
section
namespace Go.Am
open Go
section
variable{C:FY}{γ0 γ γ':Gh}{w0 w w':World}{β:Nat->Nat}{U:BT}{h:Ah}{a:Act}{fid:FuncId}{ops:List Oper}
def EO{b:Nat}{t:TypeId}{fr:Nat×Nat}:∀(vs:List Value) (o:Nat) (cur:Array Value) (w:World),w.heap[b]?=some (.cells cur t fr)->o+vs.length<=cur.size->
  w.setCells b o vs=w.setRow b (cur.toList.take o++vs++cur.toList.drop (o+vs.length)).toArray
 |[],o,cur,w,hg,_=>by simp only[World.setCells,By,BJ,Bv,CG,Array.toArray_toList];exact(setRow_self w b cur t fr hg).symm
 |v::r,o,cur,w,hg,hl=>by simp only[A9] at hl;rw[World.setCells,setCell_eq_setRow w b o cur t fr v hg,EO r (o+1) _ _ (setRow_heap w b cur _ t fr hg) Ei,setRow_setRow];have e:=list_seg_step cur.toList o v r Ei;simp only[Array.toList_setIfInBounds,A9];rw[e]
def OW{t:TypeId}{n b o:Nat}(hn:B4 C.P t=some n){u:Value}(hu:u.cells.size=n)(h1:∀x∈u.cells.toList,x.oneCell'=true){cur:Array Value}{e:TypeId}{fr:Nat×Nat}(hg:w.heap[b]?=some (.cells cur e fr))(xJ:TT fr cur.size)
  (hl:o+n<=cur.size):(Instr.storeAt t (.pointer (some ⟨b,o,none⟩)) u).run C.P w= .ok () (w.setRow b (cur.toList.take o++u.cells.toList++cur.toList.drop (o+n)).toArray):=by
 have hs:=run_storeCells_cells (P:=C.P) b o u.cells.toList 0 w (λj hj=>by
  rw[cell_of_row w _ _ cur e fr hg];simp at hj;rw[CX Ab];rfl) (λj hj=>by
  simp at hj;simp only[World.frozen?,hg];rcases xJ with rfl|xJ
  .simp
  .simp;omega) h1
 rw[Bv,EO _ o cur w hg Ei] at hs;cases hq:C.P.info? t with
 |none=>simp[B4,hq] at hn
 |some i=>
  have hi:i.size=n:=by simpa[B4,hq] using hn
  simp only[Ch,hu] at hs;simp[Instr.storeAt,Instr.sureAddr,storeVar,sizeOf,typeInfo,hq,hi,hu,hs]
def Xr{Z:Type}{cs vs:List Z}{off n o:Nat}(hl:off+n<=cs.length)(hv:vs.length=n)(ho:¬(off<=o/\o<off+n)):(cs.take off++vs++cs.drop (off+n))[o]?=cs[o]?:=by
 have b:(cs.take off).length=off:=Ei;by_cases h:o<off;.rw[Aj (by simp[hv];omega),Aj Ab,C3 h]
 .rw[Bm (by simp[hv];omega),Ct];congr 1
  simp[hv];omega
def aA{Z:Type}{cs:List Z}{off n:Nat}{x:Z}(hl:off+n<=cs.length):(cs.take off++[x]++cs.drop (off+n))[off]?=some x:=by have b:(cs.take off).length=off:=Ei;rw[Aj Ei,Bm Ab];simp[b]
def M0{Z:Type}{us vs:List Z}{off n len:Nat}(hl:len<=us.length)(ho:off+n<=len)(hv:vs.length=n):
  (us.take off++vs++us.drop (off+n)).take len=(us.take len).take off++vs++(us.take len).drop (off+n):=by
 have c:(us.take off).length=off:=Ei;have b:(us.take off++vs).length=off+n:=by simp[hv];omega
 rw[wN,AF Ab,b,FA,Cs Ab,List.drop_take]
def Oq{cs vs:List Aa}{us DT:List Value}{off n:Nat}(h:Bj γ cs us)(h':Bj γ vs DT):Bj γ (cs.take off++vs++cs.drop (off+n)) (us.take off++DT++us.drop (off+n)):=
 ((h.take off).append h').append (h.drop (off+n))
def IZ.aAr{B s d g:Nat}(hg:γ.Bu g=some (.loc s)){c:Option Nat}{v:Value}{u:Aa}(DT:Array Value)(ho:IZ γ B w d c v u):IZ γ B (w.setRow g DT) d c v u:=by
 rcases ho with ho|⟨g2,n,cap,us,e,z,AE,h1,h2,b,j,i,f⟩
 .exact .inl ho
 .have hb:g2≠g:=λhe=>by subst he;rw[hg] at b;cases b
  exact .inr ⟨g2,n,cap,us,e,z,AE,h1,h2,b,j,by rw[setRow_other w g g2 DT hb];exact i,f⟩
def Xs(γ:Gh)(w:World)(g:Nat)(us:Array Value):Qm g γ w γ (w.setRow g us):=
 ⟨.refl _,λb x hb hx _=>⟨hx,setRow_other w g b us hb⟩⟩
def Dh.mI(hr:Dh C γ0 w0 γ β U h a w){s ver Gr off n:Nat}{cs:List Aa}{ow:List Nat}(hs:U.at s= .box ver cs ow){vs:List Aa}{DT:List Value}(hv:Bj γ vs DT)(h1:∀u∈DT,u.oneCell'=true)(hn:vs.length=n)
  (hl:off+n<=cs.length) {Bu:Bool} (FG:Bu=true->∃u x,DT=[u]/\vs=[x]/\IZ γ w0.heap.size w s (some off) u x) {us:Array Value} {e:TypeId} (hg:w.heap[β s]?=some (.cells us e (0,0))):
  Dh C γ0 w0 γ β (U.set s (.box Gr (Xe cs off n vs) (Sj ow off n Bu))) h a (w.setRow (β s) (us.toList.take off++DT++us.toList.drop (off+n)).toArray):=by
 have h0:=hr.fr.It s;rw[hs] at h0;obtain⟨t,d,l,nc,e0,k,j,i,r⟩:=h0;rw[hg] at k;cases k;have hlen:DT.length=n:=by rw[hv.length,hn]
 have lK:off+n<=us.toList.length:=by rw[j.length];exact hl
 have qd:s<U.length:=BT.Px (by rw[hs];simp);refine⟨fc hr.D6 d _,⟨by simp[hr.fr.size],λf=>?_⟩,hr.D0.write (g:=β s) l (.refl _) AH rfl rfl rfl (λb hb=>⟨setRow_other w _ b _ hb,rfl⟩),hr.defers,hr.Ha⟩;by_cases he:f=s
 .subst he;rw[BT.Fv qd];refine⟨t,d,l,_,e,setRow_heap w _ us _ e (0,0) hg,?_,?_,?_⟩;.simpa[Xe] using Oq (off:=off) (n:=n) j hv
  .intro u hu;simp only[AI,Ax] at hu;rcases hu with hu|hu|hu
   .exact i u (Bp hu)
   .exact h1 u hu
   .exact i u (Bw hu)
  .intro o ho;have Jf:(Bu=true/\o=off)\/(o∈ow/\¬(off<=o/\o<off+n)):=by
    unfold Sj at ho;have hf:o∈ow.filter (λo=> !(decide (off<=o)&&decide (o<off+n)))->o∈ow/\¬(off<=o/\o<off+n):=λhm=>by rw[DN] at hm;refine⟨hm.1,λhc=>?_⟩;have:=hm.2;simp[hc.1,hc.2] at this
    cases Bu with
    |true=>
     simp only[BN,AS] at ho;rcases ho with ho|ho
     .exact .inl ⟨rfl,ho⟩
     .exact .inr (hf ho)
    |false=>exact .inr (hf ho)
   rcases Jf with⟨c,rfl⟩|⟨c,Zh⟩
   .obtain⟨u,x,rfl,rfl,v⟩:=FG c;exact⟨u,x,by simpa using aA (x:=u) lK,by simpa[Xe] using aA (x:=x) hl,v.aAr d _⟩
   .obtain⟨u,x,q,p,m⟩:=r o c;refine⟨u,x,?_,?_,m.aAr d _⟩;.rw[<-q];have:=Xr lK hlen Zh;simpa using this
    .rw[<-p];exact Xr hl hn Zh
 .rw[BT.Gi (λx=>he x.symm)];exact(hr.fr.It f).keptBut d (Xs γ w _ _) (by simp only[KH.rE];intro hx;cases hx;exact he rfl)
def PE(hr:Dh C γ0 w0 γ β U h a w){y:Operand}{v:Aa}(hy:Lj C U y=true)(hv:E4 C U y=some v)(s':Nat)(c':Option Nat):
  ∃γ',γ.le γ'/\Dh C γ0 w0 γ' β (U.DU (Dv U y)) h a w/\BQ γ' v (a.eval y)/\IZ γ' w0.heap.size w s' c' (a.eval y) v:=by
 unfold Lj at hy;cases hs:Ef C U y with
 |none=>rw[hs] at hy;cases hy
 |some sl=>
  rw[hs] at hy;cases sl with
  |Bu u=>
   have b:u=v:=by unfold E4 at hv;rw[hs] at hv;exact D5 hv
   subst b;cases y with
   |tmp t=>have ht:U.at t= .Bu u:=He hs;obtain⟨γ',En,FZ,h1,h2⟩:=hr.take ht s' c';exact⟨γ',En,by simpa[Dv,ht,BT.DU] using FZ,h1,h2⟩
   |const c=>
    refine⟨γ,.refl _,hr,GJ hr hv,?_⟩;obtain⟨q,_⟩:=Sr (γ:=γ) (β:=β) (w:=w) hs;unfold Ef at hs;split at hs;.rename_i e;cases e
    .cases hs
    .cases hs;exact .inl (.inl rfl)
    .rename_i Ky;cases Ky;cases hc:K4 c with
     |none=>rw[hc] at hs;cases hs
     |some _=>rw[hc] at hs;cases hs
    .rename_i e;cases e
    .cases hs
   |global g=>have Wa:(C.Ha g).map (λcs=>Es.val (Aa.CH cs))=some (.Bu u):=hs;cases hc:C.Ha g<;>rw[hc] at Wa<;>cases Wa
   |func f=>cases hs
  |_=>cases hy
def rV{B s:Nat}{c:Option Nat}{v:Value}{x:Aa}(h:IZ γ B w s c v x):x.cells=[x]:=by rcases h with(rfl|⟨_,rfl⟩)|⟨_,_,_,_,_,_,_,rfl,_⟩<;>rfl
def rW{o:Oper}{t:TypeId}{x y:Operand}{s off n ver:Nat}{v:Aa}{Bu:Bool}{c:Option (Nat×Aa)}{cells:List Aa}{owned:List Nat}{run:IT->Ah->Option Ka}{i:BT}{h':Ah}(ho:o.op= .store t x y)(hd:o.dst=none)
  (hc:JD C U t x y=some (.Ni s off n v Bu c ver cells owned)) (Gd:(EM.Ni s off n v Bu c ver cells owned).NC C run U h i h') (hr:Dh C γ0 w0 γ β U h a w):FW C γ0 w0 o a w i h':=by
 unfold JD at hc;split at hc;.cases hc
 .rename_i m sh s' qe Gr GY Ob v' K5 qQ ha hv;split at hc
  .rename_i hl;simp only[BB,EM.Ni.injEq] at hc;obtain⟨rfl,rfl,rfl,rfl,FG,Zw,rfl,rfl,rfl⟩:=hc;obtain⟨hn,rfl,rfl⟩:=Gd;obtain⟨hs,hx⟩:=Lo hr ha;have xO:=GJ hr hv;obtain⟨_,_,us,e,hg,k,l,_⟩:=hr.Z9 hs;have qd:qe+(m+1)<=us.size:=by have:=k.length;simp at this;omega
   obtain⟨f,d⟩:=Ht xO Ab;have rX:(a.eval y).cells.size=m+1:=by have:=f.length;simp at this;omega
   have HN:=OW (C:=C) (b:=β s') (o:=qe) K5 rX d hg (.inl rfl) qd;rw[<-hx] at HN;have MU:(execOp a.eval o).run C.P w= .ok .skip (w.setRow (β s') (us.toList.take qe++(a.eval y).cells.toList++us.toList.drop (qe+(m+1))).toArray):=by simp[execOp,ho,HN]
   by_cases hw:Bu=true
   .subst hw;rw[Af FG] at Zw;subst Zw;simp only[BC] at FG;obtain⟨j,En,Kx,h1,h2⟩:=PE hr FG.2 hv s' (some qe);have Q4:=rV h2;have JV:(U.DU (Dv U y)).at s'= .box Gr GY Ob:=by
     cases y with
     |tmp t'=>
      simp only[Dv];cases ht:U.at t' with
      |Bu u=>simp only[BT.DU];rw[BT.Gi (λe=>by rw[e,hs] at ht;cases ht)];exact hs
      |_=>exact hs
     |_=>exact hs
    have LW:=Kx.mI (Gr:=Gr+1) (Bu:=true) (n:=m+1) JV (Bj.mono En _ _ f) d hn hl (λ_=>?_) hg;.exact FW.skip MU (by rw[hd];exact LW)
    .have hcl:(a.eval y).cells=#[a.eval y]:=by
      rcases h2 with(h2|⟨z,h2⟩)|⟨_,_,_,_,_,_,_,_,h2,_⟩
      .subst h2;rw[show a.eval y=_ from h1];rfl
      .subst h2;obtain⟨_,h1⟩:=h1;rw[h1];rfl
      .rw[h2];rfl
     exact⟨a.eval y,v',by rw[hcl],Q4,h2⟩
   .have g:Bu=false:=by simpa using hw
    subst g;rw[Ad (by rw[FG];simp)] at Zw;subst Zw;exact FW.skip MU (by rw[hd];exact hr.mI (Gr:=Gr+1) (Bu:=false) hs f d hn hl (λe=>by cases e) hg)
  .cases hc
 .cases hc
def fx{o:Oper}{t:TypeId}{x y:Operand}{n:Nat}{p v:Aa}{h':Ah}(ho:o.op= .store t x y)(hd:o.dst=none)(K5:B4 C.P t=some (n+1))(hx:Gn C U x=some (.ptr p))(hv:E4 C U y=some v)(HN:Cv h (n+1) p v=some h')(hr:Dh C γ0 w0 γ β U h a w):
  FW C γ0 w0 o a w U h':=by
 have c:=Rz hr hx;have xO:=GJ hr hv;unfold Cv at HN;split at HN
 .rename_i id off;obtain⟨b,hb,d⟩:=c;split at HN
  .rename_i cs hcs;split at HN
   .rename_i hl;cases HN;obtain⟨us,e,fr,hg,pf,k,j⟩:=hr.D6.cells id cs hcs b hb;obtain⟨i,g⟩:=Ht xO Ab;have rX:(a.eval y).cells.size=n+1:=by have:=i.length;simp at this;omega
    have hlt:cs.length<=us.size:=by have:=k.length;simp at this;omega
    have qd:off+(n+1)<=us.size:=Ab;have A3:=OW (C:=C) (b:=b) (o:=off) K5 rX g hg pf qd;rw[<-d] at A3;obtain⟨hi,ha⟩:=NA hr.D6 hcs hb hg (us.toList.take off++(a.eval y).cells.toList++us.toList.drop (off+(n+1))).toArray (cs.take off++v.cells++cs.drop (off+(n+1)))
     (by simp only[B8,Au,Aw,Bd,Ch,rX];omega)
     (by
      rcases pf with rfl|pf
      .exact .inl rfl
      .refine .inr (Bs (MI ?_) pf);simp only[B8,Au,Aw,Bd,Ch,rX];omega)
     (by
      have:=Oq (off:=off) (n:=n+1) k i;rw[<-M0 (by simpa using hlt) hl.2 (by simpa using rX)] at this;have f:(cs.take off++v.cells++cs.drop (off+(n+1))).length=cs.length:=by simp[hl.1];omega
      rw[f];simpa using this) (λu hu=>by
      have f:(cs.take off++v.cells++cs.drop (off+(n+1))).length=cs.length:=by simp[hl.1];omega
      rw[f] at hu;simp only[KV] at hu;rw[M0 (by simpa using hlt) hl.2 (by simpa using rX)] at hu;simp only[AI,Ax] at hu;rcases hu with hu|hu|hu
      .exact j u (Bp hu)
      .exact g u hu
      .exact j u (Bw hu))
    have MU:(execOp a.eval o).run C.P w= .ok .skip (w.setRow b (us.toList.take off++(a.eval y).cells.toList++us.toList.drop (off+(n+1))).toArray):=by simp[execOp,ho,A3]
    exact FW.skip MU (by rw[hd];exact hr.Je hi ha)
   .cases HN
  .cases HN
 .cases HN
def Dh.freeze(hr:Dh C γ0 w0 γ β U h a w){s ver:Nat}{cs:List Aa}{ow:List Nat}(hs:U.at s= .box ver cs ow):
  ∃γ',γ.le γ'/\Dh C γ0 w0 γ' β (U.set s (.val (.CH cs))) h a w/\BQ γ' (.CH cs) (a.tmps.getD s undef):=by
 have h0:=hr.fr.It s;rw[hs] at h0;obtain⟨z,f,B,us,e,t,m,l,A⟩:=h0;have qd:s<U.length:=BT.Px (by rw[hs];simp);have pq:∀o,γ.Iw (β s) o=none:=λo=>by
  cases hc:γ.Iw (β s) o with
  |none=>rfl
  |some u=>obtain⟨_,_,q⟩:=hr.D6.Iw _ _ _ hc;rw[f] at q;rcases q with q|⟨_,_,_,q,_⟩<;>cases q
 have En:γ.le (γ.DB (β s) us us.size none):=⟨λb o v hb=>by
  have:b≠β s:=λe=>by rw[e,pq] at hb;cases hb
  simp only[Gh.DB,Ad this];exact hb,λ_ _ hm=>hm,λ_ _ hm=>hm⟩
 have hne:∀b id,γ.Bu b=some (.Mj id)->b≠β s:=λb id hb e=>by rw[e,f] at hb;cases hb
 have hk:Qm (β s) γ w (γ.DB (β s) us us.size none) w:=⟨En,λb x hb hx _=>⟨by simp only[Gh.DB,Ad hb];exact hx,rfl⟩⟩;have hv:BQ (γ.DB (β s) us us.size none) (.CH cs) (a.tmps.getD s undef):=by
  refine⟨β s,0,z,C8.Hd λi x hi=>?_⟩;obtain⟨u,d,c⟩:=m.get hi;have hlt:i<us.size:=by have:=(Ak.1 d).1;simpa using this
  exact⟨u,by simp only[Gh.DB,BN,BV,Af hlt];simpa using d,BQ.mono En _ _ c⟩
 have aBQ:∀b n,γ.sz b=some n->(∃us e fr,w.heap[b]?=some (.cells us e fr)/\us.size=n)/\((γ.DB (β s) us us.size none).Bu b=none\/∃id,(γ.DB (β s) us us.size none).Bu b=some (.Mj id)):=λb n hb=>by
  obtain⟨p,r⟩:=hr.D6.sz b n hb;by_cases he:b=β s;.subst he;exact⟨p,.inl (by simp[Gh.DB])⟩
  .exact⟨p,by simp only[Gh.DB,Ad he];exact r⟩
 refine⟨_,En,⟨⟨λb o v hb=>?_,λid y Ie hy=>?_,λid GY hc b hb=>?_,λid es hc b hb=>?_,hr.D6.mu,λb x hx=>?_,aBQ⟩,⟨by simp[hr.fr.size],λj=>?_⟩,?_,hr.defers,λx GY hx=>C8.mono En _ _ _ (hr.Ha x GY hx)⟩,hv⟩
 .by_cases he:b=β s
  .subst he;simp only[Gh.DB,BN] at hb⊢;split at hb;.exact⟨by rw[cell_of_row _ _ _ us e (0,0) t];exact hb,l v (by rw[A7] at hb;obtain⟨p,q⟩:=hb;rw[<-q];exact Array.getElem_mem_toList p),.inl AH⟩
   .cases hb
  .simp only[Gh.DB,Ad he] at hb⊢;exact hr.D6.Iw b o v hb
 .obtain⟨b,d,c⟩:=hr.D6.Mj id y Ie hy;exact⟨b,d,by simp only[Gh.DB,Ad (hne b id c)];exact c⟩
 .obtain⟨DT,g,e_,d,qf,c,k⟩:=hr.D6.cells id GY hc b hb;exact⟨DT,g,e_,d,qf,Bj.mono En _ _ c,k⟩
 .obtain⟨DT,g,d,c⟩:=hr.D6.map id es hc b hb;exact⟨DT,g,d,c.mono En⟩
 .by_cases he:b=β s;.subst he;exact hr.D6.Bu _ _ f
  .simp only[Gh.DB,Ad he] at hx;exact hr.D6.Bu b x hx
 .by_cases he:j=s;.subst he;rw[BT.Fv qd];exact hv
  .rw[BT.Gi (λx=>he x.symm)];exact(hr.fr.It j).keptBut f hk (by simp only[KH.rE];intro hx;cases hx;exact he rfl)
 .refine⟨hr.D0.le.trans En,hr.D0.size,hr.D0.os,hr.D0.tape,hr.D0.output,λb hb hn=>?_⟩;obtain⟨d,c⟩:=hr.D0.Oi b hb hn;exact⟨d,by simp only[Gh.DB,Ad (Ab:b≠β s)];exact c⟩
def Dh.TW:∀{fz:List (Nat×List Aa)} {γ:Gh} {U:BT},Dh C γ0 w0 γ β U h a w->(∀p∈fz,∃ver ow,U.at p.1= .box ver p.2 ow)->(fz.map (·.1)).Nodup->
  ∃γ',γ.le γ'/\Dh C γ0 w0 γ' β (U.El (fz.map λ(s,cs)=>(s,.val (.CH cs)))) h a w/\∀p∈fz,BQ γ' (.CH p.2) (a.tmps.getD p.1 undef)
 |[],γ,U,hr,_,_=>⟨γ,.refl _,hr,AH⟩
 |(s,cs)::fz,γ,U,hr,hb,hn=>by
  simp only[Bl,B5] at hn;obtain⟨ver,ow,hs⟩:=hb (s,cs) AH;obtain⟨d,aKJ,Kx,U_⟩:=hr.freeze hs;obtain⟨b,mJ,LW,Sx⟩:=TW (fz:=fz) Kx (λp hp=>by obtain⟨Gr,Ob,c⟩:=hb p (by simp[hp]);refine⟨Gr,Ob,?_⟩;rw[BT.Gi (λe=>hn.1 (by rw[show s=p.1 from e];exact Bk.2 ⟨p,hp,rfl⟩))];exact c) hn.2
  refine⟨b,aKJ.trans mJ,LW,λp hp=>?_⟩;rcases AS.1 hp with rfl|hp
  .exact BQ.mono mJ _ _ U_
  .exact Sx p hp
def No:∀{xs:List Operand} {vs:List Aa} {fz:List (Nat×List Aa)},Gp C U xs=some (vs,fz)->
  (∀p∈fz,∃ver ow,U.at p.1= .box ver p.2 ow)/\(fz.map (·.1)).Nodup/\
  ∀γ',(∀x u,E4 C U x=some u->BQ γ' u (a.eval x))->(∀p∈fz,BQ γ' (.CH p.2) (a.tmps.getD p.1 undef))->Bj γ' vs (xs.map a.eval)
 |[],vs,fz,hc=>by cases hc;exact⟨AH,AH,λ_ _ _=>rfl⟩
 |x::xs,vs,fz,hc=>by
  unfold Gp at hc;split at hc;.cases hc
  .rename_i HZ f d;obtain⟨h1,h2,e⟩:=No d;split at hc
   .rename_i s ver cs ow hs;split at hc;.cases hc
    .rename_i hn;cases hc;have hsb:U.at s= .box ver cs ow:=He hs;refine⟨λp hp=>?_,?_,λγ' c b=>?_⟩
     .rcases AS.1 hp with rfl|hp
      .exact⟨ver,ow,hsb⟩
      .exact h1 p hp
     .simp only[Bl,B5];exact⟨by simpa using hn,h2⟩
     .exact⟨_,_,rfl,b (s,cs) AH,e γ' c λp hp=>b p (by simp[hp])⟩
   .rename_i sl _ hs;cases hv:sl.Hr with
    |none=>rw[hv] at hc;cases hc
    |some u=>rw[hv] at hc;cases hc;exact⟨h1,h2,λγ' c b=>⟨_,_,rfl,c _ u (by unfold E4;rw[hs];exact hv),e γ' c b⟩⟩
   .cases hc
def mK{o:Oper}{fn:Fn}{first captured:Array Operand}{d:Nat}{as bs:List Aa}{fz:List (Nat×List Aa)}(ho:o.op= .makeFunc fn first captured)(hd:o.dst=some d)(ha:Bz C U first.toList=some as)(hb:Gp C U captured.toList=some (bs,fz))(hr:Dh C γ0 w0 γ β U h a w):
  FW C γ0 w0 o a w (((U.drop (fz.map (·.1))).El (fz.map λ(s,cs)=>(s,.val (.CH cs)))).set d (.val (.func fn as bs))) h:=by
 obtain⟨h1,h2,b⟩:=No (a:=a) hb;obtain⟨γ',En,FZ,hv⟩:=(hr.drop (fz.map (·.1))).TW (fz:=fz) (λp hp=>by obtain⟨ver,ow,hs⟩:=h1 p hp;exact⟨ver,ow,by rw[BT.Sw,hs]⟩) h2
 refine FW.value (w':=w) (v:= .func fn (first.map a.eval) (captured.map a.eval)) (by simp[execOp,ho,Instr.makeFunc]) (by rw[hd];exact FZ.put (d:=some d) λ_ _=>⟨_,_,rfl,by simpa using Bj.mono En _ _ (D1 hr ha),by simpa using b γ' (λx u hx=>BQ.mono En _ _ (GJ hr hx)) hv⟩)
end
end Go.Am
end
