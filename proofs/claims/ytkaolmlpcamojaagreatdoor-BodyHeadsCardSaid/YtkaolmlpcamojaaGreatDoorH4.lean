/- Lemmas -/
import Derived.Test.YtkaolmlpcamojaaGreatDoorH3
import Derived.Laws.IdiomCopy
set_option linter.all false
section
namespace Go.Am
open Go
def qi(β:Nat->Nat)(d b:Nat):Nat->Nat:=λs=>if s=d then b else β s
def K0.sX:K0->Option Nat
 | .MC _=>none
 | .loc s=>some s
 | .tail s _ _=>some s
structure QG(g:Nat)(γ:Gh)(w:World)(γ':Gh)(w':World):Prop where
 le:γ.le γ'
 OI:∀b x,b≠g->γ.Bs b=some x->x.td=false->γ'.Bs b=some x/\w'.heap[b]?=w.heap[b]?
section
variable{C:Gb}{γ0 γ γ':Gh}{w0 w w':World}{β:Nat->Nat}{U:BU}{h:Ai}{a:Act}{fid:FuncId}{ops:List Oper}
def BU.SY(U:BU)(ds:List Nat)(s:Nat):(U.drop ds).at s=match U.at s with| .Fo t o=>if ds.contains t then .undef else .Fo t o|x=>x:=by
 cases ds with
 |nil=>simp only[BU.drop,List.contains_nil];cases U.at s<;>simp
 |cons d ds=>
  simp only[BU.drop,BU.at,List.getD,Cn];cases hg:U[s]? with
  |none=>rfl
  |some x=>cases x<;>rfl
def BU.length_drop(U:BU)(ds:List Nat):(U.drop ds).length=U.length:=by cases ds<;>simp[BU.drop]
def L2.aLv{B s d b:Nat}{x:Ew}{v:Value}(hx:L2 γ β B w s x v)(hn:∀o,x≠ .Fo d o)(hs:s≠d):L2 γ (qi β d b) B w s x v:=by
 cases x with
 |box ver cs ow=>simpa only[L2,qi,Ad hs] using hx
 |Fo t o=>have:t≠d:=λe=>hn o (by rw[e]);simpa only[L2,qi,Ad this] using hx
 |_=>exact hx
def I6.keptBut{g B s:Nat}{d:K0}(hg:γ.Bs g=some d)(k:QG g γ w γ' w')(hne:d.sX≠some s){c:Option Nat}{v:Value}{u:Aa}(ho:I6 γ B w s c v u):I6 γ' B w' s c v u:=by
 rcases ho with ho|⟨g2,n,cap,us,e,z,AE,h1,h2,b,m,l,j⟩
 .exact .inl ho
 .have hb:g2≠g:=λhe=>by subst he;rw[hg] at b;cases b;exact hne rfl
  obtain⟨i,f⟩:=k.OI g2 _ hb b rfl;exact .inr ⟨g2,n,cap,us,e,z,AE,h1,h2,i,m,by rw[f];exact l,j⟩
def L2.keptBut{g B s:Nat}{d:K0}(hg:γ.Bs g=some d)(k:QG g γ w γ' w')(hne:d.sX≠some s){x:Ew}{v:Value}(hx:L2 γ β B w s x v):L2 γ' β B w' s x v:=by
 cases x with
 |undef=>trivial
 |skip=>exact hx
 |val u=>exact BQ.mono k.le u v hx
 |Px b=>exact hx
 |Bs u=>exact⟨BQ.mono k.le u v hx.1,hx.2.keptBut hg k hne⟩
 |box ver cs ow=>
  obtain⟨r,c,q,us,e,p,n,m,l⟩:=hx;have hb:β s≠g:=λhe=>by rw[he,hg] at c;cases c;exact hne rfl
  obtain⟨y,t⟩:=k.OI _ _ hb c rfl;exact⟨r,y,q,us,e,by rw[t];exact p,Bl.mono k.le cs _ n,m,λo ho=>let⟨u,v,j,i,f⟩:=l o ho;⟨u,v,j,i,f.keptBut hg k hne⟩⟩
 |Fo s' o=>exact hx
def Df.tw(hr:Df C γ0 w0 γ β U h a w)(d:Nat)(us:Array Value)(e:TypeId)(cells:List Aa)(ow:List Nat)(hc:Bl γ cells us.toList)(h1:∀u∈us.toList,u.oneCell'=true)
  (how:∀o∈ow,cells[o]?=some .slnil):
  ∃γ' b,Df C γ0 w0 γ' b ((U.drop [d]).set d (.box 0 cells ow)) h (a.put (some d) (.pointer (some ⟨w.heap.size,0,none⟩))) (w.alloc (.cells us e)):=by
 obtain⟨hi,ha⟩:=PT hr.D5 us e (0,0) 0 (some (.loc d)) (λ_ _ ho=>absurd ho (Nat.not_lt_zero _)) (.inr (.inr ⟨rfl,AH⟩));have KQ:=(hr.drop [d]).Jj hi ha;refine⟨_,qi β d w.heap.size,KQ.D5,⟨by simp[Act.put,KQ.fr.size],λs=>?_⟩,KQ.DZ,KQ.defers,KQ.Hk⟩;have hs:=KQ.fr.IB s;by_cases he:s=d
 .subst he;by_cases hl:s<(U.drop [s]).length
  .have c:s<a.tmps.size:=by rw[<-KQ.fr.size];exact hl
   rw[BU.Fw hl];have i:(a.put (some s) (.pointer (some ⟨w.heap.size,0,none⟩))).tmps.getD s undef= .pointer (some ⟨w.heap.size,0,none⟩):=by simp[Act.put,Array.getD,c]
   rw[i];refine⟨by simp[qi],by simp[qi,Gh.Dy],?_,us,e,?_,Bl.mono ha.le _ _ hc,h1,λo ho=>?_⟩;.simp only[qi,BJ];exact hr.DZ.size
   .simp only[qi,BJ];exact heap_alloc_new w _
   .have hco:=how o ho;obtain⟨u,f,j⟩:=hc.get hco;exact⟨u,.slnil,by simpa using f,hco,.inl (.inl rfl)⟩
  .have:BU.at ((U.drop [s]).set s (.box 0 cells ow)) s= .undef:=by simp[BU.at,List.getD];rw[Ec (by simpa using hl)];rfl
   rw[this];trivial
 .rw[BU.Gn (λe=>he e.symm)];have g:(a.put (some d) (.pointer (some ⟨w.heap.size,0,none⟩))).tmps.getD s undef=a.tmps.getD s undef:=by simp[Act.put,Hs,sT (λe=>he e.symm)]
  rw[g];refine hs.aLv (λo ho=>?_) he;rw[BU.SY] at ho;cases hx:U.at s with
  |Fo t o'=>
   rw[hx] at ho;simp only at ho;split at ho;.cases ho
   .rename_i hc;cases ho;exact hc AH
  |_=>rw[hx] at ho;cases ho
def Io{P:Program}{t:TypeId}{z:Aa}(hz:Hl P t=some z):∃v,Lr v=some z/\∀w,(zeroValue t).run P w= .ok v w:=by
 unfold Hl at hz;cases hi:P.info? t with
 |none=>rw[hi] at hz;cases hz
 |some i=>
  rw[hi] at hz;cases hv:i.zero with
  |none=>simp[hv] at hz
  |some v=>simp only[Ct,hv] at hz;exact⟨v,hz,λw=>by simp[zeroValue,typeInfo,hi,hv]⟩
def tO{cs:List Aa}{o:Nat}(h:o∈Xz cs):cs[o]?=some .slnil:=by
 simp only[Xz,DL,List.mem_range] at h;obtain⟨h1,h2⟩:=h;simp only[List.getD,Ap h1,Gg] at h2;rw[Ap h1];split at h2;.rename_i he;rw[he]
 .cases h2
def F9(C:Gb)(γ0:Gh)(w0:World)(o:Oper)(a:Act)(w:World)(c:BU)(h':Ai):Prop:=
 ∃γ' b w',(∃v,(execOp a.eval o).run C.P w= .ok (.value v) w'/\Df C γ0 w0 γ' b c h' (a.put o.dst v) w')\/((execOp a.eval o).run C.P w= .ok .skip w'/\Df C γ0 w0 γ' b c h' (a.put o.dst undef) w')
def F9.value{o:Oper}{c:BU}{h':Ai}{b:Nat->Nat}{v:Value}(he:(execOp a.eval o).run C.P w= .ok (.value v) w')(hr:Df C γ0 w0 γ' b c h' (a.put o.dst v) w'):F9 C γ0 w0 o a w c h':=⟨γ',b,w',.inl ⟨v,he,hr⟩⟩
def F9.skip{o:Oper}{c:BU}{h':Ai}{b:Nat->Nat}(he:(execOp a.eval o).run C.P w= .ok .skip w')(hr:Df C γ0 w0 γ' b c h' (a.put o.dst undef) w'):F9 C γ0 w0 o a w c h':=⟨γ',b,w',.inr ⟨he,hr⟩⟩
def XO{o:Oper}{t:TypeId}{d:Nat}{z:Aa}(ho:o.op= .alloc t)(hd:o.dst=some d)(hz:Hl C.P t=some z)(hn:z.cells≠[])(hr:Df C γ0 w0 γ β U h a w):
  F9 C γ0 w0 o a w ((U.drop [d]).set d (.box 0 z.cells (Xz z.cells))) h:=by
 obtain⟨v,hv,A3⟩:=Io hz;obtain⟨e,c⟩:=HB (γ:=γ) (Fv hv) (D7.2 hn);obtain⟨γ',b,Gc⟩:=hr.tw d v.cells t z.cells (Xz z.cells) e c (λo=>tO);refine F9.value (v:= .pointer (some ⟨w.heap.size,0,none⟩)) ?_ (by rw[hd];exact Gc);simp[execOp,ho,Instr.alloc,A3,newVar,newRow]
def eM{o:Oper}{t:TypeId}{x:Operand}{d n:Nat}{v:Aa}(ho:o.op= .box t x)(hd:o.dst=some d)(hx:E6 C U x=some v)(hv:v.cells.length=n)(hn:n≠0)(hr:Df C γ0 w0 γ β U h a w):
  F9 C γ0 w0 o a w ((U.drop [d]).set d (.box 0 v.cells [])) h:=by
 obtain⟨e,c⟩:=HB (GS hr hx) Ac;obtain⟨γ',b,Gc⟩:=hr.tw d (a.eval x).cells t v.cells [] e c AH;refine F9.value (v:= .pointer (some ⟨w.heap.size,0,none⟩)) ?_ (by rw[hd];exact Gc);simp[execOp,ho,Instr.box,newVar,newRow]
def Df.newObj(hr:Df C γ0 w0 γ β U h a w)(us:Array Value)(e:TypeId)(fr:Nat×Nat)(cells:List Aa)(zA:T9 fr us.size)(hc:Bl γ cells (us.toList.take cells.length))(h1:∀u∈us.toList.take cells.length,u.oneCell'=true):
  ∃γ',γ.le γ'/\γ'.mu h.length=some w.heap.size/\Df C γ0 w0 γ' β U (h++[.cells cells]) a (w.alloc (.cells us e fr))/\γ'.sz w.heap.size=some us.size:=by
 obtain⟨hi,ha⟩:=GX hr.D5 (.cells us e fr) (.cells cells) (some us.size) (.inl ⟨cells,us,e,fr,rfl,rfl,zA,hc,h1,rfl⟩);exact⟨_,ha.le,by simp[Gh.B2],hr.Jj hi ha,by simp[Gh.B2]⟩
def XP{o:Oper}{t:TypeId}{z:Aa}{d:Option Nat}(ho:o.op= .alloc t)(hd:o.dst=d)(hz:Hl C.P t=some z)(hn:z.cells.length≠0)(hr:Df C γ0 w0 γ β U h a w):
  F9 C γ0 w0 o a w (U.put d (.val (.ptr (some (h.length,0))))) (h++[.cells z.cells]):=by
 obtain⟨v,hv,A3⟩:=Io hz;obtain⟨b,c⟩:=HB (γ:=γ) (Fv hv) Ac;obtain⟨γ',Er,hm,Gc,_⟩:=hr.newObj v.cells t (0,0) z.cells (.inl rfl) (by rw[AF (by rw[b.length];exact Ag _)];exact b) (λu hu=>c u (Bp hu));refine F9.value (v:= .pointer (some ⟨w.heap.size,0,none⟩)) ?_ (by rw[hd];exact Gc.put λs _=>⟨_,hm,rfl⟩);simp[execOp,ho,Instr.alloc,A3,newVar,newRow]
def eO{o:Oper}{t:TypeId}{x:Operand}{d:Option Nat}{v:Aa}(ho:o.op= .box t x)(hd:o.dst=d)(hx:E6 C U x=some v)(hn:v.cells.length≠0)(hr:Df C γ0 w0 γ β U h a w):
  F9 C γ0 w0 o a w (U.put d (.val (.ptr (some (h.length,0))))) (h++[.cells v.cells]):=by
 obtain⟨b,c⟩:=HB (GS hr hx) Ac;obtain⟨γ',Er,hm,Gc,_⟩:=hr.newObj (a.eval x).cells t (0,0) v.cells (.inl rfl) (by rw[AF (by rw[b.length];exact Ag _)];exact b) (λu hu=>c u (Bp hu));refine F9.value (v:= .pointer (some ⟨w.heap.size,0,none⟩)) ?_ (by rw[hd];exact Gc.put λs _=>⟨_,hm,rfl⟩);simp[execOp,ho,Instr.box,newVar,newRow]
def LK(hr:Df C γ0 w0 γ β U h a w){x:Operand}{s o ver:Nat}{cs:List Aa}{ow:List Nat}(hx:Gv C U x=some (.PQ s o ver cs ow)):
  U.at s= .box ver cs ow/\a.eval x= .pointer (some ⟨β s,o,none⟩):=by
 unfold Gv at hx;split at hx;.rename_i s' Gy Hi OA hs;cases hx;have h0:=SQ hr s;rw[Hn hs] at h0;exact⟨Hn hs,h0.1⟩
 .rename_i s' o' _ hs;split at hx;.rename_i hb;cases hx;obtain⟨t,h1,_⟩:=GB hr hs;exact⟨hb,h1⟩
  .cases hx
 .rename_i sl _ _ hs;cases hv:sl.Hz with
  |none=>rw[hv] at hx;cases hx
  |some u=>rw[hv] at hx;cases hx
 .cases hx
def RU(hr:Df C γ0 w0 γ β U h a w){x:Operand}{p:Aa}(hx:Gv C U x=some (.ptr p)):BQ γ p (a.eval x):=by
 unfold Gv at hx;split at hx;.cases hx
 .split at hx<;>cases hx
 .rename_i sl _ _ hs;cases hv:sl.Hz with
  |none=>rw[hv] at hx;cases hx
  |some u=>rw[hv] at hx;cases hx;obtain⟨t,h1,_⟩:=GB hr hs;exact N1 h1 hv
 .cases hx
def IM{t:TypeId}{n:Option Nat}(ht:Ft C.P t=some n){cs:List Aa}{us:List Value}{b o:Nat}(hv:Bl γ cs us)(hc:∀(j:Nat) (u:Value),us[j]?=some u->w.cell? ⟨b,o+j,none⟩=some u)(h1:∀u∈us,u.oneCell'=true)
  {r:Aa} (hp:Fu cs 0 n=some r):∃v,(Instr.loadAt t (.pointer (some ⟨b,o,none⟩))).run C.P w= .ok v w/\BQ γ r v:=by
 unfold Ft at ht;have N2:∀j,(⟨b,o,none⟩:Addr).add j=⟨b,o+j,none⟩:=λj=>by unfold Addr.add;split<;>simp_all
 have agg:∀d,C.P.underlying t=some d->(match d with| .struct _| .array _ _=>true|_=>false)=true->(B4 C.P t).map some=some n->
   ∃v,(Instr.loadAt t (.pointer (some ⟨b,o,none⟩))).run C.P w= .ok v w/\BQ γ r v:=by
  intro d hd hb hn;cases hs:B4 C.P t with
  |none=>rw[hs] at hn;cases hn
  |some k=>
   rw[hs] at hn;cases hn;simp only[Fu] at hp;split at hp
   .rename_i hk;cases hp;have hl:=run_loadCells_list (P:=C.P) w ⟨b,o,none⟩ (us.take k) (λj v hj=>by
     rw[N2];refine hc j v ?_;rw[Ci] at hj;split at hj;.exact hj
     .cases hj)
    have hlen:(us.take k).length=k:=by simp[hv.length];omega
    rw[hlen] at hl;refine⟨.agg (us.take k).toArray,?_,_,rfl,?_,λu hu=>h1 u (Bp (by simpa using hu))⟩
    .have tP:(isAgg t).run C.P w= .ok true w:=by unfold isAgg;rw[Sem.run_bind,run_underlying hd w];cases d<;>simp_all
     cases hq:C.P.info? t with
     |none=>simp[B4,hq] at hs
     |some i=>
      have hi:i.size=k:=by simpa[B4,hq] using hs
      simp[Instr.loadAt,Instr.sureAddr,loadVar,tP,sizeOf,typeInfo,hq,hi,hl]
    .simpa using hv.take k
   .cases hp
 split at ht;.rename_i fs hd;exact agg _ hd rfl ht
 .rename_i l e hd;exact agg _ hd rfl ht
 .rename_i d ND TY hd;cases ht;simp only[Fu] at hp;obtain⟨u,hu,hr⟩:=hv.get hp;refine⟨u,?_,hr⟩;have tP:(isAgg t).run C.P w= .ok false w:=by unfold isAgg;rw[Sem.run_bind,run_underlying hd w];cases d<;>simp_all
  have J8:=hc 0 u hu;simp only[Bt] at J8;simp[Instr.loadAt,Instr.sureAddr,loadVar,tP,J8]
 .cases ht
def PZ{cs:List Aa}{off:Nat}{n:Option Nat}{r:Aa}(h:Fu cs off n=some r):Fu (cs.drop off) 0 n=some r:=by
 cases n with
 |none=>simp only[Fu] at h⊢;rw[Cr];simpa using h
 |some n=>
  simp only[Fu] at h⊢;split at h;.cases h;rw[Af Ei];simp
  .cases h
def Df.bG(hr:Df C γ0 w0 γ β U h a w){s ver:Nat}{cs:List Aa}{ow:List Nat}(hs:U.at s= .box ver cs ow):
  γ.Bs (β s)=some (.loc s)/\w0.heap.size<=β s/\∃us e,w.heap[β s]?=some (.cells us e (0,0))/\Bl γ cs us.toList/\(∀u∈us.toList,u.oneCell'=true)/\
   ∀o∈ow,∃u x,us[o]?=some u/\cs[o]?=some x/\I6 γ w0.heap.size w s (some o) u x:=by
 have h0:=hr.fr.IB s;rw[hs] at h0;exact⟨h0.2.1,h0.2.2.1,h0.2.2.2⟩
def Lt(hr:Df C γ0 w0 γ β U h a w){t:TypeId}{n:Option Nat}(ht:Ft C.P t=some n){s ver off:Nat}{cs:List Aa}{ow:List Nat}(hs:U.at s= .box ver cs ow){r:Aa}(hp:Fu cs off n=some r):
  ∃v,(Instr.loadAt t (.pointer (some ⟨β s,off,none⟩))).run C.P w= .ok v w/\BQ γ r v/\(n=none->∀us e,w.heap[β s]?=some (.cells us e (0,0))->us[off]?=some v):=by
 obtain⟨_,_,us,e,h1,h2,i,_⟩:=hr.bG hs;obtain⟨v,f,g⟩:=IM (w:=w) (b:=β s) (o:=off) ht (h2.drop off) (λj u hj=>by rw[cell_of_row w _ _ us e (0,0) h1];rw[Cr] at hj;simpa using hj) (λu hu=>i u (BD hu)) (PZ hp)
 refine⟨v,f,g,λhn DQ k c=>?_⟩;subst hn;rw[h1] at c;cases c;simp only[Fu] at hp;obtain⟨u,hu,_⟩:=h2.get hp;have J8:w.cell? ⟨β s,off,none⟩=some u:=by rw[cell_of_row w _ _ us e (0,0) h1];simpa using hu
 have tP:∃d,C.P.underlying t=some d/\(isAgg t).run C.P w= .ok false w:=by
  unfold Ft at ht;split at ht;.cases hz:B4 C.P t<;>rw[hz] at ht<;>cases ht
  .cases hz:B4 C.P t<;>rw[hz] at ht<;>cases ht
  .rename_i d ND TY hd;refine⟨d,hd,?_⟩;unfold isAgg;rw[Sem.run_bind,run_underlying hd w];cases d<;>simp_all
  .cases ht
 obtain⟨d,hd,tP⟩:=tP;have:(Instr.loadAt t (.pointer (some ⟨β s,off,none⟩))).run C.P w= .ok u w:=by simp[Instr.loadAt,Instr.sureAddr,loadVar,tP,J8]
 rw[f] at this;cases this;simpa using hu
def Df.õ(hr:Df C γ0 w0 γ β U h a w){s ver off:Nat}{cs:List Aa}{ow:List Nat}(hs:U.at s= .box ver cs ow)(ho:off∈ow)(â:off∉ow.erase off)(s':Nat)(c':Option Nat){u:Value}{v:Aa}(hv:cs[off]?=some v)
  (hu:∀us e,w.heap[β s]?=some (.cells us e (0,0))->us[off]?=some u):
  ∃γ',γ.le γ'/\Df C γ0 w0 γ' β (U.set s (.box (ver+1) cs (ow.erase off))) h a w/\I6 γ' w0.heap.size w s' c' u v:=by
 have h0:=hr.fr.IB s;rw[hs] at h0;obtain⟨h1,h2,r,us,e,j,q,p,i⟩:=h0;obtain⟨x,v',d,c,b⟩:=i off ho;rw[hv] at c;cases c;rw[hu us e j] at d;cases d;have KQ:Df C γ0 w0 γ β (U.set s (.box (ver+1) cs (ow.erase off))) h a w:=hr.nM ⟨h1,h2,r,us,e,j,q,p,λo' á=>i o' (List.mem_of_mem_erase á)⟩;have hl:s<U.length:=BU.PU (by rw[hs];simp);rcases b with b|⟨g,n,cap,tC,t,z,AE,o,m,l,f,k⟩
 .exact⟨γ,.refl _,KQ,.inl b⟩
 .refine⟨γ.FX g (.tail s' c' (n*z)),HA _ _ _,KQ.FX l f (λhn=>by cases hn) (λo' á Gy Hi OA hb=>?_),.inr ⟨g,n,cap,tC,t,z,AE,o,m,by simp[Gh.FX],f,k⟩⟩;rw[BU.Fw hl] at hb;cases hb;cases á;exact â
def Z0{o:Oper}{t:TypeId}{x:Operand}{d:Nat}{take:Bool}{r:EP}{run:IT->Ai->Option Km}{g:BU}{h':Ai}(ho:o.op= .load t x)(hd:o.dst=some d)(hc:L1 C U t x d take=some r)(hp:∃ws,r= .pure ws)
  (Gk:r.N0 C run (U.drop r.news) h g h') (hr:Df C γ0 w0 γ β U h a w):F9 C γ0 w0 o a w g h':=by
 have Nb:∀v,(Instr.loadAt t (a.eval x)).run C.P w= .ok v w->(execOp a.eval o).run C.P w= .ok (.value v) w:=λv hv=>by simp[execOp,ho,hv]
 unfold L1 at hc;split at hc;.cases hc;obtain⟨_,e⟩:=hp;cases e
 .rename_i s off ver cs ow ht ha;obtain⟨hs,hx⟩:=LK hr ha;split at hc
  .rename_i hlt;have eP:cs[off]?=some (cs.getD off .nilIface):=by simp[List.getD,Ap hlt]
   obtain⟨v,b,c,i⟩:=Lt hr ht hs (r:=cs.getD off .nilIface) (off:=off) (by simpa[Fu] using eP);rw[<-hx] at b;simp only at hc;split at hc
   .rename_i Ic;cases hc;rw[OK AH] at Gk;obtain⟨rfl,rfl⟩:=Gk;simp only[Bv,aF5] at Ic;obtain⟨⟨j,f⟩,_⟩:=Ic;have f:off∉ow.erase off:=by simpa using f
    obtain⟨γ',Er,Gc,FJ⟩:=hr.õ hs j f d none eP (i rfl);exact F9.value (Nb v b) (by rw[hd];exact Gc.put (d:=some d) λs' WB=>by cases WB;exact⟨BQ.mono Er _ _ c,FJ⟩)
   .cases hc;rw[OK AH] at Gk;obtain⟨rfl,rfl⟩:=Gk;exact F9.value (Nb v b) (by rw[hd];exact hr.put (d:=some d) λ_ _=>c)
  .cases hc
 .rename_i n s off ver cs ow ht ha;obtain⟨hs,hx⟩:=LK hr ha;split at hc;.rename_i Er;cases hc;rw[OK AH] at Gk;obtain⟨rfl,rfl⟩:=Gk;obtain⟨v,b,c,_⟩:=Lt hr ht hs (r:= .agg ((cs.drop off).take n)) (off:=off) (by simp[Fu,Er]);rw[<-hx] at b;exact F9.value (Nb v b) (by rw[hd];exact hr.put (d:=some d) λ_ _=>c)
  .cases hc
 .cases hc
def tz{o:Oper}{t:TypeId}{x:Operand}{n:Option Nat}{p r:Aa}(ho:o.op= .load t x)(ht:Ft C.P t=some n)(hx:Gv C U x=some (.ptr p))(hl:A7 h n p=some r)(hr:Df C γ0 w0 γ β U h a w):
  F9 C γ0 w0 o a w (U.put o.dst (.val r)) h:=by
 have hv:=RU hr hx;have Nb:∀v,(Instr.loadAt t (a.eval x)).run C.P w= .ok v w->(execOp a.eval o).run C.P w= .ok (.value v) w:=λv hv=>by simp[execOp,ho,hv]
 unfold A7 at hl;split at hl
 .rename_i cs;obtain⟨b,k,hv,hm⟩:=hv;obtain⟨us,g,d⟩:=hm.values;obtain⟨v,c,f⟩:=IM (w:=w) ht g (λj u hj=>(hr.D5.IF _ _ _ (d j u hj)).1) (λu hu=>by obtain⟨j,hj⟩:=CT hu;exact(hr.D5.IF _ _ _ (d j u hj)).2.1) hl
  rw[<-hv] at c;exact F9.value (Nb v c) (hr.put λ_ _=>f)
 .rename_i id off;obtain⟨b,hb,hv⟩:=hv;split at hl
  .rename_i cs hcs;obtain⟨us,e,fr,g,pf,d,i⟩:=hr.D5.cells id cs hcs b hb;obtain⟨v,c,f⟩:=IM (w:=w) (b:=b) (o:=off) ht (d.drop off) (λj u hj=>by
    rw[cell_of_row w _ _ us e fr g];rw[Cr,Ci] at hj;split at hj;.simpa using hj
    .cases hj) (λu hu=>i u (BD hu)) (PZ hl)
   rw[<-hv] at c;exact F9.value (Nb v c) (hr.put λ_ _=>f)
  .cases hl
 .cases hl
end
end Go.Am
end
section
namespace Go.Am
open Go
section
variable{C:Gb}{γ0 γ γ':Gh}{w0 w w':World}{β:Nat->Nat}{U:BU}{h:Ai}{a:Act}{fid:FuncId}{ops:List Oper}
def ES{b:Nat}{t:TypeId}{fr:Nat×Nat}:∀(vs:List Value) (o:Nat) (cur:Array Value) (w:World),w.heap[b]?=some (.cells cur t fr)->o+vs.length<=cur.size->
  w.setCells b o vs=w.setRow b (cur.toList.take o++vs++cur.toList.drop (o+vs.length)).toArray
 |[],o,cur,w,hg,_=>by simp only[World.setCells,By,BR,Bt,CH,Array.toArray_toList];exact(setRow_self w b cur t fr hg).symm
 |v::r,o,cur,w,hg,hl=>by simp only[Bd] at hl;rw[World.setCells,setCell_eq_setRow w b o cur t fr v hg,ES r (o+1) _ _ (setRow_heap w b cur _ t fr hg) Ei,setRow_setRow];have e:=list_seg_step cur.toList o v r Ei;simp only[Array.toList_setIfInBounds,Bd];rw[e]
def Pm{t:TypeId}{n b o:Nat}(hn:B4 C.P t=some n){u:Value}(hu:u.cells.size=n)(h1:∀x∈u.cells.toList,x.oneCell'=true){cur:Array Value}{e:TypeId}{fr:Nat×Nat}(hg:w.heap[b]?=some (.cells cur e fr))(zA:T9 fr cur.size)
  (hl:o+n<=cur.size):(Instr.storeAt t (.pointer (some ⟨b,o,none⟩)) u).run C.P w= .ok () (w.setRow b (cur.toList.take o++u.cells.toList++cur.toList.drop (o+n)).toArray):=by
 have hs:=run_storeCells_cells (P:=C.P) b o u.cells.toList 0 w (λj hj=>by
  rw[cell_of_row w _ _ cur e fr hg];simp at hj;rw[CV Ac];rfl) (λj hj=>by
  simp at hj;simp only[World.frozen?,hg];rcases zA with rfl|zA
  .simp
  .simp;omega) h1
 rw[Bt,ES _ o cur w hg Ei] at hs;cases hq:C.P.info? t with
 |none=>simp[B4,hq] at hn
 |some i=>
  have hi:i.size=n:=by simpa[B4,hq] using hn
  simp only[Cg,hu] at hs;simp[Instr.storeAt,Instr.sureAddr,storeVar,sizeOf,typeInfo,hq,hi,hu,hs]
def XQ{Z:Type}{cs vs:List Z}{off n o:Nat}(hl:off+n<=cs.length)(hv:vs.length=n)(ho:¬(off<=o/\o<off+n)):(cs.take off++vs++cs.drop (off+n))[o]?=cs[o]?:=by
 have b:(cs.take off).length=off:=Ei;by_cases h:o<off;.rw[Ak (by simp[hv];omega),Ak Ac,C3 h]
 .rw[Bk (by simp[hv];omega),Cr];congr 1
  simp[hv];omega
def bH{Z:Type}{cs:List Z}{off n:Nat}{x:Z}(hl:off+n<=cs.length):(cs.take off++[x]++cs.drop (off+n))[off]?=some x:=by have b:(cs.take off).length=off:=Ei;rw[Ak Ei,Bk Ac];simp[b]
def Nh{Z:Type}{us vs:List Z}{off n len:Nat}(hl:len<=us.length)(ho:off+n<=len)(hv:vs.length=n):
  (us.take off++vs++us.drop (off+n)).take len=(us.take len).take off++vs++(us.take len).drop (off+n):=by
 have c:(us.take off).length=off:=Ei;have b:(us.take off++vs).length=off+n:=by simp[hv];omega
 rw[yG,AF Ac,b,FC,Cq Ac,List.drop_take]
def OP{cs vs:List Aa}{us DQ:List Value}{off n:Nat}(h:Bl γ cs us)(h':Bl γ vs DQ):Bl γ (cs.take off++vs++cs.drop (off+n)) (us.take off++DQ++us.drop (off+n)):=
 ((h.take off).append h').append (h.drop (off+n))
def I6.aBo{B s d g:Nat}(hg:γ.Bs g=some (.loc s)){c:Option Nat}{v:Value}{u:Aa}(DQ:Array Value)(ho:I6 γ B w d c v u):I6 γ B (w.setRow g DQ) d c v u:=by
 rcases ho with ho|⟨g2,n,cap,us,e,z,AE,h1,h2,b,j,i,f⟩
 .exact .inl ho
 .have hb:g2≠g:=λhe=>by subst he;rw[hg] at b;cases b
  exact .inr ⟨g2,n,cap,us,e,z,AE,h1,h2,b,j,by rw[setRow_other w g g2 DQ hb];exact i,f⟩
def XR(γ:Gh)(w:World)(g:Nat)(us:Array Value):QG g γ w γ (w.setRow g us):=
 ⟨.refl _,λb x hb hx _=>⟨hx,setRow_other w g b us hb⟩⟩
def Df.oA(hr:Df C γ0 w0 γ β U h a w){s ver Gy off n:Nat}{cs:List Aa}{ow:List Nat}(hs:U.at s= .box ver cs ow){vs:List Aa}{DQ:List Value}(hv:Bl γ vs DQ)(h1:∀u∈DQ,u.oneCell'=true)(hn:vs.length=n)
  (hl:off+n<=cs.length) {Bs:Bool} (FJ:Bs=true->∃u x,DQ=[u]/\vs=[x]/\I6 γ w0.heap.size w s (some off) u x) {us:Array Value} {e:TypeId} (hg:w.heap[β s]?=some (.cells us e (0,0))):
  Df C γ0 w0 γ β (U.set s (.box Gy (XC cs off n vs) (SK ow off n Bs))) h a (w.setRow (β s) (us.toList.take off++DQ++us.toList.drop (off+n)).toArray):=by
 have h0:=hr.fr.IB s;rw[hs] at h0;obtain⟨t,d,l,qj,e0,k,j,i,r⟩:=h0;rw[hg] at k;cases k;have hlen:DQ.length=n:=by rw[hv.length,hn]
 have nC:off+n<=us.toList.length:=by rw[j.length];exact hl
 have t_:s<U.length:=BU.PU (by rw[hs];simp);refine⟨jj hr.D5 d _,⟨by simp[hr.fr.size],λf=>?_⟩,hr.DZ.write (g:=β s) l (.refl _) AH rfl rfl rfl (λb hb=>⟨setRow_other w _ b _ hb,rfl⟩),hr.defers,hr.Hk⟩;by_cases he:f=s
 .subst he;rw[BU.Fw t_];refine⟨t,d,l,_,e,setRow_heap w _ us _ e (0,0) hg,?_,?_,?_⟩;.simpa[XC] using OP (off:=off) (n:=n) j hv
  .intro u hu;simp only[AI,Ay] at hu;rcases hu with hu|hu|hu
   .exact i u (Bp hu)
   .exact h1 u hu
   .exact i u (BD hu)
  .intro o ho;have Jk:(Bs=true/\o=off)\/(o∈ow/\¬(off<=o/\o<off+n)):=by
    unfold SK at ho;have hf:o∈ow.filter (λo=> !(decide (off<=o)&&decide (o<off+n)))->o∈ow/\¬(off<=o/\o<off+n):=λhm=>by rw[DL] at hm;refine⟨hm.1,λhc=>?_⟩;have:=hm.2;simp[hc.1,hc.2] at this
    cases Bs with
    |true=>
     simp only[BJ,AS] at ho;rcases ho with ho|ho
     .exact .inl ⟨rfl,ho⟩
     .exact .inr (hf ho)
    |false=>exact .inr (hf ho)
   rcases Jk with⟨c,rfl⟩|⟨c,ZK⟩
   .obtain⟨u,x,rfl,rfl,v⟩:=FJ c;exact⟨u,x,by simpa using bH (x:=u) nC,by simpa[XC] using bH (x:=x) hl,v.aBo d _⟩
   .obtain⟨u,x,q,p,m⟩:=r o c;refine⟨u,x,?_,?_,m.aBo d _⟩;.rw[<-q];have:=XQ nC hlen ZK;simpa using this
    .rw[<-p];exact XQ hl hn ZK
 .rw[BU.Gn (λx=>he x.symm)];exact(hr.fr.IB f).keptBut d (XR γ w _ _) (by simp only[K0.sX];intro hx;cases hx;exact he rfl)
def P0(hr:Df C γ0 w0 γ β U h a w){y:Operand}{v:Aa}(hy:LF C U y=true)(hv:E6 C U y=some v)(s':Nat)(c':Option Nat):
  ∃γ',γ.le γ'/\Df C γ0 w0 γ' β (U.DR (Ds U y)) h a w/\BQ γ' v (a.eval y)/\I6 γ' w0.heap.size w s' c' (a.eval y) v:=by
 unfold LF at hy;cases hs:Ef C U y with
 |none=>rw[hs] at hy;cases hy
 |some sl=>
  rw[hs] at hy;cases sl with
  |Bs u=>
   have b:u=v:=by unfold E6 at hv;rw[hs] at hv;exact D4 hv
   subst b;cases y with
   |tmp t=>have ht:U.at t= .Bs u:=Hn hs;obtain⟨γ',Er,Gc,h1,h2⟩:=hr.take ht s' c';exact⟨γ',Er,by simpa[Ds,ht,BU.DR] using Gc,h1,h2⟩
   |const c=>
    refine⟨γ,.refl _,hr,GS hr hv,?_⟩;obtain⟨q,_⟩:=SR (γ:=γ) (β:=β) (w:=w) hs;unfold Ef at hs;split at hs;.rename_i e;cases e
    .cases hs
    .cases hs;exact .inl (.inl rfl)
    .rename_i KR;cases KR;cases hc:Lr c with
     |none=>rw[hc] at hs;cases hs
     |some _=>rw[hc] at hs;cases hs
    .rename_i e;cases e
    .cases hs
   |global g=>have WB:(C.Hk g).map (λcs=>Ew.val (Aa.CI cs))=some (.Bs u):=hs;cases hc:C.Hk g<;>rw[hc] at WB<;>cases WB
   |func f=>cases hs
  |_=>cases hy
def tQ{B s:Nat}{c:Option Nat}{v:Value}{x:Aa}(h:I6 γ B w s c v x):x.cells=[x]:=by rcases h with(rfl|⟨_,rfl⟩)|⟨_,_,_,_,_,_,_,rfl,_⟩<;>rfl
def tR{o:Oper}{t:TypeId}{x y:Operand}{s off n ver:Nat}{v:Aa}{Bs:Bool}{c:Option (Nat×Aa)}{cells:List Aa}{owned:List Nat}{run:IT->Ai->Option Km}{i:BU}{h':Ai}(ho:o.op= .store t x y)(hd:o.dst=none)
  (hc:JM C U t x y=some (.Nz s off n v Bs c ver cells owned)) (Gk:(EP.Nz s off n v Bs c ver cells owned).N0 C run U h i h') (hr:Df C γ0 w0 γ β U h a w):F9 C γ0 w0 o a w i h':=by
 unfold JM at hc;split at hc;.cases hc
 .rename_i m sh s' ua Gy Hi OA v' Ls sH ha hv;split at hc
  .rename_i hl;simp only[BC,EP.Nz.injEq] at hc;obtain⟨rfl,rfl,rfl,rfl,FJ,Z3,rfl,rfl,rfl⟩:=hc;obtain⟨hn,rfl,rfl⟩:=Gk;obtain⟨hs,hx⟩:=LK hr ha;have zE:=GS hr hv;obtain⟨_,_,us,e,hg,k,l,_⟩:=hr.bG hs;have t_:ua+(m+1)<=us.size:=by have:=k.length;simp at this;omega
   obtain⟨f,d⟩:=HB zE Ac;have tS:(a.eval y).cells.size=m+1:=by have:=f.length;simp at this;omega
   have Ib:=Pm (C:=C) (b:=β s') (o:=ua) Ls tS d hg (.inl rfl) t_;rw[<-hx] at Ib;have Nb:(execOp a.eval o).run C.P w= .ok .skip (w.setRow (β s') (us.toList.take ua++(a.eval y).cells.toList++us.toList.drop (ua+(m+1))).toArray):=by simp[execOp,ho,Ib]
   by_cases hw:Bs=true
   .subst hw;rw[Af FJ] at Z3;subst Z3;simp only[Bv] at FJ;obtain⟨j,Er,KQ,h1,h2⟩:=P0 hr FJ.2 hv s' (some ua);have Ri:=tQ h2;have J9:(U.DR (Ds U y)).at s'= .box Gy Hi OA:=by
     cases y with
     |tmp t'=>
      simp only[Ds];cases ht:U.at t' with
      |Bs u=>simp only[BU.DR];rw[BU.Gn (λe=>by rw[e,hs] at ht;cases ht)];exact hs
      |_=>exact hs
     |_=>exact hs
    have Mh:=KQ.oA (Gy:=Gy+1) (Bs:=true) (n:=m+1) J9 (Bl.mono Er _ _ f) d hn hl (λ_=>?_) hg;.exact F9.skip Nb (by rw[hd];exact Mh)
    .have hcl:(a.eval y).cells=#[a.eval y]:=by
      rcases h2 with(h2|⟨z,h2⟩)|⟨_,_,_,_,_,_,_,_,h2,_⟩
      .subst h2;rw[show a.eval y=_ from h1];rfl
      .subst h2;obtain⟨_,h1⟩:=h1;rw[h1];rfl
      .rw[h2];rfl
     exact⟨a.eval y,v',by rw[hcl],Ri,h2⟩
   .have g:Bs=false:=by simpa using hw
    subst g;rw[Ad (by rw[FJ];simp)] at Z3;subst Z3;exact F9.skip Nb (by rw[hd];exact hr.oA (Gy:=Gy+1) (Bs:=false) hs f d hn hl (λe=>by cases e) hg)
  .cases hc
 .cases hc
def ju{o:Oper}{t:TypeId}{x y:Operand}{n:Nat}{p v:Aa}{h':Ai}(ho:o.op= .store t x y)(hd:o.dst=none)(Ls:B4 C.P t=some (n+1))(hx:Gv C U x=some (.ptr p))(hv:E6 C U y=some v)(Ib:Cv h (n+1) p v=some h')(hr:Df C γ0 w0 γ β U h a w):
  F9 C γ0 w0 o a w U h':=by
 have c:=RU hr hx;have zE:=GS hr hv;unfold Cv at Ib;split at Ib
 .rename_i id off;obtain⟨b,hb,d⟩:=c;split at Ib
  .rename_i cs hcs;split at Ib
   .rename_i hl;cases Ib;obtain⟨us,e,fr,hg,pf,k,j⟩:=hr.D5.cells id cs hcs b hb;obtain⟨i,g⟩:=HB zE Ac;have tS:(a.eval y).cells.size=n+1:=by have:=i.length;simp at this;omega
    have hlt:cs.length<=us.size:=by have:=k.length;simp at this;omega
    have t_:off+(n+1)<=us.size:=Ac;have A3:=Pm (C:=C) (b:=b) (o:=off) Ls tS g hg pf t_;rw[<-d] at A3;obtain⟨hi,ha⟩:=NY hr.D5 hcs hb hg (us.toList.take off++(a.eval y).cells.toList++us.toList.drop (off+(n+1))).toArray (cs.take off++v.cells++cs.drop (off+(n+1)))
     (by simp only[B9,Au,Ax,Be,Cg,tS];omega)
     (by
      rcases pf with rfl|pf
      .exact .inl rfl
      .refine .inr (Br (M0 ?_) pf);simp only[B9,Au,Ax,Be,Cg,tS];omega)
     (by
      have:=OP (off:=off) (n:=n+1) k i;rw[<-Nh (by simpa using hlt) hl.2 (by simpa using tS)] at this;have f:(cs.take off++v.cells++cs.drop (off+(n+1))).length=cs.length:=by simp[hl.1];omega
      rw[f];simpa using this) (λu hu=>by
      have f:(cs.take off++v.cells++cs.drop (off+(n+1))).length=cs.length:=by simp[hl.1];omega
      rw[f] at hu;simp only[Lm] at hu;rw[Nh (by simpa using hlt) hl.2 (by simpa using tS)] at hu;simp only[AI,Ay] at hu;rcases hu with hu|hu|hu
      .exact j u (Bp hu)
      .exact g u hu
      .exact j u (BD hu))
    have Nb:(execOp a.eval o).run C.P w= .ok .skip (w.setRow b (us.toList.take off++(a.eval y).cells.toList++us.toList.drop (off+(n+1))).toArray):=by simp[execOp,ho,A3]
    exact F9.skip Nb (by rw[hd];exact hr.Jj hi ha)
   .cases Ib
  .cases Ib
 .cases Ib
def Df.freeze(hr:Df C γ0 w0 γ β U h a w){s ver:Nat}{cs:List Aa}{ow:List Nat}(hs:U.at s= .box ver cs ow):
  ∃γ',γ.le γ'/\Df C γ0 w0 γ' β (U.set s (.val (.CI cs))) h a w/\BQ γ' (.CI cs) (a.tmps.getD s undef):=by
 have h0:=hr.fr.IB s;rw[hs] at h0;obtain⟨z,f,B,us,e,t,m,l,A⟩:=h0;have t_:s<U.length:=BU.PU (by rw[hs];simp);have th:∀o,γ.IF (β s) o=none:=λo=>by
  cases hc:γ.IF (β s) o with
  |none=>rfl
  |some u=>obtain⟨_,_,q⟩:=hr.D5.IF _ _ _ hc;rw[f] at q;rcases q with q|⟨_,_,_,q,_⟩<;>cases q
 have Er:γ.le (γ.Dy (β s) us us.size none):=⟨λb o v hb=>by
  have:b≠β s:=λe=>by rw[e,th] at hb;cases hb
  simp only[Gh.Dy,Ad this];exact hb,λ_ _ hm=>hm,λ_ _ hm=>hm⟩
 have hne:∀b id,γ.Bs b=some (.MC id)->b≠β s:=λb id hb e=>by rw[e,f] at hb;cases hb
 have hk:QG (β s) γ w (γ.Dy (β s) us us.size none) w:=⟨Er,λb x hb hx _=>⟨by simp only[Gh.Dy,Ad hb];exact hx,rfl⟩⟩;have hv:BQ (γ.Dy (β s) us us.size none) (.CI cs) (a.tmps.getD s undef):=by
  refine⟨β s,0,z,C8.Hm λi x hi=>?_⟩;obtain⟨u,d,c⟩:=m.get hi;have hlt:i<us.size:=by have:=(An.1 d).1;simpa using this
  exact⟨u,by simp only[Gh.Dy,BJ,BW,Af hlt];simpa using d,BQ.mono Er _ _ c⟩
 have aCP:∀b n,γ.sz b=some n->(∃us e fr,w.heap[b]?=some (.cells us e fr)/\us.size=n)/\((γ.Dy (β s) us us.size none).Bs b=none\/∃id,(γ.Dy (β s) us us.size none).Bs b=some (.MC id)):=λb n hb=>by
  obtain⟨p,r⟩:=hr.D5.sz b n hb;by_cases he:b=β s;.subst he;exact⟨p,.inl (by simp[Gh.Dy])⟩
  .exact⟨p,by simp only[Gh.Dy,Ad he];exact r⟩
 refine⟨_,Er,⟨⟨λb o v hb=>?_,λid y Im hy=>?_,λid Hi hc b hb=>?_,λid es hc b hb=>?_,hr.D5.mu,λb x hx=>?_,aCP⟩,⟨by simp[hr.fr.size],λj=>?_⟩,?_,hr.defers,λx Hi hx=>C8.mono Er _ _ _ (hr.Hk x Hi hx)⟩,hv⟩
 .by_cases he:b=β s
  .subst he;simp only[Gh.Dy,BJ] at hb⊢;split at hb;.exact⟨by rw[cell_of_row _ _ _ us e (0,0) t];exact hb,l v (by rw[A8] at hb;obtain⟨p,q⟩:=hb;rw[<-q];exact Array.getElem_mem_toList p),.inl AH⟩
   .cases hb
  .simp only[Gh.Dy,Ad he] at hb⊢;exact hr.D5.IF b o v hb
 .obtain⟨b,d,c⟩:=hr.D5.MC id y Im hy;exact⟨b,d,by simp only[Gh.Dy,Ad (hne b id c)];exact c⟩
 .obtain⟨DQ,g,ji,d,qf,c,k⟩:=hr.D5.cells id Hi hc b hb;exact⟨DQ,g,ji,d,qf,Bl.mono Er _ _ c,k⟩
 .obtain⟨DQ,g,d,c⟩:=hr.D5.map id es hc b hb;exact⟨DQ,g,d,c.mono Er⟩
 .by_cases he:b=β s;.subst he;exact hr.D5.Bs _ _ f
  .simp only[Gh.Dy,Ad he] at hx;exact hr.D5.Bs b x hx
 .by_cases he:j=s;.subst he;rw[BU.Fw t_];exact hv
  .rw[BU.Gn (λx=>he x.symm)];exact(hr.fr.IB j).keptBut f hk (by simp only[K0.sX];intro hx;cases hx;exact he rfl)
 .refine⟨hr.DZ.le.trans Er,hr.DZ.size,hr.DZ.os,hr.DZ.tape,hr.DZ.output,λb hb hn=>?_⟩;obtain⟨d,c⟩:=hr.DZ.OI b hb hn;exact⟨d,by simp only[Gh.Dy,Ad (Ac:b≠β s)];exact c⟩
def Df.Uc:∀{fz:List (Nat×List Aa)} {γ:Gh} {U:BU},Df C γ0 w0 γ β U h a w->(∀p∈fz,∃ver ow,U.at p.1= .box ver p.2 ow)->(fz.map (·.1)).Nodup->
  ∃γ',γ.le γ'/\Df C γ0 w0 γ' β (U.En (fz.map λ(s,cs)=>(s,.val (.CI cs)))) h a w/\∀p∈fz,BQ γ' (.CI p.2) (a.tmps.getD p.1 undef)
 |[],γ,U,hr,_,_=>⟨γ,.refl _,hr,AH⟩
 |(s,cs)::fz,γ,U,hr,hb,hn=>by
  simp only[Bj,B5] at hn;obtain⟨ver,ow,hs⟩:=hb (s,cs) AH;obtain⟨d,aLy,KQ,ö⟩:=hr.freeze hs;obtain⟨b,oB,Mh,Ud⟩:=Uc (fz:=fz) KQ (λp hp=>by obtain⟨Gy,OA,c⟩:=hb p (by simp[hp]);refine⟨Gy,OA,?_⟩;rw[BU.Gn (λe=>hn.1 (by rw[show s=p.1 from e];exact Bn.2 ⟨p,hp,rfl⟩))];exact c) hn.2
  refine⟨b,aLy.trans oB,Mh,λp hp=>?_⟩;rcases AS.1 hp with rfl|hp
  .exact BQ.mono oB _ _ ö
  .exact Ud p hp
def NF:∀{xs:List Operand} {vs:List Aa} {fz:List (Nat×List Aa)},Gw C U xs=some (vs,fz)->
  (∀p∈fz,∃ver ow,U.at p.1= .box ver p.2 ow)/\(fz.map (·.1)).Nodup/\
  ∀γ',(∀x u,E6 C U x=some u->BQ γ' u (a.eval x))->(∀p∈fz,BQ γ' (.CI p.2) (a.tmps.getD p.1 undef))->Bl γ' vs (xs.map a.eval)
 |[],vs,fz,hc=>by cases hc;exact⟨AH,AH,λ_ _ _=>rfl⟩
 |x::xs,vs,fz,hc=>by
  unfold Gw at hc;split at hc;.cases hc
  .rename_i Ia f d;obtain⟨h1,h2,e⟩:=NF d;split at hc
   .rename_i s ver cs ow hs;split at hc;.cases hc
    .rename_i hn;cases hc;have hsb:U.at s= .box ver cs ow:=Hn hs;refine⟨λp hp=>?_,?_,λγ' c b=>?_⟩
     .rcases AS.1 hp with rfl|hp
      .exact⟨ver,ow,hsb⟩
      .exact h1 p hp
     .simp only[Bj,B5];exact⟨by simpa using hn,h2⟩
     .exact⟨_,_,rfl,b (s,cs) AH,e γ' c λp hp=>b p (by simp[hp])⟩
   .rename_i sl _ hs;cases hv:sl.Hz with
    |none=>rw[hv] at hc;cases hc
    |some u=>rw[hv] at hc;cases hc;exact⟨h1,h2,λγ' c b=>⟨_,_,rfl,c _ u (by unfold E6;rw[hs];exact hv),e γ' c b⟩⟩
   .cases hc
def oC{o:Oper}{fn:Fn}{first captured:Array Operand}{d:Nat}{as bs:List Aa}{fz:List (Nat×List Aa)}(ho:o.op= .makeFunc fn first captured)(hd:o.dst=some d)(ha:BB C U first.toList=some as)(hb:Gw C U captured.toList=some (bs,fz))(hr:Df C γ0 w0 γ β U h a w):
  F9 C γ0 w0 o a w (((U.drop (fz.map (·.1))).En (fz.map λ(s,cs)=>(s,.val (.CI cs)))).set d (.val (.func fn as bs))) h:=by
 obtain⟨h1,h2,b⟩:=NF (a:=a) hb;obtain⟨γ',Er,Gc,hv⟩:=(hr.drop (fz.map (·.1))).Uc (fz:=fz) (λp hp=>by obtain⟨ver,ow,hs⟩:=h1 p hp;exact⟨ver,ow,by rw[BU.SY,hs]⟩) h2
 refine F9.value (w':=w) (v:= .func fn (first.map a.eval) (captured.map a.eval)) (by simp[execOp,ho,Instr.makeFunc]) (by rw[hd];exact Gc.put (d:=some d) λ_ _=>⟨_,_,rfl,by simpa using Bl.mono Er _ _ (D0 hr ha),by simpa using b γ' (λx u hx=>BQ.mono Er _ _ (GS hr hx)) hv⟩)
end
end Go.Am
end
