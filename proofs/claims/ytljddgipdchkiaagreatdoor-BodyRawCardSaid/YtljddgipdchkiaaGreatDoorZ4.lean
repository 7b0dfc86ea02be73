/- Lemmas -/
import Derived.Test.YtljddgipdchkiaaGreatDoorZ3
import Derived.Laws.IdiomCopy
set_option linter.all false
section
namespace Go.Am
open Go
def a_(β:Nat->Nat)(d b:Nat):Nat->Nat:=λs=>if s=d then b else β s
def Kx.jZ:Kx->Option Nat
 | .L8 _=>none
 | .loc s=>some s
 | .tail s _ _=>some s
structure PR(g:Nat)(γ:Gh)(w:World)(γ':Gh)(w':World):Prop where
 le:γ.le γ'
 NX:∀b x,b≠g->γ.Bw b=some x->x.de=false->γ'.Bw b=some x/\w'.heap[b]?=w.heap[b]?
section
variable{C:FZ}{γ0 γ γ':Gh}{w0 w w':World}{β:Nat->Nat}{U:BW}{h:Ah}{a:Act}{fid:FuncId}{ops:List Oper}
def BW.RG(U:BW)(ds:List Nat)(s:Nat):(U.drop ds).at s=match U.at s with| .Fl t o=>if ds.contains t then .undef else .Fl t o|x=>x:=by
 cases ds with
 |nil=>simp only[BW.drop,List.contains_nil];cases U.at s<;>simp
 |cons d ds=>
  simp only[BW.drop,BW.at,List.getD,Cn];cases hg:U[s]? with
  |none=>rfl
  |some x=>cases x<;>rfl
def BW.length_drop(U:BW)(ds:List Nat):(U.drop ds).length=U.length:=by cases ds<;>simp[BW.drop]
def Lu.aMa{B s d b:Nat}{x:Er}{v:Value}(hx:Lu γ β B w s x v)(hn:∀o,x≠ .Fl d o)(hs:s≠d):Lu γ (a_ β d b) B w s x v:=by
 cases x with
 |box ver cs ow=>simpa only[Lu,a_,Ac hs] using hx
 |Fl t o=>have:t≠d:=λe=>hn o (by rw[e]);simpa only[Lu,a_,Ac this] using hx
 |_=>exact hx
def IQ.keptBut{g B s:Nat}{d:Kx}(hg:γ.Bw g=some d)(k:PR g γ w γ' w')(hne:d.jZ≠some s){c:Option Nat}{v:Value}{u:Aa}(ho:IQ γ B w s c v u):IQ γ' B w' s c v u:=by
 rcases ho with ho|⟨g2,n,cap,us,e,z,Az,h1,h2,b,m,l,j⟩
 .exact .inl ho
 .have hb:g2≠g:=λhe=>by subst he;rw[hg] at b;cases b;exact hne rfl
  obtain⟨i,f⟩:=k.NX g2 _ hb b rfl;exact .inr ⟨g2,n,cap,us,e,z,Az,h1,h2,i,m,by rw[f];exact l,j⟩
def Lu.keptBut{g B s:Nat}{d:Kx}(hg:γ.Bw g=some d)(k:PR g γ w γ' w')(hne:d.jZ≠some s){x:Er}{v:Value}(hx:Lu γ β B w s x v):Lu γ' β B w' s x v:=by
 cases x with
 |undef=>trivial
 |skip=>exact hx
 |val u=>exact BU.mono k.le u v hx
 |OM b=>exact hx
 |Bw u=>exact⟨BU.mono k.le u v hx.1,hx.2.keptBut hg k hne⟩
 |box ver cs ow=>
  obtain⟨r,c,q,us,e,p,n,m,l⟩:=hx;have hb:β s≠g:=λhe=>by rw[he,hg] at c;cases c;exact hne rfl
  obtain⟨y,t⟩:=k.NX _ _ hb c rfl;exact⟨r,y,q,us,e,by rw[t];exact p,Bi.mono k.le cs _ n,m,λo ho=>let⟨u,v,j,i,f⟩:=l o ho;⟨u,v,j,i,f.keptBut hg k hne⟩⟩
 |Fl s' o=>exact hx
def Dc.dv(hr:Dc C γ0 w0 γ β U h a w)(d:Nat)(us:Array Value)(e:TypeId)(cells:List Aa)(ow:List Nat)(hc:Bi γ cells us.toList)(h1:∀u∈us.toList,u.oneCell'=true)
  (how:∀o∈ow,cells[o]?=some .slnil):
  ∃γ' b,Dc C γ0 w0 γ' b ((U.drop [d]).set d (.box 0 cells ow)) h (a.put (some d) (.pointer (some ⟨w.heap.size,0,none⟩))) (w.alloc (.cells us e)):=by
 obtain⟨hi,ha⟩:=O1 hr.D4 us e (0,0) 0 (some (.loc d)) (λ_ _ ho=>absurd ho (Nat.not_lt_zero _)) (.inr (.inr ⟨rfl,AK⟩));have Ko:=(hr.drop [d]).I5 hi ha;refine⟨_,a_ β d w.heap.size,Ko.D4,⟨by simp[Act.put,Ko.fr.size],λs=>?_⟩,Ko.DX,Ko.defers,Ko.GY⟩;have hs:=Ko.fr.Ij s;by_cases he:s=d
 .subst he;by_cases hl:s<(U.drop [s]).length
  .have c:s<a.tmps.size:=by rw[<-Ko.fr.size];exact hl
   rw[BW.Fv hl];have i:(a.put (some s) (.pointer (some ⟨w.heap.size,0,none⟩))).tmps.getD s undef= .pointer (some ⟨w.heap.size,0,none⟩):=by simp[Act.put,Array.getD,c]
   rw[i];refine⟨by simp[a_],by simp[a_,Gh.Ds],?_,us,e,?_,Bi.mono ha.le _ _ hc,h1,λo ho=>?_⟩;.simp only[a_,BT];exact hr.DX.size
   .simp only[a_,BT];exact heap_alloc_new w _
   .have hco:=how o ho;obtain⟨u,f,j⟩:=hc.get hco;exact⟨u,.slnil,by simpa using f,hco,.inl (.inl rfl)⟩
  .have:BW.at ((U.drop [s]).set s (.box 0 cells ow)) s= .undef:=by simp[BW.at,List.getD];rw[D9 (by simpa using hl)];rfl
   rw[this];trivial
 .rw[BW.Gc (λe=>he e.symm)];have g:(a.put (some d) (.pointer (some ⟨w.heap.size,0,none⟩))).tmps.getD s undef=a.tmps.getD s undef:=by simp[Act.put,Hg,jV (λe=>he e.symm)]
  rw[g];refine hs.aMa (λo ho=>?_) he;rw[BW.RG] at ho;cases hx:U.at s with
  |Fl t o'=>
   rw[hx] at ho;simp only at ho;split at ho;.cases ho
   .rename_i hc;cases ho;exact hc AK
  |_=>rw[hx] at ho;cases ho
def H7{P:Program}{t:TypeId}{z:Aa}(hz:GZ P t=some z):∃v,KQ v=some z/\∀w,(zeroValue t).run P w= .ok v w:=by
 unfold GZ at hz;cases hi:P.info? t with
 |none=>rw[hi] at hz;cases hz
 |some i=>
  rw[hi] at hz;cases hv:i.zero with
  |none=>simp[hv] at hz
  |some v=>simp only[Cv,hv] at hz;exact⟨v,hz,λw=>by simp[zeroValue,typeInfo,hi,hv]⟩
def kQ{cs:List Aa}{o:Nat}(h:o∈VP cs):cs[o]?=some .slnil:=by
 simp only[VP,DI,List.mem_range] at h;obtain⟨h1,h2⟩:=h;simp only[List.getD,Ai h1,Hl] at h2;rw[Ai h1];split at h2;.rename_i he;rw[he]
 .cases h2
def FY(C:FZ)(γ0:Gh)(w0:World)(o:Oper)(a:Act)(w:World)(c:BW)(h':Ah):Prop:=
 ∃γ' b w',(∃v,(execOp a.eval o).run C.P w= .ok (.value v) w'/\Dc C γ0 w0 γ' b c h' (a.put o.dst v) w')\/((execOp a.eval o).run C.P w= .ok .skip w'/\Dc C γ0 w0 γ' b c h' (a.put o.dst undef) w')
def FY.value{o:Oper}{c:BW}{h':Ah}{b:Nat->Nat}{v:Value}(he:(execOp a.eval o).run C.P w= .ok (.value v) w')(hr:Dc C γ0 w0 γ' b c h' (a.put o.dst v) w'):FY C γ0 w0 o a w c h':=⟨γ',b,w',.inl ⟨v,he,hr⟩⟩
def FY.skip{o:Oper}{c:BW}{h':Ah}{b:Nat->Nat}(he:(execOp a.eval o).run C.P w= .ok .skip w')(hr:Dc C γ0 w0 γ' b c h' (a.put o.dst undef) w'):FY C γ0 w0 o a w c h':=⟨γ',b,w',.inr ⟨he,hr⟩⟩
def V6{o:Oper}{t:TypeId}{d:Nat}{z:Aa}(ho:o.op= .alloc t)(hd:o.dst=some d)(hz:GZ C.P t=some z)(hn:z.cells≠[])(hr:Dc C γ0 w0 γ β U h a w):
  FY C γ0 w0 o a w ((U.drop [d]).set d (.box 0 z.cells (VP z.cells))) h:=by
 obtain⟨v,hv,A3⟩:=H7 hz;obtain⟨e,c⟩:=Hq (γ:=γ) (Fu hv) (EG.2 hn);obtain⟨γ',b,F0⟩:=hr.dv d v.cells t z.cells (VP z.cells) e c (λo=>kQ);refine FY.value (v:= .pointer (some ⟨w.heap.size,0,none⟩)) ?_ (by rw[hd];exact F0);simp[execOp,ho,Instr.alloc,A3,newVar,newRow]
def Z0{o:Oper}{t:TypeId}{x:Operand}{d n:Nat}{v:Aa}(ho:o.op= .box t x)(hd:o.dst=some d)(hx:E6 C U x=some v)(hv:v.cells.length=n)(hn:n≠0)(hr:Dc C γ0 w0 γ β U h a w):
  FY C γ0 w0 o a w ((U.drop [d]).set d (.box 0 v.cells [])) h:=by
 obtain⟨e,c⟩:=Hq (GJ hr hx) Ab;obtain⟨γ',b,F0⟩:=hr.dv d (a.eval x).cells t v.cells [] e c AK;refine FY.value (v:= .pointer (some ⟨w.heap.size,0,none⟩)) ?_ (by rw[hd];exact F0);simp[execOp,ho,Instr.box,newVar,newRow]
def Dc.newObj(hr:Dc C γ0 w0 γ β U h a w)(us:Array Value)(e:TypeId)(fr:Nat×Nat)(cells:List Aa)(pM:S0 fr us.size)(hc:Bi γ cells (us.toList.take cells.length))(h1:∀u∈us.toList.take cells.length,u.oneCell'=true):
  ∃γ',γ.le γ'/\γ'.mu h.length=some w.heap.size/\Dc C γ0 w0 γ' β U (h++[.cells cells]) a (w.alloc (.cells us e fr))/\γ'.sz w.heap.size=some us.size:=by
 obtain⟨hi,ha⟩:=GM hr.D4 (.cells us e fr) (.cells cells) (some us.size) (.inl ⟨cells,us,e,fr,rfl,rfl,pM,hc,h1,rfl⟩);exact⟨_,ha.le,by simp[Gh.B3],hr.I5 hi ha,by simp[Gh.B3]⟩
def V8{o:Oper}{t:TypeId}{z:Aa}{d:Option Nat}(ho:o.op= .alloc t)(hd:o.dst=d)(hz:GZ C.P t=some z)(hn:z.cells.length≠0)(hr:Dc C γ0 w0 γ β U h a w):
  FY C γ0 w0 o a w (U.put d (.val (.ptr (some (h.length,0))))) (h++[.cells z.cells]):=by
 obtain⟨v,hv,A3⟩:=H7 hz;obtain⟨b,c⟩:=Hq (γ:=γ) (Fu hv) Ab;obtain⟨γ',En,hm,F0,_⟩:=hr.newObj v.cells t (0,0) z.cells (.inl rfl) (by rw[AD (by rw[b.length];exact Ag _)];exact b) (λu hu=>c u (Bn hu));refine FY.value (v:= .pointer (some ⟨w.heap.size,0,none⟩)) ?_ (by rw[hd];exact F0.put λs _=>⟨_,hm,rfl⟩);simp[execOp,ho,Instr.alloc,A3,newVar,newRow]
def Z3{o:Oper}{t:TypeId}{x:Operand}{d:Option Nat}{v:Aa}(ho:o.op= .box t x)(hd:o.dst=d)(hx:E6 C U x=some v)(hn:v.cells.length≠0)(hr:Dc C γ0 w0 γ β U h a w):
  FY C γ0 w0 o a w (U.put d (.val (.ptr (some (h.length,0))))) (h++[.cells v.cells]):=by
 obtain⟨b,c⟩:=Hq (GJ hr hx) Ab;obtain⟨γ',En,hm,F0,_⟩:=hr.newObj (a.eval x).cells t (0,0) v.cells (.inl rfl) (by rw[AD (by rw[b.length];exact Ag _)];exact b) (λu hu=>c u (Bn hu));refine FY.value (v:= .pointer (some ⟨w.heap.size,0,none⟩)) ?_ (by rw[hd];exact F0.put λs _=>⟨_,hm,rfl⟩);simp[execOp,ho,Instr.box,newVar,newRow]
def K9(hr:Dc C γ0 w0 γ β U h a w){x:Operand}{s o ver:Nat}{cs:List Aa}{ow:List Nat}(hx:Gj C U x=some (.OY s o ver cs ow)):
  U.at s= .box ver cs ow/\a.eval x= .pointer (some ⟨β s,o,none⟩):=by
 unfold Gj at hx;split at hx;.rename_i s' Gm GW NR hs;cases hx;have h0:=Rz hr s;rw[Hb hs] at h0;exact⟨Hb hs,h0.1⟩
 .rename_i s' o' _ hs;split at hx;.rename_i hb;cases hx;obtain⟨t,h1,_⟩:=Gp hr hs;exact⟨hb,h1⟩
  .cases hx
 .rename_i sl _ _ hs;cases hv:sl.Ho with
  |none=>rw[hv] at hx;cases hx
  |some u=>rw[hv] at hx;cases hx
 .cases hx
def QV(hr:Dc C γ0 w0 γ β U h a w){x:Operand}{p:Aa}(hx:Gj C U x=some (.ptr p)):BU γ p (a.eval x):=by
 unfold Gj at hx;split at hx;.cases hx
 .split at hx<;>cases hx
 .rename_i sl _ _ hs;cases hv:sl.Ho with
  |none=>rw[hv] at hx;cases hx
  |some u=>rw[hv] at hx;cases hx;obtain⟨t,h1,_⟩:=Gp hr hs;exact Nk h1 hv
 .cases hx
def Iw{t:TypeId}{n:Option Nat}(ht:Fs C.P t=some n){cs:List Aa}{us:List Value}{b o:Nat}(hv:Bi γ cs us)(hc:∀(j:Nat) (u:Value),us[j]?=some u->w.cell? ⟨b,o+j,none⟩=some u)(h1:∀u∈us,u.oneCell'=true)
  {r:Aa} (hp:Ft cs 0 n=some r):∃v,(Instr.loadAt t (.pointer (some ⟨b,o,none⟩))).run C.P w= .ok v w/\BU γ r v:=by
 unfold Fs at ht;have Nl:∀j,(⟨b,o,none⟩:Addr).add j=⟨b,o+j,none⟩:=λj=>by unfold Addr.add;split<;>simp_all
 have agg:∀d,C.P.underlying t=some d->(match d with| .struct _| .array _ _=>true|_=>false)=true->(B6 C.P t).map some=some n->
   ∃v,(Instr.loadAt t (.pointer (some ⟨b,o,none⟩))).run C.P w= .ok v w/\BU γ r v:=by
  intro d hd hb hn;cases hs:B6 C.P t with
  |none=>rw[hs] at hn;cases hn
  |some k=>
   rw[hs] at hn;cases hn;simp only[Ft] at hp;split at hp
   .rename_i hk;cases hp;have hl:=run_loadCells_list (P:=C.P) w ⟨b,o,none⟩ (us.take k) (λj v hj=>by
     rw[Nl];refine hc j v ?_;rw[Cj] at hj;split at hj;.exact hj
     .cases hj)
    have hlen:(us.take k).length=k:=by simp[hv.length];omega
    rw[hlen] at hl;refine⟨.agg (us.take k).toArray,?_,_,rfl,?_,λu hu=>h1 u (Bn (by simpa using hu))⟩
    .have kR:(isAgg t).run C.P w= .ok true w:=by unfold isAgg;rw[Sem.run_bind,run_underlying hd w];cases d<;>simp_all
     cases hq:C.P.info? t with
     |none=>simp[B6,hq] at hs
     |some i=>
      have hi:i.size=k:=by simpa[B6,hq] using hs
      simp[Instr.loadAt,Instr.sureAddr,loadVar,kR,sizeOf,typeInfo,hq,hi,hl]
    .simpa using hv.take k
   .cases hp
 split at ht;.rename_i fs hd;exact agg _ hd rfl ht
 .rename_i l e hd;exact agg _ hd rfl ht
 .rename_i d M2 SO hd;cases ht;simp only[Ft] at hp;obtain⟨u,hu,hr⟩:=hv.get hp;refine⟨u,?_,hr⟩;have kR:(isAgg t).run C.P w= .ok false w:=by unfold isAgg;rw[Sem.run_bind,run_underlying hd w];cases d<;>simp_all
  have JP:=hc 0 u hu;simp only[Bv] at JP;simp[Instr.loadAt,Instr.sureAddr,loadVar,kR,JP]
 .cases ht
def O6{cs:List Aa}{off:Nat}{n:Option Nat}{r:Aa}(h:Ft cs off n=some r):Ft (cs.drop off) 0 n=some r:=by
 cases n with
 |none=>simp only[Ft] at h⊢;rw[Ct];simpa using h
 |some n=>
  simp only[Ft] at h⊢;split at h;.cases h;rw[Ae Eg];simp
  .cases h
def Dc.YT(hr:Dc C γ0 w0 γ β U h a w){s ver:Nat}{cs:List Aa}{ow:List Nat}(hs:U.at s= .box ver cs ow):
  γ.Bw (β s)=some (.loc s)/\w0.heap.size<=β s/\∃us e,w.heap[β s]?=some (.cells us e (0,0))/\Bi γ cs us.toList/\(∀u∈us.toList,u.oneCell'=true)/\
   ∀o∈ow,∃u x,us[o]?=some u/\cs[o]?=some x/\IQ γ w0.heap.size w s (some o) u x:=by
 have h0:=hr.fr.Ij s;rw[hs] at h0;exact⟨h0.2.1,h0.2.2.1,h0.2.2.2⟩
def KS(hr:Dc C γ0 w0 γ β U h a w){t:TypeId}{n:Option Nat}(ht:Fs C.P t=some n){s ver off:Nat}{cs:List Aa}{ow:List Nat}(hs:U.at s= .box ver cs ow){r:Aa}(hp:Ft cs off n=some r):
  ∃v,(Instr.loadAt t (.pointer (some ⟨β s,off,none⟩))).run C.P w= .ok v w/\BU γ r v/\(n=none->∀us e,w.heap[β s]?=some (.cells us e (0,0))->us[off]?=some v):=by
 obtain⟨_,_,us,e,h1,h2,g,_⟩:=hr.YT hs;obtain⟨v,c,f⟩:=Iw (w:=w) (b:=β s) (o:=off) ht (h2.drop off) (λj u hj=>by rw[cell_of_row w _ _ us e (0,0) h1];rw[Ct] at hj;simpa using hj) (λu hu=>g u (BG hu)) (O6 hp)
 refine⟨v,c,f,λhn DM i ġ=>?_⟩;subst hn;rw[h1] at ġ;cases ġ;simp only[Ft] at hp;obtain⟨u,hu,_⟩:=h2.get hp;have JP:w.cell? ⟨β s,off,none⟩=some u:=by rw[cell_of_row w _ _ us e (0,0) h1];simpa using hu
 have kR:∃d,C.P.underlying t=some d/\(isAgg t).run C.P w= .ok false w:=by
  unfold Fs at ht;split at ht;.cases hz:B6 C.P t<;>rw[hz] at ht<;>cases ht
  .cases hz:B6 C.P t<;>rw[hz] at ht<;>cases ht
  .rename_i d M2 SO hd;refine⟨d,hd,?_⟩;unfold isAgg;rw[Sem.run_bind,run_underlying hd w];cases d<;>simp_all
  .cases ht
 obtain⟨d,hd,kR⟩:=kR;have:(Instr.loadAt t (.pointer (some ⟨β s,off,none⟩))).run C.P w= .ok u w:=by simp[Instr.loadAt,Instr.sureAddr,loadVar,kR,JP]
 rw[c] at this;cases this;simpa using hu
def Dc.rl(hr:Dc C γ0 w0 γ β U h a w){s ver off:Nat}{cs:List Aa}{ow:List Nat}(hs:U.at s= .box ver cs ow)(ho:off∈ow)(qk:off∉ow.erase off)(s':Nat)(c':Option Nat){u:Value}{v:Aa}(hv:cs[off]?=some v)
  (hu:∀us e,w.heap[β s]?=some (.cells us e (0,0))->us[off]?=some u):
  ∃γ',γ.le γ'/\Dc C γ0 w0 γ' β (U.set s (.box (ver+1) cs (ow.erase off))) h a w/\IQ γ' w0.heap.size w s' c' u v:=by
 have h0:=hr.fr.Ij s;rw[hs] at h0;obtain⟨h1,h2,r,us,e,j,q,p,i⟩:=h0;obtain⟨x,v',d,c,b⟩:=i off ho;rw[hv] at c;cases c;rw[hu us e j] at d;cases d;have Ko:Dc C γ0 w0 γ β (U.set s (.box (ver+1) cs (ow.erase off))) h a w:=hr.eB ⟨h1,h2,r,us,e,j,q,p,λo' qj=>i o' (List.mem_of_mem_erase qj)⟩;have hl:s<U.length:=BW.O2 (by rw[hs];simp);rcases b with b|⟨g,n,cap,kE,t,z,Az,o,m,l,f,k⟩
 .exact⟨γ,.refl _,Ko,.inl b⟩
 .refine⟨γ.FQ g (.tail s' c' (n*z)),Hp _ _ _,Ko.FQ l f (λhn=>by cases hn) (λo' qj Gm GW NR hb=>?_),.inr ⟨g,n,cap,kE,t,z,Az,o,m,by simp[Gh.FQ],f,k⟩⟩;rw[BW.Fv hl] at hb;cases hb;cases qj;exact qk
def Yh{o:Oper}{t:TypeId}{x:Operand}{d:Nat}{take:Bool}{r:EO}{run:IT->Ah->Option J1}{g:BW}{h':Ah}(ho:o.op= .load t x)(hd:o.dst=some d)(hc:Lt C U t x d take=some r)(hp:∃ws,r= .pure ws)
  (Ga:r.Nj C run (U.drop r.news) h g h') (hr:Dc C γ0 w0 γ β U h a w):FY C γ0 w0 o a w g h':=by
 have MF:∀v,(Instr.loadAt t (a.eval x)).run C.P w= .ok v w->(execOp a.eval o).run C.P w= .ok (.value v) w:=λv hv=>by simp[execOp,ho,hv]
 unfold Lt at hc;split at hc;.cases hc;obtain⟨_,e⟩:=hp;cases e
 .rename_i s off ver cs ow ht ha;obtain⟨hs,hx⟩:=K9 hr ha;split at hc
  .rename_i hlt;have Z4:cs[off]?=some (cs.getD off .nilIface):=by simp[List.getD,Ai hlt]
   obtain⟨v,b,c,i⟩:=KS hr ht hs (r:=cs.getD off .nilIface) (off:=off) (by simpa[Ft] using Z4);rw[<-hx] at b;simp only at hc;split at hc
   .rename_i HU;cases hc;rw[NZ AK] at Ga;obtain⟨rfl,rfl⟩:=Ga;simp only[Bx,aE5] at HU;obtain⟨⟨j,f⟩,_⟩:=HU;have f:off∉ow.erase off:=by simpa using f
    obtain⟨γ',En,F0,FG⟩:=hr.rl hs j f d none Z4 (i rfl);exact FY.value (MF v b) (by rw[hd];exact F0.put (d:=some d) λs' Vh=>by cases Vh;exact⟨BU.mono En _ _ c,FG⟩)
   .cases hc;rw[NZ AK] at Ga;obtain⟨rfl,rfl⟩:=Ga;exact FY.value (MF v b) (by rw[hd];exact hr.put (d:=some d) λ_ _=>c)
  .cases hc
 .rename_i n s off ver cs ow ht ha;obtain⟨hs,hx⟩:=K9 hr ha;split at hc;.rename_i En;cases hc;rw[NZ AK] at Ga;obtain⟨rfl,rfl⟩:=Ga;obtain⟨v,b,c,_⟩:=KS hr ht hs (r:= .agg ((cs.drop off).take n)) (off:=off) (by simp[Ft,En]);rw[<-hx] at b;exact FY.value (MF v b) (by rw[hd];exact hr.put (d:=some d) λ_ _=>c)
  .cases hc
 .cases hc
def dw{o:Oper}{t:TypeId}{x:Operand}{n:Option Nat}{p r:Aa}(ho:o.op= .load t x)(ht:Fs C.P t=some n)(hx:Gj C U x=some (.ptr p))(hl:Bg h n p=some r)(hr:Dc C γ0 w0 γ β U h a w):
  FY C γ0 w0 o a w (U.put o.dst (.val r)) h:=by
 have hv:=QV hr hx;have MF:∀v,(Instr.loadAt t (a.eval x)).run C.P w= .ok v w->(execOp a.eval o).run C.P w= .ok (.value v) w:=λv hv=>by simp[execOp,ho,hv]
 unfold Bg at hl;split at hl
 .rename_i cs;obtain⟨b,k,hv,hm⟩:=hv;obtain⟨us,g,d⟩:=hm.values;obtain⟨v,c,f⟩:=Iw (w:=w) ht g (λj u hj=>(hr.D4.Io _ _ _ (d j u hj)).1) (λu hu=>by obtain⟨j,hj⟩:=CR hu;exact(hr.D4.Io _ _ _ (d j u hj)).2.1) hl
  rw[<-hv] at c;exact FY.value (MF v c) (hr.put λ_ _=>f)
 .rename_i id off;obtain⟨b,hb,hv⟩:=hv;split at hl
  .rename_i cs hcs;obtain⟨us,e,fr,g,pf,d,i⟩:=hr.D4.cells id cs hcs b hb;obtain⟨v,c,f⟩:=Iw (w:=w) (b:=b) (o:=off) ht (d.drop off) (λj u hj=>by
    rw[cell_of_row w _ _ us e fr g];rw[Ct,Cj] at hj;split at hj;.simpa using hj
    .cases hj) (λu hu=>i u (BG hu)) (O6 hl)
   rw[<-hv] at c;exact FY.value (MF v c) (hr.put λ_ _=>f)
  .cases hl
 .cases hl
end
end Go.Am
end
section
namespace Go.Am
open Go
section
variable{C:FZ}{γ0 γ γ':Gh}{w0 w w':World}{β:Nat->Nat}{U:BW}{h:Ah}{a:Act}{fid:FuncId}{ops:List Oper}
def ER{b:Nat}{t:TypeId}{fr:Nat×Nat}:∀(vs:List Value) (o:Nat) (cur:Array Value) (w:World),w.heap[b]?=some (.cells cur t fr)->o+vs.length<=cur.size->
  w.setCells b o vs=w.setRow b (cur.toList.take o++vs++cur.toList.drop (o+vs.length)).toArray
 |[],o,cur,w,hg,_=>by simp only[World.setCells,BK,B1,Bv,CF,Array.toArray_toList];exact(setRow_self w b cur t fr hg).symm
 |v::r,o,cur,w,hg,hl=>by simp only[Be] at hl;rw[World.setCells,setCell_eq_setRow w b o cur t fr v hg,ER r (o+1) _ _ (setRow_heap w b cur _ t fr hg) Eg,setRow_setRow];have e:=list_seg_step cur.toList o v r Eg;simp only[Array.toList_setIfInBounds,Be];rw[e]
def OB{t:TypeId}{n b o:Nat}(hn:B6 C.P t=some n){u:Value}(hu:u.cells.size=n)(h1:∀x∈u.cells.toList,x.oneCell'=true){cur:Array Value}{e:TypeId}{fr:Nat×Nat}(hg:w.heap[b]?=some (.cells cur e fr))(pM:S0 fr cur.size)
  (hl:o+n<=cur.size):(Instr.storeAt t (.pointer (some ⟨b,o,none⟩)) u).run C.P w= .ok () (w.setRow b (cur.toList.take o++u.cells.toList++cur.toList.drop (o+n)).toArray):=by
 have hs:=run_storeCells_cells (P:=C.P) b o u.cells.toList 0 w (λj hj=>by
  rw[cell_of_row w _ _ cur e fr hg];simp at hj;rw[CU Ab];rfl) (λj hj=>by
  simp at hj;simp only[World.frozen?,hg];rcases pM with rfl|pM
  .simp
  .simp;omega) h1
 rw[Bv,ER _ o cur w hg Eg] at hs;cases hq:C.P.info? t with
 |none=>simp[B6,hq] at hn
 |some i=>
  have hi:i.size=n:=by simpa[B6,hq] using hn
  simp only[Ci,hu] at hs;simp[Instr.storeAt,Instr.sureAddr,storeVar,sizeOf,typeInfo,hq,hi,hu,hs]
def V9{Z:Type}{cs vs:List Z}{off n o:Nat}(hl:off+n<=cs.length)(hv:vs.length=n)(ho:¬(off<=o/\o<off+n)):(cs.take off++vs++cs.drop (off+n))[o]?=cs[o]?:=by
 have b:(cs.take off).length=off:=Eg;by_cases h:o<off;.rw[Aj (by simp[hv];omega),Aj Ab,CZ h]
 .rw[Bm (by simp[hv];omega),Ct];congr 1
  simp[hv];omega
def YU{Z:Type}{cs:List Z}{off n:Nat}{x:Z}(hl:off+n<=cs.length):(cs.take off++[x]++cs.drop (off+n))[off]?=some x:=by have b:(cs.take off).length=off:=Eg;rw[Aj Eg,Bm Ab];simp[b]
def MK{Z:Type}{us vs:List Z}{off n len:Nat}(hl:len<=us.length)(ho:off+n<=len)(hv:vs.length=n):
  (us.take off++vs++us.drop (off+n)).take len=(us.take len).take off++vs++(us.take len).drop (off+n):=by
 have c:(us.take off).length=off:=Eg;have b:(us.take off++vs).length=off+n:=by simp[hv];omega
 rw[oV,AD Ab,b,FA,Cs Ab,List.drop_take]
def N4{cs vs:List Aa}{us DM:List Value}{off n:Nat}(h:Bi γ cs us)(h':Bi γ vs DM):Bi γ (cs.take off++vs++cs.drop (off+n)) (us.take off++DM++us.drop (off+n)):=
 ((h.take off).append h').append (h.drop (off+n))
def IQ.ģ{B s d g:Nat}(hg:γ.Bw g=some (.loc s)){c:Option Nat}{v:Value}{u:Aa}(DM:Array Value)(ho:IQ γ B w d c v u):IQ γ B (w.setRow g DM) d c v u:=by
 rcases ho with ho|⟨g2,n,cap,us,e,z,Az,h1,h2,b,j,i,f⟩
 .exact .inl ho
 .have hb:g2≠g:=λhe=>by subst he;rw[hg] at b;cases b
  exact .inr ⟨g2,n,cap,us,e,z,Az,h1,h2,b,j,by rw[setRow_other w g g2 DM hb];exact i,f⟩
def Wa(γ:Gh)(w:World)(g:Nat)(us:Array Value):PR g γ w γ (w.setRow g us):=
 ⟨.refl _,λb x hb hx _=>⟨hx,setRow_other w g b us hb⟩⟩
def Dc.eQ(hr:Dc C γ0 w0 γ β U h a w){s ver Gm off n:Nat}{cs:List Aa}{ow:List Nat}(hs:U.at s= .box ver cs ow){vs:List Aa}{DM:List Value}(hv:Bi γ vs DM)(h1:∀u∈DM,u.oneCell'=true)(hn:vs.length=n)
  (hl:off+n<=cs.length) {Bw:Bool} (FG:Bw=true->∃u x,DM=[u]/\vs=[x]/\IQ γ w0.heap.size w s (some off) u x) {us:Array Value} {e:TypeId} (hg:w.heap[β s]?=some (.cells us e (0,0))):
  Dc C γ0 w0 γ β (U.set s (.box Gm (VS cs off n vs) (Rt ow off n Bw))) h a (w.setRow (β s) (us.toList.take off++DM++us.toList.drop (off+n)).toArray):=by
 have h0:=hr.fr.Ij s;rw[hs] at h0;obtain⟨r,c,k,bb,e0,j,i,f,q⟩:=h0;rw[hg] at j;cases j;have hlen:DM.length=n:=by rw[hv.length,hn]
 have dQ:off+n<=us.toList.length:=by rw[i.length];exact hl
 have dx:s<U.length:=BW.O2 (by rw[hs];simp);refine⟨wW hr.D4 c _,⟨by simp[hr.fr.size],λd=>?_⟩,hr.DX.write (g:=β s) k (.refl _) AK rfl rfl rfl (λb hb=>⟨setRow_other w _ b _ hb,rfl⟩),hr.defers,hr.GY⟩;by_cases he:d=s
 .subst he;rw[BW.Fv dx];refine⟨r,c,k,_,e,setRow_heap w _ us _ e (0,0) hg,?_,?_,?_⟩;.simpa[VS] using N4 (off:=off) (n:=n) i hv
  .intro u hu;simp only[AJ,Av] at hu;rcases hu with hu|hu|hu
   .exact f u (Bn hu)
   .exact h1 u hu
   .exact f u (BG hu)
  .intro o ho;have I6:(Bw=true/\o=off)\/(o∈ow/\¬(off<=o/\o<off+n)):=by
    unfold Rt at ho;have hf:o∈ow.filter (λo=> !(decide (off<=o)&&decide (o<off+n)))->o∈ow/\¬(off<=o/\o<off+n):=λhm=>by rw[DI] at hm;refine⟨hm.1,λhc=>?_⟩;have:=hm.2;simp[hc.1,hc.2] at this
    cases Bw with
    |true=>
     simp only[BT,AS] at ho;rcases ho with ho|ho
     .exact .inl ⟨rfl,ho⟩
     .exact .inr (hf ho)
    |false=>exact .inr (hf ho)
   rcases I6 with⟨Ÿ,rfl⟩|⟨Ÿ,X3⟩
   .obtain⟨u,x,rfl,rfl,t⟩:=FG Ÿ;exact⟨u,x,by simpa using YU (x:=u) dQ,by simpa[VS] using YU (x:=x) hl,t.ģ c _⟩
   .obtain⟨u,x,p,m,l⟩:=q o Ÿ;refine⟨u,x,?_,?_,l.ģ c _⟩;.rw[<-p];have:=V9 dQ hlen X3;simpa using this
    .rw[<-m];exact V9 hl hn X3
 .rw[BW.Gc (λx=>he x.symm)];exact(hr.fr.Ij d).keptBut c (Wa γ w _ _) (by simp only[Kx.jZ];intro hx;cases hx;exact he rfl)
def O7(hr:Dc C γ0 w0 γ β U h a w){y:Operand}{v:Aa}(hy:K0 C U y=true)(hv:E6 C U y=some v)(s':Nat)(c':Option Nat):
  ∃γ',γ.le γ'/\Dc C γ0 w0 γ' β (U.DO (Dk U y)) h a w/\BU γ' v (a.eval y)/\IQ γ' w0.heap.size w s' c' (a.eval y) v:=by
 unfold K0 at hy;cases hs:Ed C U y with
 |none=>rw[hs] at hy;cases hy
 |some sl=>
  rw[hs] at hy;cases sl with
  |Bw u=>
   have b:u=v:=by unfold E6 at hv;rw[hs] at hv;exact D3 hv
   subst b;cases y with
   |tmp t=>have ht:U.at t= .Bw u:=Hb hs;obtain⟨γ',En,F0,h1,h2⟩:=hr.take ht s' c';exact⟨γ',En,by simpa[Dk,ht,BW.DO] using F0,h1,h2⟩
   |const c=>
    refine⟨γ,.refl _,hr,GJ hr hv,?_⟩;obtain⟨q,_⟩:=RC (γ:=γ) (β:=β) (w:=w) hs;unfold Ed at hs;split at hs;.rename_i e;cases e
    .cases hs
    .cases hs;exact .inl (.inl rfl)
    .rename_i Kp;cases Kp;cases hc:KQ c with
     |none=>rw[hc] at hs;cases hs
     |some _=>rw[hc] at hs;cases hs
    .rename_i e;cases e
    .cases hs
   |global g=>have Vh:(C.GY g).map (λcs=>Er.val (Aa.Cq cs))=some (.Bw u):=hs;cases hc:C.GY g<;>rw[hc] at Vh<;>cases Vh
   |func f=>cases hs
  |_=>cases hy
def kS{B s:Nat}{c:Option Nat}{v:Value}{x:Aa}(h:IQ γ B w s c v x):x.cells=[x]:=by rcases h with(rfl|⟨_,rfl⟩)|⟨_,_,_,_,_,_,_,rfl,_⟩<;>rfl
def kT{o:Oper}{t:TypeId}{x y:Operand}{s off n ver:Nat}{v:Aa}{Bw:Bool}{c:Option (Nat×Aa)}{cells:List Aa}{owned:List Nat}{run:IT->Ah->Option J1}{i:BW}{h':Ah}(ho:o.op= .store t x y)(hd:o.dst=none)
  (hc:Jw C U t x y=some (.MY s off n v Bw c ver cells owned)) (Ga:(EO.MY s off n v Bw c ver cells owned).Nj C run U h i h') (hr:Dc C γ0 w0 γ β U h a w):FY C γ0 w0 o a w i h':=by
 unfold Jw at hc;split at hc;.cases hc
 .rename_i m sh s' dy Gm GW NR v' KR jM ha hv;split at hc
  .rename_i hl;simp only[BE,EO.MY.injEq] at hc;obtain⟨rfl,rfl,rfl,rfl,FG,Yi,rfl,rfl,rfl⟩:=hc;obtain⟨hn,rfl,rfl⟩:=Ga;obtain⟨hs,hx⟩:=K9 hr ha;have pT:=GJ hr hv;obtain⟨_,_,us,e,hg,k,l,_⟩:=hr.YT hs;have dx:dy+(m+1)<=us.size:=by have:=k.length;simp at this;omega
   obtain⟨f,d⟩:=Hq pT Ab;have kU:(a.eval y).cells.size=m+1:=by have:=f.length;simp at this;omega
   have HT:=OB (C:=C) (b:=β s') (o:=dy) KR kU d hg (.inl rfl) dx;rw[<-hx] at HT;have MF:(execOp a.eval o).run C.P w= .ok .skip (w.setRow (β s') (us.toList.take dy++(a.eval y).cells.toList++us.toList.drop (dy+(m+1))).toArray):=by simp[execOp,ho,HT]
   by_cases hw:Bw=true
   .subst hw;rw[Ae FG] at Yi;subst Yi;simp only[Bx] at FG;obtain⟨j,En,Ko,h1,h2⟩:=O7 hr FG.2 hv s' (some dy);have Qo:=kS h2;have JQ:(U.DO (Dk U y)).at s'= .box Gm GW NR:=by
     cases y with
     |tmp t'=>
      simp only[Dk];cases ht:U.at t' with
      |Bw u=>simp only[BW.DO];rw[BW.Gc (λe=>by rw[e,hs] at ht;cases ht)];exact hs
      |_=>exact hs
     |_=>exact hs
    have LL:=Ko.eQ (Gm:=Gm+1) (Bw:=true) (n:=m+1) JQ (Bi.mono En _ _ f) d hn hl (λ_=>?_) hg;.exact FY.skip MF (by rw[hd];exact LL)
    .have hcl:(a.eval y).cells=#[a.eval y]:=by
      rcases h2 with(h2|⟨z,h2⟩)|⟨_,_,_,_,_,_,_,_,h2,_⟩
      .subst h2;rw[show a.eval y=_ from h1];rfl
      .subst h2;obtain⟨_,h1⟩:=h1;rw[h1];rfl
      .rw[h2];rfl
     exact⟨a.eval y,v',by rw[hcl],Qo,h2⟩
   .have g:Bw=false:=by simpa using hw
    subst g;rw[Ac (by rw[FG];simp)] at Yi;subst Yi;exact FY.skip MF (by rw[hd];exact hr.eQ (Gm:=Gm+1) (Bw:=false) hs f d hn hl (λe=>by cases e) hg)
  .cases hc
 .cases hc
def xG{o:Oper}{t:TypeId}{x y:Operand}{n:Nat}{p v:Aa}{h':Ah}(ho:o.op= .store t x y)(hd:o.dst=none)(KR:B6 C.P t=some (n+1))(hx:Gj C U x=some (.ptr p))(hv:E6 C U y=some v)(HT:Cw h (n+1) p v=some h')(hr:Dc C γ0 w0 γ β U h a w):
  FY C γ0 w0 o a w U h':=by
 have Ź:=QV hr hx;have pT:=GJ hr hv;unfold Cw at HT;split at HT
 .rename_i id off;obtain⟨b,hb,c⟩:=Ź;split at HT
  .rename_i cs hcs;split at HT
   .rename_i hl;cases HT;obtain⟨us,e,fr,hg,pf,j,i⟩:=hr.D4.cells id cs hcs b hb;obtain⟨g,f⟩:=Hq pT Ab;have kU:(a.eval y).cells.size=n+1:=by have:=g.length;simp at this;omega
    have hlt:cs.length<=us.size:=by have:=j.length;simp at this;omega
    have dx:off+(n+1)<=us.size:=Ab;have A3:=OB (C:=C) (b:=b) (o:=off) KR kU f hg pf dx;rw[<-c] at A3;obtain⟨hi,ha⟩:=Nh hr.D4 hcs hb hg (us.toList.take off++(a.eval y).cells.toList++us.toList.drop (off+(n+1))).toArray (cs.take off++v.cells++cs.drop (off+(n+1)))
     (by simp only[Cb,Au,As,Bc,Ci,kU];omega)
     (by
      rcases pf with rfl|pf
      .exact .inl rfl
      .refine .inr (Bu (Mu ?_) pf);simp only[Cb,Au,As,Bc,Ci,kU];omega)
     (by
      have:=N4 (off:=off) (n:=n+1) j g;rw[<-MK (by simpa using hlt) hl.2 (by simpa using kU)] at this;have d:(cs.take off++v.cells++cs.drop (off+(n+1))).length=cs.length:=by simp[hl.1];omega
      rw[d];simpa using this) (λu hu=>by
      have d:(cs.take off++v.cells++cs.drop (off+(n+1))).length=cs.length:=by simp[hl.1];omega
      rw[d] at hu;simp only[KL] at hu;rw[MK (by simpa using hlt) hl.2 (by simpa using kU)] at hu;simp only[AJ,Av] at hu;rcases hu with hu|hu|hu
      .exact i u (Bn hu)
      .exact f u hu
      .exact i u (BG hu))
    have MF:(execOp a.eval o).run C.P w= .ok .skip (w.setRow b (us.toList.take off++(a.eval y).cells.toList++us.toList.drop (off+(n+1))).toArray):=by simp[execOp,ho,A3]
    exact FY.skip MF (by rw[hd];exact hr.I5 hi ha)
   .cases HT
  .cases HT
 .cases HT
def Dc.freeze(hr:Dc C γ0 w0 γ β U h a w){s ver:Nat}{cs:List Aa}{ow:List Nat}(hs:U.at s= .box ver cs ow):
  ∃γ',γ.le γ'/\Dc C γ0 w0 γ' β (U.set s (.val (.Cq cs))) h a w/\BU γ' (.Cq cs) (a.tmps.getD s undef):=by
 have h0:=hr.fr.Ij s;rw[hs] at h0;obtain⟨z,f,B,us,e,t,m,l,A⟩:=h0;have dx:s<U.length:=BW.O2 (by rw[hs];simp);have dg:∀o,γ.Io (β s) o=none:=λo=>by
  cases hc:γ.Io (β s) o with
  |none=>rfl
  |some u=>obtain⟨_,_,q⟩:=hr.D4.Io _ _ _ hc;rw[f] at q;rcases q with q|⟨_,_,_,q,_⟩<;>cases q
 have En:γ.le (γ.Ds (β s) us us.size none):=⟨λb o v hb=>by
  have:b≠β s:=λe=>by rw[e,dg] at hb;cases hb
  simp only[Gh.Ds,Ac this];exact hb,λ_ _ hm=>hm,λ_ _ hm=>hm⟩
 have hne:∀b id,γ.Bw b=some (.L8 id)->b≠β s:=λb id hb e=>by rw[e,f] at hb;cases hb
 have hk:PR (β s) γ w (γ.Ds (β s) us us.size none) w:=⟨En,λb x hb hx _=>⟨by simp only[Gh.Ds,Ac hb];exact hx,rfl⟩⟩;have hv:BU (γ.Ds (β s) us us.size none) (.Cq cs) (a.tmps.getD s undef):=by
  refine⟨β s,0,z,C4.Ha λi x hi=>?_⟩;obtain⟨u,d,c⟩:=m.get hi;have hlt:i<us.size:=by have:=(Ak.1 d).1;simpa using this
  exact⟨u,by simp only[Gh.Ds,BT,B0,Ae hlt];simpa using d,BU.mono En _ _ c⟩
 have ź:∀b n,γ.sz b=some n->(∃us e fr,w.heap[b]?=some (.cells us e fr)/\us.size=n)/\((γ.Ds (β s) us us.size none).Bw b=none\/∃id,(γ.Ds (β s) us us.size none).Bw b=some (.L8 id)):=λb n hb=>by
  obtain⟨p,r⟩:=hr.D4.sz b n hb;by_cases he:b=β s;.subst he;exact⟨p,.inl (by simp[Gh.Ds])⟩
  .exact⟨p,by simp only[Gh.Ds,Ac he];exact r⟩
 refine⟨_,En,⟨⟨λb o v hb=>?_,λid y Ik hy=>?_,λid GW hc b hb=>?_,λid es hc b hb=>?_,hr.D4.mu,λb x hx=>?_,ź⟩,⟨by simp[hr.fr.size],λj=>?_⟩,?_,hr.defers,λx GW hx=>C4.mono En _ _ _ (hr.GY x GW hx)⟩,hv⟩
 .by_cases he:b=β s
  .subst he;simp only[Gh.Ds,BT] at hb⊢;split at hb;.exact⟨by rw[cell_of_row _ _ _ us e (0,0) t];exact hb,l v (by rw[A7] at hb;obtain⟨p,q⟩:=hb;rw[<-q];exact Array.getElem_mem_toList p),.inl AK⟩
   .cases hb
  .simp only[Gh.Ds,Ac he] at hb⊢;exact hr.D4.Io b o v hb
 .obtain⟨b,d,c⟩:=hr.D4.L8 id y Ik hy;exact⟨b,d,by simp only[Gh.Ds,Ac (hne b id c)];exact c⟩
 .obtain⟨DM,g,wV,d,qf,c,k⟩:=hr.D4.cells id GW hc b hb;exact⟨DM,g,wV,d,qf,Bi.mono En _ _ c,k⟩
 .obtain⟨DM,g,d,c⟩:=hr.D4.map id es hc b hb;exact⟨DM,g,d,c.mono En⟩
 .by_cases he:b=β s;.subst he;exact hr.D4.Bw _ _ f
  .simp only[Gh.Ds,Ac he] at hx;exact hr.D4.Bw b x hx
 .by_cases he:j=s;.subst he;rw[BW.Fv dx];exact hv
  .rw[BW.Gc (λx=>he x.symm)];exact(hr.fr.Ij j).keptBut f hk (by simp only[Kx.jZ];intro hx;cases hx;exact he rfl)
 .refine⟨hr.DX.le.trans En,hr.DX.size,hr.DX.os,hr.DX.tape,hr.DX.output,λb hb hn=>?_⟩;obtain⟨d,c⟩:=hr.DX.NX b hb hn;exact⟨d,by simp only[Gh.Ds,Ac (Ab:b≠β s)];exact c⟩
def Dc.S3:∀{fz:List (Nat×List Aa)} {γ:Gh} {U:BW},Dc C γ0 w0 γ β U h a w->(∀p∈fz,∃ver ow,U.at p.1= .box ver p.2 ow)->(fz.map (·.1)).Nodup->
  ∃γ',γ.le γ'/\Dc C γ0 w0 γ' β (U.Ej (fz.map λ(s,cs)=>(s,.val (.Cq cs)))) h a w/\∀p∈fz,BU γ' (.Cq p.2) (a.tmps.getD p.1 undef)
 |[],γ,U,hr,_,_=>⟨γ,.refl _,hr,AK⟩
 |(s,cs)::fz,γ,U,hr,hb,hn=>by
  simp only[Bs,B8] at hn;obtain⟨ver,ow,hs⟩:=hb (s,cs) AK;obtain⟨d,aMd,Ko,rp⟩:=hr.freeze hs;obtain⟨b,eR,LL,Wb⟩:=S3 (fz:=fz) Ko (λp hp=>by obtain⟨Gm,NR,c⟩:=hb p (by simp[hp]);refine⟨Gm,NR,?_⟩;rw[BW.Gc (λe=>hn.1 (by rw[show s=p.1 from e];exact Bl.2 ⟨p,hp,rfl⟩))];exact c) hn.2
  refine⟨b,aMd.trans eR,LL,λp hp=>?_⟩;rcases AS.1 hp with rfl|hp
  .exact BU.mono eR _ _ rp
  .exact Wb p hp
def M3:∀{xs:List Operand} {vs:List Aa} {fz:List (Nat×List Aa)},Gk C U xs=some (vs,fz)->
  (∀p∈fz,∃ver ow,U.at p.1= .box ver p.2 ow)/\(fz.map (·.1)).Nodup/\
  ∀γ',(∀x u,E6 C U x=some u->BU γ' u (a.eval x))->(∀p∈fz,BU γ' (.Cq p.2) (a.tmps.getD p.1 undef))->Bi γ' vs (xs.map a.eval)
 |[],vs,fz,hc=>by cases hc;exact⟨AK,AK,λ_ _ _=>rfl⟩
 |x::xs,vs,fz,hc=>by
  unfold Gk at hc;split at hc;.cases hc
  .rename_i HS f d;obtain⟨h1,h2,e⟩:=M3 d;split at hc
   .rename_i s ver cs ow hs;split at hc;.cases hc
    .rename_i hn;cases hc;have hsb:U.at s= .box ver cs ow:=Hb hs;refine⟨λp hp=>?_,?_,λγ' c b=>?_⟩
     .rcases AS.1 hp with rfl|hp
      .exact⟨ver,ow,hsb⟩
      .exact h1 p hp
     .simp only[Bs,B8];exact⟨by simpa using hn,h2⟩
     .exact⟨_,_,rfl,b (s,cs) AK,e γ' c λp hp=>b p (by simp[hp])⟩
   .rename_i sl _ hs;cases hv:sl.Ho with
    |none=>rw[hv] at hc;cases hc
    |some u=>rw[hv] at hc;cases hc;exact⟨h1,h2,λγ' c b=>⟨_,_,rfl,c _ u (by unfold E6;rw[hs];exact hv),e γ' c b⟩⟩
   .cases hc
def eS{o:Oper}{fn:Fn}{first captured:Array Operand}{d:Nat}{as bs:List Aa}{fz:List (Nat×List Aa)}(ho:o.op= .makeFunc fn first captured)(hd:o.dst=some d)(ha:BC C U first.toList=some as)(hb:Gk C U captured.toList=some (bs,fz))(hr:Dc C γ0 w0 γ β U h a w):
  FY C γ0 w0 o a w (((U.drop (fz.map (·.1))).Ej (fz.map λ(s,cs)=>(s,.val (.Cq cs)))).set d (.val (.func fn as bs))) h:=by
 obtain⟨h1,h2,b⟩:=M3 (a:=a) hb;obtain⟨γ',En,F0,hv⟩:=(hr.drop (fz.map (·.1))).S3 (fz:=fz) (λp hp=>by obtain⟨ver,ow,hs⟩:=h1 p hp;exact⟨ver,ow,by rw[BW.RG,hs]⟩) h2
 refine FY.value (w':=w) (v:= .func fn (first.map a.eval) (captured.map a.eval)) (by simp[execOp,ho,Instr.makeFunc]) (by rw[hd];exact F0.put (d:=some d) λ_ _=>⟨_,_,rfl,by simpa using Bi.mono En _ _ (DY hr ha),by simpa using b γ' (λx u hx=>BU.mono En _ _ (GJ hr hx)) hv⟩)
end
end Go.Am
end
