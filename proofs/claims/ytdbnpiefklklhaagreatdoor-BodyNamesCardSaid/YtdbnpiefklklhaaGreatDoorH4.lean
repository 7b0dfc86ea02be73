/- Lemmas -/
import Derived.Test.YtdbnpiefklklhaaGreatDoorH3
import Derived.Laws.IdiomCopy
set_option linter.all false
section
namespace Go.Am
open Go
def fq(β:Nat->Nat)(d b:Nat):Nat->Nat:=λs=>if s=d then b else β s
def J3.mA:J3->Option Nat
 | .Md _=>none
 | .loc s=>some s
 | .tail s _ _=>some s
structure PT(g:Nat)(γ:Gh)(w:World)(γ':Gh)(w':World):Prop where
 le:γ.le γ'
 Nw:∀b x,b≠g->γ.BK b=some x->x.jd=false->γ'.BK b=some x/\w'.heap[b]?=w.heap[b]?
section
variable{C:Fv}{γ0 γ γ':Gh}{w0 w w':World}{β:Nat->Nat}{U:BG}{h:Ai}{a:Act}{fid:FuncId}{ops:List Oper}
def BG.RQ(U:BG)(ds:List Nat)(s:Nat):(U.drop ds).at s=match U.at s with| .EU t o=>if ds.contains t then .undef else .EU t o|x=>x:=by
 cases ds with
 |nil=>simp only[BG.drop,List.contains_nil];cases U.at s<;>simp
 |cons d ds=>
  simp only[BG.drop,BG.at,List.getD,Cd];cases hg:U[s]? with
  |none=>rfl
  |some x=>cases x<;>rfl
def BG.length_drop(U:BG)(ds:List Nat):(U.drop ds).length=U.length:=by cases ds<;>simp[BG.drop]
def K8.aIX{B s d b:Nat}{x:D0}{v:Value}(hx:K8 γ β B w s x v)(hn:∀o,x≠ .EU d o)(hs:s≠d):K8 γ (fq β d b) B w s x v:=by
 cases x with
 |box ver cs ow=>simpa only[K8,fq,Ad hs] using hx
 |EU t o=>have:t≠d:=λe=>hn o (by rw[e]);simpa only[K8,fq,Ad this] using hx
 |_=>exact hx
def IE.keptBut{g B s:Nat}{d:J3}(hg:γ.BK g=some d)(k:PT g γ w γ' w')(hne:d.mA≠some s){c:Option Nat}{v:Value}{u:Aa}(ho:IE γ B w s c v u):IE γ' B w' s c v u:=by
 rcases ho with ho|⟨g2,n,cap,us,e,z,Aw,h1,h2,b,m,l,j⟩
 .exact .inl ho
 .have hb:g2≠g:=λhe=>by subst he;rw[hg] at b;cases b;exact hne rfl
  obtain⟨i,f⟩:=k.Nw g2 _ hb b rfl;exact .inr ⟨g2,n,cap,us,e,z,Aw,h1,h2,i,m,by rw[f];exact l,j⟩
def K8.keptBut{g B s:Nat}{c:J3}(hg:γ.BK g=some c)(k:PT g γ w γ' w')(hne:c.mA≠some s){x:D0}{v:Value}(hx:K8 γ β B w s x v):K8 γ' β B w' s x v:=by
 cases x with
 |undef=>trivial
 |skip=>exact hx
 |val u=>exact BF.mono k.le u v hx
 |OD b=>exact hx
 |BK u=>exact⟨BF.mono k.le u v hx.1,hx.2.keptBut hg k hne⟩
 |box ver cs ow=>
  obtain⟨p1,p2,p,us,e,n,m,l,j⟩:=hx;have hb:β s≠g:=λhe=>by rw[he,hg] at p2;cases p2;exact hne rfl
  obtain⟨r,q⟩:=k.Nw _ _ hb p2 rfl;exact⟨p1,r,p,us,e,by rw[q];exact n,AW.mono k.le cs _ m,l,λo ho=>let⟨u,v,i,f,d⟩:=j o ho;⟨u,v,i,f,d.keptBut hg k hne⟩⟩
 |EU s' o=>exact hx
def CX.jn(hr:CX C γ0 w0 γ β U h a w)(d:Nat)(us:Array Value)(e:TypeId)(cells:List Aa)(ow:List Nat)(hc:AW γ cells us.toList)(h1:∀u∈us.toList,u.oneCell'=true)
  (how:∀o∈ow,cells[o]?=some .slnil):
  ∃γ' b,CX C γ0 w0 γ' b ((U.drop [d]).set d (.box 0 cells ow)) h (a.put (some d) (.pointer (some ⟨w.heap.size,0,none⟩))) (w.alloc (.cells us e)):=by
 obtain⟨hi,ha⟩:=OS hr.DG us e (0,0) 0 (some (.loc d)) (λ_ _ ho=>absurd ho (Nat.not_lt_zero _)) (.inr (.inr ⟨rfl,Ax⟩));have Jq:=(hr.drop [d]).IA hi ha;refine⟨_,fq β d w.heap.size,Jq.DG,⟨by simp[Act.put,Jq.fr.size],λs=>?_⟩,Jq.DA,Jq.defers,Jq.GC⟩;have hs:=Jq.fr.HR s;by_cases he:s=d
 .subst he;by_cases hl:s<(U.drop [s]).length
  .have c:s<a.tmps.size:=by rw[<-Jq.fr.size];exact hl
   rw[BG.E2 hl];have i:(a.put (some s) (.pointer (some ⟨w.heap.size,0,none⟩))).tmps.getD s undef= .pointer (some ⟨w.heap.size,0,none⟩):=by simp[Act.put,Array.getD,c]
   rw[i];refine⟨by simp[fq],by simp[fq,Gh.C6],?_,us,e,?_,AW.mono ha.le _ _ hc,h1,λo ho=>?_⟩;.simp only[fq,BE];exact hr.DA.size
   .simp only[fq,BE];exact heap_alloc_new w _
   .have hco:=how o ho;obtain⟨u,f,j⟩:=hc.get hco;exact⟨u,.slnil,by simpa using f,hco,.inl (.inl rfl)⟩
  .have:BG.at ((U.drop [s]).set s (.box 0 cells ow)) s= .undef:=by simp[BG.at,List.getD];rw[C5 (by simpa using hl)];rfl
   rw[this];trivial
 .rw[BG.FD (λe=>he e.symm)];have g:(a.put (some d) (.pointer (some ⟨w.heap.size,0,none⟩))).tmps.getD s undef=a.tmps.getD s undef:=by simp[Act.put,GM,lX (λe=>he e.symm)]
  rw[g];refine hs.aIX (λo ho=>?_) he;rw[BG.RQ] at ho;cases hx:U.at s with
  |EU t o'=>
   rw[hx] at ho;simp only at ho;split at ho;.cases ho
   .rename_i hc;cases ho;exact hc Ax
  |_=>rw[hx] at ho;cases ho
def HG{P:Program}{t:TypeId}{z:Aa}(hz:GD P t=some z):∃v,Ks v=some z/\∀w,(zeroValue t).run P w= .ok v w:=by
 unfold GD at hz;cases hi:P.info? t with
 |none=>rw[hi] at hz;cases hz
 |some i=>
  rw[hi] at hz;cases hv:i.zero with
  |none=>simp[hv] at hz
  |some v=>simp only[Cm,hv] at hz;exact⟨v,hz,λw=>by simp[zeroValue,typeInfo,hi,hv]⟩
def mN{cs:List Aa}{o:Nat}(h:o∈VH cs):cs[o]?=some .slnil:=by
 simp only[VH,Dg,List.mem_range] at h;obtain⟨h1,h2⟩:=h;simp only[List.getD,As h1,Fy] at h2;rw[As h1];split at h2;.rename_i he;rw[he]
 .cases h2
def Ft(C:Fv)(γ0:Gh)(w0:World)(o:Oper)(a:Act)(w:World)(c:BG)(h':Ai):Prop:=
 ∃γ' b w',(∃v,(execOp a.eval o).run C.P w= .ok (.value v) w'/\CX C γ0 w0 γ' b c h' (a.put o.dst v) w')\/((execOp a.eval o).run C.P w= .ok .skip w'/\CX C γ0 w0 γ' b c h' (a.put o.dst undef) w')
def Ft.value{o:Oper}{c:BG}{h':Ai}{b:Nat->Nat}{v:Value}(he:(execOp a.eval o).run C.P w= .ok (.value v) w')(hr:CX C γ0 w0 γ' b c h' (a.put o.dst v) w'):Ft C γ0 w0 o a w c h':=⟨γ',b,w',.inl ⟨v,he,hr⟩⟩
def Ft.skip{o:Oper}{c:BG}{h':Ai}{b:Nat->Nat}(he:(execOp a.eval o).run C.P w= .ok .skip w')(hr:CX C γ0 w0 γ' b c h' (a.put o.dst undef) w'):Ft C γ0 w0 o a w c h':=⟨γ',b,w',.inr ⟨he,hr⟩⟩
def VV{o:Oper}{t:TypeId}{d:Nat}{z:Aa}(ho:o.op= .alloc t)(hd:o.dst=some d)(hz:GD C.P t=some z)(hn:z.cells≠[])(hr:CX C γ0 w0 γ β U h a w):
  Ft C γ0 w0 o a w ((U.drop [d]).set d (.box 0 z.cells (VH z.cells))) h:=by
 obtain⟨v,hv,AI⟩:=HG hz;obtain⟨e,c⟩:=Hc (γ:=γ) (E1 hv) (Fa.2 hn);obtain⟨γ',b,Hh⟩:=hr.jn d v.cells t z.cells (VH z.cells) e c (λo=>mN);refine Ft.value (v:= .pointer (some ⟨w.heap.size,0,none⟩)) ?_ (by rw[hd];exact Hh);simp[execOp,ho,Instr.alloc,AI,newVar,newRow]
def aI{o:Oper}{t:TypeId}{x:Operand}{d n:Nat}{v:Aa}(ho:o.op= .box t x)(hd:o.dst=some d)(hx:Ez C U x=some v)(hv:v.cells.length=n)(hn:n≠0)(hr:CX C γ0 w0 γ β U h a w):
  Ft C γ0 w0 o a w ((U.drop [d]).set d (.box 0 v.cells [])) h:=by
 obtain⟨e,c⟩:=Hc (Gg hr hx) Ab;obtain⟨γ',b,Hh⟩:=hr.jn d (a.eval x).cells t v.cells [] e c Ax;refine Ft.value (v:= .pointer (some ⟨w.heap.size,0,none⟩)) ?_ (by rw[hd];exact Hh);simp[execOp,ho,Instr.box,newVar,newRow]
def CX.newObj(hr:CX C γ0 w0 γ β U h a w)(us:Array Value)(e:TypeId)(fr:Nat×Nat)(cells:List Aa)(rL:Tg fr us.size)(hc:AW γ cells (us.toList.take cells.length))(h1:∀u∈us.toList.take cells.length,u.oneCell'=true):
  ∃γ',γ.le γ'/\γ'.mu h.length=some w.heap.size/\CX C γ0 w0 γ' β U (h++[.cells cells]) a (w.alloc (.cells us e fr))/\γ'.sz w.heap.size=some us.size:=by
 obtain⟨hi,ha⟩:=Ny hr.DG (.cells us e fr) (.cells cells) (some us.size) (.inl ⟨cells,us,e,fr,rfl,rfl,rL,hc,h1,rfl⟩);exact⟨_,ha.le,by simp[Gh.BY],hr.IA hi ha,by simp[Gh.BY]⟩
def VW{o:Oper}{t:TypeId}{z:Aa}{d:Option Nat}(ho:o.op= .alloc t)(hd:o.dst=d)(hz:GD C.P t=some z)(hn:z.cells.length≠0)(hr:CX C γ0 w0 γ β U h a w):
  Ft C γ0 w0 o a w (U.put d (.val (.ptr (some (h.length,0))))) (h++[.cells z.cells]):=by
 obtain⟨v,hv,AI⟩:=HG hz;obtain⟨b,c⟩:=Hc (γ:=γ) (E1 hv) Ab;obtain⟨γ',Ee,hm,Hh,_⟩:=hr.newObj v.cells t (0,0) z.cells (.inl rfl) (by rw[A8 (by rw[b.length];exact Ae _)];exact b) (λu hu=>c u (A0 hu));refine Ft.value (v:= .pointer (some ⟨w.heap.size,0,none⟩)) ?_ (by rw[hd];exact Hh.put λs _=>⟨_,hm,rfl⟩);simp[execOp,ho,Instr.alloc,AI,newVar,newRow]
def aJ{o:Oper}{t:TypeId}{x:Operand}{d:Option Nat}{v:Aa}(ho:o.op= .box t x)(hd:o.dst=d)(hx:Ez C U x=some v)(hn:v.cells.length≠0)(hr:CX C γ0 w0 γ β U h a w):
  Ft C γ0 w0 o a w (U.put d (.val (.ptr (some (h.length,0))))) (h++[.cells v.cells]):=by
 obtain⟨b,c⟩:=Hc (Gg hr hx) Ab;obtain⟨γ',Ee,hm,Hh,_⟩:=hr.newObj (a.eval x).cells t (0,0) v.cells (.inl rfl) (by rw[A8 (by rw[b.length];exact Ae _)];exact b) (λu hu=>c u (A0 hu));refine Ft.value (v:= .pointer (some ⟨w.heap.size,0,none⟩)) ?_ (by rw[hd];exact Hh.put λs _=>⟨_,hm,rfl⟩);simp[execOp,ho,Instr.box,newVar,newRow]
def KE(hr:CX C γ0 w0 γ β U h a w){x:Operand}{s o ver:Nat}{cs:List Aa}{ow:List Nat}(hx:FI C U x=some (.OP s o ver cs ow)):
  U.at s= .box ver cs ow/\a.eval x= .pointer (some ⟨β s,o,none⟩):=by
 unfold FI at hx;split at hx;.rename_i s' FM GB Nr hs;cases hx;have h0:=RK hr s;rw[GG hs] at h0;exact⟨GG hs,h0.1⟩
 .rename_i s' o' _ hs;split at hx;.rename_i hb;cases hx;obtain⟨t,h1,_⟩:=FO hr hs;exact⟨hb,h1⟩
  .cases hx
 .rename_i sl _ _ hs;cases hv:sl.GZ with
  |none=>rw[hv] at hx;cases hx
  |some u=>rw[hv] at hx;cases hx
 .cases hx
def QV(hr:CX C γ0 w0 γ β U h a w){x:Operand}{p:Aa}(hx:FI C U x=some (.ptr p)):BF γ p (a.eval x):=by
 unfold FI at hx;split at hx;.cases hx
 .split at hx<;>cases hx
 .rename_i sl _ _ hs;cases hv:sl.GZ with
  |none=>rw[hv] at hx;cases hx
  |some u=>rw[hv] at hx;cases hx;obtain⟨t,h1,_⟩:=FO hr hs;exact M3 h1 hv
 .cases hx
def Ia{t:TypeId}{n:Option Nat}(ht:EW C.P t=some n){cs:List Aa}{us:List Value}{b o:Nat}(hv:AW γ cs us)(hc:∀(j:Nat) (u:Value),us[j]?=some u->w.cell? ⟨b,o+j,none⟩=some u)(h1:∀u∈us,u.oneCell'=true)
  {r:Aa} (hp:E0 cs 0 n=some r):∃v,(Instr.loadAt t (.pointer (some ⟨b,o,none⟩))).run C.P w= .ok v w/\BF γ r v:=by
 unfold EW at ht;have M4:∀j,(⟨b,o,none⟩:Addr).add j=⟨b,o+j,none⟩:=λj=>by unfold Addr.add;split<;>simp_all
 have agg:∀d,C.P.underlying t=some d->(match d with| .struct _| .array _ _=>true|_=>false)=true->(BO C.P t).map some=some n->
   ∃v,(Instr.loadAt t (.pointer (some ⟨b,o,none⟩))).run C.P w= .ok v w/\BF γ r v:=by
  intro d hd hb hn;cases hs:BO C.P t with
  |none=>rw[hs] at hn;cases hn
  |some k=>
   rw[hs] at hn;cases hn;simp only[E0] at hp;split at hp
   .rename_i hk;cases hp;have hl:=run_loadCells_list (P:=C.P) w ⟨b,o,none⟩ (us.take k) (λj v hj=>by
     rw[M4];refine hc j v ?_;rw[Cj] at hj;split at hj;.exact hj
     .cases hj)
    have hlen:(us.take k).length=k:=by simp[hv.length];omega
    rw[hlen] at hl;refine⟨.agg (us.take k).toArray,?_,_,rfl,?_,λu hu=>h1 u (A0 (by simpa using hu))⟩
    .have mO:(isAgg t).run C.P w= .ok true w:=by unfold isAgg;rw[Sem.run_bind,run_underlying hd w];cases d<;>simp_all
     cases hq:C.P.info? t with
     |none=>simp[BO,hq] at hs
     |some i=>
      have hi:i.size=k:=by simpa[BO,hq] using hs
      simp[Instr.loadAt,Instr.sureAddr,loadVar,mO,sizeOf,typeInfo,hq,hi,hl]
    .simpa using hv.take k
   .cases hp
 split at ht;.rename_i fs hd;exact agg _ hd rfl ht
 .rename_i l e hd;exact agg _ hd rfl ht
 .rename_i d RP eV hd;cases ht;simp only[E0] at hp;obtain⟨u,hu,hr⟩:=hv.get hp;refine⟨u,?_,hr⟩;have mO:(isAgg t).run C.P w= .ok false w:=by unfold isAgg;rw[Sem.run_bind,run_underlying hd w];cases d<;>simp_all
  have Jh:=hc 0 u hu;simp only[Bk] at Jh;simp[Instr.loadAt,Instr.sureAddr,loadVar,mO,Jh]
 .cases ht
def OX{cs:List Aa}{off:Nat}{n:Option Nat}{r:Aa}(h:E0 cs off n=some r):E0 (cs.drop off) 0 n=some r:=by
 cases n with
 |none=>simp only[E0] at h⊢;rw[Cp];simpa using h
 |some n=>
  simp only[E0] at h⊢;split at h;.cases h;rw[Af Ei];simp
  .cases h
def CX.Y0(hr:CX C γ0 w0 γ β U h a w){s ver:Nat}{cs:List Aa}{ow:List Nat}(hs:U.at s= .box ver cs ow):
  γ.BK (β s)=some (.loc s)/\w0.heap.size<=β s/\∃us e,w.heap[β s]?=some (.cells us e (0,0))/\AW γ cs us.toList/\(∀u∈us.toList,u.oneCell'=true)/\
   ∀o∈ow,∃u x,us[o]?=some u/\cs[o]?=some x/\IE γ w0.heap.size w s (some o) u x:=by
 have h0:=hr.fr.HR s;rw[hs] at h0;exact⟨h0.2.1,h0.2.2.1,h0.2.2.2⟩
def Kt(hr:CX C γ0 w0 γ β U h a w){t:TypeId}{n:Option Nat}(ht:EW C.P t=some n){s ver off:Nat}{cs:List Aa}{ow:List Nat}(hs:U.at s= .box ver cs ow){r:Aa}(hp:E0 cs off n=some r):
  ∃v,(Instr.loadAt t (.pointer (some ⟨β s,off,none⟩))).run C.P w= .ok v w/\BF γ r v/\(n=none->∀us e,w.heap[β s]?=some (.cells us e (0,0))->us[off]?=some v):=by
 obtain⟨_,_,us,e,h1,h2,g,_⟩:=hr.Y0 hs;obtain⟨v,c,f⟩:=Ia (w:=w) (b:=β s) (o:=off) ht (h2.drop off) (λj u hj=>by rw[cell_of_row w _ _ us e (0,0) h1];rw[Cp] at hj;simpa using hj) (λu hu=>g u (Bu hu)) (OX hp)
 refine⟨v,c,f,λhn Dk i Č=>?_⟩;subst hn;rw[h1] at Č;cases Č;simp only[E0] at hp;obtain⟨u,hu,_⟩:=h2.get hp;have Jh:w.cell? ⟨β s,off,none⟩=some u:=by rw[cell_of_row w _ _ us e (0,0) h1];simpa using hu
 have mO:∃d,C.P.underlying t=some d/\(isAgg t).run C.P w= .ok false w:=by
  unfold EW at ht;split at ht;.cases hz:BO C.P t<;>rw[hz] at ht<;>cases ht
  .cases hz:BO C.P t<;>rw[hz] at ht<;>cases ht
  .rename_i d RP eV hd;refine⟨d,hd,?_⟩;unfold isAgg;rw[Sem.run_bind,run_underlying hd w];cases d<;>simp_all
  .cases ht
 obtain⟨d,hd,mO⟩:=mO;have:(Instr.loadAt t (.pointer (some ⟨β s,off,none⟩))).run C.P w= .ok u w:=by simp[Instr.loadAt,Instr.sureAddr,loadVar,mO,Jh]
 rw[c] at this;cases this;simpa using hu
def CX.yc(hr:CX C γ0 w0 γ β U h a w){s ver off:Nat}{cs:List Aa}{ow:List Nat}(hs:U.at s= .box ver cs ow)(ho:off∈ow)(c:off∉ow.erase off)(s':Nat)(c':Option Nat){u:Value}{v:Aa}(hv:cs[off]?=some v)
  (hu:∀us e,w.heap[β s]?=some (.cells us e (0,0))->us[off]?=some u):
  ∃γ',γ.le γ'/\CX C γ0 w0 γ' β (U.set s (.box (ver+1) cs (ow.erase off))) h a w/\IE γ' w0.heap.size w s' c' u v:=by
 have h0:=hr.fr.HR s;rw[hs] at h0;obtain⟨h1,h2,q,us,e,k,p,o,j⟩:=h0;obtain⟨t,v',f,d,b⟩:=j off ho;rw[hv] at d;cases d;rw[hu us e k] at f;cases f;have Jq:CX C γ0 w0 γ β (U.set s (.box (ver+1) cs (ow.erase off))) h a w:=hr.fJ ⟨h1,h2,q,us,e,k,p,o,λo' xa=>j o' (List.mem_of_mem_erase xa)⟩;have hl:s<U.length:=BG.OT (by rw[hs];simp);rcases b with b|⟨g,n,cap,lO,r,z,Aw,p1,p2,m,i,l⟩
 .exact⟨γ,.refl _,Jq,.inl b⟩
 .refine⟨γ.Fp g (.tail s' c' (n*z)),Hb _ _ _,Jq.Fp m i (λhn=>by cases hn) (λo' xa FM GB Nr hb=>?_),.inr ⟨g,n,cap,lO,r,z,Aw,p1,p2,by simp[Gh.Fp],i,l⟩⟩;rw[BG.E2 hl] at hb;cases hb;cases xa;exact c
def Ye{o:Oper}{t:TypeId}{x:Operand}{d:Nat}{take:Bool}{r:Eg}{run:IT->Ai->Option Jp}{g:BG}{h':Ai}(ho:o.op= .load t x)(hd:o.dst=some d)(hc:K6 C U t x d take=some r)(hp:∃ws,r= .pure ws)
  (FB:r.M2 C run (U.drop r.news) h g h') (hr:CX C γ0 w0 γ β U h a w):Ft C γ0 w0 o a w g h':=by
 have Mf:∀v,(Instr.loadAt t (a.eval x)).run C.P w= .ok v w->(execOp a.eval o).run C.P w= .ok (.value v) w:=λv hv=>by simp[execOp,ho,hv]
 unfold K6 at hc;split at hc;.cases hc;obtain⟨_,e⟩:=hp;cases e
 .rename_i s off ver cs ow ht ha;obtain⟨hs,hx⟩:=KE hr ha;split at hc
  .rename_i hlt;have aK:cs[off]?=some (cs.getD off .nilIface):=by simp[List.getD,As hlt]
   obtain⟨v,b,c,i⟩:=Kt hr ht hs (r:=cs.getD off .nilIface) (off:=off) (by simpa[E0] using aK);rw[<-hx] at b;simp only at hc;split at hc
   .rename_i Hz;cases hc;rw[Nz Ax] at FB;obtain⟨rfl,rfl⟩:=FB;simp only[AN,aEe] at Hz;obtain⟨⟨j,f⟩,_⟩:=Hz;have f:off∉ow.erase off:=by simpa using f
    obtain⟨γ',Ee,Hh,Fj⟩:=hr.yc hs j f d none aK (i rfl);exact Ft.value (Mf v b) (by rw[hd];exact Hh.put (d:=some d) λs' eU=>by cases eU;exact⟨BF.mono Ee _ _ c,Fj⟩)
   .cases hc;rw[Nz Ax] at FB;obtain⟨rfl,rfl⟩:=FB;exact Ft.value (Mf v b) (by rw[hd];exact hr.put (d:=some d) λ_ _=>c)
  .cases hc
 .rename_i n s off ver cs ow ht ha;obtain⟨hs,hx⟩:=KE hr ha;split at hc;.rename_i Ee;cases hc;rw[Nz Ax] at FB;obtain⟨rfl,rfl⟩:=FB;obtain⟨v,b,c,_⟩:=Kt hr ht hs (r:= .agg ((cs.drop off).take n)) (off:=off) (by simp[E0,Ee]);rw[<-hx] at b;exact Ft.value (Mf v b) (by rw[hd];exact hr.put (d:=some d) λ_ _=>c)
  .cases hc
 .cases hc
def jo{o:Oper}{t:TypeId}{x:Operand}{n:Option Nat}{p r:Aa}(ho:o.op= .load t x)(ht:EW C.P t=some n)(hx:FI C U x=some (.ptr p))(hl:Bj h n p=some r)(hr:CX C γ0 w0 γ β U h a w):
  Ft C γ0 w0 o a w (U.put o.dst (.val r)) h:=by
 have hv:=QV hr hx;have Mf:∀v,(Instr.loadAt t (a.eval x)).run C.P w= .ok v w->(execOp a.eval o).run C.P w= .ok (.value v) w:=λv hv=>by simp[execOp,ho,hv]
 unfold Bj at hl;split at hl
 .rename_i cs;obtain⟨b,k,hv,hm⟩:=hv;obtain⟨us,p1,p2⟩:=hm.values;obtain⟨v,c,d⟩:=Ia (w:=w) ht p1 (λj u hj=>(hr.DG.HU _ _ _ (p2 j u hj)).1) (λu hu=>by obtain⟨j,hj⟩:=CD hu;exact(hr.DG.HU _ _ _ (p2 j u hj)).2.1) hl
  rw[<-hv] at c;exact Ft.value (Mf v c) (hr.put λ_ _=>d)
 .rename_i id off;obtain⟨b,hb,hv⟩:=hv;split at hl
  .rename_i cs hcs;obtain⟨us,e,fr,p1,pf,p2,f⟩:=hr.DG.cells id cs hcs b hb;obtain⟨v,c,d⟩:=Ia (w:=w) (b:=b) (o:=off) ht (p2.drop off) (λj u hj=>by
    rw[cell_of_row w _ _ us e fr p1];rw[Cp,Cj] at hj;split at hj;.simpa using hj
    .cases hj) (λu hu=>f u (Bu hu)) (OX hl)
   rw[<-hv] at c;exact Ft.value (Mf v c) (hr.put λ_ _=>d)
  .cases hl
 .cases hl
end
end Go.Am
end
section
namespace Go.Am
open Go
section
variable{C:Fv}{γ0 γ γ':Gh}{w0 w w':World}{β:Nat->Nat}{U:BG}{h:Ai}{a:Act}{fid:FuncId}{ops:List Oper}
def Ej{b:Nat}{t:TypeId}{fr:Nat×Nat}:∀(vs:List Value) (o:Nat) (cur:Array Value) (w:World),w.heap[b]?=some (.cells cur t fr)->o+vs.length<=cur.size->
  w.setCells b o vs=w.setRow b (cur.toList.take o++vs++cur.toList.drop (o+vs.length)).toArray
 |[],o,cur,w,hg,_=>by simp only[World.setCells,BB,Bt,Bk,Cw,Array.toArray_toList];exact(setRow_self w b cur t fr hg).symm
 |v::r,o,cur,w,hg,hl=>by simp only[AJ] at hl;rw[World.setCells,setCell_eq_setRow w b o cur t fr v hg,Ej r (o+1) _ _ (setRow_heap w b cur _ t fr hg) Ei,setRow_setRow];have e:=list_seg_step cur.toList o v r Ei;simp only[Array.toList_setIfInBounds,AJ];rw[e]
def Ol{t:TypeId}{n b o:Nat}(hn:BO C.P t=some n){u:Value}(hu:u.cells.size=n)(h1:∀x∈u.cells.toList,x.oneCell'=true){cur:Array Value}{e:TypeId}{fr:Nat×Nat}(hg:w.heap[b]?=some (.cells cur e fr))(rL:Tg fr cur.size)
  (hl:o+n<=cur.size):(Instr.storeAt t (.pointer (some ⟨b,o,none⟩)) u).run C.P w= .ok () (w.setRow b (cur.toList.take o++u.cells.toList++cur.toList.drop (o+n)).toArray):=by
 have hs:=run_storeCells_cells (P:=C.P) b o u.cells.toList 0 w (λj hj=>by
  rw[cell_of_row w _ _ cur e fr hg];simp at hj;rw[Ci Ab];rfl) (λj hj=>by
  simp at hj;simp only[World.frozen?,hg];rcases rL with rfl|rL
  .simp
  .simp;omega) h1
 rw[Bk,Ej _ o cur w hg Ei] at hs;cases hq:C.P.info? t with
 |none=>simp[BO,hq] at hn
 |some i=>
  have hi:i.size=n:=by simpa[BO,hq] using hn
  simp only[B8,hu] at hs;simp[Instr.storeAt,Instr.sureAddr,storeVar,sizeOf,typeInfo,hq,hi,hu,hs]
def VX{Z:Type}{cs vs:List Z}{off n o:Nat}(hl:off+n<=cs.length)(hv:vs.length=n)(ho:¬(off<=o/\o<off+n)):(cs.take off++vs++cs.drop (off+n))[o]?=cs[o]?:=by
 have b:(cs.take off).length=off:=Ei;by_cases h:o<off;.rw[An (by simp[hv];omega),An Ab,CM h]
 .rw[BI (by simp[hv];omega),Cp];congr 1
  simp[hv];omega
def Y1{Z:Type}{cs:List Z}{off n:Nat}{x:Z}(hl:off+n<=cs.length):(cs.take off++[x]++cs.drop (off+n))[off]?=some x:=by have b:(cs.take off).length=off:=Ei;rw[An Ei,BI Ab];simp[b]
def Mn{Z:Type}{us vs:List Z}{off n len:Nat}(hl:len<=us.length)(ho:off+n<=len)(hv:vs.length=n):
  (us.take off++vs++us.drop (off+n)).take len=(us.take len).take off++vs++(us.take len).drop (off+n):=by
 have c:(us.take off).length=off:=Ei;have b:(us.take off++vs).length=off+n:=by simp[hv];omega
 rw[qR,A8 Ab,b,FV,CE Ab,List.drop_take]
def NF{cs vs:List Aa}{us Dk:List Value}{off n:Nat}(h:AW γ cs us)(h':AW γ vs Dk):AW γ (cs.take off++vs++cs.drop (off+n)) (us.take off++Dk++us.drop (off+n)):=
 ((h.take off).append h').append (h.drop (off+n))
def IE.Ď{B s d g:Nat}(hg:γ.BK g=some (.loc s)){c:Option Nat}{v:Value}{u:Aa}(Dk:Array Value)(ho:IE γ B w d c v u):IE γ B (w.setRow g Dk) d c v u:=by
 rcases ho with ho|⟨g2,n,cap,us,e,z,Aw,h1,h2,b,j,i,f⟩
 .exact .inl ho
 .have hb:g2≠g:=λhe=>by subst he;rw[hg] at b;cases b
  exact .inr ⟨g2,n,cap,us,e,z,Aw,h1,h2,b,j,by rw[setRow_other w g g2 Dk hb];exact i,f⟩
def VY(γ:Gh)(w:World)(g:Nat)(us:Array Value):PT g γ w γ (w.setRow g us):=
 ⟨.refl _,λb x hb hx _=>⟨hx,setRow_other w g b us hb⟩⟩
def CX.fW(hr:CX C γ0 w0 γ β U h a w){s ver FM off n:Nat}{cs:List Aa}{ow:List Nat}(hs:U.at s= .box ver cs ow){vs:List Aa}{Dk:List Value}(hv:AW γ vs Dk)(h1:∀u∈Dk,u.oneCell'=true)(hn:vs.length=n)
  (hl:off+n<=cs.length) {BK:Bool} (Fj:BK=true->∃u x,Dk=[u]/\vs=[x]/\IE γ w0.heap.size w s (some off) u x) {us:Array Value} {e:TypeId} (hg:w.heap[β s]?=some (.cells us e (0,0))):
  CX C γ0 w0 γ β (U.set s (.box FM (VK cs off n vs) (RE ow off n BK))) h a (w.setRow (β s) (us.toList.take off++Dk++us.toList.drop (off+n)).toArray):=by
 have h0:=hr.fr.HR s;rw[hs] at h0;obtain⟨p1,p2,j,fu,e0,i,f,d,p⟩:=h0;rw[hg] at i;cases i;have hlen:Dk.length=n:=by rw[hv.length,hn]
 have fw:off+n<=us.toList.length:=by rw[f.length];exact hl
 have ye:s<U.length:=BG.OT (by rw[hs];simp);refine⟨zF hr.DG p2 _,⟨by simp[hr.fr.size],λc=>?_⟩,hr.DA.write (g:=β s) j (.refl _) Ax rfl rfl rfl (λb hb=>⟨setRow_other w _ b _ hb,rfl⟩),hr.defers,hr.GC⟩;by_cases he:c=s
 .subst he;rw[BG.E2 ye];refine⟨p1,p2,j,_,e,setRow_heap w _ us _ e (0,0) hg,?_,?_,?_⟩;.simpa[VK] using NF (off:=off) (n:=n) f hv
  .intro u hu;simp only[AS,Ap] at hu;rcases hu with hu|hu|hu
   .exact d u (A0 hu)
   .exact h1 u hu
   .exact d u (Bu hu)
  .intro o ho;have IB:(BK=true/\o=off)\/(o∈ow/\¬(off<=o/\o<off+n)):=by
    unfold RE at ho;have hf:o∈ow.filter (λo=> !(decide (off<=o)&&decide (o<off+n)))->o∈ow/\¬(off<=o/\o<off+n):=λhm=>by rw[Dg] at hm;refine⟨hm.1,λhc=>?_⟩;have:=hm.2;simp[hc.1,hc.2] at this
    cases BK with
    |true=>
     simp only[BE,AG] at ho;rcases ho with ho|ho
     .exact .inl ⟨rfl,ho⟩
     .exact .inr (hf ho)
    |false=>exact .inr (hf ho)
   rcases IB with⟨Ř,rfl⟩|⟨Ř,rQ⟩
   .obtain⟨u,x,rfl,rfl,q⟩:=Fj Ř;exact⟨u,x,by simpa using Y1 (x:=u) fw,by simpa[VK] using Y1 (x:=x) hl,q.Ď p2 _⟩
   .obtain⟨u,x,m,l,k⟩:=p o Ř;refine⟨u,x,?_,?_,k.Ď p2 _⟩;.rw[<-m];have:=VX fw hlen rQ;simpa using this
    .rw[<-l];exact VX hl hn rQ
 .rw[BG.FD (λx=>he x.symm)];exact(hr.fr.HR c).keptBut p2 (VY γ w _ _) (by simp only[J3.mA];intro hx;cases hx;exact he rfl)
def OY(hr:CX C γ0 w0 γ β U h a w){y:Operand}{v:Aa}(hy:KB C U y=true)(hv:Ez C U y=some v)(s':Nat)(c':Option Nat):
  ∃γ',γ.le γ'/\CX C γ0 w0 γ' β (U.Dm (C4 U y)) h a w/\BF γ' v (a.eval y)/\IE γ' w0.heap.size w s' c' (a.eval y) v:=by
 unfold KB at hy;cases hs:DL C U y with
 |none=>rw[hs] at hy;cases hy
 |some sl=>
  rw[hs] at hy;cases sl with
  |BK u=>
   have b:u=v:=by unfold Ez at hv;rw[hs] at hv;exact DE hv
   subst b;cases y with
   |tmp t=>have ht:U.at t= .BK u:=GG hs;obtain⟨γ',Ee,Hh,h1,h2⟩:=hr.take ht s' c';exact⟨γ',Ee,by simpa[C4,ht,BG.Dm] using Hh,h1,h2⟩
   |const c=>
    refine⟨γ,.refl _,hr,Gg hr hv,?_⟩;obtain⟨q,_⟩:=RL (γ:=γ) (β:=β) (w:=w) hs;unfold DL at hs;split at hs;.rename_i e;cases e
    .cases hs
    .cases hs;exact .inl (.inl rfl)
    .rename_i JU;cases JU;cases hc:Ks c with
     |none=>rw[hc] at hs;cases hs
     |some _=>rw[hc] at hs;cases hs
    .rename_i e;cases e
    .cases hs
   |global g=>have eU:(C.GC g).map (λcs=>D0.val (Aa.BR cs))=some (.BK u):=hs;cases hc:C.GC g<;>rw[hc] at eU<;>cases eU
   |func f=>cases hs
  |_=>cases hy
def mP{B s:Nat}{c:Option Nat}{v:Value}{x:Aa}(h:IE γ B w s c v x):x.cells=[x]:=by rcases h with(rfl|⟨_,rfl⟩)|⟨_,_,_,_,_,_,_,rfl,_⟩<;>rfl
def mQ{o:Oper}{t:TypeId}{x y:Operand}{s off n ver:Nat}{v:Aa}{BK:Bool}{c:Option (Nat×Aa)}{cells:List Aa}{owned:List Nat}{run:IT->Ai->Option Jp}{j:BG}{h':Ai}(ho:o.op= .store t x y)(hd:o.dst=none)
  (hc:IZ C U t x y=some (.MJ s off n v BK c ver cells owned)) (FB:(Eg.MJ s off n v BK c ver cells owned).M2 C run U h j h') (hr:CX C γ0 w0 γ β U h a w):Ft C γ0 w0 o a w j h':=by
 unfold IZ at hc;split at hc;.cases hc
 .rename_i m sh s' jq FM GB Nr v' KW lP ha hv;split at hc
  .rename_i hl;simp only[Bx,Eg.MJ.injEq] at hc;obtain⟨rfl,rfl,rfl,rfl,Fj,Yf,rfl,rfl,rfl⟩:=hc;obtain⟨hn,rfl,rfl⟩:=FB;obtain⟨hs,hx⟩:=KE hr ha;have rR:=Gg hr hv;obtain⟨_,_,us,e,hg,l,p,_⟩:=hr.Y0 hs;have ye:jq+(m+1)<=us.size:=by have:=l.length;simp at this;omega
   obtain⟨f,d⟩:=Hc rR Ab;have mR:(a.eval y).cells.size=m+1:=by have:=f.length;simp at this;omega
   have IK:=Ol (C:=C) (b:=β s') (o:=jq) KW mR d hg (.inl rfl) ye;rw[<-hx] at IK;have Mf:(execOp a.eval o).run C.P w= .ok .skip (w.setRow (β s') (us.toList.take jq++(a.eval y).cells.toList++us.toList.drop (jq+(m+1))).toArray):=by simp[execOp,ho,IK]
   by_cases hw:BK=true
   .subst hw;rw[Af Fj] at Yf;subst Yf;simp only[AN] at Fj;obtain⟨k,Ee,Jq,h1,h2⟩:=OY hr Fj.2 hv s' (some jq);have i:=mP h2;have Mg:(U.Dm (C4 U y)).at s'= .box FM GB Nr:=by
     cases y with
     |tmp t'=>
      simp only[C4];cases ht:U.at t' with
      |BK u=>simp only[BG.Dm];rw[BG.FD (λe=>by rw[e,hs] at ht;cases ht)];exact hs
      |_=>exact hs
     |_=>exact hs
    have LP:=Jq.fW (FM:=FM+1) (BK:=true) (n:=m+1) Mg (AW.mono Ee _ _ f) d hn hl (λ_=>?_) hg;.exact Ft.skip Mf (by rw[hd];exact LP)
    .have hcl:(a.eval y).cells=#[a.eval y]:=by
      rcases h2 with(h2|⟨z,h2⟩)|⟨_,_,_,_,_,_,_,_,h2,_⟩
      .subst h2;rw[show a.eval y=_ from h1];rfl
      .subst h2;obtain⟨_,h1⟩:=h1;rw[h1];rfl
      .rw[h2];rfl
     exact⟨a.eval y,v',by rw[hcl],i,h2⟩
   .have g:BK=false:=by simpa using hw
    subst g;rw[Ad (by rw[Fj];simp)] at Yf;subst Yf;exact Ft.skip Mf (by rw[hd];exact hr.fW (FM:=FM+1) (BK:=false) hs f d hn hl (λe=>by cases e) hg)
  .cases hc
 .cases hc
def zQ{o:Oper}{t:TypeId}{x y:Operand}{n:Nat}{p v:Aa}{h':Ai}(ho:o.op= .store t x y)(hd:o.dst=none)(KW:BO C.P t=some (n+1))(hx:FI C U x=some (.ptr p))(hv:Ez C U y=some v)(IK:CL h (n+1) p v=some h')(hr:CX C γ0 w0 γ β U h a w):
  Ft C γ0 w0 o a w U h':=by
 have ř:=QV hr hx;have rR:=Gg hr hv;unfold CL at IK;split at IK
 .rename_i id off;obtain⟨b,hb,c⟩:=ř;split at IK
  .rename_i cs hcs;split at IK
   .rename_i hl;cases IK;obtain⟨us,e,fr,hg,pf,j,i⟩:=hr.DG.cells id cs hcs b hb;obtain⟨g,f⟩:=Hc rR Ab;have mR:(a.eval y).cells.size=n+1:=by have:=g.length;simp at this;omega
    have hlt:cs.length<=us.size:=by have:=j.length;simp at this;omega
    have ye:off+(n+1)<=us.size:=Ab;have AI:=Ol (C:=C) (b:=b) (o:=off) KW mR f hg pf ye;rw[<-c] at AI;obtain⟨hi,ha⟩:=M0 hr.DG hcs hb hg (us.toList.take off++(a.eval y).cells.toList++us.toList.drop (off+(n+1))).toArray (cs.take off++v.cells++cs.drop (off+(n+1)))
     (by simp only[BZ,Aq,AB,Bg,B8,mR];omega)
     (by
      rcases pf with rfl|pf
      .exact .inl rfl
      .refine .inr (Bp (L9 ?_) pf);simp only[BZ,Aq,AB,Bg,B8,mR];omega)
     (by
      have:=NF (off:=off) (n:=n+1) j g;rw[<-Mn (by simpa using hlt) hl.2 (by simpa using mR)] at this;have d:(cs.take off++v.cells++cs.drop (off+(n+1))).length=cs.length:=by simp[hl.1];omega
      rw[d];simpa using this) (λu hu=>by
      have d:(cs.take off++v.cells++cs.drop (off+(n+1))).length=cs.length:=by simp[hl.1];omega
      rw[d] at hu;simp only[Kn] at hu;rw[Mn (by simpa using hlt) hl.2 (by simpa using mR)] at hu;simp only[AS,Ap] at hu;rcases hu with hu|hu|hu
      .exact i u (A0 hu)
      .exact f u hu
      .exact i u (Bu hu))
    have Mf:(execOp a.eval o).run C.P w= .ok .skip (w.setRow b (us.toList.take off++(a.eval y).cells.toList++us.toList.drop (off+(n+1))).toArray):=by simp[execOp,ho,AI]
    exact Ft.skip Mf (by rw[hd];exact hr.IA hi ha)
   .cases IK
  .cases IK
 .cases IK
def CX.freeze(hr:CX C γ0 w0 γ β U h a w){s ver:Nat}{cs:List Aa}{ow:List Nat}(hs:U.at s= .box ver cs ow):
  ∃γ',γ.le γ'/\CX C γ0 w0 γ' β (U.set s (.val (.BR cs))) h a w/\BF γ' (.BR cs) (a.tmps.getD s undef):=by
 have h0:=hr.fr.HR s;rw[hs] at h0;obtain⟨p1,p2,z,us,e,m,l,k,t⟩:=h0;have ye:s<U.length:=BG.OT (by rw[hs];simp);have jf:∀o,γ.HU (β s) o=none:=λo=>by
  cases hc:γ.HU (β s) o with
  |none=>rfl
  |some u=>obtain⟨_,_,q⟩:=hr.DG.HU _ _ _ hc;rw[p2] at q;rcases q with q|⟨_,_,_,q,_⟩<;>cases q
 have Ee:γ.le (γ.C6 (β s) us us.size none):=⟨λb o v hb=>by
  have:b≠β s:=λe=>by rw[e,jf] at hb;cases hb
  simp only[Gh.C6,Ad this];exact hb,λ_ _ hm=>hm,λ_ _ hm=>hm⟩
 have hne:∀b id,γ.BK b=some (.Md id)->b≠β s:=λb id hb e=>by rw[e,p2] at hb;cases hb
 have hk:PT (β s) γ w (γ.C6 (β s) us us.size none) w:=⟨Ee,λb x hb hx _=>⟨by simp only[Gh.C6,Ad hb];exact hx,rfl⟩⟩;have hv:BF (γ.C6 (β s) us us.size none) (.BR cs) (a.tmps.getD s undef):=by
  refine⟨β s,0,p1,CQ.GF λi x hi=>?_⟩;obtain⟨u,d,c⟩:=l.get hi;have hlt:i<us.size:=by have:=(Aj.1 d).1;simpa using this
  exact⟨u,by simp only[Gh.C6,BE,BJ,Af hlt];simpa using d,BF.mono Ee _ _ c⟩
 have Ś:∀b n,γ.sz b=some n->(∃us e fr,w.heap[b]?=some (.cells us e fr)/\us.size=n)/\((γ.C6 (β s) us us.size none).BK b=none\/∃id,(γ.C6 (β s) us us.size none).BK b=some (.Md id)):=λb n hb=>by
  obtain⟨p,r⟩:=hr.DG.sz b n hb;by_cases he:b=β s;.subst he;exact⟨p,.inl (by simp[Gh.C6])⟩
  .exact⟨p,by simp only[Gh.C6,Ad he];exact r⟩
 refine⟨_,Ee,⟨⟨λb o v hb=>?_,λid y HV hy=>?_,λid GB hc b hb=>?_,λid es hc b hb=>?_,hr.DG.mu,λb x hx=>?_,Ś⟩,⟨by simp[hr.fr.size],λg=>?_⟩,?_,hr.defers,λx GB hx=>CQ.mono Ee _ _ _ (hr.GC x GB hx)⟩,hv⟩
 .by_cases he:b=β s
  .subst he;simp only[Gh.C6,BE] at hb⊢;split at hb;.exact⟨by rw[cell_of_row _ _ _ us e (0,0) m];exact hb,k v (by rw[AL] at hb;obtain⟨p,q⟩:=hb;rw[<-q];exact Array.getElem_mem_toList p),.inl Ax⟩
   .cases hb
  .simp only[Gh.C6,Ad he] at hb⊢;exact hr.DG.HU b o v hb
 .obtain⟨b,d,c⟩:=hr.DG.Md id y HV hy;exact⟨b,d,by simp only[Gh.C6,Ad (hne b id c)];exact c⟩
 .obtain⟨Dk,f,zE,d,qf,c,j⟩:=hr.DG.cells id GB hc b hb;exact⟨Dk,f,zE,d,qf,AW.mono Ee _ _ c,j⟩
 .obtain⟨Dk,f,d,c⟩:=hr.DG.map id es hc b hb;exact⟨Dk,f,d,c.mono Ee⟩
 .by_cases he:b=β s;.subst he;exact hr.DG.BK _ _ p2
  .simp only[Gh.C6,Ad he] at hx;exact hr.DG.BK b x hx
 .by_cases he:g=s;.subst he;rw[BG.E2 ye];exact hv
  .rw[BG.FD (λx=>he x.symm)];exact(hr.fr.HR g).keptBut p2 hk (by simp only[J3.mA];intro hx;cases hx;exact he rfl)
 .refine⟨hr.DA.le.trans Ee,hr.DA.size,hr.DA.os,hr.DA.tape,hr.DA.output,λb hb hn=>?_⟩;obtain⟨d,c⟩:=hr.DA.Nw b hb hn;exact⟨d,by simp only[Gh.C6,Ad (Ab:b≠β s)];exact c⟩
def CX.Tj:∀{fz:List (Nat×List Aa)} {γ:Gh} {U:BG},CX C γ0 w0 γ β U h a w->(∀p∈fz,∃ver ow,U.at p.1= .box ver p.2 ow)->(fz.map (·.1)).Nodup->
  ∃γ',γ.le γ'/\CX C γ0 w0 γ' β (U.DW (fz.map λ(s,cs)=>(s,.val (.BR cs)))) h a w/\∀p∈fz,BF γ' (.BR p.2) (a.tmps.getD p.1 undef)
 |[],γ,U,hr,_,_=>⟨γ,.refl _,hr,Ax⟩
 |(s,cs)::fz,γ,U,hr,hb,hn=>by
  simp only[A9,B3] at hn;obtain⟨ver,ow,hs⟩:=hb (s,cs) Ax;obtain⟨d,aIZ,Jq,jr⟩:=hr.freeze hs;obtain⟨b,fX,LP,Qi⟩:=Tj (fz:=fz) Jq (λp hp=>by obtain⟨FM,Nr,c⟩:=hb p (by simp[hp]);refine⟨FM,Nr,?_⟩;rw[BG.FD (λe=>hn.1 (by rw[show s=p.1 from e];exact A4.2 ⟨p,hp,rfl⟩))];exact c) hn.2
  refine⟨b,aIZ.trans fX,LP,λp hp=>?_⟩;rcases AG.1 hp with rfl|hp
  .exact BF.mono fX _ _ jr
  .exact Qi p hp
def MN:∀{xs:List Operand} {vs:List Aa} {fz:List (Nat×List Aa)},FJ C U xs=some (vs,fz)->
  (∀p∈fz,∃ver ow,U.at p.1= .box ver p.2 ow)/\(fz.map (·.1)).Nodup/\
  ∀γ',(∀x u,Ez C U x=some u->BF γ' u (a.eval x))->(∀p∈fz,BF γ' (.BR p.2) (a.tmps.getD p.1 undef))->AW γ' vs (xs.map a.eval)
 |[],vs,fz,hc=>by cases hc;exact⟨Ax,Ax,λ_ _ _=>rfl⟩
 |x::xs,vs,fz,hc=>by
  unfold FJ at hc;split at hc;.cases hc
  .rename_i Hy f d;obtain⟨h1,h2,e⟩:=MN d;split at hc
   .rename_i s ver cs ow hs;split at hc;.cases hc
    .rename_i hn;cases hc;have hsb:U.at s= .box ver cs ow:=GG hs;refine⟨λp hp=>?_,?_,λγ' c b=>?_⟩
     .rcases AG.1 hp with rfl|hp
      .exact⟨ver,ow,hsb⟩
      .exact h1 p hp
     .simp only[A9,B3];exact⟨by simpa using hn,h2⟩
     .exact⟨_,_,rfl,b (s,cs) Ax,e γ' c λp hp=>b p (by simp[hp])⟩
   .rename_i sl _ hs;cases hv:sl.GZ with
    |none=>rw[hv] at hc;cases hc
    |some u=>rw[hv] at hc;cases hc;exact⟨h1,h2,λγ' c b=>⟨_,_,rfl,c _ u (by unfold Ez;rw[hs];exact hv),e γ' c b⟩⟩
   .cases hc
def fY{o:Oper}{fn:Fn}{first captured:Array Operand}{d:Nat}{as bs:List Aa}{fz:List (Nat×List Aa)}(ho:o.op= .makeFunc fn first captured)(hd:o.dst=some d)(ha:Bm C U first.toList=some as)(hb:FJ C U captured.toList=some (bs,fz))(hr:CX C γ0 w0 γ β U h a w):
  Ft C γ0 w0 o a w (((U.drop (fz.map (·.1))).DW (fz.map λ(s,cs)=>(s,.val (.BR cs)))).set d (.val (.func fn as bs))) h:=by
 obtain⟨h1,h2,b⟩:=MN (a:=a) hb;obtain⟨γ',Ee,Hh,hv⟩:=(hr.drop (fz.map (·.1))).Tj (fz:=fz) (λp hp=>by obtain⟨ver,ow,hs⟩:=h1 p hp;exact⟨ver,ow,by rw[BG.RQ,hs]⟩) h2
 refine Ft.value (w':=w) (v:= .func fn (first.map a.eval) (captured.map a.eval)) (by simp[execOp,ho,Instr.makeFunc]) (by rw[hd];exact Hh.put (d:=some d) λ_ _=>⟨_,_,rfl,by simpa using AW.mono Ee _ _ (DB hr ha),by simpa using b γ' (λx u hx=>BF.mono Ee _ _ (Gg hr hx)) hv⟩)
end
end Go.Am
end
