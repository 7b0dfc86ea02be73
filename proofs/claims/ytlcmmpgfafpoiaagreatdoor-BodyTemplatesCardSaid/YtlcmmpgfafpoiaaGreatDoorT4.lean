/- Lemmas -/
import Derived.Test.YtlcmmpgfafpoiaaGreatDoorT3
import Derived.Laws.IdiomCopy
set_option linter.all false
section
namespace Go.Am
open Go
def my(β:Nat->Nat)(d b:Nat):Nat->Nat:=λs=>if s=d then b else β s
def KM.qU:KM->Option Nat
 | .Mm _=>none
 | .loc s=>some s
 | .tail s _ _=>some s
structure Qj(g:Nat)(γ:Gh)(w:World)(γ':Gh)(w':World):Prop where
 le:γ.le γ'
 Og:∀b x,b≠g->γ.Bt b=some x->x.pq=false->γ'.Bt b=some x/\w'.heap[b]?=w.heap[b]?
section
variable{C:F8}{γ0 γ γ':Gh}{w0 w w':World}{β:Nat->Nat}{U:BV}{h:Ah}{a:Act}{fid:FuncId}{ops:List Oper}
def BV.Sj(U:BV)(ds:List Nat)(s:Nat):(U.drop ds).at s=match U.at s with| .Fl t o=>if ds.contains t then .undef else .Fl t o|x=>x:=by
 cases ds with
 |nil=>simp only[BV.drop,List.contains_nil];cases U.at s<;>simp
 |cons d ds=>
  simp only[BV.drop,BV.at,List.getD,Ck];cases hg:U[s]? with
  |none=>rfl
  |some x=>cases x<;>rfl
def BV.length_drop(U:BV)(ds:List Nat):(U.drop ds).length=U.length:=by cases ds<;>simp[BV.drop]
def LM.aKw{B s d b:Nat}{x:Et}{v:Value}(hx:LM γ β B w s x v)(hn:∀o,x≠ .Fl d o)(hs:s≠d):LM γ (my β d b) B w s x v:=by
 cases x with
 |box ver cs ow=>simpa only[LM,my,Ad hs] using hx
 |Fl t o=>have:t≠d:=λe=>hn o (by rw[e]);simpa only[LM,my,Ad this] using hx
 |_=>exact hx
def IY.keptBut{g B s:Nat}{d:KM}(hg:γ.Bt g=some d)(k:Qj g γ w γ' w')(hne:d.qU≠some s){c:Option Nat}{v:Value}{u:Aa}(ho:IY γ B w s c v u):IY γ' B w' s c v u:=by
 rcases ho with ho|⟨g2,n,cap,us,e,z,AD,h1,h2,b,m,l,j⟩
 .exact .inl ho
 .have hb:g2≠g:=λhe=>by subst he;rw[hg] at b;cases b;exact hne rfl
  obtain⟨i,f⟩:=k.Og g2 _ hb b rfl;exact .inr ⟨g2,n,cap,us,e,z,AD,h1,h2,i,m,by rw[f];exact l,j⟩
def LM.keptBut{g B s:Nat}{d:KM}(hg:γ.Bt g=some d)(k:Qj g γ w γ' w')(hne:d.qU≠some s){x:Et}{v:Value}(hx:LM γ β B w s x v):LM γ' β B w' s x v:=by
 cases x with
 |undef=>trivial
 |skip=>exact hx
 |val u=>exact BR.mono k.le u v hx
 |O5 b=>exact hx
 |Bt u=>exact⟨BR.mono k.le u v hx.1,hx.2.keptBut hg k hne⟩
 |box ver cs ow=>
  obtain⟨r,c,q,us,e,p,n,m,l⟩:=hx;have hb:β s≠g:=λhe=>by rw[he,hg] at c;cases c;exact hne rfl
  obtain⟨y,t⟩:=k.Og _ _ hb c rfl;exact⟨r,y,q,us,e,by rw[t];exact p,Bj.mono k.le cs _ n,m,λo ho=>let⟨u,v,j,i,f⟩:=l o ho;⟨u,v,j,i,f.keptBut hg k hne⟩⟩
 |Fl s' o=>exact hx
def De.qe(hr:De C γ0 w0 γ β U h a w)(d:Nat)(us:Array Value)(e:TypeId)(cells:List Aa)(ow:List Nat)(hc:Bj γ cells us.toList)(h1:∀u∈us.toList,u.oneCell'=true)
  (how:∀o∈ow,cells[o]?=some .slnil):
  ∃γ' b,De C γ0 w0 γ' b ((U.drop [d]).set d (.box 0 cells ow)) h (a.put (some d) (.pointer (some ⟨w.heap.size,0,none⟩))) (w.alloc (.cells us e)):=by
 obtain⟨hi,ha⟩:=Pr hr.D8 us e (0,0) 0 (some (.loc d)) (λ_ _ ho=>absurd ho (Nat.not_lt_zero _)) (.inr (.inr ⟨rfl,AH⟩));have KC:=(hr.drop [d]).Jd hi ha;refine⟨_,my β d w.heap.size,KC.D8,⟨by simp[Act.put,KC.fr.size],λs=>?_⟩,KC.D0,KC.defers,KC.Hb⟩;have hs:=KC.fr.Ip s;by_cases he:s=d
 .subst he;by_cases hl:s<(U.drop [s]).length
  .have p_:s<a.tmps.size:=by rw[<-KC.fr.size];exact hl
   rw[BV.Fy hl];have g:(a.put (some s) (.pointer (some ⟨w.heap.size,0,none⟩))).tmps.getD s undef= .pointer (some ⟨w.heap.size,0,none⟩):=by simp[Act.put,Array.getD,p_]
   rw[g];refine⟨by simp[my],by simp[my,Gh.Dz],?_,us,e,?_,Bj.mono ha.le _ _ hc,h1,λo ho=>?_⟩;.simp only[my,BI];exact hr.D0.size
   .simp only[my,BI];exact heap_alloc_new w _
   .have hco:=how o ho;obtain⟨u,c,i⟩:=hc.get hco;exact⟨u,.slnil,by simpa using c,hco,.inl (.inl rfl)⟩
  .have:BV.at ((U.drop [s]).set s (.box 0 cells ow)) s= .undef:=by simp[BV.at,List.getD];rw[Ef (by simpa using hl)];rfl
   rw[this];trivial
 .rw[BV.Gi (λe=>he e.symm)];have f:(a.put (some d) (.pointer (some ⟨w.heap.size,0,none⟩))).tmps.getD s undef=a.tmps.getD s undef:=by simp[Act.put,Hk,qP (λe=>he e.symm)]
  rw[f];refine hs.aKw (λo ho=>?_) he;rw[BV.Sj] at ho;cases hx:U.at s with
  |Fl t o'=>
   rw[hx] at ho;simp only at ho;split at ho;.cases ho
   .rename_i hc;cases ho;exact hc AH
  |_=>rw[hx] at ho;cases ho
def Ia{P:Program}{t:TypeId}{z:Aa}(hz:Hc P t=some z):∃v,La v=some z/\∀w,(zeroValue t).run P w= .ok v w:=by
 unfold Hc at hz;cases hi:P.info? t with
 |none=>rw[hi] at hz;cases hz
 |some i=>
  rw[hi] at hz;cases hv:i.zero with
  |none=>simp[hv] at hz
  |some v=>simp only[Cm,hv] at hz;exact⟨v,hz,λw=>by simp[zeroValue,typeInfo,hi,hv]⟩
def rJ{cs:List Aa}{o:Nat}(h:o∈WW cs):cs[o]?=some .slnil:=by
 simp only[WW,DM,List.mem_range] at h;obtain⟨h1,h2⟩:=h;simp only[List.getD,Ak h1,Hp] at h2;rw[Ak h1];split at h2;.rename_i he;rw[he]
 .cases h2
def F0(C:F8)(γ0:Gh)(w0:World)(o:Oper)(a:Act)(w:World)(c:BV)(h':Ah):Prop:=
 ∃γ' b w',(∃v,(execOp a.eval o).run C.P w= .ok (.value v) w'/\De C γ0 w0 γ' b c h' (a.put o.dst v) w')\/((execOp a.eval o).run C.P w= .ok .skip w'/\De C γ0 w0 γ' b c h' (a.put o.dst undef) w')
def F0.value{o:Oper}{c:BV}{h':Ah}{b:Nat->Nat}{v:Value}(he:(execOp a.eval o).run C.P w= .ok (.value v) w')(hr:De C γ0 w0 γ' b c h' (a.put o.dst v) w'):F0 C γ0 w0 o a w c h':=⟨γ',b,w',.inl ⟨v,he,hr⟩⟩
def F0.skip{o:Oper}{c:BV}{h':Ah}{b:Nat->Nat}(he:(execOp a.eval o).run C.P w= .ok .skip w')(hr:De C γ0 w0 γ' b c h' (a.put o.dst undef) w'):F0 C γ0 w0 o a w c h':=⟨γ',b,w',.inr ⟨he,hr⟩⟩
def Xi{o:Oper}{t:TypeId}{d:Nat}{z:Aa}(ho:o.op= .alloc t)(hd:o.dst=some d)(hz:Hc C.P t=some z)(hn:z.cells≠[])(hr:De C γ0 w0 γ β U h a w):
  F0 C γ0 w0 o a w ((U.drop [d]).set d (.box 0 z.cells (WW z.cells))) h:=by
 obtain⟨v,hv,A4⟩:=Ia hz;obtain⟨e,c⟩:=Ht (γ:=γ) (Fx hv) (Dy.2 hn);obtain⟨γ',b,F9⟩:=hr.qe d v.cells t z.cells (WW z.cells) e c (λo=>rJ);refine F0.value (v:= .pointer (some ⟨w.heap.size,0,none⟩)) ?_ (by rw[hd];exact F9);simp[execOp,ho,Instr.alloc,A4,newVar,newRow]
def cY{o:Oper}{t:TypeId}{x:Operand}{d n:Nat}{v:Aa}(ho:o.op= .box t x)(hd:o.dst=some d)(hx:E8 C U x=some v)(hv:v.cells.length=n)(hn:n≠0)(hr:De C γ0 w0 γ β U h a w):
  F0 C γ0 w0 o a w ((U.drop [d]).set d (.box 0 v.cells [])) h:=by
 obtain⟨e,c⟩:=Ht (GM hr hx) Ab;obtain⟨γ',b,F9⟩:=hr.qe d (a.eval x).cells t v.cells [] e c AH;refine F0.value (v:= .pointer (some ⟨w.heap.size,0,none⟩)) ?_ (by rw[hd];exact F9);simp[execOp,ho,Instr.box,newVar,newRow]
def De.newObj(hr:De C γ0 w0 γ β U h a w)(us:Array Value)(e:TypeId)(fr:Nat×Nat)(cells:List Aa)(wU:TG fr us.size)(hc:Bj γ cells (us.toList.take cells.length))(h1:∀u∈us.toList.take cells.length,u.oneCell'=true):
  ∃γ',γ.le γ'/\γ'.mu h.length=some w.heap.size/\De C γ0 w0 γ' β U (h++[.cells cells]) a (w.alloc (.cells us e fr))/\γ'.sz w.heap.size=some us.size:=by
 obtain⟨hi,ha⟩:=GQ hr.D8 (.cells us e fr) (.cells cells) (some us.size) (.inl ⟨cells,us,e,fr,rfl,rfl,wU,hc,h1,rfl⟩);exact⟨_,ha.le,by simp[Gh.B0],hr.Jd hi ha,by simp[Gh.B0]⟩
def Xj{o:Oper}{t:TypeId}{z:Aa}{d:Option Nat}(ho:o.op= .alloc t)(hd:o.dst=d)(hz:Hc C.P t=some z)(hn:z.cells.length≠0)(hr:De C γ0 w0 γ β U h a w):
  F0 C γ0 w0 o a w (U.put d (.val (.ptr (some (h.length,0))))) (h++[.cells z.cells]):=by
 obtain⟨v,hv,A4⟩:=Ia hz;obtain⟨b,c⟩:=Ht (γ:=γ) (Fx hv) Ab;obtain⟨γ',Eo,hm,F9,_⟩:=hr.newObj v.cells t (0,0) z.cells (.inl rfl) (by rw[AF (by rw[b.length];exact Ag _)];exact b) (λu hu=>c u (Bn hu));refine F0.value (v:= .pointer (some ⟨w.heap.size,0,none⟩)) ?_ (by rw[hd];exact F9.put λs _=>⟨_,hm,rfl⟩);simp[execOp,ho,Instr.alloc,A4,newVar,newRow]
def cZ{o:Oper}{t:TypeId}{x:Operand}{d:Option Nat}{v:Aa}(ho:o.op= .box t x)(hd:o.dst=d)(hx:E8 C U x=some v)(hn:v.cells.length≠0)(hr:De C γ0 w0 γ β U h a w):
  F0 C γ0 w0 o a w (U.put d (.val (.ptr (some (h.length,0))))) (h++[.cells v.cells]):=by
 obtain⟨b,c⟩:=Ht (GM hr hx) Ab;obtain⟨γ',Eo,hm,F9,_⟩:=hr.newObj (a.eval x).cells t (0,0) v.cells (.inl rfl) (by rw[AF (by rw[b.length];exact Ag _)];exact b) (λu hu=>c u (Bn hu));refine F0.value (v:= .pointer (some ⟨w.heap.size,0,none⟩)) ?_ (by rw[hd];exact F9.put λs _=>⟨_,hm,rfl⟩);simp[execOp,ho,Instr.box,newVar,newRow]
def Ls(hr:De C γ0 w0 γ β U h a w){x:Operand}{s o ver:Nat}{cs:List Aa}{ow:List Nat}(hx:Gq C U x=some (.Po s o ver cs ow)):
  U.at s= .box ver cs ow/\a.eval x= .pointer (some ⟨β s,o,none⟩):=by
 unfold Gq at hx;split at hx;.rename_i s' Gt Ha N9 hs;cases hx;have h0:=Sd hr s;rw[He hs] at h0;exact⟨He hs,h0.1⟩
 .rename_i s' o' _ hs;split at hx;.rename_i hb;cases hx;obtain⟨t,h1,_⟩:=Gv hr hs;exact⟨hb,h1⟩
  .cases hx
 .rename_i sl _ _ hs;cases hv:sl.Hr with
  |none=>rw[hv] at hx;cases hx
  |some u=>rw[hv] at hx;cases hx
 .cases hx
def Rp(hr:De C γ0 w0 γ β U h a w){x:Operand}{p:Aa}(hx:Gq C U x=some (.ptr p)):BR γ p (a.eval x):=by
 unfold Gq at hx;split at hx;.cases hx
 .split at hx<;>cases hx
 .rename_i sl _ _ hs;cases hv:sl.Hr with
  |none=>rw[hv] at hx;cases hx
  |some u=>rw[hv] at hx;cases hx;obtain⟨t,h1,_⟩:=Gv hr hs;exact NC h1 hv
 .cases hx
def IA{t:TypeId}{n:Option Nat}(ht:Fq C.P t=some n){cs:List Aa}{us:List Value}{b o:Nat}(hv:Bj γ cs us)(hc:∀(j:Nat) (u:Value),us[j]?=some u->w.cell? ⟨b,o+j,none⟩=some u)(h1:∀u∈us,u.oneCell'=true)
  {r:Aa} (hp:Fv cs 0 n=some r):∃v,(Instr.loadAt t (.pointer (some ⟨b,o,none⟩))).run C.P w= .ok v w/\BR γ r v:=by
 unfold Fq at ht;have ND:∀j,(⟨b,o,none⟩:Addr).add j=⟨b,o+j,none⟩:=λj=>by unfold Addr.add;split<;>simp_all
 have agg:∀d,C.P.underlying t=some d->(match d with| .struct _| .array _ _=>true|_=>false)=true->(B4 C.P t).map some=some n->
   ∃v,(Instr.loadAt t (.pointer (some ⟨b,o,none⟩))).run C.P w= .ok v w/\BR γ r v:=by
  intro d hd hb hn;cases hs:B4 C.P t with
  |none=>rw[hs] at hn;cases hn
  |some k=>
   rw[hs] at hn;cases hn;simp only[Fv] at hp;split at hp
   .rename_i hk;cases hp;have hl:=run_loadCells_list (P:=C.P) w ⟨b,o,none⟩ (us.take k) (λj v hj=>by
     rw[ND];refine hc j v ?_;rw[Cg] at hj;split at hj;.exact hj
     .cases hj)
    have hlen:(us.take k).length=k:=by simp[hv.length];omega
    rw[hlen] at hl;refine⟨.agg (us.take k).toArray,?_,_,rfl,?_,λu hu=>h1 u (Bn (by simpa using hu))⟩
    .have rK:(isAgg t).run C.P w= .ok true w:=by unfold isAgg;rw[Sem.run_bind,run_underlying hd w];cases d<;>simp_all
     cases hq:C.P.info? t with
     |none=>simp[B4,hq] at hs
     |some i=>
      have hi:i.size=k:=by simpa[B4,hq] using hs
      simp[Instr.loadAt,Instr.sureAddr,loadVar,rK,sizeOf,typeInfo,hq,hi,hl]
    .simpa using hv.take k
   .cases hp
 split at ht;.rename_i fs hd;exact agg _ hd rfl ht
 .rename_i l e hd;exact agg _ hd rfl ht
 .rename_i d Nj Tv hd;cases ht;simp only[Fv] at hp;obtain⟨u,hu,hr⟩:=hv.get hp;refine⟨u,?_,hr⟩;have rK:(isAgg t).run C.P w= .ok false w:=by unfold isAgg;rw[Sem.run_bind,run_underlying hd w];cases d<;>simp_all
  have J0:=hc 0 u hu;simp only[Bu] at J0;simp[Instr.loadAt,Instr.sureAddr,loadVar,rK,J0]
 .cases ht
def Px{cs:List Aa}{off:Nat}{n:Option Nat}{r:Aa}(h:Fv cs off n=some r):Fv (cs.drop off) 0 n=some r:=by
 cases n with
 |none=>simp only[Fv] at h⊢;rw[Cr];simpa using h
 |some n=>
  simp only[Fv] at h⊢;split at h;.cases h;rw[Af D9];simp
  .cases h
def De.aB(hr:De C γ0 w0 γ β U h a w){s ver:Nat}{cs:List Aa}{ow:List Nat}(hs:U.at s= .box ver cs ow):
  γ.Bt (β s)=some (.loc s)/\w0.heap.size<=β s/\∃us e,w.heap[β s]?=some (.cells us e (0,0))/\Bj γ cs us.toList/\(∀u∈us.toList,u.oneCell'=true)/\
   ∀o∈ow,∃u x,us[o]?=some u/\cs[o]?=some x/\IY γ w0.heap.size w s (some o) u x:=by
 have h0:=hr.fr.Ip s;rw[hs] at h0;exact⟨h0.2.1,h0.2.2.1,h0.2.2.2⟩
def Lc(hr:De C γ0 w0 γ β U h a w){t:TypeId}{n:Option Nat}(ht:Fq C.P t=some n){s ver off:Nat}{cs:List Aa}{ow:List Nat}(hs:U.at s= .box ver cs ow){r:Aa}(hp:Fv cs off n=some r):
  ∃v,(Instr.loadAt t (.pointer (some ⟨β s,off,none⟩))).run C.P w= .ok v w/\BR γ r v/\(n=none->∀us e,w.heap[β s]?=some (.cells us e (0,0))->us[off]?=some v):=by
 obtain⟨_,_,us,e,h1,h2,i,_⟩:=hr.aB hs;obtain⟨v,f,g⟩:=IA (w:=w) (b:=β s) (o:=off) ht (h2.drop off) (λj u hj=>by rw[cell_of_row w _ _ us e (0,0) h1];rw[Cr] at hj;simpa using hj) (λu hu=>i u (Bw hu)) (Px hp)
 refine⟨v,f,g,λhn DR k c=>?_⟩;subst hn;rw[h1] at c;cases c;simp only[Fv] at hp;obtain⟨u,hu,_⟩:=h2.get hp;have J0:w.cell? ⟨β s,off,none⟩=some u:=by rw[cell_of_row w _ _ us e (0,0) h1];simpa using hu
 have rK:∃d,C.P.underlying t=some d/\(isAgg t).run C.P w= .ok false w:=by
  unfold Fq at ht;split at ht;.cases hz:B4 C.P t<;>rw[hz] at ht<;>cases ht
  .cases hz:B4 C.P t<;>rw[hz] at ht<;>cases ht
  .rename_i d Nj Tv hd;refine⟨d,hd,?_⟩;unfold isAgg;rw[Sem.run_bind,run_underlying hd w];cases d<;>simp_all
  .cases ht
 obtain⟨d,hd,rK⟩:=rK;have:(Instr.loadAt t (.pointer (some ⟨β s,off,none⟩))).run C.P w= .ok u w:=by simp[Instr.loadAt,Instr.sureAddr,loadVar,rK,J0]
 rw[f] at this;cases this;simpa using hu
def De.Ã(hr:De C γ0 w0 γ β U h a w){s ver off:Nat}{cs:List Aa}{ow:List Nat}(hs:U.at s= .box ver cs ow)(ho:off∈ow)(K_:off∉ow.erase off)(s':Nat)(c':Option Nat){u:Value}{v:Aa}(hv:cs[off]?=some v)
  (hu:∀us e,w.heap[β s]?=some (.cells us e (0,0))->us[off]?=some u):
  ∃γ',γ.le γ'/\De C γ0 w0 γ' β (U.set s (.box (ver+1) cs (ow.erase off))) h a w/\IY γ' w0.heap.size w s' c' u v:=by
 have h0:=hr.fr.Ip s;rw[hs] at h0;obtain⟨h1,h2,r,us,e,j,q,p,i⟩:=h0;obtain⟨x,v',d,c,b⟩:=i off ho;rw[hv] at c;cases c;rw[hu us e j] at d;cases d;have KC:De C γ0 w0 γ β (U.set s (.box (ver+1) cs (ow.erase off))) h a w:=hr.lV ⟨h1,h2,r,us,e,j,q,p,λo' J_=>i o' (List.mem_of_mem_erase J_)⟩;have hl:s<U.length:=BV.Ps (by rw[hs];simp);rcases b with b|⟨g,n,cap,qX,t,z,AD,o,m,l,f,k⟩
 .exact⟨γ,.refl _,KC,.inl b⟩
 .refine⟨γ.FU g (.tail s' c' (n*z)),Hs _ _ _,KC.FU l f (λhn=>by cases hn) (λo' J_ Gt Ha N9 hb=>?_),.inr ⟨g,n,cap,qX,t,z,AD,o,m,by simp[Gh.FU],f,k⟩⟩;rw[BV.Fy hl] at hb;cases hb;cases J_;exact K_
def Zy{o:Oper}{t:TypeId}{x:Operand}{d:Nat}{take:Bool}{r:EN}{run:IT->Ah->Option Ke}{g:BV}{h':Ah}(ho:o.op= .load t x)(hd:o.dst=some d)(hc:LL C U t x d take=some r)(hp:∃ws,r= .pure ws)
  (Ge:r.NB C run (U.drop r.news) h g h') (hr:De C γ0 w0 γ β U h a w):F0 C γ0 w0 o a w g h':=by
 have MS:∀v,(Instr.loadAt t (a.eval x)).run C.P w= .ok v w->(execOp a.eval o).run C.P w= .ok (.value v) w:=λv hv=>by simp[execOp,ho,hv]
 unfold LL at hc;split at hc;.cases hc;obtain⟨_,e⟩:=hp;cases e
 .rename_i s off ver cs ow ht ha;obtain⟨hs,hx⟩:=Ls hr ha;split at hc
  .rename_i hlt;have dB:cs[off]?=some (cs.getD off .nilIface):=by simp[List.getD,Ak hlt]
   obtain⟨v,b,c,i⟩:=Lc hr ht hs (r:=cs.getD off .nilIface) (off:=off) (by simpa[Fv] using dB);rw[<-hx] at b;simp only at hc;split at hc
   .rename_i HU;cases hc;rw[Oi AH] at Ge;obtain⟨rfl,rfl⟩:=Ge;simp only[Bv,aFd] at HU;obtain⟨⟨j,f⟩,_⟩:=HU;have f:off∉ow.erase off:=by simpa using f
    obtain⟨γ',Eo,F9,FI⟩:=hr.Ã hs j f d none dB (i rfl);exact F0.value (MS v b) (by rw[hd];exact F9.put (d:=some d) λs' VW=>by cases VW;exact⟨BR.mono Eo _ _ c,FI⟩)
   .cases hc;rw[Oi AH] at Ge;obtain⟨rfl,rfl⟩:=Ge;exact F0.value (MS v b) (by rw[hd];exact hr.put (d:=some d) λ_ _=>c)
  .cases hc
 .rename_i n s off ver cs ow ht ha;obtain⟨hs,hx⟩:=Ls hr ha;split at hc;.rename_i Eo;cases hc;rw[Oi AH] at Ge;obtain⟨rfl,rfl⟩:=Ge;obtain⟨v,b,c,_⟩:=Lc hr ht hs (r:= .agg ((cs.drop off).take n)) (off:=off) (by simp[Fv,Eo]);rw[<-hx] at b;exact F0.value (MS v b) (by rw[hd];exact hr.put (d:=some d) λ_ _=>c)
  .cases hc
 .cases hc
def qg{o:Oper}{t:TypeId}{x:Operand}{n:Option Nat}{p r:Aa}(ho:o.op= .load t x)(ht:Fq C.P t=some n)(hx:Gq C U x=some (.ptr p))(hl:A7 h n p=some r)(hr:De C γ0 w0 γ β U h a w):
  F0 C γ0 w0 o a w (U.put o.dst (.val r)) h:=by
 have hv:=Rp hr hx;have MS:∀v,(Instr.loadAt t (a.eval x)).run C.P w= .ok v w->(execOp a.eval o).run C.P w= .ok (.value v) w:=λv hv=>by simp[execOp,ho,hv]
 unfold A7 at hl;split at hl
 .rename_i cs;obtain⟨b,k,hv,hm⟩:=hv;obtain⟨us,g,d⟩:=hm.values;obtain⟨v,c,f⟩:=IA (w:=w) ht g (λj u hj=>(hr.D8.It _ _ _ (d j u hj)).1) (λu hu=>by obtain⟨j,hj⟩:=CU hu;exact(hr.D8.It _ _ _ (d j u hj)).2.1) hl
  rw[<-hv] at c;exact F0.value (MS v c) (hr.put λ_ _=>f)
 .rename_i id off;obtain⟨b,hb,hv⟩:=hv;split at hl
  .rename_i cs hcs;obtain⟨us,e,fr,g,pf,d,i⟩:=hr.D8.cells id cs hcs b hb;obtain⟨v,c,f⟩:=IA (w:=w) (b:=b) (o:=off) ht (d.drop off) (λj u hj=>by
    rw[cell_of_row w _ _ us e fr g];rw[Cr,Cg] at hj;split at hj;.simpa using hj
    .cases hj) (λu hu=>i u (Bw hu)) (Px hl)
   rw[<-hv] at c;exact F0.value (MS v c) (hr.put λ_ _=>f)
  .cases hl
 .cases hl
end
end Go.Am
end
section
namespace Go.Am
open Go
section
variable{C:F8}{γ0 γ γ':Gh}{w0 w w':World}{β:Nat->Nat}{U:BV}{h:Ah}{a:Act}{fid:FuncId}{ops:List Oper}
def EP{b:Nat}{t:TypeId}{fr:Nat×Nat}:∀(vs:List Value) (o:Nat) (cur:Array Value) (w:World),w.heap[b]?=some (.cells cur t fr)->o+vs.length<=cur.size->
  w.setCells b o vs=w.setRow b (cur.toList.take o++vs++cur.toList.drop (o+vs.length)).toArray
 |[],o,cur,w,hg,_=>by simp only[World.setCells,By,BT,Bu,CD,Array.toArray_toList];exact(setRow_self w b cur t fr hg).symm
 |v::r,o,cur,w,hg,hl=>by simp only[Bf] at hl;rw[World.setCells,setCell_eq_setRow w b o cur t fr v hg,EP r (o+1) _ _ (setRow_heap w b cur _ t fr hg) D9,setRow_setRow];have e:=list_seg_step cur.toList o v r D9;simp only[Array.toList_setIfInBounds,Bf];rw[e]
def OU{t:TypeId}{n b o:Nat}(hn:B4 C.P t=some n){u:Value}(hu:u.cells.size=n)(h1:∀x∈u.cells.toList,x.oneCell'=true){cur:Array Value}{e:TypeId}{fr:Nat×Nat}(hg:w.heap[b]?=some (.cells cur e fr))(wU:TG fr cur.size)
  (hl:o+n<=cur.size):(Instr.storeAt t (.pointer (some ⟨b,o,none⟩)) u).run C.P w= .ok () (w.setRow b (cur.toList.take o++u.cells.toList++cur.toList.drop (o+n)).toArray):=by
 have hs:=run_storeCells_cells (P:=C.P) b o u.cells.toList 0 w (λj hj=>by
  rw[cell_of_row w _ _ cur e fr hg];simp at hj;rw[CW Ab];rfl) (λj hj=>by
  simp at hj;simp only[World.frozen?,hg];rcases wU with rfl|wU
  .simp
  .simp;omega) h1
 rw[Bu,EP _ o cur w hg D9] at hs;cases hq:C.P.info? t with
 |none=>simp[B4,hq] at hn
 |some i=>
  have hi:i.size=n:=by simpa[B4,hq] using hn
  simp only[Cf,hu] at hs;simp[Instr.storeAt,Instr.sureAddr,storeVar,sizeOf,typeInfo,hq,hi,hu,hs]
def Xk{Z:Type}{cs vs:List Z}{off n o:Nat}(hl:off+n<=cs.length)(hv:vs.length=n)(ho:¬(off<=o/\o<off+n)):(cs.take off++vs++cs.drop (off+n))[o]?=cs[o]?:=by
 have b:(cs.take off).length=off:=D9;by_cases h:o<off;.rw[Ai (by simp[hv];omega),Ai Ab,C1 h]
 .rw[Bd (by simp[hv];omega),Cr];congr 1
  simp[hv];omega
def aC{Z:Type}{cs:List Z}{off n:Nat}{x:Z}(hl:off+n<=cs.length):(cs.take off++[x]++cs.drop (off+n))[off]?=some x:=by have b:(cs.take off).length=off:=D9;rw[Ai D9,Bd Ab];simp[b]
def M0{Z:Type}{us vs:List Z}{off n len:Nat}(hl:len<=us.length)(ho:off+n<=len)(hv:vs.length=n):
  (us.take off++vs++us.drop (off+n)).take len=(us.take len).take off++vs++(us.take len).drop (off+n):=by
 have c:(us.take off).length=off:=D9;have b:(us.take off++vs).length=off+n:=by simp[hv];omega
 rw[v8,AF Ab,b,FD,Cq Ab,List.drop_take]
def On{cs vs:List Aa}{us DR:List Value}{off n:Nat}(h:Bj γ cs us)(h':Bj γ vs DR):Bj γ (cs.take off++vs++cs.drop (off+n)) (us.take off++DR++us.drop (off+n)):=
 ((h.take off).append h').append (h.drop (off+n))
def IY.aAs{B s d g:Nat}(hg:γ.Bt g=some (.loc s)){c:Option Nat}{v:Value}{u:Aa}(DR:Array Value)(ho:IY γ B w d c v u):IY γ B (w.setRow g DR) d c v u:=by
 rcases ho with ho|⟨g2,n,cap,us,e,z,AD,h1,h2,b,j,i,f⟩
 .exact .inl ho
 .have hb:g2≠g:=λhe=>by subst he;rw[hg] at b;cases b
  exact .inr ⟨g2,n,cap,us,e,z,AD,h1,h2,b,j,by rw[setRow_other w g g2 DR hb];exact i,f⟩
def Xl(γ:Gh)(w:World)(g:Nat)(us:Array Value):Qj g γ w γ (w.setRow g us):=
 ⟨.refl _,λb x hb hx _=>⟨hx,setRow_other w g b us hb⟩⟩
def De.mH(hr:De C γ0 w0 γ β U h a w){s ver Gt off n:Nat}{cs:List Aa}{ow:List Nat}(hs:U.at s= .box ver cs ow){vs:List Aa}{DR:List Value}(hv:Bj γ vs DR)(h1:∀u∈DR,u.oneCell'=true)(hn:vs.length=n)
  (hl:off+n<=cs.length) {Bt:Bool} (FI:Bt=true->∃u x,DR=[u]/\vs=[x]/\IY γ w0.heap.size w s (some off) u x) {us:Array Value} {e:TypeId} (hg:w.heap[β s]?=some (.cells us e (0,0))):
  De C γ0 w0 γ β (U.set s (.box Gt (WZ cs off n vs) (R5 ow off n Bt))) h a (w.setRow (β s) (us.toList.take off++DR++us.toList.drop (off+n)).toArray):=by
 have h0:=hr.fr.Ip s;rw[hs] at h0;obtain⟨t,d,l,mz,e0,k,j,i,r⟩:=h0;rw[hg] at k;cases k;have hlen:DR.length=n:=by rw[hv.length,hn]
 have lK:off+n<=us.toList.length:=by rw[j.length];exact hl
 have qh:s<U.length:=BV.Ps (by rw[hs];simp);refine⟨fg hr.D8 d _,⟨by simp[hr.fr.size],λf=>?_⟩,hr.D0.write (g:=β s) l (.refl _) AH rfl rfl rfl (λb hb=>⟨setRow_other w _ b _ hb,rfl⟩),hr.defers,hr.Hb⟩;by_cases he:f=s
 .subst he;rw[BV.Fy qh];refine⟨t,d,l,_,e,setRow_heap w _ us _ e (0,0) hg,?_,?_,?_⟩;.simpa[WZ] using On (off:=off) (n:=n) j hv
  .intro u hu;simp only[AI,Ax] at hu;rcases hu with hu|hu|hu
   .exact i u (Bn hu)
   .exact h1 u hu
   .exact i u (Bw hu)
  .intro o ho;have Je:(Bt=true/\o=off)\/(o∈ow/\¬(off<=o/\o<off+n)):=by
    unfold R5 at ho;have hf:o∈ow.filter (λo=> !(decide (off<=o)&&decide (o<off+n)))->o∈ow/\¬(off<=o/\o<off+n):=λhm=>by rw[DM] at hm;refine⟨hm.1,λhc=>?_⟩;have:=hm.2;simp[hc.1,hc.2] at this
    cases Bt with
    |true=>
     simp only[BI,AX] at ho;rcases ho with ho|ho
     .exact .inl ⟨rfl,ho⟩
     .exact .inr (hf ho)
    |false=>exact .inr (hf ho)
   rcases Je with⟨c,rfl⟩|⟨c,Zi⟩
   .obtain⟨u,x,rfl,rfl,v⟩:=FI c;exact⟨u,x,by simpa using aC (x:=u) lK,by simpa[WZ] using aC (x:=x) hl,v.aAs d _⟩
   .obtain⟨u,x,q,p,m⟩:=r o c;refine⟨u,x,?_,?_,m.aAs d _⟩;.rw[<-q];have:=Xk lK hlen Zi;simpa using this
    .rw[<-p];exact Xk hl hn Zi
 .rw[BV.Gi (λx=>he x.symm)];exact(hr.fr.Ip f).keptBut d (Xl γ w _ _) (by simp only[KM.qU];intro hx;cases hx;exact he rfl)
def Py(hr:De C γ0 w0 γ β U h a w){y:Operand}{v:Aa}(hy:Ln C U y=true)(hv:E8 C U y=some v)(s':Nat)(c':Option Nat):
  ∃γ',γ.le γ'/\De C γ0 w0 γ' β (U.DS (Dq U y)) h a w/\BR γ' v (a.eval y)/\IY γ' w0.heap.size w s' c' (a.eval y) v:=by
 unfold Ln at hy;cases hs:Eg C U y with
 |none=>rw[hs] at hy;cases hy
 |some sl=>
  rw[hs] at hy;cases sl with
  |Bt u=>
   have b:u=v:=by unfold E8 at hv;rw[hs] at hv;exact D7 hv
   subst b;cases y with
   |tmp t=>have ht:U.at t= .Bt u:=He hs;obtain⟨γ',Eo,F9,h1,h2⟩:=hr.take ht s' c';exact⟨γ',Eo,by simpa[Dq,ht,BV.DS] using F9,h1,h2⟩
   |const c=>
    refine⟨γ,.refl _,hr,GM hr hv,?_⟩;obtain⟨q,_⟩:=Se (γ:=γ) (β:=β) (w:=w) hs;unfold Eg at hs;split at hs;.rename_i e;cases e
    .cases hs
    .cases hs;exact .inl (.inl rfl)
    .rename_i KD;cases KD;cases hc:La c with
     |none=>rw[hc] at hs;cases hs
     |some _=>rw[hc] at hs;cases hs
    .rename_i e;cases e
    .cases hs
   |global g=>have VW:(C.Hb g).map (λcs=>Et.val (Aa.CJ cs))=some (.Bt u):=hs;cases hc:C.Hb g<;>rw[hc] at VW<;>cases VW
   |func f=>cases hs
  |_=>cases hy
def rL{B s:Nat}{c:Option Nat}{v:Value}{x:Aa}(h:IY γ B w s c v x):x.cells=[x]:=by rcases h with(rfl|⟨_,rfl⟩)|⟨_,_,_,_,_,_,_,rfl,_⟩<;>rfl
def rM{o:Oper}{t:TypeId}{x y:Operand}{s off n ver:Nat}{v:Aa}{Bt:Bool}{c:Option (Nat×Aa)}{cells:List Aa}{owned:List Nat}{run:IT->Ah->Option Ke}{i:BV}{h':Ah}(ho:o.op= .store t x y)(hd:o.dst=none)
  (hc:JF C U t x y=some (.Nf s off n v Bt c ver cells owned)) (Ge:(EN.Nf s off n v Bt c ver cells owned).NB C run U h i h') (hr:De C γ0 w0 γ β U h a w):F0 C γ0 w0 o a w i h':=by
 unfold JF at hc;split at hc;.cases hc
 .rename_i m sh s' qi Gt Ha N9 v' Lb qE ha hv;split at hc
  .rename_i hl;simp only[BD,EN.Nf.injEq] at hc;obtain⟨rfl,rfl,rfl,rfl,FI,Zz,rfl,rfl,rfl⟩:=hc;obtain⟨hn,rfl,rfl⟩:=Ge;obtain⟨hs,hx⟩:=Ls hr ha;have wZ:=GM hr hv;obtain⟨_,_,us,e,hg,k,l,_⟩:=hr.aB hs;have qh:qi+(m+1)<=us.size:=by have:=k.length;simp at this;omega
   obtain⟨f,d⟩:=Ht wZ Ab;have rN:(a.eval y).cells.size=m+1:=by have:=f.length;simp at this;omega
   have HT:=OU (C:=C) (b:=β s') (o:=qi) Lb rN d hg (.inl rfl) qh;rw[<-hx] at HT;have MS:(execOp a.eval o).run C.P w= .ok .skip (w.setRow (β s') (us.toList.take qi++(a.eval y).cells.toList++us.toList.drop (qi+(m+1))).toArray):=by simp[execOp,ho,HT]
   by_cases hw:Bt=true
   .subst hw;rw[Af FI] at Zz;subst Zz;simp only[Bv] at FI;obtain⟨j,Eo,KC,h1,h2⟩:=Py hr FI.2 hv s' (some qi);have QT:=rL h2;have J1:(U.DS (Dq U y)).at s'= .box Gt Ha N9:=by
     cases y with
     |tmp t'=>
      simp only[Dq];cases ht:U.at t' with
      |Bt u=>simp only[BV.DS];rw[BV.Gi (λe=>by rw[e,hs] at ht;cases ht)];exact hs
      |_=>exact hs
     |_=>exact hs
    have L0:=KC.mH (Gt:=Gt+1) (Bt:=true) (n:=m+1) J1 (Bj.mono Eo _ _ f) d hn hl (λ_=>?_) hg;.exact F0.skip MS (by rw[hd];exact L0)
    .have hcl:(a.eval y).cells=#[a.eval y]:=by
      rcases h2 with(h2|⟨z,h2⟩)|⟨_,_,_,_,_,_,_,_,h2,_⟩
      .subst h2;rw[show a.eval y=_ from h1];rfl
      .subst h2;obtain⟨_,h1⟩:=h1;rw[h1];rfl
      .rw[h2];rfl
     exact⟨a.eval y,v',by rw[hcl],QT,h2⟩
   .have g:Bt=false:=by simpa using hw
    subst g;rw[Ad (by rw[FI];simp)] at Zz;subst Zz;exact F0.skip MS (by rw[hd];exact hr.mH (Gt:=Gt+1) (Bt:=false) hs f d hn hl (λe=>by cases e) hg)
  .cases hc
 .cases hc
def fy{o:Oper}{t:TypeId}{x y:Operand}{n:Nat}{p v:Aa}{h':Ah}(ho:o.op= .store t x y)(hd:o.dst=none)(Lb:B4 C.P t=some (n+1))(hx:Gq C U x=some (.ptr p))(hv:E8 C U y=some v)(HT:Co h (n+1) p v=some h')(hr:De C γ0 w0 γ β U h a w):
  F0 C γ0 w0 o a w U h':=by
 have c:=Rp hr hx;have wZ:=GM hr hv;unfold Co at HT;split at HT
 .rename_i id off;obtain⟨b,hb,d⟩:=c;split at HT
  .rename_i cs hcs;split at HT
   .rename_i hl;cases HT;obtain⟨us,e,fr,hg,pf,k,j⟩:=hr.D8.cells id cs hcs b hb;obtain⟨i,g⟩:=Ht wZ Ab;have rN:(a.eval y).cells.size=n+1:=by have:=i.length;simp at this;omega
    have hlt:cs.length<=us.size:=by have:=k.length;simp at this;omega
    have qh:off+(n+1)<=us.size:=Ab;have A4:=OU (C:=C) (b:=b) (o:=off) Lb rN g hg pf qh;rw[<-d] at A4;obtain⟨hi,ha⟩:=Nz hr.D8 hcs hb hg (us.toList.take off++(a.eval y).cells.toList++us.toList.drop (off+(n+1))).toArray (cs.take off++v.cells++cs.drop (off+(n+1)))
     (by simp only[B8,Av,Aw,Be,Cf,rN];omega)
     (by
      rcases pf with rfl|pf
      .exact .inl rfl
      .refine .inr (Br (MG ?_) pf);simp only[B8,Av,Aw,Be,Cf,rN];omega)
     (by
      have:=On (off:=off) (n:=n+1) k i;rw[<-M0 (by simpa using hlt) hl.2 (by simpa using rN)] at this;have f:(cs.take off++v.cells++cs.drop (off+(n+1))).length=cs.length:=by simp[hl.1];omega
      rw[f];simpa using this) (λu hu=>by
      have f:(cs.take off++v.cells++cs.drop (off+(n+1))).length=cs.length:=by simp[hl.1];omega
      rw[f] at hu;simp only[K4] at hu;rw[M0 (by simpa using hlt) hl.2 (by simpa using rN)] at hu;simp only[AI,Ax] at hu;rcases hu with hu|hu|hu
      .exact j u (Bn hu)
      .exact g u hu
      .exact j u (Bw hu))
    have MS:(execOp a.eval o).run C.P w= .ok .skip (w.setRow b (us.toList.take off++(a.eval y).cells.toList++us.toList.drop (off+(n+1))).toArray):=by simp[execOp,ho,A4]
    exact F0.skip MS (by rw[hd];exact hr.Jd hi ha)
   .cases HT
  .cases HT
 .cases HT
def De.freeze(hr:De C γ0 w0 γ β U h a w){s ver:Nat}{cs:List Aa}{ow:List Nat}(hs:U.at s= .box ver cs ow):
  ∃γ',γ.le γ'/\De C γ0 w0 γ' β (U.set s (.val (.CJ cs))) h a w/\BR γ' (.CJ cs) (a.tmps.getD s undef):=by
 have h0:=hr.fr.Ip s;rw[hs] at h0;obtain⟨z,f,B,us,e,t,m,l,A⟩:=h0;have qh:s<U.length:=BV.Ps (by rw[hs];simp);have px:∀o,γ.It (β s) o=none:=λo=>by
  cases hc:γ.It (β s) o with
  |none=>rfl
  |some u=>obtain⟨_,_,q⟩:=hr.D8.It _ _ _ hc;rw[f] at q;rcases q with q|⟨_,_,_,q,_⟩<;>cases q
 have Eo:γ.le (γ.Dz (β s) us us.size none):=⟨λb o v hb=>by
  have:b≠β s:=λe=>by rw[e,px] at hb;cases hb
  simp only[Gh.Dz,Ad this];exact hb,λ_ _ hm=>hm,λ_ _ hm=>hm⟩
 have hne:∀b id,γ.Bt b=some (.Mm id)->b≠β s:=λb id hb e=>by rw[e,f] at hb;cases hb
 have hk:Qj (β s) γ w (γ.Dz (β s) us us.size none) w:=⟨Eo,λb x hb hx _=>⟨by simp only[Gh.Dz,Ad hb];exact hx,rfl⟩⟩;have hv:BR (γ.Dz (β s) us us.size none) (.CJ cs) (a.tmps.getD s undef):=by
  refine⟨β s,0,z,C6.Hd λi x hi=>?_⟩;obtain⟨u,d,c⟩:=m.get hi;have hlt:i<us.size:=by have:=(Al.1 d).1;simpa using this
  exact⟨u,by simp only[Gh.Dz,BI,BL,Af hlt];simpa using d,BR.mono Eo _ _ c⟩
 have aBW:∀b n,γ.sz b=some n->(∃us e fr,w.heap[b]?=some (.cells us e fr)/\us.size=n)/\((γ.Dz (β s) us us.size none).Bt b=none\/∃id,(γ.Dz (β s) us us.size none).Bt b=some (.Mm id)):=λb n hb=>by
  obtain⟨p,r⟩:=hr.D8.sz b n hb;by_cases he:b=β s;.subst he;exact⟨p,.inl (by simp[Gh.Dz])⟩
  .exact⟨p,by simp only[Gh.Dz,Ad he];exact r⟩
 refine⟨_,Eo,⟨⟨λb o v hb=>?_,λid y Ih hy=>?_,λid Ha hc b hb=>?_,λid es hc b hb=>?_,hr.D8.mu,λb x hx=>?_,aBW⟩,⟨by simp[hr.fr.size],λj=>?_⟩,?_,hr.defers,λx Ha hx=>C6.mono Eo _ _ _ (hr.Hb x Ha hx)⟩,hv⟩
 .by_cases he:b=β s
  .subst he;simp only[Gh.Dz,BI] at hb⊢;split at hb;.exact⟨by rw[cell_of_row _ _ _ us e (0,0) t];exact hb,l v (by rw[A8] at hb;obtain⟨p,q⟩:=hb;rw[<-q];exact Array.getElem_mem_toList p),.inl AH⟩
   .cases hb
  .simp only[Gh.Dz,Ad he] at hb⊢;exact hr.D8.It b o v hb
 .obtain⟨b,d,c⟩:=hr.D8.Mm id y Ih hy;exact⟨b,d,by simp only[Gh.Dz,Ad (hne b id c)];exact c⟩
 .obtain⟨DR,g,fc,d,qf,c,k⟩:=hr.D8.cells id Ha hc b hb;exact⟨DR,g,fc,d,qf,Bj.mono Eo _ _ c,k⟩
 .obtain⟨DR,g,d,c⟩:=hr.D8.map id es hc b hb;exact⟨DR,g,d,c.mono Eo⟩
 .by_cases he:b=β s;.subst he;exact hr.D8.Bt _ _ f
  .simp only[Gh.Dz,Ad he] at hx;exact hr.D8.Bt b x hx
 .by_cases he:j=s;.subst he;rw[BV.Fy qh];exact hv
  .rw[BV.Gi (λx=>he x.symm)];exact(hr.fr.Ip j).keptBut f hk (by simp only[KM.qU];intro hx;cases hx;exact he rfl)
 .refine⟨hr.D0.le.trans Eo,hr.D0.size,hr.D0.os,hr.D0.tape,hr.D0.output,λb hb hn=>?_⟩;obtain⟨d,c⟩:=hr.D0.Og b hb hn;exact⟨d,by simp only[Gh.Dz,Ad (Ab:b≠β s)];exact c⟩
def De.TJ:∀{fz:List (Nat×List Aa)} {γ:Gh} {U:BV},De C γ0 w0 γ β U h a w->(∀p∈fz,∃ver ow,U.at p.1= .box ver p.2 ow)->(fz.map (·.1)).Nodup->
  ∃γ',γ.le γ'/\De C γ0 w0 γ' β (U.Em (fz.map λ(s,cs)=>(s,.val (.CJ cs)))) h a w/\∀p∈fz,BR γ' (.CJ p.2) (a.tmps.getD p.1 undef)
 |[],γ,U,hr,_,_=>⟨γ,.refl _,hr,AH⟩
 |(s,cs)::fz,γ,U,hr,hb,hn=>by
  simp only[Bk,B6] at hn;obtain⟨ver,ow,hs⟩:=hb (s,cs) AH;obtain⟨d,aKz,KC,Ä⟩:=hr.freeze hs;obtain⟨b,mI,L0,Sk⟩:=TJ (fz:=fz) KC (λp hp=>by obtain⟨Gt,N9,c⟩:=hb p (by simp[hp]);refine⟨Gt,N9,?_⟩;rw[BV.Gi (λe=>hn.1 (by rw[show s=p.1 from e];exact Bm.2 ⟨p,hp,rfl⟩))];exact c) hn.2
  refine⟨b,aKz.trans mI,L0,λp hp=>?_⟩;rcases AX.1 hp with rfl|hp
  .exact BR.mono mI _ _ Ä
  .exact Sk p hp
def Nk:∀{xs:List Operand} {vs:List Aa} {fz:List (Nat×List Aa)},Gr C U xs=some (vs,fz)->
  (∀p∈fz,∃ver ow,U.at p.1= .box ver p.2 ow)/\(fz.map (·.1)).Nodup/\
  ∀γ',(∀x u,E8 C U x=some u->BR γ' u (a.eval x))->(∀p∈fz,BR γ' (.CJ p.2) (a.tmps.getD p.1 undef))->Bj γ' vs (xs.map a.eval)
 |[],vs,fz,hc=>by cases hc;exact⟨AH,AH,λ_ _ _=>rfl⟩
 |x::xs,vs,fz,hc=>by
  unfold Gr at hc;split at hc;.cases hc
  .rename_i HS f d;obtain⟨h1,h2,e⟩:=Nk d;split at hc
   .rename_i s ver cs ow hs;split at hc;.cases hc
    .rename_i hn;cases hc;have hsb:U.at s= .box ver cs ow:=He hs;refine⟨λp hp=>?_,?_,λγ' c b=>?_⟩
     .rcases AX.1 hp with rfl|hp
      .exact⟨ver,ow,hsb⟩
      .exact h1 p hp
     .simp only[Bk,B6];exact⟨by simpa using hn,h2⟩
     .exact⟨_,_,rfl,b (s,cs) AH,e γ' c λp hp=>b p (by simp[hp])⟩
   .rename_i sl _ hs;cases hv:sl.Hr with
    |none=>rw[hv] at hc;cases hc
    |some u=>rw[hv] at hc;cases hc;exact⟨h1,h2,λγ' c b=>⟨_,_,rfl,c _ u (by unfold E8;rw[hs];exact hv),e γ' c b⟩⟩
   .cases hc
def mJ{o:Oper}{fn:Fn}{first captured:Array Operand}{d:Nat}{as bs:List Aa}{fz:List (Nat×List Aa)}(ho:o.op= .makeFunc fn first captured)(hd:o.dst=some d)(ha:BC C U first.toList=some as)(hb:Gr C U captured.toList=some (bs,fz))(hr:De C γ0 w0 γ β U h a w):
  F0 C γ0 w0 o a w (((U.drop (fz.map (·.1))).Em (fz.map λ(s,cs)=>(s,.val (.CJ cs)))).set d (.val (.func fn as bs))) h:=by
 obtain⟨h1,h2,b⟩:=Nk (a:=a) hb;obtain⟨γ',Eo,F9,hv⟩:=(hr.drop (fz.map (·.1))).TJ (fz:=fz) (λp hp=>by obtain⟨ver,ow,hs⟩:=h1 p hp;exact⟨ver,ow,by rw[BV.Sj,hs]⟩) h2
 refine F0.value (w':=w) (v:= .func fn (first.map a.eval) (captured.map a.eval)) (by simp[execOp,ho,Instr.makeFunc]) (by rw[hd];exact F9.put (d:=some d) λ_ _=>⟨_,_,rfl,by simpa using Bj.mono Eo _ _ (D4 hr ha),by simpa using b γ' (λx u hx=>BR.mono Eo _ _ (GM hr hx)) hv⟩)
end
end Go.Am
end
