/- Lemmas -/
import Derived.Test.YtemolpggcmbieaaGreatDoorZ3
import Derived.Laws.IdiomCopy
set_option linter.all false
section
namespace Go.Am
open Go
def fo(β:Nat->Nat)(d b:Nat):Nat->Nat:=λs=>if s=d then b else β s
def Kc.lS:Kc->Option Nat
 | .Me _=>none
 | .loc s=>some s
 | .tail s _ _=>some s
structure PX(g:Nat)(γ:Gh)(w:World)(γ':Gh)(w':World):Prop where
 le:γ.le γ'
 NF:∀b x,b≠g->γ.BM b=some x->x.jc=false->γ'.BM b=some x/\w'.heap[b]?=w.heap[b]?
section
variable{C:FB}{γ0 γ γ':Gh}{w0 w w':World}{β:Nat->Nat}{U:BJ}{h:Ah}{a:Act}{fid:FuncId}{ops:List Oper}
def BJ.RO(U:BJ)(ds:List Nat)(s:Nat):(U.drop ds).at s=match U.at s with| .EW t o=>if ds.contains t then .undef else .EW t o|x=>x:=by
 cases ds with
 |nil=>simp only[BJ.drop,List.contains_nil];cases U.at s<;>simp
 |cons d ds=>
  simp only[BJ.drop,BJ.at,List.getD,Cg];cases hg:U[s]? with
  |none=>rfl
  |some x=>cases x<;>rfl
def BJ.length_drop(U:BJ)(ds:List Nat):(U.drop ds).length=U.length:=by cases ds<;>simp[BJ.drop]
def Lg.aI4{B s d b:Nat}{x:D3}{v:Value}(hx:Lg γ β B w s x v)(hn:∀o,x≠ .EW d o)(hs:s≠d):Lg γ (fo β d b) B w s x v:=by
 cases x with
 |box ver cs ow=>simpa only[Lg,fo,Ag hs] using hx
 |EW t o=>have:t≠d:=λe=>hn o (by rw[e]);simpa only[Lg,fo,Ag this] using hx
 |_=>exact hx
def IF.keptBut{g B s:Nat}{d:Kc}(hg:γ.BM g=some d)(k:PX g γ w γ' w')(hne:d.lS≠some s){c:Option Nat}{v:Value}{u:Aa}(ho:IF γ B w s c v u):IF γ' B w' s c v u:=by
 rcases ho with ho|⟨g2,n,cap,us,e,z,Aw,h1,h2,b,m,l,j⟩
 .exact .inl ho
 .have hb:g2≠g:=λhe=>by subst he;rw[hg] at b;cases b;exact hne rfl
  obtain⟨i,f⟩:=k.NF g2 _ hb b rfl;exact .inr ⟨g2,n,cap,us,e,z,Aw,h1,h2,i,m,by rw[f];exact l,j⟩
def Lg.keptBut{g B s:Nat}{c:Kc}(hg:γ.BM g=some c)(k:PX g γ w γ' w')(hne:c.lS≠some s){x:D3}{v:Value}(hx:Lg γ β B w s x v):Lg γ' β B w' s x v:=by
 cases x with
 |undef=>trivial
 |skip=>exact hx
 |val u=>exact BI.mono k.le u v hx
 |OL b=>exact hx
 |BM u=>exact⟨BI.mono k.le u v hx.1,hx.2.keptBut hg k hne⟩
 |box ver cs ow=>
  obtain⟨p1,p2,p,us,e,n,m,l,j⟩:=hx;have hb:β s≠g:=λhe=>by rw[he,hg] at p2;cases p2;exact hne rfl
  obtain⟨r,q⟩:=k.NF _ _ hb p2 rfl;exact⟨p1,r,p,us,e,by rw[q];exact n,AV.mono k.le cs _ m,l,λo ho=>let⟨u,v,i,f,d⟩:=j o ho;⟨u,v,i,f,d.keptBut hg k hne⟩⟩
 |EW s' o=>exact hx
def CX.jm(hr:CX C γ0 w0 γ β U h a w)(d:Nat)(us:Array Value)(e:TypeId)(cells:List Aa)(ow:List Nat)(hc:AV γ cells us.toList)(h1:∀u∈us.toList,u.oneCell'=true)
  (how:∀o∈ow,cells[o]?=some .slnil):
  ∃γ' b,CX C γ0 w0 γ' b ((U.drop [d]).set d (.box 0 cells ow)) h (a.put (some d) (.pointer (some ⟨w.heap.size,0,none⟩))) (w.alloc (.cells us e)):=by
 obtain⟨hi,ha⟩:=OX hr.DI us e (0,0) 0 (some (.loc d)) (λ_ _ ho=>absurd ho (Nat.not_lt_zero _)) (.inr (.inr ⟨rfl,Ax⟩));have Jz:=(hr.drop [d]).IB hi ha;refine⟨_,fo β d w.heap.size,Jz.DI,⟨by simp[Act.put,Jz.fr.size],λs=>?_⟩,Jz.DD,Jz.defers,Jz.Gy⟩;have hs:=Jz.fr.HS s;by_cases he:s=d
 .subst he;by_cases hl:s<(U.drop [s]).length
  .have w_:s<a.tmps.size:=by rw[<-Jz.fr.size];exact hl
   rw[BJ.E3 hl];have g:(a.put (some s) (.pointer (some ⟨w.heap.size,0,none⟩))).tmps.getD s undef= .pointer (some ⟨w.heap.size,0,none⟩):=by simp[Act.put,Array.getD,w_]
   rw[g];refine⟨by simp[fo],by simp[fo,Gh.C6],?_,us,e,?_,AV.mono ha.le _ _ hc,h1,λo ho=>?_⟩;.simp only[fo,BD];exact hr.DD.size
   .simp only[fo,BD];exact heap_alloc_new w _
   .have hco:=how o ho;obtain⟨u,c,i⟩:=hc.get hco;exact⟨u,.slnil,by simpa using c,hco,.inl (.inl rfl)⟩
  .have:BJ.at ((U.drop [s]).set s (.box 0 cells ow)) s= .undef:=by simp[BJ.at,List.getD];rw[C4 (by simpa using hl)];rfl
   rw[this];trivial
 .rw[BJ.FM (λe=>he e.symm)];have f:(a.put (some d) (.pointer (some ⟨w.heap.size,0,none⟩))).tmps.getD s undef=a.tmps.getD s undef:=by simp[Act.put,GJ,lP (λe=>he e.symm)]
  rw[f];refine hs.aI4 (λo ho=>?_) he;rw[BJ.RO] at ho;cases hx:U.at s with
  |EW t o'=>
   rw[hx] at ho;simp only at ho;split at ho;.cases ho
   .rename_i hc;cases ho;exact hc Ax
  |_=>rw[hx] at ho;cases ho
def HH{P:Program}{t:TypeId}{z:Aa}(hz:GA P t=some z):∃v,KD v=some z/\∀w,(zeroValue t).run P w= .ok v w:=by
 unfold GA at hz;cases hi:P.info? t with
 |none=>rw[hi] at hz;cases hz
 |some i=>
  rw[hi] at hz;cases hv:i.zero with
  |none=>simp[hv] at hz
  |some v=>simp only[Cj,hv] at hz;exact⟨v,hz,λw=>by simp[zeroValue,typeInfo,hi,hv]⟩
def mE{cs:List Aa}{o:Nat}(h:o∈VK cs):cs[o]?=some .slnil:=by
 simp only[VK,Dk,List.mem_range] at h;obtain⟨h1,h2⟩:=h;simp only[List.getD,Au h1,FF] at h2;rw[Au h1];split at h2;.rename_i he;rw[he]
 .cases h2
def Fy(C:FB)(γ0:Gh)(w0:World)(o:Oper)(a:Act)(w:World)(c:BJ)(h':Ah):Prop:=
 ∃γ' b w',(∃v,(execOp a.eval o).run C.P w= .ok (.value v) w'/\CX C γ0 w0 γ' b c h' (a.put o.dst v) w')\/((execOp a.eval o).run C.P w= .ok .skip w'/\CX C γ0 w0 γ' b c h' (a.put o.dst undef) w')
def Fy.value{o:Oper}{c:BJ}{h':Ah}{b:Nat->Nat}{v:Value}(he:(execOp a.eval o).run C.P w= .ok (.value v) w')(hr:CX C γ0 w0 γ' b c h' (a.put o.dst v) w'):Fy C γ0 w0 o a w c h':=⟨γ',b,w',.inl ⟨v,he,hr⟩⟩
def Fy.skip{o:Oper}{c:BJ}{h':Ah}{b:Nat->Nat}(he:(execOp a.eval o).run C.P w= .ok .skip w')(hr:CX C γ0 w0 γ' b c h' (a.put o.dst undef) w'):Fy C γ0 w0 o a w c h':=⟨γ',b,w',.inr ⟨he,hr⟩⟩
def VY{o:Oper}{t:TypeId}{d:Nat}{z:Aa}(ho:o.op= .alloc t)(hd:o.dst=some d)(hz:GA C.P t=some z)(hn:z.cells≠[])(hr:CX C γ0 w0 γ β U h a w):
  Fy C γ0 w0 o a w ((U.drop [d]).set d (.box 0 z.cells (VK z.cells))) h:=by
 obtain⟨v,hv,AG⟩:=HH hz;obtain⟨e,c⟩:=GX (γ:=γ) (E2 hv) (Ef.2 hn);obtain⟨γ',b,Hd⟩:=hr.jm d v.cells t z.cells (VK z.cells) e c (λo=>mE);refine Fy.value (v:= .pointer (some ⟨w.heap.size,0,none⟩)) ?_ (by rw[hd];exact Hd);simp[execOp,ho,Instr.alloc,AG,newVar,newRow]
def aF{o:Oper}{t:TypeId}{x:Operand}{d n:Nat}{v:Aa}(ho:o.op= .box t x)(hd:o.dst=some d)(hx:EF C U x=some v)(hv:v.cells.length=n)(hn:n≠0)(hr:CX C γ0 w0 γ β U h a w):
  Fy C γ0 w0 o a w ((U.drop [d]).set d (.box 0 v.cells [])) h:=by
 obtain⟨e,c⟩:=GX (Gi hr hx) Ac;obtain⟨γ',b,Hd⟩:=hr.jm d (a.eval x).cells t v.cells [] e c Ax;refine Fy.value (v:= .pointer (some ⟨w.heap.size,0,none⟩)) ?_ (by rw[hd];exact Hd);simp[execOp,ho,Instr.box,newVar,newRow]
def CX.newObj(hr:CX C γ0 w0 γ β U h a w)(us:Array Value)(e:TypeId)(fr:Nat×Nat)(cells:List Aa)(rF:Tc fr us.size)(hc:AV γ cells (us.toList.take cells.length))(h1:∀u∈us.toList.take cells.length,u.oneCell'=true):
  ∃γ',γ.le γ'/\γ'.mu h.length=some w.heap.size/\CX C γ0 w0 γ' β U (h++[.cells cells]) a (w.alloc (.cells us e fr))/\γ'.sz w.heap.size=some us.size:=by
 obtain⟨hi,ha⟩:=NH hr.DI (.cells us e fr) (.cells cells) (some us.size) (.inl ⟨cells,us,e,fr,rfl,rfl,rF,hc,h1,rfl⟩);exact⟨_,ha.le,by simp[Gh.B0],hr.IB hi ha,by simp[Gh.B0]⟩
def VZ{o:Oper}{t:TypeId}{z:Aa}{d:Option Nat}(ho:o.op= .alloc t)(hd:o.dst=d)(hz:GA C.P t=some z)(hn:z.cells.length≠0)(hr:CX C γ0 w0 γ β U h a w):
  Fy C γ0 w0 o a w (U.put d (.val (.ptr (some (h.length,0))))) (h++[.cells z.cells]):=by
 obtain⟨v,hv,AG⟩:=HH hz;obtain⟨b,c⟩:=GX (γ:=γ) (E2 hv) Ac;obtain⟨γ',Ek,hm,Hd,_⟩:=hr.newObj v.cells t (0,0) z.cells (.inl rfl) (by rw[Be (by rw[b.length];exact Ab _)];exact b) (λu hu=>c u (A4 hu));refine Fy.value (v:= .pointer (some ⟨w.heap.size,0,none⟩)) ?_ (by rw[hd];exact Hd.put λs _=>⟨_,hm,rfl⟩);simp[execOp,ho,Instr.alloc,AG,newVar,newRow]
def aG{o:Oper}{t:TypeId}{x:Operand}{d:Option Nat}{v:Aa}(ho:o.op= .box t x)(hd:o.dst=d)(hx:EF C U x=some v)(hn:v.cells.length≠0)(hr:CX C γ0 w0 γ β U h a w):
  Fy C γ0 w0 o a w (U.put d (.val (.ptr (some (h.length,0))))) (h++[.cells v.cells]):=by
 obtain⟨b,c⟩:=GX (Gi hr hx) Ac;obtain⟨γ',Ek,hm,Hd,_⟩:=hr.newObj (a.eval x).cells t (0,0) v.cells (.inl rfl) (by rw[Be (by rw[b.length];exact Ab _)];exact b) (λu hu=>c u (A4 hu));refine Fy.value (v:= .pointer (some ⟨w.heap.size,0,none⟩)) ?_ (by rw[hd];exact Hd.put λs _=>⟨_,hm,rfl⟩);simp[execOp,ho,Instr.box,newVar,newRow]
def KS(hr:CX C γ0 w0 γ β U h a w){x:Operand}{s o ver:Nat}{cs:List Aa}{ow:List Nat}(hx:FU C U x=some (.OU s o ver cs ow)):
  U.at s= .box ver cs ow/\a.eval x= .pointer (some ⟨β s,o,none⟩):=by
 unfold FU at hx;split at hx;.rename_i s' FX Gx Nz hs;cases hx;have h0:=RI hr s;rw[GC hs] at h0;exact⟨GC hs,h0.1⟩
 .rename_i s' o' _ hs;split at hx;.rename_i hb;cases hx;obtain⟨t,h1,_⟩:=FZ hr hs;exact⟨hb,h1⟩
  .cases hx
 .rename_i sl _ _ hs;cases hv:sl.GV with
  |none=>rw[hv] at hx;cases hx
  |some u=>rw[hv] at hx;cases hx
 .cases hx
def QV(hr:CX C γ0 w0 γ β U h a w){x:Operand}{p:Aa}(hx:FU C U x=some (.ptr p)):BI γ p (a.eval x):=by
 unfold FU at hx;split at hx;.cases hx
 .split at hx<;>cases hx
 .rename_i sl _ _ hs;cases hv:sl.GV with
  |none=>rw[hv] at hx;cases hx
  |some u=>rw[hv] at hx;cases hx;obtain⟨t,h1,_⟩:=FZ hr hs;exact M4 h1 hv
 .cases hx
def Ia{t:TypeId}{n:Option Nat}(ht:EZ C.P t=some n){cs:List Aa}{us:List Value}{b o:Nat}(hv:AV γ cs us)(hc:∀(j:Nat) (u:Value),us[j]?=some u->w.cell? ⟨b,o+j,none⟩=some u)(h1:∀u∈us,u.oneCell'=true)
  {r:Aa} (hp:E1 cs 0 n=some r):∃v,(Instr.loadAt t (.pointer (some ⟨b,o,none⟩))).run C.P w= .ok v w/\BI γ r v:=by
 unfold EZ at ht;have M5:∀j,(⟨b,o,none⟩:Addr).add j=⟨b,o+j,none⟩:=λj=>by unfold Addr.add;split<;>simp_all
 have agg:∀d,C.P.underlying t=some d->(match d with| .struct _| .array _ _=>true|_=>false)=true->(BR C.P t).map some=some n->
   ∃v,(Instr.loadAt t (.pointer (some ⟨b,o,none⟩))).run C.P w= .ok v w/\BI γ r v:=by
  intro d hd hb hn;cases hs:BR C.P t with
  |none=>rw[hs] at hn;cases hn
  |some k=>
   rw[hs] at hn;cases hn;simp only[E1] at hp;split at hp
   .rename_i hk;cases hp;have hl:=run_loadCells_list (P:=C.P) w ⟨b,o,none⟩ (us.take k) (λj v hj=>by
     rw[M5];refine hc j v ?_;rw[Cn] at hj;split at hj;.exact hj
     .cases hj)
    have hlen:(us.take k).length=k:=by simp[hv.length];omega
    rw[hlen] at hl;refine⟨.agg (us.take k).toArray,?_,_,rfl,?_,λu hu=>h1 u (A4 (by simpa using hu))⟩
    .have mF:(isAgg t).run C.P w= .ok true w:=by unfold isAgg;rw[Sem.run_bind,run_underlying hd w];cases d<;>simp_all
     cases hq:C.P.info? t with
     |none=>simp[BR,hq] at hs
     |some i=>
      have hi:i.size=k:=by simpa[BR,hq] using hs
      simp[Instr.loadAt,Instr.sureAddr,loadVar,mF,sizeOf,typeInfo,hq,hi,hl]
    .simpa using hv.take k
   .cases hp
 split at ht;.rename_i fs hd;exact agg _ hd rfl ht
 .rename_i l e hd;exact agg _ hd rfl ht
 .rename_i d RN eX hd;cases ht;simp only[E1] at hp;obtain⟨u,hu,hr⟩:=hv.get hp;refine⟨u,?_,hr⟩;have mF:(isAgg t).run C.P w= .ok false w:=by unfold isAgg;rw[Sem.run_bind,run_underlying hd w];cases d<;>simp_all
  have Jo:=hc 0 u hu;simp only[Bl] at Jo;simp[Instr.loadAt,Instr.sureAddr,loadVar,mF,Jo]
 .cases ht
def O2{cs:List Aa}{off:Nat}{n:Option Nat}{r:Aa}(h:E1 cs off n=some r):E1 (cs.drop off) 0 n=some r:=by
 cases n with
 |none=>simp only[E1] at h⊢;rw[Cr];simpa using h
 |some n=>
  simp only[E1] at h⊢;split at h;.cases h;rw[Af Ed];simp
  .cases h
def CX.Y3(hr:CX C γ0 w0 γ β U h a w){s ver:Nat}{cs:List Aa}{ow:List Nat}(hs:U.at s= .box ver cs ow):
  γ.BM (β s)=some (.loc s)/\w0.heap.size<=β s/\∃us e,w.heap[β s]?=some (.cells us e (0,0))/\AV γ cs us.toList/\(∀u∈us.toList,u.oneCell'=true)/\
   ∀o∈ow,∃u x,us[o]?=some u/\cs[o]?=some x/\IF γ w0.heap.size w s (some o) u x:=by
 have h0:=hr.fr.HS s;rw[hs] at h0;exact⟨h0.2.1,h0.2.2.1,h0.2.2.2⟩
def KE(hr:CX C γ0 w0 γ β U h a w){t:TypeId}{n:Option Nat}(ht:EZ C.P t=some n){s ver off:Nat}{cs:List Aa}{ow:List Nat}(hs:U.at s= .box ver cs ow){r:Aa}(hp:E1 cs off n=some r):
  ∃v,(Instr.loadAt t (.pointer (some ⟨β s,off,none⟩))).run C.P w= .ok v w/\BI γ r v/\(n=none->∀us e,w.heap[β s]?=some (.cells us e (0,0))->us[off]?=some v):=by
 obtain⟨_,_,us,e,h1,h2,g,_⟩:=hr.Y3 hs;obtain⟨v,c,f⟩:=Ia (w:=w) (b:=β s) (o:=off) ht (h2.drop off) (λj u hj=>by rw[cell_of_row w _ _ us e (0,0) h1];rw[Cr] at hj;simpa using hj) (λu hu=>g u (Bu hu)) (O2 hp)
 refine⟨v,c,f,λhn Dq i ď=>?_⟩;subst hn;rw[h1] at ď;cases ď;simp only[E1] at hp;obtain⟨u,hu,_⟩:=h2.get hp;have Jo:w.cell? ⟨β s,off,none⟩=some u:=by rw[cell_of_row w _ _ us e (0,0) h1];simpa using hu
 have mF:∃d,C.P.underlying t=some d/\(isAgg t).run C.P w= .ok false w:=by
  unfold EZ at ht;split at ht;.cases hz:BR C.P t<;>rw[hz] at ht<;>cases ht
  .cases hz:BR C.P t<;>rw[hz] at ht<;>cases ht
  .rename_i d RN eX hd;refine⟨d,hd,?_⟩;unfold isAgg;rw[Sem.run_bind,run_underlying hd w];cases d<;>simp_all
  .cases ht
 obtain⟨d,hd,mF⟩:=mF;have:(Instr.loadAt t (.pointer (some ⟨β s,off,none⟩))).run C.P w= .ok u w:=by simp[Instr.loadAt,Instr.sureAddr,loadVar,mF,Jo]
 rw[c] at this;cases this;simpa using hu
def CX.x_(hr:CX C γ0 w0 γ β U h a w){s ver off:Nat}{cs:List Aa}{ow:List Nat}(hs:U.at s= .box ver cs ow)(ho:off∈ow)(c:off∉ow.erase off)(s':Nat)(c':Option Nat){u:Value}{v:Aa}(hv:cs[off]?=some v)
  (hu:∀us e,w.heap[β s]?=some (.cells us e (0,0))->us[off]?=some u):
  ∃γ',γ.le γ'/\CX C γ0 w0 γ' β (U.set s (.box (ver+1) cs (ow.erase off))) h a w/\IF γ' w0.heap.size w s' c' u v:=by
 have h0:=hr.fr.HS s;rw[hs] at h0;obtain⟨h1,h2,q,us,e,k,p,o,j⟩:=h0;obtain⟨t,v',f,d,b⟩:=j off ho;rw[hv] at d;cases d;rw[hu us e k] at f;cases f;have Jz:CX C γ0 w0 γ β (U.set s (.box (ver+1) cs (ow.erase off))) h a w:=hr.fM ⟨h1,h2,q,us,e,k,p,o,λo' xa=>j o' (List.mem_of_mem_erase xa)⟩;have hl:s<U.length:=BJ.OY (by rw[hs];simp);rcases b with b|⟨g,n,cap,lF,r,z,Aw,p1,p2,m,i,l⟩
 .exact⟨γ,.refl _,Jz,.inl b⟩
 .refine⟨γ.Fw g (.tail s' c' (n*z)),GW _ _ _,Jz.Fw m i (λhn=>by cases hn) (λo' xa FX Gx Nz hb=>?_),.inr ⟨g,n,cap,lF,r,z,Aw,p1,p2,by simp[Gh.Fw],i,l⟩⟩;rw[BJ.E3 hl] at hb;cases hb;cases xa;exact c
def Yi{o:Oper}{t:TypeId}{x:Operand}{d:Nat}{take:Bool}{r:Em}{run:IT->Ah->Option Jy}{g:BJ}{h':Ah}(ho:o.op= .load t x)(hd:o.dst=some d)(hc:Lf C U t x d take=some r)(hp:∃ws,r= .pure ws)
  (FI:r.M3 C run (U.drop r.news) h g h') (hr:CX C γ0 w0 γ β U h a w):Fy C γ0 w0 o a w g h':=by
 have Mg:∀v,(Instr.loadAt t (a.eval x)).run C.P w= .ok v w->(execOp a.eval o).run C.P w= .ok (.value v) w:=λv hv=>by simp[execOp,ho,hv]
 unfold Lf at hc;split at hc;.cases hc;obtain⟨_,e⟩:=hp;cases e
 .rename_i s off ver cs ow ht ha;obtain⟨hs,hx⟩:=KS hr ha;split at hc
  .rename_i hlt;have aH:cs[off]?=some (cs.getD off .nilIface):=by simp[List.getD,Au hlt]
   obtain⟨v,b,c,i⟩:=KE hr ht hs (r:=cs.getD off .nilIface) (off:=off) (by simpa[E1] using aH);rw[<-hx] at b;simp only at hc;split at hc
   .rename_i Hw;cases hc;rw[NI Ax] at FI;obtain⟨rfl,rfl⟩:=FI;simp only[AO,aEi] at Hw;obtain⟨⟨j,f⟩,_⟩:=Hw;have f:off∉ow.erase off:=by simpa using f
    obtain⟨γ',Ek,Hd,Fp⟩:=hr.x_ hs j f d none aH (i rfl);exact Fy.value (Mg v b) (by rw[hd];exact Hd.put (d:=some d) λs' eW=>by cases eW;exact⟨BI.mono Ek _ _ c,Fp⟩)
   .cases hc;rw[NI Ax] at FI;obtain⟨rfl,rfl⟩:=FI;exact Fy.value (Mg v b) (by rw[hd];exact hr.put (d:=some d) λ_ _=>c)
  .cases hc
 .rename_i n s off ver cs ow ht ha;obtain⟨hs,hx⟩:=KS hr ha;split at hc;.rename_i Ek;cases hc;rw[NI Ax] at FI;obtain⟨rfl,rfl⟩:=FI;obtain⟨v,b,c,_⟩:=KE hr ht hs (r:= .agg ((cs.drop off).take n)) (off:=off) (by simp[E1,Ek]);rw[<-hx] at b;exact Fy.value (Mg v b) (by rw[hd];exact hr.put (d:=some d) λ_ _=>c)
  .cases hc
 .cases hc
def jn{o:Oper}{t:TypeId}{x:Operand}{n:Option Nat}{p r:Aa}(ho:o.op= .load t x)(ht:EZ C.P t=some n)(hx:FU C U x=some (.ptr p))(hl:Bi h n p=some r)(hr:CX C γ0 w0 γ β U h a w):
  Fy C γ0 w0 o a w (U.put o.dst (.val r)) h:=by
 have hv:=QV hr hx;have Mg:∀v,(Instr.loadAt t (a.eval x)).run C.P w= .ok v w->(execOp a.eval o).run C.P w= .ok (.value v) w:=λv hv=>by simp[execOp,ho,hv]
 unfold Bi at hl;split at hl
 .rename_i cs;obtain⟨b,k,hv,hm⟩:=hv;obtain⟨us,p1,p2⟩:=hm.values;obtain⟨v,c,d⟩:=Ia (w:=w) ht p1 (λj u hj=>(hr.DI.HW _ _ _ (p2 j u hj)).1) (λu hu=>by obtain⟨j,hj⟩:=CF hu;exact(hr.DI.HW _ _ _ (p2 j u hj)).2.1) hl
  rw[<-hv] at c;exact Fy.value (Mg v c) (hr.put λ_ _=>d)
 .rename_i id off;obtain⟨b,hb,hv⟩:=hv;split at hl
  .rename_i cs hcs;obtain⟨us,e,fr,p1,pf,p2,f⟩:=hr.DI.cells id cs hcs b hb;obtain⟨v,c,d⟩:=Ia (w:=w) (b:=b) (o:=off) ht (p2.drop off) (λj u hj=>by
    rw[cell_of_row w _ _ us e fr p1];rw[Cr,Cn] at hj;split at hj;.simpa using hj
    .cases hj) (λu hu=>f u (Bu hu)) (O2 hl)
   rw[<-hv] at c;exact Fy.value (Mg v c) (hr.put λ_ _=>d)
  .cases hl
 .cases hl
end
end Go.Am
end
section
namespace Go.Am
open Go
section
variable{C:FB}{γ0 γ γ':Gh}{w0 w w':World}{β:Nat->Nat}{U:BJ}{h:Ah}{a:Act}{fid:FuncId}{ops:List Oper}
def Eo{b:Nat}{t:TypeId}{fr:Nat×Nat}:∀(vs:List Value) (o:Nat) (cur:Array Value) (w:World),w.heap[b]?=some (.cells cur t fr)->o+vs.length<=cur.size->
  w.setCells b o vs=w.setRow b (cur.toList.take o++vs++cur.toList.drop (o+vs.length)).toArray
 |[],o,cur,w,hg,_=>by simp only[World.setCells,Bq,Br,Bl,Cx,Array.toArray_toList];exact(setRow_self w b cur t fr hg).symm
 |v::r,o,cur,w,hg,hl=>by simp only[AJ] at hl;rw[World.setCells,setCell_eq_setRow w b o cur t fr v hg,Eo r (o+1) _ _ (setRow_heap w b cur _ t fr hg) Ed,setRow_setRow];have e:=list_seg_step cur.toList o v r Ed;simp only[Array.toList_setIfInBounds,AJ];rw[e]
def Ot{t:TypeId}{n b o:Nat}(hn:BR C.P t=some n){u:Value}(hu:u.cells.size=n)(h1:∀x∈u.cells.toList,x.oneCell'=true){cur:Array Value}{e:TypeId}{fr:Nat×Nat}(hg:w.heap[b]?=some (.cells cur e fr))(rF:Tc fr cur.size)
  (hl:o+n<=cur.size):(Instr.storeAt t (.pointer (some ⟨b,o,none⟩)) u).run C.P w= .ok () (w.setRow b (cur.toList.take o++u.cells.toList++cur.toList.drop (o+n)).toArray):=by
 have hs:=run_storeCells_cells (P:=C.P) b o u.cells.toList 0 w (λj hj=>by
  rw[cell_of_row w _ _ cur e fr hg];simp at hj;rw[Cm Ac];rfl) (λj hj=>by
  simp at hj;simp only[World.frozen?,hg];rcases rF with rfl|rF
  .simp
  .simp;omega) h1
 rw[Bl,Eo _ o cur w hg Ed] at hs;cases hq:C.P.info? t with
 |none=>simp[BR,hq] at hn
 |some i=>
  have hi:i.size=n:=by simpa[BR,hq] using hn
  simp only[Cb,hu] at hs;simp[Instr.storeAt,Instr.sureAddr,storeVar,sizeOf,typeInfo,hq,hi,hu,hs]
def V0{Z:Type}{cs vs:List Z}{off n o:Nat}(hl:off+n<=cs.length)(hv:vs.length=n)(ho:¬(off<=o/\o<off+n)):(cs.take off++vs++cs.drop (off+n))[o]?=cs[o]?:=by
 have b:(cs.take off).length=off:=Ed;by_cases h:o<off;.rw[An (by simp[hv];omega),An Ac,CL h]
 .rw[Bn (by simp[hv];omega),Cr];congr 1
  simp[hv];omega
def Y4{Z:Type}{cs:List Z}{off n:Nat}{x:Z}(hl:off+n<=cs.length):(cs.take off++[x]++cs.drop (off+n))[off]?=some x:=by have b:(cs.take off).length=off:=Ed;rw[An Ed,Bn Ac];simp[b]
def Mq{Z:Type}{us vs:List Z}{off n len:Nat}(hl:len<=us.length)(ho:off+n<=len)(hv:vs.length=n):
  (us.take off++vs++us.drop (off+n)).take len=(us.take len).take off++vs++(us.take len).drop (off+n):=by
 have c:(us.take off).length=off:=Ed;have b:(us.take off++vs).length=off+n:=by simp[hv];omega
 rw[qL,Be Ac,b,F6,CG Ac,List.drop_take]
def NO{cs vs:List Aa}{us Dq:List Value}{off n:Nat}(h:AV γ cs us)(h':AV γ vs Dq):AV γ (cs.take off++vs++cs.drop (off+n)) (us.take off++Dq++us.drop (off+n)):=
 ((h.take off).append h').append (h.drop (off+n))
def IF.đ{B s d g:Nat}(hg:γ.BM g=some (.loc s)){c:Option Nat}{v:Value}{u:Aa}(Dq:Array Value)(ho:IF γ B w d c v u):IF γ B (w.setRow g Dq) d c v u:=by
 rcases ho with ho|⟨g2,n,cap,us,e,z,Aw,h1,h2,b,j,i,f⟩
 .exact .inl ho
 .have hb:g2≠g:=λhe=>by subst he;rw[hg] at b;cases b
  exact .inr ⟨g2,n,cap,us,e,z,Aw,h1,h2,b,j,by rw[setRow_other w g g2 Dq hb];exact i,f⟩
def V4(γ:Gh)(w:World)(g:Nat)(us:Array Value):PX g γ w γ (w.setRow g us):=
 ⟨.refl _,λb x hb hx _=>⟨hx,setRow_other w g b us hb⟩⟩
def CX.fZ(hr:CX C γ0 w0 γ β U h a w){s ver FX off n:Nat}{cs:List Aa}{ow:List Nat}(hs:U.at s= .box ver cs ow){vs:List Aa}{Dq:List Value}(hv:AV γ vs Dq)(h1:∀u∈Dq,u.oneCell'=true)(hn:vs.length=n)
  (hl:off+n<=cs.length) {BM:Bool} (Fp:BM=true->∃u x,Dq=[u]/\vs=[x]/\IF γ w0.heap.size w s (some off) u x) {us:Array Value} {e:TypeId} (hg:w.heap[β s]?=some (.cells us e (0,0))):
  CX C γ0 w0 γ β (U.set s (.box FX (VN cs off n vs) (RC ow off n BM))) h a (w.setRow (β s) (us.toList.take off++Dq++us.toList.drop (off+n)).toArray):=by
 have h0:=hr.fr.HS s;rw[hs] at h0;obtain⟨p1,p2,j,fq,e0,i,f,d,p⟩:=h0;rw[hg] at i;cases i;have hlen:Dq.length=n:=by rw[hv.length,hn]
 have fu:off+n<=us.toList.length:=by rw[f.length];exact hl
 have ya:s<U.length:=BJ.OY (by rw[hs];simp);refine⟨zF hr.DI p2 _,⟨by simp[hr.fr.size],λc=>?_⟩,hr.DD.write (g:=β s) j (.refl _) Ax rfl rfl rfl (λb hb=>⟨setRow_other w _ b _ hb,rfl⟩),hr.defers,hr.Gy⟩;by_cases he:c=s
 .subst he;rw[BJ.E3 ya];refine⟨p1,p2,j,_,e,setRow_heap w _ us _ e (0,0) hg,?_,?_,?_⟩;.simpa[VN] using NO (off:=off) (n:=n) f hv
  .intro u hu;simp only[AQ,Aq] at hu;rcases hu with hu|hu|hu
   .exact d u (A4 hu)
   .exact h1 u hu
   .exact d u (Bu hu)
  .intro o ho;have IC:(BM=true/\o=off)\/(o∈ow/\¬(off<=o/\o<off+n)):=by
    unfold RC at ho;have hf:o∈ow.filter (λo=> !(decide (off<=o)&&decide (o<off+n)))->o∈ow/\¬(off<=o/\o<off+n):=λhm=>by rw[Dk] at hm;refine⟨hm.1,λhc=>?_⟩;have:=hm.2;simp[hc.1,hc.2] at this
    cases BM with
    |true=>
     simp only[BD,AE] at ho;rcases ho with ho|ho
     .exact .inl ⟨rfl,ho⟩
     .exact .inr (hf ho)
    |false=>exact .inr (hf ho)
   rcases IC with⟨Ś,rfl⟩|⟨Ś,rK⟩
   .obtain⟨u,x,rfl,rfl,q⟩:=Fp Ś;exact⟨u,x,by simpa using Y4 (x:=u) fu,by simpa[VN] using Y4 (x:=x) hl,q.đ p2 _⟩
   .obtain⟨u,x,m,l,k⟩:=p o Ś;refine⟨u,x,?_,?_,k.đ p2 _⟩;.rw[<-m];have:=V0 fu hlen rK;simpa using this
    .rw[<-l];exact V0 hl hn rK
 .rw[BJ.FM (λx=>he x.symm)];exact(hr.fr.HS c).keptBut p2 (V4 γ w _ _) (by simp only[Kc.lS];intro hx;cases hx;exact he rfl)
def O3(hr:CX C γ0 w0 γ β U h a w){y:Operand}{v:Aa}(hy:KP C U y=true)(hv:EF C U y=some v)(s':Nat)(c':Option Nat):
  ∃γ',γ.le γ'/\CX C γ0 w0 γ' β (U.Dt (C3 U y)) h a w/\BI γ' v (a.eval y)/\IF γ' w0.heap.size w s' c' (a.eval y) v:=by
 unfold KP at hy;cases hs:DP C U y with
 |none=>rw[hs] at hy;cases hy
 |some sl=>
  rw[hs] at hy;cases sl with
  |BM u=>
   have b:u=v:=by unfold EF at hv;rw[hs] at hv;exact ED hv
   subst b;cases y with
   |tmp t=>have ht:U.at t= .BM u:=GC hs;obtain⟨γ',Ek,Hd,h1,h2⟩:=hr.take ht s' c';exact⟨γ',Ek,by simpa[C3,ht,BJ.Dt] using Hd,h1,h2⟩
   |const c=>
    refine⟨γ,.refl _,hr,Gi hr hv,?_⟩;obtain⟨q,_⟩:=RJ (γ:=γ) (β:=β) (w:=w) hs;unfold DP at hs;split at hs;.rename_i e;cases e
    .cases hs
    .cases hs;exact .inl (.inl rfl)
    .rename_i J7;cases J7;cases hc:KD c with
     |none=>rw[hc] at hs;cases hs
     |some _=>rw[hc] at hs;cases hs
    .rename_i e;cases e
    .cases hs
   |global g=>have eW:(C.Gy g).map (λcs=>D3.val (Aa.BW cs))=some (.BM u):=hs;cases hc:C.Gy g<;>rw[hc] at eW<;>cases eW
   |func f=>cases hs
  |_=>cases hy
def mG{B s:Nat}{c:Option Nat}{v:Value}{x:Aa}(h:IF γ B w s c v x):x.cells=[x]:=by rcases h with(rfl|⟨_,rfl⟩)|⟨_,_,_,_,_,_,_,rfl,_⟩<;>rfl
def mH{o:Oper}{t:TypeId}{x y:Operand}{s off n ver:Nat}{v:Aa}{BM:Bool}{c:Option (Nat×Aa)}{cells:List Aa}{owned:List Nat}{run:IT->Ah->Option Jy}{j:BJ}{h':Ah}(ho:o.op= .store t x y)(hd:o.dst=none)
  (hc:I4 C U t x y=some (.MH s off n v BM c ver cells owned)) (FI:(Em.MH s off n v BM c ver cells owned).M3 C run U h j h') (hr:CX C γ0 w0 γ β U h a w):Fy C γ0 w0 o a w j h':=by
 unfold I4 at hc;split at hc;.cases hc
 .rename_i m sh s' jo FX Gx Nz v' K8 lG ha hv;split at hc
  .rename_i hl;simp only[Bx,Em.MH.injEq] at hc;obtain⟨rfl,rfl,rfl,rfl,Fp,Yj,rfl,rfl,rfl⟩:=hc;obtain⟨hn,rfl,rfl⟩:=FI;obtain⟨hs,hx⟩:=KS hr ha;have rL:=Gi hr hv;obtain⟨_,_,us,e,hg,l,p,_⟩:=hr.Y3 hs;have ya:jo+(m+1)<=us.size:=by have:=l.length;simp at this;omega
   obtain⟨f,d⟩:=GX rL Ac;have mI:(a.eval y).cells.size=m+1:=by have:=f.length;simp at this;omega
   have IP:=Ot (C:=C) (b:=β s') (o:=jo) K8 mI d hg (.inl rfl) ya;rw[<-hx] at IP;have Mg:(execOp a.eval o).run C.P w= .ok .skip (w.setRow (β s') (us.toList.take jo++(a.eval y).cells.toList++us.toList.drop (jo+(m+1))).toArray):=by simp[execOp,ho,IP]
   by_cases hw:BM=true
   .subst hw;rw[Af Fp] at Yj;subst Yj;simp only[AO] at Fp;obtain⟨k,Ek,Jz,h1,h2⟩:=O3 hr Fp.2 hv s' (some jo);have i:=mG h2;have Mh:(U.Dt (C3 U y)).at s'= .box FX Gx Nz:=by
     cases y with
     |tmp t'=>
      simp only[C3];cases ht:U.at t' with
      |BM u=>simp only[BJ.Dt];rw[BJ.FM (λe=>by rw[e,hs] at ht;cases ht)];exact hs
      |_=>exact hs
     |_=>exact hs
    have LQ:=Jz.fZ (FX:=FX+1) (BM:=true) (n:=m+1) Mh (AV.mono Ek _ _ f) d hn hl (λ_=>?_) hg;.exact Fy.skip Mg (by rw[hd];exact LQ)
    .have hcl:(a.eval y).cells=#[a.eval y]:=by
      rcases h2 with(h2|⟨z,h2⟩)|⟨_,_,_,_,_,_,_,_,h2,_⟩
      .subst h2;rw[show a.eval y=_ from h1];rfl
      .subst h2;obtain⟨_,h1⟩:=h1;rw[h1];rfl
      .rw[h2];rfl
     exact⟨a.eval y,v',by rw[hcl],i,h2⟩
   .have g:BM=false:=by simpa using hw
    subst g;rw[Ag (by rw[Fp];simp)] at Yj;subst Yj;exact Fy.skip Mg (by rw[hd];exact hr.fZ (FX:=FX+1) (BM:=false) hs f d hn hl (λe=>by cases e) hg)
  .cases hc
 .cases hc
def zQ{o:Oper}{t:TypeId}{x y:Operand}{n:Nat}{p v:Aa}{h':Ah}(ho:o.op= .store t x y)(hd:o.dst=none)(K8:BR C.P t=some (n+1))(hx:FU C U x=some (.ptr p))(hv:EF C U y=some v)(IP:CH h (n+1) p v=some h')(hr:CX C γ0 w0 γ β U h a w):
  Fy C γ0 w0 o a w U h':=by
 have ś:=QV hr hx;have rL:=Gi hr hv;unfold CH at IP;split at IP
 .rename_i id off;obtain⟨b,hb,c⟩:=ś;split at IP
  .rename_i cs hcs;split at IP
   .rename_i hl;cases IP;obtain⟨us,e,fr,hg,pf,j,i⟩:=hr.DI.cells id cs hcs b hb;obtain⟨g,f⟩:=GX rL Ac;have mI:(a.eval y).cells.size=n+1:=by have:=g.length;simp at this;omega
    have hlt:cs.length<=us.size:=by have:=j.length;simp at this;omega
    have ya:off+(n+1)<=us.size:=Ac;have AG:=Ot (C:=C) (b:=b) (o:=off) K8 mI f hg pf ya;rw[<-c] at AG;obtain⟨hi,ha⟩:=M1 hr.DI hcs hb hg (us.toList.take off++(a.eval y).cells.toList++us.toList.drop (off+(n+1))).toArray (cs.take off++v.cells++cs.drop (off+(n+1)))
     (by simp only[B3,Ap,AB,Bj,Cb,mI];omega)
     (by
      rcases pf with rfl|pf
      .exact .inl rfl
      .refine .inr (Bp (L8 ?_) pf);simp only[B3,Ap,AB,Bj,Cb,mI];omega)
     (by
      have:=NO (off:=off) (n:=n+1) j g;rw[<-Mq (by simpa using hlt) hl.2 (by simpa using mI)] at this;have d:(cs.take off++v.cells++cs.drop (off+(n+1))).length=cs.length:=by simp[hl.1];omega
      rw[d];simpa using this) (λu hu=>by
      have d:(cs.take off++v.cells++cs.drop (off+(n+1))).length=cs.length:=by simp[hl.1];omega
      rw[d] at hu;simp only[Ky] at hu;rw[Mq (by simpa using hlt) hl.2 (by simpa using mI)] at hu;simp only[AQ,Aq] at hu;rcases hu with hu|hu|hu
      .exact i u (A4 hu)
      .exact f u hu
      .exact i u (Bu hu))
    have Mg:(execOp a.eval o).run C.P w= .ok .skip (w.setRow b (us.toList.take off++(a.eval y).cells.toList++us.toList.drop (off+(n+1))).toArray):=by simp[execOp,ho,AG]
    exact Fy.skip Mg (by rw[hd];exact hr.IB hi ha)
   .cases IP
  .cases IP
 .cases IP
def CX.freeze(hr:CX C γ0 w0 γ β U h a w){s ver:Nat}{cs:List Aa}{ow:List Nat}(hs:U.at s= .box ver cs ow):
  ∃γ',γ.le γ'/\CX C γ0 w0 γ' β (U.set s (.val (.BW cs))) h a w/\BI γ' (.BW cs) (a.tmps.getD s undef):=by
 have h0:=hr.fr.HS s;rw[hs] at h0;obtain⟨p1,p2,z,us,e,m,l,k,t⟩:=h0;have ya:s<U.length:=BJ.OY (by rw[hs];simp);have je:∀o,γ.HW (β s) o=none:=λo=>by
  cases hc:γ.HW (β s) o with
  |none=>rfl
  |some u=>obtain⟨_,_,q⟩:=hr.DI.HW _ _ _ hc;rw[p2] at q;rcases q with q|⟨_,_,_,q,_⟩<;>cases q
 have Ek:γ.le (γ.C6 (β s) us us.size none):=⟨λb o v hb=>by
  have:b≠β s:=λe=>by rw[e,je] at hb;cases hb
  simp only[Gh.C6,Ag this];exact hb,λ_ _ hm=>hm,λ_ _ hm=>hm⟩
 have hne:∀b id,γ.BM b=some (.Me id)->b≠β s:=λb id hb e=>by rw[e,p2] at hb;cases hb
 have hk:PX (β s) γ w (γ.C6 (β s) us us.size none) w:=⟨Ek,λb x hb hx _=>⟨by simp only[Gh.C6,Ag hb];exact hx,rfl⟩⟩;have hv:BI (γ.C6 (β s) us us.size none) (.BW cs) (a.tmps.getD s undef):=by
  refine⟨β s,0,p1,CP.GB λi x hi=>?_⟩;obtain⟨u,d,c⟩:=l.get hi;have hlt:i<us.size:=by have:=(Aj.1 d).1;simpa using this
  exact⟨u,by simp only[Gh.C6,BD,BC,Af hlt];simpa using d,BI.mono Ek _ _ c⟩
 have Ŝ:∀b n,γ.sz b=some n->(∃us e fr,w.heap[b]?=some (.cells us e fr)/\us.size=n)/\((γ.C6 (β s) us us.size none).BM b=none\/∃id,(γ.C6 (β s) us us.size none).BM b=some (.Me id)):=λb n hb=>by
  obtain⟨p,r⟩:=hr.DI.sz b n hb;by_cases he:b=β s;.subst he;exact⟨p,.inl (by simp[Gh.C6])⟩
  .exact⟨p,by simp only[Gh.C6,Ag he];exact r⟩
 refine⟨_,Ek,⟨⟨λb o v hb=>?_,λid y HX hy=>?_,λid Gx hc b hb=>?_,λid es hc b hb=>?_,hr.DI.mu,λb x hx=>?_,Ŝ⟩,⟨by simp[hr.fr.size],λg=>?_⟩,?_,hr.defers,λx Gx hx=>CP.mono Ek _ _ _ (hr.Gy x Gx hx)⟩,hv⟩
 .by_cases he:b=β s
  .subst he;simp only[Gh.C6,BD] at hb⊢;split at hb;.exact⟨by rw[cell_of_row _ _ _ us e (0,0) m];exact hb,k v (by rw[AN] at hb;obtain⟨p,q⟩:=hb;rw[<-q];exact Array.getElem_mem_toList p),.inl Ax⟩
   .cases hb
  .simp only[Gh.C6,Ag he] at hb⊢;exact hr.DI.HW b o v hb
 .obtain⟨b,d,c⟩:=hr.DI.Me id y HX hy;exact⟨b,d,by simp only[Gh.C6,Ag (hne b id c)];exact c⟩
 .obtain⟨Dq,f,zE,d,qf,c,j⟩:=hr.DI.cells id Gx hc b hb;exact⟨Dq,f,zE,d,qf,AV.mono Ek _ _ c,j⟩
 .obtain⟨Dq,f,d,c⟩:=hr.DI.map id es hc b hb;exact⟨Dq,f,d,c.mono Ek⟩
 .by_cases he:b=β s;.subst he;exact hr.DI.BM _ _ p2
  .simp only[Gh.C6,Ag he] at hx;exact hr.DI.BM b x hx
 .by_cases he:g=s;.subst he;rw[BJ.E3 ya];exact hv
  .rw[BJ.FM (λx=>he x.symm)];exact(hr.fr.HS g).keptBut p2 hk (by simp only[Kc.lS];intro hx;cases hx;exact he rfl)
 .refine⟨hr.DD.le.trans Ek,hr.DD.size,hr.DD.os,hr.DD.tape,hr.DD.output,λb hb hn=>?_⟩;obtain⟨d,c⟩:=hr.DD.NF b hb hn;exact⟨d,by simp only[Gh.C6,Ag (Ac:b≠β s)];exact c⟩
def CX.Tf:∀{fz:List (Nat×List Aa)} {γ:Gh} {U:BJ},CX C γ0 w0 γ β U h a w->(∀p∈fz,∃ver ow,U.at p.1= .box ver p.2 ow)->(fz.map (·.1)).Nodup->
  ∃γ',γ.le γ'/\CX C γ0 w0 γ' β (U.DX (fz.map λ(s,cs)=>(s,.val (.BW cs)))) h a w/\∀p∈fz,BI γ' (.BW p.2) (a.tmps.getD p.1 undef)
 |[],γ,U,hr,_,_=>⟨γ,.refl _,hr,Ax⟩
 |(s,cs)::fz,γ,U,hr,hb,hn=>by
  simp only[A0,B6] at hn;obtain⟨ver,ow,hs⟩:=hb (s,cs) Ax;obtain⟨d,aI6,Jz,jq⟩:=hr.freeze hs;obtain⟨b,gA,LQ,Qv⟩:=Tf (fz:=fz) Jz (λp hp=>by obtain⟨FX,Nz,c⟩:=hb p (by simp[hp]);refine⟨FX,Nz,?_⟩;rw[BJ.FM (λe=>hn.1 (by rw[show s=p.1 from e];exact AZ.2 ⟨p,hp,rfl⟩))];exact c) hn.2
  refine⟨b,aI6.trans gA,LQ,λp hp=>?_⟩;rcases AE.1 hp with rfl|hp
  .exact BI.mono gA _ _ jq
  .exact Qv p hp
def ML:∀{xs:List Operand} {vs:List Aa} {fz:List (Nat×List Aa)},FV C U xs=some (vs,fz)->
  (∀p∈fz,∃ver ow,U.at p.1= .box ver p.2 ow)/\(fz.map (·.1)).Nodup/\
  ∀γ',(∀x u,EF C U x=some u->BI γ' u (a.eval x))->(∀p∈fz,BI γ' (.BW p.2) (a.tmps.getD p.1 undef))->AV γ' vs (xs.map a.eval)
 |[],vs,fz,hc=>by cases hc;exact⟨Ax,Ax,λ_ _ _=>rfl⟩
 |x::xs,vs,fz,hc=>by
  unfold FV at hc;split at hc;.cases hc
  .rename_i Hv f d;obtain⟨h1,h2,e⟩:=ML d;split at hc
   .rename_i s ver cs ow hs;split at hc;.cases hc
    .rename_i hn;cases hc;have hsb:U.at s= .box ver cs ow:=GC hs;refine⟨λp hp=>?_,?_,λγ' c b=>?_⟩
     .rcases AE.1 hp with rfl|hp
      .exact⟨ver,ow,hsb⟩
      .exact h1 p hp
     .simp only[A0,B6];exact⟨by simpa using hn,h2⟩
     .exact⟨_,_,rfl,b (s,cs) Ax,e γ' c λp hp=>b p (by simp[hp])⟩
   .rename_i sl _ hs;cases hv:sl.GV with
    |none=>rw[hv] at hc;cases hc
    |some u=>rw[hv] at hc;cases hc;exact⟨h1,h2,λγ' c b=>⟨_,_,rfl,c _ u (by unfold EF;rw[hs];exact hv),e γ' c b⟩⟩
   .cases hc
def gB{o:Oper}{fn:Fn}{first captured:Array Operand}{d:Nat}{as bs:List Aa}{fz:List (Nat×List Aa)}(ho:o.op= .makeFunc fn first captured)(hd:o.dst=some d)(ha:Bm C U first.toList=some as)(hb:FV C U captured.toList=some (bs,fz))(hr:CX C γ0 w0 γ β U h a w):
  Fy C γ0 w0 o a w (((U.drop (fz.map (·.1))).DX (fz.map λ(s,cs)=>(s,.val (.BW cs)))).set d (.val (.func fn as bs))) h:=by
 obtain⟨h1,h2,b⟩:=ML (a:=a) hb;obtain⟨γ',Ek,Hd,hv⟩:=(hr.drop (fz.map (·.1))).Tf (fz:=fz) (λp hp=>by obtain⟨ver,ow,hs⟩:=h1 p hp;exact⟨ver,ow,by rw[BJ.RO,hs]⟩) h2
 refine Fy.value (w':=w) (v:= .func fn (first.map a.eval) (captured.map a.eval)) (by simp[execOp,ho,Instr.makeFunc]) (by rw[hd];exact Hd.put (d:=some d) λ_ _=>⟨_,_,rfl,by simpa using AV.mono Ek _ _ (DE hr ha),by simpa using b γ' (λx u hx=>BI.mono Ek _ _ (Gi hr hx)) hv⟩)
end
end Go.Am
end
