/- Lemmas -/
import Derived.Test.YtmfdhadocnndiaaGreatDoorS3
import Derived.Laws.IdiomCopy
set_option linter.all false
section
namespace Go.Am
open Go
def qD(β:Nat->Nat)(d b:Nat):Nat->Nat:=λs=>if s=d then b else β s
def IY.bA:IY->Option Nat
 | .KJ _=>none
 | .zf s=>some s
 | .tail s _ _=>some s
structure NN(g:Nat)(γ:Gh)(w:World)(γ':Gh)(w':World):Prop where
 le:γ.le γ'
 Iy:∀b x,b≠g->γ.BB b=some x->x.q8=false->γ'.BB b=some x/\w'.heap[b]?=w.heap[b]?
section
variable{C:Fo}{γ0 γ γ':Gh}{w0 w w':World}{β:Nat->Nat}{U:Bu}{h:Ah}{a:Act}{fid:FuncId}{ops:List Oper}
def Bu.Pp(U:Bu)(ds:List Nat)(s:Nat):(U.drop ds).at s=match U.at s with| .Eo t o=>if ds.contains t then .undef else .Eo t o|x=>x:=by
 cases ds with
 |nil=>simp only[Bu.drop,List.contains_nil];cases U.at s<;>simp
 |cons d ds=>
  simp only[Bu.drop,Bu.at,List.getD,Cj];cases hg:U[s]? with
  |none=>rfl
  |some x=>cases x<;>rfl
def Bu.length_drop(U:Bu)(ds:List Nat):(U.drop ds).length=U.length:=by cases ds<;>simp[Bu.drop]
def JP.aA6{B s d b:Nat}{x:DN}{v:Value}(hx:JP γ β B w s x v)(hn:∀o,x≠ .Eo d o)(hs:s≠d):JP γ (qD β d b) B w s x v:=by
 cases x with
 |box ver cs ow=>simpa only[JP,qD,Ac hs] using hx
 |Eo t o=>have:t≠d:=λe=>hn o (by rw[e]);simpa only[JP,qD,Ac this] using hx
 |_=>exact hx
def HB.keptBut{g B s:Nat}{b:IY}(hg:γ.BB g=some b)(k:NN g γ w γ' w')(hne:b.bA≠some s){c:Option Nat}{v:Value}{u:Aa}(ho:HB γ B w s c v u):HB γ' B w' s c v u:=by
 rcases ho with ho|⟨g2,n,cap,us,e,z,Af,h1,h2,h3,l,j,i⟩
 .exact .inl ho
 .have hb:g2≠g:=λhe=>by subst he;rw[hg] at h3;cases h3;exact hne rfl
  obtain⟨f,d⟩:=k.Iy g2 _ hb h3 rfl;exact .inr ⟨g2,n,cap,us,e,z,Af,h1,h2,f,l,by rw[d];exact j,i⟩
def JP.keptBut{g B s:Nat}{d:IY}(hg:γ.BB g=some d)(k:NN g γ w γ' w')(hne:d.bA≠some s){x:DN}{v:Value}(hx:JP γ β B w s x v):JP γ' β B w' s x v:=by
 cases x with
 |undef=>trivial
 |skip=>exact hx
 |val u=>exact Bv.mono k.le u v hx
 |MO b=>exact hx
 |BB u=>exact⟨Bv.mono k.le u v hx.1,hx.2.keptBut hg k hne⟩
 |box ver cs ow=>
  obtain⟨r,c,q,us,e,p,n,m,l⟩:=hx;have hb:β s≠g:=λhe=>by rw[he,hg] at c;cases c;exact hne rfl
  obtain⟨y,t⟩:=k.Iy _ _ hb c rfl;exact⟨r,y,q,us,e,by rw[t];exact p,AQ.mono k.le cs _ n,m,λo ho=>let⟨u,v,j,i,f⟩:=l o ho;⟨u,v,j,i,f.keptBut hg k hne⟩⟩
 |Eo s' o=>exact hx
def CF.rJ(hr:CF C γ0 w0 γ β U h a w)(d:Nat)(us:Array Value)(e:TypeId)(cells:List Aa)(ow:List Nat)(hc:AQ γ cells us.toList)(h1:∀u∈us.toList,u.oneCell'=true)
  (how:∀o∈ow,cells[o]?=some .slnil):
  ∃γ' b,CF C γ0 w0 γ' b ((U.drop [d]).set d (.box 0 cells ow)) h (a.put (some d) (.pointer (some ⟨w.heap.size,0,none⟩))) (w.alloc (.cells us e)):=by
 obtain⟨hi,ha⟩:=M2 hr.Dr us e (0,0) 0 (some (.zf d)) (λ_ _ ho=>absurd ho (Nat.not_lt_zero _)) (.inr (.inr ⟨rfl,Av⟩));have Iz:=(hr.drop [d]).world hi ha;refine⟨_,qD β d w.heap.size,Iz.Dr,⟨by simp[Act.put,Iz.fr.size],λs=>?_⟩,Iz.Dh,Iz.defers,Iz.FV⟩;have hs:=Iz.fr.GO s;by_cases he:s=d
 .subst he;by_cases hl:s<(U.drop [s]).length
  .have zg:s<a.tmps.size:=by rw[<-Iz.fr.size];exact hl
   rw[Bu.EB hl];have g:(a.put (some s) (.pointer (some ⟨w.heap.size,0,none⟩))).tmps.getD s undef= .pointer (some ⟨w.heap.size,0,none⟩):=by simp[Act.put,Array.getD,zg]
   rw[g];refine⟨by simp[qD],by simp[qD,Gh.CT],?_,us,e,?_,AQ.mono ha.le _ _ hc,h1,λo ho=>?_⟩;.simp only[qD,BE];exact hr.Dh.size
   .simp only[qD,BE];exact heap_alloc_new w _
   .have hco:=how o ho;obtain⟨u,c,i⟩:=hc.get hco;exact⟨u,.slnil,by simpa using c,hco,.inl (.inl rfl)⟩
  .have:Bu.at ((U.drop [s]).set s (.box 0 cells ow)) s= .undef:=by simp[Bu.at,List.getD];rw[CZ (by simpa using hl)];rfl
   rw[this];trivial
 .rw[Bu.E6 (λe=>he e.symm)];have f:(a.put (some d) (.pointer (some ⟨w.heap.size,0,none⟩))).tmps.getD s undef=a.tmps.getD s undef:=by simp[Act.put,F3,aW (λe=>he e.symm)]
  rw[f];refine hs.aA6 (λo ho=>?_) he;rw[Bu.Pp] at ho;cases hx:U.at s with
  |Eo t o'=>
   rw[hx] at ho;simp only at ho;split at ho;.cases ho
   .rename_i hc;cases ho;exact hc Av
  |_=>rw[hx] at ho;cases ho
def GH{P:Program}{t:TypeId}{z:Aa}(hz:FW P t=some z):∃v,Jl v=some z/\∀w,(zeroValue t).run P w= .ok v w:=by
 unfold FW at hz;cases hi:P.info? t with
 |none=>rw[hi] at hz;cases hz
 |some i=>
  rw[hi] at hz;cases hv:i.zero with
  |none=>simp[hv] at hz
  |some v=>simp only[BZ,hv] at hz;exact⟨v,hz,λw=>by simp[zeroValue,typeInfo,hi,hv]⟩
def bR{cs:List Aa}{o:Nat}(h:o∈SJ cs):cs[o]?=some .slnil:=by
 simp only[SJ,CU,KH] at h;obtain⟨h1,h2⟩:=h;simp only[List.getD,Ak h1,Lt] at h2;rw[Ak h1];split at h2;.rename_i he;rw[he]
 .cases h2
def E0(C:Fo)(γ0:Gh)(w0:World)(o:Oper)(a:Act)(w:World)(c:Bu)(h':Ah):Prop:=
 ∃γ' b w',(∃v,(execOp a.eval o).run C.P w= .ok (.value v) w'/\CF C γ0 w0 γ' b c h' (a.put o.dst v) w')\/((execOp a.eval o).run C.P w= .ok .skip w'/\CF C γ0 w0 γ' b c h' (a.put o.dst undef) w')
def E0.value{o:Oper}{c:Bu}{h':Ah}{b:Nat->Nat}{v:Value}(he:(execOp a.eval o).run C.P w= .ok (.value v) w')(hr:CF C γ0 w0 γ' b c h' (a.put o.dst v) w'):E0 C γ0 w0 o a w c h':=⟨γ',b,w',.inl ⟨v,he,hr⟩⟩
def E0.skip{o:Oper}{c:Bu}{h':Ah}{b:Nat->Nat}(he:(execOp a.eval o).run C.P w= .ok .skip w')(hr:CF C γ0 w0 γ' b c h' (a.put o.dst undef) w'):E0 C γ0 w0 o a w c h':=⟨γ',b,w',.inr ⟨he,hr⟩⟩
def S0{o:Oper}{t:TypeId}{d:Nat}{z:Aa}(ho:o.op= .alloc t)(hd:o.dst=some d)(hz:FW C.P t=some z)(hn:z.cells≠[])(hr:CF C γ0 w0 γ β U h a w):
  E0 C γ0 w0 o a w ((U.drop [d]).set d (.box 0 z.cells (SJ z.cells))) h:=by
 obtain⟨v,hv,AH⟩:=GH hz;obtain⟨e,c⟩:=Ge (γ:=γ) (EA hv) (FQ.2 hn);obtain⟨γ',b,F6⟩:=hr.rJ d v.cells t z.cells (SJ z.cells) e c (λo=>bR);refine E0.value (v:= .pointer (some ⟨w.heap.size,0,none⟩)) ?_ (by rw[hd];exact F6);simp[execOp,ho,Instr.alloc,AH,newVar,newRow]
def WG{o:Oper}{t:TypeId}{x:Operand}{d n:Nat}{v:Aa}(ho:o.op= .box t x)(hd:o.dst=some d)(hx:Ed C U x=some v)(hv:v.cells.length=n)(hn:n≠0)(hr:CF C γ0 w0 γ β U h a w):
  E0 C γ0 w0 o a w ((U.drop [d]).set d (.box 0 v.cells [])) h:=by
 obtain⟨e,c⟩:=Ge (Fy hr hx) Ab;obtain⟨γ',b,F6⟩:=hr.rJ d (a.eval x).cells t v.cells [] e c Av;refine E0.value (v:= .pointer (some ⟨w.heap.size,0,none⟩)) ?_ (by rw[hd];exact F6);simp[execOp,ho,Instr.box,newVar,newRow]
def CF.newObj(hr:CF C γ0 w0 γ β U h a w)(us:Array Value)(e:TypeId)(fr:Nat×Nat)(cells:List Aa)(gP:Qv fr us.size)(hc:AQ γ cells (us.toList.take cells.length))(h1:∀u∈us.toList.take cells.length,u.oneCell'=true):
  ∃γ',γ.le γ'/\γ'.mu h.length=some w.heap.size/\CF C γ0 w0 γ' β U (h++[.cells cells]) a (w.alloc (.cells us e fr))/\γ'.sz w.heap.size=some us.size:=by
 obtain⟨hi,ha⟩:=Ma hr.Dr (.cells us e fr) (.cells cells) (some us.size) (.inl ⟨cells,us,e,fr,rfl,rfl,gP,hc,h1,rfl⟩);exact⟨_,ha.le,by simp[Gh.BP],hr.world hi ha,by simp[Gh.BP]⟩
def S1{o:Oper}{t:TypeId}{z:Aa}{d:Option Nat}(ho:o.op= .alloc t)(hd:o.dst=d)(hz:FW C.P t=some z)(hn:z.cells.length≠0)(hr:CF C γ0 w0 γ β U h a w):
  E0 C γ0 w0 o a w (U.put d (.val (.ptr (some (h.length,0))))) (h++[.cells z.cells]):=by
 obtain⟨v,hv,AH⟩:=GH hz;obtain⟨b,c⟩:=Ge (γ:=γ) (EA hv) Ab;obtain⟨γ',D0,hm,F6,_⟩:=hr.newObj v.cells t (0,0) z.cells (.inl rfl) (by rw[AT (by rw[b.length];exact Ae _)];exact b) (λu hu=>c u (AS hu));refine E0.value (v:= .pointer (some ⟨w.heap.size,0,none⟩)) ?_ (by rw[hd];exact F6.put λs _=>⟨_,hm,rfl⟩);simp[execOp,ho,Instr.alloc,AH,newVar,newRow]
def WH{o:Oper}{t:TypeId}{x:Operand}{d:Option Nat}{v:Aa}(ho:o.op= .box t x)(hd:o.dst=d)(hx:Ed C U x=some v)(hn:v.cells.length≠0)(hr:CF C γ0 w0 γ β U h a w):
  E0 C γ0 w0 o a w (U.put d (.val (.ptr (some (h.length,0))))) (h++[.cells v.cells]):=by
 obtain⟨b,c⟩:=Ge (Fy hr hx) Ab;obtain⟨γ',D0,hm,F6,_⟩:=hr.newObj (a.eval x).cells t (0,0) v.cells (.inl rfl) (by rw[AT (by rw[b.length];exact Ae _)];exact b) (λu hu=>c u (AS hu));refine E0.value (v:= .pointer (some ⟨w.heap.size,0,none⟩)) ?_ (by rw[hd];exact F6.put λs _=>⟨_,hm,rfl⟩);simp[execOp,ho,Instr.box,newVar,newRow]
def Jy(hr:CF C γ0 w0 γ β U h a w){x:Operand}{s o ver:Nat}{cs:List Aa}{ow:List Nat}(hx:Fe C U x=some (.MY s o ver cs ow)):
  U.at s= .box ver cs ow/\a.eval x= .pointer (some ⟨β s,o,none⟩):=by
 unfold Fe at hx;split at hx;.rename_i s' Fh FU L5 hs;cases hx;have h0:=Pk hr s;rw[FY hs] at h0;exact⟨FY hs,h0.1⟩
 .rename_i s' o' _ hs;split at hx;.rename_i hb;cases hx;obtain⟨t,h1,_⟩:=Fj hr hs;exact⟨hb,h1⟩
  .cases hx
 .rename_i sl _ _ hs;cases hv:sl.Ga with
  |none=>rw[hv] at hx;cases hx
  |some u=>rw[hv] at hx;cases hx
 .cases hx
def OH(hr:CF C γ0 w0 γ β U h a w){x:Operand}{p:Aa}(hx:Fe C U x=some (.ptr p)):Bv γ p (a.eval x):=by
 unfold Fe at hx;split at hx;.cases hx
 .split at hx<;>cases hx
 .rename_i sl _ _ hs;cases hv:sl.Ga with
  |none=>rw[hv] at hx;cases hx
  |some u=>rw[hv] at hx;cases hx;obtain⟨t,h1,_⟩:=Fj hr hs;exact LF h1 hv
 .cases hx
def GY{t:TypeId}{n:Option Nat}(ht:Et C.P t=some n){cs:List Aa}{us:List Value}{b o:Nat}(hv:AQ γ cs us)(hc:∀(j:Nat) (u:Value),us[j]?=some u->w.cell? ⟨b,o+j,none⟩=some u)(h1:∀u∈us,u.oneCell'=true)
  {r:Aa} (hp:Ez cs 0 n=some r):∃v,(Instr.loadAt t (.pointer (some ⟨b,o,none⟩))).run C.P w= .ok v w/\Bv γ r v:=by
 unfold Et at ht;have LG:∀j,(⟨b,o,none⟩:Addr).add j=⟨b,o+j,none⟩:=λj=>by unfold Addr.add;split<;>simp_all
 have agg:∀d,C.P.underlying t=some d->(match d with| .struct _| .array _ _=>true|_=>false)=true->(BI C.P t).map some=some n->
   ∃v,(Instr.loadAt t (.pointer (some ⟨b,o,none⟩))).run C.P w= .ok v w/\Bv γ r v:=by
  intro d hd hb hn;cases hs:BI C.P t with
  |none=>rw[hs] at hn;cases hn
  |some k=>
   rw[hs] at hn;cases hn;simp only[Ez] at hp;split at hp
   .rename_i hk;cases hp;have hl:=run_loadCells_list (P:=C.P) w ⟨b,o,none⟩ (us.take k) (λj v hj=>by
     rw[LG];refine hc j v ?_;rw[B2] at hj;split at hj;.exact hj
     .cases hj)
    have hlen:(us.take k).length=k:=by simp[hv.length];omega
    rw[hlen] at hl;refine⟨.agg (us.take k).toArray,?_,_,rfl,?_,λu hu=>h1 u (AS (by simpa using hu))⟩
    .have bS:(isAgg t).run C.P w= .ok true w:=by unfold isAgg;rw[Sem.run_bind,run_underlying hd w];cases d<;>simp_all
     cases hq:C.P.info? t with
     |none=>simp[BI,hq] at hs
     |some i=>
      have hi:i.size=k:=by simpa[BI,hq] using hs
      simp[Instr.loadAt,Instr.sureAddr,loadVar,bS,sizeOf,typeInfo,hq,hi,hl]
    .simpa using hv.take k
   .cases hp
 split at ht;.rename_i fs hd;exact agg _ hd rfl ht
 .rename_i l e hd;exact agg _ hd rfl ht
 .rename_i d Qz Ya hd;cases ht;simp only[Ez] at hp;obtain⟨u,hu,hr⟩:=hv.get hp;refine⟨u,?_,hr⟩;have bS:(isAgg t).run C.P w= .ok false w:=by unfold isAgg;rw[Sem.run_bind,run_underlying hd w];cases d<;>simp_all
  have Ig:=hc 0 u hu;simp only[Bb] at Ig;simp[Instr.loadAt,Instr.sureAddr,loadVar,bS,Ig]
 .cases ht
def M7{cs:List Aa}{off:Nat}{n:Option Nat}{r:Aa}(h:Ez cs off n=some r):Ez (cs.drop off) 0 n=some r:=by
 cases n with
 |none=>simp only[Ez] at h⊢;rw[Ci];simpa using h
 |some n=>
  simp only[Ez] at h⊢;split at h;.cases h;rw[Ad Ew];simp
  .cases h
def CF.VA(hr:CF C γ0 w0 γ β U h a w){s ver:Nat}{cs:List Aa}{ow:List Nat}(hs:U.at s= .box ver cs ow):
  γ.BB (β s)=some (.zf s)/\w0.heap.size<=β s/\∃us e,w.heap[β s]?=some (.cells us e (0,0))/\AQ γ cs us.toList/\(∀u∈us.toList,u.oneCell'=true)/\
   ∀o∈ow,∃u x,us[o]?=some u/\cs[o]?=some x/\HB γ w0.heap.size w s (some o) u x:=by
 have h0:=hr.fr.GO s;rw[hs] at h0;exact⟨h0.2.1,h0.2.2.1,h0.2.2.2⟩
def Jm(hr:CF C γ0 w0 γ β U h a w){t:TypeId}{n:Option Nat}(ht:Et C.P t=some n){s ver off:Nat}{cs:List Aa}{ow:List Nat}(hs:U.at s= .box ver cs ow){r:Aa}(hp:Ez cs off n=some r):
  ∃v,(Instr.loadAt t (.pointer (some ⟨β s,off,none⟩))).run C.P w= .ok v w/\Bv γ r v/\(n=none->∀us e,w.heap[β s]?=some (.cells us e (0,0))->us[off]?=some v):=by
 obtain⟨_,_,us,e,h1,h2,h3,_⟩:=hr.VA hs;obtain⟨v,c,f⟩:=GY (w:=w) (b:=β s) (o:=off) ht (h2.drop off) (λj u hj=>by rw[cell_of_row w _ _ us e (0,0) h1];rw[Ci] at hj;simpa using hj) (λu hu=>h3 u (Bc hu)) (M7 hp)
 refine⟨v,c,f,λhn C4 g yH=>?_⟩;subst hn;rw[h1] at yH;cases yH;simp only[Ez] at hp;obtain⟨u,hu,_⟩:=h2.get hp;have Ig:w.cell? ⟨β s,off,none⟩=some u:=by rw[cell_of_row w _ _ us e (0,0) h1];simpa using hu
 have bS:∃d,C.P.underlying t=some d/\(isAgg t).run C.P w= .ok false w:=by
  unfold Et at ht;split at ht;.cases hz:BI C.P t<;>rw[hz] at ht<;>cases ht
  .cases hz:BI C.P t<;>rw[hz] at ht<;>cases ht
  .rename_i d Qz Ya hd;refine⟨d,hd,?_⟩;unfold isAgg;rw[Sem.run_bind,run_underlying hd w];cases d<;>simp_all
  .cases ht
 obtain⟨d,hd,bS⟩:=bS;have:(Instr.loadAt t (.pointer (some ⟨β s,off,none⟩))).run C.P w= .ok u w:=by simp[Instr.loadAt,Instr.sureAddr,loadVar,bS,Ig]
 rw[c] at this;cases this;simpa using hu
def CF.zI(hr:CF C γ0 w0 γ β U h a w){s ver off:Nat}{cs:List Aa}{ow:List Nat}(hs:U.at s= .box ver cs ow)(ho:off∈ow)(zJ:off∉ow.erase off)(s':Nat)(c':Option Nat){u:Value}{v:Aa}(hv:cs[off]?=some v)
  (hu:∀us e,w.heap[β s]?=some (.cells us e (0,0))->us[off]?=some u):
  ∃γ',γ.le γ'/\CF C γ0 w0 γ' β (U.set s (.box (ver+1) cs (ow.erase off))) h a w/\HB γ' w0.heap.size w s' c' u v:=by
 have h0:=hr.fr.GO s;rw[hs] at h0;obtain⟨h1,h2,h3,us,e,j,q,p,i⟩:=h0;obtain⟨t,v',d,c,b⟩:=i off ho;rw[hv] at c;cases c;rw[hu us e j] at d;cases d;have Iz:CF C γ0 w0 γ β (U.set s (.box (ver+1) cs (ow.erase off))) h a w:=hr.Yt ⟨h1,h2,h3,us,e,j,q,p,λo' yI=>i o' (List.mem_of_mem_erase yI)⟩;have hl:s<U.length:=Bu.M3 (by rw[hs];simp);rcases b with b|⟨g,n,cap,bF,r,z,Af,o,m,l,f,k⟩
 .exact⟨γ,.refl _,Iz,.inl b⟩
 .refine⟨γ.EU g (.tail s' c' (n*z)),Gd _ _ _,Iz.EU l f (λhn=>by cases hn) (λo' yI Fh FU L5 hb=>?_),.inr ⟨g,n,cap,bF,r,z,Af,o,m,by simp[Gh.EU],f,k⟩⟩;rw[Bu.EB hl] at hb;cases hb;cases yI;exact zJ
def UL{o:Oper}{t:TypeId}{x:Operand}{d:Nat}{take:Bool}{r:D3}{run:IT->Ah->Option IW}{g:Bu}{h':Ah}(ho:o.op= .load t x)(hd:o.dst=some d)(hc:JO C U t x d take=some r)(hp:∃ws,r= .pure ws)
  (E4:r.LD C run (U.drop r.news) h g h') (hr:CF C γ0 w0 γ β U h a w):E0 C γ0 w0 o a w g h':=by
 have KL:∀v,(Instr.loadAt t (a.eval x)).run C.P w= .ok v w->(execOp a.eval o).run C.P w= .ok (.value v) w:=λv hv=>by simp[execOp,ho,hv]
 unfold JO at hc;split at hc;.cases hc;obtain⟨_,e⟩:=hp;cases e
 .rename_i s off ver cs ow ht ha;obtain⟨hs,hx⟩:=Jy hr ha;split at hc
  .rename_i hlt;have WI:cs[off]?=some (cs.getD off .nilIface):=by simp[List.getD,Ak hlt]
   obtain⟨v,b,c,i⟩:=Jm hr ht hs (r:=cs.getD off .nilIface) (off:=off) (by simpa[Ez] using WI);rw[<-hx] at b;simp only at hc;split at hc
   .rename_i Gx;cases hc;rw[Mb Av] at E4;obtain⟨rfl,rfl⟩:=E4;simp only[Bf,Q_] at Gx;obtain⟨⟨j,f⟩,_⟩:=Gx;have f:off∉ow.erase off:=by simpa using f
    obtain⟨γ',D0,F6,hown⟩:=hr.zI hs j f d none WI (i rfl);exact E0.value (KL v b) (by rw[hd];exact F6.put (d:=some d) λs' X9=>by cases X9;exact⟨Bv.mono D0 _ _ c,hown⟩)
   .cases hc;rw[Mb Av] at E4;obtain⟨rfl,rfl⟩:=E4;exact E0.value (KL v b) (by rw[hd];exact hr.put (d:=some d) λ_ _=>c)
  .cases hc
 .rename_i n s off ver cs ow ht ha;obtain⟨hs,hx⟩:=Jy hr ha;split at hc;.rename_i D0;cases hc;rw[Mb Av] at E4;obtain⟨rfl,rfl⟩:=E4;obtain⟨v,b,c,_⟩:=Jm hr ht hs (r:= .agg ((cs.drop off).take n)) (off:=off) (by simp[Ez,D0]);rw[<-hx] at b;exact E0.value (KL v b) (by rw[hd];exact hr.put (d:=some d) λ_ _=>c)
  .cases hc
 .cases hc
def rK{o:Oper}{t:TypeId}{x:Operand}{n:Option Nat}{p r:Aa}(ho:o.op= .load t x)(ht:Et C.P t=some n)(hx:Fe C U x=some (.ptr p))(hl:Bk h n p=some r)(hr:CF C γ0 w0 γ β U h a w):
  E0 C γ0 w0 o a w (U.put o.dst (.val r)) h:=by
 have hv:=OH hr hx;have KL:∀v,(Instr.loadAt t (a.eval x)).run C.P w= .ok v w->(execOp a.eval o).run C.P w= .ok (.value v) w:=λv hv=>by simp[execOp,ho,hv]
 unfold Bk at hl;split at hl
 .rename_i cs;obtain⟨b,k,hv,hm⟩:=hv;obtain⟨us,g,d⟩:=hm.values;obtain⟨v,c,f⟩:=GY (w:=w) ht g (λj u hj=>(hr.Dr.GQ _ _ _ (d j u hj)).1) (λu hu=>by obtain⟨j,hj⟩:=Cq hu;exact(hr.Dr.GQ _ _ _ (d j u hj)).2.1) hl
  rw[<-hv] at c;exact E0.value (KL v c) (hr.put λ_ _=>f)
 .rename_i id off;obtain⟨b,hb,hv⟩:=hv;split at hl
  .rename_i cs hcs;obtain⟨us,e,fr,g,pf,d,i⟩:=hr.Dr.cells id cs hcs b hb;obtain⟨v,c,f⟩:=GY (w:=w) (b:=b) (o:=off) ht (d.drop off) (λj u hj=>by
    rw[cell_of_row w _ _ us e fr g];rw[Ci,B2] at hj;split at hj;.simpa using hj
    .cases hj) (λu hu=>i u (Bc hu)) (M7 hl)
   rw[<-hv] at c;exact E0.value (KL v c) (hr.put λ_ _=>f)
  .cases hl
 .cases hl
end
end Go.Am
end
section
namespace Go.Am
open Go
section
variable{C:Fo}{γ0 γ γ':Gh}{w0 w w':World}{β:Nat->Nat}{U:Bu}{h:Ah}{a:Act}{fid:FuncId}{ops:List Oper}
def D5{b:Nat}{t:TypeId}{fr:Nat×Nat}:∀(vs:List Value) (o:Nat) (cur:Array Value) (w:World),w.heap[b]?=some (.cells cur t fr)->o+vs.length<=cur.size->
  w.setCells b o vs=w.setRow b (cur.toList.take o++vs++cur.toList.drop (o+vs.length)).toArray
 |[],o,cur,w,hg,_=>by simp only[World.setCells,Bi,Bq,Bb,Cd,Array.toArray_toList];exact(setRow_self w b cur t fr hg).symm
 |v::r,o,cur,w,hg,hl=>by simp only[AO] at hl;rw[World.setCells,setCell_eq_setRow w b o cur t fr v hg,D5 r (o+1) _ _ (setRow_heap w b cur _ t fr hg) Ew,setRow_setRow];have e:=list_seg_step cur.toList o v r Ew;simp only[Array.toList_setIfInBounds,AO];rw[e]
def ME{t:TypeId}{n b o:Nat}(hn:BI C.P t=some n){u:Value}(hu:u.cells.size=n)(h1:∀x∈u.cells.toList,x.oneCell'=true){cur:Array Value}{e:TypeId}{fr:Nat×Nat}(hg:w.heap[b]?=some (.cells cur e fr))(gP:Qv fr cur.size)
  (hl:o+n<=cur.size):(Instr.storeAt t (.pointer (some ⟨b,o,none⟩)) u).run C.P w= .ok () (w.setRow b (cur.toList.take o++u.cells.toList++cur.toList.drop (o+n)).toArray):=by
 have hs:=run_storeCells_cells (P:=C.P) b o u.cells.toList 0 w (λj hj=>by
  rw[cell_of_row w _ _ cur e fr hg];simp at hj;rw[B9 Ab];rfl) (λj hj=>by
  simp at hj;simp only[World.frozen?,hg];rcases gP with rfl|gP
  .simp
  .simp;omega) h1
 rw[Bb,D5 _ o cur w hg Ew] at hs;cases hq:C.P.info? t with
 |none=>simp[BI,hq] at hn
 |some i=>
  have hi:i.size=n:=by simpa[BI,hq] using hn
  simp only[BR,hu] at hs;simp[Instr.storeAt,Instr.sureAddr,storeVar,sizeOf,typeInfo,hq,hi,hu,hs]
def S2{Z:Type}{cs vs:List Z}{off n o:Nat}(hl:off+n<=cs.length)(hv:vs.length=n)(ho:¬(off<=o/\o<off+n)):(cs.take off++vs++cs.drop (off+n))[o]?=cs[o]?:=by
 have b:(cs.take off).length=off:=Ew;by_cases h:o<off;.rw[Al (by simp[hv];omega),Al Ab,Ch h]
 .rw[BD (by simp[hv];omega),Ci];congr 1
  simp[hv];omega
def VB{Z:Type}{cs:List Z}{off n:Nat}{x:Z}(hl:off+n<=cs.length):(cs.take off++[x]++cs.drop (off+n))[off]?=some x:=by have b:(cs.take off).length=off:=Ew;rw[Al Ew,BD Ab];simp[b]
def KS{Z:Type}{us vs:List Z}{off n len:Nat}(hl:len<=us.length)(ho:off+n<=len)(hv:vs.length=n):
  (us.take off++vs++us.drop (off+n)).take len=(us.take len).take off++vs++(us.take len).drop (off+n):=by
 have c:(us.take off).length=off:=Ew;have b:(us.take off++vs).length=off+n:=by simp[hv];omega
 rw[gB,AT Ab,b,Gk,Cr Ab,List.drop_take]
def Mg{cs vs:List Aa}{us C4:List Value}{off n:Nat}(h:AQ γ cs us)(h':AQ γ vs C4):AQ γ (cs.take off++vs++cs.drop (off+n)) (us.take off++C4++us.drop (off+n)):=
 ((h.take off).append h').append (h.drop (off+n))
def HB.h_{B s b g:Nat}(hg:γ.BB g=some (.zf s)){c:Option Nat}{v:Value}{u:Aa}(C4:Array Value)(ho:HB γ B w b c v u):HB γ B (w.setRow g C4) b c v u:=by
 rcases ho with ho|⟨g2,n,cap,us,e,z,Af,h1,h2,h3,i,f,d⟩
 .exact .inl ho
 .have hb:g2≠g:=λhe=>by subst he;rw[hg] at h3;cases h3
  exact .inr ⟨g2,n,cap,us,e,z,Af,h1,h2,h3,i,by rw[setRow_other w g g2 C4 hb];exact f,d⟩
def S3(γ:Gh)(w:World)(g:Nat)(us:Array Value):NN g γ w γ (w.setRow g us):=
 ⟨.refl _,λb x hb hx _=>⟨hx,setRow_other w g b us hb⟩⟩
def CF.YG(hr:CF C γ0 w0 γ β U h a w){s ver Fh off n:Nat}{cs:List Aa}{ow:List Nat}(hs:U.at s= .box ver cs ow){vs:List Aa}{C4:List Value}(hv:AQ γ vs C4)(h1:∀u∈C4,u.oneCell'=true)(hn:vs.length=n)
  (hl:off+n<=cs.length) {BB:Bool} (hown:BB=true->∃u x,C4=[u]/\vs=[x]/\HB γ w0.heap.size w s (some off) u x) {us:Array Value} {e:TypeId} (hg:w.heap[β s]?=some (.cells us e (0,0))):
  CF C γ0 w0 γ β (U.set s (.box Fh (SM cs off n vs) (Pd ow off n BB))) h a (w.setRow (β s) (us.toList.take off++C4++us.toList.drop (off+n)).toArray):=by
 have h0:=hr.fr.GO s;rw[hs] at h0;obtain⟨r,c,k,qE,e0,j,i,f,q⟩:=h0;rw[hg] at j;cases j;have hlen:C4.length=n:=by rw[hv.length,hn]
 have YH:off+n<=us.toList.length:=by rw[i.length];exact hl
 have zK:s<U.length:=Bu.M3 (by rw[hs];simp);refine⟨mJ hr.Dr c _,⟨by simp[hr.fr.size],λd=>?_⟩,hr.Dh.write (g:=β s) k (.refl _) Av rfl rfl rfl (λb hb=>⟨setRow_other w _ b _ hb,rfl⟩),hr.defers,hr.FV⟩;by_cases he:d=s
 .subst he;rw[Bu.EB zK];refine⟨r,c,k,_,e,setRow_heap w _ us _ e (0,0) hg,?_,?_,?_⟩;.simpa[SM] using Mg (off:=off) (n:=n) i hv
  .intro u hu;simp only[AA,An] at hu;rcases hu with hu|hu|hu
   .exact f u (AS hu)
   .exact h1 u hu
   .exact f u (Bc hu)
  .intro o ho;have Gq:(BB=true/\o=off)\/(o∈ow/\¬(off<=o/\o<off+n)):=by
    unfold Pd at ho;have hf:o∈ow.filter (λo=> !(decide (off<=o)&&decide (o<off+n)))->o∈ow/\¬(off<=o/\o<off+n):=λhm=>by rw[CU] at hm;refine⟨hm.1,λhc=>?_⟩;have:=hm.2;simp[hc.1,hc.2] at this
    cases BB with
    |true=>
     simp only[BE,Az] at ho;rcases ho with ho|ho
     .exact .inl ⟨rfl,ho⟩
     .exact .inr (hf ho)
    |false=>exact .inr (hf ho)
   rcases Gq with⟨nv,rfl⟩|⟨nv,gS⟩
   .obtain⟨u,x,rfl,rfl,t⟩:=hown nv;exact⟨u,x,by simpa using VB (x:=u) YH,by simpa[SM] using VB (x:=x) hl,t.h_ c _⟩
   .obtain⟨u,x,p,m,l⟩:=q o nv;refine⟨u,x,?_,?_,l.h_ c _⟩;.rw[<-p];have:=S2 YH hlen gS;simpa using this
    .rw[<-m];exact S2 hl hn gS
 .rw[Bu.E6 (λx=>he x.symm)];exact(hr.fr.GO d).keptBut c (S3 γ w _ _) (by simp only[IY.bA];intro hx;cases hx;exact he rfl)
def M8(hr:CF C γ0 w0 γ β U h a w){y:Operand}{v:Aa}(hy:Jt C U y=true)(hv:Ed C U y=some v)(s':Nat)(c':Option Nat):
  ∃γ',γ.le γ'/\CF C γ0 w0 γ' β (U.C7 (CP U y)) h a w/\Bv γ' v (a.eval y)/\HB γ' w0.heap.size w s' c' (a.eval y) v:=by
 unfold Jt at hy;cases hs:Dv C U y with
 |none=>rw[hs] at hy;cases hy
 |some sl=>
  rw[hs] at hy;cases sl with
  |BB u=>
   have b:u=v:=by unfold Ed at hv;rw[hs] at hv;exact DC hv
   subst b;cases y with
   |tmp t=>have ht:U.at t= .BB u:=FY hs;obtain⟨γ',D0,F6,h1,h2⟩:=hr.take ht s' c';exact⟨γ',D0,by simpa[CP,ht,Bu.C7] using F6,h1,h2⟩
   |const c=>
    refine⟨γ,.refl _,hr,Fy hr hv,?_⟩;obtain⟨q,_⟩:=Pl (γ:=γ) (β:=β) (w:=w) hs;unfold Dv at hs;split at hs;.rename_i e;cases e
    .cases hs
    .cases hs;exact .inl (.inl rfl)
    .rename_i IS;cases IS;cases hc:Jl c with
     |none=>rw[hc] at hs;cases hs
     |some _=>rw[hc] at hs;cases hs
    .rename_i e;cases e
    .cases hs
   |global g=>have X9:(C.FV g).map (λcs=>DN.val (Aa.B3 cs))=some (.BB u):=hs;cases hc:C.FV g<;>rw[hc] at X9<;>cases X9
   |func f=>cases hs
  |_=>cases hy
def bT{B s:Nat}{c:Option Nat}{v:Value}{x:Aa}(h:HB γ B w s c v x):x.cells=[x]:=by rcases h with(rfl|⟨_,rfl⟩)|⟨_,_,_,_,_,_,_,rfl,_⟩<;>rfl
def bU{o:Oper}{t:TypeId}{x y:Operand}{s off n ver:Nat}{v:Aa}{BB:Bool}{c:Option (Nat×Aa)}{cells:List Aa}{owned:List Nat}{run:IT->Ah->Option IW}{g:Bu}{h':Ah}(ho:o.op= .store t x y)(hd:o.dst=none)
  (hc:HS C U t x y=some (.Lg s off n v BB c ver cells owned)) (E4:(D3.Lg s off n v BB c ver cells owned).LD C run U h g h') (hr:CF C γ0 w0 γ β U h a w):E0 C γ0 w0 o a w g h':=by
 unfold HS at hc;split at hc;.cases hc
 .rename_i m k s' rL Fh FU L5 v' hsz aJ ha hv;split at hc
  .rename_i hl;simp only[Bs,D3.Lg.injEq] at hc;obtain⟨rfl,rfl,rfl,rfl,hown,UM,rfl,rfl,rfl⟩:=hc;obtain⟨hn,rfl,rfl⟩:=E4;obtain⟨hs,hx⟩:=Jy hr ha;have gT:=Fy hr hv;obtain⟨_,_,us,e,hg,j,l,_⟩:=hr.VA hs;have zK:rL+(m+1)<=us.size:=by have:=j.length;simp at this;omega
   obtain⟨f,d⟩:=Ge gT Ab;have bV:(a.eval y).cells.size=m+1:=by have:=f.length;simp at this;omega
   have Hw:=ME (C:=C) (b:=β s') (o:=rL) hsz bV d hg (.inl rfl) zK;rw[<-hx] at Hw;have KL:(execOp a.eval o).run C.P w= .ok .skip (w.setRow (β s') (us.toList.take rL++(a.eval y).cells.toList++us.toList.drop (rL+(m+1))).toArray):=by simp[execOp,ho,Hw]
   by_cases hw:BB=true
   .subst hw;rw[Ad hown] at UM;subst UM;simp only[Bf] at hown;obtain⟨i,D0,Iz,h1,h2⟩:=M8 hr hown.2 hv s' (some rL);have zk:=bT h2;have KM:(U.C7 (CP U y)).at s'= .box Fh FU L5:=by
     cases y with
     |tmp t'=>
      simp only[CP];cases ht:U.at t' with
      |BB u=>simp only[Bu.C7];rw[Bu.E6 (λe=>by rw[e,hs] at ht;cases ht)];exact hs
      |_=>exact hs
     |_=>exact hs
    have KT:=Iz.YG (Fh:=Fh+1) (BB:=true) (n:=m+1) KM (AQ.mono D0 _ _ f) d hn hl (λ_=>?_) hg;.exact E0.skip KL (by rw[hd];exact KT)
    .have hcl:(a.eval y).cells=#[a.eval y]:=by
      rcases h2 with(h2|⟨z,h2⟩)|⟨_,_,_,_,_,_,_,_,h2,_⟩
      .subst h2;rw[show a.eval y=_ from h1];rfl
      .subst h2;obtain⟨_,h1⟩:=h1;rw[h1];rfl
      .rw[h2];rfl
     exact⟨a.eval y,v',by rw[hcl],zk,h2⟩
   .have ze:BB=false:=by simpa using hw
    subst ze;rw[Ac (by rw[hown];simp)] at UM;subst UM;exact E0.skip KL (by rw[hd];exact hr.YG (Fh:=Fh+1) (BB:=false) hs f d hn hl (λe=>by cases e) hg)
  .cases hc
 .cases hc
def mU{o:Oper}{t:TypeId}{x y:Operand}{n:Nat}{p v:Aa}{h':Ah}(ho:o.op= .store t x y)(hd:o.dst=none)(hsz:BI C.P t=some (n+1))(hx:Fe C U x=some (.ptr p))(hv:Ed C U y=some v)(Hw:CK h (n+1) p v=some h')(hr:CF C γ0 w0 γ β U h a w):
  E0 C γ0 w0 o a w U h':=by
 have ny:=OH hr hx;have gT:=Fy hr hv;unfold CK at Hw;split at Hw
 .rename_i id off;obtain⟨b,hb,c⟩:=ny;split at Hw
  .rename_i cs hcs;split at Hw
   .rename_i hl;cases Hw;obtain⟨us,e,fr,hg,pf,j,i⟩:=hr.Dr.cells id cs hcs b hb;obtain⟨g,f⟩:=Ge gT Ab;have bV:(a.eval y).cells.size=n+1:=by have:=g.length;simp at this;omega
    have hlt:cs.length<=us.size:=by have:=j.length;simp at this;omega
    have zK:off+(n+1)<=us.size:=Ab;have AH:=ME (C:=C) (b:=b) (o:=off) hsz bV f hg pf zK;rw[<-c] at AH;obtain⟨hi,ha⟩:=LB hr.Dr hcs hb hg (us.toList.take off++(a.eval y).cells.toList++us.toList.drop (off+(n+1))).toArray (cs.take off++v.cells++cs.drop (off+(n+1)))
     (by simp only[Bx,Ap,Aw,A5,BR,bV];omega)
     (by
      rcases pf with rfl|pf
      .exact .inl rfl
      .refine .inr (Bj (HF ?_) pf);simp only[Bx,Ap,Aw,A5,BR,bV];omega)
     (by
      have:=Mg (off:=off) (n:=n+1) j g;rw[<-KS (by simpa using hlt) hl.2 (by simpa using bV)] at this;have d:(cs.take off++v.cells++cs.drop (off+(n+1))).length=cs.length:=by simp[hl.1];omega
      rw[d];simpa using this) (λu hu=>by
      have d:(cs.take off++v.cells++cs.drop (off+(n+1))).length=cs.length:=by simp[hl.1];omega
      rw[d] at hu;simp only[Jg] at hu;rw[KS (by simpa using hlt) hl.2 (by simpa using bV)] at hu;simp only[AA,An] at hu;rcases hu with hu|hu|hu
      .exact i u (AS hu)
      .exact f u hu
      .exact i u (Bc hu))
    have KL:(execOp a.eval o).run C.P w= .ok .skip (w.setRow b (us.toList.take off++(a.eval y).cells.toList++us.toList.drop (off+(n+1))).toArray):=by simp[execOp,ho,AH]
    exact E0.skip KL (by rw[hd];exact hr.world hi ha)
   .cases Hw
  .cases Hw
 .cases Hw
def CF.freeze(hr:CF C γ0 w0 γ β U h a w){s ver:Nat}{cs:List Aa}{ow:List Nat}(hs:U.at s= .box ver cs ow):
  ∃γ',γ.le γ'/\CF C γ0 w0 γ' β (U.set s (.val (.B3 cs))) h a w/\Bv γ' (.B3 cs) (a.tmps.getD s undef):=by
 have h0:=hr.fr.GO s;rw[hs] at h0;obtain⟨A,f,D,us,e,z,t,m,B⟩:=h0;have zK:s<U.length:=Bu.M3 (by rw[hs];simp);have rA:∀o,γ.GQ (β s) o=none:=λo=>by
  cases hc:γ.GQ (β s) o with
  |none=>rfl
  |some u=>obtain⟨_,_,q⟩:=hr.Dr.GQ _ _ _ hc;rw[f] at q;rcases q with q|⟨_,_,_,q,_⟩<;>cases q
 have D0:γ.le (γ.CT (β s) us us.size none):=⟨λb o v hb=>by
  have:b≠β s:=λe=>by rw[e,rA] at hb;cases hb
  simp only[Gh.CT,Ac this];exact hb,λ_ _ hm=>hm,λ_ _ hm=>hm⟩
 have hne:∀b id,γ.BB b=some (.KJ id)->b≠β s:=λb id hb e=>by rw[e,f] at hb;cases hb
 have hk:NN (β s) γ w (γ.CT (β s) us us.size none) w:=⟨D0,λb x hb hx _=>⟨by simp only[Gh.CT,Ac hb];exact hx,rfl⟩⟩;have hv:Bv (γ.CT (β s) us us.size none) (.B3 cs) (a.tmps.getD s undef):=by
  refine⟨β s,0,A,Cz.FX λi x hi=>?_⟩;obtain⟨u,d,c⟩:=t.get hi;have hlt:i<us.size:=by have:=(Ai.1 d).1;simpa using this
  exact⟨u,by simp only[Gh.CT,BE,By,Ad hlt];simpa using d,Bv.mono D0 _ _ c⟩
 have nz:∀b n,γ.sz b=some n->(∃us e fr,w.heap[b]?=some (.cells us e fr)/\us.size=n)/\((γ.CT (β s) us us.size none).BB b=none\/∃id,(γ.CT (β s) us us.size none).BB b=some (.KJ id)):=λb n hb=>by
  obtain⟨p,r⟩:=hr.Dr.sz b n hb;by_cases he:b=β s;.subst he;exact⟨p,.inl (by simp[Gh.CT])⟩
  .exact⟨p,by simp only[Gh.CT,Ac he];exact r⟩
 refine⟨_,D0,⟨⟨λb o v hb=>?_,λid y Hn hy=>?_,λid FU hc b hb=>?_,λid es hc b hb=>?_,hr.Dr.mu,λb x hx=>?_,nz⟩,⟨by simp[hr.fr.size],λj=>?_⟩,?_,hr.defers,λx FU hx=>Cz.mono D0 _ _ _ (hr.FV x FU hx)⟩,hv⟩
 .by_cases he:b=β s
  .subst he;simp only[Gh.CT,BE] at hb⊢;split at hb;.exact⟨by rw[cell_of_row _ _ _ us e (0,0) z];exact hb,m v (by rw[Aq] at hb;obtain⟨p,q⟩:=hb;rw[<-q];exact Array.getElem_mem_toList p),.inl Av⟩
   .cases hb
  .simp only[Gh.CT,Ac he] at hb⊢;exact hr.Dr.GQ b o v hb
 .obtain⟨b,d,c⟩:=hr.Dr.KJ id y Hn hy;exact⟨b,d,by simp only[Gh.CT,Ac (hne b id c)];exact c⟩
 .obtain⟨C4,g,mI,d,k,c,l⟩:=hr.Dr.cells id FU hc b hb;exact⟨C4,g,mI,d,k,AQ.mono D0 _ _ c,l⟩
 .obtain⟨C4,g,d,c⟩:=hr.Dr.map id es hc b hb;exact⟨C4,g,d,c.mono D0⟩
 .by_cases he:b=β s;.subst he;exact hr.Dr.BB _ _ f
  .simp only[Gh.CT,Ac he] at hx;exact hr.Dr.BB b x hx
 .by_cases he:j=s;.subst he;rw[Bu.EB zK];exact hv
  .rw[Bu.E6 (λx=>he x.symm)];exact(hr.fr.GO j).keptBut f hk (by simp only[IY.bA];intro hx;cases hx;exact he rfl)
 .refine⟨hr.Dh.le.trans D0,hr.Dh.size,hr.Dh.os,hr.Dh.tape,hr.Dh.output,λb hb hn=>?_⟩;obtain⟨d,c⟩:=hr.Dh.Iy b hb hn;exact⟨d,by simp only[Gh.CT,Ac (Ab:b≠β s)];exact c⟩
def CF.QA:∀{fz:List (Nat×List Aa)} {γ:Gh} {U:Bu},CF C γ0 w0 γ β U h a w->(∀p∈fz,∃ver ow,U.at p.1= .box ver p.2 ow)->(fz.map (·.1)).Nodup->
  ∃γ',γ.le γ'/\CF C γ0 w0 γ' β (U.DE (fz.map λ(s,cs)=>(s,.val (.B3 cs)))) h a w/\∀p∈fz,Bv γ' (.B3 p.2) (a.tmps.getD p.1 undef)
 |[],γ,U,hr,_,_=>⟨γ,.refl _,hr,Av⟩
 |(s,cs)::fz,γ,U,hr,hb,hn=>by
  simp only[Be,BC] at hn;obtain⟨ver,ow,hs⟩:=hb (s,cs) Av;obtain⟨c,aA8,Iz,rM⟩:=hr.freeze hs;obtain⟨b,YI,KT,YJ⟩:=QA (fz:=fz) Iz (λp hp=>by obtain⟨Fh,L5,zh⟩:=hb p (by simp[hp]);refine⟨Fh,L5,?_⟩;rw[Bu.E6 (λe=>hn.1 (by rw[show s=p.1 from e];exact A3.2 ⟨p,hp,rfl⟩))];exact zh) hn.2
  refine⟨b,aA8.trans YI,KT,λp hp=>?_⟩;rcases Az.1 hp with rfl|hp
  .exact Bv.mono YI _ _ rM
  .exact YJ p hp
def Ll:∀{xs:List Operand} {vs:List Aa} {fz:List (Nat×List Aa)},Ff C U xs=some (vs,fz)->
  (∀p∈fz,∃ver ow,U.at p.1= .box ver p.2 ow)/\(fz.map (·.1)).Nodup/\
  ∀γ',(∀x u,Ed C U x=some u->Bv γ' u (a.eval x))->(∀p∈fz,Bv γ' (.B3 p.2) (a.tmps.getD p.1 undef))->AQ γ' vs (xs.map a.eval)
 |[],vs,fz,hc=>by cases hc;exact⟨Av,Av,λ_ _ _=>rfl⟩
 |x::xs,vs,fz,hc=>by
  unfold Ff at hc;split at hc;.cases hc
  .rename_i GJ e d;obtain⟨h1,h2,h3⟩:=Ll d;split at hc
   .rename_i s ver cs ow hs;split at hc;.cases hc
    .rename_i hn;cases hc;have hsb:U.at s= .box ver cs ow:=FY hs;refine⟨λp hp=>?_,?_,λγ' c b=>?_⟩
     .rcases Az.1 hp with rfl|hp
      .exact⟨ver,ow,hsb⟩
      .exact h1 p hp
     .simp only[Be,BC];exact⟨by simpa using hn,h2⟩
     .exact⟨_,_,rfl,b (s,cs) Av,h3 γ' c λp hp=>b p (by simp[hp])⟩
   .rename_i sl _ hs;cases hv:sl.Ga with
    |none=>rw[hv] at hc;cases hc
    |some u=>rw[hv] at hc;cases hc;exact⟨h1,h2,λγ' c b=>⟨_,_,rfl,c _ u (by unfold Ed;rw[hs];exact hv),h3 γ' c b⟩⟩
   .cases hc
def YK{o:Oper}{fn:Fn}{first captured:Array Operand}{d:Nat}{as bs:List Aa}{fz:List (Nat×List Aa)}(ho:o.op= .makeFunc fn first captured)(hd:o.dst=some d)(ha:A9 C U first.toList=some as)(hb:Ff C U captured.toList=some (bs,fz))(hr:CF C γ0 w0 γ β U h a w):
  E0 C γ0 w0 o a w (((U.drop (fz.map (·.1))).DE (fz.map λ(s,cs)=>(s,.val (.B3 cs)))).set d (.val (.func fn as bs))) h:=by
 obtain⟨h1,h2,h3⟩:=Ll (a:=a) hb;obtain⟨γ',D0,F6,hv⟩:=(hr.drop (fz.map (·.1))).QA (fz:=fz) (λp hp=>by obtain⟨ver,ow,hs⟩:=h1 p hp;exact⟨ver,ow,by rw[Bu.Pp,hs]⟩) h2
 refine E0.value (w':=w) (v:= .func fn (first.map a.eval) (captured.map a.eval)) (by simp[execOp,ho,Instr.makeFunc]) (by rw[hd];exact F6.put (d:=some d) λ_ _=>⟨_,_,rfl,by simpa using AQ.mono D0 _ _ (Di hr ha),by simpa using h3 γ' (λx u hx=>Bv.mono D0 _ _ (Fy hr hx)) hv⟩)
end
end Go.Am
end
