/- Lemmas -/
import Derived.Test.YtjjnhgoknielgaaGreatDoorW3
import Derived.Laws.IdiomCopy
set_option linter.all false
section
namespace Go.Am
open Go
def xd(β:Nat->Nat)(d b:Nat):Nat->Nat:=λs=>if s=d then b else β s
def Ll.sP:Ll->Option Nat
 | .NH _=>none
 | .loc s=>some s
 | .tail s _ _=>some s
structure Rt(g:Nat)(γ:Gh)(w:World)(γ':Gh)(w':World):Prop where
 le:γ.le γ'
 Pm:∀b x,b≠g->γ.BU b=some x->x.yw=false->γ'.BU b=some x/\w'.heap[b]?=w.heap[b]?
section
variable{C:Gw}{γ0 γ γ':Gh}{w0 w w':World}{β:Nat->Nat}{U:BT}{h:Ai}{a:Act}{fid:FuncId}{ops:List Oper}
def BT.WT(U:BT)(ds:List Nat)(s:Nat):(U.drop ds).at s=match U.at s with| .FD t o=>if ds.contains t then .undef else .FD t o|x=>x:=by
 cases ds with
 |nil=>simp only[BT.drop,List.contains_nil];cases U.at s<;>simp
 |cons d ds=>
  simp only[BT.drop,BT.at,List.getD,Dt];cases hg:U[s]? with
  |none=>rfl
  |some x=>cases x<;>rfl
def BT.length_drop(U:BT)(ds:List Nat):(U.drop ds).length=U.length:=by cases ds<;>simp[BT.drop]
def MC.aNj{B s d b:Nat}{x:ER}{v:Value}(hx:MC γ β B w s x v)(hn:∀o,x≠ .FD d o)(hs:s≠d):MC γ (xd β d b) B w s x v:=by
 cases x with
 |box ver cs ow=>simpa only[MC,xd,Aa hs] using hx
 |FD t o=>have:t≠d:=λe=>hn o (by rw[e]);simpa only[MC,xd,Aa this] using hx
 |_=>exact hx
def J1.keptBut{g B s:Nat}{b:Ll}(hg:γ.BU g=some b)(k:Rt g γ w γ' w')(hne:b.sP≠some s){c:Option Nat}{v:Value}{u:Ab}(ho:J1 γ B w s c v u):J1 γ' B w' s c v u:=by
 rcases ho with ho|⟨g2,n,cap,us,e,z,Ay,h1,h2,h3,l,j,i⟩
 .exact .inl ho
 .have hb:g2≠g:=λhe=>by subst he;rw[hg] at h3;cases h3;exact hne rfl
  obtain⟨f,d⟩:=k.Pm g2 _ hb h3 rfl;exact .inr ⟨g2,n,cap,us,e,z,Ay,h1,h2,f,l,by rw[d];exact j,i⟩
def MC.keptBut{g B s:Nat}{d:Ll}(hg:γ.BU g=some d)(k:Rt g γ w γ' w')(hne:d.sP≠some s){x:ER}{v:Value}(hx:MC γ β B w s x v):MC γ' β B w' s x v:=by
 cases x with
 |undef=>trivial
 |skip=>exact hx
 |val u=>exact BQ.mono k.le u v hx
 |Qk b=>exact hx
 |BU u=>exact⟨BQ.mono k.le u v hx.1,hx.2.keptBut hg k hne⟩
 |box ver cs ow=>
  obtain⟨r,c,q,us,e,p,n,m,l⟩:=hx;have hb:β s≠g:=λhe=>by rw[he,hg] at c;cases c;exact hne rfl
  obtain⟨y,t⟩:=k.Pm _ _ hb c rfl;exact⟨r,y,q,us,e,by rw[t];exact p,Bc.mono k.le cs _ n,m,λo ho=>let⟨u,v,j,i,f⟩:=l o ho;⟨u,v,j,i,f.keptBut hg k hne⟩⟩
 |FD s' o=>exact hx
def Df.ze(hr:Df C γ0 w0 γ β U h a w)(d:Nat)(us:Array Value)(e:TypeId)(cells:List Ab)(ow:List Nat)(hc:Bc γ cells us.toList)(h1:∀u∈us.toList,u.oneCell'=true)
  (how:∀o∈ow,cells[o]?=some .slnil):
  ∃γ' b,Df C γ0 w0 γ' b ((U.drop [d]).set d (.box 0 cells ow)) h (a.put (some d) (.pointer (some ⟨w.heap.size,0,none⟩))) (w.alloc (.cells us e)):=by
 obtain⟨hi,ha⟩:=Qw hr.Ee us e (0,0) 0 (some (.loc d)) (λ_ _ ho=>absurd ho (Nat.not_lt_zero _)) (.inr (.inr ⟨rfl,AB⟩));have KF:=(hr.drop [d]).JO hi ha;refine⟨_,xd β d w.heap.size,KF.Ee,⟨by simp[Act.put,KF.fr.size],λs=>?_⟩,KF.D8,KF.defers,KF.HO⟩;have hs:=KF.fr.IZ s;by_cases he:s=d
 .subst he;by_cases hl:s<(U.drop [s]).length
  .have c:s<a.tmps.size:=by rw[<-KF.fr.size];exact hl
   rw[BT.FT hl];have i:(a.put (some s) (.pointer (some ⟨w.heap.size,0,none⟩))).tmps.getD s undef= .pointer (some ⟨w.heap.size,0,none⟩):=by simp[Act.put,Array.getD,c]
   rw[i];refine⟨by simp[xd],by simp[xd,Gh.Dz],?_,us,e,?_,Bc.mono ha.le _ _ hc,h1,λo ho=>?_⟩;.simp only[xd,BN];exact hr.D8.size
   .simp only[xd,BN];exact heap_alloc_new w _
   .have hco:=how o ho;obtain⟨u,f,j⟩:=hc.get hco;exact⟨u,.slnil,by simpa using f,hco,.inl (.inl rfl)⟩
  .have:BT.at ((U.drop [s]).set s (.box 0 cells ow)) s= .undef:=by simp[BT.at,List.getD];rw[En (by simpa using hl)];rfl
   rw[this];trivial
 .rw[BT.Gx (λe=>he e.symm)];have g:(a.put (some d) (.pointer (some ⟨w.heap.size,0,none⟩))).tmps.getD s undef=a.tmps.getD s undef:=by simp[Act.put,HI,sM (λe=>he e.symm)]
  rw[g];refine hs.aNj (λo ho=>?_) he;rw[BT.WT] at ho;cases hx:U.at s with
  |FD t o'=>
   rw[hx] at ho;simp only at ho;split at ho;.cases ho
   .rename_i hc;cases ho;exact hc AB
  |_=>rw[hx] at ho;cases ho
def IJ{P:Program}{t:TypeId}{z:Ab}(hz:HB P t=some z):∃v,LV v=some z/\∀w,(zeroValue t).run P w= .ok v w:=by
 unfold HB at hz;cases hi:P.info? t with
 |none=>rw[hi] at hz;cases hz
 |some i=>
  rw[hi] at hz;cases hv:i.zero with
  |none=>simp[hv] at hz
  |some v=>simp only[Cx,hv] at hz;exact⟨v,hz,λw=>by simp[zeroValue,typeInfo,hi,hv]⟩
def tF{cs:List Ab}{o:Nat}(h:o∈XK cs):cs[o]?=some .slnil:=by
 simp only[XK,BE,List.mem_range] at h;obtain⟨h1,h2⟩:=h;simp only[List.getD,Av h1,Fx] at h2;rw[Av h1];split at h2;.rename_i he;rw[he]
 .cases h2
def Gl(C:Gw)(γ0:Gh)(w0:World)(o:Oper)(a:Act)(w:World)(c:BT)(h':Ai):Prop:=
 ∃γ' b w',(∃v,(execOp a.eval o).run C.P w= .ok (.value v) w'/\Df C γ0 w0 γ' b c h' (a.put o.dst v) w')\/((execOp a.eval o).run C.P w= .ok .skip w'/\Df C γ0 w0 γ' b c h' (a.put o.dst undef) w')
def Gl.value{o:Oper}{c:BT}{h':Ai}{b:Nat->Nat}{v:Value}(he:(execOp a.eval o).run C.P w= .ok (.value v) w')(hr:Df C γ0 w0 γ' b c h' (a.put o.dst v) w'):Gl C γ0 w0 o a w c h':=⟨γ',b,w',.inl ⟨v,he,hr⟩⟩
def Gl.skip{o:Oper}{c:BT}{h':Ai}{b:Nat->Nat}(he:(execOp a.eval o).run C.P w= .ok .skip w')(hr:Df C γ0 w0 γ' b c h' (a.put o.dst undef) w'):Gl C γ0 w0 o a w c h':=⟨γ',b,w',.inr ⟨he,hr⟩⟩
def X0{o:Oper}{t:TypeId}{d:Nat}{z:Ab}(ho:o.op= .alloc t)(hd:o.dst=some d)(hz:HB C.P t=some z)(hn:z.cells≠[])(hr:Df C γ0 w0 γ β U h a w):
  Gl C γ0 w0 o a w ((U.drop [d]).set d (.box 0 z.cells (XK z.cells))) h:=by
 obtain⟨v,hv,AR⟩:=IJ hz;obtain⟨e,c⟩:=HW (γ:=γ) (FQ hv) (CB.2 hn);obtain⟨γ',b,Ib⟩:=hr.ze d v.cells t z.cells (XK z.cells) e c (λo=>tF);refine Gl.value (v:= .pointer (some ⟨w.heap.size,0,none⟩)) ?_ (by rw[hd];exact Ib);simp[execOp,ho,Instr.alloc,AR,newVar,newRow]
def fZ{o:Oper}{t:TypeId}{x:Operand}{d n:Nat}{v:Ab}(ho:o.op= .box t x)(hd:o.dst=some d)(hx:Fi C U x=some v)(hv:v.cells.length=n)(hn:n≠0)(hr:Df C γ0 w0 γ β U h a w):
  Gl C γ0 w0 o a w ((U.drop [d]).set d (.box 0 v.cells [])) h:=by
 obtain⟨e,c⟩:=HW (He hr hx) Ac;obtain⟨γ',b,Ib⟩:=hr.ze d (a.eval x).cells t v.cells [] e c AB;refine Gl.value (v:= .pointer (some ⟨w.heap.size,0,none⟩)) ?_ (by rw[hd];exact Ib);simp[execOp,ho,Instr.box,newVar,newRow]
def Df.newObj(hr:Df C γ0 w0 γ β U h a w)(us:Array Value)(e:TypeId)(fr:Nat×Nat)(cells:List Ab)(XU:UM fr us.size)(hc:Bc γ cells (us.toList.take cells.length))(h1:∀u∈us.toList.take cells.length,u.oneCell'=true):
  ∃γ',γ.le γ'/\γ'.mu h.length=some w.heap.size/\Df C γ0 w0 γ' β U (h++[.cells cells]) a (w.alloc (.cells us e fr))/\γ'.sz w.heap.size=some us.size:=by
 obtain⟨hi,ha⟩:=Po hr.Ee (.cells us e fr) (.cells cells) (some us.size) (.inl ⟨cells,us,e,fr,rfl,rfl,XU,hc,h1,rfl⟩);exact⟨_,ha.le,by simp[Gh.BV],hr.JO hi ha,by simp[Gh.BV]⟩
def X1{o:Oper}{t:TypeId}{z:Ab}{d:Option Nat}(ho:o.op= .alloc t)(hd:o.dst=d)(hz:HB C.P t=some z)(hn:z.cells.length≠0)(hr:Df C γ0 w0 γ β U h a w):
  Gl C γ0 w0 o a w (U.put d (.val (.ptr (some (h.length,0))))) (h++[.cells z.cells]):=by
 obtain⟨v,hv,AR⟩:=IJ hz;obtain⟨b,c⟩:=HW (γ:=γ) (FQ hv) Ac;obtain⟨γ',E0,hm,Ib,_⟩:=hr.newObj v.cells t (0,0) z.cells (.inl rfl) (by rw[Bf (by rw[b.length];exact Ad _)];exact b) (λu hu=>c u (A9 hu));refine Gl.value (v:= .pointer (some ⟨w.heap.size,0,none⟩)) ?_ (by rw[hd];exact Ib.put λs _=>⟨_,hm,rfl⟩);simp[execOp,ho,Instr.alloc,AR,newVar,newRow]
def gA{o:Oper}{t:TypeId}{x:Operand}{d:Option Nat}{v:Ab}(ho:o.op= .box t x)(hd:o.dst=d)(hx:Fi C U x=some v)(hn:v.cells.length≠0)(hr:Df C γ0 w0 γ β U h a w):
  Gl C γ0 w0 o a w (U.put d (.val (.ptr (some (h.length,0))))) (h++[.cells v.cells]):=by
 obtain⟨b,c⟩:=HW (He hr hx) Ac;obtain⟨γ',E0,hm,Ib,_⟩:=hr.newObj (a.eval x).cells t (0,0) v.cells (.inl rfl) (by rw[Bf (by rw[b.length];exact Ad _)];exact b) (λu hu=>c u (A9 hu));refine Gl.value (v:= .pointer (some ⟨w.heap.size,0,none⟩)) ?_ (by rw[hd];exact Ib.put λs _=>⟨_,hm,rfl⟩);simp[execOp,ho,Instr.box,newVar,newRow]
def Mb(hr:Df C γ0 w0 γ β U h a w){x:Operand}{s o ver:Nat}{cs:List Ab}{ow:List Nat}(hx:GF C U x=some (.Qt s o ver cs ow)):
  U.at s= .box ver cs ow/\a.eval x= .pointer (some ⟨β s,o,none⟩):=by
 unfold GF at hx;split at hx;.rename_i s' GH Hz Pe hs;cases hx;have h0:=Ts hr s;rw[HD hs] at h0;exact⟨HD hs,h0.1⟩
 .rename_i s' o' _ hs;split at hx;.rename_i hb;cases hx;obtain⟨t,h1,_⟩:=GJ hr hs;exact⟨hb,h1⟩
  .cases hx
 .rename_i sl _ _ hs;cases hv:sl.HT with
  |none=>rw[hv] at hx;cases hx
  |some u=>rw[hv] at hx;cases hx
 .cases hx
def SA(hr:Df C γ0 w0 γ β U h a w){x:Operand}{p:Ab}(hx:GF C U x=some (.ptr p)):BQ γ p (a.eval x):=by
 unfold GF at hx;split at hx;.cases hx
 .split at hx<;>cases hx
 .rename_i sl _ _ hs;cases hv:sl.HT with
  |none=>rw[hv] at hx;cases hx
  |some u=>rw[hv] at hx;cases hx;obtain⟨t,h1,_⟩:=GJ hr hs;exact OE h1 hv
 .cases hx
def Je{t:TypeId}{n:Option Nat}(ht:FL C.P t=some n){cs:List Ab}{us:List Value}{b o:Nat}(hv:Bc γ cs us)(hc:∀(j:Nat) (u:Value),us[j]?=some u->w.cell? ⟨b,o+j,none⟩=some u)(h1:∀u∈us,u.oneCell'=true)
  {r:Ab} (hp:FN cs 0 n=some r):∃v,(Instr.loadAt t (.pointer (some ⟨b,o,none⟩))).run C.P w= .ok v w/\BQ γ r v:=by
 unfold FL at ht;have Nf:∀j,(⟨b,o,none⟩:Addr).add j=⟨b,o+j,none⟩:=λj=>by unfold Addr.add;split<;>simp_all
 have agg:∀d,C.P.underlying t=some d->(match d with| .struct _| .array _ _=>true|_=>false)=true->(B1 C.P t).map some=some n->
   ∃v,(Instr.loadAt t (.pointer (some ⟨b,o,none⟩))).run C.P w= .ok v w/\BQ γ r v:=by
  intro d hd hb hn;cases hs:B1 C.P t with
  |none=>rw[hs] at hn;cases hn
  |some k=>
   rw[hs] at hn;cases hn;simp only[FN] at hp;split at hp
   .rename_i hk;cases hp;have hl:=run_loadCells_list (P:=C.P) w ⟨b,o,none⟩ (us.take k) (λj v hj=>by
     rw[Nf];refine hc j v ?_;rw[CA] at hj;split at hj;.exact hj
     .cases hj)
    have hlen:(us.take k).length=k:=by simp[hv.length];omega
    rw[hlen] at hl;refine⟨.agg (us.take k).toArray,?_,_,rfl,?_,λu hu=>h1 u (A9 (by simpa using hu))⟩
    .have tG:(isAgg t).run C.P w= .ok true w:=by unfold isAgg;rw[Sem.run_bind,run_underlying hd w];cases d<;>simp_all
     cases hq:C.P.info? t with
     |none=>simp[B1,hq] at hs
     |some i=>
      have hi:i.size=k:=by simpa[B1,hq] using hs
      simp[Instr.loadAt,Instr.sureAddr,loadVar,tG,sizeOf,typeInfo,hq,hi,hl]
    .simpa using hv.take k
   .cases hp
 split at ht;.rename_i fs hd;exact agg _ hd rfl ht
 .rename_i l e hd;exact agg _ hd rfl ht
 .rename_i d Tx mQ hd;cases ht;simp only[FN] at hp;obtain⟨u,hu,hr⟩:=hv.get hp;refine⟨u,?_,hr⟩;have tG:(isAgg t).run C.P w= .ok false w:=by unfold isAgg;rw[Sem.run_bind,run_underlying hd w];cases d<;>simp_all
  have Kv:=hc 0 u hu;simp only[BB] at Kv;simp[Instr.loadAt,Instr.sureAddr,loadVar,tG,Kv]
 .cases ht
def QB{cs:List Ab}{off:Nat}{n:Option Nat}{r:Ab}(h:FN cs off n=some r):FN (cs.drop off) 0 n=some r:=by
 cases n with
 |none=>simp only[FN] at h⊢;rw[CE];simpa using h
 |some n=>
  simp only[FN] at h⊢;split at h;.cases h;rw[Ae EE];simp
  .cases h
def Df.cK(hr:Df C γ0 w0 γ β U h a w){s ver:Nat}{cs:List Ab}{ow:List Nat}(hs:U.at s= .box ver cs ow):
  γ.BU (β s)=some (.loc s)/\w0.heap.size<=β s/\∃us e,w.heap[β s]?=some (.cells us e (0,0))/\Bc γ cs us.toList/\(∀u∈us.toList,u.oneCell'=true)/\
   ∀o∈ow,∃u x,us[o]?=some u/\cs[o]?=some x/\J1 γ w0.heap.size w s (some o) u x:=by
 have h0:=hr.fr.IZ s;rw[hs] at h0;exact⟨h0.2.1,h0.2.2.1,h0.2.2.2⟩
def LW(hr:Df C γ0 w0 γ β U h a w){t:TypeId}{n:Option Nat}(ht:FL C.P t=some n){s ver off:Nat}{cs:List Ab}{ow:List Nat}(hs:U.at s= .box ver cs ow){r:Ab}(hp:FN cs off n=some r):
  ∃v,(Instr.loadAt t (.pointer (some ⟨β s,off,none⟩))).run C.P w= .ok v w/\BQ γ r v/\(n=none->∀us e,w.heap[β s]?=some (.cells us e (0,0))->us[off]?=some v):=by
 obtain⟨_,_,us,e,h1,h2,h3,_⟩:=hr.cK hs;obtain⟨v,f,g⟩:=Je (w:=w) (b:=β s) (o:=off) ht (h2.drop off) (λj u hj=>by rw[cell_of_row w _ _ us e (0,0) h1];rw[CE] at hj;simpa using hj) (λu hu=>h3 u (A6 hu)) (QB hp)
 refine⟨v,f,g,λhn DS i c=>?_⟩;subst hn;rw[h1] at c;cases c;simp only[FN] at hp;obtain⟨u,hu,_⟩:=h2.get hp;have Kv:w.cell? ⟨β s,off,none⟩=some u:=by rw[cell_of_row w _ _ us e (0,0) h1];simpa using hu
 have tG:∃d,C.P.underlying t=some d/\(isAgg t).run C.P w= .ok false w:=by
  unfold FL at ht;split at ht;.cases hz:B1 C.P t<;>rw[hz] at ht<;>cases ht
  .cases hz:B1 C.P t<;>rw[hz] at ht<;>cases ht
  .rename_i d Tx mQ hd;refine⟨d,hd,?_⟩;unfold isAgg;rw[Sem.run_bind,run_underlying hd w];cases d<;>simp_all
  .cases ht
 obtain⟨d,hd,tG⟩:=tG;have:(Instr.loadAt t (.pointer (some ⟨β s,off,none⟩))).run C.P w= .ok u w:=by simp[Instr.loadAt,Instr.sureAddr,loadVar,tG,Kv]
 rw[f] at this;cases this;simpa using hu
def Df.aAf(hr:Df C γ0 w0 γ β U h a w){s ver off:Nat}{cs:List Ab}{ow:List Nat}(hs:U.at s= .box ver cs ow)(ho:off∈ow)(tH:off∉ow.erase off)(s':Nat)(c':Option Nat){u:Value}{v:Ab}(hv:cs[off]?=some v)
  (hu:∀us e,w.heap[β s]?=some (.cells us e (0,0))->us[off]?=some u):
  ∃γ',γ.le γ'/\Df C γ0 w0 γ' β (U.set s (.box (ver+1) cs (ow.erase off))) h a w/\J1 γ' w0.heap.size w s' c' u v:=by
 have h0:=hr.fr.IZ s;rw[hs] at h0;obtain⟨h1,h2,h3,us,e,j,q,p,i⟩:=h0;obtain⟨t,v',d,c,b⟩:=i off ho;rw[hv] at c;cases c;rw[hu us e j] at d;cases d;have KF:Df C γ0 w0 γ β (U.set s (.box (ver+1) cs (ow.erase off))) h a w:=hr.nE ⟨h1,h2,h3,us,e,j,q,p,λo' Ů=>i o' (List.mem_of_mem_erase Ů)⟩;have hl:s<U.length:=BT.Qx (by rw[hs];simp);rcases b with b|⟨g,n,cap,sR,r,z,Ay,o,m,l,f,k⟩
 .exact⟨γ,.refl _,KF,.inl b⟩
 .refine⟨γ.Gg g (.tail s' c' (n*z)),HV _ _ _,KF.Gg l f (λhn=>by cases hn) (λo' Ů GH Hz Pe hb=>?_),.inr ⟨g,n,cap,sR,r,z,Ay,o,m,by simp[Gh.Gg],f,k⟩⟩;rw[BT.FT hl] at hb;cases hb;cases Ů;exact tH
def aJ{o:Oper}{t:TypeId}{x:Operand}{d:Nat}{take:Bool}{r:E2}{run:IT->Ai->Option KE}{g:BT}{h':Ai}(ho:o.op= .load t x)(hd:o.dst=some d)(hc:MB C U t x d take=some r)(hp:∃ws,r= .pure ws)
  (Gt:r.OD C run (U.drop r.news) h g h') (hr:Df C γ0 w0 γ β U h a w):Gl C γ0 w0 o a w g h':=by
 have NJ:∀v,(Instr.loadAt t (a.eval x)).run C.P w= .ok v w->(execOp a.eval o).run C.P w= .ok (.value v) w:=λv hv=>by simp[execOp,ho,hv]
 unfold MB at hc;split at hc;.cases hc;obtain⟨_,e⟩:=hp;cases e
 .rename_i s off ver cs ow ht ha;obtain⟨hs,hx⟩:=Mb hr ha;split at hc
  .rename_i hlt;have gB:cs[off]?=some (cs.getD off .nilIface):=by simp[List.getD,Av hlt]
   obtain⟨v,b,c,i⟩:=LW hr ht hs (r:=cs.getD off .nilIface) (off:=off) (by simpa[FN] using gB);rw[<-hx] at b;simp only at hc;split at hc
   .rename_i Iz;cases hc;rw[Pp AB] at Gt;obtain⟨rfl,rfl⟩:=Gt;simp only[Bg,aII] at Iz;obtain⟨⟨j,f⟩,_⟩:=Iz;have f:off∉ow.erase off:=by simpa using f
    obtain⟨γ',E0,Ib,F8⟩:=hr.aAf hs j f d none gB (i rfl);exact Gl.value (NJ v b) (by rw[hd];exact Ib.put (d:=some d) λs' mP=>by cases mP;exact⟨BQ.mono E0 _ _ c,F8⟩)
   .cases hc;rw[Pp AB] at Gt;obtain⟨rfl,rfl⟩:=Gt;exact Gl.value (NJ v b) (by rw[hd];exact hr.put (d:=some d) λ_ _=>c)
  .cases hc
 .rename_i n s off ver cs ow ht ha;obtain⟨hs,hx⟩:=Mb hr ha;split at hc;.rename_i E0;cases hc;rw[Pp AB] at Gt;obtain⟨rfl,rfl⟩:=Gt;obtain⟨v,b,c,_⟩:=LW hr ht hs (r:= .agg ((cs.drop off).take n)) (off:=off) (by simp[FN,E0]);rw[<-hx] at b;exact Gl.value (NJ v b) (by rw[hd];exact hr.put (d:=some d) λ_ _=>c)
  .cases hc
 .cases hc
def zf{o:Oper}{t:TypeId}{x:Operand}{n:Option Nat}{p r:Ab}(ho:o.op= .load t x)(ht:FL C.P t=some n)(hx:GF C U x=some (.ptr p))(hl:Bp h n p=some r)(hr:Df C γ0 w0 γ β U h a w):
  Gl C γ0 w0 o a w (U.put o.dst (.val r)) h:=by
 have hv:=SA hr hx;have NJ:∀v,(Instr.loadAt t (a.eval x)).run C.P w= .ok v w->(execOp a.eval o).run C.P w= .ok (.value v) w:=λv hv=>by simp[execOp,ho,hv]
 unfold Bp at hl;split at hl
 .rename_i cs;obtain⟨b,k,hv,hm⟩:=hv;obtain⟨us,g,d⟩:=hm.values;obtain⟨v,c,f⟩:=Je (w:=w) ht g (λj u hj=>(hr.Ee.I6 _ _ _ (d j u hj)).1) (λu hu=>by obtain⟨j,hj⟩:=CU hu;exact(hr.Ee.I6 _ _ _ (d j u hj)).2.1) hl
  rw[<-hv] at c;exact Gl.value (NJ v c) (hr.put λ_ _=>f)
 .rename_i id off;obtain⟨b,hb,hv⟩:=hv;split at hl
  .rename_i cs hcs;obtain⟨us,e,fr,g,pf,d,i⟩:=hr.Ee.cells id cs hcs b hb;obtain⟨v,c,f⟩:=Je (w:=w) (b:=b) (o:=off) ht (d.drop off) (λj u hj=>by
    rw[cell_of_row w _ _ us e fr g];rw[CE,CA] at hj;split at hj;.simpa using hj
    .cases hj) (λu hu=>i u (A6 hu)) (QB hl)
   rw[<-hv] at c;exact Gl.value (NJ v c) (hr.put λ_ _=>f)
  .cases hl
 .cases hl
end
end Go.Am
end
section
namespace Go.Am
open Go
section
variable{C:Gw}{γ0 γ γ':Gh}{w0 w w':World}{β:Nat->Nat}{U:BT}{h:Ai}{a:Act}{fid:FuncId}{ops:List Oper}
def E5{b:Nat}{t:TypeId}{fr:Nat×Nat}:∀(vs:List Value) (o:Nat) (cur:Array Value) (w:World),w.heap[b]?=some (.cells cur t fr)->o+vs.length<=cur.size->
  w.setCells b o vs=w.setRow b (cur.toList.take o++vs++cur.toList.drop (o+vs.length)).toArray
 |[],o,cur,w,hg,_=>by simp only[World.setCells,A8,AZ,BB,Br,Array.toArray_toList];exact(setRow_self w b cur t fr hg).symm
 |v::r,o,cur,w,hg,hl=>by simp only[AJ] at hl;rw[World.setCells,setCell_eq_setRow w b o cur t fr v hg,E5 r (o+1) _ _ (setRow_heap w b cur _ t fr hg) EE,setRow_setRow];have e:=list_seg_step cur.toList o v r EE;simp only[Array.toList_setIfInBounds,AJ];rw[e]
def P8{t:TypeId}{n b o:Nat}(hn:B1 C.P t=some n){u:Value}(hu:u.cells.size=n)(h1:∀x∈u.cells.toList,x.oneCell'=true){cur:Array Value}{e:TypeId}{fr:Nat×Nat}(hg:w.heap[b]?=some (.cells cur e fr))(XU:UM fr cur.size)
  (hl:o+n<=cur.size):(Instr.storeAt t (.pointer (some ⟨b,o,none⟩)) u).run C.P w= .ok () (w.setRow b (cur.toList.take o++u.cells.toList++cur.toList.drop (o+n)).toArray):=by
 have hs:=run_storeCells_cells (P:=C.P) b o u.cells.toList 0 w (λj hj=>by
  rw[cell_of_row w _ _ cur e fr hg];simp at hj;rw[CY Ac];rfl) (λj hj=>by
  simp at hj;simp only[World.frozen?,hg];rcases XU with rfl|XU
  .simp
  .simp;omega) h1
 rw[BB,E5 _ o cur w hg EE] at hs;cases hq:C.P.info? t with
 |none=>simp[B1,hq] at hn
 |some i=>
  have hi:i.size=n:=by simpa[B1,hq] using hn
  simp only[Cq,hu] at hs;simp[Instr.storeAt,Instr.sureAddr,storeVar,sizeOf,typeInfo,hq,hi,hu,hs]
def X2{Z:Type}{cs vs:List Z}{off n o:Nat}(hl:off+n<=cs.length)(hv:vs.length=n)(ho:¬(off<=o/\o<off+n)):(cs.take off++vs++cs.drop (off+n))[o]?=cs[o]?:=by
 have b:(cs.take off).length=off:=EE;by_cases h:o<off;.rw[Al (by simp[hv];omega),Al Ac,CQ h]
 .rw[Bu (by simp[hv];omega),CE];congr 1
  simp[hv];omega
def cL{Z:Type}{cs:List Z}{off n:Nat}{x:Z}(hl:off+n<=cs.length):(cs.take off++[x]++cs.drop (off+n))[off]?=some x:=by have b:(cs.take off).length=off:=EE;rw[Al EE,Bu Ac];simp[b]
def NY{Z:Type}{us vs:List Z}{off n len:Nat}(hl:len<=us.length)(ho:off+n<=len)(hv:vs.length=n):
  (us.take off++vs++us.drop (off+n)).take len=(us.take len).take off++vs++(us.take len).drop (off+n):=by
 have c:(us.take off).length=off:=EE;have b:(us.take off++vs).length=off+n:=by simp[hv];omega
 rw[yD,Bf Ac,b,CK,BP Ac,List.drop_take]
def Pv{cs vs:List Ab}{us DS:List Value}{off n:Nat}(h:Bc γ cs us)(h':Bc γ vs DS):Bc γ (cs.take off++vs++cs.drop (off+n)) (us.take off++DS++us.drop (off+n)):=
 ((h.take off).append h').append (h.drop (off+n))
def J1.aCK{B s b g:Nat}(hg:γ.BU g=some (.loc s)){c:Option Nat}{v:Value}{u:Ab}(DS:Array Value)(ho:J1 γ B w b c v u):J1 γ B (w.setRow g DS) b c v u:=by
 rcases ho with ho|⟨g2,n,cap,us,e,z,Ay,h1,h2,h3,i,f,d⟩
 .exact .inl ho
 .have hb:g2≠g:=λhe=>by subst he;rw[hg] at h3;cases h3
  exact .inr ⟨g2,n,cap,us,e,z,Ay,h1,h2,h3,i,by rw[setRow_other w g g2 DS hb];exact f,d⟩
def X3(γ:Gh)(w:World)(g:Nat)(us:Array Value):Rt g γ w γ (w.setRow g us):=
 ⟨.refl _,λb x hb hx _=>⟨hx,setRow_other w g b us hb⟩⟩
def Df.nR(hr:Df C γ0 w0 γ β U h a w){s ver GH off n:Nat}{cs:List Ab}{ow:List Nat}(hs:U.at s= .box ver cs ow){vs:List Ab}{DS:List Value}(hv:Bc γ vs DS)(h1:∀u∈DS,u.oneCell'=true)(hn:vs.length=n)
  (hl:off+n<=cs.length) {BU:Bool} (F8:BU=true->∃u x,DS=[u]/\vs=[x]/\J1 γ w0.heap.size w s (some off) u x) {us:Array Value} {e:TypeId} (hg:w.heap[β s]?=some (.cells us e (0,0))):
  Df C γ0 w0 γ β (U.set s (.box GH (XN cs off n vs) (Tm ow off n BU))) h a (w.setRow (β s) (us.toList.take off++DS++us.toList.drop (off+n)).toArray):=by
 have h0:=hr.fr.IZ s;rw[hs] at h0;obtain⟨t,c,l,xe,e0,k,j,i,r⟩:=h0;rw[hg] at k;cases k;have hlen:DS.length=n:=by rw[hv.length,hn]
 have xf:off+n<=us.toList.length:=by rw[j.length];exact hl
 have d:s<U.length:=BT.Qx (by rw[hs];simp);refine⟨pg hr.Ee c _,⟨by simp[hr.fr.size],λf=>?_⟩,hr.D8.write (g:=β s) l (.refl _) AB rfl rfl rfl (λb hb=>⟨setRow_other w _ b _ hb,rfl⟩),hr.defers,hr.HO⟩;by_cases he:f=s
 .subst he;rw[BT.FT d];refine⟨t,c,l,_,e,setRow_heap w _ us _ e (0,0) hg,?_,?_,?_⟩;.simpa[XN] using Pv (off:=off) (n:=n) j hv
  .intro u hu;simp only[A7,Ao] at hu;rcases hu with hu|hu|hu
   .exact i u (A9 hu)
   .exact h1 u hu
   .exact i u (A6 hu)
  .intro o ho;have JP:(BU=true/\o=off)\/(o∈ow/\¬(off<=o/\o<off+n)):=by
    unfold Tm at ho;have hf:o∈ow.filter (λo=> !(decide (off<=o)&&decide (o<off+n)))->o∈ow/\¬(off<=o/\o<off+n):=λhm=>by rw[BE] at hm;refine⟨hm.1,λhc=>?_⟩;have:=hm.2;simp[hc.1,hc.2] at this
    cases BU with
    |true=>
     simp only[BN,AF] at ho;rcases ho with ho|ho
     .exact .inl ⟨rfl,ho⟩
     .exact .inr (hf ho)
    |false=>exact .inr (hf ho)
   rcases JP with⟨xg,rfl⟩|⟨xg,y5⟩
   .obtain⟨u,x,rfl,rfl,v⟩:=F8 xg;exact⟨u,x,by simpa using cL (x:=u) xf,by simpa[XN] using cL (x:=x) hl,v.aCK c _⟩
   .obtain⟨u,x,q,p,m⟩:=r o xg;refine⟨u,x,?_,?_,m.aCK c _⟩;.rw[<-q];have:=X2 xf hlen y5;simpa using this
    .rw[<-p];exact X2 hl hn y5
 .rw[BT.Gx (λx=>he x.symm)];exact(hr.fr.IZ f).keptBut c (X3 γ w _ _) (by simp only[Ll.sP];intro hx;cases hx;exact he rfl)
def QC(hr:Df C γ0 w0 γ β U h a w){y:Operand}{v:Ab}(hy:L7 C U y=true)(hv:Fi C U y=some v)(s':Nat)(c':Option Nat):
  ∃γ',γ.le γ'/\Df C γ0 w0 γ' β (U.DU (Dv U y)) h a w/\BQ γ' v (a.eval y)/\J1 γ' w0.heap.size w s' c' (a.eval y) v:=by
 unfold L7 at hy;cases hs:Er C U y with
 |none=>rw[hs] at hy;cases hy
 |some sl=>
  rw[hs] at hy;cases sl with
  |BU u=>
   have b:u=v:=by unfold Fi at hv;rw[hs] at hv;exact Ff hv
   subst b;cases y with
   |tmp t=>have ht:U.at t= .BU u:=HD hs;obtain⟨γ',E0,Ib,h1,h2⟩:=hr.take ht s' c';exact⟨γ',E0,by simpa[Dv,ht,BT.DU] using Ib,h1,h2⟩
   |const c=>
    refine⟨γ,.refl _,hr,He hr hv,?_⟩;obtain⟨q,_⟩:=Tt (γ:=γ) (β:=β) (w:=w) hs;unfold Er at hs;split at hs;.rename_i e;cases e
    .cases hs
    .cases hs;exact .inl (.inl rfl)
    .rename_i Ld;cases Ld;cases hc:LV c with
     |none=>rw[hc] at hs;cases hs
     |some _=>rw[hc] at hs;cases hs
    .rename_i e;cases e
    .cases hs
   |global g=>have mP:(C.HO g).map (λcs=>ER.val (Ab.Cd cs))=some (.BU u):=hs;cases hc:C.HO g<;>rw[hc] at mP<;>cases mP
   |func f=>cases hs
  |_=>cases hy
def tI{B s:Nat}{c:Option Nat}{v:Value}{x:Ab}(h:J1 γ B w s c v x):x.cells=[x]:=by rcases h with(rfl|⟨_,rfl⟩)|⟨_,_,_,_,_,_,_,rfl,_⟩<;>rfl
def tJ{o:Oper}{t:TypeId}{x y:Operand}{s off n ver:Nat}{v:Ab}{BU:Bool}{c:Option (Nat×Ab)}{cells:List Ab}{owned:List Nat}{run:IT->Ai->Option KE}{j:BT}{h':Ai}(ho:o.op= .store t x y)(hd:o.dst=none)
  (hc:Kd C U t x y=some (.Og s off n v BU c ver cells owned)) (Gt:(E2.Og s off n v BU c ver cells owned).OD C run U h j h') (hr:Df C γ0 w0 γ β U h a w):Gl C γ0 w0 o a w j h':=by
 unfold Kd at hc;split at hc;.cases hc
 .rename_i m sh s' zg GH Hz Pe v' Lu sD ha hv;split at hc
  .rename_i hl;simp only[BO,E2.Og.injEq] at hc;obtain⟨rfl,rfl,rfl,rfl,F8,aK,rfl,rfl,rfl⟩:=hc;obtain⟨hn,rfl,rfl⟩:=Gt;obtain⟨hs,hx⟩:=Mb hr ha;have y7:=He hr hv;obtain⟨_,_,us,e,hg,l,p,_⟩:=hr.cK hs;have i:zg+(m+1)<=us.size:=by have:=l.length;simp at this;omega
   obtain⟨f,d⟩:=HW y7 Ac;have tK:(a.eval y).cells.size=m+1:=by have:=f.length;simp at this;omega
   have JZ:=P8 (C:=C) (b:=β s') (o:=zg) Lu tK d hg (.inl rfl) i;rw[<-hx] at JZ;have NJ:(execOp a.eval o).run C.P w= .ok .skip (w.setRow (β s') (us.toList.take zg++(a.eval y).cells.toList++us.toList.drop (zg+(m+1))).toArray):=by simp[execOp,ho,JZ]
   by_cases hw:BU=true
   .subst hw;rw[Ae F8] at aK;subst aK;simp only[Bg] at F8;obtain⟨k,E0,KF,h1,h2⟩:=QC hr F8.2 hv s' (some zg);have zh:=tI h2;have KG:(U.DU (Dv U y)).at s'= .box GH Hz Pe:=by
     cases y with
     |tmp t'=>
      simp only[Dv];cases ht:U.at t' with
      |BU u=>simp only[BT.DU];rw[BT.Gx (λe=>by rw[e,hs] at ht;cases ht)];exact hs
      |_=>exact hs
     |_=>exact hs
    have Ng:=KF.nR (GH:=GH+1) (BU:=true) (n:=m+1) KG (Bc.mono E0 _ _ f) d hn hl (λ_=>?_) hg;.exact Gl.skip NJ (by rw[hd];exact Ng)
    .have hcl:(a.eval y).cells=#[a.eval y]:=by
      rcases h2 with(h2|⟨z,h2⟩)|⟨_,_,_,_,_,_,_,_,h2,_⟩
      .subst h2;rw[show a.eval y=_ from h1];rfl
      .subst h2;obtain⟨_,h1⟩:=h1;rw[h1];rfl
      .rw[h2];rfl
     exact⟨a.eval y,v',by rw[hcl],zh,h2⟩
   .have g:BU=false:=by simpa using hw
    subst g;rw[Aa (by rw[F8];simp)] at aK;subst aK;exact Gl.skip NJ (by rw[hd];exact hr.nR (GH:=GH+1) (BU:=false) hs f d hn hl (λe=>by cases e) hg)
  .cases hc
 .cases hc
def qa{o:Oper}{t:TypeId}{x y:Operand}{n:Nat}{p v:Ab}{h':Ai}(ho:o.op= .store t x y)(hd:o.dst=none)(Lu:B1 C.P t=some (n+1))(hx:GF C U x=some (.ptr p))(hv:Fi C U y=some v)(JZ:Dd h (n+1) p v=some h')(hr:Df C γ0 w0 γ β U h a w):
  Gl C γ0 w0 o a w U h':=by
 have c:=SA hr hx;have y7:=He hr hv;unfold Dd at JZ;split at JZ
 .rename_i id off;obtain⟨b,hb,d⟩:=c;split at JZ
  .rename_i cs hcs;split at JZ
   .rename_i hl;cases JZ;obtain⟨us,e,fr,hg,pf,l,k⟩:=hr.Ee.cells id cs hcs b hb;obtain⟨j,i⟩:=HW y7 Ac;have tK:(a.eval y).cells.size=n+1:=by have:=j.length;simp at this;omega
    have hlt:cs.length<=us.size:=by have:=l.length;simp at this;omega
    have f:off+(n+1)<=us.size:=Ac;have AR:=P8 (C:=C) (b:=b) (o:=off) Lu tK i hg pf f;rw[<-d] at AR;obtain⟨hi,ha⟩:=OB hr.Ee hcs hb hg (us.toList.take off++(a.eval y).cells.toList++us.toList.drop (off+(n+1))).toArray (cs.take off++v.cells++cs.drop (off+(n+1)))
     (by simp only[B8,An,Ax,A4,Cq,tK];omega)
     (by
      rcases pf with rfl|pf
      .exact .inl rfl
      .refine .inr (Bw (NA ?_) pf);simp only[B8,An,Ax,A4,Cq,tK];omega)
     (by
      have:=Pv (off:=off) (n:=n+1) l j;rw[<-NY (by simpa using hlt) hl.2 (by simpa using tK)] at this;have g:(cs.take off++v.cells++cs.drop (off+(n+1))).length=cs.length:=by simp[hl.1];omega
      rw[g];simpa using this) (λu hu=>by
      have g:(cs.take off++v.cells++cs.drop (off+(n+1))).length=cs.length:=by simp[hl.1];omega
      rw[g] at hu;simp only[LO] at hu;rw[NY (by simpa using hlt) hl.2 (by simpa using tK)] at hu;simp only[A7,Ao] at hu;rcases hu with hu|hu|hu
      .exact k u (A9 hu)
      .exact i u hu
      .exact k u (A6 hu))
    have NJ:(execOp a.eval o).run C.P w= .ok .skip (w.setRow b (us.toList.take off++(a.eval y).cells.toList++us.toList.drop (off+(n+1))).toArray):=by simp[execOp,ho,AR]
    exact Gl.skip NJ (by rw[hd];exact hr.JO hi ha)
   .cases JZ
  .cases JZ
 .cases JZ
def Df.freeze(hr:Df C γ0 w0 γ β U h a w){s ver:Nat}{cs:List Ab}{ow:List Nat}(hs:U.at s= .box ver cs ow):
  ∃γ',γ.le γ'/\Df C γ0 w0 γ' β (U.set s (.val (.Cd cs))) h a w/\BQ γ' (.Cd cs) (a.tmps.getD s undef):=by
 have h0:=hr.fr.IZ s;rw[hs] at h0;obtain⟨A,f,D,us,e,z,t,m,B⟩:=h0;have g:s<U.length:=BT.Qx (by rw[hs];simp);have yy:∀o,γ.I6 (β s) o=none:=λo=>by
  cases hc:γ.I6 (β s) o with
  |none=>rfl
  |some u=>obtain⟨_,_,q⟩:=hr.Ee.I6 _ _ _ hc;rw[f] at q;rcases q with q|⟨_,_,_,q,_⟩<;>cases q
 have E0:γ.le (γ.Dz (β s) us us.size none):=⟨λb o v hb=>by
  have:b≠β s:=λe=>by rw[e,yy] at hb;cases hb
  simp only[Gh.Dz,Aa this];exact hb,λ_ _ hm=>hm,λ_ _ hm=>hm⟩
 have hne:∀b id,γ.BU b=some (.NH id)->b≠β s:=λb id hb e=>by rw[e,f] at hb;cases hb
 have hk:Rt (β s) γ w (γ.Dz (β s) us us.size none) w:=⟨E0,λb x hb hx _=>⟨by simp only[Gh.Dz,Aa hb];exact hx,rfl⟩⟩;have hv:BQ (γ.Dz (β s) us us.size none) (.Cd cs) (a.tmps.getD s undef):=by
  refine⟨β s,0,A,C8.HC λi x hi=>?_⟩;obtain⟨u,d,c⟩:=t.get hi;have hlt:i<us.size:=by have:=(Aj.1 d).1;simpa using this
  exact⟨u,by simp only[Gh.Dz,BN,BG,Ae hlt];simpa using d,BQ.mono E0 _ _ c⟩
 have aD0:∀b n,γ.sz b=some n->(∃us e fr,w.heap[b]?=some (.cells us e fr)/\us.size=n)/\((γ.Dz (β s) us us.size none).BU b=none\/∃id,(γ.Dz (β s) us us.size none).BU b=some (.NH id)):=λb n hb=>by
  obtain⟨p,r⟩:=hr.Ee.sz b n hb;by_cases he:b=β s;.subst he;exact⟨p,.inl (by simp[Gh.Dz])⟩
  .exact⟨p,by simp only[Gh.Dz,Aa he];exact r⟩
 refine⟨_,E0,⟨⟨λb o v hb=>?_,λid y JB hy=>?_,λid Hz hc b hb=>?_,λid es hc b hb=>?_,hr.Ee.mu,λb x hx=>?_,aD0⟩,⟨by simp[hr.fr.size],λk=>?_⟩,?_,hr.defers,λx Hz hx=>C8.mono E0 _ _ _ (hr.HO x Hz hx)⟩,hv⟩
 .by_cases he:b=β s
  .subst he;simp only[Gh.Dz,BN] at hb⊢;split at hb;.exact⟨by rw[cell_of_row _ _ _ us e (0,0) z];exact hb,m v (by rw[AU] at hb;obtain⟨p,q⟩:=hb;rw[<-q];exact Array.getElem_mem_toList p),.inl AB⟩
   .cases hb
  .simp only[Gh.Dz,Aa he] at hb⊢;exact hr.Ee.I6 b o v hb
 .obtain⟨b,d,c⟩:=hr.Ee.NH id y JB hy;exact⟨b,d,by simp only[Gh.Dz,Aa (hne b id c)];exact c⟩
 .obtain⟨DS,j,pd,d,qf,c,l⟩:=hr.Ee.cells id Hz hc b hb;exact⟨DS,j,pd,d,qf,Bc.mono E0 _ _ c,l⟩
 .obtain⟨DS,j,d,c⟩:=hr.Ee.map id es hc b hb;exact⟨DS,j,d,c.mono E0⟩
 .by_cases he:b=β s;.subst he;exact hr.Ee.BU _ _ f
  .simp only[Gh.Dz,Aa he] at hx;exact hr.Ee.BU b x hx
 .by_cases he:k=s;.subst he;rw[BT.FT g];exact hv
  .rw[BT.Gx (λx=>he x.symm)];exact(hr.fr.IZ k).keptBut f hk (by simp only[Ll.sP];intro hx;cases hx;exact he rfl)
 .refine⟨hr.D8.le.trans E0,hr.D8.size,hr.D8.os,hr.D8.tape,hr.D8.output,λb hb hn=>?_⟩;obtain⟨d,c⟩:=hr.D8.Pm b hb hn;exact⟨d,by simp only[Gh.Dz,Aa (Ac:b≠β s)];exact c⟩
def Df.cM:∀{fz:List (Nat×List Ab)} {γ:Gh} {U:BT},Df C γ0 w0 γ β U h a w->(∀p∈fz,∃ver ow,U.at p.1= .box ver p.2 ow)->(fz.map (·.1)).Nodup->
  ∃γ',γ.le γ'/\Df C γ0 w0 γ' β (U.E3 (fz.map λ(s,cs)=>(s,.val (.Cd cs)))) h a w/\∀p∈fz,BQ γ' (.Cd p.2) (a.tmps.getD p.1 undef)
 |[],γ,U,hr,_,_=>⟨γ,.refl _,hr,AB⟩
 |(s,cs)::fz,γ,U,hr,hb,hn=>by
  simp only[AV,Ca] at hn;obtain⟨ver,ow,hs⟩:=hb (s,cs) AB;obtain⟨f,aNl,KF,c⟩:=hr.freeze hs;obtain⟨b,nS,Ng,WU⟩:=cM (fz:=fz) KF (λp hp=>by obtain⟨GH,Pe,d⟩:=hb p (by simp[hp]);refine⟨GH,Pe,?_⟩;rw[BT.Gx (λe=>hn.1 (by rw[show s=p.1 from e];exact A5.2 ⟨p,hp,rfl⟩))];exact d) hn.2
  refine⟨b,aNl.trans nS,Ng,λp hp=>?_⟩;rcases AF.1 hp with rfl|hp
  .exact BQ.mono nS _ _ c
  .exact WU p hp
def R5:∀{xs:List Operand} {vs:List Ab} {fz:List (Nat×List Ab)},HU C U xs=some (vs,fz)->
  (∀p∈fz,∃ver ow,U.at p.1= .box ver p.2 ow)/\(fz.map (·.1)).Nodup/\
  ∀γ',(∀x u,Fi C U x=some u->BQ γ' u (a.eval x))->(∀p∈fz,BQ γ' (.Cd p.2) (a.tmps.getD p.1 undef))->Bc γ' vs (xs.map a.eval)
 |[],vs,fz,hc=>by cases hc;exact⟨AB,AB,λ_ _ _=>rfl⟩
 |x::xs,vs,fz,hc=>by
  unfold HU at hc;split at hc;.cases hc
  .rename_i Iy e d;obtain⟨h1,h2,h3⟩:=R5 d;split at hc
   .rename_i s ver cs ow hs;split at hc;.cases hc
    .rename_i hn;cases hc;have hsb:U.at s= .box ver cs ow:=HD hs;refine⟨λp hp=>?_,?_,λγ' c b=>?_⟩
     .rcases AF.1 hp with rfl|hp
      .exact⟨ver,ow,hsb⟩
      .exact h1 p hp
     .simp only[AV,Ca];exact⟨by simpa using hn,h2⟩
     .exact⟨_,_,rfl,b (s,cs) AB,h3 γ' c λp hp=>b p (by simp[hp])⟩
   .rename_i sl _ hs;cases hv:sl.HT with
    |none=>rw[hv] at hc;cases hc
    |some u=>rw[hv] at hc;cases hc;exact⟨h1,h2,λγ' c b=>⟨_,_,rfl,c _ u (by unfold Fi;rw[hs];exact hv),h3 γ' c b⟩⟩
   .cases hc
def nU{o:Oper}{fn:Fn}{first captured:Array Operand}{d:Nat}{as bs:List Ab}{fz:List (Nat×List Ab)}(ho:o.op= .makeFunc fn first captured)(hd:o.dst=some d)(ha:Bs C U first.toList=some as)(hb:HU C U captured.toList=some (bs,fz))(hr:Df C γ0 w0 γ β U h a w):
  Gl C γ0 w0 o a w (((U.drop (fz.map (·.1))).E3 (fz.map λ(s,cs)=>(s,.val (.Cd cs)))).set d (.val (.func fn as bs))) h:=by
 obtain⟨h1,h2,h3⟩:=R5 (a:=a) hb;obtain⟨γ',E0,Ib,hv⟩:=(hr.drop (fz.map (·.1))).cM (fz:=fz) (λp hp=>by obtain⟨ver,ow,hs⟩:=h1 p hp;exact⟨ver,ow,by rw[BT.WT,hs]⟩) h2
 refine Gl.value (w':=w) (v:= .func fn (first.map a.eval) (captured.map a.eval)) (by simp[execOp,ho,Instr.makeFunc]) (by rw[hd];exact Ib.put (d:=some d) λ_ _=>⟨_,_,rfl,by simpa using Bc.mono E0 _ _ (D9 hr ha),by simpa using h3 γ' (λx u hx=>BQ.mono E0 _ _ (He hr hx)) hv⟩)
end
end Go.Am
end
