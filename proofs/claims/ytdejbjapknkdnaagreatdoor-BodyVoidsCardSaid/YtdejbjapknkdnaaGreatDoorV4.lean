/- Lemmas -/
import Derived.Test.YtdejbjapknkdnaaGreatDoorV3
import Derived.Laws.IdiomCopy
set_option linter.all false
section
namespace Go.Am
open Go
def p_(β:Nat->Nat)(d b:Nat):Nat->Nat:=λs=>if s=d then b else β s
def KK.pD:KK->Option Nat
 | .Ng _=>none
 | .loc s=>some s
 | .tail s _ _=>some s
structure QV(g:Nat)(γ:Gh)(w:World)(γ':Gh)(w':World):Prop where
 le:γ.le γ'
 OF:∀b x,b≠g->γ.BN b=some x->x.tg=false->γ'.BN b=some x/\w'.heap[b]?=w.heap[b]?
section
variable{C:FT}{γ0 γ γ':Gh}{w0 w w':World}{β:Nat->Nat}{U:BL}{h:Ae}{a:Act}{fid:FuncId}{ops:List Oper}
def BL.Wq(U:BL)(ds:List Nat)(s:Nat):(U.drop ds).at s=match U.at s with| .E8 t o=>if ds.contains t then .undef else .E8 t o|x=>x:=by
 cases ds with
 |nil=>simp only[BL.drop,List.contains_nil];cases U.at s<;>simp
 |cons d ds=>
  simp only[BL.drop,BL.at,List.getD,CE];cases hg:U[s]? with
  |none=>rfl
  |some x=>cases x<;>rfl
def BL.length_drop(U:BL)(ds:List Nat):(U.drop ds).length=U.length:=by cases ds<;>simp[BL.drop]
def L2.aLr{B s d b:Nat}{x:Eu}{v:Value}(hx:L2 γ β B w s x v)(hn:∀o,x≠ .E8 d o)(hs:s≠d):L2 γ (p_ β d b) B w s x v:=by
 cases x with
 |box ver cs ow=>simpa only[L2,p_,if_neg hs] using hx
 |E8 t o=>have:t≠d:=λe=>hn o (by rw[e]);simpa only[L2,p_,if_neg this] using hx
 |_=>exact hx
def Jm.keptBut{g B s:Nat}{b:KK}(hg:γ.BN g=some b)(k:QV g γ w γ' w')(hne:b.pD≠some s){c:Option Nat}{v:Value}{u:Aa}(ho:Jm γ B w s c v u):Jm γ' B w' s c v u:=by
 rcases ho with ho|⟨g2,n,cap,us,e,z,As,h1,h2,h3,l,j,i⟩
 .exact .inl ho
 .have hb:g2≠g:=λhe=>by subst he;rw[hg] at h3;cases h3;exact hne rfl
  obtain⟨f,d⟩:=k.OF g2 _ hb h3 rfl;exact .inr ⟨g2,n,cap,us,e,z,As,h1,h2,f,l,by rw[d];exact j,i⟩
def L2.keptBut{g B s:Nat}{d:KK}(hg:γ.BN g=some d)(k:QV g γ w γ' w')(hne:d.pD≠some s){x:Eu}{v:Value}(hx:L2 γ β B w s x v):L2 γ' β B w' s x v:=by
 cases x with
 |undef=>trivial
 |skip=>exact hx
 |val u=>exact BJ.mono k.le u v hx
 |PH b=>exact hx
 |BN u=>exact⟨BJ.mono k.le u v hx.1,hx.2.keptBut hg k hne⟩
 |box ver cs ow=>
  obtain⟨r,c,q,us,e,p,n,m,l⟩:=hx;have hb:β s≠g:=λhe=>by rw[he,hg] at c;cases c;exact hne rfl
  obtain⟨y,t⟩:=k.OF _ _ hb c rfl;exact⟨r,y,q,us,e,by rw[t];exact p,A3.mono k.le cs _ n,m,λo ho=>let⟨u,v,j,i,f⟩:=l o ho;⟨u,v,j,i,f.keptBut hg k hne⟩⟩
 |E8 s' o=>exact hx
def C4.t_(hr:C4 C γ0 w0 γ β U h a w)(d:Nat)(us:Array Value)(e:TypeId)(cells:List Aa)(ow:List Nat)(hc:A3 γ cells us.toList)(h1:∀u∈us.toList,u.oneCell'=true)
  (how:∀o∈ow,cells[o]?=some .slnil):
  ∃γ' c,C4 C γ0 w0 γ' c ((U.drop [d]).set d (.box 0 cells ow)) h (a.put (some d) (.pointer (some ⟨w.heap.size,0,none⟩))) (w.alloc (.cells us e)):=by
 obtain⟨hi,ha⟩:=PX hr.DV us e (0,0) 0 (some (.loc d)) (λ_ _ ho=>absurd ho (Nat.not_lt_zero _)) (.inr (.inr ⟨rfl,by simp⟩));have J8:=(hr.drop [d]).I8 hi ha;refine⟨_,p_ β d w.heap.size,J8.DV,⟨by simp[Act.put,J8.fr.size],λs=>?_⟩,J8.DP,J8.defers,J8.Hs⟩;have hs:=J8.fr.Ir s;by_cases he:s=d
 .subst he;by_cases hl:s<(U.drop [s]).length
  .have Ē:s<a.tmps.size:=by rw[<-J8.fr.size];exact hl
   rw[BL.Fj hl];have i:(a.put (some s) (.pointer (some ⟨w.heap.size,0,none⟩))).tmps.getD s undef= .pointer (some ⟨w.heap.size,0,none⟩):=by simp[Act.put,Array.getD,Ē]
   rw[i];refine⟨by simp[p_],by simp[p_,Gh.Dk],?_,us,e,?_,A3.mono ha.le _ _ hc,h1,λo ho=>?_⟩;.simp only[p_,BM];exact hr.DP.size
   .simp only[p_,BM];exact heap_alloc_new w _
   .have b:=how o ho;obtain⟨u,f,j⟩:=hc.get b;exact⟨u,.slnil,by simpa using f,b,.inl (.inl rfl)⟩
  .have:BL.at ((U.drop [s]).set s (.box 0 cells ow)) s= .undef:=by simp[BL.at,List.getD];rw[D4 (by simpa using hl)];rfl
   rw[this];trivial
 .rw[BL.FU (λe=>he e.symm)];have g:(a.put (some d) (.pointer (some ⟨w.heap.size,0,none⟩))).tmps.getD s undef=a.tmps.getD s undef:=by simp[Act.put,Hn,pA (λe=>he e.symm)]
  rw[g];refine hs.aLr (λo ho=>?_) he;rw[BL.Wq] at ho;cases hx:U.at s with
  |E8 t o'=>
   rw[hx] at ho;simp only at ho;split at ho;.cases ho
   .rename_i hc;cases ho;exact hc (by simp)
  |_=>rw[hx] at ho;cases ho
def Ih{P:Program}{t:TypeId}{z:Aa}(hz:GY P t=some z):∃v,Lk v=some z/\∀w,(zeroValue t).run P w= .ok v w:=by
 unfold GY at hz;cases hi:P.info? t with
 |none=>rw[hi] at hz;cases hz
 |some i=>
  rw[hi] at hz;cases b:i.zero with
  |none=>simp[b] at hz
  |some v=>simp only[Ck,b] at hz;exact⟨v,hz,λw=>by simp[zeroValue,typeInfo,hi,b]⟩
def pS{cs:List Aa}{o:Nat}(h:o∈Xa cs):cs[o]?=some .slnil:=by
 simp only[Xa,BV,List.mem_range] at h;obtain⟨h1,h2⟩:=h;simp only[List.getD,An h1,E5] at h2;rw[An h1];split at h2;.rename_i he;rw[he]
 .cases h2
def FG(C:FT)(γ0:Gh)(w0:World)(o:Oper)(a:Act)(w:World)(c:BL)(h':Ae):Prop:=
 ∃γ' b w',(∃v,(execOp a.eval o).run C.P w= .ok (.value v) w'/\C4 C γ0 w0 γ' b c h' (a.put o.dst v) w')\/((execOp a.eval o).run C.P w= .ok .skip w'/\C4 C γ0 w0 γ' b c h' (a.put o.dst undef) w')
def FG.value{o:Oper}{c:BL}{h':Ae}{b:Nat->Nat}{v:Value}(he:(execOp a.eval o).run C.P w= .ok (.value v) w')(hr:C4 C γ0 w0 γ' b c h' (a.put o.dst v) w'):FG C γ0 w0 o a w c h':=⟨γ',b,w',.inl ⟨v,he,hr⟩⟩
def FG.skip{o:Oper}{c:BL}{h':Ae}{b:Nat->Nat}(he:(execOp a.eval o).run C.P w= .ok .skip w')(hr:C4 C γ0 w0 γ' b c h' (a.put o.dst undef) w'):FG C γ0 w0 o a w c h':=⟨γ',b,w',.inr ⟨he,hr⟩⟩
def Xp{o:Oper}{t:TypeId}{d:Nat}{z:Aa}(ho:o.op= .alloc t)(hd:o.dst=some d)(hz:GY C.P t=some z)(hn:z.cells≠[])(hr:C4 C γ0 w0 γ β U h a w):
  FG C γ0 w0 o a w ((U.drop [d]).set d (.box 0 z.cells (Xa z.cells))) h:=by
 obtain⟨v,f,AI⟩:=Ih hz;obtain⟨e,c⟩:=Hz (γ:=γ) (Fi f) (Cq.2 hn);obtain⟨γ',b,HM⟩:=hr.t_ d v.cells t z.cells (Xa z.cells) e c (λo=>pS);refine FG.value (v:= .pointer (some ⟨w.heap.size,0,none⟩)) ?_ (by rw[hd];exact HM);simp[execOp,ho,Instr.alloc,AI,newVar,newRow]
def dG{o:Oper}{t:TypeId}{x:Operand}{d n:Nat}{v:Aa}(ho:o.op= .box t x)(hd:o.dst=some d)(hx:ER C U x=some v)(f:v.cells.length=n)(hn:n≠0)(hr:C4 C γ0 w0 γ β U h a w):
  FG C γ0 w0 o a w ((U.drop [d]).set d (.box 0 v.cells [])) h:=by
 obtain⟨e,c⟩:=Hz (Gw hr hx) (by omega);obtain⟨γ',b,HM⟩:=hr.t_ d (a.eval x).cells t v.cells [] e c (by simp);refine FG.value (v:= .pointer (some ⟨w.heap.size,0,none⟩)) ?_ (by rw[hd];exact HM);simp[execOp,ho,Instr.box,newVar,newRow]
def C4.newObj(hr:C4 C γ0 w0 γ β U h a w)(us:Array Value)(e:TypeId)(fr:Nat×Nat)(cells:List Aa)(oU:Um fr us.size)(hc:A3 γ cells (us.toList.take cells.length))(h1:∀u∈us.toList.take cells.length,u.oneCell'=true):
  ∃γ',γ.le γ'/\γ'.mu h.length=some w.heap.size/\C4 C γ0 w0 γ' β U (h++[.cells cells]) a (w.alloc (.cells us e fr))/\γ'.sz w.heap.size=some us.size:=by
 obtain⟨hi,ha⟩:=OH hr.DV (.cells us e fr) (.cells cells) (some us.size) (.inl ⟨cells,us,e,fr,rfl,rfl,oU,hc,h1,rfl⟩);exact⟨_,ha.le,by simp[Gh.BP],hr.I8 hi ha,by simp[Gh.BP]⟩
def Xq{o:Oper}{t:TypeId}{z:Aa}{d:Option Nat}(ho:o.op= .alloc t)(hd:o.dst=d)(hz:GY C.P t=some z)(hn:z.cells.length≠0)(hr:C4 C γ0 w0 γ β U h a w):
  FG C γ0 w0 o a w (U.put d (.val (.ptr (some (h.length,0))))) (h++[.cells z.cells]):=by
 obtain⟨v,e,AI⟩:=Ih hz;obtain⟨b,c⟩:=Hz (γ:=γ) (Fi e) (by omega);obtain⟨γ',EC,hm,HM,_⟩:=hr.newObj v.cells t (0,0) z.cells (.inl rfl) (by rw[A7 (by rw[b.length];exact Ab _)];exact b) (λu hu=>c u (AZ hu));refine FG.value (v:= .pointer (some ⟨w.heap.size,0,none⟩)) ?_ (by rw[hd];exact HM.put λs _=>⟨_,hm,rfl⟩);simp[execOp,ho,Instr.alloc,AI,newVar,newRow]
def dH{o:Oper}{t:TypeId}{x:Operand}{d:Option Nat}{v:Aa}(ho:o.op= .box t x)(hd:o.dst=d)(hx:ER C U x=some v)(hn:v.cells.length≠0)(hr:C4 C γ0 w0 γ β U h a w):
  FG C γ0 w0 o a w (U.put d (.val (.ptr (some (h.length,0))))) (h++[.cells v.cells]):=by
 obtain⟨b,c⟩:=Hz (Gw hr hx) (by omega);obtain⟨γ',EC,hm,HM,_⟩:=hr.newObj (a.eval x).cells t (0,0) v.cells (.inl rfl) (by rw[A7 (by rw[b.length];exact Ab _)];exact b) (λu hu=>c u (AZ hu));refine FG.value (v:= .pointer (some ⟨w.heap.size,0,none⟩)) ?_ (by rw[hd];exact HM.put λs _=>⟨_,hm,rfl⟩);simp[execOp,ho,Instr.box,newVar,newRow]
def LA(hr:C4 C γ0 w0 γ β U h a w){x:Operand}{s o ver:Nat}{cs:List Aa}{ow:List Nat}(hx:F9 C U x=some (.PT s o ver cs ow)):
  U.at s= .box ver cs ow/\a.eval x= .pointer (some ⟨β s,o,none⟩):=by
 unfold F9 at hx;split at hx;.rename_i s' Gb GW OA hs;cases hx;have h0:=S0 hr s;rw[Ha hs] at h0;exact⟨Ha hs,h0.1⟩
 .rename_i s' o' _ hs;split at hx;.rename_i hb;cases hx;obtain⟨t,h1,_⟩:=Gd hr hs;exact⟨hb,h1⟩
  .cases hx
 .rename_i sl _ _ hs;cases b:sl.Hv with
  |none=>rw[b] at hx;cases hx
  |some u=>rw[b] at hx;cases hx
 .cases hx
def R5(hr:C4 C γ0 w0 γ β U h a w){x:Operand}{p:Aa}(hx:F9 C U x=some (.ptr p)):BJ γ p (a.eval x):=by
 unfold F9 at hx;split at hx;.cases hx
 .split at hx<;>cases hx
 .rename_i sl _ _ hs;cases b:sl.Hv with
  |none=>rw[b] at hx;cases hx
  |some u=>rw[b] at hx;cases hx;obtain⟨t,h1,_⟩:=Gd hr hs;exact N4 h1 b
 .cases hx
def IG{t:TypeId}{n:Option Nat}(ht:Fc C.P t=some n){cs:List Aa}{us:List Value}{b o:Nat}(c:A3 γ cs us)(hc:∀(j:Nat) (u:Value),us[j]?=some u->w.cell? ⟨b,o+j,none⟩=some u)(h1:∀u∈us,u.oneCell'=true)
  {r:Aa} (hp:Fg cs 0 n=some r):∃v,(Instr.loadAt t (.pointer (some ⟨b,o,none⟩))).run C.P w= .ok v w/\BJ γ r v:=by
 unfold Fc at ht;have N5:∀j,(⟨b,o,none⟩:Addr).add j=⟨b,o+j,none⟩:=λj=>by unfold Addr.add;split<;>simp_all
 have agg:∀d,C.P.underlying t=some d->(match d with| .struct _| .array _ _=>true|_=>false)=true->(BR C.P t).map some=some n->
   ∃v,(Instr.loadAt t (.pointer (some ⟨b,o,none⟩))).run C.P w= .ok v w/\BJ γ r v:=by
  intro d hd hb hn;cases hs:BR C.P t with
  |none=>rw[hs] at hn;cases hn
  |some k=>
   rw[hs] at hn;cases hn;simp only[Fg] at hp;split at hp
   .rename_i hk;cases hp;have hl:=run_loadCells_list (P:=C.P) w ⟨b,o,none⟩ (us.take k) (λj v hj=>by
     rw[N5];refine hc j v ?_;rw[Co] at hj;split at hj;.exact hj
     .cases hj)
    have hlen:(us.take k).length=k:=by simp[c.length];omega
    rw[hlen] at hl;refine⟨.agg (us.take k).toArray,?_,_,rfl,?_,λu hu=>h1 u (AZ (by simpa using hu))⟩
    .have pT:(isAgg t).run C.P w= .ok true w:=by unfold isAgg;rw[Sem.run_bind,run_underlying hd w];cases d<;>simp_all
     cases hq:C.P.info? t with
     |none=>simp[BR,hq] at hs
     |some i=>
      have hi:i.size=k:=by simpa[BR,hq] using hs
      simp[Instr.loadAt,Instr.sureAddr,loadVar,pT,sizeOf,typeInfo,hq,hi,hl]
    .simpa using c.take k
   .cases hp
 split at ht;.rename_i fs hd;exact agg _ hd rfl ht
 .rename_i l e hd;exact agg _ hd rfl ht
 .rename_i d SJ jP hd;cases ht;simp only[Fg] at hp;obtain⟨u,hu,hr⟩:=c.get hp;refine⟨u,?_,hr⟩;have pT:(isAgg t).run C.P w= .ok false w:=by unfold isAgg;rw[Sem.run_bind,run_underlying hd w];cases d<;>simp_all
  have JV:=hc 0 u hu;simp only[Bp] at JV;simp[Instr.loadAt,Instr.sureAddr,loadVar,pT,JV]
 .cases ht
def P2{cs:List Aa}{off:Nat}{n:Option Nat}{r:Aa}(h:Fg cs off n=some r):Fg (cs.drop off) 0 n=some r:=by
 cases n with
 |none=>simp only[Fg] at h⊢;rw[Cu];simpa using h
 |some n=>
  simp only[Fg] at h⊢;split at h;.cases h;rw[if_pos (by simp;omega)];simp
  .cases h
def C4.aK(hr:C4 C γ0 w0 γ β U h a w){s ver:Nat}{cs:List Aa}{ow:List Nat}(hs:U.at s= .box ver cs ow):
  γ.BN (β s)=some (.loc s)/\w0.heap.size<=β s/\∃us e,w.heap[β s]?=some (.cells us e (0,0))/\A3 γ cs us.toList/\(∀u∈us.toList,u.oneCell'=true)/\
   ∀o∈ow,∃u x,us[o]?=some u/\cs[o]?=some x/\Jm γ w0.heap.size w s (some o) u x:=by
 have h0:=hr.fr.Ir s;rw[hs] at h0;exact⟨h0.2.1,h0.2.2.1,h0.2.2.2⟩
def Ll(hr:C4 C γ0 w0 γ β U h a w){t:TypeId}{n:Option Nat}(ht:Fc C.P t=some n){s ver off:Nat}{cs:List Aa}{ow:List Nat}(hs:U.at s= .box ver cs ow){r:Aa}(hp:Fg cs off n=some r):
  ∃v,(Instr.loadAt t (.pointer (some ⟨β s,off,none⟩))).run C.P w= .ok v w/\BJ γ r v/\(n=none->∀us e,w.heap[β s]?=some (.cells us e (0,0))->us[off]?=some v):=by
 obtain⟨_,_,us,e,h1,h2,h3,_⟩:=hr.aK hs;obtain⟨v,f,g⟩:=IG (w:=w) (b:=β s) (o:=off) ht (h2.drop off) (λj u hj=>by rw[cell_of_row w _ _ us e (0,0) h1];rw[Cu] at hj;simpa using hj) (λu hu=>h3 u (Bc hu)) (P2 hp)
 refine⟨v,f,g,λhn DB i c=>?_⟩;subst hn;rw[h1] at c;cases c;simp only[Fg] at hp;obtain⟨u,hu,_⟩:=h2.get hp;have JV:w.cell? ⟨β s,off,none⟩=some u:=by rw[cell_of_row w _ _ us e (0,0) h1];simpa using hu
 have pT:∃d,C.P.underlying t=some d/\(isAgg t).run C.P w= .ok false w:=by
  unfold Fc at ht;split at ht;.cases hz:BR C.P t<;>rw[hz] at ht<;>cases ht
  .cases hz:BR C.P t<;>rw[hz] at ht<;>cases ht
  .rename_i d SJ jP hd;refine⟨d,hd,?_⟩;unfold isAgg;rw[Sem.run_bind,run_underlying hd w];cases d<;>simp_all
  .cases ht
 obtain⟨d,hd,pT⟩:=pT;have:(Instr.loadAt t (.pointer (some ⟨β s,off,none⟩))).run C.P w= .ok u w:=by simp[Instr.loadAt,Instr.sureAddr,loadVar,pT,JV]
 rw[f] at this;cases this;simpa using hu
def C4.ė(hr:C4 C γ0 w0 γ β U h a w){s ver off:Nat}{cs:List Aa}{ow:List Nat}(hs:U.at s= .box ver cs ow)(ho:off∈ow)(c:off∉ow.erase off)(s':Nat)(c':Option Nat){u:Value}{v:Aa}(q:cs[off]?=some v)
  (hu:∀us e,w.heap[β s]?=some (.cells us e (0,0))->us[off]?=some u):
  ∃γ',γ.le γ'/\C4 C γ0 w0 γ' β (U.set s (.box (ver+1) cs (ow.erase off))) h a w/\Jm γ' w0.heap.size w s' c' u v:=by
 have h0:=hr.fr.Ir s;rw[hs] at h0;obtain⟨h1,h2,h3,us,e,k,t,r,j⟩:=h0;obtain⟨y,v',f,d,b⟩:=j off ho;rw[q] at d;cases d;rw[hu us e k] at f;cases f;have J8:C4 C γ0 w0 γ β (U.set s (.box (ver+1) cs (ow.erase off))) h a w:=hr.j3 ⟨h1,h2,h3,us,e,k,t,r,λo' û=>j o' (List.mem_of_mem_erase û)⟩;have hl:s<U.length:=BL.PY (by rw[hs];simp);rcases b with b|⟨g,n,cap,pG,x,z,As,p,o,m,i,l⟩
 .exact⟨γ,.refl _,J8,.inl b⟩
 .refine⟨γ.FC g (.tail s' c' (n*z)),Hy _ _ _,J8.FC m i (λhn=>by cases hn) (λo' û Gb GW OA hb=>?_),.inr ⟨g,n,cap,pG,x,z,As,p,o,by simp[Gh.FC],i,l⟩⟩;rw[BL.Fj hl] at hb;cases hb;cases û;exact c
def Zv{o:Oper}{t:TypeId}{x:Operand}{d:Nat}{take:Bool}{r:EF}{run:IT->Ae->Option J7}{g:BL}{h':Ae}(ho:o.op= .load t x)(hd:o.dst=some d)(hc:L1 C U t x d take=some r)(hp:∃ws,r= .pure ws)
  (FO:r.N3 C run (U.drop r.news) h g h') (hr:C4 C γ0 w0 γ β U h a w):FG C γ0 w0 o a w g h':=by
 have Nj:∀v,(Instr.loadAt t (a.eval x)).run C.P w= .ok v w->(execOp a.eval o).run C.P w= .ok (.value v) w:=λv j=>by simp[execOp,ho,j]
 unfold L1 at hc;split at hc;.cases hc;obtain⟨_,e⟩:=hp;cases e
 .rename_i s off ver cs ow ht ha;obtain⟨hs,hx⟩:=LA hr ha;split at hc
  .rename_i hlt;have dI:cs[off]?=some (cs.getD off .nilIface):=by simp[List.getD,An hlt]
   obtain⟨v,b,c,i⟩:=Ll hr ht hs (r:=cs.getD off .nilIface) (off:=off) (by simpa[Fg] using dI);rw[<-hx] at b;simp only at hc;split at hc
   .rename_i H8;cases hc;rw[OI (by simp)] at FO;obtain⟨rfl,rfl⟩:=FO;simp only[A4,aGK] at H8;obtain⟨⟨k,f⟩,_⟩:=H8;have f:off∉ow.erase off:=by simpa using f
    obtain⟨γ',EC,HM,Fv⟩:=hr.ė hs k f d none dI (i rfl);exact FG.value (Nj v b) (by rw[hd];exact HM.put (d:=some d) λs' jO=>by cases jO;exact⟨BJ.mono EC _ _ c,Fv⟩)
   .cases hc;rw[OI (by simp)] at FO;obtain⟨rfl,rfl⟩:=FO;exact FG.value (Nj v b) (by rw[hd];exact hr.put (d:=some d) λ_ _=>c)
  .cases hc
 .rename_i n s off ver cs ow ht ha;obtain⟨hs,hx⟩:=LA hr ha;split at hc;.rename_i EC;cases hc;rw[OI (by simp)] at FO;obtain⟨rfl,rfl⟩:=FO;obtain⟨v,b,c,_⟩:=Ll hr ht hs (r:= .agg ((cs.drop off).take n)) (off:=off) (by simp[Fg,EC]);rw[<-hx] at b;exact FG.value (Nj v b) (by rw[hd];exact hr.put (d:=some d) λ_ _=>c)
  .cases hc
 .cases hc
def ua{o:Oper}{t:TypeId}{x:Operand}{n:Option Nat}{p r:Aa}(ho:o.op= .load t x)(ht:Fc C.P t=some n)(hx:F9 C U x=some (.ptr p))(hl:Bg h n p=some r)(hr:C4 C γ0 w0 γ β U h a w):
  FG C γ0 w0 o a w (U.put o.dst (.val r)) h:=by
 have c:=R5 hr hx;have Nj:∀v,(Instr.loadAt t (a.eval x)).run C.P w= .ok v w->(execOp a.eval o).run C.P w= .ok (.value v) w:=λv c=>by simp[execOp,ho,c]
 unfold Bg at hl;split at hl
 .rename_i cs;obtain⟨b,k,c,hm⟩:=c;obtain⟨us,i,f⟩:=hm.values;obtain⟨v,d,g⟩:=IG (w:=w) ht i (λj u hj=>(hr.DV.Iw _ _ _ (f j u hj)).1) (λu hu=>by obtain⟨j,hj⟩:=CG hu;exact(hr.DV.Iw _ _ _ (f j u hj)).2.1) hl
  rw[<-c] at d;exact FG.value (Nj v d) (hr.put λ_ _=>g)
 .rename_i id off;obtain⟨b,hb,c⟩:=c;split at hl
  .rename_i cs hcs;obtain⟨us,e,fr,i,pf,f,l⟩:=hr.DV.cells id cs hcs b hb;obtain⟨v,d,g⟩:=IG (w:=w) (b:=b) (o:=off) ht (f.drop off) (λj u hj=>by
    rw[cell_of_row w _ _ us e fr i];rw[Cu,Co] at hj;split at hj;.simpa using hj
    .cases hj) (λu hu=>l u (Bc hu)) (P2 hl)
   rw[<-c] at d;exact FG.value (Nj v d) (hr.put λ_ _=>g)
  .cases hl
 .cases hl
end
end Go.Am
end
section
namespace Go.Am
open Go
section
variable{C:FT}{γ0 γ γ':Gh}{w0 w w':World}{β:Nat->Nat}{U:BL}{h:Ae}{a:Act}{fid:FuncId}{ops:List Oper}
def EI{b:Nat}{t:TypeId}{fr:Nat×Nat}:∀(vs:List Value) (o:Nat) (cur:Array Value) (w:World),w.heap[b]?=some (.cells cur t fr)->o+vs.length<=cur.size->
  w.setCells b o vs=w.setRow b (cur.toList.take o++vs++cur.toList.drop (o+vs.length)).toArray
 |[],o,cur,w,hg,_=>by simp only[World.setCells,A8,AY,Bp,Bl,Array.toArray_toList];exact(setRow_self w b cur t fr hg).symm
 |v::r,o,cur,w,hg,hl=>by simp only[AE] at hl;rw[World.setCells,setCell_eq_setRow w b o cur t fr v hg,EI r (o+1) _ _ (setRow_heap w b cur _ t fr hg) (by simp;omega),setRow_setRow];have e:=list_seg_step cur.toList o v r (by simp;omega);simp only[Array.toList_setIfInBounds,AE];rw[e]
def Pq{t:TypeId}{n b o:Nat}(hn:BR C.P t=some n){u:Value}(hu:u.cells.size=n)(h1:∀x∈u.cells.toList,x.oneCell'=true){cur:Array Value}{e:TypeId}{fr:Nat×Nat}(hg:w.heap[b]?=some (.cells cur e fr))(oU:Um fr cur.size)
  (hl:o+n<=cur.size):(Instr.storeAt t (.pointer (some ⟨b,o,none⟩)) u).run C.P w= .ok () (w.setRow b (cur.toList.take o++u.cells.toList++cur.toList.drop (o+n)).toArray):=by
 have hs:=run_storeCells_cells (P:=C.P) b o u.cells.toList 0 w (λj hj=>by
  rw[cell_of_row w _ _ cur e fr hg];simp at hj;rw[CJ (by omega)];rfl) (λj hj=>by
  simp at hj;simp only[World.frozen?,hg];rcases oU with rfl|oU
  .simp
  .simp;omega) h1
 rw[Bp,EI _ o cur w hg (by simp;omega)] at hs;cases hq:C.P.info? t with
 |none=>simp[BR,hq] at hn
 |some i=>
  have hi:i.size=n:=by simpa[BR,hq] using hn
  simp only[Cd,hu] at hs;simp[Instr.storeAt,Instr.sureAddr,storeVar,sizeOf,typeInfo,hq,hi,hu,hs]
def Xr{Z:Type}{cs vs:List Z}{off n o:Nat}(hl:off+n<=cs.length)(b:vs.length=n)(ho:¬(off<=o/\o<off+n)):(cs.take off++vs++cs.drop (off+n))[o]?=cs[o]?:=by
 have c:(cs.take off).length=off:=by simp;omega
 by_cases h:o<off;.rw[Ah (by simp[b];omega),Ah (by omega),CC h]
 .rw[Bi (by simp[b];omega),Cu];congr 1
  simp[b];omega
def aL{Z:Type}{cs:List Z}{off n:Nat}{x:Z}(hl:off+n<=cs.length):(cs.take off++[x]++cs.drop (off+n))[off]?=some x:=by
 have b:(cs.take off).length=off:=by simp;omega
 rw[Ah (by simp;omega),Bi (by omega)];simp[b]
def Nq{Z:Type}{us vs:List Z}{off n len:Nat}(hl:len<=us.length)(ho:off+n<=len)(b:vs.length=n):
  (us.take off++vs++us.drop (off+n)).take len=(us.take len).take off++vs++(us.take len).drop (off+n):=by
 have d:(us.take off).length=off:=by simp;omega
 have c:(us.take off++vs).length=off+n:=by simp[b];omega
 rw[uU,A7 (by omega),c,Cy,BG (by omega),List.drop_take]
def ON{cs vs:List Aa}{us DB:List Value}{off n:Nat}(h:A3 γ cs us)(h':A3 γ vs DB):A3 γ (cs.take off++vs++cs.drop (off+n)) (us.take off++DB++us.drop (off+n)):=
 ((h.take off).append h').append (h.drop (off+n))
def Jm.aAY{B s b g:Nat}(hg:γ.BN g=some (.loc s)){c:Option Nat}{v:Value}{u:Aa}(DB:Array Value)(ho:Jm γ B w b c v u):Jm γ B (w.setRow g DB) b c v u:=by
 rcases ho with ho|⟨g2,n,cap,us,e,z,As,h1,h2,h3,i,f,d⟩
 .exact .inl ho
 .have hb:g2≠g:=λhe=>by subst he;rw[hg] at h3;cases h3
  exact .inr ⟨g2,n,cap,us,e,z,As,h1,h2,h3,i,by rw[setRow_other w g g2 DB hb];exact f,d⟩
def Xs(γ:Gh)(w:World)(g:Nat)(us:Array Value):QV g γ w γ (w.setRow g us):=
 ⟨.refl _,λb x hb hx _=>⟨hx,setRow_other w g b us hb⟩⟩
def C4.kK(hr:C4 C γ0 w0 γ β U h a w){s ver Gb off n:Nat}{cs:List Aa}{ow:List Nat}(hs:U.at s= .box ver cs ow){vs:List Aa}{DB:List Value}(l:A3 γ vs DB)(h1:∀u∈DB,u.oneCell'=true)(hn:vs.length=n)
  (hl:off+n<=cs.length) {BN:Bool} (Fv:BN=true->∃u x,DB=[u]/\vs=[x]/\Jm γ w0.heap.size w s (some off) u x) {us:Array Value} {e:TypeId} (hg:w.heap[β s]?=some (.cells us e (0,0))):
  C4 C γ0 w0 γ β (U.set s (.box Gb (Xd cs off n vs) (SU ow off n BN))) h a (w.setRow (β s) (us.toList.take off++DB++us.toList.drop (off+n)).toArray):=by
 have h0:=hr.fr.Ir s;rw[hs] at h0;obtain⟨t,c,k,qa,y,j,i,f,r⟩:=h0;rw[hg] at j;cases j;have hlen:DB.length=n:=by rw[l.length,hn]
 have qb:off+n<=us.toList.length:=by rw[i.length];exact hl
 have Ę:s<U.length:=BL.PY (by rw[hs];simp);refine⟨ix hr.DV c _,⟨by simp[hr.fr.size],λd=>?_⟩,hr.DP.write (g:=β s) k (.refl _) (by simp) rfl rfl rfl (λb hb=>⟨setRow_other w _ b _ hb,rfl⟩),hr.defers,hr.Hs⟩;by_cases he:d=s
 .subst he;rw[BL.Fj Ę];refine⟨t,c,k,_,e,setRow_heap w _ us _ e (0,0) hg,?_,?_,?_⟩;.simpa[Xd] using ON (off:=off) (n:=n) i l
  .intro u hu;simp only[AT,Aj] at hu;rcases hu with hu|hu|hu
   .exact f u (AZ hu)
   .exact h1 u hu
   .exact f u (Bc hu)
  .intro o ho;have I9:(BN=true/\o=off)\/(o∈ow/\¬(off<=o/\o<off+n)):=by
    unfold SU at ho;have hf:o∈ow.filter (λo=> !(decide (off<=o)&&decide (o<off+n)))->o∈ow/\¬(off<=o/\o<off+n):=λhm=>by rw[BV] at hm;refine⟨hm.1,λhc=>?_⟩;have:=hm.2;simp[hc.1,hc.2] at this
    cases BN with
    |true=>
     simp only[BM,Aw] at ho;rcases ho with ho|ho
     .exact .inl ⟨rfl,ho⟩
     .exact .inr (hf ho)
    |false=>exact .inr (hf ho)
   rcases I9 with⟨qc,rfl⟩|⟨qc,kL⟩
   .obtain⟨u,x,rfl,rfl,v⟩:=Fv qc;exact⟨u,x,by simpa using aL (x:=u) qb,by simpa[Xd] using aL (x:=x) hl,v.aAY c _⟩
   .obtain⟨u,x,q,p,m⟩:=r o qc;refine⟨u,x,?_,?_,m.aAY c _⟩;.rw[<-q];have:=Xr qb hlen kL;simpa using this
    .rw[<-p];exact Xr hl hn kL
 .rw[BL.FU (λx=>he x.symm)];exact(hr.fr.Ir d).keptBut c (Xs γ w _ _) (by simp only[KK.pD];intro hx;cases hx;exact he rfl)
def P3(hr:C4 C γ0 w0 γ β U h a w){y:Operand}{v:Aa}(hy:Lu C U y=true)(b:ER C U y=some v)(s':Nat)(c':Option Nat):
  ∃γ',γ.le γ'/\C4 C γ0 w0 γ' β (U.DE (De U y)) h a w/\BJ γ' v (a.eval y)/\Jm γ' w0.heap.size w s' c' (a.eval y) v:=by
 unfold Lu at hy;cases hs:D8 C U y with
 |none=>rw[hs] at hy;cases hy
 |some sl=>
  rw[hs] at hy;cases sl with
  |BN u=>
   have d:u=v:=by unfold ER at b;rw[hs] at b;exact C0 b
   subst d;cases y with
   |tmp t=>have ht:U.at t= .BN u:=Ha hs;obtain⟨γ',EC,HM,h1,h2⟩:=hr.take ht s' c';exact⟨γ',EC,by simpa[De,ht,BL.DE] using HM,h1,h2⟩
   |const c=>
    refine⟨γ,.refl _,hr,Gw hr b,?_⟩;obtain⟨q,_⟩:=S1 (γ:=γ) (β:=β) (w:=w) hs;unfold D8 at hs;split at hs;.rename_i e;cases e
    .cases hs
    .cases hs;exact .inl (.inl rfl)
    .rename_i KD;cases KD;cases hc:Lk c with
     |none=>rw[hc] at hs;cases hs
     |some _=>rw[hc] at hs;cases hs
    .rename_i e;cases e
    .cases hs
   |global g=>have jO:(C.Hs g).map (λcs=>Eu.val (Aa.B4 cs))=some (.BN u):=hs;cases hc:C.Hs g<;>rw[hc] at jO<;>cases jO
   |func f=>cases hs
  |_=>cases hy
def pU{B s:Nat}{c:Option Nat}{v:Value}{x:Aa}(h:Jm γ B w s c v x):x.cells=[x]:=by rcases h with(rfl|⟨_,rfl⟩)|⟨_,_,_,_,_,_,_,rfl,_⟩<;>rfl
def pV{o:Oper}{t:TypeId}{x y:Operand}{s off n ver:Nat}{v:Aa}{BN:Bool}{c:Option (Nat×Aa)}{cells:List Aa}{owned:List Nat}{run:IT->Ae->Option J7}{j:BL}{h':Ae}(ho:o.op= .store t x y)(hd:o.dst=none)
  (hc:JA C U t x y=some (.NH s off n v BN c ver cells owned)) (FO:(EF.NH s off n v BN c ver cells owned).N3 C run U h j h') (hr:C4 C γ0 w0 γ β U h a w):FG C γ0 w0 o a w j h':=by
 unfold JA at hc;split at hc;.cases hc
 .rename_i m sh s' ub Gb GW OA v' KT oV ha i;split at hc
  .rename_i hl;simp only[Bx,EF.NH.injEq] at hc;obtain⟨rfl,rfl,rfl,rfl,Fv,Zw,rfl,rfl,rfl⟩:=hc;obtain⟨hn,rfl,rfl⟩:=FO;obtain⟨hs,hx⟩:=LA hr ha;have vQ:=Gw hr i;obtain⟨_,_,us,e,hg,l,p,_⟩:=hr.aK hs;have Ę:ub+(m+1)<=us.size:=by have:=l.length;simp at this;omega
   obtain⟨f,d⟩:=Hz vQ (by omega);have pW:(a.eval y).cells.size=m+1:=by have:=f.length;simp at this;omega
   have Jl:=Pq (C:=C) (b:=β s') (o:=ub) KT pW d hg (.inl rfl) Ę;rw[<-hx] at Jl;have Nj:(execOp a.eval o).run C.P w= .ok .skip (w.setRow (β s') (us.toList.take ub++(a.eval y).cells.toList++us.toList.drop (ub+(m+1))).toArray):=by simp[execOp,ho,Jl]
   by_cases hw:BN=true
   .subst hw;rw[if_pos Fv] at Zw;subst Zw;simp only[A4] at Fv;obtain⟨k,EC,J8,h1,h2⟩:=P3 hr Fv.2 i s' (some ub);have ę:=pU h2;have Lm:(U.DE (De U y)).at s'= .box Gb GW OA:=by
     cases y with
     |tmp t'=>
      simp only[De];cases ht:U.at t' with
      |BN u=>simp only[BL.DE];rw[BL.FU (λe=>by rw[e,hs] at ht;cases ht)];exact hs
      |_=>exact hs
     |_=>exact hs
    have MH:=J8.kK (Gb:=Gb+1) (BN:=true) (n:=m+1) Lm (A3.mono EC _ _ f) d hn hl (λ_=>?_) hg;.exact FG.skip Nj (by rw[hd];exact MH)
    .have hcl:(a.eval y).cells=#[a.eval y]:=by
      rcases h2 with(h2|⟨z,h2⟩)|⟨_,_,_,_,_,_,_,_,h2,_⟩
      .subst h2;rw[show a.eval y=_ from h1];rfl
      .subst h2;obtain⟨_,h1⟩:=h1;rw[h1];rfl
      .rw[h2];rfl
     exact⟨a.eval y,v',by rw[hcl],ę,h2⟩
   .have g:BN=false:=by simpa using hw
    subst g;rw[if_neg (by rw[Fv];simp)] at Zw;subst Zw;exact FG.skip Nj (by rw[hd];exact hr.kK (Gb:=Gb+1) (BN:=false) hs f d hn hl (λe=>by cases e) hg)
  .cases hc
 .cases hc
def jh{o:Oper}{t:TypeId}{x y:Operand}{n:Nat}{p v:Aa}{h':Ae}(ho:o.op= .store t x y)(hd:o.dst=none)(KT:BR C.P t=some (n+1))(hx:F9 C U x=some (.ptr p))(l:ER C U y=some v)(Jl:CR h (n+1) p v=some h')(hr:C4 C γ0 w0 γ β U h a w):
  FG C γ0 w0 o a w U h':=by
 have c:=R5 hr hx;have vQ:=Gw hr l;unfold CR at Jl;split at Jl
 .rename_i id off;obtain⟨b,hb,d⟩:=c;split at Jl
  .rename_i cs hcs;split at Jl
   .rename_i hl;cases Jl;obtain⟨us,e,fr,hg,pf,k,j⟩:=hr.DV.cells id cs hcs b hb;obtain⟨i,g⟩:=Hz vQ (by omega);have pW:(a.eval y).cells.size=n+1:=by have:=i.length;simp at this;omega
    have hlt:cs.length<=us.size:=by have:=k.length;simp at this;omega
    have Ę:off+(n+1)<=us.size:=by omega
    have AI:=Pq (C:=C) (b:=b) (o:=off) KT pW g hg pf Ę;rw[<-d] at AI;obtain⟨hi,ha⟩:=N1 hr.DV hcs hb hg (us.toList.take off++(a.eval y).cells.toList++us.toList.drop (off+(n+1))).toArray (cs.take off++v.cells++cs.drop (off+(n+1)))
     (by simp only[BT,Ai,Av,A5,Cd,pW];omega)
     (by
      rcases pf with rfl|pf
      .exact .inl rfl
      .refine .inr (Bn (M5 ?_) pf);simp only[BT,Ai,Av,A5,Cd,pW];omega)
     (by
      have:=ON (off:=off) (n:=n+1) k i;rw[<-Nq (by simpa using hlt) hl.2 (by simpa using pW)] at this;have f:(cs.take off++v.cells++cs.drop (off+(n+1))).length=cs.length:=by simp[hl.1];omega
      rw[f];simpa using this) (λu hu=>by
      have f:(cs.take off++v.cells++cs.drop (off+(n+1))).length=cs.length:=by simp[hl.1];omega
      rw[f] at hu;simp only[Lc] at hu;rw[Nq (by simpa using hlt) hl.2 (by simpa using pW)] at hu;simp only[AT,Aj] at hu;rcases hu with hu|hu|hu
      .exact j u (AZ hu)
      .exact g u hu
      .exact j u (Bc hu))
    have Nj:(execOp a.eval o).run C.P w= .ok .skip (w.setRow b (us.toList.take off++(a.eval y).cells.toList++us.toList.drop (off+(n+1))).toArray):=by simp[execOp,ho,AI]
    exact FG.skip Nj (by rw[hd];exact hr.I8 hi ha)
   .cases Jl
  .cases Jl
 .cases Jl
def C4.freeze(hr:C4 C γ0 w0 γ β U h a w){s ver:Nat}{cs:List Aa}{ow:List Nat}(hs:U.at s= .box ver cs ow):
  ∃γ',γ.le γ'/\C4 C γ0 w0 γ' β (U.set s (.val (.B4 cs))) h a w/\BJ γ' (.B4 cs) (a.tmps.getD s undef):=by
 have h0:=hr.fr.Ir s;rw[hs] at h0;obtain⟨A,f,D,us,e,z,t,m,B⟩:=h0;have Ę:s<U.length:=BL.PY (by rw[hs];simp);have tj:∀o,γ.Iw (β s) o=none:=λo=>by
  cases hc:γ.Iw (β s) o with
  |none=>rfl
  |some u=>obtain⟨_,_,q⟩:=hr.DV.Iw _ _ _ hc;rw[f] at q;rcases q with q|⟨_,_,_,q,_⟩<;>cases q
 have EC:γ.le (γ.Dk (β s) us us.size none):=⟨λb o v hb=>by
  have:b≠β s:=λe=>by rw[e,tj] at hb;cases hb
  simp only[Gh.Dk,if_neg this];exact hb,λ_ _ hm=>hm,λ_ _ hm=>hm⟩
 have hne:∀b id,γ.BN b=some (.Ng id)->b≠β s:=λb id hb e=>by rw[e,f] at hb;cases hb
 have hk:QV (β s) γ w (γ.Dk (β s) us us.size none) w:=⟨EC,λb x hb hx _=>⟨by simp only[Gh.Dk,if_neg hb];exact hx,rfl⟩⟩;have k:BJ (γ.Dk (β s) us us.size none) (.B4 cs) (a.tmps.getD s undef):=by
  refine⟨β s,0,A,CU.GZ λi x hi=>?_⟩;obtain⟨u,d,c⟩:=t.get hi;have hlt:i<us.size:=by have:=(Af.1 d).1;simpa using this
  exact⟨u,by simp only[Gh.Dk,BM,By,if_pos hlt];simpa using d,BJ.mono EC _ _ c⟩
 have aCe:∀b n,γ.sz b=some n->(∃us e fr,w.heap[b]?=some (.cells us e fr)/\us.size=n)/\((γ.Dk (β s) us us.size none).BN b=none\/∃id,(γ.Dk (β s) us us.size none).BN b=some (.Ng id)):=λb n hb=>by
  obtain⟨p,r⟩:=hr.DV.sz b n hb;by_cases he:b=β s;.subst he;exact⟨p,.inl (by simp[Gh.Dk])⟩
  .exact⟨p,by simp only[Gh.Dk,if_neg he];exact r⟩
 refine⟨_,EC,⟨⟨λb o v hb=>?_,λid y Iy hy=>?_,λid GW hc b hb=>?_,λid es hc b hb=>?_,hr.DV.mu,λb x hx=>?_,aCe⟩,⟨by simp[hr.fr.size],λj=>?_⟩,?_,hr.defers,λx GW hx=>CU.mono EC _ _ _ (hr.Hs x GW hx)⟩,k⟩
 .by_cases he:b=β s
  .subst he;simp only[Gh.Dk,BM] at hb⊢;split at hb;.exact⟨by rw[cell_of_row _ _ _ us e (0,0) z];exact hb,m v (by rw[AM] at hb;obtain⟨p,q⟩:=hb;rw[<-q];exact Array.getElem_mem_toList p),.inl (by simp)⟩
   .cases hb
  .simp only[Gh.Dk,if_neg he] at hb⊢;exact hr.DV.Iw b o v hb
 .obtain⟨b,d,c⟩:=hr.DV.Ng id y Iy hy;exact⟨b,d,by simp only[Gh.Dk,if_neg (hne b id c)];exact c⟩
 .obtain⟨DB,g,iw,d,qf,c,l⟩:=hr.DV.cells id GW hc b hb;exact⟨DB,g,iw,d,qf,A3.mono EC _ _ c,l⟩
 .obtain⟨DB,g,d,c⟩:=hr.DV.map id es hc b hb;exact⟨DB,g,d,c.mono EC⟩
 .by_cases he:b=β s;.subst he;exact hr.DV.BN _ _ f
  .simp only[Gh.Dk,if_neg he] at hx;exact hr.DV.BN b x hx
 .by_cases he:j=s;.subst he;rw[BL.Fj Ę];exact k
  .rw[BL.FU (λx=>he x.symm)];exact(hr.fr.Ir j).keptBut f hk (by simp only[KK.pD];intro hx;cases hx;exact he rfl)
 .refine⟨hr.DP.le.trans EC,hr.DP.size,hr.DP.os,hr.DP.tape,hr.DP.output,λb hb hn=>?_⟩;obtain⟨d,c⟩:=hr.DP.OF b hb hn;exact⟨d,by simp only[Gh.Dk,if_neg (show b≠β s by omega)];exact c⟩
def C4.aM:∀{fz:List (Nat×List Aa)} {γ:Gh} {U:BL},C4 C γ0 w0 γ β U h a w->(∀p∈fz,∃ver ow,U.at p.1= .box ver p.2 ow)->(fz.map (·.1)).Nodup->
  ∃γ',γ.le γ'/\C4 C γ0 w0 γ' β (U.EG (fz.map λ(s,cs)=>(s,.val (.B4 cs)))) h a w/\∀p∈fz,BJ γ' (.B4 p.2) (a.tmps.getD p.1 undef)
 |[],γ,U,hr,_,_=>⟨γ,.refl _,hr,by simp⟩
 |(s,cs)::fz,γ,U,hr,hb,hn=>by
  simp only[Bd,BW] at hn;obtain⟨ver,ow,hs⟩:=hb (s,cs) (by simp);obtain⟨d,aLt,J8,Ě⟩:=hr.freeze hs;obtain⟨b,kM,MH,Ws⟩:=aM (fz:=fz) J8 (λp hp=>by obtain⟨Gb,OA,c⟩:=hb p (by simp[hp]);refine⟨Gb,OA,?_⟩;rw[BL.FU (λe=>hn.1 (by rw[show s=p.1 from e];exact Bb.2 ⟨p,hp,rfl⟩))];exact c) hn.2
  refine⟨b,aLt.trans kM,MH,λp hp=>?_⟩;rcases Aw.1 hp with rfl|hp
  .exact BJ.mono kM _ _ Ě
  .exact Ws p hp
def RB:∀{xs:List Operand} {vs:List Aa} {fz:List (Nat×List Aa)},Hw C U xs=some (vs,fz)->
  (∀p∈fz,∃ver ow,U.at p.1= .box ver p.2 ow)/\(fz.map (·.1)).Nodup/\
  ∀γ',(∀x u,ER C U x=some u->BJ γ' u (a.eval x))->(∀p∈fz,BJ γ' (.B4 p.2) (a.tmps.getD p.1 undef))->A3 γ' vs (xs.map a.eval)
 |[],vs,fz,hc=>by cases hc;exact⟨by simp,by simp,λ_ _ _=>rfl⟩
 |x::xs,vs,fz,hc=>by
  unfold Hw at hc;split at hc;.cases hc
  .rename_i H7 f d;obtain⟨h1,h2,h3⟩:=RB d;split at hc
   .rename_i s ver cs ow hs;split at hc;.cases hc
    .rename_i hn;cases hc;have hsb:U.at s= .box ver cs ow:=Ha hs;refine⟨λp hp=>?_,?_,λγ' c b=>?_⟩
     .rcases Aw.1 hp with rfl|hp
      .exact⟨ver,ow,hsb⟩
      .exact h1 p hp
     .simp only[Bd,BW];exact⟨by simpa using hn,h2⟩
     .exact⟨_,_,rfl,b (s,cs) (by simp),h3 γ' c λp hp=>b p (by simp[hp])⟩
   .rename_i sl _ hs;cases e:sl.Hv with
    |none=>rw[e] at hc;cases hc
    |some u=>rw[e] at hc;cases hc;exact⟨h1,h2,λγ' c b=>⟨_,_,rfl,c _ u (by unfold ER;rw[hs];exact e),h3 γ' c b⟩⟩
   .cases hc
def kN{o:Oper}{fn:Fn}{first captured:Array Operand}{d:Nat}{as bs:List Aa}{fz:List (Nat×List Aa)}(ho:o.op= .makeFunc fn first captured)(hd:o.dst=some d)(ha:Bm C U first.toList=some as)(hb:Hw C U captured.toList=some (bs,fz))(hr:C4 C γ0 w0 γ β U h a w):
  FG C γ0 w0 o a w (((U.drop (fz.map (·.1))).EG (fz.map λ(s,cs)=>(s,.val (.B4 cs)))).set d (.val (.func fn as bs))) h:=by
 obtain⟨h1,h2,h3⟩:=RB (a:=a) hb;obtain⟨γ',EC,HM,b⟩:=(hr.drop (fz.map (·.1))).aM (fz:=fz) (λp hp=>by obtain⟨ver,ow,hs⟩:=h1 p hp;exact⟨ver,ow,by rw[BL.Wq,hs]⟩) h2
 refine FG.value (w':=w) (v:= .func fn (first.map a.eval) (captured.map a.eval)) (by simp[execOp,ho,Instr.makeFunc]) (by rw[hd];exact HM.put (d:=some d) λ_ _=>⟨_,_,rfl,by simpa using A3.mono EC _ _ (DQ hr ha),by simpa using h3 γ' (λx u hx=>BJ.mono EC _ _ (Gw hr hx)) b⟩)
end
end Go.Am
end
