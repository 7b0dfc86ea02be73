/- Lemmas -/
import Derived.Test.YtljddgipdchkiaaGreatDoorB3
import Derived.Laws.IdiomCopy
set_option linter.all false
section
namespace Go.Am
open Go
def jf(β:Nat->Nat)(d b:Nat):Nat->Nat:=λs=>if s=d then b else β s
def KC.pI:KC->Option Nat
 | .Md _=>none
 | .loc s=>some s
 | .tail s _ _=>some s
structure P8(g:Nat)(γ:Gh)(w:World)(γ':Gh)(w':World):Prop where
 le:γ.le γ'
 N3:∀b x,b≠g->γ.Bt b=some x->x.lg=false->γ'.Bt b=some x/\w'.heap[b]?=w.heap[b]?
section
variable{C:FW}{γ0 γ γ':Gh}{w0 w w':World}{β:Nat->Nat}{U:BR}{h:Ah}{a:Act}{fid:FuncId}{ops:List Oper}
def BR.R6(U:BR)(ds:List Nat)(s:Nat):(U.drop ds).at s=match U.at s with| .Fk t o=>if ds.contains t then .undef else .Fk t o|x=>x:=by
 cases ds with
 |nil=>simp only[BR.drop,List.contains_nil];cases U.at s<;>simp
 |cons d ds=>
  simp only[BR.drop,BR.at,List.getD,Cl];cases hg:U[s]? with
  |none=>rfl
  |some x=>cases x<;>rfl
def BR.length_drop(U:BR)(ds:List Nat):(U.drop ds).length=U.length:=by cases ds<;>simp[BR.drop]
def LB.aIV{B s d b:Nat}{x:En}{v:Value}(hx:LB γ β B w s x v)(hn:∀o,x≠ .Fk d o)(hs:s≠d):LB γ (jf β d b) B w s x v:=by
 cases x with
 |box ver cs ow=>simpa only[LB,jf,Ac hs] using hx
 |Fk t o=>have:t≠d:=λe=>hn o (by rw[e]);simpa only[LB,jf,Ac this] using hx
 |_=>exact hx
def IU.keptBut{g B s:Nat}{d:KC}(hg:γ.Bt g=some d)(k:P8 g γ w γ' w')(hne:d.pI≠some s){c:Option Nat}{v:Value}{u:Aa}(ho:IU γ B w s c v u):IU γ' B w' s c v u:=by
 rcases ho with ho|⟨g2,n,cap,us,e,z,AD,h1,h2,b,m,l,j⟩
 .exact .inl ho
 .have hb:g2≠g:=λhe=>by subst he;rw[hg] at b;cases b;exact hne rfl
  obtain⟨i,f⟩:=k.N3 g2 _ hb b rfl;exact .inr ⟨g2,n,cap,us,e,z,AD,h1,h2,i,m,by rw[f];exact l,j⟩
def LB.keptBut{g B s:Nat}{d:KC}(hg:γ.Bt g=some d)(k:P8 g γ w γ' w')(hne:d.pI≠some s){x:En}{v:Value}(hx:LB γ β B w s x v):LB γ' β B w' s x v:=by
 cases x with
 |undef=>trivial
 |skip=>exact hx
 |val u=>exact BO.mono k.le u v hx
 |OS b=>exact hx
 |Bt u=>exact⟨BO.mono k.le u v hx.1,hx.2.keptBut hg k hne⟩
 |box ver cs ow=>
  obtain⟨r,c,q,us,e,p,n,m,l⟩:=hx;have hb:β s≠g:=λhe=>by rw[he,hg] at c;cases c;exact hne rfl
  obtain⟨y,t⟩:=k.N3 _ _ hb c rfl;exact⟨r,y,q,us,e,by rw[t];exact p,Bg.mono k.le cs _ n,m,λo ho=>let⟨u,v,j,i,f⟩:=l o ho;⟨u,v,j,i,f.keptBut hg k hne⟩⟩
 |Fk s' o=>exact hx
def C9.mb(hr:C9 C γ0 w0 γ β U h a w)(d:Nat)(us:Array Value)(e:TypeId)(cells:List Aa)(ow:List Nat)(hc:Bg γ cells us.toList)(h1:∀u∈us.toList,u.oneCell'=true)
  (how:∀o∈ow,cells[o]?=some .slnil):
  ∃γ' b,C9 C γ0 w0 γ' b ((U.drop [d]).set d (.box 0 cells ow)) h (a.put (some d) (.pointer (some ⟨w.heap.size,0,none⟩))) (w.alloc (.cells us e)):=by
 obtain⟨hi,ha⟩:=Pd hr.D3 us e (0,0) 0 (some (.loc d)) (λ_ _ ho=>absurd ho (Nat.not_lt_zero _)) (.inr (.inr ⟨rfl,AH⟩));have Kt:=(hr.drop [d]).Jb hi ha;refine⟨_,jf β d w.heap.size,Kt.D3,⟨by simp[Act.put,Kt.fr.size],λs=>?_⟩,Kt.DW,Kt.defers,Kt.GZ⟩;have hs:=Kt.fr.Ii s;by_cases he:s=d
 .subst he;by_cases hl:s<(U.drop [s]).length
  .have c:s<a.tmps.size:=by rw[<-Kt.fr.size];exact hl
   rw[BR.Fv hl];have i:(a.put (some s) (.pointer (some ⟨w.heap.size,0,none⟩))).tmps.getD s undef= .pointer (some ⟨w.heap.size,0,none⟩):=by simp[Act.put,Array.getD,c]
   rw[i];refine⟨by simp[jf],by simp[jf,Gh.Ds],?_,us,e,?_,Bg.mono ha.le _ _ hc,h1,λo ho=>?_⟩;.simp only[jf,BL];exact hr.DW.size
   .simp only[jf,BL];exact heap_alloc_new w _
   .have hco:=how o ho;obtain⟨u,f,j⟩:=hc.get hco;exact⟨u,.slnil,by simpa using f,hco,.inl (.inl rfl)⟩
  .have:BR.at ((U.drop [s]).set s (.box 0 cells ow)) s= .undef:=by simp[BR.at,List.getD];rw[D9 (by simpa using hl)];rfl
   rw[this];trivial
 .rw[BR.Gd (λe=>he e.symm)];have g:(a.put (some d) (.pointer (some ⟨w.heap.size,0,none⟩))).tmps.getD s undef=a.tmps.getD s undef:=by simp[Act.put,Hi,pD (λe=>he e.symm)]
  rw[g];refine hs.aIV (λo ho=>?_) he;rw[BR.R6] at ho;cases hx:U.at s with
  |Fk t o'=>
   rw[hx] at ho;simp only at ho;split at ho;.cases ho
   .rename_i hc;cases ho;exact hc AH
  |_=>rw[hx] at ho;cases ho
def H6{P:Program}{t:TypeId}{z:Aa}(hz:Ha P t=some z):∃v,KV v=some z/\∀w,(zeroValue t).run P w= .ok v w:=by
 unfold Ha at hz;cases hi:P.info? t with
 |none=>rw[hi] at hz;cases hz
 |some i=>
  rw[hi] at hz;cases hv:i.zero with
  |none=>simp[hv] at hz
  |some v=>simp only[Ct,hv] at hz;exact⟨v,hz,λw=>by simp[zeroValue,typeInfo,hi,hv]⟩
def pZ{cs:List Aa}{o:Nat}(h:o∈Wt cs):cs[o]?=some .slnil:=by
 simp only[Wt,DH,List.mem_range] at h;obtain⟨h1,h2⟩:=h;simp only[List.getD,Ai h1,Hm] at h2;rw[Ai h1];split at h2;.rename_i he;rw[he]
 .cases h2
def FU(C:FW)(γ0:Gh)(w0:World)(o:Oper)(a:Act)(w:World)(c:BR)(h':Ah):Prop:=
 ∃γ' b w',(∃v,(execOp a.eval o).run C.P w= .ok (.value v) w'/\C9 C γ0 w0 γ' b c h' (a.put o.dst v) w')\/((execOp a.eval o).run C.P w= .ok .skip w'/\C9 C γ0 w0 γ' b c h' (a.put o.dst undef) w')
def FU.value{o:Oper}{c:BR}{h':Ah}{b:Nat->Nat}{v:Value}(he:(execOp a.eval o).run C.P w= .ok (.value v) w')(hr:C9 C γ0 w0 γ' b c h' (a.put o.dst v) w'):FU C γ0 w0 o a w c h':=⟨γ',b,w',.inl ⟨v,he,hr⟩⟩
def FU.skip{o:Oper}{c:BR}{h':Ah}{b:Nat->Nat}(he:(execOp a.eval o).run C.P w= .ok .skip w')(hr:C9 C γ0 w0 γ' b c h' (a.put o.dst undef) w'):FU C γ0 w0 o a w c h':=⟨γ',b,w',.inr ⟨he,hr⟩⟩
def WJ{o:Oper}{t:TypeId}{d:Nat}{z:Aa}(ho:o.op= .alloc t)(hd:o.dst=some d)(hz:Ha C.P t=some z)(hn:z.cells≠[])(hr:C9 C γ0 w0 γ β U h a w):
  FU C γ0 w0 o a w ((U.drop [d]).set d (.box 0 z.cells (Wt z.cells))) h:=by
 obtain⟨v,hv,A0⟩:=H6 hz;obtain⟨e,c⟩:=Hs (γ:=γ) (Fu hv) (EC.2 hn);obtain⟨γ',b,FX⟩:=hr.mb d v.cells t z.cells (Wt z.cells) e c (λo=>pZ);refine FU.value (v:= .pointer (some ⟨w.heap.size,0,none⟩)) ?_ (by rw[hd];exact FX);simp[execOp,ho,Instr.alloc,A0,newVar,newRow]
def bU{o:Oper}{t:TypeId}{x:Operand}{d n:Nat}{v:Aa}(ho:o.op= .box t x)(hd:o.dst=some d)(hx:E5 C U x=some v)(hv:v.cells.length=n)(hn:n≠0)(hr:C9 C γ0 w0 γ β U h a w):
  FU C γ0 w0 o a w ((U.drop [d]).set d (.box 0 v.cells [])) h:=by
 obtain⟨e,c⟩:=Hs (GI hr hx) Ab;obtain⟨γ',b,FX⟩:=hr.mb d (a.eval x).cells t v.cells [] e c AH;refine FU.value (v:= .pointer (some ⟨w.heap.size,0,none⟩)) ?_ (by rw[hd];exact FX);simp[execOp,ho,Instr.box,newVar,newRow]
def C9.newObj(hr:C9 C γ0 w0 γ β U h a w)(us:Array Value)(e:TypeId)(fr:Nat×Nat)(cells:List Aa)(vI:Tm fr us.size)(hc:Bg γ cells (us.toList.take cells.length))(h1:∀u∈us.toList.take cells.length,u.oneCell'=true):
  ∃γ',γ.le γ'/\γ'.mu h.length=some w.heap.size/\C9 C γ0 w0 γ' β U (h++[.cells cells]) a (w.alloc (.cells us e fr))/\γ'.sz w.heap.size=some us.size:=by
 obtain⟨hi,ha⟩:=GM hr.D3 (.cells us e fr) (.cells cells) (some us.size) (.inl ⟨cells,us,e,fr,rfl,rfl,vI,hc,h1,rfl⟩);exact⟨_,ha.le,by simp[Gh.B0],hr.Jb hi ha,by simp[Gh.B0]⟩
def WK{o:Oper}{t:TypeId}{z:Aa}{d:Option Nat}(ho:o.op= .alloc t)(hd:o.dst=d)(hz:Ha C.P t=some z)(hn:z.cells.length≠0)(hr:C9 C γ0 w0 γ β U h a w):
  FU C γ0 w0 o a w (U.put d (.val (.ptr (some (h.length,0))))) (h++[.cells z.cells]):=by
 obtain⟨v,hv,A0⟩:=H6 hz;obtain⟨b,c⟩:=Hs (γ:=γ) (Fu hv) Ab;obtain⟨γ',Ej,hm,FX,_⟩:=hr.newObj v.cells t (0,0) z.cells (.inl rfl) (by rw[AG (by rw[b.length];exact Ag _)];exact b) (λu hu=>c u (Bm hu));refine FU.value (v:= .pointer (some ⟨w.heap.size,0,none⟩)) ?_ (by rw[hd];exact FX.put λs _=>⟨_,hm,rfl⟩);simp[execOp,ho,Instr.alloc,A0,newVar,newRow]
def bV{o:Oper}{t:TypeId}{x:Operand}{d:Option Nat}{v:Aa}(ho:o.op= .box t x)(hd:o.dst=d)(hx:E5 C U x=some v)(hn:v.cells.length≠0)(hr:C9 C γ0 w0 γ β U h a w):
  FU C γ0 w0 o a w (U.put d (.val (.ptr (some (h.length,0))))) (h++[.cells v.cells]):=by
 obtain⟨b,c⟩:=Hs (GI hr hx) Ab;obtain⟨γ',Ej,hm,FX,_⟩:=hr.newObj (a.eval x).cells t (0,0) v.cells (.inl rfl) (by rw[AG (by rw[b.length];exact Ag _)];exact b) (λu hu=>c u (Bm hu));refine FU.value (v:= .pointer (some ⟨w.heap.size,0,none⟩)) ?_ (by rw[hd];exact FX.put λs _=>⟨_,hm,rfl⟩);simp[execOp,ho,Instr.box,newVar,newRow]
def Lg(hr:C9 C γ0 w0 γ β U h a w){x:Operand}{s o ver:Nat}{cs:List Aa}{ow:List Nat}(hx:Gj C U x=some (.O9 s o ver cs ow)):
  U.at s= .box ver cs ow/\a.eval x= .pointer (some ⟨β s,o,none⟩):=by
 unfold Gj at hx;split at hx;.rename_i s' Gm GX NX hs;cases hx;have h0:=RY hr s;rw[Hd hs] at h0;exact⟨Hd hs,h0.1⟩
 .rename_i s' o' _ hs;split at hx;.rename_i hb;cases hx;obtain⟨t,h1,_⟩:=Gp hr hs;exact⟨hb,h1⟩
  .cases hx
 .rename_i sl _ _ hs;cases hv:sl.Hq with
  |none=>rw[hv] at hx;cases hx
  |some u=>rw[hv] at hx;cases hx
 .cases hx
def Re(hr:C9 C γ0 w0 γ β U h a w){x:Operand}{p:Aa}(hx:Gj C U x=some (.ptr p)):BO γ p (a.eval x):=by
 unfold Gj at hx;split at hx;.cases hx
 .split at hx<;>cases hx
 .rename_i sl _ _ hs;cases hv:sl.Hq with
  |none=>rw[hv] at hx;cases hx
  |some u=>rw[hv] at hx;cases hx;obtain⟨t,h1,_⟩:=Gp hr hs;exact Nq h1 hv
 .cases hx
def Iv{t:TypeId}{n:Option Nat}(ht:Fp C.P t=some n){cs:List Aa}{us:List Value}{b o:Nat}(hv:Bg γ cs us)(hc:∀(j:Nat) (u:Value),us[j]?=some u->w.cell? ⟨b,o+j,none⟩=some u)(h1:∀u∈us,u.oneCell'=true)
  {r:Aa} (hp:Ft cs 0 n=some r):∃v,(Instr.loadAt t (.pointer (some ⟨b,o,none⟩))).run C.P w= .ok v w/\BO γ r v:=by
 unfold Fp at ht;have Nr:∀j,(⟨b,o,none⟩:Addr).add j=⟨b,o+j,none⟩:=λj=>by unfold Addr.add;split<;>simp_all
 have agg:∀d,C.P.underlying t=some d->(match d with| .struct _| .array _ _=>true|_=>false)=true->(B3 C.P t).map some=some n->
   ∃v,(Instr.loadAt t (.pointer (some ⟨b,o,none⟩))).run C.P w= .ok v w/\BO γ r v:=by
  intro d hd hb hn;cases hs:B3 C.P t with
  |none=>rw[hs] at hn;cases hn
  |some k=>
   rw[hs] at hn;cases hn;simp only[Ft] at hp;split at hp
   .rename_i hk;cases hp;have hl:=run_loadCells_list (P:=C.P) w ⟨b,o,none⟩ (us.take k) (λj v hj=>by
     rw[Nr];refine hc j v ?_;rw[Ch] at hj;split at hj;.exact hj
     .cases hj)
    have hlen:(us.take k).length=k:=by simp[hv.length];omega
    rw[hlen] at hl;refine⟨.agg (us.take k).toArray,?_,_,rfl,?_,λu hu=>h1 u (Bm (by simpa using hu))⟩
    .have p8:(isAgg t).run C.P w= .ok true w:=by unfold isAgg;rw[Sem.run_bind,run_underlying hd w];cases d<;>simp_all
     cases hq:C.P.info? t with
     |none=>simp[B3,hq] at hs
     |some i=>
      have hi:i.size=k:=by simpa[B3,hq] using hs
      simp[Instr.loadAt,Instr.sureAddr,loadVar,p8,sizeOf,typeInfo,hq,hi,hl]
    .simpa using hv.take k
   .cases hp
 split at ht;.rename_i fs hd;exact agg _ hd rfl ht
 .rename_i l e hd;exact agg _ hd rfl ht
 .rename_i d Na Tb hd;cases ht;simp only[Ft] at hp;obtain⟨u,hu,hr⟩:=hv.get hp;refine⟨u,?_,hr⟩;have p8:(isAgg t).run C.P w= .ok false w:=by unfold isAgg;rw[Sem.run_bind,run_underlying hd w];cases d<;>simp_all
  have JV:=hc 0 u hu;simp only[Bs] at JV;simp[Instr.loadAt,Instr.sureAddr,loadVar,p8,JV]
 .cases ht
def Pj{cs:List Aa}{off:Nat}{n:Option Nat}{r:Aa}(h:Ft cs off n=some r):Ft (cs.drop off) 0 n=some r:=by
 cases n with
 |none=>simp only[Ft] at h⊢;rw[Cr];simpa using h
 |some n=>
  simp only[Ft] at h⊢;split at h;.cases h;rw[Ae Ee];simp
  .cases h
def C9.ZL(hr:C9 C γ0 w0 γ β U h a w){s ver:Nat}{cs:List Aa}{ow:List Nat}(hs:U.at s= .box ver cs ow):
  γ.Bt (β s)=some (.loc s)/\w0.heap.size<=β s/\∃us e,w.heap[β s]?=some (.cells us e (0,0))/\Bg γ cs us.toList/\(∀u∈us.toList,u.oneCell'=true)/\
   ∀o∈ow,∃u x,us[o]?=some u/\cs[o]?=some x/\IU γ w0.heap.size w s (some o) u x:=by
 have h0:=hr.fr.Ii s;rw[hs] at h0;exact⟨h0.2.1,h0.2.2.1,h0.2.2.2⟩
def KX(hr:C9 C γ0 w0 γ β U h a w){t:TypeId}{n:Option Nat}(ht:Fp C.P t=some n){s ver off:Nat}{cs:List Aa}{ow:List Nat}(hs:U.at s= .box ver cs ow){r:Aa}(hp:Ft cs off n=some r):
  ∃v,(Instr.loadAt t (.pointer (some ⟨β s,off,none⟩))).run C.P w= .ok v w/\BO γ r v/\(n=none->∀us e,w.heap[β s]?=some (.cells us e (0,0))->us[off]?=some v):=by
 obtain⟨_,_,us,e,h1,h2,g,_⟩:=hr.ZL hs;obtain⟨v,c,f⟩:=Iv (w:=w) (b:=β s) (o:=off) ht (h2.drop off) (λj u hj=>by rw[cell_of_row w _ _ us e (0,0) h1];rw[Cr] at hj;simpa using hj) (λu hu=>g u (BB hu)) (Pj hp)
 refine⟨v,c,f,λhn DK i Ł=>?_⟩;subst hn;rw[h1] at Ł;cases Ł;simp only[Ft] at hp;obtain⟨u,hu,_⟩:=h2.get hp;have JV:w.cell? ⟨β s,off,none⟩=some u:=by rw[cell_of_row w _ _ us e (0,0) h1];simpa using hu
 have p8:∃d,C.P.underlying t=some d/\(isAgg t).run C.P w= .ok false w:=by
  unfold Fp at ht;split at ht;.cases hz:B3 C.P t<;>rw[hz] at ht<;>cases ht
  .cases hz:B3 C.P t<;>rw[hz] at ht<;>cases ht
  .rename_i d Na Tb hd;refine⟨d,hd,?_⟩;unfold isAgg;rw[Sem.run_bind,run_underlying hd w];cases d<;>simp_all
  .cases ht
 obtain⟨d,hd,p8⟩:=p8;have:(Instr.loadAt t (.pointer (some ⟨β s,off,none⟩))).run C.P w= .ok u w:=by simp[Instr.loadAt,Instr.sureAddr,loadVar,p8,JV]
 rw[c] at this;cases this;simpa using hu
def C9.xy(hr:C9 C γ0 w0 γ β U h a w){s ver off:Nat}{cs:List Aa}{ow:List Nat}(hs:U.at s= .box ver cs ow)(ho:off∈ow)(xd:off∉ow.erase off)(s':Nat)(c':Option Nat){u:Value}{v:Aa}(hv:cs[off]?=some v)
  (hu:∀us e,w.heap[β s]?=some (.cells us e (0,0))->us[off]?=some u):
  ∃γ',γ.le γ'/\C9 C γ0 w0 γ' β (U.set s (.box (ver+1) cs (ow.erase off))) h a w/\IU γ' w0.heap.size w s' c' u v:=by
 have h0:=hr.fr.Ii s;rw[hs] at h0;obtain⟨h1,h2,r,us,e,j,q,p,i⟩:=h0;obtain⟨x,v',d,c,b⟩:=i off ho;rw[hv] at c;cases c;rw[hu us e j] at d;cases d;have Kt:C9 C γ0 w0 γ β (U.set s (.box (ver+1) cs (ow.erase off))) h a w:=hr.kK ⟨h1,h2,r,us,e,j,q,p,λo' xc=>i o' (List.mem_of_mem_erase xc)⟩;have hl:s<U.length:=BR.Pe (by rw[hs];simp);rcases b with b|⟨g,n,cap,pL,t,z,AD,o,m,l,f,k⟩
 .exact⟨γ,.refl _,Kt,.inl b⟩
 .refine⟨γ.FN g (.tail s' c' (n*z)),Hr _ _ _,Kt.FN l f (λhn=>by cases hn) (λo' xc Gm GX NX hb=>?_),.inr ⟨g,n,cap,pL,t,z,AD,o,m,by simp[Gh.FN],f,k⟩⟩;rw[BR.Fv hl] at hb;cases hb;cases xc;exact xd
def Y3{o:Oper}{t:TypeId}{x:Operand}{d:Nat}{take:Bool}{r:EJ}{run:IT->Ah->Option J6}{g:BR}{h':Ah}(ho:o.op= .load t x)(hd:o.dst=some d)(hc:LA C U t x d take=some r)(hp:∃ws,r= .pure ws)
  (F9:r.Np C run (U.drop r.news) h g h') (hr:C9 C γ0 w0 γ β U h a w):FU C γ0 w0 o a w g h':=by
 have MJ:∀v,(Instr.loadAt t (a.eval x)).run C.P w= .ok v w->(execOp a.eval o).run C.P w= .ok (.value v) w:=λv hv=>by simp[execOp,ho,hv]
 unfold LA at hc;split at hc;.cases hc;obtain⟨_,e⟩:=hp;cases e
 .rename_i s off ver cs ow ht ha;obtain⟨hs,hx⟩:=Lg hr ha;split at hc
  .rename_i hlt;have bW:cs[off]?=some (cs.getD off .nilIface):=by simp[List.getD,Ai hlt]
   obtain⟨v,b,c,i⟩:=KX hr ht hs (r:=cs.getD off .nilIface) (off:=off) (by simpa[Ft] using bW);rw[<-hx] at b;simp only at hc;split at hc
   .rename_i HS;cases hc;rw[N5 AH] at F9;obtain⟨rfl,rfl⟩:=F9;simp only[Bq,aDP] at HS;obtain⟨⟨j,f⟩,_⟩:=HS;have f:off∉ow.erase off:=by simpa using f
    obtain⟨γ',Ej,FX,FF⟩:=hr.xy hs j f d none bW (i rfl);exact FU.value (MJ v b) (by rw[hd];exact FX.put (d:=some d) λs' Vw=>by cases Vw;exact⟨BO.mono Ej _ _ c,FF⟩)
   .cases hc;rw[N5 AH] at F9;obtain⟨rfl,rfl⟩:=F9;exact FU.value (MJ v b) (by rw[hd];exact hr.put (d:=some d) λ_ _=>c)
  .cases hc
 .rename_i n s off ver cs ow ht ha;obtain⟨hs,hx⟩:=Lg hr ha;split at hc;.rename_i Ej;cases hc;rw[N5 AH] at F9;obtain⟨rfl,rfl⟩:=F9;obtain⟨v,b,c,_⟩:=KX hr ht hs (r:= .agg ((cs.drop off).take n)) (off:=off) (by simp[Ft,Ej]);rw[<-hx] at b;exact FU.value (MJ v b) (by rw[hd];exact hr.put (d:=some d) λ_ _=>c)
  .cases hc
 .cases hc
def mc{o:Oper}{t:TypeId}{x:Operand}{n:Option Nat}{p r:Aa}(ho:o.op= .load t x)(ht:Fp C.P t=some n)(hx:Gj C U x=some (.ptr p))(hl:Bd h n p=some r)(hr:C9 C γ0 w0 γ β U h a w):
  FU C γ0 w0 o a w (U.put o.dst (.val r)) h:=by
 have hv:=Re hr hx;have MJ:∀v,(Instr.loadAt t (a.eval x)).run C.P w= .ok v w->(execOp a.eval o).run C.P w= .ok (.value v) w:=λv hv=>by simp[execOp,ho,hv]
 unfold Bd at hl;split at hl
 .rename_i cs;obtain⟨b,k,hv,hm⟩:=hv;obtain⟨us,g,d⟩:=hm.values;obtain⟨v,c,f⟩:=Iv (w:=w) ht g (λj u hj=>(hr.D3.Io _ _ _ (d j u hj)).1) (λu hu=>by obtain⟨j,hj⟩:=CP hu;exact(hr.D3.Io _ _ _ (d j u hj)).2.1) hl
  rw[<-hv] at c;exact FU.value (MJ v c) (hr.put λ_ _=>f)
 .rename_i id off;obtain⟨b,hb,hv⟩:=hv;split at hl
  .rename_i cs hcs;obtain⟨us,e,fr,g,pf,d,i⟩:=hr.D3.cells id cs hcs b hb;obtain⟨v,c,f⟩:=Iv (w:=w) (b:=b) (o:=off) ht (d.drop off) (λj u hj=>by
    rw[cell_of_row w _ _ us e fr g];rw[Cr,Ch] at hj;split at hj;.simpa using hj
    .cases hj) (λu hu=>i u (BB hu)) (Pj hl)
   rw[<-hv] at c;exact FU.value (MJ v c) (hr.put λ_ _=>f)
  .cases hl
 .cases hl
end
end Go.Am
end
section
namespace Go.Am
open Go
section
variable{C:FW}{γ0 γ γ':Gh}{w0 w w':World}{β:Nat->Nat}{U:BR}{h:Ah}{a:Act}{fid:FuncId}{ops:List Oper}
def EL{b:Nat}{t:TypeId}{fr:Nat×Nat}:∀(vs:List Value) (o:Nat) (cur:Array Value) (w:World),w.heap[b]?=some (.cells cur t fr)->o+vs.length<=cur.size->
  w.setCells b o vs=w.setRow b (cur.toList.take o++vs++cur.toList.drop (o+vs.length)).toArray
 |[],o,cur,w,hg,_=>by simp only[World.setCells,BE,BP,Bs,CF,Array.toArray_toList];exact(setRow_self w b cur t fr hg).symm
 |v::r,o,cur,w,hg,hl=>by simp only[A9] at hl;rw[World.setCells,setCell_eq_setRow w b o cur t fr v hg,EL r (o+1) _ _ (setRow_heap w b cur _ t fr hg) Ee,setRow_setRow];have e:=list_seg_step cur.toList o v r Ee;simp only[Array.toList_setIfInBounds,A9];rw[e]
def OG{t:TypeId}{n b o:Nat}(hn:B3 C.P t=some n){u:Value}(hu:u.cells.size=n)(h1:∀x∈u.cells.toList,x.oneCell'=true){cur:Array Value}{e:TypeId}{fr:Nat×Nat}(hg:w.heap[b]?=some (.cells cur e fr))(vI:Tm fr cur.size)
  (hl:o+n<=cur.size):(Instr.storeAt t (.pointer (some ⟨b,o,none⟩)) u).run C.P w= .ok () (w.setRow b (cur.toList.take o++u.cells.toList++cur.toList.drop (o+n)).toArray):=by
 have hs:=run_storeCells_cells (P:=C.P) b o u.cells.toList 0 w (λj hj=>by
  rw[cell_of_row w _ _ cur e fr hg];simp at hj;rw[CR Ab];rfl) (λj hj=>by
  simp at hj;simp only[World.frozen?,hg];rcases vI with rfl|vI
  .simp
  .simp;omega) h1
 rw[Bs,EL _ o cur w hg Ee] at hs;cases hq:C.P.info? t with
 |none=>simp[B3,hq] at hn
 |some i=>
  have hi:i.size=n:=by simpa[B3,hq] using hn
  simp only[Cg,hu] at hs;simp[Instr.storeAt,Instr.sureAddr,storeVar,sizeOf,typeInfo,hq,hi,hu,hs]
def WL{Z:Type}{cs vs:List Z}{off n o:Nat}(hl:off+n<=cs.length)(hv:vs.length=n)(ho:¬(off<=o/\o<off+n)):(cs.take off++vs++cs.drop (off+n))[o]?=cs[o]?:=by
 have b:(cs.take off).length=off:=Ee;by_cases h:o<off;.rw[Aj (by simp[hv];omega),Aj Ab,CV h]
 .rw[Bl (by simp[hv];omega),Cr];congr 1
  simp[hv];omega
def ZM{Z:Type}{cs:List Z}{off n:Nat}{x:Z}(hl:off+n<=cs.length):(cs.take off++[x]++cs.drop (off+n))[off]?=some x:=by have b:(cs.take off).length=off:=Ee;rw[Aj Ee,Bl Ab];simp[b]
def MQ{Z:Type}{us vs:List Z}{off n len:Nat}(hl:len<=us.length)(ho:off+n<=len)(hv:vs.length=n):
  (us.take off++vs++us.drop (off+n)).take len=(us.take len).take off++vs++(us.take len).drop (off+n):=by
 have c:(us.take off).length=off:=Ee;have b:(us.take off++vs).length=off+n:=by simp[hv];omega
 rw[uP,AG Ab,b,FA,Cp Ab,List.drop_take]
def Oa{cs vs:List Aa}{us DK:List Value}{off n:Nat}(h:Bg γ cs us)(h':Bg γ vs DK):Bg γ (cs.take off++vs++cs.drop (off+n)) (us.take off++DK++us.drop (off+n)):=
 ((h.take off).append h').append (h.drop (off+n))
def IU.Ń{B s d g:Nat}(hg:γ.Bt g=some (.loc s)){c:Option Nat}{v:Value}{u:Aa}(DK:Array Value)(ho:IU γ B w d c v u):IU γ B (w.setRow g DK) d c v u:=by
 rcases ho with ho|⟨g2,n,cap,us,e,z,AD,h1,h2,b,j,i,f⟩
 .exact .inl ho
 .have hb:g2≠g:=λhe=>by subst he;rw[hg] at b;cases b
  exact .inr ⟨g2,n,cap,us,e,z,AD,h1,h2,b,j,by rw[setRow_other w g g2 DK hb];exact i,f⟩
def WM(γ:Gh)(w:World)(g:Nat)(us:Array Value):P8 g γ w γ (w.setRow g us):=
 ⟨.refl _,λb x hb hx _=>⟨hx,setRow_other w g b us hb⟩⟩
def C9.kX(hr:C9 C γ0 w0 γ β U h a w){s ver Gm off n:Nat}{cs:List Aa}{ow:List Nat}(hs:U.at s= .box ver cs ow){vs:List Aa}{DK:List Value}(hv:Bg γ vs DK)(h1:∀u∈DK,u.oneCell'=true)(hn:vs.length=n)
  (hl:off+n<=cs.length) {Bt:Bool} (FF:Bt=true->∃u x,DK=[u]/\vs=[x]/\IU γ w0.heap.size w s (some off) u x) {us:Array Value} {e:TypeId} (hg:w.heap[β s]?=some (.cells us e (0,0))):
  C9 C γ0 w0 γ β (U.set s (.box Gm (Ww cs off n vs) (RQ ow off n Bt))) h a (w.setRow (β s) (us.toList.take off++DK++us.toList.drop (off+n)).toArray):=by
 have h0:=hr.fr.Ii s;rw[hs] at h0;obtain⟨t,d,l,jg,e0,k,j,i,r⟩:=h0;rw[hg] at k;cases k;have hlen:DK.length=n:=by rw[hv.length,hn]
 have j8:off+n<=us.toList.length:=by rw[j.length];exact hl
 have me:s<U.length:=BR.Pe (by rw[hs];simp);refine⟨bh hr.D3 d _,⟨by simp[hr.fr.size],λf=>?_⟩,hr.DW.write (g:=β s) l (.refl _) AH rfl rfl rfl (λb hb=>⟨setRow_other w _ b _ hb,rfl⟩),hr.defers,hr.GZ⟩;by_cases he:f=s
 .subst he;rw[BR.Fv me];refine⟨t,d,l,_,e,setRow_heap w _ us _ e (0,0) hg,?_,?_,?_⟩;.simpa[Ww] using Oa (off:=off) (n:=n) j hv
  .intro u hu;simp only[AI,Ax] at hu;rcases hu with hu|hu|hu
   .exact i u (Bm hu)
   .exact h1 u hu
   .exact i u (BB hu)
  .intro o ho;have Jc:(Bt=true/\o=off)\/(o∈ow/\¬(off<=o/\o<off+n)):=by
    unfold RQ at ho;have hf:o∈ow.filter (λo=> !(decide (off<=o)&&decide (o<off+n)))->o∈ow/\¬(off<=o/\o<off+n):=λhm=>by rw[DH] at hm;refine⟨hm.1,λhc=>?_⟩;have:=hm.2;simp[hc.1,hc.2] at this
    cases Bt with
    |true=>
     simp only[BL,AT] at ho;rcases ho with ho|ho
     .exact .inl ⟨rfl,ho⟩
     .exact .inr (hf ho)
    |false=>exact .inr (hf ho)
   rcases Jc with⟨c,rfl⟩|⟨c,YM⟩
   .obtain⟨u,x,rfl,rfl,v⟩:=FF c;exact⟨u,x,by simpa using ZM (x:=u) j8,by simpa[Ww] using ZM (x:=x) hl,v.Ń d _⟩
   .obtain⟨u,x,q,p,m⟩:=r o c;refine⟨u,x,?_,?_,m.Ń d _⟩;.rw[<-q];have:=WL j8 hlen YM;simpa using this
    .rw[<-p];exact WL hl hn YM
 .rw[BR.Gd (λx=>he x.symm)];exact(hr.fr.Ii f).keptBut d (WM γ w _ _) (by simp only[KC.pI];intro hx;cases hx;exact he rfl)
def Pk(hr:C9 C γ0 w0 γ β U h a w){y:Operand}{v:Aa}(hy:La C U y=true)(hv:E5 C U y=some v)(s':Nat)(c':Option Nat):
  ∃γ',γ.le γ'/\C9 C γ0 w0 γ' β (U.DL (Dj U y)) h a w/\BO γ' v (a.eval y)/\IU γ' w0.heap.size w s' c' (a.eval y) v:=by
 unfold La at hy;cases hs:Ec C U y with
 |none=>rw[hs] at hy;cases hy
 |some sl=>
  rw[hs] at hy;cases sl with
  |Bt u=>
   have b:u=v:=by unfold E5 at hv;rw[hs] at hv;exact D2 hv
   subst b;cases y with
   |tmp t=>have ht:U.at t= .Bt u:=Hd hs;obtain⟨γ',Ej,FX,h1,h2⟩:=hr.take ht s' c';exact⟨γ',Ej,by simpa[Dj,ht,BR.DL] using FX,h1,h2⟩
   |const c=>
    refine⟨γ,.refl _,hr,GI hr hv,?_⟩;obtain⟨q,_⟩:=RZ (γ:=γ) (β:=β) (w:=w) hs;unfold Ec at hs;split at hs;.rename_i e;cases e
    .cases hs
    .cases hs;exact .inl (.inl rfl)
    .rename_i Ku;cases Ku;cases hc:KV c with
     |none=>rw[hc] at hs;cases hs
     |some _=>rw[hc] at hs;cases hs
    .rename_i e;cases e
    .cases hs
   |global g=>have Vw:(C.GZ g).map (λcs=>En.val (Aa.CG cs))=some (.Bt u):=hs;cases hc:C.GZ g<;>rw[hc] at Vw<;>cases Vw
   |func f=>cases hs
  |_=>cases hy
def p9{B s:Nat}{c:Option Nat}{v:Value}{x:Aa}(h:IU γ B w s c v x):x.cells=[x]:=by rcases h with(rfl|⟨_,rfl⟩)|⟨_,_,_,_,_,_,_,rfl,_⟩<;>rfl
def qC{o:Oper}{t:TypeId}{x y:Operand}{s off n ver:Nat}{v:Aa}{Bt:Bool}{c:Option (Nat×Aa)}{cells:List Aa}{owned:List Nat}{run:IT->Ah->Option J6}{i:BR}{h':Ah}(ho:o.op= .store t x y)(hd:o.dst=none)
  (hc:JC C U t x y=some (.M6 s off n v Bt c ver cells owned)) (F9:(EJ.M6 s off n v Bt c ver cells owned).Np C run U h i h') (hr:C9 C γ0 w0 γ β U h a w):FU C γ0 w0 o a w i h':=by
 unfold JC at hc;split at hc;.cases hc
 .rename_i m sh s' mf Gm GX NX v' KW oX ha hv;split at hc
  .rename_i hl;simp only[Bz,EJ.M6.injEq] at hc;obtain⟨rfl,rfl,rfl,rfl,FF,Y4,rfl,rfl,rfl⟩:=hc;obtain⟨hn,rfl,rfl⟩:=F9;obtain⟨hs,hx⟩:=Lg hr ha;have vN:=GI hr hv;obtain⟨_,_,us,e,hg,k,l,_⟩:=hr.ZL hs;have me:mf+(m+1)<=us.size:=by have:=k.length;simp at this;omega
   obtain⟨f,d⟩:=Hs vN Ab;have qD:(a.eval y).cells.size=m+1:=by have:=f.length;simp at this;omega
   have HR:=OG (C:=C) (b:=β s') (o:=mf) KW qD d hg (.inl rfl) me;rw[<-hx] at HR;have MJ:(execOp a.eval o).run C.P w= .ok .skip (w.setRow (β s') (us.toList.take mf++(a.eval y).cells.toList++us.toList.drop (mf+(m+1))).toArray):=by simp[execOp,ho,HR]
   by_cases hw:Bt=true
   .subst hw;rw[Ae FF] at Y4;subst Y4;simp only[Bq] at FF;obtain⟨j,Ej,Kt,h1,h2⟩:=Pk hr FF.2 hv s' (some mf);have QG:=p9 h2;have JW:(U.DL (Dj U y)).at s'= .box Gm GX NX:=by
     cases y with
     |tmp t'=>
      simp only[Dj];cases ht:U.at t' with
      |Bt u=>simp only[BR.DL];rw[BR.Gd (λe=>by rw[e,hs] at ht;cases ht)];exact hs
      |_=>exact hs
     |_=>exact hs
    have LQ:=Kt.kX (Gm:=Gm+1) (Bt:=true) (n:=m+1) JW (Bg.mono Ej _ _ f) d hn hl (λ_=>?_) hg;.exact FU.skip MJ (by rw[hd];exact LQ)
    .have hcl:(a.eval y).cells=#[a.eval y]:=by
      rcases h2 with(h2|⟨z,h2⟩)|⟨_,_,_,_,_,_,_,_,h2,_⟩
      .subst h2;rw[show a.eval y=_ from h1];rfl
      .subst h2;obtain⟨_,h1⟩:=h1;rw[h1];rfl
      .rw[h2];rfl
     exact⟨a.eval y,v',by rw[hcl],QG,h2⟩
   .have g:Bt=false:=by simpa using hw
    subst g;rw[Ac (by rw[FF];simp)] at Y4;subst Y4;exact FU.skip MJ (by rw[hd];exact hr.kX (Gm:=Gm+1) (Bt:=false) hs f d hn hl (λe=>by cases e) hg)
  .cases hc
 .cases hc
def bu{o:Oper}{t:TypeId}{x y:Operand}{n:Nat}{p v:Aa}{h':Ah}(ho:o.op= .store t x y)(hd:o.dst=none)(KW:B3 C.P t=some (n+1))(hx:Gj C U x=some (.ptr p))(hv:E5 C U y=some v)(HR:Cx h (n+1) p v=some h')(hr:C9 C γ0 w0 γ β U h a w):
  FU C γ0 w0 o a w U h':=by
 have c:=Re hr hx;have vN:=GI hr hv;unfold Cx at HR;split at HR
 .rename_i id off;obtain⟨b,hb,d⟩:=c;split at HR
  .rename_i cs hcs;split at HR
   .rename_i hl;cases HR;obtain⟨us,e,fr,hg,pf,k,j⟩:=hr.D3.cells id cs hcs b hb;obtain⟨i,g⟩:=Hs vN Ab;have qD:(a.eval y).cells.size=n+1:=by have:=i.length;simp at this;omega
    have hlt:cs.length<=us.size:=by have:=k.length;simp at this;omega
    have me:off+(n+1)<=us.size:=Ab;have A0:=OG (C:=C) (b:=b) (o:=off) KW qD g hg pf me;rw[<-d] at A0;obtain⟨hi,ha⟩:=Nn hr.D3 hcs hb hg (us.toList.take off++(a.eval y).cells.toList++us.toList.drop (off+(n+1))).toArray (cs.take off++v.cells++cs.drop (off+(n+1)))
     (by simp only[B7,Aw,As,Bb,Cg,qD];omega)
     (by
      rcases pf with rfl|pf
      .exact .inl rfl
      .refine .inr (Bu (My ?_) pf);simp only[B7,Aw,As,Bb,Cg,qD];omega)
     (by
      have:=Oa (off:=off) (n:=n+1) k i;rw[<-MQ (by simpa using hlt) hl.2 (by simpa using qD)] at this;have f:(cs.take off++v.cells++cs.drop (off+(n+1))).length=cs.length:=by simp[hl.1];omega
      rw[f];simpa using this) (λu hu=>by
      have f:(cs.take off++v.cells++cs.drop (off+(n+1))).length=cs.length:=by simp[hl.1];omega
      rw[f] at hu;simp only[KQ] at hu;rw[MQ (by simpa using hlt) hl.2 (by simpa using qD)] at hu;simp only[AI,Ax] at hu;rcases hu with hu|hu|hu
      .exact j u (Bm hu)
      .exact g u hu
      .exact j u (BB hu))
    have MJ:(execOp a.eval o).run C.P w= .ok .skip (w.setRow b (us.toList.take off++(a.eval y).cells.toList++us.toList.drop (off+(n+1))).toArray):=by simp[execOp,ho,A0]
    exact FU.skip MJ (by rw[hd];exact hr.Jb hi ha)
   .cases HR
  .cases HR
 .cases HR
def C9.freeze(hr:C9 C γ0 w0 γ β U h a w){s ver:Nat}{cs:List Aa}{ow:List Nat}(hs:U.at s= .box ver cs ow):
  ∃γ',γ.le γ'/\C9 C γ0 w0 γ' β (U.set s (.val (.CG cs))) h a w/\BO γ' (.CG cs) (a.tmps.getD s undef):=by
 have h0:=hr.fr.Ii s;rw[hs] at h0;obtain⟨z,f,B,us,e,t,m,l,A⟩:=h0;have me:s<U.length:=BR.Pe (by rw[hs];simp);have lp:∀o,γ.Io (β s) o=none:=λo=>by
  cases hc:γ.Io (β s) o with
  |none=>rfl
  |some u=>obtain⟨_,_,q⟩:=hr.D3.Io _ _ _ hc;rw[f] at q;rcases q with q|⟨_,_,_,q,_⟩<;>cases q
 have Ej:γ.le (γ.Ds (β s) us us.size none):=⟨λb o v hb=>by
  have:b≠β s:=λe=>by rw[e,lp] at hb;cases hb
  simp only[Gh.Ds,Ac this];exact hb,λ_ _ hm=>hm,λ_ _ hm=>hm⟩
 have hne:∀b id,γ.Bt b=some (.Md id)->b≠β s:=λb id hb e=>by rw[e,f] at hb;cases hb
 have hk:P8 (β s) γ w (γ.Ds (β s) us us.size none) w:=⟨Ej,λb x hb hx _=>⟨by simp only[Gh.Ds,Ac hb];exact hx,rfl⟩⟩;have hv:BO (γ.Ds (β s) us us.size none) (.CG cs) (a.tmps.getD s undef):=by
  refine⟨β s,0,z,C1.Hc λi x hi=>?_⟩;obtain⟨u,d,c⟩:=m.get hi;have hlt:i<us.size:=by have:=(Al.1 d).1;simpa using this
  exact⟨u,by simp only[Gh.Ds,BL,BU,Ae hlt];simpa using d,BO.mono Ej _ _ c⟩
 have aAI:∀b n,γ.sz b=some n->(∃us e fr,w.heap[b]?=some (.cells us e fr)/\us.size=n)/\((γ.Ds (β s) us us.size none).Bt b=none\/∃id,(γ.Ds (β s) us us.size none).Bt b=some (.Md id)):=λb n hb=>by
  obtain⟨p,r⟩:=hr.D3.sz b n hb;by_cases he:b=β s;.subst he;exact⟨p,.inl (by simp[Gh.Ds])⟩
  .exact⟨p,by simp only[Gh.Ds,Ac he];exact r⟩
 refine⟨_,Ej,⟨⟨λb o v hb=>?_,λid y Ij hy=>?_,λid GX hc b hb=>?_,λid es hc b hb=>?_,hr.D3.mu,λb x hx=>?_,aAI⟩,⟨by simp[hr.fr.size],λj=>?_⟩,?_,hr.defers,λx GX hx=>C1.mono Ej _ _ _ (hr.GZ x GX hx)⟩,hv⟩
 .by_cases he:b=β s
  .subst he;simp only[Gh.Ds,BL] at hb⊢;split at hb;.exact⟨by rw[cell_of_row _ _ _ us e (0,0) t];exact hb,l v (by rw[A5] at hb;obtain⟨p,q⟩:=hb;rw[<-q];exact Array.getElem_mem_toList p),.inl AH⟩
   .cases hb
  .simp only[Gh.Ds,Ac he] at hb⊢;exact hr.D3.Io b o v hb
 .obtain⟨b,d,c⟩:=hr.D3.Md id y Ij hy;exact⟨b,d,by simp only[Gh.Ds,Ac (hne b id c)];exact c⟩
 .obtain⟨DK,g,bg,d,qf,c,k⟩:=hr.D3.cells id GX hc b hb;exact⟨DK,g,bg,d,qf,Bg.mono Ej _ _ c,k⟩
 .obtain⟨DK,g,d,c⟩:=hr.D3.map id es hc b hb;exact⟨DK,g,d,c.mono Ej⟩
 .by_cases he:b=β s;.subst he;exact hr.D3.Bt _ _ f
  .simp only[Gh.Ds,Ac he] at hx;exact hr.D3.Bt b x hx
 .by_cases he:j=s;.subst he;rw[BR.Fv me];exact hv
  .rw[BR.Gd (λx=>he x.symm)];exact(hr.fr.Ii j).keptBut f hk (by simp only[KC.pI];intro hx;cases hx;exact he rfl)
 .refine⟨hr.DW.le.trans Ej,hr.DW.size,hr.DW.os,hr.DW.tape,hr.DW.output,λb hb hn=>?_⟩;obtain⟨d,c⟩:=hr.DW.N3 b hb hn;exact⟨d,by simp only[Gh.Ds,Ac (Ab:b≠β s)];exact c⟩
def C9.Tp:∀{fz:List (Nat×List Aa)} {γ:Gh} {U:BR},C9 C γ0 w0 γ β U h a w->(∀p∈fz,∃ver ow,U.at p.1= .box ver p.2 ow)->(fz.map (·.1)).Nodup->
  ∃γ',γ.le γ'/\C9 C γ0 w0 γ' β (U.Eh (fz.map λ(s,cs)=>(s,.val (.CG cs)))) h a w/\∀p∈fz,BO γ' (.CG p.2) (a.tmps.getD p.1 undef)
 |[],γ,U,hr,_,_=>⟨γ,.refl _,hr,AH⟩
 |(s,cs)::fz,γ,U,hr,hb,hn=>by
  simp only[Bk,B5] at hn;obtain⟨ver,ow,hs⟩:=hb (s,cs) AH;obtain⟨d,aIY,Kt,xz⟩:=hr.freeze hs;obtain⟨b,kY,LQ,WN⟩:=Tp (fz:=fz) Kt (λp hp=>by obtain⟨Gm,NX,c⟩:=hb p (by simp[hp]);refine⟨Gm,NX,?_⟩;rw[BR.Gd (λe=>hn.1 (by rw[show s=p.1 from e];exact Bj.2 ⟨p,hp,rfl⟩))];exact c) hn.2
  refine⟨b,aIY.trans kY,LQ,λp hp=>?_⟩;rcases AT.1 hp with rfl|hp
  .exact BO.mono kY _ _ xz
  .exact WN p hp
def Nb:∀{xs:List Operand} {vs:List Aa} {fz:List (Nat×List Aa)},Gk C U xs=some (vs,fz)->
  (∀p∈fz,∃ver ow,U.at p.1= .box ver p.2 ow)/\(fz.map (·.1)).Nodup/\
  ∀γ',(∀x u,E5 C U x=some u->BO γ' u (a.eval x))->(∀p∈fz,BO γ' (.CG p.2) (a.tmps.getD p.1 undef))->Bg γ' vs (xs.map a.eval)
 |[],vs,fz,hc=>by cases hc;exact⟨AH,AH,λ_ _ _=>rfl⟩
 |x::xs,vs,fz,hc=>by
  unfold Gk at hc;split at hc;.cases hc
  .rename_i HQ f d;obtain⟨h1,h2,e⟩:=Nb d;split at hc
   .rename_i s ver cs ow hs;split at hc;.cases hc
    .rename_i hn;cases hc;have hsb:U.at s= .box ver cs ow:=Hd hs;refine⟨λp hp=>?_,?_,λγ' c b=>?_⟩
     .rcases AT.1 hp with rfl|hp
      .exact⟨ver,ow,hsb⟩
      .exact h1 p hp
     .simp only[Bk,B5];exact⟨by simpa using hn,h2⟩
     .exact⟨_,_,rfl,b (s,cs) AH,e γ' c λp hp=>b p (by simp[hp])⟩
   .rename_i sl _ hs;cases hv:sl.Hq with
    |none=>rw[hv] at hc;cases hc
    |some u=>rw[hv] at hc;cases hc;exact⟨h1,h2,λγ' c b=>⟨_,_,rfl,c _ u (by unfold E5;rw[hs];exact hv),e γ' c b⟩⟩
   .cases hc
def kZ{o:Oper}{fn:Fn}{first captured:Array Operand}{d:Nat}{as bs:List Aa}{fz:List (Nat×List Aa)}(ho:o.op= .makeFunc fn first captured)(hd:o.dst=some d)(ha:Bx C U first.toList=some as)(hb:Gk C U captured.toList=some (bs,fz))(hr:C9 C γ0 w0 γ β U h a w):
  FU C γ0 w0 o a w (((U.drop (fz.map (·.1))).Eh (fz.map λ(s,cs)=>(s,.val (.CG cs)))).set d (.val (.func fn as bs))) h:=by
 obtain⟨h1,h2,b⟩:=Nb (a:=a) hb;obtain⟨γ',Ej,FX,hv⟩:=(hr.drop (fz.map (·.1))).Tp (fz:=fz) (λp hp=>by obtain⟨ver,ow,hs⟩:=h1 p hp;exact⟨ver,ow,by rw[BR.R6,hs]⟩) h2
 refine FU.value (w':=w) (v:= .func fn (first.map a.eval) (captured.map a.eval)) (by simp[execOp,ho,Instr.makeFunc]) (by rw[hd];exact FX.put (d:=some d) λ_ _=>⟨_,_,rfl,by simpa using Bg.mono Ej _ _ (DY hr ha),by simpa using b γ' (λx u hx=>BO.mono Ej _ _ (GI hr hx)) hv⟩)
end
end Go.Am
end
