/- Lemmas -/
import Derived.Test.YtglbboamemndeaaGreatDoorS3
import Derived.Laws.IdiomCopy
set_option linter.all false
section
namespace Go.Am
open Go
def fq(β:Nat->Nat)(d b:Nat):Nat->Nat:=λs=>if s=d then b else β s
def Kh.pM:Kh->Option Nat
 | .Mj _=>none
 | .loc s=>some s
 | .tail s _ _=>some s
structure P0(g:Nat)(γ:Gh)(w:World)(γ':Gh)(w':World):Prop where
 le:γ.le γ'
 NS:∀b x,b≠g->γ.BI b=some x->x.jd=false->γ'.BI b=some x/\w'.heap[b]?=w.heap[b]?
section
variable{C:Fx}{γ0 γ γ':Gh}{w0 w w':World}{β:Nat->Nat}{U:BF}{h:Ai}{a:Act}{fid:FuncId}{ops:List Oper}
def BF.RP(U:BF)(ds:List Nat)(s:Nat):(U.drop ds).at s=match U.at s with| .EY t o=>if ds.contains t then .undef else .EY t o|x=>x:=by
 cases ds with
 |nil=>simp only[BF.drop,List.contains_nil];cases U.at s<;>simp
 |cons d ds=>
  simp only[BF.drop,BF.at,List.getD,CA];cases hg:U[s]? with
  |none=>rfl
  |some x=>cases x<;>rfl
def BF.length_drop(U:BF)(ds:List Nat):(U.drop ds).length=U.length:=by cases ds<;>simp[BF.drop]
def Lf.aGt{B s d b:Nat}{x:Ec}{v:Value}(hx:Lf γ β B w s x v)(hn:∀o,x≠ .EY d o)(hs:s≠d):Lf γ (fq β d b) B w s x v:=by
 cases x with
 |box ver cs ow=>simpa only[Lf,fq,Af hs] using hx
 |EY t o=>have:t≠d:=λe=>hn o (by rw[e]);simpa only[Lf,fq,Af this] using hx
 |_=>exact hx
def IP.keptBut{g B s:Nat}{d:Kh}(hg:γ.BI g=some d)(k:P0 g γ w γ' w')(hne:d.pM≠some s){c:Option Nat}{v:Value}{u:Aa}(ho:IP γ B w s c v u):IP γ' B w' s c v u:=by
 rcases ho with ho|⟨g2,n,cap,us,e,z,Av,h1,h2,b,m,l,j⟩
 .exact .inl ho
 .have hb:g2≠g:=λhe=>by subst he;rw[hg] at b;cases b;exact hne rfl
  obtain⟨i,f⟩:=k.NS g2 _ hb b rfl;exact .inr ⟨g2,n,cap,us,e,z,Av,h1,h2,i,m,by rw[f];exact l,j⟩
def Lf.keptBut{g B s:Nat}{d:Kh}(hg:γ.BI g=some d)(k:P0 g γ w γ' w')(hne:d.pM≠some s){x:Ec}{v:Value}(hx:Lf γ β B w s x v):Lf γ' β B w' s x v:=by
 cases x with
 |undef=>trivial
 |skip=>exact hx
 |val u=>exact BH.mono k.le u v hx
 |OQ b=>exact hx
 |BI u=>exact⟨BH.mono k.le u v hx.1,hx.2.keptBut hg k hne⟩
 |box ver cs ow=>
  obtain⟨r,c,q,us,e,p,n,m,l⟩:=hx;have hb:β s≠g:=λhe=>by rw[he,hg] at c;cases c;exact hne rfl
  obtain⟨y,t⟩:=k.NS _ _ hb c rfl;exact⟨r,y,q,us,e,by rw[t];exact p,AX.mono k.le cs _ n,m,λo ho=>let⟨u,v,j,i,f⟩:=l o ho;⟨u,v,j,i,f.keptBut hg k hne⟩⟩
 |EY s' o=>exact hx
def CW.jn(hr:CW C γ0 w0 γ β U h a w)(d:Nat)(us:Array Value)(e:TypeId)(cells:List Aa)(ow:List Nat)(hc:AX γ cells us.toList)(h1:∀u∈us.toList,u.oneCell'=true)
  (how:∀o∈ow,cells[o]?=some .slnil):
  ∃γ' b,CW C γ0 w0 γ' b ((U.drop [d]).set d (.box 0 cells ow)) h (a.put (some d) (.pointer (some ⟨w.heap.size,0,none⟩))) (w.alloc (.cells us e)):=by
 obtain⟨hi,ha⟩:=O6 hr.DL us e (0,0) 0 (some (.loc d)) (λ_ _ ho=>absurd ho (Nat.not_lt_zero _)) (.inr (.inr ⟨rfl,Ax⟩));have Jv:=(hr.drop [d]).IA hi ha;refine⟨_,fq β d w.heap.size,Jv.DL,⟨by simp[Act.put,Jv.fr.size],λs=>?_⟩,Jv.DE,Jv.defers,Jv.GN⟩;have hs:=Jv.fr.HT s;by_cases he:s=d
 .subst he;by_cases hl:s<(U.drop [s]).length
  .have vq:s<a.tmps.size:=by rw[<-Jv.fr.size];exact hl
   rw[BF.Fa hl];have g:(a.put (some s) (.pointer (some ⟨w.heap.size,0,none⟩))).tmps.getD s undef= .pointer (some ⟨w.heap.size,0,none⟩):=by simp[Act.put,Array.getD,vq]
   rw[g];refine⟨by simp[fq],by simp[fq,Gh.C5],?_,us,e,?_,AX.mono ha.le _ _ hc,h1,λo ho=>?_⟩;.simp only[fq,BE];exact hr.DE.size
   .simp only[fq,BE];exact heap_alloc_new w _
   .have hco:=how o ho;obtain⟨u,c,i⟩:=hc.get hco;exact⟨u,.slnil,by simpa using c,hco,.inl (.inl rfl)⟩
  .have:BF.at ((U.drop [s]).set s (.box 0 cells ow)) s= .undef:=by simp[BF.at,List.getD];rw[DQ (by simpa using hl)];rfl
   rw[this];trivial
 .rw[BF.FJ (λe=>he e.symm)];have f:(a.put (some d) (.pointer (some ⟨w.heap.size,0,none⟩))).tmps.getD s undef=a.tmps.getD s undef:=by simp[Act.put,GJ,pJ (λe=>he e.symm)]
  rw[f];refine hs.aGt (λo ho=>?_) he;rw[BF.RP] at ho;cases hx:U.at s with
  |EY t o'=>
   rw[hx] at ho;simp only at ho;split at ho;.cases ho
   .rename_i hc;cases ho;exact hc Ax
  |_=>rw[hx] at ho;cases ho
def HK{P:Program}{t:TypeId}{z:Aa}(hz:GC P t=some z):∃v,KA v=some z/\∀w,(zeroValue t).run P w= .ok v w:=by
 unfold GC at hz;cases hi:P.info? t with
 |none=>rw[hi] at hz;cases hz
 |some i=>
  rw[hi] at hz;cases hv:i.zero with
  |none=>simp[hv] at hz
  |some v=>simp only[Cd,hv] at hz;exact⟨v,hz,λw=>by simp[zeroValue,typeInfo,hi,hv]⟩
def qC{cs:List Aa}{o:Nat}(h:o∈V0 cs):cs[o]?=some .slnil:=by
 simp only[V0,Dl,List.mem_range] at h;obtain⟨h1,h2⟩:=h;simp only[List.getD,Au h1,FD] at h2;rw[Au h1];split at h2;.rename_i he;rw[he]
 .cases h2
def Fu(C:Fx)(γ0:Gh)(w0:World)(o:Oper)(a:Act)(w:World)(c:BF)(h':Ai):Prop:=
 ∃γ' b w',(∃v,(execOp a.eval o).run C.P w= .ok (.value v) w'/\CW C γ0 w0 γ' b c h' (a.put o.dst v) w')\/((execOp a.eval o).run C.P w= .ok .skip w'/\CW C γ0 w0 γ' b c h' (a.put o.dst undef) w')
def Fu.value{o:Oper}{c:BF}{h':Ai}{b:Nat->Nat}{v:Value}(he:(execOp a.eval o).run C.P w= .ok (.value v) w')(hr:CW C γ0 w0 γ' b c h' (a.put o.dst v) w'):Fu C γ0 w0 o a w c h':=⟨γ',b,w',.inl ⟨v,he,hr⟩⟩
def Fu.skip{o:Oper}{c:BF}{h':Ai}{b:Nat->Nat}(he:(execOp a.eval o).run C.P w= .ok .skip w')(hr:CW C γ0 w0 γ' b c h' (a.put o.dst undef) w'):Fu C γ0 w0 o a w c h':=⟨γ',b,w',.inr ⟨he,hr⟩⟩
def Wi{o:Oper}{t:TypeId}{d:Nat}{z:Aa}(ho:o.op= .alloc t)(hd:o.dst=some d)(hz:GC C.P t=some z)(hn:z.cells≠[])(hr:CW C γ0 w0 γ β U h a w):
  Fu C γ0 w0 o a w ((U.drop [d]).set d (.box 0 z.cells (V0 z.cells))) h:=by
 obtain⟨v,hv,AH⟩:=HK hz;obtain⟨e,c⟩:=GZ (γ:=γ) (E9 hv) (Em.2 hn);obtain⟨γ',b,Hn⟩:=hr.jn d v.cells t z.cells (V0 z.cells) e c (λo=>qC);refine Fu.value (v:= .pointer (some ⟨w.heap.size,0,none⟩)) ?_ (by rw[hd];exact Hn);simp[execOp,ho,Instr.alloc,AH,newVar,newRow]
def aZ{o:Oper}{t:TypeId}{x:Operand}{d n:Nat}{v:Aa}(ho:o.op= .box t x)(hd:o.dst=some d)(hx:EK C U x=some v)(hv:v.cells.length=n)(hn:n≠0)(hr:CW C γ0 w0 γ β U h a w):
  Fu C γ0 w0 o a w ((U.drop [d]).set d (.box 0 v.cells [])) h:=by
 obtain⟨e,c⟩:=GZ (Gc hr hx) Ac;obtain⟨γ',b,Hn⟩:=hr.jn d (a.eval x).cells t v.cells [] e c Ax;refine Fu.value (v:= .pointer (some ⟨w.heap.size,0,none⟩)) ?_ (by rw[hd];exact Hn);simp[execOp,ho,Instr.box,newVar,newRow]
def CW.newObj(hr:CW C γ0 w0 γ β U h a w)(us:Array Value)(e:TypeId)(fr:Nat×Nat)(cells:List Aa)(vW:Tg fr us.size)(hc:AX γ cells (us.toList.take cells.length))(h1:∀u∈us.toList.take cells.length,u.oneCell'=true):
  ∃γ',γ.le γ'/\γ'.mu h.length=some w.heap.size/\CW C γ0 w0 γ' β U (h++[.cells cells]) a (w.alloc (.cells us e fr))/\γ'.sz w.heap.size=some us.size:=by
 obtain⟨hi,ha⟩:=NU hr.DL (.cells us e fr) (.cells cells) (some us.size) (.inl ⟨cells,us,e,fr,rfl,rfl,vW,hc,h1,rfl⟩);exact⟨_,ha.le,by simp[Gh.BO],hr.IA hi ha,by simp[Gh.BO]⟩
def Wj{o:Oper}{t:TypeId}{z:Aa}{d:Option Nat}(ho:o.op= .alloc t)(hd:o.dst=d)(hz:GC C.P t=some z)(hn:z.cells.length≠0)(hr:CW C γ0 w0 γ β U h a w):
  Fu C γ0 w0 o a w (U.put d (.val (.ptr (some (h.length,0))))) (h++[.cells z.cells]):=by
 obtain⟨v,hv,AH⟩:=HK hz;obtain⟨b,c⟩:=GZ (γ:=γ) (E9 hv) Ac;obtain⟨γ',Es,hm,Hn,_⟩:=hr.newObj v.cells t (0,0) z.cells (.inl rfl) (by rw[A8 (by rw[b.length];exact Ab _)];exact b) (λu hu=>c u (A0 hu));refine Fu.value (v:= .pointer (some ⟨w.heap.size,0,none⟩)) ?_ (by rw[hd];exact Hn.put λs _=>⟨_,hm,rfl⟩);simp[execOp,ho,Instr.alloc,AH,newVar,newRow]
def bA{o:Oper}{t:TypeId}{x:Operand}{d:Option Nat}{v:Aa}(ho:o.op= .box t x)(hd:o.dst=d)(hx:EK C U x=some v)(hn:v.cells.length≠0)(hr:CW C γ0 w0 γ β U h a w):
  Fu C γ0 w0 o a w (U.put d (.val (.ptr (some (h.length,0))))) (h++[.cells v.cells]):=by
 obtain⟨b,c⟩:=GZ (Gc hr hx) Ac;obtain⟨γ',Es,hm,Hn,_⟩:=hr.newObj (a.eval x).cells t (0,0) v.cells (.inl rfl) (by rw[A8 (by rw[b.length];exact Ab _)];exact b) (λu hu=>c u (A0 hu));refine Fu.value (v:= .pointer (some ⟨w.heap.size,0,none⟩)) ?_ (by rw[hd];exact Hn.put λs _=>⟨_,hm,rfl⟩);simp[execOp,ho,Instr.box,newVar,newRow]
def KQ(hr:CW C γ0 w0 γ β U h a w){x:Operand}{s o ver:Nat}{cs:List Aa}{ow:List Nat}(hx:FO C U x=some (.O3 s o ver cs ow)):
  U.at s= .box ver cs ow/\a.eval x= .pointer (some ⟨β s,o,none⟩):=by
 unfold FO at hx;split at hx;.rename_i s' FU GB NN hs;cases hx;have h0:=RJ hr s;rw[GF hs] at h0;exact⟨GF hs,h0.1⟩
 .rename_i s' o' _ hs;split at hx;.rename_i hb;cases hx;obtain⟨t,h1,_⟩:=FW hr hs;exact⟨hb,h1⟩
  .cases hx
 .rename_i sl _ _ hs;cases hv:sl.GW with
  |none=>rw[hv] at hx;cases hx
  |some u=>rw[hv] at hx;cases hx
 .cases hx
def Q6(hr:CW C γ0 w0 γ β U h a w){x:Operand}{p:Aa}(hx:FO C U x=some (.ptr p)):BH γ p (a.eval x):=by
 unfold FO at hx;split at hx;.cases hx
 .split at hx<;>cases hx
 .rename_i sl _ _ hs;cases hv:sl.GW with
  |none=>rw[hv] at hx;cases hx
  |some u=>rw[hv] at hx;cases hx;obtain⟨t,h1,_⟩:=FW hr hs;exact Nf h1 hv
 .cases hx
def H7{t:TypeId}{n:Option Nat}(ht:E5 C.P t=some n){cs:List Aa}{us:List Value}{b o:Nat}(hv:AX γ cs us)(hc:∀(j:Nat) (u:Value),us[j]?=some u->w.cell? ⟨b,o+j,none⟩=some u)(h1:∀u∈us,u.oneCell'=true)
  {r:Aa} (hp:E8 cs 0 n=some r):∃v,(Instr.loadAt t (.pointer (some ⟨b,o,none⟩))).run C.P w= .ok v w/\BH γ r v:=by
 unfold E5 at ht;have Ng:∀j,(⟨b,o,none⟩:Addr).add j=⟨b,o+j,none⟩:=λj=>by unfold Addr.add;split<;>simp_all
 have agg:∀d,C.P.underlying t=some d->(match d with| .struct _| .array _ _=>true|_=>false)=true->(BQ C.P t).map some=some n->
   ∃v,(Instr.loadAt t (.pointer (some ⟨b,o,none⟩))).run C.P w= .ok v w/\BH γ r v:=by
  intro d hd hb hn;cases hs:BQ C.P t with
  |none=>rw[hs] at hn;cases hn
  |some k=>
   rw[hs] at hn;cases hn;simp only[E8] at hp;split at hp
   .rename_i hk;cases hp;have hl:=run_loadCells_list (P:=C.P) w ⟨b,o,none⟩ (us.take k) (λj v hj=>by
     rw[Ng];refine hc j v ?_;rw[Cg] at hj;split at hj;.exact hj
     .cases hj)
    have hlen:(us.take k).length=k:=by simp[hv.length];omega
    rw[hlen] at hl;refine⟨.agg (us.take k).toArray,?_,_,rfl,?_,λu hu=>h1 u (A0 (by simpa using hu))⟩
    .have qD:(isAgg t).run C.P w= .ok true w:=by unfold isAgg;rw[Sem.run_bind,run_underlying hd w];cases d<;>simp_all
     cases hq:C.P.info? t with
     |none=>simp[BQ,hq] at hs
     |some i=>
      have hi:i.size=k:=by simpa[BQ,hq] using hs
      simp[Instr.loadAt,Instr.sureAddr,loadVar,qD,sizeOf,typeInfo,hq,hi,hl]
    .simpa using hv.take k
   .cases hp
 split at ht;.rename_i fs hd;exact agg _ hd rfl ht
 .rename_i l e hd;exact agg _ hd rfl ht
 .rename_i d RO j9 hd;cases ht;simp only[E8] at hp;obtain⟨u,hu,hr⟩:=hv.get hp;refine⟨u,?_,hr⟩;have qD:(isAgg t).run C.P w= .ok false w:=by unfold isAgg;rw[Sem.run_bind,run_underlying hd w];cases d<;>simp_all
  have Jj:=hc 0 u hu;simp only[Bp] at Jj;simp[Instr.loadAt,Instr.sureAddr,loadVar,qD,Jj]
 .cases ht
def Pc{cs:List Aa}{off:Nat}{n:Option Nat}{r:Aa}(h:E8 cs off n=some r):E8 (cs.drop off) 0 n=some r:=by
 cases n with
 |none=>simp only[E8] at h⊢;rw[Cn];simpa using h
 |some n=>
  simp only[E8] at h⊢;split at h;.cases h;rw[Ag Ek];simp
  .cases h
def CW.Zt(hr:CW C γ0 w0 γ β U h a w){s ver:Nat}{cs:List Aa}{ow:List Nat}(hs:U.at s= .box ver cs ow):
  γ.BI (β s)=some (.loc s)/\w0.heap.size<=β s/\∃us e,w.heap[β s]?=some (.cells us e (0,0))/\AX γ cs us.toList/\(∀u∈us.toList,u.oneCell'=true)/\
   ∀o∈ow,∃u x,us[o]?=some u/\cs[o]?=some x/\IP γ w0.heap.size w s (some o) u x:=by
 have h0:=hr.fr.HT s;rw[hs] at h0;exact⟨h0.2.1,h0.2.2.1,h0.2.2.2⟩
def KB(hr:CW C γ0 w0 γ β U h a w){t:TypeId}{n:Option Nat}(ht:E5 C.P t=some n){s ver off:Nat}{cs:List Aa}{ow:List Nat}(hs:U.at s= .box ver cs ow){r:Aa}(hp:E8 cs off n=some r):
  ∃v,(Instr.loadAt t (.pointer (some ⟨β s,off,none⟩))).run C.P w= .ok v w/\BH γ r v/\(n=none->∀us e,w.heap[β s]?=some (.cells us e (0,0))->us[off]?=some v):=by
 obtain⟨_,_,us,e,h1,h2,g,_⟩:=hr.Zt hs;obtain⟨v,c,f⟩:=H7 (w:=w) (b:=β s) (o:=off) ht (h2.drop off) (λj u hj=>by rw[cell_of_row w _ _ us e (0,0) h1];rw[Cn] at hj;simpa using hj) (λu hu=>g u (Bu hu)) (Pc hp)
 refine⟨v,c,f,λhn Dq i Ñ=>?_⟩;subst hn;rw[h1] at Ñ;cases Ñ;simp only[E8] at hp;obtain⟨u,hu,_⟩:=h2.get hp;have Jj:w.cell? ⟨β s,off,none⟩=some u:=by rw[cell_of_row w _ _ us e (0,0) h1];simpa using hu
 have qD:∃d,C.P.underlying t=some d/\(isAgg t).run C.P w= .ok false w:=by
  unfold E5 at ht;split at ht;.cases hz:BQ C.P t<;>rw[hz] at ht<;>cases ht
  .cases hz:BQ C.P t<;>rw[hz] at ht<;>cases ht
  .rename_i d RO j9 hd;refine⟨d,hd,?_⟩;unfold isAgg;rw[Sem.run_bind,run_underlying hd w];cases d<;>simp_all
  .cases ht
 obtain⟨d,hd,qD⟩:=qD;have:(Instr.loadAt t (.pointer (some ⟨β s,off,none⟩))).run C.P w= .ok u w:=by simp[Instr.loadAt,Instr.sureAddr,loadVar,qD,Jj]
 rw[c] at this;cases this;simpa using hu
def CW.wq(hr:CW C γ0 w0 γ β U h a w){s ver off:Nat}{cs:List Aa}{ow:List Nat}(hs:U.at s= .box ver cs ow)(ho:off∈ow)(c:off∉ow.erase off)(s':Nat)(c':Option Nat){u:Value}{v:Aa}(hv:cs[off]?=some v)
  (hu:∀us e,w.heap[β s]?=some (.cells us e (0,0))->us[off]?=some u):
  ∃γ',γ.le γ'/\CW C γ0 w0 γ' β (U.set s (.box (ver+1) cs (ow.erase off))) h a w/\IP γ' w0.heap.size w s' c' u v:=by
 have h0:=hr.fr.HT s;rw[hs] at h0;obtain⟨h1,h2,t,us,e,k,r,q,j⟩:=h0;obtain⟨y,v',f,d,b⟩:=j off ho;rw[hv] at d;cases d;rw[hu us e k] at f;cases f;have Jv:CW C γ0 w0 γ β (U.set s (.box (ver+1) cs (ow.erase off))) h a w:=hr.kS ⟨h1,h2,t,us,e,k,r,q,λo' vr=>j o' (List.mem_of_mem_erase vr)⟩;have hl:s<U.length:=BF.O7 (by rw[hs];simp);rcases b with b|⟨g,n,cap,pQ,x,z,Av,p,o,m,i,l⟩
 .exact⟨γ,.refl _,Jv,.inl b⟩
 .refine⟨γ.Fq g (.tail s' c' (n*z)),GY _ _ _,Jv.Fq m i (λhn=>by cases hn) (λo' vr FU GB NN hb=>?_),.inr ⟨g,n,cap,pQ,x,z,Av,p,o,by simp[Gh.Fq],i,l⟩⟩;rw[BF.Fa hl] at hb;cases hb;cases vr;exact c
def YH{o:Oper}{t:TypeId}{x:Operand}{d:Nat}{take:Bool}{r:Eu}{run:IT->Ai->Option Ju}{g:BF}{h':Ai}(ho:o.op= .load t x)(hd:o.dst=some d)(hc:Ld C U t x d take=some r)(hp:∃ws,r= .pure ws)
  (FI:r.Nd C run (U.drop r.news) h g h') (hr:CW C γ0 w0 γ β U h a w):Fu C γ0 w0 o a w g h':=by
 have Ml:∀v,(Instr.loadAt t (a.eval x)).run C.P w= .ok v w->(execOp a.eval o).run C.P w= .ok (.value v) w:=λv hv=>by simp[execOp,ho,hv]
 unfold Ld at hc;split at hc;.cases hc;obtain⟨_,e⟩:=hp;cases e
 .rename_i s off ver cs ow ht ha;obtain⟨hs,hx⟩:=KQ hr ha;split at hc
  .rename_i hlt;have bB:cs[off]?=some (cs.getD off .nilIface):=by simp[List.getD,Au hlt]
   obtain⟨v,b,c,i⟩:=KB hr ht hs (r:=cs.getD off .nilIface) (off:=off) (by simpa[E8] using bB);rw[<-hx] at b;simp only at hc;split at hc
   .rename_i HC;cases hc;rw[NV Ax] at FI;obtain⟨rfl,rfl⟩:=FI;simp only[A7,aBH] at HC;obtain⟨⟨j,f⟩,_⟩:=HC;have f:off∉ow.erase off:=by simpa using f
    obtain⟨γ',Es,Hn,Fl⟩:=hr.wq hs j f d none bB (i rfl);exact Fu.value (Ml v b) (by rw[hd];exact Hn.put (d:=some d) λs' j8=>by cases j8;exact⟨BH.mono Es _ _ c,Fl⟩)
   .cases hc;rw[NV Ax] at FI;obtain⟨rfl,rfl⟩:=FI;exact Fu.value (Ml v b) (by rw[hd];exact hr.put (d:=some d) λ_ _=>c)
  .cases hc
 .rename_i n s off ver cs ow ht ha;obtain⟨hs,hx⟩:=KQ hr ha;split at hc;.rename_i Es;cases hc;rw[NV Ax] at FI;obtain⟨rfl,rfl⟩:=FI;obtain⟨v,b,c,_⟩:=KB hr ht hs (r:= .agg ((cs.drop off).take n)) (off:=off) (by simp[E8,Es]);rw[<-hx] at b;exact Fu.value (Ml v b) (by rw[hd];exact hr.put (d:=some d) λ_ _=>c)
  .cases hc
 .cases hc
def jo{o:Oper}{t:TypeId}{x:Operand}{n:Option Nat}{p r:Aa}(ho:o.op= .load t x)(ht:E5 C.P t=some n)(hx:FO C U x=some (.ptr p))(hl:Bd h n p=some r)(hr:CW C γ0 w0 γ β U h a w):
  Fu C γ0 w0 o a w (U.put o.dst (.val r)) h:=by
 have hv:=Q6 hr hx;have Ml:∀v,(Instr.loadAt t (a.eval x)).run C.P w= .ok v w->(execOp a.eval o).run C.P w= .ok (.value v) w:=λv hv=>by simp[execOp,ho,hv]
 unfold Bd at hl;split at hl
 .rename_i cs;obtain⟨b,k,hv,hm⟩:=hv;obtain⟨us,g,d⟩:=hm.values;obtain⟨v,c,f⟩:=H7 (w:=w) ht g (λj u hj=>(hr.DL.HW _ _ _ (d j u hj)).1) (λu hu=>by obtain⟨j,hj⟩:=CF hu;exact(hr.DL.HW _ _ _ (d j u hj)).2.1) hl
  rw[<-hv] at c;exact Fu.value (Ml v c) (hr.put λ_ _=>f)
 .rename_i id off;obtain⟨b,hb,hv⟩:=hv;split at hl
  .rename_i cs hcs;obtain⟨us,e,fr,g,pf,d,i⟩:=hr.DL.cells id cs hcs b hb;obtain⟨v,c,f⟩:=H7 (w:=w) (b:=b) (o:=off) ht (d.drop off) (λj u hj=>by
    rw[cell_of_row w _ _ us e fr g];rw[Cn,Cg] at hj;split at hj;.simpa using hj
    .cases hj) (λu hu=>i u (Bu hu)) (Pc hl)
   rw[<-hv] at c;exact Fu.value (Ml v c) (hr.put λ_ _=>f)
  .cases hl
 .cases hl
end
end Go.Am
end
section
namespace Go.Am
open Go
section
variable{C:Fx}{γ0 γ γ':Gh}{w0 w w':World}{β:Nat->Nat}{U:BF}{h:Ai}{a:Act}{fid:FuncId}{ops:List Oper}
def Ex{b:Nat}{t:TypeId}{fr:Nat×Nat}:∀(vs:List Value) (o:Nat) (cur:Array Value) (w:World),w.heap[b]?=some (.cells cur t fr)->o+vs.length<=cur.size->
  w.setCells b o vs=w.setRow b (cur.toList.take o++vs++cur.toList.drop (o+vs.length)).toArray
 |[],o,cur,w,hg,_=>by simp only[World.setCells,Bs,Bk,Bp,Cw,Array.toArray_toList];exact(setRow_self w b cur t fr hg).symm
 |v::r,o,cur,w,hg,hl=>by simp only[AG] at hl;rw[World.setCells,setCell_eq_setRow w b o cur t fr v hg,Ex r (o+1) _ _ (setRow_heap w b cur _ t fr hg) Ek,setRow_setRow];have e:=list_seg_step cur.toList o v r Ek;simp only[Array.toList_setIfInBounds,AG];rw[e]
def OD{t:TypeId}{n b o:Nat}(hn:BQ C.P t=some n){u:Value}(hu:u.cells.size=n)(h1:∀x∈u.cells.toList,x.oneCell'=true){cur:Array Value}{e:TypeId}{fr:Nat×Nat}(hg:w.heap[b]?=some (.cells cur e fr))(vW:Tg fr cur.size)
  (hl:o+n<=cur.size):(Instr.storeAt t (.pointer (some ⟨b,o,none⟩)) u).run C.P w= .ok () (w.setRow b (cur.toList.take o++u.cells.toList++cur.toList.drop (o+n)).toArray):=by
 have hs:=run_storeCells_cells (P:=C.P) b o u.cells.toList 0 w (λj hj=>by
  rw[cell_of_row w _ _ cur e fr hg];simp at hj;rw[CH Ac];rfl) (λj hj=>by
  simp at hj;simp only[World.frozen?,hg];rcases vW with rfl|vW
  .simp
  .simp;omega) h1
 rw[Bp,Ex _ o cur w hg Ek] at hs;cases hq:C.P.info? t with
 |none=>simp[BQ,hq] at hn
 |some i=>
  have hi:i.size=n:=by simpa[BQ,hq] using hn
  simp only[B5,hu] at hs;simp[Instr.storeAt,Instr.sureAddr,storeVar,sizeOf,typeInfo,hq,hi,hu,hs]
def Wk{Z:Type}{cs vs:List Z}{off n o:Nat}(hl:off+n<=cs.length)(hv:vs.length=n)(ho:¬(off<=o/\o<off+n)):(cs.take off++vs++cs.drop (off+n))[o]?=cs[o]?:=by
 have b:(cs.take off).length=off:=Ek;by_cases h:o<off;.rw[An (by simp[hv];omega),An Ac,CN h]
 .rw[Bw (by simp[hv];omega),Cn];congr 1
  simp[hv];omega
def Zu{Z:Type}{cs:List Z}{off n:Nat}{x:Z}(hl:off+n<=cs.length):(cs.take off++[x]++cs.drop (off+n))[off]?=some x:=by have b:(cs.take off).length=off:=Ek;rw[An Ek,Bw Ac];simp[b]
def Mt{Z:Type}{us vs:List Z}{off n len:Nat}(hl:len<=us.length)(ho:off+n<=len)(hv:vs.length=n):
  (us.take off++vs++us.drop (off+n)).take len=(us.take len).take off++vs++(us.take len).drop (off+n):=by
 have c:(us.take off).length=off:=Ek;have b:(us.take off++vs).length=off+n:=by simp[hv];omega
 rw[vC,A8 Ac,b,F5,Cx Ac,List.drop_take]
def N0{cs vs:List Aa}{us Dq:List Value}{off n:Nat}(h:AX γ cs us)(h':AX γ vs Dq):AX γ (cs.take off++vs++cs.drop (off+n)) (us.take off++Dq++us.drop (off+n)):=
 ((h.take off).append h').append (h.drop (off+n))
def IP.Ó{B s d g:Nat}(hg:γ.BI g=some (.loc s)){c:Option Nat}{v:Value}{u:Aa}(Dq:Array Value)(ho:IP γ B w d c v u):IP γ B (w.setRow g Dq) d c v u:=by
 rcases ho with ho|⟨g2,n,cap,us,e,z,Av,h1,h2,b,j,i,f⟩
 .exact .inl ho
 .have hb:g2≠g:=λhe=>by subst he;rw[hg] at b;cases b
  exact .inr ⟨g2,n,cap,us,e,z,Av,h1,h2,b,j,by rw[setRow_other w g g2 Dq hb];exact i,f⟩
def Wl(γ:Gh)(w:World)(g:Nat)(us:Array Value):P0 g γ w γ (w.setRow g us):=
 ⟨.refl _,λb x hb hx _=>⟨hx,setRow_other w g b us hb⟩⟩
def CW.lF(hr:CW C γ0 w0 γ β U h a w){s ver FU off n:Nat}{cs:List Aa}{ow:List Nat}(hs:U.at s= .box ver cs ow){vs:List Aa}{Dq:List Value}(hv:AX γ vs Dq)(h1:∀u∈Dq,u.oneCell'=true)(hn:vs.length=n)
  (hl:off+n<=cs.length) {BI:Bool} (Fl:BI=true->∃u x,Dq=[u]/\vs=[x]/\IP γ w0.heap.size w s (some off) u x) {us:Array Value} {e:TypeId} (hg:w.heap[β s]?=some (.cells us e (0,0))):
  CW C γ0 w0 γ β (U.set s (.box FU (V6 cs off n vs) (RD ow off n BI))) h a (w.setRow (β s) (us.toList.take off++Dq++us.toList.drop (off+n)).toArray):=by
 have h0:=hr.fr.HT s;rw[hs] at h0;obtain⟨r,c,k,fu,e0,j,i,f,q⟩:=h0;rw[hg] at j;cases j;have hlen:Dq.length=n:=by rw[hv.length,hn]
 have lG:off+n<=us.toList.length:=by rw[i.length];exact hl
 have wv:s<U.length:=BF.O7 (by rw[hs];simp);refine⟨zH hr.DL c _,⟨by simp[hr.fr.size],λd=>?_⟩,hr.DE.write (g:=β s) k (.refl _) Ax rfl rfl rfl (λb hb=>⟨setRow_other w _ b _ hb,rfl⟩),hr.defers,hr.GN⟩;by_cases he:d=s
 .subst he;rw[BF.Fa wv];refine⟨r,c,k,_,e,setRow_heap w _ us _ e (0,0) hg,?_,?_,?_⟩;.simpa[V6] using N0 (off:=off) (n:=n) i hv
  .intro u hu;simp only[AT,Aq] at hu;rcases hu with hu|hu|hu
   .exact f u (A0 hu)
   .exact h1 u hu
   .exact f u (Bu hu)
  .intro o ho;have IB:(BI=true/\o=off)\/(o∈ow/\¬(off<=o/\o<off+n)):=by
    unfold RD at ho;have hf:o∈ow.filter (λo=> !(decide (off<=o)&&decide (o<off+n)))->o∈ow/\¬(off<=o/\o<off+n):=λhm=>by rw[Dl] at hm;refine⟨hm.1,λhc=>?_⟩;have:=hm.2;simp[hc.1,hc.2] at this
    cases BI with
    |true=>
     simp only[BE,AF] at ho;rcases ho with ho|ho
     .exact .inl ⟨rfl,ho⟩
     .exact .inr (hf ho)
    |false=>exact .inr (hf ho)
   rcases IB with⟨Ĥ,rfl⟩|⟨Ĥ,wA⟩
   .obtain⟨u,x,rfl,rfl,t⟩:=Fl Ĥ;exact⟨u,x,by simpa using Zu (x:=u) lG,by simpa[V6] using Zu (x:=x) hl,t.Ó c _⟩
   .obtain⟨u,x,p,m,l⟩:=q o Ĥ;refine⟨u,x,?_,?_,l.Ó c _⟩;.rw[<-p];have:=Wk lG hlen wA;simpa using this
    .rw[<-m];exact Wk hl hn wA
 .rw[BF.FJ (λx=>he x.symm)];exact(hr.fr.HT d).keptBut c (Wl γ w _ _) (by simp only[Kh.pM];intro hx;cases hx;exact he rfl)
def Pd(hr:CW C γ0 w0 γ β U h a w){y:Operand}{v:Aa}(hy:KL C U y=true)(hv:EK C U y=some v)(s':Nat)(c':Option Nat):
  ∃γ',γ.le γ'/\CW C γ0 w0 γ' β (U.Dr (C3 U y)) h a w/\BH γ' v (a.eval y)/\IP γ' w0.heap.size w s' c' (a.eval y) v:=by
 unfold KL at hy;cases hs:DS C U y with
 |none=>rw[hs] at hy;cases hy
 |some sl=>
  rw[hs] at hy;cases sl with
  |BI u=>
   have b:u=v:=by unfold EK at hv;rw[hs] at hv;exact D3 hv
   subst b;cases y with
   |tmp t=>have ht:U.at t= .BI u:=GF hs;obtain⟨γ',Es,Hn,h1,h2⟩:=hr.take ht s' c';exact⟨γ',Es,by simpa[C3,ht,BF.Dr] using Hn,h1,h2⟩
   |const c=>
    refine⟨γ,.refl _,hr,Gc hr hv,?_⟩;obtain⟨q,_⟩:=RK (γ:=γ) (β:=β) (w:=w) hs;unfold DS at hs;split at hs;.rename_i e;cases e
    .cases hs
    .cases hs;exact .inl (.inl rfl)
    .rename_i Kb;cases Kb;cases hc:KA c with
     |none=>rw[hc] at hs;cases hs
     |some _=>rw[hc] at hs;cases hs
    .rename_i e;cases e
    .cases hs
   |global g=>have j8:(C.GN g).map (λcs=>Ec.val (Aa.Cu cs))=some (.BI u):=hs;cases hc:C.GN g<;>rw[hc] at j8<;>cases j8
   |func f=>cases hs
  |_=>cases hy
def qE{B s:Nat}{c:Option Nat}{v:Value}{x:Aa}(h:IP γ B w s c v x):x.cells=[x]:=by rcases h with(rfl|⟨_,rfl⟩)|⟨_,_,_,_,_,_,_,rfl,_⟩<;>rfl
def qF{o:Oper}{t:TypeId}{x y:Operand}{s off n ver:Nat}{v:Aa}{BI:Bool}{c:Option (Nat×Aa)}{cells:List Aa}{owned:List Nat}{run:IT->Ai->Option Ju}{j:BF}{h':Ai}(ho:o.op= .store t x y)(hd:o.dst=none)
  (hc:I1 C U t x y=some (.MO s off n v BI c ver cells owned)) (FI:(Eu.MO s off n v BI c ver cells owned).Nd C run U h j h') (hr:CW C γ0 w0 γ β U h a w):Fu C γ0 w0 o a w j h':=by
 unfold I1 at hc;split at hc;.cases hc
 .rename_i m p s' jq FU GB NN v' K8 o9 ha hv;split at hc
  .rename_i hl;simp only[Bx,Eu.MO.injEq] at hc;obtain⟨rfl,rfl,rfl,rfl,Fl,YI,rfl,rfl,rfl⟩:=hc;obtain⟨hn,rfl,rfl⟩:=FI;obtain⟨hs,hx⟩:=KQ hr ha;have wB:=Gc hr hv;obtain⟨_,_,us,e,hg,l,q,_⟩:=hr.Zt hs;have wv:jq+(m+1)<=us.size:=by have:=l.length;simp at this;omega
   obtain⟨f,d⟩:=GZ wB Ac;have qG:(a.eval y).cells.size=m+1:=by have:=f.length;simp at this;omega
   have IM:=OD (C:=C) (b:=β s') (o:=jq) K8 qG d hg (.inl rfl) wv;rw[<-hx] at IM;have Ml:(execOp a.eval o).run C.P w= .ok .skip (w.setRow (β s') (us.toList.take jq++(a.eval y).cells.toList++us.toList.drop (jq+(m+1))).toArray):=by simp[execOp,ho,IM]
   by_cases hw:BI=true
   .subst hw;rw[Ag Fl] at YI;subst YI;simp only[A7] at Fl;obtain⟨k,Es,Jv,h1,h2⟩:=Pd hr Fl.2 hv s' (some jq);have i:=qE h2;have Lt:(U.Dr (C3 U y)).at s'= .box FU GB NN:=by
     cases y with
     |tmp t'=>
      simp only[C3];cases ht:U.at t' with
      |BI u=>simp only[BF.Dr];rw[BF.FJ (λe=>by rw[e,hs] at ht;cases ht)];exact hs
      |_=>exact hs
     |_=>exact hs
    have Lu:=Jv.lF (FU:=FU+1) (BI:=true) (n:=m+1) Lt (AX.mono Es _ _ f) d hn hl (λ_=>?_) hg;.exact Fu.skip Ml (by rw[hd];exact Lu)
    .have hcl:(a.eval y).cells=#[a.eval y]:=by
      rcases h2 with(h2|⟨z,h2⟩)|⟨_,_,_,_,_,_,_,_,h2,_⟩
      .subst h2;rw[show a.eval y=_ from h1];rfl
      .subst h2;obtain⟨_,h1⟩:=h1;rw[h1];rfl
      .rw[h2];rfl
     exact⟨a.eval y,v',by rw[hcl],i,h2⟩
   .have g:BI=false:=by simpa using hw
    subst g;rw[Af (by rw[Fl];simp)] at YI;subst YI;exact Fu.skip Ml (by rw[hd];exact hr.lF (FU:=FU+1) (BI:=false) hs f d hn hl (λe=>by cases e) hg)
  .cases hc
 .cases hc
def zS{o:Oper}{t:TypeId}{x y:Operand}{n:Nat}{p v:Aa}{h':Ai}(ho:o.op= .store t x y)(hd:o.dst=none)(K8:BQ C.P t=some (n+1))(hx:FO C U x=some (.ptr p))(hv:EK C U y=some v)(IM:CK h (n+1) p v=some h')(hr:CW C γ0 w0 γ β U h a w):
  Fu C γ0 w0 o a w U h':=by
 have ĥ:=Q6 hr hx;have wB:=Gc hr hv;unfold CK at IM;split at IM
 .rename_i id off;obtain⟨b,hb,c⟩:=ĥ;split at IM
  .rename_i cs hcs;split at IM
   .rename_i hl;cases IM;obtain⟨us,e,fr,hg,pf,j,i⟩:=hr.DL.cells id cs hcs b hb;obtain⟨g,f⟩:=GZ wB Ac;have qG:(a.eval y).cells.size=n+1:=by have:=g.length;simp at this;omega
    have hlt:cs.length<=us.size:=by have:=j.length;simp at this;omega
    have wv:off+(n+1)<=us.size:=Ac;have AH:=OD (C:=C) (b:=b) (o:=off) K8 qG f hg pf wv;rw[<-c] at AH;obtain⟨hi,ha⟩:=Nb hr.DL hcs hb hg (us.toList.take off++(a.eval y).cells.toList++us.toList.drop (off+(n+1))).toArray (cs.take off++v.cells++cs.drop (off+(n+1)))
     (by simp only[BU,Ao,AB,Bi,B5,qG];omega)
     (by
      rcases pf with rfl|pf
      .exact .inl rfl
      .refine .inr (Bn (Md ?_) pf);simp only[BU,Ao,AB,Bi,B5,qG];omega)
     (by
      have:=N0 (off:=off) (n:=n+1) j g;rw[<-Mt (by simpa using hlt) hl.2 (by simpa using qG)] at this;have d:(cs.take off++v.cells++cs.drop (off+(n+1))).length=cs.length:=by simp[hl.1];omega
      rw[d];simpa using this) (λu hu=>by
      have d:(cs.take off++v.cells++cs.drop (off+(n+1))).length=cs.length:=by simp[hl.1];omega
      rw[d] at hu;simp only[Kw] at hu;rw[Mt (by simpa using hlt) hl.2 (by simpa using qG)] at hu;simp only[AT,Aq] at hu;rcases hu with hu|hu|hu
      .exact i u (A0 hu)
      .exact f u hu
      .exact i u (Bu hu))
    have Ml:(execOp a.eval o).run C.P w= .ok .skip (w.setRow b (us.toList.take off++(a.eval y).cells.toList++us.toList.drop (off+(n+1))).toArray):=by simp[execOp,ho,AH]
    exact Fu.skip Ml (by rw[hd];exact hr.IA hi ha)
   .cases IM
  .cases IM
 .cases IM
def CW.freeze(hr:CW C γ0 w0 γ β U h a w){s ver:Nat}{cs:List Aa}{ow:List Nat}(hs:U.at s= .box ver cs ow):
  ∃γ',γ.le γ'/\CW C γ0 w0 γ' β (U.set s (.val (.Cu cs))) h a w/\BH γ' (.Cu cs) (a.tmps.getD s undef):=by
 have h0:=hr.fr.HT s;rw[hs] at h0;obtain⟨z,f,B,us,e,t,m,l,A⟩:=h0;have wv:s<U.length:=BF.O7 (by rw[hs];simp);have jf:∀o,γ.HW (β s) o=none:=λo=>by
  cases hc:γ.HW (β s) o with
  |none=>rfl
  |some u=>obtain⟨_,_,q⟩:=hr.DL.HW _ _ _ hc;rw[f] at q;rcases q with q|⟨_,_,_,q,_⟩<;>cases q
 have Es:γ.le (γ.C5 (β s) us us.size none):=⟨λb o v hb=>by
  have:b≠β s:=λe=>by rw[e,jf] at hb;cases hb
  simp only[Gh.C5,Af this];exact hb,λ_ _ hm=>hm,λ_ _ hm=>hm⟩
 have hne:∀b id,γ.BI b=some (.Mj id)->b≠β s:=λb id hb e=>by rw[e,f] at hb;cases hb
 have hk:P0 (β s) γ w (γ.C5 (β s) us us.size none) w:=⟨Es,λb x hb hx _=>⟨by simp only[Gh.C5,Af hb];exact hx,rfl⟩⟩;have hv:BH (γ.C5 (β s) us us.size none) (.Cu cs) (a.tmps.getD s undef):=by
  refine⟨β s,0,z,CQ.GD λi x hi=>?_⟩;obtain⟨u,d,c⟩:=m.get hi;have hlt:i<us.size:=by have:=(Al.1 d).1;simpa using this
  exact⟨u,by simp only[Gh.C5,BE,BB,Ag hlt];simpa using d,BH.mono Es _ _ c⟩
 have Ħ:∀b n,γ.sz b=some n->(∃us e fr,w.heap[b]?=some (.cells us e fr)/\us.size=n)/\((γ.C5 (β s) us us.size none).BI b=none\/∃id,(γ.C5 (β s) us us.size none).BI b=some (.Mj id)):=λb n hb=>by
  obtain⟨p,r⟩:=hr.DL.sz b n hb;by_cases he:b=β s;.subst he;exact⟨p,.inl (by simp[Gh.C5])⟩
  .exact⟨p,by simp only[Gh.C5,Af he];exact r⟩
 refine⟨_,Es,⟨⟨λb o v hb=>?_,λid y Ik hy=>?_,λid GB hc b hb=>?_,λid es hc b hb=>?_,hr.DL.mu,λb x hx=>?_,Ħ⟩,⟨by simp[hr.fr.size],λj=>?_⟩,?_,hr.defers,λx GB hx=>CQ.mono Es _ _ _ (hr.GN x GB hx)⟩,hv⟩
 .by_cases he:b=β s
  .subst he;simp only[Gh.C5,BE] at hb⊢;split at hb;.exact⟨by rw[cell_of_row _ _ _ us e (0,0) t];exact hb,l v (by rw[AO] at hb;obtain⟨p,q⟩:=hb;rw[<-q];exact Array.getElem_mem_toList p),.inl Ax⟩
   .cases hb
  .simp only[Gh.C5,Af he] at hb⊢;exact hr.DL.HW b o v hb
 .obtain⟨b,d,c⟩:=hr.DL.Mj id y Ik hy;exact⟨b,d,by simp only[Gh.C5,Af (hne b id c)];exact c⟩
 .obtain⟨Dq,g,zG,d,qf,c,k⟩:=hr.DL.cells id GB hc b hb;exact⟨Dq,g,zG,d,qf,AX.mono Es _ _ c,k⟩
 .obtain⟨Dq,g,d,c⟩:=hr.DL.map id es hc b hb;exact⟨Dq,g,d,c.mono Es⟩
 .by_cases he:b=β s;.subst he;exact hr.DL.BI _ _ f
  .simp only[Gh.C5,Af he] at hx;exact hr.DL.BI b x hx
 .by_cases he:j=s;.subst he;rw[BF.Fa wv];exact hv
  .rw[BF.FJ (λx=>he x.symm)];exact(hr.fr.HT j).keptBut f hk (by simp only[Kh.pM];intro hx;cases hx;exact he rfl)
 .refine⟨hr.DE.le.trans Es,hr.DE.size,hr.DE.os,hr.DE.tape,hr.DE.output,λb hb hn=>?_⟩;obtain⟨d,c⟩:=hr.DE.NS b hb hn;exact⟨d,by simp only[Gh.C5,Af (Ac:b≠β s)];exact c⟩
def CW.Tj:∀{fz:List (Nat×List Aa)} {γ:Gh} {U:BF},CW C γ0 w0 γ β U h a w->(∀p∈fz,∃ver ow,U.at p.1= .box ver p.2 ow)->(fz.map (·.1)).Nodup->
  ∃γ',γ.le γ'/\CW C γ0 w0 γ' β (U.D4 (fz.map λ(s,cs)=>(s,.val (.Cu cs)))) h a w/\∀p∈fz,BH γ' (.Cu p.2) (a.tmps.getD p.1 undef)
 |[],γ,U,hr,_,_=>⟨γ,.refl _,hr,Ax⟩
 |(s,cs)::fz,γ,U,hr,hb,hn=>by
  simp only[A9,BV] at hn;obtain⟨ver,ow,hs⟩:=hb (s,cs) Ax;obtain⟨d,aGv,Jv,w_⟩:=hr.freeze hs;obtain⟨b,lH,Lu,Rv⟩:=Tj (fz:=fz) Jv (λp hp=>by obtain⟨FU,NN,c⟩:=hb p (by simp[hp]);refine⟨FU,NN,?_⟩;rw[BF.FJ (λe=>hn.1 (by rw[show s=p.1 from e];exact A4.2 ⟨p,hp,rfl⟩))];exact c) hn.2
  refine⟨b,aGv.trans lH,Lu,λp hp=>?_⟩;rcases AF.1 hp with rfl|hp
  .exact BH.mono lH _ _ w_
  .exact Rv p hp
def MS:∀{xs:List Operand} {vs:List Aa} {fz:List (Nat×List Aa)},FQ C U xs=some (vs,fz)->
  (∀p∈fz,∃ver ow,U.at p.1= .box ver p.2 ow)/\(fz.map (·.1)).Nodup/\
  ∀γ',(∀x u,EK C U x=some u->BH γ' u (a.eval x))->(∀p∈fz,BH γ' (.Cu p.2) (a.tmps.getD p.1 undef))->AX γ' vs (xs.map a.eval)
 |[],vs,fz,hc=>by cases hc;exact⟨Ax,Ax,λ_ _ _=>rfl⟩
 |x::xs,vs,fz,hc=>by
  unfold FQ at hc;split at hc;.cases hc
  .rename_i HB f d;obtain⟨h1,h2,e⟩:=MS d;split at hc
   .rename_i s ver cs ow hs;split at hc;.cases hc
    .rename_i hn;cases hc;have hsb:U.at s= .box ver cs ow:=GF hs;refine⟨λp hp=>?_,?_,λγ' c b=>?_⟩
     .rcases AF.1 hp with rfl|hp
      .exact⟨ver,ow,hsb⟩
      .exact h1 p hp
     .simp only[A9,BV];exact⟨by simpa using hn,h2⟩
     .exact⟨_,_,rfl,b (s,cs) Ax,e γ' c λp hp=>b p (by simp[hp])⟩
   .rename_i sl _ hs;cases hv:sl.GW with
    |none=>rw[hv] at hc;cases hc
    |some u=>rw[hv] at hc;cases hc;exact⟨h1,h2,λγ' c b=>⟨_,_,rfl,c _ u (by unfold EK;rw[hs];exact hv),e γ' c b⟩⟩
   .cases hc
def lI{o:Oper}{fn:Fn}{first captured:Array Operand}{d:Nat}{as bs:List Aa}{fz:List (Nat×List Aa)}(ho:o.op= .makeFunc fn first captured)(hd:o.dst=some d)(ha:Bq C U first.toList=some as)(hb:FQ C U captured.toList=some (bs,fz))(hr:CW C γ0 w0 γ β U h a w):
  Fu C γ0 w0 o a w (((U.drop (fz.map (·.1))).D4 (fz.map λ(s,cs)=>(s,.val (.Cu cs)))).set d (.val (.func fn as bs))) h:=by
 obtain⟨h1,h2,b⟩:=MS (a:=a) hb;obtain⟨γ',Es,Hn,hv⟩:=(hr.drop (fz.map (·.1))).Tj (fz:=fz) (λp hp=>by obtain⟨ver,ow,hs⟩:=h1 p hp;exact⟨ver,ow,by rw[BF.RP,hs]⟩) h2
 refine Fu.value (w':=w) (v:= .func fn (first.map a.eval) (captured.map a.eval)) (by simp[execOp,ho,Instr.makeFunc]) (by rw[hd];exact Hn.put (d:=some d) λ_ _=>⟨_,_,rfl,by simpa using AX.mono Es _ _ (DF hr ha),by simpa using b γ' (λx u hx=>BH.mono Es _ _ (Gc hr hx)) hv⟩)
end
end Go.Am
end
