/- Lemmas -/
import Derived.Test.YtbkijlifflhdiaaGreatDoorX3
import Derived.Laws.IdiomCopy
set_option linter.all false
section
namespace Go.Am
open Go
def pZ(β:Nat->Nat)(d b:Nat):Nat->Nat:=λs=>if s=d then b else β s
def Jd.cB:Jd->Option Nat
 | .K5 _=>none
 | .zj s=>some s
 | .tail s _ _=>some s
structure Oh(g:Nat)(γ:Gh)(w:World)(γ':Gh)(w':World):Prop where
 le:γ.le γ'
 ME:∀b x,b≠g->γ.BE b=some x->x.qY=false->γ'.BE b=some x/\w'.heap[b]?=w.heap[b]?
section
variable{C:FC}{γ0 γ γ':Gh}{w0 w w':World}{β:Nat->Nat}{U:Bx}{h:Ah}{a:Act}{fid:FuncId}{ops:List Oper}
def Bx.PZ(U:Bx)(ds:List Nat)(s:Nat):(U.drop ds).at s=match U.at s with| .EI t o=>if ds.contains t then .undef else .EI t o|x=>x:=by
 cases ds with
 |nil=>simp only[Bx.drop,List.contains_nil];cases U.at s<;>simp
 |cons d ds=>
  simp only[Bx.drop,Bx.at,List.getD,Cn];cases hg:U[s]? with
  |none=>rfl
  |some x=>cases x<;>rfl
def Bx.length_drop(U:Bx)(ds:List Nat):(U.drop ds).length=U.length:=by cases ds<;>simp[Bx.drop]
def J8.aBz{B s d b:Nat}{x:D0}{v:Value}(hx:J8 γ β B w s x v)(hn:∀o,x≠ .EI d o)(hs:s≠d):J8 γ (pZ β d b) B w s x v:=by
 cases x with
 |box ver cs ow=>simpa only[J8,pZ,Ac hs] using hx
 |EI t o=>have:t≠d:=λe=>hn o (by rw[e]);simpa only[J8,pZ,Ac this] using hx
 |_=>exact hx
def HY.keptBut{g B s:Nat}{d:Jd}(hg:γ.BE g=some d)(k:Oh g γ w γ' w')(hne:d.cB≠some s){c:Option Nat}{v:Value}{u:Aa}(ho:HY γ B w s c v u):HY γ' B w' s c v u:=by
 rcases ho with ho|⟨g2,n,cap,us,e,z,Ao,h1,h2,b,m,l,j⟩
 .exact .inl ho
 .have hb:g2≠g:=λhe=>by subst he;rw[hg] at b;cases b;exact hne rfl
  obtain⟨i,f⟩:=k.ME g2 _ hb b rfl;exact .inr ⟨g2,n,cap,us,e,z,Ao,h1,h2,i,m,by rw[f];exact l,j⟩
def J8.keptBut{g B s:Nat}{d:Jd}(hg:γ.BE g=some d)(k:Oh g γ w γ' w')(hne:d.cB≠some s){x:D0}{v:Value}(hx:J8 γ β B w s x v):J8 γ' β B w' s x v:=by
 cases x with
 |undef=>trivial
 |skip=>exact hx
 |val u=>exact Bz.mono k.le u v hx
 |Nj b=>exact hx
 |BE u=>exact⟨Bz.mono k.le u v hx.1,hx.2.keptBut hg k hne⟩
 |box ver cs ow=>
  obtain⟨r,c,q,us,e,p,n,m,l⟩:=hx;have hb:β s≠g:=λhe=>by rw[he,hg] at c;cases c;exact hne rfl
  obtain⟨y,t⟩:=k.ME _ _ hb c rfl;exact⟨r,y,q,us,e,by rw[t];exact p,AS.mono k.le cs _ n,m,λo ho=>let⟨u,v,j,i,f⟩:=l o ho;⟨u,v,j,i,f.keptBut hg k hne⟩⟩
 |EI s' o=>exact hx
def CH.rF(hr:CH C γ0 w0 γ β U h a w)(d:Nat)(us:Array Value)(e:TypeId)(cells:List Aa)(ow:List Nat)(hc:AS γ cells us.toList)(h1:∀u∈us.toList,u.oneCell'=true)
  (how:∀o∈ow,cells[o]?=some .slnil):
  ∃γ' b,CH C γ0 w0 γ' b ((U.drop [d]).set d (.box 0 cells ow)) h (a.put (some d) (.pointer (some ⟨w.heap.size,0,none⟩))) (w.alloc (.cells us e)):=by
 obtain⟨hi,ha⟩:=Nt hr.Dr us e (0,0) 0 (some (.zj d)) (λ_ _ ho=>absurd ho (Nat.not_lt_zero _)) (.inr (.inr ⟨rfl,Aw⟩));have I7:=(hr.drop [d]).HK hi ha;refine⟨_,pZ β d w.heap.size,I7.Dr,⟨by simp[Act.put,I7.fr.size],λs=>?_⟩,I7.Dq,I7.defers,I7.Gq⟩;have hs:=I7.fr.Hd s;by_cases he:s=d
 .subst he;by_cases hl:s<(U.drop [s]).length
  .have Z_:s<a.tmps.size:=by rw[<-I7.fr.size];exact hl
   rw[Bx.EP hl];have g:(a.put (some s) (.pointer (some ⟨w.heap.size,0,none⟩))).tmps.getD s undef= .pointer (some ⟨w.heap.size,0,none⟩):=by simp[Act.put,Array.getD,Z_]
   rw[g];refine⟨by simp[pZ],by simp[pZ,Gh.CT],?_,us,e,?_,AS.mono ha.le _ _ hc,h1,λo ho=>?_⟩;.simp only[pZ,BH];exact hr.Dq.size
   .simp only[pZ,BH];exact heap_alloc_new w _
   .have hco:=how o ho;obtain⟨u,c,i⟩:=hc.get hco;exact⟨u,.slnil,by simpa using c,hco,.inl (.inl rfl)⟩
  .have:Bx.at ((U.drop [s]).set s (.box 0 cells ow)) s= .undef:=by simp[Bx.at,List.getD];rw[C3 (by simpa using hl)];rfl
   rw[this];trivial
 .rw[Bx.Fk (λe=>he e.symm)];have f:(a.put (some d) (.pointer (some ⟨w.heap.size,0,none⟩))).tmps.getD s undef=a.tmps.getD s undef:=by simp[Act.put,Gl,bX (λe=>he e.symm)]
  rw[f];refine hs.aBz (λo ho=>?_) he;rw[Bx.PZ] at ho;cases hx:U.at s with
  |EI t o'=>
   rw[hx] at ho;simp only at ho;split at ho;.cases ho
   .rename_i hc;cases ho;exact hc Aw
  |_=>rw[hx] at ho;cases ho
def GX{P:Program}{t:TypeId}{z:Aa}(hz:Ge P t=some z):∃v,Jz v=some z/\∀w,(zeroValue t).run P w= .ok v w:=by
 unfold Ge at hz;cases hi:P.info? t with
 |none=>rw[hi] at hz;cases hz
 |some i=>
  rw[hi] at hz;cases hv:i.zero with
  |none=>simp[hv] at hz
  |some v=>simp only[B5,hv] at hz;exact⟨v,hz,λw=>by simp[zeroValue,typeInfo,hi,hv]⟩
def cP{cs:List Aa}{o:Nat}(h:o∈To cs):cs[o]?=some .slnil:=by
 simp only[To,CG,List.mem_range] at h;obtain⟨h1,h2⟩:=h;simp only[List.getD,Ai h1,LP] at h2;rw[Ai h1];split at h2;.rename_i he;rw[he]
 .cases h2
def Fc(C:FC)(γ0:Gh)(w0:World)(o:Oper)(a:Act)(w:World)(c:Bx)(h':Ah):Prop:=
 ∃γ' b w',(∃v,(execOp a.eval o).run C.P w= .ok (.value v) w'/\CH C γ0 w0 γ' b c h' (a.put o.dst v) w')\/((execOp a.eval o).run C.P w= .ok .skip w'/\CH C γ0 w0 γ' b c h' (a.put o.dst undef) w')
def Fc.value{o:Oper}{c:Bx}{h':Ah}{b:Nat->Nat}{v:Value}(he:(execOp a.eval o).run C.P w= .ok (.value v) w')(hr:CH C γ0 w0 γ' b c h' (a.put o.dst v) w'):Fc C γ0 w0 o a w c h':=⟨γ',b,w',.inl ⟨v,he,hr⟩⟩
def Fc.skip{o:Oper}{c:Bx}{h':Ah}{b:Nat->Nat}(he:(execOp a.eval o).run C.P w= .ok .skip w')(hr:CH C γ0 w0 γ' b c h' (a.put o.dst undef) w'):Fc C γ0 w0 o a w c h':=⟨γ',b,w',.inr ⟨he,hr⟩⟩
def TC{o:Oper}{t:TypeId}{d:Nat}{z:Aa}(ho:o.op= .alloc t)(hd:o.dst=some d)(hz:Ge C.P t=some z)(hn:z.cells≠[])(hr:CH C γ0 w0 γ β U h a w):
  Fc C γ0 w0 o a w ((U.drop [d]).set d (.box 0 z.cells (To z.cells))) h:=by
 obtain⟨v,hv,AE⟩:=GX hz;obtain⟨e,c⟩:=Gx (γ:=γ) (EO hv) (DB.2 hn);obtain⟨γ',b,GH⟩:=hr.rF d v.cells t z.cells (To z.cells) e c (λo=>cP);refine Fc.value (v:= .pointer (some ⟨w.heap.size,0,none⟩)) ?_ (by rw[hd];exact GH);simp[execOp,ho,Instr.alloc,AE,newVar,newRow]
def Xn{o:Oper}{t:TypeId}{x:Operand}{d n:Nat}{v:Aa}(ho:o.op= .box t x)(hd:o.dst=some d)(hx:Ex C U x=some v)(hv:v.cells.length=n)(hn:n≠0)(hr:CH C γ0 w0 γ β U h a w):
  Fc C γ0 w0 o a w ((U.drop [d]).set d (.box 0 v.cells [])) h:=by
 obtain⟨e,c⟩:=Gx (FT hr hx) Ab;obtain⟨γ',b,GH⟩:=hr.rF d (a.eval x).cells t v.cells [] e c Aw;refine Fc.value (v:= .pointer (some ⟨w.heap.size,0,none⟩)) ?_ (by rw[hd];exact GH);simp[execOp,ho,Instr.box,newVar,newRow]
def CH.newObj(hr:CH C γ0 w0 γ β U h a w)(us:Array Value)(e:TypeId)(fr:Nat×Nat)(cells:List Aa)(iK:Q8 fr us.size)(hc:AS γ cells (us.toList.take cells.length))(h1:∀u∈us.toList.take cells.length,u.oneCell'=true):
  ∃γ',γ.le γ'/\γ'.mu h.length=some w.heap.size/\CH C γ0 w0 γ' β U (h++[.cells cells]) a (w.alloc (.cells us e fr))/\γ'.sz w.heap.size=some us.size:=by
 obtain⟨hi,ha⟩:=MG hr.Dr (.cells us e fr) (.cells cells) (some us.size) (.inl ⟨cells,us,e,fr,rfl,rfl,iK,hc,h1,rfl⟩);exact⟨_,ha.le,by simp[Gh.BW],hr.HK hi ha,by simp[Gh.BW]⟩
def TD{o:Oper}{t:TypeId}{z:Aa}{d:Option Nat}(ho:o.op= .alloc t)(hd:o.dst=d)(hz:Ge C.P t=some z)(hn:z.cells.length≠0)(hr:CH C γ0 w0 γ β U h a w):
  Fc C γ0 w0 o a w (U.put d (.val (.ptr (some (h.length,0))))) (h++[.cells z.cells]):=by
 obtain⟨v,hv,AE⟩:=GX hz;obtain⟨b,c⟩:=Gx (γ:=γ) (EO hv) Ab;obtain⟨γ',Eg,hm,GH,_⟩:=hr.newObj v.cells t (0,0) z.cells (.inl rfl) (by rw[AR (by rw[b.length];exact Af _)];exact b) (λu hu=>c u (AN hu));refine Fc.value (v:= .pointer (some ⟨w.heap.size,0,none⟩)) ?_ (by rw[hd];exact GH.put λs _=>⟨_,hm,rfl⟩);simp[execOp,ho,Instr.alloc,AE,newVar,newRow]
def Xo{o:Oper}{t:TypeId}{x:Operand}{d:Option Nat}{v:Aa}(ho:o.op= .box t x)(hd:o.dst=d)(hx:Ex C U x=some v)(hn:v.cells.length≠0)(hr:CH C γ0 w0 γ β U h a w):
  Fc C γ0 w0 o a w (U.put d (.val (.ptr (some (h.length,0))))) (h++[.cells v.cells]):=by
 obtain⟨b,c⟩:=Gx (FT hr hx) Ab;obtain⟨γ',Eg,hm,GH,_⟩:=hr.newObj (a.eval x).cells t (0,0) v.cells (.inl rfl) (by rw[AR (by rw[b.length];exact Af _)];exact b) (λu hu=>c u (AN hu));refine Fc.value (v:= .pointer (some ⟨w.heap.size,0,none⟩)) ?_ (by rw[hd];exact GH.put λs _=>⟨_,hm,rfl⟩);simp[execOp,ho,Instr.box,newVar,newRow]
def JO(hr:CH C γ0 w0 γ β U h a w){x:Operand}{s o ver:Nat}{cs:List Aa}{ow:List Nat}(hx:Ft C U x=some (.Nq s o ver cs ow)):
  U.at s= .box ver cs ow/\a.eval x= .pointer (some ⟨β s,o,none⟩):=by
 unfold Ft at hx;split at hx;.rename_i s' Fw Gd Mz hs;cases hx;have h0:=PT hr s;rw[Gg hs] at h0;exact⟨Gg hs,h0.1⟩
 .rename_i s' o' _ hs;split at hx;.rename_i hb;cases hx;obtain⟨t,h1,_⟩:=Fy hr hs;exact⟨hb,h1⟩
  .cases hx
 .rename_i sl _ _ hs;cases hv:sl.Gt with
  |none=>rw[hv] at hx;cases hx
  |some u=>rw[hv] at hx;cases hx
 .cases hx
def Pb(hr:CH C γ0 w0 γ β U h a w){x:Operand}{p:Aa}(hx:Ft C U x=some (.ptr p)):Bz γ p (a.eval x):=by
 unfold Ft at hx;split at hx;.cases hx
 .split at hx<;>cases hx
 .rename_i sl _ _ hs;cases hv:sl.Gt with
  |none=>rw[hv] at hx;cases hx
  |some u=>rw[hv] at hx;cases hx;obtain⟨t,h1,_⟩:=Fy hr hs;exact L6 h1 hv
 .cases hx
def Hm{t:TypeId}{n:Option Nat}(ht:EM C.P t=some n){cs:List Aa}{us:List Value}{b o:Nat}(hv:AS γ cs us)(hc:∀(j:Nat) (u:Value),us[j]?=some u->w.cell? ⟨b,o+j,none⟩=some u)(h1:∀u∈us,u.oneCell'=true)
  {r:Aa} (hp:EJ cs 0 n=some r):∃v,(Instr.loadAt t (.pointer (some ⟨b,o,none⟩))).run C.P w= .ok v w/\Bz γ r v:=by
 unfold EM at ht;have L7:∀j,(⟨b,o,none⟩:Addr).add j=⟨b,o+j,none⟩:=λj=>by unfold Addr.add;split<;>simp_all
 have agg:∀d,C.P.underlying t=some d->(match d with| .struct _| .array _ _=>true|_=>false)=true->(BJ C.P t).map some=some n->
   ∃v,(Instr.loadAt t (.pointer (some ⟨b,o,none⟩))).run C.P w= .ok v w/\Bz γ r v:=by
  intro d hd hb hn;cases hs:BJ C.P t with
  |none=>rw[hs] at hn;cases hn
  |some k=>
   rw[hs] at hn;cases hn;simp only[EJ] at hp;split at hp
   .rename_i hk;cases hp;have hl:=run_loadCells_list (P:=C.P) w ⟨b,o,none⟩ (us.take k) (λj v hj=>by
     rw[L7];refine hc j v ?_;rw[B3] at hj;split at hj;.exact hj
     .cases hj)
    have hlen:(us.take k).length=k:=by simp[hv.length];omega
    rw[hlen] at hl;refine⟨.agg (us.take k).toArray,?_,_,rfl,?_,λu hu=>h1 u (AN (by simpa using hu))⟩
    .have cQ:(isAgg t).run C.P w= .ok true w:=by unfold isAgg;rw[Sem.run_bind,run_underlying hd w];cases d<;>simp_all
     cases hq:C.P.info? t with
     |none=>simp[BJ,hq] at hs
     |some i=>
      have hi:i.size=k:=by simpa[BJ,hq] using hs
      simp[Instr.loadAt,Instr.sureAddr,loadVar,cQ,sizeOf,typeInfo,hq,hi,hl]
    .simpa using hv.take k
   .cases hp
 split at ht;.rename_i fs hd;exact agg _ hd rfl ht
 .rename_i l e hd;exact agg _ hd rfl ht
 .rename_i d PF Vq hd;cases ht;simp only[EJ] at hp;obtain⟨u,hu,hr⟩:=hv.get hp;refine⟨u,?_,hr⟩;have cQ:(isAgg t).run C.P w= .ok false w:=by unfold isAgg;rw[Sem.run_bind,run_underlying hd w];cases d<;>simp_all
  have It:=hc 0 u hu;simp only[Bc] at It;simp[Instr.loadAt,Instr.sureAddr,loadVar,cQ,It]
 .cases ht
def Ny{cs:List Aa}{off:Nat}{n:Option Nat}{r:Aa}(h:EJ cs off n=some r):EJ (cs.drop off) 0 n=some r:=by
 cases n with
 |none=>simp only[EJ] at h⊢;rw[Cm];simpa using h
 |some n=>
  simp only[EJ] at h⊢;split at h;.cases h;rw[Ad ER];simp
  .cases h
def CH.V9(hr:CH C γ0 w0 γ β U h a w){s ver:Nat}{cs:List Aa}{ow:List Nat}(hs:U.at s= .box ver cs ow):
  γ.BE (β s)=some (.zj s)/\w0.heap.size<=β s/\∃us e,w.heap[β s]?=some (.cells us e (0,0))/\AS γ cs us.toList/\(∀u∈us.toList,u.oneCell'=true)/\
   ∀o∈ow,∃u x,us[o]?=some u/\cs[o]?=some x/\HY γ w0.heap.size w s (some o) u x:=by
 have h0:=hr.fr.Hd s;rw[hs] at h0;exact⟨h0.2.1,h0.2.2.1,h0.2.2.2⟩
def JA(hr:CH C γ0 w0 γ β U h a w){t:TypeId}{n:Option Nat}(ht:EM C.P t=some n){s ver off:Nat}{cs:List Aa}{ow:List Nat}(hs:U.at s= .box ver cs ow){r:Aa}(hp:EJ cs off n=some r):
  ∃v,(Instr.loadAt t (.pointer (some ⟨β s,off,none⟩))).run C.P w= .ok v w/\Bz γ r v/\(n=none->∀us e,w.heap[β s]?=some (.cells us e (0,0))->us[off]?=some v):=by
 obtain⟨_,_,us,e,h1,h2,g,_⟩:=hr.V9 hs;obtain⟨v,c,f⟩:=Hm (w:=w) (b:=β s) (o:=off) ht (h2.drop off) (λj u hj=>by rw[cell_of_row w _ _ us e (0,0) h1];rw[Cm] at hj;simpa using hj) (λu hu=>g u (A6 hu)) (Ny hp)
 refine⟨v,c,f,λhn C6 i jw=>?_⟩;subst hn;rw[h1] at jw;cases jw;simp only[EJ] at hp;obtain⟨u,hu,_⟩:=h2.get hp;have It:w.cell? ⟨β s,off,none⟩=some u:=by rw[cell_of_row w _ _ us e (0,0) h1];simpa using hu
 have cQ:∃d,C.P.underlying t=some d/\(isAgg t).run C.P w= .ok false w:=by
  unfold EM at ht;split at ht;.cases hz:BJ C.P t<;>rw[hz] at ht<;>cases ht
  .cases hz:BJ C.P t<;>rw[hz] at ht<;>cases ht
  .rename_i d PF Vq hd;refine⟨d,hd,?_⟩;unfold isAgg;rw[Sem.run_bind,run_underlying hd w];cases d<;>simp_all
  .cases ht
 obtain⟨d,hd,cQ⟩:=cQ;have:(Instr.loadAt t (.pointer (some ⟨β s,off,none⟩))).run C.P w= .ok u w:=by simp[Instr.loadAt,Instr.sureAddr,loadVar,cQ,It]
 rw[c] at this;cases this;simpa using hu
def CH.yT(hr:CH C γ0 w0 γ β U h a w){s ver off:Nat}{cs:List Aa}{ow:List Nat}(hs:U.at s= .box ver cs ow)(ho:off∈ow)(zl:off∉ow.erase off)(s':Nat)(c':Option Nat){u:Value}{v:Aa}(hv:cs[off]?=some v)
  (hu:∀us e,w.heap[β s]?=some (.cells us e (0,0))->us[off]?=some u):
  ∃γ',γ.le γ'/\CH C γ0 w0 γ' β (U.set s (.box (ver+1) cs (ow.erase off))) h a w/\HY γ' w0.heap.size w s' c' u v:=by
 have h0:=hr.fr.Hd s;rw[hs] at h0;obtain⟨h1,h2,r,us,e,j,q,p,i⟩:=h0;obtain⟨x,v',d,c,b⟩:=i off ho;rw[hv] at c;cases c;rw[hu us e j] at d;cases d;have I7:CH C γ0 w0 γ β (U.set s (.box (ver+1) cs (ow.erase off))) h a w:=hr.YY ⟨h1,h2,r,us,e,j,q,p,λo' xU=>i o' (List.mem_of_mem_erase xU)⟩;have hl:s<U.length:=Bx.Nu (by rw[hs];simp);rcases b with b|⟨g,n,cap,cE,t,z,Ao,o,m,l,f,k⟩
 .exact⟨γ,.refl _,I7,.inl b⟩
 .refine⟨γ.E5 g (.tail s' c' (n*z)),Gw _ _ _,I7.E5 l f (λhn=>by cases hn) (λo' xU Fw Gd Mz hb=>?_),.inr ⟨g,n,cap,cE,t,z,Ao,o,m,by simp[Gh.E5],f,k⟩⟩;rw[Bx.EP hl] at hb;cases hb;cases xU;exact zl
def Vr{o:Oper}{t:TypeId}{x:Operand}{d:Nat}{take:Bool}{r:Ei}{run:IT->Ah->Option Jb}{g:Bx}{h':Ah}(ho:o.op= .load t x)(hd:o.dst=some d)(hc:J7 C U t x d take=some r)(hp:∃ws,r= .pure ws)
  (Fh:r.L4 C run (U.drop r.news) h g h') (hr:CH C γ0 w0 γ β U h a w):Fc C γ0 w0 o a w g h':=by
 have K8:∀v,(Instr.loadAt t (a.eval x)).run C.P w= .ok v w->(execOp a.eval o).run C.P w= .ok (.value v) w:=λv hv=>by simp[execOp,ho,hv]
 unfold J7 at hc;split at hc;.cases hc;obtain⟨_,e⟩:=hp;cases e
 .rename_i s off ver cs ow ht ha;obtain⟨hs,hx⟩:=JO hr ha;split at hc
  .rename_i hlt;have Xp:cs[off]?=some (cs.getD off .nilIface):=by simp[List.getD,Ai hlt]
   obtain⟨v,b,c,i⟩:=JA hr ht hs (r:=cs.getD off .nilIface) (off:=off) (by simpa[EJ] using Xp);rw[<-hx] at b;simp only at hc;split at hc
   .rename_i GQ;cases hc;rw[MH Aw] at Fh;obtain⟨rfl,rfl⟩:=Fh;simp only[Bt,M_] at GQ;obtain⟨⟨j,f⟩,_⟩:=GQ;have f:off∉ow.erase off:=by simpa using f
    obtain⟨γ',Eg,GH,EZ⟩:=hr.yT hs j f d none Xp (i rfl);exact Fc.value (K8 v b) (by rw[hd];exact GH.put (d:=some d) λs' YH=>by cases YH;exact⟨Bz.mono Eg _ _ c,EZ⟩)
   .cases hc;rw[MH Aw] at Fh;obtain⟨rfl,rfl⟩:=Fh;exact Fc.value (K8 v b) (by rw[hd];exact hr.put (d:=some d) λ_ _=>c)
  .cases hc
 .rename_i n s off ver cs ow ht ha;obtain⟨hs,hx⟩:=JO hr ha;split at hc;.rename_i Eg;cases hc;rw[MH Aw] at Fh;obtain⟨rfl,rfl⟩:=Fh;obtain⟨v,b,c,_⟩:=JA hr ht hs (r:= .agg ((cs.drop off).take n)) (off:=off) (by simp[EJ,Eg]);rw[<-hx] at b;exact Fc.value (K8 v b) (by rw[hd];exact hr.put (d:=some d) λ_ _=>c)
  .cases hc
 .cases hc
def rG{o:Oper}{t:TypeId}{x:Operand}{n:Option Nat}{p r:Aa}(ho:o.op= .load t x)(ht:EM C.P t=some n)(hx:Ft C U x=some (.ptr p))(hl:Bq h n p=some r)(hr:CH C γ0 w0 γ β U h a w):
  Fc C γ0 w0 o a w (U.put o.dst (.val r)) h:=by
 have hv:=Pb hr hx;have K8:∀v,(Instr.loadAt t (a.eval x)).run C.P w= .ok v w->(execOp a.eval o).run C.P w= .ok (.value v) w:=λv hv=>by simp[execOp,ho,hv]
 unfold Bq at hl;split at hl
 .rename_i cs;obtain⟨b,k,hv,hm⟩:=hv;obtain⟨us,g,d⟩:=hm.values;obtain⟨v,c,f⟩:=Hm (w:=w) ht g (λj u hj=>(hr.Dr.Hh _ _ _ (d j u hj)).1) (λu hu=>by obtain⟨j,hj⟩:=Cq hu;exact(hr.Dr.Hh _ _ _ (d j u hj)).2.1) hl
  rw[<-hv] at c;exact Fc.value (K8 v c) (hr.put λ_ _=>f)
 .rename_i id off;obtain⟨b,hb,hv⟩:=hv;split at hl
  .rename_i cs hcs;obtain⟨us,e,fr,g,pf,d,i⟩:=hr.Dr.cells id cs hcs b hb;obtain⟨v,c,f⟩:=Hm (w:=w) (b:=b) (o:=off) ht (d.drop off) (λj u hj=>by
    rw[cell_of_row w _ _ us e fr g];rw[Cm,B3] at hj;split at hj;.simpa using hj
    .cases hj) (λu hu=>i u (A6 hu)) (Ny hl)
   rw[<-hv] at c;exact Fc.value (K8 v c) (hr.put λ_ _=>f)
  .cases hl
 .cases hl
end
end Go.Am
end
section
namespace Go.Am
open Go
section
variable{C:FC}{γ0 γ γ':Gh}{w0 w w':World}{β:Nat->Nat}{U:Bx}{h:Ah}{a:Act}{fid:FuncId}{ops:List Oper}
def Ek{b:Nat}{t:TypeId}{fr:Nat×Nat}:∀(vs:List Value) (o:Nat) (cur:Array Value) (w:World),w.heap[b]?=some (.cells cur t fr)->o+vs.length<=cur.size->
  w.setCells b o vs=w.setRow b (cur.toList.take o++vs++cur.toList.drop (o+vs.length)).toArray
 |[],o,cur,w,hg,_=>by simp only[World.setCells,BQ,BK,Bc,BM,Array.toArray_toList];exact(setRow_self w b cur t fr hg).symm
 |v::r,o,cur,w,hg,hl=>by simp only[AU] at hl;rw[World.setCells,setCell_eq_setRow w b o cur t fr v hg,Ek r (o+1) _ _ (setRow_heap w b cur _ t fr hg) ER,setRow_setRow];have e:=list_seg_step cur.toList o v r ER;simp only[Array.toList_setIfInBounds,AU];rw[e]
def Na{t:TypeId}{n b o:Nat}(hn:BJ C.P t=some n){u:Value}(hu:u.cells.size=n)(h1:∀x∈u.cells.toList,x.oneCell'=true){cur:Array Value}{e:TypeId}{fr:Nat×Nat}(hg:w.heap[b]?=some (.cells cur e fr))(iK:Q8 fr cur.size)
  (hl:o+n<=cur.size):(Instr.storeAt t (.pointer (some ⟨b,o,none⟩)) u).run C.P w= .ok () (w.setRow b (cur.toList.take o++u.cells.toList++cur.toList.drop (o+n)).toArray):=by
 have hs:=run_storeCells_cells (P:=C.P) b o u.cells.toList 0 w (λj hj=>by
  rw[cell_of_row w _ _ cur e fr hg];simp at hj;rw[Cu Ab];rfl) (λj hj=>by
  simp at hj;simp only[World.frozen?,hg];rcases iK with rfl|iK
  .simp
  .simp;omega) h1
 rw[Bc,Ek _ o cur w hg ER] at hs;cases hq:C.P.info? t with
 |none=>simp[BJ,hq] at hn
 |some i=>
  have hi:i.size=n:=by simpa[BJ,hq] using hn
  simp only[B0,hu] at hs;simp[Instr.storeAt,Instr.sureAddr,storeVar,sizeOf,typeInfo,hq,hi,hu,hs]
def TE{Z:Type}{cs vs:List Z}{off n o:Nat}(hl:off+n<=cs.length)(hv:vs.length=n)(ho:¬(off<=o/\o<off+n)):(cs.take off++vs++cs.drop (off+n))[o]?=cs[o]?:=by
 have b:(cs.take off).length=off:=ER;by_cases h:o<off;.rw[Al (by simp[hv];omega),Al Ab,CA h]
 .rw[Bp (by simp[hv];omega),Cm];congr 1
  simp[hv];omega
def Wa{Z:Type}{cs:List Z}{off n:Nat}{x:Z}(hl:off+n<=cs.length):(cs.take off++[x]++cs.drop (off+n))[off]?=some x:=by have b:(cs.take off).length=off:=ER;rw[Al ER,Bp Ab];simp[b]
def Lh{Z:Type}{us vs:List Z}{off n len:Nat}(hl:len<=us.length)(ho:off+n<=len)(hv:vs.length=n):
  (us.take off++vs++us.drop (off+n)).take len=(us.take len).take off++vs++(us.take len).drop (off+n):=by
 have c:(us.take off).length=off:=ER;have b:(us.take off++vs).length=off+n:=by simp[hv];omega
 rw[gY,AR Ab,b,GD,Ce Ab,List.drop_take]
def MM{cs vs:List Aa}{us C6:List Value}{off n:Nat}(h:AS γ cs us)(h':AS γ vs C6):AS γ (cs.take off++vs++cs.drop (off+n)) (us.take off++C6++us.drop (off+n)):=
 ((h.take off).append h').append (h.drop (off+n))
def HY.jy{B s d g:Nat}(hg:γ.BE g=some (.zj s)){c:Option Nat}{v:Value}{u:Aa}(C6:Array Value)(ho:HY γ B w d c v u):HY γ B (w.setRow g C6) d c v u:=by
 rcases ho with ho|⟨g2,n,cap,us,e,z,Ao,h1,h2,b,j,i,f⟩
 .exact .inl ho
 .have hb:g2≠g:=λhe=>by subst he;rw[hg] at b;cases b
  exact .inr ⟨g2,n,cap,us,e,z,Ao,h1,h2,b,j,by rw[setRow_other w g g2 C6 hb];exact i,f⟩
def TF(γ:Gh)(w:World)(g:Nat)(us:Array Value):Oh g γ w γ (w.setRow g us):=
 ⟨.refl _,λb x hb hx _=>⟨hx,setRow_other w g b us hb⟩⟩
def CH.Zb(hr:CH C γ0 w0 γ β U h a w){s ver Fw off n:Nat}{cs:List Aa}{ow:List Nat}(hs:U.at s= .box ver cs ow){vs:List Aa}{C6:List Value}(hv:AS γ vs C6)(h1:∀u∈C6,u.oneCell'=true)(hn:vs.length=n)
  (hl:off+n<=cs.length) {BE:Bool} (EZ:BE=true->∃u x,C6=[u]/\vs=[x]/\HY γ w0.heap.size w s (some off) u x) {us:Array Value} {e:TypeId} (hg:w.heap[β s]?=some (.cells us e (0,0))):
  CH C γ0 w0 γ β (U.set s (.box Fw (Tr cs off n vs) (PK ow off n BE))) h a (w.setRow (β s) (us.toList.take off++C6++us.toList.drop (off+n)).toArray):=by
 have h0:=hr.fr.Hd s;rw[hs] at h0;obtain⟨r,c,k,p8,e0,j,i,f,q⟩:=h0;rw[hg] at j;cases j;have hlen:C6.length=n:=by rw[hv.length,hn]
 have YI:off+n<=us.toList.length:=by rw[i.length];exact hl
 have yU:s<U.length:=Bx.Nu (by rw[hs];simp);refine⟨mL hr.Dr c _,⟨by simp[hr.fr.size],λd=>?_⟩,hr.Dq.write (g:=β s) k (.refl _) Aw rfl rfl rfl (λb hb=>⟨setRow_other w _ b _ hb,rfl⟩),hr.defers,hr.Gq⟩;by_cases he:d=s
 .subst he;rw[Bx.EP yU];refine⟨r,c,k,_,e,setRow_heap w _ us _ e (0,0) hg,?_,?_,?_⟩;.simpa[Tr] using MM (off:=off) (n:=n) i hv
  .intro u hu;simp only[AB,Ak] at hu;rcases hu with hu|hu|hu
   .exact f u (AN hu)
   .exact h1 u hu
   .exact f u (A6 hu)
  .intro o ho;have HL:(BE=true/\o=off)\/(o∈ow/\¬(off<=o/\o<off+n)):=by
    unfold PK at ho;have hf:o∈ow.filter (λo=> !(decide (off<=o)&&decide (o<off+n)))->o∈ow/\¬(off<=o/\o<off+n):=λhm=>by rw[CG] at hm;refine⟨hm.1,λhc=>?_⟩;have:=hm.2;simp[hc.1,hc.2] at this
    cases BE with
    |true=>
     simp only[BH,Az] at ho;rcases ho with ho|ho
     .exact .inl ⟨rfl,ho⟩
     .exact .inr (hf ho)
    |false=>exact .inr (hf ho)
   rcases HL with⟨pq,rfl⟩|⟨pq,bM⟩
   .obtain⟨u,x,rfl,rfl,t⟩:=EZ pq;exact⟨u,x,by simpa using Wa (x:=u) YI,by simpa[Tr] using Wa (x:=x) hl,t.jy c _⟩
   .obtain⟨u,x,p,m,l⟩:=q o pq;refine⟨u,x,?_,?_,l.jy c _⟩;.rw[<-p];have:=TE YI hlen bM;simpa using this
    .rw[<-m];exact TE hl hn bM
 .rw[Bx.Fk (λx=>he x.symm)];exact(hr.fr.Hd d).keptBut c (TF γ w _ _) (by simp only[Jd.cB];intro hx;cases hx;exact he rfl)
def Nz(hr:CH C γ0 w0 γ β U h a w){y:Operand}{v:Aa}(hy:JK C U y=true)(hv:Ex C U y=some v)(s':Nat)(c':Option Nat):
  ∃γ',γ.le γ'/\CH C γ0 w0 γ' β (U.Da (CR U y)) h a w/\Bz γ' v (a.eval y)/\HY γ' w0.heap.size w s' c' (a.eval y) v:=by
 unfold JK at hy;cases hs:DF C U y with
 |none=>rw[hs] at hy;cases hy
 |some sl=>
  rw[hs] at hy;cases sl with
  |BE u=>
   have b:u=v:=by unfold Ex at hv;rw[hs] at hv;exact Ew hv
   subst b;cases y with
   |tmp t=>have ht:U.at t= .BE u:=Gg hs;obtain⟨γ',Eg,GH,h1,h2⟩:=hr.take ht s' c';exact⟨γ',Eg,by simpa[CR,ht,Bx.Da] using GH,h1,h2⟩
   |const c=>
    refine⟨γ,.refl _,hr,FT hr hv,?_⟩;obtain⟨q,_⟩:=PU (γ:=γ) (β:=β) (w:=w) hs;unfold DF at hs;split at hs;.rename_i e;cases e
    .cases hs
    .cases hs;exact .inl (.inl rfl)
    .rename_i I8;cases I8;cases hc:Jz c with
     |none=>rw[hc] at hs;cases hs
     |some _=>rw[hc] at hs;cases hs
    .rename_i e;cases e
    .cases hs
   |global g=>have YH:(C.Gq g).map (λcs=>D0.val (Aa.Cz cs))=some (.BE u):=hs;cases hc:C.Gq g<;>rw[hc] at YH<;>cases YH
   |func f=>cases hs
  |_=>cases hy
def cR{B s:Nat}{c:Option Nat}{v:Value}{x:Aa}(h:HY γ B w s c v x):x.cells=[x]:=by rcases h with(rfl|⟨_,rfl⟩)|⟨_,_,_,_,_,_,_,rfl,_⟩<;>rfl
def cS{o:Oper}{t:TypeId}{x y:Operand}{s off n ver:Nat}{v:Aa}{BE:Bool}{c:Option (Nat×Aa)}{cells:List Aa}{owned:List Nat}{run:IT->Ah->Option Jb}{g:Bx}{h':Ah}(ho:o.op= .store t x y)(hd:o.dst=none)
  (hc:Ic C U t x y=some (.LB s off n v BE c ver cells owned)) (Fh:(Ei.LB s off n v BE c ver cells owned).L4 C run U h g h') (hr:CH C γ0 w0 γ β U h a w):Fc C γ0 w0 o a w g h':=by
 unfold Ic at hc;split at hc;.cases hc
 .rename_i m k s' rH Fw Gd Mz v' J3 bL ha hv;split at hc
  .rename_i hl;simp only[BB,Ei.LB.injEq] at hc;obtain⟨rfl,rfl,rfl,rfl,EZ,Vs,rfl,rfl,rfl⟩:=hc;obtain⟨hn,rfl,rfl⟩:=Fh;obtain⟨hs,hx⟩:=JO hr ha;have iO:=FT hr hv;obtain⟨_,_,us,e,hg,j,l,_⟩:=hr.V9 hs;have yU:rH+(m+1)<=us.size:=by have:=j.length;simp at this;omega
   obtain⟨f,d⟩:=Gx iO Ab;have cT:(a.eval y).cells.size=m+1:=by have:=f.length;simp at this;omega
   have HW:=Na (C:=C) (b:=β s') (o:=rH) J3 cT d hg (.inl rfl) yU;rw[<-hx] at HW;have K8:(execOp a.eval o).run C.P w= .ok .skip (w.setRow (β s') (us.toList.take rH++(a.eval y).cells.toList++us.toList.drop (rH+(m+1))).toArray):=by simp[execOp,ho,HW]
   by_cases hw:BE=true
   .subst hw;rw[Ad EZ] at Vs;subst Vs;simp only[Bt] at EZ;obtain⟨i,Eg,I7,h1,h2⟩:=Nz hr EZ.2 hv s' (some rH);have zm:=cR h2;have K9:(U.Da (CR U y)).at s'= .box Fw Gd Mz:=by
     cases y with
     |tmp t'=>
      simp only[CR];cases ht:U.at t' with
      |BE u=>simp only[Bx.Da];rw[Bx.Fk (λe=>by rw[e,hs] at ht;cases ht)];exact hs
      |_=>exact hs
     |_=>exact hs
    have Lj:=I7.Zb (Fw:=Fw+1) (BE:=true) (n:=m+1) K9 (AS.mono Eg _ _ f) d hn hl (λ_=>?_) hg;.exact Fc.skip K8 (by rw[hd];exact Lj)
    .have hcl:(a.eval y).cells=#[a.eval y]:=by
      rcases h2 with(h2|⟨z,h2⟩)|⟨_,_,_,_,_,_,_,_,h2,_⟩
      .subst h2;rw[show a.eval y=_ from h1];rfl
      .subst h2;obtain⟨_,h1⟩:=h1;rw[h1];rfl
      .rw[h2];rfl
     exact⟨a.eval y,v',by rw[hcl],zm,h2⟩
   .have zi:BE=false:=by simpa using hw
    subst zi;rw[Ac (by rw[EZ];simp)] at Vs;subst Vs;exact Fc.skip K8 (by rw[hd];exact hr.Zb (Fw:=Fw+1) (BE:=false) hs f d hn hl (λe=>by cases e) hg)
  .cases hc
 .cases hc
def mW{o:Oper}{t:TypeId}{x y:Operand}{n:Nat}{p v:Aa}{h':Ah}(ho:o.op= .store t x y)(hd:o.dst=none)(J3:BJ C.P t=some (n+1))(hx:Ft C U x=some (.ptr p))(hv:Ex C U y=some v)(HW:CM h (n+1) p v=some h')(hr:CH C γ0 w0 γ β U h a w):
  Fc C γ0 w0 o a w U h':=by
 have pt:=Pb hr hx;have iO:=FT hr hv;unfold CM at HW;split at HW
 .rename_i id off;obtain⟨b,hb,c⟩:=pt;split at HW
  .rename_i cs hcs;split at HW
   .rename_i hl;cases HW;obtain⟨us,e,fr,hg,pf,j,i⟩:=hr.Dr.cells id cs hcs b hb;obtain⟨g,f⟩:=Gx iO Ab;have cT:(a.eval y).cells.size=n+1:=by have:=g.length;simp at this;omega
    have hlt:cs.length<=us.size:=by have:=j.length;simp at this;omega
    have yU:off+(n+1)<=us.size:=Ab;have AE:=Na (C:=C) (b:=b) (o:=off) J3 cT f hg pf yU;rw[<-c] at AE;obtain⟨hi,ha⟩:=LZ hr.Dr hcs hb hg (us.toList.take off++(a.eval y).cells.toList++us.toList.drop (off+(n+1))).toArray (cs.take off++v.cells++cs.drop (off+(n+1)))
     (by simp only[BP,Ap,Au,AV,B0,cT];omega)
     (by
      rcases pf with rfl|pf
      .exact .inl rfl
      .refine .inr (Bm (KY ?_) pf);simp only[BP,Ap,Au,AV,B0,cT];omega)
     (by
      have:=MM (off:=off) (n:=n+1) j g;rw[<-Lh (by simpa using hlt) hl.2 (by simpa using cT)] at this;have d:(cs.take off++v.cells++cs.drop (off+(n+1))).length=cs.length:=by simp[hl.1];omega
      rw[d];simpa using this) (λu hu=>by
      have d:(cs.take off++v.cells++cs.drop (off+(n+1))).length=cs.length:=by simp[hl.1];omega
      rw[d] at hu;simp only[Jt] at hu;rw[Lh (by simpa using hlt) hl.2 (by simpa using cT)] at hu;simp only[AB,Ak] at hu;rcases hu with hu|hu|hu
      .exact i u (AN hu)
      .exact f u hu
      .exact i u (A6 hu))
    have K8:(execOp a.eval o).run C.P w= .ok .skip (w.setRow b (us.toList.take off++(a.eval y).cells.toList++us.toList.drop (off+(n+1))).toArray):=by simp[execOp,ho,AE]
    exact Fc.skip K8 (by rw[hd];exact hr.HK hi ha)
   .cases HW
  .cases HW
 .cases HW
def CH.freeze(hr:CH C γ0 w0 γ β U h a w){s ver:Nat}{cs:List Aa}{ow:List Nat}(hs:U.at s= .box ver cs ow):
  ∃γ',γ.le γ'/\CH C γ0 w0 γ' β (U.set s (.val (.Cz cs))) h a w/\Bz γ' (.Cz cs) (a.tmps.getD s undef):=by
 have h0:=hr.fr.Hd s;rw[hs] at h0;obtain⟨A,f,D,us,e,z,t,m,B⟩:=h0;have yU:s<U.length:=Bx.Nu (by rw[hs];simp);have q6:∀o,γ.Hh (β s) o=none:=λo=>by
  cases hc:γ.Hh (β s) o with
  |none=>rfl
  |some u=>obtain⟨_,_,q⟩:=hr.Dr.Hh _ _ _ hc;rw[f] at q;rcases q with q|⟨_,_,_,q,_⟩<;>cases q
 have Eg:γ.le (γ.CT (β s) us us.size none):=⟨λb o v hb=>by
  have:b≠β s:=λe=>by rw[e,q6] at hb;cases hb
  simp only[Gh.CT,Ac this];exact hb,λ_ _ hm=>hm,λ_ _ hm=>hm⟩
 have hne:∀b id,γ.BE b=some (.K5 id)->b≠β s:=λb id hb e=>by rw[e,f] at hb;cases hb
 have hk:Oh (β s) γ w (γ.CT (β s) us us.size none) w:=⟨Eg,λb x hb hx _=>⟨by simp only[Gh.CT,Ac hb];exact hx,rfl⟩⟩;have hv:Bz (γ.CT (β s) us us.size none) (.Cz cs) (a.tmps.getD s undef):=by
  refine⟨β s,0,A,CD.Gf λi x hi=>?_⟩;obtain⟨u,d,c⟩:=t.get hi;have hlt:i<us.size:=by have:=(Ae.1 d).1;simpa using this
  exact⟨u,by simp only[Gh.CT,BH,BC,Ad hlt];simpa using d,Bz.mono Eg _ _ c⟩
 have pv:∀b n,γ.sz b=some n->(∃us e fr,w.heap[b]?=some (.cells us e fr)/\us.size=n)/\((γ.CT (β s) us us.size none).BE b=none\/∃id,(γ.CT (β s) us us.size none).BE b=some (.K5 id)):=λb n hb=>by
  obtain⟨p,r⟩:=hr.Dr.sz b n hb;by_cases he:b=β s;.subst he;exact⟨p,.inl (by simp[Gh.CT])⟩
  .exact⟨p,by simp only[Gh.CT,Ac he];exact r⟩
 refine⟨_,Eg,⟨⟨λb o v hb=>?_,λid y Hw hy=>?_,λid Gd hc b hb=>?_,λid es hc b hb=>?_,hr.Dr.mu,λb x hx=>?_,pv⟩,⟨by simp[hr.fr.size],λj=>?_⟩,?_,hr.defers,λx Gd hx=>CD.mono Eg _ _ _ (hr.Gq x Gd hx)⟩,hv⟩
 .by_cases he:b=β s
  .subst he;simp only[Gh.CT,BH] at hb⊢;split at hb;.exact⟨by rw[cell_of_row _ _ _ us e (0,0) z];exact hb,m v (by rw[AK] at hb;obtain⟨p,q⟩:=hb;rw[<-q];exact Array.getElem_mem_toList p),.inl Aw⟩
   .cases hb
  .simp only[Gh.CT,Ac he] at hb⊢;exact hr.Dr.Hh b o v hb
 .obtain⟨b,d,c⟩:=hr.Dr.K5 id y Hw hy;exact⟨b,d,by simp only[Gh.CT,Ac (hne b id c)];exact c⟩
 .obtain⟨C6,g,mK,d,k,c,l⟩:=hr.Dr.cells id Gd hc b hb;exact⟨C6,g,mK,d,k,AS.mono Eg _ _ c,l⟩
 .obtain⟨C6,g,d,c⟩:=hr.Dr.map id es hc b hb;exact⟨C6,g,d,c.mono Eg⟩
 .by_cases he:b=β s;.subst he;exact hr.Dr.BE _ _ f
  .simp only[Gh.CT,Ac he] at hx;exact hr.Dr.BE b x hx
 .by_cases he:j=s;.subst he;rw[Bx.EP yU];exact hv
  .rw[Bx.Fk (λx=>he x.symm)];exact(hr.fr.Hd j).keptBut f hk (by simp only[Jd.cB];intro hx;cases hx;exact he rfl)
 .refine⟨hr.Dq.le.trans Eg,hr.Dq.size,hr.Dq.os,hr.Dq.tape,hr.Dq.output,λb hb hn=>?_⟩;obtain⟨d,c⟩:=hr.Dq.ME b hb hn;exact⟨d,by simp only[Gh.CT,Ac (Ab:b≠β s)];exact c⟩
def CH.Rc:∀{fz:List (Nat×List Aa)} {γ:Gh} {U:Bx},CH C γ0 w0 γ β U h a w->(∀p∈fz,∃ver ow,U.at p.1= .box ver p.2 ow)->(fz.map (·.1)).Nodup->
  ∃γ',γ.le γ'/\CH C γ0 w0 γ' β (U.DR (fz.map λ(s,cs)=>(s,.val (.Cz cs)))) h a w/\∀p∈fz,Bz γ' (.Cz p.2) (a.tmps.getD p.1 undef)
 |[],γ,U,hr,_,_=>⟨γ,.refl _,hr,Aw⟩
 |(s,cs)::fz,γ,U,hr,hb,hn=>by
  simp only[Bi,BL] at hn;obtain⟨ver,ow,hs⟩:=hb (s,cs) Aw;obtain⟨c,aBB,I7,yV⟩:=hr.freeze hs;obtain⟨b,Zc,Lj,Zd⟩:=Rc (fz:=fz) I7 (λp hp=>by obtain⟨Fw,Mz,pY⟩:=hb p (by simp[hp]);refine⟨Fw,Mz,?_⟩;rw[Bx.Fk (λe=>hn.1 (by rw[show s=p.1 from e];exact AZ.2 ⟨p,hp,rfl⟩))];exact pY) hn.2
  refine⟨b,aBB.trans Zc,Lj,λp hp=>?_⟩;rcases Az.1 hp with rfl|hp
  .exact Bz.mono Zc _ _ yV
  .exact Zd p hp
def LH:∀{xs:List Operand} {vs:List Aa} {fz:List (Nat×List Aa)},Fu C U xs=some (vs,fz)->
  (∀p∈fz,∃ver ow,U.at p.1= .box ver p.2 ow)/\(fz.map (·.1)).Nodup/\
  ∀γ',(∀x u,Ex C U x=some u->Bz γ' u (a.eval x))->(∀p∈fz,Bz γ' (.Cz p.2) (a.tmps.getD p.1 undef))->AS γ' vs (xs.map a.eval)
 |[],vs,fz,hc=>by cases hc;exact⟨Aw,Aw,λ_ _ _=>rfl⟩
 |x::xs,vs,fz,hc=>by
  unfold Fu at hc;split at hc;.cases hc
  .rename_i GY f d;obtain⟨h1,h2,e⟩:=LH d;split at hc
   .rename_i s ver cs ow hs;split at hc;.cases hc
    .rename_i hn;cases hc;have hsb:U.at s= .box ver cs ow:=Gg hs;refine⟨λp hp=>?_,?_,λγ' c b=>?_⟩
     .rcases Az.1 hp with rfl|hp
      .exact⟨ver,ow,hsb⟩
      .exact h1 p hp
     .simp only[Bi,BL];exact⟨by simpa using hn,h2⟩
     .exact⟨_,_,rfl,b (s,cs) Aw,e γ' c λp hp=>b p (by simp[hp])⟩
   .rename_i sl _ hs;cases hv:sl.Gt with
    |none=>rw[hv] at hc;cases hc
    |some u=>rw[hv] at hc;cases hc;exact⟨h1,h2,λγ' c b=>⟨_,_,rfl,c _ u (by unfold Ex;rw[hs];exact hv),e γ' c b⟩⟩
   .cases hc
def Ze{o:Oper}{fn:Fn}{first captured:Array Operand}{d:Nat}{as bs:List Aa}{fz:List (Nat×List Aa)}(ho:o.op= .makeFunc fn first captured)(hd:o.dst=some d)(ha:Be C U first.toList=some as)(hb:Fu C U captured.toList=some (bs,fz))(hr:CH C γ0 w0 γ β U h a w):
  Fc C γ0 w0 o a w (((U.drop (fz.map (·.1))).DR (fz.map λ(s,cs)=>(s,.val (.Cz cs)))).set d (.val (.func fn as bs))) h:=by
 obtain⟨h1,h2,b⟩:=LH (a:=a) hb;obtain⟨γ',Eg,GH,hv⟩:=(hr.drop (fz.map (·.1))).Rc (fz:=fz) (λp hp=>by obtain⟨ver,ow,hs⟩:=h1 p hp;exact⟨ver,ow,by rw[Bx.PZ,hs]⟩) h2
 refine Fc.value (w':=w) (v:= .func fn (first.map a.eval) (captured.map a.eval)) (by simp[execOp,ho,Instr.makeFunc]) (by rw[hd];exact GH.put (d:=some d) λ_ _=>⟨_,_,rfl,by simpa using AS.mono Eg _ _ (Ds hr ha),by simpa using b γ' (λx u hx=>Bz.mono Eg _ _ (FT hr hx)) hv⟩)
end
end Go.Am
end
