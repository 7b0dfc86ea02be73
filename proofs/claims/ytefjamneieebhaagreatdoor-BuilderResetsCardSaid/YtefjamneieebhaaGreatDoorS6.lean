/- Lemmas -/
import Derived.Test.YtefjamneieebhaaGreatDoorS5
import Derived.MapKept
set_option linter.unusedVariables false
set_option linter.unusedSimpArgs false
section
namespace Go.Am
open Go
section
variable{C:FG}{γ0 γ γ':Gh}{w0 w w':World}{β:Nat->Nat}{σ:BD}{h:Ad}{a:Act}{fid:FuncId}{ops:List Oper}
theorem aI{s t:Ap}(h:s≠t):((⟨⟨s⟩⟩:ByteArray)==⟨⟨t⟩⟩)=false:=by
 refine Bool.eq_false_iff.2 λhc=>h ?_;have:=(MapKept.bytes_beq _ _).1 hc;injection this with this
 injection this with this
theorem UO(s:Ap):((⟨⟨s⟩⟩:ByteArray)==⟨⟨s⟩⟩)=true:=(MapKept.bytes_beq _ _).2 rfl
theorem aJ{s:Ap}:∀{es:List (Aa×Aa)} {l:List MapEntry} {i:Nat} {r:Option Aa},KU γ es l->Uj s es=some r->
  match r with
  |none=>Instr.findNow .string (.string ⟨⟨s⟩⟩) l i=some none
  |some v=>∃(j:Nat) (e:MapEntry),Instr.findNow .string (.string ⟨⟨s⟩⟩) l i=some (some (i+j,e.val))/\BE γ v e.val
 |[],l,i,r,hM,hf=>by rw[show l=[] from hM];cases hf;rfl
 |(k,v)::es,l,i,r,hM,hf=>by
  obtain⟨e,l',rfl,h1,h2,h3⟩:=hM;unfold Uj at hf;split at hf;·rename_i Jk;cases Jk
  .rename_i t v' TU Jk;cases Jk;have hk:e.key= .string ⟨⟨t⟩⟩:=h1;split at hf;·rename_i hst;subst hst;cases hf;exact⟨0,e,by simp[Instr.findNow,hk,Instr.sameNow,UO],h2⟩
   .rename_i hst;have ih:=aJ (i:=i+1) h3 hf;have hne:=aI hst;cases r with
    |none=>simpa[Instr.findNow,hk,Instr.sameNow,hne] using ih
    |some v2=>obtain⟨j,e2,q1,q2⟩:=ih;exact⟨j+1,e2,by simp only[Instr.findNow,hk,Instr.sameNow,hne];rw[q1];congr 3;omega,q2⟩
  .cases hf
theorem lF{s:Ap}{v:Aa}{u:Value}(hv:BE γ v u):∀{es TU:List (Aa×Aa)} {l:List MapEntry} {i:Nat},KU γ es l->ND s v es=some TU->
  (Instr.findNow .string (.string ⟨⟨s⟩⟩) l i=some none/\∀born,KU γ TU (l++[{key:= .string ⟨⟨s⟩⟩,val:=u,born}]))\/
  ∃j e,Instr.findNow .string (.string ⟨⟨s⟩⟩) l i=some (some (i+j,e.val))/\l[j]?=some e/\e.key= .string ⟨⟨s⟩⟩/\KU γ TU (l.modify j λe=>{e with key:= .string ⟨⟨s⟩⟩,val:=u})
 |[],TU,l,i,hM,hp=>by rw[show l=[] from hM];cases hp;exact .inl ⟨rfl,λborn=>⟨_,[],rfl,rfl,hv,rfl⟩⟩
 |(k,v0)::es,TU,l,i,hM,hp=>by
  obtain⟨e,l',rfl,h1,h2,h3⟩:=hM;unfold ND at hp;split at hp;·rename_i Jk;cases Jk
  .rename_i t v' es2 Jk;cases Jk;have hk:e.key= .string ⟨⟨t⟩⟩:=h1;split at hp;·rename_i hst;subst hst;cases hp;exact .inr ⟨0,e,by simp[Instr.findNow,hk,Instr.sameNow,UO],rfl,hk,_,l',rfl,rfl,hv,h3⟩
   .rename_i hst;have hne:=aI hst;cases hq:ND s v es with
    |none=>rw[hq] at hp;cases hp
    |some es3=>
     rw[hq] at hp;cases hp;rcases lF hv (i:=i+1) h3 hq with⟨q1,q2⟩|⟨j,e2,q1,q2,q3,q4⟩
     .exact .inl ⟨by simpa[Instr.findNow,hk,Instr.sameNow,hne] using q1,λborn=>⟨e,_,rfl,h1,h2,q2 born⟩⟩
     .exact .inr ⟨j+1,e2,by simp only[Instr.findNow,hk,Instr.sameNow,hne];rw[q1];congr 3;omega,q2,q3,e,_,by simp,h1,h2,q4⟩
  .cases hp
theorem Xn{es:Array MapEntry}{clock:Nat}{k v:Value}(h:clock=es.size/\∀(i:Nat) (e:MapEntry),es[i]?=some e->e.born=i):
  clock+1=(es.push {key:=k,val:=v,born:=clock}).size/\∀(i:Nat) (e:MapEntry),(es.push {key:=k,val:=v,born:=clock})[i]?=some e->e.born=i:=by
 obtain⟨rfl,h⟩:=h;refine⟨by simp,λi e he=>?_⟩;rw[Array.getElem?_push] at he;split at he;·rename_i hi;cases he;exact hi.symm
 .exact h i e he
theorem SK{es:Array MapEntry}{clock j:Nat}{f:MapEntry->MapEntry}(h:clock=es.size/\∀(i:Nat) (e:MapEntry),es[i]?=some e->e.born=i)(hf:∀e,(f e).born=e.born):
  clock=(es.modify j f).size/\∀(i:Nat) (e:MapEntry),(es.modify j f)[i]?=some e->e.born=i:=by
 refine⟨by simpa using h.1,λi e he=>?_⟩;rw[su] at he;split at he
 .cases hx:es[i]? with
  |none=>rw[hx] at he;cases he
  |some x=>rw[hx] at he;cases he;rw[hf];exact h.2 i x hx
 .exact h.2 i e he
theorem OJ(hi:Gp γ h w){g id:Nat}{es TU:List (Aa×Aa)}(Wk:h[id]?=some (.map es))(hg:γ.mu id=some g){o:Obj}{ents':Array MapEntry}{clock':Nat}(hw:w.heap[g]?=some o)(hr:vE γ TU ents' clock'):
  Gp γ (h.set id (.map TU)) {w with heap:=w.heap.setIfInBounds g (.map ents' clock')}/\J3 γ w γ {w with heap:=w.heap.setIfInBounds g (.map ents' clock')}:=by
 obtain⟨g',p,Rw⟩:=hi.KT id _ Wk (by simp);rw[hg] at p;cases p;obtain⟨Me,hother⟩:=MapKept.heap_set (o':= .map ents' clock') hw;have uniq:∀E8 x,h[E8]?=some x->x≠ .CG->γ.mu E8=some g->E8=id:=λE8 x hx ye hm=>by obtain⟨b',p,q⟩:=hi.KT E8 x hx ye;rw[hm] at p;cases p;rw[Rw] at q;cases q;rfl
 constructor
 .refine⟨λb o v hb=>?_,λE8 y Ht hy=>?_,λE8 cs hc b hb=>?_,λE8 es2 hc b hb=>?_,λE8 b hb=>by simpa using hi.mu E8 b hb,λb x hx=>?_,λb n hb=>?_⟩;rotate_left 5
  .obtain⟨⟨eV,e2,vG,p,q⟩,r⟩:=hi.sz b n hb;have hne:b≠g:=λhe=>by subst he;obtain⟨ents0,clock0,p0,_⟩:=hi.map id es Wk b hg;rw[p] at p0;cases p0
   exact⟨⟨eV,e2,vG,by rw[hother b hne];exact p,q⟩,r⟩
  .obtain⟨p,q,r⟩:=hi.Hy b o v hb;have:b≠g:=λhe=>by subst he;rw[Rw] at r;rcases r with r|⟨_,_,_,r,_⟩<;>cases r
   exact⟨by rw[Cw (w:=w) (hother b this)];exact p,q,r⟩
  .by_cases he:E8=id;·subst he;exact⟨g,hg,Rw⟩
   .rw[Aj (λx=>he x.symm)] at Ht;exact hi.KT E8 y Ht hy
  .by_cases he:E8=id;·subst he;rw[AN (hi.mu _ _ hg)] at hc;cases hc
   .rw[Aj (λx=>he x.symm)] at hc;have Qq:b≠g:=λhx=>by subst hx;exact he (uniq E8 _ hc (by simp) hb)
    obtain⟨eV,e2,vG,p,pf,q,r⟩:=hi.cells E8 cs hc b hb;exact⟨eV,e2,vG,by rw[hother b Qq];exact p,pf,q,r⟩
  .by_cases he:E8=id;·subst he;rw[hg] at hb;cases hb;rw[AN (hi.mu _ _ hg)] at hc;cases hc;exact⟨ents',clock',Me,hr⟩
   .rw[Aj (λx=>he x.symm)] at hc;have Qq:b≠g:=λhx=>by subst hx;exact he (uniq E8 _ hc (by simp) hb)
    obtain⟨Dk,clock,p,q⟩:=hi.map E8 es2 hc b hb;exact⟨Dk,clock,by rw[hother b Qq];exact p,q⟩
  .have:=hi.own b x hx;simpa using this
 .refine⟨.refl _,by simp,rfl,rfl,rfl,λb hb hn=>⟨?_,rfl⟩⟩;exact hother b (λhe=>by subst he;exact hn id Rw)
theorem UP(hr:CR C γ0 w0 γ β σ h a w){x y z:Operand}{u1 u2 u3:Aa}(ha:Bq C σ [x,y,z]=some [u1,u2,u3]):BE γ u1 (a.eval x)/\BE γ u2 (a.eval y)/\BE γ u3 (a.eval z):=by obtain⟨_,_,_,e,h1,h2,h3⟩:=(Dx hr ha).SF;simp only[Bl,DP,Hp,NN] at e;obtain⟨rfl,rfl,rfl⟩:=e;exact⟨h1,h2,h3⟩
theorem aK{o:Oper}{t kt e:TypeId}{m k x:Operand}{vm vk vx:Aa}{h':Ad}(ho:o.op= .insert t m k x\/o.op= .mapUpdate t m k x)(hd:o.dst=none)(ht:C.P.underlying t=some (.map kt e))(hk:C.P.underlying kt=some .string)(ha:Bq C σ [m,k,x]=some [vm,vk,vx])
  (hm:SA h vm vk vx=some h') (hr:CR C γ0 w0 γ β σ h a w):FJ C γ0 w0 o a w σ h':=by
 obtain⟨h1,h2,h3⟩:=UP hr ha;have MI:∀w',(Instr.mapUpdate t (a.eval m) (a.eval k) (a.eval x)).run C.P w= .ok () w'->(execOp a.eval o).run C.P w= .ok .skip w':=λw' AV=>by rcases ho with ho|ho<;>simp[execOp,ho,AV]
 unfold SA at hm;split at hm
 .rename_i id s;obtain⟨b,hb,vX⟩:=h1;have hke:a.eval k= .string ⟨⟨s⟩⟩:=h2;split at hm
  .rename_i es Wk;cases hp:ND s vx es with
   |none=>rw[hp] at hm;cases hm
   |some TU=>
    rw[hp] at hm;cases hm;obtain⟨Dk,clock,hw,hM,hB⟩:=hr.DD.map id es Wk b hb;have vY:(Instr.checkKey false 10000 kt (.string ⟨⟨s⟩⟩)).run C.P w= .ok () w:=MapKept.run_checkKey (k:= .string ⟨⟨s⟩⟩) hk (by simp[MapKept.IsKey]) false 9999;rcases lF h3 (i:=0) hM hp with⟨q1,q2⟩|⟨j,en,q1,q2,q3,q4⟩
    .have AV:(Instr.mapUpdate t (a.eval m) (a.eval k) (a.eval x)).run C.P w= .ok () {w with heap:=w.heap.setIfInBounds b (.map (Dk.push {key:= .string ⟨⟨s⟩⟩,val:=a.eval x,born:=clock}) (clock+1))}:=by rw[vX,hke];simp[Instr.mapUpdate,run_underlying ht,MapKept.run_getObj_map hw,vY,MapKept.run_findKey hk q1,MapKept.run_setObj_map _ hw,Result.andThen]
     obtain⟨hi,JC⟩:=OJ (TU:=TU) (ents':=Dk.push {key:= .string ⟨⟨s⟩⟩,val:=a.eval x,born:=clock}) (clock':=clock+1) hr.DD Wk hb hw ⟨by simpa using q2 clock,Xn hB⟩;exact FJ.skip (MI _ AV) (by rw[hd];exact hr.world hi JC)
    .have hj:Dk[j]?=some en:=by simpa using q2
     rw[BJ] at q1;have AV:(Instr.mapUpdate t (a.eval m) (a.eval k) (a.eval x)).run C.P w= .ok () {w with heap:=w.heap.setIfInBounds b (.map (Dk.modify j λe=>{e with key:= .string ⟨⟨s⟩⟩,val:=a.eval x}) clock)}:=by rw[vX,hke];simp[Instr.mapUpdate,run_underlying ht,MapKept.run_getObj_map hw,vY,MapKept.run_findKey hk q1,hj,q3,MapKept.run_keyThatStays (d:= .string) (k:= .string ⟨⟨s⟩⟩) (by simp[MapKept.IsKey]),MapKept.run_setObj_map _ hw,Result.andThen]
     obtain⟨hi,JC⟩:=OJ (TU:=TU) (ents':=Dk.modify j λe=>{e with key:= .string ⟨⟨s⟩⟩,val:=a.eval x}) (clock':=clock) hr.DD Wk hb hw ⟨by simpa using q4,SK hB λ_=>rfl⟩;exact FJ.skip (MI _ AV) (by rw[hd];exact hr.world hi JC)
  .cases hm
 .cases hm
theorem vZ{o:Oper}{t:TypeId}(ho:o.op= .makeMap t none)(hr:CR C γ0 w0 γ β σ h a w):FJ C γ0 w0 o a w (σ.put o.dst (.val (.map (some h.length)))) (h++[.map []]):=by
 obtain⟨hi,ha⟩:=FX hr.DD (.map #[] 0) (.map []) none (.inr ⟨rfl,rfl,rfl⟩);have AV:(Instr.makeMap t none).run C.P w= .ok (.map (some w.heap.size)) (w.alloc (.map #[] 0)):=by simp[Instr.makeMap]
 exact FJ.value (by simp only[execOp,ho];exact Dq AV) ((hr.world hi ha).put λ_ _=>⟨w.heap.size,by simp[Gh.BM],rfl⟩)
def JT(key elem:TypeId)(index:Value)(commaOk:Bool)(es:Array MapEntry):Sem Value:=do
 Instr.checkKey es.isEmpty 10000 key index
 let(v,ok)<-match<-Instr.findKey key index es.toList with
  |some (_,v)=>pure (v,true)
  |none=>pure (<-zeroValue elem,false)
 pure (if commaOk then .tuple #[v,.bool ok] else v)
theorem v8{o:Oper}{t kt e:TypeId}{m k:Operand}{vm vk z r:Aa}{ok:Bool}(ho:o.op= .lookup t m k ok)(ht:C.P.underlying t=some (.map kt e))(hk:C.P.underlying kt=some .string)(hz:GJ C.P e=some z)(ha:Bq C σ [m,k]=some [vm,vk])(hm:SB h z ok vm vk=some r)(hr:CR C γ0 w0 γ β σ h a w):
  FJ C γ0 w0 o a w (σ.put o.dst (.val r)) h:=by
 obtain⟨_,_,e0,h1,h2⟩:=Fa hr ha;cases e0;obtain⟨zv,uF,yr⟩:=Hb hz;have Hv:∀(es:Array MapEntry) (q:Option Aa),(Instr.lookup t (a.eval m) (a.eval k) ok).run C.P w=(JT kt e (a.eval k) ok es).run C.P w->
   ∀s,a.eval k= .string ⟨⟨s⟩⟩->(match q with|none=>Instr.findNow .string (.string ⟨⟨s⟩⟩) es.toList 0=some none|some v=>∃(j:Nat) (e:MapEntry),Instr.findNow .string (.string ⟨⟨s⟩⟩) es.toList 0=some (some (0+j,e.val))/\BE γ v e.val)->
   (match q with|some v=>if ok then Aa.tuple [v,.bool true] else v|none=>if ok then .tuple [z,.bool false] else z)=r->FJ C γ0 w0 o a w (σ.put o.dst (.val r)) h:=by
  intro es q Wk s gg hq Wi;have vY:(Instr.checkKey es.isEmpty 10000 kt (.string ⟨⟨s⟩⟩)).run C.P w= .ok () w:=MapKept.run_checkKey (k:= .string ⟨⟨s⟩⟩) hk (by simp[MapKept.IsKey]) es.isEmpty 9999;have AV:∃v,(Instr.lookup t (a.eval m) (a.eval k) ok).run C.P w= .ok v w/\BE γ r v:=by
   cases q with
   |none=>
    refine⟨if ok then .tuple #[zv,.bool false] else zv,?_,?_⟩;·rw[Wk,gg];unfold JT;simp only[Sem.run_bind,Result.andThen_ok,vY,MapKept.run_findKey hk hq,yr,Sem.run_bind,Sem.run_pure]
    .rw[<-Wi];have hvz:=ER (γ:=γ) uF;cases ok with
     |true=>exact⟨_,rfl,_,_,rfl,hvz,_,_,rfl,rfl,rfl⟩
     |false=>exact hvz
   |some v=>
    obtain⟨j,en,q1,q2⟩:=hq;refine⟨if ok then .tuple #[en.val,.bool true] else en.val,?_,?_⟩;·rw[Wk,gg];unfold JT;simp only[Sem.run_bind,Result.andThen_ok,vY,MapKept.run_findKey hk q1,Sem.run_bind,Sem.run_pure]
    .rw[<-Wi];cases ok with
     |true=>exact⟨_,rfl,_,_,rfl,q2,_,_,rfl,rfl,rfl⟩
     |false=>exact q2
  obtain⟨v,AV,lD⟩:=AV;exact FJ.value (by simp only[execOp,ho];exact Dq AV) (hr.put λ_ _=>lD)
 unfold SB at hm;cases hf:Uk h vm vk with
 |none=>rw[hf] at hm;cases hm
 |some q=>
  rw[hf] at hm;simp only[BR,BA] at hm;unfold Uk at hf;split at hf;·rename_i s;cases hf;exact Hv #[] none (by rw[show a.eval m=_ from h1];simp only[Instr.lookup,JT,Sem.run_bind,run_underlying ht,Result.andThen_ok,Sem.run_pure];rfl) s h2 rfl hm
  .rename_i id s;obtain⟨b,hb,vX⟩:=h1;split at hf;·rename_i es Wk;obtain⟨Dk,clock,hw,hM,_⟩:=hr.DD.map id es Wk b hb;exact Hv Dk q (by rw[vX];simp only[Instr.lookup,JT,Sem.run_bind,run_underlying ht,MapKept.run_getObj_map hw,Result.andThen_ok,Sem.run_pure];rfl) s h2 (aJ (i:=0) hM hf) hm
   .cases hf
  .cases hf
theorem fQ{size:Nat}{v:Aa}(h:PL size v=true):v= .slnil\/v= .sl size []:=by
 unfold PL at h;split at h;·exact .inl rfl
 .exact .inr (by simpa using h)
 .cases h
theorem q7{o:Oper}{c:Call}{t t' e:TypeId}{n b:Nat}{s x:Operand}{v u r:Aa}{h':Ad}(ho:o.op= .call c)(hc:c.callee= .builtin .append)(h0:c.argTypes[0]?=some t)(h1:c.argTypes[1]?=some t')(Ed:c.args.toList=[s,x])(ht:C.P.underlying t=some (.slice e))
  (FH:(∃e',C.P.underlying t'=some (.slice e'))\/C.P.underlying t'=some .string) (hsz:BP C.P e=some (n+1)) (vS:I6 C.P e=some (b+1)) (E0:J1 C σ s=true) (eH:LQ C.P e=true) (hv:Bq C σ [s,x]=some [v,u])
  (hp:Jv h (n+1) (b+1) v u=some (h',r)) (hr:CR C γ0 w0 γ β σ h a w):FJ C γ0 w0 o a w ((σ.Dm (CY σ s)).put o.dst (.val r)) h':=by
 obtain⟨i,z,hi,hz,ZJ⟩:=LA eH;have O8:=IS hsz hi;have yn:=KD vS hi;obtain⟨_,_,e0,hvs,fN⟩:=Fa hr hv;cases e0;have fo:Es C σ s=some v:=by
  unfold Bq at hv;split at hv;·rename_i p ps q1 q2;cases hv;exact q1
  .cases hv
 have Ie:PL (n+1) v=true/\((∃Au,HB (n+1) (b+1) .slnil u=some (.sl (n+1) Au)/\Au≠[]/\u= .sl (n+1) Au/\Au.length*(b+1)<=AS/\h'=h++[.cells Au.flatten]/\r= .Cl h.length 0 Au.length (n+1))\/((u= .slnil\/∃z',u= .sl z' [])/\h'=h/\r=v)):=by
  unfold Jv at hp;split at hp
  .rename_i z' Au;split at hp
   .rename_i Xl;refine⟨Xl,?_⟩;split at hp;·cases hp;exact .inr ⟨.inr ⟨_,rfl⟩,rfl,rfl⟩
    .rename_i hne;split at hp
     .rename_i HG;cases hp;obtain⟨rfl,hb⟩:=HG;refine .inl ⟨Au,?_,hne,rfl,hb,rfl,rfl⟩;cases Au with
      |nil=>exact absurd rfl hne
      |cons q Au=>simp only[HB,DN,BK];rw[if_pos hb]
     .cases hp
   .cases hp
  .split at hp;·rename_i Xl;cases hp;exact⟨Xl,.inr ⟨.inl rfl,rfl,rfl⟩⟩
   .cases hp
  .cases hp
 obtain⟨Xl,Ie⟩:=Ie;obtain⟨γ1,DV,Jr,Du,hT⟩:=N2 hr E0 fo (σ.Dm (CY σ s)).length none;have Jk:c.args.map a.eval=#[a.eval s,a.eval x]:=by apply Jh;simp[Ed]
 have MI:∀v' w',(Builtin.append_ #[t,t'] o.type #[a.eval s,a.eval x]).run C.P w= .ok v' w'->(execOp a.eval o).run C.P w= .ok (.value v') w':=λv' w' AV=>by
  have:execOp a.eval o=(do pure (Next.value (<-Builtin.append_ #[t,t'] o.type #[a.eval s,a.eval x]))):=by rw[<-Jk,<-MX (ty:=o.type) h0 h1];simp only[execOp,ho,resolve,hc];rfl
  rw[this];exact Dq AV
 have lG:(a.eval s= .slice none 0 0/\v= .slnil)\/∃g cap us e1,a.eval s= .slice (some ⟨g,0,none⟩) 0 cap/\v= .sl (n+1) []/\γ1.own g=some (.tail (σ.Dm (CY σ s)).length none 0)/\w0.heap.size<=g/\w.heap[g]?=some (.cells us e1 (0,0))/\us.size=cap*(n+1)/\cap<=maxLen:=by
  rcases hT with hT|⟨g,k,cap,us,e1,zz,rr,qY,Kq,Rw,hB,hg,W8,fu,hm,hzz⟩
  .rw[hT] at Du;exact .inl ⟨Du,hT⟩
  .rcases fQ Xl with hv0|hv0
   .rw[hv0] at qY;cases qY
   .rw[hv0] at qY;cases qY;have hk:k=0:=by rw[hv0,Kq] at Du;obtain⟨ad0,cap0,fM,_⟩:=Du;simp only[Value.slice.injEq] at fM;exact fM.2.1
    subst hk;exact .inr ⟨g,cap,us,e1,Kq,hv0,by simpa using Rw,hB,hg,W8,hm⟩
 rcases Ie with⟨Au,GK,hne,hux,Pl,rfl,rfl⟩|⟨hux,rfl,rfl⟩
 .obtain⟨rows',news,SJ,JB,tw,eI⟩:=lE (w:=w) FH hr.DD fN GK;have aL:rows'=Au:=by
   cases rows' with
   |nil=>simp[DN] at SJ
   |cons q rows'=>
    simp only[DN] at SJ;split at SJ;·cases SJ;rfl
    .cases SJ
  subst aL;have vT:=A9.mono DV _ _ tw;have Kz:Src C.P i.size t' (a.eval x) rows'.length news w:=by rw[O8];exact JB
  have NF:news.length=rows'.length*(n+1):=JB.newsLen;have GG:rows'.flatten.length=news.length:=by rw[tw.length]
  have hpos:0<rows'.length:=FU.2 hne;have Qq:rows'.length<=AS:=Bt (O5 _ (Db b)) Pl;have FE:∀(base:Option Addr) (cap:Nat),a.eval s= .slice base 0 cap->(Builtin.firstCells i.size 0 (.slice base 0 cap)).run C.P w.drew= .ok #[] w.drew->cap<rows'.length->
    FJ C γ0 w0 o a w ((σ.Dm (CY σ s)).put o.dst (.val (.Cl h.length 0 rows'.length (n+1)))) (h++[.cells rows'.flatten]):=by
   intro base cap hs hfirst hlt;have Fk:=run_append_grow_src (P:=C.P) w t t' o.type e i z ht hi hz base 0 cap [] hfirst (a.eval x) rows'.length news Kz (by omega) (by simp only[AS] at Qq;omega) (by rw[yn,BJ];exact growslice_fits hlt Pl);rw[<-hs,BJ] at Fk;have D1:=grownCap_ge w rows'.length cap e;have SL:(([]++news).toArray++Builtin.zeroCells z.cells (grownCap w rows'.length cap e-rows'.length)).toList.take rows'.flatten.length=news:=by simp only[Jt,BG];rw[GG];exact GS
   have wA:(([]++news).toArray++Builtin.zeroCells z.cells (grownCap w rows'.length cap e-rows'.length)).size=grownCap w rows'.length cap e*(n+1):=by simp only[Qn,B6,size_zeroCells,ZJ,O8,BG,NF,<-BB];congr 1;omega
   obtain⟨γ2,aE,Tq,KX,QI⟩:=Jr.drew.newObj (([]++news).toArray++Builtin.zeroCells z.cells (grownCap w rows'.length cap e-rows'.length)) e (0,0) rows'.flatten (.inl rfl) (by rw[SL];exact vT) (by rw[SL];exact JB.one);exact FJ.value (MI _ _ Fk) (KX.put λ_ _=>⟨w.heap.size,_,Tq,rfl,D1,⟨Db n,grownCap_le_maxLen w _ _ _ (by simp only[AS] at Qq;simp only[maxLen];omega)⟩,by rw[BJ,<-wA];exact QI⟩)
  rcases lG with⟨Kq,rfl⟩|⟨g,cap,us,e1,Kq,rfl,Rw,hB,hg,W8,gh⟩
  .exact FE none 0 Kq (run_firstCells_none _ _ _ _ _) hpos
  .by_cases hroom:rows'.length<=cap
   .have hfit:news.length<=us.size:=by rw[NF,W8];exact Ez _ hroom
    have AV:=run_append_room_src (P:=C.P) w t t' o.type e i ht hi g 0 0 cap (a.eval x) rows'.length news Kz (by omega) (λj hj=>by rw[cell_of_row w _ _ us e1 (0,0) hg,O8,C2 (by omega)];rfl) (λj hj=>frozen_of_row w _ _ us e1 hg)
    rw[dj,BJ,BJ,Ec news 0 us w hg (by omega),<-Kq] at AV;have SL:((us.toList.take 0++news++us.toList.drop (0+news.length)).toArray).toList.take rows'.flatten.length=news:=by simp only[L5,BG];rw[GG];exact GS
    obtain⟨γ2,aE,Tq,KX,QI⟩:=Jr.aDv Rw hB hg (us.toList.take 0++news++us.toList.drop (0+news.length)).toArray rows'.flatten (by rw[SL];exact vT) (by rw[SL];exact JB.one);exact FJ.value (MI _ _ AV) (KX.put λ_ _=>⟨g,cap,Tq,rfl,hroom,⟨Db n,gh⟩,by rw[QI,BJ,<-W8];simp;omega⟩)
   .exact FE (some ⟨g,0,none⟩) cap Kq (by simpa using run_firstCells_some (P:=C.P) w.drew i.size 0 ⟨g,0,none⟩ 0 cap [] (by simp) (by simp)) (by omega)
 .have JB:Src C.P i.size t' (a.eval x) 0 [] w:=by
   rcases hux with rfl|⟨z',rfl⟩
   .rw[show a.eval x=_ from fN];exact⟨FH,λ_=>rfl,run_firstCells_none w _ 0 0 0,run_firstCells_none w.drew _ 0 0 0,by simp,by simp⟩
   .obtain⟨ad0,cap0,fM,_⟩:=fN;rw[fM];exact⟨FH,λ_=>rfl,by simpa using run_firstCells_some (P:=C.P) w i.size 0 ad0 0 cap0 [] (by simp) (by simp),by simpa using run_firstCells_some (P:=C.P) w.drew i.size 0 ad0 0 cap0 [] (by simp) (by simp),by simp,by simp⟩
  rcases lG with⟨Kq,rfl⟩|⟨g,cap,us,e1,Kq,rfl,Rw,hB,hg,W8,gh⟩
  .have AV:(Builtin.append_ #[t,t'] o.type #[a.eval s,a.eval x]).run C.P w= .ok (.slice none 0 0) w:=by rw[Kq];have hl:=JB.len;have WA:=JB.cells;rcases FH with⟨e',hk⟩|hk<;>simp[Builtin.append_,run_underlying ht,run_underlying hk,sizeOf,typeInfo,hi,hl,WA]
   exact FJ.value (MI _ _ AV) (Jr.put λ_ _=>rfl)
  .have AV:=run_append_room_src (P:=C.P) w t t' o.type e i ht hi g 0 0 cap (a.eval x) 0 [] JB (by omega) (by simp) (by simp);rw[<-Kq] at AV;simp only[World.setCells] at AV;exact FJ.value (MI _ _ AV) (Jr.put λ_ _=>Du)
theorem CR.kill(hr:CR C γ0 w0 γ β σ h a w)(id:Nat):CR C γ0 w0 γ β σ (h.set id .CG) a w:=by
 have key:∀{E8:Nat} {x:Dc},(h.set id .CG)[E8]?=some x->x≠ .CG->h[E8]?=some x:=λ{E8 x} hx hd=>by
  by_cases he:id=E8
  .subst he;rw[List.getElem?_set] at hx;simp only[BK] at hx;split at hx;·cases hx;exact absurd rfl hd
   .cases hx
  .rwa [Aj he] at hx
 exact⟨⟨hr.DD.Hy,λE8 y Ht hy=>hr.DD.KT E8 y (key Ht hy) hy,λE8 cs hc b hb=>hr.DD.cells E8 cs (key hc (by simp)) b hb,λE8 es hc b hb=>hr.DD.map E8 es (key hc (by simp)) b hb,λE8 b hb=>by simpa using hr.DD.mu E8 b hb,hr.DD.own,hr.DD.sz⟩,hr.fr,hr.Dw,hr.defers,hr.Gf⟩
theorem CR.fR(hr:CR C γ0 w0 γ β σ h a w){id g:Nat}{cs:List Aa}(hcs:h[id]?=some (.cells cs))(hg:γ.mu id=some g){us:Array Value}{e:TypeId}{fr:Nat×Nat}(hw:w.heap[g]?=some (.cells us e fr))(Tr:γ.sz g=some us.size)(Dj:Array Value)(Gc:List Aa)(W8:Dj.size=us.size)(kZ:RJ fr Dj.size)
  (hv:A9 γ Gc (Dj.toList.take Gc.length)) (h1:∀u∈Dj.toList.take Gc.length,u.oneCell'=true):∃γ',γ.le γ'/\γ'.mu h.length=some g/\CR C γ0 w0 γ' β σ (h.set id .CG++[.cells Gc]) a (w.setRow g Dj)/\γ'.sz g=some us.size:=by
 obtain⟨g',p,Rw⟩:=hr.DD.KT id _ hcs (by simp);rw[hg] at p;cases p;have q8:id<h.length:=hr.DD.mu _ _ hg;have hmu:γ.mu h.length=none:=by
  cases hc:γ.mu h.length with
  |none=>rfl
  |some y=>exact absurd (hr.DD.mu _ y hc) (Dd _)
 have uniq:∀E8 x,h[E8]?=some x->x≠ .CG->γ.mu E8=some g->E8=id:=λE8 x hx ye hm=>by obtain⟨b',p,q⟩:=hr.DD.KT E8 x hx ye;rw[hm] at p;cases p;rw[Rw] at q;cases q;rfl
 have DV:γ.le (γ.BM g h.length (some us.size)):=⟨λ_ _ _ hv=>hv,λE8 b hm=>by
  have:E8≠h.length:=λhe=>by rw[he,hmu] at hm;cases hm
  simp only[Gh.BM,if_neg this];exact hm,λb n hm=>by
  by_cases he:b=g;·subst he;rw[Tr] at hm;cases hm;simp[Gh.BM]
  .simp only[Gh.BM,if_neg he];exact hm⟩
 have old:∀{E8:Nat} {x:Dc},(h.set id .CG++[Dc.cells Gc])[E8]?=some x->x≠ .CG->E8≠h.length->h[E8]?=some x/\E8≠id:=λ{E8 x} hx hd hne=>by
  have hlt:E8<(h.set id .CG).length:=by rw[Ah] at hx;obtain⟨hl,_⟩:=hx;simp at hl⊢;omega
  rw[Af hlt] at hx;by_cases he:id=E8;·subst he;rw[AN (by simpa using hlt)] at hx;cases hx;exact absurd rfl hd
  .rw[Aj he] at hx;exact⟨hx,λh=>he h.symm⟩
 have aJv:Gp (γ.BM g h.length (some us.size)) (h.set id .CG++[.cells Gc]) (w.setRow g Dj):=by
  refine⟨λb o v hb=>?_,λE8 y Ht hy=>?_,λE8 QJ hc b hb=>?_,λE8 es hc b hb=>?_,λE8 b hb=>?_,λb y hy=>?_,λb n hb=>?_⟩
  .obtain⟨p,q,r⟩:=hr.DD.Hy b o v hb;have MP:b≠g:=λhe=>by subst he;rw[Rw] at r;rcases r with r|⟨_,_,_,r,_⟩<;>cases r
   exact⟨by rw[Cw (setRow_other w g b Dj MP)];exact p,q,by simp only[Gh.BM,if_neg MP];exact r⟩
  .by_cases he:E8=h.length;·exact⟨g,by simp[Gh.BM,he],by simp[Gh.BM,he]⟩
   .obtain⟨q9,hne⟩:=old Ht hy he;obtain⟨b,p,q⟩:=hr.DD.KT E8 y q9 hy;have MP:b≠g:=λhx=>by subst hx;exact hne (uniq E8 y q9 hy p)
    exact⟨b,by simp only[Gh.BM,if_neg he];exact p,by simp only[Gh.BM,if_neg MP];exact q⟩
  .by_cases he:E8=h.length;·subst he;simp[Gh.BM] at hb;subst hb;rw[Bg (by simp)] at hc;simp at hc;subst hc;exact⟨Dj,e,fr,setRow_heap w g us Dj e fr hw,kZ,A9.mono DV _ _ hv,h1⟩
   .simp only[Gh.BM,if_neg he] at hb;obtain⟨HH,hne⟩:=old hc (by simp) he;have MP:b≠g:=λhx=>by subst hx;exact hne (uniq E8 _ HH (by simp) hb)
    obtain⟨eV,e2,vG,p,pf,q,r⟩:=hr.DD.cells E8 QJ HH b hb;exact⟨eV,e2,vG,by rw[setRow_other w g b Dj MP];exact p,pf,A9.mono DV _ _ q,r⟩
  .by_cases he:E8=h.length;·subst he;rw[Bg (by simp)] at hc;simp at hc
   .simp only[Gh.BM,if_neg he] at hb;obtain⟨HH,hne⟩:=old hc (by simp) he;have MP:b≠g:=λhx=>by subst hx;exact hne (uniq E8 _ HH (by simp) hb)
    obtain⟨Dk,clock,p,q⟩:=hr.DD.map E8 es HH b hb;exact⟨Dk,clock,by rw[setRow_other w g b Dj MP];exact p,q.mono DV⟩
  .by_cases he:E8=h.length;·simp[he]
   .simp only[Gh.BM,if_neg he] at hb;have:=hr.DD.mu E8 b hb;simp;omega
  .by_cases MP:b=g;·subst MP;have:=hr.DD.own _ _ Rw;simpa[World.setRow] using this
   .simp only[Gh.BM,if_neg MP] at hy;have:=hr.DD.own b y hy;simpa[World.setRow] using this
  .by_cases he:b=g;·subst he;simp only[Gh.BM,BK] at hb;cases hb;exact⟨⟨Dj,e,fr,setRow_heap w b us Dj e fr hw,W8⟩,.inr ⟨h.length,by simp[Gh.BM]⟩⟩
   .simp only[Gh.BM,if_neg he] at hb⊢;obtain⟨p,r⟩:=hr.DD.sz b n hb;exact⟨by rw[setRow_other w g b Dj he];exact p,r⟩
 refine⟨_,DV,by simp[Gh.BM],hr.world aJv ⟨DV,by simp[World.setRow],rfl,rfl,rfl,λb hb hn=>?_⟩,by simp[Gh.BM]⟩;have MP:b≠g:=λhe=>by subst he;exact hn id Rw
 exact⟨setRow_other w g b Dj MP,by simp only[Gh.BM,if_neg MP]⟩
theorem wB{o:Oper}{c:Call}{t t' e:TypeId}{n b:Nat}{s x:Operand}{v u r:Aa}{h':Ad}(ho:o.op= .call c)(hc:c.callee= .builtin .append)(h0:c.argTypes[0]?=some t)(h1:c.argTypes[1]?=some t')(Ed:c.args.toList=[s,x])(ht:C.P.underlying t=some (.slice e))
  (FH:(∃e',C.P.underlying t'=some (.slice e'))\/C.P.underlying t'=some .string) (hsz:BP C.P e=some (n+1)) (vS:I6 C.P e=some (b+1)) (eH:LQ C.P e=true) (hv:Bq C σ [s,x]=some [v,u])
  (hp:Fk h (n+1) (b+1) v u=some (h',r)) (hr:CR C γ0 w0 γ β σ h a w):FJ C γ0 w0 o a w (σ.put o.dst (.val r)) h':=by
 obtain⟨i,z,hi,hz,ZJ⟩:=LA eH;have O8:=IS hsz hi;have yn:=KD vS hi;obtain⟨_,_,e0,hvs,fN⟩:=Fa hr hv;cases e0;have Jk:c.args.map a.eval=#[a.eval s,a.eval x]:=by apply Jh;simp[Ed]
 have MI:∀v' w',(Builtin.append_ #[t,t'] o.type #[a.eval s,a.eval x]).run C.P w= .ok v' w'->(execOp a.eval o).run C.P w= .ok (.value v') w':=λv' w' AV=>by
  have:execOp a.eval o=(do pure (Next.value (<-Builtin.append_ #[t,t'] o.type #[a.eval s,a.eval x]))):=by rw[<-Jk,<-MX (ty:=o.type) h0 h1];simp only[execOp,ho,resolve,hc];rfl
  rw[this];exact Dq AV
 unfold Fk at hp;cases hq:Ge h (n+1) u with
 |none=>rw[hq] at hp;cases hp
 |some Au=>
  rw[hq] at hp;obtain⟨news,JB,Xl,eI⟩:=UL (w:=w) FH hr.DD fN hq;have Kz:Src C.P i.size t' (a.eval x) Au.length news w:=by rw[O8];exact JB
  have NF:news.length=Au.length*(n+1):=JB.newsLen;have GG:Au.flatten.length=news.length:=by rw[Xl.length]
  cases Au with
  |nil=>
   have uB:news=[]:=EU (by simpa using NF);subst uB;cases v with
   |slnil=>
    cases hp;have Kq:a.eval s= .slice none 0 0:=hvs;have AV:(Builtin.append_ #[t,t'] o.type #[a.eval s,a.eval x]).run C.P w= .ok (.slice none 0 0) w:=by rw[Kq];have hl:=Kz.len;have WA:=Kz.cells;simp only[BT] at hl WA;rcases FH with⟨e',hk⟩|hk<;>simp[Builtin.append_,run_underlying ht,run_underlying hk,sizeOf,typeInfo,hi,hl,WA]
    exact FJ.value (MI _ _ AV) (hr.put λ_ _=>rfl)
   |Cl id off k z'=>
    simp only at hp;split at hp;·cases hp;obtain⟨g,cap,hg,Kq,fu,du,Tr⟩:=(show BE γ _ _ from hvs);have AV:=run_append_room_src (P:=C.P) w t t' o.type e i ht hi g off k cap (a.eval x) 0 [] Kz (by omega) (by simp) (by simp);rw[<-Kq] at AV;simp only[World.setCells,Bn] at AV;exact FJ.value (MI _ _ AV) (hr.put λ_ _=>⟨g,cap,hg,rfl,fu,du,Tr⟩)
    .cases hp
   |_=>cases hp
  |cons q0 rows0=>
   generalize hR:q0::rows0=Au at*;have hpos:0<Au.length:=by rw[<-hR];simp
   have newrow:∀(h2:Ad) (base:Option Addr) (k cap:Nat) (pre:List Aa) (olds:List Value),CR C γ0 w0 γ β σ h2 a w->a.eval s= .slice base k cap->A9 γ pre olds->olds.length=k*(n+1)->(∀q∈olds,q.oneCell'=true)->
     (Builtin.firstCells i.size k (.slice base k cap)).run C.P w.drew= .ok olds.toArray w.drew->cap<k+Au.length->(k+Au.length)*(b+1)<=AS->
     FJ C γ0 w0 o a w (σ.put o.dst (.val (.Cl h2.length 0 (k+Au.length) (n+1)))) (h2++[.cells (pre++Au.flatten)]):=by
    intro h2 base k cap pre olds KX hs aDz uE yj hfirst hlt Pl;have Qq:k+Au.length<=AS:=Bt (O5 _ (Db b)) Pl;have Fk:=run_append_grow_src (P:=C.P) w t t' o.type e i z ht hi hz base k cap olds hfirst (a.eval x) Au.length news Kz hlt (by simp only[AS] at Qq;omega) (by rw[yn];exact growslice_fits hlt Pl);rw[<-hs] at Fk;have D1:=grownCap_ge w (k+Au.length) cap e;have qX:(olds++news).length=(k+Au.length)*(n+1):=by rw[As,uE,NF,BB]
    have ZH:(pre++Au.flatten).length=(olds++news).length:=by rw[As,As,aDz.length,GG]
    have wA:((olds++news).toArray++Builtin.zeroCells z.cells (grownCap w (k+Au.length) cap e-(k+Au.length))).size=grownCap w (k+Au.length) cap e*(n+1):=by simp only[Qn,B6,size_zeroCells,ZJ,O8,qX,<-BB];congr 1;omega
    have SL:((olds++news).toArray++Builtin.zeroCells z.cells (grownCap w (k+Au.length) cap e-(k+Au.length))).toList.take (pre++Au.flatten).length=olds++news:=by simp only[Jt];rw[ZH];exact GS
    obtain⟨γ2,aE,Tq,yo,QI⟩:=KX.drew.newObj ((olds++news).toArray++Builtin.zeroCells z.cells (grownCap w (k+Au.length) cap e-(k+Au.length))) e (0,0) (pre++Au.flatten) (.inl rfl) (by rw[SL];exact aDz.append Xl) (by rw[SL];intro q hq;exact(Ao.1 hq).elim (yj q) (JB.one q))
    exact FJ.value (MI _ _ Fk) (yo.put λ_ _=>⟨w.heap.size,_,Tq,rfl,D1,⟨Db n,grownCap_le_maxLen w _ _ _ (by simp only[AS] at Qq;simp only[maxLen];omega)⟩,by rw[BJ,<-wA];exact QI⟩)
   cases v with
   |slnil=>
    have Kq:a.eval s= .slice none 0 0:=hvs;rw[<-hR] at hp;simp only at hp;rw[hR] at hp;split at hp;·rename_i Pl;cases hp;have:=newrow h none 0 0 [] [] hr Kq rfl (by simp) (by simp) (run_firstCells_none _ _ _ _ _) (by omega) (by simpa using Pl);simpa using this
    .cases hp
   |Cl id off k z'=>
    rw[<-hR] at hp;simp only at hp;rw[hR] at hp;split at hp
    .rename_i cs hcs;split at hp
     .rename_i hzz;subst hzz;obtain⟨g,cap,hg,Kq,fu,du,Tr⟩:=(show BE γ _ _ from hvs);obtain⟨us,e1,fr,p1,pf,p2,p3⟩:=hr.DD.cells id cs hcs g hg;obtain⟨⟨uD,e00,fr0,q1,q2⟩,_⟩:=hr.DD.sz g _ Tr;rw[p1] at q1;cases q1;have ZI:cs.length<=us.size:=by have:=p2.length;simp at this;omega
      have Mh:∀j,(⟨g,off,none⟩:Addr).add j=⟨g,off+j,none⟩:=λj=>by unfold Addr.add;split<;>simp_all
      have froz:∀o,o<us.size->w.frozen? ⟨g,o,none⟩=false:=λo ho=>by
       simp only[World.frozen?,p1];rcases pf with rfl|kZ
       .simp
       .simp;omega
      have room:k+Au.length<=cap->(Builtin.append_ #[t,t'] o.type #[a.eval s,a.eval x]).run C.P w= .ok (.slice (some ⟨g,off,none⟩) (k+Au.length) cap) (w.setRow g (us.toList.take (off+k*(n+1))++news++us.toList.drop (off+k*(n+1)+news.length)).toArray)/\off+k*(n+1)+news.length<=us.size:=by
       intro hroom;have hfit:off+k*(n+1)+news.length<=us.size:=by rw[NF,q2,Nat.add_assoc,<-BB];exact Nat.add_le_add_left (Ez _ hroom) _
       have AV:=run_append_room_src (P:=C.P) w t t' o.type e i ht hi g off k cap (a.eval x) Au.length news Kz hroom (λj hj=>by rw[cell_of_row w _ _ us e1 fr p1,O8,C2 (by omega)];rfl) (λj hj=>by rw[O8];exact froz _ (by omega))
       rw[O8,Ec news _ us w p1 hfit,<-Kq] at AV;exact⟨AV,hfit⟩
      have Wt:(k+Au.length)*(n+1)=k*(n+1)+Au.length*(n+1):=BB _ _ _;split at hp
      .rename_i hin;cases hp;have hroom:k+Au.length<=cap:=by
        have h3:(k+Au.length)*(n+1)<=cap*(n+1):=by omega
        exact Nat.le_of_mul_le_mul_right h3 (Db n)
       obtain⟨AV,hfit⟩:=room hroom;have e2:off+(k+Au.length)*(n+1)=off+k*(n+1)+news.length:=by rw[NF,Wt];omega
       have hcl:(cs.take (off+k*(n+1))++Au.flatten++cs.drop (off+(k+Au.length)*(n+1))).length=cs.length:=by rw[e2,As,As,Al,A8,GG];omega
       have SL:((us.toList.take (off+k*(n+1))++news++us.toList.drop (off+k*(n+1)+news.length)).toArray).toList.take (cs.take (off+k*(n+1))++Au.flatten++cs.drop (off+(k+Au.length)*(n+1))).length=
         (us.toList.take cs.length).take (off+k*(n+1))++news++(us.toList.take cs.length).drop (off+k*(n+1)+news.length):=by
        rw[hcl];simp only[Wp];exact Ly (by simpa using ZI) (by omega) rfl
       obtain⟨TX,NH⟩:=Md hr.DD hcs hg p1 (us.toList.take (off+k*(n+1))++news++us.toList.drop (off+k*(n+1)+news.length)).toArray (cs.take (off+k*(n+1))++Au.flatten++cs.drop (off+(k+Au.length)*(n+1)))
        (by simp only[B6,As,Al,A8,Cg];omega)
        (by
         rcases pf with rfl|pf
         .exact .inl rfl
         .refine .inr (Bt (WX ?_) pf);simp only[B6,As,Al,A8,Cg];omega)
        (by rw[SL,e2];exact MV p2 Xl)
        (by
         rw[SL];intro q hq;rcases Ao.1 hq with hq|hq
         .rcases Ao.1 hq with hq|hq
          .exact p3 q (Bf hq)
          .exact JB.one q hq
         .exact p3 q (Bv hq))
       exact FJ.value (MI _ _ AV) ((hr.world TX NH).put λ_ _=>⟨g,cap,hg,rfl,hroom,du,Tr⟩)
      .rename_i hout;split at hp
       .rename_i HG;obtain⟨rfl,OH,Pl⟩:=HG;cases hp;simp only[BJ] at*;by_cases hroom:k+Au.length<=cap
        .obtain⟨AV,hfit⟩:=room hroom;have ZH:(cs.take (k*(n+1))++Au.flatten).length=k*(n+1)+news.length:=by rw[As,Al,GG];omega
         have SL:((us.toList.take (k*(n+1))++news++us.toList.drop (k*(n+1)+news.length)).toArray).toList.take (cs.take (k*(n+1))++Au.flatten).length=(us.toList.take cs.length).take (k*(n+1))++news:=by
          rw[ZH];simp only[Wp];have:(us.toList.take (k*(n+1))++news).length=k*(n+1)+news.length:=by rw[As,Al,Cg];omega
          rw[<-this,GS,GR,Cm OH]
         obtain⟨γ2,aE,Tq,KX,QI⟩:=hr.fR hcs hg p1 (by rw[Tr,q2]) (us.toList.take (k*(n+1))++news++us.toList.drop (k*(n+1)+news.length)).toArray (cs.take (k*(n+1))++Au.flatten)
          (by simp only[B6,As,Al,A8,Cg];omega)
          (by
           rcases pf with rfl|pf
           .exact .inl rfl
           .refine .inr (Bt (WX ?_) pf);simp only[B6,As,Al,A8,Cg];omega)
          (by rw[SL];exact(p2.take _).append Xl)
          (by
           rw[SL];intro q hq;rcases Ao.1 hq with hq|hq
           .exact p3 q (Bf hq)
           .exact JB.one q hq)
         exact FJ.value (MI _ _ AV) (KX.put λ_ _=>⟨g,cap,Tq,rfl,hroom,du,by rw[QI,q2];simp⟩)
        .have uE:((us.toList.take cs.length).take (k*(n+1))).length=k*(n+1):=by simp;omega
         have:=newrow (h.set id .CG) (some ⟨g,0,none⟩) k cap (cs.take (k*(n+1))) ((us.toList.take cs.length).take (k*(n+1))) (hr.kill id) Kq (p2.take _) uE (λq hq=>p3 q (Bf hq))
          (by
           rw[O8];exact run_firstCells_some w.drew _ _ _ _ _ _ uE (λj y hj=>by
            rw[Mh];show w.cell? _=_;rw[cell_of_row w _ _ us e1 fr p1];rw[Cf] at hj;split at hj
            .rw[Cf] at hj;split at hj;·simpa using hj
             .cases hj
            .cases hj)) (by omega) Pl
         simpa using this
       .cases hp
     .cases hp
    .cases hp
   |_=>rw[<-hR] at hp;cases hp
end
section
variable{C:FG}{γ0 γ γ':Gh}{w0 w w':World}{β:Nat->Nat}{σ:BD}{h:Ad}{a:Act}{fid:FuncId}{ops:List Oper}
theorem aM(hi:Gp γ h w){id g off:Nat}{cs avs:List Aa}{news:List Value}(hcs:h[id]?=some (.cells cs))(hg:γ.mu id=some g)(hv:A9 γ avs news)(h1:∀u∈news,u.oneCell'=true)(hl:off+avs.length<=cs.length):
  ∃w',(storeCells ⟨g,off,none⟩ news).run C.P w= .ok () w'/\Gp γ (h.set id (.cells (cs.take off++avs++cs.drop (off+avs.length)))) w'/\J3 γ w γ w':=by
 obtain⟨us,e,fr,hw,pf,p5,p6⟩:=hi.cells id cs hcs g hg;have NF:news.length=avs.length:=hv.length;have hlt:cs.length<=us.size:=by have:=p5.length;simp at this;omega
 have hs:=run_storeCells_cells (P:=C.P) g off news 0 w (λj hj=>by
  rw[cell_of_row w _ _ us e fr hw,Bn,C2 (by omega)];rfl) (λj hj=>by
  simp only[World.frozen?,hw];rcases pf with rfl|kZ
  .simp
  .simp;omega) h1
 rw[Bn,Ec _ off us w hw (by omega)] at hs;have hcl:(cs.take off++avs++cs.drop (off+avs.length)).length=cs.length:=by simp;omega
 have SL:((us.toList.take off++news++us.toList.drop (off+news.length)).toArray).toList.take (cs.take off++avs++cs.drop (off+avs.length)).length=(us.toList.take cs.length).take off++news++(us.toList.take cs.length).drop (off+news.length):=by rw[hcl];simp only[Wp];exact Ly (by simpa using hlt) (by omega) rfl
 obtain⟨wC,ha⟩:=Md hi hcs hg hw (us.toList.take off++news++us.toList.drop (off+news.length)).toArray (cs.take off++avs++cs.drop (off+avs.length))
  (by simp only[B6,As,Al,A8,Cg];omega)
  (by
   rcases pf with rfl|pf
   .exact .inl rfl
   .refine .inr (Bt (WX ?_) pf);simp only[B6,As,Al,A8,Cg];omega)
  (by rw[SL,NF];exact MV p5 hv)
  (by
   rw[SL];intro q hq;rcases Ao.1 hq with hq|hq
   .rcases Ao.1 hq with hq|hq
    .exact p6 q (Bf hq)
    .exact h1 q hq
   .exact p6 q (Bv hq))
 exact⟨_,hs,wC,ha⟩
theorem fS{t t' ty:TypeId}{ts:Array TypeId}{xs:Array Value}(h0:ts[0]?=some t)(h1:ts[1]?=some t'):Builtin.copy_ ts ty xs=Builtin.copy_ #[t,t'] ty xs:=by simp only[Builtin.copy_,h0];rfl
theorem aN{P:Program}{t t' ty e:TypeId}{i:TypeInfo}(ht:P.underlying t=some (.slice e))(hi:P.info? e=some i){x:Value}{n:Nat}{news:List Value}(hs:Src P i.size t' x n news w){base:Option Addr}{k cap:Nat}(hk:n<=k)
  (hst:∀ad,base=some ad->(storeCells ad news).run P w= .ok () w') (Wj:base=none->w'=w):(Builtin.copy_ #[t,t'] ty #[.slice base k cap,x]).run P w= .ok (.int .i64 n) w':=by
 have hl:=hs.len w;have hc:=hs.cells;have hm:Nat.min n k=n:=Cm hk;cases base with
 |none=>cases Wj rfl;simp[Builtin.copy_,run_underlying ht,hl,hc,sizeOf,typeInfo,hi,hm,goInt]
 |some ad=>have h2:=hst ad rfl;simp[Builtin.copy_,run_underlying ht,hl,hc,sizeOf,typeInfo,hi,hm,goInt,h2]
theorem wD{o:Oper}{c:Call}{t t' e:TypeId}{n:Nat}{s x:Operand}{v u r:Aa}{h':Ad}(ho:o.op= .call c)(hc:c.callee= .builtin .copy)(h0:c.argTypes[0]?=some t)(h1:c.argTypes[1]?=some t')(Ed:c.args.toList=[s,x])(ht:C.P.underlying t=some (.slice e))
  (FH:(∃e',C.P.underlying t'=some (.slice e'))\/C.P.underlying t'=some .string) (hsz:BP C.P e=some (n+1)) (hv:Bq C σ [s,x]=some [v,u])
  (hp:kS h (n+1) v u=some (h',r)) (hr:CR C γ0 w0 γ β σ h a w):FJ C γ0 w0 o a w (σ.put o.dst (.val r)) h':=by
 obtain⟨_,_,e0,hvs,fN⟩:=Fa hr hv;cases e0;have Jk:c.args.map a.eval=#[a.eval s,a.eval x]:=by apply Jh;simp[Ed]
 have MI:∀v' w',(Builtin.copy_ #[t,t'] o.type #[a.eval s,a.eval x]).run C.P w= .ok v' w'->(execOp a.eval o).run C.P w= .ok (.value v') w':=λv' w' AV=>by
  have:execOp a.eval o=(do pure (Next.value (<-Builtin.copy_ #[t,t'] o.type #[a.eval s,a.eval x]))):=by rw[<-Jk,<-fS (ty:=o.type) h0 h1];simp only[execOp,ho,resolve,hc];rfl
  rw[this];exact Dq AV
 cases hi:C.P.info? e with
 |none=>simp[BP,hi] at hsz
 |some i=>
 have O8:=IS hsz hi;unfold kS at hp;cases hq:Ge h (n+1) u with
 |none=>rw[hq] at hp;cases hp
 |some Au=>
  rw[hq] at hp;obtain⟨news,JB,Xl,eI⟩:=UL (w:=w) FH hr.DD fN hq;have Kz:Src C.P i.size t' (a.eval x) Au.length news w:=by rw[O8];exact JB
  have NF:news.length=Au.length*(n+1):=JB.newsLen;have GG:Au.flatten.length=news.length:=by rw[Xl.length]
  simp only at hp;split at hp
  .split at hp;·rename_i WB;cases hp;have Kq:a.eval s= .slice none 0 0:=hvs;have AV:=aN (t:=t) (ty:=o.type) (w:=w) (w':=w) ht hi Kz (base:=none) (k:=0) (cap:=0) (by omega) (λ_ e=>by cases e) (λ_=>rfl);rw[<-Kq] at AV;rw[WB] at AV;exact FJ.value (MI _ _ AV) (hr.put λ_ _=>rfl)
   .cases hp
  .rename_i id off k z;split at hp
   .rename_i cs hcs;split at hp;·rename_i HG;obtain⟨rfl,hrk,hlen⟩:=HG;cases hp;obtain⟨g,cap,hg,Kq,fu,du,Tr⟩:=(show BE γ _ _ from hvs);have hm:=Ez (n+1) hrk;obtain⟨w',hst,wC,yi⟩:=aM (C:=C) (off:=off) hr.DD hcs hg Xl JB.one (by omega);have AV:=aN (t:=t) (ty:=o.type) (w:=w) (w':=w') ht hi Kz (base:=some ⟨g,off,none⟩) (k:=k) (cap:=cap) hrk (λ_ e=>by cases e;exact hst) (λe=>by cases e);rw[<-Kq] at AV;rw[show Au.length*(n+1)=Au.flatten.length by rw[GG,NF]];exact FJ.value (MI _ _ AV) ((hr.world wC yi).put λ_ _=>rfl)
    .cases hp
   .cases hp
  .cases hp
theorem aO{t ty:TypeId}{ts:Array TypeId}{xs:Array Value}(h0:ts[0]?=some t):Builtin.clear_ ts ty xs=Builtin.clear_ #[t] ty xs:=by simp only[Builtin.clear_,h0];rfl
theorem rA{o:Oper}{c:Call}{t e:TypeId}{n:Nat}{s:Operand}{v z r:Aa}{h':Ad}(ho:o.op= .call c)(hc:c.callee= .builtin .clear)(h0:c.argTypes[0]?=some t)(Ed:c.args.toList=[s])(ht:C.P.underlying t=some (.slice e))
  (hsz:BP C.P e=some (n+1)) (hz:GJ C.P e=some z) (hv:Bq C σ [s]=some [v]) (hp:Um h (n+1) z.cells v=some (h',r)) (hr:CR C γ0 w0 γ β σ h a w):FJ C γ0 w0 o a w (σ.put o.dst .undef) h':=by
 obtain⟨_,e0,hvs⟩:=FZ hr hv;cases e0;have Jk:c.args.map a.eval=#[a.eval s]:=by apply Jh;simp[Ed]
 have MI:∀v' w',(Builtin.clear_ #[t] o.type #[a.eval s]).run C.P w= .ok v' w'->(execOp a.eval o).run C.P w= .ok (.value v') w':=λv' w' AV=>by
  have:execOp a.eval o=(do pure (Next.value (<-Builtin.clear_ #[t] o.type #[a.eval s]))):=by rw[<-Jk,<-aO (ty:=o.type) h0];simp only[execOp,ho,resolve,hc];rfl
  rw[this];exact Dq AV
 unfold Um at hp;split at hp
 .cases hp;have Kq:a.eval s= .slice none 0 0:=hvs;have AV:(Builtin.clear_ #[t] o.type #[a.eval s]).run C.P w= .ok (.tuple #[]) w:=by rw[Kq];simp[Builtin.clear_,run_underlying ht]
  exact FJ.value (MI _ _ AV) (hr.put λ_ _=>trivial)
 .rename_i id off k z';split at hp
  .rename_i cs hcs;split at hp
   .rename_i HG;obtain⟨rfl,hzl,hlen⟩:=HG;cases hp;obtain⟨g,cap,hg,Kq,fu,du,Tr⟩:=(show BE γ _ _ from hvs);obtain⟨zv,uF,yr⟩:=Hb hz;obtain⟨q1,q2⟩:=Gu (γ:=γ) (ER uF) (by omega);have ZJ:zv.cells.size=n+1:=by have:=q1.length;simp at this;omega
    have GG:(List.replicate k z.cells).flatten.length=k*(n+1):=by rw[Gv (z:=n+1) (λr hr=>by rw[List.eq_of_mem_replicate hr,hzl]),Iq]
    have hzc:∀(j:Nat) (u:Value),(Builtin.zeroCells zv.cells k).toList[j]?=some u->j<k*(n+1)/\zv.cells.toList[j%(n+1)]?=some u:=by
     intro j u hj;have fP:j<k*(n+1):=by have:=(Ah.1 hj).1;simpa[size_zeroCells,ZJ] using this
     refine⟨fP,?_⟩;have yp:j%(n+1)<zv.cells.size:=by rw[ZJ];exact Nat.mod_lt _ (Db n)
     simp only[Builtin.zeroCells,tX,Cr] at hj;have hrange:(Array.range (k*zv.cells.size)).toList[j]?=some j:=by simp[ZJ,fP]
     rw[hrange] at hj;simp only[BR,BA] at hj;rw[ZJ] at hj;rw[<-hj];simp[yp]
    have hV:A9 γ (List.replicate k z.cells).flatten (Builtin.zeroCells zv.cells k).toList:=by refine A9.Gg (by simp only[Cg,size_zeroCells,ZJ,GG]) λj x u hx hu=>?_;obtain⟨fP,hju⟩:=hzc j u hu;rw[Hk z.cells _ _ (by rw[hzl];exact fP),hzl] at hx;obtain⟨u',lA,yk⟩:=q1.get hx;rw[hju] at lA;cases lA;exact yk
    obtain⟨w',hst,wC,yi⟩:=aM (C:=C) (off:=off) hr.DD hcs hg hV (λu hu=>by obtain⟨j,hj⟩:=CS hu;exact q2 u (CD (hzc j u hj).2)) (by omega)
    have AV:(Builtin.clear_ #[t] o.type #[a.eval s]).run C.P w= .ok (.tuple #[]) w':=by
     rw[Kq];cases k with
     |zero=>
      have e1:(Builtin.zeroCells zv.cells 0).toList=[]:=by simp[Builtin.zeroCells]
      rw[e1] at hst;have:w'=w:=by have h2:(storeCells ⟨g,off,none⟩ []).run C.P w= .ok () w:=rfl;rw[h2] at hst;cases hst;rfl
      rw[this];simp[Builtin.clear_,run_underlying ht]
     |succ k=>simp[Builtin.clear_,run_underlying ht,yr,hst]
    rw[show k*(n+1)=(List.replicate k z.cells).flatten.length from GG.symm];exact FJ.value (MI _ _ AV) ((hr.world wC yi).put λ_ _=>trivial)
   .cases hp
  .cases hp
 .cases hp
theorem wE{o:Oper}{t e:TypeId}{n:Nat}{x:Operand}{lo hi:Option Operand}{v r:Aa}{as:List Aa}{h':Ad}(ho:o.op= .slice t x lo hi none)(ht:C.P.underlying t=some (.slice e))(hsz:BP C.P e=some (n+1))
  (hv:Bq C σ (x::(lo.toList++hi.toList))=some (v::as)) (hp:ZW h (n+1) lo.isSome hi.isSome v as=some (h',r)) (hr:CR C γ0 w0 γ β σ h a w):FJ C γ0 w0 o a w (σ.put o.dst (.val r)) h':=by
 have qY:=Dx hr hv;obtain⟨u,us,e1,hx,wF⟩:=qY;simp only[Bl,Hp] at e1;obtain⟨rfl,rfl⟩:=e1;unfold ZW at hp;split at hp
 .rename_i id off k z;split at hp
  .rename_i cs hcs;split at hp
   .rename_i HG;obtain⟨rfl,hhi,aDs⟩:=HG;obtain⟨g,cap,hg,Kq,fu,du,Tr⟩:=(show BE γ _ _ from hx);cases hb:DI lo.isSome hi.isSome ((cs.length-off)/(n+1)) as with
    |none=>rw[hb] at hp;cases hp
    |some lh=>
     obtain⟨l,q⟩:=lh;rw[hb] at hp;simp only[Ct] at hp;split at hp
     .rename_i hlt;cases hp;obtain⟨us,e1,fr,p1,pf,p2,p3⟩:=hr.DD.cells id cs hcs g hg;obtain⟨⟨uD,e00,fr0,q1,q2⟩,_⟩:=hr.DD.sz g _ Tr;rw[p1] at q1;cases q1;have ZI:cs.length<=us.size:=by have:=p2.length;simp at this;omega
      have aP:(cs.length-off)/(n+1)<=cap:=by refine Nat.div_le_of_le_mul ?_;rw[Nat.mul_comm];omega
      have e2:∀y:Option Operand,(y.map a.eval).isSome=y.isSome:=λy=>by cases y<;>rfl
      have e3:(lo.map a.eval).toList++(hi.map a.eval).toList=(lo.toList++hi.toList).map a.eval:=by cases lo<;>cases hi<;>rfl
      rw[<-e2 lo,<-e2 hi] at hb;obtain⟨k1,k2,k3⟩:=JA (P:=C.P) (w:=w) (isSlice:=true) hb (by rw[e3];exact wF) aP;have Me:Instr.sliceBounds true k cap (lo.map a.eval) (hi.map a.eval) none=Instr.sliceBounds true ((cs.length-off)/(n+1)) cap (lo.map a.eval) (hi.map a.eval) none:=by
       cases hi with
       |none=>cases hhi
       |some y=>rfl
      have FH:C.P.underlying t=some (.slice (C.P.elem t)):=by simp[Program.elem,ht]
      have he:C.P.elem t=e:=by simp[Program.elem,ht]
      have AV:(Instr.sliceAt t (a.eval x) (lo.map a.eval) (hi.map a.eval) none).run C.P w= .ok (.slice (some ⟨g,off+l*(n+1),none⟩) (q-l) (cap-l)) w:=by rw[Kq,run_sliceAt_slice w t _ _ _ _ FH,run_slice_any w t _ _ _ FH,Me,k1,he,Result.andThen_ok,Dp hsz];show Result.ok (Value.slice (if cap=l then some ⟨g,off,none⟩ else Option.map (λq:Addr=>q.add (l*(n+1))) (some ⟨g,off,none⟩)) (q-l) (cap-l)) w=_;rw[if_neg (by omega)];simp only[BR];unfold Addr.add;split<;>simp_all
      refine FJ.value (by simp only[execOp,ho];exact Dq AV) (hr.put λ_ _=>⟨g,cap-l,hg,rfl,by omega,⟨du.1,Bt (Nat.sub_le _ _) du.2⟩,?_⟩);rw[Tr,Nat.add_assoc,<-BB,Nat.add_sub_cancel' (by omega)]
     .cases hp
   .cases hp
  .cases hp
 .cases hp
theorem wG{o:Oper}{t e:TypeId}{n:Nat}{x lo hi mx:Operand}{args:List Aa}(ho:o.op= .slice t x (some lo) (some hi) (some mx))(ht:C.P.underlying t=some (.slice e))(hsz:BP C.P e=some (n+1))
  (hv:Bq C σ [x,lo,hi,mx]=some args) (hp:Un (n+1) args=true) (hr:CR C γ0 w0 γ β σ h a w):FJ C γ0 w0 o a w (σ.put o.dst .undef) h:=by
 have qY:=Dx hr hv;have FH:C.P.underlying t=some (.slice (C.P.elem t)):=by simp[Program.elem,ht]
 have he:C.P.elem t=e:=by simp[Program.elem,ht]
 have Hv:∀(base:Option Addr) (len cap:Nat) (kl kr km:IntKind) (l r m:Int),a.eval x= .slice base len cap->a.eval lo= .int kl l->a.eval hi= .int kr r->a.eval mx= .int km m->0<=l->l<=r->r<=m->m<=cap->FJ C γ0 w0 o a w (σ.put o.dst .undef) h:=by
  intro base len cap kl kr km l r m e1 e2 e3 e4 h1 h2 h3 h4;have AV:∃v,(Instr.sliceAt t (a.eval x) (some (a.eval lo)) (some (a.eval hi)) (some (a.eval mx))).run C.P w= .ok v w:=by
   have hm0:0<=m:=by omega
   have hr0:0<=r:=by omega
   have b1:∀code,(Instr.sliceBound (.int km m) cap code).run C.P w= .ok m.toNat w:=λcode=>by simp[Instr.sliceBound,asIntOf,hm0,h4]
   have b2:∀code,(Instr.sliceBound (.int kr r) m.toNat code).run C.P w= .ok r.toNat w:=λcode=>by simp[Instr.sliceBound,asIntOf,hr0,Nr hm0,h3]
   have b3:∀code,(Instr.sliceBound (.int kl l) r.toNat code).run C.P w= .ok l.toNat w:=λcode=>by simp[Instr.sliceBound,asIntOf,h1,Nr hr0,h2]
   rw[e1,e2,e3,e4];simp[Instr.sliceAt,Instr.slice,run_underlying ht,Instr.sliceBounds,b1,b2,b3,Dp hsz]
  obtain⟨v,AV⟩:=AV;exact FJ.value (by simp only[execOp,ho];exact Dq AV) (hr.put λ_ _=>trivial)
 unfold Un at hp;split at hp
 .rename_i s _ l _ r _ m;obtain⟨u1,us1,f1,g1,u2,eV,f2,g2,u3,us3,f3,g3,u4,us4,f4,g4,f5⟩:=qY;subst f5;simp only[Bl,DP] at f1;subst f4;subst f3;subst f2;simp only[Hp,NN] at f1;obtain⟨rfl,rfl,rfl,rfl⟩:=f1;split at hp;·simp only[BL,DJ] at hp;obtain⟨⟨⟨⟨_,h1⟩,h2⟩,h3⟩,h4⟩:=hp;obtain⟨g,cap,hg,Kq,fu,_⟩:=(show BE γ _ _ from g1);exact Hv _ _ _ _ _ _ _ _ _ Kq (D2 g2) (D2 g3) (D2 g4) h1 h2 h3 (by omega)
  .simp only[BL,DJ] at hp;obtain⟨⟨⟨⟨_,h1⟩,h2⟩,h3⟩,h4⟩:=hp;obtain⟨ad,cap,Kq,fu,_⟩:=(show BE γ _ _ from g1);exact Hv _ _ _ _ _ _ _ _ _ Kq (D2 g2) (D2 g3) (D2 g4) h1 h2 h3 (by omega)
  .cases hp
 .cases hp
theorem wH{o:Oper}{t:TypeId}{x:Operand}{v:Aa}{u:TypeDesc}(ho:o.op= .makeInterface t x)(ht:C.P.underlying t=some u)(hn:∀i,u≠ .interface i)(hv:Bq C σ [x]=some [v])(hr:CR C γ0 w0 γ β σ h a w):FJ C γ0 w0 o a w (σ.put o.dst (.val (.iface t v))) h:=by
 obtain⟨_,e0,hvs⟩:=FZ hr hv;cases e0;have AV:(Instr.makeInterface t (a.eval x)).run C.P w= .ok (.iface t (a.eval x)) w:=by cases u<;>simp_all [Instr.makeInterface,run_underlying ht]
 exact FJ.value (by simp only[execOp,ho];exact Dq AV) (hr.put λ_ _=>⟨_,rfl,hvs⟩)
theorem RO{n:Int}:∀{es:List (Aa×Aa)} {l:List MapEntry} {i:Nat} {r:Option (Nat×Aa)},KU γ es l->Km n es i=some r->
  match r with
  |none=>Instr.findNow (.int .i64) (.int .i64 n) l i=some none
  |some (j,v)=>∃(e:MapEntry),Instr.findNow (.int .i64) (.int .i64 n) l i=some (some (j,e.val))/\BE γ v e.val/\i<=j/\l[j-i]?=some e/\e.key= .int .i64 n
 |[],l,i,r,hM,hf=>by rw[show l=[] from hM];cases hf;rfl
 |(k,v)::es,l,i,r,hM,hf=>by
  obtain⟨e,l',rfl,h1,h2,h3⟩:=hM;cases k with
  |int q t=>
   by_cases hq:q= .i64
   .subst hq;simp only[Km] at hf;have hk:e.key= .int .i64 t:=h1;split at hf;·rename_i hst;subst hst;cases hf;exact⟨e,by simp[Instr.findNow,hk,Instr.sameNow],h2,Ac _,by simp,hk⟩
    .rename_i hst;have aDA:(n==t)=false:=by simpa using hst
     have ih:=RO (i:=i+1) h3 hf;cases r with
     |none=>simpa[Instr.findNow,hk,Instr.sameNow,aDA] using ih
     |some p=>obtain⟨j,v2⟩:=p;obtain⟨e2,q1,q2,q3,q4,q5⟩:=ih;refine⟨e2,by simpa[Instr.findNow,hk,Instr.sameNow,aDA] using q1,q2,by omega,?_,q5⟩;rw[show j-i=(j-(i+1))+1 by omega,tY];exact q4
   .exfalso;cases q<;>first|exact hq rfl|(simp[Km] at hf)
  |_=>simp[Km] at hf
theorem wI{o:Oper}{t kt e:TypeId}{m k:Operand}{vm vk z r:Aa}{ok:Bool}{h':Ad}(ho:o.op= .lookup t m k ok)(ht:C.P.underlying t=some (.map kt e))(hk:C.P.underlying kt=some (.int .i64))(hz:GJ C.P e=some z)(ha:Bq C σ [m,k]=some [vm,vk])(hm:kT h z ok vm vk=some (h',r))(hr:CR C γ0 w0 γ β σ h a w):
  FJ C γ0 w0 o a w (σ.put o.dst (.val r)) h':=by
 obtain⟨_,_,e0,h1,h2⟩:=Fa hr ha;cases e0;obtain⟨zv,uF,yr⟩:=Hb hz;have Hv:∀(es:Array MapEntry) (q:Option (Nat×Aa)),(Instr.lookup t (a.eval m) (a.eval k) ok).run C.P w=(JT kt e (a.eval k) ok es).run C.P w->
   ∀n,a.eval k= .int .i64 n->(match q with|none=>Instr.findNow (.int .i64) (.int .i64 n) es.toList 0=some none|some (j,v)=>∃(e:MapEntry),Instr.findNow (.int .i64) (.int .i64 n) es.toList 0=some (some (j,e.val))/\BE γ v e.val/\0<=j/\es.toList[j-0]?=some e/\e.key= .int .i64 n)->
   eR z ok q=r->FJ C γ0 w0 o a w (σ.put o.dst (.val r)) h:=by
  intro es q Wk n gg hq Wi;have vY:(Instr.checkKey es.isEmpty 10000 kt (.int .i64 n)).run C.P w= .ok () w:=MapKept.run_checkKey (k:= .int .i64 n) hk (by simp[MapKept.IsKey]) es.isEmpty 9999;have AV:∃v,(Instr.lookup t (a.eval m) (a.eval k) ok).run C.P w= .ok v w/\BE γ r v:=by
   cases q with
   |none=>
    refine⟨if ok then .tuple #[zv,.bool false] else zv,?_,?_⟩;·rw[Wk,gg];unfold JT;simp only[Sem.run_bind,Result.andThen_ok,vY,MapKept.run_findKey hk hq,yr,Sem.run_bind,Sem.run_pure]
    .rw[<-Wi];have hvz:=ER (γ:=γ) uF;cases ok with
     |true=>exact⟨_,rfl,_,_,rfl,hvz,_,_,rfl,rfl,rfl⟩
     |false=>exact hvz
   |some p=>
    obtain⟨j,v⟩:=p;obtain⟨en,q1,q2,_⟩:=hq;refine⟨if ok then .tuple #[en.val,.bool true] else en.val,?_,?_⟩;·rw[Wk,gg];unfold JT;simp only[Sem.run_bind,Result.andThen_ok,vY,MapKept.run_findKey hk q1,Sem.run_bind,Sem.run_pure]
    .rw[<-Wi];cases ok with
     |true=>exact⟨_,rfl,_,_,rfl,q2,_,_,rfl,rfl,rfl⟩
     |false=>exact q2
  obtain⟨v,AV,lD⟩:=AV;exact FJ.value (by simp only[execOp,ho];exact Dq AV) (hr.put λ_ _=>lD)
 unfold kT at hm;split at hm;·rename_i n;cases hm;exact Hv #[] none (by rw[show a.eval m=_ from h1];simp only[Instr.lookup,JT,Sem.run_bind,run_underlying ht,Result.andThen_ok,Sem.run_pure];rfl) n h2 rfl rfl
 .rename_i id n;obtain⟨b,hb,vX⟩:=h1;split at hm
  .rename_i es Wk;obtain⟨Dk,clock,hw,hM,_⟩:=hr.DD.map id es Wk b hb;cases hf:Km n es 0 with
   |none=>rw[hf] at hm;cases hm
   |some q=>
    rw[hf] at hm;simp only[BR,BA,HR] at hm;obtain⟨rfl,hm⟩:=hm;refine Hv Dk q (by rw[vX];simp only[Instr.lookup,JT,Sem.run_bind,run_underlying ht,MapKept.run_getObj_map hw,Result.andThen_ok,Sem.run_pure];rfl) n h2 ?_ ?_
    .have:=RO (i:=0) hM hf;cases q with
     |none=>exact this
     |some p=>exact this
    .exact hm
  .cases hm
 .cases hm
theorem KU.aDB{k v:Aa}{e:MapEntry}(hk:BE γ k e.key)(hv:BE γ v e.val):∀{es:List (Aa×Aa)} {l:List MapEntry},KU γ es l->KU γ (es++[(k,v)]) (l++[e])
 |[],l,hM=>by rw[show l=[] from hM];exact⟨e,[],rfl,hk,hv,rfl⟩
 |(k',v')::es,l,hM=>by obtain⟨e',l',rfl,h1,h2,h3⟩:=hM;exact⟨e',_,rfl,h1,h2,KU.aDB hk hv h3⟩
theorem KU.length:∀{es:List (Aa×Aa)} {l:List MapEntry},KU γ es l->l.length=es.length
 |[],l,hM=>by rw[show l=[] from hM];rfl
 |(k',v')::es,l,hM=>by obtain⟨e',l',rfl,h1,h2,h3⟩:=hM;simp[KU.length h3]
theorem KU.modify{v:Aa}{u:Value}(hv:BE γ v u):∀{es:List (Aa×Aa)} {l:List MapEntry} {j:Nat} {k v0:Aa},KU γ es l->es[j]?=some (k,v0)->KU γ (es.set j (k,v)) (l.modify j λe=>{e with val:=u})
 |[],l,j,k,v0,hM,hj=>by simp at hj
 |(k',v')::es,l,j,k,v0,hM,hj=>by
  obtain⟨e',l',rfl,h1,h2,h3⟩:=hM;cases j with
  |zero=>cases hj;exact⟨{e' with val:=u},l',by simp,h1,hv,h3⟩
  |succ j=>exact⟨e',l'.modify j _,by simp,h1,h2,KU.modify hv h3 (by simpa using hj)⟩
theorem aQ{es:Array MapEntry}{j:Nat}{e:MapEntry}{k:Value}(hj:es[j]?=some e)(hk:e.key=k):(es.modify j λe=>{e with key:=k})=es:=by
 apply Array.ext_getElem?;intro i;rw[su];split;·rename_i hi;subst hi;rw[hj];simp[<-hk]
 .rfl
theorem fU{o:Oper}{t kt e:TypeId}{m k:Operand}{vm vk z r:Aa}{h':Ad}(ho:o.op= .mapEntry t m k)(ht:C.P.underlying t=some (.map kt e))(hk:C.P.underlying kt=some (.int .i64))(hz:GJ C.P e=some z)(ha:Bq C σ [m,k]=some [vm,vk])(hm:TQ h z vm vk=some (h',r))(hr:CR C γ0 w0 γ β σ h a w):
  FJ C γ0 w0 o a w (σ.put o.dst (.val r)) h':=by
 obtain⟨_,_,e0,h1,h2⟩:=Fa hr ha;cases e0;obtain⟨zv,uF,yr⟩:=Hb hz;unfold TQ at hm;split at hm
 .rename_i id n;obtain⟨b,hb,vX⟩:=h1;have hke:a.eval k= .int .i64 n:=h2;split at hm
  .rename_i es Wk;obtain⟨Dk,clock,hw,hM,hB⟩:=hr.DD.map id es Wk b hb;have vY:(Instr.checkKey false 10000 kt (.int .i64 n)).run C.P w= .ok () w:=MapKept.run_checkKey (k:= .int .i64 n) hk (by simp[MapKept.IsKey]) false 9999;cases hf:Km n es 0 with
   |none=>rw[hf] at hm;cases hm
   |some q=>
    rw[hf] at hm;have hq:=RO (i:=0) hM hf;cases q with
    |none=>
     simp only[BR,BA,HR] at hm;obtain⟨rfl,rfl⟩:=hm;have AV:(Instr.mapEntry t (a.eval m) (a.eval k)).run C.P w= .ok (.tuple #[zv,goInt clock]) {w with heap:=w.heap.setIfInBounds b (.map (Dk.push {key:= .int .i64 n,val:=zv,born:=clock}) (clock+1))}:=by rw[vX,hke];simp[Instr.mapEntry,run_underlying ht,MapKept.run_getObj_map hw,vY,MapKept.run_findKey hk hq,yr,MapKept.run_setObj_map _ hw,Result.andThen]
     obtain⟨hi,JC⟩:=OJ (TU:=es++[(.int .i64 n,z)]) (ents':=Dk.push {key:= .int .i64 n,val:=zv,born:=clock}) (clock':=clock+1) hr.DD Wk hb hw ⟨by have:=KU.aDB (γ:=γ) (k:= .int .i64 n) (v:=z) (e:={key:= .int .i64 n,val:=zv,born:=clock}) rfl (ER uF) hM;simpa using this,Xn hB⟩
     refine FJ.value (by simp only[execOp,ho];exact Dq AV) ((hr.world hi JC).put λ_ _=>⟨_,rfl,zv,_,rfl,ER uF,_,[],rfl,?_,rfl⟩);rw[hB.1];have:=hM.length;simp only[Cg] at this;rw[<-this];rfl
    |some p=>
     obtain⟨j,v⟩:=p;simp only[BR,BA,HR] at hm;obtain⟨rfl,rfl⟩:=hm;obtain⟨en,q1,q2,_,q4,q5⟩:=hq;have hj:Dk[j]?=some en:=by simpa using q4
     have aDC:=hB.2 j en hj;have rB:w.heap.setIfInBounds b (.map Dk clock)=w.heap:=by
      apply Array.ext_getElem?;intro i;rw[Array.getElem?_setIfInBounds];split;·rename_i hi;subst hi;have hlt:=(A0.1 hw).1;rw[if_pos hlt,hw]
      .rfl
     have AV:(Instr.mapEntry t (a.eval m) (a.eval k)).run C.P w= .ok (.tuple #[en.val,goInt j]) w:=by rw[vX,hke];simp[Instr.mapEntry,run_underlying ht,MapKept.run_getObj_map hw,vY,MapKept.run_findKey hk q1,hj,q5,MapKept.run_keyThatStays (d:= .int .i64) (k:= .int .i64 n) (by simp[MapKept.IsKey]),MapKept.run_setObj_map _ hw,Result.andThen,aDC,aQ hj q5,rB]
     exact FJ.value (by simp only[execOp,ho];exact Dq AV) (hr.put λ_ _=>⟨_,rfl,_,_,rfl,q2,_,[],rfl,rfl,rfl⟩)
  .cases hm
 .cases hm
theorem Yl{es:Array MapEntry}(hB:∀(i:Nat) (e:MapEntry),es[i]?=some e->e.born=i){j:Nat}{e:MapEntry}(hj:es[j]?=some e):es.findIdx? (λe=>(e.born:Int)==(j:Int))=some j:=by
 rw[Array.findIdx?_eq_some_iff_getElem];obtain⟨hl,he⟩:=A0.1 hj;refine⟨hl,?_,λi hi=>?_⟩;·have:=hB j _ (C2 hl);simp[this]
 .have:=hB i _ (C2 (by omega));simp[this];omega
theorem fV{o:Oper}{t:TypeId}{m s x:Operand}{vm vs vx r:Aa}{h':Ad}(ho:o.op= .entryStore t m s x)(hd:o.dst=none)(ha:Bq C σ [m,s,x]=some [vm,vs,vx])(hm:TR h vm vs vx=some (h',r))(hr:CR C γ0 w0 γ β σ h a w):FJ C γ0 w0 o a w σ h':=by
 obtain⟨h1,h2,h3⟩:=UP hr ha;have MI:∀w',(Instr.entryStore t (a.eval m) (a.eval s) (a.eval x)).run C.P w= .ok () w'->(execOp a.eval o).run C.P w= .ok .skip w':=λw' AV=>by simp[execOp,ho,AV]
 unfold TR at hm;split at hm
 .rename_i id n;obtain⟨b,hb,vX⟩:=h1;have Kq:a.eval s= .int .i64 n:=h2;split at hm
  .rename_i es Wk;split at hm
   .rename_i hn;split at hm
    .rename_i kk v0 hk;cases hm;obtain⟨Dk,clock,hw,hM,hB⟩:=hr.DD.map id es Wk b hb;have hlen:=hM.length;have hlt:=(Ah.1 hk).1;have hje:∃en,Dk[n.toNat]?=some en:=⟨Dk[n.toNat]'(by simp at hlen;omega),C2 _⟩;obtain⟨en,hj⟩:=hje;have uB:((n.toNat:Nat):Int)=n:=by omega
     have aDD:=Yl hB.2 hj;rw[uB] at aDD;have AV:(Instr.entryStore t (a.eval m) (a.eval s) (a.eval x)).run C.P w= .ok () {w with heap:=w.heap.setIfInBounds b (.map (Dk.modify n.toNat λe=>{e with val:=a.eval x}) clock)}:=by rw[vX,Kq];simp[Instr.entryStore,MapKept.run_getObj_map hw,asInt,asIntOf,aDD,MapKept.run_setObj_map _ hw,Result.andThen]
     obtain⟨hi,JC⟩:=OJ (TU:=es.set n.toNat (kk,vx)) (ents':=Dk.modify n.toNat λe=>{e with val:=a.eval x}) (clock':=clock) hr.DD Wk hb hw ⟨by have:=KU.modify h3 hM hk;simpa using this,SK hB λ_=>rfl⟩
     exact FJ.skip (MI _ AV) (by rw[hd];exact hr.world hi JC)
    .cases hm
   .cases hm
  .cases hm
 .cases hm
end
end Go.Am
end
