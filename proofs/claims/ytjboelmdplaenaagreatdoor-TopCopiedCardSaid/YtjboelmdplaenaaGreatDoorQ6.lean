/- Lemmas -/
import Derived.Test.YtjboelmdplaenaaGreatDoorQ5
import Derived.MapKept
set_option linter.unusedVariables false
set_option linter.unusedSimpArgs false
section
namespace Go.Am
open Go
section
variable {C:Ctx} {γ0 γ γ':Gh} {w0 w w':World} {β:Nat→Nat} {σ:Env} {h:AHeap} {a:Act} {fid:FuncId} {ops:List Oper}
theorem bytes_ne {s t:Bytes} (h:s≠t):((⟨⟨s⟩⟩:ByteArray)==⟨⟨t⟩⟩)=false:=by
 refine Bool.eq_false_iff.2 λhc=>h ?_;have:=(MapKept.bytes_beq _ _).1 hc
 grind
theorem bytes_same (s:Bytes):((⟨⟨s⟩⟩:ByteArray)==⟨⟨s⟩⟩)=true:=(MapKept.bytes_beq _ _).2 rfl
theorem find_rel {s:Bytes}:∀{es:List (AVal×AVal)} {l:List MapEntry} {i:Nat} {r:Option AVal},MRel γ es l→mfind s es=some r→
  match r with
  |none=>Instr.findNow .string (.string ⟨⟨s⟩⟩) l i=some none
  |some v=>∃(j:Nat) (e:MapEntry),Instr.findNow .string (.string ⟨⟨s⟩⟩) l i=some (some (i+j,e.val))∧VRel γ v e.val
 |[],l,i,r,hM,hf=>by rw[show l=[] from hM];cases hf;rfl
 |(k,v)::es,l,i,r,hM,hf=>by
  obtain⟨e,l',rfl,h1,h2,h3⟩:=hM;unfold mfind at hf;split at hf
  ·grind
  ·rename_i t v' es' heq
   cases heq
   have hk:e.key= .string ⟨⟨t⟩⟩:=h1;split at hf
   ·rename_i hst;subst hst
    cases hf
    exact⟨0,e,by simp[Instr.findNow,hk,Instr.sameNow,bytes_same],h2⟩
   ·rename_i hst;have ih:=find_rel (i:=i+1) h3 hf;have hne:=bytes_ne hst
    cases r with
    |none=>simpa[Instr.findNow,hk,Instr.sameNow,hne] using ih
    |some v2=>obtain⟨j,e2,q1,q2⟩:=ih;exact⟨j+1,e2,by simp only[Instr.findNow,hk,Instr.sameNow,hne];rw[q1];congr 3;omega,q2⟩
  ·cases hf
theorem put_rel {s:Bytes} {v:AVal} {u:Value} (hv:VRel γ v u):∀{es es':List (AVal×AVal)} {l:List MapEntry} {i:Nat},MRel γ es l→mput s v es=some es'→
  (Instr.findNow .string (.string ⟨⟨s⟩⟩) l i=some none∧∀born,MRel γ es' (l++[{key:= .string ⟨⟨s⟩⟩,val:=u,born}]))∨
  ∃j e,Instr.findNow .string (.string ⟨⟨s⟩⟩) l i=some (some (i+j,e.val))∧l[j]?=some e∧e.key= .string ⟨⟨s⟩⟩∧MRel γ es' (l.modify j λe=>{e with key:= .string ⟨⟨s⟩⟩,val:=u})
 |[],es',l,i,hM,hp=>by rw[show l=[] from hM];cases hp;exact .inl ⟨rfl,λborn=>⟨_,[],rfl,rfl,hv,rfl⟩⟩
 |(k,v0)::es,es',l,i,hM,hp=>by
  obtain⟨e,l',rfl,h1,h2,h3⟩:=hM;unfold mput at hp;split at hp
  ·rename_i heq;cases heq
  ·rename_i t v' es2 heq
   cases heq
   have hk:e.key= .string ⟨⟨t⟩⟩:=h1;split at hp
   ·rename_i hst;subst hst
    cases hp
    exact .inr ⟨0,e,by simp[Instr.findNow,hk,Instr.sameNow,bytes_same],rfl,hk,_,l',rfl,rfl,hv,h3⟩
   ·rename_i hst;have hne:=bytes_ne hst
    cases hq:mput s v es with
    |none=>rw[hq] at hp;cases hp
    |some es3=>
     rw[hq] at hp;cases hp;rcases put_rel hv (i:=i+1) h3 hq with⟨q1,q2⟩|⟨j,e2,q1,q2,q3,q4⟩
     ·exact .inl ⟨by simpa[Instr.findNow,hk,Instr.sameNow,hne] using q1,λborn=>⟨e,_,rfl,h1,h2,q2 born⟩⟩
     ·exact .inr ⟨j+1,e2,by simp only[Instr.findNow,hk,Instr.sameNow,hne];rw[q1];congr 3;omega,q2,q3,e,_,by simp,h1,h2,q4⟩
  ·cases hp
theorem born_push {es:Array MapEntry} {clock:Nat} {k v:Value} (h:clock=es.size∧∀(i:Nat) (e:MapEntry),es[i]?=some e→e.born=i):
 clock+1=(es.push {key:=k,val:=v,born:=clock}).size∧∀(i:Nat) (e:MapEntry),(es.push {key:=k,val:=v,born:=clock})[i]?=some e→e.born=i:=by grind
theorem born_modify {es:Array MapEntry} {clock j:Nat} {f:MapEntry→MapEntry} (h:clock=es.size∧∀(i:Nat) (e:MapEntry),es[i]?=some e→e.born=i) (hf:∀e,(f e).born=e.born):
 clock=(es.modify j f).size∧∀(i:Nat) (e:MapEntry),(es.modify j f)[i]?=some e→e.born=i:=by grind
theorem write_map (hi:Inv γ h w) {g id:Nat} {es es':List (AVal×AVal)} (hes:h[id]?=some (.map es)) (hg:γ.mu id=some g) {o:Obj} {ents':Array MapEntry} {clock':Nat} (hw:w.heap[g]?=some o) (hr:MObj γ es' ents' clock'):
  Inv γ (h.set id (.map es')) {w with heap:=w.heap.setIfInBounds g (.map ents' clock')}∧Acc γ w γ {w with heap:=w.heap.setIfInBounds g (.map ents' clock')}:=by
 obtain⟨g',p,hgo⟩:=hi.obj id _ hes (by simp);rw[hg] at p;cases p;obtain⟨hsame,hother⟩:=MapKept.heap_set (o':= .map ents' clock') hw;have uniq:∀id' x,h[id']?=some x→x≠ .dead→γ.mu id'=some g→id'=id:=λid' x hx hxd hm=>by obtain⟨b',p,q⟩:=hi.obj id' x hx hxd;rw[hm] at p;cases p;rw[hgo] at q;cases q;rfl
 constructor
 ·refine⟨λb o v hb=>?_,λid' y hid hy=>?_,λid' cs hc b hb=>?_,λid' es2 hc b hb=>?_,λid' b hb=>by simpa using hi.mu id' b hb,λb x hx=>?_,λb n hb=>?_⟩;rotate_left 5
  ·obtain⟨⟨us2,e2,fr2,p,q⟩,r⟩:=hi.sz b n hb;have hne:b≠g:=λhe=>by subst he;obtain⟨ents0,clock0,p0,_⟩:=hi.map id es hes b hg;rw[p] at p0;cases p0
   exact⟨⟨us2,e2,fr2,by rw[hother b hne];exact p,q⟩,r⟩
  ·obtain⟨p,q,r⟩:=hi.imm b o v hb;have:b≠g:=λhe=>by subst he;rw[hgo] at r;rcases r with r|⟨_,_,_,r,_⟩<;>cases r
   exact⟨by rw[cell?_of_heap (w:=w) (hother b this)];exact p,q,r⟩
  ·by_cases he:id'=id
   ·subst he;exact⟨g,hg,hgo⟩
   ·rw[List.getElem?_set_ne (λx=>he x.symm)] at hid;exact hi.obj id' y hid hy
  ·by_cases he:id'=id
   ·subst he;rw[List.getElem?_set_self (hi.mu _ _ hg)] at hc
    cases hc
   ·rw[List.getElem?_set_ne (λx=>he x.symm)] at hc;have hb':b≠g:=λhx=>by subst hx;exact he (uniq id' _ hc (by simp) hb)
    obtain⟨us2,e2,fr2,p,pf,q,r⟩:=hi.cells id' cs hc b hb;exact⟨us2,e2,fr2,by rw[hother b hb'];exact p,pf,q,r⟩
  ·by_cases he:id'=id
   ·subst he;rw[hg] at hb;cases hb;rw[List.getElem?_set_self (hi.mu _ _ hg)] at hc
    cases hc
    exact⟨ents',clock',hsame,hr⟩
   ·rw[List.getElem?_set_ne (λx=>he x.symm)] at hc;have hb':b≠g:=λhx=>by subst hx;exact he (uniq id' _ hc (by simp) hb)
    obtain⟨ents,clock,p,q⟩:=hi.map id' es2 hc b hb;exact⟨ents,clock,by rw[hother b hb'];exact p,q⟩
  ·have:=hi.own b x hx;simpa using this
 ·refine⟨.refl _,by simp,rfl,rfl,rfl,λb hb hn=>⟨?_,rfl⟩⟩;exact hother b (λhe=>by subst he;exact hn id hgo)
theorem args_three (hr:Rel C γ0 w0 γ β σ h a w) {x y z:Operand} {u1 u2 u3:AVal} (ha:opVals C σ [x,y,z]=some [u1,u2,u3]):VRel γ u1 (a.eval x)∧VRel γ u2 (a.eval y)∧VRel γ u3 (a.eval z):=by
 obtain⟨_,_,_,e,h1,h2,h3⟩:=(opVals_rel hr ha).three
 grind
theorem sim_mset {o:Oper} {t kt e:TypeId} {m k x:Operand} {vm vk vx:AVal} {h':AHeap} (ho:o.op= .insert t m k x∨o.op= .mapUpdate t m k x) (hd:o.dst=none) (ht:C.P.underlying t=some (.map kt e)) (hk:C.P.underlying kt=some .string) (ha:opVals C σ [m,k,x]=some [vm,vk,vx])
  (hm:hmset h vm vk vx=some h') (hr:Rel C γ0 w0 γ β σ h a w):Sim C γ0 w0 o a w σ h':=by
 obtain⟨h1,h2,h3⟩:=args_three hr ha;have hex:∀w',(Instr.mapUpdate t (a.eval m) (a.eval k) (a.eval x)).run C.P w= .ok () w'→(execOp a.eval o).run C.P w= .ok .skip w':=λw' hrun=>by rcases ho with ho|ho<;>simp[execOp,ho,hrun]
 unfold hmset at hm;split at hm
 ·rename_i id s;obtain⟨b,hb,hme⟩:=h1;have hke:a.eval k= .string ⟨⟨s⟩⟩:=h2;split at hm
  ·rename_i es hes
   cases hp:mput s vx es with
   |none=>rw[hp] at hm;cases hm
   |some es'=>
    rw[hp] at hm;cases hm;obtain⟨ents,clock,hw,hM,hB⟩:=hr.inv.map id es hes b hb;have hck:(Instr.checkKey false 10000 kt (.string ⟨⟨s⟩⟩)).run C.P w= .ok () w:=MapKept.run_checkKey (k:= .string ⟨⟨s⟩⟩) hk (by simp[MapKept.IsKey]) false 9999;rcases put_rel h3 (i:=0) hM hp with⟨q1,q2⟩|⟨j,en,q1,q2,q3,q4⟩
    ·have hrun:(Instr.mapUpdate t (a.eval m) (a.eval k) (a.eval x)).run C.P w= .ok () {w with heap:=w.heap.setIfInBounds b (.map (ents.push {key:= .string ⟨⟨s⟩⟩,val:=a.eval x,born:=clock}) (clock+1))}:=by rw[hme,hke];simp[Instr.mapUpdate,run_underlying ht,MapKept.run_getObj_map hw,hck,MapKept.run_findKey hk q1,MapKept.run_setObj_map _ hw,Result.andThen]
     obtain⟨hi,hacc⟩:=write_map (es':=es') (ents':=ents.push {key:= .string ⟨⟨s⟩⟩,val:=a.eval x,born:=clock}) (clock':=clock+1) hr.inv hes hb hw ⟨by simpa using q2 clock,born_push hB⟩;exact Sim.skip (hex _ hrun) (by rw[hd];exact hr.world hi hacc)
    ·have hj:ents[j]?=some en:=by simpa using q2
     rw[Nat.zero_add] at q1;have hrun:(Instr.mapUpdate t (a.eval m) (a.eval k) (a.eval x)).run C.P w= .ok () {w with heap:=w.heap.setIfInBounds b (.map (ents.modify j λe=>{e with key:= .string ⟨⟨s⟩⟩,val:=a.eval x}) clock)}:=by rw[hme,hke];simp[Instr.mapUpdate,run_underlying ht,MapKept.run_getObj_map hw,hck,MapKept.run_findKey hk q1,hj,q3,MapKept.run_keyThatStays (d:= .string) (k:= .string ⟨⟨s⟩⟩) (by simp[MapKept.IsKey]),MapKept.run_setObj_map _ hw,Result.andThen]
     obtain⟨hi,hacc⟩:=write_map (es':=es') (ents':=ents.modify j λe=>{e with key:= .string ⟨⟨s⟩⟩,val:=a.eval x}) (clock':=clock) hr.inv hes hb hw ⟨by simpa using q4,born_modify hB λ_=>rfl⟩;exact Sim.skip (hex _ hrun) (by rw[hd];exact hr.world hi hacc)
  ·cases hm
 ·cases hm
theorem sim_mnew {o:Oper} {t:TypeId} (ho:o.op= .makeMap t none) (hr:Rel C γ0 w0 γ β σ h a w):Sim C γ0 w0 o a w (σ.put o.dst (.val (.map (some h.length)))) (h++[.map []]):=by
 obtain⟨hi,ha⟩:=alloc_object hr.inv (.map #[] 0) (.map []) none (.inr ⟨rfl,rfl,rfl⟩);have hrun:(Instr.makeMap t none).run C.P w= .ok (.map (some w.heap.size)) (w.alloc (.map #[] 0)):=by simp[Instr.makeMap]
 exact Sim.value (by simp only[execOp,ho];exact run_value' hrun) ((hr.world hi ha).put λ_ _=>⟨w.heap.size,by simp[Gh.object],rfl⟩)
def lookEnd (key elem:TypeId) (index:Value) (commaOk:Bool) (es:Array MapEntry):Sem Value:=do
 Instr.checkKey es.isEmpty 10000 key index
 let(v,ok)←match←Instr.findKey key index es.toList with
  |some (_,v)=>pure (v,true)
  |none=>pure (←zeroValue elem,false)
 pure (if commaOk then .tuple #[v,.bool ok] else v)
theorem sim_mget {o:Oper} {t kt e:TypeId} {m k:Operand} {vm vk z r:AVal} {ok:Bool} (ho:o.op= .lookup t m k ok) (ht:C.P.underlying t=some (.map kt e)) (hk:C.P.underlying kt=some .string) (hz:tyZero C.P e=some z) (ha:opVals C σ [m,k]=some [vm,vk]) (hm:hmget h z ok vm vk=some r) (hr:Rel C γ0 w0 γ β σ h a w):
  Sim C γ0 w0 o a w (σ.put o.dst (.val r)) h:=by
 obtain⟨_,_,e0,h1,h2⟩:=args_two hr ha
 cases e0
 obtain⟨zv,hzv,hzr⟩:=run_zeroValue hz;have fin:∀(es:Array MapEntry) (q:Option AVal),(Instr.lookup t (a.eval m) (a.eval k) ok).run C.P w=(lookEnd kt e (a.eval k) ok es).run C.P w→
   ∀s,a.eval k= .string ⟨⟨s⟩⟩→(match q with|none=>Instr.findNow .string (.string ⟨⟨s⟩⟩) es.toList 0=some none|some v=>∃(j:Nat) (e:MapEntry),Instr.findNow .string (.string ⟨⟨s⟩⟩) es.toList 0=some (some (0+j,e.val))∧VRel γ v e.val)→
   (match q with|some v=>if ok then AVal.tuple [v,.bool true] else v|none=>if ok then .tuple [z,.bool false] else z)=r→Sim C γ0 w0 o a w (σ.put o.dst (.val r)) h:=by
  intro es q hes s hks hq hre;have hck:(Instr.checkKey es.isEmpty 10000 kt (.string ⟨⟨s⟩⟩)).run C.P w= .ok () w:=MapKept.run_checkKey (k:= .string ⟨⟨s⟩⟩) hk (by simp[MapKept.IsKey]) es.isEmpty 9999;have hrun:∃v,(Instr.lookup t (a.eval m) (a.eval k) ok).run C.P w= .ok v w∧VRel γ r v:=by
   cases q with
   |none=>
    refine⟨if ok then .tuple #[zv,.bool false] else zv,?_,?_⟩
    ·rw[hes,hks];unfold lookEnd;simp only[Sem.run_bind,Result.andThen_ok,hck,MapKept.run_findKey hk hq,hzr,Sem.run_bind,Sem.run_pure]
    ·rw[←hre];have hvz:=ofConst_rel (γ:=γ) hzv
     cases ok with
     |true=>exact⟨_,rfl,_,_,rfl,hvz,_,_,rfl,rfl,rfl⟩
     |false=>exact hvz
   |some v=>
    obtain⟨j,en,q1,q2⟩:=hq;refine⟨if ok then .tuple #[en.val,.bool true] else en.val,?_,?_⟩
    ·rw[hes,hks];unfold lookEnd;simp only[Sem.run_bind,Result.andThen_ok,hck,MapKept.run_findKey hk q1,Sem.run_bind,Sem.run_pure]
    ·rw[←hre]
     cases ok with
     |true=>exact⟨_,rfl,_,_,rfl,q2,_,_,rfl,rfl,rfl⟩
     |false=>exact q2
  obtain⟨v,hrun,hvr⟩:=hrun;exact Sim.value (by simp only[execOp,ho];exact run_value' hrun) (hr.put λ_ _=>hvr)
 unfold hmget at hm
 cases hf:hmfind h vm vk with
 |none=>rw[hf] at hm;cases hm
 |some q=>
  rw[hf] at hm;simp only[Option.map_some,Option.some.injEq] at hm;unfold hmfind at hf;split at hf
  ·rename_i s
   cases hf
   exact fin #[] none (by rw[show a.eval m=_ from h1];simp only[Instr.lookup,lookEnd,Sem.run_bind,run_underlying ht,Result.andThen_ok,Sem.run_pure];rfl) s h2 rfl hm
  ·rename_i id s;obtain⟨b,hb,hme⟩:=h1;split at hf
   ·rename_i es hes;obtain⟨ents,clock,hw,hM,_⟩:=hr.inv.map id es hes b hb;exact fin ents q (by rw[hme];simp only[Instr.lookup,lookEnd,Sem.run_bind,run_underlying ht,MapKept.run_getObj_map hw,Result.andThen_ok,Sem.run_pure];rfl) s h2 (find_rel (i:=0) hM hf) hm
   ·cases hf
  ·cases hf
theorem noRows_own {size:Nat} {v:AVal} (h:noRows size v=true):v= .slnil∨v= .nosl size∨v= .sl size []:=by
 unfold noRows at h
 grind
theorem sim_objOf {o:Oper} {c:Call} {t t' e:TypeId} {n b:Nat} {s x:Operand} {v u r:AVal} {h':AHeap} (ho:o.op= .call c) (hc:c.callee= .builtin .append) (h0:c.argTypes[0]?=some t) (h1:c.argTypes[1]?=some t') (hargs:c.args.toList=[s,x]) (ht:C.P.underlying t=some (.slice e))
  (ht':(∃e',C.P.underlying t'=some (.slice e'))∨C.P.underlying t'=some .string) (hsz:tySize C.P e=some (n+1)) (hby:tyBytes C.P e=some (b+1)) (hown:isOwn C σ s=true) (hzo:zeroOk C.P e=true) (hv:opVals C σ [s,x]=some [v,u])
  (hp:hobjOf h (n+1) (b+1) v u=some (h',r)) (hr:Rel C γ0 w0 γ β σ h a w):Sim C γ0 w0 o a w ((σ.demote (demoteOf σ s)).put o.dst (.val r)) h':=by
 obtain⟨i,z,hi,hz,hzs⟩:=zeroOk_spec hzo;have his:=tySize_info hsz hi;have hib:=tyBytes_info hby hi;obtain⟨_,_,e0,hvs,hvx⟩:=args_two hr hv
 cases e0
 have hv1:opVal C σ s=some v:=by
  unfold opVals at hv;split at hv
  ·rename_i p ps q1 q2;cases hv;exact q1
  ·cases hv
 have hcase:noRows (n+1) v=true∧((∃rows,appendOf (n+1) (b+1) .slnil u=some (.sl (n+1) rows)∧rows≠[]∧u= .sl (n+1) rows∧rows.length*(b+1)≤maxBytes∧h'=h++[.cells rows.flatten]∧r= .msl h.length 0 rows.length (n+1))∨((u= .slnil∨(∃z',u= .nosl z')∨∃z',u= .sl z' [])∧h'=h∧r=v)):=by
  unfold hobjOf at hp;split at hp
  ·rename_i z' rows;split at hp
   ·rename_i hnr;refine⟨hnr,?_⟩;split at hp
    ·cases hp;exact .inr ⟨.inr (.inr ⟨_,rfl⟩),rfl,rfl⟩
    ·rename_i hne;split at hp
     ·rename_i hcond
      cases hp
      obtain⟨rfl,hb⟩:=hcond;refine .inl ⟨rows,?_,hne,rfl,hb,rfl,rfl⟩
      cases rows with
      |nil=>exact absurd rfl hne
      |cons q rows=>simp only[appendOf,appendTo,if_true];rw[if_pos hb]
     ·cases hp
   ·cases hp
  ·split at hp
   ·rename_i hnr;cases hp;exact⟨hnr,.inr ⟨.inl rfl,rfl,rfl⟩⟩
   ·cases hp
  ·split at hp
   ·rename_i hnr;simp only[Bool.and_eq_true] at hnr
    cases hp;exact⟨hnr.1,.inr ⟨.inr (.inl ⟨_,rfl⟩),rfl,rfl⟩⟩
   ·cases hp
  ·cases hp
 obtain⟨hnr,hcase⟩:=hcase;obtain⟨γ1,hle,hr1,hv',hT⟩:=own_operand hr hown hv1 (σ.demote (demoteOf σ s)).length none;have heq:c.args.map a.eval=#[a.eval s,a.eval x]:=by apply Array.ext';simp[hargs]
 have hex:∀v' w',(Builtin.append_ #[t,t'] o.type #[a.eval s,a.eval x]).run C.P w= .ok v' w'→(execOp a.eval o).run C.P w= .ok (.value v') w':=λv' w' hrun=>by
  have:execOp a.eval o=(do pure (Next.value (←Builtin.append_ #[t,t'] o.type #[a.eval s,a.eval x]))):=by rw[←heq,←append_types (ty:=o.type) h0 h1];simp only[execOp,ho,resolve,hc];rfl
  rw[this];exact run_value' hrun
 have hself:(a.eval s= .slice none 0 0∧v= .slnil)∨(∃g cap us e1,a.eval s= .slice (some ⟨g,0,none⟩) 0 cap∧v= .sl (n+1) []∧γ1.own g=some (.tail (σ.demote (demoteOf σ s)).length none 0)∧w0.heap.size≤g∧w.heap[g]?=some (.cells us e1 (0,0))∧us.size=cap*(n+1)∧cap≤maxLen)∨∃g,a.eval s= .slice (some ⟨g,0,none⟩) 0 0∧v= .nosl (n+1):=by
  rcases hT with(hT|⟨zz,hT⟩)|⟨g,k,cap,us,e1,zz,rr,hvv,hse,hgo,hB,hg,hus,hkc,hm,hzz⟩
  ·rw[hT] at hv';exact .inl ⟨hv',hT⟩
  ·rcases noRows_own hnr with hv0|hv0|hv0
   ·rw[hv0] at hT;cases hT
   ·rw[hv0] at hv';obtain⟨g,hv'⟩:=hv';exact .inr (.inr ⟨g,hv',hv0⟩)
   ·rw[hv0] at hT;cases hT
  ·rcases noRows_own hnr with hv0|hv0|hv0
   ·rw[hv0] at hvv;cases hvv
   ·rw[hv0] at hvv;cases hvv
   ·rw[hv0] at hvv;cases hvv;have hk:k=0:=by rw[hv0,hse] at hv';obtain⟨ad0,cap0,hve,_⟩:=hv';simp only[Value.slice.injEq] at hve;exact hve.2.1
    subst hk;exact .inr (.inl ⟨g,cap,us,e1,hse,hv0,by simpa using hgo,hB,hg,hus,hm⟩)
 rcases hcase with⟨rows,happ,hne,hux,hbb,rfl,rfl⟩|⟨hux,rfl,rfl⟩
 ·obtain⟨rows',news,happ',hsrc,hnrel,hrl⟩:=src_rel (w:=w) ht' hr.inv hvx happ;have hrows:rows'=rows:=by
   cases rows' with
   |nil=>simp[appendTo] at happ'
   |cons q rows'=>
    simp only[appendTo] at happ';split at happ'
    ·cases happ';rfl
    ·cases happ'
  subst hrows;have hnr1:=VRelV.mono hle _ _ hnrel;have hsrc':Src C.P i.size t' (a.eval x) rows'.length news w:=by rw[his];exact hsrc
  have hnl:news.length=rows'.length*(n+1):=hsrc.newsLen;have hfl:rows'.flatten.length=news.length:=by rw[hnrel.length]
  have hpos:0<rows'.length:=List.length_pos_iff.2 hne;have hb':rows'.length≤maxBytes:=Nat.le_trans (Nat.le_mul_of_pos_right _ (Nat.succ_pos b)) hbb;have grow:∀(base:Option Addr) (cap:Nat),a.eval s= .slice base 0 cap→(Builtin.firstCells i.size 0 (.slice base 0 cap)).run C.P w.drew= .ok #[] w.drew→cap<rows'.length→
    Sim C γ0 w0 o a w ((σ.demote (demoteOf σ s)).put o.dst (.val (.msl h.length 0 rows'.length (n+1)))) (h++[.cells rows'.flatten]):=by
   intro base cap hs hfirst hlt;have hgrow:=run_append_grow_src (P:=C.P) w t t' o.type e i z ht hi hz base 0 cap [] hfirst (a.eval x) rows'.length news hsrc' (by omega) (by simp only[maxBytes] at hb';omega) (by rw[hib,Nat.zero_add];exact growslice_fits hlt hbb);rw[←hs,Nat.zero_add] at hgrow;have hge:=grownCap_ge w rows'.length cap e;have htk:(([]++news).toArray++Builtin.zeroCells z.cells (grownCap w rows'.length cap e-rows'.length)).toList.take rows'.flatten.length=news:=by simp only[Array.toList_append,List.nil_append];rw[hfl];exact List.take_left
   have hsize:(([]++news).toArray++Builtin.zeroCells z.cells (grownCap w rows'.length cap e-rows'.length)).size=grownCap w rows'.length cap e*(n+1):=by simp only[Array.size_append,List.size_toArray,size_zeroCells,hzs,his,List.nil_append,hnl,←Nat.add_mul];congr 1;omega
   obtain⟨γ2,hle2,hm2,hr2,hsz2⟩:=hr1.drew.newObj (([]++news).toArray++Builtin.zeroCells z.cells (grownCap w rows'.length cap e-rows'.length)) e (0,0) rows'.flatten (.inl rfl) (by rw[htk];exact hnr1) (by rw[htk];exact hsrc.one);exact Sim.value (hex _ _ hgrow) (hr2.put λ_ _=>⟨w.heap.size,_,hm2,rfl,hge,⟨Nat.succ_pos n,grownCap_le_maxLen w _ _ _ (by simp only[maxBytes] at hb';simp only[maxLen];omega)⟩,by rw[Nat.zero_add,←hsize];exact hsz2⟩)
  rcases hself with⟨hse,rfl⟩|⟨g,cap,us,e1,hse,rfl,hgo,hB,hg,hus,hcm⟩|⟨g,hse,rfl⟩
  rotate_left 2
  ·exact grow (some ⟨g,0,none⟩) 0 hse (by simpa using run_firstCells_some (P:=C.P) w.drew i.size 0 ⟨g,0,none⟩ 0 0 [] (by simp) (by simp)) hpos
  ·exact grow none 0 hse (run_firstCells_none _ _ _ _ _) hpos
  ·by_cases hroom:rows'.length≤cap
   ·have hfit:news.length≤us.size:=by rw[hnl,hus];exact Nat.mul_le_mul_right _ hroom
    have hrun:=run_append_room_src (P:=C.P) w t t' o.type e i ht hi g 0 0 cap (a.eval x) rows'.length news hsrc' (by omega) (λj hj=>by rw[cell_of_row w _ _ us e1 (0,0) hg,his,Array.getElem?_eq_getElem (by omega)];rfl) (λj hj=>frozen_of_row w _ _ us e1 hg)
    rw[Nat.zero_mul,Nat.zero_add,Nat.zero_add,setCells_row news 0 us w hg (by omega),←hse] at hrun;have htk:((us.toList.take 0++news++us.toList.drop (0+news.length)).toArray).toList.take rows'.flatten.length=news:=by simp only[List.take_zero,List.nil_append];rw[hfl];exact List.take_left
    obtain⟨γ2,hle2,hm2,hr2,hsz2⟩:=hr1.adopt hgo hB hg (us.toList.take 0++news++us.toList.drop (0+news.length)).toArray rows'.flatten (by rw[htk];exact hnr1) (by rw[htk];exact hsrc.one);exact Sim.value (hex _ _ hrun) (hr2.put λ_ _=>⟨g,cap,hm2,rfl,hroom,⟨Nat.succ_pos n,hcm⟩,by rw[hsz2,Nat.zero_add,←hus];simp;omega⟩)
   ·exact grow (some ⟨g,0,none⟩) cap hse (by simpa using run_firstCells_some (P:=C.P) w.drew i.size 0 ⟨g,0,none⟩ 0 cap [] (by simp) (by simp)) (by omega)
 ·have hsrc:Src C.P i.size t' (a.eval x) 0 [] w:=by
   rcases hux with rfl|⟨z',rfl⟩|⟨z',rfl⟩
   ·rw[show a.eval x=_ from hvx];exact⟨ht',λ_=>rfl,run_firstCells_none w _ 0 0 0,run_firstCells_none w.drew _ 0 0 0,by simp,by simp⟩
   ·obtain⟨g0,hve⟩:=hvx;rw[hve];exact⟨ht',λ_=>rfl,by simpa using run_firstCells_some (P:=C.P) w i.size 0 ⟨g0,0,none⟩ 0 0 [] (by simp) (by simp),by simpa using run_firstCells_some (P:=C.P) w.drew i.size 0 ⟨g0,0,none⟩ 0 0 [] (by simp) (by simp),by simp,by simp⟩
   ·obtain⟨ad0,cap0,hve,_⟩:=hvx;rw[hve];exact⟨ht',λ_=>rfl,by simpa using run_firstCells_some (P:=C.P) w i.size 0 ad0 0 cap0 [] (by simp) (by simp),by simpa using run_firstCells_some (P:=C.P) w.drew i.size 0 ad0 0 cap0 [] (by simp) (by simp),by simp,by simp⟩
  rcases hself with⟨hse,rfl⟩|⟨g,cap,us,e1,hse,rfl,hgo,hB,hg,hus,hcm⟩|⟨g,hse,rfl⟩
  rotate_left 2
  ·have hrun:=run_append_room_src (P:=C.P) w t t' o.type e i ht hi g 0 0 0 (a.eval x) 0 [] hsrc (by omega) (by simp) (by simp);rw[←hse] at hrun;simp only[World.setCells] at hrun;exact Sim.value (hex _ _ hrun) (hr1.put λ_ _=>hv')
  ·have hrun:(Builtin.append_ #[t,t'] o.type #[a.eval s,a.eval x]).run C.P w= .ok (.slice none 0 0) w:=by rw[hse];have hl:=hsrc.len;have hcc:=hsrc.cells;rcases ht' with⟨e',hk⟩|hk<;>simp[Builtin.append_,run_underlying ht,run_underlying hk,sizeOf,typeInfo,hi,hl,hcc]
   exact Sim.value (hex _ _ hrun) (hr1.put λ_ _=>rfl)
  ·have hrun:=run_append_room_src (P:=C.P) w t t' o.type e i ht hi g 0 0 cap (a.eval x) 0 [] hsrc (by omega) (by simp) (by simp);rw[←hse] at hrun;simp only[World.setCells] at hrun;exact Sim.value (hex _ _ hrun) (hr1.put λ_ _=>hv')
theorem Rel.kill (hr:Rel C γ0 w0 γ β σ h a w) (id:Nat):Rel C γ0 w0 γ β σ (h.set id .dead) a w:=by
 have key:∀{id':Nat} {x:AObj},(h.set id .dead)[id']?=some x→x≠ .dead→h[id']?=some x:=λ{id' x} hx hd=>by grind
 exact⟨⟨hr.inv.imm,λid' y hid hy=>hr.inv.obj id' y (key hid hy) hy,λid' cs hc b hb=>hr.inv.cells id' cs (key hc (by simp)) b hb,λid' es hc b hb=>hr.inv.map id' es (key hc (by simp)) b hb,λid' b hb=>by simpa using hr.inv.mu id' b hb,hr.inv.own,hr.inv.sz⟩,hr.fr,hr.acc,hr.defers,hr.glob⟩
theorem Rel.regrow (hr:Rel C γ0 w0 γ β σ h a w) {id g:Nat} {cs:List AVal} (hcs:h[id]?=some (.cells cs)) (hg:γ.mu id=some g) {us:Array Value} {e:TypeId} {fr:Nat×Nat} (hw:w.heap[g]?=some (.cells us e fr)) (hszg:γ.sz g=some us.size) (us':Array Value) (cs':List AVal) (hus:us'.size=us.size) (hfr:freeFr fr us'.size)
  (hv:VRelV γ cs' (us'.toList.take cs'.length)) (h1:∀u∈us'.toList.take cs'.length,u.oneCell'=true):∃γ',γ.le γ'∧γ'.mu h.length=some g∧Rel C γ0 w0 γ' β σ (h.set id .dead++[.cells cs']) a (w.setRow g us')∧γ'.sz g=some us.size:=by
 obtain⟨g',p,hgo⟩:=hr.inv.obj id _ hcs (by simp);rw[hg] at p;cases p;have hidl:id<h.length:=hr.inv.mu _ _ hg;have hmu:γ.mu h.length=none:=by
  cases hc:γ.mu h.length with
  |none=>rfl
  |some y=>exact absurd (hr.inv.mu _ y hc) (Nat.lt_irrefl _)
 have uniq:∀id' x,h[id']?=some x→x≠ .dead→γ.mu id'=some g→id'=id:=λid' x hx hxd hm=>by obtain⟨b',p,q⟩:=hr.inv.obj id' x hx hxd;rw[hm] at p;cases p;rw[hgo] at q;cases q;rfl
 have hle:γ.le (γ.object g h.length (some us.size)):=⟨λ_ _ _ hv=>hv,λid' b hm=>by
  have:id'≠h.length:=λhe=>by rw[he,hmu] at hm;cases hm
  simp only[Gh.object,if_neg this];exact hm,λb n hm=>by
  by_cases he:b=g
  ·subst he;rw[hszg] at hm;cases hm;simp[Gh.object]
  ·simp only[Gh.object,if_neg he];exact hm⟩
 have old:∀{id':Nat} {x:AObj},(h.set id .dead++[AObj.cells cs'])[id']?=some x→x≠ .dead→id'≠h.length→h[id']?=some x∧id'≠id:=λ{id' x} hx hd hne=>by
  have hlt:id'<(h.set id .dead).length:=by rw[List.getElem?_eq_some_iff] at hx;obtain⟨hl,_⟩:=hx;simp at hl⊢;omega
  rw[List.getElem?_append_left hlt] at hx;by_cases he:id=id'
  ·subst he;rw[List.getElem?_set_self (by simpa using hlt)] at hx
   cases hx;exact absurd rfl hd
  ·rw[List.getElem?_set_ne he] at hx;exact⟨hx,λh=>he h.symm⟩
 have inv':Inv (γ.object g h.length (some us.size)) (h.set id .dead++[.cells cs']) (w.setRow g us'):=by
  refine⟨λb o v hb=>?_,λid' y hid hy=>?_,λid' cs2 hc b hb=>?_,λid' es hc b hb=>?_,λid' b hb=>?_,λb y hy=>?_,λb n hb=>?_⟩
  ·obtain⟨p,q,r⟩:=hr.inv.imm b o v hb;have hbe:b≠g:=λhe=>by subst he;rw[hgo] at r;rcases r with r|⟨_,_,_,r,_⟩<;>cases r
   exact⟨by rw[cell?_of_heap (setRow_other w g b us' hbe)];exact p,q,by simp only[Gh.object,if_neg hbe];exact r⟩
  ·by_cases he:id'=h.length
   ·exact⟨g,by simp[Gh.object,he],by simp[Gh.object,he]⟩
   ·obtain⟨hid2,hne⟩:=old hid hy he;obtain⟨b,p,q⟩:=hr.inv.obj id' y hid2 hy;have hbe:b≠g:=λhx=>by subst hx;exact hne (uniq id' y hid2 hy p)
    exact⟨b,by simp only[Gh.object,if_neg he];exact p,by simp only[Gh.object,if_neg hbe];exact q⟩
  ·by_cases he:id'=h.length
   ·subst he;simp[Gh.object] at hb;subst hb;rw[List.getElem?_append_right (by simp)] at hc;simp at hc;subst hc;exact⟨us',e,fr,setRow_heap w g us us' e fr hw,hfr,VRelV.mono hle _ _ hv,h1⟩
   ·simp only[Gh.object,if_neg he] at hb;obtain⟨hc2,hne⟩:=old hc (by simp) he;have hbe:b≠g:=λhx=>by subst hx;exact hne (uniq id' _ hc2 (by simp) hb)
    obtain⟨us2,e2,fr2,p,pf,q,r⟩:=hr.inv.cells id' cs2 hc2 b hb;exact⟨us2,e2,fr2,by rw[setRow_other w g b us' hbe];exact p,pf,VRelV.mono hle _ _ q,r⟩
  ·by_cases he:id'=h.length
   ·subst he;rw[List.getElem?_append_right (by simp)] at hc;simp at hc
   ·simp only[Gh.object,if_neg he] at hb;obtain⟨hc2,hne⟩:=old hc (by simp) he;have hbe:b≠g:=λhx=>by subst hx;exact hne (uniq id' _ hc2 (by simp) hb)
    obtain⟨ents,clock,p,q⟩:=hr.inv.map id' es hc2 b hb;exact⟨ents,clock,by rw[setRow_other w g b us' hbe];exact p,q.mono hle⟩
  ·by_cases he:id'=h.length
   ·simp[he]
   ·simp only[Gh.object,if_neg he] at hb;have:=hr.inv.mu id' b hb;simp;omega
  ·by_cases hbe:b=g
   ·subst hbe;have:=hr.inv.own _ _ hgo;simpa[World.setRow] using this
   ·simp only[Gh.object,if_neg hbe] at hy;have:=hr.inv.own b y hy;simpa[World.setRow] using this
  ·by_cases he:b=g
   ·subst he;simp only[Gh.object,if_true] at hb
    cases hb
    exact⟨⟨us',e,fr,setRow_heap w b us us' e fr hw,hus⟩,.inr ⟨h.length,by simp[Gh.object]⟩⟩
   ·simp only[Gh.object,if_neg he] at hb⊢;obtain⟨p,r⟩:=hr.inv.sz b n hb;exact⟨by rw[setRow_other w g b us' he];exact p,r⟩
 refine⟨_,hle,by simp[Gh.object],hr.world inv' ⟨hle,by simp[World.setRow],rfl,rfl,rfl,λb hb hn=>?_⟩,by simp[Gh.object]⟩;have hbe:b≠g:=λhe=>by subst he;exact hn id hgo
 exact⟨setRow_other w g b us' hbe,by simp only[Gh.object,if_neg hbe]⟩
theorem sim_grow {o:Oper} {c:Call} {t t' e:TypeId} {n b:Nat} {s x:Operand} {v u r:AVal} {h':AHeap} (ho:o.op= .call c) (hc:c.callee= .builtin .append) (h0:c.argTypes[0]?=some t) (h1:c.argTypes[1]?=some t') (hargs:c.args.toList=[s,x]) (ht:C.P.underlying t=some (.slice e))
  (ht':(∃e',C.P.underlying t'=some (.slice e'))∨C.P.underlying t'=some .string) (hsz:tySize C.P e=some (n+1)) (hby:tyBytes C.P e=some (b+1)) (hzo:zeroOk C.P e=true) (hv:opVals C σ [s,x]=some [v,u])
  (hp:hgrow h (n+1) (b+1) v u=some (h',r)) (hr:Rel C γ0 w0 γ β σ h a w):Sim C γ0 w0 o a w (σ.put o.dst (.val r)) h':=by
 obtain⟨i,z,hi,hz,hzs⟩:=zeroOk_spec hzo;have his:=tySize_info hsz hi;have hib:=tyBytes_info hby hi;obtain⟨_,_,e0,hvs,hvx⟩:=args_two hr hv
 cases e0
 have heq:c.args.map a.eval=#[a.eval s,a.eval x]:=by apply Array.ext';simp[hargs]
 have hex:∀v' w',(Builtin.append_ #[t,t'] o.type #[a.eval s,a.eval x]).run C.P w= .ok v' w'→(execOp a.eval o).run C.P w= .ok (.value v') w':=λv' w' hrun=>by
  have:execOp a.eval o=(do pure (Next.value (←Builtin.append_ #[t,t'] o.type #[a.eval s,a.eval x]))):=by rw[←heq,←append_types (ty:=o.type) h0 h1];simp only[execOp,ho,resolve,hc];rfl
  rw[this];exact run_value' hrun
 unfold hgrow at hp
 cases hq:rowsAt h (n+1) u with
 |none=>rw[hq] at hp;cases hp
 |some rows=>
  rw[hq] at hp;obtain⟨news,hsrc,hnr,hrl⟩:=rows_src (w:=w) ht' hr.inv hvx hq;have hsrc':Src C.P i.size t' (a.eval x) rows.length news w:=by rw[his];exact hsrc
  have hnl:news.length=rows.length*(n+1):=hsrc.newsLen;have hfl:rows.flatten.length=news.length:=by rw[hnr.length]
  cases rows with
  |nil=>
   have hnn:news=[]:=List.eq_nil_of_length_eq_zero (by simpa using hnl);subst hnn
   cases v with
   |slnil=>
    cases hp
    have hse:a.eval s= .slice none 0 0:=hvs;have hrun:(Builtin.append_ #[t,t'] o.type #[a.eval s,a.eval x]).run C.P w= .ok (.slice none 0 0) w:=by rw[hse];have hl:=hsrc'.len;have hcc:=hsrc'.cells;simp only[List.length_nil] at hl hcc;rcases ht' with⟨e',hk⟩|hk<;>simp[Builtin.append_,run_underlying ht,run_underlying hk,sizeOf,typeInfo,hi,hl,hcc]
    exact Sim.value (hex _ _ hrun) (hr.put λ_ _=>rfl)
   |nosl z'=>
    simp only at hp;split at hp
    ·cases hp
     obtain⟨g,hse⟩:=(show VRel γ _ _ from hvs);have hrun:=run_append_room_src (P:=C.P) w t t' o.type e i ht hi g 0 0 0 (a.eval x) 0 [] hsrc' (by omega) (by simp) (by simp);rw[←hse] at hrun;simp only[World.setCells,Nat.add_zero] at hrun;exact Sim.value (hex _ _ hrun) (hr.put λ_ _=>⟨g,hse⟩)
    ·cases hp
   |msl id off k z'=>
    simp only at hp;split at hp
    ·cases hp
     obtain⟨g,cap,hg,hse,hkc,hz0,hszg⟩:=(show VRel γ _ _ from hvs);have hrun:=run_append_room_src (P:=C.P) w t t' o.type e i ht hi g off k cap (a.eval x) 0 [] hsrc' (by omega) (by simp) (by simp);rw[←hse] at hrun;simp only[World.setCells,Nat.add_zero] at hrun;exact Sim.value (hex _ _ hrun) (hr.put λ_ _=>⟨g,cap,hg,rfl,hkc,hz0,hszg⟩)
    ·cases hp
   |_=>cases hp
  |cons q0 rows0=>
   generalize hR:q0::rows0=rows at*;have hpos:0<rows.length:=by rw[←hR];simp
   have newrow:∀(h2:AHeap) (base:Option Addr) (k cap:Nat) (pre:List AVal) (olds:List Value),Rel C γ0 w0 γ β σ h2 a w→a.eval s= .slice base k cap→VRelV γ pre olds→olds.length=k*(n+1)→(∀q∈olds,q.oneCell'=true)→
     (Builtin.firstCells i.size k (.slice base k cap)).run C.P w.drew= .ok olds.toArray w.drew→cap<k+rows.length→(k+rows.length)*(b+1)≤maxBytes→
     Sim C γ0 w0 o a w (σ.put o.dst (.val (.msl h2.length 0 (k+rows.length) (n+1)))) (h2++[.cells (pre++rows.flatten)]):=by
    intro h2 base k cap pre olds hr2 hs hpre hol ho1 hfirst hlt hbb;have hb':k+rows.length≤maxBytes:=Nat.le_trans (Nat.le_mul_of_pos_right _ (Nat.succ_pos b)) hbb;have hgrow:=run_append_grow_src (P:=C.P) w t t' o.type e i z ht hi hz base k cap olds hfirst (a.eval x) rows.length news hsrc' hlt (by simp only[maxBytes] at hb';omega) (by rw[hib];exact growslice_fits hlt hbb);rw[←hs] at hgrow;have hge:=grownCap_ge w (k+rows.length) cap e;have hon:(olds++news).length=(k+rows.length)*(n+1):=by rw[List.length_append,hol,hnl,Nat.add_mul]
    have hpl:(pre++rows.flatten).length=(olds++news).length:=by rw[List.length_append,List.length_append,hpre.length,hfl]
    have hsize:((olds++news).toArray++Builtin.zeroCells z.cells (grownCap w (k+rows.length) cap e-(k+rows.length))).size=grownCap w (k+rows.length) cap e*(n+1):=by simp only[Array.size_append,List.size_toArray,size_zeroCells,hzs,his,hon,←Nat.add_mul];congr 1;omega
    have htk:((olds++news).toArray++Builtin.zeroCells z.cells (grownCap w (k+rows.length) cap e-(k+rows.length))).toList.take (pre++rows.flatten).length=olds++news:=by simp only[Array.toList_append];rw[hpl];exact List.take_left
    obtain⟨γ2,hle2,hm2,hr3,hsz2⟩:=hr2.drew.newObj ((olds++news).toArray++Builtin.zeroCells z.cells (grownCap w (k+rows.length) cap e-(k+rows.length))) e (0,0) (pre++rows.flatten) (.inl rfl) (by rw[htk];exact hpre.append hnr) (by rw[htk];intro q hq;exact(List.mem_append.1 hq).elim (ho1 q) (hsrc.one q))
    exact Sim.value (hex _ _ hgrow) (hr3.put λ_ _=>⟨w.heap.size,_,hm2,rfl,hge,⟨Nat.succ_pos n,grownCap_le_maxLen w _ _ _ (by simp only[maxBytes] at hb';simp only[maxLen];omega)⟩,by rw[Nat.zero_add,←hsize];exact hsz2⟩)
   cases v with
   |slnil=>
    have hse:a.eval s= .slice none 0 0:=hvs;rw[←hR] at hp;simp only at hp;rw[hR] at hp;split at hp
    ·rename_i hbb
     cases hp
     have:=newrow h none 0 0 [] [] hr hse rfl (by simp) (by simp) (run_firstCells_none _ _ _ _ _) (by omega) (by simpa using hbb);simpa using this
    ·cases hp
   |nosl z'=>
    obtain⟨g,hse⟩:=(show VRel γ _ _ from hvs);rw[←hR] at hp;simp only at hp;rw[hR] at hp;split at hp
    ·rename_i hbb
     cases hp
     have:=newrow h (some ⟨g,0,none⟩) 0 0 [] [] hr hse rfl (by simp) (by simp) (by simpa using run_firstCells_some (P:=C.P) w.drew i.size 0 ⟨g,0,none⟩ 0 0 [] (by simp) (by simp)) (by omega) (by simpa using hbb.2);simpa using this
    ·cases hp
   |msl id off k z'=>
    rw[←hR] at hp;simp only at hp;rw[hR] at hp;split at hp
    ·rename_i cs hcs;split at hp
     ·rename_i hzz;subst hzz;obtain⟨g,cap,hg,hse,hkc,hz0,hszg⟩:=(show VRel γ _ _ from hvs);obtain⟨us,e1,fr,p1,pf,p2,p3⟩:=hr.inv.cells id cs hcs g hg;obtain⟨⟨us0,e00,fr0,q1,q2⟩,_⟩:=hr.inv.sz g _ hszg;rw[p1] at q1
      cases q1
      have hul:cs.length≤us.size:=by have:=p2.length;simp at this;omega
      have hadd:∀j,(⟨g,off,none⟩:Addr).add j=⟨g,off+j,none⟩:=λj=>by unfold Addr.add;split<;>simp_all
      have froz:∀o,o<us.size→w.frozen? ⟨g,o,none⟩=false:=λo ho=>by
       simp only[World.frozen?,p1];rcases pf with rfl|hfr
       ·simp
       ·simp;omega
      have room:k+rows.length≤cap→(Builtin.append_ #[t,t'] o.type #[a.eval s,a.eval x]).run C.P w= .ok (.slice (some ⟨g,off,none⟩) (k+rows.length) cap) (w.setRow g (us.toList.take (off+k*(n+1))++news++us.toList.drop (off+k*(n+1)+news.length)).toArray)∧off+k*(n+1)+news.length≤us.size:=by
       intro hroom;have hfit:off+k*(n+1)+news.length≤us.size:=by rw[hnl,q2,Nat.add_assoc,←Nat.add_mul];exact Nat.add_le_add_left (Nat.mul_le_mul_right _ hroom) _
       have hrun:=run_append_room_src (P:=C.P) w t t' o.type e i ht hi g off k cap (a.eval x) rows.length news hsrc' hroom (λj hj=>by rw[cell_of_row w _ _ us e1 fr p1,his,Array.getElem?_eq_getElem (by omega)];rfl) (λj hj=>by rw[his];exact froz _ (by omega))
       rw[his,setCells_row news _ us w p1 hfit,←hse] at hrun;exact⟨hrun,hfit⟩
      have hk1:(k+rows.length)*(n+1)=k*(n+1)+rows.length*(n+1):=Nat.add_mul _ _ _;split at hp
      ·rename_i hin
       cases hp
       have hroom:k+rows.length≤cap:=by
        have h3:(k+rows.length)*(n+1)≤cap*(n+1):=by omega
        exact Nat.le_of_mul_le_mul_right h3 (Nat.succ_pos n)
       obtain⟨hrun,hfit⟩:=room hroom;have e2:off+(k+rows.length)*(n+1)=off+k*(n+1)+news.length:=by rw[hnl,hk1];omega
       have hcl:(cs.take (off+k*(n+1))++rows.flatten++cs.drop (off+(k+rows.length)*(n+1))).length=cs.length:=by rw[e2,List.length_append,List.length_append,List.length_take,List.length_drop,hfl];omega
       have htk:((us.toList.take (off+k*(n+1))++news++us.toList.drop (off+k*(n+1)+news.length)).toArray).toList.take (cs.take (off+k*(n+1))++rows.flatten++cs.drop (off+(k+rows.length)*(n+1))).length=
         (us.toList.take cs.length).take (off+k*(n+1))++news++(us.toList.take cs.length).drop (off+k*(n+1)+news.length):=by
        rw[hcl];simp only[List.toList_toArray];exact splice_take (by simpa using hul) (by omega) rfl
       obtain⟨hi2,ha2⟩:=write_obj hr.inv hcs hg p1 (us.toList.take (off+k*(n+1))++news++us.toList.drop (off+k*(n+1)+news.length)).toArray (cs.take (off+k*(n+1))++rows.flatten++cs.drop (off+(k+rows.length)*(n+1)))
        (by simp only[List.size_toArray,List.length_append,List.length_take,List.length_drop,Array.length_toList];omega)
        (by
         rcases pf with rfl|pf
         ·exact .inl rfl
         ·refine .inr (Nat.le_trans (Nat.le_of_eq ?_) pf);simp only[List.size_toArray,List.length_append,List.length_take,List.length_drop,Array.length_toList];omega)
        (by rw[htk,e2];exact splice_rel p2 hnr)
        (by
         rw[htk];intro q hq;rcases List.mem_append.1 hq with hq|hq
         ·rcases List.mem_append.1 hq with hq|hq
          ·exact p3 q (List.mem_of_mem_take hq)
          ·exact hsrc.one q hq
         ·exact p3 q (List.mem_of_mem_drop hq))
       exact Sim.value (hex _ _ hrun) ((hr.world hi2 ha2).put λ_ _=>⟨g,cap,hg,rfl,hroom,hz0,hszg⟩)
      ·rename_i hout;split at hp
       ·rename_i hcond;obtain⟨rfl,hkl,hbb⟩:=hcond
        cases hp
        simp only[Nat.zero_add] at*;by_cases hroom:k+rows.length≤cap
        ·obtain⟨hrun,hfit⟩:=room hroom;have hpl:(cs.take (k*(n+1))++rows.flatten).length=k*(n+1)+news.length:=by rw[List.length_append,List.length_take,hfl];omega
         have htk:((us.toList.take (k*(n+1))++news++us.toList.drop (k*(n+1)+news.length)).toArray).toList.take (cs.take (k*(n+1))++rows.flatten).length=(us.toList.take cs.length).take (k*(n+1))++news:=by
          rw[hpl];simp only[List.toList_toArray];have:(us.toList.take (k*(n+1))++news).length=k*(n+1)+news.length:=by rw[List.length_append,List.length_take,Array.length_toList];omega
          rw[←this,List.take_left,List.take_take,Nat.min_eq_left hkl]
         obtain⟨γ2,hle2,hm2,hr2,hsz2⟩:=hr.regrow hcs hg p1 (by rw[hszg,q2]) (us.toList.take (k*(n+1))++news++us.toList.drop (k*(n+1)+news.length)).toArray (cs.take (k*(n+1))++rows.flatten)
          (by simp only[List.size_toArray,List.length_append,List.length_take,List.length_drop,Array.length_toList];omega)
          (by
           rcases pf with rfl|pf
           ·exact .inl rfl
           ·refine .inr (Nat.le_trans (Nat.le_of_eq ?_) pf);simp only[List.size_toArray,List.length_append,List.length_take,List.length_drop,Array.length_toList];omega)
          (by rw[htk];exact(p2.take _).append hnr)
          (by
           rw[htk];intro q hq;rcases List.mem_append.1 hq with hq|hq
           ·exact p3 q (List.mem_of_mem_take hq)
           ·exact hsrc.one q hq)
         exact Sim.value (hex _ _ hrun) (hr2.put λ_ _=>⟨g,cap,hm2,rfl,hroom,hz0,by rw[hsz2,q2];simp⟩)
        ·have hol:((us.toList.take cs.length).take (k*(n+1))).length=k*(n+1):=by simp;omega
         have:=newrow (h.set id .dead) (some ⟨g,0,none⟩) k cap (cs.take (k*(n+1))) ((us.toList.take cs.length).take (k*(n+1))) (hr.kill id) hse (p2.take _) hol (λq hq=>p3 q (List.mem_of_mem_take hq))
          (by
           rw[his];exact run_firstCells_some w.drew _ _ _ _ _ _ hol (λj y hj=>by
            rw[hadd];show w.cell? _=_;rw[cell_of_row w _ _ us e1 fr p1];rw[List.getElem?_take] at hj;split at hj
            ·rw[List.getElem?_take] at hj;split at hj
             ·simpa using hj
             ·cases hj
            ·cases hj)) (by omega) hbb
         simpa using this
       ·cases hp
     ·cases hp
    ·cases hp
   |_=>rw[←hR] at hp;cases hp
end
end Go.Am
end
section
namespace Go.Am
open Go
section
variable {C:Ctx} {γ0 γ γ':Gh} {w0 w w':World} {β:Nat→Nat} {σ:Env} {h:AHeap} {a:Act} {fid:FuncId} {ops:List Oper}
theorem putCells (hi:Inv γ h w) {id g off:Nat} {cs avs:List AVal} {news:List Value} (hcs:h[id]?=some (.cells cs)) (hg:γ.mu id=some g) (hv:VRelV γ avs news) (h1:∀u∈news,u.oneCell'=true) (hl:off+avs.length≤cs.length):
  ∃w',(storeCells ⟨g,off,none⟩ news).run C.P w= .ok () w'∧Inv γ (h.set id (.cells (cs.take off++avs++cs.drop (off+avs.length)))) w'∧Acc γ w γ w':=by
 obtain⟨us,e,fr,hw,pf,p5,p6⟩:=hi.cells id cs hcs g hg;have hnl:news.length=avs.length:=hv.length;have hlt:cs.length≤us.size:=by have:=p5.length;simp at this;omega
 have hs:=run_storeCells_cells (P:=C.P) g off news 0 w (λj hj=>by
  rw[cell_of_row w _ _ us e fr hw,Nat.add_zero,Array.getElem?_eq_getElem (by omega)];rfl) (λj hj=>by
  simp only[World.frozen?,hw];rcases pf with rfl|hfr
  ·simp
  ·simp;omega) h1
 rw[Nat.add_zero,setCells_row _ off us w hw (by omega)] at hs;have hcl:(cs.take off++avs++cs.drop (off+avs.length)).length=cs.length:=by simp;omega
 have htk:((us.toList.take off++news++us.toList.drop (off+news.length)).toArray).toList.take (cs.take off++avs++cs.drop (off+avs.length)).length=(us.toList.take cs.length).take off++news++(us.toList.take cs.length).drop (off+news.length):=by rw[hcl];simp only[List.toList_toArray];exact splice_take (by simpa using hlt) (by omega) rfl
 obtain⟨hi',ha⟩:=write_obj hi hcs hg hw (us.toList.take off++news++us.toList.drop (off+news.length)).toArray (cs.take off++avs++cs.drop (off+avs.length))
  (by simp only[List.size_toArray,List.length_append,List.length_take,List.length_drop,Array.length_toList];omega)
  (by
   rcases pf with rfl|pf
   ·exact .inl rfl
   ·refine .inr (Nat.le_trans (Nat.le_of_eq ?_) pf);simp only[List.size_toArray,List.length_append,List.length_take,List.length_drop,Array.length_toList];omega)
  (by rw[htk,hnl];exact splice_rel p5 hv)
  (by
   rw[htk];intro q hq;rcases List.mem_append.1 hq with hq|hq
   ·rcases List.mem_append.1 hq with hq|hq
    ·exact p6 q (List.mem_of_mem_take hq)
    ·exact h1 q hq
   ·exact p6 q (List.mem_of_mem_drop hq))
 exact⟨_,hs,hi',ha⟩
theorem copy_types {t t' ty:TypeId} {ts:Array TypeId} {xs:Array Value} (h0:ts[0]?=some t) (h1:ts[1]?=some t'):Builtin.copy_ ts ty xs=Builtin.copy_ #[t,t'] ty xs:=by simp only[Builtin.copy_,h0];rfl
theorem run_copy {P:Program} {t t' ty e:TypeId} {i:TypeInfo} (ht:P.underlying t=some (.slice e)) (hi:P.info? e=some i) {x:Value} {n:Nat} {news:List Value} (hs:Src P i.size t' x n news w) {base:Option Addr} {k cap:Nat} (hk:n≤k)
  (hst:∀ad,base=some ad→(storeCells ad news).run P w= .ok () w') (hno:base=none→w'=w):(Builtin.copy_ #[t,t'] ty #[.slice base k cap,x]).run P w= .ok (.int .i64 n) w':=by
 have hl:=hs.len w;have hc:=hs.cells;have hm:=Nat.min_eq_left hk
 cases base with
 |none=>
  cases hno rfl
  simp[Builtin.copy_,run_underlying ht,hl,hc,sizeOf,typeInfo,hi,hm,goInt]
 |some ad=>have h2:=hst ad rfl;simp[Builtin.copy_,run_underlying ht,hl,hc,sizeOf,typeInfo,hi,hm,goInt,h2]
theorem sim_copy {o:Oper} {c:Call} {t t' e:TypeId} {n:Nat} {s x:Operand} {v u r:AVal} {h':AHeap} (ho:o.op= .call c) (hc:c.callee= .builtin .copy) (h0:c.argTypes[0]?=some t) (h1:c.argTypes[1]?=some t') (hargs:c.args.toList=[s,x]) (ht:C.P.underlying t=some (.slice e))
  (ht':(∃e',C.P.underlying t'=some (.slice e'))∨C.P.underlying t'=some .string) (hsz:tySize C.P e=some (n+1)) (hv:opVals C σ [s,x]=some [v,u])
  (hp:hcopy h (n+1) v u=some (h',r)) (hr:Rel C γ0 w0 γ β σ h a w):Sim C γ0 w0 o a w (σ.put o.dst (.val r)) h':=by
 obtain⟨_,_,e0,hvs,hvx⟩:=args_two hr hv
 cases e0
 have heq:c.args.map a.eval=#[a.eval s,a.eval x]:=by apply Array.ext';simp[hargs]
 have hex:∀v' w',(Builtin.copy_ #[t,t'] o.type #[a.eval s,a.eval x]).run C.P w= .ok v' w'→(execOp a.eval o).run C.P w= .ok (.value v') w':=λv' w' hrun=>by
  have:execOp a.eval o=(do pure (Next.value (←Builtin.copy_ #[t,t'] o.type #[a.eval s,a.eval x]))):=by rw[←heq,←copy_types (ty:=o.type) h0 h1];simp only[execOp,ho,resolve,hc];rfl
  rw[this];exact run_value' hrun
 cases hi:C.P.info? e with
 |none=>simp[tySize,hi] at hsz
 |some i=>
 have his:=tySize_info hsz hi;unfold hcopy at hp
 cases hq:rowsAt h (n+1) u with
 |none=>rw[hq] at hp;cases hp
 |some rows=>
  rw[hq] at hp;obtain⟨news,hsrc,hnr,hrl⟩:=rows_src (w:=w) ht' hr.inv hvx hq;have hsrc':Src C.P i.size t' (a.eval x) rows.length news w:=by rw[his];exact hsrc
  have hnl:news.length=rows.length*(n+1):=hsrc.newsLen;have hfl:rows.flatten.length=news.length:=by rw[hnr.length]
  simp only at hp;split at hp
  ·split at hp
   ·rename_i h0'
    cases hp
    have hse:a.eval s= .slice none 0 0:=hvs;have hrun:=run_copy (t:=t) (ty:=o.type) (w:=w) (w':=w) ht hi hsrc' (base:=none) (k:=0) (cap:=0) (by omega) (λ_ e=>by cases e) (λ_=>rfl);rw[←hse] at hrun;rw[h0'] at hrun;exact Sim.value (hex _ _ hrun) (hr.put λ_ _=>rfl)
   ·cases hp
  ·rename_i id off k z;split at hp
   ·rename_i cs hcs;split at hp
    ·rename_i hcond;obtain⟨rfl,hrk,hlen⟩:=hcond
     cases hp
     obtain⟨g,cap,hg,hse,hkc,hz0,hszg⟩:=(show VRel γ _ _ from hvs);have hm:=Nat.mul_le_mul_right (n+1) hrk;obtain⟨w',hst,hi',ha'⟩:=putCells (C:=C) (off:=off) hr.inv hcs hg hnr hsrc.one (by omega);have hrun:=run_copy (t:=t) (ty:=o.type) (w:=w) (w':=w') ht hi hsrc' (base:=some ⟨g,off,none⟩) (k:=k) (cap:=cap) hrk (λ_ e=>by cases e;exact hst) (λe=>by cases e);rw[←hse] at hrun;rw[show rows.length*(n+1)=rows.flatten.length by rw[hfl,hnl]];exact Sim.value (hex _ _ hrun) ((hr.world hi' ha').put λ_ _=>rfl)
    ·cases hp
   ·cases hp
  ·cases hp
theorem clear_types {t ty:TypeId} {ts:Array TypeId} {xs:Array Value} (h0:ts[0]?=some t):Builtin.clear_ ts ty xs=Builtin.clear_ #[t] ty xs:=by simp only[Builtin.clear_,h0];rfl
theorem sim_clear {o:Oper} {c:Call} {t e:TypeId} {n:Nat} {s:Operand} {v z r:AVal} {h':AHeap} (ho:o.op= .call c) (hc:c.callee= .builtin .clear) (h0:c.argTypes[0]?=some t) (hargs:c.args.toList=[s]) (ht:C.P.underlying t=some (.slice e))
  (hsz:tySize C.P e=some (n+1)) (hz:tyZero C.P e=some z) (hv:opVals C σ [s]=some [v]) (hp:hclear h (n+1) z.cells v=some (h',r)) (hr:Rel C γ0 w0 γ β σ h a w):Sim C γ0 w0 o a w (σ.put o.dst .undef) h':=by
 obtain⟨_,e0,hvs⟩:=args_one hr hv
 cases e0
 have heq:c.args.map a.eval=#[a.eval s]:=by apply Array.ext';simp[hargs]
 have hex:∀v' w',(Builtin.clear_ #[t] o.type #[a.eval s]).run C.P w= .ok v' w'→(execOp a.eval o).run C.P w= .ok (.value v') w':=λv' w' hrun=>by
  have:execOp a.eval o=(do pure (Next.value (←Builtin.clear_ #[t] o.type #[a.eval s]))):=by rw[←heq,←clear_types (ty:=o.type) h0];simp only[execOp,ho,resolve,hc];rfl
  rw[this];exact run_value' hrun
 unfold hclear at hp;split at hp
 ·cases hp
  have hse:a.eval s= .slice none 0 0:=hvs;have hrun:(Builtin.clear_ #[t] o.type #[a.eval s]).run C.P w= .ok (.tuple #[]) w:=by rw[hse];simp[Builtin.clear_,run_underlying ht]
  exact Sim.value (hex _ _ hrun) (hr.put λ_ _=>trivial)
 ·rename_i id off k z';split at hp
  ·rename_i cs hcs;split at hp
   ·rename_i hcond;obtain⟨rfl,hzl,hlen⟩:=hcond
    cases hp
    obtain⟨g,cap,hg,hse,hkc,hz0,hszg⟩:=(show VRel γ _ _ from hvs);obtain⟨zv,hzv,hzr⟩:=run_zeroValue hz;obtain⟨q1,q2⟩:=cells_rel (γ:=γ) (ofConst_rel hzv) (by omega);have hzs:zv.cells.size=n+1:=by have:=q1.length;simp at this;omega
    have hfl:(List.replicate k z.cells).flatten.length=k*(n+1):=by rw[flatten_length (z:=n+1) (λr hr=>by rw[List.eq_of_mem_replicate hr,hzl]),List.length_replicate]
    have hzc:∀(j:Nat) (u:Value),(Builtin.zeroCells zv.cells k).toList[j]?=some u→j<k*(n+1)∧zv.cells.toList[j%(n+1)]?=some u:=by
     intro j u hj;have hjl:j<k*(n+1):=by have:=(List.getElem?_eq_some_iff.1 hj).1;simpa[size_zeroCells,hzs] using this
     refine⟨hjl,?_⟩;have hmod:j%(n+1)<zv.cells.size:=by rw[hzs];exact Nat.mod_lt _ (Nat.succ_pos n)
     simp only[Builtin.zeroCells,Array.toList_map,List.getElem?_map] at hj;have hrange:(Array.range (k*zv.cells.size)).toList[j]?=some j:=by simp[hzs,hjl]
     rw[hrange] at hj;simp only[Option.map_some,Option.some.injEq] at hj;rw[hzs] at hj;rw[←hj];simp[hmod]
    have hV:VRelV γ (List.replicate k z.cells).flatten (Builtin.zeroCells zv.cells k).toList:=by refine VRelV.of_get (by simp only[Array.length_toList,size_zeroCells,hzs,hfl]) λj x u hx hu=>?_;obtain⟨hjl,hju⟩:=hzc j u hu;rw[flatten_replicate_get z.cells _ _ (by rw[hzl];exact hjl),hzl] at hx;obtain⟨u',hu',hxr⟩:=q1.get hx;rw[hju] at hu';cases hu';exact hxr
    obtain⟨w',hst,hi',ha'⟩:=putCells (C:=C) (off:=off) hr.inv hcs hg hV (λu hu=>by obtain⟨j,hj⟩:=List.getElem?_of_mem hu;exact q2 u (List.mem_of_getElem? (hzc j u hj).2)) (by omega)
    have hrun:(Builtin.clear_ #[t] o.type #[a.eval s]).run C.P w= .ok (.tuple #[]) w':=by
     rw[hse]
     cases k with
     |zero=>
      have e1:(Builtin.zeroCells zv.cells 0).toList=[]:=by simp[Builtin.zeroCells]
      rw[e1] at hst;have:w'=w:=by have h2:(storeCells ⟨g,off,none⟩ []).run C.P w= .ok () w:=rfl;rw[h2] at hst;cases hst;rfl
      rw[this];simp[Builtin.clear_,run_underlying ht]
     |succ k=>simp[Builtin.clear_,run_underlying ht,hzr,hst]
    rw[show k*(n+1)=(List.replicate k z.cells).flatten.length from hfl.symm];exact Sim.value (hex _ _ hrun) ((hr.world hi' ha').put λ_ _=>trivial)
   ·cases hp
  ·cases hp
 ·cases hp
theorem sim_deep {o:Oper} {t e:TypeId} {n:Nat} {x:Operand} {lo hi:Option Operand} {v r:AVal} {as:List AVal} {h':AHeap} (ho:o.op= .slice t x lo hi none) (ht:C.P.underlying t=some (.slice e)) (hsz:tySize C.P e=some (n+1))
  (hv:opVals C σ (x::(lo.toList++hi.toList))=some (v::as)) (hp:hdeep h (n+1) lo.isSome hi.isSome v as=some (h',r)) (hr:Rel C γ0 w0 γ β σ h a w):Sim C γ0 w0 o a w (σ.put o.dst (.val r)) h':=by
 have hvv:=opVals_rel hr hv;obtain⟨u,us,e1,hx,hrest⟩:=hvv;simp only[List.map_cons,List.cons.injEq] at e1;obtain⟨rfl,rfl⟩:=e1;unfold hdeep at hp;split at hp
 ·rename_i id off k z;split at hp
  ·rename_i cs hcs;split at hp
   ·rename_i hcond;obtain⟨rfl,hhi,hoff⟩:=hcond;obtain⟨g,cap,hg,hse,hkc,hz0,hszg⟩:=(show VRel γ _ _ from hx)
    cases hb:boundsOf lo.isSome hi.isSome ((cs.length-off)/(n+1)) as with
    |none=>rw[hb] at hp;cases hp
    |some lh=>
     obtain⟨l,q⟩:=lh;rw[hb] at hp;simp only[Option.bind_some] at hp;split at hp
     ·rename_i hlt
      cases hp
      obtain⟨us,e1,fr,p1,pf,p2,p3⟩:=hr.inv.cells id cs hcs g hg;obtain⟨⟨us0,e00,fr0,q1,q2⟩,_⟩:=hr.inv.sz g _ hszg;rw[p1] at q1
      cases q1
      have hul:cs.length≤us.size:=by have:=p2.length;simp at this;omega
      have htop:(cs.length-off)/(n+1)≤cap:=by refine Nat.div_le_of_le_mul ?_;rw[Nat.mul_comm];omega
      have e2:∀y:Option Operand,(y.map a.eval).isSome=y.isSome:=λy=>by cases y<;>rfl
      have e3:(lo.map a.eval).toList++(hi.map a.eval).toList=(lo.toList++hi.toList).map a.eval:=by cases lo<;>cases hi<;>rfl
      rw[←e2 lo,←e2 hi] at hb;obtain⟨k1,k2,k3⟩:=run_bounds (P:=C.P) (w:=w) (isSlice:=true) hb (by rw[e3];exact hrest) htop;have hsame:Instr.sliceBounds true k cap (lo.map a.eval) (hi.map a.eval) none=Instr.sliceBounds true ((cs.length-off)/(n+1)) cap (lo.map a.eval) (hi.map a.eval) none:=by
       cases hi with
       |none=>cases hhi
       |some y=>rfl
      have ht':C.P.underlying t=some (.slice (C.P.elem t)):=by simp[Program.elem,ht]
      have he:C.P.elem t=e:=by simp[Program.elem,ht]
      have hrun:(Instr.sliceAt t (a.eval x) (lo.map a.eval) (hi.map a.eval) none).run C.P w= .ok (.slice (some ⟨g,off+l*(n+1),none⟩) (q-l) (cap-l)) w:=by rw[hse,run_sliceAt_slice w t _ _ _ _ ht',run_slice_any w t _ _ _ ht',hsame,k1,he,Result.andThen_ok,run_sizeOf hsz];show Result.ok (Value.slice (if cap=l then some ⟨g,off,none⟩ else Option.map (λq:Addr=>q.add (l*(n+1))) (some ⟨g,off,none⟩)) (q-l) (cap-l)) w=_;rw[if_neg (by omega)];simp only[Option.map_some];unfold Addr.add;split<;>simp_all
      refine Sim.value (by simp only[execOp,ho];exact run_value' hrun) (hr.put λ_ _=>⟨g,cap-l,hg,rfl,by omega,⟨hz0.1,Nat.le_trans (Nat.sub_le _ _) hz0.2⟩,?_⟩);rw[hszg,Nat.add_assoc,←Nat.add_mul,Nat.add_sub_cancel' (by omega)]
     ·cases hp
   ·cases hp
  ·cases hp
 ·cases hp
theorem sim_chk3 {o:Oper} {t e:TypeId} {n:Nat} {x lo hi mx:Operand} {args:List AVal} (ho:o.op= .slice t x (some lo) (some hi) (some mx)) (ht:C.P.underlying t=some (.slice e)) (hsz:tySize C.P e=some (n+1))
  (hv:opVals C σ [x,lo,hi,mx]=some args) (hp:chk3Of (n+1) args=true) (hr:Rel C γ0 w0 γ β σ h a w):Sim C γ0 w0 o a w (σ.put o.dst .undef) h:=by
 have hvv:=opVals_rel hr hv;have ht':C.P.underlying t=some (.slice (C.P.elem t)):=by simp[Program.elem,ht]
 have he:C.P.elem t=e:=by simp[Program.elem,ht]
 have fin:∀(base:Option Addr) (len cap:Nat) (kl kr km:IntKind) (l r m:Int),a.eval x= .slice base len cap→a.eval lo= .int kl l→a.eval hi= .int kr r→a.eval mx= .int km m→0≤l→l≤r→r≤m→m≤cap→Sim C γ0 w0 o a w (σ.put o.dst .undef) h:=by
  intro base len cap kl kr km l r m e1 e2 e3 e4 h1 h2 h3 h4;have hrun:∃v,(Instr.sliceAt t (a.eval x) (some (a.eval lo)) (some (a.eval hi)) (some (a.eval mx))).run C.P w= .ok v w:=by
   have hm0:0≤m:=by omega
   have hr0:0≤r:=by omega
   have b1:∀code,(Instr.sliceBound (.int km m) cap code).run C.P w= .ok m.toNat w:=λcode=>by simp[Instr.sliceBound,asIntOf,hm0,h4]
   have b2:∀code,(Instr.sliceBound (.int kr r) m.toNat code).run C.P w= .ok r.toNat w:=λcode=>by simp[Instr.sliceBound,asIntOf,hr0,Int.toNat_of_nonneg hm0,h3]
   have b3:∀code,(Instr.sliceBound (.int kl l) r.toNat code).run C.P w= .ok l.toNat w:=λcode=>by simp[Instr.sliceBound,asIntOf,h1,Int.toNat_of_nonneg hr0,h2]
   rw[e1,e2,e3,e4];simp[Instr.sliceAt,Instr.slice,run_underlying ht,Instr.sliceBounds,b1,b2,b3,run_sizeOf hsz]
  obtain⟨v,hrun⟩:=hrun;exact Sim.value (by simp only[execOp,ho];exact run_value' hrun) (hr.put λ_ _=>trivial)
 unfold chk3Of at hp;split at hp
 ·rename_i s _ l _ r _ m;obtain⟨u1,us1,f1,g1,u2,us2,f2,g2,u3,us3,f3,g3,u4,us4,f4,g4,f5⟩:=hvv;subst f5;simp only[List.map_cons,List.map_nil] at f1;subst f4;subst f3;subst f2;simp only[List.cons.injEq,and_true] at f1;obtain⟨rfl,rfl,rfl,rfl⟩:=f1;split at hp
  ·simp only[Bool.and_eq_true,decide_eq_true_eq] at hp;obtain⟨⟨⟨⟨_,h1⟩,h2⟩,h3⟩,h4⟩:=hp;obtain⟨g,cap,hg,hse,hkc,_⟩:=(show VRel γ _ _ from g1);exact fin _ _ _ _ _ _ _ _ _ hse (rel_int g2) (rel_int g3) (rel_int g4) h1 h2 h3 (by omega)
  ·simp only[Bool.and_eq_true,decide_eq_true_eq] at hp;obtain⟨⟨⟨⟨_,h1⟩,h2⟩,h3⟩,h4⟩:=hp;obtain⟨ad,cap,hse,hkc,_⟩:=(show VRel γ _ _ from g1);exact fin _ _ _ _ _ _ _ _ _ hse (rel_int g2) (rel_int g3) (rel_int g4) h1 h2 h3 (by omega)
  ·cases hp
 ·cases hp
theorem sim_mkif {o:Oper} {t:TypeId} {x:Operand} {v:AVal} {u:TypeDesc} (ho:o.op= .makeInterface t x) (ht:C.P.underlying t=some u) (hn:∀i,u≠ .interface i) (hv:opVals C σ [x]=some [v]) (hr:Rel C γ0 w0 γ β σ h a w):Sim C γ0 w0 o a w (σ.put o.dst (.val (.iface t v))) h:=by
 obtain⟨_,e0,hvs⟩:=args_one hr hv
 cases e0
 have hrun:(Instr.makeInterface t (a.eval x)).run C.P w= .ok (.iface t (a.eval x)) w:=by cases u<;>simp_all [Instr.makeInterface,run_underlying ht]
 exact Sim.value (by simp only[execOp,ho];exact run_value' hrun) (hr.put λ_ _=>⟨_,rfl,hvs⟩)
theorem findI_rel {n:Int}:∀{es:List (AVal×AVal)} {l:List MapEntry} {i:Nat} {r:Option (Nat×AVal)},MRel γ es l→mfindI n es i=some r→
  match r with
  |none=>Instr.findNow (.int .i64) (.int .i64 n) l i=some none
  |some (j,v)=>∃(e:MapEntry),Instr.findNow (.int .i64) (.int .i64 n) l i=some (some (j,e.val))∧VRel γ v e.val∧i≤j∧l[j-i]?=some e∧e.key= .int .i64 n
 |[],l,i,r,hM,hf=>by rw[show l=[] from hM];cases hf;rfl
 |(k,v)::es,l,i,r,hM,hf=>by
  obtain⟨e,l',rfl,h1,h2,h3⟩:=hM
  cases k with
  |int q t=>
   by_cases hq:q= .i64
   ·subst hq;simp only[mfindI] at hf;have hk:e.key= .int .i64 t:=h1;split at hf
    ·rename_i hst;subst hst
     cases hf
     exact⟨e,by simp[Instr.findNow,hk,Instr.sameNow],h2,Nat.le_refl _,by simp,hk⟩
    ·rename_i hst;have hbeq:(n==t)=false:=by simpa using hst
     have ih:=findI_rel h3 hf
     cases r with
     |none=>simpa[Instr.findNow,hk,Instr.sameNow,hbeq] using ih
     |some p=>
      obtain⟨j,v2⟩:=p;obtain⟨e2,q1,q2,q3,q4,q5⟩:=ih;refine⟨e2,by simpa[Instr.findNow,hk,Instr.sameNow,hbeq] using q1,q2,by omega,?_,q5⟩
      grind
   ·exfalso
    cases q<;>first|exact hq rfl|(simp[mfindI] at hf)
  |_=>simp[mfindI] at hf
theorem sim_getI {o:Oper} {t kt e:TypeId} {m k:Operand} {vm vk z r:AVal} {ok:Bool} {h':AHeap} (ho:o.op= .lookup t m k ok) (ht:C.P.underlying t=some (.map kt e)) (hk:C.P.underlying kt=some (.int .i64)) (hz:tyZero C.P e=some z) (ha:opVals C σ [m,k]=some [vm,vk]) (hm:hgetI h z ok vm vk=some (h',r)) (hr:Rel C γ0 w0 γ β σ h a w):
  Sim C γ0 w0 o a w (σ.put o.dst (.val r)) h':=by
 obtain⟨_,_,e0,h1,h2⟩:=args_two hr ha
 cases e0
 obtain⟨zv,hzv,hzr⟩:=run_zeroValue hz;have fin:∀(es:Array MapEntry) (q:Option (Nat×AVal)),(Instr.lookup t (a.eval m) (a.eval k) ok).run C.P w=(lookEnd kt e (a.eval k) ok es).run C.P w→
   ∀n,a.eval k= .int .i64 n→(match q with|none=>Instr.findNow (.int .i64) (.int .i64 n) es.toList 0=some none|some (j,v)=>∃(e:MapEntry),Instr.findNow (.int .i64) (.int .i64 n) es.toList 0=some (some (j,e.val))∧VRel γ v e.val∧0≤j∧es.toList[j-0]?=some e∧e.key= .int .i64 n)→
   getFin z ok q=r→Sim C γ0 w0 o a w (σ.put o.dst (.val r)) h:=by
  intro es q hes n hks hq hre;have hck:(Instr.checkKey es.isEmpty 10000 kt (.int .i64 n)).run C.P w= .ok () w:=MapKept.run_checkKey (k:= .int .i64 n) hk (by simp[MapKept.IsKey]) es.isEmpty 9999;have hrun:∃v,(Instr.lookup t (a.eval m) (a.eval k) ok).run C.P w= .ok v w∧VRel γ r v:=by
   cases q with
   |none=>
    refine⟨if ok then .tuple #[zv,.bool false] else zv,?_,?_⟩
    ·rw[hes,hks];unfold lookEnd;simp only[Sem.run_bind,Result.andThen_ok,hck,MapKept.run_findKey hk hq,hzr,Sem.run_bind,Sem.run_pure]
    ·rw[←hre];have hvz:=ofConst_rel (γ:=γ) hzv
     cases ok with
     |true=>exact⟨_,rfl,_,_,rfl,hvz,_,_,rfl,rfl,rfl⟩
     |false=>exact hvz
   |some p=>
    obtain⟨j,v⟩:=p;obtain⟨en,q1,q2,_⟩:=hq;refine⟨if ok then .tuple #[en.val,.bool true] else en.val,?_,?_⟩
    ·rw[hes,hks];unfold lookEnd;simp only[Sem.run_bind,Result.andThen_ok,hck,MapKept.run_findKey hk q1,Sem.run_bind,Sem.run_pure]
    ·rw[←hre]
     cases ok with
     |true=>exact⟨_,rfl,_,_,rfl,q2,_,_,rfl,rfl,rfl⟩
     |false=>exact q2
  obtain⟨v,hrun,hvr⟩:=hrun;exact Sim.value (by simp only[execOp,ho];exact run_value' hrun) (hr.put λ_ _=>hvr)
 unfold hgetI at hm;split at hm
 ·rename_i n
  cases hm
  exact fin #[] none (by rw[show a.eval m=_ from h1];simp only[Instr.lookup,lookEnd,Sem.run_bind,run_underlying ht,Result.andThen_ok,Sem.run_pure];rfl) n h2 rfl rfl
 ·rename_i id n;obtain⟨b,hb,hme⟩:=h1;split at hm
  ·rename_i es hes;obtain⟨ents,clock,hw,hM,_⟩:=hr.inv.map id es hes b hb
   cases hf:mfindI n es 0 with
   |none=>rw[hf] at hm;cases hm
   |some q=>
    rw[hf] at hm;simp only[Option.map_some,Option.some.injEq,Prod.mk.injEq] at hm;obtain⟨rfl,hm⟩:=hm;refine fin ents q (by rw[hme];simp only[Instr.lookup,lookEnd,Sem.run_bind,run_underlying ht,MapKept.run_getObj_map hw,Result.andThen_ok,Sem.run_pure];rfl) n h2 ?_ ?_
    ·have:=findI_rel (i:=0) hM hf
     cases q with
     |none=>exact this
     |some p=>exact this
    ·exact hm
  ·cases hm
 ·cases hm
theorem MRel.snoc {k v:AVal} {e:MapEntry} (hk:VRel γ k e.key) (hv:VRel γ v e.val):∀{es:List (AVal×AVal)} {l:List MapEntry},MRel γ es l→MRel γ (es++[(k,v)]) (l++[e])
 |[],l,hM=>by rw[show l=[] from hM];exact⟨e,[],rfl,hk,hv,rfl⟩
 |(k',v')::es,l,hM=>by obtain⟨e',l',rfl,h1,h2,h3⟩:=hM;exact⟨e',_,rfl,h1,h2,MRel.snoc hk hv h3⟩
theorem MRel.length:∀{es:List (AVal×AVal)} {l:List MapEntry},MRel γ es l→l.length=es.length
 |[],l,hM=>by rw[show l=[] from hM];rfl
 |(k',v')::es,l,hM=>by obtain⟨e',l',rfl,h1,h2,h3⟩:=hM;simp[MRel.length h3]
theorem MRel.modify {v:AVal} {u:Value} (hv:VRel γ v u):∀{es:List (AVal×AVal)} {l:List MapEntry} {j:Nat} {k v0:AVal},MRel γ es l→es[j]?=some (k,v0)→MRel γ (es.set j (k,v)) (l.modify j λe=>{e with val:=u})
 |[],l,j,k,v0,hM,hj=>by simp at hj
 |(k',v')::es,l,j,k,v0,hM,hj=>by
  obtain⟨e',l',rfl,h1,h2,h3⟩:=hM
  cases j with
  |zero=>cases hj;exact⟨{e' with val:=u},l',by simp,h1,hv,h3⟩
  |succ j=>exact⟨e',l'.modify j _,by simp,h1,h2,MRel.modify hv h3 (by simpa using hj)⟩
theorem modify_same {es:Array MapEntry} {j:Nat} {e:MapEntry} {k:Value} (hj:es[j]?=some e) (hk:e.key=k):(es.modify j λe=>{e with key:=k})=es:=by
 apply Array.ext_getElem?;intro i;rw[Array.getElem?_modify];split
 ·rename_i hi;subst hi;rw[hj];simp[←hk]
 ·rfl
theorem entry_core {o:Oper} {t kt e:TypeId} {m k:Operand} {kA z r:AVal} {kV:Value} {d:TypeDesc} {h':AHeap} {id:Nat} {es:List (AVal×AVal)} {f:Option (Option (Nat×AVal))} (ho:o.op= .mapEntry t m k) (ht:C.P.underlying t=some (.map kt e)) (hk:C.P.underlying kt=some d) (hik:MapKept.IsKey d kV) (hz:tyZero C.P e=some z)
  (h1:VRel γ (.map (some id)) (a.eval m)) (hke:a.eval k=kV) (hkA:VRel γ kA kV) (hes:h[id]?=some (.map es))
  (hq:∀(l:List MapEntry) q,MRel γ es l→f=some q→match q with
   |none=>Instr.findNow d kV l 0=some none
   |some (j,v)=>∃(e:MapEntry),Instr.findNow d kV l 0=some (some (j,e.val))∧VRel γ v e.val∧0≤j∧l[j-0]?=some e∧e.key=kV)
  (hm:(f.map λr=>match r with
   |some (i,v)=>(h,AVal.tuple [v,.int .i64 i])
   |none=>(h.set id (.map (es++[(kA,z)])),.tuple [z,.int .i64 es.length]))=some (h',r)) (hr:Rel C γ0 w0 γ β σ h a w):
  Sim C γ0 w0 o a w (σ.put o.dst (.val r)) h':=by
 obtain⟨zv,hzv,hzr⟩:=run_zeroValue hz;obtain⟨b,hb,hme⟩:=h1;obtain⟨ents,clock,hw,hM,hB⟩:=hr.inv.map id es hes b hb;have hck:(Instr.checkKey false 10000 kt kV).run C.P w= .ok () w:=MapKept.run_checkKey (k:=kV) hk hik false 9999
 cases f with
 |none=>cases hm
 |some q=>
  have hq:=hq ents.toList q hM rfl
  cases q with
  |none=>
   simp only[Option.map_some,Option.some.injEq,Prod.mk.injEq] at hm;obtain⟨rfl,rfl⟩:=hm;have hrun:(Instr.mapEntry t (a.eval m) (a.eval k)).run C.P w= .ok (.tuple #[zv,goInt clock]) {w with heap:=w.heap.setIfInBounds b (.map (ents.push {key:=kV,val:=zv,born:=clock}) (clock+1))}:=by rw[hme,hke];simp[Instr.mapEntry,run_underlying ht,MapKept.run_getObj_map hw,hck,MapKept.run_findKey hk hq,hzr,MapKept.run_setObj_map _ hw,Result.andThen]
   obtain⟨hi,hacc⟩:=write_map (es':=es++[(kA,z)]) (ents':=ents.push {key:=kV,val:=zv,born:=clock}) (clock':=clock+1) hr.inv hes hb hw ⟨by have:=MRel.snoc (γ:=γ) (k:=kA) (v:=z) (e:={key:=kV,val:=zv,born:=clock}) hkA (ofConst_rel hzv) hM;simpa using this,born_push hB⟩
   refine Sim.value (by simp only[execOp,ho];exact run_value' hrun) ((hr.world hi hacc).put λ_ _=>⟨_,rfl,zv,_,rfl,ofConst_rel hzv,_,[],rfl,?_,rfl⟩);rw[hB.1];have:=hM.length;simp only[Array.length_toList] at this;rw[←this];rfl
  |some p=>
   obtain⟨j,v⟩:=p;simp only[Option.map_some,Option.some.injEq,Prod.mk.injEq] at hm;obtain⟨rfl,rfl⟩:=hm;obtain⟨en,q1,q2,_,q4,q5⟩:=hq;have hj:ents[j]?=some en:=by simpa using q4
   have hborn:=hB.2 j en hj;have hset:w.heap.setIfInBounds b (.map ents clock)=w.heap:=by
    apply Array.ext_getElem?;intro i;rw[Array.getElem?_setIfInBounds];split
    ·rename_i hi;subst hi;have hlt:=(Array.getElem?_eq_some_iff.1 hw).1;rw[if_pos hlt,hw]
    ·rfl
   have hrun:(Instr.mapEntry t (a.eval m) (a.eval k)).run C.P w= .ok (.tuple #[en.val,goInt j]) w:=by rw[hme,hke];simp[Instr.mapEntry,run_underlying ht,MapKept.run_getObj_map hw,hck,MapKept.run_findKey hk q1,hj,q5,MapKept.run_keyThatStays (d:=d) (k:=kV) hik,MapKept.run_setObj_map _ hw,Result.andThen,hborn,modify_same hj q5,hset]
   exact Sim.value (by simp only[execOp,ho];exact run_value' hrun) (hr.put λ_ _=>⟨_,rfl,_,_,rfl,q2,_,[],rfl,rfl,rfl⟩)
theorem sim_entryI {o:Oper} {t kt e:TypeId} {m k:Operand} {vm vk z r:AVal} {h':AHeap} (ho:o.op= .mapEntry t m k) (ht:C.P.underlying t=some (.map kt e)) (hk:C.P.underlying kt=some (.int .i64)) (hz:tyZero C.P e=some z) (ha:opVals C σ [m,k]=some [vm,vk]) (hm:hentryI h z vm vk=some (h',r)) (hr:Rel C γ0 w0 γ β σ h a w):
  Sim C γ0 w0 o a w (σ.put o.dst (.val r)) h':=by
 obtain⟨_,_,e0,h1,h2⟩:=args_two hr ha
 cases e0
 unfold hentryI at hm;split at hm
 ·rename_i id n;split at hm
  ·rename_i es hes;exact entry_core (kA:= .int .i64 n) ho ht hk (by simp[MapKept.IsKey]) hz h1 h2 rfl hes (λl q hM hf=>findI_rel hM hf) hm hr
  ·cases hm
 ·cases hm
theorem findS_rel {s:Bytes}:∀{es:List (AVal×AVal)} {l:List MapEntry} {i:Nat} {r:Option (Nat×AVal)},MRel γ es l→mfindS s es i=some r→
  match r with
  |none=>Instr.findNow .string (.string ⟨⟨s⟩⟩) l i=some none
  |some (j,v)=>∃(e:MapEntry),Instr.findNow .string (.string ⟨⟨s⟩⟩) l i=some (some (j,e.val))∧VRel γ v e.val∧i≤j∧l[j-i]?=some e∧e.key= .string ⟨⟨s⟩⟩
 |[],l,i,r,hM,hf=>by rw[show l=[] from hM];cases hf;rfl
 |(k,v)::es,l,i,r,hM,hf=>by
  obtain⟨e,l',rfl,h1,h2,h3⟩:=hM
  cases k with
  |str t=>
   simp only[mfindS] at hf;have hk:e.key= .string ⟨⟨t⟩⟩:=h1;split at hf
   ·rename_i hst;subst hst
    cases hf
    exact⟨e,by simp[Instr.findNow,hk,Instr.sameNow,bytes_same],h2,Nat.le_refl _,by simp,hk⟩
   ·rename_i hst;have ih:=findS_rel h3 hf;have hne:=bytes_ne hst
    cases r with
    |none=>simpa[Instr.findNow,hk,Instr.sameNow,hne] using ih
    |some p=>
     obtain⟨j,v2⟩:=p;obtain⟨e2,q1,q2,q3,q4,q5⟩:=ih;refine⟨e2,by simpa[Instr.findNow,hk,Instr.sameNow,hne] using q1,q2,by omega,?_,q5⟩
     grind
  |_=>simp[mfindS] at hf
theorem sim_entryS {o:Oper} {t kt e:TypeId} {m k:Operand} {vm vk z r:AVal} {h':AHeap} (ho:o.op= .mapEntry t m k) (ht:C.P.underlying t=some (.map kt e)) (hk:C.P.underlying kt=some .string) (hz:tyZero C.P e=some z) (ha:opVals C σ [m,k]=some [vm,vk]) (hm:hentryS h z vm vk=some (h',r)) (hr:Rel C γ0 w0 γ β σ h a w):
  Sim C γ0 w0 o a w (σ.put o.dst (.val r)) h':=by
 obtain⟨_,_,e0,h1,h2⟩:=args_two hr ha
 cases e0
 unfold hentryS at hm;split at hm
 ·rename_i id n;split at hm
  ·rename_i es hes;exact entry_core (kA:= .str n) ho ht hk (by simp[MapKept.IsKey]) hz h1 h2 rfl hes (λl q hM hf=>findS_rel hM hf) hm hr
  ·cases hm
 ·cases hm
theorem sim_putI {o:Oper} {t kt e:TypeId} {m k x:Operand} {vm vk vx r:AVal} {h':AHeap} (ho:o.op= .insert t m k x∨o.op= .mapUpdate t m k x) (hd:o.dst=none) (ht:C.P.underlying t=some (.map kt e)) (hk:C.P.underlying kt=some (.int .i64)) (ha:opVals C σ [m,k,x]=some [vm,vk,vx])
  (hm:hputI h vm vk vx=some (h',r)) (hr:Rel C γ0 w0 γ β σ h a w):Sim C γ0 w0 o a w σ h':=by
 obtain⟨h1,h2,h3⟩:=args_three hr ha;have hex:∀w',(Instr.mapUpdate t (a.eval m) (a.eval k) (a.eval x)).run C.P w= .ok () w'→(execOp a.eval o).run C.P w= .ok .skip w':=λw' hrun=>by rcases ho with ho|ho<;>simp[execOp,ho,hrun]
 unfold hputI at hm;split at hm
 ·rename_i id n;obtain⟨b,hb,hme⟩:=h1;have hke:=h2;split at hm
  ·rename_i es hes;obtain⟨ents,clock,hw,hM,hB⟩:=hr.inv.map id es hes b hb;have hck:(Instr.checkKey false 10000 kt (.int .i64 n)).run C.P w= .ok () w:=MapKept.run_checkKey (k:= .int .i64 n) hk (by simp[MapKept.IsKey]) false 9999;split at hm
   ·rename_i hf
    cases hm
    have hq:=findI_rel (i:=0) hM hf;have hrun:(Instr.mapUpdate t (a.eval m) (a.eval k) (a.eval x)).run C.P w= .ok () {w with heap:=w.heap.setIfInBounds b (.map (ents.push {key:= .int .i64 n,val:=a.eval x,born:=clock}) (clock+1))}:=by rw[hme,hke];simp[Instr.mapUpdate,run_underlying ht,MapKept.run_getObj_map hw,hck,MapKept.run_findKey hk hq,MapKept.run_setObj_map _ hw,Result.andThen]
    obtain⟨hi,hacc⟩:=write_map (es':=es++[(.int .i64 n,vx)]) (ents':=ents.push {key:= .int .i64 n,val:=a.eval x,born:=clock}) (clock':=clock+1) hr.inv hes hb hw ⟨by have:=MRel.snoc (γ:=γ) (k:= .int .i64 n) (v:=vx) (e:={key:= .int .i64 n,val:=a.eval x,born:=clock}) rfl h3 hM;simpa using this,born_push hB⟩
    exact Sim.skip (hex _ hrun) (by rw[hd];exact hr.world hi hacc)
   ·cases hm
  ·cases hm
 ·cases hm
theorem findIdx_born {es:Array MapEntry} (hB:∀(i:Nat) (e:MapEntry),es[i]?=some e→e.born=i) {j:Nat} {e:MapEntry} (hj:es[j]?=some e):es.findIdx? (λe=>(e.born:Int)==(j:Int))=some j:=by
 rw[Array.findIdx?_eq_some_iff_getElem];obtain⟨hl,he⟩:=Array.getElem?_eq_some_iff.1 hj;refine⟨hl,?_,λi hi=>?_⟩
 ·grind
 ·have:=hB i _ (Array.getElem?_eq_getElem (by omega))
  grind
theorem sim_storeI {o:Oper} {t:TypeId} {m s x:Operand} {vm vs vx r:AVal} {h':AHeap} (ho:o.op= .entryStore t m s x) (hd:o.dst=none) (ha:opVals C σ [m,s,x]=some [vm,vs,vx]) (hm:hstoreI h vm vs vx=some (h',r)) (hr:Rel C γ0 w0 γ β σ h a w):Sim C γ0 w0 o a w σ h':=by
 obtain⟨h1,h2,h3⟩:=args_three hr ha;have hex:∀w',(Instr.entryStore t (a.eval m) (a.eval s) (a.eval x)).run C.P w= .ok () w'→(execOp a.eval o).run C.P w= .ok .skip w':=λw' hrun=>by simp[execOp,ho,hrun]
 unfold hstoreI at hm;split at hm
 ·rename_i id n;obtain⟨b,hb,hme⟩:=h1;have hse:=h2;split at hm
  ·rename_i es hes;split at hm
   ·rename_i hn;split at hm
    ·rename_i kk v0 hk
     cases hm
     obtain⟨ents,clock,hw,hM,hB⟩:=hr.inv.map id es hes b hb;have hlen:=hM.length;have hlt:=(List.getElem?_eq_some_iff.1 hk).1;have hje:∃en,ents[n.toNat]?=some en:=⟨ents[n.toNat]'(by simp at hlen;omega),Array.getElem?_eq_getElem _⟩;obtain⟨en,hj⟩:=hje;have hnn:((n.toNat:Nat):Int)=n:=by omega
     have hidx:=findIdx_born hB.2 hj;rw[hnn] at hidx;have hrun:(Instr.entryStore t (a.eval m) (a.eval s) (a.eval x)).run C.P w= .ok () {w with heap:=w.heap.setIfInBounds b (.map (ents.modify n.toNat λe=>{e with val:=a.eval x}) clock)}:=by rw[hme,hse];simp[Instr.entryStore,MapKept.run_getObj_map hw,asInt,asIntOf,hidx,MapKept.run_setObj_map _ hw,Result.andThen]
     obtain⟨hi,hacc⟩:=write_map (es':=es.set n.toNat (kk,vx)) (ents':=ents.modify n.toNat λe=>{e with val:=a.eval x}) (clock':=clock) hr.inv hes hb hw ⟨by have:=MRel.modify h3 hM hk;simpa using this,born_modify hB λ_=>rfl⟩
     exact Sim.skip (hex _ hrun) (by rw[hd];exact hr.world hi hacc)
    ·cases hm
   ·cases hm
  ·cases hm
 ·cases hm
end
end Go.Am
end
