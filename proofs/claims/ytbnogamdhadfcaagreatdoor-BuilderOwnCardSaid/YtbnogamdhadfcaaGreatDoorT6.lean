/- Lemmas -/
import Derived.Test.YtbnogamdhadfcaaGreatDoorT5
import Derived.MapKept
set_option linter.unusedVariables false
set_option linter.unusedSimpArgs false
section
namespace Go.Am
open Go
section
variable{C:FJ}{γ0 γ γ':Gh}{w0 w w':World}{β:Nat->Nat}{σ:BG}{h:Ag}{a:Act}{fid:FuncId}{ops:List Oper}
theorem aA{s t:As}(h:s≠t):((⟨⟨s⟩⟩:ByteArray)==⟨⟨t⟩⟩)=false:=by
 refine Bool.eq_false_iff.2 λhc=>h ?_;have:=(MapKept.bytes_beq _ _).1 hc;injection this with this
 injection this with this
theorem UJ(s:As):((⟨⟨s⟩⟩:ByteArray)==⟨⟨s⟩⟩)=true:=(MapKept.bytes_beq _ _).2 rfl
theorem aB{s:As}:∀{es:List (Aa×Aa)} {l:List MapEntry} {i:Nat} {r:Option Aa},KZ γ es l->Ue s es=some r->
  match r with
  |none=>Instr.findNow .string (.string ⟨⟨s⟩⟩) l i=some none
  |some v=>∃(j:Nat) (e:MapEntry),Instr.findNow .string (.string ⟨⟨s⟩⟩) l i=some (some (i+j,e.val))/\BH γ v e.val
 |[],l,i,r,hM,hf=>by rw[show l=[] from hM];cases hf;rfl
 |(k,v)::es,l,i,r,hM,hf=>by
  obtain⟨e,l',rfl,h1,h2,h3⟩:=hM;unfold Ue at hf;split at hf;·rename_i Jo;cases Jo
  .rename_i t v' TQ Jo;cases Jo;have hk:e.key= .string ⟨⟨t⟩⟩:=h1;split at hf;·rename_i hst;subst hst;cases hf;exact⟨0,e,by simp[Instr.findNow,hk,Instr.sameNow,UJ],h2⟩
   .rename_i hst;have ih:=aB (i:=i+1) h3 hf;have hne:=aA hst;cases r with
    |none=>simpa[Instr.findNow,hk,Instr.sameNow,hne] using ih
    |some v2=>obtain⟨j,e2,q1,q2⟩:=ih;exact⟨j+1,e2,by simp only[Instr.findNow,hk,Instr.sameNow,hne];rw[q1];congr 3;omega,q2⟩
  .cases hf
theorem kT{s:As}{v:Aa}{u:Value}(hv:BH γ v u):∀{es TQ:List (Aa×Aa)} {l:List MapEntry} {i:Nat},KZ γ es l->Nw s v es=some TQ->
  (Instr.findNow .string (.string ⟨⟨s⟩⟩) l i=some none/\∀born,KZ γ TQ (l++[{key:= .string ⟨⟨s⟩⟩,val:=u,born}]))\/
  ∃j e,Instr.findNow .string (.string ⟨⟨s⟩⟩) l i=some (some (i+j,e.val))/\l[j]?=some e/\e.key= .string ⟨⟨s⟩⟩/\KZ γ TQ (l.modify j λe=>{e with key:= .string ⟨⟨s⟩⟩,val:=u})
 |[],TQ,l,i,hM,hp=>by rw[show l=[] from hM];cases hp;exact .inl ⟨rfl,λborn=>⟨_,[],rfl,rfl,hv,rfl⟩⟩
 |(k,v0)::es,TQ,l,i,hM,hp=>by
  obtain⟨e,l',rfl,h1,h2,h3⟩:=hM;unfold Nw at hp;split at hp;·rename_i Jo;cases Jo
  .rename_i t v' es2 Jo;cases Jo;have hk:e.key= .string ⟨⟨t⟩⟩:=h1;split at hp;·rename_i hst;subst hst;cases hp;exact .inr ⟨0,e,by simp[Instr.findNow,hk,Instr.sameNow,UJ],rfl,hk,_,l',rfl,rfl,hv,h3⟩
   .rename_i hst;have hne:=aA hst;cases hq:Nw s v es with
    |none=>rw[hq] at hp;cases hp
    |some es3=>
     rw[hq] at hp;cases hp;rcases kT hv (i:=i+1) h3 hq with⟨q1,q2⟩|⟨j,e2,q1,q2,q3,q4⟩
     .exact .inl ⟨by simpa[Instr.findNow,hk,Instr.sameNow,hne] using q1,λborn=>⟨e,_,rfl,h1,h2,q2 born⟩⟩
     .exact .inr ⟨j+1,e2,by simp only[Instr.findNow,hk,Instr.sameNow,hne];rw[q1];congr 3;omega,q2,q3,e,_,by simp,h1,h2,q4⟩
  .cases hp
theorem Xi{es:Array MapEntry}{clock:Nat}{k v:Value}(h:clock=es.size/\∀(i:Nat) (e:MapEntry),es[i]?=some e->e.born=i):
  clock+1=(es.push {key:=k,val:=v,born:=clock}).size/\∀(i:Nat) (e:MapEntry),(es.push {key:=k,val:=v,born:=clock})[i]?=some e->e.born=i:=by
 obtain⟨rfl,h⟩:=h;refine⟨by simp,λi e he=>?_⟩;rw[Array.getElem?_push] at he;split at he;·rename_i hi;cases he;exact hi.symm
 .exact h i e he
theorem SH{es:Array MapEntry}{clock j:Nat}{f:MapEntry->MapEntry}(h:clock=es.size/\∀(i:Nat) (e:MapEntry),es[i]?=some e->e.born=i)(hf:∀e,(f e).born=e.born):
  clock=(es.modify j f).size/\∀(i:Nat) (e:MapEntry),(es.modify j f)[i]?=some e->e.born=i:=by
 refine⟨by simpa using h.1,λi e he=>?_⟩;rw[td] at he;split at he
 .cases hx:es[i]? with
  |none=>rw[hx] at he;cases he
  |some x=>rw[hx] at he;cases he;rw[hf];exact h.2 i x hx
 .exact h.2 i e he
theorem OG(hi:Gq γ h w){g id:Nat}{es TQ:List (Aa×Aa)}(Wi:h[id]?=some (.map es))(hg:γ.mu id=some g){o:Obj}{ents':Array MapEntry}{clock':Nat}(hw:w.heap[g]?=some o)(hr:uS γ TQ ents' clock'):
  Gq γ (h.set id (.map TQ)) {w with heap:=w.heap.setIfInBounds g (.map ents' clock')}/\J7 γ w γ {w with heap:=w.heap.setIfInBounds g (.map ents' clock')}:=by
 obtain⟨g',p,Rr⟩:=hi.KY id _ Wi (by simp);rw[hg] at p;cases p;obtain⟨L8,hother⟩:=MapKept.heap_set (o':= .map ents' clock') hw;have uniq:∀E0 x,h[E0]?=some x->x≠ .CH->γ.mu E0=some g->E0=id:=λE0 x hx yi hm=>by obtain⟨b',p,q⟩:=hi.KY E0 x hx yi;rw[hm] at p;cases p;rw[Rr] at q;cases q;rfl
 constructor
 .refine⟨λb o v hb=>?_,λE0 y Ha hy=>?_,λE0 cs hc b hb=>?_,λE0 es2 hc b hb=>?_,λE0 b hb=>by simpa using hi.mu E0 b hb,λb x hx=>?_,λb n hb=>?_⟩;rotate_left 5
  .obtain⟨⟨eH,e2,uU,p,q⟩,r⟩:=hi.sz b n hb;have hne:b≠g:=λhe=>by subst he;obtain⟨ents0,clock0,p0,_⟩:=hi.map id es Wi b hg;rw[p] at p0;cases p0
   exact⟨⟨eH,e2,uU,by rw[hother b hne];exact p,q⟩,r⟩
  .obtain⟨p,q,r⟩:=hi.HD b o v hb;have:b≠g:=λhe=>by subst he;rw[Rr] at r;rcases r with r|⟨_,_,_,r,_⟩<;>cases r
   exact⟨by rw[Cw (w:=w) (hother b this)];exact p,q,r⟩
  .by_cases he:E0=id;·subst he;exact⟨g,hg,Rr⟩
   .rw[Af (λx=>he x.symm)] at Ha;exact hi.KY E0 y Ha hy
  .by_cases he:E0=id;·subst he;rw[AG (hi.mu _ _ hg)] at hc;cases hc
   .rw[Af (λx=>he x.symm)] at hc;have SB:b≠g:=λhx=>by subst hx;exact he (uniq E0 _ hc (by simp) hb)
    obtain⟨eH,e2,uU,p,pf,q,r⟩:=hi.cells E0 cs hc b hb;exact⟨eH,e2,uU,by rw[hother b SB];exact p,pf,q,r⟩
  .by_cases he:E0=id;·subst he;rw[hg] at hb;cases hb;rw[AG (hi.mu _ _ hg)] at hc;cases hc;exact⟨ents',clock',L8,hr⟩
   .rw[Af (λx=>he x.symm)] at hc;have SB:b≠g:=λhx=>by subst hx;exact he (uniq E0 _ hc (by simp) hb)
    obtain⟨Dj,clock,p,q⟩:=hi.map E0 es2 hc b hb;exact⟨Dj,clock,by rw[hother b SB];exact p,q⟩
  .have:=hi.own b x hx;simpa using this
 .refine⟨.refl _,by simp,rfl,rfl,rfl,λb hb hn=>⟨?_,rfl⟩⟩;exact hother b (λhe=>by subst he;exact hn id Rr)
theorem UK(hr:CT C γ0 w0 γ β σ h a w){x y z:Operand}{u1 u2 u3:Aa}(ha:Br C σ [x,y,z]=some [u1,u2,u3]):BH γ u1 (a.eval x)/\BH γ u2 (a.eval y)/\BH γ u3 (a.eval z):=by obtain⟨_,_,_,e,h1,h2,h3⟩:=(Dx hr ha).SC;simp only[Bm,DR,Hu,NF] at e;obtain⟨rfl,rfl,rfl⟩:=e;exact⟨h1,h2,h3⟩
theorem aC{o:Oper}{t kt e:TypeId}{m k x:Operand}{vm vk vx:Aa}{h':Ag}(ho:o.op= .insert t m k x\/o.op= .mapUpdate t m k x)(hd:o.dst=none)(ht:C.P.underlying t=some (.map kt e))(hk:C.P.underlying kt=some .string)(ha:Br C σ [m,k,x]=some [vm,vk,vx])
  (hm:Sv h vm vk vx=some h') (hr:CT C γ0 w0 γ β σ h a w):FM C γ0 w0 o a w σ h':=by
 obtain⟨h1,h2,h3⟩:=UK hr ha;have ME:∀w',(Instr.mapUpdate t (a.eval m) (a.eval k) (a.eval x)).run C.P w= .ok () w'->(execOp a.eval o).run C.P w= .ok .skip w':=λw' AV=>by rcases ho with ho|ho<;>simp[execOp,ho,AV]
 unfold Sv at hm;split at hm
 .rename_i id s;obtain⟨b,hb,vK⟩:=h1;have hke:a.eval k= .string ⟨⟨s⟩⟩:=h2;split at hm
  .rename_i es Wi;cases hp:Nw s vx es with
   |none=>rw[hp] at hm;cases hm
   |some TQ=>
    rw[hp] at hm;cases hm;obtain⟨Dj,clock,hw,hM,hB⟩:=hr.DD.map id es Wi b hb;have vL:(Instr.checkKey false 10000 kt (.string ⟨⟨s⟩⟩)).run C.P w= .ok () w:=MapKept.run_checkKey (k:= .string ⟨⟨s⟩⟩) hk (by simp[MapKept.IsKey]) false 9999;rcases kT h3 (i:=0) hM hp with⟨q1,q2⟩|⟨j,en,q1,q2,q3,q4⟩
    .have AV:(Instr.mapUpdate t (a.eval m) (a.eval k) (a.eval x)).run C.P w= .ok () {w with heap:=w.heap.setIfInBounds b (.map (Dj.push {key:= .string ⟨⟨s⟩⟩,val:=a.eval x,born:=clock}) (clock+1))}:=by rw[vK,hke];simp[Instr.mapUpdate,run_underlying ht,MapKept.run_getObj_map hw,vL,MapKept.run_findKey hk q1,MapKept.run_setObj_map _ hw,Result.andThen]
     obtain⟨hi,JE⟩:=OG (TQ:=TQ) (ents':=Dj.push {key:= .string ⟨⟨s⟩⟩,val:=a.eval x,born:=clock}) (clock':=clock+1) hr.DD Wi hb hw ⟨by simpa using q2 clock,Xi hB⟩;exact FM.skip (ME _ AV) (by rw[hd];exact hr.world hi JE)
    .have hj:Dj[j]?=some en:=by simpa using q2
     rw[BJ] at q1;have AV:(Instr.mapUpdate t (a.eval m) (a.eval k) (a.eval x)).run C.P w= .ok () {w with heap:=w.heap.setIfInBounds b (.map (Dj.modify j λe=>{e with key:= .string ⟨⟨s⟩⟩,val:=a.eval x}) clock)}:=by rw[vK,hke];simp[Instr.mapUpdate,run_underlying ht,MapKept.run_getObj_map hw,vL,MapKept.run_findKey hk q1,hj,q3,MapKept.run_keyThatStays (d:= .string) (k:= .string ⟨⟨s⟩⟩) (by simp[MapKept.IsKey]),MapKept.run_setObj_map _ hw,Result.andThen]
     obtain⟨hi,JE⟩:=OG (TQ:=TQ) (ents':=Dj.modify j λe=>{e with key:= .string ⟨⟨s⟩⟩,val:=a.eval x}) (clock':=clock) hr.DD Wi hb hw ⟨by simpa using q4,SH hB λ_=>rfl⟩;exact FM.skip (ME _ AV) (by rw[hd];exact hr.world hi JE)
  .cases hm
 .cases hm
theorem vM{o:Oper}{t:TypeId}(ho:o.op= .makeMap t none)(hr:CT C γ0 w0 γ β σ h a w):FM C γ0 w0 o a w (σ.put o.dst (.val (.map (some h.length)))) (h++[.map []]):=by
 obtain⟨hi,ha⟩:=FZ hr.DD (.map #[] 0) (.map []) none (.inr ⟨rfl,rfl,rfl⟩);have AV:(Instr.makeMap t none).run C.P w= .ok (.map (some w.heap.size)) (w.alloc (.map #[] 0)):=by simp[Instr.makeMap]
 exact FM.value (by simp only[execOp,ho];exact Dr AV) ((hr.world hi ha).put λ_ _=>⟨w.heap.size,by simp[Gh.BL],rfl⟩)
def JX(key elem:TypeId)(index:Value)(commaOk:Bool)(es:Array MapEntry):Sem Value:=do
 Instr.checkKey es.isEmpty 10000 key index
 let(v,ok)<-match<-Instr.findKey key index es.toList with
  |some (_,v)=>pure (v,true)
  |none=>pure (<-zeroValue elem,false)
 pure (if commaOk then .tuple #[v,.bool ok] else v)
theorem vN{o:Oper}{t kt e:TypeId}{m k:Operand}{vm vk z r:Aa}{ok:Bool}(ho:o.op= .lookup t m k ok)(ht:C.P.underlying t=some (.map kt e))(hk:C.P.underlying kt=some .string)(hz:GO C.P e=some z)(ha:Br C σ [m,k]=some [vm,vk])(hm:Sw h z ok vm vk=some r)(hr:CT C γ0 w0 γ β σ h a w):
  FM C γ0 w0 o a w (σ.put o.dst (.val r)) h:=by
 obtain⟨_,_,e0,h1,h2⟩:=Fe hr ha;cases e0;obtain⟨zv,tU,yv⟩:=Hh hz;have GM:∀(es:Array MapEntry) (q:Option Aa),(Instr.lookup t (a.eval m) (a.eval k) ok).run C.P w=(JX kt e (a.eval k) ok es).run C.P w->
   ∀s,a.eval k= .string ⟨⟨s⟩⟩->(match q with|none=>Instr.findNow .string (.string ⟨⟨s⟩⟩) es.toList 0=some none|some v=>∃(j:Nat) (e:MapEntry),Instr.findNow .string (.string ⟨⟨s⟩⟩) es.toList 0=some (some (0+j,e.val))/\BH γ v e.val)->
   (match q with|some v=>if ok then Aa.tuple [v,.bool true] else v|none=>if ok then .tuple [z,.bool false] else z)=r->FM C γ0 w0 o a w (σ.put o.dst (.val r)) h:=by
  intro es q Wi s fy hq Wg;have vL:(Instr.checkKey es.isEmpty 10000 kt (.string ⟨⟨s⟩⟩)).run C.P w= .ok () w:=MapKept.run_checkKey (k:= .string ⟨⟨s⟩⟩) hk (by simp[MapKept.IsKey]) es.isEmpty 9999;have AV:∃v,(Instr.lookup t (a.eval m) (a.eval k) ok).run C.P w= .ok v w/\BH γ r v:=by
   cases q with
   |none=>
    refine⟨if ok then .tuple #[zv,.bool false] else zv,?_,?_⟩;·rw[Wi,fy];unfold JX;simp only[Sem.run_bind,Result.andThen_ok,vL,MapKept.run_findKey hk hq,yv,Sem.run_bind,Sem.run_pure]
    .rw[<-Wg];have hvz:=EU (γ:=γ) tU;cases ok with
     |true=>exact⟨_,rfl,_,_,rfl,hvz,_,_,rfl,rfl,rfl⟩
     |false=>exact hvz
   |some v=>
    obtain⟨j,en,q1,q2⟩:=hq;refine⟨if ok then .tuple #[en.val,.bool true] else en.val,?_,?_⟩;·rw[Wi,fy];unfold JX;simp only[Sem.run_bind,Result.andThen_ok,vL,MapKept.run_findKey hk q1,Sem.run_bind,Sem.run_pure]
    .rw[<-Wg];cases ok with
     |true=>exact⟨_,rfl,_,_,rfl,q2,_,_,rfl,rfl,rfl⟩
     |false=>exact q2
  obtain⟨v,AV,kR⟩:=AV;exact FM.value (by simp only[execOp,ho];exact Dr AV) (hr.put λ_ _=>kR)
 unfold Sw at hm;cases hf:Uf h vm vk with
 |none=>rw[hf] at hm;cases hm
 |some q=>
  rw[hf] at hm;simp only[BT,BF] at hm;unfold Uf at hf;split at hf;·rename_i s;cases hf;exact GM #[] none (by rw[show a.eval m=_ from h1];simp only[Instr.lookup,JX,Sem.run_bind,run_underlying ht,Result.andThen_ok,Sem.run_pure];rfl) s h2 rfl hm
  .rename_i id s;obtain⟨b,hb,vK⟩:=h1;split at hf;·rename_i es Wi;obtain⟨Dj,clock,hw,hM,_⟩:=hr.DD.map id es Wi b hb;exact GM Dj q (by rw[vK];simp only[Instr.lookup,JX,Sem.run_bind,run_underlying ht,MapKept.run_getObj_map hw,Result.andThen_ok,Sem.run_pure];rfl) s h2 (aB (i:=0) hM hf) hm
   .cases hf
  .cases hf
theorem fC{size:Nat}{v:Aa}(h:NL size v=true):v= .slnil\/v= .sl size []:=by
 unfold NL at h;split at h;·exact .inl rfl
 .exact .inr (by simpa using h)
 .cases h
theorem qS{o:Oper}{c:Call}{t t' e:TypeId}{n b:Nat}{s x:Operand}{v u r:Aa}{h':Ag}(ho:o.op= .call c)(hc:c.callee= .builtin .append)(h0:c.argTypes[0]?=some t)(h1:c.argTypes[1]?=some t')(Ej:c.args.toList=[s,x])(ht:C.P.underlying t=some (.slice e))
  (Fp:(∃e',C.P.underlying t'=some (.slice e'))\/C.P.underlying t'=some .string) (hsz:BQ C.P e=some (n+1)) (vF:Jb C.P e=some (b+1)) (E4:J5 C σ s=true) (dS:LN C.P e=true) (hv:Br C σ [s,x]=some [v,u])
  (hp:IG h (n+1) (b+1) v u=some (h',r)) (hr:CT C γ0 w0 γ β σ h a w):FM C γ0 w0 o a w ((σ.Dn (CZ σ s)).put o.dst (.val r)) h':=by
 obtain⟨i,z,hi,hz,ZF⟩:=Ly dS;have O5:=IW hsz hi;have yq:=KG vF hi;obtain⟨_,_,e0,hvs,fA⟩:=Fe hr hv;cases e0;have fj:Eu C σ s=some v:=by
  unfold Br at hv;split at hv;·rename_i p ps q1 q2;cases hv;exact q1
  .cases hv
 have Ij:NL (n+1) v=true/\((∃Au,HF (n+1) (b+1) .slnil u=some (.sl (n+1) Au)/\Au≠[]/\u= .sl (n+1) Au/\Au.length*(b+1)<=AT/\h'=h++[.cells Au.flatten]/\r= .Ck h.length 0 Au.length (n+1))\/((u= .slnil\/∃z',u= .sl z' [])/\h'=h/\r=v)):=by
  unfold IG at hp;split at hp
  .rename_i z' Au;split at hp
   .rename_i Xg;refine⟨Xg,?_⟩;split at hp;·cases hp;exact .inr ⟨.inr ⟨_,rfl⟩,rfl,rfl⟩
    .rename_i hne;split at hp
     .rename_i HJ;cases hp;obtain⟨rfl,hb⟩:=HJ;refine .inl ⟨Au,?_,hne,rfl,hb,rfl,rfl⟩;cases Au with
      |nil=>exact absurd rfl hne
      |cons q Au=>simp only[HF,DP,BO];rw[if_pos hb]
     .cases hp
   .cases hp
  .split at hp;·rename_i Xg;cases hp;exact⟨Xg,.inr ⟨.inl rfl,rfl,rfl⟩⟩
   .cases hp
  .cases hp
 obtain⟨Xg,Ij⟩:=Ij;obtain⟨γ1,DY,Jv,Du,hT⟩:=NV hr E4 fj (σ.Dn (CZ σ s)).length none;have Jo:c.args.map a.eval=#[a.eval s,a.eval x]:=by apply Jm;simp[Ej]
 have ME:∀v' w',(Builtin.append_ #[t,t'] o.type #[a.eval s,a.eval x]).run C.P w= .ok v' w'->(execOp a.eval o).run C.P w= .ok (.value v') w':=λv' w' AV=>by
  have:execOp a.eval o=(do pure (Next.value (<-Builtin.append_ #[t,t'] o.type #[a.eval s,a.eval x]))):=by rw[<-Jo,<-MT (ty:=o.type) h0 h1];simp only[execOp,ho,resolve,hc];rfl
  rw[this];exact Dr AV
 have kU:(a.eval s= .slice none 0 0/\v= .slnil)\/∃g cap us e1,a.eval s= .slice (some ⟨g,0,none⟩) 0 cap/\v= .sl (n+1) []/\γ1.own g=some (.tail (σ.Dn (CZ σ s)).length none 0)/\w0.heap.size<=g/\w.heap[g]?=some (.cells us e1 (0,0))/\us.size=cap*(n+1)/\cap<=maxLen:=by
  rcases hT with hT|⟨g,k,cap,us,e1,zz,rr,qP,Ku,Rr,hB,hg,RG,fm,hm,hzz⟩
  .rw[hT] at Du;exact .inl ⟨Du,hT⟩
  .rcases fC Xg with hv0|hv0
   .rw[hv0] at qP;cases qP
   .rw[hv0] at qP;cases qP;have hk:k=0:=by rw[hv0,Ku] at Du;obtain⟨ad0,cap0,eZ,_⟩:=Du;simp only[Value.slice.injEq] at eZ;exact eZ.2.1
    subst hk;exact .inr ⟨g,cap,us,e1,Ku,hv0,by simpa using Rr,hB,hg,RG,hm⟩
 rcases Ij with⟨Au,GP,hne,hux,Pg,rfl,rfl⟩|⟨hux,rfl,rfl⟩
 .obtain⟨rows',news,SG,JD,uc,dT⟩:=kS (w:=w) Fp hr.DD fA GP;have aD:rows'=Au:=by
   cases rows' with
   |nil=>simp[DP] at SG
   |cons q rows'=>
    simp only[DP] at SG;split at SG;·cases SG;rfl
    .cases SG
  subst aD;have vG:=Bb.mono DY _ _ uc;have KB:Src C.P i.size t' (a.eval x) rows'.length news w:=by rw[O5];exact JD
  have Nx:news.length=rows'.length*(n+1):=JD.newsLen;have Gv:rows'.flatten.length=news.length:=by rw[uc.length]
  have hpos:0<rows'.length:=FW.2 hne;have SB:rows'.length<=AT:=Bt (O2 _ (De b)) Pg;have Fs:∀(base:Option Addr) (cap:Nat),a.eval s= .slice base 0 cap->(Builtin.firstCells i.size 0 (.slice base 0 cap)).run C.P w.drew= .ok #[] w.drew->cap<rows'.length->
    FM C γ0 w0 o a w ((σ.Dn (CZ σ s)).put o.dst (.val (.Ck h.length 0 rows'.length (n+1)))) (h++[.cells rows'.flatten]):=by
   intro base cap hs hfirst hlt;have Fl:=run_append_grow_src (P:=C.P) w t t' o.type e i z ht hi hz base 0 cap [] hfirst (a.eval x) rows'.length news KB (by omega) (by simp only[AT] at SB;omega) (by rw[yq,BJ];exact growslice_fits hlt Pg);rw[<-hs,BJ] at Fl;have DT:=grownCap_ge w rows'.length cap e;have SI:(([]++news).toArray++Builtin.zeroCells z.cells (grownCap w rows'.length cap e-rows'.length)).toList.take rows'.flatten.length=news:=by simp only[Jy,BD];rw[Gv];exact GY
   have vO:(([]++news).toArray++Builtin.zeroCells z.cells (grownCap w rows'.length cap e-rows'.length)).size=grownCap w rows'.length cap e*(n+1):=by simp only[Qh,B7,size_zeroCells,ZF,O5,BD,Nx,<-BC];congr 1;omega
   obtain⟨γ2,Z6,Tl,K5,QC⟩:=Jv.drew.newObj (([]++news).toArray++Builtin.zeroCells z.cells (grownCap w rows'.length cap e-rows'.length)) e (0,0) rows'.flatten (.inl rfl) (by rw[SI];exact vG) (by rw[SI];exact JD.one);exact FM.value (ME _ _ Fl) (K5.put λ_ _=>⟨w.heap.size,_,Tl,rfl,DT,⟨De n,grownCap_le_maxLen w _ _ _ (by simp only[AT] at SB;simp only[maxLen];omega)⟩,by rw[BJ,<-vO];exact QC⟩)
  rcases kU with⟨Ku,rfl⟩|⟨g,cap,us,e1,Ku,rfl,Rr,hB,hg,RG,f_⟩
  .exact Fs none 0 Ku (run_firstCells_none _ _ _ _ _) hpos
  .by_cases hroom:rows'.length<=cap
   .have hfit:news.length<=us.size:=by rw[Nx,RG];exact EA _ hroom
    have AV:=run_append_room_src (P:=C.P) w t t' o.type e i ht hi g 0 0 cap (a.eval x) rows'.length news KB (by omega) (λj hj=>by rw[cell_of_row w _ _ us e1 (0,0) hg,O5,C3 (by omega)];rfl) (λj hj=>frozen_of_row w _ _ us e1 hg)
    rw[dd,BJ,BJ,Ei news 0 us w hg (by omega),<-Ku] at AV;have SI:((us.toList.take 0++news++us.toList.drop (0+news.length)).toArray).toList.take rows'.flatten.length=news:=by simp only[JQ,BD];rw[Gv];exact GY
    obtain⟨γ2,Z6,Tl,K5,QC⟩:=Jv.aDq Rr hB hg (us.toList.take 0++news++us.toList.drop (0+news.length)).toArray rows'.flatten (by rw[SI];exact vG) (by rw[SI];exact JD.one);exact FM.value (ME _ _ AV) (K5.put λ_ _=>⟨g,cap,Tl,rfl,hroom,⟨De n,f_⟩,by rw[QC,BJ,<-RG];simp;omega⟩)
   .exact Fs (some ⟨g,0,none⟩) cap Ku (by simpa using run_firstCells_some (P:=C.P) w.drew i.size 0 ⟨g,0,none⟩ 0 cap [] (by simp) (by simp)) (by omega)
 .have JD:Src C.P i.size t' (a.eval x) 0 [] w:=by
   rcases hux with rfl|⟨z',rfl⟩
   .rw[show a.eval x=_ from fA];exact⟨Fp,λ_=>rfl,run_firstCells_none w _ 0 0 0,run_firstCells_none w.drew _ 0 0 0,by simp,by simp⟩
   .obtain⟨ad0,cap0,eZ,_⟩:=fA;rw[eZ];exact⟨Fp,λ_=>rfl,by simpa using run_firstCells_some (P:=C.P) w i.size 0 ad0 0 cap0 [] (by simp) (by simp),by simpa using run_firstCells_some (P:=C.P) w.drew i.size 0 ad0 0 cap0 [] (by simp) (by simp),by simp,by simp⟩
  rcases kU with⟨Ku,rfl⟩|⟨g,cap,us,e1,Ku,rfl,Rr,hB,hg,RG,f_⟩
  .have AV:(Builtin.append_ #[t,t'] o.type #[a.eval s,a.eval x]).run C.P w= .ok (.slice none 0 0) w:=by rw[Ku];have hl:=JD.len;have Wy:=JD.cells;rcases Fp with⟨e',hk⟩|hk<;>simp[Builtin.append_,run_underlying ht,run_underlying hk,sizeOf,typeInfo,hi,hl,Wy]
   exact FM.value (ME _ _ AV) (Jv.put λ_ _=>rfl)
  .have AV:=run_append_room_src (P:=C.P) w t t' o.type e i ht hi g 0 0 cap (a.eval x) 0 [] JD (by omega) (by simp) (by simp);rw[<-Ku] at AV;simp only[World.setCells] at AV;exact FM.value (ME _ _ AV) (Jv.put λ_ _=>Du)
theorem CT.kill(hr:CT C γ0 w0 γ β σ h a w)(id:Nat):CT C γ0 w0 γ β σ (h.set id .CH) a w:=by
 have key:∀{E0:Nat} {x:C6},(h.set id .CH)[E0]?=some x->x≠ .CH->h[E0]?=some x:=λ{E0 x} hx hd=>by
  by_cases he:id=E0
  .subst he;rw[List.getElem?_set] at hx;simp only[BO] at hx;split at hx;·cases hx;exact absurd rfl hd
   .cases hx
  .rwa [Af he] at hx
 exact⟨⟨hr.DD.HD,λE0 y Ha hy=>hr.DD.KY E0 y (key Ha hy) hy,λE0 cs hc b hb=>hr.DD.cells E0 cs (key hc (by simp)) b hb,λE0 es hc b hb=>hr.DD.map E0 es (key hc (by simp)) b hb,λE0 b hb=>by simpa using hr.DD.mu E0 b hb,hr.DD.own,hr.DD.sz⟩,hr.fr,hr.Dw,hr.defers,hr.Gg⟩
theorem CT.fD(hr:CT C γ0 w0 γ β σ h a w){id g:Nat}{cs:List Aa}(hcs:h[id]?=some (.cells cs))(hg:γ.mu id=some g){us:Array Value}{e:TypeId}{fr:Nat×Nat}(hw:w.heap[g]?=some (.cells us e fr))(Tm:γ.sz g=some us.size)(Dm:Array Value)(FI:List Aa)(RG:Dm.size=us.size)(kN:RF fr Dm.size)
  (hv:Bb γ FI (Dm.toList.take FI.length)) (h1:∀u∈Dm.toList.take FI.length,u.oneCell'=true):∃γ',γ.le γ'/\γ'.mu h.length=some g/\CT C γ0 w0 γ' β σ (h.set id .CH++[.cells FI]) a (w.setRow g Dm)/\γ'.sz g=some us.size:=by
 obtain⟨g',p,Rr⟩:=hr.DD.KY id _ hcs (by simp);rw[hg] at p;cases p;have qT:id<h.length:=hr.DD.mu _ _ hg;have hmu:γ.mu h.length=none:=by
  cases hc:γ.mu h.length with
  |none=>rfl
  |some y=>exact absurd (hr.DD.mu _ y hc) (Dg _)
 have uniq:∀E0 x,h[E0]?=some x->x≠ .CH->γ.mu E0=some g->E0=id:=λE0 x hx yi hm=>by obtain⟨b',p,q⟩:=hr.DD.KY E0 x hx yi;rw[hm] at p;cases p;rw[Rr] at q;cases q;rfl
 have DY:γ.le (γ.BL g h.length (some us.size)):=⟨λ_ _ _ hv=>hv,λE0 b hm=>by
  have:E0≠h.length:=λhe=>by rw[he,hmu] at hm;cases hm
  simp only[Gh.BL,if_neg this];exact hm,λb n hm=>by
  by_cases he:b=g;·subst he;rw[Tm] at hm;cases hm;simp[Gh.BL]
  .simp only[Gh.BL,if_neg he];exact hm⟩
 have old:∀{E0:Nat} {x:C6},(h.set id .CH++[C6.cells FI])[E0]?=some x->x≠ .CH->E0≠h.length->h[E0]?=some x/\E0≠id:=λ{E0 x} hx hd hne=>by
  have hlt:E0<(h.set id .CH).length:=by rw[Ae] at hx;obtain⟨hl,_⟩:=hx;simp at hl⊢;omega
  rw[Ad hlt] at hx;by_cases he:id=E0;·subst he;rw[AG (by simpa using hlt)] at hx;cases hx;exact absurd rfl hd
  .rw[Af he] at hx;exact⟨hx,λh=>he h.symm⟩
 have aJi:Gq (γ.BL g h.length (some us.size)) (h.set id .CH++[.cells FI]) (w.setRow g Dm):=by
  refine⟨λb o v hb=>?_,λE0 y Ha hy=>?_,λE0 QD hc b hb=>?_,λE0 es hc b hb=>?_,λE0 b hb=>?_,λb y hy=>?_,λb n hb=>?_⟩
  .obtain⟨p,q,r⟩:=hr.DD.HD b o v hb;have ML:b≠g:=λhe=>by subst he;rw[Rr] at r;rcases r with r|⟨_,_,_,r,_⟩<;>cases r
   exact⟨by rw[Cw (setRow_other w g b Dm ML)];exact p,q,by simp only[Gh.BL,if_neg ML];exact r⟩
  .by_cases he:E0=h.length;·exact⟨g,by simp[Gh.BL,he],by simp[Gh.BL,he]⟩
   .obtain⟨qU,hne⟩:=old Ha hy he;obtain⟨b,p,q⟩:=hr.DD.KY E0 y qU hy;have ML:b≠g:=λhx=>by subst hx;exact hne (uniq E0 y qU hy p)
    exact⟨b,by simp only[Gh.BL,if_neg he];exact p,by simp only[Gh.BL,if_neg ML];exact q⟩
  .by_cases he:E0=h.length;·subst he;simp[Gh.BL] at hb;subst hb;rw[A5 (by simp)] at hc;simp at hc;subst hc;exact⟨Dm,e,fr,setRow_heap w g us Dm e fr hw,kN,Bb.mono DY _ _ hv,h1⟩
   .simp only[Gh.BL,if_neg he] at hb;obtain⟨HZ,hne⟩:=old hc (by simp) he;have ML:b≠g:=λhx=>by subst hx;exact hne (uniq E0 _ HZ (by simp) hb)
    obtain⟨eH,e2,uU,p,pf,q,r⟩:=hr.DD.cells E0 QD HZ b hb;exact⟨eH,e2,uU,by rw[setRow_other w g b Dm ML];exact p,pf,Bb.mono DY _ _ q,r⟩
  .by_cases he:E0=h.length;·subst he;rw[A5 (by simp)] at hc;simp at hc
   .simp only[Gh.BL,if_neg he] at hb;obtain⟨HZ,hne⟩:=old hc (by simp) he;have ML:b≠g:=λhx=>by subst hx;exact hne (uniq E0 _ HZ (by simp) hb)
    obtain⟨Dj,clock,p,q⟩:=hr.DD.map E0 es HZ b hb;exact⟨Dj,clock,by rw[setRow_other w g b Dm ML];exact p,q.mono DY⟩
  .by_cases he:E0=h.length;·simp[he]
   .simp only[Gh.BL,if_neg he] at hb;have:=hr.DD.mu E0 b hb;simp;omega
  .by_cases ML:b=g;·subst ML;have:=hr.DD.own _ _ Rr;simpa[World.setRow] using this
   .simp only[Gh.BL,if_neg ML] at hy;have:=hr.DD.own b y hy;simpa[World.setRow] using this
  .by_cases he:b=g;·subst he;simp only[Gh.BL,BO] at hb;cases hb;exact⟨⟨Dm,e,fr,setRow_heap w b us Dm e fr hw,RG⟩,.inr ⟨h.length,by simp[Gh.BL]⟩⟩
   .simp only[Gh.BL,if_neg he] at hb⊢;obtain⟨p,r⟩:=hr.DD.sz b n hb;exact⟨by rw[setRow_other w g b Dm he];exact p,r⟩
 refine⟨_,DY,by simp[Gh.BL],hr.world aJi ⟨DY,by simp[World.setRow],rfl,rfl,rfl,λb hb hn=>?_⟩,by simp[Gh.BL]⟩;have ML:b≠g:=λhe=>by subst he;exact hn id Rr
 exact⟨setRow_other w g b Dm ML,by simp only[Gh.BL,if_neg ML]⟩
theorem vP{o:Oper}{c:Call}{t t' e:TypeId}{n b:Nat}{s x:Operand}{v u r:Aa}{h':Ag}(ho:o.op= .call c)(hc:c.callee= .builtin .append)(h0:c.argTypes[0]?=some t)(h1:c.argTypes[1]?=some t')(Ej:c.args.toList=[s,x])(ht:C.P.underlying t=some (.slice e))
  (Fp:(∃e',C.P.underlying t'=some (.slice e'))\/C.P.underlying t'=some .string) (hsz:BQ C.P e=some (n+1)) (vF:Jb C.P e=some (b+1)) (dS:LN C.P e=true) (hv:Br C σ [s,x]=some [v,u])
  (hp:Fl h (n+1) (b+1) v u=some (h',r)) (hr:CT C γ0 w0 γ β σ h a w):FM C γ0 w0 o a w (σ.put o.dst (.val r)) h':=by
 obtain⟨i,z,hi,hz,ZF⟩:=Ly dS;have O5:=IW hsz hi;have yq:=KG vF hi;obtain⟨_,_,e0,hvs,fA⟩:=Fe hr hv;cases e0;have Jo:c.args.map a.eval=#[a.eval s,a.eval x]:=by apply Jm;simp[Ej]
 have ME:∀v' w',(Builtin.append_ #[t,t'] o.type #[a.eval s,a.eval x]).run C.P w= .ok v' w'->(execOp a.eval o).run C.P w= .ok (.value v') w':=λv' w' AV=>by
  have:execOp a.eval o=(do pure (Next.value (<-Builtin.append_ #[t,t'] o.type #[a.eval s,a.eval x]))):=by rw[<-Jo,<-MT (ty:=o.type) h0 h1];simp only[execOp,ho,resolve,hc];rfl
  rw[this];exact Dr AV
 unfold Fl at hp;cases hq:Ft h (n+1) u with
 |none=>rw[hq] at hp;cases hp
 |some Au=>
  rw[hq] at hp;obtain⟨news,JD,Xg,dT⟩:=UG (w:=w) Fp hr.DD fA hq;have KB:Src C.P i.size t' (a.eval x) Au.length news w:=by rw[O5];exact JD
  have Nx:news.length=Au.length*(n+1):=JD.newsLen;have Gv:Au.flatten.length=news.length:=by rw[Xg.length]
  cases Au with
  |nil=>
   have tQ:news=[]:=EY (by simpa using Nx);subst tQ;cases v with
   |slnil=>
    cases hp;have Ku:a.eval s= .slice none 0 0:=hvs;have AV:(Builtin.append_ #[t,t'] o.type #[a.eval s,a.eval x]).run C.P w= .ok (.slice none 0 0) w:=by rw[Ku];have hl:=KB.len;have Wy:=KB.cells;simp only[BU] at hl Wy;rcases Fp with⟨e',hk⟩|hk<;>simp[Builtin.append_,run_underlying ht,run_underlying hk,sizeOf,typeInfo,hi,hl,Wy]
    exact FM.value (ME _ _ AV) (hr.put λ_ _=>rfl)
   |Ck id off k z'=>
    simp only at hp;split at hp;·cases hp;obtain⟨g,cap,hg,Ku,fm,di,Tm⟩:=(show BH γ _ _ from hvs);have AV:=run_append_room_src (P:=C.P) w t t' o.type e i ht hi g off k cap (a.eval x) 0 [] KB (by omega) (by simp) (by simp);rw[<-Ku] at AV;simp only[World.setCells,Bn] at AV;exact FM.value (ME _ _ AV) (hr.put λ_ _=>⟨g,cap,hg,rfl,fm,di,Tm⟩)
    .cases hp
   |_=>cases hp
  |cons q0 rows0=>
   generalize hR:q0::rows0=Au at*;have hpos:0<Au.length:=by rw[<-hR];simp
   have newrow:∀(h2:Ag) (base:Option Addr) (k cap:Nat) (pre:List Aa) (olds:List Value),CT C γ0 w0 γ β σ h2 a w->a.eval s= .slice base k cap->Bb γ pre olds->olds.length=k*(n+1)->(∀q∈olds,q.oneCell'=true)->
     (Builtin.firstCells i.size k (.slice base k cap)).run C.P w.drew= .ok olds.toArray w.drew->cap<k+Au.length->(k+Au.length)*(b+1)<=AT->
     FM C γ0 w0 o a w (σ.put o.dst (.val (.Ck h2.length 0 (k+Au.length) (n+1)))) (h2++[.cells (pre++Au.flatten)]):=by
    intro h2 base k cap pre olds K5 hs aDu tT ym hfirst hlt Pg;have SB:k+Au.length<=AT:=Bt (O2 _ (De b)) Pg;have Fl:=run_append_grow_src (P:=C.P) w t t' o.type e i z ht hi hz base k cap olds hfirst (a.eval x) Au.length news KB hlt (by simp only[AT] at SB;omega) (by rw[yq];exact growslice_fits hlt Pg);rw[<-hs] at Fl;have DT:=grownCap_ge w (k+Au.length) cap e;have qO:(olds++news).length=(k+Au.length)*(n+1):=by rw[Ao,tT,Nx,BC]
    have ZE:(pre++Au.flatten).length=(olds++news).length:=by rw[Ao,Ao,aDu.length,Gv]
    have vO:((olds++news).toArray++Builtin.zeroCells z.cells (grownCap w (k+Au.length) cap e-(k+Au.length))).size=grownCap w (k+Au.length) cap e*(n+1):=by simp only[Qh,B7,size_zeroCells,ZF,O5,qO,<-BC];congr 1;omega
    have SI:((olds++news).toArray++Builtin.zeroCells z.cells (grownCap w (k+Au.length) cap e-(k+Au.length))).toList.take (pre++Au.flatten).length=olds++news:=by simp only[Jy];rw[ZE];exact GY
    obtain⟨γ2,Z6,Tl,yr,QC⟩:=K5.drew.newObj ((olds++news).toArray++Builtin.zeroCells z.cells (grownCap w (k+Au.length) cap e-(k+Au.length))) e (0,0) (pre++Au.flatten) (.inl rfl) (by rw[SI];exact aDu.append Xg) (by rw[SI];intro q hq;exact(Ap.1 hq).elim (ym q) (JD.one q))
    exact FM.value (ME _ _ Fl) (yr.put λ_ _=>⟨w.heap.size,_,Tl,rfl,DT,⟨De n,grownCap_le_maxLen w _ _ _ (by simp only[AT] at SB;simp only[maxLen];omega)⟩,by rw[BJ,<-vO];exact QC⟩)
   cases v with
   |slnil=>
    have Ku:a.eval s= .slice none 0 0:=hvs;rw[<-hR] at hp;simp only at hp;rw[hR] at hp;split at hp;·rename_i Pg;cases hp;have:=newrow h none 0 0 [] [] hr Ku rfl (by simp) (by simp) (run_firstCells_none _ _ _ _ _) (by omega) (by simpa using Pg);simpa using this
    .cases hp
   |Ck id off k z'=>
    rw[<-hR] at hp;simp only at hp;rw[hR] at hp;split at hp
    .rename_i cs hcs;split at hp
     .rename_i hzz;subst hzz;obtain⟨g,cap,hg,Ku,fm,di,Tm⟩:=(show BH γ _ _ from hvs);obtain⟨us,e1,fr,p1,pf,p2,p3⟩:=hr.DD.cells id cs hcs g hg;obtain⟨⟨tS,e00,fr0,q1,q2⟩,_⟩:=hr.DD.sz g _ Tm;rw[p1] at q1;cases q1;have UC:cs.length<=us.size:=by have:=p2.length;simp at this;omega
      have Mb:∀j,(⟨g,off,none⟩:Addr).add j=⟨g,off+j,none⟩:=λj=>by unfold Addr.add;split<;>simp_all
      have froz:∀o,o<us.size->w.frozen? ⟨g,o,none⟩=false:=λo ho=>by
       simp only[World.frozen?,p1];rcases pf with rfl|kN
       .simp
       .simp;omega
      have room:k+Au.length<=cap->(Builtin.append_ #[t,t'] o.type #[a.eval s,a.eval x]).run C.P w= .ok (.slice (some ⟨g,off,none⟩) (k+Au.length) cap) (w.setRow g (us.toList.take (off+k*(n+1))++news++us.toList.drop (off+k*(n+1)+news.length)).toArray)/\off+k*(n+1)+news.length<=us.size:=by
       intro hroom;have hfit:off+k*(n+1)+news.length<=us.size:=by rw[Nx,q2,Nat.add_assoc,<-BC];exact Nat.add_le_add_left (EA _ hroom) _
       have AV:=run_append_room_src (P:=C.P) w t t' o.type e i ht hi g off k cap (a.eval x) Au.length news KB hroom (λj hj=>by rw[cell_of_row w _ _ us e1 fr p1,O5,C3 (by omega)];rfl) (λj hj=>by rw[O5];exact froz _ (by omega))
       rw[O5,Ei news _ us w p1 hfit,<-Ku] at AV;exact⟨AV,hfit⟩
      have Wr:(k+Au.length)*(n+1)=k*(n+1)+Au.length*(n+1):=BC _ _ _;split at hp
      .rename_i hin;cases hp;have hroom:k+Au.length<=cap:=by
        have h3:(k+Au.length)*(n+1)<=cap*(n+1):=by omega
        exact Nat.le_of_mul_le_mul_right h3 (De n)
       obtain⟨AV,hfit⟩:=room hroom;have e2:off+(k+Au.length)*(n+1)=off+k*(n+1)+news.length:=by rw[Nx,Wr];omega
       have hcl:(cs.take (off+k*(n+1))++Au.flatten++cs.drop (off+(k+Au.length)*(n+1))).length=cs.length:=by rw[e2,Ao,Ao,Al,A8,Gv];omega
       have SI:((us.toList.take (off+k*(n+1))++news++us.toList.drop (off+k*(n+1)+news.length)).toArray).toList.take (cs.take (off+k*(n+1))++Au.flatten++cs.drop (off+(k+Au.length)*(n+1))).length=
         (us.toList.take cs.length).take (off+k*(n+1))++news++(us.toList.take cs.length).drop (off+k*(n+1)+news.length):=by
        rw[hcl];simp only[Wn];exact Lx (by simpa using UC) (by omega) rfl
       obtain⟨TT,Nz⟩:=L7 hr.DD hcs hg p1 (us.toList.take (off+k*(n+1))++news++us.toList.drop (off+k*(n+1)+news.length)).toArray (cs.take (off+k*(n+1))++Au.flatten++cs.drop (off+(k+Au.length)*(n+1)))
        (by simp only[B7,Ao,Al,A8,Ci];omega)
        (by
         rcases pf with rfl|pf
         .exact .inl rfl
         .refine .inr (Bt (WT ?_) pf);simp only[B7,Ao,Al,A8,Ci];omega)
        (by rw[SI,e2];exact MR p2 Xg)
        (by
         rw[SI];intro q hq;rcases Ap.1 hq with hq|hq
         .rcases Ap.1 hq with hq|hq
          .exact p3 q (Bj hq)
          .exact JD.one q hq
         .exact p3 q (Bw hq))
       exact FM.value (ME _ _ AV) ((hr.world TT Nz).put λ_ _=>⟨g,cap,hg,rfl,hroom,di,Tm⟩)
      .rename_i hout;split at hp
       .rename_i HJ;obtain⟨rfl,OE,Pg⟩:=HJ;cases hp;simp only[BJ] at*;by_cases hroom:k+Au.length<=cap
        .obtain⟨AV,hfit⟩:=room hroom;have ZE:(cs.take (k*(n+1))++Au.flatten).length=k*(n+1)+news.length:=by rw[Ao,Al,Gv];omega
         have SI:((us.toList.take (k*(n+1))++news++us.toList.drop (k*(n+1)+news.length)).toArray).toList.take (cs.take (k*(n+1))++Au.flatten).length=(us.toList.take cs.length).take (k*(n+1))++news:=by
          rw[ZE];simp only[Wn];have:(us.toList.take (k*(n+1))++news).length=k*(n+1)+news.length:=by rw[Ao,Al,Ci];omega
          rw[<-this,GY,GX,Co OE]
         obtain⟨γ2,Z6,Tl,K5,QC⟩:=hr.fD hcs hg p1 (by rw[Tm,q2]) (us.toList.take (k*(n+1))++news++us.toList.drop (k*(n+1)+news.length)).toArray (cs.take (k*(n+1))++Au.flatten)
          (by simp only[B7,Ao,Al,A8,Ci];omega)
          (by
           rcases pf with rfl|pf
           .exact .inl rfl
           .refine .inr (Bt (WT ?_) pf);simp only[B7,Ao,Al,A8,Ci];omega)
          (by rw[SI];exact(p2.take _).append Xg)
          (by
           rw[SI];intro q hq;rcases Ap.1 hq with hq|hq
           .exact p3 q (Bj hq)
           .exact JD.one q hq)
         exact FM.value (ME _ _ AV) (K5.put λ_ _=>⟨g,cap,Tl,rfl,hroom,di,by rw[QC,q2];simp⟩)
        .have tT:((us.toList.take cs.length).take (k*(n+1))).length=k*(n+1):=by simp;omega
         have:=newrow (h.set id .CH) (some ⟨g,0,none⟩) k cap (cs.take (k*(n+1))) ((us.toList.take cs.length).take (k*(n+1))) (hr.kill id) Ku (p2.take _) tT (λq hq=>p3 q (Bj hq))
          (by
           rw[O5];exact run_firstCells_some w.drew _ _ _ _ _ _ tT (λj y hj=>by
            rw[Mb];show w.cell? _=_;rw[cell_of_row w _ _ us e1 fr p1];rw[Ch] at hj;split at hj
            .rw[Ch] at hj;split at hj;·simpa using hj
             .cases hj
            .cases hj)) (by omega) Pg
         simpa using this
       .cases hp
     .cases hp
    .cases hp
   |_=>rw[<-hR] at hp;cases hp
end
section
variable{C:FJ}{γ0 γ γ':Gh}{w0 w w':World}{β:Nat->Nat}{σ:BG}{h:Ag}{a:Act}{fid:FuncId}{ops:List Oper}
theorem aE(hi:Gq γ h w){id g off:Nat}{cs avs:List Aa}{news:List Value}(hcs:h[id]?=some (.cells cs))(hg:γ.mu id=some g)(hv:Bb γ avs news)(h1:∀u∈news,u.oneCell'=true)(hl:off+avs.length<=cs.length):
  ∃w',(storeCells ⟨g,off,none⟩ news).run C.P w= .ok () w'/\Gq γ (h.set id (.cells (cs.take off++avs++cs.drop (off+avs.length)))) w'/\J7 γ w γ w':=by
 obtain⟨us,e,fr,hw,pf,p5,p6⟩:=hi.cells id cs hcs g hg;have Nx:news.length=avs.length:=hv.length;have hlt:cs.length<=us.size:=by have:=p5.length;simp at this;omega
 have hs:=run_storeCells_cells (P:=C.P) g off news 0 w (λj hj=>by
  rw[cell_of_row w _ _ us e fr hw,Bn,C3 (by omega)];rfl) (λj hj=>by
  simp only[World.frozen?,hw];rcases pf with rfl|kN
  .simp
  .simp;omega) h1
 rw[Bn,Ei _ off us w hw (by omega)] at hs;have hcl:(cs.take off++avs++cs.drop (off+avs.length)).length=cs.length:=by simp;omega
 have SI:((us.toList.take off++news++us.toList.drop (off+news.length)).toArray).toList.take (cs.take off++avs++cs.drop (off+avs.length)).length=(us.toList.take cs.length).take off++news++(us.toList.take cs.length).drop (off+news.length):=by rw[hcl];simp only[Wn];exact Lx (by simpa using hlt) (by omega) rfl
 obtain⟨vQ,ha⟩:=L7 hi hcs hg hw (us.toList.take off++news++us.toList.drop (off+news.length)).toArray (cs.take off++avs++cs.drop (off+avs.length))
  (by simp only[B7,Ao,Al,A8,Ci];omega)
  (by
   rcases pf with rfl|pf
   .exact .inl rfl
   .refine .inr (Bt (WT ?_) pf);simp only[B7,Ao,Al,A8,Ci];omega)
  (by rw[SI,Nx];exact MR p5 hv)
  (by
   rw[SI];intro q hq;rcases Ap.1 hq with hq|hq
   .rcases Ap.1 hq with hq|hq
    .exact p6 q (Bj hq)
    .exact h1 q hq
   .exact p6 q (Bw hq))
 exact⟨_,hs,vQ,ha⟩
theorem fE{t t' ty:TypeId}{ts:Array TypeId}{xs:Array Value}(h0:ts[0]?=some t)(h1:ts[1]?=some t'):Builtin.copy_ ts ty xs=Builtin.copy_ #[t,t'] ty xs:=by simp only[Builtin.copy_,h0];rfl
theorem aF{P:Program}{t t' ty e:TypeId}{i:TypeInfo}(ht:P.underlying t=some (.slice e))(hi:P.info? e=some i){x:Value}{n:Nat}{news:List Value}(hs:Src P i.size t' x n news w){base:Option Addr}{k cap:Nat}(hk:n<=k)
  (hst:∀ad,base=some ad->(storeCells ad news).run P w= .ok () w') (Wh:base=none->w'=w):(Builtin.copy_ #[t,t'] ty #[.slice base k cap,x]).run P w= .ok (.int .i64 n) w':=by
 have hl:=hs.len w;have hc:=hs.cells;have hm:Nat.min n k=n:=Co hk;cases base with
 |none=>cases Wh rfl;simp[Builtin.copy_,run_underlying ht,hl,hc,sizeOf,typeInfo,hi,hm,goInt]
 |some ad=>have h2:=hst ad rfl;simp[Builtin.copy_,run_underlying ht,hl,hc,sizeOf,typeInfo,hi,hm,goInt,h2]
theorem vR{o:Oper}{c:Call}{t t' e:TypeId}{n:Nat}{s x:Operand}{v u r:Aa}{h':Ag}(ho:o.op= .call c)(hc:c.callee= .builtin .copy)(h0:c.argTypes[0]?=some t)(h1:c.argTypes[1]?=some t')(Ej:c.args.toList=[s,x])(ht:C.P.underlying t=some (.slice e))
  (Fp:(∃e',C.P.underlying t'=some (.slice e'))\/C.P.underlying t'=some .string) (hsz:BQ C.P e=some (n+1)) (hv:Br C σ [s,x]=some [v,u])
  (hp:ZN h (n+1) v u=some (h',r)) (hr:CT C γ0 w0 γ β σ h a w):FM C γ0 w0 o a w (σ.put o.dst (.val r)) h':=by
 obtain⟨_,_,e0,hvs,fA⟩:=Fe hr hv;cases e0;have Jo:c.args.map a.eval=#[a.eval s,a.eval x]:=by apply Jm;simp[Ej]
 have ME:∀v' w',(Builtin.copy_ #[t,t'] o.type #[a.eval s,a.eval x]).run C.P w= .ok v' w'->(execOp a.eval o).run C.P w= .ok (.value v') w':=λv' w' AV=>by
  have:execOp a.eval o=(do pure (Next.value (<-Builtin.copy_ #[t,t'] o.type #[a.eval s,a.eval x]))):=by rw[<-Jo,<-fE (ty:=o.type) h0 h1];simp only[execOp,ho,resolve,hc];rfl
  rw[this];exact Dr AV
 cases hi:C.P.info? e with
 |none=>simp[BQ,hi] at hsz
 |some i=>
 have O5:=IW hsz hi;unfold ZN at hp;cases hq:Ft h (n+1) u with
 |none=>rw[hq] at hp;cases hp
 |some Au=>
  rw[hq] at hp;obtain⟨news,JD,Xg,dT⟩:=UG (w:=w) Fp hr.DD fA hq;have KB:Src C.P i.size t' (a.eval x) Au.length news w:=by rw[O5];exact JD
  have Nx:news.length=Au.length*(n+1):=JD.newsLen;have Gv:Au.flatten.length=news.length:=by rw[Xg.length]
  simp only at hp;split at hp
  .split at hp;·rename_i Wz;cases hp;have Ku:a.eval s= .slice none 0 0:=hvs;have AV:=aF (t:=t) (ty:=o.type) (w:=w) (w':=w) ht hi KB (base:=none) (k:=0) (cap:=0) (by omega) (λ_ e=>by cases e) (λ_=>rfl);rw[<-Ku] at AV;rw[Wz] at AV;exact FM.value (ME _ _ AV) (hr.put λ_ _=>rfl)
   .cases hp
  .rename_i id off k z;split at hp
   .rename_i cs hcs;split at hp;·rename_i HJ;obtain⟨rfl,hrk,hlen⟩:=HJ;cases hp;obtain⟨g,cap,hg,Ku,fm,di,Tm⟩:=(show BH γ _ _ from hvs);have hm:=EA (n+1) hrk;obtain⟨w',hst,vQ,yl⟩:=aE (C:=C) (off:=off) hr.DD hcs hg Xg JD.one (by omega);have AV:=aF (t:=t) (ty:=o.type) (w:=w) (w':=w') ht hi KB (base:=some ⟨g,off,none⟩) (k:=k) (cap:=cap) hrk (λ_ e=>by cases e;exact hst) (λe=>by cases e);rw[<-Ku] at AV;rw[show Au.length*(n+1)=Au.flatten.length by rw[Gv,Nx]];exact FM.value (ME _ _ AV) ((hr.world vQ yl).put λ_ _=>rfl)
    .cases hp
   .cases hp
  .cases hp
theorem aG{t ty:TypeId}{ts:Array TypeId}{xs:Array Value}(h0:ts[0]?=some t):Builtin.clear_ ts ty xs=Builtin.clear_ #[t] ty xs:=by simp only[Builtin.clear_,h0];rfl
theorem qV{o:Oper}{c:Call}{t e:TypeId}{n:Nat}{s:Operand}{v z r:Aa}{h':Ag}(ho:o.op= .call c)(hc:c.callee= .builtin .clear)(h0:c.argTypes[0]?=some t)(Ej:c.args.toList=[s])(ht:C.P.underlying t=some (.slice e))
  (hsz:BQ C.P e=some (n+1)) (hz:GO C.P e=some z) (hv:Br C σ [s]=some [v]) (hp:Uh h (n+1) z.cells v=some (h',r)) (hr:CT C γ0 w0 γ β σ h a w):FM C γ0 w0 o a w (σ.put o.dst .undef) h':=by
 obtain⟨_,e0,hvs⟩:=F8 hr hv;cases e0;have Jo:c.args.map a.eval=#[a.eval s]:=by apply Jm;simp[Ej]
 have ME:∀v' w',(Builtin.clear_ #[t] o.type #[a.eval s]).run C.P w= .ok v' w'->(execOp a.eval o).run C.P w= .ok (.value v') w':=λv' w' AV=>by
  have:execOp a.eval o=(do pure (Next.value (<-Builtin.clear_ #[t] o.type #[a.eval s]))):=by rw[<-Jo,<-aG (ty:=o.type) h0];simp only[execOp,ho,resolve,hc];rfl
  rw[this];exact Dr AV
 unfold Uh at hp;split at hp
 .cases hp;have Ku:a.eval s= .slice none 0 0:=hvs;have AV:(Builtin.clear_ #[t] o.type #[a.eval s]).run C.P w= .ok (.tuple #[]) w:=by rw[Ku];simp[Builtin.clear_,run_underlying ht]
  exact FM.value (ME _ _ AV) (hr.put λ_ _=>trivial)
 .rename_i id off k z';split at hp
  .rename_i cs hcs;split at hp
   .rename_i HJ;obtain⟨rfl,hzl,hlen⟩:=HJ;cases hp;obtain⟨g,cap,hg,Ku,fm,di,Tm⟩:=(show BH γ _ _ from hvs);obtain⟨zv,tU,yv⟩:=Hh hz;obtain⟨q1,q2⟩:=Gx (γ:=γ) (EU tU) (by omega);have ZF:zv.cells.size=n+1:=by have:=q1.length;simp at this;omega
    have Gv:(List.replicate k z.cells).flatten.length=k*(n+1):=by rw[Gy (z:=n+1) (λr hr=>by rw[List.eq_of_mem_replicate hr,hzl]),Gr]
    have hzc:∀(j:Nat) (u:Value),(Builtin.zeroCells zv.cells k).toList[j]?=some u->j<k*(n+1)/\zv.cells.toList[j%(n+1)]?=some u:=by
     intro j u hj;have ZG:j<k*(n+1):=by have:=(Ae.1 hj).1;simpa[size_zeroCells,ZF] using this
     refine⟨ZG,?_⟩;have yt:j%(n+1)<zv.cells.size:=by rw[ZF];exact Nat.mod_lt _ (De n)
     simp only[Builtin.zeroCells,tM,Cc] at hj;have hrange:(Array.range (k*zv.cells.size)).toList[j]?=some j:=by simp[ZF,ZG]
     rw[hrange] at hj;simp only[BT,BF] at hj;rw[ZF] at hj;rw[<-hj];simp[yt]
    have hV:Bb γ (List.replicate k z.cells).flatten (Builtin.zeroCells zv.cells k).toList:=by refine Bb.Gi (by simp only[Ci,size_zeroCells,ZF,Gv]) λj x u hx hu=>?_;obtain⟨ZG,hju⟩:=hzc j u hu;rw[Hn z.cells _ _ (by rw[hzl];exact ZG),hzl] at hx;obtain⟨u',kO,yn⟩:=q1.get hx;rw[hju] at kO;cases kO;exact yn
    obtain⟨w',hst,vQ,yl⟩:=aE (C:=C) (off:=off) hr.DD hcs hg hV (λu hu=>by obtain⟨j,hj⟩:=CU hu;exact q2 u (CE (hzc j u hj).2)) (by omega)
    have AV:(Builtin.clear_ #[t] o.type #[a.eval s]).run C.P w= .ok (.tuple #[]) w':=by
     rw[Ku];cases k with
     |zero=>
      have e1:(Builtin.zeroCells zv.cells 0).toList=[]:=by simp[Builtin.zeroCells]
      rw[e1] at hst;have:w'=w:=by have h2:(storeCells ⟨g,off,none⟩ []).run C.P w= .ok () w:=rfl;rw[h2] at hst;cases hst;rfl
      rw[this];simp[Builtin.clear_,run_underlying ht]
     |succ k=>simp[Builtin.clear_,run_underlying ht,yv,hst]
    rw[show k*(n+1)=(List.replicate k z.cells).flatten.length from Gv.symm];exact FM.value (ME _ _ AV) ((hr.world vQ yl).put λ_ _=>trivial)
   .cases hp
  .cases hp
 .cases hp
theorem vS{o:Oper}{t e:TypeId}{n:Nat}{x:Operand}{lo hi:Option Operand}{v r:Aa}{as:List Aa}{h':Ag}(ho:o.op= .slice t x lo hi none)(ht:C.P.underlying t=some (.slice e))(hsz:BQ C.P e=some (n+1))
  (hv:Br C σ (x::(lo.toList++hi.toList))=some (v::as)) (hp:ZO h (n+1) lo.isSome hi.isSome v as=some (h',r)) (hr:CT C γ0 w0 γ β σ h a w):FM C γ0 w0 o a w (σ.put o.dst (.val r)) h':=by
 have qP:=Dx hr hv;obtain⟨u,us,e1,hx,Xj⟩:=qP;simp only[Bm,Hu] at e1;obtain⟨rfl,rfl⟩:=e1;unfold ZO at hp;split at hp
 .rename_i id off k z;split at hp
  .rename_i cs hcs;split at hp
   .rename_i HJ;obtain⟨rfl,hhi,aDn⟩:=HJ;obtain⟨g,cap,hg,Ku,fm,di,Tm⟩:=(show BH γ _ _ from hx);cases hb:DJ lo.isSome hi.isSome ((cs.length-off)/(n+1)) as with
    |none=>rw[hb] at hp;cases hp
    |some lh=>
     obtain⟨l,q⟩:=lh;rw[hb] at hp;simp only[Ct] at hp;split at hp
     .rename_i hlt;cases hp;obtain⟨us,e1,fr,p1,pf,p2,p3⟩:=hr.DD.cells id cs hcs g hg;obtain⟨⟨tS,e00,fr0,q1,q2⟩,_⟩:=hr.DD.sz g _ Tm;rw[p1] at q1;cases q1;have UC:cs.length<=us.size:=by have:=p2.length;simp at this;omega
      have aH:(cs.length-off)/(n+1)<=cap:=by refine Nat.div_le_of_le_mul ?_;rw[Nat.mul_comm];omega
      have e2:∀y:Option Operand,(y.map a.eval).isSome=y.isSome:=λy=>by cases y<;>rfl
      have e3:(lo.map a.eval).toList++(hi.map a.eval).toList=(lo.toList++hi.toList).map a.eval:=by cases lo<;>cases hi<;>rfl
      rw[<-e2 lo,<-e2 hi] at hb;obtain⟨k1,k2,k3⟩:=JC (P:=C.P) (w:=w) (isSlice:=true) hb (by rw[e3];exact Xj) aH;have L8:Instr.sliceBounds true k cap (lo.map a.eval) (hi.map a.eval) none=Instr.sliceBounds true ((cs.length-off)/(n+1)) cap (lo.map a.eval) (hi.map a.eval) none:=by
       cases hi with
       |none=>cases hhi
       |some y=>rfl
      have Fp:C.P.underlying t=some (.slice (C.P.elem t)):=by simp[Program.elem,ht]
      have he:C.P.elem t=e:=by simp[Program.elem,ht]
      have AV:(Instr.sliceAt t (a.eval x) (lo.map a.eval) (hi.map a.eval) none).run C.P w= .ok (.slice (some ⟨g,off+l*(n+1),none⟩) (q-l) (cap-l)) w:=by rw[Ku,run_sliceAt_slice w t _ _ _ _ Fp,run_slice_any w t _ _ _ Fp,L8,k1,he,Result.andThen_ok,Dq hsz];show Result.ok (Value.slice (if cap=l then some ⟨g,off,none⟩ else Option.map (λq:Addr=>q.add (l*(n+1))) (some ⟨g,off,none⟩)) (q-l) (cap-l)) w=_;rw[if_neg (by omega)];simp only[BT];unfold Addr.add;split<;>simp_all
      refine FM.value (by simp only[execOp,ho];exact Dr AV) (hr.put λ_ _=>⟨g,cap-l,hg,rfl,by omega,⟨di.1,Bt (Nat.sub_le _ _) di.2⟩,?_⟩);rw[Tm,Nat.add_assoc,<-BC,Nat.add_sub_cancel' (by omega)]
     .cases hp
   .cases hp
  .cases hp
 .cases hp
theorem vT{o:Oper}{t e:TypeId}{n:Nat}{x lo hi mx:Operand}{args:List Aa}(ho:o.op= .slice t x (some lo) (some hi) (some mx))(ht:C.P.underlying t=some (.slice e))(hsz:BQ C.P e=some (n+1))
  (hv:Br C σ [x,lo,hi,mx]=some args) (hp:Ui (n+1) args=true) (hr:CT C γ0 w0 γ β σ h a w):FM C γ0 w0 o a w (σ.put o.dst .undef) h:=by
 have qP:=Dx hr hv;have Fp:C.P.underlying t=some (.slice (C.P.elem t)):=by simp[Program.elem,ht]
 have he:C.P.elem t=e:=by simp[Program.elem,ht]
 have GM:∀(base:Option Addr) (len cap:Nat) (kl kr km:IntKind) (l r m:Int),a.eval x= .slice base len cap->a.eval lo= .int kl l->a.eval hi= .int kr r->a.eval mx= .int km m->0<=l->l<=r->r<=m->m<=cap->FM C γ0 w0 o a w (σ.put o.dst .undef) h:=by
  intro base len cap kl kr km l r m e1 e2 e3 e4 h1 h2 h3 h4;have AV:∃v,(Instr.sliceAt t (a.eval x) (some (a.eval lo)) (some (a.eval hi)) (some (a.eval mx))).run C.P w= .ok v w:=by
   have hm0:0<=m:=by omega
   have hr0:0<=r:=by omega
   have b1:∀code,(Instr.sliceBound (.int km m) cap code).run C.P w= .ok m.toNat w:=λcode=>by simp[Instr.sliceBound,asIntOf,hm0,h4]
   have b2:∀code,(Instr.sliceBound (.int kr r) m.toNat code).run C.P w= .ok r.toNat w:=λcode=>by simp[Instr.sliceBound,asIntOf,hr0,Nj hm0,h3]
   have b3:∀code,(Instr.sliceBound (.int kl l) r.toNat code).run C.P w= .ok l.toNat w:=λcode=>by simp[Instr.sliceBound,asIntOf,h1,Nj hr0,h2]
   rw[e1,e2,e3,e4];simp[Instr.sliceAt,Instr.slice,run_underlying ht,Instr.sliceBounds,b1,b2,b3,Dq hsz]
  obtain⟨v,AV⟩:=AV;exact FM.value (by simp only[execOp,ho];exact Dr AV) (hr.put λ_ _=>trivial)
 unfold Ui at hp;split at hp
 .rename_i s _ l _ r _ m;obtain⟨u1,us1,f1,g1,u2,eH,f2,g2,u3,us3,f3,g3,u4,us4,f4,g4,f5⟩:=qP;subst f5;simp only[Bm,DR] at f1;subst f4;subst f3;subst f2;simp only[Hu,NF] at f1;obtain⟨rfl,rfl,rfl,rfl⟩:=f1;split at hp;·simp only[BK,DK] at hp;obtain⟨⟨⟨⟨_,h1⟩,h2⟩,h3⟩,h4⟩:=hp;obtain⟨g,cap,hg,Ku,fm,_⟩:=(show BH γ _ _ from g1);exact GM _ _ _ _ _ _ _ _ _ Ku (D5 g2) (D5 g3) (D5 g4) h1 h2 h3 (by omega)
  .simp only[BK,DK] at hp;obtain⟨⟨⟨⟨_,h1⟩,h2⟩,h3⟩,h4⟩:=hp;obtain⟨ad,cap,Ku,fm,_⟩:=(show BH γ _ _ from g1);exact GM _ _ _ _ _ _ _ _ _ Ku (D5 g2) (D5 g3) (D5 g4) h1 h2 h3 (by omega)
  .cases hp
 .cases hp
theorem vU{o:Oper}{t:TypeId}{x:Operand}{v:Aa}{u:TypeDesc}(ho:o.op= .makeInterface t x)(ht:C.P.underlying t=some u)(hn:∀i,u≠ .interface i)(hv:Br C σ [x]=some [v])(hr:CT C γ0 w0 γ β σ h a w):FM C γ0 w0 o a w (σ.put o.dst (.val (.iface t v))) h:=by
 obtain⟨_,e0,hvs⟩:=F8 hr hv;cases e0;have AV:(Instr.makeInterface t (a.eval x)).run C.P w= .ok (.iface t (a.eval x)) w:=by cases u<;>simp_all [Instr.makeInterface,run_underlying ht]
 exact FM.value (by simp only[execOp,ho];exact Dr AV) (hr.put λ_ _=>⟨_,rfl,hvs⟩)
theorem RK{n:Int}:∀{es:List (Aa×Aa)} {l:List MapEntry} {i:Nat} {r:Option (Nat×Aa)},KZ γ es l->Kq n es i=some r->
  match r with
  |none=>Instr.findNow (.int .i64) (.int .i64 n) l i=some none
  |some (j,v)=>∃(e:MapEntry),Instr.findNow (.int .i64) (.int .i64 n) l i=some (some (j,e.val))/\BH γ v e.val/\i<=j/\l[j-i]?=some e/\e.key= .int .i64 n
 |[],l,i,r,hM,hf=>by rw[show l=[] from hM];cases hf;rfl
 |(k,v)::es,l,i,r,hM,hf=>by
  obtain⟨e,l',rfl,h1,h2,h3⟩:=hM;cases k with
  |int q t=>
   by_cases hq:q= .i64
   .subst hq;simp only[Kq] at hf;have hk:e.key= .int .i64 t:=h1;split at hf;·rename_i hst;subst hst;cases hf;exact⟨e,by simp[Instr.findNow,hk,Instr.sameNow],h2,Ac _,by simp,hk⟩
    .rename_i hst;have aDv:(n==t)=false:=by simpa using hst
     have ih:=RK (i:=i+1) h3 hf;cases r with
     |none=>simpa[Instr.findNow,hk,Instr.sameNow,aDv] using ih
     |some p=>obtain⟨j,v2⟩:=p;obtain⟨e2,q1,q2,q3,q4,q5⟩:=ih;refine⟨e2,by simpa[Instr.findNow,hk,Instr.sameNow,aDv] using q1,q2,by omega,?_,q5⟩;rw[show j-i=(j-(i+1))+1 by omega,tN];exact q4
   .exfalso;cases q<;>first|exact hq rfl|(simp[Kq] at hf)
  |_=>simp[Kq] at hf
theorem vV{o:Oper}{t kt e:TypeId}{m k:Operand}{vm vk z r:Aa}{ok:Bool}{h':Ag}(ho:o.op= .lookup t m k ok)(ht:C.P.underlying t=some (.map kt e))(hk:C.P.underlying kt=some (.int .i64))(hz:GO C.P e=some z)(ha:Br C σ [m,k]=some [vm,vk])(hm:kH h z ok vm vk=some (h',r))(hr:CT C γ0 w0 γ β σ h a w):
  FM C γ0 w0 o a w (σ.put o.dst (.val r)) h':=by
 obtain⟨_,_,e0,h1,h2⟩:=Fe hr ha;cases e0;obtain⟨zv,tU,yv⟩:=Hh hz;have GM:∀(es:Array MapEntry) (q:Option (Nat×Aa)),(Instr.lookup t (a.eval m) (a.eval k) ok).run C.P w=(JX kt e (a.eval k) ok es).run C.P w->
   ∀n,a.eval k= .int .i64 n->(match q with|none=>Instr.findNow (.int .i64) (.int .i64 n) es.toList 0=some none|some (j,v)=>∃(e:MapEntry),Instr.findNow (.int .i64) (.int .i64 n) es.toList 0=some (some (j,e.val))/\BH γ v e.val/\0<=j/\es.toList[j-0]?=some e/\e.key= .int .i64 n)->
   eC z ok q=r->FM C γ0 w0 o a w (σ.put o.dst (.val r)) h:=by
  intro es q Wi n fy hq Wg;have vL:(Instr.checkKey es.isEmpty 10000 kt (.int .i64 n)).run C.P w= .ok () w:=MapKept.run_checkKey (k:= .int .i64 n) hk (by simp[MapKept.IsKey]) es.isEmpty 9999;have AV:∃v,(Instr.lookup t (a.eval m) (a.eval k) ok).run C.P w= .ok v w/\BH γ r v:=by
   cases q with
   |none=>
    refine⟨if ok then .tuple #[zv,.bool false] else zv,?_,?_⟩;·rw[Wi,fy];unfold JX;simp only[Sem.run_bind,Result.andThen_ok,vL,MapKept.run_findKey hk hq,yv,Sem.run_bind,Sem.run_pure]
    .rw[<-Wg];have hvz:=EU (γ:=γ) tU;cases ok with
     |true=>exact⟨_,rfl,_,_,rfl,hvz,_,_,rfl,rfl,rfl⟩
     |false=>exact hvz
   |some p=>
    obtain⟨j,v⟩:=p;obtain⟨en,q1,q2,_⟩:=hq;refine⟨if ok then .tuple #[en.val,.bool true] else en.val,?_,?_⟩;·rw[Wi,fy];unfold JX;simp only[Sem.run_bind,Result.andThen_ok,vL,MapKept.run_findKey hk q1,Sem.run_bind,Sem.run_pure]
    .rw[<-Wg];cases ok with
     |true=>exact⟨_,rfl,_,_,rfl,q2,_,_,rfl,rfl,rfl⟩
     |false=>exact q2
  obtain⟨v,AV,kR⟩:=AV;exact FM.value (by simp only[execOp,ho];exact Dr AV) (hr.put λ_ _=>kR)
 unfold kH at hm;split at hm;·rename_i n;cases hm;exact GM #[] none (by rw[show a.eval m=_ from h1];simp only[Instr.lookup,JX,Sem.run_bind,run_underlying ht,Result.andThen_ok,Sem.run_pure];rfl) n h2 rfl rfl
 .rename_i id n;obtain⟨b,hb,vK⟩:=h1;split at hm
  .rename_i es Wi;obtain⟨Dj,clock,hw,hM,_⟩:=hr.DD.map id es Wi b hb;cases hf:Kq n es 0 with
   |none=>rw[hf] at hm;cases hm
   |some q=>
    rw[hf] at hm;simp only[BT,BF,KU] at hm;obtain⟨rfl,hm⟩:=hm;refine GM Dj q (by rw[vK];simp only[Instr.lookup,JX,Sem.run_bind,run_underlying ht,MapKept.run_getObj_map hw,Result.andThen_ok,Sem.run_pure];rfl) n h2 ?_ ?_
    .have:=RK (i:=0) hM hf;cases q with
     |none=>exact this
     |some p=>exact this
    .exact hm
  .cases hm
 .cases hm
theorem KZ.aDw{k v:Aa}{e:MapEntry}(hk:BH γ k e.key)(hv:BH γ v e.val):∀{es:List (Aa×Aa)} {l:List MapEntry},KZ γ es l->KZ γ (es++[(k,v)]) (l++[e])
 |[],l,hM=>by rw[show l=[] from hM];exact⟨e,[],rfl,hk,hv,rfl⟩
 |(k',v')::es,l,hM=>by obtain⟨e',l',rfl,h1,h2,h3⟩:=hM;exact⟨e',_,rfl,h1,h2,KZ.aDw hk hv h3⟩
theorem KZ.length:∀{es:List (Aa×Aa)} {l:List MapEntry},KZ γ es l->l.length=es.length
 |[],l,hM=>by rw[show l=[] from hM];rfl
 |(k',v')::es,l,hM=>by obtain⟨e',l',rfl,h1,h2,h3⟩:=hM;simp[KZ.length h3]
theorem KZ.modify{v:Aa}{u:Value}(hv:BH γ v u):∀{es:List (Aa×Aa)} {l:List MapEntry} {j:Nat} {k v0:Aa},KZ γ es l->es[j]?=some (k,v0)->KZ γ (es.set j (k,v)) (l.modify j λe=>{e with val:=u})
 |[],l,j,k,v0,hM,hj=>by simp at hj
 |(k',v')::es,l,j,k,v0,hM,hj=>by
  obtain⟨e',l',rfl,h1,h2,h3⟩:=hM;cases j with
  |zero=>cases hj;exact⟨{e' with val:=u},l',by simp,h1,hv,h3⟩
  |succ j=>exact⟨e',l'.modify j _,by simp,h1,h2,KZ.modify hv h3 (by simpa using hj)⟩
theorem aI{es:Array MapEntry}{j:Nat}{e:MapEntry}{k:Value}(hj:es[j]?=some e)(hk:e.key=k):(es.modify j λe=>{e with key:=k})=es:=by
 apply Array.ext_getElem?;intro i;rw[td];split;·rename_i hi;subst hi;rw[hj];simp[<-hk]
 .rfl
theorem fF{o:Oper}{t kt e:TypeId}{m k:Operand}{vm vk z r:Aa}{h':Ag}(ho:o.op= .mapEntry t m k)(ht:C.P.underlying t=some (.map kt e))(hk:C.P.underlying kt=some (.int .i64))(hz:GO C.P e=some z)(ha:Br C σ [m,k]=some [vm,vk])(hm:TM h z vm vk=some (h',r))(hr:CT C γ0 w0 γ β σ h a w):
  FM C γ0 w0 o a w (σ.put o.dst (.val r)) h':=by
 obtain⟨_,_,e0,h1,h2⟩:=Fe hr ha;cases e0;obtain⟨zv,tU,yv⟩:=Hh hz;unfold TM at hm;split at hm
 .rename_i id n;obtain⟨b,hb,vK⟩:=h1;have hke:a.eval k= .int .i64 n:=h2;split at hm
  .rename_i es Wi;obtain⟨Dj,clock,hw,hM,hB⟩:=hr.DD.map id es Wi b hb;have vL:(Instr.checkKey false 10000 kt (.int .i64 n)).run C.P w= .ok () w:=MapKept.run_checkKey (k:= .int .i64 n) hk (by simp[MapKept.IsKey]) false 9999;cases hf:Kq n es 0 with
   |none=>rw[hf] at hm;cases hm
   |some q=>
    rw[hf] at hm;have hq:=RK (i:=0) hM hf;cases q with
    |none=>
     simp only[BT,BF,KU] at hm;obtain⟨rfl,rfl⟩:=hm;have AV:(Instr.mapEntry t (a.eval m) (a.eval k)).run C.P w= .ok (.tuple #[zv,goInt clock]) {w with heap:=w.heap.setIfInBounds b (.map (Dj.push {key:= .int .i64 n,val:=zv,born:=clock}) (clock+1))}:=by rw[vK,hke];simp[Instr.mapEntry,run_underlying ht,MapKept.run_getObj_map hw,vL,MapKept.run_findKey hk hq,yv,MapKept.run_setObj_map _ hw,Result.andThen]
     obtain⟨hi,JE⟩:=OG (TQ:=es++[(.int .i64 n,z)]) (ents':=Dj.push {key:= .int .i64 n,val:=zv,born:=clock}) (clock':=clock+1) hr.DD Wi hb hw ⟨by have:=KZ.aDw (γ:=γ) (k:= .int .i64 n) (v:=z) (e:={key:= .int .i64 n,val:=zv,born:=clock}) rfl (EU tU) hM;simpa using this,Xi hB⟩
     refine FM.value (by simp only[execOp,ho];exact Dr AV) ((hr.world hi JE).put λ_ _=>⟨_,rfl,zv,_,rfl,EU tU,_,[],rfl,?_,rfl⟩);rw[hB.1];have:=hM.length;simp only[Ci] at this;rw[<-this];rfl
    |some p=>
     obtain⟨j,v⟩:=p;simp only[BT,BF,KU] at hm;obtain⟨rfl,rfl⟩:=hm;obtain⟨en,q1,q2,_,q4,q5⟩:=hq;have hj:Dj[j]?=some en:=by simpa using q4
     have aDx:=hB.2 j en hj;have qW:w.heap.setIfInBounds b (.map Dj clock)=w.heap:=by
      apply Array.ext_getElem?;intro i;rw[Array.getElem?_setIfInBounds];split;·rename_i hi;subst hi;have hlt:=(A4.1 hw).1;rw[if_pos hlt,hw]
      .rfl
     have AV:(Instr.mapEntry t (a.eval m) (a.eval k)).run C.P w= .ok (.tuple #[en.val,goInt j]) w:=by rw[vK,hke];simp[Instr.mapEntry,run_underlying ht,MapKept.run_getObj_map hw,vL,MapKept.run_findKey hk q1,hj,q5,MapKept.run_keyThatStays (d:= .int .i64) (k:= .int .i64 n) (by simp[MapKept.IsKey]),MapKept.run_setObj_map _ hw,Result.andThen,aDx,aI hj q5,qW]
     exact FM.value (by simp only[execOp,ho];exact Dr AV) (hr.put λ_ _=>⟨_,rfl,_,_,rfl,q2,_,[],rfl,rfl,rfl⟩)
  .cases hm
 .cases hm
theorem Yh{es:Array MapEntry}(hB:∀(i:Nat) (e:MapEntry),es[i]?=some e->e.born=i){j:Nat}{e:MapEntry}(hj:es[j]?=some e):es.findIdx? (λe=>(e.born:Int)==(j:Int))=some j:=by
 rw[Array.findIdx?_eq_some_iff_getElem];obtain⟨hl,he⟩:=A4.1 hj;refine⟨hl,?_,λi hi=>?_⟩;·have:=hB j _ (C3 hl);simp[this]
 .have:=hB i _ (C3 (by omega));simp[this];omega
theorem fG{o:Oper}{t:TypeId}{m s x:Operand}{vm vs vx r:Aa}{h':Ag}(ho:o.op= .entryStore t m s x)(hd:o.dst=none)(ha:Br C σ [m,s,x]=some [vm,vs,vx])(hm:TN h vm vs vx=some (h',r))(hr:CT C γ0 w0 γ β σ h a w):FM C γ0 w0 o a w σ h':=by
 obtain⟨h1,h2,h3⟩:=UK hr ha;have ME:∀w',(Instr.entryStore t (a.eval m) (a.eval s) (a.eval x)).run C.P w= .ok () w'->(execOp a.eval o).run C.P w= .ok .skip w':=λw' AV=>by simp[execOp,ho,AV]
 unfold TN at hm;split at hm
 .rename_i id n;obtain⟨b,hb,vK⟩:=h1;have Ku:a.eval s= .int .i64 n:=h2;split at hm
  .rename_i es Wi;split at hm
   .rename_i hn;split at hm
    .rename_i kk v0 hk;cases hm;obtain⟨Dj,clock,hw,hM,hB⟩:=hr.DD.map id es Wi b hb;have hlen:=hM.length;have hlt:=(Ae.1 hk).1;have hje:∃en,Dj[n.toNat]?=some en:=⟨Dj[n.toNat]'(by simp at hlen;omega),C3 _⟩;obtain⟨en,hj⟩:=hje;have tQ:((n.toNat:Nat):Int)=n:=by omega
     have aDy:=Yh hB.2 hj;rw[tQ] at aDy;have AV:(Instr.entryStore t (a.eval m) (a.eval s) (a.eval x)).run C.P w= .ok () {w with heap:=w.heap.setIfInBounds b (.map (Dj.modify n.toNat λe=>{e with val:=a.eval x}) clock)}:=by rw[vK,Ku];simp[Instr.entryStore,MapKept.run_getObj_map hw,asInt,asIntOf,aDy,MapKept.run_setObj_map _ hw,Result.andThen]
     obtain⟨hi,JE⟩:=OG (TQ:=es.set n.toNat (kk,vx)) (ents':=Dj.modify n.toNat λe=>{e with val:=a.eval x}) (clock':=clock) hr.DD Wi hb hw ⟨by have:=KZ.modify h3 hM hk;simpa using this,SH hB λ_=>rfl⟩
     exact FM.skip (ME _ AV) (by rw[hd];exact hr.world hi JE)
    .cases hm
   .cases hm
  .cases hm
 .cases hm
end
end Go.Am
end
