/- Lemmas -/
import Derived.Test.YtbnogamdhadfcaaGreatDoorU5
import Derived.MapKept
set_option linter.unusedVariables false
set_option linter.unusedSimpArgs false
section
namespace Go.Am
open Go
section
variable{C:FI}{γ0 γ γ':Gh}{w0 w w':World}{β:Nat->Nat}{σ:BD}{h:Ae}{a:Act}{fid:FuncId}{ops:List Oper}
theorem aA{s t:As}(h:s≠t):((⟨⟨s⟩⟩:ByteArray)==⟨⟨t⟩⟩)=false:=by
 refine Bool.eq_false_iff.2 λhc=>h ?_;have:=(MapKept.bytes_beq _ _).1 hc;injection this with this
 injection this with this
theorem UI(s:As):((⟨⟨s⟩⟩:ByteArray)==⟨⟨s⟩⟩)=true:=(MapKept.bytes_beq _ _).2 rfl
theorem aB{s:As}:∀{es:List (Aa×Aa)} {l:List MapEntry} {i:Nat} {r:Option Aa},KX γ es l->Ud s es=some r->
  match r with
  |none=>Instr.findNow .string (.string ⟨⟨s⟩⟩) l i=some none
  |some v=>∃(j:Nat) (e:MapEntry),Instr.findNow .string (.string ⟨⟨s⟩⟩) l i=some (some (i+j,e.val))/\BF γ v e.val
 |[],l,i,r,hM,hf=>by rw[show l=[] from hM];cases hf;rfl
 |(k,v)::es,l,i,r,hM,hf=>by
  obtain⟨e,l',rfl,h1,h2,h3⟩:=hM;unfold Ud at hf;split at hf;·rename_i Ji;cases Ji
  .rename_i t v' TO Ji;cases Ji;have hk:e.key= .string ⟨⟨t⟩⟩:=h1;split at hf;·rename_i hst;subst hst;cases hf;exact⟨0,e,by simp[Instr.findNow,hk,Instr.sameNow,UI],h2⟩
   .rename_i hst;have ih:=aB (i:=i+1) h3 hf;have hne:=aA hst;cases r with
    |none=>simpa[Instr.findNow,hk,Instr.sameNow,hne] using ih
    |some v2=>obtain⟨j,e2,q1,q2⟩:=ih;exact⟨j+1,e2,by simp only[Instr.findNow,hk,Instr.sameNow,hne];rw[q1];congr 3;omega,q2⟩
  .cases hf
theorem kU{s:As}{v:Aa}{u:Value}(hv:BF γ v u):∀{es TO:List (Aa×Aa)} {l:List MapEntry} {i:Nat},KX γ es l->Ns s v es=some TO->
  (Instr.findNow .string (.string ⟨⟨s⟩⟩) l i=some none/\∀born,KX γ TO (l++[{key:= .string ⟨⟨s⟩⟩,val:=u,born}]))\/
  ∃j e,Instr.findNow .string (.string ⟨⟨s⟩⟩) l i=some (some (i+j,e.val))/\l[j]?=some e/\e.key= .string ⟨⟨s⟩⟩/\KX γ TO (l.modify j λe=>{e with key:= .string ⟨⟨s⟩⟩,val:=u})
 |[],TO,l,i,hM,hp=>by rw[show l=[] from hM];cases hp;exact .inl ⟨rfl,λborn=>⟨_,[],rfl,rfl,hv,rfl⟩⟩
 |(k,v0)::es,TO,l,i,hM,hp=>by
  obtain⟨e,l',rfl,h1,h2,h3⟩:=hM;unfold Ns at hp;split at hp;·rename_i Ji;cases Ji
  .rename_i t v' es2 Ji;cases Ji;have hk:e.key= .string ⟨⟨t⟩⟩:=h1;split at hp;·rename_i hst;subst hst;cases hp;exact .inr ⟨0,e,by simp[Instr.findNow,hk,Instr.sameNow,UI],rfl,hk,_,l',rfl,rfl,hv,h3⟩
   .rename_i hst;have hne:=aA hst;cases hq:Ns s v es with
    |none=>rw[hq] at hp;cases hp
    |some es3=>
     rw[hq] at hp;cases hp;rcases kU hv (i:=i+1) h3 hq with⟨q1,q2⟩|⟨j,e2,q1,q2,q3,q4⟩
     .exact .inl ⟨by simpa[Instr.findNow,hk,Instr.sameNow,hne] using q1,λborn=>⟨e,_,rfl,h1,h2,q2 born⟩⟩
     .exact .inr ⟨j+1,e2,by simp only[Instr.findNow,hk,Instr.sameNow,hne];rw[q1];congr 3;omega,q2,q3,e,_,by simp,h1,h2,q4⟩
  .cases hp
theorem Xh{es:Array MapEntry}{clock:Nat}{k v:Value}(h:clock=es.size/\∀(i:Nat) (e:MapEntry),es[i]?=some e->e.born=i):
  clock+1=(es.push {key:=k,val:=v,born:=clock}).size/\∀(i:Nat) (e:MapEntry),(es.push {key:=k,val:=v,born:=clock})[i]?=some e->e.born=i:=by
 obtain⟨rfl,h⟩:=h;refine⟨by simp,λi e he=>?_⟩;rw[Array.getElem?_push] at he;split at he;·rename_i hi;cases he;exact hi.symm
 .exact h i e he
theorem SD{es:Array MapEntry}{clock j:Nat}{f:MapEntry->MapEntry}(h:clock=es.size/\∀(i:Nat) (e:MapEntry),es[i]?=some e->e.born=i)(hf:∀e,(f e).born=e.born):
  clock=(es.modify j f).size/\∀(i:Nat) (e:MapEntry),(es.modify j f)[i]?=some e->e.born=i:=by
 refine⟨by simpa using h.1,λi e he=>?_⟩;rw[s_] at he;split at he
 .cases hx:es[i]? with
  |none=>rw[hx] at he;cases he
  |some x=>rw[hx] at he;cases he;rw[hf];exact h.2 i x hx
 .exact h.2 i e he
theorem OB(hi:Gs γ h w){g id:Nat}{es TO:List (Aa×Aa)}(Wh:h[id]?=some (.map es))(hg:γ.mu id=some g){o:Obj}{ents':Array MapEntry}{clock':Nat}(hw:w.heap[g]?=some o)(hr:uP γ TO ents' clock'):
  Gs γ (h.set id (.map TO)) {w with heap:=w.heap.setIfInBounds g (.map ents' clock')}/\J1 γ w γ {w with heap:=w.heap.setIfInBounds g (.map ents' clock')}:=by
 obtain⟨g',p,Rp⟩:=hi.KW id _ Wh (by simp);rw[hg] at p;cases p;obtain⟨L8,hother⟩:=MapKept.heap_set (o':= .map ents' clock') hw;have uniq:∀Fa x,h[Fa]?=some x->x≠ .CG->γ.mu Fa=some g->Fa=id:=λFa x hx yl hm=>by obtain⟨b',p,q⟩:=hi.KW Fa x hx yl;rw[hm] at p;cases p;rw[Rp] at q;cases q;rfl
 constructor
 .refine⟨λb o v hb=>?_,λFa y Hj hy=>?_,λFa cs hc b hb=>?_,λFa es2 hc b hb=>?_,λFa b hb=>by simpa using hi.mu Fa b hb,λb x hx=>?_,λb n hb=>?_⟩;rotate_left 5
  .obtain⟨⟨eJ,e2,uR,p,q⟩,r⟩:=hi.sz b n hb;have hne:b≠g:=λhe=>by subst he;obtain⟨ents0,clock0,p0,_⟩:=hi.map id es Wh b hg;rw[p] at p0;cases p0
   exact⟨⟨eJ,e2,uR,by rw[hother b hne];exact p,q⟩,r⟩
  .obtain⟨p,q,r⟩:=hi.HA b o v hb;have:b≠g:=λhe=>by subst he;rw[Rp] at r;rcases r with r|⟨_,_,_,r,_⟩<;>cases r
   exact⟨by rw[Cw (w:=w) (hother b this)];exact p,q,r⟩
  .by_cases he:Fa=id;·subst he;exact⟨g,hg,Rp⟩
   .rw[Aj (λx=>he x.symm)] at Hj;exact hi.KW Fa y Hj hy
  .by_cases he:Fa=id;·subst he;rw[AN (hi.mu _ _ hg)] at hc;cases hc
   .rw[Aj (λx=>he x.symm)] at hc;have Sw:b≠g:=λhx=>by subst hx;exact he (uniq Fa _ hc (by simp) hb)
    obtain⟨eJ,e2,uR,p,pf,q,r⟩:=hi.cells Fa cs hc b hb;exact⟨eJ,e2,uR,by rw[hother b Sw];exact p,pf,q,r⟩
  .by_cases he:Fa=id;·subst he;rw[hg] at hb;cases hb;rw[AN (hi.mu _ _ hg)] at hc;cases hc;exact⟨ents',clock',L8,hr⟩
   .rw[Aj (λx=>he x.symm)] at hc;have Sw:b≠g:=λhx=>by subst hx;exact he (uniq Fa _ hc (by simp) hb)
    obtain⟨Dl,clock,p,q⟩:=hi.map Fa es2 hc b hb;exact⟨Dl,clock,by rw[hother b Sw];exact p,q⟩
  .have:=hi.own b x hx;simpa using this
 .refine⟨.refl _,by simp,rfl,rfl,rfl,λb hb hn=>⟨?_,rfl⟩⟩;exact hother b (λhe=>by subst he;exact hn id Rp)
theorem UJ(hr:CS C γ0 w0 γ β σ h a w){x y z:Operand}{u1 u2 u3:Aa}(ha:Bq C σ [x,y,z]=some [u1,u2,u3]):BF γ u1 (a.eval x)/\BF γ u2 (a.eval y)/\BF γ u3 (a.eval z):=by obtain⟨_,_,_,e,h1,h2,h3⟩:=(Dx hr ha).Sx;simp only[Bl,DQ,Hr,NB] at e;obtain⟨rfl,rfl,rfl⟩:=e;exact⟨h1,h2,h3⟩
theorem aC{o:Oper}{t kt e:TypeId}{m k x:Operand}{vm vk vx:Aa}{h':Ae}(ho:o.op= .insert t m k x\/o.op= .mapUpdate t m k x)(hd:o.dst=none)(ht:C.P.underlying t=some (.map kt e))(hk:C.P.underlying kt=some .string)(ha:Bq C σ [m,k,x]=some [vm,vk,vx])
  (hm:Sq h vm vk vx=some h') (hr:CS C γ0 w0 γ β σ h a w):FM C γ0 w0 o a w σ h':=by
 obtain⟨h1,h2,h3⟩:=UJ hr ha;have MB:∀w',(Instr.mapUpdate t (a.eval m) (a.eval k) (a.eval x)).run C.P w= .ok () w'->(execOp a.eval o).run C.P w= .ok .skip w':=λw' AU=>by rcases ho with ho|ho<;>simp[execOp,ho,AU]
 unfold Sq at hm;split at hm
 .rename_i id s;obtain⟨b,hb,vH⟩:=h1;have hke:a.eval k= .string ⟨⟨s⟩⟩:=h2;split at hm
  .rename_i es Wh;cases hp:Ns s vx es with
   |none=>rw[hp] at hm;cases hm
   |some TO=>
    rw[hp] at hm;cases hm;obtain⟨Dl,clock,hw,hM,hB⟩:=hr.DD.map id es Wh b hb;have vI:(Instr.checkKey false 10000 kt (.string ⟨⟨s⟩⟩)).run C.P w= .ok () w:=MapKept.run_checkKey (k:= .string ⟨⟨s⟩⟩) hk (by simp[MapKept.IsKey]) false 9999;rcases kU h3 (i:=0) hM hp with⟨q1,q2⟩|⟨j,en,q1,q2,q3,q4⟩
    .have AU:(Instr.mapUpdate t (a.eval m) (a.eval k) (a.eval x)).run C.P w= .ok () {w with heap:=w.heap.setIfInBounds b (.map (Dl.push {key:= .string ⟨⟨s⟩⟩,val:=a.eval x,born:=clock}) (clock+1))}:=by rw[vH,hke];simp[Instr.mapUpdate,run_underlying ht,MapKept.run_getObj_map hw,vI,MapKept.run_findKey hk q1,MapKept.run_setObj_map _ hw,Result.andThen]
     obtain⟨hi,JA⟩:=OB (TO:=TO) (ents':=Dl.push {key:= .string ⟨⟨s⟩⟩,val:=a.eval x,born:=clock}) (clock':=clock+1) hr.DD Wh hb hw ⟨by simpa using q2 clock,Xh hB⟩;exact FM.skip (MB _ AU) (by rw[hd];exact hr.world hi JA)
    .have hj:Dl[j]?=some en:=by simpa using q2
     rw[BJ] at q1;have AU:(Instr.mapUpdate t (a.eval m) (a.eval k) (a.eval x)).run C.P w= .ok () {w with heap:=w.heap.setIfInBounds b (.map (Dl.modify j λe=>{e with key:= .string ⟨⟨s⟩⟩,val:=a.eval x}) clock)}:=by rw[vH,hke];simp[Instr.mapUpdate,run_underlying ht,MapKept.run_getObj_map hw,vI,MapKept.run_findKey hk q1,hj,q3,MapKept.run_keyThatStays (d:= .string) (k:= .string ⟨⟨s⟩⟩) (by simp[MapKept.IsKey]),MapKept.run_setObj_map _ hw,Result.andThen]
     obtain⟨hi,JA⟩:=OB (TO:=TO) (ents':=Dl.modify j λe=>{e with key:= .string ⟨⟨s⟩⟩,val:=a.eval x}) (clock':=clock) hr.DD Wh hb hw ⟨by simpa using q4,SD hB λ_=>rfl⟩;exact FM.skip (MB _ AU) (by rw[hd];exact hr.world hi JA)
  .cases hm
 .cases hm
theorem vJ{o:Oper}{t:TypeId}(ho:o.op= .makeMap t none)(hr:CS C γ0 w0 γ β σ h a w):FM C γ0 w0 o a w (σ.put o.dst (.val (.map (some h.length)))) (h++[.map []]):=by
 obtain⟨hi,ha⟩:=F0 hr.DD (.map #[] 0) (.map []) none (.inr ⟨rfl,rfl,rfl⟩);have AU:(Instr.makeMap t none).run C.P w= .ok (.map (some w.heap.size)) (w.alloc (.map #[] 0)):=by simp[Instr.makeMap]
 exact FM.value (by simp only[execOp,ho];exact Dq AU) ((hr.world hi ha).put λ_ _=>⟨w.heap.size,by simp[Gh.BL],rfl⟩)
def JS(key elem:TypeId)(index:Value)(commaOk:Bool)(es:Array MapEntry):Sem Value:=do
 Instr.checkKey es.isEmpty 10000 key index
 let(v,ok)<-match<-Instr.findKey key index es.toList with
  |some (_,v)=>pure (v,true)
  |none=>pure (<-zeroValue elem,false)
 pure (if commaOk then .tuple #[v,.bool ok] else v)
theorem vK{o:Oper}{t kt e:TypeId}{m k:Operand}{vm vk z r:Aa}{ok:Bool}(ho:o.op= .lookup t m k ok)(ht:C.P.underlying t=some (.map kt e))(hk:C.P.underlying kt=some .string)(hz:GN C.P e=some z)(ha:Bq C σ [m,k]=some [vm,vk])(hm:Sr h z ok vm vk=some r)(hr:CS C γ0 w0 γ β σ h a w):
  FM C γ0 w0 o a w (σ.put o.dst (.val r)) h:=by
 obtain⟨_,_,e0,h1,h2⟩:=Fc hr ha;cases e0;obtain⟨zv,tT,yy⟩:=Hd hz;have Hy:∀(es:Array MapEntry) (q:Option Aa),(Instr.lookup t (a.eval m) (a.eval k) ok).run C.P w=(JS kt e (a.eval k) ok es).run C.P w->
   ∀s,a.eval k= .string ⟨⟨s⟩⟩->(match q with|none=>Instr.findNow .string (.string ⟨⟨s⟩⟩) es.toList 0=some none|some v=>∃(j:Nat) (e:MapEntry),Instr.findNow .string (.string ⟨⟨s⟩⟩) es.toList 0=some (some (0+j,e.val))/\BF γ v e.val)->
   (match q with|some v=>if ok then Aa.tuple [v,.bool true] else v|none=>if ok then .tuple [z,.bool false] else z)=r->FM C γ0 w0 o a w (σ.put o.dst (.val r)) h:=by
  intro es q Wh s fo hq Wg;have vI:(Instr.checkKey es.isEmpty 10000 kt (.string ⟨⟨s⟩⟩)).run C.P w= .ok () w:=MapKept.run_checkKey (k:= .string ⟨⟨s⟩⟩) hk (by simp[MapKept.IsKey]) es.isEmpty 9999;have AU:∃v,(Instr.lookup t (a.eval m) (a.eval k) ok).run C.P w= .ok v w/\BF γ r v:=by
   cases q with
   |none=>
    refine⟨if ok then .tuple #[zv,.bool false] else zv,?_,?_⟩;·rw[Wh,fo];unfold JS;simp only[Sem.run_bind,Result.andThen_ok,vI,MapKept.run_findKey hk hq,yy,Sem.run_bind,Sem.run_pure]
    .rw[<-Wg];have hvz:=ES (γ:=γ) tT;cases ok with
     |true=>exact⟨_,rfl,_,_,rfl,hvz,_,_,rfl,rfl,rfl⟩
     |false=>exact hvz
   |some v=>
    obtain⟨j,en,q1,q2⟩:=hq;refine⟨if ok then .tuple #[en.val,.bool true] else en.val,?_,?_⟩;·rw[Wh,fo];unfold JS;simp only[Sem.run_bind,Result.andThen_ok,vI,MapKept.run_findKey hk q1,Sem.run_bind,Sem.run_pure]
    .rw[<-Wg];cases ok with
     |true=>exact⟨_,rfl,_,_,rfl,q2,_,_,rfl,rfl,rfl⟩
     |false=>exact q2
  obtain⟨v,AU,kS⟩:=AU;exact FM.value (by simp only[execOp,ho];exact Dq AU) (hr.put λ_ _=>kS)
 unfold Sr at hm;cases hf:Ue h vm vk with
 |none=>rw[hf] at hm;cases hm
 |some q=>
  rw[hf] at hm;simp only[BR,BC] at hm;unfold Ue at hf;split at hf;·rename_i s;cases hf;exact Hy #[] none (by rw[show a.eval m=_ from h1];simp only[Instr.lookup,JS,Sem.run_bind,run_underlying ht,Result.andThen_ok,Sem.run_pure];rfl) s h2 rfl hm
  .rename_i id s;obtain⟨b,hb,vH⟩:=h1;split at hf;·rename_i es Wh;obtain⟨Dl,clock,hw,hM,_⟩:=hr.DD.map id es Wh b hb;exact Hy Dl q (by rw[vH];simp only[Instr.lookup,JS,Sem.run_bind,run_underlying ht,MapKept.run_getObj_map hw,Result.andThen_ok,Sem.run_pure];rfl) s h2 (aB (i:=0) hM hf) hm
   .cases hf
  .cases hf
theorem fF{size:Nat}{v:Aa}(h:PE size v=true):v= .slnil\/v= .sl size []:=by
 unfold PE at h;split at h;·exact .inl rfl
 .exact .inr (by simpa using h)
 .cases h
theorem qR{o:Oper}{c:Call}{t t' e:TypeId}{n b:Nat}{s x:Operand}{v u r:Aa}{h':Ae}(ho:o.op= .call c)(hc:c.callee= .builtin .append)(h0:c.argTypes[0]?=some t)(h1:c.argTypes[1]?=some t')(Ee:c.args.toList=[s,x])(ht:C.P.underlying t=some (.slice e))
  (FJ:(∃e',C.P.underlying t'=some (.slice e'))\/C.P.underlying t'=some .string) (hsz:BP C.P e=some (n+1)) (vC:I5 C.P e=some (b+1)) (E2:JZ C σ s=true) (dU:LP C.P e=true) (hv:Bq C σ [s,x]=some [v,u])
  (hp:Jt h (n+1) (b+1) v u=some (h',r)) (hr:CS C γ0 w0 γ β σ h a w):FM C γ0 w0 o a w ((σ.Dm (CZ σ s)).put o.dst (.val r)) h':=by
 obtain⟨i,z,hi,hz,ZF⟩:=Lv dU;have O0:=IQ hsz hi;have yu:=KD vC hi;obtain⟨_,_,e0,hvs,fC⟩:=Fc hr hv;cases e0;have ez:Es C σ s=some v:=by
  unfold Bq at hv;split at hv;·rename_i p ps q1 q2;cases hv;exact q1
  .cases hv
 have Ie:PE (n+1) v=true/\((∃Au,HE (n+1) (b+1) .slnil u=some (.sl (n+1) Au)/\Au≠[]/\u= .sl (n+1) Au/\Au.length*(b+1)<=AS/\h'=h++[.cells Au.flatten]/\r= .Cm h.length 0 Au.length (n+1))\/((u= .slnil\/∃z',u= .sl z' [])/\h'=h/\r=v)):=by
  unfold Jt at hp;split at hp
  .rename_i z' Au;split at hp
   .rename_i Xf;refine⟨Xf,?_⟩;split at hp;·cases hp;exact .inr ⟨.inr ⟨_,rfl⟩,rfl,rfl⟩
    .rename_i hne;split at hp
     .rename_i HI;cases hp;obtain⟨rfl,hb⟩:=HI;refine .inl ⟨Au,?_,hne,rfl,hb,rfl,rfl⟩;cases Au with
      |nil=>exact absurd rfl hne
      |cons q Au=>simp only[HE,DN,BN];rw[if_pos hb]
     .cases hp
   .cases hp
  .split at hp;·rename_i Xf;cases hp;exact⟨Xf,.inr ⟨.inl rfl,rfl,rfl⟩⟩
   .cases hp
  .cases hp
 obtain⟨Xf,Ie⟩:=Ie;obtain⟨γ1,DW,Jq,Du,hT⟩:=NS hr E2 ez (σ.Dm (CZ σ s)).length none;have Ji:c.args.map a.eval=#[a.eval s,a.eval x]:=by apply Jf;simp[Ee]
 have MB:∀v' w',(Builtin.append_ #[t,t'] o.type #[a.eval s,a.eval x]).run C.P w= .ok v' w'->(execOp a.eval o).run C.P w= .ok (.value v') w':=λv' w' AU=>by
  have:execOp a.eval o=(do pure (Next.value (<-Builtin.append_ #[t,t'] o.type #[a.eval s,a.eval x]))):=by rw[<-Ji,<-MQ (ty:=o.type) h0 h1];simp only[execOp,ho,resolve,hc];rfl
  rw[this];exact Dq AU
 have kV:(a.eval s= .slice none 0 0/\v= .slnil)\/∃g cap us e1,a.eval s= .slice (some ⟨g,0,none⟩) 0 cap/\v= .sl (n+1) []/\γ1.own g=some (.tail (σ.Dm (CZ σ s)).length none 0)/\w0.heap.size<=g/\w.heap[g]?=some (.cells us e1 (0,0))/\us.size=cap*(n+1)/\cap<=maxLen:=by
  rcases hT with hT|⟨g,k,cap,us,e1,zz,rr,qO,Ks,Rp,hB,hg,WW,fc,hm,hzz⟩
  .rw[hT] at Du;exact .inl ⟨Du,hT⟩
  .rcases fF Xf with hv0|hv0
   .rw[hv0] at qO;cases qO
   .rw[hv0] at qO;cases qO;have hk:k=0:=by rw[hv0,Ks] at Du;obtain⟨ad0,cap0,fB,_⟩:=Du;simp only[Value.slice.injEq] at fB;exact fB.2.1
    subst hk;exact .inr ⟨g,cap,us,e1,Ks,hv0,by simpa using Rp,hB,hg,WW,hm⟩
 rcases Ie with⟨Au,GO,hne,hux,Pc,rfl,rfl⟩|⟨hux,rfl,rfl⟩
 .obtain⟨rows',news,SC,Jz,ub,dV⟩:=kT (w:=w) FJ hr.DD fC GO;have aD:rows'=Au:=by
   cases rows' with
   |nil=>simp[DN] at SC
   |cons q rows'=>
    simp only[DN] at SC;split at SC;·cases SC;rfl
    .cases SC
  subst aD;have vD:=A8.mono DW _ _ ub;have KA:Src C.P i.size t' (a.eval x) rows'.length news w:=by rw[O0];exact Jz
  have Nt:news.length=rows'.length*(n+1):=Jz.newsLen;have GI:rows'.flatten.length=news.length:=by rw[ub.length]
  have hpos:0<rows'.length:=FX.2 hne;have Sw:rows'.length<=AS:=Bt (OW _ (Dd b)) Pc;have Ft:∀(base:Option Addr) (cap:Nat),a.eval s= .slice base 0 cap->(Builtin.firstCells i.size 0 (.slice base 0 cap)).run C.P w.drew= .ok #[] w.drew->cap<rows'.length->
    FM C γ0 w0 o a w ((σ.Dm (CZ σ s)).put o.dst (.val (.Cm h.length 0 rows'.length (n+1)))) (h++[.cells rows'.flatten]):=by
   intro base cap hs hfirst hlt;have Fo:=run_append_grow_src (P:=C.P) w t t' o.type e i z ht hi hz base 0 cap [] hfirst (a.eval x) rows'.length news KA (by omega) (by simp only[AS] at Sw;omega) (by rw[yu,BJ];exact growslice_fits hlt Pc);rw[<-hs,BJ] at Fo;have D2:=grownCap_ge w rows'.length cap e;have SE:(([]++news).toArray++Builtin.zeroCells z.cells (grownCap w rows'.length cap e-rows'.length)).toList.take rows'.flatten.length=news:=by simp only[Js,BH];rw[GI];exact GW
   have vL:(([]++news).toArray++Builtin.zeroCells z.cells (grownCap w rows'.length cap e-rows'.length)).size=grownCap w rows'.length cap e*(n+1):=by simp only[Qi,B6,size_zeroCells,ZF,O0,BH,Nt,<-BA];congr 1;omega
   obtain⟨γ2,Z6,Th,K0,QD⟩:=Jq.drew.newObj (([]++news).toArray++Builtin.zeroCells z.cells (grownCap w rows'.length cap e-rows'.length)) e (0,0) rows'.flatten (.inl rfl) (by rw[SE];exact vD) (by rw[SE];exact Jz.one);exact FM.value (MB _ _ Fo) (K0.put λ_ _=>⟨w.heap.size,_,Th,rfl,D2,⟨Dd n,grownCap_le_maxLen w _ _ _ (by simp only[AS] at Sw;simp only[maxLen];omega)⟩,by rw[BJ,<-vL];exact QD⟩)
  rcases kV with⟨Ks,rfl⟩|⟨g,cap,us,e1,Ks,rfl,Rp,hB,hg,WW,fq⟩
  .exact Ft none 0 Ks (run_firstCells_none _ _ _ _ _) hpos
  .by_cases hroom:rows'.length<=cap
   .have hfit:news.length<=us.size:=by rw[Nt,WW];exact Ez _ hroom
    have AU:=run_append_room_src (P:=C.P) w t t' o.type e i ht hi g 0 0 cap (a.eval x) rows'.length news KA (by omega) (λj hj=>by rw[cell_of_row w _ _ us e1 (0,0) hg,O0,C3 (by omega)];rfl) (λj hj=>frozen_of_row w _ _ us e1 hg)
    rw[cz,BJ,BJ,Ed news 0 us w hg (by omega),<-Ks] at AU;have SE:((us.toList.take 0++news++us.toList.drop (0+news.length)).toArray).toList.take rows'.flatten.length=news:=by simp only[L0,BH];rw[GI];exact GW
    obtain⟨γ2,Z6,Th,K0,QD⟩:=Jq.aDu Rp hB hg (us.toList.take 0++news++us.toList.drop (0+news.length)).toArray rows'.flatten (by rw[SE];exact vD) (by rw[SE];exact Jz.one);exact FM.value (MB _ _ AU) (K0.put λ_ _=>⟨g,cap,Th,rfl,hroom,⟨Dd n,fq⟩,by rw[QD,BJ,<-WW];simp;omega⟩)
   .exact Ft (some ⟨g,0,none⟩) cap Ks (by simpa using run_firstCells_some (P:=C.P) w.drew i.size 0 ⟨g,0,none⟩ 0 cap [] (by simp) (by simp)) (by omega)
 .have Jz:Src C.P i.size t' (a.eval x) 0 [] w:=by
   rcases hux with rfl|⟨z',rfl⟩
   .rw[show a.eval x=_ from fC];exact⟨FJ,λ_=>rfl,run_firstCells_none w _ 0 0 0,run_firstCells_none w.drew _ 0 0 0,by simp,by simp⟩
   .obtain⟨ad0,cap0,fB,_⟩:=fC;rw[fB];exact⟨FJ,λ_=>rfl,by simpa using run_firstCells_some (P:=C.P) w i.size 0 ad0 0 cap0 [] (by simp) (by simp),by simpa using run_firstCells_some (P:=C.P) w.drew i.size 0 ad0 0 cap0 [] (by simp) (by simp),by simp,by simp⟩
  rcases kV with⟨Ks,rfl⟩|⟨g,cap,us,e1,Ks,rfl,Rp,hB,hg,WW,fq⟩
  .have AU:(Builtin.append_ #[t,t'] o.type #[a.eval s,a.eval x]).run C.P w= .ok (.slice none 0 0) w:=by rw[Ks];have hl:=Jz.len;have Ww:=Jz.cells;rcases FJ with⟨e',hk⟩|hk<;>simp[Builtin.append_,run_underlying ht,run_underlying hk,sizeOf,typeInfo,hi,hl,Ww]
   exact FM.value (MB _ _ AU) (Jq.put λ_ _=>rfl)
  .have AU:=run_append_room_src (P:=C.P) w t t' o.type e i ht hi g 0 0 cap (a.eval x) 0 [] Jz (by omega) (by simp) (by simp);rw[<-Ks] at AU;simp only[World.setCells] at AU;exact FM.value (MB _ _ AU) (Jq.put λ_ _=>Du)
theorem CS.kill(hr:CS C γ0 w0 γ β σ h a w)(id:Nat):CS C γ0 w0 γ β σ (h.set id .CG) a w:=by
 have key:∀{Fa:Nat} {x:De},(h.set id .CG)[Fa]?=some x->x≠ .CG->h[Fa]?=some x:=λ{Fa x} hx hd=>by
  by_cases he:id=Fa
  .subst he;rw[List.getElem?_set] at hx;simp only[BN] at hx;split at hx;·cases hx;exact absurd rfl hd
   .cases hx
  .rwa [Aj he] at hx
 exact⟨⟨hr.DD.HA,λFa y Hj hy=>hr.DD.KW Fa y (key Hj hy) hy,λFa cs hc b hb=>hr.DD.cells Fa cs (key hc (by simp)) b hb,λFa es hc b hb=>hr.DD.map Fa es (key hc (by simp)) b hb,λFa b hb=>by simpa using hr.DD.mu Fa b hb,hr.DD.own,hr.DD.sz⟩,hr.fr,hr.Dw,hr.defers,hr.Gj⟩
theorem CS.fG(hr:CS C γ0 w0 γ β σ h a w){id g:Nat}{cs:List Aa}(hcs:h[id]?=some (.cells cs))(hg:γ.mu id=some g){us:Array Value}{e:TypeId}{fr:Nat×Nat}(hw:w.heap[g]?=some (.cells us e fr))(Ti:γ.sz g=some us.size)(Dk:Array Value)(Gf:List Aa)(WW:Dk.size=us.size)(kN:RD fr Dk.size)
  (hv:A8 γ Gf (Dk.toList.take Gf.length)) (h1:∀u∈Dk.toList.take Gf.length,u.oneCell'=true):∃γ',γ.le γ'/\γ'.mu h.length=some g/\CS C γ0 w0 γ' β σ (h.set id .CG++[.cells Gf]) a (w.setRow g Dk)/\γ'.sz g=some us.size:=by
 obtain⟨g',p,Rp⟩:=hr.DD.KW id _ hcs (by simp);rw[hg] at p;cases p;have qS:id<h.length:=hr.DD.mu _ _ hg;have hmu:γ.mu h.length=none:=by
  cases hc:γ.mu h.length with
  |none=>rfl
  |some y=>exact absurd (hr.DD.mu _ y hc) (C8 _)
 have uniq:∀Fa x,h[Fa]?=some x->x≠ .CG->γ.mu Fa=some g->Fa=id:=λFa x hx yl hm=>by obtain⟨b',p,q⟩:=hr.DD.KW Fa x hx yl;rw[hm] at p;cases p;rw[Rp] at q;cases q;rfl
 have DW:γ.le (γ.BL g h.length (some us.size)):=⟨λ_ _ _ hv=>hv,λFa b hm=>by
  have:Fa≠h.length:=λhe=>by rw[he,hmu] at hm;cases hm
  simp only[Gh.BL,if_neg this];exact hm,λb n hm=>by
  by_cases he:b=g;·subst he;rw[Ti] at hm;cases hm;simp[Gh.BL]
  .simp only[Gh.BL,if_neg he];exact hm⟩
 have old:∀{Fa:Nat} {x:De},(h.set id .CG++[De.cells Gf])[Fa]?=some x->x≠ .CG->Fa≠h.length->h[Fa]?=some x/\Fa≠id:=λ{Fa x} hx hd hne=>by
  have hlt:Fa<(h.set id .CG).length:=by rw[Ah] at hx;obtain⟨hl,_⟩:=hx;simp at hl⊢;omega
  rw[Ad hlt] at hx;by_cases he:id=Fa;·subst he;rw[AN (by simpa using hlt)] at hx;cases hx;exact absurd rfl hd
  .rw[Aj he] at hx;exact⟨hx,λh=>he h.symm⟩
 have aJr:Gs (γ.BL g h.length (some us.size)) (h.set id .CG++[.cells Gf]) (w.setRow g Dk):=by
  refine⟨λb o v hb=>?_,λFa y Hj hy=>?_,λFa QE hc b hb=>?_,λFa es hc b hb=>?_,λFa b hb=>?_,λb y hy=>?_,λb n hb=>?_⟩
  .obtain⟨p,q,r⟩:=hr.DD.HA b o v hb;have MI:b≠g:=λhe=>by subst he;rw[Rp] at r;rcases r with r|⟨_,_,_,r,_⟩<;>cases r
   exact⟨by rw[Cw (setRow_other w g b Dk MI)];exact p,q,by simp only[Gh.BL,if_neg MI];exact r⟩
  .by_cases he:Fa=h.length;·exact⟨g,by simp[Gh.BL,he],by simp[Gh.BL,he]⟩
   .obtain⟨qT,hne⟩:=old Hj hy he;obtain⟨b,p,q⟩:=hr.DD.KW Fa y qT hy;have MI:b≠g:=λhx=>by subst hx;exact hne (uniq Fa y qT hy p)
    exact⟨b,by simp only[Gh.BL,if_neg he];exact p,by simp only[Gh.BL,if_neg MI];exact q⟩
  .by_cases he:Fa=h.length;·subst he;simp[Gh.BL] at hb;subst hb;rw[Bg (by simp)] at hc;simp at hc;subst hc;exact⟨Dk,e,fr,setRow_heap w g us Dk e fr hw,kN,A8.mono DW _ _ hv,h1⟩
   .simp only[Gh.BL,if_neg he] at hb;obtain⟨HV,hne⟩:=old hc (by simp) he;have MI:b≠g:=λhx=>by subst hx;exact hne (uniq Fa _ HV (by simp) hb)
    obtain⟨eJ,e2,uR,p,pf,q,r⟩:=hr.DD.cells Fa QE HV b hb;exact⟨eJ,e2,uR,by rw[setRow_other w g b Dk MI];exact p,pf,A8.mono DW _ _ q,r⟩
  .by_cases he:Fa=h.length;·subst he;rw[Bg (by simp)] at hc;simp at hc
   .simp only[Gh.BL,if_neg he] at hb;obtain⟨HV,hne⟩:=old hc (by simp) he;have MI:b≠g:=λhx=>by subst hx;exact hne (uniq Fa _ HV (by simp) hb)
    obtain⟨Dl,clock,p,q⟩:=hr.DD.map Fa es HV b hb;exact⟨Dl,clock,by rw[setRow_other w g b Dk MI];exact p,q.mono DW⟩
  .by_cases he:Fa=h.length;·simp[he]
   .simp only[Gh.BL,if_neg he] at hb;have:=hr.DD.mu Fa b hb;simp;omega
  .by_cases MI:b=g;·subst MI;have:=hr.DD.own _ _ Rp;simpa[World.setRow] using this
   .simp only[Gh.BL,if_neg MI] at hy;have:=hr.DD.own b y hy;simpa[World.setRow] using this
  .by_cases he:b=g;·subst he;simp only[Gh.BL,BN] at hb;cases hb;exact⟨⟨Dk,e,fr,setRow_heap w b us Dk e fr hw,WW⟩,.inr ⟨h.length,by simp[Gh.BL]⟩⟩
   .simp only[Gh.BL,if_neg he] at hb⊢;obtain⟨p,r⟩:=hr.DD.sz b n hb;exact⟨by rw[setRow_other w g b Dk he];exact p,r⟩
 refine⟨_,DW,by simp[Gh.BL],hr.world aJr ⟨DW,by simp[World.setRow],rfl,rfl,rfl,λb hb hn=>?_⟩,by simp[Gh.BL]⟩;have MI:b≠g:=λhe=>by subst he;exact hn id Rp
 exact⟨setRow_other w g b Dk MI,by simp only[Gh.BL,if_neg MI]⟩
theorem vM{o:Oper}{c:Call}{t t' e:TypeId}{n b:Nat}{s x:Operand}{v u r:Aa}{h':Ae}(ho:o.op= .call c)(hc:c.callee= .builtin .append)(h0:c.argTypes[0]?=some t)(h1:c.argTypes[1]?=some t')(Ee:c.args.toList=[s,x])(ht:C.P.underlying t=some (.slice e))
  (FJ:(∃e',C.P.underlying t'=some (.slice e'))\/C.P.underlying t'=some .string) (hsz:BP C.P e=some (n+1)) (vC:I5 C.P e=some (b+1)) (dU:LP C.P e=true) (hv:Bq C σ [s,x]=some [v,u])
  (hp:Fo h (n+1) (b+1) v u=some (h',r)) (hr:CS C γ0 w0 γ β σ h a w):FM C γ0 w0 o a w (σ.put o.dst (.val r)) h':=by
 obtain⟨i,z,hi,hz,ZF⟩:=Lv dU;have O0:=IQ hsz hi;have yu:=KD vC hi;obtain⟨_,_,e0,hvs,fC⟩:=Fc hr hv;cases e0;have Ji:c.args.map a.eval=#[a.eval s,a.eval x]:=by apply Jf;simp[Ee]
 have MB:∀v' w',(Builtin.append_ #[t,t'] o.type #[a.eval s,a.eval x]).run C.P w= .ok v' w'->(execOp a.eval o).run C.P w= .ok (.value v') w':=λv' w' AU=>by
  have:execOp a.eval o=(do pure (Next.value (<-Builtin.append_ #[t,t'] o.type #[a.eval s,a.eval x]))):=by rw[<-Ji,<-MQ (ty:=o.type) h0 h1];simp only[execOp,ho,resolve,hc];rfl
  rw[this];exact Dq AU
 unfold Fo at hp;cases hq:Gi h (n+1) u with
 |none=>rw[hq] at hp;cases hp
 |some Au=>
  rw[hq] at hp;obtain⟨news,Jz,Xf,dV⟩:=UF (w:=w) FJ hr.DD fC hq;have KA:Src C.P i.size t' (a.eval x) Au.length news w:=by rw[O0];exact Jz
  have Nt:news.length=Au.length*(n+1):=Jz.newsLen;have GI:Au.flatten.length=news.length:=by rw[Xf.length]
  cases Au with
  |nil=>
   have tP:news=[]:=EW (by simpa using Nt);subst tP;cases v with
   |slnil=>
    cases hp;have Ks:a.eval s= .slice none 0 0:=hvs;have AU:(Builtin.append_ #[t,t'] o.type #[a.eval s,a.eval x]).run C.P w= .ok (.slice none 0 0) w:=by rw[Ks];have hl:=KA.len;have Ww:=KA.cells;simp only[BT] at hl Ww;rcases FJ with⟨e',hk⟩|hk<;>simp[Builtin.append_,run_underlying ht,run_underlying hk,sizeOf,typeInfo,hi,hl,Ww]
    exact FM.value (MB _ _ AU) (hr.put λ_ _=>rfl)
   |Cm id off k z'=>
    simp only at hp;split at hp;·cases hp;obtain⟨g,cap,hg,Ks,fc,dd,Ti⟩:=(show BF γ _ _ from hvs);have AU:=run_append_room_src (P:=C.P) w t t' o.type e i ht hi g off k cap (a.eval x) 0 [] KA (by omega) (by simp) (by simp);rw[<-Ks] at AU;simp only[World.setCells,Bn] at AU;exact FM.value (MB _ _ AU) (hr.put λ_ _=>⟨g,cap,hg,rfl,fc,dd,Ti⟩)
    .cases hp
   |_=>cases hp
  |cons q0 rows0=>
   generalize hR:q0::rows0=Au at*;have hpos:0<Au.length:=by rw[<-hR];simp
   have newrow:∀(h2:Ae) (base:Option Addr) (k cap:Nat) (pre:List Aa) (olds:List Value),CS C γ0 w0 γ β σ h2 a w->a.eval s= .slice base k cap->A8 γ pre olds->olds.length=k*(n+1)->(∀q∈olds,q.oneCell'=true)->
     (Builtin.firstCells i.size k (.slice base k cap)).run C.P w.drew= .ok olds.toArray w.drew->cap<k+Au.length->(k+Au.length)*(b+1)<=AS->
     FM C γ0 w0 o a w (σ.put o.dst (.val (.Cm h2.length 0 (k+Au.length) (n+1)))) (h2++[.cells (pre++Au.flatten)]):=by
    intro h2 base k cap pre olds K0 hs aDy tS yp hfirst hlt Pc;have Sw:k+Au.length<=AS:=Bt (OW _ (Dd b)) Pc;have Fo:=run_append_grow_src (P:=C.P) w t t' o.type e i z ht hi hz base k cap olds hfirst (a.eval x) Au.length news KA hlt (by simp only[AS] at Sw;omega) (by rw[yu];exact growslice_fits hlt Pc);rw[<-hs] at Fo;have D2:=grownCap_ge w (k+Au.length) cap e;have qN:(olds++news).length=(k+Au.length)*(n+1):=by rw[Aq,tS,Nt,BA]
    have ZD:(pre++Au.flatten).length=(olds++news).length:=by rw[Aq,Aq,aDy.length,GI]
    have vL:((olds++news).toArray++Builtin.zeroCells z.cells (grownCap w (k+Au.length) cap e-(k+Au.length))).size=grownCap w (k+Au.length) cap e*(n+1):=by simp only[Qi,B6,size_zeroCells,ZF,O0,qN,<-BA];congr 1;omega
    have SE:((olds++news).toArray++Builtin.zeroCells z.cells (grownCap w (k+Au.length) cap e-(k+Au.length))).toList.take (pre++Au.flatten).length=olds++news:=by simp only[Js];rw[ZD];exact GW
    obtain⟨γ2,Z6,Th,yv,QD⟩:=K0.drew.newObj ((olds++news).toArray++Builtin.zeroCells z.cells (grownCap w (k+Au.length) cap e-(k+Au.length))) e (0,0) (pre++Au.flatten) (.inl rfl) (by rw[SE];exact aDy.append Xf) (by rw[SE];intro q hq;exact(Ao.1 hq).elim (yp q) (Jz.one q))
    exact FM.value (MB _ _ Fo) (yv.put λ_ _=>⟨w.heap.size,_,Th,rfl,D2,⟨Dd n,grownCap_le_maxLen w _ _ _ (by simp only[AS] at Sw;simp only[maxLen];omega)⟩,by rw[BJ,<-vL];exact QD⟩)
   cases v with
   |slnil=>
    have Ks:a.eval s= .slice none 0 0:=hvs;rw[<-hR] at hp;simp only at hp;rw[hR] at hp;split at hp;·rename_i Pc;cases hp;have:=newrow h none 0 0 [] [] hr Ks rfl (by simp) (by simp) (run_firstCells_none _ _ _ _ _) (by omega) (by simpa using Pc);simpa using this
    .cases hp
   |Cm id off k z'=>
    rw[<-hR] at hp;simp only at hp;rw[hR] at hp;split at hp
    .rename_i cs hcs;split at hp
     .rename_i hzz;subst hzz;obtain⟨g,cap,hg,Ks,fc,dd,Ti⟩:=(show BF γ _ _ from hvs);obtain⟨us,e1,fr,p1,pf,p2,p3⟩:=hr.DD.cells id cs hcs g hg;obtain⟨⟨tR,e00,fr0,q1,q2⟩,_⟩:=hr.DD.sz g _ Ti;rw[p1] at q1;cases q1;have ZE:cs.length<=us.size:=by have:=p2.length;simp at this;omega
      have Mb:∀j,(⟨g,off,none⟩:Addr).add j=⟨g,off+j,none⟩:=λj=>by unfold Addr.add;split<;>simp_all
      have froz:∀o,o<us.size->w.frozen? ⟨g,o,none⟩=false:=λo ho=>by
       simp only[World.frozen?,p1];rcases pf with rfl|kN
       .simp
       .simp;omega
      have room:k+Au.length<=cap->(Builtin.append_ #[t,t'] o.type #[a.eval s,a.eval x]).run C.P w= .ok (.slice (some ⟨g,off,none⟩) (k+Au.length) cap) (w.setRow g (us.toList.take (off+k*(n+1))++news++us.toList.drop (off+k*(n+1)+news.length)).toArray)/\off+k*(n+1)+news.length<=us.size:=by
       intro hroom;have hfit:off+k*(n+1)+news.length<=us.size:=by rw[Nt,q2,Nat.add_assoc,<-BA];exact Nat.add_le_add_left (Ez _ hroom) _
       have AU:=run_append_room_src (P:=C.P) w t t' o.type e i ht hi g off k cap (a.eval x) Au.length news KA hroom (λj hj=>by rw[cell_of_row w _ _ us e1 fr p1,O0,C3 (by omega)];rfl) (λj hj=>by rw[O0];exact froz _ (by omega))
       rw[O0,Ed news _ us w p1 hfit,<-Ks] at AU;exact⟨AU,hfit⟩
      have Uv:(k+Au.length)*(n+1)=k*(n+1)+Au.length*(n+1):=BA _ _ _;split at hp
      .rename_i hin;cases hp;have hroom:k+Au.length<=cap:=by
        have h3:(k+Au.length)*(n+1)<=cap*(n+1):=by omega
        exact Nat.le_of_mul_le_mul_right h3 (Dd n)
       obtain⟨AU,hfit⟩:=room hroom;have e2:off+(k+Au.length)*(n+1)=off+k*(n+1)+news.length:=by rw[Nt,Uv];omega
       have hcl:(cs.take (off+k*(n+1))++Au.flatten++cs.drop (off+(k+Au.length)*(n+1))).length=cs.length:=by rw[e2,Aq,Aq,Al,A7,GI];omega
       have SE:((us.toList.take (off+k*(n+1))++news++us.toList.drop (off+k*(n+1)+news.length)).toArray).toList.take (cs.take (off+k*(n+1))++Au.flatten++cs.drop (off+(k+Au.length)*(n+1))).length=
         (us.toList.take cs.length).take (off+k*(n+1))++news++(us.toList.take cs.length).drop (off+k*(n+1)+news.length):=by
        rw[hcl];simp only[Wl];exact Lu (by simpa using ZE) (by omega) rfl
       obtain⟨TR,Nv⟩:=L7 hr.DD hcs hg p1 (us.toList.take (off+k*(n+1))++news++us.toList.drop (off+k*(n+1)+news.length)).toArray (cs.take (off+k*(n+1))++Au.flatten++cs.drop (off+(k+Au.length)*(n+1)))
        (by simp only[B6,Aq,Al,A7,Ch];omega)
        (by
         rcases pf with rfl|pf
         .exact .inl rfl
         .refine .inr (Bt (WS ?_) pf);simp only[B6,Aq,Al,A7,Ch];omega)
        (by rw[SE,e2];exact MO p2 Xf)
        (by
         rw[SE];intro q hq;rcases Ao.1 hq with hq|hq
         .rcases Ao.1 hq with hq|hq
          .exact p3 q (Bf hq)
          .exact Jz.one q hq
         .exact p3 q (Bw hq))
       exact FM.value (MB _ _ AU) ((hr.world TR Nv).put λ_ _=>⟨g,cap,hg,rfl,hroom,dd,Ti⟩)
      .rename_i hout;split at hp
       .rename_i HI;obtain⟨rfl,Oz,Pc⟩:=HI;cases hp;simp only[BJ] at*;by_cases hroom:k+Au.length<=cap
        .obtain⟨AU,hfit⟩:=room hroom;have ZD:(cs.take (k*(n+1))++Au.flatten).length=k*(n+1)+news.length:=by rw[Aq,Al,GI];omega
         have SE:((us.toList.take (k*(n+1))++news++us.toList.drop (k*(n+1)+news.length)).toArray).toList.take (cs.take (k*(n+1))++Au.flatten).length=(us.toList.take cs.length).take (k*(n+1))++news:=by
          rw[ZD];simp only[Wl];have:(us.toList.take (k*(n+1))++news).length=k*(n+1)+news.length:=by rw[Aq,Al,Ch];omega
          rw[<-this,GW,GV,Cn Oz]
         obtain⟨γ2,Z6,Th,K0,QD⟩:=hr.fG hcs hg p1 (by rw[Ti,q2]) (us.toList.take (k*(n+1))++news++us.toList.drop (k*(n+1)+news.length)).toArray (cs.take (k*(n+1))++Au.flatten)
          (by simp only[B6,Aq,Al,A7,Ch];omega)
          (by
           rcases pf with rfl|pf
           .exact .inl rfl
           .refine .inr (Bt (WS ?_) pf);simp only[B6,Aq,Al,A7,Ch];omega)
          (by rw[SE];exact(p2.take _).append Xf)
          (by
           rw[SE];intro q hq;rcases Ao.1 hq with hq|hq
           .exact p3 q (Bf hq)
           .exact Jz.one q hq)
         exact FM.value (MB _ _ AU) (K0.put λ_ _=>⟨g,cap,Th,rfl,hroom,dd,by rw[QD,q2];simp⟩)
        .have tS:((us.toList.take cs.length).take (k*(n+1))).length=k*(n+1):=by simp;omega
         have:=newrow (h.set id .CG) (some ⟨g,0,none⟩) k cap (cs.take (k*(n+1))) ((us.toList.take cs.length).take (k*(n+1))) (hr.kill id) Ks (p2.take _) tS (λq hq=>p3 q (Bf hq))
          (by
           rw[O0];exact run_firstCells_some w.drew _ _ _ _ _ _ tS (λj y hj=>by
            rw[Mb];show w.cell? _=_;rw[cell_of_row w _ _ us e1 fr p1];rw[Cg] at hj;split at hj
            .rw[Cg] at hj;split at hj;·simpa using hj
             .cases hj
            .cases hj)) (by omega) Pc
         simpa using this
       .cases hp
     .cases hp
    .cases hp
   |_=>rw[<-hR] at hp;cases hp
end
section
variable{C:FI}{γ0 γ γ':Gh}{w0 w w':World}{β:Nat->Nat}{σ:BD}{h:Ae}{a:Act}{fid:FuncId}{ops:List Oper}
theorem aE(hi:Gs γ h w){id g off:Nat}{cs avs:List Aa}{news:List Value}(hcs:h[id]?=some (.cells cs))(hg:γ.mu id=some g)(hv:A8 γ avs news)(h1:∀u∈news,u.oneCell'=true)(hl:off+avs.length<=cs.length):
  ∃w',(storeCells ⟨g,off,none⟩ news).run C.P w= .ok () w'/\Gs γ (h.set id (.cells (cs.take off++avs++cs.drop (off+avs.length)))) w'/\J1 γ w γ w':=by
 obtain⟨us,e,fr,hw,pf,p5,p6⟩:=hi.cells id cs hcs g hg;have Nt:news.length=avs.length:=hv.length;have hlt:cs.length<=us.size:=by have:=p5.length;simp at this;omega
 have hs:=run_storeCells_cells (P:=C.P) g off news 0 w (λj hj=>by
  rw[cell_of_row w _ _ us e fr hw,Bn,C3 (by omega)];rfl) (λj hj=>by
  simp only[World.frozen?,hw];rcases pf with rfl|kN
  .simp
  .simp;omega) h1
 rw[Bn,Ed _ off us w hw (by omega)] at hs;have hcl:(cs.take off++avs++cs.drop (off+avs.length)).length=cs.length:=by simp;omega
 have SE:((us.toList.take off++news++us.toList.drop (off+news.length)).toArray).toList.take (cs.take off++avs++cs.drop (off+avs.length)).length=(us.toList.take cs.length).take off++news++(us.toList.take cs.length).drop (off+news.length):=by rw[hcl];simp only[Wl];exact Lu (by simpa using hlt) (by omega) rfl
 obtain⟨vN,ha⟩:=L7 hi hcs hg hw (us.toList.take off++news++us.toList.drop (off+news.length)).toArray (cs.take off++avs++cs.drop (off+avs.length))
  (by simp only[B6,Aq,Al,A7,Ch];omega)
  (by
   rcases pf with rfl|pf
   .exact .inl rfl
   .refine .inr (Bt (WS ?_) pf);simp only[B6,Aq,Al,A7,Ch];omega)
  (by rw[SE,Nt];exact MO p5 hv)
  (by
   rw[SE];intro q hq;rcases Ao.1 hq with hq|hq
   .rcases Ao.1 hq with hq|hq
    .exact p6 q (Bf hq)
    .exact h1 q hq
   .exact p6 q (Bw hq))
 exact⟨_,hs,vN,ha⟩
theorem fH{t t' ty:TypeId}{ts:Array TypeId}{xs:Array Value}(h0:ts[0]?=some t)(h1:ts[1]?=some t'):Builtin.copy_ ts ty xs=Builtin.copy_ #[t,t'] ty xs:=by simp only[Builtin.copy_,h0];rfl
theorem aF{P:Program}{t t' ty e:TypeId}{i:TypeInfo}(ht:P.underlying t=some (.slice e))(hi:P.info? e=some i){x:Value}{n:Nat}{news:List Value}(hs:Src P i.size t' x n news w){base:Option Addr}{k cap:Nat}(hk:n<=k)
  (hst:∀ad,base=some ad->(storeCells ad news).run P w= .ok () w') (Tg:base=none->w'=w):(Builtin.copy_ #[t,t'] ty #[.slice base k cap,x]).run P w= .ok (.int .i64 n) w':=by
 have hl:=hs.len w;have hc:=hs.cells;have hm:Nat.min n k=n:=Cn hk;cases base with
 |none=>cases Tg rfl;simp[Builtin.copy_,run_underlying ht,hl,hc,sizeOf,typeInfo,hi,hm,goInt]
 |some ad=>have h2:=hst ad rfl;simp[Builtin.copy_,run_underlying ht,hl,hc,sizeOf,typeInfo,hi,hm,goInt,h2]
theorem vO{o:Oper}{c:Call}{t t' e:TypeId}{n:Nat}{s x:Operand}{v u r:Aa}{h':Ae}(ho:o.op= .call c)(hc:c.callee= .builtin .copy)(h0:c.argTypes[0]?=some t)(h1:c.argTypes[1]?=some t')(Ee:c.args.toList=[s,x])(ht:C.P.underlying t=some (.slice e))
  (FJ:(∃e',C.P.underlying t'=some (.slice e'))\/C.P.underlying t'=some .string) (hsz:BP C.P e=some (n+1)) (hv:Bq C σ [s,x]=some [v,u])
  (hp:kG h (n+1) v u=some (h',r)) (hr:CS C γ0 w0 γ β σ h a w):FM C γ0 w0 o a w (σ.put o.dst (.val r)) h':=by
 obtain⟨_,_,e0,hvs,fC⟩:=Fc hr hv;cases e0;have Ji:c.args.map a.eval=#[a.eval s,a.eval x]:=by apply Jf;simp[Ee]
 have MB:∀v' w',(Builtin.copy_ #[t,t'] o.type #[a.eval s,a.eval x]).run C.P w= .ok v' w'->(execOp a.eval o).run C.P w= .ok (.value v') w':=λv' w' AU=>by
  have:execOp a.eval o=(do pure (Next.value (<-Builtin.copy_ #[t,t'] o.type #[a.eval s,a.eval x]))):=by rw[<-Ji,<-fH (ty:=o.type) h0 h1];simp only[execOp,ho,resolve,hc];rfl
  rw[this];exact Dq AU
 cases hi:C.P.info? e with
 |none=>simp[BP,hi] at hsz
 |some i=>
 have O0:=IQ hsz hi;unfold kG at hp;cases hq:Gi h (n+1) u with
 |none=>rw[hq] at hp;cases hp
 |some Au=>
  rw[hq] at hp;obtain⟨news,Jz,Xf,dV⟩:=UF (w:=w) FJ hr.DD fC hq;have KA:Src C.P i.size t' (a.eval x) Au.length news w:=by rw[O0];exact Jz
  have Nt:news.length=Au.length*(n+1):=Jz.newsLen;have GI:Au.flatten.length=news.length:=by rw[Xf.length]
  simp only at hp;split at hp
  .split at hp;·rename_i Wx;cases hp;have Ks:a.eval s= .slice none 0 0:=hvs;have AU:=aF (t:=t) (ty:=o.type) (w:=w) (w':=w) ht hi KA (base:=none) (k:=0) (cap:=0) (by omega) (λ_ e=>by cases e) (λ_=>rfl);rw[<-Ks] at AU;rw[Wx] at AU;exact FM.value (MB _ _ AU) (hr.put λ_ _=>rfl)
   .cases hp
  .rename_i id off k z;split at hp
   .rename_i cs hcs;split at hp;·rename_i HI;obtain⟨rfl,hrk,hlen⟩:=HI;cases hp;obtain⟨g,cap,hg,Ks,fc,dd,Ti⟩:=(show BF γ _ _ from hvs);have hm:=Ez (n+1) hrk;obtain⟨w',hst,vN,yo⟩:=aE (C:=C) (off:=off) hr.DD hcs hg Xf Jz.one (by omega);have AU:=aF (t:=t) (ty:=o.type) (w:=w) (w':=w') ht hi KA (base:=some ⟨g,off,none⟩) (k:=k) (cap:=cap) hrk (λ_ e=>by cases e;exact hst) (λe=>by cases e);rw[<-Ks] at AU;rw[show Au.length*(n+1)=Au.flatten.length by rw[GI,Nt]];exact FM.value (MB _ _ AU) ((hr.world vN yo).put λ_ _=>rfl)
    .cases hp
   .cases hp
  .cases hp
theorem aG{t ty:TypeId}{ts:Array TypeId}{xs:Array Value}(h0:ts[0]?=some t):Builtin.clear_ ts ty xs=Builtin.clear_ #[t] ty xs:=by simp only[Builtin.clear_,h0];rfl
theorem qU{o:Oper}{c:Call}{t e:TypeId}{n:Nat}{s:Operand}{v z r:Aa}{h':Ae}(ho:o.op= .call c)(hc:c.callee= .builtin .clear)(h0:c.argTypes[0]?=some t)(Ee:c.args.toList=[s])(ht:C.P.underlying t=some (.slice e))
  (hsz:BP C.P e=some (n+1)) (hz:GN C.P e=some z) (hv:Bq C σ [s]=some [v]) (hp:Ug h (n+1) z.cells v=some (h',r)) (hr:CS C γ0 w0 γ β σ h a w):FM C γ0 w0 o a w (σ.put o.dst .undef) h':=by
 obtain⟨_,e0,hvs⟩:=F8 hr hv;cases e0;have Ji:c.args.map a.eval=#[a.eval s]:=by apply Jf;simp[Ee]
 have MB:∀v' w',(Builtin.clear_ #[t] o.type #[a.eval s]).run C.P w= .ok v' w'->(execOp a.eval o).run C.P w= .ok (.value v') w':=λv' w' AU=>by
  have:execOp a.eval o=(do pure (Next.value (<-Builtin.clear_ #[t] o.type #[a.eval s]))):=by rw[<-Ji,<-aG (ty:=o.type) h0];simp only[execOp,ho,resolve,hc];rfl
  rw[this];exact Dq AU
 unfold Ug at hp;split at hp
 .cases hp;have Ks:a.eval s= .slice none 0 0:=hvs;have AU:(Builtin.clear_ #[t] o.type #[a.eval s]).run C.P w= .ok (.tuple #[]) w:=by rw[Ks];simp[Builtin.clear_,run_underlying ht]
  exact FM.value (MB _ _ AU) (hr.put λ_ _=>trivial)
 .rename_i id off k z';split at hp
  .rename_i cs hcs;split at hp
   .rename_i HI;obtain⟨rfl,hzl,hlen⟩:=HI;cases hp;obtain⟨g,cap,hg,Ks,fc,dd,Ti⟩:=(show BF γ _ _ from hvs);obtain⟨zv,tT,yy⟩:=Hd hz;obtain⟨q1,q2⟩:=Gx (γ:=γ) (ES tT) (by omega);have ZF:zv.cells.size=n+1:=by have:=q1.length;simp at this;omega
    have GI:(List.replicate k z.cells).flatten.length=k*(n+1):=by rw[Gy (z:=n+1) (λr hr=>by rw[List.eq_of_mem_replicate hr,hzl]),Iq]
    have hzc:∀(j:Nat) (u:Value),(Builtin.zeroCells zv.cells k).toList[j]?=some u->j<k*(n+1)/\zv.cells.toList[j%(n+1)]?=some u:=by
     intro j u hj;have fE:j<k*(n+1):=by have:=(Ah.1 hj).1;simpa[size_zeroCells,ZF] using this
     refine⟨fE,?_⟩;have yw:j%(n+1)<zv.cells.size:=by rw[ZF];exact Nat.mod_lt _ (Dd n)
     simp only[Builtin.zeroCells,tL,Cp] at hj;have hrange:(Array.range (k*zv.cells.size)).toList[j]?=some j:=by simp[ZF,fE]
     rw[hrange] at hj;simp only[BR,BC] at hj;rw[ZF] at hj;rw[<-hj];simp[yw]
    have hV:A8 γ (List.replicate k z.cells).flatten (Builtin.zeroCells zv.cells k).toList:=by refine A8.Gk (by simp only[Ch,size_zeroCells,ZF,GI]) λj x u hx hu=>?_;obtain⟨fE,hju⟩:=hzc j u hu;rw[Hl z.cells _ _ (by rw[hzl];exact fE),hzl] at hx;obtain⟨u',kO,yq⟩:=q1.get hx;rw[hju] at kO;cases kO;exact yq
    obtain⟨w',hst,vN,yo⟩:=aE (C:=C) (off:=off) hr.DD hcs hg hV (λu hu=>by obtain⟨j,hj⟩:=CT hu;exact q2 u (CD (hzc j u hj).2)) (by omega)
    have AU:(Builtin.clear_ #[t] o.type #[a.eval s]).run C.P w= .ok (.tuple #[]) w':=by
     rw[Ks];cases k with
     |zero=>
      have e1:(Builtin.zeroCells zv.cells 0).toList=[]:=by simp[Builtin.zeroCells]
      rw[e1] at hst;have:w'=w:=by have h2:(storeCells ⟨g,off,none⟩ []).run C.P w= .ok () w:=rfl;rw[h2] at hst;cases hst;rfl
      rw[this];simp[Builtin.clear_,run_underlying ht]
     |succ k=>simp[Builtin.clear_,run_underlying ht,yy,hst]
    rw[show k*(n+1)=(List.replicate k z.cells).flatten.length from GI.symm];exact FM.value (MB _ _ AU) ((hr.world vN yo).put λ_ _=>trivial)
   .cases hp
  .cases hp
 .cases hp
theorem vP{o:Oper}{t e:TypeId}{n:Nat}{x:Operand}{lo hi:Option Operand}{v r:Aa}{as:List Aa}{h':Ae}(ho:o.op= .slice t x lo hi none)(ht:C.P.underlying t=some (.slice e))(hsz:BP C.P e=some (n+1))
  (hv:Bq C σ (x::(lo.toList++hi.toList))=some (v::as)) (hp:ZO h (n+1) lo.isSome hi.isSome v as=some (h',r)) (hr:CS C γ0 w0 γ β σ h a w):FM C γ0 w0 o a w (σ.put o.dst (.val r)) h':=by
 have qO:=Dx hr hv;obtain⟨u,us,e1,hx,vQ⟩:=qO;simp only[Bl,Hr] at e1;obtain⟨rfl,rfl⟩:=e1;unfold ZO at hp;split at hp
 .rename_i id off k z;split at hp
  .rename_i cs hcs;split at hp
   .rename_i HI;obtain⟨rfl,hhi,aDr⟩:=HI;obtain⟨g,cap,hg,Ks,fc,dd,Ti⟩:=(show BF γ _ _ from hx);cases hb:DH lo.isSome hi.isSome ((cs.length-off)/(n+1)) as with
    |none=>rw[hb] at hp;cases hp
    |some lh=>
     obtain⟨l,q⟩:=lh;rw[hb] at hp;simp only[Cs] at hp;split at hp
     .rename_i hlt;cases hp;obtain⟨us,e1,fr,p1,pf,p2,p3⟩:=hr.DD.cells id cs hcs g hg;obtain⟨⟨tR,e00,fr0,q1,q2⟩,_⟩:=hr.DD.sz g _ Ti;rw[p1] at q1;cases q1;have ZE:cs.length<=us.size:=by have:=p2.length;simp at this;omega
      have aH:(cs.length-off)/(n+1)<=cap:=by refine Nat.div_le_of_le_mul ?_;rw[Nat.mul_comm];omega
      have e2:∀y:Option Operand,(y.map a.eval).isSome=y.isSome:=λy=>by cases y<;>rfl
      have e3:(lo.map a.eval).toList++(hi.map a.eval).toList=(lo.toList++hi.toList).map a.eval:=by cases lo<;>cases hi<;>rfl
      rw[<-e2 lo,<-e2 hi] at hb;obtain⟨k1,k2,k3⟩:=Jy (P:=C.P) (w:=w) (isSlice:=true) hb (by rw[e3];exact vQ) aH;have L8:Instr.sliceBounds true k cap (lo.map a.eval) (hi.map a.eval) none=Instr.sliceBounds true ((cs.length-off)/(n+1)) cap (lo.map a.eval) (hi.map a.eval) none:=by
       cases hi with
       |none=>cases hhi
       |some y=>rfl
      have FJ:C.P.underlying t=some (.slice (C.P.elem t)):=by simp[Program.elem,ht]
      have he:C.P.elem t=e:=by simp[Program.elem,ht]
      have AU:(Instr.sliceAt t (a.eval x) (lo.map a.eval) (hi.map a.eval) none).run C.P w= .ok (.slice (some ⟨g,off+l*(n+1),none⟩) (q-l) (cap-l)) w:=by rw[Ks,run_sliceAt_slice w t _ _ _ _ FJ,run_slice_any w t _ _ _ FJ,L8,k1,he,Result.andThen_ok,Dp hsz];show Result.ok (Value.slice (if cap=l then some ⟨g,off,none⟩ else Option.map (λq:Addr=>q.add (l*(n+1))) (some ⟨g,off,none⟩)) (q-l) (cap-l)) w=_;rw[if_neg (by omega)];simp only[BR];unfold Addr.add;split<;>simp_all
      refine FM.value (by simp only[execOp,ho];exact Dq AU) (hr.put λ_ _=>⟨g,cap-l,hg,rfl,by omega,⟨dd.1,Bt (Nat.sub_le _ _) dd.2⟩,?_⟩);rw[Ti,Nat.add_assoc,<-BA,Nat.add_sub_cancel' (by omega)]
     .cases hp
   .cases hp
  .cases hp
 .cases hp
theorem vR{o:Oper}{t e:TypeId}{n:Nat}{x lo hi mx:Operand}{args:List Aa}(ho:o.op= .slice t x (some lo) (some hi) (some mx))(ht:C.P.underlying t=some (.slice e))(hsz:BP C.P e=some (n+1))
  (hv:Bq C σ [x,lo,hi,mx]=some args) (hp:Uh (n+1) args=true) (hr:CS C γ0 w0 γ β σ h a w):FM C γ0 w0 o a w (σ.put o.dst .undef) h:=by
 have qO:=Dx hr hv;have FJ:C.P.underlying t=some (.slice (C.P.elem t)):=by simp[Program.elem,ht]
 have he:C.P.elem t=e:=by simp[Program.elem,ht]
 have Hy:∀(base:Option Addr) (len cap:Nat) (kl kr km:IntKind) (l r m:Int),a.eval x= .slice base len cap->a.eval lo= .int kl l->a.eval hi= .int kr r->a.eval mx= .int km m->0<=l->l<=r->r<=m->m<=cap->FM C γ0 w0 o a w (σ.put o.dst .undef) h:=by
  intro base len cap kl kr km l r m e1 e2 e3 e4 h1 h2 h3 h4;have AU:∃v,(Instr.sliceAt t (a.eval x) (some (a.eval lo)) (some (a.eval hi)) (some (a.eval mx))).run C.P w= .ok v w:=by
   have hm0:0<=m:=by omega
   have hr0:0<=r:=by omega
   have b1:∀code,(Instr.sliceBound (.int km m) cap code).run C.P w= .ok m.toNat w:=λcode=>by simp[Instr.sliceBound,asIntOf,hm0,h4]
   have b2:∀code,(Instr.sliceBound (.int kr r) m.toNat code).run C.P w= .ok r.toNat w:=λcode=>by simp[Instr.sliceBound,asIntOf,hr0,Nd hm0,h3]
   have b3:∀code,(Instr.sliceBound (.int kl l) r.toNat code).run C.P w= .ok l.toNat w:=λcode=>by simp[Instr.sliceBound,asIntOf,h1,Nd hr0,h2]
   rw[e1,e2,e3,e4];simp[Instr.sliceAt,Instr.slice,run_underlying ht,Instr.sliceBounds,b1,b2,b3,Dp hsz]
  obtain⟨v,AU⟩:=AU;exact FM.value (by simp only[execOp,ho];exact Dq AU) (hr.put λ_ _=>trivial)
 unfold Uh at hp;split at hp
 .rename_i s _ l _ r _ m;obtain⟨u1,us1,f1,g1,u2,eJ,f2,g2,u3,us3,f3,g3,u4,us4,f4,g4,f5⟩:=qO;subst f5;simp only[Bl,DQ] at f1;subst f4;subst f3;subst f2;simp only[Hr,NB] at f1;obtain⟨rfl,rfl,rfl,rfl⟩:=f1;split at hp;·simp only[BK,DI] at hp;obtain⟨⟨⟨⟨_,h1⟩,h2⟩,h3⟩,h4⟩:=hp;obtain⟨g,cap,hg,Ks,fc,_⟩:=(show BF γ _ _ from g1);exact Hy _ _ _ _ _ _ _ _ _ Ks (D3 g2) (D3 g3) (D3 g4) h1 h2 h3 (by omega)
  .simp only[BK,DI] at hp;obtain⟨⟨⟨⟨_,h1⟩,h2⟩,h3⟩,h4⟩:=hp;obtain⟨ad,cap,Ks,fc,_⟩:=(show BF γ _ _ from g1);exact Hy _ _ _ _ _ _ _ _ _ Ks (D3 g2) (D3 g3) (D3 g4) h1 h2 h3 (by omega)
  .cases hp
 .cases hp
theorem vS{o:Oper}{t:TypeId}{x:Operand}{v:Aa}{u:TypeDesc}(ho:o.op= .makeInterface t x)(ht:C.P.underlying t=some u)(hn:∀i,u≠ .interface i)(hv:Bq C σ [x]=some [v])(hr:CS C γ0 w0 γ β σ h a w):FM C γ0 w0 o a w (σ.put o.dst (.val (.iface t v))) h:=by
 obtain⟨_,e0,hvs⟩:=F8 hr hv;cases e0;have AU:(Instr.makeInterface t (a.eval x)).run C.P w= .ok (.iface t (a.eval x)) w:=by cases u<;>simp_all [Instr.makeInterface,run_underlying ht]
 exact FM.value (by simp only[execOp,ho];exact Dq AU) (hr.put λ_ _=>⟨_,rfl,hvs⟩)
theorem RH{n:Int}:∀{es:List (Aa×Aa)} {l:List MapEntry} {i:Nat} {r:Option (Nat×Aa)},KX γ es l->Ko n es i=some r->
  match r with
  |none=>Instr.findNow (.int .i64) (.int .i64 n) l i=some none
  |some (j,v)=>∃(e:MapEntry),Instr.findNow (.int .i64) (.int .i64 n) l i=some (some (j,e.val))/\BF γ v e.val/\i<=j/\l[j-i]?=some e/\e.key= .int .i64 n
 |[],l,i,r,hM,hf=>by rw[show l=[] from hM];cases hf;rfl
 |(k,v)::es,l,i,r,hM,hf=>by
  obtain⟨e,l',rfl,h1,h2,h3⟩:=hM;cases k with
  |int q t=>
   by_cases hq:q= .i64
   .subst hq;simp only[Ko] at hf;have hk:e.key= .int .i64 t:=h1;split at hf;·rename_i hst;subst hst;cases hf;exact⟨e,by simp[Instr.findNow,hk,Instr.sameNow],h2,Ac _,by simp,hk⟩
    .rename_i hst;have aDz:(n==t)=false:=by simpa using hst
     have ih:=RH (i:=i+1) h3 hf;cases r with
     |none=>simpa[Instr.findNow,hk,Instr.sameNow,aDz] using ih
     |some p=>obtain⟨j,v2⟩:=p;obtain⟨e2,q1,q2,q3,q4,q5⟩:=ih;refine⟨e2,by simpa[Instr.findNow,hk,Instr.sameNow,aDz] using q1,q2,by omega,?_,q5⟩;rw[show j-i=(j-(i+1))+1 by omega,tM];exact q4
   .exfalso;cases q<;>first|exact hq rfl|(simp[Ko] at hf)
  |_=>simp[Ko] at hf
theorem vT{o:Oper}{t kt e:TypeId}{m k:Operand}{vm vk z r:Aa}{ok:Bool}{h':Ae}(ho:o.op= .lookup t m k ok)(ht:C.P.underlying t=some (.map kt e))(hk:C.P.underlying kt=some (.int .i64))(hz:GN C.P e=some z)(ha:Bq C σ [m,k]=some [vm,vk])(hm:kH h z ok vm vk=some (h',r))(hr:CS C γ0 w0 γ β σ h a w):
  FM C γ0 w0 o a w (σ.put o.dst (.val r)) h':=by
 obtain⟨_,_,e0,h1,h2⟩:=Fc hr ha;cases e0;obtain⟨zv,tT,yy⟩:=Hd hz;have Hy:∀(es:Array MapEntry) (q:Option (Nat×Aa)),(Instr.lookup t (a.eval m) (a.eval k) ok).run C.P w=(JS kt e (a.eval k) ok es).run C.P w->
   ∀n,a.eval k= .int .i64 n->(match q with|none=>Instr.findNow (.int .i64) (.int .i64 n) es.toList 0=some none|some (j,v)=>∃(e:MapEntry),Instr.findNow (.int .i64) (.int .i64 n) es.toList 0=some (some (j,e.val))/\BF γ v e.val/\0<=j/\es.toList[j-0]?=some e/\e.key= .int .i64 n)->
   eE z ok q=r->FM C γ0 w0 o a w (σ.put o.dst (.val r)) h:=by
  intro es q Wh n fo hq Wg;have vI:(Instr.checkKey es.isEmpty 10000 kt (.int .i64 n)).run C.P w= .ok () w:=MapKept.run_checkKey (k:= .int .i64 n) hk (by simp[MapKept.IsKey]) es.isEmpty 9999;have AU:∃v,(Instr.lookup t (a.eval m) (a.eval k) ok).run C.P w= .ok v w/\BF γ r v:=by
   cases q with
   |none=>
    refine⟨if ok then .tuple #[zv,.bool false] else zv,?_,?_⟩;·rw[Wh,fo];unfold JS;simp only[Sem.run_bind,Result.andThen_ok,vI,MapKept.run_findKey hk hq,yy,Sem.run_bind,Sem.run_pure]
    .rw[<-Wg];have hvz:=ES (γ:=γ) tT;cases ok with
     |true=>exact⟨_,rfl,_,_,rfl,hvz,_,_,rfl,rfl,rfl⟩
     |false=>exact hvz
   |some p=>
    obtain⟨j,v⟩:=p;obtain⟨en,q1,q2,_⟩:=hq;refine⟨if ok then .tuple #[en.val,.bool true] else en.val,?_,?_⟩;·rw[Wh,fo];unfold JS;simp only[Sem.run_bind,Result.andThen_ok,vI,MapKept.run_findKey hk q1,Sem.run_bind,Sem.run_pure]
    .rw[<-Wg];cases ok with
     |true=>exact⟨_,rfl,_,_,rfl,q2,_,_,rfl,rfl,rfl⟩
     |false=>exact q2
  obtain⟨v,AU,kS⟩:=AU;exact FM.value (by simp only[execOp,ho];exact Dq AU) (hr.put λ_ _=>kS)
 unfold kH at hm;split at hm;·rename_i n;cases hm;exact Hy #[] none (by rw[show a.eval m=_ from h1];simp only[Instr.lookup,JS,Sem.run_bind,run_underlying ht,Result.andThen_ok,Sem.run_pure];rfl) n h2 rfl rfl
 .rename_i id n;obtain⟨b,hb,vH⟩:=h1;split at hm
  .rename_i es Wh;obtain⟨Dl,clock,hw,hM,_⟩:=hr.DD.map id es Wh b hb;cases hf:Ko n es 0 with
   |none=>rw[hf] at hm;cases hm
   |some q=>
    rw[hf] at hm;simp only[BR,BC,KS] at hm;obtain⟨rfl,hm⟩:=hm;refine Hy Dl q (by rw[vH];simp only[Instr.lookup,JS,Sem.run_bind,run_underlying ht,MapKept.run_getObj_map hw,Result.andThen_ok,Sem.run_pure];rfl) n h2 ?_ ?_
    .have:=RH (i:=0) hM hf;cases q with
     |none=>exact this
     |some p=>exact this
    .exact hm
  .cases hm
 .cases hm
theorem KX.aDA{k v:Aa}{e:MapEntry}(hk:BF γ k e.key)(hv:BF γ v e.val):∀{es:List (Aa×Aa)} {l:List MapEntry},KX γ es l->KX γ (es++[(k,v)]) (l++[e])
 |[],l,hM=>by rw[show l=[] from hM];exact⟨e,[],rfl,hk,hv,rfl⟩
 |(k',v')::es,l,hM=>by obtain⟨e',l',rfl,h1,h2,h3⟩:=hM;exact⟨e',_,rfl,h1,h2,KX.aDA hk hv h3⟩
theorem KX.length:∀{es:List (Aa×Aa)} {l:List MapEntry},KX γ es l->l.length=es.length
 |[],l,hM=>by rw[show l=[] from hM];rfl
 |(k',v')::es,l,hM=>by obtain⟨e',l',rfl,h1,h2,h3⟩:=hM;simp[KX.length h3]
theorem KX.modify{v:Aa}{u:Value}(hv:BF γ v u):∀{es:List (Aa×Aa)} {l:List MapEntry} {j:Nat} {k v0:Aa},KX γ es l->es[j]?=some (k,v0)->KX γ (es.set j (k,v)) (l.modify j λe=>{e with val:=u})
 |[],l,j,k,v0,hM,hj=>by simp at hj
 |(k',v')::es,l,j,k,v0,hM,hj=>by
  obtain⟨e',l',rfl,h1,h2,h3⟩:=hM;cases j with
  |zero=>cases hj;exact⟨{e' with val:=u},l',by simp,h1,hv,h3⟩
  |succ j=>exact⟨e',l'.modify j _,by simp,h1,h2,KX.modify hv h3 (by simpa using hj)⟩
theorem aI{es:Array MapEntry}{j:Nat}{e:MapEntry}{k:Value}(hj:es[j]?=some e)(hk:e.key=k):(es.modify j λe=>{e with key:=k})=es:=by
 apply Array.ext_getElem?;intro i;rw[s_];split;·rename_i hi;subst hi;rw[hj];simp[<-hk]
 .rfl
theorem fI{o:Oper}{t kt e:TypeId}{m k:Operand}{vm vk z r:Aa}{h':Ae}(ho:o.op= .mapEntry t m k)(ht:C.P.underlying t=some (.map kt e))(hk:C.P.underlying kt=some (.int .i64))(hz:GN C.P e=some z)(ha:Bq C σ [m,k]=some [vm,vk])(hm:TK h z vm vk=some (h',r))(hr:CS C γ0 w0 γ β σ h a w):
  FM C γ0 w0 o a w (σ.put o.dst (.val r)) h':=by
 obtain⟨_,_,e0,h1,h2⟩:=Fc hr ha;cases e0;obtain⟨zv,tT,yy⟩:=Hd hz;unfold TK at hm;split at hm
 .rename_i id n;obtain⟨b,hb,vH⟩:=h1;have hke:a.eval k= .int .i64 n:=h2;split at hm
  .rename_i es Wh;obtain⟨Dl,clock,hw,hM,hB⟩:=hr.DD.map id es Wh b hb;have vI:(Instr.checkKey false 10000 kt (.int .i64 n)).run C.P w= .ok () w:=MapKept.run_checkKey (k:= .int .i64 n) hk (by simp[MapKept.IsKey]) false 9999;cases hf:Ko n es 0 with
   |none=>rw[hf] at hm;cases hm
   |some q=>
    rw[hf] at hm;have hq:=RH (i:=0) hM hf;cases q with
    |none=>
     simp only[BR,BC,KS] at hm;obtain⟨rfl,rfl⟩:=hm;have AU:(Instr.mapEntry t (a.eval m) (a.eval k)).run C.P w= .ok (.tuple #[zv,goInt clock]) {w with heap:=w.heap.setIfInBounds b (.map (Dl.push {key:= .int .i64 n,val:=zv,born:=clock}) (clock+1))}:=by rw[vH,hke];simp[Instr.mapEntry,run_underlying ht,MapKept.run_getObj_map hw,vI,MapKept.run_findKey hk hq,yy,MapKept.run_setObj_map _ hw,Result.andThen]
     obtain⟨hi,JA⟩:=OB (TO:=es++[(.int .i64 n,z)]) (ents':=Dl.push {key:= .int .i64 n,val:=zv,born:=clock}) (clock':=clock+1) hr.DD Wh hb hw ⟨by have:=KX.aDA (γ:=γ) (k:= .int .i64 n) (v:=z) (e:={key:= .int .i64 n,val:=zv,born:=clock}) rfl (ES tT) hM;simpa using this,Xh hB⟩
     refine FM.value (by simp only[execOp,ho];exact Dq AU) ((hr.world hi JA).put λ_ _=>⟨_,rfl,zv,_,rfl,ES tT,_,[],rfl,?_,rfl⟩);rw[hB.1];have:=hM.length;simp only[Ch] at this;rw[<-this];rfl
    |some p=>
     obtain⟨j,v⟩:=p;simp only[BR,BC,KS] at hm;obtain⟨rfl,rfl⟩:=hm;obtain⟨en,q1,q2,_,q4,q5⟩:=hq;have hj:Dl[j]?=some en:=by simpa using q4
     have aDB:=hB.2 j en hj;have qV:w.heap.setIfInBounds b (.map Dl clock)=w.heap:=by
      apply Array.ext_getElem?;intro i;rw[Array.getElem?_setIfInBounds];split;·rename_i hi;subst hi;have hlt:=(A0.1 hw).1;rw[if_pos hlt,hw]
      .rfl
     have AU:(Instr.mapEntry t (a.eval m) (a.eval k)).run C.P w= .ok (.tuple #[en.val,goInt j]) w:=by rw[vH,hke];simp[Instr.mapEntry,run_underlying ht,MapKept.run_getObj_map hw,vI,MapKept.run_findKey hk q1,hj,q5,MapKept.run_keyThatStays (d:= .int .i64) (k:= .int .i64 n) (by simp[MapKept.IsKey]),MapKept.run_setObj_map _ hw,Result.andThen,aDB,aI hj q5,qV]
     exact FM.value (by simp only[execOp,ho];exact Dq AU) (hr.put λ_ _=>⟨_,rfl,_,_,rfl,q2,_,[],rfl,rfl,rfl⟩)
  .cases hm
 .cases hm
theorem Yf{es:Array MapEntry}(hB:∀(i:Nat) (e:MapEntry),es[i]?=some e->e.born=i){j:Nat}{e:MapEntry}(hj:es[j]?=some e):es.findIdx? (λe=>(e.born:Int)==(j:Int))=some j:=by
 rw[Array.findIdx?_eq_some_iff_getElem];obtain⟨hl,he⟩:=A0.1 hj;refine⟨hl,?_,λi hi=>?_⟩;·have:=hB j _ (C3 hl);simp[this]
 .have:=hB i _ (C3 (by omega));simp[this];omega
theorem fJ{o:Oper}{t:TypeId}{m s x:Operand}{vm vs vx r:Aa}{h':Ae}(ho:o.op= .entryStore t m s x)(hd:o.dst=none)(ha:Bq C σ [m,s,x]=some [vm,vs,vx])(hm:TL h vm vs vx=some (h',r))(hr:CS C γ0 w0 γ β σ h a w):FM C γ0 w0 o a w σ h':=by
 obtain⟨h1,h2,h3⟩:=UJ hr ha;have MB:∀w',(Instr.entryStore t (a.eval m) (a.eval s) (a.eval x)).run C.P w= .ok () w'->(execOp a.eval o).run C.P w= .ok .skip w':=λw' AU=>by simp[execOp,ho,AU]
 unfold TL at hm;split at hm
 .rename_i id n;obtain⟨b,hb,vH⟩:=h1;have Ks:a.eval s= .int .i64 n:=h2;split at hm
  .rename_i es Wh;split at hm
   .rename_i hn;split at hm
    .rename_i kk v0 hk;cases hm;obtain⟨Dl,clock,hw,hM,hB⟩:=hr.DD.map id es Wh b hb;have hlen:=hM.length;have hlt:=(Ah.1 hk).1;have hje:∃en,Dl[n.toNat]?=some en:=⟨Dl[n.toNat]'(by simp at hlen;omega),C3 _⟩;obtain⟨en,hj⟩:=hje;have tP:((n.toNat:Nat):Int)=n:=by omega
     have aDC:=Yf hB.2 hj;rw[tP] at aDC;have AU:(Instr.entryStore t (a.eval m) (a.eval s) (a.eval x)).run C.P w= .ok () {w with heap:=w.heap.setIfInBounds b (.map (Dl.modify n.toNat λe=>{e with val:=a.eval x}) clock)}:=by rw[vH,Ks];simp[Instr.entryStore,MapKept.run_getObj_map hw,asInt,asIntOf,aDC,MapKept.run_setObj_map _ hw,Result.andThen]
     obtain⟨hi,JA⟩:=OB (TO:=es.set n.toNat (kk,vx)) (ents':=Dl.modify n.toNat λe=>{e with val:=a.eval x}) (clock':=clock) hr.DD Wh hb hw ⟨by have:=KX.modify h3 hM hk;simpa using this,SD hB λ_=>rfl⟩
     exact FM.skip (MB _ AU) (by rw[hd];exact hr.world hi JA)
    .cases hm
   .cases hm
  .cases hm
 .cases hm
end
end Go.Am
end
