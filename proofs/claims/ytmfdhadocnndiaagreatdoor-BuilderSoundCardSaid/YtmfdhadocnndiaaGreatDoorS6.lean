/- Lemmas -/
import Derived.Test.YtmfdhadocnndiaaGreatDoorS5
import Derived.MapKept
set_option linter.all false
section
namespace Go.Am
open Go
section
variable{C:Fo}{γ0 γ γ':Gh}{w0 w w':World}{Z:Nat->Nat}{U:Bu}{h:Ah}{a:Act}{fid:FuncId}{ops:List Oper}
def Tb{s t:Au}(h:s≠t):((⟨⟨s⟩⟩:ByteArray)==⟨⟨t⟩⟩)=false:=by
 refine Bool.eq_false_iff.2 λhc=>h ?_;have:=(MapKept.bytes_beq _ _).1 hc;injection this with this
 injection this with this
def OI(s:Au):((⟨⟨s⟩⟩:ByteArray)==⟨⟨s⟩⟩)=true:=(MapKept.bytes_beq _ _).2 rfl
def YN{s:Au}:∀{es:List (Aa×Aa)} {l:List MapEntry} {i:Nat} {r:Option Aa},Jv γ es l->SD s es=some r->
  match r with
  |none=>Instr.findNow .string (.string ⟨⟨s⟩⟩) l i=some none
  |some v=>∃(j:Nat) (e:MapEntry),Instr.findNow .string (.string ⟨⟨s⟩⟩) l i=some (some (i+j,e.val))/\Bv γ v e.val
 |[],l,i,r,hM,hf=>by rw[show l=[] from hM];cases hf;rfl
 |(k,v)::es,l,i,r,hM,hf=>by
  obtain⟨e,l',rfl,h1,h2,h3⟩:=hM;unfold SD at hf;split at hf;.rename_i IS;cases IS
  .rename_i t v' RT IS;cases IS;have hk:e.key= .string ⟨⟨t⟩⟩:=h1;split at hf;.rename_i Hw;subst Hw;cases hf;exact⟨0,e,by simp[Instr.findNow,hk,Instr.sameNow,OI],h2⟩
   .rename_i Hw;have ih:=YN (i:=i+1) h3 hf;have hne:=Tb Hw;cases r with
    |none=>simpa[Instr.findNow,hk,Instr.sameNow,hne] using ih
    |some v2=>obtain⟨j,d,c,b⟩:=ih;exact⟨j+1,d,by simp only[Instr.findNow,hk,Instr.sameNow,hne];rw[c];congr 3;omega,b⟩
  .cases hf
def gW{s:Au}{v:Aa}{u:Value}(hv:Bv γ v u):∀{es RT:List (Aa×Aa)} {l:List MapEntry} {i:Nat},Jv γ es l->MP s v es=some RT->
  (Instr.findNow .string (.string ⟨⟨s⟩⟩) l i=some none/\∀born,Jv γ RT (l++[{key:= .string ⟨⟨s⟩⟩,val:=u,born}]))\/
  ∃j e,Instr.findNow .string (.string ⟨⟨s⟩⟩) l i=some (some (i+j,e.val))/\l[j]?=some e/\e.key= .string ⟨⟨s⟩⟩/\Jv γ RT (l.modify j λe=>{e with key:= .string ⟨⟨s⟩⟩,val:=u})
 |[],RT,l,i,hM,hp=>by rw[show l=[] from hM];cases hp;exact .inl ⟨rfl,λborn=>⟨_,[],rfl,rfl,hv,rfl⟩⟩
 |(k,v0)::es,RT,l,i,hM,hp=>by
  obtain⟨e,l',rfl,h1,h2,h3⟩:=hM;unfold MP at hp;split at hp;.rename_i IS;cases IS
  .rename_i t v' m IS;cases IS;have hk:e.key= .string ⟨⟨t⟩⟩:=h1;split at hp;.rename_i Hw;subst Hw;cases hp;exact .inr ⟨0,e,by simp[Instr.findNow,hk,Instr.sameNow,OI],rfl,hk,_,l',rfl,rfl,hv,h3⟩
   .rename_i Hw;have hne:=Tb Hw;cases hq:MP s v es with
    |none=>rw[hq] at hp;cases hp
    |some g=>
     rw[hq] at hp;cases hp;rcases gW hv (i:=i+1) h3 hq with⟨c,b⟩|⟨j,n,c,b,f,d⟩
     .exact .inl ⟨by simpa[Instr.findNow,hk,Instr.sameNow,hne] using c,λborn=>⟨e,_,rfl,h1,h2,b born⟩⟩
     .exact .inr ⟨j+1,n,by simp only[Instr.findNow,hk,Instr.sameNow,hne];rw[c];congr 3;omega,b,f,e,_,Av,h1,h2,d⟩
  .cases hp
def QC{es:Array MapEntry}{clock:Nat}{k v:Value}(h:clock=es.size/\∀(i:Nat) (e:MapEntry),es[i]?=some e->e.born=i):
  clock+1=(es.push {key:=k,val:=v,born:=clock}).size/\∀(i:Nat) (e:MapEntry),(es.push {key:=k,val:=v,born:=clock})[i]?=some e->e.born=i:=by
 obtain⟨rfl,h⟩:=h;refine⟨Av,λi e he=>?_⟩;rw[Vj] at he;split at he;.rename_i hi;cases he;exact hi.symm
 .exact h i e he
def Rn{es:Array MapEntry}{clock j:Nat}{f:MapEntry->MapEntry}(h:clock=es.size/\∀(i:Nat) (e:MapEntry),es[i]?=some e->e.born=i)(hf:∀e,(f e).born=e.born):
  clock=(es.modify j f).size/\∀(i:Nat) (e:MapEntry),(es.modify j f)[i]?=some e->e.born=i:=by
 refine⟨by simpa using h.1,λi e he=>?_⟩;rw[Lb] at he;split at he
 .cases hx:es[i]? with
  |none=>rw[hx] at he;cases he
  |some x=>rw[hx] at he;cases he;rw[hf];exact h.2 i x hx
 .exact h.2 i e he
def LI(hi:Gm γ h w){g id:Nat}{es RT:List (Aa×Aa)}(Pu:h[id]?=some (.map es))(hg:γ.mu id=some g){o:Obj}{ents':Array MapEntry}{clock':Nat}(hw:w.heap[g]?=some o)(hr:q9 γ RT ents' clock'):
  Gm γ (h.set id (.map RT)) {w with heap:=w.heap.setIfInBounds g (.map ents' clock')}/\Kf γ w γ {w with heap:=w.heap.setIfInBounds g (.map ents' clock')}:=by
 obtain⟨k,p,Of⟩:=hi.KJ id _ Pu Av;rw[hg] at p;cases p;obtain⟨LC,c⟩:=MapKept.heap_set (o':= .map ents' clock') hw;have uniq:∀EZ x,h[EZ]?=some x->x≠ .DD->γ.mu EZ=some g->EZ=id:=λEZ x hx nj hm=>by obtain⟨b',p,q⟩:=hi.KJ EZ x hx nj;rw[hm] at p;cases p;rw[Of] at q;cases q;rfl
 constructor
 .refine⟨λb o v hb=>?_,λEZ y Hn hy=>?_,λEZ cs hc b hb=>?_,λEZ e hc b hb=>?_,λEZ b hb=>by simpa using hi.mu EZ b hb,λb x hx=>?_,λb n hb=>?_⟩;rotate_left 5
  .obtain⟨⟨bF,i,rB,p,q⟩,r⟩:=hi.sz b n hb;have hne:b≠g:=λhe=>by subst he;obtain⟨f,d,j,_⟩:=hi.map id es Pu b hg;rw[p] at j;cases j
   exact⟨⟨bF,i,rB,by rw[c b hne];exact p,q⟩,r⟩
  .obtain⟨p,q,r⟩:=hi.GQ b o v hb;have:b≠g:=λhe=>by subst he;rw[Of] at r;rcases r with r|⟨_,_,_,r,_⟩<;>cases r
   exact⟨by rw[B1 (w:=w) (c b this)];exact p,q,r⟩
  .by_cases he:EZ=id;.subst he;exact⟨g,hg,Of⟩
   .rw[Ao (λx=>he x.symm)] at Hn;exact hi.KJ EZ y Hn hy
  .by_cases he:EZ=id;.subst he;rw[AJ (hi.mu _ _ hg)] at hc;cases hc
   .rw[Ao (λx=>he x.symm)] at hc;have MV:b≠g:=λhx=>by subst hx;exact he (uniq EZ _ hc Av hb)
    obtain⟨bF,i,rB,p,pf,q,r⟩:=hi.cells EZ cs hc b hb;exact⟨bF,i,rB,by rw[c b MV];exact p,pf,q,r⟩
  .by_cases he:EZ=id;.subst he;rw[hg] at hb;cases hb;rw[AJ (hi.mu _ _ hg)] at hc;cases hc;exact⟨ents',clock',LC,hr⟩
   .rw[Ao (λx=>he x.symm)] at hc;have MV:b≠g:=λhx=>by subst hx;exact he (uniq EZ _ hc Av hb)
    obtain⟨Dn,clock,p,q⟩:=hi.map EZ e hc b hb;exact⟨Dn,clock,by rw[c b MV];exact p,q⟩
  .have:=hi.BB b x hx;simpa using this
 .refine⟨.refl _,Av,rfl,rfl,rfl,λb hb hn=>⟨?_,rfl⟩⟩;exact c b (λhe=>by subst he;exact hn id Of)
def OJ(hr:CF C γ0 w0 γ Z U h a w){x y z:Operand}{c u2 b:Aa}(ha:A9 C U [x,y,z]=some [c,u2,b]):Bv γ c (a.eval x)/\Bv γ u2 (a.eval y)/\Bv γ b (a.eval z):=by obtain⟨_,_,_,e,h1,h2,h3⟩:=(Di hr ha).Vv;simp only[Be,DJ,EM,Hl] at e;obtain⟨rfl,rfl,rfl⟩:=e;exact⟨h1,h2,h3⟩
def YO{o:Oper}{t kt e:TypeId}{m k x:Operand}{l n f:Aa}{h':Ah}(ho:o.op= .insert t m k x\/o.op= .mapUpdate t m k x)(hd:o.dst=none)(ht:C.P.underlying t=some (.map kt e))(hk:C.P.underlying kt=some .string)(ha:A9 C U [m,k,x]=some [l,n,f])
  (hm:Re h l n f=some h') (hr:CF C γ0 w0 γ Z U h a w):E0 C γ0 w0 o a w U h':=by
 obtain⟨h1,h2,h3⟩:=OJ hr ha;have KL:∀w',(Instr.mapUpdate t (a.eval m) (a.eval k) (a.eval x)).run C.P w= .ok () w'->(execOp a.eval o).run C.P w= .ok .skip w':=λw' AH=>by rcases ho with ho|ho<;>simp[execOp,ho,AH]
 unfold Re at hm;split at hm
 .rename_i id s;obtain⟨b,hb,mY⟩:=h1;have od:a.eval k= .string ⟨⟨s⟩⟩:=h2;split at hm
  .rename_i es Pu;cases hp:MP s f es with
   |none=>rw[hp] at hm;cases hm
   |some RT=>
    rw[hp] at hm;cases hm;obtain⟨Dn,clock,hw,hM,hB⟩:=hr.Dr.map id es Pu b hb;have mZ:(Instr.checkKey false 10000 kt (.string ⟨⟨s⟩⟩)).run C.P w= .ok () w:=MapKept.run_checkKey (k:= .string ⟨⟨s⟩⟩) hk (by simp[MapKept.IsKey]) false 9999;rcases gW h3 (i:=0) hM hp with⟨c,g⟩|⟨j,r,c,g,q,p⟩
    .have AH:(Instr.mapUpdate t (a.eval m) (a.eval k) (a.eval x)).run C.P w= .ok () {w with heap:=w.heap.setIfInBounds b (.map (Dn.push {key:= .string ⟨⟨s⟩⟩,val:=a.eval x,born:=clock}) (clock+1))}:=by rw[mY,od];simp[Instr.mapUpdate,run_underlying ht,MapKept.run_getObj_map hw,mZ,MapKept.run_findKey hk c,MapKept.run_setObj_map _ hw,Result.andThen]
     obtain⟨hi,IC⟩:=LI (RT:=RT) (ents':=Dn.push {key:= .string ⟨⟨s⟩⟩,val:=a.eval x,born:=clock}) (clock':=clock+1) hr.Dr Pu hb hw ⟨by simpa using g clock,QC hB⟩;exact E0.skip (KL _ AH) (by rw[hd];exact hr.world hi IC)
    .have hj:Dn[j]?=some r:=by simpa using g
     rw[By] at c;have AH:(Instr.mapUpdate t (a.eval m) (a.eval k) (a.eval x)).run C.P w= .ok () {w with heap:=w.heap.setIfInBounds b (.map (Dn.modify j λe=>{e with key:= .string ⟨⟨s⟩⟩,val:=a.eval x}) clock)}:=by rw[mY,od];simp[Instr.mapUpdate,run_underlying ht,MapKept.run_getObj_map hw,mZ,MapKept.run_findKey hk c,hj,q,MapKept.run_keyThatStays (d:= .string) (k:= .string ⟨⟨s⟩⟩) (by simp[MapKept.IsKey]),MapKept.run_setObj_map _ hw,Result.andThen]
     obtain⟨hi,IC⟩:=LI (RT:=RT) (ents':=Dn.modify j λe=>{e with key:= .string ⟨⟨s⟩⟩,val:=a.eval x}) (clock':=clock) hr.Dr Pu hb hw ⟨by simpa using p,Rn hB λ_=>rfl⟩;exact E0.skip (KL _ AH) (by rw[hd];exact hr.world hi IC)
  .cases hm
 .cases hm
def rW{o:Oper}{t:TypeId}(ho:o.op= .makeMap t none)(hr:CF C γ0 w0 γ Z U h a w):E0 C γ0 w0 o a w (U.put o.dst (.val (.map (some h.length)))) (h++[.map []]):=by
 obtain⟨hi,ha⟩:=Ma hr.Dr (.map #[] 0) (.map []) none (.inr ⟨rfl,rfl,rfl⟩);have AH:(Instr.makeMap t none).run C.P w= .ok (.map (some w.heap.size)) (w.alloc (.map #[] 0)):=by simp[Instr.makeMap]
 exact E0.value (by simp only[execOp,ho];exact CY AH) ((hr.world hi ha).put λ_ _=>⟨w.heap.size,by simp[Gh.BP],rfl⟩)
def Jo(key elem:TypeId)(index:Value)(commaOk:Bool)(es:Array MapEntry):Sem Value:=do
 Instr.checkKey es.isEmpty 10000 key index
 let(v,ok)<-match<-Instr.findKey key index es.toList with
  |some (_,v)=>pure (v,true)
  |none=>pure (<-zeroValue elem,false)
 pure (if commaOk then .tuple #[v,.bool ok] else v)
def rX{o:Oper}{t kt e:TypeId}{m k:Operand}{c d z r:Aa}{ok:Bool}(ho:o.op= .lookup t m k ok)(ht:C.P.underlying t=some (.map kt e))(hk:C.P.underlying kt=some .string)(hz:FW C.P e=some z)(ha:A9 C U [m,k]=some [c,d])(hm:Rf h z ok c d=some r)(hr:CF C γ0 w0 γ Z U h a w):
  E0 C γ0 w0 o a w (U.put o.dst (.val r)) h:=by
 obtain⟨_,_,e0,h1,h2⟩:=Ei hr ha;cases e0;obtain⟨f,qG,oe⟩:=GH hz;have HT:∀(es:Array MapEntry) (q:Option Aa),(Instr.lookup t (a.eval m) (a.eval k) ok).run C.P w=(Jo kt e (a.eval k) ok es).run C.P w->
   ∀s,a.eval k= .string ⟨⟨s⟩⟩->(match q with|none=>Instr.findNow .string (.string ⟨⟨s⟩⟩) es.toList 0=some none|some v=>∃(j:Nat) (e:MapEntry),Instr.findNow .string (.string ⟨⟨s⟩⟩) es.toList 0=some (some (0+j,e.val))/\Bv γ v e.val)->
   (match q with|some v=>if ok then Aa.tuple [v,.bool true] else v|none=>if ok then .tuple [z,.bool false] else z)=r->E0 C γ0 w0 o a w (U.put o.dst (.val r)) h:=by
  intro es q Pu s zS hq Rm;have mZ:(Instr.checkKey es.isEmpty 10000 kt (.string ⟨⟨s⟩⟩)).run C.P w= .ok () w:=MapKept.run_checkKey (k:= .string ⟨⟨s⟩⟩) hk (by simp[MapKept.IsKey]) es.isEmpty 9999;have AH:∃v,(Instr.lookup t (a.eval m) (a.eval k) ok).run C.P w= .ok v w/\Bv γ r v:=by
   cases q with
   |none=>
    refine⟨if ok then .tuple #[f,.bool false] else f,?_,?_⟩;.rw[Pu,zS];unfold Jo;simp only[Sem.run_bind,Result.andThen_ok,mZ,MapKept.run_findKey hk hq,oe,Sem.run_bind,Sem.run_pure]
    .rw[<-Rm];have Æ:=EA (γ:=γ) qG;cases ok with
     |true=>exact⟨_,rfl,_,_,rfl,Æ,_,_,rfl,rfl,rfl⟩
     |false=>exact Æ
   |some v=>
    obtain⟨j,l,n,g⟩:=hq;refine⟨if ok then .tuple #[l.val,.bool true] else l.val,?_,?_⟩;.rw[Pu,zS];unfold Jo;simp only[Sem.run_bind,Result.andThen_ok,mZ,MapKept.run_findKey hk n,Sem.run_bind,Sem.run_pure]
    .rw[<-Rm];cases ok with
     |true=>exact⟨_,rfl,_,_,rfl,g,_,_,rfl,rfl,rfl⟩
     |false=>exact g
  obtain⟨v,AH,gT⟩:=AH;exact E0.value (by simp only[execOp,ho];exact CY AH) (hr.put λ_ _=>gT)
 unfold Rf at hm;cases hf:SE h c d with
 |none=>rw[hf] at hm;cases hm
 |some q=>
  rw[hf] at hm;simp only[BO,Bs] at hm;unfold SE at hf;split at hf;.rename_i s;cases hf;exact HT #[] none (by rw[show a.eval m=_ from h1];simp only[Instr.lookup,Jo,Sem.run_bind,run_underlying ht,Result.andThen_ok,Sem.run_pure];rfl) s h2 rfl hm
  .rename_i id s;obtain⟨b,hb,mY⟩:=h1;split at hf;.rename_i es Pu;obtain⟨Dn,clock,hw,hM,_⟩:=hr.Dr.map id es Pu b hb;exact HT Dn q (by rw[mY];simp only[Instr.lookup,Jo,Sem.run_bind,run_underlying ht,MapKept.run_getObj_map hw,Result.andThen_ok,Sem.run_pure];rfl) s h2 (YN (i:=0) hM hf) hm
   .cases hf
  .cases hf
def Tc{size:Nat}{v:Aa}(h:MX size v=true):v= .slnil\/v= .Fb size\/v= .sl size []:=by
 unfold MX at h;split at h;.exact .inl rfl
 .exact .inr (.inl (by simpa using h))
 .exact .inr (.inr (by simpa using h))
 .cases h
def nA{o:Oper}{c:Call}{t t' e:TypeId}{n b:Nat}{s x:Operand}{v u r:Aa}{h':Ah}(ho:o.op= .call c)(hc:c.callee= .builtin .append)(h0:c.argTypes[0]?=some t)(h1:c.argTypes[1]?=some t')(D6:c.args.toList=[s,x])(ht:C.P.underlying t=some (.slice e))
  (HC:(∃G,C.P.underlying t'=some (.slice G))\/C.P.underlying t'=some .string) (hsz:BI C.P e=some (n+1)) (hby:It C.P e=some (b+1)) (hown:Jt C U s=true) (Yb:Kl C.P e=true) (hv:A9 C U [s,x]=some [v,u])
  (hp:Ld h (n+1) (b+1) v u=some (h',r)) (hr:CF C γ0 w0 γ Z U h a w):E0 C γ0 w0 o a w ((U.C7 (CP U s)).put o.dst (.val r)) h':=by
 obtain⟨i,z,hi,hz,hzs⟩:=Jz Yb;have N5:=Ih hsz hi;have oa:=J5 hby hi;obtain⟨_,_,e0,hvs,aK⟩:=Ei hr hv;cases e0;have rM:Ed C U s=some v:=by
  unfold A9 at hv;split at hv;.rename_i p ps I K;cases hv;exact I
  .cases hv
 have Gq:MX (n+1) v=true/\((∃Af,Gw (n+1) (b+1) .slnil u=some (.sl (n+1) Af)/\Af≠[]/\u= .sl (n+1) Af/\Af.length*(b+1)<=AN/\h'=h++[.cells Af.flatten]/\r= .CI h.length 0 Af.length (n+1))\/((u= .slnil\/(∃B,u= .Fb B)\/∃B,u= .sl B [])/\h'=h/\r=v)):=by
  unfold Ld at hp;split at hp
  .rename_i B Af;split at hp
   .rename_i Sm;refine⟨Sm,?_⟩;split at hp;.cases hp;exact .inr ⟨.inr (.inr ⟨_,rfl⟩),rfl,rfl⟩
    .rename_i hne;split at hp
     .rename_i Gx;cases hp;obtain⟨rfl,hb⟩:=Gx;refine .inl ⟨Af,?_,hne,rfl,hb,rfl,rfl⟩;cases Af with
      |nil=>exact absurd rfl hne
      |cons q Af=>simp only[Gw,C0,BE];rw[Ad hb]
     .cases hp
   .cases hp
  .split at hp;.rename_i Sm;cases hp;exact⟨Sm,.inr ⟨.inl rfl,rfl,rfl⟩⟩
   .cases hp
  .split at hp;.rename_i Sm;simp only[Bf] at Sm;cases hp;exact⟨Sm.1,.inr ⟨.inr (.inl ⟨_,rfl⟩),rfl,rfl⟩⟩
   .cases hp
  .cases hp
 obtain⟨Sm,Gq⟩:=Gq;obtain⟨F,D0,Iz,HZ,m⟩:=M8 hr hown rM (U.C7 (CP U s)).length none;have IS:c.args.map a.eval=#[a.eval s,a.eval x]:=by apply Fw;simp[D6]
 have KL:∀v' w',(Builtin.append_ #[t,t'] o.type #[a.eval s,a.eval x]).run C.P w= .ok v' w'->(execOp a.eval o).run C.P w= .ok (.value v') w':=λv' w' AH=>by
  have:execOp a.eval o=(do pure (Next.value (<-Builtin.append_ #[t,t'] o.type #[a.eval s,a.eval x]))):=by rw[<-IS,<-Mi (ty:=o.type) h0 h1];simp only[execOp,ho,resolve,hc];rfl
  rw[this];exact CY AH
 have gX:(a.eval s= .slice none 0 0/\v= .slnil)\/(∃g cap us y,a.eval s= .slice (some ⟨g,0,none⟩) 0 cap/\v= .sl (n+1) []/\F.BB g=some (.tail (U.C7 (CP U s)).length none 0)/\w0.heap.size<=g/\w.heap[g]?=some (.cells us y (0,0))/\us.size=cap*(n+1)/\cap<=maxLen)\/∃g,a.eval s= .slice (some ⟨g,0,none⟩) 0 0/\v= .Fb (n+1):=by
  rcases m with(m|⟨H,m⟩)|⟨g,k,cap,us,y,H,rr,bY,H5,Of,hB,hg,Vq,yJ,hm,J⟩
  .rw[m] at HZ;exact .inl ⟨HZ,m⟩
  .rcases Tc Sm with gY|gY|gY
   .rw[gY] at m;cases m
   .rw[gY] at HZ;obtain⟨g,HZ⟩:=HZ;exact .inr (.inr ⟨g,HZ,gY⟩)
   .rw[gY] at m;cases m
  .rcases Tc Sm with gY|gY|gY
   .rw[gY] at bY;cases bY
   .rw[gY] at bY;cases bY
   .rw[gY] at bY;cases bY;have hk:k=0:=by rw[gY,H5] at HZ;obtain⟨A,f,YL,_⟩:=HZ;simp only[Value.slice.injEq] at YL;exact YL.2.1
    subst hk;exact .inr (.inl ⟨g,cap,us,y,H5,gY,by simpa using Of,hB,hg,Vq,hm⟩)
 rcases Gq with⟨Af,HL,hne,D,Qm,rfl,rfl⟩|⟨D,rfl,rfl⟩
 .obtain⟨d,news,M9,IU,iu,bW⟩:=gU (w:=w) HC hr.Dr aK HL;have YP:d=Af:=by
   cases d with
   |nil=>simp[C0] at M9
   |cons q d=>
    simp only[C0] at M9;split at M9;.cases M9;rfl
    .cases M9
  subst YP;have rQ:=AQ.mono D0 _ _ iu;have IB:Src C.P i.size t' (a.eval x) d.length news w:=by rw[N5];exact IU
  have N6:news.length=d.length*(n+1):=IU.newsLen;have HI:d.flatten.length=news.length:=by rw[iu.length]
  have hpos:0<d.length:=FQ.2 hne;have MV:d.length<=AN:=Bj (Hk _ (CB b)) Qm;have FC:∀(base:Option Addr) (cap:Nat),a.eval s= .slice base 0 cap->(Builtin.firstCells i.size 0 (.slice base 0 cap)).run C.P w.drew= .ok #[] w.drew->cap<d.length->
    E0 C γ0 w0 o a w ((U.C7 (CP U s)).put o.dst (.val (.CI h.length 0 d.length (n+1)))) (h++[.cells d.flatten]):=by
   intro base cap hs l hlt;have ET:=run_append_grow_src (P:=C.P) w t t' o.type e i z ht hi hz base 0 cap [] l (a.eval x) d.length news IB Ab (by simp only[AN] at MV;omega) (by rw[oa,By];exact growslice_fits hlt Qm);rw[<-hs,By] at ET;have GR:=grownCap_ge w d.length cap e;have Ro:(([]++news).toArray++Builtin.zeroCells z.cells (grownCap w d.length cap e-d.length)).toList.take d.flatten.length=news:=by simp only[FT,Bt];rw[HI];exact ED
   have hsize:(([]++news).toArray++Builtin.zeroCells z.cells (grownCap w d.length cap e-d.length)).size=grownCap w d.length cap e*(n+1):=by simp only[Ip,Bx,size_zeroCells,hzs,N5,Bt,N6,<-Bp];congr 1;omega
   obtain⟨E,YI,Td,KT,RZ⟩:=Iz.drew.newObj (([]++news).toArray++Builtin.zeroCells z.cells (grownCap w d.length cap e-d.length)) e (0,0) d.flatten (.inl rfl) (by rw[Ro];exact rQ) (by rw[Ro];exact IU.one);exact E0.value (KL _ _ ET) (KT.put λ_ _=>⟨w.heap.size,_,Td,rfl,GR,⟨CB n,grownCap_le_maxLen w _ _ _ (by simp only[AN] at MV;simp only[maxLen];omega)⟩,by rw[By,<-hsize];exact RZ⟩)
  rcases gX with⟨H5,rfl⟩|⟨g,cap,us,y,H5,rfl,Of,hB,hg,Vq,yL⟩|⟨g,H5,rfl⟩
  rotate_left 2;.exact FC (some ⟨g,0,none⟩) 0 H5 (by simpa using run_firstCells_some (P:=C.P) w.drew i.size 0 ⟨g,0,none⟩ 0 0 [] Av Av) hpos
  .exact FC none 0 H5 (run_firstCells_none _ _ _ _ _) hpos
  .by_cases hroom:d.length<=cap
   .have hfit:news.length<=us.size:=by rw[N6,Vq];exact DB _ hroom
    have AH:=run_append_room_src (P:=C.P) w t t' o.type e i ht hi g 0 0 cap (a.eval x) d.length news IB Ab (λj hj=>by rw[cell_of_row w _ _ us y (0,0) hg,N5,B9 Ab];rfl) (λj hj=>frozen_of_row w _ _ us y hg)
    rw[KI,By,By,D5 news 0 us w hg Ab,<-H5] at AH;have Ro:((us.toList.take 0++news++us.toList.drop (0+news.length)).toArray).toList.take d.flatten.length=news:=by simp only[ND,Bt];rw[HI];exact ED
    obtain⟨E,YI,Td,KT,RZ⟩:=Iz.Å Of hB hg (us.toList.take 0++news++us.toList.drop (0+news.length)).toArray d.flatten (by rw[Ro];exact rQ) (by rw[Ro];exact IU.one);exact E0.value (KL _ _ AH) (KT.put λ_ _=>⟨g,cap,Td,rfl,hroom,⟨CB n,yL⟩,by rw[RZ,By,<-Vq];simp;omega⟩)
   .exact FC (some ⟨g,0,none⟩) cap H5 (by simpa using run_firstCells_some (P:=C.P) w.drew i.size 0 ⟨g,0,none⟩ 0 cap [] Av Av) Ab
 .have IU:Src C.P i.size t' (a.eval x) 0 [] w:=by
   rcases D with rfl|⟨B,rfl⟩|⟨B,rfl⟩
   .rw[show a.eval x=_ from aK];exact⟨HC,λ_=>rfl,run_firstCells_none w _ 0 0 0,run_firstCells_none w.drew _ 0 0 0,Av,Av⟩
   .obtain⟨g0,YL⟩:=aK;rw[YL];exact⟨HC,λ_=>rfl,by simpa using run_firstCells_some (P:=C.P) w i.size 0 ⟨g0,0,none⟩ 0 0 [] Av Av,by simpa using run_firstCells_some (P:=C.P) w.drew i.size 0 ⟨g0,0,none⟩ 0 0 [] Av Av,Av,Av⟩
   .obtain⟨A,f,YL,_⟩:=aK;rw[YL];exact⟨HC,λ_=>rfl,by simpa using run_firstCells_some (P:=C.P) w i.size 0 A 0 f [] Av Av,by simpa using run_firstCells_some (P:=C.P) w.drew i.size 0 A 0 f [] Av Av,Av,Av⟩
  rcases gX with⟨H5,rfl⟩|⟨g,cap,us,y,H5,rfl,Of,hB,hg,Vq,yL⟩|⟨g,H5,rfl⟩
  rotate_left 2;.have AH:=run_append_room_src (P:=C.P) w t t' o.type e i ht hi g 0 0 0 (a.eval x) 0 [] IU Ab Av Av;rw[<-H5] at AH;simp only[World.setCells] at AH;exact E0.value (KL _ _ AH) (Iz.put λ_ _=>HZ)
  .have AH:(Builtin.append_ #[t,t'] o.type #[a.eval s,a.eval x]).run C.P w= .ok (.slice none 0 0) w:=by rw[H5];have hl:=IU.len;have Sn:=IU.cells;rcases HC with⟨G,hk⟩|hk<;>simp[Builtin.append_,run_underlying ht,run_underlying hk,sizeOf,typeInfo,hi,hl,Sn]
   exact E0.value (KL _ _ AH) (Iz.put λ_ _=>rfl)
  .have AH:=run_append_room_src (P:=C.P) w t t' o.type e i ht hi g 0 0 cap (a.eval x) 0 [] IU Ab Av Av;rw[<-H5] at AH;simp only[World.setCells] at AH;exact E0.value (KL _ _ AH) (Iz.put λ_ _=>HZ)
def CF.kill(hr:CF C γ0 w0 γ Z U h a w)(id:Nat):CF C γ0 w0 γ Z U (h.set id .DD) a w:=by
 have key:∀{EZ:Nat} {x:DH},(h.set id .DD)[EZ]?=some x->x≠ .DD->h[EZ]?=some x:=λ{EZ x} hx hd=>by
  by_cases he:id=EZ
  .subst he;rw[aG5] at hx;simp only[BE] at hx;split at hx;.cases hx;exact absurd rfl hd
   .cases hx
  .rwa [Ao he] at hx
 exact⟨⟨hr.Dr.GQ,λEZ y Hn hy=>hr.Dr.KJ EZ y (key Hn hy) hy,λEZ cs hc b hb=>hr.Dr.cells EZ cs (key hc Av) b hb,λEZ es hc b hb=>hr.Dr.map EZ es (key hc Av) b hb,λEZ b hb=>by simpa using hr.Dr.mu EZ b hb,hr.Dr.BB,hr.Dr.sz⟩,hr.fr,hr.Dh,hr.defers,hr.FV⟩
def CF.rY(hr:CF C γ0 w0 γ Z U h a w){id g:Nat}{cs:List Aa}(hcs:h[id]?=some (.cells cs))(hg:γ.mu id=some g){us:Array Value}{e:TypeId}{fr:Nat×Nat}(hw:w.heap[g]?=some (.cells us e fr))(R2:γ.sz g=some us.size)(C4:Array Value)(FU:List Aa)(Vq:C4.size=us.size)(gP:Qv fr C4.size)
  (hv:AQ γ FU (C4.toList.take FU.length)) (h1:∀u∈C4.toList.take FU.length,u.oneCell'=true):∃γ',γ.le γ'/\γ'.mu h.length=some g/\CF C γ0 w0 γ' Z U (h.set id .DD++[.cells FU]) a (w.setRow g C4)/\γ'.sz g=some us.size:=by
 obtain⟨d,p,Of⟩:=hr.Dr.KJ id _ hcs Av;rw[hg] at p;cases p;have zT:id<h.length:=hr.Dr.mu _ _ hg;have Á:γ.mu h.length=none:=by
  cases hc:γ.mu h.length with
  |none=>rfl
  |some y=>exact absurd (hr.Dr.mu _ y hc) (CX _)
 have uniq:∀EZ x,h[EZ]?=some x->x≠ .DD->γ.mu EZ=some g->EZ=id:=λEZ x hx nj hm=>by obtain⟨b',p,q⟩:=hr.Dr.KJ EZ x hx nj;rw[hm] at p;cases p;rw[Of] at q;cases q;rfl
 have D0:γ.le (γ.BP g h.length (some us.size)):=⟨λ_ _ _ hv=>hv,λEZ b hm=>by
  have:EZ≠h.length:=λhe=>by rw[he,Á] at hm;cases hm
  simp only[Gh.BP,Ac this];exact hm,λb n hm=>by
  by_cases he:b=g;.subst he;rw[R2] at hm;cases hm;simp[Gh.BP]
  .simp only[Gh.BP,Ac he];exact hm⟩
 have old:∀{EZ:Nat} {x:DH},(h.set id .DD++[DH.cells FU])[EZ]?=some x->x≠ .DD->EZ≠h.length->h[EZ]?=some x/\EZ≠id:=λ{EZ x} hx hd hne=>by
  have hlt:EZ<(h.set id .DD).length:=by rw[Ai] at hx;obtain⟨hl,_⟩:=hx;simp at hl⊢;omega
  rw[Al hlt] at hx;by_cases he:id=EZ;.subst he;rw[AJ (by simpa using hlt)] at hx;cases hx;exact absurd rfl hd
  .rw[Ao he] at hx;exact⟨hx,λh=>he h.symm⟩
 have aBk:Gm (γ.BP g h.length (some us.size)) (h.set id .DD++[.cells FU]) (w.setRow g C4):=by
  refine⟨λb o v hb=>?_,λEZ y Hn hy=>?_,λEZ Pv hc b hb=>?_,λEZ es hc b hb=>?_,λEZ b hb=>?_,λb y hy=>?_,λb n hb=>?_⟩
  .obtain⟨p,q,r⟩:=hr.Dr.GQ b o v hb;have L9:b≠g:=λhe=>by subst he;rw[Of] at r;rcases r with r|⟨_,_,_,r,_⟩<;>cases r
   exact⟨by rw[B1 (setRow_other w g b C4 L9)];exact p,q,by simp only[Gh.BP,Ac L9];exact r⟩
  .by_cases he:EZ=h.length;.exact⟨g,by simp[Gh.BP,he],by simp[Gh.BP,he]⟩
   .obtain⟨nB,hne⟩:=old Hn hy he;obtain⟨b,p,q⟩:=hr.Dr.KJ EZ y nB hy;have L9:b≠g:=λhx=>by subst hx;exact hne (uniq EZ y nB hy p)
    exact⟨b,by simp only[Gh.BP,Ac he];exact p,by simp only[Gh.BP,Ac L9];exact q⟩
  .by_cases he:EZ=h.length;.subst he;simp[Gh.BP] at hb;subst hb;rw[BD Av] at hc;simp at hc;subst hc;exact⟨C4,e,fr,setRow_heap w g us C4 e fr hw,gP,AQ.mono D0 _ _ hv,h1⟩
   .simp only[Gh.BP,Ac he] at hb;obtain⟨JJ,hne⟩:=old hc Av he;have L9:b≠g:=λhx=>by subst hx;exact hne (uniq EZ _ JJ Av hb)
    obtain⟨bF,c,rB,p,pf,q,r⟩:=hr.Dr.cells EZ Pv JJ b hb;exact⟨bF,c,rB,by rw[setRow_other w g b C4 L9];exact p,pf,AQ.mono D0 _ _ q,r⟩
  .by_cases he:EZ=h.length;.subst he;rw[BD Av] at hc;simp at hc
   .simp only[Gh.BP,Ac he] at hb;obtain⟨JJ,hne⟩:=old hc Av he;have L9:b≠g:=λhx=>by subst hx;exact hne (uniq EZ _ JJ Av hb)
    obtain⟨Dn,clock,p,q⟩:=hr.Dr.map EZ es JJ b hb;exact⟨Dn,clock,by rw[setRow_other w g b C4 L9];exact p,q.mono D0⟩
  .by_cases he:EZ=h.length;.simp[he]
   .simp only[Gh.BP,Ac he] at hb;have:=hr.Dr.mu EZ b hb;simp;omega
  .by_cases L9:b=g;.subst L9;have:=hr.Dr.BB _ _ Of;simpa[World.setRow] using this
   .simp only[Gh.BP,Ac L9] at hy;have:=hr.Dr.BB b y hy;simpa[World.setRow] using this
  .by_cases he:b=g;.subst he;simp only[Gh.BP,BE] at hb;cases hb;exact⟨⟨C4,e,fr,setRow_heap w b us C4 e fr hw,Vq⟩,.inr ⟨h.length,by simp[Gh.BP]⟩⟩
   .simp only[Gh.BP,Ac he] at hb⊢;obtain⟨p,r⟩:=hr.Dr.sz b n hb;exact⟨by rw[setRow_other w g b C4 he];exact p,r⟩
 refine⟨_,D0,by simp[Gh.BP],hr.world aBk ⟨D0,by simp[World.setRow],rfl,rfl,rfl,λb hb hn=>?_⟩,by simp[Gh.BP]⟩;have L9:b≠g:=λhe=>by subst he;exact hn id Of
 exact⟨setRow_other w g b C4 L9,by simp only[Gh.BP,Ac L9]⟩
def rZ{o:Oper}{c:Call}{t t' e:TypeId}{n b:Nat}{s x:Operand}{v u r:Aa}{h':Ah}(ho:o.op= .call c)(hc:c.callee= .builtin .append)(h0:c.argTypes[0]?=some t)(h1:c.argTypes[1]?=some t')(D6:c.args.toList=[s,x])(ht:C.P.underlying t=some (.slice e))
  (HC:(∃K,C.P.underlying t'=some (.slice K))\/C.P.underlying t'=some .string) (hsz:BI C.P e=some (n+1)) (hby:It C.P e=some (b+1)) (Yb:Kl C.P e=true) (hv:A9 C U [s,x]=some [v,u])
  (hp:ET h (n+1) (b+1) v u=some (h',r)) (hr:CF C γ0 w0 γ Z U h a w):E0 C γ0 w0 o a w (U.put o.dst (.val r)) h':=by
 obtain⟨i,z,hi,hz,hzs⟩:=Jz Yb;have N5:=Ih hsz hi;have oa:=J5 hby hi;obtain⟨_,_,e0,hvs,aK⟩:=Ei hr hv;cases e0;have IS:c.args.map a.eval=#[a.eval s,a.eval x]:=by apply Fw;simp[D6]
 have KL:∀v' w',(Builtin.append_ #[t,t'] o.type #[a.eval s,a.eval x]).run C.P w= .ok v' w'->(execOp a.eval o).run C.P w= .ok (.value v') w':=λv' w' AH=>by
  have:execOp a.eval o=(do pure (Next.value (<-Builtin.append_ #[t,t'] o.type #[a.eval s,a.eval x]))):=by rw[<-IS,<-Mi (ty:=o.type) h0 h1];simp only[execOp,ho,resolve,hc];rfl
  rw[this];exact CY AH
 unfold ET at hp;cases hq:Gc h (n+1) u with
 |none=>rw[hq] at hp;cases hp
 |some Af=>
  rw[hq] at hp;obtain⟨news,IU,Sm,bW⟩:=S8 (w:=w) HC hr.Dr aK hq;have IB:Src C.P i.size t' (a.eval x) Af.length news w:=by rw[N5];exact IU
  have N6:news.length=Af.length*(n+1):=IU.newsLen;have HI:Af.flatten.length=news.length:=by rw[Sm.length]
  cases Af with
  |nil=>
   have rD:news=[]:=B4 (by simpa using N6);subst rD;cases v with
   |slnil=>
    cases hp;have H5:a.eval s= .slice none 0 0:=hvs;have AH:(Builtin.append_ #[t,t'] o.type #[a.eval s,a.eval x]).run C.P w= .ok (.slice none 0 0) w:=by rw[H5];have hl:=IB.len;have Sn:=IB.cells;simp only[Bq] at hl Sn;rcases HC with⟨K,hk⟩|hk<;>simp[Builtin.append_,run_underlying ht,run_underlying hk,sizeOf,typeInfo,hi,hl,Sn]
    exact E0.value (KL _ _ AH) (hr.put λ_ _=>rfl)
   |Fb E=>
    simp only at hp;split at hp;.cases hp;obtain⟨g,H5⟩:=(show Bv γ _ _ from hvs);have AH:=run_append_room_src (P:=C.P) w t t' o.type e i ht hi g 0 0 0 (a.eval x) 0 [] IB Ab Av Av;rw[<-H5] at AH;simp only[World.setCells,Bb] at AH;exact E0.value (KL _ _ AH) (hr.put λ_ _=>⟨g,H5⟩)
    .cases hp
   |CI id off k E=>
    simp only at hp;split at hp;.cases hp;obtain⟨g,cap,hg,H5,yJ,qF,R2⟩:=(show Bv γ _ _ from hvs);have AH:=run_append_room_src (P:=C.P) w t t' o.type e i ht hi g off k cap (a.eval x) 0 [] IB Ab Av Av;rw[<-H5] at AH;simp only[World.setCells,Bb] at AH;exact E0.value (KL _ _ AH) (hr.put λ_ _=>⟨g,cap,hg,rfl,yJ,qF,R2⟩)
    .cases hp
   |_=>cases hp
  |cons L l=>
   generalize hR:L::l=Af at*;have hpos:0<Af.length:=by rw[<-hR];simp
   have d:∀(h2:Ah) (base:Option Addr) (k cap:Nat) (pre:List Aa) (olds:List Value),CF C γ0 w0 γ Z U h2 a w->a.eval s= .slice base k cap->AQ γ pre olds->olds.length=k*(n+1)->(∀q∈olds,q.oneCell'=true)->
     (Builtin.firstCells i.size k (.slice base k cap)).run C.P w.drew= .ok olds.toArray w.drew->cap<k+Af.length->(k+Af.length)*(b+1)<=AN->
     E0 C γ0 w0 o a w (U.put o.dst (.val (.CI h2.length 0 (k+Af.length) (n+1)))) (h2++[.cells (pre++Af.flatten)]):=by
    intro h2 base k cap pre olds KT hs Ç gV nv f hlt Qm;have MV:k+Af.length<=AN:=Bj (Hk _ (CB b)) Qm;have ET:=run_append_grow_src (P:=C.P) w t t' o.type e i z ht hi hz base k cap olds f (a.eval x) Af.length news IB hlt (by simp only[AN] at MV;omega) (by rw[oa];exact growslice_fits hlt Qm);rw[<-hs] at ET;have GR:=grownCap_ge w (k+Af.length) cap e;have mV:(olds++news).length=(k+Af.length)*(n+1):=by rw[Ap,gV,N6,Bp]
    have mO:(pre++Af.flatten).length=(olds++news).length:=by rw[Ap,Ap,Ç.length,HI]
    have hsize:((olds++news).toArray++Builtin.zeroCells z.cells (grownCap w (k+Af.length) cap e-(k+Af.length))).size=grownCap w (k+Af.length) cap e*(n+1):=by simp only[Ip,Bx,size_zeroCells,hzs,N5,mV,<-Bp];congr 1;omega
    have Ro:((olds++news).toArray++Builtin.zeroCells z.cells (grownCap w (k+Af.length) cap e-(k+Af.length))).toList.take (pre++Af.flatten).length=olds++news:=by simp only[FT];rw[mO];exact ED
    obtain⟨D,YI,Td,Ä,RZ⟩:=KT.drew.newObj ((olds++news).toArray++Builtin.zeroCells z.cells (grownCap w (k+Af.length) cap e-(k+Af.length))) e (0,0) (pre++Af.flatten) (.inl rfl) (by rw[Ro];exact Ç.append Sm) (by rw[Ro];intro q hq;exact(An.1 hq).elim (nv q) (IU.one q))
    exact E0.value (KL _ _ ET) (Ä.put λ_ _=>⟨w.heap.size,_,Td,rfl,GR,⟨CB n,grownCap_le_maxLen w _ _ _ (by simp only[AN] at MV;simp only[maxLen];omega)⟩,by rw[By,<-hsize];exact RZ⟩)
   cases v with
   |slnil=>
    have H5:a.eval s= .slice none 0 0:=hvs;rw[<-hR] at hp;simp only at hp;rw[hR] at hp;split at hp;.rename_i Qm;cases hp;have:=d h none 0 0 [] [] hr H5 rfl Av Av (run_firstCells_none _ _ _ _ _) Ab (by simpa using Qm);simpa using this
    .cases hp
   |Fb E=>
    obtain⟨g,H5⟩:=(show Bv γ _ _ from hvs);rw[<-hR] at hp;simp only at hp;rw[hR] at hp;split at hp;.rename_i Qm;cases hp;have:=d h (some ⟨g,0,none⟩) 0 0 [] [] hr H5 rfl Av Av (by simpa using run_firstCells_some (P:=C.P) w.drew i.size 0 ⟨g,0,none⟩ 0 0 [] Av Av) Ab (by simpa using Qm.2);simpa using this
    .cases hp
   |CI id off k E=>
    rw[<-hR] at hp;simp only at hp;rw[hR] at hp;split at hp
    .rename_i cs hcs;split at hp
     .rename_i G;subst G;obtain⟨g,cap,hg,H5,yJ,qF,R2⟩:=(show Bv γ _ _ from hvs);obtain⟨us,J,fr,m,pf,B,A⟩:=hr.Dr.cells id cs hcs g hg;obtain⟨⟨qE,N,M,H,F⟩,_⟩:=hr.Dr.sz g _ R2;rw[m] at H;cases H;have YH:cs.length<=us.size:=by have:=B.length;simp at this;omega
      have LG:∀j,(⟨g,off,none⟩:Addr).add j=⟨g,off+j,none⟩:=λj=>by unfold Addr.add;split<;>simp_all
      have p:∀o,o<us.size->w.frozen? ⟨g,o,none⟩=false:=λo ho=>by
       simp only[World.frozen?,m];rcases pf with rfl|gP
       .simp
       .simp;omega
      have room:k+Af.length<=cap->(Builtin.append_ #[t,t'] o.type #[a.eval s,a.eval x]).run C.P w= .ok (.slice (some ⟨g,off,none⟩) (k+Af.length) cap) (w.setRow g (us.toList.take (off+k*(n+1))++news++us.toList.drop (off+k*(n+1)+news.length)).toArray)/\off+k*(n+1)+news.length<=us.size:=by
       intro hroom;have hfit:off+k*(n+1)+news.length<=us.size:=by rw[N6,F,O1,<-Bp];exact Nat.add_le_add_left (DB _ hroom) _
       have AH:=run_append_room_src (P:=C.P) w t t' o.type e i ht hi g off k cap (a.eval x) Af.length news IB hroom (λj hj=>by rw[cell_of_row w _ _ us J fr m,N5,B9 Ab];rfl) (λj hj=>by rw[N5];exact p _ Ab)
       rw[N5,D5 news _ us w m hfit,<-H5] at AH;exact⟨AH,hfit⟩
      have SX:(k+Af.length)*(n+1)=k*(n+1)+Af.length*(n+1):=Bp _ _ _;split at hp
      .rename_i UC;cases hp;have hroom:k+Af.length<=cap:=by have h3:(k+Af.length)*(n+1)<=cap*(n+1):=Ab;exact Nat.le_of_mul_le_mul_right h3 (CB n)
       obtain⟨AH,hfit⟩:=room hroom;have I:off+(k+Af.length)*(n+1)=off+k*(n+1)+news.length:=by rw[N6,SX];omega
       have hcl:(cs.take (off+k*(n+1))++Af.flatten++cs.drop (off+(k+Af.length)*(n+1))).length=cs.length:=by rw[I,Ap,Ap,Aw,A5,HI];omega
       have Ro:((us.toList.take (off+k*(n+1))++news++us.toList.drop (off+k*(n+1)+news.length)).toArray).toList.take (cs.take (off+k*(n+1))++Af.flatten++cs.drop (off+(k+Af.length)*(n+1))).length=
         (us.toList.take cs.length).take (off+k*(n+1))++news++(us.toList.take cs.length).drop (off+k*(n+1)+news.length):=by
        rw[hcl];simp only[Jg];exact KS (by simpa using YH) Ab rfl
       obtain⟨VF,Pw⟩:=LB hr.Dr hcs hg m (us.toList.take (off+k*(n+1))++news++us.toList.drop (off+k*(n+1)+news.length)).toArray (cs.take (off+k*(n+1))++Af.flatten++cs.drop (off+(k+Af.length)*(n+1)))
        (by simp only[Bx,Ap,Aw,A5,BR];omega)
        (by
         rcases pf with rfl|pf
         .exact .inl rfl
         .refine .inr (Bj (HF ?_) pf);simp only[Bx,Ap,Aw,A5,BR];omega)
        (by rw[Ro,I];exact Mg B Sm)
        (by
         rw[Ro];intro q hq;rcases An.1 hq with hq|hq
         .rcases An.1 hq with hq|hq
          .exact A q (AS hq)
          .exact IU.one q hq
         .exact A q (Bc hq))
       exact E0.value (KL _ _ AH) ((hr.world VF Pw).put λ_ _=>⟨g,cap,hg,rfl,hroom,qF,R2⟩)
      .rename_i aHs;split at hp
       .rename_i Gx;obtain⟨rfl,Vw,Qm⟩:=Gx;cases hp;simp only[By] at*;by_cases hroom:k+Af.length<=cap
        .obtain⟨AH,hfit⟩:=room hroom;have mO:(cs.take (k*(n+1))++Af.flatten).length=k*(n+1)+news.length:=by rw[Ap,Aw,HI];omega
         have Ro:((us.toList.take (k*(n+1))++news++us.toList.drop (k*(n+1)+news.length)).toArray).toList.take (cs.take (k*(n+1))++Af.flatten).length=(us.toList.take cs.length).take (k*(n+1))++news:=by
          rw[mO];simp only[Jg];have:(us.toList.take (k*(n+1))++news).length=k*(n+1)+news.length:=by rw[Ap,Aw,BR];omega
          rw[<-this,ED,Gk,Cr Vw]
         obtain⟨D,YI,Td,KT,RZ⟩:=hr.rY hcs hg m (by rw[R2,F]) (us.toList.take (k*(n+1))++news++us.toList.drop (k*(n+1)+news.length)).toArray (cs.take (k*(n+1))++Af.flatten)
          (by simp only[Bx,Ap,Aw,A5,BR];omega)
          (by
           rcases pf with rfl|pf
           .exact .inl rfl
           .refine .inr (Bj (HF ?_) pf);simp only[Bx,Ap,Aw,A5,BR];omega)
          (by rw[Ro];exact(B.take _).append Sm)
          (by
           rw[Ro];intro q hq;rcases An.1 hq with hq|hq
           .exact A q (AS hq)
           .exact IU.one q hq)
         exact E0.value (KL _ _ AH) (KT.put λ_ _=>⟨g,cap,Td,rfl,hroom,qF,by rw[RZ,F];simp⟩)
        .have gV:((us.toList.take cs.length).take (k*(n+1))).length=k*(n+1):=Ew;have:=d (h.set id .DD) (some ⟨g,0,none⟩) k cap (cs.take (k*(n+1))) ((us.toList.take cs.length).take (k*(n+1))) (hr.kill id) H5 (B.take _) gV (λq hq=>A q (AS hq))
          (by
           rw[N5];exact run_firstCells_some w.drew _ _ _ _ _ _ gV (λj y hj=>by
            rw[LG];show w.cell? _=_;rw[cell_of_row w _ _ us J fr m];rw[B2] at hj;split at hj
            .rw[B2] at hj;split at hj;.simpa using hj
             .cases hj
            .cases hj)) Ab Qm
         simpa using this
       .cases hp
     .cases hp
    .cases hp
   |_=>rw[<-hR] at hp;cases hp
def YQ(hi:Gm γ h w){id g off:Nat}{cs b:List Aa}{news:List Value}(hcs:h[id]?=some (.cells cs))(hg:γ.mu id=some g)(hv:AQ γ b news)(h1:∀u∈news,u.oneCell'=true)(hl:off+b.length<=cs.length):
  ∃w',(storeCells ⟨g,off,none⟩ news).run C.P w= .ok () w'/\Gm γ (h.set id (.cells (cs.take off++b++cs.drop (off+b.length)))) w'/\Kf γ w γ w':=by
 obtain⟨us,e,fr,hw,pf,d,c⟩:=hi.cells id cs hcs g hg;have N6:news.length=b.length:=hv.length;have hlt:cs.length<=us.size:=by have:=d.length;simp at this;omega
 have hs:=run_storeCells_cells (P:=C.P) g off news 0 w (λj hj=>by
  rw[cell_of_row w _ _ us e fr hw,Bb,B9 Ab];rfl) (λj hj=>by
  simp only[World.frozen?,hw];rcases pf with rfl|gP
  .simp
  .simp;omega) h1
 rw[Bb,D5 _ off us w hw Ab] at hs;have hcl:(cs.take off++b++cs.drop (off+b.length)).length=cs.length:=Ew;have Ro:((us.toList.take off++news++us.toList.drop (off+news.length)).toArray).toList.take (cs.take off++b++cs.drop (off+b.length)).length=(us.toList.take cs.length).take off++news++(us.toList.take cs.length).drop (off+news.length):=by rw[hcl];simp only[Jg];exact KS (by simpa using hlt) Ab rfl
 obtain⟨sB,ha⟩:=LB hi hcs hg hw (us.toList.take off++news++us.toList.drop (off+news.length)).toArray (cs.take off++b++cs.drop (off+b.length))
  (by simp only[Bx,Ap,Aw,A5,BR];omega)
  (by
   rcases pf with rfl|pf
   .exact .inl rfl
   .refine .inr (Bj (HF ?_) pf);simp only[Bx,Ap,Aw,A5,BR];omega)
  (by rw[Ro,N6];exact Mg d hv)
  (by
   rw[Ro];intro q hq;rcases An.1 hq with hq|hq
   .rcases An.1 hq with hq|hq
    .exact c q (AS hq)
    .exact h1 q hq
   .exact c q (Bc hq))
 exact⟨_,hs,sB,ha⟩
def bZ{t t' ty:TypeId}{ts:Array TypeId}{xs:Array Value}(h0:ts[0]?=some t)(h1:ts[1]?=some t'):Builtin.copy_ ts ty xs=Builtin.copy_ #[t,t'] ty xs:=by simp only[Builtin.copy_,h0];rfl
def YR{P:Program}{t t' ty e:TypeId}{i:TypeInfo}(ht:P.underlying t=some (.slice e))(hi:P.info? e=some i){x:Value}{n:Nat}{news:List Value}(hs:Src P i.size t' x n news w){base:Option Addr}{k cap:Nat}(hk:n<=k)
  (Hw:∀ad,base=some ad->(storeCells ad news).run P w= .ok () w') (Yc:base=none->w'=w):(Builtin.copy_ #[t,t'] ty #[.slice base k cap,x]).run P w= .ok (.int .i64 n) w':=by
 have hl:=hs.len w;have hc:=hs.cells;have hm:Nat.min n k=n:=Cr hk;cases base with
 |none=>cases Yc rfl;simp[Builtin.copy_,run_underlying ht,hl,hc,sizeOf,typeInfo,hi,hm,goInt]
 |some ad=>have h2:=Hw ad rfl;simp[Builtin.copy_,run_underlying ht,hl,hc,sizeOf,typeInfo,hi,hm,goInt,h2]
def sC{o:Oper}{c:Call}{t t' e:TypeId}{n:Nat}{s x:Operand}{v u r:Aa}{h':Ah}(ho:o.op= .call c)(hc:c.callee= .builtin .copy)(h0:c.argTypes[0]?=some t)(h1:c.argTypes[1]?=some t')(D6:c.args.toList=[s,x])(ht:C.P.underlying t=some (.slice e))
  (HC:(∃d,C.P.underlying t'=some (.slice d))\/C.P.underlying t'=some .string) (hsz:BI C.P e=some (n+1)) (hv:A9 C U [s,x]=some [v,u])
  (hp:gH h (n+1) v u=some (h',r)) (hr:CF C γ0 w0 γ Z U h a w):E0 C γ0 w0 o a w (U.put o.dst (.val r)) h':=by
 obtain⟨_,_,e0,hvs,aK⟩:=Ei hr hv;cases e0;have IS:c.args.map a.eval=#[a.eval s,a.eval x]:=by apply Fw;simp[D6]
 have KL:∀v' w',(Builtin.copy_ #[t,t'] o.type #[a.eval s,a.eval x]).run C.P w= .ok v' w'->(execOp a.eval o).run C.P w= .ok (.value v') w':=λv' w' AH=>by
  have:execOp a.eval o=(do pure (Next.value (<-Builtin.copy_ #[t,t'] o.type #[a.eval s,a.eval x]))):=by rw[<-IS,<-bZ (ty:=o.type) h0 h1];simp only[execOp,ho,resolve,hc];rfl
  rw[this];exact CY AH
 cases hi:C.P.info? e with
 |none=>simp[BI,hi] at hsz
 |some i=>
 have N5:=Ih hsz hi;unfold gH at hp;cases hq:Gc h (n+1) u with
 |none=>rw[hq] at hp;cases hp
 |some Af=>
  rw[hq] at hp;obtain⟨news,IU,Sm,bW⟩:=S8 (w:=w) HC hr.Dr aK hq;have IB:Src C.P i.size t' (a.eval x) Af.length news w:=by rw[N5];exact IU
  have N6:news.length=Af.length*(n+1):=IU.newsLen;have HI:Af.flatten.length=news.length:=by rw[Sm.length]
  simp only at hp;split at hp
  .split at hp;.rename_i nC;cases hp;have H5:a.eval s= .slice none 0 0:=hvs;have AH:=YR (t:=t) (ty:=o.type) (w:=w) (w':=w) ht hi IB (base:=none) (k:=0) (cap:=0) Ab (λ_ e=>by cases e) (λ_=>rfl);rw[<-H5] at AH;rw[nC] at AH;exact E0.value (KL _ _ AH) (hr.put λ_ _=>rfl)
   .cases hp
  .rename_i id off k z;split at hp
   .rename_i cs hcs;split at hp;.rename_i Gx;obtain⟨rfl,b,hlen⟩:=Gx;cases hp;obtain⟨g,cap,hg,H5,yJ,qF,R2⟩:=(show Bv γ _ _ from hvs);have hm:=DB (n+1) b;obtain⟨w',Hw,sB,nu⟩:=YQ (C:=C) (off:=off) hr.Dr hcs hg Sm IU.one Ab;have AH:=YR (t:=t) (ty:=o.type) (w:=w) (w':=w') ht hi IB (base:=some ⟨g,off,none⟩) (k:=k) (cap:=cap) b (λ_ e=>by cases e;exact Hw) (λe=>by cases e);rw[<-H5] at AH;rw[show Af.length*(n+1)=Af.flatten.length by rw[HI,N6]];exact E0.value (KL _ _ AH) ((hr.world sB nu).put λ_ _=>rfl)
    .cases hp
   .cases hp
  .cases hp
def YS{t ty:TypeId}{ts:Array TypeId}{xs:Array Value}(h0:ts[0]?=some t):Builtin.clear_ ts ty xs=Builtin.clear_ #[t] ty xs:=by simp only[Builtin.clear_,h0];rfl
def nD{o:Oper}{c:Call}{t e:TypeId}{n:Nat}{s:Operand}{v z r:Aa}{h':Ah}(ho:o.op= .call c)(hc:c.callee= .builtin .clear)(h0:c.argTypes[0]?=some t)(D6:c.args.toList=[s])(ht:C.P.underlying t=some (.slice e))
  (hsz:BI C.P e=some (n+1)) (hz:FW C.P e=some z) (hv:A9 C U [s]=some [v]) (hp:SF h (n+1) z.cells v=some (h',r)) (hr:CF C γ0 w0 γ Z U h a w):E0 C γ0 w0 o a w (U.put o.dst .undef) h':=by
 obtain⟨_,e0,hvs⟩:=FF hr hv;cases e0;have IS:c.args.map a.eval=#[a.eval s]:=by apply Fw;simp[D6]
 have KL:∀v' w',(Builtin.clear_ #[t] o.type #[a.eval s]).run C.P w= .ok v' w'->(execOp a.eval o).run C.P w= .ok (.value v') w':=λv' w' AH=>by
  have:execOp a.eval o=(do pure (Next.value (<-Builtin.clear_ #[t] o.type #[a.eval s]))):=by rw[<-IS,<-YS (ty:=o.type) h0];simp only[execOp,ho,resolve,hc];rfl
  rw[this];exact CY AH
 unfold SF at hp;split at hp
 .cases hp;have H5:a.eval s= .slice none 0 0:=hvs;have AH:(Builtin.clear_ #[t] o.type #[a.eval s]).run C.P w= .ok (.tuple #[]) w:=by rw[H5];simp[Builtin.clear_,run_underlying ht]
  exact E0.value (KL _ _ AH) (hr.put λ_ _=>trivial)
 .rename_i id off k A;split at hp
  .rename_i cs hcs;split at hp
   .rename_i Gx;obtain⟨rfl,f,hlen⟩:=Gx;cases hp;obtain⟨g,cap,hg,H5,yJ,qF,R2⟩:=(show Bv γ _ _ from hvs);obtain⟨d,qG,oe⟩:=GH hz;obtain⟨m,p⟩:=Ge (γ:=γ) (EA qG) Ab;have hzs:d.cells.size=n+1:=by have:=m.length;simp at this;omega
    have HI:(List.replicate k z.cells).flatten.length=k*(n+1):=by rw[Gg (z:=n+1) (λr hr=>by rw[gh hr,f]),EY]
    have i:∀(j:Nat) (u:Value),(Builtin.zeroCells d.cells k).toList[j]?=some u->j<k*(n+1)/\d.cells.toList[j%(n+1)]?=some u:=by
     intro j u hj;have rS:j<k*(n+1):=by have:=(Ai.1 hj).1;simpa[size_zeroCells,hzs] using this
     refine⟨rS,?_⟩;have ob:j%(n+1)<d.cells.size:=by rw[hzs];exact Nat.mod_lt _ (CB n)
     simp only[Builtin.zeroCells,Lu,Cj] at hj;have b:(Array.range (k*d.cells.size)).toList[j]?=some j:=by simp[hzs,rS]
     rw[b] at hj;simp only[BO,Bs] at hj;rw[hzs] at hj;rw[<-hj];simp[ob]
    have q:AQ γ (List.replicate k z.cells).flatten (Builtin.zeroCells d.cells k).toList:=by refine AQ.FX (by simp only[BR,size_zeroCells,hzs,HI]) λj x u hx hu=>?_;obtain⟨rS,l⟩:=i j u hu;rw[GL z.cells _ _ (by rw[f];exact rS),f] at hx;obtain⟨B,rH,ny⟩:=m.get hx;rw[l] at rH;cases rH;exact ny
    obtain⟨w',Hw,sB,nu⟩:=YQ (C:=C) (off:=off) hr.Dr hcs hg q (λu hu=>by obtain⟨j,hj⟩:=Cq hu;exact p u (Ca (i j u hj).2)) Ab
    have AH:(Builtin.clear_ #[t] o.type #[a.eval s]).run C.P w= .ok (.tuple #[]) w':=by
     rw[H5];cases k with
     |zero=>
      have y:(Builtin.zeroCells d.cells 0).toList=[]:=by simp[Builtin.zeroCells]
      rw[y] at Hw;have:w'=w:=by have h2:(storeCells ⟨g,off,none⟩ []).run C.P w= .ok () w:=rfl;rw[h2] at Hw;cases Hw;rfl
      rw[this];simp[Builtin.clear_,run_underlying ht]
     |succ k=>simp[Builtin.clear_,run_underlying ht,oe,Hw]
    rw[show k*(n+1)=(List.replicate k z.cells).flatten.length from HI.symm];exact E0.value (KL _ _ AH) ((hr.world sB nu).put λ_ _=>trivial)
   .cases hp
  .cases hp
 .cases hp
def sD{o:Oper}{t e:TypeId}{n:Nat}{x:Operand}{lo hi:Option Operand}{v r:Aa}{as:List Aa}{h':Ah}(ho:o.op= .slice t x lo hi none)(ht:C.P.underlying t=some (.slice e))(hsz:BI C.P e=some (n+1))
  (hv:A9 C U (x::(lo.toList++hi.toList))=some (v::as)) (hp:Yr h (n+1) lo.isSome hi.isSome v as=some (h',r)) (hr:CF C γ0 w0 γ Z U h a w):E0 C γ0 w0 o a w (U.put o.dst (.val r)) h':=by
 have bY:=Di hr hv;obtain⟨u,us,c,hx,sE⟩:=bY;simp only[Be,EM] at c;obtain⟨rfl,rfl⟩:=c;unfold Yr at hp;split at hp
 .rename_i id off k z;split at hp
  .rename_i cs hcs;split at hp
   .rename_i Gx;obtain⟨rfl,b,Â⟩:=Gx;obtain⟨g,cap,hg,H5,yJ,qF,R2⟩:=(show Bv γ _ _ from hx);cases hb:DO lo.isSome hi.isSome ((cs.length-off)/(n+1)) as with
    |none=>rw[hb] at hp;cases hp
    |some m=>
     obtain⟨l,q⟩:=m;rw[hb] at hp;simp only[BZ] at hp;split at hp
     .rename_i hlt;cases hp;obtain⟨us,c,fr,j,pf,i,E⟩:=hr.Dr.cells id cs hcs g hg;obtain⟨⟨qE,B,s,d,D⟩,_⟩:=hr.Dr.sz g _ R2;rw[j] at d;cases d;have YH:cs.length<=us.size:=by have:=i.length;simp at this;omega
      have aBm:(cs.length-off)/(n+1)<=cap:=by refine Nat.div_le_of_le_mul ?_;rw[Nat.mul_comm];omega
      have f:∀y:Option Operand,(y.map a.eval).isSome=y.isSome:=λy=>by cases y<;>rfl
      have A:(lo.map a.eval).toList++(hi.map a.eval).toList=(lo.toList++hi.toList).map a.eval:=by cases lo<;>cases hi<;>rfl
      rw[<-f lo,<-f hi] at hb;obtain⟨p,G,F⟩:=I5 (P:=C.P) (w:=w) (isSlice:=true) hb (by rw[A];exact sE) aBm;have LC:Instr.sliceBounds true k cap (lo.map a.eval) (hi.map a.eval) none=Instr.sliceBounds true ((cs.length-off)/(n+1)) cap (lo.map a.eval) (hi.map a.eval) none:=by
       cases hi with
       |none=>cases b
       |some y=>rfl
      have HC:C.P.underlying t=some (.slice (C.P.elem t)):=by simp[Program.elem,ht]
      have he:C.P.elem t=e:=by simp[Program.elem,ht]
      have AH:(Instr.sliceAt t (a.eval x) (lo.map a.eval) (hi.map a.eval) none).run C.P w= .ok (.slice (some ⟨g,off+l*(n+1),none⟩) (q-l) (cap-l)) w:=by rw[H5,run_sliceAt_slice w t _ _ _ _ HC,run_slice_any w t _ _ _ HC,LC,p,he,Result.andThen_ok,C8 hsz];show Result.ok (Value.slice (if cap=l then some ⟨g,off,none⟩ else Option.map (λq:Addr=>q.add (l*(n+1))) (some ⟨g,off,none⟩)) (q-l) (cap-l)) w=_;rw[Ac Ab];simp only[BO];unfold Addr.add;split<;>simp_all
      refine E0.value (by simp only[execOp,ho];exact CY AH) (hr.put λ_ _=>⟨g,cap-l,hg,rfl,Ab,⟨qF.1,Bj (Nat.sub_le _ _) qF.2⟩,?_⟩);rw[R2,O1,<-Bp,aAX Ab]
     .cases hp
   .cases hp
  .cases hp
 .cases hp
def sF{o:Oper}{t e:TypeId}{n:Nat}{x lo hi mx:Operand}{args:List Aa}(ho:o.op= .slice t x (some lo) (some hi) (some mx))(ht:C.P.underlying t=some (.slice e))(hsz:BI C.P e=some (n+1))
  (hv:A9 C U [x,lo,hi,mx]=some args) (hp:SG (n+1) args=true) (hr:CF C γ0 w0 γ Z U h a w):E0 C γ0 w0 o a w (U.put o.dst .undef) h:=by
 have bY:=Di hr hv;have HC:C.P.underlying t=some (.slice (C.P.elem t)):=by simp[Program.elem,ht]
 have he:C.P.elem t=e:=by simp[Program.elem,ht]
 have HT:∀(base:Option Addr) (len cap:Nat) (kl d f:IntKind) (l r m:Int),a.eval x= .slice base len cap->a.eval lo= .int kl l->a.eval hi= .int d r->a.eval mx= .int f m->0<=l->l<=r->r<=m->m<=cap->E0 C γ0 w0 o a w (U.put o.dst .undef) h:=by
  intro base len cap kl d f l r m z y u q h1 h2 h3 i;have AH:∃v,(Instr.sliceAt t (a.eval x) (some (a.eval lo)) (some (a.eval hi)) (some (a.eval mx))).run C.P w= .ok v w:=by
   have c:0<=m:=Ab;have b:0<=r:=Ab;have b1:∀code,(Instr.sliceBound (.int f m) cap code).run C.P w= .ok m.toNat w:=λcode=>by simp[Instr.sliceBound,asIntOf,c,i]
   have b2:∀code,(Instr.sliceBound (.int d r) m.toNat code).run C.P w= .ok r.toNat w:=λcode=>by simp[Instr.sliceBound,asIntOf,b,Jj c,h3]
   have b3:∀code,(Instr.sliceBound (.int kl l) r.toNat code).run C.P w= .ok l.toNat w:=λcode=>by simp[Instr.sliceBound,asIntOf,h1,Jj b,h2]
   rw[z,y,u,q];simp[Instr.sliceAt,Instr.slice,run_underlying ht,Instr.sliceBounds,b1,b2,b3,C8 hsz]
  obtain⟨v,AH⟩:=AH;exact E0.value (by simp only[execOp,ho];exact CY AH) (hr.put λ_ _=>trivial)
 unfold SG at hp;split at hp
 .rename_i s _ l _ r _ m;obtain⟨D,zl,f1,g1,u2,bF,f2,g2,B,p,f3,g3,A,k,f4,j,f5⟩:=bY;subst f5;simp only[Be,DJ] at f1;subst f4;subst f3;subst f2;simp only[EM,Hl] at f1;obtain⟨rfl,rfl,rfl,rfl⟩:=f1;split at hp;.simp only[Bf,C6] at hp;obtain⟨⟨⟨⟨_,h1⟩,h2⟩,h3⟩,i⟩:=hp;obtain⟨g,cap,hg,H5,yJ,_⟩:=(show Bv γ _ _ from g1);exact HT _ _ _ _ _ _ _ _ _ H5 (DT g2) (DT g3) (DT j) h1 h2 h3 Ab
  .simp only[Bf,C6] at hp;obtain⟨⟨⟨⟨_,h1⟩,h2⟩,h3⟩,i⟩:=hp;obtain⟨ad,cap,H5,yJ,_⟩:=(show Bv γ _ _ from g1);exact HT _ _ _ _ _ _ _ _ _ H5 (DT g2) (DT g3) (DT j) h1 h2 h3 Ab
  .cases hp
 .cases hp
def sG{o:Oper}{t:TypeId}{x:Operand}{v:Aa}{u:TypeDesc}(ho:o.op= .makeInterface t x)(ht:C.P.underlying t=some u)(hn:∀i,u≠ .interface i)(hv:A9 C U [x]=some [v])(hr:CF C γ0 w0 γ Z U h a w):E0 C γ0 w0 o a w (U.put o.dst (.val (.iface t v))) h:=by
 obtain⟨_,e0,hvs⟩:=FF hr hv;cases e0;have AH:(Instr.makeInterface t (a.eval x)).run C.P w= .ok (.iface t (a.eval x)) w:=by cases u<;>simp_all [Instr.makeInterface,run_underlying ht]
 exact E0.value (by simp only[execOp,ho];exact CY AH) (hr.put λ_ _=>⟨_,rfl,hvs⟩)
def NO{n:Int}:∀{es:List (Aa×Aa)} {l:List MapEntry} {i:Nat} {r:Option (Nat×Aa)},Jv γ es l->JN n es i=some r->
  match r with
  |none=>Instr.findNow (.int .i64) (.int .i64 n) l i=some none
  |some (j,v)=>∃(e:MapEntry),Instr.findNow (.int .i64) (.int .i64 n) l i=some (some (j,e.val))/\Bv γ v e.val/\i<=j/\l[j-i]?=some e/\e.key= .int .i64 n
 |[],l,i,r,hM,hf=>by rw[show l=[] from hM];cases hf;rfl
 |(k,v)::es,l,i,r,hM,hf=>by
  obtain⟨e,l',rfl,h1,h2,h3⟩:=hM;cases k with
  |int q t=>
   by_cases hq:q= .i64
   .subst hq;simp only[JN] at hf;have hk:e.key= .int .i64 t:=h1;split at hf;.rename_i Hw;subst Hw;cases hf;exact⟨e,by simp[Instr.findNow,hk,Instr.sameNow],h2,Ae _,Av,hk⟩
    .rename_i Hw;have È:(n==t)=false:=by simpa using Hw
     have ih:=NO (i:=i+1) h3 hf;cases r with
     |none=>simpa[Instr.findNow,hk,Instr.sameNow,È] using ih
     |some p=>obtain⟨j,v2⟩:=p;obtain⟨g,f,d,m,c,b⟩:=ih;refine⟨g,by simpa[Instr.findNow,hk,Instr.sameNow,È] using f,d,Ab,?_,b⟩;rw[(Ab:j-i=(j-(i+1))+1),Qf];exact c
   .exfalso;cases q<;>first|exact hq rfl|(simp[JN] at hf)
  |_=>simp[JN] at hf
def sH{o:Oper}{t kt e:TypeId}{m k:Operand}{d f z r:Aa}{ok:Bool}{h':Ah}(ho:o.op= .lookup t m k ok)(ht:C.P.underlying t=some (.map kt e))(hk:C.P.underlying kt=some (.int .i64))(hz:FW C.P e=some z)(ha:A9 C U [m,k]=some [d,f])(hm:gJ h z ok d f=some (h',r))(hr:CF C γ0 w0 γ Z U h a w):
  E0 C γ0 w0 o a w (U.put o.dst (.val r)) h':=by
 obtain⟨_,_,e0,h1,h2⟩:=Ei hr ha;cases e0;obtain⟨c,qG,oe⟩:=GH hz;have HT:∀(es:Array MapEntry) (q:Option (Nat×Aa)),(Instr.lookup t (a.eval m) (a.eval k) ok).run C.P w=(Jo kt e (a.eval k) ok es).run C.P w->
   ∀n,a.eval k= .int .i64 n->(match q with|none=>Instr.findNow (.int .i64) (.int .i64 n) es.toList 0=some none|some (j,v)=>∃(e:MapEntry),Instr.findNow (.int .i64) (.int .i64 n) es.toList 0=some (some (j,e.val))/\Bv γ v e.val/\0<=j/\es.toList[j-0]?=some e/\e.key= .int .i64 n)->
   aZ z ok q=r->E0 C γ0 w0 o a w (U.put o.dst (.val r)) h:=by
  intro es q Pu n zS hq Rm;have mZ:(Instr.checkKey es.isEmpty 10000 kt (.int .i64 n)).run C.P w= .ok () w:=MapKept.run_checkKey (k:= .int .i64 n) hk (by simp[MapKept.IsKey]) es.isEmpty 9999;have AH:∃v,(Instr.lookup t (a.eval m) (a.eval k) ok).run C.P w= .ok v w/\Bv γ r v:=by
   cases q with
   |none=>
    refine⟨if ok then .tuple #[c,.bool false] else c,?_,?_⟩;.rw[Pu,zS];unfold Jo;simp only[Sem.run_bind,Result.andThen_ok,mZ,MapKept.run_findKey hk hq,oe,Sem.run_bind,Sem.run_pure]
    .rw[<-Rm];have Æ:=EA (γ:=γ) qG;cases ok with
     |true=>exact⟨_,rfl,_,_,rfl,Æ,_,_,rfl,rfl,rfl⟩
     |false=>exact Æ
   |some p=>
    obtain⟨j,v⟩:=p;obtain⟨l,s,g,_⟩:=hq;refine⟨if ok then .tuple #[l.val,.bool true] else l.val,?_,?_⟩;.rw[Pu,zS];unfold Jo;simp only[Sem.run_bind,Result.andThen_ok,mZ,MapKept.run_findKey hk s,Sem.run_bind,Sem.run_pure]
    .rw[<-Rm];cases ok with
     |true=>exact⟨_,rfl,_,_,rfl,g,_,_,rfl,rfl,rfl⟩
     |false=>exact g
  obtain⟨v,AH,gT⟩:=AH;exact E0.value (by simp only[execOp,ho];exact CY AH) (hr.put λ_ _=>gT)
 unfold gJ at hm;split at hm;.rename_i n;cases hm;exact HT #[] none (by rw[show a.eval m=_ from h1];simp only[Instr.lookup,Jo,Sem.run_bind,run_underlying ht,Result.andThen_ok,Sem.run_pure];rfl) n h2 rfl rfl
 .rename_i id n;obtain⟨b,hb,mY⟩:=h1;split at hm
  .rename_i es Pu;obtain⟨Dn,clock,hw,hM,_⟩:=hr.Dr.map id es Pu b hb;cases hf:JN n es 0 with
   |none=>rw[hf] at hm;cases hm
   |some q=>
    rw[hf] at hm;simp only[BO,Bs,HV] at hm;obtain⟨rfl,hm⟩:=hm;refine HT Dn q (by rw[mY];simp only[Instr.lookup,Jo,Sem.run_bind,run_underlying ht,MapKept.run_getObj_map hw,Result.andThen_ok,Sem.run_pure];rfl) n h2 ?_ ?_
    .have:=NO (i:=0) hM hf;cases q with
     |none=>exact this
     |some p=>exact this
    .exact hm
  .cases hm
 .cases hm
def Jv.sI{k v:Aa}{e:MapEntry}(hk:Bv γ k e.key)(hv:Bv γ v e.val):∀{es:List (Aa×Aa)} {l:List MapEntry},Jv γ es l->Jv γ (es++[(k,v)]) (l++[e])
 |[],l,hM=>by rw[show l=[] from hM];exact⟨e,[],rfl,hk,hv,rfl⟩
 |(k',v')::es,l,hM=>by obtain⟨b,l',rfl,h1,h2,h3⟩:=hM;exact⟨b,_,rfl,h1,h2,Jv.sI hk hv h3⟩
def Jv.length:∀{es:List (Aa×Aa)} {l:List MapEntry},Jv γ es l->l.length=es.length
 |[],l,hM=>by rw[show l=[] from hM];rfl
 |(k',v')::es,l,hM=>by obtain⟨b,l',rfl,h1,h2,h3⟩:=hM;simp[Jv.length h3]
def Jv.modify{v:Aa}{u:Value}(hv:Bv γ v u):∀{es:List (Aa×Aa)} {l:List MapEntry} {j:Nat} {k v0:Aa},Jv γ es l->es[j]?=some (k,v0)->Jv γ (es.set j (k,v)) (l.modify j λe=>{e with val:=u})
 |[],l,j,k,v0,hM,hj=>by simp at hj
 |(k',v')::es,l,j,k,v0,hM,hj=>by
  obtain⟨b,l',rfl,h1,h2,h3⟩:=hM;cases j with
  |zero=>cases hj;exact⟨{b with val:=u},l',Av,h1,hv,h3⟩
  |succ j=>exact⟨b,l'.modify j _,Av,h1,h2,Jv.modify hv h3 (by simpa using hj)⟩
def YT{es:Array MapEntry}{j:Nat}{e:MapEntry}{k:Value}(hj:es[j]?=some e)(hk:e.key=k):(es.modify j λe=>{e with key:=k})=es:=by
 apply NF;intro i;rw[Lb];split;.rename_i hi;subst hi;rw[hj];simp[<-hk]
 .rfl
def Te{o:Oper}{t kt e:TypeId}{m k:Operand}{kA z r:Aa}{kV:Value}{d:TypeDesc}{h':Ah}{id:Nat}{es:List (Aa×Aa)}{f:Option (Option (Nat×Aa))}(ho:o.op= .mapEntry t m k)(ht:C.P.underlying t=some (.map kt e))(hk:C.P.underlying kt=some d)(g:MapKept.IsKey d kV)(hz:FW C.P e=some z)
  (h1:Bv γ (.map (some id)) (a.eval m)) (od:a.eval k=kV) (n:Bv γ kA kV) (Pu:h[id]?=some (.map es))
  (hq:∀(l:List MapEntry) q,Jv γ es l->f=some q->match q with
   |none=>Instr.findNow d kV l 0=some none
   |some (j,v)=>∃(e:MapEntry),Instr.findNow d kV l 0=some (some (j,e.val))/\Bv γ v e.val/\0<=j/\l[j-0]?=some e/\e.key=kV)
  (hm:(f.map λr=>match r with
   |some (i,v)=>(h,Aa.tuple [v,.int .i64 i])
   |none=>(h.set id (.map (es++[(kA,z)])),.tuple [z,.int .i64 es.length]))=some (h',r)) (hr:CF C γ0 w0 γ Z U h a w):
  E0 C γ0 w0 o a w (U.put o.dst (.val r)) h':=by
 obtain⟨c,qG,oe⟩:=GH hz;obtain⟨b,hb,mY⟩:=h1;obtain⟨Dn,clock,hw,hM,hB⟩:=hr.Dr.map id es Pu b hb;have mZ:(Instr.checkKey false 10000 kt kV).run C.P w= .ok () w:=MapKept.run_checkKey (k:=kV) hk g false 9999;cases f with
 |none=>cases hm
 |some q=>
  have hq:=hq Dn.toList q hM rfl;cases q with
  |none=>
   simp only[BO,Bs,HV] at hm;obtain⟨rfl,rfl⟩:=hm;have AH:(Instr.mapEntry t (a.eval m) (a.eval k)).run C.P w= .ok (.tuple #[c,goInt clock]) {w with heap:=w.heap.setIfInBounds b (.map (Dn.push {key:=kV,val:=c,born:=clock}) (clock+1))}:=by rw[mY,od];simp[Instr.mapEntry,run_underlying ht,MapKept.run_getObj_map hw,mZ,MapKept.run_findKey hk hq,oe,MapKept.run_setObj_map _ hw,Result.andThen]
   obtain⟨hi,IC⟩:=LI (RT:=es++[(kA,z)]) (ents':=Dn.push {key:=kV,val:=c,born:=clock}) (clock':=clock+1) hr.Dr Pu hb hw ⟨by have:=Jv.sI (γ:=γ) (k:=kA) (v:=z) (e:={key:=kV,val:=c,born:=clock}) n (EA qG) hM;simpa using this,QC hB⟩
   refine E0.value (by simp only[execOp,ho];exact CY AH) ((hr.world hi IC).put λ_ _=>⟨_,rfl,c,_,rfl,EA qG,_,[],rfl,?_,rfl⟩);rw[hB.1];have:=hM.length;simp only[BR] at this;rw[<-this];rfl
  |some p=>
   obtain⟨j,v⟩:=p;simp only[BO,Bs,HV] at hm;obtain⟨rfl,rfl⟩:=hm;obtain⟨s,A,y,_,x,u⟩:=hq;have hj:Dn[j]?=some s:=by simpa using x
   have É:=hB.2 j s hj;have nE:w.heap.setIfInBounds b (.map Dn clock)=w.heap:=by
    apply NF;intro i;rw[qA];split;.rename_i hi;subst hi;have hlt:=(Aq.1 hw).1;rw[Ad hlt,hw]
    .rfl
   have AH:(Instr.mapEntry t (a.eval m) (a.eval k)).run C.P w= .ok (.tuple #[s.val,goInt j]) w:=by rw[mY,od];simp[Instr.mapEntry,run_underlying ht,MapKept.run_getObj_map hw,mZ,MapKept.run_findKey hk A,hj,u,MapKept.run_keyThatStays (d:=d) (k:=kV) g,MapKept.run_setObj_map _ hw,Result.andThen,É,YT hj u,nE]
   exact E0.value (by simp only[execOp,ho];exact CY AH) (hr.put λ_ _=>⟨_,rfl,_,_,rfl,y,_,[],rfl,rfl,rfl⟩)
def cA{o:Oper}{t kt e:TypeId}{m k:Operand}{b c z r:Aa}{h':Ah}(ho:o.op= .mapEntry t m k)(ht:C.P.underlying t=some (.map kt e))(hk:C.P.underlying kt=some (.int .i64))(hz:FW C.P e=some z)(ha:A9 C U [m,k]=some [b,c])(hm:Si h z b c=some (h',r))(hr:CF C γ0 w0 γ Z U h a w):
  E0 C γ0 w0 o a w (U.put o.dst (.val r)) h':=by
 obtain⟨_,_,e0,h1,h2⟩:=Ei hr ha;cases e0;unfold Si at hm;split at hm
 .rename_i id n;split at hm;.rename_i es Pu;exact Te (kA:= .int .i64 n) (kV:= .int .i64 n) ho ht hk (by simp[MapKept.IsKey]) hz h1 h2 rfl Pu (λl q hM hf=>NO (i:=0) hM hf) hm hr
  .cases hm
 .cases hm
def VG{s:Au}:∀{es:List (Aa×Aa)} {l:List MapEntry} {i:Nat} {r:Option (Nat×Aa)},Jv γ es l->SH s es i=some r->
  match r with
  |none=>Instr.findNow .string (.string ⟨⟨s⟩⟩) l i=some none
  |some (j,v)=>∃(e:MapEntry),Instr.findNow .string (.string ⟨⟨s⟩⟩) l i=some (some (j,e.val))/\Bv γ v e.val/\i<=j/\l[j-i]?=some e/\e.key= .string ⟨⟨s⟩⟩
 |[],l,i,r,hM,hf=>by rw[show l=[] from hM];cases hf;rfl
 |(k,v)::es,l,i,r,hM,hf=>by
  obtain⟨e,l',rfl,h1,h2,h3⟩:=hM;cases k with
  |str t=>
   simp only[SH] at hf;have hk:e.key= .string ⟨⟨t⟩⟩:=h1;split at hf;.rename_i Hw;subst Hw;cases hf;exact⟨e,by simp[Instr.findNow,hk,Instr.sameNow,OI],h2,Ae _,Av,hk⟩
   .rename_i Hw;have ih:=VG (i:=i+1) h3 hf;have hne:=Tb Hw;cases r with
    |none=>simpa[Instr.findNow,hk,Instr.sameNow,hne] using ih
    |some p=>obtain⟨j,v2⟩:=p;obtain⟨g,f,d,m,c,b⟩:=ih;refine⟨g,by simpa[Instr.findNow,hk,Instr.sameNow,hne] using f,d,Ab,?_,b⟩;rw[(Ab:j-i=(j-(i+1))+1),Qf];exact c
  |_=>simp[SH] at hf
def cC{o:Oper}{t kt e:TypeId}{m k:Operand}{b c z r:Aa}{h':Ah}(ho:o.op= .mapEntry t m k)(ht:C.P.underlying t=some (.map kt e))(hk:C.P.underlying kt=some .string)(hz:FW C.P e=some z)(ha:A9 C U [m,k]=some [b,c])(hm:Wv h z b c=some (h',r))(hr:CF C γ0 w0 γ Z U h a w):
  E0 C γ0 w0 o a w (U.put o.dst (.val r)) h':=by
 obtain⟨_,_,e0,h1,h2⟩:=Ei hr ha;cases e0;unfold Wv at hm;split at hm
 .rename_i id n;split at hm;.rename_i es Pu;exact Te (kA:= .str n) (kV:= .string ⟨⟨n⟩⟩) ho ht hk (by simp[MapKept.IsKey]) hz h1 h2 rfl Pu (λl q hM hf=>VG (i:=0) hM hf) hm hr
  .cases hm
 .cases hm
def YU{o:Oper}{t kt e:TypeId}{m k x:Operand}{d f c r:Aa}{h':Ah}(ho:o.op= .insert t m k x\/o.op= .mapUpdate t m k x)(hd:o.dst=none)(ht:C.P.underlying t=some (.map kt e))(hk:C.P.underlying kt=some (.int .i64))(ha:A9 C U [m,k,x]=some [d,f,c])
  (hm:qT h d f c=some (h',r)) (hr:CF C γ0 w0 γ Z U h a w):E0 C γ0 w0 o a w U h':=by
 obtain⟨h1,h2,h3⟩:=OJ hr ha;have KL:∀w',(Instr.mapUpdate t (a.eval m) (a.eval k) (a.eval x)).run C.P w= .ok () w'->(execOp a.eval o).run C.P w= .ok .skip w':=λw' AH=>by rcases ho with ho|ho<;>simp[execOp,ho,AH]
 unfold qT at hm;split at hm
 .rename_i id n;obtain⟨b,hb,mY⟩:=h1;have od:a.eval k= .int .i64 n:=h2;split at hm
  .rename_i es Pu;obtain⟨Dn,clock,hw,hM,hB⟩:=hr.Dr.map id es Pu b hb;have mZ:(Instr.checkKey false 10000 kt (.int .i64 n)).run C.P w= .ok () w:=MapKept.run_checkKey (k:= .int .i64 n) hk (by simp[MapKept.IsKey]) false 9999;split at hm
   .rename_i hf;cases hm;have hq:=NO (i:=0) hM hf;have AH:(Instr.mapUpdate t (a.eval m) (a.eval k) (a.eval x)).run C.P w= .ok () {w with heap:=w.heap.setIfInBounds b (.map (Dn.push {key:= .int .i64 n,val:=a.eval x,born:=clock}) (clock+1))}:=by rw[mY,od];simp[Instr.mapUpdate,run_underlying ht,MapKept.run_getObj_map hw,mZ,MapKept.run_findKey hk hq,MapKept.run_setObj_map _ hw,Result.andThen]
    obtain⟨hi,IC⟩:=LI (RT:=es++[(.int .i64 n,c)]) (ents':=Dn.push {key:= .int .i64 n,val:=a.eval x,born:=clock}) (clock':=clock+1) hr.Dr Pu hb hw ⟨by have:=Jv.sI (γ:=γ) (k:= .int .i64 n) (v:=c) (e:={key:= .int .i64 n,val:=a.eval x,born:=clock}) rfl h3 hM;simpa using this,QC hB⟩
    exact E0.skip (KL _ AH) (by rw[hd];exact hr.world hi IC)
   .cases hm
  .cases hm
 .cases hm
def WN{es:Array MapEntry}(hB:∀(i:Nat) (e:MapEntry),es[i]?=some e->e.born=i){j:Nat}{e:MapEntry}(hj:es[j]?=some e):es.findIdx? (λe=>(e.born:Int)==(j:Int))=some j:=by
 rw[Array.findIdx?_eq_some_iff_getElem];obtain⟨hl,he⟩:=Aq.1 hj;refine⟨hl,?_,λi hi=>?_⟩;.have:=hB j _ (B9 hl);simp[this]
 .have:=hB i _ (B9 Ab);simp[this];omega
def cD{o:Oper}{t:TypeId}{m s x:Operand}{f vs c r:Aa}{h':Ah}(ho:o.op= .entryStore t m s x)(hd:o.dst=none)(ha:A9 C U [m,s,x]=some [f,vs,c])(hm:Sj h f vs c=some (h',r))(hr:CF C γ0 w0 γ Z U h a w):E0 C γ0 w0 o a w U h':=by
 obtain⟨h1,h2,h3⟩:=OJ hr ha;have KL:∀w',(Instr.entryStore t (a.eval m) (a.eval s) (a.eval x)).run C.P w= .ok () w'->(execOp a.eval o).run C.P w= .ok .skip w':=λw' AH=>by simp[execOp,ho,AH]
 unfold Sj at hm;split at hm
 .rename_i id n;obtain⟨b,hb,mY⟩:=h1;have H5:a.eval s= .int .i64 n:=h2;split at hm
  .rename_i es Pu;split at hm
   .rename_i hn;split at hm
    .rename_i kk v0 hk;cases hm;obtain⟨Dn,clock,hw,hM,hB⟩:=hr.Dr.map id es Pu b hb;have hlen:=hM.length;have hlt:=(Ai.1 hk).1;have d:∃g,Dn[n.toNat]?=some g:=⟨Dn[n.toNat]'(by simp at hlen;omega),B9 _⟩;obtain⟨g,hj⟩:=d;have rD:((n.toNat:Nat):Int)=n:=Ab;have Ê:=WN hB.2 hj;rw[rD] at Ê;have AH:(Instr.entryStore t (a.eval m) (a.eval s) (a.eval x)).run C.P w= .ok () {w with heap:=w.heap.setIfInBounds b (.map (Dn.modify n.toNat λe=>{e with val:=a.eval x}) clock)}:=by rw[mY,H5];simp[Instr.entryStore,MapKept.run_getObj_map hw,asInt,asIntOf,Ê,MapKept.run_setObj_map _ hw,Result.andThen]
     obtain⟨hi,IC⟩:=LI (RT:=es.set n.toNat (kk,c)) (ents':=Dn.modify n.toNat λe=>{e with val:=a.eval x}) (clock':=clock) hr.Dr Pu hb hw ⟨by have:=Jv.modify h3 hM hk;simpa using this,Rn hB λ_=>rfl⟩
     exact E0.skip (KL _ AH) (by rw[hd];exact hr.world hi IC)
    .cases hm
   .cases hm
  .cases hm
 .cases hm
end
end Go.Am
end
section
section
namespace Go.Am
open Go
section
variable{C:Fo}{γ0 γ γ':Gh}{w0 w w':World}{O:Nat->Nat}{U U':Bu}{h h':Ah}{a:Act}{fid:FuncId}{ops:List Oper}
def E0.wp{o:Oper}{K:Act->World->Prop}{Q:Exit->Act->World->Prop}(hs:E0 C γ0 w0 o a w U' h')(hK:∀γ' b a' w',CF C γ0 w0 γ' b U' h' a' w'->K a' w'):o.wp C.P a w K Q:=by
 obtain⟨γ',b,w',⟨v,he,hr⟩|⟨he,hr⟩⟩:=hs;.exact HK he (hK _ _ _ _ hr)
 .exact bH he (hK _ _ _ _ hr)
def UO{P:Program}{op:BinOp}{t:TypeId}{p:UA}(hp:NL P op t=some p):p.still=true:=by
 have IS:∀neg u,Qp P t neg u=some p->p.still=true:=by
  intro neg u h;unfold Qp at h;split at h;.cases h;rfl
  .split at h
   .cases hf:M0 P 20 t with
    |none=>rw[hf] at h;cases h
    |some k=>rw[hf] at h;cases h;rfl
   .cases h
  .split at h<;>cases h;rfl
  .cases h;rfl
  .cases h;rfl
  .cases h;rfl
  .cases h
 unfold NL at hp;split at hp;.cases hp;rfl
 .cases hp;rfl
 .split at hp;.exact IS _ _ hp
  .exact IS _ _ hp
  .cases hp
 .cases hp
def LJ{P:Program}{t:TypeId}{f off:Nat}{d:Option Nat}(hf:GW P t f=some (off,d))(b o:Nat):(Instr.fieldAt t (.pointer (some ⟨b,o,none⟩)) f).run P w= .ok (.pointer (some ⟨b,o+off,none⟩)) w:=by
 unfold GW at hf;split at hf
 .rename_i fs rH;split at hf
  .rename_i fd gQ;split at hf;.rename_i n c h1 h2;cases hf;simp[Instr.fieldAt,run_underlying rH,gQ,Instr.sureAddr,fieldPlace,C8 h1,Addr.add_lit]
   .cases hf
  .cases hf
 .cases hf
def Tf(hr:CF C γ0 w0 γ O U h a w){s ver:Nat}{cs:List Aa}{ow:List Nat}(hs:Dv C U (.tmp s)=some (.box ver cs ow)):a.eval (.tmp s)= .pointer (some ⟨O s,0,none⟩):=by have h0:=Pk hr s;rw[FY hs] at h0;exact h0.1
def Rp(hr:CF C γ0 w0 γ O U h a w){x:Operand}{s k:Nat}(hs:Dv C U x=some (.Eo s k)):a.eval x= .pointer (some ⟨O s,k,none⟩):=by obtain⟨t,h1,_⟩:=Fj hr hs;exact h1
def VH{o:Oper}{t:TypeId}{v:Aa}{d:Nat}{r:D3}{run:IT->Ah->Option IW}(hb:Rg C fid t v d=some r)(E4:r.LD C run (U.drop r.news) h U' h')
  (MY:∀n,C.kind fid d= .MY->v.cells.length=n->n≠0->E0 C γ0 w0 o a w ((U.drop [d]).set d (.box 0 v.cells [])) h)
  (heap:v.cells.length≠0->E0 C γ0 w0 o a w (U.put (some d) (.val (.ptr (some (h.length,0))))) (h++[.cells v.cells])):E0 C γ0 w0 o a w U' h':=by
 unfold Rg at hb;split at hb;.cases hb
 .rename_i n hn;split at hb;.cases hb
  .rename_i b;split at hb;.cases hb;obtain⟨h1,rfl,rfl⟩:=E4;rename_i hk;exact MY n hk h1 b
   .cases hb;obtain⟨h1,rfl,rfl⟩:=E4;exact heap Ab
def NP{d s k:Nat}{run:IT->Ah->Option IW}(E4:(D3.pure [(d,.Eo s k)]).LD C run (U.drop (D3.pure [(d,.Eo s k)]).news) h U' h'):U'=U.set d (.Eo s k)/\h'=h:=by obtain⟨rfl,rfl⟩:=E4;exact⟨rfl,rfl⟩
def sJ{run:IT->Ah->Option IW}(E:Ej C run){o:Oper}{r:D3}{K:Act->World->Prop}{Q:Exit->Act->World->Prop}(hc:Fg C fid ops U o=some r)(E4:r.LD C run (U.drop r.news) h U' h')(hr:CF C γ0 w0 γ O U h a w)
  (hK:∀γ' R a' w',CF C γ0 w0 γ' R U' h' a' w'->K a' w'):o.wp C.P a w K Q:=by
 by_cases Hw:∃p args dst BB D,r= .op p args dst BB D/\p.still=true
 .obtain⟨p,args,dst,BB,D,rfl,nG⟩:=Hw
  obtain⟨I,rfl,rfl,rfl⟩:=mT hc nG hr
  obtain⟨v,hv,rfl,rfl⟩:=E4
  obtain⟨u,M,L⟩:=I v hv
  exact HK M (hK _ _ _ _ (hr.put λ_ _=>L))
 .have Yc:∀{p args dst},r= .op p args dst false none->p.still=false:=λ{p args dst} he=>by
   cases hp:p.still with
   |false=>rfl
   |true=>exact absurd ⟨p,args,dst,false,none,he,hp⟩ Hw
  have Gn:∀{p dst x},Qq p dst x=some r->p.still=false:=λ{p dst x} he=>by
   obtain⟨args,_,e⟩:=Dj he
   exact Yc e
  unfold Fg at hc
  split at hc
  .rename_i x ho
   split at hc
   .rename_i d hd
    obtain⟨γ',F6⟩:=Pm hc E4 hr
    exact HK (w':=w) (v:=a.eval x) (by simp[execOp,ho]) (hK _ _ _ _ (by rw[hd];exact F6))
   .cases hc
  .rename_i x ho
   split at hc
   .rename_i d hd
    obtain⟨γ',F6⟩:=Pm hc E4 hr
    exact HK (w':=w) (v:=a.eval x) (by simp[execOp,ho]) (hK _ _ _ _ (by rw[hd];exact F6))
   .cases hc
  .rename_i c x y ho
   split at hc
   .rename_i d hcs hd
    obtain⟨γ',F6⟩:=Pm hc E4 hr
    obtain⟨s,h1,_⟩:=Fj hr hcs
    have h1:a.eval c= .bool true:=h1
    exact HK (w':=w) (v:=a.eval x) (by simp[execOp,ho,h1,asBool]) (hK _ _ _ _ (by rw[hd];exact F6))
   .rename_i d hcs hd
    obtain⟨γ',F6⟩:=Pm hc E4 hr
    obtain⟨s,h1,_⟩:=Fj hr hcs
    have h1:a.eval c= .bool false:=h1
    exact HK (w':=w) (v:=a.eval y) (by simp[execOp,ho,h1,asBool]) (hK _ _ _ _ (by rw[hd];exact F6))
   .cases Gn hc
  .rename_i t ho
   split at hc
   .rename_i d z hd hz
    split at hc
    .split at hc
     .rename_i Gx
      cases hc
      obtain⟨rfl,rfl⟩:=E4
      exact(S0 ho hd hz Gx.2 hr).wp hK
     .cases hc
    .rename_i hk
     refine(VH (o:=o) (a:=a) (w:=w) (γ0:=γ0) (w0:=w0) hc E4 (λn h0 h1 h2=>absurd h0 (by simpa using hk)) λh1=>S1 ho hd hz h1 hr).wp hK
   .cases hc
  .rename_i t x ho
   split at hc
   .rename_i d v hd hv
    exact(VH (o:=o) (a:=a) (w:=w) (γ0:=γ0) (w0:=w0) hc E4 (λn _ h1 h2=>WG ho hd hv h1 h2 hr) λh1=>WH ho hd hv h1 hr).wp hK
   .cases hc
  .split at hc
   .split at hc
    .cases Gn hc
    .cases hc
   .cases hc
  .rename_i t len parts ho
   split at hc
   .rename_i e ht
    split at hc
    .rename_i n hn
     split at hc
     .rename_i Gx
      split at hc
      .rename_i hlen
       cases hc
       obtain⟨v,hv,rfl,rfl⟩:=E4
       cases hv
       exact(rO ho ht hn Gx.1 Gx.2 hlen.1 hr).wp hK
      cases ha:A9 C U (parts.toList.map (·.2)) with
      |none=>rw[ha] at hc;cases hc
      |some args=>
       rw[ha] at hc;cases hc
       obtain⟨v,hv,rfl,rfl⟩:=E4
       exact(rN ho ht hn Gx.1 Gx.2 ha hv hr).wp hK
     .cases hc
    .cases hc
   .cases hc
  .rename_i t x ho
   split at hc
   .rename_i d hd
    by_cases hp:∃ws,r= .pure ws
    .exact(UL ho hd hc hp E4 hr).wp hK
    .unfold JO at hc
     split at hc
     .rename_i n p ht hx
      cases hc
      obtain⟨v,hv,rfl,rfl⟩:=E4
      have hs:=rK ho ht hx hv hr
      rw[hd] at hs
      exact hs.wp hK
     .split at hc
      .simp only at hc
       split at hc<;>(cases hc;exact absurd ⟨_,rfl⟩ hp)
      .cases hc
     .split at hc
      .cases hc;exact absurd ⟨_,rfl⟩ hp
      .cases hc
     .cases hc
   .cases hc
  .rename_i t x y ho
   split at hc
   .rename_i hd
    have QD:=hc
    unfold HS at hc
    split at hc
    .rename_i n p v hsz hx hv
     cases hc
     obtain⟨aBn,rfl⟩:=E4
     exact(mU ho hd hsz hx hv aBn hr).wp hK
    .split at hc
     .cases hc
      exact(bU ho hd QD E4 hr).wp hK
     .cases hc
    .cases hc
   .cases hc
  .rename_i x ho
   split at hc
   .rename_i s ver cs ow d hd hs
    cases hc
    obtain⟨rfl,rfl⟩:=NP E4
    have he:=Tf hr hs
    exact HK (w':=w) (v:= .pointer (some ⟨O s,0,none⟩)) (by simp[execOp,ho,he]) (hK _ _ _ _ (by rw[hd];exact hr.put (d:=some d) λ_ _=>rfl))
   .rename_i s k d hd hs
    cases hc
    obtain⟨rfl,rfl⟩:=NP E4
    have he:=Rp hr hs
    exact HK (w':=w) (v:= .pointer (some ⟨O s,k,none⟩)) (by simp[execOp,ho,he]) (hK _ _ _ _ (by rw[hd];exact hr.put (d:=some d) λ_ _=>rfl))
   .cases Gn hc
  .split at hc
   .rename_i p hp
    have nG:=Gn hc
    rw[UO hp] at nG
    cases nG
   .cases hc
  .cases Gn hc
  .rename_i src aA5 x ho
   split at hc
   .rename_i hq
    unfold SK at hq
    cases hv:Ed C U x with
    |none=>rw[hv] at hc;cases hc
    |some v=>
     rw[hv] at hc;cases hc
     split at hq
     .cases hq
     .cases hq
     .cases hq
     .rename_i e hs hd
      split at hq
      .rename_i he
       obtain⟨v',u,h1,h2,rfl⟩:=E4
       exact(zO ho hs hd he hv h1 h2 hr).wp hK
      .cases hq
     .split at hq<;>cases hq
     .cases hq
   .rename_i hq
    unfold SK at hq
    split at hq
    .cases hq
    .cases hq
    .cases hq
    .split at hq<;>cases hq
    .rename_i e hs hd
     split at hq
     .rename_i he _ _
      split at hc
      .cases hv:Ed C U x with
       |none=>rw[hv] at hc;cases hc
       |some v=>
        rw[hv] at hc;cases hc
        obtain⟨u,h1,rfl⟩:=E4
        exact(WM ho hs hd he hv h1 hr).wp hK
      .obtain⟨args,ha,rfl⟩:=Dj hc
       obtain⟨u,h1,rfl,rfl⟩:=E4
       obtain⟨v,rfl,_⟩:=FF hr ha
       exact(zN ho hs hd he ha h1 hr).wp hK
     .cases hq
    .cases hq
   .rename_i p Qz Ya hq
    have nG:=Gn hc
    unfold SK at hq
    split at hq
    .cases hq;cases nG
    .cases hq;cases nG
    .cases hq
    .split at hq
     .cases hq;exact absurd rfl Qz
     .cases hq
    .split at hq
     .cases hq;exact absurd rfl Ya
     .cases hq
    .cases hq
   .cases hc
  .rename_i fn first captured ho
   split at hc
   .rename_i d as bs fz hd ha hb
    cases hc
    obtain⟨rfl,rfl⟩:=E4
    exact(YK ho hd ha hb hr).wp hK
   .cases hc
  .rename_i t ho
   cases hc
   obtain⟨rfl,rfl⟩:=E4
   exact(rW ho hr).wp hK
  .rename_i t l c ho
   split at hc
   .rename_i e ht
    split at hc
    .rename_i n b z S vc hn hb hz hl Sn
     cases hc
     obtain⟨v,h1,rfl⟩:=E4
     exact(rR ho ht hn hb hz hl Sn h1 hr).wp hK
    .cases hc
   .cases hc
  .rename_i t m k x ho
   split at hc
   .rename_i kt e ht
    split at hc
    .rename_i A B G hd hk ha
     cases hc
     obtain⟨h1,rfl⟩:=E4
     exact(YO (.inl ho) hd ht hk ha h1 hr).wp hK
    .rename_i A B G hd hk ha
     cases hc
     obtain⟨v,h1,rfl⟩:=E4
     exact(YU (.inl ho) hd ht hk ha h1 hr).wp hK
    .cases hc
   .cases hc
  .rename_i t m k x ho
   split at hc
   .rename_i kt e ht
    split at hc
    .rename_i A B G hd hk ha
     cases hc
     obtain⟨h1,rfl⟩:=E4
     exact(YO (.inr ho) hd ht hk ha h1 hr).wp hK
    .rename_i A B G hd hk ha
     cases hc
     obtain⟨v,h1,rfl⟩:=E4
     exact(YU (.inr ho) hd ht hk ha h1 hr).wp hK
    .cases hc
   .cases hc
  .rename_i t m k ok ho
   split at hc
   .rename_i kt e ht
    split at hc
    .rename_i z A B hk hz ha
     cases hc
     obtain⟨v,h1,rfl,rfl⟩:=E4
     exact(rX ho ht hk hz ha h1 hr).wp hK
    .rename_i z A B hk hz ha
     cases hc
     obtain⟨v,h1,rfl⟩:=E4
     exact(sH ho ht hk hz ha h1 hr).wp hK
    .cases hc
   .cases hc
  .rename_i t x lo hi mx ho
   split at hc
   .rename_i e ht
    split at hc
    .rename_i n hn
     obtain⟨args,ha,rfl⟩:=Gf hc
     obtain⟨v,h1,rfl⟩:=E4
     simp only[D2] at h1
     split at h1
     .rename_i H
      cases h1
      exact(sF ho ht hn ha H hr).wp hK
     .cases h1
    .cases hc
   .cases hc
  .rename_i t x ho
   split at hc
   .cases hc
   .rename_i u hu ht
    obtain⟨args,ha,rfl⟩:=Gf hc
    obtain⟨v,h1,rfl⟩:=E4
    obtain⟨y,rfl,_⟩:=FF hr ha
    cases h1
    exact(sG ho ht (λi e=>hu i e) ha hr).wp hK
   .cases hc
  .rename_i t m k ho
   split at hc
   .rename_i kt e ht
    split at hc
    .rename_i z hk hz
     obtain⟨args,ha,rfl⟩:=Gf hc
     obtain⟨v,h1,rfl⟩:=E4
     obtain⟨j,q,rfl,_,_⟩:=Ei hr ha
     exact(cA ho ht hk hz ha h1 hr).wp hK
    .rename_i z hk hz
     obtain⟨args,ha,rfl⟩:=Gf hc
     obtain⟨v,h1,rfl⟩:=E4
     obtain⟨j,q,rfl,_,_⟩:=Ei hr ha
     exact(cC ho ht hk hz ha h1 hr).wp hK
    .cases hc
   .cases hc
  .rename_i t m s x ho
   split at hc
   .rename_i hd
    obtain⟨args,ha,rfl⟩:=Gf hc
    obtain⟨v,h1,rfl⟩:=E4
    obtain⟨j,q,F,rfl⟩:∃j q F,args=[j,q,F]:=by
     have:=Di hr ha
     cases args with
     |nil=>cases h1
     |cons j l1=>cases l1 with
      |nil=>cases h1
      |cons q N=>cases N with
       |nil=>cases h1
       |cons F l3=>cases l3 with
        |nil=>exact⟨_,_,_,rfl⟩
        |cons _ _=>cases h1
    exact(cD ho hd ha h1 hr).wp hK
   .cases hc
  .rename_i t x lo hi ho
   split at hc
   .cases Gn hc
   .rename_i e ht
    split at hc
    .rename_i n hn
     split at hc
     .obtain⟨args,ha,rfl⟩:=Gf hc
      obtain⟨v,h1,rfl⟩:=E4
      cases args with
      |nil=>cases h1
      |cons y l=>exact(sD ho ht hn ha h1 hr).wp hK
     .cases Gn hc
    .cases hc
   .cases hc
  .rename_i t x f ho
   split at hc
   .rename_i off T d hf hd
    split at hc
    .rename_i s ver cs ow hs
     cases hc
     obtain⟨rfl,rfl⟩:=NP E4
     have he:=Tf hr hs
     exact HK (w':=w) (v:= .pointer (some ⟨O s,off,none⟩)) (by simp only[execOp,ho,he];exact Ec (by rw[LJ hf];simp)) (hK _ _ _ _ (by rw[hd];exact hr.put (d:=some d) λ_ _=>rfl))
    .rename_i s k hs
     cases hc
     obtain⟨rfl,rfl⟩:=NP E4
     have he:=Rp hr hs
     exact HK (w':=w) (v:= .pointer (some ⟨O s,k+off,none⟩)) (by simp only[execOp,ho,he];exact Ec (LJ hf _ _)) (hK _ _ _ _ (by rw[hd];exact hr.put (d:=some d) λ_ _=>rfl))
    .cases Gn hc
   .cases hc
  .split at hc
   .cases Gn hc
   .cases hc
  .split at hc
   .split at hc
    .cases Gn hc
    .cases hc
   .split at hc
    .split at hc
     .cases hc
     .cases Gn hc
    .cases hc
   .cases hc
  .split at hc
   .cases Gn hc
   .split at hc
    .cases Gn hc
    .cases hc
   .cases hc
  .cases Gn hc
  .rename_i c ho
   unfold OA at hc
   split at hc
   .split at hc
    .split at hc
     .cases Gn hc
     .cases Gn hc
     .cases hc
    .cases hc
   .rename_i hcl
    split at hc
    .rename_i t t' s x h0 h1 D6
     split at hc
     all_goals first
      |(cases hc;done)
      | (rename_i e _ ht HC
         split at hc
         . rename_i n b hn hb
           split at hc
           . rename_i Yb
             split at hc
             . rename_i v u ha
               split at hc
               . rename_i hown
                 split at hc
                 . cases hc
                   obtain ⟨r', h3, rfl⟩ := E4
                   exact (nA ho hcl h0 h1 D6 ht (by first | exact .inl ⟨_, HC⟩ | exact .inr HC) hn hb hown Yb ha h3 hr).wp hK
                 . split at hc
                   . cases hc
                     obtain ⟨r', h3, rfl, rfl⟩ := E4
                     exact (YM ho hcl h0 h1 D6 ht (by first | exact .inl ⟨_, HC⟩ | exact .inr HC) hn hb hown Yb ha h3 hr).wp hK
                   . cases hc
                     obtain ⟨r', h3, rfl, rfl⟩ := E4
                     exact (bX ho hcl h0 h1 D6 ht (by first | exact .inl ⟨_, HC⟩ | exact .inr HC) hn hb hown Yb ha h3 hr).wp hK
               . split at hc
                 . cases hc
                   obtain ⟨r', h3, rfl⟩ := E4
                   exact (rZ ho hcl h0 h1 D6 ht (by first | exact .inl ⟨_, HC⟩ | exact .inr HC) hn hb Yb ha h3 hr).wp hK
                 . cases hc
             . cases hc
           . cases hc
         . cases hc)
    .cases hc
   .rename_i hcl
    split at hc
    .rename_i t t' s x h0 h1 D6
     split at hc
     all_goals first
      |(cases hc;done)
      | (rename_i e _ ht HC
         split at hc
         . rename_i n hn
           obtain ⟨args, ha, rfl⟩ := Gf hc
           obtain ⟨v, h3, rfl⟩ := E4
           obtain ⟨j, q, rfl, _, _⟩ := Ei hr ha
           exact (sC ho hcl h0 h1 D6 ht (by first | exact .inl ⟨_, HC⟩ | exact .inr HC) hn ha h3 hr).wp hK
         . cases hc)
    .cases hc
   .rename_i hcl
    split at hc
    .rename_i t s h0 D6
     split at hc
     .rename_i e ht
      split at hc
      .rename_i n z hn hz
       obtain⟨args,ha,rfl⟩:=Gf hc
       obtain⟨v,h3,rfl⟩:=E4
       obtain⟨j,rfl,_⟩:=FF hr ha
       exact(nD ho hcl h0 D6 ht hn hz ha h3 hr).wp hK
      .cases hc
     .cases hc
    .cases hc
   .split at hc
    .cases Gn hc
    .cases hc
   .split at hc
    .cases Gn hc
    .cases hc
   .rename_i f hcl
    split at hc
    .rename_i hf
     split at hc
     .rename_i s i x D6
      split at hc
      .rename_i hown
       obtain⟨args,ha,rfl⟩:=Gf hc
       obtain⟨v,h3,rfl⟩:=E4
       exact zP E ho hcl hf D6 hown ha h3 hr λγ' v w' F6=>hK _ _ _ _ F6
      .cases hc
     .cases hc
    split at hc
    rotate_left
    .cases hc
    rename_i Rm
    rw[<-Rm] at hcl
    cases ha:A9 C U c.args.toList with
    |none=>rw[ha] at hc;cases hc
    |some args=>
     rw[ha] at hc
     simp only[BO,Bs] at hc
     split at hc
     .cases hc
      obtain⟨HI,J,h1,h2,h3,rfl,rfl⟩:=E4
      exact mW E ho hcl ha HI h2 h3 hr λγ' v w' F6=>hK _ _ _ _ F6
     .cases hc
      obtain⟨J,h1,rfl⟩:=E4
      exact rU E ho hcl ha h1 hr λγ' v w' F6=>hK _ _ _ _ F6
   .rename_i g hn hcl
    split at hc
    .rename_i V args hg ha
     cases hc
     obtain⟨f,args',J,h0,h1,rfl⟩:=E4
     exact mX E ho hcl hg ha h0 h1 hr λγ' v w' F6=>hK _ _ _ _ F6
    .cases hc
   .cases hc
  .cases hc
end
end Go.Am
end
section
namespace Go.Am
open Go
section
variable{C:Fo}{U Z:Bu}{fid:FuncId}{ops:List Oper}
def WO{x:Operand}(h:∀t,x= .tmp t->Z.at t=U.at t):Dv C Z x=Dv C U x:=by
 cases x with
 |tmp t=>simp only[Dv,h t rfl]
 |const v=>
  cases v with
  |slice a b c=>cases a<;>cases b<;>cases c<;>rfl
  |_=>rfl
 |global g=>rfl
 |func f=>rfl
def So(C:Fo)(U Z:Bu)(xs:List Operand):Prop:=∀x∈xs,Dv C Z x=Dv C U x
def So.gZ{xs:List Operand}(h:∀t∈Iv xs,Z.at t=U.at t):So C U Z xs:=λx hx=>WO λt ht=>h t (by subst ht;exact BU.2 ⟨_,hx,rfl⟩)
def So.val{xs:List Operand}(h:So C U Z xs){x:Operand}(hx:x∈xs):Ed C Z x=Ed C U x:=by unfold Ed;rw[h x hx]
def So.I6{xs:List Operand}(h:So C U Z xs):∀{ys:List Operand},(∀y∈ys,y∈xs)->A9 C Z ys=A9 C U ys
 |[],_=>rfl
 |y::ys,hy=>by unfold A9;rw[h.val (hy y Av),h.I6 λz hz=>hy z (by simp[hz])]
def So.move{xs:List Operand}(h:So C U Z xs){x:Operand}(hx:x∈xs)(d:Nat)(take:Bool):I3 C Z x d take=I3 C U x d take:=by unfold I3;rw[h x hx]
def So.BB{xs:List Operand}(h:So C U Z xs){x:Operand}(hx:x∈xs):Jt C Z x=Jt C U x:=by unfold Jt;rw[h x hx]
def So.C7{xs:List Operand}(h:So C U Z xs){x:Operand}(hx:x∈xs):CP Z x=CP U x:=by
 cases x with
 |tmp t=>have:=h _ hx;simp only[Dv,Bs] at this;simp only[CP,this]
 |_=>rfl
def So.Ff{xs:List Operand}(h:So C U Z xs):∀{ys:List Operand},(∀y∈ys,y∈xs)->Am.Ff C Z ys=Am.Ff C U ys
 |[],_=>rfl
 |y::ys,hy=>by unfold Am.Ff;rw[h y (hy y Av),h.Ff λz hz=>hy z (by simp[hz])]
def So.addr{xs:List Operand}(h:So C U Z xs){x:Operand}(hx:x∈xs)(hb:∀s∈(L7 C U x).toList,Z.at s=U.at s)(hn:Fe C U x≠none):Fe C Z x=Fe C U x:=by
 have Og:=h x hx;cases hs:Dv C U x with
 |none=>unfold Fe at hn;rw[hs] at hn;exact absurd (by split<;>simp_all) hn
 |some sl=>
  rw[hs] at Og;cases sl with
  |Eo s o=>
   have h1:∀J:Bu,Dv C J x=some (.Eo s o)->Fe C J x=match J.at s with| .box ver cs ow=>some (.MY s o ver cs ow)|_=>none:=λJ b=>by unfold Fe;rw[b];cases x<;>rfl
   rw[h1 U hs] at hn⊢;rw[h1 Z Og];have h2:s∈(L7 C U x).toList:=by
    unfold L7;rw[h1 U hs];cases MV:U.at s with
    |box ver cs ow=>simp
    |_=>rw[MV] at hn;exact absurd rfl hn
   rw[hb s h2]
  |_=>unfold Fe;rw[hs,Og];cases x<;>rfl
def So.load{xs:List Operand}(h:So C U Z xs){x:Operand}(hx:x∈xs)(hb:∀s∈(L7 C U x).toList,Z.at s=U.at s){t:TypeId}{d:Nat}{take:Bool}{r:D3}(hc:JO C U t x d take=some r):JO C Z t x d take=some r:=by
 have hn:Fe C U x≠none:=λhe=>by unfold JO at hc;rw[he] at hc;split at hc<;>simp_all
 unfold JO at hc⊢;rw[h.addr hx hb hn];exact hc
def So.store{xs:List Operand}(h:So C U Z xs){x y:Operand}(hx:x∈xs)(hy:y∈xs)(hb:∀s∈(L7 C U x).toList,Z.at s=U.at s){t:TypeId}{r:D3}(hc:HS C U t x y=some r):HS C Z t x y=some r:=by
 have hn:Fe C U x≠none:=λhe=>by unfold HS at hc;rw[he] at hc;split at hc<;>simp_all
 unfold HS at hc⊢;rw[h.addr hx hb hn,h.val hy,h.BB hy,h.C7 hy];exact hc
def So.call{c:Call}(h:So C U Z c.operands.toList)(dst:Option Nat):OA C fid Z c dst=OA C fid U c dst:=by
 have ha:∀y∈c.args.toList,y∈c.operands.toList:=λy hy=>by unfold Call.operands;rw[FT];exact Bw _ hy
 have hv:A9 C Z c.args.toList=A9 C U c.args.toList:=h.I6 ha;unfold OA;split;.rw[hv]
 .split
  .rename_i D6;have h1:∀{s x:Operand},c.args.toList=[s,x]->Jt C Z s=Jt C U s/\CP Z s=CP U s/\A9 C Z [s,x]=A9 C U [s,x]:=λ{s x} he=>by rw[he] at ha;exact⟨h.BB (ha s Av),h.C7 (ha s Av),h.I6 λy hy=>ha y hy⟩
   obtain⟨e,d,b⟩:=h1 D6;rw[e,d,b]
  .rfl
 .split;.rename_i D6;rw[D6] at ha;rw[h.I6 λy hy=>ha y hy]
  .rfl
 .split;.rename_i D6;rw[D6] at ha;rw[h.I6 λy hy=>ha y hy]
  .rfl
 .rw[hv]
 .rw[hv]
 .split
  .split;.rename_i s i v D6;rw[D6] at ha;rw[h.BB (ha v Av),h.I6 λy hy=>ha y hy]
   .rfl
  .rw[hv]
 .rename_i g _ hcl;have hg:g∈c.operands.toList:=by unfold Call.operands;rw[hcl];simp
  rw[hv,h.val hg]
 .rfl
def Tg{o:Oper}{r:D3}(hc:Fg C fid ops U o=some r)(ht:∀t∈Iv o.op.operands.toList,Z.at t=U.at t)(hb:∀s∈GG C U o,Z.at s=U.at s):Fg C fid ops Z o=some r:=by
 have h:So C U Z o.op.operands.toList:= .gZ ht
 unfold Fg at hc⊢
 cases ho:o.op with
 |move x=>
  rw[ho] at h
  simp only[ho] at hc⊢
  have:=λd=>h.move (x:=x) Hp d
  simpa only[this] using hc
 |assign x=>
  rw[ho] at h
  simp only[ho] at hc⊢
  have:=λd=>h.move (x:=x) Hp d
  simpa only[this] using hc
 |pick c a b=>
  rw[ho] at h
  simp only[ho] at hc⊢
  have h1:=λd=>h.move (x:=a) Hp d
  have h2:=λd=>h.move (x:=b) Hp d
  rw[h c Hp,h.I6 (ys:=[c,a,b]) Hp]
  simpa only[h1,h2] using hc
 |alloc t=>rw[ho] at hc;exact hc
 |box t x=>
  rw[ho] at h
  simp only[ho] at hc⊢
  rw[h.val (x:=x) Hp]
  exact hc
 |build t parts=>
  rw[ho] at h
  simp only[ho] at hc⊢
  rw[h.I6 (ys:=parts.toList.map (·.2)) Hp]
  exact hc
 |buildSlice t len parts=>
  rw[ho] at h
  simp only[ho] at hc⊢
  rw[h.I6 (ys:=parts.toList.map (·.2)) Hp]
  exact hc
 |load t x=>
  rw[ho] at h
  simp only[ho] at hc⊢
  split at hc
  .exact h.load Hp (λs hs=>hb s (by simpa only[GG,ho] using hs)) hc
  .cases hc
 |store t x y=>
  rw[ho] at h
  simp only[ho] at hc⊢
  split at hc
  .exact h.store Hp Hp (λs hs=>hb s (by simpa only[GG,ho] using hs)) hc
  .cases hc
 |nilCheck x=>
  rw[ho] at h
  simp only[ho] at hc⊢
  have e:=h.I6 (ys:=[x]) Hp
  rw[h x Hp]
  cases hs:Dv C U x with
  |none=>rw[hs] at hc;cases x<;>cases hd:o.dst<;>rw[hd] at hc<;>first|exact hc|(show Qq _ _ (A9 C Z [_])=some r;rw[e];exact hc)
  |some sl=>rw[hs] at hc;cases sl<;>cases x<;>cases hd:o.dst<;>rw[hd] at hc<;>first|exact hc|(show Qq _ _ (A9 C Z [_])=some r;rw[e];exact hc)
 |binOp op t x y k=>
  rw[ho] at h
  simp only[ho] at hc⊢
  rw[h.I6 (ys:=[x,y]) Hp]
  exact hc
 |unOp op t x=>
  rw[ho] at h
  simp only[ho] at hc⊢
  rw[h.I6 (ys:=[x]) Hp]
  exact hc
 |convert src dst x=>
  rw[ho] at h
  simp only[ho] at hc⊢
  rw[h.I6 (ys:=[x]) Hp,h.val (x:=x) Hp]
  exact hc
 |makeFunc fn first captured=>
  rw[ho] at h
  simp only[ho] at hc⊢
  rw[h.I6 (ys:=first.toList) (λ_ hm=>by simp[Op.operands,hm]),h.Ff (ys:=captured.toList) (λ_ hm=>by simp[Op.operands,hm])]
  exact hc
 |makeMap t r'=>
  rw[ho] at hc
  cases r' with
  |none=>exact hc
  |some _=>cases hc
 |makeSlice t l c=>
  rw[ho] at h
  simp only[ho] at hc⊢
  rw[h.val (x:=l) Hp,h.val (x:=c) Hp]
  exact hc
 |insert t m k v=>
  rw[ho] at h
  simp only[ho] at hc⊢
  rw[h.I6 (ys:=[m,k,v]) Hp]
  exact hc
 |mapUpdate t m k v=>
  rw[ho] at h
  simp only[ho] at hc⊢
  rw[h.I6 (ys:=[m,k,v]) Hp]
  exact hc
 |lookup t m k ok=>
  rw[ho] at h
  simp only[ho] at hc⊢
  rw[h.I6 (ys:=[m,k]) Hp]
  exact hc
 |slice t x lo hi mx=>
  rw[ho] at h hc
  cases mx with
  |none=>
   have e:=h.I6 (ys:=x::(lo.toList++hi.toList)) (by cases lo<;>cases hi<;>simp[Op.operands])
   simp only at hc⊢
   rw[e]
   exact hc
  |some mx=>cases lo with
   |none=>cases hc
   |some lo=>cases hi with
    |none=>cases hc
    |some hi=>
     have e:=h.I6 (ys:=[x,lo,hi,mx]) Hp
     simp only at hc⊢
     rw[e]
     exact hc
 |makeInterface t x=>
  rw[ho] at h
  simp only[ho] at hc⊢
  rw[h.I6 (ys:=[x]) Hp]
  exact hc
 |mapEntry t m k=>
  rw[ho] at h
  simp only[ho] at hc⊢
  rw[h.I6 (ys:=[m,k]) Hp]
  exact hc
 |entryStore t m s v=>
  rw[ho] at h
  simp only[ho] at hc⊢
  rw[h.I6 (ys:=[m,s,v]) Hp]
  exact hc
 |fieldAddr t x f=>
  rw[ho] at h
  simp only[ho] at hc⊢
  have e:=h.I6 (ys:=[x]) Hp
  rw[h x Hp]
  cases hf:GW C.P t f with
  |none=>rw[hf] at hc;cases hc
  |some q=>
   rw[hf] at hc
   cases hd:o.dst with
   |none=>rw[hd] at hc;cases hc
   |some d=>
    rw[hd] at hc
    cases hs:Dv C U x with
    |none=>rw[hs] at hc;cases x<;>first|exact hc|(show Qq _ _ (A9 C Z [_])=some r;rw[e];exact hc)
    |some sl=>rw[hs] at hc;cases sl<;>cases x<;>first|exact hc|(show Qq _ _ (A9 C Z [_])=some r;rw[e];exact hc)
 |field t x f=>
  rw[ho] at h
  simp only[ho] at hc⊢
  rw[h.I6 (ys:=[x]) Hp]
  exact hc
 |indexAddr t x i=>
  rw[ho] at h
  simp only[ho] at hc⊢
  rw[h.I6 (ys:=[x,i]) Hp]
  exact hc
 |index t x i=>
  rw[ho] at h
  simp only[ho] at hc⊢
  rw[h.I6 (ys:=[x,i]) Hp]
  exact hc
 |extract x i=>
  rw[ho] at h
  simp only[ho] at hc⊢
  rw[h.I6 (ys:=[x]) Hp]
  exact hc
 |call c=>
  rw[ho] at h
  simp only[ho] at hc⊢
  rw[h.call]
  exact hc
 |_=>simp only[ho] at hc;cases hc
end
end Go.Am
end
section
namespace Go.Am
open Go
mutual
def Aa.Th:∀{a b:Aa},Aa.beq a b=true->a=b
 | .bool a,b,h=>by cases b<;>simp[Aa.beq] at h⊢;exact h
 | .int k a,b,h=>by cases b<;>simp[Aa.beq] at h⊢;exact h
 | .str a,b,h=>by cases b<;>simp[Aa.beq] at h⊢;exact h
 | .ptr a,b,h=>by cases b<;>simp[Aa.beq] at h⊢;exact h
 | .Fb a,b,h=>by cases b<;>simp[Aa.beq] at h⊢;exact h
 | .B3 a,b,h=>by cases b<;>simp[Aa.beq] at h⊢;exact Aa.Mj h
 | .sl n a,b,h=>by cases b<;>simp[Aa.beq] at h⊢;exact⟨h.1,Aa.YV h.2⟩
 | .slnil,b,h=>by cases b<;>simp[Aa.beq] at h⊢
 | .CI a c d e,b,h=>by cases b<;>simp[Aa.beq] at h⊢;exact⟨h.1.1.1,h.1.1.2,h.1.2,h.2⟩
 | .map a,b,h=>by cases b<;>simp[Aa.beq] at h⊢;exact h
 | .func f a c,b,h=>by cases b<;>simp[Aa.beq] at h⊢;exact⟨h.1.1,Aa.Mj h.1.2,Aa.Mj h.2⟩
 | .nilFunc,b,h=>by cases b<;>simp[Aa.beq] at h⊢
 | .iface t a,b,h=>by cases b<;>simp[Aa.beq] at h⊢;exact⟨h.1,Aa.Th h.2⟩
 | .nilIface,b,h=>by cases b<;>simp[Aa.beq] at h⊢
 | .agg a,b,h=>by cases b<;>simp[Aa.beq] at h⊢;exact Aa.Mj h
 | .tuple a,b,h=>by cases b<;>simp[Aa.beq] at h⊢;exact Aa.Mj h
def Aa.Mj:∀{a b:List Aa},Aa.O9 a b=true->a=b
 |[],b,h=>by cases b<;>simp[Aa.O9] at h⊢
 |a::x,b,h=>by
  cases b with
  |nil=>simp[Aa.O9] at h
  |cons c y=>simp[Aa.O9] at h⊢;exact⟨Aa.Th h.1,Aa.Mj h.2⟩
def Aa.YV:∀{a b:List (List Aa)},Aa.Pb a b=true->a=b
 |[],b,h=>by cases b<;>simp[Aa.Pb] at h⊢
 |a::x,b,h=>by
  cases b with
  |nil=>simp[Aa.Pb] at h
  |cons c y=>simp[Aa.Pb] at h⊢;exact⟨Aa.Mj h.1,Aa.YV h.2⟩
end
def Bu.Ii(U:Bu):∀(a b:List (Nat×DN)),U.DE (a++b)=(U.DE a).DE b
 |[],_=>rfl
 |(s,x)::a,b=>Bu.Ii (U.set s x) a b
def Bu.Ij:∀(ws:List (Nat×DN)) (U:Bu),(U.DE ws).length=U.length
 |[],_=>rfl
 |(s,x)::ws,U=>by rw[Bu.DE,Bu.Ij ws];simp
def Bu.Ti(U:Bu)(s t:Nat)(x:DN):Bu.at (U.set s x) t=if s=t/\t<U.length then x else U.at t:=by
 by_cases h:s=t
 .subst h;by_cases hl:s<U.length;.simp[Bu.at,List.getD,hl]
  .simp[Bu.at,List.getD,hl]
 .simp[Bu.at,List.getD,Ao h,h]
def Bu.FG:∀(ws:List (Nat×DN)) (U:Bu) (t:Nat),(∀p∈ws,p.1≠t)->(U.DE ws).at t=U.at t
 |[],_,_,_=>rfl
 |(s,x)::ws,U,t,h=>by rw[Bu.DE,Bu.FG ws _ t λp hp=>h p (by simp[hp]),Bu.Ti,Ac];exact λe=>h (s,x) Av e.1
def Bu.Tj:∀(ws:List (Nat×DN)) (U:Bu) (t:Nat),(U.DE ws).at t=U.at t\/∃p∈ws,p.1=t/\(U.DE ws).at t=p.2
 |[],_,_=> .inl rfl
 |(s,x)::ws,U,t=>by
  rcases Bu.Tj ws (U.set s x) t with h|⟨p,hp,h1,h2⟩
  .rw[Bu.Ti] at h;by_cases hc:s=t/\t<U.length;.rw[Ad hc] at h;exact .inr ⟨(s,x),Av,hc.1,h⟩
   .rw[Ac hc] at h;exact .inl h
  .exact .inr ⟨p,by simp[hp],h1,h2⟩
def Bu.HM:∀(ws:List (Nat×DN)) (U Z:Bu) (t:Nat),Z.length=U.length->Z.at t=U.at t->(Z.DE ws).at t=(U.DE ws).at t
 |[],_,_,_,_,h=>h
 |(s,x)::ws,U,Z,t,hl,h=>by refine Bu.HM ws _ _ t (by simpa using hl) ?_;rw[Bu.Ti,Bu.Ti,hl,h]
def Bu.ext{U Z:Bu}(hl:Z.length=U.length)(h:∀t,Z.at t=U.at t):Z=U:=by apply List.ext_getElem hl;intro i h1 h2;have:=h i;simpa[Bu.at,List.getD,h1,h2] using this
def Bu.nH{U:Bu}{a b:List (Nat×DN)}(h:∀p∈a,∀q∈b,p.1≠q.1):(U.DE a).DE b=(U.DE b).DE a:=by
 refine Bu.ext (by simp[Bu.Ij]) λt=>?_;by_cases ha:∀p∈a,p.1≠t;.rw[Bu.FG a (U.DE b) t ha];exact Bu.HM b _ _ t (by simp[Bu.Ij]) (Bu.FG a U t ha)
 .have⟨p,hp,c⟩:∃p∈a,p.1=t:=Classical.byContradiction λhn=>ha λp hp e=>hn ⟨p,hp,e⟩;have hb:∀q∈b,q.1≠t:=λq hq e=>h p hp q hq (by rw[c,e]);rw[Bu.FG b (U.DE a) t hb];exact(Bu.HM a _ _ t (by simp[Bu.Ij]) (Bu.FG b U t hb)).symm
def Mk{U:Bu}{ds:List Nat}:Lh U ds=true↔∀x t o,U.at x= .Eo t o->t∉ds:=by
 unfold Lh;rw[Dq];constructor
 .intro h x t o hx;by_cases hl:x<U.length;.have:=h (U.at x) (by simp[Bu.at,List.getD,hl]);rw[hx] at this;simpa using this
  .simp[Bu.at,List.getD,hl] at hx
 .intro h s hs;obtain⟨i,hi⟩:=Cq hs;cases s with
  |Eo t o=>have:=h i t o (by simp[Bu.at,List.getD,hi]);simpa using this
  |_=>rfl
def nI{a b:List Nat}:Rh a b=true↔∃x,x∈a/\x∈b:=by simp[Rh]
structure St where
 idx:Nat
 fp:FP
 fl:Option IX
def Jp(i:Nat)(r:D3)(U:Bu):Option IX:=
 match r with
 | .load n p (some d)=>match U.at d with
  | .val v=>some {idx:=i,n,p,v}
  |_=>none
 |_=>none
def Tk(i:Nat)(r:D3)(U:Bu)(fl:List IX):KP i r U fl=(Jp i r U).toList++fl:=by
 cases r with
 |load n p dst=>
  cases dst with
  |none=>rfl
  |some d=>simp only[KP,Jp];cases U.at d<;>rfl
 |_=>rfl
def UP{i:Nat}{r:D3}{U Z:Bu}(h:∀d∈r.wf,Z.at d=U.at d):Jp i r Z=Jp i r U:=by
 cases r with
 |load n p dst=>
  cases dst with
  |none=>rfl
  |some d=>simp only[Jp];rw[h d (by simp[D3.wf])]
 |_=>rfl
def KU(d:Option Nat)(U U':Bu):Prop:=
 match d with
 |none=>U'=U
 |some d=>match U.at d with
  | .val v=>∃b,v= .bool b/\U'=U.set d (.MO b)
  |_=>U'=U
section
variable{C:Fo}{fid:FuncId}{ops:List Oper}{run:IT->Ah->Option IW}{U Z U':Bu}{h h':Ah}
def Na(C:Fo)(fid:FuncId)(ops:List Oper)(run:IT->Ah->Option IW)(s:St)(U:Bu)(h:Ah)(U':Bu)(h':Ah):Prop:=
 ∃o,ops[s.idx]?=some o/\
  ((Ho ops U o = .LA false /\ s.fp = RS C ops U o none /\ s.fl = none /\ U' = U.put o.dst .skip /\ h' = h) \/
   ∃ r U1, Ho ops U o = .LA true /\ Fg C fid ops U o = some r /\ s.fp = RS C ops U o (some r) /\ r.LD C run (U.drop r.news) h U1 h' /\ s.fl = Jp s.idx r U1 /\
     KU (if Pg ops s.idx then o.dst else none) U1 U')
def Tl(U:Bu)(d:Option Nat)(x:DN):U.put d x=U.DE (d.toList.map λs=>(s,x)):=by cases d<;>rfl
def nJ(U:Bu)(d:Option (Nat×Aa)):U.C7 d=U.DE (d.toList.map λp=>(p.1,.val p.2)):=by cases d<;>rfl
def VI{r:D3}(hd:r.LD C run U h U' h'):∃ws,U'=U.DE ws/\(∀p∈ws,p.1∈r.wf)/\(∀p∈ws,∀t o,p.2= .Eo t o->t∈r.gM)/\∀Z,r.LD C run Z h (Z.DE ws) h':=by
 have one:∀(d:Option Nat) (x:DN),(∀t o,x≠ .Eo t o)->U'=U.put d x->d.toList⊆r.wf->(∀Z,r.LD C run Z h (Z.put d x) h')->
   ∃ws,U'=U.DE ws/\(∀p∈ws,p.1∈r.wf)/\(∀p∈ws,∀t o,p.2= .Eo t o->t∈r.gM)/\∀Z,r.LD C run Z h (Z.DE ws) h':=by
  intro d x hx he hw ht;refine⟨d.toList.map λs=>(s,x),by rw[<-Tl];exact he,λp hp=>?_,λp hp t o hl=>?_,λZ=>by rw[<-Tl];exact ht Z⟩;.obtain⟨s,hs,rfl⟩:=A3.1 hp;exact hw hs
  .obtain⟨s,hs,rfl⟩:=A3.1 hp;exact absurd hl (hx t o)
 have bL:∀(i:Option (Nat×Aa)) (d:Option Nat) (x:DN),(∀t o,x≠ .Eo t o)->U'=(U.C7 i).put d x->d.toList⊆r.wf->(i.map (·.1)).toList⊆r.wf->(∀Z,r.LD C run Z h ((Z.C7 i).put d x) h')->
   ∃ws,U'=U.DE ws/\(∀p∈ws,p.1∈r.wf)/\(∀p∈ws,∀t o,p.2= .Eo t o->t∈r.gM)/\∀Z,r.LD C run Z h (Z.DE ws) h':=by
  intro i d x hx he hw nK ht;have e:∀Z:Bu,(Z.C7 i).put d x=Z.DE ((i.toList.map λp=>(p.1,.val p.2))++d.toList.map λs=>(s,x)):=λZ=>by rw[Bu.Ii,<-nJ,<-Tl]
  refine⟨_,by rw[he,e],λp hp=>?_,λp hp t o hl=>?_,λZ=>by rw[<-e];exact ht Z⟩
  .rcases An.1 hp with hp|hp
   .obtain⟨q,hq,rfl⟩:=A3.1 hp;exact nK (by cases i<;>simp_all)
   .obtain⟨s,hs,rfl⟩:=A3.1 hp;exact hw hs
  .rcases An.1 hp with hp|hp
   .obtain⟨q,hq,rfl⟩:=A3.1 hp;cases hl
   .obtain⟨s,hs,rfl⟩:=A3.1 hp;exact absurd hl (hx t o)
 cases r with
 |pure ws=>obtain⟨rfl,rfl⟩:=hd;refine⟨ws,rfl,λp hp=>A3.2 ⟨p,hp,rfl⟩,λp hp t o hl=>?_,λZ=>⟨rfl,rfl⟩⟩;exact BU.2 ⟨p.2,A3.2 ⟨p,hp,rfl⟩,by rw[hl]⟩
 |op p args dst BB i=>obtain⟨v,hv,rfl,rfl⟩:=hd;exact bL i dst _ (by cases BB<;>simp) rfl (by simp[D3.wf]) (by simp[D3.wf]) λZ=>⟨v,hv,rfl,rfl⟩
 |box n v d=>obtain⟨hn,rfl,rfl⟩:=hd;exact one (some d) _ Av rfl (by simp[D3.wf]) λZ=>⟨hn,rfl,rfl⟩
 |J4 fn x b fz d=>
  obtain⟨rfl,rfl⟩:=hd;refine⟨(fz.map λ(s,cs)=>(s,.val (.B3 cs)))++[(d,.val (.func fn x b))],by rw[Bu.Ii];rfl,λp hp=>?_,λp hp t o hl=>?_,λZ=>⟨by rw[Bu.Ii];rfl,rfl⟩⟩
  .rcases An.1 hp with hp|hp
   .obtain⟨q,hq,rfl⟩:=A3.1 hp;exact IM _ (A3.2 ⟨q,hq,rfl⟩)
   .simp at hp;subst hp;simp[D3.wf]
  .rcases An.1 hp with hp|hp
   .obtain⟨q,hq,rfl⟩:=A3.1 hp;cases hl
   .simp at hp;subst hp;cases hl
 |Lg s off n v BB i ver cells owned=>obtain⟨hn,rfl,rfl⟩:=hd;exact bL i (some s) _ Av rfl (by simp[D3.wf]) (by simp[D3.wf]) λZ=>⟨hn,rfl,rfl⟩
 |load n p dst=>obtain⟨v,hv,rfl,rfl⟩:=hd;exact one dst _ Av rfl (by simp[D3.wf]) λZ=>⟨v,hv,rfl,rfl⟩
 |store n p v=>obtain⟨hv,rfl⟩:=hd;exact one none .undef Av rfl Av λZ=>⟨hv,rfl⟩
 |alloc n v dst=>obtain⟨hn,rfl,rfl⟩:=hd;exact one dst _ Av rfl (by simp[D3.wf]) λZ=>⟨hn,rfl,rfl⟩
 |call f args dst=>obtain⟨v,hv,rfl⟩:=hd;exact one dst _ (by intro t o;split<;>simp) rfl (by simp[D3.wf]) λZ=>⟨v,hv,rfl⟩
 |Es g args dst=>obtain⟨f,x,v,h1,h2,rfl⟩:=hd;exact one dst _ Av rfl (by simp[D3.wf]) λZ=>⟨f,x,v,h1,h2,rfl⟩
 |Cx f args dst=>obtain⟨HI,v,h1,h2,h3,rfl,rfl⟩:=hd;exact one dst _ Av rfl (by simp[D3.wf]) λZ=>⟨HI,v,h1,h2,h3,rfl,rfl⟩
 |N4 dst=>obtain⟨rfl,rfl⟩:=hd;exact one dst _ Av rfl (by simp[D3.wf]) λZ=>⟨rfl,rfl⟩
 |Js m k v=>obtain⟨hv,rfl⟩:=hd;exact one none .undef Av rfl Av λZ=>⟨hv,rfl⟩
 |Ly z ok m k dst=>obtain⟨v,hv,rfl,rfl⟩:=hd;exact one dst _ Av rfl (by simp[D3.wf]) λZ=>⟨v,hv,rfl,rfl⟩
 |make z b zero l c dst=>obtain⟨v,hv,rfl⟩:=hd;exact one dst _ Av rfl (by simp[D3.wf]) λZ=>⟨v,hv,rfl⟩
 |IV z b s x dst i=>obtain⟨v,hv,rfl⟩:=hd;exact bL i dst _ Av rfl (by simp[D3.wf]) (by simp[D3.wf]) λZ=>⟨v,hv,rfl⟩
 |FC z b s x dst=>obtain⟨v,hv,rfl⟩:=hd;exact one dst _ Av rfl (by simp[D3.wf]) λZ=>⟨v,hv,rfl⟩
 |FD z b s x dst i=>obtain⟨v,hv,rfl,rfl⟩:=hd;exact bL i dst _ Av rfl (by simp[D3.wf]) (by simp[D3.wf]) λZ=>⟨v,hv,rfl,rfl⟩
 |ES s dst=>obtain⟨v,hv,rfl⟩:=hd;exact one dst _ Av rfl (by simp[D3.wf]) λZ=>⟨v,hv,rfl⟩
 |UF s dst=>obtain⟨v,u,h1,h2,rfl⟩:=hd;exact one dst _ Av rfl (by simp[D3.wf]) λZ=>⟨v,u,h1,h2,rfl⟩
 |mem o args dst=>obtain⟨v,hv,rfl⟩:=hd;exact one dst _ (by intro t o';split<;>simp) rfl (by simp[D3.wf]) λZ=>⟨v,hv,rfl⟩
def QE{r:D3}(hd:r.LD C run U h U' h')(he:r.O6=false):h'=h/\
  (r.hl=false->∀h2,r.LD C run U h2 U' h2)/\
  ∀n p d,r= .load n p (some d)->∃v,Bk h n p=some v/\U'=U.set d (.val v)/\∀h2,Bk h2 n p=some v->r.LD C run U h2 U' h2:=by
 cases r<;>simp only[D3.O6] at he<;>try(exact absurd he Br)
 case pure ws=>obtain⟨rfl,rfl⟩:=hd;exact⟨rfl,λ_ _=>⟨rfl,rfl⟩,Av⟩
 case op p args dst BB g=>obtain⟨v,hv,rfl,rfl⟩:=hd;exact⟨rfl,λ_ _=>⟨v,hv,rfl,rfl⟩,Av⟩
 case box n v d=>obtain⟨hn,rfl,rfl⟩:=hd;exact⟨rfl,λ_ _=>⟨hn,rfl,rfl⟩,Av⟩
 case J4 fn x b fz d=>obtain⟨rfl,rfl⟩:=hd;exact⟨rfl,λ_ _=>⟨rfl,rfl⟩,Av⟩
 case Lg s off n v BB g ver cells owned=>obtain⟨hn,rfl,rfl⟩:=hd;exact⟨rfl,λ_ _=>⟨hn,rfl,rfl⟩,Av⟩
 case load n p dst=>obtain⟨v,hv,rfl,rfl⟩:=hd;refine⟨rfl,λc=>absurd c (by simp[D3.hl]),λn' p' d he=>?_⟩;cases he;exact⟨v,hv,rfl,λh2 e=>⟨v,e,rfl,rfl⟩⟩
 case Ly z ok m k dst=>obtain⟨v,hv,rfl,rfl⟩:=hd;exact⟨rfl,λc=>absurd c (by simp[D3.hl]),Av⟩
 case Cx f args dst=>obtain⟨HI,v,h1,h2,h3,rfl,rfl⟩:=hd;exact⟨rfl,λ_ _=>⟨HI,v,h1,h2,h3,rfl,rfl⟩,Av⟩
def Rq{ds:List Nat}(hn:Lh U ds=true):U.drop ds=U:=by
 refine Bu.ext (Bu.length_drop U ds) λt=>?_;rw[Bu.Pp];cases hx:U.at t with
 |Eo t' o=>have:=Mk.1 hn t t' o hx;simp[this]
 |_=>rfl
def Oi{o:Oper}(h:∀t∈EH ops o,Z.at t=U.at t):Ho ops Z o=Ho ops U o:=by
 unfold Ho;unfold EH at h;cases hg:o.guard with
 |none=>rfl
 |some g=>
  obtain⟨j,want⟩:=g;rw[hg] at h;simp only at h⊢;cases hd:(ops[j]?).bind (·.dst) with
  |none=>rfl
  |some s=>
   rw[hd] at h;simp only
   rw[h s Av]
def R4{o:Oper}{r:D3}(hc:Fg C fid ops U o=some r)(ht:∀t∈Iv o.op.operands.toList,Z.at t=U.at t)(hb:∀s∈GG C U o,Z.at s=U.at s):GG C Z o=GG C U o:=by
 have h:So C U Z o.op.operands.toList:= .gZ ht
 unfold GG at hb⊢
 cases ho:o.op with
 |load t x=>
  rw[ho] at h hb
  simp only at hb⊢
  have hn:Fe C U x≠none:=λhe=>by
   unfold Fg at hc
   simp only[ho] at hc
   split at hc
   .unfold JO at hc;rw[he] at hc;split at hc<;>simp_all
   .cases hc
  unfold L7
  rw[h.addr Hp hb hn]
 |store t x y=>
  rw[ho] at h hb
  simp only at hb⊢
  have hn:Fe C U x≠none:=λhe=>by
   unfold Fg at hc
   simp only[ho] at hc
   split at hc
   .unfold HS at hc;rw[he] at hc;split at hc<;>simp_all
   .cases hc
  unfold L7
  rw[h.addr Hp hb hn]
 |_=>rfl
def Rr{xs:List DN}{t o:Nat}(h: .Eo t o∈xs):t∈Sl xs:=BU.2 ⟨_,h,rfl⟩
def Na.spec{s:St}(hs:Na C fid ops run s U h U' h')(hf:s.fp.Qu=true):
  ∃ws,U'=U.DE ws/\(∀p∈ws,p.1∈s.fp.wf)/\(∀p∈ws,∀t o,p.2= .Eo t o->t∈s.fp.lr)/\(∀x∈s.fp.wf,∀t o,U.at x= .Eo t o->t∈s.fp.lr)/\Lh U s.fp.news=true/\(s.fp.O6=false->h'=h)/\
   (s.fp.O6=false->s.fp.hl=true->∃f,s.fl=some f)/\
   ∀(Z:Bu) (h2 Yd:Ah),Z.length=U.length->(∀x∈s.fp.rs++s.fp.wf,Z.at x=U.at x)->Lh Z s.fp.news=true->
    ((h2=h/\Yd=h')\/(s.fp.O6=false/\Yd=h2/\(s.fp.hl=true->∀f,s.fl=some f->Bk h2 f.n f.p=some f.v)))->Na C fid ops run s Z h2 (Z.DE ws) Yd:=by
 obtain⟨o,ho,⟨hg,og,HI,rfl,rfl⟩|⟨r,U1,hg,hc,og,hd,HI,ha⟩⟩:=hs
 .rw[og] at hf⊢;refine⟨o.dst.toList.map λd=>(d,.skip),Tl _ _ _,λp hp=>?_,λp hp t k hl=>?_,λx hx t k hl=>?_,Mk.2 (by simp[RS]),λ_=>rfl,λ_ c=>absurd c (by simp[RS]),λZ h2 Yd hlen sK _ Gq=>?_⟩;.obtain⟨d,hd,rfl⟩:=A3.1 hp;exact hd
  .obtain⟨d,hd,rfl⟩:=A3.1 hp;cases hl
  .exact Rr (o:=k) (A3.2 ⟨x,hx,hl⟩)
  .have c:Yd=h2:=by rcases Gq with⟨u,q⟩|⟨_,e,_⟩<;>first|exact e|rw[u,q]
   refine⟨o,ho,.inl ⟨?_,?_,HI,(Tl _ _ _).symm,c⟩⟩;.rw[Oi λt ht=>sK t (B5 _ ht)];exact hg
   .rw[og];have e:o.dst.toList.map Z.at=o.dst.toList.map U.at:=Vk λx hx=>sK x (Bw _ hx);simp only[RS,e]
 .rw[og] at hf⊢;have Ye:r.Qu U=true:=hf;have N6:Lh U r.news=true:=by unfold D3.Qu at Ye;rw[Bf] at Ye;exact Ye.1
  rw[Rq N6] at hd;obtain⟨sL,rfl,hw,m,Qw⟩:=VI hd;have aBo:∃Ë:List (Nat×DN),U'=(U.DE sL).DE Ë/\(∀p∈Ë,o.dst=some p.1/\∃b,p.2= .MO b)/\∀Z:Bu,Z.length=U.length->(∀x∈r.wf++o.dst.toList,Z.at x=U.at x)->KU (if Pg ops s.idx then o.dst else none) (Z.DE sL) ((Z.DE sL).DE Ë):=by
   by_cases zm:Pg ops s.idx=true
   .rw[Ad zm] at ha;cases Px:o.dst with
    |none=>rw[Px] at ha;exact⟨[],ha,Av,λZ _ _=>by simp[zm,KU,Bu.DE]⟩
    |some d=>
     rw[Px] at ha;simp only[KU] at ha;have yM:∀Z:Bu,Z.length=U.length->(∀x∈r.wf++[d],Z.at x=U.at x)->(Z.DE sL).at d=(U.DE sL).at d:=λZ hl sK=>Bu.HM sL U Z d hl (sK d Av);cases hx:(U.DE sL).at d with
     |val v=>rw[hx] at ha;obtain⟨b,rfl,rfl⟩:=ha;refine⟨[(d,.MO b)],rfl,Av,λZ hl sK=>?_⟩;simp only[zm,BE,KU];rw[yM Z hl sK,hx];exact⟨b,rfl,rfl⟩
     |_=>rw[hx] at ha;refine⟨[],ha,Av,λZ hl sK=>?_⟩;simp only[zm,BE,KU];rw[yM Z hl sK,hx];rfl
   .rw[Ac zm] at ha;exact⟨[],ha,Av,λZ _ _=>by rw[Ac zm];rfl⟩
  obtain⟨Ë,rfl,nK,Ì⟩:=aBo;have i:r.hl=true->∃n p d,r= .load n p (some d)/\d<U.length:=λc=>by
   unfold D3.Qu at Ye;rw[Bf] at Ye;cases r with
   |load n p dst=>
    cases dst with
    |none=>exact absurd Ye.2 Av
    |some d=>exact⟨n,p,d,rfl,by simpa using Ye.2⟩
   |Ly _ _ _ _ _=>exact absurd Ye.2 Av
   |_=>simp[D3.hl] at c
  have Í:r.O6=false->∀n p d,r= .load n p (some d)->d<U.length->∃v,Bk h n p=some v/\s.fl=some {idx:=s.idx,n,p,v}:=by intro he n p d hr sM;obtain⟨v,j,g,_⟩:=(QE hd he).2.2 n p d hr;refine⟨v,j,?_⟩;rw[HI,hr];simp only[Jp];rw[g,Bu.EB sM]
  have aBp:∀(Z:Bu) h2 Yd,((h2=h/\Yd=h')\/(r.O6=false/\Yd=h2/\(r.hl=true->∀f,s.fl=some f->Bk h2 f.n f.p=some f.v)))->r.LD C run Z h2 (Z.DE sL) Yd:=by
   intro Z h2 Yd Gq;rcases Gq with⟨rfl,rfl⟩|⟨he,rfl,Rm⟩
   .exact Qw Z
   .obtain⟨_,B,A⟩:=QE (Qw Z) he;cases c:r.hl with
    |false=>exact B c _
    |true=>obtain⟨n,p,d,hr,sM⟩:=i c;obtain⟨v,j,g⟩:=Í he n p d hr sM;obtain⟨v',y,_,z⟩:=A n p d hr;rw[j] at y;cases y;exact z _ (Rm c _ g)
  refine⟨sL++Ë,by rw[Bu.Ii],λp hp=>?_,λp hp t k hl=>?_,λx hx t k hl=>?_,N6,λhe=>(QE hd he).1,λhe c=>?_,λZ h2 Yd hlen sK l Gq=>?_⟩
  .rcases An.1 hp with hp|hp
   .exact B5 _ (hw p hp)
   .exact Bw _ (by rw[(nK p hp).1];simp)
  .rcases An.1 hp with hp|hp
   .exact Bw _ (m p hp t k hl)
   .obtain⟨_,b,e⟩:=nK p hp;rw[e] at hl;cases hl
  .exact B5 _ (Rr (o:=k) (A3.2 ⟨x,hx,hl⟩))
  .obtain⟨n,p,d,hr,sM⟩:=i c;obtain⟨v,_,g⟩:=Í he n p d hr sM;exact⟨_,g⟩
  .have zn:∀t∈EH ops o++Iv o.op.operands.toList++GG C U o,Z.at t=U.at t:=λt ht=>sK t (B5 _ ht);have hwf:∀t∈r.wf++o.dst.toList,Z.at t=U.at t:=λt ht=>sK t (Bw _ ht);have ht:∀t∈Iv o.op.operands.toList,Z.at t=U.at t:=λt ht=>zn t (by simp[ht]);have hb:∀t∈GG C U o,Z.at t=U.at t:=λt ht=>zn t (by simp[ht]);have Î:Lh Z r.news=true:=l;refine⟨o,ho,.inr ⟨r,Z.DE sL,?_,Tg hc ht hb,?_,?_,?_,?_⟩⟩;.rw[Oi λt ht=>zn t (by simp[ht])];exact hg
   .rw[og];have u:(r.wf++o.dst.toList).map Z.at=(r.wf++o.dst.toList).map U.at:=Vk λx hx=>hwf x hx;have q:r.Qu Z=r.Qu U:=by unfold D3.Qu;rw[N6,Î,hlen]
    simp only[RS,u,q,R4 hc ht hb]
   .rw[Rq Î];exact aBp Z h2 Yd Gq
   .rw[HI];exact(UP λd hd=>Bu.HM sL U Z d hlen (hwf d (B5 _ hd))).symm
   .rw[Bu.Ii];exact Ì Z hlen hwf
end
end Go.Am
end
section
namespace Go.Am
open Go
section
variable{C:Fo}{fid:FuncId}{ops:List Oper}{run:IT->Ah->Option IW}{an:List Nat}
def Kg{a b:List Nat}(h:(!Rh a b)=true){x:Nat}(hx:x∈a):x∉b:=λhb=>by have:Rh a b=true:=nI.2 ⟨x,hx,hb⟩;simp[this] at h
def swap{p s:St}{U σa U1:Bu}{h ha h1:Ah}(hp:Na C fid ops run p U h σa ha)(hs:Na C fid ops run s σa ha U1 h1)(JZ:OB p.fp s.fp=true)
  (Rm:s.fp.O6=true->∀f,p.fl=some f->Bk h1 f.n f.p=some f.v):
  ∃σs X9,Na C fid ops run s U h σs X9/\Na C fid ops run p σs X9 U1 h1/\(s.fp.O6=true->X9=h1)/\(p.fp.O6=true->h1=ha):=by
 unfold OB FP.apart at JZ;simp only[Bf] at JZ;obtain⟨⟨⟨⟨pf,z⟩,⟨⟨a1,a2⟩,a3⟩,a4⟩,he⟩,hl⟩:=JZ;obtain⟨c,rfl,k,mO,y,oh,m,D,iv⟩:=hp.spec pf;obtain⟨b,rfl,j,aL,A,l,aJ,B,sN⟩:=hs.spec z;have g:∀x∈s.fp.rs++s.fp.wf,(U.DE c).at x=U.at x:=λx hx=>Bu.FG c U x λq hq e=>Kg a1 (k q hq) (by rw[e];exact hx);have d:Lh U s.fp.news=true:=by
  rw[Mk] at l⊢;intro x t o hx;by_cases hw:x∈p.fp.wf;.exact Kg a3 (y x hw t o hx)
  .refine l x t o ?_;rw[Bu.FG c U x λq hq e=>hw (by rw[<-e];exact k q hq)];exact hx
 have hlen:∀(Z:Bu) (ws:List (Nat×DN)),(Z.DE ws).length=Z.length:=λZ ws=>Bu.Ij ws Z;have iw:(U.DE b).DE c=(U.DE c).DE b:=(Bu.nH λq hq r hr e=>by have:=Kg a1 (k q hq);exact this (Bw _ (by rw[e];exact j r hr))).symm
 have outs:∀x∈p.fp.rs++p.fp.wf,(U.DE b).at x=U.at x:=λx hx=>Bu.FG b U x λq hq e=>by
  rcases An.1 hx with hx|hx
  .exact Kg a2 (j q hq) (by rw[e];exact hx)
  .exact Kg a1 hx (Bw _ (by rw[<-e];exact j q hq))
 have u:Lh (U.DE b) p.fp.news=true:=by
  rw[Mk] at oh⊢;intro x t o hx;rcases Bu.Tj b U x with h0|⟨q,hq,_,h2⟩
  .exact oh x t o (by rw[<-h0];exact hx)
  .rw[h2] at hx;exact Kg a4 (aL q hq t o hx)
 by_cases H5:s.fp.O6=true
 .have zo:p.fp.O6=false:=by
   cases hq:p.fp.O6 with
   |false=>rfl
   |true=>simp[H5,hq] at he
  have i:ha=h:=m zo;subst i;refine⟨U.DE b,h1,sN U ha h1 (hlen U c).symm (λx hx=>(g x hx).symm) d (.inl ⟨rfl,rfl⟩),?_,λ_=>rfl,λe=>by rw[zo] at e;cases e⟩;rw[<-iw];exact iv (U.DE b) h1 h1 (hlen U b) outs u (.inr ⟨zo,rfl,λ_ f hf=>Rm H5 f hf⟩)
 .have Ï:s.fp.O6=false:=by simpa using H5
  have oj:h1=ha:=aJ Ï;subst oj;refine⟨U.DE b,h,?_,?_,λe=>absurd e H5,λ_=>rfl⟩
  .by_cases zo:p.fp.O6=true;.refine sN U h h (hlen U c).symm (λx hx=>(g x hx).symm) d (.inr ⟨Ï,rfl,λE=>?_⟩);simp[zo,E] at hl
   .have aBs:p.fp.O6=false:=by simpa using zo
    have i:=m aBs;exact sN U h h (hlen U c).symm (λx hx=>(g x hx).symm) d (.inl ⟨i.symm,i.symm⟩)
  .rw[<-iw];exact iv (U.DE b) h h1 (hlen U b) outs u (.inl ⟨rfl,rfl⟩)
inductive Steps(C:Fo)(fid:FuncId)(ops:List Oper)(run:IT->Ah->Option IW)(an:List Nat):List IX->List St->Bu->Ah->Bu->Ah->Prop
 |nil {fl:List IX} {U:Bu} {h:Ah}:Steps C fid ops run an fl [] U h U h
 |cons {fl:List IX} {s:St} {L:List St} {U U1 σf:Bu} {h h1 hf:Ah}:Na C fid ops run s U h U1 h1->(s.fp.O6=true->∀f∈fl,DP an f.idx s.idx=false->Bk h1 f.n f.p=some f.v)->
  Steps C fid ops run an (s.fl.toList++fl) L U1 h1 σf hf->Steps C fid ops run an fl (s::L) U h σf hf
def Steps.sub{fl:List IX}{L:List St}{U σf:Bu}{h hf:Ah}(hs:Steps C fid ops run an fl L U h σf hf):∀{b:List IX},(∀f∈b,f∈fl)->Steps C fid ops run an b L U h σf hf:=by
 induction hs with
 |nil=>intro b _;exact .nil
 |cons h1 h2 _ ih=>
  intro b Tm;refine .cons h1 (λhe f hf hb=>h2 he f (Tm f hf) hb) (ih λf hf=>?_);rcases An.1 hf with hf|hf
  .exact B5 _ hf
  .exact Bw _ (Tm f hf)
def Na.om{s:St}{U U':Bu}{h h':Ah}(hs:Na C fid ops run s U h U' h'){f:IX}(hf:s.fl=some f):f.idx=s.idx:=by
 obtain⟨o,_,⟨_,_,HI,_⟩|⟨r,U1,_,_,_,_,HI,_⟩⟩:=hs;.rw[HI] at hf;cases hf
 .rw[HI] at hf;unfold Jp at hf;split at hf
  .split at hf;.cases hf;rfl
   .cases hf
  .cases hf
def Steps.lt{fl:List IX}{L:List St}{U σf:Bu}{h hf:Ah}(hs:Steps C fid ops run an fl L U h σf hf):∀q∈L,q.idx<ops.length:=by
 induction hs with
 |nil=>simp
 |cons h1 _ _ ih=>
  intro q hq;rcases Az.1 hq with rfl|hq
  .obtain⟨o',h2,_⟩:=h1;exact(Ai.1 h2).1
  .exact ih q hq
def ix{s:St}{B:List St}{σf:Bu}{hf:Ah}:∀{A:List St} {fl:List IX} {U:Bu} {h:Ah},Steps C fid ops run an fl (A++s::B) U h σf hf->(∀p∈A,OB p.fp s.fp=true/\DP an p.idx s.idx=false)->
  ∃U1 h1,Na C fid ops run s U h U1 h1/\(s.fp.O6=true->∀f∈fl,DP an f.idx s.idx=false->Bk h1 f.n f.p=some f.v)/\Steps C fid ops run an (s.fl.toList++fl) (A++B) U1 h1 σf hf
 |[],fl,U,h,hs,_=>by
  cases hs with
  |cons h1 h2 h3=>exact⟨_,_,h1,h2,h3⟩
 |p::A,fl,U,h,hs,e=>by
  cases hs with
  |cons h1 h2 h3=>
   rename_i σa ha;obtain⟨U1,yH,d,c,l⟩:=ix h3 λq hq=>e q (by simp[hq]);obtain⟨JZ,aBt⟩:=e p Av;obtain⟨σs,X9,w1,k,j,i⟩:=swap h1 d JZ λhe f hf=>c he f (by rw[hf];simp) (by rw[h1.om hf];exact aBt);refine⟨σs,X9,w1,λhe f hf hb=>?_,.cons k (λhe f hf hb=>?_) (l.sub λf hf=>?_)⟩;.rw[j he];exact c he f (Bw _ hf) hb
   .rw[i he];rcases An.1 hf with hf|hf
    .exfalso;unfold OB at JZ;simp only[Bf] at JZ;obtain⟨⟨⟨⟨_,u⟩,_⟩,m⟩,hl⟩:=JZ;cases cE:s.fl with
     |none=>rw[cE] at hf;simp at hf
     |some g=>
      have b:s.fp.hl=true:=by
       obtain⟨o,_,⟨_,_,HI,_⟩|⟨r,t,_,_,og,_,HI,_⟩⟩:=d;.rw[HI] at cE;cases cE
       .rw[HI] at cE;unfold Jp at cE;split at cE;.rw[og];rfl
        .cases cE
      simp[he,b] at hl
    .exact h2 he f hf hb
   .rcases An.1 hf with hf|hf
    .exact Bw _ (B5 _ hf)
    .rcases An.1 hf with hf|hf
     .exact B5 _ hf
     .exact Bw _ (Bw _ hf)
def Oj{Dh:List Nat}{x:Nat}:∀(ds:List Nat) (m:Nat),(ds.foldl (λm e=>m|||zd e|||Dh.getD e 0) m).testBit x=true↔m.testBit x=true\/∃e∈ds,x=e\/(Dh.getD e 0).testBit x=true
 |[],m=>Av
 |d::ds,m=>by
  rw[p9,Oj ds];simp only[Nat.testBit_or,zd,Nat.testBit_two_pow,RP,C6,Az,exists_eq_or_imp];constructor
  .rintro((h|h)|h)
   .rcases h with h|h
    .exact .inl h
    .exact .inr (.inl (.inl h.symm))
   .exact .inr (.inl (.inr h))
   .exact .inr (.inr h)
  .rintro(h|(h|h)|h);.exact .inl (.inl (.inl h))
   .exact .inl (.inl (.inr h.symm))
   .exact .inl (.inr h)
   .exact .inr h
def J6:∀(l:List Oper) (Dh:List Nat) (i:Nat),i<Dh.length->(Ju Dh l).getD i 0=Dh.getD i 0
 |[],Dh,i,h=>rfl
 |o::l,Dh,i,h=>by rw[Ju,J6 l _ i Ew];simp[List.getD,Al h]
def Ok:∀(l:List Oper) (Dh:List Nat) (k:Nat) (o:Oper),l[k]?=some o->(∀e∈Oper.RR o,e<Dh.length+k)->∀x,
  ((Ju Dh l).getD (Dh.length+k) 0).testBit x=true↔∃e∈Oper.RR o,x=e\/((Ju Dh l).getD e 0).testBit x=true
 |[],Dh,k,o,h,_,x=>by simp at h
 |o'::l,Dh,0,o,h,hd,x=>by
  simp at h;subst h;rw[Ju,J6 l _ (Dh.length+0) Av];have b:(Dh++[(Oper.RR o').foldl (λm e=>m|||zd e|||Dh.getD e 0) 0]).getD (Dh.length+0) 0=(Oper.RR o').foldl (λm e=>m|||zd e|||Dh.getD e 0) 0:=by simp[List.getD]
  rw[b,Oj];simp only[Nat.zero_testBit,Dd,false_or];constructor;.rintro⟨e,he,h⟩;refine⟨e,he,h.imp id λh=>?_⟩;have hlt:e<Dh.length:=hd e he;rw[J6 l _ e Ew];simpa[List.getD,Al hlt] using h
  .rintro⟨e,he,h⟩;refine⟨e,he,h.imp id λh=>?_⟩;have hlt:e<Dh.length:=hd e he;rw[J6 l _ e Ew] at h;simpa[List.getD,Al hlt] using h
 |o'::l,Dh,k+1,o,h,hd,x=>by simp at h;rw[Ju];have:=Ok l (Dh++[(Oper.RR o').foldl (λm e=>m|||zd e|||Dh.getD e 0) 0]) k o h (λe he=>by have:=hd e he;simp;omega) x;simp only[Ap,AO,Bq,By] at this;rw[(Ab:Dh.length+(k+1)=Dh.length+1+k)];exact this
def VJ{i:Nat}{o:Oper}(ho:ops[i]?=some o)(hd:∀e∈Oper.RR o,e<i)(x:Nat):DP (SO ops) x i=true↔∃e∈Oper.RR o,x=e\/DP (SO ops) x e=true:=by have:=Ok ops [] i o ho (by simpa using hd) x;simpa[DP,SO] using this
def Nb(h:Wx ops=true){i:Nat}{o:Oper}(ho:ops[i]?=some o):∀e∈Oper.RR o,e<i:=by
 unfold Wx at h;rw[Dq] at h;have:=h (o,i) (by refine Ca (i:=i) ?_;simp[List.getElem?_zipIdx,ho])
 intro e he;simpa using Dq.1 this e he
def VK:∀{l:List (Nat×FP)},SQ.go an l=true->l.Pairwise λx y=>x.1≠y.1/\DP an y.1 x.1=false/\(DP an x.1 y.1=true\/OB x.2 y.2=true)
 |[],_=> .nil
 |(i,f)::l,h=>by simp only[SQ.go,Bf,Dq] at h;refine .cons (λy hy=>?_) (VK h.2);have:=h.1 y hy;simp only[bne_iff_ne,aG4,RP] at this;exact⟨this.1.1,this.1.2,this.2⟩
def sP{d:Option Nat}{U:Bu}{K:Bu->IT}{h:Ah}{R:IW}(hr:IT.step (BY C) run (gN d U K) h=some R):∃U',KU d U U'/\IT.step (BY C) run (K U') h=some R:=by
 unfold gN at hr;cases d with
 |none=>exact⟨U,rfl,hr⟩
 |some d=>
  simp only at hr;cases hx:U.at d with
  |val v=>
   rw[hx] at hr;simp only[IT.step] at hr;split at hr;.exact⟨U.set d (.MO true),by simp only[KU,hx];exact⟨true,rfl,rfl⟩,hr⟩
   .exact⟨U.set d (.MO false),by simp only[KU,hx];exact⟨false,rfl,rfl⟩,hr⟩
   .cases hr
  |_=>rw[hx] at hr;exact⟨U,by simp only[KU,hx],hr⟩
def Ml{i:Nat}{t:IT}{h:Ah}{R:IW}:∀{fl:List IX},IT.step (BY C) run (Pf an i fl t) h=some R->(∀f∈fl,DP an f.idx i=false->Bk h f.n f.p=some f.v)/\IT.step (BY C) run t h=some R
 |[],hr=>⟨Av,hr⟩
 |f::fl,hr=>by
  unfold Pf at hr;by_cases hb:DP an f.idx i=true
  .rw[Ad hb] at hr;obtain⟨c,b⟩:=Ml hr;refine⟨λg hg Ð=>?_,b⟩;rcases Az.1 hg with rfl|hg
   .rw[hb] at Ð;cases Ð
   .exact c g hg Ð
  .rw[Ac hb] at hr;simp only[IT.step] at hr;split at hr
   .rename_i v hv;split at hr
    .rename_i IS;obtain⟨c,b⟩:=Ml hr;refine⟨λg hg Ð=>?_,b⟩;rcases Az.1 hg with rfl|hg
     .rw[Aa.Th IS];exact hv
     .exact c g hg Ð
    .cases hr
   .cases hr
def OK{K:Bu->IT}{R:IW}:∀{rest:List Nat} {b:List (Nat×FP)} {fl:List IX} {U:Bu} {h:Ah},IT.step (BY C) run (OC C fid ops an rest b fl U K) h=some R->
  ∃L σf hf,Steps C fid ops run an fl L U h σf hf/\SQ ops.length an (b.reverse++L.map λs=>(s.idx,s.fp))=true/\IT.step (BY C) run (K σf) hf=some R
 |[],b,fl,U,h,hr=>by
  unfold OC at hr;split at hr;.rename_i JZ;exact⟨[],U,h,.nil,by simpa using JZ,hr⟩
  .cases hr
 |i::rest,b,fl,U,h,hr=>by
  unfold OC at hr;cases ho:ops[i]? with
  |none=>rw[ho] at hr;cases hr
  |some o=>
   rw[ho] at hr;simp only at hr;split at hr
   .rename_i hg;split at hr;.cases hr
    .rename_i r hc;obtain⟨U1,h1,hd,hr⟩:=Vr hr;have F6:(r.O6=true->∀f∈fl,DP an f.idx i=false->Bk h1 f.n f.p=some f.v)/\IT.step (BY C) run (gN (if Pg ops i then o.dst else none) U1 λj=>OC C fid ops an rest ((i,RS C ops U o (some r))::b) (KP i r U1 fl) j K) h1=some R:=by
      split at hr;.obtain⟨d,c⟩:=Ml hr;exact⟨λ_=>d,c⟩
      .rename_i he;exact⟨λe=>absurd e he,hr⟩
     obtain⟨Rm,hr⟩:=F6;obtain⟨U',ha,hr⟩:=sP hr;rw[Tk] at hr;obtain⟨L,σf,hf,d,c,g⟩:=OK hr;exact⟨{idx:=i,fp:=RS C ops U o (some r),fl:=Jp i r U1}::L,σf,hf,.cons ⟨o,ho,.inr ⟨r,U1,hg,hc,rfl,hd,rfl,ha⟩⟩ Rm d,by simpa using c,g⟩
   .rename_i hg;obtain⟨L,σf,hf,d,c,g⟩:=OK hr;exact⟨{idx:=i,fp:=RS C ops U o none,fl:=none}::L,σf,hf,.cons ⟨o,ho,.inl ⟨hg,rfl,rfl,rfl,rfl⟩⟩ (λe=>by simp[RS] at e) d,by simpa using c,g⟩
   .cases hr
end
section
variable{C:Fo}{γ0 γ:Gh}{w0 w:World}{O:Nat->Nat}{U:Bu}{h:Ah}{a:Act}{fid:FuncId}
def J7(hr:CF C γ0 w0 γ O U h a w){ops:Array Oper}{o:Oper}{b:Bool}(hg:Ho ops.toList U o= .LA b):Region.wanted o (yielded ops a.tmps)=b:=by
 unfold Ho at hg;unfold Region.wanted;cases ho:o.guard with
 |none=>rw[ho] at hg;cases hg;rfl
 |some g=>
  obtain⟨j,want⟩:=g;rw[ho] at hg;simp only[Sg] at hg⊢;unfold yielded;cases hd:(ops[j]?).bind (·.dst) with
  |none=>rw[hd] at hg;cases hg
  |some s=>
   rw[hd] at hg;simp only[BZ] at hg⊢;have h0:=hr.fr.GO s;cases hx:U.at s with
   |MO c=>
    rw[hx] at hg h0;cases hg;have hl:s<a.tmps.size:=by rw[<-hr.fr.size];exact Bu.M3 (by rw[hx];simp)
    have hv:a.tmps.getD s undef= .bool c:=h0;have:a.tmps[s]?=some (.bool c):=by rw[B9 hl];rw[F3,B9 hl] at hv;exact B8 some hv
    rw[this];rfl
   |skip=>
    rw[hx] at hg h0;cases hg;have hv:a.tmps.getD s undef=undef:=h0;have hne:∀c,a.tmps[s]?≠some (.bool c):=λc hc=>by rw[F3,hc] at hv;cases hv
    cases ht:a.tmps[s]? with
    |none=>rfl
    |some v=>
     cases v with
     |bool c=>exact absurd ht (hne c)
     |_=>rfl
   |val v=>rw[hx] at hg;cases hg
   |_=>rw[hx] at hg;cases hg
def CF.Ñ(hr:CF C γ0 w0 γ O U h a w){d:Option Nat}{U':Bu}(ha:KU d U U'):CF C γ0 w0 γ O U' h a w:=by
 unfold KU at ha;cases d with
 |none=>simp only at ha;rw[ha];exact hr
 |some d=>
  simp only at ha;cases hx:U.at d with
  |val v=>rw[hx] at ha;obtain⟨b,rfl,rfl⟩:=ha;have h0:=hr.fr.GO d;rw[hx] at h0;exact hr.Yt h0
  |_=>rw[hx] at ha;rw[ha];exact hr
structure aBu(ops:Array Oper)(listed:Array Bool)(L:List St):Prop where
 size:listed.size=ops.size
 un:∀i,i<ops.size->(listed.getD i false=false↔i∈L.map (·.idx))
 closed:∀j,listed.getD j false=true->∀e,DP (SO ops.toList) e j=true->listed.getD e false=true
abbrev hC(an:List Nat)(L:List St):Prop:=L.Pairwise λx y=>x.idx≠y.idx/\DP an y.idx x.idx=false/\(DP an x.idx y.idx=true\/OB x.fp y.fp=true)
def nL{run:IT->Ah->Option IW}(x:Ej C run){ops:Array Oper}{Q:Exit->Act->World->Prop}(E4:Wx ops.toList=true){σf:Bu}{hf:Ah}(hQ:∀γ' g a' w',CF C γ0 w0 γ' g σf hf a' w'->Q .normal a' w'):
  ∀(fuel:Nat) (L:List St) (listed:Array Bool) (γ:Gh) (O:Nat->Nat) (U:Bu) (h:Ah) (a:Act) (w:World),L.length=fuel->Steps C fid ops.toList run (SO ops.toList) [] L U h σf hf->hC (SO ops.toList) L->aBu ops listed L->CF C γ0 w0 γ O U h a w->
   wpAny C.P .any ops Q fuel listed a w:=by
 intro fuel;induction fuel with
 |zero=>
  intro L listed γ O U h a w k hs hp ho hr;have n:L=[]:=B4 k;subst n;cases hs;refine⟨List.eq_nil_iff_forall_not_mem.2 λi hi=>?_,hQ _ _ _ _ hr⟩;obtain⟨h0,o,yN,_⟩:=mem_ready.1 hi;have hlt:i<ops.size:=(Aq.1 yN).1;have nC:listed.getD i false=false:=by
   have hl:i<listed.size:=by rw[ho.size];exact hlt
   simpa[Array.getD,hl] using h0
  have:=(ho.un i hlt).1 nC;simp at this
 |succ fuel ih=>
  intro L listed γ O U h a w k hs hp ho hr;have WI:∀i,i<ops.size->listed.getD i true=listed.getD i false:=λi hi=>by
   have hl:i<listed.size:=by rw[ho.size];exact hi
   simp[Array.getD,hl]
  constructor
  .intro Rm;exfalso;cases L with
   |nil=>simp at k
   |cons s0 L=>
    obtain⟨o,yN,_⟩:∃o,ops.toList[s0.idx]?=some o/\True:=by
     cases hs with
     |cons h1 _ _=>obtain⟨o,h2,_⟩:=h1;exact⟨o,h2,trivial⟩
    have cF:ops[s0.idx]?=some o:=by simpa using yN
    have hlt:s0.idx<ops.size:=(Aq.1 cF).1;have:s0.idx∈Region.ready .any ops listed:=by
     refine mem_ready.2 ⟨?_,o,cF,λe he hb=>?_⟩;.rw[WI _ hlt];exact(ho.un _ hlt).2 Av
     .have c:e.on∈Oper.RR o:=BU.2 ⟨e,by simpa using he,by rw[Ad hb]⟩;have v:=Nb E4 yN e.on c;cases hl:listed.getD e.on false with
      |true=>rfl
      |false=>
       have hm:=(ho.un e.on Ab).1 hl;simp only[Be,Az] at hm;rcases hm with hm|hm
       .omega
       .obtain⟨y,hy,l⟩:=A3.1 hm;have:=((aEw.1 hp).1 y hy).2.1;rw[l,(VJ yN (Nb E4 yN) e.on).2 ⟨e.on,c,.inl rfl⟩] at this;cases this
    rw[Rm] at this;cases this
  .intro i hi;obtain⟨h0,o,yN,Ò⟩:=mem_ready.1 hi;have hlt:i<ops.size:=(Aq.1 yN).1;rw[WI i hlt] at h0;obtain⟨s,m,rfl⟩:=A3.1 ((ho.un i hlt).1 h0);obtain⟨A,B,rfl⟩:=List.append_of_mem m;have cF:ops.toList[s.idx]?=some o:=by simpa using yN
   have Ó:∀e,DP (SO ops.toList) e s.idx=true->listed.getD e false=true:=λe he=>by
    obtain⟨d,hd,Gq⟩:=(VJ cF (Nb E4 cF) e).1 he;obtain⟨z,c,hb⟩:=BU.1 hd;split at hb
    .rename_i Qm;cases hb;have sM:=Ò z (by simpa using c) Qm;rcases Gq with rfl|Gq
     .exact sM
     .exact ho.closed _ sM e Gq
    .cases hb
   have b:=(ž.1 hp).2.2;have oo:∀p∈A++s::B,p.idx<ops.size:=λp zh=>by simpa using hs.lt p zh
   obtain⟨U1,h1,u,_,t⟩:=ix hs λp f=>by
    have hb:DP (SO ops.toList) p.idx s.idx=false:=by
     cases Qm:DP (SO ops.toList) p.idx s.idx with
     |false=>rfl
     |true=>have h1:=Ó _ Qm;have h2:=(ho.un p.idx (oo p (by simp[f]))).2 (A3.2 ⟨p,by simp[f],rfl⟩);rw[h1] at h2;cases h2
    refine⟨?_,hb⟩;have:=(b p f s Av).2.2;rw[hb] at this;exact this.resolve_left Av
   have iy:∀γ' g a' w',CF C γ0 w0 γ' g U1 h1 a' w'->wpAny C.P .any ops Q fuel (listed.setIfInBounds s.idx true) a' w':=λγ' g a' w' F6=>by
    refine ih (A++B) _ γ' g U1 h1 a' w' (by simp at k⊢;omega) (t.sub Av) ?_ ⟨by simp[ho.size],λj hj=>?_,λj hj e he=>?_⟩ F6;.exact hp.sublist ((AI A).append (Ra s B))
    .by_cases zp:j=s.idx
     .subst zp;have oq:s.idx∉(A++B).map (·.idx):=λhm=>by
       obtain⟨q,hq,he⟩:=A3.1 hm;rcases An.1 hq with hq|hq
       .exact(b q hq s Av).1 he
       .exact(aEw.1 (ž.1 hp).2.1).1 q hq |>.1 he.symm
      have ht:(listed.setIfInBounds s.idx true).getD s.idx false=true:=by
       have hl:s.idx<listed.size:=by rw[ho.size];exact hlt
       simp[Array.getD,hl]
      rw[ht];exact⟨λe=>absurd e Av,λe=>absurd e oq⟩
     .rw[getD_set_ne false (λe=>zp e.symm),ho.un j hj];simp only[BW,Be,An,Az];constructor
      .rintro(e|e|e);.exact .inl e
       .exact absurd e zp
       .exact .inr e
      .rintro(e|e);.exact .inl e
       .exact .inr (.inr e)
    .by_cases zp:j=s.idx;.subst zp;exact getD_set_true (Ó e he)
     .rw[getD_set_ne false (λe=>zp e.symm)] at hj;exact getD_set_true (ho.closed j hj e he)
   unfold wpOp;rw[yN];obtain⟨o',yI,⟨hg,_,_,rfl,rfl⟩|⟨r,D,hg,hc,_,hd,_,ha⟩⟩:=u;.rw[cF] at yI;cases yI;simp only[J7 hr hg,Dd,EX];exact iy _ _ _ _ (hr.put λ_ _=>rfl)
   .rw[cF] at yI;cases yI;simp only[J7 hr hg,BE];exact .inl (sJ x hc hd hr λγ' g a' w' F6=>iy γ' g a' w' (F6.Ñ ha))
end
end Go.Am
end
end
