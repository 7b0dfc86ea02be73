/- Lemmas -/
import Derived.Test.YtglbboamemndeaaGreatDoorS5
import Derived.MapKept
set_option linter.all false
section
namespace Go.Am
open Go
section
variable{C:Fx}{γ0 γ γ':Gh}{w0 w w':World}{Z:Nat->Nat}{U:BF}{h:Ai}{a:Act}{fid:FuncId}{ops:List Oper}
def Wu{s t:Aj}(h:s≠t):((⟨⟨s⟩⟩:ByteArray)==⟨⟨t⟩⟩)=false:=by
 refine Bool.eq_false_iff.2 λhc=>h ?_;have:=(MapKept.bytes_beq _ _).1 hc;injection this with this
 injection this with this
def Q7(s:Aj):((⟨⟨s⟩⟩:ByteArray)==⟨⟨s⟩⟩)=true:=(MapKept.bytes_beq _ _).2 rfl
def lL{s:Aj}:∀{es:List (Aa×Aa)} {l:List MapEntry} {i:Nat} {r:Option Aa},KO γ es l->RA s es=some r->
  match r with
  |none=>Instr.findNow .string (.string ⟨⟨s⟩⟩) l i=some none
  |some v=>∃(j:Nat) (e:MapEntry),Instr.findNow .string (.string ⟨⟨s⟩⟩) l i=some (some (i+j,e.val))/\BH γ v e.val
 |[],l,i,r,b,hf=>by rw[show l=[] from b];cases hf;rfl
 |(k,v)::es,l,i,r,b,hf=>by
  obtain⟨e,l',rfl,h1,h2,f⟩:=b;unfold RA at hf;split at hf;.rename_i Kb;cases Kb
  .rename_i t v' UG Kb;cases Kb;have hk:e.key= .string ⟨⟨t⟩⟩:=h1;split at hf;.rename_i IM;subst IM;cases hf;exact⟨0,e,by simp[Instr.findNow,hk,Instr.sameNow,Q7],h2⟩
   .rename_i IM;have ih:=lL (i:=i+1) f hf;have hne:=Wu IM;cases r with
    |none=>simpa[Instr.findNow,hk,Instr.sameNow,hne] using ih
    |some v2=>obtain⟨j,g,d,c⟩:=ih;exact⟨j+1,g,by simp only[Instr.findNow,hk,Instr.sameNow,hne];rw[d];congr 3;omega,c⟩
  .cases hf
def wD{s:Aj}{v:Aa}{u:Value}(hv:BH γ v u):∀{es UG:List (Aa×Aa)} {l:List MapEntry} {i:Nat},KO γ es l->M9 s v es=some UG->
  (Instr.findNow .string (.string ⟨⟨s⟩⟩) l i=some none/\∀born,KO γ UG (l++[{key:= .string ⟨⟨s⟩⟩,val:=u,born}]))\/
  ∃j e,Instr.findNow .string (.string ⟨⟨s⟩⟩) l i=some (some (i+j,e.val))/\l[j]?=some e/\e.key= .string ⟨⟨s⟩⟩/\KO γ UG (l.modify j λe=>{e with key:= .string ⟨⟨s⟩⟩,val:=u})
 |[],UG,l,i,d,hp=>by rw[show l=[] from d];cases hp;exact .inl ⟨rfl,λborn=>⟨_,[],rfl,rfl,hv,rfl⟩⟩
 |(k,v0)::es,UG,l,i,d,hp=>by
  obtain⟨e,l',rfl,h1,h2,f⟩:=d;unfold M9 at hp;split at hp;.rename_i Kb;cases Kb
  .rename_i t v' o Kb;cases Kb;have hk:e.key= .string ⟨⟨t⟩⟩:=h1;split at hp;.rename_i IM;subst IM;cases hp;exact .inr ⟨0,e,by simp[Instr.findNow,hk,Instr.sameNow,Q7],rfl,hk,_,l',rfl,rfl,hv,f⟩
   .rename_i IM;have hne:=Wu IM;cases hq:M9 s v es with
    |none=>rw[hq] at hp;cases hp
    |some n=>
     rw[hq] at hp;cases hp;rcases wD hv (i:=i+1) f hq with⟨c,b⟩|⟨j,p,c,b,m,g⟩
     .exact .inl ⟨by simpa[Instr.findNow,hk,Instr.sameNow,hne] using c,λborn=>⟨e,_,rfl,h1,h2,b born⟩⟩
     .exact .inr ⟨j+1,p,by simp only[Instr.findNow,hk,Instr.sameNow,hne];rw[c];congr 3;omega,b,m,e,_,Ax,h1,h2,g⟩
  .cases hp
def Tl{es:Array MapEntry}{clock:Nat}{k v:Value}(h:clock=es.size/\∀(i:Nat) (e:MapEntry),es[i]?=some e->e.born=i):
  clock+1=(es.push {key:=k,val:=v,born:=clock}).size/\∀(i:Nat) (e:MapEntry),(es.push {key:=k,val:=v,born:=clock})[i]?=some e->e.born=i:=by
 obtain⟨rfl,h⟩:=h;refine⟨Ax,λi e he=>?_⟩;rw[Zb] at he;split at he;.rename_i hi;cases he;exact hi.symm
 .exact h i e he
def T5{es:Array MapEntry}{clock j:Nat}{f:MapEntry->MapEntry}(h:clock=es.size/\∀(i:Nat) (e:MapEntry),es[i]?=some e->e.born=i)(hf:∀e,(f e).born=e.born):
  clock=(es.modify j f).size/\∀(i:Nat) (e:MapEntry),(es.modify j f)[i]?=some e->e.born=i:=by
 refine⟨by simpa using h.1,λi e he=>?_⟩;rw[ML] at he;split at he
 .cases hx:es[i]? with
  |none=>rw[hx] at he;cases he
  |some x=>rw[hx] at he;cases he;rw[hf];exact h.2 i x hx
 .exact h.2 i e he
def Ni(hi:Hw γ h w){g id:Nat}{es UG:List (Aa×Aa)}(RT:h[id]?=some (.map es))(hg:γ.mu id=some g){o:Obj}{ents':Array MapEntry}{clock':Nat}(hw:w.heap[g]?=some o)(hr:je γ UG ents' clock'):
  Hw γ (h.set id (.map UG)) {w with heap:=w.heap.setIfInBounds g (.map ents' clock')}/\LR γ w γ {w with heap:=w.heap.setIfInBounds g (.map ents' clock')}:=by
 obtain⟨k,p,S4⟩:=hi.Mj id _ RT Ax;rw[hg] at p;cases p;obtain⟨Nc,c⟩:=MapKept.heap_set (o':= .map ents' clock') hw;have uniq:∀Ft x,h[Ft]?=some x->x≠ .Dw->γ.mu Ft=some g->Ft=id:=λFt x hx Ġ hm=>by obtain⟨b',p,q⟩:=hi.Mj Ft x hx Ġ;rw[hm] at p;cases p;rw[S4] at q;cases q;rfl
 constructor
 .refine⟨λb o v hb=>?_,λFt y Ik hy=>?_,λFt cs hc b hb=>?_,λFt e hc b hb=>?_,λFt b hb=>by simpa using hi.mu Ft b hb,λb x hx=>?_,λb n hb=>?_⟩;rotate_left 5
  .obtain⟨⟨pQ,i,jg,p,q⟩,r⟩:=hi.sz b n hb;have hne:b≠g:=λhe=>by subst he;obtain⟨f,d,j,_⟩:=hi.map id es RT b hg;rw[p] at j;cases j
   exact⟨⟨pQ,i,jg,by rw[c b hne];exact p,q⟩,r⟩
  .obtain⟨p,q,r⟩:=hi.HW b o v hb;have:b≠g:=λhe=>by subst he;rw[S4] at r;rcases r with r|⟨_,_,_,r,_⟩<;>cases r
   exact⟨by rw[CG (w:=w) (c b this)];exact p,q,r⟩
  .by_cases he:Ft=id;.subst he;exact⟨g,hg,S4⟩
   .rw[Ap (λx=>he x.symm)] at Ik;exact hi.Mj Ft y Ik hy
  .by_cases he:Ft=id;.subst he;rw[AD (hi.mu _ _ hg)] at hc;cases hc
   .rw[Ap (λx=>he x.symm)] at hc;have OS:b≠g:=λhx=>by subst hx;exact he (uniq Ft _ hc Ax hb)
    obtain⟨pQ,i,jg,p,pf,q,r⟩:=hi.cells Ft cs hc b hb;exact⟨pQ,i,jg,by rw[c b OS];exact p,pf,q,r⟩
  .by_cases he:Ft=id;.subst he;rw[hg] at hb;cases hb;rw[AD (hi.mu _ _ hg)] at hc;cases hc;exact⟨ents',clock',Nc,hr⟩
   .rw[Ap (λx=>he x.symm)] at hc;have OS:b≠g:=λhx=>by subst hx;exact he (uniq Ft _ hc Ax hb)
    obtain⟨DD,clock,p,q⟩:=hi.map Ft e hc b hb;exact⟨DD,clock,by rw[c b OS];exact p,q⟩
  .have:=hi.BI b x hx;simpa using this
 .refine⟨.refl _,Ax,rfl,rfl,rfl,λb hb hn=>⟨?_,rfl⟩⟩;exact c b (λhe=>by subst he;exact hn id S4)
def Q8(hr:CW C γ0 w0 γ Z U h a w){x y z:Operand}{d c b:Aa}(ha:Bq C U [x,y,z]=some [d,c,b]):BH γ d (a.eval x)/\BH γ c (a.eval y)/\BH γ b (a.eval z):=by obtain⟨_,_,_,e,h1,h2,f⟩:=(DF hr ha).Zp;simp only[A9,Dc,EJ,J7] at e;obtain⟨rfl,rfl,rfl⟩:=e;exact⟨h1,h2,f⟩
def lM{o:Oper}{t kt e:TypeId}{m k x:Operand}{l n f:Aa}{h':Ai}(ho:o.op= .insert t m k x\/o.op= .mapUpdate t m k x)(hd:o.dst=none)(ht:C.P.underlying t=some (.map kt e))(hk:C.P.underlying kt=some .string)(ha:Bq C U [m,k,x]=some [l,n,f])
  (hm:QB h l n f=some h') (hr:CW C γ0 w0 γ Z U h a w):Fu C γ0 w0 o a w U h':=by
 obtain⟨h1,h2,u⟩:=Q8 hr ha;have Ml:∀w',(Instr.mapUpdate t (a.eval m) (a.eval k) (a.eval x)).run C.P w= .ok () w'->(execOp a.eval o).run C.P w= .ok .skip w':=λw' AH=>by rcases ho with ho|ho<;>simp[execOp,ho,AH]
 unfold QB at hm;split at hm
 .rename_i id s;obtain⟨b,hb,zW⟩:=h1;have ī:a.eval k= .string ⟨⟨s⟩⟩:=h2;split at hm
  .rename_i es RT;cases hp:M9 s f es with
   |none=>rw[hp] at hm;cases hm
   |some UG=>
    rw[hp] at hm;cases hm;obtain⟨DD,clock,hw,r,hB⟩:=hr.DL.map id es RT b hb;have zX:(Instr.checkKey false 10000 kt (.string ⟨⟨s⟩⟩)).run C.P w= .ok () w:=MapKept.run_checkKey (k:= .string ⟨⟨s⟩⟩) hk (by simp[MapKept.IsKey]) false 9999;rcases wD u (i:=0) r hp with⟨c,g⟩|⟨j,en,c,g,q,p⟩
    .have AH:(Instr.mapUpdate t (a.eval m) (a.eval k) (a.eval x)).run C.P w= .ok () {w with heap:=w.heap.setIfInBounds b (.map (DD.push {key:= .string ⟨⟨s⟩⟩,val:=a.eval x,born:=clock}) (clock+1))}:=by rw[zW,ī];simp[Instr.mapUpdate,run_underlying ht,MapKept.run_getObj_map hw,zX,MapKept.run_findKey hk c,MapKept.run_setObj_map _ hw,Result.andThen]
     obtain⟨hi,JI⟩:=Ni (UG:=UG) (ents':=DD.push {key:= .string ⟨⟨s⟩⟩,val:=a.eval x,born:=clock}) (clock':=clock+1) hr.DL RT hb hw ⟨by simpa using g clock,Tl hB⟩;exact Fu.skip (Ml _ AH) (by rw[hd];exact hr.IA hi JI)
    .have hj:DD[j]?=some en:=by simpa using g
     rw[BB] at c;have AH:(Instr.mapUpdate t (a.eval m) (a.eval k) (a.eval x)).run C.P w= .ok () {w with heap:=w.heap.setIfInBounds b (.map (DD.modify j λe=>{e with key:= .string ⟨⟨s⟩⟩,val:=a.eval x}) clock)}:=by rw[zW,ī];simp[Instr.mapUpdate,run_underlying ht,MapKept.run_getObj_map hw,zX,MapKept.run_findKey hk c,hj,q,MapKept.run_keyThatStays (d:= .string) (k:= .string ⟨⟨s⟩⟩) (by simp[MapKept.IsKey]),MapKept.run_setObj_map _ hw,Result.andThen]
     obtain⟨hi,JI⟩:=Ni (UG:=UG) (ents':=DD.modify j λe=>{e with key:= .string ⟨⟨s⟩⟩,val:=a.eval x}) (clock':=clock) hr.DL RT hb hw ⟨by simpa using p,T5 hB λ_=>rfl⟩;exact Fu.skip (Ml _ AH) (by rw[hd];exact hr.IA hi JI)
  .cases hm
 .cases hm
def j_{o:Oper}{t:TypeId}(ho:o.op= .makeMap t none)(hr:CW C γ0 w0 γ Z U h a w):Fu C γ0 w0 o a w (U.put o.dst (.val (.map (some h.length)))) (h++[.map []]):=by
 obtain⟨hi,ha⟩:=NU hr.DL (.map #[] 0) (.map []) none (.inr ⟨rfl,rfl,rfl⟩);have AH:(Instr.makeMap t none).run C.P w= .ok (.map (some w.heap.size)) (w.alloc (.map #[] 0)):=by simp[Instr.makeMap]
 exact Fu.value (by simp only[execOp,ho];exact Dk AH) ((hr.IA hi ha).put λ_ _=>⟨w.heap.size,by simp[Gh.BO],rfl⟩)
def KD(key elem:TypeId)(index:Value)(commaOk:Bool)(es:Array MapEntry):Sem Value:=do
 Instr.checkKey es.isEmpty 10000 key index
 let(v,ok)<-match<-Instr.findKey key index es.toList with
  |some (_,v)=>pure (v,true)
  |none=>pure (<-zeroValue elem,false)
 pure (if commaOk then .tuple #[v,.bool ok] else v)
def ka{o:Oper}{t kt e:TypeId}{m k:Operand}{d f z r:Aa}{ok:Bool}(ho:o.op= .lookup t m k ok)(ht:C.P.underlying t=some (.map kt e))(hk:C.P.underlying kt=some .string)(hz:GC C.P e=some z)(ha:Bq C U [m,k]=some [d,f])(hm:OB h z ok d f=some r)(hr:CW C γ0 w0 γ Z U h a w):
  Fu C γ0 w0 o a w (U.put o.dst (.val r)) h:=by
 obtain⟨_,_,e0,h1,h2⟩:=EU hr ha;cases e0;obtain⟨g,fx,Ĭ⟩:=HK hz;have IE:∀(es:Array MapEntry) (q:Option Aa),(Instr.lookup t (a.eval m) (a.eval k) ok).run C.P w=(KD kt e (a.eval k) ok es).run C.P w->
   ∀s,a.eval k= .string ⟨⟨s⟩⟩->(match q with|none=>Instr.findNow .string (.string ⟨⟨s⟩⟩) es.toList 0=some none|some v=>∃(j:Nat) (e:MapEntry),Instr.findNow .string (.string ⟨⟨s⟩⟩) es.toList 0=some (some (0+j,e.val))/\BH γ v e.val)->
   (match q with|some v=>if ok then Aa.tuple [v,.bool true] else v|none=>if ok then .tuple [z,.bool false] else z)=r->Fu C γ0 w0 o a w (U.put o.dst (.val r)) h:=by
  intro es q RT s xj hq T4;have zX:(Instr.checkKey es.isEmpty 10000 kt (.string ⟨⟨s⟩⟩)).run C.P w= .ok () w:=MapKept.run_checkKey (k:= .string ⟨⟨s⟩⟩) hk (by simp[MapKept.IsKey]) es.isEmpty 9999;have AH:∃v,(Instr.lookup t (a.eval m) (a.eval k) ok).run C.P w= .ok v w/\BH γ r v:=by
   cases q with
   |none=>
    refine⟨if ok then .tuple #[g,.bool false] else g,?_,?_⟩;.rw[RT,xj];unfold KD;simp only[Sem.run_bind,Result.andThen_ok,zX,MapKept.run_findKey hk hq,Ĭ,Sem.run_bind,Sem.run_pure]
    .rw[<-T4];have c:=E9 (γ:=γ) fx;cases ok with
     |true=>exact⟨_,rfl,_,_,rfl,c,_,_,rfl,rfl,rfl⟩
     |false=>exact c
   |some v=>
    obtain⟨j,en,n,l⟩:=hq;refine⟨if ok then .tuple #[en.val,.bool true] else en.val,?_,?_⟩;.rw[RT,xj];unfold KD;simp only[Sem.run_bind,Result.andThen_ok,zX,MapKept.run_findKey hk n,Sem.run_bind,Sem.run_pure]
    .rw[<-T4];cases ok with
     |true=>exact⟨_,rfl,_,_,rfl,l,_,_,rfl,rfl,rfl⟩
     |false=>exact l
  obtain⟨v,AH,wB⟩:=AH;exact Fu.value (by simp only[execOp,ho];exact Dk AH) (hr.put λ_ _=>wB)
 unfold OB at hm;cases hf:S8 h d f with
 |none=>rw[hf] at hm;cases hm
 |some q=>
  rw[hf] at hm;simp only[BJ,Bx] at hm;unfold S8 at hf;split at hf;.rename_i s;cases hf;exact IE #[] none (by rw[show a.eval m=_ from h1];simp only[Instr.lookup,KD,Sem.run_bind,run_underlying ht,Result.andThen_ok,Sem.run_pure];rfl) s h2 rfl hm
  .rename_i id s;obtain⟨b,hb,zW⟩:=h1;split at hf;.rename_i es RT;obtain⟨DD,clock,hw,p,_⟩:=hr.DL.map id es RT b hb;exact IE DD q (by rw[zW];simp only[Instr.lookup,KD,Sem.run_bind,run_underlying ht,MapKept.run_getObj_map hw,Result.andThen_ok,Sem.run_pure];rfl) s h2 (lL (i:=0) p hf) hm
   .cases hf
  .cases hf
def Wv{size:Nat}{v:Aa}(h:NP size v=true):v= .slnil\/v= .EI size\/v= .sl size []:=by
 unfold NP at h;split at h;.exact .inl rfl
 .exact .inr (.inl (by simpa using h))
 .exact .inr (.inr (by simpa using h))
 .cases h
def zY{o:Oper}{c:Call}{t t' e:TypeId}{n b:Nat}{s x:Operand}{v u r:Aa}{h':Ai}(ho:o.op= .call c)(hc:c.callee= .builtin .append)(h0:c.argTypes[0]?=some t)(h1:c.argTypes[1]?=some t')(Ey:c.args.toList=[s,x])(ht:C.P.underlying t=some (.slice e))
  (IN:(∃G,C.P.underlying t'=some (.slice G))\/C.P.underlying t'=some .string) (K8:BQ C.P e=some (n+1)) (ju:JB C.P e=some (b+1)) (Fl:KL C U s=true) (kC:LP C.P e=true) (hv:Bq C U [s,x]=some [v,u])
  (hp:Kj h (n+1) (b+1) v u=some (h',r)) (hr:CW C γ0 w0 γ Z U h a w):Fu C γ0 w0 o a w ((U.Dr (C3 U s)).put o.dst (.val r)) h':=by
 obtain⟨i,z,hi,hz,bC⟩:=KR kC;have Qo:=Jk K8 hi;have Ĩ:=Lv ju hi;obtain⟨_,_,e0,hvs,pB⟩:=EU hr hv;cases e0;have w_:EK C U s=some v:=by
  unfold Bq at hv;split at hv;.rename_i p ps I K;cases hv;exact I
  .cases hv
 have IB:NP (n+1) v=true/\((∃Av,HA (n+1) (b+1) .slnil u=some (.sl (n+1) Av)/\Av≠[]/\u= .sl (n+1) Av/\Av.length*(b+1)<=AJ/\h'=h++[.cells Av.flatten]/\r= .CT h.length 0 Av.length (n+1))\/((u= .slnil\/(∃B,u= .EI B)\/∃B,u= .sl B [])/\h'=h/\r=v)):=by
  unfold Kj at hp;split at hp
  .rename_i B Av;split at hp
   .rename_i Vb;refine⟨Vb,?_⟩;split at hp;.cases hp;exact .inr ⟨.inr (.inr ⟨_,rfl⟩),rfl,rfl⟩
    .rename_i hne;split at hp
     .rename_i HC;cases hp;obtain⟨rfl,hb⟩:=HC;refine .inl ⟨Av,?_,hne,rfl,hb,rfl,rfl⟩;cases Av with
      |nil=>exact absurd rfl hne
      |cons q Av=>simp only[HA,Dm,BE];rw[Ag hb]
     .cases hp
   .cases hp
  .split at hp;.rename_i Vb;cases hp;exact⟨Vb,.inr ⟨.inl rfl,rfl,rfl⟩⟩
   .cases hp
  .split at hp;.rename_i Vb;simp only[A7] at Vb;cases hp;exact⟨Vb.1,.inr ⟨.inr (.inl ⟨_,rfl⟩),rfl,rfl⟩⟩
   .cases hp
  .cases hp
 obtain⟨Vb,IB⟩:=IB;obtain⟨F,Es,Jv,Hq,m⟩:=Pd hr Fl w_ (U.Dr (C3 U s)).length none;have Kb:c.args.map a.eval=#[a.eval s,a.eval x]:=by apply Hi;simp[Ey]
 have Ml:∀v' w',(Builtin.append_ #[t,t'] o.type #[a.eval s,a.eval x]).run C.P w= .ok v' w'->(execOp a.eval o).run C.P w= .ok (.value v') w':=λv' w' AH=>by
  have:execOp a.eval o=(do pure (Next.value (<-Builtin.append_ #[t,t'] o.type #[a.eval s,a.eval x]))):=by rw[<-Kb,<-N2 (ty:=o.type) h0 h1];simp only[execOp,ho,resolve,hc];rfl
  rw[this];exact Dk AH
 have wE:(a.eval s= .slice none 0 0/\v= .slnil)\/(∃g cap us y,a.eval s= .slice (some ⟨g,0,none⟩) 0 cap/\v= .sl (n+1) []/\F.BI g=some (.tail (U.Dr (C3 U s)).length none 0)/\w0.heap.size<=g/\w.heap[g]?=some (.cells us y (0,0))/\us.size=cap*(n+1)/\cap<=maxLen)\/∃g,a.eval s= .slice (some ⟨g,0,none⟩) 0 0/\v= .EI (n+1):=by
  rcases m with(m|⟨H,m⟩)|⟨g,k,cap,us,y,H,rr,qJ,I8,S4,hB,hg,Zk,xc,hm,J⟩
  .rw[m] at Hq;exact .inl ⟨Hq,m⟩
  .rcases Wv Vb with pE|pE|pE
   .rw[pE] at m;cases m
   .rw[pE] at Hq;obtain⟨g,Hq⟩:=Hq;exact .inr (.inr ⟨g,Hq,pE⟩)
   .rw[pE] at m;cases m
  .rcases Wv Vb with pE|pE|pE
   .rw[pE] at qJ;cases qJ
   .rw[pE] at qJ;cases qJ
   .rw[pE] at qJ;cases qJ;have hk:k=0:=by rw[pE,I8] at Hq;obtain⟨A,f,lJ,_⟩:=Hq;simp only[Value.slice.injEq] at lJ;exact lJ.2.1
    subst hk;exact .inr (.inl ⟨g,cap,us,y,I8,pE,by simpa using S4,hB,hg,Zk,hm⟩)
 rcases IB with⟨Av,IS,hne,D,S5,rfl,rfl⟩|⟨D,rfl,rfl⟩
 .obtain⟨d,news,Pf,Kd,Ø,qH⟩:=wC (w:=w) IN hr.DL pB IS;have lN:d=Av:=by
   cases d with
   |nil=>simp[Dm] at Pf
   |cons q d=>
    simp only[Dm] at Pf;split at Pf;.cases Pf;rfl
    .cases Pf
  subst lN;have jv:=AX.mono Es _ _ Ø;have JH:Src C.P i.size t' (a.eval x) d.length news w:=by rw[Qo];exact Kd
  have Qp:news.length=d.length*(n+1):=Kd.newsLen;have Iq:d.flatten.length=news.length:=by rw[Ø.length]
  have hpos:0<d.length:=Em.2 hne;have OS:d.length<=AJ:=Bn (Ii _ (CS b)) S5;have ID:∀(base:Option Addr) (cap:Nat),a.eval s= .slice base 0 cap->(Builtin.firstCells i.size 0 (.slice base 0 cap)).run C.P w.drew= .ok #[] w.drew->cap<d.length->
    Fu C γ0 w0 o a w ((U.Dr (C3 U s)).put o.dst (.val (.CT h.length 0 d.length (n+1)))) (h++[.cells d.flatten]):=by
   intro base cap hs l hlt;have FN:=run_append_grow_src (P:=C.P) w t t' o.type e i z ht hi hz base 0 cap [] l (a.eval x) d.length news JH Ac (by simp only[AJ] at OS;omega) (by rw[Ĩ,BB];exact growslice_fits hlt S5);rw[<-hs,BB] at FN;have GS:=grownCap_ge w d.length cap e;have T6:(([]++news).toArray++Builtin.zeroCells z.cells (grownCap w d.length cap e-d.length)).toList.take d.flatten.length=news:=by simp only[GA,BR];rw[Iq];exact EE
   have kb:(([]++news).toArray++Builtin.zeroCells z.cells (grownCap w d.length cap e-d.length)).size=grownCap w d.length cap e*(n+1):=by simp only[Jt,BU,size_zeroCells,bC,Qo,BR,Qp,<-BC];congr 1;omega
   obtain⟨E,lH,Ww,Lu,UM⟩:=Jv.drew.newObj (([]++news).toArray++Builtin.zeroCells z.cells (grownCap w d.length cap e-d.length)) e (0,0) d.flatten (.inl rfl) (by rw[T6];exact jv) (by rw[T6];exact Kd.one);exact Fu.value (Ml _ _ FN) (Lu.put λ_ _=>⟨w.heap.size,_,Ww,rfl,GS,⟨CS n,grownCap_le_maxLen w _ _ _ (by simp only[AJ] at OS;simp only[maxLen];omega)⟩,by rw[BB,<-kb];exact UM⟩)
  rcases wE with⟨I8,rfl⟩|⟨g,cap,us,y,I8,rfl,S4,hB,hg,Zk,xk⟩|⟨g,I8,rfl⟩
  rotate_left 2;.exact ID (some ⟨g,0,none⟩) 0 I8 (by simpa using run_firstCells_some (P:=C.P) w.drew i.size 0 ⟨g,0,none⟩ 0 0 [] Ax Ax) hpos
  .exact ID none 0 I8 (run_firstCells_none _ _ _ _ _) hpos
  .by_cases hroom:d.length<=cap
   .have hfit:news.length<=us.size:=by rw[Qp,Zk];exact D1 _ hroom
    have AH:=run_append_room_src (P:=C.P) w t t' o.type e i ht hi g 0 0 cap (a.eval x) d.length news JH Ac (λj hj=>by rw[cell_of_row w _ _ us y (0,0) hg,Qo,CH Ac];rfl) (λj hj=>frozen_of_row w _ _ us y hg)
    rw[Me,BB,BB,Ex news 0 us w hg Ac,<-I8] at AH;have T6:((us.toList.take 0++news++us.toList.drop (0+news.length)).toArray).toList.take d.flatten.length=news:=by simp only[Ih,BR];rw[Iq];exact EE
    obtain⟨E,lH,Ww,Lu,UM⟩:=Jv.aBV S4 hB hg (us.toList.take 0++news++us.toList.drop (0+news.length)).toArray d.flatten (by rw[T6];exact jv) (by rw[T6];exact Kd.one);exact Fu.value (Ml _ _ AH) (Lu.put λ_ _=>⟨g,cap,Ww,rfl,hroom,⟨CS n,xk⟩,by rw[UM,BB,<-Zk];simp;omega⟩)
   .exact ID (some ⟨g,0,none⟩) cap I8 (by simpa using run_firstCells_some (P:=C.P) w.drew i.size 0 ⟨g,0,none⟩ 0 cap [] Ax Ax) Ac
 .have Kd:Src C.P i.size t' (a.eval x) 0 [] w:=by
   rcases D with rfl|⟨B,rfl⟩|⟨B,rfl⟩
   .rw[show a.eval x=_ from pB];exact⟨IN,λ_=>rfl,run_firstCells_none w _ 0 0 0,run_firstCells_none w.drew _ 0 0 0,Ax,Ax⟩
   .obtain⟨g0,lJ⟩:=pB;rw[lJ];exact⟨IN,λ_=>rfl,by simpa using run_firstCells_some (P:=C.P) w i.size 0 ⟨g0,0,none⟩ 0 0 [] Ax Ax,by simpa using run_firstCells_some (P:=C.P) w.drew i.size 0 ⟨g0,0,none⟩ 0 0 [] Ax Ax,Ax,Ax⟩
   .obtain⟨A,f,lJ,_⟩:=pB;rw[lJ];exact⟨IN,λ_=>rfl,by simpa using run_firstCells_some (P:=C.P) w i.size 0 A 0 f [] Ax Ax,by simpa using run_firstCells_some (P:=C.P) w.drew i.size 0 A 0 f [] Ax Ax,Ax,Ax⟩
  rcases wE with⟨I8,rfl⟩|⟨g,cap,us,y,I8,rfl,S4,hB,hg,Zk,xk⟩|⟨g,I8,rfl⟩
  rotate_left 2;.have AH:=run_append_room_src (P:=C.P) w t t' o.type e i ht hi g 0 0 0 (a.eval x) 0 [] Kd Ac Ax Ax;rw[<-I8] at AH;simp only[World.setCells] at AH;exact Fu.value (Ml _ _ AH) (Jv.put λ_ _=>Hq)
  .have AH:(Builtin.append_ #[t,t'] o.type #[a.eval s,a.eval x]).run C.P w= .ok (.slice none 0 0) w:=by rw[I8];have hl:=Kd.len;have Vc:=Kd.cells;rcases IN with⟨G,hk⟩|hk<;>simp[Builtin.append_,run_underlying ht,run_underlying hk,sizeOf,typeInfo,hi,hl,Vc]
   exact Fu.value (Ml _ _ AH) (Jv.put λ_ _=>rfl)
  .have AH:=run_append_room_src (P:=C.P) w t t' o.type e i ht hi g 0 0 cap (a.eval x) 0 [] Kd Ac Ax Ax;rw[<-I8] at AH;simp only[World.setCells] at AH;exact Fu.value (Ml _ _ AH) (Jv.put λ_ _=>Hq)
def CW.kill(hr:CW C γ0 w0 γ Z U h a w)(id:Nat):CW C γ0 w0 γ Z U (h.set id .Dw) a w:=by
 have key:∀{Ft:Nat} {x:EN},(h.set id .Dw)[Ft]?=some x->x≠ .Dw->h[Ft]?=some x:=λ{Ft x} hx hd=>by
  by_cases he:id=Ft
  .subst he;rw[aLr] at hx;simp only[BE] at hx;split at hx;.cases hx;exact absurd rfl hd
   .cases hx
  .rwa [Ap he] at hx
 exact⟨⟨hr.DL.HW,λFt y Ik hy=>hr.DL.Mj Ft y (key Ik hy) hy,λFt cs hc b hb=>hr.DL.cells Ft cs (key hc Ax) b hb,λFt es hc b hb=>hr.DL.map Ft es (key hc Ax) b hb,λFt b hb=>by simpa using hr.DL.mu Ft b hb,hr.DL.BI,hr.DL.sz⟩,hr.fr,hr.DE,hr.defers,hr.GN⟩
def CW.ke(hr:CW C γ0 w0 γ Z U h a w){id g:Nat}{cs:List Aa}(hcs:h[id]?=some (.cells cs))(hg:γ.mu id=some g){us:Array Value}{e:TypeId}{fr:Nat×Nat}(hw:w.heap[g]?=some (.cells us e fr))(UN:γ.sz g=some us.size)(Dq:Array Value)(GB:List Aa)(Zk:Dq.size=us.size)(vW:Tg fr Dq.size)
  (hv:AX γ GB (Dq.toList.take GB.length)) (h1:∀u∈Dq.toList.take GB.length,u.oneCell'=true):∃γ',γ.le γ'/\γ'.mu h.length=some g/\CW C γ0 w0 γ' Z U (h.set id .Dw++[.cells GB]) a (w.setRow g Dq)/\γ'.sz g=some us.size:=by
 obtain⟨f,p,S4⟩:=hr.DL.Mj id _ hcs Ax;rw[hg] at p;cases p;have xl:id<h.length:=hr.DL.mu _ _ hg;have c:γ.mu h.length=none:=by
  cases hc:γ.mu h.length with
  |none=>rfl
  |some y=>exact absurd (hr.DL.mu _ y hc) (Di _)
 have uniq:∀Ft x,h[Ft]?=some x->x≠ .Dw->γ.mu Ft=some g->Ft=id:=λFt x hx Ġ hm=>by obtain⟨b',p,q⟩:=hr.DL.Mj Ft x hx Ġ;rw[hm] at p;cases p;rw[S4] at q;cases q;rfl
 have Es:γ.le (γ.BO g h.length (some us.size)):=⟨λ_ _ _ hv=>hv,λFt b hm=>by
  have:Ft≠h.length:=λhe=>by rw[he,c] at hm;cases hm
  simp only[Gh.BO,Af this];exact hm,λb n hm=>by
  by_cases he:b=g;.subst he;rw[UN] at hm;cases hm;simp[Gh.BO]
  .simp only[Gh.BO,Af he];exact hm⟩
 have old:∀{Ft:Nat} {x:EN},(h.set id .Dw++[EN.cells GB])[Ft]?=some x->x≠ .Dw->Ft≠h.length->h[Ft]?=some x/\Ft≠id:=λ{Ft x} hx hd hne=>by
  have hlt:Ft<(h.set id .Dw).length:=by rw[Al] at hx;obtain⟨hl,_⟩:=hx;simp at hl⊢;omega
  rw[An hlt] at hx;by_cases he:id=Ft;.subst he;rw[AD (by simpa using hlt)] at hx;cases hx;exact absurd rfl hd
  .rw[Ap he] at hx;exact⟨hx,λh=>he h.symm⟩
 have aGH:Hw (γ.BO g h.length (some us.size)) (h.set id .Dw++[.cells GB]) (w.setRow g Dq):=by
  refine⟨λb o v hb=>?_,λFt y Ik hy=>?_,λFt RU hc b hb=>?_,λFt es hc b hb=>?_,λFt b hb=>?_,λb y hy=>?_,λb n hb=>?_⟩
  .obtain⟨p,q,r⟩:=hr.DL.HW b o v hb;have NT:b≠g:=λhe=>by subst he;rw[S4] at r;rcases r with r|⟨_,_,_,r,_⟩<;>cases r
   exact⟨by rw[CG (setRow_other w g b Dq NT)];exact p,q,by simp only[Gh.BO,Af NT];exact r⟩
  .by_cases he:Ft=h.length;.exact⟨g,by simp[Gh.BO,he],by simp[Gh.BO,he]⟩
   .obtain⟨zZ,hne⟩:=old Ik hy he;obtain⟨b,p,q⟩:=hr.DL.Mj Ft y zZ hy;have NT:b≠g:=λhx=>by subst hx;exact hne (uniq Ft y zZ hy p)
    exact⟨b,by simp only[Gh.BO,Af he];exact p,by simp only[Gh.BO,Af NT];exact q⟩
  .by_cases he:Ft=h.length;.subst he;simp[Gh.BO] at hb;subst hb;rw[Bw Ax] at hc;simp at hc;subst hc;exact⟨Dq,e,fr,setRow_heap w g us Dq e fr hw,vW,AX.mono Es _ _ hv,h1⟩
   .simp only[Gh.BO,Af he] at hb;obtain⟨KS,hne⟩:=old hc Ax he;have NT:b≠g:=λhx=>by subst hx;exact hne (uniq Ft _ KS Ax hb)
    obtain⟨pQ,d,jg,p,pf,q,r⟩:=hr.DL.cells Ft RU KS b hb;exact⟨pQ,d,jg,by rw[setRow_other w g b Dq NT];exact p,pf,AX.mono Es _ _ q,r⟩
  .by_cases he:Ft=h.length;.subst he;rw[Bw Ax] at hc;simp at hc
   .simp only[Gh.BO,Af he] at hb;obtain⟨KS,hne⟩:=old hc Ax he;have NT:b≠g:=λhx=>by subst hx;exact hne (uniq Ft _ KS Ax hb)
    obtain⟨DD,clock,p,q⟩:=hr.DL.map Ft es KS b hb;exact⟨DD,clock,by rw[setRow_other w g b Dq NT];exact p,q.mono Es⟩
  .by_cases he:Ft=h.length;.simp[he]
   .simp only[Gh.BO,Af he] at hb;have:=hr.DL.mu Ft b hb;simp;omega
  .by_cases NT:b=g;.subst NT;have:=hr.DL.BI _ _ S4;simpa[World.setRow] using this
   .simp only[Gh.BO,Af NT] at hy;have:=hr.DL.BI b y hy;simpa[World.setRow] using this
  .by_cases he:b=g;.subst he;simp only[Gh.BO,BE] at hb;cases hb;exact⟨⟨Dq,e,fr,setRow_heap w b us Dq e fr hw,Zk⟩,.inr ⟨h.length,by simp[Gh.BO]⟩⟩
   .simp only[Gh.BO,Af he] at hb⊢;obtain⟨p,r⟩:=hr.DL.sz b n hb;exact⟨by rw[setRow_other w g b Dq he];exact p,r⟩
 refine⟨_,Es,by simp[Gh.BO],hr.IA aGH ⟨Es,by simp[World.setRow],rfl,rfl,rfl,λb hb hn=>?_⟩,by simp[Gh.BO]⟩;have NT:b≠g:=λhe=>by subst he;exact hn id S4
 exact⟨setRow_other w g b Dq NT,by simp only[Gh.BO,Af NT]⟩
def kg{o:Oper}{c:Call}{t t' e:TypeId}{n b:Nat}{s x:Operand}{v u r:Aa}{h':Ai}(ho:o.op= .call c)(hc:c.callee= .builtin .append)(h0:c.argTypes[0]?=some t)(h1:c.argTypes[1]?=some t')(Ey:c.args.toList=[s,x])(ht:C.P.underlying t=some (.slice e))
  (IN:(∃L,C.P.underlying t'=some (.slice L))\/C.P.underlying t'=some .string) (K8:BQ C.P e=some (n+1)) (ju:JB C.P e=some (b+1)) (kC:LP C.P e=true) (hv:Bq C U [s,x]=some [v,u])
  (hp:FN h (n+1) (b+1) v u=some (h',r)) (hr:CW C γ0 w0 γ Z U h a w):Fu C γ0 w0 o a w (U.put o.dst (.val r)) h':=by
 obtain⟨i,z,hi,hz,bC⟩:=KR kC;have Qo:=Jk K8 hi;have Ĩ:=Lv ju hi;obtain⟨_,_,e0,hvs,pB⟩:=EU hr hv;cases e0;have Kb:c.args.map a.eval=#[a.eval s,a.eval x]:=by apply Hi;simp[Ey]
 have Ml:∀v' w',(Builtin.append_ #[t,t'] o.type #[a.eval s,a.eval x]).run C.P w= .ok v' w'->(execOp a.eval o).run C.P w= .ok (.value v') w':=λv' w' AH=>by
  have:execOp a.eval o=(do pure (Next.value (<-Builtin.append_ #[t,t'] o.type #[a.eval s,a.eval x]))):=by rw[<-Kb,<-N2 (ty:=o.type) h0 h1];simp only[execOp,ho,resolve,hc];rfl
  rw[this];exact Dk AH
 unfold FN at hp;cases hq:GX h (n+1) u with
 |none=>rw[hq] at hp;cases hp
 |some Av=>
  rw[hq] at hp;obtain⟨news,Kd,Vb,qH⟩:=Wq (w:=w) IN hr.DL pB hq;have JH:Src C.P i.size t' (a.eval x) Av.length news w:=by rw[Qo];exact Kd
  have Qp:news.length=Av.length*(n+1):=Kd.newsLen;have Iq:Av.flatten.length=news.length:=by rw[Vb.length]
  cases Av with
  |nil=>
   have ji:news=[]:=Cy (by simpa using Qp);subst ji;cases v with
   |slnil=>
    cases hp;have I8:a.eval s= .slice none 0 0:=hvs;have AH:(Builtin.append_ #[t,t'] o.type #[a.eval s,a.eval x]).run C.P w= .ok (.slice none 0 0) w:=by rw[I8];have hl:=JH.len;have Vc:=JH.cells;simp only[Bk] at hl Vc;rcases IN with⟨L,hk⟩|hk<;>simp[Builtin.append_,run_underlying ht,run_underlying hk,sizeOf,typeInfo,hi,hl,Vc]
    exact Fu.value (Ml _ _ AH) (hr.put λ_ _=>rfl)
   |EI E=>
    simp only at hp;split at hp;.cases hp;obtain⟨g,I8⟩:=(show BH γ _ _ from hvs);have AH:=run_append_room_src (P:=C.P) w t t' o.type e i ht hi g 0 0 0 (a.eval x) 0 [] JH Ac Ax Ax;rw[<-I8] at AH;simp only[World.setCells,Bp] at AH;exact Fu.value (Ml _ _ AH) (hr.put λ_ _=>⟨g,I8⟩)
    .cases hp
   |CT id off k E=>
    simp only at hp;split at hp;.cases hp;obtain⟨g,cap,hg,I8,xc,fw,UN⟩:=(show BH γ _ _ from hvs);have AH:=run_append_room_src (P:=C.P) w t t' o.type e i ht hi g off k cap (a.eval x) 0 [] JH Ac Ax Ax;rw[<-I8] at AH;simp only[World.setCells,Bp] at AH;exact Fu.value (Ml _ _ AH) (hr.put λ_ _=>⟨g,cap,hg,rfl,xc,fw,UN⟩)
    .cases hp
   |_=>cases hp
  |cons M l=>
   generalize hR:M::l=Av at*;have hpos:0<Av.length:=by rw[<-hR];simp
   have d:∀(h2:Ai) (base:Option Addr) (k cap:Nat) (Tm:List Aa) (olds:List Value),CW C γ0 w0 γ Z U h2 a w->a.eval s= .slice base k cap->AX γ Tm olds->olds.length=k*(n+1)->(∀q∈olds,q.oneCell'=true)->
     (Builtin.firstCells i.size k (.slice base k cap)).run C.P w.drew= .ok olds.toArray w.drew->cap<k+Av.length->(k+Av.length)*(b+1)<=AJ->
     Fu C γ0 w0 o a w (U.put o.dst (.val (.CT h2.length 0 (k+Av.length) (n+1)))) (h2++[.cells (Tm++Av.flatten)]):=by
    intro h2 base k cap Tm olds Lu hs aBX jw Ĥ f hlt S5;have OS:k+Av.length<=AJ:=Bn (Ii _ (CS b)) S5;have FN:=run_append_grow_src (P:=C.P) w t t' o.type e i z ht hi hz base k cap olds f (a.eval x) Av.length news JH hlt (by simp only[AJ] at OS;omega) (by rw[Ĩ];exact growslice_fits hlt S5);rw[<-hs] at FN;have GS:=grownCap_ge w (k+Av.length) cap e;have zT:(olds++news).length=(k+Av.length)*(n+1):=by rw[Ao,jw,Qp,BC]
    have v8:(Tm++Av.flatten).length=(olds++news).length:=by rw[Ao,Ao,aBX.length,Iq]
    have kb:((olds++news).toArray++Builtin.zeroCells z.cells (grownCap w (k+Av.length) cap e-(k+Av.length))).size=grownCap w (k+Av.length) cap e*(n+1):=by simp only[Jt,BU,size_zeroCells,bC,Qo,zT,<-BC];congr 1;omega
    have T6:((olds++news).toArray++Builtin.zeroCells z.cells (grownCap w (k+Av.length) cap e-(k+Av.length))).toList.take (Tm++Av.flatten).length=olds++news:=by simp only[GA];rw[v8];exact EE
    obtain⟨D,lH,Ww,H,UM⟩:=Lu.drew.newObj ((olds++news).toArray++Builtin.zeroCells z.cells (grownCap w (k+Av.length) cap e-(k+Av.length))) e (0,0) (Tm++Av.flatten) (.inl rfl) (by rw[T6];exact aBX.append Vb) (by rw[T6];intro q hq;exact(Aq.1 hq).elim (Ĥ q) (Kd.one q))
    exact Fu.value (Ml _ _ FN) (H.put λ_ _=>⟨w.heap.size,_,Ww,rfl,GS,⟨CS n,grownCap_le_maxLen w _ _ _ (by simp only[AJ] at OS;simp only[maxLen];omega)⟩,by rw[BB,<-kb];exact UM⟩)
   cases v with
   |slnil=>
    have I8:a.eval s= .slice none 0 0:=hvs;rw[<-hR] at hp;simp only at hp;rw[hR] at hp;split at hp;.rename_i S5;cases hp;have:=d h none 0 0 [] [] hr I8 rfl Ax Ax (run_firstCells_none _ _ _ _ _) Ac (by simpa using S5);simpa using this
    .cases hp
   |EI E=>
    obtain⟨g,I8⟩:=(show BH γ _ _ from hvs);rw[<-hR] at hp;simp only at hp;rw[hR] at hp;split at hp;.rename_i S5;cases hp;have:=d h (some ⟨g,0,none⟩) 0 0 [] [] hr I8 rfl Ax Ax (by simpa using run_firstCells_some (P:=C.P) w.drew i.size 0 ⟨g,0,none⟩ 0 0 [] Ax Ax) Ac (by simpa using S5.2);simpa using this
    .cases hp
   |CT id off k E=>
    rw[<-hR] at hp;simp only at hp;rw[hR] at hp;split at hp
    .rename_i cs hcs;split at hp
     .rename_i G;subst G;obtain⟨g,cap,hg,I8,xc,fw,UN⟩:=(show BH γ _ _ from hvs);obtain⟨us,K,fr,m,pf,B,A⟩:=hr.DL.cells id cs hcs g hg;obtain⟨⟨fu,Q,O,I,F⟩,_⟩:=hr.DL.sz g _ UN;rw[m] at I;cases I;have lG:cs.length<=us.size:=by have:=B.length;simp at this;omega
      have Ng:∀j,(⟨g,off,none⟩:Addr).add j=⟨g,off+j,none⟩:=λj=>by unfold Addr.add;split<;>simp_all
      have p:∀o,o<us.size->w.frozen? ⟨g,o,none⟩=false:=λo ho=>by
       simp only[World.frozen?,m];rcases pf with rfl|vW
       .simp
       .simp;omega
      have room:k+Av.length<=cap->(Builtin.append_ #[t,t'] o.type #[a.eval s,a.eval x]).run C.P w= .ok (.slice (some ⟨g,off,none⟩) (k+Av.length) cap) (w.setRow g (us.toList.take (off+k*(n+1))++news++us.toList.drop (off+k*(n+1)+news.length)).toArray)/\off+k*(n+1)+news.length<=us.size:=by
       intro hroom;have hfit:off+k*(n+1)+news.length<=us.size:=by rw[Qp,F,Rr,<-BC];exact Nat.add_le_add_left (D1 _ hroom) _
       have AH:=run_append_room_src (P:=C.P) w t t' o.type e i ht hi g off k cap (a.eval x) Av.length news JH hroom (λj hj=>by rw[cell_of_row w _ _ us K fr m,Qo,CH Ac];rfl) (λj hj=>by rw[Qo];exact p _ Ac)
       rw[Qo,Ex news _ us w m hfit,<-I8] at AH;exact⟨AH,hfit⟩
      have pA:(k+Av.length)*(n+1)=k*(n+1)+Av.length*(n+1):=BC _ _ _;split at hp
      .rename_i kF;cases hp;have hroom:k+Av.length<=cap:=by have N:(k+Av.length)*(n+1)<=cap*(n+1):=Ac;exact Nat.le_of_mul_le_mul_right N (CS n)
       obtain⟨AH,hfit⟩:=room hroom;have J:off+(k+Av.length)*(n+1)=off+k*(n+1)+news.length:=by rw[Qp,pA];omega
       have hcl:(cs.take (off+k*(n+1))++Av.flatten++cs.drop (off+(k+Av.length)*(n+1))).length=cs.length:=by rw[J,Ao,Ao,AB,Bi,Iq];omega
       have T6:((us.toList.take (off+k*(n+1))++news++us.toList.drop (off+k*(n+1)+news.length)).toArray).toList.take (cs.take (off+k*(n+1))++Av.flatten++cs.drop (off+(k+Av.length)*(n+1))).length=
         (us.toList.take cs.length).take (off+k*(n+1))++news++(us.toList.take cs.length).drop (off+k*(n+1)+news.length):=by
        rw[hcl];simp only[Kw];exact Mt (by simpa using lG) Ac rfl
       obtain⟨kG,Tn⟩:=Nb hr.DL hcs hg m (us.toList.take (off+k*(n+1))++news++us.toList.drop (off+k*(n+1)+news.length)).toArray (cs.take (off+k*(n+1))++Av.flatten++cs.drop (off+(k+Av.length)*(n+1)))
        (by simp only[BU,Ao,AB,Bi,B5];omega)
        (by
         rcases pf with rfl|pf
         .exact .inl rfl
         .refine .inr (Bn (Md ?_) pf);simp only[BU,Ao,AB,Bi,B5];omega)
        (by rw[T6,J];exact N0 B Vb)
        (by
         rw[T6];intro q hq;rcases Aq.1 hq with hq|hq
         .rcases Aq.1 hq with hq|hq
          .exact A q (A0 hq)
          .exact Kd.one q hq
         .exact A q (Bu hq))
       exact Fu.value (Ml _ _ AH) ((hr.IA kG Tn).put λ_ _=>⟨g,cap,hg,rfl,hroom,fw,UN⟩)
      .rename_i aLQ;split at hp
       .rename_i HC;obtain⟨rfl,Zq,S5⟩:=HC;cases hp;simp only[BB] at*;by_cases hroom:k+Av.length<=cap
        .obtain⟨AH,hfit⟩:=room hroom;have v8:(cs.take (k*(n+1))++Av.flatten).length=k*(n+1)+news.length:=by rw[Ao,AB,Iq];omega
         have T6:((us.toList.take (k*(n+1))++news++us.toList.drop (k*(n+1)+news.length)).toArray).toList.take (cs.take (k*(n+1))++Av.flatten).length=(us.toList.take cs.length).take (k*(n+1))++news:=by
          rw[v8];simp only[Kw];have:(us.toList.take (k*(n+1))++news).length=k*(n+1)+news.length:=by rw[Ao,AB,B5];omega
          rw[<-this,EE,F5,Cx Zq]
         obtain⟨D,lH,Ww,Lu,UM⟩:=hr.ke hcs hg m (by rw[UN,F]) (us.toList.take (k*(n+1))++news++us.toList.drop (k*(n+1)+news.length)).toArray (cs.take (k*(n+1))++Av.flatten)
          (by simp only[BU,Ao,AB,Bi,B5];omega)
          (by
           rcases pf with rfl|pf
           .exact .inl rfl
           .refine .inr (Bn (Md ?_) pf);simp only[BU,Ao,AB,Bi,B5];omega)
          (by rw[T6];exact(B.take _).append Vb)
          (by
           rw[T6];intro q hq;rcases Aq.1 hq with hq|hq
           .exact A q (A0 hq)
           .exact Kd.one q hq)
         exact Fu.value (Ml _ _ AH) (Lu.put λ_ _=>⟨g,cap,Ww,rfl,hroom,fw,by rw[UM,F];simp⟩)
        .have jw:((us.toList.take cs.length).take (k*(n+1))).length=k*(n+1):=Ek;have:=d (h.set id .Dw) (some ⟨g,0,none⟩) k cap (cs.take (k*(n+1))) ((us.toList.take cs.length).take (k*(n+1))) (hr.kill id) I8 (B.take _) jw (λq hq=>A q (A0 hq))
          (by
           rw[Qo];exact run_firstCells_some w.drew _ _ _ _ _ _ jw (λj y hj=>by
            rw[Ng];show w.cell? _=_;rw[cell_of_row w _ _ us K fr m];rw[Cg] at hj;split at hj
            .rw[Cg] at hj;split at hj;.simpa using hj
             .cases hj
            .cases hj)) Ac S5
         simpa using this
       .cases hp
     .cases hp
    .cases hp
   |_=>rw[<-hR] at hp;cases hp
def lO(hi:Hw γ h w){id g off:Nat}{cs b:List Aa}{news:List Value}(hcs:h[id]?=some (.cells cs))(hg:γ.mu id=some g)(hv:AX γ b news)(h1:∀u∈news,u.oneCell'=true)(hl:off+b.length<=cs.length):
  ∃w',(storeCells ⟨g,off,none⟩ news).run C.P w= .ok () w'/\Hw γ (h.set id (.cells (cs.take off++b++cs.drop (off+b.length)))) w'/\LR γ w γ w':=by
 obtain⟨us,e,fr,hw,pf,d,c⟩:=hi.cells id cs hcs g hg;have Qp:news.length=b.length:=hv.length;have hlt:cs.length<=us.size:=by have:=d.length;simp at this;omega
 have hs:=run_storeCells_cells (P:=C.P) g off news 0 w (λj hj=>by
  rw[cell_of_row w _ _ us e fr hw,Bp,CH Ac];rfl) (λj hj=>by
  simp only[World.frozen?,hw];rcases pf with rfl|vW
  .simp
  .simp;omega) h1
 rw[Bp,Ex _ off us w hw Ac] at hs;have hcl:(cs.take off++b++cs.drop (off+b.length)).length=cs.length:=Ek;have T6:((us.toList.take off++news++us.toList.drop (off+news.length)).toArray).toList.take (cs.take off++b++cs.drop (off+b.length)).length=(us.toList.take cs.length).take off++news++(us.toList.take cs.length).drop (off+news.length):=by rw[hcl];simp only[Kw];exact Mt (by simpa using hlt) Ac rfl
 obtain⟨kh,ha⟩:=Nb hi hcs hg hw (us.toList.take off++news++us.toList.drop (off+news.length)).toArray (cs.take off++b++cs.drop (off+b.length))
  (by simp only[BU,Ao,AB,Bi,B5];omega)
  (by
   rcases pf with rfl|pf
   .exact .inl rfl
   .refine .inr (Bn (Md ?_) pf);simp only[BU,Ao,AB,Bi,B5];omega)
  (by rw[T6,Qp];exact N0 d hv)
  (by
   rw[T6];intro q hq;rcases Aq.1 hq with hq|hq
   .rcases Aq.1 hq with hq|hq
    .exact c q (A0 hq)
    .exact h1 q hq
   .exact c q (Bu hq))
 exact⟨_,hs,kh,ha⟩
def qK{t t' ty:TypeId}{ts:Array TypeId}{xs:Array Value}(h0:ts[0]?=some t)(h1:ts[1]?=some t'):Builtin.copy_ ts ty xs=Builtin.copy_ #[t,t'] ty xs:=by simp only[Builtin.copy_,h0];rfl
def lP{P:Program}{t t' ty e:TypeId}{i:TypeInfo}(ht:P.underlying t=some (.slice e))(hi:P.info? e=some i){x:Value}{n:Nat}{news:List Value}(hs:Src P i.size t' x n news w){base:Option Addr}{k cap:Nat}(hk:n<=k)
  (IM:∀b,base=some b->(storeCells b news).run P w= .ok () w') (kE:base=none->w'=w):(Builtin.copy_ #[t,t'] ty #[.slice base k cap,x]).run P w= .ok (.int .i64 n) w':=by
 have hl:=hs.len w;have hc:=hs.cells;have hm:Nat.min n k=n:=Cx hk;cases base with
 |none=>cases kE rfl;simp[Builtin.copy_,run_underlying ht,hl,hc,sizeOf,typeInfo,hi,hm,goInt]
 |some b=>have h2:=IM b rfl;simp[Builtin.copy_,run_underlying ht,hl,hc,sizeOf,typeInfo,hi,hm,goInt,h2]
def ki{o:Oper}{c:Call}{t t' e:TypeId}{n:Nat}{s x:Operand}{v u r:Aa}{h':Ai}(ho:o.op= .call c)(hc:c.callee= .builtin .copy)(h0:c.argTypes[0]?=some t)(h1:c.argTypes[1]?=some t')(Ey:c.args.toList=[s,x])(ht:C.P.underlying t=some (.slice e))
  (IN:(∃d,C.P.underlying t'=some (.slice d))\/C.P.underlying t'=some .string) (K8:BQ C.P e=some (n+1)) (hv:Bq C U [s,x]=some [v,u])
  (hp:gy h (n+1) v u=some (h',r)) (hr:CW C γ0 w0 γ Z U h a w):Fu C γ0 w0 o a w (U.put o.dst (.val r)) h':=by
 obtain⟨_,_,e0,hvs,pB⟩:=EU hr hv;cases e0;have Kb:c.args.map a.eval=#[a.eval s,a.eval x]:=by apply Hi;simp[Ey]
 have Ml:∀v' w',(Builtin.copy_ #[t,t'] o.type #[a.eval s,a.eval x]).run C.P w= .ok v' w'->(execOp a.eval o).run C.P w= .ok (.value v') w':=λv' w' AH=>by
  have:execOp a.eval o=(do pure (Next.value (<-Builtin.copy_ #[t,t'] o.type #[a.eval s,a.eval x]))):=by rw[<-Kb,<-qK (ty:=o.type) h0 h1];simp only[execOp,ho,resolve,hc];rfl
  rw[this];exact Dk AH
 cases hi:C.P.info? e with
 |none=>simp[BQ,hi] at K8
 |some i=>
 have Qo:=Jk K8 hi;unfold gy at hp;cases hq:GX h (n+1) u with
 |none=>rw[hq] at hp;cases hp
 |some Av=>
  rw[hq] at hp;obtain⟨news,Kd,Vb,qH⟩:=Wq (w:=w) IN hr.DL pB hq;have JH:Src C.P i.size t' (a.eval x) Av.length news w:=by rw[Qo];exact Kd
  have Qp:news.length=Av.length*(n+1):=Kd.newsLen;have Iq:Av.flatten.length=news.length:=by rw[Vb.length]
  simp only at hp;split at hp
  .split at hp;.rename_i aa;cases hp;have I8:a.eval s= .slice none 0 0:=hvs;have AH:=lP (t:=t) (ty:=o.type) (w:=w) (w':=w) ht hi JH (base:=none) (k:=0) (cap:=0) Ac (λ_ e=>by cases e) (λ_=>rfl);rw[<-I8] at AH;rw[aa] at AH;exact Fu.value (Ml _ _ AH) (hr.put λ_ _=>rfl)
   .cases hp
  .rename_i id off k z;split at hp
   .rename_i cs hcs;split at hp;.rename_i HC;obtain⟨rfl,b,hlen⟩:=HC;cases hp;obtain⟨g,cap,hg,I8,xc,fw,UN⟩:=(show BH γ _ _ from hvs);have hm:=D1 (n+1) b;obtain⟨w',IM,kh,ģ⟩:=lO (C:=C) (off:=off) hr.DL hcs hg Vb Kd.one Ac;have AH:=lP (t:=t) (ty:=o.type) (w:=w) (w':=w') ht hi JH (base:=some ⟨g,off,none⟩) (k:=k) (cap:=cap) b (λ_ e=>by cases e;exact IM) (λe=>by cases e);rw[<-I8] at AH;rw[show Av.length*(n+1)=Av.flatten.length by rw[Iq,Qp]];exact Fu.value (Ml _ _ AH) ((hr.IA kh ģ).put λ_ _=>rfl)
    .cases hp
   .cases hp
  .cases hp
def lQ{t ty:TypeId}{ts:Array TypeId}{xs:Array Value}(h0:ts[0]?=some t):Builtin.clear_ ts ty xs=Builtin.clear_ #[t] ty xs:=by simp only[Builtin.clear_,h0];rfl
def ae{o:Oper}{c:Call}{t e:TypeId}{n:Nat}{s:Operand}{v z r:Aa}{h':Ai}(ho:o.op= .call c)(hc:c.callee= .builtin .clear)(h0:c.argTypes[0]?=some t)(Ey:c.args.toList=[s])(ht:C.P.underlying t=some (.slice e))
  (K8:BQ C.P e=some (n+1)) (hz:GC C.P e=some z) (hv:Bq C U [s]=some [v]) (hp:VX h (n+1) z.cells v=some (h',r)) (hr:CW C γ0 w0 γ Z U h a w):Fu C γ0 w0 o a w (U.put o.dst .undef) h':=by
 obtain⟨_,e0,hvs⟩:=Gm hr hv;cases e0;have Kb:c.args.map a.eval=#[a.eval s]:=by apply Hi;simp[Ey]
 have Ml:∀v' w',(Builtin.clear_ #[t] o.type #[a.eval s]).run C.P w= .ok v' w'->(execOp a.eval o).run C.P w= .ok (.value v') w':=λv' w' AH=>by
  have:execOp a.eval o=(do pure (Next.value (<-Builtin.clear_ #[t] o.type #[a.eval s]))):=by rw[<-Kb,<-lQ (ty:=o.type) h0];simp only[execOp,ho,resolve,hc];rfl
  rw[this];exact Dk AH
 unfold VX at hp;split at hp
 .cases hp;have I8:a.eval s= .slice none 0 0:=hvs;have AH:(Builtin.clear_ #[t] o.type #[a.eval s]).run C.P w= .ok (.tuple #[]) w:=by rw[I8];simp[Builtin.clear_,run_underlying ht]
  exact Fu.value (Ml _ _ AH) (hr.put λ_ _=>trivial)
 .rename_i id off k A;split at hp
  .rename_i cs hcs;split at hp
   .rename_i HC;obtain⟨rfl,f,hlen⟩:=HC;cases hp;obtain⟨g,cap,hg,I8,xc,fw,UN⟩:=(show BH γ _ _ from hvs);obtain⟨d,fx,Ĭ⟩:=HK hz;obtain⟨m,p⟩:=GZ (γ:=γ) (E9 fx) Ac;have bC:d.cells.size=n+1:=by have:=m.length;simp at this;omega
    have Iq:(List.replicate k z.cells).flatten.length=k*(n+1):=by rw[Hb (z:=n+1) (λr hr=>by rw[Ç hr,f]),Hk]
    have i:∀(j:Nat) (u:Value),(Builtin.zeroCells d.cells k).toList[j]?=some u->j<k*(n+1)/\d.cells.toList[j%(n+1)]?=some u:=by
     intro j u hj;have pD:j<k*(n+1):=by have:=(Al.1 hj).1;simpa[size_zeroCells,bC] using this
     refine⟨pD,?_⟩;have ĩ:j%(n+1)<d.cells.size:=by rw[bC];exact Nat.mod_lt _ (CS n)
     simp only[Builtin.zeroCells,M5,CA] at hj;have b:(Array.range (k*d.cells.size)).toList[j]?=some j:=by simp[bC,pD]
     rw[b] at hj;simp only[BJ,Bx] at hj;rw[bC] at hj;rw[<-hj];simp[ĩ]
    have q:AX γ (List.replicate k z.cells).flatten (Builtin.zeroCells d.cells k).toList:=by refine AX.GD (by simp only[B5,size_zeroCells,bC,Iq]) λj x u hx hu=>?_;obtain⟨pD,l⟩:=i j u hu;rw[HO z.cells _ _ (by rw[f];exact pD),f] at hx;obtain⟨B,zI,ĥ⟩:=m.get hx;rw[l] at zI;cases zI;exact ĥ
    obtain⟨w',IM,kh,ģ⟩:=lO (C:=C) (off:=off) hr.DL hcs hg q (λu hu=>by obtain⟨j,hj⟩:=CF hu;exact p u (Cr (i j u hj).2)) Ac
    have AH:(Builtin.clear_ #[t] o.type #[a.eval s]).run C.P w= .ok (.tuple #[]) w':=by
     rw[I8];cases k with
     |zero=>
      have y:(Builtin.zeroCells d.cells 0).toList=[]:=by simp[Builtin.zeroCells]
      rw[y] at IM;have:w'=w:=by have h2:(storeCells ⟨g,off,none⟩ []).run C.P w= .ok () w:=rfl;rw[h2] at IM;cases IM;rfl
      rw[this];simp[Builtin.clear_,run_underlying ht]
     |succ k=>simp[Builtin.clear_,run_underlying ht,Ĭ,IM]
    rw[show k*(n+1)=(List.replicate k z.cells).flatten.length from Iq.symm];exact Fu.value (Ml _ _ AH) ((hr.IA kh ģ).put λ_ _=>trivial)
   .cases hp
  .cases hp
 .cases hp
def kj{o:Oper}{t e:TypeId}{n:Nat}{x:Operand}{lo hi:Option Operand}{v r:Aa}{as:List Aa}{h':Ai}(ho:o.op= .slice t x lo hi none)(ht:C.P.underlying t=some (.slice e))(K8:BQ C.P e=some (n+1))
  (hv:Bq C U (x::(lo.toList++hi.toList))=some (v::as)) (hp:kP h (n+1) lo.isSome hi.isSome v as=some (h',r)) (hr:CW C γ0 w0 γ Z U h a w):Fu C γ0 w0 o a w (U.put o.dst (.val r)) h':=by
 have qJ:=DF hr hv;obtain⟨u,us,c,hx,kq⟩:=qJ;simp only[A9,EJ] at c;obtain⟨rfl,rfl⟩:=c;unfold kP at hp;split at hp
 .rename_i id off k z;split at hp
  .rename_i cs hcs;split at hp
   .rename_i HC;obtain⟨rfl,b,aBS⟩:=HC;obtain⟨g,cap,hg,I8,xc,fw,UN⟩:=(show BH γ _ _ from hx);cases hb:Dx lo.isSome hi.isSome ((cs.length-off)/(n+1)) as with
    |none=>rw[hb] at hp;cases hp
    |some m=>
     obtain⟨l,q⟩:=m;rw[hb] at hp;simp only[Cd] at hp;split at hp
     .rename_i hlt;cases hp;obtain⟨us,c,fr,j,pf,i,E⟩:=hr.DL.cells id cs hcs g hg;obtain⟨⟨fu,B,s,d,D⟩,_⟩:=hr.DL.sz g _ UN;rw[j] at d;cases d;have lG:cs.length<=us.size:=by have:=i.length;simp at this;omega
      have aGJ:(cs.length-off)/(n+1)<=cap:=by refine Nat.div_le_of_le_mul ?_;rw[Nat.mul_comm];omega
      have f:∀y:Option Operand,(y.map a.eval).isSome=y.isSome:=λy=>by cases y<;>rfl
      have A:(lo.map a.eval).toList++(hi.map a.eval).toList=(lo.toList++hi.toList).map a.eval:=by cases lo<;>cases hi<;>rfl
      rw[<-f lo,<-f hi] at hb;obtain⟨p,G,F⟩:=Km (P:=C.P) (w:=w) (isSlice:=true) hb (by rw[A];exact kq) aGJ;have Nc:Instr.sliceBounds true k cap (lo.map a.eval) (hi.map a.eval) none=Instr.sliceBounds true ((cs.length-off)/(n+1)) cap (lo.map a.eval) (hi.map a.eval) none:=by
       cases hi with
       |none=>cases b
       |some y=>rfl
      have IN:C.P.underlying t=some (.slice (C.P.elem t)):=by simp[Program.elem,ht]
      have he:C.P.elem t=e:=by simp[Program.elem,ht]
      have AH:(Instr.sliceAt t (a.eval x) (lo.map a.eval) (hi.map a.eval) none).run C.P w= .ok (.slice (some ⟨g,off+l*(n+1),none⟩) (q-l) (cap-l)) w:=by rw[I8,run_sliceAt_slice w t _ _ _ _ IN,run_slice_any w t _ _ _ IN,Nc,p,he,Result.andThen_ok,Du K8];show Result.ok (Value.slice (if cap=l then some ⟨g,off,none⟩ else Option.map (λq:Addr=>q.add (l*(n+1))) (some ⟨g,off,none⟩)) (q-l) (cap-l)) w=_;rw[Af Ac];simp only[BJ];unfold Addr.add;split<;>simp_all
      refine Fu.value (by simp only[execOp,ho];exact Dk AH) (hr.put λ_ _=>⟨g,cap-l,hg,rfl,Ac,⟨fw.1,Bn (Nat.sub_le _ _) fw.2⟩,?_⟩);rw[UN,Rr,<-BC,aGl Ac]
     .cases hp
   .cases hp
  .cases hp
 .cases hp
def ku{o:Oper}{t e:TypeId}{n:Nat}{x lo hi mx:Operand}{args:List Aa}(ho:o.op= .slice t x (some lo) (some hi) (some mx))(ht:C.P.underlying t=some (.slice e))(K8:BQ C.P e=some (n+1))
  (hv:Bq C U [x,lo,hi,mx]=some args) (hp:VY (n+1) args=true) (hr:CW C γ0 w0 γ Z U h a w):Fu C γ0 w0 o a w (U.put o.dst .undef) h:=by
 have qJ:=DF hr hv;have IN:C.P.underlying t=some (.slice (C.P.elem t)):=by simp[Program.elem,ht]
 have he:C.P.elem t=e:=by simp[Program.elem,ht]
 have IE:∀(base:Option Addr) (len cap:Nat) (kl kr f:IntKind) (l r m:Int),a.eval x= .slice base len cap->a.eval lo= .int kl l->a.eval hi= .int kr r->a.eval mx= .int f m->0<=l->l<=r->r<=m->m<=cap->Fu C γ0 w0 o a w (U.put o.dst .undef) h:=by
  intro base len cap kl kr f l r m A z y u h1 h2 d i;have AH:∃v,(Instr.sliceAt t (a.eval x) (some (a.eval lo)) (some (a.eval hi)) (some (a.eval mx))).run C.P w= .ok v w:=by
   have c:0<=m:=Ac;have b:0<=r:=Ac;have b1:∀code,(Instr.sliceBound (.int f m) cap code).run C.P w= .ok m.toNat w:=λcode=>by simp[Instr.sliceBound,asIntOf,c,i]
   have b2:∀code,(Instr.sliceBound (.int kr r) m.toNat code).run C.P w= .ok r.toNat w:=λcode=>by simp[Instr.sliceBound,asIntOf,b,HX c,d]
   have b3:∀code,(Instr.sliceBound (.int kl l) r.toNat code).run C.P w= .ok l.toNat w:=λcode=>by simp[Instr.sliceBound,asIntOf,h1,HX b,h2]
   rw[A,z,y,u];simp[Instr.sliceAt,Instr.slice,run_underlying ht,Instr.sliceBounds,b1,b2,b3,Du K8]
  obtain⟨v,AH⟩:=AH;exact Fu.value (by simp only[execOp,ho];exact Dk AH) (hr.put λ_ _=>trivial)
 unfold VY at hp;split at hp
 .rename_i s _ l _ r _ m;obtain⟨F,q,f1,g1,E,pQ,f2,g2,D,p,f3,g3,B,k,f4,j,f5⟩:=qJ;subst f5;simp only[A9,Dc] at f1;subst f4;subst f3;subst f2;simp only[EJ,J7] at f1;obtain⟨rfl,rfl,rfl,rfl⟩:=f1;split at hp;.simp only[A7,Co] at hp;obtain⟨⟨⟨⟨_,h1⟩,h2⟩,d⟩,i⟩:=hp;obtain⟨g,cap,hg,I8,xc,_⟩:=(show BH γ _ _ from g1);exact IE _ _ _ _ _ _ _ _ _ I8 (Eh g2) (Eh g3) (Eh j) h1 h2 d Ac
  .simp only[A7,Co] at hp;obtain⟨⟨⟨⟨_,h1⟩,h2⟩,d⟩,i⟩:=hp;obtain⟨G,cap,I8,xc,_⟩:=(show BH γ _ _ from g1);exact IE _ _ _ _ _ _ _ _ _ I8 (Eh g2) (Eh g3) (Eh j) h1 h2 d Ac
  .cases hp
 .cases hp
def kx{o:Oper}{t:TypeId}{x:Operand}{v:Aa}{u:TypeDesc}(ho:o.op= .makeInterface t x)(ht:C.P.underlying t=some u)(hn:∀i,u≠ .interface i)(hv:Bq C U [x]=some [v])(hr:CW C γ0 w0 γ Z U h a w):Fu C γ0 w0 o a w (U.put o.dst (.val (.iface t v))) h:=by
 obtain⟨_,e0,hvs⟩:=Gm hr hv;cases e0;have AH:(Instr.makeInterface t (a.eval x)).run C.P w= .ok (.iface t (a.eval x)) w:=by cases u<;>simp_all [Instr.makeInterface,run_underlying ht]
 exact Fu.value (by simp only[execOp,ho];exact Dk AH) (hr.put λ_ _=>⟨_,rfl,hvs⟩)
def P1{n:Int}:∀{es:List (Aa×Aa)} {l:List MapEntry} {i:Nat} {r:Option (Nat×Aa)},KO γ es l->H0 n es i=some r->
  match r with
  |none=>Instr.findNow (.int .i64) (.int .i64 n) l i=some none
  |some (j,v)=>∃(e:MapEntry),Instr.findNow (.int .i64) (.int .i64 n) l i=some (some (j,e.val))/\BH γ v e.val/\i<=j/\l[j-i]?=some e/\e.key= .int .i64 n
 |[],l,i,r,b,hf=>by rw[show l=[] from b];cases hf;rfl
 |(k,v)::es,l,i,r,b,hf=>by
  obtain⟨e,l',rfl,h1,h2,m⟩:=b;cases k with
  |int q t=>
   by_cases hq:q= .i64
   .subst hq;simp only[H0] at hf;have hk:e.key= .int .i64 t:=h1;split at hf;.rename_i IM;subst IM;cases hf;exact⟨e,by simp[Instr.findNow,hk,Instr.sameNow],h2,Ab _,Ax,hk⟩
    .rename_i IM;have aBY:(n==t)=false:=by simpa using IM
     have ih:=P1 (i:=i+1) m hf;cases r with
     |none=>simpa[Instr.findNow,hk,Instr.sameNow,aBY] using ih
     |some p=>obtain⟨j,v2⟩:=p;obtain⟨o,g,f,s,d,c⟩:=ih;refine⟨o,by simpa[Instr.findNow,hk,Instr.sameNow,aBY] using g,f,Ac,?_,c⟩;rw[(Ac:j-i=(j-(i+1))+1),SX];exact d
   .exfalso;cases q<;>first|exact hq rfl|(simp[H0] at hf)
  |_=>simp[H0] at hf
def ky{o:Oper}{t kt e:TypeId}{m k:Operand}{f g z r:Aa}{ok:Bool}{h':Ai}(ho:o.op= .lookup t m k ok)(ht:C.P.underlying t=some (.map kt e))(hk:C.P.underlying kt=some (.int .i64))(hz:GC C.P e=some z)(ha:Bq C U [m,k]=some [f,g])(hm:kQ h z ok f g=some (h',r))(hr:CW C γ0 w0 γ Z U h a w):
  Fu C γ0 w0 o a w (U.put o.dst (.val r)) h':=by
 obtain⟨_,_,e0,h1,h2⟩:=EU hr ha;cases e0;obtain⟨d,fx,Ĭ⟩:=HK hz;have IE:∀(es:Array MapEntry) (q:Option (Nat×Aa)),(Instr.lookup t (a.eval m) (a.eval k) ok).run C.P w=(KD kt e (a.eval k) ok es).run C.P w->
   ∀n,a.eval k= .int .i64 n->(match q with|none=>Instr.findNow (.int .i64) (.int .i64 n) es.toList 0=some none|some (j,v)=>∃(e:MapEntry),Instr.findNow (.int .i64) (.int .i64 n) es.toList 0=some (some (j,e.val))/\BH γ v e.val/\0<=j/\es.toList[j-0]?=some e/\e.key= .int .i64 n)->
   S9 z ok q=r->Fu C γ0 w0 o a w (U.put o.dst (.val r)) h:=by
  intro es q RT n xj hq T4;have zX:(Instr.checkKey es.isEmpty 10000 kt (.int .i64 n)).run C.P w= .ok () w:=MapKept.run_checkKey (k:= .int .i64 n) hk (by simp[MapKept.IsKey]) es.isEmpty 9999;have AH:∃v,(Instr.lookup t (a.eval m) (a.eval k) ok).run C.P w= .ok v w/\BH γ r v:=by
   cases q with
   |none=>
    refine⟨if ok then .tuple #[d,.bool false] else d,?_,?_⟩;.rw[RT,xj];unfold KD;simp only[Sem.run_bind,Result.andThen_ok,zX,MapKept.run_findKey hk hq,Ĭ,Sem.run_bind,Sem.run_pure]
    .rw[<-T4];have c:=E9 (γ:=γ) fx;cases ok with
     |true=>exact⟨_,rfl,_,_,rfl,c,_,_,rfl,rfl,rfl⟩
     |false=>exact c
   |some p=>
    obtain⟨j,v⟩:=p;obtain⟨en,s,l,_⟩:=hq;refine⟨if ok then .tuple #[en.val,.bool true] else en.val,?_,?_⟩;.rw[RT,xj];unfold KD;simp only[Sem.run_bind,Result.andThen_ok,zX,MapKept.run_findKey hk s,Sem.run_bind,Sem.run_pure]
    .rw[<-T4];cases ok with
     |true=>exact⟨_,rfl,_,_,rfl,l,_,_,rfl,rfl,rfl⟩
     |false=>exact l
  obtain⟨v,AH,wB⟩:=AH;exact Fu.value (by simp only[execOp,ho];exact Dk AH) (hr.put λ_ _=>wB)
 unfold kQ at hm;split at hm;.rename_i n;cases hm;exact IE #[] none (by rw[show a.eval m=_ from h1];simp only[Instr.lookup,KD,Sem.run_bind,run_underlying ht,Result.andThen_ok,Sem.run_pure];rfl) n h2 rfl rfl
 .rename_i id n;obtain⟨b,hb,zW⟩:=h1;split at hm
  .rename_i es RT;obtain⟨DD,clock,hw,u,_⟩:=hr.DL.map id es RT b hb;cases hf:H0 n es 0 with
   |none=>rw[hf] at hm;cases hm
   |some q=>
    rw[hf] at hm;simp only[BJ,Bx,M8] at hm;obtain⟨rfl,hm⟩:=hm;refine IE DD q (by rw[zW];simp only[Instr.lookup,KD,Sem.run_bind,run_underlying ht,MapKept.run_getObj_map hw,Result.andThen_ok,Sem.run_pure];rfl) n h2 ?_ ?_
    .have:=P1 (i:=0) u hf;cases q with
     |none=>exact this
     |some p=>exact this
    .exact hm
  .cases hm
 .cases hm
def KO.lR{k v:Aa}{e:MapEntry}(hk:BH γ k e.key)(hv:BH γ v e.val):∀{es:List (Aa×Aa)} {l:List MapEntry},KO γ es l->KO γ (es++[(k,v)]) (l++[e])
 |[],l,b=>by rw[show l=[] from b];exact⟨e,[],rfl,hk,hv,rfl⟩
 |(k',v')::es,l,b=>by obtain⟨d,l',rfl,h1,h2,c⟩:=b;exact⟨d,_,rfl,h1,h2,KO.lR hk hv c⟩
def KO.length:∀{es:List (Aa×Aa)} {l:List MapEntry},KO γ es l->l.length=es.length
 |[],l,b=>by rw[show l=[] from b];rfl
 |(k',v')::es,l,b=>by obtain⟨d,l',rfl,h1,h2,c⟩:=b;simp[KO.length c]
def KO.modify{v:Aa}{u:Value}(hv:BH γ v u):∀{es:List (Aa×Aa)} {l:List MapEntry} {j:Nat} {k v0:Aa},KO γ es l->es[j]?=some (k,v0)->KO γ (es.set j (k,v)) (l.modify j λe=>{e with val:=u})
 |[],l,j,k,v0,b,hj=>by simp at hj
 |(k',v')::es,l,j,k,v0,b,hj=>by
  obtain⟨d,l',rfl,h1,h2,c⟩:=b;cases j with
  |zero=>cases hj;exact⟨{d with val:=u},l',Ax,h1,hv,c⟩
  |succ j=>exact⟨d,l'.modify j _,Ax,h1,h2,KO.modify hv c (by simpa using hj)⟩
def lS{es:Array MapEntry}{j:Nat}{e:MapEntry}{k:Value}(hj:es[j]?=some e)(hk:e.key=k):(es.modify j λe=>{e with key:=k})=es:=by
 apply PQ;intro i;rw[ML];split;.rename_i hi;subst hi;rw[hj];simp[<-hk]
 .rfl
def Wx{o:Oper}{t kt e:TypeId}{m k:Operand}{kA z r:Aa}{kV:Value}{d:TypeDesc}{h':Ai}{id:Nat}{es:List (Aa×Aa)}{f:Option (Option (Nat×Aa))}(ho:o.op= .mapEntry t m k)(ht:C.P.underlying t=some (.map kt e))(hk:C.P.underlying kt=some d)(g:MapKept.IsKey d kV)(hz:GC C.P e=some z)
  (h1:BH γ (.map (some id)) (a.eval m)) (ī:a.eval k=kV) (n:BH γ kA kV) (RT:h[id]?=some (.map es))
  (hq:∀(l:List MapEntry) q,KO γ es l->f=some q->match q with
   |none=>Instr.findNow d kV l 0=some none
   |some (j,v)=>∃(e:MapEntry),Instr.findNow d kV l 0=some (some (j,e.val))/\BH γ v e.val/\0<=j/\l[j-0]?=some e/\e.key=kV)
  (hm:(f.map λr=>match r with
   |some (i,v)=>(h,Aa.tuple [v,.int .i64 i])
   |none=>(h.set id (.map (es++[(kA,z)])),.tuple [z,.int .i64 es.length]))=some (h',r)) (hr:CW C γ0 w0 γ Z U h a w):
  Fu C γ0 w0 o a w (U.put o.dst (.val r)) h':=by
 obtain⟨c,fx,Ĭ⟩:=HK hz;obtain⟨b,hb,zW⟩:=h1;obtain⟨DD,clock,hw,s,hB⟩:=hr.DL.map id es RT b hb;have zX:(Instr.checkKey false 10000 kt kV).run C.P w= .ok () w:=MapKept.run_checkKey (k:=kV) hk g false 9999;cases f with
 |none=>cases hm
 |some q=>
  have hq:=hq DD.toList q s rfl;cases q with
  |none=>
   simp only[BJ,Bx,M8] at hm;obtain⟨rfl,rfl⟩:=hm;have AH:(Instr.mapEntry t (a.eval m) (a.eval k)).run C.P w= .ok (.tuple #[c,goInt clock]) {w with heap:=w.heap.setIfInBounds b (.map (DD.push {key:=kV,val:=c,born:=clock}) (clock+1))}:=by rw[zW,ī];simp[Instr.mapEntry,run_underlying ht,MapKept.run_getObj_map hw,zX,MapKept.run_findKey hk hq,Ĭ,MapKept.run_setObj_map _ hw,Result.andThen]
   obtain⟨hi,JI⟩:=Ni (UG:=es++[(kA,z)]) (ents':=DD.push {key:=kV,val:=c,born:=clock}) (clock':=clock+1) hr.DL RT hb hw ⟨by have:=KO.lR (γ:=γ) (k:=kA) (v:=z) (e:={key:=kV,val:=c,born:=clock}) n (E9 fx) s;simpa using this,Tl hB⟩
   refine Fu.value (by simp only[execOp,ho];exact Dk AH) ((hr.IA hi JI).put λ_ _=>⟨_,rfl,c,_,rfl,E9 fx,_,[],rfl,?_,rfl⟩);rw[hB.1];have:=s.length;simp only[B5] at this;rw[<-this];rfl
  |some p=>
   obtain⟨j,v⟩:=p;simp only[BJ,Bx,M8] at hm;obtain⟨rfl,rfl⟩:=hm;obtain⟨en,A,y,_,x,u⟩:=hq;have hj:DD[j]?=some en:=by simpa using x
   have aBZ:=hB.2 j en hj;have af:w.heap.setIfInBounds b (.map DD clock)=w.heap:=by
    apply PQ;intro i;rw[Array.getElem?_setIfInBounds];split;.rename_i hi;subst hi;have hlt:=(AO.1 hw).1;rw[Ag hlt,hw]
    .rfl
   have AH:(Instr.mapEntry t (a.eval m) (a.eval k)).run C.P w= .ok (.tuple #[en.val,goInt j]) w:=by rw[zW,ī];simp[Instr.mapEntry,run_underlying ht,MapKept.run_getObj_map hw,zX,MapKept.run_findKey hk A,hj,u,MapKept.run_keyThatStays (d:=d) (k:=kV) g,MapKept.run_setObj_map _ hw,Result.andThen,aBZ,lS hj u,af]
   exact Fu.value (by simp only[execOp,ho];exact Dk AH) (hr.put λ_ _=>⟨_,rfl,_,_,rfl,y,_,[],rfl,rfl,rfl⟩)
def qL{o:Oper}{t kt e:TypeId}{m k:Operand}{b c z r:Aa}{h':Ai}(ho:o.op= .mapEntry t m k)(ht:C.P.underlying t=some (.map kt e))(hk:C.P.underlying kt=some (.int .i64))(hz:GC C.P e=some z)(ha:Bq C U [m,k]=some [b,c])(hm:U7 h z b c=some (h',r))(hr:CW C γ0 w0 γ Z U h a w):
  Fu C γ0 w0 o a w (U.put o.dst (.val r)) h':=by
 obtain⟨_,_,e0,h1,h2⟩:=EU hr ha;cases e0;unfold U7 at hm;split at hm
 .rename_i id n;split at hm;.rename_i es RT;exact Wx (kA:= .int .i64 n) (kV:= .int .i64 n) ho ht hk (by simp[MapKept.IsKey]) hz h1 h2 rfl RT (λl q d hf=>P1 (i:=0) d hf) hm hr
  .cases hm
 .cases hm
def Zy{s:Aj}:∀{es:List (Aa×Aa)} {l:List MapEntry} {i:Nat} {r:Option (Nat×Aa)},KO γ es l->QY s es i=some r->
  match r with
  |none=>Instr.findNow .string (.string ⟨⟨s⟩⟩) l i=some none
  |some (j,v)=>∃(e:MapEntry),Instr.findNow .string (.string ⟨⟨s⟩⟩) l i=some (some (j,e.val))/\BH γ v e.val/\i<=j/\l[j-i]?=some e/\e.key= .string ⟨⟨s⟩⟩
 |[],l,i,r,b,hf=>by rw[show l=[] from b];cases hf;rfl
 |(k,v)::es,l,i,r,b,hf=>by
  obtain⟨e,l',rfl,h1,h2,m⟩:=b;cases k with
  |str t=>
   simp only[QY] at hf;have hk:e.key= .string ⟨⟨t⟩⟩:=h1;split at hf;.rename_i IM;subst IM;cases hf;exact⟨e,by simp[Instr.findNow,hk,Instr.sameNow,Q7],h2,Ab _,Ax,hk⟩
   .rename_i IM;have ih:=Zy (i:=i+1) m hf;have hne:=Wu IM;cases r with
    |none=>simpa[Instr.findNow,hk,Instr.sameNow,hne] using ih
    |some p=>obtain⟨j,v2⟩:=p;obtain⟨n,g,f,o,d,c⟩:=ih;refine⟨n,by simpa[Instr.findNow,hk,Instr.sameNow,hne] using g,f,Ac,?_,c⟩;rw[(Ac:j-i=(j-(i+1))+1),SX];exact d
  |_=>simp[QY] at hf
def qM{o:Oper}{t kt e:TypeId}{m k:Operand}{b c z r:Aa}{h':Ai}(ho:o.op= .mapEntry t m k)(ht:C.P.underlying t=some (.map kt e))(hk:C.P.underlying kt=some .string)(hz:GC C.P e=some z)(ha:Bq C U [m,k]=some [b,c])(hm:U8 h z b c=some (h',r))(hr:CW C γ0 w0 γ Z U h a w):
  Fu C γ0 w0 o a w (U.put o.dst (.val r)) h':=by
 obtain⟨_,_,e0,h1,h2⟩:=EU hr ha;cases e0;unfold U8 at hm;split at hm
 .rename_i id n;split at hm;.rename_i es RT;exact Wx (kA:= .str n) (kV:= .string ⟨⟨n⟩⟩) ho ht hk (by simp[MapKept.IsKey]) hz h1 h2 rfl RT (λl q d hf=>Zy (i:=0) d hf) hm hr
  .cases hm
 .cases hm
def lT{o:Oper}{t kt e:TypeId}{m k x:Operand}{d f c r:Aa}{h':Ai}(ho:o.op= .insert t m k x\/o.op= .mapUpdate t m k x)(hd:o.dst=none)(ht:C.P.underlying t=some (.map kt e))(hk:C.P.underlying kt=some (.int .i64))(ha:Bq C U [m,k,x]=some [d,f,c])
  (hm:vK h d f c=some (h',r)) (hr:CW C γ0 w0 γ Z U h a w):Fu C γ0 w0 o a w U h':=by
 obtain⟨h1,h2,j⟩:=Q8 hr ha;have Ml:∀w',(Instr.mapUpdate t (a.eval m) (a.eval k) (a.eval x)).run C.P w= .ok () w'->(execOp a.eval o).run C.P w= .ok .skip w':=λw' AH=>by rcases ho with ho|ho<;>simp[execOp,ho,AH]
 unfold vK at hm;split at hm
 .rename_i id n;obtain⟨b,hb,zW⟩:=h1;have ī:a.eval k= .int .i64 n:=h2;split at hm
  .rename_i es RT;obtain⟨DD,clock,hw,g,hB⟩:=hr.DL.map id es RT b hb;have zX:(Instr.checkKey false 10000 kt (.int .i64 n)).run C.P w= .ok () w:=MapKept.run_checkKey (k:= .int .i64 n) hk (by simp[MapKept.IsKey]) false 9999;split at hm
   .rename_i hf;cases hm;have hq:=P1 (i:=0) g hf;have AH:(Instr.mapUpdate t (a.eval m) (a.eval k) (a.eval x)).run C.P w= .ok () {w with heap:=w.heap.setIfInBounds b (.map (DD.push {key:= .int .i64 n,val:=a.eval x,born:=clock}) (clock+1))}:=by rw[zW,ī];simp[Instr.mapUpdate,run_underlying ht,MapKept.run_getObj_map hw,zX,MapKept.run_findKey hk hq,MapKept.run_setObj_map _ hw,Result.andThen]
    obtain⟨hi,JI⟩:=Ni (UG:=es++[(.int .i64 n,c)]) (ents':=DD.push {key:= .int .i64 n,val:=a.eval x,born:=clock}) (clock':=clock+1) hr.DL RT hb hw ⟨by have:=KO.lR (γ:=γ) (k:= .int .i64 n) (v:=c) (e:={key:= .int .i64 n,val:=a.eval x,born:=clock}) rfl j g;simpa using this,Tl hB⟩
    exact Fu.skip (Ml _ AH) (by rw[hd];exact hr.IA hi JI)
   .cases hm
  .cases hm
 .cases hm
def bG{es:Array MapEntry}(hB:∀(i:Nat) (e:MapEntry),es[i]?=some e->e.born=i){j:Nat}{e:MapEntry}(hj:es[j]?=some e):es.findIdx? (λe=>(e.born:Int)==(j:Int))=some j:=by
 rw[Array.findIdx?_eq_some_iff_getElem];obtain⟨hl,he⟩:=AO.1 hj;refine⟨hl,?_,λi hi=>?_⟩;.have:=hB j _ (CH hl);simp[this]
 .have:=hB i _ (CH Ac);simp[this];omega
def qN{o:Oper}{t:TypeId}{m s x:Operand}{f vs c r:Aa}{h':Ai}(ho:o.op= .entryStore t m s x)(hd:o.dst=none)(ha:Bq C U [m,s,x]=some [f,vs,c])(hm:RB h f vs c=some (h',r))(hr:CW C γ0 w0 γ Z U h a w):Fu C γ0 w0 o a w U h':=by
 obtain⟨h1,h2,i⟩:=Q8 hr ha;have Ml:∀w',(Instr.entryStore t (a.eval m) (a.eval s) (a.eval x)).run C.P w= .ok () w'->(execOp a.eval o).run C.P w= .ok .skip w':=λw' AH=>by simp[execOp,ho,AH]
 unfold RB at hm;split at hm
 .rename_i id n;obtain⟨b,hb,zW⟩:=h1;have I8:a.eval s= .int .i64 n:=h2;split at hm
  .rename_i es RT;split at hm
   .rename_i hn;split at hm
    .rename_i kk v0 hk;cases hm;obtain⟨DD,clock,hw,g,hB⟩:=hr.DL.map id es RT b hb;have hlen:=g.length;have hlt:=(Al.1 hk).1;have d:∃en,DD[n.toNat]?=some en:=⟨DD[n.toNat]'(by simp at hlen;omega),CH _⟩;obtain⟨en,hj⟩:=d;have ji:((n.toNat:Nat):Int)=n:=Ac;have aB0:=bG hB.2 hj;rw[ji] at aB0;have AH:(Instr.entryStore t (a.eval m) (a.eval s) (a.eval x)).run C.P w= .ok () {w with heap:=w.heap.setIfInBounds b (.map (DD.modify n.toNat λe=>{e with val:=a.eval x}) clock)}:=by rw[zW,I8];simp[Instr.entryStore,MapKept.run_getObj_map hw,asInt,asIntOf,aB0,MapKept.run_setObj_map _ hw,Result.andThen]
     obtain⟨hi,JI⟩:=Ni (UG:=es.set n.toNat (kk,c)) (ents':=DD.modify n.toNat λe=>{e with val:=a.eval x}) (clock':=clock) hr.DL RT hb hw ⟨by have:=KO.modify i g hk;simpa using this,T5 hB λ_=>rfl⟩
     exact Fu.skip (Ml _ AH) (by rw[hd];exact hr.IA hi JI)
    .cases hm
   .cases hm
  .cases hm
 .cases hm
end
end Go.Am
end
section
section
namespace Go.Am
open Go
section
variable{C:Fx}{γ0 γ γ':Gh}{w0 w w':World}{O:Nat->Nat}{U U':BF}{h h':Ai}{a:Act}{fid:FuncId}{ops:List Oper}
def Fu.wp{o:Oper}{K:Act->World->Prop}{Q:Exit->Act->World->Prop}(hs:Fu C γ0 w0 o a w U' h')(b:∀γ' c a' w',CW C γ0 w0 γ' c U' h' a' w'->K a' w'):o.wp C.P a w K Q:=by
 obtain⟨γ',c,w',⟨v,he,hr⟩|⟨he,hr⟩⟩:=hs;.exact IQ he (b _ _ _ _ hr)
 .exact pT he (b _ _ _ _ hr)
def YK{P:Program}{op:BinOp}{t:TypeId}{p:Rz}(hp:PY P op t=some p):p.still=true:=by
 have Kb:∀neg u,Ta P t neg u=some p->p.still=true:=by
  intro neg u h;unfold Ta at h;split at h;.cases h;rfl
  .split at h
   .cases hf:O4 P 20 t with
    |none=>rw[hf] at h;cases h
    |some k=>rw[hf] at h;cases h;rfl
   .cases h
  .split at h<;>cases h;rfl
  .cases h;rfl
  .cases h;rfl
  .cases h;rfl
  .cases h
 unfold PY at hp;split at hp;.cases hp;rfl
 .cases hp;rfl
 .split at hp;.exact Kb _ _ hp
  .exact Kb _ _ hp
  .cases hp
 .cases hp
def Nj{P:Program}{t:TypeId}{f off:Nat}{d:Option Nat}(hf:H5 P t f=some (off,d))(b o:Nat):(Instr.fieldAt t (.pointer (some ⟨b,o,none⟩)) f).run P w= .ok (.pointer (some ⟨b,o+off,none⟩)) w:=by
 unfold H5 at hf;split at hf
 .rename_i fs zI;split at hf
  .rename_i fd vX;split at hf;.rename_i n c h1 h2;cases hf;simp[Instr.fieldAt,run_underlying zI,vX,Instr.sureAddr,fieldPlace,Du h1,Addr.add_lit]
   .cases hf
  .cases hf
 .cases hf
def Wy(hr:CW C γ0 w0 γ O U h a w){s ver:Nat}{cs:List Aa}{ow:List Nat}(hs:DS C U (.tmp s)=some (.box ver cs ow)):a.eval (.tmp s)= .pointer (some ⟨O s,0,none⟩):=by have h0:=RJ hr s;rw[GF hs] at h0;exact h0.1
def T7(hr:CW C γ0 w0 γ O U h a w){x:Operand}{s k:Nat}(hs:DS C U x=some (.EY s k)):a.eval x= .pointer (some ⟨O s,k,none⟩):=by obtain⟨t,h1,_⟩:=FW hr hs;exact h1
def Zz{o:Oper}{t:TypeId}{v:Aa}{d:Nat}{r:Eu}{run:IT->Ai->Option Ju}(hb:TY C fid t v d=some r)(FI:r.Nd C run (U.drop r.news) h U' h')
  (O3:∀n,C.kind fid d= .O3->v.cells.length=n->n≠0->Fu C γ0 w0 o a w ((U.drop [d]).set d (.box 0 v.cells [])) h)
  (heap:v.cells.length≠0->Fu C γ0 w0 o a w (U.put (some d) (.val (.ptr (some (h.length,0))))) (h++[.cells v.cells])):Fu C γ0 w0 o a w U' h':=by
 unfold TY at hb;split at hb;.cases hb
 .rename_i n hn;split at hb;.cases hb
  .rename_i b;split at hb;.cases hb;obtain⟨h1,rfl,rfl⟩:=FI;rename_i hk;exact O3 n hk h1 b
   .cases hb;obtain⟨h1,rfl,rfl⟩:=FI;exact heap Ac
def P2{d s k:Nat}{run:IT->Ai->Option Ju}(FI:(Eu.pure [(d,.EY s k)]).Nd C run (U.drop (Eu.pure [(d,.EY s k)]).news) h U' h'):U'=U.set d (.EY s k)/\h'=h:=by obtain⟨rfl,rfl⟩:=FI;exact⟨rfl,rfl⟩
def kz{run:IT->Ai->Option Ju}(G:EV C run){o:Oper}{r:Eu}{K:Act->World->Prop}{Q:Exit->Act->World->Prop}(hc:FT C fid ops U o=some r)(FI:r.Nd C run (U.drop r.news) h U' h')(hr:CW C γ0 w0 γ O U h a w)
  (j:∀γ' T a' w',CW C γ0 w0 γ' T U' h' a' w'->K a' w'):o.wp C.P a w K Q:=by
 by_cases IM:∃p args dst BI F,r= .op p args dst BI F/\p.still=true
 .obtain⟨p,args,dst,BI,F,rfl,xm⟩:=IM
  obtain⟨L,rfl,rfl,rfl⟩:=zR hc xm hr
  obtain⟨v,hv,rfl,rfl⟩:=FI
  obtain⟨u,R,N⟩:=L v hv
  exact IQ R (j _ _ _ _ (hr.put λ_ _=>N))
 .have kE:∀{p args dst},r= .op p args dst false none->p.still=false:=λ{p args dst} he=>by
   cases hp:p.still with
   |false=>rfl
   |true=>exact absurd ⟨p,args,dst,false,none,he,hp⟩ IM
  have Hm:∀{p dst x},Tb p dst x=some r->p.still=false:=λ{p dst x} he=>by
   obtain⟨args,_,e⟩:=DG he
   exact kE e
  unfold FT at hc
  split at hc
  .rename_i x ho
   split at hc
   .rename_i d hd
    obtain⟨γ',Hn⟩:=RL hc FI hr
    exact IQ (w':=w) (v:=a.eval x) (by simp[execOp,ho]) (j _ _ _ _ (by rw[hd];exact Hn))
   .cases hc
  .rename_i x ho
   split at hc
   .rename_i d hd
    obtain⟨γ',Hn⟩:=RL hc FI hr
    exact IQ (w':=w) (v:=a.eval x) (by simp[execOp,ho]) (j _ _ _ _ (by rw[hd];exact Hn))
   .cases hc
  .rename_i c x y ho
   split at hc
   .rename_i d hcs hd
    obtain⟨γ',Hn⟩:=RL hc FI hr
    obtain⟨s,h1,_⟩:=FW hr hcs
    have h1:a.eval c= .bool true:=h1
    exact IQ (w':=w) (v:=a.eval x) (by simp[execOp,ho,h1,asBool]) (j _ _ _ _ (by rw[hd];exact Hn))
   .rename_i d hcs hd
    obtain⟨γ',Hn⟩:=RL hc FI hr
    obtain⟨s,h1,_⟩:=FW hr hcs
    have h1:a.eval c= .bool false:=h1
    exact IQ (w':=w) (v:=a.eval y) (by simp[execOp,ho,h1,asBool]) (j _ _ _ _ (by rw[hd];exact Hn))
   .cases Hm hc
  .rename_i t ho
   split at hc
   .rename_i d z hd hz
    split at hc
    .split at hc
     .rename_i HC
      cases hc
      obtain⟨rfl,rfl⟩:=FI
      exact(Wi ho hd hz HC.2 hr).wp j
     .cases hc
    .rename_i hk
     refine(Zz (o:=o) (a:=a) (w:=w) (γ0:=γ0) (w0:=w0) hc FI (λn h0 h1 h2=>absurd h0 (by simpa using hk)) λh1=>Wj ho hd hz h1 hr).wp j
   .cases hc
  .rename_i t x ho
   split at hc
   .rename_i d v hd hv
    exact(Zz (o:=o) (a:=a) (w:=w) (γ0:=γ0) (w0:=w0) hc FI (λn _ h1 h2=>aZ ho hd hv h1 h2 hr) λh1=>bA ho hd hv h1 hr).wp j
   .cases hc
  .split at hc
   .split at hc
    .cases Hm hc
    .cases hc
   .cases hc
  .rename_i t len parts ho
   split at hc
   .rename_i e ht
    split at hc
    .rename_i n hn
     split at hc
     .rename_i HC
      split at hc
      .rename_i hlen
       cases hc
       obtain⟨v,hv,rfl,rfl⟩:=FI
       cases hv
       exact(js ho ht hn HC.1 HC.2 hlen.1 hr).wp j
      cases ha:Bq C U (parts.toList.map (·.2)) with
      |none=>rw[ha] at hc;cases hc
      |some args=>
       rw[ha] at hc;cases hc
       obtain⟨v,hv,rfl,rfl⟩:=FI
       exact(jr ho ht hn HC.1 HC.2 ha hv hr).wp j
     .cases hc
    .cases hc
   .cases hc
  .rename_i t x ho
   split at hc
   .rename_i d hd
    by_cases hp:∃ws,r= .pure ws
    .exact(YH ho hd hc hp FI hr).wp j
    .unfold Ld at hc
     split at hc
     .rename_i n p ht hx
      cases hc
      obtain⟨v,hv,rfl,rfl⟩:=FI
      have hs:=jo ho ht hx hv hr
      rw[hd] at hs
      exact hs.wp j
     .split at hc
      .simp only at hc
       split at hc<;>(cases hc;exact absurd ⟨_,rfl⟩ hp)
      .cases hc
     .split at hc
      .cases hc;exact absurd ⟨_,rfl⟩ hp
      .cases hc
     .cases hc
   .cases hc
  .rename_i t x y ho
   split at hc
   .rename_i hd
    have OZ:=hc
    unfold I1 at hc
    split at hc
    .rename_i n p v K8 hx hv
     cases hc
     obtain⟨aGK,rfl⟩:=FI
     exact(zS ho hd K8 hx hv aGK hr).wp j
    .split at hc
     .cases hc
      exact(qF ho hd OZ FI hr).wp j
     .cases hc
    .cases hc
   .cases hc
  .rename_i x ho
   split at hc
   .rename_i s ver cs ow d hd hs
    cases hc
    obtain⟨rfl,rfl⟩:=P2 FI
    have he:=Wy hr hs
    exact IQ (w':=w) (v:= .pointer (some ⟨O s,0,none⟩)) (by simp[execOp,ho,he]) (j _ _ _ _ (by rw[hd];exact hr.put (d:=some d) λ_ _=>rfl))
   .rename_i s k d hd hs
    cases hc
    obtain⟨rfl,rfl⟩:=P2 FI
    have he:=T7 hr hs
    exact IQ (w':=w) (v:= .pointer (some ⟨O s,k,none⟩)) (by simp[execOp,ho,he]) (j _ _ _ _ (by rw[hd];exact hr.put (d:=some d) λ_ _=>rfl))
   .cases Hm hc
  .split at hc
   .rename_i p hp
    have xm:=Hm hc
    rw[YK hp] at xm
    cases xm
   .cases hc
  .cases Hm hc
  .rename_i src aGs x ho
   split at hc
   .rename_i hq
    unfold V4 at hq
    cases hv:EK C U x with
    |none=>rw[hv] at hc;cases hc
    |some v=>
     rw[hv] at hc;cases hc
     split at hq
     .cases hq
     .cases hq
     .cases hq
     .rename_i e hs hd
      split at hq
      .rename_i he
       obtain⟨v',u,h1,h2,rfl⟩:=FI
       exact(xe ho hs hd he hv h1 h2 hr).wp j
      .cases hq
     .split at hq<;>cases hq
     .cases hq
   .rename_i hq
    unfold V4 at hq
    split at hq
    .cases hq
    .cases hq
    .cases hq
    .split at hq<;>cases hq
    .rename_i e hs hd
     split at hq
     .rename_i he _ _
      split at hc
      .cases hv:EK C U x with
       |none=>rw[hv] at hc;cases hc
       |some v=>
        rw[hv] at hc;cases hc
        obtain⟨u,h1,rfl⟩:=FI
        exact(bF ho hs hd he hv h1 hr).wp j
      .obtain⟨args,ha,rfl⟩:=DG hc
       obtain⟨u,h1,rfl,rfl⟩:=FI
       obtain⟨v,rfl,_⟩:=Gm hr ha
       exact(xd ho hs hd he ha h1 hr).wp j
     .cases hq
    .cases hq
   .rename_i p RO j9 hq
    have xm:=Hm hc
    unfold V4 at hq
    split at hq
    .cases hq;cases xm
    .cases hq;cases xm
    .cases hq
    .split at hq
     .cases hq;exact absurd rfl RO
     .cases hq
    .split at hq
     .cases hq;exact absurd rfl j9
     .cases hq
    .cases hq
   .cases hc
  .rename_i fn first captured ho
   split at hc
   .rename_i d as bs fz hd ha hb
    cases hc
    obtain⟨rfl,rfl⟩:=FI
    exact(lI ho hd ha hb hr).wp j
   .cases hc
  .rename_i t ho
   cases hc
   obtain⟨rfl,rfl⟩:=FI
   exact(j_ ho hr).wp j
  .rename_i t l c ho
   split at hc
   .rename_i e ht
    split at hc
    .rename_i n b z V vc hn hb hz hl Vc
     cases hc
     obtain⟨v,h1,rfl⟩:=FI
     exact(jx ho ht hn hb hz hl Vc h1 hr).wp j
    .cases hc
   .cases hc
  .rename_i t m k x ho
   split at hc
   .rename_i kt e ht
    split at hc
    .rename_i D E I hd hk ha
     cases hc
     obtain⟨h1,rfl⟩:=FI
     exact(lM (.inl ho) hd ht hk ha h1 hr).wp j
    .rename_i D E I hd hk ha
     cases hc
     obtain⟨v,h1,rfl⟩:=FI
     exact(lT (.inl ho) hd ht hk ha h1 hr).wp j
    .cases hc
   .cases hc
  .rename_i t m k x ho
   split at hc
   .rename_i kt e ht
    split at hc
    .rename_i D E I hd hk ha
     cases hc
     obtain⟨h1,rfl⟩:=FI
     exact(lM (.inr ho) hd ht hk ha h1 hr).wp j
    .rename_i D E I hd hk ha
     cases hc
     obtain⟨v,h1,rfl⟩:=FI
     exact(lT (.inr ho) hd ht hk ha h1 hr).wp j
    .cases hc
   .cases hc
  .rename_i t m k ok ho
   split at hc
   .rename_i kt e ht
    split at hc
    .rename_i z D E hk hz ha
     cases hc
     obtain⟨v,h1,rfl,rfl⟩:=FI
     exact(ka ho ht hk hz ha h1 hr).wp j
    .rename_i z D E hk hz ha
     cases hc
     obtain⟨v,h1,rfl⟩:=FI
     exact(ky ho ht hk hz ha h1 hr).wp j
    .cases hc
   .cases hc
  .rename_i t x lo hi mx ho
   split at hc
   .rename_i e ht
    split at hc
    .rename_i n hn
     obtain⟨args,ha,rfl⟩:=Ha hc
     obtain⟨v,h1,rfl⟩:=FI
     simp only[DZ] at h1
     split at h1
     .rename_i J
      cases h1
      exact(ku ho ht hn ha J hr).wp j
     .cases h1
    .cases hc
   .cases hc
  .rename_i t x ho
   split at hc
   .cases hc
   .rename_i u hu ht
    obtain⟨args,ha,rfl⟩:=Ha hc
    obtain⟨v,h1,rfl⟩:=FI
    obtain⟨y,rfl,_⟩:=Gm hr ha
    cases h1
    exact(kx ho ht (λi e=>hu i e) ha hr).wp j
   .cases hc
  .rename_i t m k ho
   split at hc
   .rename_i kt e ht
    split at hc
    .rename_i z hk hz
     obtain⟨args,ha,rfl⟩:=Ha hc
     obtain⟨v,h1,rfl⟩:=FI
     obtain⟨A,B,rfl,_,_⟩:=EU hr ha
     exact(qL ho ht hk hz ha h1 hr).wp j
    .rename_i z hk hz
     obtain⟨args,ha,rfl⟩:=Ha hc
     obtain⟨v,h1,rfl⟩:=FI
     obtain⟨A,B,rfl,_,_⟩:=EU hr ha
     exact(qM ho ht hk hz ha h1 hr).wp j
    .cases hc
   .cases hc
  .rename_i t m s x ho
   split at hc
   .rename_i hd
    obtain⟨args,ha,rfl⟩:=Ha hc
    obtain⟨v,h1,rfl⟩:=FI
    obtain⟨A,B,H,rfl⟩:∃A B H,args=[A,B,H]:=by
     have:=DF hr ha
     cases args with
     |nil=>cases h1
     |cons A l1=>cases l1 with
      |nil=>cases h1
      |cons B S=>cases S with
       |nil=>cases h1
       |cons H l3=>cases l3 with
        |nil=>exact⟨_,_,_,rfl⟩
        |cons _ _=>cases h1
    exact(qN ho hd ha h1 hr).wp j
   .cases hc
  .rename_i t x lo hi ho
   split at hc
   .cases Hm hc
   .rename_i e ht
    split at hc
    .rename_i n hn
     split at hc
     .obtain⟨args,ha,rfl⟩:=Ha hc
      obtain⟨v,h1,rfl⟩:=FI
      cases args with
      |nil=>cases h1
      |cons y l=>exact(kj ho ht hn ha h1 hr).wp j
     .cases Hm hc
    .cases hc
   .cases hc
  .rename_i t x f ho
   split at hc
   .rename_i off W d hf hd
    split at hc
    .rename_i s ver cs ow hs
     cases hc
     obtain⟨rfl,rfl⟩:=P2 FI
     have he:=Wy hr hs
     exact IQ (w':=w) (v:= .pointer (some ⟨O s,off,none⟩)) (by simp only[execOp,ho,he];exact EF (by rw[Nj hf];simp)) (j _ _ _ _ (by rw[hd];exact hr.put (d:=some d) λ_ _=>rfl))
    .rename_i s k hs
     cases hc
     obtain⟨rfl,rfl⟩:=P2 FI
     have he:=T7 hr hs
     exact IQ (w':=w) (v:= .pointer (some ⟨O s,k+off,none⟩)) (by simp only[execOp,ho,he];exact EF (Nj hf _ _)) (j _ _ _ _ (by rw[hd];exact hr.put (d:=some d) λ_ _=>rfl))
    .cases Hm hc
   .cases hc
  .split at hc
   .cases Hm hc
   .cases hc
  .split at hc
   .split at hc
    .cases Hm hc
    .cases hc
   .split at hc
    .split at hc
     .cases hc
     .cases Hm hc
    .cases hc
   .cases hc
  .split at hc
   .cases Hm hc
   .split at hc
    .cases Hm hc
    .cases hc
   .cases hc
  .cases Hm hc
  .rename_i c ho
   unfold QZ at hc
   split at hc
   .split at hc
    .split at hc
     .cases Hm hc
     .cases Hm hc
     .cases hc
    .cases hc
   .rename_i hcl
    split at hc
    .rename_i t t' s x h0 h1 Ey
     split at hc
     all_goals first
      |(cases hc;done)
      | (rename_i e _ ht IN
         split at hc
         . rename_i n b hn hb
           split at hc
           . rename_i kC
             split at hc
             . rename_i v u ha
               split at hc
               . rename_i Fl
                 split at hc
                 . cases hc
                   obtain ⟨r', q, rfl⟩ := FI
                   exact (zY ho hcl h0 h1 Ey ht (by first | exact .inl ⟨_, IN⟩ | exact .inr IN) hn hb Fl kC ha q hr).wp j
                 . split at hc
                   . cases hc
                     obtain ⟨r', q, rfl, rfl⟩ := FI
                     exact (lK ho hcl h0 h1 Ey ht (by first | exact .inl ⟨_, IN⟩ | exact .inr IN) hn hb Fl kC ha q hr).wp j
                   . cases hc
                     obtain ⟨r', q, rfl, rfl⟩ := FI
                     exact (qI ho hcl h0 h1 Ey ht (by first | exact .inl ⟨_, IN⟩ | exact .inr IN) hn hb Fl kC ha q hr).wp j
               . split at hc
                 . cases hc
                   obtain ⟨r', q, rfl⟩ := FI
                   exact (kg ho hcl h0 h1 Ey ht (by first | exact .inl ⟨_, IN⟩ | exact .inr IN) hn hb kC ha q hr).wp j
                 . cases hc
             . cases hc
           . cases hc
         . cases hc)
    .cases hc
   .rename_i hcl
    split at hc
    .rename_i t t' s x h0 h1 Ey
     split at hc
     all_goals first
      |(cases hc;done)
      | (rename_i e _ ht IN
         split at hc
         . rename_i n hn
           obtain ⟨args, ha, rfl⟩ := Ha hc
           obtain ⟨v, q, rfl⟩ := FI
           obtain ⟨A, B, rfl, _, _⟩ := EU hr ha
           exact (ki ho hcl h0 h1 Ey ht (by first | exact .inl ⟨_, IN⟩ | exact .inr IN) hn ha q hr).wp j
         . cases hc)
    .cases hc
   .rename_i hcl
    split at hc
    .rename_i t s h0 Ey
     split at hc
     .rename_i e ht
      split at hc
      .rename_i n z hn hz
       obtain⟨args,ha,rfl⟩:=Ha hc
       obtain⟨v,q,rfl⟩:=FI
       obtain⟨A,rfl,_⟩:=Gm hr ha
       exact(ae ho hcl h0 Ey ht hn hz ha q hr).wp j
      .cases hc
     .cases hc
    .cases hc
   .split at hc
    .cases Hm hc
    .cases hc
   .split at hc
    .cases Hm hc
    .cases hc
   .rename_i f hcl
    split at hc
    .rename_i hf
     split at hc
     .rename_i s i x Ey
      split at hc
      .rename_i Fl
       obtain⟨args,ha,rfl⟩:=Ha hc
       obtain⟨v,q,rfl⟩:=FI
       exact xf G ho hcl hf Ey Fl ha q hr λγ' v w' Hn=>j _ _ _ _ Hn
      .cases hc
     .cases hc
    split at hc
    rotate_left
    .cases hc
    rename_i T4
    rw[<-T4] at hcl
    cases ha:Bq C U c.args.toList with
    |none=>rw[ha] at hc;cases hc
    |some args=>
     rw[ha] at hc
     simp only[BJ,Bx] at hc
     split at hc
     .cases hc
      obtain⟨Iq,M,h1,h2,q,rfl,rfl⟩:=FI
      exact zU G ho hcl ha Iq h2 q hr λγ' v w' Hn=>j _ _ _ _ Hn
     .cases hc
      obtain⟨M,h1,rfl⟩:=FI
      exact jz G ho hcl ha h1 hr λγ' v w' Hn=>j _ _ _ _ Hn
   .rename_i g hn hcl
    split at hc
    .rename_i X args hg ha
     cases hc
     obtain⟨f,args',M,h0,h1,rfl⟩:=FI
     exact zV G ho hcl hg ha h0 h1 hr λγ' v w' Hn=>j _ _ _ _ Hn
    .cases hc
   .cases hc
  .cases hc
end
end Go.Am
end
section
namespace Go.Am
open Go
section
variable{C:Fx}{U Z:BF}{fid:FuncId}{ops:List Oper}
def bH{x:Operand}(h:∀t,x= .tmp t->Z.at t=U.at t):DS C Z x=DS C U x:=by
 cases x with
 |tmp t=>simp only[DS,h t rfl]
 |const v=>
  cases v with
  |slice a b c=>cases a<;>cases b<;>cases c<;>rfl
  |_=>rfl
 |global g=>rfl
 |func f=>rfl
def Vd(C:Fx)(U Z:BF)(xs:List Operand):Prop:=∀x∈xs,DS C Z x=DS C U x
def Vd.wF{xs:List Operand}(h:∀t∈JD xs,Z.at t=U.at t):Vd C U Z xs:=λx hx=>bH λt ht=>h t (by subst ht;exact B8.2 ⟨_,hx,rfl⟩)
def Vd.val{xs:List Operand}(h:Vd C U Z xs){x:Operand}(hx:x∈xs):EK C Z x=EK C U x:=by unfold EK;rw[h x hx]
def Vd.Kn{xs:List Operand}(h:Vd C U Z xs):∀{ys:List Operand},(∀y∈ys,y∈xs)->Bq C Z ys=Bq C U ys
 |[],_=>rfl
 |y::ys,hy=>by unfold Bq;rw[h.val (hy y Ax),h.Kn λz hz=>hy z (by simp[hz])]
def Vd.move{xs:List Operand}(h:Vd C U Z xs){x:Operand}(hx:x∈xs)(d:Nat)(take:Bool):Kl C Z x d take=Kl C U x d take:=by unfold Kl;rw[h x hx]
def Vd.BI{xs:List Operand}(h:Vd C U Z xs){x:Operand}(hx:x∈xs):KL C Z x=KL C U x:=by unfold KL;rw[h x hx]
def Vd.Dr{xs:List Operand}(h:Vd C U Z xs){x:Operand}(hx:x∈xs):C3 Z x=C3 U x:=by
 cases x with
 |tmp t=>have:=h _ hx;simp only[DS,Bx] at this;simp only[C3,this]
 |_=>rfl
def Vd.FQ{xs:List Operand}(h:Vd C U Z xs):∀{ys:List Operand},(∀y∈ys,y∈xs)->Am.FQ C Z ys=Am.FQ C U ys
 |[],_=>rfl
 |y::ys,hy=>by unfold Am.FQ;rw[h y (hy y Ax),h.FQ λz hz=>hy z (by simp[hz])]
def Vd.addr{xs:List Operand}(h:Vd C U Z xs){x:Operand}(hx:x∈xs)(hb:∀s∈(NQ C U x).toList,Z.at s=U.at s)(hn:FO C U x≠none):FO C Z x=FO C U x:=by
 have QD:=h x hx;cases hs:DS C U x with
 |none=>unfold FO at hn;rw[hs] at hn;exact absurd (by split<;>simp_all) hn
 |some sl=>
  rw[hs] at QD;cases sl with
  |EY s o=>
   have h1:∀J:BF,DS C J x=some (.EY s o)->FO C J x=match J.at s with| .box ver cs ow=>some (.O3 s o ver cs ow)|_=>none:=λJ b=>by unfold FO;rw[b];cases x<;>rfl
   rw[h1 U hs] at hn⊢;rw[h1 Z QD];have h2:s∈(NQ C U x).toList:=by
    unfold NQ;rw[h1 U hs];cases OS:U.at s with
    |box ver cs ow=>simp
    |_=>rw[OS] at hn;exact absurd rfl hn
   rw[hb s h2]
  |_=>unfold FO;rw[hs,QD];cases x<;>rfl
def Vd.load{xs:List Operand}(h:Vd C U Z xs){x:Operand}(hx:x∈xs)(hb:∀s∈(NQ C U x).toList,Z.at s=U.at s){t:TypeId}{d:Nat}{take:Bool}{r:Eu}(hc:Ld C U t x d take=some r):Ld C Z t x d take=some r:=by
 have hn:FO C U x≠none:=λhe=>by unfold Ld at hc;rw[he] at hc;split at hc<;>simp_all
 unfold Ld at hc⊢;rw[h.addr hx hb hn];exact hc
def Vd.store{xs:List Operand}(h:Vd C U Z xs){x y:Operand}(hx:x∈xs)(hy:y∈xs)(hb:∀s∈(NQ C U x).toList,Z.at s=U.at s){t:TypeId}{r:Eu}(hc:I1 C U t x y=some r):I1 C Z t x y=some r:=by
 have hn:FO C U x≠none:=λhe=>by unfold I1 at hc;rw[he] at hc;split at hc<;>simp_all
 unfold I1 at hc⊢;rw[h.addr hx hb hn,h.val hy,h.BI hy,h.Dr hy];exact hc
def Vd.call{c:Call}(h:Vd C U Z c.operands.toList)(dst:Option Nat):QZ C fid Z c dst=QZ C fid U c dst:=by
 have ha:∀y∈c.args.toList,y∈c.operands.toList:=λy hy=>by unfold Call.operands;rw[GA];exact BG _ hy
 have hv:Bq C Z c.args.toList=Bq C U c.args.toList:=h.Kn ha;unfold QZ;split;.rw[hv]
 .split
  .rename_i Ey;have h1:∀{s x:Operand},c.args.toList=[s,x]->KL C Z s=KL C U s/\C3 Z s=C3 U s/\Bq C Z [s,x]=Bq C U [s,x]:=λ{s x} he=>by rw[he] at ha;exact⟨h.BI (ha s Ax),h.Dr (ha s Ax),h.Kn λy hy=>ha y hy⟩
   obtain⟨e,d,b⟩:=h1 Ey;rw[e,d,b]
  .rfl
 .split;.rename_i Ey;rw[Ey] at ha;rw[h.Kn λy hy=>ha y hy]
  .rfl
 .split;.rename_i Ey;rw[Ey] at ha;rw[h.Kn λy hy=>ha y hy]
  .rfl
 .rw[hv]
 .rw[hv]
 .split
  .split;.rename_i s i v Ey;rw[Ey] at ha;rw[h.BI (ha v Ax),h.Kn λy hy=>ha y hy]
   .rfl
  .rw[hv]
 .rename_i g _ hcl;have hg:g∈c.operands.toList:=by unfold Call.operands;rw[hcl];simp
  rw[hv,h.val hg]
 .rfl
def WA{o:Oper}{r:Eu}(hc:FT C fid ops U o=some r)(ht:∀t∈JD o.op.operands.toList,Z.at t=U.at t)(hb:∀s∈HJ C U o,Z.at s=U.at s):FT C fid ops Z o=some r:=by
 have h:Vd C U Z o.op.operands.toList:= .wF ht
 unfold FT at hc⊢
 cases ho:o.op with
 |move x=>
  rw[ho] at h
  simp only[ho] at hc⊢
  have:=λd=>h.move (x:=x) Ir d
  simpa only[this] using hc
 |assign x=>
  rw[ho] at h
  simp only[ho] at hc⊢
  have:=λd=>h.move (x:=x) Ir d
  simpa only[this] using hc
 |pick c a b=>
  rw[ho] at h
  simp only[ho] at hc⊢
  have h1:=λd=>h.move (x:=a) Ir d
  have h2:=λd=>h.move (x:=b) Ir d
  rw[h c Ir,h.Kn (ys:=[c,a,b]) Ir]
  simpa only[h1,h2] using hc
 |alloc t=>rw[ho] at hc;exact hc
 |box t x=>
  rw[ho] at h
  simp only[ho] at hc⊢
  rw[h.val (x:=x) Ir]
  exact hc
 |build t parts=>
  rw[ho] at h
  simp only[ho] at hc⊢
  rw[h.Kn (ys:=parts.toList.map (·.2)) Ir]
  exact hc
 |buildSlice t len parts=>
  rw[ho] at h
  simp only[ho] at hc⊢
  rw[h.Kn (ys:=parts.toList.map (·.2)) Ir]
  exact hc
 |load t x=>
  rw[ho] at h
  simp only[ho] at hc⊢
  split at hc
  .exact h.load Ir (λs hs=>hb s (by simpa only[HJ,ho] using hs)) hc
  .cases hc
 |store t x y=>
  rw[ho] at h
  simp only[ho] at hc⊢
  split at hc
  .exact h.store Ir Ir (λs hs=>hb s (by simpa only[HJ,ho] using hs)) hc
  .cases hc
 |nilCheck x=>
  rw[ho] at h
  simp only[ho] at hc⊢
  have e:=h.Kn (ys:=[x]) Ir
  rw[h x Ir]
  cases hs:DS C U x with
  |none=>rw[hs] at hc;cases x<;>cases hd:o.dst<;>rw[hd] at hc<;>first|exact hc|(show Tb _ _ (Bq C Z [_])=some r;rw[e];exact hc)
  |some sl=>rw[hs] at hc;cases sl<;>cases x<;>cases hd:o.dst<;>rw[hd] at hc<;>first|exact hc|(show Tb _ _ (Bq C Z [_])=some r;rw[e];exact hc)
 |binOp op t x y k=>
  rw[ho] at h
  simp only[ho] at hc⊢
  rw[h.Kn (ys:=[x,y]) Ir]
  exact hc
 |unOp op t x=>
  rw[ho] at h
  simp only[ho] at hc⊢
  rw[h.Kn (ys:=[x]) Ir]
  exact hc
 |convert src dst x=>
  rw[ho] at h
  simp only[ho] at hc⊢
  rw[h.Kn (ys:=[x]) Ir,h.val (x:=x) Ir]
  exact hc
 |makeFunc fn first captured=>
  rw[ho] at h
  simp only[ho] at hc⊢
  rw[h.Kn (ys:=first.toList) (λ_ hm=>by simp[Op.operands,hm]),h.FQ (ys:=captured.toList) (λ_ hm=>by simp[Op.operands,hm])]
  exact hc
 |makeMap t r'=>
  rw[ho] at hc
  cases r' with
  |none=>exact hc
  |some _=>cases hc
 |makeSlice t l c=>
  rw[ho] at h
  simp only[ho] at hc⊢
  rw[h.val (x:=l) Ir,h.val (x:=c) Ir]
  exact hc
 |insert t m k v=>
  rw[ho] at h
  simp only[ho] at hc⊢
  rw[h.Kn (ys:=[m,k,v]) Ir]
  exact hc
 |mapUpdate t m k v=>
  rw[ho] at h
  simp only[ho] at hc⊢
  rw[h.Kn (ys:=[m,k,v]) Ir]
  exact hc
 |lookup t m k ok=>
  rw[ho] at h
  simp only[ho] at hc⊢
  rw[h.Kn (ys:=[m,k]) Ir]
  exact hc
 |slice t x lo hi mx=>
  rw[ho] at h hc
  cases mx with
  |none=>
   have e:=h.Kn (ys:=x::(lo.toList++hi.toList)) (by cases lo<;>cases hi<;>simp[Op.operands])
   simp only at hc⊢
   rw[e]
   exact hc
  |some mx=>cases lo with
   |none=>cases hc
   |some lo=>cases hi with
    |none=>cases hc
    |some hi=>
     have e:=h.Kn (ys:=[x,lo,hi,mx]) Ir
     simp only at hc⊢
     rw[e]
     exact hc
 |makeInterface t x=>
  rw[ho] at h
  simp only[ho] at hc⊢
  rw[h.Kn (ys:=[x]) Ir]
  exact hc
 |mapEntry t m k=>
  rw[ho] at h
  simp only[ho] at hc⊢
  rw[h.Kn (ys:=[m,k]) Ir]
  exact hc
 |entryStore t m s v=>
  rw[ho] at h
  simp only[ho] at hc⊢
  rw[h.Kn (ys:=[m,s,v]) Ir]
  exact hc
 |fieldAddr t x f=>
  rw[ho] at h
  simp only[ho] at hc⊢
  have e:=h.Kn (ys:=[x]) Ir
  rw[h x Ir]
  cases hf:H5 C.P t f with
  |none=>rw[hf] at hc;cases hc
  |some q=>
   rw[hf] at hc
   cases hd:o.dst with
   |none=>rw[hd] at hc;cases hc
   |some d=>
    rw[hd] at hc
    cases hs:DS C U x with
    |none=>rw[hs] at hc;cases x<;>first|exact hc|(show Tb _ _ (Bq C Z [_])=some r;rw[e];exact hc)
    |some sl=>rw[hs] at hc;cases sl<;>cases x<;>first|exact hc|(show Tb _ _ (Bq C Z [_])=some r;rw[e];exact hc)
 |field t x f=>
  rw[ho] at h
  simp only[ho] at hc⊢
  rw[h.Kn (ys:=[x]) Ir]
  exact hc
 |indexAddr t x i=>
  rw[ho] at h
  simp only[ho] at hc⊢
  rw[h.Kn (ys:=[x,i]) Ir]
  exact hc
 |index t x i=>
  rw[ho] at h
  simp only[ho] at hc⊢
  rw[h.Kn (ys:=[x,i]) Ir]
  exact hc
 |extract x i=>
  rw[ho] at h
  simp only[ho] at hc⊢
  rw[h.Kn (ys:=[x]) Ir]
  exact hc
 |call c=>
  rw[ho] at h
  simp only[ho] at hc⊢
  rw[h.call]
  exact hc
 |_=>simp only[ho] at hc;cases hc
end
end Go.Am
end
section
namespace Go.Am
open Go
mutual
def Aa.beq_eq:∀{a b:Aa},Aa.beq a b=true->a=b
 | .bool a,b,h=>by cases b<;>simp[Aa.beq] at h⊢;exact h
 | .int k a,b,h=>by cases b<;>simp[Aa.beq] at h⊢;exact h
 | .str a,b,h=>by cases b<;>simp[Aa.beq] at h⊢;exact h
 | .ptr a,b,h=>by cases b<;>simp[Aa.beq] at h⊢;exact h
 | .EI a,b,h=>by cases b<;>simp[Aa.beq] at h⊢;exact h
 | .Cu a,b,h=>by cases b<;>simp[Aa.beq] at h⊢;exact Aa.N3 h
 | .sl n a,b,h=>by cases b<;>simp[Aa.beq] at h⊢;exact⟨h.1,Aa.lU h.2⟩
 | .slnil,b,h=>by cases b<;>simp[Aa.beq] at h⊢
 | .CT a c d e,b,h=>by cases b<;>simp[Aa.beq] at h⊢;exact⟨h.1.1.1,h.1.1.2,h.1.2,h.2⟩
 | .map a,b,h=>by cases b<;>simp[Aa.beq] at h⊢;exact h
 | .func f a c,b,h=>by cases b<;>simp[Aa.beq] at h⊢;exact⟨h.1.1,Aa.N3 h.1.2,Aa.N3 h.2⟩
 | .nilFunc,b,h=>by cases b<;>simp[Aa.beq] at h⊢
 | .iface t a,b,h=>by cases b<;>simp[Aa.beq] at h⊢;exact⟨h.1,Aa.beq_eq h.2⟩
 | .nilIface,b,h=>by cases b<;>simp[Aa.beq] at h⊢
 | .agg a,b,h=>by cases b<;>simp[Aa.beq] at h⊢;exact Aa.N3 h
 | .tuple a,b,h=>by cases b<;>simp[Aa.beq] at h⊢;exact Aa.N3 h
def Aa.N3:∀{a b:List Aa},Aa.Rx a b=true->a=b
 |[],b,h=>by cases b<;>simp[Aa.Rx] at h⊢
 |a::x,b,h=>by
  cases b with
  |nil=>simp[Aa.Rx] at h
  |cons c y=>simp[Aa.Rx] at h⊢;exact⟨Aa.beq_eq h.1,Aa.N3 h.2⟩
def Aa.lU:∀{a b:List (List Aa)},Aa.Ry a b=true->a=b
 |[],b,h=>by cases b<;>simp[Aa.Ry] at h⊢
 |a::x,b,h=>by
  cases b with
  |nil=>simp[Aa.Ry] at h
  |cons c y=>simp[Aa.Ry] at h⊢;exact⟨Aa.N3 h.1,Aa.lU h.2⟩
end
def BF.Jl(U:BF):∀(a b:List (Nat×Ec)),U.D4 (a++b)=(U.D4 a).D4 b
 |[],_=>rfl
 |(s,x)::a,b=>BF.Jl (U.set s x) a b
def BF.Jm:∀(ws:List (Nat×Ec)) (U:BF),(U.D4 ws).length=U.length
 |[],_=>rfl
 |(s,x)::ws,U=>by rw[BF.D4,BF.Jm ws];simp
def BF.WB(U:BF)(s t:Nat)(x:Ec):BF.at (U.set s x) t=if s=t/\t<U.length then x else U.at t:=by
 by_cases h:s=t
 .subst h;by_cases hl:s<U.length;.simp[BF.at,List.getD,hl]
  .simp[BF.at,List.getD,hl]
 .simp[BF.at,List.getD,Ap h,h]
def BF.Gn:∀(ws:List (Nat×Ec)) (U:BF) (t:Nat),(∀p∈ws,p.1≠t)->(U.D4 ws).at t=U.at t
 |[],_,_,_=>rfl
 |(s,x)::ws,U,t,h=>by rw[BF.D4,BF.Gn ws _ t λp hp=>h p (by simp[hp]),BF.WB,Af];exact λe=>h (s,x) Ax e.1
def BF.WC:∀(ws:List (Nat×Ec)) (U:BF) (t:Nat),(U.D4 ws).at t=U.at t\/∃p∈ws,p.1=t/\(U.D4 ws).at t=p.2
 |[],_,_=> .inl rfl
 |(s,x)::ws,U,t=>by
  rcases BF.WC ws (U.set s x) t with h|⟨p,hp,h1,h2⟩
  .rw[BF.WB] at h;by_cases hc:s=t/\t<U.length;.rw[Ag hc] at h;exact .inr ⟨(s,x),Ax,hc.1,h⟩
   .rw[Af hc] at h;exact .inl h
  .exact .inr ⟨p,by simp[hp],h1,h2⟩
def BF.IU:∀(ws:List (Nat×Ec)) (U Z:BF) (t:Nat),Z.length=U.length->Z.at t=U.at t->(Z.D4 ws).at t=(U.D4 ws).at t
 |[],_,_,_,_,h=>h
 |(s,x)::ws,U,Z,t,hl,h=>by refine BF.IU ws _ _ t (by simpa using hl) ?_;rw[BF.WB,BF.WB,hl,h]
def BF.ext{U Z:BF}(hl:Z.length=U.length)(h:∀t,Z.at t=U.at t):Z=U:=by apply List.ext_getElem hl;intro i h1 h2;have:=h i;simpa[BF.at,List.getD,h1,h2] using this
def BF.ag{U:BF}{a b:List (Nat×Ec)}(h:∀p∈a,∀q∈b,p.1≠q.1):(U.D4 a).D4 b=(U.D4 b).D4 a:=by
 refine BF.ext (by simp[BF.Jm]) λt=>?_;by_cases ha:∀p∈a,p.1≠t;.rw[BF.Gn a (U.D4 b) t ha];exact BF.IU b _ _ t (by simp[BF.Jm]) (BF.Gn a U t ha)
 .have⟨p,hp,c⟩:∃p∈a,p.1=t:=Qw λhn=>ha λp hp e=>hn ⟨p,hp,e⟩;have hb:∀q∈b,q.1≠t:=λq hq e=>h p hp q hq (by rw[c,e]);rw[BF.Gn b (U.D4 a) t hb];exact(BF.IU a _ _ t (by simp[BF.Jm]) (BF.Gn b U t hb)).symm
def N4{U:BF}{ds:List Nat}:MP U ds=true↔∀x t o,U.at x= .EY t o->t∉ds:=by
 unfold MP;rw[DK];constructor
 .intro h x t o hx;by_cases hl:x<U.length;.have:=h (U.at x) (by simp[BF.at,List.getD,hl]);rw[hx] at this;simpa using this
  .simp[BF.at,List.getD,hl] at hx
 .intro h s hs;obtain⟨i,hi⟩:=CF hs;cases s with
  |EY t o=>have:=h i t o (by simp[BF.at,List.getD,hi]);simpa using this
  |_=>rfl
def ah{a b:List Nat}:TZ a b=true↔∃x,x∈a/\x∈b:=by simp[TZ]
structure St where
 idx:Nat
 fp:FP
 fl:Option Kg
def KE(i:Nat)(r:Eu)(U:BF):Option Kg:=
 match r with
 | .load n p (some d)=>match U.at d with
  | .val v=>some {idx:=i,n,p,v}
  |_=>none
 |_=>none
def WD(i:Nat)(r:Eu)(U:BF)(fl:List Kg):Mr i r U fl=(KE i r U).toList++fl:=by
 cases r with
 |load n p dst=>
  cases dst with
  |none=>rfl
  |some d=>simp only[Mr,KE];cases U.at d<;>rfl
 |_=>rfl
def YL{i:Nat}{r:Eu}{U Z:BF}(h:∀d∈r.wf,Z.at d=U.at d):KE i r Z=KE i r U:=by
 cases r with
 |load n p dst=>
  cases dst with
  |none=>rfl
  |some d=>simp only[KE];rw[h d (by simp[Eu.wf])]
 |_=>rfl
def Mu(d:Option Nat)(U U':BF):Prop:=
 match d with
 |none=>U'=U
 |some d=>match U.at d with
  | .val v=>∃b,v= .bool b/\U'=U.set d (.OQ b)
  |_=>U'=U
section
variable{C:Fx}{fid:FuncId}{ops:List Oper}{run:IT->Ai->Option Ju}{U Z U':BF}{h h':Ai}
def Pg(C:Fx)(fid:FuncId)(ops:List Oper)(run:IT->Ai->Option Ju)(s:St)(U:BF)(h:Ai)(U':BF)(h':Ai):Prop:=
 ∃o,ops[s.idx]?=some o/\
  ((Ip ops U o = .Na false /\ s.fp = UF C ops U o none /\ s.fl = none /\ U' = U.put o.dst .skip /\ h' = h) \/
   ∃ r U1, Ip ops U o = .Na true /\ FT C fid ops U o = some r /\ s.fp = UF C ops U o (some r) /\ r.Nd C run (U.drop r.news) h U1 h' /\ s.fl = KE s.idx r U1 /\
     Mu (if RG ops s.idx then o.dst else none) U1 U')
def WE(U:BF)(d:Option Nat)(x:Ec):U.put d x=U.D4 (d.toList.map λs=>(s,x)):=by cases d<;>rfl
def aj(U:BF)(d:Option (Nat×Aa)):U.Dr d=U.D4 (d.toList.map λp=>(p.1,.val p.2)):=by cases d<;>rfl
def ZA{r:Eu}(hd:r.Nd C run U h U' h'):∃ws,U'=U.D4 ws/\(∀p∈ws,p.1∈r.wf)/\(∀p∈ws,∀t o,p.2= .EY t o->t∈r.vN)/\∀Z,r.Nd C run Z h (Z.D4 ws) h':=by
 have one:∀(d:Option Nat) (x:Ec),(∀t o,x≠ .EY t o)->U'=U.put d x->d.toList⊆r.wf->(∀Z,r.Nd C run Z h (Z.put d x) h')->
   ∃ws,U'=U.D4 ws/\(∀p∈ws,p.1∈r.wf)/\(∀p∈ws,∀t o,p.2= .EY t o->t∈r.vN)/\∀Z,r.Nd C run Z h (Z.D4 ws) h':=by
  intro d x hx he hw ht;refine⟨d.toList.map λs=>(s,x),by rw[<-WE];exact he,λp hp=>?_,λp hp t o hl=>?_,λZ=>by rw[<-WE];exact ht Z⟩;.obtain⟨s,hs,rfl⟩:=A4.1 hp;exact hw hs
  .obtain⟨s,hs,rfl⟩:=A4.1 hp;exact absurd hl (hx t o)
 have K9:∀(i:Option (Nat×Aa)) (d:Option Nat) (x:Ec),(∀t o,x≠ .EY t o)->U'=(U.Dr i).put d x->d.toList⊆r.wf->(i.map (·.1)).toList⊆r.wf->(∀Z,r.Nd C run Z h ((Z.Dr i).put d x) h')->
   ∃ws,U'=U.D4 ws/\(∀p∈ws,p.1∈r.wf)/\(∀p∈ws,∀t o,p.2= .EY t o->t∈r.vN)/\∀Z,r.Nd C run Z h (Z.D4 ws) h':=by
  intro i d x hx he hw k_ ht;have e:∀Z:BF,(Z.Dr i).put d x=Z.D4 ((i.toList.map λp=>(p.1,.val p.2))++d.toList.map λs=>(s,x)):=λZ=>by rw[BF.Jl,<-aj,<-WE]
  refine⟨_,by rw[he,e],λp hp=>?_,λp hp t o hl=>?_,λZ=>by rw[<-e];exact ht Z⟩
  .rcases Aq.1 hp with hp|hp
   .obtain⟨q,hq,rfl⟩:=A4.1 hp;exact k_ (by cases i<;>simp_all)
   .obtain⟨s,hs,rfl⟩:=A4.1 hp;exact hw hs
  .rcases Aq.1 hp with hp|hp
   .obtain⟨q,hq,rfl⟩:=A4.1 hp;cases hl
   .obtain⟨s,hs,rfl⟩:=A4.1 hp;exact absurd hl (hx t o)
 cases r with
 |pure ws=>obtain⟨rfl,rfl⟩:=hd;refine⟨ws,rfl,λp hp=>A4.2 ⟨p,hp,rfl⟩,λp hp t o hl=>?_,λZ=>⟨rfl,rfl⟩⟩;exact B8.2 ⟨p.2,A4.2 ⟨p,hp,rfl⟩,by rw[hl]⟩
 |op p args dst BI i=>obtain⟨v,hv,rfl,rfl⟩:=hd;exact K9 i dst _ (by cases BI<;>simp) rfl (by simp[Eu.wf]) (by simp[Eu.wf]) λZ=>⟨v,hv,rfl,rfl⟩
 |box n v d=>obtain⟨hn,rfl,rfl⟩:=hd;exact one (some d) _ Ax rfl (by simp[Eu.wf]) λZ=>⟨hn,rfl,rfl⟩
 |closure fn x b fz d=>
  obtain⟨rfl,rfl⟩:=hd;refine⟨(fz.map λ(s,cs)=>(s,.val (.Cu cs)))++[(d,.val (.func fn x b))],by rw[BF.Jl];rfl,λp hp=>?_,λp hp t o hl=>?_,λZ=>⟨by rw[BF.Jl];rfl,rfl⟩⟩
  .rcases Aq.1 hp with hp|hp
   .obtain⟨q,hq,rfl⟩:=A4.1 hp;exact Yu _ (A4.2 ⟨q,hq,rfl⟩)
   .simp at hp;subst hp;simp[Eu.wf]
  .rcases Aq.1 hp with hp|hp
   .obtain⟨q,hq,rfl⟩:=A4.1 hp;cases hl
   .simp at hp;subst hp;cases hl
 |MO s off n v BI i ver cells owned=>obtain⟨hn,rfl,rfl⟩:=hd;exact K9 i (some s) _ Ax rfl (by simp[Eu.wf]) (by simp[Eu.wf]) λZ=>⟨hn,rfl,rfl⟩
 |load n p dst=>obtain⟨v,hv,rfl,rfl⟩:=hd;exact one dst _ Ax rfl (by simp[Eu.wf]) λZ=>⟨v,hv,rfl,rfl⟩
 |store n p v=>obtain⟨hv,rfl⟩:=hd;exact one none .undef Ax rfl Ax λZ=>⟨hv,rfl⟩
 |alloc n v dst=>obtain⟨hn,rfl,rfl⟩:=hd;exact one dst _ Ax rfl (by simp[Eu.wf]) λZ=>⟨hn,rfl,rfl⟩
 |call f args dst=>obtain⟨v,hv,rfl⟩:=hd;exact one dst _ (by intro t o;split<;>simp) rfl (by simp[Eu.wf]) λZ=>⟨v,hv,rfl⟩
 |Iz g args dst=>obtain⟨f,x,v,h1,h2,rfl⟩:=hd;exact one dst _ Ax rfl (by simp[Eu.wf]) λZ=>⟨f,x,v,h1,h2,rfl⟩
 |Cb f args dst=>obtain⟨Iq,v,h1,h2,j,rfl,rfl⟩:=hd;exact one dst _ Ax rfl (by simp[Eu.wf]) λZ=>⟨Iq,v,h1,h2,j,rfl,rfl⟩
 |O1 dst=>obtain⟨rfl,rfl⟩:=hd;exact one dst _ Ax rfl (by simp[Eu.wf]) λZ=>⟨rfl,rfl⟩
 |Kc m k v=>obtain⟨hv,rfl⟩:=hd;exact one none .undef Ax rfl Ax λZ=>⟨hv,rfl⟩
 |LO z ok m k dst=>obtain⟨v,hv,rfl,rfl⟩:=hd;exact one dst _ Ax rfl (by simp[Eu.wf]) λZ=>⟨v,hv,rfl,rfl⟩
 |make z b zero l c dst=>obtain⟨v,hv,rfl⟩:=hd;exact one dst _ Ax rfl (by simp[Eu.wf]) λZ=>⟨v,hv,rfl⟩
 |KJ z b s x dst i=>obtain⟨v,hv,rfl⟩:=hd;exact K9 i dst _ Ax rfl (by simp[Eu.wf]) (by simp[Eu.wf]) λZ=>⟨v,hv,rfl⟩
 |ID z b s x dst=>obtain⟨v,hv,rfl⟩:=hd;exact one dst _ Ax rfl (by simp[Eu.wf]) λZ=>⟨v,hv,rfl⟩
 |F6 z b s x dst i=>obtain⟨v,hv,rfl,rfl⟩:=hd;exact K9 i dst _ Ax rfl (by simp[Eu.wf]) (by simp[Eu.wf]) λZ=>⟨v,hv,rfl,rfl⟩
 |ET s dst=>obtain⟨v,hv,rfl⟩:=hd;exact one dst _ Ax rfl (by simp[Eu.wf]) λZ=>⟨v,hv,rfl⟩
 |YB s dst=>obtain⟨v,u,h1,h2,rfl⟩:=hd;exact one dst _ Ax rfl (by simp[Eu.wf]) λZ=>⟨v,u,h1,h2,rfl⟩
 |mem o args dst=>obtain⟨v,hv,rfl⟩:=hd;exact one dst _ (by intro t o';split<;>simp) rfl (by simp[Eu.wf]) λZ=>⟨v,hv,rfl⟩
def To{r:Eu}(hd:r.Nd C run U h U' h')(he:r.Ru=false):h'=h/\
  (r.hl=false->∀h2,r.Nd C run U h2 U' h2)/\
  ∀n p d,r= .load n p (some d)->∃v,Bd h n p=some v/\U'=U.set d (.val v)/\∀h2,Bd h2 n p=some v->r.Nd C run U h2 U' h2:=by
 cases r<;>simp only[Eu.Ru] at he<;>try(exact absurd he AM)
 case pure ws=>obtain⟨rfl,rfl⟩:=hd;exact⟨rfl,λ_ _=>⟨rfl,rfl⟩,Ax⟩
 case op p args dst BI g=>obtain⟨v,hv,rfl,rfl⟩:=hd;exact⟨rfl,λ_ _=>⟨v,hv,rfl,rfl⟩,Ax⟩
 case box n v d=>obtain⟨hn,rfl,rfl⟩:=hd;exact⟨rfl,λ_ _=>⟨hn,rfl,rfl⟩,Ax⟩
 case closure fn x b fz d=>obtain⟨rfl,rfl⟩:=hd;exact⟨rfl,λ_ _=>⟨rfl,rfl⟩,Ax⟩
 case MO s off n v BI g ver cells owned=>obtain⟨hn,rfl,rfl⟩:=hd;exact⟨rfl,λ_ _=>⟨hn,rfl,rfl⟩,Ax⟩
 case load n p dst=>obtain⟨v,hv,rfl,rfl⟩:=hd;refine⟨rfl,λc=>absurd c (by simp[Eu.hl]),λn' p' d he=>?_⟩;cases he;exact⟨v,hv,rfl,λh2 e=>⟨v,e,rfl,rfl⟩⟩
 case LO z ok m k dst=>obtain⟨v,hv,rfl,rfl⟩:=hd;exact⟨rfl,λc=>absurd c (by simp[Eu.hl]),Ax⟩
 case Cb f args dst=>obtain⟨Iq,v,h1,h2,i,rfl,rfl⟩:=hd;exact⟨rfl,λ_ _=>⟨Iq,v,h1,h2,i,rfl,rfl⟩,Ax⟩
def T8{ds:List Nat}(hn:MP U ds=true):U.drop ds=U:=by
 refine BF.ext (BF.length_drop U ds) λt=>?_;rw[BF.RP];cases hx:U.at t with
 |EY t' o=>have:=N4.1 hn t t' o hx;simp[this]
 |_=>rfl
def QF{o:Oper}(h:∀t∈Ff ops o,Z.at t=U.at t):Ip ops Z o=Ip ops U o:=by
 unfold Ip;unfold Ff at h;cases hg:o.guard with
 |none=>rfl
 |some g=>
  obtain⟨j,want⟩:=g;rw[hg] at h;simp only at h⊢;cases hd:(ops[j]?).bind (·.dst) with
  |none=>rfl
  |some s=>
   rw[hd] at h;simp only
   rw[h s Ax]
def UO{o:Oper}{r:Eu}(hc:FT C fid ops U o=some r)(ht:∀t∈JD o.op.operands.toList,Z.at t=U.at t)(hb:∀s∈HJ C U o,Z.at s=U.at s):HJ C Z o=HJ C U o:=by
 have h:Vd C U Z o.op.operands.toList:= .wF ht
 unfold HJ at hb⊢
 cases ho:o.op with
 |load t x=>
  rw[ho] at h hb
  simp only at hb⊢
  have hn:FO C U x≠none:=λhe=>by
   unfold FT at hc
   simp only[ho] at hc
   split at hc
   .unfold Ld at hc;rw[he] at hc;split at hc<;>simp_all
   .cases hc
  unfold NQ
  rw[h.addr Ir hb hn]
 |store t x y=>
  rw[ho] at h hb
  simp only at hb⊢
  have hn:FO C U x≠none:=λhe=>by
   unfold FT at hc
   simp only[ho] at hc
   split at hc
   .unfold I1 at hc;rw[he] at hc;split at hc<;>simp_all
   .cases hc
  unfold NQ
  rw[h.addr Ir hb hn]
 |_=>rfl
def T9{xs:List Ec}{t o:Nat}(h: .EY t o∈xs):t∈Va xs:=B8.2 ⟨_,h,rfl⟩
def Pg.spec{s:St}(hs:Pg C fid ops run s U h U' h')(hf:s.fp.Tf=true):
  ∃ws,U'=U.D4 ws/\(∀p∈ws,p.1∈s.fp.wf)/\(∀p∈ws,∀t o,p.2= .EY t o->t∈s.fp.lr)/\(∀x∈s.fp.wf,∀t o,U.at x= .EY t o->t∈s.fp.lr)/\MP U s.fp.news=true/\(s.fp.Ru=false->h'=h)/\
   (s.fp.Ru=false->s.fp.hl=true->∃f,s.fl=some f)/\
   ∀(Z:BF) (h2 kH:Ai),Z.length=U.length->(∀x∈s.fp.rs++s.fp.wf,Z.at x=U.at x)->MP Z s.fp.news=true->
    ((h2=h/\kH=h')\/(s.fp.Ru=false/\kH=h2/\(s.fp.hl=true->∀f,s.fl=some f->Bd h2 f.n f.p=some f.v)))->Pg C fid ops run s Z h2 (Z.D4 ws) kH:=by
 obtain⟨o,ho,⟨hg,ĭ,Iq,rfl,rfl⟩|⟨r,U1,hg,hc,ĭ,hd,Iq,ha⟩⟩:=hs
 .rw[ĭ] at hf⊢;refine⟨o.dst.toList.map λd=>(d,.skip),WE _ _ _,λp hp=>?_,λp hp t k hl=>?_,λx hx t k hl=>?_,N4.2 (by simp[UF]),λ_=>rfl,λ_ i=>absurd i (by simp[UF]),λZ h2 kH hlen lf _ IB=>?_⟩;.obtain⟨d,hd,rfl⟩:=A4.1 hp;exact hd
  .obtain⟨d,hd,rfl⟩:=A4.1 hp;cases hl
  .exact T9 (o:=k) (A4.2 ⟨x,hx,hl⟩)
  .have i:kH=h2:=by rcases IB with⟨A,z⟩|⟨_,e,_⟩<;>first|exact e|rw[A,z]
   refine⟨o,ho,.inl ⟨?_,?_,Iq,(WE _ _ _).symm,i⟩⟩;.rw[QF λt ht=>lf t (Cs _ ht)];exact hg
   .rw[ĭ];have e:o.dst.toList.map Z.at=o.dst.toList.map U.at:=Zc λx hx=>lf x (BG _ hx);simp only[UF,e]
 .rw[ĭ] at hf⊢;have lg:r.Tf U=true:=hf;have Qp:MP U r.news=true:=by unfold Eu.Tf at lg;rw[A7] at lg;exact lg.1
  rw[T8 Qp] at hd;obtain⟨lj,rfl,hw,y,aS⟩:=ZA hd;have aGL:∃g:List (Nat×Ec),U'=(U.D4 lj).D4 g/\(∀p∈g,o.dst=some p.1/\∃b,p.2= .OQ b)/\∀Z:BF,Z.length=U.length->(∀x∈r.wf++o.dst.toList,Z.at x=U.at x)->Mu (if RG ops s.idx then o.dst else none) (Z.D4 lj) ((Z.D4 lj).D4 g):=by
   by_cases c:RG ops s.idx=true
   .rw[Ag c] at ha;cases RV:o.dst with
    |none=>rw[RV] at ha;exact⟨[],ha,Ax,λZ _ _=>by simp[c,Mu,BF.D4]⟩
    |some d=>
     rw[RV] at ha;simp only[Mu] at ha;have Ù:∀Z:BF,Z.length=U.length->(∀x∈r.wf++[d],Z.at x=U.at x)->(Z.D4 lj).at d=(U.D4 lj).at d:=λZ hl lf=>BF.IU lj U Z d hl (lf d Ax);cases hx:(U.D4 lj).at d with
     |val v=>rw[hx] at ha;obtain⟨b,rfl,rfl⟩:=ha;refine⟨[(d,.OQ b)],rfl,Ax,λZ hl lf=>?_⟩;simp only[c,BE,Mu];rw[Ù Z hl lf,hx];exact⟨b,rfl,rfl⟩
     |_=>rw[hx] at ha;refine⟨[],ha,Ax,λZ hl lf=>?_⟩;simp only[c,BE,Mu];rw[Ù Z hl lf,hx];rfl
   .rw[Af c] at ha;exact⟨[],ha,Ax,λZ _ _=>by rw[Af c];rfl⟩
  obtain⟨g,rfl,k_,aB2⟩:=aGL;have m:r.hl=true->∃n p d,r= .load n p (some d)/\d<U.length:=λi=>by
   unfold Eu.Tf at lg;rw[A7] at lg;cases r with
   |load n p dst=>
    cases dst with
    |none=>exact absurd lg.2 Ax
    |some d=>exact⟨n,p,d,rfl,by simpa using lg.2⟩
   |LO _ _ _ _ _=>exact absurd lg.2 Ax
   |_=>simp[Eu.hl] at i
  have aB3:r.Ru=false->∀n p d,r= .load n p (some d)->d<U.length->∃v,Bd h n p=some v/\s.fl=some {idx:=s.idx,n,p,v}:=by intro he n p d hr fy;obtain⟨v,q,l,_⟩:=(To hd he).2.2 n p d hr;refine⟨v,q,?_⟩;rw[Iq,hr];simp only[KE];rw[l,BF.Fa fy]
  have aGM:∀(Z:BF) h2 kH,((h2=h/\kH=h')\/(r.Ru=false/\kH=h2/\(r.hl=true->∀f,s.fl=some f->Bd h2 f.n f.p=some f.v)))->r.Nd C run Z h2 (Z.D4 lj) kH:=by
   intro Z h2 kH IB;rcases IB with⟨rfl,rfl⟩|⟨he,rfl,T4⟩
   .exact aS Z
   .obtain⟨_,F,E⟩:=To (aS Z) he;cases i:r.hl with
    |false=>exact F i _
    |true=>obtain⟨n,p,d,hr,fy⟩:=m i;obtain⟨v,q,l⟩:=aB3 he n p d hr fy;obtain⟨v',B,_,D⟩:=E n p d hr;rw[q] at B;cases B;exact D _ (T4 i _ l)
  refine⟨lj++g,by rw[BF.Jl],λp hp=>?_,λp hp t k hl=>?_,λx hx t k hl=>?_,Qp,λhe=>(To hd he).1,λhe i=>?_,λZ h2 kH hlen lf u IB=>?_⟩
  .rcases Aq.1 hp with hp|hp
   .exact Cs _ (hw p hp)
   .exact BG _ (by rw[(k_ p hp).1];simp)
  .rcases Aq.1 hp with hp|hp
   .exact BG _ (y p hp t k hl)
   .obtain⟨_,b,e⟩:=k_ p hp;rw[e] at hl;cases hl
  .exact Cs _ (T9 (o:=k) (A4.2 ⟨x,hx,hl⟩))
  .obtain⟨n,p,d,hr,fy⟩:=m i;obtain⟨v,_,l⟩:=aB3 he n p d hr fy;exact⟨_,l⟩
  .have j:∀t∈Ff ops o++JD o.op.operands.toList++HJ C U o,Z.at t=U.at t:=λt ht=>lf t (Cs _ ht);have hwf:∀t∈r.wf++o.dst.toList,Z.at t=U.at t:=λt ht=>lf t (BG _ ht);have ht:∀t∈JD o.op.operands.toList,Z.at t=U.at t:=λt ht=>j t (by simp[ht]);have hb:∀t∈HJ C U o,Z.at t=U.at t:=λt ht=>j t (by simp[ht]);have aB4:MP Z r.news=true:=u;refine⟨o,ho,.inr ⟨r,Z.D4 lj,?_,WA hc ht hb,?_,?_,?_,?_⟩⟩;.rw[QF λt ht=>j t (by simp[ht])];exact hg
   .rw[ĭ];have A:(r.wf++o.dst.toList).map Z.at=(r.wf++o.dst.toList).map U.at:=Zc λx hx=>hwf x hx;have z:r.Tf Z=r.Tf U:=by unfold Eu.Tf;rw[Qp,aB4,hlen]
    simp only[UF,A,z,UO hc ht hb]
   .rw[T8 aB4];exact aGM Z h2 kH IB
   .rw[Iq];exact(YL λd hd=>BF.IU lj U Z d hlen (hwf d (Cs _ hd))).symm
   .rw[BF.Jl];exact aB2 Z hlen hwf
end
end Go.Am
end
section
namespace Go.Am
open Go
section
variable{C:Fx}{fid:FuncId}{ops:List Oper}{run:IT->Ai->Option Ju}{an:List Nat}
def LG{a b:List Nat}(h:(!TZ a b)=true){x:Nat}(hx:x∈a):x∉b:=λhb=>by have:TZ a b=true:=ah.2 ⟨x,hx,hb⟩;simp[this] at h
def swap{p s:St}{U σa U1:BF}{h ha h1:Ai}(hp:Pg C fid ops run p U h σa ha)(hs:Pg C fid ops run s σa ha U1 h1)(Lr:Q0 p.fp s.fp=true)
  (T4:s.fp.Ru=true->∀f,p.fl=some f->Bd h1 f.n f.p=some f.v):
  ∃σs j8,Pg C fid ops run s U h σs j8/\Pg C fid ops run p σs j8 U1 h1/\(s.fp.Ru=true->j8=h1)/\(p.fp.Ru=true->h1=ha):=by
 unfold Q0 FP.apart at Lr;simp only[A7] at Lr;obtain⟨⟨⟨⟨pf,A⟩,⟨⟨a1,a2⟩,a3⟩,a4⟩,he⟩,hl⟩:=Lr;obtain⟨c,rfl,l,v8,z,f_,u,E,Ú⟩:=hp.spec pf;obtain⟨b,rfl,k,pC,B,m,o9,D,ll⟩:=hs.spec A;have i:∀x∈s.fp.rs++s.fp.wf,(U.D4 c).at x=U.at x:=λx hx=>BF.Gn c U x λq hq e=>LG a1 (l q hq) (by rw[e];exact hx);have d:MP U s.fp.news=true:=by
  rw[N4] at m⊢;intro x t o hx;by_cases hw:x∈p.fp.wf;.exact LG a3 (z x hw t o hx)
  .refine m x t o ?_;rw[BF.Gn c U x λq hq e=>hw (by rw[<-e];exact l q hq)];exact hx
 have hlen:∀(Z:BF) (ws:List (Nat×Ec)),(Z.D4 ws).length=Z.length:=λZ ws=>BF.Jm ws Z;have Û:(U.D4 b).D4 c=(U.D4 c).D4 b:=(BF.ag λq hq r hr e=>by have:=LG a1 (l q hq);exact this (BG _ (by rw[e];exact k r hr))).symm
 have outs:∀x∈p.fp.rs++p.fp.wf,(U.D4 b).at x=U.at x:=λx hx=>BF.Gn b U x λq hq e=>by
  rcases Aq.1 hx with hx|hx
  .exact LG a2 (k q hq) (by rw[e];exact hx)
  .exact LG a1 hx (BG _ (by rw[<-e];exact k q hq))
 have y:MP (U.D4 b) p.fp.news=true:=by
  rw[N4] at f_⊢;intro x t o hx;rcases BF.WC b U x with h0|⟨q,hq,_,h2⟩
  .exact f_ x t o (by rw[<-h0];exact hx)
  .rw[h2] at hx;exact LG a4 (pC q hq t o hx)
 by_cases I8:s.fp.Ru=true
 .have g:p.fp.Ru=false:=by
   cases hq:p.fp.Ru with
   |false=>rfl
   |true=>simp[I8,hq] at he
  have j:ha=h:=u g;subst j;refine⟨U.D4 b,h1,ll U ha h1 (hlen U c).symm (λx hx=>(i x hx).symm) d (.inl ⟨rfl,rfl⟩),?_,λ_=>rfl,λe=>by rw[g] at e;cases e⟩;rw[<-Û];exact Ú (U.D4 b) h1 h1 (hlen U b) outs y (.inr ⟨g,rfl,λ_ f hf=>T4 I8 f hf⟩)
 .have aB5:s.fp.Ru=false:=by simpa using I8
  have Į:h1=ha:=o9 aB5;subst Į;refine⟨U.D4 b,h,?_,?_,λe=>absurd e I8,λ_=>rfl⟩
  .by_cases g:p.fp.Ru=true;.refine ll U h h (hlen U c).symm (λx hx=>(i x hx).symm) d (.inr ⟨aB5,rfl,λF=>?_⟩);simp[g,F] at hl
   .have aGP:p.fp.Ru=false:=by simpa using g
    have j:=u aGP;exact ll U h h (hlen U c).symm (λx hx=>(i x hx).symm) d (.inl ⟨j.symm,j.symm⟩)
  .rw[<-Û];exact Ú (U.D4 b) h h1 (hlen U b) outs y (.inl ⟨rfl,rfl⟩)
inductive Steps(C:Fx)(fid:FuncId)(ops:List Oper)(run:IT->Ai->Option Ju)(an:List Nat):List Kg->List St->BF->Ai->BF->Ai->Prop
 |nil {fl:List Kg} {U:BF} {h:Ai}:Steps C fid ops run an fl [] U h U h
 |cons {fl:List Kg} {s:St} {L:List St} {U U1 σf:BF} {h h1 hf:Ai}:Pg C fid ops run s U h U1 h1->(s.fp.Ru=true->∀f∈fl,Ed an f.idx s.idx=false->Bd h1 f.n f.p=some f.v)->
  Steps C fid ops run an (s.fl.toList++fl) L U1 h1 σf hf->Steps C fid ops run an fl (s::L) U h σf hf
def Steps.sub{fl:List Kg}{L:List St}{U σf:BF}{h hf:Ai}(hs:Steps C fid ops run an fl L U h σf hf):∀{b:List Kg},(∀f∈b,f∈fl)->Steps C fid ops run an b L U h σf hf:=by
 induction hs with
 |nil=>intro b _;exact .nil
 |cons h1 h2 _ ih=>
  intro b WG;refine .cons h1 (λhe f hf hb=>h2 he f (WG f hf) hb) (ih λf hf=>?_);rcases Aq.1 hf with hf|hf
  .exact Cs _ hf
  .exact BG _ (WG f hf)
def Pg.į{s:St}{U U':BF}{h h':Ai}(hs:Pg C fid ops run s U h U' h'){f:Kg}(hf:s.fl=some f):f.idx=s.idx:=by
 obtain⟨o,_,⟨_,_,Iq,_⟩|⟨r,U1,_,_,_,_,Iq,_⟩⟩:=hs;.rw[Iq] at hf;cases hf
 .rw[Iq] at hf;unfold KE at hf;split at hf
  .split at hf;.cases hf;rfl
   .cases hf
  .cases hf
def Steps.lt{fl:List Kg}{L:List St}{U σf:BF}{h hf:Ai}(hs:Steps C fid ops run an fl L U h σf hf):∀q∈L,q.idx<ops.length:=by
 induction hs with
 |nil=>simp
 |cons h1 _ _ ih=>
  intro q hq;rcases AF.1 hq with rfl|hq
  .obtain⟨o',h2,_⟩:=h1;exact(Al.1 h2).1
  .exact ih q hq
def Ü{s:St}{B:List St}{σf:BF}{hf:Ai}:∀{A:List St} {fl:List Kg} {U:BF} {h:Ai},Steps C fid ops run an fl (A++s::B) U h σf hf->(∀p∈A,Q0 p.fp s.fp=true/\Ed an p.idx s.idx=false)->
  ∃U1 h1,Pg C fid ops run s U h U1 h1/\(s.fp.Ru=true->∀f∈fl,Ed an f.idx s.idx=false->Bd h1 f.n f.p=some f.v)/\Steps C fid ops run an (s.fl.toList++fl) (A++B) U1 h1 σf hf
 |[],fl,U,h,hs,_=>by
  cases hs with
  |cons h1 h2 c=>exact⟨_,_,h1,h2,c⟩
 |p::A,fl,U,h,hs,i=>by
  cases hs with
  |cons h1 h2 c=>
   rename_i σa ha;obtain⟨U1,Ñ,e,d,m⟩:=Ü c λq hq=>i q (by simp[hq]);obtain⟨Lr,aGQ⟩:=i p Ax;obtain⟨σs,j8,w1,l,k,j⟩:=swap h1 e Lr λhe f hf=>d he f (by rw[hf];simp) (by rw[h1.į hf];exact aGQ);refine⟨σs,j8,w1,λhe f hf hb=>?_,.cons l (λhe f hf hb=>?_) (m.sub λf hf=>?_)⟩;.rw[k he];exact d he f (BG _ hf) hb
   .rw[j he];rcases Aq.1 hf with hf|hf
    .exfalso;unfold Q0 at Lr;simp only[A7] at Lr;obtain⟨⟨⟨⟨_,x⟩,_⟩,t⟩,hl⟩:=Lr;cases qO:s.fl with
     |none=>rw[qO] at hf;simp at hf
     |some g=>
      have b:s.fp.hl=true:=by
       obtain⟨o,_,⟨_,_,Iq,_⟩|⟨r,u,_,_,ĭ,_,Iq,_⟩⟩:=e;.rw[Iq] at qO;cases qO
       .rw[Iq] at qO;unfold KE at qO;split at qO;.rw[ĭ];rfl
        .cases qO
      simp[he,b] at hl
    .exact h2 he f hf hb
   .rcases Aq.1 hf with hf|hf
    .exact BG _ (Cs _ hf)
    .rcases Aq.1 hf with hf|hf
     .exact Cs _ hf
     .exact BG _ (BG _ hf)
def QG{DE:List Nat}{x:Nat}:∀(ds:List Nat) (m:Nat),(ds.foldl (λm e=>m|||bit e|||DE.getD e 0) m).testBit x=true↔m.testBit x=true\/∃e∈ds,x=e\/(DE.getD e 0).testBit x=true
 |[],m=>Ax
 |d::ds,m=>by
  rw[fk,QG ds];simp only[Nat.testBit_or,bit,Nat.testBit_two_pow,OA,Co,AF,exists_eq_or_imp];constructor
  .rintro((h|h)|h)
   .rcases h with h|h
    .exact .inl h
    .exact .inr (.inl (.inl h.symm))
   .exact .inr (.inl (.inr h))
   .exact .inr (.inr h)
  .rintro(h|(h|h)|h);.exact .inl (.inl (.inl h))
   .exact .inl (.inl (.inr h.symm))
   .exact .inl (.inr h)
   .exact .inr h
def Lw:∀(l:List Oper) (DE:List Nat) (i:Nat),i<DE.length->(KN DE l).getD i 0=DE.getD i 0
 |[],DE,i,h=>rfl
 |o::l,DE,i,h=>by rw[KN,Lw l _ i Ek];simp[List.getD,An h]
def QH:∀(l:List Oper) (DE:List Nat) (k:Nat) (o:Oper),l[k]?=some o->(∀e∈Oper.UE o,e<DE.length+k)->∀x,
  ((KN DE l).getD (DE.length+k) 0).testBit x=true↔∃e∈Oper.UE o,x=e\/((KN DE l).getD e 0).testBit x=true
 |[],DE,k,o,h,_,x=>by simp at h
 |o'::l,DE,0,o,h,hd,x=>by
  simp at h;subst h;rw[KN,Lw l _ (DE.length+0) Ax];have b:(DE++[(Oper.UE o').foldl (λm e=>m|||bit e|||DE.getD e 0) 0]).getD (DE.length+0) 0=(Oper.UE o').foldl (λm e=>m|||bit e|||DE.getD e 0) 0:=by simp[List.getD]
  rw[b,QG];simp only[Nat.zero_testBit,Ch,false_or];constructor;.rintro⟨e,he,h⟩;refine⟨e,he,h.imp id λh=>?_⟩;have hlt:e<DE.length:=hd e he;rw[Lw l _ e Ek];simpa[List.getD,An hlt] using h
  .rintro⟨e,he,h⟩;refine⟨e,he,h.imp id λh=>?_⟩;have hlt:e<DE.length:=hd e he;rw[Lw l _ e Ek] at h;simpa[List.getD,An hlt] using h
 |o'::l,DE,k+1,o,h,hd,x=>by simp at h;rw[KN];have:=QH l (DE++[(Oper.UE o').foldl (λm e=>m|||bit e|||DE.getD e 0) 0]) k o h (λe he=>by have:=hd e he;simp;omega) x;simp only[Ao,AG,Bk,BB] at this;rw[(Ac:DE.length+(k+1)=DE.length+1+k)];exact this
def ZB{i:Nat}{o:Oper}(ho:ops[i]?=some o)(hd:∀e∈Oper.UE o,e<i)(x:Nat):Ed (V8 ops) x i=true↔∃e∈Oper.UE o,x=e\/Ed (V8 ops) x e=true:=by have:=QH ops [] i o ho (by simpa using hd) x;simpa[Ed,V8] using this
def Ph(h:aQ ops=true){i:Nat}{o:Oper}(ho:ops[i]?=some o):∀e∈Oper.UE o,e<i:=by
 unfold aQ at h;rw[DK] at h;have:=h (o,i) (by refine Cr (i:=i) ?_;simp[List.getElem?_zipIdx,ho])
 intro e he;simpa using DK.1 this e he
def ZC:∀{l:List (Nat×FP)},Wa.go an l=true->l.Pairwise λx y=>x.1≠y.1/\Ed an y.1 x.1=false/\(Ed an x.1 y.1=true\/Q0 x.2 y.2=true)
 |[],_=> .nil
 |(i,f)::l,h=>by simp only[Wa.go,A7,DK] at h;refine .cons (λy hy=>?_) (ZC h.2);have:=h.1 y hy;simp only[bne_iff_ne,aLq,OA] at this;exact⟨this.1.1,this.1.2,this.2⟩
def lp{d:Option Nat}{U:BF}{K:BF->IT}{h:Ai}{R:Ju}(hr:IT.step (BZ C) run (vO d U K) h=some R):∃U',Mu d U U'/\IT.step (BZ C) run (K U') h=some R:=by
 unfold vO at hr;cases d with
 |none=>exact⟨U,rfl,hr⟩
 |some d=>
  simp only at hr;cases hx:U.at d with
  |val v=>
   rw[hx] at hr;simp only[IT.step] at hr;split at hr;.exact⟨U.set d (.OQ true),by simp only[Mu,hx];exact⟨true,rfl,rfl⟩,hr⟩
   .exact⟨U.set d (.OQ false),by simp only[Mu,hx];exact⟨false,rfl,rfl⟩,hr⟩
   .cases hr
  |_=>rw[hx] at hr;exact⟨U,by simp only[Mu,hx],hr⟩
def N5{i:Nat}{t:IT}{h:Ai}{R:Ju}:∀{fl:List Kg},IT.step (BZ C) run (RF an i fl t) h=some R->(∀f∈fl,Ed an f.idx i=false->Bd h f.n f.p=some f.v)/\IT.step (BZ C) run t h=some R
 |[],hr=>⟨Ax,hr⟩
 |f::fl,hr=>by
  unfold RF at hr;by_cases hb:Ed an f.idx i=true
  .rw[Ag hb] at hr;obtain⟨d,c⟩:=N5 hr;refine⟨λg hg b=>?_,c⟩;rcases AF.1 hg with rfl|hg
   .rw[hb] at b;cases b
   .exact d g hg b
  .rw[Af hb] at hr;simp only[IT.step] at hr;split at hr
   .rename_i v hv;split at hr
    .rename_i Kb;obtain⟨d,c⟩:=N5 hr;refine⟨λg hg b=>?_,c⟩;rcases AF.1 hg with rfl|hg
     .rw[Aa.beq_eq Kb];exact hv
     .exact d g hg b
    .cases hr
   .cases hr
def Q9{K:BF->IT}{R:Ju}:∀{rest:List Nat} {b:List (Nat×FP)} {fl:List Kg} {U:BF} {h:Ai},IT.step (BZ C) run (Q1 C fid ops an rest b fl U K) h=some R->
  ∃L σf hf,Steps C fid ops run an fl L U h σf hf/\Wa ops.length an (b.reverse++L.map λs=>(s.idx,s.fp))=true/\IT.step (BZ C) run (K σf) hf=some R
 |[],b,fl,U,h,hr=>by
  unfold Q1 at hr;split at hr;.rename_i Lr;exact⟨[],U,h,.nil,by simpa using Lr,hr⟩
  .cases hr
 |i::rest,b,fl,U,h,hr=>by
  unfold Q1 at hr;cases ho:ops[i]? with
  |none=>rw[ho] at hr;cases hr
  |some o=>
   rw[ho] at hr;simp only at hr;split at hr
   .rename_i hg;split at hr;.cases hr
    .rename_i r hc;obtain⟨U1,h1,hd,hr⟩:=Zl hr;have Hn:(r.Ru=true->∀f∈fl,Ed an f.idx i=false->Bd h1 f.n f.p=some f.v)/\IT.step (BZ C) run (vO (if RG ops i then o.dst else none) U1 λj=>Q1 C fid ops an rest ((i,UF C ops U o (some r))::b) (Mr i r U1 fl) j K) h1=some R:=by
      split at hr;.obtain⟨d,c⟩:=N5 hr;exact⟨λ_=>d,c⟩
      .rename_i he;exact⟨λe=>absurd e he,hr⟩
     obtain⟨T4,hr⟩:=Hn;obtain⟨U',ha,hr⟩:=lp hr;rw[WD] at hr;obtain⟨L,σf,hf,d,c,g⟩:=Q9 hr;exact⟨{idx:=i,fp:=UF C ops U o (some r),fl:=KE i r U1}::L,σf,hf,.cons ⟨o,ho,.inr ⟨r,U1,hg,hc,rfl,hd,rfl,ha⟩⟩ T4 d,by simpa using c,g⟩
   .rename_i hg;obtain⟨L,σf,hf,d,c,g⟩:=Q9 hr;exact⟨{idx:=i,fp:=UF C ops U o none,fl:=none}::L,σf,hf,.cons ⟨o,ho,.inl ⟨hg,rfl,rfl,rfl,rfl⟩⟩ (λe=>by simp[UF] at e) d,by simpa using c,g⟩
   .cases hr
end
section
variable{C:Fx}{γ0 γ:Gh}{w0 w:World}{O:Nat->Nat}{U:BF}{h:Ai}{a:Act}{fid:FuncId}
def Lx(hr:CW C γ0 w0 γ O U h a w){ops:Array Oper}{o:Oper}{b:Bool}(hg:Ip ops.toList U o= .Na b):Region.wanted o (yielded ops a.tmps)=b:=by
 unfold Ip at hg;unfold Region.wanted;cases ho:o.guard with
 |none=>rw[ho] at hg;cases hg;rfl
 |some g=>
  obtain⟨j,want⟩:=g;rw[ho] at hg;simp only[aBI] at hg⊢;unfold yielded;cases hd:(ops[j]?).bind (·.dst) with
  |none=>rw[hd] at hg;cases hg
  |some s=>
   rw[hd] at hg;simp only[Cd] at hg⊢;have h0:=hr.fr.HT s;cases hx:U.at s with
   |OQ c=>
    rw[hx] at hg h0;cases hg;have hl:s<a.tmps.size:=by rw[<-hr.fr.size];exact BF.O7 (by rw[hx];simp)
    have hv:a.tmps.getD s undef= .bool c:=h0;have:a.tmps[s]?=some (.bool c):=by rw[CH hl];rw[GJ,CH hl] at hv;exact Cm some hv
    rw[this];rfl
   |skip=>
    rw[hx] at hg h0;cases hg;have hv:a.tmps.getD s undef=undef:=h0;have hne:∀c,a.tmps[s]?≠some (.bool c):=λc hc=>by rw[GJ,hc] at hv;cases hv
    cases ht:a.tmps[s]? with
    |none=>rfl
    |some v=>
     cases v with
     |bool c=>exact absurd ht (hne c)
     |_=>rfl
   |val v=>rw[hx] at hg;cases hg
   |_=>rw[hx] at hg;cases hg
def CW.aB7(hr:CW C γ0 w0 γ O U h a w){d:Option Nat}{U':BF}(ha:Mu d U U'):CW C γ0 w0 γ O U' h a w:=by
 unfold Mu at ha;cases d with
 |none=>simp only at ha;rw[ha];exact hr
 |some d=>
  simp only at ha;cases hx:U.at d with
  |val v=>rw[hx] at ha;obtain⟨b,rfl,rfl⟩:=ha;have h0:=hr.fr.HT d;rw[hx] at h0;exact hr.kS h0
  |_=>rw[hx] at ha;rw[ha];exact hr
structure aGR(ops:Array Oper)(listed:Array Bool)(L:List St):Prop where
 size:listed.size=ops.size
 un:∀i,i<ops.size->(listed.getD i false=false↔i∈L.map (·.idx))
 closed:∀j,listed.getD j false=true->∀e,Ed (V8 ops.toList) e j=true->listed.getD e false=true
abbrev wG(an:List Nat)(L:List St):Prop:=L.Pairwise λx y=>x.idx≠y.idx/\Ed an y.idx x.idx=false/\(Ed an x.idx y.idx=true\/Q0 x.fp y.fp=true)
def ak{run:IT->Ai->Option Ju}(D:EV C run){ops:Array Oper}{Q:Exit->Act->World->Prop}(FI:aQ ops.toList=true){σf:BF}{hf:Ai}(hQ:∀γ' k a' w',CW C γ0 w0 γ' k σf hf a' w'->Q .normal a' w'):
  ∀(fuel:Nat) (L:List St) (listed:Array Bool) (γ:Gh) (O:Nat->Nat) (U:BF) (h:Ai) (a:Act) (w:World),L.length=fuel->Steps C fid ops.toList run (V8 ops.toList) [] L U h σf hf->wG (V8 ops.toList) L->aGR ops listed L->CW C γ0 w0 γ O U h a w->
   wpAny C.P .any ops Q fuel listed a w:=by
 intro fuel;induction fuel with
 |zero=>
  intro L listed γ O U h a w l hs hp ho hr;have u:L=[]:=Cy l;subst u;cases hs;refine⟨List.eq_nil_iff_forall_not_mem.2 λi hi=>?_,hQ _ _ _ _ hr⟩;obtain⟨h0,o,vw,_⟩:=mem_ready.1 hi;have hlt:i<ops.size:=(AO.1 vw).1;have aa:listed.getD i false=false:=by
   have hl:i<listed.size:=by rw[ho.size];exact hlt
   simpa[Array.getD,hl] using h0
  have:=(ho.un i hlt).1 aa;simp at this
 |succ fuel ih=>
  intro L listed γ O U h a w l hs hp ho hr;have bB:∀i,i<ops.size->listed.getD i true=listed.getD i false:=λi hi=>by
   have hl:i<listed.size:=by rw[ho.size];exact hi
   simp[Array.getD,hl]
  constructor
  .intro T4;exfalso;cases L with
   |nil=>simp at l
   |cons s0 L=>
    obtain⟨o,vw,_⟩:∃o,ops.toList[s0.idx]?=some o/\True:=by
     cases hs with
     |cons h1 _ _=>obtain⟨o,h2,_⟩:=h1;exact⟨o,h2,trivial⟩
    have qP:ops[s0.idx]?=some o:=by simpa using vw
    have hlt:s0.idx<ops.size:=(AO.1 qP).1;have:s0.idx∈Region.ready .any ops listed:=by
     refine mem_ready.2 ⟨?_,o,qP,λe he hb=>?_⟩;.rw[bB _ hlt];exact(ho.un _ hlt).2 Ax
     .have f:e.on∈Oper.UE o:=B8.2 ⟨e,by simpa using he,by rw[Ag hb]⟩;have z:=Ph FI vw e.on f;cases hl:listed.getD e.on false with
      |true=>rfl
      |false=>
       have hm:=(ho.un e.on Ac).1 hl;simp only[A9,AF] at hm;rcases hm with hm|hm
       .omega
       .obtain⟨y,hy,m⟩:=A4.1 hm;have:=((aJP.1 hp).1 y hy).2.1;rw[m,(ZB vw (Ph FI vw) e.on).2 ⟨e.on,f,.inl rfl⟩] at this;cases this
    rw[T4] at this;cases this
  .intro i hi;obtain⟨h0,o,vw,aB8⟩:=mem_ready.1 hi;have hlt:i<ops.size:=(AO.1 vw).1;rw[bB i hlt] at h0;obtain⟨s,n,rfl⟩:=A4.1 ((ho.un i hlt).1 h0);obtain⟨A,B,rfl⟩:=List.append_of_mem n;have qP:ops.toList[s.idx]?=some o:=by simpa using vw
   have aB9:∀e,Ed (V8 ops.toList) e s.idx=true->listed.getD e false=true:=λe he=>by
    obtain⟨d,hd,IB⟩:=(ZB qP (Ph FI qP) e).1 he;obtain⟨E,f,hb⟩:=B8.1 hd;split at hb
    .rename_i S5;cases hb;have fy:=aB8 E (by simpa using f) S5;rcases IB with rfl|IB
     .exact fy
     .exact ho.closed _ fy e IB
    .cases hb
   have b:=(aFw.1 hp).2.2;have İ:∀p∈A++s::B,p.idx<ops.size:=λp t=>by simpa using hs.lt p t
   obtain⟨U1,h1,x,_,v⟩:=Ü hs λp g=>by
    have hb:Ed (V8 ops.toList) p.idx s.idx=false:=by
     cases S5:Ed (V8 ops.toList) p.idx s.idx with
     |false=>rfl
     |true=>have h1:=aB9 _ S5;have h2:=(ho.un p.idx (İ p (by simp[g]))).2 (A4.2 ⟨p,by simp[g],rfl⟩);rw[h1] at h2;cases h2
    refine⟨?_,hb⟩;have:=(b p g s Ax).2.2;rw[hb] at this;exact this.resolve_left Ax
   have Ý:∀γ' k a' w',CW C γ0 w0 γ' k U1 h1 a' w'->wpAny C.P .any ops Q fuel (listed.setIfInBounds s.idx true) a' w':=λγ' k a' w' Hn=>by
    refine ih (A++B) _ γ' k U1 h1 a' w' (by simp at l⊢;omega) (v.sub Ax) ?_ ⟨by simp[ho.size],λj hj=>?_,λj hj e he=>?_⟩ Hn;.exact hp.sublist ((AE A).append (TT s B))
    .by_cases c:j=s.idx
     .subst c;have ı:s.idx∉(A++B).map (·.idx):=λhm=>by
       obtain⟨q,hq,he⟩:=A4.1 hm;rcases Aq.1 hq with hq|hq
       .exact(b q hq s Ax).1 he
       .exact(aJP.1 (aFw.1 hp).2.1).1 q hq |>.1 he.symm
      have ht:(listed.setIfInBounds s.idx true).getD s.idx false=true:=by
       have hl:s.idx<listed.size:=by rw[ho.size];exact hlt
       simp[Array.getD,hl]
      rw[ht];exact⟨λe=>absurd e Ax,λe=>absurd e ı⟩
     .rw[getD_set_ne false (λe=>c e.symm),ho.un j hj];simp only[BW,A9,Aq,AF];constructor
      .rintro(e|e|e);.exact .inl e
       .exact absurd e c
       .exact .inr e
      .rintro(e|e);.exact .inl e
       .exact .inr (.inr e)
    .by_cases c:j=s.idx;.subst c;exact getD_set_true (aB9 e he)
     .rw[getD_set_ne false (λe=>c e.symm)] at hj;exact getD_set_true (ho.closed j hj e he)
   unfold wpOp;rw[vw];obtain⟨o',vr,⟨hg,_,_,rfl,rfl⟩|⟨r,F,hg,hc,_,hd,_,ha⟩⟩:=x;.rw[qP] at vr;cases vr;simp only[Lx hr hg,Ch,DR];exact Ý _ _ _ _ (hr.put λ_ _=>rfl)
   .rw[qP] at vr;cases vr;simp only[Lx hr hg,BE];exact .inl (kz D hc hd hr λγ' k a' w' Hn=>Ý γ' k a' w' (Hn.aB7 ha))
end
end Go.Am
end
end
