/- Lemmas -/
import Derived.Test.YtjjnhgoknielgaaGreatDoorW5
import Derived.MapKept
set_option linter.all false
section
namespace Go.Am
open Go
section
variable{C:Gw}{γ0 γ γ':Gh}{w0 w w':World}{Z:Nat->Nat}{U:BT}{h:Ai}{a:Act}{fid:FuncId}{ops:List Oper}
def Yb{s t:Ah}(h:s≠t):((⟨⟨s⟩⟩:ByteArray)==⟨⟨t⟩⟩)=false:=by
 refine Bool.eq_false_iff.2 λhc=>h ?_;have:=(MapKept.bytes_beq _ _).1 hc;injection this with this
 injection this with this
def SB(s:Ah):((⟨⟨s⟩⟩:ByteArray)==⟨⟨s⟩⟩)=true:=(MapKept.bytes_beq _ _).2 rfl
def nX{s:Ah}:∀{es:List (Ab×Ab)} {l:List MapEntry} {i:Nat} {r:Option Ab},L9 γ es l->Tj s es=some r->
  match r with
  |none=>Instr.findNow .string (.string ⟨⟨s⟩⟩) l i=some none
  |some v=>∃(j:Nat) (e:MapEntry),Instr.findNow .string (.string ⟨⟨s⟩⟩) l i=some (some (i+j,e.val))/\BQ γ v e.val
 |[],l,i,r,b,hf=>by rw[show l=[] from b];cases hf;rfl
 |(k,v)::es,l,i,r,b,hf=>by
  obtain⟨e,l',rfl,h1,h2,h3⟩:=b;unfold Tj at hf;split at hf;.rename_i Ld;cases Ld
  .rename_i t v' Wj Ld;cases Ld;have hk:e.key= .string ⟨⟨t⟩⟩:=h1;split at hf;.rename_i JZ;subst JZ;cases hf;exact⟨0,e,by simp[Instr.findNow,hk,Instr.sameNow,SB],h2⟩
   .rename_i JZ;have ih:=nX (i:=i+1) h3 hf;have hne:=Yb JZ;cases r with
    |none=>simpa[Instr.findNow,hk,Instr.sameNow,hne] using ih
    |some v2=>obtain⟨j,f,d,c⟩:=ih;exact⟨j+1,f,by simp only[Instr.findNow,hk,Instr.sameNow,hne];rw[d];congr 3;omega,c⟩
  .cases hf
def zA{s:Ah}{v:Ab}{u:Value}(hv:BQ γ v u):∀{es Wj:List (Ab×Ab)} {l:List MapEntry} {i:Nat},L9 γ es l->Oz s v es=some Wj->
  (Instr.findNow .string (.string ⟨⟨s⟩⟩) l i=some none/\∀born,L9 γ Wj (l++[{key:= .string ⟨⟨s⟩⟩,val:=u,born}]))\/
  ∃j e,Instr.findNow .string (.string ⟨⟨s⟩⟩) l i=some (some (i+j,e.val))/\l[j]?=some e/\e.key= .string ⟨⟨s⟩⟩/\L9 γ Wj (l.modify j λe=>{e with key:= .string ⟨⟨s⟩⟩,val:=u})
 |[],Wj,l,i,d,hp=>by rw[show l=[] from d];cases hp;exact .inl ⟨rfl,λborn=>⟨_,[],rfl,rfl,hv,rfl⟩⟩
 |(k,v0)::es,Wj,l,i,d,hp=>by
  obtain⟨e,l',rfl,h1,h2,h3⟩:=d;unfold Oz at hp;split at hp;.rename_i Ld;cases Ld
  .rename_i t v' n Ld;cases Ld;have hk:e.key= .string ⟨⟨t⟩⟩:=h1;split at hp;.rename_i JZ;subst JZ;cases hp;exact .inr ⟨0,e,by simp[Instr.findNow,hk,Instr.sameNow,SB],rfl,hk,_,l',rfl,rfl,hv,h3⟩
   .rename_i JZ;have hne:=Yb JZ;cases hq:Oz s v es with
    |none=>rw[hq] at hp;cases hp
    |some m=>
     rw[hq] at hp;cases hp;rcases zA hv (i:=i+1) h3 hq with⟨c,b⟩|⟨j,o,c,b,g,f⟩
     .exact .inl ⟨by simpa[Instr.findNow,hk,Instr.sameNow,hne] using c,λborn=>⟨e,_,rfl,h1,h2,b born⟩⟩
     .exact .inr ⟨j+1,o,by simp only[Instr.findNow,hk,Instr.sameNow,hne];rw[c];congr 3;omega,b,g,e,_,AB,h1,h2,f⟩
  .cases hp
def UQ{es:Array MapEntry}{clock:Nat}{k v:Value}(h:clock=es.size/\∀(i:Nat) (e:MapEntry),es[i]?=some e->e.born=i):
  clock+1=(es.push {key:=k,val:=v,born:=clock}).size/\∀(i:Nat) (e:MapEntry),(es.push {key:=k,val:=v,born:=clock})[i]?=some e->e.born=i:=by
 obtain⟨rfl,h⟩:=h;refine⟨AB,λi e he=>?_⟩;rw[bX] at he;split at he;.rename_i hi;cases he;exact hi.symm
 .exact h i e he
def VE{es:Array MapEntry}{clock j:Nat}{f:MapEntry->MapEntry}(h:clock=es.size/\∀(i:Nat) (e:MapEntry),es[i]?=some e->e.born=i)(hf:∀e,(f e).born=e.born):
  clock=(es.modify j f).size/\∀(i:Nat) (e:MapEntry),(es.modify j f)[i]?=some e->e.born=i:=by
 refine⟨by simpa using h.1,λi e he=>?_⟩;rw[Ob] at he;split at he
 .cases hx:es[i]? with
  |none=>rw[hx] at he;cases he
  |some x=>rw[hx] at he;cases he;rw[hf];exact h.2 i x hx
 .exact h.2 i e he
def OG(hi:It γ h w){g id:Nat}{es Wj:List (Ab×Ab)}(TD:h[id]?=some (.map es))(hg:γ.mu id=some g){o:Obj}{ents':Array MapEntry}{clock':Nat}(hw:w.heap[g]?=some o)(hr:yx γ Wj ents' clock'):
  It γ (h.set id (.map Wj)) {w with heap:=w.heap.setIfInBounds g (.map ents' clock')}/\Nb γ w γ {w with heap:=w.heap.setIfInBounds g (.map ents' clock')}:=by
 obtain⟨l,p,UB⟩:=hi.NH id _ TD AB;rw[hg] at p;cases p;obtain⟨OC,c⟩:=MapKept.heap_set (o':= .map ents' clock') hw;have uniq:∀Gk x,h[Gk]?=some x->x≠ .Ef->γ.mu Gk=some g->Gk=id:=λGk x hx e hm=>by obtain⟨b',p,q⟩:=hi.NH Gk x hx e;rw[hm] at p;cases p;rw[UB] at q;cases q;rfl
 constructor
 .refine⟨λb o v hb=>?_,λGk y JB hy=>?_,λGk cs hc b hb=>?_,λGk f hc b hb=>?_,λGk b hb=>by simpa using hi.mu Gk b hb,λb x hx=>?_,λb n hb=>?_⟩;rotate_left 5
  .obtain⟨⟨sR,j,yz,p,q⟩,r⟩:=hi.sz b n hb;have hne:b≠g:=λhe=>by subst he;obtain⟨i,d,k,_⟩:=hi.map id es TD b hg;rw[p] at k;cases k
   exact⟨⟨sR,j,yz,by rw[c b hne];exact p,q⟩,r⟩
  .obtain⟨p,q,r⟩:=hi.I6 b o v hb;have:b≠g:=λhe=>by subst he;rw[UB] at r;rcases r with r|⟨_,_,_,r,_⟩<;>cases r
   exact⟨by rw[CV (w:=w) (c b this)];exact p,q,r⟩
  .by_cases he:Gk=id;.subst he;exact⟨g,hg,UB⟩
   .rw[Aq (λx=>he x.symm)] at JB;exact hi.NH Gk y JB hy
  .by_cases he:Gk=id;.subst he;rw[AI (hi.mu _ _ hg)] at hc;cases hc
   .rw[Aq (λx=>he x.symm)] at hc;have Su:b≠g:=λhx=>by subst hx;exact he (uniq Gk _ hc AB hb)
    obtain⟨sR,j,yz,p,pf,q,r⟩:=hi.cells Gk cs hc b hb;exact⟨sR,j,yz,by rw[c b Su];exact p,pf,q,r⟩
  .by_cases he:Gk=id;.subst he;rw[hg] at hb;cases hb;rw[AI (hi.mu _ _ hg)] at hc;cases hc;exact⟨ents',clock',OC,hr⟩
   .rw[Aq (λx=>he x.symm)] at hc;have Su:b≠g:=λhx=>by subst hx;exact he (uniq Gk _ hc AB hb)
    obtain⟨Es,clock,p,q⟩:=hi.map Gk f hc b hb;exact⟨Es,clock,by rw[c b Su];exact p,q⟩
  .have:=hi.BU b x hx;simpa using this
 .refine⟨.refl _,AB,rfl,rfl,rfl,λb hb hn=>⟨?_,rfl⟩⟩;exact c b (λhe=>by subst he;exact hn id UB)
def SC(hr:Df C γ0 w0 γ Z U h a w){x y z:Operand}{d c b:Ab}(ha:Bs C U [x,y,z]=some [d,c,b]):BQ γ d (a.eval x)/\BQ γ c (a.eval y)/\BQ γ b (a.eval z):=by obtain⟨_,_,_,e,h1,h2,h3⟩:=(D9 hr ha).Vz;simp only[AV,CM,Cu,EN] at e;obtain⟨rfl,rfl,rfl⟩:=e;exact⟨h1,h2,h3⟩
def nY{o:Oper}{t kt e:TypeId}{m k x:Operand}{n p g:Ab}{h':Ai}(ho:o.op= .insert t m k x\/o.op= .mapUpdate t m k x)(hd:o.dst=none)(ht:C.P.underlying t=some (.map kt e))(hk:C.P.underlying kt=some .string)(ha:Bs C U [m,k,x]=some [n,p,g])
  (hm:R2 h n p g=some h') (hr:Df C γ0 w0 γ Z U h a w):Gl C γ0 w0 o a w U h':=by
 obtain⟨h1,h2,h3⟩:=SC hr ha;have NJ:∀w',(Instr.mapUpdate t (a.eval m) (a.eval k) (a.eval x)).run C.P w= .ok () w'->(execOp a.eval o).run C.P w= .ok .skip w':=λw' AR=>by rcases ho with ho|ho<;>simp[execOp,ho,AR]
 unfold R2 at hm;split at hm
 .rename_i id s;obtain⟨b,hb,qe⟩:=h1;have c:a.eval k= .string ⟨⟨s⟩⟩:=h2;split at hm
  .rename_i es TD;cases hp:Oz s g es with
   |none=>rw[hp] at hm;cases hm
   |some Wj=>
    rw[hp] at hm;cases hm;obtain⟨Es,clock,hw,u,hB⟩:=hr.Ee.map id es TD b hb;have qg:(Instr.checkKey false 10000 kt (.string ⟨⟨s⟩⟩)).run C.P w= .ok () w:=MapKept.run_checkKey (k:= .string ⟨⟨s⟩⟩) hk (by simp[MapKept.IsKey]) false 9999;rcases zA h3 (i:=0) u hp with⟨f,l⟩|⟨j,en,f,l,r,q⟩
    .have AR:(Instr.mapUpdate t (a.eval m) (a.eval k) (a.eval x)).run C.P w= .ok () {w with heap:=w.heap.setIfInBounds b (.map (Es.push {key:= .string ⟨⟨s⟩⟩,val:=a.eval x,born:=clock}) (clock+1))}:=by rw[qe,c];simp[Instr.mapUpdate,run_underlying ht,MapKept.run_getObj_map hw,qg,MapKept.run_findKey hk f,MapKept.run_setObj_map _ hw,Result.andThen]
     obtain⟨hi,KQ⟩:=OG (Wj:=Wj) (ents':=Es.push {key:= .string ⟨⟨s⟩⟩,val:=a.eval x,born:=clock}) (clock':=clock+1) hr.Ee TD hb hw ⟨by simpa using l clock,UQ hB⟩;exact Gl.skip (NJ _ AR) (by rw[hd];exact hr.JO hi KQ)
    .have hj:Es[j]?=some en:=by simpa using l
     rw[BG] at f;have AR:(Instr.mapUpdate t (a.eval m) (a.eval k) (a.eval x)).run C.P w= .ok () {w with heap:=w.heap.setIfInBounds b (.map (Es.modify j λe=>{e with key:= .string ⟨⟨s⟩⟩,val:=a.eval x}) clock)}:=by rw[qe,c];simp[Instr.mapUpdate,run_underlying ht,MapKept.run_getObj_map hw,qg,MapKept.run_findKey hk f,hj,r,MapKept.run_keyThatStays (d:= .string) (k:= .string ⟨⟨s⟩⟩) (by simp[MapKept.IsKey]),MapKept.run_setObj_map _ hw,Result.andThen]
     obtain⟨hi,KQ⟩:=OG (Wj:=Wj) (ents':=Es.modify j λe=>{e with key:= .string ⟨⟨s⟩⟩,val:=a.eval x}) (clock':=clock) hr.Ee TD hb hw ⟨by simpa using q,VE hB λ_=>rfl⟩;exact Gl.skip (NJ _ AR) (by rw[hd];exact hr.JO hi KQ)
  .cases hm
 .cases hm
def zr{o:Oper}{t:TypeId}(ho:o.op= .makeMap t none)(hr:Df C γ0 w0 γ Z U h a w):Gl C γ0 w0 o a w (U.put o.dst (.val (.map (some h.length)))) (h++[.map []]):=by
 obtain⟨hi,ha⟩:=Po hr.Ee (.map #[] 0) (.map []) none (.inr ⟨rfl,rfl,rfl⟩);have AR:(Instr.makeMap t none).run C.P w= .ok (.map (some w.heap.size)) (w.alloc (.map #[] 0)):=by simp[Instr.makeMap]
 exact Gl.value (by simp only[execOp,ho];exact DM AR) ((hr.JO hi ha).put λ_ _=>⟨w.heap.size,by simp[Gh.BV],rfl⟩)
def LY(key elem:TypeId)(index:Value)(commaOk:Bool)(es:Array MapEntry):Sem Value:=do
 Instr.checkKey es.isEmpty 10000 key index
 let(v,ok)<-match<-Instr.findKey key index es.toList with
  |some (_,v)=>pure (v,true)
  |none=>pure (<-zeroValue elem,false)
 pure (if commaOk then .tuple #[v,.bool ok] else v)
def zt{o:Oper}{t kt e:TypeId}{m k:Operand}{d f z r:Ab}{ok:Bool}(ho:o.op= .lookup t m k ok)(ht:C.P.underlying t=some (.map kt e))(hk:C.P.underlying kt=some .string)(hz:HB C.P e=some z)(ha:Bs C U [m,k]=some [d,f])(hm:P6 h z ok d f=some r)(hr:Df C γ0 w0 γ Z U h a w):
  Gl C γ0 w0 o a w (U.put o.dst (.val r)) h:=by
 obtain⟨_,_,e0,h1,h2⟩:=Fs hr ha;cases e0;obtain⟨l,xj,g⟩:=IJ hz;have If:∀(es:Array MapEntry) (q:Option Ab),(Instr.lookup t (a.eval m) (a.eval k) ok).run C.P w=(LY kt e (a.eval k) ok es).run C.P w->
   ∀s,a.eval k= .string ⟨⟨s⟩⟩->(match q with|none=>Instr.findNow .string (.string ⟨⟨s⟩⟩) es.toList 0=some none|some v=>∃(j:Nat) (e:MapEntry),Instr.findNow .string (.string ⟨⟨s⟩⟩) es.toList 0=some (some (0+j,e.val))/\BQ γ v e.val)->
   (match q with|some v=>if ok then Ab.tuple [v,.bool true] else v|none=>if ok then .tuple [z,.bool false] else z)=r->Gl C γ0 w0 o a w (U.put o.dst (.val r)) h:=by
  intro es q TD s zu hq VD;have qg:(Instr.checkKey es.isEmpty 10000 kt (.string ⟨⟨s⟩⟩)).run C.P w= .ok () w:=MapKept.run_checkKey (k:= .string ⟨⟨s⟩⟩) hk (by simp[MapKept.IsKey]) es.isEmpty 9999;have AR:∃v,(Instr.lookup t (a.eval m) (a.eval k) ok).run C.P w= .ok v w/\BQ γ r v:=by
   cases q with
   |none=>
    refine⟨if ok then .tuple #[l,.bool false] else l,?_,?_⟩;.rw[TD,zu];unfold LY;simp only[Sem.run_bind,Result.andThen_ok,qg,MapKept.run_findKey hk hq,g,Sem.run_bind,Sem.run_pure]
    .rw[<-VD];have c:=FQ (γ:=γ) xj;cases ok with
     |true=>exact⟨_,rfl,_,_,rfl,c,_,_,rfl,rfl,rfl⟩
     |false=>exact c
   |some v=>
    obtain⟨j,en,p,n⟩:=hq;refine⟨if ok then .tuple #[en.val,.bool true] else en.val,?_,?_⟩;.rw[TD,zu];unfold LY;simp only[Sem.run_bind,Result.andThen_ok,qg,MapKept.run_findKey hk p,Sem.run_bind,Sem.run_pure]
    .rw[<-VD];cases ok with
     |true=>exact⟨_,rfl,_,_,rfl,n,_,_,rfl,rfl,rfl⟩
     |false=>exact n
  obtain⟨v,AR,y7⟩:=AR;exact Gl.value (by simp only[execOp,ho];exact DM AR) (hr.put λ_ _=>y7)
 unfold P6 at hm;cases hf:UG h d f with
 |none=>rw[hf] at hm;cases hm
 |some q=>
  rw[hf] at hm;simp only[BW,BO] at hm;unfold UG at hf;split at hf;.rename_i s;cases hf;exact If #[] none (by rw[show a.eval m=_ from h1];simp only[Instr.lookup,LY,Sem.run_bind,run_underlying ht,Result.andThen_ok,Sem.run_pure];rfl) s h2 rfl hm
  .rename_i id s;obtain⟨b,hb,qe⟩:=h1;split at hf;.rename_i es TD;obtain⟨Es,clock,hw,u,_⟩:=hr.Ee.map id es TD b hb;exact If Es q (by rw[qe];simp only[Instr.lookup,LY,Sem.run_bind,run_underlying ht,MapKept.run_getObj_map hw,Result.andThen_ok,Sem.run_pure];rfl) s h2 (nX (i:=0) u hf) hm
   .cases hf
  .cases hf
def Yc{size:Nat}{v:Ab}(h:Pj size v=true):v= .slnil\/v= .Hi size\/v= .sl size []:=by
 unfold Pj at h;split at h;.exact .inl rfl
 .exact .inr (.inl (by simpa using h))
 .exact .inr (.inr (by simpa using h))
 .cases h
def qh{o:Oper}{c:Call}{t t' e:TypeId}{n b:Nat}{s x:Operand}{v u r:Ab}{h':Ai}(ho:o.op= .call c)(hc:c.callee= .builtin .append)(h0:c.argTypes[0]?=some t)(h1:c.argTypes[1]?=some t')(E6:c.args.toList=[s,x])(ht:C.P.underlying t=some (.slice e))
  (J0:(∃J,C.P.underlying t'=some (.slice J))\/C.P.underlying t'=some .string) (Lu:B1 C.P e=some (n+1)) (zl:KL C.P e=some (b+1)) (F8:L7 C U s=true) (mR:M9 C.P e=true) (hv:Bs C U [s,x]=some [v,u])
  (hp:Lp h (n+1) (b+1) v u=some (h',r)) (hr:Df C γ0 w0 γ Z U h a w):Gl C γ0 w0 o a w ((U.DU (Dv U s)).put o.dst (.val r)) h':=by
 obtain⟨i,z,hi,hz,gC⟩:=Mc mR;have RR:=Kw Lu hi;have I:=MR zl hi;obtain⟨_,_,e0,hvs,sF⟩:=Fs hr hv;cases e0;have H:Fi C U s=some v:=by
  unfold Bs at hv;split at hv;.rename_i p ps L N;cases hv;exact L
  .cases hv
 have JP:Pj (n+1) v=true/\((∃Ay,I9 (n+1) (b+1) .slnil u=some (.sl (n+1) Ay)/\Ay≠[]/\u= .sl (n+1) Ay/\Ay.length*(b+1)<=AY/\h'=h++[.cells Ay.flatten]/\r= .Du h.length 0 Ay.length (n+1))\/((u= .slnil\/(∃B,u= .Hi B)\/∃B,u= .sl B [])/\h'=h/\r=v)):=by
  unfold Lp at hp;split at hp
  .rename_i B Ay;split at hp
   .rename_i WW;refine⟨WW,?_⟩;split at hp;.cases hp;exact .inr ⟨.inr (.inr ⟨_,rfl⟩),rfl,rfl⟩
    .rename_i hne;split at hp
     .rename_i Iz;cases hp;obtain⟨rfl,hb⟩:=Iz;refine .inl ⟨Ay,?_,hne,rfl,hb,rfl,rfl⟩;cases Ay with
      |nil=>exact absurd rfl hne
      |cons q Ay=>simp only[I9,D2,BN];rw[Ae hb]
     .cases hp
   .cases hp
  .split at hp;.rename_i WW;cases hp;exact⟨WW,.inr ⟨.inl rfl,rfl,rfl⟩⟩
   .cases hp
  .split at hp;.rename_i WW;simp only[Bg] at WW;cases hp;exact⟨WW.1,.inr ⟨.inr (.inl ⟨_,rfl⟩),rfl,rfl⟩⟩
   .cases hp
  .cases hp
 obtain⟨WW,JP⟩:=JP;obtain⟨G,E0,KF,Lm,m⟩:=QC hr F8 H (U.DU (Dv U s)).length none;have Ld:c.args.map a.eval=#[a.eval s,a.eval x]:=by apply Ia;simp[E6]
 have NJ:∀v' w',(Builtin.append_ #[t,t'] o.type #[a.eval s,a.eval x]).run C.P w= .ok v' w'->(execOp a.eval o).run C.P w= .ok (.value v') w':=λv' w' AR=>by
  have:execOp a.eval o=(do pure (Next.value (<-Builtin.append_ #[t,t'] o.type #[a.eval s,a.eval x]))):=by rw[<-Ld,<-Px (ty:=o.type) h0 h1];simp only[execOp,ho,resolve,hc];rfl
  rw[this];exact DM AR
 have zB:(a.eval s= .slice none 0 0/\v= .slnil)\/(∃g cap us y,a.eval s= .slice (some ⟨g,0,none⟩) 0 cap/\v= .sl (n+1) []/\G.BU g=some (.tail (U.DU (Dv U s)).length none 0)/\w0.heap.size<=g/\w.heap[g]?=some (.cells us y (0,0))/\us.size=cap*(n+1)/\cap<=maxLen)\/∃g,a.eval s= .slice (some ⟨g,0,none⟩) 0 0/\v= .Hi (n+1):=by
  rcases m with(m|⟨K,m⟩)|⟨g,k,cap,us,y,K,rr,tN,Kk,UB,hB,hg,cD,M,hm,xi⟩
  .rw[m] at Lm;exact .inl ⟨Lm,m⟩
  .rcases Yc WW with zC|zC|zC
   .rw[zC] at m;cases m
   .rw[zC] at Lm;obtain⟨g,Lm⟩:=Lm;exact .inr (.inr ⟨g,Lm,zC⟩)
   .rw[zC] at m;cases m
  .rcases Yc WW with zC|zC|zC
   .rw[zC] at tN;cases tN
   .rw[zC] at tN;cases tN
   .rw[zC] at tN;cases tN;have hk:k=0:=by rw[zC,Kk] at Lm;obtain⟨A,f,nV,_⟩:=Lm;simp only[Value.slice.injEq] at nV;exact nV.2.1
    subst hk;exact .inr (.inl ⟨g,cap,us,y,Kk,zC,by simpa using UB,hB,hg,cD,hm⟩)
 rcases JP with⟨Ay,J3,hne,D,Tz,rfl,rfl⟩|⟨D,rfl,rfl⟩
 .obtain⟨d,news,QE,Lf,aCP,tL⟩:=y8 (w:=w) J0 hr.Ee sF J3;have nZ:d=Ay:=by
   cases d with
   |nil=>simp[D2] at QE
   |cons q d=>
    simp only[D2] at QE;split at QE;.cases QE;rfl
    .cases QE
  subst nZ;have zm:=Bc.mono E0 _ _ aCP;have KP:Src C.P i.size t' (a.eval x) d.length news w:=by rw[RR];exact Lf
  have RS:news.length=d.length*(n+1):=Lf.newsLen;have Jz:d.flatten.length=news.length:=by rw[aCP.length]
  have hpos:0<d.length:=CB.2 hne;have Su:d.length<=AY:=Bw (Jw _ (C9 b)) Tz;have GZ:∀(base:Option Addr) (cap:Nat),a.eval s= .slice base 0 cap->(Builtin.firstCells i.size 0 (.slice base 0 cap)).run C.P w.drew= .ok #[] w.drew->cap<d.length->
    Gl C γ0 w0 o a w ((U.DU (Dv U s)).put o.dst (.val (.Du h.length 0 d.length (n+1)))) (h++[.cells d.flatten]):=by
   intro base cap hs l hlt;have Hk:=run_append_grow_src (P:=C.P) w t t' o.type e i z ht hi hz base 0 cap [] l (a.eval x) d.length news KP Ac (by simp only[AY] at Su;omega) (by rw[I,BG];exact growslice_fits hlt Tz);rw[<-hs,BG] at Hk;have JA:=grownCap_ge w d.length cap e;have VF:(([]++news).toArray++Builtin.zeroCells z.cells (grownCap w d.length cap e-d.length)).toList.take d.flatten.length=news:=by simp only[Hv,Bq];rw[Jz];exact Fb
   have zw:(([]++news).toArray++Builtin.zeroCells z.cells (grownCap w d.length cap e-d.length)).size=grownCap w d.length cap e*(n+1):=by simp only[KD,B8,size_zeroCells,gC,RR,Bq,RS,<-BK];congr 1;omega
   obtain⟨F,nS,Yd,Ng,Wq⟩:=KF.drew.newObj (([]++news).toArray++Builtin.zeroCells z.cells (grownCap w d.length cap e-d.length)) e (0,0) d.flatten (.inl rfl) (by rw[VF];exact zm) (by rw[VF];exact Lf.one);exact Gl.value (NJ _ _ Hk) (Ng.put λ_ _=>⟨w.heap.size,_,Yd,rfl,JA,⟨C9 n,grownCap_le_maxLen w _ _ _ (by simp only[AY] at Su;simp only[maxLen];omega)⟩,by rw[BG,<-zw];exact Wq⟩)
  rcases zB with⟨Kk,rfl⟩|⟨g,cap,us,y,Kk,rfl,UB,hB,hg,cD,E⟩|⟨g,Kk,rfl⟩
  rotate_left 2;.exact GZ (some ⟨g,0,none⟩) 0 Kk (by simpa using run_firstCells_some (P:=C.P) w.drew i.size 0 ⟨g,0,none⟩ 0 0 [] AB AB) hpos
  .exact GZ none 0 Kk (run_firstCells_none _ _ _ _ _) hpos
  .by_cases hroom:d.length<=cap
   .have hfit:news.length<=us.size:=by rw[RS,cD];exact EA _ hroom
    have AR:=run_append_room_src (P:=C.P) w t t' o.type e i ht hi g 0 0 cap (a.eval x) d.length news KP Ac (λj hj=>by rw[cell_of_row w _ _ us y (0,0) hg,RR,CY Ac];rfl) (λj hj=>frozen_of_row w _ _ us y hg)
    rw[NB,BG,BG,E5 news 0 us w hg Ac,<-Kk] at AR;have VF:((us.toList.take 0++news++us.toList.drop (0+news.length)).toArray).toList.take d.flatten.length=news:=by simp only[Rj,Bq];rw[Jz];exact Fb
    obtain⟨F,nS,Yd,Ng,Wq⟩:=KF.aIV UB hB hg (us.toList.take 0++news++us.toList.drop (0+news.length)).toArray d.flatten (by rw[VF];exact zm) (by rw[VF];exact Lf.one);exact Gl.value (NJ _ _ AR) (Ng.put λ_ _=>⟨g,cap,Yd,rfl,hroom,⟨C9 n,E⟩,by rw[Wq,BG,<-cD];simp;omega⟩)
   .exact GZ (some ⟨g,0,none⟩) cap Kk (by simpa using run_firstCells_some (P:=C.P) w.drew i.size 0 ⟨g,0,none⟩ 0 cap [] AB AB) Ac
 .have Lf:Src C.P i.size t' (a.eval x) 0 [] w:=by
   rcases D with rfl|⟨B,rfl⟩|⟨B,rfl⟩
   .rw[show a.eval x=_ from sF];exact⟨J0,λ_=>rfl,run_firstCells_none w _ 0 0 0,run_firstCells_none w.drew _ 0 0 0,AB,AB⟩
   .obtain⟨g0,nV⟩:=sF;rw[nV];exact⟨J0,λ_=>rfl,by simpa using run_firstCells_some (P:=C.P) w i.size 0 ⟨g0,0,none⟩ 0 0 [] AB AB,by simpa using run_firstCells_some (P:=C.P) w.drew i.size 0 ⟨g0,0,none⟩ 0 0 [] AB AB,AB,AB⟩
   .obtain⟨A,f,nV,_⟩:=sF;rw[nV];exact⟨J0,λ_=>rfl,by simpa using run_firstCells_some (P:=C.P) w i.size 0 A 0 f [] AB AB,by simpa using run_firstCells_some (P:=C.P) w.drew i.size 0 A 0 f [] AB AB,AB,AB⟩
  rcases zB with⟨Kk,rfl⟩|⟨g,cap,us,y,Kk,rfl,UB,hB,hg,cD,E⟩|⟨g,Kk,rfl⟩
  rotate_left 2;.have AR:=run_append_room_src (P:=C.P) w t t' o.type e i ht hi g 0 0 0 (a.eval x) 0 [] Lf Ac AB AB;rw[<-Kk] at AR;simp only[World.setCells] at AR;exact Gl.value (NJ _ _ AR) (KF.put λ_ _=>Lm)
  .have AR:(Builtin.append_ #[t,t'] o.type #[a.eval s,a.eval x]).run C.P w= .ok (.slice none 0 0) w:=by rw[Kk];have hl:=Lf.len;have WX:=Lf.cells;rcases J0 with⟨J,hk⟩|hk<;>simp[Builtin.append_,run_underlying ht,run_underlying hk,sizeOf,typeInfo,hi,hl,WX]
   exact Gl.value (NJ _ _ AR) (KF.put λ_ _=>rfl)
  .have AR:=run_append_room_src (P:=C.P) w t t' o.type e i ht hi g 0 0 cap (a.eval x) 0 [] Lf Ac AB AB;rw[<-Kk] at AR;simp only[World.setCells] at AR;exact Gl.value (NJ _ _ AR) (KF.put λ_ _=>Lm)
def Df.kill(hr:Df C γ0 w0 γ Z U h a w)(id:Nat):Df C γ0 w0 γ Z U (h.set id .Ef) a w:=by
 have key:∀{Gk:Nat} {x:GX},(h.set id .Ef)[Gk]?=some x->x≠ .Ef->h[Gk]?=some x:=λ{Gk x} hx hd=>by
  by_cases he:id=Gk
  .subst he;rw[aS8] at hx;simp only[BN] at hx;split at hx;.cases hx;exact absurd rfl hd
   .cases hx
  .rwa [Aq he] at hx
 exact⟨⟨hr.Ee.I6,λGk y JB hy=>hr.Ee.NH Gk y (key JB hy) hy,λGk cs hc b hb=>hr.Ee.cells Gk cs (key hc AB) b hb,λGk es hc b hb=>hr.Ee.map Gk es (key hc AB) b hb,λGk b hb=>by simpa using hr.Ee.mu Gk b hb,hr.Ee.BU,hr.Ee.sz⟩,hr.fr,hr.D8,hr.defers,hr.HO⟩
def Df.zx(hr:Df C γ0 w0 γ Z U h a w){id g:Nat}{cs:List Ab}(hcs:h[id]?=some (.cells cs))(hg:γ.mu id=some g){us:Array Value}{e:TypeId}{fr:Nat×Nat}(hw:w.heap[g]?=some (.cells us e fr))(Ws:γ.sz g=some us.size)(DS:Array Value)(Hz:List Ab)(cD:DS.size=us.size)(XU:UM fr DS.size)
  (hv:Bc γ Hz (DS.toList.take Hz.length)) (h1:∀u∈DS.toList.take Hz.length,u.oneCell'=true):∃γ',γ.le γ'/\γ'.mu h.length=some g/\Df C γ0 w0 γ' Z U (h.set id .Ef++[.cells Hz]) a (w.setRow g DS)/\γ'.sz g=some us.size:=by
 obtain⟨i,p,UB⟩:=hr.Ee.NH id _ hcs AB;rw[hg] at p;cases p;have aAs:id<h.length:=hr.Ee.mu _ _ hg;have d:γ.mu h.length=none:=by
  cases hc:γ.mu h.length with
  |none=>rfl
  |some y=>exact absurd (hr.Ee.mu _ y hc) (DI _)
 have uniq:∀Gk x,h[Gk]?=some x->x≠ .Ef->γ.mu Gk=some g->Gk=id:=λGk x hx c hm=>by obtain⟨b',p,q⟩:=hr.Ee.NH Gk x hx c;rw[hm] at p;cases p;rw[UB] at q;cases q;rfl
 have E0:γ.le (γ.BV g h.length (some us.size)):=⟨λ_ _ _ hv=>hv,λGk b hm=>by
  have:Gk≠h.length:=λhe=>by rw[he,d] at hm;cases hm
  simp only[Gh.BV,Aa this];exact hm,λb n hm=>by
  by_cases he:b=g;.subst he;rw[Ws] at hm;cases hm;simp[Gh.BV]
  .simp only[Gh.BV,Aa he];exact hm⟩
 have old:∀{Gk:Nat} {x:GX},(h.set id .Ef++[GX.cells Hz])[Gk]?=some x->x≠ .Ef->Gk≠h.length->h[Gk]?=some x/\Gk≠id:=λ{Gk x} hx hd hne=>by
  have hlt:Gk<(h.set id .Ef).length:=by rw[Aj] at hx;obtain⟨hl,_⟩:=hx;simp at hl⊢;omega
  rw[Al hlt] at hx;by_cases he:id=Gk;.subst he;rw[AI (by simpa using hlt)] at hx;cases hx;exact absurd rfl hd
  .rw[Aq he] at hx;exact⟨hx,λh=>he h.symm⟩
 have aNw:It (γ.BV g h.length (some us.size)) (h.set id .Ef++[.cells Hz]) (w.setRow g DS):=by
  refine⟨λb o v hb=>?_,λGk y JB hy=>?_,λGk TE hc b hb=>?_,λGk es hc b hb=>?_,λGk b hb=>?_,λb y hy=>?_,λb n hb=>?_⟩
  .obtain⟨p,q,r⟩:=hr.Ee.I6 b o v hb;have Pn:b≠g:=λhe=>by subst he;rw[UB] at r;rcases r with r|⟨_,_,_,r,_⟩<;>cases r
   exact⟨by rw[CV (setRow_other w g b DS Pn)];exact p,q,by simp only[Gh.BV,Aa Pn];exact r⟩
  .by_cases he:Gk=h.length;.exact⟨g,by simp[Gh.BV,he],by simp[Gh.BV,he]⟩
   .obtain⟨qi,hne⟩:=old JB hy he;obtain⟨b,p,q⟩:=hr.Ee.NH Gk y qi hy;have Pn:b≠g:=λhx=>by subst hx;exact hne (uniq Gk y qi hy p)
    exact⟨b,by simp only[Gh.BV,Aa he];exact p,by simp only[Gh.BV,Aa Pn];exact q⟩
  .by_cases he:Gk=h.length;.subst he;simp[Gh.BV] at hb;subst hb;rw[Bu AB] at hc;simp at hc;subst hc;exact⟨DS,e,fr,setRow_heap w g us DS e fr hw,XU,Bc.mono E0 _ _ hv,h1⟩
   .simp only[Gh.BV,Aa he] at hb;obtain⟨Mx,hne⟩:=old hc AB he;have Pn:b≠g:=λhx=>by subst hx;exact hne (uniq Gk _ Mx AB hb)
    obtain⟨sR,f,yz,p,pf,q,r⟩:=hr.Ee.cells Gk TE Mx b hb;exact⟨sR,f,yz,by rw[setRow_other w g b DS Pn];exact p,pf,Bc.mono E0 _ _ q,r⟩
  .by_cases he:Gk=h.length;.subst he;rw[Bu AB] at hc;simp at hc
   .simp only[Gh.BV,Aa he] at hb;obtain⟨Mx,hne⟩:=old hc AB he;have Pn:b≠g:=λhx=>by subst hx;exact hne (uniq Gk _ Mx AB hb)
    obtain⟨Es,clock,p,q⟩:=hr.Ee.map Gk es Mx b hb;exact⟨Es,clock,by rw[setRow_other w g b DS Pn];exact p,q.mono E0⟩
  .by_cases he:Gk=h.length;.simp[he]
   .simp only[Gh.BV,Aa he] at hb;have:=hr.Ee.mu Gk b hb;simp;omega
  .by_cases Pn:b=g;.subst Pn;have:=hr.Ee.BU _ _ UB;simpa[World.setRow] using this
   .simp only[Gh.BV,Aa Pn] at hy;have:=hr.Ee.BU b y hy;simpa[World.setRow] using this
  .by_cases he:b=g;.subst he;simp only[Gh.BV,BN] at hb;cases hb;exact⟨⟨DS,e,fr,setRow_heap w b us DS e fr hw,cD⟩,.inr ⟨h.length,by simp[Gh.BV]⟩⟩
   .simp only[Gh.BV,Aa he] at hb⊢;obtain⟨p,r⟩:=hr.Ee.sz b n hb;exact⟨by rw[setRow_other w g b DS he];exact p,r⟩
 refine⟨_,E0,by simp[Gh.BV],hr.JO aNw ⟨E0,by simp[World.setRow],rfl,rfl,rfl,λb hb hn=>?_⟩,by simp[Gh.BV]⟩;have Pn:b≠g:=λhe=>by subst he;exact hn id UB
 exact⟨setRow_other w g b DS Pn,by simp only[Gh.BV,Aa Pn]⟩
def zy{o:Oper}{c:Call}{t t' e:TypeId}{n b:Nat}{s x:Operand}{v u r:Ab}{h':Ai}(ho:o.op= .call c)(hc:c.callee= .builtin .append)(h0:c.argTypes[0]?=some t)(h1:c.argTypes[1]?=some t')(E6:c.args.toList=[s,x])(ht:C.P.underlying t=some (.slice e))
  (J0:(∃N,C.P.underlying t'=some (.slice N))\/C.P.underlying t'=some .string) (Lu:B1 C.P e=some (n+1)) (zl:KL C.P e=some (b+1)) (mR:M9 C.P e=true) (hv:Bs C U [s,x]=some [v,u])
  (hp:Hk h (n+1) (b+1) v u=some (h',r)) (hr:Df C γ0 w0 γ Z U h a w):Gl C γ0 w0 o a w (U.put o.dst (.val r)) h':=by
 obtain⟨i,z,hi,hz,gC⟩:=Mc mR;have RR:=Kw Lu hi;have J:=MR zl hi;obtain⟨_,_,e0,hvs,sF⟩:=Fs hr hv;cases e0;have Ld:c.args.map a.eval=#[a.eval s,a.eval x]:=by apply Ia;simp[E6]
 have NJ:∀v' w',(Builtin.append_ #[t,t'] o.type #[a.eval s,a.eval x]).run C.P w= .ok v' w'->(execOp a.eval o).run C.P w= .ok (.value v') w':=λv' w' AR=>by
  have:execOp a.eval o=(do pure (Next.value (<-Builtin.append_ #[t,t'] o.type #[a.eval s,a.eval x]))):=by rw[<-Ld,<-Px (ty:=o.type) h0 h1];simp only[execOp,ho,resolve,hc];rfl
  rw[this];exact DM AR
 unfold Hk at hp;cases hq:Ij h (n+1) u with
 |none=>rw[hq] at hp;cases hp
 |some Ay=>
  rw[hq] at hp;obtain⟨news,Lf,WW,tL⟩:=X8 (w:=w) J0 hr.Ee sF hq;have KP:Src C.P i.size t' (a.eval x) Ay.length news w:=by rw[RR];exact Lf
  have RS:news.length=Ay.length*(n+1):=Lf.newsLen;have Jz:Ay.flatten.length=news.length:=by rw[WW.length]
  cases Ay with
  |nil=>
   have yW:news=[]:=C5 (by simpa using RS);subst yW;cases v with
   |slnil=>
    cases hp;have Kk:a.eval s= .slice none 0 0:=hvs;have AR:(Builtin.append_ #[t,t'] o.type #[a.eval s,a.eval x]).run C.P w= .ok (.slice none 0 0) w:=by rw[Kk];have hl:=KP.len;have WX:=KP.cells;simp only[AZ] at hl WX;rcases J0 with⟨N,hk⟩|hk<;>simp[Builtin.append_,run_underlying ht,run_underlying hk,sizeOf,typeInfo,hi,hl,WX]
    exact Gl.value (NJ _ _ AR) (hr.put λ_ _=>rfl)
   |Hi G=>
    simp only at hp;split at hp;.cases hp;obtain⟨g,Kk⟩:=(show BQ γ _ _ from hvs);have AR:=run_append_room_src (P:=C.P) w t t' o.type e i ht hi g 0 0 0 (a.eval x) 0 [] KP Ac AB AB;rw[<-Kk] at AR;simp only[World.setCells,BB] at AR;exact Gl.value (NJ _ _ AR) (hr.put λ_ _=>⟨g,Kk⟩)
    .cases hp
   |Du id off k G=>
    simp only at hp;split at hp;.cases hp;obtain⟨g,cap,hg,Kk,A,xh,Ws⟩:=(show BQ γ _ _ from hvs);have AR:=run_append_room_src (P:=C.P) w t t' o.type e i ht hi g off k cap (a.eval x) 0 [] KP Ac AB AB;rw[<-Kk] at AR;simp only[World.setCells,BB] at AR;exact Gl.value (NJ _ _ AR) (hr.put λ_ _=>⟨g,cap,hg,rfl,A,xh,Ws⟩)
    .cases hp
   |_=>cases hp
  |cons O m=>
   generalize hR:O::m=Ay at*;have hpos:0<Ay.length:=by rw[<-hR];simp
   have d:∀(h2:Ai) (base:Option Addr) (k cap:Nat) (J4:List Ab) (olds:List Value),Df C γ0 w0 γ Z U h2 a w->a.eval s= .slice base k cap->Bc γ J4 olds->olds.length=k*(n+1)->(∀q∈olds,q.oneCell'=true)->
     (Builtin.firstCells i.size k (.slice base k cap)).run C.P w.drew= .ok olds.toArray w.drew->cap<k+Ay.length->(k+Ay.length)*(b+1)<=AY->
     Gl C γ0 w0 o a w (U.put o.dst (.val (.Du h2.length 0 (k+Ay.length) (n+1)))) (h2++[.cells (J4++Ay.flatten)]):=by
    intro h2 base k cap J4 olds Ng hs aIX f xg l hlt Tz;have Su:k+Ay.length<=AY:=Bw (Jw _ (C9 b)) Tz;have Hk:=run_append_grow_src (P:=C.P) w t t' o.type e i z ht hi hz base k cap olds l (a.eval x) Ay.length news KP hlt (by simp only[AY] at Su;omega) (by rw[J];exact growslice_fits hlt Tz);rw[<-hs] at Hk;have JA:=grownCap_ge w (k+Ay.length) cap e;have qb:(olds++news).length=(k+Ay.length)*(n+1):=by rw[An,f,RS,BK]
    have sE:(J4++Ay.flatten).length=(olds++news).length:=by rw[An,An,aIX.length,Jz]
    have zw:((olds++news).toArray++Builtin.zeroCells z.cells (grownCap w (k+Ay.length) cap e-(k+Ay.length))).size=grownCap w (k+Ay.length) cap e*(n+1):=by simp only[KD,B8,size_zeroCells,gC,RR,qb,<-BK];congr 1;omega
    have VF:((olds++news).toArray++Builtin.zeroCells z.cells (grownCap w (k+Ay.length) cap e-(k+Ay.length))).toList.take (J4++Ay.flatten).length=olds++news:=by simp only[Hv];rw[sE];exact Fb
    obtain⟨F,nS,Yd,I,Wq⟩:=Ng.drew.newObj ((olds++news).toArray++Builtin.zeroCells z.cells (grownCap w (k+Ay.length) cap e-(k+Ay.length))) e (0,0) (J4++Ay.flatten) (.inl rfl) (by rw[VF];exact aIX.append WW) (by rw[VF];intro q hq;exact(Ao.1 hq).elim (xg q) (Lf.one q))
    exact Gl.value (NJ _ _ Hk) (I.put λ_ _=>⟨w.heap.size,_,Yd,rfl,JA,⟨C9 n,grownCap_le_maxLen w _ _ _ (by simp only[AY] at Su;simp only[maxLen];omega)⟩,by rw[BG,<-zw];exact Wq⟩)
   cases v with
   |slnil=>
    have Kk:a.eval s= .slice none 0 0:=hvs;rw[<-hR] at hp;simp only at hp;rw[hR] at hp;split at hp;.rename_i Tz;cases hp;have:=d h none 0 0 [] [] hr Kk rfl AB AB (run_firstCells_none _ _ _ _ _) Ac (by simpa using Tz);simpa using this
    .cases hp
   |Hi G=>
    obtain⟨g,Kk⟩:=(show BQ γ _ _ from hvs);rw[<-hR] at hp;simp only at hp;rw[hR] at hp;split at hp;.rename_i Tz;cases hp;have:=d h (some ⟨g,0,none⟩) 0 0 [] [] hr Kk rfl AB AB (by simpa using run_firstCells_some (P:=C.P) w.drew i.size 0 ⟨g,0,none⟩ 0 0 [] AB AB) Ac (by simpa using Tz.2);simpa using this
    .cases hp
   |Du id off k G=>
    rw[<-hR] at hp;simp only at hp;rw[hR] at hp;split at hp
    .rename_i cs hcs;split at hp
     .rename_i xi;subst xi;obtain⟨g,cap,hg,Kk,A,xh,Ws⟩:=(show BQ γ _ _ from hvs);obtain⟨us,M,fr,p,pf,E,D⟩:=hr.Ee.cells id cs hcs g hg;obtain⟨⟨xe,R,Q,K,H⟩,_⟩:=hr.Ee.sz g _ Ws;rw[p] at K;cases K;have xf:cs.length<=us.size:=by have:=E.length;simp at this;omega
      have Nf:∀j,(⟨g,off,none⟩:Addr).add j=⟨g,off+j,none⟩:=λj=>by unfold Addr.add;split<;>simp_all
      have B:∀o,o<us.size->w.frozen? ⟨g,o,none⟩=false:=λo ho=>by
       simp only[World.frozen?,p];rcases pf with rfl|XU
       .simp
       .simp;omega
      have room:k+Ay.length<=cap->(Builtin.append_ #[t,t'] o.type #[a.eval s,a.eval x]).run C.P w= .ok (.slice (some ⟨g,off,none⟩) (k+Ay.length) cap) (w.setRow g (us.toList.take (off+k*(n+1))++news++us.toList.drop (off+k*(n+1)+news.length)).toArray)/\off+k*(n+1)+news.length<=us.size:=by
       intro hroom;have hfit:off+k*(n+1)+news.length<=us.size:=by rw[RS,H,S7,<-BK];exact Nat.add_le_add_left (EA _ hroom) _
       have AR:=run_append_room_src (P:=C.P) w t t' o.type e i ht hi g off k cap (a.eval x) Ay.length news KP hroom (λj hj=>by rw[cell_of_row w _ _ us M fr p,RR,CY Ac];rfl) (λj hj=>by rw[RR];exact B _ Ac)
       rw[RR,E5 news _ us w p hfit,<-Kk] at AR;exact⟨AR,hfit⟩
      have sX:(k+Ay.length)*(n+1)=k*(n+1)+Ay.length*(n+1):=BK _ _ _;split at hp
      .rename_i Z7;cases hp;have hroom:k+Ay.length<=cap:=by have h3:(k+Ay.length)*(n+1)<=cap*(n+1):=Ac;exact Nat.le_of_mul_le_mul_right h3 (C9 n)
       obtain⟨AR,hfit⟩:=room hroom;have L:off+(k+Ay.length)*(n+1)=off+k*(n+1)+news.length:=by rw[RS,sX];omega
       have hcl:(cs.take (off+k*(n+1))++Ay.flatten++cs.drop (off+(k+Ay.length)*(n+1))).length=cs.length:=by rw[L,An,An,Ax,A4,Jz];omega
       have VF:((us.toList.take (off+k*(n+1))++news++us.toList.drop (off+k*(n+1)+news.length)).toArray).toList.take (cs.take (off+k*(n+1))++Ay.flatten++cs.drop (off+(k+Ay.length)*(n+1))).length=
         (us.toList.take cs.length).take (off+k*(n+1))++news++(us.toList.take cs.length).drop (off+k*(n+1)+news.length):=by
        rw[hcl];simp only[LO];exact NY (by simpa using xf) Ac rfl
       obtain⟨cQ,UR⟩:=OB hr.Ee hcs hg p (us.toList.take (off+k*(n+1))++news++us.toList.drop (off+k*(n+1)+news.length)).toArray (cs.take (off+k*(n+1))++Ay.flatten++cs.drop (off+(k+Ay.length)*(n+1)))
        (by simp only[B8,An,Ax,A4,Cq];omega)
        (by
         rcases pf with rfl|pf
         .exact .inl rfl
         .refine .inr (Bw (NA ?_) pf);simp only[B8,An,Ax,A4,Cq];omega)
        (by rw[VF,L];exact Pv E WW)
        (by
         rw[VF];intro q hq;rcases Ao.1 hq with hq|hq
         .rcases Ao.1 hq with hq|hq
          .exact D q (A9 hq)
          .exact Lf.one q hq
         .exact D q (A6 hq))
       exact Gl.value (NJ _ _ AR) ((hr.JO cQ UR).put λ_ _=>⟨g,cap,hg,rfl,hroom,xh,Ws⟩)
      .rename_i aTv;split at hp
       .rename_i Iz;obtain⟨rfl,XX,Tz⟩:=Iz;cases hp;simp only[BG] at*;by_cases hroom:k+Ay.length<=cap
        .obtain⟨AR,hfit⟩:=room hroom;have sE:(cs.take (k*(n+1))++Ay.flatten).length=k*(n+1)+news.length:=by rw[An,Ax,Jz];omega
         have VF:((us.toList.take (k*(n+1))++news++us.toList.drop (k*(n+1)+news.length)).toArray).toList.take (cs.take (k*(n+1))++Ay.flatten).length=(us.toList.take cs.length).take (k*(n+1))++news:=by
          rw[sE];simp only[LO];have:(us.toList.take (k*(n+1))++news).length=k*(n+1)+news.length:=by rw[An,Ax,Cq];omega
          rw[<-this,Fb,CK,BP XX]
         obtain⟨F,nS,Yd,Ng,Wq⟩:=hr.zx hcs hg p (by rw[Ws,H]) (us.toList.take (k*(n+1))++news++us.toList.drop (k*(n+1)+news.length)).toArray (cs.take (k*(n+1))++Ay.flatten)
          (by simp only[B8,An,Ax,A4,Cq];omega)
          (by
           rcases pf with rfl|pf
           .exact .inl rfl
           .refine .inr (Bw (NA ?_) pf);simp only[B8,An,Ax,A4,Cq];omega)
          (by rw[VF];exact(E.take _).append WW)
          (by
           rw[VF];intro q hq;rcases Ao.1 hq with hq|hq
           .exact D q (A9 hq)
           .exact Lf.one q hq)
         exact Gl.value (NJ _ _ AR) (Ng.put λ_ _=>⟨g,cap,Yd,rfl,hroom,xh,by rw[Wq,H];simp⟩)
        .have f:((us.toList.take cs.length).take (k*(n+1))).length=k*(n+1):=EE;have:=d (h.set id .Ef) (some ⟨g,0,none⟩) k cap (cs.take (k*(n+1))) ((us.toList.take cs.length).take (k*(n+1))) (hr.kill id) Kk (E.take _) f (λq hq=>D q (A9 hq))
          (by
           rw[RR];exact run_firstCells_some w.drew _ _ _ _ _ _ f (λj y hj=>by
            rw[Nf];show w.cell? _=_;rw[cell_of_row w _ _ us M fr p];rw[CA] at hj;split at hj
            .rw[CA] at hj;split at hj;.simpa using hj
             .cases hj
            .cases hj)) Ac Tz
         simpa using this
       .cases hp
     .cases hp
    .cases hp
   |_=>rw[<-hR] at hp;cases hp
def oA(hi:It γ h w){id g off:Nat}{cs b:List Ab}{news:List Value}(hcs:h[id]?=some (.cells cs))(hg:γ.mu id=some g)(hv:Bc γ b news)(h1:∀u∈news,u.oneCell'=true)(hl:off+b.length<=cs.length):
  ∃w',(storeCells ⟨g,off,none⟩ news).run C.P w= .ok () w'/\It γ (h.set id (.cells (cs.take off++b++cs.drop (off+b.length)))) w'/\Nb γ w γ w':=by
 obtain⟨us,e,fr,hw,pf,d,c⟩:=hi.cells id cs hcs g hg;have RS:news.length=b.length:=hv.length;have hlt:cs.length<=us.size:=by have:=d.length;simp at this;omega
 have hs:=run_storeCells_cells (P:=C.P) g off news 0 w (λj hj=>by
  rw[cell_of_row w _ _ us e fr hw,BB,CY Ac];rfl) (λj hj=>by
  simp only[World.frozen?,hw];rcases pf with rfl|XU
  .simp
  .simp;omega) h1
 rw[BB,E5 _ off us w hw Ac] at hs;have hcl:(cs.take off++b++cs.drop (off+b.length)).length=cs.length:=EE;have VF:((us.toList.take off++news++us.toList.drop (off+news.length)).toArray).toList.take (cs.take off++b++cs.drop (off+b.length)).length=(us.toList.take cs.length).take off++news++(us.toList.take cs.length).drop (off+news.length):=by rw[hcl];simp only[LO];exact NY (by simpa using hlt) Ac rfl
 obtain⟨z_,ha⟩:=OB hi hcs hg hw (us.toList.take off++news++us.toList.drop (off+news.length)).toArray (cs.take off++b++cs.drop (off+b.length))
  (by simp only[B8,An,Ax,A4,Cq];omega)
  (by
   rcases pf with rfl|pf
   .exact .inl rfl
   .refine .inr (Bw (NA ?_) pf);simp only[B8,An,Ax,A4,Cq];omega)
  (by rw[VF,RS];exact Pv d hv)
  (by
   rw[VF];intro q hq;rcases Ao.1 hq with hq|hq
   .rcases Ao.1 hq with hq|hq
    .exact c q (A9 hq)
    .exact h1 q hq
   .exact c q (A6 hq))
 exact⟨_,hs,z_,ha⟩
def tO{t t' ty:TypeId}{ts:Array TypeId}{xs:Array Value}(h0:ts[0]?=some t)(h1:ts[1]?=some t'):Builtin.copy_ ts ty xs=Builtin.copy_ #[t,t'] ty xs:=by simp only[Builtin.copy_,h0];rfl
def oB{P:Program}{t t' ty e:TypeId}{i:TypeInfo}(ht:P.underlying t=some (.slice e))(hi:P.info? e=some i){x:Value}{n:Nat}{news:List Value}(hs:Src P i.size t' x n news w){base:Option Addr}{k cap:Nat}(hk:n<=k)
  (JZ:∀b,base=some b->(storeCells b news).run P w= .ok () w') (zq:base=none->w'=w):(Builtin.copy_ #[t,t'] ty #[.slice base k cap,x]).run P w= .ok (.int .i64 n) w':=by
 have hl:=hs.len w;have hc:=hs.cells;have hm:Nat.min n k=n:=BP hk;cases base with
 |none=>cases zq rfl;simp[Builtin.copy_,run_underlying ht,hl,hc,sizeOf,typeInfo,hi,hm,goInt]
 |some b=>have h2:=JZ b rfl;simp[Builtin.copy_,run_underlying ht,hl,hc,sizeOf,typeInfo,hi,hm,goInt,h2]
def A_{o:Oper}{c:Call}{t t' e:TypeId}{n:Nat}{s x:Operand}{v u r:Ab}{h':Ai}(ho:o.op= .call c)(hc:c.callee= .builtin .copy)(h0:c.argTypes[0]?=some t)(h1:c.argTypes[1]?=some t')(E6:c.args.toList=[s,x])(ht:C.P.underlying t=some (.slice e))
  (J0:(∃j,C.P.underlying t'=some (.slice j))\/C.P.underlying t'=some .string) (Lu:B1 C.P e=some (n+1)) (hv:Bs C U [s,x]=some [v,u])
  (hp:ye h (n+1) v u=some (h',r)) (hr:Df C γ0 w0 γ Z U h a w):Gl C γ0 w0 o a w (U.put o.dst (.val r)) h':=by
 obtain⟨_,_,e0,hvs,sF⟩:=Fs hr hv;cases e0;have Ld:c.args.map a.eval=#[a.eval s,a.eval x]:=by apply Ia;simp[E6]
 have NJ:∀v' w',(Builtin.copy_ #[t,t'] o.type #[a.eval s,a.eval x]).run C.P w= .ok v' w'->(execOp a.eval o).run C.P w= .ok (.value v') w':=λv' w' AR=>by
  have:execOp a.eval o=(do pure (Next.value (<-Builtin.copy_ #[t,t'] o.type #[a.eval s,a.eval x]))):=by rw[<-Ld,<-tO (ty:=o.type) h0 h1];simp only[execOp,ho,resolve,hc];rfl
  rw[this];exact DM AR
 cases hi:C.P.info? e with
 |none=>simp[B1,hi] at Lu
 |some i=>
 have RR:=Kw Lu hi;unfold ye at hp;cases hq:Ij h (n+1) u with
 |none=>rw[hq] at hp;cases hp
 |some Ay=>
  rw[hq] at hp;obtain⟨news,Lf,WW,tL⟩:=X8 (w:=w) J0 hr.Ee sF hq;have KP:Src C.P i.size t' (a.eval x) Ay.length news w:=by rw[RR];exact Lf
  have RS:news.length=Ay.length*(n+1):=Lf.newsLen;have Jz:Ay.flatten.length=news.length:=by rw[WW.length]
  simp only at hp;split at hp
  .split at hp;.rename_i qj;cases hp;have Kk:a.eval s= .slice none 0 0:=hvs;have AR:=oB (t:=t) (ty:=o.type) (w:=w) (w':=w) ht hi KP (base:=none) (k:=0) (cap:=0) Ac (λ_ e=>by cases e) (λ_=>rfl);rw[<-Kk] at AR;rw[qj] at AR;exact Gl.value (NJ _ _ AR) (hr.put λ_ _=>rfl)
   .cases hp
  .rename_i id off k z;split at hp
   .rename_i cs hcs;split at hp;.rename_i Iz;obtain⟨rfl,b,hlen⟩:=Iz;cases hp;obtain⟨g,cap,hg,Kk,f,xh,Ws⟩:=(show BQ γ _ _ from hvs);have hm:=EA (n+1) b;obtain⟨w',JZ,z_,d⟩:=oA (C:=C) (off:=off) hr.Ee hcs hg WW Lf.one Ac;have AR:=oB (t:=t) (ty:=o.type) (w:=w) (w':=w') ht hi KP (base:=some ⟨g,off,none⟩) (k:=k) (cap:=cap) b (λ_ e=>by cases e;exact JZ) (λe=>by cases e);rw[<-Kk] at AR;rw[show Ay.length*(n+1)=Ay.flatten.length by rw[Jz,RS]];exact Gl.value (NJ _ _ AR) ((hr.JO z_ d).put λ_ _=>rfl)
    .cases hp
   .cases hp
  .cases hp
def oC{t ty:TypeId}{ts:Array TypeId}{xs:Array Value}(h0:ts[0]?=some t):Builtin.clear_ ts ty xs=Builtin.clear_ #[t] ty xs:=by simp only[Builtin.clear_,h0];rfl
def ql{o:Oper}{c:Call}{t e:TypeId}{n:Nat}{s:Operand}{v z r:Ab}{h':Ai}(ho:o.op= .call c)(hc:c.callee= .builtin .clear)(h0:c.argTypes[0]?=some t)(E6:c.args.toList=[s])(ht:C.P.underlying t=some (.slice e))
  (Lu:B1 C.P e=some (n+1)) (hz:HB C.P e=some z) (hv:Bs C U [s]=some [v]) (hp:XH h (n+1) z.cells v=some (h',r)) (hr:Df C γ0 w0 γ Z U h a w):Gl C γ0 w0 o a w (U.put o.dst .undef) h':=by
 obtain⟨_,e0,hvs⟩:=Hm hr hv;cases e0;have Ld:c.args.map a.eval=#[a.eval s]:=by apply Ia;simp[E6]
 have NJ:∀v' w',(Builtin.clear_ #[t] o.type #[a.eval s]).run C.P w= .ok v' w'->(execOp a.eval o).run C.P w= .ok (.value v') w':=λv' w' AR=>by
  have:execOp a.eval o=(do pure (Next.value (<-Builtin.clear_ #[t] o.type #[a.eval s]))):=by rw[<-Ld,<-oC (ty:=o.type) h0];simp only[execOp,ho,resolve,hc];rfl
  rw[this];exact DM AR
 unfold XH at hp;split at hp
 .cases hp;have Kk:a.eval s= .slice none 0 0:=hvs;have AR:(Builtin.clear_ #[t] o.type #[a.eval s]).run C.P w= .ok (.tuple #[]) w:=by rw[Kk];simp[Builtin.clear_,run_underlying ht]
  exact Gl.value (NJ _ _ AR) (hr.put λ_ _=>trivial)
 .rename_i id off k F;split at hp
  .rename_i cs hcs;split at hp
   .rename_i Iz;obtain⟨rfl,f,hlen⟩:=Iz;cases hp;obtain⟨g,cap,hg,Kk,B,xh,Ws⟩:=(show BQ γ _ _ from hvs);obtain⟨d,xj,l⟩:=IJ hz;obtain⟨y,A⟩:=HW (γ:=γ) (FQ xj) Ac;have gC:d.cells.size=n+1:=by have:=y.length;simp at this;omega
    have Jz:(List.replicate k z.cells).flatten.length=k*(n+1):=by rw[HY (z:=n+1) (λr hr=>by rw[aCu hr,f]),Ic]
    have i:∀(j:Nat) (u:Value),(Builtin.zeroCells d.cells k).toList[j]?=some u->j<k*(n+1)/\d.cells.toList[j%(n+1)]?=some u:=by
     intro j u hj;have sH:j<k*(n+1):=by have:=(Aj.1 hj).1;simpa[size_zeroCells,gC] using this
     refine⟨sH,?_⟩;have aD4:j%(n+1)<d.cells.size:=by rw[gC];exact Nat.mod_lt _ (C9 n)
     simp only[Builtin.zeroCells,Ou,Dt] at hj;have b:(Array.range (k*d.cells.size)).toList[j]?=some j:=by simp[gC,sH]
     rw[b] at hj;simp only[BW,BO] at hj;rw[gC] at hj;rw[<-hj];simp[aD4]
    have D:Bc γ (List.replicate k z.cells).flatten (Builtin.zeroCells d.cells k).toList:=by refine Bc.HC (by simp only[Cq,size_zeroCells,gC,Jz]) λj x u hx hu=>?_;obtain⟨sH,p⟩:=i j u hu;rw[IN z.cells _ _ (by rw[f];exact sH),f] at hx;obtain⟨G,ph,m⟩:=y.get hx;rw[p] at ph;cases ph;exact m
    obtain⟨w',JZ,z_,q⟩:=oA (C:=C) (off:=off) hr.Ee hcs hg D (λu hu=>by obtain⟨j,hj⟩:=CU hu;exact A u (CJ (i j u hj).2)) Ac
    have AR:(Builtin.clear_ #[t] o.type #[a.eval s]).run C.P w= .ok (.tuple #[]) w':=by
     rw[Kk];cases k with
     |zero=>
      have E:(Builtin.zeroCells d.cells 0).toList=[]:=by simp[Builtin.zeroCells]
      rw[E] at JZ;have:w'=w:=by have h2:(storeCells ⟨g,off,none⟩ []).run C.P w= .ok () w:=rfl;rw[h2] at JZ;cases JZ;rfl
      rw[this];simp[Builtin.clear_,run_underlying ht]
     |succ k=>simp[Builtin.clear_,run_underlying ht,l,JZ]
    rw[show k*(n+1)=(List.replicate k z.cells).flatten.length from Jz.symm];exact Gl.value (NJ _ _ AR) ((hr.JO z_ q).put λ_ _=>trivial)
   .cases hp
  .cases hp
 .cases hp
def B_{o:Oper}{t e:TypeId}{n:Nat}{x:Operand}{lo hi:Option Operand}{v r:Ab}{as:List Ab}{h':Ai}(ho:o.op= .slice t x lo hi none)(ht:C.P.underlying t=some (.slice e))(Lu:B1 C.P e=some (n+1))
  (hv:Bs C U (x::(lo.toList++hi.toList))=some (v::as)) (hp:nB h (n+1) lo.isSome hi.isSome v as=some (h',r)) (hr:Df C γ0 w0 γ Z U h a w):Gl C γ0 w0 o a w (U.put o.dst (.val r)) h':=by
 have tN:=D9 hr hv;obtain⟨u,us,c,hx,C_⟩:=tN;simp only[AV,Cu] at c;obtain⟨rfl,rfl⟩:=c;unfold nB at hp;split at hp
 .rename_i id off k z;split at hp
  .rename_i cs hcs;split at hp
   .rename_i Iz;obtain⟨rfl,b,aIT⟩:=Iz;obtain⟨g,cap,hg,Kk,s,xh,Ws⟩:=(show BQ γ _ _ from hx);cases hb:D1 lo.isSome hi.isSome ((cs.length-off)/(n+1)) as with
    |none=>rw[hb] at hp;cases hp
    |some m=>
     obtain⟨l,q⟩:=m;rw[hb] at hp;simp only[Cx] at hp;split at hp
     .rename_i hlt;cases hp;obtain⟨us,c,fr,j,pf,i,F⟩:=hr.Ee.cells id cs hcs g hg;obtain⟨⟨xe,D,A,d,E⟩,_⟩:=hr.Ee.sz g _ Ws;rw[j] at d;cases d;have xf:cs.length<=us.size:=by have:=i.length;simp at this;omega
      have aNy:(cs.length-off)/(n+1)<=cap:=by refine Nat.div_le_of_le_mul ?_;rw[Nat.mul_comm];omega
      have f:∀y:Option Operand,(y.map a.eval).isSome=y.isSome:=λy=>by cases y<;>rfl
      have B:(lo.map a.eval).toList++(hi.map a.eval).toList=(lo.toList++hi.toList).map a.eval:=by cases lo<;>cases hi<;>rfl
      rw[<-f lo,<-f hi] at hb;obtain⟨p,H,G⟩:=Lv (P:=C.P) (w:=w) (isSlice:=true) hb (by rw[B];exact C_) aNy;have OC:Instr.sliceBounds true k cap (lo.map a.eval) (hi.map a.eval) none=Instr.sliceBounds true ((cs.length-off)/(n+1)) cap (lo.map a.eval) (hi.map a.eval) none:=by
       cases hi with
       |none=>cases b
       |some y=>rfl
      have J0:C.P.underlying t=some (.slice (C.P.elem t)):=by simp[Program.elem,ht]
      have he:C.P.elem t=e:=by simp[Program.elem,ht]
      have AR:(Instr.sliceAt t (a.eval x) (lo.map a.eval) (hi.map a.eval) none).run C.P w= .ok (.slice (some ⟨g,off+l*(n+1),none⟩) (q-l) (cap-l)) w:=by rw[Kk,run_sliceAt_slice w t _ _ _ _ J0,run_slice_any w t _ _ _ J0,OC,p,he,Result.andThen_ok,DW Lu];show Result.ok (Value.slice (if cap=l then some ⟨g,off,none⟩ else Option.map (λq:Addr=>q.add (l*(n+1))) (some ⟨g,off,none⟩)) (q-l) (cap-l)) w=_;rw[Aa Ac];simp only[BW];unfold Addr.add;split<;>simp_all
      refine Gl.value (by simp only[execOp,ho];exact DM AR) (hr.put λ_ _=>⟨g,cap-l,hg,rfl,Ac,⟨xh.1,Bw (Nat.sub_le _ _) xh.2⟩,?_⟩);rw[Ws,S7,<-BK,aNa Ac]
     .cases hp
   .cases hp
  .cases hp
 .cases hp
def D_{o:Oper}{t e:TypeId}{n:Nat}{x lo hi mx:Operand}{args:List Ab}(ho:o.op= .slice t x (some lo) (some hi) (some mx))(ht:C.P.underlying t=some (.slice e))(Lu:B1 C.P e=some (n+1))
  (hv:Bs C U [x,lo,hi,mx]=some args) (hp:XI (n+1) args=true) (hr:Df C γ0 w0 γ Z U h a w):Gl C γ0 w0 o a w (U.put o.dst .undef) h:=by
 have tN:=D9 hr hv;have J0:C.P.underlying t=some (.slice (C.P.elem t)):=by simp[Program.elem,ht]
 have he:C.P.elem t=e:=by simp[Program.elem,ht]
 have If:∀(base:Option Addr) (len cap:Nat) (kl kr d:IntKind) (l r m:Int),a.eval x= .slice base len cap->a.eval lo= .int kl l->a.eval hi= .int kr r->a.eval mx= .int d m->0<=l->l<=r->r<=m->m<=cap->Gl C γ0 w0 o a w (U.put o.dst .undef) h:=by
  intro base len cap kl kr d l r m A z y u h1 h2 h3 i;have AR:∃v,(Instr.sliceAt t (a.eval x) (some (a.eval lo)) (some (a.eval hi)) (some (a.eval mx))).run C.P w= .ok v w:=by
   have c:0<=m:=Ac;have b:0<=r:=Ac;have b1:∀code,(Instr.sliceBound (.int d m) cap code).run C.P w= .ok m.toNat w:=λcode=>by simp[Instr.sliceBound,asIntOf,c,i]
   have b2:∀code,(Instr.sliceBound (.int kr r) m.toNat code).run C.P w= .ok r.toNat w:=λcode=>by simp[Instr.sliceBound,asIntOf,b,I7 c,h3]
   have b3:∀code,(Instr.sliceBound (.int kl l) r.toNat code).run C.P w= .ok l.toNat w:=λcode=>by simp[Instr.sliceBound,asIntOf,h1,I7 b,h2]
   rw[A,z,y,u];simp[Instr.sliceAt,Instr.slice,run_underlying ht,Instr.sliceBounds,b1,b2,b3,DW Lu]
  obtain⟨v,AR⟩:=AR;exact Gl.value (by simp only[execOp,ho];exact DM AR) (hr.put λ_ _=>trivial)
 unfold XI at hp;split at hp
 .rename_i s _ l _ r _ m;obtain⟨F,q,f1,g1,E,sR,f2,g2,D,p,f3,g3,B,k,f4,j,f5⟩:=tN;subst f5;simp only[AV,CM] at f1;subst f4;subst f3;subst f2;simp only[Cu,EN] at f1;obtain⟨rfl,rfl,rfl,rfl⟩:=f1;split at hp;.simp only[Bg,CF] at hp;obtain⟨⟨⟨⟨_,h1⟩,h2⟩,h3⟩,i⟩:=hp;obtain⟨g,cap,hg,Kk,f,_⟩:=(show BQ γ _ _ from g1);exact If _ _ _ _ _ _ _ _ _ Kk (EO g2) (EO g3) (EO j) h1 h2 h3 Ac
  .simp only[Bg,CF] at hp;obtain⟨⟨⟨⟨_,h1⟩,h2⟩,h3⟩,i⟩:=hp;obtain⟨G,cap,Kk,f,_⟩:=(show BQ γ _ _ from g1);exact If _ _ _ _ _ _ _ _ _ Kk (EO g2) (EO g3) (EO j) h1 h2 h3 Ac
  .cases hp
 .cases hp
def E_{o:Oper}{t:TypeId}{x:Operand}{v:Ab}{u:TypeDesc}(ho:o.op= .makeInterface t x)(ht:C.P.underlying t=some u)(hn:∀i,u≠ .interface i)(hv:Bs C U [x]=some [v])(hr:Df C γ0 w0 γ Z U h a w):Gl C γ0 w0 o a w (U.put o.dst (.val (.iface t v))) h:=by
 obtain⟨_,e0,hvs⟩:=Hm hr hv;cases e0;have AR:(Instr.makeInterface t (a.eval x)).run C.P w= .ok (.iface t (a.eval x)) w:=by cases u<;>simp_all [Instr.makeInterface,run_underlying ht]
 exact Gl.value (by simp only[execOp,ho];exact DM AR) (hr.put λ_ _=>⟨_,rfl,hvs⟩)
def Ru{n:Int}:∀{es:List (Ab×Ab)} {l:List MapEntry} {i:Nat} {r:Option (Nat×Ab)},L9 γ es l->Jb n es i=some r->
  match r with
  |none=>Instr.findNow (.int .i64) (.int .i64 n) l i=some none
  |some (j,v)=>∃(e:MapEntry),Instr.findNow (.int .i64) (.int .i64 n) l i=some (some (j,e.val))/\BQ γ v e.val/\i<=j/\l[j-i]?=some e/\e.key= .int .i64 n
 |[],l,i,r,b,hf=>by rw[show l=[] from b];cases hf;rfl
 |(k,v)::es,l,i,r,b,hf=>by
  obtain⟨e,l',rfl,h1,h2,h3⟩:=b;cases k with
  |int q t=>
   by_cases hq:q= .i64
   .subst hq;simp only[Jb] at hf;have hk:e.key= .int .i64 t:=h1;split at hf;.rename_i JZ;subst JZ;cases hf;exact⟨e,by simp[Instr.findNow,hk,Instr.sameNow],h2,Ad _,AB,hk⟩
    .rename_i JZ;have aIY:(n==t)=false:=by simpa using JZ
     have ih:=Ru (i:=i+1) h3 hf;cases r with
     |none=>simpa[Instr.findNow,hk,Instr.sameNow,aIY] using ih
     |some p=>obtain⟨j,v2⟩:=p;obtain⟨m,g,f,o,d,c⟩:=ih;refine⟨m,by simpa[Instr.findNow,hk,Instr.sameNow,aIY] using g,f,Ac,?_,c⟩;rw[(Ac:j-i=(j-(i+1))+1),Uu];exact d
   .exfalso;cases q<;>first|exact hq rfl|(simp[Jb] at hf)
  |_=>simp[Jb] at hf
def F_{o:Oper}{t kt e:TypeId}{m k:Operand}{g l z r:Ab}{ok:Bool}{h':Ai}(ho:o.op= .lookup t m k ok)(ht:C.P.underlying t=some (.map kt e))(hk:C.P.underlying kt=some (.int .i64))(hz:HB C.P e=some z)(ha:Bs C U [m,k]=some [g,l])(hm:nC h z ok g l=some (h',r))(hr:Df C γ0 w0 γ Z U h a w):
  Gl C γ0 w0 o a w (U.put o.dst (.val r)) h':=by
 obtain⟨_,_,e0,h1,h2⟩:=Fs hr ha;cases e0;obtain⟨f,xj,d⟩:=IJ hz;have If:∀(es:Array MapEntry) (q:Option (Nat×Ab)),(Instr.lookup t (a.eval m) (a.eval k) ok).run C.P w=(LY kt e (a.eval k) ok es).run C.P w->
   ∀n,a.eval k= .int .i64 n->(match q with|none=>Instr.findNow (.int .i64) (.int .i64 n) es.toList 0=some none|some (j,v)=>∃(e:MapEntry),Instr.findNow (.int .i64) (.int .i64 n) es.toList 0=some (some (j,e.val))/\BQ γ v e.val/\0<=j/\es.toList[j-0]?=some e/\e.key= .int .i64 n)->
   UH z ok q=r->Gl C γ0 w0 o a w (U.put o.dst (.val r)) h:=by
  intro es q TD n zu hq VD;have qg:(Instr.checkKey es.isEmpty 10000 kt (.int .i64 n)).run C.P w= .ok () w:=MapKept.run_checkKey (k:= .int .i64 n) hk (by simp[MapKept.IsKey]) es.isEmpty 9999;have AR:∃v,(Instr.lookup t (a.eval m) (a.eval k) ok).run C.P w= .ok v w/\BQ γ r v:=by
   cases q with
   |none=>
    refine⟨if ok then .tuple #[f,.bool false] else f,?_,?_⟩;.rw[TD,zu];unfold LY;simp only[Sem.run_bind,Result.andThen_ok,qg,MapKept.run_findKey hk hq,d,Sem.run_bind,Sem.run_pure]
    .rw[<-VD];have c:=FQ (γ:=γ) xj;cases ok with
     |true=>exact⟨_,rfl,_,_,rfl,c,_,_,rfl,rfl,rfl⟩
     |false=>exact c
   |some p=>
    obtain⟨j,v⟩:=p;obtain⟨en,u,s,_⟩:=hq;refine⟨if ok then .tuple #[en.val,.bool true] else en.val,?_,?_⟩;.rw[TD,zu];unfold LY;simp only[Sem.run_bind,Result.andThen_ok,qg,MapKept.run_findKey hk u,Sem.run_bind,Sem.run_pure]
    .rw[<-VD];cases ok with
     |true=>exact⟨_,rfl,_,_,rfl,s,_,_,rfl,rfl,rfl⟩
     |false=>exact s
  obtain⟨v,AR,y7⟩:=AR;exact Gl.value (by simp only[execOp,ho];exact DM AR) (hr.put λ_ _=>y7)
 unfold nC at hm;split at hm;.rename_i n;cases hm;exact If #[] none (by rw[show a.eval m=_ from h1];simp only[Instr.lookup,LY,Sem.run_bind,run_underlying ht,Result.andThen_ok,Sem.run_pure];rfl) n h2 rfl rfl
 .rename_i id n;obtain⟨b,hb,qe⟩:=h1;split at hm
  .rename_i es TD;obtain⟨Es,clock,hw,x,_⟩:=hr.Ee.map id es TD b hb;cases hf:Jb n es 0 with
   |none=>rw[hf] at hm;cases hm
   |some q=>
    rw[hf] at hm;simp only[BW,BO,Mt] at hm;obtain⟨rfl,hm⟩:=hm;refine If Es q (by rw[qe];simp only[Instr.lookup,LY,Sem.run_bind,run_underlying ht,MapKept.run_getObj_map hw,Result.andThen_ok,Sem.run_pure];rfl) n h2 ?_ ?_
    .have:=Ru (i:=0) x hf;cases q with
     |none=>exact this
     |some p=>exact this
    .exact hm
  .cases hm
 .cases hm
def L9.aD8{k v:Ab}{e:MapEntry}(hk:BQ γ k e.key)(hv:BQ γ v e.val):∀{es:List (Ab×Ab)} {l:List MapEntry},L9 γ es l->L9 γ (es++[(k,v)]) (l++[e])
 |[],l,b=>by rw[show l=[] from b];exact⟨e,[],rfl,hk,hv,rfl⟩
 |(k',v')::es,l,b=>by obtain⟨c,l',rfl,h1,h2,h3⟩:=b;exact⟨c,_,rfl,h1,h2,L9.aD8 hk hv h3⟩
def L9.length:∀{es:List (Ab×Ab)} {l:List MapEntry},L9 γ es l->l.length=es.length
 |[],l,b=>by rw[show l=[] from b];rfl
 |(k',v')::es,l,b=>by obtain⟨c,l',rfl,h1,h2,h3⟩:=b;simp[L9.length h3]
def L9.modify{v:Ab}{u:Value}(hv:BQ γ v u):∀{es:List (Ab×Ab)} {l:List MapEntry} {j:Nat} {k v0:Ab},L9 γ es l->es[j]?=some (k,v0)->L9 γ (es.set j (k,v)) (l.modify j λe=>{e with val:=u})
 |[],l,j,k,v0,b,hj=>by simp at hj
 |(k',v')::es,l,j,k,v0,b,hj=>by
  obtain⟨c,l',rfl,h1,h2,h3⟩:=b;cases j with
  |zero=>cases hj;exact⟨{c with val:=u},l',AB,h1,hv,h3⟩
  |succ j=>exact⟨c,l'.modify j _,AB,h1,h2,L9.modify hv h3 (by simpa using hj)⟩
def oD{es:Array MapEntry}{j:Nat}{e:MapEntry}{k:Value}(hj:es[j]?=some e)(hk:e.key=k):(es.modify j λe=>{e with key:=k})=es:=by
 apply Rk;intro i;rw[Ob];split;.rename_i hi;subst hi;rw[hj];simp[<-hk]
 .rfl
def Ye{o:Oper}{t kt e:TypeId}{m k:Operand}{kA z r:Ab}{kV:Value}{d:TypeDesc}{h':Ai}{id:Nat}{es:List (Ab×Ab)}{f:Option (Option (Nat×Ab))}(ho:o.op= .mapEntry t m k)(ht:C.P.underlying t=some (.map kt e))(hk:C.P.underlying kt=some d)(n:MapKept.IsKey d kV)(hz:HB C.P e=some z)
  (h1:BQ γ (.map (some id)) (a.eval m)) (g:a.eval k=kV) (u:BQ γ kA kV) (TD:h[id]?=some (.map es))
  (hq:∀(l:List MapEntry) q,L9 γ es l->f=some q->match q with
   |none=>Instr.findNow d kV l 0=some none
   |some (j,v)=>∃(e:MapEntry),Instr.findNow d kV l 0=some (some (j,e.val))/\BQ γ v e.val/\0<=j/\l[j-0]?=some e/\e.key=kV)
  (hm:(f.map λr=>match r with
   |some (i,v)=>(h,Ab.tuple [v,.int .i64 i])
   |none=>(h.set id (.map (es++[(kA,z)])),.tuple [z,.int .i64 es.length]))=some (h',r)) (hr:Df C γ0 w0 γ Z U h a w):
  Gl C γ0 w0 o a w (U.put o.dst (.val r)) h':=by
 obtain⟨c,xj,s⟩:=IJ hz;obtain⟨b,hb,qe⟩:=h1;obtain⟨Es,clock,hw,x,hB⟩:=hr.Ee.map id es TD b hb;have qg:(Instr.checkKey false 10000 kt kV).run C.P w= .ok () w:=MapKept.run_checkKey (k:=kV) hk n false 9999;cases f with
 |none=>cases hm
 |some q=>
  have hq:=hq Es.toList q x rfl;cases q with
  |none=>
   simp only[BW,BO,Mt] at hm;obtain⟨rfl,rfl⟩:=hm;have AR:(Instr.mapEntry t (a.eval m) (a.eval k)).run C.P w= .ok (.tuple #[c,goInt clock]) {w with heap:=w.heap.setIfInBounds b (.map (Es.push {key:=kV,val:=c,born:=clock}) (clock+1))}:=by rw[qe,g];simp[Instr.mapEntry,run_underlying ht,MapKept.run_getObj_map hw,qg,MapKept.run_findKey hk hq,s,MapKept.run_setObj_map _ hw,Result.andThen]
   obtain⟨hi,KQ⟩:=OG (Wj:=es++[(kA,z)]) (ents':=Es.push {key:=kV,val:=c,born:=clock}) (clock':=clock+1) hr.Ee TD hb hw ⟨by have:=L9.aD8 (γ:=γ) (k:=kA) (v:=z) (e:={key:=kV,val:=c,born:=clock}) u (FQ xj) x;simpa using this,UQ hB⟩
   refine Gl.value (by simp only[execOp,ho];exact DM AR) ((hr.JO hi KQ).put λ_ _=>⟨_,rfl,c,_,rfl,FQ xj,_,[],rfl,?_,rfl⟩);rw[hB.1];have:=x.length;simp only[Cq] at this;rw[<-this];rfl
  |some p=>
   obtain⟨j,v⟩:=p;simp only[BW,BO,Mt] at hm;obtain⟨rfl,rfl⟩:=hm;obtain⟨en,D,B,_,A,y⟩:=hq;have hj:Es[j]?=some en:=by simpa using A
   have aIZ:=hB.2 j en hj;have qm:w.heap.setIfInBounds b (.map Es clock)=w.heap:=by
    apply Rk;intro i;rw[Array.getElem?_setIfInBounds];split;.rename_i hi;subst hi;have hlt:=(AU.1 hw).1;rw[Ae hlt,hw]
    .rfl
   have AR:(Instr.mapEntry t (a.eval m) (a.eval k)).run C.P w= .ok (.tuple #[en.val,goInt j]) w:=by rw[qe,g];simp[Instr.mapEntry,run_underlying ht,MapKept.run_getObj_map hw,qg,MapKept.run_findKey hk D,hj,y,MapKept.run_keyThatStays (d:=d) (k:=kV) n,MapKept.run_setObj_map _ hw,Result.andThen,aIZ,oD hj y,qm]
   exact Gl.value (by simp only[execOp,ho];exact DM AR) (hr.put λ_ _=>⟨_,rfl,_,_,rfl,B,_,[],rfl,rfl,rfl⟩)
def tP{o:Oper}{t kt e:TypeId}{m k:Operand}{b c z r:Ab}{h':Ai}(ho:o.op= .mapEntry t m k)(ht:C.P.underlying t=some (.map kt e))(hk:C.P.underlying kt=some (.int .i64))(hz:HB C.P e=some z)(ha:Bs C U [m,k]=some [b,c])(hm:WO h z b c=some (h',r))(hr:Df C γ0 w0 γ Z U h a w):
  Gl C γ0 w0 o a w (U.put o.dst (.val r)) h':=by
 obtain⟨_,_,e0,h1,h2⟩:=Fs hr ha;cases e0;unfold WO at hm;split at hm
 .rename_i id n;split at hm;.rename_i es TD;exact Ye (kA:= .int .i64 n) (kV:= .int .i64 n) ho ht hk (by simp[MapKept.IsKey]) hz h1 h2 rfl TD (λl q d hf=>Ru (i:=0) d hf) hm hr
  .cases hm
 .cases hm
def cR{s:Ah}:∀{es:List (Ab×Ab)} {l:List MapEntry} {i:Nat} {r:Option (Nat×Ab)},L9 γ es l->Sp s es i=some r->
  match r with
  |none=>Instr.findNow .string (.string ⟨⟨s⟩⟩) l i=some none
  |some (j,v)=>∃(e:MapEntry),Instr.findNow .string (.string ⟨⟨s⟩⟩) l i=some (some (j,e.val))/\BQ γ v e.val/\i<=j/\l[j-i]?=some e/\e.key= .string ⟨⟨s⟩⟩
 |[],l,i,r,b,hf=>by rw[show l=[] from b];cases hf;rfl
 |(k,v)::es,l,i,r,b,hf=>by
  obtain⟨e,l',rfl,h1,h2,h3⟩:=b;cases k with
  |str t=>
   simp only[Sp] at hf;have hk:e.key= .string ⟨⟨t⟩⟩:=h1;split at hf;.rename_i JZ;subst JZ;cases hf;exact⟨e,by simp[Instr.findNow,hk,Instr.sameNow,SB],h2,Ad _,AB,hk⟩
   .rename_i JZ;have ih:=cR (i:=i+1) h3 hf;have hne:=Yb JZ;cases r with
    |none=>simpa[Instr.findNow,hk,Instr.sameNow,hne] using ih
    |some p=>obtain⟨j,v2⟩:=p;obtain⟨m,g,f,n,d,c⟩:=ih;refine⟨m,by simpa[Instr.findNow,hk,Instr.sameNow,hne] using g,f,Ac,?_,c⟩;rw[(Ac:j-i=(j-(i+1))+1),Uu];exact d
  |_=>simp[Sp] at hf
def tQ{o:Oper}{t kt e:TypeId}{m k:Operand}{b c z r:Ab}{h':Ai}(ho:o.op= .mapEntry t m k)(ht:C.P.underlying t=some (.map kt e))(hk:C.P.underlying kt=some .string)(hz:HB C.P e=some z)(ha:Bs C U [m,k]=some [b,c])(hm:WQ h z b c=some (h',r))(hr:Df C γ0 w0 γ Z U h a w):
  Gl C γ0 w0 o a w (U.put o.dst (.val r)) h':=by
 obtain⟨_,_,e0,h1,h2⟩:=Fs hr ha;cases e0;unfold WQ at hm;split at hm
 .rename_i id n;split at hm;.rename_i es TD;exact Ye (kA:= .str n) (kV:= .string ⟨⟨n⟩⟩) ho ht hk (by simp[MapKept.IsKey]) hz h1 h2 rfl TD (λl q d hf=>cR (i:=0) d hf) hm hr
  .cases hm
 .cases hm
def oE{o:Oper}{t kt e:TypeId}{m k x:Operand}{f g c r:Ab}{h':Ai}(ho:o.op= .insert t m k x\/o.op= .mapUpdate t m k x)(hd:o.dst=none)(ht:C.P.underlying t=some (.map kt e))(hk:C.P.underlying kt=some (.int .i64))(ha:Bs C U [m,k,x]=some [f,g,c])
  (hm:yK h f g c=some (h',r)) (hr:Df C γ0 w0 γ Z U h a w):Gl C γ0 w0 o a w U h':=by
 obtain⟨h1,h2,h3⟩:=SC hr ha;have NJ:∀w',(Instr.mapUpdate t (a.eval m) (a.eval k) (a.eval x)).run C.P w= .ok () w'->(execOp a.eval o).run C.P w= .ok .skip w':=λw' AR=>by rcases ho with ho|ho<;>simp[execOp,ho,AR]
 unfold yK at hm;split at hm
 .rename_i id n;obtain⟨b,hb,qe⟩:=h1;have d:a.eval k= .int .i64 n:=h2;split at hm
  .rename_i es TD;obtain⟨Es,clock,hw,j,hB⟩:=hr.Ee.map id es TD b hb;have qg:(Instr.checkKey false 10000 kt (.int .i64 n)).run C.P w= .ok () w:=MapKept.run_checkKey (k:= .int .i64 n) hk (by simp[MapKept.IsKey]) false 9999;split at hm
   .rename_i hf;cases hm;have hq:=Ru (i:=0) j hf;have AR:(Instr.mapUpdate t (a.eval m) (a.eval k) (a.eval x)).run C.P w= .ok () {w with heap:=w.heap.setIfInBounds b (.map (Es.push {key:= .int .i64 n,val:=a.eval x,born:=clock}) (clock+1))}:=by rw[qe,d];simp[Instr.mapUpdate,run_underlying ht,MapKept.run_getObj_map hw,qg,MapKept.run_findKey hk hq,MapKept.run_setObj_map _ hw,Result.andThen]
    obtain⟨hi,KQ⟩:=OG (Wj:=es++[(.int .i64 n,c)]) (ents':=Es.push {key:= .int .i64 n,val:=a.eval x,born:=clock}) (clock':=clock+1) hr.Ee TD hb hw ⟨by have:=L9.aD8 (γ:=γ) (k:= .int .i64 n) (v:=c) (e:={key:= .int .i64 n,val:=a.eval x,born:=clock}) rfl h3 j;simpa using this,UQ hB⟩
    exact Gl.skip (NJ _ AR) (by rw[hd];exact hr.JO hi KQ)
   .cases hm
  .cases hm
 .cases hm
def gG{es:Array MapEntry}(hB:∀(i:Nat) (e:MapEntry),es[i]?=some e->e.born=i){j:Nat}{e:MapEntry}(hj:es[j]?=some e):es.findIdx? (λe=>(e.born:Int)==(j:Int))=some j:=by
 rw[Array.findIdx?_eq_some_iff_getElem];obtain⟨hl,he⟩:=AU.1 hj;refine⟨hl,?_,λi hi=>?_⟩;.have:=hB j _ (CY hl);simp[this]
 .have:=hB i _ (CY Ac);simp[this];omega
def tR{o:Oper}{t:TypeId}{m s x:Operand}{f vs c r:Ab}{h':Ai}(ho:o.op= .entryStore t m s x)(hd:o.dst=none)(ha:Bs C U [m,s,x]=some [f,vs,c])(hm:Tk h f vs c=some (h',r))(hr:Df C γ0 w0 γ Z U h a w):Gl C γ0 w0 o a w U h':=by
 obtain⟨h1,h2,h3⟩:=SC hr ha;have NJ:∀w',(Instr.entryStore t (a.eval m) (a.eval s) (a.eval x)).run C.P w= .ok () w'->(execOp a.eval o).run C.P w= .ok .skip w':=λw' AR=>by simp[execOp,ho,AR]
 unfold Tk at hm;split at hm
 .rename_i id n;obtain⟨b,hb,qe⟩:=h1;have Kk:a.eval s= .int .i64 n:=h2;split at hm
  .rename_i es TD;split at hm
   .rename_i hn;split at hm
    .rename_i kk v0 hk;cases hm;obtain⟨Es,clock,hw,g,hB⟩:=hr.Ee.map id es TD b hb;have hlen:=g.length;have hlt:=(Aj.1 hk).1;have d:∃en,Es[n.toNat]?=some en:=⟨Es[n.toNat]'(by simp at hlen;omega),CY _⟩;obtain⟨en,hj⟩:=d;have yW:((n.toNat:Nat):Int)=n:=Ac;have aI0:=gG hB.2 hj;rw[yW] at aI0;have AR:(Instr.entryStore t (a.eval m) (a.eval s) (a.eval x)).run C.P w= .ok () {w with heap:=w.heap.setIfInBounds b (.map (Es.modify n.toNat λe=>{e with val:=a.eval x}) clock)}:=by rw[qe,Kk];simp[Instr.entryStore,MapKept.run_getObj_map hw,asInt,asIntOf,aI0,MapKept.run_setObj_map _ hw,Result.andThen]
     obtain⟨hi,KQ⟩:=OG (Wj:=es.set n.toNat (kk,c)) (ents':=Es.modify n.toNat λe=>{e with val:=a.eval x}) (clock':=clock) hr.Ee TD hb hw ⟨by have:=L9.modify h3 g hk;simpa using this,VE hB λ_=>rfl⟩
     exact Gl.skip (NJ _ AR) (by rw[hd];exact hr.JO hi KQ)
    .cases hm
   .cases hm
  .cases hm
 .cases hm
end
end Go.Am
end
section
section
namespace Go.Am
open Go
section
variable{C:Gw}{γ0 γ γ':Gh}{w0 w w':World}{O:Nat->Nat}{U U':BT}{h h':Ai}{a:Act}{fid:FuncId}{ops:List Oper}
def Gl.wp{o:Oper}{K:Act->World->Prop}{Q:Exit->Act->World->Prop}(hs:Gl C γ0 w0 o a w U' h')(b:∀γ' c a' w',Df C γ0 w0 γ' c U' h' a' w'->K a' w'):o.wp C.P a w K Q:=by
 obtain⟨γ',c,w',⟨v,he,hr⟩|⟨he,hr⟩⟩:=hs;.exact J2 he (b _ _ _ _ hr)
 .exact sT he (b _ _ _ _ hr)
def aM{P:Program}{op:BinOp}{t:TypeId}{p:Z6}(hp:Rr P op t=some p):p.still=true:=by
 have Ld:∀neg u,UI P t neg u=some p->p.still=true:=by
  intro neg u h;unfold UI at h;split at h;.cases h;rfl
  .split at h
   .cases hf:Qu P 20 t with
    |none=>rw[hf] at h;cases h
    |some k=>rw[hf] at h;cases h;rfl
   .cases h
  .split at h<;>cases h;rfl
  .cases h;rfl
  .cases h;rfl
  .cases h;rfl
  .cases h
 unfold Rr at hp;split at hp;.cases hp;rfl
 .cases hp;rfl
 .split at hp;.exact Ld _ _ hp
  .exact Ld _ _ hp
  .cases hp
 .cases hp
def OH{P:Program}{t:TypeId}{f off:Nat}{sh:Option Nat}(hf:Jc P t f=some (off,sh))(b o:Nat):(Instr.fieldAt t (.pointer (some ⟨b,o,none⟩)) f).run P w= .ok (.pointer (some ⟨b,o+off,none⟩)) w:=by
 unfold Jc at hf;split at hf
 .rename_i fs ph;split at hf
  .rename_i fd yX;split at hf;.rename_i n c h1 h2;cases hf;simp[Instr.fieldAt,run_underlying ph,yX,Instr.sureAddr,fieldPlace,DW h1,Addr.add_lit]
   .cases hf
  .cases hf
 .cases hf
def Yf(hr:Df C γ0 w0 γ O U h a w){s ver:Nat}{cs:List Ab}{ow:List Nat}(hs:Er C U (.tmp s)=some (.box ver cs ow)):a.eval (.tmp s)= .pointer (some ⟨O s,0,none⟩):=by have h0:=Ts hr s;rw[HD hs] at h0;exact h0.1
def VG(hr:Df C γ0 w0 γ O U h a w){x:Operand}{s k:Nat}(hs:Er C U x=some (.FD s k)):a.eval x= .pointer (some ⟨O s,k,none⟩):=by obtain⟨t,h1,_⟩:=GJ hr hs;exact h1
def cS{o:Oper}{t:TypeId}{v:Ab}{d:Nat}{r:E2}{run:IT->Ai->Option KE}(hb:Vw C fid t v d=some r)(Gt:r.OD C run (U.drop r.news) h U' h')
  (Qt:∀n,C.kind fid d= .Qt->v.cells.length=n->n≠0->Gl C γ0 w0 o a w ((U.drop [d]).set d (.box 0 v.cells [])) h)
  (heap:v.cells.length≠0->Gl C γ0 w0 o a w (U.put (some d) (.val (.ptr (some (h.length,0))))) (h++[.cells v.cells])):Gl C γ0 w0 o a w U' h':=by
 unfold Vw at hb;split at hb;.cases hb
 .rename_i n hn;split at hb;.cases hb
  .rename_i b;split at hb;.cases hb;obtain⟨h1,rfl,rfl⟩:=Gt;rename_i hk;exact Qt n hk h1 b
   .cases hb;obtain⟨h1,rfl,rfl⟩:=Gt;exact heap Ac
def Rv{d s k:Nat}{run:IT->Ai->Option KE}(Gt:(E2.pure [(d,.FD s k)]).OD C run (U.drop (E2.pure [(d,.FD s k)]).news) h U' h'):U'=U.set d (.FD s k)/\h'=h:=by obtain⟨rfl,rfl⟩:=Gt;exact⟨rfl,rfl⟩
def G_{run:IT->Ai->Option KE}(G:Ft C run){o:Oper}{r:E2}{K:Act->World->Prop}{Q:Exit->Act->World->Prop}(hc:GG C fid ops U o=some r)(Gt:r.OD C run (U.drop r.news) h U' h')(hr:Df C γ0 w0 γ O U h a w)
  (j:∀γ' S a' w',Df C γ0 w0 γ' S U' h' a' w'->K a' w'):o.wp C.P a w K Q:=by
 by_cases JZ:∃p args dst BU F,r= .op p args dst BU F/\p.still=true
 .obtain⟨p,args,dst,BU,F,rfl,q⟩:=JZ
  obtain⟨L,rfl,rfl,rfl⟩:=p_ hc q hr
  obtain⟨v,hv,rfl,rfl⟩:=Gt
  obtain⟨u,R,N⟩:=L v hv
  exact J2 R (j _ _ _ _ (hr.put λ_ _=>N))
 .have zq:∀{p args dst},r= .op p args dst false none->p.still=false:=λ{p args dst} he=>by
   cases hp:p.still with
   |false=>rfl
   |true=>exact absurd ⟨p,args,dst,false,none,he,hp⟩ JZ
  have Ig:∀{p dst x},UJ p dst x=some r->p.still=false:=λ{p dst x} he=>by
   obtain⟨args,_,e⟩:=Ea he
   exact zq e
  unfold GG at hc
  split at hc
  .rename_i x ho
   split at hc
   .rename_i d hd
    obtain⟨γ',Ib⟩:=Tu hc Gt hr
    exact J2 (w':=w) (v:=a.eval x) (by simp[execOp,ho]) (j _ _ _ _ (by rw[hd];exact Ib))
   .cases hc
  .rename_i x ho
   split at hc
   .rename_i d hd
    obtain⟨γ',Ib⟩:=Tu hc Gt hr
    exact J2 (w':=w) (v:=a.eval x) (by simp[execOp,ho]) (j _ _ _ _ (by rw[hd];exact Ib))
   .cases hc
  .rename_i c x y ho
   split at hc
   .rename_i d hcs hd
    obtain⟨γ',Ib⟩:=Tu hc Gt hr
    obtain⟨s,h1,_⟩:=GJ hr hcs
    have h1:a.eval c= .bool true:=h1
    exact J2 (w':=w) (v:=a.eval x) (by simp[execOp,ho,h1,asBool]) (j _ _ _ _ (by rw[hd];exact Ib))
   .rename_i d hcs hd
    obtain⟨γ',Ib⟩:=Tu hc Gt hr
    obtain⟨s,h1,_⟩:=GJ hr hcs
    have h1:a.eval c= .bool false:=h1
    exact J2 (w':=w) (v:=a.eval y) (by simp[execOp,ho,h1,asBool]) (j _ _ _ _ (by rw[hd];exact Ib))
   .cases Ig hc
  .rename_i t ho
   split at hc
   .rename_i d z hd hz
    split at hc
    .split at hc
     .rename_i Iz
      cases hc
      obtain⟨rfl,rfl⟩:=Gt
      exact(X0 ho hd hz Iz.2 hr).wp j
     .cases hc
    .rename_i hk
     refine(cS (o:=o) (a:=a) (w:=w) (γ0:=γ0) (w0:=w0) hc Gt (λn h0 h1 h2=>absurd h0 (by simpa using hk)) λh1=>X1 ho hd hz h1 hr).wp j
   .cases hc
  .rename_i t x ho
   split at hc
   .rename_i d v hd hv
    exact(cS (o:=o) (a:=a) (w:=w) (γ0:=γ0) (w0:=w0) hc Gt (λn _ h1 h2=>fZ ho hd hv h1 h2 hr) λh1=>gA ho hd hv h1 hr).wp j
   .cases hc
  .split at hc
   .split at hc
    .cases Ig hc
    .cases hc
   .cases hc
  .rename_i t len parts ho
   split at hc
   .rename_i e ht
    split at hc
    .rename_i n hn
     split at hc
     .rename_i Iz
      split at hc
      .rename_i hlen
       cases hc
       obtain⟨v,hv,rfl,rfl⟩:=Gt
       cases hv
       exact(zj ho ht hn Iz.1 Iz.2 hlen.1 hr).wp j
      cases ha:Bs C U (parts.toList.map (·.2)) with
      |none=>rw[ha] at hc;cases hc
      |some args=>
       rw[ha] at hc;cases hc
       obtain⟨v,hv,rfl,rfl⟩:=Gt
       exact(zi ho ht hn Iz.1 Iz.2 ha hv hr).wp j
     .cases hc
    .cases hc
   .cases hc
  .rename_i t x ho
   split at hc
   .rename_i d hd
    by_cases hp:∃ws,r= .pure ws
    .exact(aJ ho hd hc hp Gt hr).wp j
    .unfold MB at hc
     split at hc
     .rename_i n p ht hx
      cases hc
      obtain⟨v,hv,rfl,rfl⟩:=Gt
      have hs:=zf ho ht hx hv hr
      rw[hd] at hs
      exact hs.wp j
     .split at hc
      .simp only at hc
       split at hc<;>(cases hc;exact absurd ⟨_,rfl⟩ hp)
      .cases hc
     .split at hc
      .cases hc;exact absurd ⟨_,rfl⟩ hp
      .cases hc
     .cases hc
   .cases hc
  .rename_i t x y ho
   split at hc
   .rename_i hd
    have Wt:=hc
    unfold Kd at hc
    split at hc
    .rename_i n p v Lu hx hv
     cases hc
     obtain⟨aNz,rfl⟩:=Gt
     exact(qa ho hd Lu hx hv aNz hr).wp j
    .split at hc
     .cases hc
      exact(tJ ho hd Wt Gt hr).wp j
     .cases hc
    .cases hc
   .cases hc
  .rename_i x ho
   split at hc
   .rename_i s ver cs ow d hd hs
    cases hc
    obtain⟨rfl,rfl⟩:=Rv Gt
    have he:=Yf hr hs
    exact J2 (w':=w) (v:= .pointer (some ⟨O s,0,none⟩)) (by simp[execOp,ho,he]) (j _ _ _ _ (by rw[hd];exact hr.put (d:=some d) λ_ _=>rfl))
   .rename_i s k d hd hs
    cases hc
    obtain⟨rfl,rfl⟩:=Rv Gt
    have he:=VG hr hs
    exact J2 (w':=w) (v:= .pointer (some ⟨O s,k,none⟩)) (by simp[execOp,ho,he]) (j _ _ _ _ (by rw[hd];exact hr.put (d:=some d) λ_ _=>rfl))
   .cases Ig hc
  .split at hc
   .rename_i p hp
    have q:=Ig hc
    rw[aM hp] at q
    cases q
   .cases hc
  .cases Ig hc
  .rename_i src aNi x ho
   split at hc
   .rename_i hq
    unfold XL at hq
    cases hv:Fi C U x with
    |none=>rw[hv] at hc;cases hc
    |some v=>
     rw[hv] at hc;cases hc
     split at hq
     .cases hq
     .cases hq
     .cases hq
     .rename_i e hs hd
      split at hq
      .rename_i he
       obtain⟨v',u,h1,h2,rfl⟩:=Gt
       exact(aAn ho hs hd he hv h1 h2 hr).wp j
      .cases hq
     .split at hq<;>cases hq
     .cases hq
   .rename_i hq
    unfold XL at hq
    split at hq
    .cases hq
    .cases hq
    .cases hq
    .split at hq<;>cases hq
    .rename_i e hs hd
     split at hq
     .rename_i he _ _
      split at hc
      .cases hv:Fi C U x with
       |none=>rw[hv] at hc;cases hc
       |some v=>
        rw[hv] at hc;cases hc
        obtain⟨u,h1,rfl⟩:=Gt
        exact(gF ho hs hd he hv h1 hr).wp j
      .obtain⟨args,ha,rfl⟩:=Ea hc
       obtain⟨u,h1,rfl,rfl⟩:=Gt
       obtain⟨v,rfl,_⟩:=Hm hr ha
       exact(aAm ho hs hd he ha h1 hr).wp j
     .cases hq
    .cases hq
   .rename_i p Tx mQ hq
    have q:=Ig hc
    unfold XL at hq
    split at hq
    .cases hq;cases q
    .cases hq;cases q
    .cases hq
    .split at hq
     .cases hq;exact absurd rfl Tx
     .cases hq
    .split at hq
     .cases hq;exact absurd rfl mQ
     .cases hq
    .cases hq
   .cases hc
  .rename_i fn first captured ho
   split at hc
   .rename_i d as bs fz hd ha hb
    cases hc
    obtain⟨rfl,rfl⟩:=Gt
    exact(nU ho hd ha hb hr).wp j
   .cases hc
  .rename_i t ho
   cases hc
   obtain⟨rfl,rfl⟩:=Gt
   exact(zr ho hr).wp j
  .rename_i t l c ho
   split at hc
   .rename_i e ht
    split at hc
    .rename_i n b z T vc hn hb hz hl WX
     cases hc
     obtain⟨v,h1,rfl⟩:=Gt
     exact(zn ho ht hn hb hz hl WX h1 hr).wp j
    .cases hc
   .cases hc
  .rename_i t m k x ho
   split at hc
   .rename_i kt e ht
    split at hc
    .rename_i D E I hd hk ha
     cases hc
     obtain⟨h1,rfl⟩:=Gt
     exact(nY (.inl ho) hd ht hk ha h1 hr).wp j
    .rename_i D E I hd hk ha
     cases hc
     obtain⟨v,h1,rfl⟩:=Gt
     exact(oE (.inl ho) hd ht hk ha h1 hr).wp j
    .cases hc
   .cases hc
  .rename_i t m k x ho
   split at hc
   .rename_i kt e ht
    split at hc
    .rename_i D E I hd hk ha
     cases hc
     obtain⟨h1,rfl⟩:=Gt
     exact(nY (.inr ho) hd ht hk ha h1 hr).wp j
    .rename_i D E I hd hk ha
     cases hc
     obtain⟨v,h1,rfl⟩:=Gt
     exact(oE (.inr ho) hd ht hk ha h1 hr).wp j
    .cases hc
   .cases hc
  .rename_i t m k ok ho
   split at hc
   .rename_i kt e ht
    split at hc
    .rename_i z D E hk hz ha
     cases hc
     obtain⟨v,h1,rfl,rfl⟩:=Gt
     exact(zt ho ht hk hz ha h1 hr).wp j
    .rename_i z D E hk hz ha
     cases hc
     obtain⟨v,h1,rfl⟩:=Gt
     exact(F_ ho ht hk hz ha h1 hr).wp j
    .cases hc
   .cases hc
  .rename_i t x lo hi mx ho
   split at hc
   .rename_i e ht
    split at hc
    .rename_i n hn
     obtain⟨args,ha,rfl⟩:=HX hc
     obtain⟨v,h1,rfl⟩:=Gt
     simp only[Ey] at h1
     split at h1
     .rename_i J
      cases h1
      exact(D_ ho ht hn ha J hr).wp j
     .cases h1
    .cases hc
   .cases hc
  .rename_i t x ho
   split at hc
   .cases hc
   .rename_i u hu ht
    obtain⟨args,ha,rfl⟩:=HX hc
    obtain⟨v,h1,rfl⟩:=Gt
    obtain⟨y,rfl,_⟩:=Hm hr ha
    cases h1
    exact(E_ ho ht (λi e=>hu i e) ha hr).wp j
   .cases hc
  .rename_i t m k ho
   split at hc
   .rename_i kt e ht
    split at hc
    .rename_i z hk hz
     obtain⟨args,ha,rfl⟩:=HX hc
     obtain⟨v,h1,rfl⟩:=Gt
     obtain⟨A,B,rfl,_,_⟩:=Fs hr ha
     exact(tP ho ht hk hz ha h1 hr).wp j
    .rename_i z hk hz
     obtain⟨args,ha,rfl⟩:=HX hc
     obtain⟨v,h1,rfl⟩:=Gt
     obtain⟨A,B,rfl,_,_⟩:=Fs hr ha
     exact(tQ ho ht hk hz ha h1 hr).wp j
    .cases hc
   .cases hc
  .rename_i t m s x ho
   split at hc
   .rename_i hd
    obtain⟨args,ha,rfl⟩:=HX hc
    obtain⟨v,h1,rfl⟩:=Gt
    obtain⟨A,B,H,rfl⟩:∃A B H,args=[A,B,H]:=by
     have:=D9 hr ha
     cases args with
     |nil=>cases h1
     |cons A l1=>cases l1 with
      |nil=>cases h1
      |cons B l2=>cases l2 with
       |nil=>cases h1
       |cons H l3=>cases l3 with
        |nil=>exact⟨_,_,_,rfl⟩
        |cons _ _=>cases h1
    exact(tR ho hd ha h1 hr).wp j
   .cases hc
  .rename_i t x lo hi ho
   split at hc
   .cases Ig hc
   .rename_i e ht
    split at hc
    .rename_i n hn
     split at hc
     .obtain⟨args,ha,rfl⟩:=HX hc
      obtain⟨v,h1,rfl⟩:=Gt
      cases args with
      |nil=>cases h1
      |cons y l=>exact(B_ ho ht hn ha h1 hr).wp j
     .cases Ig hc
    .cases hc
   .cases hc
  .rename_i t x f ho
   split at hc
   .rename_i off sh d hf hd
    split at hc
    .rename_i s ver cs ow hs
     cases hc
     obtain⟨rfl,rfl⟩:=Rv Gt
     have he:=Yf hr hs
     exact J2 (w':=w) (v:= .pointer (some ⟨O s,off,none⟩)) (by simp only[execOp,ho,he];exact Fc (by rw[OH hf];simp)) (j _ _ _ _ (by rw[hd];exact hr.put (d:=some d) λ_ _=>rfl))
    .rename_i s k hs
     cases hc
     obtain⟨rfl,rfl⟩:=Rv Gt
     have he:=VG hr hs
     exact J2 (w':=w) (v:= .pointer (some ⟨O s,k+off,none⟩)) (by simp only[execOp,ho,he];exact Fc (OH hf _ _)) (j _ _ _ _ (by rw[hd];exact hr.put (d:=some d) λ_ _=>rfl))
    .cases Ig hc
   .cases hc
  .split at hc
   .cases Ig hc
   .cases hc
  .split at hc
   .split at hc
    .cases Ig hc
    .cases hc
   .split at hc
    .split at hc
     .cases hc
     .cases Ig hc
    .cases hc
   .cases hc
  .split at hc
   .cases Ig hc
   .split at hc
    .cases Ig hc
    .cases hc
   .cases hc
  .cases Ig hc
  .rename_i c ho
   unfold Sq at hc
   split at hc
   .split at hc
    .split at hc
     .cases Ig hc
     .cases Ig hc
     .cases hc
    .cases hc
   .rename_i hcl
    split at hc
    .rename_i t t' s x h0 h1 E6
     split at hc
     all_goals first
      |(cases hc;done)
      | (rename_i e _ ht J0
         split at hc
         . rename_i n b hn hb
           split at hc
           . rename_i mR
             split at hc
             . rename_i v u ha
               split at hc
               . rename_i F8
                 split at hc
                 . cases hc
                   obtain ⟨r', h3, rfl⟩ := Gt
                   exact (qh ho hcl h0 h1 E6 ht (by first | exact .inl ⟨_, J0⟩ | exact .inr J0) hn hb F8 mR ha h3 hr).wp j
                 . split at hc
                   . cases hc
                     obtain ⟨r', h3, rfl, rfl⟩ := Gt
                     exact (nW ho hcl h0 h1 E6 ht (by first | exact .inl ⟨_, J0⟩ | exact .inr J0) hn hb F8 mR ha h3 hr).wp j
                   . cases hc
                     obtain ⟨r', h3, rfl, rfl⟩ := Gt
                     exact (tM ho hcl h0 h1 E6 ht (by first | exact .inl ⟨_, J0⟩ | exact .inr J0) hn hb F8 mR ha h3 hr).wp j
               . split at hc
                 . cases hc
                   obtain ⟨r', h3, rfl⟩ := Gt
                   exact (zy ho hcl h0 h1 E6 ht (by first | exact .inl ⟨_, J0⟩ | exact .inr J0) hn hb mR ha h3 hr).wp j
                 . cases hc
             . cases hc
           . cases hc
         . cases hc)
    .cases hc
   .rename_i hcl
    split at hc
    .rename_i t t' s x h0 h1 E6
     split at hc
     all_goals first
      |(cases hc;done)
      | (rename_i e _ ht J0
         split at hc
         . rename_i n hn
           obtain ⟨args, ha, rfl⟩ := HX hc
           obtain ⟨v, h3, rfl⟩ := Gt
           obtain ⟨A, B, rfl, _, _⟩ := Fs hr ha
           exact (A_ ho hcl h0 h1 E6 ht (by first | exact .inl ⟨_, J0⟩ | exact .inr J0) hn ha h3 hr).wp j
         . cases hc)
    .cases hc
   .rename_i hcl
    split at hc
    .rename_i t s h0 E6
     split at hc
     .rename_i e ht
      split at hc
      .rename_i n z hn hz
       obtain⟨args,ha,rfl⟩:=HX hc
       obtain⟨v,h3,rfl⟩:=Gt
       obtain⟨A,rfl,_⟩:=Hm hr ha
       exact(ql ho hcl h0 E6 ht hn hz ha h3 hr).wp j
      .cases hc
     .cases hc
    .cases hc
   .split at hc
    .cases Ig hc
    .cases hc
   .split at hc
    .cases Ig hc
    .cases hc
   .rename_i f hcl
    split at hc
    .rename_i hf
     split at hc
     .rename_i s i x E6
      split at hc
      .rename_i F8
       obtain⟨args,ha,rfl⟩:=HX hc
       obtain⟨v,h3,rfl⟩:=Gt
       exact aAo G ho hcl hf E6 F8 ha h3 hr λγ' v w' Ib=>j _ _ _ _ Ib
      .cases hc
     .cases hc
    split at hc
    rotate_left
    .cases hc
    rename_i VD
    rw[<-VD] at hcl
    cases ha:Bs C U c.args.toList with
    |none=>rw[ha] at hc;cases hc
    |some args=>
     rw[ha] at hc
     simp only[BW,BO] at hc
     split at hc
     .cases hc
      obtain⟨Jz,M,h1,h2,h3,rfl,rfl⟩:=Gt
      exact qc G ho hcl ha Jz h2 h3 hr λγ' v w' Ib=>j _ _ _ _ Ib
     .cases hc
      obtain⟨M,h1,rfl⟩:=Gt
      exact zp G ho hcl ha h1 hr λγ' v w' Ib=>j _ _ _ _ Ib
   .rename_i g hn hcl
    split at hc
    .rename_i V args hg ha
     cases hc
     obtain⟨f,args',M,h0,h1,rfl⟩:=Gt
     exact qd G ho hcl hg ha h0 h1 hr λγ' v w' Ib=>j _ _ _ _ Ib
    .cases hc
   .cases hc
  .cases hc
end
end Go.Am
end
section
namespace Go.Am
open Go
section
variable{C:Gw}{U Z:BT}{fid:FuncId}{ops:List Oper}
def gH{x:Operand}(h:∀t,x= .tmp t->Z.at t=U.at t):Er C Z x=Er C U x:=by
 cases x with
 |tmp t=>simp only[Er,h t rfl]
 |const v=>
  cases v with
  |slice a b c=>cases a<;>cases b<;>cases c<;>rfl
  |_=>rfl
 |global g=>rfl
 |func f=>rfl
def WY(C:Gw)(U Z:BT)(xs:List Operand):Prop:=∀x∈xs,Er C Z x=Er C U x
def WY.zD{xs:List Operand}(h:∀t∈Ls xs,Z.at t=U.at t):WY C U Z xs:=λx hx=>gH λt ht=>h t (by subst ht;exact Cs.2 ⟨_,hx,rfl⟩)
def WY.val{xs:List Operand}(h:WY C U Z xs){x:Operand}(hx:x∈xs):Fi C Z x=Fi C U x:=by unfold Fi;rw[h x hx]
def WY.Lw{xs:List Operand}(h:WY C U Z xs):∀{ys:List Operand},(∀y∈ys,y∈xs)->Bs C Z ys=Bs C U ys
 |[],_=>rfl
 |y::ys,hy=>by unfold Bs;rw[h.val (hy y AB),h.Lw λz hz=>hy z (by simp[hz])]
def WY.move{xs:List Operand}(h:WY C U Z xs){x:Operand}(hx:x∈xs)(d:Nat)(take:Bool):Lr C Z x d take=Lr C U x d take:=by unfold Lr;rw[h x hx]
def WY.BU{xs:List Operand}(h:WY C U Z xs){x:Operand}(hx:x∈xs):L7 C Z x=L7 C U x:=by unfold L7;rw[h x hx]
def WY.DU{xs:List Operand}(h:WY C U Z xs){x:Operand}(hx:x∈xs):Dv Z x=Dv U x:=by
 cases x with
 |tmp t=>have:=h _ hx;simp only[Er,BO] at this;simp only[Dv,this]
 |_=>rfl
def WY.HU{xs:List Operand}(h:WY C U Z xs):∀{ys:List Operand},(∀y∈ys,y∈xs)->Am.HU C Z ys=Am.HU C U ys
 |[],_=>rfl
 |y::ys,hy=>by unfold Am.HU;rw[h y (hy y AB),h.HU λz hz=>hy z (by simp[hz])]
def WY.addr{xs:List Operand}(h:WY C U Z xs){x:Operand}(hx:x∈xs)(hb:∀s∈(Pk C U x).toList,Z.at s=U.at s)(hn:GF C U x≠none):GF C Z x=GF C U x:=by
 have NV:=h x hx;cases hs:Er C U x with
 |none=>unfold GF at hn;rw[hs] at hn;exact absurd (by split<;>simp_all) hn
 |some sl=>
  rw[hs] at NV;cases sl with
  |FD s o=>
   have h1:∀J:BT,Er C J x=some (.FD s o)->GF C J x=match J.at s with| .box ver cs ow=>some (.Qt s o ver cs ow)|_=>none:=λJ b=>by unfold GF;rw[b];cases x<;>rfl
   rw[h1 U hs] at hn⊢;rw[h1 Z NV];have h2:s∈(Pk C U x).toList:=by
    unfold Pk;rw[h1 U hs];cases Su:U.at s with
    |box ver cs ow=>simp
    |_=>rw[Su] at hn;exact absurd rfl hn
   rw[hb s h2]
  |_=>unfold GF;rw[hs,NV];cases x<;>rfl
def WY.load{xs:List Operand}(h:WY C U Z xs){x:Operand}(hx:x∈xs)(hb:∀s∈(Pk C U x).toList,Z.at s=U.at s){t:TypeId}{d:Nat}{take:Bool}{r:E2}(hc:MB C U t x d take=some r):MB C Z t x d take=some r:=by
 have hn:GF C U x≠none:=λhe=>by unfold MB at hc;rw[he] at hc;split at hc<;>simp_all
 unfold MB at hc⊢;rw[h.addr hx hb hn];exact hc
def WY.store{xs:List Operand}(h:WY C U Z xs){x y:Operand}(hx:x∈xs)(hy:y∈xs)(hb:∀s∈(Pk C U x).toList,Z.at s=U.at s){t:TypeId}{r:E2}(hc:Kd C U t x y=some r):Kd C Z t x y=some r:=by
 have hn:GF C U x≠none:=λhe=>by unfold Kd at hc;rw[he] at hc;split at hc<;>simp_all
 unfold Kd at hc⊢;rw[h.addr hx hb hn,h.val hy,h.BU hy,h.DU hy];exact hc
def WY.call{c:Call}(h:WY C U Z c.operands.toList)(dst:Option Nat):Sq C fid Z c dst=Sq C fid U c dst:=by
 have ha:∀y∈c.args.toList,y∈c.operands.toList:=λy hy=>by unfold Call.operands;rw[Hv];exact BJ _ hy
 have hv:Bs C Z c.args.toList=Bs C U c.args.toList:=h.Lw ha;unfold Sq;split;.rw[hv]
 .split
  .rename_i E6;have h1:∀{s x:Operand},c.args.toList=[s,x]->L7 C Z s=L7 C U s/\Dv Z s=Dv U s/\Bs C Z [s,x]=Bs C U [s,x]:=λ{s x} he=>by rw[he] at ha;exact⟨h.BU (ha s AB),h.DU (ha s AB),h.Lw λy hy=>ha y hy⟩
   obtain⟨e,d,b⟩:=h1 E6;rw[e,d,b]
  .rfl
 .split;.rename_i E6;rw[E6] at ha;rw[h.Lw λy hy=>ha y hy]
  .rfl
 .split;.rename_i E6;rw[E6] at ha;rw[h.Lw λy hy=>ha y hy]
  .rfl
 .rw[hv]
 .rw[hv]
 .split
  .split;.rename_i s i v E6;rw[E6] at ha;rw[h.BU (ha v AB),h.Lw λy hy=>ha y hy]
   .rfl
  .rw[hv]
 .rename_i g _ hcl;have hg:g∈c.operands.toList:=by unfold Call.operands;rw[hcl];simp
  rw[hv,h.val hg]
 .rfl
def Yg{o:Oper}{r:E2}(hc:GG C fid ops U o=some r)(ht:∀t∈Ls o.op.operands.toList,Z.at t=U.at t)(hb:∀s∈II C U o,Z.at s=U.at s):GG C fid ops Z o=some r:=by
 have h:WY C U Z o.op.operands.toList:= .zD ht
 unfold GG at hc⊢
 cases ho:o.op with
 |move x=>
  rw[ho] at h
  simp only[ho] at hc⊢
  have:=λd=>h.move (x:=x) JF d
  simpa only[this] using hc
 |assign x=>
  rw[ho] at h
  simp only[ho] at hc⊢
  have:=λd=>h.move (x:=x) JF d
  simpa only[this] using hc
 |pick c a b=>
  rw[ho] at h
  simp only[ho] at hc⊢
  have h1:=λd=>h.move (x:=a) JF d
  have h2:=λd=>h.move (x:=b) JF d
  rw[h c JF,h.Lw (ys:=[c,a,b]) JF]
  simpa only[h1,h2] using hc
 |alloc t=>rw[ho] at hc;exact hc
 |box t x=>
  rw[ho] at h
  simp only[ho] at hc⊢
  rw[h.val (x:=x) JF]
  exact hc
 |build t parts=>
  rw[ho] at h
  simp only[ho] at hc⊢
  rw[h.Lw (ys:=parts.toList.map (·.2)) JF]
  exact hc
 |buildSlice t len parts=>
  rw[ho] at h
  simp only[ho] at hc⊢
  rw[h.Lw (ys:=parts.toList.map (·.2)) JF]
  exact hc
 |load t x=>
  rw[ho] at h
  simp only[ho] at hc⊢
  split at hc
  .exact h.load JF (λs hs=>hb s (by simpa only[II,ho] using hs)) hc
  .cases hc
 |store t x y=>
  rw[ho] at h
  simp only[ho] at hc⊢
  split at hc
  .exact h.store JF JF (λs hs=>hb s (by simpa only[II,ho] using hs)) hc
  .cases hc
 |nilCheck x=>
  rw[ho] at h
  simp only[ho] at hc⊢
  have e:=h.Lw (ys:=[x]) JF
  rw[h x JF]
  cases hs:Er C U x with
  |none=>rw[hs] at hc;cases x<;>cases hd:o.dst<;>rw[hd] at hc<;>first|exact hc|(show UJ _ _ (Bs C Z [_])=some r;rw[e];exact hc)
  |some sl=>rw[hs] at hc;cases sl<;>cases x<;>cases hd:o.dst<;>rw[hd] at hc<;>first|exact hc|(show UJ _ _ (Bs C Z [_])=some r;rw[e];exact hc)
 |binOp op t x y k=>
  rw[ho] at h
  simp only[ho] at hc⊢
  rw[h.Lw (ys:=[x,y]) JF]
  exact hc
 |unOp op t x=>
  rw[ho] at h
  simp only[ho] at hc⊢
  rw[h.Lw (ys:=[x]) JF]
  exact hc
 |convert src dst x=>
  rw[ho] at h
  simp only[ho] at hc⊢
  rw[h.Lw (ys:=[x]) JF,h.val (x:=x) JF]
  exact hc
 |makeFunc fn first captured=>
  rw[ho] at h
  simp only[ho] at hc⊢
  rw[h.Lw (ys:=first.toList) (λ_ hm=>by simp[Op.operands,hm]),h.HU (ys:=captured.toList) (λ_ hm=>by simp[Op.operands,hm])]
  exact hc
 |makeMap t r'=>
  rw[ho] at hc
  cases r' with
  |none=>exact hc
  |some _=>cases hc
 |makeSlice t l c=>
  rw[ho] at h
  simp only[ho] at hc⊢
  rw[h.val (x:=l) JF,h.val (x:=c) JF]
  exact hc
 |insert t m k v=>
  rw[ho] at h
  simp only[ho] at hc⊢
  rw[h.Lw (ys:=[m,k,v]) JF]
  exact hc
 |mapUpdate t m k v=>
  rw[ho] at h
  simp only[ho] at hc⊢
  rw[h.Lw (ys:=[m,k,v]) JF]
  exact hc
 |lookup t m k ok=>
  rw[ho] at h
  simp only[ho] at hc⊢
  rw[h.Lw (ys:=[m,k]) JF]
  exact hc
 |slice t x lo hi mx=>
  rw[ho] at h hc
  cases mx with
  |none=>
   have e:=h.Lw (ys:=x::(lo.toList++hi.toList)) (by cases lo<;>cases hi<;>simp[Op.operands])
   simp only at hc⊢
   rw[e]
   exact hc
  |some mx=>cases lo with
   |none=>cases hc
   |some lo=>cases hi with
    |none=>cases hc
    |some hi=>
     have e:=h.Lw (ys:=[x,lo,hi,mx]) JF
     simp only at hc⊢
     rw[e]
     exact hc
 |makeInterface t x=>
  rw[ho] at h
  simp only[ho] at hc⊢
  rw[h.Lw (ys:=[x]) JF]
  exact hc
 |mapEntry t m k=>
  rw[ho] at h
  simp only[ho] at hc⊢
  rw[h.Lw (ys:=[m,k]) JF]
  exact hc
 |entryStore t m s v=>
  rw[ho] at h
  simp only[ho] at hc⊢
  rw[h.Lw (ys:=[m,s,v]) JF]
  exact hc
 |fieldAddr t x f=>
  rw[ho] at h
  simp only[ho] at hc⊢
  have e:=h.Lw (ys:=[x]) JF
  rw[h x JF]
  cases hf:Jc C.P t f with
  |none=>rw[hf] at hc;cases hc
  |some q=>
   rw[hf] at hc
   cases hd:o.dst with
   |none=>rw[hd] at hc;cases hc
   |some d=>
    rw[hd] at hc
    cases hs:Er C U x with
    |none=>rw[hs] at hc;cases x<;>first|exact hc|(show UJ _ _ (Bs C Z [_])=some r;rw[e];exact hc)
    |some sl=>rw[hs] at hc;cases sl<;>cases x<;>first|exact hc|(show UJ _ _ (Bs C Z [_])=some r;rw[e];exact hc)
 |field t x f=>
  rw[ho] at h
  simp only[ho] at hc⊢
  rw[h.Lw (ys:=[x]) JF]
  exact hc
 |indexAddr t x i=>
  rw[ho] at h
  simp only[ho] at hc⊢
  rw[h.Lw (ys:=[x,i]) JF]
  exact hc
 |index t x i=>
  rw[ho] at h
  simp only[ho] at hc⊢
  rw[h.Lw (ys:=[x,i]) JF]
  exact hc
 |extract x i=>
  rw[ho] at h
  simp only[ho] at hc⊢
  rw[h.Lw (ys:=[x]) JF]
  exact hc
 |call c=>
  rw[ho] at h
  simp only[ho] at hc⊢
  rw[h.call]
  exact hc
 |_=>simp only[ho] at hc;cases hc
end
end Go.Am
end
section
namespace Go.Am
open Go
mutual
def Ab.beq_eq:∀{a b:Ab},Ab.beq a b=true->a=b
 | .bool a,b,h=>by cases b<;>simp[Ab.beq] at h⊢;exact h
 | .int k a,b,h=>by cases b<;>simp[Ab.beq] at h⊢;exact h
 | .str a,b,h=>by cases b<;>simp[Ab.beq] at h⊢;exact h
 | .ptr a,b,h=>by cases b<;>simp[Ab.beq] at h⊢;exact h
 | .Hi a,b,h=>by cases b<;>simp[Ab.beq] at h⊢;exact h
 | .Cd a,b,h=>by cases b<;>simp[Ab.beq] at h⊢;exact Ab.Py h
 | .sl n a,b,h=>by cases b<;>simp[Ab.beq] at h⊢;exact⟨h.1,Ab.oF h.2⟩
 | .slnil,b,h=>by cases b<;>simp[Ab.beq] at h⊢
 | .Du a c d e,b,h=>by cases b<;>simp[Ab.beq] at h⊢;exact⟨h.1.1.1,h.1.1.2,h.1.2,h.2⟩
 | .map a,b,h=>by cases b<;>simp[Ab.beq] at h⊢;exact h
 | .func f a c,b,h=>by cases b<;>simp[Ab.beq] at h⊢;exact⟨h.1.1,Ab.Py h.1.2,Ab.Py h.2⟩
 | .nilFunc,b,h=>by cases b<;>simp[Ab.beq] at h⊢
 | .iface t a,b,h=>by cases b<;>simp[Ab.beq] at h⊢;exact⟨h.1,Ab.beq_eq h.2⟩
 | .nilIface,b,h=>by cases b<;>simp[Ab.beq] at h⊢
 | .agg a,b,h=>by cases b<;>simp[Ab.beq] at h⊢;exact Ab.Py h
 | .tuple a,b,h=>by cases b<;>simp[Ab.beq] at h⊢;exact Ab.Py h
def Ab.Py:∀{a b:List Ab},Ab.Th a b=true->a=b
 |[],b,h=>by cases b<;>simp[Ab.Th] at h⊢
 |a::x,b,h=>by
  cases b with
  |nil=>simp[Ab.Th] at h
  |cons c y=>simp[Ab.Th] at h⊢;exact⟨Ab.beq_eq h.1,Ab.Py h.2⟩
def Ab.oF:∀{a b:List (List Ab)},Ab.Ti a b=true->a=b
 |[],b,h=>by cases b<;>simp[Ab.Ti] at h⊢
 |a::x,b,h=>by
  cases b with
  |nil=>simp[Ab.Ti] at h
  |cons c y=>simp[Ab.Ti] at h⊢;exact⟨Ab.Py h.1,Ab.oF h.2⟩
end
def BT.Kx(U:BT):∀(a b:List (Nat×ER)),U.E3 (a++b)=(U.E3 a).E3 b
 |[],_=>rfl
 |(s,x)::a,b=>BT.Kx (U.set s x) a b
def BT.Ky:∀(ws:List (Nat×ER)) (U:BT),(U.E3 ws).length=U.length
 |[],_=>rfl
 |(s,x)::ws,U=>by rw[BT.E3,BT.Ky ws];simp
def BT.Yh(U:BT)(s t:Nat)(x:ER):BT.at (U.set s x) t=if s=t/\t<U.length then x else U.at t:=by
 by_cases h:s=t
 .subst h;by_cases hl:s<U.length;.simp[BT.at,List.getD,hl]
  .simp[BT.at,List.getD,hl]
 .simp[BT.at,List.getD,Aq h,h]
def BT.Hn:∀(ws:List (Nat×ER)) (U:BT) (t:Nat),(∀p∈ws,p.1≠t)->(U.E3 ws).at t=U.at t
 |[],_,_,_=>rfl
 |(s,x)::ws,U,t,h=>by rw[BT.E3,BT.Hn ws _ t λp hp=>h p (by simp[hp]),BT.Yh,Aa];exact λe=>h (s,x) AB e.1
def BT.Yi:∀(ws:List (Nat×ER)) (U:BT) (t:Nat),(U.E3 ws).at t=U.at t\/∃p∈ws,p.1=t/\(U.E3 ws).at t=p.2
 |[],_,_=> .inl rfl
 |(s,x)::ws,U,t=>by
  rcases BT.Yi ws (U.set s x) t with h|⟨p,hp,h1,h2⟩
  .rw[BT.Yh] at h;by_cases hc:s=t/\t<U.length;.rw[Ae hc] at h;exact .inr ⟨(s,x),AB,hc.1,h⟩
   .rw[Aa hc] at h;exact .inl h
  .exact .inr ⟨p,by simp[hp],h1,h2⟩
def BT.J5:∀(ws:List (Nat×ER)) (U Z:BT) (t:Nat),Z.length=U.length->Z.at t=U.at t->(Z.E3 ws).at t=(U.E3 ws).at t
 |[],_,_,_,_,h=>h
 |(s,x)::ws,U,Z,t,hl,h=>by refine BT.J5 ws _ _ t (by simpa using hl) ?_;rw[BT.Yh,BT.Yh,hl,h]
def BT.ext{U Z:BT}(hl:Z.length=U.length)(h:∀t,Z.at t=U.at t):Z=U:=by apply List.ext_getElem hl;intro i h1 h2;have:=h i;simpa[BT.at,List.getD,h1,h2] using this
def BT.qn{U:BT}{a b:List (Nat×ER)}(h:∀p∈a,∀q∈b,p.1≠q.1):(U.E3 a).E3 b=(U.E3 b).E3 a:=by
 refine BT.ext (by simp[BT.Ky]) λt=>?_;by_cases ha:∀p∈a,p.1≠t;.rw[BT.Hn a (U.E3 b) t ha];exact BT.J5 b _ _ t (by simp[BT.Ky]) (BT.Hn a U t ha)
 .have⟨p,hp,c⟩:∃p∈a,p.1=t:=Classical.byContradiction λhn=>ha λp hp e=>hn ⟨p,hp,e⟩;have hb:∀q∈b,q.1≠t:=λq hq e=>h p hp q hq (by rw[c,e]);rw[BT.Hn b (U.E3 a) t hb];exact(BT.J5 a _ _ t (by simp[BT.Ky]) (BT.Hn b U t hb)).symm
def Pz{U:BT}{ds:List Nat}:Oh U ds=true↔∀x t o,U.at x= .FD t o->t∉ds:=by
 unfold Oh;rw[Eg];constructor
 .intro h x t o hx;by_cases hl:x<U.length;.have:=h (U.at x) (by simp[BT.at,List.getD,hl]);rw[hx] at this;simpa using this
  .simp[BT.at,List.getD,hl] at hx
 .intro h s hs;obtain⟨i,hi⟩:=CU hs;cases s with
  |FD t o=>have:=h i t o (by simp[BT.at,List.getD,hi]);simpa using this
  |_=>rfl
def qo{a b:List Nat}:Vx a b=true↔∃x,x∈a/\x∈b:=by simp[Vx]
structure St where
 idx:Nat
 fp:FP
 fl:Option Lk
def LZ(i:Nat)(r:E2)(U:BT):Option Lk:=
 match r with
 | .load n p (some d)=>match U.at d with
  | .val v=>some {idx:=i,n,p,v}
  |_=>none
 |_=>none
def Yj(i:Nat)(r:E2)(U:BT)(fl:List Lk):NU i r U fl=(LZ i r U).toList++fl:=by
 cases r with
 |load n p dst=>
  cases dst with
  |none=>rfl
  |some d=>simp only[NU,LZ];cases U.at d<;>rfl
 |_=>rfl
def aN{i:Nat}{r:E2}{U Z:BT}(h:∀d∈r.wf,Z.at d=U.at d):LZ i r Z=LZ i r U:=by
 cases r with
 |load n p dst=>
  cases dst with
  |none=>rfl
  |some d=>simp only[LZ];rw[h d (by simp[E2.wf])]
 |_=>rfl
def NZ(d:Option Nat)(U U':BT):Prop:=
 match d with
 |none=>U'=U
 |some d=>match U.at d with
  | .val v=>∃b,v= .bool b/\U'=U.set d (.Qk b)
  |_=>U'=U
section
variable{C:Gw}{fid:FuncId}{ops:List Oper}{run:IT->Ai->Option KE}{U Z U':BT}{h h':Ai}
def QF(C:Gw)(fid:FuncId)(ops:List Oper)(run:IT->Ai->Option KE)(s:St)(U:BT)(h:Ai)(U':BT)(h':Ai):Prop:=
 ∃o,ops[s.idx]?=some o/\
  ((JE ops U o = .OA false /\ s.fp = Wi C ops U o none /\ s.fl = none /\ U' = U.put o.dst .skip /\ h' = h) \/
   ∃ r U1, JE ops U o = .OA true /\ GG C fid ops U o = some r /\ s.fp = Wi C ops U o (some r) /\ r.OD C run (U.drop r.news) h U1 h' /\ s.fl = LZ s.idx r U1 /\
     NZ (if To ops s.idx then o.dst else none) U1 U')
def Yk(U:BT)(d:Option Nat)(x:ER):U.put d x=U.E3 (d.toList.map λs=>(s,x)):=by cases d<;>rfl
def qp(U:BT)(d:Option (Nat×Ab)):U.DU d=U.E3 (d.toList.map λp=>(p.1,.val p.2)):=by cases d<;>rfl
def cT{r:E2}(hd:r.OD C run U h U' h'):∃ws,U'=U.E3 ws/\(∀p∈ws,p.1∈r.wf)/\(∀p∈ws,∀t o,p.2= .FD t o->t∈r.yN)/\∀Z,r.OD C run Z h (Z.E3 ws) h':=by
 have one:∀(d:Option Nat) (x:ER),(∀t o,x≠ .FD t o)->U'=U.put d x->d.toList⊆r.wf->(∀Z,r.OD C run Z h (Z.put d x) h')->
   ∃ws,U'=U.E3 ws/\(∀p∈ws,p.1∈r.wf)/\(∀p∈ws,∀t o,p.2= .FD t o->t∈r.yN)/\∀Z,r.OD C run Z h (Z.E3 ws) h':=by
  intro d x hx he hw ht;refine⟨d.toList.map λs=>(s,x),by rw[<-Yk];exact he,λp hp=>?_,λp hp t o hl=>?_,λZ=>by rw[<-Yk];exact ht Z⟩;.obtain⟨s,hs,rfl⟩:=A5.1 hp;exact hw hs
  .obtain⟨s,hs,rfl⟩:=A5.1 hp;exact absurd hl (hx t o)
 have Kj:∀(i:Option (Nat×Ab)) (d:Option Nat) (x:ER),(∀t o,x≠ .FD t o)->U'=(U.DU i).put d x->d.toList⊆r.wf->(i.map (·.1)).toList⊆r.wf->(∀Z,r.OD C run Z h ((Z.DU i).put d x) h')->
   ∃ws,U'=U.E3 ws/\(∀p∈ws,p.1∈r.wf)/\(∀p∈ws,∀t o,p.2= .FD t o->t∈r.yN)/\∀Z,r.OD C run Z h (Z.E3 ws) h':=by
  intro i d x hx he hw H_ ht;have e:∀Z:BT,(Z.DU i).put d x=Z.E3 ((i.toList.map λp=>(p.1,.val p.2))++d.toList.map λs=>(s,x)):=λZ=>by rw[BT.Kx,<-qp,<-Yk]
  refine⟨_,by rw[he,e],λp hp=>?_,λp hp t o hl=>?_,λZ=>by rw[<-e];exact ht Z⟩
  .rcases Ao.1 hp with hp|hp
   .obtain⟨q,hq,rfl⟩:=A5.1 hp;exact H_ (by cases i<;>simp_all)
   .obtain⟨s,hs,rfl⟩:=A5.1 hp;exact hw hs
  .rcases Ao.1 hp with hp|hp
   .obtain⟨q,hq,rfl⟩:=A5.1 hp;cases hl
   .obtain⟨s,hs,rfl⟩:=A5.1 hp;exact absurd hl (hx t o)
 cases r with
 |pure ws=>obtain⟨rfl,rfl⟩:=hd;refine⟨ws,rfl,λp hp=>A5.2 ⟨p,hp,rfl⟩,λp hp t o hl=>?_,λZ=>⟨rfl,rfl⟩⟩;exact Cs.2 ⟨p.2,A5.2 ⟨p,hp,rfl⟩,by rw[hl]⟩
 |op p args dst BU i=>obtain⟨v,hv,rfl,rfl⟩:=hd;exact Kj i dst _ (by cases BU<;>simp) rfl (by simp[E2.wf]) (by simp[E2.wf]) λZ=>⟨v,hv,rfl,rfl⟩
 |box n v d=>obtain⟨hn,rfl,rfl⟩:=hd;exact one (some d) _ AB rfl (by simp[E2.wf]) λZ=>⟨hn,rfl,rfl⟩
 |closure fn x b fz d=>
  obtain⟨rfl,rfl⟩:=hd;refine⟨(fz.map λ(s,cs)=>(s,.val (.Cd cs)))++[(d,.val (.func fn x b))],by rw[BT.Kx];rfl,λp hp=>?_,λp hp t o hl=>?_,λZ=>⟨by rw[BT.Kx];rfl,rfl⟩⟩
  .rcases Ao.1 hp with hp|hp
   .obtain⟨q,hq,rfl⟩:=A5.1 hp;exact Pc _ (A5.2 ⟨q,hq,rfl⟩)
   .simp at hp;subst hp;simp[E2.wf]
  .rcases Ao.1 hp with hp|hp
   .obtain⟨q,hq,rfl⟩:=A5.1 hp;cases hl
   .simp at hp;subst hp;cases hl
 |Og s off n v BU i ver cells owned=>obtain⟨hn,rfl,rfl⟩:=hd;exact Kj i (some s) _ AB rfl (by simp[E2.wf]) (by simp[E2.wf]) λZ=>⟨hn,rfl,rfl⟩
 |load n p dst=>obtain⟨v,hv,rfl,rfl⟩:=hd;exact one dst _ AB rfl (by simp[E2.wf]) λZ=>⟨v,hv,rfl,rfl⟩
 |store n p v=>obtain⟨hv,rfl⟩:=hd;exact one none .undef AB rfl AB λZ=>⟨hv,rfl⟩
 |alloc n v dst=>obtain⟨hn,rfl,rfl⟩:=hd;exact one dst _ AB rfl (by simp[E2.wf]) λZ=>⟨hn,rfl,rfl⟩
 |call f args dst=>obtain⟨v,hv,rfl⟩:=hd;exact one dst _ (by intro t o;split<;>simp) rfl (by simp[E2.wf]) λZ=>⟨v,hv,rfl⟩
 |EJ g args dst=>obtain⟨f,x,v,h1,h2,rfl⟩:=hd;exact one dst _ AB rfl (by simp[E2.wf]) λZ=>⟨f,x,v,h1,h2,rfl⟩
 |Bz f args dst=>obtain⟨Jz,v,h1,h2,h3,rfl,rfl⟩:=hd;exact one dst _ AB rfl (by simp[E2.wf]) λZ=>⟨Jz,v,h1,h2,h3,rfl,rfl⟩
 |Oy dst=>obtain⟨rfl,rfl⟩:=hd;exact one dst _ AB rfl (by simp[E2.wf]) λZ=>⟨rfl,rfl⟩
 |Iw m k v=>obtain⟨hv,rfl⟩:=hd;exact one none .undef AB rfl AB λZ=>⟨hv,rfl⟩
 |M8 z ok m k dst=>obtain⟨v,hv,rfl,rfl⟩:=hd;exact one dst _ AB rfl (by simp[E2.wf]) λZ=>⟨v,hv,rfl,rfl⟩
 |make z b zero l c dst=>obtain⟨v,hv,rfl⟩:=hd;exact one dst _ AB rfl (by simp[E2.wf]) λZ=>⟨v,hv,rfl⟩
 |Ks z b s x dst i=>obtain⟨v,hv,rfl⟩:=hd;exact Kj i dst _ AB rfl (by simp[E2.wf]) (by simp[E2.wf]) λZ=>⟨v,hv,rfl⟩
 |GZ z b s x dst=>obtain⟨v,hv,rfl⟩:=hd;exact one dst _ AB rfl (by simp[E2.wf]) λZ=>⟨v,hv,rfl⟩
 |GW z b s x dst i=>obtain⟨v,hv,rfl,rfl⟩:=hd;exact Kj i dst _ AB rfl (by simp[E2.wf]) (by simp[E2.wf]) λZ=>⟨v,hv,rfl,rfl⟩
 |Fq s dst=>obtain⟨v,hv,rfl⟩:=hd;exact one dst _ AB rfl (by simp[E2.wf]) λZ=>⟨v,hv,rfl⟩
 |XD s dst=>obtain⟨v,u,h1,h2,rfl⟩:=hd;exact one dst _ AB rfl (by simp[E2.wf]) λZ=>⟨v,u,h1,h2,rfl⟩
 |mem o args dst=>obtain⟨v,hv,rfl⟩:=hd;exact one dst _ (by intro t o';split<;>simp) rfl (by simp[E2.wf]) λZ=>⟨v,hv,rfl⟩
def US{r:E2}(hd:r.OD C run U h U' h')(he:r.Td=false):h'=h/\
  (r.hl=false->∀h2,r.OD C run U h2 U' h2)/\
  ∀n p d,r= .load n p (some d)->∃v,Bp h n p=some v/\U'=U.set d (.val v)/\∀h2,Bp h2 n p=some v->r.OD C run U h2 U' h2:=by
 cases r<;>simp only[E2.Td] at he<;>try(exact absurd he Az)
 case pure ws=>obtain⟨rfl,rfl⟩:=hd;exact⟨rfl,λ_ _=>⟨rfl,rfl⟩,AB⟩
 case op p args dst BU g=>obtain⟨v,hv,rfl,rfl⟩:=hd;exact⟨rfl,λ_ _=>⟨v,hv,rfl,rfl⟩,AB⟩
 case box n v d=>obtain⟨hn,rfl,rfl⟩:=hd;exact⟨rfl,λ_ _=>⟨hn,rfl,rfl⟩,AB⟩
 case closure fn x b fz d=>obtain⟨rfl,rfl⟩:=hd;exact⟨rfl,λ_ _=>⟨rfl,rfl⟩,AB⟩
 case Og s off n v BU g ver cells owned=>obtain⟨hn,rfl,rfl⟩:=hd;exact⟨rfl,λ_ _=>⟨hn,rfl,rfl⟩,AB⟩
 case load n p dst=>obtain⟨v,hv,rfl,rfl⟩:=hd;refine⟨rfl,λc=>absurd c (by simp[E2.hl]),λn' p' d he=>?_⟩;cases he;exact⟨v,hv,rfl,λh2 e=>⟨v,e,rfl,rfl⟩⟩
 case M8 z ok m k dst=>obtain⟨v,hv,rfl,rfl⟩:=hd;exact⟨rfl,λc=>absurd c (by simp[E2.hl]),AB⟩
 case Bz f args dst=>obtain⟨Jz,v,h1,h2,h3,rfl,rfl⟩:=hd;exact⟨rfl,λ_ _=>⟨Jz,v,h1,h2,h3,rfl,rfl⟩,AB⟩
def VH{ds:List Nat}(hn:Oh U ds=true):U.drop ds=U:=by
 refine BT.ext (BT.length_drop U ds) λt=>?_;rw[BT.WT];cases hx:U.at t with
 |FD t' o=>have:=Pz.1 hn t t' o hx;simp[this]
 |_=>rfl
def R7{o:Oper}(h:∀t∈FZ ops o,Z.at t=U.at t):JE ops Z o=JE ops U o:=by
 unfold JE;unfold FZ at h;cases hg:o.guard with
 |none=>rfl
 |some g=>
  obtain⟨j,want⟩:=g;rw[hg] at h;simp only at h⊢;cases hd:(ops[j]?).bind (·.dst) with
  |none=>rfl
  |some s=>
   rw[hd] at h;simp only
   rw[h s AB]
def Wu{o:Oper}{r:E2}(hc:GG C fid ops U o=some r)(ht:∀t∈Ls o.op.operands.toList,Z.at t=U.at t)(hb:∀s∈II C U o,Z.at s=U.at s):II C Z o=II C U o:=by
 have h:WY C U Z o.op.operands.toList:= .zD ht
 unfold II at hb⊢
 cases ho:o.op with
 |load t x=>
  rw[ho] at h hb
  simp only at hb⊢
  have hn:GF C U x≠none:=λhe=>by
   unfold GG at hc
   simp only[ho] at hc
   split at hc
   .unfold MB at hc;rw[he] at hc;split at hc<;>simp_all
   .cases hc
  unfold Pk
  rw[h.addr JF hb hn]
 |store t x y=>
  rw[ho] at h hb
  simp only at hb⊢
  have hn:GF C U x≠none:=λhe=>by
   unfold GG at hc
   simp only[ho] at hc
   split at hc
   .unfold Kd at hc;rw[he] at hc;split at hc<;>simp_all
   .cases hc
  unfold Pk
  rw[h.addr JF hb hn]
 |_=>rfl
def VI{xs:List ER}{t o:Nat}(h: .FD t o∈xs):t∈WS xs:=Cs.2 ⟨_,h,rfl⟩
def QF.spec{s:St}(hs:QF C fid ops run s U h U' h')(hf:s.fp.Kh=true):
  ∃ws,U'=U.E3 ws/\(∀p∈ws,p.1∈s.fp.wf)/\(∀p∈ws,∀t o,p.2= .FD t o->t∈s.fp.lr)/\(∀x∈s.fp.wf,∀t o,U.at x= .FD t o->t∈s.fp.lr)/\Oh U s.fp.news=true/\(s.fp.Td=false->h'=h)/\
   (s.fp.Td=false->s.fp.hl=true->∃f,s.fl=some f)/\
   ∀(Z:BT) (h2 mS:Ai),Z.length=U.length->(∀x∈s.fp.rs++s.fp.wf,Z.at x=U.at x)->Oh Z s.fp.news=true->
    ((h2=h/\mS=h')\/(s.fp.Td=false/\mS=h2/\(s.fp.hl=true->∀f,s.fl=some f->Bp h2 f.n f.p=some f.v)))->QF C fid ops run s Z h2 (Z.E3 ws) mS:=by
 obtain⟨o,ho,⟨hg,j,Jz,rfl,rfl⟩|⟨r,U1,hg,hc,j,hd,Jz,ha⟩⟩:=hs
 .rw[j] at hf⊢;refine⟨o.dst.toList.map λd=>(d,.skip),Yk _ _ _,λp hp=>?_,λp hp t k hl=>?_,λx hx t k hl=>?_,Pz.2 (by simp[Wi]),λ_=>rfl,λ_ i=>absurd i (by simp[Wi]),λZ h2 mS hlen I_ _ JP=>?_⟩;.obtain⟨d,hd,rfl⟩:=A5.1 hp;exact hd
  .obtain⟨d,hd,rfl⟩:=A5.1 hp;cases hl
  .exact VI (o:=k) (A5.2 ⟨x,hx,hl⟩)
  .have i:mS=h2:=by rcases JP with⟨D,B⟩|⟨_,e,_⟩<;>first|exact e|rw[D,B]
   refine⟨o,ho,.inl ⟨?_,?_,Jz,(Yk _ _ _).symm,i⟩⟩;.rw[R7 λt ht=>I_ t (B4 _ ht)];exact hg
   .rw[j];have e:o.dst.toList.map Z.at=o.dst.toList.map U.at:=bY λx hx=>I_ x (BJ _ hx);simp only[Wi,e]
 .rw[j] at hf⊢;have J_:r.Kh U=true:=hf;have RS:Oh U r.news=true:=by unfold E2.Kh at J_;rw[Bg] at J_;exact J_.1
  rw[VH RS] at hd;obtain⟨K_,rfl,hw,A,Wk⟩:=cT hd;have aNA:∃g:List (Nat×ER),U'=(U.E3 K_).E3 g/\(∀p∈g,o.dst=some p.1/\∃b,p.2= .Qk b)/\∀Z:BT,Z.length=U.length->(∀x∈r.wf++o.dst.toList,Z.at x=U.at x)->NZ (if To ops s.idx then o.dst else none) (Z.E3 K_) ((Z.E3 K_).E3 g):=by
   by_cases c:To ops s.idx=true
   .rw[Ae c] at ha;cases TF:o.dst with
    |none=>rw[TF] at ha;exact⟨[],ha,AB,λZ _ _=>by simp[c,NZ,BT.E3]⟩
    |some d=>
     rw[TF] at ha;simp only[NZ] at ha;have u:∀Z:BT,Z.length=U.length->(∀x∈r.wf++[d],Z.at x=U.at x)->(Z.E3 K_).at d=(U.E3 K_).at d:=λZ hl I_=>BT.J5 K_ U Z d hl (I_ d AB);cases hx:(U.E3 K_).at d with
     |val v=>rw[hx] at ha;obtain⟨b,rfl,rfl⟩:=ha;refine⟨[(d,.Qk b)],rfl,AB,λZ hl I_=>?_⟩;simp only[c,BN,NZ];rw[u Z hl I_,hx];exact⟨b,rfl,rfl⟩
     |_=>rw[hx] at ha;refine⟨[],ha,AB,λZ hl I_=>?_⟩;simp only[c,BN,NZ];rw[u Z hl I_,hx];rfl
   .rw[Aa c] at ha;exact⟨[],ha,AB,λZ _ _=>by rw[Aa c];rfl⟩
  obtain⟨g,rfl,H_,aI3⟩:=aNA;have q:r.hl=true->∃n p d,r= .load n p (some d)/\d<U.length:=λi=>by
   unfold E2.Kh at J_;rw[Bg] at J_;cases r with
   |load n p dst=>
    cases dst with
    |none=>exact absurd J_.2 AB
    |some d=>exact⟨n,p,d,rfl,by simpa using J_.2⟩
   |M8 _ _ _ _ _=>exact absurd J_.2 AB
   |_=>simp[E2.hl] at i
  have aI4:r.Td=false->∀n p d,r= .load n p (some d)->d<U.length->∃v,Bp h n p=some v/\s.fl=some {idx:=s.idx,n,p,v}:=by intro he n p d hr xk;obtain⟨v,y,m,_⟩:=(US hd he).2.2 n p d hr;refine⟨v,y,?_⟩;rw[Jz,hr];simp only[LZ];rw[m,BT.FT xk]
  have aNB:∀(Z:BT) h2 mS,((h2=h/\mS=h')\/(r.Td=false/\mS=h2/\(r.hl=true->∀f,s.fl=some f->Bp h2 f.n f.p=some f.v)))->r.OD C run Z h2 (Z.E3 K_) mS:=by
   intro Z h2 mS JP;rcases JP with⟨rfl,rfl⟩|⟨he,rfl,VD⟩
   .exact Wk Z
   .obtain⟨_,H,G⟩:=US (Wk Z) he;cases i:r.hl with
    |false=>exact H i _
    |true=>obtain⟨n,p,d,hr,xk⟩:=q i;obtain⟨v,y,m⟩:=aI4 he n p d hr xk;obtain⟨v',E,_,F⟩:=G n p d hr;rw[y] at E;cases E;exact F _ (VD i _ m)
  refine⟨K_++g,by rw[BT.Kx],λp hp=>?_,λp hp t k hl=>?_,λx hx t k hl=>?_,RS,λhe=>(US hd he).1,λhe i=>?_,λZ h2 mS hlen I_ z JP=>?_⟩
  .rcases Ao.1 hp with hp|hp
   .exact B4 _ (hw p hp)
   .exact BJ _ (by rw[(H_ p hp).1];simp)
  .rcases Ao.1 hp with hp|hp
   .exact BJ _ (A p hp t k hl)
   .obtain⟨_,b,e⟩:=H_ p hp;rw[e] at hl;cases hl
  .exact B4 _ (VI (o:=k) (A5.2 ⟨x,hx,hl⟩))
  .obtain⟨n,p,d,hr,xk⟩:=q i;obtain⟨v,_,m⟩:=aI4 he n p d hr xk;exact⟨_,m⟩
  .have l:∀t∈FZ ops o++Ls o.op.operands.toList++II C U o,Z.at t=U.at t:=λt ht=>I_ t (B4 _ ht);have hwf:∀t∈r.wf++o.dst.toList,Z.at t=U.at t:=λt ht=>I_ t (BJ _ ht);have ht:∀t∈Ls o.op.operands.toList,Z.at t=U.at t:=λt ht=>l t (by simp[ht]);have hb:∀t∈II C U o,Z.at t=U.at t:=λt ht=>l t (by simp[ht]);have aI5:Oh Z r.news=true:=z;refine⟨o,ho,.inr ⟨r,Z.E3 K_,?_,Yg hc ht hb,?_,?_,?_,?_⟩⟩;.rw[R7 λt ht=>l t (by simp[ht])];exact hg
   .rw[j];have D:(r.wf++o.dst.toList).map Z.at=(r.wf++o.dst.toList).map U.at:=bY λx hx=>hwf x hx;have B:r.Kh Z=r.Kh U:=by unfold E2.Kh;rw[RS,aI5,hlen]
    simp only[Wi,D,B,Wu hc ht hb]
   .rw[VH aI5];exact aNB Z h2 mS JP
   .rw[Jz];exact(aN λd hd=>BT.J5 K_ U Z d hlen (hwf d (B4 _ hd))).symm
   .rw[BT.Kx];exact aI3 Z hlen hwf
end
end Go.Am
end
section
namespace Go.Am
open Go
section
variable{C:Gw}{fid:FuncId}{ops:List Oper}{run:IT->Ai->Option KE}{an:List Nat}
def M1{a b:List Nat}(h:(!Vx a b)=true){x:Nat}(hx:x∈a):x∉b:=λhb=>by have:Vx a b=true:=qo.2 ⟨x,hx,hb⟩;simp[this] at h
def swap{p s:St}{U σa U1:BT}{h ha h1:Ai}(hp:QF C fid ops run p U h σa ha)(hs:QF C fid ops run s σa ha U1 h1)(EV:Sr p.fp s.fp=true)
  (VD:s.fp.Td=true->∀f,p.fl=some f->Bp h1 f.n f.p=some f.v):
  ∃σs mP,QF C fid ops run s U h σs mP/\QF C fid ops run p σs mP U1 h1/\(s.fp.Td=true->mP=h1)/\(p.fp.Td=true->h1=ha):=by
 unfold Sr FP.apart at EV;simp only[Bg] at EV;obtain⟨⟨⟨⟨pf,B⟩,⟨⟨a1,a2⟩,a3⟩,a4⟩,he⟩,hl⟩:=EV;obtain⟨c,rfl,l,sE,A,u,y,F,aCR⟩:=hp.spec pf;obtain⟨b,rfl,k,sG,D,m,sD,E,L_⟩:=hs.spec B;have i:∀x∈s.fp.rs++s.fp.wf,(U.E3 c).at x=U.at x:=λx hx=>BT.Hn c U x λq hq e=>M1 a1 (l q hq) (by rw[e];exact hx);have d:Oh U s.fp.news=true:=by
  rw[Pz] at m⊢;intro x t o hx;by_cases hw:x∈p.fp.wf;.exact M1 a3 (A x hw t o hx)
  .refine m x t o ?_;rw[BT.Hn c U x λq hq e=>hw (by rw[<-e];exact l q hq)];exact hx
 have hlen:∀(Z:BT) (ws:List (Nat×ER)),(Z.E3 ws).length=Z.length:=λZ ws=>BT.Ky ws Z;have aCS:(U.E3 b).E3 c=(U.E3 c).E3 b:=(BT.qn λq hq r hr e=>by have:=M1 a1 (l q hq);exact this (BJ _ (by rw[e];exact k r hr))).symm
 have outs:∀x∈p.fp.rs++p.fp.wf,(U.E3 b).at x=U.at x:=λx hx=>BT.Hn b U x λq hq e=>by
  rcases Ao.1 hx with hx|hx
  .exact M1 a2 (k q hq) (by rw[e];exact hx)
  .exact M1 a1 hx (BJ _ (by rw[<-e];exact k q hq))
 have z:Oh (U.E3 b) p.fp.news=true:=by
  rw[Pz] at u⊢;intro x t o hx;rcases BT.Yi b U x with h0|⟨q,hq,_,h2⟩
  .exact u x t o (by rw[<-h0];exact hx)
  .rw[h2] at hx;exact M1 a4 (sG q hq t o hx)
 by_cases Kk:s.fp.Td=true
 .have g:p.fp.Td=false:=by
   cases hq:p.fp.Td with
   |false=>rfl
   |true=>simp[Kk,hq] at he
  have j:ha=h:=y g;subst j;refine⟨U.E3 b,h1,L_ U ha h1 (hlen U c).symm (λx hx=>(i x hx).symm) d (.inl ⟨rfl,rfl⟩),?_,λ_=>rfl,λe=>by rw[g] at e;cases e⟩;rw[<-aCS];exact aCR (U.E3 b) h1 h1 (hlen U b) outs z (.inr ⟨g,rfl,λ_ f hf=>VD Kk f hf⟩)
 .have aI6:s.fp.Td=false:=by simpa using Kk
  have Ű:h1=ha:=sD aI6;subst Ű;refine⟨U.E3 b,h,?_,?_,λe=>absurd e Kk,λ_=>rfl⟩
  .by_cases g:p.fp.Td=true;.refine L_ U h h (hlen U c).symm (λx hx=>(i x hx).symm) d (.inr ⟨aI6,rfl,λG=>?_⟩);simp[g,G] at hl
   .have aNE:p.fp.Td=false:=by simpa using g
    have j:=y aNE;exact L_ U h h (hlen U c).symm (λx hx=>(i x hx).symm) d (.inl ⟨j.symm,j.symm⟩)
  .rw[<-aCS];exact aCR (U.E3 b) h h1 (hlen U b) outs z (.inl ⟨rfl,rfl⟩)
inductive Steps(C:Gw)(fid:FuncId)(ops:List Oper)(run:IT->Ai->Option KE)(an:List Nat):List Lk->List St->BT->Ai->BT->Ai->Prop
 |nil {fl:List Lk} {U:BT} {h:Ai}:Steps C fid ops run an fl [] U h U h
 |cons {fl:List Lk} {s:St} {L:List St} {U U1 σf:BT} {h h1 hf:Ai}:QF C fid ops run s U h U1 h1->(s.fp.Td=true->∀f∈fl,EK an f.idx s.idx=false->Bp h1 f.n f.p=some f.v)->
  Steps C fid ops run an (s.fl.toList++fl) L U1 h1 σf hf->Steps C fid ops run an fl (s::L) U h σf hf
def Steps.sub{fl:List Lk}{L:List St}{U σf:BT}{h hf:Ai}(hs:Steps C fid ops run an fl L U h σf hf):∀{b:List Lk},(∀f∈b,f∈fl)->Steps C fid ops run an b L U h σf hf:=by
 induction hs with
 |nil=>intro b _;exact .nil
 |cons h1 h2 _ ih=>
  intro b Yl;refine .cons h1 (λhe f hf hb=>h2 he f (Yl f hf) hb) (ih λf hf=>?_);rcases Ao.1 hf with hf|hf
  .exact B4 _ hf
  .exact BJ _ (Yl f hf)
def QF.aEb{s:St}{U U':BT}{h h':Ai}(hs:QF C fid ops run s U h U' h'){f:Lk}(hf:s.fl=some f):f.idx=s.idx:=by
 obtain⟨o,_,⟨_,_,Jz,_⟩|⟨r,U1,_,_,_,_,Jz,_⟩⟩:=hs;.rw[Jz] at hf;cases hf
 .rw[Jz] at hf;unfold LZ at hf;split at hf
  .split at hf;.cases hf;rfl
   .cases hf
  .cases hf
def Steps.lt{fl:List Lk}{L:List St}{U σf:BT}{h hf:Ai}(hs:Steps C fid ops run an fl L U h σf hf):∀q∈L,q.idx<ops.length:=by
 induction hs with
 |nil=>simp
 |cons h1 _ _ ih=>
  intro q hq;rcases AF.1 hq with rfl|hq
  .obtain⟨o',h2,_⟩:=h1;exact(Aj.1 h2).1
  .exact ih q hq
def aCT{s:St}{B:List St}{σf:BT}{hf:Ai}:∀{A:List St} {fl:List Lk} {U:BT} {h:Ai},Steps C fid ops run an fl (A++s::B) U h σf hf->(∀p∈A,Sr p.fp s.fp=true/\EK an p.idx s.idx=false)->
  ∃U1 h1,QF C fid ops run s U h U1 h1/\(s.fp.Td=true->∀f∈fl,EK an f.idx s.idx=false->Bp h1 f.n f.p=some f.v)/\Steps C fid ops run an (s.fl.toList++fl) (A++B) U1 h1 σf hf
 |[],fl,U,h,hs,_=>by
  cases hs with
  |cons h1 h2 h3=>exact⟨_,_,h1,h2,h3⟩
 |p::A,fl,U,h,hs,i=>by
  cases hs with
  |cons h1 h2 h3=>
   rename_i σa ha;obtain⟨U1,u,e,d,m⟩:=aCT h3 λq hq=>i q (by simp[hq]);obtain⟨EV,aNF⟩:=i p AB;obtain⟨σs,mP,w1,l,k,j⟩:=swap h1 e EV λhe f hf=>d he f (by rw[hf];simp) (by rw[h1.aEb hf];exact aNF);refine⟨σs,mP,w1,λhe f hf hb=>?_,.cons l (λhe f hf hb=>?_) (m.sub λf hf=>?_)⟩;.rw[k he];exact d he f (BJ _ hf) hb
   .rw[j he];rcases Ao.1 hf with hf|hf
    .exfalso;unfold Sr at EV;simp only[Bg] at EV;obtain⟨⟨⟨⟨_,y⟩,_⟩,t⟩,hl⟩:=EV;cases tS:s.fl with
     |none=>rw[tS] at hf;simp at hf
     |some g=>
      have b:s.fp.hl=true:=by
       obtain⟨o,_,⟨_,_,Jz,_⟩|⟨r,x,_,_,c,_,Jz,_⟩⟩:=e;.rw[Jz] at tS;cases tS
       .rw[Jz] at tS;unfold LZ at tS;split at tS;.rw[c];rfl
        .cases tS
      simp[he,b] at hl
    .exact h2 he f hf hb
   .rcases Ao.1 hf with hf|hf
    .exact BJ _ (B4 _ hf)
    .rcases Ao.1 hf with hf|hf
     .exact B4 _ hf
     .exact BJ _ (BJ _ hf)
def Sa{D8:List Nat}{x:Nat}:∀(ds:List Nat) (m:Nat),(ds.foldl (λm e=>m|||bit e|||D8.getD e 0) m).testBit x=true↔m.testBit x=true\/∃e∈ds,x=e\/(D8.getD e 0).testBit x=true
 |[],m=>AB
 |d::ds,m=>by
  rw[xb,Sa ds];simp only[Nat.testBit_or,bit,Nat.testBit_two_pow,Kb,CF,AF,exists_eq_or_imp];constructor
  .rintro((h|h)|h)
   .rcases h with h|h
    .exact .inl h
    .exact .inr (.inl (.inl h.symm))
   .exact .inr (.inl (.inr h))
   .exact .inr (.inr h)
  .rintro(h|(h|h)|h);.exact .inl (.inl (.inl h))
   .exact .inl (.inl (.inr h.symm))
   .exact .inl (.inr h)
   .exact .inr h
def MS:∀(l:List Oper) (D8:List Nat) (i:Nat),i<D8.length->(L8 D8 l).getD i 0=D8.getD i 0
 |[],D8,i,h=>rfl
 |o::l,D8,i,h=>by rw[L8,MS l _ i EE];simp[List.getD,Al h]
def Sb:∀(l:List Oper) (D8:List Nat) (k:Nat) (o:Oper),l[k]?=some o->(∀e∈Oper.Wh o,e<D8.length+k)->∀x,
  ((L8 D8 l).getD (D8.length+k) 0).testBit x=true↔∃e∈Oper.Wh o,x=e\/((L8 D8 l).getD e 0).testBit x=true
 |[],D8,k,o,h,_,x=>by simp at h
 |o'::l,D8,0,o,h,hd,x=>by
  simp at h;subst h;rw[L8,MS l _ (D8.length+0) AB];have b:(D8++[(Oper.Wh o').foldl (λm e=>m|||bit e|||D8.getD e 0) 0]).getD (D8.length+0) 0=(Oper.Wh o').foldl (λm e=>m|||bit e|||D8.getD e 0) 0:=by simp[List.getD]
  rw[b,Sa];simp only[Nat.zero_testBit,B5,false_or];constructor;.rintro⟨e,he,h⟩;refine⟨e,he,h.imp id λh=>?_⟩;have hlt:e<D8.length:=hd e he;rw[MS l _ e EE];simpa[List.getD,Al hlt] using h
  .rintro⟨e,he,h⟩;refine⟨e,he,h.imp id λh=>?_⟩;have hlt:e<D8.length:=hd e he;rw[MS l _ e EE] at h;simpa[List.getD,Al hlt] using h
 |o'::l,D8,k+1,o,h,hd,x=>by simp at h;rw[L8];have:=Sb l (D8++[(Oper.Wh o').foldl (λm e=>m|||bit e|||D8.getD e 0) 0]) k o h (λe he=>by have:=hd e he;simp;omega) x;simp only[An,AJ,AZ,BG] at this;rw[(Ac:D8.length+(k+1)=D8.length+1+k)];exact this
def cU{i:Nat}{o:Oper}(ho:ops[i]?=some o)(hd:∀e∈Oper.Wh o,e<i)(x:Nat):EK (XO ops) x i=true↔∃e∈Oper.Wh o,x=e\/EK (XO ops) x e=true:=by have:=Sb ops [] i o ho (by simpa using hd) x;simpa[EK,XO] using this
def QG(h:fQ ops=true){i:Nat}{o:Oper}(ho:ops[i]?=some o):∀e∈Oper.Wh o,e<i:=by
 unfold fQ at h;rw[Eg] at h;have:=h (o,i) (by refine CJ (i:=i) ?_;simp[List.getElem?_zipIdx,ho])
 intro e he;simpa using Eg.1 this e he
def cV:∀{l:List (Nat×FP)},XQ.go an l=true->l.Pairwise λx y=>x.1≠y.1/\EK an y.1 x.1=false/\(EK an x.1 y.1=true\/Sr x.2 y.2=true)
 |[],_=> .nil
 |(i,f)::l,h=>by simp only[XQ.go,Bg,Eg] at h;refine .cons (λy hy=>?_) (cV h.2);have:=h.1 y hy;simp only[bne_iff_ne,aS7,Kb] at this;exact⟨this.1.1,this.1.2,this.2⟩
def M_{d:Option Nat}{U:BT}{K:BT->IT}{h:Ai}{R:KE}(hr:IT.step (Cf C) run (yO d U K) h=some R):∃U',NZ d U U'/\IT.step (Cf C) run (K U') h=some R:=by
 unfold yO at hr;cases d with
 |none=>exact⟨U,rfl,hr⟩
 |some d=>
  simp only at hr;cases hx:U.at d with
  |val v=>
   rw[hx] at hr;simp only[IT.step] at hr;split at hr;.exact⟨U.set d (.Qk true),by simp only[NZ,hx];exact⟨true,rfl,rfl⟩,hr⟩
   .exact⟨U.set d (.Qk false),by simp only[NZ,hx];exact⟨false,rfl,rfl⟩,hr⟩
   .cases hr
  |_=>rw[hx] at hr;exact⟨U,by simp only[NZ,hx],hr⟩
def PC{i:Nat}{t:IT}{h:Ai}{R:KE}:∀{fl:List Lk},IT.step (Cf C) run (Tn an i fl t) h=some R->(∀f∈fl,EK an f.idx i=false->Bp h f.n f.p=some f.v)/\IT.step (Cf C) run t h=some R
 |[],hr=>⟨AB,hr⟩
 |f::fl,hr=>by
  unfold Tn at hr;by_cases hb:EK an f.idx i=true
  .rw[Ae hb] at hr;obtain⟨d,c⟩:=PC hr;refine⟨λg hg b=>?_,c⟩;rcases AF.1 hg with rfl|hg
   .rw[hb] at b;cases b
   .exact d g hg b
  .rw[Aa hb] at hr;simp only[IT.step] at hr;split at hr
   .rename_i v hv;split at hr
    .rename_i Ld;obtain⟨d,c⟩:=PC hr;refine⟨λg hg b=>?_,c⟩;rcases AF.1 hg with rfl|hg
     .rw[Ab.beq_eq Ld];exact hv
     .exact d g hg b
    .cases hr
   .cases hr
def SD{K:BT->IT}{R:KE}:∀{rest:List Nat} {b:List (Nat×FP)} {fl:List Lk} {U:BT} {h:Ai},IT.step (Cf C) run (Ss C fid ops an rest b fl U K) h=some R->
  ∃L σf hf,Steps C fid ops run an fl L U h σf hf/\XQ ops.length an (b.reverse++L.map λs=>(s.idx,s.fp))=true/\IT.step (Cf C) run (K σf) hf=some R
 |[],b,fl,U,h,hr=>by
  unfold Ss at hr;split at hr;.rename_i EV;exact⟨[],U,h,.nil,by simpa using EV,hr⟩
  .cases hr
 |i::rest,b,fl,U,h,hr=>by
  unfold Ss at hr;cases ho:ops[i]? with
  |none=>rw[ho] at hr;cases hr
  |some o=>
   rw[ho] at hr;simp only at hr;split at hr
   .rename_i hg;split at hr;.cases hr
    .rename_i r hc;obtain⟨U1,h1,hd,hr⟩:=cE hr;have Ib:(r.Td=true->∀f∈fl,EK an f.idx i=false->Bp h1 f.n f.p=some f.v)/\IT.step (Cf C) run (yO (if To ops i then o.dst else none) U1 λj=>Ss C fid ops an rest ((i,Wi C ops U o (some r))::b) (NU i r U1 fl) j K) h1=some R:=by
      split at hr;.obtain⟨d,c⟩:=PC hr;exact⟨λ_=>d,c⟩
      .rename_i he;exact⟨λe=>absurd e he,hr⟩
     obtain⟨VD,hr⟩:=Ib;obtain⟨U',ha,hr⟩:=M_ hr;rw[Yj] at hr;obtain⟨L,σf,hf,d,c,g⟩:=SD hr;exact⟨{idx:=i,fp:=Wi C ops U o (some r),fl:=LZ i r U1}::L,σf,hf,.cons ⟨o,ho,.inr ⟨r,U1,hg,hc,rfl,hd,rfl,ha⟩⟩ VD d,by simpa using c,g⟩
   .rename_i hg;obtain⟨L,σf,hf,d,c,g⟩:=SD hr;exact⟨{idx:=i,fp:=Wi C ops U o none,fl:=none}::L,σf,hf,.cons ⟨o,ho,.inl ⟨hg,rfl,rfl,rfl,rfl⟩⟩ (λe=>by simp[Wi] at e) d,by simpa using c,g⟩
   .cases hr
end
section
variable{C:Gw}{γ0 γ:Gh}{w0 w:World}{O:Nat->Nat}{U:BT}{h:Ai}{a:Act}{fid:FuncId}
def MT(hr:Df C γ0 w0 γ O U h a w){ops:Array Oper}{o:Oper}{b:Bool}(hg:JE ops.toList U o= .OA b):Region.wanted o (yielded ops a.tmps)=b:=by
 unfold JE at hg;unfold Region.wanted;cases ho:o.guard with
 |none=>rw[ho] at hg;cases hg;rfl
 |some g=>
  obtain⟨j,want⟩:=g;rw[ho] at hg;simp only[aIJ] at hg⊢;unfold yielded;cases hd:(ops[j]?).bind (·.dst) with
  |none=>rw[hd] at hg;cases hg
  |some s=>
   rw[hd] at hg;simp only[Cx] at hg⊢;have h0:=hr.fr.IZ s;cases hx:U.at s with
   |Qk c=>
    rw[hx] at hg h0;cases hg;have hl:s<a.tmps.size:=by rw[<-hr.fr.size];exact BT.Qx (by rw[hx];simp)
    have hv:a.tmps.getD s undef= .bool c:=h0;have:a.tmps[s]?=some (.bool c):=by rw[CY hl];rw[HI,CY hl] at hv;exact B6 some hv
    rw[this];rfl
   |skip=>
    rw[hx] at hg h0;cases hg;have hv:a.tmps.getD s undef=undef:=h0;have hne:∀c,a.tmps[s]?≠some (.bool c):=λc hc=>by rw[HI,hc] at hv;cases hv
    cases ht:a.tmps[s]? with
    |none=>rfl
    |some v=>
     cases v with
     |bool c=>exact absurd ht (hne c)
     |_=>rfl
   |val v=>rw[hx] at hg;cases hg
   |_=>rw[hx] at hg;cases hg
def Df.aI8(hr:Df C γ0 w0 γ O U h a w){d:Option Nat}{U':BT}(ha:NZ d U U'):Df C γ0 w0 γ O U' h a w:=by
 unfold NZ at ha;cases d with
 |none=>simp only at ha;rw[ha];exact hr
 |some d=>
  simp only at ha;cases hx:U.at d with
  |val v=>rw[hx] at ha;obtain⟨b,rfl,rfl⟩:=ha;have h0:=hr.fr.IZ d;rw[hx] at h0;exact hr.nE h0
  |_=>rw[hx] at ha;rw[ha];exact hr
structure aNG(ops:Array Oper)(listed:Array Bool)(L:List St):Prop where
 size:listed.size=ops.size
 un:∀i,i<ops.size->(listed.getD i false=false↔i∈L.map (·.idx))
 closed:∀j,listed.getD j false=true->∀e,EK (XO ops.toList) e j=true->listed.getD e false=true
abbrev zE(an:List Nat)(L:List St):Prop:=L.Pairwise λx y=>x.idx≠y.idx/\EK an y.idx x.idx=false/\(EK an x.idx y.idx=true\/Sr x.fp y.fp=true)
def qq{run:IT->Ai->Option KE}(D:Ft C run){ops:Array Oper}{Q:Exit->Act->World->Prop}(Gt:fQ ops.toList=true){σf:BT}{hf:Ai}(hQ:∀γ' k a' w',Df C γ0 w0 γ' k σf hf a' w'->Q .normal a' w'):
  ∀(fuel:Nat) (L:List St) (listed:Array Bool) (γ:Gh) (O:Nat->Nat) (U:BT) (h:Ai) (a:Act) (w:World),L.length=fuel->Steps C fid ops.toList run (XO ops.toList) [] L U h σf hf->zE (XO ops.toList) L->aNG ops listed L->Df C γ0 w0 γ O U h a w->
   wpAny C.P .any ops Q fuel listed a w:=by
 intro fuel;induction fuel with
 |zero=>
  intro L listed γ O U h a w l hs hp ho hr;have u:L=[]:=C5 l;subst u;cases hs;refine⟨List.eq_nil_iff_forall_not_mem.2 λi hi=>?_,hQ _ _ _ _ hr⟩;obtain⟨h0,o,ű,_⟩:=mem_ready.1 hi;have hlt:i<ops.size:=(AU.1 ű).1;have qj:listed.getD i false=false:=by
   have hl:i<listed.size:=by rw[ho.size];exact hlt
   simpa[Array.getD,hl] using h0
  have:=(ho.un i hlt).1 qj;simp at this
 |succ fuel ih=>
  intro L listed γ O U h a w l hs hp ho hr;have gB:∀i,i<ops.size->listed.getD i true=listed.getD i false:=λi hi=>by
   have hl:i<listed.size:=by rw[ho.size];exact hi
   simp[Array.getD,hl]
  constructor
  .intro VD;exfalso;cases L with
   |nil=>simp at l
   |cons s0 L=>
    obtain⟨o,ű,_⟩:∃o,ops.toList[s0.idx]?=some o/\True:=by
     cases hs with
     |cons h1 _ _=>obtain⟨o,h2,_⟩:=h1;exact⟨o,h2,trivial⟩
    have tT:ops[s0.idx]?=some o:=by simpa using ű
    have hlt:s0.idx<ops.size:=(AU.1 tT).1;have:s0.idx∈Region.ready .any ops listed:=by
     refine mem_ready.2 ⟨?_,o,tT,λe he hb=>?_⟩;.rw[gB _ hlt];exact(ho.un _ hlt).2 AB
     .have f:e.on∈Oper.Wh o:=Cs.2 ⟨e,by simpa using he,by rw[Ae hb]⟩;have z:=QG Gt ű e.on f;cases hl:listed.getD e.on false with
      |true=>rfl
      |false=>
       have hm:=(ho.un e.on Ac).1 hl;simp only[AV,AF] at hm;rcases hm with hm|hm
       .omega
       .obtain⟨y,hy,m⟩:=A5.1 hm;have:=((aRz.1 hp).1 y hy).2.1;rw[m,(cU ű (QG Gt ű) e.on).2 ⟨e.on,f,.inl rfl⟩] at this;cases this
    rw[VD] at this;cases this
  .intro i hi;obtain⟨h0,o,ű,aI9⟩:=mem_ready.1 hi;have hlt:i<ops.size:=(AU.1 ű).1;rw[gB i hlt] at h0;obtain⟨s,n,rfl⟩:=A5.1 ((ho.un i hlt).1 h0);obtain⟨A,B,rfl⟩:=List.append_of_mem n;have tT:ops.toList[s.idx]?=some o:=by simpa using ű
   have aJa:∀e,EK (XO ops.toList) e s.idx=true->listed.getD e false=true:=λe he=>by
    obtain⟨d,hd,JP⟩:=(cU tT (QG Gt tT) e).1 he;obtain⟨E,f,hb⟩:=Cs.1 hd;split at hb
    .rename_i Tz;cases hb;have xk:=aI9 E (by simpa using f) Tz;rcases JP with rfl|JP
     .exact xk
     .exact ho.closed _ xk e JP
    .cases hb
   have b:=(aMc.1 hp).2.2;have aEc:∀p∈A++s::B,p.idx<ops.size:=λp t=>by simpa using hs.lt p t
   obtain⟨U1,h1,x,_,v⟩:=aCT hs λp g=>by
    have hb:EK (XO ops.toList) p.idx s.idx=false:=by
     cases Tz:EK (XO ops.toList) p.idx s.idx with
     |false=>rfl
     |true=>have h1:=aJa _ Tz;have h2:=(ho.un p.idx (aEc p (by simp[g]))).2 (A5.2 ⟨p,by simp[g],rfl⟩);rw[h1] at h2;cases h2
    refine⟨?_,hb⟩;have:=(b p g s AB).2.2;rw[hb] at this;exact this.resolve_left AB
   have aCU:∀γ' k a' w',Df C γ0 w0 γ' k U1 h1 a' w'->wpAny C.P .any ops Q fuel (listed.setIfInBounds s.idx true) a' w':=λγ' k a' w' Ib=>by
    refine ih (A++B) _ γ' k U1 h1 a' w' (by simp at l⊢;omega) (v.sub AB) ?_ ⟨by simp[ho.size],λj hj=>?_,λj hj e he=>?_⟩ Ib;.exact hp.sublist ((BR A).append (Vs s B))
    .by_cases c:j=s.idx
     .subst c;have aEd:s.idx∉(A++B).map (·.idx):=λhm=>by
       obtain⟨q,hq,he⟩:=A5.1 hm;rcases Ao.1 hq with hq|hq
       .exact(b q hq s AB).1 he
       .exact(aRz.1 (aMc.1 hp).2.1).1 q hq |>.1 he.symm
      have ht:(listed.setIfInBounds s.idx true).getD s.idx false=true:=by
       have hl:s.idx<listed.size:=by rw[ho.size];exact hlt
       simp[Array.getD,hl]
      rw[ht];exact⟨λe=>absurd e AB,λe=>absurd e aEd⟩
     .rw[getD_set_ne false (λe=>c e.symm),ho.un j hj];simp only[B3,AV,Ao,AF];constructor
      .rintro(e|e|e);.exact .inl e
       .exact absurd e c
       .exact .inr e
      .rintro(e|e);.exact .inl e
       .exact .inr (.inr e)
    .by_cases c:j=s.idx;.subst c;exact getD_set_true (aJa e he)
     .rw[getD_set_ne false (λe=>c e.symm)] at hj;exact getD_set_true (ho.closed j hj e he)
   unfold wpOp;rw[ű];obtain⟨o',Ů,⟨hg,_,_,rfl,rfl⟩|⟨r,F,hg,hc,_,hd,_,ha⟩⟩:=x;.rw[tT] at Ů;cases Ů;simp only[MT hr hg,B5,DK];exact aCU _ _ _ _ (hr.put λ_ _=>rfl)
   .rw[tT] at Ů;cases Ů;simp only[MT hr hg,BN];exact .inl (G_ D hc hd hr λγ' k a' w' Ib=>aCU γ' k a' w' (Ib.aI8 ha))
end
end Go.Am
end
end
