/- Lemmas -/
import Derived.Test.YtgmhlaiafgkmeaaGreatDoorN5
import Derived.MapKept
set_option linter.all false
section
namespace Go.Am
open Go
section
variable{C:CB}{γ0 γ γ':Gh}{w0 w w':World}{Z:Nat->Nat}{U:Av}{h:Ab}{a:Act}{fid:FuncId}{ops:List Oper}
def LR{s t:Ag}(h:s≠t):((⟨⟨s⟩⟩:ByteArray)==⟨⟨t⟩⟩)=false:=by
 refine Bool.eq_false_iff.2 λhc=>h ?_;have:=(MapKept.bytes_beq _ _).1 hc;injection this with this
 injection this with this
def IJ(s:Ag):((⟨⟨s⟩⟩:ByteArray)==⟨⟨s⟩⟩)=true:=(MapKept.bytes_beq _ _).2 rfl
def Oy{s:Ag}:∀{es:List (Aa×Aa)} {l:List MapEntry} {i:Nat} {r:Option Aa},E7 γ es l->QG s es=some r->
  match r with
  |none=>Instr.findNow .string (.string ⟨⟨s⟩⟩) l i=some none
  |some v=>∃(j:Nat) (e:MapEntry),Instr.findNow .string (.string ⟨⟨s⟩⟩) l i=some (some (i+j,e.val))/\Au γ v e.val
 |[],l,i,r,hM,hf=>by rw[show l=[] from hM];cases hf;rfl
 |(k,v)::es,l,i,r,hM,hf=>by
  obtain⟨e,l',rfl,h1,h2,h3⟩:=hM;unfold QG at hf;split at hf;.rename_i EI;cases EI
  .rename_i t v' KW EI;cases EI;have hk:e.key= .string ⟨⟨t⟩⟩:=h1;split at hf;.rename_i Ex;subst Ex;cases hf;exact⟨0,e,by simp[Instr.findNow,hk,Instr.sameNow,IJ],h2⟩
   .rename_i Ex;have ih:=Oy (i:=i+1) h3 hf;have hne:=LR Ex;cases r with
    |none=>simpa[Instr.findNow,hk,Instr.sameNow,hne] using ih
    |some v2=>obtain⟨j,e2,q1,q2⟩:=ih;exact⟨j+1,e2,by simp only[Instr.findNow,hk,Instr.sameNow,hne];rw[q1];congr 3;omega,q2⟩
  .cases hf
def QZ{s:Ag}{v:Aa}{u:Value}(hv:Au γ v u):∀{es KW:List (Aa×Aa)} {l:List MapEntry} {i:Nat},E7 γ es l->RU s v es=some KW->
  (Instr.findNow .string (.string ⟨⟨s⟩⟩) l i=some none/\∀born,E7 γ KW (l++[{key:= .string ⟨⟨s⟩⟩,val:=u,born}]))\/
  ∃j e,Instr.findNow .string (.string ⟨⟨s⟩⟩) l i=some (some (i+j,e.val))/\l[j]?=some e/\e.key= .string ⟨⟨s⟩⟩/\E7 γ KW (l.modify j λe=>{e with key:= .string ⟨⟨s⟩⟩,val:=u})
 |[],KW,l,i,hM,hp=>by rw[show l=[] from hM];cases hp;exact .inl ⟨rfl,λborn=>⟨_,[],rfl,rfl,hv,rfl⟩⟩
 |(k,v0)::es,KW,l,i,hM,hp=>by
  obtain⟨e,l',rfl,h1,h2,h3⟩:=hM;unfold RU at hp;split at hp;.rename_i EI;cases EI
  .rename_i t v' wJ EI;cases EI;have hk:e.key= .string ⟨⟨t⟩⟩:=h1;split at hp;.rename_i Ex;subst Ex;cases hp;exact .inr ⟨0,e,by simp[Instr.findNow,hk,Instr.sameNow,IJ],rfl,hk,_,l',rfl,rfl,hv,h3⟩
   .rename_i Ex;have hne:=LR Ex;cases hq:RU s v es with
    |none=>rw[hq] at hp;cases hp
    |some jf=>
     rw[hq] at hp;cases hp;rcases QZ hv (i:=i+1) h3 hq with⟨q1,q2⟩|⟨j,e2,q1,q2,q3,q4⟩
     .exact .inl ⟨by simpa[Instr.findNow,hk,Instr.sameNow,hne] using q1,λborn=>⟨e,_,rfl,h1,h2,q2 born⟩⟩
     .exact .inr ⟨j+1,e2,by simp only[Instr.findNow,hk,Instr.sameNow,hne];rw[q1];congr 3;omega,q2,q3,e,_,by simp,h1,h2,q4⟩
  .cases hp
def J8{es:Array MapEntry}{clock:Nat}{k v:Value}(h:clock=es.size/\∀(i:Nat) (e:MapEntry),es[i]?=some e->e.born=i):
  clock+1=(es.push {key:=k,val:=v,born:=clock}).size/\∀(i:Nat) (e:MapEntry),(es.push {key:=k,val:=v,born:=clock})[i]?=some e->e.born=i:=by
 obtain⟨rfl,h⟩:=h;refine⟨by simp,λi e he=>?_⟩;rw[MD] at he;split at he;.rename_i hi;cases he;exact hi.symm
 .exact h i e he
def KC{es:Array MapEntry}{clock j:Nat}{f:MapEntry->MapEntry}(h:clock=es.size/\∀(i:Nat) (e:MapEntry),es[i]?=some e->e.born=i)(hf:∀e,(f e).born=e.born):
  clock=(es.modify j f).size/\∀(i:Nat) (e:MapEntry),(es.modify j f)[i]?=some e->e.born=i:=by
 refine⟨by simpa using h.1,λi e he=>?_⟩;rw[Ga] at he;split at he
 .cases hx:es[i]? with
  |none=>rw[hx] at he;cases he
  |some x=>rw[hx] at he;cases he;rw[hf];exact h.2 i x hx
 .exact h.2 i e he
def Gx(hi:Dp γ h w){g id:Nat}{es KW:List (Aa×Aa)}(Ju:h[id]?=some (.map es))(hg:γ.mu id=some g){o:Obj}{ents':Array MapEntry}{clock':Nat}(hw:w.heap[g]?=some o)(hr:Tt γ KW ents' clock'):
  Dp γ (h.set id (.map KW)) {w with heap:=w.heap.setIfInBounds g (.map ents' clock')}/\FC γ w γ {w with heap:=w.heap.setIfInBounds g (.map ents' clock')}:=by
 obtain⟨g',p,JS⟩:=hi.FV id _ Ju (by simp);rw[hg] at p;cases p;obtain⟨Gt,hother⟩:=MapKept.heap_set (o':= .map ents' clock') hw;have uniq:∀Cw x,h[Cw]?=some x->x≠ .Ec->γ.mu Cw=some g->Cw=id:=λCw x hx aP hm=>by obtain⟨b',p,q⟩:=hi.FV Cw x hx aP;rw[hm] at p;cases p;rw[JS] at q;cases q;rfl
 constructor
 .refine⟨λb o v hb=>?_,λCw y Gi hy=>?_,λCw cs hc b hb=>?_,λCw wJ hc b hb=>?_,λCw b hb=>by simpa using hi.mu Cw b hb,λb x hx=>?_,λb n hb=>?_⟩;rotate_left 5
  .obtain⟨⟨Pv,e2,Tv,p,q⟩,r⟩:=hi.sz b n hb;have hne:b≠g:=λhe=>by subst he;obtain⟨ents0,clock0,p0,_⟩:=hi.map id es Ju b hg;rw[p] at p0;cases p0
   exact⟨⟨Pv,e2,Tv,by rw[hother b hne];exact p,q⟩,r⟩
  .obtain⟨p,q,r⟩:=hi.DI b o v hb;have:b≠g:=λhe=>by subst he;rw[JS] at r;rcases r with r|⟨_,_,_,r,_⟩<;>cases r
   exact⟨by rw[AV (w:=w) (hother b this)];exact p,q,r⟩
  .by_cases he:Cw=id;.subst he;exact⟨g,hg,JS⟩
   .rw[AB (λx=>he x.symm)] at Gi;exact hi.FV Cw y Gi hy
  .by_cases he:Cw=id;.subst he;rw[AD (hi.mu _ _ hg)] at hc;cases hc
   .rw[AB (λx=>he x.symm)] at hc;have J3:b≠g:=λhx=>by subst hx;exact he (uniq Cw _ hc (by simp) hb)
    obtain⟨Pv,e2,Tv,p,pf,q,r⟩:=hi.cells Cw cs hc b hb;exact⟨Pv,e2,Tv,by rw[hother b J3];exact p,pf,q,r⟩
  .by_cases he:Cw=id;.subst he;rw[hg] at hb;cases hb;rw[AD (hi.mu _ _ hg)] at hc;cases hc;exact⟨ents',clock',Gt,hr⟩
   .rw[AB (λx=>he x.symm)] at hc;have J3:b≠g:=λhx=>by subst hx;exact he (uniq Cw _ hc (by simp) hb)
    obtain⟨C3,clock,p,q⟩:=hi.map Cw wJ hc b hb;exact⟨C3,clock,by rw[hother b J3];exact p,q⟩
  .have:=hi.A5 b x hx;simpa using this
 .refine⟨.refl _,by simp,rfl,rfl,rfl,λb hb hn=>⟨?_,rfl⟩⟩;exact hother b (λhe=>by subst he;exact hn id JS)
def IK(hr:Bk C γ0 w0 γ Z U h a w){x y z:Operand}{u1 u2 u3:Aa}(ha:Ak C U [x,y,z]=some [u1,u2,u3]):Au γ u1 (a.eval x)/\Au γ u2 (a.eval y)/\Au γ u3 (a.eval z):=by obtain⟨_,_,_,e,h1,h2,h3⟩:=(BF hr ha).QU;simp only[Be,FN,Cs,FT] at e;obtain⟨rfl,rfl,rfl⟩:=e;exact⟨h1,h2,h3⟩
def Oz{o:Oper}{t kt e:TypeId}{m k x:Operand}{vm vk vx:Aa}{h':Ab}(ho:o.op= .insert t m k x\/o.op= .mapUpdate t m k x)(hd:o.dst=none)(ht:C.P.underlying t=some (.map kt e))(hk:C.P.underlying kt=some .string)(ha:Ak C U [m,k,x]=some [vm,vk,vx])
  (hm:MG h vm vk vx=some h') (hr:Bk C γ0 w0 γ Z U h a w):Cx C γ0 w0 o a w U h':=by
 obtain⟨h1,h2,h3⟩:=IK hr ha;have FY:∀w',(Instr.mapUpdate t (a.eval m) (a.eval k) (a.eval x)).run C.P w= .ok () w'->(execOp a.eval o).run C.P w= .ok .skip w':=λw' Ad=>by rcases ho with ho|ho<;>simp[execOp,ho,Ad]
 unfold MG at hm;split at hm
 .rename_i id s;obtain⟨b,hb,Sk⟩:=h1;have bC:a.eval k= .string ⟨⟨s⟩⟩:=h2;split at hm
  .rename_i es Ju;cases hp:RU s vx es with
   |none=>rw[hp] at hm;cases hm
   |some KW=>
    rw[hp] at hm;cases hm;obtain⟨C3,clock,hw,hM,hB⟩:=hr.BI.map id es Ju b hb;have Sl:(Instr.checkKey false 10000 kt (.string ⟨⟨s⟩⟩)).run C.P w= .ok () w:=MapKept.run_checkKey (k:= .string ⟨⟨s⟩⟩) hk (by simp[MapKept.IsKey]) false 9999;rcases QZ h3 (i:=0) hM hp with⟨q1,q2⟩|⟨j,en,q1,q2,q3,q4⟩
    .have Ad:(Instr.mapUpdate t (a.eval m) (a.eval k) (a.eval x)).run C.P w= .ok () {w with heap:=w.heap.setIfInBounds b (.map (C3.push {key:= .string ⟨⟨s⟩⟩,val:=a.eval x,born:=clock}) (clock+1))}:=by rw[Sk,bC];simp[Instr.mapUpdate,run_underlying ht,MapKept.run_getObj_map hw,Sl,MapKept.run_findKey hk q1,MapKept.run_setObj_map _ hw,Result.andThen]
     obtain⟨hi,EA⟩:=Gx (KW:=KW) (ents':=C3.push {key:= .string ⟨⟨s⟩⟩,val:=a.eval x,born:=clock}) (clock':=clock+1) hr.BI Ju hb hw ⟨by simpa using q2 clock,J8 hB⟩;exact Cx.skip (FY _ Ad) (by rw[hd];exact hr.DX hi EA)
    .have hj:C3[j]?=some en:=by simpa using q2
     rw[AL] at q1;have Ad:(Instr.mapUpdate t (a.eval m) (a.eval k) (a.eval x)).run C.P w= .ok () {w with heap:=w.heap.setIfInBounds b (.map (C3.modify j λe=>{e with key:= .string ⟨⟨s⟩⟩,val:=a.eval x}) clock)}:=by rw[Sk,bC];simp[Instr.mapUpdate,run_underlying ht,MapKept.run_getObj_map hw,Sl,MapKept.run_findKey hk q1,hj,q3,MapKept.run_keyThatStays (d:= .string) (k:= .string ⟨⟨s⟩⟩) (by simp[MapKept.IsKey]),MapKept.run_setObj_map _ hw,Result.andThen]
     obtain⟨hi,EA⟩:=Gx (KW:=KW) (ents':=C3.modify j λe=>{e with key:= .string ⟨⟨s⟩⟩,val:=a.eval x}) (clock':=clock) hr.BI Ju hb hw ⟨by simpa using q4,KC hB λ_=>rfl⟩;exact Cx.skip (FY _ Ad) (by rw[hd];exact hr.DX hi EA)
  .cases hm
 .cases hm
def TP{o:Oper}{t:TypeId}(ho:o.op= .makeMap t none)(hr:Bk C γ0 w0 γ Z U h a w):Cx C γ0 w0 o a w (U.put o.dst (.val (.map (some h.length)))) (h++[.map []]):=by
 obtain⟨hi,ha⟩:=GV hr.BI (.map #[] 0) (.map []) none (.inr ⟨rfl,rfl,rfl⟩);have Ad:(Instr.makeMap t none).run C.P w= .ok (.map (some w.heap.size)) (w.alloc (.map #[] 0)):=by simp[Instr.makeMap]
 exact Cx.value (by simp only[execOp,ho];exact Bw Ad) ((hr.DX hi ha).put λ_ _=>⟨w.heap.size,by simp[Gh.AJ],rfl⟩)
def E0(key elem:TypeId)(index:Value)(commaOk:Bool)(es:Array MapEntry):Sem Value:=do
 Instr.checkKey es.isEmpty 10000 key index
 let(v,ok)<-match<-Instr.findKey key index es.toList with
  |some (_,v)=>pure (v,true)
  |none=>pure (<-zeroValue elem,false)
 pure (if commaOk then .tuple #[v,.bool ok] else v)
def TQ{o:Oper}{t kt e:TypeId}{m k:Operand}{vm vk z r:Aa}{ok:Bool}(ho:o.op= .lookup t m k ok)(ht:C.P.underlying t=some (.map kt e))(hk:C.P.underlying kt=some .string)(hz:C1 C.P e=some z)(ha:Ak C U [m,k]=some [vm,vk])(hm:MH h z ok vm vk=some r)(hr:Bk C γ0 w0 γ Z U h a w):
  Cx C γ0 w0 o a w (U.put o.dst (.val r)) h:=by
 obtain⟨_,_,e0,h1,h2⟩:=B9 hr ha;cases e0;obtain⟨zv,S3,bD⟩:=Dx hz;have Hh:∀(es:Array MapEntry) (q:Option Aa),(Instr.lookup t (a.eval m) (a.eval k) ok).run C.P w=(E0 kt e (a.eval k) ok es).run C.P w->
   ∀s,a.eval k= .string ⟨⟨s⟩⟩->(match q with|none=>Instr.findNow .string (.string ⟨⟨s⟩⟩) es.toList 0=some none|some v=>∃(j:Nat) (e:MapEntry),Instr.findNow .string (.string ⟨⟨s⟩⟩) es.toList 0=some (some (0+j,e.val))/\Au γ v e.val)->
   (match q with|some v=>if ok then Aa.tuple [v,.bool true] else v|none=>if ok then .tuple [z,.bool false] else z)=r->Cx C γ0 w0 o a w (U.put o.dst (.val r)) h:=by
  intro es q Ju s bE hq KB;have Sl:(Instr.checkKey es.isEmpty 10000 kt (.string ⟨⟨s⟩⟩)).run C.P w= .ok () w:=MapKept.run_checkKey (k:= .string ⟨⟨s⟩⟩) hk (by simp[MapKept.IsKey]) es.isEmpty 9999;have Ad:∃v,(Instr.lookup t (a.eval m) (a.eval k) ok).run C.P w= .ok v w/\Au γ r v:=by
   cases q with
   |none=>
    refine⟨if ok then .tuple #[zv,.bool false] else zv,?_,?_⟩;.rw[Ju,bE];unfold E0;simp only[Sem.run_bind,Result.andThen_ok,Sl,MapKept.run_findKey hk hq,bD,Sem.run_bind,Sem.run_pure]
    .rw[<-KB];have gV:=Cm (γ:=γ) S3;cases ok with
     |true=>exact⟨_,rfl,_,_,rfl,gV,_,_,rfl,rfl,rfl⟩
     |false=>exact gV
   |some v=>
    obtain⟨j,en,q1,q2⟩:=hq;refine⟨if ok then .tuple #[en.val,.bool true] else en.val,?_,?_⟩;.rw[Ju,bE];unfold E0;simp only[Sem.run_bind,Result.andThen_ok,Sl,MapKept.run_findKey hk q1,Sem.run_bind,Sem.run_pure]
    .rw[<-KB];cases ok with
     |true=>exact⟨_,rfl,_,_,rfl,q2,_,_,rfl,rfl,rfl⟩
     |false=>exact q2
  obtain⟨v,Ad,TG⟩:=Ad;exact Cx.value (by simp only[execOp,ho];exact Bw Ad) (hr.put λ_ _=>TG)
 unfold MH at hm;cases hf:Po h vm vk with
 |none=>rw[hf] at hm;cases hm
 |some q=>
  rw[hf] at hm;simp only[A3,AG] at hm;unfold Po at hf;split at hf;.rename_i s;cases hf;exact Hh #[] none (by rw[show a.eval m=_ from h1];simp only[Instr.lookup,E0,Sem.run_bind,run_underlying ht,Result.andThen_ok,Sem.run_pure];rfl) s h2 rfl hm
  .rename_i id s;obtain⟨b,hb,Sk⟩:=h1;split at hf;.rename_i es Ju;obtain⟨C3,clock,hw,hM,_⟩:=hr.BI.map id es Ju b hb;exact Hh C3 q (by rw[Sk];simp only[Instr.lookup,E0,Sem.run_bind,run_underlying ht,MapKept.run_getObj_map hw,Result.andThen_ok,Sem.run_pure];rfl) s h2 (Oy (i:=0) hM hf) hm
   .cases hf
  .cases hf
def LS{size:Nat}{v:Aa}(h:JU size v=true):v= .slnil\/v= .DU size\/v= .sl size []:=by
 unfold JU at h;split at h;.exact .inl rfl
 .exact .inr (.inl (by simpa using h))
 .exact .inr (.inr (by simpa using h))
 .cases h
def Sm{o:Oper}{c:Call}{t t' e:TypeId}{n b:Nat}{s x:Operand}{v u r:Aa}{h':Ab}(ho:o.op= .call c)(hc:c.callee= .builtin .append)(h0:c.argTypes[0]?=some t)(h1:c.argTypes[1]?=some t')(B0:c.args.toList=[s,x])(ht:C.P.underlying t=some (.slice e))
  (Ek:(∃e',C.P.underlying t'=some (.slice e'))\/C.P.underlying t'=some .string) (Fc:Az C.P e=some (n+1)) (TK:Eu C.P e=some (b+1)) (Ct:E5 C U s=true) (N7:FA C.P e=true) (hv:Ak C U [s,x]=some [v,u])
  (hp:JV h (n+1) (b+1) v u=some (h',r)) (hr:Bk C γ0 w0 γ Z U h a w):Cx C γ0 w0 o a w ((U.BA (Bp U s)).put o.dst (.val r)) h':=by
 obtain⟨i,z,hi,hz,NA⟩:=Fa N7;have Ii:=El Fc hi;have aY:=Fq TK hi;obtain⟨_,_,e0,hvs,Pj⟩:=B9 hr hv;cases e0;have VE:B2 C U s=some v:=by
  unfold Ak at hv;split at hv;.rename_i p ps q1 q2;cases hv;exact q1
  .cases hv
 have DY:JU (n+1) v=true/\((∃Ac,Es (n+1) (b+1) .slnil u=some (.sl (n+1) Ac)/\Ac≠[]/\u= .sl (n+1) Ac/\Ac.length*(b+1)<=AO/\h'=h++[.cells Ac.flatten]/\r= .EG h.length 0 Ac.length (n+1))\/((u= .slnil\/(∃z',u= .DU z')\/∃z',u= .sl z' [])/\h'=h/\r=v)):=by
  unfold JV at hp;split at hp
  .rename_i z' Ac;split at hp
   .rename_i LO;refine⟨LO,?_⟩;split at hp;.cases hp;exact .inr ⟨.inr (.inr ⟨_,rfl⟩),rfl,rfl⟩
    .rename_i hne;split at hp
     .rename_i Du;cases hp;obtain⟨rfl,hb⟩:=Du;refine .inl ⟨Ac,?_,hne,rfl,hb,rfl,rfl⟩;cases Ac with
      |nil=>exact absurd rfl hne
      |cons q Ac=>simp only[Es,BN,Bc];rw[if_pos hb]
     .cases hp
   .cases hp
  .split at hp;.rename_i LO;cases hp;exact⟨LO,.inr ⟨.inl rfl,rfl,rfl⟩⟩
   .cases hp
  .split at hp;.rename_i LO;simp only[Ao] at LO;cases hp;exact⟨LO.1,.inr ⟨.inr (.inl ⟨_,rfl⟩),rfl,rfl⟩⟩
   .cases hp
  .cases hp
 obtain⟨LO,DY⟩:=DY;obtain⟨γ1,Cd,EH,Ih,hT⟩:=HB hr Ct VE (U.BA (Bp U s)).length none;have EI:c.args.map a.eval=#[a.eval s,a.eval x]:=by apply Dh;simp[B0]
 have FY:∀v' w',(Builtin.append_ #[t,t'] o.type #[a.eval s,a.eval x]).run C.P w= .ok v' w'->(execOp a.eval o).run C.P w= .ok (.value v') w':=λv' w' Ad=>by
  have:execOp a.eval o=(do pure (Next.value (<-Builtin.append_ #[t,t'] o.type #[a.eval s,a.eval x]))):=by rw[<-EI,<-G3 (ty:=o.type) h0 h1];simp only[execOp,ho,resolve,hc];rfl
  rw[this];exact Bw Ad
 have ZJ:(a.eval s= .slice none 0 0/\v= .slnil)\/(∃g cap us e1,a.eval s= .slice (some ⟨g,0,none⟩) 0 cap/\v= .sl (n+1) []/\γ1.A5 g=some (.tail (U.BA (Bp U s)).length none 0)/\w0.heap.size<=g/\w.heap[g]?=some (.cells us e1 (0,0))/\us.size=cap*(n+1)/\cap<=maxLen)\/∃g,a.eval s= .slice (some ⟨g,0,none⟩) 0 0/\v= .DU (n+1):=by
  rcases hT with(hT|⟨zz,hT⟩)|⟨g,k,cap,us,e1,zz,rr,PQ,Ef,JS,hB,hg,ML,VI,hm,r7⟩
  .rw[hT] at Ih;exact .inl ⟨Ih,hT⟩
  .rcases LS LO with Q0|Q0|Q0
   .rw[Q0] at hT;cases hT
   .rw[Q0] at Ih;obtain⟨g,Ih⟩:=Ih;exact .inr (.inr ⟨g,Ih,Q0⟩)
   .rw[Q0] at hT;cases hT
  .rcases LS LO with Q0|Q0|Q0
   .rw[Q0] at PQ;cases PQ
   .rw[Q0] at PQ;cases PQ
   .rw[Q0] at PQ;cases PQ;have hk:k=0:=by rw[Q0,Ef] at Ih;obtain⟨qS,cap0,Ow,_⟩:=Ih;simp only[Value.slice.injEq] at Ow;exact Ow.2.1
    subst hk;exact .inr (.inl ⟨g,cap,us,e1,Ef,Q0,by simpa using JS,hB,hg,ML,hm⟩)
 rcases DY with⟨Ac,Fi,hne,wK,Mo,rfl,rfl⟩|⟨wK,rfl,rfl⟩
 .obtain⟨rows',news,HD,EJ,ZK,QY⟩:=QX (w:=w) Ek hr.BI Pj Fi;have OA:rows'=Ac:=by
   cases rows' with
   |nil=>simp[BN] at HD
   |cons q rows'=>
    simp only[BN] at HD;split at HD;.cases HD;rfl
    .cases HD
  subst OA;have TL:=Ai.mono Cd _ _ ZK;have Ez:Src C.P i.size t' (a.eval x) rows'.length news w:=by rw[Ii];exact EJ
  have J7:news.length=rows'.length*(n+1):=EJ.newsLen;have FX:rows'.flatten.length=news.length:=by rw[ZK.length]
  have hpos:0<rows'.length:=rG.2 hne;have J3:rows'.length<=AO:=AX (DT _ (Bd b)) Mo;have Dm:∀(base:Option Addr) (cap:Nat),a.eval s= .slice base 0 cap->(Builtin.firstCells i.size 0 (.slice base 0 cap)).run C.P w.drew= .ok #[] w.drew->cap<rows'.length->
    Cx C γ0 w0 o a w ((U.BA (Bp U s)).put o.dst (.val (.EG h.length 0 rows'.length (n+1)))) (h++[.cells rows'.flatten]):=by
   intro base cap hs hfirst hlt;have Fz:=run_append_grow_src (P:=C.P) w t t' o.type e i z ht hi hz base 0 cap [] hfirst (a.eval x) rows'.length news Ez (by omega) (by simp only[AO] at J3;omega) (by rw[aY,AL];exact growslice_fits hlt Mo);rw[<-hs,AL] at Fz;have Jk:=grownCap_ge w rows'.length cap e;have LU:(([]++news).toArray++Builtin.zeroCells z.cells (grownCap w rows'.length cap e-rows'.length)).toList.take rows'.flatten.length=news:=by simp only[C0,Bi];rw[FX];exact Cq
   have TR:(([]++news).toArray++Builtin.zeroCells z.cells (grownCap w rows'.length cap e-rows'.length)).size=grownCap w rows'.length cap e*(n+1):=by simp only[Eo,AE,size_zeroCells,NA,Ii,Bi,J7,<-AI];congr 1;omega
   obtain⟨γ2,Ou,ND,GK,K2⟩:=EH.drew.newObj (([]++news).toArray++Builtin.zeroCells z.cells (grownCap w rows'.length cap e-rows'.length)) e (0,0) rows'.flatten (.inl rfl) (by rw[LU];exact TL) (by rw[LU];exact EJ.one);exact Cx.value (FY _ _ Fz) (GK.put λ_ _=>⟨w.heap.size,_,ND,rfl,Jk,⟨Bd n,grownCap_le_maxLen w _ _ _ (by simp only[AO] at J3;simp only[maxLen];omega)⟩,by rw[AL,<-TR];exact K2⟩)
  rcases ZJ with⟨Ef,rfl⟩|⟨g,cap,us,e1,Ef,rfl,JS,hB,hg,ML,fN⟩|⟨g,Ef,rfl⟩
  rotate_left 2;.exact Dm (some ⟨g,0,none⟩) 0 Ef (by simpa using run_firstCells_some (P:=C.P) w.drew i.size 0 ⟨g,0,none⟩ 0 0 [] (by simp) (by simp)) hpos
  .exact Dm none 0 Ef (run_firstCells_none _ _ _ _ _) hpos
  .by_cases hroom:rows'.length<=cap
   .have hfit:news.length<=us.size:=by rw[J7,ML];exact CL _ hroom
    have Ad:=run_append_room_src (P:=C.P) w t t' o.type e i ht hi g 0 0 cap (a.eval x) rows'.length news Ez (by omega) (λj hj=>by rw[cell_of_row w _ _ us e1 (0,0) hg,Ii,AY (by omega)];rfl) (λj hj=>frozen_of_row w _ _ us e1 hg)
    rw[FQ,AL,AL,BZ news 0 us w hg (by omega),<-Ef] at Ad;have LU:((us.toList.take 0++news++us.toList.drop (0+news.length)).toArray).toList.take rows'.flatten.length=news:=by simp only[HY,Bi];rw[FX];exact Cq
    obtain⟨γ2,Ou,ND,GK,K2⟩:=EH.gU JS hB hg (us.toList.take 0++news++us.toList.drop (0+news.length)).toArray rows'.flatten (by rw[LU];exact TL) (by rw[LU];exact EJ.one);exact Cx.value (FY _ _ Ad) (GK.put λ_ _=>⟨g,cap,ND,rfl,hroom,⟨Bd n,fN⟩,by rw[K2,AL,<-ML];simp;omega⟩)
   .exact Dm (some ⟨g,0,none⟩) cap Ef (by simpa using run_firstCells_some (P:=C.P) w.drew i.size 0 ⟨g,0,none⟩ 0 cap [] (by simp) (by simp)) (by omega)
 .have EJ:Src C.P i.size t' (a.eval x) 0 [] w:=by
   rcases wK with rfl|⟨z',rfl⟩|⟨z',rfl⟩
   .rw[show a.eval x=_ from Pj];exact⟨Ek,λ_=>rfl,run_firstCells_none w _ 0 0 0,run_firstCells_none w.drew _ 0 0 0,by simp,by simp⟩
   .obtain⟨g0,Ow⟩:=Pj;rw[Ow];exact⟨Ek,λ_=>rfl,by simpa using run_firstCells_some (P:=C.P) w i.size 0 ⟨g0,0,none⟩ 0 0 [] (by simp) (by simp),by simpa using run_firstCells_some (P:=C.P) w.drew i.size 0 ⟨g0,0,none⟩ 0 0 [] (by simp) (by simp),by simp,by simp⟩
   .obtain⟨qS,cap0,Ow,_⟩:=Pj;rw[Ow];exact⟨Ek,λ_=>rfl,by simpa using run_firstCells_some (P:=C.P) w i.size 0 qS 0 cap0 [] (by simp) (by simp),by simpa using run_firstCells_some (P:=C.P) w.drew i.size 0 qS 0 cap0 [] (by simp) (by simp),by simp,by simp⟩
  rcases ZJ with⟨Ef,rfl⟩|⟨g,cap,us,e1,Ef,rfl,JS,hB,hg,ML,fN⟩|⟨g,Ef,rfl⟩
  rotate_left 2;.have Ad:=run_append_room_src (P:=C.P) w t t' o.type e i ht hi g 0 0 0 (a.eval x) 0 [] EJ (by omega) (by simp) (by simp);rw[<-Ef] at Ad;simp only[World.setCells] at Ad;exact Cx.value (FY _ _ Ad) (EH.put λ_ _=>Ih)
  .have Ad:(Builtin.append_ #[t,t'] o.type #[a.eval s,a.eval x]).run C.P w= .ok (.slice none 0 0) w:=by rw[Ef];have hl:=EJ.len;have Lc:=EJ.cells;rcases Ek with⟨e',hk⟩|hk<;>simp[Builtin.append_,run_underlying ht,run_underlying hk,sizeOf,typeInfo,hi,hl,Lc]
   exact Cx.value (FY _ _ Ad) (EH.put λ_ _=>rfl)
  .have Ad:=run_append_room_src (P:=C.P) w t t' o.type e i ht hi g 0 0 cap (a.eval x) 0 [] EJ (by omega) (by simp) (by simp);rw[<-Ef] at Ad;simp only[World.setCells] at Ad;exact Cx.value (FY _ _ Ad) (EH.put λ_ _=>Ih)
def Bk.kill(hr:Bk C γ0 w0 γ Z U h a w)(id:Nat):Bk C γ0 w0 γ Z U (h.set id .Ec) a w:=by
 have key:∀{Cw:Nat} {x:Ig},(h.set id .Ec)[Cw]?=some x->x≠ .Ec->h[Cw]?=some x:=λ{Cw x} hx hd=>by
  by_cases he:id=Cw
  .subst he;rw[List.getElem?_set] at hx;simp only[Bc] at hx;split at hx;.cases hx;exact absurd rfl hd
   .cases hx
  .rwa [AB he] at hx
 exact⟨⟨hr.BI.DI,λCw y Gi hy=>hr.BI.FV Cw y (key Gi hy) hy,λCw cs hc b hb=>hr.BI.cells Cw cs (key hc (by simp)) b hb,λCw es hc b hb=>hr.BI.map Cw es (key hc (by simp)) b hb,λCw b hb=>by simpa using hr.BI.mu Cw b hb,hr.BI.A5,hr.BI.sz⟩,hr.fr,hr.BE,hr.defers,hr.C8⟩
def Bk.TS(hr:Bk C γ0 w0 γ Z U h a w){id g:Nat}{cs:List Aa}(hcs:h[id]?=some (.cells cs))(hg:γ.mu id=some g){us:Array Value}{e:TypeId}{fr:Nat×Nat}(hw:w.heap[g]?=some (.cells us e fr))(K3:γ.sz g=some us.size)(By:Array Value)(Dz:List Aa)(ML:By.size=us.size)(QT:J2 fr By.size)
  (hv:Ai γ Dz (By.toList.take Dz.length)) (h1:∀u∈By.toList.take Dz.length,u.oneCell'=true):∃γ',γ.le γ'/\γ'.mu h.length=some g/\Bk C γ0 w0 γ' Z U (h.set id .Ec++[.cells Dz]) a (w.setRow g By)/\γ'.sz g=some us.size:=by
 obtain⟨g',p,JS⟩:=hr.BI.FV id _ hcs (by simp);rw[hg] at p;cases p;have zR:id<h.length:=hr.BI.mu _ _ hg;have gO:γ.mu h.length=none:=by
  cases hc:γ.mu h.length with
  |none=>rfl
  |some y=>exact absurd (hr.BI.mu _ y hc) (DF _)
 have uniq:∀Cw x,h[Cw]?=some x->x≠ .Ec->γ.mu Cw=some g->Cw=id:=λCw x hx aP hm=>by obtain⟨b',p,q⟩:=hr.BI.FV Cw x hx aP;rw[hm] at p;cases p;rw[JS] at q;cases q;rfl
 have Cd:γ.le (γ.AJ g h.length (some us.size)):=⟨λ_ _ _ hv=>hv,λCw b hm=>by
  have:Cw≠h.length:=λhe=>by rw[he,gO] at hm;cases hm
  simp only[Gh.AJ,if_neg this];exact hm,λb n hm=>by
  by_cases he:b=g;.subst he;rw[K3] at hm;cases hm;simp[Gh.AJ]
  .simp only[Gh.AJ,if_neg he];exact hm⟩
 have old:∀{Cw:Nat} {x:Ig},(h.set id .Ec++[Ig.cells Dz])[Cw]?=some x->x≠ .Ec->Cw≠h.length->h[Cw]?=some x/\Cw≠id:=λ{Cw x} hx hd hne=>by
  have hlt:Cw<(h.set id .Ec).length:=by rw[Af] at hx;obtain⟨hl,_⟩:=hx;simp at hl⊢;omega
  rw[As hlt] at hx;by_cases he:id=Cw;.subst he;rw[AD (by simpa using hlt)] at hx;cases hx;exact absurd rfl hd
  .rw[AB he] at hx;exact⟨hx,λh=>he h.symm⟩
 have sF:Dp (γ.AJ g h.length (some us.size)) (h.set id .Ec++[.cells Dz]) (w.setRow g By):=by
  refine⟨λb o v hb=>?_,λCw y Gi hy=>?_,λCw fO hc b hb=>?_,λCw es hc b hb=>?_,λCw b hb=>?_,λb y hy=>?_,λb n hb=>?_⟩
  .obtain⟨p,q,r⟩:=hr.BI.DI b o v hb;have GU:b≠g:=λhe=>by subst he;rw[JS] at r;rcases r with r|⟨_,_,_,r,_⟩<;>cases r
   exact⟨by rw[AV (setRow_other w g b By GU)];exact p,q,by simp only[Gh.AJ,if_neg GU];exact r⟩
  .by_cases he:Cw=h.length;.exact⟨g,by simp[Gh.AJ,he],by simp[Gh.AJ,he]⟩
   .obtain⟨Sn,hne⟩:=old Gi hy he;obtain⟨b,p,q⟩:=hr.BI.FV Cw y Sn hy;have GU:b≠g:=λhx=>by subst hx;exact hne (uniq Cw y Sn hy p)
    exact⟨b,by simp only[Gh.AJ,if_neg he];exact p,by simp only[Gh.AJ,if_neg GU];exact q⟩
  .by_cases he:Cw=h.length;.subst he;simp[Gh.AJ] at hb;subst hb;rw[BL (by simp)] at hc;simp at hc;subst hc;exact⟨By,e,fr,setRow_heap w g us By e fr hw,QT,Ai.mono Cd _ _ hv,h1⟩
   .simp only[Gh.AJ,if_neg he] at hb;obtain⟨LM,hne⟩:=old hc (by simp) he;have GU:b≠g:=λhx=>by subst hx;exact hne (uniq Cw _ LM (by simp) hb)
    obtain⟨Pv,e2,Tv,p,pf,q,r⟩:=hr.BI.cells Cw fO LM b hb;exact⟨Pv,e2,Tv,by rw[setRow_other w g b By GU];exact p,pf,Ai.mono Cd _ _ q,r⟩
  .by_cases he:Cw=h.length;.subst he;rw[BL (by simp)] at hc;simp at hc
   .simp only[Gh.AJ,if_neg he] at hb;obtain⟨LM,hne⟩:=old hc (by simp) he;have GU:b≠g:=λhx=>by subst hx;exact hne (uniq Cw _ LM (by simp) hb)
    obtain⟨C3,clock,p,q⟩:=hr.BI.map Cw es LM b hb;exact⟨C3,clock,by rw[setRow_other w g b By GU];exact p,q.mono Cd⟩
  .by_cases he:Cw=h.length;.simp[he]
   .simp only[Gh.AJ,if_neg he] at hb;have:=hr.BI.mu Cw b hb;simp;omega
  .by_cases GU:b=g;.subst GU;have:=hr.BI.A5 _ _ JS;simpa[World.setRow] using this
   .simp only[Gh.AJ,if_neg GU] at hy;have:=hr.BI.A5 b y hy;simpa[World.setRow] using this
  .by_cases he:b=g;.subst he;simp only[Gh.AJ,Bc] at hb;cases hb;exact⟨⟨By,e,fr,setRow_heap w b us By e fr hw,ML⟩,.inr ⟨h.length,by simp[Gh.AJ]⟩⟩
   .simp only[Gh.AJ,if_neg he] at hb⊢;obtain⟨p,r⟩:=hr.BI.sz b n hb;exact⟨by rw[setRow_other w g b By he];exact p,r⟩
 refine⟨_,Cd,by simp[Gh.AJ],hr.DX sF ⟨Cd,by simp[World.setRow],rfl,rfl,rfl,λb hb hn=>?_⟩,by simp[Gh.AJ]⟩;have GU:b≠g:=λhe=>by subst he;exact hn id JS
 exact⟨setRow_other w g b By GU,by simp only[Gh.AJ,if_neg GU]⟩
def TT{o:Oper}{c:Call}{t t' e:TypeId}{n b:Nat}{s x:Operand}{v u r:Aa}{h':Ab}(ho:o.op= .call c)(hc:c.callee= .builtin .append)(h0:c.argTypes[0]?=some t)(h1:c.argTypes[1]?=some t')(B0:c.args.toList=[s,x])(ht:C.P.underlying t=some (.slice e))
  (Ek:(∃e',C.P.underlying t'=some (.slice e'))\/C.P.underlying t'=some .string) (Fc:Az C.P e=some (n+1)) (TK:Eu C.P e=some (b+1)) (N7:FA C.P e=true) (hv:Ak C U [s,x]=some [v,u])
  (hp:Fz h (n+1) (b+1) v u=some (h',r)) (hr:Bk C γ0 w0 γ Z U h a w):Cx C γ0 w0 o a w (U.put o.dst (.val r)) h':=by
 obtain⟨i,z,hi,hz,NA⟩:=Fa N7;have Ii:=El Fc hi;have aY:=Fq TK hi;obtain⟨_,_,e0,hvs,Pj⟩:=B9 hr hv;cases e0;have EI:c.args.map a.eval=#[a.eval s,a.eval x]:=by apply Dh;simp[B0]
 have FY:∀v' w',(Builtin.append_ #[t,t'] o.type #[a.eval s,a.eval x]).run C.P w= .ok v' w'->(execOp a.eval o).run C.P w= .ok (.value v') w':=λv' w' Ad=>by
  have:execOp a.eval o=(do pure (Next.value (<-Builtin.append_ #[t,t'] o.type #[a.eval s,a.eval x]))):=by rw[<-EI,<-G3 (ty:=o.type) h0 h1];simp only[execOp,ho,resolve,hc];rfl
  rw[this];exact Bw Ad
 unfold Fz at hp;cases hq:Hp h (n+1) u with
 |none=>rw[hq] at hp;cases hp
 |some Ac=>
  rw[hq] at hp;obtain⟨news,EJ,LO,QY⟩:=LN (w:=w) Ek hr.BI Pj hq;have Ez:Src C.P i.size t' (a.eval x) Ac.length news w:=by rw[Ii];exact EJ
  have J7:news.length=Ac.length*(n+1):=EJ.newsLen;have FX:Ac.flatten.length=news.length:=by rw[LO.length]
  cases Ac with
  |nil=>
   have Vv:news=[]:=Bq (by simpa using J7);subst Vv;cases v with
   |slnil=>
    cases hp;have Ef:a.eval s= .slice none 0 0:=hvs;have Ad:(Builtin.append_ #[t,t'] o.type #[a.eval s,a.eval x]).run C.P w= .ok (.slice none 0 0) w:=by rw[Ef];have hl:=Ez.len;have Lc:=Ez.cells;simp only[A4] at hl Lc;rcases Ek with⟨e',hk⟩|hk<;>simp[Builtin.append_,run_underlying ht,run_underlying hk,sizeOf,typeInfo,hi,hl,Lc]
    exact Cx.value (FY _ _ Ad) (hr.put λ_ _=>rfl)
   |DU z'=>
    simp only at hp;split at hp;.cases hp;obtain⟨g,Ef⟩:=(show Au γ _ _ from hvs);have Ad:=run_append_room_src (P:=C.P) w t t' o.type e i ht hi g 0 0 0 (a.eval x) 0 [] Ez (by omega) (by simp) (by simp);rw[<-Ef] at Ad;simp only[World.setCells,CE] at Ad;exact Cx.value (FY _ _ Ad) (hr.put λ_ _=>⟨g,Ef⟩)
    .cases hp
   |EG id off k z'=>
    simp only at hp;split at hp;.cases hp;obtain⟨g,cap,hg,Ef,VI,S2,K3⟩:=(show Au γ _ _ from hvs);have Ad:=run_append_room_src (P:=C.P) w t t' o.type e i ht hi g off k cap (a.eval x) 0 [] Ez (by omega) (by simp) (by simp);rw[<-Ef] at Ad;simp only[World.setCells,CE] at Ad;exact Cx.value (FY _ _ Ad) (hr.put λ_ _=>⟨g,cap,hg,rfl,VI,S2,K3⟩)
    .cases hp
   |_=>cases hp
  |cons q0 rows0=>
   generalize hR:q0::rows0=Ac at*;have hpos:0<Ac.length:=by rw[<-hR];simp
   have newrow:∀(h2:Ab) (base:Option Addr) (k cap:Nat) (fP:List Aa) (olds:List Value),Bk C γ0 w0 γ Z U h2 a w->a.eval s= .slice base k cap->Ai γ fP olds->olds.length=k*(n+1)->(∀q∈olds,q.oneCell'=true)->
     (Builtin.firstCells i.size k (.slice base k cap)).run C.P w.drew= .ok olds.toArray w.drew->cap<k+Ac.length->(k+Ac.length)*(b+1)<=AO->
     Cx C γ0 w0 o a w (U.put o.dst (.val (.EG h2.length 0 (k+Ac.length) (n+1)))) (h2++[.cells (fP++Ac.flatten)]):=by
    intro h2 base k cap fP olds GK hs gW aZ aT hfirst hlt Mo;have J3:k+Ac.length<=AO:=AX (DT _ (Bd b)) Mo;have Fz:=run_append_grow_src (P:=C.P) w t t' o.type e i z ht hi hz base k cap olds hfirst (a.eval x) Ac.length news Ez hlt (by simp only[AO] at J3;omega) (by rw[aY];exact growslice_fits hlt Mo);rw[<-hs] at Fz;have Jk:=grownCap_ge w (k+Ac.length) cap e;have Sf:(olds++news).length=(k+Ac.length)*(n+1):=by rw[An,aZ,J7,AI]
    have VB:(fP++Ac.flatten).length=(olds++news).length:=by rw[An,An,gW.length,FX]
    have TR:((olds++news).toArray++Builtin.zeroCells z.cells (grownCap w (k+Ac.length) cap e-(k+Ac.length))).size=grownCap w (k+Ac.length) cap e*(n+1):=by simp only[Eo,AE,size_zeroCells,NA,Ii,Sf,<-AI];congr 1;omega
    have LU:((olds++news).toArray++Builtin.zeroCells z.cells (grownCap w (k+Ac.length) cap e-(k+Ac.length))).toList.take (fP++Ac.flatten).length=olds++news:=by simp only[C0];rw[VB];exact Cq
    obtain⟨γ2,Ou,ND,gT,K2⟩:=GK.drew.newObj ((olds++news).toArray++Builtin.zeroCells z.cells (grownCap w (k+Ac.length) cap e-(k+Ac.length))) e (0,0) (fP++Ac.flatten) (.inl rfl) (by rw[LU];exact gW.append LO) (by rw[LU];intro q hq;exact(Aj.1 hq).elim (aT q) (EJ.one q))
    exact Cx.value (FY _ _ Fz) (gT.put λ_ _=>⟨w.heap.size,_,ND,rfl,Jk,⟨Bd n,grownCap_le_maxLen w _ _ _ (by simp only[AO] at J3;simp only[maxLen];omega)⟩,by rw[AL,<-TR];exact K2⟩)
   cases v with
   |slnil=>
    have Ef:a.eval s= .slice none 0 0:=hvs;rw[<-hR] at hp;simp only at hp;rw[hR] at hp;split at hp;.rename_i Mo;cases hp;have:=newrow h none 0 0 [] [] hr Ef rfl (by simp) (by simp) (run_firstCells_none _ _ _ _ _) (by omega) (by simpa using Mo);simpa using this
    .cases hp
   |DU z'=>
    obtain⟨g,Ef⟩:=(show Au γ _ _ from hvs);rw[<-hR] at hp;simp only at hp;rw[hR] at hp;split at hp;.rename_i Mo;cases hp;have:=newrow h (some ⟨g,0,none⟩) 0 0 [] [] hr Ef rfl (by simp) (by simp) (by simpa using run_firstCells_some (P:=C.P) w.drew i.size 0 ⟨g,0,none⟩ 0 0 [] (by simp) (by simp)) (by omega) (by simpa using Mo.2);simpa using this
    .cases hp
   |EG id off k z'=>
    rw[<-hR] at hp;simp only at hp;rw[hR] at hp;split at hp
    .rename_i cs hcs;split at hp
     .rename_i r7;subst r7;obtain⟨g,cap,hg,Ef,VI,S2,K3⟩:=(show Au γ _ _ from hvs);obtain⟨us,e1,fr,p1,pf,p2,p3⟩:=hr.BI.cells id cs hcs g hg;obtain⟨⟨S0,zS,zT,q1,q2⟩,_⟩:=hr.BI.sz g _ K3;rw[p1] at q1;cases q1;have ZE:cs.length<=us.size:=by have:=p2.length;simp at this;omega
      have Hz:∀j,(⟨g,off,none⟩:Addr).add j=⟨g,off+j,none⟩:=λj=>by unfold Addr.add;split<;>simp_all
      have froz:∀o,o<us.size->w.frozen? ⟨g,o,none⟩=false:=λo ho=>by
       simp only[World.frozen?,p1];rcases pf with rfl|QT
       .simp
       .simp;omega
      have room:k+Ac.length<=cap->(Builtin.append_ #[t,t'] o.type #[a.eval s,a.eval x]).run C.P w= .ok (.slice (some ⟨g,off,none⟩) (k+Ac.length) cap) (w.setRow g (us.toList.take (off+k*(n+1))++news++us.toList.drop (off+k*(n+1)+news.length)).toArray)/\off+k*(n+1)+news.length<=us.size:=by
       intro hroom;have hfit:off+k*(n+1)+news.length<=us.size:=by rw[J7,q2,Ng,<-AI];exact Nat.add_le_add_left (CL _ hroom) _
       have Ad:=run_append_room_src (P:=C.P) w t t' o.type e i ht hi g off k cap (a.eval x) Ac.length news Ez hroom (λj hj=>by rw[cell_of_row w _ _ us e1 fr p1,Ii,AY (by omega)];rfl) (λj hj=>by rw[Ii];exact froz _ (by omega))
       rw[Ii,BZ news _ us w p1 hfit,<-Ef] at Ad;exact⟨Ad,hfit⟩
      have Vw:(k+Ac.length)*(n+1)=k*(n+1)+Ac.length*(n+1):=AI _ _ _;split at hp
      .rename_i fQ;cases hp;have hroom:k+Ac.length<=cap:=by
        have h3:(k+Ac.length)*(n+1)<=cap*(n+1):=by omega
        exact Nat.le_of_mul_le_mul_right h3 (Bd n)
       obtain⟨Ad,hfit⟩:=room hroom;have e2:off+(k+Ac.length)*(n+1)=off+k*(n+1)+news.length:=by rw[J7,Vw];omega
       have hcl:(cs.take (off+k*(n+1))++Ac.flatten++cs.drop (off+(k+Ac.length)*(n+1))).length=cs.length:=by rw[e2,An,An,Bt,BH,FX];omega
       have LU:((us.toList.take (off+k*(n+1))++news++us.toList.drop (off+k*(n+1)+news.length)).toArray).toList.take (cs.take (off+k*(n+1))++Ac.flatten++cs.drop (off+(k+Ac.length)*(n+1))).length=
         (us.toList.take cs.length).take (off+k*(n+1))++news++(us.toList.take cs.length).drop (off+k*(n+1)+news.length):=by
        rw[hcl];simp only[EU];exact F4 (by simpa using ZE) (by omega) rfl
       obtain⟨Pl,N8⟩:=Gs hr.BI hcs hg p1 (us.toList.take (off+k*(n+1))++news++us.toList.drop (off+k*(n+1)+news.length)).toArray (cs.take (off+k*(n+1))++Ac.flatten++cs.drop (off+(k+Ac.length)*(n+1)))
        (by simp only[AE,An,Bt,BH,AM];omega)
        (by
         rcases pf with rfl|pf
         .exact .inl rfl
         .refine .inr (AX (FM ?_) pf);simp only[AE,An,Bt,BH,AM];omega)
        (by rw[LU,e2];exact G1 p2 LO)
        (by
         rw[LU];intro q hq;rcases Aj.1 hq with hq|hq
         .rcases Aj.1 hq with hq|hq
          .exact p3 q (AQ hq)
          .exact EJ.one q hq
         .exact p3 q (Bu hq))
       exact Cx.value (FY _ _ Ad) ((hr.DX Pl N8).put λ_ _=>⟨g,cap,hg,rfl,hroom,S2,K3⟩)
      .rename_i zU;split at hp
       .rename_i Du;obtain⟨rfl,qN,Mo⟩:=Du;cases hp;simp only[AL] at*;by_cases hroom:k+Ac.length<=cap
        .obtain⟨Ad,hfit⟩:=room hroom;have VB:(cs.take (k*(n+1))++Ac.flatten).length=k*(n+1)+news.length:=by rw[An,Bt,FX];omega
         have LU:((us.toList.take (k*(n+1))++news++us.toList.drop (k*(n+1)+news.length)).toArray).toList.take (cs.take (k*(n+1))++Ac.flatten).length=(us.toList.take cs.length).take (k*(n+1))++news:=by
          rw[VB];simp only[EU];have:(us.toList.take (k*(n+1))++news).length=k*(n+1)+news.length:=by rw[An,Bt,AM];omega
          rw[<-this,Cq,FO,Dr qN]
         obtain⟨γ2,Ou,ND,GK,K2⟩:=hr.TS hcs hg p1 (by rw[K3,q2]) (us.toList.take (k*(n+1))++news++us.toList.drop (k*(n+1)+news.length)).toArray (cs.take (k*(n+1))++Ac.flatten)
          (by simp only[AE,An,Bt,BH,AM];omega)
          (by
           rcases pf with rfl|pf
           .exact .inl rfl
           .refine .inr (AX (FM ?_) pf);simp only[AE,An,Bt,BH,AM];omega)
          (by rw[LU];exact(p2.take _).append LO)
          (by
           rw[LU];intro q hq;rcases Aj.1 hq with hq|hq
           .exact p3 q (AQ hq)
           .exact EJ.one q hq)
         exact Cx.value (FY _ _ Ad) (GK.put λ_ _=>⟨g,cap,ND,rfl,hroom,S2,by rw[K2,q2];simp⟩)
        .have aZ:((us.toList.take cs.length).take (k*(n+1))).length=k*(n+1):=by simp;omega
         have:=newrow (h.set id .Ec) (some ⟨g,0,none⟩) k cap (cs.take (k*(n+1))) ((us.toList.take cs.length).take (k*(n+1))) (hr.kill id) Ef (p2.take _) aZ (λq hq=>p3 q (AQ hq))
          (by
           rw[Ii];exact run_firstCells_some w.drew _ _ _ _ _ _ aZ (λj y hj=>by
            rw[Hz];show w.cell? _=_;rw[cell_of_row w _ _ us e1 fr p1];rw[A0] at hj;split at hj
            .rw[A0] at hj;split at hj;.simpa using hj
             .cases hj
            .cases hj)) (by omega) Mo
         simpa using this
       .cases hp
     .cases hp
    .cases hp
   |_=>rw[<-hR] at hp;cases hp
end
section
variable{C:CB}{γ0 γ γ':Gh}{w0 w w':World}{Z:Nat->Nat}{U:Av}{h:Ab}{a:Act}{fid:FuncId}{ops:List Oper}
def OB(hi:Dp γ h w){id g off:Nat}{cs avs:List Aa}{news:List Value}(hcs:h[id]?=some (.cells cs))(hg:γ.mu id=some g)(hv:Ai γ avs news)(h1:∀u∈news,u.oneCell'=true)(hl:off+avs.length<=cs.length):
  ∃w',(storeCells ⟨g,off,none⟩ news).run C.P w= .ok () w'/\Dp γ (h.set id (.cells (cs.take off++avs++cs.drop (off+avs.length)))) w'/\FC γ w γ w':=by
 obtain⟨us,e,fr,hw,pf,p5,p6⟩:=hi.cells id cs hcs g hg;have J7:news.length=avs.length:=hv.length;have hlt:cs.length<=us.size:=by have:=p5.length;simp at this;omega
 have hs:=run_storeCells_cells (P:=C.P) g off news 0 w (λj hj=>by
  rw[cell_of_row w _ _ us e fr hw,CE,AY (by omega)];rfl) (λj hj=>by
  simp only[World.frozen?,hw];rcases pf with rfl|QT
  .simp
  .simp;omega) h1
 rw[CE,BZ _ off us w hw (by omega)] at hs;have hcl:(cs.take off++avs++cs.drop (off+avs.length)).length=cs.length:=by simp;omega
 have LU:((us.toList.take off++news++us.toList.drop (off+news.length)).toArray).toList.take (cs.take off++avs++cs.drop (off+avs.length)).length=(us.toList.take cs.length).take off++news++(us.toList.take cs.length).drop (off+news.length):=by rw[hcl];simp only[EU];exact F4 (by simpa using hlt) (by omega) rfl
 obtain⟨VO,ha⟩:=Gs hi hcs hg hw (us.toList.take off++news++us.toList.drop (off+news.length)).toArray (cs.take off++avs++cs.drop (off+avs.length))
  (by simp only[AE,An,Bt,BH,AM];omega)
  (by
   rcases pf with rfl|pf
   .exact .inl rfl
   .refine .inr (AX (FM ?_) pf);simp only[AE,An,Bt,BH,AM];omega)
  (by rw[LU,J7];exact G1 p5 hv)
  (by
   rw[LU];intro q hq;rcases Aj.1 hq with hq|hq
   .rcases Aj.1 hq with hq|hq
    .exact p6 q (AQ hq)
    .exact h1 q hq
   .exact p6 q (Bu hq))
 exact⟨_,hs,VO,ha⟩
def PR{t t' ty:TypeId}{ts:Array TypeId}{xs:Array Value}(h0:ts[0]?=some t)(h1:ts[1]?=some t'):Builtin.copy_ ts ty xs=Builtin.copy_ #[t,t'] ty xs:=by simp only[Builtin.copy_,h0];rfl
def OC{P:Program}{t t' ty e:TypeId}{i:TypeInfo}(ht:P.underlying t=some (.slice e))(hi:P.info? e=some i){x:Value}{n:Nat}{news:List Value}(hs:Src P i.size t' x n news w){base:Option Addr}{k cap:Nat}(hk:n<=k)
  (Ex:∀ad,base=some ad->(storeCells ad news).run P w= .ok () w') (ZI:base=none->w'=w):(Builtin.copy_ #[t,t'] ty #[.slice base k cap,x]).run P w= .ok (.int .i64 n) w':=by
 have hl:=hs.len w;have hc:=hs.cells;have hm:Nat.min n k=n:=Dr hk;cases base with
 |none=>cases ZI rfl;simp[Builtin.copy_,run_underlying ht,hl,hc,sizeOf,typeInfo,hi,hm,goInt]
 |some ad=>have h2:=Ex ad rfl;simp[Builtin.copy_,run_underlying ht,hl,hc,sizeOf,typeInfo,hi,hm,goInt,h2]
def TU{o:Oper}{c:Call}{t t' e:TypeId}{n:Nat}{s x:Operand}{v u r:Aa}{h':Ab}(ho:o.op= .call c)(hc:c.callee= .builtin .copy)(h0:c.argTypes[0]?=some t)(h1:c.argTypes[1]?=some t')(B0:c.args.toList=[s,x])(ht:C.P.underlying t=some (.slice e))
  (Ek:(∃e',C.P.underlying t'=some (.slice e'))\/C.P.underlying t'=some .string) (Fc:Az C.P e=some (n+1)) (hv:Ak C U [s,x]=some [v,u])
  (hp:Ta h (n+1) v u=some (h',r)) (hr:Bk C γ0 w0 γ Z U h a w):Cx C γ0 w0 o a w (U.put o.dst (.val r)) h':=by
 obtain⟨_,_,e0,hvs,Pj⟩:=B9 hr hv;cases e0;have EI:c.args.map a.eval=#[a.eval s,a.eval x]:=by apply Dh;simp[B0]
 have FY:∀v' w',(Builtin.copy_ #[t,t'] o.type #[a.eval s,a.eval x]).run C.P w= .ok v' w'->(execOp a.eval o).run C.P w= .ok (.value v') w':=λv' w' Ad=>by
  have:execOp a.eval o=(do pure (Next.value (<-Builtin.copy_ #[t,t'] o.type #[a.eval s,a.eval x]))):=by rw[<-EI,<-PR (ty:=o.type) h0 h1];simp only[execOp,ho,resolve,hc];rfl
  rw[this];exact Bw Ad
 cases hi:C.P.info? e with
 |none=>simp[Az,hi] at Fc
 |some i=>
 have Ii:=El Fc hi;unfold Ta at hp;cases hq:Hp h (n+1) u with
 |none=>rw[hq] at hp;cases hp
 |some Ac=>
  rw[hq] at hp;obtain⟨news,EJ,LO,QY⟩:=LN (w:=w) Ek hr.BI Pj hq;have Ez:Src C.P i.size t' (a.eval x) Ac.length news w:=by rw[Ii];exact EJ
  have J7:news.length=Ac.length*(n+1):=EJ.newsLen;have FX:Ac.flatten.length=news.length:=by rw[LO.length]
  simp only at hp;split at hp
  .split at hp;.rename_i sG;cases hp;have Ef:a.eval s= .slice none 0 0:=hvs;have Ad:=OC (t:=t) (ty:=o.type) (w:=w) (w':=w) ht hi Ez (base:=none) (k:=0) (cap:=0) (by omega) (λ_ e=>by cases e) (λ_=>rfl);rw[<-Ef] at Ad;rw[sG] at Ad;exact Cx.value (FY _ _ Ad) (hr.put λ_ _=>rfl)
   .cases hp
  .rename_i id off k z;split at hp
   .rename_i cs hcs;split at hp;.rename_i Du;obtain⟨rfl,wL,hlen⟩:=Du;cases hp;obtain⟨g,cap,hg,Ef,VI,S2,K3⟩:=(show Au γ _ _ from hvs);have hm:=CL (n+1) wL;obtain⟨w',Ex,VO,aS⟩:=OB (C:=C) (off:=off) hr.BI hcs hg LO EJ.one (by omega);have Ad:=OC (t:=t) (ty:=o.type) (w:=w) (w':=w') ht hi Ez (base:=some ⟨g,off,none⟩) (k:=k) (cap:=cap) wL (λ_ e=>by cases e;exact Ex) (λe=>by cases e);rw[<-Ef] at Ad;rw[show Ac.length*(n+1)=Ac.flatten.length by rw[FX,J7]];exact Cx.value (FY _ _ Ad) ((hr.DX VO aS).put λ_ _=>rfl)
    .cases hp
   .cases hp
  .cases hp
def OD{t ty:TypeId}{ts:Array TypeId}{xs:Array Value}(h0:ts[0]?=some t):Builtin.clear_ ts ty xs=Builtin.clear_ #[t] ty xs:=by simp only[Builtin.clear_,h0];rfl
def So{o:Oper}{c:Call}{t e:TypeId}{n:Nat}{s:Operand}{v z r:Aa}{h':Ab}(ho:o.op= .call c)(hc:c.callee= .builtin .clear)(h0:c.argTypes[0]?=some t)(B0:c.args.toList=[s])(ht:C.P.underlying t=some (.slice e))
  (Fc:Az C.P e=some (n+1)) (hz:C1 C.P e=some z) (hv:Ak C U [s]=some [v]) (hp:Pp h (n+1) z.cells v=some (h',r)) (hr:Bk C γ0 w0 γ Z U h a w):Cx C γ0 w0 o a w (U.put o.dst .undef) h':=by
 obtain⟨_,e0,hvs⟩:=CW hr hv;cases e0;have EI:c.args.map a.eval=#[a.eval s]:=by apply Dh;simp[B0]
 have FY:∀v' w',(Builtin.clear_ #[t] o.type #[a.eval s]).run C.P w= .ok v' w'->(execOp a.eval o).run C.P w= .ok (.value v') w':=λv' w' Ad=>by
  have:execOp a.eval o=(do pure (Next.value (<-Builtin.clear_ #[t] o.type #[a.eval s]))):=by rw[<-EI,<-OD (ty:=o.type) h0];simp only[execOp,ho,resolve,hc];rfl
  rw[this];exact Bw Ad
 unfold Pp at hp;split at hp
 .cases hp;have Ef:a.eval s= .slice none 0 0:=hvs;have Ad:(Builtin.clear_ #[t] o.type #[a.eval s]).run C.P w= .ok (.tuple #[]) w:=by rw[Ef];simp[Builtin.clear_,run_underlying ht]
  exact Cx.value (FY _ _ Ad) (hr.put λ_ _=>trivial)
 .rename_i id off k z';split at hp
  .rename_i cs hcs;split at hp
   .rename_i Du;obtain⟨rfl,sH,hlen⟩:=Du;cases hp;obtain⟨g,cap,hg,Ef,VI,S2,K3⟩:=(show Au γ _ _ from hvs);obtain⟨zv,S3,bD⟩:=Dx hz;obtain⟨q1,q2⟩:=Dd (γ:=γ) (Cm S3) (by omega);have NA:zv.cells.size=n+1:=by have:=q1.length;simp at this;omega
    have FX:(List.replicate k z.cells).flatten.length=k*(n+1):=by rw[Df (z:=n+1) (λr hr=>by rw[Zq hr,sH]),Dk]
    have wM:∀(j:Nat) (u:Value),(Builtin.zeroCells zv.cells k).toList[j]?=some u->j<k*(n+1)/\zv.cells.toList[j%(n+1)]?=some u:=by
     intro j u hj;have Pk:j<k*(n+1):=by have:=(Af.1 hj).1;simpa[size_zeroCells,NA] using this
     refine⟨Pk,?_⟩;have bA:j%(n+1)<zv.cells.size:=by rw[NA];exact Nat.mod_lt _ (Bd n)
     simp only[Builtin.zeroCells,Gn,Cp] at hj;have hrange:(Array.range (k*zv.cells.size)).toList[j]?=some j:=by simp[NA,Pk]
     rw[hrange] at hj;simp only[A3,AG] at hj;rw[NA] at hj;rw[<-hj];simp[bA]
    have hV:Ai γ (List.replicate k z.cells).flatten (Builtin.zeroCells zv.cells k).toList:=by refine Ai.C2 (by simp only[AM,size_zeroCells,NA,FX]) λj x u hx hu=>?_;obtain⟨Pk,r8⟩:=wM j u hu;rw[DE z.cells _ _ (by rw[sH];exact Pk),sH] at hx;obtain⟨u',TB,aU⟩:=q1.get hx;rw[r8] at TB;cases TB;exact aU
    obtain⟨w',Ex,VO,aS⟩:=OB (C:=C) (off:=off) hr.BI hcs hg hV (λu hu=>by obtain⟨j,hj⟩:=AU hu;exact q2 u (AT (wM j u hj).2)) (by omega)
    have Ad:(Builtin.clear_ #[t] o.type #[a.eval s]).run C.P w= .ok (.tuple #[]) w':=by
     rw[Ef];cases k with
     |zero=>
      have e1:(Builtin.zeroCells zv.cells 0).toList=[]:=by simp[Builtin.zeroCells]
      rw[e1] at Ex;have:w'=w:=by have h2:(storeCells ⟨g,off,none⟩ []).run C.P w= .ok () w:=rfl;rw[h2] at Ex;cases Ex;rfl
      rw[this];simp[Builtin.clear_,run_underlying ht]
     |succ k=>simp[Builtin.clear_,run_underlying ht,bD,Ex]
    rw[show k*(n+1)=(List.replicate k z.cells).flatten.length from FX.symm];exact Cx.value (FY _ _ Ad) ((hr.DX VO aS).put λ_ _=>trivial)
   .cases hp
  .cases hp
 .cases hp
def TV{o:Oper}{t e:TypeId}{n:Nat}{x:Operand}{lo hi:Option Operand}{v r:Aa}{as:List Aa}{h':Ab}(ho:o.op= .slice t x lo hi none)(ht:C.P.underlying t=some (.slice e))(Fc:Az C.P e=some (n+1))
  (hv:Ak C U (x::(lo.toList++hi.toList))=some (v::as)) (hp:Tb h (n+1) lo.isSome hi.isSome v as=some (h',r)) (hr:Bk C γ0 w0 γ Z U h a w):Cx C γ0 w0 o a w (U.put o.dst (.val r)) h':=by
 have PQ:=BF hr hv;obtain⟨u,us,e1,hx,TW⟩:=PQ;simp only[Be,Cs] at e1;obtain⟨rfl,rfl⟩:=e1;unfold Tb at hp;split at hp
 .rename_i id off k z;split at hp
  .rename_i cs hcs;split at hp
   .rename_i Du;obtain⟨rfl,zV,gQ⟩:=Du;obtain⟨g,cap,hg,Ef,VI,S2,K3⟩:=(show Au γ _ _ from hx);cases hb:CT lo.isSome hi.isSome ((cs.length-off)/(n+1)) as with
    |none=>rw[hb] at hp;cases hp
    |some lh=>
     obtain⟨l,q⟩:=lh;rw[hb] at hp;simp only[Bx] at hp;split at hp
     .rename_i hlt;cases hp;obtain⟨us,e1,fr,p1,pf,p2,p3⟩:=hr.BI.cells id cs hcs g hg;obtain⟨⟨S0,zS,zT,q1,q2⟩,_⟩:=hr.BI.sz g _ K3;rw[p1] at q1;cases q1;have ZE:cs.length<=us.size:=by have:=p2.length;simp at this;omega
      have sI:(cs.length-off)/(n+1)<=cap:=by refine Nat.div_le_of_le_mul ?_;rw[Nat.mul_comm];omega
      have e2:∀y:Option Operand,(y.map a.eval).isSome=y.isSome:=λy=>by cases y<;>rfl
      have e3:(lo.map a.eval).toList++(hi.map a.eval).toList=(lo.toList++hi.toList).map a.eval:=by cases lo<;>cases hi<;>rfl
      rw[<-e2 lo,<-e2 hi] at hb;obtain⟨k1,k2,k3⟩:=ER (P:=C.P) (w:=w) (isSlice:=true) hb (by rw[e3];exact TW) sI;have Gt:Instr.sliceBounds true k cap (lo.map a.eval) (hi.map a.eval) none=Instr.sliceBounds true ((cs.length-off)/(n+1)) cap (lo.map a.eval) (hi.map a.eval) none:=by
       cases hi with
       |none=>cases zV
       |some y=>rfl
      have Ek:C.P.underlying t=some (.slice (C.P.elem t)):=by simp[Program.elem,ht]
      have he:C.P.elem t=e:=by simp[Program.elem,ht]
      have Ad:(Instr.sliceAt t (a.eval x) (lo.map a.eval) (hi.map a.eval) none).run C.P w= .ok (.slice (some ⟨g,off+l*(n+1),none⟩) (q-l) (cap-l)) w:=by rw[Ef,run_sliceAt_slice w t _ _ _ _ Ek,run_slice_any w t _ _ _ Ek,Gt,k1,he,Result.andThen_ok,BC Fc];show Result.ok (Value.slice (if cap=l then some ⟨g,off,none⟩ else Option.map (λq:Addr=>q.add (l*(n+1))) (some ⟨g,off,none⟩)) (q-l) (cap-l)) w=_;rw[if_neg (by omega)];simp only[A3];unfold Addr.add;split<;>simp_all
      refine Cx.value (by simp only[execOp,ho];exact Bw Ad) (hr.put λ_ _=>⟨g,cap-l,hg,rfl,by omega,⟨S2.1,AX (Nat.sub_le _ _) S2.2⟩,?_⟩);rw[K3,Ng,<-AI,rE (by omega)]
     .cases hp
   .cases hp
  .cases hp
 .cases hp
def TX{o:Oper}{t e:TypeId}{n:Nat}{x lo hi mx:Operand}{args:List Aa}(ho:o.op= .slice t x (some lo) (some hi) (some mx))(ht:C.P.underlying t=some (.slice e))(Fc:Az C.P e=some (n+1))
  (hv:Ak C U [x,lo,hi,mx]=some args) (hp:Pq (n+1) args=true) (hr:Bk C γ0 w0 γ Z U h a w):Cx C γ0 w0 o a w (U.put o.dst .undef) h:=by
 have PQ:=BF hr hv;have Ek:C.P.underlying t=some (.slice (C.P.elem t)):=by simp[Program.elem,ht]
 have he:C.P.elem t=e:=by simp[Program.elem,ht]
 have Hh:∀(base:Option Addr) (len cap:Nat) (kl kr km:IntKind) (l r m:Int),a.eval x= .slice base len cap->a.eval lo= .int kl l->a.eval hi= .int kr r->a.eval mx= .int km m->0<=l->l<=r->r<=m->m<=cap->Cx C γ0 w0 o a w (U.put o.dst .undef) h:=by
  intro base len cap kl kr km l r m e1 e2 e3 e4 h1 h2 h3 h4;have Ad:∃v,(Instr.sliceAt t (a.eval x) (some (a.eval lo)) (some (a.eval hi)) (some (a.eval mx))).run C.P w= .ok v w:=by
   have wN:0<=m:=by omega
   have wO:0<=r:=by omega
   have b1:∀code,(Instr.sliceBound (.int km m) cap code).run C.P w= .ok m.toNat w:=λcode=>by simp[Instr.sliceBound,asIntOf,wN,h4]
   have b2:∀code,(Instr.sliceBound (.int kr r) m.toNat code).run C.P w= .ok r.toNat w:=λcode=>by simp[Instr.sliceBound,asIntOf,wO,Hl wN,h3]
   have b3:∀code,(Instr.sliceBound (.int kl l) r.toNat code).run C.P w= .ok l.toNat w:=λcode=>by simp[Instr.sliceBound,asIntOf,h1,Hl wO,h2]
   rw[e1,e2,e3,e4];simp[Instr.sliceAt,Instr.slice,run_underlying ht,Instr.sliceBounds,b1,b2,b3,BC Fc]
  obtain⟨v,Ad⟩:=Ad;exact Cx.value (by simp only[execOp,ho];exact Bw Ad) (hr.put λ_ _=>trivial)
 unfold Pq at hp;split at hp
 .rename_i s _ l _ r _ m;obtain⟨u1,fM,f1,g1,u2,Pv,f2,g2,u3,jg,f3,g3,u4,jh,f4,g4,f5⟩:=PQ;subst f5;simp only[Be,FN] at f1;subst f4;subst f3;subst f2;simp only[Cs,FT] at f1;obtain⟨rfl,rfl,rfl,rfl⟩:=f1;split at hp;.simp only[Ao,CO] at hp;obtain⟨⟨⟨⟨_,h1⟩,h2⟩,h3⟩,h4⟩:=hp;obtain⟨g,cap,hg,Ef,VI,_⟩:=(show Au γ _ _ from g1);exact Hh _ _ _ _ _ _ _ _ _ Ef (BP g2) (BP g3) (BP g4) h1 h2 h3 (by omega)
  .simp only[Ao,CO] at hp;obtain⟨⟨⟨⟨_,h1⟩,h2⟩,h3⟩,h4⟩:=hp;obtain⟨ad,cap,Ef,VI,_⟩:=(show Au γ _ _ from g1);exact Hh _ _ _ _ _ _ _ _ _ Ef (BP g2) (BP g3) (BP g4) h1 h2 h3 (by omega)
  .cases hp
 .cases hp
def TY{o:Oper}{t:TypeId}{x:Operand}{v:Aa}{u:TypeDesc}(ho:o.op= .makeInterface t x)(ht:C.P.underlying t=some u)(hn:∀i,u≠ .interface i)(hv:Ak C U [x]=some [v])(hr:Bk C γ0 w0 γ Z U h a w):Cx C γ0 w0 o a w (U.put o.dst (.val (.iface t v))) h:=by
 obtain⟨_,e0,hvs⟩:=CW hr hv;cases e0;have Ad:(Instr.makeInterface t (a.eval x)).run C.P w= .ok (.iface t (a.eval x)) w:=by cases u<;>simp_all [Instr.makeInterface,run_underlying ht]
 exact Cx.value (by simp only[execOp,ho];exact Bw Ad) (hr.put λ_ _=>⟨_,rfl,hvs⟩)
def H6{n:Int}:∀{es:List (Aa×Aa)} {l:List MapEntry} {i:Nat} {r:Option (Nat×Aa)},E7 γ es l->GP n es i=some r->
  match r with
  |none=>Instr.findNow (.int .i64) (.int .i64 n) l i=some none
  |some (j,v)=>∃(e:MapEntry),Instr.findNow (.int .i64) (.int .i64 n) l i=some (some (j,e.val))/\Au γ v e.val/\i<=j/\l[j-i]?=some e/\e.key= .int .i64 n
 |[],l,i,r,hM,hf=>by rw[show l=[] from hM];cases hf;rfl
 |(k,v)::es,l,i,r,hM,hf=>by
  obtain⟨e,l',rfl,h1,h2,h3⟩:=hM;cases k with
  |int q t=>
   by_cases hq:q= .i64
   .subst hq;simp only[GP] at hf;have hk:e.key= .int .i64 t:=h1;split at hf;.rename_i Ex;subst Ex;cases hf;exact⟨e,by simp[Instr.findNow,hk,Instr.sameNow],h2,Ap _,by simp,hk⟩
    .rename_i Ex;have gX:(n==t)=false:=by simpa using Ex
     have ih:=H6 (i:=i+1) h3 hf;cases r with
     |none=>simpa[Instr.findNow,hk,Instr.sameNow,gX] using ih
     |some p=>obtain⟨j,v2⟩:=p;obtain⟨e2,q1,q2,q3,q4,q5⟩:=ih;refine⟨e2,by simpa[Instr.findNow,hk,Instr.sameNow,gX] using q1,q2,by omega,?_,q5⟩;rw[show j-i=(j-(i+1))+1 by omega,Fp];exact q4
   .exfalso;cases q<;>first|exact hq rfl|(simp[GP] at hf)
  |_=>simp[GP] at hf
def TZ{o:Oper}{t kt e:TypeId}{m k:Operand}{vm vk z r:Aa}{ok:Bool}{h':Ab}(ho:o.op= .lookup t m k ok)(ht:C.P.underlying t=some (.map kt e))(hk:C.P.underlying kt=some (.int .i64))(hz:C1 C.P e=some z)(ha:Ak C U [m,k]=some [vm,vk])(hm:Tc h z ok vm vk=some (h',r))(hr:Bk C γ0 w0 γ Z U h a w):
  Cx C γ0 w0 o a w (U.put o.dst (.val r)) h':=by
 obtain⟨_,_,e0,h1,h2⟩:=B9 hr ha;cases e0;obtain⟨zv,S3,bD⟩:=Dx hz;have Hh:∀(es:Array MapEntry) (q:Option (Nat×Aa)),(Instr.lookup t (a.eval m) (a.eval k) ok).run C.P w=(E0 kt e (a.eval k) ok es).run C.P w->
   ∀n,a.eval k= .int .i64 n->(match q with|none=>Instr.findNow (.int .i64) (.int .i64 n) es.toList 0=some none|some (j,v)=>∃(e:MapEntry),Instr.findNow (.int .i64) (.int .i64 n) es.toList 0=some (some (j,e.val))/\Au γ v e.val/\0<=j/\es.toList[j-0]?=some e/\e.key= .int .i64 n)->
   Pr z ok q=r->Cx C γ0 w0 o a w (U.put o.dst (.val r)) h:=by
  intro es q Ju n bE hq KB;have Sl:(Instr.checkKey es.isEmpty 10000 kt (.int .i64 n)).run C.P w= .ok () w:=MapKept.run_checkKey (k:= .int .i64 n) hk (by simp[MapKept.IsKey]) es.isEmpty 9999;have Ad:∃v,(Instr.lookup t (a.eval m) (a.eval k) ok).run C.P w= .ok v w/\Au γ r v:=by
   cases q with
   |none=>
    refine⟨if ok then .tuple #[zv,.bool false] else zv,?_,?_⟩;.rw[Ju,bE];unfold E0;simp only[Sem.run_bind,Result.andThen_ok,Sl,MapKept.run_findKey hk hq,bD,Sem.run_bind,Sem.run_pure]
    .rw[<-KB];have gV:=Cm (γ:=γ) S3;cases ok with
     |true=>exact⟨_,rfl,_,_,rfl,gV,_,_,rfl,rfl,rfl⟩
     |false=>exact gV
   |some p=>
    obtain⟨j,v⟩:=p;obtain⟨en,q1,q2,_⟩:=hq;refine⟨if ok then .tuple #[en.val,.bool true] else en.val,?_,?_⟩;.rw[Ju,bE];unfold E0;simp only[Sem.run_bind,Result.andThen_ok,Sl,MapKept.run_findKey hk q1,Sem.run_bind,Sem.run_pure]
    .rw[<-KB];cases ok with
     |true=>exact⟨_,rfl,_,_,rfl,q2,_,_,rfl,rfl,rfl⟩
     |false=>exact q2
  obtain⟨v,Ad,TG⟩:=Ad;exact Cx.value (by simp only[execOp,ho];exact Bw Ad) (hr.put λ_ _=>TG)
 unfold Tc at hm;split at hm;.rename_i n;cases hm;exact Hh #[] none (by rw[show a.eval m=_ from h1];simp only[Instr.lookup,E0,Sem.run_bind,run_underlying ht,Result.andThen_ok,Sem.run_pure];rfl) n h2 rfl rfl
 .rename_i id n;obtain⟨b,hb,Sk⟩:=h1;split at hm
  .rename_i es Ju;obtain⟨C3,clock,hw,hM,_⟩:=hr.BI.map id es Ju b hb;cases hf:GP n es 0 with
   |none=>rw[hf] at hm;cases hm
   |some q=>
    rw[hf] at hm;simp only[A3,AG,Gq] at hm;obtain⟨rfl,hm⟩:=hm;refine Hh C3 q (by rw[Sk];simp only[Instr.lookup,E0,Sem.run_bind,run_underlying ht,MapKept.run_getObj_map hw,Result.andThen_ok,Sem.run_pure];rfl) n h2 ?_ ?_
    .have:=H6 (i:=0) hM hf;cases q with
     |none=>exact this
     |some p=>exact this
    .exact hm
  .cases hm
 .cases hm
def E7.bF{k v:Aa}{e:MapEntry}(hk:Au γ k e.key)(hv:Au γ v e.val):∀{es:List (Aa×Aa)} {l:List MapEntry},E7 γ es l->E7 γ (es++[(k,v)]) (l++[e])
 |[],l,hM=>by rw[show l=[] from hM];exact⟨e,[],rfl,hk,hv,rfl⟩
 |(k',v')::es,l,hM=>by obtain⟨e',l',rfl,h1,h2,h3⟩:=hM;exact⟨e',_,rfl,h1,h2,E7.bF hk hv h3⟩
def E7.length:∀{es:List (Aa×Aa)} {l:List MapEntry},E7 γ es l->l.length=es.length
 |[],l,hM=>by rw[show l=[] from hM];rfl
 |(k',v')::es,l,hM=>by obtain⟨e',l',rfl,h1,h2,h3⟩:=hM;simp[E7.length h3]
def E7.modify{v:Aa}{u:Value}(hv:Au γ v u):∀{es:List (Aa×Aa)} {l:List MapEntry} {j:Nat} {k v0:Aa},E7 γ es l->es[j]?=some (k,v0)->E7 γ (es.set j (k,v)) (l.modify j λe=>{e with val:=u})
 |[],l,j,k,v0,hM,hj=>by simp at hj
 |(k',v')::es,l,j,k,v0,hM,hj=>by
  obtain⟨e',l',rfl,h1,h2,h3⟩:=hM;cases j with
  |zero=>cases hj;exact⟨{e' with val:=u},l',by simp,h1,hv,h3⟩
  |succ j=>exact⟨e',l'.modify j _,by simp,h1,h2,E7.modify hv h3 (by simpa using hj)⟩
def OE{es:Array MapEntry}{j:Nat}{e:MapEntry}{k:Value}(hj:es[j]?=some e)(hk:e.key=k):(es.modify j λe=>{e with key:=k})=es:=by
 apply HZ;intro i;rw[Ga];split;.rename_i hi;subst hi;rw[hj];simp[<-hk]
 .rfl
def LV{o:Oper}{t kt e:TypeId}{m k:Operand}{kA z r:Aa}{kV:Value}{d:TypeDesc}{h':Ab}{id:Nat}{es:List (Aa×Aa)}{f:Option (Option (Nat×Aa))}(ho:o.op= .mapEntry t m k)(ht:C.P.underlying t=some (.map kt e))(hk:C.P.underlying kt=some d)(wP:MapKept.IsKey d kV)(hz:C1 C.P e=some z)
  (h1:Au γ (.map (some id)) (a.eval m)) (bC:a.eval k=kV) (hkA:Au γ kA kV) (Ju:h[id]?=some (.map es))
  (hq:∀(l:List MapEntry) q,E7 γ es l->f=some q->match q with
   |none=>Instr.findNow d kV l 0=some none
   |some (j,v)=>∃(e:MapEntry),Instr.findNow d kV l 0=some (some (j,e.val))/\Au γ v e.val/\0<=j/\l[j-0]?=some e/\e.key=kV)
  (hm:(f.map λr=>match r with
   |some (i,v)=>(h,Aa.tuple [v,.int .i64 i])
   |none=>(h.set id (.map (es++[(kA,z)])),.tuple [z,.int .i64 es.length]))=some (h',r)) (hr:Bk C γ0 w0 γ Z U h a w):
  Cx C γ0 w0 o a w (U.put o.dst (.val r)) h':=by
 obtain⟨zv,S3,bD⟩:=Dx hz;obtain⟨b,hb,Sk⟩:=h1;obtain⟨C3,clock,hw,hM,hB⟩:=hr.BI.map id es Ju b hb;have Sl:(Instr.checkKey false 10000 kt kV).run C.P w= .ok () w:=MapKept.run_checkKey (k:=kV) hk wP false 9999;cases f with
 |none=>cases hm
 |some q=>
  have hq:=hq C3.toList q hM rfl;cases q with
  |none=>
   simp only[A3,AG,Gq] at hm;obtain⟨rfl,rfl⟩:=hm;have Ad:(Instr.mapEntry t (a.eval m) (a.eval k)).run C.P w= .ok (.tuple #[zv,goInt clock]) {w with heap:=w.heap.setIfInBounds b (.map (C3.push {key:=kV,val:=zv,born:=clock}) (clock+1))}:=by rw[Sk,bC];simp[Instr.mapEntry,run_underlying ht,MapKept.run_getObj_map hw,Sl,MapKept.run_findKey hk hq,bD,MapKept.run_setObj_map _ hw,Result.andThen]
   obtain⟨hi,EA⟩:=Gx (KW:=es++[(kA,z)]) (ents':=C3.push {key:=kV,val:=zv,born:=clock}) (clock':=clock+1) hr.BI Ju hb hw ⟨by have:=E7.bF (γ:=γ) (k:=kA) (v:=z) (e:={key:=kV,val:=zv,born:=clock}) hkA (Cm S3) hM;simpa using this,J8 hB⟩
   refine Cx.value (by simp only[execOp,ho];exact Bw Ad) ((hr.DX hi EA).put λ_ _=>⟨_,rfl,zv,_,rfl,Cm S3,_,[],rfl,?_,rfl⟩);rw[hB.1];have:=hM.length;simp only[AM] at this;rw[<-this];rfl
  |some p=>
   obtain⟨j,v⟩:=p;simp only[A3,AG,Gq] at hm;obtain⟨rfl,rfl⟩:=hm;obtain⟨en,q1,q2,_,q4,q5⟩:=hq;have hj:C3[j]?=some en:=by simpa using q4
   have gY:=hB.2 j en hj;have Sp:w.heap.setIfInBounds b (.map C3 clock)=w.heap:=by
    apply HZ;intro i;rw[Array.getElem?_setIfInBounds];split;.rename_i hi;subst hi;have hlt:=(Ae.1 hw).1;rw[if_pos hlt,hw]
    .rfl
   have Ad:(Instr.mapEntry t (a.eval m) (a.eval k)).run C.P w= .ok (.tuple #[en.val,goInt j]) w:=by rw[Sk,bC];simp[Instr.mapEntry,run_underlying ht,MapKept.run_getObj_map hw,Sl,MapKept.run_findKey hk q1,hj,q5,MapKept.run_keyThatStays (d:=d) (k:=kV) wP,MapKept.run_setObj_map _ hw,Result.andThen,gY,OE hj q5,Sp]
   exact Cx.value (by simp only[execOp,ho];exact Bw Ad) (hr.put λ_ _=>⟨_,rfl,_,_,rfl,q2,_,[],rfl,rfl,rfl⟩)
def PS{o:Oper}{t kt e:TypeId}{m k:Operand}{vm vk z r:Aa}{h':Ab}(ho:o.op= .mapEntry t m k)(ht:C.P.underlying t=some (.map kt e))(hk:C.P.underlying kt=some (.int .i64))(hz:C1 C.P e=some z)(ha:Ak C U [m,k]=some [vm,vk])(hm:Nk h z vm vk=some (h',r))(hr:Bk C γ0 w0 γ Z U h a w):
  Cx C γ0 w0 o a w (U.put o.dst (.val r)) h':=by
 obtain⟨_,_,e0,h1,h2⟩:=B9 hr ha;cases e0;unfold Nk at hm;split at hm
 .rename_i id n;split at hm;.rename_i es Ju;exact LV (kA:= .int .i64 n) (kV:= .int .i64 n) ho ht hk (by simp[MapKept.IsKey]) hz h1 h2 rfl Ju (λl q hM hf=>H6 (i:=0) hM hf) hm hr
  .cases hm
 .cases hm
def MX{s:Ag}:∀{es:List (Aa×Aa)} {l:List MapEntry} {i:Nat} {r:Option (Nat×Aa)},E7 γ es l->Lm s es i=some r->
  match r with
  |none=>Instr.findNow .string (.string ⟨⟨s⟩⟩) l i=some none
  |some (j,v)=>∃(e:MapEntry),Instr.findNow .string (.string ⟨⟨s⟩⟩) l i=some (some (j,e.val))/\Au γ v e.val/\i<=j/\l[j-i]?=some e/\e.key= .string ⟨⟨s⟩⟩
 |[],l,i,r,hM,hf=>by rw[show l=[] from hM];cases hf;rfl
 |(k,v)::es,l,i,r,hM,hf=>by
  obtain⟨e,l',rfl,h1,h2,h3⟩:=hM;cases k with
  |str t=>
   simp only[Lm] at hf;have hk:e.key= .string ⟨⟨t⟩⟩:=h1;split at hf;.rename_i Ex;subst Ex;cases hf;exact⟨e,by simp[Instr.findNow,hk,Instr.sameNow,IJ],h2,Ap _,by simp,hk⟩
   .rename_i Ex;have ih:=MX (i:=i+1) h3 hf;have hne:=LR Ex;cases r with
    |none=>simpa[Instr.findNow,hk,Instr.sameNow,hne] using ih
    |some p=>obtain⟨j,v2⟩:=p;obtain⟨e2,q1,q2,q3,q4,q5⟩:=ih;refine⟨e2,by simpa[Instr.findNow,hk,Instr.sameNow,hne] using q1,q2,by omega,?_,q5⟩;rw[show j-i=(j-(i+1))+1 by omega,Fp];exact q4
  |_=>simp[Lm] at hf
def PT{o:Oper}{t kt e:TypeId}{m k:Operand}{vm vk z r:Aa}{h':Ab}(ho:o.op= .mapEntry t m k)(ht:C.P.underlying t=some (.map kt e))(hk:C.P.underlying kt=some .string)(hz:C1 C.P e=some z)(ha:Ak C U [m,k]=some [vm,vk])(hm:Nl h z vm vk=some (h',r))(hr:Bk C γ0 w0 γ Z U h a w):
  Cx C γ0 w0 o a w (U.put o.dst (.val r)) h':=by
 obtain⟨_,_,e0,h1,h2⟩:=B9 hr ha;cases e0;unfold Nl at hm;split at hm
 .rename_i id n;split at hm;.rename_i es Ju;exact LV (kA:= .str n) (kV:= .string ⟨⟨n⟩⟩) ho ht hk (by simp[MapKept.IsKey]) hz h1 h2 rfl Ju (λl q hM hf=>MX (i:=0) hM hf) hm hr
  .cases hm
 .cases hm
def OF{o:Oper}{t kt e:TypeId}{m k x:Operand}{vm vk vx r:Aa}{h':Ab}(ho:o.op= .insert t m k x\/o.op= .mapUpdate t m k x)(hd:o.dst=none)(ht:C.P.underlying t=some (.map kt e))(hk:C.P.underlying kt=some (.int .i64))(ha:Ak C U [m,k,x]=some [vm,vk,vx])
  (hm:Td h vm vk vx=some (h',r)) (hr:Bk C γ0 w0 γ Z U h a w):Cx C γ0 w0 o a w U h':=by
 obtain⟨h1,h2,h3⟩:=IK hr ha;have FY:∀w',(Instr.mapUpdate t (a.eval m) (a.eval k) (a.eval x)).run C.P w= .ok () w'->(execOp a.eval o).run C.P w= .ok .skip w':=λw' Ad=>by rcases ho with ho|ho<;>simp[execOp,ho,Ad]
 unfold Td at hm;split at hm
 .rename_i id n;obtain⟨b,hb,Sk⟩:=h1;have bC:a.eval k= .int .i64 n:=h2;split at hm
  .rename_i es Ju;obtain⟨C3,clock,hw,hM,hB⟩:=hr.BI.map id es Ju b hb;have Sl:(Instr.checkKey false 10000 kt (.int .i64 n)).run C.P w= .ok () w:=MapKept.run_checkKey (k:= .int .i64 n) hk (by simp[MapKept.IsKey]) false 9999;split at hm
   .rename_i hf;cases hm;have hq:=H6 (i:=0) hM hf;have Ad:(Instr.mapUpdate t (a.eval m) (a.eval k) (a.eval x)).run C.P w= .ok () {w with heap:=w.heap.setIfInBounds b (.map (C3.push {key:= .int .i64 n,val:=a.eval x,born:=clock}) (clock+1))}:=by rw[Sk,bC];simp[Instr.mapUpdate,run_underlying ht,MapKept.run_getObj_map hw,Sl,MapKept.run_findKey hk hq,MapKept.run_setObj_map _ hw,Result.andThen]
    obtain⟨hi,EA⟩:=Gx (KW:=es++[(.int .i64 n,vx)]) (ents':=C3.push {key:= .int .i64 n,val:=a.eval x,born:=clock}) (clock':=clock+1) hr.BI Ju hb hw ⟨by have:=E7.bF (γ:=γ) (k:= .int .i64 n) (v:=vx) (e:={key:= .int .i64 n,val:=a.eval x,born:=clock}) rfl h3 hM;simpa using this,J8 hB⟩
    exact Cx.skip (FY _ Ad) (by rw[hd];exact hr.DX hi EA)
   .cases hm
  .cases hm
 .cases hm
def NF{es:Array MapEntry}(hB:∀(i:Nat) (e:MapEntry),es[i]?=some e->e.born=i){j:Nat}{e:MapEntry}(hj:es[j]?=some e):es.findIdx? (λe=>(e.born:Int)==(j:Int))=some j:=by
 rw[Array.findIdx?_eq_some_iff_getElem];obtain⟨hl,he⟩:=Ae.1 hj;refine⟨hl,?_,λi hi=>?_⟩;.have:=hB j _ (AY hl);simp[this]
 .have:=hB i _ (AY (by omega));simp[this];omega
def PU{o:Oper}{t:TypeId}{m s x:Operand}{vm vs vx r:Aa}{h':Ab}(ho:o.op= .entryStore t m s x)(hd:o.dst=none)(ha:Ak C U [m,s,x]=some [vm,vs,vx])(hm:Nn h vm vs vx=some (h',r))(hr:Bk C γ0 w0 γ Z U h a w):Cx C γ0 w0 o a w U h':=by
 obtain⟨h1,h2,h3⟩:=IK hr ha;have FY:∀w',(Instr.entryStore t (a.eval m) (a.eval s) (a.eval x)).run C.P w= .ok () w'->(execOp a.eval o).run C.P w= .ok .skip w':=λw' Ad=>by simp[execOp,ho,Ad]
 unfold Nn at hm;split at hm
 .rename_i id n;obtain⟨b,hb,Sk⟩:=h1;have Ef:a.eval s= .int .i64 n:=h2;split at hm
  .rename_i es Ju;split at hm
   .rename_i hn;split at hm
    .rename_i kk v0 hk;cases hm;obtain⟨C3,clock,hw,hM,hB⟩:=hr.BI.map id es Ju b hb;have hlen:=hM.length;have hlt:=(Af.1 hk).1;have zW:∃en,C3[n.toNat]?=some en:=⟨C3[n.toNat]'(by simp at hlen;omega),AY _⟩;obtain⟨en,hj⟩:=zW;have Vv:((n.toNat:Nat):Int)=n:=by omega
     have gZ:=NF hB.2 hj;rw[Vv] at gZ;have Ad:(Instr.entryStore t (a.eval m) (a.eval s) (a.eval x)).run C.P w= .ok () {w with heap:=w.heap.setIfInBounds b (.map (C3.modify n.toNat λe=>{e with val:=a.eval x}) clock)}:=by rw[Sk,Ef];simp[Instr.entryStore,MapKept.run_getObj_map hw,asInt,asIntOf,gZ,MapKept.run_setObj_map _ hw,Result.andThen]
     obtain⟨hi,EA⟩:=Gx (KW:=es.set n.toNat (kk,vx)) (ents':=C3.modify n.toNat λe=>{e with val:=a.eval x}) (clock':=clock) hr.BI Ju hb hw ⟨by have:=E7.modify h3 hM hk;simpa using this,KC hB λ_=>rfl⟩
     exact Cx.skip (FY _ Ad) (by rw[hd];exact hr.DX hi EA)
    .cases hm
   .cases hm
  .cases hm
 .cases hm
end
end Go.Am
end
