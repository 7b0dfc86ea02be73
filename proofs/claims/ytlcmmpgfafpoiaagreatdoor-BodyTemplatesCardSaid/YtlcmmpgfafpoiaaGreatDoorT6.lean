/- Lemmas -/
import Derived.Test.YtlcmmpgfafpoiaaGreatDoorT5
import Derived.MapKept
set_option linter.all false
section
namespace Go.Am
open Go
section
variable{C:F8}{γ0 γ γ':Gh}{w0 w w':World}{Z:Nat->Nat}{U:BV}{h:Ah}{a:Act}{fid:FuncId}{ops:List Oper}
def Xt{s t:An}(h:s≠t):((⟨⟨s⟩⟩:ByteArray)==⟨⟨t⟩⟩)=false:=by
 refine Bool.eq_false_iff.2 λhc=>h ?_;have:=(MapKept.bytes_beq _ _).1 hc;injection this with this
 injection this with this
def Rq(s:An):((⟨⟨s⟩⟩:ByteArray)==⟨⟨s⟩⟩)=true:=(MapKept.bytes_beq _ _).2 rfl
def mM{s:An}:∀{es:List (Aa×Aa)} {l:List MapEntry} {i:Nat} {r:Option Aa},Lp γ es l->WO s es=some r->
  match r with
  |none=>Instr.findNow .string (.string ⟨⟨s⟩⟩) l i=some none
  |some v=>∃(j:Nat) (e:MapEntry),Instr.findNow .string (.string ⟨⟨s⟩⟩) l i=some (some (i+j,e.val))/\BR γ v e.val
 |[],l,i,r,b,hf=>by rw[show l=[] from b];cases hf;rfl
 |(k,v)::es,l,i,r,b,hf=>by
  obtain⟨e,l',rfl,h1,h2,f⟩:=b;unfold WO at hf;split at hf;.rename_i KD;cases KD
  .rename_i t v' Vp KD;cases KD;have hk:e.key= .string ⟨⟨t⟩⟩:=h1;split at hf;.rename_i HT;subst HT;cases hf;exact⟨0,e,by simp[Instr.findNow,hk,Instr.sameNow,Rq],h2⟩
   .rename_i HT;have ih:=mM (i:=i+1) f hf;have hne:=Xt HT;cases r with
    |none=>simpa[Instr.findNow,hk,Instr.sameNow,hne] using ih
    |some v2=>obtain⟨j,g,d,c⟩:=ih;exact⟨j+1,g,by simp only[Instr.findNow,hk,Instr.sameNow,hne];rw[d];congr 3;omega,c⟩
  .cases hf
def xB{s:An}{v:Aa}{u:Value}(hv:BR γ v u):∀{es Vp:List (Aa×Aa)} {l:List MapEntry} {i:Nat},Lp γ es l->O6 s v es=some Vp->
  (Instr.findNow .string (.string ⟨⟨s⟩⟩) l i=some none/\∀born,Lp γ Vp (l++[{key:= .string ⟨⟨s⟩⟩,val:=u,born}]))\/
  ∃j e,Instr.findNow .string (.string ⟨⟨s⟩⟩) l i=some (some (i+j,e.val))/\l[j]?=some e/\e.key= .string ⟨⟨s⟩⟩/\Lp γ Vp (l.modify j λe=>{e with key:= .string ⟨⟨s⟩⟩,val:=u})
 |[],Vp,l,i,d,hp=>by rw[show l=[] from d];cases hp;exact .inl ⟨rfl,λborn=>⟨_,[],rfl,rfl,hv,rfl⟩⟩
 |(k,v0)::es,Vp,l,i,d,hp=>by
  obtain⟨e,l',rfl,h1,h2,f⟩:=d;unfold O6 at hp;split at hp;.rename_i KD;cases KD
  .rename_i t v' o KD;cases KD;have hk:e.key= .string ⟨⟨t⟩⟩:=h1;split at hp;.rename_i HT;subst HT;cases hp;exact .inr ⟨0,e,by simp[Instr.findNow,hk,Instr.sameNow,Rq],rfl,hk,_,l',rfl,rfl,hv,f⟩
   .rename_i HT;have hne:=Xt HT;cases hq:O6 s v es with
    |none=>rw[hq] at hp;cases hp
    |some n=>
     rw[hq] at hp;cases hp;rcases xB hv (i:=i+1) f hq with⟨c,b⟩|⟨j,p,c,b,m,g⟩
     .exact .inl ⟨by simpa[Instr.findNow,hk,Instr.sameNow,hne] using c,λborn=>⟨e,_,rfl,h1,h2,b born⟩⟩
     .exact .inr ⟨j+1,p,by simp only[Instr.findNow,hk,Instr.sameNow,hne];rw[c];congr 3;omega,b,m,e,_,AH,h1,h2,g⟩
  .cases hp
def TL{es:Array MapEntry}{clock:Nat}{k v:Value}(h:clock=es.size/\∀(i:Nat) (e:MapEntry),es[i]?=some e->e.born=i):
  clock+1=(es.push {key:=k,val:=v,born:=clock}).size/\∀(i:Nat) (e:MapEntry),(es.push {key:=k,val:=v,born:=clock})[i]?=some e->e.born=i:=by
 obtain⟨rfl,h⟩:=h;refine⟨AH,λi e he=>?_⟩;rw[ZX] at he;split at he;.rename_i hi;cases he;exact hi.symm
 .exact h i e he
def UB{es:Array MapEntry}{clock j:Nat}{f:MapEntry->MapEntry}(h:clock=es.size/\∀(i:Nat) (e:MapEntry),es[i]?=some e->e.born=i)(hf:∀e,(f e).born=e.born):
  clock=(es.modify j f).size/\∀(i:Nat) (e:MapEntry),(es.modify j f)[i]?=some e->e.born=i:=by
 refine⟨by simpa using h.1,λi e he=>?_⟩;rw[Nc] at he;split at he
 .cases hx:es[i]? with
  |none=>rw[hx] at he;cases he
  |some x=>rw[hx] at he;cases he;rw[hf];exact h.2 i x hx
 .exact h.2 i e he
def NG(hi:Hn γ h w){g id:Nat}{es Vp:List (Aa×Aa)}(Sp:h[id]?=some (.map es))(hg:γ.mu id=some g){o:Obj}{ents':Array MapEntry}{clock':Nat}(hw:w.heap[g]?=some o)(hr:pv γ Vp ents' clock'):
  Hn γ (h.set id (.map Vp)) {w with heap:=w.heap.setIfInBounds g (.map ents' clock')}/\Lq γ w γ {w with heap:=w.heap.setIfInBounds g (.map ents' clock')}:=by
 obtain⟨l,p,Tu⟩:=hi.Mm id _ Sp AH;rw[hg] at p;cases p;obtain⟨NA,c⟩:=MapKept.heap_set (o':= .map ents' clock') hw;have uniq:∀FT x,h[FT]?=some x->x≠ .CF->γ.mu FT=some g->FT=id:=λFT x hx e hm=>by obtain⟨b',p,q⟩:=hi.Mm FT x hx e;rw[hm] at p;cases p;rw[Tu] at q;cases q;rfl
 constructor
 .refine⟨λb o v hb=>?_,λFT y Ih hy=>?_,λFT cs hc b hb=>?_,λFT f hc b hb=>?_,λFT b hb=>by simpa using hi.mu FT b hb,λb x hx=>?_,λb n hb=>?_⟩;rotate_left 5
  .obtain⟨⟨qX,j,py,p,q⟩,r⟩:=hi.sz b n hb;have hne:b≠g:=λhe=>by subst he;obtain⟨i,d,k,_⟩:=hi.map id es Sp b hg;rw[p] at k;cases k
   exact⟨⟨qX,j,py,by rw[c b hne];exact p,q⟩,r⟩
  .obtain⟨p,q,r⟩:=hi.It b o v hb;have:b≠g:=λhe=>by subst he;rw[Tu] at r;rcases r with r|⟨_,_,_,r,_⟩<;>cases r
   exact⟨by rw[CV (w:=w) (c b this)];exact p,q,r⟩
  .by_cases he:FT=id;.subst he;exact⟨g,hg,Tu⟩
   .rw[Ap (λx=>he x.symm)] at Ih;exact hi.Mm FT y Ih hy
  .by_cases he:FT=id;.subst he;rw[AO (hi.mu _ _ hg)] at hc;cases hc
   .rw[Ap (λx=>he x.symm)] at hc;have Qh:b≠g:=λhx=>by subst hx;exact he (uniq FT _ hc AH hb)
    obtain⟨qX,j,py,p,pf,q,r⟩:=hi.cells FT cs hc b hb;exact⟨qX,j,py,by rw[c b Qh];exact p,pf,q,r⟩
  .by_cases he:FT=id;.subst he;rw[hg] at hb;cases hb;rw[AO (hi.mu _ _ hg)] at hc;cases hc;exact⟨ents',clock',NA,hr⟩
   .rw[Ap (λx=>he x.symm)] at hc;have Qh:b≠g:=λhx=>by subst hx;exact he (uniq FT _ hc AH hb)
    obtain⟨DE,clock,p,q⟩:=hi.map FT f hc b hb;exact⟨DE,clock,by rw[c b Qh];exact p,q⟩
  .have:=hi.Bt b x hx;simpa using this
 .refine⟨.refl _,AH,rfl,rfl,rfl,λb hb hn=>⟨?_,rfl⟩⟩;exact c b (λhe=>by subst he;exact hn id Tu)
def Rr(hr:De C γ0 w0 γ Z U h a w){x y z:Operand}{d c b:Aa}(ha:BC C U [x,y,z]=some [d,c,b]):BR γ d (a.eval x)/\BR γ c (a.eval y)/\BR γ b (a.eval z):=by obtain⟨_,_,_,e,h1,h2,f⟩:=(D4 hr ha).Uw;simp only[Bk,C2,E5,MJ] at e;obtain⟨rfl,rfl,rfl⟩:=e;exact⟨h1,h2,f⟩
def mN{o:Oper}{t kt e:TypeId}{m k x:Operand}{n p g:Aa}{h':Ah}(ho:o.op= .insert t m k x\/o.op= .mapUpdate t m k x)(hd:o.dst=none)(ht:C.P.underlying t=some (.map kt e))(hk:C.P.underlying kt=some .string)(ha:BC C U [m,k,x]=some [n,p,g])
  (hm:Ur h n p g=some h') (hr:De C γ0 w0 γ Z U h a w):F0 C γ0 w0 o a w U h':=by
 obtain⟨h1,h2,v⟩:=Rr hr ha;have MS:∀w',(Instr.mapUpdate t (a.eval m) (a.eval k) (a.eval x)).run C.P w= .ok () w'->(execOp a.eval o).run C.P w= .ok .skip w':=λw' A4=>by rcases ho with ho|ho<;>simp[execOp,ho,A4]
 unfold Ur at hm;split at hm
 .rename_i id s;obtain⟨b,hb,gh⟩:=h1;have c:a.eval k= .string ⟨⟨s⟩⟩:=h2;split at hm
  .rename_i es Sp;cases hp:O6 s g es with
   |none=>rw[hp] at hm;cases hm
   |some Vp=>
    rw[hp] at hm;cases hm;obtain⟨DE,clock,hw,u,hB⟩:=hr.D8.map id es Sp b hb;have gi:(Instr.checkKey false 10000 kt (.string ⟨⟨s⟩⟩)).run C.P w= .ok () w:=MapKept.run_checkKey (k:= .string ⟨⟨s⟩⟩) hk (by simp[MapKept.IsKey]) false 9999;rcases xB v (i:=0) u hp with⟨f,l⟩|⟨j,en,f,l,r,q⟩
    .have A4:(Instr.mapUpdate t (a.eval m) (a.eval k) (a.eval x)).run C.P w= .ok () {w with heap:=w.heap.setIfInBounds b (.map (DE.push {key:= .string ⟨⟨s⟩⟩,val:=a.eval x,born:=clock}) (clock+1))}:=by rw[gh,c];simp[Instr.mapUpdate,run_underlying ht,MapKept.run_getObj_map hw,gi,MapKept.run_findKey hk f,MapKept.run_setObj_map _ hw,Result.andThen]
     obtain⟨hi,Kn⟩:=NG (Vp:=Vp) (ents':=DE.push {key:= .string ⟨⟨s⟩⟩,val:=a.eval x,born:=clock}) (clock':=clock+1) hr.D8 Sp hb hw ⟨by simpa using l clock,TL hB⟩;exact F0.skip (MS _ A4) (by rw[hd];exact hr.Jd hi Kn)
    .have hj:DE[j]?=some en:=by simpa using l
     rw[BL] at f;have A4:(Instr.mapUpdate t (a.eval m) (a.eval k) (a.eval x)).run C.P w= .ok () {w with heap:=w.heap.setIfInBounds b (.map (DE.modify j λe=>{e with key:= .string ⟨⟨s⟩⟩,val:=a.eval x}) clock)}:=by rw[gh,c];simp[Instr.mapUpdate,run_underlying ht,MapKept.run_getObj_map hw,gi,MapKept.run_findKey hk f,hj,r,MapKept.run_keyThatStays (d:= .string) (k:= .string ⟨⟨s⟩⟩) (by simp[MapKept.IsKey]),MapKept.run_setObj_map _ hw,Result.andThen]
     obtain⟨hi,Kn⟩:=NG (Vp:=Vp) (ents':=DE.modify j λe=>{e with key:= .string ⟨⟨s⟩⟩,val:=a.eval x}) (clock':=clock) hr.D8 Sp hb hw ⟨by simpa using q,UB hB λ_=>rfl⟩;exact F0.skip (MS _ A4) (by rw[hd];exact hr.Jd hi Kn)
  .cases hm
 .cases hm
def qt{o:Oper}{t:TypeId}(ho:o.op= .makeMap t none)(hr:De C γ0 w0 γ Z U h a w):F0 C γ0 w0 o a w (U.put o.dst (.val (.map (some h.length)))) (h++[.map []]):=by
 obtain⟨hi,ha⟩:=GQ hr.D8 (.map #[] 0) (.map []) none (.inr ⟨rfl,rfl,rfl⟩);have A4:(Instr.makeMap t none).run C.P w= .ok (.map (some w.heap.size)) (w.alloc (.map #[] 0)):=by simp[Instr.makeMap]
 exact F0.value (by simp only[execOp,ho];exact DK A4) ((hr.Jd hi ha).put λ_ _=>⟨w.heap.size,by simp[Gh.B0],rfl⟩)
def Lf(key elem:TypeId)(index:Value)(commaOk:Bool)(es:Array MapEntry):Sem Value:=do
 Instr.checkKey es.isEmpty 10000 key index
 let(v,ok)<-match<-Instr.findKey key index es.toList with
  |some (_,v)=>pure (v,true)
  |none=>pure (<-zeroValue elem,false)
 pure (if commaOk then .tuple #[v,.bool ok] else v)
def qu{o:Oper}{t kt e:TypeId}{m k:Operand}{d f z r:Aa}{ok:Bool}(ho:o.op= .lookup t m k ok)(ht:C.P.underlying t=some (.map kt e))(hk:C.P.underlying kt=some .string)(hz:Hc C.P e=some z)(ha:BC C U [m,k]=some [d,f])(hm:Us h z ok d f=some r)(hr:De C γ0 w0 γ Z U h a w):
  F0 C γ0 w0 o a w (U.put o.dst (.val r)) h:=by
 obtain⟨_,_,e0,h1,h2⟩:=Fg hr ha;cases e0;obtain⟨l,ng,g⟩:=Ia hz;have HG:∀(es:Array MapEntry) (q:Option Aa),(Instr.lookup t (a.eval m) (a.eval k) ok).run C.P w=(Lf kt e (a.eval k) ok es).run C.P w->
   ∀s,a.eval k= .string ⟨⟨s⟩⟩->(match q with|none=>Instr.findNow .string (.string ⟨⟨s⟩⟩) es.toList 0=some none|some v=>∃(j:Nat) (e:MapEntry),Instr.findNow .string (.string ⟨⟨s⟩⟩) es.toList 0=some (some (0+j,e.val))/\BR γ v e.val)->
   (match q with|some v=>if ok then Aa.tuple [v,.bool true] else v|none=>if ok then .tuple [z,.bool false] else z)=r->F0 C γ0 w0 o a w (U.put o.dst (.val r)) h:=by
  intro es q Sp s Î hq UA;have gi:(Instr.checkKey es.isEmpty 10000 kt (.string ⟨⟨s⟩⟩)).run C.P w= .ok () w:=MapKept.run_checkKey (k:= .string ⟨⟨s⟩⟩) hk (by simp[MapKept.IsKey]) es.isEmpty 9999;have A4:∃v,(Instr.lookup t (a.eval m) (a.eval k) ok).run C.P w= .ok v w/\BR γ r v:=by
   cases q with
   |none=>
    refine⟨if ok then .tuple #[l,.bool false] else l,?_,?_⟩;.rw[Sp,Î];unfold Lf;simp only[Sem.run_bind,Result.andThen_ok,gi,MapKept.run_findKey hk hq,g,Sem.run_bind,Sem.run_pure]
    .rw[<-UA];have c:=Fx (γ:=γ) ng;cases ok with
     |true=>exact⟨_,rfl,_,_,rfl,c,_,_,rfl,rfl,rfl⟩
     |false=>exact c
   |some v=>
    obtain⟨j,en,p,n⟩:=hq;refine⟨if ok then .tuple #[en.val,.bool true] else en.val,?_,?_⟩;.rw[Sp,Î];unfold Lf;simp only[Sem.run_bind,Result.andThen_ok,gi,MapKept.run_findKey hk p,Sem.run_bind,Sem.run_pure]
    .rw[<-UA];cases ok with
     |true=>exact⟨_,rfl,_,_,rfl,n,_,_,rfl,rfl,rfl⟩
     |false=>exact n
  obtain⟨v,A4,wZ⟩:=A4;exact F0.value (by simp only[execOp,ho];exact DK A4) (hr.put λ_ _=>wZ)
 unfold Us at hm;cases hf:WQ h d f with
 |none=>rw[hf] at hm;cases hm
 |some q=>
  rw[hf] at hm;simp only[B5,BD] at hm;unfold WQ at hf;split at hf;.rename_i s;cases hf;exact HG #[] none (by rw[show a.eval m=_ from h1];simp only[Instr.lookup,Lf,Sem.run_bind,run_underlying ht,Result.andThen_ok,Sem.run_pure];rfl) s h2 rfl hm
  .rename_i id s;obtain⟨b,hb,gh⟩:=h1;split at hf;.rename_i es Sp;obtain⟨DE,clock,hw,u,_⟩:=hr.D8.map id es Sp b hb;exact HG DE q (by rw[gh];simp only[Instr.lookup,Lf,Sem.run_bind,run_underlying ht,MapKept.run_getObj_map hw,Result.andThen_ok,Sem.run_pure];rfl) s h2 (mM (i:=0) u hf) hm
   .cases hf
  .cases hf
def Xu{size:Nat}{v:Aa}(h:Od size v=true):v= .slnil\/v= .E4 size\/v= .sl size []:=by
 unfold Od at h;split at h;.exact .inl rfl
 .exact .inr (.inl (by simpa using h))
 .exact .inr (.inr (by simpa using h))
 .cases h
def gj{o:Oper}{c:Call}{t t' e:TypeId}{n b:Nat}{s x:Operand}{v u r:Aa}{h':Ah}(ho:o.op= .call c)(hc:c.callee= .builtin .append)(h0:c.argTypes[0]?=some t)(h1:c.argTypes[1]?=some t')(ER:c.args.toList=[s,x])(ht:C.P.underlying t=some (.slice e))
  (Gm:(∃H,C.P.underlying t'=some (.slice H))\/C.P.underlying t'=some .string) (Lb:B4 C.P e=some (n+1)) (qm:Ki C.P e=some (b+1)) (FI:Ln C U s=true) (lL:Mk C.P e=true) (hv:BC C U [s,x]=some [v,u])
  (hp:Jj h (n+1) (b+1) v u=some (h',r)) (hr:De C γ0 w0 γ Z U h a w):F0 C γ0 w0 o a w ((U.DS (Dq U s)).put o.dst (.val r)) h':=by
 obtain⟨i,z,hi,hz,dD⟩:=Lt lL;have QK:=J2 Lb hi;have G:=L1 qm hi;obtain⟨_,_,e0,hvs,qG⟩:=Fg hr hv;cases e0;have Ä:E8 C U s=some v:=by
  unfold BC at hv;split at hv;.rename_i p ps J L;cases hv;exact J
  .cases hv
 have Je:Od (n+1) v=true/\((∃AD,HR (n+1) (b+1) .slnil u=some (.sl (n+1) AD)/\AD≠[]/\u= .sl (n+1) AD/\AD.length*(b+1)<=AS/\h'=h++[.cells AD.flatten]/\r= .Cs h.length 0 AD.length (n+1))\/((u= .slnil\/(∃B,u= .E4 B)\/∃B,u= .sl B [])/\h'=h/\r=v)):=by
  unfold Jj at hp;split at hp
  .rename_i B AD;split at hp
   .rename_i VY;refine⟨VY,?_⟩;split at hp;.cases hp;exact .inr ⟨.inr (.inr ⟨_,rfl⟩),rfl,rfl⟩
    .rename_i hne;split at hp
     .rename_i HU;cases hp;obtain⟨rfl,hb⟩:=HU;refine .inl ⟨AD,?_,hne,rfl,hb,rfl,rfl⟩;cases AD with
      |nil=>exact absurd rfl hne
      |cons q AD=>simp only[HR,DN,BI];rw[Af hb]
     .cases hp
   .cases hp
  .split at hp;.rename_i VY;cases hp;exact⟨VY,.inr ⟨.inl rfl,rfl,rfl⟩⟩
   .cases hp
  .split at hp;.rename_i VY;simp only[Bv] at VY;cases hp;exact⟨VY.1,.inr ⟨.inr (.inl ⟨_,rfl⟩),rfl,rfl⟩⟩
   .cases hp
  .cases hp
 obtain⟨VY,Je⟩:=Je;obtain⟨F,Eo,KC,DL,m⟩:=Py hr FI Ä (U.DS (Dq U s)).length none;have KD:c.args.map a.eval=#[a.eval s,a.eval x]:=by apply HD;simp[ER]
 have MS:∀v' w',(Builtin.append_ #[t,t'] o.type #[a.eval s,a.eval x]).run C.P w= .ok v' w'->(execOp a.eval o).run C.P w= .ok (.value v') w':=λv' w' A4=>by
  have:execOp a.eval o=(do pure (Next.value (<-Builtin.append_ #[t,t'] o.type #[a.eval s,a.eval x]))):=by rw[<-KD,<-Oq (ty:=o.type) h0 h1];simp only[execOp,ho,resolve,hc];rfl
  rw[this];exact DK A4
 have xC:(a.eval s= .slice none 0 0/\v= .slnil)\/(∃g cap us y,a.eval s= .slice (some ⟨g,0,none⟩) 0 cap/\v= .sl (n+1) []/\F.Bt g=some (.tail (U.DS (Dq U s)).length none 0)/\w0.heap.size<=g/\w.heap[g]?=some (.cells us y (0,0))/\us.size=cap*(n+1)/\cap<=maxLen)\/∃g,a.eval s= .slice (some ⟨g,0,none⟩) 0 0/\v= .E4 (n+1):=by
  rcases m with(m|⟨I,m⟩)|⟨g,k,cap,us,y,I,rr,rP,JN,Tu,hB,hg,Z4,Ç,hm,K⟩
  .rw[m] at DL;exact .inl ⟨DL,m⟩
  .rcases Xu VY with qJ|qJ|qJ
   .rw[qJ] at m;cases m
   .rw[qJ] at DL;obtain⟨g,DL⟩:=DL;exact .inr (.inr ⟨g,DL,qJ⟩)
   .rw[qJ] at m;cases m
  .rcases Xu VY with qJ|qJ|qJ
   .rw[qJ] at rP;cases rP
   .rw[qJ] at rP;cases rP
   .rw[qJ] at rP;cases rP;have hk:k=0:=by rw[qJ,JN] at DL;obtain⟨A,f,mK,_⟩:=DL;simp only[Value.slice.injEq] at mK;exact mK.2.1
    subst hk;exact .inr (.inl ⟨g,cap,us,y,JN,qJ,by simpa using Tu,hB,hg,Z4,hm⟩)
 rcases Je with⟨AD,Gx,hne,D,Qk,rfl,rfl⟩|⟨D,rfl,rfl⟩
 .obtain⟨d,news,PC,KF,aAw,qF⟩:=xA (w:=w) Gm hr.D8 qG Gx;have mO:d=AD:=by
   cases d with
   |nil=>simp[DN] at PC
   |cons q d=>
    simp only[DN] at PC;split at PC;.cases PC;rfl
    .cases PC
  subst mO;have qn:=Bj.mono Eo _ _ aAw;have Km:Src C.P i.size t' (a.eval x) d.length news w:=by rw[QK];exact KF
  have OV:news.length=d.length*(n+1):=KF.newsLen;have Hm:d.flatten.length=news.length:=by rw[aAw.length]
  have hpos:0<d.length:=Dy.2 hne;have Qh:d.length<=AS:=Br (IN _ (Da b)) Qk;have JL:∀(base:Option Addr) (cap:Nat),a.eval s= .slice base 0 cap->(Builtin.firstCells i.size 0 (.slice base 0 cap)).run C.P w.drew= .ok #[] w.drew->cap<d.length->
    F0 C γ0 w0 o a w ((U.DS (Dq U s)).put o.dst (.val (.Cs h.length 0 d.length (n+1)))) (h++[.cells d.flatten]):=by
   intro base cap hs l hlt;have Fw:=run_append_grow_src (P:=C.P) w t t' o.type e i z ht hi hz base 0 cap [] l (a.eval x) d.length news Km Ab (by simp only[AS] at Qh;omega) (by rw[G,BL];exact growslice_fits hlt Qk);rw[<-hs,BL] at Fw;have Ei:=grownCap_ge w d.length cap e;have UC:(([]++news).toArray++Builtin.zeroCells z.cells (grownCap w d.length cap e-d.length)).toList.take d.flatten.length=news:=by simp only[GY,BU];rw[Hm];exact FE
   have qv:(([]++news).toArray++Builtin.zeroCells z.cells (grownCap w d.length cap e-d.length)).size=grownCap w d.length cap e*(n+1):=by simp only[Ka,B8,size_zeroCells,dD,QK,BU,OV,<-BJ];congr 1;omega
   obtain⟨E,mI,Vv,L0,Sq⟩:=KC.drew.newObj (([]++news).toArray++Builtin.zeroCells z.cells (grownCap w d.length cap e-d.length)) e (0,0) d.flatten (.inl rfl) (by rw[UC];exact qn) (by rw[UC];exact KF.one);exact F0.value (MS _ _ Fw) (L0.put λ_ _=>⟨w.heap.size,_,Vv,rfl,Ei,⟨Da n,grownCap_le_maxLen w _ _ _ (by simp only[AS] at Qh;simp only[maxLen];omega)⟩,by rw[BL,<-qv];exact Sq⟩)
  rcases xC with⟨JN,rfl⟩|⟨g,cap,us,y,JN,rfl,Tu,hB,hg,Z4,Ï⟩|⟨g,JN,rfl⟩
  rotate_left 2;.exact JL (some ⟨g,0,none⟩) 0 JN (by simpa using run_firstCells_some (P:=C.P) w.drew i.size 0 ⟨g,0,none⟩ 0 0 [] AH AH) hpos
  .exact JL none 0 JN (run_firstCells_none _ _ _ _ _) hpos
  .by_cases hroom:d.length<=cap
   .have hfit:news.length<=us.size:=by rw[OV,Z4];exact DY _ hroom
    have A4:=run_append_room_src (P:=C.P) w t t' o.type e i ht hi g 0 0 cap (a.eval x) d.length news Km Ab (λj hj=>by rw[cell_of_row w _ _ us y (0,0) hg,QK,CW Ab];rfl) (λj hj=>frozen_of_row w _ _ us y hg)
    rw[MH,BL,BL,EP news 0 us w hg Ab,<-JN] at A4;have UC:((us.toList.take 0++news++us.toList.drop (0+news.length)).toArray).toList.take d.flatten.length=news:=by simp only[Kz,BU];rw[Hm];exact FE
    obtain⟨E,mI,Vv,L0,Sq⟩:=KC.aFp Tu hB hg (us.toList.take 0++news++us.toList.drop (0+news.length)).toArray d.flatten (by rw[UC];exact qn) (by rw[UC];exact KF.one);exact F0.value (MS _ _ A4) (L0.put λ_ _=>⟨g,cap,Vv,rfl,hroom,⟨Da n,Ï⟩,by rw[Sq,BL,<-Z4];simp;omega⟩)
   .exact JL (some ⟨g,0,none⟩) cap JN (by simpa using run_firstCells_some (P:=C.P) w.drew i.size 0 ⟨g,0,none⟩ 0 cap [] AH AH) Ab
 .have KF:Src C.P i.size t' (a.eval x) 0 [] w:=by
   rcases D with rfl|⟨B,rfl⟩|⟨B,rfl⟩
   .rw[show a.eval x=_ from qG];exact⟨Gm,λ_=>rfl,run_firstCells_none w _ 0 0 0,run_firstCells_none w.drew _ 0 0 0,AH,AH⟩
   .obtain⟨g0,mK⟩:=qG;rw[mK];exact⟨Gm,λ_=>rfl,by simpa using run_firstCells_some (P:=C.P) w i.size 0 ⟨g0,0,none⟩ 0 0 [] AH AH,by simpa using run_firstCells_some (P:=C.P) w.drew i.size 0 ⟨g0,0,none⟩ 0 0 [] AH AH,AH,AH⟩
   .obtain⟨A,f,mK,_⟩:=qG;rw[mK];exact⟨Gm,λ_=>rfl,by simpa using run_firstCells_some (P:=C.P) w i.size 0 A 0 f [] AH AH,by simpa using run_firstCells_some (P:=C.P) w.drew i.size 0 A 0 f [] AH AH,AH,AH⟩
  rcases xC with⟨JN,rfl⟩|⟨g,cap,us,y,JN,rfl,Tu,hB,hg,Z4,Ï⟩|⟨g,JN,rfl⟩
  rotate_left 2;.have A4:=run_append_room_src (P:=C.P) w t t' o.type e i ht hi g 0 0 0 (a.eval x) 0 [] KF Ab AH AH;rw[<-JN] at A4;simp only[World.setCells] at A4;exact F0.value (MS _ _ A4) (KC.put λ_ _=>DL)
  .have A4:(Builtin.append_ #[t,t'] o.type #[a.eval s,a.eval x]).run C.P w= .ok (.slice none 0 0) w:=by rw[JN];have hl:=KF.len;have VZ:=KF.cells;rcases Gm with⟨H,hk⟩|hk<;>simp[Builtin.append_,run_underlying ht,run_underlying hk,sizeOf,typeInfo,hi,hl,VZ]
   exact F0.value (MS _ _ A4) (KC.put λ_ _=>rfl)
  .have A4:=run_append_room_src (P:=C.P) w t t' o.type e i ht hi g 0 0 cap (a.eval x) 0 [] KF Ab AH AH;rw[<-JN] at A4;simp only[World.setCells] at A4;exact F0.value (MS _ _ A4) (KC.put λ_ _=>DL)
def De.kill(hr:De C γ0 w0 γ Z U h a w)(id:Nat):De C γ0 w0 γ Z U (h.set id .CF) a w:=by
 have key:∀{FT:Nat} {x:Du},(h.set id .CF)[FT]?=some x->x≠ .CF->h[FT]?=some x:=λ{FT x} hx hd=>by
  by_cases he:id=FT
  .subst he;rw[aPC] at hx;simp only[BI] at hx;split at hx;.cases hx;exact absurd rfl hd
   .cases hx
  .rwa [Ap he] at hx
 exact⟨⟨hr.D8.It,λFT y Ih hy=>hr.D8.Mm FT y (key Ih hy) hy,λFT cs hc b hb=>hr.D8.cells FT cs (key hc AH) b hb,λFT es hc b hb=>hr.D8.map FT es (key hc AH) b hb,λFT b hb=>by simpa using hr.D8.mu FT b hb,hr.D8.Bt,hr.D8.sz⟩,hr.fr,hr.D0,hr.defers,hr.Hb⟩
def De.rQ(hr:De C γ0 w0 γ Z U h a w){id g:Nat}{cs:List Aa}(hcs:h[id]?=some (.cells cs))(hg:γ.mu id=some g){us:Array Value}{e:TypeId}{fr:Nat×Nat}(hw:w.heap[g]?=some (.cells us e fr))(Vw:γ.sz g=some us.size)(DR:Array Value)(Ha:List Aa)(Z4:DR.size=us.size)(wU:TG fr DR.size)
  (hv:Bj γ Ha (DR.toList.take Ha.length)) (h1:∀u∈DR.toList.take Ha.length,u.oneCell'=true):∃γ',γ.le γ'/\γ'.mu h.length=some g/\De C γ0 w0 γ' Z U (h.set id .CF++[.cells Ha]) a (w.setRow g DR)/\γ'.sz g=some us.size:=by
 obtain⟨i,p,Tu⟩:=hr.D8.Mm id _ hcs AH;rw[hg] at p;cases p;have gl:id<h.length:=hr.D8.mu _ _ hg;have d:γ.mu h.length=none:=by
  cases hc:γ.mu h.length with
  |none=>rfl
  |some y=>exact absurd (hr.D8.mu _ y hc) (Dj _)
 have uniq:∀FT x,h[FT]?=some x->x≠ .CF->γ.mu FT=some g->FT=id:=λFT x hx c hm=>by obtain⟨b',p,q⟩:=hr.D8.Mm FT x hx c;rw[hm] at p;cases p;rw[Tu] at q;cases q;rfl
 have Eo:γ.le (γ.B0 g h.length (some us.size)):=⟨λ_ _ _ hv=>hv,λFT b hm=>by
  have:FT≠h.length:=λhe=>by rw[he,d] at hm;cases hm
  simp only[Gh.B0,Ad this];exact hm,λb n hm=>by
  by_cases he:b=g;.subst he;rw[Vw] at hm;cases hm;simp[Gh.B0]
  .simp only[Gh.B0,Ad he];exact hm⟩
 have old:∀{FT:Nat} {x:Du},(h.set id .CF++[Du.cells Ha])[FT]?=some x->x≠ .CF->FT≠h.length->h[FT]?=some x/\FT≠id:=λ{FT x} hx hd hne=>by
  have hlt:FT<(h.set id .CF).length:=by rw[Al] at hx;obtain⟨hl,_⟩:=hx;simp at hl⊢;omega
  rw[Ai hlt] at hx;by_cases he:id=FT;.subst he;rw[AO (by simpa using hlt)] at hx;cases hx;exact absurd rfl hd
  .rw[Ap he] at hx;exact⟨hx,λh=>he h.symm⟩
 have aKL:Hn (γ.B0 g h.length (some us.size)) (h.set id .CF++[.cells Ha]) (w.setRow g DR):=by
  refine⟨λb o v hb=>?_,λFT y Ih hy=>?_,λFT Sr hc b hb=>?_,λFT es hc b hb=>?_,λFT b hb=>?_,λb y hy=>?_,λb n hb=>?_⟩
  .obtain⟨p,q,r⟩:=hr.D8.It b o v hb;have Oh:b≠g:=λhe=>by subst he;rw[Tu] at r;rcases r with r|⟨_,_,_,r,_⟩<;>cases r
   exact⟨by rw[CV (setRow_other w g b DR Oh)];exact p,q,by simp only[Gh.B0,Ad Oh];exact r⟩
  .by_cases he:FT=h.length;.exact⟨g,by simp[Gh.B0,he],by simp[Gh.B0,he]⟩
   .obtain⟨gm,hne⟩:=old Ih hy he;obtain⟨b,p,q⟩:=hr.D8.Mm FT y gm hy;have Oh:b≠g:=λhx=>by subst hx;exact hne (uniq FT y gm hy p)
    exact⟨b,by simp only[Gh.B0,Ad he];exact p,by simp only[Gh.B0,Ad Oh];exact q⟩
  .by_cases he:FT=h.length;.subst he;simp[Gh.B0] at hb;subst hb;rw[Bd AH] at hc;simp at hc;subst hc;exact⟨DR,e,fr,setRow_heap w g us DR e fr hw,wU,Bj.mono Eo _ _ hv,h1⟩
   .simp only[Gh.B0,Ad he] at hb;obtain⟨IZ,hne⟩:=old hc AH he;have Oh:b≠g:=λhx=>by subst hx;exact hne (uniq FT _ IZ AH hb)
    obtain⟨qX,f,py,p,pf,q,r⟩:=hr.D8.cells FT Sr IZ b hb;exact⟨qX,f,py,by rw[setRow_other w g b DR Oh];exact p,pf,Bj.mono Eo _ _ q,r⟩
  .by_cases he:FT=h.length;.subst he;rw[Bd AH] at hc;simp at hc
   .simp only[Gh.B0,Ad he] at hb;obtain⟨IZ,hne⟩:=old hc AH he;have Oh:b≠g:=λhx=>by subst hx;exact hne (uniq FT _ IZ AH hb)
    obtain⟨DE,clock,p,q⟩:=hr.D8.map FT es IZ b hb;exact⟨DE,clock,by rw[setRow_other w g b DR Oh];exact p,q.mono Eo⟩
  .by_cases he:FT=h.length;.simp[he]
   .simp only[Gh.B0,Ad he] at hb;have:=hr.D8.mu FT b hb;simp;omega
  .by_cases Oh:b=g;.subst Oh;have:=hr.D8.Bt _ _ Tu;simpa[World.setRow] using this
   .simp only[Gh.B0,Ad Oh] at hy;have:=hr.D8.Bt b y hy;simpa[World.setRow] using this
  .by_cases he:b=g;.subst he;simp only[Gh.B0,BI] at hb;cases hb;exact⟨⟨DR,e,fr,setRow_heap w b us DR e fr hw,Z4⟩,.inr ⟨h.length,by simp[Gh.B0]⟩⟩
   .simp only[Gh.B0,Ad he] at hb⊢;obtain⟨p,r⟩:=hr.D8.sz b n hb;exact⟨by rw[setRow_other w g b DR he];exact p,r⟩
 refine⟨_,Eo,by simp[Gh.B0],hr.Jd aKL ⟨Eo,by simp[World.setRow],rfl,rfl,rfl,λb hb hn=>?_⟩,by simp[Gh.B0]⟩;have Oh:b≠g:=λhe=>by subst he;exact hn id Tu
 exact⟨setRow_other w g b DR Oh,by simp only[Gh.B0,Ad Oh]⟩
def qw{o:Oper}{c:Call}{t t' e:TypeId}{n b:Nat}{s x:Operand}{v u r:Aa}{h':Ah}(ho:o.op= .call c)(hc:c.callee= .builtin .append)(h0:c.argTypes[0]?=some t)(h1:c.argTypes[1]?=some t')(ER:c.args.toList=[s,x])(ht:C.P.underlying t=some (.slice e))
  (Gm:(∃N,C.P.underlying t'=some (.slice N))\/C.P.underlying t'=some .string) (Lb:B4 C.P e=some (n+1)) (qm:Ki C.P e=some (b+1)) (lL:Mk C.P e=true) (hv:BC C U [s,x]=some [v,u])
  (hp:Fw h (n+1) (b+1) v u=some (h',r)) (hr:De C γ0 w0 γ Z U h a w):F0 C γ0 w0 o a w (U.put o.dst (.val r)) h':=by
 obtain⟨i,z,hi,hz,dD⟩:=Lt lL;have QK:=J2 Lb hi;have J:=L1 qm hi;obtain⟨_,_,e0,hvs,qG⟩:=Fg hr hv;cases e0;have KD:c.args.map a.eval=#[a.eval s,a.eval x]:=by apply HD;simp[ER]
 have MS:∀v' w',(Builtin.append_ #[t,t'] o.type #[a.eval s,a.eval x]).run C.P w= .ok v' w'->(execOp a.eval o).run C.P w= .ok (.value v') w':=λv' w' A4=>by
  have:execOp a.eval o=(do pure (Next.value (<-Builtin.append_ #[t,t'] o.type #[a.eval s,a.eval x]))):=by rw[<-KD,<-Oq (ty:=o.type) h0 h1];simp only[execOp,ho,resolve,hc];rfl
  rw[this];exact DK A4
 unfold Fw at hp;cases hq:Gp h (n+1) u with
 |none=>rw[hq] at hp;cases hp
 |some AD=>
  rw[hq] at hp;obtain⟨news,KF,VY,qF⟩:=Xq (w:=w) Gm hr.D8 qG hq;have Km:Src C.P i.size t' (a.eval x) AD.length news w:=by rw[QK];exact KF
  have OV:news.length=AD.length*(n+1):=KF.newsLen;have Hm:AD.flatten.length=news.length:=by rw[VY.length]
  cases AD with
  |nil=>
   have wV:news=[]:=Dw (by simpa using OV);subst wV;cases v with
   |slnil=>
    cases hp;have JN:a.eval s= .slice none 0 0:=hvs;have A4:(Builtin.append_ #[t,t'] o.type #[a.eval s,a.eval x]).run C.P w= .ok (.slice none 0 0) w:=by rw[JN];have hl:=Km.len;have VZ:=Km.cells;simp only[BT] at hl VZ;rcases Gm with⟨N,hk⟩|hk<;>simp[Builtin.append_,run_underlying ht,run_underlying hk,sizeOf,typeInfo,hi,hl,VZ]
    exact F0.value (MS _ _ A4) (hr.put λ_ _=>rfl)
   |E4 E=>
    simp only at hp;split at hp;.cases hp;obtain⟨g,JN⟩:=(show BR γ _ _ from hvs);have A4:=run_append_room_src (P:=C.P) w t t' o.type e i ht hi g 0 0 0 (a.eval x) 0 [] Km Ab AH AH;rw[<-JN] at A4;simp only[World.setCells,Bu] at A4;exact F0.value (MS _ _ A4) (hr.put λ_ _=>⟨g,JN⟩)
    .cases hp
   |Cs id off k E=>
    simp only at hp;split at hp;.cases hp;obtain⟨g,cap,hg,JN,Ç,m_,Vw⟩:=(show BR γ _ _ from hvs);have A4:=run_append_room_src (P:=C.P) w t t' o.type e i ht hi g off k cap (a.eval x) 0 [] Km Ab AH AH;rw[<-JN] at A4;simp only[World.setCells,Bu] at A4;exact F0.value (MS _ _ A4) (hr.put λ_ _=>⟨g,cap,hg,rfl,Ç,m_,Vw⟩)
    .cases hp
   |_=>cases hp
  |cons O l=>
   generalize hR:O::l=AD at*;have hpos:0<AD.length:=by rw[<-hR];simp
   have d:∀(h2:Ah) (base:Option Addr) (k cap:Nat) (ZA:List Aa) (olds:List Value),De C γ0 w0 γ Z U h2 a w->a.eval s= .slice base k cap->Bj γ ZA olds->olds.length=k*(n+1)->(∀q∈olds,q.oneCell'=true)->
     (Builtin.firstCells i.size k (.slice base k cap)).run C.P w.drew= .ok olds.toArray w.drew->cap<k+AD.length->(k+AD.length)*(b+1)<=AS->
     F0 C γ0 w0 o a w (U.put o.dst (.val (.Cs h2.length 0 (k+AD.length) (n+1)))) (h2++[.cells (ZA++AD.flatten)]):=by
    intro h2 base k cap ZA olds L0 hs aFr nc I f hlt Qk;have Qh:k+AD.length<=AS:=Br (IN _ (Da b)) Qk;have Fw:=run_append_grow_src (P:=C.P) w t t' o.type e i z ht hi hz base k cap olds f (a.eval x) AD.length news Km hlt (by simp only[AS] at Qh;omega) (by rw[J];exact growslice_fits hlt Qk);rw[<-hs] at Fw;have Ei:=grownCap_ge w (k+AD.length) cap e;have f_:(olds++news).length=(k+AD.length)*(n+1):=by rw[Av,nc,OV,BJ]
    have lJ:(ZA++AD.flatten).length=(olds++news).length:=by rw[Av,Av,aFr.length,Hm]
    have qv:((olds++news).toArray++Builtin.zeroCells z.cells (grownCap w (k+AD.length) cap e-(k+AD.length))).size=grownCap w (k+AD.length) cap e*(n+1):=by simp only[Ka,B8,size_zeroCells,dD,QK,f_,<-BJ];congr 1;omega
    have UC:((olds++news).toArray++Builtin.zeroCells z.cells (grownCap w (k+AD.length) cap e-(k+AD.length))).toList.take (ZA++AD.flatten).length=olds++news:=by simp only[GY];rw[lJ];exact FE
    obtain⟨D,mI,Vv,H,Sq⟩:=L0.drew.newObj ((olds++news).toArray++Builtin.zeroCells z.cells (grownCap w (k+AD.length) cap e-(k+AD.length))) e (0,0) (ZA++AD.flatten) (.inl rfl) (by rw[UC];exact aFr.append VY) (by rw[UC];intro q hq;exact(Ax.1 hq).elim (I q) (KF.one q))
    exact F0.value (MS _ _ Fw) (H.put λ_ _=>⟨w.heap.size,_,Vv,rfl,Ei,⟨Da n,grownCap_le_maxLen w _ _ _ (by simp only[AS] at Qh;simp only[maxLen];omega)⟩,by rw[BL,<-qv];exact Sq⟩)
   cases v with
   |slnil=>
    have JN:a.eval s= .slice none 0 0:=hvs;rw[<-hR] at hp;simp only at hp;rw[hR] at hp;split at hp;.rename_i Qk;cases hp;have:=d h none 0 0 [] [] hr JN rfl AH AH (run_firstCells_none _ _ _ _ _) Ab (by simpa using Qk);simpa using this
    .cases hp
   |E4 E=>
    obtain⟨g,JN⟩:=(show BR γ _ _ from hvs);rw[<-hR] at hp;simp only at hp;rw[hR] at hp;split at hp;.rename_i Qk;cases hp;have:=d h (some ⟨g,0,none⟩) 0 0 [] [] hr JN rfl AH AH (by simpa using run_firstCells_some (P:=C.P) w.drew i.size 0 ⟨g,0,none⟩ 0 0 [] AH AH) Ab (by simpa using Qk.2);simpa using this
    .cases hp
   |Cs id off k E=>
    rw[<-hR] at hp;simp only at hp;rw[hR] at hp;split at hp
    .rename_i cs hcs;split at hp
     .rename_i G;subst G;obtain⟨g,cap,hg,JN,Ç,m_,Vw⟩:=(show BR γ _ _ from hvs);obtain⟨us,M,fr,m,pf,B,A⟩:=hr.D8.cells id cs hcs g hg;obtain⟨⟨mz,S,R,K,F⟩,_⟩:=hr.D8.sz g _ Vw;rw[m] at K;cases K;have lK:cs.length<=us.size:=by have:=B.length;simp at this;omega
      have ND:∀j,(⟨g,off,none⟩:Addr).add j=⟨g,off+j,none⟩:=λj=>by unfold Addr.add;split<;>simp_all
      have p:∀o,o<us.size->w.frozen? ⟨g,o,none⟩=false:=λo ho=>by
       simp only[World.frozen?,m];rcases pf with rfl|wU
       .simp
       .simp;omega
      have room:k+AD.length<=cap->(Builtin.append_ #[t,t'] o.type #[a.eval s,a.eval x]).run C.P w= .ok (.slice (some ⟨g,off,none⟩) (k+AD.length) cap) (w.setRow g (us.toList.take (off+k*(n+1))++news++us.toList.drop (off+k*(n+1)+news.length)).toArray)/\off+k*(n+1)+news.length<=us.size:=by
       intro hroom;have hfit:off+k*(n+1)+news.length<=us.size:=by rw[OV,F,RP,<-BJ];exact Nat.add_le_add_left (DY _ hroom) _
       have A4:=run_append_room_src (P:=C.P) w t t' o.type e i ht hi g off k cap (a.eval x) AD.length news Km hroom (λj hj=>by rw[cell_of_row w _ _ us M fr m,QK,CW Ab];rfl) (λj hj=>by rw[QK];exact p _ Ab)
       rw[QK,EP news _ us w m hfit,<-JN] at A4;exact⟨A4,hfit⟩
      have Zs:(k+AD.length)*(n+1)=k*(n+1)+AD.length*(n+1):=BJ _ _ _;split at hp
      .rename_i Vx;cases hp;have hroom:k+AD.length<=cap:=by have Q:(k+AD.length)*(n+1)<=cap*(n+1):=Ab;exact Nat.le_of_mul_le_mul_right Q (Da n)
       obtain⟨A4,hfit⟩:=room hroom;have L:off+(k+AD.length)*(n+1)=off+k*(n+1)+news.length:=by rw[OV,Zs];omega
       have hcl:(cs.take (off+k*(n+1))++AD.flatten++cs.drop (off+(k+AD.length)*(n+1))).length=cs.length:=by rw[L,Av,Av,Aw,Be,Hm];omega
       have UC:((us.toList.take (off+k*(n+1))++news++us.toList.drop (off+k*(n+1)+news.length)).toArray).toList.take (cs.take (off+k*(n+1))++AD.flatten++cs.drop (off+(k+AD.length)*(n+1))).length=
         (us.toList.take cs.length).take (off+k*(n+1))++news++(us.toList.take cs.length).drop (off+k*(n+1)+news.length):=by
        rw[hcl];simp only[K4];exact M0 (by simpa using lK) Ab rfl
       obtain⟨V0,O8⟩:=Nz hr.D8 hcs hg m (us.toList.take (off+k*(n+1))++news++us.toList.drop (off+k*(n+1)+news.length)).toArray (cs.take (off+k*(n+1))++AD.flatten++cs.drop (off+(k+AD.length)*(n+1)))
        (by simp only[B8,Av,Aw,Be,Cf];omega)
        (by
         rcases pf with rfl|pf
         .exact .inl rfl
         .refine .inr (Br (MG ?_) pf);simp only[B8,Av,Aw,Be,Cf];omega)
        (by rw[UC,L];exact On B VY)
        (by
         rw[UC];intro q hq;rcases Ax.1 hq with hq|hq
         .rcases Ax.1 hq with hq|hq
          .exact A q (Bn hq)
          .exact KF.one q hq
         .exact A q (Bw hq))
       exact F0.value (MS _ _ A4) ((hr.Jd V0 O8).put λ_ _=>⟨g,cap,hg,rfl,hroom,m_,Vw⟩)
      .rename_i aPW;split at hp
       .rename_i HU;obtain⟨rfl,Qi,Qk⟩:=HU;cases hp;simp only[BL] at*;by_cases hroom:k+AD.length<=cap
        .obtain⟨A4,hfit⟩:=room hroom;have lJ:(cs.take (k*(n+1))++AD.flatten).length=k*(n+1)+news.length:=by rw[Av,Aw,Hm];omega
         have UC:((us.toList.take (k*(n+1))++news++us.toList.drop (k*(n+1)+news.length)).toArray).toList.take (cs.take (k*(n+1))++AD.flatten).length=(us.toList.take cs.length).take (k*(n+1))++news:=by
          rw[lJ];simp only[K4];have:(us.toList.take (k*(n+1))++news).length=k*(n+1)+news.length:=by rw[Av,Aw,Cf];omega
          rw[<-this,FE,FD,Cq Qi]
         obtain⟨D,mI,Vv,L0,Sq⟩:=hr.rQ hcs hg m (by rw[Vw,F]) (us.toList.take (k*(n+1))++news++us.toList.drop (k*(n+1)+news.length)).toArray (cs.take (k*(n+1))++AD.flatten)
          (by simp only[B8,Av,Aw,Be,Cf];omega)
          (by
           rcases pf with rfl|pf
           .exact .inl rfl
           .refine .inr (Br (MG ?_) pf);simp only[B8,Av,Aw,Be,Cf];omega)
          (by rw[UC];exact(B.take _).append VY)
          (by
           rw[UC];intro q hq;rcases Ax.1 hq with hq|hq
           .exact A q (Bn hq)
           .exact KF.one q hq)
         exact F0.value (MS _ _ A4) (L0.put λ_ _=>⟨g,cap,Vv,rfl,hroom,m_,by rw[Sq,F];simp⟩)
        .have nc:((us.toList.take cs.length).take (k*(n+1))).length=k*(n+1):=D9;have:=d (h.set id .CF) (some ⟨g,0,none⟩) k cap (cs.take (k*(n+1))) ((us.toList.take cs.length).take (k*(n+1))) (hr.kill id) JN (B.take _) nc (λq hq=>A q (Bn hq))
          (by
           rw[QK];exact run_firstCells_some w.drew _ _ _ _ _ _ nc (λj y hj=>by
            rw[ND];show w.cell? _=_;rw[cell_of_row w _ _ us M fr m];rw[Cg] at hj;split at hj
            .rw[Cg] at hj;split at hj;.simpa using hj
             .cases hj
            .cases hj)) Ab Qk
         simpa using this
       .cases hp
     .cases hp
    .cases hp
   |_=>rw[<-hR] at hp;cases hp
def mP(hi:Hn γ h w){id g off:Nat}{cs b:List Aa}{news:List Value}(hcs:h[id]?=some (.cells cs))(hg:γ.mu id=some g)(hv:Bj γ b news)(h1:∀u∈news,u.oneCell'=true)(hl:off+b.length<=cs.length):
  ∃w',(storeCells ⟨g,off,none⟩ news).run C.P w= .ok () w'/\Hn γ (h.set id (.cells (cs.take off++b++cs.drop (off+b.length)))) w'/\Lq γ w γ w':=by
 obtain⟨us,e,fr,hw,pf,d,c⟩:=hi.cells id cs hcs g hg;have OV:news.length=b.length:=hv.length;have hlt:cs.length<=us.size:=by have:=d.length;simp at this;omega
 have hs:=run_storeCells_cells (P:=C.P) g off news 0 w (λj hj=>by
  rw[cell_of_row w _ _ us e fr hw,Bu,CW Ab];rfl) (λj hj=>by
  simp only[World.frozen?,hw];rcases pf with rfl|wU
  .simp
  .simp;omega) h1
 rw[Bu,EP _ off us w hw Ab] at hs;have hcl:(cs.take off++b++cs.drop (off+b.length)).length=cs.length:=D9;have UC:((us.toList.take off++news++us.toList.drop (off+news.length)).toArray).toList.take (cs.take off++b++cs.drop (off+b.length)).length=(us.toList.take cs.length).take off++news++(us.toList.take cs.length).drop (off+news.length):=by rw[hcl];simp only[K4];exact M0 (by simpa using hlt) Ab rfl
 obtain⟨qx,ha⟩:=Nz hi hcs hg hw (us.toList.take off++news++us.toList.drop (off+news.length)).toArray (cs.take off++b++cs.drop (off+b.length))
  (by simp only[B8,Av,Aw,Be,Cf];omega)
  (by
   rcases pf with rfl|pf
   .exact .inl rfl
   .refine .inr (Br (MG ?_) pf);simp only[B8,Av,Aw,Be,Cf];omega)
  (by rw[UC,OV];exact On d hv)
  (by
   rw[UC];intro q hq;rcases Ax.1 hq with hq|hq
   .rcases Ax.1 hq with hq|hq
    .exact c q (Bn hq)
    .exact h1 q hq
   .exact c q (Bw hq))
 exact⟨_,hs,qx,ha⟩
def rR{t t' ty:TypeId}{ts:Array TypeId}{xs:Array Value}(h0:ts[0]?=some t)(h1:ts[1]?=some t'):Builtin.copy_ ts ty xs=Builtin.copy_ #[t,t'] ty xs:=by simp only[Builtin.copy_,h0];rfl
def mQ{P:Program}{t t' ty e:TypeId}{i:TypeInfo}(ht:P.underlying t=some (.slice e))(hi:P.info? e=some i){x:Value}{n:Nat}{news:List Value}(hs:Src P i.size t' x n news w){base:Option Addr}{k cap:Nat}(hk:n<=k)
  (HT:∀b,base=some b->(storeCells b news).run P w= .ok () w') (Zj:base=none->w'=w):(Builtin.copy_ #[t,t'] ty #[.slice base k cap,x]).run P w= .ok (.int .i64 n) w':=by
 have hl:=hs.len w;have hc:=hs.cells;have hm:Nat.min n k=n:=Cq hk;cases base with
 |none=>cases Zj rfl;simp[Builtin.copy_,run_underlying ht,hl,hc,sizeOf,typeInfo,hi,hm,goInt]
 |some b=>have h2:=HT b rfl;simp[Builtin.copy_,run_underlying ht,hl,hc,sizeOf,typeInfo,hi,hm,goInt,h2]
def qy{o:Oper}{c:Call}{t t' e:TypeId}{n:Nat}{s x:Operand}{v u r:Aa}{h':Ah}(ho:o.op= .call c)(hc:c.callee= .builtin .copy)(h0:c.argTypes[0]?=some t)(h1:c.argTypes[1]?=some t')(ER:c.args.toList=[s,x])(ht:C.P.underlying t=some (.slice e))
  (Gm:(∃f,C.P.underlying t'=some (.slice f))\/C.P.underlying t'=some .string) (Lb:B4 C.P e=some (n+1)) (hv:BC C U [s,x]=some [v,u])
  (hp:wG h (n+1) v u=some (h',r)) (hr:De C γ0 w0 γ Z U h a w):F0 C γ0 w0 o a w (U.put o.dst (.val r)) h':=by
 obtain⟨_,_,e0,hvs,qG⟩:=Fg hr hv;cases e0;have KD:c.args.map a.eval=#[a.eval s,a.eval x]:=by apply HD;simp[ER]
 have MS:∀v' w',(Builtin.copy_ #[t,t'] o.type #[a.eval s,a.eval x]).run C.P w= .ok v' w'->(execOp a.eval o).run C.P w= .ok (.value v') w':=λv' w' A4=>by
  have:execOp a.eval o=(do pure (Next.value (<-Builtin.copy_ #[t,t'] o.type #[a.eval s,a.eval x]))):=by rw[<-KD,<-rR (ty:=o.type) h0 h1];simp only[execOp,ho,resolve,hc];rfl
  rw[this];exact DK A4
 cases hi:C.P.info? e with
 |none=>simp[B4,hi] at Lb
 |some i=>
 have QK:=J2 Lb hi;unfold wG at hp;cases hq:Gp h (n+1) u with
 |none=>rw[hq] at hp;cases hp
 |some AD=>
  rw[hq] at hp;obtain⟨news,KF,VY,qF⟩:=Xq (w:=w) Gm hr.D8 qG hq;have Km:Src C.P i.size t' (a.eval x) AD.length news w:=by rw[QK];exact KF
  have OV:news.length=AD.length*(n+1):=KF.newsLen;have Hm:AD.flatten.length=news.length:=by rw[VY.length]
  simp only at hp;split at hp
  .split at hp;.rename_i ZB;cases hp;have JN:a.eval s= .slice none 0 0:=hvs;have A4:=mQ (t:=t) (ty:=o.type) (w:=w) (w':=w) ht hi Km (base:=none) (k:=0) (cap:=0) Ab (λ_ e=>by cases e) (λ_=>rfl);rw[<-JN] at A4;rw[ZB] at A4;exact F0.value (MS _ _ A4) (hr.put λ_ _=>rfl)
   .cases hp
  .rename_i id off k z;split at hp
   .rename_i cs hcs;split at hp;.rename_i HU;obtain⟨rfl,b,hlen⟩:=HU;cases hp;obtain⟨g,cap,hg,JN,Ç,m_,Vw⟩:=(show BR γ _ _ from hvs);have hm:=DY (n+1) b;obtain⟨w',HT,qx,d⟩:=mP (C:=C) (off:=off) hr.D8 hcs hg VY KF.one Ab;have A4:=mQ (t:=t) (ty:=o.type) (w:=w) (w':=w') ht hi Km (base:=some ⟨g,off,none⟩) (k:=k) (cap:=cap) b (λ_ e=>by cases e;exact HT) (λe=>by cases e);rw[<-JN] at A4;rw[show AD.length*(n+1)=AD.flatten.length by rw[Hm,OV]];exact F0.value (MS _ _ A4) ((hr.Jd qx d).put λ_ _=>rfl)
    .cases hp
   .cases hp
  .cases hp
def mR{t ty:TypeId}{ts:Array TypeId}{xs:Array Value}(h0:ts[0]?=some t):Builtin.clear_ ts ty xs=Builtin.clear_ #[t] ty xs:=by simp only[Builtin.clear_,h0];rfl
def gp{o:Oper}{c:Call}{t e:TypeId}{n:Nat}{s:Operand}{v z r:Aa}{h':Ah}(ho:o.op= .call c)(hc:c.callee= .builtin .clear)(h0:c.argTypes[0]?=some t)(ER:c.args.toList=[s])(ht:C.P.underlying t=some (.slice e))
  (Lb:B4 C.P e=some (n+1)) (hz:Hc C.P e=some z) (hv:BC C U [s]=some [v]) (hp:WR h (n+1) z.cells v=some (h',r)) (hr:De C γ0 w0 γ Z U h a w):F0 C γ0 w0 o a w (U.put o.dst .undef) h':=by
 obtain⟨_,e0,hvs⟩:=GR hr hv;cases e0;have KD:c.args.map a.eval=#[a.eval s]:=by apply HD;simp[ER]
 have MS:∀v' w',(Builtin.clear_ #[t] o.type #[a.eval s]).run C.P w= .ok v' w'->(execOp a.eval o).run C.P w= .ok (.value v') w':=λv' w' A4=>by
  have:execOp a.eval o=(do pure (Next.value (<-Builtin.clear_ #[t] o.type #[a.eval s]))):=by rw[<-KD,<-mR (ty:=o.type) h0];simp only[execOp,ho,resolve,hc];rfl
  rw[this];exact DK A4
 unfold WR at hp;split at hp
 .cases hp;have JN:a.eval s= .slice none 0 0:=hvs;have A4:(Builtin.clear_ #[t] o.type #[a.eval s]).run C.P w= .ok (.tuple #[]) w:=by rw[JN];simp[Builtin.clear_,run_underlying ht]
  exact F0.value (MS _ _ A4) (hr.put λ_ _=>trivial)
 .rename_i id off k E;split at hp
  .rename_i cs hcs;split at hp
   .rename_i HU;obtain⟨rfl,f,hlen⟩:=HU;cases hp;obtain⟨g,cap,hg,JN,Ç,m_,Vw⟩:=(show BR γ _ _ from hvs);obtain⟨d,ng,l⟩:=Ia hz;obtain⟨y,A⟩:=Ht (γ:=γ) (Fx ng) Ab;have dD:d.cells.size=n+1:=by have:=y.length;simp at this;omega
    have Hm:(List.replicate k z.cells).flatten.length=k*(n+1):=by rw[Hv (z:=n+1) (λr hr=>by rw[aAc hr,f]),FZ]
    have i:∀(j:Nat) (u:Value),(Builtin.zeroCells d.cells k).toList[j]?=some u->j<k*(n+1)/\d.cells.toList[j%(n+1)]?=some u:=by
     intro j u hj;have aF:j<k*(n+1):=by have:=(Al.1 hj).1;simpa[size_zeroCells,dD] using this
     refine⟨aF,?_⟩;have aB1:j%(n+1)<d.cells.size:=by rw[dD];exact Nat.mod_lt _ (Da n)
     simp only[Builtin.zeroCells,Nr,Ck] at hj;have b:(Array.range (k*d.cells.size)).toList[j]?=some j:=by simp[dD,aF]
     rw[b] at hj;simp only[B5,BD] at hj;rw[dD] at hj;rw[<-hj];simp[aB1]
    have B:Bj γ (List.replicate k z.cells).flatten (Builtin.zeroCells d.cells k).toList:=by refine Bj.Hd (by simp only[Cf,size_zeroCells,dD,Hm]) λj x u hx hu=>?_;obtain⟨aF,p⟩:=i j u hu;rw[Ij z.cells _ _ (by rw[f];exact aF),f] at hx;obtain⟨F,wW,m⟩:=y.get hx;rw[p] at wW;cases wW;exact m
    obtain⟨w',HT,qx,q⟩:=mP (C:=C) (off:=off) hr.D8 hcs hg B (λu hu=>by obtain⟨j,hj⟩:=CU hu;exact A u (Cz (i j u hj).2)) Ab
    have A4:(Builtin.clear_ #[t] o.type #[a.eval s]).run C.P w= .ok (.tuple #[]) w':=by
     rw[JN];cases k with
     |zero=>
      have D:(Builtin.zeroCells d.cells 0).toList=[]:=by simp[Builtin.zeroCells]
      rw[D] at HT;have:w'=w:=by have h2:(storeCells ⟨g,off,none⟩ []).run C.P w= .ok () w:=rfl;rw[h2] at HT;cases HT;rfl
      rw[this];simp[Builtin.clear_,run_underlying ht]
     |succ k=>simp[Builtin.clear_,run_underlying ht,l,HT]
    rw[show k*(n+1)=(List.replicate k z.cells).flatten.length from Hm.symm];exact F0.value (MS _ _ A4) ((hr.Jd qx q).put λ_ _=>trivial)
   .cases hp
  .cases hp
 .cases hp
def qz{o:Oper}{t e:TypeId}{n:Nat}{x:Operand}{lo hi:Option Operand}{v r:Aa}{as:List Aa}{h':Ah}(ho:o.op= .slice t x lo hi none)(ht:C.P.underlying t=some (.slice e))(Lb:B4 C.P e=some (n+1))
  (hv:BC C U (x::(lo.toList++hi.toList))=some (v::as)) (hp:lT h (n+1) lo.isSome hi.isSome v as=some (h',r)) (hr:De C γ0 w0 γ Z U h a w):F0 C γ0 w0 o a w (U.put o.dst (.val r)) h':=by
 have rP:=D4 hr hv;obtain⟨u,us,c,hx,q_⟩:=rP;simp only[Bk,E5] at c;obtain⟨rfl,rfl⟩:=c;unfold lT at hp;split at hp
 .rename_i id off k z;split at hp
  .rename_i cs hcs;split at hp
   .rename_i HU;obtain⟨rfl,b,aFo⟩:=HU;obtain⟨g,cap,hg,JN,Ç,m_,Vw⟩:=(show BR γ _ _ from hx);cases hb:D3 lo.isSome hi.isSome ((cs.length-off)/(n+1)) as with
    |none=>rw[hb] at hp;cases hp
    |some m=>
     obtain⟨l,q⟩:=m;rw[hb] at hp;simp only[Cm] at hp;split at hp
     .rename_i hlt;cases hp;obtain⟨us,c,fr,j,pf,i,E⟩:=hr.D8.cells id cs hcs g hg;obtain⟨⟨mz,B,s,d,D⟩,_⟩:=hr.D8.sz g _ Vw;rw[j] at d;cases d;have lK:cs.length<=us.size:=by have:=i.length;simp at this;omega
      have mS:(cs.length-off)/(n+1)<=cap:=by refine Nat.div_le_of_le_mul ?_;rw[Nat.mul_comm];omega
      have f:∀y:Option Operand,(y.map a.eval).isSome=y.isSome:=λy=>by cases y<;>rfl
      have A:(lo.map a.eval).toList++(hi.map a.eval).toList=(lo.toList++hi.toList).map a.eval:=by cases lo<;>cases hi<;>rfl
      rw[<-f lo,<-f hi] at hb;obtain⟨p,G,F⟩:=KT (P:=C.P) (w:=w) (isSlice:=true) hb (by rw[A];exact q_) mS;have NA:Instr.sliceBounds true k cap (lo.map a.eval) (hi.map a.eval) none=Instr.sliceBounds true ((cs.length-off)/(n+1)) cap (lo.map a.eval) (hi.map a.eval) none:=by
       cases hi with
       |none=>cases b
       |some y=>rfl
      have Gm:C.P.underlying t=some (.slice (C.P.elem t)):=by simp[Program.elem,ht]
      have he:C.P.elem t=e:=by simp[Program.elem,ht]
      have A4:(Instr.sliceAt t (a.eval x) (lo.map a.eval) (hi.map a.eval) none).run C.P w= .ok (.slice (some ⟨g,off+l*(n+1),none⟩) (q-l) (cap-l)) w:=by rw[JN,run_sliceAt_slice w t _ _ _ _ Gm,run_slice_any w t _ _ _ Gm,NA,p,he,Result.andThen_ok,DU Lb];show Result.ok (Value.slice (if cap=l then some ⟨g,off,none⟩ else Option.map (λq:Addr=>q.add (l*(n+1))) (some ⟨g,off,none⟩)) (q-l) (cap-l)) w=_;rw[Ad Ab];simp only[B5];unfold Addr.add;split<;>simp_all
      refine F0.value (by simp only[execOp,ho];exact DK A4) (hr.put λ_ _=>⟨g,cap-l,hg,rfl,Ab,⟨m_.1,Br (Nat.sub_le _ _) m_.2⟩,?_⟩);rw[Vw,RP,<-BJ,aKm Ab]
     .cases hp
   .cases hp
  .cases hp
 .cases hp
def rh{o:Oper}{t e:TypeId}{n:Nat}{x lo hi mx:Operand}{args:List Aa}(ho:o.op= .slice t x (some lo) (some hi) (some mx))(ht:C.P.underlying t=some (.slice e))(Lb:B4 C.P e=some (n+1))
  (hv:BC C U [x,lo,hi,mx]=some args) (hp:WS (n+1) args=true) (hr:De C γ0 w0 γ Z U h a w):F0 C γ0 w0 o a w (U.put o.dst .undef) h:=by
 have rP:=D4 hr hv;have Gm:C.P.underlying t=some (.slice (C.P.elem t)):=by simp[Program.elem,ht]
 have he:C.P.elem t=e:=by simp[Program.elem,ht]
 have HG:∀(base:Option Addr) (len cap:Nat) (kl kr f:IntKind) (l r m:Int),a.eval x= .slice base len cap->a.eval lo= .int kl l->a.eval hi= .int kr r->a.eval mx= .int f m->0<=l->l<=r->r<=m->m<=cap->F0 C γ0 w0 o a w (U.put o.dst .undef) h:=by
  intro base len cap kl kr f l r m A z y u h1 h2 d i;have A4:∃v,(Instr.sliceAt t (a.eval x) (some (a.eval lo)) (some (a.eval hi)) (some (a.eval mx))).run C.P w= .ok v w:=by
   have c:0<=m:=Ab;have b:0<=r:=Ab;have b1:∀code,(Instr.sliceBound (.int f m) cap code).run C.P w= .ok m.toNat w:=λcode=>by simp[Instr.sliceBound,asIntOf,c,i]
   have b2:∀code,(Instr.sliceBound (.int kr r) m.toNat code).run C.P w= .ok r.toNat w:=λcode=>by simp[Instr.sliceBound,asIntOf,b,GZ c,d]
   have b3:∀code,(Instr.sliceBound (.int kl l) r.toNat code).run C.P w= .ok l.toNat w:=λcode=>by simp[Instr.sliceBound,asIntOf,h1,GZ b,h2]
   rw[A,z,y,u];simp[Instr.sliceAt,Instr.slice,run_underlying ht,Instr.sliceBounds,b1,b2,b3,DU Lb]
  obtain⟨v,A4⟩:=A4;exact F0.value (by simp only[execOp,ho];exact DK A4) (hr.put λ_ _=>trivial)
 unfold WS at hp;split at hp
 .rename_i s _ l _ r _ m;obtain⟨F,q,f1,g1,E,qX,f2,g2,D,p,f3,g3,B,k,f4,j,f5⟩:=rP;subst f5;simp only[Bk,C2] at f1;subst f4;subst f3;subst f2;simp only[E5,MJ] at f1;obtain⟨rfl,rfl,rfl,rfl⟩:=f1;split at hp;.simp only[Bv,CL] at hp;obtain⟨⟨⟨⟨_,h1⟩,h2⟩,d⟩,i⟩:=hp;obtain⟨g,cap,hg,JN,Ç,_⟩:=(show BR γ _ _ from g1);exact HG _ _ _ _ _ _ _ _ _ JN (EC g2) (EC g3) (EC j) h1 h2 d Ab
  .simp only[Bv,CL] at hp;obtain⟨⟨⟨⟨_,h1⟩,h2⟩,d⟩,i⟩:=hp;obtain⟨G,cap,JN,Ç,_⟩:=(show BR γ _ _ from g1);exact HG _ _ _ _ _ _ _ _ _ JN (EC g2) (EC g3) (EC j) h1 h2 d Ab
  .cases hp
 .cases hp
def rj{o:Oper}{t:TypeId}{x:Operand}{v:Aa}{u:TypeDesc}(ho:o.op= .makeInterface t x)(ht:C.P.underlying t=some u)(hn:∀i,u≠ .interface i)(hv:BC C U [x]=some [v])(hr:De C γ0 w0 γ Z U h a w):F0 C γ0 w0 o a w (U.put o.dst (.val (.iface t v))) h:=by
 obtain⟨_,e0,hvs⟩:=GR hr hv;cases e0;have A4:(Instr.makeInterface t (a.eval x)).run C.P w= .ok (.iface t (a.eval x)) w:=by cases u<;>simp_all [Instr.makeInterface,run_underlying ht]
 exact F0.value (by simp only[execOp,ho];exact DK A4) (hr.put λ_ _=>⟨_,rfl,hvs⟩)
def Ql{n:Int}:∀{es:List (Aa×Aa)} {l:List MapEntry} {i:Nat} {r:Option (Nat×Aa)},Lp γ es l->LK n es i=some r->
  match r with
  |none=>Instr.findNow (.int .i64) (.int .i64 n) l i=some none
  |some (j,v)=>∃(e:MapEntry),Instr.findNow (.int .i64) (.int .i64 n) l i=some (some (j,e.val))/\BR γ v e.val/\i<=j/\l[j-i]?=some e/\e.key= .int .i64 n
 |[],l,i,r,b,hf=>by rw[show l=[] from b];cases hf;rfl
 |(k,v)::es,l,i,r,b,hf=>by
  obtain⟨e,l',rfl,h1,h2,m⟩:=b;cases k with
  |int q t=>
   by_cases hq:q= .i64
   .subst hq;simp only[LK] at hf;have hk:e.key= .int .i64 t:=h1;split at hf;.rename_i HT;subst HT;cases hf;exact⟨e,by simp[Instr.findNow,hk,Instr.sameNow],h2,Ag _,AH,hk⟩
    .rename_i HT;have aFs:(n==t)=false:=by simpa using HT
     have ih:=Ql (i:=i+1) m hf;cases r with
     |none=>simpa[Instr.findNow,hk,Instr.sameNow,aFs] using ih
     |some p=>obtain⟨j,v2⟩:=p;obtain⟨o,g,f,s,d,c⟩:=ih;refine⟨o,by simpa[Instr.findNow,hk,Instr.sameNow,aFs] using g,f,Ab,?_,c⟩;rw[(Ab:j-i=(j-(i+1))+1),LY];exact d
   .exfalso;cases q<;>first|exact hq rfl|(simp[LK] at hf)
  |_=>simp[LK] at hf
def rl{o:Oper}{t kt e:TypeId}{m k:Operand}{g l z r:Aa}{ok:Bool}{h':Ah}(ho:o.op= .lookup t m k ok)(ht:C.P.underlying t=some (.map kt e))(hk:C.P.underlying kt=some (.int .i64))(hz:Hc C.P e=some z)(ha:BC C U [m,k]=some [g,l])(hm:wH h z ok g l=some (h',r))(hr:De C γ0 w0 γ Z U h a w):
  F0 C γ0 w0 o a w (U.put o.dst (.val r)) h':=by
 obtain⟨_,_,e0,h1,h2⟩:=Fg hr ha;cases e0;obtain⟨f,ng,d⟩:=Ia hz;have HG:∀(es:Array MapEntry) (q:Option (Nat×Aa)),(Instr.lookup t (a.eval m) (a.eval k) ok).run C.P w=(Lf kt e (a.eval k) ok es).run C.P w->
   ∀n,a.eval k= .int .i64 n->(match q with|none=>Instr.findNow (.int .i64) (.int .i64 n) es.toList 0=some none|some (j,v)=>∃(e:MapEntry),Instr.findNow (.int .i64) (.int .i64 n) es.toList 0=some (some (j,e.val))/\BR γ v e.val/\0<=j/\es.toList[j-0]?=some e/\e.key= .int .i64 n)->
   qT z ok q=r->F0 C γ0 w0 o a w (U.put o.dst (.val r)) h:=by
  intro es q Sp n Î hq UA;have gi:(Instr.checkKey es.isEmpty 10000 kt (.int .i64 n)).run C.P w= .ok () w:=MapKept.run_checkKey (k:= .int .i64 n) hk (by simp[MapKept.IsKey]) es.isEmpty 9999;have A4:∃v,(Instr.lookup t (a.eval m) (a.eval k) ok).run C.P w= .ok v w/\BR γ r v:=by
   cases q with
   |none=>
    refine⟨if ok then .tuple #[f,.bool false] else f,?_,?_⟩;.rw[Sp,Î];unfold Lf;simp only[Sem.run_bind,Result.andThen_ok,gi,MapKept.run_findKey hk hq,d,Sem.run_bind,Sem.run_pure]
    .rw[<-UA];have c:=Fx (γ:=γ) ng;cases ok with
     |true=>exact⟨_,rfl,_,_,rfl,c,_,_,rfl,rfl,rfl⟩
     |false=>exact c
   |some p=>
    obtain⟨j,v⟩:=p;obtain⟨en,u,s,_⟩:=hq;refine⟨if ok then .tuple #[en.val,.bool true] else en.val,?_,?_⟩;.rw[Sp,Î];unfold Lf;simp only[Sem.run_bind,Result.andThen_ok,gi,MapKept.run_findKey hk u,Sem.run_bind,Sem.run_pure]
    .rw[<-UA];cases ok with
     |true=>exact⟨_,rfl,_,_,rfl,s,_,_,rfl,rfl,rfl⟩
     |false=>exact s
  obtain⟨v,A4,wZ⟩:=A4;exact F0.value (by simp only[execOp,ho];exact DK A4) (hr.put λ_ _=>wZ)
 unfold wH at hm;split at hm;.rename_i n;cases hm;exact HG #[] none (by rw[show a.eval m=_ from h1];simp only[Instr.lookup,Lf,Sem.run_bind,run_underlying ht,Result.andThen_ok,Sem.run_pure];rfl) n h2 rfl rfl
 .rename_i id n;obtain⟨b,hb,gh⟩:=h1;split at hm
  .rename_i es Sp;obtain⟨DE,clock,hw,x,_⟩:=hr.D8.map id es Sp b hb;cases hf:LK n es 0 with
   |none=>rw[hf] at hm;cases hm
   |some q=>
    rw[hf] at hm;simp only[B5,BD,Io] at hm;obtain⟨rfl,hm⟩:=hm;refine HG DE q (by rw[gh];simp only[Instr.lookup,Lf,Sem.run_bind,run_underlying ht,MapKept.run_getObj_map hw,Result.andThen_ok,Sem.run_pure];rfl) n h2 ?_ ?_
    .have:=Ql (i:=0) x hf;cases q with
     |none=>exact this
     |some p=>exact this
    .exact hm
  .cases hm
 .cases hm
def Lp.rS{k v:Aa}{e:MapEntry}(hk:BR γ k e.key)(hv:BR γ v e.val):∀{es:List (Aa×Aa)} {l:List MapEntry},Lp γ es l->Lp γ (es++[(k,v)]) (l++[e])
 |[],l,b=>by rw[show l=[] from b];exact⟨e,[],rfl,hk,hv,rfl⟩
 |(k',v')::es,l,b=>by obtain⟨d,l',rfl,h1,h2,c⟩:=b;exact⟨d,_,rfl,h1,h2,Lp.rS hk hv c⟩
def Lp.length:∀{es:List (Aa×Aa)} {l:List MapEntry},Lp γ es l->l.length=es.length
 |[],l,b=>by rw[show l=[] from b];rfl
 |(k',v')::es,l,b=>by obtain⟨d,l',rfl,h1,h2,c⟩:=b;simp[Lp.length c]
def Lp.modify{v:Aa}{u:Value}(hv:BR γ v u):∀{es:List (Aa×Aa)} {l:List MapEntry} {j:Nat} {k v0:Aa},Lp γ es l->es[j]?=some (k,v0)->Lp γ (es.set j (k,v)) (l.modify j λe=>{e with val:=u})
 |[],l,j,k,v0,b,hj=>by simp at hj
 |(k',v')::es,l,j,k,v0,b,hj=>by
  obtain⟨d,l',rfl,h1,h2,c⟩:=b;cases j with
  |zero=>cases hj;exact⟨{d with val:=u},l',AH,h1,hv,c⟩
  |succ j=>exact⟨d,l'.modify j _,AH,h1,h2,Lp.modify hv c (by simpa using hj)⟩
def mT{es:Array MapEntry}{j:Nat}{e:MapEntry}{k:Value}(hj:es[j]?=some e)(hk:e.key=k):(es.modify j λe=>{e with key:=k})=es:=by
 apply Qa;intro i;rw[Nc];split;.rename_i hi;subst hi;rw[hj];simp[<-hk]
 .rfl
def Xv{o:Oper}{t kt e:TypeId}{m k:Operand}{kA z r:Aa}{kV:Value}{d:TypeDesc}{h':Ah}{id:Nat}{es:List (Aa×Aa)}{f:Option (Option (Nat×Aa))}(ho:o.op= .mapEntry t m k)(ht:C.P.underlying t=some (.map kt e))(hk:C.P.underlying kt=some d)(n:MapKept.IsKey d kV)(hz:Hc C.P e=some z)
  (h1:BR γ (.map (some id)) (a.eval m)) (g:a.eval k=kV) (u:BR γ kA kV) (Sp:h[id]?=some (.map es))
  (hq:∀(l:List MapEntry) q,Lp γ es l->f=some q->match q with
   |none=>Instr.findNow d kV l 0=some none
   |some (j,v)=>∃(e:MapEntry),Instr.findNow d kV l 0=some (some (j,e.val))/\BR γ v e.val/\0<=j/\l[j-0]?=some e/\e.key=kV)
  (hm:(f.map λr=>match r with
   |some (i,v)=>(h,Aa.tuple [v,.int .i64 i])
   |none=>(h.set id (.map (es++[(kA,z)])),.tuple [z,.int .i64 es.length]))=some (h',r)) (hr:De C γ0 w0 γ Z U h a w):
  F0 C γ0 w0 o a w (U.put o.dst (.val r)) h':=by
 obtain⟨c,ng,s⟩:=Ia hz;obtain⟨b,hb,gh⟩:=h1;obtain⟨DE,clock,hw,x,hB⟩:=hr.D8.map id es Sp b hb;have gi:(Instr.checkKey false 10000 kt kV).run C.P w= .ok () w:=MapKept.run_checkKey (k:=kV) hk n false 9999;cases f with
 |none=>cases hm
 |some q=>
  have hq:=hq DE.toList q x rfl;cases q with
  |none=>
   simp only[B5,BD,Io] at hm;obtain⟨rfl,rfl⟩:=hm;have A4:(Instr.mapEntry t (a.eval m) (a.eval k)).run C.P w= .ok (.tuple #[c,goInt clock]) {w with heap:=w.heap.setIfInBounds b (.map (DE.push {key:=kV,val:=c,born:=clock}) (clock+1))}:=by rw[gh,g];simp[Instr.mapEntry,run_underlying ht,MapKept.run_getObj_map hw,gi,MapKept.run_findKey hk hq,s,MapKept.run_setObj_map _ hw,Result.andThen]
   obtain⟨hi,Kn⟩:=NG (Vp:=es++[(kA,z)]) (ents':=DE.push {key:=kV,val:=c,born:=clock}) (clock':=clock+1) hr.D8 Sp hb hw ⟨by have:=Lp.rS (γ:=γ) (k:=kA) (v:=z) (e:={key:=kV,val:=c,born:=clock}) u (Fx ng) x;simpa using this,TL hB⟩
   refine F0.value (by simp only[execOp,ho];exact DK A4) ((hr.Jd hi Kn).put λ_ _=>⟨_,rfl,c,_,rfl,Fx ng,_,[],rfl,?_,rfl⟩);rw[hB.1];have:=x.length;simp only[Cf] at this;rw[<-this];rfl
  |some p=>
   obtain⟨j,v⟩:=p;simp only[B5,BD,Io] at hm;obtain⟨rfl,rfl⟩:=hm;obtain⟨en,D,B,_,A,y⟩:=hq;have hj:DE[j]?=some en:=by simpa using A
   have aFt:=hB.2 j en hj;have gq:w.heap.setIfInBounds b (.map DE clock)=w.heap:=by
    apply Qa;intro i;rw[Array.getElem?_setIfInBounds];split;.rename_i hi;subst hi;have hlt:=(A8.1 hw).1;rw[Af hlt,hw]
    .rfl
   have A4:(Instr.mapEntry t (a.eval m) (a.eval k)).run C.P w= .ok (.tuple #[en.val,goInt j]) w:=by rw[gh,g];simp[Instr.mapEntry,run_underlying ht,MapKept.run_getObj_map hw,gi,MapKept.run_findKey hk D,hj,y,MapKept.run_keyThatStays (d:=d) (k:=kV) n,MapKept.run_setObj_map _ hw,Result.andThen,aFt,mT hj y,gq]
   exact F0.value (by simp only[execOp,ho];exact DK A4) (hr.put λ_ _=>⟨_,rfl,_,_,rfl,B,_,[],rfl,rfl,rfl⟩)
def rT{o:Oper}{t kt e:TypeId}{m k:Operand}{b c z r:Aa}{h':Ah}(ho:o.op= .mapEntry t m k)(ht:C.P.underlying t=some (.map kt e))(hk:C.P.underlying kt=some (.int .i64))(hz:Hc C.P e=some z)(ha:BC C U [m,k]=some [b,c])(hm:VS h z b c=some (h',r))(hr:De C γ0 w0 γ Z U h a w):
  F0 C γ0 w0 o a w (U.put o.dst (.val r)) h':=by
 obtain⟨_,_,e0,h1,h2⟩:=Fg hr ha;cases e0;unfold VS at hm;split at hm
 .rename_i id n;split at hm;.rename_i es Sp;exact Xv (kA:= .int .i64 n) (kV:= .int .i64 n) ho ht hk (by simp[MapKept.IsKey]) hz h1 h2 rfl Sp (λl q d hf=>Ql (i:=0) d hf) hm hr
  .cases hm
 .cases hm
def aH{s:An}:∀{es:List (Aa×Aa)} {l:List MapEntry} {i:Nat} {r:Option (Nat×Aa)},Lp γ es l->WT s es i=some r->
  match r with
  |none=>Instr.findNow .string (.string ⟨⟨s⟩⟩) l i=some none
  |some (j,v)=>∃(e:MapEntry),Instr.findNow .string (.string ⟨⟨s⟩⟩) l i=some (some (j,e.val))/\BR γ v e.val/\i<=j/\l[j-i]?=some e/\e.key= .string ⟨⟨s⟩⟩
 |[],l,i,r,b,hf=>by rw[show l=[] from b];cases hf;rfl
 |(k,v)::es,l,i,r,b,hf=>by
  obtain⟨e,l',rfl,h1,h2,m⟩:=b;cases k with
  |str t=>
   simp only[WT] at hf;have hk:e.key= .string ⟨⟨t⟩⟩:=h1;split at hf;.rename_i HT;subst HT;cases hf;exact⟨e,by simp[Instr.findNow,hk,Instr.sameNow,Rq],h2,Ag _,AH,hk⟩
   .rename_i HT;have ih:=aH (i:=i+1) m hf;have hne:=Xt HT;cases r with
    |none=>simpa[Instr.findNow,hk,Instr.sameNow,hne] using ih
    |some p=>obtain⟨j,v2⟩:=p;obtain⟨n,g,f,o,d,c⟩:=ih;refine⟨n,by simpa[Instr.findNow,hk,Instr.sameNow,hne] using g,f,Ab,?_,c⟩;rw[(Ab:j-i=(j-(i+1))+1),LY];exact d
  |_=>simp[WT] at hf
def rU{o:Oper}{t kt e:TypeId}{m k:Operand}{b c z r:Aa}{h':Ah}(ho:o.op= .mapEntry t m k)(ht:C.P.underlying t=some (.map kt e))(hk:C.P.underlying kt=some .string)(hz:Hc C.P e=some z)(ha:BC C U [m,k]=some [b,c])(hm:cO h z b c=some (h',r))(hr:De C γ0 w0 γ Z U h a w):
  F0 C γ0 w0 o a w (U.put o.dst (.val r)) h':=by
 obtain⟨_,_,e0,h1,h2⟩:=Fg hr ha;cases e0;unfold cO at hm;split at hm
 .rename_i id n;split at hm;.rename_i es Sp;exact Xv (kA:= .str n) (kV:= .string ⟨⟨n⟩⟩) ho ht hk (by simp[MapKept.IsKey]) hz h1 h2 rfl Sp (λl q d hf=>aH (i:=0) d hf) hm hr
  .cases hm
 .cases hm
def mU{o:Oper}{t kt e:TypeId}{m k x:Operand}{f g c r:Aa}{h':Ah}(ho:o.op= .insert t m k x\/o.op= .mapUpdate t m k x)(hd:o.dst=none)(ht:C.P.underlying t=some (.map kt e))(hk:C.P.underlying kt=some (.int .i64))(ha:BC C U [m,k,x]=some [f,g,c])
  (hm:oh h f g c=some (h',r)) (hr:De C γ0 w0 γ Z U h a w):F0 C γ0 w0 o a w U h':=by
 obtain⟨h1,h2,l⟩:=Rr hr ha;have MS:∀w',(Instr.mapUpdate t (a.eval m) (a.eval k) (a.eval x)).run C.P w= .ok () w'->(execOp a.eval o).run C.P w= .ok .skip w':=λw' A4=>by rcases ho with ho|ho<;>simp[execOp,ho,A4]
 unfold oh at hm;split at hm
 .rename_i id n;obtain⟨b,hb,gh⟩:=h1;have d:a.eval k= .int .i64 n:=h2;split at hm
  .rename_i es Sp;obtain⟨DE,clock,hw,j,hB⟩:=hr.D8.map id es Sp b hb;have gi:(Instr.checkKey false 10000 kt (.int .i64 n)).run C.P w= .ok () w:=MapKept.run_checkKey (k:= .int .i64 n) hk (by simp[MapKept.IsKey]) false 9999;split at hm
   .rename_i hf;cases hm;have hq:=Ql (i:=0) j hf;have A4:(Instr.mapUpdate t (a.eval m) (a.eval k) (a.eval x)).run C.P w= .ok () {w with heap:=w.heap.setIfInBounds b (.map (DE.push {key:= .int .i64 n,val:=a.eval x,born:=clock}) (clock+1))}:=by rw[gh,d];simp[Instr.mapUpdate,run_underlying ht,MapKept.run_getObj_map hw,gi,MapKept.run_findKey hk hq,MapKept.run_setObj_map _ hw,Result.andThen]
    obtain⟨hi,Kn⟩:=NG (Vp:=es++[(.int .i64 n,c)]) (ents':=DE.push {key:= .int .i64 n,val:=a.eval x,born:=clock}) (clock':=clock+1) hr.D8 Sp hb hw ⟨by have:=Lp.rS (γ:=γ) (k:= .int .i64 n) (v:=c) (e:={key:= .int .i64 n,val:=a.eval x,born:=clock}) rfl l j;simpa using this,TL hB⟩
    exact F0.skip (MS _ A4) (by rw[hd];exact hr.Jd hi Kn)
   .cases hm
  .cases hm
 .cases hm
def dG{es:Array MapEntry}(hB:∀(i:Nat) (e:MapEntry),es[i]?=some e->e.born=i){j:Nat}{e:MapEntry}(hj:es[j]?=some e):es.findIdx? (λe=>(e.born:Int)==(j:Int))=some j:=by
 rw[Array.findIdx?_eq_some_iff_getElem];obtain⟨hl,he⟩:=A8.1 hj;refine⟨hl,?_,λi hi=>?_⟩;.have:=hB j _ (CW hl);simp[this]
 .have:=hB i _ (CW Ab);simp[this];omega
def rV{o:Oper}{t:TypeId}{m s x:Operand}{f vs c r:Aa}{h':Ah}(ho:o.op= .entryStore t m s x)(hd:o.dst=none)(ha:BC C U [m,s,x]=some [f,vs,c])(hm:VT h f vs c=some (h',r))(hr:De C γ0 w0 γ Z U h a w):F0 C γ0 w0 o a w U h':=by
 obtain⟨h1,h2,i⟩:=Rr hr ha;have MS:∀w',(Instr.entryStore t (a.eval m) (a.eval s) (a.eval x)).run C.P w= .ok () w'->(execOp a.eval o).run C.P w= .ok .skip w':=λw' A4=>by simp[execOp,ho,A4]
 unfold VT at hm;split at hm
 .rename_i id n;obtain⟨b,hb,gh⟩:=h1;have JN:a.eval s= .int .i64 n:=h2;split at hm
  .rename_i es Sp;split at hm
   .rename_i hn;split at hm
    .rename_i kk v0 hk;cases hm;obtain⟨DE,clock,hw,g,hB⟩:=hr.D8.map id es Sp b hb;have hlen:=g.length;have hlt:=(Al.1 hk).1;have d:∃en,DE[n.toNat]?=some en:=⟨DE[n.toNat]'(by simp at hlen;omega),CW _⟩;obtain⟨en,hj⟩:=d;have wV:((n.toNat:Nat):Int)=n:=Ab;have aFu:=dG hB.2 hj;rw[wV] at aFu;have A4:(Instr.entryStore t (a.eval m) (a.eval s) (a.eval x)).run C.P w= .ok () {w with heap:=w.heap.setIfInBounds b (.map (DE.modify n.toNat λe=>{e with val:=a.eval x}) clock)}:=by rw[gh,JN];simp[Instr.entryStore,MapKept.run_getObj_map hw,asInt,asIntOf,aFu,MapKept.run_setObj_map _ hw,Result.andThen]
     obtain⟨hi,Kn⟩:=NG (Vp:=es.set n.toNat (kk,c)) (ents':=DE.modify n.toNat λe=>{e with val:=a.eval x}) (clock':=clock) hr.D8 Sp hb hw ⟨by have:=Lp.modify i g hk;simpa using this,UB hB λ_=>rfl⟩
     exact F0.skip (MS _ A4) (by rw[hd];exact hr.Jd hi Kn)
    .cases hm
   .cases hm
  .cases hm
 .cases hm
end
end Go.Am
end
section
section
namespace Go.Am
open Go
section
variable{C:F8}{γ0 γ γ':Gh}{w0 w w':World}{O:Nat->Nat}{U U':BV}{h h':Ah}{a:Act}{fid:FuncId}{ops:List Oper}
def F0.wp{o:Oper}{K:Act->World->Prop}{Q:Exit->Act->World->Prop}(hs:F0 C γ0 w0 o a w U' h')(b:∀γ' c a' w',De C γ0 w0 γ' c U' h' a' w'->K a' w'):o.wp C.P a w K Q:=by
 obtain⟨γ',c,w',⟨v,he,hr⟩|⟨he,hr⟩⟩:=hs;.exact Jt he (b _ _ _ _ hr)
 .exact qZ he (b _ _ _ _ hr)
def ZC{P:Program}{op:BinOp}{t:TypeId}{p:RZ}(hp:Qf P op t=some p):p.still=true:=by
 have KD:∀neg u,Tz P t neg u=some p->p.still=true:=by
  intro neg u h;unfold Tz at h;split at h;.cases h;rfl
  .split at h
   .cases hf:Pp P 20 t with
    |none=>rw[hf] at h;cases h
    |some k=>rw[hf] at h;cases h;rfl
   .cases h
  .split at h<;>cases h;rfl
  .cases h;rfl
  .cases h;rfl
  .cases h;rfl
  .cases h
 unfold Qf at hp;split at hp;.cases hp;rfl
 .cases hp;rfl
 .split at hp;.exact KD _ _ hp
  .exact KD _ _ hp
  .cases hp
 .cases hp
def NH{P:Program}{t:TypeId}{f off:Nat}{sh:Option Nat}(hf:Iy P t f=some (off,sh))(b o:Nat):(Instr.fieldAt t (.pointer (some ⟨b,o,none⟩)) f).run P w= .ok (.pointer (some ⟨b,o+off,none⟩)) w:=by
 unfold Iy at hf;split at hf
 .rename_i fs wW;split at hf
  .rename_i fd wX;split at hf;.rename_i n c h1 h2;cases hf;simp[Instr.fieldAt,run_underlying wW,wX,Instr.sureAddr,fieldPlace,DU h1,Addr.add_lit]
   .cases hf
  .cases hf
 .cases hf
def Xw(hr:De C γ0 w0 γ O U h a w){s ver:Nat}{cs:List Aa}{ow:List Nat}(hs:Eg C U (.tmp s)=some (.box ver cs ow)):a.eval (.tmp s)= .pointer (some ⟨O s,0,none⟩):=by have h0:=Sd hr s;rw[He hs] at h0;exact h0.1
def UD(hr:De C γ0 w0 γ O U h a w){x:Operand}{s k:Nat}(hs:Eg C U x=some (.Fl s k)):a.eval x= .pointer (some ⟨O s,k,none⟩):=by obtain⟨t,h1,_⟩:=Gv hr hs;exact h1
def aI{o:Oper}{t:TypeId}{v:Aa}{d:Nat}{r:EN}{run:IT->Ah->Option Ke}(hb:Ut C fid t v d=some r)(Ge:r.NB C run (U.drop r.news) h U' h')
  (Po:∀n,C.kind fid d= .Po->v.cells.length=n->n≠0->F0 C γ0 w0 o a w ((U.drop [d]).set d (.box 0 v.cells [])) h)
  (heap:v.cells.length≠0->F0 C γ0 w0 o a w (U.put (some d) (.val (.ptr (some (h.length,0))))) (h++[.cells v.cells])):F0 C γ0 w0 o a w U' h':=by
 unfold Ut at hb;split at hb;.cases hb
 .rename_i n hn;split at hb;.cases hb
  .rename_i b;split at hb;.cases hb;obtain⟨h1,rfl,rfl⟩:=Ge;rename_i hk;exact Po n hk h1 b
   .cases hb;obtain⟨h1,rfl,rfl⟩:=Ge;exact heap Ab
def Qm{d s k:Nat}{run:IT->Ah->Option Ke}(Ge:(EN.pure [(d,.Fl s k)]).NB C run (U.drop (EN.pure [(d,.Fl s k)]).news) h U' h'):U'=U.set d (.Fl s k)/\h'=h:=by obtain⟨rfl,rfl⟩:=Ge;exact⟨rfl,rfl⟩
def rq{run:IT->Ah->Option Ke}(G:Fh C run){o:Oper}{r:EN}{K:Act->World->Prop}{Q:Exit->Act->World->Prop}(hc:Gs C fid ops U o=some r)(Ge:r.NB C run (U.drop r.news) h U' h')(hr:De C γ0 w0 γ O U h a w)
  (j:∀γ' T a' w',De C γ0 w0 γ' T U' h' a' w'->K a' w'):o.wp C.P a w K Q:=by
 by_cases HT:∃p args dst Bt F,r= .op p args dst Bt F/\p.still=true
 .obtain⟨p,args,dst,Bt,F,rfl,Ð⟩:=HT
  obtain⟨L,rfl,rfl,rfl⟩:=fx hc Ð hr
  obtain⟨v,hv,rfl,rfl⟩:=Ge
  obtain⟨u,R,N⟩:=L v hv
  exact Jt R (j _ _ _ _ (hr.put λ_ _=>N))
 .have Zj:∀{p args dst},r= .op p args dst false none->p.still=false:=λ{p args dst} he=>by
   cases hp:p.still with
   |false=>rfl
   |true=>exact absurd ⟨p,args,dst,false,none,he,hp⟩ HT
  have HH:∀{p dst x},TA p dst x=some r->p.still=false:=λ{p dst x} he=>by
   obtain⟨args,_,e⟩:=D5 he
   exact Zj e
  unfold Gs at hc
  split at hc
  .rename_i x ho
   split at hc
   .rename_i d hd
    obtain⟨γ',F9⟩:=Sf hc Ge hr
    exact Jt (w':=w) (v:=a.eval x) (by simp[execOp,ho]) (j _ _ _ _ (by rw[hd];exact F9))
   .cases hc
  .rename_i x ho
   split at hc
   .rename_i d hd
    obtain⟨γ',F9⟩:=Sf hc Ge hr
    exact Jt (w':=w) (v:=a.eval x) (by simp[execOp,ho]) (j _ _ _ _ (by rw[hd];exact F9))
   .cases hc
  .rename_i c x y ho
   split at hc
   .rename_i d hcs hd
    obtain⟨γ',F9⟩:=Sf hc Ge hr
    obtain⟨s,h1,_⟩:=Gv hr hcs
    have h1:a.eval c= .bool true:=h1
    exact Jt (w':=w) (v:=a.eval x) (by simp[execOp,ho,h1,asBool]) (j _ _ _ _ (by rw[hd];exact F9))
   .rename_i d hcs hd
    obtain⟨γ',F9⟩:=Sf hc Ge hr
    obtain⟨s,h1,_⟩:=Gv hr hcs
    have h1:a.eval c= .bool false:=h1
    exact Jt (w':=w) (v:=a.eval y) (by simp[execOp,ho,h1,asBool]) (j _ _ _ _ (by rw[hd];exact F9))
   .cases HH hc
  .rename_i t ho
   split at hc
   .rename_i d z hd hz
    split at hc
    .split at hc
     .rename_i HU
      cases hc
      obtain⟨rfl,rfl⟩:=Ge
      exact(Xi ho hd hz HU.2 hr).wp j
     .cases hc
    .rename_i hk
     refine(aI (o:=o) (a:=a) (w:=w) (γ0:=γ0) (w0:=w0) hc Ge (λn h0 h1 h2=>absurd h0 (by simpa using hk)) λh1=>Xj ho hd hz h1 hr).wp j
   .cases hc
  .rename_i t x ho
   split at hc
   .rename_i d v hd hv
    exact(aI (o:=o) (a:=a) (w:=w) (γ0:=γ0) (w0:=w0) hc Ge (λn _ h1 h2=>cY ho hd hv h1 h2 hr) λh1=>cZ ho hd hv h1 hr).wp j
   .cases hc
  .split at hc
   .split at hc
    .cases HH hc
    .cases hc
   .cases hc
  .rename_i t len parts ho
   split at hc
   .rename_i e ht
    split at hc
    .rename_i n hn
     split at hc
     .rename_i HU
      split at hc
      .rename_i hlen
       cases hc
       obtain⟨v,hv,rfl,rfl⟩:=Ge
       cases hv
       exact(qk ho ht hn HU.1 HU.2 hlen.1 hr).wp j
      cases ha:BC C U (parts.toList.map (·.2)) with
      |none=>rw[ha] at hc;cases hc
      |some args=>
       rw[ha] at hc;cases hc
       obtain⟨v,hv,rfl,rfl⟩:=Ge
       exact(qj ho ht hn HU.1 HU.2 ha hv hr).wp j
     .cases hc
    .cases hc
   .cases hc
  .rename_i t x ho
   split at hc
   .rename_i d hd
    by_cases hp:∃ws,r= .pure ws
    .exact(Zy ho hd hc hp Ge hr).wp j
    .unfold LL at hc
     split at hc
     .rename_i n p ht hx
      cases hc
      obtain⟨v,hv,rfl,rfl⟩:=Ge
      have hs:=qg ho ht hx hv hr
      rw[hd] at hs
      exact hs.wp j
     .split at hc
      .simp only at hc
       split at hc<;>(cases hc;exact absurd ⟨_,rfl⟩ hp)
      .cases hc
     .split at hc
      .cases hc;exact absurd ⟨_,rfl⟩ hp
      .cases hc
     .cases hc
   .cases hc
  .rename_i t x y ho
   split at hc
   .rename_i hd
    have JO:=hc
    unfold JF at hc
    split at hc
    .rename_i n p v Lb hx hv
     cases hc
     obtain⟨aKN,rfl⟩:=Ge
     exact(fy ho hd Lb hx hv aKN hr).wp j
    .split at hc
     .cases hc
      exact(rM ho hd JO Ge hr).wp j
     .cases hc
    .cases hc
   .cases hc
  .rename_i x ho
   split at hc
   .rename_i s ver cs ow d hd hs
    cases hc
    obtain⟨rfl,rfl⟩:=Qm Ge
    have he:=Xw hr hs
    exact Jt (w':=w) (v:= .pointer (some ⟨O s,0,none⟩)) (by simp[execOp,ho,he]) (j _ _ _ _ (by rw[hd];exact hr.put (d:=some d) λ_ _=>rfl))
   .rename_i s k d hd hs
    cases hc
    obtain⟨rfl,rfl⟩:=Qm Ge
    have he:=UD hr hs
    exact Jt (w':=w) (v:= .pointer (some ⟨O s,k,none⟩)) (by simp[execOp,ho,he]) (j _ _ _ _ (by rw[hd];exact hr.put (d:=some d) λ_ _=>rfl))
   .cases HH hc
  .split at hc
   .rename_i p hp
    have Ð:=HH hc
    rw[ZC hp] at Ð
    cases Ð
   .cases hc
  .cases HH hc
  .rename_i src aKv x ho
   split at hc
   .rename_i hq
    unfold WX at hq
    cases hv:E8 C U x with
    |none=>rw[hv] at hc;cases hc
    |some v=>
     rw[hv] at hc;cases hc
     split at hq
     .cases hq
     .cases hq
     .cases hq
     .rename_i e hs hd
      split at hq
      .rename_i he
       obtain⟨v',u,h1,h2,rfl⟩:=Ge
       exact(É ho hs hd he hv h1 h2 hr).wp j
      .cases hq
     .split at hq<;>cases hq
     .cases hq
   .rename_i hq
    unfold WX at hq
    split at hq
    .cases hq
    .cases hq
    .cases hq
    .split at hq<;>cases hq
    .rename_i e hs hd
     split at hq
     .rename_i he _ _
      split at hc
      .cases hv:E8 C U x with
       |none=>rw[hv] at hc;cases hc
       |some v=>
        rw[hv] at hc;cases hc
        obtain⟨u,h1,rfl⟩:=Ge
        exact(dF ho hs hd he hv h1 hr).wp j
      .obtain⟨args,ha,rfl⟩:=D5 hc
       obtain⟨u,h1,rfl,rfl⟩:=Ge
       obtain⟨v,rfl,_⟩:=GR hr ha
       exact(È ho hs hd he ha h1 hr).wp j
     .cases hq
    .cases hq
   .rename_i p Nj Tv hq
    have Ð:=HH hc
    unfold WX at hq
    split at hq
    .cases hq;cases Ð
    .cases hq;cases Ð
    .cases hq
    .split at hq
     .cases hq;exact absurd rfl Nj
     .cases hq
    .split at hq
     .cases hq;exact absurd rfl Tv
     .cases hq
    .cases hq
   .cases hc
  .rename_i fn first captured ho
   split at hc
   .rename_i d as bs fz hd ha hb
    cases hc
    obtain⟨rfl,rfl⟩:=Ge
    exact(mJ ho hd ha hb hr).wp j
   .cases hc
  .rename_i t ho
   cases hc
   obtain⟨rfl,rfl⟩:=Ge
   exact(qt ho hr).wp j
  .rename_i t l c ho
   split at hc
   .rename_i e ht
    split at hc
    .rename_i n b z V vc hn hb hz hl VZ
     cases hc
     obtain⟨v,h1,rfl⟩:=Ge
     exact(qo ho ht hn hb hz hl VZ h1 hr).wp j
    .cases hc
   .cases hc
  .rename_i t m k x ho
   split at hc
   .rename_i kt e ht
    split at hc
    .rename_i D E I hd hk ha
     cases hc
     obtain⟨h1,rfl⟩:=Ge
     exact(mN (.inl ho) hd ht hk ha h1 hr).wp j
    .rename_i D E I hd hk ha
     cases hc
     obtain⟨v,h1,rfl⟩:=Ge
     exact(mU (.inl ho) hd ht hk ha h1 hr).wp j
    .cases hc
   .cases hc
  .rename_i t m k x ho
   split at hc
   .rename_i kt e ht
    split at hc
    .rename_i D E I hd hk ha
     cases hc
     obtain⟨h1,rfl⟩:=Ge
     exact(mN (.inr ho) hd ht hk ha h1 hr).wp j
    .rename_i D E I hd hk ha
     cases hc
     obtain⟨v,h1,rfl⟩:=Ge
     exact(mU (.inr ho) hd ht hk ha h1 hr).wp j
    .cases hc
   .cases hc
  .rename_i t m k ok ho
   split at hc
   .rename_i kt e ht
    split at hc
    .rename_i z D E hk hz ha
     cases hc
     obtain⟨v,h1,rfl,rfl⟩:=Ge
     exact(qu ho ht hk hz ha h1 hr).wp j
    .rename_i z D E hk hz ha
     cases hc
     obtain⟨v,h1,rfl⟩:=Ge
     exact(rl ho ht hk hz ha h1 hr).wp j
    .cases hc
   .cases hc
  .rename_i t x lo hi mx ho
   split at hc
   .rename_i e ht
    split at hc
    .rename_i n hn
     obtain⟨args,ha,rfl⟩:=Hu hc
     obtain⟨v,h1,rfl⟩:=Ge
     simp only[E7] at h1
     split at h1
     .rename_i J
      cases h1
      exact(rh ho ht hn ha J hr).wp j
     .cases h1
    .cases hc
   .cases hc
  .rename_i t x ho
   split at hc
   .cases hc
   .rename_i u hu ht
    obtain⟨args,ha,rfl⟩:=Hu hc
    obtain⟨v,h1,rfl⟩:=Ge
    obtain⟨y,rfl,_⟩:=GR hr ha
    cases h1
    exact(rj ho ht (λi e=>hu i e) ha hr).wp j
   .cases hc
  .rename_i t m k ho
   split at hc
   .rename_i kt e ht
    split at hc
    .rename_i z hk hz
     obtain⟨args,ha,rfl⟩:=Hu hc
     obtain⟨v,h1,rfl⟩:=Ge
     obtain⟨A,B,rfl,_,_⟩:=Fg hr ha
     exact(rT ho ht hk hz ha h1 hr).wp j
    .rename_i z hk hz
     obtain⟨args,ha,rfl⟩:=Hu hc
     obtain⟨v,h1,rfl⟩:=Ge
     obtain⟨A,B,rfl,_,_⟩:=Fg hr ha
     exact(rU ho ht hk hz ha h1 hr).wp j
    .cases hc
   .cases hc
  .rename_i t m s x ho
   split at hc
   .rename_i hd
    obtain⟨args,ha,rfl⟩:=Hu hc
    obtain⟨v,h1,rfl⟩:=Ge
    obtain⟨A,B,H,rfl⟩:∃A B H,args=[A,B,H]:=by
     have:=D4 hr ha
     cases args with
     |nil=>cases h1
     |cons A l1=>cases l1 with
      |nil=>cases h1
      |cons B S=>cases S with
       |nil=>cases h1
       |cons H l3=>cases l3 with
        |nil=>exact⟨_,_,_,rfl⟩
        |cons _ _=>cases h1
    exact(rV ho hd ha h1 hr).wp j
   .cases hc
  .rename_i t x lo hi ho
   split at hc
   .cases HH hc
   .rename_i e ht
    split at hc
    .rename_i n hn
     split at hc
     .obtain⟨args,ha,rfl⟩:=Hu hc
      obtain⟨v,h1,rfl⟩:=Ge
      cases args with
      |nil=>cases h1
      |cons y l=>exact(qz ho ht hn ha h1 hr).wp j
     .cases HH hc
    .cases hc
   .cases hc
  .rename_i t x f ho
   split at hc
   .rename_i off sh d hf hd
    split at hc
    .rename_i s ver cs ow hs
     cases hc
     obtain⟨rfl,rfl⟩:=Qm Ge
     have he:=Xw hr hs
     exact Jt (w':=w) (v:= .pointer (some ⟨O s,off,none⟩)) (by simp only[execOp,ho,he];exact EZ (by rw[NH hf];simp)) (j _ _ _ _ (by rw[hd];exact hr.put (d:=some d) λ_ _=>rfl))
    .rename_i s k hs
     cases hc
     obtain⟨rfl,rfl⟩:=Qm Ge
     have he:=UD hr hs
     exact Jt (w':=w) (v:= .pointer (some ⟨O s,k+off,none⟩)) (by simp only[execOp,ho,he];exact EZ (NH hf _ _)) (j _ _ _ _ (by rw[hd];exact hr.put (d:=some d) λ_ _=>rfl))
    .cases HH hc
   .cases hc
  .split at hc
   .cases HH hc
   .cases hc
  .split at hc
   .split at hc
    .cases HH hc
    .cases hc
   .split at hc
    .split at hc
     .cases hc
     .cases HH hc
    .cases hc
   .cases hc
  .split at hc
   .cases HH hc
   .split at hc
    .cases HH hc
    .cases hc
   .cases hc
  .cases HH hc
  .rename_i c ho
   unfold Ri at hc
   split at hc
   .split at hc
    .split at hc
     .cases HH hc
     .cases HH hc
     .cases hc
    .cases hc
   .rename_i hcl
    split at hc
    .rename_i t t' s x h0 h1 ER
     split at hc
     all_goals first
      |(cases hc;done)
      | (rename_i e _ ht Gm
         split at hc
         . rename_i n b hn hb
           split at hc
           . rename_i lL
             split at hc
             . rename_i v u ha
               split at hc
               . rename_i FI
                 split at hc
                 . cases hc
                   obtain ⟨r', q, rfl⟩ := Ge
                   exact (gj ho hcl h0 h1 ER ht (by first | exact .inl ⟨_, Gm⟩ | exact .inr Gm) hn hb FI lL ha q hr).wp j
                 . split at hc
                   . cases hc
                     obtain ⟨r', q, rfl, rfl⟩ := Ge
                     exact (mL ho hcl h0 h1 ER ht (by first | exact .inl ⟨_, Gm⟩ | exact .inr Gm) hn hb FI lL ha q hr).wp j
                   . cases hc
                     obtain ⟨r', q, rfl, rfl⟩ := Ge
                     exact (rO ho hcl h0 h1 ER ht (by first | exact .inl ⟨_, Gm⟩ | exact .inr Gm) hn hb FI lL ha q hr).wp j
               . split at hc
                 . cases hc
                   obtain ⟨r', q, rfl⟩ := Ge
                   exact (qw ho hcl h0 h1 ER ht (by first | exact .inl ⟨_, Gm⟩ | exact .inr Gm) hn hb lL ha q hr).wp j
                 . cases hc
             . cases hc
           . cases hc
         . cases hc)
    .cases hc
   .rename_i hcl
    split at hc
    .rename_i t t' s x h0 h1 ER
     split at hc
     all_goals first
      |(cases hc;done)
      | (rename_i e _ ht Gm
         split at hc
         . rename_i n hn
           obtain ⟨args, ha, rfl⟩ := Hu hc
           obtain ⟨v, q, rfl⟩ := Ge
           obtain ⟨A, B, rfl, _, _⟩ := Fg hr ha
           exact (qy ho hcl h0 h1 ER ht (by first | exact .inl ⟨_, Gm⟩ | exact .inr Gm) hn ha q hr).wp j
         . cases hc)
    .cases hc
   .rename_i hcl
    split at hc
    .rename_i t s h0 ER
     split at hc
     .rename_i e ht
      split at hc
      .rename_i n z hn hz
       obtain⟨args,ha,rfl⟩:=Hu hc
       obtain⟨v,q,rfl⟩:=Ge
       obtain⟨A,rfl,_⟩:=GR hr ha
       exact(gp ho hcl h0 ER ht hn hz ha q hr).wp j
      .cases hc
     .cases hc
    .cases hc
   .split at hc
    .cases HH hc
    .cases hc
   .split at hc
    .cases HH hc
    .cases hc
   .rename_i f hcl
    split at hc
    .rename_i hf
     split at hc
     .rename_i s i x ER
      split at hc
      .rename_i FI
       obtain⟨args,ha,rfl⟩:=Hu hc
       obtain⟨v,q,rfl⟩:=Ge
       exact Ê G ho hcl hf ER FI ha q hr λγ' v w' F9=>j _ _ _ _ F9
      .cases hc
     .cases hc
    split at hc
    rotate_left
    .cases hc
    rename_i UA
    rw[<-UA] at hcl
    cases ha:BC C U c.args.toList with
    |none=>rw[ha] at hc;cases hc
    |some args=>
     rw[ha] at hc
     simp only[B5,BD] at hc
     split at hc
     .cases hc
      obtain⟨Hm,M,h1,h2,q,rfl,rfl⟩:=Ge
      exact gd G ho hcl ha Hm h2 q hr λγ' v w' F9=>j _ _ _ _ F9
     .cases hc
      obtain⟨M,h1,rfl⟩:=Ge
      exact qq G ho hcl ha h1 hr λγ' v w' F9=>j _ _ _ _ F9
   .rename_i g hn hcl
    split at hc
    .rename_i W args hg ha
     cases hc
     obtain⟨f,args',M,h0,h1,rfl⟩:=Ge
     exact gg G ho hcl hg ha h0 h1 hr λγ' v w' F9=>j _ _ _ _ F9
    .cases hc
   .cases hc
  .cases hc
end
end Go.Am
end
section
namespace Go.Am
open Go
section
variable{C:F8}{U Z:BV}{fid:FuncId}{ops:List Oper}
def dH{x:Operand}(h:∀t,x= .tmp t->Z.at t=U.at t):Eg C Z x=Eg C U x:=by
 cases x with
 |tmp t=>simp only[Eg,h t rfl]
 |const v=>
  cases v with
  |slice a b c=>cases a<;>cases b<;>cases c<;>rfl
  |_=>rfl
 |global g=>rfl
 |func f=>rfl
def V4(C:F8)(U Z:BV)(xs:List Operand):Prop:=∀x∈xs,Eg C Z x=Eg C U x
def V4.xD{xs:List Operand}(h:∀t∈Kk xs,Z.at t=U.at t):V4 C U Z xs:=λx hx=>dH λt ht=>h t (by subst ht;exact Ch.2 ⟨_,hx,rfl⟩)
def V4.val{xs:List Operand}(h:V4 C U Z xs){x:Operand}(hx:x∈xs):E8 C Z x=E8 C U x:=by unfold E8;rw[h x hx]
def V4.KU{xs:List Operand}(h:V4 C U Z xs):∀{ys:List Operand},(∀y∈ys,y∈xs)->BC C Z ys=BC C U ys
 |[],_=>rfl
 |y::ys,hy=>by unfold BC;rw[h.val (hy y AH),h.KU λz hz=>hy z (by simp[hz])]
def V4.move{xs:List Operand}(h:V4 C U Z xs){x:Operand}(hx:x∈xs)(d:Nat)(take:Bool):KS C Z x d take=KS C U x d take:=by unfold KS;rw[h x hx]
def V4.Bt{xs:List Operand}(h:V4 C U Z xs){x:Operand}(hx:x∈xs):Ln C Z x=Ln C U x:=by unfold Ln;rw[h x hx]
def V4.DS{xs:List Operand}(h:V4 C U Z xs){x:Operand}(hx:x∈xs):Dq Z x=Dq U x:=by
 cases x with
 |tmp t=>have:=h _ hx;simp only[Eg,BD] at this;simp only[Dq,this]
 |_=>rfl
def V4.Gr{xs:List Operand}(h:V4 C U Z xs):∀{ys:List Operand},(∀y∈ys,y∈xs)->Am.Gr C Z ys=Am.Gr C U ys
 |[],_=>rfl
 |y::ys,hy=>by unfold Am.Gr;rw[h y (hy y AH),h.Gr λz hz=>hy z (by simp[hz])]
def V4.addr{xs:List Operand}(h:V4 C U Z xs){x:Operand}(hx:x∈xs)(hb:∀s∈(Oe C U x).toList,Z.at s=U.at s)(hn:Gq C U x≠none):Gq C Z x=Gq C U x:=by
 have Oa:=h x hx;cases hs:Eg C U x with
 |none=>unfold Gq at hn;rw[hs] at hn;exact absurd (by split<;>simp_all) hn
 |some sl=>
  rw[hs] at Oa;cases sl with
  |Fl s o=>
   have h1:∀J:BV,Eg C J x=some (.Fl s o)->Gq C J x=match J.at s with| .box ver cs ow=>some (.Po s o ver cs ow)|_=>none:=λJ b=>by unfold Gq;rw[b];cases x<;>rfl
   rw[h1 U hs] at hn⊢;rw[h1 Z Oa];have h2:s∈(Oe C U x).toList:=by
    unfold Oe;rw[h1 U hs];cases Qh:U.at s with
    |box ver cs ow=>simp
    |_=>rw[Qh] at hn;exact absurd rfl hn
   rw[hb s h2]
  |_=>unfold Gq;rw[hs,Oa];cases x<;>rfl
def V4.load{xs:List Operand}(h:V4 C U Z xs){x:Operand}(hx:x∈xs)(hb:∀s∈(Oe C U x).toList,Z.at s=U.at s){t:TypeId}{d:Nat}{take:Bool}{r:EN}(hc:LL C U t x d take=some r):LL C Z t x d take=some r:=by
 have hn:Gq C U x≠none:=λhe=>by unfold LL at hc;rw[he] at hc;split at hc<;>simp_all
 unfold LL at hc⊢;rw[h.addr hx hb hn];exact hc
def V4.store{xs:List Operand}(h:V4 C U Z xs){x y:Operand}(hx:x∈xs)(hy:y∈xs)(hb:∀s∈(Oe C U x).toList,Z.at s=U.at s){t:TypeId}{r:EN}(hc:JF C U t x y=some r):JF C Z t x y=some r:=by
 have hn:Gq C U x≠none:=λhe=>by unfold JF at hc;rw[he] at hc;split at hc<;>simp_all
 unfold JF at hc⊢;rw[h.addr hx hb hn,h.val hy,h.Bt hy,h.DS hy];exact hc
def V4.call{c:Call}(h:V4 C U Z c.operands.toList)(dst:Option Nat):Ri C fid Z c dst=Ri C fid U c dst:=by
 have ha:∀y∈c.args.toList,y∈c.operands.toList:=λy hy=>by unfold Call.operands;rw[GY];exact BW _ hy
 have hv:BC C Z c.args.toList=BC C U c.args.toList:=h.KU ha;unfold Ri;split;.rw[hv]
 .split
  .rename_i ER;have h1:∀{s x:Operand},c.args.toList=[s,x]->Ln C Z s=Ln C U s/\Dq Z s=Dq U s/\BC C Z [s,x]=BC C U [s,x]:=λ{s x} he=>by rw[he] at ha;exact⟨h.Bt (ha s AH),h.DS (ha s AH),h.KU λy hy=>ha y hy⟩
   obtain⟨e,d,b⟩:=h1 ER;rw[e,d,b]
  .rfl
 .split;.rename_i ER;rw[ER] at ha;rw[h.KU λy hy=>ha y hy]
  .rfl
 .split;.rename_i ER;rw[ER] at ha;rw[h.KU λy hy=>ha y hy]
  .rfl
 .rw[hv]
 .rw[hv]
 .split
  .split;.rename_i s i v ER;rw[ER] at ha;rw[h.Bt (ha v AH),h.KU λy hy=>ha y hy]
   .rfl
  .rw[hv]
 .rename_i g _ hcl;have hg:g∈c.operands.toList:=by unfold Call.operands;rw[hcl];simp
  rw[hv,h.val hg]
 .rfl
def Xx{o:Oper}{r:EN}(hc:Gs C fid ops U o=some r)(ht:∀t∈Kk o.op.operands.toList,Z.at t=U.at t)(hb:∀s∈H9 C U o,Z.at s=U.at s):Gs C fid ops Z o=some r:=by
 have h:V4 C U Z o.op.operands.toList:= .xD ht
 unfold Gs at hc⊢
 cases ho:o.op with
 |move x=>
  rw[ho] at h
  simp only[ho] at hc⊢
  have:=λd=>h.move (x:=x) I0 d
  simpa only[this] using hc
 |assign x=>
  rw[ho] at h
  simp only[ho] at hc⊢
  have:=λd=>h.move (x:=x) I0 d
  simpa only[this] using hc
 |pick c a b=>
  rw[ho] at h
  simp only[ho] at hc⊢
  have h1:=λd=>h.move (x:=a) I0 d
  have h2:=λd=>h.move (x:=b) I0 d
  rw[h c I0,h.KU (ys:=[c,a,b]) I0]
  simpa only[h1,h2] using hc
 |alloc t=>rw[ho] at hc;exact hc
 |box t x=>
  rw[ho] at h
  simp only[ho] at hc⊢
  rw[h.val (x:=x) I0]
  exact hc
 |build t parts=>
  rw[ho] at h
  simp only[ho] at hc⊢
  rw[h.KU (ys:=parts.toList.map (·.2)) I0]
  exact hc
 |buildSlice t len parts=>
  rw[ho] at h
  simp only[ho] at hc⊢
  rw[h.KU (ys:=parts.toList.map (·.2)) I0]
  exact hc
 |load t x=>
  rw[ho] at h
  simp only[ho] at hc⊢
  split at hc
  .exact h.load I0 (λs hs=>hb s (by simpa only[H9,ho] using hs)) hc
  .cases hc
 |store t x y=>
  rw[ho] at h
  simp only[ho] at hc⊢
  split at hc
  .exact h.store I0 I0 (λs hs=>hb s (by simpa only[H9,ho] using hs)) hc
  .cases hc
 |nilCheck x=>
  rw[ho] at h
  simp only[ho] at hc⊢
  have e:=h.KU (ys:=[x]) I0
  rw[h x I0]
  cases hs:Eg C U x with
  |none=>rw[hs] at hc;cases x<;>cases hd:o.dst<;>rw[hd] at hc<;>first|exact hc|(show TA _ _ (BC C Z [_])=some r;rw[e];exact hc)
  |some sl=>rw[hs] at hc;cases sl<;>cases x<;>cases hd:o.dst<;>rw[hd] at hc<;>first|exact hc|(show TA _ _ (BC C Z [_])=some r;rw[e];exact hc)
 |binOp op t x y k=>
  rw[ho] at h
  simp only[ho] at hc⊢
  rw[h.KU (ys:=[x,y]) I0]
  exact hc
 |unOp op t x=>
  rw[ho] at h
  simp only[ho] at hc⊢
  rw[h.KU (ys:=[x]) I0]
  exact hc
 |convert src dst x=>
  rw[ho] at h
  simp only[ho] at hc⊢
  rw[h.KU (ys:=[x]) I0,h.val (x:=x) I0]
  exact hc
 |makeFunc fn first captured=>
  rw[ho] at h
  simp only[ho] at hc⊢
  rw[h.KU (ys:=first.toList) (λ_ hm=>by simp[Op.operands,hm]),h.Gr (ys:=captured.toList) (λ_ hm=>by simp[Op.operands,hm])]
  exact hc
 |makeMap t r'=>
  rw[ho] at hc
  cases r' with
  |none=>exact hc
  |some _=>cases hc
 |makeSlice t l c=>
  rw[ho] at h
  simp only[ho] at hc⊢
  rw[h.val (x:=l) I0,h.val (x:=c) I0]
  exact hc
 |insert t m k v=>
  rw[ho] at h
  simp only[ho] at hc⊢
  rw[h.KU (ys:=[m,k,v]) I0]
  exact hc
 |mapUpdate t m k v=>
  rw[ho] at h
  simp only[ho] at hc⊢
  rw[h.KU (ys:=[m,k,v]) I0]
  exact hc
 |lookup t m k ok=>
  rw[ho] at h
  simp only[ho] at hc⊢
  rw[h.KU (ys:=[m,k]) I0]
  exact hc
 |slice t x lo hi mx=>
  rw[ho] at h hc
  cases mx with
  |none=>
   have e:=h.KU (ys:=x::(lo.toList++hi.toList)) (by cases lo<;>cases hi<;>simp[Op.operands])
   simp only at hc⊢
   rw[e]
   exact hc
  |some mx=>cases lo with
   |none=>cases hc
   |some lo=>cases hi with
    |none=>cases hc
    |some hi=>
     have e:=h.KU (ys:=[x,lo,hi,mx]) I0
     simp only at hc⊢
     rw[e]
     exact hc
 |makeInterface t x=>
  rw[ho] at h
  simp only[ho] at hc⊢
  rw[h.KU (ys:=[x]) I0]
  exact hc
 |mapEntry t m k=>
  rw[ho] at h
  simp only[ho] at hc⊢
  rw[h.KU (ys:=[m,k]) I0]
  exact hc
 |entryStore t m s v=>
  rw[ho] at h
  simp only[ho] at hc⊢
  rw[h.KU (ys:=[m,s,v]) I0]
  exact hc
 |fieldAddr t x f=>
  rw[ho] at h
  simp only[ho] at hc⊢
  have e:=h.KU (ys:=[x]) I0
  rw[h x I0]
  cases hf:Iy C.P t f with
  |none=>rw[hf] at hc;cases hc
  |some q=>
   rw[hf] at hc
   cases hd:o.dst with
   |none=>rw[hd] at hc;cases hc
   |some d=>
    rw[hd] at hc
    cases hs:Eg C U x with
    |none=>rw[hs] at hc;cases x<;>first|exact hc|(show TA _ _ (BC C Z [_])=some r;rw[e];exact hc)
    |some sl=>rw[hs] at hc;cases sl<;>cases x<;>first|exact hc|(show TA _ _ (BC C Z [_])=some r;rw[e];exact hc)
 |field t x f=>
  rw[ho] at h
  simp only[ho] at hc⊢
  rw[h.KU (ys:=[x]) I0]
  exact hc
 |indexAddr t x i=>
  rw[ho] at h
  simp only[ho] at hc⊢
  rw[h.KU (ys:=[x,i]) I0]
  exact hc
 |index t x i=>
  rw[ho] at h
  simp only[ho] at hc⊢
  rw[h.KU (ys:=[x,i]) I0]
  exact hc
 |extract x i=>
  rw[ho] at h
  simp only[ho] at hc⊢
  rw[h.KU (ys:=[x]) I0]
  exact hc
 |call c=>
  rw[ho] at h
  simp only[ho] at hc⊢
  rw[h.call]
  exact hc
 |_=>simp only[ho] at hc;cases hc
end
end Go.Am
end
section
namespace Go.Am
open Go
mutual
def Aa.beq_eq:∀{a b:Aa},Aa.beq a b=true->a=b
 | .bool a,b,h=>by cases b<;>simp[Aa.beq] at h⊢;exact h
 | .int k a,b,h=>by cases b<;>simp[Aa.beq] at h⊢;exact h
 | .str a,b,h=>by cases b<;>simp[Aa.beq] at h⊢;exact h
 | .ptr a,b,h=>by cases b<;>simp[Aa.beq] at h⊢;exact h
 | .E4 a,b,h=>by cases b<;>simp[Aa.beq] at h⊢;exact h
 | .CJ a,b,h=>by cases b<;>simp[Aa.beq] at h⊢;exact Aa.Ot h
 | .sl n a,b,h=>by cases b<;>simp[Aa.beq] at h⊢;exact⟨h.1,Aa.mV h.2⟩
 | .slnil,b,h=>by cases b<;>simp[Aa.beq] at h⊢
 | .Cs a c d e,b,h=>by cases b<;>simp[Aa.beq] at h⊢;exact⟨h.1.1.1,h.1.1.2,h.1.2,h.2⟩
 | .map a,b,h=>by cases b<;>simp[Aa.beq] at h⊢;exact h
 | .func f a c,b,h=>by cases b<;>simp[Aa.beq] at h⊢;exact⟨h.1.1,Aa.Ot h.1.2,Aa.Ot h.2⟩
 | .nilFunc,b,h=>by cases b<;>simp[Aa.beq] at h⊢
 | .iface t a,b,h=>by cases b<;>simp[Aa.beq] at h⊢;exact⟨h.1,Aa.beq_eq h.2⟩
 | .nilIface,b,h=>by cases b<;>simp[Aa.beq] at h⊢
 | .agg a,b,h=>by cases b<;>simp[Aa.beq] at h⊢;exact Aa.Ot h
 | .tuple a,b,h=>by cases b<;>simp[Aa.beq] at h⊢;exact Aa.Ot h
def Aa.Ot:∀{a b:List Aa},Aa.RV a b=true->a=b
 |[],b,h=>by cases b<;>simp[Aa.RV] at h⊢
 |a::x,b,h=>by
  cases b with
  |nil=>simp[Aa.RV] at h
  |cons c y=>simp[Aa.RV] at h⊢;exact⟨Aa.beq_eq h.1,Aa.Ot h.2⟩
def Aa.mV:∀{a b:List (List Aa)},Aa.RY a b=true->a=b
 |[],b,h=>by cases b<;>simp[Aa.RY] at h⊢
 |a::x,b,h=>by
  cases b with
  |nil=>simp[Aa.RY] at h
  |cons c y=>simp[Aa.RY] at h⊢;exact⟨Aa.Ot h.1,Aa.mV h.2⟩
end
def BV.J3(U:BV):∀(a b:List (Nat×Et)),U.Em (a++b)=(U.Em a).Em b
 |[],_=>rfl
 |(s,x)::a,b=>BV.J3 (U.set s x) a b
def BV.J4:∀(ws:List (Nat×Et)) (U:BV),(U.Em ws).length=U.length
 |[],_=>rfl
 |(s,x)::ws,U=>by rw[BV.Em,BV.J4 ws];simp
def BV.Xy(U:BV)(s t:Nat)(x:Et):BV.at (U.set s x) t=if s=t/\t<U.length then x else U.at t:=by
 by_cases h:s=t
 .subst h;by_cases hl:s<U.length;.simp[BV.at,List.getD,hl]
  .simp[BV.at,List.getD,hl]
 .simp[BV.at,List.getD,Ap h,h]
def BV.GS:∀(ws:List (Nat×Et)) (U:BV) (t:Nat),(∀p∈ws,p.1≠t)->(U.Em ws).at t=U.at t
 |[],_,_,_=>rfl
 |(s,x)::ws,U,t,h=>by rw[BV.Em,BV.GS ws _ t λp hp=>h p (by simp[hp]),BV.Xy,Ad];exact λe=>h (s,x) AH e.1
def BV.Xz:∀(ws:List (Nat×Et)) (U:BV) (t:Nat),(U.Em ws).at t=U.at t\/∃p∈ws,p.1=t/\(U.Em ws).at t=p.2
 |[],_,_=> .inl rfl
 |(s,x)::ws,U,t=>by
  rcases BV.Xz ws (U.set s x) t with h|⟨p,hp,h1,h2⟩
  .rw[BV.Xy] at h;by_cases hc:s=t/\t<U.length;.rw[Af hc] at h;exact .inr ⟨(s,x),AH,hc.1,h⟩
   .rw[Ad hc] at h;exact .inl h
  .exact .inr ⟨p,by simp[hp],h1,h2⟩
def BV.Ju:∀(ws:List (Nat×Et)) (U Z:BV) (t:Nat),Z.length=U.length->Z.at t=U.at t->(Z.Em ws).at t=(U.Em ws).at t
 |[],_,_,_,_,h=>h
 |(s,x)::ws,U,Z,t,hl,h=>by refine BV.Ju ws _ _ t (by simpa using hl) ?_;rw[BV.Xy,BV.Xy,hl,h]
def BV.ext{U Z:BV}(hl:Z.length=U.length)(h:∀t,Z.at t=U.at t):Z=U:=by apply List.ext_getElem hl;intro i h1 h2;have:=h i;simpa[BV.at,List.getD,h1,h2] using this
def BV.gu{U:BV}{a b:List (Nat×Et)}(h:∀p∈a,∀q∈b,p.1≠q.1):(U.Em a).Em b=(U.Em b).Em a:=by
 refine BV.ext (by simp[BV.J4]) λt=>?_;by_cases ha:∀p∈a,p.1≠t;.rw[BV.GS a (U.Em b) t ha];exact BV.Ju b _ _ t (by simp[BV.J4]) (BV.GS a U t ha)
 .have⟨p,hp,c⟩:∃p∈a,p.1=t:=Classical.byContradiction λhn=>ha λp hp e=>hn ⟨p,hp,e⟩;have hb:∀q∈b,q.1≠t:=λq hq e=>h p hp q hq (by rw[c,e]);rw[BV.GS b (U.Em a) t hb];exact(BV.Ju a _ _ t (by simp[BV.J4]) (BV.GS b U t hb)).symm
def Ou{U:BV}{ds:List Nat}:Ng U ds=true↔∀x t o,U.at x= .Fl t o->t∉ds:=by
 unfold Ng;rw[C9];constructor
 .intro h x t o hx;by_cases hl:x<U.length;.have:=h (U.at x) (by simp[BV.at,List.getD,hl]);rw[hx] at this;simpa using this
  .simp[BV.at,List.getD,hl] at hx
 .intro h s hs;obtain⟨i,hi⟩:=CU hs;cases s with
  |Fl t o=>have:=h i t o (by simp[BV.at,List.getD,hi]);simpa using this
  |_=>rfl
def gw{a b:List Nat}:Uu a b=true↔∃x,x∈a/\x∈b:=by simp[Uu]
structure St where
 idx:Nat
 fp:FP
 fl:Option KL
def Lg(i:Nat)(r:EN)(U:BV):Option KL:=
 match r with
 | .load n p (some d)=>match U.at d with
  | .val v=>some {idx:=i,n,p,v}
  |_=>none
 |_=>none
def XA(i:Nat)(r:EN)(U:BV)(fl:List KL):MY i r U fl=(Lg i r U).toList++fl:=by
 cases r with
 |load n p dst=>
  cases dst with
  |none=>rfl
  |some d=>simp only[MY,Lg];cases U.at d<;>rfl
 |_=>rfl
def ZD{i:Nat}{r:EN}{U Z:BV}(h:∀d∈r.wf,Z.at d=U.at d):Lg i r Z=Lg i r U:=by
 cases r with
 |load n p dst=>
  cases dst with
  |none=>rfl
  |some d=>simp only[Lg];rw[h d (by simp[EN.wf])]
 |_=>rfl
def M1(d:Option Nat)(U U':BV):Prop:=
 match d with
 |none=>U'=U
 |some d=>match U.at d with
  | .val v=>∃b,v= .bool b/\U'=U.set d (.O5 b)
  |_=>U'=U
section
variable{C:F8}{fid:FuncId}{ops:List Oper}{run:IT->Ah->Option Ke}{U Z U':BV}{h h':Ah}
def PD(C:F8)(fid:FuncId)(ops:List Oper)(run:IT->Ah->Option Ke)(s:St)(U:BV)(h:Ah)(U':BV)(h':Ah):Prop:=
 ∃o,ops[s.idx]?=some o/\
  ((IW ops U o = .Ny false /\ s.fp = Vo C ops U o none /\ s.fl = none /\ U' = U.put o.dst .skip /\ h' = h) \/
   ∃ r U1, IW ops U o = .Ny true /\ Gs C fid ops U o = some r /\ s.fp = Vo C ops U o (some r) /\ r.NB C run (U.drop r.news) h U1 h' /\ s.fl = Lg s.idx r U1 /\
     M1 (if Sa ops s.idx then o.dst else none) U1 U')
def XB(U:BV)(d:Option Nat)(x:Et):U.put d x=U.Em (d.toList.map λs=>(s,x)):=by cases d<;>rfl
def gx(U:BV)(d:Option (Nat×Aa)):U.DS d=U.Em (d.toList.map λp=>(p.1,.val p.2)):=by cases d<;>rfl
def aJ{r:EN}(hd:r.NB C run U h U' h'):∃ws,U'=U.Em ws/\(∀p∈ws,p.1∈r.wf)/\(∀p∈ws,∀t o,p.2= .Fl t o->t∈r.wK)/\∀Z,r.NB C run Z h (Z.Em ws) h':=by
 have one:∀(d:Option Nat) (x:Et),(∀t o,x≠ .Fl t o)->U'=U.put d x->d.toList⊆r.wf->(∀Z,r.NB C run Z h (Z.put d x) h')->
   ∃ws,U'=U.Em ws/\(∀p∈ws,p.1∈r.wf)/\(∀p∈ws,∀t o,p.2= .Fl t o->t∈r.wK)/\∀Z,r.NB C run Z h (Z.Em ws) h':=by
  intro d x hx he hw ht;refine⟨d.toList.map λs=>(s,x),by rw[<-XB];exact he,λp hp=>?_,λp hp t o hl=>?_,λZ=>by rw[<-XB];exact ht Z⟩;.obtain⟨s,hs,rfl⟩:=Bm.1 hp;exact hw hs
  .obtain⟨s,hs,rfl⟩:=Bm.1 hp;exact absurd hl (hx t o)
 have Xf:∀(i:Option (Nat×Aa)) (d:Option Nat) (x:Et),(∀t o,x≠ .Fl t o)->U'=(U.DS i).put d x->d.toList⊆r.wf->(i.map (·.1)).toList⊆r.wf->(∀Z,r.NB C run Z h ((Z.DS i).put d x) h')->
   ∃ws,U'=U.Em ws/\(∀p∈ws,p.1∈r.wf)/\(∀p∈ws,∀t o,p.2= .Fl t o->t∈r.wK)/\∀Z,r.NB C run Z h (Z.Em ws) h':=by
  intro i d x hx he hw r_ ht;have e:∀Z:BV,(Z.DS i).put d x=Z.Em ((i.toList.map λp=>(p.1,.val p.2))++d.toList.map λs=>(s,x)):=λZ=>by rw[BV.J3,<-gx,<-XB]
  refine⟨_,by rw[he,e],λp hp=>?_,λp hp t o hl=>?_,λZ=>by rw[<-e];exact ht Z⟩
  .rcases Ax.1 hp with hp|hp
   .obtain⟨q,hq,rfl⟩:=Bm.1 hp;exact r_ (by cases i<;>simp_all)
   .obtain⟨s,hs,rfl⟩:=Bm.1 hp;exact hw hs
  .rcases Ax.1 hp with hp|hp
   .obtain⟨q,hq,rfl⟩:=Bm.1 hp;cases hl
   .obtain⟨s,hs,rfl⟩:=Bm.1 hp;exact absurd hl (hx t o)
 cases r with
 |pure ws=>obtain⟨rfl,rfl⟩:=hd;refine⟨ws,rfl,λp hp=>Bm.2 ⟨p,hp,rfl⟩,λp hp t o hl=>?_,λZ=>⟨rfl,rfl⟩⟩;exact Ch.2 ⟨p.2,Bm.2 ⟨p,hp,rfl⟩,by rw[hl]⟩
 |op p args dst Bt i=>obtain⟨v,hv,rfl,rfl⟩:=hd;exact Xf i dst _ (by cases Bt<;>simp) rfl (by simp[EN.wf]) (by simp[EN.wf]) λZ=>⟨v,hv,rfl,rfl⟩
 |box n v d=>obtain⟨hn,rfl,rfl⟩:=hd;exact one (some d) _ AH rfl (by simp[EN.wf]) λZ=>⟨hn,rfl,rfl⟩
 |closure fn x b fz d=>
  obtain⟨rfl,rfl⟩:=hd;refine⟨(fz.map λ(s,cs)=>(s,.val (.CJ cs)))++[(d,.val (.func fn x b))],by rw[BV.J3];rfl,λp hp=>?_,λp hp t o hl=>?_,λZ=>⟨by rw[BV.J3];rfl,rfl⟩⟩
  .rcases Ax.1 hp with hp|hp
   .obtain⟨q,hq,rfl⟩:=Bm.1 hp;exact Ze _ (Bm.2 ⟨q,hq,rfl⟩)
   .simp at hp;subst hp;simp[EN.wf]
  .rcases Ax.1 hp with hp|hp
   .obtain⟨q,hq,rfl⟩:=Bm.1 hp;cases hl
   .simp at hp;subst hp;cases hl
 |Nf s off n v Bt i ver cells owned=>obtain⟨hn,rfl,rfl⟩:=hd;exact Xf i (some s) _ AH rfl (by simp[EN.wf]) (by simp[EN.wf]) λZ=>⟨hn,rfl,rfl⟩
 |load n p dst=>obtain⟨v,hv,rfl,rfl⟩:=hd;exact one dst _ AH rfl (by simp[EN.wf]) λZ=>⟨v,hv,rfl,rfl⟩
 |store n p v=>obtain⟨hv,rfl⟩:=hd;exact one none .undef AH rfl AH λZ=>⟨hv,rfl⟩
 |alloc n v dst=>obtain⟨hn,rfl,rfl⟩:=hd;exact one dst _ AH rfl (by simp[EN.wf]) λZ=>⟨hn,rfl,rfl⟩
 |call f args dst=>obtain⟨v,hv,rfl⟩:=hd;exact one dst _ (by intro t o;split<;>simp) rfl (by simp[EN.wf]) λZ=>⟨v,hv,rfl⟩
 |Jc g args dst=>obtain⟨f,x,v,h1,h2,rfl⟩:=hd;exact one dst _ AH rfl (by simp[EN.wf]) λZ=>⟨f,x,v,h1,h2,rfl⟩
 |B7 f args dst=>obtain⟨Hm,v,h1,h2,j,rfl,rfl⟩:=hd;exact one dst _ AH rfl (by simp[EN.wf]) λZ=>⟨Hm,v,h1,h2,j,rfl,rfl⟩
 |Pm dst=>obtain⟨rfl,rfl⟩:=hd;exact one dst _ AH rfl (by simp[EN.wf]) λZ=>⟨rfl,rfl⟩
 |KE m k v=>obtain⟨hv,rfl⟩:=hd;exact one none .undef AH rfl AH λZ=>⟨hv,rfl⟩
 |Mj z ok m k dst=>obtain⟨v,hv,rfl,rfl⟩:=hd;exact one dst _ AH rfl (by simp[EN.wf]) λZ=>⟨v,hv,rfl,rfl⟩
 |make z b zero l c dst=>obtain⟨v,hv,rfl⟩:=hd;exact one dst _ AH rfl (by simp[EN.wf]) λZ=>⟨v,hv,rfl⟩
 |Lm z b s x dst i=>obtain⟨v,hv,rfl⟩:=hd;exact Xf i dst _ AH rfl (by simp[EN.wf]) (by simp[EN.wf]) λZ=>⟨v,hv,rfl⟩
 |JL z b s x dst=>obtain⟨v,hv,rfl⟩:=hd;exact one dst _ AH rfl (by simp[EN.wf]) λZ=>⟨v,hv,rfl⟩
 |GD z b s x dst i=>obtain⟨v,hv,rfl,rfl⟩:=hd;exact Xf i dst _ AH rfl (by simp[EN.wf]) (by simp[EN.wf]) λZ=>⟨v,hv,rfl,rfl⟩
 |Ff s dst=>obtain⟨v,hv,rfl⟩:=hd;exact one dst _ AH rfl (by simp[EN.wf]) λZ=>⟨v,hv,rfl⟩
 |WK s dst=>obtain⟨v,u,h1,h2,rfl⟩:=hd;exact one dst _ AH rfl (by simp[EN.wf]) λZ=>⟨v,u,h1,h2,rfl⟩
 |mem o args dst=>obtain⟨v,hv,rfl⟩:=hd;exact one dst _ (by intro t o';split<;>simp) rfl (by simp[EN.wf]) λZ=>⟨v,hv,rfl⟩
def TM{r:EN}(hd:r.NB C run U h U' h')(he:r.RR=false):h'=h/\
  (r.hl=false->∀h2,r.NB C run U h2 U' h2)/\
  ∀n p d,r= .load n p (some d)->∃v,A7 h n p=some v/\U'=U.set d (.val v)/\∀h2,A7 h2 n p=some v->r.NB C run U h2 U' h2:=by
 cases r<;>simp only[EN.RR] at he<;>try(exact absurd he AU)
 case pure ws=>obtain⟨rfl,rfl⟩:=hd;exact⟨rfl,λ_ _=>⟨rfl,rfl⟩,AH⟩
 case op p args dst Bt g=>obtain⟨v,hv,rfl,rfl⟩:=hd;exact⟨rfl,λ_ _=>⟨v,hv,rfl,rfl⟩,AH⟩
 case box n v d=>obtain⟨hn,rfl,rfl⟩:=hd;exact⟨rfl,λ_ _=>⟨hn,rfl,rfl⟩,AH⟩
 case closure fn x b fz d=>obtain⟨rfl,rfl⟩:=hd;exact⟨rfl,λ_ _=>⟨rfl,rfl⟩,AH⟩
 case Nf s off n v Bt g ver cells owned=>obtain⟨hn,rfl,rfl⟩:=hd;exact⟨rfl,λ_ _=>⟨hn,rfl,rfl⟩,AH⟩
 case load n p dst=>obtain⟨v,hv,rfl,rfl⟩:=hd;refine⟨rfl,λc=>absurd c (by simp[EN.hl]),λn' p' d he=>?_⟩;cases he;exact⟨v,hv,rfl,λh2 e=>⟨v,e,rfl,rfl⟩⟩
 case Mj z ok m k dst=>obtain⟨v,hv,rfl,rfl⟩:=hd;exact⟨rfl,λc=>absurd c (by simp[EN.hl]),AH⟩
 case B7 f args dst=>obtain⟨Hm,v,h1,h2,i,rfl,rfl⟩:=hd;exact⟨rfl,λ_ _=>⟨Hm,v,h1,h2,i,rfl,rfl⟩,AH⟩
def UE{ds:List Nat}(hn:Ng U ds=true):U.drop ds=U:=by
 refine BV.ext (BV.length_drop U ds) λt=>?_;rw[BV.Sj];cases hx:U.at t with
 |Fl t' o=>have:=Ou.1 hn t t' o hx;simp[this]
 |_=>rfl
def QV{o:Oper}(h:∀t∈FF ops o,Z.at t=U.at t):IW ops Z o=IW ops U o:=by
 unfold IW;unfold FF at h;cases hg:o.guard with
 |none=>rfl
 |some g=>
  obtain⟨j,want⟩:=g;rw[hg] at h;simp only at h⊢;cases hd:(ops[j]?).bind (·.dst) with
  |none=>rfl
  |some s=>
   rw[hd] at h;simp only
   rw[h s AH]
def Vy{o:Oper}{r:EN}(hc:Gs C fid ops U o=some r)(ht:∀t∈Kk o.op.operands.toList,Z.at t=U.at t)(hb:∀s∈H9 C U o,Z.at s=U.at s):H9 C Z o=H9 C U o:=by
 have h:V4 C U Z o.op.operands.toList:= .xD ht
 unfold H9 at hb⊢
 cases ho:o.op with
 |load t x=>
  rw[ho] at h hb
  simp only at hb⊢
  have hn:Gq C U x≠none:=λhe=>by
   unfold Gs at hc
   simp only[ho] at hc
   split at hc
   .unfold LL at hc;rw[he] at hc;split at hc<;>simp_all
   .cases hc
  unfold Oe
  rw[h.addr I0 hb hn]
 |store t x y=>
  rw[ho] at h hb
  simp only at hb⊢
  have hn:Gq C U x≠none:=λhe=>by
   unfold Gs at hc
   simp only[ho] at hc
   split at hc
   .unfold JF at hc;rw[he] at hc;split at hc<;>simp_all
   .cases hc
  unfold Oe
  rw[h.addr I0 hb hn]
 |_=>rfl
def UF{xs:List Et}{t o:Nat}(h: .Fl t o∈xs):t∈VV xs:=Ch.2 ⟨_,h,rfl⟩
def PD.spec{s:St}(hs:PD C fid ops run s U h U' h')(hf:s.fp.TE=true):
  ∃ws,U'=U.Em ws/\(∀p∈ws,p.1∈s.fp.wf)/\(∀p∈ws,∀t o,p.2= .Fl t o->t∈s.fp.lr)/\(∀x∈s.fp.wf,∀t o,U.at x= .Fl t o->t∈s.fp.lr)/\Ng U s.fp.news=true/\(s.fp.RR=false->h'=h)/\
   (s.fp.RR=false->s.fp.hl=true->∃f,s.fl=some f)/\
   ∀(Z:BV) (h2 aK:Ah),Z.length=U.length->(∀x∈s.fp.rs++s.fp.wf,Z.at x=U.at x)->Ng Z s.fp.news=true->
    ((h2=h/\aK=h')\/(s.fp.RR=false/\aK=h2/\(s.fp.hl=true->∀f,s.fl=some f->A7 h2 f.n f.p=some f.v)))->PD C fid ops run s Z h2 (Z.Em ws) aK:=by
 obtain⟨o,ho,⟨hg,j,Hm,rfl,rfl⟩|⟨r,U1,hg,hc,j,hd,Hm,ha⟩⟩:=hs
 .rw[j] at hf⊢;refine⟨o.dst.toList.map λd=>(d,.skip),XB _ _ _,λp hp=>?_,λp hp t k hl=>?_,λx hx t k hl=>?_,Ou.2 (by simp[Vo]),λ_=>rfl,λ_ i=>absurd i (by simp[Vo]),λZ h2 aK hlen sd _ Je=>?_⟩;.obtain⟨d,hd,rfl⟩:=Bm.1 hp;exact hd
  .obtain⟨d,hd,rfl⟩:=Bm.1 hp;cases hl
  .exact UF (o:=k) (Bm.2 ⟨x,hx,hl⟩)
  .have i:aK=h2:=by rcases Je with⟨D,B⟩|⟨_,e,_⟩<;>first|exact e|rw[D,B]
   refine⟨o,ho,.inl ⟨?_,?_,Hm,(XB _ _ _).symm,i⟩⟩;.rw[QV λt ht=>sd t (CA _ ht)];exact hg
   .rw[j];have e:o.dst.toList.map Z.at=o.dst.toList.map U.at:=ZY λx hx=>sd x (BW _ hx);simp only[Vo,e]
 .rw[j] at hf⊢;have sg:r.TE U=true:=hf;have OV:Ng U r.news=true:=by unfold EN.TE at sg;rw[Bv] at sg;exact sg.1
  rw[UE OV] at hd;obtain⟨sj,rfl,hw,A,cR⟩:=aJ hd;have aKO:∃g:List (Nat×Et),U'=(U.Em sj).Em g/\(∀p∈g,o.dst=some p.1/\∃b,p.2= .O5 b)/\∀Z:BV,Z.length=U.length->(∀x∈r.wf++o.dst.toList,Z.at x=U.at x)->M1 (if Sa ops s.idx then o.dst else none) (Z.Em sj) ((Z.Em sj).Em g):=by
   by_cases c:Sa ops s.idx=true
   .rw[Af c] at ha;cases Ss:o.dst with
    |none=>rw[Ss] at ha;exact⟨[],ha,AH,λZ _ _=>by simp[c,M1,BV.Em]⟩
    |some d=>
     rw[Ss] at ha;simp only[M1] at ha;have u:∀Z:BV,Z.length=U.length->(∀x∈r.wf++[d],Z.at x=U.at x)->(Z.Em sj).at d=(U.Em sj).at d:=λZ hl sd=>BV.Ju sj U Z d hl (sd d AH);cases hx:(U.Em sj).at d with
     |val v=>rw[hx] at ha;obtain⟨b,rfl,rfl⟩:=ha;refine⟨[(d,.O5 b)],rfl,AH,λZ hl sd=>?_⟩;simp only[c,BI,M1];rw[u Z hl sd,hx];exact⟨b,rfl,rfl⟩
     |_=>rw[hx] at ha;refine⟨[],ha,AH,λZ hl sd=>?_⟩;simp only[c,BI,M1];rw[u Z hl sd,hx];rfl
   .rw[Ad c] at ha;exact⟨[],ha,AH,λZ _ _=>by rw[Ad c];rfl⟩
  obtain⟨g,rfl,r_,aFw⟩:=aKO;have q:r.hl=true->∃n p d,r= .load n p (some d)/\d<U.length:=λi=>by
   unfold EN.TE at sg;rw[Bv] at sg;cases r with
   |load n p dst=>
    cases dst with
    |none=>exact absurd sg.2 AH
    |some d=>exact⟨n,p,d,rfl,by simpa using sg.2⟩
   |Mj _ _ _ _ _=>exact absurd sg.2 AH
   |_=>simp[EN.hl] at i
  have aFx:r.RR=false->∀n p d,r= .load n p (some d)->d<U.length->∃v,A7 h n p=some v/\s.fl=some {idx:=s.idx,n,p,v}:=by intro he n p d hr qK;obtain⟨v,y,m,_⟩:=(TM hd he).2.2 n p d hr;refine⟨v,y,?_⟩;rw[Hm,hr];simp only[Lg];rw[m,BV.Fy qK]
  have aKP:∀(Z:BV) h2 aK,((h2=h/\aK=h')\/(r.RR=false/\aK=h2/\(r.hl=true->∀f,s.fl=some f->A7 h2 f.n f.p=some f.v)))->r.NB C run Z h2 (Z.Em sj) aK:=by
   intro Z h2 aK Je;rcases Je with⟨rfl,rfl⟩|⟨he,rfl,UA⟩
   .exact cR Z
   .obtain⟨_,H,G⟩:=TM (cR Z) he;cases i:r.hl with
    |false=>exact H i _
    |true=>obtain⟨n,p,d,hr,qK⟩:=q i;obtain⟨v,y,m⟩:=aFx he n p d hr qK;obtain⟨v',E,_,F⟩:=G n p d hr;rw[y] at E;cases E;exact F _ (UA i _ m)
  refine⟨sj++g,by rw[BV.J3],λp hp=>?_,λp hp t k hl=>?_,λx hx t k hl=>?_,OV,λhe=>(TM hd he).1,λhe i=>?_,λZ h2 aK hlen sd z Je=>?_⟩
  .rcases Ax.1 hp with hp|hp
   .exact CA _ (hw p hp)
   .exact BW _ (by rw[(r_ p hp).1];simp)
  .rcases Ax.1 hp with hp|hp
   .exact BW _ (A p hp t k hl)
   .obtain⟨_,b,e⟩:=r_ p hp;rw[e] at hl;cases hl
  .exact CA _ (UF (o:=k) (Bm.2 ⟨x,hx,hl⟩))
  .obtain⟨n,p,d,hr,qK⟩:=q i;obtain⟨v,_,m⟩:=aFx he n p d hr qK;exact⟨_,m⟩
  .have l:∀t∈FF ops o++Kk o.op.operands.toList++H9 C U o,Z.at t=U.at t:=λt ht=>sd t (CA _ ht);have hwf:∀t∈r.wf++o.dst.toList,Z.at t=U.at t:=λt ht=>sd t (BW _ ht);have ht:∀t∈Kk o.op.operands.toList,Z.at t=U.at t:=λt ht=>l t (by simp[ht]);have hb:∀t∈H9 C U o,Z.at t=U.at t:=λt ht=>l t (by simp[ht]);have aFy:Ng Z r.news=true:=z;refine⟨o,ho,.inr ⟨r,Z.Em sj,?_,Xx hc ht hb,?_,?_,?_,?_⟩⟩;.rw[QV λt ht=>l t (by simp[ht])];exact hg
   .rw[j];have D:(r.wf++o.dst.toList).map Z.at=(r.wf++o.dst.toList).map U.at:=ZY λx hx=>hwf x hx;have B:r.TE Z=r.TE U:=by unfold EN.TE;rw[OV,aFy,hlen]
    simp only[Vo,D,B,Vy hc ht hb]
   .rw[UE aFy];exact aKP Z h2 aK Je
   .rw[Hm];exact(ZD λd hd=>BV.Ju sj U Z d hlen (hwf d (CA _ hd))).symm
   .rw[BV.J3];exact aFw Z hlen hwf
end
end Go.Am
end
section
namespace Go.Am
open Go
section
variable{C:F8}{fid:FuncId}{ops:List Oper}{run:IT->Ah->Option Ke}{an:List Nat}
def Md{a b:List Nat}(h:(!Uu a b)=true){x:Nat}(hx:x∈a):x∉b:=λhb=>by have:Uu a b=true:=gw.2 ⟨x,hx,hb⟩;simp[this] at h
def swap{p s:St}{U σa U1:BV}{h ha h1:Ah}(hp:PD C fid ops run p U h σa ha)(hs:PD C fid ops run s σa ha U1 h1)(LV:Rj p.fp s.fp=true)
  (UA:s.fp.RR=true->∀f,p.fl=some f->A7 h1 f.n f.p=some f.v):
  ∃σs VW,PD C fid ops run s U h σs VW/\PD C fid ops run p σs VW U1 h1/\(s.fp.RR=true->VW=h1)/\(p.fp.RR=true->h1=ha):=by
 unfold Rj FP.apart at LV;simp only[Bv] at LV;obtain⟨⟨⟨⟨pf,D⟩,⟨⟨a1,a2⟩,a3⟩,a4⟩,he⟩,hl⟩:=LV;obtain⟨c,rfl,l,lJ,A,u,y,G,aAz⟩:=hp.spec pf;obtain⟨b,rfl,k,qH,E,m,qE,F,sk⟩:=hs.spec D;have i:∀x∈s.fp.rs++s.fp.wf,(U.Em c).at x=U.at x:=λx hx=>BV.GS c U x λq hq e=>Md a1 (l q hq) (by rw[e];exact hx);have d:Ng U s.fp.news=true:=by
  rw[Ou] at m⊢;intro x t o hx;by_cases hw:x∈p.fp.wf;.exact Md a3 (A x hw t o hx)
  .refine m x t o ?_;rw[BV.GS c U x λq hq e=>hw (by rw[<-e];exact l q hq)];exact hx
 have hlen:∀(Z:BV) (ws:List (Nat×Et)),(Z.Em ws).length=Z.length:=λZ ws=>BV.J4 ws Z;have aAA:(U.Em b).Em c=(U.Em c).Em b:=(BV.gu λq hq r hr e=>by have:=Md a1 (l q hq);exact this (BW _ (by rw[e];exact k r hr))).symm
 have outs:∀x∈p.fp.rs++p.fp.wf,(U.Em b).at x=U.at x:=λx hx=>BV.GS b U x λq hq e=>by
  rcases Ax.1 hx with hx|hx
  .exact Md a2 (k q hq) (by rw[e];exact hx)
  .exact Md a1 hx (BW _ (by rw[<-e];exact k q hq))
 have z:Ng (U.Em b) p.fp.news=true:=by
  rw[Ou] at u⊢;intro x t o hx;rcases BV.Xz b U x with h0|⟨q,hq,_,h2⟩
  .exact u x t o (by rw[<-h0];exact hx)
  .rw[h2] at hx;exact Md a4 (qH q hq t o hx)
 by_cases JN:s.fp.RR=true
 .have g:p.fp.RR=false:=by
   cases hq:p.fp.RR with
   |false=>rfl
   |true=>simp[JN,hq] at he
  have j:ha=h:=y g;subst j;refine⟨U.Em b,h1,sk U ha h1 (hlen U c).symm (λx hx=>(i x hx).symm) d (.inl ⟨rfl,rfl⟩),?_,λ_=>rfl,λe=>by rw[g] at e;cases e⟩;rw[<-aAA];exact aAz (U.Em b) h1 h1 (hlen U b) outs z (.inr ⟨g,rfl,λ_ f hf=>UA JN f hf⟩)
 .have aFz:s.fp.RR=false:=by simpa using JN
  have B:h1=ha:=qE aFz;subst B;refine⟨U.Em b,h,?_,?_,λe=>absurd e JN,λ_=>rfl⟩
  .by_cases g:p.fp.RR=true;.refine sk U h h (hlen U c).symm (λx hx=>(i x hx).symm) d (.inr ⟨aFz,rfl,λH=>?_⟩);simp[g,H] at hl
   .have aKS:p.fp.RR=false:=by simpa using g
    have j:=y aKS;exact sk U h h (hlen U c).symm (λx hx=>(i x hx).symm) d (.inl ⟨j.symm,j.symm⟩)
  .rw[<-aAA];exact aAz (U.Em b) h h1 (hlen U b) outs z (.inl ⟨rfl,rfl⟩)
inductive Steps(C:F8)(fid:FuncId)(ops:List Oper)(run:IT->Ah->Option Ke)(an:List Nat):List KL->List St->BV->Ah->BV->Ah->Prop
 |nil {fl:List KL} {U:BV} {h:Ah}:Steps C fid ops run an fl [] U h U h
 |cons {fl:List KL} {s:St} {L:List St} {U U1 σf:BV} {h h1 hf:Ah}:PD C fid ops run s U h U1 h1->(s.fp.RR=true->∀f∈fl,Eu an f.idx s.idx=false->A7 h1 f.n f.p=some f.v)->
  Steps C fid ops run an (s.fl.toList++fl) L U1 h1 σf hf->Steps C fid ops run an fl (s::L) U h σf hf
def Steps.sub{fl:List KL}{L:List St}{U σf:BV}{h hf:Ah}(hs:Steps C fid ops run an fl L U h σf hf):∀{b:List KL},(∀f∈b,f∈fl)->Steps C fid ops run an b L U h σf hf:=by
 induction hs with
 |nil=>intro b _;exact .nil
 |cons h1 h2 _ ih=>
  intro b O9;refine .cons h1 (λhe f hf hb=>h2 he f (O9 f hf) hb) (ih λf hf=>?_);rcases Ax.1 hf with hf|hf
  .exact CA _ hf
  .exact BW _ (O9 f hf)
def PD.aB9{s:St}{U U':BV}{h h':Ah}(hs:PD C fid ops run s U h U' h'){f:KL}(hf:s.fl=some f):f.idx=s.idx:=by
 obtain⟨o,_,⟨_,_,Hm,_⟩|⟨r,U1,_,_,_,_,Hm,_⟩⟩:=hs;.rw[Hm] at hf;cases hf
 .rw[Hm] at hf;unfold Lg at hf;split at hf
  .split at hf;.cases hf;rfl
   .cases hf
  .cases hf
def Steps.lt{fl:List KL}{L:List St}{U σf:BV}{h hf:Ah}(hs:Steps C fid ops run an fl L U h σf hf):∀q∈L,q.idx<ops.length:=by
 induction hs with
 |nil=>simp
 |cons h1 _ _ ih=>
  intro q hq;rcases AX.1 hq with rfl|hq
  .obtain⟨o',h2,_⟩:=h1;exact(Al.1 h2).1
  .exact ih q hq
def aAB{s:St}{B:List St}{σf:BV}{hf:Ah}:∀{A:List St} {fl:List KL} {U:BV} {h:Ah},Steps C fid ops run an fl (A++s::B) U h σf hf->(∀p∈A,Rj p.fp s.fp=true/\Eu an p.idx s.idx=false)->
  ∃U1 h1,PD C fid ops run s U h U1 h1/\(s.fp.RR=true->∀f∈fl,Eu an f.idx s.idx=false->A7 h1 f.n f.p=some f.v)/\Steps C fid ops run an (s.fl.toList++fl) (A++B) U1 h1 σf hf
 |[],fl,U,h,hs,_=>by
  cases hs with
  |cons h1 h2 d=>exact⟨_,_,h1,h2,d⟩
 |p::A,fl,U,h,hs,j=>by
  cases hs with
  |cons h1 h2 d=>
   rename_i σa ha;obtain⟨U1,x,i,e,t⟩:=aAB d λq hq=>j q (by simp[hq]);obtain⟨LV,aKT⟩:=j p AH;obtain⟨σs,VW,w1,m,l,k⟩:=swap h1 i LV λhe f hf=>e he f (by rw[hf];simp) (by rw[h1.aB9 hf];exact aKT);refine⟨σs,VW,w1,λhe f hf hb=>?_,.cons m (λhe f hf hb=>?_) (t.sub λf hf=>?_)⟩;.rw[l he];exact e he f (BW _ hf) hb
   .rw[k he];rcases Ax.1 hf with hf|hf
    .exfalso;unfold Rj at LV;simp only[Bv] at LV;obtain⟨⟨⟨⟨_,z⟩,_⟩,u⟩,hl⟩:=LV;cases rW:s.fl with
     |none=>rw[rW] at hf;simp at hf
     |some g=>
      have b:s.fp.hl=true:=by
       obtain⟨o,_,⟨_,_,Hm,_⟩|⟨r,y,_,_,c,_,Hm,_⟩⟩:=i;.rw[Hm] at rW;cases rW
       .rw[Hm] at rW;unfold Lg at rW;split at rW;.rw[c];rfl
        .cases rW
      simp[he,b] at hl
    .exact h2 he f hf hb
   .rcases Ax.1 hf with hf|hf
    .exact BW _ (CA _ hf)
    .rcases Ax.1 hf with hf|hf
     .exact CA _ hf
     .exact BW _ (BW _ hf)
def QW{D0:List Nat}{x:Nat}:∀(ds:List Nat) (m:Nat),(ds.foldl (λm e=>m|||bit e|||D0.getD e 0) m).testBit x=true↔m.testBit x=true\/∃e∈ds,x=e\/(D0.getD e 0).testBit x=true
 |[],m=>AH
 |d::ds,m=>by
  rw[mv,QW ds];simp only[Nat.testBit_or,bit,Nat.testBit_two_pow,OR,CL,AX,exists_eq_or_imp];constructor
  .rintro((h|h)|h)
   .rcases h with h|h
    .exact .inl h
    .exact .inr (.inl (.inl h.symm))
   .exact .inr (.inl (.inr h))
   .exact .inr (.inr h)
  .rintro(h|(h|h)|h);.exact .inl (.inl (.inl h))
   .exact .inl (.inl (.inr h.symm))
   .exact .inl (.inr h)
   .exact .inr h
def L2:∀(l:List Oper) (D0:List Nat) (i:Nat),i<D0.length->(Lo D0 l).getD i 0=D0.getD i 0
 |[],D0,i,h=>rfl
 |o::l,D0,i,h=>by rw[Lo,L2 l _ i D9];simp[List.getD,Ai h]
def QX:∀(l:List Oper) (D0:List Nat) (k:Nat) (o:Oper),l[k]?=some o->(∀e∈Oper.Vn o,e<D0.length+k)->∀x,
  ((Lo D0 l).getD (D0.length+k) 0).testBit x=true↔∃e∈Oper.Vn o,x=e\/((Lo D0 l).getD e 0).testBit x=true
 |[],D0,k,o,h,_,x=>by simp at h
 |o'::l,D0,0,o,h,hd,x=>by
  simp at h;subst h;rw[Lo,L2 l _ (D0.length+0) AH];have b:(D0++[(Oper.Vn o').foldl (λm e=>m|||bit e|||D0.getD e 0) 0]).getD (D0.length+0) 0=(Oper.Vn o').foldl (λm e=>m|||bit e|||D0.getD e 0) 0:=by simp[List.getD]
  rw[b,QW];simp only[Nat.zero_testBit,Cu,false_or];constructor;.rintro⟨e,he,h⟩;refine⟨e,he,h.imp id λh=>?_⟩;have hlt:e<D0.length:=hd e he;rw[L2 l _ e D9];simpa[List.getD,Ai hlt] using h
  .rintro⟨e,he,h⟩;refine⟨e,he,h.imp id λh=>?_⟩;have hlt:e<D0.length:=hd e he;rw[L2 l _ e D9] at h;simpa[List.getD,Ai hlt] using h
 |o'::l,D0,k+1,o,h,hd,x=>by simp at h;rw[Lo];have:=QX l (D0++[(Oper.Vn o').foldl (λm e=>m|||bit e|||D0.getD e 0) 0]) k o h (λe he=>by have:=hd e he;simp;omega) x;simp only[Av,Bf,BT,BL] at this;rw[(Ab:D0.length+(k+1)=D0.length+1+k)];exact this
def aL{i:Nat}{o:Oper}(ho:ops[i]?=some o)(hd:∀e∈Oper.Vn o,e<i)(x:Nat):Eu (W0 ops) x i=true↔∃e∈Oper.Vn o,x=e\/Eu (W0 ops) x e=true:=by have:=QX ops [] i o ho (by simpa using hd) x;simpa[Eu,W0] using this
def PE(h:cP ops=true){i:Nat}{o:Oper}(ho:ops[i]?=some o):∀e∈Oper.Vn o,e<i:=by
 unfold cP at h;rw[C9] at h;have:=h (o,i) (by refine Cz (i:=i) ?_;simp[List.getElem?_zipIdx,ho])
 intro e he;simpa using C9.1 this e he
def aM:∀{l:List (Nat×FP)},W9.go an l=true->l.Pairwise λx y=>x.1≠y.1/\Eu an y.1 x.1=false/\(Eu an x.1 y.1=true\/Rj x.2 y.2=true)
 |[],_=> .nil
 |(i,f)::l,h=>by simp only[W9.go,Bv,C9] at h;refine .cons (λy hy=>?_) (aM h.2);have:=h.1 y hy;simp only[bne_iff_ne,aPB,OR] at this;exact⟨this.1.1,this.1.2,this.2⟩
def sm{d:Option Nat}{U:BV}{K:BV->IT}{h:Ah}{R:Ke}(hr:IT.step (B9 C) run (wL d U K) h=some R):∃U',M1 d U U'/\IT.step (B9 C) run (K U') h=some R:=by
 unfold wL at hr;cases d with
 |none=>exact⟨U,rfl,hr⟩
 |some d=>
  simp only at hr;cases hx:U.at d with
  |val v=>
   rw[hx] at hr;simp only[IT.step] at hr;split at hr;.exact⟨U.set d (.O5 true),by simp only[M1,hx];exact⟨true,rfl,rfl⟩,hr⟩
   .exact⟨U.set d (.O5 false),by simp only[M1,hx];exact⟨false,rfl,rfl⟩,hr⟩
   .cases hr
  |_=>rw[hx] at hr;exact⟨U,by simp only[M1,hx],hr⟩
def Ov{i:Nat}{t:IT}{h:Ah}{R:Ke}:∀{fl:List KL},IT.step (B9 C) run (R7 an i fl t) h=some R->(∀f∈fl,Eu an f.idx i=false->A7 h f.n f.p=some f.v)/\IT.step (B9 C) run t h=some R
 |[],hr=>⟨AH,hr⟩
 |f::fl,hr=>by
  unfold R7 at hr;by_cases hb:Eu an f.idx i=true
  .rw[Af hb] at hr;obtain⟨d,c⟩:=Ov hr;refine⟨λg hg b=>?_,c⟩;rcases AX.1 hg with rfl|hg
   .rw[hb] at b;cases b
   .exact d g hg b
  .rw[Ad hb] at hr;simp only[IT.step] at hr;split at hr
   .rename_i v hv;split at hr
    .rename_i KD;obtain⟨d,c⟩:=Ov hr;refine⟨λg hg b=>?_,c⟩;rcases AX.1 hg with rfl|hg
     .rw[Aa.beq_eq KD];exact hv
     .exact d g hg b
    .cases hr
   .cases hr
def Rs{K:BV->IT}{R:Ke}:∀{rest:List Nat} {b:List (Nat×FP)} {fl:List KL} {U:BV} {h:Ah},IT.step (B9 C) run (Rk C fid ops an rest b fl U K) h=some R->
  ∃L σf hf,Steps C fid ops run an fl L U h σf hf/\W9 ops.length an (b.reverse++L.map λs=>(s.idx,s.fp))=true/\IT.step (B9 C) run (K σf) hf=some R
 |[],b,fl,U,h,hr=>by
  unfold Rk at hr;split at hr;.rename_i LV;exact⟨[],U,h,.nil,by simpa using LV,hr⟩
  .cases hr
 |i::rest,b,fl,U,h,hr=>by
  unfold Rk at hr;cases ho:ops[i]? with
  |none=>rw[ho] at hr;cases hr
  |some o=>
   rw[ho] at hr;simp only at hr;split at hr
   .rename_i hg;split at hr;.cases hr
    .rename_i r hc;obtain⟨U1,h1,hd,hr⟩:=Z5 hr;have F9:(r.RR=true->∀f∈fl,Eu an f.idx i=false->A7 h1 f.n f.p=some f.v)/\IT.step (B9 C) run (wL (if Sa ops i then o.dst else none) U1 λj=>Rk C fid ops an rest ((i,Vo C ops U o (some r))::b) (MY i r U1 fl) j K) h1=some R:=by
      split at hr;.obtain⟨d,c⟩:=Ov hr;exact⟨λ_=>d,c⟩
      .rename_i he;exact⟨λe=>absurd e he,hr⟩
     obtain⟨UA,hr⟩:=F9;obtain⟨U',ha,hr⟩:=sm hr;rw[XA] at hr;obtain⟨L,σf,hf,d,c,g⟩:=Rs hr;exact⟨{idx:=i,fp:=Vo C ops U o (some r),fl:=Lg i r U1}::L,σf,hf,.cons ⟨o,ho,.inr ⟨r,U1,hg,hc,rfl,hd,rfl,ha⟩⟩ UA d,by simpa using c,g⟩
   .rename_i hg;obtain⟨L,σf,hf,d,c,g⟩:=Rs hr;exact⟨{idx:=i,fp:=Vo C ops U o none,fl:=none}::L,σf,hf,.cons ⟨o,ho,.inl ⟨hg,rfl,rfl,rfl,rfl⟩⟩ (λe=>by simp[Vo] at e) d,by simpa using c,g⟩
   .cases hr
end
section
variable{C:F8}{γ0 γ:Gh}{w0 w:World}{O:Nat->Nat}{U:BV}{h:Ah}{a:Act}{fid:FuncId}
def L3(hr:De C γ0 w0 γ O U h a w){ops:Array Oper}{o:Oper}{b:Bool}(hg:IW ops.toList U o= .Ny b):Region.wanted o (yielded ops a.tmps)=b:=by
 unfold IW at hg;unfold Region.wanted;cases ho:o.guard with
 |none=>rw[ho] at hg;cases hg;rfl
 |some g=>
  obtain⟨j,want⟩:=g;rw[ho] at hg;simp only[aFe] at hg⊢;unfold yielded;cases hd:(ops[j]?).bind (·.dst) with
  |none=>rw[hd] at hg;cases hg
  |some s=>
   rw[hd] at hg;simp only[Cm] at hg⊢;have h0:=hr.fr.Ip s;cases hx:U.at s with
   |O5 c=>
    rw[hx] at hg h0;cases hg;have hl:s<a.tmps.size:=by rw[<-hr.fr.size];exact BV.Ps (by rw[hx];simp)
    have hv:a.tmps.getD s undef= .bool c:=h0;have:a.tmps[s]?=some (.bool c):=by rw[CW hl];rw[Hk,CW hl] at hv;exact Ca some hv
    rw[this];rfl
   |skip=>
    rw[hx] at hg h0;cases hg;have hv:a.tmps.getD s undef=undef:=h0;have hne:∀c,a.tmps[s]?≠some (.bool c):=λc hc=>by rw[Hk,hc] at hv;cases hv
    cases ht:a.tmps[s]? with
    |none=>rfl
    |some v=>
     cases v with
     |bool c=>exact absurd ht (hne c)
     |_=>rfl
   |val v=>rw[hx] at hg;cases hg
   |_=>rw[hx] at hg;cases hg
def De.aFB(hr:De C γ0 w0 γ O U h a w){d:Option Nat}{U':BV}(ha:M1 d U U'):De C γ0 w0 γ O U' h a w:=by
 unfold M1 at ha;cases d with
 |none=>simp only at ha;rw[ha];exact hr
 |some d=>
  simp only at ha;cases hx:U.at d with
  |val v=>rw[hx] at ha;obtain⟨b,rfl,rfl⟩:=ha;have h0:=hr.fr.Ip d;rw[hx] at h0;exact hr.lV h0
  |_=>rw[hx] at ha;rw[ha];exact hr
structure aKU(ops:Array Oper)(listed:Array Bool)(L:List St):Prop where
 size:listed.size=ops.size
 un:∀i,i<ops.size->(listed.getD i false=false↔i∈L.map (·.idx))
 closed:∀j,listed.getD j false=true->∀e,Eu (W0 ops.toList) e j=true->listed.getD e false=true
abbrev xE(an:List Nat)(L:List St):Prop:=L.Pairwise λx y=>x.idx≠y.idx/\Eu an y.idx x.idx=false/\(Eu an x.idx y.idx=true\/Rj x.fp y.fp=true)
def gy{run:IT->Ah->Option Ke}(D:Fh C run){ops:Array Oper}{Q:Exit->Act->World->Prop}(Ge:cP ops.toList=true){σf:BV}{hf:Ah}(hQ:∀γ' k a' w',De C γ0 w0 γ' k σf hf a' w'->Q .normal a' w'):
  ∀(fuel:Nat) (L:List St) (listed:Array Bool) (γ:Gh) (O:Nat->Nat) (U:BV) (h:Ah) (a:Act) (w:World),L.length=fuel->Steps C fid ops.toList run (W0 ops.toList) [] L U h σf hf->xE (W0 ops.toList) L->aKU ops listed L->De C γ0 w0 γ O U h a w->
   wpAny C.P .any ops Q fuel listed a w:=by
 intro fuel;induction fuel with
 |zero=>
  intro L listed γ O U h a w l hs hp ho hr;have u:L=[]:=Dw l;subst u;cases hs;refine⟨List.eq_nil_iff_forall_not_mem.2 λi hi=>?_,hQ _ _ _ _ hr⟩;obtain⟨h0,o,L_,_⟩:=mem_ready.1 hi;have hlt:i<ops.size:=(A8.1 L_).1;have ZB:listed.getD i false=false:=by
   have hl:i<listed.size:=by rw[ho.size];exact hlt
   simpa[Array.getD,hl] using h0
  have:=(ho.un i hlt).1 ZB;simp at this
 |succ fuel ih=>
  intro L listed γ O U h a w l hs hp ho hr;have dB:∀i,i<ops.size->listed.getD i true=listed.getD i false:=λi hi=>by
   have hl:i<listed.size:=by rw[ho.size];exact hi
   simp[Array.getD,hl]
  constructor
  .intro UA;exfalso;cases L with
   |nil=>simp at l
   |cons s0 L=>
    obtain⟨o,L_,_⟩:∃o,ops.toList[s0.idx]?=some o/\True:=by
     cases hs with
     |cons h1 _ _=>obtain⟨o,h2,_⟩:=h1;exact⟨o,h2,trivial⟩
    have rX:ops[s0.idx]?=some o:=by simpa using L_
    have hlt:s0.idx<ops.size:=(A8.1 rX).1;have:s0.idx∈Region.ready .any ops listed:=by
     refine mem_ready.2 ⟨?_,o,rX,λe he hb=>?_⟩;.rw[dB _ hlt];exact(ho.un _ hlt).2 AH
     .have f:e.on∈Oper.Vn o:=Ch.2 ⟨e,by simpa using he,by rw[Af hb]⟩;have z:=PE Ge L_ e.on f;cases hl:listed.getD e.on false with
      |true=>rfl
      |false=>
       have hm:=(ho.un e.on Ab).1 hl;simp only[Bk,AX] at hm;rcases hm with hm|hm
       .omega
       .obtain⟨y,hy,m⟩:=Bm.1 hm;have:=((aOa.1 hp).1 y hy).2.1;rw[m,(aL L_ (PE Ge L_) e.on).2 ⟨e.on,f,.inl rfl⟩] at this;cases this
    rw[UA] at this;cases this
  .intro i hi;obtain⟨h0,o,L_,aFC⟩:=mem_ready.1 hi;have hlt:i<ops.size:=(A8.1 L_).1;rw[dB i hlt] at h0;obtain⟨s,n,rfl⟩:=Bm.1 ((ho.un i hlt).1 h0);obtain⟨A,B,rfl⟩:=List.append_of_mem n;have rX:ops.toList[s.idx]?=some o:=by simpa using L_
   have aFD:∀e,Eu (W0 ops.toList) e s.idx=true->listed.getD e false=true:=λe he=>by
    obtain⟨d,hd,Je⟩:=(aL rX (PE Ge rX) e).1 he;obtain⟨E,f,hb⟩:=Ch.1 hd;split at hb
    .rename_i Qk;cases hb;have qK:=aFC E (by simpa using f) Qk;rcases Je with rfl|Je
     .exact qK
     .exact ho.closed _ qK e Je
    .cases hb
   have b:=(aJw.1 hp).2.2;have aCa:∀p∈A++s::B,p.idx<ops.size:=λp t=>by simpa using hs.lt p t
   obtain⟨U1,h1,x,_,v⟩:=aAB hs λp g=>by
    have hb:Eu (W0 ops.toList) p.idx s.idx=false:=by
     cases Qk:Eu (W0 ops.toList) p.idx s.idx with
     |false=>rfl
     |true=>have h1:=aFD _ Qk;have h2:=(ho.un p.idx (aCa p (by simp[g]))).2 (Bm.2 ⟨p,by simp[g],rfl⟩);rw[h1] at h2;cases h2
    refine⟨?_,hb⟩;have:=(b p g s AH).2.2;rw[hb] at this;exact this.resolve_left AH
   have aAC:∀γ' k a' w',De C γ0 w0 γ' k U1 h1 a' w'->wpAny C.P .any ops Q fuel (listed.setIfInBounds s.idx true) a' w':=λγ' k a' w' F9=>by
    refine ih (A++B) _ γ' k U1 h1 a' w' (by simp at l⊢;omega) (v.sub AH) ?_ ⟨by simp[ho.size],λj hj=>?_,λj hj e he=>?_⟩ F9;.exact hp.sublist ((AP A).append (Um s B))
    .by_cases c:j=s.idx
     .subst c;have aCb:s.idx∉(A++B).map (·.idx):=λhm=>by
       obtain⟨q,hq,he⟩:=Bm.1 hm;rcases Ax.1 hq with hq|hq
       .exact(b q hq s AH).1 he
       .exact(aOa.1 (aJw.1 hp).2.1).1 q hq |>.1 he.symm
      have ht:(listed.setIfInBounds s.idx true).getD s.idx false=true:=by
       have hl:s.idx<listed.size:=by rw[ho.size];exact hlt
       simp[Array.getD,hl]
      rw[ht];exact⟨λe=>absurd e AH,λe=>absurd e aCb⟩
     .rw[getD_set_ne false (λe=>c e.symm),ho.un j hj];simp only[BE,Bk,Ax,AX];constructor
      .rintro(e|e|e);.exact .inl e
       .exact absurd e c
       .exact .inr e
      .rintro(e|e);.exact .inl e
       .exact .inr (.inr e)
    .by_cases c:j=s.idx;.subst c;exact getD_set_true (aFD e he)
     .rw[getD_set_ne false (λe=>c e.symm)] at hj;exact getD_set_true (ho.closed j hj e he)
   unfold wpOp;rw[L_];obtain⟨o',J_,⟨hg,_,_,rfl,rfl⟩|⟨r,F,hg,hc,_,hd,_,ha⟩⟩:=x;.rw[rX] at J_;cases J_;simp only[L3 hr hg,Cu,DG];exact aAC _ _ _ _ (hr.put λ_ _=>rfl)
   .rw[rX] at J_;cases J_;simp only[L3 hr hg,BI];exact .inl (rq D hc hd hr λγ' k a' w' F9=>aAC γ' k a' w' (F9.aFB ha))
end
end Go.Am
end
end
