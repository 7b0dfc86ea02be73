/- Lemmas -/
import Derived.Test.YtjjnhgoknielgaaGreatDoorZ5
import Derived.MapKept
set_option linter.all false
section
namespace Go.Am
open Go
section
variable{C:Gj}{γ0 γ γ':Gh}{w0 w w':World}{Z:Nat->Nat}{U:BR}{h:Ai}{a:Act}{fid:FuncId}{ops:List Oper}
def XT{s t:Ah}(h:s≠t):((⟨⟨s⟩⟩:ByteArray)==⟨⟨t⟩⟩)=false:=by
 refine Bool.eq_false_iff.2 λhc=>h ?_;have:=(MapKept.bytes_beq _ _).1 hc;injection this with this
 injection this with this
def Sk(s:Ah):((⟨⟨s⟩⟩:ByteArray)==⟨⟨s⟩⟩)=true:=(MapKept.bytes_beq _ _).2 rfl
def mK{s:Ah}:∀{es:List (Aa×Aa)} {l:List MapEntry} {i:Nat} {r:Option Aa},LZ γ es l->S1 s es=some r->
  match r with
  |none=>Instr.findNow .string (.string ⟨⟨s⟩⟩) l i=some none
  |some v=>∃(j:Nat) (e:MapEntry),Instr.findNow .string (.string ⟨⟨s⟩⟩) l i=some (some (i+j,e.val))/\BP γ v e.val
 |[],l,i,r,b,hf=>by rw[show l=[] from b];cases hf;rfl
 |(k,v)::es,l,i,r,b,hf=>by
  obtain⟨e,l',rfl,h1,h2,h3⟩:=b;unfold S1 at hf;split at hf;.rename_i K4;cases K4
  .rename_i t v' V4 K4;cases K4;have hk:e.key= .string ⟨⟨t⟩⟩:=h1;split at hf;.rename_i JM;subst JM;cases hf;exact⟨0,e,by simp[Instr.findNow,hk,Instr.sameNow,Sk],h2⟩
   .rename_i JM;have ih:=mK (i:=i+1) h3 hf;have hne:=XT JM;cases r with
    |none=>simpa[Instr.findNow,hk,Instr.sameNow,hne] using ih
    |some v2=>obtain⟨j,f,d,c⟩:=ih;exact⟨j+1,f,by simp only[Instr.findNow,hk,Instr.sameNow,hne];rw[d];congr 3;omega,c⟩
  .cases hf
def xF{s:Ah}{v:Aa}{u:Value}(hv:BP γ v u):∀{es V4:List (Aa×Aa)} {l:List MapEntry} {i:Nat},LZ γ es l->Oh s v es=some V4->
  (Instr.findNow .string (.string ⟨⟨s⟩⟩) l i=some none/\∀born,LZ γ V4 (l++[{key:= .string ⟨⟨s⟩⟩,val:=u,born}]))\/
  ∃j e,Instr.findNow .string (.string ⟨⟨s⟩⟩) l i=some (some (i+j,e.val))/\l[j]?=some e/\e.key= .string ⟨⟨s⟩⟩/\LZ γ V4 (l.modify j λe=>{e with key:= .string ⟨⟨s⟩⟩,val:=u})
 |[],V4,l,i,d,hp=>by rw[show l=[] from d];cases hp;exact .inl ⟨rfl,λborn=>⟨_,[],rfl,rfl,hv,rfl⟩⟩
 |(k,v0)::es,V4,l,i,d,hp=>by
  obtain⟨e,l',rfl,h1,h2,h3⟩:=d;unfold Oh at hp;split at hp;.rename_i K4;cases K4
  .rename_i t v' n K4;cases K4;have hk:e.key= .string ⟨⟨t⟩⟩:=h1;split at hp;.rename_i JM;subst JM;cases hp;exact .inr ⟨0,e,by simp[Instr.findNow,hk,Instr.sameNow,Sk],rfl,hk,_,l',rfl,rfl,hv,h3⟩
   .rename_i JM;have hne:=XT JM;cases hq:Oh s v es with
    |none=>rw[hq] at hp;cases hp
    |some m=>
     rw[hq] at hp;cases hp;rcases xF hv (i:=i+1) h3 hq with⟨c,b⟩|⟨j,o,c,b,g,f⟩
     .exact .inl ⟨by simpa[Instr.findNow,hk,Instr.sameNow,hne] using c,λborn=>⟨e,_,rfl,h1,h2,b born⟩⟩
     .exact .inr ⟨j+1,o,by simp only[Instr.findNow,hk,Instr.sameNow,hne];rw[c];congr 3;omega,b,g,e,_,AB,h1,h2,f⟩
  .cases hp
def UA{es:Array MapEntry}{clock:Nat}{k v:Value}(h:clock=es.size/\∀(i:Nat) (e:MapEntry),es[i]?=some e->e.born=i):
  clock+1=(es.push {key:=k,val:=v,born:=clock}).size/\∀(i:Nat) (e:MapEntry),(es.push {key:=k,val:=v,born:=clock})[i]?=some e->e.born=i:=by
 obtain⟨rfl,h⟩:=h;refine⟨AB,λi e he=>?_⟩;rw[aX] at he;split at he;.rename_i hi;cases he;exact hi.symm
 .exact h i e he
def Vp{es:Array MapEntry}{clock j:Nat}{f:MapEntry->MapEntry}(h:clock=es.size/\∀(i:Nat) (e:MapEntry),es[i]?=some e->e.born=i)(hf:∀e,(f e).born=e.born):
  clock=(es.modify j f).size/\∀(i:Nat) (e:MapEntry),(es.modify j f)[i]?=some e->e.born=i:=by
 refine⟨by simpa using h.1,λi e he=>?_⟩;rw[NZ] at he;split at he
 .cases hx:es[i]? with
  |none=>rw[hx] at he;cases he
  |some x=>rw[hx] at he;cases he;rw[hf];exact h.2 i x hx
 .exact h.2 i e he
def Oo(hi:Ic γ h w){g id:Nat}{es V4:List (Aa×Aa)}(Tj:h[id]?=some (.map es))(hg:γ.mu id=some g){o:Obj}{ents':Array MapEntry}{clock':Nat}(hw:w.heap[g]?=some o)(hr:wh γ V4 ents' clock'):
  Ic γ (h.set id (.map V4)) {w with heap:=w.heap.setIfInBounds g (.map ents' clock')}/\M1 γ w γ {w with heap:=w.heap.setIfInBounds g (.map ents' clock')}:=by
 obtain⟨l,p,Ul⟩:=hi.Nw id _ Tj AB;rw[hg] at p;cases p;obtain⟨Ok,c⟩:=MapKept.heap_set (o':= .map ents' clock') hw;have uniq:∀F9 x,h[F9]?=some x->x≠ .Ef->γ.mu F9=some g->F9=id:=λF9 x hx e hm=>by obtain⟨b',p,q⟩:=hi.Nw F9 x hx e;rw[hm] at p;cases p;rw[Ul] at q;cases q;rfl
 constructor
 .refine⟨λb o v hb=>?_,λF9 y Jk hy=>?_,λF9 cs hc b hb=>?_,λF9 f hc b hb=>?_,λF9 b hb=>by simpa using hi.mu F9 b hb,λb x hx=>?_,λb n hb=>?_⟩;rotate_left 5
  .obtain⟨⟨qR,j,wk,p,q⟩,r⟩:=hi.sz b n hb;have hne:b≠g:=λhe=>by subst he;obtain⟨i,d,k,_⟩:=hi.map id es Tj b hg;rw[p] at k;cases k
   exact⟨⟨qR,j,wk,by rw[c b hne];exact p,q⟩,r⟩
  .obtain⟨p,q,r⟩:=hi.IQ b o v hb;have:b≠g:=λhe=>by subst he;rw[Ul] at r;rcases r with r|⟨_,_,_,r,_⟩<;>cases r
   exact⟨by rw[CQ (w:=w) (c b this)];exact p,q,r⟩
  .by_cases he:F9=id;.subst he;exact⟨g,hg,Ul⟩
   .rw[Aq (λx=>he x.symm)] at Jk;exact hi.Nw F9 y Jk hy
  .by_cases he:F9=id;.subst he;rw[AI (hi.mu _ _ hg)] at hc;cases hc
   .rw[Aq (λx=>he x.symm)] at hc;have Se:b≠g:=λhx=>by subst hx;exact he (uniq F9 _ hc AB hb)
    obtain⟨qR,j,wk,p,pf,q,r⟩:=hi.cells F9 cs hc b hb;exact⟨qR,j,wk,by rw[c b Se];exact p,pf,q,r⟩
  .by_cases he:F9=id;.subst he;rw[hg] at hb;cases hb;rw[AI (hi.mu _ _ hg)] at hc;cases hc;exact⟨ents',clock',Ok,hr⟩
   .rw[Aq (λx=>he x.symm)] at hc;have Se:b≠g:=λhx=>by subst hx;exact he (uniq F9 _ hc AB hb)
    obtain⟨Ep,clock,p,q⟩:=hi.map F9 f hc b hb;exact⟨Ep,clock,by rw[c b Se];exact p,q⟩
  .have:=hi.BT b x hx;simpa using this
 .refine⟨.refl _,AB,rfl,rfl,rfl,λb hb hn=>⟨?_,rfl⟩⟩;exact c b (λhe=>by subst he;exact hn id Ul)
def Sl(hr:Db C γ0 w0 γ Z U h a w){x y z:Operand}{d c b:Aa}(ha:Bs C U [x,y,z]=some [d,c,b]):BP γ d (a.eval x)/\BP γ c (a.eval y)/\BP γ b (a.eval z):=by obtain⟨_,_,_,e,h1,h2,h3⟩:=(D8 hr ha).bI;simp only[Bj,DM,Cs,Jh] at e;obtain⟨rfl,rfl,rfl⟩:=e;exact⟨h1,h2,h3⟩
def mL{o:Oper}{t kt e:TypeId}{m k x:Operand}{n p g:Aa}{h':Ai}(ho:o.op= .insert t m k x\/o.op= .mapUpdate t m k x)(hd:o.dst=none)(ht:C.P.underlying t=some (.map kt e))(hk:C.P.underlying kt=some .string)(ha:Bs C U [m,k,x]=some [n,p,g])
  (hm:RN h n p g=some h') (hr:Db C γ0 w0 γ Z U h a w):Ga C γ0 w0 o a w U h':=by
 obtain⟨h1,h2,h3⟩:=Sl hr ha;have Nz:∀w',(Instr.mapUpdate t (a.eval m) (a.eval k) (a.eval x)).run C.P w= .ok () w'->(execOp a.eval o).run C.P w= .ok .skip w':=λw' AM=>by rcases ho with ho|ho<;>simp[execOp,ho,AM]
 unfold RN at hm;split at hm
 .rename_i id s;obtain⟨b,hb,mn⟩:=h1;have c:a.eval k= .string ⟨⟨s⟩⟩:=h2;split at hm
  .rename_i es Tj;cases hp:Oh s g es with
   |none=>rw[hp] at hm;cases hm
   |some V4=>
    rw[hp] at hm;cases hm;obtain⟨Ep,clock,hw,u,hB⟩:=hr.Ee.map id es Tj b hb;have mo:(Instr.checkKey false 10000 kt (.string ⟨⟨s⟩⟩)).run C.P w= .ok () w:=MapKept.run_checkKey (k:= .string ⟨⟨s⟩⟩) hk (by simp[MapKept.IsKey]) false 9999;rcases xF h3 (i:=0) u hp with⟨f,l⟩|⟨j,en,f,l,r,q⟩
    .have AM:(Instr.mapUpdate t (a.eval m) (a.eval k) (a.eval x)).run C.P w= .ok () {w with heap:=w.heap.setIfInBounds b (.map (Ep.push {key:= .string ⟨⟨s⟩⟩,val:=a.eval x,born:=clock}) (clock+1))}:=by rw[mn,c];simp[Instr.mapUpdate,run_underlying ht,MapKept.run_getObj_map hw,mo,MapKept.run_findKey hk f,MapKept.run_setObj_map _ hw,Result.andThen]
     obtain⟨hi,KH⟩:=Oo (V4:=V4) (ents':=Ep.push {key:= .string ⟨⟨s⟩⟩,val:=a.eval x,born:=clock}) (clock':=clock+1) hr.Ee Tj hb hw ⟨by simpa using l clock,UA hB⟩;exact Ga.skip (Nz _ AM) (by rw[hd];exact hr.Jw hi KH)
    .have hj:Ep[j]?=some en:=by simpa using l
     rw[BE] at f;have AM:(Instr.mapUpdate t (a.eval m) (a.eval k) (a.eval x)).run C.P w= .ok () {w with heap:=w.heap.setIfInBounds b (.map (Ep.modify j λe=>{e with key:= .string ⟨⟨s⟩⟩,val:=a.eval x}) clock)}:=by rw[mn,c];simp[Instr.mapUpdate,run_underlying ht,MapKept.run_getObj_map hw,mo,MapKept.run_findKey hk f,hj,r,MapKept.run_keyThatStays (d:= .string) (k:= .string ⟨⟨s⟩⟩) (by simp[MapKept.IsKey]),MapKept.run_setObj_map _ hw,Result.andThen]
     obtain⟨hi,KH⟩:=Oo (V4:=V4) (ents':=Ep.modify j λe=>{e with key:= .string ⟨⟨s⟩⟩,val:=a.eval x}) (clock':=clock) hr.Ee Tj hb hw ⟨by simpa using q,Vp hB λ_=>rfl⟩;exact Ga.skip (Nz _ AM) (by rw[hd];exact hr.Jw hi KH)
  .cases hm
 .cases hm
def xk{o:Oper}{t:TypeId}(ho:o.op= .makeMap t none)(hr:Db C γ0 w0 γ Z U h a w):Ga C γ0 w0 o a w (U.put o.dst (.val (.map (some h.length)))) (h++[.map []]):=by
 obtain⟨hi,ha⟩:=O8 hr.Ee (.map #[] 0) (.map []) none (.inr ⟨rfl,rfl,rfl⟩);have AM:(Instr.makeMap t none).run C.P w= .ok (.map (some w.heap.size)) (w.alloc (.map #[] 0)):=by simp[Instr.makeMap]
 exact Ga.value (by simp only[execOp,ho];exact DJ AM) ((hr.Jw hi ha).put λ_ _=>⟨w.heap.size,by simp[Gh.BU],rfl⟩)
def LP(key elem:TypeId)(index:Value)(commaOk:Bool)(es:Array MapEntry):Sem Value:=do
 Instr.checkKey es.isEmpty 10000 key index
 let(v,ok)<-match<-Instr.findKey key index es.toList with
  |some (_,v)=>pure (v,true)
  |none=>pure (<-zeroValue elem,false)
 pure (if commaOk then .tuple #[v,.bool ok] else v)
def xl{o:Oper}{t kt e:TypeId}{m k:Operand}{d f z r:Aa}{ok:Bool}(ho:o.op= .lookup t m k ok)(ht:C.P.underlying t=some (.map kt e))(hk:C.P.underlying kt=some .string)(hz:Hq C.P e=some z)(ha:Bs C U [m,k]=some [d,f])(hm:PV h z ok d f=some r)(hr:Db C γ0 w0 γ Z U h a w):
  Ga C γ0 w0 o a w (U.put o.dst (.val r)) h:=by
 obtain⟨_,_,e0,h1,h2⟩:=Fj hr ha;cases e0;obtain⟨l,ui,g⟩:=Iv hz;have Jz:∀(es:Array MapEntry) (q:Option Aa),(Instr.lookup t (a.eval m) (a.eval k) ok).run C.P w=(LP kt e (a.eval k) ok es).run C.P w->
   ∀s,a.eval k= .string ⟨⟨s⟩⟩->(match q with|none=>Instr.findNow .string (.string ⟨⟨s⟩⟩) es.toList 0=some none|some v=>∃(j:Nat) (e:MapEntry),Instr.findNow .string (.string ⟨⟨s⟩⟩) es.toList 0=some (some (0+j,e.val))/\BP γ v e.val)->
   (match q with|some v=>if ok then Aa.tuple [v,.bool true] else v|none=>if ok then .tuple [z,.bool false] else z)=r->Ga C γ0 w0 o a w (U.put o.dst (.val r)) h:=by
  intro es q Tj s xm hq Vo;have mo:(Instr.checkKey es.isEmpty 10000 kt (.string ⟨⟨s⟩⟩)).run C.P w= .ok () w:=MapKept.run_checkKey (k:= .string ⟨⟨s⟩⟩) hk (by simp[MapKept.IsKey]) es.isEmpty 9999;have AM:∃v,(Instr.lookup t (a.eval m) (a.eval k) ok).run C.P w= .ok v w/\BP γ r v:=by
   cases q with
   |none=>
    refine⟨if ok then .tuple #[l,.bool false] else l,?_,?_⟩;.rw[Tj,xm];unfold LP;simp only[Sem.run_bind,Result.andThen_ok,mo,MapKept.run_findKey hk hq,g,Sem.run_bind,Sem.run_pure]
    .rw[<-Vo];have c:=FI (γ:=γ) ui;cases ok with
     |true=>exact⟨_,rfl,_,_,rfl,c,_,_,rfl,rfl,rfl⟩
     |false=>exact c
   |some v=>
    obtain⟨j,en,p,n⟩:=hq;refine⟨if ok then .tuple #[en.val,.bool true] else en.val,?_,?_⟩;.rw[Tj,xm];unfold LP;simp only[Sem.run_bind,Result.andThen_ok,mo,MapKept.run_findKey hk p,Sem.run_bind,Sem.run_pure]
    .rw[<-Vo];cases ok with
     |true=>exact⟨_,rfl,_,_,rfl,n,_,_,rfl,rfl,rfl⟩
     |false=>exact n
  obtain⟨v,AM,xB⟩:=AM;exact Ga.value (by simp only[execOp,ho];exact DJ AM) (hr.put λ_ _=>xB)
 unfold PV at hm;cases hf:Uq h d f with
 |none=>rw[hf] at hm;cases hm
 |some q=>
  rw[hf] at hm;simp only[BV,BL] at hm;unfold Uq at hf;split at hf;.rename_i s;cases hf;exact Jz #[] none (by rw[show a.eval m=_ from h1];simp only[Instr.lookup,LP,Sem.run_bind,run_underlying ht,Result.andThen_ok,Sem.run_pure];rfl) s h2 rfl hm
  .rename_i id s;obtain⟨b,hb,mn⟩:=h1;split at hf;.rename_i es Tj;obtain⟨Ep,clock,hw,u,_⟩:=hr.Ee.map id es Tj b hb;exact Jz Ep q (by rw[mn];simp only[Instr.lookup,LP,Sem.run_bind,run_underlying ht,MapKept.run_getObj_map hw,Result.andThen_ok,Sem.run_pure];rfl) s h2 (mK (i:=0) u hf) hm
   .cases hf
  .cases hf
def XU{size:Nat}{v:Aa}(h:O3 size v=true):v= .slnil\/v= .GX size\/v= .sl size []:=by
 unfold O3 at h;split at h;.exact .inl rfl
 .exact .inr (.inl (by simpa using h))
 .exact .inr (.inr (by simpa using h))
 .cases h
def mq{o:Oper}{c:Call}{t t' e:TypeId}{n b:Nat}{s x:Operand}{v u r:Aa}{h':Ai}(ho:o.op= .call c)(hc:c.callee= .builtin .append)(h0:c.argTypes[0]?=some t)(h1:c.argTypes[1]?=some t')(E0:c.args.toList=[s,x])(ht:C.P.underlying t=some (.slice e))
  (JN:(∃H,C.P.underlying t'=some (.slice H))\/C.P.underlying t'=some .string) (Lk:B0 C.P e=some (n+1)) (xf:KD C.P e=some (b+1)) (FX:LX C U s=true) (lE:MZ C.P e=true) (hv:Bs C U [s,x]=some [v,u])
  (hp:Lf h (n+1) (b+1) v u=some (h',r)) (hr:Db C γ0 w0 γ Z U h a w):Ga C γ0 w0 o a w ((U.DT (Dr U s)).put o.dst (.val r)) h':=by
 obtain⟨i,z,hi,hz,eW⟩:=L2 lE;have RF:=Kj Lk hi;have G:=MH xf hi;obtain⟨_,_,e0,hvs,qG⟩:=Fj hr hv;cases e0;have ŏ:Fa C U s=some v:=by
  unfold Bs at hv;split at hv;.rename_i p ps J K;cases hv;exact J
  .cases hv
 have Jy:O3 (n+1) v=true/\((∃Ax,IW (n+1) (b+1) .slnil u=some (.sl (n+1) Ax)/\Ax≠[]/\u= .sl (n+1) Ax/\Ax.length*(b+1)<=AV/\h'=h++[.cells Ax.flatten]/\r= .Dn h.length 0 Ax.length (n+1))\/((u= .slnil\/(∃B,u= .GX B)\/∃B,u= .sl B [])/\h'=h/\r=v)):=by
  unfold Lf at hp;split at hp
  .rename_i B Ax;split at hp
   .rename_i WG;refine⟨WG,?_⟩;split at hp;.cases hp;exact .inr ⟨.inr (.inr ⟨_,rfl⟩),rfl,rfl⟩
    .rename_i hne;split at hp
     .rename_i Ii;cases hp;obtain⟨rfl,hb⟩:=Ii;refine .inl ⟨Ax,?_,hne,rfl,hb,rfl,rfl⟩;cases Ax with
      |nil=>exact absurd rfl hne
      |cons q Ax=>simp only[IW,DZ,BN];rw[Af hb]
     .cases hp
   .cases hp
  .split at hp;.rename_i WG;cases hp;exact⟨WG,.inr ⟨.inl rfl,rfl,rfl⟩⟩
   .cases hp
  .split at hp;.rename_i WG;simp only[Bb] at WG;cases hp;exact⟨WG.1,.inr ⟨.inr (.inl ⟨_,rfl⟩),rfl,rfl⟩⟩
   .cases hp
  .cases hp
 obtain⟨WG,Jy⟩:=Jy;obtain⟨F,EU,Kv,K5,m⟩:=Qq hr FX ŏ (U.DT (Dr U s)).length none;have K4:c.args.map a.eval=#[a.eval s,a.eval x]:=by apply HV;simp[E0]
 have Nz:∀v' w',(Builtin.append_ #[t,t'] o.type #[a.eval s,a.eval x]).run C.P w= .ok v' w'->(execOp a.eval o).run C.P w= .ok (.value v') w':=λv' w' AM=>by
  have:execOp a.eval o=(do pure (Next.value (<-Builtin.append_ #[t,t'] o.type #[a.eval s,a.eval x]))):=by rw[<-K4,<-Pj (ty:=o.type) h0 h1];simp only[execOp,ho,resolve,hc];rfl
  rw[this];exact DJ AM
 have xG:(a.eval s= .slice none 0 0/\v= .slnil)\/(∃g cap us y,a.eval s= .slice (some ⟨g,0,none⟩) 0 cap/\v= .sl (n+1) []/\F.BT g=some (.tail (U.DT (Dr U s)).length none 0)/\w0.heap.size<=g/\w.heap[g]?=some (.cells us y (0,0))/\us.size=cap*(n+1)/\cap<=maxLen)\/∃g,a.eval s= .slice (some ⟨g,0,none⟩) 0 0/\v= .GX (n+1):=by
  rcases m with(m|⟨I,m⟩)|⟨g,k,cap,us,y,I,rr,rL,J7,Ul,hB,hg,bD,œ,hm,uh⟩
  .rw[m] at K5;exact .inl ⟨K5,m⟩
  .rcases XU WG with xH|xH|xH
   .rw[xH] at m;cases m
   .rw[xH] at K5;obtain⟨g,K5⟩:=K5;exact .inr (.inr ⟨g,K5,xH⟩)
   .rw[xH] at m;cases m
  .rcases XU WG with xH|xH|xH
   .rw[xH] at rL;cases rL
   .rw[xH] at rL;cases rL
   .rw[xH] at rL;cases rL;have hk:k=0:=by rw[xH,J7] at K5;obtain⟨A,f,mI,_⟩:=K5;simp only[Value.slice.injEq] at mI;exact mI.2.1
    subst hk;exact .inr (.inl ⟨g,cap,us,y,J7,xH,by simpa using Ul,hB,hg,bD,hm⟩)
 rcases Jy with⟨Ax,JQ,hne,D,Tf,rfl,rfl⟩|⟨D,rfl,rfl⟩
 .obtain⟨d,news,Qs,K6,aBO,rJ⟩:=xC (w:=w) JN hr.Ee qG JQ;have mM:d=Ax:=by
   cases d with
   |nil=>simp[DZ] at Qs
   |cons q d=>
    simp only[DZ] at Qs;split at Qs;.cases Qs;rfl
    .cases Qs
  subst mM;have xg:=A8.mono EU _ _ aBO;have KG:Src C.P i.size t' (a.eval x) d.length news w:=by rw[RF];exact K6
  have RG:news.length=d.length*(n+1):=K6.newsLen;have Jj:d.flatten.length=news.length:=by rw[aBO.length]
  have hpos:0<d.length:=CB.2 hne;have Se:d.length<=AV:=Bv (Jg _ (C3 b)) Tf;have GL:∀(base:Option Addr) (cap:Nat),a.eval s= .slice base 0 cap->(Builtin.firstCells i.size 0 (.slice base 0 cap)).run C.P w.drew= .ok #[] w.drew->cap<d.length->
    Ga C γ0 w0 o a w ((U.DT (Dr U s)).put o.dst (.val (.Dn h.length 0 d.length (n+1)))) (h++[.cells d.flatten]):=by
   intro base cap hs l hlt;have GZ:=run_append_grow_src (P:=C.P) w t t' o.type e i z ht hi hz base 0 cap [] l (a.eval x) d.length news KG Ab (by simp only[AV] at Se;omega) (by rw[G,BE];exact growslice_fits hlt Tf);rw[<-hs,BE] at GZ;have IS:=grownCap_ge w d.length cap e;have Vq:(([]++news).toArray++Builtin.zeroCells z.cells (grownCap w d.length cap e-d.length)).toList.take d.flatten.length=news:=by simp only[Hm,BA];rw[Jj];exact E5
   have xn:(([]++news).toArray++Builtin.zeroCells z.cells (grownCap w d.length cap e-d.length)).size=grownCap w d.length cap e*(n+1):=by simp only[Kt,B5,size_zeroCells,eW,RF,BA,RG,<-BJ];congr 1;omega
   obtain⟨E,mG,XV,M5,Wb⟩:=Kv.drew.newObj (([]++news).toArray++Builtin.zeroCells z.cells (grownCap w d.length cap e-d.length)) e (0,0) d.flatten (.inl rfl) (by rw[Vq];exact xg) (by rw[Vq];exact K6.one);exact Ga.value (Nz _ _ GZ) (M5.put λ_ _=>⟨w.heap.size,_,XV,rfl,IS,⟨C3 n,grownCap_le_maxLen w _ _ _ (by simp only[AV] at Se;simp only[maxLen];omega)⟩,by rw[BE,<-xn];exact Wb⟩)
  rcases xG with⟨J7,rfl⟩|⟨g,cap,us,y,J7,rfl,Ul,hB,hg,bD,ř⟩|⟨g,J7,rfl⟩
  rotate_left 2;.exact GL (some ⟨g,0,none⟩) 0 J7 (by simpa using run_firstCells_some (P:=C.P) w.drew i.size 0 ⟨g,0,none⟩ 0 0 [] AB AB) hpos
  .exact GL none 0 J7 (run_firstCells_none _ _ _ _ _) hpos
  .by_cases hroom:d.length<=cap
   .have hfit:news.length<=us.size:=by rw[RG,bD];exact Ex _ hroom
    have AM:=run_append_room_src (P:=C.P) w t t' o.type e i ht hi g 0 0 cap (a.eval x) d.length news KG Ab (λj hj=>by rw[cell_of_row w _ _ us y (0,0) hg,RF,CR Ab];rfl) (λj hj=>frozen_of_row w _ _ us y hg)
    rw[Ns,BE,BE,EZ news 0 us w hg Ab,<-J7] at AM;have Vq:((us.toList.take 0++news++us.toList.drop (0+news.length)).toArray).toList.take d.flatten.length=news:=by simp only[Q6,BA];rw[Jj];exact E5
    obtain⟨E,mG,XV,M5,Wb⟩:=Kv.aHG Ul hB hg (us.toList.take 0++news++us.toList.drop (0+news.length)).toArray d.flatten (by rw[Vq];exact xg) (by rw[Vq];exact K6.one);exact Ga.value (Nz _ _ AM) (M5.put λ_ _=>⟨g,cap,XV,rfl,hroom,⟨C3 n,ř⟩,by rw[Wb,BE,<-bD];simp;omega⟩)
   .exact GL (some ⟨g,0,none⟩) cap J7 (by simpa using run_firstCells_some (P:=C.P) w.drew i.size 0 ⟨g,0,none⟩ 0 cap [] AB AB) Ab
 .have K6:Src C.P i.size t' (a.eval x) 0 [] w:=by
   rcases D with rfl|⟨B,rfl⟩|⟨B,rfl⟩
   .rw[show a.eval x=_ from qG];exact⟨JN,λ_=>rfl,run_firstCells_none w _ 0 0 0,run_firstCells_none w.drew _ 0 0 0,AB,AB⟩
   .obtain⟨g0,mI⟩:=qG;rw[mI];exact⟨JN,λ_=>rfl,by simpa using run_firstCells_some (P:=C.P) w i.size 0 ⟨g0,0,none⟩ 0 0 [] AB AB,by simpa using run_firstCells_some (P:=C.P) w.drew i.size 0 ⟨g0,0,none⟩ 0 0 [] AB AB,AB,AB⟩
   .obtain⟨A,f,mI,_⟩:=qG;rw[mI];exact⟨JN,λ_=>rfl,by simpa using run_firstCells_some (P:=C.P) w i.size 0 A 0 f [] AB AB,by simpa using run_firstCells_some (P:=C.P) w.drew i.size 0 A 0 f [] AB AB,AB,AB⟩
  rcases xG with⟨J7,rfl⟩|⟨g,cap,us,y,J7,rfl,Ul,hB,hg,bD,ř⟩|⟨g,J7,rfl⟩
  rotate_left 2;.have AM:=run_append_room_src (P:=C.P) w t t' o.type e i ht hi g 0 0 0 (a.eval x) 0 [] K6 Ab AB AB;rw[<-J7] at AM;simp only[World.setCells] at AM;exact Ga.value (Nz _ _ AM) (Kv.put λ_ _=>K5)
  .have AM:(Builtin.append_ #[t,t'] o.type #[a.eval s,a.eval x]).run C.P w= .ok (.slice none 0 0) w:=by rw[J7];have hl:=K6.len;have WH:=K6.cells;rcases JN with⟨H,hk⟩|hk<;>simp[Builtin.append_,run_underlying ht,run_underlying hk,sizeOf,typeInfo,hi,hl,WH]
   exact Ga.value (Nz _ _ AM) (Kv.put λ_ _=>rfl)
  .have AM:=run_append_room_src (P:=C.P) w t t' o.type e i ht hi g 0 0 cap (a.eval x) 0 [] K6 Ab AB AB;rw[<-J7] at AM;simp only[World.setCells] at AM;exact Ga.value (Nz _ _ AM) (Kv.put λ_ _=>K5)
def Db.kill(hr:Db C γ0 w0 γ Z U h a w)(id:Nat):Db C γ0 w0 γ Z U (h.set id .Ef) a w:=by
 have key:∀{F9:Nat} {x:GJ},(h.set id .Ef)[F9]?=some x->x≠ .Ef->h[F9]?=some x:=λ{F9 x} hx hd=>by
  by_cases he:id=F9
  .subst he;rw[aRN] at hx;simp only[BN] at hx;split at hx;.cases hx;exact absurd rfl hd
   .cases hx
  .rwa [Aq he] at hx
 exact⟨⟨hr.Ee.IQ,λF9 y Jk hy=>hr.Ee.Nw F9 y (key Jk hy) hy,λF9 cs hc b hb=>hr.Ee.cells F9 cs (key hc AB) b hb,λF9 es hc b hb=>hr.Ee.map F9 es (key hc AB) b hb,λF9 b hb=>by simpa using hr.Ee.mu F9 b hb,hr.Ee.BT,hr.Ee.sz⟩,hr.fr,hr.D7,hr.defers,hr.HB⟩
def Db.xo(hr:Db C γ0 w0 γ Z U h a w){id g:Nat}{cs:List Aa}(hcs:h[id]?=some (.cells cs))(hg:γ.mu id=some g){us:Array Value}{e:TypeId}{fr:Nat×Nat}(hw:w.heap[g]?=some (.cells us e fr))(Wc:γ.sz g=some us.size)(DR:Array Value)(Hp:List Aa)(bD:DR.size=us.size)(XC:Uw fr DR.size)
  (hv:A8 γ Hp (DR.toList.take Hp.length)) (h1:∀u∈DR.toList.take Hp.length,u.oneCell'=true):∃γ',γ.le γ'/\γ'.mu h.length=some g/\Db C γ0 w0 γ' Z U (h.set id .Ef++[.cells Hp]) a (w.setRow g DR)/\γ'.sz g=some us.size:=by
 obtain⟨i,p,Ul⟩:=hr.Ee.Nw id _ hcs AB;rw[hg] at p;cases p;have Ś:id<h.length:=hr.Ee.mu _ _ hg;have d:γ.mu h.length=none:=by
  cases hc:γ.mu h.length with
  |none=>rfl
  |some y=>exact absurd (hr.Ee.mu _ y hc) (DH _)
 have uniq:∀F9 x,h[F9]?=some x->x≠ .Ef->γ.mu F9=some g->F9=id:=λF9 x hx c hm=>by obtain⟨b',p,q⟩:=hr.Ee.Nw F9 x hx c;rw[hm] at p;cases p;rw[Ul] at q;cases q;rfl
 have EU:γ.le (γ.BU g h.length (some us.size)):=⟨λ_ _ _ hv=>hv,λF9 b hm=>by
  have:F9≠h.length:=λhe=>by rw[he,d] at hm;cases hm
  simp only[Gh.BU,Ac this];exact hm,λb n hm=>by
  by_cases he:b=g;.subst he;rw[Wc] at hm;cases hm;simp[Gh.BU]
  .simp only[Gh.BU,Ac he];exact hm⟩
 have old:∀{F9:Nat} {x:GJ},(h.set id .Ef++[GJ.cells Hp])[F9]?=some x->x≠ .Ef->F9≠h.length->h[F9]?=some x/\F9≠id:=λ{F9 x} hx hd hne=>by
  have hlt:F9<(h.set id .Ef).length:=by rw[Aj] at hx;obtain⟨hl,_⟩:=hx;simp at hl⊢;omega
  rw[Al hlt] at hx;by_cases he:id=F9;.subst he;rw[AI (by simpa using hlt)] at hx;cases hx;exact absurd rfl hd
  .rw[Aq he] at hx;exact⟨hx,λh=>he h.symm⟩
 have aMh:Ic (γ.BU g h.length (some us.size)) (h.set id .Ef++[.cells Hp]) (w.setRow g DR):=by
  refine⟨λb o v hb=>?_,λF9 y Jk hy=>?_,λF9 Tk hc b hb=>?_,λF9 es hc b hb=>?_,λF9 b hb=>?_,λb y hy=>?_,λb n hb=>?_⟩
  .obtain⟨p,q,r⟩:=hr.Ee.IQ b o v hb;have O7:b≠g:=λhe=>by subst he;rw[Ul] at r;rcases r with r|⟨_,_,_,r,_⟩<;>cases r
   exact⟨by rw[CQ (setRow_other w g b DR O7)];exact p,q,by simp only[Gh.BU,Ac O7];exact r⟩
  .by_cases he:F9=h.length;.exact⟨g,by simp[Gh.BU,he],by simp[Gh.BU,he]⟩
   .obtain⟨mr,hne⟩:=old Jk hy he;obtain⟨b,p,q⟩:=hr.Ee.Nw F9 y mr hy;have O7:b≠g:=λhx=>by subst hx;exact hne (uniq F9 y mr hy p)
    exact⟨b,by simp only[Gh.BU,Ac he];exact p,by simp only[Gh.BU,Ac O7];exact q⟩
  .by_cases he:F9=h.length;.subst he;simp[Gh.BU] at hb;subst hb;rw[Bu AB] at hc;simp at hc;subst hc;exact⟨DR,e,fr,setRow_heap w g us DR e fr hw,XC,A8.mono EU _ _ hv,h1⟩
   .simp only[Gh.BU,Ac he] at hb;obtain⟨Mn,hne⟩:=old hc AB he;have O7:b≠g:=λhx=>by subst hx;exact hne (uniq F9 _ Mn AB hb)
    obtain⟨qR,f,wk,p,pf,q,r⟩:=hr.Ee.cells F9 Tk Mn b hb;exact⟨qR,f,wk,by rw[setRow_other w g b DR O7];exact p,pf,A8.mono EU _ _ q,r⟩
  .by_cases he:F9=h.length;.subst he;rw[Bu AB] at hc;simp at hc
   .simp only[Gh.BU,Ac he] at hb;obtain⟨Mn,hne⟩:=old hc AB he;have O7:b≠g:=λhx=>by subst hx;exact hne (uniq F9 _ Mn AB hb)
    obtain⟨Ep,clock,p,q⟩:=hr.Ee.map F9 es Mn b hb;exact⟨Ep,clock,by rw[setRow_other w g b DR O7];exact p,q.mono EU⟩
  .by_cases he:F9=h.length;.simp[he]
   .simp only[Gh.BU,Ac he] at hb;have:=hr.Ee.mu F9 b hb;simp;omega
  .by_cases O7:b=g;.subst O7;have:=hr.Ee.BT _ _ Ul;simpa[World.setRow] using this
   .simp only[Gh.BU,Ac O7] at hy;have:=hr.Ee.BT b y hy;simpa[World.setRow] using this
  .by_cases he:b=g;.subst he;simp only[Gh.BU,BN] at hb;cases hb;exact⟨⟨DR,e,fr,setRow_heap w b us DR e fr hw,bD⟩,.inr ⟨h.length,by simp[Gh.BU]⟩⟩
   .simp only[Gh.BU,Ac he] at hb⊢;obtain⟨p,r⟩:=hr.Ee.sz b n hb;exact⟨by rw[setRow_other w g b DR he];exact p,r⟩
 refine⟨_,EU,by simp[Gh.BU],hr.Jw aMh ⟨EU,by simp[World.setRow],rfl,rfl,rfl,λb hb hn=>?_⟩,by simp[Gh.BU]⟩;have O7:b≠g:=λhe=>by subst he;exact hn id Ul
 exact⟨setRow_other w g b DR O7,by simp only[Gh.BU,Ac O7]⟩
def xq{o:Oper}{c:Call}{t t' e:TypeId}{n b:Nat}{s x:Operand}{v u r:Aa}{h':Ai}(ho:o.op= .call c)(hc:c.callee= .builtin .append)(h0:c.argTypes[0]?=some t)(h1:c.argTypes[1]?=some t')(E0:c.args.toList=[s,x])(ht:C.P.underlying t=some (.slice e))
  (JN:(∃L,C.P.underlying t'=some (.slice L))\/C.P.underlying t'=some .string) (Lk:B0 C.P e=some (n+1)) (xf:KD C.P e=some (b+1)) (lE:MZ C.P e=true) (hv:Bs C U [s,x]=some [v,u])
  (hp:GZ h (n+1) (b+1) v u=some (h',r)) (hr:Db C γ0 w0 γ Z U h a w):Ga C γ0 w0 o a w (U.put o.dst (.val r)) h':=by
 obtain⟨i,z,hi,hz,eW⟩:=L2 lE;have RF:=Kj Lk hi;have H:=MH xf hi;obtain⟨_,_,e0,hvs,qG⟩:=Fj hr hv;cases e0;have K4:c.args.map a.eval=#[a.eval s,a.eval x]:=by apply HV;simp[E0]
 have Nz:∀v' w',(Builtin.append_ #[t,t'] o.type #[a.eval s,a.eval x]).run C.P w= .ok v' w'->(execOp a.eval o).run C.P w= .ok (.value v') w':=λv' w' AM=>by
  have:execOp a.eval o=(do pure (Next.value (<-Builtin.append_ #[t,t'] o.type #[a.eval s,a.eval x]))):=by rw[<-K4,<-Pj (ty:=o.type) h0 h1];simp only[execOp,ho,resolve,hc];rfl
  rw[this];exact DJ AM
 unfold GZ at hp;cases hq:H0 h (n+1) u with
 |none=>rw[hq] at hp;cases hp
 |some Ax=>
  rw[hq] at hp;obtain⟨news,K6,WG,rJ⟩:=XQ (w:=w) JN hr.Ee qG hq;have KG:Src C.P i.size t' (a.eval x) Ax.length news w:=by rw[RF];exact K6
  have RG:news.length=Ax.length*(n+1):=K6.newsLen;have Jj:Ax.flatten.length=news.length:=by rw[WG.length]
  cases Ax with
  |nil=>
   have wX:news=[]:=CX (by simpa using RG);subst wX;cases v with
   |slnil=>
    cases hp;have J7:a.eval s= .slice none 0 0:=hvs;have AM:(Builtin.append_ #[t,t'] o.type #[a.eval s,a.eval x]).run C.P w= .ok (.slice none 0 0) w:=by rw[J7];have hl:=KG.len;have WH:=KG.cells;simp only[AW] at hl WH;rcases JN with⟨L,hk⟩|hk<;>simp[Builtin.append_,run_underlying ht,run_underlying hk,sizeOf,typeInfo,hi,hl,WH]
    exact Ga.value (Nz _ _ AM) (hr.put λ_ _=>rfl)
   |GX E=>
    simp only at hp;split at hp;.cases hp;obtain⟨g,J7⟩:=(show BP γ _ _ from hvs);have AM:=run_append_room_src (P:=C.P) w t t' o.type e i ht hi g 0 0 0 (a.eval x) 0 [] KG Ab AB AB;rw[<-J7] at AM;simp only[World.setCells,By] at AM;exact Ga.value (Nz _ _ AM) (hr.put λ_ _=>⟨g,J7⟩)
    .cases hp
   |Dn id off k E=>
    simp only at hp;split at hp;.cases hp;obtain⟨g,cap,hg,J7,œ,ug,Wc⟩:=(show BP γ _ _ from hvs);have AM:=run_append_room_src (P:=C.P) w t t' o.type e i ht hi g off k cap (a.eval x) 0 [] KG Ab AB AB;rw[<-J7] at AM;simp only[World.setCells,By] at AM;exact Ga.value (Nz _ _ AM) (hr.put λ_ _=>⟨g,cap,hg,rfl,œ,ug,Wc⟩)
    .cases hp
   |_=>cases hp
  |cons M l=>
   generalize hR:M::l=Ax at*;have hpos:0<Ax.length:=by rw[<-hR];simp
   have d:∀(h2:Ai) (base:Option Addr) (k cap:Nat) (JR:List Aa) (olds:List Value),Db C γ0 w0 γ Z U h2 a w->a.eval s= .slice base k cap->A8 γ JR olds->olds.length=k*(n+1)->(∀q∈olds,q.oneCell'=true)->
     (Builtin.firstCells i.size k (.slice base k cap)).run C.P w.drew= .ok olds.toArray w.drew->cap<k+Ax.length->(k+Ax.length)*(b+1)<=AV->
     Ga C γ0 w0 o a w (U.put o.dst (.val (.Dn h2.length 0 (k+Ax.length) (n+1)))) (h2++[.cells (JR++Ax.flatten)]):=by
    intro h2 base k cap JR olds M5 hs aHI Œ uf f hlt Tf;have Se:k+Ax.length<=AV:=Bv (Jg _ (C3 b)) Tf;have GZ:=run_append_grow_src (P:=C.P) w t t' o.type e i z ht hi hz base k cap olds f (a.eval x) Ax.length news KG hlt (by simp only[AV] at Se;omega) (by rw[H];exact growslice_fits hlt Tf);rw[<-hs] at GZ;have IS:=grownCap_ge w (k+Ax.length) cap e;have mi:(olds++news).length=(k+Ax.length)*(n+1):=by rw[Ao,Œ,RG,BJ]
    have eQ:(JR++Ax.flatten).length=(olds++news).length:=by rw[Ao,Ao,aHI.length,Jj]
    have xn:((olds++news).toArray++Builtin.zeroCells z.cells (grownCap w (k+Ax.length) cap e-(k+Ax.length))).size=grownCap w (k+Ax.length) cap e*(n+1):=by simp only[Kt,B5,size_zeroCells,eW,RF,mi,<-BJ];congr 1;omega
    have Vq:((olds++news).toArray++Builtin.zeroCells z.cells (grownCap w (k+Ax.length) cap e-(k+Ax.length))).toList.take (JR++Ax.flatten).length=olds++news:=by simp only[Hm];rw[eQ];exact E5
    obtain⟨D,mG,XV,G,Wb⟩:=M5.drew.newObj ((olds++news).toArray++Builtin.zeroCells z.cells (grownCap w (k+Ax.length) cap e-(k+Ax.length))) e (0,0) (JR++Ax.flatten) (.inl rfl) (by rw[Vq];exact aHI.append WG) (by rw[Vq];intro q hq;exact(An.1 hq).elim (uf q) (K6.one q))
    exact Ga.value (Nz _ _ GZ) (G.put λ_ _=>⟨w.heap.size,_,XV,rfl,IS,⟨C3 n,grownCap_le_maxLen w _ _ _ (by simp only[AV] at Se;simp only[maxLen];omega)⟩,by rw[BE,<-xn];exact Wb⟩)
   cases v with
   |slnil=>
    have J7:a.eval s= .slice none 0 0:=hvs;rw[<-hR] at hp;simp only at hp;rw[hR] at hp;split at hp;.rename_i Tf;cases hp;have:=d h none 0 0 [] [] hr J7 rfl AB AB (run_firstCells_none _ _ _ _ _) Ab (by simpa using Tf);simpa using this
    .cases hp
   |GX E=>
    obtain⟨g,J7⟩:=(show BP γ _ _ from hvs);rw[<-hR] at hp;simp only at hp;rw[hR] at hp;split at hp;.rename_i Tf;cases hp;have:=d h (some ⟨g,0,none⟩) 0 0 [] [] hr J7 rfl AB AB (by simpa using run_firstCells_some (P:=C.P) w.drew i.size 0 ⟨g,0,none⟩ 0 0 [] AB AB) Ab (by simpa using Tf.2);simpa using this
    .cases hp
   |Dn id off k E=>
    rw[<-hR] at hp;simp only at hp;rw[hR] at hp;split at hp
    .rename_i cs hcs;split at hp
     .rename_i uh;subst uh;obtain⟨g,cap,hg,J7,œ,ug,Wc⟩:=(show BP γ _ _ from hvs);obtain⟨us,K,fr,m,pf,B,A⟩:=hr.Ee.cells id cs hcs g hg;obtain⟨⟨ud,O,N,I,F⟩,_⟩:=hr.Ee.sz g _ Wc;rw[m] at I;cases I;have ue:cs.length<=us.size:=by have:=B.length;simp at this;omega
      have M4:∀j,(⟨g,off,none⟩:Addr).add j=⟨g,off+j,none⟩:=λj=>by unfold Addr.add;split<;>simp_all
      have p:∀o,o<us.size->w.frozen? ⟨g,o,none⟩=false:=λo ho=>by
       simp only[World.frozen?,m];rcases pf with rfl|XC
       .simp
       .simp;omega
      have room:k+Ax.length<=cap->(Builtin.append_ #[t,t'] o.type #[a.eval s,a.eval x]).run C.P w= .ok (.slice (some ⟨g,off,none⟩) (k+Ax.length) cap) (w.setRow g (us.toList.take (off+k*(n+1))++news++us.toList.drop (off+k*(n+1)+news.length)).toArray)/\off+k*(n+1)+news.length<=us.size:=by
       intro hroom;have hfit:off+k*(n+1)+news.length<=us.size:=by rw[RG,F,SP,<-BJ];exact Nat.add_le_add_left (Ex _ hroom) _
       have AM:=run_append_room_src (P:=C.P) w t t' o.type e i ht hi g off k cap (a.eval x) Ax.length news KG hroom (λj hj=>by rw[cell_of_row w _ _ us K fr m,RF,CR Ab];rfl) (λj hj=>by rw[RF];exact p _ Ab)
       rw[RF,EZ news _ us w m hfit,<-J7] at AM;exact⟨AM,hfit⟩
      have qX:(k+Ax.length)*(n+1)=k*(n+1)+Ax.length*(n+1):=BJ _ _ _;split at hp
      .rename_i ZH;cases hp;have hroom:k+Ax.length<=cap:=by have h3:(k+Ax.length)*(n+1)<=cap*(n+1):=Ab;exact Nat.le_of_mul_le_mul_right h3 (C3 n)
       obtain⟨AM,hfit⟩:=room hroom;have J:off+(k+Ax.length)*(n+1)=off+k*(n+1)+news.length:=by rw[RG,qX];omega
       have hcl:(cs.take (off+k*(n+1))++Ax.flatten++cs.drop (off+(k+Ax.length)*(n+1))).length=cs.length:=by rw[J,Ao,Ao,Ay,AX,Jj];omega
       have Vq:((us.toList.take (off+k*(n+1))++news++us.toList.drop (off+k*(n+1)+news.length)).toArray).toList.take (cs.take (off+k*(n+1))++Ax.flatten++cs.drop (off+(k+Ax.length)*(n+1))).length=
         (us.toList.take cs.length).take (off+k*(n+1))++news++(us.toList.take cs.length).drop (off+k*(n+1)+news.length):=by
        rw[hcl];simp only[LF];exact NJ (by simpa using ue) Ab rfl
       obtain⟨bR,UB⟩:=Oj hr.Ee hcs hg m (us.toList.take (off+k*(n+1))++news++us.toList.drop (off+k*(n+1)+news.length)).toArray (cs.take (off+k*(n+1))++Ax.flatten++cs.drop (off+(k+Ax.length)*(n+1)))
        (by simp only[B5,Ao,Ay,AX,Cp];omega)
        (by
         rcases pf with rfl|pf
         .exact .inl rfl
         .refine .inr (Bv (Nr ?_) pf);simp only[B5,Ao,Ay,AX,Cp];omega)
        (by rw[Vq,J];exact Pg B WG)
        (by
         rw[Vq];intro q hq;rcases An.1 hq with hq|hq
         .rcases An.1 hq with hq|hq
          .exact A q (AZ hq)
          .exact K6.one q hq
         .exact A q (AY hq))
       exact Ga.value (Nz _ _ AM) ((hr.Jw bR UB).put λ_ _=>⟨g,cap,hg,rfl,hroom,ug,Wc⟩)
      .rename_i aSa;split at hp
       .rename_i Ii;obtain⟨rfl,XF,Tf⟩:=Ii;cases hp;simp only[BE] at*;by_cases hroom:k+Ax.length<=cap
        .obtain⟨AM,hfit⟩:=room hroom;have eQ:(cs.take (k*(n+1))++Ax.flatten).length=k*(n+1)+news.length:=by rw[Ao,Ay,Jj];omega
         have Vq:((us.toList.take (k*(n+1))++news++us.toList.drop (k*(n+1)+news.length)).toArray).toList.take (cs.take (k*(n+1))++Ax.flatten).length=(us.toList.take cs.length).take (k*(n+1))++news:=by
          rw[eQ];simp only[LF];have:(us.toList.take (k*(n+1))++news).length=k*(n+1)+news.length:=by rw[Ao,Ay,Cp];omega
          rw[<-this,E5,CI,BO XF]
         obtain⟨D,mG,XV,M5,Wb⟩:=hr.xo hcs hg m (by rw[Wc,F]) (us.toList.take (k*(n+1))++news++us.toList.drop (k*(n+1)+news.length)).toArray (cs.take (k*(n+1))++Ax.flatten)
          (by simp only[B5,Ao,Ay,AX,Cp];omega)
          (by
           rcases pf with rfl|pf
           .exact .inl rfl
           .refine .inr (Bv (Nr ?_) pf);simp only[B5,Ao,Ay,AX,Cp];omega)
          (by rw[Vq];exact(B.take _).append WG)
          (by
           rw[Vq];intro q hq;rcases An.1 hq with hq|hq
           .exact A q (AZ hq)
           .exact K6.one q hq)
         exact Ga.value (Nz _ _ AM) (M5.put λ_ _=>⟨g,cap,XV,rfl,hroom,ug,by rw[Wb,F];simp⟩)
        .have Œ:((us.toList.take cs.length).take (k*(n+1))).length=k*(n+1):=Et;have:=d (h.set id .Ef) (some ⟨g,0,none⟩) k cap (cs.take (k*(n+1))) ((us.toList.take cs.length).take (k*(n+1))) (hr.kill id) J7 (B.take _) Œ (λq hq=>A q (AZ hq))
          (by
           rw[RF];exact run_firstCells_some w.drew _ _ _ _ _ _ Œ (λj y hj=>by
            rw[M4];show w.cell? _=_;rw[cell_of_row w _ _ us K fr m];rw[CA] at hj;split at hj
            .rw[CA] at hj;split at hj;.simpa using hj
             .cases hj
            .cases hj)) Ab Tf
         simpa using this
       .cases hp
     .cases hp
    .cases hp
   |_=>rw[<-hR] at hp;cases hp
def mN(hi:Ic γ h w){id g off:Nat}{cs b:List Aa}{news:List Value}(hcs:h[id]?=some (.cells cs))(hg:γ.mu id=some g)(hv:A8 γ b news)(h1:∀u∈news,u.oneCell'=true)(hl:off+b.length<=cs.length):
  ∃w',(storeCells ⟨g,off,none⟩ news).run C.P w= .ok () w'/\Ic γ (h.set id (.cells (cs.take off++b++cs.drop (off+b.length)))) w'/\M1 γ w γ w':=by
 obtain⟨us,e,fr,hw,pf,d,c⟩:=hi.cells id cs hcs g hg;have RG:news.length=b.length:=hv.length;have hlt:cs.length<=us.size:=by have:=d.length;simp at this;omega
 have hs:=run_storeCells_cells (P:=C.P) g off news 0 w (λj hj=>by
  rw[cell_of_row w _ _ us e fr hw,By,CR Ab];rfl) (λj hj=>by
  simp only[World.frozen?,hw];rcases pf with rfl|XC
  .simp
  .simp;omega) h1
 rw[By,EZ _ off us w hw Ab] at hs;have hcl:(cs.take off++b++cs.drop (off+b.length)).length=cs.length:=Et;have Vq:((us.toList.take off++news++us.toList.drop (off+news.length)).toArray).toList.take (cs.take off++b++cs.drop (off+b.length)).length=(us.toList.take cs.length).take off++news++(us.toList.take cs.length).drop (off+news.length):=by rw[hcl];simp only[LF];exact NJ (by simpa using hlt) Ab rfl
 obtain⟨xr,ha⟩:=Oj hi hcs hg hw (us.toList.take off++news++us.toList.drop (off+news.length)).toArray (cs.take off++b++cs.drop (off+b.length))
  (by simp only[B5,Ao,Ay,AX,Cp];omega)
  (by
   rcases pf with rfl|pf
   .exact .inl rfl
   .refine .inr (Bv (Nr ?_) pf);simp only[B5,Ao,Ay,AX,Cp];omega)
  (by rw[Vq,RG];exact Pg d hv)
  (by
   rw[Vq];intro q hq;rcases An.1 hq with hq|hq
   .rcases An.1 hq with hq|hq
    .exact c q (AZ hq)
    .exact h1 q hq
   .exact c q (AY hq))
 exact⟨_,hs,xr,ha⟩
def rM{t t' ty:TypeId}{ts:Array TypeId}{xs:Array Value}(h0:ts[0]?=some t)(h1:ts[1]?=some t'):Builtin.copy_ ts ty xs=Builtin.copy_ #[t,t'] ty xs:=by simp only[Builtin.copy_,h0];rfl
def mO{P:Program}{t t' ty e:TypeId}{i:TypeInfo}(ht:P.underlying t=some (.slice e))(hi:P.info? e=some i){x:Value}{n:Nat}{news:List Value}(hs:Src P i.size t' x n news w){base:Option Addr}{k cap:Nat}(hk:n<=k)
  (JM:∀b,base=some b->(storeCells b news).run P w= .ok () w') (xE:base=none->w'=w):(Builtin.copy_ #[t,t'] ty #[.slice base k cap,x]).run P w= .ok (.int .i64 n) w':=by
 have hl:=hs.len w;have hc:=hs.cells;have hm:Nat.min n k=n:=BO hk;cases base with
 |none=>cases xE rfl;simp[Builtin.copy_,run_underlying ht,hl,hc,sizeOf,typeInfo,hi,hm,goInt]
 |some b=>have h2:=JM b rfl;simp[Builtin.copy_,run_underlying ht,hl,hc,sizeOf,typeInfo,hi,hm,goInt,h2]
def xt{o:Oper}{c:Call}{t t' e:TypeId}{n:Nat}{s x:Operand}{v u r:Aa}{h':Ai}(ho:o.op= .call c)(hc:c.callee= .builtin .copy)(h0:c.argTypes[0]?=some t)(h1:c.argTypes[1]?=some t')(E0:c.args.toList=[s,x])(ht:C.P.underlying t=some (.slice e))
  (JN:(∃f,C.P.underlying t'=some (.slice f))\/C.P.underlying t'=some .string) (Lk:B0 C.P e=some (n+1)) (hv:Bs C U [s,x]=some [v,u])
  (hp:vh h (n+1) v u=some (h',r)) (hr:Db C γ0 w0 γ Z U h a w):Ga C γ0 w0 o a w (U.put o.dst (.val r)) h':=by
 obtain⟨_,_,e0,hvs,qG⟩:=Fj hr hv;cases e0;have K4:c.args.map a.eval=#[a.eval s,a.eval x]:=by apply HV;simp[E0]
 have Nz:∀v' w',(Builtin.copy_ #[t,t'] o.type #[a.eval s,a.eval x]).run C.P w= .ok v' w'->(execOp a.eval o).run C.P w= .ok (.value v') w':=λv' w' AM=>by
  have:execOp a.eval o=(do pure (Next.value (<-Builtin.copy_ #[t,t'] o.type #[a.eval s,a.eval x]))):=by rw[<-K4,<-rM (ty:=o.type) h0 h1];simp only[execOp,ho,resolve,hc];rfl
  rw[this];exact DJ AM
 cases hi:C.P.info? e with
 |none=>simp[B0,hi] at Lk
 |some i=>
 have RF:=Kj Lk hi;unfold vh at hp;cases hq:H0 h (n+1) u with
 |none=>rw[hq] at hp;cases hp
 |some Ax=>
  rw[hq] at hp;obtain⟨news,K6,WG,rJ⟩:=XQ (w:=w) JN hr.Ee qG hq;have KG:Src C.P i.size t' (a.eval x) Ax.length news w:=by rw[RF];exact K6
  have RG:news.length=Ax.length*(n+1):=K6.newsLen;have Jj:Ax.flatten.length=news.length:=by rw[WG.length]
  simp only at hp;split at hp
  .split at hp;.rename_i mw;cases hp;have J7:a.eval s= .slice none 0 0:=hvs;have AM:=mO (t:=t) (ty:=o.type) (w:=w) (w':=w) ht hi KG (base:=none) (k:=0) (cap:=0) Ab (λ_ e=>by cases e) (λ_=>rfl);rw[<-J7] at AM;rw[mw] at AM;exact Ga.value (Nz _ _ AM) (hr.put λ_ _=>rfl)
   .cases hp
  .rename_i id off k z;split at hp
   .rename_i cs hcs;split at hp;.rename_i Ii;obtain⟨rfl,b,hlen⟩:=Ii;cases hp;obtain⟨g,cap,hg,J7,œ,ug,Wc⟩:=(show BP γ _ _ from hvs);have hm:=Ex (n+1) b;obtain⟨w',JM,xr,d⟩:=mN (C:=C) (off:=off) hr.Ee hcs hg WG K6.one Ab;have AM:=mO (t:=t) (ty:=o.type) (w:=w) (w':=w') ht hi KG (base:=some ⟨g,off,none⟩) (k:=k) (cap:=cap) b (λ_ e=>by cases e;exact JM) (λe=>by cases e);rw[<-J7] at AM;rw[show Ax.length*(n+1)=Ax.flatten.length by rw[Jj,RG]];exact Ga.value (Nz _ _ AM) ((hr.Jw xr d).put λ_ _=>rfl)
    .cases hp
   .cases hp
  .cases hp
def mP{t ty:TypeId}{ts:Array TypeId}{xs:Array Value}(h0:ts[0]?=some t):Builtin.clear_ ts ty xs=Builtin.clear_ #[t] ty xs:=by simp only[Builtin.clear_,h0];rfl
def my{o:Oper}{c:Call}{t e:TypeId}{n:Nat}{s:Operand}{v z r:Aa}{h':Ai}(ho:o.op= .call c)(hc:c.callee= .builtin .clear)(h0:c.argTypes[0]?=some t)(E0:c.args.toList=[s])(ht:C.P.underlying t=some (.slice e))
  (Lk:B0 C.P e=some (n+1)) (hz:Hq C.P e=some z) (hv:Bs C U [s]=some [v]) (hp:Xp h (n+1) z.cells v=some (h',r)) (hr:Db C γ0 w0 γ Z U h a w):Ga C γ0 w0 o a w (U.put o.dst .undef) h':=by
 obtain⟨_,e0,hvs⟩:=Hb hr hv;cases e0;have K4:c.args.map a.eval=#[a.eval s]:=by apply HV;simp[E0]
 have Nz:∀v' w',(Builtin.clear_ #[t] o.type #[a.eval s]).run C.P w= .ok v' w'->(execOp a.eval o).run C.P w= .ok (.value v') w':=λv' w' AM=>by
  have:execOp a.eval o=(do pure (Next.value (<-Builtin.clear_ #[t] o.type #[a.eval s]))):=by rw[<-K4,<-mP (ty:=o.type) h0];simp only[execOp,ho,resolve,hc];rfl
  rw[this];exact DJ AM
 unfold Xp at hp;split at hp
 .cases hp;have J7:a.eval s= .slice none 0 0:=hvs;have AM:(Builtin.clear_ #[t] o.type #[a.eval s]).run C.P w= .ok (.tuple #[]) w:=by rw[J7];simp[Builtin.clear_,run_underlying ht]
  exact Ga.value (Nz _ _ AM) (hr.put λ_ _=>trivial)
 .rename_i id off k E;split at hp
  .rename_i cs hcs;split at hp
   .rename_i Ii;obtain⟨rfl,f,hlen⟩:=Ii;cases hp;obtain⟨g,cap,hg,J7,œ,ug,Wc⟩:=(show BP γ _ _ from hvs);obtain⟨d,ui,l⟩:=Iv hz;obtain⟨y,A⟩:=HK (γ:=γ) (FI ui) Ab;have eW:d.cells.size=n+1:=by have:=y.length;simp at this;omega
    have Jj:(List.replicate k z.cells).flatten.length=k*(n+1):=by rw[HM (z:=n+1) (λr hr=>by rw[aBv hr,f]),HW]
    have i:∀(j:Nat) (u:Value),(Builtin.zeroCells d.cells k).toList[j]?=some u->j<k*(n+1)/\d.cells.toList[j%(n+1)]?=some u:=by
     intro j u hj;have qI:j<k*(n+1):=by have:=(Aj.1 hj).1;simpa[size_zeroCells,eW] using this
     refine⟨qI,?_⟩;have aC2:j%(n+1)<d.cells.size:=by rw[eW];exact Nat.mod_lt _ (C3 n)
     simp only[Builtin.zeroCells,Oc,Dm] at hj;have b:(Array.range (k*d.cells.size)).toList[j]?=some j:=by simp[eW,qI]
     rw[b] at hj;simp only[BV,BL] at hj;rw[eW] at hj;rw[<-hj];simp[aC2]
    have B:A8 γ (List.replicate k z.cells).flatten (Builtin.zeroCells d.cells k).toList:=by refine A8.Hr (by simp only[Cp,size_zeroCells,eW,Jj]) λj x u hx hu=>?_;obtain⟨qI,p⟩:=i j u hu;rw[IA z.cells _ _ (by rw[f];exact qI),f] at hx;obtain⟨F,ls,m⟩:=y.get hx;rw[p] at ls;cases ls;exact m
    obtain⟨w',JM,xr,q⟩:=mN (C:=C) (off:=off) hr.Ee hcs hg B (λu hu=>by obtain⟨j,hj⟩:=CP hu;exact A u (CH (i j u hj).2)) Ab
    have AM:(Builtin.clear_ #[t] o.type #[a.eval s]).run C.P w= .ok (.tuple #[]) w':=by
     rw[J7];cases k with
     |zero=>
      have D:(Builtin.zeroCells d.cells 0).toList=[]:=by simp[Builtin.zeroCells]
      rw[D] at JM;have:w'=w:=by have h2:(storeCells ⟨g,off,none⟩ []).run C.P w= .ok () w:=rfl;rw[h2] at JM;cases JM;rfl
      rw[this];simp[Builtin.clear_,run_underlying ht]
     |succ k=>simp[Builtin.clear_,run_underlying ht,l,JM]
    rw[show k*(n+1)=(List.replicate k z.cells).flatten.length from Jj.symm];exact Ga.value (Nz _ _ AM) ((hr.Jw xr q).put λ_ _=>trivial)
   .cases hp
  .cases hp
 .cases hp
def xw{o:Oper}{t e:TypeId}{n:Nat}{x:Operand}{lo hi:Option Operand}{v r:Aa}{as:List Aa}{h':Ai}(ho:o.op= .slice t x lo hi none)(ht:C.P.underlying t=some (.slice e))(Lk:B0 C.P e=some (n+1))
  (hv:Bs C U (x::(lo.toList++hi.toList))=some (v::as)) (hp:lQ h (n+1) lo.isSome hi.isSome v as=some (h',r)) (hr:Db C γ0 w0 γ Z U h a w):Ga C γ0 w0 o a w (U.put o.dst (.val r)) h':=by
 have rL:=D8 hr hv;obtain⟨u,us,c,hx,xy⟩:=rL;simp only[Bj,Cs] at c;obtain⟨rfl,rfl⟩:=c;unfold lQ at hp;split at hp
 .rename_i id off k z;split at hp
  .rename_i cs hcs;split at hp
   .rename_i Ii;obtain⟨rfl,b,aHE⟩:=Ii;obtain⟨g,cap,hg,J7,œ,ug,Wc⟩:=(show BP γ _ _ from hx);cases hb:DY lo.isSome hi.isSome ((cs.length-off)/(n+1)) as with
    |none=>rw[hb] at hp;cases hp
    |some m=>
     obtain⟨l,q⟩:=m;rw[hb] at hp;simp only[Cw] at hp;split at hp
     .rename_i hlt;cases hp;obtain⟨us,c,fr,j,pf,i,E⟩:=hr.Ee.cells id cs hcs g hg;obtain⟨⟨ud,B,s,d,D⟩,_⟩:=hr.Ee.sz g _ Wc;rw[j] at d;cases d;have ue:cs.length<=us.size:=by have:=i.length;simp at this;omega
      have aMj:(cs.length-off)/(n+1)<=cap:=by refine Nat.div_le_of_le_mul ?_;rw[Nat.mul_comm];omega
      have f:∀y:Option Operand,(y.map a.eval).isSome=y.isSome:=λy=>by cases y<;>rfl
      have A:(lo.map a.eval).toList++(hi.map a.eval).toList=(lo.toList++hi.toList).map a.eval:=by cases lo<;>cases hi<;>rfl
      rw[<-f lo,<-f hi] at hb;obtain⟨p,G,F⟩:=Ll (P:=C.P) (w:=w) (isSlice:=true) hb (by rw[A];exact xy) aMj;have Ok:Instr.sliceBounds true k cap (lo.map a.eval) (hi.map a.eval) none=Instr.sliceBounds true ((cs.length-off)/(n+1)) cap (lo.map a.eval) (hi.map a.eval) none:=by
       cases hi with
       |none=>cases b
       |some y=>rfl
      have JN:C.P.underlying t=some (.slice (C.P.elem t)):=by simp[Program.elem,ht]
      have he:C.P.elem t=e:=by simp[Program.elem,ht]
      have AM:(Instr.sliceAt t (a.eval x) (lo.map a.eval) (hi.map a.eval) none).run C.P w= .ok (.slice (some ⟨g,off+l*(n+1),none⟩) (q-l) (cap-l)) w:=by rw[J7,run_sliceAt_slice w t _ _ _ _ JN,run_slice_any w t _ _ _ JN,Ok,p,he,Result.andThen_ok,DV Lk];show Result.ok (Value.slice (if cap=l then some ⟨g,off,none⟩ else Option.map (λq:Addr=>q.add (l*(n+1))) (some ⟨g,off,none⟩)) (q-l) (cap-l)) w=_;rw[Ac Ab];simp only[BV];unfold Addr.add;split<;>simp_all
      refine Ga.value (by simp only[execOp,ho];exact DJ AM) (hr.put λ_ _=>⟨g,cap-l,hg,rfl,Ab,⟨ug.1,Bv (Nat.sub_le _ _) ug.2⟩,?_⟩);rw[Wc,SP,<-BJ,aLU Ab]
     .cases hp
   .cases hp
  .cases hp
 .cases hp
def xz{o:Oper}{t e:TypeId}{n:Nat}{x lo hi mx:Operand}{args:List Aa}(ho:o.op= .slice t x (some lo) (some hi) (some mx))(ht:C.P.underlying t=some (.slice e))(Lk:B0 C.P e=some (n+1))
  (hv:Bs C U [x,lo,hi,mx]=some args) (hp:Xq (n+1) args=true) (hr:Db C γ0 w0 γ Z U h a w):Ga C γ0 w0 o a w (U.put o.dst .undef) h:=by
 have rL:=D8 hr hv;have JN:C.P.underlying t=some (.slice (C.P.elem t)):=by simp[Program.elem,ht]
 have he:C.P.elem t=e:=by simp[Program.elem,ht]
 have Jz:∀(base:Option Addr) (len cap:Nat) (kl kr d:IntKind) (l r m:Int),a.eval x= .slice base len cap->a.eval lo= .int kl l->a.eval hi= .int kr r->a.eval mx= .int d m->0<=l->l<=r->r<=m->m<=cap->Ga C γ0 w0 o a w (U.put o.dst .undef) h:=by
  intro base len cap kl kr d l r m z y u q h1 h2 h3 f;have AM:∃v,(Instr.sliceAt t (a.eval x) (some (a.eval lo)) (some (a.eval hi)) (some (a.eval mx))).run C.P w= .ok v w:=by
   have c:0<=m:=Ab;have b:0<=r:=Ab;have b1:∀code,(Instr.sliceBound (.int d m) cap code).run C.P w= .ok m.toNat w:=λcode=>by simp[Instr.sliceBound,asIntOf,c,f]
   have b2:∀code,(Instr.sliceBound (.int kr r) m.toNat code).run C.P w= .ok r.toNat w:=λcode=>by simp[Instr.sliceBound,asIntOf,b,IU c,h3]
   have b3:∀code,(Instr.sliceBound (.int kl l) r.toNat code).run C.P w= .ok l.toNat w:=λcode=>by simp[Instr.sliceBound,asIntOf,h1,IU b,h2]
   rw[z,y,u,q];simp[Instr.sliceAt,Instr.slice,run_underlying ht,Instr.sliceBounds,b1,b2,b3,DV Lk]
  obtain⟨v,AM⟩:=AM;exact Ga.value (by simp only[execOp,ho];exact DJ AM) (hr.put λ_ _=>trivial)
 unfold Xq at hp;split at hp
 .rename_i s _ l _ r _ m;obtain⟨E,p,f1,g1,D,qR,f2,g2,B,k,f3,g3,A,j,f4,i,f5⟩:=rL;subst f5;simp only[Bj,DM] at f1;subst f4;subst f3;subst f2;simp only[Cs,Jh] at f1;obtain⟨rfl,rfl,rfl,rfl⟩:=f1;split at hp;.simp only[Bb,Ct] at hp;obtain⟨⟨⟨⟨_,h1⟩,h2⟩,h3⟩,f⟩:=hp;obtain⟨g,cap,hg,J7,œ,_⟩:=(show BP γ _ _ from g1);exact Jz _ _ _ _ _ _ _ _ _ J7 (EK g2) (EK g3) (EK i) h1 h2 h3 Ab
  .simp only[Bb,Ct] at hp;obtain⟨⟨⟨⟨_,h1⟩,h2⟩,h3⟩,f⟩:=hp;obtain⟨F,cap,J7,œ,_⟩:=(show BP γ _ _ from g1);exact Jz _ _ _ _ _ _ _ _ _ J7 (EK g2) (EK g3) (EK i) h1 h2 h3 Ab
  .cases hp
 .cases hp
def x_{o:Oper}{t:TypeId}{x:Operand}{v:Aa}{u:TypeDesc}(ho:o.op= .makeInterface t x)(ht:C.P.underlying t=some u)(hn:∀i,u≠ .interface i)(hv:Bs C U [x]=some [v])(hr:Db C γ0 w0 γ Z U h a w):Ga C γ0 w0 o a w (U.put o.dst (.val (.iface t v))) h:=by
 obtain⟨_,e0,hvs⟩:=Hb hr hv;cases e0;have AM:(Instr.makeInterface t (a.eval x)).run C.P w= .ok (.iface t (a.eval x)) w:=by cases u<;>simp_all [Instr.makeInterface,run_underlying ht]
 exact Ga.value (by simp only[execOp,ho];exact DJ AM) (hr.put λ_ _=>⟨_,rfl,hvs⟩)
def Rh{n:Int}:∀{es:List (Aa×Aa)} {l:List MapEntry} {i:Nat} {r:Option (Nat×Aa)},LZ γ es l->IY n es i=some r->
  match r with
  |none=>Instr.findNow (.int .i64) (.int .i64 n) l i=some none
  |some (j,v)=>∃(e:MapEntry),Instr.findNow (.int .i64) (.int .i64 n) l i=some (some (j,e.val))/\BP γ v e.val/\i<=j/\l[j-i]?=some e/\e.key= .int .i64 n
 |[],l,i,r,b,hf=>by rw[show l=[] from b];cases hf;rfl
 |(k,v)::es,l,i,r,b,hf=>by
  obtain⟨e,l',rfl,h1,h2,h3⟩:=b;cases k with
  |int q t=>
   by_cases hq:q= .i64
   .subst hq;simp only[IY] at hf;have hk:e.key= .int .i64 t:=h1;split at hf;.rename_i JM;subst JM;cases hf;exact⟨e,by simp[Instr.findNow,hk,Instr.sameNow],h2,Ad _,AB,hk⟩
    .rename_i JM;have aHJ:(n==t)=false:=by simpa using JM
     have ih:=Rh (i:=i+1) h3 hf;cases r with
     |none=>simpa[Instr.findNow,hk,Instr.sameNow,aHJ] using ih
     |some p=>obtain⟨j,v2⟩:=p;obtain⟨m,g,f,o,d,c⟩:=ih;refine⟨m,by simpa[Instr.findNow,hk,Instr.sameNow,aHJ] using g,f,Ab,?_,c⟩;rw[(Ab:j-i=(j-(i+1))+1),Ud];exact d
   .exfalso;cases q<;>first|exact hq rfl|(simp[IY] at hf)
  |_=>simp[IY] at hf
def ya{o:Oper}{t kt e:TypeId}{m k:Operand}{g l z r:Aa}{ok:Bool}{h':Ai}(ho:o.op= .lookup t m k ok)(ht:C.P.underlying t=some (.map kt e))(hk:C.P.underlying kt=some (.int .i64))(hz:Hq C.P e=some z)(ha:Bs C U [m,k]=some [g,l])(hm:lR h z ok g l=some (h',r))(hr:Db C γ0 w0 γ Z U h a w):
  Ga C γ0 w0 o a w (U.put o.dst (.val r)) h':=by
 obtain⟨_,_,e0,h1,h2⟩:=Fj hr ha;cases e0;obtain⟨f,ui,d⟩:=Iv hz;have Jz:∀(es:Array MapEntry) (q:Option (Nat×Aa)),(Instr.lookup t (a.eval m) (a.eval k) ok).run C.P w=(LP kt e (a.eval k) ok es).run C.P w->
   ∀n,a.eval k= .int .i64 n->(match q with|none=>Instr.findNow (.int .i64) (.int .i64 n) es.toList 0=some none|some (j,v)=>∃(e:MapEntry),Instr.findNow (.int .i64) (.int .i64 n) es.toList 0=some (some (j,e.val))/\BP γ v e.val/\0<=j/\es.toList[j-0]?=some e/\e.key= .int .i64 n)->
   Ur z ok q=r->Ga C γ0 w0 o a w (U.put o.dst (.val r)) h:=by
  intro es q Tj n xm hq Vo;have mo:(Instr.checkKey es.isEmpty 10000 kt (.int .i64 n)).run C.P w= .ok () w:=MapKept.run_checkKey (k:= .int .i64 n) hk (by simp[MapKept.IsKey]) es.isEmpty 9999;have AM:∃v,(Instr.lookup t (a.eval m) (a.eval k) ok).run C.P w= .ok v w/\BP γ r v:=by
   cases q with
   |none=>
    refine⟨if ok then .tuple #[f,.bool false] else f,?_,?_⟩;.rw[Tj,xm];unfold LP;simp only[Sem.run_bind,Result.andThen_ok,mo,MapKept.run_findKey hk hq,d,Sem.run_bind,Sem.run_pure]
    .rw[<-Vo];have c:=FI (γ:=γ) ui;cases ok with
     |true=>exact⟨_,rfl,_,_,rfl,c,_,_,rfl,rfl,rfl⟩
     |false=>exact c
   |some p=>
    obtain⟨j,v⟩:=p;obtain⟨en,u,s,_⟩:=hq;refine⟨if ok then .tuple #[en.val,.bool true] else en.val,?_,?_⟩;.rw[Tj,xm];unfold LP;simp only[Sem.run_bind,Result.andThen_ok,mo,MapKept.run_findKey hk u,Sem.run_bind,Sem.run_pure]
    .rw[<-Vo];cases ok with
     |true=>exact⟨_,rfl,_,_,rfl,s,_,_,rfl,rfl,rfl⟩
     |false=>exact s
  obtain⟨v,AM,xB⟩:=AM;exact Ga.value (by simp only[execOp,ho];exact DJ AM) (hr.put λ_ _=>xB)
 unfold lR at hm;split at hm;.rename_i n;cases hm;exact Jz #[] none (by rw[show a.eval m=_ from h1];simp only[Instr.lookup,LP,Sem.run_bind,run_underlying ht,Result.andThen_ok,Sem.run_pure];rfl) n h2 rfl rfl
 .rename_i id n;obtain⟨b,hb,mn⟩:=h1;split at hm
  .rename_i es Tj;obtain⟨Ep,clock,hw,x,_⟩:=hr.Ee.map id es Tj b hb;cases hf:IY n es 0 with
   |none=>rw[hf] at hm;cases hm
   |some q=>
    rw[hf] at hm;simp only[BV,BL,Mj] at hm;obtain⟨rfl,hm⟩:=hm;refine Jz Ep q (by rw[mn];simp only[Instr.lookup,LP,Sem.run_bind,run_underlying ht,MapKept.run_getObj_map hw,Result.andThen_ok,Sem.run_pure];rfl) n h2 ?_ ?_
    .have:=Rh (i:=0) x hf;cases q with
     |none=>exact this
     |some p=>exact this
    .exact hm
  .cases hm
 .cases hm
def LZ.aC6{k v:Aa}{e:MapEntry}(hk:BP γ k e.key)(hv:BP γ v e.val):∀{es:List (Aa×Aa)} {l:List MapEntry},LZ γ es l->LZ γ (es++[(k,v)]) (l++[e])
 |[],l,b=>by rw[show l=[] from b];exact⟨e,[],rfl,hk,hv,rfl⟩
 |(k',v')::es,l,b=>by obtain⟨c,l',rfl,h1,h2,h3⟩:=b;exact⟨c,_,rfl,h1,h2,LZ.aC6 hk hv h3⟩
def LZ.length:∀{es:List (Aa×Aa)} {l:List MapEntry},LZ γ es l->l.length=es.length
 |[],l,b=>by rw[show l=[] from b];rfl
 |(k',v')::es,l,b=>by obtain⟨c,l',rfl,h1,h2,h3⟩:=b;simp[LZ.length h3]
def LZ.modify{v:Aa}{u:Value}(hv:BP γ v u):∀{es:List (Aa×Aa)} {l:List MapEntry} {j:Nat} {k v0:Aa},LZ γ es l->es[j]?=some (k,v0)->LZ γ (es.set j (k,v)) (l.modify j λe=>{e with val:=u})
 |[],l,j,k,v0,b,hj=>by simp at hj
 |(k',v')::es,l,j,k,v0,b,hj=>by
  obtain⟨c,l',rfl,h1,h2,h3⟩:=b;cases j with
  |zero=>cases hj;exact⟨{c with val:=u},l',AB,h1,hv,h3⟩
  |succ j=>exact⟨c,l'.modify j _,AB,h1,h2,LZ.modify hv h3 (by simpa using hj)⟩
def mQ{es:Array MapEntry}{j:Nat}{e:MapEntry}{k:Value}(hj:es[j]?=some e)(hk:e.key=k):(es.modify j λe=>{e with key:=k})=es:=by
 apply Q7;intro i;rw[NZ];split;.rename_i hi;subst hi;rw[hj];simp[<-hk]
 .rfl
def XW{o:Oper}{t kt e:TypeId}{m k:Operand}{kA z r:Aa}{kV:Value}{d:TypeDesc}{h':Ai}{id:Nat}{es:List (Aa×Aa)}{f:Option (Option (Nat×Aa))}(ho:o.op= .mapEntry t m k)(ht:C.P.underlying t=some (.map kt e))(hk:C.P.underlying kt=some d)(n:MapKept.IsKey d kV)(hz:Hq C.P e=some z)
  (h1:BP γ (.map (some id)) (a.eval m)) (g:a.eval k=kV) (u:BP γ kA kV) (Tj:h[id]?=some (.map es))
  (hq:∀(l:List MapEntry) q,LZ γ es l->f=some q->match q with
   |none=>Instr.findNow d kV l 0=some none
   |some (j,v)=>∃(e:MapEntry),Instr.findNow d kV l 0=some (some (j,e.val))/\BP γ v e.val/\0<=j/\l[j-0]?=some e/\e.key=kV)
  (hm:(f.map λr=>match r with
   |some (i,v)=>(h,Aa.tuple [v,.int .i64 i])
   |none=>(h.set id (.map (es++[(kA,z)])),.tuple [z,.int .i64 es.length]))=some (h',r)) (hr:Db C γ0 w0 γ Z U h a w):
  Ga C γ0 w0 o a w (U.put o.dst (.val r)) h':=by
 obtain⟨c,ui,s⟩:=Iv hz;obtain⟨b,hb,mn⟩:=h1;obtain⟨Ep,clock,hw,x,hB⟩:=hr.Ee.map id es Tj b hb;have mo:(Instr.checkKey false 10000 kt kV).run C.P w= .ok () w:=MapKept.run_checkKey (k:=kV) hk n false 9999;cases f with
 |none=>cases hm
 |some q=>
  have hq:=hq Ep.toList q x rfl;cases q with
  |none=>
   simp only[BV,BL,Mj] at hm;obtain⟨rfl,rfl⟩:=hm;have AM:(Instr.mapEntry t (a.eval m) (a.eval k)).run C.P w= .ok (.tuple #[c,goInt clock]) {w with heap:=w.heap.setIfInBounds b (.map (Ep.push {key:=kV,val:=c,born:=clock}) (clock+1))}:=by rw[mn,g];simp[Instr.mapEntry,run_underlying ht,MapKept.run_getObj_map hw,mo,MapKept.run_findKey hk hq,s,MapKept.run_setObj_map _ hw,Result.andThen]
   obtain⟨hi,KH⟩:=Oo (V4:=es++[(kA,z)]) (ents':=Ep.push {key:=kV,val:=c,born:=clock}) (clock':=clock+1) hr.Ee Tj hb hw ⟨by have:=LZ.aC6 (γ:=γ) (k:=kA) (v:=z) (e:={key:=kV,val:=c,born:=clock}) u (FI ui) x;simpa using this,UA hB⟩
   refine Ga.value (by simp only[execOp,ho];exact DJ AM) ((hr.Jw hi KH).put λ_ _=>⟨_,rfl,c,_,rfl,FI ui,_,[],rfl,?_,rfl⟩);rw[hB.1];have:=x.length;simp only[Cp] at this;rw[<-this];rfl
  |some p=>
   obtain⟨j,v⟩:=p;simp only[BV,BL,Mj] at hm;obtain⟨rfl,rfl⟩:=hm;obtain⟨en,D,B,_,A,y⟩:=hq;have hj:Ep[j]?=some en:=by simpa using A
   have aHK:=hB.2 j en hj;have mz:w.heap.setIfInBounds b (.map Ep clock)=w.heap:=by
    apply Q7;intro i;rw[Array.getElem?_setIfInBounds];split;.rename_i hi;subst hi;have hlt:=(AQ.1 hw).1;rw[Af hlt,hw]
    .rfl
   have AM:(Instr.mapEntry t (a.eval m) (a.eval k)).run C.P w= .ok (.tuple #[en.val,goInt j]) w:=by rw[mn,g];simp[Instr.mapEntry,run_underlying ht,MapKept.run_getObj_map hw,mo,MapKept.run_findKey hk D,hj,y,MapKept.run_keyThatStays (d:=d) (k:=kV) n,MapKept.run_setObj_map _ hw,Result.andThen,aHK,mQ hj y,mz]
   exact Ga.value (by simp only[execOp,ho];exact DJ AM) (hr.put λ_ _=>⟨_,rfl,_,_,rfl,B,_,[],rfl,rfl,rfl⟩)
def rN{o:Oper}{t kt e:TypeId}{m k:Operand}{b c z r:Aa}{h':Ai}(ho:o.op= .mapEntry t m k)(ht:C.P.underlying t=some (.map kt e))(hk:C.P.underlying kt=some (.int .i64))(hz:Hq C.P e=some z)(ha:Bs C U [m,k]=some [b,c])(hm:Wy h z b c=some (h',r))(hr:Db C γ0 w0 γ Z U h a w):
  Ga C γ0 w0 o a w (U.put o.dst (.val r)) h':=by
 obtain⟨_,_,e0,h1,h2⟩:=Fj hr ha;cases e0;unfold Wy at hm;split at hm
 .rename_i id n;split at hm;.rename_i es Tj;exact XW (kA:= .int .i64 n) (kV:= .int .i64 n) ho ht hk (by simp[MapKept.IsKey]) hz h1 h2 rfl Tj (λl q d hf=>Rh (i:=0) d hf) hm hr
  .cases hm
 .cases hm
def bS{s:Ah}:∀{es:List (Aa×Aa)} {l:List MapEntry} {i:Nat} {r:Option (Nat×Aa)},LZ γ es l->Sa s es i=some r->
  match r with
  |none=>Instr.findNow .string (.string ⟨⟨s⟩⟩) l i=some none
  |some (j,v)=>∃(e:MapEntry),Instr.findNow .string (.string ⟨⟨s⟩⟩) l i=some (some (j,e.val))/\BP γ v e.val/\i<=j/\l[j-i]?=some e/\e.key= .string ⟨⟨s⟩⟩
 |[],l,i,r,b,hf=>by rw[show l=[] from b];cases hf;rfl
 |(k,v)::es,l,i,r,b,hf=>by
  obtain⟨e,l',rfl,h1,h2,h3⟩:=b;cases k with
  |str t=>
   simp only[Sa] at hf;have hk:e.key= .string ⟨⟨t⟩⟩:=h1;split at hf;.rename_i JM;subst JM;cases hf;exact⟨e,by simp[Instr.findNow,hk,Instr.sameNow,Sk],h2,Ad _,AB,hk⟩
   .rename_i JM;have ih:=bS (i:=i+1) h3 hf;have hne:=XT JM;cases r with
    |none=>simpa[Instr.findNow,hk,Instr.sameNow,hne] using ih
    |some p=>obtain⟨j,v2⟩:=p;obtain⟨m,g,f,n,d,c⟩:=ih;refine⟨m,by simpa[Instr.findNow,hk,Instr.sameNow,hne] using g,f,Ab,?_,c⟩;rw[(Ab:j-i=(j-(i+1))+1),Ud];exact d
  |_=>simp[Sa] at hf
def rO{o:Oper}{t kt e:TypeId}{m k:Operand}{b c z r:Aa}{h':Ai}(ho:o.op= .mapEntry t m k)(ht:C.P.underlying t=some (.map kt e))(hk:C.P.underlying kt=some .string)(hz:Hq C.P e=some z)(ha:Bs C U [m,k]=some [b,c])(hm:Wz h z b c=some (h',r))(hr:Db C γ0 w0 γ Z U h a w):
  Ga C γ0 w0 o a w (U.put o.dst (.val r)) h':=by
 obtain⟨_,_,e0,h1,h2⟩:=Fj hr ha;cases e0;unfold Wz at hm;split at hm
 .rename_i id n;split at hm;.rename_i es Tj;exact XW (kA:= .str n) (kV:= .string ⟨⟨n⟩⟩) ho ht hk (by simp[MapKept.IsKey]) hz h1 h2 rfl Tj (λl q d hf=>bS (i:=0) d hf) hm hr
  .cases hm
 .cases hm
def mR{o:Oper}{t kt e:TypeId}{m k x:Operand}{f g c r:Aa}{h':Ai}(ho:o.op= .insert t m k x\/o.op= .mapUpdate t m k x)(hd:o.dst=none)(ht:C.P.underlying t=some (.map kt e))(hk:C.P.underlying kt=some (.int .i64))(ha:Bs C U [m,k,x]=some [f,g,c])
  (hm:wK h f g c=some (h',r)) (hr:Db C γ0 w0 γ Z U h a w):Ga C γ0 w0 o a w U h':=by
 obtain⟨h1,h2,h3⟩:=Sl hr ha;have Nz:∀w',(Instr.mapUpdate t (a.eval m) (a.eval k) (a.eval x)).run C.P w= .ok () w'->(execOp a.eval o).run C.P w= .ok .skip w':=λw' AM=>by rcases ho with ho|ho<;>simp[execOp,ho,AM]
 unfold wK at hm;split at hm
 .rename_i id n;obtain⟨b,hb,mn⟩:=h1;have d:a.eval k= .int .i64 n:=h2;split at hm
  .rename_i es Tj;obtain⟨Ep,clock,hw,j,hB⟩:=hr.Ee.map id es Tj b hb;have mo:(Instr.checkKey false 10000 kt (.int .i64 n)).run C.P w= .ok () w:=MapKept.run_checkKey (k:= .int .i64 n) hk (by simp[MapKept.IsKey]) false 9999;split at hm
   .rename_i hf;cases hm;have hq:=Rh (i:=0) j hf;have AM:(Instr.mapUpdate t (a.eval m) (a.eval k) (a.eval x)).run C.P w= .ok () {w with heap:=w.heap.setIfInBounds b (.map (Ep.push {key:= .int .i64 n,val:=a.eval x,born:=clock}) (clock+1))}:=by rw[mn,d];simp[Instr.mapUpdate,run_underlying ht,MapKept.run_getObj_map hw,mo,MapKept.run_findKey hk hq,MapKept.run_setObj_map _ hw,Result.andThen]
    obtain⟨hi,KH⟩:=Oo (V4:=es++[(.int .i64 n,c)]) (ents':=Ep.push {key:= .int .i64 n,val:=a.eval x,born:=clock}) (clock':=clock+1) hr.Ee Tj hb hw ⟨by have:=LZ.aC6 (γ:=γ) (k:= .int .i64 n) (v:=c) (e:={key:= .int .i64 n,val:=a.eval x,born:=clock}) rfl h3 j;simpa using this,UA hB⟩
    exact Ga.skip (Nz _ AM) (by rw[hd];exact hr.Jw hi KH)
   .cases hm
  .cases hm
 .cases hm
def fA{es:Array MapEntry}(hB:∀(i:Nat) (e:MapEntry),es[i]?=some e->e.born=i){j:Nat}{e:MapEntry}(hj:es[j]?=some e):es.findIdx? (λe=>(e.born:Int)==(j:Int))=some j:=by
 rw[Array.findIdx?_eq_some_iff_getElem];obtain⟨hl,he⟩:=AQ.1 hj;refine⟨hl,?_,λi hi=>?_⟩;.have:=hB j _ (CR hl);simp[this]
 .have:=hB i _ (CR Ab);simp[this];omega
def rP{o:Oper}{t:TypeId}{m s x:Operand}{f vs c r:Aa}{h':Ai}(ho:o.op= .entryStore t m s x)(hd:o.dst=none)(ha:Bs C U [m,s,x]=some [f,vs,c])(hm:S2 h f vs c=some (h',r))(hr:Db C γ0 w0 γ Z U h a w):Ga C γ0 w0 o a w U h':=by
 obtain⟨h1,h2,h3⟩:=Sl hr ha;have Nz:∀w',(Instr.entryStore t (a.eval m) (a.eval s) (a.eval x)).run C.P w= .ok () w'->(execOp a.eval o).run C.P w= .ok .skip w':=λw' AM=>by simp[execOp,ho,AM]
 unfold S2 at hm;split at hm
 .rename_i id n;obtain⟨b,hb,mn⟩:=h1;have J7:a.eval s= .int .i64 n:=h2;split at hm
  .rename_i es Tj;split at hm
   .rename_i hn;split at hm
    .rename_i kk v0 hk;cases hm;obtain⟨Ep,clock,hw,g,hB⟩:=hr.Ee.map id es Tj b hb;have hlen:=g.length;have hlt:=(Aj.1 hk).1;have d:∃en,Ep[n.toNat]?=some en:=⟨Ep[n.toNat]'(by simp at hlen;omega),CR _⟩;obtain⟨en,hj⟩:=d;have wX:((n.toNat:Nat):Int)=n:=Ab;have aHL:=fA hB.2 hj;rw[wX] at aHL;have AM:(Instr.entryStore t (a.eval m) (a.eval s) (a.eval x)).run C.P w= .ok () {w with heap:=w.heap.setIfInBounds b (.map (Ep.modify n.toNat λe=>{e with val:=a.eval x}) clock)}:=by rw[mn,J7];simp[Instr.entryStore,MapKept.run_getObj_map hw,asInt,asIntOf,aHL,MapKept.run_setObj_map _ hw,Result.andThen]
     obtain⟨hi,KH⟩:=Oo (V4:=es.set n.toNat (kk,c)) (ents':=Ep.modify n.toNat λe=>{e with val:=a.eval x}) (clock':=clock) hr.Ee Tj hb hw ⟨by have:=LZ.modify h3 g hk;simpa using this,Vp hB λ_=>rfl⟩
     exact Ga.skip (Nz _ AM) (by rw[hd];exact hr.Jw hi KH)
    .cases hm
   .cases hm
  .cases hm
 .cases hm
end
end Go.Am
end
section
section
namespace Go.Am
open Go
section
variable{C:Gj}{γ0 γ γ':Gh}{w0 w w':World}{O:Nat->Nat}{U U':BR}{h h':Ai}{a:Act}{fid:FuncId}{ops:List Oper}
def Ga.wp{o:Oper}{K:Act->World->Prop}{Q:Exit->Act->World->Prop}(hs:Ga C γ0 w0 o a w U' h')(b:∀γ' c a' w',Db C γ0 w0 γ' c U' h' a' w'->K a' w'):o.wp C.P a w K Q:=by
 obtain⟨γ',c,w',⟨v,he,hr⟩|⟨he,hr⟩⟩:=hs;.exact JP he (b _ _ _ _ hr)
 .exact qT he (b _ _ _ _ hr)
def ZV{P:Program}{op:BinOp}{t:TypeId}{p:ZG}(hp:Re P op t=some p):p.still=true:=by
 have K4:∀neg u,Us P t neg u=some p->p.still=true:=by
  intro neg u h;unfold Us at h;split at h;.cases h;rfl
  .split at h
   .cases hf:Qi P 20 t with
    |none=>rw[hf] at h;cases h
    |some k=>rw[hf] at h;cases h;rfl
   .cases h
  .split at h<;>cases h;rfl
  .cases h;rfl
  .cases h;rfl
  .cases h;rfl
  .cases h
 unfold Re at hp;split at hp;.cases hp;rfl
 .cases hp;rfl
 .split at hp;.exact K4 _ _ hp
  .exact K4 _ _ hp
  .cases hp
 .cases hp
def Oq{P:Program}{t:TypeId}{f off:Nat}{sh:Option Nat}(hf:IZ P t f=some (off,sh))(b o:Nat):(Instr.fieldAt t (.pointer (some ⟨b,o,none⟩)) f).run P w= .ok (.pointer (some ⟨b,o+off,none⟩)) w:=by
 unfold IZ at hf;split at hf
 .rename_i fs ls;split at hf
  .rename_i fd wY;split at hf;.rename_i n c h1 h2;cases hf;simp[Instr.fieldAt,run_underlying ls,wY,Instr.sureAddr,fieldPlace,DV h1,Addr.add_lit]
   .cases hf
  .cases hf
 .cases hf
def XX(hr:Db C γ0 w0 γ O U h a w){s ver:Nat}{cs:List Aa}{ow:List Nat}(hs:Eo C U (.tmp s)=some (.box ver cs ow)):a.eval (.tmp s)= .pointer (some ⟨O s,0,none⟩):=by have h0:=S9 hr s;rw[Hs hs] at h0;exact h0.1
def Vr(hr:Db C γ0 w0 γ O U h a w){x:Operand}{s k:Nat}(hs:Eo C U x=some (.Fu s k)):a.eval x= .pointer (some ⟨O s,k,none⟩):=by obtain⟨t,h1,_⟩:=Gx hr hs;exact h1
def bT{o:Oper}{t:TypeId}{v:Aa}{d:Nat}{r:EW}{run:IT->Ai->Option Ku}(hb:Vi C fid t v d=some r)(Gg:r.Ol C run (U.drop r.news) h U' h')
  (Qh:∀n,C.kind fid d= .Qh->v.cells.length=n->n≠0->Ga C γ0 w0 o a w ((U.drop [d]).set d (.box 0 v.cells [])) h)
  (heap:v.cells.length≠0->Ga C γ0 w0 o a w (U.put (some d) (.val (.ptr (some (h.length,0))))) (h++[.cells v.cells])):Ga C γ0 w0 o a w U' h':=by
 unfold Vi at hb;split at hb;.cases hb
 .rename_i n hn;split at hb;.cases hb
  .rename_i b;split at hb;.cases hb;obtain⟨h1,rfl,rfl⟩:=Gg;rename_i hk;exact Qh n hk h1 b
   .cases hb;obtain⟨h1,rfl,rfl⟩:=Gg;exact heap Ab
def Ri{d s k:Nat}{run:IT->Ai->Option Ku}(Gg:(EW.pure [(d,.Fu s k)]).Ol C run (U.drop (EW.pure [(d,.Fu s k)]).news) h U' h'):U'=U.set d (.Fu s k)/\h'=h:=by obtain⟨rfl,rfl⟩:=Gg;exact⟨rfl,rfl⟩
def yb{run:IT->Ai->Option Ku}(F:Fk C run){o:Oper}{r:EW}{K:Act->World->Prop}{Q:Exit->Act->World->Prop}(hc:Gu C fid ops U o=some r)(Gg:r.Ol C run (U.drop r.news) h U' h')(hr:Db C γ0 w0 γ O U h a w)
  (j:∀γ' R a' w',Db C γ0 w0 γ' R U' h' a' w'->K a' w'):o.wp C.P a w K Q:=by
 by_cases JM:∃p args dst BT E,r= .op p args dst BT E/\p.still=true
 .obtain⟨p,args,dst,BT,E,rfl,ś⟩:=JM
  obtain⟨J,rfl,rfl,rfl⟩:=mg hc ś hr
  obtain⟨v,hv,rfl,rfl⟩:=Gg
  obtain⟨u,N,M⟩:=J v hv
  exact JP N (j _ _ _ _ (hr.put λ_ _=>M))
 .have xE:∀{p args dst},r= .op p args dst false none->p.still=false:=λ{p args dst} he=>by
   cases hp:p.still with
   |false=>rfl
   |true=>exact absurd ⟨p,args,dst,false,none,he,hp⟩ JM
  have HZ:∀{p dst x},Ut p dst x=some r->p.still=false:=λ{p dst x} he=>by
   obtain⟨args,_,e⟩:=D9 he
   exact xE e
  unfold Gu at hc
  split at hc
  .rename_i x ho
   split at hc
   .rename_i d hd
    obtain⟨γ',HY⟩:=Tb hc Gg hr
    exact JP (w':=w) (v:=a.eval x) (by simp[execOp,ho]) (j _ _ _ _ (by rw[hd];exact HY))
   .cases hc
  .rename_i x ho
   split at hc
   .rename_i d hd
    obtain⟨γ',HY⟩:=Tb hc Gg hr
    exact JP (w':=w) (v:=a.eval x) (by simp[execOp,ho]) (j _ _ _ _ (by rw[hd];exact HY))
   .cases hc
  .rename_i c x y ho
   split at hc
   .rename_i d hcs hd
    obtain⟨γ',HY⟩:=Tb hc Gg hr
    obtain⟨s,h1,_⟩:=Gx hr hcs
    have h1:a.eval c= .bool true:=h1
    exact JP (w':=w) (v:=a.eval x) (by simp[execOp,ho,h1,asBool]) (j _ _ _ _ (by rw[hd];exact HY))
   .rename_i d hcs hd
    obtain⟨γ',HY⟩:=Tb hc Gg hr
    obtain⟨s,h1,_⟩:=Gx hr hcs
    have h1:a.eval c= .bool false:=h1
    exact JP (w':=w) (v:=a.eval y) (by simp[execOp,ho,h1,asBool]) (j _ _ _ _ (by rw[hd];exact HY))
   .cases HZ hc
  .rename_i t ho
   split at hc
   .rename_i d z hd hz
    split at hc
    .split at hc
     .rename_i Ii
      cases hc
      obtain⟨rfl,rfl⟩:=Gg
      exact(XI ho hd hz Ii.2 hr).wp j
     .cases hc
    .rename_i hk
     refine(bT (o:=o) (a:=a) (w:=w) (γ0:=γ0) (w0:=w0) hc Gg (λn h0 h1 h2=>absurd h0 (by simpa using hk)) λh1=>XJ ho hd hz h1 hr).wp j
   .cases hc
  .rename_i t x ho
   split at hc
   .rename_i d v hd hv
    exact(bT (o:=o) (a:=a) (w:=w) (γ0:=γ0) (w0:=w0) hc Gg (λn _ h1 h2=>eS ho hd hv h1 h2 hr) λh1=>eU ho hd hv h1 hr).wp j
   .cases hc
  .split at hc
   .split at hc
    .cases HZ hc
    .cases hc
   .cases hc
  .rename_i t len parts ho
   split at hc
   .rename_i e ht
    split at hc
    .rename_i n hn
     split at hc
     .rename_i Ii
      split at hc
      .rename_i hlen
       cases hc
       obtain⟨v,hv,rfl,rfl⟩:=Gg
       cases hv
       exact(xd ho ht hn Ii.1 Ii.2 hlen.1 hr).wp j
      cases ha:Bs C U (parts.toList.map (·.2)) with
      |none=>rw[ha] at hc;cases hc
      |some args=>
       rw[ha] at hc;cases hc
       obtain⟨v,hv,rfl,rfl⟩:=Gg
       exact(xc ho ht hn Ii.1 Ii.2 ha hv hr).wp j
     .cases hc
    .cases hc
   .cases hc
  .rename_i t x ho
   split at hc
   .rename_i d hd
    by_cases hp:∃ws,r= .pure ws
    .exact(ZS ho hd hc hp Gg hr).wp j
    .unfold Ms at hc
     split at hc
     .rename_i n p ht hx
      cases hc
      obtain⟨v,hv,rfl,rfl⟩:=Gg
      have hs:=xa ho ht hx hv hr
      rw[hd] at hs
      exact hs.wp j
     .split at hc
      .simp only at hc
       split at hc<;>(cases hc;exact absurd ⟨_,rfl⟩ hp)
      .cases hc
     .split at hc
      .cases hc;exact absurd ⟨_,rfl⟩ hp
      .cases hc
     .cases hc
   .cases hc
  .rename_i t x y ho
   split at hc
   .rename_i hd
    have Wd:=hc
    unfold J0 at hc
    split at hc
    .rename_i n p v Lk hx hv
     cases hc
     obtain⟨aMk,rfl⟩:=Gg
     exact(mh ho hd Lk hx hv aMk hr).wp j
    .split at hc
     .cases hc
      exact(rH ho hd Wd Gg hr).wp j
     .cases hc
    .cases hc
   .cases hc
  .rename_i x ho
   split at hc
   .rename_i s ver cs ow d hd hs
    cases hc
    obtain⟨rfl,rfl⟩:=Ri Gg
    have he:=XX hr hs
    exact JP (w':=w) (v:= .pointer (some ⟨O s,0,none⟩)) (by simp[execOp,ho,he]) (j _ _ _ _ (by rw[hd];exact hr.put (d:=some d) λ_ _=>rfl))
   .rename_i s k d hd hs
    cases hc
    obtain⟨rfl,rfl⟩:=Ri Gg
    have he:=Vr hr hs
    exact JP (w':=w) (v:= .pointer (some ⟨O s,k,none⟩)) (by simp[execOp,ho,he]) (j _ _ _ _ (by rw[hd];exact hr.put (d:=some d) λ_ _=>rfl))
   .cases HZ hc
  .split at hc
   .rename_i p hp
    have ś:=HZ hc
    rw[ZV hp] at ś
    cases ś
   .cases hc
  .cases HZ hc
  .rename_i src aL3 x ho
   split at hc
   .rename_i hq
    unfold Xt at hq
    cases hv:Fa C U x with
    |none=>rw[hv] at hc;cases hc
    |some v=>
     rw[hv] at hc;cases hc
     split at hq
     .cases hq
     .cases hq
     .cases hq
     .rename_i e hs hd
      split at hq
      .rename_i he
       obtain⟨v',u,h1,h2,rfl⟩:=Gg
       exact(ŕ ho hs hd he hv h1 h2 hr).wp j
      .cases hq
     .split at hq<;>cases hq
     .cases hq
   .rename_i hq
    unfold Xt at hq
    split at hq
    .cases hq
    .cases hq
    .cases hq
    .split at hq<;>cases hq
    .rename_i e hs hd
     split at hq
     .rename_i he _ _
      split at hc
      .cases hv:Fa C U x with
       |none=>rw[hv] at hc;cases hc
       |some v=>
        rw[hv] at hc;cases hc
        obtain⟨u,h1,rfl⟩:=Gg
        exact(eZ ho hs hd he hv h1 hr).wp j
      .obtain⟨args,ha,rfl⟩:=D9 hc
       obtain⟨u,h1,rfl,rfl⟩:=Gg
       obtain⟨v,rfl,_⟩:=Hb hr ha
       exact(Ŕ ho hs hd he ha h1 hr).wp j
     .cases hq
    .cases hq
   .rename_i p Te lD hq
    have ś:=HZ hc
    unfold Xt at hq
    split at hq
    .cases hq;cases ś
    .cases hq;cases ś
    .cases hq
    .split at hq
     .cases hq;exact absurd rfl Te
     .cases hq
    .split at hq
     .cases hq;exact absurd rfl lD
     .cases hq
    .cases hq
   .cases hc
  .rename_i fn first captured ho
   split at hc
   .rename_i d as bs fz hd ha hb
    cases hc
    obtain⟨rfl,rfl⟩:=Gg
    exact(mH ho hd ha hb hr).wp j
   .cases hc
  .rename_i t ho
   cases hc
   obtain⟨rfl,rfl⟩:=Gg
   exact(xk ho hr).wp j
  .rename_i t l c ho
   split at hc
   .rename_i e ht
    split at hc
    .rename_i n b z S vc hn hb hz hl WH
     cases hc
     obtain⟨v,h1,rfl⟩:=Gg
     exact(xh ho ht hn hb hz hl WH h1 hr).wp j
    .cases hc
   .cases hc
  .rename_i t m k x ho
   split at hc
   .rename_i kt e ht
    split at hc
    .rename_i B D H hd hk ha
     cases hc
     obtain⟨h1,rfl⟩:=Gg
     exact(mL (.inl ho) hd ht hk ha h1 hr).wp j
    .rename_i B D H hd hk ha
     cases hc
     obtain⟨v,h1,rfl⟩:=Gg
     exact(mR (.inl ho) hd ht hk ha h1 hr).wp j
    .cases hc
   .cases hc
  .rename_i t m k x ho
   split at hc
   .rename_i kt e ht
    split at hc
    .rename_i B D H hd hk ha
     cases hc
     obtain⟨h1,rfl⟩:=Gg
     exact(mL (.inr ho) hd ht hk ha h1 hr).wp j
    .rename_i B D H hd hk ha
     cases hc
     obtain⟨v,h1,rfl⟩:=Gg
     exact(mR (.inr ho) hd ht hk ha h1 hr).wp j
    .cases hc
   .cases hc
  .rename_i t m k ok ho
   split at hc
   .rename_i kt e ht
    split at hc
    .rename_i z B D hk hz ha
     cases hc
     obtain⟨v,h1,rfl,rfl⟩:=Gg
     exact(xl ho ht hk hz ha h1 hr).wp j
    .rename_i z B D hk hz ha
     cases hc
     obtain⟨v,h1,rfl⟩:=Gg
     exact(ya ho ht hk hz ha h1 hr).wp j
    .cases hc
   .cases hc
  .rename_i t x lo hi mx ho
   split at hc
   .rename_i e ht
    split at hc
    .rename_i n hn
     obtain⟨args,ha,rfl⟩:=HL hc
     obtain⟨v,h1,rfl⟩:=Gg
     simp only[Eu] at h1
     split at h1
     .rename_i I
      cases h1
      exact(xz ho ht hn ha I hr).wp j
     .cases h1
    .cases hc
   .cases hc
  .rename_i t x ho
   split at hc
   .cases hc
   .rename_i u hu ht
    obtain⟨args,ha,rfl⟩:=HL hc
    obtain⟨v,h1,rfl⟩:=Gg
    obtain⟨y,rfl,_⟩:=Hb hr ha
    cases h1
    exact(x_ ho ht (λi e=>hu i e) ha hr).wp j
   .cases hc
  .rename_i t m k ho
   split at hc
   .rename_i kt e ht
    split at hc
    .rename_i z hk hz
     obtain⟨args,ha,rfl⟩:=HL hc
     obtain⟨v,h1,rfl⟩:=Gg
     obtain⟨q,A,rfl,_,_⟩:=Fj hr ha
     exact(rN ho ht hk hz ha h1 hr).wp j
    .rename_i z hk hz
     obtain⟨args,ha,rfl⟩:=HL hc
     obtain⟨v,h1,rfl⟩:=Gg
     obtain⟨q,A,rfl,_,_⟩:=Fj hr ha
     exact(rO ho ht hk hz ha h1 hr).wp j
    .cases hc
   .cases hc
  .rename_i t m s x ho
   split at hc
   .rename_i hd
    obtain⟨args,ha,rfl⟩:=HL hc
    obtain⟨v,h1,rfl⟩:=Gg
    obtain⟨q,A,G,rfl⟩:∃q A G,args=[q,A,G]:=by
     have:=D8 hr ha
     cases args with
     |nil=>cases h1
     |cons q l1=>cases l1 with
      |nil=>cases h1
      |cons A l2=>cases l2 with
       |nil=>cases h1
       |cons G l3=>cases l3 with
        |nil=>exact⟨_,_,_,rfl⟩
        |cons _ _=>cases h1
    exact(rP ho hd ha h1 hr).wp j
   .cases hc
  .rename_i t x lo hi ho
   split at hc
   .cases HZ hc
   .rename_i e ht
    split at hc
    .rename_i n hn
     split at hc
     .obtain⟨args,ha,rfl⟩:=HL hc
      obtain⟨v,h1,rfl⟩:=Gg
      cases args with
      |nil=>cases h1
      |cons y l=>exact(xw ho ht hn ha h1 hr).wp j
     .cases HZ hc
    .cases hc
   .cases hc
  .rename_i t x f ho
   split at hc
   .rename_i off sh d hf hd
    split at hc
    .rename_i s ver cs ow hs
     cases hc
     obtain⟨rfl,rfl⟩:=Ri Gg
     have he:=XX hr hs
     exact JP (w':=w) (v:= .pointer (some ⟨O s,off,none⟩)) (by simp only[execOp,ho,he];exact E6 (by rw[Oq hf];simp)) (j _ _ _ _ (by rw[hd];exact hr.put (d:=some d) λ_ _=>rfl))
    .rename_i s k hs
     cases hc
     obtain⟨rfl,rfl⟩:=Ri Gg
     have he:=Vr hr hs
     exact JP (w':=w) (v:= .pointer (some ⟨O s,k+off,none⟩)) (by simp only[execOp,ho,he];exact E6 (Oq hf _ _)) (j _ _ _ _ (by rw[hd];exact hr.put (d:=some d) λ_ _=>rfl))
    .cases HZ hc
   .cases hc
  .split at hc
   .cases HZ hc
   .cases hc
  .split at hc
   .split at hc
    .cases HZ hc
    .cases hc
   .split at hc
    .split at hc
     .cases hc
     .cases HZ hc
    .cases hc
   .cases hc
  .split at hc
   .cases HZ hc
   .split at hc
    .cases HZ hc
    .cases hc
   .cases hc
  .cases HZ hc
  .rename_i c ho
   unfold Sb at hc
   split at hc
   .split at hc
    .split at hc
     .cases HZ hc
     .cases HZ hc
     .cases hc
    .cases hc
   .rename_i hcl
    split at hc
    .rename_i t t' s x h0 h1 E0
     split at hc
     all_goals first
      |(cases hc;done)
      | (rename_i e _ ht JN
         split at hc
         . rename_i n b hn hb
           split at hc
           . rename_i lE
             split at hc
             . rename_i v u ha
               split at hc
               . rename_i FX
                 split at hc
                 . cases hc
                   obtain ⟨r', h3, rfl⟩ := Gg
                   exact (mq ho hcl h0 h1 E0 ht (by first | exact .inl ⟨_, JN⟩ | exact .inr JN) hn hb FX lE ha h3 hr).wp j
                 . split at hc
                   . cases hc
                     obtain ⟨r', h3, rfl, rfl⟩ := Gg
                     exact (mJ ho hcl h0 h1 E0 ht (by first | exact .inl ⟨_, JN⟩ | exact .inr JN) hn hb FX lE ha h3 hr).wp j
                   . cases hc
                     obtain ⟨r', h3, rfl, rfl⟩ := Gg
                     exact (rK ho hcl h0 h1 E0 ht (by first | exact .inl ⟨_, JN⟩ | exact .inr JN) hn hb FX lE ha h3 hr).wp j
               . split at hc
                 . cases hc
                   obtain ⟨r', h3, rfl⟩ := Gg
                   exact (xq ho hcl h0 h1 E0 ht (by first | exact .inl ⟨_, JN⟩ | exact .inr JN) hn hb lE ha h3 hr).wp j
                 . cases hc
             . cases hc
           . cases hc
         . cases hc)
    .cases hc
   .rename_i hcl
    split at hc
    .rename_i t t' s x h0 h1 E0
     split at hc
     all_goals first
      |(cases hc;done)
      | (rename_i e _ ht JN
         split at hc
         . rename_i n hn
           obtain ⟨args, ha, rfl⟩ := HL hc
           obtain ⟨v, h3, rfl⟩ := Gg
           obtain ⟨q, A, rfl, _, _⟩ := Fj hr ha
           exact (xt ho hcl h0 h1 E0 ht (by first | exact .inl ⟨_, JN⟩ | exact .inr JN) hn ha h3 hr).wp j
         . cases hc)
    .cases hc
   .rename_i hcl
    split at hc
    .rename_i t s h0 E0
     split at hc
     .rename_i e ht
      split at hc
      .rename_i n z hn hz
       obtain⟨args,ha,rfl⟩:=HL hc
       obtain⟨v,h3,rfl⟩:=Gg
       obtain⟨q,rfl,_⟩:=Hb hr ha
       exact(my ho hcl h0 E0 ht hn hz ha h3 hr).wp j
      .cases hc
     .cases hc
    .cases hc
   .split at hc
    .cases HZ hc
    .cases hc
   .split at hc
    .cases HZ hc
    .cases hc
   .rename_i f hcl
    split at hc
    .rename_i hf
     split at hc
     .rename_i s i x E0
      split at hc
      .rename_i FX
       obtain⟨args,ha,rfl⟩:=HL hc
       obtain⟨v,h3,rfl⟩:=Gg
       exact Ŗ F ho hcl hf E0 FX ha h3 hr λγ' v w' HY=>j _ _ _ _ HY
      .cases hc
     .cases hc
    split at hc
    rotate_left
    .cases hc
    rename_i Vo
    rw[<-Vo] at hcl
    cases ha:Bs C U c.args.toList with
    |none=>rw[ha] at hc;cases hc
    |some args=>
     rw[ha] at hc
     simp only[BV,BL] at hc
     split at hc
     .cases hc
      obtain⟨Jj,L,h1,h2,h3,rfl,rfl⟩:=Gg
      exact mj F ho hcl ha Jj h2 h3 hr λγ' v w' HY=>j _ _ _ _ HY
     .cases hc
      obtain⟨L,h1,rfl⟩:=Gg
      exact xj F ho hcl ha h1 hr λγ' v w' HY=>j _ _ _ _ HY
   .rename_i g hn hcl
    split at hc
    .rename_i T args hg ha
     cases hc
     obtain⟨f,args',L,h0,h1,rfl⟩:=Gg
     exact ml F ho hcl hg ha h0 h1 hr λγ' v w' HY=>j _ _ _ _ HY
    .cases hc
   .cases hc
  .cases hc
end
end Go.Am
end
section
namespace Go.Am
open Go
section
variable{C:Gj}{U Z:BR}{fid:FuncId}{ops:List Oper}
def fB{x:Operand}(h:∀t,x= .tmp t->Z.at t=U.at t):Eo C Z x=Eo C U x:=by
 cases x with
 |tmp t=>simp only[Eo,h t rfl]
 |const v=>
  cases v with
  |slice a b c=>cases a<;>cases b<;>cases c<;>rfl
  |_=>rfl
 |global g=>rfl
 |func f=>rfl
def WI(C:Gj)(U Z:BR)(xs:List Operand):Prop:=∀x∈xs,Eo C Z x=Eo C U x
def WI.xI{xs:List Operand}(h:∀t∈Li xs,Z.at t=U.at t):WI C U Z xs:=λx hx=>fB λt ht=>h t (by subst ht;exact Cq.2 ⟨_,hx,rfl⟩)
def WI.val{xs:List Operand}(h:WI C U Z xs){x:Operand}(hx:x∈xs):Fa C Z x=Fa C U x:=by unfold Fa;rw[h x hx]
def WI.Lm{xs:List Operand}(h:WI C U Z xs):∀{ys:List Operand},(∀y∈ys,y∈xs)->Bs C Z ys=Bs C U ys
 |[],_=>rfl
 |y::ys,hy=>by unfold Bs;rw[h.val (hy y AB),h.Lm λz hz=>hy z (by simp[hz])]
def WI.move{xs:List Operand}(h:WI C U Z xs){x:Operand}(hx:x∈xs)(d:Nat)(take:Bool):Lh C Z x d take=Lh C U x d take:=by unfold Lh;rw[h x hx]
def WI.BT{xs:List Operand}(h:WI C U Z xs){x:Operand}(hx:x∈xs):LX C Z x=LX C U x:=by unfold LX;rw[h x hx]
def WI.DT{xs:List Operand}(h:WI C U Z xs){x:Operand}(hx:x∈xs):Dr Z x=Dr U x:=by
 cases x with
 |tmp t=>have:=h _ hx;simp only[Eo,BL] at this;simp only[Dr,this]
 |_=>rfl
def WI.HI{xs:List Operand}(h:WI C U Z xs):∀{ys:List Operand},(∀y∈ys,y∈xs)->Am.HI C Z ys=Am.HI C U ys
 |[],_=>rfl
 |y::ys,hy=>by unfold Am.HI;rw[h y (hy y AB),h.HI λz hz=>hy z (by simp[hz])]
def WI.addr{xs:List Operand}(h:WI C U Z xs){x:Operand}(hx:x∈xs)(hb:∀s∈(O4 C U x).toList,Z.at s=U.at s)(hn:Gt C U x≠none):Gt C Z x=Gt C U x:=by
 have NH:=h x hx;cases hs:Eo C U x with
 |none=>unfold Gt at hn;rw[hs] at hn;exact absurd (by split<;>simp_all) hn
 |some sl=>
  rw[hs] at NH;cases sl with
  |Fu s o=>
   have h1:∀J:BR,Eo C J x=some (.Fu s o)->Gt C J x=match J.at s with| .box ver cs ow=>some (.Qh s o ver cs ow)|_=>none:=λJ b=>by unfold Gt;rw[b];cases x<;>rfl
   rw[h1 U hs] at hn⊢;rw[h1 Z NH];have h2:s∈(O4 C U x).toList:=by
    unfold O4;rw[h1 U hs];cases Se:U.at s with
    |box ver cs ow=>simp
    |_=>rw[Se] at hn;exact absurd rfl hn
   rw[hb s h2]
  |_=>unfold Gt;rw[hs,NH];cases x<;>rfl
def WI.load{xs:List Operand}(h:WI C U Z xs){x:Operand}(hx:x∈xs)(hb:∀s∈(O4 C U x).toList,Z.at s=U.at s){t:TypeId}{d:Nat}{take:Bool}{r:EW}(hc:Ms C U t x d take=some r):Ms C Z t x d take=some r:=by
 have hn:Gt C U x≠none:=λhe=>by unfold Ms at hc;rw[he] at hc;split at hc<;>simp_all
 unfold Ms at hc⊢;rw[h.addr hx hb hn];exact hc
def WI.store{xs:List Operand}(h:WI C U Z xs){x y:Operand}(hx:x∈xs)(hy:y∈xs)(hb:∀s∈(O4 C U x).toList,Z.at s=U.at s){t:TypeId}{r:EW}(hc:J0 C U t x y=some r):J0 C Z t x y=some r:=by
 have hn:Gt C U x≠none:=λhe=>by unfold J0 at hc;rw[he] at hc;split at hc<;>simp_all
 unfold J0 at hc⊢;rw[h.addr hx hb hn,h.val hy,h.BT hy,h.DT hy];exact hc
def WI.call{c:Call}(h:WI C U Z c.operands.toList)(dst:Option Nat):Sb C fid Z c dst=Sb C fid U c dst:=by
 have ha:∀y∈c.args.toList,y∈c.operands.toList:=λy hy=>by unfold Call.operands;rw[Hm];exact BI _ hy
 have hv:Bs C Z c.args.toList=Bs C U c.args.toList:=h.Lm ha;unfold Sb;split;.rw[hv]
 .split
  .rename_i E0;have h1:∀{s x:Operand},c.args.toList=[s,x]->LX C Z s=LX C U s/\Dr Z s=Dr U s/\Bs C Z [s,x]=Bs C U [s,x]:=λ{s x} he=>by rw[he] at ha;exact⟨h.BT (ha s AB),h.DT (ha s AB),h.Lm λy hy=>ha y hy⟩
   obtain⟨e,d,b⟩:=h1 E0;rw[e,d,b]
  .rfl
 .split;.rename_i E0;rw[E0] at ha;rw[h.Lm λy hy=>ha y hy]
  .rfl
 .split;.rename_i E0;rw[E0] at ha;rw[h.Lm λy hy=>ha y hy]
  .rfl
 .rw[hv]
 .rw[hv]
 .split
  .split;.rename_i s i v E0;rw[E0] at ha;rw[h.BT (ha v AB),h.Lm λy hy=>ha y hy]
   .rfl
  .rw[hv]
 .rename_i g _ hcl;have hg:g∈c.operands.toList:=by unfold Call.operands;rw[hcl];simp
  rw[hv,h.val hg]
 .rfl
def XY{o:Oper}{r:EW}(hc:Gu C fid ops U o=some r)(ht:∀t∈Li o.op.operands.toList,Z.at t=U.at t)(hb:∀s∈Iu C U o,Z.at s=U.at s):Gu C fid ops Z o=some r:=by
 have h:WI C U Z o.op.operands.toList:= .xI ht
 unfold Gu at hc⊢
 cases ho:o.op with
 |move x=>
  rw[ho] at h
  simp only[ho] at hc⊢
  have:=λd=>h.move (x:=x) (by simp[Op.operands]) d
  simpa only[this] using hc
 |assign x=>
  rw[ho] at h
  simp only[ho] at hc⊢
  have:=λd=>h.move (x:=x) (by simp[Op.operands]) d
  simpa only[this] using hc
 |pick c a b=>
  rw[ho] at h
  simp only[ho] at hc⊢
  have h1:=λd=>h.move (x:=a) (by simp[Op.operands]) d
  have h2:=λd=>h.move (x:=b) (by simp[Op.operands]) d
  rw[h c (by simp[Op.operands]),h.Lm (ys:=[c,a,b]) (by simp[Op.operands])]
  simpa only[h1,h2] using hc
 |alloc t=>rw[ho] at hc;exact hc
 |box t x=>
  rw[ho] at h
  simp only[ho] at hc⊢
  rw[h.val (x:=x) (by simp[Op.operands])]
  exact hc
 |build t parts=>
  rw[ho] at h
  simp only[ho] at hc⊢
  rw[h.Lm (ys:=parts.toList.map (·.2)) (by simp[Op.operands])]
  exact hc
 |buildSlice t len parts=>
  rw[ho] at h
  simp only[ho] at hc⊢
  rw[h.Lm (ys:=parts.toList.map (·.2)) (by simp[Op.operands])]
  exact hc
 |load t x=>
  rw[ho] at h
  simp only[ho] at hc⊢
  split at hc
  .exact h.load (by simp[Op.operands]) (λs hs=>hb s (by simpa only[Iu,ho] using hs)) hc
  .cases hc
 |store t x y=>
  rw[ho] at h
  simp only[ho] at hc⊢
  split at hc
  .exact h.store (by simp[Op.operands]) (by simp[Op.operands]) (λs hs=>hb s (by simpa only[Iu,ho] using hs)) hc
  .cases hc
 |nilCheck x=>
  rw[ho] at h
  simp only[ho] at hc⊢
  have e:=h.Lm (ys:=[x]) (by simp[Op.operands])
  rw[h x (by simp[Op.operands])]
  cases hs:Eo C U x with
  |none=>rw[hs] at hc;cases x<;>cases hd:o.dst<;>rw[hd] at hc<;>first|exact hc|(show Ut _ _ (Bs C Z [_])=some r;rw[e];exact hc)
  |some sl=>rw[hs] at hc;cases sl<;>cases x<;>cases hd:o.dst<;>rw[hd] at hc<;>first|exact hc|(show Ut _ _ (Bs C Z [_])=some r;rw[e];exact hc)
 |binOp op t x y k=>
  rw[ho] at h
  simp only[ho] at hc⊢
  rw[h.Lm (ys:=[x,y]) (by simp[Op.operands])]
  exact hc
 |unOp op t x=>
  rw[ho] at h
  simp only[ho] at hc⊢
  rw[h.Lm (ys:=[x]) (by simp[Op.operands])]
  exact hc
 |convert src dst x=>
  rw[ho] at h
  simp only[ho] at hc⊢
  rw[h.Lm (ys:=[x]) (by simp[Op.operands]),h.val (x:=x) (by simp[Op.operands])]
  exact hc
 |makeFunc fn first captured=>
  rw[ho] at h
  simp only[ho] at hc⊢
  rw[h.Lm (ys:=first.toList) (λ_ hm=>by simp[Op.operands,hm]),h.HI (ys:=captured.toList) (λ_ hm=>by simp[Op.operands,hm])]
  exact hc
 |makeMap t r'=>
  rw[ho] at hc
  cases r' with
  |none=>exact hc
  |some _=>cases hc
 |makeSlice t l c=>
  rw[ho] at h
  simp only[ho] at hc⊢
  rw[h.val (x:=l) (by simp[Op.operands]),h.val (x:=c) (by simp[Op.operands])]
  exact hc
 |insert t m k v=>
  rw[ho] at h
  simp only[ho] at hc⊢
  rw[h.Lm (ys:=[m,k,v]) (by simp[Op.operands])]
  exact hc
 |mapUpdate t m k v=>
  rw[ho] at h
  simp only[ho] at hc⊢
  rw[h.Lm (ys:=[m,k,v]) (by simp[Op.operands])]
  exact hc
 |lookup t m k ok=>
  rw[ho] at h
  simp only[ho] at hc⊢
  rw[h.Lm (ys:=[m,k]) (by simp[Op.operands])]
  exact hc
 |slice t x lo hi mx=>
  rw[ho] at h hc
  cases mx with
  |none=>
   have e:=h.Lm (ys:=x::(lo.toList++hi.toList)) (by cases lo<;>cases hi<;>simp[Op.operands])
   simp only at hc⊢
   rw[e]
   exact hc
  |some mx=>cases lo with
   |none=>cases hc
   |some lo=>cases hi with
    |none=>cases hc
    |some hi=>
     have e:=h.Lm (ys:=[x,lo,hi,mx]) (by simp[Op.operands])
     simp only at hc⊢
     rw[e]
     exact hc
 |makeInterface t x=>
  rw[ho] at h
  simp only[ho] at hc⊢
  rw[h.Lm (ys:=[x]) (by simp[Op.operands])]
  exact hc
 |mapEntry t m k=>
  rw[ho] at h
  simp only[ho] at hc⊢
  rw[h.Lm (ys:=[m,k]) (by simp[Op.operands])]
  exact hc
 |entryStore t m s v=>
  rw[ho] at h
  simp only[ho] at hc⊢
  rw[h.Lm (ys:=[m,s,v]) (by simp[Op.operands])]
  exact hc
 |fieldAddr t x f=>
  rw[ho] at h
  simp only[ho] at hc⊢
  have e:=h.Lm (ys:=[x]) (by simp[Op.operands])
  rw[h x (by simp[Op.operands])]
  cases hf:IZ C.P t f with
  |none=>rw[hf] at hc;cases hc
  |some q=>
   rw[hf] at hc
   cases hd:o.dst with
   |none=>rw[hd] at hc;cases hc
   |some d=>
    rw[hd] at hc
    cases hs:Eo C U x with
    |none=>rw[hs] at hc;cases x<;>first|exact hc|(show Ut _ _ (Bs C Z [_])=some r;rw[e];exact hc)
    |some sl=>rw[hs] at hc;cases sl<;>cases x<;>first|exact hc|(show Ut _ _ (Bs C Z [_])=some r;rw[e];exact hc)
 |field t x f=>
  rw[ho] at h
  simp only[ho] at hc⊢
  rw[h.Lm (ys:=[x]) (by simp[Op.operands])]
  exact hc
 |indexAddr t x i=>
  rw[ho] at h
  simp only[ho] at hc⊢
  rw[h.Lm (ys:=[x,i]) (by simp[Op.operands])]
  exact hc
 |index t x i=>
  rw[ho] at h
  simp only[ho] at hc⊢
  rw[h.Lm (ys:=[x,i]) (by simp[Op.operands])]
  exact hc
 |extract x i=>
  rw[ho] at h
  simp only[ho] at hc⊢
  rw[h.Lm (ys:=[x]) (by simp[Op.operands])]
  exact hc
 |call c=>
  rw[ho] at h
  simp only[ho] at hc⊢
  rw[h.call]
  exact hc
 |_=>simp only[ho] at hc;cases hc
end
end Go.Am
end
section
namespace Go.Am
open Go
mutual
def Aa.beq_eq:∀{a b:Aa},Aa.beq a b=true->a=b
 | .bool a,b,h=>by cases b<;>simp[Aa.beq] at h⊢;exact h
 | .int k a,b,h=>by cases b<;>simp[Aa.beq] at h⊢;exact h
 | .str a,b,h=>by cases b<;>simp[Aa.beq] at h⊢;exact h
 | .ptr a,b,h=>by cases b<;>simp[Aa.beq] at h⊢;exact h
 | .GX a,b,h=>by cases b<;>simp[Aa.beq] at h⊢;exact h
 | .B9 a,b,h=>by cases b<;>simp[Aa.beq] at h⊢;exact Aa.Pk h
 | .sl n a,b,h=>by cases b<;>simp[Aa.beq] at h⊢;exact⟨h.1,Aa.mS h.2⟩
 | .slnil,b,h=>by cases b<;>simp[Aa.beq] at h⊢
 | .Dn a c d e,b,h=>by cases b<;>simp[Aa.beq] at h⊢;exact⟨h.1.1.1,h.1.1.2,h.1.2,h.2⟩
 | .map a,b,h=>by cases b<;>simp[Aa.beq] at h⊢;exact h
 | .func f a c,b,h=>by cases b<;>simp[Aa.beq] at h⊢;exact⟨h.1.1,Aa.Pk h.1.2,Aa.Pk h.2⟩
 | .nilFunc,b,h=>by cases b<;>simp[Aa.beq] at h⊢
 | .iface t a,b,h=>by cases b<;>simp[Aa.beq] at h⊢;exact⟨h.1,Aa.beq_eq h.2⟩
 | .nilIface,b,h=>by cases b<;>simp[Aa.beq] at h⊢
 | .agg a,b,h=>by cases b<;>simp[Aa.beq] at h⊢;exact Aa.Pk h
 | .tuple a,b,h=>by cases b<;>simp[Aa.beq] at h⊢;exact Aa.Pk h
def Aa.Pk:∀{a b:List Aa},Aa.SZ a b=true->a=b
 |[],b,h=>by cases b<;>simp[Aa.SZ] at h⊢
 |a::x,b,h=>by
  cases b with
  |nil=>simp[Aa.SZ] at h
  |cons c y=>simp[Aa.SZ] at h⊢;exact⟨Aa.beq_eq h.1,Aa.Pk h.2⟩
def Aa.mS:∀{a b:List (List Aa)},Aa.S0 a b=true->a=b
 |[],b,h=>by cases b<;>simp[Aa.S0] at h⊢
 |a::x,b,h=>by
  cases b with
  |nil=>simp[Aa.S0] at h
  |cons c y=>simp[Aa.S0] at h⊢;exact⟨Aa.Pk h.1,Aa.mS h.2⟩
end
def BR.Kk(U:BR):∀(a b:List (Nat×EM)),U.EX (a++b)=(U.EX a).EX b
 |[],_=>rfl
 |(s,x)::a,b=>BR.Kk (U.set s x) a b
def BR.Kl:∀(ws:List (Nat×EM)) (U:BR),(U.EX ws).length=U.length
 |[],_=>rfl
 |(s,x)::ws,U=>by rw[BR.EX,BR.Kl ws];simp
def BR.XZ(U:BR)(s t:Nat)(x:EM):BR.at (U.set s x) t=if s=t/\t<U.length then x else U.at t:=by
 by_cases h:s=t
 .subst h;by_cases hl:s<U.length;.simp[BR.at,List.getD,hl]
  .simp[BR.at,List.getD,hl]
 .simp[BR.at,List.getD,Aq h,h]
def BR.Hc:∀(ws:List (Nat×EM)) (U:BR) (t:Nat),(∀p∈ws,p.1≠t)->(U.EX ws).at t=U.at t
 |[],_,_,_=>rfl
 |(s,x)::ws,U,t,h=>by rw[BR.EX,BR.Hc ws _ t λp hp=>h p (by simp[hp]),BR.XZ,Ac];exact λe=>h (s,x) AB e.1
def BR.X0:∀(ws:List (Nat×EM)) (U:BR) (t:Nat),(U.EX ws).at t=U.at t\/∃p∈ws,p.1=t/\(U.EX ws).at t=p.2
 |[],_,_=> .inl rfl
 |(s,x)::ws,U,t=>by
  rcases BR.X0 ws (U.set s x) t with h|⟨p,hp,h1,h2⟩
  .rw[BR.XZ] at h;by_cases hc:s=t/\t<U.length;.rw[Af hc] at h;exact .inr ⟨(s,x),AB,hc.1,h⟩
   .rw[Ac hc] at h;exact .inl h
  .exact .inr ⟨p,by simp[hp],h1,h2⟩
def BR.JS:∀(ws:List (Nat×EM)) (U Z:BR) (t:Nat),Z.length=U.length->Z.at t=U.at t->(Z.EX ws).at t=(U.EX ws).at t
 |[],_,_,_,_,h=>h
 |(s,x)::ws,U,Z,t,hl,h=>by refine BR.JS ws _ _ t (by simpa using hl) ?_;rw[BR.XZ,BR.XZ,hl,h]
def BR.ext{U Z:BR}(hl:Z.length=U.length)(h:∀t,Z.at t=U.at t):Z=U:=by apply List.ext_getElem hl;intro i h1 h2;have:=h i;simpa[BR.at,List.getD,h1,h2] using this
def BR.m_{U:BR}{a b:List (Nat×EM)}(h:∀p∈a,∀q∈b,p.1≠q.1):(U.EX a).EX b=(U.EX b).EX a:=by
 refine BR.ext (by simp[BR.Kl]) λt=>?_;by_cases ha:∀p∈a,p.1≠t;.rw[BR.Hc a (U.EX b) t ha];exact BR.JS b _ _ t (by simp[BR.Kl]) (BR.Hc a U t ha)
 .have⟨p,hp,c⟩:∃p∈a,p.1=t:=Classical.byContradiction λhn=>ha λp hp e=>hn ⟨p,hp,e⟩;have hb:∀q∈b,q.1≠t:=λq hq e=>h p hp q hq (by rw[c,e]);rw[BR.Hc b (U.EX a) t hb];exact(BR.JS a _ _ t (by simp[BR.Kl]) (BR.Hc b U t hb)).symm
def Pl{U:BR}{ds:List Nat}:N4 U ds=true↔∀x t o,U.at x= .Fu t o->t∉ds:=by
 unfold N4;rw[DQ];constructor
 .intro h x t o hx;by_cases hl:x<U.length;.have:=h (U.at x) (by simp[BR.at,List.getD,hl]);rw[hx] at this;simpa using this
  .simp[BR.at,List.getD,hl] at hx
 .intro h s hs;obtain⟨i,hi⟩:=CP hs;cases s with
  |Fu t o=>have:=h i t o (by simp[BR.at,List.getD,hi]);simpa using this
  |_=>rfl
def nc{a b:List Nat}:Vj a b=true↔∃x,x∈a/\x∈b:=by simp[Vj]
structure St where
 idx:Nat
 fp:FP
 fl:Option La
def LQ(i:Nat)(r:EW)(U:BR):Option La:=
 match r with
 | .load n p (some d)=>match U.at d with
  | .val v=>some {idx:=i,n,p,v}
  |_=>none
 |_=>none
def X1(i:Nat)(r:EW)(U:BR)(fl:List La):NG i r U fl=(LQ i r U).toList++fl:=by
 cases r with
 |load n p dst=>
  cases dst with
  |none=>rfl
  |some d=>simp only[NG,LQ];cases U.at d<;>rfl
 |_=>rfl
def ZW{i:Nat}{r:EW}{U Z:BR}(h:∀d∈r.wf,Z.at d=U.at d):LQ i r Z=LQ i r U:=by
 cases r with
 |load n p dst=>
  cases dst with
  |none=>rfl
  |some d=>simp only[LQ];rw[h d (by simp[EW.wf])]
 |_=>rfl
def NL(d:Option Nat)(U U':BR):Prop:=
 match d with
 |none=>U'=U
 |some d=>match U.at d with
  | .val v=>∃b,v= .bool b/\U'=U.set d (.P9 b)
  |_=>U'=U
section
variable{C:Gj}{fid:FuncId}{ops:List Oper}{run:IT->Ai->Option Ku}{U Z U':BR}{h h':Ai}
def Qt(C:Gj)(fid:FuncId)(ops:List Oper)(run:IT->Ai->Option Ku)(s:St)(U:BR)(h:Ai)(U':BR)(h':Ai):Prop:=
 ∃o,ops[s.idx]?=some o/\
  ((Jo ops U o = .Oi false /\ s.fp = V0 C ops U o none /\ s.fl = none /\ U' = U.put o.dst .skip /\ h' = h) \/
   ∃ r U1, Jo ops U o = .Oi true /\ Gu C fid ops U o = some r /\ s.fp = V0 C ops U o (some r) /\ r.Ol C run (U.drop r.news) h U1 h' /\ s.fl = LQ s.idx r U1 /\
     NL (if S6 ops s.idx then o.dst else none) U1 U')
def X2(U:BR)(d:Option Nat)(x:EM):U.put d x=U.EX (d.toList.map λs=>(s,x)):=by cases d<;>rfl
def ng(U:BR)(d:Option (Nat×Aa)):U.DT d=U.EX (d.toList.map λp=>(p.1,.val p.2)):=by cases d<;>rfl
def bU{r:EW}(hd:r.Ol C run U h U' h'):∃ws,U'=U.EX ws/\(∀p∈ws,p.1∈r.wf)/\(∀p∈ws,∀t o,p.2= .Fu t o->t∈r.wN)/\∀Z,r.Ol C run Z h (Z.EX ws) h':=by
 have one:∀(d:Option Nat) (x:EM),(∀t o,x≠ .Fu t o)->U'=U.put d x->d.toList⊆r.wf->(∀Z,r.Ol C run Z h (Z.put d x) h')->
   ∃ws,U'=U.EX ws/\(∀p∈ws,p.1∈r.wf)/\(∀p∈ws,∀t o,p.2= .Fu t o->t∈r.wN)/\∀Z,r.Ol C run Z h (Z.EX ws) h':=by
  intro d x hx he hw ht;refine⟨d.toList.map λs=>(s,x),by rw[<-X2];exact he,λp hp=>?_,λp hp t o hl=>?_,λZ=>by rw[<-X2];exact ht Z⟩;.obtain⟨s,hs,rfl⟩:=A7.1 hp;exact hw hs
  .obtain⟨s,hs,rfl⟩:=A7.1 hp;exact absurd hl (hx t o)
 have MR:∀(i:Option (Nat×Aa)) (d:Option Nat) (x:EM),(∀t o,x≠ .Fu t o)->U'=(U.DT i).put d x->d.toList⊆r.wf->(i.map (·.1)).toList⊆r.wf->(∀Z,r.Ol C run Z h ((Z.DT i).put d x) h')->
   ∃ws,U'=U.EX ws/\(∀p∈ws,p.1∈r.wf)/\(∀p∈ws,∀t o,p.2= .Fu t o->t∈r.wN)/\∀Z,r.Ol C run Z h (Z.EX ws) h':=by
  intro i d x hx he hw yc ht;have e:∀Z:BR,(Z.DT i).put d x=Z.EX ((i.toList.map λp=>(p.1,.val p.2))++d.toList.map λs=>(s,x)):=λZ=>by rw[BR.Kk,<-ng,<-X2]
  refine⟨_,by rw[he,e],λp hp=>?_,λp hp t o hl=>?_,λZ=>by rw[<-e];exact ht Z⟩
  .rcases An.1 hp with hp|hp
   .obtain⟨q,hq,rfl⟩:=A7.1 hp;exact yc (by cases i<;>simp_all)
   .obtain⟨s,hs,rfl⟩:=A7.1 hp;exact hw hs
  .rcases An.1 hp with hp|hp
   .obtain⟨q,hq,rfl⟩:=A7.1 hp;cases hl
   .obtain⟨s,hs,rfl⟩:=A7.1 hp;exact absurd hl (hx t o)
 cases r with
 |pure ws=>obtain⟨rfl,rfl⟩:=hd;refine⟨ws,rfl,λp hp=>A7.2 ⟨p,hp,rfl⟩,λp hp t o hl=>?_,λZ=>⟨rfl,rfl⟩⟩;exact Cq.2 ⟨p.2,A7.2 ⟨p,hp,rfl⟩,by rw[hl]⟩
 |op p args dst BT i=>obtain⟨v,hv,rfl,rfl⟩:=hd;exact MR i dst _ (by cases BT<;>simp) rfl (by simp[EW.wf]) (by simp[EW.wf]) λZ=>⟨v,hv,rfl,rfl⟩
 |box n v d=>obtain⟨hn,rfl,rfl⟩:=hd;exact one (some d) _ AB rfl (by simp[EW.wf]) λZ=>⟨hn,rfl,rfl⟩
 |closure fn x b fz d=>
  obtain⟨rfl,rfl⟩:=hd;refine⟨(fz.map λ(s,cs)=>(s,.val (.B9 cs)))++[(d,.val (.func fn x b))],by rw[BR.Kk];rfl,λp hp=>?_,λp hp t o hl=>?_,λZ=>⟨by rw[BR.Kk];rfl,rfl⟩⟩
  .rcases An.1 hp with hp|hp
   .obtain⟨q,hq,rfl⟩:=A7.1 hp;exact OW _ (A7.2 ⟨q,hq,rfl⟩)
   .simp at hp;subst hp;simp[EW.wf]
  .rcases An.1 hp with hp|hp
   .obtain⟨q,hq,rfl⟩:=A7.1 hp;cases hl
   .simp at hp;subst hp;cases hl
 |N3 s off n v BT i ver cells owned=>obtain⟨hn,rfl,rfl⟩:=hd;exact MR i (some s) _ AB rfl (by simp[EW.wf]) (by simp[EW.wf]) λZ=>⟨hn,rfl,rfl⟩
 |load n p dst=>obtain⟨v,hv,rfl,rfl⟩:=hd;exact one dst _ AB rfl (by simp[EW.wf]) λZ=>⟨v,hv,rfl,rfl⟩
 |store n p v=>obtain⟨hv,rfl⟩:=hd;exact one none .undef AB rfl AB λZ=>⟨hv,rfl⟩
 |alloc n v dst=>obtain⟨hn,rfl,rfl⟩:=hd;exact one dst _ AB rfl (by simp[EW.wf]) λZ=>⟨hn,rfl,rfl⟩
 |call f args dst=>obtain⟨v,hv,rfl⟩:=hd;exact one dst _ (by intro t o;split<;>simp) rfl (by simp[EW.wf]) λZ=>⟨v,hv,rfl⟩
 |EG g args dst=>obtain⟨f,x,v,h1,h2,rfl⟩:=hd;exact one dst _ AB rfl (by simp[EW.wf]) λZ=>⟨f,x,v,h1,h2,rfl⟩
 |BH f args dst=>obtain⟨Jj,v,h1,h2,h3,rfl,rfl⟩:=hd;exact one dst _ AB rfl (by simp[EW.wf]) λZ=>⟨Jj,v,h1,h2,h3,rfl,rfl⟩
 |Og dst=>obtain⟨rfl,rfl⟩:=hd;exact one dst _ AB rfl (by simp[EW.wf]) λZ=>⟨rfl,rfl⟩
 |Ig m k v=>obtain⟨hv,rfl⟩:=hd;exact one none .undef AB rfl AB λZ=>⟨hv,rfl⟩
 |MY z ok m k dst=>obtain⟨v,hv,rfl,rfl⟩:=hd;exact one dst _ AB rfl (by simp[EW.wf]) λZ=>⟨v,hv,rfl,rfl⟩
 |make z b zero l c dst=>obtain⟨v,hv,rfl⟩:=hd;exact one dst _ AB rfl (by simp[EW.wf]) λZ=>⟨v,hv,rfl⟩
 |Kf z b s x dst i=>obtain⟨v,hv,rfl⟩:=hd;exact MR i dst _ AB rfl (by simp[EW.wf]) (by simp[EW.wf]) λZ=>⟨v,hv,rfl⟩
 |GL z b s x dst=>obtain⟨v,hv,rfl⟩:=hd;exact one dst _ AB rfl (by simp[EW.wf]) λZ=>⟨v,hv,rfl⟩
 |GI z b s x dst i=>obtain⟨v,hv,rfl,rfl⟩:=hd;exact MR i dst _ AB rfl (by simp[EW.wf]) (by simp[EW.wf]) λZ=>⟨v,hv,rfl,rfl⟩
 |Fi s dst=>obtain⟨v,hv,rfl⟩:=hd;exact one dst _ AB rfl (by simp[EW.wf]) λZ=>⟨v,hv,rfl⟩
 |ZM s dst=>obtain⟨v,u,h1,h2,rfl⟩:=hd;exact one dst _ AB rfl (by simp[EW.wf]) λZ=>⟨v,u,h1,h2,rfl⟩
 |mem o args dst=>obtain⟨v,hv,rfl⟩:=hd;exact one dst _ (by intro t o';split<;>simp) rfl (by simp[EW.wf]) λZ=>⟨v,hv,rfl⟩
def UC{r:EW}(hd:r.Ol C run U h U' h')(he:r.SX=false):h'=h/\
  (r.hl=false->∀h2,r.Ol C run U h2 U' h2)/\
  ∀n p d,r= .load n p (some d)->∃v,Bn h n p=some v/\U'=U.set d (.val v)/\∀h2,Bn h2 n p=some v->r.Ol C run U h2 U' h2:=by
 cases r<;>simp only[EW.SX] at he<;>try(exact absurd he AA)
 case pure ws=>obtain⟨rfl,rfl⟩:=hd;exact⟨rfl,λ_ _=>⟨rfl,rfl⟩,AB⟩
 case op p args dst BT g=>obtain⟨v,hv,rfl,rfl⟩:=hd;exact⟨rfl,λ_ _=>⟨v,hv,rfl,rfl⟩,AB⟩
 case box n v d=>obtain⟨hn,rfl,rfl⟩:=hd;exact⟨rfl,λ_ _=>⟨hn,rfl,rfl⟩,AB⟩
 case closure fn x b fz d=>obtain⟨rfl,rfl⟩:=hd;exact⟨rfl,λ_ _=>⟨rfl,rfl⟩,AB⟩
 case N3 s off n v BT g ver cells owned=>obtain⟨hn,rfl,rfl⟩:=hd;exact⟨rfl,λ_ _=>⟨hn,rfl,rfl⟩,AB⟩
 case load n p dst=>obtain⟨v,hv,rfl,rfl⟩:=hd;refine⟨rfl,λc=>absurd c (by simp[EW.hl]),λn' p' d he=>?_⟩;cases he;exact⟨v,hv,rfl,λh2 e=>⟨v,e,rfl,rfl⟩⟩
 case MY z ok m k dst=>obtain⟨v,hv,rfl,rfl⟩:=hd;exact⟨rfl,λc=>absurd c (by simp[EW.hl]),AB⟩
 case BH f args dst=>obtain⟨Jj,v,h1,h2,h3,rfl,rfl⟩:=hd;exact⟨rfl,λ_ _=>⟨Jj,v,h1,h2,h3,rfl,rfl⟩,AB⟩
def Vs{ds:List Nat}(hn:N4 U ds=true):U.drop ds=U:=by
 refine BR.ext (BR.length_drop U ds) λt=>?_;rw[BR.WC];cases hx:U.at t with
 |Fu t' o=>have:=Pl.1 hn t t' o hx;simp[this]
 |_=>rfl
def RR{o:Oper}(h:∀t∈FQ ops o,Z.at t=U.at t):Jo ops Z o=Jo ops U o:=by
 unfold Jo;unfold FQ at h;cases hg:o.guard with
 |none=>rfl
 |some g=>
  obtain⟨j,want⟩:=g;rw[hg] at h;simp only at h⊢;cases hd:(ops[j]?).bind (·.dst) with
  |none=>rfl
  |some s=>
   rw[hd] at h;simp only
   rw[h s AB]
def We{o:Oper}{r:EW}(hc:Gu C fid ops U o=some r)(ht:∀t∈Li o.op.operands.toList,Z.at t=U.at t)(hb:∀s∈Iu C U o,Z.at s=U.at s):Iu C Z o=Iu C U o:=by
 have h:WI C U Z o.op.operands.toList:= .xI ht
 unfold Iu at hb⊢
 cases ho:o.op with
 |load t x=>
  rw[ho] at h hb
  simp only at hb⊢
  have hn:Gt C U x≠none:=λhe=>by
   unfold Gu at hc
   simp only[ho] at hc
   split at hc
   .unfold Ms at hc;rw[he] at hc;split at hc<;>simp_all
   .cases hc
  unfold O4
  rw[h.addr (by simp[Op.operands]) hb hn]
 |store t x y=>
  rw[ho] at h hb
  simp only at hb⊢
  have hn:Gt C U x≠none:=λhe=>by
   unfold Gu at hc
   simp only[ho] at hc
   split at hc
   .unfold J0 at hc;rw[he] at hc;split at hc<;>simp_all
   .cases hc
  unfold O4
  rw[h.addr (by simp[Op.operands]) hb hn]
 |_=>rfl
def Vt{xs:List EM}{t o:Nat}(h: .Fu t o∈xs):t∈WB xs:=Cq.2 ⟨_,h,rfl⟩
def Qt.spec{s:St}(hs:Qt C fid ops run s U h U' h')(hf:s.fp.J5=true):
  ∃ws,U'=U.EX ws/\(∀p∈ws,p.1∈s.fp.wf)/\(∀p∈ws,∀t o,p.2= .Fu t o->t∈s.fp.lr)/\(∀x∈s.fp.wf,∀t o,U.at x= .Fu t o->t∈s.fp.lr)/\N4 U s.fp.news=true/\(s.fp.SX=false->h'=h)/\
   (s.fp.SX=false->s.fp.hl=true->∃f,s.fl=some f)/\
   ∀(Z:BR) (h2 lF:Ai),Z.length=U.length->(∀x∈s.fp.rs++s.fp.wf,Z.at x=U.at x)->N4 Z s.fp.news=true->
    ((h2=h/\lF=h')\/(s.fp.SX=false/\lF=h2/\(s.fp.hl=true->∀f,s.fl=some f->Bn h2 f.n f.p=some f.v)))->Qt C fid ops run s Z h2 (Z.EX ws) lF:=by
 obtain⟨o,ho,⟨hg,j,Jj,rfl,rfl⟩|⟨r,U1,hg,hc,j,hd,Jj,ha⟩⟩:=hs
 .rw[j] at hf⊢;refine⟨o.dst.toList.map λd=>(d,.skip),X2 _ _ _,λp hp=>?_,λp hp t k hl=>?_,λx hx t k hl=>?_,Pl.2 (by simp[V0]),λ_=>rfl,λ_ i=>absurd i (by simp[V0]),λZ h2 lF hlen yd _ Jy=>?_⟩;.obtain⟨d,hd,rfl⟩:=A7.1 hp;exact hd
  .obtain⟨d,hd,rfl⟩:=A7.1 hp;cases hl
  .exact Vt (o:=k) (A7.2 ⟨x,hx,hl⟩)
  .have i:lF=h2:=by rcases Jy with⟨D,B⟩|⟨_,e,_⟩<;>first|exact e|rw[D,B]
   refine⟨o,ho,.inl ⟨?_,?_,Jj,(X2 _ _ _).symm,i⟩⟩;.rw[RR λt ht=>yd t (B2 _ ht)];exact hg
   .rw[j];have e:o.dst.toList.map Z.at=o.dst.toList.map U.at:=aY λx hx=>yd x (BI _ hx);simp only[V0,e]
 .rw[j] at hf⊢;have ye:r.J5 U=true:=hf;have RG:N4 U r.news=true:=by unfold EW.J5 at ye;rw[Bb] at ye;exact ye.1
  rw[Vs RG] at hd;obtain⟨yf,rfl,hw,A,Ny⟩:=bU hd;have aMl:∃g:List (Nat×EM),U'=(U.EX yf).EX g/\(∀p∈g,o.dst=some p.1/\∃b,p.2= .P9 b)/\∀Z:BR,Z.length=U.length->(∀x∈r.wf++o.dst.toList,Z.at x=U.at x)->NL (if S6 ops s.idx then o.dst else none) (Z.EX yf) ((Z.EX yf).EX g):=by
   by_cases c:S6 ops s.idx=true
   .rw[Af c] at ha;cases Tl:o.dst with
    |none=>rw[Tl] at ha;exact⟨[],ha,AB,λZ _ _=>by simp[c,NL,BR.EX]⟩
    |some d=>
     rw[Tl] at ha;simp only[NL] at ha;have u:∀Z:BR,Z.length=U.length->(∀x∈r.wf++[d],Z.at x=U.at x)->(Z.EX yf).at d=(U.EX yf).at d:=λZ hl yd=>BR.JS yf U Z d hl (yd d AB);cases hx:(U.EX yf).at d with
     |val v=>rw[hx] at ha;obtain⟨b,rfl,rfl⟩:=ha;refine⟨[(d,.P9 b)],rfl,AB,λZ hl yd=>?_⟩;simp only[c,BN,NL];rw[u Z hl yd,hx];exact⟨b,rfl,rfl⟩
     |_=>rw[hx] at ha;refine⟨[],ha,AB,λZ hl yd=>?_⟩;simp only[c,BN,NL];rw[u Z hl yd,hx];rfl
   .rw[Ac c] at ha;exact⟨[],ha,AB,λZ _ _=>by rw[Ac c];rfl⟩
  obtain⟨g,rfl,yc,aHO⟩:=aMl;have q:r.hl=true->∃n p d,r= .load n p (some d)/\d<U.length:=λi=>by
   unfold EW.J5 at ye;rw[Bb] at ye;cases r with
   |load n p dst=>
    cases dst with
    |none=>exact absurd ye.2 AB
    |some d=>exact⟨n,p,d,rfl,by simpa using ye.2⟩
   |MY _ _ _ _ _=>exact absurd ye.2 AB
   |_=>simp[EW.hl] at i
  have aHP:r.SX=false->∀n p d,r= .load n p (some d)->d<U.length->∃v,Bn h n p=some v/\s.fl=some {idx:=s.idx,n,p,v}:=by intro he n p d hr uj;obtain⟨v,y,m,_⟩:=(UC hd he).2.2 n p d hr;refine⟨v,y,?_⟩;rw[Jj,hr];simp only[LQ];rw[m,BR.FJ uj]
  have aMm:∀(Z:BR) h2 lF,((h2=h/\lF=h')\/(r.SX=false/\lF=h2/\(r.hl=true->∀f,s.fl=some f->Bn h2 f.n f.p=some f.v)))->r.Ol C run Z h2 (Z.EX yf) lF:=by
   intro Z h2 lF Jy;rcases Jy with⟨rfl,rfl⟩|⟨he,rfl,Vo⟩
   .exact Ny Z
   .obtain⟨_,H,G⟩:=UC (Ny Z) he;cases i:r.hl with
    |false=>exact H i _
    |true=>obtain⟨n,p,d,hr,uj⟩:=q i;obtain⟨v,y,m⟩:=aHP he n p d hr uj;obtain⟨v',E,_,F⟩:=G n p d hr;rw[y] at E;cases E;exact F _ (Vo i _ m)
  refine⟨yf++g,by rw[BR.Kk],λp hp=>?_,λp hp t k hl=>?_,λx hx t k hl=>?_,RG,λhe=>(UC hd he).1,λhe i=>?_,λZ h2 lF hlen yd z Jy=>?_⟩
  .rcases An.1 hp with hp|hp
   .exact B2 _ (hw p hp)
   .exact BI _ (by rw[(yc p hp).1];simp)
  .rcases An.1 hp with hp|hp
   .exact BI _ (A p hp t k hl)
   .obtain⟨_,b,e⟩:=yc p hp;rw[e] at hl;cases hl
  .exact B2 _ (Vt (o:=k) (A7.2 ⟨x,hx,hl⟩))
  .obtain⟨n,p,d,hr,uj⟩:=q i;obtain⟨v,_,m⟩:=aHP he n p d hr uj;exact⟨_,m⟩
  .have l:∀t∈FQ ops o++Li o.op.operands.toList++Iu C U o,Z.at t=U.at t:=λt ht=>yd t (B2 _ ht);have hwf:∀t∈r.wf++o.dst.toList,Z.at t=U.at t:=λt ht=>yd t (BI _ ht);have ht:∀t∈Li o.op.operands.toList,Z.at t=U.at t:=λt ht=>l t (by simp[ht]);have hb:∀t∈Iu C U o,Z.at t=U.at t:=λt ht=>l t (by simp[ht]);have aHQ:N4 Z r.news=true:=z;refine⟨o,ho,.inr ⟨r,Z.EX yf,?_,XY hc ht hb,?_,?_,?_,?_⟩⟩;.rw[RR λt ht=>l t (by simp[ht])];exact hg
   .rw[j];have D:(r.wf++o.dst.toList).map Z.at=(r.wf++o.dst.toList).map U.at:=aY λx hx=>hwf x hx;have B:r.J5 Z=r.J5 U:=by unfold EW.J5;rw[RG,aHQ,hlen]
    simp only[V0,D,B,We hc ht hb]
   .rw[Vs aHQ];exact aMm Z h2 lF Jy
   .rw[Jj];exact(ZW λd hd=>BR.JS yf U Z d hlen (hwf d (B2 _ hd))).symm
   .rw[BR.Kk];exact aHO Z hlen hwf
end
end Go.Am
end
section
namespace Go.Am
open Go
section
variable{C:Gj}{fid:FuncId}{ops:List Oper}{run:IT->Ai->Option Ku}{an:List Nat}
def MS{a b:List Nat}(h:(!Vj a b)=true){x:Nat}(hx:x∈a):x∉b:=λhb=>by have:Vj a b=true:=nc.2 ⟨x,hx,hb⟩;simp[this] at h
def swap{p s:St}{U σa U1:BR}{h ha h1:Ai}(hp:Qt C fid ops run p U h σa ha)(hs:Qt C fid ops run s σa ha U1 h1)(JA:Sc p.fp s.fp=true)
  (Vo:s.fp.SX=true->∀f,p.fl=some f->Bn h1 f.n f.p=some f.v):
  ∃σs lC,Qt C fid ops run s U h σs lC/\Qt C fid ops run p σs lC U1 h1/\(s.fp.SX=true->lC=h1)/\(p.fp.SX=true->h1=ha):=by
 unfold Sc FP.apart at JA;simp only[Bb] at JA;obtain⟨⟨⟨⟨pf,B⟩,⟨⟨a1,a2⟩,a3⟩,a4⟩,he⟩,hl⟩:=JA;obtain⟨c,rfl,l,eQ,A,u,y,F,aBQ⟩:=hp.spec pf;obtain⟨b,rfl,k,qH,D,m,qF,E,yg⟩:=hs.spec B;have i:∀x∈s.fp.rs++s.fp.wf,(U.EX c).at x=U.at x:=λx hx=>BR.Hc c U x λq hq e=>MS a1 (l q hq) (by rw[e];exact hx);have d:N4 U s.fp.news=true:=by
  rw[Pl] at m⊢;intro x t o hx;by_cases hw:x∈p.fp.wf;.exact MS a3 (A x hw t o hx)
  .refine m x t o ?_;rw[BR.Hc c U x λq hq e=>hw (by rw[<-e];exact l q hq)];exact hx
 have hlen:∀(Z:BR) (ws:List (Nat×EM)),(Z.EX ws).length=Z.length:=λZ ws=>BR.Kl ws Z;have aBR:(U.EX b).EX c=(U.EX c).EX b:=(BR.m_ λq hq r hr e=>by have:=MS a1 (l q hq);exact this (BI _ (by rw[e];exact k r hr))).symm
 have outs:∀x∈p.fp.rs++p.fp.wf,(U.EX b).at x=U.at x:=λx hx=>BR.Hc b U x λq hq e=>by
  rcases An.1 hx with hx|hx
  .exact MS a2 (k q hq) (by rw[e];exact hx)
  .exact MS a1 hx (BI _ (by rw[<-e];exact k q hq))
 have z:N4 (U.EX b) p.fp.news=true:=by
  rw[Pl] at u⊢;intro x t o hx;rcases BR.X0 b U x with h0|⟨q,hq,_,h2⟩
  .exact u x t o (by rw[<-h0];exact hx)
  .rw[h2] at hx;exact MS a4 (qH q hq t o hx)
 by_cases J7:s.fp.SX=true
 .have g:p.fp.SX=false:=by
   cases hq:p.fp.SX with
   |false=>rfl
   |true=>simp[J7,hq] at he
  have j:ha=h:=y g;subst j;refine⟨U.EX b,h1,yg U ha h1 (hlen U c).symm (λx hx=>(i x hx).symm) d (.inl ⟨rfl,rfl⟩),?_,λ_=>rfl,λe=>by rw[g] at e;cases e⟩;rw[<-aBR];exact aBQ (U.EX b) h1 h1 (hlen U b) outs z (.inr ⟨g,rfl,λ_ f hf=>Vo J7 f hf⟩)
 .have aHR:s.fp.SX=false:=by simpa using J7
  have Ķ:h1=ha:=qF aHR;subst Ķ;refine⟨U.EX b,h,?_,?_,λe=>absurd e J7,λ_=>rfl⟩
  .by_cases g:p.fp.SX=true;.refine yg U h h (hlen U c).symm (λx hx=>(i x hx).symm) d (.inr ⟨aHR,rfl,λG=>?_⟩);simp[g,G] at hl
   .have aMp:p.fp.SX=false:=by simpa using g
    have j:=y aMp;exact yg U h h (hlen U c).symm (λx hx=>(i x hx).symm) d (.inl ⟨j.symm,j.symm⟩)
  .rw[<-aBR];exact aBQ (U.EX b) h h1 (hlen U b) outs z (.inl ⟨rfl,rfl⟩)
inductive Steps(C:Gj)(fid:FuncId)(ops:List Oper)(run:IT->Ai->Option Ku)(an:List Nat):List La->List St->BR->Ai->BR->Ai->Prop
 |nil {fl:List La} {U:BR} {h:Ai}:Steps C fid ops run an fl [] U h U h
 |cons {fl:List La} {s:St} {L:List St} {U U1 σf:BR} {h h1 hf:Ai}:Qt C fid ops run s U h U1 h1->(s.fp.SX=true->∀f∈fl,EH an f.idx s.idx=false->Bn h1 f.n f.p=some f.v)->
  Steps C fid ops run an (s.fl.toList++fl) L U1 h1 σf hf->Steps C fid ops run an fl (s::L) U h σf hf
def Steps.sub{fl:List La}{L:List St}{U σf:BR}{h hf:Ai}(hs:Steps C fid ops run an fl L U h σf hf):∀{b:List La},(∀f∈b,f∈fl)->Steps C fid ops run an b L U h σf hf:=by
 induction hs with
 |nil=>intro b _;exact .nil
 |cons h1 h2 _ ih=>
  intro b X3;refine .cons h1 (λhe f hf hb=>h2 he f (X3 f hf) hb) (ih λf hf=>?_);rcases An.1 hf with hf|hf
  .exact B2 _ hf
  .exact BI _ (X3 f hf)
def Qt.aC9{s:St}{U U':BR}{h h':Ai}(hs:Qt C fid ops run s U h U' h'){f:La}(hf:s.fl=some f):f.idx=s.idx:=by
 obtain⟨o,_,⟨_,_,Jj,_⟩|⟨r,U1,_,_,_,_,Jj,_⟩⟩:=hs;.rw[Jj] at hf;cases hf
 .rw[Jj] at hf;unfold LQ at hf;split at hf
  .split at hf;.cases hf;rfl
   .cases hf
  .cases hf
def Steps.lt{fl:List La}{L:List St}{U σf:BR}{h hf:Ai}(hs:Steps C fid ops run an fl L U h σf hf):∀q∈L,q.idx<ops.length:=by
 induction hs with
 |nil=>simp
 |cons h1 _ _ ih=>
  intro q hq;rcases AE.1 hq with rfl|hq
  .obtain⟨o',h2,_⟩:=h1;exact(Aj.1 h2).1
  .exact ih q hq
def aBS{s:St}{B:List St}{σf:BR}{hf:Ai}:∀{A:List St} {fl:List La} {U:BR} {h:Ai},Steps C fid ops run an fl (A++s::B) U h σf hf->(∀p∈A,Sc p.fp s.fp=true/\EH an p.idx s.idx=false)->
  ∃U1 h1,Qt C fid ops run s U h U1 h1/\(s.fp.SX=true->∀f∈fl,EH an f.idx s.idx=false->Bn h1 f.n f.p=some f.v)/\Steps C fid ops run an (s.fl.toList++fl) (A++B) U1 h1 σf hf
 |[],fl,U,h,hs,_=>by
  cases hs with
  |cons h1 h2 h3=>exact⟨_,_,h1,h2,h3⟩
 |p::A,fl,U,h,hs,i=>by
  cases hs with
  |cons h1 h2 h3=>
   rename_i σa ha;obtain⟨U1,u,e,d,m⟩:=aBS h3 λq hq=>i q (by simp[hq]);obtain⟨JA,aMq⟩:=i p AB;obtain⟨σs,lC,w1,l,k,j⟩:=swap h1 e JA λhe f hf=>d he f (by rw[hf];simp) (by rw[h1.aC9 hf];exact aMq);refine⟨σs,lC,w1,λhe f hf hb=>?_,.cons l (λhe f hf hb=>?_) (m.sub λf hf=>?_)⟩;.rw[k he];exact d he f (BI _ hf) hb
   .rw[j he];rcases An.1 hf with hf|hf
    .exfalso;unfold Sc at JA;simp only[Bb] at JA;obtain⟨⟨⟨⟨_,y⟩,_⟩,t⟩,hl⟩:=JA;cases rQ:s.fl with
     |none=>rw[rQ] at hf;simp at hf
     |some g=>
      have b:s.fp.hl=true:=by
       obtain⟨o,_,⟨_,_,Jj,_⟩|⟨r,x,_,_,c,_,Jj,_⟩⟩:=e;.rw[Jj] at rQ;cases rQ
       .rw[Jj] at rQ;unfold LQ at rQ;split at rQ;.rw[c];rfl
        .cases rQ
      simp[he,b] at hl
    .exact h2 he f hf hb
   .rcases An.1 hf with hf|hf
    .exact BI _ (B2 _ hf)
    .rcases An.1 hf with hf|hf
     .exact B2 _ hf
     .exact BI _ (BI _ hf)
def RS{D7:List Nat}{x:Nat}:∀(ds:List Nat) (m:Nat),(ds.foldl (λm e=>m|||bit e|||D7.getD e 0) m).testBit x=true↔m.testBit x=true\/∃e∈ds,x=e\/(D7.getD e 0).testBit x=true
 |[],m=>AB
 |d::ds,m=>by
  rw[ua,RS ds];simp only[Nat.testBit_or,bit,Nat.testBit_two_pow,JY,Ct,AE,exists_eq_or_imp];constructor
  .rintro((h|h)|h)
   .rcases h with h|h
    .exact .inl h
    .exact .inr (.inl (.inl h.symm))
   .exact .inr (.inl (.inr h))
   .exact .inr (.inr h)
  .rintro(h|(h|h)|h);.exact .inl (.inl (.inl h))
   .exact .inl (.inl (.inr h.symm))
   .exact .inl (.inr h)
   .exact .inr h
def MI:∀(l:List Oper) (D7:List Nat) (i:Nat),i<D7.length->(LY D7 l).getD i 0=D7.getD i 0
 |[],D7,i,h=>rfl
 |o::l,D7,i,h=>by rw[LY,MI l _ i Et];simp[List.getD,Al h]
def RT:∀(l:List Oper) (D7:List Nat) (k:Nat) (o:Oper),l[k]?=some o->(∀e∈Oper.VZ o,e<D7.length+k)->∀x,
  ((LY D7 l).getD (D7.length+k) 0).testBit x=true↔∃e∈Oper.VZ o,x=e\/((LY D7 l).getD e 0).testBit x=true
 |[],D7,k,o,h,_,x=>by simp at h
 |o'::l,D7,0,o,h,hd,x=>by
  simp at h;subst h;rw[LY,MI l _ (D7.length+0) AB];have b:(D7++[(Oper.VZ o').foldl (λm e=>m|||bit e|||D7.getD e 0) 0]).getD (D7.length+0) 0=(Oper.VZ o').foldl (λm e=>m|||bit e|||D7.getD e 0) 0:=by simp[List.getD]
  rw[b,RS];simp only[Nat.zero_testBit,Cb,false_or];constructor;.rintro⟨e,he,h⟩;refine⟨e,he,h.imp id λh=>?_⟩;have hlt:e<D7.length:=hd e he;rw[MI l _ e Et];simpa[List.getD,Al hlt] using h
  .rintro⟨e,he,h⟩;refine⟨e,he,h.imp id λh=>?_⟩;have hlt:e<D7.length:=hd e he;rw[MI l _ e Et] at h;simpa[List.getD,Al hlt] using h
 |o'::l,D7,k+1,o,h,hd,x=>by simp at h;rw[LY];have:=RT l (D7++[(Oper.VZ o').foldl (λm e=>m|||bit e|||D7.getD e 0) 0]) k o h (λe he=>by have:=hd e he;simp;omega) x;simp only[Ao,AK,AW,BE] at this;rw[(Ab:D7.length+(k+1)=D7.length+1+k)];exact this
def bV{i:Nat}{o:Oper}(ho:ops[i]?=some o)(hd:∀e∈Oper.VZ o,e<i)(x:Nat):EH (Xw ops) x i=true↔∃e∈Oper.VZ o,x=e\/EH (Xw ops) x e=true:=by have:=RT ops [] i o ho (by simpa using hd) x;simpa[EH,Xw] using this
def Qu(h:eF ops=true){i:Nat}{o:Oper}(ho:ops[i]?=some o):∀e∈Oper.VZ o,e<i:=by
 unfold eF at h;rw[DQ] at h;have:=h (o,i) (by refine CH (i:=i) ?_;simp[List.getElem?_zipIdx,ho])
 intro e he;simpa using DQ.1 this e he
def bW:∀{l:List (Nat×FP)},Xy.go an l=true->l.Pairwise λx y=>x.1≠y.1/\EH an y.1 x.1=false/\(EH an x.1 y.1=true\/Sc x.2 y.2=true)
 |[],_=> .nil
 |(i,f)::l,h=>by simp only[Xy.go,Bb,DQ] at h;refine .cons (λy hy=>?_) (bW h.2);have:=h.1 y hy;simp only[bne_iff_ne,aRM,JY] at this;exact⟨this.1.1,this.1.2,this.2⟩
def yh{d:Option Nat}{U:BR}{K:BR->IT}{h:Ai}{R:Ku}(hr:IT.step (Cd C) run (wO d U K) h=some R):∃U',NL d U U'/\IT.step (Cd C) run (K U') h=some R:=by
 unfold wO at hr;cases d with
 |none=>exact⟨U,rfl,hr⟩
 |some d=>
  simp only at hr;cases hx:U.at d with
  |val v=>
   rw[hx] at hr;simp only[IT.step] at hr;split at hr;.exact⟨U.set d (.P9 true),by simp only[NL,hx];exact⟨true,rfl,rfl⟩,hr⟩
   .exact⟨U.set d (.P9 false),by simp only[NL,hx];exact⟨false,rfl,rfl⟩,hr⟩
   .cases hr
  |_=>rw[hx] at hr;exact⟨U,by simp only[NL,hx],hr⟩
def Pm{i:Nat}{t:IT}{h:Ai}{R:Ku}:∀{fl:List La},IT.step (Cd C) run (S5 an i fl t) h=some R->(∀f∈fl,EH an f.idx i=false->Bn h f.n f.p=some f.v)/\IT.step (Cd C) run t h=some R
 |[],hr=>⟨AB,hr⟩
 |f::fl,hr=>by
  unfold S5 at hr;by_cases hb:EH an f.idx i=true
  .rw[Af hb] at hr;obtain⟨d,c⟩:=Pm hr;refine⟨λg hg b=>?_,c⟩;rcases AE.1 hg with rfl|hg
   .rw[hb] at b;cases b
   .exact d g hg b
  .rw[Ac hb] at hr;simp only[IT.step] at hr;split at hr
   .rename_i v hv;split at hr
    .rename_i K4;obtain⟨d,c⟩:=Pm hr;refine⟨λg hg b=>?_,c⟩;rcases AE.1 hg with rfl|hg
     .rw[Aa.beq_eq K4];exact hv
     .exact d g hg b
    .cases hr
   .cases hr
def Sn{K:BR->IT}{R:Ku}:∀{rest:List Nat} {b:List (Nat×FP)} {fl:List La} {U:BR} {h:Ai},IT.step (Cd C) run (Sd C fid ops an rest b fl U K) h=some R->
  ∃L σf hf,Steps C fid ops run an fl L U h σf hf/\Xy ops.length an (b.reverse++L.map λs=>(s.idx,s.fp))=true/\IT.step (Cd C) run (K σf) hf=some R
 |[],b,fl,U,h,hr=>by
  unfold Sd at hr;split at hr;.rename_i JA;exact⟨[],U,h,.nil,by simpa using JA,hr⟩
  .cases hr
 |i::rest,b,fl,U,h,hr=>by
  unfold Sd at hr;cases ho:ops[i]? with
  |none=>rw[ho] at hr;cases hr
  |some o=>
   rw[ho] at hr;simp only at hr;split at hr
   .rename_i hg;split at hr;.cases hr
    .rename_i r hc;obtain⟨U1,h1,hd,hr⟩:=bE hr;have HY:(r.SX=true->∀f∈fl,EH an f.idx i=false->Bn h1 f.n f.p=some f.v)/\IT.step (Cd C) run (wO (if S6 ops i then o.dst else none) U1 λj=>Sd C fid ops an rest ((i,V0 C ops U o (some r))::b) (NG i r U1 fl) j K) h1=some R:=by
      split at hr;.obtain⟨d,c⟩:=Pm hr;exact⟨λ_=>d,c⟩
      .rename_i he;exact⟨λe=>absurd e he,hr⟩
     obtain⟨Vo,hr⟩:=HY;obtain⟨U',ha,hr⟩:=yh hr;rw[X1] at hr;obtain⟨L,σf,hf,d,c,g⟩:=Sn hr;exact⟨{idx:=i,fp:=V0 C ops U o (some r),fl:=LQ i r U1}::L,σf,hf,.cons ⟨o,ho,.inr ⟨r,U1,hg,hc,rfl,hd,rfl,ha⟩⟩ Vo d,by simpa using c,g⟩
   .rename_i hg;obtain⟨L,σf,hf,d,c,g⟩:=Sn hr;exact⟨{idx:=i,fp:=V0 C ops U o none,fl:=none}::L,σf,hf,.cons ⟨o,ho,.inl ⟨hg,rfl,rfl,rfl,rfl⟩⟩ (λe=>by simp[V0] at e) d,by simpa using c,g⟩
   .cases hr
end
section
variable{C:Gj}{γ0 γ:Gh}{w0 w:World}{O:Nat->Nat}{U:BR}{h:Ai}{a:Act}{fid:FuncId}
def MJ(hr:Db C γ0 w0 γ O U h a w){ops:Array Oper}{o:Oper}{b:Bool}(hg:Jo ops.toList U o= .Oi b):Region.wanted o (yielded ops a.tmps)=b:=by
 unfold Jo at hg;unfold Region.wanted;cases ho:o.guard with
 |none=>rw[ho] at hg;cases hg;rfl
 |some g=>
  obtain⟨j,want⟩:=g;rw[ho] at hg;simp only[aHu] at hg⊢;unfold yielded;cases hd:(ops[j]?).bind (·.dst) with
  |none=>rw[hd] at hg;cases hg
  |some s=>
   rw[hd] at hg;simp only[Cw] at hg⊢;have h0:=hr.fr.IJ s;cases hx:U.at s with
   |P9 c=>
    rw[hx] at hg h0;cases hg;have hl:s<a.tmps.size:=by rw[<-hr.fr.size];exact BR.Ql (by rw[hx];simp)
    have hv:a.tmps.getD s undef= .bool c:=h0;have:a.tmps[s]?=some (.bool c):=by rw[CR hl];rw[Hw,CR hl] at hv;exact B3 some hv
    rw[this];rfl
   |skip=>
    rw[hx] at hg h0;cases hg;have hv:a.tmps.getD s undef=undef:=h0;have hne:∀c,a.tmps[s]?≠some (.bool c):=λc hc=>by rw[Hw,hc] at hv;cases hv
    cases ht:a.tmps[s]? with
    |none=>rfl
    |some v=>
     cases v with
     |bool c=>exact absurd ht (hne c)
     |_=>rfl
   |val v=>rw[hx] at hg;cases hg
   |_=>rw[hx] at hg;cases hg
def Db.aHT(hr:Db C γ0 w0 γ O U h a w){d:Option Nat}{U':BR}(ha:NL d U U'):Db C γ0 w0 γ O U' h a w:=by
 unfold NL at ha;cases d with
 |none=>simp only at ha;rw[ha];exact hr
 |some d=>
  simp only at ha;cases hx:U.at d with
  |val v=>rw[hx] at ha;obtain⟨b,rfl,rfl⟩:=ha;have h0:=hr.fr.IJ d;rw[hx] at h0;exact hr.lT h0
  |_=>rw[hx] at ha;rw[ha];exact hr
structure aMr(ops:Array Oper)(listed:Array Bool)(L:List St):Prop where
 size:listed.size=ops.size
 un:∀i,i<ops.size->(listed.getD i false=false↔i∈L.map (·.idx))
 closed:∀j,listed.getD j false=true->∀e,EH (Xw ops.toList) e j=true->listed.getD e false=true
abbrev xJ(an:List Nat)(L:List St):Prop:=L.Pairwise λx y=>x.idx≠y.idx/\EH an y.idx x.idx=false/\(EH an x.idx y.idx=true\/Sc x.fp y.fp=true)
def nh{run:IT->Ai->Option Ku}(D:Fk C run){ops:Array Oper}{Q:Exit->Act->World->Prop}(Gg:eF ops.toList=true){σf:BR}{hf:Ai}(hQ:∀γ' k a' w',Db C γ0 w0 γ' k σf hf a' w'->Q .normal a' w'):
  ∀(fuel:Nat) (L:List St) (listed:Array Bool) (γ:Gh) (O:Nat->Nat) (U:BR) (h:Ai) (a:Act) (w:World),L.length=fuel->Steps C fid ops.toList run (Xw ops.toList) [] L U h σf hf->xJ (Xw ops.toList) L->aMr ops listed L->Db C γ0 w0 γ O U h a w->
   wpAny C.P .any ops Q fuel listed a w:=by
 intro fuel;induction fuel with
 |zero=>
  intro L listed γ O U h a w l hs hp ho hr;have u:L=[]:=CX l;subst u;cases hs;refine⟨List.eq_nil_iff_forall_not_mem.2 λi hi=>?_,hQ _ _ _ _ hr⟩;obtain⟨h0,o,ķ,_⟩:=mem_ready.1 hi;have hlt:i<ops.size:=(AQ.1 ķ).1;have mw:listed.getD i false=false:=by
   have hl:i<listed.size:=by rw[ho.size];exact hlt
   simpa[Array.getD,hl] using h0
  have:=(ho.un i hlt).1 mw;simp at this
 |succ fuel ih=>
  intro L listed γ O U h a w l hs hp ho hr;have eV:∀i,i<ops.size->listed.getD i true=listed.getD i false:=λi hi=>by
   have hl:i<listed.size:=by rw[ho.size];exact hi
   simp[Array.getD,hl]
  constructor
  .intro Vo;exfalso;cases L with
   |nil=>simp at l
   |cons s0 L=>
    obtain⟨o,ķ,_⟩:∃o,ops.toList[s0.idx]?=some o/\True:=by
     cases hs with
     |cons h1 _ _=>obtain⟨o,h2,_⟩:=h1;exact⟨o,h2,trivial⟩
    have rR:ops[s0.idx]?=some o:=by simpa using ķ
    have hlt:s0.idx<ops.size:=(AQ.1 rR).1;have:s0.idx∈Region.ready .any ops listed:=by
     refine mem_ready.2 ⟨?_,o,rR,λe he hb=>?_⟩;.rw[eV _ hlt];exact(ho.un _ hlt).2 AB
     .have f:e.on∈Oper.VZ o:=Cq.2 ⟨e,by simpa using he,by rw[Af hb]⟩;have z:=Qu Gg ķ e.on f;cases hl:listed.getD e.on false with
      |true=>rfl
      |false=>
       have hm:=(ho.un e.on Ab).1 hl;simp only[Bj,AE] at hm;rcases hm with hm|hm
       .omega
       .obtain⟨y,hy,m⟩:=A7.1 hm;have:=((aQj.1 hp).1 y hy).2.1;rw[m,(bV ķ (Qu Gg ķ) e.on).2 ⟨e.on,f,.inl rfl⟩] at this;cases this
    rw[Vo] at this;cases this
  .intro i hi;obtain⟨h0,o,ķ,aHU⟩:=mem_ready.1 hi;have hlt:i<ops.size:=(AQ.1 ķ).1;rw[eV i hlt] at h0;obtain⟨s,n,rfl⟩:=A7.1 ((ho.un i hlt).1 h0);obtain⟨A,B,rfl⟩:=List.append_of_mem n;have rR:ops.toList[s.idx]?=some o:=by simpa using ķ
   have aHV:∀e,EH (Xw ops.toList) e s.idx=true->listed.getD e false=true:=λe he=>by
    obtain⟨d,hd,Jy⟩:=(bV rR (Qu Gg rR) e).1 he;obtain⟨E,f,hb⟩:=Cq.1 hd;split at hb
    .rename_i Tf;cases hb;have uj:=aHU E (by simpa using f) Tf;rcases Jy with rfl|Jy
     .exact uj
     .exact ho.closed _ uj e Jy
    .cases hb
   have b:=(aKX.1 hp).2.2;have aDa:∀p∈A++s::B,p.idx<ops.size:=λp t=>by simpa using hs.lt p t
   obtain⟨U1,h1,x,_,v⟩:=aBS hs λp g=>by
    have hb:EH (Xw ops.toList) p.idx s.idx=false:=by
     cases Tf:EH (Xw ops.toList) p.idx s.idx with
     |false=>rfl
     |true=>have h1:=aHV _ Tf;have h2:=(ho.un p.idx (aDa p (by simp[g]))).2 (A7.2 ⟨p,by simp[g],rfl⟩);rw[h1] at h2;cases h2
    refine⟨?_,hb⟩;have:=(b p g s AB).2.2;rw[hb] at this;exact this.resolve_left AB
   have aBT:∀γ' k a' w',Db C γ0 w0 γ' k U1 h1 a' w'->wpAny C.P .any ops Q fuel (listed.setIfInBounds s.idx true) a' w':=λγ' k a' w' HY=>by
    refine ih (A++B) _ γ' k U1 h1 a' w' (by simp at l⊢;omega) (v.sub AB) ?_ ⟨by simp[ho.size],λj hj=>?_,λj hj e he=>?_⟩ HY;.exact hp.sublist ((BQ A).append (Vd s B))
    .by_cases c:j=s.idx
     .subst c;have aDb:s.idx∉(A++B).map (·.idx):=λhm=>by
       obtain⟨q,hq,he⟩:=A7.1 hm;rcases An.1 hq with hq|hq
       .exact(b q hq s AB).1 he
       .exact(aQj.1 (aKX.1 hp).2.1).1 q hq |>.1 he.symm
      have ht:(listed.setIfInBounds s.idx true).getD s.idx false=true:=by
       have hl:s.idx<listed.size:=by rw[ho.size];exact hlt
       simp[Array.getD,hl]
      rw[ht];exact⟨λe=>absurd e AB,λe=>absurd e aDb⟩
     .rw[getD_set_ne false (λe=>c e.symm),ho.un j hj];simp only[Cg,Bj,An,AE];constructor
      .rintro(e|e|e);.exact .inl e
       .exact absurd e c
       .exact .inr e
      .rintro(e|e);.exact .inl e
       .exact .inr (.inr e)
    .by_cases c:j=s.idx;.subst c;exact getD_set_true (aHV e he)
     .rw[getD_set_ne false (λe=>c e.symm)] at hj;exact getD_set_true (ho.closed j hj e he)
   unfold wpOp;rw[ķ];obtain⟨o',Ĵ,⟨hg,_,_,rfl,rfl⟩|⟨r,F,hg,hc,_,hd,_,ha⟩⟩:=x;.rw[rR] at Ĵ;cases Ĵ;simp only[MJ hr hg,Cb,DP];exact aBT _ _ _ _ (hr.put λ_ _=>rfl)
   .rw[rR] at Ĵ;cases Ĵ;simp only[MJ hr hg,BN];exact .inl (yb D hc hd hr λγ' k a' w' HY=>aBT γ' k a' w' (HY.aHT ha))
end
end Go.Am
end
end
