/- Lemmas -/
import Derived.Test.YtdbnpiefklklhaaGreatDoorH5
import Derived.MapKept
set_option linter.all false
section
namespace Go.Am
open Go
section
variable{C:Fv}{γ0 γ γ':Gh}{w0 w w':World}{Z:Nat->Nat}{U:BG}{h:Ai}{a:Act}{fid:FuncId}{ops:List Oper}
def Wa{s t:Ah}(h:s≠t):((⟨⟨s⟩⟩:ByteArray)==⟨⟨t⟩⟩)=false:=by
 refine Bool.eq_false_iff.2 λhc=>h ?_;have:=(MapKept.bytes_beq _ _).1 hc;injection this with this
 injection this with this
def QW(s:Ah):((⟨⟨s⟩⟩:ByteArray)==⟨⟨s⟩⟩)=true:=(MapKept.bytes_beq _ _).2 rfl
def gB{s:Ah}:∀{es:List (Aa×Aa)} {l:List MapEntry} {i:Nat} {r:Option Aa},J8 γ es l->RA s es=some r->
  match r with
  |none=>Instr.findNow .string (.string ⟨⟨s⟩⟩) l i=some none
  |some v=>∃(j:Nat) (e:MapEntry),Instr.findNow .string (.string ⟨⟨s⟩⟩) l i=some (some (i+j,e.val))/\BF γ v e.val
 |[],l,i,r,b,hf=>by rw[show l=[] from b];cases hf;rfl
 |(k,v)::es,l,i,r,b,hf=>by
  obtain⟨e,l',rfl,h1,h2,f⟩:=b;unfold RA at hf;split at hf;.rename_i JU;cases JU
  .rename_i t v' T5 JU;cases JU;have hk:e.key= .string ⟨⟨t⟩⟩:=h1;split at hf;.rename_i IK;subst IK;cases hf;exact⟨0,e,by simp[Instr.findNow,hk,Instr.sameNow,QW],h2⟩
   .rename_i IK;have ih:=gB (i:=i+1) f hf;have hne:=Wa IK;cases r with
    |none=>simpa[Instr.findNow,hk,Instr.sameNow,hne] using ih
    |some v2=>obtain⟨j,g,d,c⟩:=ih;exact⟨j+1,g,by simp only[Instr.findNow,hk,Instr.sameNow,hne];rw[d];congr 3;omega,c⟩
  .cases hf
def rT{s:Ah}{v:Aa}{u:Value}(hv:BF γ v u):∀{es T5:List (Aa×Aa)} {l:List MapEntry} {i:Nat},J8 γ es l->MY s v es=some T5->
  (Instr.findNow .string (.string ⟨⟨s⟩⟩) l i=some none/\∀born,J8 γ T5 (l++[{key:= .string ⟨⟨s⟩⟩,val:=u,born}]))\/
  ∃j e,Instr.findNow .string (.string ⟨⟨s⟩⟩) l i=some (some (i+j,e.val))/\l[j]?=some e/\e.key= .string ⟨⟨s⟩⟩/\J8 γ T5 (l.modify j λe=>{e with key:= .string ⟨⟨s⟩⟩,val:=u})
 |[],T5,l,i,d,hp=>by rw[show l=[] from d];cases hp;exact .inl ⟨rfl,λborn=>⟨_,[],rfl,rfl,hv,rfl⟩⟩
 |(k,v0)::es,T5,l,i,d,hp=>by
  obtain⟨e,l',rfl,h1,h2,f⟩:=d;unfold MY at hp;split at hp;.rename_i JU;cases JU
  .rename_i t v' o JU;cases JU;have hk:e.key= .string ⟨⟨t⟩⟩:=h1;split at hp;.rename_i IK;subst IK;cases hp;exact .inr ⟨0,e,by simp[Instr.findNow,hk,Instr.sameNow,QW],rfl,hk,_,l',rfl,rfl,hv,f⟩
   .rename_i IK;have hne:=Wa IK;cases hq:MY s v es with
    |none=>rw[hq] at hp;cases hp
    |some n=>
     rw[hq] at hp;cases hp;rcases rT hv (i:=i+1) f hq with⟨c,b⟩|⟨j,p,c,b,m,g⟩
     .exact .inl ⟨by simpa[Instr.findNow,hk,Instr.sameNow,hne] using c,λborn=>⟨e,_,rfl,h1,h2,b born⟩⟩
     .exact .inr ⟨j+1,p,by simp only[Instr.findNow,hk,Instr.sameNow,hne];rw[c];congr 3;omega,b,m,e,_,Ax,h1,h2,g⟩
  .cases hp
def Tl{es:Array MapEntry}{clock:Nat}{k v:Value}(h:clock=es.size/\∀(i:Nat) (e:MapEntry),es[i]?=some e->e.born=i):
  clock+1=(es.push {key:=k,val:=v,born:=clock}).size/\∀(i:Nat) (e:MapEntry),(es.push {key:=k,val:=v,born:=clock})[i]?=some e->e.born=i:=by
 obtain⟨rfl,h⟩:=h;refine⟨Ax,λi e he=>?_⟩;rw[YJ] at he;split at he;.rename_i hi;cases he;exact hi.symm
 .exact h i e he
def Ua{es:Array MapEntry}{clock j:Nat}{f:MapEntry->MapEntry}(h:clock=es.size/\∀(i:Nat) (e:MapEntry),es[i]?=some e->e.born=i)(hf:∀e,(f e).born=e.born):
  clock=(es.modify j f).size/\∀(i:Nat) (e:MapEntry),(es.modify j f)[i]?=some e->e.born=i:=by
 refine⟨by simpa using h.1,λi e he=>?_⟩;rw[MF] at he;split at he
 .cases hx:es[i]? with
  |none=>rw[hx] at he;cases he
  |some x=>rw[hx] at he;cases he;rw[hf];exact h.2 i x hx
 .exact h.2 i e he
def M6(hi:Hj γ h w){g id:Nat}{es T5:List (Aa×Aa)}(QX:h[id]?=some (.map es))(hg:γ.mu id=some g){o:Obj}{ents':Array MapEntry}{clock':Nat}(hw:w.heap[g]?=some o)(hr:je γ T5 ents' clock'):
  Hj γ (h.set id (.map T5)) {w with heap:=w.heap.setIfInBounds g (.map ents' clock')}/\Lx γ w γ {w with heap:=w.heap.setIfInBounds g (.map ents' clock')}:=by
 obtain⟨k,p,S5⟩:=hi.Md id _ QX Ax;rw[hg] at p;cases p;obtain⟨M1,c⟩:=MapKept.heap_set (o':= .map ents' clock') hw;have uniq:∀Fo x,h[Fo]?=some x->x≠ .DF->γ.mu Fo=some g->Fo=id:=λFo x hx Ŕ hm=>by obtain⟨b',p,q⟩:=hi.Md Fo x hx Ŕ;rw[hm] at p;cases p;rw[S5] at q;cases q;rfl
 constructor
 .refine⟨λb o v hb=>?_,λFo y HV hy=>?_,λFo cs hc b hb=>?_,λFo e hc b hb=>?_,λFo b hb=>by simpa using hi.mu Fo b hb,λb x hx=>?_,λb n hb=>?_⟩;rotate_left 5
  .obtain⟨⟨lO,i,jg,p,q⟩,r⟩:=hi.sz b n hb;have hne:b≠g:=λhe=>by subst he;obtain⟨f,d,j,_⟩:=hi.map id es QX b hg;rw[p] at j;cases j
   exact⟨⟨lO,i,jg,by rw[c b hne];exact p,q⟩,r⟩
  .obtain⟨p,q,r⟩:=hi.HU b o v hb;have:b≠g:=λhe=>by subst he;rw[S5] at r;rcases r with r|⟨_,_,_,r,_⟩<;>cases r
   exact⟨by rw[CF (w:=w) (c b this)];exact p,q,r⟩
  .by_cases he:Fo=id;.subst he;exact⟨g,hg,S5⟩
   .rw[Ao (λx=>he x.symm)] at HV;exact hi.Md Fo y HV hy
  .by_cases he:Fo=id;.subst he;rw[AE (hi.mu _ _ hg)] at hc;cases hc
   .rw[Ao (λx=>he x.symm)] at hc;have S4:b≠g:=λhx=>by subst hx;exact he (uniq Fo _ hc Ax hb)
    obtain⟨lO,i,jg,p,pf,q,r⟩:=hi.cells Fo cs hc b hb;exact⟨lO,i,jg,by rw[c b S4];exact p,pf,q,r⟩
  .by_cases he:Fo=id;.subst he;rw[hg] at hb;cases hb;rw[AE (hi.mu _ _ hg)] at hc;cases hc;exact⟨ents',clock',M1,hr⟩
   .rw[Ao (λx=>he x.symm)] at hc;have S4:b≠g:=λhx=>by subst hx;exact he (uniq Fo _ hc Ax hb)
    obtain⟨C7,clock,p,q⟩:=hi.map Fo e hc b hb;exact⟨C7,clock,by rw[c b S4];exact p,q⟩
  .have:=hi.BK b x hx;simpa using this
 .refine⟨.refl _,Ax,rfl,rfl,rfl,λb hb hn=>⟨?_,rfl⟩⟩;exact c b (λhe=>by subst he;exact hn id S5)
def QY(hr:CX C γ0 w0 γ Z U h a w){x y z:Operand}{d c b:Aa}(ha:Bm C U [x,y,z]=some [d,c,b]):BF γ d (a.eval x)/\BF γ c (a.eval y)/\BF γ b (a.eval z):=by obtain⟨_,_,_,e,h1,h2,f⟩:=(DB hr ha).YW;simp only[A9,Dw,Ex,Mb] at e;obtain⟨rfl,rfl,rfl⟩:=e;exact⟨h1,h2,f⟩
def gC{o:Oper}{t kt e:TypeId}{m k x:Operand}{l n f:Aa}{h':Ai}(ho:o.op= .insert t m k x\/o.op= .mapUpdate t m k x)(hd:o.dst=none)(ht:C.P.underlying t=some (.map kt e))(hk:C.P.underlying kt=some .string)(ha:Bm C U [m,k,x]=some [l,n,f])
  (hm:Qq h l n f=some h') (hr:CX C γ0 w0 γ Z U h a w):Ft C γ0 w0 o a w U h':=by
 obtain⟨h1,h2,u⟩:=QY hr ha;have Mf:∀w',(Instr.mapUpdate t (a.eval m) (a.eval k) (a.eval x)).run C.P w= .ok () w'->(execOp a.eval o).run C.P w= .ok .skip w':=λw' AI=>by rcases ho with ho|ho<;>simp[execOp,ho,AI]
 unfold Qq at hm;split at hm
 .rename_i id s;obtain⟨b,hb,zU⟩:=h1;have š:a.eval k= .string ⟨⟨s⟩⟩:=h2;split at hm
  .rename_i es QX;cases hp:MY s f es with
   |none=>rw[hp] at hm;cases hm
   |some T5=>
    rw[hp] at hm;cases hm;obtain⟨C7,clock,hw,r,hB⟩:=hr.DG.map id es QX b hb;have zV:(Instr.checkKey false 10000 kt (.string ⟨⟨s⟩⟩)).run C.P w= .ok () w:=MapKept.run_checkKey (k:= .string ⟨⟨s⟩⟩) hk (by simp[MapKept.IsKey]) false 9999;rcases rT u (i:=0) r hp with⟨c,g⟩|⟨j,en,c,g,q,p⟩
    .have AI:(Instr.mapUpdate t (a.eval m) (a.eval k) (a.eval x)).run C.P w= .ok () {w with heap:=w.heap.setIfInBounds b (.map (C7.push {key:= .string ⟨⟨s⟩⟩,val:=a.eval x,born:=clock}) (clock+1))}:=by rw[zU,š];simp[Instr.mapUpdate,run_underlying ht,MapKept.run_getObj_map hw,zV,MapKept.run_findKey hk c,MapKept.run_setObj_map _ hw,Result.andThen]
     obtain⟨hi,JB⟩:=M6 (T5:=T5) (ents':=C7.push {key:= .string ⟨⟨s⟩⟩,val:=a.eval x,born:=clock}) (clock':=clock+1) hr.DG QX hb hw ⟨by simpa using g clock,Tl hB⟩;exact Ft.skip (Mf _ AI) (by rw[hd];exact hr.IA hi JB)
    .have hj:C7[j]?=some en:=by simpa using g
     rw[BJ] at c;have AI:(Instr.mapUpdate t (a.eval m) (a.eval k) (a.eval x)).run C.P w= .ok () {w with heap:=w.heap.setIfInBounds b (.map (C7.modify j λe=>{e with key:= .string ⟨⟨s⟩⟩,val:=a.eval x}) clock)}:=by rw[zU,š];simp[Instr.mapUpdate,run_underlying ht,MapKept.run_getObj_map hw,zV,MapKept.run_findKey hk c,hj,q,MapKept.run_keyThatStays (d:= .string) (k:= .string ⟨⟨s⟩⟩) (by simp[MapKept.IsKey]),MapKept.run_setObj_map _ hw,Result.andThen]
     obtain⟨hi,JB⟩:=M6 (T5:=T5) (ents':=C7.modify j λe=>{e with key:= .string ⟨⟨s⟩⟩,val:=a.eval x}) (clock':=clock) hr.DG QX hb hw ⟨by simpa using p,Ua hB λ_=>rfl⟩;exact Ft.skip (Mf _ AI) (by rw[hd];exact hr.IA hi JB)
  .cases hm
 .cases hm
def ka{o:Oper}{t:TypeId}(ho:o.op= .makeMap t none)(hr:CX C γ0 w0 γ Z U h a w):Ft C γ0 w0 o a w (U.put o.dst (.val (.map (some h.length)))) (h++[.map []]):=by
 obtain⟨hi,ha⟩:=Ny hr.DG (.map #[] 0) (.map []) none (.inr ⟨rfl,rfl,rfl⟩);have AI:(Instr.makeMap t none).run C.P w= .ok (.map (some w.heap.size)) (w.alloc (.map #[] 0)):=by simp[Instr.makeMap]
 exact Ft.value (by simp only[execOp,ho];exact De AI) ((hr.IA hi ha).put λ_ _=>⟨w.heap.size,by simp[Gh.BY],rfl⟩)
def Kv(key elem:TypeId)(index:Value)(commaOk:Bool)(es:Array MapEntry):Sem Value:=do
 Instr.checkKey es.isEmpty 10000 key index
 let(v,ok)<-match<-Instr.findKey key index es.toList with
  |some (_,v)=>pure (v,true)
  |none=>pure (<-zeroValue elem,false)
 pure (if commaOk then .tuple #[v,.bool ok] else v)
def kb{o:Oper}{t kt e:TypeId}{m k:Operand}{d f z r:Aa}{ok:Bool}(ho:o.op= .lookup t m k ok)(ht:C.P.underlying t=some (.map kt e))(hk:C.P.underlying kt=some .string)(hz:GD C.P e=some z)(ha:Bm C U [m,k]=some [d,f])(hm:Oj h z ok d f=some r)(hr:CX C γ0 w0 γ Z U h a w):
  Ft C γ0 w0 o a w (U.put o.dst (.val r)) h:=by
 obtain⟨_,_,e0,h1,h2⟩:=EO hr ha;cases e0;obtain⟨g,fy,Ţ⟩:=HG hz;have HM:∀(es:Array MapEntry) (q:Option Aa),(Instr.lookup t (a.eval m) (a.eval k) ok).run C.P w=(Kv kt e (a.eval k) ok es).run C.P w->
   ∀s,a.eval k= .string ⟨⟨s⟩⟩->(match q with|none=>Instr.findNow .string (.string ⟨⟨s⟩⟩) es.toList 0=some none|some v=>∃(j:Nat) (e:MapEntry),Instr.findNow .string (.string ⟨⟨s⟩⟩) es.toList 0=some (some (0+j,e.val))/\BF γ v e.val)->
   (match q with|some v=>if ok then Aa.tuple [v,.bool true] else v|none=>if ok then .tuple [z,.bool false] else z)=r->Ft C γ0 w0 o a w (U.put o.dst (.val r)) h:=by
  intro es q QX s yo hq T9;have zV:(Instr.checkKey es.isEmpty 10000 kt (.string ⟨⟨s⟩⟩)).run C.P w= .ok () w:=MapKept.run_checkKey (k:= .string ⟨⟨s⟩⟩) hk (by simp[MapKept.IsKey]) es.isEmpty 9999;have AI:∃v,(Instr.lookup t (a.eval m) (a.eval k) ok).run C.P w= .ok v w/\BF γ r v:=by
   cases q with
   |none=>
    refine⟨if ok then .tuple #[g,.bool false] else g,?_,?_⟩;.rw[QX,yo];unfold Kv;simp only[Sem.run_bind,Result.andThen_ok,zV,MapKept.run_findKey hk hq,Ţ,Sem.run_bind,Sem.run_pure]
    .rw[<-T9];have c:=E1 (γ:=γ) fy;cases ok with
     |true=>exact⟨_,rfl,_,_,rfl,c,_,_,rfl,rfl,rfl⟩
     |false=>exact c
   |some v=>
    obtain⟨j,en,n,l⟩:=hq;refine⟨if ok then .tuple #[en.val,.bool true] else en.val,?_,?_⟩;.rw[QX,yo];unfold Kv;simp only[Sem.run_bind,Result.andThen_ok,zV,MapKept.run_findKey hk n,Sem.run_bind,Sem.run_pure]
    .rw[<-T9];cases ok with
     |true=>exact⟨_,rfl,_,_,rfl,l,_,_,rfl,rfl,rfl⟩
     |false=>exact l
  obtain⟨v,AI,rR⟩:=AI;exact Ft.value (by simp only[execOp,ho];exact De AI) (hr.put λ_ _=>rR)
 unfold Oj at hm;cases hf:S9 h d f with
 |none=>rw[hf] at hm;cases hm
 |some q=>
  rw[hf] at hm;simp only[By,Bx] at hm;unfold S9 at hf;split at hf;.rename_i s;cases hf;exact HM #[] none (by rw[show a.eval m=_ from h1];simp only[Instr.lookup,Kv,Sem.run_bind,run_underlying ht,Result.andThen_ok,Sem.run_pure];rfl) s h2 rfl hm
  .rename_i id s;obtain⟨b,hb,zU⟩:=h1;split at hf;.rename_i es QX;obtain⟨C7,clock,hw,p,_⟩:=hr.DG.map id es QX b hb;exact HM C7 q (by rw[zU];simp only[Instr.lookup,Kv,Sem.run_bind,run_underlying ht,MapKept.run_getObj_map hw,Result.andThen_ok,Sem.run_pure];rfl) s h2 (gB (i:=0) p hf) hm
   .cases hf
  .cases hf
def Wb{size:Nat}{v:Aa}(h:OO size v=true):v= .slnil\/v= .H5 size\/v= .sl size []:=by
 unfold OO at h;split at h;.exact .inl rfl
 .exact .inr (.inl (by simpa using h))
 .exact .inr (.inr (by simpa using h))
 .cases h
def zW{o:Oper}{c:Call}{t t' e:TypeId}{n b:Nat}{s x:Operand}{v u r:Aa}{h':Ai}(ho:o.op= .call c)(hc:c.callee= .builtin .append)(h0:c.argTypes[0]?=some t)(h1:c.argTypes[1]?=some t')(Ek:c.args.toList=[s,x])(ht:C.P.underlying t=some (.slice e))
  (Ir:(∃G,C.P.underlying t'=some (.slice G))\/C.P.underlying t'=some .string) (KW:BO C.P e=some (n+1)) (jv:Ju C.P e=some (b+1)) (Fj:KB C U s=true) (eW:LK C.P e=true) (hv:Bm C U [s,x]=some [v,u])
  (hp:MH h (n+1) (b+1) v u=some (h',r)) (hr:CX C γ0 w0 γ Z U h a w):Ft C γ0 w0 o a w ((U.Dm (C4 U s)).put o.dst (.val r)) h':=by
 obtain⟨i,z,hi,hz,aL⟩:=KF eW;have Qh:=Ji KW hi;have Ŝ:=Lj jv hi;obtain⟨_,_,e0,hvs,lQ⟩:=EO hr hv;cases e0;have jr:Ez C U s=some v:=by
  unfold Bm at hv;split at hv;.rename_i p ps I K;cases hv;exact I
  .cases hv
 have IB:OO (n+1) v=true/\((∃Aw,H6 (n+1) (b+1) .slnil u=some (.sl (n+1) Aw)/\Aw≠[]/\u= .sl (n+1) Aw/\Aw.length*(b+1)<=AO/\h'=h++[.cells Aw.flatten]/\r= .C3 h.length 0 Aw.length (n+1))\/((u= .slnil\/(∃B,u= .H5 B)\/∃B,u= .sl B [])/\h'=h/\r=v)):=by
  unfold MH at hp;split at hp
  .rename_i B Aw;split at hp
   .rename_i Vi;refine⟨Vi,?_⟩;split at hp;.cases hp;exact .inr ⟨.inr (.inr ⟨_,rfl⟩),rfl,rfl⟩
    .rename_i hne;split at hp
     .rename_i Hz;cases hp;obtain⟨rfl,hb⟩:=Hz;refine .inl ⟨Aw,?_,hne,rfl,hb,rfl,rfl⟩;cases Aw with
      |nil=>exact absurd rfl hne
      |cons q Aw=>simp only[H6,Dr,BE];rw[Af hb]
     .cases hp
   .cases hp
  .split at hp;.rename_i Vi;cases hp;exact⟨Vi,.inr ⟨.inl rfl,rfl,rfl⟩⟩
   .cases hp
  .split at hp;.rename_i Vi;simp only[AN] at Vi;cases hp;exact⟨Vi.1,.inr ⟨.inr (.inl ⟨_,rfl⟩),rfl,rfl⟩⟩
   .cases hp
  .cases hp
 obtain⟨Vi,IB⟩:=IB;obtain⟨F,Ee,Jq,Gm,m⟩:=OY hr Fj jr (U.Dm (C4 U s)).length none;have JU:c.args.map a.eval=#[a.eval s,a.eval x]:=by apply Ge;simp[Ek]
 have Mf:∀v' w',(Builtin.append_ #[t,t'] o.type #[a.eval s,a.eval x]).run C.P w= .ok v' w'->(execOp a.eval o).run C.P w= .ok (.value v') w':=λv' w' AI=>by
  have:execOp a.eval o=(do pure (Next.value (<-Builtin.append_ #[t,t'] o.type #[a.eval s,a.eval x]))):=by rw[<-JU,<-NH (ty:=o.type) h0 h1];simp only[execOp,ho,resolve,hc];rfl
  rw[this];exact De AI
 have rU:(a.eval s= .slice none 0 0/\v= .slnil)\/(∃g cap us y,a.eval s= .slice (some ⟨g,0,none⟩) 0 cap/\v= .sl (n+1) []/\F.BK g=some (.tail (U.Dm (C4 U s)).length none 0)/\w0.heap.size<=g/\w.heap[g]?=some (.cells us y (0,0))/\us.size=cap*(n+1)/\cap<=maxLen)\/∃g,a.eval s= .slice (some ⟨g,0,none⟩) 0 0/\v= .H5 (n+1):=by
  rcases m with(m|⟨H,m⟩)|⟨g,k,cap,us,y,H,rr,mU,I5,S5,hB,hg,YR,yi,hm,J⟩
  .rw[m] at Gm;exact .inl ⟨Gm,m⟩
  .rcases Wb Vi with rV|rV|rV
   .rw[rV] at m;cases m
   .rw[rV] at Gm;obtain⟨g,Gm⟩:=Gm;exact .inr (.inr ⟨g,Gm,rV⟩)
   .rw[rV] at m;cases m
  .rcases Wb Vi with rV|rV|rV
   .rw[rV] at mU;cases mU
   .rw[rV] at mU;cases mU
   .rw[rV] at mU;cases mU;have hk:k=0:=by rw[rV,I5] at Gm;obtain⟨A,f,fZ,_⟩:=Gm;simp only[Value.slice.injEq] at fZ;exact fZ.2.1
    subst hk;exact .inr (.inl ⟨g,cap,us,y,I5,rV,by simpa using S5,hB,hg,YR,hm⟩)
 rcases IB with⟨Aw,IM,hne,D,S6,rfl,rfl⟩|⟨D,rfl,rfl⟩
 .obtain⟨d,news,O0,JW,Ē,mS⟩:=rS (w:=w) Ir hr.DG lQ IM;have gD:d=Aw:=by
   cases d with
   |nil=>simp[Dr] at O0
   |cons q d=>
    simp only[Dr] at O0;split at O0;.cases O0;rfl
    .cases O0
  subst gD;have jw:=AW.mono Ee _ _ Ē;have JA:Src C.P i.size t' (a.eval x) d.length news w:=by rw[Qh];exact JW
  have Qj:news.length=d.length*(n+1):=JW.newsLen;have Io:d.flatten.length=news.length:=by rw[Ē.length]
  have hpos:0<d.length:=Fa.2 hne;have S4:d.length<=AO:=Bp (Il _ (CU b)) S6;have FH:∀(base:Option Addr) (cap:Nat),a.eval s= .slice base 0 cap->(Builtin.firstCells i.size 0 (.slice base 0 cap)).run C.P w.drew= .ok #[] w.drew->cap<d.length->
    Ft C γ0 w0 o a w ((U.Dm (C4 U s)).put o.dst (.val (.C3 h.length 0 d.length (n+1)))) (h++[.cells d.flatten]):=by
   intro base cap hs l hlt;have GP:=run_append_grow_src (P:=C.P) w t t' o.type e i z ht hi hz base 0 cap [] l (a.eval x) d.length news JA Ab (by simp only[AO] at S4;omega) (by rw[Ŝ,BJ];exact growslice_fits hlt S6);rw[<-hs,BJ] at GP;have GX:=grownCap_ge w d.length cap e;have Ub:(([]++news).toArray++Builtin.zeroCells z.cells (grownCap w d.length cap e-d.length)).toList.take d.flatten.length=news:=by simp only[GA,BT];rw[Io];exact E6
   have ke:(([]++news).toArray++Builtin.zeroCells z.cells (grownCap w d.length cap e-d.length)).size=grownCap w d.length cap e*(n+1):=by simp only[Jo,BZ,size_zeroCells,aL,Qh,BT,Qj,<-BA];congr 1;omega
   obtain⟨E,fX,UQ,LP,UR⟩:=Jq.drew.newObj (([]++news).toArray++Builtin.zeroCells z.cells (grownCap w d.length cap e-d.length)) e (0,0) d.flatten (.inl rfl) (by rw[Ub];exact jw) (by rw[Ub];exact JW.one);exact Ft.value (Mf _ _ GP) (LP.put λ_ _=>⟨w.heap.size,_,UQ,rfl,GX,⟨CU n,grownCap_le_maxLen w _ _ _ (by simp only[AO] at S4;simp only[maxLen];omega)⟩,by rw[BJ,<-ke];exact UR⟩)
  rcases rU with⟨I5,rfl⟩|⟨g,cap,us,y,I5,rfl,S5,hB,hg,YR,yq⟩|⟨g,I5,rfl⟩
  rotate_left 2;.exact FH (some ⟨g,0,none⟩) 0 I5 (by simpa using run_firstCells_some (P:=C.P) w.drew i.size 0 ⟨g,0,none⟩ 0 0 [] Ax Ax) hpos
  .exact FH none 0 I5 (run_firstCells_none _ _ _ _ _) hpos
  .by_cases hroom:d.length<=cap
   .have hfit:news.length<=us.size:=by rw[Qj,YR];exact DV _ hroom
    have AI:=run_append_room_src (P:=C.P) w t t' o.type e i ht hi g 0 0 cap (a.eval x) d.length news JA Ab (λj hj=>by rw[cell_of_row w _ _ us y (0,0) hg,Qh,Ci Ab];rfl) (λj hj=>frozen_of_row w _ _ us y hg)
    rw[Ma,BJ,BJ,Ej news 0 us w hg Ab,<-I5] at AI;have Ub:((us.toList.take 0++news++us.toList.drop (0+news.length)).toArray).toList.take d.flatten.length=news:=by simp only[PJ,BT];rw[Io];exact E6
    obtain⟨E,fX,UQ,LP,UR⟩:=Jq.aEs S5 hB hg (us.toList.take 0++news++us.toList.drop (0+news.length)).toArray d.flatten (by rw[Ub];exact jw) (by rw[Ub];exact JW.one);exact Ft.value (Mf _ _ AI) (LP.put λ_ _=>⟨g,cap,UQ,rfl,hroom,⟨CU n,yq⟩,by rw[UR,BJ,<-YR];simp;omega⟩)
   .exact FH (some ⟨g,0,none⟩) cap I5 (by simpa using run_firstCells_some (P:=C.P) w.drew i.size 0 ⟨g,0,none⟩ 0 cap [] Ax Ax) Ab
 .have JW:Src C.P i.size t' (a.eval x) 0 [] w:=by
   rcases D with rfl|⟨B,rfl⟩|⟨B,rfl⟩
   .rw[show a.eval x=_ from lQ];exact⟨Ir,λ_=>rfl,run_firstCells_none w _ 0 0 0,run_firstCells_none w.drew _ 0 0 0,Ax,Ax⟩
   .obtain⟨g0,fZ⟩:=lQ;rw[fZ];exact⟨Ir,λ_=>rfl,by simpa using run_firstCells_some (P:=C.P) w i.size 0 ⟨g0,0,none⟩ 0 0 [] Ax Ax,by simpa using run_firstCells_some (P:=C.P) w.drew i.size 0 ⟨g0,0,none⟩ 0 0 [] Ax Ax,Ax,Ax⟩
   .obtain⟨A,f,fZ,_⟩:=lQ;rw[fZ];exact⟨Ir,λ_=>rfl,by simpa using run_firstCells_some (P:=C.P) w i.size 0 A 0 f [] Ax Ax,by simpa using run_firstCells_some (P:=C.P) w.drew i.size 0 A 0 f [] Ax Ax,Ax,Ax⟩
  rcases rU with⟨I5,rfl⟩|⟨g,cap,us,y,I5,rfl,S5,hB,hg,YR,yq⟩|⟨g,I5,rfl⟩
  rotate_left 2;.have AI:=run_append_room_src (P:=C.P) w t t' o.type e i ht hi g 0 0 0 (a.eval x) 0 [] JW Ab Ax Ax;rw[<-I5] at AI;simp only[World.setCells] at AI;exact Ft.value (Mf _ _ AI) (Jq.put λ_ _=>Gm)
  .have AI:(Builtin.append_ #[t,t'] o.type #[a.eval s,a.eval x]).run C.P w= .ok (.slice none 0 0) w:=by rw[I5];have hl:=JW.len;have Vj:=JW.cells;rcases Ir with⟨G,hk⟩|hk<;>simp[Builtin.append_,run_underlying ht,run_underlying hk,sizeOf,typeInfo,hi,hl,Vj]
   exact Ft.value (Mf _ _ AI) (Jq.put λ_ _=>rfl)
  .have AI:=run_append_room_src (P:=C.P) w t t' o.type e i ht hi g 0 0 cap (a.eval x) 0 [] JW Ab Ax Ax;rw[<-I5] at AI;simp only[World.setCells] at AI;exact Ft.value (Mf _ _ AI) (Jq.put λ_ _=>Gm)
def CX.kill(hr:CX C γ0 w0 γ Z U h a w)(id:Nat):CX C γ0 w0 γ Z U (h.set id .DF) a w:=by
 have key:∀{Fo:Nat} {x:ED},(h.set id .DF)[Fo]?=some x->x≠ .DF->h[Fo]?=some x:=λ{Fo x} hx hd=>by
  by_cases he:id=Fo
  .subst he;rw[aOZ] at hx;simp only[BE] at hx;split at hx;.cases hx;exact absurd rfl hd
   .cases hx
  .rwa [Ao he] at hx
 exact⟨⟨hr.DG.HU,λFo y HV hy=>hr.DG.Md Fo y (key HV hy) hy,λFo cs hc b hb=>hr.DG.cells Fo cs (key hc Ax) b hb,λFo es hc b hb=>hr.DG.map Fo es (key hc Ax) b hb,λFo b hb=>by simpa using hr.DG.mu Fo b hb,hr.DG.BK,hr.DG.sz⟩,hr.fr,hr.DA,hr.defers,hr.GC⟩
def CX.kg(hr:CX C γ0 w0 γ Z U h a w){id g:Nat}{cs:List Aa}(hcs:h[id]?=some (.cells cs))(hg:γ.mu id=some g){us:Array Value}{e:TypeId}{fr:Nat×Nat}(hw:w.heap[g]?=some (.cells us e fr))(US:γ.sz g=some us.size)(Dk:Array Value)(GB:List Aa)(YR:Dk.size=us.size)(rL:Tg fr Dk.size)
  (hv:AW γ GB (Dk.toList.take GB.length)) (h1:∀u∈Dk.toList.take GB.length,u.oneCell'=true):∃γ',γ.le γ'/\γ'.mu h.length=some g/\CX C γ0 w0 γ' Z U (h.set id .DF++[.cells GB]) a (w.setRow g Dk)/\γ'.sz g=some us.size:=by
 obtain⟨f,p,S5⟩:=hr.DG.Md id _ hcs Ax;rw[hg] at p;cases p;have yr:id<h.length:=hr.DG.mu _ _ hg;have c:γ.mu h.length=none:=by
  cases hc:γ.mu h.length with
  |none=>rfl
  |some y=>exact absurd (hr.DG.mu _ y hc) (Dc _)
 have uniq:∀Fo x,h[Fo]?=some x->x≠ .DF->γ.mu Fo=some g->Fo=id:=λFo x hx Ŕ hm=>by obtain⟨b',p,q⟩:=hr.DG.Md Fo x hx Ŕ;rw[hm] at p;cases p;rw[S5] at q;cases q;rfl
 have Ee:γ.le (γ.BY g h.length (some us.size)):=⟨λ_ _ _ hv=>hv,λFo b hm=>by
  have:Fo≠h.length:=λhe=>by rw[he,c] at hm;cases hm
  simp only[Gh.BY,Ad this];exact hm,λb n hm=>by
  by_cases he:b=g;.subst he;rw[US] at hm;cases hm;simp[Gh.BY]
  .simp only[Gh.BY,Ad he];exact hm⟩
 have old:∀{Fo:Nat} {x:ED},(h.set id .DF++[ED.cells GB])[Fo]?=some x->x≠ .DF->Fo≠h.length->h[Fo]?=some x/\Fo≠id:=λ{Fo x} hx hd hne=>by
  have hlt:Fo<(h.set id .DF).length:=by rw[Aj] at hx;obtain⟨hl,_⟩:=hx;simp at hl⊢;omega
  rw[An hlt] at hx;by_cases he:id=Fo;.subst he;rw[AE (by simpa using hlt)] at hx;cases hx;exact absurd rfl hd
  .rw[Ao he] at hx;exact⟨hx,λh=>he h.symm⟩
 have aJb:Hj (γ.BY g h.length (some us.size)) (h.set id .DF++[.cells GB]) (w.setRow g Dk):=by
  refine⟨λb o v hb=>?_,λFo y HV hy=>?_,λFo RU hc b hb=>?_,λFo es hc b hb=>?_,λFo b hb=>?_,λb y hy=>?_,λb n hb=>?_⟩
  .obtain⟨p,q,r⟩:=hr.DG.HU b o v hb;have Nx:b≠g:=λhe=>by subst he;rw[S5] at r;rcases r with r|⟨_,_,_,r,_⟩<;>cases r
   exact⟨by rw[CF (setRow_other w g b Dk Nx)];exact p,q,by simp only[Gh.BY,Ad Nx];exact r⟩
  .by_cases he:Fo=h.length;.exact⟨g,by simp[Gh.BY,he],by simp[Gh.BY,he]⟩
   .obtain⟨zX,hne⟩:=old HV hy he;obtain⟨b,p,q⟩:=hr.DG.Md Fo y zX hy;have Nx:b≠g:=λhx=>by subst hx;exact hne (uniq Fo y zX hy p)
    exact⟨b,by simp only[Gh.BY,Ad he];exact p,by simp only[Gh.BY,Ad Nx];exact q⟩
  .by_cases he:Fo=h.length;.subst he;simp[Gh.BY] at hb;subst hb;rw[BI Ax] at hc;simp at hc;subst hc;exact⟨Dk,e,fr,setRow_heap w g us Dk e fr hw,rL,AW.mono Ee _ _ hv,h1⟩
   .simp only[Gh.BY,Ad he] at hb;obtain⟨KX,hne⟩:=old hc Ax he;have Nx:b≠g:=λhx=>by subst hx;exact hne (uniq Fo _ KX Ax hb)
    obtain⟨lO,d,jg,p,pf,q,r⟩:=hr.DG.cells Fo RU KX b hb;exact⟨lO,d,jg,by rw[setRow_other w g b Dk Nx];exact p,pf,AW.mono Ee _ _ q,r⟩
  .by_cases he:Fo=h.length;.subst he;rw[BI Ax] at hc;simp at hc
   .simp only[Gh.BY,Ad he] at hb;obtain⟨KX,hne⟩:=old hc Ax he;have Nx:b≠g:=λhx=>by subst hx;exact hne (uniq Fo _ KX Ax hb)
    obtain⟨C7,clock,p,q⟩:=hr.DG.map Fo es KX b hb;exact⟨C7,clock,by rw[setRow_other w g b Dk Nx];exact p,q.mono Ee⟩
  .by_cases he:Fo=h.length;.simp[he]
   .simp only[Gh.BY,Ad he] at hb;have:=hr.DG.mu Fo b hb;simp;omega
  .by_cases Nx:b=g;.subst Nx;have:=hr.DG.BK _ _ S5;simpa[World.setRow] using this
   .simp only[Gh.BY,Ad Nx] at hy;have:=hr.DG.BK b y hy;simpa[World.setRow] using this
  .by_cases he:b=g;.subst he;simp only[Gh.BY,BE] at hb;cases hb;exact⟨⟨Dk,e,fr,setRow_heap w b us Dk e fr hw,YR⟩,.inr ⟨h.length,by simp[Gh.BY]⟩⟩
   .simp only[Gh.BY,Ad he] at hb⊢;obtain⟨p,r⟩:=hr.DG.sz b n hb;exact⟨by rw[setRow_other w g b Dk he];exact p,r⟩
 refine⟨_,Ee,by simp[Gh.BY],hr.IA aJb ⟨Ee,by simp[World.setRow],rfl,rfl,rfl,λb hb hn=>?_⟩,by simp[Gh.BY]⟩;have Nx:b≠g:=λhe=>by subst he;exact hn id S5
 exact⟨setRow_other w g b Dk Nx,by simp only[Gh.BY,Ad Nx]⟩
def kh{o:Oper}{c:Call}{t t' e:TypeId}{n b:Nat}{s x:Operand}{v u r:Aa}{h':Ai}(ho:o.op= .call c)(hc:c.callee= .builtin .append)(h0:c.argTypes[0]?=some t)(h1:c.argTypes[1]?=some t')(Ek:c.args.toList=[s,x])(ht:C.P.underlying t=some (.slice e))
  (Ir:(∃I,C.P.underlying t'=some (.slice I))\/C.P.underlying t'=some .string) (KW:BO C.P e=some (n+1)) (jv:Ju C.P e=some (b+1)) (eW:LK C.P e=true) (hv:Bm C U [s,x]=some [v,u])
  (hp:GP h (n+1) (b+1) v u=some (h',r)) (hr:CX C γ0 w0 γ Z U h a w):Ft C γ0 w0 o a w (U.put o.dst (.val r)) h':=by
 obtain⟨i,z,hi,hz,aL⟩:=KF eW;have Qh:=Ji KW hi;have Ŝ:=Lj jv hi;obtain⟨_,_,e0,hvs,lQ⟩:=EO hr hv;cases e0;have JU:c.args.map a.eval=#[a.eval s,a.eval x]:=by apply Ge;simp[Ek]
 have Mf:∀v' w',(Builtin.append_ #[t,t'] o.type #[a.eval s,a.eval x]).run C.P w= .ok v' w'->(execOp a.eval o).run C.P w= .ok (.value v') w':=λv' w' AI=>by
  have:execOp a.eval o=(do pure (Next.value (<-Builtin.append_ #[t,t'] o.type #[a.eval s,a.eval x]))):=by rw[<-JU,<-NH (ty:=o.type) h0 h1];simp only[execOp,ho,resolve,hc];rfl
  rw[this];exact De AI
 unfold GP at hp;cases hq:Ha h (n+1) u with
 |none=>rw[hq] at hp;cases hp
 |some Aw=>
  rw[hq] at hp;obtain⟨news,JW,Vi,mS⟩:=V6 (w:=w) Ir hr.DG lQ hq;have JA:Src C.P i.size t' (a.eval x) Aw.length news w:=by rw[Qh];exact JW
  have Qj:news.length=Aw.length*(n+1):=JW.newsLen;have Io:Aw.flatten.length=news.length:=by rw[Vi.length]
  cases Aw with
  |nil=>
   have ji:news=[]:=CO (by simpa using Qj);subst ji;cases v with
   |slnil=>
    cases hp;have I5:a.eval s= .slice none 0 0:=hvs;have AI:(Builtin.append_ #[t,t'] o.type #[a.eval s,a.eval x]).run C.P w= .ok (.slice none 0 0) w:=by rw[I5];have hl:=JA.len;have Vj:=JA.cells;simp only[Bt] at hl Vj;rcases Ir with⟨I,hk⟩|hk<;>simp[Builtin.append_,run_underlying ht,run_underlying hk,sizeOf,typeInfo,hi,hl,Vj]
    exact Ft.value (Mf _ _ AI) (hr.put λ_ _=>rfl)
   |H5 B=>
    simp only at hp;split at hp;.cases hp;obtain⟨g,I5⟩:=(show BF γ _ _ from hvs);have AI:=run_append_room_src (P:=C.P) w t t' o.type e i ht hi g 0 0 0 (a.eval x) 0 [] JA Ab Ax Ax;rw[<-I5] at AI;simp only[World.setCells,Bk] at AI;exact Ft.value (Mf _ _ AI) (hr.put λ_ _=>⟨g,I5⟩)
    .cases hp
   |C3 id off k B=>
    simp only at hp;split at hp;.cases hp;obtain⟨g,cap,hg,I5,yi,fx,US⟩:=(show BF γ _ _ from hvs);have AI:=run_append_room_src (P:=C.P) w t t' o.type e i ht hi g off k cap (a.eval x) 0 [] JA Ab Ax Ax;rw[<-I5] at AI;simp only[World.setCells,Bk] at AI;exact Ft.value (Mf _ _ AI) (hr.put λ_ _=>⟨g,cap,hg,rfl,yi,fx,US⟩)
    .cases hp
   |_=>cases hp
  |cons J l=>
   generalize hR:J::l=Aw at*;have hpos:0<Aw.length:=by rw[<-hR];simp
   have d:∀(h2:Ai) (base:Option Addr) (k cap:Nat) (Tm:List Aa) (olds:List Value),CX C γ0 w0 γ Z U h2 a w->a.eval s= .slice base k cap->AW γ Tm olds->olds.length=k*(n+1)->(∀q∈olds,q.oneCell'=true)->
     (Builtin.firstCells i.size k (.slice base k cap)).run C.P w.drew= .ok olds.toArray w.drew->cap<k+Aw.length->(k+Aw.length)*(b+1)<=AO->
     Ft C γ0 w0 o a w (U.put o.dst (.val (.C3 h2.length 0 (k+Aw.length) (n+1)))) (h2++[.cells (Tm++Aw.flatten)]):=by
    intro h2 base k cap Tm olds LP hs aEu yh Ř f hlt S6;have S4:k+Aw.length<=AO:=Bp (Il _ (CU b)) S6;have GP:=run_append_grow_src (P:=C.P) w t t' o.type e i z ht hi hz base k cap olds f (a.eval x) Aw.length news JA hlt (by simp only[AO] at S4;omega) (by rw[Ŝ];exact growslice_fits hlt S6);rw[<-hs] at GP;have GX:=grownCap_ge w (k+Aw.length) cap e;have zR:(olds++news).length=(k+Aw.length)*(n+1):=by rw[Aq,yh,Qj,BA]
    have rP:(Tm++Aw.flatten).length=(olds++news).length:=by rw[Aq,Aq,aEu.length,Io]
    have ke:((olds++news).toArray++Builtin.zeroCells z.cells (grownCap w (k+Aw.length) cap e-(k+Aw.length))).size=grownCap w (k+Aw.length) cap e*(n+1):=by simp only[Jo,BZ,size_zeroCells,aL,Qh,zR,<-BA];congr 1;omega
    have Ub:((olds++news).toArray++Builtin.zeroCells z.cells (grownCap w (k+Aw.length) cap e-(k+Aw.length))).toList.take (Tm++Aw.flatten).length=olds++news:=by simp only[GA];rw[rP];exact E6
    obtain⟨A,fX,UQ,ŝ,UR⟩:=LP.drew.newObj ((olds++news).toArray++Builtin.zeroCells z.cells (grownCap w (k+Aw.length) cap e-(k+Aw.length))) e (0,0) (Tm++Aw.flatten) (.inl rfl) (by rw[Ub];exact aEu.append Vi) (by rw[Ub];intro q hq;exact(Ap.1 hq).elim (Ř q) (JW.one q))
    exact Ft.value (Mf _ _ GP) (ŝ.put λ_ _=>⟨w.heap.size,_,UQ,rfl,GX,⟨CU n,grownCap_le_maxLen w _ _ _ (by simp only[AO] at S4;simp only[maxLen];omega)⟩,by rw[BJ,<-ke];exact UR⟩)
   cases v with
   |slnil=>
    have I5:a.eval s= .slice none 0 0:=hvs;rw[<-hR] at hp;simp only at hp;rw[hR] at hp;split at hp;.rename_i S6;cases hp;have:=d h none 0 0 [] [] hr I5 rfl Ax Ax (run_firstCells_none _ _ _ _ _) Ab (by simpa using S6);simpa using this
    .cases hp
   |H5 B=>
    obtain⟨g,I5⟩:=(show BF γ _ _ from hvs);rw[<-hR] at hp;simp only at hp;rw[hR] at hp;split at hp;.rename_i S6;cases hp;have:=d h (some ⟨g,0,none⟩) 0 0 [] [] hr I5 rfl Ax Ax (by simpa using run_firstCells_some (P:=C.P) w.drew i.size 0 ⟨g,0,none⟩ 0 0 [] Ax Ax) Ab (by simpa using S6.2);simpa using this
    .cases hp
   |C3 id off k B=>
    rw[<-hR] at hp;simp only at hp;rw[hR] at hp;split at hp
    .rename_i cs hcs;split at hp
     .rename_i E;subst E;obtain⟨g,cap,hg,I5,yi,fx,US⟩:=(show BF γ _ _ from hvs);obtain⟨us,H,fr,p1,pf,p2,p⟩:=hr.DG.cells id cs hcs g hg;obtain⟨⟨fu,M,L,F,D⟩,_⟩:=hr.DG.sz g _ US;rw[p1] at F;cases F;have fw:cs.length<=us.size:=by have:=p2.length;simp at this;omega
      have M4:∀j,(⟨g,off,none⟩:Addr).add j=⟨g,off+j,none⟩:=λj=>by unfold Addr.add;split<;>simp_all
      have m:∀o,o<us.size->w.frozen? ⟨g,o,none⟩=false:=λo ho=>by
       simp only[World.frozen?,p1];rcases pf with rfl|rL
       .simp
       .simp;omega
      have room:k+Aw.length<=cap->(Builtin.append_ #[t,t'] o.type #[a.eval s,a.eval x]).run C.P w= .ok (.slice (some ⟨g,off,none⟩) (k+Aw.length) cap) (w.setRow g (us.toList.take (off+k*(n+1))++news++us.toList.drop (off+k*(n+1)+news.length)).toArray)/\off+k*(n+1)+news.length<=us.size:=by
       intro hroom;have hfit:off+k*(n+1)+news.length<=us.size:=by rw[Qj,D,Rq,<-BA];exact Nat.add_le_add_left (DV _ hroom) _
       have AI:=run_append_room_src (P:=C.P) w t t' o.type e i ht hi g off k cap (a.eval x) Aw.length news JA hroom (λj hj=>by rw[cell_of_row w _ _ us H fr p1,Qh,Ci Ab];rfl) (λj hj=>by rw[Qh];exact m _ Ab)
       rw[Qh,Ej news _ us w p1 hfit,<-I5] at AI;exact⟨AI,hfit⟩
      have xb:(k+Aw.length)*(n+1)=k*(n+1)+Aw.length*(n+1):=BA _ _ _;split at hp
      .rename_i eX;cases hp;have hroom:k+Aw.length<=cap:=by have K:(k+Aw.length)*(n+1)<=cap*(n+1):=Ab;exact Nat.le_of_mul_le_mul_right K (CU n)
       obtain⟨AI,hfit⟩:=room hroom;have G:off+(k+Aw.length)*(n+1)=off+k*(n+1)+news.length:=by rw[Qj,xb];omega
       have hcl:(cs.take (off+k*(n+1))++Aw.flatten++cs.drop (off+(k+Aw.length)*(n+1))).length=cs.length:=by rw[G,Aq,Aq,AB,Bg,Io];omega
       have Ub:((us.toList.take (off+k*(n+1))++news++us.toList.drop (off+k*(n+1)+news.length)).toArray).toList.take (cs.take (off+k*(n+1))++Aw.flatten++cs.drop (off+(k+Aw.length)*(n+1))).length=
         (us.toList.take cs.length).take (off+k*(n+1))++news++(us.toList.take cs.length).drop (off+k*(n+1)+news.length):=by
        rw[hcl];simp only[Kn];exact Mn (by simpa using fw) Ab rfl
       obtain⟨Uc,RV⟩:=M0 hr.DG hcs hg p1 (us.toList.take (off+k*(n+1))++news++us.toList.drop (off+k*(n+1)+news.length)).toArray (cs.take (off+k*(n+1))++Aw.flatten++cs.drop (off+(k+Aw.length)*(n+1)))
        (by simp only[BZ,Aq,AB,Bg,B8];omega)
        (by
         rcases pf with rfl|pf
         .exact .inl rfl
         .refine .inr (Bp (L9 ?_) pf);simp only[BZ,Aq,AB,Bg,B8];omega)
        (by rw[Ub,G];exact NF p2 Vi)
        (by
         rw[Ub];intro q hq;rcases Ap.1 hq with hq|hq
         .rcases Ap.1 hq with hq|hq
          .exact p q (A0 hq)
          .exact JW.one q hq
         .exact p q (Bu hq))
       exact Ft.value (Mf _ _ AI) ((hr.IA Uc RV).put λ_ _=>⟨g,cap,hg,rfl,hroom,fx,US⟩)
      .rename_i aPm;split at hp
       .rename_i Hz;obtain⟨rfl,YX,S6⟩:=Hz;cases hp;simp only[BJ] at*;by_cases hroom:k+Aw.length<=cap
        .obtain⟨AI,hfit⟩:=room hroom;have rP:(cs.take (k*(n+1))++Aw.flatten).length=k*(n+1)+news.length:=by rw[Aq,AB,Io];omega
         have Ub:((us.toList.take (k*(n+1))++news++us.toList.drop (k*(n+1)+news.length)).toArray).toList.take (cs.take (k*(n+1))++Aw.flatten).length=(us.toList.take cs.length).take (k*(n+1))++news:=by
          rw[rP];simp only[Kn];have:(us.toList.take (k*(n+1))++news).length=k*(n+1)+news.length:=by rw[Aq,AB,B8];omega
          rw[<-this,E6,FV,CE YX]
         obtain⟨A,fX,UQ,LP,UR⟩:=hr.kg hcs hg p1 (by rw[US,D]) (us.toList.take (k*(n+1))++news++us.toList.drop (k*(n+1)+news.length)).toArray (cs.take (k*(n+1))++Aw.flatten)
          (by simp only[BZ,Aq,AB,Bg,B8];omega)
          (by
           rcases pf with rfl|pf
           .exact .inl rfl
           .refine .inr (Bp (L9 ?_) pf);simp only[BZ,Aq,AB,Bg,B8];omega)
          (by rw[Ub];exact(p2.take _).append Vi)
          (by
           rw[Ub];intro q hq;rcases Ap.1 hq with hq|hq
           .exact p q (A0 hq)
           .exact JW.one q hq)
         exact Ft.value (Mf _ _ AI) (LP.put λ_ _=>⟨g,cap,UQ,rfl,hroom,fx,by rw[UR,D];simp⟩)
        .have yh:((us.toList.take cs.length).take (k*(n+1))).length=k*(n+1):=Ei;have:=d (h.set id .DF) (some ⟨g,0,none⟩) k cap (cs.take (k*(n+1))) ((us.toList.take cs.length).take (k*(n+1))) (hr.kill id) I5 (p2.take _) yh (λq hq=>p q (A0 hq))
          (by
           rw[Qh];exact run_firstCells_some w.drew _ _ _ _ _ _ yh (λj y hj=>by
            rw[M4];show w.cell? _=_;rw[cell_of_row w _ _ us H fr p1];rw[Cj] at hj;split at hj
            .rw[Cj] at hj;split at hj;.simpa using hj
             .cases hj
            .cases hj)) Ab S6
         simpa using this
       .cases hp
     .cases hp
    .cases hp
   |_=>rw[<-hR] at hp;cases hp
def gE(hi:Hj γ h w){id g off:Nat}{cs b:List Aa}{news:List Value}(hcs:h[id]?=some (.cells cs))(hg:γ.mu id=some g)(hv:AW γ b news)(h1:∀u∈news,u.oneCell'=true)(hl:off+b.length<=cs.length):
  ∃w',(storeCells ⟨g,off,none⟩ news).run C.P w= .ok () w'/\Hj γ (h.set id (.cells (cs.take off++b++cs.drop (off+b.length)))) w'/\Lx γ w γ w':=by
 obtain⟨us,e,fr,hw,pf,d,c⟩:=hi.cells id cs hcs g hg;have Qj:news.length=b.length:=hv.length;have hlt:cs.length<=us.size:=by have:=d.length;simp at this;omega
 have hs:=run_storeCells_cells (P:=C.P) g off news 0 w (λj hj=>by
  rw[cell_of_row w _ _ us e fr hw,Bk,Ci Ab];rfl) (λj hj=>by
  simp only[World.frozen?,hw];rcases pf with rfl|rL
  .simp
  .simp;omega) h1
 rw[Bk,Ej _ off us w hw Ab] at hs;have hcl:(cs.take off++b++cs.drop (off+b.length)).length=cs.length:=Ei;have Ub:((us.toList.take off++news++us.toList.drop (off+news.length)).toArray).toList.take (cs.take off++b++cs.drop (off+b.length)).length=(us.toList.take cs.length).take off++news++(us.toList.take cs.length).drop (off+news.length):=by rw[hcl];simp only[Kn];exact Mn (by simpa using hlt) Ab rfl
 obtain⟨ki,ha⟩:=M0 hi hcs hg hw (us.toList.take off++news++us.toList.drop (off+news.length)).toArray (cs.take off++b++cs.drop (off+b.length))
  (by simp only[BZ,Aq,AB,Bg,B8];omega)
  (by
   rcases pf with rfl|pf
   .exact .inl rfl
   .refine .inr (Bp (L9 ?_) pf);simp only[BZ,Aq,AB,Bg,B8];omega)
  (by rw[Ub,Qj];exact NF d hv)
  (by
   rw[Ub];intro q hq;rcases Ap.1 hq with hq|hq
   .rcases Ap.1 hq with hq|hq
    .exact c q (A0 hq)
    .exact h1 q hq
   .exact c q (Bu hq))
 exact⟨_,hs,ki,ha⟩
def mV{t t' ty:TypeId}{ts:Array TypeId}{xs:Array Value}(h0:ts[0]?=some t)(h1:ts[1]?=some t'):Builtin.copy_ ts ty xs=Builtin.copy_ #[t,t'] ty xs:=by simp only[Builtin.copy_,h0];rfl
def gF{P:Program}{t t' ty e:TypeId}{i:TypeInfo}(ht:P.underlying t=some (.slice e))(hi:P.info? e=some i){x:Value}{n:Nat}{news:List Value}(hs:Src P i.size t' x n news w){base:Option Addr}{k cap:Nat}(hk:n<=k)
  (IK:∀b,base=some b->(storeCells b news).run P w= .ok () w') (Y5:base=none->w'=w):(Builtin.copy_ #[t,t'] ty #[.slice base k cap,x]).run P w= .ok (.int .i64 n) w':=by
 have hl:=hs.len w;have hc:=hs.cells;have hm:Nat.min n k=n:=CE hk;cases base with
 |none=>cases Y5 rfl;simp[Builtin.copy_,run_underlying ht,hl,hc,sizeOf,typeInfo,hi,hm,goInt]
 |some b=>have h2:=IK b rfl;simp[Builtin.copy_,run_underlying ht,hl,hc,sizeOf,typeInfo,hi,hm,goInt,h2]
def kj{o:Oper}{c:Call}{t t' e:TypeId}{n:Nat}{s x:Operand}{v u r:Aa}{h':Ai}(ho:o.op= .call c)(hc:c.callee= .builtin .copy)(h0:c.argTypes[0]?=some t)(h1:c.argTypes[1]?=some t')(Ek:c.args.toList=[s,x])(ht:C.P.underlying t=some (.slice e))
  (Ir:(∃d,C.P.underlying t'=some (.slice d))\/C.P.underlying t'=some .string) (KW:BO C.P e=some (n+1)) (hv:Bm C U [s,x]=some [v,u])
  (hp:qY h (n+1) v u=some (h',r)) (hr:CX C γ0 w0 γ Z U h a w):Ft C γ0 w0 o a w (U.put o.dst (.val r)) h':=by
 obtain⟨_,_,e0,hvs,lQ⟩:=EO hr hv;cases e0;have JU:c.args.map a.eval=#[a.eval s,a.eval x]:=by apply Ge;simp[Ek]
 have Mf:∀v' w',(Builtin.copy_ #[t,t'] o.type #[a.eval s,a.eval x]).run C.P w= .ok v' w'->(execOp a.eval o).run C.P w= .ok (.value v') w':=λv' w' AI=>by
  have:execOp a.eval o=(do pure (Next.value (<-Builtin.copy_ #[t,t'] o.type #[a.eval s,a.eval x]))):=by rw[<-JU,<-mV (ty:=o.type) h0 h1];simp only[execOp,ho,resolve,hc];rfl
  rw[this];exact De AI
 cases hi:C.P.info? e with
 |none=>simp[BO,hi] at KW
 |some i=>
 have Qh:=Ji KW hi;unfold qY at hp;cases hq:Ha h (n+1) u with
 |none=>rw[hq] at hp;cases hp
 |some Aw=>
  rw[hq] at hp;obtain⟨news,JW,Vi,mS⟩:=V6 (w:=w) Ir hr.DG lQ hq;have JA:Src C.P i.size t' (a.eval x) Aw.length news w:=by rw[Qh];exact JW
  have Qj:news.length=Aw.length*(n+1):=JW.newsLen;have Io:Aw.flatten.length=news.length:=by rw[Vi.length]
  simp only at hp;split at hp
  .split at hp;.rename_i zY;cases hp;have I5:a.eval s= .slice none 0 0:=hvs;have AI:=gF (t:=t) (ty:=o.type) (w:=w) (w':=w) ht hi JA (base:=none) (k:=0) (cap:=0) Ab (λ_ e=>by cases e) (λ_=>rfl);rw[<-I5] at AI;rw[zY] at AI;exact Ft.value (Mf _ _ AI) (hr.put λ_ _=>rfl)
   .cases hp
  .rename_i id off k z;split at hp
   .rename_i cs hcs;split at hp;.rename_i Hz;obtain⟨rfl,b,hlen⟩:=Hz;cases hp;obtain⟨g,cap,hg,I5,yi,fx,US⟩:=(show BF γ _ _ from hvs);have hm:=DV (n+1) b;obtain⟨w',IK,ki,ŗ⟩:=gE (C:=C) (off:=off) hr.DG hcs hg Vi JW.one Ab;have AI:=gF (t:=t) (ty:=o.type) (w:=w) (w':=w') ht hi JA (base:=some ⟨g,off,none⟩) (k:=k) (cap:=cap) b (λ_ e=>by cases e;exact IK) (λe=>by cases e);rw[<-I5] at AI;rw[show Aw.length*(n+1)=Aw.flatten.length by rw[Io,Qj]];exact Ft.value (Mf _ _ AI) ((hr.IA ki ŗ).put λ_ _=>rfl)
    .cases hp
   .cases hp
  .cases hp
def gG{t ty:TypeId}{ts:Array TypeId}{xs:Array Value}(h0:ts[0]?=some t):Builtin.clear_ ts ty xs=Builtin.clear_ #[t] ty xs:=by simp only[Builtin.clear_,h0];rfl
def zZ{o:Oper}{c:Call}{t e:TypeId}{n:Nat}{s:Operand}{v z r:Aa}{h':Ai}(ho:o.op= .call c)(hc:c.callee= .builtin .clear)(h0:c.argTypes[0]?=some t)(Ek:c.args.toList=[s])(ht:C.P.underlying t=some (.slice e))
  (KW:BO C.P e=some (n+1)) (hz:GD C.P e=some z) (hv:Bm C U [s]=some [v]) (hp:VE h (n+1) z.cells v=some (h',r)) (hr:CX C γ0 w0 γ Z U h a w):Ft C γ0 w0 o a w (U.put o.dst .undef) h':=by
 obtain⟨_,e0,hvs⟩:=Gn hr hv;cases e0;have JU:c.args.map a.eval=#[a.eval s]:=by apply Ge;simp[Ek]
 have Mf:∀v' w',(Builtin.clear_ #[t] o.type #[a.eval s]).run C.P w= .ok v' w'->(execOp a.eval o).run C.P w= .ok (.value v') w':=λv' w' AI=>by
  have:execOp a.eval o=(do pure (Next.value (<-Builtin.clear_ #[t] o.type #[a.eval s]))):=by rw[<-JU,<-gG (ty:=o.type) h0];simp only[execOp,ho,resolve,hc];rfl
  rw[this];exact De AI
 unfold VE at hp;split at hp
 .cases hp;have I5:a.eval s= .slice none 0 0:=hvs;have AI:(Builtin.clear_ #[t] o.type #[a.eval s]).run C.P w= .ok (.tuple #[]) w:=by rw[I5];simp[Builtin.clear_,run_underlying ht]
  exact Ft.value (Mf _ _ AI) (hr.put λ_ _=>trivial)
 .rename_i id off k A;split at hp
  .rename_i cs hcs;split at hp
   .rename_i Hz;obtain⟨rfl,f,hlen⟩:=Hz;cases hp;obtain⟨g,cap,hg,I5,yi,fx,US⟩:=(show BF γ _ _ from hvs);obtain⟨d,fy,Ţ⟩:=HG hz;obtain⟨m,p⟩:=Hc (γ:=γ) (E1 fy) Ab;have aL:d.cells.size=n+1:=by have:=m.length;simp at this;omega
    have Io:(List.replicate k z.cells).flatten.length=k*(n+1):=by rw[He (z:=n+1) (λr hr=>by rw[ā hr,f]),Fs]
    have i:∀(j:Nat) (u:Value),(Builtin.zeroCells d.cells k).toList[j]?=some u->j<k*(n+1)/\d.cells.toList[j%(n+1)]?=some u:=by
     intro j u hj;have Y4:j<k*(n+1):=by have:=(Aj.1 hj).1;simpa[size_zeroCells,aL] using this
     refine⟨Y4,?_⟩;have Ş:j%(n+1)<d.cells.size:=by rw[aL];exact Nat.mod_lt _ (CU n)
     simp only[Builtin.zeroCells,MW,Cd] at hj;have b:(Array.range (k*d.cells.size)).toList[j]?=some j:=by simp[aL,Y4]
     rw[b] at hj;simp only[By,Bx] at hj;rw[aL] at hj;rw[<-hj];simp[Ş]
    have q:AW γ (List.replicate k z.cells).flatten (Builtin.zeroCells d.cells k).toList:=by refine AW.GF (by simp only[B8,size_zeroCells,aL,Io]) λj x u hx hu=>?_;obtain⟨Y4,l⟩:=i j u hu;rw[HL z.cells _ _ (by rw[f];exact Y4),f] at hx;obtain⟨B,zG,ř⟩:=m.get hx;rw[l] at zG;cases zG;exact ř
    obtain⟨w',IK,ki,ŗ⟩:=gE (C:=C) (off:=off) hr.DG hcs hg q (λu hu=>by obtain⟨j,hj⟩:=CD hu;exact p u (Ct (i j u hj).2)) Ab
    have AI:(Builtin.clear_ #[t] o.type #[a.eval s]).run C.P w= .ok (.tuple #[]) w':=by
     rw[I5];cases k with
     |zero=>
      have y:(Builtin.zeroCells d.cells 0).toList=[]:=by simp[Builtin.zeroCells]
      rw[y] at IK;have:w'=w:=by have h2:(storeCells ⟨g,off,none⟩ []).run C.P w= .ok () w:=rfl;rw[h2] at IK;cases IK;rfl
      rw[this];simp[Builtin.clear_,run_underlying ht]
     |succ k=>simp[Builtin.clear_,run_underlying ht,Ţ,IK]
    rw[show k*(n+1)=(List.replicate k z.cells).flatten.length from Io.symm];exact Ft.value (Mf _ _ AI) ((hr.IA ki ŗ).put λ_ _=>trivial)
   .cases hp
  .cases hp
 .cases hp
def kq{o:Oper}{t e:TypeId}{n:Nat}{x:Operand}{lo hi:Option Operand}{v r:Aa}{as:List Aa}{h':Ai}(ho:o.op= .slice t x lo hi none)(ht:C.P.underlying t=some (.slice e))(KW:BO C.P e=some (n+1))
  (hv:Bm C U (x::(lo.toList++hi.toList))=some (v::as)) (hp:fH h (n+1) lo.isSome hi.isSome v as=some (h',r)) (hr:CX C γ0 w0 γ Z U h a w):Ft C γ0 w0 o a w (U.put o.dst (.val r)) h':=by
 have mU:=DB hr hv;obtain⟨u,us,c,hx,ku⟩:=mU;simp only[A9,Ex] at c;obtain⟨rfl,rfl⟩:=c;unfold fH at hp;split at hp
 .rename_i id off k z;split at hp
  .rename_i cs hcs;split at hp
   .rename_i Hz;obtain⟨rfl,b,aEq⟩:=Hz;obtain⟨g,cap,hg,I5,yi,fx,US⟩:=(show BF γ _ _ from hx);cases hb:Dz lo.isSome hi.isSome ((cs.length-off)/(n+1)) as with
    |none=>rw[hb] at hp;cases hp
    |some i=>
     obtain⟨l,q⟩:=i;rw[hb] at hp;simp only[Cm] at hp;split at hp
     .rename_i hlt;cases hp;obtain⟨us,c,fr,p1,pf,p2,B⟩:=hr.DG.cells id cs hcs g hg;obtain⟨⟨fu,s,m,d,A⟩,_⟩:=hr.DG.sz g _ US;rw[p1] at d;cases d;have fw:cs.length<=us.size:=by have:=p2.length;simp at this;omega
      have aJd:(cs.length-off)/(n+1)<=cap:=by refine Nat.div_le_of_le_mul ?_;rw[Nat.mul_comm];omega
      have f:∀y:Option Operand,(y.map a.eval).isSome=y.isSome:=λy=>by cases y<;>rfl
      have p:(lo.map a.eval).toList++(hi.map a.eval).toList=(lo.toList++hi.toList).map a.eval:=by cases lo<;>cases hi<;>rfl
      rw[<-f lo,<-f hi] at hb;obtain⟨j,E,D⟩:=J9 (P:=C.P) (w:=w) (isSlice:=true) hb (by rw[p];exact ku) aJd;have M1:Instr.sliceBounds true k cap (lo.map a.eval) (hi.map a.eval) none=Instr.sliceBounds true ((cs.length-off)/(n+1)) cap (lo.map a.eval) (hi.map a.eval) none:=by
       cases hi with
       |none=>cases b
       |some y=>rfl
      have Ir:C.P.underlying t=some (.slice (C.P.elem t)):=by simp[Program.elem,ht]
      have he:C.P.elem t=e:=by simp[Program.elem,ht]
      have AI:(Instr.sliceAt t (a.eval x) (lo.map a.eval) (hi.map a.eval) none).run C.P w= .ok (.slice (some ⟨g,off+l*(n+1),none⟩) (q-l) (cap-l)) w:=by rw[I5,run_sliceAt_slice w t _ _ _ _ Ir,run_slice_any w t _ _ _ Ir,M1,j,he,Result.andThen_ok,Dp KW];show Result.ok (Value.slice (if cap=l then some ⟨g,off,none⟩ else Option.map (λq:Addr=>q.add (l*(n+1))) (some ⟨g,off,none⟩)) (q-l) (cap-l)) w=_;rw[Ad Ab];simp only[By];unfold Addr.add;split<;>simp_all
      refine Ft.value (by simp only[execOp,ho];exact De AI) (hr.put λ_ _=>⟨g,cap-l,hg,rfl,Ab,⟨fx.1,Bp (Nat.sub_le _ _) fx.2⟩,?_⟩);rw[US,Rq,<-BA,aIP Ab]
     .cases hp
   .cases hp
  .cases hp
 .cases hp
def kx{o:Oper}{t e:TypeId}{n:Nat}{x lo hi mx:Operand}{args:List Aa}(ho:o.op= .slice t x (some lo) (some hi) (some mx))(ht:C.P.underlying t=some (.slice e))(KW:BO C.P e=some (n+1))
  (hv:Bm C U [x,lo,hi,mx]=some args) (hp:VF (n+1) args=true) (hr:CX C γ0 w0 γ Z U h a w):Ft C γ0 w0 o a w (U.put o.dst .undef) h:=by
 have mU:=DB hr hv;have Ir:C.P.underlying t=some (.slice (C.P.elem t)):=by simp[Program.elem,ht]
 have he:C.P.elem t=e:=by simp[Program.elem,ht]
 have HM:∀(base:Option Addr) (len cap:Nat) (kl kr f:IntKind) (l r m:Int),a.eval x= .slice base len cap->a.eval lo= .int kl l->a.eval hi= .int kr r->a.eval mx= .int f m->0<=l->l<=r->r<=m->m<=cap->Ft C γ0 w0 o a w (U.put o.dst .undef) h:=by
  intro base len cap kl kr f l r m z y u q h1 h2 d i;have AI:∃v,(Instr.sliceAt t (a.eval x) (some (a.eval lo)) (some (a.eval hi)) (some (a.eval mx))).run C.P w= .ok v w:=by
   have c:0<=m:=Ab;have b:0<=r:=Ab;have b1:∀code,(Instr.sliceBound (.int f m) cap code).run C.P w= .ok m.toNat w:=λcode=>by simp[Instr.sliceBound,asIntOf,c,i]
   have b2:∀code,(Instr.sliceBound (.int kr r) m.toNat code).run C.P w= .ok r.toNat w:=λcode=>by simp[Instr.sliceBound,asIntOf,b,HX c,d]
   have b3:∀code,(Instr.sliceBound (.int kl l) r.toNat code).run C.P w= .ok l.toNat w:=λcode=>by simp[Instr.sliceBound,asIntOf,h1,HX b,h2]
   rw[z,y,u,q];simp[Instr.sliceAt,Instr.slice,run_underlying ht,Instr.sliceBounds,b1,b2,b3,Dp KW]
  obtain⟨v,AI⟩:=AI;exact Ft.value (by simp only[execOp,ho];exact De AI) (hr.put λ_ _=>trivial)
 unfold VF at hp;split at hp
 .rename_i s _ l _ r _ m;obtain⟨E,Š,f1,g1,D,lO,f2,g2,B,p,f3,g3,A,k,f4,j,f5⟩:=mU;subst f5;simp only[A9,Dw] at f1;subst f4;subst f3;subst f2;simp only[Ex,Mb] at f1;obtain⟨rfl,rfl,rfl,rfl⟩:=f1;split at hp;.simp only[AN,B0] at hp;obtain⟨⟨⟨⟨_,h1⟩,h2⟩,d⟩,i⟩:=hp;obtain⟨g,cap,hg,I5,yi,_⟩:=(show BF γ _ _ from g1);exact HM _ _ _ _ _ _ _ _ _ I5 (D7 g2) (D7 g3) (D7 j) h1 h2 d Ab
  .simp only[AN,B0] at hp;obtain⟨⟨⟨⟨_,h1⟩,h2⟩,d⟩,i⟩:=hp;obtain⟨F,cap,I5,yi,_⟩:=(show BF γ _ _ from g1);exact HM _ _ _ _ _ _ _ _ _ I5 (D7 g2) (D7 g3) (D7 j) h1 h2 d Ab
  .cases hp
 .cases hp
def ky{o:Oper}{t:TypeId}{x:Operand}{v:Aa}{u:TypeDesc}(ho:o.op= .makeInterface t x)(ht:C.P.underlying t=some u)(hn:∀i,u≠ .interface i)(hv:Bm C U [x]=some [v])(hr:CX C γ0 w0 γ Z U h a w):Ft C γ0 w0 o a w (U.put o.dst (.val (.iface t v))) h:=by
 obtain⟨_,e0,hvs⟩:=Gn hr hv;cases e0;have AI:(Instr.makeInterface t (a.eval x)).run C.P w= .ok (.iface t (a.eval x)) w:=by cases u<;>simp_all [Instr.makeInterface,run_underlying ht]
 exact Ft.value (by simp only[execOp,ho];exact De AI) (hr.put λ_ _=>⟨_,rfl,hvs⟩)
def PU{n:Int}:∀{es:List (Aa×Aa)} {l:List MapEntry} {i:Nat} {r:Option (Nat×Aa)},J8 γ es l->K5 n es i=some r->
  match r with
  |none=>Instr.findNow (.int .i64) (.int .i64 n) l i=some none
  |some (j,v)=>∃(e:MapEntry),Instr.findNow (.int .i64) (.int .i64 n) l i=some (some (j,e.val))/\BF γ v e.val/\i<=j/\l[j-i]?=some e/\e.key= .int .i64 n
 |[],l,i,r,b,hf=>by rw[show l=[] from b];cases hf;rfl
 |(k,v)::es,l,i,r,b,hf=>by
  obtain⟨e,l',rfl,h1,h2,m⟩:=b;cases k with
  |int q t=>
   by_cases hq:q= .i64
   .subst hq;simp only[K5] at hf;have hk:e.key= .int .i64 t:=h1;split at hf;.rename_i IK;subst IK;cases hf;exact⟨e,by simp[Instr.findNow,hk,Instr.sameNow],h2,Ae _,Ax,hk⟩
    .rename_i IK;have aEv:(n==t)=false:=by simpa using IK
     have ih:=PU (i:=i+1) m hf;cases r with
     |none=>simpa[Instr.findNow,hk,Instr.sameNow,aEv] using ih
     |some p=>obtain⟨j,v2⟩:=p;obtain⟨o,g,f,s,d,c⟩:=ih;refine⟨o,by simpa[Instr.findNow,hk,Instr.sameNow,aEv] using g,f,Ab,?_,c⟩;rw[(Ab:j-i=(j-(i+1))+1),SX];exact d
   .exfalso;cases q<;>first|exact hq rfl|(simp[K5] at hf)
  |_=>simp[K5] at hf
def kz{o:Oper}{t kt e:TypeId}{m k:Operand}{f g z r:Aa}{ok:Bool}{h':Ai}(ho:o.op= .lookup t m k ok)(ht:C.P.underlying t=some (.map kt e))(hk:C.P.underlying kt=some (.int .i64))(hz:GD C.P e=some z)(ha:Bm C U [m,k]=some [f,g])(hm:qZ h z ok f g=some (h',r))(hr:CX C γ0 w0 γ Z U h a w):
  Ft C γ0 w0 o a w (U.put o.dst (.val r)) h':=by
 obtain⟨_,_,e0,h1,h2⟩:=EO hr ha;cases e0;obtain⟨d,fy,Ţ⟩:=HG hz;have HM:∀(es:Array MapEntry) (q:Option (Nat×Aa)),(Instr.lookup t (a.eval m) (a.eval k) ok).run C.P w=(Kv kt e (a.eval k) ok es).run C.P w->
   ∀n,a.eval k= .int .i64 n->(match q with|none=>Instr.findNow (.int .i64) (.int .i64 n) es.toList 0=some none|some (j,v)=>∃(e:MapEntry),Instr.findNow (.int .i64) (.int .i64 n) es.toList 0=some (some (j,e.val))/\BF γ v e.val/\0<=j/\es.toList[j-0]?=some e/\e.key= .int .i64 n)->
   l8 z ok q=r->Ft C γ0 w0 o a w (U.put o.dst (.val r)) h:=by
  intro es q QX n yo hq T9;have zV:(Instr.checkKey es.isEmpty 10000 kt (.int .i64 n)).run C.P w= .ok () w:=MapKept.run_checkKey (k:= .int .i64 n) hk (by simp[MapKept.IsKey]) es.isEmpty 9999;have AI:∃v,(Instr.lookup t (a.eval m) (a.eval k) ok).run C.P w= .ok v w/\BF γ r v:=by
   cases q with
   |none=>
    refine⟨if ok then .tuple #[d,.bool false] else d,?_,?_⟩;.rw[QX,yo];unfold Kv;simp only[Sem.run_bind,Result.andThen_ok,zV,MapKept.run_findKey hk hq,Ţ,Sem.run_bind,Sem.run_pure]
    .rw[<-T9];have c:=E1 (γ:=γ) fy;cases ok with
     |true=>exact⟨_,rfl,_,_,rfl,c,_,_,rfl,rfl,rfl⟩
     |false=>exact c
   |some p=>
    obtain⟨j,v⟩:=p;obtain⟨en,s,l,_⟩:=hq;refine⟨if ok then .tuple #[en.val,.bool true] else en.val,?_,?_⟩;.rw[QX,yo];unfold Kv;simp only[Sem.run_bind,Result.andThen_ok,zV,MapKept.run_findKey hk s,Sem.run_bind,Sem.run_pure]
    .rw[<-T9];cases ok with
     |true=>exact⟨_,rfl,_,_,rfl,l,_,_,rfl,rfl,rfl⟩
     |false=>exact l
  obtain⟨v,AI,rR⟩:=AI;exact Ft.value (by simp only[execOp,ho];exact De AI) (hr.put λ_ _=>rR)
 unfold qZ at hm;split at hm;.rename_i n;cases hm;exact HM #[] none (by rw[show a.eval m=_ from h1];simp only[Instr.lookup,Kv,Sem.run_bind,run_underlying ht,Result.andThen_ok,Sem.run_pure];rfl) n h2 rfl rfl
 .rename_i id n;obtain⟨b,hb,zU⟩:=h1;split at hm
  .rename_i es QX;obtain⟨C7,clock,hw,u,_⟩:=hr.DG.map id es QX b hb;cases hf:K5 n es 0 with
   |none=>rw[hf] at hm;cases hm
   |some q=>
    rw[hf] at hm;simp only[By,Bx,KU] at hm;obtain⟨rfl,hm⟩:=hm;refine HM C7 q (by rw[zU];simp only[Instr.lookup,Kv,Sem.run_bind,run_underlying ht,MapKept.run_getObj_map hw,Result.andThen_ok,Sem.run_pure];rfl) n h2 ?_ ?_
    .have:=PU (i:=0) u hf;cases q with
     |none=>exact this
     |some p=>exact this
    .exact hm
  .cases hm
 .cases hm
def J8.ţ{k v:Aa}{e:MapEntry}(hk:BF γ k e.key)(hv:BF γ v e.val):∀{es:List (Aa×Aa)} {l:List MapEntry},J8 γ es l->J8 γ (es++[(k,v)]) (l++[e])
 |[],l,b=>by rw[show l=[] from b];exact⟨e,[],rfl,hk,hv,rfl⟩
 |(k',v')::es,l,b=>by obtain⟨d,l',rfl,h1,h2,c⟩:=b;exact⟨d,_,rfl,h1,h2,J8.ţ hk hv c⟩
def J8.length:∀{es:List (Aa×Aa)} {l:List MapEntry},J8 γ es l->l.length=es.length
 |[],l,b=>by rw[show l=[] from b];rfl
 |(k',v')::es,l,b=>by obtain⟨d,l',rfl,h1,h2,c⟩:=b;simp[J8.length c]
def J8.modify{v:Aa}{u:Value}(hv:BF γ v u):∀{es:List (Aa×Aa)} {l:List MapEntry} {j:Nat} {k v0:Aa},J8 γ es l->es[j]?=some (k,v0)->J8 γ (es.set j (k,v)) (l.modify j λe=>{e with val:=u})
 |[],l,j,k,v0,b,hj=>by simp at hj
 |(k',v')::es,l,j,k,v0,b,hj=>by
  obtain⟨d,l',rfl,h1,h2,c⟩:=b;cases j with
  |zero=>cases hj;exact⟨{d with val:=u},l',Ax,h1,hv,c⟩
  |succ j=>exact⟨d,l'.modify j _,Ax,h1,h2,J8.modify hv c (by simpa using hj)⟩
def gH{es:Array MapEntry}{j:Nat}{e:MapEntry}{k:Value}(hj:es[j]?=some e)(hk:e.key=k):(es.modify j λe=>{e with key:=k})=es:=by
 apply PK;intro i;rw[MF];split;.rename_i hi;subst hi;rw[hj];simp[<-hk]
 .rfl
def Wc{o:Oper}{t kt e:TypeId}{m k:Operand}{kA z r:Aa}{kV:Value}{d:TypeDesc}{h':Ai}{id:Nat}{es:List (Aa×Aa)}{f:Option (Option (Nat×Aa))}(ho:o.op= .mapEntry t m k)(ht:C.P.underlying t=some (.map kt e))(hk:C.P.underlying kt=some d)(g:MapKept.IsKey d kV)(hz:GD C.P e=some z)
  (h1:BF γ (.map (some id)) (a.eval m)) (š:a.eval k=kV) (n:BF γ kA kV) (QX:h[id]?=some (.map es))
  (hq:∀(l:List MapEntry) q,J8 γ es l->f=some q->match q with
   |none=>Instr.findNow d kV l 0=some none
   |some (j,v)=>∃(e:MapEntry),Instr.findNow d kV l 0=some (some (j,e.val))/\BF γ v e.val/\0<=j/\l[j-0]?=some e/\e.key=kV)
  (hm:(f.map λr=>match r with
   |some (i,v)=>(h,Aa.tuple [v,.int .i64 i])
   |none=>(h.set id (.map (es++[(kA,z)])),.tuple [z,.int .i64 es.length]))=some (h',r)) (hr:CX C γ0 w0 γ Z U h a w):
  Ft C γ0 w0 o a w (U.put o.dst (.val r)) h':=by
 obtain⟨c,fy,Ţ⟩:=HG hz;obtain⟨b,hb,zU⟩:=h1;obtain⟨C7,clock,hw,s,hB⟩:=hr.DG.map id es QX b hb;have zV:(Instr.checkKey false 10000 kt kV).run C.P w= .ok () w:=MapKept.run_checkKey (k:=kV) hk g false 9999;cases f with
 |none=>cases hm
 |some q=>
  have hq:=hq C7.toList q s rfl;cases q with
  |none=>
   simp only[By,Bx,KU] at hm;obtain⟨rfl,rfl⟩:=hm;have AI:(Instr.mapEntry t (a.eval m) (a.eval k)).run C.P w= .ok (.tuple #[c,goInt clock]) {w with heap:=w.heap.setIfInBounds b (.map (C7.push {key:=kV,val:=c,born:=clock}) (clock+1))}:=by rw[zU,š];simp[Instr.mapEntry,run_underlying ht,MapKept.run_getObj_map hw,zV,MapKept.run_findKey hk hq,Ţ,MapKept.run_setObj_map _ hw,Result.andThen]
   obtain⟨hi,JB⟩:=M6 (T5:=es++[(kA,z)]) (ents':=C7.push {key:=kV,val:=c,born:=clock}) (clock':=clock+1) hr.DG QX hb hw ⟨by have:=J8.ţ (γ:=γ) (k:=kA) (v:=z) (e:={key:=kV,val:=c,born:=clock}) n (E1 fy) s;simpa using this,Tl hB⟩
   refine Ft.value (by simp only[execOp,ho];exact De AI) ((hr.IA hi JB).put λ_ _=>⟨_,rfl,c,_,rfl,E1 fy,_,[],rfl,?_,rfl⟩);rw[hB.1];have:=s.length;simp only[B8] at this;rw[<-this];rfl
  |some p=>
   obtain⟨j,v⟩:=p;simp only[By,Bx,KU] at hm;obtain⟨rfl,rfl⟩:=hm;obtain⟨en,A,y,_,x,u⟩:=hq;have hj:C7[j]?=some en:=by simpa using x
   have aEw:=hB.2 j en hj;have aa:w.heap.setIfInBounds b (.map C7 clock)=w.heap:=by
    apply PK;intro i;rw[Array.getElem?_setIfInBounds];split;.rename_i hi;subst hi;have hlt:=(AL.1 hw).1;rw[Af hlt,hw]
    .rfl
   have AI:(Instr.mapEntry t (a.eval m) (a.eval k)).run C.P w= .ok (.tuple #[en.val,goInt j]) w:=by rw[zU,š];simp[Instr.mapEntry,run_underlying ht,MapKept.run_getObj_map hw,zV,MapKept.run_findKey hk A,hj,u,MapKept.run_keyThatStays (d:=d) (k:=kV) g,MapKept.run_setObj_map _ hw,Result.andThen,aEw,gH hj u,aa]
   exact Ft.value (by simp only[execOp,ho];exact De AI) (hr.put λ_ _=>⟨_,rfl,_,_,rfl,y,_,[],rfl,rfl,rfl⟩)
def mW{o:Oper}{t kt e:TypeId}{m k:Operand}{b c z r:Aa}{h':Ai}(ho:o.op= .mapEntry t m k)(ht:C.P.underlying t=some (.map kt e))(hk:C.P.underlying kt=some (.int .i64))(hz:GD C.P e=some z)(ha:Bm C U [m,k]=some [b,c])(hm:Ve h z b c=some (h',r))(hr:CX C γ0 w0 γ Z U h a w):
  Ft C γ0 w0 o a w (U.put o.dst (.val r)) h':=by
 obtain⟨_,_,e0,h1,h2⟩:=EO hr ha;cases e0;unfold Ve at hm;split at hm
 .rename_i id n;split at hm;.rename_i es QX;exact Wc (kA:= .int .i64 n) (kV:= .int .i64 n) ho ht hk (by simp[MapKept.IsKey]) hz h1 h2 rfl QX (λl q d hf=>PU (i:=0) d hf) hm hr
  .cases hm
 .cases hm
def Y7{s:Ah}:∀{es:List (Aa×Aa)} {l:List MapEntry} {i:Nat} {r:Option (Nat×Aa)},J8 γ es l->QM s es i=some r->
  match r with
  |none=>Instr.findNow .string (.string ⟨⟨s⟩⟩) l i=some none
  |some (j,v)=>∃(e:MapEntry),Instr.findNow .string (.string ⟨⟨s⟩⟩) l i=some (some (j,e.val))/\BF γ v e.val/\i<=j/\l[j-i]?=some e/\e.key= .string ⟨⟨s⟩⟩
 |[],l,i,r,b,hf=>by rw[show l=[] from b];cases hf;rfl
 |(k,v)::es,l,i,r,b,hf=>by
  obtain⟨e,l',rfl,h1,h2,m⟩:=b;cases k with
  |str t=>
   simp only[QM] at hf;have hk:e.key= .string ⟨⟨t⟩⟩:=h1;split at hf;.rename_i IK;subst IK;cases hf;exact⟨e,by simp[Instr.findNow,hk,Instr.sameNow,QW],h2,Ae _,Ax,hk⟩
   .rename_i IK;have ih:=Y7 (i:=i+1) m hf;have hne:=Wa IK;cases r with
    |none=>simpa[Instr.findNow,hk,Instr.sameNow,hne] using ih
    |some p=>obtain⟨j,v2⟩:=p;obtain⟨n,g,f,o,d,c⟩:=ih;refine⟨n,by simpa[Instr.findNow,hk,Instr.sameNow,hne] using g,f,Ab,?_,c⟩;rw[(Ab:j-i=(j-(i+1))+1),SX];exact d
  |_=>simp[QM] at hf
def mX{o:Oper}{t kt e:TypeId}{m k:Operand}{b c z r:Aa}{h':Ai}(ho:o.op= .mapEntry t m k)(ht:C.P.underlying t=some (.map kt e))(hk:C.P.underlying kt=some .string)(hz:GD C.P e=some z)(ha:Bm C U [m,k]=some [b,c])(hm:Vf h z b c=some (h',r))(hr:CX C γ0 w0 γ Z U h a w):
  Ft C γ0 w0 o a w (U.put o.dst (.val r)) h':=by
 obtain⟨_,_,e0,h1,h2⟩:=EO hr ha;cases e0;unfold Vf at hm;split at hm
 .rename_i id n;split at hm;.rename_i es QX;exact Wc (kA:= .str n) (kV:= .string ⟨⟨n⟩⟩) ho ht hk (by simp[MapKept.IsKey]) hz h1 h2 rfl QX (λl q d hf=>Y7 (i:=0) d hf) hm hr
  .cases hm
 .cases hm
def gI{o:Oper}{t kt e:TypeId}{m k x:Operand}{d f c r:Aa}{h':Ai}(ho:o.op= .insert t m k x\/o.op= .mapUpdate t m k x)(hd:o.dst=none)(ht:C.P.underlying t=some (.map kt e))(hk:C.P.underlying kt=some (.int .i64))(ha:Bm C U [m,k,x]=some [d,f,c])
  (hm:gy h d f c=some (h',r)) (hr:CX C γ0 w0 γ Z U h a w):Ft C γ0 w0 o a w U h':=by
 obtain⟨h1,h2,j⟩:=QY hr ha;have Mf:∀w',(Instr.mapUpdate t (a.eval m) (a.eval k) (a.eval x)).run C.P w= .ok () w'->(execOp a.eval o).run C.P w= .ok .skip w':=λw' AI=>by rcases ho with ho|ho<;>simp[execOp,ho,AI]
 unfold gy at hm;split at hm
 .rename_i id n;obtain⟨b,hb,zU⟩:=h1;have š:a.eval k= .int .i64 n:=h2;split at hm
  .rename_i es QX;obtain⟨C7,clock,hw,g,hB⟩:=hr.DG.map id es QX b hb;have zV:(Instr.checkKey false 10000 kt (.int .i64 n)).run C.P w= .ok () w:=MapKept.run_checkKey (k:= .int .i64 n) hk (by simp[MapKept.IsKey]) false 9999;split at hm
   .rename_i hf;cases hm;have hq:=PU (i:=0) g hf;have AI:(Instr.mapUpdate t (a.eval m) (a.eval k) (a.eval x)).run C.P w= .ok () {w with heap:=w.heap.setIfInBounds b (.map (C7.push {key:= .int .i64 n,val:=a.eval x,born:=clock}) (clock+1))}:=by rw[zU,š];simp[Instr.mapUpdate,run_underlying ht,MapKept.run_getObj_map hw,zV,MapKept.run_findKey hk hq,MapKept.run_setObj_map _ hw,Result.andThen]
    obtain⟨hi,JB⟩:=M6 (T5:=es++[(.int .i64 n,c)]) (ents':=C7.push {key:= .int .i64 n,val:=a.eval x,born:=clock}) (clock':=clock+1) hr.DG QX hb hw ⟨by have:=J8.ţ (γ:=γ) (k:= .int .i64 n) (v:=c) (e:={key:= .int .i64 n,val:=a.eval x,born:=clock}) rfl j g;simpa using this,Tl hB⟩
    exact Ft.skip (Mf _ AI) (by rw[hd];exact hr.IA hi JB)
   .cases hm
  .cases hm
 .cases hm
def aQ{es:Array MapEntry}(hB:∀(i:Nat) (e:MapEntry),es[i]?=some e->e.born=i){j:Nat}{e:MapEntry}(hj:es[j]?=some e):es.findIdx? (λe=>(e.born:Int)==(j:Int))=some j:=by
 rw[Array.findIdx?_eq_some_iff_getElem];obtain⟨hl,he⟩:=AL.1 hj;refine⟨hl,?_,λi hi=>?_⟩;.have:=hB j _ (Ci hl);simp[this]
 .have:=hB i _ (Ci Ab);simp[this];omega
def mY{o:Oper}{t:TypeId}{m s x:Operand}{f vs c r:Aa}{h':Ai}(ho:o.op= .entryStore t m s x)(hd:o.dst=none)(ha:Bm C U [m,s,x]=some [f,vs,c])(hm:RC h f vs c=some (h',r))(hr:CX C γ0 w0 γ Z U h a w):Ft C γ0 w0 o a w U h':=by
 obtain⟨h1,h2,i⟩:=QY hr ha;have Mf:∀w',(Instr.entryStore t (a.eval m) (a.eval s) (a.eval x)).run C.P w= .ok () w'->(execOp a.eval o).run C.P w= .ok .skip w':=λw' AI=>by simp[execOp,ho,AI]
 unfold RC at hm;split at hm
 .rename_i id n;obtain⟨b,hb,zU⟩:=h1;have I5:a.eval s= .int .i64 n:=h2;split at hm
  .rename_i es QX;split at hm
   .rename_i hn;split at hm
    .rename_i kk v0 hk;cases hm;obtain⟨C7,clock,hw,g,hB⟩:=hr.DG.map id es QX b hb;have hlen:=g.length;have hlt:=(Aj.1 hk).1;have d:∃en,C7[n.toNat]?=some en:=⟨C7[n.toNat]'(by simp at hlen;omega),Ci _⟩;obtain⟨en,hj⟩:=d;have ji:((n.toNat:Nat):Int)=n:=Ab;have aEx:=aQ hB.2 hj;rw[ji] at aEx;have AI:(Instr.entryStore t (a.eval m) (a.eval s) (a.eval x)).run C.P w= .ok () {w with heap:=w.heap.setIfInBounds b (.map (C7.modify n.toNat λe=>{e with val:=a.eval x}) clock)}:=by rw[zU,I5];simp[Instr.entryStore,MapKept.run_getObj_map hw,asInt,asIntOf,aEx,MapKept.run_setObj_map _ hw,Result.andThen]
     obtain⟨hi,JB⟩:=M6 (T5:=es.set n.toNat (kk,c)) (ents':=C7.modify n.toNat λe=>{e with val:=a.eval x}) (clock':=clock) hr.DG QX hb hw ⟨by have:=J8.modify i g hk;simpa using this,Ua hB λ_=>rfl⟩
     exact Ft.skip (Mf _ AI) (by rw[hd];exact hr.IA hi JB)
    .cases hm
   .cases hm
  .cases hm
 .cases hm
end
end Go.Am
end
section
section
namespace Go.Am
open Go
section
variable{C:Fv}{γ0 γ γ':Gh}{w0 w w':World}{O:Nat->Nat}{U U':BG}{h h':Ai}{a:Act}{fid:FuncId}{ops:List Oper}
def Ft.wp{o:Oper}{K:Act->World->Prop}{Q:Exit->Act->World->Prop}(hs:Ft C γ0 w0 o a w U' h')(b:∀γ' c a' w',CX C γ0 w0 γ' c U' h' a' w'->K a' w'):o.wp C.P a w K Q:=by
 obtain⟨γ',c,w',⟨v,he,hr⟩|⟨he,hr⟩⟩:=hs;.exact IL he (b _ _ _ _ hr)
 .exact mE he (b _ _ _ _ hr)
def Yh{P:Program}{op:BinOp}{t:TypeId}{p:X3}(hp:PR P op t=some p):p.still=true:=by
 have JU:∀neg u,Ta P t neg u=some p->p.still=true:=by
  intro neg u h;unfold Ta at h;split at h;.cases h;rfl
  .split at h
   .cases hf:OQ P 20 t with
    |none=>rw[hf] at h;cases h
    |some k=>rw[hf] at h;cases h;rfl
   .cases h
  .split at h<;>cases h;rfl
  .cases h;rfl
  .cases h;rfl
  .cases h;rfl
  .cases h
 unfold PR at hp;split at hp;.cases hp;rfl
 .cases hp;rfl
 .split at hp;.exact JU _ _ hp
  .exact JU _ _ hp
  .cases hp
 .cases hp
def M7{P:Program}{t:TypeId}{f off:Nat}{sh:Option Nat}(hf:H8 P t f=some (off,sh))(b o:Nat):(Instr.fieldAt t (.pointer (some ⟨b,o,none⟩)) f).run P w= .ok (.pointer (some ⟨b,o+off,none⟩)) w:=by
 unfold H8 at hf;split at hf
 .rename_i fs zG;split at hf
  .rename_i fd rM;split at hf;.rename_i n c h1 h2;cases hf;simp[Instr.fieldAt,run_underlying zG,rM,Instr.sureAddr,fieldPlace,Dp h1,Addr.add_lit]
   .cases hf
  .cases hf
 .cases hf
def Wd(hr:CX C γ0 w0 γ O U h a w){s ver:Nat}{cs:List Aa}{ow:List Nat}(hs:DL C U (.tmp s)=some (.box ver cs ow)):a.eval (.tmp s)= .pointer (some ⟨O s,0,none⟩):=by have h0:=RK hr s;rw[GG hs] at h0;exact h0.1
def Ud(hr:CX C γ0 w0 γ O U h a w){x:Operand}{s k:Nat}(hs:DL C U x=some (.EU s k)):a.eval x= .pointer (some ⟨O s,k,none⟩):=by obtain⟨t,h1,_⟩:=FO hr hs;exact h1
def Y8{o:Oper}{t:TypeId}{v:Aa}{d:Nat}{r:Eg}{run:IT->Ai->Option Jp}(hb:T2 C fid t v d=some r)(FB:r.M2 C run (U.drop r.news) h U' h')
  (OP:∀n,C.kind fid d= .OP->v.cells.length=n->n≠0->Ft C γ0 w0 o a w ((U.drop [d]).set d (.box 0 v.cells [])) h)
  (heap:v.cells.length≠0->Ft C γ0 w0 o a w (U.put (some d) (.val (.ptr (some (h.length,0))))) (h++[.cells v.cells])):Ft C γ0 w0 o a w U' h':=by
 unfold T2 at hb;split at hb;.cases hb
 .rename_i n hn;split at hb;.cases hb
  .rename_i b;split at hb;.cases hb;obtain⟨h1,rfl,rfl⟩:=FB;rename_i hk;exact OP n hk h1 b
   .cases hb;obtain⟨h1,rfl,rfl⟩:=FB;exact heap Ab
def PV{d s k:Nat}{run:IT->Ai->Option Jp}(FB:(Eg.pure [(d,.EU s k)]).M2 C run (U.drop (Eg.pure [(d,.EU s k)]).news) h U' h'):U'=U.set d (.EU s k)/\h'=h:=by obtain⟨rfl,rfl⟩:=FB;exact⟨rfl,rfl⟩
def k_{run:IT->Ai->Option Jp}(G:EP C run){o:Oper}{r:Eg}{K:Act->World->Prop}{Q:Exit->Act->World->Prop}(hc:FL C fid ops U o=some r)(FB:r.M2 C run (U.drop r.news) h U' h')(hr:CX C γ0 w0 γ O U h a w)
  (j:∀γ' T a' w',CX C γ0 w0 γ' T U' h' a' w'->K a' w'):o.wp C.P a w K Q:=by
 by_cases IK:∃p args dst BK F,r= .op p args dst BK F/\p.still=true
 .obtain⟨p,args,dst,BK,F,rfl,yt⟩:=IK
  obtain⟨L,rfl,rfl,rfl⟩:=zP hc yt hr
  obtain⟨v,hv,rfl,rfl⟩:=FB
  obtain⟨u,R,N⟩:=L v hv
  exact IL R (j _ _ _ _ (hr.put λ_ _=>N))
 .have Y5:∀{p args dst},r= .op p args dst false none->p.still=false:=λ{p args dst} he=>by
   cases hp:p.still with
   |false=>rfl
   |true=>exact absurd ⟨p,args,dst,false,none,he,hp⟩ IK
  have Hk:∀{p dst x},Tb p dst x=some r->p.still=false:=λ{p dst x} he=>by
   obtain⟨args,_,e⟩:=DC he
   exact Y5 e
  unfold FL at hc
  split at hc
  .rename_i x ho
   split at hc
   .rename_i d hd
    obtain⟨γ',Hh⟩:=RM hc FB hr
    exact IL (w':=w) (v:=a.eval x) (by simp[execOp,ho]) (j _ _ _ _ (by rw[hd];exact Hh))
   .cases hc
  .rename_i x ho
   split at hc
   .rename_i d hd
    obtain⟨γ',Hh⟩:=RM hc FB hr
    exact IL (w':=w) (v:=a.eval x) (by simp[execOp,ho]) (j _ _ _ _ (by rw[hd];exact Hh))
   .cases hc
  .rename_i c x y ho
   split at hc
   .rename_i d hcs hd
    obtain⟨γ',Hh⟩:=RM hc FB hr
    obtain⟨s,h1,_⟩:=FO hr hcs
    have h1:a.eval c= .bool true:=h1
    exact IL (w':=w) (v:=a.eval x) (by simp[execOp,ho,h1,asBool]) (j _ _ _ _ (by rw[hd];exact Hh))
   .rename_i d hcs hd
    obtain⟨γ',Hh⟩:=RM hc FB hr
    obtain⟨s,h1,_⟩:=FO hr hcs
    have h1:a.eval c= .bool false:=h1
    exact IL (w':=w) (v:=a.eval y) (by simp[execOp,ho,h1,asBool]) (j _ _ _ _ (by rw[hd];exact Hh))
   .cases Hk hc
  .rename_i t ho
   split at hc
   .rename_i d z hd hz
    split at hc
    .split at hc
     .rename_i Hz
      cases hc
      obtain⟨rfl,rfl⟩:=FB
      exact(VV ho hd hz Hz.2 hr).wp j
     .cases hc
    .rename_i hk
     refine(Y8 (o:=o) (a:=a) (w:=w) (γ0:=γ0) (w0:=w0) hc FB (λn h0 h1 h2=>absurd h0 (by simpa using hk)) λh1=>VW ho hd hz h1 hr).wp j
   .cases hc
  .rename_i t x ho
   split at hc
   .rename_i d v hd hv
    exact(Y8 (o:=o) (a:=a) (w:=w) (γ0:=γ0) (w0:=w0) hc FB (λn _ h1 h2=>aI ho hd hv h1 h2 hr) λh1=>aJ ho hd hv h1 hr).wp j
   .cases hc
  .split at hc
   .split at hc
    .cases Hk hc
    .cases hc
   .cases hc
  .rename_i t len parts ho
   split at hc
   .rename_i e ht
    split at hc
    .rename_i n hn
     split at hc
     .rename_i Hz
      split at hc
      .rename_i hlen
       cases hc
       obtain⟨v,hv,rfl,rfl⟩:=FB
       cases hv
       exact(jt ho ht hn Hz.1 Hz.2 hlen.1 hr).wp j
      cases ha:Bm C U (parts.toList.map (·.2)) with
      |none=>rw[ha] at hc;cases hc
      |some args=>
       rw[ha] at hc;cases hc
       obtain⟨v,hv,rfl,rfl⟩:=FB
       exact(js ho ht hn Hz.1 Hz.2 ha hv hr).wp j
     .cases hc
    .cases hc
   .cases hc
  .rename_i t x ho
   split at hc
   .rename_i d hd
    by_cases hp:∃ws,r= .pure ws
    .exact(Ye ho hd hc hp FB hr).wp j
    .unfold K6 at hc
     split at hc
     .rename_i n p ht hx
      cases hc
      obtain⟨v,hv,rfl,rfl⟩:=FB
      have hs:=jo ho ht hx hv hr
      rw[hd] at hs
      exact hs.wp j
     .split at hc
      .simp only at hc
       split at hc<;>(cases hc;exact absurd ⟨_,rfl⟩ hp)
      .cases hc
     .split at hc
      .cases hc;exact absurd ⟨_,rfl⟩ hp
      .cases hc
     .cases hc
   .cases hc
  .rename_i t x y ho
   split at hc
   .rename_i hd
    have Ns:=hc
    unfold IZ at hc
    split at hc
    .rename_i n p v KW hx hv
     cases hc
     obtain⟨aJe,rfl⟩:=FB
     exact(zQ ho hd KW hx hv aJe hr).wp j
    .split at hc
     .cases hc
      exact(mQ ho hd Ns FB hr).wp j
     .cases hc
    .cases hc
   .cases hc
  .rename_i x ho
   split at hc
   .rename_i s ver cs ow d hd hs
    cases hc
    obtain⟨rfl,rfl⟩:=PV FB
    have he:=Wd hr hs
    exact IL (w':=w) (v:= .pointer (some ⟨O s,0,none⟩)) (by simp[execOp,ho,he]) (j _ _ _ _ (by rw[hd];exact hr.put (d:=some d) λ_ _=>rfl))
   .rename_i s k d hd hs
    cases hc
    obtain⟨rfl,rfl⟩:=PV FB
    have he:=Ud hr hs
    exact IL (w':=w) (v:= .pointer (some ⟨O s,k,none⟩)) (by simp[execOp,ho,he]) (j _ _ _ _ (by rw[hd];exact hr.put (d:=some d) λ_ _=>rfl))
   .cases Hk hc
  .split at hc
   .rename_i p hp
    have yt:=Hk hc
    rw[Yh hp] at yt
    cases yt
   .cases hc
  .cases Hk hc
  .rename_i src aIW x ho
   split at hc
   .rename_i hq
    unfold VI at hq
    cases hv:Ez C U x with
    |none=>rw[hv] at hc;cases hc
    |some v=>
     rw[hv] at hc;cases hc
     split at hq
     .cases hq
     .cases hq
     .cases hq
     .rename_i e hs hd
      split at hq
      .rename_i he
       obtain⟨v',u,h1,h2,rfl⟩:=FB
       exact(yk ho hs hd he hv h1 h2 hr).wp j
      .cases hq
     .split at hq<;>cases hq
     .cases hq
   .rename_i hq
    unfold VI at hq
    split at hq
    .cases hq
    .cases hq
    .cases hq
    .split at hq<;>cases hq
    .rename_i e hs hd
     split at hq
     .rename_i he _ _
      split at hc
      .cases hv:Ez C U x with
       |none=>rw[hv] at hc;cases hc
       |some v=>
        rw[hv] at hc;cases hc
        obtain⟨u,h1,rfl⟩:=FB
        exact(aP ho hs hd he hv h1 hr).wp j
      .obtain⟨args,ha,rfl⟩:=DC hc
       obtain⟨u,h1,rfl,rfl⟩:=FB
       obtain⟨v,rfl,_⟩:=Gn hr ha
       exact(yj ho hs hd he ha h1 hr).wp j
     .cases hq
    .cases hq
   .rename_i p RP eV hq
    have yt:=Hk hc
    unfold VI at hq
    split at hq
    .cases hq;cases yt
    .cases hq;cases yt
    .cases hq
    .split at hq
     .cases hq;exact absurd rfl RP
     .cases hq
    .split at hq
     .cases hq;exact absurd rfl eV
     .cases hq
    .cases hq
   .cases hc
  .rename_i fn first captured ho
   split at hc
   .rename_i d as bs fz hd ha hb
    cases hc
    obtain⟨rfl,rfl⟩:=FB
    exact(fY ho hd ha hb hr).wp j
   .cases hc
  .rename_i t ho
   cases hc
   obtain⟨rfl,rfl⟩:=FB
   exact(ka ho hr).wp j
  .rename_i t l c ho
   split at hc
   .rename_i e ht
    split at hc
    .rename_i n b z V vc hn hb hz hl Vj
     cases hc
     obtain⟨v,h1,rfl⟩:=FB
     exact(jx ho ht hn hb hz hl Vj h1 hr).wp j
    .cases hc
   .cases hc
  .rename_i t m k x ho
   split at hc
   .rename_i kt e ht
    split at hc
    .rename_i D E I hd hk ha
     cases hc
     obtain⟨h1,rfl⟩:=FB
     exact(gC (.inl ho) hd ht hk ha h1 hr).wp j
    .rename_i D E I hd hk ha
     cases hc
     obtain⟨v,h1,rfl⟩:=FB
     exact(gI (.inl ho) hd ht hk ha h1 hr).wp j
    .cases hc
   .cases hc
  .rename_i t m k x ho
   split at hc
   .rename_i kt e ht
    split at hc
    .rename_i D E I hd hk ha
     cases hc
     obtain⟨h1,rfl⟩:=FB
     exact(gC (.inr ho) hd ht hk ha h1 hr).wp j
    .rename_i D E I hd hk ha
     cases hc
     obtain⟨v,h1,rfl⟩:=FB
     exact(gI (.inr ho) hd ht hk ha h1 hr).wp j
    .cases hc
   .cases hc
  .rename_i t m k ok ho
   split at hc
   .rename_i kt e ht
    split at hc
    .rename_i z D E hk hz ha
     cases hc
     obtain⟨v,h1,rfl,rfl⟩:=FB
     exact(kb ho ht hk hz ha h1 hr).wp j
    .rename_i z D E hk hz ha
     cases hc
     obtain⟨v,h1,rfl⟩:=FB
     exact(kz ho ht hk hz ha h1 hr).wp j
    .cases hc
   .cases hc
  .rename_i t x lo hi mx ho
   split at hc
   .rename_i e ht
    split at hc
    .rename_i n hn
     obtain⟨args,ha,rfl⟩:=Hd hc
     obtain⟨v,h1,rfl⟩:=FB
     simp only[DS] at h1
     split at h1
     .rename_i J
      cases h1
      exact(kx ho ht hn ha J hr).wp j
     .cases h1
    .cases hc
   .cases hc
  .rename_i t x ho
   split at hc
   .cases hc
   .rename_i u hu ht
    obtain⟨args,ha,rfl⟩:=Hd hc
    obtain⟨v,h1,rfl⟩:=FB
    obtain⟨y,rfl,_⟩:=Gn hr ha
    cases h1
    exact(ky ho ht (λi e=>hu i e) ha hr).wp j
   .cases hc
  .rename_i t m k ho
   split at hc
   .rename_i kt e ht
    split at hc
    .rename_i z hk hz
     obtain⟨args,ha,rfl⟩:=Hd hc
     obtain⟨v,h1,rfl⟩:=FB
     obtain⟨A,B,rfl,_,_⟩:=EO hr ha
     exact(mW ho ht hk hz ha h1 hr).wp j
    .rename_i z hk hz
     obtain⟨args,ha,rfl⟩:=Hd hc
     obtain⟨v,h1,rfl⟩:=FB
     obtain⟨A,B,rfl,_,_⟩:=EO hr ha
     exact(mX ho ht hk hz ha h1 hr).wp j
    .cases hc
   .cases hc
  .rename_i t m s x ho
   split at hc
   .rename_i hd
    obtain⟨args,ha,rfl⟩:=Hd hc
    obtain⟨v,h1,rfl⟩:=FB
    obtain⟨A,B,H,rfl⟩:∃A B H,args=[A,B,H]:=by
     have:=DB hr ha
     cases args with
     |nil=>cases h1
     |cons A l1=>cases l1 with
      |nil=>cases h1
      |cons B S=>cases S with
       |nil=>cases h1
       |cons H l3=>cases l3 with
        |nil=>exact⟨_,_,_,rfl⟩
        |cons _ _=>cases h1
    exact(mY ho hd ha h1 hr).wp j
   .cases hc
  .rename_i t x lo hi ho
   split at hc
   .cases Hk hc
   .rename_i e ht
    split at hc
    .rename_i n hn
     split at hc
     .obtain⟨args,ha,rfl⟩:=Hd hc
      obtain⟨v,h1,rfl⟩:=FB
      cases args with
      |nil=>cases h1
      |cons y l=>exact(kq ho ht hn ha h1 hr).wp j
     .cases Hk hc
    .cases hc
   .cases hc
  .rename_i t x f ho
   split at hc
   .rename_i off sh d hf hd
    split at hc
    .rename_i s ver cs ow hs
     cases hc
     obtain⟨rfl,rfl⟩:=PV FB
     have he:=Wd hr hs
     exact IL (w':=w) (v:= .pointer (some ⟨O s,off,none⟩)) (by simp only[execOp,ho,he];exact Et (by rw[M7 hf];simp)) (j _ _ _ _ (by rw[hd];exact hr.put (d:=some d) λ_ _=>rfl))
    .rename_i s k hs
     cases hc
     obtain⟨rfl,rfl⟩:=PV FB
     have he:=Ud hr hs
     exact IL (w':=w) (v:= .pointer (some ⟨O s,k+off,none⟩)) (by simp only[execOp,ho,he];exact Et (M7 hf _ _)) (j _ _ _ _ (by rw[hd];exact hr.put (d:=some d) λ_ _=>rfl))
    .cases Hk hc
   .cases hc
  .split at hc
   .cases Hk hc
   .cases hc
  .split at hc
   .split at hc
    .cases Hk hc
    .cases hc
   .split at hc
    .split at hc
     .cases hc
     .cases Hk hc
    .cases hc
   .cases hc
  .split at hc
   .cases Hk hc
   .split at hc
    .cases Hk hc
    .cases hc
   .cases hc
  .cases Hk hc
  .rename_i c ho
   unfold QN at hc
   split at hc
   .split at hc
    .split at hc
     .cases Hk hc
     .cases Hk hc
     .cases hc
    .cases hc
   .rename_i hcl
    split at hc
    .rename_i t t' s x h0 h1 Ek
     split at hc
     all_goals first
      |(cases hc;done)
      | (rename_i e _ ht Ir
         split at hc
         . rename_i n b hn hb
           split at hc
           . rename_i eW
             split at hc
             . rename_i v u ha
               split at hc
               . rename_i Fj
                 split at hc
                 . cases hc
                   obtain ⟨r', q, rfl⟩ := FB
                   exact (zW ho hcl h0 h1 Ek ht (by first | exact .inl ⟨_, Ir⟩ | exact .inr Ir) hn hb Fj eW ha q hr).wp j
                 . split at hc
                   . cases hc
                     obtain ⟨r', q, rfl, rfl⟩ := FB
                     exact (gA ho hcl h0 h1 Ek ht (by first | exact .inl ⟨_, Ir⟩ | exact .inr Ir) hn hb Fj eW ha q hr).wp j
                   . cases hc
                     obtain ⟨r', q, rfl, rfl⟩ := FB
                     exact (mT ho hcl h0 h1 Ek ht (by first | exact .inl ⟨_, Ir⟩ | exact .inr Ir) hn hb Fj eW ha q hr).wp j
               . split at hc
                 . cases hc
                   obtain ⟨r', q, rfl⟩ := FB
                   exact (kh ho hcl h0 h1 Ek ht (by first | exact .inl ⟨_, Ir⟩ | exact .inr Ir) hn hb eW ha q hr).wp j
                 . cases hc
             . cases hc
           . cases hc
         . cases hc)
    .cases hc
   .rename_i hcl
    split at hc
    .rename_i t t' s x h0 h1 Ek
     split at hc
     all_goals first
      |(cases hc;done)
      | (rename_i e _ ht Ir
         split at hc
         . rename_i n hn
           obtain ⟨args, ha, rfl⟩ := Hd hc
           obtain ⟨v, q, rfl⟩ := FB
           obtain ⟨A, B, rfl, _, _⟩ := EO hr ha
           exact (kj ho hcl h0 h1 Ek ht (by first | exact .inl ⟨_, Ir⟩ | exact .inr Ir) hn ha q hr).wp j
         . cases hc)
    .cases hc
   .rename_i hcl
    split at hc
    .rename_i t s h0 Ek
     split at hc
     .rename_i e ht
      split at hc
      .rename_i n z hn hz
       obtain⟨args,ha,rfl⟩:=Hd hc
       obtain⟨v,q,rfl⟩:=FB
       obtain⟨A,rfl,_⟩:=Gn hr ha
       exact(zZ ho hcl h0 Ek ht hn hz ha q hr).wp j
      .cases hc
     .cases hc
    .cases hc
   .split at hc
    .cases Hk hc
    .cases hc
   .split at hc
    .cases Hk hc
    .cases hc
   .rename_i f hcl
    split at hc
    .rename_i hf
     split at hc
     .rename_i s i x Ek
      split at hc
      .rename_i Fj
       obtain⟨args,ha,rfl⟩:=Hd hc
       obtain⟨v,q,rfl⟩:=FB
       exact yl G ho hcl hf Ek Fj ha q hr λγ' v w' Hh=>j _ _ _ _ Hh
      .cases hc
     .cases hc
    split at hc
    rotate_left
    .cases hc
    rename_i T9
    rw[<-T9] at hcl
    cases ha:Bm C U c.args.toList with
    |none=>rw[ha] at hc;cases hc
    |some args=>
     rw[ha] at hc
     simp only[By,Bx] at hc
     split at hc
     .cases hc
      obtain⟨Io,M,h1,h2,q,rfl,rfl⟩:=FB
      exact zS G ho hcl ha Io h2 q hr λγ' v w' Hh=>j _ _ _ _ Hh
     .cases hc
      obtain⟨M,h1,rfl⟩:=FB
      exact jz G ho hcl ha h1 hr λγ' v w' Hh=>j _ _ _ _ Hh
   .rename_i g hn hcl
    split at hc
    .rename_i W args hg ha
     cases hc
     obtain⟨f,args',M,h0,h1,rfl⟩:=FB
     exact zT G ho hcl hg ha h0 h1 hr λγ' v w' Hh=>j _ _ _ _ Hh
    .cases hc
   .cases hc
  .cases hc
end
end Go.Am
end
section
namespace Go.Am
open Go
section
variable{C:Fv}{U Z:BG}{fid:FuncId}{ops:List Oper}
def aR{x:Operand}(h:∀t,x= .tmp t->Z.at t=U.at t):DL C Z x=DL C U x:=by
 cases x with
 |tmp t=>simp only[DL,h t rfl]
 |const v=>
  cases v with
  |slice a b c=>cases a<;>cases b<;>cases c<;>rfl
  |_=>rfl
 |global g=>rfl
 |func f=>rfl
def Vk(C:Fv)(U Z:BG)(xs:List Operand):Prop:=∀x∈xs,DL C Z x=DL C U x
def Vk.rW{xs:List Operand}(h:∀t∈Jw xs,Z.at t=U.at t):Vk C U Z xs:=λx hx=>aR λt ht=>h t (by subst ht;exact Cb.2 ⟨_,hx,rfl⟩)
def Vk.val{xs:List Operand}(h:Vk C U Z xs){x:Operand}(hx:x∈xs):Ez C Z x=Ez C U x:=by unfold Ez;rw[h x hx]
def Vk.Ka{xs:List Operand}(h:Vk C U Z xs):∀{ys:List Operand},(∀y∈ys,y∈xs)->Bm C Z ys=Bm C U ys
 |[],_=>rfl
 |y::ys,hy=>by unfold Bm;rw[h.val (hy y Ax),h.Ka λz hz=>hy z (by simp[hz])]
def Vk.move{xs:List Operand}(h:Vk C U Z xs){x:Operand}(hx:x∈xs)(d:Nat)(take:Bool):J6 C Z x d take=J6 C U x d take:=by unfold J6;rw[h x hx]
def Vk.BK{xs:List Operand}(h:Vk C U Z xs){x:Operand}(hx:x∈xs):KB C Z x=KB C U x:=by unfold KB;rw[h x hx]
def Vk.Dm{xs:List Operand}(h:Vk C U Z xs){x:Operand}(hx:x∈xs):C4 Z x=C4 U x:=by
 cases x with
 |tmp t=>have:=h _ hx;simp only[DL,Bx] at this;simp only[C4,this]
 |_=>rfl
def Vk.FJ{xs:List Operand}(h:Vk C U Z xs):∀{ys:List Operand},(∀y∈ys,y∈xs)->Am.FJ C Z ys=Am.FJ C U ys
 |[],_=>rfl
 |y::ys,hy=>by unfold Am.FJ;rw[h y (hy y Ax),h.FJ λz hz=>hy z (by simp[hz])]
def Vk.addr{xs:List Operand}(h:Vk C U Z xs){x:Operand}(hx:x∈xs)(hb:∀s∈(Nu C U x).toList,Z.at s=U.at s)(hn:FI C U x≠none):FI C Z x=FI C U x:=by
 have Qs:=h x hx;cases hs:DL C U x with
 |none=>unfold FI at hn;rw[hs] at hn;exact absurd (by split<;>simp_all) hn
 |some sl=>
  rw[hs] at Qs;cases sl with
  |EU s o=>
   have h1:∀J:BG,DL C J x=some (.EU s o)->FI C J x=match J.at s with| .box ver cs ow=>some (.OP s o ver cs ow)|_=>none:=λJ b=>by unfold FI;rw[b];cases x<;>rfl
   rw[h1 U hs] at hn⊢;rw[h1 Z Qs];have h2:s∈(Nu C U x).toList:=by
    unfold Nu;rw[h1 U hs];cases S4:U.at s with
    |box ver cs ow=>simp
    |_=>rw[S4] at hn;exact absurd rfl hn
   rw[hb s h2]
  |_=>unfold FI;rw[hs,Qs];cases x<;>rfl
def Vk.load{xs:List Operand}(h:Vk C U Z xs){x:Operand}(hx:x∈xs)(hb:∀s∈(Nu C U x).toList,Z.at s=U.at s){t:TypeId}{d:Nat}{take:Bool}{r:Eg}(hc:K6 C U t x d take=some r):K6 C Z t x d take=some r:=by
 have hn:FI C U x≠none:=λhe=>by unfold K6 at hc;rw[he] at hc;split at hc<;>simp_all
 unfold K6 at hc⊢;rw[h.addr hx hb hn];exact hc
def Vk.store{xs:List Operand}(h:Vk C U Z xs){x y:Operand}(hx:x∈xs)(hy:y∈xs)(hb:∀s∈(Nu C U x).toList,Z.at s=U.at s){t:TypeId}{r:Eg}(hc:IZ C U t x y=some r):IZ C Z t x y=some r:=by
 have hn:FI C U x≠none:=λhe=>by unfold IZ at hc;rw[he] at hc;split at hc<;>simp_all
 unfold IZ at hc⊢;rw[h.addr hx hb hn,h.val hy,h.BK hy,h.Dm hy];exact hc
def Vk.call{c:Call}(h:Vk C U Z c.operands.toList)(dst:Option Nat):QN C fid Z c dst=QN C fid U c dst:=by
 have ha:∀y∈c.args.toList,y∈c.operands.toList:=λy hy=>by unfold Call.operands;rw[GA];exact BH _ hy
 have hv:Bm C Z c.args.toList=Bm C U c.args.toList:=h.Ka ha;unfold QN;split;.rw[hv]
 .split
  .rename_i Ek;have h1:∀{s x:Operand},c.args.toList=[s,x]->KB C Z s=KB C U s/\C4 Z s=C4 U s/\Bm C Z [s,x]=Bm C U [s,x]:=λ{s x} he=>by rw[he] at ha;exact⟨h.BK (ha s Ax),h.Dm (ha s Ax),h.Ka λy hy=>ha y hy⟩
   obtain⟨e,d,b⟩:=h1 Ek;rw[e,d,b]
  .rfl
 .split;.rename_i Ek;rw[Ek] at ha;rw[h.Ka λy hy=>ha y hy]
  .rfl
 .split;.rename_i Ek;rw[Ek] at ha;rw[h.Ka λy hy=>ha y hy]
  .rfl
 .rw[hv]
 .rw[hv]
 .split
  .split;.rename_i s i v Ek;rw[Ek] at ha;rw[h.BK (ha v Ax),h.Ka λy hy=>ha y hy]
   .rfl
  .rw[hv]
 .rename_i g _ hcl;have hg:g∈c.operands.toList:=by unfold Call.operands;rw[hcl];simp
  rw[hv,h.val hg]
 .rfl
def We{o:Oper}{r:Eg}(hc:FL C fid ops U o=some r)(ht:∀t∈Jw o.op.operands.toList,Z.at t=U.at t)(hb:∀s∈HF C U o,Z.at s=U.at s):FL C fid ops Z o=some r:=by
 have h:Vk C U Z o.op.operands.toList:= .rW ht
 unfold FL at hc⊢
 cases ho:o.op with
 |move x=>
  rw[ho] at h
  simp only[ho] at hc⊢
  have:=λd=>h.move (x:=x) It d
  simpa only[this] using hc
 |assign x=>
  rw[ho] at h
  simp only[ho] at hc⊢
  have:=λd=>h.move (x:=x) It d
  simpa only[this] using hc
 |pick c a b=>
  rw[ho] at h
  simp only[ho] at hc⊢
  have h1:=λd=>h.move (x:=a) It d
  have h2:=λd=>h.move (x:=b) It d
  rw[h c It,h.Ka (ys:=[c,a,b]) It]
  simpa only[h1,h2] using hc
 |alloc t=>rw[ho] at hc;exact hc
 |box t x=>
  rw[ho] at h
  simp only[ho] at hc⊢
  rw[h.val (x:=x) It]
  exact hc
 |build t parts=>
  rw[ho] at h
  simp only[ho] at hc⊢
  rw[h.Ka (ys:=parts.toList.map (·.2)) It]
  exact hc
 |buildSlice t len parts=>
  rw[ho] at h
  simp only[ho] at hc⊢
  rw[h.Ka (ys:=parts.toList.map (·.2)) It]
  exact hc
 |load t x=>
  rw[ho] at h
  simp only[ho] at hc⊢
  split at hc
  .exact h.load It (λs hs=>hb s (by simpa only[HF,ho] using hs)) hc
  .cases hc
 |store t x y=>
  rw[ho] at h
  simp only[ho] at hc⊢
  split at hc
  .exact h.store It It (λs hs=>hb s (by simpa only[HF,ho] using hs)) hc
  .cases hc
 |nilCheck x=>
  rw[ho] at h
  simp only[ho] at hc⊢
  have e:=h.Ka (ys:=[x]) It
  rw[h x It]
  cases hs:DL C U x with
  |none=>rw[hs] at hc;cases x<;>cases hd:o.dst<;>rw[hd] at hc<;>first|exact hc|(show Tb _ _ (Bm C Z [_])=some r;rw[e];exact hc)
  |some sl=>rw[hs] at hc;cases sl<;>cases x<;>cases hd:o.dst<;>rw[hd] at hc<;>first|exact hc|(show Tb _ _ (Bm C Z [_])=some r;rw[e];exact hc)
 |binOp op t x y k=>
  rw[ho] at h
  simp only[ho] at hc⊢
  rw[h.Ka (ys:=[x,y]) It]
  exact hc
 |unOp op t x=>
  rw[ho] at h
  simp only[ho] at hc⊢
  rw[h.Ka (ys:=[x]) It]
  exact hc
 |convert src dst x=>
  rw[ho] at h
  simp only[ho] at hc⊢
  rw[h.Ka (ys:=[x]) It,h.val (x:=x) It]
  exact hc
 |makeFunc fn first captured=>
  rw[ho] at h
  simp only[ho] at hc⊢
  rw[h.Ka (ys:=first.toList) (λ_ hm=>by simp[Op.operands,hm]),h.FJ (ys:=captured.toList) (λ_ hm=>by simp[Op.operands,hm])]
  exact hc
 |makeMap t r'=>
  rw[ho] at hc
  cases r' with
  |none=>exact hc
  |some _=>cases hc
 |makeSlice t l c=>
  rw[ho] at h
  simp only[ho] at hc⊢
  rw[h.val (x:=l) It,h.val (x:=c) It]
  exact hc
 |insert t m k v=>
  rw[ho] at h
  simp only[ho] at hc⊢
  rw[h.Ka (ys:=[m,k,v]) It]
  exact hc
 |mapUpdate t m k v=>
  rw[ho] at h
  simp only[ho] at hc⊢
  rw[h.Ka (ys:=[m,k,v]) It]
  exact hc
 |lookup t m k ok=>
  rw[ho] at h
  simp only[ho] at hc⊢
  rw[h.Ka (ys:=[m,k]) It]
  exact hc
 |slice t x lo hi mx=>
  rw[ho] at h hc
  cases mx with
  |none=>
   have e:=h.Ka (ys:=x::(lo.toList++hi.toList)) (by cases lo<;>cases hi<;>simp[Op.operands])
   simp only at hc⊢
   rw[e]
   exact hc
  |some mx=>cases lo with
   |none=>cases hc
   |some lo=>cases hi with
    |none=>cases hc
    |some hi=>
     have e:=h.Ka (ys:=[x,lo,hi,mx]) It
     simp only at hc⊢
     rw[e]
     exact hc
 |makeInterface t x=>
  rw[ho] at h
  simp only[ho] at hc⊢
  rw[h.Ka (ys:=[x]) It]
  exact hc
 |mapEntry t m k=>
  rw[ho] at h
  simp only[ho] at hc⊢
  rw[h.Ka (ys:=[m,k]) It]
  exact hc
 |entryStore t m s v=>
  rw[ho] at h
  simp only[ho] at hc⊢
  rw[h.Ka (ys:=[m,s,v]) It]
  exact hc
 |fieldAddr t x f=>
  rw[ho] at h
  simp only[ho] at hc⊢
  have e:=h.Ka (ys:=[x]) It
  rw[h x It]
  cases hf:H8 C.P t f with
  |none=>rw[hf] at hc;cases hc
  |some q=>
   rw[hf] at hc
   cases hd:o.dst with
   |none=>rw[hd] at hc;cases hc
   |some d=>
    rw[hd] at hc
    cases hs:DL C U x with
    |none=>rw[hs] at hc;cases x<;>first|exact hc|(show Tb _ _ (Bm C Z [_])=some r;rw[e];exact hc)
    |some sl=>rw[hs] at hc;cases sl<;>cases x<;>first|exact hc|(show Tb _ _ (Bm C Z [_])=some r;rw[e];exact hc)
 |field t x f=>
  rw[ho] at h
  simp only[ho] at hc⊢
  rw[h.Ka (ys:=[x]) It]
  exact hc
 |indexAddr t x i=>
  rw[ho] at h
  simp only[ho] at hc⊢
  rw[h.Ka (ys:=[x,i]) It]
  exact hc
 |index t x i=>
  rw[ho] at h
  simp only[ho] at hc⊢
  rw[h.Ka (ys:=[x,i]) It]
  exact hc
 |extract x i=>
  rw[ho] at h
  simp only[ho] at hc⊢
  rw[h.Ka (ys:=[x]) It]
  exact hc
 |call c=>
  rw[ho] at h
  simp only[ho] at hc⊢
  rw[h.call]
  exact hc
 |_=>simp only[ho] at hc;cases hc
end
end Go.Am
end
section
namespace Go.Am
open Go
mutual
def Aa.beq_eq:∀{a b:Aa},Aa.beq a b=true->a=b
 | .bool a,b,h=>by cases b<;>simp[Aa.beq] at h⊢;exact h
 | .int k a,b,h=>by cases b<;>simp[Aa.beq] at h⊢;exact h
 | .str a,b,h=>by cases b<;>simp[Aa.beq] at h⊢;exact h
 | .ptr a,b,h=>by cases b<;>simp[Aa.beq] at h⊢;exact h
 | .H5 a,b,h=>by cases b<;>simp[Aa.beq] at h⊢;exact h
 | .BR a,b,h=>by cases b<;>simp[Aa.beq] at h⊢;exact Aa.NI h
 | .sl n a,b,h=>by cases b<;>simp[Aa.beq] at h⊢;exact⟨h.1,Aa.gJ h.2⟩
 | .slnil,b,h=>by cases b<;>simp[Aa.beq] at h⊢
 | .C3 a c d e,b,h=>by cases b<;>simp[Aa.beq] at h⊢;exact⟨h.1.1.1,h.1.1.2,h.1.2,h.2⟩
 | .map a,b,h=>by cases b<;>simp[Aa.beq] at h⊢;exact h
 | .func f a c,b,h=>by cases b<;>simp[Aa.beq] at h⊢;exact⟨h.1.1,Aa.NI h.1.2,Aa.NI h.2⟩
 | .nilFunc,b,h=>by cases b<;>simp[Aa.beq] at h⊢
 | .iface t a,b,h=>by cases b<;>simp[Aa.beq] at h⊢;exact⟨h.1,Aa.beq_eq h.2⟩
 | .nilIface,b,h=>by cases b<;>simp[Aa.beq] at h⊢
 | .agg a,b,h=>by cases b<;>simp[Aa.beq] at h⊢;exact Aa.NI h
 | .tuple a,b,h=>by cases b<;>simp[Aa.beq] at h⊢;exact Aa.NI h
def Aa.NI:∀{a b:List Aa},Aa.Rx a b=true->a=b
 |[],b,h=>by cases b<;>simp[Aa.Rx] at h⊢
 |a::x,b,h=>by
  cases b with
  |nil=>simp[Aa.Rx] at h
  |cons c y=>simp[Aa.Rx] at h⊢;exact⟨Aa.beq_eq h.1,Aa.NI h.2⟩
def Aa.gJ:∀{a b:List (List Aa)},Aa.Ry a b=true->a=b
 |[],b,h=>by cases b<;>simp[Aa.Ry] at h⊢
 |a::x,b,h=>by
  cases b with
  |nil=>simp[Aa.Ry] at h
  |cons c y=>simp[Aa.Ry] at h⊢;exact⟨Aa.NI h.1,Aa.gJ h.2⟩
end
def BG.Jj(U:BG):∀(a b:List (Nat×D0)),U.DW (a++b)=(U.DW a).DW b
 |[],_=>rfl
 |(s,x)::a,b=>BG.Jj (U.set s x) a b
def BG.Jk:∀(ws:List (Nat×D0)) (U:BG),(U.DW ws).length=U.length
 |[],_=>rfl
 |(s,x)::ws,U=>by rw[BG.DW,BG.Jk ws];simp
def BG.Wf(U:BG)(s t:Nat)(x:D0):BG.at (U.set s x) t=if s=t/\t<U.length then x else U.at t:=by
 by_cases h:s=t
 .subst h;by_cases hl:s<U.length;.simp[BG.at,List.getD,hl]
  .simp[BG.at,List.getD,hl]
 .simp[BG.at,List.getD,Ao h,h]
def BG.Gp:∀(ws:List (Nat×D0)) (U:BG) (t:Nat),(∀p∈ws,p.1≠t)->(U.DW ws).at t=U.at t
 |[],_,_,_=>rfl
 |(s,x)::ws,U,t,h=>by rw[BG.DW,BG.Gp ws _ t λp hp=>h p (by simp[hp]),BG.Wf,Ad];exact λe=>h (s,x) Ax e.1
def BG.Wg:∀(ws:List (Nat×D0)) (U:BG) (t:Nat),(U.DW ws).at t=U.at t\/∃p∈ws,p.1=t/\(U.DW ws).at t=p.2
 |[],_,_=> .inl rfl
 |(s,x)::ws,U,t=>by
  rcases BG.Wg ws (U.set s x) t with h|⟨p,hp,h1,h2⟩
  .rw[BG.Wf] at h;by_cases hc:s=t/\t<U.length;.rw[Af hc] at h;exact .inr ⟨(s,x),Ax,hc.1,h⟩
   .rw[Ad hc] at h;exact .inl h
  .exact .inr ⟨p,by simp[hp],h1,h2⟩
def BG.IN:∀(ws:List (Nat×D0)) (U Z:BG) (t:Nat),Z.length=U.length->Z.at t=U.at t->(Z.DW ws).at t=(U.DW ws).at t
 |[],_,_,_,_,h=>h
 |(s,x)::ws,U,Z,t,hl,h=>by refine BG.IN ws _ _ t (by simpa using hl) ?_;rw[BG.Wf,BG.Wf,hl,h]
def BG.ext{U Z:BG}(hl:Z.length=U.length)(h:∀t,Z.at t=U.at t):Z=U:=by apply List.ext_getElem hl;intro i h1 h2;have:=h i;simpa[BG.at,List.getD,h1,h2] using this
def BG.ae{U:BG}{a b:List (Nat×D0)}(h:∀p∈a,∀q∈b,p.1≠q.1):(U.DW a).DW b=(U.DW b).DW a:=by
 refine BG.ext (by simp[BG.Jk]) λt=>?_;by_cases ha:∀p∈a,p.1≠t;.rw[BG.Gp a (U.DW b) t ha];exact BG.IN b _ _ t (by simp[BG.Jk]) (BG.Gp a U t ha)
 .have⟨p,hp,c⟩:∃p∈a,p.1=t:=Classical.byContradiction λhn=>ha λp hp e=>hn ⟨p,hp,e⟩;have hb:∀q∈b,q.1≠t:=λq hq e=>h p hp q hq (by rw[c,e]);rw[BG.Gp b (U.DW a) t hb];exact(BG.IN a _ _ t (by simp[BG.Jk]) (BG.Gp b U t hb)).symm
def NJ{U:BG}{ds:List Nat}:MK U ds=true↔∀x t o,U.at x= .EU t o->t∉ds:=by
 unfold MK;rw[Cg];constructor
 .intro h x t o hx;by_cases hl:x<U.length;.have:=h (U.at x) (by simp[BG.at,List.getD,hl]);rw[hx] at this;simpa using this
  .simp[BG.at,List.getD,hl] at hx
 .intro h s hs;obtain⟨i,hi⟩:=CD hs;cases s with
  |EU t o=>have:=h i t o (by simp[BG.at,List.getD,hi]);simpa using this
  |_=>rfl
def af{a b:List Nat}:T3 a b=true↔∃x,x∈a/\x∈b:=by simp[T3]
structure St where
 idx:Nat
 fp:FP
 fl:Option J2
def Kw(i:Nat)(r:Eg)(U:BG):Option J2:=
 match r with
 | .load n p (some d)=>match U.at d with
  | .val v=>some {idx:=i,n,p,v}
  |_=>none
 |_=>none
def Wh(i:Nat)(r:Eg)(U:BG)(fl:List J2):Ml i r U fl=(Kw i r U).toList++fl:=by
 cases r with
 |load n p dst=>
  cases dst with
  |none=>rfl
  |some d=>simp only[Ml,Kw];cases U.at d<;>rfl
 |_=>rfl
def Yi{i:Nat}{r:Eg}{U Z:BG}(h:∀d∈r.wf,Z.at d=U.at d):Kw i r Z=Kw i r U:=by
 cases r with
 |load n p dst=>
  cases dst with
  |none=>rfl
  |some d=>simp only[Kw];rw[h d (by simp[Eg.wf])]
 |_=>rfl
def Mo(d:Option Nat)(U U':BG):Prop:=
 match d with
 |none=>U'=U
 |some d=>match U.at d with
  | .val v=>∃b,v= .bool b/\U'=U.set d (.OD b)
  |_=>U'=U
section
variable{C:Fv}{fid:FuncId}{ops:List Oper}{run:IT->Ai->Option Jp}{U Z U':BG}{h h':Ai}
def O1(C:Fv)(fid:FuncId)(ops:List Oper)(run:IT->Ai->Option Jp)(s:St)(U:BG)(h:Ai)(U':BG)(h':Ai):Prop:=
 ∃o,ops[s.idx]?=some o/\
  ((Iq ops U o = .MZ false /\ s.fp = UK C ops U o none /\ s.fl = none /\ U' = U.put o.dst .skip /\ h' = h) \/
   ∃ r U1, Iq ops U o = .MZ true /\ FL C fid ops U o = some r /\ s.fp = UK C ops U o (some r) /\ r.M2 C run (U.drop r.news) h U1 h' /\ s.fl = Kw s.idx r U1 /\
     Mo (if RH ops s.idx then o.dst else none) U1 U')
def Wi(U:BG)(d:Option Nat)(x:D0):U.put d x=U.DW (d.toList.map λs=>(s,x)):=by cases d<;>rfl
def ag(U:BG)(d:Option (Nat×Aa)):U.Dm d=U.DW (d.toList.map λp=>(p.1,.val p.2)):=by cases d<;>rfl
def Y9{r:Eg}(hd:r.M2 C run U h U' h'):∃ws,U'=U.DW ws/\(∀p∈ws,p.1∈r.wf)/\(∀p∈ws,∀t o,p.2= .EU t o->t∈r.rC)/\∀Z,r.M2 C run Z h (Z.DW ws) h':=by
 have one:∀(d:Option Nat) (x:D0),(∀t o,x≠ .EU t o)->U'=U.put d x->d.toList⊆r.wf->(∀Z,r.M2 C run Z h (Z.put d x) h')->
   ∃ws,U'=U.DW ws/\(∀p∈ws,p.1∈r.wf)/\(∀p∈ws,∀t o,p.2= .EU t o->t∈r.rC)/\∀Z,r.M2 C run Z h (Z.DW ws) h':=by
  intro d x hx he hw ht;refine⟨d.toList.map λs=>(s,x),by rw[<-Wi];exact he,λp hp=>?_,λp hp t o hl=>?_,λZ=>by rw[<-Wi];exact ht Z⟩;.obtain⟨s,hs,rfl⟩:=A4.1 hp;exact hw hs
  .obtain⟨s,hs,rfl⟩:=A4.1 hp;exact absurd hl (hx t o)
 have LN:∀(i:Option (Nat×Aa)) (d:Option Nat) (x:D0),(∀t o,x≠ .EU t o)->U'=(U.Dm i).put d x->d.toList⊆r.wf->(i.map (·.1)).toList⊆r.wf->(∀Z,r.M2 C run Z h ((Z.Dm i).put d x) h')->
   ∃ws,U'=U.DW ws/\(∀p∈ws,p.1∈r.wf)/\(∀p∈ws,∀t o,p.2= .EU t o->t∈r.rC)/\∀Z,r.M2 C run Z h (Z.DW ws) h':=by
  intro i d x hx he hw lf ht;have e:∀Z:BG,(Z.Dm i).put d x=Z.DW ((i.toList.map λp=>(p.1,.val p.2))++d.toList.map λs=>(s,x)):=λZ=>by rw[BG.Jj,<-ag,<-Wi]
  refine⟨_,by rw[he,e],λp hp=>?_,λp hp t o hl=>?_,λZ=>by rw[<-e];exact ht Z⟩
  .rcases Ap.1 hp with hp|hp
   .obtain⟨q,hq,rfl⟩:=A4.1 hp;exact lf (by cases i<;>simp_all)
   .obtain⟨s,hs,rfl⟩:=A4.1 hp;exact hw hs
  .rcases Ap.1 hp with hp|hp
   .obtain⟨q,hq,rfl⟩:=A4.1 hp;cases hl
   .obtain⟨s,hs,rfl⟩:=A4.1 hp;exact absurd hl (hx t o)
 cases r with
 |pure ws=>obtain⟨rfl,rfl⟩:=hd;refine⟨ws,rfl,λp hp=>A4.2 ⟨p,hp,rfl⟩,λp hp t o hl=>?_,λZ=>⟨rfl,rfl⟩⟩;exact Cb.2 ⟨p.2,A4.2 ⟨p,hp,rfl⟩,by rw[hl]⟩
 |op p args dst BK i=>obtain⟨v,hv,rfl,rfl⟩:=hd;exact LN i dst _ (by cases BK<;>simp) rfl (by simp[Eg.wf]) (by simp[Eg.wf]) λZ=>⟨v,hv,rfl,rfl⟩
 |box n v d=>obtain⟨hn,rfl,rfl⟩:=hd;exact one (some d) _ Ax rfl (by simp[Eg.wf]) λZ=>⟨hn,rfl,rfl⟩
 |closure fn x b fz d=>
  obtain⟨rfl,rfl⟩:=hd;refine⟨(fz.map λ(s,cs)=>(s,.val (.BR cs)))++[(d,.val (.func fn x b))],by rw[BG.Jj];rfl,λp hp=>?_,λp hp t o hl=>?_,λZ=>⟨by rw[BG.Jj];rfl,rfl⟩⟩
  .rcases Ap.1 hp with hp|hp
   .obtain⟨q,hq,rfl⟩:=A4.1 hp;exact X2 _ (A4.2 ⟨q,hq,rfl⟩)
   .simp at hp;subst hp;simp[Eg.wf]
  .rcases Ap.1 hp with hp|hp
   .obtain⟨q,hq,rfl⟩:=A4.1 hp;cases hl
   .simp at hp;subst hp;cases hl
 |MJ s off n v BK i ver cells owned=>obtain⟨hn,rfl,rfl⟩:=hd;exact LN i (some s) _ Ax rfl (by simp[Eg.wf]) (by simp[Eg.wf]) λZ=>⟨hn,rfl,rfl⟩
 |load n p dst=>obtain⟨v,hv,rfl,rfl⟩:=hd;exact one dst _ Ax rfl (by simp[Eg.wf]) λZ=>⟨v,hv,rfl,rfl⟩
 |store n p v=>obtain⟨hv,rfl⟩:=hd;exact one none .undef Ax rfl Ax λZ=>⟨hv,rfl⟩
 |alloc n v dst=>obtain⟨hn,rfl,rfl⟩:=hd;exact one dst _ Ax rfl (by simp[Eg.wf]) λZ=>⟨hn,rfl,rfl⟩
 |call f args dst=>obtain⟨v,hv,rfl⟩:=hd;exact one dst _ (by intro t o;split<;>simp) rfl (by simp[Eg.wf]) λZ=>⟨v,hv,rfl⟩
 |D3 g args dst=>obtain⟨f,x,v,h1,h2,rfl⟩:=hd;exact one dst _ Ax rfl (by simp[Eg.wf]) λZ=>⟨f,x,v,h1,h2,rfl⟩
 |Bn f args dst=>obtain⟨Io,v,h1,h2,j,rfl,rfl⟩:=hd;exact one dst _ Ax rfl (by simp[Eg.wf]) λZ=>⟨Io,v,h1,h2,j,rfl,rfl⟩
 |MX dst=>obtain⟨rfl,rfl⟩:=hd;exact one dst _ Ax rfl (by simp[Eg.wf]) λZ=>⟨rfl,rfl⟩
 |Hw m k v=>obtain⟨hv,rfl⟩:=hd;exact one none .undef Ax rfl Ax λZ=>⟨hv,rfl⟩
 |LI z ok m k dst=>obtain⟨v,hv,rfl,rfl⟩:=hd;exact one dst _ Ax rfl (by simp[Eg.wf]) λZ=>⟨v,hv,rfl,rfl⟩
 |make z b zero l c dst=>obtain⟨v,hv,rfl⟩:=hd;exact one dst _ Ax rfl (by simp[Eg.wf]) λZ=>⟨v,hv,rfl⟩
 |Je z b s x dst i=>obtain⟨v,hv,rfl⟩:=hd;exact LN i dst _ Ax rfl (by simp[Eg.wf]) (by simp[Eg.wf]) λZ=>⟨v,hv,rfl⟩
 |FH z b s x dst=>obtain⟨v,hv,rfl⟩:=hd;exact one dst _ Ax rfl (by simp[Eg.wf]) λZ=>⟨v,hv,rfl⟩
 |FX z b s x dst i=>obtain⟨v,hv,rfl,rfl⟩:=hd;exact LN i dst _ Ax rfl (by simp[Eg.wf]) (by simp[Eg.wf]) λZ=>⟨v,hv,rfl,rfl⟩
 |EN s dst=>obtain⟨v,hv,rfl⟩:=hd;exact one dst _ Ax rfl (by simp[Eg.wf]) λZ=>⟨v,hv,rfl⟩
 |X8 s dst=>obtain⟨v,u,h1,h2,rfl⟩:=hd;exact one dst _ Ax rfl (by simp[Eg.wf]) λZ=>⟨v,u,h1,h2,rfl⟩
 |mem o args dst=>obtain⟨v,hv,rfl⟩:=hd;exact one dst _ (by intro t o';split<;>simp) rfl (by simp[Eg.wf]) λZ=>⟨v,hv,rfl⟩
def Tn{r:Eg}(hd:r.M2 C run U h U' h')(he:r.Rv=false):h'=h/\
  (r.hl=false->∀h2,r.M2 C run U h2 U' h2)/\
  ∀n p d,r= .load n p (some d)->∃v,Bj h n p=some v/\U'=U.set d (.val v)/\∀h2,Bj h2 n p=some v->r.M2 C run U h2 U' h2:=by
 cases r<;>simp only[Eg.Rv] at he<;>try(exact absurd he AM)
 case pure ws=>obtain⟨rfl,rfl⟩:=hd;exact⟨rfl,λ_ _=>⟨rfl,rfl⟩,Ax⟩
 case op p args dst BK g=>obtain⟨v,hv,rfl,rfl⟩:=hd;exact⟨rfl,λ_ _=>⟨v,hv,rfl,rfl⟩,Ax⟩
 case box n v d=>obtain⟨hn,rfl,rfl⟩:=hd;exact⟨rfl,λ_ _=>⟨hn,rfl,rfl⟩,Ax⟩
 case closure fn x b fz d=>obtain⟨rfl,rfl⟩:=hd;exact⟨rfl,λ_ _=>⟨rfl,rfl⟩,Ax⟩
 case MJ s off n v BK g ver cells owned=>obtain⟨hn,rfl,rfl⟩:=hd;exact⟨rfl,λ_ _=>⟨hn,rfl,rfl⟩,Ax⟩
 case load n p dst=>obtain⟨v,hv,rfl,rfl⟩:=hd;refine⟨rfl,λc=>absurd c (by simp[Eg.hl]),λn' p' d he=>?_⟩;cases he;exact⟨v,hv,rfl,λh2 e=>⟨v,e,rfl,rfl⟩⟩
 case LI z ok m k dst=>obtain⟨v,hv,rfl,rfl⟩:=hd;exact⟨rfl,λc=>absurd c (by simp[Eg.hl]),Ax⟩
 case Bn f args dst=>obtain⟨Io,v,h1,h2,i,rfl,rfl⟩:=hd;exact⟨rfl,λ_ _=>⟨Io,v,h1,h2,i,rfl,rfl⟩,Ax⟩
def Ue{ds:List Nat}(hn:MK U ds=true):U.drop ds=U:=by
 refine BG.ext (BG.length_drop U ds) λt=>?_;rw[BG.RQ];cases hx:U.at t with
 |EU t' o=>have:=NJ.1 hn t t' o hx;simp[this]
 |_=>rfl
def Qu{o:Oper}(h:∀t∈Fc ops o,Z.at t=U.at t):Iq ops Z o=Iq ops U o:=by
 unfold Iq;unfold Fc at h;cases hg:o.guard with
 |none=>rfl
 |some g=>
  obtain⟨j,want⟩:=g;rw[hg] at h;simp only at h⊢;cases hd:(ops[j]?).bind (·.dst) with
  |none=>rfl
  |some s=>
   rw[hd] at h;simp only
   rw[h s Ax]
def UT{o:Oper}{r:Eg}(hc:FL C fid ops U o=some r)(ht:∀t∈Jw o.op.operands.toList,Z.at t=U.at t)(hb:∀s∈HF C U o,Z.at s=U.at s):HF C Z o=HF C U o:=by
 have h:Vk C U Z o.op.operands.toList:= .rW ht
 unfold HF at hb⊢
 cases ho:o.op with
 |load t x=>
  rw[ho] at h hb
  simp only at hb⊢
  have hn:FI C U x≠none:=λhe=>by
   unfold FL at hc
   simp only[ho] at hc
   split at hc
   .unfold K6 at hc;rw[he] at hc;split at hc<;>simp_all
   .cases hc
  unfold Nu
  rw[h.addr It hb hn]
 |store t x y=>
  rw[ho] at h hb
  simp only at hb⊢
  have hn:FI C U x≠none:=λhe=>by
   unfold FL at hc
   simp only[ho] at hc
   split at hc
   .unfold IZ at hc;rw[he] at hc;split at hc<;>simp_all
   .cases hc
  unfold Nu
  rw[h.addr It hb hn]
 |_=>rfl
def Uf{xs:List D0}{t o:Nat}(h: .EU t o∈xs):t∈Vh xs:=Cb.2 ⟨_,h,rfl⟩
def O1.spec{s:St}(hs:O1 C fid ops run s U h U' h')(hf:s.fp.Tf=true):
  ∃ws,U'=U.DW ws/\(∀p∈ws,p.1∈s.fp.wf)/\(∀p∈ws,∀t o,p.2= .EU t o->t∈s.fp.lr)/\(∀x∈s.fp.wf,∀t o,U.at x= .EU t o->t∈s.fp.lr)/\MK U s.fp.news=true/\(s.fp.Rv=false->h'=h)/\
   (s.fp.Rv=false->s.fp.hl=true->∃f,s.fl=some f)/\
   ∀(Z:BG) (h2 eY:Ai),Z.length=U.length->(∀x∈s.fp.rs++s.fp.wf,Z.at x=U.at x)->MK Z s.fp.news=true->
    ((h2=h/\eY=h')\/(s.fp.Rv=false/\eY=h2/\(s.fp.hl=true->∀f,s.fl=some f->Bj h2 f.n f.p=some f.v)))->O1 C fid ops run s Z h2 (Z.DW ws) eY:=by
 obtain⟨o,ho,⟨hg,Ť,Io,rfl,rfl⟩|⟨r,U1,hg,hc,Ť,hd,Io,ha⟩⟩:=hs
 .rw[Ť] at hf⊢;refine⟨o.dst.toList.map λd=>(d,.skip),Wi _ _ _,λp hp=>?_,λp hp t k hl=>?_,λx hx t k hl=>?_,NJ.2 (by simp[UK]),λ_=>rfl,λ_ i=>absurd i (by simp[UK]),λZ h2 eY hlen lg _ IB=>?_⟩;.obtain⟨d,hd,rfl⟩:=A4.1 hp;exact hd
  .obtain⟨d,hd,rfl⟩:=A4.1 hp;cases hl
  .exact Uf (o:=k) (A4.2 ⟨x,hx,hl⟩)
  .have i:eY=h2:=by rcases IB with⟨A,z⟩|⟨_,e,_⟩<;>first|exact e|rw[A,z]
   refine⟨o,ho,.inl ⟨?_,?_,Io,(Wi _ _ _).symm,i⟩⟩;.rw[Qu λt ht=>lg t (Cu _ ht)];exact hg
   .rw[Ť];have e:o.dst.toList.map Z.at=o.dst.toList.map U.at:=YK λx hx=>lg x (BH _ hx);simp only[UK,e]
 .rw[Ť] at hf⊢;have lj:r.Tf U=true:=hf;have Qj:MK U r.news=true:=by unfold Eg.Tf at lj;rw[AN] at lj;exact lj.1
  rw[Ue Qj] at hd;obtain⟨ll,rfl,hw,y,aB⟩:=Y9 hd;have aJf:∃g:List (Nat×D0),U'=(U.DW ll).DW g/\(∀p∈g,o.dst=some p.1/\∃b,p.2= .OD b)/\∀Z:BG,Z.length=U.length->(∀x∈r.wf++o.dst.toList,Z.at x=U.at x)->Mo (if RH ops s.idx then o.dst else none) (Z.DW ll) ((Z.DW ll).DW g):=by
   by_cases c:RH ops s.idx=true
   .rw[Af c] at ha;cases RW:o.dst with
    |none=>rw[RW] at ha;exact⟨[],ha,Ax,λZ _ _=>by simp[c,Mo,BG.DW]⟩
    |some d=>
     rw[RW] at ha;simp only[Mo] at ha;have xe:∀Z:BG,Z.length=U.length->(∀x∈r.wf++[d],Z.at x=U.at x)->(Z.DW ll).at d=(U.DW ll).at d:=λZ hl lg=>BG.IN ll U Z d hl (lg d Ax);cases hx:(U.DW ll).at d with
     |val v=>rw[hx] at ha;obtain⟨b,rfl,rfl⟩:=ha;refine⟨[(d,.OD b)],rfl,Ax,λZ hl lg=>?_⟩;simp only[c,BE,Mo];rw[xe Z hl lg,hx];exact⟨b,rfl,rfl⟩
     |_=>rw[hx] at ha;refine⟨[],ha,Ax,λZ hl lg=>?_⟩;simp only[c,BE,Mo];rw[xe Z hl lg,hx];rfl
   .rw[Ad c] at ha;exact⟨[],ha,Ax,λZ _ _=>by rw[Ad c];rfl⟩
  obtain⟨g,rfl,lf,aEz⟩:=aJf;have m:r.hl=true->∃n p d,r= .load n p (some d)/\d<U.length:=λi=>by
   unfold Eg.Tf at lj;rw[AN] at lj;cases r with
   |load n p dst=>
    cases dst with
    |none=>exact absurd lj.2 Ax
    |some d=>exact⟨n,p,d,rfl,by simpa using lj.2⟩
   |LI _ _ _ _ _=>exact absurd lj.2 Ax
   |_=>simp[Eg.hl] at i
  have aEA:r.Rv=false->∀n p d,r= .load n p (some d)->d<U.length->∃v,Bj h n p=some v/\s.fl=some {idx:=s.idx,n,p,v}:=by intro he n p d hr f_;obtain⟨v,q,l,_⟩:=(Tn hd he).2.2 n p d hr;refine⟨v,q,?_⟩;rw[Io,hr];simp only[Kw];rw[l,BG.E2 f_]
  have aJg:∀(Z:BG) h2 eY,((h2=h/\eY=h')\/(r.Rv=false/\eY=h2/\(r.hl=true->∀f,s.fl=some f->Bj h2 f.n f.p=some f.v)))->r.M2 C run Z h2 (Z.DW ll) eY:=by
   intro Z h2 eY IB;rcases IB with⟨rfl,rfl⟩|⟨he,rfl,T9⟩
   .exact aB Z
   .obtain⟨_,E,D⟩:=Tn (aB Z) he;cases i:r.hl with
    |false=>exact E i _
    |true=>obtain⟨n,p,d,hr,f_⟩:=m i;obtain⟨v,q,l⟩:=aEA he n p d hr f_;obtain⟨v',p1,_,B⟩:=D n p d hr;rw[q] at p1;cases p1;exact B _ (T9 i _ l)
  refine⟨ll++g,by rw[BG.Jj],λp hp=>?_,λp hp t k hl=>?_,λx hx t k hl=>?_,Qj,λhe=>(Tn hd he).1,λhe i=>?_,λZ h2 eY hlen lg u IB=>?_⟩
  .rcases Ap.1 hp with hp|hp
   .exact Cu _ (hw p hp)
   .exact BH _ (by rw[(lf p hp).1];simp)
  .rcases Ap.1 hp with hp|hp
   .exact BH _ (y p hp t k hl)
   .obtain⟨_,b,e⟩:=lf p hp;rw[e] at hl;cases hl
  .exact Cu _ (Uf (o:=k) (A4.2 ⟨x,hx,hl⟩))
  .obtain⟨n,p,d,hr,f_⟩:=m i;obtain⟨v,_,l⟩:=aEA he n p d hr f_;exact⟨_,l⟩
  .have j:∀t∈Fc ops o++Jw o.op.operands.toList++HF C U o,Z.at t=U.at t:=λt ht=>lg t (Cu _ ht);have hwf:∀t∈r.wf++o.dst.toList,Z.at t=U.at t:=λt ht=>lg t (BH _ ht);have ht:∀t∈Jw o.op.operands.toList,Z.at t=U.at t:=λt ht=>j t (by simp[ht]);have hb:∀t∈HF C U o,Z.at t=U.at t:=λt ht=>j t (by simp[ht]);have aEB:MK Z r.news=true:=u;refine⟨o,ho,.inr ⟨r,Z.DW ll,?_,We hc ht hb,?_,?_,?_,?_⟩⟩;.rw[Qu λt ht=>j t (by simp[ht])];exact hg
   .rw[Ť];have A:(r.wf++o.dst.toList).map Z.at=(r.wf++o.dst.toList).map U.at:=YK λx hx=>hwf x hx;have z:r.Tf Z=r.Tf U:=by unfold Eg.Tf;rw[Qj,aEB,hlen]
    simp only[UK,A,z,UT hc ht hb]
   .rw[Ue aEB];exact aJg Z h2 eY IB
   .rw[Io];exact(Yi λd hd=>BG.IN ll U Z d hlen (hwf d (Cu _ hd))).symm
   .rw[BG.Jj];exact aEz Z hlen hwf
end
end Go.Am
end
section
namespace Go.Am
open Go
section
variable{C:Fv}{fid:FuncId}{ops:List Oper}{run:IT->Ai->Option Jp}{an:List Nat}
def Ly{a b:List Nat}(h:(!T3 a b)=true){x:Nat}(hx:x∈a):x∉b:=λhb=>by have:T3 a b=true:=af.2 ⟨x,hx,hb⟩;simp[this] at h
def swap{p s:St}{U σa U1:BG}{h ha h1:Ai}(hp:O1 C fid ops run p U h σa ha)(hs:O1 C fid ops run s σa ha U1 h1)(HW:QP p.fp s.fp=true)
  (T9:s.fp.Rv=true->∀f,p.fl=some f->Bj h1 f.n f.p=some f.v):
  ∃σs eU,O1 C fid ops run s U h σs eU/\O1 C fid ops run p σs eU U1 h1/\(s.fp.Rv=true->eU=h1)/\(p.fp.Rv=true->h1=ha):=by
 unfold QP FP.apart at HW;simp only[AN] at HW;obtain⟨⟨⟨⟨pf,A⟩,⟨⟨a1,a2⟩,a3⟩,a4⟩,he⟩,hl⟩:=HW;obtain⟨c,rfl,l,rP,z,ť,u,E,ē⟩:=hp.spec pf;obtain⟨b,rfl,k,lR,B,m,lP,D,lp⟩:=hs.spec A;have i:∀x∈s.fp.rs++s.fp.wf,(U.DW c).at x=U.at x:=λx hx=>BG.Gp c U x λq hq e=>Ly a1 (l q hq) (by rw[e];exact hx);have d:MK U s.fp.news=true:=by
  rw[NJ] at m⊢;intro x t o hx;by_cases hw:x∈p.fp.wf;.exact Ly a3 (z x hw t o hx)
  .refine m x t o ?_;rw[BG.Gp c U x λq hq e=>hw (by rw[<-e];exact l q hq)];exact hx
 have hlen:∀(Z:BG) (ws:List (Nat×D0)),(Z.DW ws).length=Z.length:=λZ ws=>BG.Jk ws Z;have Ĕ:(U.DW b).DW c=(U.DW c).DW b:=(BG.ae λq hq r hr e=>by have:=Ly a1 (l q hq);exact this (BH _ (by rw[e];exact k r hr))).symm
 have outs:∀x∈p.fp.rs++p.fp.wf,(U.DW b).at x=U.at x:=λx hx=>BG.Gp b U x λq hq e=>by
  rcases Ap.1 hx with hx|hx
  .exact Ly a2 (k q hq) (by rw[e];exact hx)
  .exact Ly a1 hx (BH _ (by rw[<-e];exact k q hq))
 have y:MK (U.DW b) p.fp.news=true:=by
  rw[NJ] at ť⊢;intro x t o hx;rcases BG.Wg b U x with h0|⟨q,hq,_,h2⟩
  .exact ť x t o (by rw[<-h0];exact hx)
  .rw[h2] at hx;exact Ly a4 (lR q hq t o hx)
 by_cases I5:s.fp.Rv=true
 .have g:p.fp.Rv=false:=by
   cases hq:p.fp.Rv with
   |false=>rfl
   |true=>simp[I5,hq] at he
  have j:ha=h:=u g;subst j;refine⟨U.DW b,h1,lp U ha h1 (hlen U c).symm (λx hx=>(i x hx).symm) d (.inl ⟨rfl,rfl⟩),?_,λ_=>rfl,λe=>by rw[g] at e;cases e⟩;rw[<-Ĕ];exact ē (U.DW b) h1 h1 (hlen U b) outs y (.inr ⟨g,rfl,λ_ f hf=>T9 I5 f hf⟩)
 .have aEC:s.fp.Rv=false:=by simpa using I5
  have Ŧ:h1=ha:=lP aEC;subst Ŧ;refine⟨U.DW b,h,?_,?_,λe=>absurd e I5,λ_=>rfl⟩
  .by_cases g:p.fp.Rv=true;.refine lp U h h (hlen U c).symm (λx hx=>(i x hx).symm) d (.inr ⟨aEC,rfl,λF=>?_⟩);simp[g,F] at hl
   .have aJj:p.fp.Rv=false:=by simpa using g
    have j:=u aJj;exact lp U h h (hlen U c).symm (λx hx=>(i x hx).symm) d (.inl ⟨j.symm,j.symm⟩)
  .rw[<-Ĕ];exact ē (U.DW b) h h1 (hlen U b) outs y (.inl ⟨rfl,rfl⟩)
inductive Steps(C:Fv)(fid:FuncId)(ops:List Oper)(run:IT->Ai->Option Jp)(an:List Nat):List J2->List St->BG->Ai->BG->Ai->Prop
 |nil {fl:List J2} {U:BG} {h:Ai}:Steps C fid ops run an fl [] U h U h
 |cons {fl:List J2} {s:St} {L:List St} {U U1 σf:BG} {h h1 hf:Ai}:O1 C fid ops run s U h U1 h1->(s.fp.Rv=true->∀f∈fl,D4 an f.idx s.idx=false->Bj h1 f.n f.p=some f.v)->
  Steps C fid ops run an (s.fl.toList++fl) L U1 h1 σf hf->Steps C fid ops run an fl (s::L) U h σf hf
def Steps.sub{fl:List J2}{L:List St}{U σf:BG}{h hf:Ai}(hs:Steps C fid ops run an fl L U h σf hf):∀{b:List J2},(∀f∈b,f∈fl)->Steps C fid ops run an b L U h σf hf:=by
 induction hs with
 |nil=>intro b _;exact .nil
 |cons h1 h2 _ ih=>
  intro b Wj;refine .cons h1 (λhe f hf hb=>h2 he f (Wj f hf) hb) (ih λf hf=>?_);rcases Ap.1 hf with hf|hf
  .exact Cu _ hf
  .exact BH _ (Wj f hf)
def O1.ŧ{s:St}{U U':BG}{h h':Ai}(hs:O1 C fid ops run s U h U' h'){f:J2}(hf:s.fl=some f):f.idx=s.idx:=by
 obtain⟨o,_,⟨_,_,Io,_⟩|⟨r,U1,_,_,_,_,Io,_⟩⟩:=hs;.rw[Io] at hf;cases hf
 .rw[Io] at hf;unfold Kw at hf;split at hf
  .split at hf;.cases hf;rfl
   .cases hf
  .cases hf
def Steps.lt{fl:List J2}{L:List St}{U σf:BG}{h hf:Ai}(hs:Steps C fid ops run an fl L U h σf hf):∀q∈L,q.idx<ops.length:=by
 induction hs with
 |nil=>simp
 |cons h1 _ _ ih=>
  intro q hq;rcases AG.1 hq with rfl|hq
  .obtain⟨o',h2,_⟩:=h1;exact(Aj.1 h2).1
  .exact ih q hq
def ĕ{s:St}{B:List St}{σf:BG}{hf:Ai}:∀{A:List St} {fl:List J2} {U:BG} {h:Ai},Steps C fid ops run an fl (A++s::B) U h σf hf->(∀p∈A,QP p.fp s.fp=true/\D4 an p.idx s.idx=false)->
  ∃U1 h1,O1 C fid ops run s U h U1 h1/\(s.fp.Rv=true->∀f∈fl,D4 an f.idx s.idx=false->Bj h1 f.n f.p=some f.v)/\Steps C fid ops run an (s.fl.toList++fl) (A++B) U1 h1 σf hf
 |[],fl,U,h,hs,_=>by
  cases hs with
  |cons h1 h2 c=>exact⟨_,_,h1,h2,c⟩
 |p::A,fl,U,h,hs,i=>by
  cases hs with
  |cons h1 h2 c=>
   rename_i σa ha;obtain⟨U1,Č,e,d,m⟩:=ĕ c λq hq=>i q (by simp[hq]);obtain⟨HW,aJk⟩:=i p Ax;obtain⟨σs,eU,w1,l,k,j⟩:=swap h1 e HW λhe f hf=>d he f (by rw[hf];simp) (by rw[h1.ŧ hf];exact aJk);refine⟨σs,eU,w1,λhe f hf hb=>?_,.cons l (λhe f hf hb=>?_) (m.sub λf hf=>?_)⟩;.rw[k he];exact d he f (BH _ hf) hb
   .rw[j he];rcases Ap.1 hf with hf|hf
    .exfalso;unfold QP at HW;simp only[AN] at HW;obtain⟨⟨⟨⟨_,x⟩,_⟩,t⟩,hl⟩:=HW;cases mZ:s.fl with
     |none=>rw[mZ] at hf;simp at hf
     |some g=>
      have b:s.fp.hl=true:=by
       obtain⟨o,_,⟨_,_,Io,_⟩|⟨r,u,_,_,Ť,_,Io,_⟩⟩:=e;.rw[Io] at mZ;cases mZ
       .rw[Io] at mZ;unfold Kw at mZ;split at mZ;.rw[Ť];rfl
        .cases mZ
      simp[he,b] at hl
    .exact h2 he f hf hb
   .rcases Ap.1 hf with hf|hf
    .exact BH _ (Cu _ hf)
    .rcases Ap.1 hf with hf|hf
     .exact Cu _ hf
     .exact BH _ (BH _ hf)
def Qv{DA:List Nat}{x:Nat}:∀(ds:List Nat) (m:Nat),(ds.foldl (λm e=>m|||bit e|||DA.getD e 0) m).testBit x=true↔m.testBit x=true\/∃e∈ds,x=e\/(DA.getD e 0).testBit x=true
 |[],m=>Ax
 |d::ds,m=>by
  rw[fk,Qv ds];simp only[Nat.testBit_or,bit,Nat.testBit_two_pow,Oh,B0,AG,exists_eq_or_imp];constructor
  .rintro((h|h)|h)
   .rcases h with h|h
    .exact .inl h
    .exact .inr (.inl (.inl h.symm))
   .exact .inr (.inl (.inr h))
   .exact .inr (.inr h)
  .rintro(h|(h|h)|h);.exact .inl (.inl (.inl h))
   .exact .inl (.inl (.inr h.symm))
   .exact .inl (.inr h)
   .exact .inr h
def Lk:∀(l:List Oper) (DA:List Nat) (i:Nat),i<DA.length->(KC DA l).getD i 0=DA.getD i 0
 |[],DA,i,h=>rfl
 |o::l,DA,i,h=>by rw[KC,Lk l _ i Ei];simp[List.getD,An h]
def Qw:∀(l:List Oper) (DA:List Nat) (k:Nat) (o:Oper),l[k]?=some o->(∀e∈Oper.UJ o,e<DA.length+k)->∀x,
  ((KC DA l).getD (DA.length+k) 0).testBit x=true↔∃e∈Oper.UJ o,x=e\/((KC DA l).getD e 0).testBit x=true
 |[],DA,k,o,h,_,x=>by simp at h
 |o'::l,DA,0,o,h,hd,x=>by
  simp at h;subst h;rw[KC,Lk l _ (DA.length+0) Ax];have b:(DA++[(Oper.UJ o').foldl (λm e=>m|||bit e|||DA.getD e 0) 0]).getD (DA.length+0) 0=(Oper.UJ o').foldl (λm e=>m|||bit e|||DA.getD e 0) 0:=by simp[List.getD]
  rw[b,Qv];simp only[Nat.zero_testBit,Ck,false_or];constructor;.rintro⟨e,he,h⟩;refine⟨e,he,h.imp id λh=>?_⟩;have hlt:e<DA.length:=hd e he;rw[Lk l _ e Ei];simpa[List.getD,An hlt] using h
  .rintro⟨e,he,h⟩;refine⟨e,he,h.imp id λh=>?_⟩;have hlt:e<DA.length:=hd e he;rw[Lk l _ e Ei] at h;simpa[List.getD,An hlt] using h
 |o'::l,DA,k+1,o,h,hd,x=>by simp at h;rw[KC];have:=Qw l (DA++[(Oper.UJ o').foldl (λm e=>m|||bit e|||DA.getD e 0) 0]) k o h (λe he=>by have:=hd e he;simp;omega) x;simp only[Aq,AJ,Bt,BJ] at this;rw[(Ab:DA.length+(k+1)=DA.length+1+k)];exact this
def Za{i:Nat}{o:Oper}(ho:ops[i]?=some o)(hd:∀e∈Oper.UJ o,e<i)(x:Nat):D4 (VL ops) x i=true↔∃e∈Oper.UJ o,x=e\/D4 (VL ops) x e=true:=by have:=Qw ops [] i o ho (by simpa using hd) x;simpa[D4,VL] using this
def O2(h:Z9 ops=true){i:Nat}{o:Oper}(ho:ops[i]?=some o):∀e∈Oper.UJ o,e<i:=by
 unfold Z9 at h;rw[Cg] at h;have:=h (o,i) (by refine Ct (i:=i) ?_;simp[List.getElem?_zipIdx,ho])
 intro e he;simpa using Cg.1 this e he
def Zb:∀{l:List (Nat×FP)},VN.go an l=true->l.Pairwise λx y=>x.1≠y.1/\D4 an y.1 x.1=false/\(D4 an x.1 y.1=true\/QP x.2 y.2=true)
 |[],_=> .nil
 |(i,f)::l,h=>by simp only[VN.go,AN,Cg] at h;refine .cons (λy hy=>?_) (Zb h.2);have:=h.1 y hy;simp only[bne_iff_ne,aOY,Oh] at this;exact⟨this.1.1,this.1.2,this.2⟩
def lq{d:Option Nat}{U:BG}{K:BG->IT}{h:Ai}{R:Jp}(hr:IT.step (B4 C) run (rD d U K) h=some R):∃U',Mo d U U'/\IT.step (B4 C) run (K U') h=some R:=by
 unfold rD at hr;cases d with
 |none=>exact⟨U,rfl,hr⟩
 |some d=>
  simp only at hr;cases hx:U.at d with
  |val v=>
   rw[hx] at hr;simp only[IT.step] at hr;split at hr;.exact⟨U.set d (.OD true),by simp only[Mo,hx];exact⟨true,rfl,rfl⟩,hr⟩
   .exact⟨U.set d (.OD false),by simp only[Mo,hx];exact⟨false,rfl,rfl⟩,hr⟩
   .cases hr
  |_=>rw[hx] at hr;exact⟨U,by simp only[Mo,hx],hr⟩
def NL{i:Nat}{t:IT}{h:Ai}{R:Jp}:∀{fl:List J2},IT.step (B4 C) run (RG an i fl t) h=some R->(∀f∈fl,D4 an f.idx i=false->Bj h f.n f.p=some f.v)/\IT.step (B4 C) run t h=some R
 |[],hr=>⟨Ax,hr⟩
 |f::fl,hr=>by
  unfold RG at hr;by_cases hb:D4 an f.idx i=true
  .rw[Af hb] at hr;obtain⟨d,c⟩:=NL hr;refine⟨λg hg b=>?_,c⟩;rcases AG.1 hg with rfl|hg
   .rw[hb] at b;cases b
   .exact d g hg b
  .rw[Ad hb] at hr;simp only[IT.step] at hr;split at hr
   .rename_i v hv;split at hr
    .rename_i JU;obtain⟨d,c⟩:=NL hr;refine⟨λg hg b=>?_,c⟩;rcases AG.1 hg with rfl|hg
     .rw[Aa.beq_eq JU];exact hv
     .exact d g hg b
    .cases hr
   .cases hr
def QZ{K:BG->IT}{R:Jp}:∀{rest:List Nat} {b:List (Nat×FP)} {fl:List J2} {U:BG} {h:Ai},IT.step (B4 C) run (QQ C fid ops an rest b fl U K) h=some R->
  ∃L σf hf,Steps C fid ops run an fl L U h σf hf/\VN ops.length an (b.reverse++L.map λs=>(s.idx,s.fp))=true/\IT.step (B4 C) run (K σf) hf=some R
 |[],b,fl,U,h,hr=>by
  unfold QQ at hr;split at hr;.rename_i HW;exact⟨[],U,h,.nil,by simpa using HW,hr⟩
  .cases hr
 |i::rest,b,fl,U,h,hr=>by
  unfold QQ at hr;cases ho:ops[i]? with
  |none=>rw[ho] at hr;cases hr
  |some o=>
   rw[ho] at hr;simp only at hr;split at hr
   .rename_i hg;split at hr;.cases hr
    .rename_i r hc;obtain⟨U1,h1,hd,hr⟩:=YS hr;have Hh:(r.Rv=true->∀f∈fl,D4 an f.idx i=false->Bj h1 f.n f.p=some f.v)/\IT.step (B4 C) run (rD (if RH ops i then o.dst else none) U1 λj=>QQ C fid ops an rest ((i,UK C ops U o (some r))::b) (Ml i r U1 fl) j K) h1=some R:=by
      split at hr;.obtain⟨d,c⟩:=NL hr;exact⟨λ_=>d,c⟩
      .rename_i he;exact⟨λe=>absurd e he,hr⟩
     obtain⟨T9,hr⟩:=Hh;obtain⟨U',ha,hr⟩:=lq hr;rw[Wh] at hr;obtain⟨L,σf,hf,d,c,g⟩:=QZ hr;exact⟨{idx:=i,fp:=UK C ops U o (some r),fl:=Kw i r U1}::L,σf,hf,.cons ⟨o,ho,.inr ⟨r,U1,hg,hc,rfl,hd,rfl,ha⟩⟩ T9 d,by simpa using c,g⟩
   .rename_i hg;obtain⟨L,σf,hf,d,c,g⟩:=QZ hr;exact⟨{idx:=i,fp:=UK C ops U o none,fl:=none}::L,σf,hf,.cons ⟨o,ho,.inl ⟨hg,rfl,rfl,rfl,rfl⟩⟩ (λe=>by simp[UK] at e) d,by simpa using c,g⟩
   .cases hr
end
section
variable{C:Fv}{γ0 γ:Gh}{w0 w:World}{O:Nat->Nat}{U:BG}{h:Ai}{a:Act}{fid:FuncId}
def Ll(hr:CX C γ0 w0 γ O U h a w){ops:Array Oper}{o:Oper}{b:Bool}(hg:Iq ops.toList U o= .MZ b):Region.wanted o (yielded ops a.tmps)=b:=by
 unfold Iq at hg;unfold Region.wanted;cases ho:o.guard with
 |none=>rw[ho] at hg;cases hg;rfl
 |some g=>
  obtain⟨j,want⟩:=g;rw[ho] at hg;simp only[aEf] at hg⊢;unfold yielded;cases hd:(ops[j]?).bind (·.dst) with
  |none=>rw[hd] at hg;cases hg
  |some s=>
   rw[hd] at hg;simp only[Cm] at hg⊢;have h0:=hr.fr.HR s;cases hx:U.at s with
   |OD c=>
    rw[hx] at hg h0;cases hg;have hl:s<a.tmps.size:=by rw[<-hr.fr.size];exact BG.OT (by rw[hx];simp)
    have hv:a.tmps.getD s undef= .bool c:=h0;have:a.tmps[s]?=some (.bool c):=by rw[Ci hl];rw[GM,Ci hl] at hv;exact B2 some hv
    rw[this];rfl
   |skip=>
    rw[hx] at hg h0;cases hg;have hv:a.tmps.getD s undef=undef:=h0;have hne:∀c,a.tmps[s]?≠some (.bool c):=λc hc=>by rw[GM,hc] at hv;cases hv
    cases ht:a.tmps[s]? with
    |none=>rfl
    |some v=>
     cases v with
     |bool c=>exact absurd ht (hne c)
     |_=>rfl
   |val v=>rw[hx] at hg;cases hg
   |_=>rw[hx] at hg;cases hg
def CX.aEE(hr:CX C γ0 w0 γ O U h a w){d:Option Nat}{U':BG}(ha:Mo d U U'):CX C γ0 w0 γ O U' h a w:=by
 unfold Mo at ha;cases d with
 |none=>simp only at ha;rw[ha];exact hr
 |some d=>
  simp only at ha;cases hx:U.at d with
  |val v=>rw[hx] at ha;obtain⟨b,rfl,rfl⟩:=ha;have h0:=hr.fr.HR d;rw[hx] at h0;exact hr.fJ h0
  |_=>rw[hx] at ha;rw[ha];exact hr
structure aJl(ops:Array Oper)(listed:Array Bool)(L:List St):Prop where
 size:listed.size=ops.size
 un:∀i,i<ops.size->(listed.getD i false=false↔i∈L.map (·.idx))
 closed:∀j,listed.getD j false=true->∀e,D4 (VL ops.toList) e j=true->listed.getD e false=true
abbrev rX(an:List Nat)(L:List St):Prop:=L.Pairwise λx y=>x.idx≠y.idx/\D4 an y.idx x.idx=false/\(D4 an x.idx y.idx=true\/QP x.fp y.fp=true)
def ah{run:IT->Ai->Option Jp}(D:EP C run){ops:Array Oper}{Q:Exit->Act->World->Prop}(FB:Z9 ops.toList=true){σf:BG}{hf:Ai}(hQ:∀γ' k a' w',CX C γ0 w0 γ' k σf hf a' w'->Q .normal a' w'):
  ∀(fuel:Nat) (L:List St) (listed:Array Bool) (γ:Gh) (O:Nat->Nat) (U:BG) (h:Ai) (a:Act) (w:World),L.length=fuel->Steps C fid ops.toList run (VL ops.toList) [] L U h σf hf->rX (VL ops.toList) L->aJl ops listed L->CX C γ0 w0 γ O U h a w->
   wpAny C.P .any ops Q fuel listed a w:=by
 intro fuel;induction fuel with
 |zero=>
  intro L listed γ O U h a w l hs hp ho hr;have u:L=[]:=CO l;subst u;cases hs;refine⟨List.eq_nil_iff_forall_not_mem.2 λi hi=>?_,hQ _ _ _ _ hr⟩;obtain⟨h0,o,xf,_⟩:=mem_ready.1 hi;have hlt:i<ops.size:=(AL.1 xf).1;have zY:listed.getD i false=false:=by
   have hl:i<listed.size:=by rw[ho.size];exact hlt
   simpa[Array.getD,hl] using h0
  have:=(ho.un i hlt).1 zY;simp at this
 |succ fuel ih=>
  intro L listed γ O U h a w l hs hp ho hr;have aK:∀i,i<ops.size->listed.getD i true=listed.getD i false:=λi hi=>by
   have hl:i<listed.size:=by rw[ho.size];exact hi
   simp[Array.getD,hl]
  constructor
  .intro T9;exfalso;cases L with
   |nil=>simp at l
   |cons s0 L=>
    obtain⟨o,xf,_⟩:∃o,ops.toList[s0.idx]?=some o/\True:=by
     cases hs with
     |cons h1 _ _=>obtain⟨o,h2,_⟩:=h1;exact⟨o,h2,trivial⟩
    have m0:ops[s0.idx]?=some o:=by simpa using xf
    have hlt:s0.idx<ops.size:=(AL.1 m0).1;have:s0.idx∈Region.ready .any ops listed:=by
     refine mem_ready.2 ⟨?_,o,m0,λe he hb=>?_⟩;.rw[aK _ hlt];exact(ho.un _ hlt).2 Ax
     .have f:e.on∈Oper.UJ o:=Cb.2 ⟨e,by simpa using he,by rw[Af hb]⟩;have z:=O2 FB xf e.on f;cases hl:listed.getD e.on false with
      |true=>rfl
      |false=>
       have hm:=(ho.un e.on Ab).1 hl;simp only[A9,AG] at hm;rcases hm with hm|hm
       .omega
       .obtain⟨y,hy,m⟩:=A4.1 hm;have:=((aM3.1 hp).1 y hy).2.1;rw[m,(Za xf (O2 FB xf) e.on).2 ⟨e.on,f,.inl rfl⟩] at this;cases this
    rw[T9] at this;cases this
  .intro i hi;obtain⟨h0,o,xf,aEF⟩:=mem_ready.1 hi;have hlt:i<ops.size:=(AL.1 xf).1;rw[aK i hlt] at h0;obtain⟨s,n,rfl⟩:=A4.1 ((ho.un i hlt).1 h0);obtain⟨A,B,rfl⟩:=List.append_of_mem n;have m0:ops.toList[s.idx]?=some o:=by simpa using xf
   have aEG:∀e,D4 (VL ops.toList) e s.idx=true->listed.getD e false=true:=λe he=>by
    obtain⟨d,hd,IB⟩:=(Za m0 (O2 FB m0) e).1 he;obtain⟨E,f,hb⟩:=Cb.1 hd;split at hb
    .rename_i S6;cases hb;have f_:=aEF E (by simpa using f) S6;rcases IB with rfl|IB
     .exact f_
     .exact ho.closed _ f_ e IB
    .cases hb
   have b:=(aHP.1 hp).2.2;have Ũ:∀p∈A++s::B,p.idx<ops.size:=λp t=>by simpa using hs.lt p t
   obtain⟨U1,h1,x,_,v⟩:=ĕ hs λp g=>by
    have hb:D4 (VL ops.toList) p.idx s.idx=false:=by
     cases S6:D4 (VL ops.toList) p.idx s.idx with
     |false=>rfl
     |true=>have h1:=aEG _ S6;have h2:=(ho.un p.idx (Ũ p (by simp[g]))).2 (A4.2 ⟨p,by simp[g],rfl⟩);rw[h1] at h2;cases h2
    refine⟨?_,hb⟩;have:=(b p g s Ax).2.2;rw[hb] at this;exact this.resolve_left Ax
   have Ė:∀γ' k a' w',CX C γ0 w0 γ' k U1 h1 a' w'->wpAny C.P .any ops Q fuel (listed.setIfInBounds s.idx true) a' w':=λγ' k a' w' Hh=>by
    refine ih (A++B) _ γ' k U1 h1 a' w' (by simp at l⊢;omega) (v.sub Ax) ?_ ⟨by simp[ho.size],λj hj=>?_,λj hj e he=>?_⟩ Hh;.exact hp.sublist ((AF A).append (TY s B))
    .by_cases c:j=s.idx
     .subst c;have ũ:s.idx∉(A++B).map (·.idx):=λhm=>by
       obtain⟨q,hq,he⟩:=A4.1 hm;rcases Ap.1 hq with hq|hq
       .exact(b q hq s Ax).1 he
       .exact(aM3.1 (aHP.1 hp).2.1).1 q hq |>.1 he.symm
      have ht:(listed.setIfInBounds s.idx true).getD s.idx false=true:=by
       have hl:s.idx<listed.size:=by rw[ho.size];exact hlt
       simp[Array.getD,hl]
      rw[ht];exact⟨λe=>absurd e Ax,λe=>absurd e ũ⟩
     .rw[getD_set_ne false (λe=>c e.symm),ho.un j hj];simp only[BU,A9,Ap,AG];constructor
      .rintro(e|e|e);.exact .inl e
       .exact absurd e c
       .exact .inr e
      .rintro(e|e);.exact .inl e
       .exact .inr (.inr e)
    .by_cases c:j=s.idx;.subst c;exact getD_set_true (aEG e he)
     .rw[getD_set_ne false (λe=>c e.symm)] at hj;exact getD_set_true (ho.closed j hj e he)
   unfold wpOp;rw[xf];obtain⟨o',xa,⟨hg,_,_,rfl,rfl⟩|⟨r,F,hg,hc,_,hd,_,ha⟩⟩:=x;.rw[m0] at xa;cases xa;simp only[Ll hr hg,Ck,DU];exact Ė _ _ _ _ (hr.put λ_ _=>rfl)
   .rw[m0] at xa;cases xa;simp only[Ll hr hg,BE];exact .inl (k_ D hc hd hr λγ' k a' w' Hh=>Ė γ' k a' w' (Hh.aEE ha))
end
end Go.Am
end
end
