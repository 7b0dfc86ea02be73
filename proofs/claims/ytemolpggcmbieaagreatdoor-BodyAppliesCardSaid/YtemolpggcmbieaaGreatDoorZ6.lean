/- Lemmas -/
import Derived.Test.YtemolpggcmbieaaGreatDoorZ5
import Derived.MapKept
set_option linter.all false
section
namespace Go.Am
open Go
section
variable{C:FB}{γ0 γ γ':Gh}{w0 w w':World}{Z:Nat->Nat}{U:BJ}{h:Ah}{a:Act}{fid:FuncId}{ops:List Oper}
def Wd{s t:Ak}(h:s≠t):((⟨⟨s⟩⟩:ByteArray)==⟨⟨t⟩⟩)=false:=by
 refine Bool.eq_false_iff.2 λhc=>h ?_;have:=(MapKept.bytes_beq _ _).1 hc;injection this with this
 injection this with this
def QW(s:Ak):((⟨⟨s⟩⟩:ByteArray)==⟨⟨s⟩⟩)=true:=(MapKept.bytes_beq _ _).2 rfl
def gE{s:Ak}:∀{es:List (Aa×Aa)} {l:List MapEntry} {i:Nat} {r:Option Aa},Kk γ es l->Ry s es=some r->
  match r with
  |none=>Instr.findNow .string (.string ⟨⟨s⟩⟩) l i=some none
  |some v=>∃(j:Nat) (e:MapEntry),Instr.findNow .string (.string ⟨⟨s⟩⟩) l i=some (some (i+j,e.val))/\BI γ v e.val
 |[],l,i,r,b,hf=>by rw[show l=[] from b];cases hf;rfl
 |(k,v)::es,l,i,r,b,hf=>by
  obtain⟨e,l',rfl,h1,h2,f⟩:=b;unfold Ry at hf;split at hf;.rename_i J7;cases J7
  .rename_i t v' T2 J7;cases J7;have hk:e.key= .string ⟨⟨t⟩⟩:=h1;split at hf;.rename_i IP;subst IP;cases hf;exact⟨0,e,by simp[Instr.findNow,hk,Instr.sameNow,QW],h2⟩
   .rename_i IP;have ih:=gE (i:=i+1) f hf;have hne:=Wd IP;cases r with
    |none=>simpa[Instr.findNow,hk,Instr.sameNow,hne] using ih
    |some v2=>obtain⟨j,g,d,c⟩:=ih;exact⟨j+1,g,by simp only[Instr.findNow,hk,Instr.sameNow,hne];rw[d];congr 3;omega,c⟩
  .cases hf
def rN{s:Ak}{v:Aa}{u:Value}(hv:BI γ v u):∀{es T2:List (Aa×Aa)} {l:List MapEntry} {i:Nat},Kk γ es l->MZ s v es=some T2->
  (Instr.findNow .string (.string ⟨⟨s⟩⟩) l i=some none/\∀born,Kk γ T2 (l++[{key:= .string ⟨⟨s⟩⟩,val:=u,born}]))\/
  ∃j e,Instr.findNow .string (.string ⟨⟨s⟩⟩) l i=some (some (i+j,e.val))/\l[j]?=some e/\e.key= .string ⟨⟨s⟩⟩/\Kk γ T2 (l.modify j λe=>{e with key:= .string ⟨⟨s⟩⟩,val:=u})
 |[],T2,l,i,d,hp=>by rw[show l=[] from d];cases hp;exact .inl ⟨rfl,λborn=>⟨_,[],rfl,rfl,hv,rfl⟩⟩
 |(k,v0)::es,T2,l,i,d,hp=>by
  obtain⟨e,l',rfl,h1,h2,f⟩:=d;unfold MZ at hp;split at hp;.rename_i J7;cases J7
  .rename_i t v' o J7;cases J7;have hk:e.key= .string ⟨⟨t⟩⟩:=h1;split at hp;.rename_i IP;subst IP;cases hp;exact .inr ⟨0,e,by simp[Instr.findNow,hk,Instr.sameNow,QW],rfl,hk,_,l',rfl,rfl,hv,f⟩
   .rename_i IP;have hne:=Wd IP;cases hq:MZ s v es with
    |none=>rw[hq] at hp;cases hp
    |some n=>
     rw[hq] at hp;cases hp;rcases rN hv (i:=i+1) f hq with⟨c,b⟩|⟨j,p,c,b,m,g⟩
     .exact .inl ⟨by simpa[Instr.findNow,hk,Instr.sameNow,hne] using c,λborn=>⟨e,_,rfl,h1,h2,b born⟩⟩
     .exact .inr ⟨j+1,p,by simp only[Instr.findNow,hk,Instr.sameNow,hne];rw[c];congr 3;omega,b,m,e,_,Ax,h1,h2,g⟩
  .cases hp
def Th{es:Array MapEntry}{clock:Nat}{k v:Value}(h:clock=es.size/\∀(i:Nat) (e:MapEntry),es[i]?=some e->e.born=i):
  clock+1=(es.push {key:=k,val:=v,born:=clock}).size/\∀(i:Nat) (e:MapEntry),(es.push {key:=k,val:=v,born:=clock})[i]?=some e->e.born=i:=by
 obtain⟨rfl,h⟩:=h;refine⟨Ax,λi e he=>?_⟩;rw[YN] at he;split at he;.rename_i hi;cases he;exact hi.symm
 .exact h i e he
def T7{es:Array MapEntry}{clock j:Nat}{f:MapEntry->MapEntry}(h:clock=es.size/\∀(i:Nat) (e:MapEntry),es[i]?=some e->e.born=i)(hf:∀e,(f e).born=e.born):
  clock=(es.modify j f).size/\∀(i:Nat) (e:MapEntry),(es.modify j f)[i]?=some e->e.born=i:=by
 refine⟨by simpa using h.1,λi e he=>?_⟩;rw[ME] at he;split at he
 .cases hx:es[i]? with
  |none=>rw[hx] at he;cases he
  |some x=>rw[hx] at he;cases he;rw[hf];exact h.2 i x hx
 .exact h.2 i e he
def M7(hi:Hi γ h w){g id:Nat}{es T2:List (Aa×Aa)}(QX:h[id]?=some (.map es))(hg:γ.mu id=some g){o:Obj}{ents':Array MapEntry}{clock':Nat}(hw:w.heap[g]?=some o)(hr:jd γ T2 ents' clock'):
  Hi γ (h.set id (.map T2)) {w with heap:=w.heap.setIfInBounds g (.map ents' clock')}/\LB γ w γ {w with heap:=w.heap.setIfInBounds g (.map ents' clock')}:=by
 obtain⟨k,p,SY⟩:=hi.Me id _ QX Ax;rw[hg] at p;cases p;obtain⟨M2,c⟩:=MapKept.heap_set (o':= .map ents' clock') hw;have uniq:∀Fv x,h[Fv]?=some x->x≠ .Ds->γ.mu Fv=some g->Fv=id:=λFv x hx Ŗ hm=>by obtain⟨b',p,q⟩:=hi.Me Fv x hx Ŗ;rw[hm] at p;cases p;rw[SY] at q;cases q;rfl
 constructor
 .refine⟨λb o v hb=>?_,λFv y HX hy=>?_,λFv cs hc b hb=>?_,λFv e hc b hb=>?_,λFv b hb=>by simpa using hi.mu Fv b hb,λb x hx=>?_,λb n hb=>?_⟩;rotate_left 5
  .obtain⟨⟨lF,i,jf,p,q⟩,r⟩:=hi.sz b n hb;have hne:b≠g:=λhe=>by subst he;obtain⟨f,d,j,_⟩:=hi.map id es QX b hg;rw[p] at j;cases j
   exact⟨⟨lF,i,jf,by rw[c b hne];exact p,q⟩,r⟩
  .obtain⟨p,q,r⟩:=hi.HW b o v hb;have:b≠g:=λhe=>by subst he;rw[SY] at r;rcases r with r|⟨_,_,_,r,_⟩<;>cases r
   exact⟨by rw[CI (w:=w) (c b this)];exact p,q,r⟩
  .by_cases he:Fv=id;.subst he;exact⟨g,hg,SY⟩
   .rw[Ao (λx=>he x.symm)] at HX;exact hi.Me Fv y HX hy
  .by_cases he:Fv=id;.subst he;rw[AA (hi.mu _ _ hg)] at hc;cases hc
   .rw[Ao (λx=>he x.symm)] at hc;have PV:b≠g:=λhx=>by subst hx;exact he (uniq Fv _ hc Ax hb)
    obtain⟨lF,i,jf,p,pf,q,r⟩:=hi.cells Fv cs hc b hb;exact⟨lF,i,jf,by rw[c b PV];exact p,pf,q,r⟩
  .by_cases he:Fv=id;.subst he;rw[hg] at hb;cases hb;rw[AA (hi.mu _ _ hg)] at hc;cases hc;exact⟨ents',clock',M2,hr⟩
   .rw[Ao (λx=>he x.symm)] at hc;have PV:b≠g:=λhx=>by subst hx;exact he (uniq Fv _ hc Ax hb)
    obtain⟨C5,clock,p,q⟩:=hi.map Fv e hc b hb;exact⟨C5,clock,by rw[c b PV];exact p,q⟩
  .have:=hi.BM b x hx;simpa using this
 .refine⟨.refl _,Ax,rfl,rfl,rfl,λb hb hn=>⟨?_,rfl⟩⟩;exact c b (λhe=>by subst he;exact hn id SY)
def QY(hr:CX C γ0 w0 γ Z U h a w){x y z:Operand}{d c b:Aa}(ha:Bm C U [x,y,z]=some [d,c,b]):BI γ d (a.eval x)/\BI γ c (a.eval y)/\BI γ b (a.eval z):=by obtain⟨_,_,_,e,h1,h2,f⟩:=(DE hr ha).YZ;simp only[A0,Dc,EE,Mb] at e;obtain⟨rfl,rfl,rfl⟩:=e;exact⟨h1,h2,f⟩
def gF{o:Oper}{t kt e:TypeId}{m k x:Operand}{l n f:Aa}{h':Ah}(ho:o.op= .insert t m k x\/o.op= .mapUpdate t m k x)(hd:o.dst=none)(ht:C.P.underlying t=some (.map kt e))(hk:C.P.underlying kt=some .string)(ha:Bm C U [m,k,x]=some [l,n,f])
  (hm:Qs h l n f=some h') (hr:CX C γ0 w0 γ Z U h a w):Fy C γ0 w0 o a w U h':=by
 obtain⟨h1,h2,u⟩:=QY hr ha;have Mg:∀w',(Instr.mapUpdate t (a.eval m) (a.eval k) (a.eval x)).run C.P w= .ok () w'->(execOp a.eval o).run C.P w= .ok .skip w':=λw' AG=>by rcases ho with ho|ho<;>simp[execOp,ho,AG]
 unfold Qs at hm;split at hm
 .rename_i id s;obtain⟨b,hb,zU⟩:=h1;have ţ:a.eval k= .string ⟨⟨s⟩⟩:=h2;split at hm
  .rename_i es QX;cases hp:MZ s f es with
   |none=>rw[hp] at hm;cases hm
   |some T2=>
    rw[hp] at hm;cases hm;obtain⟨C5,clock,hw,r,hB⟩:=hr.DI.map id es QX b hb;have zV:(Instr.checkKey false 10000 kt (.string ⟨⟨s⟩⟩)).run C.P w= .ok () w:=MapKept.run_checkKey (k:= .string ⟨⟨s⟩⟩) hk (by simp[MapKept.IsKey]) false 9999;rcases rN u (i:=0) r hp with⟨c,g⟩|⟨j,en,c,g,q,p⟩
    .have AG:(Instr.mapUpdate t (a.eval m) (a.eval k) (a.eval x)).run C.P w= .ok () {w with heap:=w.heap.setIfInBounds b (.map (C5.push {key:= .string ⟨⟨s⟩⟩,val:=a.eval x,born:=clock}) (clock+1))}:=by rw[zU,ţ];simp[Instr.mapUpdate,run_underlying ht,MapKept.run_getObj_map hw,zV,MapKept.run_findKey hk c,MapKept.run_setObj_map _ hw,Result.andThen]
     obtain⟨hi,JI⟩:=M7 (T2:=T2) (ents':=C5.push {key:= .string ⟨⟨s⟩⟩,val:=a.eval x,born:=clock}) (clock':=clock+1) hr.DI QX hb hw ⟨by simpa using g clock,Th hB⟩;exact Fy.skip (Mg _ AG) (by rw[hd];exact hr.IB hi JI)
    .have hj:C5[j]?=some en:=by simpa using g
     rw[BC] at c;have AG:(Instr.mapUpdate t (a.eval m) (a.eval k) (a.eval x)).run C.P w= .ok () {w with heap:=w.heap.setIfInBounds b (.map (C5.modify j λe=>{e with key:= .string ⟨⟨s⟩⟩,val:=a.eval x}) clock)}:=by rw[zU,ţ];simp[Instr.mapUpdate,run_underlying ht,MapKept.run_getObj_map hw,zV,MapKept.run_findKey hk c,hj,q,MapKept.run_keyThatStays (d:= .string) (k:= .string ⟨⟨s⟩⟩) (by simp[MapKept.IsKey]),MapKept.run_setObj_map _ hw,Result.andThen]
     obtain⟨hi,JI⟩:=M7 (T2:=T2) (ents':=C5.modify j λe=>{e with key:= .string ⟨⟨s⟩⟩,val:=a.eval x}) (clock':=clock) hr.DI QX hb hw ⟨by simpa using p,T7 hB λ_=>rfl⟩;exact Fy.skip (Mg _ AG) (by rw[hd];exact hr.IB hi JI)
  .cases hm
 .cases hm
def jz{o:Oper}{t:TypeId}(ho:o.op= .makeMap t none)(hr:CX C γ0 w0 γ Z U h a w):Fy C γ0 w0 o a w (U.put o.dst (.val (.map (some h.length)))) (h++[.map []]):=by
 obtain⟨hi,ha⟩:=NH hr.DI (.map #[] 0) (.map []) none (.inr ⟨rfl,rfl,rfl⟩);have AG:(Instr.makeMap t none).run C.P w= .ok (.map (some w.heap.size)) (w.alloc (.map #[] 0)):=by simp[Instr.makeMap]
 exact Fy.value (by simp only[execOp,ho];exact Dg AG) ((hr.IB hi ha).put λ_ _=>⟨w.heap.size,by simp[Gh.B0],rfl⟩)
def KG(key elem:TypeId)(index:Value)(commaOk:Bool)(es:Array MapEntry):Sem Value:=do
 Instr.checkKey es.isEmpty 10000 key index
 let(v,ok)<-match<-Instr.findKey key index es.toList with
  |some (_,v)=>pure (v,true)
  |none=>pure (<-zeroValue elem,false)
 pure (if commaOk then .tuple #[v,.bool ok] else v)
def j_{o:Oper}{t kt e:TypeId}{m k:Operand}{d f z r:Aa}{ok:Bool}(ho:o.op= .lookup t m k ok)(ht:C.P.underlying t=some (.map kt e))(hk:C.P.underlying kt=some .string)(hz:GA C.P e=some z)(ha:Bm C U [m,k]=some [d,f])(hm:Oo h z ok d f=some r)(hr:CX C γ0 w0 γ Z U h a w):
  Fy C γ0 w0 o a w (U.put o.dst (.val r)) h:=by
 obtain⟨_,_,e0,h1,h2⟩:=EP hr ha;cases e0;obtain⟨g,fx,Ť⟩:=HH hz;have ID:∀(es:Array MapEntry) (q:Option Aa),(Instr.lookup t (a.eval m) (a.eval k) ok).run C.P w=(KG kt e (a.eval k) ok es).run C.P w->
   ∀s,a.eval k= .string ⟨⟨s⟩⟩->(match q with|none=>Instr.findNow .string (.string ⟨⟨s⟩⟩) es.toList 0=some none|some v=>∃(j:Nat) (e:MapEntry),Instr.findNow .string (.string ⟨⟨s⟩⟩) es.toList 0=some (some (0+j,e.val))/\BI γ v e.val)->
   (match q with|some v=>if ok then Aa.tuple [v,.bool true] else v|none=>if ok then .tuple [z,.bool false] else z)=r->Fy C γ0 w0 o a w (U.put o.dst (.val r)) h:=by
  intro es q QX s ym hq T6;have zV:(Instr.checkKey es.isEmpty 10000 kt (.string ⟨⟨s⟩⟩)).run C.P w= .ok () w:=MapKept.run_checkKey (k:= .string ⟨⟨s⟩⟩) hk (by simp[MapKept.IsKey]) es.isEmpty 9999;have AG:∃v,(Instr.lookup t (a.eval m) (a.eval k) ok).run C.P w= .ok v w/\BI γ r v:=by
   cases q with
   |none=>
    refine⟨if ok then .tuple #[g,.bool false] else g,?_,?_⟩;.rw[QX,ym];unfold KG;simp only[Sem.run_bind,Result.andThen_ok,zV,MapKept.run_findKey hk hq,Ť,Sem.run_bind,Sem.run_pure]
    .rw[<-T6];have c:=E2 (γ:=γ) fx;cases ok with
     |true=>exact⟨_,rfl,_,_,rfl,c,_,_,rfl,rfl,rfl⟩
     |false=>exact c
   |some v=>
    obtain⟨j,en,n,l⟩:=hq;refine⟨if ok then .tuple #[en.val,.bool true] else en.val,?_,?_⟩;.rw[QX,ym];unfold KG;simp only[Sem.run_bind,Result.andThen_ok,zV,MapKept.run_findKey hk n,Sem.run_bind,Sem.run_pure]
    .rw[<-T6];cases ok with
     |true=>exact⟨_,rfl,_,_,rfl,l,_,_,rfl,rfl,rfl⟩
     |false=>exact l
  obtain⟨v,AG,rL⟩:=AG;exact Fy.value (by simp only[execOp,ho];exact Dg AG) (hr.put λ_ _=>rL)
 unfold Oo at hm;cases hf:S4 h d f with
 |none=>rw[hf] at hm;cases hm
 |some q=>
  rw[hf] at hm;simp only[Bt,Bx] at hm;unfold S4 at hf;split at hf;.rename_i s;cases hf;exact ID #[] none (by rw[show a.eval m=_ from h1];simp only[Instr.lookup,KG,Sem.run_bind,run_underlying ht,Result.andThen_ok,Sem.run_pure];rfl) s h2 rfl hm
  .rename_i id s;obtain⟨b,hb,zU⟩:=h1;split at hf;.rename_i es QX;obtain⟨C5,clock,hw,p,_⟩:=hr.DI.map id es QX b hb;exact ID C5 q (by rw[zU];simp only[Instr.lookup,KG,Sem.run_bind,run_underlying ht,MapKept.run_getObj_map hw,Result.andThen_ok,Sem.run_pure];rfl) s h2 (gE (i:=0) p hf) hm
   .cases hf
  .cases hf
def We{size:Nat}{v:Aa}(h:NB size v=true):v= .slnil\/v= .EC size\/v= .sl size []:=by
 unfold NB at h;split at h;.exact .inl rfl
 .exact .inr (.inl (by simpa using h))
 .exact .inr (.inr (by simpa using h))
 .cases h
def zW{o:Oper}{c:Call}{t t' e:TypeId}{n b:Nat}{s x:Operand}{v u r:Aa}{h':Ah}(ho:o.op= .call c)(hc:c.callee= .builtin .append)(h0:c.argTypes[0]?=some t)(h1:c.argTypes[1]?=some t')(Ep:c.args.toList=[s,x])(ht:C.P.underlying t=some (.slice e))
  (Ir:(∃G,C.P.underlying t'=some (.slice G))\/C.P.underlying t'=some .string) (K8:BR C.P e=some (n+1)) (ju:JD C.P e=some (b+1)) (Fp:KP C U s=true) (eY:LM C.P e=true) (hv:Bm C U [s,x]=some [v,u])
  (hp:Kg h (n+1) (b+1) v u=some (h',r)) (hr:CX C γ0 w0 γ Z U h a w):Fy C γ0 w0 o a w ((U.Dt (C3 U s)).put o.dst (.val r)) h':=by
 obtain⟨i,z,hi,hz,aI⟩:=KT eY;have Qi:=Jp K8 hi;have Ş:=Lo ju hi;obtain⟨_,_,e0,hvs,lH⟩:=EP hr hv;cases e0;have jq:EF C U s=some v:=by
  unfold Bm at hv;split at hv;.rename_i p ps I K;cases hv;exact I
  .cases hv
 have IC:NB (n+1) v=true/\((∃Aw,Ht (n+1) (b+1) .slnil u=some (.sl (n+1) Aw)/\Aw≠[]/\u= .sl (n+1) Aw/\Aw.length*(b+1)<=AK/\h'=h++[.cells Aw.flatten]/\r= .CW h.length 0 Aw.length (n+1))\/((u= .slnil\/(∃B,u= .EC B)\/∃B,u= .sl B [])/\h'=h/\r=v)):=by
  unfold Kg at hp;split at hp
  .rename_i B Aw;split at hp
   .rename_i Vh;refine⟨Vh,?_⟩;split at hp;.cases hp;exact .inr ⟨.inr (.inr ⟨_,rfl⟩),rfl,rfl⟩
    .rename_i hne;split at hp
     .rename_i Hw;cases hp;obtain⟨rfl,hb⟩:=Hw;refine .inl ⟨Aw,?_,hne,rfl,hb,rfl,rfl⟩;cases Aw with
      |nil=>exact absurd rfl hne
      |cons q Aw=>simp only[Ht,Dl,BD];rw[Af hb]
     .cases hp
   .cases hp
  .split at hp;.rename_i Vh;cases hp;exact⟨Vh,.inr ⟨.inl rfl,rfl,rfl⟩⟩
   .cases hp
  .split at hp;.rename_i Vh;simp only[AO] at Vh;cases hp;exact⟨Vh.1,.inr ⟨.inr (.inl ⟨_,rfl⟩),rfl,rfl⟩⟩
   .cases hp
  .cases hp
 obtain⟨Vh,IC⟩:=IC;obtain⟨F,Ek,Jz,Gc,m⟩:=O3 hr Fp jq (U.Dt (C3 U s)).length none;have J7:c.args.map a.eval=#[a.eval s,a.eval x]:=by apply Gf;simp[Ep]
 have Mg:∀v' w',(Builtin.append_ #[t,t'] o.type #[a.eval s,a.eval x]).run C.P w= .ok v' w'->(execOp a.eval o).run C.P w= .ok (.value v') w':=λv' w' AG=>by
  have:execOp a.eval o=(do pure (Next.value (<-Builtin.append_ #[t,t'] o.type #[a.eval s,a.eval x]))):=by rw[<-J7,<-NQ (ty:=o.type) h0 h1];simp only[execOp,ho,resolve,hc];rfl
  rw[this];exact Dg AG
 have rO:(a.eval s= .slice none 0 0/\v= .slnil)\/(∃g cap us y,a.eval s= .slice (some ⟨g,0,none⟩) 0 cap/\v= .sl (n+1) []/\F.BM g=some (.tail (U.Dt (C3 U s)).length none 0)/\w0.heap.size<=g/\w.heap[g]?=some (.cells us y (0,0))/\us.size=cap*(n+1)/\cap<=maxLen)\/∃g,a.eval s= .slice (some ⟨g,0,none⟩) 0 0/\v= .EC (n+1):=by
  rcases m with(m|⟨H,m⟩)|⟨g,k,cap,us,y,H,rr,mL,Jb,SY,hB,hg,YU,yf,hm,J⟩
  .rw[m] at Gc;exact .inl ⟨Gc,m⟩
  .rcases We Vh with lJ|lJ|lJ
   .rw[lJ] at m;cases m
   .rw[lJ] at Gc;obtain⟨g,Gc⟩:=Gc;exact .inr (.inr ⟨g,Gc,lJ⟩)
   .rw[lJ] at m;cases m
  .rcases We Vh with lJ|lJ|lJ
   .rw[lJ] at mL;cases mL
   .rw[lJ] at mL;cases mL
   .rw[lJ] at mL;cases mL;have hk:k=0:=by rw[lJ,Jb] at Gc;obtain⟨A,f,gC,_⟩:=Gc;simp only[Value.slice.injEq] at gC;exact gC.2.1
    subst hk;exact .inr (.inl ⟨g,cap,us,y,Jb,lJ,by simpa using SY,hB,hg,YU,hm⟩)
 rcases IC with⟨Aw,IV,hne,D,SZ,rfl,rfl⟩|⟨D,rfl,rfl⟩
 .obtain⟨d,news,O5,J8,ĕ,mJ⟩:=rM (w:=w) Ir hr.DI lH IV;have gG:d=Aw:=by
   cases d with
   |nil=>simp[Dl] at O5
   |cons q d=>
    simp only[Dl] at O5;split at O5;.cases O5;rfl
    .cases O5
  subst gG;have jv:=AV.mono Ek _ _ ĕ;have JH:Src C.P i.size t' (a.eval x) d.length news w:=by rw[Qi];exact J8
  have Qj:news.length=d.length*(n+1):=J8.newsLen;have Im:d.flatten.length=news.length:=by rw[ĕ.length]
  have hpos:0<d.length:=Ef.2 hne;have PV:d.length<=AK:=Bp (Ik _ (CT b)) SZ;have FQ:∀(base:Option Addr) (cap:Nat),a.eval s= .slice base 0 cap->(Builtin.firstCells i.size 0 (.slice base 0 cap)).run C.P w.drew= .ok #[] w.drew->cap<d.length->
    Fy C γ0 w0 o a w ((U.Dt (C3 U s)).put o.dst (.val (.CW h.length 0 d.length (n+1)))) (h++[.cells d.flatten]):=by
   intro base cap hs l hlt;have FT:=run_append_grow_src (P:=C.P) w t t' o.type e i z ht hi hz base 0 cap [] l (a.eval x) d.length news JH Ac (by simp only[AK] at PV;omega) (by rw[Ş,BC];exact growslice_fits hlt SZ);rw[<-hs,BC] at FT;have Hh:=grownCap_ge w d.length cap e;have T8:(([]++news).toArray++Builtin.zeroCells z.cells (grownCap w d.length cap e-d.length)).toList.take d.flatten.length=news:=by simp only[Gw,BO];rw[Im];exact Fa
   have ka:(([]++news).toArray++Builtin.zeroCells z.cells (grownCap w d.length cap e-d.length)).size=grownCap w d.length cap e*(n+1):=by simp only[Jw,B3,size_zeroCells,aI,Qi,BO,Qj,<-BE];congr 1;omega
   obtain⟨E,gA,UQ,LQ,UR⟩:=Jz.drew.newObj (([]++news).toArray++Builtin.zeroCells z.cells (grownCap w d.length cap e-d.length)) e (0,0) d.flatten (.inl rfl) (by rw[T8];exact jv) (by rw[T8];exact J8.one);exact Fy.value (Mg _ _ FT) (LQ.put λ_ _=>⟨w.heap.size,_,UQ,rfl,Hh,⟨CT n,grownCap_le_maxLen w _ _ _ (by simp only[AK] at PV;simp only[maxLen];omega)⟩,by rw[BC,<-ka];exact UR⟩)
  rcases rO with⟨Jb,rfl⟩|⟨g,cap,us,y,Jb,rfl,SY,hB,hg,YU,yn⟩|⟨g,Jb,rfl⟩
  rotate_left 2;.exact FQ (some ⟨g,0,none⟩) 0 Jb (by simpa using run_firstCells_some (P:=C.P) w.drew i.size 0 ⟨g,0,none⟩ 0 0 [] Ax Ax) hpos
  .exact FQ none 0 Jb (run_firstCells_none _ _ _ _ _) hpos
  .by_cases hroom:d.length<=cap
   .have hfit:news.length<=us.size:=by rw[Qj,YU];exact DW _ hroom
    have AG:=run_append_room_src (P:=C.P) w t t' o.type e i ht hi g 0 0 cap (a.eval x) d.length news JH Ac (λj hj=>by rw[cell_of_row w _ _ us y (0,0) hg,Qi,Cm Ac];rfl) (λj hj=>frozen_of_row w _ _ us y hg)
    rw[L9,BC,BC,Eo news 0 us w hg Ac,<-Jb] at AG;have T8:((us.toList.take 0++news++us.toList.drop (0+news.length)).toArray).toList.take d.flatten.length=news:=by simp only[Ma,BO];rw[Im];exact Fa
    obtain⟨E,gA,UQ,LQ,UR⟩:=Jz.aEu SY hB hg (us.toList.take 0++news++us.toList.drop (0+news.length)).toArray d.flatten (by rw[T8];exact jv) (by rw[T8];exact J8.one);exact Fy.value (Mg _ _ AG) (LQ.put λ_ _=>⟨g,cap,UQ,rfl,hroom,⟨CT n,yn⟩,by rw[UR,BC,<-YU];simp;omega⟩)
   .exact FQ (some ⟨g,0,none⟩) cap Jb (by simpa using run_firstCells_some (P:=C.P) w.drew i.size 0 ⟨g,0,none⟩ 0 cap [] Ax Ax) Ac
 .have J8:Src C.P i.size t' (a.eval x) 0 [] w:=by
   rcases D with rfl|⟨B,rfl⟩|⟨B,rfl⟩
   .rw[show a.eval x=_ from lH];exact⟨Ir,λ_=>rfl,run_firstCells_none w _ 0 0 0,run_firstCells_none w.drew _ 0 0 0,Ax,Ax⟩
   .obtain⟨g0,gC⟩:=lH;rw[gC];exact⟨Ir,λ_=>rfl,by simpa using run_firstCells_some (P:=C.P) w i.size 0 ⟨g0,0,none⟩ 0 0 [] Ax Ax,by simpa using run_firstCells_some (P:=C.P) w.drew i.size 0 ⟨g0,0,none⟩ 0 0 [] Ax Ax,Ax,Ax⟩
   .obtain⟨A,f,gC,_⟩:=lH;rw[gC];exact⟨Ir,λ_=>rfl,by simpa using run_firstCells_some (P:=C.P) w i.size 0 A 0 f [] Ax Ax,by simpa using run_firstCells_some (P:=C.P) w.drew i.size 0 A 0 f [] Ax Ax,Ax,Ax⟩
  rcases rO with⟨Jb,rfl⟩|⟨g,cap,us,y,Jb,rfl,SY,hB,hg,YU,yn⟩|⟨g,Jb,rfl⟩
  rotate_left 2;.have AG:=run_append_room_src (P:=C.P) w t t' o.type e i ht hi g 0 0 0 (a.eval x) 0 [] J8 Ac Ax Ax;rw[<-Jb] at AG;simp only[World.setCells] at AG;exact Fy.value (Mg _ _ AG) (Jz.put λ_ _=>Gc)
  .have AG:(Builtin.append_ #[t,t'] o.type #[a.eval s,a.eval x]).run C.P w= .ok (.slice none 0 0) w:=by rw[Jb];have hl:=J8.len;have Vi:=J8.cells;rcases Ir with⟨G,hk⟩|hk<;>simp[Builtin.append_,run_underlying ht,run_underlying hk,sizeOf,typeInfo,hi,hl,Vi]
   exact Fy.value (Mg _ _ AG) (Jz.put λ_ _=>rfl)
  .have AG:=run_append_room_src (P:=C.P) w t t' o.type e i ht hi g 0 0 cap (a.eval x) 0 [] J8 Ac Ax Ax;rw[<-Jb] at AG;simp only[World.setCells] at AG;exact Fy.value (Mg _ _ AG) (Jz.put λ_ _=>Gc)
def CX.kill(hr:CX C γ0 w0 γ Z U h a w)(id:Nat):CX C γ0 w0 γ Z U (h.set id .Ds) a w:=by
 have key:∀{Fv:Nat} {x:Ej},(h.set id .Ds)[Fv]?=some x->x≠ .Ds->h[Fv]?=some x:=λ{Fv x} hx hd=>by
  by_cases he:id=Fv
  .subst he;rw[aOM] at hx;simp only[BD] at hx;split at hx;.cases hx;exact absurd rfl hd
   .cases hx
  .rwa [Ao he] at hx
 exact⟨⟨hr.DI.HW,λFv y HX hy=>hr.DI.Me Fv y (key HX hy) hy,λFv cs hc b hb=>hr.DI.cells Fv cs (key hc Ax) b hb,λFv es hc b hb=>hr.DI.map Fv es (key hc Ax) b hb,λFv b hb=>by simpa using hr.DI.mu Fv b hb,hr.DI.BM,hr.DI.sz⟩,hr.fr,hr.DD,hr.defers,hr.Gy⟩
def CX.kb(hr:CX C γ0 w0 γ Z U h a w){id g:Nat}{cs:List Aa}(hcs:h[id]?=some (.cells cs))(hg:γ.mu id=some g){us:Array Value}{e:TypeId}{fr:Nat×Nat}(hw:w.heap[g]?=some (.cells us e fr))(US:γ.sz g=some us.size)(Dq:Array Value)(Gx:List Aa)(YU:Dq.size=us.size)(rF:Tc fr Dq.size)
  (hv:AV γ Gx (Dq.toList.take Gx.length)) (h1:∀u∈Dq.toList.take Gx.length,u.oneCell'=true):∃γ',γ.le γ'/\γ'.mu h.length=some g/\CX C γ0 w0 γ' Z U (h.set id .Ds++[.cells Gx]) a (w.setRow g Dq)/\γ'.sz g=some us.size:=by
 obtain⟨f,p,SY⟩:=hr.DI.Me id _ hcs Ax;rw[hg] at p;cases p;have yo:id<h.length:=hr.DI.mu _ _ hg;have c:γ.mu h.length=none:=by
  cases hc:γ.mu h.length with
  |none=>rfl
  |some y=>exact absurd (hr.DI.mu _ y hc) (Dd _)
 have uniq:∀Fv x,h[Fv]?=some x->x≠ .Ds->γ.mu Fv=some g->Fv=id:=λFv x hx Ŗ hm=>by obtain⟨b',p,q⟩:=hr.DI.Me Fv x hx Ŗ;rw[hm] at p;cases p;rw[SY] at q;cases q;rfl
 have Ek:γ.le (γ.B0 g h.length (some us.size)):=⟨λ_ _ _ hv=>hv,λFv b hm=>by
  have:Fv≠h.length:=λhe=>by rw[he,c] at hm;cases hm
  simp only[Gh.B0,Ag this];exact hm,λb n hm=>by
  by_cases he:b=g;.subst he;rw[US] at hm;cases hm;simp[Gh.B0]
  .simp only[Gh.B0,Ag he];exact hm⟩
 have old:∀{Fv:Nat} {x:Ej},(h.set id .Ds++[Ej.cells Gx])[Fv]?=some x->x≠ .Ds->Fv≠h.length->h[Fv]?=some x/\Fv≠id:=λ{Fv x} hx hd hne=>by
  have hlt:Fv<(h.set id .Ds).length:=by rw[Aj] at hx;obtain⟨hl,_⟩:=hx;simp at hl⊢;omega
  rw[An hlt] at hx;by_cases he:id=Fv;.subst he;rw[AA (by simpa using hlt)] at hx;cases hx;exact absurd rfl hd
  .rw[Ao he] at hx;exact⟨hx,λh=>he h.symm⟩
 have aJi:Hi (γ.B0 g h.length (some us.size)) (h.set id .Ds++[.cells Gx]) (w.setRow g Dq):=by
  refine⟨λb o v hb=>?_,λFv y HX hy=>?_,λFv RS hc b hb=>?_,λFv es hc b hb=>?_,λFv b hb=>?_,λb y hy=>?_,λb n hb=>?_⟩
  .obtain⟨p,q,r⟩:=hr.DI.HW b o v hb;have NG:b≠g:=λhe=>by subst he;rw[SY] at r;rcases r with r|⟨_,_,_,r,_⟩<;>cases r
   exact⟨by rw[CI (setRow_other w g b Dq NG)];exact p,q,by simp only[Gh.B0,Ag NG];exact r⟩
  .by_cases he:Fv=h.length;.exact⟨g,by simp[Gh.B0,he],by simp[Gh.B0,he]⟩
   .obtain⟨zX,hne⟩:=old HX hy he;obtain⟨b,p,q⟩:=hr.DI.Me Fv y zX hy;have NG:b≠g:=λhx=>by subst hx;exact hne (uniq Fv y zX hy p)
    exact⟨b,by simp only[Gh.B0,Ag he];exact p,by simp only[Gh.B0,Ag NG];exact q⟩
  .by_cases he:Fv=h.length;.subst he;simp[Gh.B0] at hb;subst hb;rw[Bn Ax] at hc;simp at hc;subst hc;exact⟨Dq,e,fr,setRow_heap w g us Dq e fr hw,rF,AV.mono Ek _ _ hv,h1⟩
   .simp only[Gh.B0,Ag he] at hb;obtain⟨K9,hne⟩:=old hc Ax he;have NG:b≠g:=λhx=>by subst hx;exact hne (uniq Fv _ K9 Ax hb)
    obtain⟨lF,d,jf,p,pf,q,r⟩:=hr.DI.cells Fv RS K9 b hb;exact⟨lF,d,jf,by rw[setRow_other w g b Dq NG];exact p,pf,AV.mono Ek _ _ q,r⟩
  .by_cases he:Fv=h.length;.subst he;rw[Bn Ax] at hc;simp at hc
   .simp only[Gh.B0,Ag he] at hb;obtain⟨K9,hne⟩:=old hc Ax he;have NG:b≠g:=λhx=>by subst hx;exact hne (uniq Fv _ K9 Ax hb)
    obtain⟨C5,clock,p,q⟩:=hr.DI.map Fv es K9 b hb;exact⟨C5,clock,by rw[setRow_other w g b Dq NG];exact p,q.mono Ek⟩
  .by_cases he:Fv=h.length;.simp[he]
   .simp only[Gh.B0,Ag he] at hb;have:=hr.DI.mu Fv b hb;simp;omega
  .by_cases NG:b=g;.subst NG;have:=hr.DI.BM _ _ SY;simpa[World.setRow] using this
   .simp only[Gh.B0,Ag NG] at hy;have:=hr.DI.BM b y hy;simpa[World.setRow] using this
  .by_cases he:b=g;.subst he;simp only[Gh.B0,BD] at hb;cases hb;exact⟨⟨Dq,e,fr,setRow_heap w b us Dq e fr hw,YU⟩,.inr ⟨h.length,by simp[Gh.B0]⟩⟩
   .simp only[Gh.B0,Ag he] at hb⊢;obtain⟨p,r⟩:=hr.DI.sz b n hb;exact⟨by rw[setRow_other w g b Dq he];exact p,r⟩
 refine⟨_,Ek,by simp[Gh.B0],hr.IB aJi ⟨Ek,by simp[World.setRow],rfl,rfl,rfl,λb hb hn=>?_⟩,by simp[Gh.B0]⟩;have NG:b≠g:=λhe=>by subst he;exact hn id SY
 exact⟨setRow_other w g b Dq NG,by simp only[Gh.B0,Ag NG]⟩
def ke{o:Oper}{c:Call}{t t' e:TypeId}{n b:Nat}{s x:Operand}{v u r:Aa}{h':Ah}(ho:o.op= .call c)(hc:c.callee= .builtin .append)(h0:c.argTypes[0]?=some t)(h1:c.argTypes[1]?=some t')(Ep:c.args.toList=[s,x])(ht:C.P.underlying t=some (.slice e))
  (Ir:(∃I,C.P.underlying t'=some (.slice I))\/C.P.underlying t'=some .string) (K8:BR C.P e=some (n+1)) (ju:JD C.P e=some (b+1)) (eY:LM C.P e=true) (hv:Bm C U [s,x]=some [v,u])
  (hp:FT h (n+1) (b+1) v u=some (h',r)) (hr:CX C γ0 w0 γ Z U h a w):Fy C γ0 w0 o a w (U.put o.dst (.val r)) h':=by
 obtain⟨i,z,hi,hz,aI⟩:=KT eY;have Qi:=Jp K8 hi;have Ş:=Lo ju hi;obtain⟨_,_,e0,hvs,lH⟩:=EP hr hv;cases e0;have J7:c.args.map a.eval=#[a.eval s,a.eval x]:=by apply Gf;simp[Ep]
 have Mg:∀v' w',(Builtin.append_ #[t,t'] o.type #[a.eval s,a.eval x]).run C.P w= .ok v' w'->(execOp a.eval o).run C.P w= .ok (.value v') w':=λv' w' AG=>by
  have:execOp a.eval o=(do pure (Next.value (<-Builtin.append_ #[t,t'] o.type #[a.eval s,a.eval x]))):=by rw[<-J7,<-NQ (ty:=o.type) h0 h1];simp only[execOp,ho,resolve,hc];rfl
  rw[this];exact Dg AG
 unfold FT at hp;cases hq:Gb h (n+1) u with
 |none=>rw[hq] at hp;cases hp
 |some Aw=>
  rw[hq] at hp;obtain⟨news,J8,Vh,mJ⟩:=Wa (w:=w) Ir hr.DI lH hq;have JH:Src C.P i.size t' (a.eval x) Aw.length news w:=by rw[Qi];exact J8
  have Qj:news.length=Aw.length*(n+1):=J8.newsLen;have Im:Aw.flatten.length=news.length:=by rw[Vh.length]
  cases Aw with
  |nil=>
   have jh:news=[]:=CN (by simpa using Qj);subst jh;cases v with
   |slnil=>
    cases hp;have Jb:a.eval s= .slice none 0 0:=hvs;have AG:(Builtin.append_ #[t,t'] o.type #[a.eval s,a.eval x]).run C.P w= .ok (.slice none 0 0) w:=by rw[Jb];have hl:=JH.len;have Vi:=JH.cells;simp only[Br] at hl Vi;rcases Ir with⟨I,hk⟩|hk<;>simp[Builtin.append_,run_underlying ht,run_underlying hk,sizeOf,typeInfo,hi,hl,Vi]
    exact Fy.value (Mg _ _ AG) (hr.put λ_ _=>rfl)
   |EC B=>
    simp only at hp;split at hp;.cases hp;obtain⟨g,Jb⟩:=(show BI γ _ _ from hvs);have AG:=run_append_room_src (P:=C.P) w t t' o.type e i ht hi g 0 0 0 (a.eval x) 0 [] JH Ac Ax Ax;rw[<-Jb] at AG;simp only[World.setCells,Bl] at AG;exact Fy.value (Mg _ _ AG) (hr.put λ_ _=>⟨g,Jb⟩)
    .cases hp
   |CW id off k B=>
    simp only at hp;split at hp;.cases hp;obtain⟨g,cap,hg,Jb,yf,fw,US⟩:=(show BI γ _ _ from hvs);have AG:=run_append_room_src (P:=C.P) w t t' o.type e i ht hi g off k cap (a.eval x) 0 [] JH Ac Ax Ax;rw[<-Jb] at AG;simp only[World.setCells,Bl] at AG;exact Fy.value (Mg _ _ AG) (hr.put λ_ _=>⟨g,cap,hg,rfl,yf,fw,US⟩)
    .cases hp
   |_=>cases hp
  |cons J l=>
   generalize hR:J::l=Aw at*;have hpos:0<Aw.length:=by rw[<-hR];simp
   have d:∀(h2:Ah) (base:Option Addr) (k cap:Nat) (Ti:List Aa) (olds:List Value),CX C γ0 w0 γ Z U h2 a w->a.eval s= .slice base k cap->AV γ Ti olds->olds.length=k*(n+1)->(∀q∈olds,q.oneCell'=true)->
     (Builtin.firstCells i.size k (.slice base k cap)).run C.P w.drew= .ok olds.toArray w.drew->cap<k+Aw.length->(k+Aw.length)*(b+1)<=AK->
     Fy C γ0 w0 o a w (U.put o.dst (.val (.CW h2.length 0 (k+Aw.length) (n+1)))) (h2++[.cells (Ti++Aw.flatten)]):=by
    intro h2 base k cap Ti olds LQ hs aEw ye Ś f hlt SZ;have PV:k+Aw.length<=AK:=Bp (Ik _ (CT b)) SZ;have FT:=run_append_grow_src (P:=C.P) w t t' o.type e i z ht hi hz base k cap olds f (a.eval x) Aw.length news JH hlt (by simp only[AK] at PV;omega) (by rw[Ş];exact growslice_fits hlt SZ);rw[<-hs] at FT;have Hh:=grownCap_ge w (k+Aw.length) cap e;have zR:(olds++news).length=(k+Aw.length)*(n+1):=by rw[Ap,ye,Qj,BE]
    have rJ:(Ti++Aw.flatten).length=(olds++news).length:=by rw[Ap,Ap,aEw.length,Im]
    have ka:((olds++news).toArray++Builtin.zeroCells z.cells (grownCap w (k+Aw.length) cap e-(k+Aw.length))).size=grownCap w (k+Aw.length) cap e*(n+1):=by simp only[Jw,B3,size_zeroCells,aI,Qi,zR,<-BE];congr 1;omega
    have T8:((olds++news).toArray++Builtin.zeroCells z.cells (grownCap w (k+Aw.length) cap e-(k+Aw.length))).toList.take (Ti++Aw.flatten).length=olds++news:=by simp only[Gw];rw[rJ];exact Fa
    obtain⟨A,gA,UQ,ş,UR⟩:=LQ.drew.newObj ((olds++news).toArray++Builtin.zeroCells z.cells (grownCap w (k+Aw.length) cap e-(k+Aw.length))) e (0,0) (Ti++Aw.flatten) (.inl rfl) (by rw[T8];exact aEw.append Vh) (by rw[T8];intro q hq;exact(Aq.1 hq).elim (Ś q) (J8.one q))
    exact Fy.value (Mg _ _ FT) (ş.put λ_ _=>⟨w.heap.size,_,UQ,rfl,Hh,⟨CT n,grownCap_le_maxLen w _ _ _ (by simp only[AK] at PV;simp only[maxLen];omega)⟩,by rw[BC,<-ka];exact UR⟩)
   cases v with
   |slnil=>
    have Jb:a.eval s= .slice none 0 0:=hvs;rw[<-hR] at hp;simp only at hp;rw[hR] at hp;split at hp;.rename_i SZ;cases hp;have:=d h none 0 0 [] [] hr Jb rfl Ax Ax (run_firstCells_none _ _ _ _ _) Ac (by simpa using SZ);simpa using this
    .cases hp
   |EC B=>
    obtain⟨g,Jb⟩:=(show BI γ _ _ from hvs);rw[<-hR] at hp;simp only at hp;rw[hR] at hp;split at hp;.rename_i SZ;cases hp;have:=d h (some ⟨g,0,none⟩) 0 0 [] [] hr Jb rfl Ax Ax (by simpa using run_firstCells_some (P:=C.P) w.drew i.size 0 ⟨g,0,none⟩ 0 0 [] Ax Ax) Ac (by simpa using SZ.2);simpa using this
    .cases hp
   |CW id off k B=>
    rw[<-hR] at hp;simp only at hp;rw[hR] at hp;split at hp
    .rename_i cs hcs;split at hp
     .rename_i E;subst E;obtain⟨g,cap,hg,Jb,yf,fw,US⟩:=(show BI γ _ _ from hvs);obtain⟨us,H,fr,p1,pf,p2,p⟩:=hr.DI.cells id cs hcs g hg;obtain⟨⟨fq,M,L,F,D⟩,_⟩:=hr.DI.sz g _ US;rw[p1] at F;cases F;have fu:cs.length<=us.size:=by have:=p2.length;simp at this;omega
      have M5:∀j,(⟨g,off,none⟩:Addr).add j=⟨g,off+j,none⟩:=λj=>by unfold Addr.add;split<;>simp_all
      have m:∀o,o<us.size->w.frozen? ⟨g,o,none⟩=false:=λo ho=>by
       simp only[World.frozen?,p1];rcases pf with rfl|rF
       .simp
       .simp;omega
      have room:k+Aw.length<=cap->(Builtin.append_ #[t,t'] o.type #[a.eval s,a.eval x]).run C.P w= .ok (.slice (some ⟨g,off,none⟩) (k+Aw.length) cap) (w.setRow g (us.toList.take (off+k*(n+1))++news++us.toList.drop (off+k*(n+1)+news.length)).toArray)/\off+k*(n+1)+news.length<=us.size:=by
       intro hroom;have hfit:off+k*(n+1)+news.length<=us.size:=by rw[Qj,D,Rp,<-BE];exact Nat.add_le_add_left (DW _ hroom) _
       have AG:=run_append_room_src (P:=C.P) w t t' o.type e i ht hi g off k cap (a.eval x) Aw.length news JH hroom (λj hj=>by rw[cell_of_row w _ _ us H fr p1,Qi,Cm Ac];rfl) (λj hj=>by rw[Qi];exact m _ Ac)
       rw[Qi,Eo news _ us w p1 hfit,<-Jb] at AG;exact⟨AG,hfit⟩
      have xb:(k+Aw.length)*(n+1)=k*(n+1)+Aw.length*(n+1):=BE _ _ _;split at hp
      .rename_i fA;cases hp;have hroom:k+Aw.length<=cap:=by have K:(k+Aw.length)*(n+1)<=cap*(n+1):=Ac;exact Nat.le_of_mul_le_mul_right K (CT n)
       obtain⟨AG,hfit⟩:=room hroom;have G:off+(k+Aw.length)*(n+1)=off+k*(n+1)+news.length:=by rw[Qj,xb];omega
       have hcl:(cs.take (off+k*(n+1))++Aw.flatten++cs.drop (off+(k+Aw.length)*(n+1))).length=cs.length:=by rw[G,Ap,Ap,AB,Bj,Im];omega
       have T8:((us.toList.take (off+k*(n+1))++news++us.toList.drop (off+k*(n+1)+news.length)).toArray).toList.take (cs.take (off+k*(n+1))++Aw.flatten++cs.drop (off+(k+Aw.length)*(n+1))).length=
         (us.toList.take cs.length).take (off+k*(n+1))++news++(us.toList.take cs.length).drop (off+k*(n+1)+news.length):=by
        rw[hcl];simp only[Ky];exact Mq (by simpa using fu) Ac rfl
       obtain⟨T9,RT⟩:=M1 hr.DI hcs hg p1 (us.toList.take (off+k*(n+1))++news++us.toList.drop (off+k*(n+1)+news.length)).toArray (cs.take (off+k*(n+1))++Aw.flatten++cs.drop (off+(k+Aw.length)*(n+1)))
        (by simp only[B3,Ap,AB,Bj,Cb];omega)
        (by
         rcases pf with rfl|pf
         .exact .inl rfl
         .refine .inr (Bp (L8 ?_) pf);simp only[B3,Ap,AB,Bj,Cb];omega)
        (by rw[T8,G];exact NO p2 Vh)
        (by
         rw[T8];intro q hq;rcases Aq.1 hq with hq|hq
         .rcases Aq.1 hq with hq|hq
          .exact p q (A4 hq)
          .exact J8.one q hq
         .exact p q (Bu hq))
       exact Fy.value (Mg _ _ AG) ((hr.IB T9 RT).put λ_ _=>⟨g,cap,hg,rfl,hroom,fw,US⟩)
      .rename_i aO9;split at hp
       .rename_i Hw;obtain⟨rfl,Y0,SZ⟩:=Hw;cases hp;simp only[BC] at*;by_cases hroom:k+Aw.length<=cap
        .obtain⟨AG,hfit⟩:=room hroom;have rJ:(cs.take (k*(n+1))++Aw.flatten).length=k*(n+1)+news.length:=by rw[Ap,AB,Im];omega
         have T8:((us.toList.take (k*(n+1))++news++us.toList.drop (k*(n+1)+news.length)).toArray).toList.take (cs.take (k*(n+1))++Aw.flatten).length=(us.toList.take cs.length).take (k*(n+1))++news:=by
          rw[rJ];simp only[Ky];have:(us.toList.take (k*(n+1))++news).length=k*(n+1)+news.length:=by rw[Ap,AB,Cb];omega
          rw[<-this,Fa,F6,CG Y0]
         obtain⟨A,gA,UQ,LQ,UR⟩:=hr.kb hcs hg p1 (by rw[US,D]) (us.toList.take (k*(n+1))++news++us.toList.drop (k*(n+1)+news.length)).toArray (cs.take (k*(n+1))++Aw.flatten)
          (by simp only[B3,Ap,AB,Bj,Cb];omega)
          (by
           rcases pf with rfl|pf
           .exact .inl rfl
           .refine .inr (Bp (L8 ?_) pf);simp only[B3,Ap,AB,Bj,Cb];omega)
          (by rw[T8];exact(p2.take _).append Vh)
          (by
           rw[T8];intro q hq;rcases Aq.1 hq with hq|hq
           .exact p q (A4 hq)
           .exact J8.one q hq)
         exact Fy.value (Mg _ _ AG) (LQ.put λ_ _=>⟨g,cap,UQ,rfl,hroom,fw,by rw[UR,D];simp⟩)
        .have ye:((us.toList.take cs.length).take (k*(n+1))).length=k*(n+1):=Ed;have:=d (h.set id .Ds) (some ⟨g,0,none⟩) k cap (cs.take (k*(n+1))) ((us.toList.take cs.length).take (k*(n+1))) (hr.kill id) Jb (p2.take _) ye (λq hq=>p q (A4 hq))
          (by
           rw[Qi];exact run_firstCells_some w.drew _ _ _ _ _ _ ye (λj y hj=>by
            rw[M5];show w.cell? _=_;rw[cell_of_row w _ _ us H fr p1];rw[Cn] at hj;split at hj
            .rw[Cn] at hj;split at hj;.simpa using hj
             .cases hj
            .cases hj)) Ac SZ
         simpa using this
       .cases hp
     .cases hp
    .cases hp
   |_=>rw[<-hR] at hp;cases hp
def gH(hi:Hi γ h w){id g off:Nat}{cs b:List Aa}{news:List Value}(hcs:h[id]?=some (.cells cs))(hg:γ.mu id=some g)(hv:AV γ b news)(h1:∀u∈news,u.oneCell'=true)(hl:off+b.length<=cs.length):
  ∃w',(storeCells ⟨g,off,none⟩ news).run C.P w= .ok () w'/\Hi γ (h.set id (.cells (cs.take off++b++cs.drop (off+b.length)))) w'/\LB γ w γ w':=by
 obtain⟨us,e,fr,hw,pf,d,c⟩:=hi.cells id cs hcs g hg;have Qj:news.length=b.length:=hv.length;have hlt:cs.length<=us.size:=by have:=d.length;simp at this;omega
 have hs:=run_storeCells_cells (P:=C.P) g off news 0 w (λj hj=>by
  rw[cell_of_row w _ _ us e fr hw,Bl,Cm Ac];rfl) (λj hj=>by
  simp only[World.frozen?,hw];rcases pf with rfl|rF
  .simp
  .simp;omega) h1
 rw[Bl,Eo _ off us w hw Ac] at hs;have hcl:(cs.take off++b++cs.drop (off+b.length)).length=cs.length:=Ed;have T8:((us.toList.take off++news++us.toList.drop (off+news.length)).toArray).toList.take (cs.take off++b++cs.drop (off+b.length)).length=(us.toList.take cs.length).take off++news++(us.toList.take cs.length).drop (off+news.length):=by rw[hcl];simp only[Ky];exact Mq (by simpa using hlt) Ac rfl
 obtain⟨kg,ha⟩:=M1 hi hcs hg hw (us.toList.take off++news++us.toList.drop (off+news.length)).toArray (cs.take off++b++cs.drop (off+b.length))
  (by simp only[B3,Ap,AB,Bj,Cb];omega)
  (by
   rcases pf with rfl|pf
   .exact .inl rfl
   .refine .inr (Bp (L8 ?_) pf);simp only[B3,Ap,AB,Bj,Cb];omega)
  (by rw[T8,Qj];exact NO d hv)
  (by
   rw[T8];intro q hq;rcases Aq.1 hq with hq|hq
   .rcases Aq.1 hq with hq|hq
    .exact c q (A4 hq)
    .exact h1 q hq
   .exact c q (Bu hq))
 exact⟨_,hs,kg,ha⟩
def mM{t t' ty:TypeId}{ts:Array TypeId}{xs:Array Value}(h0:ts[0]?=some t)(h1:ts[1]?=some t'):Builtin.copy_ ts ty xs=Builtin.copy_ #[t,t'] ty xs:=by simp only[Builtin.copy_,h0];rfl
def gI{P:Program}{t t' ty e:TypeId}{i:TypeInfo}(ht:P.underlying t=some (.slice e))(hi:P.info? e=some i){x:Value}{n:Nat}{news:List Value}(hs:Src P i.size t' x n news w){base:Option Addr}{k cap:Nat}(hk:n<=k)
  (IP:∀b,base=some b->(storeCells b news).run P w= .ok () w') (eZ:base=none->w'=w):(Builtin.copy_ #[t,t'] ty #[.slice base k cap,x]).run P w= .ok (.int .i64 n) w':=by
 have hl:=hs.len w;have hc:=hs.cells;have hm:Nat.min n k=n:=CG hk;cases base with
 |none=>cases eZ rfl;simp[Builtin.copy_,run_underlying ht,hl,hc,sizeOf,typeInfo,hi,hm,goInt]
 |some b=>have h2:=IP b rfl;simp[Builtin.copy_,run_underlying ht,hl,hc,sizeOf,typeInfo,hi,hm,goInt,h2]
def kh{o:Oper}{c:Call}{t t' e:TypeId}{n:Nat}{s x:Operand}{v u r:Aa}{h':Ah}(ho:o.op= .call c)(hc:c.callee= .builtin .copy)(h0:c.argTypes[0]?=some t)(h1:c.argTypes[1]?=some t')(Ep:c.args.toList=[s,x])(ht:C.P.underlying t=some (.slice e))
  (Ir:(∃d,C.P.underlying t'=some (.slice d))\/C.P.underlying t'=some .string) (K8:BR C.P e=some (n+1)) (hv:Bm C U [s,x]=some [v,u])
  (hp:qS h (n+1) v u=some (h',r)) (hr:CX C γ0 w0 γ Z U h a w):Fy C γ0 w0 o a w (U.put o.dst (.val r)) h':=by
 obtain⟨_,_,e0,hvs,lH⟩:=EP hr hv;cases e0;have J7:c.args.map a.eval=#[a.eval s,a.eval x]:=by apply Gf;simp[Ep]
 have Mg:∀v' w',(Builtin.copy_ #[t,t'] o.type #[a.eval s,a.eval x]).run C.P w= .ok v' w'->(execOp a.eval o).run C.P w= .ok (.value v') w':=λv' w' AG=>by
  have:execOp a.eval o=(do pure (Next.value (<-Builtin.copy_ #[t,t'] o.type #[a.eval s,a.eval x]))):=by rw[<-J7,<-mM (ty:=o.type) h0 h1];simp only[execOp,ho,resolve,hc];rfl
  rw[this];exact Dg AG
 cases hi:C.P.info? e with
 |none=>simp[BR,hi] at K8
 |some i=>
 have Qi:=Jp K8 hi;unfold qS at hp;cases hq:Gb h (n+1) u with
 |none=>rw[hq] at hp;cases hp
 |some Aw=>
  rw[hq] at hp;obtain⟨news,J8,Vh,mJ⟩:=Wa (w:=w) Ir hr.DI lH hq;have JH:Src C.P i.size t' (a.eval x) Aw.length news w:=by rw[Qi];exact J8
  have Qj:news.length=Aw.length*(n+1):=J8.newsLen;have Im:Aw.flatten.length=news.length:=by rw[Vh.length]
  simp only at hp;split at hp
  .split at hp;.rename_i zY;cases hp;have Jb:a.eval s= .slice none 0 0:=hvs;have AG:=gI (t:=t) (ty:=o.type) (w:=w) (w':=w) ht hi JH (base:=none) (k:=0) (cap:=0) Ac (λ_ e=>by cases e) (λ_=>rfl);rw[<-Jb] at AG;rw[zY] at AG;exact Fy.value (Mg _ _ AG) (hr.put λ_ _=>rfl)
   .cases hp
  .rename_i id off k z;split at hp
   .rename_i cs hcs;split at hp;.rename_i Hw;obtain⟨rfl,b,hlen⟩:=Hw;cases hp;obtain⟨g,cap,hg,Jb,yf,fw,US⟩:=(show BI γ _ _ from hvs);have hm:=DW (n+1) b;obtain⟨w',IP,kg,ř⟩:=gH (C:=C) (off:=off) hr.DI hcs hg Vh J8.one Ac;have AG:=gI (t:=t) (ty:=o.type) (w:=w) (w':=w') ht hi JH (base:=some ⟨g,off,none⟩) (k:=k) (cap:=cap) b (λ_ e=>by cases e;exact IP) (λe=>by cases e);rw[<-Jb] at AG;rw[show Aw.length*(n+1)=Aw.flatten.length by rw[Im,Qj]];exact Fy.value (Mg _ _ AG) ((hr.IB kg ř).put λ_ _=>rfl)
    .cases hp
   .cases hp
  .cases hp
def gJ{t ty:TypeId}{ts:Array TypeId}{xs:Array Value}(h0:ts[0]?=some t):Builtin.clear_ ts ty xs=Builtin.clear_ #[t] ty xs:=by simp only[Builtin.clear_,h0];rfl
def zZ{o:Oper}{c:Call}{t e:TypeId}{n:Nat}{s:Operand}{v z r:Aa}{h':Ah}(ho:o.op= .call c)(hc:c.callee= .builtin .clear)(h0:c.argTypes[0]?=some t)(Ep:c.args.toList=[s])(ht:C.P.underlying t=some (.slice e))
  (K8:BR C.P e=some (n+1)) (hz:GA C.P e=some z) (hv:Bm C U [s]=some [v]) (hp:VH h (n+1) z.cells v=some (h',r)) (hr:CX C γ0 w0 γ Z U h a w):Fy C γ0 w0 o a w (U.put o.dst .undef) h':=by
 obtain⟨_,e0,hvs⟩:=Gn hr hv;cases e0;have J7:c.args.map a.eval=#[a.eval s]:=by apply Gf;simp[Ep]
 have Mg:∀v' w',(Builtin.clear_ #[t] o.type #[a.eval s]).run C.P w= .ok v' w'->(execOp a.eval o).run C.P w= .ok (.value v') w':=λv' w' AG=>by
  have:execOp a.eval o=(do pure (Next.value (<-Builtin.clear_ #[t] o.type #[a.eval s]))):=by rw[<-J7,<-gJ (ty:=o.type) h0];simp only[execOp,ho,resolve,hc];rfl
  rw[this];exact Dg AG
 unfold VH at hp;split at hp
 .cases hp;have Jb:a.eval s= .slice none 0 0:=hvs;have AG:(Builtin.clear_ #[t] o.type #[a.eval s]).run C.P w= .ok (.tuple #[]) w:=by rw[Jb];simp[Builtin.clear_,run_underlying ht]
  exact Fy.value (Mg _ _ AG) (hr.put λ_ _=>trivial)
 .rename_i id off k A;split at hp
  .rename_i cs hcs;split at hp
   .rename_i Hw;obtain⟨rfl,f,hlen⟩:=Hw;cases hp;obtain⟨g,cap,hg,Jb,yf,fw,US⟩:=(show BI γ _ _ from hvs);obtain⟨d,fx,Ť⟩:=HH hz;obtain⟨m,p⟩:=GX (γ:=γ) (E2 fx) Ac;have aI:d.cells.size=n+1:=by have:=m.length;simp at this;omega
    have Im:(List.replicate k z.cells).flatten.length=k*(n+1):=by rw[GZ (z:=n+1) (λr hr=>by rw[Ą hr,f]),Fx]
    have i:∀(j:Nat) (u:Value),(Builtin.zeroCells d.cells k).toList[j]?=some u->j<k*(n+1)/\d.cells.toList[j%(n+1)]?=some u:=by
     intro j u hj;have Y7:j<k*(n+1):=by have:=(Aj.1 hj).1;simpa[size_zeroCells,aI] using this
     refine⟨Y7,?_⟩;have Š:j%(n+1)<d.cells.size:=by rw[aI];exact Nat.mod_lt _ (CT n)
     simp only[Builtin.zeroCells,MV,Cg] at hj;have b:(Array.range (k*d.cells.size)).toList[j]?=some j:=by simp[aI,Y7]
     rw[b] at hj;simp only[Bt,Bx] at hj;rw[aI] at hj;rw[<-hj];simp[Š]
    have q:AV γ (List.replicate k z.cells).flatten (Builtin.zeroCells d.cells k).toList:=by refine AV.GB (by simp only[Cb,size_zeroCells,aI,Im]) λj x u hx hu=>?_;obtain⟨Y7,l⟩:=i j u hu;rw[HM z.cells _ _ (by rw[f];exact Y7),f] at hx;obtain⟨B,zG,ś⟩:=m.get hx;rw[l] at zG;cases zG;exact ś
    obtain⟨w',IP,kg,ř⟩:=gH (C:=C) (off:=off) hr.DI hcs hg q (λu hu=>by obtain⟨j,hj⟩:=CF hu;exact p u (Cv (i j u hj).2)) Ac
    have AG:(Builtin.clear_ #[t] o.type #[a.eval s]).run C.P w= .ok (.tuple #[]) w':=by
     rw[Jb];cases k with
     |zero=>
      have y:(Builtin.zeroCells d.cells 0).toList=[]:=by simp[Builtin.zeroCells]
      rw[y] at IP;have:w'=w:=by have h2:(storeCells ⟨g,off,none⟩ []).run C.P w= .ok () w:=rfl;rw[h2] at IP;cases IP;rfl
      rw[this];simp[Builtin.clear_,run_underlying ht]
     |succ k=>simp[Builtin.clear_,run_underlying ht,Ť,IP]
    rw[show k*(n+1)=(List.replicate k z.cells).flatten.length from Im.symm];exact Fy.value (Mg _ _ AG) ((hr.IB kg ř).put λ_ _=>trivial)
   .cases hp
  .cases hp
 .cases hp
def ki{o:Oper}{t e:TypeId}{n:Nat}{x:Operand}{lo hi:Option Operand}{v r:Aa}{as:List Aa}{h':Ah}(ho:o.op= .slice t x lo hi none)(ht:C.P.underlying t=some (.slice e))(K8:BR C.P e=some (n+1))
  (hv:Bm C U (x::(lo.toList++hi.toList))=some (v::as)) (hp:fJ h (n+1) lo.isSome hi.isSome v as=some (h',r)) (hr:CX C γ0 w0 γ Z U h a w):Fy C γ0 w0 o a w (U.put o.dst (.val r)) h':=by
 have mL:=DE hr hv;obtain⟨u,us,c,hx,kj⟩:=mL;simp only[A0,EE] at c;obtain⟨rfl,rfl⟩:=c;unfold fJ at hp;split at hp
 .rename_i id off k z;split at hp
  .rename_i cs hcs;split at hp
   .rename_i Hw;obtain⟨rfl,b,aEs⟩:=Hw;obtain⟨g,cap,hg,Jb,yf,fw,US⟩:=(show BI γ _ _ from hx);cases hb:Dx lo.isSome hi.isSome ((cs.length-off)/(n+1)) as with
    |none=>rw[hb] at hp;cases hp
    |some i=>
     obtain⟨l,q⟩:=i;rw[hb] at hp;simp only[Cj] at hp;split at hp
     .rename_i hlt;cases hp;obtain⟨us,c,fr,p1,pf,p2,B⟩:=hr.DI.cells id cs hcs g hg;obtain⟨⟨fq,s,m,d,A⟩,_⟩:=hr.DI.sz g _ US;rw[p1] at d;cases d;have fu:cs.length<=us.size:=by have:=p2.length;simp at this;omega
      have aJk:(cs.length-off)/(n+1)<=cap:=by refine Nat.div_le_of_le_mul ?_;rw[Nat.mul_comm];omega
      have f:∀y:Option Operand,(y.map a.eval).isSome=y.isSome:=λy=>by cases y<;>rfl
      have p:(lo.map a.eval).toList++(hi.map a.eval).toList=(lo.toList++hi.toList).map a.eval:=by cases lo<;>cases hi<;>rfl
      rw[<-f lo,<-f hi] at hb;obtain⟨j,E,D⟩:=Kl (P:=C.P) (w:=w) (isSlice:=true) hb (by rw[p];exact kj) aJk;have M2:Instr.sliceBounds true k cap (lo.map a.eval) (hi.map a.eval) none=Instr.sliceBounds true ((cs.length-off)/(n+1)) cap (lo.map a.eval) (hi.map a.eval) none:=by
       cases hi with
       |none=>cases b
       |some y=>rfl
      have Ir:C.P.underlying t=some (.slice (C.P.elem t)):=by simp[Program.elem,ht]
      have he:C.P.elem t=e:=by simp[Program.elem,ht]
      have AG:(Instr.sliceAt t (a.eval x) (lo.map a.eval) (hi.map a.eval) none).run C.P w= .ok (.slice (some ⟨g,off+l*(n+1),none⟩) (q-l) (cap-l)) w:=by rw[Jb,run_sliceAt_slice w t _ _ _ _ Ir,run_slice_any w t _ _ _ Ir,M2,j,he,Result.andThen_ok,Dv K8];show Result.ok (Value.slice (if cap=l then some ⟨g,off,none⟩ else Option.map (λq:Addr=>q.add (l*(n+1))) (some ⟨g,off,none⟩)) (q-l) (cap-l)) w=_;rw[Ag Ac];simp only[Bt];unfold Addr.add;split<;>simp_all
      refine Fy.value (by simp only[execOp,ho];exact Dg AG) (hr.put λ_ _=>⟨g,cap-l,hg,rfl,Ac,⟨fw.1,Bp (Nat.sub_le _ _) fw.2⟩,?_⟩);rw[US,Rp,<-BE,aIV Ac]
     .cases hp
   .cases hp
  .cases hp
 .cases hp
def kq{o:Oper}{t e:TypeId}{n:Nat}{x lo hi mx:Operand}{args:List Aa}(ho:o.op= .slice t x (some lo) (some hi) (some mx))(ht:C.P.underlying t=some (.slice e))(K8:BR C.P e=some (n+1))
  (hv:Bm C U [x,lo,hi,mx]=some args) (hp:VI (n+1) args=true) (hr:CX C γ0 w0 γ Z U h a w):Fy C γ0 w0 o a w (U.put o.dst .undef) h:=by
 have mL:=DE hr hv;have Ir:C.P.underlying t=some (.slice (C.P.elem t)):=by simp[Program.elem,ht]
 have he:C.P.elem t=e:=by simp[Program.elem,ht]
 have ID:∀(base:Option Addr) (len cap:Nat) (kl kr f:IntKind) (l r m:Int),a.eval x= .slice base len cap->a.eval lo= .int kl l->a.eval hi= .int kr r->a.eval mx= .int f m->0<=l->l<=r->r<=m->m<=cap->Fy C γ0 w0 o a w (U.put o.dst .undef) h:=by
  intro base len cap kl kr f l r m z y u q h1 h2 d i;have AG:∃v,(Instr.sliceAt t (a.eval x) (some (a.eval lo)) (some (a.eval hi)) (some (a.eval mx))).run C.P w= .ok v w:=by
   have c:0<=m:=Ac;have b:0<=r:=Ac;have b1:∀code,(Instr.sliceBound (.int f m) cap code).run C.P w= .ok m.toNat w:=λcode=>by simp[Instr.sliceBound,asIntOf,c,i]
   have b2:∀code,(Instr.sliceBound (.int kr r) m.toNat code).run C.P w= .ok r.toNat w:=λcode=>by simp[Instr.sliceBound,asIntOf,b,HY c,d]
   have b3:∀code,(Instr.sliceBound (.int kl l) r.toNat code).run C.P w= .ok l.toNat w:=λcode=>by simp[Instr.sliceBound,asIntOf,h1,HY b,h2]
   rw[z,y,u,q];simp[Instr.sliceAt,Instr.slice,run_underlying ht,Instr.sliceBounds,b1,b2,b3,Dv K8]
  obtain⟨v,AG⟩:=AG;exact Fy.value (by simp only[execOp,ho];exact Dg AG) (hr.put λ_ _=>trivial)
 unfold VI at hp;split at hp
 .rename_i s _ l _ r _ m;obtain⟨E,Ţ,f1,g1,D,lF,f2,g2,B,p,f3,g3,A,k,f4,j,f5⟩:=mL;subst f5;simp only[A0,Dc] at f1;subst f4;subst f3;subst f2;simp only[EE,Mb] at f1;obtain⟨rfl,rfl,rfl,rfl⟩:=f1;split at hp;.simp only[AO,B4] at hp;obtain⟨⟨⟨⟨_,h1⟩,h2⟩,d⟩,i⟩:=hp;obtain⟨g,cap,hg,Jb,yf,_⟩:=(show BI γ _ _ from g1);exact ID _ _ _ _ _ _ _ _ _ Jb (D9 g2) (D9 g3) (D9 j) h1 h2 d Ac
  .simp only[AO,B4] at hp;obtain⟨⟨⟨⟨_,h1⟩,h2⟩,d⟩,i⟩:=hp;obtain⟨F,cap,Jb,yf,_⟩:=(show BI γ _ _ from g1);exact ID _ _ _ _ _ _ _ _ _ Jb (D9 g2) (D9 g3) (D9 j) h1 h2 d Ac
  .cases hp
 .cases hp
def ku{o:Oper}{t:TypeId}{x:Operand}{v:Aa}{u:TypeDesc}(ho:o.op= .makeInterface t x)(ht:C.P.underlying t=some u)(hn:∀i,u≠ .interface i)(hv:Bm C U [x]=some [v])(hr:CX C γ0 w0 γ Z U h a w):Fy C γ0 w0 o a w (U.put o.dst (.val (.iface t v))) h:=by
 obtain⟨_,e0,hvs⟩:=Gn hr hv;cases e0;have AG:(Instr.makeInterface t (a.eval x)).run C.P w= .ok (.iface t (a.eval x)) w:=by cases u<;>simp_all [Instr.makeInterface,run_underlying ht]
 exact Fy.value (by simp only[execOp,ho];exact Dg AG) (hr.put λ_ _=>⟨_,rfl,hvs⟩)
def PY{n:Int}:∀{es:List (Aa×Aa)} {l:List MapEntry} {i:Nat} {r:Option (Nat×Aa)},Kk γ es l->H7 n es i=some r->
  match r with
  |none=>Instr.findNow (.int .i64) (.int .i64 n) l i=some none
  |some (j,v)=>∃(e:MapEntry),Instr.findNow (.int .i64) (.int .i64 n) l i=some (some (j,e.val))/\BI γ v e.val/\i<=j/\l[j-i]?=some e/\e.key= .int .i64 n
 |[],l,i,r,b,hf=>by rw[show l=[] from b];cases hf;rfl
 |(k,v)::es,l,i,r,b,hf=>by
  obtain⟨e,l',rfl,h1,h2,m⟩:=b;cases k with
  |int q t=>
   by_cases hq:q= .i64
   .subst hq;simp only[H7] at hf;have hk:e.key= .int .i64 t:=h1;split at hf;.rename_i IP;subst IP;cases hf;exact⟨e,by simp[Instr.findNow,hk,Instr.sameNow],h2,Ab _,Ax,hk⟩
    .rename_i IP;have aEx:(n==t)=false:=by simpa using IP
     have ih:=PY (i:=i+1) m hf;cases r with
     |none=>simpa[Instr.findNow,hk,Instr.sameNow,aEx] using ih
     |some p=>obtain⟨j,v2⟩:=p;obtain⟨o,g,f,s,d,c⟩:=ih;refine⟨o,by simpa[Instr.findNow,hk,Instr.sameNow,aEx] using g,f,Ac,?_,c⟩;rw[(Ac:j-i=(j-(i+1))+1),SO];exact d
   .exfalso;cases q<;>first|exact hq rfl|(simp[H7] at hf)
  |_=>simp[H7] at hf
def kx{o:Oper}{t kt e:TypeId}{m k:Operand}{f g z r:Aa}{ok:Bool}{h':Ah}(ho:o.op= .lookup t m k ok)(ht:C.P.underlying t=some (.map kt e))(hk:C.P.underlying kt=some (.int .i64))(hz:GA C.P e=some z)(ha:Bm C U [m,k]=some [f,g])(hm:fK h z ok f g=some (h',r))(hr:CX C γ0 w0 γ Z U h a w):
  Fy C γ0 w0 o a w (U.put o.dst (.val r)) h':=by
 obtain⟨_,_,e0,h1,h2⟩:=EP hr ha;cases e0;obtain⟨d,fx,Ť⟩:=HH hz;have ID:∀(es:Array MapEntry) (q:Option (Nat×Aa)),(Instr.lookup t (a.eval m) (a.eval k) ok).run C.P w=(KG kt e (a.eval k) ok es).run C.P w->
   ∀n,a.eval k= .int .i64 n->(match q with|none=>Instr.findNow (.int .i64) (.int .i64 n) es.toList 0=some none|some (j,v)=>∃(e:MapEntry),Instr.findNow (.int .i64) (.int .i64 n) es.toList 0=some (some (j,e.val))/\BI γ v e.val/\0<=j/\es.toList[j-0]?=some e/\e.key= .int .i64 n)->
   S5 z ok q=r->Fy C γ0 w0 o a w (U.put o.dst (.val r)) h:=by
  intro es q QX n ym hq T6;have zV:(Instr.checkKey es.isEmpty 10000 kt (.int .i64 n)).run C.P w= .ok () w:=MapKept.run_checkKey (k:= .int .i64 n) hk (by simp[MapKept.IsKey]) es.isEmpty 9999;have AG:∃v,(Instr.lookup t (a.eval m) (a.eval k) ok).run C.P w= .ok v w/\BI γ r v:=by
   cases q with
   |none=>
    refine⟨if ok then .tuple #[d,.bool false] else d,?_,?_⟩;.rw[QX,ym];unfold KG;simp only[Sem.run_bind,Result.andThen_ok,zV,MapKept.run_findKey hk hq,Ť,Sem.run_bind,Sem.run_pure]
    .rw[<-T6];have c:=E2 (γ:=γ) fx;cases ok with
     |true=>exact⟨_,rfl,_,_,rfl,c,_,_,rfl,rfl,rfl⟩
     |false=>exact c
   |some p=>
    obtain⟨j,v⟩:=p;obtain⟨en,s,l,_⟩:=hq;refine⟨if ok then .tuple #[en.val,.bool true] else en.val,?_,?_⟩;.rw[QX,ym];unfold KG;simp only[Sem.run_bind,Result.andThen_ok,zV,MapKept.run_findKey hk s,Sem.run_bind,Sem.run_pure]
    .rw[<-T6];cases ok with
     |true=>exact⟨_,rfl,_,_,rfl,l,_,_,rfl,rfl,rfl⟩
     |false=>exact l
  obtain⟨v,AG,rL⟩:=AG;exact Fy.value (by simp only[execOp,ho];exact Dg AG) (hr.put λ_ _=>rL)
 unfold fK at hm;split at hm;.rename_i n;cases hm;exact ID #[] none (by rw[show a.eval m=_ from h1];simp only[Instr.lookup,KG,Sem.run_bind,run_underlying ht,Result.andThen_ok,Sem.run_pure];rfl) n h2 rfl rfl
 .rename_i id n;obtain⟨b,hb,zU⟩:=h1;split at hm
  .rename_i es QX;obtain⟨C5,clock,hw,u,_⟩:=hr.DI.map id es QX b hb;cases hf:H7 n es 0 with
   |none=>rw[hf] at hm;cases hm
   |some q=>
    rw[hf] at hm;simp only[Bt,Bx,MX] at hm;obtain⟨rfl,hm⟩:=hm;refine ID C5 q (by rw[zU];simp only[Instr.lookup,KG,Sem.run_bind,run_underlying ht,MapKept.run_getObj_map hw,Result.andThen_ok,Sem.run_pure];rfl) n h2 ?_ ?_
    .have:=PY (i:=0) u hf;cases q with
     |none=>exact this
     |some p=>exact this
    .exact hm
  .cases hm
 .cases hm
def Kk.gK{k v:Aa}{e:MapEntry}(hk:BI γ k e.key)(hv:BI γ v e.val):∀{es:List (Aa×Aa)} {l:List MapEntry},Kk γ es l->Kk γ (es++[(k,v)]) (l++[e])
 |[],l,b=>by rw[show l=[] from b];exact⟨e,[],rfl,hk,hv,rfl⟩
 |(k',v')::es,l,b=>by obtain⟨d,l',rfl,h1,h2,c⟩:=b;exact⟨d,_,rfl,h1,h2,Kk.gK hk hv c⟩
def Kk.length:∀{es:List (Aa×Aa)} {l:List MapEntry},Kk γ es l->l.length=es.length
 |[],l,b=>by rw[show l=[] from b];rfl
 |(k',v')::es,l,b=>by obtain⟨d,l',rfl,h1,h2,c⟩:=b;simp[Kk.length c]
def Kk.modify{v:Aa}{u:Value}(hv:BI γ v u):∀{es:List (Aa×Aa)} {l:List MapEntry} {j:Nat} {k v0:Aa},Kk γ es l->es[j]?=some (k,v0)->Kk γ (es.set j (k,v)) (l.modify j λe=>{e with val:=u})
 |[],l,j,k,v0,b,hj=>by simp at hj
 |(k',v')::es,l,j,k,v0,b,hj=>by
  obtain⟨d,l',rfl,h1,h2,c⟩:=b;cases j with
  |zero=>cases hj;exact⟨{d with val:=u},l',Ax,h1,hv,c⟩
  |succ j=>exact⟨d,l'.modify j _,Ax,h1,h2,Kk.modify hv c (by simpa using hj)⟩
def gL{es:Array MapEntry}{j:Nat}{e:MapEntry}{k:Value}(hj:es[j]?=some e)(hk:e.key=k):(es.modify j λe=>{e with key:=k})=es:=by
 apply PK;intro i;rw[ME];split;.rename_i hi;subst hi;rw[hj];simp[<-hk]
 .rfl
def Wf{o:Oper}{t kt e:TypeId}{m k:Operand}{kA z r:Aa}{kV:Value}{d:TypeDesc}{h':Ah}{id:Nat}{es:List (Aa×Aa)}{f:Option (Option (Nat×Aa))}(ho:o.op= .mapEntry t m k)(ht:C.P.underlying t=some (.map kt e))(hk:C.P.underlying kt=some d)(g:MapKept.IsKey d kV)(hz:GA C.P e=some z)
  (h1:BI γ (.map (some id)) (a.eval m)) (ţ:a.eval k=kV) (n:BI γ kA kV) (QX:h[id]?=some (.map es))
  (hq:∀(l:List MapEntry) q,Kk γ es l->f=some q->match q with
   |none=>Instr.findNow d kV l 0=some none
   |some (j,v)=>∃(e:MapEntry),Instr.findNow d kV l 0=some (some (j,e.val))/\BI γ v e.val/\0<=j/\l[j-0]?=some e/\e.key=kV)
  (hm:(f.map λr=>match r with
   |some (i,v)=>(h,Aa.tuple [v,.int .i64 i])
   |none=>(h.set id (.map (es++[(kA,z)])),.tuple [z,.int .i64 es.length]))=some (h',r)) (hr:CX C γ0 w0 γ Z U h a w):
  Fy C γ0 w0 o a w (U.put o.dst (.val r)) h':=by
 obtain⟨c,fx,Ť⟩:=HH hz;obtain⟨b,hb,zU⟩:=h1;obtain⟨C5,clock,hw,s,hB⟩:=hr.DI.map id es QX b hb;have zV:(Instr.checkKey false 10000 kt kV).run C.P w= .ok () w:=MapKept.run_checkKey (k:=kV) hk g false 9999;cases f with
 |none=>cases hm
 |some q=>
  have hq:=hq C5.toList q s rfl;cases q with
  |none=>
   simp only[Bt,Bx,MX] at hm;obtain⟨rfl,rfl⟩:=hm;have AG:(Instr.mapEntry t (a.eval m) (a.eval k)).run C.P w= .ok (.tuple #[c,goInt clock]) {w with heap:=w.heap.setIfInBounds b (.map (C5.push {key:=kV,val:=c,born:=clock}) (clock+1))}:=by rw[zU,ţ];simp[Instr.mapEntry,run_underlying ht,MapKept.run_getObj_map hw,zV,MapKept.run_findKey hk hq,Ť,MapKept.run_setObj_map _ hw,Result.andThen]
   obtain⟨hi,JI⟩:=M7 (T2:=es++[(kA,z)]) (ents':=C5.push {key:=kV,val:=c,born:=clock}) (clock':=clock+1) hr.DI QX hb hw ⟨by have:=Kk.gK (γ:=γ) (k:=kA) (v:=z) (e:={key:=kV,val:=c,born:=clock}) n (E2 fx) s;simpa using this,Th hB⟩
   refine Fy.value (by simp only[execOp,ho];exact Dg AG) ((hr.IB hi JI).put λ_ _=>⟨_,rfl,c,_,rfl,E2 fx,_,[],rfl,?_,rfl⟩);rw[hB.1];have:=s.length;simp only[Cb] at this;rw[<-this];rfl
  |some p=>
   obtain⟨j,v⟩:=p;simp only[Bt,Bx,MX] at hm;obtain⟨rfl,rfl⟩:=hm;obtain⟨en,A,y,_,x,u⟩:=hq;have hj:C5[j]?=some en:=by simpa using x
   have aEy:=hB.2 j en hj;have aa:w.heap.setIfInBounds b (.map C5 clock)=w.heap:=by
    apply PK;intro i;rw[Array.getElem?_setIfInBounds];split;.rename_i hi;subst hi;have hlt:=(AN.1 hw).1;rw[Af hlt,hw]
    .rfl
   have AG:(Instr.mapEntry t (a.eval m) (a.eval k)).run C.P w= .ok (.tuple #[en.val,goInt j]) w:=by rw[zU,ţ];simp[Instr.mapEntry,run_underlying ht,MapKept.run_getObj_map hw,zV,MapKept.run_findKey hk A,hj,u,MapKept.run_keyThatStays (d:=d) (k:=kV) g,MapKept.run_setObj_map _ hw,Result.andThen,aEy,gL hj u,aa]
   exact Fy.value (by simp only[execOp,ho];exact Dg AG) (hr.put λ_ _=>⟨_,rfl,_,_,rfl,y,_,[],rfl,rfl,rfl⟩)
def mN{o:Oper}{t kt e:TypeId}{m k:Operand}{b c z r:Aa}{h':Ah}(ho:o.op= .mapEntry t m k)(ht:C.P.underlying t=some (.map kt e))(hk:C.P.underlying kt=some (.int .i64))(hz:GA C.P e=some z)(ha:Bm C U [m,k]=some [b,c])(hm:Vd h z b c=some (h',r))(hr:CX C γ0 w0 γ Z U h a w):
  Fy C γ0 w0 o a w (U.put o.dst (.val r)) h':=by
 obtain⟨_,_,e0,h1,h2⟩:=EP hr ha;cases e0;unfold Vd at hm;split at hm
 .rename_i id n;split at hm;.rename_i es QX;exact Wf (kA:= .int .i64 n) (kV:= .int .i64 n) ho ht hk (by simp[MapKept.IsKey]) hz h1 h2 rfl QX (λl q d hf=>PY (i:=0) d hf) hm hr
  .cases hm
 .cases hm
def Y9{s:Ak}:∀{es:List (Aa×Aa)} {l:List MapEntry} {i:Nat} {r:Option (Nat×Aa)},Kk γ es l->QM s es i=some r->
  match r with
  |none=>Instr.findNow .string (.string ⟨⟨s⟩⟩) l i=some none
  |some (j,v)=>∃(e:MapEntry),Instr.findNow .string (.string ⟨⟨s⟩⟩) l i=some (some (j,e.val))/\BI γ v e.val/\i<=j/\l[j-i]?=some e/\e.key= .string ⟨⟨s⟩⟩
 |[],l,i,r,b,hf=>by rw[show l=[] from b];cases hf;rfl
 |(k,v)::es,l,i,r,b,hf=>by
  obtain⟨e,l',rfl,h1,h2,m⟩:=b;cases k with
  |str t=>
   simp only[QM] at hf;have hk:e.key= .string ⟨⟨t⟩⟩:=h1;split at hf;.rename_i IP;subst IP;cases hf;exact⟨e,by simp[Instr.findNow,hk,Instr.sameNow,QW],h2,Ab _,Ax,hk⟩
   .rename_i IP;have ih:=Y9 (i:=i+1) m hf;have hne:=Wd IP;cases r with
    |none=>simpa[Instr.findNow,hk,Instr.sameNow,hne] using ih
    |some p=>obtain⟨j,v2⟩:=p;obtain⟨n,g,f,o,d,c⟩:=ih;refine⟨n,by simpa[Instr.findNow,hk,Instr.sameNow,hne] using g,f,Ac,?_,c⟩;rw[(Ac:j-i=(j-(i+1))+1),SO];exact d
  |_=>simp[QM] at hf
def mO{o:Oper}{t kt e:TypeId}{m k:Operand}{b c z r:Aa}{h':Ah}(ho:o.op= .mapEntry t m k)(ht:C.P.underlying t=some (.map kt e))(hk:C.P.underlying kt=some .string)(hz:GA C.P e=some z)(ha:Bm C U [m,k]=some [b,c])(hm:Ve h z b c=some (h',r))(hr:CX C γ0 w0 γ Z U h a w):
  Fy C γ0 w0 o a w (U.put o.dst (.val r)) h':=by
 obtain⟨_,_,e0,h1,h2⟩:=EP hr ha;cases e0;unfold Ve at hm;split at hm
 .rename_i id n;split at hm;.rename_i es QX;exact Wf (kA:= .str n) (kV:= .string ⟨⟨n⟩⟩) ho ht hk (by simp[MapKept.IsKey]) hz h1 h2 rfl QX (λl q d hf=>Y9 (i:=0) d hf) hm hr
  .cases hm
 .cases hm
def gM{o:Oper}{t kt e:TypeId}{m k x:Operand}{d f c r:Aa}{h':Ah}(ho:o.op= .insert t m k x\/o.op= .mapUpdate t m k x)(hd:o.dst=none)(ht:C.P.underlying t=some (.map kt e))(hk:C.P.underlying kt=some (.int .i64))(ha:Bm C U [m,k,x]=some [d,f,c])
  (hm:qT h d f c=some (h',r)) (hr:CX C γ0 w0 γ Z U h a w):Fy C γ0 w0 o a w U h':=by
 obtain⟨h1,h2,j⟩:=QY hr ha;have Mg:∀w',(Instr.mapUpdate t (a.eval m) (a.eval k) (a.eval x)).run C.P w= .ok () w'->(execOp a.eval o).run C.P w= .ok .skip w':=λw' AG=>by rcases ho with ho|ho<;>simp[execOp,ho,AG]
 unfold qT at hm;split at hm
 .rename_i id n;obtain⟨b,hb,zU⟩:=h1;have ţ:a.eval k= .int .i64 n:=h2;split at hm
  .rename_i es QX;obtain⟨C5,clock,hw,g,hB⟩:=hr.DI.map id es QX b hb;have zV:(Instr.checkKey false 10000 kt (.int .i64 n)).run C.P w= .ok () w:=MapKept.run_checkKey (k:= .int .i64 n) hk (by simp[MapKept.IsKey]) false 9999;split at hm
   .rename_i hf;cases hm;have hq:=PY (i:=0) g hf;have AG:(Instr.mapUpdate t (a.eval m) (a.eval k) (a.eval x)).run C.P w= .ok () {w with heap:=w.heap.setIfInBounds b (.map (C5.push {key:= .int .i64 n,val:=a.eval x,born:=clock}) (clock+1))}:=by rw[zU,ţ];simp[Instr.mapUpdate,run_underlying ht,MapKept.run_getObj_map hw,zV,MapKept.run_findKey hk hq,MapKept.run_setObj_map _ hw,Result.andThen]
    obtain⟨hi,JI⟩:=M7 (T2:=es++[(.int .i64 n,c)]) (ents':=C5.push {key:= .int .i64 n,val:=a.eval x,born:=clock}) (clock':=clock+1) hr.DI QX hb hw ⟨by have:=Kk.gK (γ:=γ) (k:= .int .i64 n) (v:=c) (e:={key:= .int .i64 n,val:=a.eval x,born:=clock}) rfl j g;simpa using this,Th hB⟩
    exact Fy.skip (Mg _ AG) (by rw[hd];exact hr.IB hi JI)
   .cases hm
  .cases hm
 .cases hm
def aN{es:Array MapEntry}(hB:∀(i:Nat) (e:MapEntry),es[i]?=some e->e.born=i){j:Nat}{e:MapEntry}(hj:es[j]?=some e):es.findIdx? (λe=>(e.born:Int)==(j:Int))=some j:=by
 rw[Array.findIdx?_eq_some_iff_getElem];obtain⟨hl,he⟩:=AN.1 hj;refine⟨hl,?_,λi hi=>?_⟩;.have:=hB j _ (Cm hl);simp[this]
 .have:=hB i _ (Cm Ac);simp[this];omega
def mP{o:Oper}{t:TypeId}{m s x:Operand}{f vs c r:Aa}{h':Ah}(ho:o.op= .entryStore t m s x)(hd:o.dst=none)(ha:Bm C U [m,s,x]=some [f,vs,c])(hm:RA h f vs c=some (h',r))(hr:CX C γ0 w0 γ Z U h a w):Fy C γ0 w0 o a w U h':=by
 obtain⟨h1,h2,i⟩:=QY hr ha;have Mg:∀w',(Instr.entryStore t (a.eval m) (a.eval s) (a.eval x)).run C.P w= .ok () w'->(execOp a.eval o).run C.P w= .ok .skip w':=λw' AG=>by simp[execOp,ho,AG]
 unfold RA at hm;split at hm
 .rename_i id n;obtain⟨b,hb,zU⟩:=h1;have Jb:a.eval s= .int .i64 n:=h2;split at hm
  .rename_i es QX;split at hm
   .rename_i hn;split at hm
    .rename_i kk v0 hk;cases hm;obtain⟨C5,clock,hw,g,hB⟩:=hr.DI.map id es QX b hb;have hlen:=g.length;have hlt:=(Aj.1 hk).1;have d:∃en,C5[n.toNat]?=some en:=⟨C5[n.toNat]'(by simp at hlen;omega),Cm _⟩;obtain⟨en,hj⟩:=d;have jh:((n.toNat:Nat):Int)=n:=Ac;have aEz:=aN hB.2 hj;rw[jh] at aEz;have AG:(Instr.entryStore t (a.eval m) (a.eval s) (a.eval x)).run C.P w= .ok () {w with heap:=w.heap.setIfInBounds b (.map (C5.modify n.toNat λe=>{e with val:=a.eval x}) clock)}:=by rw[zU,Jb];simp[Instr.entryStore,MapKept.run_getObj_map hw,asInt,asIntOf,aEz,MapKept.run_setObj_map _ hw,Result.andThen]
     obtain⟨hi,JI⟩:=M7 (T2:=es.set n.toNat (kk,c)) (ents':=C5.modify n.toNat λe=>{e with val:=a.eval x}) (clock':=clock) hr.DI QX hb hw ⟨by have:=Kk.modify i g hk;simpa using this,T7 hB λ_=>rfl⟩
     exact Fy.skip (Mg _ AG) (by rw[hd];exact hr.IB hi JI)
    .cases hm
   .cases hm
  .cases hm
 .cases hm
end
end Go.Am
end
section
section
namespace Go.Am
open Go
section
variable{C:FB}{γ0 γ γ':Gh}{w0 w w':World}{O:Nat->Nat}{U U':BJ}{h h':Ah}{a:Act}{fid:FuncId}{ops:List Oper}
def Fy.wp{o:Oper}{K:Act->World->Prop}{Q:Exit->Act->World->Prop}(hs:Fy C γ0 w0 o a w U' h')(b:∀γ' c a' w',CX C γ0 w0 γ' c U' h' a' w'->K a' w'):o.wp C.P a w K Q:=by
 obtain⟨γ',c,w',⟨v,he,hr⟩|⟨he,hr⟩⟩:=hs;.exact IU he (b _ _ _ _ hr)
 .exact lW he (b _ _ _ _ hr)
def Yl{P:Program}{op:BinOp}{t:TypeId}{p:X8}(hp:PT P op t=some p):p.still=true:=by
 have J7:∀neg u,S6 P t neg u=some p->p.still=true:=by
  intro neg u h;unfold S6 at h;split at h;.cases h;rfl
  .split at h
   .cases hf:OV P 20 t with
    |none=>rw[hf] at h;cases h
    |some k=>rw[hf] at h;cases h;rfl
   .cases h
  .split at h<;>cases h;rfl
  .cases h;rfl
  .cases h;rfl
  .cases h;rfl
  .cases h
 unfold PT at hp;split at hp;.cases hp;rfl
 .cases hp;rfl
 .split at hp;.exact J7 _ _ hp
  .exact J7 _ _ hp
  .cases hp
 .cases hp
def M8{P:Program}{t:TypeId}{f off:Nat}{sh:Option Nat}(hf:H8 P t f=some (off,sh))(b o:Nat):(Instr.fieldAt t (.pointer (some ⟨b,o,none⟩)) f).run P w= .ok (.pointer (some ⟨b,o+off,none⟩)) w:=by
 unfold H8 at hf;split at hf
 .rename_i fs zG;split at hf
  .rename_i fd rG;split at hf;.rename_i n c h1 h2;cases hf;simp[Instr.fieldAt,run_underlying zG,rG,Instr.sureAddr,fieldPlace,Dv h1,Addr.add_lit]
   .cases hf
  .cases hf
 .cases hf
def Wg(hr:CX C γ0 w0 γ O U h a w){s ver:Nat}{cs:List Aa}{ow:List Nat}(hs:DP C U (.tmp s)=some (.box ver cs ow)):a.eval (.tmp s)= .pointer (some ⟨O s,0,none⟩):=by have h0:=RI hr s;rw[GC hs] at h0;exact h0.1
def Ua(hr:CX C γ0 w0 γ O U h a w){x:Operand}{s k:Nat}(hs:DP C U x=some (.EW s k)):a.eval x= .pointer (some ⟨O s,k,none⟩):=by obtain⟨t,h1,_⟩:=FZ hr hs;exact h1
def Za{o:Oper}{t:TypeId}{v:Aa}{d:Nat}{r:Em}{run:IT->Ah->Option Jy}(hb:TZ C fid t v d=some r)(FI:r.M3 C run (U.drop r.news) h U' h')
  (OU:∀n,C.kind fid d= .OU->v.cells.length=n->n≠0->Fy C γ0 w0 o a w ((U.drop [d]).set d (.box 0 v.cells [])) h)
  (heap:v.cells.length≠0->Fy C γ0 w0 o a w (U.put (some d) (.val (.ptr (some (h.length,0))))) (h++[.cells v.cells])):Fy C γ0 w0 o a w U' h':=by
 unfold TZ at hb;split at hb;.cases hb
 .rename_i n hn;split at hb;.cases hb
  .rename_i b;split at hb;.cases hb;obtain⟨h1,rfl,rfl⟩:=FI;rename_i hk;exact OU n hk h1 b
   .cases hb;obtain⟨h1,rfl,rfl⟩:=FI;exact heap Ac
def PZ{d s k:Nat}{run:IT->Ah->Option Jy}(FI:(Em.pure [(d,.EW s k)]).M3 C run (U.drop (Em.pure [(d,.EW s k)]).news) h U' h'):U'=U.set d (.EW s k)/\h'=h:=by obtain⟨rfl,rfl⟩:=FI;exact⟨rfl,rfl⟩
def ky{run:IT->Ah->Option Jy}(G:ER C run){o:Oper}{r:Em}{K:Act->World->Prop}{Q:Exit->Act->World->Prop}(hc:FW C fid ops U o=some r)(FI:r.M3 C run (U.drop r.news) h U' h')(hr:CX C γ0 w0 γ O U h a w)
  (j:∀γ' T a' w',CX C γ0 w0 γ' T U' h' a' w'->K a' w'):o.wp C.P a w K Q:=by
 by_cases IP:∃p args dst BM F,r= .op p args dst BM F/\p.still=true
 .obtain⟨p,args,dst,BM,F,rfl,yq⟩:=IP
  obtain⟨L,rfl,rfl,rfl⟩:=zP hc yq hr
  obtain⟨v,hv,rfl,rfl⟩:=FI
  obtain⟨u,R,N⟩:=L v hv
  exact IU R (j _ _ _ _ (hr.put λ_ _=>N))
 .have eZ:∀{p args dst},r= .op p args dst false none->p.still=false:=λ{p args dst} he=>by
   cases hp:p.still with
   |false=>rfl
   |true=>exact absurd ⟨p,args,dst,false,none,he,hp⟩ IP
  have Hj:∀{p dst x},S7 p dst x=some r->p.still=false:=λ{p dst x} he=>by
   obtain⟨args,_,e⟩:=DF he
   exact eZ e
  unfold FW at hc
  split at hc
  .rename_i x ho
   split at hc
   .rename_i d hd
    obtain⟨γ',Hd⟩:=RK hc FI hr
    exact IU (w':=w) (v:=a.eval x) (by simp[execOp,ho]) (j _ _ _ _ (by rw[hd];exact Hd))
   .cases hc
  .rename_i x ho
   split at hc
   .rename_i d hd
    obtain⟨γ',Hd⟩:=RK hc FI hr
    exact IU (w':=w) (v:=a.eval x) (by simp[execOp,ho]) (j _ _ _ _ (by rw[hd];exact Hd))
   .cases hc
  .rename_i c x y ho
   split at hc
   .rename_i d hcs hd
    obtain⟨γ',Hd⟩:=RK hc FI hr
    obtain⟨s,h1,_⟩:=FZ hr hcs
    have h1:a.eval c= .bool true:=h1
    exact IU (w':=w) (v:=a.eval x) (by simp[execOp,ho,h1,asBool]) (j _ _ _ _ (by rw[hd];exact Hd))
   .rename_i d hcs hd
    obtain⟨γ',Hd⟩:=RK hc FI hr
    obtain⟨s,h1,_⟩:=FZ hr hcs
    have h1:a.eval c= .bool false:=h1
    exact IU (w':=w) (v:=a.eval y) (by simp[execOp,ho,h1,asBool]) (j _ _ _ _ (by rw[hd];exact Hd))
   .cases Hj hc
  .rename_i t ho
   split at hc
   .rename_i d z hd hz
    split at hc
    .split at hc
     .rename_i Hw
      cases hc
      obtain⟨rfl,rfl⟩:=FI
      exact(VY ho hd hz Hw.2 hr).wp j
     .cases hc
    .rename_i hk
     refine(Za (o:=o) (a:=a) (w:=w) (γ0:=γ0) (w0:=w0) hc FI (λn h0 h1 h2=>absurd h0 (by simpa using hk)) λh1=>VZ ho hd hz h1 hr).wp j
   .cases hc
  .rename_i t x ho
   split at hc
   .rename_i d v hd hv
    exact(Za (o:=o) (a:=a) (w:=w) (γ0:=γ0) (w0:=w0) hc FI (λn _ h1 h2=>aF ho hd hv h1 h2 hr) λh1=>aG ho hd hv h1 hr).wp j
   .cases hc
  .split at hc
   .split at hc
    .cases Hj hc
    .cases hc
   .cases hc
  .rename_i t len parts ho
   split at hc
   .rename_i e ht
    split at hc
    .rename_i n hn
     split at hc
     .rename_i Hw
      split at hc
      .rename_i hlen
       cases hc
       obtain⟨v,hv,rfl,rfl⟩:=FI
       cases hv
       exact(js ho ht hn Hw.1 Hw.2 hlen.1 hr).wp j
      cases ha:Bm C U (parts.toList.map (·.2)) with
      |none=>rw[ha] at hc;cases hc
      |some args=>
       rw[ha] at hc;cases hc
       obtain⟨v,hv,rfl,rfl⟩:=FI
       exact(jr ho ht hn Hw.1 Hw.2 ha hv hr).wp j
     .cases hc
    .cases hc
   .cases hc
  .rename_i t x ho
   split at hc
   .rename_i d hd
    by_cases hp:∃ws,r= .pure ws
    .exact(Yi ho hd hc hp FI hr).wp j
    .unfold Lf at hc
     split at hc
     .rename_i n p ht hx
      cases hc
      obtain⟨v,hv,rfl,rfl⟩:=FI
      have hs:=jn ho ht hx hv hr
      rw[hd] at hs
      exact hs.wp j
     .split at hc
      .simp only at hc
       split at hc<;>(cases hc;exact absurd ⟨_,rfl⟩ hp)
      .cases hc
     .split at hc
      .cases hc;exact absurd ⟨_,rfl⟩ hp
      .cases hc
     .cases hc
   .cases hc
  .rename_i t x y ho
   split at hc
   .rename_i hd
    have Ow:=hc
    unfold I4 at hc
    split at hc
    .rename_i n p v K8 hx hv
     cases hc
     obtain⟨aJl,rfl⟩:=FI
     exact(zQ ho hd K8 hx hv aJl hr).wp j
    .split at hc
     .cases hc
      exact(mH ho hd Ow FI hr).wp j
     .cases hc
    .cases hc
   .cases hc
  .rename_i x ho
   split at hc
   .rename_i s ver cs ow d hd hs
    cases hc
    obtain⟨rfl,rfl⟩:=PZ FI
    have he:=Wg hr hs
    exact IU (w':=w) (v:= .pointer (some ⟨O s,0,none⟩)) (by simp[execOp,ho,he]) (j _ _ _ _ (by rw[hd];exact hr.put (d:=some d) λ_ _=>rfl))
   .rename_i s k d hd hs
    cases hc
    obtain⟨rfl,rfl⟩:=PZ FI
    have he:=Ua hr hs
    exact IU (w':=w) (v:= .pointer (some ⟨O s,k,none⟩)) (by simp[execOp,ho,he]) (j _ _ _ _ (by rw[hd];exact hr.put (d:=some d) λ_ _=>rfl))
   .cases Hj hc
  .split at hc
   .rename_i p hp
    have yq:=Hj hc
    rw[Yl hp] at yq
    cases yq
   .cases hc
  .cases Hj hc
  .rename_i src aI3 x ho
   split at hc
   .rename_i hq
    unfold VL at hq
    cases hv:EF C U x with
    |none=>rw[hv] at hc;cases hc
    |some v=>
     rw[hv] at hc;cases hc
     split at hq
     .cases hq
     .cases hq
     .cases hq
     .rename_i e hs hd
      split at hq
      .rename_i he
       obtain⟨v',u,h1,h2,rfl⟩:=FI
       exact(yh ho hs hd he hv h1 h2 hr).wp j
      .cases hq
     .split at hq<;>cases hq
     .cases hq
   .rename_i hq
    unfold VL at hq
    split at hq
    .cases hq
    .cases hq
    .cases hq
    .split at hq<;>cases hq
    .rename_i e hs hd
     split at hq
     .rename_i he _ _
      split at hc
      .cases hv:EF C U x with
       |none=>rw[hv] at hc;cases hc
       |some v=>
        rw[hv] at hc;cases hc
        obtain⟨u,h1,rfl⟩:=FI
        exact(aM ho hs hd he hv h1 hr).wp j
      .obtain⟨args,ha,rfl⟩:=DF hc
       obtain⟨u,h1,rfl,rfl⟩:=FI
       obtain⟨v,rfl,_⟩:=Gn hr ha
       exact(yg ho hs hd he ha h1 hr).wp j
     .cases hq
    .cases hq
   .rename_i p RN eX hq
    have yq:=Hj hc
    unfold VL at hq
    split at hq
    .cases hq;cases yq
    .cases hq;cases yq
    .cases hq
    .split at hq
     .cases hq;exact absurd rfl RN
     .cases hq
    .split at hq
     .cases hq;exact absurd rfl eX
     .cases hq
    .cases hq
   .cases hc
  .rename_i fn first captured ho
   split at hc
   .rename_i d as bs fz hd ha hb
    cases hc
    obtain⟨rfl,rfl⟩:=FI
    exact(gB ho hd ha hb hr).wp j
   .cases hc
  .rename_i t ho
   cases hc
   obtain⟨rfl,rfl⟩:=FI
   exact(jz ho hr).wp j
  .rename_i t l c ho
   split at hc
   .rename_i e ht
    split at hc
    .rename_i n b z V vc hn hb hz hl Vi
     cases hc
     obtain⟨v,h1,rfl⟩:=FI
     exact(jw ho ht hn hb hz hl Vi h1 hr).wp j
    .cases hc
   .cases hc
  .rename_i t m k x ho
   split at hc
   .rename_i kt e ht
    split at hc
    .rename_i D E I hd hk ha
     cases hc
     obtain⟨h1,rfl⟩:=FI
     exact(gF (.inl ho) hd ht hk ha h1 hr).wp j
    .rename_i D E I hd hk ha
     cases hc
     obtain⟨v,h1,rfl⟩:=FI
     exact(gM (.inl ho) hd ht hk ha h1 hr).wp j
    .cases hc
   .cases hc
  .rename_i t m k x ho
   split at hc
   .rename_i kt e ht
    split at hc
    .rename_i D E I hd hk ha
     cases hc
     obtain⟨h1,rfl⟩:=FI
     exact(gF (.inr ho) hd ht hk ha h1 hr).wp j
    .rename_i D E I hd hk ha
     cases hc
     obtain⟨v,h1,rfl⟩:=FI
     exact(gM (.inr ho) hd ht hk ha h1 hr).wp j
    .cases hc
   .cases hc
  .rename_i t m k ok ho
   split at hc
   .rename_i kt e ht
    split at hc
    .rename_i z D E hk hz ha
     cases hc
     obtain⟨v,h1,rfl,rfl⟩:=FI
     exact(j_ ho ht hk hz ha h1 hr).wp j
    .rename_i z D E hk hz ha
     cases hc
     obtain⟨v,h1,rfl⟩:=FI
     exact(kx ho ht hk hz ha h1 hr).wp j
    .cases hc
   .cases hc
  .rename_i t x lo hi mx ho
   split at hc
   .rename_i e ht
    split at hc
    .rename_i n hn
     obtain⟨args,ha,rfl⟩:=GY hc
     obtain⟨v,h1,rfl⟩:=FI
     simp only[DC] at h1
     split at h1
     .rename_i J
      cases h1
      exact(kq ho ht hn ha J hr).wp j
     .cases h1
    .cases hc
   .cases hc
  .rename_i t x ho
   split at hc
   .cases hc
   .rename_i u hu ht
    obtain⟨args,ha,rfl⟩:=GY hc
    obtain⟨v,h1,rfl⟩:=FI
    obtain⟨y,rfl,_⟩:=Gn hr ha
    cases h1
    exact(ku ho ht (λi e=>hu i e) ha hr).wp j
   .cases hc
  .rename_i t m k ho
   split at hc
   .rename_i kt e ht
    split at hc
    .rename_i z hk hz
     obtain⟨args,ha,rfl⟩:=GY hc
     obtain⟨v,h1,rfl⟩:=FI
     obtain⟨A,B,rfl,_,_⟩:=EP hr ha
     exact(mN ho ht hk hz ha h1 hr).wp j
    .rename_i z hk hz
     obtain⟨args,ha,rfl⟩:=GY hc
     obtain⟨v,h1,rfl⟩:=FI
     obtain⟨A,B,rfl,_,_⟩:=EP hr ha
     exact(mO ho ht hk hz ha h1 hr).wp j
    .cases hc
   .cases hc
  .rename_i t m s x ho
   split at hc
   .rename_i hd
    obtain⟨args,ha,rfl⟩:=GY hc
    obtain⟨v,h1,rfl⟩:=FI
    obtain⟨A,B,H,rfl⟩:∃A B H,args=[A,B,H]:=by
     have:=DE hr ha
     cases args with
     |nil=>cases h1
     |cons A l1=>cases l1 with
      |nil=>cases h1
      |cons B S=>cases S with
       |nil=>cases h1
       |cons H l3=>cases l3 with
        |nil=>exact⟨_,_,_,rfl⟩
        |cons _ _=>cases h1
    exact(mP ho hd ha h1 hr).wp j
   .cases hc
  .rename_i t x lo hi ho
   split at hc
   .cases Hj hc
   .rename_i e ht
    split at hc
    .rename_i n hn
     split at hc
     .obtain⟨args,ha,rfl⟩:=GY hc
      obtain⟨v,h1,rfl⟩:=FI
      cases args with
      |nil=>cases h1
      |cons y l=>exact(ki ho ht hn ha h1 hr).wp j
     .cases Hj hc
    .cases hc
   .cases hc
  .rename_i t x f ho
   split at hc
   .rename_i off sh d hf hd
    split at hc
    .rename_i s ver cs ow hs
     cases hc
     obtain⟨rfl,rfl⟩:=PZ FI
     have he:=Wg hr hs
     exact IU (w':=w) (v:= .pointer (some ⟨O s,off,none⟩)) (by simp only[execOp,ho,he];exact EA (by rw[M8 hf];simp)) (j _ _ _ _ (by rw[hd];exact hr.put (d:=some d) λ_ _=>rfl))
    .rename_i s k hs
     cases hc
     obtain⟨rfl,rfl⟩:=PZ FI
     have he:=Ua hr hs
     exact IU (w':=w) (v:= .pointer (some ⟨O s,k+off,none⟩)) (by simp only[execOp,ho,he];exact EA (M8 hf _ _)) (j _ _ _ _ (by rw[hd];exact hr.put (d:=some d) λ_ _=>rfl))
    .cases Hj hc
   .cases hc
  .split at hc
   .cases Hj hc
   .cases hc
  .split at hc
   .split at hc
    .cases Hj hc
    .cases hc
   .split at hc
    .split at hc
     .cases hc
     .cases Hj hc
    .cases hc
   .cases hc
  .split at hc
   .cases Hj hc
   .split at hc
    .cases Hj hc
    .cases hc
   .cases hc
  .cases Hj hc
  .rename_i c ho
   unfold QN at hc
   split at hc
   .split at hc
    .split at hc
     .cases Hj hc
     .cases Hj hc
     .cases hc
    .cases hc
   .rename_i hcl
    split at hc
    .rename_i t t' s x h0 h1 Ep
     split at hc
     all_goals first
      |(cases hc;done)
      | (rename_i e _ ht Ir
         split at hc
         . rename_i n b hn hb
           split at hc
           . rename_i eY
             split at hc
             . rename_i v u ha
               split at hc
               . rename_i Fp
                 split at hc
                 . cases hc
                   obtain ⟨r', q, rfl⟩ := FI
                   exact (zW ho hcl h0 h1 Ep ht (by first | exact .inl ⟨_, Ir⟩ | exact .inr Ir) hn hb Fp eY ha q hr).wp j
                 . split at hc
                   . cases hc
                     obtain ⟨r', q, rfl, rfl⟩ := FI
                     exact (gD ho hcl h0 h1 Ep ht (by first | exact .inl ⟨_, Ir⟩ | exact .inr Ir) hn hb Fp eY ha q hr).wp j
                   . cases hc
                     obtain ⟨r', q, rfl, rfl⟩ := FI
                     exact (mK ho hcl h0 h1 Ep ht (by first | exact .inl ⟨_, Ir⟩ | exact .inr Ir) hn hb Fp eY ha q hr).wp j
               . split at hc
                 . cases hc
                   obtain ⟨r', q, rfl⟩ := FI
                   exact (ke ho hcl h0 h1 Ep ht (by first | exact .inl ⟨_, Ir⟩ | exact .inr Ir) hn hb eY ha q hr).wp j
                 . cases hc
             . cases hc
           . cases hc
         . cases hc)
    .cases hc
   .rename_i hcl
    split at hc
    .rename_i t t' s x h0 h1 Ep
     split at hc
     all_goals first
      |(cases hc;done)
      | (rename_i e _ ht Ir
         split at hc
         . rename_i n hn
           obtain ⟨args, ha, rfl⟩ := GY hc
           obtain ⟨v, q, rfl⟩ := FI
           obtain ⟨A, B, rfl, _, _⟩ := EP hr ha
           exact (kh ho hcl h0 h1 Ep ht (by first | exact .inl ⟨_, Ir⟩ | exact .inr Ir) hn ha q hr).wp j
         . cases hc)
    .cases hc
   .rename_i hcl
    split at hc
    .rename_i t s h0 Ep
     split at hc
     .rename_i e ht
      split at hc
      .rename_i n z hn hz
       obtain⟨args,ha,rfl⟩:=GY hc
       obtain⟨v,q,rfl⟩:=FI
       obtain⟨A,rfl,_⟩:=Gn hr ha
       exact(zZ ho hcl h0 Ep ht hn hz ha q hr).wp j
      .cases hc
     .cases hc
    .cases hc
   .split at hc
    .cases Hj hc
    .cases hc
   .split at hc
    .cases Hj hc
    .cases hc
   .rename_i f hcl
    split at hc
    .rename_i hf
     split at hc
     .rename_i s i x Ep
      split at hc
      .rename_i Fp
       obtain⟨args,ha,rfl⟩:=GY hc
       obtain⟨v,q,rfl⟩:=FI
       exact yi G ho hcl hf Ep Fp ha q hr λγ' v w' Hd=>j _ _ _ _ Hd
      .cases hc
     .cases hc
    split at hc
    rotate_left
    .cases hc
    rename_i T6
    rw[<-T6] at hcl
    cases ha:Bm C U c.args.toList with
    |none=>rw[ha] at hc;cases hc
    |some args=>
     rw[ha] at hc
     simp only[Bt,Bx] at hc
     split at hc
     .cases hc
      obtain⟨Im,M,h1,h2,q,rfl,rfl⟩:=FI
      exact zS G ho hcl ha Im h2 q hr λγ' v w' Hd=>j _ _ _ _ Hd
     .cases hc
      obtain⟨M,h1,rfl⟩:=FI
      exact jy G ho hcl ha h1 hr λγ' v w' Hd=>j _ _ _ _ Hd
   .rename_i g hn hcl
    split at hc
    .rename_i W args hg ha
     cases hc
     obtain⟨f,args',M,h0,h1,rfl⟩:=FI
     exact zT G ho hcl hg ha h0 h1 hr λγ' v w' Hd=>j _ _ _ _ Hd
    .cases hc
   .cases hc
  .cases hc
end
end Go.Am
end
section
namespace Go.Am
open Go
section
variable{C:FB}{U Z:BJ}{fid:FuncId}{ops:List Oper}
def aO{x:Operand}(h:∀t,x= .tmp t->Z.at t=U.at t):DP C Z x=DP C U x:=by
 cases x with
 |tmp t=>simp only[DP,h t rfl]
 |const v=>
  cases v with
  |slice a b c=>cases a<;>cases b<;>cases c<;>rfl
  |_=>rfl
 |global g=>rfl
 |func f=>rfl
def Vj(C:FB)(U Z:BJ)(xs:List Operand):Prop:=∀x∈xs,DP C Z x=DP C U x
def Vj.rP{xs:List Operand}(h:∀t∈JF xs,Z.at t=U.at t):Vj C U Z xs:=λx hx=>aO λt ht=>h t (by subst ht;exact Ce.2 ⟨_,hx,rfl⟩)
def Vj.val{xs:List Operand}(h:Vj C U Z xs){x:Operand}(hx:x∈xs):EF C Z x=EF C U x:=by unfold EF;rw[h x hx]
def Vj.Km{xs:List Operand}(h:Vj C U Z xs):∀{ys:List Operand},(∀y∈ys,y∈xs)->Bm C Z ys=Bm C U ys
 |[],_=>rfl
 |y::ys,hy=>by unfold Bm;rw[h.val (hy y Ax),h.Km λz hz=>hy z (by simp[hz])]
def Vj.move{xs:List Operand}(h:Vj C U Z xs){x:Operand}(hx:x∈xs)(d:Nat)(take:Bool):Ki C Z x d take=Ki C U x d take:=by unfold Ki;rw[h x hx]
def Vj.BM{xs:List Operand}(h:Vj C U Z xs){x:Operand}(hx:x∈xs):KP C Z x=KP C U x:=by unfold KP;rw[h x hx]
def Vj.Dt{xs:List Operand}(h:Vj C U Z xs){x:Operand}(hx:x∈xs):C3 Z x=C3 U x:=by
 cases x with
 |tmp t=>have:=h _ hx;simp only[DP,Bx] at this;simp only[C3,this]
 |_=>rfl
def Vj.FV{xs:List Operand}(h:Vj C U Z xs):∀{ys:List Operand},(∀y∈ys,y∈xs)->Am.FV C Z ys=Am.FV C U ys
 |[],_=>rfl
 |y::ys,hy=>by unfold Am.FV;rw[h y (hy y Ax),h.FV λz hz=>hy z (by simp[hz])]
def Vj.addr{xs:List Operand}(h:Vj C U Z xs){x:Operand}(hx:x∈xs)(hb:∀s∈(NC C U x).toList,Z.at s=U.at s)(hn:FU C U x≠none):FU C Z x=FU C U x:=by
 have Qu:=h x hx;cases hs:DP C U x with
 |none=>unfold FU at hn;rw[hs] at hn;exact absurd (by split<;>simp_all) hn
 |some sl=>
  rw[hs] at Qu;cases sl with
  |EW s o=>
   have h1:∀J:BJ,DP C J x=some (.EW s o)->FU C J x=match J.at s with| .box ver cs ow=>some (.OU s o ver cs ow)|_=>none:=λJ b=>by unfold FU;rw[b];cases x<;>rfl
   rw[h1 U hs] at hn⊢;rw[h1 Z Qu];have h2:s∈(NC C U x).toList:=by
    unfold NC;rw[h1 U hs];cases PV:U.at s with
    |box ver cs ow=>simp
    |_=>rw[PV] at hn;exact absurd rfl hn
   rw[hb s h2]
  |_=>unfold FU;rw[hs,Qu];cases x<;>rfl
def Vj.load{xs:List Operand}(h:Vj C U Z xs){x:Operand}(hx:x∈xs)(hb:∀s∈(NC C U x).toList,Z.at s=U.at s){t:TypeId}{d:Nat}{take:Bool}{r:Em}(hc:Lf C U t x d take=some r):Lf C Z t x d take=some r:=by
 have hn:FU C U x≠none:=λhe=>by unfold Lf at hc;rw[he] at hc;split at hc<;>simp_all
 unfold Lf at hc⊢;rw[h.addr hx hb hn];exact hc
def Vj.store{xs:List Operand}(h:Vj C U Z xs){x y:Operand}(hx:x∈xs)(hy:y∈xs)(hb:∀s∈(NC C U x).toList,Z.at s=U.at s){t:TypeId}{r:Em}(hc:I4 C U t x y=some r):I4 C Z t x y=some r:=by
 have hn:FU C U x≠none:=λhe=>by unfold I4 at hc;rw[he] at hc;split at hc<;>simp_all
 unfold I4 at hc⊢;rw[h.addr hx hb hn,h.val hy,h.BM hy,h.Dt hy];exact hc
def Vj.call{c:Call}(h:Vj C U Z c.operands.toList)(dst:Option Nat):QN C fid Z c dst=QN C fid U c dst:=by
 have ha:∀y∈c.args.toList,y∈c.operands.toList:=λy hy=>by unfold Call.operands;rw[Gw];exact BK _ hy
 have hv:Bm C Z c.args.toList=Bm C U c.args.toList:=h.Km ha;unfold QN;split;.rw[hv]
 .split
  .rename_i Ep;have h1:∀{s x:Operand},c.args.toList=[s,x]->KP C Z s=KP C U s/\C3 Z s=C3 U s/\Bm C Z [s,x]=Bm C U [s,x]:=λ{s x} he=>by rw[he] at ha;exact⟨h.BM (ha s Ax),h.Dt (ha s Ax),h.Km λy hy=>ha y hy⟩
   obtain⟨e,d,b⟩:=h1 Ep;rw[e,d,b]
  .rfl
 .split;.rename_i Ep;rw[Ep] at ha;rw[h.Km λy hy=>ha y hy]
  .rfl
 .split;.rename_i Ep;rw[Ep] at ha;rw[h.Km λy hy=>ha y hy]
  .rfl
 .rw[hv]
 .rw[hv]
 .split
  .split;.rename_i s i v Ep;rw[Ep] at ha;rw[h.BM (ha v Ax),h.Km λy hy=>ha y hy]
   .rfl
  .rw[hv]
 .rename_i g _ hcl;have hg:g∈c.operands.toList:=by unfold Call.operands;rw[hcl];simp
  rw[hv,h.val hg]
 .rfl
def Wh{o:Oper}{r:Em}(hc:FW C fid ops U o=some r)(ht:∀t∈JF o.op.operands.toList,Z.at t=U.at t)(hb:∀s∈HG C U o,Z.at s=U.at s):FW C fid ops Z o=some r:=by
 have h:Vj C U Z o.op.operands.toList:= .rP ht
 unfold FW at hc⊢
 cases ho:o.op with
 |move x=>
  rw[ho] at h
  simp only[ho] at hc⊢
  have:=λd=>h.move (x:=x) It d
  simpa only[this] using hc
 |assign x=>
  rw[ho] at h
  simp only[ho] at hc⊢
  have:=λd=>h.move (x:=x) It d
  simpa only[this] using hc
 |pick c a b=>
  rw[ho] at h
  simp only[ho] at hc⊢
  have h1:=λd=>h.move (x:=a) It d
  have h2:=λd=>h.move (x:=b) It d
  rw[h c It,h.Km (ys:=[c,a,b]) It]
  simpa only[h1,h2] using hc
 |alloc t=>rw[ho] at hc;exact hc
 |box t x=>
  rw[ho] at h
  simp only[ho] at hc⊢
  rw[h.val (x:=x) It]
  exact hc
 |build t parts=>
  rw[ho] at h
  simp only[ho] at hc⊢
  rw[h.Km (ys:=parts.toList.map (·.2)) It]
  exact hc
 |buildSlice t len parts=>
  rw[ho] at h
  simp only[ho] at hc⊢
  rw[h.Km (ys:=parts.toList.map (·.2)) It]
  exact hc
 |load t x=>
  rw[ho] at h
  simp only[ho] at hc⊢
  split at hc
  .exact h.load It (λs hs=>hb s (by simpa only[HG,ho] using hs)) hc
  .cases hc
 |store t x y=>
  rw[ho] at h
  simp only[ho] at hc⊢
  split at hc
  .exact h.store It It (λs hs=>hb s (by simpa only[HG,ho] using hs)) hc
  .cases hc
 |nilCheck x=>
  rw[ho] at h
  simp only[ho] at hc⊢
  have e:=h.Km (ys:=[x]) It
  rw[h x It]
  cases hs:DP C U x with
  |none=>rw[hs] at hc;cases x<;>cases hd:o.dst<;>rw[hd] at hc<;>first|exact hc|(show S7 _ _ (Bm C Z [_])=some r;rw[e];exact hc)
  |some sl=>rw[hs] at hc;cases sl<;>cases x<;>cases hd:o.dst<;>rw[hd] at hc<;>first|exact hc|(show S7 _ _ (Bm C Z [_])=some r;rw[e];exact hc)
 |binOp op t x y k=>
  rw[ho] at h
  simp only[ho] at hc⊢
  rw[h.Km (ys:=[x,y]) It]
  exact hc
 |unOp op t x=>
  rw[ho] at h
  simp only[ho] at hc⊢
  rw[h.Km (ys:=[x]) It]
  exact hc
 |convert src dst x=>
  rw[ho] at h
  simp only[ho] at hc⊢
  rw[h.Km (ys:=[x]) It,h.val (x:=x) It]
  exact hc
 |makeFunc fn first captured=>
  rw[ho] at h
  simp only[ho] at hc⊢
  rw[h.Km (ys:=first.toList) (λ_ hm=>by simp[Op.operands,hm]),h.FV (ys:=captured.toList) (λ_ hm=>by simp[Op.operands,hm])]
  exact hc
 |makeMap t r'=>
  rw[ho] at hc
  cases r' with
  |none=>exact hc
  |some _=>cases hc
 |makeSlice t l c=>
  rw[ho] at h
  simp only[ho] at hc⊢
  rw[h.val (x:=l) It,h.val (x:=c) It]
  exact hc
 |insert t m k v=>
  rw[ho] at h
  simp only[ho] at hc⊢
  rw[h.Km (ys:=[m,k,v]) It]
  exact hc
 |mapUpdate t m k v=>
  rw[ho] at h
  simp only[ho] at hc⊢
  rw[h.Km (ys:=[m,k,v]) It]
  exact hc
 |lookup t m k ok=>
  rw[ho] at h
  simp only[ho] at hc⊢
  rw[h.Km (ys:=[m,k]) It]
  exact hc
 |slice t x lo hi mx=>
  rw[ho] at h hc
  cases mx with
  |none=>
   have e:=h.Km (ys:=x::(lo.toList++hi.toList)) (by cases lo<;>cases hi<;>simp[Op.operands])
   simp only at hc⊢
   rw[e]
   exact hc
  |some mx=>cases lo with
   |none=>cases hc
   |some lo=>cases hi with
    |none=>cases hc
    |some hi=>
     have e:=h.Km (ys:=[x,lo,hi,mx]) It
     simp only at hc⊢
     rw[e]
     exact hc
 |makeInterface t x=>
  rw[ho] at h
  simp only[ho] at hc⊢
  rw[h.Km (ys:=[x]) It]
  exact hc
 |mapEntry t m k=>
  rw[ho] at h
  simp only[ho] at hc⊢
  rw[h.Km (ys:=[m,k]) It]
  exact hc
 |entryStore t m s v=>
  rw[ho] at h
  simp only[ho] at hc⊢
  rw[h.Km (ys:=[m,s,v]) It]
  exact hc
 |fieldAddr t x f=>
  rw[ho] at h
  simp only[ho] at hc⊢
  have e:=h.Km (ys:=[x]) It
  rw[h x It]
  cases hf:H8 C.P t f with
  |none=>rw[hf] at hc;cases hc
  |some q=>
   rw[hf] at hc
   cases hd:o.dst with
   |none=>rw[hd] at hc;cases hc
   |some d=>
    rw[hd] at hc
    cases hs:DP C U x with
    |none=>rw[hs] at hc;cases x<;>first|exact hc|(show S7 _ _ (Bm C Z [_])=some r;rw[e];exact hc)
    |some sl=>rw[hs] at hc;cases sl<;>cases x<;>first|exact hc|(show S7 _ _ (Bm C Z [_])=some r;rw[e];exact hc)
 |field t x f=>
  rw[ho] at h
  simp only[ho] at hc⊢
  rw[h.Km (ys:=[x]) It]
  exact hc
 |indexAddr t x i=>
  rw[ho] at h
  simp only[ho] at hc⊢
  rw[h.Km (ys:=[x,i]) It]
  exact hc
 |index t x i=>
  rw[ho] at h
  simp only[ho] at hc⊢
  rw[h.Km (ys:=[x,i]) It]
  exact hc
 |extract x i=>
  rw[ho] at h
  simp only[ho] at hc⊢
  rw[h.Km (ys:=[x]) It]
  exact hc
 |call c=>
  rw[ho] at h
  simp only[ho] at hc⊢
  rw[h.call]
  exact hc
 |_=>simp only[ho] at hc;cases hc
end
end Go.Am
end
section
namespace Go.Am
open Go
mutual
def Aa.beq_eq:∀{a b:Aa},Aa.beq a b=true->a=b
 | .bool a,b,h=>by cases b<;>simp[Aa.beq] at h⊢;exact h
 | .int k a,b,h=>by cases b<;>simp[Aa.beq] at h⊢;exact h
 | .str a,b,h=>by cases b<;>simp[Aa.beq] at h⊢;exact h
 | .ptr a,b,h=>by cases b<;>simp[Aa.beq] at h⊢;exact h
 | .EC a,b,h=>by cases b<;>simp[Aa.beq] at h⊢;exact h
 | .BW a,b,h=>by cases b<;>simp[Aa.beq] at h⊢;exact Aa.NR h
 | .sl n a,b,h=>by cases b<;>simp[Aa.beq] at h⊢;exact⟨h.1,Aa.gN h.2⟩
 | .slnil,b,h=>by cases b<;>simp[Aa.beq] at h⊢
 | .CW a c d e,b,h=>by cases b<;>simp[Aa.beq] at h⊢;exact⟨h.1.1.1,h.1.1.2,h.1.2,h.2⟩
 | .map a,b,h=>by cases b<;>simp[Aa.beq] at h⊢;exact h
 | .func f a c,b,h=>by cases b<;>simp[Aa.beq] at h⊢;exact⟨h.1.1,Aa.NR h.1.2,Aa.NR h.2⟩
 | .nilFunc,b,h=>by cases b<;>simp[Aa.beq] at h⊢
 | .iface t a,b,h=>by cases b<;>simp[Aa.beq] at h⊢;exact⟨h.1,Aa.beq_eq h.2⟩
 | .nilIface,b,h=>by cases b<;>simp[Aa.beq] at h⊢
 | .agg a,b,h=>by cases b<;>simp[Aa.beq] at h⊢;exact Aa.NR h
 | .tuple a,b,h=>by cases b<;>simp[Aa.beq] at h⊢;exact Aa.NR h
def Aa.NR:∀{a b:List Aa},Aa.Rw a b=true->a=b
 |[],b,h=>by cases b<;>simp[Aa.Rw] at h⊢
 |a::x,b,h=>by
  cases b with
  |nil=>simp[Aa.Rw] at h
  |cons c y=>simp[Aa.Rw] at h⊢;exact⟨Aa.beq_eq h.1,Aa.NR h.2⟩
def Aa.gN:∀{a b:List (List Aa)},Aa.Rx a b=true->a=b
 |[],b,h=>by cases b<;>simp[Aa.Rx] at h⊢
 |a::x,b,h=>by
  cases b with
  |nil=>simp[Aa.Rx] at h
  |cons c y=>simp[Aa.Rx] at h⊢;exact⟨Aa.NR h.1,Aa.gN h.2⟩
end
def BJ.Jq(U:BJ):∀(a b:List (Nat×D3)),U.DX (a++b)=(U.DX a).DX b
 |[],_=>rfl
 |(s,x)::a,b=>BJ.Jq (U.set s x) a b
def BJ.Jr:∀(ws:List (Nat×D3)) (U:BJ),(U.DX ws).length=U.length
 |[],_=>rfl
 |(s,x)::ws,U=>by rw[BJ.DX,BJ.Jr ws];simp
def BJ.Wi(U:BJ)(s t:Nat)(x:D3):BJ.at (U.set s x) t=if s=t/\t<U.length then x else U.at t:=by
 by_cases h:s=t
 .subst h;by_cases hl:s<U.length;.simp[BJ.at,List.getD,hl]
  .simp[BJ.at,List.getD,hl]
 .simp[BJ.at,List.getD,Ao h,h]
def BJ.Gp:∀(ws:List (Nat×D3)) (U:BJ) (t:Nat),(∀p∈ws,p.1≠t)->(U.DX ws).at t=U.at t
 |[],_,_,_=>rfl
 |(s,x)::ws,U,t,h=>by rw[BJ.DX,BJ.Gp ws _ t λp hp=>h p (by simp[hp]),BJ.Wi,Ag];exact λe=>h (s,x) Ax e.1
def BJ.Wj:∀(ws:List (Nat×D3)) (U:BJ) (t:Nat),(U.DX ws).at t=U.at t\/∃p∈ws,p.1=t/\(U.DX ws).at t=p.2
 |[],_,_=> .inl rfl
 |(s,x)::ws,U,t=>by
  rcases BJ.Wj ws (U.set s x) t with h|⟨p,hp,h1,h2⟩
  .rw[BJ.Wi] at h;by_cases hc:s=t/\t<U.length;.rw[Af hc] at h;exact .inr ⟨(s,x),Ax,hc.1,h⟩
   .rw[Ag hc] at h;exact .inl h
  .exact .inr ⟨p,by simp[hp],h1,h2⟩
def BJ.IW:∀(ws:List (Nat×D3)) (U Z:BJ) (t:Nat),Z.length=U.length->Z.at t=U.at t->(Z.DX ws).at t=(U.DX ws).at t
 |[],_,_,_,_,h=>h
 |(s,x)::ws,U,Z,t,hl,h=>by refine BJ.IW ws _ _ t (by simpa using hl) ?_;rw[BJ.Wi,BJ.Wi,hl,h]
def BJ.ext{U Z:BJ}(hl:Z.length=U.length)(h:∀t,Z.at t=U.at t):Z=U:=by apply List.ext_getElem hl;intro i h1 h2;have:=h i;simpa[BJ.at,List.getD,h1,h2] using this
def BJ.ae{U:BJ}{a b:List (Nat×D3)}(h:∀p∈a,∀q∈b,p.1≠q.1):(U.DX a).DX b=(U.DX b).DX a:=by
 refine BJ.ext (by simp[BJ.Jr]) λt=>?_;by_cases ha:∀p∈a,p.1≠t;.rw[BJ.Gp a (U.DX b) t ha];exact BJ.IW b _ _ t (by simp[BJ.Jr]) (BJ.Gp a U t ha)
 .have⟨p,hp,c⟩:∃p∈a,p.1=t:=Classical.byContradiction λhn=>ha λp hp e=>hn ⟨p,hp,e⟩;have hb:∀q∈b,q.1≠t:=λq hq e=>h p hp q hq (by rw[c,e]);rw[BJ.Gp b (U.DX a) t hb];exact(BJ.IW a _ _ t (by simp[BJ.Jr]) (BJ.Gp b U t hb)).symm
def NS{U:BJ}{ds:List Nat}:MI U ds=true↔∀x t o,U.at x= .EW t o->t∉ds:=by
 unfold MI;rw[CK];constructor
 .intro h x t o hx;by_cases hl:x<U.length;.have:=h (U.at x) (by simp[BJ.at,List.getD,hl]);rw[hx] at this;simpa using this
  .simp[BJ.at,List.getD,hl] at hx
 .intro h s hs;obtain⟨i,hi⟩:=CF hs;cases s with
  |EW t o=>have:=h i t o (by simp[BJ.at,List.getD,hi]);simpa using this
  |_=>rfl
def af{a b:List Nat}:T0 a b=true↔∃x,x∈a/\x∈b:=by simp[T0]
structure St where
 idx:Nat
 fp:FP
 fl:Option Kb
def KH(i:Nat)(r:Em)(U:BJ):Option Kb:=
 match r with
 | .load n p (some d)=>match U.at d with
  | .val v=>some {idx:=i,n,p,v}
  |_=>none
 |_=>none
def Wk(i:Nat)(r:Em)(U:BJ)(fl:List Kb):Mo i r U fl=(KH i r U).toList++fl:=by
 cases r with
 |load n p dst=>
  cases dst with
  |none=>rfl
  |some d=>simp only[Mo,KH];cases U.at d<;>rfl
 |_=>rfl
def Ym{i:Nat}{r:Em}{U Z:BJ}(h:∀d∈r.wf,Z.at d=U.at d):KH i r Z=KH i r U:=by
 cases r with
 |load n p dst=>
  cases dst with
  |none=>rfl
  |some d=>simp only[KH];rw[h d (by simp[Em.wf])]
 |_=>rfl
def Mr(d:Option Nat)(U U':BJ):Prop:=
 match d with
 |none=>U'=U
 |some d=>match U.at d with
  | .val v=>∃b,v= .bool b/\U'=U.set d (.OL b)
  |_=>U'=U
section
variable{C:FB}{fid:FuncId}{ops:List Oper}{run:IT->Ah->Option Jy}{U Z U':BJ}{h h':Ah}
def O6(C:FB)(fid:FuncId)(ops:List Oper)(run:IT->Ah->Option Jy)(s:St)(U:BJ)(h:Ah)(U':BJ)(h':Ah):Prop:=
 ∃o,ops[s.idx]?=some o/\
  ((Iq ops U o = .M0 false /\ s.fp = UK C ops U o none /\ s.fl = none /\ U' = U.put o.dst .skip /\ h' = h) \/
   ∃ r U1, Iq ops U o = .M0 true /\ FW C fid ops U o = some r /\ s.fp = UK C ops U o (some r) /\ r.M3 C run (U.drop r.news) h U1 h' /\ s.fl = KH s.idx r U1 /\
     Mr (if RF ops s.idx then o.dst else none) U1 U')
def Wl(U:BJ)(d:Option Nat)(x:D3):U.put d x=U.DX (d.toList.map λs=>(s,x)):=by cases d<;>rfl
def ag(U:BJ)(d:Option (Nat×Aa)):U.Dt d=U.DX (d.toList.map λp=>(p.1,.val p.2)):=by cases d<;>rfl
def Zb{r:Em}(hd:r.M3 C run U h U' h'):∃ws,U'=U.DX ws/\(∀p∈ws,p.1∈r.wf)/\(∀p∈ws,∀t o,p.2= .EW t o->t∈r.qW)/\∀Z,r.M3 C run Z h (Z.DX ws) h':=by
 have one:∀(d:Option Nat) (x:D3),(∀t o,x≠ .EW t o)->U'=U.put d x->d.toList⊆r.wf->(∀Z,r.M3 C run Z h (Z.put d x) h')->
   ∃ws,U'=U.DX ws/\(∀p∈ws,p.1∈r.wf)/\(∀p∈ws,∀t o,p.2= .EW t o->t∈r.qW)/\∀Z,r.M3 C run Z h (Z.DX ws) h':=by
  intro d x hx he hw ht;refine⟨d.toList.map λs=>(s,x),by rw[<-Wl];exact he,λp hp=>?_,λp hp t o hl=>?_,λZ=>by rw[<-Wl];exact ht Z⟩;.obtain⟨s,hs,rfl⟩:=AZ.1 hp;exact hw hs
  .obtain⟨s,hs,rfl⟩:=AZ.1 hp;exact absurd hl (hx t o)
 have JA:∀(i:Option (Nat×Aa)) (d:Option Nat) (x:D3),(∀t o,x≠ .EW t o)->U'=(U.Dt i).put d x->d.toList⊆r.wf->(i.map (·.1)).toList⊆r.wf->(∀Z,r.M3 C run Z h ((Z.Dt i).put d x) h')->
   ∃ws,U'=U.DX ws/\(∀p∈ws,p.1∈r.wf)/\(∀p∈ws,∀t o,p.2= .EW t o->t∈r.qW)/\∀Z,r.M3 C run Z h (Z.DX ws) h':=by
  intro i d x hx he hw kz ht;have e:∀Z:BJ,(Z.Dt i).put d x=Z.DX ((i.toList.map λp=>(p.1,.val p.2))++d.toList.map λs=>(s,x)):=λZ=>by rw[BJ.Jq,<-ag,<-Wl]
  refine⟨_,by rw[he,e],λp hp=>?_,λp hp t o hl=>?_,λZ=>by rw[<-e];exact ht Z⟩
  .rcases Aq.1 hp with hp|hp
   .obtain⟨q,hq,rfl⟩:=AZ.1 hp;exact kz (by cases i<;>simp_all)
   .obtain⟨s,hs,rfl⟩:=AZ.1 hp;exact hw hs
  .rcases Aq.1 hp with hp|hp
   .obtain⟨q,hq,rfl⟩:=AZ.1 hp;cases hl
   .obtain⟨s,hs,rfl⟩:=AZ.1 hp;exact absurd hl (hx t o)
 cases r with
 |pure ws=>obtain⟨rfl,rfl⟩:=hd;refine⟨ws,rfl,λp hp=>AZ.2 ⟨p,hp,rfl⟩,λp hp t o hl=>?_,λZ=>⟨rfl,rfl⟩⟩;exact Ce.2 ⟨p.2,AZ.2 ⟨p,hp,rfl⟩,by rw[hl]⟩
 |op p args dst BM i=>obtain⟨v,hv,rfl,rfl⟩:=hd;exact JA i dst _ (by cases BM<;>simp) rfl (by simp[Em.wf]) (by simp[Em.wf]) λZ=>⟨v,hv,rfl,rfl⟩
 |box n v d=>obtain⟨hn,rfl,rfl⟩:=hd;exact one (some d) _ Ax rfl (by simp[Em.wf]) λZ=>⟨hn,rfl,rfl⟩
 |closure fn x b fz d=>
  obtain⟨rfl,rfl⟩:=hd;refine⟨(fz.map λ(s,cs)=>(s,.val (.BW cs)))++[(d,.val (.func fn x b))],by rw[BJ.Jq];rfl,λp hp=>?_,λp hp t o hl=>?_,λZ=>⟨by rw[BJ.Jq];rfl,rfl⟩⟩
  .rcases Aq.1 hp with hp|hp
   .obtain⟨q,hq,rfl⟩:=AZ.1 hp;exact X6 _ (AZ.2 ⟨q,hq,rfl⟩)
   .simp at hp;subst hp;simp[Em.wf]
  .rcases Aq.1 hp with hp|hp
   .obtain⟨q,hq,rfl⟩:=AZ.1 hp;cases hl
   .simp at hp;subst hp;cases hl
 |MH s off n v BM i ver cells owned=>obtain⟨hn,rfl,rfl⟩:=hd;exact JA i (some s) _ Ax rfl (by simp[Em.wf]) (by simp[Em.wf]) λZ=>⟨hn,rfl,rfl⟩
 |load n p dst=>obtain⟨v,hv,rfl,rfl⟩:=hd;exact one dst _ Ax rfl (by simp[Em.wf]) λZ=>⟨v,hv,rfl,rfl⟩
 |store n p v=>obtain⟨hv,rfl⟩:=hd;exact one none .undef Ax rfl Ax λZ=>⟨hv,rfl⟩
 |alloc n v dst=>obtain⟨hn,rfl,rfl⟩:=hd;exact one dst _ Ax rfl (by simp[Em.wf]) λZ=>⟨hn,rfl,rfl⟩
 |call f args dst=>obtain⟨v,hv,rfl⟩:=hd;exact one dst _ (by intro t o;split<;>simp) rfl (by simp[Em.wf]) λZ=>⟨v,hv,rfl⟩
 |D4 g args dst=>obtain⟨f,x,v,h1,h2,rfl⟩:=hd;exact one dst _ Ax rfl (by simp[Em.wf]) λZ=>⟨f,x,v,h1,h2,rfl⟩
 |BG f args dst=>obtain⟨Im,v,h1,h2,j,rfl,rfl⟩:=hd;exact one dst _ Ax rfl (by simp[Em.wf]) λZ=>⟨Im,v,h1,h2,j,rfl,rfl⟩
 |MY dst=>obtain⟨rfl,rfl⟩:=hd;exact one dst _ Ax rfl (by simp[Em.wf]) λZ=>⟨rfl,rfl⟩
 |Hu m k v=>obtain⟨hv,rfl⟩:=hd;exact one none .undef Ax rfl Ax λZ=>⟨hv,rfl⟩
 |LL z ok m k dst=>obtain⟨v,hv,rfl,rfl⟩:=hd;exact one dst _ Ax rfl (by simp[Em.wf]) λZ=>⟨v,hv,rfl,rfl⟩
 |make z b zero l c dst=>obtain⟨v,hv,rfl⟩:=hd;exact one dst _ Ax rfl (by simp[Em.wf]) λZ=>⟨v,hv,rfl⟩
 |Jk z b s x dst i=>obtain⟨v,hv,rfl⟩:=hd;exact JA i dst _ Ax rfl (by simp[Em.wf]) (by simp[Em.wf]) λZ=>⟨v,hv,rfl⟩
 |FQ z b s x dst=>obtain⟨v,hv,rfl⟩:=hd;exact one dst _ Ax rfl (by simp[Em.wf]) λZ=>⟨v,hv,rfl⟩
 |F8 z b s x dst i=>obtain⟨v,hv,rfl,rfl⟩:=hd;exact JA i dst _ Ax rfl (by simp[Em.wf]) (by simp[Em.wf]) λZ=>⟨v,hv,rfl,rfl⟩
 |EO s dst=>obtain⟨v,hv,rfl⟩:=hd;exact one dst _ Ax rfl (by simp[Em.wf]) λZ=>⟨v,hv,rfl⟩
 |Yc s dst=>obtain⟨v,u,h1,h2,rfl⟩:=hd;exact one dst _ Ax rfl (by simp[Em.wf]) λZ=>⟨v,u,h1,h2,rfl⟩
 |mem o args dst=>obtain⟨v,hv,rfl⟩:=hd;exact one dst _ (by intro t o';split<;>simp) rfl (by simp[Em.wf]) λZ=>⟨v,hv,rfl⟩
def Tj{r:Em}(hd:r.M3 C run U h U' h')(he:r.Rv=false):h'=h/\
  (r.hl=false->∀h2,r.M3 C run U h2 U' h2)/\
  ∀n p d,r= .load n p (some d)->∃v,Bi h n p=some v/\U'=U.set d (.val v)/\∀h2,Bi h2 n p=some v->r.M3 C run U h2 U' h2:=by
 cases r<;>simp only[Em.Rv] at he<;>try(exact absurd he AI)
 case pure ws=>obtain⟨rfl,rfl⟩:=hd;exact⟨rfl,λ_ _=>⟨rfl,rfl⟩,Ax⟩
 case op p args dst BM g=>obtain⟨v,hv,rfl,rfl⟩:=hd;exact⟨rfl,λ_ _=>⟨v,hv,rfl,rfl⟩,Ax⟩
 case box n v d=>obtain⟨hn,rfl,rfl⟩:=hd;exact⟨rfl,λ_ _=>⟨hn,rfl,rfl⟩,Ax⟩
 case closure fn x b fz d=>obtain⟨rfl,rfl⟩:=hd;exact⟨rfl,λ_ _=>⟨rfl,rfl⟩,Ax⟩
 case MH s off n v BM g ver cells owned=>obtain⟨hn,rfl,rfl⟩:=hd;exact⟨rfl,λ_ _=>⟨hn,rfl,rfl⟩,Ax⟩
 case load n p dst=>obtain⟨v,hv,rfl,rfl⟩:=hd;refine⟨rfl,λc=>absurd c (by simp[Em.hl]),λn' p' d he=>?_⟩;cases he;exact⟨v,hv,rfl,λh2 e=>⟨v,e,rfl,rfl⟩⟩
 case LL z ok m k dst=>obtain⟨v,hv,rfl,rfl⟩:=hd;exact⟨rfl,λc=>absurd c (by simp[Em.hl]),Ax⟩
 case BG f args dst=>obtain⟨Im,v,h1,h2,i,rfl,rfl⟩:=hd;exact⟨rfl,λ_ _=>⟨Im,v,h1,h2,i,rfl,rfl⟩,Ax⟩
def Ub{ds:List Nat}(hn:MI U ds=true):U.drop ds=U:=by
 refine BJ.ext (BJ.length_drop U ds) λt=>?_;rw[BJ.RO];cases hx:U.at t with
 |EW t' o=>have:=NS.1 hn t t' o hx;simp[this]
 |_=>rfl
def Qx{o:Oper}(h:∀t∈Fh ops o,Z.at t=U.at t):Iq ops Z o=Iq ops U o:=by
 unfold Iq;unfold Fh at h;cases hg:o.guard with
 |none=>rfl
 |some g=>
  obtain⟨j,want⟩:=g;rw[hg] at h;simp only at h⊢;cases hd:(ops[j]?).bind (·.dst) with
  |none=>rfl
  |some s=>
   rw[hd] at h;simp only
   rw[h s Ax]
def UT{o:Oper}{r:Em}(hc:FW C fid ops U o=some r)(ht:∀t∈JF o.op.operands.toList,Z.at t=U.at t)(hb:∀s∈HG C U o,Z.at s=U.at s):HG C Z o=HG C U o:=by
 have h:Vj C U Z o.op.operands.toList:= .rP ht
 unfold HG at hb⊢
 cases ho:o.op with
 |load t x=>
  rw[ho] at h hb
  simp only at hb⊢
  have hn:FU C U x≠none:=λhe=>by
   unfold FW at hc
   simp only[ho] at hc
   split at hc
   .unfold Lf at hc;rw[he] at hc;split at hc<;>simp_all
   .cases hc
  unfold NC
  rw[h.addr It hb hn]
 |store t x y=>
  rw[ho] at h hb
  simp only at hb⊢
  have hn:FU C U x≠none:=λhe=>by
   unfold FW at hc
   simp only[ho] at hc
   split at hc
   .unfold I4 at hc;rw[he] at hc;split at hc<;>simp_all
   .cases hc
  unfold NC
  rw[h.addr It hb hn]
 |_=>rfl
def Uc{xs:List D3}{t o:Nat}(h: .EW t o∈xs):t∈Vg xs:=Ce.2 ⟨_,h,rfl⟩
def O6.spec{s:St}(hs:O6 C fid ops run s U h U' h')(hf:s.fp.Tb=true):
  ∃ws,U'=U.DX ws/\(∀p∈ws,p.1∈s.fp.wf)/\(∀p∈ws,∀t o,p.2= .EW t o->t∈s.fp.lr)/\(∀x∈s.fp.wf,∀t o,U.at x= .EW t o->t∈s.fp.lr)/\MI U s.fp.news=true/\(s.fp.Rv=false->h'=h)/\
   (s.fp.Rv=false->s.fp.hl=true->∃f,s.fl=some f)/\
   ∀(Z:BJ) (h2 fB:Ah),Z.length=U.length->(∀x∈s.fp.rs++s.fp.wf,Z.at x=U.at x)->MI Z s.fp.news=true->
    ((h2=h/\fB=h')\/(s.fp.Rv=false/\fB=h2/\(s.fp.hl=true->∀f,s.fl=some f->Bi h2 f.n f.p=some f.v)))->O6 C fid ops run s Z h2 (Z.DX ws) fB:=by
 obtain⟨o,ho,⟨hg,ť,Im,rfl,rfl⟩|⟨r,U1,hg,hc,ť,hd,Im,ha⟩⟩:=hs
 .rw[ť] at hf⊢;refine⟨o.dst.toList.map λd=>(d,.skip),Wl _ _ _,λp hp=>?_,λp hp t k hl=>?_,λx hx t k hl=>?_,NS.2 (by simp[UK]),λ_=>rfl,λ_ i=>absurd i (by simp[UK]),λZ h2 fB hlen k_ _ IC=>?_⟩;.obtain⟨d,hd,rfl⟩:=AZ.1 hp;exact hd
  .obtain⟨d,hd,rfl⟩:=AZ.1 hp;cases hl
  .exact Uc (o:=k) (AZ.2 ⟨x,hx,hl⟩)
  .have i:fB=h2:=by rcases IC with⟨A,z⟩|⟨_,e,_⟩<;>first|exact e|rw[A,z]
   refine⟨o,ho,.inl ⟨?_,?_,Im,(Wl _ _ _).symm,i⟩⟩;.rw[Qx λt ht=>k_ t (Cw _ ht)];exact hg
   .rw[ť];have e:o.dst.toList.map Z.at=o.dst.toList.map U.at:=YO λx hx=>k_ x (BK _ hx);simp only[UK,e]
 .rw[ť] at hf⊢;have lf:r.Tb U=true:=hf;have Qj:MI U r.news=true:=by unfold Em.Tb at lf;rw[AO] at lf;exact lf.1
  rw[Ub Qj] at hd;obtain⟨lg,rfl,hw,y,Z8⟩:=Zb hd;have aJm:∃g:List (Nat×D3),U'=(U.DX lg).DX g/\(∀p∈g,o.dst=some p.1/\∃b,p.2= .OL b)/\∀Z:BJ,Z.length=U.length->(∀x∈r.wf++o.dst.toList,Z.at x=U.at x)->Mr (if RF ops s.idx then o.dst else none) (Z.DX lg) ((Z.DX lg).DX g):=by
   by_cases c:RF ops s.idx=true
   .rw[Af c] at ha;cases RU:o.dst with
    |none=>rw[RU] at ha;exact⟨[],ha,Ax,λZ _ _=>by simp[c,Mr,BJ.DX]⟩
    |some d=>
     rw[RU] at ha;simp only[Mr] at ha;have xe:∀Z:BJ,Z.length=U.length->(∀x∈r.wf++[d],Z.at x=U.at x)->(Z.DX lg).at d=(U.DX lg).at d:=λZ hl k_=>BJ.IW lg U Z d hl (k_ d Ax);cases hx:(U.DX lg).at d with
     |val v=>rw[hx] at ha;obtain⟨b,rfl,rfl⟩:=ha;refine⟨[(d,.OL b)],rfl,Ax,λZ hl k_=>?_⟩;simp only[c,BD,Mr];rw[xe Z hl k_,hx];exact⟨b,rfl,rfl⟩
     |_=>rw[hx] at ha;refine⟨[],ha,Ax,λZ hl k_=>?_⟩;simp only[c,BD,Mr];rw[xe Z hl k_,hx];rfl
   .rw[Ag c] at ha;exact⟨[],ha,Ax,λZ _ _=>by rw[Ag c];rfl⟩
  obtain⟨g,rfl,kz,aEB⟩:=aJm;have m:r.hl=true->∃n p d,r= .load n p (some d)/\d<U.length:=λi=>by
   unfold Em.Tb at lf;rw[AO] at lf;cases r with
   |load n p dst=>
    cases dst with
    |none=>exact absurd lf.2 Ax
    |some d=>exact⟨n,p,d,rfl,by simpa using lf.2⟩
   |LL _ _ _ _ _=>exact absurd lf.2 Ax
   |_=>simp[Em.hl] at i
  have aEC:r.Rv=false->∀n p d,r= .load n p (some d)->d<U.length->∃v,Bi h n p=some v/\s.fl=some {idx:=s.idx,n,p,v}:=by intro he n p d hr fy;obtain⟨v,q,l,_⟩:=(Tj hd he).2.2 n p d hr;refine⟨v,q,?_⟩;rw[Im,hr];simp only[KH];rw[l,BJ.E3 fy]
  have aJn:∀(Z:BJ) h2 fB,((h2=h/\fB=h')\/(r.Rv=false/\fB=h2/\(r.hl=true->∀f,s.fl=some f->Bi h2 f.n f.p=some f.v)))->r.M3 C run Z h2 (Z.DX lg) fB:=by
   intro Z h2 fB IC;rcases IC with⟨rfl,rfl⟩|⟨he,rfl,T6⟩
   .exact Z8 Z
   .obtain⟨_,E,D⟩:=Tj (Z8 Z) he;cases i:r.hl with
    |false=>exact E i _
    |true=>obtain⟨n,p,d,hr,fy⟩:=m i;obtain⟨v,q,l⟩:=aEC he n p d hr fy;obtain⟨v',p1,_,B⟩:=D n p d hr;rw[q] at p1;cases p1;exact B _ (T6 i _ l)
  refine⟨lg++g,by rw[BJ.Jq],λp hp=>?_,λp hp t k hl=>?_,λx hx t k hl=>?_,Qj,λhe=>(Tj hd he).1,λhe i=>?_,λZ h2 fB hlen k_ u IC=>?_⟩
  .rcases Aq.1 hp with hp|hp
   .exact Cw _ (hw p hp)
   .exact BK _ (by rw[(kz p hp).1];simp)
  .rcases Aq.1 hp with hp|hp
   .exact BK _ (y p hp t k hl)
   .obtain⟨_,b,e⟩:=kz p hp;rw[e] at hl;cases hl
  .exact Cw _ (Uc (o:=k) (AZ.2 ⟨x,hx,hl⟩))
  .obtain⟨n,p,d,hr,fy⟩:=m i;obtain⟨v,_,l⟩:=aEC he n p d hr fy;exact⟨_,l⟩
  .have j:∀t∈Fh ops o++JF o.op.operands.toList++HG C U o,Z.at t=U.at t:=λt ht=>k_ t (Cw _ ht);have hwf:∀t∈r.wf++o.dst.toList,Z.at t=U.at t:=λt ht=>k_ t (BK _ ht);have ht:∀t∈JF o.op.operands.toList,Z.at t=U.at t:=λt ht=>j t (by simp[ht]);have hb:∀t∈HG C U o,Z.at t=U.at t:=λt ht=>j t (by simp[ht]);have aED:MI Z r.news=true:=u;refine⟨o,ho,.inr ⟨r,Z.DX lg,?_,Wh hc ht hb,?_,?_,?_,?_⟩⟩;.rw[Qx λt ht=>j t (by simp[ht])];exact hg
   .rw[ť];have A:(r.wf++o.dst.toList).map Z.at=(r.wf++o.dst.toList).map U.at:=YO λx hx=>hwf x hx;have z:r.Tb Z=r.Tb U:=by unfold Em.Tb;rw[Qj,aED,hlen]
    simp only[UK,A,z,UT hc ht hb]
   .rw[Ub aED];exact aJn Z h2 fB IC
   .rw[Im];exact(Ym λd hd=>BJ.IW lg U Z d hlen (hwf d (Cw _ hd))).symm
   .rw[BJ.Jq];exact aEB Z hlen hwf
end
end Go.Am
end
section
namespace Go.Am
open Go
section
variable{C:FB}{fid:FuncId}{ops:List Oper}{run:IT->Ah->Option Jy}{an:List Nat}
def LC{a b:List Nat}(h:(!T0 a b)=true){x:Nat}(hx:x∈a):x∉b:=λhb=>by have:T0 a b=true:=af.2 ⟨x,hx,hb⟩;simp[this] at h
def swap{p s:St}{U σa U1:BJ}{h ha h1:Ah}(hp:O6 C fid ops run p U h σa ha)(hs:O6 C fid ops run s σa ha U1 h1)(Kd:QP p.fp s.fp=true)
  (T6:s.fp.Rv=true->∀f,p.fl=some f->Bi h1 f.n f.p=some f.v):
  ∃σs eW,O6 C fid ops run s U h σs eW/\O6 C fid ops run p σs eW U1 h1/\(s.fp.Rv=true->eW=h1)/\(p.fp.Rv=true->h1=ha):=by
 unfold QP FP.apart at Kd;simp only[AO] at Kd;obtain⟨⟨⟨⟨pf,A⟩,⟨⟨a1,a2⟩,a3⟩,a4⟩,he⟩,hl⟩:=Kd;obtain⟨c,rfl,l,rJ,z,Ŧ,u,E,Ė⟩:=hp.spec pf;obtain⟨b,rfl,k,lI,B,m,lG,D,lj⟩:=hs.spec A;have i:∀x∈s.fp.rs++s.fp.wf,(U.DX c).at x=U.at x:=λx hx=>BJ.Gp c U x λq hq e=>LC a1 (l q hq) (by rw[e];exact hx);have d:MI U s.fp.news=true:=by
  rw[NS] at m⊢;intro x t o hx;by_cases hw:x∈p.fp.wf;.exact LC a3 (z x hw t o hx)
  .refine m x t o ?_;rw[BJ.Gp c U x λq hq e=>hw (by rw[<-e];exact l q hq)];exact hx
 have hlen:∀(Z:BJ) (ws:List (Nat×D3)),(Z.DX ws).length=Z.length:=λZ ws=>BJ.Jr ws Z;have ė:(U.DX b).DX c=(U.DX c).DX b:=(BJ.ae λq hq r hr e=>by have:=LC a1 (l q hq);exact this (BK _ (by rw[e];exact k r hr))).symm
 have outs:∀x∈p.fp.rs++p.fp.wf,(U.DX b).at x=U.at x:=λx hx=>BJ.Gp b U x λq hq e=>by
  rcases Aq.1 hx with hx|hx
  .exact LC a2 (k q hq) (by rw[e];exact hx)
  .exact LC a1 hx (BK _ (by rw[<-e];exact k q hq))
 have y:MI (U.DX b) p.fp.news=true:=by
  rw[NS] at Ŧ⊢;intro x t o hx;rcases BJ.Wj b U x with h0|⟨q,hq,_,h2⟩
  .exact Ŧ x t o (by rw[<-h0];exact hx)
  .rw[h2] at hx;exact LC a4 (lI q hq t o hx)
 by_cases Jb:s.fp.Rv=true
 .have g:p.fp.Rv=false:=by
   cases hq:p.fp.Rv with
   |false=>rfl
   |true=>simp[Jb,hq] at he
  have j:ha=h:=u g;subst j;refine⟨U.DX b,h1,lj U ha h1 (hlen U c).symm (λx hx=>(i x hx).symm) d (.inl ⟨rfl,rfl⟩),?_,λ_=>rfl,λe=>by rw[g] at e;cases e⟩;rw[<-ė];exact Ė (U.DX b) h1 h1 (hlen U b) outs y (.inr ⟨g,rfl,λ_ f hf=>T6 Jb f hf⟩)
 .have aEE:s.fp.Rv=false:=by simpa using Jb
  have ŧ:h1=ha:=lG aEE;subst ŧ;refine⟨U.DX b,h,?_,?_,λe=>absurd e Jb,λ_=>rfl⟩
  .by_cases g:p.fp.Rv=true;.refine lj U h h (hlen U c).symm (λx hx=>(i x hx).symm) d (.inr ⟨aEE,rfl,λF=>?_⟩);simp[g,F] at hl
   .have aJq:p.fp.Rv=false:=by simpa using g
    have j:=u aJq;exact lj U h h (hlen U c).symm (λx hx=>(i x hx).symm) d (.inl ⟨j.symm,j.symm⟩)
  .rw[<-ė];exact Ė (U.DX b) h h1 (hlen U b) outs y (.inl ⟨rfl,rfl⟩)
inductive Steps(C:FB)(fid:FuncId)(ops:List Oper)(run:IT->Ah->Option Jy)(an:List Nat):List Kb->List St->BJ->Ah->BJ->Ah->Prop
 |nil {fl:List Kb} {U:BJ} {h:Ah}:Steps C fid ops run an fl [] U h U h
 |cons {fl:List Kb} {s:St} {L:List St} {U U1 σf:BJ} {h h1 hf:Ah}:O6 C fid ops run s U h U1 h1->(s.fp.Rv=true->∀f∈fl,D5 an f.idx s.idx=false->Bi h1 f.n f.p=some f.v)->
  Steps C fid ops run an (s.fl.toList++fl) L U1 h1 σf hf->Steps C fid ops run an fl (s::L) U h σf hf
def Steps.sub{fl:List Kb}{L:List St}{U σf:BJ}{h hf:Ah}(hs:Steps C fid ops run an fl L U h σf hf):∀{b:List Kb},(∀f∈b,f∈fl)->Steps C fid ops run an b L U h σf hf:=by
 induction hs with
 |nil=>intro b _;exact .nil
 |cons h1 h2 _ ih=>
  intro b Wm;refine .cons h1 (λhe f hf hb=>h2 he f (Wm f hf) hb) (ih λf hf=>?_);rcases Aq.1 hf with hf|hf
  .exact Cw _ hf
  .exact BK _ (Wm f hf)
def O6.Ũ{s:St}{U U':BJ}{h h':Ah}(hs:O6 C fid ops run s U h U' h'){f:Kb}(hf:s.fl=some f):f.idx=s.idx:=by
 obtain⟨o,_,⟨_,_,Im,_⟩|⟨r,U1,_,_,_,_,Im,_⟩⟩:=hs;.rw[Im] at hf;cases hf
 .rw[Im] at hf;unfold KH at hf;split at hf
  .split at hf;.cases hf;rfl
   .cases hf
  .cases hf
def Steps.lt{fl:List Kb}{L:List St}{U σf:BJ}{h hf:Ah}(hs:Steps C fid ops run an fl L U h σf hf):∀q∈L,q.idx<ops.length:=by
 induction hs with
 |nil=>simp
 |cons h1 _ _ ih=>
  intro q hq;rcases AE.1 hq with rfl|hq
  .obtain⟨o',h2,_⟩:=h1;exact(Aj.1 h2).1
  .exact ih q hq
def Ę{s:St}{B:List St}{σf:BJ}{hf:Ah}:∀{A:List St} {fl:List Kb} {U:BJ} {h:Ah},Steps C fid ops run an fl (A++s::B) U h σf hf->(∀p∈A,QP p.fp s.fp=true/\D5 an p.idx s.idx=false)->
  ∃U1 h1,O6 C fid ops run s U h U1 h1/\(s.fp.Rv=true->∀f∈fl,D5 an f.idx s.idx=false->Bi h1 f.n f.p=some f.v)/\Steps C fid ops run an (s.fl.toList++fl) (A++B) U1 h1 σf hf
 |[],fl,U,h,hs,_=>by
  cases hs with
  |cons h1 h2 c=>exact⟨_,_,h1,h2,c⟩
 |p::A,fl,U,h,hs,i=>by
  cases hs with
  |cons h1 h2 c=>
   rename_i σa ha;obtain⟨U1,ď,e,d,m⟩:=Ę c λq hq=>i q (by simp[hq]);obtain⟨Kd,aJr⟩:=i p Ax;obtain⟨σs,eW,w1,l,k,j⟩:=swap h1 e Kd λhe f hf=>d he f (by rw[hf];simp) (by rw[h1.Ũ hf];exact aJr);refine⟨σs,eW,w1,λhe f hf hb=>?_,.cons l (λhe f hf hb=>?_) (m.sub λf hf=>?_)⟩;.rw[k he];exact d he f (BK _ hf) hb
   .rw[j he];rcases Aq.1 hf with hf|hf
    .exfalso;unfold QP at Kd;simp only[AO] at Kd;obtain⟨⟨⟨⟨_,x⟩,_⟩,t⟩,hl⟩:=Kd;cases mQ:s.fl with
     |none=>rw[mQ] at hf;simp at hf
     |some g=>
      have b:s.fp.hl=true:=by
       obtain⟨o,_,⟨_,_,Im,_⟩|⟨r,u,_,_,ť,_,Im,_⟩⟩:=e;.rw[Im] at mQ;cases mQ
       .rw[Im] at mQ;unfold KH at mQ;split at mQ;.rw[ť];rfl
        .cases mQ
      simp[he,b] at hl
    .exact h2 he f hf hb
   .rcases Aq.1 hf with hf|hf
    .exact BK _ (Cw _ hf)
    .rcases Aq.1 hf with hf|hf
     .exact Cw _ hf
     .exact BK _ (BK _ hf)
def Qy{DD:List Nat}{x:Nat}:∀(ds:List Nat) (m:Nat),(ds.foldl (λm e=>m|||bit e|||DD.getD e 0) m).testBit x=true↔m.testBit x=true\/∃e∈ds,x=e\/(DD.getD e 0).testBit x=true
 |[],m=>Ax
 |d::ds,m=>by
  rw[fj,Qy ds];simp only[Nat.testBit_or,bit,Nat.testBit_two_pow,On,B4,AE,exists_eq_or_imp];constructor
  .rintro((h|h)|h)
   .rcases h with h|h
    .exact .inl h
    .exact .inr (.inl (.inl h.symm))
   .exact .inr (.inl (.inr h))
   .exact .inr (.inr h)
  .rintro(h|(h|h)|h);.exact .inl (.inl (.inl h))
   .exact .inl (.inl (.inr h.symm))
   .exact .inl (.inr h)
   .exact .inr h
def Lp:∀(l:List Oper) (DD:List Nat) (i:Nat),i<DD.length->(KQ DD l).getD i 0=DD.getD i 0
 |[],DD,i,h=>rfl
 |o::l,DD,i,h=>by rw[KQ,Lp l _ i Ed];simp[List.getD,An h]
def Qz:∀(l:List Oper) (DD:List Nat) (k:Nat) (o:Oper),l[k]?=some o->(∀e∈Oper.UJ o,e<DD.length+k)->∀x,
  ((KQ DD l).getD (DD.length+k) 0).testBit x=true↔∃e∈Oper.UJ o,x=e\/((KQ DD l).getD e 0).testBit x=true
 |[],DD,k,o,h,_,x=>by simp at h
 |o'::l,DD,0,o,h,hd,x=>by
  simp at h;subst h;rw[KQ,Lp l _ (DD.length+0) Ax];have b:(DD++[(Oper.UJ o').foldl (λm e=>m|||bit e|||DD.getD e 0) 0]).getD (DD.length+0) 0=(Oper.UJ o').foldl (λm e=>m|||bit e|||DD.getD e 0) 0:=by simp[List.getD]
  rw[b,Qy];simp only[Nat.zero_testBit,Co,false_or];constructor;.rintro⟨e,he,h⟩;refine⟨e,he,h.imp id λh=>?_⟩;have hlt:e<DD.length:=hd e he;rw[Lp l _ e Ed];simpa[List.getD,An hlt] using h
  .rintro⟨e,he,h⟩;refine⟨e,he,h.imp id λh=>?_⟩;have hlt:e<DD.length:=hd e he;rw[Lp l _ e Ed] at h;simpa[List.getD,An hlt] using h
 |o'::l,DD,k+1,o,h,hd,x=>by simp at h;rw[KQ];have:=Qz l (DD++[(Oper.UJ o').foldl (λm e=>m|||bit e|||DD.getD e 0) 0]) k o h (λe he=>by have:=hd e he;simp;omega) x;simp only[Ap,AJ,Br,BC] at this;rw[(Ac:DD.length+(k+1)=DD.length+1+k)];exact this
def Zc{i:Nat}{o:Oper}(ho:ops[i]?=some o)(hd:∀e∈Oper.UJ o,e<i)(x:Nat):D5 (VO ops) x i=true↔∃e∈Oper.UJ o,x=e\/D5 (VO ops) x e=true:=by have:=Qz ops [] i o ho (by simpa using hd) x;simpa[D5,VO] using this
def O7(h:Z6 ops=true){i:Nat}{o:Oper}(ho:ops[i]?=some o):∀e∈Oper.UJ o,e<i:=by
 unfold Z6 at h;rw[CK] at h;have:=h (o,i) (by refine Cv (i:=i) ?_;simp[List.getElem?_zipIdx,ho])
 intro e he;simpa using CK.1 this e he
def Zd:∀{l:List (Nat×FP)},VQ.go an l=true->l.Pairwise λx y=>x.1≠y.1/\D5 an y.1 x.1=false/\(D5 an x.1 y.1=true\/QP x.2 y.2=true)
 |[],_=> .nil
 |(i,f)::l,h=>by simp only[VQ.go,AO,CK] at h;refine .cons (λy hy=>?_) (Zd h.2);have:=h.1 y hy;simp only[bne_iff_ne,aOL,On] at this;exact⟨this.1.1,this.1.2,this.2⟩
def ll{d:Option Nat}{U:BJ}{K:BJ->IT}{h:Ah}{R:Jy}(hr:IT.step (B7 C) run (qX d U K) h=some R):∃U',Mr d U U'/\IT.step (B7 C) run (K U') h=some R:=by
 unfold qX at hr;cases d with
 |none=>exact⟨U,rfl,hr⟩
 |some d=>
  simp only at hr;cases hx:U.at d with
  |val v=>
   rw[hx] at hr;simp only[IT.step] at hr;split at hr;.exact⟨U.set d (.OL true),by simp only[Mr,hx];exact⟨true,rfl,rfl⟩,hr⟩
   .exact⟨U.set d (.OL false),by simp only[Mr,hx];exact⟨false,rfl,rfl⟩,hr⟩
   .cases hr
  |_=>rw[hx] at hr;exact⟨U,by simp only[Mr,hx],hr⟩
def NT{i:Nat}{t:IT}{h:Ah}{R:Jy}:∀{fl:List Kb},IT.step (B7 C) run (RE an i fl t) h=some R->(∀f∈fl,D5 an f.idx i=false->Bi h f.n f.p=some f.v)/\IT.step (B7 C) run t h=some R
 |[],hr=>⟨Ax,hr⟩
 |f::fl,hr=>by
  unfold RE at hr;by_cases hb:D5 an f.idx i=true
  .rw[Af hb] at hr;obtain⟨d,c⟩:=NT hr;refine⟨λg hg b=>?_,c⟩;rcases AE.1 hg with rfl|hg
   .rw[hb] at b;cases b
   .exact d g hg b
  .rw[Ag hb] at hr;simp only[IT.step] at hr;split at hr
   .rename_i v hv;split at hr
    .rename_i J7;obtain⟨d,c⟩:=NT hr;refine⟨λg hg b=>?_,c⟩;rcases AE.1 hg with rfl|hg
     .rw[Aa.beq_eq J7];exact hv
     .exact d g hg b
    .cases hr
   .cases hr
def QZ{K:BJ->IT}{R:Jy}:∀{rest:List Nat} {b:List (Nat×FP)} {fl:List Kb} {U:BJ} {h:Ah},IT.step (B7 C) run (QQ C fid ops an rest b fl U K) h=some R->
  ∃L σf hf,Steps C fid ops run an fl L U h σf hf/\VQ ops.length an (b.reverse++L.map λs=>(s.idx,s.fp))=true/\IT.step (B7 C) run (K σf) hf=some R
 |[],b,fl,U,h,hr=>by
  unfold QQ at hr;split at hr;.rename_i Kd;exact⟨[],U,h,.nil,by simpa using Kd,hr⟩
  .cases hr
 |i::rest,b,fl,U,h,hr=>by
  unfold QQ at hr;cases ho:ops[i]? with
  |none=>rw[ho] at hr;cases hr
  |some o=>
   rw[ho] at hr;simp only at hr;split at hr
   .rename_i hg;split at hr;.cases hr
    .rename_i r hc;obtain⟨U1,h1,hd,hr⟩:=YV hr;have Hd:(r.Rv=true->∀f∈fl,D5 an f.idx i=false->Bi h1 f.n f.p=some f.v)/\IT.step (B7 C) run (qX (if RF ops i then o.dst else none) U1 λj=>QQ C fid ops an rest ((i,UK C ops U o (some r))::b) (Mo i r U1 fl) j K) h1=some R:=by
      split at hr;.obtain⟨d,c⟩:=NT hr;exact⟨λ_=>d,c⟩
      .rename_i he;exact⟨λe=>absurd e he,hr⟩
     obtain⟨T6,hr⟩:=Hd;obtain⟨U',ha,hr⟩:=ll hr;rw[Wk] at hr;obtain⟨L,σf,hf,d,c,g⟩:=QZ hr;exact⟨{idx:=i,fp:=UK C ops U o (some r),fl:=KH i r U1}::L,σf,hf,.cons ⟨o,ho,.inr ⟨r,U1,hg,hc,rfl,hd,rfl,ha⟩⟩ T6 d,by simpa using c,g⟩
   .rename_i hg;obtain⟨L,σf,hf,d,c,g⟩:=QZ hr;exact⟨{idx:=i,fp:=UK C ops U o none,fl:=none}::L,σf,hf,.cons ⟨o,ho,.inl ⟨hg,rfl,rfl,rfl,rfl⟩⟩ (λe=>by simp[UK] at e) d,by simpa using c,g⟩
   .cases hr
end
section
variable{C:FB}{γ0 γ:Gh}{w0 w:World}{O:Nat->Nat}{U:BJ}{h:Ah}{a:Act}{fid:FuncId}
def Lq(hr:CX C γ0 w0 γ O U h a w){ops:Array Oper}{o:Oper}{b:Bool}(hg:Iq ops.toList U o= .M0 b):Region.wanted o (yielded ops a.tmps)=b:=by
 unfold Iq at hg;unfold Region.wanted;cases ho:o.guard with
 |none=>rw[ho] at hg;cases hg;rfl
 |some g=>
  obtain⟨j,want⟩:=g;rw[ho] at hg;simp only[aEj] at hg⊢;unfold yielded;cases hd:(ops[j]?).bind (·.dst) with
  |none=>rw[hd] at hg;cases hg
  |some s=>
   rw[hd] at hg;simp only[Cj] at hg⊢;have h0:=hr.fr.HS s;cases hx:U.at s with
   |OL c=>
    rw[hx] at hg h0;cases hg;have hl:s<a.tmps.size:=by rw[<-hr.fr.size];exact BJ.OY (by rw[hx];simp)
    have hv:a.tmps.getD s undef= .bool c:=h0;have:a.tmps[s]?=some (.bool c):=by rw[Cm hl];rw[GJ,Cm hl] at hv;exact B5 some hv
    rw[this];rfl
   |skip=>
    rw[hx] at hg h0;cases hg;have hv:a.tmps.getD s undef=undef:=h0;have hne:∀c,a.tmps[s]?≠some (.bool c):=λc hc=>by rw[GJ,hc] at hv;cases hv
    cases ht:a.tmps[s]? with
    |none=>rfl
    |some v=>
     cases v with
     |bool c=>exact absurd ht (hne c)
     |_=>rfl
   |val v=>rw[hx] at hg;cases hg
   |_=>rw[hx] at hg;cases hg
def CX.aEG(hr:CX C γ0 w0 γ O U h a w){d:Option Nat}{U':BJ}(ha:Mr d U U'):CX C γ0 w0 γ O U' h a w:=by
 unfold Mr at ha;cases d with
 |none=>simp only at ha;rw[ha];exact hr
 |some d=>
  simp only at ha;cases hx:U.at d with
  |val v=>rw[hx] at ha;obtain⟨b,rfl,rfl⟩:=ha;have h0:=hr.fr.HS d;rw[hx] at h0;exact hr.fM h0
  |_=>rw[hx] at ha;rw[ha];exact hr
structure aJs(ops:Array Oper)(listed:Array Bool)(L:List St):Prop where
 size:listed.size=ops.size
 un:∀i,i<ops.size->(listed.getD i false=false↔i∈L.map (·.idx))
 closed:∀j,listed.getD j false=true->∀e,D5 (VO ops.toList) e j=true->listed.getD e false=true
abbrev rQ(an:List Nat)(L:List St):Prop:=L.Pairwise λx y=>x.idx≠y.idx/\D5 an y.idx x.idx=false/\(D5 an x.idx y.idx=true\/QP x.fp y.fp=true)
def ah{run:IT->Ah->Option Jy}(D:ER C run){ops:Array Oper}{Q:Exit->Act->World->Prop}(FI:Z6 ops.toList=true){σf:BJ}{hf:Ah}(hQ:∀γ' k a' w',CX C γ0 w0 γ' k σf hf a' w'->Q .normal a' w'):
  ∀(fuel:Nat) (L:List St) (listed:Array Bool) (γ:Gh) (O:Nat->Nat) (U:BJ) (h:Ah) (a:Act) (w:World),L.length=fuel->Steps C fid ops.toList run (VO ops.toList) [] L U h σf hf->rQ (VO ops.toList) L->aJs ops listed L->CX C γ0 w0 γ O U h a w->
   wpAny C.P .any ops Q fuel listed a w:=by
 intro fuel;induction fuel with
 |zero=>
  intro L listed γ O U h a w l hs hp ho hr;have u:L=[]:=CN l;subst u;cases hs;refine⟨List.eq_nil_iff_forall_not_mem.2 λi hi=>?_,hQ _ _ _ _ hr⟩;obtain⟨h0,o,xf,_⟩:=mem_ready.1 hi;have hlt:i<ops.size:=(AN.1 xf).1;have zY:listed.getD i false=false:=by
   have hl:i<listed.size:=by rw[ho.size];exact hlt
   simpa[Array.getD,hl] using h0
  have:=(ho.un i hlt).1 zY;simp at this
 |succ fuel ih=>
  intro L listed γ O U h a w l hs hp ho hr;have aH:∀i,i<ops.size->listed.getD i true=listed.getD i false:=λi hi=>by
   have hl:i<listed.size:=by rw[ho.size];exact hi
   simp[Array.getD,hl]
  constructor
  .intro T6;exfalso;cases L with
   |nil=>simp at l
   |cons s0 L=>
    obtain⟨o,xf,_⟩:∃o,ops.toList[s0.idx]?=some o/\True:=by
     cases hs with
     |cons h1 _ _=>obtain⟨o,h2,_⟩:=h1;exact⟨o,h2,trivial⟩
    have mR:ops[s0.idx]?=some o:=by simpa using xf
    have hlt:s0.idx<ops.size:=(AN.1 mR).1;have:s0.idx∈Region.ready .any ops listed:=by
     refine mem_ready.2 ⟨?_,o,mR,λe he hb=>?_⟩;.rw[aH _ hlt];exact(ho.un _ hlt).2 Ax
     .have f:e.on∈Oper.UJ o:=Ce.2 ⟨e,by simpa using he,by rw[Af hb]⟩;have z:=O7 FI xf e.on f;cases hl:listed.getD e.on false with
      |true=>rfl
      |false=>
       have hm:=(ho.un e.on Ac).1 hl;simp only[A0,AE] at hm;rcases hm with hm|hm
       .omega
       .obtain⟨y,hy,m⟩:=AZ.1 hm;have:=((aM1.1 hp).1 y hy).2.1;rw[m,(Zc xf (O7 FI xf) e.on).2 ⟨e.on,f,.inl rfl⟩] at this;cases this
    rw[T6] at this;cases this
  .intro i hi;obtain⟨h0,o,xf,aEH⟩:=mem_ready.1 hi;have hlt:i<ops.size:=(AN.1 xf).1;rw[aH i hlt] at h0;obtain⟨s,n,rfl⟩:=AZ.1 ((ho.un i hlt).1 h0);obtain⟨A,B,rfl⟩:=List.append_of_mem n;have mR:ops.toList[s.idx]?=some o:=by simpa using xf
   have aEI:∀e,D5 (VO ops.toList) e s.idx=true->listed.getD e false=true:=λe he=>by
    obtain⟨d,hd,IC⟩:=(Zc mR (O7 FI mR) e).1 he;obtain⟨E,f,hb⟩:=Ce.1 hd;split at hb
    .rename_i SZ;cases hb;have fy:=aEH E (by simpa using f) SZ;rcases IC with rfl|IC
     .exact fy
     .exact ho.closed _ fy e IC
    .cases hb
   have b:=(aHU.1 hp).2.2;have ũ:∀p∈A++s::B,p.idx<ops.size:=λp t=>by simpa using hs.lt p t
   obtain⟨U1,h1,x,_,v⟩:=Ę hs λp g=>by
    have hb:D5 (VO ops.toList) p.idx s.idx=false:=by
     cases SZ:D5 (VO ops.toList) p.idx s.idx with
     |false=>rfl
     |true=>have h1:=aEI _ SZ;have h2:=(ho.un p.idx (ũ p (by simp[g]))).2 (AZ.2 ⟨p,by simp[g],rfl⟩);rw[h1] at h2;cases h2
    refine⟨?_,hb⟩;have:=(b p g s Ax).2.2;rw[hb] at this;exact this.resolve_left Ax
   have ę:∀γ' k a' w',CX C γ0 w0 γ' k U1 h1 a' w'->wpAny C.P .any ops Q fuel (listed.setIfInBounds s.idx true) a' w':=λγ' k a' w' Hd=>by
    refine ih (A++B) _ γ' k U1 h1 a' w' (by simp at l⊢;omega) (v.sub Ax) ?_ ⟨by simp[ho.size],λj hj=>?_,λj hj e he=>?_⟩ Hd;.exact hp.sublist ((AD A).append (TV s B))
    .by_cases c:j=s.idx
     .subst c;have Ū:s.idx∉(A++B).map (·.idx):=λhm=>by
       obtain⟨q,hq,he⟩:=AZ.1 hm;rcases Aq.1 hq with hq|hq
       .exact(b q hq s Ax).1 he
       .exact(aM1.1 (aHU.1 hp).2.1).1 q hq |>.1 he.symm
      have ht:(listed.setIfInBounds s.idx true).getD s.idx false=true:=by
       have hl:s.idx<listed.size:=by rw[ho.size];exact hlt
       simp[Array.getD,hl]
      rw[ht];exact⟨λe=>absurd e Ax,λe=>absurd e Ū⟩
     .rw[getD_set_ne false (λe=>c e.symm),ho.un j hj];simp only[BP,A0,Aq,AE];constructor
      .rintro(e|e|e);.exact .inl e
       .exact absurd e c
       .exact .inr e
      .rintro(e|e);.exact .inl e
       .exact .inr (.inr e)
    .by_cases c:j=s.idx;.subst c;exact getD_set_true (aEI e he)
     .rw[getD_set_ne false (λe=>c e.symm)] at hj;exact getD_set_true (ho.closed j hj e he)
   unfold wpOp;rw[xf];obtain⟨o',xa,⟨hg,_,_,rfl,rfl⟩|⟨r,F,hg,hc,_,hd,_,ha⟩⟩:=x;.rw[mR] at xa;cases xa;simp only[Lq hr hg,Co,DO];exact ę _ _ _ _ (hr.put λ_ _=>rfl)
   .rw[mR] at xa;cases xa;simp only[Lq hr hg,BD];exact .inl (ky D hc hd hr λγ' k a' w' Hd=>ę γ' k a' w' (Hd.aEG ha))
end
end Go.Am
end
end
