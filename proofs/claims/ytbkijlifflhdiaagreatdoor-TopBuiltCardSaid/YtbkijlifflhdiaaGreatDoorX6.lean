/- Lemmas -/
import Derived.Test.YtbkijlifflhdiaaGreatDoorX5
import Derived.MapKept
set_option linter.all false
section
namespace Go.Am
open Go
section
variable{C:FC}{γ0 γ γ':Gh}{w0 w w':World}{Z:Nat->Nat}{U:Bx}{h:Ah}{a:Act}{fid:FuncId}{ops:List Oper}
def TN{s t:Aq}(h:s≠t):((⟨⟨s⟩⟩:ByteArray)==⟨⟨t⟩⟩)=false:=by
 refine Bool.eq_false_iff.2 λhc=>h ?_;have:=(MapKept.bytes_beq _ _).1 hc;injection this with this
 injection this with this
def Pc(s:Aq):((⟨⟨s⟩⟩:ByteArray)==⟨⟨s⟩⟩)=true:=(MapKept.bytes_beq _ _).2 rfl
def Zh{s:Aq}:∀{es:List (Aa×Aa)} {l:List MapEntry} {i:Nat} {r:Option Aa},JM γ es l->Ti s es=some r->
  match r with
  |none=>Instr.findNow .string (.string ⟨⟨s⟩⟩) l i=some none
  |some v=>∃(j:Nat) (e:MapEntry),Instr.findNow .string (.string ⟨⟨s⟩⟩) l i=some (some (i+j,e.val))/\Bz γ v e.val
 |[],l,i,r,b,hf=>by rw[show l=[] from b];cases hf;rfl
 |(k,v)::es,l,i,r,b,hf=>by
  obtain⟨e,l',rfl,h1,h2,f⟩:=b;unfold Ti at hf;split at hf;.rename_i I8;cases I8
  .rename_i t v' Su I8;cases I8;have hk:e.key= .string ⟨⟨t⟩⟩:=h1;split at hf;.rename_i HW;subst HW;cases hf;exact⟨0,e,by simp[Instr.findNow,hk,Instr.sameNow,Pc],h2⟩
   .rename_i HW;have ih:=Zh (i:=i+1) f hf;have hne:=TN HW;cases r with
    |none=>simpa[Instr.findNow,hk,Instr.sameNow,hne] using ih
    |some v2=>obtain⟨j,g,d,c⟩:=ih;exact⟨j+1,g,by simp only[Instr.findNow,hk,Instr.sameNow,hne];rw[d];congr 3;omega,c⟩
  .cases hf
def iQ{s:Aq}{v:Aa}{u:Value}(hv:Bz γ v u):∀{es Su:List (Aa×Aa)} {l:List MapEntry} {i:Nat},JM γ es l->Nk s v es=some Su->
  (Instr.findNow .string (.string ⟨⟨s⟩⟩) l i=some none/\∀born,JM γ Su (l++[{key:= .string ⟨⟨s⟩⟩,val:=u,born}]))\/
  ∃j e,Instr.findNow .string (.string ⟨⟨s⟩⟩) l i=some (some (i+j,e.val))/\l[j]?=some e/\e.key= .string ⟨⟨s⟩⟩/\JM γ Su (l.modify j λe=>{e with key:= .string ⟨⟨s⟩⟩,val:=u})
 |[],Su,l,i,d,hp=>by rw[show l=[] from d];cases hp;exact .inl ⟨rfl,λborn=>⟨_,[],rfl,rfl,hv,rfl⟩⟩
 |(k,v0)::es,Su,l,i,d,hp=>by
  obtain⟨e,l',rfl,h1,h2,f⟩:=d;unfold Nk at hp;split at hp;.rename_i I8;cases I8
  .rename_i t v' o I8;cases I8;have hk:e.key= .string ⟨⟨t⟩⟩:=h1;split at hp;.rename_i HW;subst HW;cases hp;exact .inr ⟨0,e,by simp[Instr.findNow,hk,Instr.sameNow,Pc],rfl,hk,_,l',rfl,rfl,hv,f⟩
   .rename_i HW;have hne:=TN HW;cases hq:Nk s v es with
    |none=>rw[hq] at hp;cases hp
    |some n=>
     rw[hq] at hp;cases hp;rcases iQ hv (i:=i+1) f hq with⟨c,b⟩|⟨j,p,c,b,m,g⟩
     .exact .inl ⟨by simpa[Instr.findNow,hk,Instr.sameNow,hne] using c,λborn=>⟨e,_,rfl,h1,h2,b born⟩⟩
     .exact .inr ⟨j+1,p,by simp only[Instr.findNow,hk,Instr.sameNow,hne];rw[c];congr 3;omega,b,m,e,_,Aw,h1,h2,g⟩
  .cases hp
def Re{es:Array MapEntry}{clock:Nat}{k v:Value}(h:clock=es.size/\∀(i:Nat) (e:MapEntry),es[i]?=some e->e.born=i):
  clock+1=(es.push {key:=k,val:=v,born:=clock}).size/\∀(i:Nat) (e:MapEntry),(es.push {key:=k,val:=v,born:=clock})[i]?=some e->e.born=i:=by
 obtain⟨rfl,h⟩:=h;refine⟨Aw,λi e he=>?_⟩;rw[VP] at he;split at he;.rename_i hi;cases he;exact hi.symm
 .exact h i e he
def RQ{es:Array MapEntry}{clock j:Nat}{f:MapEntry->MapEntry}(h:clock=es.size/\∀(i:Nat) (e:MapEntry),es[i]?=some e->e.born=i)(hf:∀e,(f e).born=e.born):
  clock=(es.modify j f).size/\∀(i:Nat) (e:MapEntry),(es.modify j f)[i]?=some e->e.born=i:=by
 refine⟨by simpa using h.1,λi e he=>?_⟩;rw[Lv] at he;split at he
 .cases hx:es[i]? with
  |none=>rw[hx] at he;cases he
  |some x=>rw[hx] at he;cases he;rw[hf];exact h.2 i x hx
 .exact h.2 i e he
def L9(hi:GO γ h w){g id:Nat}{es Su:List (Aa×Aa)}(P6:h[id]?=some (.map es))(hg:γ.mu id=some g){o:Obj}{ents':Array MapEntry}{clock':Nat}(hw:w.heap[g]?=some o)(hr:qZ γ Su ents' clock'):
  GO γ (h.set id (.map Su)) {w with heap:=w.heap.setIfInBounds g (.map ents' clock')}/\KF γ w γ {w with heap:=w.heap.setIfInBounds g (.map ents' clock')}:=by
 obtain⟨k,p,QW⟩:=hi.K5 id _ P6 Aw;rw[hg] at p;cases p;obtain⟨L0,c⟩:=MapKept.heap_set (o':= .map ents' clock') hw;have uniq:∀Fb x,h[Fb]?=some x->x≠ .DK->γ.mu Fb=some g->Fb=id:=λFb x hx ph hm=>by obtain⟨b',p,q⟩:=hi.K5 Fb x hx ph;rw[hm] at p;cases p;rw[QW] at q;cases q;rfl
 constructor
 .refine⟨λb o v hb=>?_,λFb y Hw hy=>?_,λFb cs hc b hb=>?_,λFb e hc b hb=>?_,λFb b hb=>by simpa using hi.mu Fb b hb,λb x hx=>?_,λb n hb=>?_⟩;rotate_left 5
  .obtain⟨⟨cE,i,q7,p,q⟩,r⟩:=hi.sz b n hb;have hne:b≠g:=λhe=>by subst he;obtain⟨f,d,j,_⟩:=hi.map id es P6 b hg;rw[p] at j;cases j
   exact⟨⟨cE,i,q7,by rw[c b hne];exact p,q⟩,r⟩
  .obtain⟨p,q,r⟩:=hi.Hh b o v hb;have:b≠g:=λhe=>by subst he;rw[QW] at r;rcases r with r|⟨_,_,_,r,_⟩<;>cases r
   exact⟨by rw[Cs (w:=w) (c b this)];exact p,q,r⟩
  .by_cases he:Fb=id;.subst he;exact⟨g,hg,QW⟩
   .rw[An (λx=>he x.symm)] at Hw;exact hi.K5 Fb y Hw hy
  .by_cases he:Fb=id;.subst he;rw[AH (hi.mu _ _ hg)] at hc;cases hc
   .rw[An (λx=>he x.symm)] at hc;have PR:b≠g:=λhx=>by subst hx;exact he (uniq Fb _ hc Aw hb)
    obtain⟨cE,i,q7,p,pf,q,r⟩:=hi.cells Fb cs hc b hb;exact⟨cE,i,q7,by rw[c b PR];exact p,pf,q,r⟩
  .by_cases he:Fb=id;.subst he;rw[hg] at hb;cases hb;rw[AH (hi.mu _ _ hg)] at hc;cases hc;exact⟨ents',clock',L0,hr⟩
   .rw[An (λx=>he x.symm)] at hc;have PR:b≠g:=λhx=>by subst hx;exact he (uniq Fb _ hc Aw hb)
    obtain⟨Dy,clock,p,q⟩:=hi.map Fb e hc b hb;exact⟨Dy,clock,by rw[c b PR];exact p,q⟩
  .have:=hi.BE b x hx;simpa using this
 .refine⟨.refl _,Aw,rfl,rfl,rfl,λb hb hn=>⟨?_,rfl⟩⟩;exact c b (λhe=>by subst he;exact hn id QW)
def Pe(hr:CH C γ0 w0 γ Z U h a w){x y z:Operand}{d c b:Aa}(ha:Be C U [x,y,z]=some [d,c,b]):Bz γ d (a.eval x)/\Bz γ c (a.eval y)/\Bz γ b (a.eval z):=by obtain⟨_,_,_,e,h1,h2,f⟩:=(Ds hr ha).V4;simp only[Bi,DW,FO,J1] at e;obtain⟨rfl,rfl,rfl⟩:=e;exact⟨h1,h2,f⟩
def Zi{o:Oper}{t kt e:TypeId}{m k x:Operand}{l n f:Aa}{h':Ah}(ho:o.op= .insert t m k x\/o.op= .mapUpdate t m k x)(hd:o.dst=none)(ht:C.P.underlying t=some (.map kt e))(hk:C.P.underlying kt=some .string)(ha:Be C U [m,k,x]=some [l,n,f])
  (hm:RH h l n f=some h') (hr:CH C γ0 w0 γ Z U h a w):Fc C γ0 w0 o a w U h':=by
 obtain⟨h1,h2,u⟩:=Pe hr ha;have K8:∀w',(Instr.mapUpdate t (a.eval m) (a.eval k) (a.eval x)).run C.P w= .ok () w'->(execOp a.eval o).run C.P w= .ok .skip w':=λw' AE=>by rcases ho with ho|ho<;>simp[execOp,ho,AE]
 unfold RH at hm;split at hm
 .rename_i id s;obtain⟨b,hb,m0⟩:=h1;have qa:a.eval k= .string ⟨⟨s⟩⟩:=h2;split at hm
  .rename_i es P6;cases hp:Nk s f es with
   |none=>rw[hp] at hm;cases hm
   |some Su=>
    rw[hp] at hm;cases hm;obtain⟨Dy,clock,hw,r,hB⟩:=hr.Dr.map id es P6 b hb;have m6:(Instr.checkKey false 10000 kt (.string ⟨⟨s⟩⟩)).run C.P w= .ok () w:=MapKept.run_checkKey (k:= .string ⟨⟨s⟩⟩) hk (by simp[MapKept.IsKey]) false 9999;rcases iQ u (i:=0) r hp with⟨c,g⟩|⟨j,v,c,g,q,p⟩
    .have AE:(Instr.mapUpdate t (a.eval m) (a.eval k) (a.eval x)).run C.P w= .ok () {w with heap:=w.heap.setIfInBounds b (.map (Dy.push {key:= .string ⟨⟨s⟩⟩,val:=a.eval x,born:=clock}) (clock+1))}:=by rw[m0,qa];simp[Instr.mapUpdate,run_underlying ht,MapKept.run_getObj_map hw,m6,MapKept.run_findKey hk c,MapKept.run_setObj_map _ hw,Result.andThen]
     obtain⟨hi,IS⟩:=L9 (Su:=Su) (ents':=Dy.push {key:= .string ⟨⟨s⟩⟩,val:=a.eval x,born:=clock}) (clock':=clock+1) hr.Dr P6 hb hw ⟨by simpa using g clock,Re hB⟩;exact Fc.skip (K8 _ AE) (by rw[hd];exact hr.HK hi IS)
    .have hj:Dy[j]?=some v:=by simpa using g
     rw[BC] at c;have AE:(Instr.mapUpdate t (a.eval m) (a.eval k) (a.eval x)).run C.P w= .ok () {w with heap:=w.heap.setIfInBounds b (.map (Dy.modify j λe=>{e with key:= .string ⟨⟨s⟩⟩,val:=a.eval x}) clock)}:=by rw[m0,qa];simp[Instr.mapUpdate,run_underlying ht,MapKept.run_getObj_map hw,m6,MapKept.run_findKey hk c,hj,q,MapKept.run_keyThatStays (d:= .string) (k:= .string ⟨⟨s⟩⟩) (by simp[MapKept.IsKey]),MapKept.run_setObj_map _ hw,Result.andThen]
     obtain⟨hi,IS⟩:=L9 (Su:=Su) (ents':=Dy.modify j λe=>{e with key:= .string ⟨⟨s⟩⟩,val:=a.eval x}) (clock':=clock) hr.Dr P6 hb hw ⟨by simpa using p,RQ hB λ_=>rfl⟩;exact Fc.skip (K8 _ AE) (by rw[hd];exact hr.HK hi IS)
  .cases hm
 .cases hm
def rR{o:Oper}{t:TypeId}(ho:o.op= .makeMap t none)(hr:CH C γ0 w0 γ Z U h a w):Fc C γ0 w0 o a w (U.put o.dst (.val (.map (some h.length)))) (h++[.map []]):=by
 obtain⟨hi,ha⟩:=MG hr.Dr (.map #[] 0) (.map []) none (.inr ⟨rfl,rfl,rfl⟩);have AE:(Instr.makeMap t none).run C.P w= .ok (.map (some w.heap.size)) (w.alloc (.map #[] 0)):=by simp[Instr.makeMap]
 exact Fc.value (by simp only[execOp,ho];exact C2 AE) ((hr.HK hi ha).put λ_ _=>⟨w.heap.size,by simp[Gh.BW],rfl⟩)
def JD(key elem:TypeId)(index:Value)(commaOk:Bool)(es:Array MapEntry):Sem Value:=do
 Instr.checkKey es.isEmpty 10000 key index
 let(v,ok)<-match<-Instr.findKey key index es.toList with
  |some (_,v)=>pure (v,true)
  |none=>pure (<-zeroValue elem,false)
 pure (if commaOk then .tuple #[v,.bool ok] else v)
def rS{o:Oper}{t kt e:TypeId}{m k:Operand}{c d z r:Aa}{ok:Bool}(ho:o.op= .lookup t m k ok)(ht:C.P.underlying t=some (.map kt e))(hk:C.P.underlying kt=some .string)(hz:Ge C.P e=some z)(ha:Be C U [m,k]=some [c,d])(hm:RI h z ok c d=some r)(hr:CH C γ0 w0 γ Z U h a w):
  Fc C γ0 w0 o a w (U.put o.dst (.val r)) h:=by
 obtain⟨_,_,e0,h1,h2⟩:=ED hr ha;cases e0;obtain⟨f,p9,qb⟩:=GX hz;have Iv:∀(es:Array MapEntry) (q:Option Aa),(Instr.lookup t (a.eval m) (a.eval k) ok).run C.P w=(JD kt e (a.eval k) ok es).run C.P w->
   ∀s,a.eval k= .string ⟨⟨s⟩⟩->(match q with|none=>Instr.findNow .string (.string ⟨⟨s⟩⟩) es.toList 0=some none|some v=>∃(j:Nat) (e:MapEntry),Instr.findNow .string (.string ⟨⟨s⟩⟩) es.toList 0=some (some (0+j,e.val))/\Bz γ v e.val)->
   (match q with|some v=>if ok then Aa.tuple [v,.bool true] else v|none=>if ok then .tuple [z,.bool false] else z)=r->Fc C γ0 w0 o a w (U.put o.dst (.val r)) h:=by
  intro es q P6 s zG hq RP;have m6:(Instr.checkKey es.isEmpty 10000 kt (.string ⟨⟨s⟩⟩)).run C.P w= .ok () w:=MapKept.run_checkKey (k:= .string ⟨⟨s⟩⟩) hk (by simp[MapKept.IsKey]) es.isEmpty 9999;have AE:∃v,(Instr.lookup t (a.eval m) (a.eval k) ok).run C.P w= .ok v w/\Bz γ r v:=by
   cases q with
   |none=>
    refine⟨if ok then .tuple #[f,.bool false] else f,?_,?_⟩;.rw[P6,zG];unfold JD;simp only[Sem.run_bind,Result.andThen_ok,m6,MapKept.run_findKey hk hq,qb,Sem.run_bind,Sem.run_pure]
    .rw[<-RP];have Ä:=EO (γ:=γ) p9;cases ok with
     |true=>exact⟨_,rfl,_,_,rfl,Ä,_,_,rfl,rfl,rfl⟩
     |false=>exact Ä
   |some v=>
    obtain⟨j,l,n,g⟩:=hq;refine⟨if ok then .tuple #[l.val,.bool true] else l.val,?_,?_⟩;.rw[P6,zG];unfold JD;simp only[Sem.run_bind,Result.andThen_ok,m6,MapKept.run_findKey hk n,Sem.run_bind,Sem.run_pure]
    .rw[<-RP];cases ok with
     |true=>exact⟨_,rfl,_,_,rfl,g,_,_,rfl,rfl,rfl⟩
     |false=>exact g
  obtain⟨v,AE,iO⟩:=AE;exact Fc.value (by simp only[execOp,ho];exact C2 AE) (hr.put λ_ _=>iO)
 unfold RI at hm;cases hf:Tj h c d with
 |none=>rw[hf] at hm;cases hm
 |some q=>
  rw[hf] at hm;simp only[BU,BB] at hm;unfold Tj at hf;split at hf;.rename_i s;cases hf;exact Iv #[] none (by rw[show a.eval m=_ from h1];simp only[Instr.lookup,JD,Sem.run_bind,run_underlying ht,Result.andThen_ok,Sem.run_pure];rfl) s h2 rfl hm
  .rename_i id s;obtain⟨b,hb,m0⟩:=h1;split at hf;.rename_i es P6;obtain⟨Dy,clock,hw,p,_⟩:=hr.Dr.map id es P6 b hb;exact Iv Dy q (by rw[m0];simp only[Instr.lookup,JD,Sem.run_bind,run_underlying ht,MapKept.run_getObj_map hw,Result.andThen_ok,Sem.run_pure];rfl) s h2 (Zh (i:=0) p hf) hm
   .cases hf
  .cases hf
def TO{size:Nat}{v:Aa}(h:Np size v=true):v= .slnil\/v= .Fq size\/v= .sl size []:=by
 unfold Np at h;split at h;.exact .inl rfl
 .exact .inr (.inl (by simpa using h))
 .exact .inr (.inr (by simpa using h))
 .cases h
def m7{o:Oper}{c:Call}{t t' e:TypeId}{n b:Nat}{s x:Operand}{v u r:Aa}{h':Ah}(ho:o.op= .call c)(hc:c.callee= .builtin .append)(h0:c.argTypes[0]?=some t)(h1:c.argTypes[1]?=some t')(El:c.args.toList=[s,x])(ht:C.P.underlying t=some (.slice e))
  (HO:(∃G,C.P.underlying t'=some (.slice G))\/C.P.underlying t'=some .string) (J3:BJ C.P e=some (n+1)) (rL:IK C.P e=some (b+1)) (EZ:JK C U s=true) (YJ:KE C.P e=true) (hv:Be C U [s,x]=some [v,u])
  (hp:Ly h (n+1) (b+1) v u=some (h',r)) (hr:CH C γ0 w0 γ Z U h a w):Fc C γ0 w0 o a w ((U.Da (CR U s)).put o.dst (.val r)) h':=by
 obtain⟨i,z,hi,hz,Xq⟩:=JP YJ;have OE:=Iu J3 hi;have py:=Ko rL hi;obtain⟨_,_,e0,hvs,bN⟩:=ED hr hv;cases e0;have yV:Ex C U s=some v:=by
  unfold Be at hv;split at hv;.rename_i p ps I K;cases hv;exact I
  .cases hv
 have HL:Np (n+1) v=true/\((∃Ao,GP (n+1) (b+1) .slnil u=some (.sl (n+1) Ao)/\Ao≠[]/\u= .sl (n+1) Ao/\Ao.length*(b+1)<=AQ/\h'=h++[.cells Ao.flatten]/\r= .CL h.length 0 Ao.length (n+1))\/((u= .slnil\/(∃B,u= .Fq B)\/∃B,u= .sl B [])/\h'=h/\r=v)):=by
  unfold Ly at hp;split at hp
  .rename_i B Ao;split at hp
   .rename_i SX;refine⟨SX,?_⟩;split at hp;.cases hp;exact .inr ⟨.inr (.inr ⟨_,rfl⟩),rfl,rfl⟩
    .rename_i hne;split at hp
     .rename_i GQ;cases hp;obtain⟨rfl,hb⟩:=GQ;refine .inl ⟨Ao,?_,hne,rfl,hb,rfl,rfl⟩;cases Ao with
      |nil=>exact absurd rfl hne
      |cons q Ao=>simp only[GP,C4,BH];rw[Ad hb]
     .cases hp
   .cases hp
  .split at hp;.rename_i SX;cases hp;exact⟨SX,.inr ⟨.inl rfl,rfl,rfl⟩⟩
   .cases hp
  .split at hp;.rename_i SX;simp only[Bt] at SX;cases hp;exact⟨SX.1,.inr ⟨.inr (.inl ⟨_,rfl⟩),rfl,rfl⟩⟩
   .cases hp
  .cases hp
 obtain⟨SX,HL⟩:=HL;obtain⟨F,Eg,I7,Ig,m⟩:=Nz hr EZ yV (U.Da (CR U s)).length none;have I8:c.args.map a.eval=#[a.eval s,a.eval x]:=by apply GC;simp[El]
 have K8:∀v' w',(Builtin.append_ #[t,t'] o.type #[a.eval s,a.eval x]).run C.P w= .ok v' w'->(execOp a.eval o).run C.P w= .ok (.value v') w':=λv' w' AE=>by
  have:execOp a.eval o=(do pure (Next.value (<-Builtin.append_ #[t,t'] o.type #[a.eval s,a.eval x]))):=by rw[<-I8,<-MO (ty:=o.type) h0 h1];simp only[execOp,ho,resolve,hc];rfl
  rw[this];exact C2 AE
 have iR:(a.eval s= .slice none 0 0/\v= .slnil)\/(∃g cap us y,a.eval s= .slice (some ⟨g,0,none⟩) 0 cap/\v= .sl (n+1) []/\F.BE g=some (.tail (U.Da (CR U s)).length none 0)/\w0.heap.size<=g/\w.heap[g]?=some (.cells us y (0,0))/\us.size=cap*(n+1)/\cap<=maxLen)\/∃g,a.eval s= .slice (some ⟨g,0,none⟩) 0 0/\v= .Fq (n+1):=by
  rcases m with(m|⟨H,m⟩)|⟨g,k,cap,us,y,H,rr,cW,Ih,QW,hB,hg,VW,yZ,hm,J⟩
  .rw[m] at Ig;exact .inl ⟨Ig,m⟩
  .rcases TO SX with iS|iS|iS
   .rw[iS] at m;cases m
   .rw[iS] at Ig;obtain⟨g,Ig⟩:=Ig;exact .inr (.inr ⟨g,Ig,iS⟩)
   .rw[iS] at m;cases m
  .rcases TO SX with iS|iS|iS
   .rw[iS] at cW;cases cW
   .rw[iS] at cW;cases cW
   .rw[iS] at cW;cases cW;have hk:k=0:=by rw[iS,Ih] at Ig;obtain⟨A,f,Zf,_⟩:=Ig;simp only[Value.slice.injEq] at Zf;exact Zf.2.1
    subst hk;exact .inr (.inl ⟨g,cap,us,y,Ih,iS,by simpa using QW,hB,hg,VW,hm⟩)
 rcases HL with⟨Ao,H5,hne,D,QX,rfl,rfl⟩|⟨D,rfl,rfl⟩
 .obtain⟨d,news,NB,I9,kb,cU⟩:=iP (w:=w) HO hr.Dr bN H5;have Zj:d=Ao:=by
   cases d with
   |nil=>simp[C4] at NB
   |cons q d=>
    simp only[C4] at NB;split at NB;.cases NB;rfl
    .cases NB
  subst Zj;have rM:=AS.mono Eg _ _ kb;have IQ:Src C.P i.size t' (a.eval x) d.length news w:=by rw[OE];exact I9
  have OF:news.length=d.length*(n+1):=I9.newsLen;have HV:d.flatten.length=news.length:=by rw[kb.length]
  have hpos:0<d.length:=DB.2 hne;have PR:d.length<=AQ:=Bm (Hu _ (CE b)) QX;have FJ:∀(base:Option Addr) (cap:Nat),a.eval s= .slice base 0 cap->(Builtin.firstCells i.size 0 (.slice base 0 cap)).run C.P w.drew= .ok #[] w.drew->cap<d.length->
    Fc C γ0 w0 o a w ((U.Da (CR U s)).put o.dst (.val (.CL h.length 0 d.length (n+1)))) (h++[.cells d.flatten]):=by
   intro base cap hs l hlt;have FX:=run_append_grow_src (P:=C.P) w t t' o.type e i z ht hi hz base 0 cap [] l (a.eval x) d.length news IQ Ab (by simp only[AQ] at PR;omega) (by rw[py,BC];exact growslice_fits hlt QX);rw[<-hs,BC] at FX;have GW:=grownCap_ge w d.length cap e;have RR:(([]++news).toArray++Builtin.zeroCells z.cells (grownCap w d.length cap e-d.length)).toList.take d.flatten.length=news:=by simp only[Gb,BG];rw[HV];exact Es
   have rT:(([]++news).toArray++Builtin.zeroCells z.cells (grownCap w d.length cap e-d.length)).size=grownCap w d.length cap e*(n+1):=by simp only[IE,BP,size_zeroCells,Xq,OE,BG,OF,<-Bs];congr 1;omega
   obtain⟨E,Zc,TP,Lj,SC⟩:=I7.drew.newObj (([]++news).toArray++Builtin.zeroCells z.cells (grownCap w d.length cap e-d.length)) e (0,0) d.flatten (.inl rfl) (by rw[RR];exact rM) (by rw[RR];exact I9.one);exact Fc.value (K8 _ _ FX) (Lj.put λ_ _=>⟨w.heap.size,_,TP,rfl,GW,⟨CE n,grownCap_le_maxLen w _ _ _ (by simp only[AQ] at PR;simp only[maxLen];omega)⟩,by rw[BC,<-rT];exact SC⟩)
  rcases iR with⟨Ih,rfl⟩|⟨g,cap,us,y,Ih,rfl,QW,hB,hg,VW,zH⟩|⟨g,Ih,rfl⟩
  rotate_left 2;.exact FJ (some ⟨g,0,none⟩) 0 Ih (by simpa using run_firstCells_some (P:=C.P) w.drew i.size 0 ⟨g,0,none⟩ 0 0 [] Aw Aw) hpos
  .exact FJ none 0 Ih (run_firstCells_none _ _ _ _ _) hpos
  .by_cases hroom:d.length<=cap
   .have hfit:news.length<=us.size:=by rw[OF,VW];exact DM _ hroom
    have AE:=run_append_room_src (P:=C.P) w t t' o.type e i ht hi g 0 0 cap (a.eval x) d.length news IQ Ab (λj hj=>by rw[cell_of_row w _ _ us y (0,0) hg,OE,Cu Ab];rfl) (λj hj=>frozen_of_row w _ _ us y hg)
    rw[KZ,BC,BC,Ek news 0 us w hg Ab,<-Ih] at AE;have RR:((us.toList.take 0++news++us.toList.drop (0+news.length)).toArray).toList.take d.flatten.length=news:=by simp only[N8,BG];rw[HV];exact Es
    obtain⟨E,Zc,TP,Lj,SC⟩:=I7.Ã QW hB hg (us.toList.take 0++news++us.toList.drop (0+news.length)).toArray d.flatten (by rw[RR];exact rM) (by rw[RR];exact I9.one);exact Fc.value (K8 _ _ AE) (Lj.put λ_ _=>⟨g,cap,TP,rfl,hroom,⟨CE n,zH⟩,by rw[SC,BC,<-VW];simp;omega⟩)
   .exact FJ (some ⟨g,0,none⟩) cap Ih (by simpa using run_firstCells_some (P:=C.P) w.drew i.size 0 ⟨g,0,none⟩ 0 cap [] Aw Aw) Ab
 .have I9:Src C.P i.size t' (a.eval x) 0 [] w:=by
   rcases D with rfl|⟨B,rfl⟩|⟨B,rfl⟩
   .rw[show a.eval x=_ from bN];exact⟨HO,λ_=>rfl,run_firstCells_none w _ 0 0 0,run_firstCells_none w.drew _ 0 0 0,Aw,Aw⟩
   .obtain⟨g0,Zf⟩:=bN;rw[Zf];exact⟨HO,λ_=>rfl,by simpa using run_firstCells_some (P:=C.P) w i.size 0 ⟨g0,0,none⟩ 0 0 [] Aw Aw,by simpa using run_firstCells_some (P:=C.P) w.drew i.size 0 ⟨g0,0,none⟩ 0 0 [] Aw Aw,Aw,Aw⟩
   .obtain⟨A,f,Zf,_⟩:=bN;rw[Zf];exact⟨HO,λ_=>rfl,by simpa using run_firstCells_some (P:=C.P) w i.size 0 A 0 f [] Aw Aw,by simpa using run_firstCells_some (P:=C.P) w.drew i.size 0 A 0 f [] Aw Aw,Aw,Aw⟩
  rcases iR with⟨Ih,rfl⟩|⟨g,cap,us,y,Ih,rfl,QW,hB,hg,VW,zH⟩|⟨g,Ih,rfl⟩
  rotate_left 2;.have AE:=run_append_room_src (P:=C.P) w t t' o.type e i ht hi g 0 0 0 (a.eval x) 0 [] I9 Ab Aw Aw;rw[<-Ih] at AE;simp only[World.setCells] at AE;exact Fc.value (K8 _ _ AE) (I7.put λ_ _=>Ig)
  .have AE:(Builtin.append_ #[t,t'] o.type #[a.eval s,a.eval x]).run C.P w= .ok (.slice none 0 0) w:=by rw[Ih];have hl:=I9.len;have SY:=I9.cells;rcases HO with⟨G,hk⟩|hk<;>simp[Builtin.append_,run_underlying ht,run_underlying hk,sizeOf,typeInfo,hi,hl,SY]
   exact Fc.value (K8 _ _ AE) (I7.put λ_ _=>rfl)
  .have AE:=run_append_room_src (P:=C.P) w t t' o.type e i ht hi g 0 0 cap (a.eval x) 0 [] I9 Ab Aw Aw;rw[<-Ih] at AE;simp only[World.setCells] at AE;exact Fc.value (K8 _ _ AE) (I7.put λ_ _=>Ig)
def CH.kill(hr:CH C γ0 w0 γ Z U h a w)(id:Nat):CH C γ0 w0 γ Z U (h.set id .DK) a w:=by
 have key:∀{Fb:Nat} {x:DJ},(h.set id .DK)[Fb]?=some x->x≠ .DK->h[Fb]?=some x:=λ{Fb x} hx hd=>by
  by_cases he:id=Fb
  .subst he;rw[aGK] at hx;simp only[BH] at hx;split at hx;.cases hx;exact absurd rfl hd
   .cases hx
  .rwa [An he] at hx
 exact⟨⟨hr.Dr.Hh,λFb y Hw hy=>hr.Dr.K5 Fb y (key Hw hy) hy,λFb cs hc b hb=>hr.Dr.cells Fb cs (key hc Aw) b hb,λFb es hc b hb=>hr.Dr.map Fb es (key hc Aw) b hb,λFb b hb=>by simpa using hr.Dr.mu Fb b hb,hr.Dr.BE,hr.Dr.sz⟩,hr.fr,hr.Dq,hr.defers,hr.Gq⟩
def CH.rU(hr:CH C γ0 w0 γ Z U h a w){id g:Nat}{cs:List Aa}(hcs:h[id]?=some (.cells cs))(hg:γ.mu id=some g){us:Array Value}{e:TypeId}{fr:Nat×Nat}(hw:w.heap[g]?=some (.cells us e fr))(SD:γ.sz g=some us.size)(C6:Array Value)(Gd:List Aa)(VW:C6.size=us.size)(iK:Q8 fr C6.size)
  (hv:AS γ Gd (C6.toList.take Gd.length)) (h1:∀u∈C6.toList.take Gd.length,u.oneCell'=true):∃γ',γ.le γ'/\γ'.mu h.length=some g/\CH C γ0 w0 γ' Z U (h.set id .DK++[.cells Gd]) a (w.setRow g C6)/\γ'.sz g=some us.size:=by
 obtain⟨d,p,QW⟩:=hr.Dr.K5 id _ hcs Aw;rw[hg] at p;cases p;have zI:id<h.length:=hr.Dr.mu _ _ hg;have Y_:γ.mu h.length=none:=by
  cases hc:γ.mu h.length with
  |none=>rfl
  |some y=>exact absurd (hr.Dr.mu _ y hc) (C8 _)
 have uniq:∀Fb x,h[Fb]?=some x->x≠ .DK->γ.mu Fb=some g->Fb=id:=λFb x hx ph hm=>by obtain⟨b',p,q⟩:=hr.Dr.K5 Fb x hx ph;rw[hm] at p;cases p;rw[QW] at q;cases q;rfl
 have Eg:γ.le (γ.BW g h.length (some us.size)):=⟨λ_ _ _ hv=>hv,λFb b hm=>by
  have:Fb≠h.length:=λhe=>by rw[he,Y_] at hm;cases hm
  simp only[Gh.BW,Ac this];exact hm,λb n hm=>by
  by_cases he:b=g;.subst he;rw[SD] at hm;cases hm;simp[Gh.BW]
  .simp only[Gh.BW,Ac he];exact hm⟩
 have old:∀{Fb:Nat} {x:DJ},(h.set id .DK++[DJ.cells Gd])[Fb]?=some x->x≠ .DK->Fb≠h.length->h[Fb]?=some x/\Fb≠id:=λ{Fb x} hx hd hne=>by
  have hlt:Fb<(h.set id .DK).length:=by rw[Ae] at hx;obtain⟨hl,_⟩:=hx;simp at hl⊢;omega
  rw[Al hlt] at hx;by_cases he:id=Fb;.subst he;rw[AH (by simpa using hlt)] at hx;cases hx;exact absurd rfl hd
  .rw[An he] at hx;exact⟨hx,λh=>he h.symm⟩
 have aBM:GO (γ.BW g h.length (some us.size)) (h.set id .DK++[.cells Gd]) (w.setRow g C6):=by
  refine⟨λb o v hb=>?_,λFb y Hw hy=>?_,λFb P7 hc b hb=>?_,λFb es hc b hb=>?_,λFb b hb=>?_,λb y hy=>?_,λb n hb=>?_⟩
  .obtain⟨p,q,r⟩:=hr.Dr.Hh b o v hb;have MF:b≠g:=λhe=>by subst he;rw[QW] at r;rcases r with r|⟨_,_,_,r,_⟩<;>cases r
   exact⟨by rw[Cs (setRow_other w g b C6 MF)];exact p,q,by simp only[Gh.BW,Ac MF];exact r⟩
  .by_cases he:Fb=h.length;.exact⟨g,by simp[Gh.BW,he],by simp[Gh.BW,he]⟩
   .obtain⟨m8,hne⟩:=old Hw hy he;obtain⟨b,p,q⟩:=hr.Dr.K5 Fb y m8 hy;have MF:b≠g:=λhx=>by subst hx;exact hne (uniq Fb y m8 hy p)
    exact⟨b,by simp only[Gh.BW,Ac he];exact p,by simp only[Gh.BW,Ac MF];exact q⟩
  .by_cases he:Fb=h.length;.subst he;simp[Gh.BW] at hb;subst hb;rw[Bp Aw] at hc;simp at hc;subst hc;exact⟨C6,e,fr,setRow_heap w g us C6 e fr hw,iK,AS.mono Eg _ _ hv,h1⟩
   .simp only[Gh.BW,Ac he] at hb;obtain⟨JB,hne⟩:=old hc Aw he;have MF:b≠g:=λhx=>by subst hx;exact hne (uniq Fb _ JB Aw hb)
    obtain⟨cE,c,q7,p,pf,q,r⟩:=hr.Dr.cells Fb P7 JB b hb;exact⟨cE,c,q7,by rw[setRow_other w g b C6 MF];exact p,pf,AS.mono Eg _ _ q,r⟩
  .by_cases he:Fb=h.length;.subst he;rw[Bp Aw] at hc;simp at hc
   .simp only[Gh.BW,Ac he] at hb;obtain⟨JB,hne⟩:=old hc Aw he;have MF:b≠g:=λhx=>by subst hx;exact hne (uniq Fb _ JB Aw hb)
    obtain⟨Dy,clock,p,q⟩:=hr.Dr.map Fb es JB b hb;exact⟨Dy,clock,by rw[setRow_other w g b C6 MF];exact p,q.mono Eg⟩
  .by_cases he:Fb=h.length;.simp[he]
   .simp only[Gh.BW,Ac he] at hb;have:=hr.Dr.mu Fb b hb;simp;omega
  .by_cases MF:b=g;.subst MF;have:=hr.Dr.BE _ _ QW;simpa[World.setRow] using this
   .simp only[Gh.BW,Ac MF] at hy;have:=hr.Dr.BE b y hy;simpa[World.setRow] using this
  .by_cases he:b=g;.subst he;simp only[Gh.BW,BH] at hb;cases hb;exact⟨⟨C6,e,fr,setRow_heap w b us C6 e fr hw,VW⟩,.inr ⟨h.length,by simp[Gh.BW]⟩⟩
   .simp only[Gh.BW,Ac he] at hb⊢;obtain⟨p,r⟩:=hr.Dr.sz b n hb;exact⟨by rw[setRow_other w g b C6 he];exact p,r⟩
 refine⟨_,Eg,by simp[Gh.BW],hr.HK aBM ⟨Eg,by simp[World.setRow],rfl,rfl,rfl,λb hb hn=>?_⟩,by simp[Gh.BW]⟩;have MF:b≠g:=λhe=>by subst he;exact hn id QW
 exact⟨setRow_other w g b C6 MF,by simp only[Gh.BW,Ac MF]⟩
def rV{o:Oper}{c:Call}{t t' e:TypeId}{n b:Nat}{s x:Operand}{v u r:Aa}{h':Ah}(ho:o.op= .call c)(hc:c.callee= .builtin .append)(h0:c.argTypes[0]?=some t)(h1:c.argTypes[1]?=some t')(El:c.args.toList=[s,x])(ht:C.P.underlying t=some (.slice e))
  (HO:(∃K,C.P.underlying t'=some (.slice K))\/C.P.underlying t'=some .string) (J3:BJ C.P e=some (n+1)) (rL:IK C.P e=some (b+1)) (YJ:KE C.P e=true) (hv:Be C U [s,x]=some [v,u])
  (hp:FX h (n+1) (b+1) v u=some (h',r)) (hr:CH C γ0 w0 γ Z U h a w):Fc C γ0 w0 o a w (U.put o.dst (.val r)) h':=by
 obtain⟨i,z,hi,hz,Xq⟩:=JP YJ;have OE:=Iu J3 hi;have py:=Ko rL hi;obtain⟨_,_,e0,hvs,bN⟩:=ED hr hv;cases e0;have I8:c.args.map a.eval=#[a.eval s,a.eval x]:=by apply GC;simp[El]
 have K8:∀v' w',(Builtin.append_ #[t,t'] o.type #[a.eval s,a.eval x]).run C.P w= .ok v' w'->(execOp a.eval o).run C.P w= .ok (.value v') w':=λv' w' AE=>by
  have:execOp a.eval o=(do pure (Next.value (<-Builtin.append_ #[t,t'] o.type #[a.eval s,a.eval x]))):=by rw[<-I8,<-MO (ty:=o.type) h0 h1];simp only[execOp,ho,resolve,hc];rfl
  rw[this];exact C2 AE
 unfold FX at hp;cases hq:Gv h (n+1) u with
 |none=>rw[hq] at hp;cases hp
 |some Ao=>
  rw[hq] at hp;obtain⟨news,I9,SX,cU⟩:=TK (w:=w) HO hr.Dr bN hq;have IQ:Src C.P i.size t' (a.eval x) Ao.length news w:=by rw[OE];exact I9
  have OF:news.length=Ao.length*(n+1):=I9.newsLen;have HV:Ao.flatten.length=news.length:=by rw[SX.length]
  cases Ao with
  |nil=>
   have q9:news=[]:=CB (by simpa using OF);subst q9;cases v with
   |slnil=>
    cases hp;have Ih:a.eval s= .slice none 0 0:=hvs;have AE:(Builtin.append_ #[t,t'] o.type #[a.eval s,a.eval x]).run C.P w= .ok (.slice none 0 0) w:=by rw[Ih];have hl:=IQ.len;have SY:=IQ.cells;simp only[BK] at hl SY;rcases HO with⟨K,hk⟩|hk<;>simp[Builtin.append_,run_underlying ht,run_underlying hk,sizeOf,typeInfo,hi,hl,SY]
    exact Fc.value (K8 _ _ AE) (hr.put λ_ _=>rfl)
   |Fq E=>
    simp only at hp;split at hp;.cases hp;obtain⟨g,Ih⟩:=(show Bz γ _ _ from hvs);have AE:=run_append_room_src (P:=C.P) w t t' o.type e i ht hi g 0 0 0 (a.eval x) 0 [] IQ Ab Aw Aw;rw[<-Ih] at AE;simp only[World.setCells,Bc] at AE;exact Fc.value (K8 _ _ AE) (hr.put λ_ _=>⟨g,Ih⟩)
    .cases hp
   |CL id off k E=>
    simp only at hp;split at hp;.cases hp;obtain⟨g,cap,hg,Ih,yZ,xX,SD⟩:=(show Bz γ _ _ from hvs);have AE:=run_append_room_src (P:=C.P) w t t' o.type e i ht hi g off k cap (a.eval x) 0 [] IQ Ab Aw Aw;rw[<-Ih] at AE;simp only[World.setCells,Bc] at AE;exact Fc.value (K8 _ _ AE) (hr.put λ_ _=>⟨g,cap,hg,rfl,yZ,xX,SD⟩)
    .cases hp
   |_=>cases hp
  |cons L l=>
   generalize hR:L::l=Ao at*;have hpos:0<Ao.length:=by rw[<-hR];simp
   have d:∀(h2:Ah) (base:Option Addr) (k cap:Nat) (QY:List Aa) (olds:List Value),CH C γ0 w0 γ Z U h2 a w->a.eval s= .slice base k cap->AS γ QY olds->olds.length=k*(n+1)->(∀q∈olds,q.oneCell'=true)->
     (Builtin.firstCells i.size k (.slice base k cap)).run C.P w.drew= .ok olds.toArray w.drew->cap<k+Ao.length->(k+Ao.length)*(b+1)<=AQ->
     Fc C γ0 w0 o a w (U.put o.dst (.val (.CL h2.length 0 (k+Ao.length) (n+1)))) (h2++[.cells (QY++Ao.flatten)]):=by
    intro h2 base k cap QY olds Lj hs Å bO pq f hlt QX;have PR:k+Ao.length<=AQ:=Bm (Hu _ (CE b)) QX;have FX:=run_append_grow_src (P:=C.P) w t t' o.type e i z ht hi hz base k cap olds f (a.eval x) Ao.length news IQ hlt (by simp only[AQ] at PR;omega) (by rw[py];exact growslice_fits hlt QX);rw[<-hs] at FX;have GW:=grownCap_ge w (k+Ao.length) cap e;have mX:(olds++news).length=(k+Ao.length)*(n+1):=by rw[Ap,bO,OF,Bs]
    have mQ:(QY++Ao.flatten).length=(olds++news).length:=by rw[Ap,Ap,Å.length,HV]
    have rT:((olds++news).toArray++Builtin.zeroCells z.cells (grownCap w (k+Ao.length) cap e-(k+Ao.length))).size=grownCap w (k+Ao.length) cap e*(n+1):=by simp only[IE,BP,size_zeroCells,Xq,OE,mX,<-Bs];congr 1;omega
    have RR:((olds++news).toArray++Builtin.zeroCells z.cells (grownCap w (k+Ao.length) cap e-(k+Ao.length))).toList.take (QY++Ao.flatten).length=olds++news:=by simp only[Gb];rw[mQ];exact Es
    obtain⟨D,Zc,TP,Â,SC⟩:=Lj.drew.newObj ((olds++news).toArray++Builtin.zeroCells z.cells (grownCap w (k+Ao.length) cap e-(k+Ao.length))) e (0,0) (QY++Ao.flatten) (.inl rfl) (by rw[RR];exact Å.append SX) (by rw[RR];intro q hq;exact(Ak.1 hq).elim (pq q) (I9.one q))
    exact Fc.value (K8 _ _ FX) (Â.put λ_ _=>⟨w.heap.size,_,TP,rfl,GW,⟨CE n,grownCap_le_maxLen w _ _ _ (by simp only[AQ] at PR;simp only[maxLen];omega)⟩,by rw[BC,<-rT];exact SC⟩)
   cases v with
   |slnil=>
    have Ih:a.eval s= .slice none 0 0:=hvs;rw[<-hR] at hp;simp only at hp;rw[hR] at hp;split at hp;.rename_i QX;cases hp;have:=d h none 0 0 [] [] hr Ih rfl Aw Aw (run_firstCells_none _ _ _ _ _) Ab (by simpa using QX);simpa using this
    .cases hp
   |Fq E=>
    obtain⟨g,Ih⟩:=(show Bz γ _ _ from hvs);rw[<-hR] at hp;simp only at hp;rw[hR] at hp;split at hp;.rename_i QX;cases hp;have:=d h (some ⟨g,0,none⟩) 0 0 [] [] hr Ih rfl Aw Aw (by simpa using run_firstCells_some (P:=C.P) w.drew i.size 0 ⟨g,0,none⟩ 0 0 [] Aw Aw) Ab (by simpa using QX.2);simpa using this
    .cases hp
   |CL id off k E=>
    rw[<-hR] at hp;simp only at hp;rw[hR] at hp;split at hp
    .rename_i cs hcs;split at hp
     .rename_i G;subst G;obtain⟨g,cap,hg,Ih,yZ,xX,SD⟩:=(show Bz γ _ _ from hvs);obtain⟨us,J,fr,m,pf,B,A⟩:=hr.Dr.cells id cs hcs g hg;obtain⟨⟨p8,O,N,H,F⟩,_⟩:=hr.Dr.sz g _ SD;rw[m] at H;cases H;have YI:cs.length<=us.size:=by have:=B.length;simp at this;omega
      have L7:∀j,(⟨g,off,none⟩:Addr).add j=⟨g,off+j,none⟩:=λj=>by unfold Addr.add;split<;>simp_all
      have p:∀o,o<us.size->w.frozen? ⟨g,o,none⟩=false:=λo ho=>by
       simp only[World.frozen?,m];rcases pf with rfl|iK
       .simp
       .simp;omega
      have room:k+Ao.length<=cap->(Builtin.append_ #[t,t'] o.type #[a.eval s,a.eval x]).run C.P w= .ok (.slice (some ⟨g,off,none⟩) (k+Ao.length) cap) (w.setRow g (us.toList.take (off+k*(n+1))++news++us.toList.drop (off+k*(n+1)+news.length)).toArray)/\off+k*(n+1)+news.length<=us.size:=by
       intro hroom;have hfit:off+k*(n+1)+news.length<=us.size:=by rw[OF,F,Py,<-Bs];exact Nat.add_le_add_left (DM _ hroom) _
       have AE:=run_append_room_src (P:=C.P) w t t' o.type e i ht hi g off k cap (a.eval x) Ao.length news IQ hroom (λj hj=>by rw[cell_of_row w _ _ us J fr m,OE,Cu Ab];rfl) (λj hj=>by rw[OE];exact p _ Ab)
       rw[OE,Ek news _ us w m hfit,<-Ih] at AE;exact⟨AE,hfit⟩
      have Y3:(k+Ao.length)*(n+1)=k*(n+1)+Ao.length*(n+1):=Bs _ _ _;split at hp
      .rename_i YL;cases hp;have hroom:k+Ao.length<=cap:=by have M:(k+Ao.length)*(n+1)<=cap*(n+1):=Ab;exact Nat.le_of_mul_le_mul_right M (CE n)
       obtain⟨AE,hfit⟩:=room hroom;have I:off+(k+Ao.length)*(n+1)=off+k*(n+1)+news.length:=by rw[OF,Y3];omega
       have hcl:(cs.take (off+k*(n+1))++Ao.flatten++cs.drop (off+(k+Ao.length)*(n+1))).length=cs.length:=by rw[I,Ap,Ap,Au,AV,HV];omega
       have RR:((us.toList.take (off+k*(n+1))++news++us.toList.drop (off+k*(n+1)+news.length)).toArray).toList.take (cs.take (off+k*(n+1))++Ao.flatten++cs.drop (off+(k+Ao.length)*(n+1))).length=
         (us.toList.take cs.length).take (off+k*(n+1))++news++(us.toList.take cs.length).drop (off+k*(n+1)+news.length):=by
        rw[hcl];simp only[Jt];exact Lh (by simpa using YI) Ab rfl
       obtain⟨YM,Pf⟩:=LZ hr.Dr hcs hg m (us.toList.take (off+k*(n+1))++news++us.toList.drop (off+k*(n+1)+news.length)).toArray (cs.take (off+k*(n+1))++Ao.flatten++cs.drop (off+(k+Ao.length)*(n+1)))
        (by simp only[BP,Ap,Au,AV,B0];omega)
        (by
         rcases pf with rfl|pf
         .exact .inl rfl
         .refine .inr (Bm (KY ?_) pf);simp only[BP,Ap,Au,AV,B0];omega)
        (by rw[RR,I];exact MM B SX)
        (by
         rw[RR];intro q hq;rcases Ak.1 hq with hq|hq
         .rcases Ak.1 hq with hq|hq
          .exact A q (AN hq)
          .exact I9.one q hq
         .exact A q (A6 hq))
       exact Fc.value (K8 _ _ AE) ((hr.HK YM Pf).put λ_ _=>⟨g,cap,hg,rfl,hroom,xX,SD⟩)
      .rename_i aG4;split at hp
       .rename_i GQ;obtain⟨rfl,V5,QX⟩:=GQ;cases hp;simp only[BC] at*;by_cases hroom:k+Ao.length<=cap
        .obtain⟨AE,hfit⟩:=room hroom;have mQ:(cs.take (k*(n+1))++Ao.flatten).length=k*(n+1)+news.length:=by rw[Ap,Au,HV];omega
         have RR:((us.toList.take (k*(n+1))++news++us.toList.drop (k*(n+1)+news.length)).toArray).toList.take (cs.take (k*(n+1))++Ao.flatten).length=(us.toList.take cs.length).take (k*(n+1))++news:=by
          rw[mQ];simp only[Jt];have:(us.toList.take (k*(n+1))++news).length=k*(n+1)+news.length:=by rw[Ap,Au,B0];omega
          rw[<-this,Es,GD,Ce V5]
         obtain⟨D,Zc,TP,Lj,SC⟩:=hr.rU hcs hg m (by rw[SD,F]) (us.toList.take (k*(n+1))++news++us.toList.drop (k*(n+1)+news.length)).toArray (cs.take (k*(n+1))++Ao.flatten)
          (by simp only[BP,Ap,Au,AV,B0];omega)
          (by
           rcases pf with rfl|pf
           .exact .inl rfl
           .refine .inr (Bm (KY ?_) pf);simp only[BP,Ap,Au,AV,B0];omega)
          (by rw[RR];exact(B.take _).append SX)
          (by
           rw[RR];intro q hq;rcases Ak.1 hq with hq|hq
           .exact A q (AN hq)
           .exact I9.one q hq)
         exact Fc.value (K8 _ _ AE) (Lj.put λ_ _=>⟨g,cap,TP,rfl,hroom,xX,by rw[SC,F];simp⟩)
        .have bO:((us.toList.take cs.length).take (k*(n+1))).length=k*(n+1):=ER;have:=d (h.set id .DK) (some ⟨g,0,none⟩) k cap (cs.take (k*(n+1))) ((us.toList.take cs.length).take (k*(n+1))) (hr.kill id) Ih (B.take _) bO (λq hq=>A q (AN hq))
          (by
           rw[OE];exact run_firstCells_some w.drew _ _ _ _ _ _ bO (λj y hj=>by
            rw[L7];show w.cell? _=_;rw[cell_of_row w _ _ us J fr m];rw[B3] at hj;split at hj
            .rw[B3] at hj;split at hj;.simpa using hj
             .cases hj
            .cases hj)) Ab QX
         simpa using this
       .cases hp
     .cases hp
    .cases hp
   |_=>rw[<-hR] at hp;cases hp
def Zk(hi:GO γ h w){id g off:Nat}{cs b:List Aa}{news:List Value}(hcs:h[id]?=some (.cells cs))(hg:γ.mu id=some g)(hv:AS γ b news)(h1:∀u∈news,u.oneCell'=true)(hl:off+b.length<=cs.length):
  ∃w',(storeCells ⟨g,off,none⟩ news).run C.P w= .ok () w'/\GO γ (h.set id (.cells (cs.take off++b++cs.drop (off+b.length)))) w'/\KF γ w γ w':=by
 obtain⟨us,e,fr,hw,pf,d,c⟩:=hi.cells id cs hcs g hg;have OF:news.length=b.length:=hv.length;have hlt:cs.length<=us.size:=by have:=d.length;simp at this;omega
 have hs:=run_storeCells_cells (P:=C.P) g off news 0 w (λj hj=>by
  rw[cell_of_row w _ _ us e fr hw,Bc,Cu Ab];rfl) (λj hj=>by
  simp only[World.frozen?,hw];rcases pf with rfl|iK
  .simp
  .simp;omega) h1
 rw[Bc,Ek _ off us w hw Ab] at hs;have hcl:(cs.take off++b++cs.drop (off+b.length)).length=cs.length:=ER;have RR:((us.toList.take off++news++us.toList.drop (off+news.length)).toArray).toList.take (cs.take off++b++cs.drop (off+b.length)).length=(us.toList.take cs.length).take off++news++(us.toList.take cs.length).drop (off+news.length):=by rw[hcl];simp only[Jt];exact Lh (by simpa using hlt) Ab rfl
 obtain⟨rW,ha⟩:=LZ hi hcs hg hw (us.toList.take off++news++us.toList.drop (off+news.length)).toArray (cs.take off++b++cs.drop (off+b.length))
  (by simp only[BP,Ap,Au,AV,B0];omega)
  (by
   rcases pf with rfl|pf
   .exact .inl rfl
   .refine .inr (Bm (KY ?_) pf);simp only[BP,Ap,Au,AV,B0];omega)
  (by rw[RR,OF];exact MM d hv)
  (by
   rw[RR];intro q hq;rcases Ak.1 hq with hq|hq
   .rcases Ak.1 hq with hq|hq
    .exact c q (AN hq)
    .exact h1 q hq
   .exact c q (A6 hq))
 exact⟨_,hs,rW,ha⟩
def cX{t t' ty:TypeId}{ts:Array TypeId}{xs:Array Value}(h0:ts[0]?=some t)(h1:ts[1]?=some t'):Builtin.copy_ ts ty xs=Builtin.copy_ #[t,t'] ty xs:=by simp only[Builtin.copy_,h0];rfl
def Zl{P:Program}{t t' ty e:TypeId}{i:TypeInfo}(ht:P.underlying t=some (.slice e))(hi:P.info? e=some i){x:Value}{n:Nat}{news:List Value}(hs:Src P i.size t' x n news w){base:Option Addr}{k cap:Nat}(hk:n<=k)
  (HW:∀b,base=some b->(storeCells b news).run P w= .ok () w') (YK:base=none->w'=w):(Builtin.copy_ #[t,t'] ty #[.slice base k cap,x]).run P w= .ok (.int .i64 n) w':=by
 have hl:=hs.len w;have hc:=hs.cells;have hm:Nat.min n k=n:=Ce hk;cases base with
 |none=>cases YK rfl;simp[Builtin.copy_,run_underlying ht,hl,hc,sizeOf,typeInfo,hi,hm,goInt]
 |some b=>have h2:=HW b rfl;simp[Builtin.copy_,run_underlying ht,hl,hc,sizeOf,typeInfo,hi,hm,goInt,h2]
def rX{o:Oper}{c:Call}{t t' e:TypeId}{n:Nat}{s x:Operand}{v u r:Aa}{h':Ah}(ho:o.op= .call c)(hc:c.callee= .builtin .copy)(h0:c.argTypes[0]?=some t)(h1:c.argTypes[1]?=some t')(El:c.args.toList=[s,x])(ht:C.P.underlying t=some (.slice e))
  (HO:(∃d,C.P.underlying t'=some (.slice d))\/C.P.underlying t'=some .string) (J3:BJ C.P e=some (n+1)) (hv:Be C U [s,x]=some [v,u])
  (hp:iD h (n+1) v u=some (h',r)) (hr:CH C γ0 w0 γ Z U h a w):Fc C γ0 w0 o a w (U.put o.dst (.val r)) h':=by
 obtain⟨_,_,e0,hvs,bN⟩:=ED hr hv;cases e0;have I8:c.args.map a.eval=#[a.eval s,a.eval x]:=by apply GC;simp[El]
 have K8:∀v' w',(Builtin.copy_ #[t,t'] o.type #[a.eval s,a.eval x]).run C.P w= .ok v' w'->(execOp a.eval o).run C.P w= .ok (.value v') w':=λv' w' AE=>by
  have:execOp a.eval o=(do pure (Next.value (<-Builtin.copy_ #[t,t'] o.type #[a.eval s,a.eval x]))):=by rw[<-I8,<-cX (ty:=o.type) h0 h1];simp only[execOp,ho,resolve,hc];rfl
  rw[this];exact C2 AE
 cases hi:C.P.info? e with
 |none=>simp[BJ,hi] at J3
 |some i=>
 have OE:=Iu J3 hi;unfold iD at hp;cases hq:Gv h (n+1) u with
 |none=>rw[hq] at hp;cases hp
 |some Ao=>
  rw[hq] at hp;obtain⟨news,I9,SX,cU⟩:=TK (w:=w) HO hr.Dr bN hq;have IQ:Src C.P i.size t' (a.eval x) Ao.length news w:=by rw[OE];exact I9
  have OF:news.length=Ao.length*(n+1):=I9.newsLen;have HV:Ao.flatten.length=news.length:=by rw[SX.length]
  simp only at hp;split at hp
  .split at hp;.rename_i m9;cases hp;have Ih:a.eval s= .slice none 0 0:=hvs;have AE:=Zl (t:=t) (ty:=o.type) (w:=w) (w':=w) ht hi IQ (base:=none) (k:=0) (cap:=0) Ab (λ_ e=>by cases e) (λ_=>rfl);rw[<-Ih] at AE;rw[m9] at AE;exact Fc.value (K8 _ _ AE) (hr.put λ_ _=>rfl)
   .cases hp
  .rename_i id off k z;split at hp
   .rename_i cs hcs;split at hp;.rename_i GQ;obtain⟨rfl,b,hlen⟩:=GQ;cases hp;obtain⟨g,cap,hg,Ih,yZ,xX,SD⟩:=(show Bz γ _ _ from hvs);have hm:=DM (n+1) b;obtain⟨w',HW,rW,po⟩:=Zk (C:=C) (off:=off) hr.Dr hcs hg SX I9.one Ab;have AE:=Zl (t:=t) (ty:=o.type) (w:=w) (w':=w') ht hi IQ (base:=some ⟨g,off,none⟩) (k:=k) (cap:=cap) b (λ_ e=>by cases e;exact HW) (λe=>by cases e);rw[<-Ih] at AE;rw[show Ao.length*(n+1)=Ao.flatten.length by rw[HV,OF]];exact Fc.value (K8 _ _ AE) ((hr.HK rW po).put λ_ _=>rfl)
    .cases hp
   .cases hp
  .cases hp
def Zm{t ty:TypeId}{ts:Array TypeId}{xs:Array Value}(h0:ts[0]?=some t):Builtin.clear_ ts ty xs=Builtin.clear_ #[t] ty xs:=by simp only[Builtin.clear_,h0];rfl
def nA{o:Oper}{c:Call}{t e:TypeId}{n:Nat}{s:Operand}{v z r:Aa}{h':Ah}(ho:o.op= .call c)(hc:c.callee= .builtin .clear)(h0:c.argTypes[0]?=some t)(El:c.args.toList=[s])(ht:C.P.underlying t=some (.slice e))
  (J3:BJ C.P e=some (n+1)) (hz:Ge C.P e=some z) (hv:Be C U [s]=some [v]) (hp:Tk h (n+1) z.cells v=some (h',r)) (hr:CH C γ0 w0 γ Z U h a w):Fc C γ0 w0 o a w (U.put o.dst .undef) h':=by
 obtain⟨_,e0,hvs⟩:=FZ hr hv;cases e0;have I8:c.args.map a.eval=#[a.eval s]:=by apply GC;simp[El]
 have K8:∀v' w',(Builtin.clear_ #[t] o.type #[a.eval s]).run C.P w= .ok v' w'->(execOp a.eval o).run C.P w= .ok (.value v') w':=λv' w' AE=>by
  have:execOp a.eval o=(do pure (Next.value (<-Builtin.clear_ #[t] o.type #[a.eval s]))):=by rw[<-I8,<-Zm (ty:=o.type) h0];simp only[execOp,ho,resolve,hc];rfl
  rw[this];exact C2 AE
 unfold Tk at hp;split at hp
 .cases hp;have Ih:a.eval s= .slice none 0 0:=hvs;have AE:(Builtin.clear_ #[t] o.type #[a.eval s]).run C.P w= .ok (.tuple #[]) w:=by rw[Ih];simp[Builtin.clear_,run_underlying ht]
  exact Fc.value (K8 _ _ AE) (hr.put λ_ _=>trivial)
 .rename_i id off k A;split at hp
  .rename_i cs hcs;split at hp
   .rename_i GQ;obtain⟨rfl,f,hlen⟩:=GQ;cases hp;obtain⟨g,cap,hg,Ih,yZ,xX,SD⟩:=(show Bz γ _ _ from hvs);obtain⟨d,p9,qb⟩:=GX hz;obtain⟨m,p⟩:=Gx (γ:=γ) (EO p9) Ab;have Xq:d.cells.size=n+1:=by have:=m.length;simp at this;omega
    have HV:(List.replicate k z.cells).flatten.length=k*(n+1):=by rw[Gz (z:=n+1) (λr hr=>by rw[jl hr,f]),Fa]
    have i:∀(j:Nat) (u:Value),(Builtin.zeroCells d.cells k).toList[j]?=some u->j<k*(n+1)/\d.cells.toList[j%(n+1)]?=some u:=by
     intro j u hj;have rO:j<k*(n+1):=by have:=(Ae.1 hj).1;simpa[size_zeroCells,Xq] using this
     refine⟨rO,?_⟩;have pz:j%(n+1)<d.cells.size:=by rw[Xq];exact Nat.mod_lt _ (CE n)
     simp only[Builtin.zeroCells,LQ,Cn] at hj;have b:(Array.range (k*d.cells.size)).toList[j]?=some j:=by simp[Xq,rO]
     rw[b] at hj;simp only[BU,BB] at hj;rw[Xq] at hj;rw[<-hj];simp[pz]
    have q:AS γ (List.replicate k z.cells).flatten (Builtin.zeroCells d.cells k).toList:=by refine AS.Gf (by simp only[B0,size_zeroCells,Xq,HV]) λj x u hx hu=>?_;obtain⟨rO,l⟩:=i j u hu;rw[Ha z.cells _ _ (by rw[f];exact rO),f] at hx;obtain⟨B,rD,pt⟩:=m.get hx;rw[l] at rD;cases rD;exact pt
    obtain⟨w',HW,rW,po⟩:=Zk (C:=C) (off:=off) hr.Dr hcs hg q (λu hu=>by obtain⟨j,hj⟩:=Cq hu;exact p u (Cb (i j u hj).2)) Ab
    have AE:(Builtin.clear_ #[t] o.type #[a.eval s]).run C.P w= .ok (.tuple #[]) w':=by
     rw[Ih];cases k with
     |zero=>
      have y:(Builtin.zeroCells d.cells 0).toList=[]:=by simp[Builtin.zeroCells]
      rw[y] at HW;have:w'=w:=by have h2:(storeCells ⟨g,off,none⟩ []).run C.P w= .ok () w:=rfl;rw[h2] at HW;cases HW;rfl
      rw[this];simp[Builtin.clear_,run_underlying ht]
     |succ k=>simp[Builtin.clear_,run_underlying ht,qb,HW]
    rw[show k*(n+1)=(List.replicate k z.cells).flatten.length from HV.symm];exact Fc.value (K8 _ _ AE) ((hr.HK rW po).put λ_ _=>trivial)
   .cases hp
  .cases hp
 .cases hp
def rY{o:Oper}{t e:TypeId}{n:Nat}{x:Operand}{lo hi:Option Operand}{v r:Aa}{as:List Aa}{h':Ah}(ho:o.op= .slice t x lo hi none)(ht:C.P.underlying t=some (.slice e))(J3:BJ C.P e=some (n+1))
  (hv:Be C U (x::(lo.toList++hi.toList))=some (v::as)) (hp:YW h (n+1) lo.isSome hi.isSome v as=some (h',r)) (hr:CH C γ0 w0 γ Z U h a w):Fc C γ0 w0 o a w (U.put o.dst (.val r)) h':=by
 have cW:=Ds hr hv;obtain⟨u,us,c,hx,rZ⟩:=cW;simp only[Bi,FO] at c;obtain⟨rfl,rfl⟩:=c;unfold YW at hp;split at hp
 .rename_i id off k z;split at hp
  .rename_i cs hcs;split at hp
   .rename_i GQ;obtain⟨rfl,b,À⟩:=GQ;obtain⟨g,cap,hg,Ih,yZ,xX,SD⟩:=(show Bz γ _ _ from hx);cases hb:D2 lo.isSome hi.isSome ((cs.length-off)/(n+1)) as with
    |none=>rw[hb] at hp;cases hp
    |some m=>
     obtain⟨l,q⟩:=m;rw[hb] at hp;simp only[B5] at hp;split at hp
     .rename_i hlt;cases hp;obtain⟨us,c,fr,j,pf,i,E⟩:=hr.Dr.cells id cs hcs g hg;obtain⟨⟨p8,B,s,d,D⟩,_⟩:=hr.Dr.sz g _ SD;rw[j] at d;cases d;have YI:cs.length<=us.size:=by have:=i.length;simp at this;omega
      have aBO:(cs.length-off)/(n+1)<=cap:=by refine Nat.div_le_of_le_mul ?_;rw[Nat.mul_comm];omega
      have f:∀y:Option Operand,(y.map a.eval).isSome=y.isSome:=λy=>by cases y<;>rfl
      have A:(lo.map a.eval).toList++(hi.map a.eval).toList=(lo.toList++hi.toList).map a.eval:=by cases lo<;>cases hi<;>rfl
      rw[<-f lo,<-f hi] at hb;obtain⟨p,G,F⟩:=Jk (P:=C.P) (w:=w) (isSlice:=true) hb (by rw[A];exact rZ) aBO;have L0:Instr.sliceBounds true k cap (lo.map a.eval) (hi.map a.eval) none=Instr.sliceBounds true ((cs.length-off)/(n+1)) cap (lo.map a.eval) (hi.map a.eval) none:=by
       cases hi with
       |none=>cases b
       |some y=>rfl
      have HO:C.P.underlying t=some (.slice (C.P.elem t)):=by simp[Program.elem,ht]
      have he:C.P.elem t=e:=by simp[Program.elem,ht]
      have AE:(Instr.sliceAt t (a.eval x) (lo.map a.eval) (hi.map a.eval) none).run C.P w= .ok (.slice (some ⟨g,off+l*(n+1),none⟩) (q-l) (cap-l)) w:=by rw[Ih,run_sliceAt_slice w t _ _ _ _ HO,run_slice_any w t _ _ _ HO,L0,p,he,Result.andThen_ok,Dc J3];show Result.ok (Value.slice (if cap=l then some ⟨g,off,none⟩ else Option.map (λq:Addr=>q.add (l*(n+1))) (some ⟨g,off,none⟩)) (q-l) (cap-l)) w=_;rw[Ac Ab];simp only[BU];unfold Addr.add;split<;>simp_all
      refine Fc.value (by simp only[execOp,ho];exact C2 AE) (hr.put λ_ _=>⟨g,cap-l,hg,rfl,Ab,⟨xX.1,Bm (Nat.sub_le _ _) xX.2⟩,?_⟩);rw[SD,Py,<-Bs,aBq Ab]
     .cases hp
   .cases hp
  .cases hp
 .cases hp
def sB{o:Oper}{t e:TypeId}{n:Nat}{x lo hi mx:Operand}{args:List Aa}(ho:o.op= .slice t x (some lo) (some hi) (some mx))(ht:C.P.underlying t=some (.slice e))(J3:BJ C.P e=some (n+1))
  (hv:Be C U [x,lo,hi,mx]=some args) (hp:Tl (n+1) args=true) (hr:CH C γ0 w0 γ Z U h a w):Fc C γ0 w0 o a w (U.put o.dst .undef) h:=by
 have cW:=Ds hr hv;have HO:C.P.underlying t=some (.slice (C.P.elem t)):=by simp[Program.elem,ht]
 have he:C.P.elem t=e:=by simp[Program.elem,ht]
 have Iv:∀(base:Option Addr) (len cap:Nat) (kl f i:IntKind) (l r m:Int),a.eval x= .slice base len cap->a.eval lo= .int kl l->a.eval hi= .int f r->a.eval mx= .int i m->0<=l->l<=r->r<=m->m<=cap->Fc C γ0 w0 o a w (U.put o.dst .undef) h:=by
  intro base len cap kl f i l r m A z y u h1 h2 d j;have AE:∃v,(Instr.sliceAt t (a.eval x) (some (a.eval lo)) (some (a.eval hi)) (some (a.eval mx))).run C.P w= .ok v w:=by
   have c:0<=m:=Ab;have b:0<=r:=Ab;have b1:∀code,(Instr.sliceBound (.int i m) cap code).run C.P w= .ok m.toNat w:=λcode=>by simp[Instr.sliceBound,asIntOf,c,j]
   have b2:∀code,(Instr.sliceBound (.int f r) m.toNat code).run C.P w= .ok r.toNat w:=λcode=>by simp[Instr.sliceBound,asIntOf,b,Jw c,d]
   have b3:∀code,(Instr.sliceBound (.int kl l) r.toNat code).run C.P w= .ok l.toNat w:=λcode=>by simp[Instr.sliceBound,asIntOf,h1,Jw b,h2]
   rw[A,z,y,u];simp[Instr.sliceAt,Instr.slice,run_underlying ht,Instr.sliceBounds,b1,b2,b3,Dc J3]
  obtain⟨v,AE⟩:=AE;exact Fc.value (by simp only[execOp,ho];exact C2 AE) (hr.put λ_ _=>trivial)
 unfold Tl at hp;split at hp
 .rename_i s _ l _ r _ m;obtain⟨F,zn,f1,g1,E,cE,f2,g2,D,q,f3,g3,B,p,f4,k,f5⟩:=cW;subst f5;simp only[Bi,DW] at f1;subst f4;subst f3;subst f2;simp only[FO,J1] at f1;obtain⟨rfl,rfl,rfl,rfl⟩:=f1;split at hp;.simp only[Bt,C9] at hp;obtain⟨⟨⟨⟨_,h1⟩,h2⟩,d⟩,j⟩:=hp;obtain⟨g,cap,hg,Ih,yZ,_⟩:=(show Bz γ _ _ from g1);exact Iv _ _ _ _ _ _ _ _ _ Ih (Ea g2) (Ea g3) (Ea k) h1 h2 d Ab
  .simp only[Bt,C9] at hp;obtain⟨⟨⟨⟨_,h1⟩,h2⟩,d⟩,j⟩:=hp;obtain⟨G,cap,Ih,yZ,_⟩:=(show Bz γ _ _ from g1);exact Iv _ _ _ _ _ _ _ _ _ Ih (Ea g2) (Ea g3) (Ea k) h1 h2 d Ab
  .cases hp
 .cases hp
def sC{o:Oper}{t:TypeId}{x:Operand}{v:Aa}{u:TypeDesc}(ho:o.op= .makeInterface t x)(ht:C.P.underlying t=some u)(hn:∀i,u≠ .interface i)(hv:Be C U [x]=some [v])(hr:CH C γ0 w0 γ Z U h a w):Fc C γ0 w0 o a w (U.put o.dst (.val (.iface t v))) h:=by
 obtain⟨_,e0,hvs⟩:=FZ hr hv;cases e0;have AE:(Instr.makeInterface t (a.eval x)).run C.P w= .ok (.iface t (a.eval x)) w:=by cases u<;>simp_all [Instr.makeInterface,run_underlying ht]
 exact Fc.value (by simp only[execOp,ho];exact C2 AE) (hr.put λ_ _=>⟨_,rfl,hvs⟩)
def Oi{n:Int}:∀{es:List (Aa×Aa)} {l:List MapEntry} {i:Nat} {r:Option (Nat×Aa)},JM γ es l->J6 n es i=some r->
  match r with
  |none=>Instr.findNow (.int .i64) (.int .i64 n) l i=some none
  |some (j,v)=>∃(e:MapEntry),Instr.findNow (.int .i64) (.int .i64 n) l i=some (some (j,e.val))/\Bz γ v e.val/\i<=j/\l[j-i]?=some e/\e.key= .int .i64 n
 |[],l,i,r,b,hf=>by rw[show l=[] from b];cases hf;rfl
 |(k,v)::es,l,i,r,b,hf=>by
  obtain⟨e,l',rfl,h1,h2,m⟩:=b;cases k with
  |int q t=>
   by_cases hq:q= .i64
   .subst hq;simp only[J6] at hf;have hk:e.key= .int .i64 t:=h1;split at hf;.rename_i HW;subst HW;cases hf;exact⟨e,by simp[Instr.findNow,hk,Instr.sameNow],h2,Af _,Aw,hk⟩
    .rename_i HW;have Æ:(n==t)=false:=by simpa using HW
     have ih:=Oi (i:=i+1) m hf;cases r with
     |none=>simpa[Instr.findNow,hk,Instr.sameNow,Æ] using ih
     |some p=>obtain⟨j,v2⟩:=p;obtain⟨o,g,f,s,d,c⟩:=ih;refine⟨o,by simpa[Instr.findNow,hk,Instr.sameNow,Æ] using g,f,Ab,?_,c⟩;rw[(Ab:j-i=(j-(i+1))+1),QN];exact d
   .exfalso;cases q<;>first|exact hq rfl|(simp[J6] at hf)
  |_=>simp[J6] at hf
def sD{o:Oper}{t kt e:TypeId}{m k:Operand}{d f z r:Aa}{ok:Bool}{h':Ah}(ho:o.op= .lookup t m k ok)(ht:C.P.underlying t=some (.map kt e))(hk:C.P.underlying kt=some (.int .i64))(hz:Ge C.P e=some z)(ha:Be C U [m,k]=some [d,f])(hm:iE h z ok d f=some (h',r))(hr:CH C γ0 w0 γ Z U h a w):
  Fc C γ0 w0 o a w (U.put o.dst (.val r)) h':=by
 obtain⟨_,_,e0,h1,h2⟩:=ED hr ha;cases e0;obtain⟨c,p9,qb⟩:=GX hz;have Iv:∀(es:Array MapEntry) (q:Option (Nat×Aa)),(Instr.lookup t (a.eval m) (a.eval k) ok).run C.P w=(JD kt e (a.eval k) ok es).run C.P w->
   ∀n,a.eval k= .int .i64 n->(match q with|none=>Instr.findNow (.int .i64) (.int .i64 n) es.toList 0=some none|some (j,v)=>∃(e:MapEntry),Instr.findNow (.int .i64) (.int .i64 n) es.toList 0=some (some (j,e.val))/\Bz γ v e.val/\0<=j/\es.toList[j-0]?=some e/\e.key= .int .i64 n)->
   cA z ok q=r->Fc C γ0 w0 o a w (U.put o.dst (.val r)) h:=by
  intro es q P6 n zG hq RP;have m6:(Instr.checkKey es.isEmpty 10000 kt (.int .i64 n)).run C.P w= .ok () w:=MapKept.run_checkKey (k:= .int .i64 n) hk (by simp[MapKept.IsKey]) es.isEmpty 9999;have AE:∃v,(Instr.lookup t (a.eval m) (a.eval k) ok).run C.P w= .ok v w/\Bz γ r v:=by
   cases q with
   |none=>
    refine⟨if ok then .tuple #[c,.bool false] else c,?_,?_⟩;.rw[P6,zG];unfold JD;simp only[Sem.run_bind,Result.andThen_ok,m6,MapKept.run_findKey hk hq,qb,Sem.run_bind,Sem.run_pure]
    .rw[<-RP];have Ä:=EO (γ:=γ) p9;cases ok with
     |true=>exact⟨_,rfl,_,_,rfl,Ä,_,_,rfl,rfl,rfl⟩
     |false=>exact Ä
   |some p=>
    obtain⟨j,v⟩:=p;obtain⟨l,s,g,_⟩:=hq;refine⟨if ok then .tuple #[l.val,.bool true] else l.val,?_,?_⟩;.rw[P6,zG];unfold JD;simp only[Sem.run_bind,Result.andThen_ok,m6,MapKept.run_findKey hk s,Sem.run_bind,Sem.run_pure]
    .rw[<-RP];cases ok with
     |true=>exact⟨_,rfl,_,_,rfl,g,_,_,rfl,rfl,rfl⟩
     |false=>exact g
  obtain⟨v,AE,iO⟩:=AE;exact Fc.value (by simp only[execOp,ho];exact C2 AE) (hr.put λ_ _=>iO)
 unfold iE at hm;split at hm;.rename_i n;cases hm;exact Iv #[] none (by rw[show a.eval m=_ from h1];simp only[Instr.lookup,JD,Sem.run_bind,run_underlying ht,Result.andThen_ok,Sem.run_pure];rfl) n h2 rfl rfl
 .rename_i id n;obtain⟨b,hb,m0⟩:=h1;split at hm
  .rename_i es P6;obtain⟨Dy,clock,hw,u,_⟩:=hr.Dr.map id es P6 b hb;cases hf:J6 n es 0 with
   |none=>rw[hf] at hm;cases hm
   |some q=>
    rw[hf] at hm;simp only[BU,BB,LU] at hm;obtain⟨rfl,hm⟩:=hm;refine Iv Dy q (by rw[m0];simp only[Instr.lookup,JD,Sem.run_bind,run_underlying ht,MapKept.run_getObj_map hw,Result.andThen_ok,Sem.run_pure];rfl) n h2 ?_ ?_
    .have:=Oi (i:=0) u hf;cases q with
     |none=>exact this
     |some p=>exact this
    .exact hm
  .cases hm
 .cases hm
def JM.sE{k v:Aa}{e:MapEntry}(hk:Bz γ k e.key)(hv:Bz γ v e.val):∀{es:List (Aa×Aa)} {l:List MapEntry},JM γ es l->JM γ (es++[(k,v)]) (l++[e])
 |[],l,b=>by rw[show l=[] from b];exact⟨e,[],rfl,hk,hv,rfl⟩
 |(k',v')::es,l,b=>by obtain⟨d,l',rfl,h1,h2,c⟩:=b;exact⟨d,_,rfl,h1,h2,JM.sE hk hv c⟩
def JM.length:∀{es:List (Aa×Aa)} {l:List MapEntry},JM γ es l->l.length=es.length
 |[],l,b=>by rw[show l=[] from b];rfl
 |(k',v')::es,l,b=>by obtain⟨d,l',rfl,h1,h2,c⟩:=b;simp[JM.length c]
def JM.modify{v:Aa}{u:Value}(hv:Bz γ v u):∀{es:List (Aa×Aa)} {l:List MapEntry} {j:Nat} {k v0:Aa},JM γ es l->es[j]?=some (k,v0)->JM γ (es.set j (k,v)) (l.modify j λe=>{e with val:=u})
 |[],l,j,k,v0,b,hj=>by simp at hj
 |(k',v')::es,l,j,k,v0,b,hj=>by
  obtain⟨d,l',rfl,h1,h2,c⟩:=b;cases j with
  |zero=>cases hj;exact⟨{d with val:=u},l',Aw,h1,hv,c⟩
  |succ j=>exact⟨d,l'.modify j _,Aw,h1,h2,JM.modify hv c (by simpa using hj)⟩
def Zn{es:Array MapEntry}{j:Nat}{e:MapEntry}{k:Value}(hj:es[j]?=some e)(hk:e.key=k):(es.modify j λe=>{e with key:=k})=es:=by
 apply N9;intro i;rw[Lv];split;.rename_i hi;subst hi;rw[hj];simp[<-hk]
 .rfl
def TQ{o:Oper}{t kt e:TypeId}{m k:Operand}{kA z r:Aa}{kV:Value}{d:TypeDesc}{h':Ah}{id:Nat}{es:List (Aa×Aa)}{f:Option (Option (Nat×Aa))}(ho:o.op= .mapEntry t m k)(ht:C.P.underlying t=some (.map kt e))(hk:C.P.underlying kt=some d)(g:MapKept.IsKey d kV)(hz:Ge C.P e=some z)
  (h1:Bz γ (.map (some id)) (a.eval m)) (qa:a.eval k=kV) (n:Bz γ kA kV) (P6:h[id]?=some (.map es))
  (hq:∀(l:List MapEntry) q,JM γ es l->f=some q->match q with
   |none=>Instr.findNow d kV l 0=some none
   |some (j,v)=>∃(e:MapEntry),Instr.findNow d kV l 0=some (some (j,e.val))/\Bz γ v e.val/\0<=j/\l[j-0]?=some e/\e.key=kV)
  (hm:(f.map λr=>match r with
   |some (i,v)=>(h,Aa.tuple [v,.int .i64 i])
   |none=>(h.set id (.map (es++[(kA,z)])),.tuple [z,.int .i64 es.length]))=some (h',r)) (hr:CH C γ0 w0 γ Z U h a w):
  Fc C γ0 w0 o a w (U.put o.dst (.val r)) h':=by
 obtain⟨c,p9,qb⟩:=GX hz;obtain⟨b,hb,m0⟩:=h1;obtain⟨Dy,clock,hw,s,hB⟩:=hr.Dr.map id es P6 b hb;have m6:(Instr.checkKey false 10000 kt kV).run C.P w= .ok () w:=MapKept.run_checkKey (k:=kV) hk g false 9999;cases f with
 |none=>cases hm
 |some q=>
  have hq:=hq Dy.toList q s rfl;cases q with
  |none=>
   simp only[BU,BB,LU] at hm;obtain⟨rfl,rfl⟩:=hm;have AE:(Instr.mapEntry t (a.eval m) (a.eval k)).run C.P w= .ok (.tuple #[c,goInt clock]) {w with heap:=w.heap.setIfInBounds b (.map (Dy.push {key:=kV,val:=c,born:=clock}) (clock+1))}:=by rw[m0,qa];simp[Instr.mapEntry,run_underlying ht,MapKept.run_getObj_map hw,m6,MapKept.run_findKey hk hq,qb,MapKept.run_setObj_map _ hw,Result.andThen]
   obtain⟨hi,IS⟩:=L9 (Su:=es++[(kA,z)]) (ents':=Dy.push {key:=kV,val:=c,born:=clock}) (clock':=clock+1) hr.Dr P6 hb hw ⟨by have:=JM.sE (γ:=γ) (k:=kA) (v:=z) (e:={key:=kV,val:=c,born:=clock}) n (EO p9) s;simpa using this,Re hB⟩
   refine Fc.value (by simp only[execOp,ho];exact C2 AE) ((hr.HK hi IS).put λ_ _=>⟨_,rfl,c,_,rfl,EO p9,_,[],rfl,?_,rfl⟩);rw[hB.1];have:=s.length;simp only[B0] at this;rw[<-this];rfl
  |some p=>
   obtain⟨j,v⟩:=p;simp only[BU,BB,LU] at hm;obtain⟨rfl,rfl⟩:=hm;obtain⟨u,B,A,_,y,x⟩:=hq;have hj:Dy[j]?=some u:=by simpa using y
   have Ç:=hB.2 j u hj;have nB:w.heap.setIfInBounds b (.map Dy clock)=w.heap:=by
    apply N9;intro i;rw[Array.getElem?_setIfInBounds];split;.rename_i hi;subst hi;have hlt:=(AK.1 hw).1;rw[Ad hlt,hw]
    .rfl
   have AE:(Instr.mapEntry t (a.eval m) (a.eval k)).run C.P w= .ok (.tuple #[u.val,goInt j]) w:=by rw[m0,qa];simp[Instr.mapEntry,run_underlying ht,MapKept.run_getObj_map hw,m6,MapKept.run_findKey hk B,hj,x,MapKept.run_keyThatStays (d:=d) (k:=kV) g,MapKept.run_setObj_map _ hw,Result.andThen,Ç,Zn hj x,nB]
   exact Fc.value (by simp only[execOp,ho];exact C2 AE) (hr.put λ_ _=>⟨_,rfl,_,_,rfl,A,_,[],rfl,rfl,rfl⟩)
def cY{o:Oper}{t kt e:TypeId}{m k:Operand}{b c z r:Aa}{h':Ah}(ho:o.op= .mapEntry t m k)(ht:C.P.underlying t=some (.map kt e))(hk:C.P.underlying kt=some (.int .i64))(hz:Ge C.P e=some z)(ha:Be C U [m,k]=some [b,c])(hm:SR h z b c=some (h',r))(hr:CH C γ0 w0 γ Z U h a w):
  Fc C γ0 w0 o a w (U.put o.dst (.val r)) h':=by
 obtain⟨_,_,e0,h1,h2⟩:=ED hr ha;cases e0;unfold SR at hm;split at hm
 .rename_i id n;split at hm;.rename_i es P6;exact TQ (kA:= .int .i64 n) (kV:= .int .i64 n) ho ht hk (by simp[MapKept.IsKey]) hz h1 h2 rfl P6 (λl q d hf=>Oi (i:=0) d hf) hm hr
  .cases hm
 .cases hm
def We{s:Aq}:∀{es:List (Aa×Aa)} {l:List MapEntry} {i:Nat} {r:Option (Nat×Aa)},JM γ es l->Tm s es i=some r->
  match r with
  |none=>Instr.findNow .string (.string ⟨⟨s⟩⟩) l i=some none
  |some (j,v)=>∃(e:MapEntry),Instr.findNow .string (.string ⟨⟨s⟩⟩) l i=some (some (j,e.val))/\Bz γ v e.val/\i<=j/\l[j-i]?=some e/\e.key= .string ⟨⟨s⟩⟩
 |[],l,i,r,b,hf=>by rw[show l=[] from b];cases hf;rfl
 |(k,v)::es,l,i,r,b,hf=>by
  obtain⟨e,l',rfl,h1,h2,m⟩:=b;cases k with
  |str t=>
   simp only[Tm] at hf;have hk:e.key= .string ⟨⟨t⟩⟩:=h1;split at hf;.rename_i HW;subst HW;cases hf;exact⟨e,by simp[Instr.findNow,hk,Instr.sameNow,Pc],h2,Af _,Aw,hk⟩
   .rename_i HW;have ih:=We (i:=i+1) m hf;have hne:=TN HW;cases r with
    |none=>simpa[Instr.findNow,hk,Instr.sameNow,hne] using ih
    |some p=>obtain⟨j,v2⟩:=p;obtain⟨n,g,f,o,d,c⟩:=ih;refine⟨n,by simpa[Instr.findNow,hk,Instr.sameNow,hne] using g,f,Ab,?_,c⟩;rw[(Ab:j-i=(j-(i+1))+1),QN];exact d
  |_=>simp[Tm] at hf
def cZ{o:Oper}{t kt e:TypeId}{m k:Operand}{b c z r:Aa}{h':Ah}(ho:o.op= .mapEntry t m k)(ht:C.P.underlying t=some (.map kt e))(hk:C.P.underlying kt=some .string)(hz:Ge C.P e=some z)(ha:Be C U [m,k]=some [b,c])(hm:Xc h z b c=some (h',r))(hr:CH C γ0 w0 γ Z U h a w):
  Fc C γ0 w0 o a w (U.put o.dst (.val r)) h':=by
 obtain⟨_,_,e0,h1,h2⟩:=ED hr ha;cases e0;unfold Xc at hm;split at hm
 .rename_i id n;split at hm;.rename_i es P6;exact TQ (kA:= .str n) (kV:= .string ⟨⟨n⟩⟩) ho ht hk (by simp[MapKept.IsKey]) hz h1 h2 rfl P6 (λl q d hf=>We (i:=0) d hf) hm hr
  .cases hm
 .cases hm
def Zo{o:Oper}{t kt e:TypeId}{m k x:Operand}{d f c r:Aa}{h':Ah}(ho:o.op= .insert t m k x\/o.op= .mapUpdate t m k x)(hd:o.dst=none)(ht:C.P.underlying t=some (.map kt e))(hk:C.P.underlying kt=some (.int .i64))(ha:Be C U [m,k,x]=some [d,f,c])
  (hm:qP h d f c=some (h',r)) (hr:CH C γ0 w0 γ Z U h a w):Fc C γ0 w0 o a w U h':=by
 obtain⟨h1,h2,j⟩:=Pe hr ha;have K8:∀w',(Instr.mapUpdate t (a.eval m) (a.eval k) (a.eval x)).run C.P w= .ok () w'->(execOp a.eval o).run C.P w= .ok .skip w':=λw' AE=>by rcases ho with ho|ho<;>simp[execOp,ho,AE]
 unfold qP at hm;split at hm
 .rename_i id n;obtain⟨b,hb,m0⟩:=h1;have qa:a.eval k= .int .i64 n:=h2;split at hm
  .rename_i es P6;obtain⟨Dy,clock,hw,g,hB⟩:=hr.Dr.map id es P6 b hb;have m6:(Instr.checkKey false 10000 kt (.int .i64 n)).run C.P w= .ok () w:=MapKept.run_checkKey (k:= .int .i64 n) hk (by simp[MapKept.IsKey]) false 9999;split at hm
   .rename_i hf;cases hm;have hq:=Oi (i:=0) g hf;have AE:(Instr.mapUpdate t (a.eval m) (a.eval k) (a.eval x)).run C.P w= .ok () {w with heap:=w.heap.setIfInBounds b (.map (Dy.push {key:= .int .i64 n,val:=a.eval x,born:=clock}) (clock+1))}:=by rw[m0,qa];simp[Instr.mapUpdate,run_underlying ht,MapKept.run_getObj_map hw,m6,MapKept.run_findKey hk hq,MapKept.run_setObj_map _ hw,Result.andThen]
    obtain⟨hi,IS⟩:=L9 (Su:=es++[(.int .i64 n,c)]) (ents':=Dy.push {key:= .int .i64 n,val:=a.eval x,born:=clock}) (clock':=clock+1) hr.Dr P6 hb hw ⟨by have:=JM.sE (γ:=γ) (k:= .int .i64 n) (v:=c) (e:={key:= .int .i64 n,val:=a.eval x,born:=clock}) rfl j g;simpa using this,Re hB⟩
    exact Fc.skip (K8 _ AE) (by rw[hd];exact hr.HK hi IS)
   .cases hm
  .cases hm
 .cases hm
def Xv{es:Array MapEntry}(hB:∀(i:Nat) (e:MapEntry),es[i]?=some e->e.born=i){j:Nat}{e:MapEntry}(hj:es[j]?=some e):es.findIdx? (λe=>(e.born:Int)==(j:Int))=some j:=by
 rw[Array.findIdx?_eq_some_iff_getElem];obtain⟨hl,he⟩:=AK.1 hj;refine⟨hl,?_,λi hi=>?_⟩;.have:=hB j _ (Cu hl);simp[this]
 .have:=hB i _ (Cu Ab);simp[this];omega
def dA{o:Oper}{t:TypeId}{m s x:Operand}{f vs c r:Aa}{h':Ah}(ho:o.op= .entryStore t m s x)(hd:o.dst=none)(ha:Be C U [m,s,x]=some [f,vs,c])(hm:SU h f vs c=some (h',r))(hr:CH C γ0 w0 γ Z U h a w):Fc C γ0 w0 o a w U h':=by
 obtain⟨h1,h2,j⟩:=Pe hr ha;have K8:∀w',(Instr.entryStore t (a.eval m) (a.eval s) (a.eval x)).run C.P w= .ok () w'->(execOp a.eval o).run C.P w= .ok .skip w':=λw' AE=>by simp[execOp,ho,AE]
 unfold SU at hm;split at hm
 .rename_i id n;obtain⟨b,hb,m0⟩:=h1;have Ih:a.eval s= .int .i64 n:=h2;split at hm
  .rename_i es P6;split at hm
   .rename_i hn;split at hm
    .rename_i kk v0 hk;cases hm;obtain⟨Dy,clock,hw,g,hB⟩:=hr.Dr.map id es P6 b hb;have hlen:=g.length;have hlt:=(Ae.1 hk).1;have d:∃i,Dy[n.toNat]?=some i:=⟨Dy[n.toNat]'(by simp at hlen;omega),Cu _⟩;obtain⟨i,hj⟩:=d;have q9:((n.toNat:Nat):Int)=n:=Ab;have È:=Xv hB.2 hj;rw[q9] at È;have AE:(Instr.entryStore t (a.eval m) (a.eval s) (a.eval x)).run C.P w= .ok () {w with heap:=w.heap.setIfInBounds b (.map (Dy.modify n.toNat λe=>{e with val:=a.eval x}) clock)}:=by rw[m0,Ih];simp[Instr.entryStore,MapKept.run_getObj_map hw,asInt,asIntOf,È,MapKept.run_setObj_map _ hw,Result.andThen]
     obtain⟨hi,IS⟩:=L9 (Su:=es.set n.toNat (kk,c)) (ents':=Dy.modify n.toNat λe=>{e with val:=a.eval x}) (clock':=clock) hr.Dr P6 hb hw ⟨by have:=JM.modify j g hk;simpa using this,RQ hB λ_=>rfl⟩
     exact Fc.skip (K8 _ AE) (by rw[hd];exact hr.HK hi IS)
    .cases hm
   .cases hm
  .cases hm
 .cases hm
end
end Go.Am
end
section
section
namespace Go.Am
open Go
section
variable{C:FC}{γ0 γ γ':Gh}{w0 w w':World}{O:Nat->Nat}{U U':Bx}{h h':Ah}{a:Act}{fid:FuncId}{ops:List Oper}
def Fc.wp{o:Oper}{K:Act->World->Prop}{Q:Exit->Act->World->Prop}(hs:Fc C γ0 w0 o a w U' h')(b:∀γ' c a' w',CH C γ0 w0 γ' c U' h' a' w'->K a' w'):o.wp C.P a w K Q:=by
 obtain⟨γ',c,w',⟨v,he,hr⟩|⟨he,hr⟩⟩:=hs;.exact HZ he (b _ _ _ _ hr)
 .exact cG he (b _ _ _ _ hr)
def Vu{P:Program}{op:BinOp}{t:TypeId}{p:Vi}(hp:Of P op t=some p):p.still=true:=by
 have I8:∀neg u,Q1 P t neg u=some p->p.still=true:=by
  intro neg u h;unfold Q1 at h;split at h;.cases h;rfl
  .split at h
   .cases hf:Nr P 20 t with
    |none=>rw[hf] at h;cases h
    |some k=>rw[hf] at h;cases h;rfl
   .cases h
  .split at h<;>cases h;rfl
  .cases h;rfl
  .cases h;rfl
  .cases h;rfl
  .cases h
 unfold Of at hp;split at hp;.cases hp;rfl
 .cases hp;rfl
 .split at hp;.exact I8 _ _ hp
  .exact I8 _ _ hp
  .cases hp
 .cases hp
def Ma{P:Program}{t:TypeId}{f off:Nat}{d:Option Nat}(hf:Hk P t f=some (off,d))(b o:Nat):(Instr.fieldAt t (.pointer (some ⟨b,o,none⟩)) f).run P w= .ok (.pointer (some ⟨b,o+off,none⟩)) w:=by
 unfold Hk at hf;split at hf
 .rename_i fs rD;split at hf
  .rename_i fd iL;split at hf;.rename_i n c h1 h2;cases hf;simp[Instr.fieldAt,run_underlying rD,iL,Instr.sureAddr,fieldPlace,Dc h1,Addr.add_lit]
   .cases hf
  .cases hf
 .cases hf
def TR(hr:CH C γ0 w0 γ O U h a w){s ver:Nat}{cs:List Aa}{ow:List Nat}(hs:DF C U (.tmp s)=some (.box ver cs ow)):a.eval (.tmp s)= .pointer (some ⟨O s,0,none⟩):=by have h0:=PT hr s;rw[Gg hs] at h0;exact h0.1
def RS(hr:CH C γ0 w0 γ O U h a w){x:Operand}{s k:Nat}(hs:DF C U x=some (.EI s k)):a.eval x= .pointer (some ⟨O s,k,none⟩):=by obtain⟨t,h1,_⟩:=Fy hr hs;exact h1
def Wf{o:Oper}{t:TypeId}{v:Aa}{d:Nat}{r:Ei}{run:IT->Ah->Option Jb}(hb:RJ C fid t v d=some r)(Fh:r.L4 C run (U.drop r.news) h U' h')
  (Nq:∀n,C.kind fid d= .Nq->v.cells.length=n->n≠0->Fc C γ0 w0 o a w ((U.drop [d]).set d (.box 0 v.cells [])) h)
  (heap:v.cells.length≠0->Fc C γ0 w0 o a w (U.put (some d) (.val (.ptr (some (h.length,0))))) (h++[.cells v.cells])):Fc C γ0 w0 o a w U' h':=by
 unfold RJ at hb;split at hb;.cases hb
 .rename_i n hn;split at hb;.cases hb
  .rename_i b;split at hb;.cases hb;obtain⟨h1,rfl,rfl⟩:=Fh;rename_i hk;exact Nq n hk h1 b
   .cases hb;obtain⟨h1,rfl,rfl⟩:=Fh;exact heap Ab
def Oj{d s k:Nat}{run:IT->Ah->Option Jb}(Fh:(Ei.pure [(d,.EI s k)]).L4 C run (U.drop (Ei.pure [(d,.EI s k)]).news) h U' h'):U'=U.set d (.EI s k)/\h'=h:=by obtain⟨rfl,rfl⟩:=Fh;exact⟨rfl,rfl⟩
def sF{run:IT->Ah->Option Jb}(G:EE C run){o:Oper}{r:Ei}{K:Act->World->Prop}{Q:Exit->Act->World->Prop}(hc:Fv C fid ops U o=some r)(Fh:r.L4 C run (U.drop r.news) h U' h')(hr:CH C γ0 w0 γ O U h a w)
  (j:∀γ' T a' w',CH C γ0 w0 γ' T U' h' a' w'->K a' w'):o.wp C.P a w K Q:=by
 by_cases HW:∃p args dst BE F,r= .op p args dst BE F/\p.still=true
 .obtain⟨p,args,dst,BE,F,rfl,zJ⟩:=HW
  obtain⟨L,rfl,rfl,rfl⟩:=mV hc zJ hr
  obtain⟨v,hv,rfl,rfl⟩:=Fh
  obtain⟨u,R,N⟩:=L v hv
  exact HZ R (j _ _ _ _ (hr.put λ_ _=>N))
 .have YK:∀{p args dst},r= .op p args dst false none->p.still=false:=λ{p args dst} he=>by
   cases hp:p.still with
   |false=>rfl
   |true=>exact absurd ⟨p,args,dst,false,none,he,hp⟩ HW
  have GF:∀{p dst x},Q2 p dst x=some r->p.still=false:=λ{p dst x} he=>by
   obtain⟨args,_,e⟩:=Dt he
   exact YK e
  unfold Fv at hc
  split at hc
  .rename_i x ho
   split at hc
   .rename_i d hd
    obtain⟨γ',GH⟩:=PV hc Fh hr
    exact HZ (w':=w) (v:=a.eval x) (by simp[execOp,ho]) (j _ _ _ _ (by rw[hd];exact GH))
   .cases hc
  .rename_i x ho
   split at hc
   .rename_i d hd
    obtain⟨γ',GH⟩:=PV hc Fh hr
    exact HZ (w':=w) (v:=a.eval x) (by simp[execOp,ho]) (j _ _ _ _ (by rw[hd];exact GH))
   .cases hc
  .rename_i c x y ho
   split at hc
   .rename_i d hcs hd
    obtain⟨γ',GH⟩:=PV hc Fh hr
    obtain⟨s,h1,_⟩:=Fy hr hcs
    have h1:a.eval c= .bool true:=h1
    exact HZ (w':=w) (v:=a.eval x) (by simp[execOp,ho,h1,asBool]) (j _ _ _ _ (by rw[hd];exact GH))
   .rename_i d hcs hd
    obtain⟨γ',GH⟩:=PV hc Fh hr
    obtain⟨s,h1,_⟩:=Fy hr hcs
    have h1:a.eval c= .bool false:=h1
    exact HZ (w':=w) (v:=a.eval y) (by simp[execOp,ho,h1,asBool]) (j _ _ _ _ (by rw[hd];exact GH))
   .cases GF hc
  .rename_i t ho
   split at hc
   .rename_i d z hd hz
    split at hc
    .split at hc
     .rename_i GQ
      cases hc
      obtain⟨rfl,rfl⟩:=Fh
      exact(TC ho hd hz GQ.2 hr).wp j
     .cases hc
    .rename_i hk
     refine(Wf (o:=o) (a:=a) (w:=w) (γ0:=γ0) (w0:=w0) hc Fh (λn h0 h1 h2=>absurd h0 (by simpa using hk)) λh1=>TD ho hd hz h1 hr).wp j
   .cases hc
  .rename_i t x ho
   split at hc
   .rename_i d v hd hv
    exact(Wf (o:=o) (a:=a) (w:=w) (γ0:=γ0) (w0:=w0) hc Fh (λn _ h1 h2=>Xn ho hd hv h1 h2 hr) λh1=>Xo ho hd hv h1 hr).wp j
   .cases hc
  .split at hc
   .split at hc
    .cases GF hc
    .cases hc
   .cases hc
  .rename_i t len parts ho
   split at hc
   .rename_i e ht
    split at hc
    .rename_i n hn
     split at hc
     .rename_i GQ
      split at hc
      .rename_i hlen
       cases hc
       obtain⟨v,hv,rfl,rfl⟩:=Fh
       cases hv
       exact(rJ ho ht hn GQ.1 GQ.2 hlen.1 hr).wp j
      cases ha:Be C U (parts.toList.map (·.2)) with
      |none=>rw[ha] at hc;cases hc
      |some args=>
       rw[ha] at hc;cases hc
       obtain⟨v,hv,rfl,rfl⟩:=Fh
       exact(rI ho ht hn GQ.1 GQ.2 ha hv hr).wp j
     .cases hc
    .cases hc
   .cases hc
  .rename_i t x ho
   split at hc
   .rename_i d hd
    by_cases hp:∃ws,r= .pure ws
    .exact(Vr ho hd hc hp Fh hr).wp j
    .unfold J7 at hc
     split at hc
     .rename_i n p ht hx
      cases hc
      obtain⟨v,hv,rfl,rfl⟩:=Fh
      have hs:=rG ho ht hx hv hr
      rw[hd] at hs
      exact hs.wp j
     .split at hc
      .simp only at hc
       split at hc<;>(cases hc;exact absurd ⟨_,rfl⟩ hp)
      .cases hc
     .split at hc
      .cases hc;exact absurd ⟨_,rfl⟩ hp
      .cases hc
     .cases hc
   .cases hc
  .rename_i t x y ho
   split at hc
   .rename_i hd
    have Rf:=hc
    unfold Ic at hc
    split at hc
    .rename_i n p v J3 hx hv
     cases hc
     obtain⟨aBP,rfl⟩:=Fh
     exact(mW ho hd J3 hx hv aBP hr).wp j
    .split at hc
     .cases hc
      exact(cS ho hd Rf Fh hr).wp j
     .cases hc
    .cases hc
   .cases hc
  .rename_i x ho
   split at hc
   .rename_i s ver cs ow d hd hs
    cases hc
    obtain⟨rfl,rfl⟩:=Oj Fh
    have he:=TR hr hs
    exact HZ (w':=w) (v:= .pointer (some ⟨O s,0,none⟩)) (by simp[execOp,ho,he]) (j _ _ _ _ (by rw[hd];exact hr.put (d:=some d) λ_ _=>rfl))
   .rename_i s k d hd hs
    cases hc
    obtain⟨rfl,rfl⟩:=Oj Fh
    have he:=RS hr hs
    exact HZ (w':=w) (v:= .pointer (some ⟨O s,k,none⟩)) (by simp[execOp,ho,he]) (j _ _ _ _ (by rw[hd];exact hr.put (d:=some d) λ_ _=>rfl))
   .cases GF hc
  .split at hc
   .rename_i p hp
    have zJ:=GF hc
    rw[Vu hp] at zJ
    cases zJ
   .cases hc
  .cases GF hc
  .rename_i src aBy x ho
   split at hc
   .rename_i hq
    unfold Tp at hq
    cases hv:Ex C U x with
    |none=>rw[hv] at hc;cases hc
    |some v=>
     rw[hv] at hc;cases hc
     split at hq
     .cases hq
     .cases hq
     .cases hq
     .rename_i e hs hd
      split at hq
      .rename_i he
       obtain⟨v',u,h1,h2,rfl⟩:=Fh
       exact(zB ho hs hd he hv h1 h2 hr).wp j
      .cases hq
     .split at hq<;>cases hq
     .cases hq
   .rename_i hq
    unfold Tp at hq
    split at hq
    .cases hq
    .cases hq
    .cases hq
    .split at hq<;>cases hq
    .rename_i e hs hd
     split at hq
     .rename_i he _ _
      split at hc
      .cases hv:Ex C U x with
       |none=>rw[hv] at hc;cases hc
       |some v=>
        rw[hv] at hc;cases hc
        obtain⟨u,h1,rfl⟩:=Fh
        exact(Xu ho hs hd he hv h1 hr).wp j
      .obtain⟨args,ha,rfl⟩:=Dt hc
       obtain⟨u,h1,rfl,rfl⟩:=Fh
       obtain⟨v,rfl,_⟩:=FZ hr ha
       exact(zA ho hs hd he ha h1 hr).wp j
     .cases hq
    .cases hq
   .rename_i p PF Vq hq
    have zJ:=GF hc
    unfold Tp at hq
    split at hq
    .cases hq;cases zJ
    .cases hq;cases zJ
    .cases hq
    .split at hq
     .cases hq;exact absurd rfl PF
     .cases hq
    .split at hq
     .cases hq;exact absurd rfl Vq
     .cases hq
    .cases hq
   .cases hc
  .rename_i fn first captured ho
   split at hc
   .rename_i d as bs fz hd ha hb
    cases hc
    obtain⟨rfl,rfl⟩:=Fh
    exact(Ze ho hd ha hb hr).wp j
   .cases hc
  .rename_i t ho
   cases hc
   obtain⟨rfl,rfl⟩:=Fh
   exact(rR ho hr).wp j
  .rename_i t l c ho
   split at hc
   .rename_i e ht
    split at hc
    .rename_i n b z V vc hn hb hz hl SY
     cases hc
     obtain⟨v,h1,rfl⟩:=Fh
     exact(rN ho ht hn hb hz hl SY h1 hr).wp j
    .cases hc
   .cases hc
  .rename_i t m k x ho
   split at hc
   .rename_i kt e ht
    split at hc
    .rename_i D E I hd hk ha
     cases hc
     obtain⟨h1,rfl⟩:=Fh
     exact(Zi (.inl ho) hd ht hk ha h1 hr).wp j
    .rename_i D E I hd hk ha
     cases hc
     obtain⟨v,h1,rfl⟩:=Fh
     exact(Zo (.inl ho) hd ht hk ha h1 hr).wp j
    .cases hc
   .cases hc
  .rename_i t m k x ho
   split at hc
   .rename_i kt e ht
    split at hc
    .rename_i D E I hd hk ha
     cases hc
     obtain⟨h1,rfl⟩:=Fh
     exact(Zi (.inr ho) hd ht hk ha h1 hr).wp j
    .rename_i D E I hd hk ha
     cases hc
     obtain⟨v,h1,rfl⟩:=Fh
     exact(Zo (.inr ho) hd ht hk ha h1 hr).wp j
    .cases hc
   .cases hc
  .rename_i t m k ok ho
   split at hc
   .rename_i kt e ht
    split at hc
    .rename_i z D E hk hz ha
     cases hc
     obtain⟨v,h1,rfl,rfl⟩:=Fh
     exact(rS ho ht hk hz ha h1 hr).wp j
    .rename_i z D E hk hz ha
     cases hc
     obtain⟨v,h1,rfl⟩:=Fh
     exact(sD ho ht hk hz ha h1 hr).wp j
    .cases hc
   .cases hc
  .rename_i t x lo hi mx ho
   split at hc
   .rename_i e ht
    split at hc
    .rename_i n hn
     obtain⟨args,ha,rfl⟩:=Gy hc
     obtain⟨v,h1,rfl⟩:=Fh
     simp only[EC] at h1
     split at h1
     .rename_i J
      cases h1
      exact(sB ho ht hn ha J hr).wp j
     .cases h1
    .cases hc
   .cases hc
  .rename_i t x ho
   split at hc
   .cases hc
   .rename_i u hu ht
    obtain⟨args,ha,rfl⟩:=Gy hc
    obtain⟨v,h1,rfl⟩:=Fh
    obtain⟨y,rfl,_⟩:=FZ hr ha
    cases h1
    exact(sC ho ht (λi e=>hu i e) ha hr).wp j
   .cases hc
  .rename_i t m k ho
   split at hc
   .rename_i kt e ht
    split at hc
    .rename_i z hk hz
     obtain⟨args,ha,rfl⟩:=Gy hc
     obtain⟨v,h1,rfl⟩:=Fh
     obtain⟨A,B,rfl,_,_⟩:=ED hr ha
     exact(cY ho ht hk hz ha h1 hr).wp j
    .rename_i z hk hz
     obtain⟨args,ha,rfl⟩:=Gy hc
     obtain⟨v,h1,rfl⟩:=Fh
     obtain⟨A,B,rfl,_,_⟩:=ED hr ha
     exact(cZ ho ht hk hz ha h1 hr).wp j
    .cases hc
   .cases hc
  .rename_i t m s x ho
   split at hc
   .rename_i hd
    obtain⟨args,ha,rfl⟩:=Gy hc
    obtain⟨v,h1,rfl⟩:=Fh
    obtain⟨A,B,H,rfl⟩:∃A B H,args=[A,B,H]:=by
     have:=Ds hr ha
     cases args with
     |nil=>cases h1
     |cons A l1=>cases l1 with
      |nil=>cases h1
      |cons B S=>cases S with
       |nil=>cases h1
       |cons H l3=>cases l3 with
        |nil=>exact⟨_,_,_,rfl⟩
        |cons _ _=>cases h1
    exact(dA ho hd ha h1 hr).wp j
   .cases hc
  .rename_i t x lo hi ho
   split at hc
   .cases GF hc
   .rename_i e ht
    split at hc
    .rename_i n hn
     split at hc
     .obtain⟨args,ha,rfl⟩:=Gy hc
      obtain⟨v,h1,rfl⟩:=Fh
      cases args with
      |nil=>cases h1
      |cons y l=>exact(rY ho ht hn ha h1 hr).wp j
     .cases GF hc
    .cases hc
   .cases hc
  .rename_i t x f ho
   split at hc
   .rename_i off W d hf hd
    split at hc
    .rename_i s ver cs ow hs
     cases hc
     obtain⟨rfl,rfl⟩:=Oj Fh
     have he:=TR hr hs
     exact HZ (w':=w) (v:= .pointer (some ⟨O s,off,none⟩)) (by simp only[execOp,ho,he];exact Et (by rw[Ma hf];simp)) (j _ _ _ _ (by rw[hd];exact hr.put (d:=some d) λ_ _=>rfl))
    .rename_i s k hs
     cases hc
     obtain⟨rfl,rfl⟩:=Oj Fh
     have he:=RS hr hs
     exact HZ (w':=w) (v:= .pointer (some ⟨O s,k+off,none⟩)) (by simp only[execOp,ho,he];exact Et (Ma hf _ _)) (j _ _ _ _ (by rw[hd];exact hr.put (d:=some d) λ_ _=>rfl))
    .cases GF hc
   .cases hc
  .split at hc
   .cases GF hc
   .cases hc
  .split at hc
   .split at hc
    .cases GF hc
    .cases hc
   .split at hc
    .split at hc
     .cases hc
     .cases GF hc
    .cases hc
   .cases hc
  .split at hc
   .cases GF hc
   .split at hc
    .cases GF hc
    .cases hc
   .cases hc
  .cases GF hc
  .rename_i c ho
   unfold O3 at hc
   split at hc
   .split at hc
    .split at hc
     .cases GF hc
     .cases GF hc
     .cases hc
    .cases hc
   .rename_i hcl
    split at hc
    .rename_i t t' s x h0 h1 El
     split at hc
     all_goals first
      |(cases hc;done)
      | (rename_i e _ ht HO
         split at hc
         . rename_i n b hn hb
           split at hc
           . rename_i YJ
             split at hc
             . rename_i v u ha
               split at hc
               . rename_i EZ
                 split at hc
                 . cases hc
                   obtain ⟨r', q, rfl⟩ := Fh
                   exact (m7 ho hcl h0 h1 El ht (by first | exact .inl ⟨_, HO⟩ | exact .inr HO) hn hb EZ YJ ha q hr).wp j
                 . split at hc
                   . cases hc
                     obtain ⟨r', q, rfl, rfl⟩ := Fh
                     exact (Zg ho hcl h0 h1 El ht (by first | exact .inl ⟨_, HO⟩ | exact .inr HO) hn hb EZ YJ ha q hr).wp j
                   . cases hc
                     obtain ⟨r', q, rfl, rfl⟩ := Fh
                     exact (cV ho hcl h0 h1 El ht (by first | exact .inl ⟨_, HO⟩ | exact .inr HO) hn hb EZ YJ ha q hr).wp j
               . split at hc
                 . cases hc
                   obtain ⟨r', q, rfl⟩ := Fh
                   exact (rV ho hcl h0 h1 El ht (by first | exact .inl ⟨_, HO⟩ | exact .inr HO) hn hb YJ ha q hr).wp j
                 . cases hc
             . cases hc
           . cases hc
         . cases hc)
    .cases hc
   .rename_i hcl
    split at hc
    .rename_i t t' s x h0 h1 El
     split at hc
     all_goals first
      |(cases hc;done)
      | (rename_i e _ ht HO
         split at hc
         . rename_i n hn
           obtain ⟨args, ha, rfl⟩ := Gy hc
           obtain ⟨v, q, rfl⟩ := Fh
           obtain ⟨A, B, rfl, _, _⟩ := ED hr ha
           exact (rX ho hcl h0 h1 El ht (by first | exact .inl ⟨_, HO⟩ | exact .inr HO) hn ha q hr).wp j
         . cases hc)
    .cases hc
   .rename_i hcl
    split at hc
    .rename_i t s h0 El
     split at hc
     .rename_i e ht
      split at hc
      .rename_i n z hn hz
       obtain⟨args,ha,rfl⟩:=Gy hc
       obtain⟨v,q,rfl⟩:=Fh
       obtain⟨A,rfl,_⟩:=FZ hr ha
       exact(nA ho hcl h0 El ht hn hz ha q hr).wp j
      .cases hc
     .cases hc
    .cases hc
   .split at hc
    .cases GF hc
    .cases hc
   .split at hc
    .cases GF hc
    .cases hc
   .rename_i f hcl
    split at hc
    .rename_i hf
     split at hc
     .rename_i s i x El
      split at hc
      .rename_i EZ
       obtain⟨args,ha,rfl⟩:=Gy hc
       obtain⟨v,q,rfl⟩:=Fh
       exact zC G ho hcl hf El EZ ha q hr λγ' v w' GH=>j _ _ _ _ GH
      .cases hc
     .cases hc
    split at hc
    rotate_left
    .cases hc
    rename_i RP
    rw[<-RP] at hcl
    cases ha:Be C U c.args.toList with
    |none=>rw[ha] at hc;cases hc
    |some args=>
     rw[ha] at hc
     simp only[BU,BB] at hc
     split at hc
     .cases hc
      obtain⟨HV,M,h1,h2,q,rfl,rfl⟩:=Fh
      exact mY G ho hcl ha HV h2 q hr λγ' v w' GH=>j _ _ _ _ GH
     .cases hc
      obtain⟨M,h1,rfl⟩:=Fh
      exact rQ G ho hcl ha h1 hr λγ' v w' GH=>j _ _ _ _ GH
   .rename_i g hn hcl
    split at hc
    .rename_i X args hg ha
     cases hc
     obtain⟨f,args',M,h0,h1,rfl⟩:=Fh
     exact mZ G ho hcl hg ha h0 h1 hr λγ' v w' GH=>j _ _ _ _ GH
    .cases hc
   .cases hc
  .cases hc
end
end Go.Am
end
section
namespace Go.Am
open Go
section
variable{C:FC}{U Z:Bx}{fid:FuncId}{ops:List Oper}
def Xw{x:Operand}(h:∀t,x= .tmp t->Z.at t=U.at t):DF C Z x=DF C U x:=by
 cases x with
 |tmp t=>simp only[DF,h t rfl]
 |const v=>
  cases v with
  |slice a b c=>cases a<;>cases b<;>cases c<;>rfl
  |_=>rfl
 |global g=>rfl
 |func f=>rfl
def SZ(C:FC)(U Z:Bx)(xs:List Operand):Prop:=∀x∈xs,DF C Z x=DF C U x
def SZ.iT{xs:List Operand}(h:∀t∈IM xs,Z.at t=U.at t):SZ C U Z xs:=λx hx=>Xw λt ht=>h t (by subst ht;exact B1.2 ⟨_,hx,rfl⟩)
def SZ.val{xs:List Operand}(h:SZ C U Z xs){x:Operand}(hx:x∈xs):Ex C Z x=Ex C U x:=by unfold Ex;rw[h x hx]
def SZ.Jl{xs:List Operand}(h:SZ C U Z xs):∀{ys:List Operand},(∀y∈ys,y∈xs)->Be C Z ys=Be C U ys
 |[],_=>rfl
 |y::ys,hy=>by unfold Be;rw[h.val (hy y Aw),h.Jl λz hz=>hy z (by simp[hz])]
def SZ.move{xs:List Operand}(h:SZ C U Z xs){x:Operand}(hx:x∈xs)(d:Nat)(take:Bool):Ji C Z x d take=Ji C U x d take:=by unfold Ji;rw[h x hx]
def SZ.BE{xs:List Operand}(h:SZ C U Z xs){x:Operand}(hx:x∈xs):JK C Z x=JK C U x:=by unfold JK;rw[h x hx]
def SZ.Da{xs:List Operand}(h:SZ C U Z xs){x:Operand}(hx:x∈xs):CR Z x=CR U x:=by
 cases x with
 |tmp t=>have:=h _ hx;simp only[DF,BB] at this;simp only[CR,this]
 |_=>rfl
def SZ.Fu{xs:List Operand}(h:SZ C U Z xs):∀{ys:List Operand},(∀y∈ys,y∈xs)->Am.Fu C Z ys=Am.Fu C U ys
 |[],_=>rfl
 |y::ys,hy=>by unfold Am.Fu;rw[h y (hy y Aw),h.Fu λz hz=>hy z (by simp[hz])]
def SZ.addr{xs:List Operand}(h:SZ C U Z xs){x:Operand}(hx:x∈xs)(hb:∀s∈(MC C U x).toList,Z.at s=U.at s)(hn:Ft C U x≠none):Ft C Z x=Ft C U x:=by
 have OD:=h x hx;cases hs:DF C U x with
 |none=>unfold Ft at hn;rw[hs] at hn;exact absurd (by split<;>simp_all) hn
 |some sl=>
  rw[hs] at OD;cases sl with
  |EI s o=>
   have h1:∀J:Bx,DF C J x=some (.EI s o)->Ft C J x=match J.at s with| .box ver cs ow=>some (.Nq s o ver cs ow)|_=>none:=λJ b=>by unfold Ft;rw[b];cases x<;>rfl
   rw[h1 U hs] at hn⊢;rw[h1 Z OD];have h2:s∈(MC C U x).toList:=by
    unfold MC;rw[h1 U hs];cases PR:U.at s with
    |box ver cs ow=>simp
    |_=>rw[PR] at hn;exact absurd rfl hn
   rw[hb s h2]
  |_=>unfold Ft;rw[hs,OD];cases x<;>rfl
def SZ.load{xs:List Operand}(h:SZ C U Z xs){x:Operand}(hx:x∈xs)(hb:∀s∈(MC C U x).toList,Z.at s=U.at s){t:TypeId}{d:Nat}{take:Bool}{r:Ei}(hc:J7 C U t x d take=some r):J7 C Z t x d take=some r:=by
 have hn:Ft C U x≠none:=λhe=>by unfold J7 at hc;rw[he] at hc;split at hc<;>simp_all
 unfold J7 at hc⊢;rw[h.addr hx hb hn];exact hc
def SZ.store{xs:List Operand}(h:SZ C U Z xs){x y:Operand}(hx:x∈xs)(hy:y∈xs)(hb:∀s∈(MC C U x).toList,Z.at s=U.at s){t:TypeId}{r:Ei}(hc:Ic C U t x y=some r):Ic C Z t x y=some r:=by
 have hn:Ft C U x≠none:=λhe=>by unfold Ic at hc;rw[he] at hc;split at hc<;>simp_all
 unfold Ic at hc⊢;rw[h.addr hx hb hn,h.val hy,h.BE hy,h.Da hy];exact hc
def SZ.call{c:Call}(h:SZ C U Z c.operands.toList)(dst:Option Nat):O3 C fid Z c dst=O3 C fid U c dst:=by
 have ha:∀y∈c.args.toList,y∈c.operands.toList:=λy hy=>by unfold Call.operands;rw[Gb];exact By _ hy
 have hv:Be C Z c.args.toList=Be C U c.args.toList:=h.Jl ha;unfold O3;split;.rw[hv]
 .split
  .rename_i El;have h1:∀{s x:Operand},c.args.toList=[s,x]->JK C Z s=JK C U s/\CR Z s=CR U s/\Be C Z [s,x]=Be C U [s,x]:=λ{s x} he=>by rw[he] at ha;exact⟨h.BE (ha s Aw),h.Da (ha s Aw),h.Jl λy hy=>ha y hy⟩
   obtain⟨e,d,b⟩:=h1 El;rw[e,d,b]
  .rfl
 .split;.rename_i El;rw[El] at ha;rw[h.Jl λy hy=>ha y hy]
  .rfl
 .split;.rename_i El;rw[El] at ha;rw[h.Jl λy hy=>ha y hy]
  .rfl
 .rw[hv]
 .rw[hv]
 .split
  .split;.rename_i s i v El;rw[El] at ha;rw[h.BE (ha v Aw),h.Jl λy hy=>ha y hy]
   .rfl
  .rw[hv]
 .rename_i g _ hcl;have hg:g∈c.operands.toList:=by unfold Call.operands;rw[hcl];simp
  rw[hv,h.val hg]
 .rfl
def TS{o:Oper}{r:Ei}(hc:Fv C fid ops U o=some r)(ht:∀t∈IM o.op.operands.toList,Z.at t=U.at t)(hb:∀s∈GV C U o,Z.at s=U.at s):Fv C fid ops Z o=some r:=by
 have h:SZ C U Z o.op.operands.toList:= .iT ht
 unfold Fv at hc⊢
 cases ho:o.op with
 |move x=>
  rw[ho] at h
  simp only[ho] at hc⊢
  have:=λd=>h.move (x:=x) Hz d
  simpa only[this] using hc
 |assign x=>
  rw[ho] at h
  simp only[ho] at hc⊢
  have:=λd=>h.move (x:=x) Hz d
  simpa only[this] using hc
 |pick c a b=>
  rw[ho] at h
  simp only[ho] at hc⊢
  have h1:=λd=>h.move (x:=a) Hz d
  have h2:=λd=>h.move (x:=b) Hz d
  rw[h c Hz,h.Jl (ys:=[c,a,b]) Hz]
  simpa only[h1,h2] using hc
 |alloc t=>rw[ho] at hc;exact hc
 |box t x=>
  rw[ho] at h
  simp only[ho] at hc⊢
  rw[h.val (x:=x) Hz]
  exact hc
 |build t parts=>
  rw[ho] at h
  simp only[ho] at hc⊢
  rw[h.Jl (ys:=parts.toList.map (·.2)) Hz]
  exact hc
 |buildSlice t len parts=>
  rw[ho] at h
  simp only[ho] at hc⊢
  rw[h.Jl (ys:=parts.toList.map (·.2)) Hz]
  exact hc
 |load t x=>
  rw[ho] at h
  simp only[ho] at hc⊢
  split at hc
  .exact h.load Hz (λs hs=>hb s (by simpa only[GV,ho] using hs)) hc
  .cases hc
 |store t x y=>
  rw[ho] at h
  simp only[ho] at hc⊢
  split at hc
  .exact h.store Hz Hz (λs hs=>hb s (by simpa only[GV,ho] using hs)) hc
  .cases hc
 |nilCheck x=>
  rw[ho] at h
  simp only[ho] at hc⊢
  have e:=h.Jl (ys:=[x]) Hz
  rw[h x Hz]
  cases hs:DF C U x with
  |none=>rw[hs] at hc;cases x<;>cases hd:o.dst<;>rw[hd] at hc<;>first|exact hc|(show Q2 _ _ (Be C Z [_])=some r;rw[e];exact hc)
  |some sl=>rw[hs] at hc;cases sl<;>cases x<;>cases hd:o.dst<;>rw[hd] at hc<;>first|exact hc|(show Q2 _ _ (Be C Z [_])=some r;rw[e];exact hc)
 |binOp op t x y k=>
  rw[ho] at h
  simp only[ho] at hc⊢
  rw[h.Jl (ys:=[x,y]) Hz]
  exact hc
 |unOp op t x=>
  rw[ho] at h
  simp only[ho] at hc⊢
  rw[h.Jl (ys:=[x]) Hz]
  exact hc
 |convert src dst x=>
  rw[ho] at h
  simp only[ho] at hc⊢
  rw[h.Jl (ys:=[x]) Hz,h.val (x:=x) Hz]
  exact hc
 |makeFunc fn first captured=>
  rw[ho] at h
  simp only[ho] at hc⊢
  rw[h.Jl (ys:=first.toList) (λ_ hm=>by simp[Op.operands,hm]),h.Fu (ys:=captured.toList) (λ_ hm=>by simp[Op.operands,hm])]
  exact hc
 |makeMap t r'=>
  rw[ho] at hc
  cases r' with
  |none=>exact hc
  |some _=>cases hc
 |makeSlice t l c=>
  rw[ho] at h
  simp only[ho] at hc⊢
  rw[h.val (x:=l) Hz,h.val (x:=c) Hz]
  exact hc
 |insert t m k v=>
  rw[ho] at h
  simp only[ho] at hc⊢
  rw[h.Jl (ys:=[m,k,v]) Hz]
  exact hc
 |mapUpdate t m k v=>
  rw[ho] at h
  simp only[ho] at hc⊢
  rw[h.Jl (ys:=[m,k,v]) Hz]
  exact hc
 |lookup t m k ok=>
  rw[ho] at h
  simp only[ho] at hc⊢
  rw[h.Jl (ys:=[m,k]) Hz]
  exact hc
 |slice t x lo hi mx=>
  rw[ho] at h hc
  cases mx with
  |none=>
   have e:=h.Jl (ys:=x::(lo.toList++hi.toList)) (by cases lo<;>cases hi<;>simp[Op.operands])
   simp only at hc⊢
   rw[e]
   exact hc
  |some mx=>cases lo with
   |none=>cases hc
   |some lo=>cases hi with
    |none=>cases hc
    |some hi=>
     have e:=h.Jl (ys:=[x,lo,hi,mx]) Hz
     simp only at hc⊢
     rw[e]
     exact hc
 |makeInterface t x=>
  rw[ho] at h
  simp only[ho] at hc⊢
  rw[h.Jl (ys:=[x]) Hz]
  exact hc
 |mapEntry t m k=>
  rw[ho] at h
  simp only[ho] at hc⊢
  rw[h.Jl (ys:=[m,k]) Hz]
  exact hc
 |entryStore t m s v=>
  rw[ho] at h
  simp only[ho] at hc⊢
  rw[h.Jl (ys:=[m,s,v]) Hz]
  exact hc
 |fieldAddr t x f=>
  rw[ho] at h
  simp only[ho] at hc⊢
  have e:=h.Jl (ys:=[x]) Hz
  rw[h x Hz]
  cases hf:Hk C.P t f with
  |none=>rw[hf] at hc;cases hc
  |some q=>
   rw[hf] at hc
   cases hd:o.dst with
   |none=>rw[hd] at hc;cases hc
   |some d=>
    rw[hd] at hc
    cases hs:DF C U x with
    |none=>rw[hs] at hc;cases x<;>first|exact hc|(show Q2 _ _ (Be C Z [_])=some r;rw[e];exact hc)
    |some sl=>rw[hs] at hc;cases sl<;>cases x<;>first|exact hc|(show Q2 _ _ (Be C Z [_])=some r;rw[e];exact hc)
 |field t x f=>
  rw[ho] at h
  simp only[ho] at hc⊢
  rw[h.Jl (ys:=[x]) Hz]
  exact hc
 |indexAddr t x i=>
  rw[ho] at h
  simp only[ho] at hc⊢
  rw[h.Jl (ys:=[x,i]) Hz]
  exact hc
 |index t x i=>
  rw[ho] at h
  simp only[ho] at hc⊢
  rw[h.Jl (ys:=[x,i]) Hz]
  exact hc
 |extract x i=>
  rw[ho] at h
  simp only[ho] at hc⊢
  rw[h.Jl (ys:=[x]) Hz]
  exact hc
 |call c=>
  rw[ho] at h
  simp only[ho] at hc⊢
  rw[h.call]
  exact hc
 |_=>simp only[ho] at hc;cases hc
end
end Go.Am
end
section
namespace Go.Am
open Go
mutual
def Aa.TT:∀{a b:Aa},Aa.beq a b=true->a=b
 | .bool a,b,h=>by cases b<;>simp[Aa.beq] at h⊢;exact h
 | .int k a,b,h=>by cases b<;>simp[Aa.beq] at h⊢;exact h
 | .str a,b,h=>by cases b<;>simp[Aa.beq] at h⊢;exact h
 | .ptr a,b,h=>by cases b<;>simp[Aa.beq] at h⊢;exact h
 | .Fq a,b,h=>by cases b<;>simp[Aa.beq] at h⊢;exact h
 | .Cz a,b,h=>by cases b<;>simp[Aa.beq] at h⊢;exact Aa.MP h
 | .sl n a,b,h=>by cases b<;>simp[Aa.beq] at h⊢;exact⟨h.1,Aa.Zp h.2⟩
 | .slnil,b,h=>by cases b<;>simp[Aa.beq] at h⊢
 | .CL a c d e,b,h=>by cases b<;>simp[Aa.beq] at h⊢;exact⟨h.1.1.1,h.1.1.2,h.1.2,h.2⟩
 | .map a,b,h=>by cases b<;>simp[Aa.beq] at h⊢;exact h
 | .func f a c,b,h=>by cases b<;>simp[Aa.beq] at h⊢;exact⟨h.1.1,Aa.MP h.1.2,Aa.MP h.2⟩
 | .nilFunc,b,h=>by cases b<;>simp[Aa.beq] at h⊢
 | .iface t a,b,h=>by cases b<;>simp[Aa.beq] at h⊢;exact⟨h.1,Aa.TT h.2⟩
 | .nilIface,b,h=>by cases b<;>simp[Aa.beq] at h⊢
 | .agg a,b,h=>by cases b<;>simp[Aa.beq] at h⊢;exact Aa.MP h
 | .tuple a,b,h=>by cases b<;>simp[Aa.beq] at h⊢;exact Aa.MP h
def Aa.MP:∀{a b:List Aa},Aa.PG a b=true->a=b
 |[],b,h=>by cases b<;>simp[Aa.PG] at h⊢
 |a::x,b,h=>by
  cases b with
  |nil=>simp[Aa.PG] at h
  |cons c y=>simp[Aa.PG] at h⊢;exact⟨Aa.TT h.1,Aa.MP h.2⟩
def Aa.Zp:∀{a b:List (List Aa)},Aa.PH a b=true->a=b
 |[],b,h=>by cases b<;>simp[Aa.PH] at h⊢
 |a::x,b,h=>by
  cases b with
  |nil=>simp[Aa.PH] at h
  |cons c y=>simp[Aa.PH] at h⊢;exact⟨Aa.MP h.1,Aa.Zp h.2⟩
end
def Bx.Iw(U:Bx):∀(a b:List (Nat×D0)),U.DR (a++b)=(U.DR a).DR b
 |[],_=>rfl
 |(s,x)::a,b=>Bx.Iw (U.set s x) a b
def Bx.Iy:∀(ws:List (Nat×D0)) (U:Bx),(U.DR ws).length=U.length
 |[],_=>rfl
 |(s,x)::ws,U=>by rw[Bx.DR,Bx.Iy ws];simp
def Bx.TU(U:Bx)(s t:Nat)(x:D0):Bx.at (U.set s x) t=if s=t/\t<U.length then x else U.at t:=by
 by_cases h:s=t
 .subst h;by_cases hl:s<U.length;.simp[Bx.at,List.getD,hl]
  .simp[Bx.at,List.getD,hl]
 .simp[Bx.at,List.getD,An h,h]
def Bx.F0:∀(ws:List (Nat×D0)) (U:Bx) (t:Nat),(∀p∈ws,p.1≠t)->(U.DR ws).at t=U.at t
 |[],_,_,_=>rfl
 |(s,x)::ws,U,t,h=>by rw[Bx.DR,Bx.F0 ws _ t λp hp=>h p (by simp[hp]),Bx.TU,Ac];exact λe=>h (s,x) Aw e.1
def Bx.TV:∀(ws:List (Nat×D0)) (U:Bx) (t:Nat),(U.DR ws).at t=U.at t\/∃p∈ws,p.1=t/\(U.DR ws).at t=p.2
 |[],_,_=> .inl rfl
 |(s,x)::ws,U,t=>by
  rcases Bx.TV ws (U.set s x) t with h|⟨p,hp,h1,h2⟩
  .rw[Bx.TU] at h;by_cases hc:s=t/\t<U.length;.rw[Ad hc] at h;exact .inr ⟨(s,x),Aw,hc.1,h⟩
   .rw[Ac hc] at h;exact .inl h
  .exact .inr ⟨p,by simp[hp],h1,h2⟩
def Bx.H6:∀(ws:List (Nat×D0)) (U Z:Bx) (t:Nat),Z.length=U.length->Z.at t=U.at t->(Z.DR ws).at t=(U.DR ws).at t
 |[],_,_,_,_,h=>h
 |(s,x)::ws,U,Z,t,hl,h=>by refine Bx.H6 ws _ _ t (by simpa using hl) ?_;rw[Bx.TU,Bx.TU,hl,h]
def Bx.ext{U Z:Bx}(hl:Z.length=U.length)(h:∀t,Z.at t=U.at t):Z=U:=by apply List.ext_getElem hl;intro i h1 h2;have:=h i;simpa[Bx.at,List.getD,h1,h2] using this
def Bx.nC{U:Bx}{a b:List (Nat×D0)}(h:∀p∈a,∀q∈b,p.1≠q.1):(U.DR a).DR b=(U.DR b).DR a:=by
 refine Bx.ext (by simp[Bx.Iy]) λt=>?_;by_cases ha:∀p∈a,p.1≠t;.rw[Bx.F0 a (U.DR b) t ha];exact Bx.H6 b _ _ t (by simp[Bx.Iy]) (Bx.F0 a U t ha)
 .have⟨p,hp,c⟩:∃p∈a,p.1=t:=Classical.byContradiction λhn=>ha λp hp e=>hn ⟨p,hp,e⟩;have hb:∀q∈b,q.1≠t:=λq hq e=>h p hp q hq (by rw[c,e]);rw[Bx.F0 b (U.DR a) t hb];exact(Bx.H6 a _ _ t (by simp[Bx.Iy]) (Bx.F0 b U t hb)).symm
def MQ{U:Bx}{ds:List Nat}:LC U ds=true↔∀x t o,U.at x= .EI t o->t∉ds:=by
 unfold LC;rw[EG];constructor
 .intro h x t o hx;by_cases hl:x<U.length;.have:=h (U.at x) (by simp[Bx.at,List.getD,hl]);rw[hx] at this;simpa using this
  .simp[Bx.at,List.getD,hl] at hx
 .intro h s hs;obtain⟨i,hi⟩:=Cq hs;cases s with
  |EI t o=>have:=h i t o (by simp[Bx.at,List.getD,hi]);simpa using this
  |_=>rfl
def nD{a b:List Nat}:RK a b=true↔∃x,x∈a/\x∈b:=by simp[RK]
structure St where
 idx:Nat
 fp:FP
 fl:Option Jc
def JE(i:Nat)(r:Ei)(U:Bx):Option Jc:=
 match r with
 | .load n p (some d)=>match U.at d with
  | .val v=>some {idx:=i,n,p,v}
  |_=>none
 |_=>none
def TW(i:Nat)(r:Ei)(U:Bx)(fl:List Jc):Lc i r U fl=(JE i r U).toList++fl:=by
 cases r with
 |load n p dst=>
  cases dst with
  |none=>rfl
  |some d=>simp only[Lc,JE];cases U.at d<;>rfl
 |_=>rfl
def Vv{i:Nat}{r:Ei}{U Z:Bx}(h:∀d∈r.wf,Z.at d=U.at d):JE i r Z=JE i r U:=by
 cases r with
 |load n p dst=>
  cases dst with
  |none=>rfl
  |some d=>simp only[JE];rw[h d (by simp[Ei.wf])]
 |_=>rfl
def Lk(d:Option Nat)(U U':Bx):Prop:=
 match d with
 |none=>U'=U
 |some d=>match U.at d with
  | .val v=>∃b,v= .bool b/\U'=U.set d (.Nj b)
  |_=>U'=U
section
variable{C:FC}{fid:FuncId}{ops:List Oper}{run:IT->Ah->Option Jb}{U Z U':Bx}{h h':Ah}
def NC(C:FC)(fid:FuncId)(ops:List Oper)(run:IT->Ah->Option Jb)(s:St)(U:Bx)(h:Ah)(U':Bx)(h':Ah):Prop:=
 ∃o,ops[s.idx]?=some o/\
  ((Hy ops U o = .LY false /\ s.fp = Ss C ops U o none /\ s.fl = none /\ U' = U.put o.dst .skip /\ h' = h) \/
   ∃ r U1, Hy ops U o = .LY true /\ Fv C fid ops U o = some r /\ s.fp = Ss C ops U o (some r) /\ r.L4 C run (U.drop r.news) h U1 h' /\ s.fl = JE s.idx r U1 /\
     Lk (if PO ops s.idx then o.dst else none) U1 U')
def TX(U:Bx)(d:Option Nat)(x:D0):U.put d x=U.DR (d.toList.map λs=>(s,x)):=by cases d<;>rfl
def nE(U:Bx)(d:Option (Nat×Aa)):U.Da d=U.DR (d.toList.map λp=>(p.1,.val p.2)):=by cases d<;>rfl
def Wg{r:Ei}(hd:r.L4 C run U h U' h'):∃ws,U'=U.DR ws/\(∀p∈ws,p.1∈r.wf)/\(∀p∈ws,∀t o,p.2= .EI t o->t∈r.iH)/\∀Z,r.L4 C run Z h (Z.DR ws) h':=by
 have one:∀(d:Option Nat) (x:D0),(∀t o,x≠ .EI t o)->U'=U.put d x->d.toList⊆r.wf->(∀Z,r.L4 C run Z h (Z.put d x) h')->
   ∃ws,U'=U.DR ws/\(∀p∈ws,p.1∈r.wf)/\(∀p∈ws,∀t o,p.2= .EI t o->t∈r.iH)/\∀Z,r.L4 C run Z h (Z.DR ws) h':=by
  intro d x hx he hw ht;refine⟨d.toList.map λs=>(s,x),by rw[<-TX];exact he,λp hp=>?_,λp hp t o hl=>?_,λZ=>by rw[<-TX];exact ht Z⟩;.obtain⟨s,hs,rfl⟩:=AZ.1 hp;exact hw hs
  .obtain⟨s,hs,rfl⟩:=AZ.1 hp;exact absurd hl (hx t o)
 have Xi:∀(i:Option (Nat×Aa)) (d:Option Nat) (x:D0),(∀t o,x≠ .EI t o)->U'=(U.Da i).put d x->d.toList⊆r.wf->(i.map (·.1)).toList⊆r.wf->(∀Z,r.L4 C run Z h ((Z.Da i).put d x) h')->
   ∃ws,U'=U.DR ws/\(∀p∈ws,p.1∈r.wf)/\(∀p∈ws,∀t o,p.2= .EI t o->t∈r.iH)/\∀Z,r.L4 C run Z h (Z.DR ws) h':=by
  intro i d x hx he hw sG ht;have e:∀Z:Bx,(Z.Da i).put d x=Z.DR ((i.toList.map λp=>(p.1,.val p.2))++d.toList.map λs=>(s,x)):=λZ=>by rw[Bx.Iw,<-nE,<-TX]
  refine⟨_,by rw[he,e],λp hp=>?_,λp hp t o hl=>?_,λZ=>by rw[<-e];exact ht Z⟩
  .rcases Ak.1 hp with hp|hp
   .obtain⟨q,hq,rfl⟩:=AZ.1 hp;exact sG (by cases i<;>simp_all)
   .obtain⟨s,hs,rfl⟩:=AZ.1 hp;exact hw hs
  .rcases Ak.1 hp with hp|hp
   .obtain⟨q,hq,rfl⟩:=AZ.1 hp;cases hl
   .obtain⟨s,hs,rfl⟩:=AZ.1 hp;exact absurd hl (hx t o)
 cases r with
 |pure ws=>obtain⟨rfl,rfl⟩:=hd;refine⟨ws,rfl,λp hp=>AZ.2 ⟨p,hp,rfl⟩,λp hp t o hl=>?_,λZ=>⟨rfl,rfl⟩⟩;exact B1.2 ⟨p.2,AZ.2 ⟨p,hp,rfl⟩,by rw[hl]⟩
 |op p args dst BE i=>obtain⟨v,hv,rfl,rfl⟩:=hd;exact Xi i dst _ (by cases BE<;>simp) rfl (by simp[Ei.wf]) (by simp[Ei.wf]) λZ=>⟨v,hv,rfl,rfl⟩
 |box n v d=>obtain⟨hn,rfl,rfl⟩:=hd;exact one (some d) _ Aw rfl (by simp[Ei.wf]) λZ=>⟨hn,rfl,rfl⟩
 |Kn fn x b fz d=>
  obtain⟨rfl,rfl⟩:=hd;refine⟨(fz.map λ(s,cs)=>(s,.val (.Cz cs)))++[(d,.val (.func fn x b))],by rw[Bx.Iw];rfl,λp hp=>?_,λp hp t o hl=>?_,λZ=>⟨by rw[Bx.Iw];rfl,rfl⟩⟩
  .rcases Ak.1 hp with hp|hp
   .obtain⟨q,hq,rfl⟩:=AZ.1 hp;exact Vh _ (AZ.2 ⟨q,hq,rfl⟩)
   .simp at hp;subst hp;simp[Ei.wf]
  .rcases Ak.1 hp with hp|hp
   .obtain⟨q,hq,rfl⟩:=AZ.1 hp;cases hl
   .simp at hp;subst hp;cases hl
 |LB s off n v BE i ver cells owned=>obtain⟨hn,rfl,rfl⟩:=hd;exact Xi i (some s) _ Aw rfl (by simp[Ei.wf]) (by simp[Ei.wf]) λZ=>⟨hn,rfl,rfl⟩
 |load n p dst=>obtain⟨v,hv,rfl,rfl⟩:=hd;exact one dst _ Aw rfl (by simp[Ei.wf]) λZ=>⟨v,hv,rfl,rfl⟩
 |store n p v=>obtain⟨hv,rfl⟩:=hd;exact one none .undef Aw rfl Aw λZ=>⟨hv,rfl⟩
 |alloc n v dst=>obtain⟨hn,rfl,rfl⟩:=hd;exact one dst _ Aw rfl (by simp[Ei.wf]) λZ=>⟨hn,rfl,rfl⟩
 |call f args dst=>obtain⟨v,hv,rfl⟩:=hd;exact one dst _ (by intro t o;split<;>simp) rfl (by simp[Ei.wf]) λZ=>⟨v,hv,rfl⟩
 |FH g args dst=>obtain⟨f,x,v,h1,h2,rfl⟩:=hd;exact one dst _ Aw rfl (by simp[Ei.wf]) λZ=>⟨f,x,v,h1,h2,rfl⟩
 |Co f args dst=>obtain⟨HV,v,h1,h2,j,rfl,rfl⟩:=hd;exact one dst _ Aw rfl (by simp[Ei.wf]) λZ=>⟨HV,v,h1,h2,j,rfl,rfl⟩
 |OC dst=>obtain⟨rfl,rfl⟩:=hd;exact one dst _ Aw rfl (by simp[Ei.wf]) λZ=>⟨rfl,rfl⟩
 |JJ m k v=>obtain⟨hv,rfl⟩:=hd;exact one none .undef Aw rfl Aw λZ=>⟨hv,rfl⟩
 |LX z ok m k dst=>obtain⟨v,hv,rfl,rfl⟩:=hd;exact one dst _ Aw rfl (by simp[Ei.wf]) λZ=>⟨v,hv,rfl,rfl⟩
 |make z b zero l c dst=>obtain⟨v,hv,rfl⟩:=hd;exact one dst _ Aw rfl (by simp[Ei.wf]) λZ=>⟨v,hv,rfl⟩
 |Ja z b s x dst i=>obtain⟨v,hv,rfl⟩:=hd;exact Xi i dst _ Aw rfl (by simp[Ei.wf]) (by simp[Ei.wf]) λZ=>⟨v,hv,rfl⟩
 |FJ z b s x dst=>obtain⟨v,hv,rfl⟩:=hd;exact one dst _ Aw rfl (by simp[Ei.wf]) λZ=>⟨v,hv,rfl⟩
 |FW z b s x dst i=>obtain⟨v,hv,rfl,rfl⟩:=hd;exact Xi i dst _ Aw rfl (by simp[Ei.wf]) (by simp[Ei.wf]) λZ=>⟨v,hv,rfl,rfl⟩
 |E4 s dst=>obtain⟨v,hv,rfl⟩:=hd;exact one dst _ Aw rfl (by simp[Ei.wf]) λZ=>⟨v,hv,rfl⟩
 |Vk s dst=>obtain⟨v,u,h1,h2,rfl⟩:=hd;exact one dst _ Aw rfl (by simp[Ei.wf]) λZ=>⟨v,u,h1,h2,rfl⟩
 |mem o args dst=>obtain⟨v,hv,rfl⟩:=hd;exact one dst _ (by intro t o';split<;>simp) rfl (by simp[Ei.wf]) λZ=>⟨v,hv,rfl⟩
def Rg{r:Ei}(hd:r.L4 C run U h U' h')(he:r.PE=false):h'=h/\
  (r.hl=false->∀h2,r.L4 C run U h2 U' h2)/\
  ∀n p d,r= .load n p (some d)->∃v,Bq h n p=some v/\U'=U.set d (.val v)/\∀h2,Bq h2 n p=some v->r.L4 C run U h2 U' h2:=by
 cases r<;>simp only[Ei.PE] at he<;>try(exact absurd he Bj)
 case pure ws=>obtain⟨rfl,rfl⟩:=hd;exact⟨rfl,λ_ _=>⟨rfl,rfl⟩,Aw⟩
 case op p args dst BE g=>obtain⟨v,hv,rfl,rfl⟩:=hd;exact⟨rfl,λ_ _=>⟨v,hv,rfl,rfl⟩,Aw⟩
 case box n v d=>obtain⟨hn,rfl,rfl⟩:=hd;exact⟨rfl,λ_ _=>⟨hn,rfl,rfl⟩,Aw⟩
 case Kn fn x b fz d=>obtain⟨rfl,rfl⟩:=hd;exact⟨rfl,λ_ _=>⟨rfl,rfl⟩,Aw⟩
 case LB s off n v BE g ver cells owned=>obtain⟨hn,rfl,rfl⟩:=hd;exact⟨rfl,λ_ _=>⟨hn,rfl,rfl⟩,Aw⟩
 case load n p dst=>obtain⟨v,hv,rfl,rfl⟩:=hd;refine⟨rfl,λc=>absurd c (by simp[Ei.hl]),λn' p' d he=>?_⟩;cases he;exact⟨v,hv,rfl,λh2 e=>⟨v,e,rfl,rfl⟩⟩
 case LX z ok m k dst=>obtain⟨v,hv,rfl,rfl⟩:=hd;exact⟨rfl,λc=>absurd c (by simp[Ei.hl]),Aw⟩
 case Co f args dst=>obtain⟨HV,v,h1,h2,i,rfl,rfl⟩:=hd;exact⟨rfl,λ_ _=>⟨HV,v,h1,h2,i,rfl,rfl⟩,Aw⟩
def RT{ds:List Nat}(hn:LC U ds=true):U.drop ds=U:=by
 refine Bx.ext (Bx.length_drop U ds) λt=>?_;rw[Bx.PZ];cases hx:U.at t with
 |EI t' o=>have:=MQ.1 hn t t' o hx;simp[this]
 |_=>rfl
def OP{o:Oper}(h:∀t∈EU ops o,Z.at t=U.at t):Hy ops Z o=Hy ops U o:=by
 unfold Hy;unfold EU at h;cases hg:o.guard with
 |none=>rfl
 |some g=>
  obtain⟨j,want⟩:=g;rw[hg] at h;simp only at h⊢;cases hd:(ops[j]?).bind (·.dst) with
  |none=>rfl
  |some s=>
   rw[hd] at h;simp only
   rw[h s Aw]
def SE{o:Oper}{r:Ei}(hc:Fv C fid ops U o=some r)(ht:∀t∈IM o.op.operands.toList,Z.at t=U.at t)(hb:∀s∈GV C U o,Z.at s=U.at s):GV C Z o=GV C U o:=by
 have h:SZ C U Z o.op.operands.toList:= .iT ht
 unfold GV at hb⊢
 cases ho:o.op with
 |load t x=>
  rw[ho] at h hb
  simp only at hb⊢
  have hn:Ft C U x≠none:=λhe=>by
   unfold Fv at hc
   simp only[ho] at hc
   split at hc
   .unfold J7 at hc;rw[he] at hc;split at hc<;>simp_all
   .cases hc
  unfold MC
  rw[h.addr Hz hb hn]
 |store t x y=>
  rw[ho] at h hb
  simp only at hb⊢
  have hn:Ft C U x≠none:=λhe=>by
   unfold Fv at hc
   simp only[ho] at hc
   split at hc
   .unfold Ic at hc;rw[he] at hc;split at hc<;>simp_all
   .cases hc
  unfold MC
  rw[h.addr Hz hb hn]
 |_=>rfl
def RU{xs:List D0}{t o:Nat}(h: .EI t o∈xs):t∈SW xs:=B1.2 ⟨_,h,rfl⟩
def NC.spec{s:St}(hs:NC C fid ops run s U h U' h')(hf:s.fp.Q6=true):
  ∃ws,U'=U.DR ws/\(∀p∈ws,p.1∈s.fp.wf)/\(∀p∈ws,∀t o,p.2= .EI t o->t∈s.fp.lr)/\(∀x∈s.fp.wf,∀t o,U.at x= .EI t o->t∈s.fp.lr)/\LC U s.fp.news=true/\(s.fp.PE=false->h'=h)/\
   (s.fp.PE=false->s.fp.hl=true->∃f,s.fl=some f)/\
   ∀(Z:Bx) (h2 YN:Ah),Z.length=U.length->(∀x∈s.fp.rs++s.fp.wf,Z.at x=U.at x)->LC Z s.fp.news=true->
    ((h2=h/\YN=h')\/(s.fp.PE=false/\YN=h2/\(s.fp.hl=true->∀f,s.fl=some f->Bq h2 f.n f.p=some f.v)))->NC C fid ops run s Z h2 (Z.DR ws) YN:=by
 obtain⟨o,ho,⟨hg,qg,HV,rfl,rfl⟩|⟨r,U1,hg,hc,qg,hd,HV,ha⟩⟩:=hs
 .rw[qg] at hf⊢;refine⟨o.dst.toList.map λd=>(d,.skip),TX _ _ _,λp hp=>?_,λp hp t k hl=>?_,λx hx t k hl=>?_,MQ.2 (by simp[Ss]),λ_=>rfl,λ_ c=>absurd c (by simp[Ss]),λZ h2 YN hlen sH _ HL=>?_⟩;.obtain⟨d,hd,rfl⟩:=AZ.1 hp;exact hd
  .obtain⟨d,hd,rfl⟩:=AZ.1 hp;cases hl
  .exact RU (o:=k) (AZ.2 ⟨x,hx,hl⟩)
  .have c:YN=h2:=by rcases HL with⟨u,q⟩|⟨_,e,_⟩<;>first|exact e|rw[u,q]
   refine⟨o,ho,.inl ⟨?_,?_,HV,(TX _ _ _).symm,c⟩⟩;.rw[OP λt ht=>sH t (Cc _ ht)];exact hg
   .rw[qg];have e:o.dst.toList.map Z.at=o.dst.toList.map U.at:=VQ λx hx=>sH x (By _ hx);simp only[Ss,e]
 .rw[qg] at hf⊢;have sJ:r.Q6 U=true:=hf;have OF:LC U r.news=true:=by unfold Ei.Q6 at sJ;rw[Bt] at sJ;exact sJ.1
  rw[RT OF] at hd;obtain⟨sK,rfl,hw,m,Q9⟩:=Wg hd;have aBQ:∃É:List (Nat×D0),U'=(U.DR sK).DR É/\(∀p∈É,o.dst=some p.1/\∃b,p.2= .Nj b)/\∀Z:Bx,Z.length=U.length->(∀x∈r.wf++o.dst.toList,Z.at x=U.at x)->Lk (if PO ops s.idx then o.dst else none) (Z.DR sK) ((Z.DR sK).DR É):=by
   by_cases zo:PO ops s.idx=true
   .rw[Ad zo] at ha;cases P8:o.dst with
    |none=>rw[P8] at ha;exact⟨[],ha,Aw,λZ _ _=>by simp[zo,Lk,Bx.DR]⟩
    |some d=>
     rw[P8] at ha;simp only[Lk] at ha;have ke:∀Z:Bx,Z.length=U.length->(∀x∈r.wf++[d],Z.at x=U.at x)->(Z.DR sK).at d=(U.DR sK).at d:=λZ hl sH=>Bx.H6 sK U Z d hl (sH d Aw);cases hx:(U.DR sK).at d with
     |val v=>rw[hx] at ha;obtain⟨b,rfl,rfl⟩:=ha;refine⟨[(d,.Nj b)],rfl,Aw,λZ hl sH=>?_⟩;simp only[zo,BH,Lk];rw[ke Z hl sH,hx];exact⟨b,rfl,rfl⟩
     |_=>rw[hx] at ha;refine⟨[],ha,Aw,λZ hl sH=>?_⟩;simp only[zo,BH,Lk];rw[ke Z hl sH,hx];rfl
   .rw[Ac zo] at ha;exact⟨[],ha,Aw,λZ _ _=>by rw[Ac zo];rfl⟩
  obtain⟨É,rfl,sG,Ê⟩:=aBQ;have i:r.hl=true->∃n p d,r= .load n p (some d)/\d<U.length:=λc=>by
   unfold Ei.Q6 at sJ;rw[Bt] at sJ;cases r with
   |load n p dst=>
    cases dst with
    |none=>exact absurd sJ.2 Aw
    |some d=>exact⟨n,p,d,rfl,by simpa using sJ.2⟩
   |LX _ _ _ _ _=>exact absurd sJ.2 Aw
   |_=>simp[Ei.hl] at c
  have Ë:r.PE=false->∀n p d,r= .load n p (some d)->d<U.length->∃v,Bq h n p=some v/\s.fl=some {idx:=s.idx,n,p,v}:=by intro he n p d hr nF;obtain⟨v,j,g,_⟩:=(Rg hd he).2.2 n p d hr;refine⟨v,j,?_⟩;rw[HV,hr];simp only[JE];rw[g,Bx.EP nF]
  have aBR:∀(Z:Bx) h2 YN,((h2=h/\YN=h')\/(r.PE=false/\YN=h2/\(r.hl=true->∀f,s.fl=some f->Bq h2 f.n f.p=some f.v)))->r.L4 C run Z h2 (Z.DR sK) YN:=by
   intro Z h2 YN HL;rcases HL with⟨rfl,rfl⟩|⟨he,rfl,RP⟩
   .exact Q9 Z
   .obtain⟨_,B,A⟩:=Rg (Q9 Z) he;cases c:r.hl with
    |false=>exact B c _
    |true=>obtain⟨n,p,d,hr,nF⟩:=i c;obtain⟨v,j,g⟩:=Ë he n p d hr nF;obtain⟨v',y,_,z⟩:=A n p d hr;rw[j] at y;cases y;exact z _ (RP c _ g)
  refine⟨sK++É,by rw[Bx.Iw],λp hp=>?_,λp hp t k hl=>?_,λx hx t k hl=>?_,OF,λhe=>(Rg hd he).1,λhe c=>?_,λZ h2 YN hlen sH l HL=>?_⟩
  .rcases Ak.1 hp with hp|hp
   .exact Cc _ (hw p hp)
   .exact By _ (by rw[(sG p hp).1];simp)
  .rcases Ak.1 hp with hp|hp
   .exact By _ (m p hp t k hl)
   .obtain⟨_,b,e⟩:=sG p hp;rw[e] at hl;cases hl
  .exact Cc _ (RU (o:=k) (AZ.2 ⟨x,hx,hl⟩))
  .obtain⟨n,p,d,hr,nF⟩:=i c;obtain⟨v,_,g⟩:=Ë he n p d hr nF;exact⟨_,g⟩
  .have zp:∀t∈EU ops o++IM o.op.operands.toList++GV C U o,Z.at t=U.at t:=λt ht=>sH t (Cc _ ht);have hwf:∀t∈r.wf++o.dst.toList,Z.at t=U.at t:=λt ht=>sH t (By _ ht);have ht:∀t∈IM o.op.operands.toList,Z.at t=U.at t:=λt ht=>zp t (by simp[ht]);have hb:∀t∈GV C U o,Z.at t=U.at t:=λt ht=>zp t (by simp[ht]);have Ì:LC Z r.news=true:=l;refine⟨o,ho,.inr ⟨r,Z.DR sK,?_,TS hc ht hb,?_,?_,?_,?_⟩⟩;.rw[OP λt ht=>zp t (by simp[ht])];exact hg
   .rw[qg];have u:(r.wf++o.dst.toList).map Z.at=(r.wf++o.dst.toList).map U.at:=VQ λx hx=>hwf x hx;have q:r.Q6 Z=r.Q6 U:=by unfold Ei.Q6;rw[OF,Ì,hlen]
    simp only[Ss,u,q,SE hc ht hb]
   .rw[RT Ì];exact aBR Z h2 YN HL
   .rw[HV];exact(Vv λd hd=>Bx.H6 sK U Z d hlen (hwf d (Cc _ hd))).symm
   .rw[Bx.Iw];exact Ê Z hlen hwf
end
end Go.Am
end
section
namespace Go.Am
open Go
section
variable{C:FC}{fid:FuncId}{ops:List Oper}{run:IT->Ah->Option Jb}{an:List Nat}
def Kx{a b:List Nat}(h:(!RK a b)=true){x:Nat}(hx:x∈a):x∉b:=λhb=>by have:RK a b=true:=nD.2 ⟨x,hx,hb⟩;simp[this] at h
def swap{p s:St}{U σa U1:Bx}{h ha h1:Ah}(hp:NC C fid ops run p U h σa ha)(hs:NC C fid ops run s σa ha U1 h1)(Kh:O4 p.fp s.fp=true)
  (RP:s.fp.PE=true->∀f,p.fl=some f->Bq h1 f.n f.p=some f.v):
  ∃σs YH,NC C fid ops run s U h σs YH/\NC C fid ops run p σs YH U1 h1/\(s.fp.PE=true->YH=h1)/\(p.fp.PE=true->h1=ha):=by
 unfold O4 FP.apart at Kh;simp only[Bt] at Kh;obtain⟨⟨⟨⟨pf,z⟩,⟨⟨a1,a2⟩,a3⟩,a4⟩,he⟩,hl⟩:=Kh;obtain⟨c,rfl,k,mQ,y,qi,m,D,kf⟩:=hp.spec pf;obtain⟨b,rfl,j,bP,A,l,bL,B,sL⟩:=hs.spec z;have g:∀x∈s.fp.rs++s.fp.wf,(U.DR c).at x=U.at x:=λx hx=>Bx.F0 c U x λq hq e=>Kx a1 (k q hq) (by rw[e];exact hx);have d:LC U s.fp.news=true:=by
  rw[MQ] at l⊢;intro x t o hx;by_cases hw:x∈p.fp.wf;.exact Kx a3 (y x hw t o hx)
  .refine l x t o ?_;rw[Bx.F0 c U x λq hq e=>hw (by rw[<-e];exact k q hq)];exact hx
 have hlen:∀(Z:Bx) (ws:List (Nat×D0)),(Z.DR ws).length=Z.length:=λZ ws=>Bx.Iy ws Z;have kg:(U.DR b).DR c=(U.DR c).DR b:=(Bx.nC λq hq r hr e=>by have:=Kx a1 (k q hq);exact this (By _ (by rw[e];exact j r hr))).symm
 have outs:∀x∈p.fp.rs++p.fp.wf,(U.DR b).at x=U.at x:=λx hx=>Bx.F0 b U x λq hq e=>by
  rcases Ak.1 hx with hx|hx
  .exact Kx a2 (j q hq) (by rw[e];exact hx)
  .exact Kx a1 hx (By _ (by rw[<-e];exact j q hq))
 have u:LC (U.DR b) p.fp.news=true:=by
  rw[MQ] at qi⊢;intro x t o hx;rcases Bx.TV b U x with h0|⟨q,hq,_,h2⟩
  .exact qi x t o (by rw[<-h0];exact hx)
  .rw[h2] at hx;exact Kx a4 (bP q hq t o hx)
 by_cases Ih:s.fp.PE=true
 .have zq:p.fp.PE=false:=by
   cases hq:p.fp.PE with
   |false=>rfl
   |true=>simp[Ih,hq] at he
  have i:ha=h:=m zq;subst i;refine⟨U.DR b,h1,sL U ha h1 (hlen U c).symm (λx hx=>(g x hx).symm) d (.inl ⟨rfl,rfl⟩),?_,λ_=>rfl,λe=>by rw[zq] at e;cases e⟩;rw[<-kg];exact kf (U.DR b) h1 h1 (hlen U b) outs u (.inr ⟨zq,rfl,λ_ f hf=>RP Ih f hf⟩)
 .have Í:s.fp.PE=false:=by simpa using Ih
  have qj:h1=ha:=bL Í;subst qj;refine⟨U.DR b,h,?_,?_,λe=>absurd e Ih,λ_=>rfl⟩
  .by_cases zq:p.fp.PE=true;.refine sL U h h (hlen U c).symm (λx hx=>(g x hx).symm) d (.inr ⟨Í,rfl,λE=>?_⟩);simp[zq,E] at hl
   .have aBU:p.fp.PE=false:=by simpa using zq
    have i:=m aBU;exact sL U h h (hlen U c).symm (λx hx=>(g x hx).symm) d (.inl ⟨i.symm,i.symm⟩)
  .rw[<-kg];exact kf (U.DR b) h h1 (hlen U b) outs u (.inl ⟨rfl,rfl⟩)
inductive Steps(C:FC)(fid:FuncId)(ops:List Oper)(run:IT->Ah->Option Jb)(an:List Nat):List Jc->List St->Bx->Ah->Bx->Ah->Prop
 |nil {fl:List Jc} {U:Bx} {h:Ah}:Steps C fid ops run an fl [] U h U h
 |cons {fl:List Jc} {s:St} {L:List St} {U U1 σf:Bx} {h h1 hf:Ah}:NC C fid ops run s U h U1 h1->(s.fp.PE=true->∀f∈fl,D4 an f.idx s.idx=false->Bq h1 f.n f.p=some f.v)->
  Steps C fid ops run an (s.fl.toList++fl) L U1 h1 σf hf->Steps C fid ops run an fl (s::L) U h σf hf
def Steps.sub{fl:List Jc}{L:List St}{U σf:Bx}{h hf:Ah}(hs:Steps C fid ops run an fl L U h σf hf):∀{b:List Jc},(∀f∈b,f∈fl)->Steps C fid ops run an b L U h σf hf:=by
 induction hs with
 |nil=>intro b _;exact .nil
 |cons h1 h2 _ ih=>
  intro b TY;refine .cons h1 (λhe f hf hb=>h2 he f (TY f hf) hb) (ih λf hf=>?_);rcases Ak.1 hf with hf|hf
  .exact Cc _ hf
  .exact By _ (TY f hf)
def NC.ql{s:St}{U U':Bx}{h h':Ah}(hs:NC C fid ops run s U h U' h'){f:Jc}(hf:s.fl=some f):f.idx=s.idx:=by
 obtain⟨o,_,⟨_,_,HV,_⟩|⟨r,U1,_,_,_,_,HV,_⟩⟩:=hs;.rw[HV] at hf;cases hf
 .rw[HV] at hf;unfold JE at hf;split at hf
  .split at hf;.cases hf;rfl
   .cases hf
  .cases hf
def Steps.lt{fl:List Jc}{L:List St}{U σf:Bx}{h hf:Ah}(hs:Steps C fid ops run an fl L U h σf hf):∀q∈L,q.idx<ops.length:=by
 induction hs with
 |nil=>simp
 |cons h1 _ _ ih=>
  intro q hq;rcases Az.1 hq with rfl|hq
  .obtain⟨o',h2,_⟩:=h1;exact(Ae.1 h2).1
  .exact ih q hq
def kh{s:St}{B:List St}{σf:Bx}{hf:Ah}:∀{A:List St} {fl:List Jc} {U:Bx} {h:Ah},Steps C fid ops run an fl (A++s::B) U h σf hf->(∀p∈A,O4 p.fp s.fp=true/\D4 an p.idx s.idx=false)->
  ∃U1 h1,NC C fid ops run s U h U1 h1/\(s.fp.PE=true->∀f∈fl,D4 an f.idx s.idx=false->Bq h1 f.n f.p=some f.v)/\Steps C fid ops run an (s.fl.toList++fl) (A++B) U1 h1 σf hf
 |[],fl,U,h,hs,_=>by
  cases hs with
  |cons h1 h2 c=>exact⟨_,_,h1,h2,c⟩
 |p::A,fl,U,h,hs,i=>by
  cases hs with
  |cons h1 h2 c=>
   rename_i σa ha;obtain⟨U1,jw,e,d,l⟩:=kh c λq hq=>i q (by simp[hq]);obtain⟨Kh,aBV⟩:=i p Aw;obtain⟨σs,YH,w1,w2,k,j⟩:=swap h1 e Kh λhe f hf=>d he f (by rw[hf];simp) (by rw[h1.ql hf];exact aBV);refine⟨σs,YH,w1,λhe f hf hb=>?_,.cons w2 (λhe f hf hb=>?_) (l.sub λf hf=>?_)⟩;.rw[k he];exact d he f (By _ hf) hb
   .rw[j he];rcases Ak.1 hf with hf|hf
    .exfalso;unfold O4 at Kh;simp only[Bt] at Kh;obtain⟨⟨⟨⟨_,u⟩,_⟩,m⟩,hl⟩:=Kh;cases dB:s.fl with
     |none=>rw[dB] at hf;simp at hf
     |some g=>
      have b:s.fp.hl=true:=by
       obtain⟨o,_,⟨_,_,HV,_⟩|⟨r,t,_,_,qg,_,HV,_⟩⟩:=e;.rw[HV] at dB;cases dB
       .rw[HV] at dB;unfold JE at dB;split at dB;.rw[qg];rfl
        .cases dB
      simp[he,b] at hl
    .exact h2 he f hf hb
   .rcases Ak.1 hf with hf|hf
    .exact By _ (Cc _ hf)
    .rcases Ak.1 hf with hf|hf
     .exact Cc _ hf
     .exact By _ (By _ hf)
def OQ{Dq:List Nat}{x:Nat}:∀(ds:List Nat) (m:Nat),(ds.foldl (λm e=>m|||zh e|||Dq.getD e 0) m).testBit x=true↔m.testBit x=true\/∃e∈ds,x=e\/(Dq.getD e 0).testBit x=true
 |[],m=>Aw
 |d::ds,m=>by
  rw[pV,OQ ds];simp only[Nat.testBit_or,zh,Nat.testBit_two_pow,So,C9,Az,exists_eq_or_imp];constructor
  .rintro((h|h)|h)
   .rcases h with h|h
    .exact .inl h
    .exact .inr (.inl (.inl h.symm))
   .exact .inr (.inl (.inr h))
   .exact .inr (.inr h)
  .rintro(h|(h|h)|h);.exact .inl (.inl (.inl h))
   .exact .inl (.inl (.inr h.symm))
   .exact .inl (.inr h)
   .exact .inr h
def Kp:∀(l:List Oper) (Dq:List Nat) (i:Nat),i<Dq.length->(JL Dq l).getD i 0=Dq.getD i 0
 |[],Dq,i,h=>rfl
 |o::l,Dq,i,h=>by rw[JL,Kp l _ i ER];simp[List.getD,Al h]
def OR:∀(l:List Oper) (Dq:List Nat) (k:Nat) (o:Oper),l[k]?=some o->(∀e∈Oper.Sr o,e<Dq.length+k)->∀x,
  ((JL Dq l).getD (Dq.length+k) 0).testBit x=true↔∃e∈Oper.Sr o,x=e\/((JL Dq l).getD e 0).testBit x=true
 |[],Dq,k,o,h,_,x=>by simp at h
 |o'::l,Dq,0,o,h,hd,x=>by
  simp at h;subst h;rw[JL,Kp l _ (Dq.length+0) Aw];have b:(Dq++[(Oper.Sr o').foldl (λm e=>m|||zh e|||Dq.getD e 0) 0]).getD (Dq.length+0) 0=(Oper.Sr o').foldl (λm e=>m|||zh e|||Dq.getD e 0) 0:=by simp[List.getD]
  rw[b,OQ];simp only[Nat.zero_testBit,Dk,false_or];constructor;.rintro⟨e,he,h⟩;refine⟨e,he,h.imp id λh=>?_⟩;have hlt:e<Dq.length:=hd e he;rw[Kp l _ e ER];simpa[List.getD,Al hlt] using h
  .rintro⟨e,he,h⟩;refine⟨e,he,h.imp id λh=>?_⟩;have hlt:e<Dq.length:=hd e he;rw[Kp l _ e ER] at h;simpa[List.getD,Al hlt] using h
 |o'::l,Dq,k+1,o,h,hd,x=>by simp at h;rw[JL];have:=OR l (Dq++[(Oper.Sr o').foldl (λm e=>m|||zh e|||Dq.getD e 0) 0]) k o h (λe he=>by have:=hd e he;simp;omega) x;simp only[Ap,AU,BK,BC] at this;rw[(Ab:Dq.length+(k+1)=Dq.length+1+k)];exact this
def Wh{i:Nat}{o:Oper}(ho:ops[i]?=some o)(hd:∀e∈Oper.Sr o,e<i)(x:Nat):D4 (Ts ops) x i=true↔∃e∈Oper.Sr o,x=e\/D4 (Ts ops) x e=true:=by have:=OR ops [] i o ho (by simpa using hd) x;simpa[D4,Ts] using this
def ND(h:Xd ops=true){i:Nat}{o:Oper}(ho:ops[i]?=some o):∀e∈Oper.Sr o,e<i:=by
 unfold Xd at h;rw[EG] at h;have:=h (o,i) (by refine Cb (i:=i) ?_;simp[List.getElem?_zipIdx,ho])
 intro e he;simpa using EG.1 this e he
def Wi:∀{l:List (Nat×FP)},Tu.go an l=true->l.Pairwise λx y=>x.1≠y.1/\D4 an y.1 x.1=false/\(D4 an x.1 y.1=true\/O4 x.2 y.2=true)
 |[],_=> .nil
 |(i,f)::l,h=>by simp only[Tu.go,Bt,EG] at h;refine .cons (λy hy=>?_) (Wi h.2);have:=h.1 y hy;simp only[bne_iff_ne,aGJ,So] at this;exact⟨this.1.1,this.1.2,this.2⟩
def sM{d:Option Nat}{U:Bx}{K:Bx->IT}{h:Ah}{R:Jb}(hr:IT.step (B2 C) run (iI d U K) h=some R):∃U',Lk d U U'/\IT.step (B2 C) run (K U') h=some R:=by
 unfold iI at hr;cases d with
 |none=>exact⟨U,rfl,hr⟩
 |some d=>
  simp only at hr;cases hx:U.at d with
  |val v=>
   rw[hx] at hr;simp only[IT.step] at hr;split at hr;.exact⟨U.set d (.Nj true),by simp only[Lk,hx];exact⟨true,rfl,rfl⟩,hr⟩
   .exact⟨U.set d (.Nj false),by simp only[Lk,hx];exact⟨false,rfl,rfl⟩,hr⟩
   .cases hr
  |_=>rw[hx] at hr;exact⟨U,by simp only[Lk,hx],hr⟩
def MR{i:Nat}{t:IT}{h:Ah}{R:Jb}:∀{fl:List Jc},IT.step (B2 C) run (PM an i fl t) h=some R->(∀f∈fl,D4 an f.idx i=false->Bq h f.n f.p=some f.v)/\IT.step (B2 C) run t h=some R
 |[],hr=>⟨Aw,hr⟩
 |f::fl,hr=>by
  unfold PM at hr;by_cases hb:D4 an f.idx i=true
  .rw[Ad hb] at hr;obtain⟨c,b⟩:=MR hr;refine⟨λg hg Î=>?_,b⟩;rcases Az.1 hg with rfl|hg
   .rw[hb] at Î;cases Î
   .exact c g hg Î
  .rw[Ac hb] at hr;simp only[IT.step] at hr;split at hr
   .rename_i v hv;split at hr
    .rename_i I8;obtain⟨c,b⟩:=MR hr;refine⟨λg hg Î=>?_,b⟩;rcases Az.1 hg with rfl|hg
     .rw[Aa.TT I8];exact hv
     .exact c g hg Î
    .cases hr
   .cases hr
def Pg{K:Bx->IT}{R:Jb}:∀{rest:List Nat} {b:List (Nat×FP)} {fl:List Jc} {U:Bx} {h:Ah},IT.step (B2 C) run (O5 C fid ops an rest b fl U K) h=some R->
  ∃L σf hf,Steps C fid ops run an fl L U h σf hf/\Tu ops.length an (b.reverse++L.map λs=>(s.idx,s.fp))=true/\IT.step (B2 C) run (K σf) hf=some R
 |[],b,fl,U,h,hr=>by
  unfold O5 at hr;split at hr;.rename_i Kh;exact⟨[],U,h,.nil,by simpa using Kh,hr⟩
  .cases hr
 |i::rest,b,fl,U,h,hr=>by
  unfold O5 at hr;cases ho:ops[i]? with
  |none=>rw[ho] at hr;cases hr
  |some o=>
   rw[ho] at hr;simp only at hr;split at hr
   .rename_i hg;split at hr;.cases hr
    .rename_i r hc;obtain⟨U1,h1,hd,hr⟩:=VX hr;have GH:(r.PE=true->∀f∈fl,D4 an f.idx i=false->Bq h1 f.n f.p=some f.v)/\IT.step (B2 C) run (iI (if PO ops i then o.dst else none) U1 λj=>O5 C fid ops an rest ((i,Ss C ops U o (some r))::b) (Lc i r U1 fl) j K) h1=some R:=by
      split at hr;.obtain⟨d,c⟩:=MR hr;exact⟨λ_=>d,c⟩
      .rename_i he;exact⟨λe=>absurd e he,hr⟩
     obtain⟨RP,hr⟩:=GH;obtain⟨U',ha,hr⟩:=sM hr;rw[TW] at hr;obtain⟨L,σf,hf,d,c,g⟩:=Pg hr;exact⟨{idx:=i,fp:=Ss C ops U o (some r),fl:=JE i r U1}::L,σf,hf,.cons ⟨o,ho,.inr ⟨r,U1,hg,hc,rfl,hd,rfl,ha⟩⟩ RP d,by simpa using c,g⟩
   .rename_i hg;obtain⟨L,σf,hf,d,c,g⟩:=Pg hr;exact⟨{idx:=i,fp:=Ss C ops U o none,fl:=none}::L,σf,hf,.cons ⟨o,ho,.inl ⟨hg,rfl,rfl,rfl,rfl⟩⟩ (λe=>by simp[Ss] at e) d,by simpa using c,g⟩
   .cases hr
end
section
variable{C:FC}{γ0 γ:Gh}{w0 w:World}{O:Nat->Nat}{U:Bx}{h:Ah}{a:Act}{fid:FuncId}
def Kq(hr:CH C γ0 w0 γ O U h a w){ops:Array Oper}{o:Oper}{b:Bool}(hg:Hy ops.toList U o= .LY b):Region.wanted o (yielded ops a.tmps)=b:=by
 unfold Hy at hg;unfold Region.wanted;cases ho:o.guard with
 |none=>rw[ho] at hg;cases hg;rfl
 |some g=>
  obtain⟨j,want⟩:=g;rw[ho] at hg;simp only[N_] at hg⊢;unfold yielded;cases hd:(ops[j]?).bind (·.dst) with
  |none=>rw[hd] at hg;cases hg
  |some s=>
   rw[hd] at hg;simp only[B5] at hg⊢;have h0:=hr.fr.Hd s;cases hx:U.at s with
   |Nj c=>
    rw[hx] at hg h0;cases hg;have hl:s<a.tmps.size:=by rw[<-hr.fr.size];exact Bx.Nu (by rw[hx];simp)
    have hv:a.tmps.getD s undef= .bool c:=h0;have:a.tmps[s]?=some (.bool c):=by rw[Cu hl];rw[Gl,Cu hl] at hv;exact Ca some hv
    rw[this];rfl
   |skip=>
    rw[hx] at hg h0;cases hg;have hv:a.tmps.getD s undef=undef:=h0;have hne:∀c,a.tmps[s]?≠some (.bool c):=λc hc=>by rw[Gl,hc] at hv;cases hv
    cases ht:a.tmps[s]? with
    |none=>rfl
    |some v=>
     cases v with
     |bool c=>exact absurd ht (hne c)
     |_=>rfl
   |val v=>rw[hx] at hg;cases hg
   |_=>rw[hx] at hg;cases hg
def CH.Ï(hr:CH C γ0 w0 γ O U h a w){d:Option Nat}{U':Bx}(ha:Lk d U U'):CH C γ0 w0 γ O U' h a w:=by
 unfold Lk at ha;cases d with
 |none=>simp only at ha;rw[ha];exact hr
 |some d=>
  simp only at ha;cases hx:U.at d with
  |val v=>rw[hx] at ha;obtain⟨b,rfl,rfl⟩:=ha;have h0:=hr.fr.Hd d;rw[hx] at h0;exact hr.YY h0
  |_=>rw[hx] at ha;rw[ha];exact hr
structure aBW(ops:Array Oper)(listed:Array Bool)(L:List St):Prop where
 size:listed.size=ops.size
 un:∀i,i<ops.size->(listed.getD i false=false↔i∈L.map (·.idx))
 closed:∀j,listed.getD j false=true->∀e,D4 (Ts ops.toList) e j=true->listed.getD e false=true
abbrev iU(an:List Nat)(L:List St):Prop:=L.Pairwise λx y=>x.idx≠y.idx/\D4 an y.idx x.idx=false/\(D4 an x.idx y.idx=true\/O4 x.fp y.fp=true)
def nG{run:IT->Ah->Option Jb}(x:EE C run){ops:Array Oper}{Q:Exit->Act->World->Prop}(Fh:Xd ops.toList=true){σf:Bx}{hf:Ah}(hQ:∀γ' g a' w',CH C γ0 w0 γ' g σf hf a' w'->Q .normal a' w'):
  ∀(fuel:Nat) (L:List St) (listed:Array Bool) (γ:Gh) (O:Nat->Nat) (U:Bx) (h:Ah) (a:Act) (w:World),L.length=fuel->Steps C fid ops.toList run (Ts ops.toList) [] L U h σf hf->iU (Ts ops.toList) L->aBW ops listed L->CH C γ0 w0 γ O U h a w->
   wpAny C.P .any ops Q fuel listed a w:=by
 intro fuel;induction fuel with
 |zero=>
  intro L listed γ O U h a w k hs hp ho hr;have n:L=[]:=CB k;subst n;cases hs;refine⟨gZ.2 λi hi=>?_,hQ _ _ _ _ hr⟩;obtain⟨h0,o,xZ,_⟩:=mem_ready.1 hi;have hlt:i<ops.size:=(AK.1 xZ).1;have m9:listed.getD i false=false:=by
   have hl:i<listed.size:=by rw[ho.size];exact hlt
   simpa[Array.getD,hl] using h0
  have:=(ho.un i hlt).1 m9;simp at this
 |succ fuel ih=>
  intro L listed γ O U h a w k hs hp ho hr;have Xp:∀i,i<ops.size->listed.getD i true=listed.getD i false:=λi hi=>by
   have hl:i<listed.size:=by rw[ho.size];exact hi
   simp[Array.getD,hl]
  constructor
  .intro RP;exfalso;cases L with
   |nil=>simp at k
   |cons s0 L=>
    obtain⟨o,xZ,_⟩:∃o,ops.toList[s0.idx]?=some o/\True:=by
     cases hs with
     |cons h1 _ _=>obtain⟨o,h2,_⟩:=h1;exact⟨o,h2,trivial⟩
    have dC:ops[s0.idx]?=some o:=by simpa using xZ
    have hlt:s0.idx<ops.size:=(AK.1 dC).1;have:s0.idx∈Region.ready .any ops listed:=by
     refine mem_ready.2 ⟨?_,o,dC,λe he hb=>?_⟩;.rw[Xp _ hlt];exact(ho.un _ hlt).2 Aw
     .have c:e.on∈Oper.Sr o:=B1.2 ⟨e,by simpa using he,by rw[Ad hb]⟩;have v:=ND Fh xZ e.on c;cases hl:listed.getD e.on false with
      |true=>rfl
      |false=>
       have hm:=(ho.un e.on Ab).1 hl;simp only[Bi,Az] at hm;rcases hm with hm|hm
       .omega
       .obtain⟨y,hy,l⟩:=AZ.1 hm;have:=((aEP.1 hp).1 y hy).2.1;rw[l,(Wh xZ (ND Fh xZ) e.on).2 ⟨e.on,c,.inl rfl⟩] at this;cases this
    rw[RP] at this;cases this
  .intro i hi;obtain⟨h0,o,xZ,Ð⟩:=mem_ready.1 hi;have hlt:i<ops.size:=(AK.1 xZ).1;rw[Xp i hlt] at h0;obtain⟨s,m,rfl⟩:=AZ.1 ((ho.un i hlt).1 h0);obtain⟨A,B,rfl⟩:=List.append_of_mem m;have dC:ops.toList[s.idx]?=some o:=by simpa using xZ
   have Ñ:∀e,D4 (Ts ops.toList) e s.idx=true->listed.getD e false=true:=λe he=>by
    obtain⟨d,hd,HL⟩:=(Wh dC (ND Fh dC) e).1 he;obtain⟨z,c,hb⟩:=B1.1 hd;split at hb
    .rename_i QX;cases hb;have nF:=Ð z (by simpa using c) QX;rcases HL with rfl|HL
     .exact nF
     .exact ho.closed _ nF e HL
    .cases hb
   have b:=(aAD.1 hp).2.2;have qm:∀p∈A++s::B,p.idx<ops.size:=λp pY=>by simpa using hs.lt p pY
   obtain⟨U1,h1,u,_,t⟩:=kh hs λp f=>by
    have hb:D4 (Ts ops.toList) p.idx s.idx=false:=by
     cases QX:D4 (Ts ops.toList) p.idx s.idx with
     |false=>rfl
     |true=>have h1:=Ñ _ QX;have h2:=(ho.un p.idx (qm p (by simp[f]))).2 (AZ.2 ⟨p,by simp[f],rfl⟩);rw[h1] at h2;cases h2
    refine⟨?_,hb⟩;have:=(b p f s Aw).2.2;rw[hb] at this;exact this.resolve_left Aw
   have ki:∀γ' g a' w',CH C γ0 w0 γ' g U1 h1 a' w'->wpAny C.P .any ops Q fuel (listed.setIfInBounds s.idx true) a' w':=λγ' g a' w' GH=>by
    refine ih (A++B) _ γ' g U1 h1 a' w' (by simp at k⊢;omega) (t.sub Aw) ?_ ⟨by simp[ho.size],λj hj=>?_,λj hj e he=>?_⟩ GH;.exact hp.sublist ((AF A).append (RE s B))
    .by_cases zr:j=s.idx
     .subst zr;have qo:s.idx∉(A++B).map (·.idx):=λhm=>by
       obtain⟨q,hq,he⟩:=AZ.1 hm;rcases Ak.1 hq with hq|hq
       .exact(b q hq s Aw).1 he
       .exact(aEP.1 (aAD.1 hp).2.1).1 q hq |>.1 he.symm
      have ht:(listed.setIfInBounds s.idx true).getD s.idx false=true:=by
       have hl:s.idx<listed.size:=by rw[ho.size];exact hlt
       simp[Array.getD,hl]
      rw[ht];exact⟨λe=>absurd e Aw,λe=>absurd e qo⟩
     .rw[getD_set_ne false (λe=>zr e.symm),ho.un j hj];simp only[BV,Bi,Ak,Az];constructor
      .rintro(e|e|e);.exact .inl e
       .exact absurd e zr
       .exact .inr e
      .rintro(e|e);.exact .inl e
       .exact .inr (.inr e)
    .by_cases zr:j=s.idx;.subst zr;exact getD_set_true (Ñ e he)
     .rw[getD_set_ne false (λe=>zr e.symm)] at hj;exact getD_set_true (ho.closed j hj e he)
   unfold wpOp;rw[xZ];obtain⟨o',xU,⟨hg,_,_,rfl,rfl⟩|⟨r,D,hg,hc,_,hd,_,ha⟩⟩:=u;.rw[dC] at xU;cases xU;simp only[Kq hr hg,Dk,E9];exact ki _ _ _ _ (hr.put λ_ _=>rfl)
   .rw[dC] at xU;cases xU;simp only[Kq hr hg,BH];exact .inl (sF x hc hd hr λγ' g a' w' GH=>ki γ' g a' w' (GH.Ï ha))
end
end Go.Am
end
end
