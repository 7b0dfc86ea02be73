/- Lemmas -/
import Derived.Test.YtbkijlifflhdiaaGreatDoorV5
import Derived.MapKept
set_option linter.all false
section
namespace Go.Am
open Go
section
variable{C:E7}{γ0 γ γ':Gh}{w0 w w':World}{Z:Nat->Nat}{U:Bq}{h:Ag}{a:Act}{fid:FuncId}{ops:List Oper}
def SW{s t:Aq}(h:s≠t):((⟨⟨s⟩⟩:ByteArray)==⟨⟨t⟩⟩)=false:=by
 refine Bool.eq_false_iff.2 λhc=>h ?_;have:=(MapKept.bytes_beq _ _).1 hc;injection this with this
 injection this with this
def Om(s:Aq):((⟨⟨s⟩⟩:ByteArray)==⟨⟨s⟩⟩)=true:=(MapKept.bytes_beq _ _).2 rfl
def Yt{s:Aq}:∀{es:List (Aa×Aa)} {l:List MapEntry} {i:Nat} {r:Option Aa},Je γ es l->So s es=some r->
  match r with
  |none=>Instr.findNow .string (.string ⟨⟨s⟩⟩) l i=some none
  |some v=>∃(j:Nat) (e:MapEntry),Instr.findNow .string (.string ⟨⟨s⟩⟩) l i=some (some (i+j,e.val))/\Bp γ v e.val
 |[],l,i,r,b,hf=>by rw[show l=[] from b];cases hf;rfl
 |(k,v)::es,l,i,r,b,hf=>by
  obtain⟨e,l',rfl,h1,h2,f⟩:=b;unfold So at hf;split at hf;.rename_i Hy;cases Hy
  .rename_i t v' Ry Hy;cases Hy;have hk:e.key= .string ⟨⟨t⟩⟩:=h1;split at hf;.rename_i Hz;subst Hz;cases hf;exact⟨0,e,by simp[Instr.findNow,hk,Instr.sameNow,Om],h2⟩
   .rename_i Hz;have ih:=Yt (i:=i+1) f hf;have hne:=SW Hz;cases r with
    |none=>simpa[Instr.findNow,hk,Instr.sameNow,hne] using ih
    |some v2=>obtain⟨j,g,d,c⟩:=ih;exact⟨j+1,g,by simp only[Instr.findNow,hk,Instr.sameNow,hne];rw[d];congr 3;omega,c⟩
  .cases hf
def gE{s:Aq}{v:Aa}{u:Value}(hv:Bp γ v u):∀{es Ry:List (Aa×Aa)} {l:List MapEntry} {i:Nat},Je γ es l->MD s v es=some Ry->
  (Instr.findNow .string (.string ⟨⟨s⟩⟩) l i=some none/\∀born,Je γ Ry (l++[{key:= .string ⟨⟨s⟩⟩,val:=u,born}]))\/
  ∃j e,Instr.findNow .string (.string ⟨⟨s⟩⟩) l i=some (some (i+j,e.val))/\l[j]?=some e/\e.key= .string ⟨⟨s⟩⟩/\Je γ Ry (l.modify j λe=>{e with key:= .string ⟨⟨s⟩⟩,val:=u})
 |[],Ry,l,i,d,hp=>by rw[show l=[] from d];cases hp;exact .inl ⟨rfl,λborn=>⟨_,[],rfl,rfl,hv,rfl⟩⟩
 |(k,v0)::es,Ry,l,i,d,hp=>by
  obtain⟨e,l',rfl,h1,h2,f⟩:=d;unfold MD at hp;split at hp;.rename_i Hy;cases Hy
  .rename_i t v' o Hy;cases Hy;have hk:e.key= .string ⟨⟨t⟩⟩:=h1;split at hp;.rename_i Hz;subst Hz;cases hp;exact .inr ⟨0,e,by simp[Instr.findNow,hk,Instr.sameNow,Om],rfl,hk,_,l',rfl,rfl,hv,f⟩
   .rename_i Hz;have hne:=SW Hz;cases hq:MD s v es with
    |none=>rw[hq] at hp;cases hp
    |some n=>
     rw[hq] at hp;cases hp;rcases gE hv (i:=i+1) f hq with⟨c,b⟩|⟨j,p,c,b,m,g⟩
     .exact .inl ⟨by simpa[Instr.findNow,hk,Instr.sameNow,hne] using c,λborn=>⟨e,_,rfl,h1,h2,b born⟩⟩
     .exact .inr ⟨j+1,p,by simp only[Instr.findNow,hk,Instr.sameNow,hne];rw[c];congr 3;omega,b,m,e,_,Au,h1,h2,g⟩
  .cases hp
def Qi{es:Array MapEntry}{clock:Nat}{k v:Value}(h:clock=es.size/\∀(i:Nat) (e:MapEntry),es[i]?=some e->e.born=i):
  clock+1=(es.push {key:=k,val:=v,born:=clock}).size/\∀(i:Nat) (e:MapEntry),(es.push {key:=k,val:=v,born:=clock})[i]?=some e->e.born=i:=by
 obtain⟨rfl,h⟩:=h;refine⟨Au,λi e he=>?_⟩;rw[Va] at he;split at he;.rename_i hi;cases he;exact hi.symm
 .exact h i e he
def Q0{es:Array MapEntry}{clock j:Nat}{f:MapEntry->MapEntry}(h:clock=es.size/\∀(i:Nat) (e:MapEntry),es[i]?=some e->e.born=i)(hf:∀e,(f e).born=e.born):
  clock=(es.modify j f).size/\∀(i:Nat) (e:MapEntry),(es.modify j f)[i]?=some e->e.born=i:=by
 refine⟨by simpa using h.1,λi e he=>?_⟩;rw[K6] at he;split at he
 .cases hx:es[i]? with
  |none=>rw[hx] at he;cases he
  |some x=>rw[hx] at he;cases he;rw[hf];exact h.2 i x hx
 .exact h.2 i e he
def LC(hi:Fg γ h w){g id:Nat}{es Ry:List (Aa×Aa)}(Pc:h[id]?=some (.map es))(hg:γ.mu id=some g){o:Obj}{ents':Array MapEntry}{clock':Nat}(hw:w.heap[g]?=some o)(hr:pQ γ Ry ents' clock'):
  Fg γ (h.set id (.map Ry)) {w with heap:=w.heap.setIfInBounds g (.map ents' clock')}/\IB γ w γ {w with heap:=w.heap.setIfInBounds g (.map ents' clock')}:=by
 obtain⟨k,p,P0⟩:=hi.Kd id _ Pc Au;rw[hg] at p;cases p;obtain⟨Lv,c⟩:=MapKept.heap_set (o':= .map ents' clock') hw;have uniq:∀EI x,h[EI]?=some x->x≠ .Ec->γ.mu EI=some g->EI=id:=λEI x hx kb hm=>by obtain⟨b',p,q⟩:=hi.Kd EI x hx kb;rw[hm] at p;cases p;rw[P0] at q;cases q;rfl
 constructor
 .refine⟨λb o v hb=>?_,λEI y Hm hy=>?_,λEI cs hc b hb=>?_,λEI e hc b hb=>?_,λEI b hb=>by simpa using hi.mu EI b hb,λb x hx=>?_,λb n hb=>?_⟩;rotate_left 5
  .obtain⟨⟨aI,i,pS,p,q⟩,r⟩:=hi.sz b n hb;have hne:b≠g:=λhe=>by subst he;obtain⟨f,d,j,_⟩:=hi.map id es Pc b hg;rw[p] at j;cases j
   exact⟨⟨aI,i,pS,by rw[c b hne];exact p,q⟩,r⟩
  .obtain⟨p,q,r⟩:=hi.GA b o v hb;have:b≠g:=λhe=>by subst he;rw[P0] at r;rcases r with r|⟨_,_,_,r,_⟩<;>cases r
   exact⟨by rw[BI (w:=w) (c b this)];exact p,q,r⟩
  .by_cases he:EI=id;.subst he;exact⟨g,hg,P0⟩
   .rw[Aj (λx=>he x.symm)] at Hm;exact hi.Kd EI y Hm hy
  .by_cases he:EI=id;.subst he;rw[AA (hi.mu _ _ hg)] at hc;cases hc
   .rw[Aj (λx=>he x.symm)] at hc;have O0:b≠g:=λhx=>by subst hx;exact he (uniq EI _ hc Au hb)
    obtain⟨aI,i,pS,p,pf,q,r⟩:=hi.cells EI cs hc b hb;exact⟨aI,i,pS,by rw[c b O0];exact p,pf,q,r⟩
  .by_cases he:EI=id;.subst he;rw[hg] at hb;cases hb;rw[AA (hi.mu _ _ hg)] at hc;cases hc;exact⟨ents',clock',Lv,hr⟩
   .rw[Aj (λx=>he x.symm)] at hc;have O0:b≠g:=λhx=>by subst hx;exact he (uniq EI _ hc Au hb)
    obtain⟨C3,clock,p,q⟩:=hi.map EI e hc b hb;exact⟨C3,clock,by rw[c b O0];exact p,q⟩
  .have:=hi.Bn b x hx;simpa using this
 .refine⟨.refl _,Au,rfl,rfl,rfl,λb hb hn=>⟨?_,rfl⟩⟩;exact c b (λhe=>by subst he;exact hn id P0)
def On(hr:Ct C γ0 w0 γ Z U h a w){x y z:Operand}{d c b:Aa}(ha:A0 C U [x,y,z]=some [d,c,b]):Bp γ d (a.eval x)/\Bp γ c (a.eval y)/\Bp γ b (a.eval z):=by obtain⟨_,_,_,e,h1,h2,f⟩:=(C4 hr ha).Vn;simp only[AZ,De,Ey,KB] at e;obtain⟨rfl,rfl,rfl⟩:=e;exact⟨h1,h2,f⟩
def Yu{o:Oper}{t kt e:TypeId}{m k x:Operand}{l n f:Aa}{h':Ag}(ho:o.op= .insert t m k x\/o.op= .mapUpdate t m k x)(hd:o.dst=none)(ht:C.P.underlying t=some (.map kt e))(hk:C.P.underlying kt=some .string)(ha:A0 C U [m,k,x]=some [l,n,f])
  (hm:QP h l n f=some h') (hr:Ct C γ0 w0 γ Z U h a w):EJ C γ0 w0 o a w U h':=by
 obtain⟨h1,h2,u⟩:=On hr ha;have KG:∀w',(Instr.mapUpdate t (a.eval m) (a.eval k) (a.eval x)).run C.P w= .ok () w'->(execOp a.eval o).run C.P w= .ok .skip w':=λw' Ay=>by rcases ho with ho|ho<;>simp[execOp,ho,Ay]
 unfold QP at hm;split at hm
 .rename_i id s;obtain⟨b,hb,lI⟩:=h1;have la:a.eval k= .string ⟨⟨s⟩⟩:=h2;split at hm
  .rename_i es Pc;cases hp:MD s f es with
   |none=>rw[hp] at hm;cases hm
   |some Ry=>
    rw[hp] at hm;cases hm;obtain⟨C3,clock,hw,r,hB⟩:=hr.Db.map id es Pc b hb;have lJ:(Instr.checkKey false 10000 kt (.string ⟨⟨s⟩⟩)).run C.P w= .ok () w:=MapKept.run_checkKey (k:= .string ⟨⟨s⟩⟩) hk (by simp[MapKept.IsKey]) false 9999;rcases gE u (i:=0) r hp with⟨c,g⟩|⟨j,v,c,g,q,p⟩
    .have Ay:(Instr.mapUpdate t (a.eval m) (a.eval k) (a.eval x)).run C.P w= .ok () {w with heap:=w.heap.setIfInBounds b (.map (C3.push {key:= .string ⟨⟨s⟩⟩,val:=a.eval x,born:=clock}) (clock+1))}:=by rw[lI,la];simp[Instr.mapUpdate,run_underlying ht,MapKept.run_getObj_map hw,lJ,MapKept.run_findKey hk c,MapKept.run_setObj_map _ hw,Result.andThen]
     obtain⟨hi,Im⟩:=LC (Ry:=Ry) (ents':=C3.push {key:= .string ⟨⟨s⟩⟩,val:=a.eval x,born:=clock}) (clock':=clock+1) hr.Db Pc hb hw ⟨by simpa using g clock,Qi hB⟩;exact EJ.skip (KG _ Ay) (by rw[hd];exact hr.world hi Im)
    .have hj:C3[j]?=some v:=by simpa using g
     rw[Bm] at c;have Ay:(Instr.mapUpdate t (a.eval m) (a.eval k) (a.eval x)).run C.P w= .ok () {w with heap:=w.heap.setIfInBounds b (.map (C3.modify j λe=>{e with key:= .string ⟨⟨s⟩⟩,val:=a.eval x}) clock)}:=by rw[lI,la];simp[Instr.mapUpdate,run_underlying ht,MapKept.run_getObj_map hw,lJ,MapKept.run_findKey hk c,hj,q,MapKept.run_keyThatStays (d:= .string) (k:= .string ⟨⟨s⟩⟩) (by simp[MapKept.IsKey]),MapKept.run_setObj_map _ hw,Result.andThen]
     obtain⟨hi,Im⟩:=LC (Ry:=Ry) (ents':=C3.modify j λe=>{e with key:= .string ⟨⟨s⟩⟩,val:=a.eval x}) (clock':=clock) hr.Db Pc hb hw ⟨by simpa using p,Q0 hB λ_=>rfl⟩;exact EJ.skip (KG _ Ay) (by rw[hd];exact hr.world hi Im)
  .cases hm
 .cases hm
def qJ{o:Oper}{t:TypeId}(ho:o.op= .makeMap t none)(hr:Ct C γ0 w0 γ Z U h a w):EJ C γ0 w0 o a w (U.put o.dst (.val (.map (some h.length)))) (h++[.map []]):=by
 obtain⟨hi,ha⟩:=L0 hr.Db (.map #[] 0) (.map []) none (.inr ⟨rfl,rfl,rfl⟩);have Ay:(Instr.makeMap t none).run C.P w= .ok (.map (some w.heap.size)) (w.alloc (.map #[] 0)):=by simp[Instr.makeMap]
 exact EJ.value (by simp only[execOp,ho];exact CN Ay) ((hr.world hi ha).put λ_ _=>⟨w.heap.size,by simp[Gh.BO],rfl⟩)
def I7(key elem:TypeId)(index:Value)(commaOk:Bool)(es:Array MapEntry):Sem Value:=do
 Instr.checkKey es.isEmpty 10000 key index
 let(v,ok)<-match<-Instr.findKey key index es.toList with
  |some (_,v)=>pure (v,true)
  |none=>pure (<-zeroValue elem,false)
 pure (if commaOk then .tuple #[v,.bool ok] else v)
def qK{o:Oper}{t kt e:TypeId}{m k:Operand}{c d z r:Aa}{ok:Bool}(ho:o.op= .lookup t m k ok)(ht:C.P.underlying t=some (.map kt e))(hk:C.P.underlying kt=some .string)(hz:Fy C.P e=some z)(ha:A0 C U [m,k]=some [c,d])(hm:QQ h z ok c d=some r)(hr:Ct C γ0 w0 γ Z U h a w):
  EJ C γ0 w0 o a w (U.put o.dst (.val r)) h:=by
 obtain⟨_,_,e0,h1,h2⟩:=D6 hr ha;cases e0;obtain⟨f,oP,lf⟩:=Gr hz;have II:∀(es:Array MapEntry) (q:Option Aa),(Instr.lookup t (a.eval m) (a.eval k) ok).run C.P w=(I7 kt e (a.eval k) ok es).run C.P w->
   ∀s,a.eval k= .string ⟨⟨s⟩⟩->(match q with|none=>Instr.findNow .string (.string ⟨⟨s⟩⟩) es.toList 0=some none|some v=>∃(j:Nat) (e:MapEntry),Instr.findNow .string (.string ⟨⟨s⟩⟩) es.toList 0=some (some (0+j,e.val))/\Bp γ v e.val)->
   (match q with|some v=>if ok then Aa.tuple [v,.bool true] else v|none=>if ok then .tuple [z,.bool false] else z)=r->EJ C γ0 w0 o a w (U.put o.dst (.val r)) h:=by
  intro es q Pc s qL hq QY;have lJ:(Instr.checkKey es.isEmpty 10000 kt (.string ⟨⟨s⟩⟩)).run C.P w= .ok () w:=MapKept.run_checkKey (k:= .string ⟨⟨s⟩⟩) hk (by simp[MapKept.IsKey]) es.isEmpty 9999;have Ay:∃v,(Instr.lookup t (a.eval m) (a.eval k) ok).run C.P w= .ok v w/\Bp γ r v:=by
   cases q with
   |none=>
    refine⟨if ok then .tuple #[f,.bool false] else f,?_,?_⟩;.rw[Pc,qL];unfold I7;simp only[Sem.run_bind,Result.andThen_ok,lJ,MapKept.run_findKey hk hq,lf,Sem.run_bind,Sem.run_pure]
    .rw[<-QY];have xm:=El (γ:=γ) oP;cases ok with
     |true=>exact⟨_,rfl,_,_,rfl,xm,_,_,rfl,rfl,rfl⟩
     |false=>exact xm
   |some v=>
    obtain⟨j,l,n,g⟩:=hq;refine⟨if ok then .tuple #[l.val,.bool true] else l.val,?_,?_⟩;.rw[Pc,qL];unfold I7;simp only[Sem.run_bind,Result.andThen_ok,lJ,MapKept.run_findKey hk n,Sem.run_bind,Sem.run_pure]
    .rw[<-QY];cases ok with
     |true=>exact⟨_,rfl,_,_,rfl,g,_,_,rfl,rfl,rfl⟩
     |false=>exact g
  obtain⟨v,Ay,gC⟩:=Ay;exact EJ.value (by simp only[execOp,ho];exact CN Ay) (hr.put λ_ _=>gC)
 unfold QQ at hm;cases hf:Sp h c d with
 |none=>rw[hf] at hm;cases hm
 |some q=>
  rw[hf] at hm;simp only[BM,Bv] at hm;unfold Sp at hf;split at hf;.rename_i s;cases hf;exact II #[] none (by rw[show a.eval m=_ from h1];simp only[Instr.lookup,I7,Sem.run_bind,run_underlying ht,Result.andThen_ok,Sem.run_pure];rfl) s h2 rfl hm
  .rename_i id s;obtain⟨b,hb,lI⟩:=h1;split at hf;.rename_i es Pc;obtain⟨C3,clock,hw,p,_⟩:=hr.Db.map id es Pc b hb;exact II C3 q (by rw[lI];simp only[Instr.lookup,I7,Sem.run_bind,run_underlying ht,MapKept.run_getObj_map hw,Result.andThen_ok,Sem.run_pure];rfl) s h2 (Yt (i:=0) p hf) hm
   .cases hf
  .cases hf
def SX{size:Nat}{v:Aa}(h:MK size v=true):v= .slnil\/v= .EV size\/v= .sl size []:=by
 unfold MK at h;split at h;.exact .inl rfl
 .exact .inr (.inl (by simpa using h))
 .exact .inr (.inr (by simpa using h))
 .cases h
def lK{o:Oper}{c:Call}{t t' e:TypeId}{n b:Nat}{s x:Operand}{v u r:Aa}{h':Ag}(ho:o.op= .call c)(hc:c.callee= .builtin .append)(h0:c.argTypes[0]?=some t)(h1:c.argTypes[1]?=some t')(DN:c.args.toList=[s,x])(ht:C.P.underlying t=some (.slice e))
  (HL:(∃E,C.P.underlying t'=some (.slice E))\/C.P.underlying t'=some .string) (hsz:BD C.P e=some (n+1)) (hby:Ig C.P e=some (b+1)) (hown:Jb C U s=true) (XY:Kc C.P e=true) (hv:A0 C U [s,x]=some [v,u])
  (hp:K9 h (n+1) (b+1) v u=some (h',r)) (hr:Ct C γ0 w0 γ Z U h a w):EJ C γ0 w0 o a w ((U.CU (CA U s)).put o.dst (.val r)) h':=by
 obtain⟨i,z,hi,hz,hzs⟩:=Jh XY;have NP:=HY hsz hi;have kx:=JU hby hi;obtain⟨_,_,e0,hvs,Z5⟩:=D6 hr hv;cases e0;have oO:DX C U s=some v:=by
  unfold A0 at hv;split at hv;.rename_i p ps G I;cases hv;exact G
  .cases hv
 have Hn:MK (n+1) v=true/\((∃An,Gf (n+1) (b+1) .slnil u=some (.sl (n+1) An)/\An≠[]/\u= .sl (n+1) An/\An.length*(b+1)<=AO/\h'=h++[.cells An.flatten]/\r= .CG h.length 0 An.length (n+1))\/((u= .slnil\/(∃y,u= .EV y)\/∃y,u= .sl y [])/\h'=h/\r=v)):=by
  unfold K9 at hp;split at hp
  .rename_i y An;split at hp
   .rename_i Qh;refine⟨Qh,?_⟩;split at hp;.cases hp;exact .inr ⟨.inr (.inr ⟨_,rfl⟩),rfl,rfl⟩
    .rename_i hne;split at hp
     .rename_i Gg;cases hp;obtain⟨rfl,hb⟩:=Gg;refine .inl ⟨An,?_,hne,rfl,hb,rfl,rfl⟩;cases An with
      |nil=>exact absurd rfl hne
      |cons q An=>simp only[Gf,CP,BB];rw[Ad hb]
     .cases hp
   .cases hp
  .split at hp;.rename_i Qh;cases hp;exact⟨Qh,.inr ⟨.inl rfl,rfl,rfl⟩⟩
   .cases hp
  .split at hp;.rename_i Qh;simp only[Bi] at Qh;cases hp;exact⟨Qh.1,.inr ⟨.inr (.inl ⟨_,rfl⟩),rfl,rfl⟩⟩
   .cases hp
  .cases hp
 obtain⟨Qh,Hn⟩:=Hn;obtain⟨D,DG,Ij,Gv,m⟩:=MT hr hown oO (U.CU (CA U s)).length none;have Hy:c.args.map a.eval=#[a.eval s,a.eval x]:=by apply Fe;simp[DN]
 have KG:∀v' w',(Builtin.append_ #[t,t'] o.type #[a.eval s,a.eval x]).run C.P w= .ok v' w'->(execOp a.eval o).run C.P w= .ok (.value v') w':=λv' w' Ay=>by
  have:execOp a.eval o=(do pure (Next.value (<-Builtin.append_ #[t,t'] o.type #[a.eval s,a.eval x]))):=by rw[<-Hy,<-L8 (ty:=o.type) h0 h1];simp only[execOp,ho,resolve,hc];rfl
  rw[this];exact CN Ay
 have gF:(a.eval s= .slice none 0 0/\v= .slnil)\/(∃g cap us e1,a.eval s= .slice (some ⟨g,0,none⟩) 0 cap/\v= .sl (n+1) []/\D.Bn g=some (.tail (U.CU (CA U s)).length none 0)/\w0.heap.size<=g/\w.heap[g]?=some (.cells us e1 (0,0))/\us.size=cap*(n+1)/\cap<=maxLen)\/∃g,a.eval s= .slice (some ⟨g,0,none⟩) 0 0/\v= .EV (n+1):=by
  rcases m with(m|⟨F,m⟩)|⟨g,k,cap,us,e1,F,rr,bD,HR,P0,hB,hg,Vi,xB,hm,H⟩
  .rw[m] at Gv;exact .inl ⟨Gv,m⟩
  .rcases SX Qh with gG|gG|gG
   .rw[gG] at m;cases m
   .rw[gG] at Gv;obtain⟨g,Gv⟩:=Gv;exact .inr (.inr ⟨g,Gv,gG⟩)
   .rw[gG] at m;cases m
  .rcases SX Qh with gG|gG|gG
   .rw[gG] at bD;cases bD
   .rw[gG] at bD;cases bD
   .rw[gG] at bD;cases bD;have hk:k=0:=by rw[gG,HR] at Gv;obtain⟨ň,f,Yr,_⟩:=Gv;simp only[Value.slice.injEq] at Yr;exact Yr.2.1
    subst hk;exact .inr (.inl ⟨g,cap,us,e1,HR,gG,by simpa using P0,hB,hg,Vi,hm⟩)
 rcases Hn with⟨An,HD,hne,A,P2,rfl,rfl⟩|⟨A,rfl,rfl⟩
 .obtain⟨d,news,MV,IC,ey,bA⟩:=gD (w:=w) HL hr.Db Z5 HD;have Yv:d=An:=by
   cases d with
   |nil=>simp[CP] at MV
   |cons q d=>
    simp only[CP] at MV;split at MV;.cases MV;rfl
    .cases MV
  subst Yv;have qD:=AK.mono DG _ _ ey;have Il:Src C.P i.size t' (a.eval x) d.length news w:=by rw[NP];exact IC
  have NQ:news.length=d.length*(n+1):=IC.newsLen;have HB:d.flatten.length=news.length:=by rw[ey.length]
  have hpos:0<d.length:=Fv.2 hne;have O0:d.length<=AO:=A5 (GY _ (Cn b)) P2;have FG:∀(base:Option Addr) (cap:Nat),a.eval s= .slice base 0 cap->(Builtin.firstCells i.size 0 (.slice base 0 cap)).run C.P w.drew= .ok #[] w.drew->cap<d.length->
    EJ C γ0 w0 o a w ((U.CU (CA U s)).put o.dst (.val (.CG h.length 0 d.length (n+1)))) (h++[.cells d.flatten]):=by
   intro base cap hs l hlt;have hgrow:=run_append_grow_src (P:=C.P) w t t' o.type e i z ht hi hz base 0 cap [] l (a.eval x) d.length news Il Ab (by simp only[AO] at O0;omega) (by rw[kx,Bm];exact growslice_fits hlt P2);rw[<-hs,Bm] at hgrow;have HK:=grownCap_ge w d.length cap e;have Q1:(([]++news).toArray++Builtin.zeroCells z.cells (grownCap w d.length cap e-d.length)).toList.take d.flatten.length=news:=by simp only[Fw,Bj];rw[HB];exact Ep
   have hsize:(([]++news).toArray++Builtin.zeroCells z.cells (grownCap w d.length cap e-d.length)).size=grownCap w d.length cap e*(n+1):=by simp only[Ia,Bl,size_zeroCells,hzs,NP,Bj,NQ,<-Bg];congr 1;omega
   obtain⟨B,Yp,SY,JT,RE⟩:=Ij.drew.newObj (([]++news).toArray++Builtin.zeroCells z.cells (grownCap w d.length cap e-d.length)) e (0,0) d.flatten (.inl rfl) (by rw[Q1];exact qD) (by rw[Q1];exact IC.one);exact EJ.value (KG _ _ hgrow) (JT.put λ_ _=>⟨w.heap.size,_,SY,rfl,HK,⟨Cn n,grownCap_le_maxLen w _ _ _ (by simp only[AO] at O0;simp only[maxLen];omega)⟩,by rw[Bm,<-hsize];exact RE⟩)
  rcases gF with⟨HR,rfl⟩|⟨g,cap,us,e1,HR,rfl,P0,hB,hg,Vi,oQ⟩|⟨g,HR,rfl⟩
  rotate_left 2;.exact FG (some ⟨g,0,none⟩) 0 HR (by simpa using run_firstCells_some (P:=C.P) w.drew i.size 0 ⟨g,0,none⟩ 0 0 [] Au Au) hpos
  .exact FG none 0 HR (run_firstCells_none _ _ _ _ _) hpos
  .by_cases hroom:d.length<=cap
   .have hfit:news.length<=us.size:=by rw[NQ,Vi];exact Dn _ hroom
    have Ay:=run_append_room_src (P:=C.P) w t t' o.type e i ht hi g 0 0 cap (a.eval x) d.length news Il Ab (λj hj=>by rw[cell_of_row w _ _ us e1 (0,0) hg,NP,Cj Ab];rfl) (λj hj=>frozen_of_row w _ _ us e1 hg)
    rw[KA,Bm,Bm,DM news 0 us w hg Ab,<-HR] at Ay;have Q1:((us.toList.take 0++news++us.toList.drop (0+news.length)).toArray).toList.take d.flatten.length=news:=by simp only[Uq,Bj];rw[HB];exact Ep
    obtain⟨B,Yp,SY,JT,RE⟩:=Ij.xl P0 hB hg (us.toList.take 0++news++us.toList.drop (0+news.length)).toArray d.flatten (by rw[Q1];exact qD) (by rw[Q1];exact IC.one);exact EJ.value (KG _ _ Ay) (JT.put λ_ _=>⟨g,cap,SY,rfl,hroom,⟨Cn n,oQ⟩,by rw[RE,Bm,<-Vi];simp;omega⟩)
   .exact FG (some ⟨g,0,none⟩) cap HR (by simpa using run_firstCells_some (P:=C.P) w.drew i.size 0 ⟨g,0,none⟩ 0 cap [] Au Au) Ab
 .have IC:Src C.P i.size t' (a.eval x) 0 [] w:=by
   rcases A with rfl|⟨y,rfl⟩|⟨y,rfl⟩
   .rw[show a.eval x=_ from Z5];exact⟨HL,λ_=>rfl,run_firstCells_none w _ 0 0 0,run_firstCells_none w.drew _ 0 0 0,Au,Au⟩
   .obtain⟨g0,Yr⟩:=Z5;rw[Yr];exact⟨HL,λ_=>rfl,by simpa using run_firstCells_some (P:=C.P) w i.size 0 ⟨g0,0,none⟩ 0 0 [] Au Au,by simpa using run_firstCells_some (P:=C.P) w.drew i.size 0 ⟨g0,0,none⟩ 0 0 [] Au Au,Au,Au⟩
   .obtain⟨ň,f,Yr,_⟩:=Z5;rw[Yr];exact⟨HL,λ_=>rfl,by simpa using run_firstCells_some (P:=C.P) w i.size 0 ň 0 f [] Au Au,by simpa using run_firstCells_some (P:=C.P) w.drew i.size 0 ň 0 f [] Au Au,Au,Au⟩
  rcases gF with⟨HR,rfl⟩|⟨g,cap,us,e1,HR,rfl,P0,hB,hg,Vi,oQ⟩|⟨g,HR,rfl⟩
  rotate_left 2;.have Ay:=run_append_room_src (P:=C.P) w t t' o.type e i ht hi g 0 0 0 (a.eval x) 0 [] IC Ab Au Au;rw[<-HR] at Ay;simp only[World.setCells] at Ay;exact EJ.value (KG _ _ Ay) (Ij.put λ_ _=>Gv)
  .have Ay:(Builtin.append_ #[t,t'] o.type #[a.eval s,a.eval x]).run C.P w= .ok (.slice none 0 0) w:=by rw[HR];have hl:=IC.len;have QZ:=IC.cells;rcases HL with⟨E,hk⟩|hk<;>simp[Builtin.append_,run_underlying ht,run_underlying hk,sizeOf,typeInfo,hi,hl,QZ]
   exact EJ.value (KG _ _ Ay) (Ij.put λ_ _=>rfl)
  .have Ay:=run_append_room_src (P:=C.P) w t t' o.type e i ht hi g 0 0 cap (a.eval x) 0 [] IC Ab Au Au;rw[<-HR] at Ay;simp only[World.setCells] at Ay;exact EJ.value (KG _ _ Ay) (Ij.put λ_ _=>Gv)
def Ct.kill(hr:Ct C γ0 w0 γ Z U h a w)(id:Nat):Ct C γ0 w0 γ Z U (h.set id .Ec) a w:=by
 have key:∀{EI:Nat} {x:FF},(h.set id .Ec)[EI]?=some x->x≠ .Ec->h[EI]?=some x:=λ{EI x} hx hd=>by
  by_cases he:id=EI
  .subst he;rw[aEX] at hx;simp only[BB] at hx;split at hx;.cases hx;exact absurd rfl hd
   .cases hx
  .rwa [Aj he] at hx
 exact⟨⟨hr.Db.GA,λEI y Hm hy=>hr.Db.Kd EI y (key Hm hy) hy,λEI cs hc b hb=>hr.Db.cells EI cs (key hc Au) b hb,λEI es hc b hb=>hr.Db.map EI es (key hc Au) b hb,λEI b hb=>by simpa using hr.Db.mu EI b hb,hr.Db.Bn,hr.Db.sz⟩,hr.fr,hr.C2,hr.defers,hr.Fl⟩
def Ct.qM(hr:Ct C γ0 w0 γ Z U h a w){id g:Nat}{cs:List Aa}(hcs:h[id]?=some (.cells cs))(hg:γ.mu id=some g){us:Array Value}{e:TypeId}{fr:Nat×Nat}(hw:w.heap[g]?=some (.cells us e fr))(RF:γ.sz g=some us.size)(CS:Array Value)(Fx:List Aa)(Vi:CS.size=us.size)(fY:Qb fr CS.size)
  (hv:AK γ Fx (CS.toList.take Fx.length)) (h1:∀u∈CS.toList.take Fx.length,u.oneCell'=true):∃γ',γ.le γ'/\γ'.mu h.length=some g/\Ct C γ0 w0 γ' Z U (h.set id .Ec++[.cells Fx]) a (w.setRow g CS)/\γ'.sz g=some us.size:=by
 obtain⟨d,p,P0⟩:=hr.Db.Kd id _ hcs Au;rw[hg] at p;cases p;have xH:id<h.length:=hr.Db.mu _ _ hg;have xg:γ.mu h.length=none:=by
  cases hc:γ.mu h.length with
  |none=>rfl
  |some y=>exact absurd (hr.Db.mu _ y hc) (CL _)
 have uniq:∀EI x,h[EI]?=some x->x≠ .Ec->γ.mu EI=some g->EI=id:=λEI x hx kb hm=>by obtain⟨b',p,q⟩:=hr.Db.Kd EI x hx kb;rw[hm] at p;cases p;rw[P0] at q;cases q;rfl
 have DG:γ.le (γ.BO g h.length (some us.size)):=⟨λ_ _ _ hv=>hv,λEI b hm=>by
  have:EI≠h.length:=λhe=>by rw[he,xg] at hm;cases hm
  simp only[Gh.BO,Ac this];exact hm,λb n hm=>by
  by_cases he:b=g;.subst he;rw[RF] at hm;cases hm;simp[Gh.BO]
  .simp only[Gh.BO,Ac he];exact hm⟩
 have old:∀{EI:Nat} {x:FF},(h.set id .Ec++[FF.cells Fx])[EI]?=some x->x≠ .Ec->EI≠h.length->h[EI]?=some x/\EI≠id:=λ{EI x} hx hd hne=>by
  have hlt:EI<(h.set id .Ec).length:=by rw[Ae] at hx;obtain⟨hl,_⟩:=hx;simp at hl⊢;omega
  rw[Ai hlt] at hx;by_cases he:id=EI;.subst he;rw[AA (by simpa using hlt)] at hx;cases hx;exact absurd rfl hd
  .rw[Aj he] at hx;exact⟨hx,λh=>he h.symm⟩
 have aAn:Fg (γ.BO g h.length (some us.size)) (h.set id .Ec++[.cells Fx]) (w.setRow g CS):=by
  refine⟨λb o v hb=>?_,λEI y Hm hy=>?_,λEI Pd hc b hb=>?_,λEI es hc b hb=>?_,λEI b hb=>?_,λb y hy=>?_,λb n hb=>?_⟩
  .obtain⟨p,q,r⟩:=hr.Db.GA b o v hb;have LZ:b≠g:=λhe=>by subst he;rw[P0] at r;rcases r with r|⟨_,_,_,r,_⟩<;>cases r
   exact⟨by rw[BI (setRow_other w g b CS LZ)];exact p,q,by simp only[Gh.BO,Ac LZ];exact r⟩
  .by_cases he:EI=h.length;.exact⟨g,by simp[Gh.BO,he],by simp[Gh.BO,he]⟩
   .obtain⟨lL,hne⟩:=old Hm hy he;obtain⟨b,p,q⟩:=hr.Db.Kd EI y lL hy;have LZ:b≠g:=λhx=>by subst hx;exact hne (uniq EI y lL hy p)
    exact⟨b,by simp only[Gh.BO,Ac he];exact p,by simp only[Gh.BO,Ac LZ];exact q⟩
  .by_cases he:EI=h.length;.subst he;simp[Gh.BO] at hb;subst hb;rw[BG Au] at hc;simp at hc;subst hc;exact⟨CS,e,fr,setRow_heap w g us CS e fr hw,fY,AK.mono DG _ _ hv,h1⟩
   .simp only[Gh.BO,Ac he] at hb;obtain⟨Jr,hne⟩:=old hc Au he;have LZ:b≠g:=λhx=>by subst hx;exact hne (uniq EI _ Jr Au hb)
    obtain⟨aI,c,pS,p,pf,q,r⟩:=hr.Db.cells EI Pd Jr b hb;exact⟨aI,c,pS,by rw[setRow_other w g b CS LZ];exact p,pf,AK.mono DG _ _ q,r⟩
  .by_cases he:EI=h.length;.subst he;rw[BG Au] at hc;simp at hc
   .simp only[Gh.BO,Ac he] at hb;obtain⟨Jr,hne⟩:=old hc Au he;have LZ:b≠g:=λhx=>by subst hx;exact hne (uniq EI _ Jr Au hb)
    obtain⟨C3,clock,p,q⟩:=hr.Db.map EI es Jr b hb;exact⟨C3,clock,by rw[setRow_other w g b CS LZ];exact p,q.mono DG⟩
  .by_cases he:EI=h.length;.simp[he]
   .simp only[Gh.BO,Ac he] at hb;have:=hr.Db.mu EI b hb;simp;omega
  .by_cases LZ:b=g;.subst LZ;have:=hr.Db.Bn _ _ P0;simpa[World.setRow] using this
   .simp only[Gh.BO,Ac LZ] at hy;have:=hr.Db.Bn b y hy;simpa[World.setRow] using this
  .by_cases he:b=g;.subst he;simp only[Gh.BO,BB] at hb;cases hb;exact⟨⟨CS,e,fr,setRow_heap w b us CS e fr hw,Vi⟩,.inr ⟨h.length,by simp[Gh.BO]⟩⟩
   .simp only[Gh.BO,Ac he] at hb⊢;obtain⟨p,r⟩:=hr.Db.sz b n hb;exact⟨by rw[setRow_other w g b CS he];exact p,r⟩
 refine⟨_,DG,by simp[Gh.BO],hr.world aAn ⟨DG,by simp[World.setRow],rfl,rfl,rfl,λb hb hn=>?_⟩,by simp[Gh.BO]⟩;have LZ:b≠g:=λhe=>by subst he;exact hn id P0
 exact⟨setRow_other w g b CS LZ,by simp only[Gh.BO,Ac LZ]⟩
def qN{o:Oper}{c:Call}{t t' e:TypeId}{n b:Nat}{s x:Operand}{v u r:Aa}{h':Ag}(ho:o.op= .call c)(hc:c.callee= .builtin .append)(h0:c.argTypes[0]?=some t)(h1:c.argTypes[1]?=some t')(DN:c.args.toList=[s,x])(ht:C.P.underlying t=some (.slice e))
  (HL:(∃J,C.P.underlying t'=some (.slice J))\/C.P.underlying t'=some .string) (hsz:BD C.P e=some (n+1)) (hby:Ig C.P e=some (b+1)) (XY:Kc C.P e=true) (hv:A0 C U [s,x]=some [v,u])
  (hp:hgrow h (n+1) (b+1) v u=some (h',r)) (hr:Ct C γ0 w0 γ Z U h a w):EJ C γ0 w0 o a w (U.put o.dst (.val r)) h':=by
 obtain⟨i,z,hi,hz,hzs⟩:=Jh XY;have NP:=HY hsz hi;have kx:=JU hby hi;obtain⟨_,_,e0,hvs,Z5⟩:=D6 hr hv;cases e0;have Hy:c.args.map a.eval=#[a.eval s,a.eval x]:=by apply Fe;simp[DN]
 have KG:∀v' w',(Builtin.append_ #[t,t'] o.type #[a.eval s,a.eval x]).run C.P w= .ok v' w'->(execOp a.eval o).run C.P w= .ok (.value v') w':=λv' w' Ay=>by
  have:execOp a.eval o=(do pure (Next.value (<-Builtin.append_ #[t,t'] o.type #[a.eval s,a.eval x]))):=by rw[<-Hy,<-L8 (ty:=o.type) h0 h1];simp only[execOp,ho,resolve,hc];rfl
  rw[this];exact CN Ay
 unfold hgrow at hp;cases hq:Gt h (n+1) u with
 |none=>rw[hq] at hp;cases hp
 |some An=>
  rw[hq] at hp;obtain⟨news,IC,Qh,bA⟩:=SS (w:=w) HL hr.Db Z5 hq;have Il:Src C.P i.size t' (a.eval x) An.length news w:=by rw[NP];exact IC
  have NQ:news.length=An.length*(n+1):=IC.newsLen;have HB:An.flatten.length=news.length:=by rw[Qh.length]
  cases An with
  |nil=>
   have pU:news=[]:=Cq (by simpa using NQ);subst pU;cases v with
   |slnil=>
    cases hp;have HR:a.eval s= .slice none 0 0:=hvs;have Ay:(Builtin.append_ #[t,t'] o.type #[a.eval s,a.eval x]).run C.P w= .ok (.slice none 0 0) w:=by rw[HR];have hl:=Il.len;have QZ:=Il.cells;simp only[Bd] at hl QZ;rcases HL with⟨J,hk⟩|hk<;>simp[Builtin.append_,run_underlying ht,run_underlying hk,sizeOf,typeInfo,hi,hl,QZ]
    exact EJ.value (KG _ _ Ay) (hr.put λ_ _=>rfl)
   |EV E=>
    simp only at hp;split at hp;.cases hp;obtain⟨g,HR⟩:=(show Bp γ _ _ from hvs);have Ay:=run_append_room_src (P:=C.P) w t t' o.type e i ht hi g 0 0 0 (a.eval x) 0 [] Il Ab Au Au;rw[<-HR] at Ay;simp only[World.setCells,A9] at Ay;exact EJ.value (KG _ _ Ay) (hr.put λ_ _=>⟨g,HR⟩)
    .cases hp
   |CG id off k E=>
    simp only at hp;split at hp;.cases hp;obtain⟨g,cap,hg,HR,xB,lE,RF⟩:=(show Bp γ _ _ from hvs);have Ay:=run_append_room_src (P:=C.P) w t t' o.type e i ht hi g off k cap (a.eval x) 0 [] Il Ab Au Au;rw[<-HR] at Ay;simp only[World.setCells,A9] at Ay;exact EJ.value (KG _ _ Ay) (hr.put λ_ _=>⟨g,cap,hg,rfl,xB,lE,RF⟩)
    .cases hp
   |_=>cases hp
  |cons K l=>
   generalize hR:K::l=An at*;have hpos:0<An.length:=by rw[<-hR];simp
   have d:∀(h2:Ag) (base:Option Addr) (k cap:Nat) (Gi:List Aa) (olds:List Value),Ct C γ0 w0 γ Z U h2 a w->a.eval s= .slice base k cap->AK γ Gi olds->olds.length=k*(n+1)->(∀q∈olds,q.oneCell'=true)->
     (Builtin.firstCells i.size k (.slice base k cap)).run C.P w.drew= .ok olds.toArray w.drew->cap<k+An.length->(k+An.length)*(b+1)<=AO->
     EJ C γ0 w0 o a w (U.put o.dst (.val (.CG h2.length 0 (k+An.length) (n+1)))) (h2++[.cells (Gi++An.flatten)]):=by
    intro h2 base k cap Gi olds JT hs qO xA kh f hlt P2;have O0:k+An.length<=AO:=A5 (GY _ (Cn b)) P2;have hgrow:=run_append_grow_src (P:=C.P) w t t' o.type e i z ht hi hz base k cap olds f (a.eval x) An.length news Il hlt (by simp only[AO] at O0;omega) (by rw[kx];exact growslice_fits hlt P2);rw[<-hs] at hgrow;have HK:=grownCap_ge w (k+An.length) cap e;have lF:(olds++news).length=(k+An.length)*(n+1):=by rw[Ao,xA,NQ,Bg]
    have kX:(Gi++An.flatten).length=(olds++news).length:=by rw[Ao,Ao,qO.length,HB]
    have hsize:((olds++news).toArray++Builtin.zeroCells z.cells (grownCap w (k+An.length) cap e-(k+An.length))).size=grownCap w (k+An.length) cap e*(n+1):=by simp only[Ia,Bl,size_zeroCells,hzs,NP,lF,<-Bg];congr 1;omega
    have Q1:((olds++news).toArray++Builtin.zeroCells z.cells (grownCap w (k+An.length) cap e-(k+An.length))).toList.take (Gi++An.flatten).length=olds++news:=by simp only[Fw];rw[kX];exact Ep
    obtain⟨D,Yp,SY,xk,RE⟩:=JT.drew.newObj ((olds++news).toArray++Builtin.zeroCells z.cells (grownCap w (k+An.length) cap e-(k+An.length))) e (0,0) (Gi++An.flatten) (.inl rfl) (by rw[Q1];exact qO.append Qh) (by rw[Q1];intro q hq;exact(Al.1 hq).elim (kh q) (IC.one q))
    exact EJ.value (KG _ _ hgrow) (xk.put λ_ _=>⟨w.heap.size,_,SY,rfl,HK,⟨Cn n,grownCap_le_maxLen w _ _ _ (by simp only[AO] at O0;simp only[maxLen];omega)⟩,by rw[Bm,<-hsize];exact RE⟩)
   cases v with
   |slnil=>
    have HR:a.eval s= .slice none 0 0:=hvs;rw[<-hR] at hp;simp only at hp;rw[hR] at hp;split at hp;.rename_i P2;cases hp;have:=d h none 0 0 [] [] hr HR rfl Au Au (run_firstCells_none _ _ _ _ _) Ab (by simpa using P2);simpa using this
    .cases hp
   |EV E=>
    obtain⟨g,HR⟩:=(show Bp γ _ _ from hvs);rw[<-hR] at hp;simp only at hp;rw[hR] at hp;split at hp;.rename_i P2;cases hp;have:=d h (some ⟨g,0,none⟩) 0 0 [] [] hr HR rfl Au Au (by simpa using run_firstCells_some (P:=C.P) w.drew i.size 0 ⟨g,0,none⟩ 0 0 [] Au Au) Ab (by simpa using P2.2);simpa using this
    .cases hp
   |CG id off k E=>
    rw[<-hR] at hp;simp only at hp;rw[hR] at hp;split at hp
    .rename_i cs hcs;split at hp
     .rename_i G;subst G;obtain⟨g,cap,hg,HR,xB,lE,RF⟩:=(show Bp γ _ _ from hvs);obtain⟨us,e1,fr,m,pf,B,A⟩:=hr.Db.cells id cs hcs g hg;obtain⟨⟨oM,N,M,H,F⟩,_⟩:=hr.Db.sz g _ RF;rw[m] at H;cases H;have oN:cs.length<=us.size:=by have:=B.length;simp at this;omega
      have LA:∀j,(⟨g,off,none⟩:Addr).add j=⟨g,off+j,none⟩:=λj=>by unfold Addr.add;split<;>simp_all
      have p:∀o,o<us.size->w.frozen? ⟨g,o,none⟩=false:=λo ho=>by
       simp only[World.frozen?,m];rcases pf with rfl|fY
       .simp
       .simp;omega
      have room:k+An.length<=cap->(Builtin.append_ #[t,t'] o.type #[a.eval s,a.eval x]).run C.P w= .ok (.slice (some ⟨g,off,none⟩) (k+An.length) cap) (w.setRow g (us.toList.take (off+k*(n+1))++news++us.toList.drop (off+k*(n+1)+news.length)).toArray)/\off+k*(n+1)+news.length<=us.size:=by
       intro hroom;have hfit:off+k*(n+1)+news.length<=us.size:=by rw[NQ,F,ON,<-Bg];exact Nat.add_le_add_left (Dn _ hroom) _
       have Ay:=run_append_room_src (P:=C.P) w t t' o.type e i ht hi g off k cap (a.eval x) An.length news Il hroom (λj hj=>by rw[cell_of_row w _ _ us e1 fr m,NP,Cj Ab];rfl) (λj hj=>by rw[NP];exact p _ Ab)
       rw[NP,DM news _ us w m hfit,<-HR] at Ay;exact⟨Ay,hfit⟩
      have XW:(k+An.length)*(n+1)=k*(n+1)+An.length*(n+1):=Bg _ _ _;split at hp
      .rename_i R5;cases hp;have hroom:k+An.length<=cap:=by have L:(k+An.length)*(n+1)<=cap*(n+1):=Ab;exact Nat.le_of_mul_le_mul_right L (Cn n)
       obtain⟨Ay,hfit⟩:=room hroom;have I:off+(k+An.length)*(n+1)=off+k*(n+1)+news.length:=by rw[NQ,XW];omega
       have hcl:(cs.take (off+k*(n+1))++An.flatten++cs.drop (off+(k+An.length)*(n+1))).length=cs.length:=by rw[I,Ao,Ao,Av,AW,HB];omega
       have Q1:((us.toList.take (off+k*(n+1))++news++us.toList.drop (off+k*(n+1)+news.length)).toArray).toList.take (cs.take (off+k*(n+1))++An.flatten++cs.drop (off+(k+An.length)*(n+1))).length=
         (us.toList.take cs.length).take (off+k*(n+1))++news++(us.toList.take cs.length).drop (off+k*(n+1)+news.length):=by
        rw[hcl];simp only[I1];exact KQ (by simpa using oN) Ab rfl
       obtain⟨NR,KI⟩:=Lu hr.Db hcs hg m (us.toList.take (off+k*(n+1))++news++us.toList.drop (off+k*(n+1)+news.length)).toArray (cs.take (off+k*(n+1))++An.flatten++cs.drop (off+(k+An.length)*(n+1)))
        (by simp only[Bl,Ao,Av,AW,BQ];omega)
        (by
         rcases pf with rfl|pf
         .exact .inl rfl
         .refine .inr (A5 (Kz ?_) pf);simp only[Bl,Ao,Av,AW,BQ];omega)
        (by rw[Q1,I];exact L6 B Qh)
        (by
         rw[Q1];intro q hq;rcases Al.1 hq with hq|hq
         .rcases Al.1 hq with hq|hq
          .exact A q (AN hq)
          .exact IC.one q hq
         .exact A q (A7 hq))
       exact EJ.value (KG _ _ Ay) ((hr.world NR KI).put λ_ _=>⟨g,cap,hg,rfl,hroom,lE,RF⟩)
      .rename_i aFl;split at hp
       .rename_i Gg;obtain⟨rfl,Vo,P2⟩:=Gg;cases hp;simp only[Bm] at*;by_cases hroom:k+An.length<=cap
        .obtain⟨Ay,hfit⟩:=room hroom;have kX:(cs.take (k*(n+1))++An.flatten).length=k*(n+1)+news.length:=by rw[Ao,Av,HB];omega
         have Q1:((us.toList.take (k*(n+1))++news++us.toList.drop (k*(n+1)+news.length)).toArray).toList.take (cs.take (k*(n+1))++An.flatten).length=(us.toList.take cs.length).take (k*(n+1))++news:=by
          rw[kX];simp only[I1];have:(us.toList.take (k*(n+1))++news).length=k*(n+1)+news.length:=by rw[Ao,Av,BQ];omega
          rw[<-this,Ep,FZ,Cg Vo]
         obtain⟨D,Yp,SY,JT,RE⟩:=hr.qM hcs hg m (by rw[RF,F]) (us.toList.take (k*(n+1))++news++us.toList.drop (k*(n+1)+news.length)).toArray (cs.take (k*(n+1))++An.flatten)
          (by simp only[Bl,Ao,Av,AW,BQ];omega)
          (by
           rcases pf with rfl|pf
           .exact .inl rfl
           .refine .inr (A5 (Kz ?_) pf);simp only[Bl,Ao,Av,AW,BQ];omega)
          (by rw[Q1];exact(B.take _).append Qh)
          (by
           rw[Q1];intro q hq;rcases Al.1 hq with hq|hq
           .exact A q (AN hq)
           .exact IC.one q hq)
         exact EJ.value (KG _ _ Ay) (JT.put λ_ _=>⟨g,cap,SY,rfl,hroom,lE,by rw[RE,F];simp⟩)
        .have xA:((us.toList.take cs.length).take (k*(n+1))).length=k*(n+1):=D5;have:=d (h.set id .Ec) (some ⟨g,0,none⟩) k cap (cs.take (k*(n+1))) ((us.toList.take cs.length).take (k*(n+1))) (hr.kill id) HR (B.take _) xA (λq hq=>A q (AN hq))
          (by
           rw[NP];exact run_firstCells_some w.drew _ _ _ _ _ _ xA (λj y hj=>by
            rw[LA];show w.cell? _=_;rw[cell_of_row w _ _ us e1 fr m];rw[BV] at hj;split at hj
            .rw[BV] at hj;split at hj;.simpa using hj
             .cases hj
            .cases hj)) Ab P2
         simpa using this
       .cases hp
     .cases hp
    .cases hp
   |_=>rw[<-hR] at hp;cases hp
def Yw(hi:Fg γ h w){id g off:Nat}{cs b:List Aa}{news:List Value}(hcs:h[id]?=some (.cells cs))(hg:γ.mu id=some g)(hv:AK γ b news)(h1:∀u∈news,u.oneCell'=true)(hl:off+b.length<=cs.length):
  ∃w',(storeCells ⟨g,off,none⟩ news).run C.P w= .ok () w'/\Fg γ (h.set id (.cells (cs.take off++b++cs.drop (off+b.length)))) w'/\IB γ w γ w':=by
 obtain⟨us,e,fr,hw,pf,d,c⟩:=hi.cells id cs hcs g hg;have NQ:news.length=b.length:=hv.length;have hlt:cs.length<=us.size:=by have:=d.length;simp at this;omega
 have hs:=run_storeCells_cells (P:=C.P) g off news 0 w (λj hj=>by
  rw[cell_of_row w _ _ us e fr hw,A9,Cj Ab];rfl) (λj hj=>by
  simp only[World.frozen?,hw];rcases pf with rfl|fY
  .simp
  .simp;omega) h1
 rw[A9,DM _ off us w hw Ab] at hs;have hcl:(cs.take off++b++cs.drop (off+b.length)).length=cs.length:=D5;have Q1:((us.toList.take off++news++us.toList.drop (off+news.length)).toArray).toList.take (cs.take off++b++cs.drop (off+b.length)).length=(us.toList.take cs.length).take off++news++(us.toList.take cs.length).drop (off+news.length):=by rw[hcl];simp only[I1];exact KQ (by simpa using hlt) Ab rfl
 obtain⟨lM,ha⟩:=Lu hi hcs hg hw (us.toList.take off++news++us.toList.drop (off+news.length)).toArray (cs.take off++b++cs.drop (off+b.length))
  (by simp only[Bl,Ao,Av,AW,BQ];omega)
  (by
   rcases pf with rfl|pf
   .exact .inl rfl
   .refine .inr (A5 (Kz ?_) pf);simp only[Bl,Ao,Av,AW,BQ];omega)
  (by rw[Q1,NQ];exact L6 d hv)
  (by
   rw[Q1];intro q hq;rcases Al.1 hq with hq|hq
   .rcases Al.1 hq with hq|hq
    .exact c q (AN hq)
    .exact h1 q hq
   .exact c q (A7 hq))
 exact⟨_,hs,lM,ha⟩
def bE{t t' ty:TypeId}{ts:Array TypeId}{xs:Array Value}(h0:ts[0]?=some t)(h1:ts[1]?=some t'):Builtin.copy_ ts ty xs=Builtin.copy_ #[t,t'] ty xs:=by simp only[Builtin.copy_,h0];rfl
def Yx{P:Program}{t t' ty e:TypeId}{i:TypeInfo}(ht:P.underlying t=some (.slice e))(hi:P.info? e=some i){x:Value}{n:Nat}{news:List Value}(hs:Src P i.size t' x n news w){base:Option Addr}{k cap:Nat}(hk:n<=k)
  (Hz:∀ad,base=some ad->(storeCells ad news).run P w= .ok () w') (X0:base=none->w'=w):(Builtin.copy_ #[t,t'] ty #[.slice base k cap,x]).run P w= .ok (.int .i64 n) w':=by
 have hl:=hs.len w;have hc:=hs.cells;have hm:Nat.min n k=n:=Cg hk;cases base with
 |none=>cases X0 rfl;simp[Builtin.copy_,run_underlying ht,hl,hc,sizeOf,typeInfo,hi,hm,goInt]
 |some ad=>have h2:=Hz ad rfl;simp[Builtin.copy_,run_underlying ht,hl,hc,sizeOf,typeInfo,hi,hm,goInt,h2]
def qP{o:Oper}{c:Call}{t t' e:TypeId}{n:Nat}{s x:Operand}{v u r:Aa}{h':Ag}(ho:o.op= .call c)(hc:c.callee= .builtin .copy)(h0:c.argTypes[0]?=some t)(h1:c.argTypes[1]?=some t')(DN:c.args.toList=[s,x])(ht:C.P.underlying t=some (.slice e))
  (HL:(∃d,C.P.underlying t'=some (.slice d))\/C.P.underlying t'=some .string) (hsz:BD C.P e=some (n+1)) (hv:A0 C U [s,x]=some [v,u])
  (hp:pE h (n+1) v u=some (h',r)) (hr:Ct C γ0 w0 γ Z U h a w):EJ C γ0 w0 o a w (U.put o.dst (.val r)) h':=by
 obtain⟨_,_,e0,hvs,Z5⟩:=D6 hr hv;cases e0;have Hy:c.args.map a.eval=#[a.eval s,a.eval x]:=by apply Fe;simp[DN]
 have KG:∀v' w',(Builtin.copy_ #[t,t'] o.type #[a.eval s,a.eval x]).run C.P w= .ok v' w'->(execOp a.eval o).run C.P w= .ok (.value v') w':=λv' w' Ay=>by
  have:execOp a.eval o=(do pure (Next.value (<-Builtin.copy_ #[t,t'] o.type #[a.eval s,a.eval x]))):=by rw[<-Hy,<-bE (ty:=o.type) h0 h1];simp only[execOp,ho,resolve,hc];rfl
  rw[this];exact CN Ay
 cases hi:C.P.info? e with
 |none=>simp[BD,hi] at hsz
 |some i=>
 have NP:=HY hsz hi;unfold pE at hp;cases hq:Gt h (n+1) u with
 |none=>rw[hq] at hp;cases hp
 |some An=>
  rw[hq] at hp;obtain⟨news,IC,Qh,bA⟩:=SS (w:=w) HL hr.Db Z5 hq;have Il:Src C.P i.size t' (a.eval x) An.length news w:=by rw[NP];exact IC
  have NQ:news.length=An.length*(n+1):=IC.newsLen;have HB:An.flatten.length=news.length:=by rw[Qh.length]
  simp only at hp;split at hp
  .split at hp;.rename_i lN;cases hp;have HR:a.eval s= .slice none 0 0:=hvs;have Ay:=Yx (t:=t) (ty:=o.type) (w:=w) (w':=w) ht hi Il (base:=none) (k:=0) (cap:=0) Ab (λ_ e=>by cases e) (λ_=>rfl);rw[<-HR] at Ay;rw[lN] at Ay;exact EJ.value (KG _ _ Ay) (hr.put λ_ _=>rfl)
   .cases hp
  .rename_i id off k z;split at hp
   .rename_i cs hcs;split at hp;.rename_i Gg;obtain⟨rfl,b,hlen⟩:=Gg;cases hp;obtain⟨g,cap,hg,HR,xB,lE,RF⟩:=(show Bp γ _ _ from hvs);have hm:=Dn (n+1) b;obtain⟨w',Hz,lM,kg⟩:=Yw (C:=C) (off:=off) hr.Db hcs hg Qh IC.one Ab;have Ay:=Yx (t:=t) (ty:=o.type) (w:=w) (w':=w') ht hi Il (base:=some ⟨g,off,none⟩) (k:=k) (cap:=cap) b (λ_ e=>by cases e;exact Hz) (λe=>by cases e);rw[<-HR] at Ay;rw[show An.length*(n+1)=An.flatten.length by rw[HB,NQ]];exact EJ.value (KG _ _ Ay) ((hr.world lM kg).put λ_ _=>rfl)
    .cases hp
   .cases hp
  .cases hp
def Yy{t ty:TypeId}{ts:Array TypeId}{xs:Array Value}(h0:ts[0]?=some t):Builtin.clear_ ts ty xs=Builtin.clear_ #[t] ty xs:=by simp only[Builtin.clear_,h0];rfl
def lO{o:Oper}{c:Call}{t e:TypeId}{n:Nat}{s:Operand}{v z r:Aa}{h':Ag}(ho:o.op= .call c)(hc:c.callee= .builtin .clear)(h0:c.argTypes[0]?=some t)(DN:c.args.toList=[s])(ht:C.P.underlying t=some (.slice e))
  (hsz:BD C.P e=some (n+1)) (hz:Fy C.P e=some z) (hv:A0 C U [s]=some [v]) (hp:Sq h (n+1) z.cells v=some (h',r)) (hr:Ct C γ0 w0 γ Z U h a w):EJ C γ0 w0 o a w (U.put o.dst .undef) h':=by
 obtain⟨_,e0,hvs⟩:=Fo hr hv;cases e0;have Hy:c.args.map a.eval=#[a.eval s]:=by apply Fe;simp[DN]
 have KG:∀v' w',(Builtin.clear_ #[t] o.type #[a.eval s]).run C.P w= .ok v' w'->(execOp a.eval o).run C.P w= .ok (.value v') w':=λv' w' Ay=>by
  have:execOp a.eval o=(do pure (Next.value (<-Builtin.clear_ #[t] o.type #[a.eval s]))):=by rw[<-Hy,<-Yy (ty:=o.type) h0];simp only[execOp,ho,resolve,hc];rfl
  rw[this];exact CN Ay
 unfold Sq at hp;split at hp
 .cases hp;have HR:a.eval s= .slice none 0 0:=hvs;have Ay:(Builtin.clear_ #[t] o.type #[a.eval s]).run C.P w= .ok (.tuple #[]) w:=by rw[HR];simp[Builtin.clear_,run_underlying ht]
  exact EJ.value (KG _ _ Ay) (hr.put λ_ _=>trivial)
 .rename_i id off k y;split at hp
  .rename_i cs hcs;split at hp
   .rename_i Gg;obtain⟨rfl,f,hlen⟩:=Gg;cases hp;obtain⟨g,cap,hg,HR,xB,lE,RF⟩:=(show Bp γ _ _ from hvs);obtain⟨d,oP,lf⟩:=Gr hz;obtain⟨m,p⟩:=FQ (γ:=γ) (El oP) Ab;have hzs:d.cells.size=n+1:=by have:=m.length;simp at this;omega
    have HB:(List.replicate k z.cells).flatten.length=k*(n+1):=by rw[FU (z:=n+1) (λr hr=>by rw[dm hr,f]),F0]
    have i:∀(j:Nat) (u:Value),(Builtin.zeroCells d.cells k).toList[j]?=some u->j<k*(n+1)/\d.cells.toList[j%(n+1)]?=some u:=by
     intro j u hj;have qF:j<k*(n+1):=by have:=(Ae.1 hj).1;simpa[size_zeroCells,hzs] using this
     refine⟨qF,?_⟩;have ky:j%(n+1)<d.cells.size:=by rw[hzs];exact Nat.mod_lt _ (Cn n)
     simp only[Builtin.zeroCells,Lo,CT] at hj;have b:(Array.range (k*d.cells.size)).toList[j]?=some j:=by simp[hzs,qF]
     rw[b] at hj;simp only[BM,Bv] at hj;rw[hzs] at hj;rw[<-hj];simp[ky]
    have q:AK γ (List.replicate k z.cells).flatten (Builtin.zeroCells d.cells k).toList:=by refine AK.Fz (by simp only[BQ,size_zeroCells,hzs,HB]) λj x u hx hu=>?_;obtain⟨qF,l⟩:=i j u hu;rw[Gx z.cells _ _ (by rw[f];exact qF),f] at hx;obtain⟨A,aO,kj⟩:=m.get hx;rw[l] at aO;cases aO;exact kj
    obtain⟨w',Hz,lM,kg⟩:=Yw (C:=C) (off:=off) hr.Db hcs hg q (λu hu=>by obtain⟨j,hj⟩:=Cf hu;exact p u (B6 (i j u hj).2)) Ab
    have Ay:(Builtin.clear_ #[t] o.type #[a.eval s]).run C.P w= .ok (.tuple #[]) w':=by
     rw[HR];cases k with
     |zero=>
      have e1:(Builtin.zeroCells d.cells 0).toList=[]:=by simp[Builtin.zeroCells]
      rw[e1] at Hz;have:w'=w:=by have h2:(storeCells ⟨g,off,none⟩ []).run C.P w= .ok () w:=rfl;rw[h2] at Hz;cases Hz;rfl
      rw[this];simp[Builtin.clear_,run_underlying ht]
     |succ k=>simp[Builtin.clear_,run_underlying ht,lf,Hz]
    rw[show k*(n+1)=(List.replicate k z.cells).flatten.length from HB.symm];exact EJ.value (KG _ _ Ay) ((hr.world lM kg).put λ_ _=>trivial)
   .cases hp
  .cases hp
 .cases hp
def qQ{o:Oper}{t e:TypeId}{n:Nat}{x:Operand}{lo hi:Option Operand}{v r:Aa}{as:List Aa}{h':Ag}(ho:o.op= .slice t x lo hi none)(ht:C.P.underlying t=some (.slice e))(hsz:BD C.P e=some (n+1))
  (hv:A0 C U (x::(lo.toList++hi.toList))=some (v::as)) (hp:Ya h (n+1) lo.isSome hi.isSome v as=some (h',r)) (hr:Ct C γ0 w0 γ Z U h a w):EJ C γ0 w0 o a w (U.put o.dst (.val r)) h':=by
 have bD:=C4 hr hv;obtain⟨u,us,e1,hx,qR⟩:=bD;simp only[AZ,Ey] at e1;obtain⟨rfl,rfl⟩:=e1;unfold Ya at hp;split at hp
 .rename_i id off k z;split at hp
  .rename_i cs hcs;split at hp
   .rename_i Gg;obtain⟨rfl,b,xh⟩:=Gg;obtain⟨g,cap,hg,HR,xB,lE,RF⟩:=(show Bp γ _ _ from hx);cases hb:Dx lo.isSome hi.isSome ((cs.length-off)/(n+1)) as with
    |none=>rw[hb] at hp;cases hp
    |some j=>
     obtain⟨l,q⟩:=j;rw[hb] at hp;simp only[BU] at hp;split at hp
     .rename_i hlt;cases hp;obtain⟨us,e1,fr,i,pf,f,D⟩:=hr.Db.cells id cs hcs g hg;obtain⟨⟨oM,A,p,c,B⟩,_⟩:=hr.Db.sz g _ RF;rw[i] at c;cases c;have oN:cs.length<=us.size:=by have:=f.length;simp at this;omega
      have aAp:(cs.length-off)/(n+1)<=cap:=by refine Nat.div_le_of_le_mul ?_;rw[Nat.mul_comm];omega
      have d:∀y:Option Operand,(y.map a.eval).isSome=y.isSome:=λy=>by cases y<;>rfl
      have s:(lo.map a.eval).toList++(hi.map a.eval).toList=(lo.toList++hi.toList).map a.eval:=by cases lo<;>cases hi<;>rfl
      rw[<-d lo,<-d hi] at hb;obtain⟨m,E,k3⟩:=IM (P:=C.P) (w:=w) (isSlice:=true) hb (by rw[s];exact qR) aAp;have Lv:Instr.sliceBounds true k cap (lo.map a.eval) (hi.map a.eval) none=Instr.sliceBounds true ((cs.length-off)/(n+1)) cap (lo.map a.eval) (hi.map a.eval) none:=by
       cases hi with
       |none=>cases b
       |some y=>rfl
      have HL:C.P.underlying t=some (.slice (C.P.elem t)):=by simp[Program.elem,ht]
      have he:C.P.elem t=e:=by simp[Program.elem,ht]
      have Ay:(Instr.sliceAt t (a.eval x) (lo.map a.eval) (hi.map a.eval) none).run C.P w= .ok (.slice (some ⟨g,off+l*(n+1),none⟩) (q-l) (cap-l)) w:=by rw[HR,run_sliceAt_slice w t _ _ _ _ HL,run_slice_any w t _ _ _ HL,Lv,m,he,Result.andThen_ok,CV hsz];show Result.ok (Value.slice (if cap=l then some ⟨g,off,none⟩ else Option.map (λq:Addr=>q.add (l*(n+1))) (some ⟨g,off,none⟩)) (q-l) (cap-l)) w=_;rw[Ac Ab];simp only[BM];unfold Addr.add;split<;>simp_all
      refine EJ.value (by simp only[execOp,ho];exact CN Ay) (hr.put λ_ _=>⟨g,cap-l,hg,rfl,Ab,⟨lE.1,A5 (Nat.sub_le _ _) lE.2⟩,?_⟩);rw[RF,ON,<-Bg,Ŷ Ab]
     .cases hp
   .cases hp
  .cases hp
 .cases hp
def qS{o:Oper}{t e:TypeId}{n:Nat}{x lo hi mx:Operand}{args:List Aa}(ho:o.op= .slice t x (some lo) (some hi) (some mx))(ht:C.P.underlying t=some (.slice e))(hsz:BD C.P e=some (n+1))
  (hv:A0 C U [x,lo,hi,mx]=some args) (hp:Sr (n+1) args=true) (hr:Ct C γ0 w0 γ Z U h a w):EJ C γ0 w0 o a w (U.put o.dst .undef) h:=by
 have bD:=C4 hr hv;have HL:C.P.underlying t=some (.slice (C.P.elem t)):=by simp[Program.elem,ht]
 have he:C.P.elem t=e:=by simp[Program.elem,ht]
 have II:∀(base:Option Addr) (len cap:Nat) (kl f i:IntKind) (l r m:Int),a.eval x= .slice base len cap->a.eval lo= .int kl l->a.eval hi= .int f r->a.eval mx= .int i m->0<=l->l<=r->r<=m->m<=cap->EJ C γ0 w0 o a w (U.put o.dst .undef) h:=by
  intro base len cap kl f i l r m e1 z y u h1 h2 d j;have Ay:∃v,(Instr.sliceAt t (a.eval x) (some (a.eval lo)) (some (a.eval hi)) (some (a.eval mx))).run C.P w= .ok v w:=by
   have c:0<=m:=Ab;have b:0<=r:=Ab;have b1:∀code,(Instr.sliceBound (.int i m) cap code).run C.P w= .ok m.toNat w:=λcode=>by simp[Instr.sliceBound,asIntOf,c,j]
   have b2:∀code,(Instr.sliceBound (.int f r) m.toNat code).run C.P w= .ok r.toNat w:=λcode=>by simp[Instr.sliceBound,asIntOf,b,I2 c,d]
   have b3:∀code,(Instr.sliceBound (.int kl l) r.toNat code).run C.P w= .ok l.toNat w:=λcode=>by simp[Instr.sliceBound,asIntOf,h1,I2 b,h2]
   rw[e1,z,y,u];simp[Instr.sliceAt,Instr.slice,run_underlying ht,Instr.sliceBounds,b1,b2,b3,CV hsz]
  obtain⟨v,Ay⟩:=Ay;exact EJ.value (by simp only[execOp,ho];exact CN Ay) (hr.put λ_ _=>trivial)
 unfold Sr at hp;split at hp
 .rename_i s _ l _ r _ m;obtain⟨E,k_,f1,g1,D,aI,f2,g2,B,q,f3,g3,A,p,f4,k,f5⟩:=bD;subst f5;simp only[AZ,De] at f1;subst f4;subst f3;subst f2;simp only[Ey,KB] at f1;obtain⟨rfl,rfl,rfl,rfl⟩:=f1;split at hp;.simp only[Bi,Df] at hp;obtain⟨⟨⟨⟨_,h1⟩,h2⟩,d⟩,j⟩:=hp;obtain⟨g,cap,hg,HR,xB,_⟩:=(show Bp γ _ _ from g1);exact II _ _ _ _ _ _ _ _ _ HR (DC g2) (DC g3) (DC k) h1 h2 d Ab
  .simp only[Bi,Df] at hp;obtain⟨⟨⟨⟨_,h1⟩,h2⟩,d⟩,j⟩:=hp;obtain⟨ad,cap,HR,xB,_⟩:=(show Bp γ _ _ from g1);exact II _ _ _ _ _ _ _ _ _ HR (DC g2) (DC g3) (DC k) h1 h2 d Ab
  .cases hp
 .cases hp
def qT{o:Oper}{t:TypeId}{x:Operand}{v:Aa}{u:TypeDesc}(ho:o.op= .makeInterface t x)(ht:C.P.underlying t=some u)(hn:∀i,u≠ .interface i)(hv:A0 C U [x]=some [v])(hr:Ct C γ0 w0 γ Z U h a w):EJ C γ0 w0 o a w (U.put o.dst (.val (.iface t v))) h:=by
 obtain⟨_,e0,hvs⟩:=Fo hr hv;cases e0;have Ay:(Instr.makeInterface t (a.eval x)).run C.P w= .ok (.iface t (a.eval x)) w:=by cases u<;>simp_all [Instr.makeInterface,run_underlying ht]
 exact EJ.value (by simp only[execOp,ho];exact CN Ay) (hr.put λ_ _=>⟨_,rfl,hvs⟩)
def Nz{n:Int}:∀{es:List (Aa×Aa)} {l:List MapEntry} {i:Nat} {r:Option (Nat×Aa)},Je γ es l->Ju n es i=some r->
  match r with
  |none=>Instr.findNow (.int .i64) (.int .i64 n) l i=some none
  |some (j,v)=>∃(e:MapEntry),Instr.findNow (.int .i64) (.int .i64 n) l i=some (some (j,e.val))/\Bp γ v e.val/\i<=j/\l[j-i]?=some e/\e.key= .int .i64 n
 |[],l,i,r,b,hf=>by rw[show l=[] from b];cases hf;rfl
 |(k,v)::es,l,i,r,b,hf=>by
  obtain⟨e,l',rfl,h1,h2,m⟩:=b;cases k with
  |int q t=>
   by_cases hq:q= .i64
   .subst hq;simp only[Ju] at hf;have hk:e.key= .int .i64 t:=h1;split at hf;.rename_i Hz;subst Hz;cases hf;exact⟨e,by simp[Instr.findNow,hk,Instr.sameNow],h2,Af _,Au,hk⟩
    .rename_i Hz;have xn:(n==t)=false:=by simpa using Hz
     have ih:=Nz (i:=i+1) m hf;cases r with
     |none=>simpa[Instr.findNow,hk,Instr.sameNow,xn] using ih
     |some p=>obtain⟨j,v2⟩:=p;obtain⟨o,g,f,s,d,c⟩:=ih;refine⟨o,by simpa[Instr.findNow,hk,Instr.sameNow,xn] using g,f,Ab,?_,c⟩;rw[(Ab:j-i=(j-(i+1))+1),PT];exact d
   .exfalso;cases q<;>first|exact hq rfl|(simp[Ju] at hf)
  |_=>simp[Ju] at hf
def qU{o:Oper}{t kt e:TypeId}{m k:Operand}{d f z r:Aa}{ok:Bool}{h':Ag}(ho:o.op= .lookup t m k ok)(ht:C.P.underlying t=some (.map kt e))(hk:C.P.underlying kt=some (.int .i64))(hz:Fy C.P e=some z)(ha:A0 C U [m,k]=some [d,f])(hm:fR h z ok d f=some (h',r))(hr:Ct C γ0 w0 γ Z U h a w):
  EJ C γ0 w0 o a w (U.put o.dst (.val r)) h':=by
 obtain⟨_,_,e0,h1,h2⟩:=D6 hr ha;cases e0;obtain⟨c,oP,lf⟩:=Gr hz;have II:∀(es:Array MapEntry) (q:Option (Nat×Aa)),(Instr.lookup t (a.eval m) (a.eval k) ok).run C.P w=(I7 kt e (a.eval k) ok es).run C.P w->
   ∀n,a.eval k= .int .i64 n->(match q with|none=>Instr.findNow (.int .i64) (.int .i64 n) es.toList 0=some none|some (j,v)=>∃(e:MapEntry),Instr.findNow (.int .i64) (.int .i64 n) es.toList 0=some (some (j,e.val))/\Bp γ v e.val/\0<=j/\es.toList[j-0]?=some e/\e.key= .int .i64 n)->
   aE z ok q=r->EJ C γ0 w0 o a w (U.put o.dst (.val r)) h:=by
  intro es q Pc n qL hq QY;have lJ:(Instr.checkKey es.isEmpty 10000 kt (.int .i64 n)).run C.P w= .ok () w:=MapKept.run_checkKey (k:= .int .i64 n) hk (by simp[MapKept.IsKey]) es.isEmpty 9999;have Ay:∃v,(Instr.lookup t (a.eval m) (a.eval k) ok).run C.P w= .ok v w/\Bp γ r v:=by
   cases q with
   |none=>
    refine⟨if ok then .tuple #[c,.bool false] else c,?_,?_⟩;.rw[Pc,qL];unfold I7;simp only[Sem.run_bind,Result.andThen_ok,lJ,MapKept.run_findKey hk hq,lf,Sem.run_bind,Sem.run_pure]
    .rw[<-QY];have xm:=El (γ:=γ) oP;cases ok with
     |true=>exact⟨_,rfl,_,_,rfl,xm,_,_,rfl,rfl,rfl⟩
     |false=>exact xm
   |some p=>
    obtain⟨j,v⟩:=p;obtain⟨l,s,g,_⟩:=hq;refine⟨if ok then .tuple #[l.val,.bool true] else l.val,?_,?_⟩;.rw[Pc,qL];unfold I7;simp only[Sem.run_bind,Result.andThen_ok,lJ,MapKept.run_findKey hk s,Sem.run_bind,Sem.run_pure]
    .rw[<-QY];cases ok with
     |true=>exact⟨_,rfl,_,_,rfl,g,_,_,rfl,rfl,rfl⟩
     |false=>exact g
  obtain⟨v,Ay,gC⟩:=Ay;exact EJ.value (by simp only[execOp,ho];exact CN Ay) (hr.put λ_ _=>gC)
 unfold fR at hm;split at hm;.rename_i n;cases hm;exact II #[] none (by rw[show a.eval m=_ from h1];simp only[Instr.lookup,I7,Sem.run_bind,run_underlying ht,Result.andThen_ok,Sem.run_pure];rfl) n h2 rfl rfl
 .rename_i id n;obtain⟨b,hb,lI⟩:=h1;split at hm
  .rename_i es Pc;obtain⟨C3,clock,hw,u,_⟩:=hr.Db.map id es Pc b hb;cases hf:Ju n es 0 with
   |none=>rw[hf] at hm;cases hm
   |some q=>
    rw[hf] at hm;simp only[BM,Bv,Jp] at hm;obtain⟨rfl,hm⟩:=hm;refine II C3 q (by rw[lI];simp only[Instr.lookup,I7,Sem.run_bind,run_underlying ht,MapKept.run_getObj_map hw,Result.andThen_ok,Sem.run_pure];rfl) n h2 ?_ ?_
    .have:=Nz (i:=0) u hf;cases q with
     |none=>exact this
     |some p=>exact this
    .exact hm
  .cases hm
 .cases hm
def Je.qV{k v:Aa}{e:MapEntry}(hk:Bp γ k e.key)(hv:Bp γ v e.val):∀{es:List (Aa×Aa)} {l:List MapEntry},Je γ es l->Je γ (es++[(k,v)]) (l++[e])
 |[],l,b=>by rw[show l=[] from b];exact⟨e,[],rfl,hk,hv,rfl⟩
 |(k',v')::es,l,b=>by obtain⟨d,l',rfl,h1,h2,c⟩:=b;exact⟨d,_,rfl,h1,h2,Je.qV hk hv c⟩
def Je.length:∀{es:List (Aa×Aa)} {l:List MapEntry},Je γ es l->l.length=es.length
 |[],l,b=>by rw[show l=[] from b];rfl
 |(k',v')::es,l,b=>by obtain⟨d,l',rfl,h1,h2,c⟩:=b;simp[Je.length c]
def Je.modify{v:Aa}{u:Value}(hv:Bp γ v u):∀{es:List (Aa×Aa)} {l:List MapEntry} {j:Nat} {k v0:Aa},Je γ es l->es[j]?=some (k,v0)->Je γ (es.set j (k,v)) (l.modify j λe=>{e with val:=u})
 |[],l,j,k,v0,b,hj=>by simp at hj
 |(k',v')::es,l,j,k,v0,b,hj=>by
  obtain⟨d,l',rfl,h1,h2,c⟩:=b;cases j with
  |zero=>cases hj;exact⟨{d with val:=u},l',Au,h1,hv,c⟩
  |succ j=>exact⟨d,l'.modify j _,Au,h1,h2,Je.modify hv c (by simpa using hj)⟩
def Yz{es:Array MapEntry}{j:Nat}{e:MapEntry}{k:Value}(hj:es[j]?=some e)(hk:e.key=k):(es.modify j λe=>{e with key:=k})=es:=by
 apply Nr;intro i;rw[K6];split;.rename_i hi;subst hi;rw[hj];simp[<-hk]
 .rfl
def SZ{o:Oper}{t kt e:TypeId}{m k:Operand}{kA z r:Aa}{kV:Value}{d:TypeDesc}{h':Ag}{id:Nat}{es:List (Aa×Aa)}{f:Option (Option (Nat×Aa))}(ho:o.op= .mapEntry t m k)(ht:C.P.underlying t=some (.map kt e))(hk:C.P.underlying kt=some d)(g:MapKept.IsKey d kV)(hz:Fy C.P e=some z)
  (h1:Bp γ (.map (some id)) (a.eval m)) (la:a.eval k=kV) (n:Bp γ kA kV) (Pc:h[id]?=some (.map es))
  (hq:∀(l:List MapEntry) q,Je γ es l->f=some q->match q with
   |none=>Instr.findNow d kV l 0=some none
   |some (j,v)=>∃(e:MapEntry),Instr.findNow d kV l 0=some (some (j,e.val))/\Bp γ v e.val/\0<=j/\l[j-0]?=some e/\e.key=kV)
  (hm:(f.map λr=>match r with
   |some (i,v)=>(h,Aa.tuple [v,.int .i64 i])
   |none=>(h.set id (.map (es++[(kA,z)])),.tuple [z,.int .i64 es.length]))=some (h',r)) (hr:Ct C γ0 w0 γ Z U h a w):
  EJ C γ0 w0 o a w (U.put o.dst (.val r)) h':=by
 obtain⟨c,oP,lf⟩:=Gr hz;obtain⟨b,hb,lI⟩:=h1;obtain⟨C3,clock,hw,s,hB⟩:=hr.Db.map id es Pc b hb;have lJ:(Instr.checkKey false 10000 kt kV).run C.P w= .ok () w:=MapKept.run_checkKey (k:=kV) hk g false 9999;cases f with
 |none=>cases hm
 |some q=>
  have hq:=hq C3.toList q s rfl;cases q with
  |none=>
   simp only[BM,Bv,Jp] at hm;obtain⟨rfl,rfl⟩:=hm;have Ay:(Instr.mapEntry t (a.eval m) (a.eval k)).run C.P w= .ok (.tuple #[c,goInt clock]) {w with heap:=w.heap.setIfInBounds b (.map (C3.push {key:=kV,val:=c,born:=clock}) (clock+1))}:=by rw[lI,la];simp[Instr.mapEntry,run_underlying ht,MapKept.run_getObj_map hw,lJ,MapKept.run_findKey hk hq,lf,MapKept.run_setObj_map _ hw,Result.andThen]
   obtain⟨hi,Im⟩:=LC (Ry:=es++[(kA,z)]) (ents':=C3.push {key:=kV,val:=c,born:=clock}) (clock':=clock+1) hr.Db Pc hb hw ⟨by have:=Je.qV (γ:=γ) (k:=kA) (v:=z) (e:={key:=kV,val:=c,born:=clock}) n (El oP) s;simpa using this,Qi hB⟩
   refine EJ.value (by simp only[execOp,ho];exact CN Ay) ((hr.world hi Im).put λ_ _=>⟨_,rfl,c,_,rfl,El oP,_,[],rfl,?_,rfl⟩);rw[hB.1];have:=s.length;simp only[BQ] at this;rw[<-this];rfl
  |some p=>
   obtain⟨j,v⟩:=p;simp only[BM,Bv,Jp] at hm;obtain⟨rfl,rfl⟩:=hm;obtain⟨u,B,A,_,y,x⟩:=hq;have hj:C3[j]?=some u:=by simpa using y
   have xo:=hB.2 j u hj;have lP:w.heap.setIfInBounds b (.map C3 clock)=w.heap:=by
    apply Nr;intro i;rw[Array.getElem?_setIfInBounds];split;.rename_i hi;subst hi;have hlt:=(As.1 hw).1;rw[Ad hlt,hw]
    .rfl
   have Ay:(Instr.mapEntry t (a.eval m) (a.eval k)).run C.P w= .ok (.tuple #[u.val,goInt j]) w:=by rw[lI,la];simp[Instr.mapEntry,run_underlying ht,MapKept.run_getObj_map hw,lJ,MapKept.run_findKey hk B,hj,x,MapKept.run_keyThatStays (d:=d) (k:=kV) g,MapKept.run_setObj_map _ hw,Result.andThen,xo,Yz hj x,lP]
   exact EJ.value (by simp only[execOp,ho];exact CN Ay) (hr.put λ_ _=>⟨_,rfl,_,_,rfl,A,_,[],rfl,rfl,rfl⟩)
def bF{o:Oper}{t kt e:TypeId}{m k:Operand}{b c z r:Aa}{h':Ag}(ho:o.op= .mapEntry t m k)(ht:C.P.underlying t=some (.map kt e))(hk:C.P.underlying kt=some (.int .i64))(hz:Fy C.P e=some z)(ha:A0 C U [m,k]=some [b,c])(hm:RX h z b c=some (h',r))(hr:Ct C γ0 w0 γ Z U h a w):
  EJ C γ0 w0 o a w (U.put o.dst (.val r)) h':=by
 obtain⟨_,_,e0,h1,h2⟩:=D6 hr ha;cases e0;unfold RX at hm;split at hm
 .rename_i id n;split at hm;.rename_i es Pc;exact SZ (kA:= .int .i64 n) (kV:= .int .i64 n) ho ht hk (by simp[MapKept.IsKey]) hz h1 h2 rfl Pc (λl q d hf=>Nz (i:=0) d hf) hm hr
  .cases hm
 .cases hm
def Vw{s:Aq}:∀{es:List (Aa×Aa)} {l:List MapEntry} {i:Nat} {r:Option (Nat×Aa)},Je γ es l->Ss s es i=some r->
  match r with
  |none=>Instr.findNow .string (.string ⟨⟨s⟩⟩) l i=some none
  |some (j,v)=>∃(e:MapEntry),Instr.findNow .string (.string ⟨⟨s⟩⟩) l i=some (some (j,e.val))/\Bp γ v e.val/\i<=j/\l[j-i]?=some e/\e.key= .string ⟨⟨s⟩⟩
 |[],l,i,r,b,hf=>by rw[show l=[] from b];cases hf;rfl
 |(k,v)::es,l,i,r,b,hf=>by
  obtain⟨e,l',rfl,h1,h2,m⟩:=b;cases k with
  |str t=>
   simp only[Ss] at hf;have hk:e.key= .string ⟨⟨t⟩⟩:=h1;split at hf;.rename_i Hz;subst Hz;cases hf;exact⟨e,by simp[Instr.findNow,hk,Instr.sameNow,Om],h2,Af _,Au,hk⟩
   .rename_i Hz;have ih:=Vw (i:=i+1) m hf;have hne:=SW Hz;cases r with
    |none=>simpa[Instr.findNow,hk,Instr.sameNow,hne] using ih
    |some p=>obtain⟨j,v2⟩:=p;obtain⟨n,g,f,o,d,c⟩:=ih;refine⟨n,by simpa[Instr.findNow,hk,Instr.sameNow,hne] using g,f,Ab,?_,c⟩;rw[(Ab:j-i=(j-(i+1))+1),PT];exact d
  |_=>simp[Ss] at hf
def bG{o:Oper}{t kt e:TypeId}{m k:Operand}{b c z r:Aa}{h':Ag}(ho:o.op= .mapEntry t m k)(ht:C.P.underlying t=some (.map kt e))(hk:C.P.underlying kt=some .string)(hz:Fy C.P e=some z)(ha:A0 C U [m,k]=some [b,c])(hm:Wm h z b c=some (h',r))(hr:Ct C γ0 w0 γ Z U h a w):
  EJ C γ0 w0 o a w (U.put o.dst (.val r)) h':=by
 obtain⟨_,_,e0,h1,h2⟩:=D6 hr ha;cases e0;unfold Wm at hm;split at hm
 .rename_i id n;split at hm;.rename_i es Pc;exact SZ (kA:= .str n) (kV:= .string ⟨⟨n⟩⟩) ho ht hk (by simp[MapKept.IsKey]) hz h1 h2 rfl Pc (λl q d hf=>Vw (i:=0) d hf) hm hr
  .cases hm
 .cases hm
def YA{o:Oper}{t kt e:TypeId}{m k x:Operand}{d f c r:Aa}{h':Ag}(ho:o.op= .insert t m k x\/o.op= .mapUpdate t m k x)(hd:o.dst=none)(ht:C.P.underlying t=some (.map kt e))(hk:C.P.underlying kt=some (.int .i64))(ha:A0 C U [m,k,x]=some [d,f,c])
  (hm:pF h d f c=some (h',r)) (hr:Ct C γ0 w0 γ Z U h a w):EJ C γ0 w0 o a w U h':=by
 obtain⟨h1,h2,j⟩:=On hr ha;have KG:∀w',(Instr.mapUpdate t (a.eval m) (a.eval k) (a.eval x)).run C.P w= .ok () w'->(execOp a.eval o).run C.P w= .ok .skip w':=λw' Ay=>by rcases ho with ho|ho<;>simp[execOp,ho,Ay]
 unfold pF at hm;split at hm
 .rename_i id n;obtain⟨b,hb,lI⟩:=h1;have la:a.eval k= .int .i64 n:=h2;split at hm
  .rename_i es Pc;obtain⟨C3,clock,hw,g,hB⟩:=hr.Db.map id es Pc b hb;have lJ:(Instr.checkKey false 10000 kt (.int .i64 n)).run C.P w= .ok () w:=MapKept.run_checkKey (k:= .int .i64 n) hk (by simp[MapKept.IsKey]) false 9999;split at hm
   .rename_i hf;cases hm;have hq:=Nz (i:=0) g hf;have Ay:(Instr.mapUpdate t (a.eval m) (a.eval k) (a.eval x)).run C.P w= .ok () {w with heap:=w.heap.setIfInBounds b (.map (C3.push {key:= .int .i64 n,val:=a.eval x,born:=clock}) (clock+1))}:=by rw[lI,la];simp[Instr.mapUpdate,run_underlying ht,MapKept.run_getObj_map hw,lJ,MapKept.run_findKey hk hq,MapKept.run_setObj_map _ hw,Result.andThen]
    obtain⟨hi,Im⟩:=LC (Ry:=es++[(.int .i64 n,c)]) (ents':=C3.push {key:= .int .i64 n,val:=a.eval x,born:=clock}) (clock':=clock+1) hr.Db Pc hb hw ⟨by have:=Je.qV (γ:=γ) (k:= .int .i64 n) (v:=c) (e:={key:= .int .i64 n,val:=a.eval x,born:=clock}) rfl j g;simpa using this,Qi hB⟩
    exact EJ.skip (KG _ Ay) (by rw[hd];exact hr.world hi Im)
   .cases hm
  .cases hm
 .cases hm
def WB{es:Array MapEntry}(hB:∀(i:Nat) (e:MapEntry),es[i]?=some e->e.born=i){j:Nat}{e:MapEntry}(hj:es[j]?=some e):es.findIdx? (λe=>(e.born:Int)==(j:Int))=some j:=by
 rw[Array.findIdx?_eq_some_iff_getElem];obtain⟨hl,he⟩:=As.1 hj;refine⟨hl,?_,λi hi=>?_⟩;.have:=hB j _ (Cj hl);simp[this]
 .have:=hB i _ (Cj Ab);simp[this];omega
def bH{o:Oper}{t:TypeId}{m s x:Operand}{f vs c r:Aa}{h':Ag}(ho:o.op= .entryStore t m s x)(hd:o.dst=none)(ha:A0 C U [m,s,x]=some [f,vs,c])(hm:RY h f vs c=some (h',r))(hr:Ct C γ0 w0 γ Z U h a w):EJ C γ0 w0 o a w U h':=by
 obtain⟨h1,h2,j⟩:=On hr ha;have KG:∀w',(Instr.entryStore t (a.eval m) (a.eval s) (a.eval x)).run C.P w= .ok () w'->(execOp a.eval o).run C.P w= .ok .skip w':=λw' Ay=>by simp[execOp,ho,Ay]
 unfold RY at hm;split at hm
 .rename_i id n;obtain⟨b,hb,lI⟩:=h1;have HR:a.eval s= .int .i64 n:=h2;split at hm
  .rename_i es Pc;split at hm
   .rename_i hn;split at hm
    .rename_i kk v0 hk;cases hm;obtain⟨C3,clock,hw,g,hB⟩:=hr.Db.map id es Pc b hb;have hlen:=g.length;have hlt:=(Ae.1 hk).1;have d:∃i,C3[n.toNat]?=some i:=⟨C3[n.toNat]'(by simp at hlen;omega),Cj _⟩;obtain⟨i,hj⟩:=d;have pU:((n.toNat:Nat):Int)=n:=Ab;have xq:=WB hB.2 hj;rw[pU] at xq;have Ay:(Instr.entryStore t (a.eval m) (a.eval s) (a.eval x)).run C.P w= .ok () {w with heap:=w.heap.setIfInBounds b (.map (C3.modify n.toNat λe=>{e with val:=a.eval x}) clock)}:=by rw[lI,HR];simp[Instr.entryStore,MapKept.run_getObj_map hw,asInt,asIntOf,xq,MapKept.run_setObj_map _ hw,Result.andThen]
     obtain⟨hi,Im⟩:=LC (Ry:=es.set n.toNat (kk,c)) (ents':=C3.modify n.toNat λe=>{e with val:=a.eval x}) (clock':=clock) hr.Db Pc hb hw ⟨by have:=Je.modify j g hk;simpa using this,Q0 hB λ_=>rfl⟩
     exact EJ.skip (KG _ Ay) (by rw[hd];exact hr.world hi Im)
    .cases hm
   .cases hm
  .cases hm
 .cases hm
end
end Go.Am
end
section
section
namespace Go.Am
open Go
section
variable{C:E7}{γ0 γ γ':Gh}{w0 w w':World}{O:Nat->Nat}{U U':Bq}{h h':Ag}{a:Act}{fid:FuncId}{ops:List Oper}
def EJ.wp{o:Oper}{K:Act->World->Prop}{Q:Exit->Act->World->Prop}(hs:EJ C γ0 w0 o a w U' h')(hK:∀γ' b a' w',Ct C γ0 w0 γ' b U' h' a' w'->K a' w'):o.wp C.P a w K Q:=by
 obtain⟨γ',b,w',⟨v,he,hr⟩|⟨he,hr⟩⟩:=hs;.exact HC he (hK _ _ _ _ hr)
 .exact aK he (hK _ _ _ _ hr)
def UD{P:Program}{op:BinOp}{t:TypeId}{p:Ur}(hp:Nw P op t=some p):p.still=true:=by
 have Hy:∀neg u,P5 P t neg u=some p->p.still=true:=by
  intro neg u h;unfold P5 at h;split at h;.cases h;rfl
  .split at h
   .cases hf:MM P 20 t with
    |none=>rw[hf] at h;cases h
    |some k=>rw[hf] at h;cases h;rfl
   .cases h
  .split at h<;>cases h;rfl
  .cases h;rfl
  .cases h;rfl
  .cases h;rfl
  .cases h
 unfold Nw at hp;split at hp;.cases hp;rfl
 .cases hp;rfl
 .split at hp;.exact Hy _ _ hp
  .exact Hy _ _ hp
  .cases hp
 .cases hp
def LD{P:Program}{t:TypeId}{f off:Nat}{d:Option Nat}(hf:GI P t f=some (off,d))(b o:Nat):(Instr.fieldAt t (.pointer (some ⟨b,o,none⟩)) f).run P w= .ok (.pointer (some ⟨b,o+off,none⟩)) w:=by
 unfold GI at hf;split at hf
 .rename_i fs aO;split at hf
  .rename_i fd fZ;split at hf;.rename_i n c h1 h2;cases hf;simp[Instr.fieldAt,run_underlying aO,fZ,Instr.sureAddr,fieldPlace,CV h1,Addr.add_lit]
   .cases hf
  .cases hf
 .cases hf
def S0(hr:Ct C γ0 w0 γ O U h a w){s ver:Nat}{cs:List Aa}{ow:List Nat}(hs:Dg C U (.tmp s)=some (.box ver cs ow)):a.eval (.tmp s)= .pointer (some ⟨O s,0,none⟩):=by have h0:=O2 hr s;rw[FA hs] at h0;exact h0.1
def Q2(hr:Ct C γ0 w0 γ O U h a w){x:Operand}{s k:Nat}(hs:Dg C U x=some (.Ed s k)):a.eval x= .pointer (some ⟨O s,k,none⟩):=by obtain⟨t,h1,_⟩:=E2 hr hs;exact h1
def Vx{o:Oper}{t:TypeId}{v:Aa}{d:Nat}{r:DK}{run:IT->Ag->Option IF}(hb:QS C fid t v d=some r)(EL:r.Lw C run (U.drop r.news) h U' h')
  (ML:∀n,C.kind fid d= .ML->v.cells.length=n->n≠0->EJ C γ0 w0 o a w ((U.drop [d]).set d (.box 0 v.cells [])) h)
  (heap:v.cells.length≠0->EJ C γ0 w0 o a w (U.put (some d) (.val (.ptr (some (h.length,0))))) (h++[.cells v.cells])):EJ C γ0 w0 o a w U' h':=by
 unfold QS at hb;split at hb;.cases hb
 .rename_i n hn;split at hb;.cases hb
  .rename_i b;split at hb;.cases hb;obtain⟨h1,rfl,rfl⟩:=EL;rename_i hk;exact ML n hk h1 b
   .cases hb;obtain⟨h1,rfl,rfl⟩:=EL;exact heap Ab
def NA{d s k:Nat}{run:IT->Ag->Option IF}(EL:(DK.pure [(d,.Ed s k)]).Lw C run (U.drop (DK.pure [(d,.Ed s k)]).news) h U' h'):U'=U.set d (.Ed s k)/\h'=h:=by obtain⟨rfl,rfl⟩:=EL;exact⟨rfl,rfl⟩
def qW{run:IT->Ag->Option IF}(hS:DO C run){o:Oper}{r:DK}{K:Act->World->Prop}{Q:Exit->Act->World->Prop}(hc:EZ C fid ops U o=some r)(EL:r.Lw C run (U.drop r.news) h U' h')(hr:Ct C γ0 w0 γ O U h a w)
  (hK:∀γ' N a' w',Ct C γ0 w0 γ' N U' h' a' w'->K a' w'):o.wp C.P a w K Q:=by
 by_cases Hz:∃p args dst Bn E,r= .op p args dst Bn E/\p.still=true
 .obtain⟨p,args,dst,Bn,E,rfl,qX⟩:=Hz
  obtain⟨I,rfl,rfl,rfl⟩:=lC hc qX hr
  obtain⟨v,hv,rfl,rfl⟩:=EL
  obtain⟨u,M,L⟩:=I v hv
  exact HC M (hK _ _ _ _ (hr.put λ_ _=>L))
 .have X0:∀{p args dst},r= .op p args dst false none->p.still=false:=λ{p args dst} he=>by
   cases hp:p.still with
   |false=>rfl
   |true=>exact absurd ⟨p,args,dst,false,none,he,hp⟩ Hz
  have F6:∀{p dst x},P6 p dst x=some r->p.still=false:=λ{p dst x} he=>by
   obtain⟨args,_,e⟩:=C5 he
   exact X0 e
  unfold EZ at hc
  split at hc
  .rename_i x ho
   split at hc
   .rename_i d hd
    obtain⟨γ',FH⟩:=O4 hc EL hr
    exact HC (w':=w) (v:=a.eval x) (by simp[execOp,ho]) (hK _ _ _ _ (by rw[hd];exact FH))
   .cases hc
  .rename_i x ho
   split at hc
   .rename_i d hd
    obtain⟨γ',FH⟩:=O4 hc EL hr
    exact HC (w':=w) (v:=a.eval x) (by simp[execOp,ho]) (hK _ _ _ _ (by rw[hd];exact FH))
   .cases hc
  .rename_i c x y ho
   split at hc
   .rename_i d hcs hd
    obtain⟨γ',FH⟩:=O4 hc EL hr
    obtain⟨s,h1,_⟩:=E2 hr hcs
    have h1:a.eval c= .bool true:=h1
    exact HC (w':=w) (v:=a.eval x) (by simp[execOp,ho,h1,asBool]) (hK _ _ _ _ (by rw[hd];exact FH))
   .rename_i d hcs hd
    obtain⟨γ',FH⟩:=O4 hc EL hr
    obtain⟨s,h1,_⟩:=E2 hr hcs
    have h1:a.eval c= .bool false:=h1
    exact HC (w':=w) (v:=a.eval y) (by simp[execOp,ho,h1,asBool]) (hK _ _ _ _ (by rw[hd];exact FH))
   .cases F6 hc
  .rename_i t ho
   split at hc
   .rename_i d z hd hz
    split at hc
    .split at hc
     .rename_i Gg
      cases hc
      obtain⟨rfl,rfl⟩:=EL
      exact(SJ ho hd hz Gg.2 hr).wp hK
     .cases hc
    .rename_i hk
     refine(Vx (o:=o) (a:=a) (w:=w) (γ0:=γ0) (w0:=w0) hc EL (λn h0 h1 h2=>absurd h0 (by simpa using hk)) λh1=>SK ho hd hz h1 hr).wp hK
   .cases hc
  .rename_i t x ho
   split at hc
   .rename_i d v hd hv
    exact(Vx (o:=o) (a:=a) (w:=w) (γ0:=γ0) (w0:=w0) hc EL (λn _ h1 h2=>Wv ho hd hv h1 h2 hr) λh1=>Ww ho hd hv h1 hr).wp hK
   .cases hc
  .split at hc
   .split at hc
    .cases F6 hc
    .cases hc
   .cases hc
  .rename_i t len parts ho
   split at hc
   .rename_i e ht
    split at hc
    .rename_i n hn
     split at hc
     .rename_i Gg
      split at hc
      .rename_i hlen
       cases hc
       obtain⟨v,hv,rfl,rfl⟩:=EL
       cases hv
       exact(qB ho ht hn Gg.1 Gg.2 hlen.1 hr).wp hK
      cases ha:A0 C U (parts.toList.map (·.2)) with
      |none=>rw[ha] at hc;cases hc
      |some args=>
       rw[ha] at hc;cases hc
       obtain⟨v,hv,rfl,rfl⟩:=EL
       exact(qA ho ht hn Gg.1 Gg.2 ha hv hr).wp hK
     .cases hc
    .cases hc
   .cases hc
  .rename_i t x ho
   split at hc
   .rename_i d hd
    by_cases hp:∃ws,r= .pure ws
    .exact(UA ho hd hc hp EL hr).wp hK
    .unfold Jv at hc
     split at hc
     .rename_i n p ht hx
      cases hc
      obtain⟨v,hv,rfl,rfl⟩:=EL
      have hs:=p8 ho ht hx hv hr
      rw[hd] at hs
      exact hs.wp hK
     .split at hc
      .simp only at hc
       split at hc<;>(cases hc;exact absurd ⟨_,rfl⟩ hp)
      .cases hc
     .split at hc
      .cases hc;exact absurd ⟨_,rfl⟩ hp
      .cases hc
     .cases hc
   .cases hc
  .rename_i t x y ho
   split at hc
   .rename_i hd
    have RG:=hc
    unfold HJ at hc
    split at hc
    .rename_i n p v hsz hx hv
     cases hc
     obtain⟨aAq,rfl⟩:=EL
     exact(lD ho hd hsz hx hv aAq hr).wp hK
    .split at hc
     .cases hc
      exact(aY ho hd RG EL hr).wp hK
     .cases hc
    .cases hc
   .cases hc
  .rename_i x ho
   split at hc
   .rename_i s ver cs ow d hd hs
    cases hc
    obtain⟨rfl,rfl⟩:=NA EL
    have he:=S0 hr hs
    exact HC (w':=w) (v:= .pointer (some ⟨O s,0,none⟩)) (by simp[execOp,ho,he]) (hK _ _ _ _ (by rw[hd];exact hr.put (d:=some d) λ_ _=>rfl))
   .rename_i s k d hd hs
    cases hc
    obtain⟨rfl,rfl⟩:=NA EL
    have he:=Q2 hr hs
    exact HC (w':=w) (v:= .pointer (some ⟨O s,k,none⟩)) (by simp[execOp,ho,he]) (hK _ _ _ _ (by rw[hd];exact hr.put (d:=some d) λ_ _=>rfl))
   .cases F6 hc
  .split at hc
   .rename_i p hp
    have qX:=F6 hc
    rw[UD hp] at qX
    cases qX
   .cases hc
  .cases F6 hc
  .rename_i src Ž x ho
   split at hc
   .rename_i hq
    unfold Sw at hq
    cases hv:DX C U x with
    |none=>rw[hv] at hc;cases hc
    |some v=>
     rw[hv] at hc;cases hc
     split at hq
     .cases hq
     .cases hq
     .cases hq
     .rename_i e hs hd
      split at hq
      .rename_i he
       obtain⟨v',u,h1,h2,rfl⟩:=EL
       exact(xD ho hs hd he hv h1 h2 hr).wp hK
      .cases hq
     .split at hq<;>cases hq
     .cases hq
   .rename_i hq
    unfold Sw at hq
    split at hq
    .cases hq
    .cases hq
    .cases hq
    .split at hq<;>cases hq
    .rename_i e hs hd
     split at hq
     .rename_i he _ _
      split at hc
      .cases hv:DX C U x with
       |none=>rw[hv] at hc;cases hc
       |some v=>
        rw[hv] at hc;cases hc
        obtain⟨u,h1,rfl⟩:=EL
        exact(WA ho hs hd he hv h1 hr).wp hK
      .obtain⟨args,ha,rfl⟩:=C5 hc
       obtain⟨u,h1,rfl,rfl⟩:=EL
       obtain⟨v,rfl,_⟩:=Fo hr ha
       exact(xC ho hs hd he ha h1 hr).wp hK
     .cases hq
    .cases hq
   .rename_i p P1 XX hq
    have qX:=F6 hc
    unfold Sw at hq
    split at hq
    .cases hq;cases qX
    .cases hq;cases qX
    .cases hq
    .split at hq
     .cases hq;exact absurd rfl P1
     .cases hq
    .split at hq
     .cases hq;exact absurd rfl XX
     .cases hq
    .cases hq
   .cases hc
  .rename_i fn first captured ho
   split at hc
   .rename_i d as bs fz hd ha hb
    cases hc
    obtain⟨rfl,rfl⟩:=EL
    exact(Yq ho hd ha hb hr).wp hK
   .cases hc
  .rename_i t ho
   cases hc
   obtain⟨rfl,rfl⟩:=EL
   exact(qJ ho hr).wp hK
  .rename_i t l c ho
   split at hc
   .rename_i e ht
    split at hc
    .rename_i n b z R vc hn hb hz hl QZ
     cases hc
     obtain⟨v,h1,rfl⟩:=EL
     exact(qE ho ht hn hb hz hl QZ h1 hr).wp hK
    .cases hc
   .cases hc
  .rename_i t m k x ho
   split at hc
   .rename_i kt e ht
    split at hc
    .rename_i B D G hd hk ha
     cases hc
     obtain⟨h1,rfl⟩:=EL
     exact(Yu (.inl ho) hd ht hk ha h1 hr).wp hK
    .rename_i B D G hd hk ha
     cases hc
     obtain⟨v,h1,rfl⟩:=EL
     exact(YA (.inl ho) hd ht hk ha h1 hr).wp hK
    .cases hc
   .cases hc
  .rename_i t m k x ho
   split at hc
   .rename_i kt e ht
    split at hc
    .rename_i B D G hd hk ha
     cases hc
     obtain⟨h1,rfl⟩:=EL
     exact(Yu (.inr ho) hd ht hk ha h1 hr).wp hK
    .rename_i B D G hd hk ha
     cases hc
     obtain⟨v,h1,rfl⟩:=EL
     exact(YA (.inr ho) hd ht hk ha h1 hr).wp hK
    .cases hc
   .cases hc
  .rename_i t m k ok ho
   split at hc
   .rename_i kt e ht
    split at hc
    .rename_i z B D hk hz ha
     cases hc
     obtain⟨v,h1,rfl,rfl⟩:=EL
     exact(qK ho ht hk hz ha h1 hr).wp hK
    .rename_i z B D hk hz ha
     cases hc
     obtain⟨v,h1,rfl⟩:=EL
     exact(qU ho ht hk hz ha h1 hr).wp hK
    .cases hc
   .cases hc
  .rename_i t x lo hi mx ho
   split at hc
   .rename_i e ht
    split at hc
    .rename_i n hn
     obtain⟨args,ha,rfl⟩:=FT hc
     obtain⟨v,h1,rfl⟩:=EL
     simp only[D4] at h1
     split at h1
     .rename_i H
      cases h1
      exact(qS ho ht hn ha H hr).wp hK
     .cases h1
    .cases hc
   .cases hc
  .rename_i t x ho
   split at hc
   .cases hc
   .rename_i u hu ht
    obtain⟨args,ha,rfl⟩:=FT hc
    obtain⟨v,h1,rfl⟩:=EL
    obtain⟨y,rfl,_⟩:=Fo hr ha
    cases h1
    exact(qT ho ht (λi e=>hu i e) ha hr).wp hK
   .cases hc
  .rename_i t m k ho
   split at hc
   .rename_i kt e ht
    split at hc
    .rename_i z hk hz
     obtain⟨args,ha,rfl⟩:=FT hc
     obtain⟨v,h1,rfl⟩:=EL
     obtain⟨q,A,rfl,_,_⟩:=D6 hr ha
     exact(bF ho ht hk hz ha h1 hr).wp hK
    .rename_i z hk hz
     obtain⟨args,ha,rfl⟩:=FT hc
     obtain⟨v,h1,rfl⟩:=EL
     obtain⟨q,A,rfl,_,_⟩:=D6 hr ha
     exact(bG ho ht hk hz ha h1 hr).wp hK
    .cases hc
   .cases hc
  .rename_i t m s x ho
   split at hc
   .rename_i hd
    obtain⟨args,ha,rfl⟩:=FT hc
    obtain⟨v,h1,rfl⟩:=EL
    obtain⟨q,A,F,rfl⟩:∃q A F,args=[q,A,F]:=by
     have:=C4 hr ha
     cases args with
     |nil=>cases h1
     |cons q l1=>cases l1 with
      |nil=>cases h1
      |cons A l2=>cases l2 with
       |nil=>cases h1
       |cons F l3=>cases l3 with
        |nil=>exact⟨_,_,_,rfl⟩
        |cons _ _=>cases h1
    exact(bH ho hd ha h1 hr).wp hK
   .cases hc
  .rename_i t x lo hi ho
   split at hc
   .cases F6 hc
   .rename_i e ht
    split at hc
    .rename_i n hn
     split at hc
     .obtain⟨args,ha,rfl⟩:=FT hc
      obtain⟨v,h1,rfl⟩:=EL
      cases args with
      |nil=>cases h1
      |cons y l=>exact(qQ ho ht hn ha h1 hr).wp hK
     .cases F6 hc
    .cases hc
   .cases hc
  .rename_i t x f ho
   split at hc
   .rename_i off S d hf hd
    split at hc
    .rename_i s ver cs ow hs
     cases hc
     obtain⟨rfl,rfl⟩:=NA EL
     have he:=S0 hr hs
     exact HC (w':=w) (v:= .pointer (some ⟨O s,off,none⟩)) (by simp only[execOp,ho,he];exact DV (by rw[LD hf];simp)) (hK _ _ _ _ (by rw[hd];exact hr.put (d:=some d) λ_ _=>rfl))
    .rename_i s k hs
     cases hc
     obtain⟨rfl,rfl⟩:=NA EL
     have he:=Q2 hr hs
     exact HC (w':=w) (v:= .pointer (some ⟨O s,k+off,none⟩)) (by simp only[execOp,ho,he];exact DV (LD hf _ _)) (hK _ _ _ _ (by rw[hd];exact hr.put (d:=some d) λ_ _=>rfl))
    .cases F6 hc
   .cases hc
  .split at hc
   .cases F6 hc
   .cases hc
  .split at hc
   .split at hc
    .cases F6 hc
    .cases hc
   .split at hc
    .split at hc
     .cases hc
     .cases F6 hc
    .cases hc
   .cases hc
  .split at hc
   .cases F6 hc
   .split at hc
    .cases F6 hc
    .cases hc
   .cases hc
  .cases F6 hc
  .rename_i c ho
   unfold Oe at hc
   split at hc
   .split at hc
    .split at hc
     .cases F6 hc
     .cases F6 hc
     .cases hc
    .cases hc
   .rename_i hcl
    split at hc
    .rename_i t t' s x h0 h1 DN
     split at hc
     all_goals first
      |(cases hc;done)
      | (rename_i e _ ht HL
         split at hc
         . rename_i n b hn hb
           split at hc
           . rename_i XY
             split at hc
             . rename_i v u ha
               split at hc
               . rename_i hown
                 split at hc
                 . cases hc
                   obtain ⟨r', j, rfl⟩ := EL
                   exact (lK ho hcl h0 h1 DN ht (by first | exact .inl ⟨_, HL⟩ | exact .inr HL) hn hb hown XY ha j hr).wp hK
                 . split at hc
                   . cases hc
                     obtain ⟨r', j, rfl, rfl⟩ := EL
                     exact (Ys ho hcl h0 h1 DN ht (by first | exact .inl ⟨_, HL⟩ | exact .inr HL) hn hb hown XY ha j hr).wp hK
                   . cases hc
                     obtain ⟨r', j, rfl, rfl⟩ := EL
                     exact (bC ho hcl h0 h1 DN ht (by first | exact .inl ⟨_, HL⟩ | exact .inr HL) hn hb hown XY ha j hr).wp hK
               . split at hc
                 . cases hc
                   obtain ⟨r', j, rfl⟩ := EL
                   exact (qN ho hcl h0 h1 DN ht (by first | exact .inl ⟨_, HL⟩ | exact .inr HL) hn hb XY ha j hr).wp hK
                 . cases hc
             . cases hc
           . cases hc
         . cases hc)
    .cases hc
   .rename_i hcl
    split at hc
    .rename_i t t' s x h0 h1 DN
     split at hc
     all_goals first
      |(cases hc;done)
      | (rename_i e _ ht HL
         split at hc
         . rename_i n hn
           obtain ⟨args, ha, rfl⟩ := FT hc
           obtain ⟨v, j, rfl⟩ := EL
           obtain ⟨q, A, rfl, _, _⟩ := D6 hr ha
           exact (qP ho hcl h0 h1 DN ht (by first | exact .inl ⟨_, HL⟩ | exact .inr HL) hn ha j hr).wp hK
         . cases hc)
    .cases hc
   .rename_i hcl
    split at hc
    .rename_i t s h0 DN
     split at hc
     .rename_i e ht
      split at hc
      .rename_i n z hn hz
       obtain⟨args,ha,rfl⟩:=FT hc
       obtain⟨v,j,rfl⟩:=EL
       obtain⟨q,rfl,_⟩:=Fo hr ha
       exact(lO ho hcl h0 DN ht hn hz ha j hr).wp hK
      .cases hc
     .cases hc
    .cases hc
   .split at hc
    .cases F6 hc
    .cases hc
   .split at hc
    .cases F6 hc
    .cases hc
   .rename_i f hcl
    split at hc
    .rename_i hf
     split at hc
     .rename_i s i x DN
      split at hc
      .rename_i hown
       obtain⟨args,ha,rfl⟩:=FT hc
       obtain⟨v,j,rfl⟩:=EL
       exact xE hS ho hcl hf DN hown ha j hr λγ' v w' FH=>hK _ _ _ _ FH
      .cases hc
     .cases hc
    split at hc
    rotate_left
    .cases hc
    rename_i QY
    rw[<-QY] at hcl
    cases ha:A0 C U c.args.toList with
    |none=>rw[ha] at hc;cases hc
    |some args=>
     rw[ha] at hc
     simp only[BM,Bv] at hc
     split at hc
     .cases hc
      obtain⟨HB,J,h1,h2,j,rfl,rfl⟩:=EL
      exact lG hS ho hcl ha HB h2 j hr λγ' v w' FH=>hK _ _ _ _ FH
     .cases hc
      obtain⟨J,h1,rfl⟩:=EL
      exact qH hS ho hcl ha h1 hr λγ' v w' FH=>hK _ _ _ _ FH
   .rename_i g hn hcl
    split at hc
    .rename_i T args hg ha
     cases hc
     obtain⟨f,args',J,h0,h1,rfl⟩:=EL
     exact lH hS ho hcl hg ha h0 h1 hr λγ' v w' FH=>hK _ _ _ _ FH
    .cases hc
   .cases hc
  .cases hc
end
end Go.Am
end
section
namespace Go.Am
open Go
section
variable{C:E7}{U Z:Bq}{fid:FuncId}{ops:List Oper}
def WC{x:Operand}(h:∀t,x= .tmp t->Z.at t=U.at t):Dg C Z x=Dg C U x:=by
 cases x with
 |tmp t=>simp only[Dg,h t rfl]
 |const v=>
  cases v with
  |slice a b c=>cases a<;>cases b<;>cases c<;>rfl
  |_=>rfl
 |global g=>rfl
 |func f=>rfl
def R6(C:E7)(U Z:Bq)(xs:List Operand):Prop:=∀x∈xs,Dg C Z x=Dg C U x
def R6.gH{xs:List Operand}(h:∀t∈Ii xs,Z.at t=U.at t):R6 C U Z xs:=λx hx=>WC λt ht=>h t (by subst ht;exact BR.2 ⟨_,hx,rfl⟩)
def R6.val{xs:List Operand}(h:R6 C U Z xs){x:Operand}(hx:x∈xs):DX C Z x=DX C U x:=by unfold DX;rw[h x hx]
def R6.IN{xs:List Operand}(h:R6 C U Z xs):∀{ys:List Operand},(∀y∈ys,y∈xs)->A0 C Z ys=A0 C U ys
 |[],_=>rfl
 |y::ys,hy=>by unfold A0;rw[h.val (hy y Au),h.IN λz hz=>hy z (by simp[hz])]
def R6.move{xs:List Operand}(h:R6 C U Z xs){x:Operand}(hx:x∈xs)(d:Nat)(take:Bool):IK C Z x d take=IK C U x d take:=by unfold IK;rw[h x hx]
def R6.Bn{xs:List Operand}(h:R6 C U Z xs){x:Operand}(hx:x∈xs):Jb C Z x=Jb C U x:=by unfold Jb;rw[h x hx]
def R6.CU{xs:List Operand}(h:R6 C U Z xs){x:Operand}(hx:x∈xs):CA Z x=CA U x:=by
 cases x with
 |tmp t=>have:=h _ hx;simp only[Dg,Bv] at this;simp only[CA,this]
 |_=>rfl
def R6.EY{xs:List Operand}(h:R6 C U Z xs):∀{ys:List Operand},(∀y∈ys,y∈xs)->Am.EY C Z ys=Am.EY C U ys
 |[],_=>rfl
 |y::ys,hy=>by unfold Am.EY;rw[h y (hy y Au),h.EY λz hz=>hy z (by simp[hz])]
def R6.addr{xs:List Operand}(h:R6 C U Z xs){x:Operand}(hx:x∈xs)(hb:∀s∈(LX C U x).toList,Z.at s=U.at s)(hn:EX C U x≠none):EX C Z x=EX C U x:=by
 have NY:=h x hx;cases hs:Dg C U x with
 |none=>unfold EX at hn;rw[hs] at hn;exact absurd (by split<;>simp_all) hn
 |some sl=>
  rw[hs] at NY;cases sl with
  |Ed s o=>
   have h1:∀J:Bq,Dg C J x=some (.Ed s o)->EX C J x=match J.at s with| .box ver cs ow=>some (.ML s o ver cs ow)|_=>none:=λJ b=>by unfold EX;rw[b];cases x<;>rfl
   rw[h1 U hs] at hn⊢;rw[h1 Z NY];have h2:s∈(LX C U x).toList:=by
    unfold LX;rw[h1 U hs];cases O0:U.at s with
    |box ver cs ow=>simp
    |_=>rw[O0] at hn;exact absurd rfl hn
   rw[hb s h2]
  |_=>unfold EX;rw[hs,NY];cases x<;>rfl
def R6.load{xs:List Operand}(h:R6 C U Z xs){x:Operand}(hx:x∈xs)(hb:∀s∈(LX C U x).toList,Z.at s=U.at s){t:TypeId}{d:Nat}{take:Bool}{r:DK}(hc:Jv C U t x d take=some r):Jv C Z t x d take=some r:=by
 have hn:EX C U x≠none:=λhe=>by unfold Jv at hc;rw[he] at hc;split at hc<;>simp_all
 unfold Jv at hc⊢;rw[h.addr hx hb hn];exact hc
def R6.store{xs:List Operand}(h:R6 C U Z xs){x y:Operand}(hx:x∈xs)(hy:y∈xs)(hb:∀s∈(LX C U x).toList,Z.at s=U.at s){t:TypeId}{r:DK}(hc:HJ C U t x y=some r):HJ C Z t x y=some r:=by
 have hn:EX C U x≠none:=λhe=>by unfold HJ at hc;rw[he] at hc;split at hc<;>simp_all
 unfold HJ at hc⊢;rw[h.addr hx hb hn,h.val hy,h.Bn hy,h.CU hy];exact hc
def R6.call{c:Call}(h:R6 C U Z c.operands.toList)(dst:Option Nat):Oe C fid Z c dst=Oe C fid U c dst:=by
 have ha:∀y∈c.args.toList,y∈c.operands.toList:=λy hy=>by unfold Call.operands;rw[Fw];exact Br _ hy
 have hv:A0 C Z c.args.toList=A0 C U c.args.toList:=h.IN ha;unfold Oe;split;.rw[hv]
 .split
  .rename_i DN;have h1:∀{s x:Operand},c.args.toList=[s,x]->Jb C Z s=Jb C U s/\CA Z s=CA U s/\A0 C Z [s,x]=A0 C U [s,x]:=λ{s x} he=>by rw[he] at ha;exact⟨h.Bn (ha s Au),h.CU (ha s Au),h.IN λy hy=>ha y hy⟩
   obtain⟨e1,d,b⟩:=h1 DN;rw[e1,d,b]
  .rfl
 .split;.rename_i DN;rw[DN] at ha;rw[h.IN λy hy=>ha y hy]
  .rfl
 .split;.rename_i DN;rw[DN] at ha;rw[h.IN λy hy=>ha y hy]
  .rfl
 .rw[hv]
 .rw[hv]
 .split
  .split;.rename_i s i v DN;rw[DN] at ha;rw[h.Bn (ha v Au),h.IN λy hy=>ha y hy]
   .rfl
  .rw[hv]
 .rename_i g _ hcl;have hg:g∈c.operands.toList:=by unfold Call.operands;rw[hcl];simp
  rw[hv,h.val hg]
 .rfl
def S1{o:Oper}{r:DK}(hc:EZ C fid ops U o=some r)(ht:∀t∈Ii o.op.operands.toList,Z.at t=U.at t)(hb:∀s∈Gq C U o,Z.at s=U.at s):EZ C fid ops Z o=some r:=by
 have h:R6 C U Z o.op.operands.toList:= .gH ht
 unfold EZ at hc⊢
 cases ho:o.op with
 |move x=>
  rw[ho] at h
  simp only[ho] at hc⊢
  have:=λd=>h.move (x:=x) Hd d
  simpa only[this] using hc
 |assign x=>
  rw[ho] at h
  simp only[ho] at hc⊢
  have:=λd=>h.move (x:=x) Hd d
  simpa only[this] using hc
 |pick c a b=>
  rw[ho] at h
  simp only[ho] at hc⊢
  have h1:=λd=>h.move (x:=a) Hd d
  have h2:=λd=>h.move (x:=b) Hd d
  rw[h c Hd,h.IN (ys:=[c,a,b]) Hd]
  simpa only[h1,h2] using hc
 |alloc t=>rw[ho] at hc;exact hc
 |box t x=>
  rw[ho] at h
  simp only[ho] at hc⊢
  rw[h.val (x:=x) Hd]
  exact hc
 |build t parts=>
  rw[ho] at h
  simp only[ho] at hc⊢
  rw[h.IN (ys:=parts.toList.map (·.2)) Hd]
  exact hc
 |buildSlice t len parts=>
  rw[ho] at h
  simp only[ho] at hc⊢
  rw[h.IN (ys:=parts.toList.map (·.2)) Hd]
  exact hc
 |load t x=>
  rw[ho] at h
  simp only[ho] at hc⊢
  split at hc
  .exact h.load Hd (λs hs=>hb s (by simpa only[Gq,ho] using hs)) hc
  .cases hc
 |store t x y=>
  rw[ho] at h
  simp only[ho] at hc⊢
  split at hc
  .exact h.store Hd Hd (λs hs=>hb s (by simpa only[Gq,ho] using hs)) hc
  .cases hc
 |nilCheck x=>
  rw[ho] at h
  simp only[ho] at hc⊢
  have e:=h.IN (ys:=[x]) Hd
  rw[h x Hd]
  cases hs:Dg C U x with
  |none=>rw[hs] at hc;cases x<;>cases hd:o.dst<;>rw[hd] at hc<;>first|exact hc|(show P6 _ _ (A0 C Z [_])=some r;rw[e];exact hc)
  |some sl=>rw[hs] at hc;cases sl<;>cases x<;>cases hd:o.dst<;>rw[hd] at hc<;>first|exact hc|(show P6 _ _ (A0 C Z [_])=some r;rw[e];exact hc)
 |binOp op t x y k=>
  rw[ho] at h
  simp only[ho] at hc⊢
  rw[h.IN (ys:=[x,y]) Hd]
  exact hc
 |unOp op t x=>
  rw[ho] at h
  simp only[ho] at hc⊢
  rw[h.IN (ys:=[x]) Hd]
  exact hc
 |convert src dst x=>
  rw[ho] at h
  simp only[ho] at hc⊢
  rw[h.IN (ys:=[x]) Hd,h.val (x:=x) Hd]
  exact hc
 |makeFunc fn first captured=>
  rw[ho] at h
  simp only[ho] at hc⊢
  rw[h.IN (ys:=first.toList) (λ_ hm=>by simp[Op.operands,hm]),h.EY (ys:=captured.toList) (λ_ hm=>by simp[Op.operands,hm])]
  exact hc
 |makeMap t r'=>
  rw[ho] at hc
  cases r' with
  |none=>exact hc
  |some _=>cases hc
 |makeSlice t l c=>
  rw[ho] at h
  simp only[ho] at hc⊢
  rw[h.val (x:=l) Hd,h.val (x:=c) Hd]
  exact hc
 |insert t m k v=>
  rw[ho] at h
  simp only[ho] at hc⊢
  rw[h.IN (ys:=[m,k,v]) Hd]
  exact hc
 |mapUpdate t m k v=>
  rw[ho] at h
  simp only[ho] at hc⊢
  rw[h.IN (ys:=[m,k,v]) Hd]
  exact hc
 |lookup t m k ok=>
  rw[ho] at h
  simp only[ho] at hc⊢
  rw[h.IN (ys:=[m,k]) Hd]
  exact hc
 |slice t x lo hi mx=>
  rw[ho] at h hc
  cases mx with
  |none=>
   have e:=h.IN (ys:=x::(lo.toList++hi.toList)) (by cases lo<;>cases hi<;>simp[Op.operands])
   simp only at hc⊢
   rw[e]
   exact hc
  |some mx=>cases lo with
   |none=>cases hc
   |some lo=>cases hi with
    |none=>cases hc
    |some hi=>
     have e:=h.IN (ys:=[x,lo,hi,mx]) Hd
     simp only at hc⊢
     rw[e]
     exact hc
 |makeInterface t x=>
  rw[ho] at h
  simp only[ho] at hc⊢
  rw[h.IN (ys:=[x]) Hd]
  exact hc
 |mapEntry t m k=>
  rw[ho] at h
  simp only[ho] at hc⊢
  rw[h.IN (ys:=[m,k]) Hd]
  exact hc
 |entryStore t m s v=>
  rw[ho] at h
  simp only[ho] at hc⊢
  rw[h.IN (ys:=[m,s,v]) Hd]
  exact hc
 |fieldAddr t x f=>
  rw[ho] at h
  simp only[ho] at hc⊢
  have e:=h.IN (ys:=[x]) Hd
  rw[h x Hd]
  cases hf:GI C.P t f with
  |none=>rw[hf] at hc;cases hc
  |some q=>
   rw[hf] at hc
   cases hd:o.dst with
   |none=>rw[hd] at hc;cases hc
   |some d=>
    rw[hd] at hc
    cases hs:Dg C U x with
    |none=>rw[hs] at hc;cases x<;>first|exact hc|(show P6 _ _ (A0 C Z [_])=some r;rw[e];exact hc)
    |some sl=>rw[hs] at hc;cases sl<;>cases x<;>first|exact hc|(show P6 _ _ (A0 C Z [_])=some r;rw[e];exact hc)
 |field t x f=>
  rw[ho] at h
  simp only[ho] at hc⊢
  rw[h.IN (ys:=[x]) Hd]
  exact hc
 |indexAddr t x i=>
  rw[ho] at h
  simp only[ho] at hc⊢
  rw[h.IN (ys:=[x,i]) Hd]
  exact hc
 |index t x i=>
  rw[ho] at h
  simp only[ho] at hc⊢
  rw[h.IN (ys:=[x,i]) Hd]
  exact hc
 |extract x i=>
  rw[ho] at h
  simp only[ho] at hc⊢
  rw[h.IN (ys:=[x]) Hd]
  exact hc
 |call c=>
  rw[ho] at h
  simp only[ho] at hc⊢
  rw[h.call]
  exact hc
 |_=>simp only[ho] at hc;cases hc
end
end Go.Am
end
section
namespace Go.Am
open Go
mutual
def Aa.Qj:∀{a b:Aa},Aa.beq a b=true->a=b
 | .bool a,b,h=>by cases b<;>simp[Aa.beq] at h⊢;exact h
 | .int k a,b,h=>by cases b<;>simp[Aa.beq] at h⊢;exact h
 | .str a,b,h=>by cases b<;>simp[Aa.beq] at h⊢;exact h
 | .ptr a,b,h=>by cases b<;>simp[Aa.beq] at h⊢;exact h
 | .EV a,b,h=>by cases b<;>simp[Aa.beq] at h⊢;exact h
 | .Cb a,b,h=>by cases b<;>simp[Aa.beq] at h⊢;exact Aa.L9 h
 | .sl n a,b,h=>by cases b<;>simp[Aa.beq] at h⊢;exact⟨h.1,Aa.YB h.2⟩
 | .slnil,b,h=>by cases b<;>simp[Aa.beq] at h⊢
 | .CG a c d e,b,h=>by cases b<;>simp[Aa.beq] at h⊢;exact⟨h.1.1.1,h.1.1.2,h.1.2,h.2⟩
 | .map a,b,h=>by cases b<;>simp[Aa.beq] at h⊢;exact h
 | .func f a c,b,h=>by cases b<;>simp[Aa.beq] at h⊢;exact⟨h.1.1,Aa.L9 h.1.2,Aa.L9 h.2⟩
 | .nilFunc,b,h=>by cases b<;>simp[Aa.beq] at h⊢
 | .iface t a,b,h=>by cases b<;>simp[Aa.beq] at h⊢;exact⟨h.1,Aa.Qj h.2⟩
 | .nilIface,b,h=>by cases b<;>simp[Aa.beq] at h⊢
 | .agg a,b,h=>by cases b<;>simp[Aa.beq] at h⊢;exact Aa.L9 h
 | .tuple a,b,h=>by cases b<;>simp[Aa.beq] at h⊢;exact Aa.L9 h
def Aa.L9:∀{a b:List Aa},Aa.OS a b=true->a=b
 |[],b,h=>by cases b<;>simp[Aa.OS] at h⊢
 |a::x,b,h=>by
  cases b with
  |nil=>simp[Aa.OS] at h
  |cons c y=>simp[Aa.OS] at h⊢;exact⟨Aa.Qj h.1,Aa.L9 h.2⟩
def Aa.YB:∀{a b:List (List Aa)},Aa.OT a b=true->a=b
 |[],b,h=>by cases b<;>simp[Aa.OT] at h⊢
 |a::x,b,h=>by
  cases b with
  |nil=>simp[Aa.OT] at h
  |cons c y=>simp[Aa.OT] at h⊢;exact⟨Aa.L9 h.1,Aa.YB h.2⟩
end
def Bq.HZ(U:Bq):∀(a b:List (Nat×Dw)),U.Dr (a++b)=(U.Dr a).Dr b
 |[],_=>rfl
 |(s,x)::a,b=>Bq.HZ (U.set s x) a b
def Bq.H0:∀(ws:List (Nat×Dw)) (U:Bq),(U.Dr ws).length=U.length
 |[],_=>rfl
 |(s,x)::ws,U=>by rw[Bq.Dr,Bq.H0 ws];simp
def Bq.S2(U:Bq)(s t:Nat)(x:Dw):Bq.at (U.set s x) t=if s=t/\t<U.length then x else U.at t:=by
 by_cases h:s=t
 .subst h;by_cases hl:s<U.length;.simp[Bq.at,List.getD,hl]
  .simp[Bq.at,List.getD,hl]
 .simp[Bq.at,List.getD,Aj h,h]
def Bq.Fp:∀(ws:List (Nat×Dw)) (U:Bq) (t:Nat),(∀p∈ws,p.1≠t)->(U.Dr ws).at t=U.at t
 |[],_,_,_=>rfl
 |(s,x)::ws,U,t,h=>by rw[Bq.Dr,Bq.Fp ws _ t λp hp=>h p (by simp[hp]),Bq.S2,Ac];exact λe=>h (s,x) Au e.1
def Bq.S3:∀(ws:List (Nat×Dw)) (U:Bq) (t:Nat),(U.Dr ws).at t=U.at t\/∃p∈ws,p.1=t/\(U.Dr ws).at t=p.2
 |[],_,_=> .inl rfl
 |(s,x)::ws,U,t=>by
  rcases Bq.S3 ws (U.set s x) t with h|⟨p,hp,h1,h2⟩
  .rw[Bq.S2] at h;by_cases hc:s=t/\t<U.length;.rw[Ad hc] at h;exact .inr ⟨(s,x),Au,hc.1,h⟩
   .rw[Ac hc] at h;exact .inl h
  .exact .inr ⟨p,by simp[hp],h1,h2⟩
def Bq.HE:∀(ws:List (Nat×Dw)) (U Z:Bq) (t:Nat),Z.length=U.length->Z.at t=U.at t->(Z.Dr ws).at t=(U.Dr ws).at t
 |[],_,_,_,_,h=>h
 |(s,x)::ws,U,Z,t,hl,h=>by refine Bq.HE ws _ _ t (by simpa using hl) ?_;rw[Bq.S2,Bq.S2,hl,h]
def Bq.ext{U Z:Bq}(hl:Z.length=U.length)(h:∀t,Z.at t=U.at t):Z=U:=by apply List.ext_getElem hl;intro i h1 h2;have:=h i;simpa[Bq.at,List.getD,h1,h2] using this
def Bq.lQ{U:Bq}{a b:List (Nat×Dw)}(h:∀p∈a,∀q∈b,p.1≠q.1):(U.Dr a).Dr b=(U.Dr b).Dr a:=by
 refine Bq.ext (by simp[Bq.H0]) λt=>?_;by_cases ha:∀p∈a,p.1≠t;.rw[Bq.Fp a (U.Dr b) t ha];exact Bq.HE b _ _ t (by simp[Bq.H0]) (Bq.Fp a U t ha)
 .have⟨p,hp,c⟩:∃p∈a,p.1=t:=Classical.byContradiction λhn=>ha λp hp e=>hn ⟨p,hp,e⟩;have hb:∀q∈b,q.1≠t:=λq hq e=>h p hp q hq (by rw[c,e]);rw[Bq.Fp b (U.Dr a) t hb];exact(Bq.HE a _ _ t (by simp[Bq.H0]) (Bq.Fp b U t hb)).symm
def Ma{U:Bq}{ds:List Nat}:Lc U ds=true↔∀x t o,U.at x= .Ed t o->t∉ds:=by
 unfold Lc;rw[D8];constructor
 .intro h x t o hx;by_cases hl:x<U.length;.have:=h (U.at x) (by simp[Bq.at,List.getD,hl]);rw[hx] at this;simpa using this
  .simp[Bq.at,List.getD,hl] at hx
 .intro h s hs;obtain⟨i,hi⟩:=Cf hs;cases s with
  |Ed t o=>have:=h i t o (by simp[Bq.at,List.getD,hi]);simpa using this
  |_=>rfl
def lR{a b:List Nat}:QT a b=true↔∃x,x∈a/\x∈b:=by simp[QT]
structure St where
 idx:Nat
 fp:FP
 fl:Option IG
def I8(i:Nat)(r:DK)(U:Bq):Option IG:=
 match r with
 | .load n p (some d)=>match U.at d with
  | .val v=>some {idx:=i,n,p,v}
  |_=>none
 |_=>none
def S4(i:Nat)(r:DK)(U:Bq)(fl:List IG):KN i r U fl=(I8 i r U).toList++fl:=by
 cases r with
 |load n p dst=>
  cases dst with
  |none=>rfl
  |some d=>simp only[KN,I8];cases U.at d<;>rfl
 |_=>rfl
def UE{i:Nat}{r:DK}{U Z:Bq}(h:∀d∈r.wf,Z.at d=U.at d):I8 i r Z=I8 i r U:=by
 cases r with
 |load n p dst=>
  cases dst with
  |none=>rfl
  |some d=>simp only[I8];rw[h d (by simp[DK.wf])]
 |_=>rfl
def KR(d:Option Nat)(U U':Bq):Prop:=
 match d with
 |none=>U'=U
 |some d=>match U.at d with
  | .val v=>∃b,v= .bool b/\U'=U.set d (.MC b)
  |_=>U'=U
section
variable{C:E7}{fid:FuncId}{ops:List Oper}{run:IT->Ag->Option IF}{U Z U':Bq}{h h':Ag}
def MW(C:E7)(fid:FuncId)(ops:List Oper)(run:IT->Ag->Option IF)(s:St)(U:Bq)(h:Ag)(U':Bq)(h':Ag):Prop:=
 ∃o,ops[s.idx]?=some o/\
  ((Hc ops U o = .Lt false /\ s.fp = Rx C ops U o none /\ s.fl = none /\ U' = U.put o.dst .skip /\ h' = h) \/
   ∃ r U1, Hc ops U o = .Lt true /\ EZ C fid ops U o = some r /\ s.fp = Rx C ops U o (some r) /\ r.Lw C run (U.drop r.news) h U1 h' /\ s.fl = I8 s.idx r U1 /\
     KR (if OY ops s.idx then o.dst else none) U1 U')
def S5(U:Bq)(d:Option Nat)(x:Dw):U.put d x=U.Dr (d.toList.map λs=>(s,x)):=by cases d<;>rfl
def lS(U:Bq)(d:Option (Nat×Aa)):U.CU d=U.Dr (d.toList.map λp=>(p.1,.val p.2)):=by cases d<;>rfl
def Vy{r:DK}(hd:r.Lw C run U h U' h'):∃ws,U'=U.Dr ws/\(∀p∈ws,p.1∈r.wf)/\(∀p∈ws,∀t o,p.2= .Ed t o->t∈r.fV)/\∀Z,r.Lw C run Z h (Z.Dr ws) h':=by
 have one:∀(d:Option Nat) (x:Dw),(∀t o,x≠ .Ed t o)->U'=U.put d x->d.toList⊆r.wf->(∀Z,r.Lw C run Z h (Z.put d x) h')->
   ∃ws,U'=U.Dr ws/\(∀p∈ws,p.1∈r.wf)/\(∀p∈ws,∀t o,p.2= .Ed t o->t∈r.fV)/\∀Z,r.Lw C run Z h (Z.Dr ws) h':=by
  intro d x hx he hw ht;refine⟨d.toList.map λs=>(s,x),by rw[<-S5];exact he,λp hp=>?_,λp hp t o hl=>?_,λZ=>by rw[<-S5];exact ht Z⟩;.obtain⟨s,hs,rfl⟩:=AR.1 hp;exact hw hs
  .obtain⟨s,hs,rfl⟩:=AR.1 hp;exact absurd hl (hx t o)
 have aP:∀(i:Option (Nat×Aa)) (d:Option Nat) (x:Dw),(∀t o,x≠ .Ed t o)->U'=(U.CU i).put d x->d.toList⊆r.wf->(i.map (·.1)).toList⊆r.wf->(∀Z,r.Lw C run Z h ((Z.CU i).put d x) h')->
   ∃ws,U'=U.Dr ws/\(∀p∈ws,p.1∈r.wf)/\(∀p∈ws,∀t o,p.2= .Ed t o->t∈r.fV)/\∀Z,r.Lw C run Z h (Z.Dr ws) h':=by
  intro i d x hx he hw lT ht;have e:∀Z:Bq,(Z.CU i).put d x=Z.Dr ((i.toList.map λp=>(p.1,.val p.2))++d.toList.map λs=>(s,x)):=λZ=>by rw[Bq.HZ,<-lS,<-S5]
  refine⟨_,by rw[he,e],λp hp=>?_,λp hp t o hl=>?_,λZ=>by rw[<-e];exact ht Z⟩
  .rcases Al.1 hp with hp|hp
   .obtain⟨q,hq,rfl⟩:=AR.1 hp;exact lT (by cases i<;>simp_all)
   .obtain⟨s,hs,rfl⟩:=AR.1 hp;exact hw hs
  .rcases Al.1 hp with hp|hp
   .obtain⟨q,hq,rfl⟩:=AR.1 hp;cases hl
   .obtain⟨s,hs,rfl⟩:=AR.1 hp;exact absurd hl (hx t o)
 cases r with
 |pure ws=>obtain⟨rfl,rfl⟩:=hd;refine⟨ws,rfl,λp hp=>AR.2 ⟨p,hp,rfl⟩,λp hp t o hl=>?_,λZ=>⟨rfl,rfl⟩⟩;exact BR.2 ⟨p.2,AR.2 ⟨p,hp,rfl⟩,by rw[hl]⟩
 |op p args dst Bn i=>obtain⟨v,hv,rfl,rfl⟩:=hd;exact aP i dst _ (by cases Bn<;>simp) rfl (by simp[DK.wf]) (by simp[DK.wf]) λZ=>⟨v,hv,rfl,rfl⟩
 |box n v d=>obtain⟨hn,rfl,rfl⟩:=hd;exact one (some d) _ Au rfl (by simp[DK.wf]) λZ=>⟨hn,rfl,rfl⟩
 |JS fn x b fz d=>
  obtain⟨rfl,rfl⟩:=hd;refine⟨(fz.map λ(s,cs)=>(s,.val (.Cb cs)))++[(d,.val (.func fn x b))],by rw[Bq.HZ];rfl,λp hp=>?_,λp hp t o hl=>?_,λZ=>⟨by rw[Bq.HZ];rfl,rfl⟩⟩
  .rcases Al.1 hp with hp|hp
   .obtain⟨q,hq,rfl⟩:=AR.1 hp;exact D9 _ (AR.2 ⟨q,hq,rfl⟩)
   .simp at hp;subst hp;simp[DK.wf]
  .rcases Al.1 hp with hp|hp
   .obtain⟨q,hq,rfl⟩:=AR.1 hp;cases hl
   .simp at hp;subst hp;cases hl
 |Lb s off n v Bn i ver cells owned=>obtain⟨hn,rfl,rfl⟩:=hd;exact aP i (some s) _ Au rfl (by simp[DK.wf]) (by simp[DK.wf]) λZ=>⟨hn,rfl,rfl⟩
 |load n p dst=>obtain⟨v,hv,rfl,rfl⟩:=hd;exact one dst _ Au rfl (by simp[DK.wf]) λZ=>⟨v,hv,rfl,rfl⟩
 |store n p v=>obtain⟨hv,rfl⟩:=hd;exact one none .undef Au rfl Au λZ=>⟨hv,rfl⟩
 |alloc n v dst=>obtain⟨hn,rfl,rfl⟩:=hd;exact one dst _ Au rfl (by simp[DK.wf]) λZ=>⟨hn,rfl,rfl⟩
 |call f args dst=>obtain⟨v,hv,rfl⟩:=hd;exact one dst _ (by intro t o;split<;>simp) rfl (by simp[DK.wf]) λZ=>⟨v,hv,rfl⟩
 |EK g args dst=>obtain⟨f,x,v,h1,h2,rfl⟩:=hd;exact one dst _ Au rfl (by simp[DK.wf]) λZ=>⟨f,x,v,h1,h2,rfl⟩
 |Ck f args dst=>obtain⟨HB,v,h1,h2,j,rfl,rfl⟩:=hd;exact one dst _ Au rfl (by simp[DK.wf]) λZ=>⟨HB,v,h1,h2,j,rfl,rfl⟩
 |NO dst=>obtain⟨rfl,rfl⟩:=hd;exact one dst _ Au rfl (by simp[DK.wf]) λZ=>⟨rfl,rfl⟩
 |Ja m k v=>obtain⟨hv,rfl⟩:=hd;exact one none .undef Au rfl Au λZ=>⟨hv,rfl⟩
 |Ls z ok m k dst=>obtain⟨v,hv,rfl,rfl⟩:=hd;exact one dst _ Au rfl (by simp[DK.wf]) λZ=>⟨v,hv,rfl,rfl⟩
 |make z b zero l c dst=>obtain⟨v,hv,rfl⟩:=hd;exact one dst _ Au rfl (by simp[DK.wf]) λZ=>⟨v,hv,rfl⟩
 |IE z b s x dst i=>obtain⟨v,hv,rfl⟩:=hd;exact aP i dst _ Au rfl (by simp[DK.wf]) (by simp[DK.wf]) λZ=>⟨v,hv,rfl⟩
 |FG z b s x dst=>obtain⟨v,hv,rfl⟩:=hd;exact one dst _ Au rfl (by simp[DK.wf]) λZ=>⟨v,hv,rfl⟩
 |Fk z b s x dst i=>obtain⟨v,hv,rfl,rfl⟩:=hd;exact aP i dst _ Au rfl (by simp[DK.wf]) (by simp[DK.wf]) λZ=>⟨v,hv,rfl,rfl⟩
 |EE s dst=>obtain⟨v,hv,rfl⟩:=hd;exact one dst _ Au rfl (by simp[DK.wf]) λZ=>⟨v,hv,rfl⟩
 |Uu s dst=>obtain⟨v,u,h1,h2,rfl⟩:=hd;exact one dst _ Au rfl (by simp[DK.wf]) λZ=>⟨v,u,h1,h2,rfl⟩
 |mem o args dst=>obtain⟨v,hv,rfl⟩:=hd;exact one dst _ (by intro t o';split<;>simp) rfl (by simp[DK.wf]) λZ=>⟨v,hv,rfl⟩
def Qk{r:DK}(hd:r.Lw C run U h U' h')(he:r.OR=false):h'=h/\
  (r.hl=false->∀h2,r.Lw C run U h2 U' h2)/\
  ∀n p d,r= .load n p (some d)->∃v,BE h n p=some v/\U'=U.set d (.val v)/\∀h2,BE h2 n p=some v->r.Lw C run U h2 U' h2:=by
 cases r<;>simp only[DK.OR] at he<;>try(exact absurd he Be)
 case pure ws=>obtain⟨rfl,rfl⟩:=hd;exact⟨rfl,λ_ _=>⟨rfl,rfl⟩,Au⟩
 case op p args dst Bn g=>obtain⟨v,hv,rfl,rfl⟩:=hd;exact⟨rfl,λ_ _=>⟨v,hv,rfl,rfl⟩,Au⟩
 case box n v d=>obtain⟨hn,rfl,rfl⟩:=hd;exact⟨rfl,λ_ _=>⟨hn,rfl,rfl⟩,Au⟩
 case JS fn x b fz d=>obtain⟨rfl,rfl⟩:=hd;exact⟨rfl,λ_ _=>⟨rfl,rfl⟩,Au⟩
 case Lb s off n v Bn g ver cells owned=>obtain⟨hn,rfl,rfl⟩:=hd;exact⟨rfl,λ_ _=>⟨hn,rfl,rfl⟩,Au⟩
 case load n p dst=>obtain⟨v,hv,rfl,rfl⟩:=hd;refine⟨rfl,λc=>absurd c (by simp[DK.hl]),λn' p' d he=>?_⟩;cases he;exact⟨v,hv,rfl,λh2 e=>⟨v,e,rfl,rfl⟩⟩
 case Ls z ok m k dst=>obtain⟨v,hv,rfl,rfl⟩:=hd;exact⟨rfl,λc=>absurd c (by simp[DK.hl]),Au⟩
 case Ck f args dst=>obtain⟨HB,v,h1,h2,i,rfl,rfl⟩:=hd;exact⟨rfl,λ_ _=>⟨HB,v,h1,h2,i,rfl,rfl⟩,Au⟩
def Q3{ds:List Nat}(hn:Lc U ds=true):U.drop ds=U:=by
 refine Bq.ext (Bq.length_drop U ds) λt=>?_;rw[Bq.O7];cases hx:U.at t with
 |Ed t' o=>have:=Ma.1 hn t t' o hx;simp[this]
 |_=>rfl
def N0{o:Oper}(h:∀t∈Et ops o,Z.at t=U.at t):Hc ops Z o=Hc ops U o:=by
 unfold Hc;unfold Et at h;cases hg:o.guard with
 |none=>rfl
 |some g=>
  obtain⟨j,want⟩:=g;rw[hg] at h;simp only at h⊢;cases hd:(ops[j]?).bind (·.dst) with
  |none=>rfl
  |some s=>
   rw[hd] at h;simp only
   rw[h s Au]
def RH{o:Oper}{r:DK}(hc:EZ C fid ops U o=some r)(ht:∀t∈Ii o.op.operands.toList,Z.at t=U.at t)(hb:∀s∈Gq C U o,Z.at s=U.at s):Gq C Z o=Gq C U o:=by
 have h:R6 C U Z o.op.operands.toList:= .gH ht
 unfold Gq at hb⊢
 cases ho:o.op with
 |load t x=>
  rw[ho] at h hb
  simp only at hb⊢
  have hn:EX C U x≠none:=λhe=>by
   unfold EZ at hc
   simp only[ho] at hc
   split at hc
   .unfold Jv at hc;rw[he] at hc;split at hc<;>simp_all
   .cases hc
  unfold LX
  rw[h.addr Hd hb hn]
 |store t x y=>
  rw[ho] at h hb
  simp only at hb⊢
  have hn:EX C U x≠none:=λhe=>by
   unfold EZ at hc
   simp only[ho] at hc
   split at hc
   .unfold HJ at hc;rw[he] at hc;split at hc<;>simp_all
   .cases hc
  unfold LX
  rw[h.addr Hd hb hn]
 |_=>rfl
def Q4{xs:List Dw}{t o:Nat}(h: .Ed t o∈xs):t∈R4 xs:=BR.2 ⟨_,h,rfl⟩
def MW.spec{s:St}(hs:MW C fid ops run s U h U' h')(hf:s.fp.Qa=true):
  ∃ws,U'=U.Dr ws/\(∀p∈ws,p.1∈s.fp.wf)/\(∀p∈ws,∀t o,p.2= .Ed t o->t∈s.fp.lr)/\(∀x∈s.fp.wf,∀t o,U.at x= .Ed t o->t∈s.fp.lr)/\Lc U s.fp.news=true/\(s.fp.OR=false->h'=h)/\
   (s.fp.OR=false->s.fp.hl=true->∃f,s.fl=some f)/\
   ∀(Z:Bq) (h2 X1:Ag),Z.length=U.length->(∀x∈s.fp.rs++s.fp.wf,Z.at x=U.at x)->Lc Z s.fp.news=true->
    ((h2=h/\X1=h')\/(s.fp.OR=false/\X1=h2/\(s.fp.hl=true->∀f,s.fl=some f->BE h2 f.n f.p=some f.v)))->MW C fid ops run s Z h2 (Z.Dr ws) X1:=by
 obtain⟨o,ho,⟨hg,lg,HB,rfl,rfl⟩|⟨r,U1,hg,hc,lg,hd,HB,ha⟩⟩:=hs
 .rw[lg] at hf⊢;refine⟨o.dst.toList.map λd=>(d,.skip),S5 _ _ _,λp hp=>?_,λp hp t k hl=>?_,λx hx t k hl=>?_,Ma.2 (by simp[Rx]),λ_=>rfl,λ_ c=>absurd c (by simp[Rx]),λZ h2 X1 hlen qY _ Hn=>?_⟩;.obtain⟨d,hd,rfl⟩:=AR.1 hp;exact hd
  .obtain⟨d,hd,rfl⟩:=AR.1 hp;cases hl
  .exact Q4 (o:=k) (AR.2 ⟨x,hx,hl⟩)
  .have c:X1=h2:=by rcases Hn with⟨e1,m⟩|⟨_,e,_⟩<;>first|exact e|rw[e1,m]
   refine⟨o,ho,.inl ⟨?_,?_,HB,(S5 _ _ _).symm,c⟩⟩;.rw[N0 λt ht=>qY t (B7 _ ht)];exact hg
   .rw[lg];have e:o.dst.toList.map Z.at=o.dst.toList.map U.at:=Vb λx hx=>qY x (Br _ hx);simp only[Rx,e]
 .rw[lg] at hf⊢;have oR:r.Qa U=true:=hf;have NQ:Lc U r.news=true:=by unfold DK.Qa at oR;rw[Bi] at oR;exact oR.1
  rw[Q3 NQ] at hd;obtain⟨qZ,rfl,hw,l,Qc⟩:=Vy hd;have aAr:∃xr:List (Nat×Dw),U'=(U.Dr qZ).Dr xr/\(∀p∈xr,o.dst=some p.1/\∃b,p.2= .MC b)/\∀Z:Bq,Z.length=U.length->(∀x∈r.wf++o.dst.toList,Z.at x=U.at x)->KR (if OY ops s.idx then o.dst else none) (Z.Dr qZ) ((Z.Dr qZ).Dr xr):=by
   by_cases ve:OY ops s.idx=true
   .rw[Ad ve] at ha;cases Pe:o.dst with
    |none=>rw[Pe] at ha;exact⟨[],ha,Au,λZ _ _=>by simp[ve,KR,Bq.Dr]⟩
    |some d=>
     rw[Pe] at ha;simp only[KR] at ha;have wC:∀Z:Bq,Z.length=U.length->(∀x∈r.wf++[d],Z.at x=U.at x)->(Z.Dr qZ).at d=(U.Dr qZ).at d:=λZ hl qY=>Bq.HE qZ U Z d hl (qY d Au);cases hx:(U.Dr qZ).at d with
     |val v=>rw[hx] at ha;obtain⟨b,rfl,rfl⟩:=ha;refine⟨[(d,.MC b)],rfl,Au,λZ hl qY=>?_⟩;simp only[ve,BB,KR];rw[wC Z hl qY,hx];exact⟨b,rfl,rfl⟩
     |_=>rw[hx] at ha;refine⟨[],ha,Au,λZ hl qY=>?_⟩;simp only[ve,BB,KR];rw[wC Z hl qY,hx];rfl
   .rw[Ac ve] at ha;exact⟨[],ha,Au,λZ _ _=>by rw[Ac ve];rfl⟩
  obtain⟨xr,rfl,lT,xt⟩:=aAr;have ŉ:r.hl=true->∃n p d,r= .load n p (some d)/\d<U.length:=λc=>by
   unfold DK.Qa at oR;rw[Bi] at oR;cases r with
   |load n p dst=>
    cases dst with
    |none=>exact absurd oR.2 Au
    |some d=>exact⟨n,p,d,rfl,by simpa using oR.2⟩
   |Ls _ _ _ _ _=>exact absurd oR.2 Au
   |_=>simp[DK.hl] at c
  have xu:r.OR=false->∀n p d,r= .load n p (some d)->d<U.length->∃v,BE h n p=some v/\s.fl=some {idx:=s.idx,n,p,v}:=by intro he n p d hr q6;obtain⟨v,i,g,_⟩:=(Qk hd he).2.2 n p d hr;refine⟨v,i,?_⟩;rw[HB,hr];simp only[I8];rw[g,Bq.Em q6]
  have aAs:∀(Z:Bq) h2 X1,((h2=h/\X1=h')\/(r.OR=false/\X1=h2/\(r.hl=true->∀f,s.fl=some f->BE h2 f.n f.p=some f.v)))->r.Lw C run Z h2 (Z.Dr qZ) X1:=by
   intro Z h2 X1 Hn;rcases Hn with⟨rfl,rfl⟩|⟨he,rfl,QY⟩
   .exact Qc Z
   .obtain⟨_,y,k3⟩:=Qk (Qc Z) he;cases c:r.hl with
    |false=>exact y c _
    |true=>obtain⟨n,p,d,hr,q6⟩:=ŉ c;obtain⟨v,i,g⟩:=xu he n p d hr q6;obtain⟨v',q,_,u⟩:=k3 n p d hr;rw[i] at q;cases q;exact u _ (QY c _ g)
  refine⟨qZ++xr,by rw[Bq.HZ],λp hp=>?_,λp hp t k hl=>?_,λx hx t k hl=>?_,NQ,λhe=>(Qk hd he).1,λhe c=>?_,λZ h2 X1 hlen qY j Hn=>?_⟩
  .rcases Al.1 hp with hp|hp
   .exact B7 _ (hw p hp)
   .exact Br _ (by rw[(lT p hp).1];simp)
  .rcases Al.1 hp with hp|hp
   .exact Br _ (l p hp t k hl)
   .obtain⟨_,b,e⟩:=lT p hp;rw[e] at hl;cases hl
  .exact B7 _ (Q4 (o:=k) (AR.2 ⟨x,hx,hl⟩))
  .obtain⟨n,p,d,hr,q6⟩:=ŉ c;obtain⟨v,_,g⟩:=xu he n p d hr q6;exact⟨_,g⟩
  .have vf:∀t∈Et ops o++Ii o.op.operands.toList++Gq C U o,Z.at t=U.at t:=λt ht=>qY t (B7 _ ht);have hwf:∀t∈r.wf++o.dst.toList,Z.at t=U.at t:=λt ht=>qY t (Br _ ht);have ht:∀t∈Ii o.op.operands.toList,Z.at t=U.at t:=λt ht=>vf t (by simp[ht]);have hb:∀t∈Gq C U o,Z.at t=U.at t:=λt ht=>vf t (by simp[ht]);have xw:Lc Z r.news=true:=j;refine⟨o,ho,.inr ⟨r,Z.Dr qZ,?_,S1 hc ht hb,?_,?_,?_,?_⟩⟩;.rw[N0 λt ht=>vf t (by simp[ht])];exact hg
   .rw[lg];have e1:(r.wf++o.dst.toList).map Z.at=(r.wf++o.dst.toList).map U.at:=Vb λx hx=>hwf x hx;have m:r.Qa Z=r.Qa U:=by unfold DK.Qa;rw[NQ,xw,hlen]
    simp only[Rx,e1,m,RH hc ht hb]
   .rw[Q3 xw];exact aAs Z h2 X1 Hn
   .rw[HB];exact(UE λd hd=>Bq.HE qZ U Z d hlen (hwf d (B7 _ hd))).symm
   .rw[Bq.HZ];exact xt Z hlen hwf
end
end Go.Am
end
section
namespace Go.Am
open Go
section
variable{C:E7}{fid:FuncId}{ops:List Oper}{run:IT->Ag->Option IF}{an:List Nat}
def J4{a b:List Nat}(h:(!QT a b)=true){x:Nat}(hx:x∈a):x∉b:=λhb=>by have:QT a b=true:=lR.2 ⟨x,hx,hb⟩;simp[this] at h
def swap{p s:St}{U σa U1:Bq}{h ha h1:Ag}(hp:MW C fid ops run p U h σa ha)(hs:MW C fid ops run s σa ha U1 h1)(JK:Of p.fp s.fp=true)
  (QY:s.fp.OR=true->∀f,p.fl=some f->BE h1 f.n f.p=some f.v):
  ∃σs XV,MW C fid ops run s U h σs XV/\MW C fid ops run p σs XV U1 h1/\(s.fp.OR=true->XV=h1)/\(p.fp.OR=true->h1=ha):=by
 unfold Of FP.apart at JK;simp only[Bi] at JK;obtain⟨⟨⟨⟨pf,y⟩,⟨⟨a1,a2⟩,a3⟩,a4⟩,he⟩,hl⟩:=JK;obtain⟨c,rfl,j,kX,u,lj,l,Ŋ,ez⟩:=hp.spec pf;obtain⟨b,rfl,i,Z6,z,k,Z3,A,q7⟩:=hs.spec y;have g:∀x∈s.fp.rs++s.fp.wf,(U.Dr c).at x=U.at x:=λx hx=>Bq.Fp c U x λq hq e=>J4 a1 (j q hq) (by rw[e];exact hx);have d:Lc U s.fp.news=true:=by
  rw[Ma] at k⊢;intro x t o hx;by_cases hw:x∈p.fp.wf;.exact J4 a3 (u x hw t o hx)
  .refine k x t o ?_;rw[Bq.Fp c U x λq hq e=>hw (by rw[<-e];exact j q hq)];exact hx
 have hlen:∀(Z:Bq) (ws:List (Nat×Dw)),(Z.Dr ws).length=Z.length:=λZ ws=>Bq.H0 ws Z;have e_:(U.Dr b).Dr c=(U.Dr c).Dr b:=(Bq.lQ λq hq r hr e=>by have:=J4 a1 (j q hq);exact this (Br _ (by rw[e];exact i r hr))).symm
 have outs:∀x∈p.fp.rs++p.fp.wf,(U.Dr b).at x=U.at x:=λx hx=>Bq.Fp b U x λq hq e=>by
  rcases Al.1 hx with hx|hx
  .exact J4 a2 (i q hq) (by rw[e];exact hx)
  .exact J4 a1 hx (Br _ (by rw[<-e];exact i q hq))
 have m:Lc (U.Dr b) p.fp.news=true:=by
  rw[Ma] at lj⊢;intro x t o hx;rcases Bq.S3 b U x with h0|⟨q,hq,_,h2⟩
  .exact lj x t o (by rw[<-h0];exact hx)
  .rw[h2] at hx;exact J4 a4 (Z6 q hq t o hx)
 by_cases HR:s.fp.OR=true
 .have vg:p.fp.OR=false:=by
   cases hq:p.fp.OR with
   |false=>rfl
   |true=>simp[HR,hq] at he
  have ŋ:ha=h:=l vg;subst ŋ;refine⟨U.Dr b,h1,q7 U ha h1 (hlen U c).symm (λx hx=>(g x hx).symm) d (.inl ⟨rfl,rfl⟩),?_,λ_=>rfl,λe=>by rw[vg] at e;cases e⟩;rw[<-e_];exact ez (U.Dr b) h1 h1 (hlen U b) outs m (.inr ⟨vg,rfl,λ_ f hf=>QY HR f hf⟩)
 .have xy:s.fp.OR=false:=by simpa using HR
  have ll:h1=ha:=Z3 xy;subst ll;refine⟨U.Dr b,h,?_,?_,λe=>absurd e HR,λ_=>rfl⟩
  .by_cases vg:p.fp.OR=true;.refine q7 U h h (hlen U c).symm (λx hx=>(g x hx).symm) d (.inr ⟨xy,rfl,λB=>?_⟩);simp[vg,B] at hl
   .have aAv:p.fp.OR=false:=by simpa using vg
    have ŋ:=l aAv;exact q7 U h h (hlen U c).symm (λx hx=>(g x hx).symm) d (.inl ⟨ŋ.symm,ŋ.symm⟩)
  .rw[<-e_];exact ez (U.Dr b) h h1 (hlen U b) outs m (.inl ⟨rfl,rfl⟩)
inductive Steps(C:E7)(fid:FuncId)(ops:List Oper)(run:IT->Ag->Option IF)(an:List Nat):List IG->List St->Bq->Ag->Bq->Ag->Prop
 |nil {fl:List IG} {U:Bq} {h:Ag}:Steps C fid ops run an fl [] U h U h
 |cons {fl:List IG} {s:St} {L:List St} {U U1 σf:Bq} {h h1 hf:Ag}:MW C fid ops run s U h U1 h1->(s.fp.OR=true->∀f∈fl,Dy an f.idx s.idx=false->BE h1 f.n f.p=some f.v)->
  Steps C fid ops run an (s.fl.toList++fl) L U1 h1 σf hf->Steps C fid ops run an fl (s::L) U h σf hf
def Steps.sub{fl:List IG}{L:List St}{U σf:Bq}{h hf:Ag}(hs:Steps C fid ops run an fl L U h σf hf):∀{Ō:List IG},(∀f∈Ō,f∈fl)->Steps C fid ops run an Ō L U h σf hf:=by
 induction hs with
 |nil=>intro Ō _;exact .nil
 |cons h1 h2 _ ih=>
  intro Ō S6;refine .cons h1 (λhe f hf hb=>h2 he f (S6 f hf) hb) (ih λf hf=>?_);rcases Al.1 hf with hf|hf
  .exact B7 _ hf
  .exact Br _ (S6 f hf)
def MW.lq{s:St}{U U':Bq}{h h':Ag}(hs:MW C fid ops run s U h U' h'){f:IG}(hf:s.fl=some f):f.idx=s.idx:=by
 obtain⟨o,_,⟨_,_,HB,_⟩|⟨r,U1,_,_,_,_,HB,_⟩⟩:=hs;.rw[HB] at hf;cases hf
 .rw[HB] at hf;unfold I8 at hf;split at hf
  .split at hf;.cases hf;rfl
   .cases hf
  .cases hf
def Steps.lt{fl:List IG}{L:List St}{U σf:Bq}{h hf:Ag}(hs:Steps C fid ops run an fl L U h σf hf):∀q∈L,q.idx<ops.length:=by
 induction hs with
 |nil=>simp
 |cons h1 _ _ ih=>
  intro q hq;rcases Az.1 hq with rfl|hq
  .obtain⟨o',h2,_⟩:=h1;exact(Ae.1 h2).1
  .exact ih q hq
def fc{s:St}{B:List St}{σf:Bq}{hf:Ag}:∀{A:List St} {fl:List IG} {U:Bq} {h:Ag},Steps C fid ops run an fl (A++s::B) U h σf hf->(∀p∈A,Of p.fp s.fp=true/\Dy an p.idx s.idx=false)->
  ∃U1 h1,MW C fid ops run s U h U1 h1/\(s.fp.OR=true->∀f∈fl,Dy an f.idx s.idx=false->BE h1 f.n f.p=some f.v)/\Steps C fid ops run an (s.fl.toList++fl) (A++B) U1 h1 σf hf
 |[],fl,U,h,hs,_=>by
  cases hs with
  |cons h1 h2 b=>exact⟨_,_,h1,h2,b⟩
 |p::A,fl,U,h,hs,e=>by
  cases hs with
  |cons h1 h2 b=>
   rename_i σa ha;obtain⟨U1,d_,d,c,k3⟩:=fc b λq hq=>e q (by simp[hq]);obtain⟨JK,aAw⟩:=e p Au;obtain⟨σs,XV,w1,k,j,i⟩:=swap h1 d JK λhe f hf=>c he f (by rw[hf];simp) (by rw[h1.lq hf];exact aAw);refine⟨σs,XV,w1,λhe f hf hb=>?_,.cons k (λhe f hf hb=>?_) (k3.sub λf hf=>?_)⟩;.rw[j he];exact c he f (Br _ hf) hb
   .rw[i he];rcases Al.1 hf with hf|hf
    .exfalso;unfold Of at JK;simp only[Bi] at JK;obtain⟨⟨⟨⟨_,t⟩,_⟩,l⟩,hl⟩:=JK;cases bI:s.fl with
     |none=>rw[bI] at hf;simp at hf
     |some g=>
      have ŉ:s.fp.hl=true:=by
       obtain⟨o,_,⟨_,_,HB,_⟩|⟨r,m,_,_,lg,_,HB,_⟩⟩:=d;.rw[HB] at bI;cases bI
       .rw[HB] at bI;unfold I8 at bI;split at bI;.rw[lg];rfl
        .cases bI
      simp[he,ŉ] at hl
    .exact h2 he f hf hb
   .rcases Al.1 hf with hf|hf
    .exact Br _ (B7 _ hf)
    .rcases Al.1 hf with hf|hf
     .exact B7 _ hf
     .exact Br _ (Br _ hf)
def N1{C2:List Nat}{x:Nat}:∀(ds:List Nat) (m:Nat),(ds.foldl (λm e=>m|||uv e|||C2.getD e 0) m).testBit x=true↔m.testBit x=true\/∃e∈ds,x=e\/(C2.getD e 0).testBit x=true
 |[],m=>Au
 |d::ds,m=>by
  rw[oI,N1 ds];simp only[Nat.testBit_or,uv,Nat.testBit_two_pow,Ru,Df,Az,exists_eq_or_imp];constructor
  .rintro((h|h)|h)
   .rcases h with h|h
    .exact .inl h
    .exact .inr (.inl (.inl h.symm))
   .exact .inr (.inl (.inr h))
   .exact .inr (.inr h)
  .rintro(h|(h|h)|h);.exact .inl (.inl (.inl h))
   .exact .inl (.inl (.inr h.symm))
   .exact .inl (.inr h)
   .exact .inr h
def JV:∀(l:List Oper) (C2:List Nat) (i:Nat),i<C2.length->(Jc C2 l).getD i 0=C2.getD i 0
 |[],C2,i,h=>rfl
 |o::l,C2,i,h=>by rw[Jc,JV l _ i D5];simp[List.getD,Ai h]
def N2:∀(l:List Oper) (C2:List Nat) (k:Nat) (o:Oper),l[k]?=some o->(∀e∈Oper.Rw o,e<C2.length+k)->∀x,
  ((Jc C2 l).getD (C2.length+k) 0).testBit x=true↔∃e∈Oper.Rw o,x=e\/((Jc C2 l).getD e 0).testBit x=true
 |[],C2,k,o,h,_,x=>by simp at h
 |o'::l,C2,0,o,h,hd,x=>by
  simp at h;subst h;rw[Jc,JV l _ (C2.length+0) Au];have e1:(C2++[(Oper.Rw o').foldl (λm e=>m|||uv e|||C2.getD e 0) 0]).getD (C2.length+0) 0=(Oper.Rw o').foldl (λm e=>m|||uv e|||C2.getD e 0) 0:=by simp[List.getD]
  rw[e1,N1];simp only[Nat.zero_testBit,C0,false_or];constructor;.rintro⟨e,he,h⟩;refine⟨e,he,h.imp id λh=>?_⟩;have hlt:e<C2.length:=hd e he;rw[JV l _ e D5];simpa[List.getD,Ai hlt] using h
  .rintro⟨e,he,h⟩;refine⟨e,he,h.imp id λh=>?_⟩;have hlt:e<C2.length:=hd e he;rw[JV l _ e D5] at h;simpa[List.getD,Ai hlt] using h
 |o'::l,C2,k+1,o,h,hd,x=>by simp at h;rw[Jc];have:=N2 l (C2++[(Oper.Rw o').foldl (λm e=>m|||uv e|||C2.getD e 0) 0]) k o h (λe he=>by have:=hd e he;simp;omega) x;simp only[Ao,AH,Bd,Bm] at this;rw[(Ab:C2.length+(k+1)=C2.length+1+k)];exact this
def Vz{i:Nat}{o:Oper}(ho:ops[i]?=some o)(hd:∀e∈Oper.Rw o,e<i)(x:Nat):Dy (SA ops) x i=true↔∃e∈Oper.Rw o,x=e\/Dy (SA ops) x e=true:=by have:=N2 ops [] i o ho (by simpa using hd) x;simpa[Dy,SA] using this
def MX(h:Wn ops=true){i:Nat}{o:Oper}(ho:ops[i]?=some o):∀e∈Oper.Rw o,e<i:=by
 unfold Wn at h;rw[D8] at h;have:=h (o,i) (by refine B6 (i:=i) ?_;simp[List.getElem?_zipIdx,ho])
 intro e he;simpa using D8.1 this e he
def VA:∀{l:List (Nat×FP)},SC.go an l=true->l.Pairwise λx y=>x.1≠y.1/\Dy an y.1 x.1=false/\(Dy an x.1 y.1=true\/Of x.2 y.2=true)
 |[],_=> .nil
 |(i,f)::l,h=>by simp only[SC.go,Bi,D8] at h;refine .cons (λy hy=>?_) (VA h.2);have:=h.1 y hy;simp only[bne_iff_ne,aEW,Ru] at this;exact⟨this.1.1,this.1.2,this.2⟩
def q8{d:Option Nat}{U:Bq}{K:Bq->IT}{h:Ag}{R:IF}(hr:IT.step (BK C) run (fW d U K) h=some R):∃U',KR d U U'/\IT.step (BK C) run (K U') h=some R:=by
 unfold fW at hr;cases d with
 |none=>exact⟨U,rfl,hr⟩
 |some d=>
  simp only at hr;cases hx:U.at d with
  |val v=>
   rw[hx] at hr;simp only[IT.step] at hr;split at hr;.exact⟨U.set d (.MC true),by simp only[KR,hx];exact⟨true,rfl,rfl⟩,hr⟩
   .exact⟨U.set d (.MC false),by simp only[KR,hx];exact⟨false,rfl,rfl⟩,hr⟩
   .cases hr
  |_=>rw[hx] at hr;exact⟨U,by simp only[KR,hx],hr⟩
def Mb{i:Nat}{t:IT}{h:Ag}{R:IF}:∀{fl:List IG},IT.step (BK C) run (OX an i fl t) h=some R->(∀f∈fl,Dy an f.idx i=false->BE h f.n f.p=some f.v)/\IT.step (BK C) run t h=some R
 |[],hr=>⟨Au,hr⟩
 |f::fl,hr=>by
  unfold OX at hr;by_cases hb:Dy an f.idx i=true
  .rw[Ad hb] at hr;obtain⟨c,b⟩:=Mb hr;refine⟨λg hg xz=>?_,b⟩;rcases Az.1 hg with rfl|hg
   .rw[hb] at xz;cases xz
   .exact c g hg xz
  .rw[Ac hb] at hr;simp only[IT.step] at hr;split at hr
   .rename_i v hv;split at hr
    .rename_i Hy;obtain⟨c,b⟩:=Mb hr;refine⟨λg hg xz=>?_,b⟩;rcases Az.1 hg with rfl|hg
     .rw[Aa.Qj Hy];exact hv
     .exact c g hg xz
    .cases hr
   .cases hr
def Oo{K:Bq->IT}{R:IF}:∀{rest:List Nat} {b:List (Nat×FP)} {fl:List IG} {U:Bq} {h:Ag},IT.step (BK C) run (Og C fid ops an rest b fl U K) h=some R->
  ∃L σf hf,Steps C fid ops run an fl L U h σf hf/\SC ops.length an (b.reverse++L.map λs=>(s.idx,s.fp))=true/\IT.step (BK C) run (K σf) hf=some R
 |[],b,fl,U,h,hr=>by
  unfold Og at hr;split at hr;.rename_i JK;exact⟨[],U,h,.nil,by simpa using JK,hr⟩
  .cases hr
 |i::rest,b,fl,U,h,hr=>by
  unfold Og at hr;cases ho:ops[i]? with
  |none=>rw[ho] at hr;cases hr
  |some o=>
   rw[ho] at hr;simp only at hr;split at hr
   .rename_i hg;split at hr;.cases hr
    .rename_i r hc;obtain⟨U1,h1,hd,hr⟩:=Vj hr;have FH:(r.OR=true->∀f∈fl,Dy an f.idx i=false->BE h1 f.n f.p=some f.v)/\IT.step (BK C) run (fW (if OY ops i then o.dst else none) U1 λg=>Og C fid ops an rest ((i,Rx C ops U o (some r))::b) (KN i r U1 fl) g K) h1=some R:=by
      split at hr;.obtain⟨d,c⟩:=Mb hr;exact⟨λ_=>d,c⟩
      .rename_i he;exact⟨λe=>absurd e he,hr⟩
     obtain⟨QY,hr⟩:=FH;obtain⟨U',ha,hr⟩:=q8 hr;rw[S4] at hr;obtain⟨L,σf,hf,d,c,k3⟩:=Oo hr;exact⟨{idx:=i,fp:=Rx C ops U o (some r),fl:=I8 i r U1}::L,σf,hf,.cons ⟨o,ho,.inr ⟨r,U1,hg,hc,rfl,hd,rfl,ha⟩⟩ QY d,by simpa using c,k3⟩
   .rename_i hg;obtain⟨L,σf,hf,d,c,k3⟩:=Oo hr;exact⟨{idx:=i,fp:=Rx C ops U o none,fl:=none}::L,σf,hf,.cons ⟨o,ho,.inl ⟨hg,rfl,rfl,rfl,rfl⟩⟩ (λe=>by simp[Rx] at e) d,by simpa using c,k3⟩
   .cases hr
end
section
variable{C:E7}{γ0 γ:Gh}{w0 w:World}{O:Nat->Nat}{U:Bq}{h:Ag}{a:Act}{fid:FuncId}
def JW(hr:Ct C γ0 w0 γ O U h a w){ops:Array Oper}{o:Oper}{b:Bool}(hg:Hc ops.toList U o= .Lt b):Region.wanted o (yielded ops a.tmps)=b:=by
 unfold Hc at hg;unfold Region.wanted;cases ho:o.guard with
 |none=>rw[ho] at hg;cases hg;rfl
 |some g=>
  obtain⟨j,want⟩:=g;rw[ho] at hg;simp only[RV] at hg⊢;unfold yielded;cases hd:(ops[j]?).bind (·.dst) with
  |none=>rw[hd] at hg;cases hg
  |some s=>
   rw[hd] at hg;simp only[BU] at hg⊢;have h0:=hr.fr.GB s;cases hx:U.at s with
   |MC c=>
    rw[hx] at hg h0;cases hg;have hl:s<a.tmps.size:=by rw[<-hr.fr.size];exact Bq.MO (by rw[hx];simp)
    have hv:a.tmps.getD s undef= .bool c:=h0;have:a.tmps[s]?=some (.bool c):=by rw[Cj hl];rw[FB,Cj hl] at hv;exact B1 some hv
    rw[this];rfl
   |skip=>
    rw[hx] at hg h0;cases hg;have hv:a.tmps.getD s undef=undef:=h0;have hne:∀c,a.tmps[s]?≠some (.bool c):=λc hc=>by rw[FB,hc] at hv;cases hv
    cases ht:a.tmps[s]? with
    |none=>rfl
    |some v=>
     cases v with
     |bool c=>exact absurd ht (hne c)
     |_=>rfl
   |val v=>rw[hx] at hg;cases hg
   |_=>rw[hx] at hg;cases hg
def Ct.x_(hr:Ct C γ0 w0 γ O U h a w){d:Option Nat}{U':Bq}(ha:KR d U U'):Ct C γ0 w0 γ O U' h a w:=by
 unfold KR at ha;cases d with
 |none=>simp only at ha;rw[ha];exact hr
 |some d=>
  simp only at ha;cases hx:U.at d with
  |val v=>rw[hx] at ha;obtain⟨b,rfl,rfl⟩:=ha;have h0:=hr.fr.GB d;rw[hx] at h0;exact hr.Yc h0
  |_=>rw[hx] at ha;rw[ha];exact hr
structure aAx(ops:Array Oper)(listed:Array Bool)(L:List St):Prop where
 size:listed.size=ops.size
 un:∀i,i<ops.size->(listed.getD i false=false↔i∈L.map (·.idx))
 closed:∀j,listed.getD j false=true->∀e,Dy (SA ops.toList) e j=true->listed.getD e false=true
abbrev gI(an:List Nat)(L:List St):Prop:=L.Pairwise λx y=>x.idx≠y.idx/\Dy an y.idx x.idx=false/\(Dy an x.idx y.idx=true\/Of x.fp y.fp=true)
def lU{run:IT->Ag->Option IF}(hS:DO C run){ops:Array Oper}{Q:Exit->Act->World->Prop}(EL:Wn ops.toList=true){σf:Bq}{hf:Ag}(hQ:∀γ' f a' w',Ct C γ0 w0 γ' f σf hf a' w'->Q .normal a' w'):
  ∀(fuel:Nat) (L:List St) (listed:Array Bool) (γ:Gh) (O:Nat->Nat) (U:Bq) (h:Ag) (a:Act) (w:World),L.length=fuel->Steps C fid ops.toList run (SA ops.toList) [] L U h σf hf->gI (SA ops.toList) L->aAx ops listed L->Ct C γ0 w0 γ O U h a w->
   wpAny C.P .any ops Q fuel listed a w:=by
 intro fuel;induction fuel with
 |zero=>
  intro L listed γ O U h a w g hs hp ho hr;have m:L=[]:=Cq g;subst m;cases hs;refine⟨List.eq_nil_iff_forall_not_mem.2 λi hi=>?_,hQ _ _ _ _ hr⟩;obtain⟨h0,o,wD,_⟩:=mem_ready.1 hi;have hlt:i<ops.size:=(As.1 wD).1;have lN:listed.getD i false=false:=by
   have hl:i<listed.size:=by rw[ho.size];exact hlt
   simpa[Array.getD,hl] using h0
  have:=(ho.un i hlt).1 lN;simp at this
 |succ fuel ih=>
  intro L listed γ O U h a w g hs hp ho hr;have Wx:∀i,i<ops.size->listed.getD i true=listed.getD i false:=λi hi=>by
   have hl:i<listed.size:=by rw[ho.size];exact hi
   simp[Array.getD,hl]
  constructor
  .intro QY;exfalso;cases L with
   |nil=>simp at g
   |cons s0 L=>
    obtain⟨o,wD,_⟩:∃o,ops.toList[s0.idx]?=some o/\True:=by
     cases hs with
     |cons h1 _ _=>obtain⟨o,h2,_⟩:=h1;exact⟨o,h2,trivial⟩
    have bJ:ops[s0.idx]?=some o:=by simpa using wD
    have hlt:s0.idx<ops.size:=(As.1 bJ).1;have:s0.idx∈Region.ready .any ops listed:=by
     refine mem_ready.2 ⟨?_,o,bJ,λe he hb=>?_⟩;.rw[Wx _ hlt];exact(ho.un _ hlt).2 Au
     .have ō:e.on∈Oper.Rw o:=BR.2 ⟨e,by simpa using he,by rw[Ad hb]⟩;have t:=MX EL wD e.on ō;cases hl:listed.getD e.on false with
      |true=>rfl
      |false=>
       have hm:=(ho.un e.on Ab).1 hl;simp only[AZ,Az] at hm;rcases hm with hm|hm
       .omega
       .obtain⟨y,hy,k⟩:=AR.1 hm;have:=((aDo.1 hp).1 y hy).2.1;rw[k,(Vz wD (MX EL wD) e.on).2 ⟨e.on,ō,.inl rfl⟩] at this;cases this
    rw[QY] at this;cases this
  .intro i hi;obtain⟨h0,o,wD,ya⟩:=mem_ready.1 hi;have hlt:i<ops.size:=(As.1 wD).1;rw[Wx i hlt] at h0;obtain⟨s,l,rfl⟩:=AR.1 ((ho.un i hlt).1 h0);obtain⟨A,B,rfl⟩:=List.append_of_mem l;have bJ:ops.toList[s.idx]?=some o:=by simpa using wD
   have yb:∀e,Dy (SA ops.toList) e s.idx=true->listed.getD e false=true:=λe he=>by
    obtain⟨d,hd,Hn⟩:=(Vz bJ (MX EL bJ) e).1 he;obtain⟨u,ō,hb⟩:=BR.1 hd;split at hb
    .rename_i P2;cases hb;have q6:=ya u (by simpa using ō) P2;rcases Hn with rfl|Hn
     .exact q6
     .exact ho.closed _ q6 e Hn
    .cases hb
   have b:=(Ņ.1 hp).2.2;have ls:∀p∈A++s::B,p.idx<ops.size:=λp uy=>by simpa using hs.lt p uy
   obtain⟨U1,h1,n,_,k3⟩:=fc hs λp c=>by
    have hb:Dy (SA ops.toList) p.idx s.idx=false:=by
     cases P2:Dy (SA ops.toList) p.idx s.idx with
     |false=>rfl
     |true=>have h1:=yb _ P2;have h2:=(ho.un p.idx (ls p (by simp[c]))).2 (AR.2 ⟨p,by simp[c],rfl⟩);rw[h1] at h2;cases h2
    refine⟨?_,hb⟩;have:=(b p c s Au).2.2;rw[hb] at this;exact this.resolve_left Au
   have fg:∀γ' f a' w',Ct C γ0 w0 γ' f U1 h1 a' w'->wpAny C.P .any ops Q fuel (listed.setIfInBounds s.idx true) a' w':=λγ' f a' w' FH=>by
    refine ih (A++B) _ γ' f U1 h1 a' w' (by simp at g⊢;omega) (k3.sub Au) ?_ ⟨by simp[ho.size],λj hj=>?_,λj hj e he=>?_⟩ FH;.exact hp.sublist ((AD A).append (QK s B))
    .by_cases vh:j=s.idx
     .subst vh;have ly:s.idx∉(A++B).map (·.idx):=λhm=>by
       obtain⟨q,hq,he⟩:=AR.1 hm;rcases Al.1 hq with hq|hq
       .exact(b q hq s Au).1 he
       .exact(aDo.1 (Ņ.1 hp).2.1).1 q hq |>.1 he.symm
      have ht:(listed.setIfInBounds s.idx true).getD s.idx false=true:=by
       have hl:s.idx<listed.size:=by rw[ho.size];exact hlt
       simp[Array.getD,hl]
      rw[ht];exact⟨λe=>absurd e Au,λe=>absurd e ly⟩
     .rw[getD_set_ne false (λe=>vh e.symm),ho.un j hj];simp only[B3,AZ,Al,Az];constructor
      .rintro(e|e|e);.exact .inl e
       .exact absurd e vh
       .exact .inr e
      .rintro(e|e);.exact .inl e
       .exact .inr (.inr e)
    .by_cases vh:j=s.idx;.subst vh;exact getD_set_true (yb e he)
     .rw[getD_set_ne false (λe=>vh e.symm)] at hj;exact getD_set_true (ho.closed j hj e he)
   unfold wpOp;rw[wD];obtain⟨o',v8,⟨hg,_,_,rfl,rfl⟩|⟨r,v,hg,hc,_,hd,_,ha⟩⟩:=n;.rw[bJ] at v8;cases v8;simp only[JW hr hg,C0,EH];exact fg _ _ _ _ (hr.put λ_ _=>rfl)
   .rw[bJ] at v8;cases v8;simp only[JW hr hg,BB];exact .inl (qW hS hc hd hr λγ' f a' w' FH=>fg γ' f a' w' (FH.x_ ha))
end
end Go.Am
end
end
