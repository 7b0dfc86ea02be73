/- Lemmas -/
import Derived.Test.YtdejbjapknkdnaaGreatDoorV5
import Derived.MapKept
set_option linter.all false
section
namespace Go.Am
open Go
section
variable{C:FT}{γ0 γ γ':Gh}{w0 w w':World}{Z:Nat->Nat}{U:BL}{h:Ae}{a:Act}{fid:FuncId}{ops:List Oper}
def XA{s t:Ad}(h:s≠t):((⟨⟨s⟩⟩:ByteArray)==⟨⟨t⟩⟩)=false:=by
 refine Bool.eq_false_iff.2 λhc=>h ?_;have:=(MapKept.bytes_beq _ _).1 hc;injection this with this
 injection this with this
def R6(s:Ad):((⟨⟨s⟩⟩:ByteArray)==⟨⟨s⟩⟩)=true:=(MapKept.bytes_beq _ _).2 rfl
def kR{s:Ad}:∀{es:List (Aa×Aa)} {l:List MapEntry} {i:Nat} {r:Option Aa},Lw γ es l->SO s es=some r->
  match r with
  |none=>Instr.findNow .string (.string ⟨⟨s⟩⟩) l i=some none
  |some v=>∃(j:Nat) (e:MapEntry),Instr.findNow .string (.string ⟨⟨s⟩⟩) l i=some (some (i+j,e.val))/\BJ γ v e.val
 |[],l,i,r,b,hf=>by rw[show l=[] from b];cases hf;rfl
 |(k,v)::es,l,i,r,b,hf=>by
  obtain⟨e,l',rfl,h1,h2,h3⟩:=b;unfold SO at hf;split at hf;.rename_i KD;cases KD
  .rename_i t v' VU KD;cases KD;have hk:e.key= .string ⟨⟨t⟩⟩:=h1;split at hf;.rename_i Jl;subst Jl;cases hf;exact⟨0,e,by simp[Instr.findNow,hk,Instr.sameNow,R6],h2⟩
   .rename_i Jl;have ih:=kR (i:=i+1) h3 hf;have hne:=XA Jl;cases r with
    |none=>simpa[Instr.findNow,hk,Instr.sameNow,hne] using ih
    |some g=>obtain⟨j,f,d,c⟩:=ih;exact⟨j+1,f,by simp only[Instr.findNow,hk,Instr.sameNow,hne];rw[d];congr 3;omega,c⟩
  .cases hf
def vS{s:Ad}{v:Aa}{u:Value}(d:BJ γ v u):∀{es VU:List (Aa×Aa)} {l:List MapEntry} {i:Nat},Lw γ es l->NZ s v es=some VU->
  (Instr.findNow .string (.string ⟨⟨s⟩⟩) l i=some none/\∀born,Lw γ VU (l++[{key:= .string ⟨⟨s⟩⟩,val:=u,born}]))\/
  ∃j e,Instr.findNow .string (.string ⟨⟨s⟩⟩) l i=some (some (i+j,e.val))/\l[j]?=some e/\e.key= .string ⟨⟨s⟩⟩/\Lw γ VU (l.modify j λe=>{e with key:= .string ⟨⟨s⟩⟩,val:=u})
 |[],VU,l,i,f,hp=>by rw[show l=[] from f];cases hp;exact .inl ⟨rfl,λborn=>⟨_,[],rfl,rfl,d,rfl⟩⟩
 |(k,v0)::es,VU,l,i,f,hp=>by
  obtain⟨e,l',rfl,h1,h2,h3⟩:=f;unfold NZ at hp;split at hp;.rename_i KD;cases KD
  .rename_i t v' o KD;cases KD;have hk:e.key= .string ⟨⟨t⟩⟩:=h1;split at hp;.rename_i Jl;subst Jl;cases hp;exact .inr ⟨0,e,by simp[Instr.findNow,hk,Instr.sameNow,R6],rfl,hk,_,l',rfl,rfl,d,h3⟩
   .rename_i Jl;have hne:=XA Jl;cases hq:NZ s v es with
    |none=>rw[hq] at hp;cases hp
    |some n=>
     rw[hq] at hp;cases hp;rcases vS d (i:=i+1) h3 hq with⟨c,b⟩|⟨j,p,c,b,m,g⟩
     .exact .inl ⟨by simpa[Instr.findNow,hk,Instr.sameNow,hne] using c,λborn=>⟨e,_,rfl,h1,h2,b born⟩⟩
     .exact .inr ⟨j+1,p,by simp only[Instr.findNow,hk,Instr.sameNow,hne];rw[c];congr 3;omega,b,m,e,_,by simp,h1,h2,g⟩
  .cases hp
def Ur{es:Array MapEntry}{clock:Nat}{k v:Value}(h:clock=es.size/\∀(i:Nat) (e:MapEntry),es[i]?=some e->e.born=i):
  clock+1=(es.push {key:=k,val:=v,born:=clock}).size/\∀(i:Nat) (e:MapEntry),(es.push {key:=k,val:=v,born:=clock})[i]?=some e->e.born=i:=by
 obtain⟨rfl,h⟩:=h;refine⟨by simp,λi e he=>?_⟩;rw[Z6] at he;split at he;.rename_i hi;cases he;exact hi.symm
 .exact h i e he
def Vk{es:Array MapEntry}{clock j:Nat}{f:MapEntry->MapEntry}(h:clock=es.size/\∀(i:Nat) (e:MapEntry),es[i]?=some e->e.born=i)(hf:∀e,(f e).born=e.born):
  clock=(es.modify j f).size/\∀(i:Nat) (e:MapEntry),(es.modify j f)[i]?=some e->e.born=i:=by
 refine⟨by simpa using h.1,λi e he=>?_⟩;rw[NF] at he;split at he
 .cases hx:es[i]? with
  |none=>rw[hx] at he;cases he
  |some x=>rw[hx] at he;cases he;rw[hf];exact h.2 i x hx
 .exact h.2 i e he
def N7(hi:HY γ h w){g id:Nat}{es VU:List (Aa×Aa)}(S9:h[id]?=some (.map es))(hg:γ.mu id=some g){o:Obj}{ents':Array MapEntry}{clock':Nat}(hw:w.heap[g]?=some o)(hr:th γ VU ents' clock'):
  HY γ (h.set id (.map VU)) {w with heap:=w.heap.setIfInBounds g (.map ents' clock')}/\ME γ w γ {w with heap:=w.heap.setIfInBounds g (.map ents' clock')}:=by
 obtain⟨l,p,T8⟩:=hi.Ng id _ S9 (by simp);rw[hg] at p;cases p;obtain⟨N2,c⟩:=MapKept.heap_set (o':= .map ents' clock') hw;have uniq:∀FB x,h[FB]?=some x->x≠ .DD->γ.mu FB=some g->FB=id:=λFB x hx e hm=>by obtain⟨b',p,q⟩:=hi.Ng FB x hx e;rw[hm] at p;cases p;rw[T8] at q;cases q;rfl
 constructor
 .refine⟨λb o v hb=>?_,λFB y Iy hy=>?_,λFB cs hc b hb=>?_,λFB f hc b hb=>?_,λFB b hb=>by simpa using hi.mu FB b hb,λb x hx=>?_,λb n hb=>?_⟩;rotate_left 5
  .obtain⟨⟨pG,j,tk,p,q⟩,r⟩:=hi.sz b n hb;have hne:b≠g:=λhe=>by subst he;obtain⟨i,d,k,_⟩:=hi.map id es S9 b hg;rw[p] at k;cases k
   exact⟨⟨pG,j,tk,by rw[c b hne];exact p,q⟩,r⟩
  .obtain⟨p,q,r⟩:=hi.Iw b o v hb;have:b≠g:=λhe=>by subst he;rw[T8] at r;rcases r with r|⟨_,_,_,r,_⟩<;>cases r
   exact⟨by rw[CH (w:=w) (c b this)];exact p,q,r⟩
  .by_cases he:FB=id;.subst he;exact⟨g,hg,T8⟩
   .rw[Al (λx=>he x.symm)] at Iy;exact hi.Ng FB y Iy hy
  .by_cases he:FB=id;.subst he;rw[AB (hi.mu _ _ hg)] at hc;cases hc
   .rw[Al (λx=>he x.symm)] at hc;have RY:b≠g:=λhx=>by subst hx;exact he (uniq FB _ hc (by simp) hb)
    obtain⟨pG,j,tk,p,pf,q,r⟩:=hi.cells FB cs hc b hb;exact⟨pG,j,tk,by rw[c b RY];exact p,pf,q,r⟩
  .by_cases he:FB=id;.subst he;rw[hg] at hb;cases hb;rw[AB (hi.mu _ _ hg)] at hc;cases hc;exact⟨ents',clock',N2,hr⟩
   .rw[Al (λx=>he x.symm)] at hc;have RY:b≠g:=λhx=>by subst hx;exact he (uniq FB _ hc (by simp) hb)
    obtain⟨D0,clock,p,q⟩:=hi.map FB f hc b hb;exact⟨D0,clock,by rw[c b RY];exact p,q⟩
  .have:=hi.BN b x hx;simpa using this
 .refine⟨.refl _,by simp,rfl,rfl,rfl,λb hb hn=>⟨?_,rfl⟩⟩;exact c b (λhe=>by subst he;exact hn id T8)
def R7(hr:C4 C γ0 w0 γ Z U h a w){x y z:Operand}{d c b:Aa}(ha:Bm C U [x,y,z]=some [d,c,b]):BJ γ d (a.eval x)/\BJ γ c (a.eval y)/\BJ γ b (a.eval z):=by obtain⟨_,_,_,e,h1,h2,h3⟩:=(DQ hr ha).aH;simp only[Bd,Dz,Dq,M8] at e;obtain⟨rfl,rfl,rfl⟩:=e;exact⟨h1,h2,h3⟩
def kS{o:Oper}{t kt e:TypeId}{m k x:Operand}{n p g:Aa}{h':Ae}(ho:o.op= .insert t m k x\/o.op= .mapUpdate t m k x)(hd:o.dst=none)(ht:C.P.underlying t=some (.map kt e))(hk:C.P.underlying kt=some .string)(ha:Bm C U [m,k,x]=some [n,p,g])
  (hm:Ry h n p g=some h') (hr:C4 C γ0 w0 γ Z U h a w):FG C γ0 w0 o a w U h':=by
 obtain⟨h1,h2,h3⟩:=R7 hr ha;have Nj:∀w',(Instr.mapUpdate t (a.eval m) (a.eval k) (a.eval x)).run C.P w= .ok () w'->(execOp a.eval o).run C.P w= .ok .skip w':=λw' AI=>by rcases ho with ho|ho<;>simp[execOp,ho,AI]
 unfold Ry at hm;split at hm
 .rename_i id s;obtain⟨b,hb,jl⟩:=h1;have c:a.eval k= .string ⟨⟨s⟩⟩:=h2;split at hm
  .rename_i es S9;cases hp:NZ s g es with
   |none=>rw[hp] at hm;cases hm
   |some VU=>
    rw[hp] at hm;cases hm;obtain⟨D0,clock,hw,u,hB⟩:=hr.DV.map id es S9 b hb;have jm:(Instr.checkKey false 10000 kt (.string ⟨⟨s⟩⟩)).run C.P w= .ok () w:=MapKept.run_checkKey (k:= .string ⟨⟨s⟩⟩) hk (by simp[MapKept.IsKey]) false 9999;rcases vS h3 (i:=0) u hp with⟨f,l⟩|⟨j,en,f,l,r,q⟩
    .have AI:(Instr.mapUpdate t (a.eval m) (a.eval k) (a.eval x)).run C.P w= .ok () {w with heap:=w.heap.setIfInBounds b (.map (D0.push {key:= .string ⟨⟨s⟩⟩,val:=a.eval x,born:=clock}) (clock+1))}:=by rw[jl,c];simp[Instr.mapUpdate,run_underlying ht,MapKept.run_getObj_map hw,jm,MapKept.run_findKey hk f,MapKept.run_setObj_map _ hw,Result.andThen]
     obtain⟨hi,Kk⟩:=N7 (VU:=VU) (ents':=D0.push {key:= .string ⟨⟨s⟩⟩,val:=a.eval x,born:=clock}) (clock':=clock+1) hr.DV S9 hb hw ⟨by simpa using l clock,Ur hB⟩;exact FG.skip (Nj _ AI) (by rw[hd];exact hr.I8 hi Kk)
    .have hj:D0[j]?=some en:=by simpa using l
     rw[By] at f;have AI:(Instr.mapUpdate t (a.eval m) (a.eval k) (a.eval x)).run C.P w= .ok () {w with heap:=w.heap.setIfInBounds b (.map (D0.modify j λe=>{e with key:= .string ⟨⟨s⟩⟩,val:=a.eval x}) clock)}:=by rw[jl,c];simp[Instr.mapUpdate,run_underlying ht,MapKept.run_getObj_map hw,jm,MapKept.run_findKey hk f,hj,r,MapKept.run_keyThatStays (d:= .string) (k:= .string ⟨⟨s⟩⟩) (by simp[MapKept.IsKey]),MapKept.run_setObj_map _ hw,Result.andThen]
     obtain⟨hi,Kk⟩:=N7 (VU:=VU) (ents':=D0.modify j λe=>{e with key:= .string ⟨⟨s⟩⟩,val:=a.eval x}) (clock':=clock) hr.DV S9 hb hw ⟨by simpa using q,Vk hB λ_=>rfl⟩;exact FG.skip (Nj _ AI) (by rw[hd];exact hr.I8 hi Kk)
  .cases hm
 .cases hm
def uk{o:Oper}{t:TypeId}(ho:o.op= .makeMap t none)(hr:C4 C γ0 w0 γ Z U h a w):FG C γ0 w0 o a w (U.put o.dst (.val (.map (some h.length)))) (h++[.map []]):=by
 obtain⟨hi,ha⟩:=OH hr.DV (.map #[] 0) (.map []) none (.inr ⟨rfl,rfl,rfl⟩);have AI:(Instr.makeMap t none).run C.P w= .ok (.map (some w.heap.size)) (w.alloc (.map #[] 0)):=by simp[Instr.makeMap]
 exact FG.value (by simp only[execOp,ho];exact Dy AI) ((hr.I8 hi ha).put λ_ _=>⟨w.heap.size,by simp[Gh.BP],rfl⟩)
def Lo(key elem:TypeId)(index:Value)(commaOk:Bool)(es:Array MapEntry):Sem Value:=do
 Instr.checkKey es.isEmpty 10000 key index
 let(v,ok)<-match<-Instr.findKey key index es.toList with
  |some (_,v)=>pure (v,true)
  |none=>pure (<-zeroValue elem,false)
 pure (if commaOk then .tuple #[v,.bool ok] else v)
def um{o:Oper}{t kt e:TypeId}{m k:Operand}{d f z r:Aa}{ok:Bool}(ho:o.op= .lookup t m k ok)(ht:C.P.underlying t=some (.map kt e))(hk:C.P.underlying kt=some .string)(hz:GY C.P e=some z)(ha:Bm C U [m,k]=some [d,f])(hm:Po h z ok d f=some r)(hr:C4 C γ0 w0 γ Z U h a w):
  FG C γ0 w0 o a w (U.put o.dst (.val r)) h:=by
 obtain⟨_,_,x,h1,h2⟩:=E1 hr ha;cases x;obtain⟨l,qh,g⟩:=Ih hz;have Jd:∀(es:Array MapEntry) (q:Option Aa),(Instr.lookup t (a.eval m) (a.eval k) ok).run C.P w=(Lo kt e (a.eval k) ok es).run C.P w->
   ∀s,a.eval k= .string ⟨⟨s⟩⟩->(match q with|none=>Instr.findNow .string (.string ⟨⟨s⟩⟩) es.toList 0=some none|some v=>∃(j:Nat) (e:MapEntry),Instr.findNow .string (.string ⟨⟨s⟩⟩) es.toList 0=some (some (0+j,e.val))/\BJ γ v e.val)->
   (match q with|some v=>if ok then Aa.tuple [v,.bool true] else v|none=>if ok then .tuple [z,.bool false] else z)=r->FG C γ0 w0 o a w (U.put o.dst (.val r)) h:=by
  intro es q S9 s ģ hq Vj;have jm:(Instr.checkKey es.isEmpty 10000 kt (.string ⟨⟨s⟩⟩)).run C.P w= .ok () w:=MapKept.run_checkKey (k:= .string ⟨⟨s⟩⟩) hk (by simp[MapKept.IsKey]) es.isEmpty 9999;have AI:∃v,(Instr.lookup t (a.eval m) (a.eval k) ok).run C.P w= .ok v w/\BJ γ r v:=by
   cases q with
   |none=>
    refine⟨if ok then .tuple #[l,.bool false] else l,?_,?_⟩;.rw[S9,ģ];unfold Lo;simp only[Sem.run_bind,Result.andThen_ok,jm,MapKept.run_findKey hk hq,g,Sem.run_bind,Sem.run_pure]
    .rw[<-Vj];have c:=Fi (γ:=γ) qh;cases ok with
     |true=>exact⟨_,rfl,_,_,rfl,c,_,_,rfl,rfl,rfl⟩
     |false=>exact c
   |some v=>
    obtain⟨j,en,p,n⟩:=hq;refine⟨if ok then .tuple #[en.val,.bool true] else en.val,?_,?_⟩;.rw[S9,ģ];unfold Lo;simp only[Sem.run_bind,Result.andThen_ok,jm,MapKept.run_findKey hk p,Sem.run_bind,Sem.run_pure]
    .rw[<-Vj];cases ok with
     |true=>exact⟨_,rfl,_,_,rfl,n,_,_,rfl,rfl,rfl⟩
     |false=>exact n
  obtain⟨v,AI,vQ⟩:=AI;exact FG.value (by simp only[execOp,ho];exact Dy AI) (hr.put λ_ _=>vQ)
 unfold Po at hm;cases hf:Ue h d f with
 |none=>rw[hf] at hm;cases hm
 |some q=>
  rw[hf] at hm;simp only[BF,Bx] at hm;unfold Ue at hf;split at hf;.rename_i s;cases hf;exact Jd #[] none (by rw[show a.eval m=_ from h1];simp only[Instr.lookup,Lo,Sem.run_bind,run_underlying ht,Result.andThen_ok,Sem.run_pure];rfl) s h2 rfl hm
  .rename_i id s;obtain⟨b,hb,jl⟩:=h1;split at hf;.rename_i es S9;obtain⟨D0,clock,hw,u,_⟩:=hr.DV.map id es S9 b hb;exact Jd D0 q (by rw[jl];simp only[Instr.lookup,Lo,Sem.run_bind,run_underlying ht,MapKept.run_getObj_map hw,Result.andThen_ok,Sem.run_pure];rfl) s h2 (kR (i:=0) u hf) hm
   .cases hf
  .cases hf
def XB{size:Nat}{v:Aa}(h:OC size v=true):v= .slnil\/v= .GB size\/v= .sl size []:=by
 unfold OC at h;split at h;.exact .inl rfl
 .exact .inr (.inl (by simpa using h))
 .exact .inr (.inr (by simpa using h))
 .cases h
def jn{o:Oper}{c:Call}{t t' e:TypeId}{n b:Nat}{s x:Operand}{v u r:Aa}{h':Ae}(ho:o.op= .call c)(hc:c.callee= .builtin .append)(h0:c.argTypes[0]?=some t)(h1:c.argTypes[1]?=some t')(EJ:c.args.toList=[s,x])(ht:C.P.underlying t=some (.slice e))
  (I3:(∃I,C.P.underlying t'=some (.slice I))\/C.P.underlying t'=some .string) (KT:BR C.P e=some (n+1)) (uf:Kg C.P e=some (b+1)) (Fv:Lu C U s=true) (jQ:MC C.P e=true) (D:Bm C U [s,x]=some [v,u])
  (hp:KP h (n+1) (b+1) v u=some (h',r)) (hr:C4 C γ0 w0 γ Z U h a w):FG C γ0 w0 o a w ((U.DE (De U s)).put o.dst (.val r)) h':=by
 obtain⟨i,z,hi,hz,dJ⟩:=LB jQ;have Rr:=JW KT hi;have H:=Mg uf hi;obtain⟨_,_,L,hvs,oW⟩:=E1 hr D;cases L;have Ě:ER C U s=some v:=by
  unfold Bm at D;split at D;.rename_i p ps K M;cases D;exact K
  .cases D
 have I9:OC (n+1) v=true/\((∃As,IB (n+1) (b+1) .slnil u=some (.sl (n+1) As)/\As≠[]/\u= .sl (n+1) As/\As.length*(b+1)<=AN/\h'=h++[.cells As.flatten]/\r= .C7 h.length 0 As.length (n+1))\/((u= .slnil\/(∃B,u= .GB B)\/∃B,u= .sl B [])/\h'=h/\r=v)):=by
  unfold KP at hp;split at hp
  .rename_i B As;split at hp
   .rename_i Wt;refine⟨Wt,?_⟩;split at hp;.cases hp;exact .inr ⟨.inr (.inr ⟨_,rfl⟩),rfl,rfl⟩
    .rename_i hne;split at hp
     .rename_i H8;cases hp;obtain⟨rfl,hb⟩:=H8;refine .inl ⟨As,?_,hne,rfl,hb,rfl,rfl⟩;cases As with
      |nil=>exact absurd rfl hne
      |cons q As=>simp only[IB,DJ,BM];rw[if_pos hb]
     .cases hp
   .cases hp
  .split at hp;.rename_i Wt;cases hp;exact⟨Wt,.inr ⟨.inl rfl,rfl,rfl⟩⟩
   .cases hp
  .split at hp;.rename_i Wt;simp only[A4] at Wt;cases hp;exact⟨Wt.1,.inr ⟨.inr (.inl ⟨_,rfl⟩),rfl,rfl⟩⟩
   .cases hp
  .cases hp
 obtain⟨Wt,I9⟩:=I9;obtain⟨G,EC,J8,JG,m⟩:=P3 hr Fv Ě (U.DE (De U s)).length none;have KD:c.args.map a.eval=#[a.eval s,a.eval x]:=by apply HJ;simp[EJ]
 have Nj:∀v' w',(Builtin.append_ #[t,t'] o.type #[a.eval s,a.eval x]).run C.P w= .ok v' w'->(execOp a.eval o).run C.P w= .ok (.value v') w':=λv' w' AI=>by
  have:execOp a.eval o=(do pure (Next.value (<-Builtin.append_ #[t,t'] o.type #[a.eval s,a.eval x]))):=by rw[<-KD,<-OP (ty:=o.type) h0 h1];simp only[execOp,ho,resolve,hc];rfl
  rw[this];exact Dy AI
 have vT:(a.eval s= .slice none 0 0/\v= .slnil)\/(∃g cap us y,a.eval s= .slice (some ⟨g,0,none⟩) 0 cap/\v= .sl (n+1) []/\G.BN g=some (.tail (U.DE (De U s)).length none 0)/\w0.heap.size<=g/\w.heap[g]?=some (.cells us y (0,0))/\us.size=cap*(n+1)/\cap<=maxLen)\/∃g,a.eval s= .slice (some ⟨g,0,none⟩) 0 0/\v= .GB (n+1):=by
  rcases m with(m|⟨J,m⟩)|⟨g,k,cap,us,y,J,rr,pZ,JH,T8,hB,hg,aC,ĝ,hm,qg⟩
  .rw[m] at JG;exact .inl ⟨JG,m⟩
  .rcases XB Wt with vU|vU|vU
   .rw[vU] at m;cases m
   .rw[vU] at JG;obtain⟨g,JG⟩:=JG;exact .inr (.inr ⟨g,JG,vU⟩)
   .rw[vU] at m;cases m
  .rcases XB Wt with vU|vU|vU
   .rw[vU] at pZ;cases pZ
   .rw[vU] at pZ;cases pZ
   .rw[vU] at pZ;cases pZ;have hk:k=0:=by rw[vU,JH] at JG;obtain⟨A,f,kP,_⟩:=JG;simp only[Value.slice.injEq] at kP;exact kP.2.1
    subst hk;exact .inr (.inl ⟨g,cap,us,y,JH,vU,by simpa using T8,hB,hg,aC,hm⟩)
 rcases I9 with⟨As,Jp,hne,E,T9,rfl,rfl⟩|⟨E,rfl,rfl⟩
 .obtain⟨d,news,P5,KF,aA3,pX⟩:=vR (w:=w) I3 hr.DV oW Jp;have kT:d=As:=by
   cases d with
   |nil=>simp[DJ] at P5
   |cons q d=>
    simp only[DJ] at P5;split at P5;.cases P5;rfl
    .cases P5
  subst kT;have ug:=A3.mono EC _ _ aA3;have Kj:Src C.P i.size t' (a.eval x) d.length news w:=by rw[Rr];exact KF
  have Rs:news.length=d.length*(n+1):=KF.newsLen;have IZ:d.flatten.length=news.length:=by rw[aA3.length]
  have hpos:0<d.length:=Cq.2 hne;have RY:d.length<=AN:=Bn (IW _ (CV b)) T9;have F8:∀(base:Option Addr) (cap:Nat),a.eval s= .slice base 0 cap->(Builtin.firstCells i.size 0 (.slice base 0 cap)).run C.P w.drew= .ok #[] w.drew->cap<d.length->
    FG C γ0 w0 o a w ((U.DE (De U s)).put o.dst (.val (.C7 h.length 0 d.length (n+1)))) (h++[.cells d.flatten]):=by
   intro base cap hs l hlt;have Gt:=run_append_grow_src (P:=C.P) w t t' o.type e i z ht hi hz base 0 cap [] l (a.eval x) d.length news Kj (by omega) (by simp only[AN] at RY;omega) (by rw[H,By];exact growslice_fits hlt T9);rw[<-hs,By] at Gt;have HK:=grownCap_ge w d.length cap e;have Vl:(([]++news).toArray++Builtin.zeroCells z.cells (grownCap w d.length cap e-d.length)).toList.take d.flatten.length=news:=by simp only[GU,Bw];rw[IZ];exact EO
   have uo:(([]++news).toArray++Builtin.zeroCells z.cells (grownCap w d.length cap e-d.length)).size=grownCap w d.length cap e*(n+1):=by simp only[J5,BT,size_zeroCells,dJ,Rr,Bw,Rs,<-BD];congr 1;omega
   obtain⟨F,kM,XC,MH,V0⟩:=J8.drew.newObj (([]++news).toArray++Builtin.zeroCells z.cells (grownCap w d.length cap e-d.length)) e (0,0) d.flatten (.inl rfl) (by rw[Vl];exact ug) (by rw[Vl];exact KF.one);exact FG.value (Nj _ _ Gt) (MH.put λ_ _=>⟨w.heap.size,_,XC,rfl,HK,⟨CV n,grownCap_le_maxLen w _ _ _ (by simp only[AN] at RY;simp only[maxLen];omega)⟩,by rw[By,<-uo];exact V0⟩)
  rcases vT with⟨JH,rfl⟩|⟨g,cap,us,y,JH,rfl,T8,hB,hg,aC,Ĥ⟩|⟨g,JH,rfl⟩
  rotate_left 2;.exact F8 (some ⟨g,0,none⟩) 0 JH (by simpa using run_firstCells_some (P:=C.P) w.drew i.size 0 ⟨g,0,none⟩ 0 0 [] (by simp) (by simp)) hpos
  .exact F8 none 0 JH (run_firstCells_none _ _ _ _ _) hpos
  .by_cases hroom:d.length<=cap
   .have hfit:news.length<=us.size:=by rw[Rs,aC];exact Ee _ hroom
    have AI:=run_append_room_src (P:=C.P) w t t' o.type e i ht hi g 0 0 cap (a.eval x) d.length news Kj (by omega) (λj hj=>by rw[cell_of_row w _ _ us y (0,0) hg,Rr,CJ (by omega)];rfl) (λj hj=>frozen_of_row w _ _ us y hg)
    rw[M6,By,By,EI news 0 us w hg (by omega),<-JH] at AI;have Vl:((us.toList.take 0++news++us.toList.drop (0+news.length)).toArray).toList.take d.flatten.length=news:=by simp only[M7,Bw];rw[IZ];exact EO
    obtain⟨F,kM,XC,MH,V0⟩:=J8.aGW T8 hB hg (us.toList.take 0++news++us.toList.drop (0+news.length)).toArray d.flatten (by rw[Vl];exact ug) (by rw[Vl];exact KF.one);exact FG.value (Nj _ _ AI) (MH.put λ_ _=>⟨g,cap,XC,rfl,hroom,⟨CV n,Ĥ⟩,by rw[V0,By,<-aC];simp;omega⟩)
   .exact F8 (some ⟨g,0,none⟩) cap JH (by simpa using run_firstCells_some (P:=C.P) w.drew i.size 0 ⟨g,0,none⟩ 0 cap [] (by simp) (by simp)) (by omega)
 .have KF:Src C.P i.size t' (a.eval x) 0 [] w:=by
   rcases E with rfl|⟨B,rfl⟩|⟨B,rfl⟩
   .rw[show a.eval x=_ from oW];exact⟨I3,λ_=>rfl,run_firstCells_none w _ 0 0 0,run_firstCells_none w.drew _ 0 0 0,by simp,by simp⟩
   .obtain⟨g0,kP⟩:=oW;rw[kP];exact⟨I3,λ_=>rfl,by simpa using run_firstCells_some (P:=C.P) w i.size 0 ⟨g0,0,none⟩ 0 0 [] (by simp) (by simp),by simpa using run_firstCells_some (P:=C.P) w.drew i.size 0 ⟨g0,0,none⟩ 0 0 [] (by simp) (by simp),by simp,by simp⟩
   .obtain⟨A,f,kP,_⟩:=oW;rw[kP];exact⟨I3,λ_=>rfl,by simpa using run_firstCells_some (P:=C.P) w i.size 0 A 0 f [] (by simp) (by simp),by simpa using run_firstCells_some (P:=C.P) w.drew i.size 0 A 0 f [] (by simp) (by simp),by simp,by simp⟩
  rcases vT with⟨JH,rfl⟩|⟨g,cap,us,y,JH,rfl,T8,hB,hg,aC,Ĥ⟩|⟨g,JH,rfl⟩
  rotate_left 2;.have AI:=run_append_room_src (P:=C.P) w t t' o.type e i ht hi g 0 0 0 (a.eval x) 0 [] KF (by omega) (by simp) (by simp);rw[<-JH] at AI;simp only[World.setCells] at AI;exact FG.value (Nj _ _ AI) (J8.put λ_ _=>JG)
  .have AI:(Builtin.append_ #[t,t'] o.type #[a.eval s,a.eval x]).run C.P w= .ok (.slice none 0 0) w:=by rw[JH];have hl:=KF.len;have Wu:=KF.cells;rcases I3 with⟨I,hk⟩|hk<;>simp[Builtin.append_,run_underlying ht,run_underlying hk,sizeOf,typeInfo,hi,hl,Wu]
   exact FG.value (Nj _ _ AI) (J8.put λ_ _=>rfl)
  .have AI:=run_append_room_src (P:=C.P) w t t' o.type e i ht hi g 0 0 cap (a.eval x) 0 [] KF (by omega) (by simp) (by simp);rw[<-JH] at AI;simp only[World.setCells] at AI;exact FG.value (Nj _ _ AI) (J8.put λ_ _=>JG)
def C4.kill(hr:C4 C γ0 w0 γ Z U h a w)(id:Nat):C4 C γ0 w0 γ Z U (h.set id .DD) a w:=by
 have key:∀{FB:Nat} {x:EE},(h.set id .DD)[FB]?=some x->x≠ .DD->h[FB]?=some x:=λ{FB x} hx hd=>by
  by_cases he:id=FB
  .subst he;rw[aRT] at hx;simp only[BM] at hx;split at hx;.cases hx;exact absurd rfl hd
   .cases hx
  .rwa [Al he] at hx
 exact⟨⟨hr.DV.Iw,λFB y Iy hy=>hr.DV.Ng FB y (key Iy hy) hy,λFB cs hc b hb=>hr.DV.cells FB cs (key hc (by simp)) b hb,λFB es hc b hb=>hr.DV.map FB es (key hc (by simp)) b hb,λFB b hb=>by simpa using hr.DV.mu FB b hb,hr.DV.BN,hr.DV.sz⟩,hr.fr,hr.DP,hr.defers,hr.Hs⟩
def C4.uq(hr:C4 C γ0 w0 γ Z U h a w){id g:Nat}{cs:List Aa}(hcs:h[id]?=some (.cells cs))(hg:γ.mu id=some g){us:Array Value}{e:TypeId}{fr:Nat×Nat}(hw:w.heap[g]?=some (.cells us e fr))(V4:γ.sz g=some us.size)(DB:Array Value)(GW:List Aa)(aC:DB.size=us.size)(oU:Um fr DB.size)
  (d:A3 γ GW (DB.toList.take GW.length)) (h1:∀u∈DB.toList.take GW.length,u.oneCell'=true):∃γ',γ.le γ'/\γ'.mu h.length=some g/\C4 C γ0 w0 γ' Z U (h.set id .DD++[.cells GW]) a (w.setRow g DB)/\γ'.sz g=some us.size:=by
 obtain⟨j,p,T8⟩:=hr.DV.Ng id _ hcs (by simp);rw[hg] at p;cases p;have ĥ:id<h.length:=hr.DV.mu _ _ hg;have f:γ.mu h.length=none:=by
  cases hc:γ.mu h.length with
  |none=>rfl
  |some y=>exact absurd (hr.DV.mu _ y hc) (Dw _)
 have uniq:∀FB x,h[FB]?=some x->x≠ .DD->γ.mu FB=some g->FB=id:=λFB x hx c hm=>by obtain⟨b',p,q⟩:=hr.DV.Ng FB x hx c;rw[hm] at p;cases p;rw[T8] at q;cases q;rfl
 have EC:γ.le (γ.BP g h.length (some us.size)):=⟨λ_ _ _ d=>d,λFB b hm=>by
  have:FB≠h.length:=λhe=>by rw[he,f] at hm;cases hm
  simp only[Gh.BP,if_neg this];exact hm,λb n hm=>by
  by_cases he:b=g;.subst he;rw[V4] at hm;cases hm;simp[Gh.BP]
  .simp only[Gh.BP,if_neg he];exact hm⟩
 have old:∀{FB:Nat} {x:EE},(h.set id .DD++[EE.cells GW])[FB]?=some x->x≠ .DD->FB≠h.length->h[FB]?=some x/\FB≠id:=λ{FB x} hx hd hne=>by
  have hlt:FB<(h.set id .DD).length:=by rw[Af] at hx;obtain⟨hl,_⟩:=hx;simp at hl⊢;omega
  rw[Ah hlt] at hx;by_cases he:id=FB;.subst he;rw[AB (by simpa using hlt)] at hx;cases hx;exact absurd rfl hd
  .rw[Al he] at hx;exact⟨hx,λh=>he h.symm⟩
 have aLE:HY (γ.BP g h.length (some us.size)) (h.set id .DD++[.cells GW]) (w.setRow g DB):=by
  refine⟨λb o v hb=>?_,λFB y Iy hy=>?_,λFB Ta hc b hb=>?_,λFB es hc b hb=>?_,λFB b hb=>?_,λb y hy=>?_,λb n hb=>?_⟩
  .obtain⟨p,q,r⟩:=hr.DV.Iw b o v hb;have OG:b≠g:=λhe=>by subst he;rw[T8] at r;rcases r with r|⟨_,_,_,r,_⟩<;>cases r
   exact⟨by rw[CH (setRow_other w g b DB OG)];exact p,q,by simp only[Gh.BP,if_neg OG];exact r⟩
  .by_cases he:FB=h.length;.exact⟨g,by simp[Gh.BP,he],by simp[Gh.BP,he]⟩
   .obtain⟨jo,hne⟩:=old Iy hy he;obtain⟨b,p,q⟩:=hr.DV.Ng FB y jo hy;have OG:b≠g:=λhx=>by subst hx;exact hne (uniq FB y jo hy p)
    exact⟨b,by simp only[Gh.BP,if_neg he];exact p,by simp only[Gh.BP,if_neg OG];exact q⟩
  .by_cases he:FB=h.length;.subst he;simp[Gh.BP] at hb;subst hb;rw[Bi (by simp)] at hc;simp at hc;subst hc;exact⟨DB,e,fr,setRow_heap w g us DB e fr hw,oU,A3.mono EC _ _ d,h1⟩
   .simp only[Gh.BP,if_neg he] at hb;obtain⟨LX,hne⟩:=old hc (by simp) he;have OG:b≠g:=λhx=>by subst hx;exact hne (uniq FB _ LX (by simp) hb)
    obtain⟨pG,i,tk,p,pf,q,r⟩:=hr.DV.cells FB Ta LX b hb;exact⟨pG,i,tk,by rw[setRow_other w g b DB OG];exact p,pf,A3.mono EC _ _ q,r⟩
  .by_cases he:FB=h.length;.subst he;rw[Bi (by simp)] at hc;simp at hc
   .simp only[Gh.BP,if_neg he] at hb;obtain⟨LX,hne⟩:=old hc (by simp) he;have OG:b≠g:=λhx=>by subst hx;exact hne (uniq FB _ LX (by simp) hb)
    obtain⟨D0,clock,p,q⟩:=hr.DV.map FB es LX b hb;exact⟨D0,clock,by rw[setRow_other w g b DB OG];exact p,q.mono EC⟩
  .by_cases he:FB=h.length;.simp[he]
   .simp only[Gh.BP,if_neg he] at hb;have:=hr.DV.mu FB b hb;simp;omega
  .by_cases OG:b=g;.subst OG;have:=hr.DV.BN _ _ T8;simpa[World.setRow] using this
   .simp only[Gh.BP,if_neg OG] at hy;have:=hr.DV.BN b y hy;simpa[World.setRow] using this
  .by_cases he:b=g;.subst he;simp only[Gh.BP,BM] at hb;cases hb;exact⟨⟨DB,e,fr,setRow_heap w b us DB e fr hw,aC⟩,.inr ⟨h.length,by simp[Gh.BP]⟩⟩
   .simp only[Gh.BP,if_neg he] at hb⊢;obtain⟨p,r⟩:=hr.DV.sz b n hb;exact⟨by rw[setRow_other w g b DB he];exact p,r⟩
 refine⟨_,EC,by simp[Gh.BP],hr.I8 aLE ⟨EC,by simp[World.setRow],rfl,rfl,rfl,λb hb hn=>?_⟩,by simp[Gh.BP]⟩;have OG:b≠g:=λhe=>by subst he;exact hn id T8
 exact⟨setRow_other w g b DB OG,by simp only[Gh.BP,if_neg OG]⟩
def ur{o:Oper}{c:Call}{t t' e:TypeId}{n b:Nat}{s x:Operand}{v u r:Aa}{h':Ae}(ho:o.op= .call c)(hc:c.callee= .builtin .append)(h0:c.argTypes[0]?=some t)(h1:c.argTypes[1]?=some t')(EJ:c.args.toList=[s,x])(ht:C.P.underlying t=some (.slice e))
  (I3:(∃L,C.P.underlying t'=some (.slice L))\/C.P.underlying t'=some .string) (KT:BR C.P e=some (n+1)) (uf:Kg C.P e=some (b+1)) (jQ:MC C.P e=true) (N:Bm C U [s,x]=some [v,u])
  (hp:Gt h (n+1) (b+1) v u=some (h',r)) (hr:C4 C γ0 w0 γ Z U h a w):FG C γ0 w0 o a w (U.put o.dst (.val r)) h':=by
 obtain⟨i,z,hi,hz,dJ⟩:=LB jQ;have Rr:=JW KT hi;have H:=Mg uf hi;obtain⟨_,_,R,hvs,oW⟩:=E1 hr N;cases R;have KD:c.args.map a.eval=#[a.eval s,a.eval x]:=by apply HJ;simp[EJ]
 have Nj:∀v' w',(Builtin.append_ #[t,t'] o.type #[a.eval s,a.eval x]).run C.P w= .ok v' w'->(execOp a.eval o).run C.P w= .ok (.value v') w':=λv' w' AI=>by
  have:execOp a.eval o=(do pure (Next.value (<-Builtin.append_ #[t,t'] o.type #[a.eval s,a.eval x]))):=by rw[<-KD,<-OP (ty:=o.type) h0 h1];simp only[execOp,ho,resolve,hc];rfl
  rw[this];exact Dy AI
 unfold Gt at hp;cases hq:GX h (n+1) u with
 |none=>rw[hq] at hp;cases hp
 |some As=>
  rw[hq] at hp;obtain⟨news,KF,Wt,pX⟩:=Xx (w:=w) I3 hr.DV oW hq;have Kj:Src C.P i.size t' (a.eval x) As.length news w:=by rw[Rr];exact KF
  have Rs:news.length=As.length*(n+1):=KF.newsLen;have IZ:As.flatten.length=news.length:=by rw[Wt.length]
  cases As with
  |nil=>
   have tn:news=[]:=CQ (by simpa using Rs);subst tn;cases v with
   |slnil=>
    cases hp;have JH:a.eval s= .slice none 0 0:=hvs;have AI:(Builtin.append_ #[t,t'] o.type #[a.eval s,a.eval x]).run C.P w= .ok (.slice none 0 0) w:=by rw[JH];have hl:=Kj.len;have Wu:=Kj.cells;simp only[AY] at hl Wu;rcases I3 with⟨L,hk⟩|hk<;>simp[Builtin.append_,run_underlying ht,run_underlying hk,sizeOf,typeInfo,hi,hl,Wu]
    exact FG.value (Nj _ _ AI) (hr.put λ_ _=>rfl)
   |GB E=>
    simp only at hp;split at hp;.cases hp;obtain⟨g,JH⟩:=(show BJ γ _ _ from hvs);have AI:=run_append_room_src (P:=C.P) w t t' o.type e i ht hi g 0 0 0 (a.eval x) 0 [] Kj (by omega) (by simp) (by simp);rw[<-JH] at AI;simp only[World.setCells,Bp] at AI;exact FG.value (Nj _ _ AI) (hr.put λ_ _=>⟨g,JH⟩)
    .cases hp
   |C7 id off k E=>
    simp only at hp;split at hp;.cases hp;obtain⟨g,cap,hg,JH,ĝ,qd,V4⟩:=(show BJ γ _ _ from hvs);have AI:=run_append_room_src (P:=C.P) w t t' o.type e i ht hi g off k cap (a.eval x) 0 [] Kj (by omega) (by simp) (by simp);rw[<-JH] at AI;simp only[World.setCells,Bp] at AI;exact FG.value (Nj _ _ AI) (hr.put λ_ _=>⟨g,cap,hg,rfl,ĝ,qd,V4⟩)
    .cases hp
   |_=>cases hp
  |cons M l=>
   generalize hR:M::l=As at*;have hpos:0<As.length:=by rw[<-hR];simp
   have d:∀(h2:Ae) (base:Option Addr) (k cap:Nat) (Kd:List Aa) (olds:List Value),C4 C γ0 w0 γ Z U h2 a w->a.eval s= .slice base k cap->A3 γ Kd olds->olds.length=k*(n+1)->(∀q∈olds,q.oneCell'=true)->
     (Builtin.firstCells i.size k (.slice base k cap)).run C.P w.drew= .ok olds.toArray w.drew->cap<k+As.length->(k+As.length)*(b+1)<=AN->
     FG C γ0 w0 o a w (U.put o.dst (.val (.C7 h2.length 0 (k+As.length) (n+1)))) (h2++[.cells (Kd++As.flatten)]):=by
    intro h2 base k cap Kd olds MH hs aGY qe qc f hlt T9;have RY:k+As.length<=AN:=Bn (IW _ (CV b)) T9;have Gt:=run_append_grow_src (P:=C.P) w t t' o.type e i z ht hi hz base k cap olds f (a.eval x) As.length news Kj hlt (by simp only[AN] at RY;omega) (by rw[H];exact growslice_fits hlt T9);rw[<-hs] at Gt;have HK:=grownCap_ge w (k+As.length) cap e;have ji:(olds++news).length=(k+As.length)*(n+1):=by rw[Ai,qe,Rs,BD]
    have dE:(Kd++As.flatten).length=(olds++news).length:=by rw[Ai,Ai,aGY.length,IZ]
    have uo:((olds++news).toArray++Builtin.zeroCells z.cells (grownCap w (k+As.length) cap e-(k+As.length))).size=grownCap w (k+As.length) cap e*(n+1):=by simp only[J5,BT,size_zeroCells,dJ,Rr,ji,<-BD];congr 1;omega
    have Vl:((olds++news).toArray++Builtin.zeroCells z.cells (grownCap w (k+As.length) cap e-(k+As.length))).toList.take (Kd++As.flatten).length=olds++news:=by simp only[GU];rw[dE];exact EO
    obtain⟨D,kM,XC,G,V0⟩:=MH.drew.newObj ((olds++news).toArray++Builtin.zeroCells z.cells (grownCap w (k+As.length) cap e-(k+As.length))) e (0,0) (Kd++As.flatten) (.inl rfl) (by rw[Vl];exact aGY.append Wt) (by rw[Vl];intro q hq;exact(Aj.1 hq).elim (qc q) (KF.one q))
    exact FG.value (Nj _ _ Gt) (G.put λ_ _=>⟨w.heap.size,_,XC,rfl,HK,⟨CV n,grownCap_le_maxLen w _ _ _ (by simp only[AN] at RY;simp only[maxLen];omega)⟩,by rw[By,<-uo];exact V0⟩)
   cases v with
   |slnil=>
    have JH:a.eval s= .slice none 0 0:=hvs;rw[<-hR] at hp;simp only at hp;rw[hR] at hp;split at hp;.rename_i T9;cases hp;have:=d h none 0 0 [] [] hr JH rfl (by simp) (by simp) (run_firstCells_none _ _ _ _ _) (by omega) (by simpa using T9);simpa using this
    .cases hp
   |GB E=>
    obtain⟨g,JH⟩:=(show BJ γ _ _ from hvs);rw[<-hR] at hp;simp only at hp;rw[hR] at hp;split at hp;.rename_i T9;cases hp;have:=d h (some ⟨g,0,none⟩) 0 0 [] [] hr JH rfl (by simp) (by simp) (by simpa using run_firstCells_some (P:=C.P) w.drew i.size 0 ⟨g,0,none⟩ 0 0 [] (by simp) (by simp)) (by omega) (by simpa using T9.2);simpa using this
    .cases hp
   |C7 id off k E=>
    rw[<-hR] at hp;simp only at hp;rw[hR] at hp;split at hp
    .rename_i cs hcs;split at hp
     .rename_i qg;subst qg;obtain⟨g,cap,hg,JH,ĝ,qd,V4⟩:=(show BJ γ _ _ from hvs);obtain⟨us,K,fr,m,pf,B,A⟩:=hr.DV.cells id cs hcs g hg;obtain⟨⟨qa,Q,O,I,F⟩,_⟩:=hr.DV.sz g _ V4;rw[m] at I;cases I;have qb:cs.length<=us.size:=by have:=B.length;simp at this;omega
      have N5:∀j,(⟨g,off,none⟩:Addr).add j=⟨g,off+j,none⟩:=λj=>by unfold Addr.add;split<;>simp_all
      have p:∀o,o<us.size->w.frozen? ⟨g,o,none⟩=false:=λo ho=>by
       simp only[World.frozen?,m];rcases pf with rfl|oU
       .simp
       .simp;omega
      have room:k+As.length<=cap->(Builtin.append_ #[t,t'] o.type #[a.eval s,a.eval x]).run C.P w= .ok (.slice (some ⟨g,off,none⟩) (k+As.length) cap) (w.setRow g (us.toList.take (off+k*(n+1))++news++us.toList.drop (off+k*(n+1)+news.length)).toArray)/\off+k*(n+1)+news.length<=us.size:=by
       intro hroom;have hfit:off+k*(n+1)+news.length<=us.size:=by rw[Rs,F,SC,<-BD];exact Nat.add_le_add_left (Ee _ hroom) _
       have AI:=run_append_room_src (P:=C.P) w t t' o.type e i ht hi g off k cap (a.eval x) As.length news Kj hroom (λj hj=>by rw[cell_of_row w _ _ us K fr m,Rr,CJ (by omega)];rfl) (λj hj=>by rw[Rr];exact p _ (by omega))
       rw[Rr,EI news _ us w m hfit,<-JH] at AI;exact⟨AI,hfit⟩
      have ü:(k+As.length)*(n+1)=k*(n+1)+As.length*(n+1):=BD _ _ _;split at hp
      .rename_i Zh;cases hp;have hroom:k+As.length<=cap:=by
        have h3:(k+As.length)*(n+1)<=cap*(n+1):=by omega
        exact Nat.le_of_mul_le_mul_right h3 (CV n)
       obtain⟨AI,hfit⟩:=room hroom;have J:off+(k+As.length)*(n+1)=off+k*(n+1)+news.length:=by rw[Rs,ü];omega
       have hcl:(cs.take (off+k*(n+1))++As.flatten++cs.drop (off+(k+As.length)*(n+1))).length=cs.length:=by rw[J,Ai,Ai,Av,A5,IZ];omega
       have Vl:((us.toList.take (off+k*(n+1))++news++us.toList.drop (off+k*(n+1)+news.length)).toArray).toList.take (cs.take (off+k*(n+1))++As.flatten++cs.drop (off+(k+As.length)*(n+1))).length=
         (us.toList.take cs.length).take (off+k*(n+1))++news++(us.toList.take cs.length).drop (off+k*(n+1)+news.length):=by
        rw[hcl];simp only[Lc];exact Nq (by simpa using qb) (by omega) rfl
       obtain⟨jS,Us⟩:=N1 hr.DV hcs hg m (us.toList.take (off+k*(n+1))++news++us.toList.drop (off+k*(n+1)+news.length)).toArray (cs.take (off+k*(n+1))++As.flatten++cs.drop (off+(k+As.length)*(n+1)))
        (by simp only[BT,Ai,Av,A5,Cd];omega)
        (by
         rcases pf with rfl|pf
         .exact .inl rfl
         .refine .inr (Bn (M5 ?_) pf);simp only[BT,Ai,Av,A5,Cd];omega)
        (by rw[Vl,J];exact ON B Wt)
        (by
         rw[Vl];intro q hq;rcases Aj.1 hq with hq|hq
         .rcases Aj.1 hq with hq|hq
          .exact A q (AZ hq)
          .exact KF.one q hq
         .exact A q (Bc hq))
       exact FG.value (Nj _ _ AI) ((hr.I8 jS Us).put λ_ _=>⟨g,cap,hg,rfl,hroom,qd,V4⟩)
      .rename_i aSg;split at hp
       .rename_i H8;obtain⟨rfl,Xm,T9⟩:=H8;cases hp;simp only[By] at*;by_cases hroom:k+As.length<=cap
        .obtain⟨AI,hfit⟩:=room hroom;have dE:(cs.take (k*(n+1))++As.flatten).length=k*(n+1)+news.length:=by rw[Ai,Av,IZ];omega
         have Vl:((us.toList.take (k*(n+1))++news++us.toList.drop (k*(n+1)+news.length)).toArray).toList.take (cs.take (k*(n+1))++As.flatten).length=(us.toList.take cs.length).take (k*(n+1))++news:=by
          rw[dE];simp only[Lc];have:(us.toList.take (k*(n+1))++news).length=k*(n+1)+news.length:=by rw[Ai,Av,Cd];omega
          rw[<-this,EO,Cy,BG Xm]
         obtain⟨D,kM,XC,MH,V0⟩:=hr.uq hcs hg m (by rw[V4,F]) (us.toList.take (k*(n+1))++news++us.toList.drop (k*(n+1)+news.length)).toArray (cs.take (k*(n+1))++As.flatten)
          (by simp only[BT,Ai,Av,A5,Cd];omega)
          (by
           rcases pf with rfl|pf
           .exact .inl rfl
           .refine .inr (Bn (M5 ?_) pf);simp only[BT,Ai,Av,A5,Cd];omega)
          (by rw[Vl];exact(B.take _).append Wt)
          (by
           rw[Vl];intro q hq;rcases Aj.1 hq with hq|hq
           .exact A q (AZ hq)
           .exact KF.one q hq)
         exact FG.value (Nj _ _ AI) (MH.put λ_ _=>⟨g,cap,XC,rfl,hroom,qd,by rw[V0,F];simp⟩)
        .have qe:((us.toList.take cs.length).take (k*(n+1))).length=k*(n+1):=by simp;omega
         have:=d (h.set id .DD) (some ⟨g,0,none⟩) k cap (cs.take (k*(n+1))) ((us.toList.take cs.length).take (k*(n+1))) (hr.kill id) JH (B.take _) qe (λq hq=>A q (AZ hq))
          (by
           rw[Rr];exact run_firstCells_some w.drew _ _ _ _ _ _ qe (λj y hj=>by
            rw[N5];show w.cell? _=_;rw[cell_of_row w _ _ us K fr m];rw[Co] at hj;split at hj
            .rw[Co] at hj;split at hj;.simpa using hj
             .cases hj
            .cases hj)) (by omega) T9
         simpa using this
       .cases hp
     .cases hp
    .cases hp
   |_=>rw[<-hR] at hp;cases hp
end
section
variable{C:FT}{γ0 γ γ':Gh}{w0 w w':World}{Z:Nat->Nat}{U:BL}{h:Ae}{a:Act}{fid:FuncId}{ops:List Oper}
def kU(hi:HY γ h w){id g off:Nat}{cs b:List Aa}{news:List Value}(hcs:h[id]?=some (.cells cs))(hg:γ.mu id=some g)(f:A3 γ b news)(h1:∀u∈news,u.oneCell'=true)(hl:off+b.length<=cs.length):
  ∃w',(storeCells ⟨g,off,none⟩ news).run C.P w= .ok () w'/\HY γ (h.set id (.cells (cs.take off++b++cs.drop (off+b.length)))) w'/\ME γ w γ w':=by
 obtain⟨us,e,fr,hw,pf,d,c⟩:=hi.cells id cs hcs g hg;have Rs:news.length=b.length:=f.length;have hlt:cs.length<=us.size:=by have:=d.length;simp at this;omega
 have hs:=run_storeCells_cells (P:=C.P) g off news 0 w (λj hj=>by
  rw[cell_of_row w _ _ us e fr hw,Bp,CJ (by omega)];rfl) (λj hj=>by
  simp only[World.frozen?,hw];rcases pf with rfl|oU
  .simp
  .simp;omega) h1
 rw[Bp,EI _ off us w hw (by omega)] at hs;have hcl:(cs.take off++b++cs.drop (off+b.length)).length=cs.length:=by simp;omega
 have Vl:((us.toList.take off++news++us.toList.drop (off+news.length)).toArray).toList.take (cs.take off++b++cs.drop (off+b.length)).length=(us.toList.take cs.length).take off++news++(us.toList.take cs.length).drop (off+news.length):=by rw[hcl];simp only[Lc];exact Nq (by simpa using hlt) (by omega) rfl
 obtain⟨uv,ha⟩:=N1 hi hcs hg hw (us.toList.take off++news++us.toList.drop (off+news.length)).toArray (cs.take off++b++cs.drop (off+b.length))
  (by simp only[BT,Ai,Av,A5,Cd];omega)
  (by
   rcases pf with rfl|pf
   .exact .inl rfl
   .refine .inr (Bn (M5 ?_) pf);simp only[BT,Ai,Av,A5,Cd];omega)
  (by rw[Vl,Rs];exact ON d f)
  (by
   rw[Vl];intro q hq;rcases Aj.1 hq with hq|hq
   .rcases Aj.1 hq with hq|hq
    .exact c q (AZ hq)
    .exact h1 q hq
   .exact c q (Bc hq))
 exact⟨_,hs,uv,ha⟩
def p8{t t' ty:TypeId}{ts:Array TypeId}{xs:Array Value}(h0:ts[0]?=some t)(h1:ts[1]?=some t'):Builtin.copy_ ts ty xs=Builtin.copy_ #[t,t'] ty xs:=by simp only[Builtin.copy_,h0];rfl
def kW{P:Program}{t t' ty e:TypeId}{i:TypeInfo}(ht:P.underlying t=some (.slice e))(hi:P.info? e=some i){x:Value}{n:Nat}{news:List Value}(hs:Src P i.size t' x n news w){base:Option Addr}{k cap:Nat}(hk:n<=k)
  (Jl:∀b,base=some b->(storeCells b news).run P w= .ok () w') (Zg:base=none->w'=w):(Builtin.copy_ #[t,t'] ty #[.slice base k cap,x]).run P w= .ok (.int .i64 n) w':=by
 have hl:=hs.len w;have hc:=hs.cells;have hm:Nat.min n k=n:=BG hk;cases base with
 |none=>cases Zg rfl;simp[Builtin.copy_,run_underlying ht,hl,hc,sizeOf,typeInfo,hi,hm,goInt]
 |some b=>have h2:=Jl b rfl;simp[Builtin.copy_,run_underlying ht,hl,hc,sizeOf,typeInfo,hi,hm,goInt,h2]
def uw{o:Oper}{c:Call}{t t' e:TypeId}{n:Nat}{s x:Operand}{v u r:Aa}{h':Ae}(ho:o.op= .call c)(hc:c.callee= .builtin .copy)(h0:c.argTypes[0]?=some t)(h1:c.argTypes[1]?=some t')(EJ:c.args.toList=[s,x])(ht:C.P.underlying t=some (.slice e))
  (I3:(∃l,C.P.underlying t'=some (.slice l))\/C.P.underlying t'=some .string) (KT:BR C.P e=some (n+1)) (f:Bm C U [s,x]=some [v,u])
  (hp:vA h (n+1) v u=some (h',r)) (hr:C4 C γ0 w0 γ Z U h a w):FG C γ0 w0 o a w (U.put o.dst (.val r)) h':=by
 obtain⟨_,_,j,hvs,oW⟩:=E1 hr f;cases j;have KD:c.args.map a.eval=#[a.eval s,a.eval x]:=by apply HJ;simp[EJ]
 have Nj:∀v' w',(Builtin.copy_ #[t,t'] o.type #[a.eval s,a.eval x]).run C.P w= .ok v' w'->(execOp a.eval o).run C.P w= .ok (.value v') w':=λv' w' AI=>by
  have:execOp a.eval o=(do pure (Next.value (<-Builtin.copy_ #[t,t'] o.type #[a.eval s,a.eval x]))):=by rw[<-KD,<-p8 (ty:=o.type) h0 h1];simp only[execOp,ho,resolve,hc];rfl
  rw[this];exact Dy AI
 cases hi:C.P.info? e with
 |none=>simp[BR,hi] at KT
 |some i=>
 have Rr:=JW KT hi;unfold vA at hp;cases hq:GX h (n+1) u with
 |none=>rw[hq] at hp;cases hp
 |some As=>
  rw[hq] at hp;obtain⟨news,KF,Wt,pX⟩:=Xx (w:=w) I3 hr.DV oW hq;have Kj:Src C.P i.size t' (a.eval x) As.length news w:=by rw[Rr];exact KF
  have Rs:news.length=As.length*(n+1):=KF.newsLen;have IZ:As.flatten.length=news.length:=by rw[Wt.length]
  simp only at hp;split at hp
  .split at hp;.rename_i jq;cases hp;have JH:a.eval s= .slice none 0 0:=hvs;have AI:=kW (t:=t) (ty:=o.type) (w:=w) (w':=w) ht hi Kj (base:=none) (k:=0) (cap:=0) (by omega) (λ_ e=>by cases e) (λ_=>rfl);rw[<-JH] at AI;rw[jq] at AI;exact FG.value (Nj _ _ AI) (hr.put λ_ _=>rfl)
   .cases hp
  .rename_i id off k z;split at hp
   .rename_i cs hcs;split at hp;.rename_i H8;obtain⟨rfl,b,hlen⟩:=H8;cases hp;obtain⟨g,cap,hg,JH,ĝ,qd,V4⟩:=(show BJ γ _ _ from hvs);have hm:=Ee (n+1) b;obtain⟨w',Jl,uv,d⟩:=kU (C:=C) (off:=off) hr.DV hcs hg Wt KF.one (by omega);have AI:=kW (t:=t) (ty:=o.type) (w:=w) (w':=w') ht hi Kj (base:=some ⟨g,off,none⟩) (k:=k) (cap:=cap) b (λ_ e=>by cases e;exact Jl) (λe=>by cases e);rw[<-JH] at AI;rw[show As.length*(n+1)=As.flatten.length by rw[IZ,Rs]];exact FG.value (Nj _ _ AI) ((hr.I8 uv d).put λ_ _=>rfl)
    .cases hp
   .cases hp
  .cases hp
def kX{t ty:TypeId}{ts:Array TypeId}{xs:Array Value}(h0:ts[0]?=some t):Builtin.clear_ ts ty xs=Builtin.clear_ #[t] ty xs:=by simp only[Builtin.clear_,h0];rfl
def jr{o:Oper}{c:Call}{t e:TypeId}{n:Nat}{s:Operand}{v z r:Aa}{h':Ae}(ho:o.op= .call c)(hc:c.callee= .builtin .clear)(h0:c.argTypes[0]?=some t)(EJ:c.args.toList=[s])(ht:C.P.underlying t=some (.slice e))
  (KT:BR C.P e=some (n+1)) (hz:GY C.P e=some z) (B:Bm C U [s]=some [v]) (hp:W0 h (n+1) z.cells v=some (h',r)) (hr:C4 C γ0 w0 γ Z U h a w):FG C γ0 w0 o a w (U.put o.dst .undef) h':=by
 obtain⟨_,F,hvs⟩:=GD hr B;cases F;have KD:c.args.map a.eval=#[a.eval s]:=by apply HJ;simp[EJ]
 have Nj:∀v' w',(Builtin.clear_ #[t] o.type #[a.eval s]).run C.P w= .ok v' w'->(execOp a.eval o).run C.P w= .ok (.value v') w':=λv' w' AI=>by
  have:execOp a.eval o=(do pure (Next.value (<-Builtin.clear_ #[t] o.type #[a.eval s]))):=by rw[<-KD,<-kX (ty:=o.type) h0];simp only[execOp,ho,resolve,hc];rfl
  rw[this];exact Dy AI
 unfold W0 at hp;split at hp
 .cases hp;have JH:a.eval s= .slice none 0 0:=hvs;have AI:(Builtin.clear_ #[t] o.type #[a.eval s]).run C.P w= .ok (.tuple #[]) w:=by rw[JH];simp[Builtin.clear_,run_underlying ht]
  exact FG.value (Nj _ _ AI) (hr.put λ_ _=>trivial)
 .rename_i id off k G;split at hp
  .rename_i cs hcs;split at hp
   .rename_i H8;obtain⟨rfl,f,hlen⟩:=H8;cases hp;obtain⟨g,cap,hg,JH,ĝ,qd,V4⟩:=(show BJ γ _ _ from hvs);obtain⟨d,qh,l⟩:=Ih hz;obtain⟨y,A⟩:=Hz (γ:=γ) (Fi qh) (by omega);have dJ:d.cells.size=n+1:=by have:=y.length;simp at this;omega
    have IZ:(List.replicate k z.cells).flatten.length=k*(n+1):=by rw[HB (z:=n+1) (λr hr=>by rw[aAK hr,f]),FE]
    have i:∀(j:Nat) (u:Value),(Builtin.zeroCells d.cells k).toList[j]?=some u->j<k*(n+1)/\d.cells.toList[j%(n+1)]?=some u:=by
     intro j u hj;have aP:j<k*(n+1):=by have:=(Af.1 hj).1;simpa[size_zeroCells,dJ] using this
     refine⟨aP,?_⟩;have aCj:j%(n+1)<d.cells.size:=by rw[dJ];exact Nat.mod_lt _ (CV n)
     simp only[Builtin.zeroCells,NV,CE] at hj;have b:(Array.range (k*d.cells.size)).toList[j]?=some j:=by simp[dJ,aP]
     rw[b] at hj;simp only[BF,Bx] at hj;rw[dJ] at hj;rw[<-hj];simp[aCj]
    have D:A3 γ (List.replicate k z.cells).flatten (Builtin.zeroCells d.cells k).toList:=by refine A3.GZ (by simp only[Cd,size_zeroCells,dJ,IZ]) λj x u hx hu=>?_;obtain⟨aP,p⟩:=i j u hu;rw[Il z.cells _ _ (by rw[f];exact aP),f] at hx;obtain⟨H,iy,m⟩:=y.get hx;rw[p] at iy;cases iy;exact m
    obtain⟨w',Jl,uv,q⟩:=kU (C:=C) (off:=off) hr.DV hcs hg D (λu hu=>by obtain⟨j,hj⟩:=CG hu;exact A u (Cx (i j u hj).2)) (by omega)
    have AI:(Builtin.clear_ #[t] o.type #[a.eval s]).run C.P w= .ok (.tuple #[]) w':=by
     rw[JH];cases k with
     |zero=>
      have E:(Builtin.zeroCells d.cells 0).toList=[]:=by simp[Builtin.zeroCells]
      rw[E] at Jl;have:w'=w:=by have h2:(storeCells ⟨g,off,none⟩ []).run C.P w= .ok () w:=rfl;rw[h2] at Jl;cases Jl;rfl
      rw[this];simp[Builtin.clear_,run_underlying ht]
     |succ k=>simp[Builtin.clear_,run_underlying ht,l,Jl]
    rw[show k*(n+1)=(List.replicate k z.cells).flatten.length from IZ.symm];exact FG.value (Nj _ _ AI) ((hr.I8 uv q).put λ_ _=>trivial)
   .cases hp
  .cases hp
 .cases hp
def ux{o:Oper}{t e:TypeId}{n:Nat}{x:Operand}{lo hi:Option Operand}{v r:Aa}{as:List Aa}{h':Ae}(ho:o.op= .slice t x lo hi none)(ht:C.P.underlying t=some (.slice e))(KT:BR C.P e=some (n+1))
  (s:Bm C U (x::(lo.toList++hi.toList))=some (v::as)) (hp:jZ h (n+1) lo.isSome hi.isSome v as=some (h',r)) (hr:C4 C γ0 w0 γ Z U h a w):FG C γ0 w0 o a w (U.put o.dst (.val r)) h':=by
 have pZ:=DQ hr s;obtain⟨u,us,c,hx,uy⟩:=pZ;simp only[Bd,Dq] at c;obtain⟨rfl,rfl⟩:=c;unfold jZ at hp;split at hp
 .rename_i id off k z;split at hp
  .rename_i cs hcs;split at hp
   .rename_i H8;obtain⟨rfl,b,aGV⟩:=H8;obtain⟨g,cap,hg,JH,ĝ,qd,V4⟩:=(show BJ γ _ _ from hx);cases hb:DI lo.isSome hi.isSome ((cs.length-off)/(n+1)) as with
    |none=>rw[hb] at hp;cases hp
    |some m=>
     obtain⟨l,q⟩:=m;rw[hb] at hp;simp only[Ck] at hp;split at hp
     .rename_i hlt;cases hp;obtain⟨us,c,fr,j,pf,i,F⟩:=hr.DV.cells id cs hcs g hg;obtain⟨⟨qa,D,A,d,E⟩,_⟩:=hr.DV.sz g _ V4;rw[j] at d;cases d;have qb:cs.length<=us.size:=by have:=i.length;simp at this;omega
      have aLG:(cs.length-off)/(n+1)<=cap:=by refine Nat.div_le_of_le_mul ?_;rw[Nat.mul_comm];omega
      have f:∀y:Option Operand,(y.map a.eval).isSome=y.isSome:=λy=>by cases y<;>rfl
      have B:(lo.map a.eval).toList++(hi.map a.eval).toList=(lo.toList++hi.toList).map a.eval:=by cases lo<;>cases hi<;>rfl
      rw[<-f lo,<-f hi] at hb;obtain⟨p,H,G⟩:=KU (P:=C.P) (w:=w) (isSlice:=true) hb (by rw[B];exact uy) aLG;have N2:Instr.sliceBounds true k cap (lo.map a.eval) (hi.map a.eval) none=Instr.sliceBounds true ((cs.length-off)/(n+1)) cap (lo.map a.eval) (hi.map a.eval) none:=by
       cases hi with
       |none=>cases b
       |some y=>rfl
      have I3:C.P.underlying t=some (.slice (C.P.elem t)):=by simp[Program.elem,ht]
      have he:C.P.elem t=e:=by simp[Program.elem,ht]
      have AI:(Instr.sliceAt t (a.eval x) (lo.map a.eval) (hi.map a.eval) none).run C.P w= .ok (.slice (some ⟨g,off+l*(n+1),none⟩) (q-l) (cap-l)) w:=by rw[JH,run_sliceAt_slice w t _ _ _ _ I3,run_slice_any w t _ _ _ I3,N2,p,he,Result.andThen_ok,DG KT];show Result.ok (Value.slice (if cap=l then some ⟨g,off,none⟩ else Option.map (λq:Addr=>q.add (l*(n+1))) (some ⟨g,off,none⟩)) (q-l) (cap-l)) w=_;rw[if_neg (by omega)];simp only[BF];unfold Addr.add;split<;>simp_all
      refine FG.value (by simp only[execOp,ho];exact Dy AI) (hr.put λ_ _=>⟨g,cap-l,hg,rfl,by omega,⟨qd.1,Bn (Nat.sub_le _ _) qd.2⟩,?_⟩);rw[V4,SC,<-BD,aLj (by omega)]
     .cases hp
   .cases hp
  .cases hp
 .cases hp
def uz{o:Oper}{t e:TypeId}{n:Nat}{x lo hi mx:Operand}{args:List Aa}(ho:o.op= .slice t x (some lo) (some hi) (some mx))(ht:C.P.underlying t=some (.slice e))(KT:BR C.P e=some (n+1))
  (q:Bm C U [x,lo,hi,mx]=some args) (hp:W8 (n+1) args=true) (hr:C4 C γ0 w0 γ Z U h a w):FG C γ0 w0 o a w (U.put o.dst .undef) h:=by
 have pZ:=DQ hr q;have I3:C.P.underlying t=some (.slice (C.P.elem t)):=by simp[Program.elem,ht]
 have he:C.P.elem t=e:=by simp[Program.elem,ht]
 have Jd:∀(base:Option Addr) (len cap:Nat) (kl kr d:IntKind) (l r m:Int),a.eval x= .slice base len cap->a.eval lo= .int kl l->a.eval hi= .int kr r->a.eval mx= .int d m->0<=l->l<=r->r<=m->m<=cap->FG C γ0 w0 o a w (U.put o.dst .undef) h:=by
  intro base len cap kl kr d l r m A z y u h1 h2 h3 f;have AI:∃v,(Instr.sliceAt t (a.eval x) (some (a.eval lo)) (some (a.eval hi)) (some (a.eval mx))).run C.P w= .ok v w:=by
   have c:0<=m:=by omega
   have b:0<=r:=by omega
   have b1:∀code,(Instr.sliceBound (.int d m) cap code).run C.P w= .ok m.toNat w:=λcode=>by simp[Instr.sliceBound,asIntOf,c,f]
   have D:∀code,(Instr.sliceBound (.int kr r) m.toNat code).run C.P w= .ok r.toNat w:=λcode=>by simp[Instr.sliceBound,asIntOf,b,Iz c,h3]
   have B:∀code,(Instr.sliceBound (.int kl l) r.toNat code).run C.P w= .ok l.toNat w:=λcode=>by simp[Instr.sliceBound,asIntOf,h1,Iz b,h2]
   rw[A,z,y,u];simp[Instr.sliceAt,Instr.slice,run_underlying ht,Instr.sliceBounds,b1,D,B,DG KT]
  obtain⟨v,AI⟩:=AI;exact FG.value (by simp only[execOp,ho];exact Dy AI) (hr.put λ_ _=>trivial)
 unfold W8 at hp;split at hp
 .rename_i s _ l _ r _ m;obtain⟨H,p,f1,g1,G,pG,f2,g2,F,k,f3,g3,E,j,f4,i,f5⟩:=pZ;subst f5;simp only[Bd,Dz] at f1;subst f4;subst f3;subst f2;simp only[Dq,M8] at f1;obtain⟨rfl,rfl,rfl,rfl⟩:=f1;split at hp;.simp only[A4,Ci] at hp;obtain⟨⟨⟨⟨_,h1⟩,h2⟩,h3⟩,f⟩:=hp;obtain⟨g,cap,hg,JH,ĝ,_⟩:=(show BJ γ _ _ from g1);exact Jd _ _ _ _ _ _ _ _ _ JH (Er g2) (Er g3) (Er i) h1 h2 h3 (by omega)
  .simp only[A4,Ci] at hp;obtain⟨⟨⟨⟨_,h1⟩,h2⟩,h3⟩,f⟩:=hp;obtain⟨I,cap,JH,ĝ,_⟩:=(show BJ γ _ _ from g1);exact Jd _ _ _ _ _ _ _ _ _ JH (Er g2) (Er g3) (Er i) h1 h2 h3 (by omega)
  .cases hp
 .cases hp
def u_{o:Oper}{t:TypeId}{x:Operand}{v:Aa}{u:TypeDesc}(ho:o.op= .makeInterface t x)(ht:C.P.underlying t=some u)(hn:∀i,u≠ .interface i)(b:Bm C U [x]=some [v])(hr:C4 C γ0 w0 γ Z U h a w):FG C γ0 w0 o a w (U.put o.dst (.val (.iface t v))) h:=by
 obtain⟨_,c,hvs⟩:=GD hr b;cases c;have AI:(Instr.makeInterface t (a.eval x)).run C.P w= .ok (.iface t (a.eval x)) w:=by cases u<;>simp_all [Instr.makeInterface,run_underlying ht]
 exact FG.value (by simp only[execOp,ho];exact Dy AI) (hr.put λ_ _=>⟨_,rfl,hvs⟩)
def QW{n:Int}:∀{es:List (Aa×Aa)} {l:List MapEntry} {i:Nat} {r:Option (Nat×Aa)},Lw γ es l->ID n es i=some r->
  match r with
  |none=>Instr.findNow (.int .i64) (.int .i64 n) l i=some none
  |some (j,v)=>∃(e:MapEntry),Instr.findNow (.int .i64) (.int .i64 n) l i=some (some (j,e.val))/\BJ γ v e.val/\i<=j/\l[j-i]?=some e/\e.key= .int .i64 n
 |[],l,i,r,b,hf=>by rw[show l=[] from b];cases hf;rfl
 |(k,v)::es,l,i,r,b,hf=>by
  obtain⟨e,l',rfl,h1,h2,h3⟩:=b;cases k with
  |int q t=>
   by_cases hq:q= .i64
   .subst hq;simp only[ID] at hf;have hk:e.key= .int .i64 t:=h1;split at hf;.rename_i Jl;subst Jl;cases hf;exact⟨e,by simp[Instr.findNow,hk,Instr.sameNow],h2,Ab _,by simp,hk⟩
    .rename_i Jl;have aGZ:(n==t)=false:=by simpa using Jl
     have ih:=QW (i:=i+1) h3 hf;cases r with
     |none=>simpa[Instr.findNow,hk,Instr.sameNow,aGZ] using ih
     |some p=>obtain⟨j,o⟩:=p;obtain⟨m,g,f,s,d,c⟩:=ih;refine⟨m,by simpa[Instr.findNow,hk,Instr.sameNow,aGZ] using g,f,by omega,?_,c⟩;rw[show j-i=(j-(i+1))+1 by omega,T0];exact d
   .exfalso;cases q<;>first|exact hq rfl|(simp[ID] at hf)
  |_=>simp[ID] at hf
def va{o:Oper}{t kt e:TypeId}{m k:Operand}{g l z r:Aa}{ok:Bool}{h':Ae}(ho:o.op= .lookup t m k ok)(ht:C.P.underlying t=some (.map kt e))(hk:C.P.underlying kt=some (.int .i64))(hz:GY C.P e=some z)(ha:Bm C U [m,k]=some [g,l])(hm:j0 h z ok g l=some (h',r))(hr:C4 C γ0 w0 γ Z U h a w):
  FG C γ0 w0 o a w (U.put o.dst (.val r)) h':=by
 obtain⟨_,_,y,h1,h2⟩:=E1 hr ha;cases y;obtain⟨f,qh,d⟩:=Ih hz;have Jd:∀(es:Array MapEntry) (q:Option (Nat×Aa)),(Instr.lookup t (a.eval m) (a.eval k) ok).run C.P w=(Lo kt e (a.eval k) ok es).run C.P w->
   ∀n,a.eval k= .int .i64 n->(match q with|none=>Instr.findNow (.int .i64) (.int .i64 n) es.toList 0=some none|some (j,v)=>∃(e:MapEntry),Instr.findNow (.int .i64) (.int .i64 n) es.toList 0=some (some (j,e.val))/\BJ γ v e.val/\0<=j/\es.toList[j-0]?=some e/\e.key= .int .i64 n)->
   Uf z ok q=r->FG C γ0 w0 o a w (U.put o.dst (.val r)) h:=by
  intro es q S9 n ģ hq Vj;have jm:(Instr.checkKey es.isEmpty 10000 kt (.int .i64 n)).run C.P w= .ok () w:=MapKept.run_checkKey (k:= .int .i64 n) hk (by simp[MapKept.IsKey]) es.isEmpty 9999;have AI:∃v,(Instr.lookup t (a.eval m) (a.eval k) ok).run C.P w= .ok v w/\BJ γ r v:=by
   cases q with
   |none=>
    refine⟨if ok then .tuple #[f,.bool false] else f,?_,?_⟩;.rw[S9,ģ];unfold Lo;simp only[Sem.run_bind,Result.andThen_ok,jm,MapKept.run_findKey hk hq,d,Sem.run_bind,Sem.run_pure]
    .rw[<-Vj];have c:=Fi (γ:=γ) qh;cases ok with
     |true=>exact⟨_,rfl,_,_,rfl,c,_,_,rfl,rfl,rfl⟩
     |false=>exact c
   |some p=>
    obtain⟨j,v⟩:=p;obtain⟨en,u,s,_⟩:=hq;refine⟨if ok then .tuple #[en.val,.bool true] else en.val,?_,?_⟩;.rw[S9,ģ];unfold Lo;simp only[Sem.run_bind,Result.andThen_ok,jm,MapKept.run_findKey hk u,Sem.run_bind,Sem.run_pure]
    .rw[<-Vj];cases ok with
     |true=>exact⟨_,rfl,_,_,rfl,s,_,_,rfl,rfl,rfl⟩
     |false=>exact s
  obtain⟨v,AI,vQ⟩:=AI;exact FG.value (by simp only[execOp,ho];exact Dy AI) (hr.put λ_ _=>vQ)
 unfold j0 at hm;split at hm;.rename_i n;cases hm;exact Jd #[] none (by rw[show a.eval m=_ from h1];simp only[Instr.lookup,Lo,Sem.run_bind,run_underlying ht,Result.andThen_ok,Sem.run_pure];rfl) n h2 rfl rfl
 .rename_i id n;obtain⟨b,hb,jl⟩:=h1;split at hm
  .rename_i es S9;obtain⟨D0,clock,hw,x,_⟩:=hr.DV.map id es S9 b hb;cases hf:ID n es 0 with
   |none=>rw[hf] at hm;cases hm
   |some q=>
    rw[hf] at hm;simp only[BF,Bx,Hq] at hm;obtain⟨rfl,hm⟩:=hm;refine Jd D0 q (by rw[jl];simp only[Instr.lookup,Lo,Sem.run_bind,run_underlying ht,MapKept.run_getObj_map hw,Result.andThen_ok,Sem.run_pure];rfl) n h2 ?_ ?_
    .have:=QW (i:=0) x hf;cases q with
     |none=>exact this
     |some p=>exact this
    .exact hm
  .cases hm
 .cases hm
def Lw.aCn{k v:Aa}{e:MapEntry}(hk:BJ γ k e.key)(c:BJ γ v e.val):∀{es:List (Aa×Aa)} {l:List MapEntry},Lw γ es l->Lw γ (es++[(k,v)]) (l++[e])
 |[],l,b=>by rw[show l=[] from b];exact⟨e,[],rfl,hk,c,rfl⟩
 |(k',v')::es,l,b=>by obtain⟨d,l',rfl,h1,h2,h3⟩:=b;exact⟨d,_,rfl,h1,h2,Lw.aCn hk c h3⟩
def Lw.length:∀{es:List (Aa×Aa)} {l:List MapEntry},Lw γ es l->l.length=es.length
 |[],l,b=>by rw[show l=[] from b];rfl
 |(k',v')::es,l,b=>by obtain⟨c,l',rfl,h1,h2,h3⟩:=b;simp[Lw.length h3]
def Lw.modify{v:Aa}{u:Value}(b:BJ γ v u):∀{es:List (Aa×Aa)} {l:List MapEntry} {j:Nat} {k v0:Aa},Lw γ es l->es[j]?=some (k,v0)->Lw γ (es.set j (k,v)) (l.modify j λe=>{e with val:=u})
 |[],l,j,k,v0,c,hj=>by simp at hj
 |(k',v')::es,l,j,k,v0,c,hj=>by
  obtain⟨d,l',rfl,h1,h2,h3⟩:=c;cases j with
  |zero=>cases hj;exact⟨{d with val:=u},l',by simp,h1,b,h3⟩
  |succ j=>exact⟨d,l'.modify j _,by simp,h1,h2,Lw.modify b h3 (by simpa using hj)⟩
def kY{es:Array MapEntry}{j:Nat}{e:MapEntry}{k:Value}(hj:es[j]?=some e)(hk:e.key=k):(es.modify j λe=>{e with key:=k})=es:=by
 apply QN;intro i;rw[NF];split;.rename_i hi;subst hi;rw[hj];simp[<-hk]
 .rfl
def XD{o:Oper}{t kt e:TypeId}{m k:Operand}{kA z r:Aa}{kV:Value}{d:TypeDesc}{h':Ae}{id:Nat}{es:List (Aa×Aa)}{f:Option (Option (Nat×Aa))}(ho:o.op= .mapEntry t m k)(ht:C.P.underlying t=some (.map kt e))(hk:C.P.underlying kt=some d)(n:MapKept.IsKey d kV)(hz:GY C.P e=some z)
  (h1:BJ γ (.map (some id)) (a.eval m)) (g:a.eval k=kV) (u:BJ γ kA kV) (S9:h[id]?=some (.map es))
  (hq:∀(l:List MapEntry) q,Lw γ es l->f=some q->match q with
   |none=>Instr.findNow d kV l 0=some none
   |some (j,v)=>∃(e:MapEntry),Instr.findNow d kV l 0=some (some (j,e.val))/\BJ γ v e.val/\0<=j/\l[j-0]?=some e/\e.key=kV)
  (hm:(f.map λr=>match r with
   |some (i,v)=>(h,Aa.tuple [v,.int .i64 i])
   |none=>(h.set id (.map (es++[(kA,z)])),.tuple [z,.int .i64 es.length]))=some (h',r)) (hr:C4 C γ0 w0 γ Z U h a w):
  FG C γ0 w0 o a w (U.put o.dst (.val r)) h':=by
 obtain⟨c,qh,s⟩:=Ih hz;obtain⟨b,hb,jl⟩:=h1;obtain⟨D0,clock,hw,x,hB⟩:=hr.DV.map id es S9 b hb;have jm:(Instr.checkKey false 10000 kt kV).run C.P w= .ok () w:=MapKept.run_checkKey (k:=kV) hk n false 9999;cases f with
 |none=>cases hm
 |some q=>
  have hq:=hq D0.toList q x rfl;cases q with
  |none=>
   simp only[BF,Bx,Hq] at hm;obtain⟨rfl,rfl⟩:=hm;have AI:(Instr.mapEntry t (a.eval m) (a.eval k)).run C.P w= .ok (.tuple #[c,goInt clock]) {w with heap:=w.heap.setIfInBounds b (.map (D0.push {key:=kV,val:=c,born:=clock}) (clock+1))}:=by rw[jl,g];simp[Instr.mapEntry,run_underlying ht,MapKept.run_getObj_map hw,jm,MapKept.run_findKey hk hq,s,MapKept.run_setObj_map _ hw,Result.andThen]
   obtain⟨hi,Kk⟩:=N7 (VU:=es++[(kA,z)]) (ents':=D0.push {key:=kV,val:=c,born:=clock}) (clock':=clock+1) hr.DV S9 hb hw ⟨by have:=Lw.aCn (γ:=γ) (k:=kA) (v:=z) (e:={key:=kV,val:=c,born:=clock}) u (Fi qh) x;simpa using this,Ur hB⟩
   refine FG.value (by simp only[execOp,ho];exact Dy AI) ((hr.I8 hi Kk).put λ_ _=>⟨_,rfl,c,_,rfl,Fi qh,_,[],rfl,?_,rfl⟩);rw[hB.1];have:=x.length;simp only[Cd] at this;rw[<-this];rfl
  |some p=>
   obtain⟨j,v⟩:=p;simp only[BF,Bx,Hq] at hm;obtain⟨rfl,rfl⟩:=hm;obtain⟨en,D,B,_,A,y⟩:=hq;have hj:D0[j]?=some en:=by simpa using A
   have aG0:=hB.2 j en hj;have js:w.heap.setIfInBounds b (.map D0 clock)=w.heap:=by
    apply QN;intro i;rw[Array.getElem?_setIfInBounds];split;.rename_i hi;subst hi;have hlt:=(AM.1 hw).1;rw[if_pos hlt,hw]
    .rfl
   have AI:(Instr.mapEntry t (a.eval m) (a.eval k)).run C.P w= .ok (.tuple #[en.val,goInt j]) w:=by rw[jl,g];simp[Instr.mapEntry,run_underlying ht,MapKept.run_getObj_map hw,jm,MapKept.run_findKey hk D,hj,y,MapKept.run_keyThatStays (d:=d) (k:=kV) n,MapKept.run_setObj_map _ hw,Result.andThen,aG0,kY hj y,js]
   exact FG.value (by simp only[execOp,ho];exact Dy AI) (hr.put λ_ _=>⟨_,rfl,_,_,rfl,B,_,[],rfl,rfl,rfl⟩)
def p9{o:Oper}{t kt e:TypeId}{m k:Operand}{b c z r:Aa}{h':Ae}(ho:o.op= .mapEntry t m k)(ht:C.P.underlying t=some (.map kt e))(hk:C.P.underlying kt=some (.int .i64))(hz:GY C.P e=some z)(ha:Bm C U [m,k]=some [b,c])(hm:Wm h z b c=some (h',r))(hr:C4 C γ0 w0 γ Z U h a w):
  FG C γ0 w0 o a w (U.put o.dst (.val r)) h':=by
 obtain⟨_,_,f,h1,h2⟩:=E1 hr ha;cases f;unfold Wm at hm;split at hm
 .rename_i id n;split at hm;.rename_i es S9;exact XD (kA:= .int .i64 n) (kV:= .int .i64 n) ho ht hk (by simp[MapKept.IsKey]) hz h1 h2 rfl S9 (λl q d hf=>QW (i:=0) d hf) hm hr
  .cases hm
 .cases hm
def aR{s:Ad}:∀{es:List (Aa×Aa)} {l:List MapEntry} {i:Nat} {r:Option (Nat×Aa)},Lw γ es l->RU s es i=some r->
  match r with
  |none=>Instr.findNow .string (.string ⟨⟨s⟩⟩) l i=some none
  |some (j,v)=>∃(e:MapEntry),Instr.findNow .string (.string ⟨⟨s⟩⟩) l i=some (some (j,e.val))/\BJ γ v e.val/\i<=j/\l[j-i]?=some e/\e.key= .string ⟨⟨s⟩⟩
 |[],l,i,r,b,hf=>by rw[show l=[] from b];cases hf;rfl
 |(k,v)::es,l,i,r,b,hf=>by
  obtain⟨e,l',rfl,h1,h2,h3⟩:=b;cases k with
  |str t=>
   simp only[RU] at hf;have hk:e.key= .string ⟨⟨t⟩⟩:=h1;split at hf;.rename_i Jl;subst Jl;cases hf;exact⟨e,by simp[Instr.findNow,hk,Instr.sameNow,R6],h2,Ab _,by simp,hk⟩
   .rename_i Jl;have ih:=aR (i:=i+1) h3 hf;have hne:=XA Jl;cases r with
    |none=>simpa[Instr.findNow,hk,Instr.sameNow,hne] using ih
    |some p=>obtain⟨j,n⟩:=p;obtain⟨m,g,f,o,d,c⟩:=ih;refine⟨m,by simpa[Instr.findNow,hk,Instr.sameNow,hne] using g,f,by omega,?_,c⟩;rw[show j-i=(j-(i+1))+1 by omega,T0];exact d
  |_=>simp[RU] at hf
def qC{o:Oper}{t kt e:TypeId}{m k:Operand}{b c z r:Aa}{h':Ae}(ho:o.op= .mapEntry t m k)(ht:C.P.underlying t=some (.map kt e))(hk:C.P.underlying kt=some .string)(hz:GY C.P e=some z)(ha:Bm C U [m,k]=some [b,c])(hm:Wn h z b c=some (h',r))(hr:C4 C γ0 w0 γ Z U h a w):
  FG C γ0 w0 o a w (U.put o.dst (.val r)) h':=by
 obtain⟨_,_,f,h1,h2⟩:=E1 hr ha;cases f;unfold Wn at hm;split at hm
 .rename_i id n;split at hm;.rename_i es S9;exact XD (kA:= .str n) (kV:= .string ⟨⟨n⟩⟩) ho ht hk (by simp[MapKept.IsKey]) hz h1 h2 rfl S9 (λl q d hf=>aR (i:=0) d hf) hm hr
  .cases hm
 .cases hm
def kZ{o:Oper}{t kt e:TypeId}{m k x:Operand}{f g c r:Aa}{h':Ae}(ho:o.op= .insert t m k x\/o.op= .mapUpdate t m k x)(hd:o.dst=none)(ht:C.P.underlying t=some (.map kt e))(hk:C.P.underlying kt=some (.int .i64))(ha:Bm C U [m,k,x]=some [f,g,c])
  (hm:vB h f g c=some (h',r)) (hr:C4 C γ0 w0 γ Z U h a w):FG C γ0 w0 o a w U h':=by
 obtain⟨h1,h2,h3⟩:=R7 hr ha;have Nj:∀w',(Instr.mapUpdate t (a.eval m) (a.eval k) (a.eval x)).run C.P w= .ok () w'->(execOp a.eval o).run C.P w= .ok .skip w':=λw' AI=>by rcases ho with ho|ho<;>simp[execOp,ho,AI]
 unfold vB at hm;split at hm
 .rename_i id n;obtain⟨b,hb,jl⟩:=h1;have d:a.eval k= .int .i64 n:=h2;split at hm
  .rename_i es S9;obtain⟨D0,clock,hw,j,hB⟩:=hr.DV.map id es S9 b hb;have jm:(Instr.checkKey false 10000 kt (.int .i64 n)).run C.P w= .ok () w:=MapKept.run_checkKey (k:= .int .i64 n) hk (by simp[MapKept.IsKey]) false 9999;split at hm
   .rename_i hf;cases hm;have hq:=QW (i:=0) j hf;have AI:(Instr.mapUpdate t (a.eval m) (a.eval k) (a.eval x)).run C.P w= .ok () {w with heap:=w.heap.setIfInBounds b (.map (D0.push {key:= .int .i64 n,val:=a.eval x,born:=clock}) (clock+1))}:=by rw[jl,d];simp[Instr.mapUpdate,run_underlying ht,MapKept.run_getObj_map hw,jm,MapKept.run_findKey hk hq,MapKept.run_setObj_map _ hw,Result.andThen]
    obtain⟨hi,Kk⟩:=N7 (VU:=es++[(.int .i64 n,c)]) (ents':=D0.push {key:= .int .i64 n,val:=a.eval x,born:=clock}) (clock':=clock+1) hr.DV S9 hb hw ⟨by have:=Lw.aCn (γ:=γ) (k:= .int .i64 n) (v:=c) (e:={key:= .int .i64 n,val:=a.eval x,born:=clock}) rfl h3 j;simpa using this,Ur hB⟩
    exact FG.skip (Nj _ AI) (by rw[hd];exact hr.I8 hi Kk)
   .cases hm
  .cases hm
 .cases hm
def dN{es:Array MapEntry}(hB:∀(i:Nat) (e:MapEntry),es[i]?=some e->e.born=i){j:Nat}{e:MapEntry}(hj:es[j]?=some e):es.findIdx? (λe=>(e.born:Int)==(j:Int))=some j:=by
 rw[Array.findIdx?_eq_some_iff_getElem];obtain⟨hl,he⟩:=AM.1 hj;refine⟨hl,?_,λi hi=>?_⟩;.have:=hB j _ (CJ hl);simp[this]
 .have:=hB i _ (CJ (by omega));simp[this];omega
def qD{o:Oper}{t:TypeId}{m s x:Operand}{f vs c r:Aa}{h':Ae}(ho:o.op= .entryStore t m s x)(hd:o.dst=none)(ha:Bm C U [m,s,x]=some [f,vs,c])(hm:SQ h f vs c=some (h',r))(hr:C4 C γ0 w0 γ Z U h a w):FG C γ0 w0 o a w U h':=by
 obtain⟨h1,h2,h3⟩:=R7 hr ha;have Nj:∀w',(Instr.entryStore t (a.eval m) (a.eval s) (a.eval x)).run C.P w= .ok () w'->(execOp a.eval o).run C.P w= .ok .skip w':=λw' AI=>by simp[execOp,ho,AI]
 unfold SQ at hm;split at hm
 .rename_i id n;obtain⟨b,hb,jl⟩:=h1;have JH:a.eval s= .int .i64 n:=h2;split at hm
  .rename_i es S9;split at hm
   .rename_i hn;split at hm
    .rename_i i v0 hk;cases hm;obtain⟨D0,clock,hw,g,hB⟩:=hr.DV.map id es S9 b hb;have hlen:=g.length;have hlt:=(Af.1 hk).1;have d:∃en,D0[n.toNat]?=some en:=⟨D0[n.toNat]'(by simp at hlen;omega),CJ _⟩;obtain⟨en,hj⟩:=d;have tn:((n.toNat:Nat):Int)=n:=by omega
     have aG1:=dN hB.2 hj;rw[tn] at aG1;have AI:(Instr.entryStore t (a.eval m) (a.eval s) (a.eval x)).run C.P w= .ok () {w with heap:=w.heap.setIfInBounds b (.map (D0.modify n.toNat λe=>{e with val:=a.eval x}) clock)}:=by rw[jl,JH];simp[Instr.entryStore,MapKept.run_getObj_map hw,asInt,asIntOf,aG1,MapKept.run_setObj_map _ hw,Result.andThen]
     obtain⟨hi,Kk⟩:=N7 (VU:=es.set n.toNat (i,c)) (ents':=D0.modify n.toNat λe=>{e with val:=a.eval x}) (clock':=clock) hr.DV S9 hb hw ⟨by have:=Lw.modify h3 g hk;simpa using this,Vk hB λ_=>rfl⟩
     exact FG.skip (Nj _ AI) (by rw[hd];exact hr.I8 hi Kk)
    .cases hm
   .cases hm
  .cases hm
 .cases hm
end
end Go.Am
end
section
section
namespace Go.Am
open Go
section
variable{C:FT}{γ0 γ γ':Gh}{w0 w w':World}{O:Nat->Nat}{U U':BL}{h h':Ae}{a:Act}{fid:FuncId}{ops:List Oper}
def FG.wp{o:Oper}{K:Act->World->Prop}{Q:Exit->Act->World->Prop}(hs:FG C γ0 w0 o a w U' h')(b:∀γ' c a' w',C4 C γ0 w0 γ' c U' h' a' w'->K a' w'):o.wp C.P a w K Q:=by
 obtain⟨γ',c,w',⟨v,he,hr⟩|⟨he,hr⟩⟩:=hs;.exact Jo he (b _ _ _ _ hr)
 .exact pI he (b _ _ _ _ hr)
def Zy{P:Program}{op:BinOp}{t:TypeId}{p:Zf}(hp:QT P op t=some p):p.still=true:=by
 have KD:∀neg u,Uh P t neg u=some p->p.still=true:=by
  intro neg u h;unfold Uh at h;split at h;.cases h;rfl
  .split at h
   .cases hf:PU P 20 t with
    |none=>rw[hf] at h;cases h
    |some k=>rw[hf] at h;cases h;rfl
   .cases h
  .split at h<;>cases h;rfl
  .cases h;rfl
  .cases h;rfl
  .cases h;rfl
  .cases h
 unfold QT at hp;split at hp;.cases hp;rfl
 .cases hp;rfl
 .split at hp;.exact KD _ _ hp
  .exact KD _ _ hp
  .cases hp
 .cases hp
def N8{P:Program}{t:TypeId}{f off:Nat}{sh:Option Nat}(hf:IE P t f=some (off,sh))(b o:Nat):(Instr.fieldAt t (.pointer (some ⟨b,o,none⟩)) f).run P w= .ok (.pointer (some ⟨b,o+off,none⟩)) w:=by
 unfold IE at hf;split at hf
 .rename_i fs iy;split at hf
  .rename_i fd vN;split at hf;.rename_i n c h1 h2;cases hf;simp[Instr.fieldAt,run_underlying iy,vN,Instr.sureAddr,fieldPlace,DG h1,Addr.add_lit]
   .cases hf
  .cases hf
 .cases hf
def XE(hr:C4 C γ0 w0 γ O U h a w){s ver:Nat}{cs:List Aa}{ow:List Nat}(hs:D8 C U (.tmp s)=some (.box ver cs ow)):a.eval (.tmp s)= .pointer (some ⟨O s,0,none⟩):=by have h0:=S0 hr s;rw[Ha hs] at h0;exact h0.1
def Vm(hr:C4 C γ0 w0 γ O U h a w){x:Operand}{s k:Nat}(hs:D8 C U x=some (.E8 s k)):a.eval x= .pointer (some ⟨O s,k,none⟩):=by obtain⟨t,h1,_⟩:=Gd hr hs;exact h1
def aS{o:Oper}{t:TypeId}{v:Aa}{d:Nat}{r:EF}{run:IT->Ae->Option J7}(hb:Vd C fid t v d=some r)(FO:r.N3 C run (U.drop r.news) h U' h')
  (PT:∀n,C.kind fid d= .PT->v.cells.length=n->n≠0->FG C γ0 w0 o a w ((U.drop [d]).set d (.box 0 v.cells [])) h)
  (heap:v.cells.length≠0->FG C γ0 w0 o a w (U.put (some d) (.val (.ptr (some (h.length,0))))) (h++[.cells v.cells])):FG C γ0 w0 o a w U' h':=by
 unfold Vd at hb;split at hb;.cases hb
 .rename_i n hn;split at hb;.cases hb
  .rename_i b;split at hb;.cases hb;obtain⟨h1,rfl,rfl⟩:=FO;rename_i hk;exact PT n hk h1 b
   .cases hb;obtain⟨h1,rfl,rfl⟩:=FO;exact heap (by omega)
def QX{d s k:Nat}{run:IT->Ae->Option J7}(FO:(EF.pure [(d,.E8 s k)]).N3 C run (U.drop (EF.pure [(d,.E8 s k)]).news) h U' h'):U'=U.set d (.E8 s k)/\h'=h:=by obtain⟨rfl,rfl⟩:=FO;exact⟨rfl,rfl⟩
def vd{run:IT->Ae->Option J7}(G:E2 C run){o:Oper}{r:EF}{K:Act->World->Prop}{Q:Exit->Act->World->Prop}(hc:Ga C fid ops U o=some r)(FO:r.N3 C run (U.drop r.news) h U' h')(hr:C4 C γ0 w0 γ O U h a w)
  (j:∀γ' T a' w',C4 C γ0 w0 γ' T U' h' a' w'->K a' w'):o.wp C.P a w K Q:=by
 by_cases Jl:∃p args dst BN F,r= .op p args dst BN F/\p.still=true
 .obtain⟨p,args,dst,BN,F,rfl,Ħ⟩:=Jl
  obtain⟨L,rfl,rfl,rfl⟩:=jg hc Ħ hr
  obtain⟨v,q,rfl,rfl⟩:=FO
  obtain⟨u,R,N⟩:=L v q
  exact Jo R (j _ _ _ _ (hr.put λ_ _=>N))
 .have Zg:∀{p args dst},r= .op p args dst false none->p.still=false:=λ{p args dst} he=>by
   cases hp:p.still with
   |false=>rfl
   |true=>exact absurd ⟨p,args,dst,false,none,he,hp⟩ Jl
  have HN:∀{p dst x},Ui p dst x=some r->p.still=false:=λ{p dst x} he=>by
   obtain⟨args,_,e⟩:=DR he
   exact Zg e
  unfold Ga at hc
  split at hc
  .rename_i x ho
   split at hc
   .rename_i d hd
    obtain⟨γ',HM⟩:=S2 hc FO hr
    exact Jo (w':=w) (v:=a.eval x) (by simp[execOp,ho]) (j _ _ _ _ (by rw[hd];exact HM))
   .cases hc
  .rename_i x ho
   split at hc
   .rename_i d hd
    obtain⟨γ',HM⟩:=S2 hc FO hr
    exact Jo (w':=w) (v:=a.eval x) (by simp[execOp,ho]) (j _ _ _ _ (by rw[hd];exact HM))
   .cases hc
  .rename_i c x y ho
   split at hc
   .rename_i d hcs hd
    obtain⟨γ',HM⟩:=S2 hc FO hr
    obtain⟨s,h1,_⟩:=Gd hr hcs
    have h1:a.eval c= .bool true:=h1
    exact Jo (w':=w) (v:=a.eval x) (by simp[execOp,ho,h1,asBool]) (j _ _ _ _ (by rw[hd];exact HM))
   .rename_i d hcs hd
    obtain⟨γ',HM⟩:=S2 hc FO hr
    obtain⟨s,h1,_⟩:=Gd hr hcs
    have h1:a.eval c= .bool false:=h1
    exact Jo (w':=w) (v:=a.eval y) (by simp[execOp,ho,h1,asBool]) (j _ _ _ _ (by rw[hd];exact HM))
   .cases HN hc
  .rename_i t ho
   split at hc
   .rename_i d z hd hz
    split at hc
    .split at hc
     .rename_i H8
      cases hc
      obtain⟨rfl,rfl⟩:=FO
      exact(Xp ho hd hz H8.2 hr).wp j
     .cases hc
    .rename_i hk
     refine(aS (o:=o) (a:=a) (w:=w) (γ0:=γ0) (w0:=w0) hc FO (λn h0 h1 h2=>absurd h0 (by simpa using hk)) λh1=>Xq ho hd hz h1 hr).wp j
   .cases hc
  .rename_i t x ho
   split at hc
   .rename_i d v hd q
    exact(aS (o:=o) (a:=a) (w:=w) (γ0:=γ0) (w0:=w0) hc FO (λn _ h1 h2=>dG ho hd q h1 h2 hr) λh1=>dH ho hd q h1 hr).wp j
   .cases hc
  .split at hc
   .split at hc
    .cases HN hc
    .cases hc
   .cases hc
  .rename_i t len parts ho
   split at hc
   .rename_i e ht
    split at hc
    .rename_i n hn
     split at hc
     .rename_i H8
      split at hc
      .rename_i hlen
       cases hc
       obtain⟨v,q,rfl,rfl⟩:=FO
       cases q
       exact(ud ho ht hn H8.1 H8.2 hlen.1 hr).wp j
      cases ha:Bm C U (parts.toList.map (·.2)) with
      |none=>rw[ha] at hc;cases hc
      |some args=>
       rw[ha] at hc;cases hc
       obtain⟨v,q,rfl,rfl⟩:=FO
       exact(uc ho ht hn H8.1 H8.2 ha q hr).wp j
     .cases hc
    .cases hc
   .cases hc
  .rename_i t x ho
   split at hc
   .rename_i d hd
    by_cases hp:∃ws,r= .pure ws
    .exact(Zv ho hd hc hp FO hr).wp j
    .unfold L1 at hc
     split at hc
     .rename_i n p ht hx
      cases hc
      obtain⟨v,q,rfl,rfl⟩:=FO
      have hs:=ua ho ht hx q hr
      rw[hd] at hs
      exact hs.wp j
     .split at hc
      .simp only at hc
       split at hc<;>(cases hc;exact absurd ⟨_,rfl⟩ hp)
      .cases hc
     .split at hc
      .cases hc;exact absurd ⟨_,rfl⟩ hp
      .cases hc
     .cases hc
   .cases hc
  .rename_i t x y ho
   split at hc
   .rename_i hd
    have Ut:=hc
    unfold JA at hc
    split at hc
    .rename_i n p v KT hx q
     cases hc
     obtain⟨aLH,rfl⟩:=FO
     exact(jh ho hd KT hx q aLH hr).wp j
    .split at hc
     .cases hc
      exact(pV ho hd Ut FO hr).wp j
     .cases hc
    .cases hc
   .cases hc
  .rename_i x ho
   split at hc
   .rename_i s ver cs ow d hd hs
    cases hc
    obtain⟨rfl,rfl⟩:=QX FO
    have he:=XE hr hs
    exact Jo (w':=w) (v:= .pointer (some ⟨O s,0,none⟩)) (by simp[execOp,ho,he]) (j _ _ _ _ (by rw[hd];exact hr.put (d:=some d) λ_ _=>rfl))
   .rename_i s k d hd hs
    cases hc
    obtain⟨rfl,rfl⟩:=QX FO
    have he:=Vm hr hs
    exact Jo (w':=w) (v:= .pointer (some ⟨O s,k,none⟩)) (by simp[execOp,ho,he]) (j _ _ _ _ (by rw[hd];exact hr.put (d:=some d) λ_ _=>rfl))
   .cases HN hc
  .split at hc
   .rename_i p hp
    have Ħ:=HN hc
    rw[Zy hp] at Ħ
    cases Ħ
   .cases hc
  .cases HN hc
  .rename_i src aLq x ho
   split at hc
   .rename_i hq
    unfold Xb at hq
    cases q:ER C U x with
    |none=>rw[q] at hc;cases hc
    |some v=>
     rw[q] at hc;cases hc
     split at hq
     .cases hq
     .cases hq
     .cases hq
     .rename_i e hs hd
      split at hq
      .rename_i he
       obtain⟨v',u,h1,h2,rfl⟩:=FO
       exact(ğ ho hs hd he q h1 h2 hr).wp j
      .cases hq
     .split at hq<;>cases hq
     .cases hq
   .rename_i hq
    unfold Xb at hq
    split at hq
    .cases hq
    .cases hq
    .cases hq
    .split at hq<;>cases hq
    .rename_i e hs hd
     split at hq
     .rename_i he _ _
      split at hc
      .cases q:ER C U x with
       |none=>rw[q] at hc;cases hc
       |some v=>
        rw[q] at hc;cases hc
        obtain⟨u,h1,rfl⟩:=FO
        exact(dM ho hs hd he q h1 hr).wp j
      .obtain⟨args,ha,rfl⟩:=DR hc
       obtain⟨u,h1,rfl,rfl⟩:=FO
       obtain⟨v,rfl,_⟩:=GD hr ha
       exact(Ğ ho hs hd he ha h1 hr).wp j
     .cases hq
    .cases hq
   .rename_i p SJ jP hq
    have Ħ:=HN hc
    unfold Xb at hq
    split at hq
    .cases hq;cases Ħ
    .cases hq;cases Ħ
    .cases hq
    .split at hq
     .cases hq;exact absurd rfl SJ
     .cases hq
    .split at hq
     .cases hq;exact absurd rfl jP
     .cases hq
    .cases hq
   .cases hc
  .rename_i fn first captured ho
   split at hc
   .rename_i d as bs fz hd ha hb
    cases hc
    obtain⟨rfl,rfl⟩:=FO
    exact(kN ho hd ha hb hr).wp j
   .cases hc
  .rename_i t ho
   cases hc
   obtain⟨rfl,rfl⟩:=FO
   exact(uk ho hr).wp j
  .rename_i t l c ho
   split at hc
   .rename_i e ht
    split at hc
    .rename_i n b z V vc hn hb hz hl Wu
     cases hc
     obtain⟨v,h1,rfl⟩:=FO
     exact(uh ho ht hn hb hz hl Wu h1 hr).wp j
    .cases hc
   .cases hc
  .rename_i t m k x ho
   split at hc
   .rename_i kt e ht
    split at hc
    .rename_i D E I hd hk ha
     cases hc
     obtain⟨h1,rfl⟩:=FO
     exact(kS (.inl ho) hd ht hk ha h1 hr).wp j
    .rename_i D E I hd hk ha
     cases hc
     obtain⟨v,h1,rfl⟩:=FO
     exact(kZ (.inl ho) hd ht hk ha h1 hr).wp j
    .cases hc
   .cases hc
  .rename_i t m k x ho
   split at hc
   .rename_i kt e ht
    split at hc
    .rename_i D E I hd hk ha
     cases hc
     obtain⟨h1,rfl⟩:=FO
     exact(kS (.inr ho) hd ht hk ha h1 hr).wp j
    .rename_i D E I hd hk ha
     cases hc
     obtain⟨v,h1,rfl⟩:=FO
     exact(kZ (.inr ho) hd ht hk ha h1 hr).wp j
    .cases hc
   .cases hc
  .rename_i t m k ok ho
   split at hc
   .rename_i kt e ht
    split at hc
    .rename_i z D E hk hz ha
     cases hc
     obtain⟨v,h1,rfl,rfl⟩:=FO
     exact(um ho ht hk hz ha h1 hr).wp j
    .rename_i z D E hk hz ha
     cases hc
     obtain⟨v,h1,rfl⟩:=FO
     exact(va ho ht hk hz ha h1 hr).wp j
    .cases hc
   .cases hc
  .rename_i t x lo hi mx ho
   split at hc
   .rename_i e ht
    split at hc
    .rename_i n hn
     obtain⟨args,ha,rfl⟩:=HA hc
     obtain⟨v,h1,rfl⟩:=FO
     simp only[D5] at h1
     split at h1
     .rename_i J
      cases h1
      exact(uz ho ht hn ha J hr).wp j
     .cases h1
    .cases hc
   .cases hc
  .rename_i t x ho
   split at hc
   .cases hc
   .rename_i u hu ht
    obtain⟨args,ha,rfl⟩:=HA hc
    obtain⟨v,h1,rfl⟩:=FO
    obtain⟨y,rfl,_⟩:=GD hr ha
    cases h1
    exact(u_ ho ht (λi e=>hu i e) ha hr).wp j
   .cases hc
  .rename_i t m k ho
   split at hc
   .rename_i kt e ht
    split at hc
    .rename_i z hk hz
     obtain⟨args,ha,rfl⟩:=HA hc
     obtain⟨v,h1,rfl⟩:=FO
     obtain⟨A,B,rfl,_,_⟩:=E1 hr ha
     exact(p9 ho ht hk hz ha h1 hr).wp j
    .rename_i z hk hz
     obtain⟨args,ha,rfl⟩:=HA hc
     obtain⟨v,h1,rfl⟩:=FO
     obtain⟨A,B,rfl,_,_⟩:=E1 hr ha
     exact(qC ho ht hk hz ha h1 hr).wp j
    .cases hc
   .cases hc
  .rename_i t m s x ho
   split at hc
   .rename_i hd
    obtain⟨args,ha,rfl⟩:=HA hc
    obtain⟨v,h1,rfl⟩:=FO
    obtain⟨A,B,H,rfl⟩:∃A B H,args=[A,B,H]:=by
     have:=DQ hr ha
     cases args with
     |nil=>cases h1
     |cons A l1=>cases l1 with
      |nil=>cases h1
      |cons B S=>cases S with
       |nil=>cases h1
       |cons H l3=>cases l3 with
        |nil=>exact⟨_,_,_,rfl⟩
        |cons _ _=>cases h1
    exact(qD ho hd ha h1 hr).wp j
   .cases hc
  .rename_i t x lo hi ho
   split at hc
   .cases HN hc
   .rename_i e ht
    split at hc
    .rename_i n hn
     split at hc
     .obtain⟨args,ha,rfl⟩:=HA hc
      obtain⟨v,h1,rfl⟩:=FO
      cases args with
      |nil=>cases h1
      |cons y l=>exact(ux ho ht hn ha h1 hr).wp j
     .cases HN hc
    .cases hc
   .cases hc
  .rename_i t x f ho
   split at hc
   .rename_i off sh d hf hd
    split at hc
    .rename_i s ver cs ow hs
     cases hc
     obtain⟨rfl,rfl⟩:=QX FO
     have he:=XE hr hs
     exact Jo (w':=w) (v:= .pointer (some ⟨O s,off,none⟩)) (by simp only[execOp,ho,he];exact EP (by rw[N8 hf];simp)) (j _ _ _ _ (by rw[hd];exact hr.put (d:=some d) λ_ _=>rfl))
    .rename_i s k hs
     cases hc
     obtain⟨rfl,rfl⟩:=QX FO
     have he:=Vm hr hs
     exact Jo (w':=w) (v:= .pointer (some ⟨O s,k+off,none⟩)) (by simp only[execOp,ho,he];exact EP (N8 hf _ _)) (j _ _ _ _ (by rw[hd];exact hr.put (d:=some d) λ_ _=>rfl))
    .cases HN hc
   .cases hc
  .split at hc
   .cases HN hc
   .cases hc
  .split at hc
   .split at hc
    .cases HN hc
    .cases hc
   .split at hc
    .split at hc
     .cases hc
     .cases HN hc
    .cases hc
   .cases hc
  .split at hc
   .cases HN hc
   .split at hc
    .cases HN hc
    .cases hc
   .cases hc
  .cases HN hc
  .rename_i c ho
   unfold RV at hc
   split at hc
   .split at hc
    .split at hc
     .cases HN hc
     .cases HN hc
     .cases hc
    .cases hc
   .rename_i hcl
    split at hc
    .rename_i t t' s x h0 h1 EJ
     split at hc
     all_goals first
      |(cases hc;done)
      | (rename_i e _ ht I3
         split at hc
         . rename_i n b hn hb
           split at hc
           . rename_i jQ
             split at hc
             . rename_i v u ha
               split at hc
               . rename_i Fv
                 split at hc
                 . cases hc
                   obtain ⟨r', h3, rfl⟩ := FO
                   exact (jn ho hcl h0 h1 EJ ht (by first | exact .inl ⟨_, I3⟩ | exact .inr I3) hn hb Fv jQ ha h3 hr).wp j
                 . split at hc
                   . cases hc
                     obtain ⟨r', h3, rfl, rfl⟩ := FO
                     exact (kQ ho hcl h0 h1 EJ ht (by first | exact .inl ⟨_, I3⟩ | exact .inr I3) hn hb Fv jQ ha h3 hr).wp j
                   . cases hc
                     obtain ⟨r', h3, rfl, rfl⟩ := FO
                     exact (pY ho hcl h0 h1 EJ ht (by first | exact .inl ⟨_, I3⟩ | exact .inr I3) hn hb Fv jQ ha h3 hr).wp j
               . split at hc
                 . cases hc
                   obtain ⟨r', h3, rfl⟩ := FO
                   exact (ur ho hcl h0 h1 EJ ht (by first | exact .inl ⟨_, I3⟩ | exact .inr I3) hn hb jQ ha h3 hr).wp j
                 . cases hc
             . cases hc
           . cases hc
         . cases hc)
    .cases hc
   .rename_i hcl
    split at hc
    .rename_i t t' s x h0 h1 EJ
     split at hc
     all_goals first
      |(cases hc;done)
      | (rename_i e _ ht I3
         split at hc
         . rename_i n hn
           obtain ⟨args, ha, rfl⟩ := HA hc
           obtain ⟨v, h3, rfl⟩ := FO
           obtain ⟨A, B, rfl, _, _⟩ := E1 hr ha
           exact (uw ho hcl h0 h1 EJ ht (by first | exact .inl ⟨_, I3⟩ | exact .inr I3) hn ha h3 hr).wp j
         . cases hc)
    .cases hc
   .rename_i hcl
    split at hc
    .rename_i t s h0 EJ
     split at hc
     .rename_i e ht
      split at hc
      .rename_i n z hn hz
       obtain⟨args,ha,rfl⟩:=HA hc
       obtain⟨v,h3,rfl⟩:=FO
       obtain⟨A,rfl,_⟩:=GD hr ha
       exact(jr ho hcl h0 EJ ht hn hz ha h3 hr).wp j
      .cases hc
     .cases hc
    .cases hc
   .split at hc
    .cases HN hc
    .cases hc
   .split at hc
    .cases HN hc
    .cases hc
   .rename_i f hcl
    split at hc
    .rename_i hf
     split at hc
     .rename_i s i x EJ
      split at hc
      .rename_i Fv
       obtain⟨args,ha,rfl⟩:=HA hc
       obtain⟨v,h3,rfl⟩:=FO
       exact Ġ G ho hcl hf EJ Fv ha h3 hr λγ' v w' HM=>j _ _ _ _ HM
      .cases hc
     .cases hc
    split at hc
    rotate_left
    .cases hc
    rename_i Vj
    rw[<-Vj] at hcl
    cases ha:Bm C U c.args.toList with
    |none=>rw[ha] at hc;cases hc
    |some args=>
     rw[ha] at hc
     simp only[BF,Bx] at hc
     split at hc
     .cases hc
      obtain⟨IZ,M,h1,h2,h3,rfl,rfl⟩:=FO
      exact jj G ho hcl ha IZ h2 h3 hr λγ' v w' HM=>j _ _ _ _ HM
     .cases hc
      obtain⟨M,h1,rfl⟩:=FO
      exact uj G ho hcl ha h1 hr λγ' v w' HM=>j _ _ _ _ HM
   .rename_i g hn hcl
    split at hc
    .rename_i W args hg ha
     cases hc
     obtain⟨f,args',M,h0,h1,rfl⟩:=FO
     exact jk G ho hcl hg ha h0 h1 hr λγ' v w' HM=>j _ _ _ _ HM
    .cases hc
   .cases hc
  .cases hc
end
end Go.Am
end
section
namespace Go.Am
open Go
section
variable{C:FT}{U Z:BL}{fid:FuncId}{ops:List Oper}
def dO{x:Operand}(h:∀t,x= .tmp t->Z.at t=U.at t):D8 C Z x=D8 C U x:=by
 cases x with
 |tmp t=>simp only[D8,h t rfl]
 |const v=>
  cases v with
  |slice a b c=>cases a<;>cases b<;>cases c<;>rfl
  |_=>rfl
 |global g=>rfl
 |func f=>rfl
def Wv(C:FT)(U Z:BL)(xs:List Operand):Prop:=∀x∈xs,D8 C Z x=D8 C U x
def Wv.vV{xs:List Operand}(h:∀t∈KS xs,Z.at t=U.at t):Wv C U Z xs:=λx hx=>dO λt ht=>h t (by subst ht;exact Cf.2 ⟨_,hx,rfl⟩)
def Wv.val{xs:List Operand}(h:Wv C U Z xs){x:Operand}(hx:x∈xs):ER C Z x=ER C U x:=by unfold ER;rw[h x hx]
def Wv.KV{xs:List Operand}(h:Wv C U Z xs):∀{ys:List Operand},(∀y∈ys,y∈xs)->Bm C Z ys=Bm C U ys
 |[],_=>rfl
 |y::ys,hy=>by unfold Bm;rw[h.val (hy y (by simp)),h.KV λz hz=>hy z (by simp[hz])]
def Wv.move{xs:List Operand}(h:Wv C U Z xs){x:Operand}(hx:x∈xs)(d:Nat)(take:Bool):KR C Z x d take=KR C U x d take:=by unfold KR;rw[h x hx]
def Wv.BN{xs:List Operand}(h:Wv C U Z xs){x:Operand}(hx:x∈xs):Lu C Z x=Lu C U x:=by unfold Lu;rw[h x hx]
def Wv.DE{xs:List Operand}(h:Wv C U Z xs){x:Operand}(hx:x∈xs):De Z x=De U x:=by
 cases x with
 |tmp t=>have:=h _ hx;simp only[D8,Bx] at this;simp only[De,this]
 |_=>rfl
def Wv.Hw{xs:List Operand}(h:Wv C U Z xs):∀{ys:List Operand},(∀y∈ys,y∈xs)->Am.Hw C Z ys=Am.Hw C U ys
 |[],_=>rfl
 |y::ys,hy=>by unfold Am.Hw;rw[h y (hy y (by simp)),h.Hw λz hz=>hy z (by simp[hz])]
def Wv.addr{xs:List Operand}(h:Wv C U Z xs){x:Operand}(hx:x∈xs)(hb:∀s∈(OD C U x).toList,Z.at s=U.at s)(hn:F9 C U x≠none):F9 C Z x=F9 C U x:=by
 have RA:=h x hx;cases hs:D8 C U x with
 |none=>unfold F9 at hn;rw[hs] at hn;exact absurd (by split<;>simp_all) hn
 |some sl=>
  rw[hs] at RA;cases sl with
  |E8 s o=>
   have h1:∀J:BL,D8 C J x=some (.E8 s o)->F9 C J x=match J.at s with| .box ver cs ow=>some (.PT s o ver cs ow)|_=>none:=λJ b=>by unfold F9;rw[b];cases x<;>rfl
   rw[h1 U hs] at hn⊢;rw[h1 Z RA];have h2:s∈(OD C U x).toList:=by
    unfold OD;rw[h1 U hs];cases RY:U.at s with
    |box ver cs ow=>simp
    |_=>rw[RY] at hn;exact absurd rfl hn
   rw[hb s h2]
  |_=>unfold F9;rw[hs,RA];cases x<;>rfl
def Wv.load{xs:List Operand}(h:Wv C U Z xs){x:Operand}(hx:x∈xs)(hb:∀s∈(OD C U x).toList,Z.at s=U.at s){t:TypeId}{d:Nat}{take:Bool}{r:EF}(hc:L1 C U t x d take=some r):L1 C Z t x d take=some r:=by
 have hn:F9 C U x≠none:=λhe=>by unfold L1 at hc;rw[he] at hc;split at hc<;>simp_all
 unfold L1 at hc⊢;rw[h.addr hx hb hn];exact hc
def Wv.store{xs:List Operand}(h:Wv C U Z xs){x y:Operand}(hx:x∈xs)(hy:y∈xs)(hb:∀s∈(OD C U x).toList,Z.at s=U.at s){t:TypeId}{r:EF}(hc:JA C U t x y=some r):JA C Z t x y=some r:=by
 have hn:F9 C U x≠none:=λhe=>by unfold JA at hc;rw[he] at hc;split at hc<;>simp_all
 unfold JA at hc⊢;rw[h.addr hx hb hn,h.val hy,h.BN hy,h.DE hy];exact hc
def Wv.call{c:Call}(h:Wv C U Z c.operands.toList)(dst:Option Nat):RV C fid Z c dst=RV C fid U c dst:=by
 have ha:∀y∈c.args.toList,y∈c.operands.toList:=λy hy=>by unfold Call.operands;rw[GU];exact BH _ hy
 have b:Bm C Z c.args.toList=Bm C U c.args.toList:=h.KV ha;unfold RV;split;.rw[b]
 .split
  .rename_i EJ;have h1:∀{s x:Operand},c.args.toList=[s,x]->Lu C Z s=Lu C U s/\De Z s=De U s/\Bm C Z [s,x]=Bm C U [s,x]:=λ{s x} he=>by rw[he] at ha;exact⟨h.BN (ha s (by simp)),h.DE (ha s (by simp)),h.KV λy hy=>ha y hy⟩
   obtain⟨f,e,d⟩:=h1 EJ;rw[f,e,d]
  .rfl
 .split;.rename_i EJ;rw[EJ] at ha;rw[h.KV λy hy=>ha y hy]
  .rfl
 .split;.rename_i EJ;rw[EJ] at ha;rw[h.KV λy hy=>ha y hy]
  .rfl
 .rw[b]
 .rw[b]
 .split
  .split;.rename_i s i v EJ;rw[EJ] at ha;rw[h.BN (ha v (by simp)),h.KV λy hy=>ha y hy]
   .rfl
  .rw[b]
 .rename_i g _ hcl;have hg:g∈c.operands.toList:=by unfold Call.operands;rw[hcl];simp
  rw[b,h.val hg]
 .rfl
def XF{o:Oper}{r:EF}(hc:Ga C fid ops U o=some r)(ht:∀t∈KS o.op.operands.toList,Z.at t=U.at t)(hb:∀s∈Ig C U o,Z.at s=U.at s):Ga C fid ops Z o=some r:=by
 have h:Wv C U Z o.op.operands.toList:= .vV ht
 unfold Ga at hc⊢
 cases ho:o.op with
 |move x=>
  rw[ho] at h
  simp only[ho] at hc⊢
  have:=λd=>h.move (x:=x) (by simp[Op.operands]) d
  simpa only[this] using hc
 |assign x=>
  rw[ho] at h
  simp only[ho] at hc⊢
  have:=λd=>h.move (x:=x) (by simp[Op.operands]) d
  simpa only[this] using hc
 |pick c a b=>
  rw[ho] at h
  simp only[ho] at hc⊢
  have h1:=λd=>h.move (x:=a) (by simp[Op.operands]) d
  have h2:=λd=>h.move (x:=b) (by simp[Op.operands]) d
  rw[h c (by simp[Op.operands]),h.KV (ys:=[c,a,b]) (by simp[Op.operands])]
  simpa only[h1,h2] using hc
 |alloc t=>rw[ho] at hc;exact hc
 |box t x=>
  rw[ho] at h
  simp only[ho] at hc⊢
  rw[h.val (x:=x) (by simp[Op.operands])]
  exact hc
 |build t parts=>
  rw[ho] at h
  simp only[ho] at hc⊢
  rw[h.KV (ys:=parts.toList.map (·.2)) (by simp[Op.operands])]
  exact hc
 |buildSlice t len parts=>
  rw[ho] at h
  simp only[ho] at hc⊢
  rw[h.KV (ys:=parts.toList.map (·.2)) (by simp[Op.operands])]
  exact hc
 |load t x=>
  rw[ho] at h
  simp only[ho] at hc⊢
  split at hc
  .exact h.load (by simp[Op.operands]) (λs hs=>hb s (by simpa only[Ig,ho] using hs)) hc
  .cases hc
 |store t x y=>
  rw[ho] at h
  simp only[ho] at hc⊢
  split at hc
  .exact h.store (by simp[Op.operands]) (by simp[Op.operands]) (λs hs=>hb s (by simpa only[Ig,ho] using hs)) hc
  .cases hc
 |nilCheck x=>
  rw[ho] at h
  simp only[ho] at hc⊢
  have e:=h.KV (ys:=[x]) (by simp[Op.operands])
  rw[h x (by simp[Op.operands])]
  cases hs:D8 C U x with
  |none=>rw[hs] at hc;cases x<;>cases hd:o.dst<;>rw[hd] at hc<;>first|exact hc|(show Ui _ _ (Bm C Z [_])=some r;rw[e];exact hc)
  |some sl=>rw[hs] at hc;cases sl<;>cases x<;>cases hd:o.dst<;>rw[hd] at hc<;>first|exact hc|(show Ui _ _ (Bm C Z [_])=some r;rw[e];exact hc)
 |binOp op t x y k=>
  rw[ho] at h
  simp only[ho] at hc⊢
  rw[h.KV (ys:=[x,y]) (by simp[Op.operands])]
  exact hc
 |unOp op t x=>
  rw[ho] at h
  simp only[ho] at hc⊢
  rw[h.KV (ys:=[x]) (by simp[Op.operands])]
  exact hc
 |convert src dst x=>
  rw[ho] at h
  simp only[ho] at hc⊢
  rw[h.KV (ys:=[x]) (by simp[Op.operands]),h.val (x:=x) (by simp[Op.operands])]
  exact hc
 |makeFunc fn first captured=>
  rw[ho] at h
  simp only[ho] at hc⊢
  rw[h.KV (ys:=first.toList) (λ_ hm=>by simp[Op.operands,hm]),h.Hw (ys:=captured.toList) (λ_ hm=>by simp[Op.operands,hm])]
  exact hc
 |makeMap t r'=>
  rw[ho] at hc
  cases r' with
  |none=>exact hc
  |some _=>cases hc
 |makeSlice t l c=>
  rw[ho] at h
  simp only[ho] at hc⊢
  rw[h.val (x:=l) (by simp[Op.operands]),h.val (x:=c) (by simp[Op.operands])]
  exact hc
 |insert t m k v=>
  rw[ho] at h
  simp only[ho] at hc⊢
  rw[h.KV (ys:=[m,k,v]) (by simp[Op.operands])]
  exact hc
 |mapUpdate t m k v=>
  rw[ho] at h
  simp only[ho] at hc⊢
  rw[h.KV (ys:=[m,k,v]) (by simp[Op.operands])]
  exact hc
 |lookup t m k ok=>
  rw[ho] at h
  simp only[ho] at hc⊢
  rw[h.KV (ys:=[m,k]) (by simp[Op.operands])]
  exact hc
 |slice t x lo hi mx=>
  rw[ho] at h hc
  cases mx with
  |none=>
   have e:=h.KV (ys:=x::(lo.toList++hi.toList)) (by cases lo<;>cases hi<;>simp[Op.operands])
   simp only at hc⊢
   rw[e]
   exact hc
  |some mx=>cases lo with
   |none=>cases hc
   |some lo=>cases hi with
    |none=>cases hc
    |some hi=>
     have e:=h.KV (ys:=[x,lo,hi,mx]) (by simp[Op.operands])
     simp only at hc⊢
     rw[e]
     exact hc
 |makeInterface t x=>
  rw[ho] at h
  simp only[ho] at hc⊢
  rw[h.KV (ys:=[x]) (by simp[Op.operands])]
  exact hc
 |mapEntry t m k=>
  rw[ho] at h
  simp only[ho] at hc⊢
  rw[h.KV (ys:=[m,k]) (by simp[Op.operands])]
  exact hc
 |entryStore t m s v=>
  rw[ho] at h
  simp only[ho] at hc⊢
  rw[h.KV (ys:=[m,s,v]) (by simp[Op.operands])]
  exact hc
 |fieldAddr t x f=>
  rw[ho] at h
  simp only[ho] at hc⊢
  have e:=h.KV (ys:=[x]) (by simp[Op.operands])
  rw[h x (by simp[Op.operands])]
  cases hf:IE C.P t f with
  |none=>rw[hf] at hc;cases hc
  |some q=>
   rw[hf] at hc
   cases hd:o.dst with
   |none=>rw[hd] at hc;cases hc
   |some d=>
    rw[hd] at hc
    cases hs:D8 C U x with
    |none=>rw[hs] at hc;cases x<;>first|exact hc|(show Ui _ _ (Bm C Z [_])=some r;rw[e];exact hc)
    |some sl=>rw[hs] at hc;cases sl<;>cases x<;>first|exact hc|(show Ui _ _ (Bm C Z [_])=some r;rw[e];exact hc)
 |field t x f=>
  rw[ho] at h
  simp only[ho] at hc⊢
  rw[h.KV (ys:=[x]) (by simp[Op.operands])]
  exact hc
 |indexAddr t x i=>
  rw[ho] at h
  simp only[ho] at hc⊢
  rw[h.KV (ys:=[x,i]) (by simp[Op.operands])]
  exact hc
 |index t x i=>
  rw[ho] at h
  simp only[ho] at hc⊢
  rw[h.KV (ys:=[x,i]) (by simp[Op.operands])]
  exact hc
 |extract x i=>
  rw[ho] at h
  simp only[ho] at hc⊢
  rw[h.KV (ys:=[x]) (by simp[Op.operands])]
  exact hc
 |call c=>
  rw[ho] at h
  simp only[ho] at hc⊢
  rw[h.call]
  exact hc
 |_=>simp only[ho] at hc;cases hc
end
end Go.Am
end
section
namespace Go.Am
open Go
mutual
def Aa.beq_eq:∀{a b:Aa},Aa.beq a b=true->a=b
 | .bool a,b,h=>by cases b<;>simp[Aa.beq] at h⊢;exact h
 | .int k a,b,h=>by cases b<;>simp[Aa.beq] at h⊢;exact h
 | .str a,b,h=>by cases b<;>simp[Aa.beq] at h⊢;exact h
 | .ptr a,b,h=>by cases b<;>simp[Aa.beq] at h⊢;exact h
 | .GB a,b,h=>by cases b<;>simp[Aa.beq] at h⊢;exact h
 | .B4 a,b,h=>by cases b<;>simp[Aa.beq] at h⊢;exact Aa.OQ h
 | .sl n a,b,h=>by cases b<;>simp[Aa.beq] at h⊢;exact⟨h.1,Aa.lA h.2⟩
 | .slnil,b,h=>by cases b<;>simp[Aa.beq] at h⊢
 | .C7 a c d e,b,h=>by cases b<;>simp[Aa.beq] at h⊢;exact⟨h.1.1.1,h.1.1.2,h.1.2,h.2⟩
 | .map a,b,h=>by cases b<;>simp[Aa.beq] at h⊢;exact h
 | .func f a c,b,h=>by cases b<;>simp[Aa.beq] at h⊢;exact⟨h.1.1,Aa.OQ h.1.2,Aa.OQ h.2⟩
 | .nilFunc,b,h=>by cases b<;>simp[Aa.beq] at h⊢
 | .iface t a,b,h=>by cases b<;>simp[Aa.beq] at h⊢;exact⟨h.1,Aa.beq_eq h.2⟩
 | .nilIface,b,h=>by cases b<;>simp[Aa.beq] at h⊢
 | .agg a,b,h=>by cases b<;>simp[Aa.beq] at h⊢;exact Aa.OQ h
 | .tuple a,b,h=>by cases b<;>simp[Aa.beq] at h⊢;exact Aa.OQ h
def Aa.OQ:∀{a b:List Aa},Aa.SL a b=true->a=b
 |[],b,h=>by cases b<;>simp[Aa.SL] at h⊢
 |a::x,b,h=>by
  cases b with
  |nil=>simp[Aa.SL] at h
  |cons c y=>simp[Aa.SL] at h⊢;exact⟨Aa.beq_eq h.1,Aa.OQ h.2⟩
def Aa.lA:∀{a b:List (List Aa)},Aa.SM a b=true->a=b
 |[],b,h=>by cases b<;>simp[Aa.SM] at h⊢
 |a::x,b,h=>by
  cases b with
  |nil=>simp[Aa.SM] at h
  |cons c y=>simp[Aa.SM] at h⊢;exact⟨Aa.OQ h.1,Aa.lA h.2⟩
end
def BL.JX(U:BL):∀(a b:List (Nat×Eu)),U.EG (a++b)=(U.EG a).EG b
 |[],_=>rfl
 |(s,x)::a,b=>BL.JX (U.set s x) a b
def BL.JY:∀(ws:List (Nat×Eu)) (U:BL),(U.EG ws).length=U.length
 |[],_=>rfl
 |(s,x)::ws,U=>by rw[BL.EG,BL.JY ws];simp
def BL.XG(U:BL)(s t:Nat)(x:Eu):BL.at (U.set s x) t=if s=t/\t<U.length then x else U.at t:=by
 by_cases h:s=t
 .subst h;by_cases hl:s<U.length;.simp[BL.at,List.getD,hl]
  .simp[BL.at,List.getD,hl]
 .simp[BL.at,List.getD,Al h,h]
def BL.GF:∀(ws:List (Nat×Eu)) (U:BL) (t:Nat),(∀p∈ws,p.1≠t)->(U.EG ws).at t=U.at t
 |[],_,_,_=>rfl
 |(s,x)::ws,U,t,h=>by rw[BL.EG,BL.GF ws _ t λp hp=>h p (by simp[hp]),BL.XG,if_neg];exact λe=>h (s,x) (by simp) e.1
def BL.XH:∀(ws:List (Nat×Eu)) (U:BL) (t:Nat),(U.EG ws).at t=U.at t\/∃p∈ws,p.1=t/\(U.EG ws).at t=p.2
 |[],_,_=> .inl rfl
 |(s,x)::ws,U,t=>by
  rcases BL.XH ws (U.set s x) t with h|⟨p,hp,h1,h2⟩
  .rw[BL.XG] at h;by_cases hc:s=t/\t<U.length;.rw[if_pos hc] at h;exact .inr ⟨(s,x),by simp,hc.1,h⟩
   .rw[if_neg hc] at h;exact .inl h
  .exact .inr ⟨p,by simp[hp],h1,h2⟩
def BL.Jq:∀(ws:List (Nat×Eu)) (U Z:BL) (t:Nat),Z.length=U.length->Z.at t=U.at t->(Z.EG ws).at t=(U.EG ws).at t
 |[],_,_,_,_,h=>h
 |(s,x)::ws,U,Z,t,hl,h=>by refine BL.Jq ws _ _ t (by simpa using hl) ?_;rw[BL.XG,BL.XG,hl,h]
def BL.ext{U Z:BL}(hl:Z.length=U.length)(h:∀t,Z.at t=U.at t):Z=U:=by apply List.ext_getElem hl;intro i h1 h2;have:=h i;simpa[BL.at,List.getD,h1,h2] using this
def BL.jt{U:BL}{a b:List (Nat×Eu)}(h:∀p∈a,∀q∈b,p.1≠q.1):(U.EG a).EG b=(U.EG b).EG a:=by
 refine BL.ext (by simp[BL.JY]) λt=>?_;by_cases ha:∀p∈a,p.1≠t;.rw[BL.GF a (U.EG b) t ha];exact BL.Jq b _ _ t (by simp[BL.JY]) (BL.GF a U t ha)
 .have⟨p,hp,c⟩:∃p∈a,p.1=t:=Classical.byContradiction λhn=>ha λp hp e=>hn ⟨p,hp,e⟩;have hb:∀q∈b,q.1≠t:=λq hq e=>h p hp q hq (by rw[c,e]);rw[BL.GF b (U.EG a) t hb];exact(BL.Jq a _ _ t (by simp[BL.JY]) (BL.GF b U t hb)).symm
def OR{U:BL}{ds:List Nat}:NI U ds=true↔∀x t o,U.at x= .E8 t o->t∉ds:=by
 unfold NI;rw[Dc];constructor
 .intro h x t o hx;by_cases hl:x<U.length;.have:=h (U.at x) (by simp[BL.at,List.getD,hl]);rw[hx] at this;simpa using this
  .simp[BL.at,List.getD,hl] at hx
 .intro h s hs;obtain⟨i,hi⟩:=CG hs;cases s with
  |E8 t o=>have:=h i t o (by simp[BL.at,List.getD,hi]);simpa using this
  |_=>rfl
def ju{a b:List Nat}:Ve a b=true↔∃x,x∈a/\x∈b:=by simp[Ve]
structure St where
 idx:Nat
 fp:FP
 fl:Option KJ
def Lp(i:Nat)(r:EF)(U:BL):Option KJ:=
 match r with
 | .load n p (some d)=>match U.at d with
  | .val v=>some {idx:=i,n,p,v}
  |_=>none
 |_=>none
def XI(i:Nat)(r:EF)(U:BL)(fl:List KJ):No i r U fl=(Lp i r U).toList++fl:=by
 cases r with
 |load n p dst=>
  cases dst with
  |none=>rfl
  |some d=>simp only[No,Lp];cases U.at d<;>rfl
 |_=>rfl
def Zz{i:Nat}{r:EF}{U Z:BL}(h:∀d∈r.wf,Z.at d=U.at d):Lp i r Z=Lp i r U:=by
 cases r with
 |load n p dst=>
  cases dst with
  |none=>rfl
  |some d=>simp only[Lp];rw[h d (by simp[EF.wf])]
 |_=>rfl
def Nr(d:Option Nat)(U U':BL):Prop:=
 match d with
 |none=>U'=U
 |some d=>match U.at d with
  | .val v=>∃b,v= .bool b/\U'=U.set d (.PH b)
  |_=>U'=U
section
variable{C:FT}{fid:FuncId}{ops:List Oper}{run:IT->Ae->Option J7}{U Z U':BL}{h h':Ae}
def P6(C:FT)(fid:FuncId)(ops:List Oper)(run:IT->Ae->Option J7)(s:St)(U:BL)(h:Ae)(U':BL)(h':Ae):Prop:=
 ∃o,ops[s.idx]?=some o/\
  ((I2 ops U o = .N0 false /\ s.fp = VT C ops U o none /\ s.fl = none /\ U' = U.put o.dst .skip /\ h' = h) \/
   ∃ r U1, I2 ops U o = .N0 true /\ Ga C fid ops U o = some r /\ s.fp = VT C ops U o (some r) /\ r.N3 C run (U.drop r.news) h U1 h' /\ s.fl = Lp s.idx r U1 /\
     Nr (if SX ops s.idx then o.dst else none) U1 U')
def XJ(U:BL)(d:Option Nat)(x:Eu):U.put d x=U.EG (d.toList.map λs=>(s,x)):=by cases d<;>rfl
def jv(U:BL)(d:Option (Nat×Aa)):U.DE d=U.EG (d.toList.map λp=>(p.1,.val p.2)):=by cases d<;>rfl
def aT{r:EF}(hd:r.N3 C run U h U' h'):∃ws,U'=U.EG ws/\(∀p∈ws,p.1∈r.wf)/\(∀p∈ws,∀t o,p.2= .E8 t o->t∈r.vE)/\∀Z,r.N3 C run Z h (Z.EG ws) h':=by
 have one:∀(d:Option Nat) (x:Eu),(∀t o,x≠ .E8 t o)->U'=U.put d x->d.toList⊆r.wf->(∀Z,r.N3 C run Z h (Z.put d x) h')->
   ∃ws,U'=U.EG ws/\(∀p∈ws,p.1∈r.wf)/\(∀p∈ws,∀t o,p.2= .E8 t o->t∈r.vE)/\∀Z,r.N3 C run Z h (Z.EG ws) h':=by
  intro d x hx he hw ht;refine⟨d.toList.map λs=>(s,x),by rw[<-XJ];exact he,λp hp=>?_,λp hp t o hl=>?_,λZ=>by rw[<-XJ];exact ht Z⟩;.obtain⟨s,hs,rfl⟩:=Bb.1 hp;exact hw hs
  .obtain⟨s,hs,rfl⟩:=Bb.1 hp;exact absurd hl (hx t o)
 have Mt:∀(i:Option (Nat×Aa)) (d:Option Nat) (x:Eu),(∀t o,x≠ .E8 t o)->U'=(U.DE i).put d x->d.toList⊆r.wf->(i.map (·.1)).toList⊆r.wf->(∀Z,r.N3 C run Z h ((Z.DE i).put d x) h')->
   ∃ws,U'=U.EG ws/\(∀p∈ws,p.1∈r.wf)/\(∀p∈ws,∀t o,p.2= .E8 t o->t∈r.vE)/\∀Z,r.N3 C run Z h (Z.EG ws) h':=by
  intro i d x hx he hw ve ht;have e:∀Z:BL,(Z.DE i).put d x=Z.EG ((i.toList.map λp=>(p.1,.val p.2))++d.toList.map λs=>(s,x)):=λZ=>by rw[BL.JX,<-jv,<-XJ]
  refine⟨_,by rw[he,e],λp hp=>?_,λp hp t o hl=>?_,λZ=>by rw[<-e];exact ht Z⟩
  .rcases Aj.1 hp with hp|hp
   .obtain⟨q,hq,rfl⟩:=Bb.1 hp;exact ve (by cases i<;>simp_all)
   .obtain⟨s,hs,rfl⟩:=Bb.1 hp;exact hw hs
  .rcases Aj.1 hp with hp|hp
   .obtain⟨q,hq,rfl⟩:=Bb.1 hp;cases hl
   .obtain⟨s,hs,rfl⟩:=Bb.1 hp;exact absurd hl (hx t o)
 cases r with
 |pure ws=>obtain⟨rfl,rfl⟩:=hd;refine⟨ws,rfl,λp hp=>Bb.2 ⟨p,hp,rfl⟩,λp hp t o hl=>?_,λZ=>⟨rfl,rfl⟩⟩;exact Cf.2 ⟨p.2,Bb.2 ⟨p,hp,rfl⟩,by rw[hl]⟩
 |op p args dst BN i=>obtain⟨v,j,rfl,rfl⟩:=hd;exact Mt i dst _ (by cases BN<;>simp) rfl (by simp[EF.wf]) (by simp[EF.wf]) λZ=>⟨v,j,rfl,rfl⟩
 |box n v d=>obtain⟨hn,rfl,rfl⟩:=hd;exact one (some d) _ (by simp) rfl (by simp[EF.wf]) λZ=>⟨hn,rfl,rfl⟩
 |closure fn x b fz d=>
  obtain⟨rfl,rfl⟩:=hd;refine⟨(fz.map λ(s,cs)=>(s,.val (.B4 cs)))++[(d,.val (.func fn x b))],by rw[BL.JX];rfl,λp hp=>?_,λp hp t o hl=>?_,λZ=>⟨by rw[BL.JX];rfl,rfl⟩⟩
  .rcases Aj.1 hp with hp|hp
   .obtain⟨q,hq,rfl⟩:=Bb.1 hp;exact Oy _ (Bb.2 ⟨q,hq,rfl⟩)
   .simp at hp;subst hp;simp[EF.wf]
  .rcases Aj.1 hp with hp|hp
   .obtain⟨q,hq,rfl⟩:=Bb.1 hp;cases hl
   .simp at hp;subst hp;cases hl
 |NH s off n v BN i ver cells owned=>obtain⟨hn,rfl,rfl⟩:=hd;exact Mt i (some s) _ (by simp) rfl (by simp[EF.wf]) (by simp[EF.wf]) λZ=>⟨hn,rfl,rfl⟩
 |load n p dst=>obtain⟨v,j,rfl,rfl⟩:=hd;exact one dst _ (by simp) rfl (by simp[EF.wf]) λZ=>⟨v,j,rfl,rfl⟩
 |store n p v=>obtain⟨j,rfl⟩:=hd;exact one none .undef (by simp) rfl (by simp) λZ=>⟨j,rfl⟩
 |alloc n v dst=>obtain⟨hn,rfl,rfl⟩:=hd;exact one dst _ (by simp) rfl (by simp[EF.wf]) λZ=>⟨hn,rfl,rfl⟩
 |call f args dst=>obtain⟨v,j,rfl⟩:=hd;exact one dst _ (by intro t o;split<;>simp) rfl (by simp[EF.wf]) λZ=>⟨v,j,rfl⟩
 |El g args dst=>obtain⟨f,x,v,h1,h2,rfl⟩:=hd;exact one dst _ (by simp) rfl (by simp[EF.wf]) λZ=>⟨f,x,v,h1,h2,rfl⟩
 |AQ f args dst=>obtain⟨IZ,v,h1,h2,h3,rfl,rfl⟩:=hd;exact one dst _ (by simp) rfl (by simp[EF.wf]) λZ=>⟨IZ,v,h1,h2,h3,rfl,rfl⟩
 |NY dst=>obtain⟨rfl,rfl⟩:=hd;exact one dst _ (by simp) rfl (by simp[EF.wf]) λZ=>⟨rfl,rfl⟩
 |H6 m k v=>obtain⟨j,rfl⟩:=hd;exact one none .undef (by simp) rfl (by simp) λZ=>⟨j,rfl⟩
 |MB z ok m k dst=>obtain⟨v,j,rfl,rfl⟩:=hd;exact one dst _ (by simp) rfl (by simp[EF.wf]) λZ=>⟨v,j,rfl,rfl⟩
 |make z b zero l c dst=>obtain⟨v,j,rfl⟩:=hd;exact one dst _ (by simp) rfl (by simp[EF.wf]) λZ=>⟨v,j,rfl⟩
 |JS z b s x dst i=>obtain⟨v,j,rfl⟩:=hd;exact Mt i dst _ (by simp) rfl (by simp[EF.wf]) (by simp[EF.wf]) λZ=>⟨v,j,rfl⟩
 |F8 z b s x dst=>obtain⟨v,j,rfl⟩:=hd;exact one dst _ (by simp) rfl (by simp[EF.wf]) λZ=>⟨v,j,rfl⟩
 |Gn z b s x dst i=>obtain⟨v,j,rfl,rfl⟩:=hd;exact Mt i dst _ (by simp) rfl (by simp[EF.wf]) (by simp[EF.wf]) λZ=>⟨v,j,rfl,rfl⟩
 |E0 s dst=>obtain⟨v,j,rfl⟩:=hd;exact one dst _ (by simp) rfl (by simp[EF.wf]) λZ=>⟨v,j,rfl⟩
 |Zo s dst=>obtain⟨v,u,h1,h2,rfl⟩:=hd;exact one dst _ (by simp) rfl (by simp[EF.wf]) λZ=>⟨v,u,h1,h2,rfl⟩
 |mem o args dst=>obtain⟨v,j,rfl⟩:=hd;exact one dst _ (by intro t o';split<;>simp) rfl (by simp[EF.wf]) λZ=>⟨v,j,rfl⟩
def Uu{r:EF}(hd:r.N3 C run U h U' h')(he:r.SI=false):h'=h/\
  (r.hl=false->∀h2,r.N3 C run U h2 U' h2)/\
  ∀n p d,r= .load n p (some d)->∃v,Bg h n p=some v/\U'=U.set d (.val v)/\∀h2,Bg h2 n p=some v->r.N3 C run U h2 U' h2:=by
 cases r<;>simp only[EF.SI] at he<;>try(exact absurd he (by decide))
 case pure ws=>obtain⟨rfl,rfl⟩:=hd;exact⟨rfl,λ_ _=>⟨rfl,rfl⟩,by simp⟩
 case op p args dst BN i=>obtain⟨v,c,rfl,rfl⟩:=hd;exact⟨rfl,λ_ _=>⟨v,c,rfl,rfl⟩,by simp⟩
 case box n v d=>obtain⟨hn,rfl,rfl⟩:=hd;exact⟨rfl,λ_ _=>⟨hn,rfl,rfl⟩,by simp⟩
 case closure fn x b fz d=>obtain⟨rfl,rfl⟩:=hd;exact⟨rfl,λ_ _=>⟨rfl,rfl⟩,by simp⟩
 case NH s off n v BN i ver cells owned=>obtain⟨hn,rfl,rfl⟩:=hd;exact⟨rfl,λ_ _=>⟨hn,rfl,rfl⟩,by simp⟩
 case load n p dst=>obtain⟨v,c,rfl,rfl⟩:=hd;refine⟨rfl,λe=>absurd e (by simp[EF.hl]),λn' p' d he=>?_⟩;cases he;exact⟨v,c,rfl,λh2 g=>⟨v,g,rfl,rfl⟩⟩
 case MB z ok m k dst=>obtain⟨v,c,rfl,rfl⟩:=hd;exact⟨rfl,λe=>absurd e (by simp[EF.hl]),by simp⟩
 case AQ f args dst=>obtain⟨IZ,v,h1,h2,h3,rfl,rfl⟩:=hd;exact⟨rfl,λ_ _=>⟨IZ,v,h1,h2,h3,rfl,rfl⟩,by simp⟩
def Vn{ds:List Nat}(hn:NI U ds=true):U.drop ds=U:=by
 refine BL.ext (BL.length_drop U ds) λt=>?_;rw[BL.Wq];cases hx:U.at t with
 |E8 t' o=>have:=OR.1 hn t t' o hx;simp[this]
 |_=>rfl
def RD{o:Oper}(h:∀t∈Fp ops o,Z.at t=U.at t):I2 ops Z o=I2 ops U o:=by
 unfold I2;unfold Fp at h;cases hg:o.guard with
 |none=>rfl
 |some g=>
  obtain⟨j,want⟩:=g;rw[hg] at h;simp only at h⊢;cases hd:(ops[j]?).bind (·.dst) with
  |none=>rfl
  |some s=>
   rw[hd] at h;simp only
   rw[h s (by simp)]
def V5{o:Oper}{r:EF}(hc:Ga C fid ops U o=some r)(ht:∀t∈KS o.op.operands.toList,Z.at t=U.at t)(hb:∀s∈Ig C U o,Z.at s=U.at s):Ig C Z o=Ig C U o:=by
 have h:Wv C U Z o.op.operands.toList:= .vV ht
 unfold Ig at hb⊢
 cases ho:o.op with
 |load t x=>
  rw[ho] at h hb
  simp only at hb⊢
  have hn:F9 C U x≠none:=λhe=>by
   unfold Ga at hc
   simp only[ho] at hc
   split at hc
   .unfold L1 at hc;rw[he] at hc;split at hc<;>simp_all
   .cases hc
  unfold OD
  rw[h.addr (by simp[Op.operands]) hb hn]
 |store t x y=>
  rw[ho] at h hb
  simp only at hb⊢
  have hn:F9 C U x≠none:=λhe=>by
   unfold Ga at hc
   simp only[ho] at hc
   split at hc
   .unfold JA at hc;rw[he] at hc;split at hc<;>simp_all
   .cases hc
  unfold OD
  rw[h.addr (by simp[Op.operands]) hb hn]
 |_=>rfl
def Vo{xs:List Eu}{t o:Nat}(h: .E8 t o∈xs):t∈Wp xs:=Cf.2 ⟨_,h,rfl⟩
def P6.spec{s:St}(hs:P6 C fid ops run s U h U' h')(hf:s.fp.Ul=true):
  ∃ws,U'=U.EG ws/\(∀p∈ws,p.1∈s.fp.wf)/\(∀p∈ws,∀t o,p.2= .E8 t o->t∈s.fp.lr)/\(∀x∈s.fp.wf,∀t o,U.at x= .E8 t o->t∈s.fp.lr)/\NI U s.fp.news=true/\(s.fp.SI=false->h'=h)/\
   (s.fp.SI=false->s.fp.hl=true->∃f,s.fl=some f)/\
   ∀(Z:BL) (h2 jT:Ae),Z.length=U.length->(∀x∈s.fp.rs++s.fp.wf,Z.at x=U.at x)->NI Z s.fp.news=true->
    ((h2=h/\jT=h')\/(s.fp.SI=false/\jT=h2/\(s.fp.hl=true->∀f,s.fl=some f->Bg h2 f.n f.p=some f.v)))->P6 C fid ops run s Z h2 (Z.EG ws) jT:=by
 obtain⟨o,ho,⟨hg,j,IZ,rfl,rfl⟩|⟨r,U1,hg,hc,j,hd,IZ,ha⟩⟩:=hs
 .rw[j] at hf⊢;refine⟨o.dst.toList.map λd=>(d,.skip),XJ _ _ _,λp hp=>?_,λp hp t k hl=>?_,λx hx t k hl=>?_,OR.2 (by simp[VT]),λ_=>rfl,λ_ i=>absurd i (by simp[VT]),λZ h2 jT hlen vf _ I9=>?_⟩;.obtain⟨d,hd,rfl⟩:=Bb.1 hp;exact hd
  .obtain⟨d,hd,rfl⟩:=Bb.1 hp;cases hl
  .exact Vo (o:=k) (Bb.2 ⟨x,hx,hl⟩)
  .have i:jT=h2:=by rcases I9 with⟨D,B⟩|⟨_,e,_⟩<;>first|exact e|rw[D,B]
   refine⟨o,ho,.inl ⟨?_,?_,IZ,(XJ _ _ _).symm,i⟩⟩;.rw[RD λt ht=>vf t (B5 _ ht)];exact hg
   .rw[j];have e:o.dst.toList.map Z.at=o.dst.toList.map U.at:=Z7 λx hx=>vf x (BH _ hx);simp only[VT,e]
 .rw[j] at hf⊢;have vg:r.Ul U=true:=hf;have Rs:NI U r.news=true:=by unfold EF.Ul at vg;rw[A4] at vg;exact vg.1
  rw[Vn Rs] at hd;obtain⟨vh,rfl,hw,A,Ni⟩:=aT hd;have aLI:∃g:List (Nat×Eu),U'=(U.EG vh).EG g/\(∀p∈g,o.dst=some p.1/\∃b,p.2= .PH b)/\∀Z:BL,Z.length=U.length->(∀x∈r.wf++o.dst.toList,Z.at x=U.at x)->Nr (if SX ops s.idx then o.dst else none) (Z.EG vh) ((Z.EG vh).EG g):=by
   by_cases c:SX ops s.idx=true
   .rw[if_pos c] at ha;cases Tb:o.dst with
    |none=>rw[Tb] at ha;exact⟨[],ha,by simp,λZ _ _=>by simp[c,Nr,BL.EG]⟩
    |some d=>
     rw[Tb] at ha;simp only[Nr] at ha;have u:∀Z:BL,Z.length=U.length->(∀x∈r.wf++[d],Z.at x=U.at x)->(Z.EG vh).at d=(U.EG vh).at d:=λZ hl vf=>BL.Jq vh U Z d hl (vf d (by simp));cases hx:(U.EG vh).at d with
     |val v=>rw[hx] at ha;obtain⟨b,rfl,rfl⟩:=ha;refine⟨[(d,.PH b)],rfl,by simp,λZ hl vf=>?_⟩;simp only[c,BM,Nr];rw[u Z hl vf,hx];exact⟨b,rfl,rfl⟩
     |_=>rw[hx] at ha;refine⟨[],ha,by simp,λZ hl vf=>?_⟩;simp only[c,BM,Nr];rw[u Z hl vf,hx];rfl
   .rw[if_neg c] at ha;exact⟨[],ha,by simp,λZ _ _=>by rw[if_neg c];rfl⟩
  obtain⟨g,rfl,ve,aG4⟩:=aLI;have q:r.hl=true->∃n p d,r= .load n p (some d)/\d<U.length:=λi=>by
   unfold EF.Ul at vg;rw[A4] at vg;cases r with
   |load n p dst=>
    cases dst with
    |none=>exact absurd vg.2 (by simp)
    |some d=>exact⟨n,p,d,rfl,by simpa using vg.2⟩
   |MB _ _ _ _ _=>exact absurd vg.2 (by simp)
   |_=>simp[EF.hl] at i
  have aG5:r.SI=false->∀n p d,r= .load n p (some d)->d<U.length->∃v,Bg h n p=some v/\s.fl=some {idx:=s.idx,n,p,v}:=by intro he n p d hr qi;obtain⟨v,y,m,_⟩:=(Uu hd he).2.2 n p d hr;refine⟨v,y,?_⟩;rw[IZ,hr];simp only[Lp];rw[m,BL.Fj qi]
  have aLJ:∀(Z:BL) h2 jT,((h2=h/\jT=h')\/(r.SI=false/\jT=h2/\(r.hl=true->∀f,s.fl=some f->Bg h2 f.n f.p=some f.v)))->r.N3 C run Z h2 (Z.EG vh) jT:=by
   intro Z h2 jT I9;rcases I9 with⟨rfl,rfl⟩|⟨he,rfl,Vj⟩
   .exact Ni Z
   .obtain⟨_,H,G⟩:=Uu (Ni Z) he;cases i:r.hl with
    |false=>exact H i _
    |true=>obtain⟨n,p,d,hr,qi⟩:=q i;obtain⟨v,y,m⟩:=aG5 he n p d hr qi;obtain⟨v',E,_,F⟩:=G n p d hr;rw[y] at E;cases E;exact F _ (Vj i _ m)
  refine⟨vh++g,by rw[BL.JX],λp hp=>?_,λp hp t k hl=>?_,λx hx t k hl=>?_,Rs,λhe=>(Uu hd he).1,λhe i=>?_,λZ h2 jT hlen vf z I9=>?_⟩
  .rcases Aj.1 hp with hp|hp
   .exact B5 _ (hw p hp)
   .exact BH _ (by rw[(ve p hp).1];simp)
  .rcases Aj.1 hp with hp|hp
   .exact BH _ (A p hp t k hl)
   .obtain⟨_,b,e⟩:=ve p hp;rw[e] at hl;cases hl
  .exact B5 _ (Vo (o:=k) (Bb.2 ⟨x,hx,hl⟩))
  .obtain⟨n,p,d,hr,qi⟩:=q i;obtain⟨v,_,m⟩:=aG5 he n p d hr qi;exact⟨_,m⟩
  .have l:∀t∈Fp ops o++KS o.op.operands.toList++Ig C U o,Z.at t=U.at t:=λt ht=>vf t (B5 _ ht);have hwf:∀t∈r.wf++o.dst.toList,Z.at t=U.at t:=λt ht=>vf t (BH _ ht);have ht:∀t∈KS o.op.operands.toList,Z.at t=U.at t:=λt ht=>l t (by simp[ht]);have hb:∀t∈Ig C U o,Z.at t=U.at t:=λt ht=>l t (by simp[ht]);have aG6:NI Z r.news=true:=z;refine⟨o,ho,.inr ⟨r,Z.EG vh,?_,XF hc ht hb,?_,?_,?_,?_⟩⟩;.rw[RD λt ht=>l t (by simp[ht])];exact hg
   .rw[j];have D:(r.wf++o.dst.toList).map Z.at=(r.wf++o.dst.toList).map U.at:=Z7 λx hx=>hwf x hx;have B:r.Ul Z=r.Ul U:=by unfold EF.Ul;rw[Rs,aG6,hlen]
    simp only[VT,D,B,V5 hc ht hb]
   .rw[Vn aG6];exact aLJ Z h2 jT I9
   .rw[IZ];exact(Zz λd hd=>BL.Jq vh U Z d hlen (hwf d (B5 _ hd))).symm
   .rw[BL.JX];exact aG4 Z hlen hwf
end
end Go.Am
end
section
namespace Go.Am
open Go
section
variable{C:FT}{fid:FuncId}{ops:List Oper}{run:IT->Ae->Option J7}{an:List Nat}
def Mu{a b:List Nat}(h:(!Ve a b)=true){x:Nat}(hx:x∈a):x∉b:=λhb=>by have:Ve a b=true:=ju.2 ⟨x,hx,hb⟩;simp[this] at h
def swap{p s:St}{U σa U1:BL}{h ha h1:Ae}(hp:P6 C fid ops run p U h σa ha)(hs:P6 C fid ops run s σa ha U1 h1)(Im:RW p.fp s.fp=true)
  (Vj:s.fp.SI=true->∀f,p.fl=some f->Bg h1 f.n f.p=some f.v):
  ∃σs jO,P6 C fid ops run s U h σs jO/\P6 C fid ops run p σs jO U1 h1/\(s.fp.SI=true->jO=h1)/\(p.fp.SI=true->h1=ha):=by
 unfold RW FP.apart at Im;simp only[A4] at Im;obtain⟨⟨⟨⟨pf,D⟩,⟨⟨a1,a2⟩,a3⟩,a4⟩,he⟩,hl⟩:=Im;obtain⟨c,rfl,l,dE,A,u,y,G,aA5⟩:=hp.spec pf;obtain⟨b,rfl,k,oX,E,m,oV,F,vi⟩:=hs.spec D;have i:∀x∈s.fp.rs++s.fp.wf,(U.EG c).at x=U.at x:=λx hx=>BL.GF c U x λq hq e=>Mu a1 (l q hq) (by rw[e];exact hx);have d:NI U s.fp.news=true:=by
  rw[OR] at m⊢;intro x t o hx;by_cases hw:x∈p.fp.wf;.exact Mu a3 (A x hw t o hx)
  .refine m x t o ?_;rw[BL.GF c U x λq hq e=>hw (by rw[<-e];exact l q hq)];exact hx
 have hlen:∀(Z:BL) (ws:List (Nat×Eu)),(Z.EG ws).length=Z.length:=λZ ws=>BL.JY ws Z;have aA6:(U.EG b).EG c=(U.EG c).EG b:=(BL.jt λq hq r hr e=>by have:=Mu a1 (l q hq);exact this (BH _ (by rw[e];exact k r hr))).symm
 have outs:∀x∈p.fp.rs++p.fp.wf,(U.EG b).at x=U.at x:=λx hx=>BL.GF b U x λq hq e=>by
  rcases Aj.1 hx with hx|hx
  .exact Mu a2 (k q hq) (by rw[e];exact hx)
  .exact Mu a1 hx (BH _ (by rw[<-e];exact k q hq))
 have z:NI (U.EG b) p.fp.news=true:=by
  rw[OR] at u⊢;intro x t o hx;rcases BL.XH b U x with h0|⟨q,hq,_,h2⟩
  .exact u x t o (by rw[<-h0];exact hx)
  .rw[h2] at hx;exact Mu a4 (oX q hq t o hx)
 by_cases JH:s.fp.SI=true
 .have g:p.fp.SI=false:=by
   cases hq:p.fp.SI with
   |false=>rfl
   |true=>simp[JH,hq] at he
  have j:ha=h:=y g;subst j;refine⟨U.EG b,h1,vi U ha h1 (hlen U c).symm (λx hx=>(i x hx).symm) d (.inl ⟨rfl,rfl⟩),?_,λ_=>rfl,λe=>by rw[g] at e;cases e⟩;rw[<-aA6];exact aA5 (U.EG b) h1 h1 (hlen U b) outs z (.inr ⟨g,rfl,λ_ f hf=>Vj JH f hf⟩)
 .have aG7:s.fp.SI=false:=by simpa using JH
  have B:h1=ha:=oV aG7;subst B;refine⟨U.EG b,h,?_,?_,λe=>absurd e JH,λ_=>rfl⟩
  .by_cases g:p.fp.SI=true;.refine vi U h h (hlen U c).symm (λx hx=>(i x hx).symm) d (.inr ⟨aG7,rfl,λH=>?_⟩);simp[g,H] at hl
   .have aLM:p.fp.SI=false:=by simpa using g
    have j:=y aLM;exact vi U h h (hlen U c).symm (λx hx=>(i x hx).symm) d (.inl ⟨j.symm,j.symm⟩)
  .rw[<-aA6];exact aA5 (U.EG b) h h1 (hlen U b) outs z (.inl ⟨rfl,rfl⟩)
inductive Steps(C:FT)(fid:FuncId)(ops:List Oper)(run:IT->Ae->Option J7)(an:List Nat):List KJ->List St->BL->Ae->BL->Ae->Prop
 |nil {fl:List KJ} {U:BL} {h:Ae}:Steps C fid ops run an fl [] U h U h
 |cons {fl:List KJ} {s:St} {L:List St} {U U1 σf:BL} {h h1 hf:Ae}:P6 C fid ops run s U h U1 h1->(s.fp.SI=true->∀f∈fl,Em an f.idx s.idx=false->Bg h1 f.n f.p=some f.v)->
  Steps C fid ops run an (s.fl.toList++fl) L U1 h1 σf hf->Steps C fid ops run an fl (s::L) U h σf hf
def Steps.sub{fl:List KJ}{L:List St}{U σf:BL}{h hf:Ae}(hs:Steps C fid ops run an fl L U h σf hf):∀{b:List KJ},(∀f∈b,f∈fl)->Steps C fid ops run an b L U h σf hf:=by
 induction hs with
 |nil=>intro b _;exact .nil
 |cons h1 h2 _ ih=>
  intro b XK;refine .cons h1 (λhe f hf hb=>h2 he f (XK f hf) hb) (ih λf hf=>?_);rcases Aj.1 hf with hf|hf
  .exact B5 _ hf
  .exact BH _ (XK f hf)
def P6.aCr{s:St}{U U':BL}{h h':Ae}(hs:P6 C fid ops run s U h U' h'){f:KJ}(hf:s.fl=some f):f.idx=s.idx:=by
 obtain⟨o,_,⟨_,_,IZ,_⟩|⟨r,U1,_,_,_,_,IZ,_⟩⟩:=hs;.rw[IZ] at hf;cases hf
 .rw[IZ] at hf;unfold Lp at hf;split at hf
  .split at hf;.cases hf;rfl
   .cases hf
  .cases hf
def Steps.lt{fl:List KJ}{L:List St}{U σf:BL}{h hf:Ae}(hs:Steps C fid ops run an fl L U h σf hf):∀q∈L,q.idx<ops.length:=by
 induction hs with
 |nil=>simp
 |cons h1 _ _ ih=>
  intro q hq;rcases Aw.1 hq with rfl|hq
  .obtain⟨o',h2,_⟩:=h1;exact(Af.1 h2).1
  .exact ih q hq
def aA7{s:St}{B:List St}{σf:BL}{hf:Ae}:∀{A:List St} {fl:List KJ} {U:BL} {h:Ae},Steps C fid ops run an fl (A++s::B) U h σf hf->(∀p∈A,RW p.fp s.fp=true/\Em an p.idx s.idx=false)->
  ∃U1 h1,P6 C fid ops run s U h U1 h1/\(s.fp.SI=true->∀f∈fl,Em an f.idx s.idx=false->Bg h1 f.n f.p=some f.v)/\Steps C fid ops run an (s.fl.toList++fl) (A++B) U1 h1 σf hf
 |[],fl,U,h,hs,_=>by
  cases hs with
  |cons h1 h2 h3=>exact⟨_,_,h1,h2,h3⟩
 |p::A,fl,U,h,hs,i=>by
  cases hs with
  |cons h1 h2 h3=>
   rename_i σa ha;obtain⟨U1,x,e,d,t⟩:=aA7 h3 λq hq=>i q (by simp[hq]);obtain⟨Im,aLN⟩:=i p (by simp);obtain⟨σs,jO,m,l,k,j⟩:=swap h1 e Im λhe f hf=>d he f (by rw[hf];simp) (by rw[h1.aCr hf];exact aLN);refine⟨σs,jO,m,λhe f hf hb=>?_,.cons l (λhe f hf hb=>?_) (t.sub λf hf=>?_)⟩;.rw[k he];exact d he f (BH _ hf) hb
   .rw[j he];rcases Aj.1 hf with hf|hf
    .exfalso;unfold RW at Im;simp only[A4] at Im;obtain⟨⟨⟨⟨_,z⟩,_⟩,u⟩,hl⟩:=Im;cases qE:s.fl with
     |none=>rw[qE] at hf;simp at hf
     |some g=>
      have b:s.fp.hl=true:=by
       obtain⟨o,_,⟨_,_,IZ,_⟩|⟨r,y,_,_,c,_,IZ,_⟩⟩:=e;.rw[IZ] at qE;cases qE
       .rw[IZ] at qE;unfold Lp at qE;split at qE;.rw[c];rfl
        .cases qE
      simp[he,b] at hl
    .exact h2 he f hf hb
   .rcases Aj.1 hf with hf|hf
    .exact BH _ (B5 _ hf)
    .rcases Aj.1 hf with hf|hf
     .exact B5 _ hf
     .exact BH _ (BH _ hf)
def RE{DP:List Nat}{x:Nat}:∀(ds:List Nat) (m:Nat),(ds.foldl (λm e=>m|||bit e|||DP.getD e 0) m).testBit x=true↔m.testBit x=true\/∃e∈ds,x=e\/(DP.getD e 0).testBit x=true
 |[],m=>by simp
 |d::ds,m=>by
  rw[px,RE ds];simp only[Nat.testBit_or,bit,Nat.testBit_two_pow,Jy,Ci,Aw,exists_eq_or_imp];constructor
  .rintro((h|h)|h)
   .rcases h with h|h
    .exact .inl h
    .exact .inr (.inl (.inl h.symm))
   .exact .inr (.inl (.inr h))
   .exact .inr (.inr h)
  .rintro(h|(h|h)|h);.exact .inl (.inl (.inl h))
   .exact .inl (.inl (.inr h.symm))
   .exact .inl (.inr h)
   .exact .inr h
def Mh:∀(l:List Oper) (DP:List Nat) (i:Nat),i<DP.length->(Lv DP l).getD i 0=DP.getD i 0
 |[],DP,i,h=>rfl
 |o::l,DP,i,h=>by rw[Lv,Mh l _ i (by simp;omega)];simp[List.getD,Ah h]
def RF:∀(l:List Oper) (DP:List Nat) (k:Nat) (o:Oper),l[k]?=some o->(∀e∈Oper.VS o,e<DP.length+k)->∀x,
  ((Lv DP l).getD (DP.length+k) 0).testBit x=true↔∃e∈Oper.VS o,x=e\/((Lv DP l).getD e 0).testBit x=true
 |[],DP,k,o,h,_,x=>by simp at h
 |o'::l,DP,0,o,h,hd,x=>by
  simp at h;subst h;rw[Lv,Mh l _ (DP.length+0) (by simp)];have b:(DP++[(Oper.VS o').foldl (λm e=>m|||bit e|||DP.getD e 0) 0]).getD (DP.length+0) 0=(Oper.VS o').foldl (λm e=>m|||bit e|||DP.getD e 0) 0:=by simp[List.getD]
  rw[b,RE];simp only[Nat.zero_testBit,Cp,false_or];constructor;.rintro⟨e,he,h⟩;refine⟨e,he,h.imp id λh=>?_⟩;have hlt:e<DP.length:=hd e he;rw[Mh l _ e (by simp;omega)];simpa[List.getD,Ah hlt] using h
  .rintro⟨e,he,h⟩;refine⟨e,he,h.imp id λh=>?_⟩;have hlt:e<DP.length:=hd e he;rw[Mh l _ e (by simp;omega)] at h;simpa[List.getD,Ah hlt] using h
 |o'::l,DP,k+1,o,h,hd,x=>by simp at h;rw[Lv];have:=RF l (DP++[(Oper.VS o').foldl (λm e=>m|||bit e|||DP.getD e 0) 0]) k o h (λe he=>by have:=hd e he;simp;omega) x;simp only[Ai,AE,AY,By] at this;rw[show DP.length+(k+1)=DP.length+1+k by omega];exact this
def aU{i:Nat}{o:Oper}(ho:ops[i]?=some o)(hd:∀e∈Oper.VS o,e<i)(x:Nat):Em (Xe ops) x i=true↔∃e∈Oper.VS o,x=e\/Em (Xe ops) x e=true:=by have:=RF ops [] i o ho (by simpa using hd) x;simpa[Em,Xe] using this
def P7(h:cX ops=true){i:Nat}{o:Oper}(ho:ops[i]?=some o):∀e∈Oper.VS o,e<i:=by
 unfold cX at h;rw[Dc] at h;have:=h (o,i) (by refine Cx (i:=i) ?_;simp[List.getElem?_zipIdx,ho])
 intro e he;simpa using Dc.1 this e he
def aV:∀{l:List (Nat×FP)},Xg.go an l=true->l.Pairwise λx y=>x.1≠y.1/\Em an y.1 x.1=false/\(Em an x.1 y.1=true\/RW x.2 y.2=true)
 |[],_=> .nil
 |(i,f)::l,h=>by simp only[Xg.go,A4,Dc] at h;refine .cons (λy hy=>?_) (aV h.2);have:=h.1 y hy;simp only[bne_iff_ne,aRS,Jy] at this;exact⟨this.1.1,this.1.2,this.2⟩
def vj{d:Option Nat}{U:BL}{K:BL->IT}{h:Ae}{R:J7}(hr:IT.step (B7 C) run (vF d U K) h=some R):∃U',Nr d U U'/\IT.step (B7 C) run (K U') h=some R:=by
 unfold vF at hr;cases d with
 |none=>exact⟨U,rfl,hr⟩
 |some d=>
  simp only at hr;cases hx:U.at d with
  |val v=>
   rw[hx] at hr;simp only[IT.step] at hr;split at hr;.exact⟨U.set d (.PH true),by simp only[Nr,hx];exact⟨true,rfl,rfl⟩,hr⟩
   .exact⟨U.set d (.PH false),by simp only[Nr,hx];exact⟨false,rfl,rfl⟩,hr⟩
   .cases hr
  |_=>rw[hx] at hr;exact⟨U,by simp only[Nr,hx],hr⟩
def OS{i:Nat}{t:IT}{h:Ae}{R:J7}:∀{fl:List KJ},IT.step (B7 C) run (SV an i fl t) h=some R->(∀f∈fl,Em an f.idx i=false->Bg h f.n f.p=some f.v)/\IT.step (B7 C) run t h=some R
 |[],hr=>⟨by simp,hr⟩
 |f::fl,hr=>by
  unfold SV at hr;by_cases hb:Em an f.idx i=true
  .rw[if_pos hb] at hr;obtain⟨d,c⟩:=OS hr;refine⟨λg hg b=>?_,c⟩;rcases Aw.1 hg with rfl|hg
   .rw[hb] at b;cases b
   .exact d g hg b
  .rw[if_neg hb] at hr;simp only[IT.step] at hr;split at hr
   .rename_i v e;split at hr
    .rename_i KD;obtain⟨d,c⟩:=OS hr;refine⟨λg hg b=>?_,c⟩;rcases Aw.1 hg with rfl|hg
     .rw[Aa.beq_eq KD];exact e
     .exact d g hg b
    .cases hr
   .cases hr
def Sa{K:BL->IT}{R:J7}:∀{rest:List Nat} {b:List (Nat×FP)} {fl:List KJ} {U:BL} {h:Ae},IT.step (B7 C) run (RX C fid ops an rest b fl U K) h=some R->
  ∃L σf hf,Steps C fid ops run an fl L U h σf hf/\Xg ops.length an (b.reverse++L.map λs=>(s.idx,s.fp))=true/\IT.step (B7 C) run (K σf) hf=some R
 |[],b,fl,U,h,hr=>by
  unfold RX at hr;split at hr;.rename_i Im;exact⟨[],U,h,.nil,by simpa using Im,hr⟩
  .cases hr
 |i::rest,b,fl,U,h,hr=>by
  unfold RX at hr;cases ho:ops[i]? with
  |none=>rw[ho] at hr;cases hr
  |some o=>
   rw[ho] at hr;simp only at hr;split at hr
   .rename_i hg;split at hr;.cases hr
    .rename_i r hc;obtain⟨U1,h1,hd,hr⟩:=aD hr;have HM:(r.SI=true->∀f∈fl,Em an f.idx i=false->Bg h1 f.n f.p=some f.v)/\IT.step (B7 C) run (vF (if SX ops i then o.dst else none) U1 λj=>RX C fid ops an rest ((i,VT C ops U o (some r))::b) (No i r U1 fl) j K) h1=some R:=by
      split at hr;.obtain⟨d,c⟩:=OS hr;exact⟨λ_=>d,c⟩
      .rename_i he;exact⟨λe=>absurd e he,hr⟩
     obtain⟨Vj,hr⟩:=HM;obtain⟨U',ha,hr⟩:=vj hr;rw[XI] at hr;obtain⟨L,σf,hf,d,c,g⟩:=Sa hr;exact⟨{idx:=i,fp:=VT C ops U o (some r),fl:=Lp i r U1}::L,σf,hf,.cons ⟨o,ho,.inr ⟨r,U1,hg,hc,rfl,hd,rfl,ha⟩⟩ Vj d,by simpa using c,g⟩
   .rename_i hg;obtain⟨L,σf,hf,d,c,g⟩:=Sa hr;exact⟨{idx:=i,fp:=VT C ops U o none,fl:=none}::L,σf,hf,.cons ⟨o,ho,.inl ⟨hg,rfl,rfl,rfl,rfl⟩⟩ (λe=>by simp[VT] at e) d,by simpa using c,g⟩
   .cases hr
end
section
variable{C:FT}{γ0 γ:Gh}{w0 w:World}{O:Nat->Nat}{U:BL}{h:Ae}{a:Act}{fid:FuncId}
def Mi(hr:C4 C γ0 w0 γ O U h a w){ops:Array Oper}{o:Oper}{b:Bool}(hg:I2 ops.toList U o= .N0 b):Region.wanted o (yielded ops a.tmps)=b:=by
 unfold I2 at hg;unfold Region.wanted;cases ho:o.guard with
 |none=>rw[ho] at hg;cases hg;rfl
 |some g=>
  obtain⟨j,want⟩:=g;rw[ho] at hg;simp only[aGL] at hg⊢;unfold yielded;cases hd:(ops[j]?).bind (·.dst) with
  |none=>rw[hd] at hg;cases hg
  |some s=>
   rw[hd] at hg;simp only[Ck] at hg⊢;have h0:=hr.fr.Ir s;cases hx:U.at s with
   |PH c=>
    rw[hx] at hg h0;cases hg;have hl:s<a.tmps.size:=by rw[<-hr.fr.size];exact BL.PY (by rw[hx];simp)
    have d:a.tmps.getD s undef= .bool c:=h0;have:a.tmps[s]?=some (.bool c):=by rw[CJ hl];rw[Hn,CJ hl] at d;exact BQ some d
    rw[this];rfl
   |skip=>
    rw[hx] at hg h0;cases hg;have d:a.tmps.getD s undef=undef:=h0;have hne:∀c,a.tmps[s]?≠some (.bool c):=λc hc=>by rw[Hn,hc] at d;cases d
    cases ht:a.tmps[s]? with
    |none=>rfl
    |some v=>
     cases v with
     |bool c=>exact absurd ht (hne c)
     |_=>rfl
   |val v=>rw[hx] at hg;cases hg
   |_=>rw[hx] at hg;cases hg
def C4.aG9(hr:C4 C γ0 w0 γ O U h a w){d:Option Nat}{U':BL}(ha:Nr d U U'):C4 C γ0 w0 γ O U' h a w:=by
 unfold Nr at ha;cases d with
 |none=>simp only at ha;rw[ha];exact hr
 |some d=>
  simp only at ha;cases hx:U.at d with
  |val v=>rw[hx] at ha;obtain⟨b,rfl,rfl⟩:=ha;have h0:=hr.fr.Ir d;rw[hx] at h0;exact hr.j3 h0
  |_=>rw[hx] at ha;rw[ha];exact hr
structure aLO(ops:Array Oper)(listed:Array Bool)(L:List St):Prop where
 size:listed.size=ops.size
 un:∀i,i<ops.size->(listed.getD i false=false↔i∈L.map (·.idx))
 closed:∀j,listed.getD j false=true->∀e,Em (Xe ops.toList) e j=true->listed.getD e false=true
abbrev vW(an:List Nat)(L:List St):Prop:=L.Pairwise λx y=>x.idx≠y.idx/\Em an y.idx x.idx=false/\(Em an x.idx y.idx=true\/RW x.fp y.fp=true)
def jw{run:IT->Ae->Option J7}(D:E2 C run){ops:Array Oper}{Q:Exit->Act->World->Prop}(FO:cX ops.toList=true){σf:BL}{hf:Ae}(hQ:∀γ' k a' w',C4 C γ0 w0 γ' k σf hf a' w'->Q .normal a' w'):
  ∀(fuel:Nat) (L:List St) (listed:Array Bool) (γ:Gh) (O:Nat->Nat) (U:BL) (h:Ae) (a:Act) (w:World),L.length=fuel->Steps C fid ops.toList run (Xe ops.toList) [] L U h σf hf->vW (Xe ops.toList) L->aLO ops listed L->C4 C γ0 w0 γ O U h a w->
   wpAny C.P .any ops Q fuel listed a w:=by
 intro fuel;induction fuel with
 |zero=>
  intro L listed γ O U h a w l hs hp ho hr;have u:L=[]:=CQ l;subst u;cases hs;refine⟨List.eq_nil_iff_forall_not_mem.2 λi hi=>?_,hQ _ _ _ _ hr⟩;obtain⟨h0,o,þ,_⟩:=mem_ready.1 hi;have hlt:i<ops.size:=(AM.1 þ).1;have jq:listed.getD i false=false:=by
   have hl:i<listed.size:=by rw[ho.size];exact hlt
   simpa[Array.getD,hl] using h0
  have:=(ho.un i hlt).1 jq;simp at this
 |succ fuel ih=>
  intro L listed γ O U h a w l hs hp ho hr;have dI:∀i,i<ops.size->listed.getD i true=listed.getD i false:=λi hi=>by
   have hl:i<listed.size:=by rw[ho.size];exact hi
   simp[Array.getD,hl]
  constructor
  .intro Vj;exfalso;cases L with
   |nil=>simp at l
   |cons s0 L=>
    obtain⟨o,þ,_⟩:∃o,ops.toList[s0.idx]?=some o/\True:=by
     cases hs with
     |cons h1 _ _=>obtain⟨o,h2,_⟩:=h1;exact⟨o,h2,trivial⟩
    have qF:ops[s0.idx]?=some o:=by simpa using þ
    have hlt:s0.idx<ops.size:=(AM.1 qF).1;have:s0.idx∈Region.ready .any ops listed:=by
     refine mem_ready.2 ⟨?_,o,qF,λe he hb=>?_⟩;.rw[dI _ hlt];exact(ho.un _ hlt).2 (by simp)
     .have f:e.on∈Oper.VS o:=Cf.2 ⟨e,by simpa using he,by rw[if_pos hb]⟩;have z:=P7 FO þ e.on f;cases hl:listed.getD e.on false with
      |true=>rfl
      |false=>
       have hm:=(ho.un e.on (by omega)).1 hl;simp only[Bd,Aw] at hm;rcases hm with hm|hm
       .omega
       .obtain⟨y,hy,m⟩:=Bb.1 hm;have:=((aPX.1 hp).1 y hy).2.1;rw[m,(aU þ (P7 FO þ) e.on).2 ⟨e.on,f,.inl rfl⟩] at this;cases this
    rw[Vj] at this;cases this
  .intro i hi;obtain⟨h0,o,þ,aHa⟩:=mem_ready.1 hi;have hlt:i<ops.size:=(AM.1 þ).1;rw[dI i hlt] at h0;obtain⟨s,n,rfl⟩:=Bb.1 ((ho.un i hlt).1 h0);obtain⟨A,B,rfl⟩:=List.append_of_mem n;have qF:ops.toList[s.idx]?=some o:=by simpa using þ
   have aHb:∀e,Em (Xe ops.toList) e s.idx=true->listed.getD e false=true:=λe he=>by
    obtain⟨d,hd,I9⟩:=(aU qF (P7 FO qF) e).1 he;obtain⟨E,f,hb⟩:=Cf.1 hd;split at hb
    .rename_i T9;cases hb;have qi:=aHa E (by simpa using f) T9;rcases I9 with rfl|I9
     .exact qi
     .exact ho.closed _ qi e I9
    .cases hb
   have b:=(aKe.1 hp).2.2;have aCs:∀p∈A++s::B,p.idx<ops.size:=λp t=>by simpa using hs.lt p t
   obtain⟨U1,h1,x,_,v⟩:=aA7 hs λp g=>by
    have hb:Em (Xe ops.toList) p.idx s.idx=false:=by
     cases T9:Em (Xe ops.toList) p.idx s.idx with
     |false=>rfl
     |true=>have h1:=aHb _ T9;have h2:=(ho.un p.idx (aCs p (by simp[g]))).2 (Bb.2 ⟨p,by simp[g],rfl⟩);rw[h1] at h2;cases h2
    refine⟨?_,hb⟩;have:=(b p g s (by simp)).2.2;rw[hb] at this;exact this.resolve_left (by simp)
   have aA8:∀γ' k a' w',C4 C γ0 w0 γ' k U1 h1 a' w'->wpAny C.P .any ops Q fuel (listed.setIfInBounds s.idx true) a' w':=λγ' k a' w' HM=>by
    refine ih (A++B) _ γ' k U1 h1 a' w' (by simp at l⊢;omega) (v.sub (by simp)) ?_ ⟨by simp[ho.size],λj hj=>?_,λj hj e he=>?_⟩ HM;.exact hp.sublist ((BK A).append (U9 s B))
    .by_cases c:j=s.idx
     .subst c;have aCt:s.idx∉(A++B).map (·.idx):=λhm=>by
       obtain⟨q,hq,he⟩:=Bb.1 hm;rcases Aj.1 hq with hq|hq
       .exact(b q hq s (by simp)).1 he
       .exact(aPX.1 (aKe.1 hp).2.1).1 q hq |>.1 he.symm
      have ht:(listed.setIfInBounds s.idx true).getD s.idx false=true:=by
       have hl:s.idx<listed.size:=by rw[ho.size];exact hlt
       simp[Array.getD,hl]
      rw[ht];exact⟨λe=>absurd e (by simp),λe=>absurd e aCt⟩
     .rw[getD_set_ne false (λe=>c e.symm),ho.un j hj];simp only[Cb,Bd,Aj,Aw];constructor
      .rintro(e|e|e);.exact .inl e
       .exact absurd e c
       .exact .inr e
      .rintro(e|e);.exact .inl e
       .exact .inr (.inr e)
    .by_cases c:j=s.idx;.subst c;exact getD_set_true (aHb e he)
     .rw[getD_set_ne false (λe=>c e.symm)] at hj;exact getD_set_true (ho.closed j hj e he)
   unfold wpOp;rw[þ];obtain⟨o',û,⟨hg,_,_,rfl,rfl⟩|⟨r,F,hg,hc,_,hd,_,ha⟩⟩:=x;.rw[qF] at û;cases û;simp only[Mi hr hg,Cp,DU];exact aA8 _ _ _ _ (hr.put λ_ _=>rfl)
   .rw[qF] at û;cases û;simp only[Mi hr hg,BM];exact .inl (vd D hc hd hr λγ' k a' w' HM=>aA8 γ' k a' w' (HM.aG9 ha))
end
end Go.Am
end
end
