/- Lemmas -/
import Derived.Test.YtkaolmlpcamojaaGreatDoorC5
import Derived.MapKept
set_option linter.all false
section
namespace Go.Am
open Go
section
variable{C:FY}{γ0 γ γ':Gh}{w0 w w':World}{Z:Nat->Nat}{U:BT}{h:Ah}{a:Act}{fid:FuncId}{ops:List Oper}
def XA{s t:Ai}(h:s≠t):((⟨⟨s⟩⟩:ByteArray)==⟨⟨t⟩⟩)=false:=by
 refine Bool.eq_false_iff.2 λhc=>h ?_;have:=(MapKept.bytes_beq _ _).1 hc;injection this with this
 injection this with this
def RC(s:Ai):((⟨⟨s⟩⟩:ByteArray)==⟨⟨s⟩⟩)=true:=(MapKept.bytes_beq _ _).2 rfl
def mN{s:Ai}:∀{es:List (Aa×Aa)} {l:List MapEntry} {i:Nat} {r:Option Aa},Ll γ es l->Sf s es=some r->
  match r with
  |none=>Instr.findNow .string (.string ⟨⟨s⟩⟩) l i=some none
  |some v=>∃(j:Nat) (e:MapEntry),Instr.findNow .string (.string ⟨⟨s⟩⟩) l i=some (some (i+j,e.val))/\BQ γ v e.val
 |[],l,i,r,b,hf=>by rw[show l=[] from b];cases hf;rfl
 |(k,v)::es,l,i,r,b,hf=>by
  obtain⟨e,l',rfl,h1,h2,f⟩:=b;unfold Sf at hf;split at hf;.rename_i Ky;cases Ky
  .rename_i t v' Vw Ky;cases Ky;have hk:e.key= .string ⟨⟨t⟩⟩:=h1;split at hf;.rename_i HN;subst HN;cases hf;exact⟨0,e,by simp[Instr.findNow,hk,Instr.sameNow,RC],h2⟩
   .rename_i HN;have ih:=mN (i:=i+1) f hf;have hne:=XA HN;cases r with
    |none=>simpa[Instr.findNow,hk,Instr.sameNow,hne] using ih
    |some v2=>obtain⟨j,g,d,c⟩:=ih;exact⟨j+1,g,by simp only[Instr.findNow,hk,Instr.sameNow,hne];rw[d];congr 3;omega,c⟩
  .cases hf
def xQ{s:Ai}{v:Aa}{u:Value}(hv:BQ γ v u):∀{es Vw:List (Aa×Aa)} {l:List MapEntry} {i:Nat},Ll γ es l->Ny s v es=some Vw->
  (Instr.findNow .string (.string ⟨⟨s⟩⟩) l i=some none/\∀born,Ll γ Vw (l++[{key:= .string ⟨⟨s⟩⟩,val:=u,born}]))\/
  ∃j e,Instr.findNow .string (.string ⟨⟨s⟩⟩) l i=some (some (i+j,e.val))/\l[j]?=some e/\e.key= .string ⟨⟨s⟩⟩/\Ll γ Vw (l.modify j λe=>{e with key:= .string ⟨⟨s⟩⟩,val:=u})
 |[],Vw,l,i,d,hp=>by rw[show l=[] from d];cases hp;exact .inl ⟨rfl,λborn=>⟨_,[],rfl,rfl,hv,rfl⟩⟩
 |(k,v0)::es,Vw,l,i,d,hp=>by
  obtain⟨e,l',rfl,h1,h2,f⟩:=d;unfold Ny at hp;split at hp;.rename_i Ky;cases Ky
  .rename_i t v' o Ky;cases Ky;have hk:e.key= .string ⟨⟨t⟩⟩:=h1;split at hp;.rename_i HN;subst HN;cases hp;exact .inr ⟨0,e,by simp[Instr.findNow,hk,Instr.sameNow,RC],rfl,hk,_,l',rfl,rfl,hv,f⟩
   .rename_i HN;have hne:=XA HN;cases hq:Ny s v es with
    |none=>rw[hq] at hp;cases hp
    |some n=>
     rw[hq] at hp;cases hp;rcases xQ hv (i:=i+1) f hq with⟨c,b⟩|⟨j,p,c,b,m,g⟩
     .exact .inl ⟨by simpa[Instr.findNow,hk,Instr.sameNow,hne] using c,λborn=>⟨e,_,rfl,h1,h2,b born⟩⟩
     .exact .inr ⟨j+1,p,by simp only[Instr.findNow,hk,Instr.sameNow,hne];rw[c];congr 3;omega,b,m,e,_,AH,h1,h2,g⟩
  .cases hp
def TY{es:Array MapEntry}{clock:Nat}{k v:Value}(h:clock=es.size/\∀(i:Nat) (e:MapEntry),es[i]?=some e->e.born=i):
  clock+1=(es.push {key:=k,val:=v,born:=clock}).size/\∀(i:Nat) (e:MapEntry),(es.push {key:=k,val:=v,born:=clock})[i]?=some e->e.born=i:=by
 obtain⟨rfl,h⟩:=h;refine⟨AH,λi e he=>?_⟩;rw[ZV] at he;split at he;.rename_i hi;cases he;exact hi.symm
 .exact h i e he
def UK{es:Array MapEntry}{clock j:Nat}{f:MapEntry->MapEntry}(h:clock=es.size/\∀(i:Nat) (e:MapEntry),es[i]?=some e->e.born=i)(hf:∀e,(f e).born=e.born):
  clock=(es.modify j f).size/\∀(i:Nat) (e:MapEntry),(es.modify j f)[i]?=some e->e.born=i:=by
 refine⟨by simpa using h.1,λi e he=>?_⟩;rw[Ng] at he;split at he
 .cases hx:es[i]? with
  |none=>rw[hx] at he;cases he
  |some x=>rw[hx] at he;cases he;rw[hf];exact h.2 i x hx
 .exact h.2 i e he
def NH(hi:Hm γ h w){g id:Nat}{es Vw:List (Aa×Aa)}(SC:h[id]?=some (.map es))(hg:γ.mu id=some g){o:Obj}{ents':Array MapEntry}{clock':Nat}(hw:w.heap[g]?=some o)(hr:po γ Vw ents' clock'):
  Hm γ (h.set id (.map Vw)) {w with heap:=w.heap.setIfInBounds g (.map ents' clock')}/\Lm γ w γ {w with heap:=w.heap.setIfInBounds g (.map ents' clock')}:=by
 obtain⟨l,p,TH⟩:=hi.Mj id _ SC AH;rw[hg] at p;cases p;obtain⟨NB,c⟩:=MapKept.heap_set (o':= .map ents' clock') hw;have uniq:∀FN x,h[FN]?=some x->x≠ .CR->γ.mu FN=some g->FN=id:=λFN x hx e hm=>by obtain⟨b',p,q⟩:=hi.Mj FN x hx e;rw[hm] at p;cases p;rw[TH] at q;cases q;rfl
 constructor
 .refine⟨λb o v hb=>?_,λFN y Ie hy=>?_,λFN cs hc b hb=>?_,λFN f hc b hb=>?_,λFN b hb=>by simpa using hi.mu FN b hb,λb x hx=>?_,λb n hb=>?_⟩;rotate_left 5
  .obtain⟨⟨rH,j,pv,p,q⟩,r⟩:=hi.sz b n hb;have hne:b≠g:=λhe=>by subst he;obtain⟨i,d,k,_⟩:=hi.map id es SC b hg;rw[p] at k;cases k
   exact⟨⟨rH,j,pv,by rw[c b hne];exact p,q⟩,r⟩
  .obtain⟨p,q,r⟩:=hi.Iw b o v hb;have:b≠g:=λhe=>by subst he;rw[TH] at r;rcases r with r|⟨_,_,_,r,_⟩<;>cases r
   exact⟨by rw[CV (w:=w) (c b this)];exact p,q,r⟩
  .by_cases he:FN=id;.subst he;exact⟨g,hg,TH⟩
   .rw[Ao (λx=>he x.symm)] at Ie;exact hi.Mj FN y Ie hy
  .by_cases he:FN=id;.subst he;rw[AO (hi.mu _ _ hg)] at hc;cases hc
   .rw[Ao (λx=>he x.symm)] at hc;have Ru:b≠g:=λhx=>by subst hx;exact he (uniq FN _ hc AH hb)
    obtain⟨rH,j,pv,p,pf,q,r⟩:=hi.cells FN cs hc b hb;exact⟨rH,j,pv,by rw[c b Ru];exact p,pf,q,r⟩
  .by_cases he:FN=id;.subst he;rw[hg] at hb;cases hb;rw[AO (hi.mu _ _ hg)] at hc;cases hc;exact⟨ents',clock',NB,hr⟩
   .rw[Ao (λx=>he x.symm)] at hc;have Ru:b≠g:=λhx=>by subst hx;exact he (uniq FN _ hc AH hb)
    obtain⟨DE,clock,p,q⟩:=hi.map FN f hc b hb;exact⟨DE,clock,by rw[c b Ru];exact p,q⟩
  .have:=hi.Bu b x hx;simpa using this
 .refine⟨.refl _,AH,rfl,rfl,rfl,λb hb hn=>⟨?_,rfl⟩⟩;exact c b (λhe=>by subst he;exact hn id TH)
def RD(hr:Dh C γ0 w0 γ Z U h a w){x y z:Operand}{d c b:Aa}(ha:Bz C U [x,y,z]=some [d,c,b]):BQ γ d (a.eval x)/\BQ γ c (a.eval y)/\BQ γ b (a.eval z):=by obtain⟨_,_,_,e,h1,h2,f⟩:=(D1 hr ha).UF;simp only[Bl,Dn,E2,ML] at e;obtain⟨rfl,rfl,rfl⟩:=e;exact⟨h1,h2,f⟩
def mO{o:Oper}{t kt e:TypeId}{m k x:Operand}{n p g:Aa}{h':Ah}(ho:o.op= .insert t m k x\/o.op= .mapUpdate t m k x)(hd:o.dst=none)(ht:C.P.underlying t=some (.map kt e))(hk:C.P.underlying kt=some .string)(ha:Bz C U [m,k,x]=some [n,p,g])
  (hm:Q2 h n p g=some h') (hr:Dh C γ0 w0 γ Z U h a w):FW C γ0 w0 o a w U h':=by
 obtain⟨h1,h2,v⟩:=RD hr ha;have MU:∀w',(Instr.mapUpdate t (a.eval m) (a.eval k) (a.eval x)).run C.P w= .ok () w'->(execOp a.eval o).run C.P w= .ok .skip w':=λw' A3=>by rcases ho with ho|ho<;>simp[execOp,ho,A3]
 unfold Q2 at hm;split at hm
 .rename_i id s;obtain⟨b,hb,gg⟩:=h1;have c:a.eval k= .string ⟨⟨s⟩⟩:=h2;split at hm
  .rename_i es SC;cases hp:Ny s g es with
   |none=>rw[hp] at hm;cases hm
   |some Vw=>
    rw[hp] at hm;cases hm;obtain⟨DE,clock,hw,u,hB⟩:=hr.D6.map id es SC b hb;have gh:(Instr.checkKey false 10000 kt (.string ⟨⟨s⟩⟩)).run C.P w= .ok () w:=MapKept.run_checkKey (k:= .string ⟨⟨s⟩⟩) hk (by simp[MapKept.IsKey]) false 9999;rcases xQ v (i:=0) u hp with⟨f,l⟩|⟨j,en,f,l,r,q⟩
    .have A3:(Instr.mapUpdate t (a.eval m) (a.eval k) (a.eval x)).run C.P w= .ok () {w with heap:=w.heap.setIfInBounds b (.map (DE.push {key:= .string ⟨⟨s⟩⟩,val:=a.eval x,born:=clock}) (clock+1))}:=by rw[gg,c];simp[Instr.mapUpdate,run_underlying ht,MapKept.run_getObj_map hw,gh,MapKept.run_findKey hk f,MapKept.run_setObj_map _ hw,Result.andThen]
     obtain⟨hi,Kj⟩:=NH (Vw:=Vw) (ents':=DE.push {key:= .string ⟨⟨s⟩⟩,val:=a.eval x,born:=clock}) (clock':=clock+1) hr.D6 SC hb hw ⟨by simpa using l clock,TY hB⟩;exact FW.skip (MU _ A3) (by rw[hd];exact hr.Je hi Kj)
    .have hj:DE[j]?=some en:=by simpa using l
     rw[BV] at f;have A3:(Instr.mapUpdate t (a.eval m) (a.eval k) (a.eval x)).run C.P w= .ok () {w with heap:=w.heap.setIfInBounds b (.map (DE.modify j λe=>{e with key:= .string ⟨⟨s⟩⟩,val:=a.eval x}) clock)}:=by rw[gg,c];simp[Instr.mapUpdate,run_underlying ht,MapKept.run_getObj_map hw,gh,MapKept.run_findKey hk f,hj,r,MapKept.run_keyThatStays (d:= .string) (k:= .string ⟨⟨s⟩⟩) (by simp[MapKept.IsKey]),MapKept.run_setObj_map _ hw,Result.andThen]
     obtain⟨hi,Kj⟩:=NH (Vw:=Vw) (ents':=DE.modify j λe=>{e with key:= .string ⟨⟨s⟩⟩,val:=a.eval x}) (clock':=clock) hr.D6 SC hb hw ⟨by simpa using q,UK hB λ_=>rfl⟩;exact FW.skip (MU _ A3) (by rw[hd];exact hr.Je hi Kj)
  .cases hm
 .cases hm
def qo{o:Oper}{t:TypeId}(ho:o.op= .makeMap t none)(hr:Dh C γ0 w0 γ Z U h a w):FW C γ0 w0 o a w (U.put o.dst (.val (.map (some h.length)))) (h++[.map []]):=by
 obtain⟨hi,ha⟩:=GN hr.D6 (.map #[] 0) (.map []) none (.inr ⟨rfl,rfl,rfl⟩);have A3:(Instr.makeMap t none).run C.P w= .ok (.map (some w.heap.size)) (w.alloc (.map #[] 0)):=by simp[Instr.makeMap]
 exact FW.value (by simp only[execOp,ho];exact DK A3) ((hr.Je hi ha).put λ_ _=>⟨w.heap.size,by simp[Gh.B1],rfl⟩)
def K9(key elem:TypeId)(index:Value)(commaOk:Bool)(es:Array MapEntry):Sem Value:=do
 Instr.checkKey es.isEmpty 10000 key index
 let(v,ok)<-match<-Instr.findKey key index es.toList with
  |some (_,v)=>pure (v,true)
  |none=>pure (<-zeroValue elem,false)
 pure (if commaOk then .tuple #[v,.bool ok] else v)
def qp{o:Oper}{t kt e:TypeId}{m k:Operand}{d f z r:Aa}{ok:Bool}(ho:o.op= .lookup t m k ok)(ht:C.P.underlying t=some (.map kt e))(hk:C.P.underlying kt=some .string)(hz:Hb C.P e=some z)(ha:Bz C U [m,k]=some [d,f])(hm:Pq h z ok d f=some r)(hr:Dh C γ0 w0 γ Z U h a w):
  FW C γ0 w0 o a w (U.put o.dst (.val r)) h:=by
 obtain⟨_,_,e0,h1,h2⟩:=Fb hr ha;cases e0;obtain⟨l,ni,g⟩:=If hz;have HF:∀(es:Array MapEntry) (q:Option Aa),(Instr.lookup t (a.eval m) (a.eval k) ok).run C.P w=(K9 kt e (a.eval k) ok es).run C.P w->
   ∀s,a.eval k= .string ⟨⟨s⟩⟩->(match q with|none=>Instr.findNow .string (.string ⟨⟨s⟩⟩) es.toList 0=some none|some v=>∃(j:Nat) (e:MapEntry),Instr.findNow .string (.string ⟨⟨s⟩⟩) es.toList 0=some (some (0+j,e.val))/\BQ γ v e.val)->
   (match q with|some v=>if ok then Aa.tuple [v,.bool true] else v|none=>if ok then .tuple [z,.bool false] else z)=r->FW C γ0 w0 o a w (U.put o.dst (.val r)) h:=by
  intro es q SC s Ä hq UJ;have gh:(Instr.checkKey es.isEmpty 10000 kt (.string ⟨⟨s⟩⟩)).run C.P w= .ok () w:=MapKept.run_checkKey (k:= .string ⟨⟨s⟩⟩) hk (by simp[MapKept.IsKey]) es.isEmpty 9999;have A3:∃v,(Instr.lookup t (a.eval m) (a.eval k) ok).run C.P w= .ok v w/\BQ γ r v:=by
   cases q with
   |none=>
    refine⟨if ok then .tuple #[l,.bool false] else l,?_,?_⟩;.rw[SC,Ä];unfold K9;simp only[Sem.run_bind,Result.andThen_ok,gh,MapKept.run_findKey hk hq,g,Sem.run_bind,Sem.run_pure]
    .rw[<-UJ];have c:=Fu (γ:=γ) ni;cases ok with
     |true=>exact⟨_,rfl,_,_,rfl,c,_,_,rfl,rfl,rfl⟩
     |false=>exact c
   |some v=>
    obtain⟨j,en,p,n⟩:=hq;refine⟨if ok then .tuple #[en.val,.bool true] else en.val,?_,?_⟩;.rw[SC,Ä];unfold K9;simp only[Sem.run_bind,Result.andThen_ok,gh,MapKept.run_findKey hk p,Sem.run_bind,Sem.run_pure]
    .rw[<-UJ];cases ok with
     |true=>exact⟨_,rfl,_,_,rfl,n,_,_,rfl,rfl,rfl⟩
     |false=>exact n
  obtain⟨v,A3,xO⟩:=A3;exact FW.value (by simp only[execOp,ho];exact DK A3) (hr.put λ_ _=>xO)
 unfold Pq at hm;cases hf:TM h d f with
 |none=>rw[hf] at hm;cases hm
 |some q=>
  rw[hf] at hm;simp only[B0,BB] at hm;unfold TM at hf;split at hf;.rename_i s;cases hf;exact HF #[] none (by rw[show a.eval m=_ from h1];simp only[Instr.lookup,K9,Sem.run_bind,run_underlying ht,Result.andThen_ok,Sem.run_pure];rfl) s h2 rfl hm
  .rename_i id s;obtain⟨b,hb,gg⟩:=h1;split at hf;.rename_i es SC;obtain⟨DE,clock,hw,u,_⟩:=hr.D6.map id es SC b hb;exact HF DE q (by rw[gg];simp only[Instr.lookup,K9,Sem.run_bind,run_underlying ht,MapKept.run_getObj_map hw,Result.andThen_ok,Sem.run_pure];rfl) s h2 (mN (i:=0) u hf) hm
   .cases hf
  .cases hf
def XB{size:Nat}{v:Aa}(h:Pr size v=true):v= .slnil\/v= .Gf size\/v= .sl size []:=by
 unfold Pr at h;split at h;.exact .inl rfl
 .exact .inr (.inl (by simpa using h))
 .exact .inr (.inr (by simpa using h))
 .cases h
def gi{o:Oper}{c:Call}{t t' e:TypeId}{n b:Nat}{s x:Operand}{v u r:Aa}{h':Ah}(ho:o.op= .call c)(hc:c.callee= .builtin .append)(h0:c.argTypes[0]?=some t)(h1:c.argTypes[1]?=some t')(EP:c.args.toList=[s,x])(ht:C.P.underlying t=some (.slice e))
  (Gc:(∃H,C.P.underlying t'=some (.slice H))\/C.P.underlying t'=some .string) (K5:B4 C.P e=some (n+1)) (qj:Ke C.P e=some (b+1)) (FG:Lj C U s=true) (lL:Mh C.P e=true) (hv:Bz C U [s,x]=some [v,u])
  (hp:KK h (n+1) (b+1) v u=some (h',r)) (hr:Dh C γ0 w0 γ Z U h a w):FW C γ0 w0 o a w ((U.DU (Dv U s)).put o.dst (.val r)) h':=by
 obtain⟨i,z,hi,hz,cT⟩:=Lp lL;have QS:=JW K5 hi;have G:=LX qj hi;obtain⟨_,_,e0,hvs,qS⟩:=Fb hr hv;cases e0;have U_:E4 C U s=some v:=by
  unfold Bz at hv;split at hv;.rename_i p ps J L;cases hv;exact J
  .cases hv
 have Jf:Pr (n+1) v=true/\((∃AE,HY (n+1) (b+1) .slnil u=some (.sl (n+1) AE)/\AE≠[]/\u= .sl (n+1) AE/\AE.length*(b+1)<=AX/\h'=h++[.cells AE.flatten]/\r= .CF h.length 0 AE.length (n+1))\/((u= .slnil\/(∃B,u= .Gf B)\/∃B,u= .sl B [])/\h'=h/\r=v)):=by
  unfold KK at hp;split at hp
  .rename_i B AE;split at hp
   .rename_i Wc;refine⟨Wc,?_⟩;split at hp;.cases hp;exact .inr ⟨.inr (.inr ⟨_,rfl⟩),rfl,rfl⟩
    .rename_i hne;split at hp
     .rename_i H5;cases hp;obtain⟨rfl,hb⟩:=H5;refine .inl ⟨AE,?_,hne,rfl,hb,rfl,rfl⟩;cases AE with
      |nil=>exact absurd rfl hne
      |cons q AE=>simp only[HY,DO,BN];rw[Af hb]
     .cases hp
   .cases hp
  .split at hp;.rename_i Wc;cases hp;exact⟨Wc,.inr ⟨.inl rfl,rfl,rfl⟩⟩
   .cases hp
  .split at hp;.rename_i Wc;simp only[BC] at Wc;cases hp;exact⟨Wc.1,.inr ⟨.inr (.inl ⟨_,rfl⟩),rfl,rfl⟩⟩
   .cases hp
  .cases hp
 obtain⟨Wc,Jf⟩:=Jf;obtain⟨F,En,Kx,DJ,m⟩:=PE hr FG U_ (U.DU (Dv U s)).length none;have Ky:c.args.map a.eval=#[a.eval s,a.eval x]:=by apply HE;simp[EP]
 have MU:∀v' w',(Builtin.append_ #[t,t'] o.type #[a.eval s,a.eval x]).run C.P w= .ok v' w'->(execOp a.eval o).run C.P w= .ok (.value v') w':=λv' w' A3=>by
  have:execOp a.eval o=(do pure (Next.value (<-Builtin.append_ #[t,t'] o.type #[a.eval s,a.eval x]))):=by rw[<-Ky,<-Ou (ty:=o.type) h0 h1];simp only[execOp,ho,resolve,hc];rfl
  rw[this];exact DK A3
 have xR:(a.eval s= .slice none 0 0/\v= .slnil)\/(∃g cap us y,a.eval s= .slice (some ⟨g,0,none⟩) 0 cap/\v= .sl (n+1) []/\F.Bu g=some (.tail (U.DU (Dv U s)).length none 0)/\w0.heap.size<=g/\w.heap[g]?=some (.cells us y (0,0))/\us.size=cap*(n+1)/\cap<=maxLen)\/∃g,a.eval s= .slice (some ⟨g,0,none⟩) 0 0/\v= .Gf (n+1):=by
  rcases m with(m|⟨I,m⟩)|⟨g,k,cap,us,y,I,rr,rZ,JK,TH,hB,hg,Z0,X_,hm,K⟩
  .rw[m] at DJ;exact .inl ⟨DJ,m⟩
  .rcases XB Wc with xS|xS|xS
   .rw[xS] at m;cases m
   .rw[xS] at DJ;obtain⟨g,DJ⟩:=DJ;exact .inr (.inr ⟨g,DJ,xS⟩)
   .rw[xS] at m;cases m
  .rcases XB Wc with xS|xS|xS
   .rw[xS] at rZ;cases rZ
   .rw[xS] at rZ;cases rZ
   .rw[xS] at rZ;cases rZ;have hk:k=0:=by rw[xS,JK] at DJ;obtain⟨A,f,mL,_⟩:=DJ;simp only[Value.slice.injEq] at mL;exact mL.2.1
    subst hk;exact .inr (.inl ⟨g,cap,us,y,JK,xS,by simpa using TH,hB,hg,Z0,hm⟩)
 rcases Jf with⟨AE,Gv,hne,D,Qn,rfl,rfl⟩|⟨D,rfl,rfl⟩
 .obtain⟨d,news,PG,KB,aAv,qR⟩:=xP (w:=w) Gc hr.D6 qS Gv;have mP:d=AE:=by
   cases d with
   |nil=>simp[DO] at PG
   |cons q d=>
    simp only[DO] at PG;split at PG;.cases PG;rfl
    .cases PG
  subst mP;have qk:=Bj.mono En _ _ aAv;have Ki:Src C.P i.size t' (a.eval x) d.length news w:=by rw[QS];exact KB
  have OX:news.length=d.length*(n+1):=KB.newsLen;have Hp:d.flatten.length=news.length:=by rw[aAv.length]
  have hpos:0<d.length:=EH.2 hne;have Ru:d.length<=AX:=Bs (IQ _ (Dc b)) Qn;have JI:∀(base:Option Addr) (cap:Nat),a.eval s= .slice base 0 cap->(Builtin.firstCells i.size 0 (.slice base 0 cap)).run C.P w.drew= .ok #[] w.drew->cap<d.length->
    FW C γ0 w0 o a w ((U.DU (Dv U s)).put o.dst (.val (.CF h.length 0 d.length (n+1)))) (h++[.cells d.flatten]):=by
   intro base cap hs l hlt;have Gb:=run_append_grow_src (P:=C.P) w t t' o.type e i z ht hi hz base 0 cap [] l (a.eval x) d.length news Ki Ab (by simp only[AX] at Ru;omega) (by rw[G,BV];exact growslice_fits hlt Qn);rw[<-hs,BV] at Gb;have Eg:=grownCap_ge w d.length cap e;have UL:(([]++news).toArray++Builtin.zeroCells z.cells (grownCap w d.length cap e-d.length)).toList.take d.flatten.length=news:=by simp only[GW,BR];rw[Hp];exact FB
   have qq:(([]++news).toArray++Builtin.zeroCells z.cells (grownCap w d.length cap e-d.length)).size=grownCap w d.length cap e*(n+1):=by simp only[J8,B8,size_zeroCells,cT,QS,BR,OX,<-BH];congr 1;omega
   obtain⟨E,mJ,VC,LW,SD⟩:=Kx.drew.newObj (([]++news).toArray++Builtin.zeroCells z.cells (grownCap w d.length cap e-d.length)) e (0,0) d.flatten (.inl rfl) (by rw[UL];exact qk) (by rw[UL];exact KB.one);exact FW.value (MU _ _ Gb) (LW.put λ_ _=>⟨w.heap.size,_,VC,rfl,Eg,⟨Dc n,grownCap_le_maxLen w _ _ _ (by simp only[AX] at Ru;simp only[maxLen];omega)⟩,by rw[BV,<-qq];exact SD⟩)
  rcases xR with⟨JK,rfl⟩|⟨g,cap,us,y,JK,rfl,TH,hB,hg,Z0,Å⟩|⟨g,JK,rfl⟩
  rotate_left 2;.exact JI (some ⟨g,0,none⟩) 0 JK (by simpa using run_firstCells_some (P:=C.P) w.drew i.size 0 ⟨g,0,none⟩ 0 0 [] AH AH) hpos
  .exact JI none 0 JK (run_firstCells_none _ _ _ _ _) hpos
  .by_cases hroom:d.length<=cap
   .have hfit:news.length<=us.size:=by rw[OX,Z0];exact DY _ hroom
    have A3:=run_append_room_src (P:=C.P) w t t' o.type e i ht hi g 0 0 cap (a.eval x) d.length news Ki Ab (λj hj=>by rw[cell_of_row w _ _ us y (0,0) hg,QS,CX Ab];rfl) (λj hj=>frozen_of_row w _ _ us y hg)
    rw[MJ,BV,BV,EO news 0 us w hg Ab,<-JK] at A3;have UL:((us.toList.take 0++news++us.toList.drop (0+news.length)).toArray).toList.take d.flatten.length=news:=by simp only[Ku,BR];rw[Hp];exact FB
    obtain⟨E,mJ,VC,LW,SD⟩:=Kx.aFy TH hB hg (us.toList.take 0++news++us.toList.drop (0+news.length)).toArray d.flatten (by rw[UL];exact qk) (by rw[UL];exact KB.one);exact FW.value (MU _ _ A3) (LW.put λ_ _=>⟨g,cap,VC,rfl,hroom,⟨Dc n,Å⟩,by rw[SD,BV,<-Z0];simp;omega⟩)
   .exact JI (some ⟨g,0,none⟩) cap JK (by simpa using run_firstCells_some (P:=C.P) w.drew i.size 0 ⟨g,0,none⟩ 0 cap [] AH AH) Ab
 .have KB:Src C.P i.size t' (a.eval x) 0 [] w:=by
   rcases D with rfl|⟨B,rfl⟩|⟨B,rfl⟩
   .rw[show a.eval x=_ from qS];exact⟨Gc,λ_=>rfl,run_firstCells_none w _ 0 0 0,run_firstCells_none w.drew _ 0 0 0,AH,AH⟩
   .obtain⟨g0,mL⟩:=qS;rw[mL];exact⟨Gc,λ_=>rfl,by simpa using run_firstCells_some (P:=C.P) w i.size 0 ⟨g0,0,none⟩ 0 0 [] AH AH,by simpa using run_firstCells_some (P:=C.P) w.drew i.size 0 ⟨g0,0,none⟩ 0 0 [] AH AH,AH,AH⟩
   .obtain⟨A,f,mL,_⟩:=qS;rw[mL];exact⟨Gc,λ_=>rfl,by simpa using run_firstCells_some (P:=C.P) w i.size 0 A 0 f [] AH AH,by simpa using run_firstCells_some (P:=C.P) w.drew i.size 0 A 0 f [] AH AH,AH,AH⟩
  rcases xR with⟨JK,rfl⟩|⟨g,cap,us,y,JK,rfl,TH,hB,hg,Z0,Å⟩|⟨g,JK,rfl⟩
  rotate_left 2;.have A3:=run_append_room_src (P:=C.P) w t t' o.type e i ht hi g 0 0 0 (a.eval x) 0 [] KB Ab AH AH;rw[<-JK] at A3;simp only[World.setCells] at A3;exact FW.value (MU _ _ A3) (Kx.put λ_ _=>DJ)
  .have A3:(Builtin.append_ #[t,t'] o.type #[a.eval s,a.eval x]).run C.P w= .ok (.slice none 0 0) w:=by rw[JK];have hl:=KB.len;have We:=KB.cells;rcases Gc with⟨H,hk⟩|hk<;>simp[Builtin.append_,run_underlying ht,run_underlying hk,sizeOf,typeInfo,hi,hl,We]
   exact FW.value (MU _ _ A3) (Kx.put λ_ _=>rfl)
  .have A3:=run_append_room_src (P:=C.P) w t t' o.type e i ht hi g 0 0 cap (a.eval x) 0 [] KB Ab AH AH;rw[<-JK] at A3;simp only[World.setCells] at A3;exact FW.value (MU _ _ A3) (Kx.put λ_ _=>DJ)
def Dh.kill(hr:Dh C γ0 w0 γ Z U h a w)(id:Nat):Dh C γ0 w0 γ Z U (h.set id .CR) a w:=by
 have key:∀{FN:Nat} {x:DA},(h.set id .CR)[FN]?=some x->x≠ .CR->h[FN]?=some x:=λ{FN x} hx hd=>by
  by_cases he:id=FN
  .subst he;rw[aP5] at hx;simp only[BN] at hx;split at hx;.cases hx;exact absurd rfl hd
   .cases hx
  .rwa [Ao he] at hx
 exact⟨⟨hr.D6.Iw,λFN y Ie hy=>hr.D6.Mj FN y (key Ie hy) hy,λFN cs hc b hb=>hr.D6.cells FN cs (key hc AH) b hb,λFN es hc b hb=>hr.D6.map FN es (key hc AH) b hb,λFN b hb=>by simpa using hr.D6.mu FN b hb,hr.D6.Bu,hr.D6.sz⟩,hr.fr,hr.D0,hr.defers,hr.Ha⟩
def Dh.sB(hr:Dh C γ0 w0 γ Z U h a w){id g:Nat}{cs:List Aa}(hcs:h[id]?=some (.cells cs))(hg:γ.mu id=some g){us:Array Value}{e:TypeId}{fr:Nat×Nat}(hw:w.heap[g]?=some (.cells us e fr))(VD:γ.sz g=some us.size)(DT:Array Value)(GY:List Aa)(Z0:DT.size=us.size)(xJ:TT fr DT.size)
  (hv:Bj γ GY (DT.toList.take GY.length)) (h1:∀u∈DT.toList.take GY.length,u.oneCell'=true):∃γ',γ.le γ'/\γ'.mu h.length=some g/\Dh C γ0 w0 γ' Z U (h.set id .CR++[.cells GY]) a (w.setRow g DT)/\γ'.sz g=some us.size:=by
 obtain⟨i,p,TH⟩:=hr.D6.Mj id _ hcs AH;rw[hg] at p;cases p;have gj:id<h.length:=hr.D6.mu _ _ hg;have d:γ.mu h.length=none:=by
  cases hc:γ.mu h.length with
  |none=>rfl
  |some y=>exact absurd (hr.D6.mu _ y hc) (Dr _)
 have uniq:∀FN x,h[FN]?=some x->x≠ .CR->γ.mu FN=some g->FN=id:=λFN x hx c hm=>by obtain⟨b',p,q⟩:=hr.D6.Mj FN x hx c;rw[hm] at p;cases p;rw[TH] at q;cases q;rfl
 have En:γ.le (γ.B1 g h.length (some us.size)):=⟨λ_ _ _ hv=>hv,λFN b hm=>by
  have:FN≠h.length:=λhe=>by rw[he,d] at hm;cases hm
  simp only[Gh.B1,Ad this];exact hm,λb n hm=>by
  by_cases he:b=g;.subst he;rw[VD] at hm;cases hm;simp[Gh.B1]
  .simp only[Gh.B1,Ad he];exact hm⟩
 have old:∀{FN:Nat} {x:DA},(h.set id .CR++[DA.cells GY])[FN]?=some x->x≠ .CR->FN≠h.length->h[FN]?=some x/\FN≠id:=λ{FN x} hx hd hne=>by
  have hlt:FN<(h.set id .CR).length:=by rw[Ak] at hx;obtain⟨hl,_⟩:=hx;simp at hl⊢;omega
  rw[Aj hlt] at hx;by_cases he:id=FN;.subst he;rw[AO (by simpa using hlt)] at hx;cases hx;exact absurd rfl hd
  .rw[Ao he] at hx;exact⟨hx,λh=>he h.symm⟩
 have aKV:Hm (γ.B1 g h.length (some us.size)) (h.set id .CR++[.cells GY]) (w.setRow g DT):=by
  refine⟨λb o v hb=>?_,λFN y Ie hy=>?_,λFN SE hc b hb=>?_,λFN es hc b hb=>?_,λFN b hb=>?_,λb y hy=>?_,λb n hb=>?_⟩
  .obtain⟨p,q,r⟩:=hr.D6.Iw b o v hb;have Oj:b≠g:=λhe=>by subst he;rw[TH] at r;rcases r with r|⟨_,_,_,r,_⟩<;>cases r
   exact⟨by rw[CV (setRow_other w g b DT Oj)];exact p,q,by simp only[Gh.B1,Ad Oj];exact r⟩
  .by_cases he:FN=h.length;.exact⟨g,by simp[Gh.B1,he],by simp[Gh.B1,he]⟩
   .obtain⟨gl,hne⟩:=old Ie hy he;obtain⟨b,p,q⟩:=hr.D6.Mj FN y gl hy;have Oj:b≠g:=λhx=>by subst hx;exact hne (uniq FN y gl hy p)
    exact⟨b,by simp only[Gh.B1,Ad he];exact p,by simp only[Gh.B1,Ad Oj];exact q⟩
  .by_cases he:FN=h.length;.subst he;simp[Gh.B1] at hb;subst hb;rw[Bm AH] at hc;simp at hc;subst hc;exact⟨DT,e,fr,setRow_heap w g us DT e fr hw,xJ,Bj.mono En _ _ hv,h1⟩
   .simp only[Gh.B1,Ad he] at hb;obtain⟨I0,hne⟩:=old hc AH he;have Oj:b≠g:=λhx=>by subst hx;exact hne (uniq FN _ I0 AH hb)
    obtain⟨rH,f,pv,p,pf,q,r⟩:=hr.D6.cells FN SE I0 b hb;exact⟨rH,f,pv,by rw[setRow_other w g b DT Oj];exact p,pf,Bj.mono En _ _ q,r⟩
  .by_cases he:FN=h.length;.subst he;rw[Bm AH] at hc;simp at hc
   .simp only[Gh.B1,Ad he] at hb;obtain⟨I0,hne⟩:=old hc AH he;have Oj:b≠g:=λhx=>by subst hx;exact hne (uniq FN _ I0 AH hb)
    obtain⟨DE,clock,p,q⟩:=hr.D6.map FN es I0 b hb;exact⟨DE,clock,by rw[setRow_other w g b DT Oj];exact p,q.mono En⟩
  .by_cases he:FN=h.length;.simp[he]
   .simp only[Gh.B1,Ad he] at hb;have:=hr.D6.mu FN b hb;simp;omega
  .by_cases Oj:b=g;.subst Oj;have:=hr.D6.Bu _ _ TH;simpa[World.setRow] using this
   .simp only[Gh.B1,Ad Oj] at hy;have:=hr.D6.Bu b y hy;simpa[World.setRow] using this
  .by_cases he:b=g;.subst he;simp only[Gh.B1,BN] at hb;cases hb;exact⟨⟨DT,e,fr,setRow_heap w b us DT e fr hw,Z0⟩,.inr ⟨h.length,by simp[Gh.B1]⟩⟩
   .simp only[Gh.B1,Ad he] at hb⊢;obtain⟨p,r⟩:=hr.D6.sz b n hb;exact⟨by rw[setRow_other w g b DT he];exact p,r⟩
 refine⟨_,En,by simp[Gh.B1],hr.Je aKV ⟨En,by simp[World.setRow],rfl,rfl,rfl,λb hb hn=>?_⟩,by simp[Gh.B1]⟩;have Oj:b≠g:=λhe=>by subst he;exact hn id TH
 exact⟨setRow_other w g b DT Oj,by simp only[Gh.B1,Ad Oj]⟩
def qt{o:Oper}{c:Call}{t t' e:TypeId}{n b:Nat}{s x:Operand}{v u r:Aa}{h':Ah}(ho:o.op= .call c)(hc:c.callee= .builtin .append)(h0:c.argTypes[0]?=some t)(h1:c.argTypes[1]?=some t')(EP:c.args.toList=[s,x])(ht:C.P.underlying t=some (.slice e))
  (Gc:(∃N,C.P.underlying t'=some (.slice N))\/C.P.underlying t'=some .string) (K5:B4 C.P e=some (n+1)) (qj:Ke C.P e=some (b+1)) (lL:Mh C.P e=true) (hv:Bz C U [s,x]=some [v,u])
  (hp:Gb h (n+1) (b+1) v u=some (h',r)) (hr:Dh C γ0 w0 γ Z U h a w):FW C γ0 w0 o a w (U.put o.dst (.val r)) h':=by
 obtain⟨i,z,hi,hz,cT⟩:=Lp lL;have QS:=JW K5 hi;have J:=LX qj hi;obtain⟨_,_,e0,hvs,qS⟩:=Fb hr hv;cases e0;have Ky:c.args.map a.eval=#[a.eval s,a.eval x]:=by apply HE;simp[EP]
 have MU:∀v' w',(Builtin.append_ #[t,t'] o.type #[a.eval s,a.eval x]).run C.P w= .ok v' w'->(execOp a.eval o).run C.P w= .ok (.value v') w':=λv' w' A3=>by
  have:execOp a.eval o=(do pure (Next.value (<-Builtin.append_ #[t,t'] o.type #[a.eval s,a.eval x]))):=by rw[<-Ky,<-Ou (ty:=o.type) h0 h1];simp only[execOp,ho,resolve,hc];rfl
  rw[this];exact DK A3
 unfold Gb at hp;cases hq:GZ h (n+1) u with
 |none=>rw[hq] at hp;cases hp
 |some AE=>
  rw[hq] at hp;obtain⟨news,KB,Wc,qR⟩:=Xx (w:=w) Gc hr.D6 qS hq;have Ki:Src C.P i.size t' (a.eval x) AE.length news w:=by rw[QS];exact KB
  have OX:news.length=AE.length*(n+1):=KB.newsLen;have Hp:AE.flatten.length=news.length:=by rw[Wc.length]
  cases AE with
  |nil=>
   have xK:news=[]:=Dy (by simpa using OX);subst xK;cases v with
   |slnil=>
    cases hp;have JK:a.eval s= .slice none 0 0:=hvs;have A3:(Builtin.append_ #[t,t'] o.type #[a.eval s,a.eval x]).run C.P w= .ok (.slice none 0 0) w:=by rw[JK];have hl:=Ki.len;have We:=Ki.cells;simp only[BJ] at hl We;rcases Gc with⟨N,hk⟩|hk<;>simp[Builtin.append_,run_underlying ht,run_underlying hk,sizeOf,typeInfo,hi,hl,We]
    exact FW.value (MU _ _ A3) (hr.put λ_ _=>rfl)
   |Gf E=>
    simp only at hp;split at hp;.cases hp;obtain⟨g,JK⟩:=(show BQ γ _ _ from hvs);have A3:=run_append_room_src (P:=C.P) w t t' o.type e i ht hi g 0 0 0 (a.eval x) 0 [] Ki Ab AH AH;rw[<-JK] at A3;simp only[World.setCells,Bv] at A3;exact FW.value (MU _ _ A3) (hr.put λ_ _=>⟨g,JK⟩)
    .cases hp
   |CF id off k E=>
    simp only at hp;split at hp;.cases hp;obtain⟨g,cap,hg,JK,X_,ng,VD⟩:=(show BQ γ _ _ from hvs);have A3:=run_append_room_src (P:=C.P) w t t' o.type e i ht hi g off k cap (a.eval x) 0 [] Ki Ab AH AH;rw[<-JK] at A3;simp only[World.setCells,Bv] at A3;exact FW.value (MU _ _ A3) (hr.put λ_ _=>⟨g,cap,hg,rfl,X_,ng,VD⟩)
    .cases hp
   |_=>cases hp
  |cons O l=>
   generalize hR:O::l=AE at*;have hpos:0<AE.length:=by rw[<-hR];simp
   have d:∀(h2:Ah) (base:Option Addr) (k cap:Nat) (Zx:List Aa) (olds:List Value),Dh C γ0 w0 γ Z U h2 a w->a.eval s= .slice base k cap->Bj γ Zx olds->olds.length=k*(n+1)->(∀q∈olds,q.oneCell'=true)->
     (Builtin.firstCells i.size k (.slice base k cap)).run C.P w.drew= .ok olds.toArray w.drew->cap<k+AE.length->(k+AE.length)*(b+1)<=AX->
     FW C γ0 w0 o a w (U.put o.dst (.val (.CF h2.length 0 (k+AE.length) (n+1)))) (h2++[.cells (Zx++AE.flatten)]):=by
    intro h2 base k cap Zx olds LW hs aFA nh I f hlt Qn;have Ru:k+AE.length<=AX:=Bs (IQ _ (Dc b)) Qn;have Gb:=run_append_grow_src (P:=C.P) w t t' o.type e i z ht hi hz base k cap olds f (a.eval x) AE.length news Ki hlt (by simp only[AX] at Ru;omega) (by rw[J];exact growslice_fits hlt Qn);rw[<-hs] at Gb;have Eg:=grownCap_ge w (k+AE.length) cap e;have fy:(olds++news).length=(k+AE.length)*(n+1):=by rw[Au,nh,OX,BH]
    have lJ:(Zx++AE.flatten).length=(olds++news).length:=by rw[Au,Au,aFA.length,Hp]
    have qq:((olds++news).toArray++Builtin.zeroCells z.cells (grownCap w (k+AE.length) cap e-(k+AE.length))).size=grownCap w (k+AE.length) cap e*(n+1):=by simp only[J8,B8,size_zeroCells,cT,QS,fy,<-BH];congr 1;omega
    have UL:((olds++news).toArray++Builtin.zeroCells z.cells (grownCap w (k+AE.length) cap e-(k+AE.length))).toList.take (Zx++AE.flatten).length=olds++news:=by simp only[GW];rw[lJ];exact FB
    obtain⟨D,mJ,VC,H,SD⟩:=LW.drew.newObj ((olds++news).toArray++Builtin.zeroCells z.cells (grownCap w (k+AE.length) cap e-(k+AE.length))) e (0,0) (Zx++AE.flatten) (.inl rfl) (by rw[UL];exact aFA.append Wc) (by rw[UL];intro q hq;exact(Ax.1 hq).elim (I q) (KB.one q))
    exact FW.value (MU _ _ Gb) (H.put λ_ _=>⟨w.heap.size,_,VC,rfl,Eg,⟨Dc n,grownCap_le_maxLen w _ _ _ (by simp only[AX] at Ru;simp only[maxLen];omega)⟩,by rw[BV,<-qq];exact SD⟩)
   cases v with
   |slnil=>
    have JK:a.eval s= .slice none 0 0:=hvs;rw[<-hR] at hp;simp only at hp;rw[hR] at hp;split at hp;.rename_i Qn;cases hp;have:=d h none 0 0 [] [] hr JK rfl AH AH (run_firstCells_none _ _ _ _ _) Ab (by simpa using Qn);simpa using this
    .cases hp
   |Gf E=>
    obtain⟨g,JK⟩:=(show BQ γ _ _ from hvs);rw[<-hR] at hp;simp only at hp;rw[hR] at hp;split at hp;.rename_i Qn;cases hp;have:=d h (some ⟨g,0,none⟩) 0 0 [] [] hr JK rfl AH AH (by simpa using run_firstCells_some (P:=C.P) w.drew i.size 0 ⟨g,0,none⟩ 0 0 [] AH AH) Ab (by simpa using Qn.2);simpa using this
    .cases hp
   |CF id off k E=>
    rw[<-hR] at hp;simp only at hp;rw[hR] at hp;split at hp
    .rename_i cs hcs;split at hp
     .rename_i G;subst G;obtain⟨g,cap,hg,JK,X_,ng,VD⟩:=(show BQ γ _ _ from hvs);obtain⟨us,M,fr,m,pf,B,A⟩:=hr.D6.cells id cs hcs g hg;obtain⟨⟨nc,S,R,K,F⟩,_⟩:=hr.D6.sz g _ VD;rw[m] at K;cases K;have lK:cs.length<=us.size:=by have:=B.length;simp at this;omega
      have NF:∀j,(⟨g,off,none⟩:Addr).add j=⟨g,off+j,none⟩:=λj=>by unfold Addr.add;split<;>simp_all
      have p:∀o,o<us.size->w.frozen? ⟨g,o,none⟩=false:=λo ho=>by
       simp only[World.frozen?,m];rcases pf with rfl|xJ
       .simp
       .simp;omega
      have room:k+AE.length<=cap->(Builtin.append_ #[t,t'] o.type #[a.eval s,a.eval x]).run C.P w= .ok (.slice (some ⟨g,off,none⟩) (k+AE.length) cap) (w.setRow g (us.toList.take (off+k*(n+1))++news++us.toList.drop (off+k*(n+1)+news.length)).toArray)/\off+k*(n+1)+news.length<=us.size:=by
       intro hroom;have hfit:off+k*(n+1)+news.length<=us.size:=by rw[OX,F,R4,<-BH];exact Nat.add_le_add_left (DY _ hroom) _
       have A3:=run_append_room_src (P:=C.P) w t t' o.type e i ht hi g off k cap (a.eval x) AE.length news Ki hroom (λj hj=>by rw[cell_of_row w _ _ us M fr m,QS,CX Ab];rfl) (λj hj=>by rw[QS];exact p _ Ab)
       rw[QS,EO news _ us w m hfit,<-JK] at A3;exact⟨A3,hfit⟩
      have Zp:(k+AE.length)*(n+1)=k*(n+1)+AE.length*(n+1):=BH _ _ _;split at hp
      .rename_i VE;cases hp;have hroom:k+AE.length<=cap:=by have Q:(k+AE.length)*(n+1)<=cap*(n+1):=Ab;exact Nat.le_of_mul_le_mul_right Q (Dc n)
       obtain⟨A3,hfit⟩:=room hroom;have L:off+(k+AE.length)*(n+1)=off+k*(n+1)+news.length:=by rw[OX,Zp];omega
       have hcl:(cs.take (off+k*(n+1))++AE.flatten++cs.drop (off+(k+AE.length)*(n+1))).length=cs.length:=by rw[L,Au,Au,Aw,Bd,Hp];omega
       have UL:((us.toList.take (off+k*(n+1))++news++us.toList.drop (off+k*(n+1)+news.length)).toArray).toList.take (cs.take (off+k*(n+1))++AE.flatten++cs.drop (off+(k+AE.length)*(n+1))).length=
         (us.toList.take cs.length).take (off+k*(n+1))++news++(us.toList.take cs.length).drop (off+k*(n+1)+news.length):=by
        rw[hcl];simp only[KV];exact M0 (by simpa using lK) Ab rfl
       obtain⟨Wf,Pb⟩:=NA hr.D6 hcs hg m (us.toList.take (off+k*(n+1))++news++us.toList.drop (off+k*(n+1)+news.length)).toArray (cs.take (off+k*(n+1))++AE.flatten++cs.drop (off+(k+AE.length)*(n+1)))
        (by simp only[B8,Au,Aw,Bd,Ch];omega)
        (by
         rcases pf with rfl|pf
         .exact .inl rfl
         .refine .inr (Bs (MI ?_) pf);simp only[B8,Au,Aw,Bd,Ch];omega)
        (by rw[UL,L];exact Oq B Wc)
        (by
         rw[UL];intro q hq;rcases Ax.1 hq with hq|hq
         .rcases Ax.1 hq with hq|hq
          .exact A q (Bp hq)
          .exact KB.one q hq
         .exact A q (Bw hq))
       exact FW.value (MU _ _ A3) ((hr.Je Wf Pb).put λ_ _=>⟨g,cap,hg,rfl,hroom,ng,VD⟩)
      .rename_i aQq;split at hp
       .rename_i H5;obtain⟨rfl,Ql,Qn⟩:=H5;cases hp;simp only[BV] at*;by_cases hroom:k+AE.length<=cap
        .obtain⟨A3,hfit⟩:=room hroom;have lJ:(cs.take (k*(n+1))++AE.flatten).length=k*(n+1)+news.length:=by rw[Au,Aw,Hp];omega
         have UL:((us.toList.take (k*(n+1))++news++us.toList.drop (k*(n+1)+news.length)).toArray).toList.take (cs.take (k*(n+1))++AE.flatten).length=(us.toList.take cs.length).take (k*(n+1))++news:=by
          rw[lJ];simp only[KV];have:(us.toList.take (k*(n+1))++news).length=k*(n+1)+news.length:=by rw[Au,Aw,Ch];omega
          rw[<-this,FB,FA,Cs Ql]
         obtain⟨D,mJ,VC,LW,SD⟩:=hr.sB hcs hg m (by rw[VD,F]) (us.toList.take (k*(n+1))++news++us.toList.drop (k*(n+1)+news.length)).toArray (cs.take (k*(n+1))++AE.flatten)
          (by simp only[B8,Au,Aw,Bd,Ch];omega)
          (by
           rcases pf with rfl|pf
           .exact .inl rfl
           .refine .inr (Bs (MI ?_) pf);simp only[B8,Au,Aw,Bd,Ch];omega)
          (by rw[UL];exact(B.take _).append Wc)
          (by
           rw[UL];intro q hq;rcases Ax.1 hq with hq|hq
           .exact A q (Bp hq)
           .exact KB.one q hq)
         exact FW.value (MU _ _ A3) (LW.put λ_ _=>⟨g,cap,VC,rfl,hroom,ng,by rw[SD,F];simp⟩)
        .have nh:((us.toList.take cs.length).take (k*(n+1))).length=k*(n+1):=Ei;have:=d (h.set id .CR) (some ⟨g,0,none⟩) k cap (cs.take (k*(n+1))) ((us.toList.take cs.length).take (k*(n+1))) (hr.kill id) JK (B.take _) nh (λq hq=>A q (Bp hq))
          (by
           rw[QS];exact run_firstCells_some w.drew _ _ _ _ _ _ nh (λj y hj=>by
            rw[NF];show w.cell? _=_;rw[cell_of_row w _ _ us M fr m];rw[Ci] at hj;split at hj
            .rw[Ci] at hj;split at hj;.simpa using hj
             .cases hj
            .cases hj)) Ab Qn
         simpa using this
       .cases hp
     .cases hp
    .cases hp
   |_=>rw[<-hR] at hp;cases hp
def mQ(hi:Hm γ h w){id g off:Nat}{cs b:List Aa}{news:List Value}(hcs:h[id]?=some (.cells cs))(hg:γ.mu id=some g)(hv:Bj γ b news)(h1:∀u∈news,u.oneCell'=true)(hl:off+b.length<=cs.length):
  ∃w',(storeCells ⟨g,off,none⟩ news).run C.P w= .ok () w'/\Hm γ (h.set id (.cells (cs.take off++b++cs.drop (off+b.length)))) w'/\Lm γ w γ w':=by
 obtain⟨us,e,fr,hw,pf,d,c⟩:=hi.cells id cs hcs g hg;have OX:news.length=b.length:=hv.length;have hlt:cs.length<=us.size:=by have:=d.length;simp at this;omega
 have hs:=run_storeCells_cells (P:=C.P) g off news 0 w (λj hj=>by
  rw[cell_of_row w _ _ us e fr hw,Bv,CX Ab];rfl) (λj hj=>by
  simp only[World.frozen?,hw];rcases pf with rfl|xJ
  .simp
  .simp;omega) h1
 rw[Bv,EO _ off us w hw Ab] at hs;have hcl:(cs.take off++b++cs.drop (off+b.length)).length=cs.length:=Ei;have UL:((us.toList.take off++news++us.toList.drop (off+news.length)).toArray).toList.take (cs.take off++b++cs.drop (off+b.length)).length=(us.toList.take cs.length).take off++news++(us.toList.take cs.length).drop (off+news.length):=by rw[hcl];simp only[KV];exact M0 (by simpa using hlt) Ab rfl
 obtain⟨qu,ha⟩:=NA hi hcs hg hw (us.toList.take off++news++us.toList.drop (off+news.length)).toArray (cs.take off++b++cs.drop (off+b.length))
  (by simp only[B8,Au,Aw,Bd,Ch];omega)
  (by
   rcases pf with rfl|pf
   .exact .inl rfl
   .refine .inr (Bs (MI ?_) pf);simp only[B8,Au,Aw,Bd,Ch];omega)
  (by rw[UL,OX];exact Oq d hv)
  (by
   rw[UL];intro q hq;rcases Ax.1 hq with hq|hq
   .rcases Ax.1 hq with hq|hq
    .exact c q (Bp hq)
    .exact h1 q hq
   .exact c q (Bw hq))
 exact⟨_,hs,qu,ha⟩
def sC{t t' ty:TypeId}{ts:Array TypeId}{xs:Array Value}(h0:ts[0]?=some t)(h1:ts[1]?=some t'):Builtin.copy_ ts ty xs=Builtin.copy_ #[t,t'] ty xs:=by simp only[Builtin.copy_,h0];rfl
def mR{P:Program}{t t' ty e:TypeId}{i:TypeInfo}(ht:P.underlying t=some (.slice e))(hi:P.info? e=some i){x:Value}{n:Nat}{news:List Value}(hs:Src P i.size t' x n news w){base:Option Addr}{k cap:Nat}(hk:n<=k)
  (HN:∀b,base=some b->(storeCells b news).run P w= .ok () w') (Zi:base=none->w'=w):(Builtin.copy_ #[t,t'] ty #[.slice base k cap,x]).run P w= .ok (.int .i64 n) w':=by
 have hl:=hs.len w;have hc:=hs.cells;have hm:Nat.min n k=n:=Cs hk;cases base with
 |none=>cases Zi rfl;simp[Builtin.copy_,run_underlying ht,hl,hc,sizeOf,typeInfo,hi,hm,goInt]
 |some b=>have h2:=HN b rfl;simp[Builtin.copy_,run_underlying ht,hl,hc,sizeOf,typeInfo,hi,hm,goInt,h2]
def qv{o:Oper}{c:Call}{t t' e:TypeId}{n:Nat}{s x:Operand}{v u r:Aa}{h':Ah}(ho:o.op= .call c)(hc:c.callee= .builtin .copy)(h0:c.argTypes[0]?=some t)(h1:c.argTypes[1]?=some t')(EP:c.args.toList=[s,x])(ht:C.P.underlying t=some (.slice e))
  (Gc:(∃f,C.P.underlying t'=some (.slice f))\/C.P.underlying t'=some .string) (K5:B4 C.P e=some (n+1)) (hv:Bz C U [s,x]=some [v,u])
  (hp:wW h (n+1) v u=some (h',r)) (hr:Dh C γ0 w0 γ Z U h a w):FW C γ0 w0 o a w (U.put o.dst (.val r)) h':=by
 obtain⟨_,_,e0,hvs,qS⟩:=Fb hr hv;cases e0;have Ky:c.args.map a.eval=#[a.eval s,a.eval x]:=by apply HE;simp[EP]
 have MU:∀v' w',(Builtin.copy_ #[t,t'] o.type #[a.eval s,a.eval x]).run C.P w= .ok v' w'->(execOp a.eval o).run C.P w= .ok (.value v') w':=λv' w' A3=>by
  have:execOp a.eval o=(do pure (Next.value (<-Builtin.copy_ #[t,t'] o.type #[a.eval s,a.eval x]))):=by rw[<-Ky,<-sC (ty:=o.type) h0 h1];simp only[execOp,ho,resolve,hc];rfl
  rw[this];exact DK A3
 cases hi:C.P.info? e with
 |none=>simp[B4,hi] at K5
 |some i=>
 have QS:=JW K5 hi;unfold wW at hp;cases hq:GZ h (n+1) u with
 |none=>rw[hq] at hp;cases hp
 |some AE=>
  rw[hq] at hp;obtain⟨news,KB,Wc,qR⟩:=Xx (w:=w) Gc hr.D6 qS hq;have Ki:Src C.P i.size t' (a.eval x) AE.length news w:=by rw[QS];exact KB
  have OX:news.length=AE.length*(n+1):=KB.newsLen;have Hp:AE.flatten.length=news.length:=by rw[Wc.length]
  simp only at hp;split at hp
  .split at hp;.rename_i Zy;cases hp;have JK:a.eval s= .slice none 0 0:=hvs;have A3:=mR (t:=t) (ty:=o.type) (w:=w) (w':=w) ht hi Ki (base:=none) (k:=0) (cap:=0) Ab (λ_ e=>by cases e) (λ_=>rfl);rw[<-JK] at A3;rw[Zy] at A3;exact FW.value (MU _ _ A3) (hr.put λ_ _=>rfl)
   .cases hp
  .rename_i id off k z;split at hp
   .rename_i cs hcs;split at hp;.rename_i H5;obtain⟨rfl,b,hlen⟩:=H5;cases hp;obtain⟨g,cap,hg,JK,X_,ng,VD⟩:=(show BQ γ _ _ from hvs);have hm:=DY (n+1) b;obtain⟨w',HN,qu,d⟩:=mQ (C:=C) (off:=off) hr.D6 hcs hg Wc KB.one Ab;have A3:=mR (t:=t) (ty:=o.type) (w:=w) (w':=w') ht hi Ki (base:=some ⟨g,off,none⟩) (k:=k) (cap:=cap) b (λ_ e=>by cases e;exact HN) (λe=>by cases e);rw[<-JK] at A3;rw[show AE.length*(n+1)=AE.flatten.length by rw[Hp,OX]];exact FW.value (MU _ _ A3) ((hr.Je qu d).put λ_ _=>rfl)
    .cases hp
   .cases hp
  .cases hp
def mS{t ty:TypeId}{ts:Array TypeId}{xs:Array Value}(h0:ts[0]?=some t):Builtin.clear_ ts ty xs=Builtin.clear_ #[t] ty xs:=by simp only[Builtin.clear_,h0];rfl
def gm{o:Oper}{c:Call}{t e:TypeId}{n:Nat}{s:Operand}{v z r:Aa}{h':Ah}(ho:o.op= .call c)(hc:c.callee= .builtin .clear)(h0:c.argTypes[0]?=some t)(EP:c.args.toList=[s])(ht:C.P.underlying t=some (.slice e))
  (K5:B4 C.P e=some (n+1)) (hz:Hb C.P e=some z) (hv:Bz C U [s]=some [v]) (hp:WZ h (n+1) z.cells v=some (h',r)) (hr:Dh C γ0 w0 γ Z U h a w):FW C γ0 w0 o a w (U.put o.dst .undef) h':=by
 obtain⟨_,e0,hvs⟩:=GO hr hv;cases e0;have Ky:c.args.map a.eval=#[a.eval s]:=by apply HE;simp[EP]
 have MU:∀v' w',(Builtin.clear_ #[t] o.type #[a.eval s]).run C.P w= .ok v' w'->(execOp a.eval o).run C.P w= .ok (.value v') w':=λv' w' A3=>by
  have:execOp a.eval o=(do pure (Next.value (<-Builtin.clear_ #[t] o.type #[a.eval s]))):=by rw[<-Ky,<-mS (ty:=o.type) h0];simp only[execOp,ho,resolve,hc];rfl
  rw[this];exact DK A3
 unfold WZ at hp;split at hp
 .cases hp;have JK:a.eval s= .slice none 0 0:=hvs;have A3:(Builtin.clear_ #[t] o.type #[a.eval s]).run C.P w= .ok (.tuple #[]) w:=by rw[JK];simp[Builtin.clear_,run_underlying ht]
  exact FW.value (MU _ _ A3) (hr.put λ_ _=>trivial)
 .rename_i id off k E;split at hp
  .rename_i cs hcs;split at hp
   .rename_i H5;obtain⟨rfl,f,hlen⟩:=H5;cases hp;obtain⟨g,cap,hg,JK,X_,ng,VD⟩:=(show BQ γ _ _ from hvs);obtain⟨d,ni,l⟩:=If hz;obtain⟨y,A⟩:=Ht (γ:=γ) (Fu ni) Ab;have cT:d.cells.size=n+1:=by have:=y.length;simp at this;omega
    have Hp:(List.replicate k z.cells).flatten.length=k*(n+1):=by rw[Hv (z:=n+1) (λr hr=>by rw[aAb hr,f]),FV]
    have i:∀(j:Nat) (u:Value),(Builtin.zeroCells d.cells k).toList[j]?=some u->j<k*(n+1)/\d.cells.toList[j%(n+1)]?=some u:=by
     intro j u hj;have aD:j<k*(n+1):=by have:=(Ak.1 hj).1;simpa[size_zeroCells,cT] using this
     refine⟨aD,?_⟩;have aBV:j%(n+1)<d.cells.size:=by rw[cT];exact Nat.mod_lt _ (Dc n)
     simp only[Builtin.zeroCells,Nt,Cm] at hj;have b:(Array.range (k*d.cells.size)).toList[j]?=some j:=by simp[cT,aD]
     rw[b] at hj;simp only[B0,BB] at hj;rw[cT] at hj;rw[<-hj];simp[aBV]
    have B:Bj γ (List.replicate k z.cells).flatten (Builtin.zeroCells d.cells k).toList:=by refine Bj.Hd (by simp only[Ch,size_zeroCells,cT,Hp]) λj x u hx hu=>?_;obtain⟨aD,p⟩:=i j u hu;rw[Ik z.cells _ _ (by rw[f];exact aD),f] at hx;obtain⟨F,xL,m⟩:=y.get hx;rw[p] at xL;cases xL;exact m
    obtain⟨w',HN,qu,q⟩:=mQ (C:=C) (off:=off) hr.D6 hcs hg B (λu hu=>by obtain⟨j,hj⟩:=CU hu;exact A u (CD (i j u hj).2)) Ab
    have A3:(Builtin.clear_ #[t] o.type #[a.eval s]).run C.P w= .ok (.tuple #[]) w':=by
     rw[JK];cases k with
     |zero=>
      have D:(Builtin.zeroCells d.cells 0).toList=[]:=by simp[Builtin.zeroCells]
      rw[D] at HN;have:w'=w:=by have h2:(storeCells ⟨g,off,none⟩ []).run C.P w= .ok () w:=rfl;rw[h2] at HN;cases HN;rfl
      rw[this];simp[Builtin.clear_,run_underlying ht]
     |succ k=>simp[Builtin.clear_,run_underlying ht,l,HN]
    rw[show k*(n+1)=(List.replicate k z.cells).flatten.length from Hp.symm];exact FW.value (MU _ _ A3) ((hr.Je qu q).put λ_ _=>trivial)
   .cases hp
  .cases hp
 .cases hp
def qw{o:Oper}{t e:TypeId}{n:Nat}{x:Operand}{lo hi:Option Operand}{v r:Aa}{as:List Aa}{h':Ah}(ho:o.op= .slice t x lo hi none)(ht:C.P.underlying t=some (.slice e))(K5:B4 C.P e=some (n+1))
  (hv:Bz C U (x::(lo.toList++hi.toList))=some (v::as)) (hp:lU h (n+1) lo.isSome hi.isSome v as=some (h',r)) (hr:Dh C γ0 w0 γ Z U h a w):FW C γ0 w0 o a w (U.put o.dst (.val r)) h':=by
 have rZ:=D1 hr hv;obtain⟨u,us,c,hx,qx⟩:=rZ;simp only[Bl,E2] at c;obtain⟨rfl,rfl⟩:=c;unfold lU at hp;split at hp
 .rename_i id off k z;split at hp
  .rename_i cs hcs;split at hp
   .rename_i H5;obtain⟨rfl,b,aFx⟩:=H5;obtain⟨g,cap,hg,JK,X_,ng,VD⟩:=(show BQ γ _ _ from hx);cases hb:Ed lo.isSome hi.isSome ((cs.length-off)/(n+1)) as with
    |none=>rw[hb] at hp;cases hp
    |some m=>
     obtain⟨l,q⟩:=m;rw[hb] at hp;simp only[Cw] at hp;split at hp
     .rename_i hlt;cases hp;obtain⟨us,c,fr,j,pf,i,E⟩:=hr.D6.cells id cs hcs g hg;obtain⟨⟨nc,B,s,d,D⟩,_⟩:=hr.D6.sz g _ VD;rw[j] at d;cases d;have lK:cs.length<=us.size:=by have:=i.length;simp at this;omega
      have mT:(cs.length-off)/(n+1)<=cap:=by refine Nat.div_le_of_le_mul ?_;rw[Nat.mul_comm];omega
      have f:∀y:Option Operand,(y.map a.eval).isSome=y.isSome:=λy=>by cases y<;>rfl
      have A:(lo.map a.eval).toList++(hi.map a.eval).toList=(lo.toList++hi.toList).map a.eval:=by cases lo<;>cases hi<;>rfl
      rw[<-f lo,<-f hi] at hb;obtain⟨p,G,F⟩:=KN (P:=C.P) (w:=w) (isSlice:=true) hb (by rw[A];exact qx) mT;have NB:Instr.sliceBounds true k cap (lo.map a.eval) (hi.map a.eval) none=Instr.sliceBounds true ((cs.length-off)/(n+1)) cap (lo.map a.eval) (hi.map a.eval) none:=by
       cases hi with
       |none=>cases b
       |some y=>rfl
      have Gc:C.P.underlying t=some (.slice (C.P.elem t)):=by simp[Program.elem,ht]
      have he:C.P.elem t=e:=by simp[Program.elem,ht]
      have A3:(Instr.sliceAt t (a.eval x) (lo.map a.eval) (hi.map a.eval) none).run C.P w= .ok (.slice (some ⟨g,off+l*(n+1),none⟩) (q-l) (cap-l)) w:=by rw[JK,run_sliceAt_slice w t _ _ _ _ Gc,run_slice_any w t _ _ _ Gc,NB,p,he,Result.andThen_ok,DW K5];show Result.ok (Value.slice (if cap=l then some ⟨g,off,none⟩ else Option.map (λq:Addr=>q.add (l*(n+1))) (some ⟨g,off,none⟩)) (q-l) (cap-l)) w=_;rw[Ad Ab];simp only[B0];unfold Addr.add;split<;>simp_all
      refine FW.value (by simp only[execOp,ho];exact DK A3) (hr.put λ_ _=>⟨g,cap-l,hg,rfl,Ab,⟨ng.1,Bs (Nat.sub_le _ _) ng.2⟩,?_⟩);rw[VD,R4,<-BH,aKw Ab]
     .cases hp
   .cases hp
  .cases hp
 .cases hp
def qy{o:Oper}{t e:TypeId}{n:Nat}{x lo hi mx:Operand}{args:List Aa}(ho:o.op= .slice t x (some lo) (some hi) (some mx))(ht:C.P.underlying t=some (.slice e))(K5:B4 C.P e=some (n+1))
  (hv:Bz C U [x,lo,hi,mx]=some args) (hp:W0 (n+1) args=true) (hr:Dh C γ0 w0 γ Z U h a w):FW C γ0 w0 o a w (U.put o.dst .undef) h:=by
 have rZ:=D1 hr hv;have Gc:C.P.underlying t=some (.slice (C.P.elem t)):=by simp[Program.elem,ht]
 have he:C.P.elem t=e:=by simp[Program.elem,ht]
 have HF:∀(base:Option Addr) (len cap:Nat) (kl kr f:IntKind) (l r m:Int),a.eval x= .slice base len cap->a.eval lo= .int kl l->a.eval hi= .int kr r->a.eval mx= .int f m->0<=l->l<=r->r<=m->m<=cap->FW C γ0 w0 o a w (U.put o.dst .undef) h:=by
  intro base len cap kl kr f l r m A z y u h1 h2 d i;have A3:∃v,(Instr.sliceAt t (a.eval x) (some (a.eval lo)) (some (a.eval hi)) (some (a.eval mx))).run C.P w= .ok v w:=by
   have c:0<=m:=Ab;have b:0<=r:=Ab;have b1:∀code,(Instr.sliceBound (.int f m) cap code).run C.P w= .ok m.toNat w:=λcode=>by simp[Instr.sliceBound,asIntOf,c,i]
   have b2:∀code,(Instr.sliceBound (.int kr r) m.toNat code).run C.P w= .ok r.toNat w:=λcode=>by simp[Instr.sliceBound,asIntOf,b,GX c,d]
   have b3:∀code,(Instr.sliceBound (.int kl l) r.toNat code).run C.P w= .ok l.toNat w:=λcode=>by simp[Instr.sliceBound,asIntOf,h1,GX b,h2]
   rw[A,z,y,u];simp[Instr.sliceAt,Instr.slice,run_underlying ht,Instr.sliceBounds,b1,b2,b3,DW K5]
  obtain⟨v,A3⟩:=A3;exact FW.value (by simp only[execOp,ho];exact DK A3) (hr.put λ_ _=>trivial)
 unfold W0 at hp;split at hp
 .rename_i s _ l _ r _ m;obtain⟨F,q,f1,g1,E,rH,f2,g2,D,p,f3,g3,B,k,f4,j,f5⟩:=rZ;subst f5;simp only[Bl,Dn] at f1;subst f4;subst f3;subst f2;simp only[E2,ML] at f1;obtain⟨rfl,rfl,rfl,rfl⟩:=f1;split at hp;.simp only[BC,C0] at hp;obtain⟨⟨⟨⟨_,h1⟩,h2⟩,d⟩,i⟩:=hp;obtain⟨g,cap,hg,JK,X_,_⟩:=(show BQ γ _ _ from g1);exact HF _ _ _ _ _ _ _ _ _ JK (Ez g2) (Ez g3) (Ez j) h1 h2 d Ab
  .simp only[BC,C0] at hp;obtain⟨⟨⟨⟨_,h1⟩,h2⟩,d⟩,i⟩:=hp;obtain⟨G,cap,JK,X_,_⟩:=(show BQ γ _ _ from g1);exact HF _ _ _ _ _ _ _ _ _ JK (Ez g2) (Ez g3) (Ez j) h1 h2 d Ab
  .cases hp
 .cases hp
def qz{o:Oper}{t:TypeId}{x:Operand}{v:Aa}{u:TypeDesc}(ho:o.op= .makeInterface t x)(ht:C.P.underlying t=some u)(hn:∀i,u≠ .interface i)(hv:Bz C U [x]=some [v])(hr:Dh C γ0 w0 γ Z U h a w):FW C γ0 w0 o a w (U.put o.dst (.val (.iface t v))) h:=by
 obtain⟨_,e0,hvs⟩:=GO hr hv;cases e0;have A3:(Instr.makeInterface t (a.eval x)).run C.P w= .ok (.iface t (a.eval x)) w:=by cases u<;>simp_all [Instr.makeInterface,run_underlying ht]
 exact FW.value (by simp only[execOp,ho];exact DK A3) (hr.put λ_ _=>⟨_,rfl,hvs⟩)
def Qo{n:Int}:∀{es:List (Aa×Aa)} {l:List MapEntry} {i:Nat} {r:Option (Nat×Aa)},Ll γ es l->LD n es i=some r->
  match r with
  |none=>Instr.findNow (.int .i64) (.int .i64 n) l i=some none
  |some (j,v)=>∃(e:MapEntry),Instr.findNow (.int .i64) (.int .i64 n) l i=some (some (j,e.val))/\BQ γ v e.val/\i<=j/\l[j-i]?=some e/\e.key= .int .i64 n
 |[],l,i,r,b,hf=>by rw[show l=[] from b];cases hf;rfl
 |(k,v)::es,l,i,r,b,hf=>by
  obtain⟨e,l',rfl,h1,h2,m⟩:=b;cases k with
  |int q t=>
   by_cases hq:q= .i64
   .subst hq;simp only[LD] at hf;have hk:e.key= .int .i64 t:=h1;split at hf;.rename_i HN;subst HN;cases hf;exact⟨e,by simp[Instr.findNow,hk,Instr.sameNow],h2,Ag _,AH,hk⟩
    .rename_i HN;have aFB:(n==t)=false:=by simpa using HN
     have ih:=Qo (i:=i+1) m hf;cases r with
     |none=>simpa[Instr.findNow,hk,Instr.sameNow,aFB] using ih
     |some p=>obtain⟨j,v2⟩:=p;obtain⟨o,g,f,s,d,c⟩:=ih;refine⟨o,by simpa[Instr.findNow,hk,Instr.sameNow,aFB] using g,f,Ab,?_,c⟩;rw[(Ab:j-i=(j-(i+1))+1),LU];exact d
   .exfalso;cases q<;>first|exact hq rfl|(simp[LD] at hf)
  |_=>simp[LD] at hf
def q_{o:Oper}{t kt e:TypeId}{m k:Operand}{g l z r:Aa}{ok:Bool}{h':Ah}(ho:o.op= .lookup t m k ok)(ht:C.P.underlying t=some (.map kt e))(hk:C.P.underlying kt=some (.int .i64))(hz:Hb C.P e=some z)(ha:Bz C U [m,k]=some [g,l])(hm:wX h z ok g l=some (h',r))(hr:Dh C γ0 w0 γ Z U h a w):
  FW C γ0 w0 o a w (U.put o.dst (.val r)) h':=by
 obtain⟨_,_,e0,h1,h2⟩:=Fb hr ha;cases e0;obtain⟨f,ni,d⟩:=If hz;have HF:∀(es:Array MapEntry) (q:Option (Nat×Aa)),(Instr.lookup t (a.eval m) (a.eval k) ok).run C.P w=(K9 kt e (a.eval k) ok es).run C.P w->
   ∀n,a.eval k= .int .i64 n->(match q with|none=>Instr.findNow (.int .i64) (.int .i64 n) es.toList 0=some none|some (j,v)=>∃(e:MapEntry),Instr.findNow (.int .i64) (.int .i64 n) es.toList 0=some (some (j,e.val))/\BQ γ v e.val/\0<=j/\es.toList[j-0]?=some e/\e.key= .int .i64 n)->
   rD z ok q=r->FW C γ0 w0 o a w (U.put o.dst (.val r)) h:=by
  intro es q SC n Ä hq UJ;have gh:(Instr.checkKey es.isEmpty 10000 kt (.int .i64 n)).run C.P w= .ok () w:=MapKept.run_checkKey (k:= .int .i64 n) hk (by simp[MapKept.IsKey]) es.isEmpty 9999;have A3:∃v,(Instr.lookup t (a.eval m) (a.eval k) ok).run C.P w= .ok v w/\BQ γ r v:=by
   cases q with
   |none=>
    refine⟨if ok then .tuple #[f,.bool false] else f,?_,?_⟩;.rw[SC,Ä];unfold K9;simp only[Sem.run_bind,Result.andThen_ok,gh,MapKept.run_findKey hk hq,d,Sem.run_bind,Sem.run_pure]
    .rw[<-UJ];have c:=Fu (γ:=γ) ni;cases ok with
     |true=>exact⟨_,rfl,_,_,rfl,c,_,_,rfl,rfl,rfl⟩
     |false=>exact c
   |some p=>
    obtain⟨j,v⟩:=p;obtain⟨en,u,s,_⟩:=hq;refine⟨if ok then .tuple #[en.val,.bool true] else en.val,?_,?_⟩;.rw[SC,Ä];unfold K9;simp only[Sem.run_bind,Result.andThen_ok,gh,MapKept.run_findKey hk u,Sem.run_bind,Sem.run_pure]
    .rw[<-UJ];cases ok with
     |true=>exact⟨_,rfl,_,_,rfl,s,_,_,rfl,rfl,rfl⟩
     |false=>exact s
  obtain⟨v,A3,xO⟩:=A3;exact FW.value (by simp only[execOp,ho];exact DK A3) (hr.put λ_ _=>xO)
 unfold wX at hm;split at hm;.rename_i n;cases hm;exact HF #[] none (by rw[show a.eval m=_ from h1];simp only[Instr.lookup,K9,Sem.run_bind,run_underlying ht,Result.andThen_ok,Sem.run_pure];rfl) n h2 rfl rfl
 .rename_i id n;obtain⟨b,hb,gg⟩:=h1;split at hm
  .rename_i es SC;obtain⟨DE,clock,hw,x,_⟩:=hr.D6.map id es SC b hb;cases hf:LD n es 0 with
   |none=>rw[hf] at hm;cases hm
   |some q=>
    rw[hf] at hm;simp only[B0,BB,Ir] at hm;obtain⟨rfl,hm⟩:=hm;refine HF DE q (by rw[gg];simp only[Instr.lookup,K9,Sem.run_bind,run_underlying ht,MapKept.run_getObj_map hw,Result.andThen_ok,Sem.run_pure];rfl) n h2 ?_ ?_
    .have:=Qo (i:=0) x hf;cases q with
     |none=>exact this
     |some p=>exact this
    .exact hm
  .cases hm
 .cases hm
def Ll.gp{k v:Aa}{e:MapEntry}(hk:BQ γ k e.key)(hv:BQ γ v e.val):∀{es:List (Aa×Aa)} {l:List MapEntry},Ll γ es l->Ll γ (es++[(k,v)]) (l++[e])
 |[],l,b=>by rw[show l=[] from b];exact⟨e,[],rfl,hk,hv,rfl⟩
 |(k',v')::es,l,b=>by obtain⟨d,l',rfl,h1,h2,c⟩:=b;exact⟨d,_,rfl,h1,h2,Ll.gp hk hv c⟩
def Ll.length:∀{es:List (Aa×Aa)} {l:List MapEntry},Ll γ es l->l.length=es.length
 |[],l,b=>by rw[show l=[] from b];rfl
 |(k',v')::es,l,b=>by obtain⟨d,l',rfl,h1,h2,c⟩:=b;simp[Ll.length c]
def Ll.modify{v:Aa}{u:Value}(hv:BQ γ v u):∀{es:List (Aa×Aa)} {l:List MapEntry} {j:Nat} {k v0:Aa},Ll γ es l->es[j]?=some (k,v0)->Ll γ (es.set j (k,v)) (l.modify j λe=>{e with val:=u})
 |[],l,j,k,v0,b,hj=>by simp at hj
 |(k',v')::es,l,j,k,v0,b,hj=>by
  obtain⟨d,l',rfl,h1,h2,c⟩:=b;cases j with
  |zero=>cases hj;exact⟨{d with val:=u},l',AH,h1,hv,c⟩
  |succ j=>exact⟨d,l'.modify j _,AH,h1,h2,Ll.modify hv c (by simpa using hj)⟩
def mU{es:Array MapEntry}{j:Nat}{e:MapEntry}{k:Value}(hj:es[j]?=some e)(hk:e.key=k):(es.modify j λe=>{e with key:=k})=es:=by
 apply Qe;intro i;rw[Ng];split;.rename_i hi;subst hi;rw[hj];simp[<-hk]
 .rfl
def XC{o:Oper}{t kt e:TypeId}{m k:Operand}{kA z r:Aa}{kV:Value}{d:TypeDesc}{h':Ah}{id:Nat}{es:List (Aa×Aa)}{f:Option (Option (Nat×Aa))}(ho:o.op= .mapEntry t m k)(ht:C.P.underlying t=some (.map kt e))(hk:C.P.underlying kt=some d)(n:MapKept.IsKey d kV)(hz:Hb C.P e=some z)
  (h1:BQ γ (.map (some id)) (a.eval m)) (g:a.eval k=kV) (u:BQ γ kA kV) (SC:h[id]?=some (.map es))
  (hq:∀(l:List MapEntry) q,Ll γ es l->f=some q->match q with
   |none=>Instr.findNow d kV l 0=some none
   |some (j,v)=>∃(e:MapEntry),Instr.findNow d kV l 0=some (some (j,e.val))/\BQ γ v e.val/\0<=j/\l[j-0]?=some e/\e.key=kV)
  (hm:(f.map λr=>match r with
   |some (i,v)=>(h,Aa.tuple [v,.int .i64 i])
   |none=>(h.set id (.map (es++[(kA,z)])),.tuple [z,.int .i64 es.length]))=some (h',r)) (hr:Dh C γ0 w0 γ Z U h a w):
  FW C γ0 w0 o a w (U.put o.dst (.val r)) h':=by
 obtain⟨c,ni,s⟩:=If hz;obtain⟨b,hb,gg⟩:=h1;obtain⟨DE,clock,hw,x,hB⟩:=hr.D6.map id es SC b hb;have gh:(Instr.checkKey false 10000 kt kV).run C.P w= .ok () w:=MapKept.run_checkKey (k:=kV) hk n false 9999;cases f with
 |none=>cases hm
 |some q=>
  have hq:=hq DE.toList q x rfl;cases q with
  |none=>
   simp only[B0,BB,Ir] at hm;obtain⟨rfl,rfl⟩:=hm;have A3:(Instr.mapEntry t (a.eval m) (a.eval k)).run C.P w= .ok (.tuple #[c,goInt clock]) {w with heap:=w.heap.setIfInBounds b (.map (DE.push {key:=kV,val:=c,born:=clock}) (clock+1))}:=by rw[gg,g];simp[Instr.mapEntry,run_underlying ht,MapKept.run_getObj_map hw,gh,MapKept.run_findKey hk hq,s,MapKept.run_setObj_map _ hw,Result.andThen]
   obtain⟨hi,Kj⟩:=NH (Vw:=es++[(kA,z)]) (ents':=DE.push {key:=kV,val:=c,born:=clock}) (clock':=clock+1) hr.D6 SC hb hw ⟨by have:=Ll.gp (γ:=γ) (k:=kA) (v:=z) (e:={key:=kV,val:=c,born:=clock}) u (Fu ni) x;simpa using this,TY hB⟩
   refine FW.value (by simp only[execOp,ho];exact DK A3) ((hr.Je hi Kj).put λ_ _=>⟨_,rfl,c,_,rfl,Fu ni,_,[],rfl,?_,rfl⟩);rw[hB.1];have:=x.length;simp only[Ch] at this;rw[<-this];rfl
  |some p=>
   obtain⟨j,v⟩:=p;simp only[B0,BB,Ir] at hm;obtain⟨rfl,rfl⟩:=hm;obtain⟨en,D,B,_,A,y⟩:=hq;have hj:DE[j]?=some en:=by simpa using A
   have aFC:=hB.2 j en hj;have gq:w.heap.setIfInBounds b (.map DE clock)=w.heap:=by
    apply Qe;intro i;rw[Array.getElem?_setIfInBounds];split;.rename_i hi;subst hi;have hlt:=(A7.1 hw).1;rw[Af hlt,hw]
    .rfl
   have A3:(Instr.mapEntry t (a.eval m) (a.eval k)).run C.P w= .ok (.tuple #[en.val,goInt j]) w:=by rw[gg,g];simp[Instr.mapEntry,run_underlying ht,MapKept.run_getObj_map hw,gh,MapKept.run_findKey hk D,hj,y,MapKept.run_keyThatStays (d:=d) (k:=kV) n,MapKept.run_setObj_map _ hw,Result.andThen,aFC,mU hj y,gq]
   exact FW.value (by simp only[execOp,ho];exact DK A3) (hr.put λ_ _=>⟨_,rfl,_,_,rfl,B,_,[],rfl,rfl,rfl⟩)
def sD{o:Oper}{t kt e:TypeId}{m k:Operand}{b c z r:Aa}{h':Ah}(ho:o.op= .mapEntry t m k)(ht:C.P.underlying t=some (.map kt e))(hk:C.P.underlying kt=some (.int .i64))(hz:Hb C.P e=some z)(ha:Bz C U [m,k]=some [b,c])(hm:V5 h z b c=some (h',r))(hr:Dh C γ0 w0 γ Z U h a w):
  FW C γ0 w0 o a w (U.put o.dst (.val r)) h':=by
 obtain⟨_,_,e0,h1,h2⟩:=Fb hr ha;cases e0;unfold V5 at hm;split at hm
 .rename_i id n;split at hm;.rename_i es SC;exact XC (kA:= .int .i64 n) (kV:= .int .i64 n) ho ht hk (by simp[MapKept.IsKey]) hz h1 h2 rfl SC (λl q d hf=>Qo (i:=0) d hf) hm hr
  .cases hm
 .cases hm
def aF{s:Ai}:∀{es:List (Aa×Aa)} {l:List MapEntry} {i:Nat} {r:Option (Nat×Aa)},Ll γ es l->W8 s es i=some r->
  match r with
  |none=>Instr.findNow .string (.string ⟨⟨s⟩⟩) l i=some none
  |some (j,v)=>∃(e:MapEntry),Instr.findNow .string (.string ⟨⟨s⟩⟩) l i=some (some (j,e.val))/\BQ γ v e.val/\i<=j/\l[j-i]?=some e/\e.key= .string ⟨⟨s⟩⟩
 |[],l,i,r,b,hf=>by rw[show l=[] from b];cases hf;rfl
 |(k,v)::es,l,i,r,b,hf=>by
  obtain⟨e,l',rfl,h1,h2,m⟩:=b;cases k with
  |str t=>
   simp only[W8] at hf;have hk:e.key= .string ⟨⟨t⟩⟩:=h1;split at hf;.rename_i HN;subst HN;cases hf;exact⟨e,by simp[Instr.findNow,hk,Instr.sameNow,RC],h2,Ag _,AH,hk⟩
   .rename_i HN;have ih:=aF (i:=i+1) m hf;have hne:=XA HN;cases r with
    |none=>simpa[Instr.findNow,hk,Instr.sameNow,hne] using ih
    |some p=>obtain⟨j,v2⟩:=p;obtain⟨n,g,f,o,d,c⟩:=ih;refine⟨n,by simpa[Instr.findNow,hk,Instr.sameNow,hne] using g,f,Ab,?_,c⟩;rw[(Ab:j-i=(j-(i+1))+1),LU];exact d
  |_=>simp[W8] at hf
def sE{o:Oper}{t kt e:TypeId}{m k:Operand}{b c z r:Aa}{h':Ah}(ho:o.op= .mapEntry t m k)(ht:C.P.underlying t=some (.map kt e))(hk:C.P.underlying kt=some .string)(hz:Hb C.P e=some z)(ha:Bz C U [m,k]=some [b,c])(hm:cG h z b c=some (h',r))(hr:Dh C γ0 w0 γ Z U h a w):
  FW C γ0 w0 o a w (U.put o.dst (.val r)) h':=by
 obtain⟨_,_,e0,h1,h2⟩:=Fb hr ha;cases e0;unfold cG at hm;split at hm
 .rename_i id n;split at hm;.rename_i es SC;exact XC (kA:= .str n) (kV:= .string ⟨⟨n⟩⟩) ho ht hk (by simp[MapKept.IsKey]) hz h1 h2 rfl SC (λl q d hf=>aF (i:=0) d hf) hm hr
  .cases hm
 .cases hm
def mV{o:Oper}{t kt e:TypeId}{m k x:Operand}{f g c r:Aa}{h':Ah}(ho:o.op= .insert t m k x\/o.op= .mapUpdate t m k x)(hd:o.dst=none)(ht:C.P.underlying t=some (.map kt e))(hk:C.P.underlying kt=some (.int .i64))(ha:Bz C U [m,k,x]=some [f,g,c])
  (hm:oe h f g c=some (h',r)) (hr:Dh C γ0 w0 γ Z U h a w):FW C γ0 w0 o a w U h':=by
 obtain⟨h1,h2,l⟩:=RD hr ha;have MU:∀w',(Instr.mapUpdate t (a.eval m) (a.eval k) (a.eval x)).run C.P w= .ok () w'->(execOp a.eval o).run C.P w= .ok .skip w':=λw' A3=>by rcases ho with ho|ho<;>simp[execOp,ho,A3]
 unfold oe at hm;split at hm
 .rename_i id n;obtain⟨b,hb,gg⟩:=h1;have d:a.eval k= .int .i64 n:=h2;split at hm
  .rename_i es SC;obtain⟨DE,clock,hw,j,hB⟩:=hr.D6.map id es SC b hb;have gh:(Instr.checkKey false 10000 kt (.int .i64 n)).run C.P w= .ok () w:=MapKept.run_checkKey (k:= .int .i64 n) hk (by simp[MapKept.IsKey]) false 9999;split at hm
   .rename_i hf;cases hm;have hq:=Qo (i:=0) j hf;have A3:(Instr.mapUpdate t (a.eval m) (a.eval k) (a.eval x)).run C.P w= .ok () {w with heap:=w.heap.setIfInBounds b (.map (DE.push {key:= .int .i64 n,val:=a.eval x,born:=clock}) (clock+1))}:=by rw[gg,d];simp[Instr.mapUpdate,run_underlying ht,MapKept.run_getObj_map hw,gh,MapKept.run_findKey hk hq,MapKept.run_setObj_map _ hw,Result.andThen]
    obtain⟨hi,Kj⟩:=NH (Vw:=es++[(.int .i64 n,c)]) (ents':=DE.push {key:= .int .i64 n,val:=a.eval x,born:=clock}) (clock':=clock+1) hr.D6 SC hb hw ⟨by have:=Ll.gp (γ:=γ) (k:= .int .i64 n) (v:=c) (e:={key:= .int .i64 n,val:=a.eval x,born:=clock}) rfl l j;simpa using this,TY hB⟩
    exact FW.skip (MU _ A3) (by rw[hd];exact hr.Je hi Kj)
   .cases hm
  .cases hm
 .cases hm
def cW{es:Array MapEntry}(hB:∀(i:Nat) (e:MapEntry),es[i]?=some e->e.born=i){j:Nat}{e:MapEntry}(hj:es[j]?=some e):es.findIdx? (λe=>(e.born:Int)==(j:Int))=some j:=by
 rw[Array.findIdx?_eq_some_iff_getElem];obtain⟨hl,he⟩:=A7.1 hj;refine⟨hl,?_,λi hi=>?_⟩;.have:=hB j _ (CX hl);simp[this]
 .have:=hB i _ (CX Ab);simp[this];omega
def sF{o:Oper}{t:TypeId}{m s x:Operand}{f vs c r:Aa}{h':Ah}(ho:o.op= .entryStore t m s x)(hd:o.dst=none)(ha:Bz C U [m,s,x]=some [f,vs,c])(hm:V6 h f vs c=some (h',r))(hr:Dh C γ0 w0 γ Z U h a w):FW C γ0 w0 o a w U h':=by
 obtain⟨h1,h2,i⟩:=RD hr ha;have MU:∀w',(Instr.entryStore t (a.eval m) (a.eval s) (a.eval x)).run C.P w= .ok () w'->(execOp a.eval o).run C.P w= .ok .skip w':=λw' A3=>by simp[execOp,ho,A3]
 unfold V6 at hm;split at hm
 .rename_i id n;obtain⟨b,hb,gg⟩:=h1;have JK:a.eval s= .int .i64 n:=h2;split at hm
  .rename_i es SC;split at hm
   .rename_i hn;split at hm
    .rename_i kk v0 hk;cases hm;obtain⟨DE,clock,hw,g,hB⟩:=hr.D6.map id es SC b hb;have hlen:=g.length;have hlt:=(Ak.1 hk).1;have d:∃en,DE[n.toNat]?=some en:=⟨DE[n.toNat]'(by simp at hlen;omega),CX _⟩;obtain⟨en,hj⟩:=d;have xK:((n.toNat:Nat):Int)=n:=Ab;have aFD:=cW hB.2 hj;rw[xK] at aFD;have A3:(Instr.entryStore t (a.eval m) (a.eval s) (a.eval x)).run C.P w= .ok () {w with heap:=w.heap.setIfInBounds b (.map (DE.modify n.toNat λe=>{e with val:=a.eval x}) clock)}:=by rw[gg,JK];simp[Instr.entryStore,MapKept.run_getObj_map hw,asInt,asIntOf,aFD,MapKept.run_setObj_map _ hw,Result.andThen]
     obtain⟨hi,Kj⟩:=NH (Vw:=es.set n.toNat (kk,c)) (ents':=DE.modify n.toNat λe=>{e with val:=a.eval x}) (clock':=clock) hr.D6 SC hb hw ⟨by have:=Ll.modify i g hk;simpa using this,UK hB λ_=>rfl⟩
     exact FW.skip (MU _ A3) (by rw[hd];exact hr.Je hi Kj)
    .cases hm
   .cases hm
  .cases hm
 .cases hm
end
end Go.Am
end
section
section
namespace Go.Am
open Go
section
variable{C:FY}{γ0 γ γ':Gh}{w0 w w':World}{O:Nat->Nat}{U U':BT}{h h':Ah}{a:Act}{fid:FuncId}{ops:List Oper}
def FW.wp{o:Oper}{K:Act->World->Prop}{Q:Exit->Act->World->Prop}(hs:FW C γ0 w0 o a w U' h')(b:∀γ' c a' w',Dh C γ0 w0 γ' c U' h' a' w'->K a' w'):o.wp C.P a w K Q:=by
 obtain⟨γ',c,w',⟨v,he,hr⟩|⟨he,hr⟩⟩:=hs;.exact Ju he (b _ _ _ _ hr)
 .exact rJ he (b _ _ _ _ hr)
def Zz{P:Program}{op:BinOp}{t:TypeId}{p:Se}(hp:Qj P op t=some p):p.still=true:=by
 have Ky:∀neg u,TN P t neg u=some p->p.still=true:=by
  intro neg u h;unfold TN at h;split at h;.cases h;rfl
  .split at h
   .cases hf:Pu P 20 t with
    |none=>rw[hf] at h;cases h
    |some k=>rw[hf] at h;cases h;rfl
   .cases h
  .split at h<;>cases h;rfl
  .cases h;rfl
  .cases h;rfl
  .cases h;rfl
  .cases h
 unfold Qj at hp;split at hp;.cases hp;rfl
 .cases hp;rfl
 .split at hp;.exact Ky _ _ hp
  .exact Ky _ _ hp
  .cases hp
 .cases hp
def NI{P:Program}{t:TypeId}{f off:Nat}{sh:Option Nat}(hf:IB P t f=some (off,sh))(b o:Nat):(Instr.fieldAt t (.pointer (some ⟨b,o,none⟩)) f).run P w= .ok (.pointer (some ⟨b,o+off,none⟩)) w:=by
 unfold IB at hf;split at hf
 .rename_i fs xL;split at hf
  .rename_i fd xM;split at hf;.rename_i n c h1 h2;cases hf;simp[Instr.fieldAt,run_underlying xL,xM,Instr.sureAddr,fieldPlace,DW h1,Addr.add_lit]
   .cases hf
  .cases hf
 .cases hf
def XD(hr:Dh C γ0 w0 γ O U h a w){s ver:Nat}{cs:List Aa}{ow:List Nat}(hs:Ef C U (.tmp s)=some (.box ver cs ow)):a.eval (.tmp s)= .pointer (some ⟨O s,0,none⟩):=by have h0:=Sq hr s;rw[He hs] at h0;exact h0.1
def UM(hr:Dh C γ0 w0 γ O U h a w){x:Operand}{s k:Nat}(hs:Ef C U x=some (.Fi s k)):a.eval x= .pointer (some ⟨O s,k,none⟩):=by obtain⟨t,h1,_⟩:=Gt hr hs;exact h1
def aG{o:Oper}{t:TypeId}{v:Aa}{d:Nat}{r:EM}{run:IT->Ah->Option Ka}(hb:UC C fid t v d=some r)(Gd:r.NC C run (U.drop r.news) h U' h')
  (Ps:∀n,C.kind fid d= .Ps->v.cells.length=n->n≠0->FW C γ0 w0 o a w ((U.drop [d]).set d (.box 0 v.cells [])) h)
  (heap:v.cells.length≠0->FW C γ0 w0 o a w (U.put (some d) (.val (.ptr (some (h.length,0))))) (h++[.cells v.cells])):FW C γ0 w0 o a w U' h':=by
 unfold UC at hb;split at hb;.cases hb
 .rename_i n hn;split at hb;.cases hb
  .rename_i b;split at hb;.cases hb;obtain⟨h1,rfl,rfl⟩:=Gd;rename_i hk;exact Ps n hk h1 b
   .cases hb;obtain⟨h1,rfl,rfl⟩:=Gd;exact heap Ab
def Qp{d s k:Nat}{run:IT->Ah->Option Ka}(Gd:(EM.pure [(d,.Fi s k)]).NC C run (U.drop (EM.pure [(d,.Fi s k)]).news) h U' h'):U'=U.set d (.Fi s k)/\h'=h:=by obtain⟨rfl,rfl⟩:=Gd;exact⟨rfl,rfl⟩
def rh{run:IT->Ah->Option Ka}(G:Fc C run){o:Oper}{r:EM}{K:Act->World->Prop}{Q:Exit->Act->World->Prop}(hc:Gq C fid ops U o=some r)(Gd:r.NC C run (U.drop r.news) h U' h')(hr:Dh C γ0 w0 γ O U h a w)
  (j:∀γ' T a' w',Dh C γ0 w0 γ' T U' h' a' w'->K a' w'):o.wp C.P a w K Q:=by
 by_cases HN:∃p args dst Bu F,r= .op p args dst Bu F/\p.still=true
 .obtain⟨p,args,dst,Bu,F,rfl,Æ⟩:=HN
  obtain⟨L,rfl,rfl,rfl⟩:=fw hc Æ hr
  obtain⟨v,hv,rfl,rfl⟩:=Gd
  obtain⟨u,R,N⟩:=L v hv
  exact Ju R (j _ _ _ _ (hr.put λ_ _=>N))
 .have Zi:∀{p args dst},r= .op p args dst false none->p.still=false:=λ{p args dst} he=>by
   cases hp:p.still with
   |false=>rfl
   |true=>exact absurd ⟨p,args,dst,false,none,he,hp⟩ HN
  have HH:∀{p dst x},TO p dst x=some r->p.still=false:=λ{p dst x} he=>by
   obtain⟨args,_,e⟩:=D2 he
   exact Zi e
  unfold Gq at hc
  split at hc
  .rename_i x ho
   split at hc
   .rename_i d hd
    obtain⟨γ',FZ⟩:=Ss hc Gd hr
    exact Ju (w':=w) (v:=a.eval x) (by simp[execOp,ho]) (j _ _ _ _ (by rw[hd];exact FZ))
   .cases hc
  .rename_i x ho
   split at hc
   .rename_i d hd
    obtain⟨γ',FZ⟩:=Ss hc Gd hr
    exact Ju (w':=w) (v:=a.eval x) (by simp[execOp,ho]) (j _ _ _ _ (by rw[hd];exact FZ))
   .cases hc
  .rename_i c x y ho
   split at hc
   .rename_i d hcs hd
    obtain⟨γ',FZ⟩:=Ss hc Gd hr
    obtain⟨s,h1,_⟩:=Gt hr hcs
    have h1:a.eval c= .bool true:=h1
    exact Ju (w':=w) (v:=a.eval x) (by simp[execOp,ho,h1,asBool]) (j _ _ _ _ (by rw[hd];exact FZ))
   .rename_i d hcs hd
    obtain⟨γ',FZ⟩:=Ss hc Gd hr
    obtain⟨s,h1,_⟩:=Gt hr hcs
    have h1:a.eval c= .bool false:=h1
    exact Ju (w':=w) (v:=a.eval y) (by simp[execOp,ho,h1,asBool]) (j _ _ _ _ (by rw[hd];exact FZ))
   .cases HH hc
  .rename_i t ho
   split at hc
   .rename_i d z hd hz
    split at hc
    .split at hc
     .rename_i H5
      cases hc
      obtain⟨rfl,rfl⟩:=Gd
      exact(Xp ho hd hz H5.2 hr).wp j
     .cases hc
    .rename_i hk
     refine(aG (o:=o) (a:=a) (w:=w) (γ0:=γ0) (w0:=w0) hc Gd (λn h0 h1 h2=>absurd h0 (by simpa using hk)) λh1=>Xq ho hd hz h1 hr).wp j
   .cases hc
  .rename_i t x ho
   split at hc
   .rename_i d v hd hv
    exact(aG (o:=o) (a:=a) (w:=w) (γ0:=γ0) (w0:=w0) hc Gd (λn _ h1 h2=>cQ ho hd hv h1 h2 hr) λh1=>cR ho hd hv h1 hr).wp j
   .cases hc
  .split at hc
   .split at hc
    .cases HH hc
    .cases hc
   .cases hc
  .rename_i t len parts ho
   split at hc
   .rename_i e ht
    split at hc
    .rename_i n hn
     split at hc
     .rename_i H5
      split at hc
      .rename_i hlen
       cases hc
       obtain⟨v,hv,rfl,rfl⟩:=Gd
       cases hv
       exact(qh ho ht hn H5.1 H5.2 hlen.1 hr).wp j
      cases ha:Bz C U (parts.toList.map (·.2)) with
      |none=>rw[ha] at hc;cases hc
      |some args=>
       rw[ha] at hc;cases hc
       obtain⟨v,hv,rfl,rfl⟩:=Gd
       exact(qg ho ht hn H5.1 H5.2 ha hv hr).wp j
     .cases hc
    .cases hc
   .cases hc
  .rename_i t x ho
   split at hc
   .rename_i d hd
    by_cases hp:∃ws,r= .pure ws
    .exact(Zv ho hd hc hp Gd hr).wp j
    .unfold LF at hc
     split at hc
     .rename_i n p ht hx
      cases hc
      obtain⟨v,hv,rfl,rfl⟩:=Gd
      have hs:=qc ho ht hx hv hr
      rw[hd] at hs
      exact hs.wp j
     .split at hc
      .simp only at hc
       split at hc<;>(cases hc;exact absurd ⟨_,rfl⟩ hp)
      .cases hc
     .split at hc
      .cases hc;exact absurd ⟨_,rfl⟩ hp
      .cases hc
     .cases hc
   .cases hc
  .rename_i t x y ho
   split at hc
   .rename_i hd
    have Jm:=hc
    unfold JD at hc
    split at hc
    .rename_i n p v K5 hx hv
     cases hc
     obtain⟨aKX,rfl⟩:=Gd
     exact(fx ho hd K5 hx hv aKX hr).wp j
    .split at hc
     .cases hc
      exact(rW ho hd Jm Gd hr).wp j
     .cases hc
    .cases hc
   .cases hc
  .rename_i x ho
   split at hc
   .rename_i s ver cs ow d hd hs
    cases hc
    obtain⟨rfl,rfl⟩:=Qp Gd
    have he:=XD hr hs
    exact Ju (w':=w) (v:= .pointer (some ⟨O s,0,none⟩)) (by simp[execOp,ho,he]) (j _ _ _ _ (by rw[hd];exact hr.put (d:=some d) λ_ _=>rfl))
   .rename_i s k d hd hs
    cases hc
    obtain⟨rfl,rfl⟩:=Qp Gd
    have he:=UM hr hs
    exact Ju (w':=w) (v:= .pointer (some ⟨O s,k,none⟩)) (by simp[execOp,ho,he]) (j _ _ _ _ (by rw[hd];exact hr.put (d:=some d) λ_ _=>rfl))
   .cases HH hc
  .split at hc
   .rename_i p hp
    have Æ:=HH hc
    rw[Zz hp] at Æ
    cases Æ
   .cases hc
  .cases HH hc
  .rename_i src aKF x ho
   split at hc
   .rename_i hq
    unfold Xc at hq
    cases hv:E4 C U x with
    |none=>rw[hv] at hc;cases hc
    |some v=>
     rw[hv] at hc;cases hc
     split at hq
     .cases hq
     .cases hq
     .cases hq
     .rename_i e hs hd
      split at hq
      .rename_i he
       obtain⟨v',u,h1,h2,rfl⟩:=Gd
       exact(Z_ ho hs hd he hv h1 h2 hr).wp j
      .cases hq
     .split at hq<;>cases hq
     .cases hq
   .rename_i hq
    unfold Xc at hq
    split at hq
    .cases hq
    .cases hq
    .cases hq
    .split at hq<;>cases hq
    .rename_i e hs hd
     split at hq
     .rename_i he _ _
      split at hc
      .cases hv:E4 C U x with
       |none=>rw[hv] at hc;cases hc
       |some v=>
        rw[hv] at hc;cases hc
        obtain⟨u,h1,rfl⟩:=Gd
        exact(cV ho hs hd he hv h1 hr).wp j
      .obtain⟨args,ha,rfl⟩:=D2 hc
       obtain⟨u,h1,rfl,rfl⟩:=Gd
       obtain⟨v,rfl,_⟩:=GO hr ha
       exact(Y_ ho hs hd he ha h1 hr).wp j
     .cases hq
    .cases hq
   .rename_i p Nn TI hq
    have Æ:=HH hc
    unfold Xc at hq
    split at hq
    .cases hq;cases Æ
    .cases hq;cases Æ
    .cases hq
    .split at hq
     .cases hq;exact absurd rfl Nn
     .cases hq
    .split at hq
     .cases hq;exact absurd rfl TI
     .cases hq
    .cases hq
   .cases hc
  .rename_i fn first captured ho
   split at hc
   .rename_i d as bs fz hd ha hb
    cases hc
    obtain⟨rfl,rfl⟩:=Gd
    exact(mK ho hd ha hb hr).wp j
   .cases hc
  .rename_i t ho
   cases hc
   obtain⟨rfl,rfl⟩:=Gd
   exact(qo ho hr).wp j
  .rename_i t l c ho
   split at hc
   .rename_i e ht
    split at hc
    .rename_i n b z V vc hn hb hz hl We
     cases hc
     obtain⟨v,h1,rfl⟩:=Gd
     exact(ql ho ht hn hb hz hl We h1 hr).wp j
    .cases hc
   .cases hc
  .rename_i t m k x ho
   split at hc
   .rename_i kt e ht
    split at hc
    .rename_i D E I hd hk ha
     cases hc
     obtain⟨h1,rfl⟩:=Gd
     exact(mO (.inl ho) hd ht hk ha h1 hr).wp j
    .rename_i D E I hd hk ha
     cases hc
     obtain⟨v,h1,rfl⟩:=Gd
     exact(mV (.inl ho) hd ht hk ha h1 hr).wp j
    .cases hc
   .cases hc
  .rename_i t m k x ho
   split at hc
   .rename_i kt e ht
    split at hc
    .rename_i D E I hd hk ha
     cases hc
     obtain⟨h1,rfl⟩:=Gd
     exact(mO (.inr ho) hd ht hk ha h1 hr).wp j
    .rename_i D E I hd hk ha
     cases hc
     obtain⟨v,h1,rfl⟩:=Gd
     exact(mV (.inr ho) hd ht hk ha h1 hr).wp j
    .cases hc
   .cases hc
  .rename_i t m k ok ho
   split at hc
   .rename_i kt e ht
    split at hc
    .rename_i z D E hk hz ha
     cases hc
     obtain⟨v,h1,rfl,rfl⟩:=Gd
     exact(qp ho ht hk hz ha h1 hr).wp j
    .rename_i z D E hk hz ha
     cases hc
     obtain⟨v,h1,rfl⟩:=Gd
     exact(q_ ho ht hk hz ha h1 hr).wp j
    .cases hc
   .cases hc
  .rename_i t x lo hi mx ho
   split at hc
   .rename_i e ht
    split at hc
    .rename_i n hn
     obtain⟨args,ha,rfl⟩:=Hu hc
     obtain⟨v,h1,rfl⟩:=Gd
     simp only[E3] at h1
     split at h1
     .rename_i J
      cases h1
      exact(qy ho ht hn ha J hr).wp j
     .cases h1
    .cases hc
   .cases hc
  .rename_i t x ho
   split at hc
   .cases hc
   .rename_i u hu ht
    obtain⟨args,ha,rfl⟩:=Hu hc
    obtain⟨v,h1,rfl⟩:=Gd
    obtain⟨y,rfl,_⟩:=GO hr ha
    cases h1
    exact(qz ho ht (λi e=>hu i e) ha hr).wp j
   .cases hc
  .rename_i t m k ho
   split at hc
   .rename_i kt e ht
    split at hc
    .rename_i z hk hz
     obtain⟨args,ha,rfl⟩:=Hu hc
     obtain⟨v,h1,rfl⟩:=Gd
     obtain⟨A,B,rfl,_,_⟩:=Fb hr ha
     exact(sD ho ht hk hz ha h1 hr).wp j
    .rename_i z hk hz
     obtain⟨args,ha,rfl⟩:=Hu hc
     obtain⟨v,h1,rfl⟩:=Gd
     obtain⟨A,B,rfl,_,_⟩:=Fb hr ha
     exact(sE ho ht hk hz ha h1 hr).wp j
    .cases hc
   .cases hc
  .rename_i t m s x ho
   split at hc
   .rename_i hd
    obtain⟨args,ha,rfl⟩:=Hu hc
    obtain⟨v,h1,rfl⟩:=Gd
    obtain⟨A,B,H,rfl⟩:∃A B H,args=[A,B,H]:=by
     have:=D1 hr ha
     cases args with
     |nil=>cases h1
     |cons A l1=>cases l1 with
      |nil=>cases h1
      |cons B S=>cases S with
       |nil=>cases h1
       |cons H l3=>cases l3 with
        |nil=>exact⟨_,_,_,rfl⟩
        |cons _ _=>cases h1
    exact(sF ho hd ha h1 hr).wp j
   .cases hc
  .rename_i t x lo hi ho
   split at hc
   .cases HH hc
   .rename_i e ht
    split at hc
    .rename_i n hn
     split at hc
     .obtain⟨args,ha,rfl⟩:=Hu hc
      obtain⟨v,h1,rfl⟩:=Gd
      cases args with
      |nil=>cases h1
      |cons y l=>exact(qw ho ht hn ha h1 hr).wp j
     .cases HH hc
    .cases hc
   .cases hc
  .rename_i t x f ho
   split at hc
   .rename_i off sh d hf hd
    split at hc
    .rename_i s ver cs ow hs
     cases hc
     obtain⟨rfl,rfl⟩:=Qp Gd
     have he:=XD hr hs
     exact Ju (w':=w) (v:= .pointer (some ⟨O s,off,none⟩)) (by simp only[execOp,ho,he];exact EX (by rw[NI hf];simp)) (j _ _ _ _ (by rw[hd];exact hr.put (d:=some d) λ_ _=>rfl))
    .rename_i s k hs
     cases hc
     obtain⟨rfl,rfl⟩:=Qp Gd
     have he:=UM hr hs
     exact Ju (w':=w) (v:= .pointer (some ⟨O s,k+off,none⟩)) (by simp only[execOp,ho,he];exact EX (NI hf _ _)) (j _ _ _ _ (by rw[hd];exact hr.put (d:=some d) λ_ _=>rfl))
    .cases HH hc
   .cases hc
  .split at hc
   .cases HH hc
   .cases hc
  .split at hc
   .split at hc
    .cases HH hc
    .cases hc
   .split at hc
    .split at hc
     .cases hc
     .cases HH hc
    .cases hc
   .cases hc
  .split at hc
   .cases HH hc
   .split at hc
    .cases HH hc
    .cases hc
   .cases hc
  .cases HH hc
  .rename_i c ho
   unfold Rr at hc
   split at hc
   .split at hc
    .split at hc
     .cases HH hc
     .cases HH hc
     .cases hc
    .cases hc
   .rename_i hcl
    split at hc
    .rename_i t t' s x h0 h1 EP
     split at hc
     all_goals first
      |(cases hc;done)
      | (rename_i e _ ht Gc
         split at hc
         . rename_i n b hn hb
           split at hc
           . rename_i lL
             split at hc
             . rename_i v u ha
               split at hc
               . rename_i FG
                 split at hc
                 . cases hc
                   obtain ⟨r', q, rfl⟩ := Gd
                   exact (gi ho hcl h0 h1 EP ht (by first | exact .inl ⟨_, Gc⟩ | exact .inr Gc) hn hb FG lL ha q hr).wp j
                 . split at hc
                   . cases hc
                     obtain ⟨r', q, rfl, rfl⟩ := Gd
                     exact (mM ho hcl h0 h1 EP ht (by first | exact .inl ⟨_, Gc⟩ | exact .inr Gc) hn hb FG lL ha q hr).wp j
                   . cases hc
                     obtain ⟨r', q, rfl, rfl⟩ := Gd
                     exact (rY ho hcl h0 h1 EP ht (by first | exact .inl ⟨_, Gc⟩ | exact .inr Gc) hn hb FG lL ha q hr).wp j
               . split at hc
                 . cases hc
                   obtain ⟨r', q, rfl⟩ := Gd
                   exact (qt ho hcl h0 h1 EP ht (by first | exact .inl ⟨_, Gc⟩ | exact .inr Gc) hn hb lL ha q hr).wp j
                 . cases hc
             . cases hc
           . cases hc
         . cases hc)
    .cases hc
   .rename_i hcl
    split at hc
    .rename_i t t' s x h0 h1 EP
     split at hc
     all_goals first
      |(cases hc;done)
      | (rename_i e _ ht Gc
         split at hc
         . rename_i n hn
           obtain ⟨args, ha, rfl⟩ := Hu hc
           obtain ⟨v, q, rfl⟩ := Gd
           obtain ⟨A, B, rfl, _, _⟩ := Fb hr ha
           exact (qv ho hcl h0 h1 EP ht (by first | exact .inl ⟨_, Gc⟩ | exact .inr Gc) hn ha q hr).wp j
         . cases hc)
    .cases hc
   .rename_i hcl
    split at hc
    .rename_i t s h0 EP
     split at hc
     .rename_i e ht
      split at hc
      .rename_i n z hn hz
       obtain⟨args,ha,rfl⟩:=Hu hc
       obtain⟨v,q,rfl⟩:=Gd
       obtain⟨A,rfl,_⟩:=GO hr ha
       exact(gm ho hcl h0 EP ht hn hz ha q hr).wp j
      .cases hc
     .cases hc
    .cases hc
   .split at hc
    .cases HH hc
    .cases hc
   .split at hc
    .cases HH hc
    .cases hc
   .rename_i f hcl
    split at hc
    .rename_i hf
     split at hc
     .rename_i s i x EP
      split at hc
      .rename_i FG
       obtain⟨args,ha,rfl⟩:=Hu hc
       obtain⟨v,q,rfl⟩:=Gd
       exact À G ho hcl hf EP FG ha q hr λγ' v w' FZ=>j _ _ _ _ FZ
      .cases hc
     .cases hc
    split at hc
    rotate_left
    .cases hc
    rename_i UJ
    rw[<-UJ] at hcl
    cases ha:Bz C U c.args.toList with
    |none=>rw[ha] at hc;cases hc
    |some args=>
     rw[ha] at hc
     simp only[B0,BB] at hc
     split at hc
     .cases hc
      obtain⟨Hp,M,h1,h2,q,rfl,rfl⟩:=Gd
      exact f_ G ho hcl ha Hp h2 q hr λγ' v w' FZ=>j _ _ _ _ FZ
     .cases hc
      obtain⟨M,h1,rfl⟩:=Gd
      exact qn G ho hcl ha h1 hr λγ' v w' FZ=>j _ _ _ _ FZ
   .rename_i g hn hcl
    split at hc
    .rename_i W args hg ha
     cases hc
     obtain⟨f,args',M,h0,h1,rfl⟩:=Gd
     exact gd G ho hcl hg ha h0 h1 hr λγ' v w' FZ=>j _ _ _ _ FZ
    .cases hc
   .cases hc
  .cases hc
end
end Go.Am
end
section
namespace Go.Am
open Go
section
variable{C:FY}{U Z:BT}{fid:FuncId}{ops:List Oper}
def cX{x:Operand}(h:∀t,x= .tmp t->Z.at t=U.at t):Ef C Z x=Ef C U x:=by
 cases x with
 |tmp t=>simp only[Ef,h t rfl]
 |const v=>
  cases v with
  |slice a b c=>cases a<;>cases b<;>cases c<;>rfl
  |_=>rfl
 |global g=>rfl
 |func f=>rfl
def Wg(C:FY)(U Z:BT)(xs:List Operand):Prop:=∀x∈xs,Ef C Z x=Ef C U x
def Wg.xT{xs:List Operand}(h:∀t∈Kg xs,Z.at t=U.at t):Wg C U Z xs:=λx hx=>cX λt ht=>h t (by subst ht;exact Ck.2 ⟨_,hx,rfl⟩)
def Wg.val{xs:List Operand}(h:Wg C U Z xs){x:Operand}(hx:x∈xs):E4 C Z x=E4 C U x:=by unfold E4;rw[h x hx]
def Wg.KO{xs:List Operand}(h:Wg C U Z xs):∀{ys:List Operand},(∀y∈ys,y∈xs)->Bz C Z ys=Bz C U ys
 |[],_=>rfl
 |y::ys,hy=>by unfold Bz;rw[h.val (hy y AH),h.KO λz hz=>hy z (by simp[hz])]
def Wg.move{xs:List Operand}(h:Wg C U Z xs){x:Operand}(hx:x∈xs)(d:Nat)(take:Bool):KL C Z x d take=KL C U x d take:=by unfold KL;rw[h x hx]
def Wg.Bu{xs:List Operand}(h:Wg C U Z xs){x:Operand}(hx:x∈xs):Lj C Z x=Lj C U x:=by unfold Lj;rw[h x hx]
def Wg.DU{xs:List Operand}(h:Wg C U Z xs){x:Operand}(hx:x∈xs):Dv Z x=Dv U x:=by
 cases x with
 |tmp t=>have:=h _ hx;simp only[Ef,BB] at this;simp only[Dv,this]
 |_=>rfl
def Wg.Gp{xs:List Operand}(h:Wg C U Z xs):∀{ys:List Operand},(∀y∈ys,y∈xs)->Am.Gp C Z ys=Am.Gp C U ys
 |[],_=>rfl
 |y::ys,hy=>by unfold Am.Gp;rw[h y (hy y AH),h.Gp λz hz=>hy z (by simp[hz])]
def Wg.addr{xs:List Operand}(h:Wg C U Z xs){x:Operand}(hx:x∈xs)(hb:∀s∈(Og C U x).toList,Z.at s=U.at s)(hn:Gn C U x≠none):Gn C Z x=Gn C U x:=by
 have Oc:=h x hx;cases hs:Ef C U x with
 |none=>unfold Gn at hn;rw[hs] at hn;exact absurd (by split<;>simp_all) hn
 |some sl=>
  rw[hs] at Oc;cases sl with
  |Fi s o=>
   have h1:∀J:BT,Ef C J x=some (.Fi s o)->Gn C J x=match J.at s with| .box ver cs ow=>some (.Ps s o ver cs ow)|_=>none:=λJ b=>by unfold Gn;rw[b];cases x<;>rfl
   rw[h1 U hs] at hn⊢;rw[h1 Z Oc];have h2:s∈(Og C U x).toList:=by
    unfold Og;rw[h1 U hs];cases Ru:U.at s with
    |box ver cs ow=>simp
    |_=>rw[Ru] at hn;exact absurd rfl hn
   rw[hb s h2]
  |_=>unfold Gn;rw[hs,Oc];cases x<;>rfl
def Wg.load{xs:List Operand}(h:Wg C U Z xs){x:Operand}(hx:x∈xs)(hb:∀s∈(Og C U x).toList,Z.at s=U.at s){t:TypeId}{d:Nat}{take:Bool}{r:EM}(hc:LF C U t x d take=some r):LF C Z t x d take=some r:=by
 have hn:Gn C U x≠none:=λhe=>by unfold LF at hc;rw[he] at hc;split at hc<;>simp_all
 unfold LF at hc⊢;rw[h.addr hx hb hn];exact hc
def Wg.store{xs:List Operand}(h:Wg C U Z xs){x y:Operand}(hx:x∈xs)(hy:y∈xs)(hb:∀s∈(Og C U x).toList,Z.at s=U.at s){t:TypeId}{r:EM}(hc:JD C U t x y=some r):JD C Z t x y=some r:=by
 have hn:Gn C U x≠none:=λhe=>by unfold JD at hc;rw[he] at hc;split at hc<;>simp_all
 unfold JD at hc⊢;rw[h.addr hx hb hn,h.val hy,h.Bu hy,h.DU hy];exact hc
def Wg.call{c:Call}(h:Wg C U Z c.operands.toList)(dst:Option Nat):Rr C fid Z c dst=Rr C fid U c dst:=by
 have ha:∀y∈c.args.toList,y∈c.operands.toList:=λy hy=>by unfold Call.operands;rw[GW];exact BU _ hy
 have hv:Bz C Z c.args.toList=Bz C U c.args.toList:=h.KO ha;unfold Rr;split;.rw[hv]
 .split
  .rename_i EP;have h1:∀{s x:Operand},c.args.toList=[s,x]->Lj C Z s=Lj C U s/\Dv Z s=Dv U s/\Bz C Z [s,x]=Bz C U [s,x]:=λ{s x} he=>by rw[he] at ha;exact⟨h.Bu (ha s AH),h.DU (ha s AH),h.KO λy hy=>ha y hy⟩
   obtain⟨e,d,b⟩:=h1 EP;rw[e,d,b]
  .rfl
 .split;.rename_i EP;rw[EP] at ha;rw[h.KO λy hy=>ha y hy]
  .rfl
 .split;.rename_i EP;rw[EP] at ha;rw[h.KO λy hy=>ha y hy]
  .rfl
 .rw[hv]
 .rw[hv]
 .split
  .split;.rename_i s i v EP;rw[EP] at ha;rw[h.Bu (ha v AH),h.KO λy hy=>ha y hy]
   .rfl
  .rw[hv]
 .rename_i g _ hcl;have hg:g∈c.operands.toList:=by unfold Call.operands;rw[hcl];simp
  rw[hv,h.val hg]
 .rfl
def XE{o:Oper}{r:EM}(hc:Gq C fid ops U o=some r)(ht:∀t∈Kg o.op.operands.toList,Z.at t=U.at t)(hb:∀s∈Ic C U o,Z.at s=U.at s):Gq C fid ops Z o=some r:=by
 have h:Wg C U Z o.op.operands.toList:= .xT ht
 unfold Gq at hc⊢
 cases ho:o.op with
 |move x=>
  rw[ho] at h
  simp only[ho] at hc⊢
  have:=λd=>h.move (x:=x) I1 d
  simpa only[this] using hc
 |assign x=>
  rw[ho] at h
  simp only[ho] at hc⊢
  have:=λd=>h.move (x:=x) I1 d
  simpa only[this] using hc
 |pick c a b=>
  rw[ho] at h
  simp only[ho] at hc⊢
  have h1:=λd=>h.move (x:=a) I1 d
  have h2:=λd=>h.move (x:=b) I1 d
  rw[h c I1,h.KO (ys:=[c,a,b]) I1]
  simpa only[h1,h2] using hc
 |alloc t=>rw[ho] at hc;exact hc
 |box t x=>
  rw[ho] at h
  simp only[ho] at hc⊢
  rw[h.val (x:=x) I1]
  exact hc
 |build t parts=>
  rw[ho] at h
  simp only[ho] at hc⊢
  rw[h.KO (ys:=parts.toList.map (·.2)) I1]
  exact hc
 |buildSlice t len parts=>
  rw[ho] at h
  simp only[ho] at hc⊢
  rw[h.KO (ys:=parts.toList.map (·.2)) I1]
  exact hc
 |load t x=>
  rw[ho] at h
  simp only[ho] at hc⊢
  split at hc
  .exact h.load I1 (λs hs=>hb s (by simpa only[Ic,ho] using hs)) hc
  .cases hc
 |store t x y=>
  rw[ho] at h
  simp only[ho] at hc⊢
  split at hc
  .exact h.store I1 I1 (λs hs=>hb s (by simpa only[Ic,ho] using hs)) hc
  .cases hc
 |nilCheck x=>
  rw[ho] at h
  simp only[ho] at hc⊢
  have e:=h.KO (ys:=[x]) I1
  rw[h x I1]
  cases hs:Ef C U x with
  |none=>rw[hs] at hc;cases x<;>cases hd:o.dst<;>rw[hd] at hc<;>first|exact hc|(show TO _ _ (Bz C Z [_])=some r;rw[e];exact hc)
  |some sl=>rw[hs] at hc;cases sl<;>cases x<;>cases hd:o.dst<;>rw[hd] at hc<;>first|exact hc|(show TO _ _ (Bz C Z [_])=some r;rw[e];exact hc)
 |binOp op t x y k=>
  rw[ho] at h
  simp only[ho] at hc⊢
  rw[h.KO (ys:=[x,y]) I1]
  exact hc
 |unOp op t x=>
  rw[ho] at h
  simp only[ho] at hc⊢
  rw[h.KO (ys:=[x]) I1]
  exact hc
 |convert src dst x=>
  rw[ho] at h
  simp only[ho] at hc⊢
  rw[h.KO (ys:=[x]) I1,h.val (x:=x) I1]
  exact hc
 |makeFunc fn first captured=>
  rw[ho] at h
  simp only[ho] at hc⊢
  rw[h.KO (ys:=first.toList) (λ_ hm=>by simp[Op.operands,hm]),h.Gp (ys:=captured.toList) (λ_ hm=>by simp[Op.operands,hm])]
  exact hc
 |makeMap t r'=>
  rw[ho] at hc
  cases r' with
  |none=>exact hc
  |some _=>cases hc
 |makeSlice t l c=>
  rw[ho] at h
  simp only[ho] at hc⊢
  rw[h.val (x:=l) I1,h.val (x:=c) I1]
  exact hc
 |insert t m k v=>
  rw[ho] at h
  simp only[ho] at hc⊢
  rw[h.KO (ys:=[m,k,v]) I1]
  exact hc
 |mapUpdate t m k v=>
  rw[ho] at h
  simp only[ho] at hc⊢
  rw[h.KO (ys:=[m,k,v]) I1]
  exact hc
 |lookup t m k ok=>
  rw[ho] at h
  simp only[ho] at hc⊢
  rw[h.KO (ys:=[m,k]) I1]
  exact hc
 |slice t x lo hi mx=>
  rw[ho] at h hc
  cases mx with
  |none=>
   have e:=h.KO (ys:=x::(lo.toList++hi.toList)) (by cases lo<;>cases hi<;>simp[Op.operands])
   simp only at hc⊢
   rw[e]
   exact hc
  |some mx=>cases lo with
   |none=>cases hc
   |some lo=>cases hi with
    |none=>cases hc
    |some hi=>
     have e:=h.KO (ys:=[x,lo,hi,mx]) I1
     simp only at hc⊢
     rw[e]
     exact hc
 |makeInterface t x=>
  rw[ho] at h
  simp only[ho] at hc⊢
  rw[h.KO (ys:=[x]) I1]
  exact hc
 |mapEntry t m k=>
  rw[ho] at h
  simp only[ho] at hc⊢
  rw[h.KO (ys:=[m,k]) I1]
  exact hc
 |entryStore t m s v=>
  rw[ho] at h
  simp only[ho] at hc⊢
  rw[h.KO (ys:=[m,s,v]) I1]
  exact hc
 |fieldAddr t x f=>
  rw[ho] at h
  simp only[ho] at hc⊢
  have e:=h.KO (ys:=[x]) I1
  rw[h x I1]
  cases hf:IB C.P t f with
  |none=>rw[hf] at hc;cases hc
  |some q=>
   rw[hf] at hc
   cases hd:o.dst with
   |none=>rw[hd] at hc;cases hc
   |some d=>
    rw[hd] at hc
    cases hs:Ef C U x with
    |none=>rw[hs] at hc;cases x<;>first|exact hc|(show TO _ _ (Bz C Z [_])=some r;rw[e];exact hc)
    |some sl=>rw[hs] at hc;cases sl<;>cases x<;>first|exact hc|(show TO _ _ (Bz C Z [_])=some r;rw[e];exact hc)
 |field t x f=>
  rw[ho] at h
  simp only[ho] at hc⊢
  rw[h.KO (ys:=[x]) I1]
  exact hc
 |indexAddr t x i=>
  rw[ho] at h
  simp only[ho] at hc⊢
  rw[h.KO (ys:=[x,i]) I1]
  exact hc
 |index t x i=>
  rw[ho] at h
  simp only[ho] at hc⊢
  rw[h.KO (ys:=[x,i]) I1]
  exact hc
 |extract x i=>
  rw[ho] at h
  simp only[ho] at hc⊢
  rw[h.KO (ys:=[x]) I1]
  exact hc
 |call c=>
  rw[ho] at h
  simp only[ho] at hc⊢
  rw[h.call]
  exact hc
 |_=>simp only[ho] at hc;cases hc
end
end Go.Am
end
section
namespace Go.Am
open Go
mutual
def Aa.beq_eq:∀{a b:Aa},Aa.beq a b=true->a=b
 | .bool a,b,h=>by cases b<;>simp[Aa.beq] at h⊢;exact h
 | .int k a,b,h=>by cases b<;>simp[Aa.beq] at h⊢;exact h
 | .str a,b,h=>by cases b<;>simp[Aa.beq] at h⊢;exact h
 | .ptr a,b,h=>by cases b<;>simp[Aa.beq] at h⊢;exact h
 | .Gf a,b,h=>by cases b<;>simp[Aa.beq] at h⊢;exact h
 | .CH a,b,h=>by cases b<;>simp[Aa.beq] at h⊢;exact Aa.Ov h
 | .sl n a,b,h=>by cases b<;>simp[Aa.beq] at h⊢;exact⟨h.1,Aa.mW h.2⟩
 | .slnil,b,h=>by cases b<;>simp[Aa.beq] at h⊢
 | .CF a c d e,b,h=>by cases b<;>simp[Aa.beq] at h⊢;exact⟨h.1.1.1,h.1.1.2,h.1.2,h.2⟩
 | .map a,b,h=>by cases b<;>simp[Aa.beq] at h⊢;exact h
 | .func f a c,b,h=>by cases b<;>simp[Aa.beq] at h⊢;exact⟨h.1.1,Aa.Ov h.1.2,Aa.Ov h.2⟩
 | .nilFunc,b,h=>by cases b<;>simp[Aa.beq] at h⊢
 | .iface t a,b,h=>by cases b<;>simp[Aa.beq] at h⊢;exact⟨h.1,Aa.beq_eq h.2⟩
 | .nilIface,b,h=>by cases b<;>simp[Aa.beq] at h⊢
 | .agg a,b,h=>by cases b<;>simp[Aa.beq] at h⊢;exact Aa.Ov h
 | .tuple a,b,h=>by cases b<;>simp[Aa.beq] at h⊢;exact Aa.Ov h
def Aa.Ov:∀{a b:List Aa},Aa.Sc a b=true->a=b
 |[],b,h=>by cases b<;>simp[Aa.Sc] at h⊢
 |a::x,b,h=>by
  cases b with
  |nil=>simp[Aa.Sc] at h
  |cons c y=>simp[Aa.Sc] at h⊢;exact⟨Aa.beq_eq h.1,Aa.Ov h.2⟩
def Aa.mW:∀{a b:List (List Aa)},Aa.Sd a b=true->a=b
 |[],b,h=>by cases b<;>simp[Aa.Sd] at h⊢
 |a::x,b,h=>by
  cases b with
  |nil=>simp[Aa.Sd] at h
  |cons c y=>simp[Aa.Sd] at h⊢;exact⟨Aa.Ov h.1,Aa.mW h.2⟩
end
def BT.JX(U:BT):∀(a b:List (Nat×Es)),U.El (a++b)=(U.El a).El b
 |[],_=>rfl
 |(s,x)::a,b=>BT.JX (U.set s x) a b
def BT.JY:∀(ws:List (Nat×Es)) (U:BT),(U.El ws).length=U.length
 |[],_=>rfl
 |(s,x)::ws,U=>by rw[BT.El,BT.JY ws];simp
def BT.XF(U:BT)(s t:Nat)(x:Es):BT.at (U.set s x) t=if s=t/\t<U.length then x else U.at t:=by
 by_cases h:s=t
 .subst h;by_cases hl:s<U.length;.simp[BT.at,List.getD,hl]
  .simp[BT.at,List.getD,hl]
 .simp[BT.at,List.getD,Ao h,h]
def BT.GP:∀(ws:List (Nat×Es)) (U:BT) (t:Nat),(∀p∈ws,p.1≠t)->(U.El ws).at t=U.at t
 |[],_,_,_=>rfl
 |(s,x)::ws,U,t,h=>by rw[BT.El,BT.GP ws _ t λp hp=>h p (by simp[hp]),BT.XF,Ad];exact λe=>h (s,x) AH e.1
def BT.XG:∀(ws:List (Nat×Es)) (U:BT) (t:Nat),(U.El ws).at t=U.at t\/∃p∈ws,p.1=t/\(U.El ws).at t=p.2
 |[],_,_=> .inl rfl
 |(s,x)::ws,U,t=>by
  rcases BT.XG ws (U.set s x) t with h|⟨p,hp,h1,h2⟩
  .rw[BT.XF] at h;by_cases hc:s=t/\t<U.length;.rw[Af hc] at h;exact .inr ⟨(s,x),AH,hc.1,h⟩
   .rw[Ad hc] at h;exact .inl h
  .exact .inr ⟨p,by simp[hp],h1,h2⟩
def BT.Jv:∀(ws:List (Nat×Es)) (U Z:BT) (t:Nat),Z.length=U.length->Z.at t=U.at t->(Z.El ws).at t=(U.El ws).at t
 |[],_,_,_,_,h=>h
 |(s,x)::ws,U,Z,t,hl,h=>by refine BT.Jv ws _ _ t (by simpa using hl) ?_;rw[BT.XF,BT.XF,hl,h]
def BT.ext{U Z:BT}(hl:Z.length=U.length)(h:∀t,Z.at t=U.at t):Z=U:=by apply List.ext_getElem hl;intro i h1 h2;have:=h i;simpa[BT.at,List.getD,h1,h2] using this
def BT.gu{U:BT}{a b:List (Nat×Es)}(h:∀p∈a,∀q∈b,p.1≠q.1):(U.El a).El b=(U.El b).El a:=by
 refine BT.ext (by simp[BT.JY]) λt=>?_;by_cases ha:∀p∈a,p.1≠t;.rw[BT.GP a (U.El b) t ha];exact BT.Jv b _ _ t (by simp[BT.JY]) (BT.GP a U t ha)
 .have⟨p,hp,c⟩:∃p∈a,p.1=t:=Classical.byContradiction λhn=>ha λp hp e=>hn ⟨p,hp,e⟩;have hb:∀q∈b,q.1≠t:=λq hq e=>h p hp q hq (by rw[c,e]);rw[BT.GP b (U.El a) t hb];exact(BT.Jv a _ _ t (by simp[BT.JY]) (BT.GP b U t hb)).symm
def Ow{U:BT}{ds:List Nat}:Nj U ds=true↔∀x t o,U.at x= .Fi t o->t∉ds:=by
 unfold Nj;rw[Db];constructor
 .intro h x t o hx;by_cases hl:x<U.length;.have:=h (U.at x) (by simp[BT.at,List.getD,hl]);rw[hx] at this;simpa using this
  .simp[BT.at,List.getD,hl] at hx
 .intro h s hs;obtain⟨i,hi⟩:=CU hs;cases s with
  |Fi t o=>have:=h i t o (by simp[BT.at,List.getD,hi]);simpa using this
  |_=>rfl
def gw{a b:List Nat}:UD a b=true↔∃x,x∈a/\x∈b:=by simp[UD]
structure St where
 idx:Nat
 fp:FP
 fl:Option KG
def La(i:Nat)(r:EM)(U:BT):Option KG:=
 match r with
 | .load n p (some d)=>match U.at d with
  | .val v=>some {idx:=i,n,p,v}
  |_=>none
 |_=>none
def XH(i:Nat)(r:EM)(U:BT)(fl:List KG):MY i r U fl=(La i r U).toList++fl:=by
 cases r with
 |load n p dst=>
  cases dst with
  |none=>rfl
  |some d=>simp only[MY,La];cases U.at d<;>rfl
 |_=>rfl
def ZA{i:Nat}{r:EM}{U Z:BT}(h:∀d∈r.wf,Z.at d=U.at d):La i r Z=La i r U:=by
 cases r with
 |load n p dst=>
  cases dst with
  |none=>rfl
  |some d=>simp only[La];rw[h d (by simp[EM.wf])]
 |_=>rfl
def M1(d:Option Nat)(U U':BT):Prop:=
 match d with
 |none=>U'=U
 |some d=>match U.at d with
  | .val v=>∃b,v= .bool b/\U'=U.set d (.O8 b)
  |_=>U'=U
section
variable{C:FY}{fid:FuncId}{ops:List Oper}{run:IT->Ah->Option Ka}{U Z U':BT}{h h':Ah}
def PH(C:FY)(fid:FuncId)(ops:List Oper)(run:IT->Ah->Option Ka)(s:St)(U:BT)(h:Ah)(U':BT)(h':Ah):Prop:=
 ∃o,ops[s.idx]?=some o/\
  ((IY ops U o = .Nz false /\ s.fp = Vv C ops U o none /\ s.fl = none /\ U' = U.put o.dst .skip /\ h' = h) \/
   ∃ r U1, IY ops U o = .Nz true /\ Gq C fid ops U o = some r /\ s.fp = Vv C ops U o (some r) /\ r.NC C run (U.drop r.news) h U1 h' /\ s.fl = La s.idx r U1 /\
     M1 (if Sn ops s.idx then o.dst else none) U1 U')
def XI(U:BT)(d:Option Nat)(x:Es):U.put d x=U.El (d.toList.map λs=>(s,x)):=by cases d<;>rfl
def gx(U:BT)(d:Option (Nat×Aa)):U.DU d=U.El (d.toList.map λp=>(p.1,.val p.2)):=by cases d<;>rfl
def aH{r:EM}(hd:r.NC C run U h U' h'):∃ws,U'=U.El ws/\(∀p∈ws,p.1∈r.wf)/\(∀p∈ws,∀t o,p.2= .Fi t o->t∈r.xA)/\∀Z,r.NC C run Z h (Z.El ws) h':=by
 have one:∀(d:Option Nat) (x:Es),(∀t o,x≠ .Fi t o)->U'=U.put d x->d.toList⊆r.wf->(∀Z,r.NC C run Z h (Z.put d x) h')->
   ∃ws,U'=U.El ws/\(∀p∈ws,p.1∈r.wf)/\(∀p∈ws,∀t o,p.2= .Fi t o->t∈r.xA)/\∀Z,r.NC C run Z h (Z.El ws) h':=by
  intro d x hx he hw ht;refine⟨d.toList.map λs=>(s,x),by rw[<-XI];exact he,λp hp=>?_,λp hp t o hl=>?_,λZ=>by rw[<-XI];exact ht Z⟩;.obtain⟨s,hs,rfl⟩:=Bk.1 hp;exact hw hs
  .obtain⟨s,hs,rfl⟩:=Bk.1 hp;exact absurd hl (hx t o)
 have QR:∀(i:Option (Nat×Aa)) (d:Option Nat) (x:Es),(∀t o,x≠ .Fi t o)->U'=(U.DU i).put d x->d.toList⊆r.wf->(i.map (·.1)).toList⊆r.wf->(∀Z,r.NC C run Z h ((Z.DU i).put d x) h')->
   ∃ws,U'=U.El ws/\(∀p∈ws,p.1∈r.wf)/\(∀p∈ws,∀t o,p.2= .Fi t o->t∈r.xA)/\∀Z,r.NC C run Z h (Z.El ws) h':=by
  intro i d x hx he hw rj ht;have e:∀Z:BT,(Z.DU i).put d x=Z.El ((i.toList.map λp=>(p.1,.val p.2))++d.toList.map λs=>(s,x)):=λZ=>by rw[BT.JX,<-gx,<-XI]
  refine⟨_,by rw[he,e],λp hp=>?_,λp hp t o hl=>?_,λZ=>by rw[<-e];exact ht Z⟩
  .rcases Ax.1 hp with hp|hp
   .obtain⟨q,hq,rfl⟩:=Bk.1 hp;exact rj (by cases i<;>simp_all)
   .obtain⟨s,hs,rfl⟩:=Bk.1 hp;exact hw hs
  .rcases Ax.1 hp with hp|hp
   .obtain⟨q,hq,rfl⟩:=Bk.1 hp;cases hl
   .obtain⟨s,hs,rfl⟩:=Bk.1 hp;exact absurd hl (hx t o)
 cases r with
 |pure ws=>obtain⟨rfl,rfl⟩:=hd;refine⟨ws,rfl,λp hp=>Bk.2 ⟨p,hp,rfl⟩,λp hp t o hl=>?_,λZ=>⟨rfl,rfl⟩⟩;exact Ck.2 ⟨p.2,Bk.2 ⟨p,hp,rfl⟩,by rw[hl]⟩
 |op p args dst Bu i=>obtain⟨v,hv,rfl,rfl⟩:=hd;exact QR i dst _ (by cases Bu<;>simp) rfl (by simp[EM.wf]) (by simp[EM.wf]) λZ=>⟨v,hv,rfl,rfl⟩
 |box n v d=>obtain⟨hn,rfl,rfl⟩:=hd;exact one (some d) _ AH rfl (by simp[EM.wf]) λZ=>⟨hn,rfl,rfl⟩
 |closure fn x b fz d=>
  obtain⟨rfl,rfl⟩:=hd;refine⟨(fz.map λ(s,cs)=>(s,.val (.CH cs)))++[(d,.val (.func fn x b))],by rw[BT.JX];rfl,λp hp=>?_,λp hp t o hl=>?_,λZ=>⟨by rw[BT.JX];rfl,rfl⟩⟩
  .rcases Ax.1 hp with hp|hp
   .obtain⟨q,hq,rfl⟩:=Bk.1 hp;exact Zf _ (Bk.2 ⟨q,hq,rfl⟩)
   .simp at hp;subst hp;simp[EM.wf]
  .rcases Ax.1 hp with hp|hp
   .obtain⟨q,hq,rfl⟩:=Bk.1 hp;cases hl
   .simp at hp;subst hp;cases hl
 |Ni s off n v Bu i ver cells owned=>obtain⟨hn,rfl,rfl⟩:=hd;exact QR i (some s) _ AH rfl (by simp[EM.wf]) (by simp[EM.wf]) λZ=>⟨hn,rfl,rfl⟩
 |load n p dst=>obtain⟨v,hv,rfl,rfl⟩:=hd;exact one dst _ AH rfl (by simp[EM.wf]) λZ=>⟨v,hv,rfl,rfl⟩
 |store n p v=>obtain⟨hv,rfl⟩:=hd;exact one none .undef AH rfl AH λZ=>⟨hv,rfl⟩
 |alloc n v dst=>obtain⟨hn,rfl,rfl⟩:=hd;exact one dst _ AH rfl (by simp[EM.wf]) λZ=>⟨hn,rfl,rfl⟩
 |call f args dst=>obtain⟨v,hv,rfl⟩:=hd;exact one dst _ (by intro t o;split<;>simp) rfl (by simp[EM.wf]) λZ=>⟨v,hv,rfl⟩
 |Jd g args dst=>obtain⟨f,x,v,h1,h2,rfl⟩:=hd;exact one dst _ AH rfl (by simp[EM.wf]) λZ=>⟨f,x,v,h1,h2,rfl⟩
 |B7 f args dst=>obtain⟨Hp,v,h1,h2,j,rfl,rfl⟩:=hd;exact one dst _ AH rfl (by simp[EM.wf]) λZ=>⟨Hp,v,h1,h2,j,rfl,rfl⟩
 |Po dst=>obtain⟨rfl,rfl⟩:=hd;exact one dst _ AH rfl (by simp[EM.wf]) λZ=>⟨rfl,rfl⟩
 |Kz m k v=>obtain⟨hv,rfl⟩:=hd;exact one none .undef AH rfl AH λZ=>⟨hv,rfl⟩
 |Mf z ok m k dst=>obtain⟨v,hv,rfl,rfl⟩:=hd;exact one dst _ AH rfl (by simp[EM.wf]) λZ=>⟨v,hv,rfl,rfl⟩
 |make z b zero l c dst=>obtain⟨v,hv,rfl⟩:=hd;exact one dst _ AH rfl (by simp[EM.wf]) λZ=>⟨v,hv,rfl⟩
 |Li z b s x dst i=>obtain⟨v,hv,rfl⟩:=hd;exact QR i dst _ AH rfl (by simp[EM.wf]) (by simp[EM.wf]) λZ=>⟨v,hv,rfl⟩
 |JI z b s x dst=>obtain⟨v,hv,rfl⟩:=hd;exact one dst _ AH rfl (by simp[EM.wf]) λZ=>⟨v,hv,rfl⟩
 |GC z b s x dst i=>obtain⟨v,hv,rfl,rfl⟩:=hd;exact QR i dst _ AH rfl (by simp[EM.wf]) (by simp[EM.wf]) λZ=>⟨v,hv,rfl,rfl⟩
 |Fa s dst=>obtain⟨v,hv,rfl⟩:=hd;exact one dst _ AH rfl (by simp[EM.wf]) λZ=>⟨v,hv,rfl⟩
 |WV s dst=>obtain⟨v,u,h1,h2,rfl⟩:=hd;exact one dst _ AH rfl (by simp[EM.wf]) λZ=>⟨v,u,h1,h2,rfl⟩
 |mem o args dst=>obtain⟨v,hv,rfl⟩:=hd;exact one dst _ (by intro t o';split<;>simp) rfl (by simp[EM.wf]) λZ=>⟨v,hv,rfl⟩
def TZ{r:EM}(hd:r.NC C run U h U' h')(he:r.R6=false):h'=h/\
  (r.hl=false->∀h2,r.NC C run U h2 U' h2)/\
  ∀n p d,r= .load n p (some d)->∃v,A8 h n p=some v/\U'=U.set d (.val v)/\∀h2,A8 h2 n p=some v->r.NC C run U h2 U' h2:=by
 cases r<;>simp only[EM.R6] at he<;>try(exact absurd he AM)
 case pure ws=>obtain⟨rfl,rfl⟩:=hd;exact⟨rfl,λ_ _=>⟨rfl,rfl⟩,AH⟩
 case op p args dst Bu g=>obtain⟨v,hv,rfl,rfl⟩:=hd;exact⟨rfl,λ_ _=>⟨v,hv,rfl,rfl⟩,AH⟩
 case box n v d=>obtain⟨hn,rfl,rfl⟩:=hd;exact⟨rfl,λ_ _=>⟨hn,rfl,rfl⟩,AH⟩
 case closure fn x b fz d=>obtain⟨rfl,rfl⟩:=hd;exact⟨rfl,λ_ _=>⟨rfl,rfl⟩,AH⟩
 case Ni s off n v Bu g ver cells owned=>obtain⟨hn,rfl,rfl⟩:=hd;exact⟨rfl,λ_ _=>⟨hn,rfl,rfl⟩,AH⟩
 case load n p dst=>obtain⟨v,hv,rfl,rfl⟩:=hd;refine⟨rfl,λc=>absurd c (by simp[EM.hl]),λn' p' d he=>?_⟩;cases he;exact⟨v,hv,rfl,λh2 e=>⟨v,e,rfl,rfl⟩⟩
 case Mf z ok m k dst=>obtain⟨v,hv,rfl,rfl⟩:=hd;exact⟨rfl,λc=>absurd c (by simp[EM.hl]),AH⟩
 case B7 f args dst=>obtain⟨Hp,v,h1,h2,i,rfl,rfl⟩:=hd;exact⟨rfl,λ_ _=>⟨Hp,v,h1,h2,i,rfl,rfl⟩,AH⟩
def UN{ds:List Nat}(hn:Nj U ds=true):U.drop ds=U:=by
 refine BT.ext (BT.length_drop U ds) λt=>?_;rw[BT.Sw];cases hx:U.at t with
 |Fi t' o=>have:=Ow.1 hn t t' o hx;simp[this]
 |_=>rfl
def Q6{o:Oper}(h:∀t∈FC ops o,Z.at t=U.at t):IY ops Z o=IY ops U o:=by
 unfold IY;unfold FC at h;cases hg:o.guard with
 |none=>rfl
 |some g=>
  obtain⟨j,want⟩:=g;rw[hg] at h;simp only at h⊢;cases hd:(ops[j]?).bind (·.dst) with
  |none=>rfl
  |some s=>
   rw[hd] at h;simp only
   rw[h s AH]
def VF{o:Oper}{r:EM}(hc:Gq C fid ops U o=some r)(ht:∀t∈Kg o.op.operands.toList,Z.at t=U.at t)(hb:∀s∈Ic C U o,Z.at s=U.at s):Ic C Z o=Ic C U o:=by
 have h:Wg C U Z o.op.operands.toList:= .xT ht
 unfold Ic at hb⊢
 cases ho:o.op with
 |load t x=>
  rw[ho] at h hb
  simp only at hb⊢
  have hn:Gn C U x≠none:=λhe=>by
   unfold Gq at hc
   simp only[ho] at hc
   split at hc
   .unfold LF at hc;rw[he] at hc;split at hc<;>simp_all
   .cases hc
  unfold Og
  rw[h.addr I1 hb hn]
 |store t x y=>
  rw[ho] at h hb
  simp only at hb⊢
  have hn:Gn C U x≠none:=λhe=>by
   unfold Gq at hc
   simp only[ho] at hc
   split at hc
   .unfold JD at hc;rw[he] at hc;split at hc<;>simp_all
   .cases hc
  unfold Og
  rw[h.addr I1 hb hn]
 |_=>rfl
def UO{xs:List Es}{t o:Nat}(h: .Fi t o∈xs):t∈V9 xs:=Ck.2 ⟨_,h,rfl⟩
def PH.spec{s:St}(hs:PH C fid ops run s U h U' h')(hf:s.fp.TS=true):
  ∃ws,U'=U.El ws/\(∀p∈ws,p.1∈s.fp.wf)/\(∀p∈ws,∀t o,p.2= .Fi t o->t∈s.fp.lr)/\(∀x∈s.fp.wf,∀t o,U.at x= .Fi t o->t∈s.fp.lr)/\Nj U s.fp.news=true/\(s.fp.R6=false->h'=h)/\
   (s.fp.R6=false->s.fp.hl=true->∃f,s.fl=some f)/\
   ∀(Z:BT) (h2 aI:Ah),Z.length=U.length->(∀x∈s.fp.rs++s.fp.wf,Z.at x=U.at x)->Nj Z s.fp.news=true->
    ((h2=h/\aI=h')\/(s.fp.R6=false/\aI=h2/\(s.fp.hl=true->∀f,s.fl=some f->A8 h2 f.n f.p=some f.v)))->PH C fid ops run s Z h2 (Z.El ws) aI:=by
 obtain⟨o,ho,⟨hg,j,Hp,rfl,rfl⟩|⟨r,U1,hg,hc,j,hd,Hp,ha⟩⟩:=hs
 .rw[j] at hf⊢;refine⟨o.dst.toList.map λd=>(d,.skip),XI _ _ _,λp hp=>?_,λp hp t k hl=>?_,λx hx t k hl=>?_,Ow.2 (by simp[Vv]),λ_=>rfl,λ_ i=>absurd i (by simp[Vv]),λZ h2 aI hlen rl _ Jf=>?_⟩;.obtain⟨d,hd,rfl⟩:=Bk.1 hp;exact hd
  .obtain⟨d,hd,rfl⟩:=Bk.1 hp;cases hl
  .exact UO (o:=k) (Bk.2 ⟨x,hx,hl⟩)
  .have i:aI=h2:=by rcases Jf with⟨D,B⟩|⟨_,e,_⟩<;>first|exact e|rw[D,B]
   refine⟨o,ho,.inl ⟨?_,?_,Hp,(XI _ _ _).symm,i⟩⟩;.rw[Q6 λt ht=>rl t (CE _ ht)];exact hg
   .rw[j];have e:o.dst.toList.map Z.at=o.dst.toList.map U.at:=ZW λx hx=>rl x (BU _ hx);simp only[Vv,e]
 .rw[j] at hf⊢;have rp:r.TS U=true:=hf;have OX:Nj U r.news=true:=by unfold EM.TS at rp;rw[BC] at rp;exact rp.1
  rw[UN OX] at hd;obtain⟨rq,rfl,hw,A,cJ⟩:=aH hd;have aKY:∃g:List (Nat×Es),U'=(U.El rq).El g/\(∀p∈g,o.dst=some p.1/\∃b,p.2= .O8 b)/\∀Z:BT,Z.length=U.length->(∀x∈r.wf++o.dst.toList,Z.at x=U.at x)->M1 (if Sn ops s.idx then o.dst else none) (Z.El rq) ((Z.El rq).El g):=by
   by_cases c:Sn ops s.idx=true
   .rw[Af c] at ha;cases SF:o.dst with
    |none=>rw[SF] at ha;exact⟨[],ha,AH,λZ _ _=>by simp[c,M1,BT.El]⟩
    |some d=>
     rw[SF] at ha;simp only[M1] at ha;have u:∀Z:BT,Z.length=U.length->(∀x∈r.wf++[d],Z.at x=U.at x)->(Z.El rq).at d=(U.El rq).at d:=λZ hl rl=>BT.Jv rq U Z d hl (rl d AH);cases hx:(U.El rq).at d with
     |val v=>rw[hx] at ha;obtain⟨b,rfl,rfl⟩:=ha;refine⟨[(d,.O8 b)],rfl,AH,λZ hl rl=>?_⟩;simp only[c,BN,M1];rw[u Z hl rl,hx];exact⟨b,rfl,rfl⟩
     |_=>rw[hx] at ha;refine⟨[],ha,AH,λZ hl rl=>?_⟩;simp only[c,BN,M1];rw[u Z hl rl,hx];rfl
   .rw[Ad c] at ha;exact⟨[],ha,AH,λZ _ _=>by rw[Ad c];rfl⟩
  obtain⟨g,rfl,rj,aFF⟩:=aKY;have q:r.hl=true->∃n p d,r= .load n p (some d)/\d<U.length:=λi=>by
   unfold EM.TS at rp;rw[BC] at rp;cases r with
   |load n p dst=>
    cases dst with
    |none=>exact absurd rp.2 AH
    |some d=>exact⟨n,p,d,rfl,by simpa using rp.2⟩
   |Mf _ _ _ _ _=>exact absurd rp.2 AH
   |_=>simp[EM.hl] at i
  have aFG:r.R6=false->∀n p d,r= .load n p (some d)->d<U.length->∃v,A8 h n p=some v/\s.fl=some {idx:=s.idx,n,p,v}:=by intro he n p d hr qV;obtain⟨v,y,m,_⟩:=(TZ hd he).2.2 n p d hr;refine⟨v,y,?_⟩;rw[Hp,hr];simp only[La];rw[m,BT.Fv qV]
  have aKZ:∀(Z:BT) h2 aI,((h2=h/\aI=h')\/(r.R6=false/\aI=h2/\(r.hl=true->∀f,s.fl=some f->A8 h2 f.n f.p=some f.v)))->r.NC C run Z h2 (Z.El rq) aI:=by
   intro Z h2 aI Jf;rcases Jf with⟨rfl,rfl⟩|⟨he,rfl,UJ⟩
   .exact cJ Z
   .obtain⟨_,H,G⟩:=TZ (cJ Z) he;cases i:r.hl with
    |false=>exact H i _
    |true=>obtain⟨n,p,d,hr,qV⟩:=q i;obtain⟨v,y,m⟩:=aFG he n p d hr qV;obtain⟨v',E,_,F⟩:=G n p d hr;rw[y] at E;cases E;exact F _ (UJ i _ m)
  refine⟨rq++g,by rw[BT.JX],λp hp=>?_,λp hp t k hl=>?_,λx hx t k hl=>?_,OX,λhe=>(TZ hd he).1,λhe i=>?_,λZ h2 aI hlen rl z Jf=>?_⟩
  .rcases Ax.1 hp with hp|hp
   .exact CE _ (hw p hp)
   .exact BU _ (by rw[(rj p hp).1];simp)
  .rcases Ax.1 hp with hp|hp
   .exact BU _ (A p hp t k hl)
   .obtain⟨_,b,e⟩:=rj p hp;rw[e] at hl;cases hl
  .exact CE _ (UO (o:=k) (Bk.2 ⟨x,hx,hl⟩))
  .obtain⟨n,p,d,hr,qV⟩:=q i;obtain⟨v,_,m⟩:=aFG he n p d hr qV;exact⟨_,m⟩
  .have l:∀t∈FC ops o++Kg o.op.operands.toList++Ic C U o,Z.at t=U.at t:=λt ht=>rl t (CE _ ht);have hwf:∀t∈r.wf++o.dst.toList,Z.at t=U.at t:=λt ht=>rl t (BU _ ht);have ht:∀t∈Kg o.op.operands.toList,Z.at t=U.at t:=λt ht=>l t (by simp[ht]);have hb:∀t∈Ic C U o,Z.at t=U.at t:=λt ht=>l t (by simp[ht]);have aFH:Nj Z r.news=true:=z;refine⟨o,ho,.inr ⟨r,Z.El rq,?_,XE hc ht hb,?_,?_,?_,?_⟩⟩;.rw[Q6 λt ht=>l t (by simp[ht])];exact hg
   .rw[j];have D:(r.wf++o.dst.toList).map Z.at=(r.wf++o.dst.toList).map U.at:=ZW λx hx=>hwf x hx;have B:r.TS Z=r.TS U:=by unfold EM.TS;rw[OX,aFH,hlen]
    simp only[Vv,D,B,VF hc ht hb]
   .rw[UN aFH];exact aKZ Z h2 aI Jf
   .rw[Hp];exact(ZA λd hd=>BT.Jv rq U Z d hlen (hwf d (CE _ hd))).symm
   .rw[BT.JX];exact aFF Z hlen hwf
end
end Go.Am
end
section
namespace Go.Am
open Go
section
variable{C:FY}{fid:FuncId}{ops:List Oper}{run:IT->Ah->Option Ka}{an:List Nat}
def L9{a b:List Nat}(h:(!UD a b)=true){x:Nat}(hx:x∈a):x∉b:=λhb=>by have:UD a b=true:=gw.2 ⟨x,hx,hb⟩;simp[this] at h
def swap{p s:St}{U σa U1:BT}{h ha h1:Ah}(hp:PH C fid ops run p U h σa ha)(hs:PH C fid ops run s σa ha U1 h1)(LP:Rs p.fp s.fp=true)
  (UJ:s.fp.R6=true->∀f,p.fl=some f->A8 h1 f.n f.p=some f.v):
  ∃σs Wa,PH C fid ops run s U h σs Wa/\PH C fid ops run p σs Wa U1 h1/\(s.fp.R6=true->Wa=h1)/\(p.fp.R6=true->h1=ha):=by
 unfold Rs FP.apart at LP;simp only[BC] at LP;obtain⟨⟨⟨⟨pf,D⟩,⟨⟨a1,a2⟩,a3⟩,a4⟩,he⟩,hl⟩:=LP;obtain⟨c,rfl,l,lJ,A,u,y,G,aAy⟩:=hp.spec pf;obtain⟨b,rfl,k,qT,E,m,qQ,F,r_⟩:=hs.spec D;have i:∀x∈s.fp.rs++s.fp.wf,(U.El c).at x=U.at x:=λx hx=>BT.GP c U x λq hq e=>L9 a1 (l q hq) (by rw[e];exact hx);have d:Nj U s.fp.news=true:=by
  rw[Ow] at m⊢;intro x t o hx;by_cases hw:x∈p.fp.wf;.exact L9 a3 (A x hw t o hx)
  .refine m x t o ?_;rw[BT.GP c U x λq hq e=>hw (by rw[<-e];exact l q hq)];exact hx
 have hlen:∀(Z:BT) (ws:List (Nat×Es)),(Z.El ws).length=Z.length:=λZ ws=>BT.JY ws Z;have aAz:(U.El b).El c=(U.El c).El b:=(BT.gu λq hq r hr e=>by have:=L9 a1 (l q hq);exact this (BU _ (by rw[e];exact k r hr))).symm
 have outs:∀x∈p.fp.rs++p.fp.wf,(U.El b).at x=U.at x:=λx hx=>BT.GP b U x λq hq e=>by
  rcases Ax.1 hx with hx|hx
  .exact L9 a2 (k q hq) (by rw[e];exact hx)
  .exact L9 a1 hx (BU _ (by rw[<-e];exact k q hq))
 have z:Nj (U.El b) p.fp.news=true:=by
  rw[Ow] at u⊢;intro x t o hx;rcases BT.XG b U x with h0|⟨q,hq,_,h2⟩
  .exact u x t o (by rw[<-h0];exact hx)
  .rw[h2] at hx;exact L9 a4 (qT q hq t o hx)
 by_cases JK:s.fp.R6=true
 .have g:p.fp.R6=false:=by
   cases hq:p.fp.R6 with
   |false=>rfl
   |true=>simp[JK,hq] at he
  have j:ha=h:=y g;subst j;refine⟨U.El b,h1,r_ U ha h1 (hlen U c).symm (λx hx=>(i x hx).symm) d (.inl ⟨rfl,rfl⟩),?_,λ_=>rfl,λe=>by rw[g] at e;cases e⟩;rw[<-aAz];exact aAy (U.El b) h1 h1 (hlen U b) outs z (.inr ⟨g,rfl,λ_ f hf=>UJ JK f hf⟩)
 .have aFI:s.fp.R6=false:=by simpa using JK
  have B:h1=ha:=qQ aFI;subst B;refine⟨U.El b,h,?_,?_,λe=>absurd e JK,λ_=>rfl⟩
  .by_cases g:p.fp.R6=true;.refine r_ U h h (hlen U c).symm (λx hx=>(i x hx).symm) d (.inr ⟨aFI,rfl,λH=>?_⟩);simp[g,H] at hl
   .have aK2:p.fp.R6=false:=by simpa using g
    have j:=y aK2;exact r_ U h h (hlen U c).symm (λx hx=>(i x hx).symm) d (.inl ⟨j.symm,j.symm⟩)
  .rw[<-aAz];exact aAy (U.El b) h h1 (hlen U b) outs z (.inl ⟨rfl,rfl⟩)
inductive Steps(C:FY)(fid:FuncId)(ops:List Oper)(run:IT->Ah->Option Ka)(an:List Nat):List KG->List St->BT->Ah->BT->Ah->Prop
 |nil {fl:List KG} {U:BT} {h:Ah}:Steps C fid ops run an fl [] U h U h
 |cons {fl:List KG} {s:St} {L:List St} {U U1 σf:BT} {h h1 hf:Ah}:PH C fid ops run s U h U1 h1->(s.fp.R6=true->∀f∈fl,Et an f.idx s.idx=false->A8 h1 f.n f.p=some f.v)->
  Steps C fid ops run an (s.fl.toList++fl) L U1 h1 σf hf->Steps C fid ops run an fl (s::L) U h σf hf
def Steps.sub{fl:List KG}{L:List St}{U σf:BT}{h hf:Ah}(hs:Steps C fid ops run an fl L U h σf hf):∀{b:List KG},(∀f∈b,f∈fl)->Steps C fid ops run an b L U h σf hf:=by
 induction hs with
 |nil=>intro b _;exact .nil
 |cons h1 h2 _ ih=>
  intro b Pc;refine .cons h1 (λhe f hf hb=>h2 he f (Pc f hf) hb) (ih λf hf=>?_);rcases Ax.1 hf with hf|hf
  .exact CE _ hf
  .exact BU _ (Pc f hf)
def PH.aB3{s:St}{U U':BT}{h h':Ah}(hs:PH C fid ops run s U h U' h'){f:KG}(hf:s.fl=some f):f.idx=s.idx:=by
 obtain⟨o,_,⟨_,_,Hp,_⟩|⟨r,U1,_,_,_,_,Hp,_⟩⟩:=hs;.rw[Hp] at hf;cases hf
 .rw[Hp] at hf;unfold La at hf;split at hf
  .split at hf;.cases hf;rfl
   .cases hf
  .cases hf
def Steps.lt{fl:List KG}{L:List St}{U σf:BT}{h hf:Ah}(hs:Steps C fid ops run an fl L U h σf hf):∀q∈L,q.idx<ops.length:=by
 induction hs with
 |nil=>simp
 |cons h1 _ _ ih=>
  intro q hq;rcases AS.1 hq with rfl|hq
  .obtain⟨o',h2,_⟩:=h1;exact(Ak.1 h2).1
  .exact ih q hq
def aAA{s:St}{B:List St}{σf:BT}{hf:Ah}:∀{A:List St} {fl:List KG} {U:BT} {h:Ah},Steps C fid ops run an fl (A++s::B) U h σf hf->(∀p∈A,Rs p.fp s.fp=true/\Et an p.idx s.idx=false)->
  ∃U1 h1,PH C fid ops run s U h U1 h1/\(s.fp.R6=true->∀f∈fl,Et an f.idx s.idx=false->A8 h1 f.n f.p=some f.v)/\Steps C fid ops run an (s.fl.toList++fl) (A++B) U1 h1 σf hf
 |[],fl,U,h,hs,_=>by
  cases hs with
  |cons h1 h2 d=>exact⟨_,_,h1,h2,d⟩
 |p::A,fl,U,h,hs,j=>by
  cases hs with
  |cons h1 h2 d=>
   rename_i σa ha;obtain⟨U1,x,i,e,t⟩:=aAA d λq hq=>j q (by simp[hq]);obtain⟨LP,aK3⟩:=j p AH;obtain⟨σs,Wa,w1,m,l,k⟩:=swap h1 i LP λhe f hf=>e he f (by rw[hf];simp) (by rw[h1.aB3 hf];exact aK3);refine⟨σs,Wa,w1,λhe f hf hb=>?_,.cons m (λhe f hf hb=>?_) (t.sub λf hf=>?_)⟩;.rw[l he];exact e he f (BU _ hf) hb
   .rw[k he];rcases Ax.1 hf with hf|hf
    .exfalso;unfold Rs at LP;simp only[BC] at LP;obtain⟨⟨⟨⟨_,z⟩,_⟩,u⟩,hl⟩:=LP;cases sG:s.fl with
     |none=>rw[sG] at hf;simp at hf
     |some g=>
      have b:s.fp.hl=true:=by
       obtain⟨o,_,⟨_,_,Hp,_⟩|⟨r,y,_,_,c,_,Hp,_⟩⟩:=i;.rw[Hp] at sG;cases sG
       .rw[Hp] at sG;unfold La at sG;split at sG;.rw[c];rfl
        .cases sG
      simp[he,b] at hl
    .exact h2 he f hf hb
   .rcases Ax.1 hf with hf|hf
    .exact BU _ (CE _ hf)
    .rcases Ax.1 hf with hf|hf
     .exact CE _ hf
     .exact BU _ (BU _ hf)
def Q7{D0:List Nat}{x:Nat}:∀(ds:List Nat) (m:Nat),(ds.foldl (λm e=>m|||bit e|||D0.getD e 0) m).testBit x=true↔m.testBit x=true\/∃e∈ds,x=e\/(D0.getD e 0).testBit x=true
 |[],m=>AH
 |d::ds,m=>by
  rw[my,Q7 ds];simp only[Nat.testBit_or,bit,Nat.testBit_two_pow,OT,C0,AS,exists_eq_or_imp];constructor
  .rintro((h|h)|h)
   .rcases h with h|h
    .exact .inl h
    .exact .inr (.inl (.inl h.symm))
   .exact .inr (.inl (.inr h))
   .exact .inr (.inr h)
  .rintro(h|(h|h)|h);.exact .inl (.inl (.inl h))
   .exact .inl (.inl (.inr h.symm))
   .exact .inl (.inr h)
   .exact .inr h
def LY:∀(l:List Oper) (D0:List Nat) (i:Nat),i<D0.length->(Lk D0 l).getD i 0=D0.getD i 0
 |[],D0,i,h=>rfl
 |o::l,D0,i,h=>by rw[Lk,LY l _ i Ei];simp[List.getD,Aj h]
def Q8:∀(l:List Oper) (D0:List Nat) (k:Nat) (o:Oper),l[k]?=some o->(∀e∈Oper.Vu o,e<D0.length+k)->∀x,
  ((Lk D0 l).getD (D0.length+k) 0).testBit x=true↔∃e∈Oper.Vu o,x=e\/((Lk D0 l).getD e 0).testBit x=true
 |[],D0,k,o,h,_,x=>by simp at h
 |o'::l,D0,0,o,h,hd,x=>by
  simp at h;subst h;rw[Lk,LY l _ (D0.length+0) AH];have b:(D0++[(Oper.Vu o').foldl (λm e=>m|||bit e|||D0.getD e 0) 0]).getD (D0.length+0) 0=(Oper.Vu o').foldl (λm e=>m|||bit e|||D0.getD e 0) 0:=by simp[List.getD]
  rw[b,Q7];simp only[Nat.zero_testBit,Cj,false_or];constructor;.rintro⟨e,he,h⟩;refine⟨e,he,h.imp id λh=>?_⟩;have hlt:e<D0.length:=hd e he;rw[LY l _ e Ei];simpa[List.getD,Aj hlt] using h
  .rintro⟨e,he,h⟩;refine⟨e,he,h.imp id λh=>?_⟩;have hlt:e<D0.length:=hd e he;rw[LY l _ e Ei] at h;simpa[List.getD,Aj hlt] using h
 |o'::l,D0,k+1,o,h,hd,x=>by simp at h;rw[Lk];have:=Q8 l (D0++[(Oper.Vu o').foldl (λm e=>m|||bit e|||D0.getD e 0) 0]) k o h (λe he=>by have:=hd e he;simp;omega) x;simp only[Au,A9,BJ,BV] at this;rw[(Ab:D0.length+(k+1)=D0.length+1+k)];exact this
def aJ{i:Nat}{o:Oper}(ho:ops[i]?=some o)(hd:∀e∈Oper.Vu o,e<i)(x:Nat):Et (Xf ops) x i=true↔∃e∈Oper.Vu o,x=e\/Et (Xf ops) x e=true:=by have:=Q8 ops [] i o ho (by simpa using hd) x;simpa[Et,Xf] using this
def PI(h:cH ops=true){i:Nat}{o:Oper}(ho:ops[i]?=some o):∀e∈Oper.Vu o,e<i:=by
 unfold cH at h;rw[Db] at h;have:=h (o,i) (by refine CD (i:=i) ?_;simp[List.getElem?_zipIdx,ho])
 intro e he;simpa using Db.1 this e he
def aK:∀{l:List (Nat×FP)},Xh.go an l=true->l.Pairwise λx y=>x.1≠y.1/\Et an y.1 x.1=false/\(Et an x.1 y.1=true\/Rs x.2 y.2=true)
 |[],_=> .nil
 |(i,f)::l,h=>by simp only[Xh.go,BC,Db] at h;refine .cons (λy hy=>?_) (aK h.2);have:=h.1 y hy;simp only[bne_iff_ne,aP4,OT] at this;exact⟨this.1.1,this.1.2,this.2⟩
def sa{d:Option Nat}{U:BT}{K:BT->IT}{h:Ah}{R:Ka}(hr:IT.step (B9 C) run (xB d U K) h=some R):∃U',M1 d U U'/\IT.step (B9 C) run (K U') h=some R:=by
 unfold xB at hr;cases d with
 |none=>exact⟨U,rfl,hr⟩
 |some d=>
  simp only at hr;cases hx:U.at d with
  |val v=>
   rw[hx] at hr;simp only[IT.step] at hr;split at hr;.exact⟨U.set d (.O8 true),by simp only[M1,hx];exact⟨true,rfl,rfl⟩,hr⟩
   .exact⟨U.set d (.O8 false),by simp only[M1,hx];exact⟨false,rfl,rfl⟩,hr⟩
   .cases hr
  |_=>rw[hx] at hr;exact⟨U,by simp only[M1,hx],hr⟩
def Ox{i:Nat}{t:IT}{h:Ah}{R:Ka}:∀{fl:List KG},IT.step (B9 C) run (Sl an i fl t) h=some R->(∀f∈fl,Et an f.idx i=false->A8 h f.n f.p=some f.v)/\IT.step (B9 C) run t h=some R
 |[],hr=>⟨AH,hr⟩
 |f::fl,hr=>by
  unfold Sl at hr;by_cases hb:Et an f.idx i=true
  .rw[Af hb] at hr;obtain⟨d,c⟩:=Ox hr;refine⟨λg hg b=>?_,c⟩;rcases AS.1 hg with rfl|hg
   .rw[hb] at b;cases b
   .exact d g hg b
  .rw[Ad hb] at hr;simp only[IT.step] at hr;split at hr
   .rename_i v hv;split at hr
    .rename_i Ky;obtain⟨d,c⟩:=Ox hr;refine⟨λg hg b=>?_,c⟩;rcases AS.1 hg with rfl|hg
     .rw[Aa.beq_eq Ky];exact hv
     .exact d g hg b
    .cases hr
   .cases hr
def RE{K:BT->IT}{R:Ka}:∀{rest:List Nat} {b:List (Nat×FP)} {fl:List KG} {U:BT} {h:Ah},IT.step (B9 C) run (Rt C fid ops an rest b fl U K) h=some R->
  ∃L σf hf,Steps C fid ops run an fl L U h σf hf/\Xh ops.length an (b.reverse++L.map λs=>(s.idx,s.fp))=true/\IT.step (B9 C) run (K σf) hf=some R
 |[],b,fl,U,h,hr=>by
  unfold Rt at hr;split at hr;.rename_i LP;exact⟨[],U,h,.nil,by simpa using LP,hr⟩
  .cases hr
 |i::rest,b,fl,U,h,hr=>by
  unfold Rt at hr;cases ho:ops[i]? with
  |none=>rw[ho] at hr;cases hr
  |some o=>
   rw[ho] at hr;simp only at hr;split at hr
   .rename_i hg;split at hr;.cases hr
    .rename_i r hc;obtain⟨U1,h1,hd,hr⟩:=Z3 hr;have FZ:(r.R6=true->∀f∈fl,Et an f.idx i=false->A8 h1 f.n f.p=some f.v)/\IT.step (B9 C) run (xB (if Sn ops i then o.dst else none) U1 λj=>Rt C fid ops an rest ((i,Vv C ops U o (some r))::b) (MY i r U1 fl) j K) h1=some R:=by
      split at hr;.obtain⟨d,c⟩:=Ox hr;exact⟨λ_=>d,c⟩
      .rename_i he;exact⟨λe=>absurd e he,hr⟩
     obtain⟨UJ,hr⟩:=FZ;obtain⟨U',ha,hr⟩:=sa hr;rw[XH] at hr;obtain⟨L,σf,hf,d,c,g⟩:=RE hr;exact⟨{idx:=i,fp:=Vv C ops U o (some r),fl:=La i r U1}::L,σf,hf,.cons ⟨o,ho,.inr ⟨r,U1,hg,hc,rfl,hd,rfl,ha⟩⟩ UJ d,by simpa using c,g⟩
   .rename_i hg;obtain⟨L,σf,hf,d,c,g⟩:=RE hr;exact⟨{idx:=i,fp:=Vv C ops U o none,fl:=none}::L,σf,hf,.cons ⟨o,ho,.inl ⟨hg,rfl,rfl,rfl,rfl⟩⟩ (λe=>by simp[Vv] at e) d,by simpa using c,g⟩
   .cases hr
end
section
variable{C:FY}{γ0 γ:Gh}{w0 w:World}{O:Nat->Nat}{U:BT}{h:Ah}{a:Act}{fid:FuncId}
def LZ(hr:Dh C γ0 w0 γ O U h a w){ops:Array Oper}{o:Oper}{b:Bool}(hg:IY ops.toList U o= .Nz b):Region.wanted o (yielded ops a.tmps)=b:=by
 unfold IY at hg;unfold Region.wanted;cases ho:o.guard with
 |none=>rw[ho] at hg;cases hg;rfl
 |some g=>
  obtain⟨j,want⟩:=g;rw[ho] at hg;simp only[aFm] at hg⊢;unfold yielded;cases hd:(ops[j]?).bind (·.dst) with
  |none=>rw[hd] at hg;cases hg
  |some s=>
   rw[hd] at hg;simp only[Cw] at hg⊢;have h0:=hr.fr.It s;cases hx:U.at s with
   |O8 c=>
    rw[hx] at hg h0;cases hg;have hl:s<a.tmps.size:=by rw[<-hr.fr.size];exact BT.Px (by rw[hx];simp)
    have hv:a.tmps.getD s undef= .bool c:=h0;have:a.tmps[s]?=some (.bool c):=by rw[CX hl];rw[Hk,CX hl] at hv;exact Ca some hv
    rw[this];rfl
   |skip=>
    rw[hx] at hg h0;cases hg;have hv:a.tmps.getD s undef=undef:=h0;have hne:∀c,a.tmps[s]?≠some (.bool c):=λc hc=>by rw[Hk,hc] at hv;cases hv
    cases ht:a.tmps[s]? with
    |none=>rfl
    |some v=>
     cases v with
     |bool c=>exact absurd ht (hne c)
     |_=>rfl
   |val v=>rw[hx] at hg;cases hg
   |_=>rw[hx] at hg;cases hg
def Dh.aFK(hr:Dh C γ0 w0 γ O U h a w){d:Option Nat}{U':BT}(ha:M1 d U U'):Dh C γ0 w0 γ O U' h a w:=by
 unfold M1 at ha;cases d with
 |none=>simp only at ha;rw[ha];exact hr
 |some d=>
  simp only at ha;cases hx:U.at d with
  |val v=>rw[hx] at ha;obtain⟨b,rfl,rfl⟩:=ha;have h0:=hr.fr.It d;rw[hx] at h0;exact hr.lW h0
  |_=>rw[hx] at ha;rw[ha];exact hr
structure aK4(ops:Array Oper)(listed:Array Bool)(L:List St):Prop where
 size:listed.size=ops.size
 un:∀i,i<ops.size->(listed.getD i false=false↔i∈L.map (·.idx))
 closed:∀j,listed.getD j false=true->∀e,Et (Xf ops.toList) e j=true->listed.getD e false=true
abbrev xU(an:List Nat)(L:List St):Prop:=L.Pairwise λx y=>x.idx≠y.idx/\Et an y.idx x.idx=false/\(Et an x.idx y.idx=true\/Rs x.fp y.fp=true)
def gy{run:IT->Ah->Option Ka}(D:Fc C run){ops:Array Oper}{Q:Exit->Act->World->Prop}(Gd:cH ops.toList=true){σf:BT}{hf:Ah}(hQ:∀γ' k a' w',Dh C γ0 w0 γ' k σf hf a' w'->Q .normal a' w'):
  ∀(fuel:Nat) (L:List St) (listed:Array Bool) (γ:Gh) (O:Nat->Nat) (U:BT) (h:Ah) (a:Act) (w:World),L.length=fuel->Steps C fid ops.toList run (Xf ops.toList) [] L U h σf hf->xU (Xf ops.toList) L->aK4 ops listed L->Dh C γ0 w0 γ O U h a w->
   wpAny C.P .any ops Q fuel listed a w:=by
 intro fuel;induction fuel with
 |zero=>
  intro L listed γ O U h a w l hs hp ho hr;have u:L=[]:=Dy l;subst u;cases hs;refine⟨List.eq_nil_iff_forall_not_mem.2 λi hi=>?_,hQ _ _ _ _ hr⟩;obtain⟨h0,o,A_,_⟩:=mem_ready.1 hi;have hlt:i<ops.size:=(A7.1 A_).1;have Zy:listed.getD i false=false:=by
   have hl:i<listed.size:=by rw[ho.size];exact hlt
   simpa[Array.getD,hl] using h0
  have:=(ho.un i hlt).1 Zy;simp at this
 |succ fuel ih=>
  intro L listed γ O U h a w l hs hp ho hr;have cS:∀i,i<ops.size->listed.getD i true=listed.getD i false:=λi hi=>by
   have hl:i<listed.size:=by rw[ho.size];exact hi
   simp[Array.getD,hl]
  constructor
  .intro UJ;exfalso;cases L with
   |nil=>simp at l
   |cons s0 L=>
    obtain⟨o,A_,_⟩:∃o,ops.toList[s0.idx]?=some o/\True:=by
     cases hs with
     |cons h1 _ _=>obtain⟨o,h2,_⟩:=h1;exact⟨o,h2,trivial⟩
    have sH:ops[s0.idx]?=some o:=by simpa using A_
    have hlt:s0.idx<ops.size:=(A7.1 sH).1;have:s0.idx∈Region.ready .any ops listed:=by
     refine mem_ready.2 ⟨?_,o,sH,λe he hb=>?_⟩;.rw[cS _ hlt];exact(ho.un _ hlt).2 AH
     .have f:e.on∈Oper.Vu o:=Ck.2 ⟨e,by simpa using he,by rw[Af hb]⟩;have z:=PI Gd A_ e.on f;cases hl:listed.getD e.on false with
      |true=>rfl
      |false=>
       have hm:=(ho.un e.on Ab).1 hl;simp only[Bl,AS] at hm;rcases hm with hm|hm
       .omega
       .obtain⟨y,hy,m⟩:=Bk.1 hm;have:=((aOG.1 hp).1 y hy).2.1;rw[m,(aJ A_ (PI Gd A_) e.on).2 ⟨e.on,f,.inl rfl⟩] at this;cases this
    rw[UJ] at this;cases this
  .intro i hi;obtain⟨h0,o,A_,aFL⟩:=mem_ready.1 hi;have hlt:i<ops.size:=(A7.1 A_).1;rw[cS i hlt] at h0;obtain⟨s,n,rfl⟩:=Bk.1 ((ho.un i hlt).1 h0);obtain⟨A,B,rfl⟩:=List.append_of_mem n;have sH:ops.toList[s.idx]?=some o:=by simpa using A_
   have aFM:∀e,Et (Xf ops.toList) e s.idx=true->listed.getD e false=true:=λe he=>by
    obtain⟨d,hd,Jf⟩:=(aJ sH (PI Gd sH) e).1 he;obtain⟨E,f,hb⟩:=Ck.1 hd;split at hb
    .rename_i Qn;cases hb;have qV:=aFL E (by simpa using f) Qn;rcases Jf with rfl|Jf
     .exact qV
     .exact ho.closed _ qV e Jf
    .cases hb
   have b:=(aJI.1 hp).2.2;have aB4:∀p∈A++s::B,p.idx<ops.size:=λp t=>by simpa using hs.lt p t
   obtain⟨U1,h1,x,_,v⟩:=aAA hs λp g=>by
    have hb:Et (Xf ops.toList) p.idx s.idx=false:=by
     cases Qn:Et (Xf ops.toList) p.idx s.idx with
     |false=>rfl
     |true=>have h1:=aFM _ Qn;have h2:=(ho.un p.idx (aB4 p (by simp[g]))).2 (Bk.2 ⟨p,by simp[g],rfl⟩);rw[h1] at h2;cases h2
    refine⟨?_,hb⟩;have:=(b p g s AH).2.2;rw[hb] at this;exact this.resolve_left AH
   have aAB:∀γ' k a' w',Dh C γ0 w0 γ' k U1 h1 a' w'->wpAny C.P .any ops Q fuel (listed.setIfInBounds s.idx true) a' w':=λγ' k a' w' FZ=>by
    refine ih (A++B) _ γ' k U1 h1 a' w' (by simp at l⊢;omega) (v.sub AH) ?_ ⟨by simp[ho.size],λj hj=>?_,λj hj e he=>?_⟩ FZ;.exact hp.sublist ((A4 A).append (Uy s B))
    .by_cases c:j=s.idx
     .subst c;have aB5:s.idx∉(A++B).map (·.idx):=λhm=>by
       obtain⟨q,hq,he⟩:=Bk.1 hm;rcases Ax.1 hq with hq|hq
       .exact(b q hq s AH).1 he
       .exact(aOG.1 (aJI.1 hp).2.1).1 q hq |>.1 he.symm
      have ht:(listed.setIfInBounds s.idx true).getD s.idx false=true:=by
       have hl:s.idx<listed.size:=by rw[ho.size];exact hlt
       simp[Array.getD,hl]
      rw[ht];exact⟨λe=>absurd e AH,λe=>absurd e aB5⟩
     .rw[getD_set_ne false (λe=>c e.symm),ho.un j hj];simp only[BF,Bl,Ax,AS];constructor
      .rintro(e|e|e);.exact .inl e
       .exact absurd e c
       .exact .inr e
      .rintro(e|e);.exact .inl e
       .exact .inr (.inr e)
    .by_cases c:j=s.idx;.subst c;exact getD_set_true (aFM e he)
     .rw[getD_set_ne false (λe=>c e.symm)] at hj;exact getD_set_true (ho.closed j hj e he)
   unfold wpOp;rw[A_];obtain⟨o',zy,⟨hg,_,_,rfl,rfl⟩|⟨r,F,hg,hc,_,hd,_,ha⟩⟩:=x;.rw[sH] at zy;cases zy;simp only[LZ hr hg,Cj,DQ];exact aAB _ _ _ _ (hr.put λ_ _=>rfl)
   .rw[sH] at zy;cases zy;simp only[LZ hr hg,BN];exact .inl (rh D hc hd hr λγ' k a' w' FZ=>aAB γ' k a' w' (FZ.aFK ha))
end
end Go.Am
end
end
