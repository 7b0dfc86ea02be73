/- Lemmas -/
import Derived.Test.YtkaolmlpcamojaaGreatDoorH5
import Derived.MapKept
set_option linter.all false
section
namespace Go.Am
open Go
section
variable{C:Gb}{γ0 γ γ':Gh}{w0 w w':World}{Z:Nat->Nat}{U:BU}{h:Ai}{a:Act}{fid:FuncId}{ops:List Oper}
def XZ{s t:Aj}(h:s≠t):((⟨⟨s⟩⟩:ByteArray)==⟨⟨t⟩⟩)=false:=by
 refine Bool.eq_false_iff.2 λhc=>h ?_;have:=(MapKept.bytes_beq _ _).1 hc;injection this with this
 injection this with this
def RV(s:Aj):((⟨⟨s⟩⟩:ByteArray)==⟨⟨s⟩⟩)=true:=(MapKept.bytes_beq _ _).2 rfl
def oF{s:Aj}:∀{es:List (Aa×Aa)} {l:List MapEntry} {i:Nat} {r:Option Aa},LH γ es l->SG s es=some r->
  match r with
  |none=>Instr.findNow .string (.string ⟨⟨s⟩⟩) l i=some none
  |some v=>∃(j:Nat) (e:MapEntry),Instr.findNow .string (.string ⟨⟨s⟩⟩) l i=some (some (i+j,e.val))/\BQ γ v e.val
 |[],l,i,r,b,hf=>by rw[show l=[] from b];cases hf;rfl
 |(k,v)::es,l,i,r,b,hf=>by
  obtain⟨e,l',rfl,h1,h2,f⟩:=b;unfold SG at hf;split at hf;.rename_i KR;cases KR
  .rename_i t v' VW KR;cases KR;have hk:e.key= .string ⟨⟨t⟩⟩:=h1;split at hf;.rename_i Ib;subst Ib;cases hf;exact⟨0,e,by simp[Instr.findNow,hk,Instr.sameNow,RV],h2⟩
   .rename_i Ib;have ih:=oF (i:=i+1) f hf;have hne:=XZ Ib;cases r with
    |none=>simpa[Instr.findNow,hk,Instr.sameNow,hne] using ih
    |some v2=>obtain⟨j,g,d,c⟩:=ih;exact⟨j+1,g,by simp only[Instr.findNow,hk,Instr.sameNow,hne];rw[d];congr 3;omega,c⟩
  .cases hf
def zG{s:Aj}{v:Aa}{u:Value}(hv:BQ γ v u):∀{es VW:List (Aa×Aa)} {l:List MapEntry} {i:Nat},LH γ es l->NW s v es=some VW->
  (Instr.findNow .string (.string ⟨⟨s⟩⟩) l i=some none/\∀born,LH γ VW (l++[{key:= .string ⟨⟨s⟩⟩,val:=u,born}]))\/
  ∃j e,Instr.findNow .string (.string ⟨⟨s⟩⟩) l i=some (some (i+j,e.val))/\l[j]?=some e/\e.key= .string ⟨⟨s⟩⟩/\LH γ VW (l.modify j λe=>{e with key:= .string ⟨⟨s⟩⟩,val:=u})
 |[],VW,l,i,d,hp=>by rw[show l=[] from d];cases hp;exact .inl ⟨rfl,λborn=>⟨_,[],rfl,rfl,hv,rfl⟩⟩
 |(k,v0)::es,VW,l,i,d,hp=>by
  obtain⟨e,l',rfl,h1,h2,f⟩:=d;unfold NW at hp;split at hp;.rename_i KR;cases KR
  .rename_i t v' o KR;cases KR;have hk:e.key= .string ⟨⟨t⟩⟩:=h1;split at hp;.rename_i Ib;subst Ib;cases hp;exact .inr ⟨0,e,by simp[Instr.findNow,hk,Instr.sameNow,RV],rfl,hk,_,l',rfl,rfl,hv,f⟩
   .rename_i Ib;have hne:=XZ Ib;cases hq:NW s v es with
    |none=>rw[hq] at hp;cases hp
    |some n=>
     rw[hq] at hp;cases hp;rcases zG hv (i:=i+1) f hq with⟨c,b⟩|⟨j,p,c,b,m,g⟩
     .exact .inl ⟨by simpa[Instr.findNow,hk,Instr.sameNow,hne] using c,λborn=>⟨e,_,rfl,h1,h2,b born⟩⟩
     .exact .inr ⟨j+1,p,by simp only[Instr.findNow,hk,Instr.sameNow,hne];rw[c];congr 3;omega,b,m,e,_,AH,h1,h2,g⟩
  .cases hp
def Uf{es:Array MapEntry}{clock:Nat}{k v:Value}(h:clock=es.size/\∀(i:Nat) (e:MapEntry),es[i]?=some e->e.born=i):
  clock+1=(es.push {key:=k,val:=v,born:=clock}).size/\∀(i:Nat) (e:MapEntry),(es.push {key:=k,val:=v,born:=clock})[i]?=some e->e.born=i:=by
 obtain⟨rfl,h⟩:=h;refine⟨AH,λi e he=>?_⟩;rw[aU] at he;split at he;.rename_i hi;cases he;exact hi.symm
 .exact h i e he
def Vd{es:Array MapEntry}{clock j:Nat}{f:MapEntry->MapEntry}(h:clock=es.size/\∀(i:Nat) (e:MapEntry),es[i]?=some e->e.born=i)(hf:∀e,(f e).born=e.born):
  clock=(es.modify j f).size/\∀(i:Nat) (e:MapEntry),(es.modify j f)[i]?=some e->e.born=i:=by
 refine⟨by simpa using h.1,λi e he=>?_⟩;rw[Nx] at he;split at he
 .cases hx:es[i]? with
  |none=>rw[hx] at he;cases he
  |some x=>rw[hx] at he;cases he;rw[hf];exact h.2 i x hx
 .exact h.2 i e he
def N4(hi:Hv γ h w){g id:Nat}{es VW:List (Aa×Aa)}(S2:h[id]?=some (.map es))(hg:γ.mu id=some g){o:Obj}{ents':Array MapEntry}{clock':Nat}(hw:w.heap[g]?=some o)(hr:tg γ VW ents' clock'):
  Hv γ (h.set id (.map VW)) {w with heap:=w.heap.setIfInBounds g (.map ents' clock')}/\LI γ w γ {w with heap:=w.heap.setIfInBounds g (.map ents' clock')}:=by
 obtain⟨l,p,TX⟩:=hi.MC id _ S2 AH;rw[hg] at p;cases p;obtain⟨NZ,c⟩:=MapKept.heap_set (o':= .map ents' clock') hw;have uniq:∀FW x,h[FW]?=some x->x≠ .CR->γ.mu FW=some g->FW=id:=λFW x hx e hm=>by obtain⟨b',p,q⟩:=hi.MC FW x hx e;rw[hm] at p;cases p;rw[TX] at q;cases q;rfl
 constructor
 .refine⟨λb o v hb=>?_,λFW y Im hy=>?_,λFW cs hc b hb=>?_,λFW f hc b hb=>?_,λFW b hb=>by simpa using hi.mu FW b hb,λb x hx=>?_,λb n hb=>?_⟩;rotate_left 5
  .obtain⟨⟨tC,j,tj,p,q⟩,r⟩:=hi.sz b n hb;have hne:b≠g:=λhe=>by subst he;obtain⟨i,d,k,_⟩:=hi.map id es S2 b hg;rw[p] at k;cases k
   exact⟨⟨tC,j,tj,by rw[c b hne];exact p,q⟩,r⟩
  .obtain⟨p,q,r⟩:=hi.IF b o v hb;have:b≠g:=λhe=>by subst he;rw[TX] at r;rcases r with r|⟨_,_,_,r,_⟩<;>cases r
   exact⟨by rw[CU (w:=w) (c b this)];exact p,q,r⟩
  .by_cases he:FW=id;.subst he;exact⟨g,hg,TX⟩
   .rw[As (λx=>he x.symm)] at Im;exact hi.MC FW y Im hy
  .by_cases he:FW=id;.subst he;rw[AO (hi.mu _ _ hg)] at hc;cases hc
   .rw[As (λx=>he x.symm)] at hc;have RP:b≠g:=λhx=>by subst hx;exact he (uniq FW _ hc AH hb)
    obtain⟨tC,j,tj,p,pf,q,r⟩:=hi.cells FW cs hc b hb;exact⟨tC,j,tj,by rw[c b RP];exact p,pf,q,r⟩
  .by_cases he:FW=id;.subst he;rw[hg] at hb;cases hb;rw[AO (hi.mu _ _ hg)] at hc;cases hc;exact⟨ents',clock',NZ,hr⟩
   .rw[As (λx=>he x.symm)] at hc;have RP:b≠g:=λhx=>by subst hx;exact he (uniq FW _ hc AH hb)
    obtain⟨DB,clock,p,q⟩:=hi.map FW f hc b hb;exact⟨DB,clock,by rw[c b RP];exact p,q⟩
  .have:=hi.Bs b x hx;simpa using this
 .refine⟨.refl _,AH,rfl,rfl,rfl,λb hb hn=>⟨?_,rfl⟩⟩;exact c b (λhe=>by subst he;exact hn id TX)
def RY(hr:Df C γ0 w0 γ Z U h a w){x y z:Operand}{d c b:Aa}(ha:BB C U [x,y,z]=some [d,c,b]):BQ γ d (a.eval x)/\BQ γ c (a.eval y)/\BQ γ b (a.eval z):=by obtain⟨_,_,_,e,h1,h2,f⟩:=(D0 hr ha).U7;simp only[Bj,C4,E5,M3] at e;obtain⟨rfl,rfl,rfl⟩:=e;exact⟨h1,h2,f⟩
def oG{o:Oper}{t kt e:TypeId}{m k x:Operand}{n p g:Aa}{h':Ai}(ho:o.op= .insert t m k x\/o.op= .mapUpdate t m k x)(hd:o.dst=none)(ht:C.P.underlying t=some (.map kt e))(hk:C.P.underlying kt=some .string)(ha:BB C U [m,k,x]=some [n,p,g])
  (hm:Rg h n p g=some h') (hr:Df C γ0 w0 γ Z U h a w):F9 C γ0 w0 o a w U h':=by
 obtain⟨h1,h2,v⟩:=RY hr ha;have Nb:∀w',(Instr.mapUpdate t (a.eval m) (a.eval k) (a.eval x)).run C.P w= .ok () w'->(execOp a.eval o).run C.P w= .ok .skip w':=λw' A3=>by rcases ho with ho|ho<;>simp[execOp,ho,A3]
 unfold Rg at hm;split at hm
 .rename_i id s;obtain⟨b,hb,jy⟩:=h1;have c:a.eval k= .string ⟨⟨s⟩⟩:=h2;split at hm
  .rename_i es S2;cases hp:NW s g es with
   |none=>rw[hp] at hm;cases hm
   |some VW=>
    rw[hp] at hm;cases hm;obtain⟨DB,clock,hw,u,hB⟩:=hr.D5.map id es S2 b hb;have jz:(Instr.checkKey false 10000 kt (.string ⟨⟨s⟩⟩)).run C.P w= .ok () w:=MapKept.run_checkKey (k:= .string ⟨⟨s⟩⟩) hk (by simp[MapKept.IsKey]) false 9999;rcases zG v (i:=0) u hp with⟨f,l⟩|⟨j,en,f,l,r,q⟩
    .have A3:(Instr.mapUpdate t (a.eval m) (a.eval k) (a.eval x)).run C.P w= .ok () {w with heap:=w.heap.setIfInBounds b (.map (DB.push {key:= .string ⟨⟨s⟩⟩,val:=a.eval x,born:=clock}) (clock+1))}:=by rw[jy,c];simp[Instr.mapUpdate,run_underlying ht,MapKept.run_getObj_map hw,jz,MapKept.run_findKey hk f,MapKept.run_setObj_map _ hw,Result.andThen]
     obtain⟨hi,Kv⟩:=N4 (VW:=VW) (ents':=DB.push {key:= .string ⟨⟨s⟩⟩,val:=a.eval x,born:=clock}) (clock':=clock+1) hr.D5 S2 hb hw ⟨by simpa using l clock,Uf hB⟩;exact F9.skip (Nb _ A3) (by rw[hd];exact hr.Jj hi Kv)
    .have hj:DB[j]?=some en:=by simpa using l
     rw[BW] at f;have A3:(Instr.mapUpdate t (a.eval m) (a.eval k) (a.eval x)).run C.P w= .ok () {w with heap:=w.heap.setIfInBounds b (.map (DB.modify j λe=>{e with key:= .string ⟨⟨s⟩⟩,val:=a.eval x}) clock)}:=by rw[jy,c];simp[Instr.mapUpdate,run_underlying ht,MapKept.run_getObj_map hw,jz,MapKept.run_findKey hk f,hj,r,MapKept.run_keyThatStays (d:= .string) (k:= .string ⟨⟨s⟩⟩) (by simp[MapKept.IsKey]),MapKept.run_setObj_map _ hw,Result.andThen]
     obtain⟨hi,Kv⟩:=N4 (VW:=VW) (ents':=DB.modify j λe=>{e with key:= .string ⟨⟨s⟩⟩,val:=a.eval x}) (clock':=clock) hr.D5 S2 hb hw ⟨by simpa using q,Vd hB λ_=>rfl⟩;exact F9.skip (Nb _ A3) (by rw[hd];exact hr.Jj hi Kv)
  .cases hm
 .cases hm
def uj{o:Oper}{t:TypeId}(ho:o.op= .makeMap t none)(hr:Df C γ0 w0 γ Z U h a w):F9 C γ0 w0 o a w (U.put o.dst (.val (.map (some h.length)))) (h++[.map []]):=by
 obtain⟨hi,ha⟩:=GX hr.D5 (.map #[] 0) (.map []) none (.inr ⟨rfl,rfl,rfl⟩);have A3:(Instr.makeMap t none).run C.P w= .ok (.map (some w.heap.size)) (w.alloc (.map #[] 0)):=by simp[Instr.makeMap]
 exact F9.value (by simp only[execOp,ho];exact DJ A3) ((hr.Jj hi ha).put λ_ _=>⟨w.heap.size,by simp[Gh.B2],rfl⟩)
def Lv(key elem:TypeId)(index:Value)(commaOk:Bool)(es:Array MapEntry):Sem Value:=do
 Instr.checkKey es.isEmpty 10000 key index
 let(v,ok)<-match<-Instr.findKey key index es.toList with
  |some (_,v)=>pure (v,true)
  |none=>pure (<-zeroValue elem,false)
 pure (if commaOk then .tuple #[v,.bool ok] else v)
def uk{o:Oper}{t kt e:TypeId}{m k:Operand}{d f z r:Aa}{ok:Bool}(ho:o.op= .lookup t m k ok)(ht:C.P.underlying t=some (.map kt e))(hk:C.P.underlying kt=some .string)(hz:Hl C.P e=some z)(ha:BB C U [m,k]=some [d,f])(hm:PM h z ok d f=some r)(hr:Df C γ0 w0 γ Z U h a w):
  F9 C γ0 w0 o a w (U.put o.dst (.val r)) h:=by
 obtain⟨_,_,e0,h1,h2⟩:=Fh hr ha;cases e0;obtain⟨l,qm,g⟩:=Io hz;have HN:∀(es:Array MapEntry) (q:Option Aa),(Instr.lookup t (a.eval m) (a.eval k) ok).run C.P w=(Lv kt e (a.eval k) ok es).run C.P w->
   ∀s,a.eval k= .string ⟨⟨s⟩⟩->(match q with|none=>Instr.findNow .string (.string ⟨⟨s⟩⟩) es.toList 0=some none|some v=>∃(j:Nat) (e:MapEntry),Instr.findNow .string (.string ⟨⟨s⟩⟩) es.toList 0=some (some (0+j,e.val))/\BQ γ v e.val)->
   (match q with|some v=>if ok then Aa.tuple [v,.bool true] else v|none=>if ok then .tuple [z,.bool false] else z)=r->F9 C γ0 w0 o a w (U.put o.dst (.val r)) h:=by
  intro es q S2 s ā hq Vb;have jz:(Instr.checkKey es.isEmpty 10000 kt (.string ⟨⟨s⟩⟩)).run C.P w= .ok () w:=MapKept.run_checkKey (k:= .string ⟨⟨s⟩⟩) hk (by simp[MapKept.IsKey]) es.isEmpty 9999;have A3:∃v,(Instr.lookup t (a.eval m) (a.eval k) ok).run C.P w= .ok v w/\BQ γ r v:=by
   cases q with
   |none=>
    refine⟨if ok then .tuple #[l,.bool false] else l,?_,?_⟩;.rw[S2,ā];unfold Lv;simp only[Sem.run_bind,Result.andThen_ok,jz,MapKept.run_findKey hk hq,g,Sem.run_bind,Sem.run_pure]
    .rw[<-Vb];have c:=Fv (γ:=γ) qm;cases ok with
     |true=>exact⟨_,rfl,_,_,rfl,c,_,_,rfl,rfl,rfl⟩
     |false=>exact c
   |some v=>
    obtain⟨j,en,p,n⟩:=hq;refine⟨if ok then .tuple #[en.val,.bool true] else en.val,?_,?_⟩;.rw[S2,ā];unfold Lv;simp only[Sem.run_bind,Result.andThen_ok,jz,MapKept.run_findKey hk p,Sem.run_bind,Sem.run_pure]
    .rw[<-Vb];cases ok with
     |true=>exact⟨_,rfl,_,_,rfl,n,_,_,rfl,rfl,rfl⟩
     |false=>exact n
  obtain⟨v,A3,zE⟩:=A3;exact F9.value (by simp only[execOp,ho];exact DJ A3) (hr.put λ_ _=>zE)
 unfold PM at hm;cases hf:T1 h d f with
 |none=>rw[hf] at hm;cases hm
 |some q=>
  rw[hf] at hm;simp only[BY,BC] at hm;unfold T1 at hf;split at hf;.rename_i s;cases hf;exact HN #[] none (by rw[show a.eval m=_ from h1];simp only[Instr.lookup,Lv,Sem.run_bind,run_underlying ht,Result.andThen_ok,Sem.run_pure];rfl) s h2 rfl hm
  .rename_i id s;obtain⟨b,hb,jy⟩:=h1;split at hf;.rename_i es S2;obtain⟨DB,clock,hw,u,_⟩:=hr.D5.map id es S2 b hb;exact HN DB q (by rw[jy];simp only[Instr.lookup,Lv,Sem.run_bind,run_underlying ht,MapKept.run_getObj_map hw,Result.andThen_ok,Sem.run_pure];rfl) s h2 (oF (i:=0) u hf) hm
   .cases hf
  .cases hf
def X0{size:Nat}{v:Aa}(h:PO size v=true):v= .slnil\/v= .Gl size\/v= .sl size []:=by
 unfold PO at h;split at h;.exact .inl rfl
 .exact .inr (.inl (by simpa using h))
 .exact .inr (.inr (by simpa using h))
 .cases h
def j_{o:Oper}{c:Call}{t t' e:TypeId}{n b:Nat}{s x:Operand}{v u r:Aa}{h':Ai}(ho:o.op= .call c)(hc:c.callee= .builtin .append)(h0:c.argTypes[0]?=some t)(h1:c.argTypes[1]?=some t')(ET:c.args.toList=[s,x])(ht:C.P.underlying t=some (.slice e))
  (Gs:(∃H,C.P.underlying t'=some (.slice H))\/C.P.underlying t'=some .string) (Ls:B4 C.P e=some (n+1)) (ue:Kq C.P e=some (b+1)) (FJ:LF C U s=true) (nD:MA C.P e=true) (hv:BB C U [s,x]=some [v,u])
  (hp:K8 h (n+1) (b+1) v u=some (h',r)) (hr:Df C γ0 w0 γ Z U h a w):F9 C γ0 w0 o a w ((U.DR (Ds U s)).put o.dst (.val r)) h':=by
 obtain⟨i,z,hi,hz,eQ⟩:=LL nD;have Q5:=Ka Ls hi;have G:=Mi ue hi;obtain⟨_,_,e0,hvs,sK⟩:=Fh hr hv;cases e0;have ö:E6 C U s=some v:=by
  unfold BB at hv;split at hv;.rename_i p ps J L;cases hv;exact J
  .cases hv
 have Jk:PO (n+1) v=true/\((∃AE,H9 (n+1) (b+1) .slnil u=some (.sl (n+1) AE)/\AE≠[]/\u= .sl (n+1) AE/\AE.length*(b+1)<=AW/\h'=h++[.cells AE.flatten]/\r= .CE h.length 0 AE.length (n+1))\/((u= .slnil\/(∃B,u= .Gl B)\/∃B,u= .sl B [])/\h'=h/\r=v)):=by
  unfold K8 at hp;split at hp
  .rename_i B AE;split at hp
   .rename_i WD;refine⟨WD,?_⟩;split at hp;.cases hp;exact .inr ⟨.inr (.inr ⟨_,rfl⟩),rfl,rfl⟩
    .rename_i hne;split at hp
     .rename_i Ic;cases hp;obtain⟨rfl,hb⟩:=Ic;refine .inl ⟨AE,?_,hne,rfl,hb,rfl,rfl⟩;cases AE with
      |nil=>exact absurd rfl hne
      |cons q AE=>simp only[H9,DM,BJ];rw[Af hb]
     .cases hp
   .cases hp
  .split at hp;.rename_i WD;cases hp;exact⟨WD,.inr ⟨.inl rfl,rfl,rfl⟩⟩
   .cases hp
  .split at hp;.rename_i WD;simp only[Bv] at WD;cases hp;exact⟨WD.1,.inr ⟨.inr (.inl ⟨_,rfl⟩),rfl,rfl⟩⟩
   .cases hp
  .cases hp
 obtain⟨WD,Jk⟩:=Jk;obtain⟨F,Er,KQ,DH,m⟩:=P0 hr FJ ö (U.DR (Ds U s)).length none;have KR:c.args.map a.eval=#[a.eval s,a.eval x]:=by apply HM;simp[ET]
 have Nb:∀v' w',(Builtin.append_ #[t,t'] o.type #[a.eval s,a.eval x]).run C.P w= .ok v' w'->(execOp a.eval o).run C.P w= .ok (.value v') w':=λv' w' A3=>by
  have:execOp a.eval o=(do pure (Next.value (<-Builtin.append_ #[t,t'] o.type #[a.eval s,a.eval x]))):=by rw[<-KR,<-OR (ty:=o.type) h0 h1];simp only[execOp,ho,resolve,hc];rfl
  rw[this];exact DJ A3
 have zH:(a.eval s= .slice none 0 0/\v= .slnil)\/(∃g cap us y,a.eval s= .slice (some ⟨g,0,none⟩) 0 cap/\v= .sl (n+1) []/\F.Bs g=some (.tail (U.DR (Ds U s)).length none 0)/\w0.heap.size<=g/\w.heap[g]?=some (.cells us y (0,0))/\us.size=cap*(n+1)/\cap<=maxLen)\/∃g,a.eval s= .slice (some ⟨g,0,none⟩) 0 0/\v= .Gl (n+1):=by
  rcases m with(m|⟨I,m⟩)|⟨g,k,cap,us,y,I,rr,tU,JV,TX,hB,hg,aZ,ú,hm,K⟩
  .rw[m] at DH;exact .inl ⟨DH,m⟩
  .rcases X0 WD with zI|zI|zI
   .rw[zI] at m;cases m
   .rw[zI] at DH;obtain⟨g,DH⟩:=DH;exact .inr (.inr ⟨g,DH,zI⟩)
   .rw[zI] at m;cases m
  .rcases X0 WD with zI|zI|zI
   .rw[zI] at tU;cases tU
   .rw[zI] at tU;cases tU
   .rw[zI] at tU;cases tU;have hk:k=0:=by rw[zI,JV] at DH;obtain⟨A,f,oD,_⟩:=DH;simp only[Value.slice.injEq] at oD;exact oD.2.1
    subst hk;exact .inr (.inl ⟨g,cap,us,y,JV,zI,by simpa using TX,hB,hg,aZ,hm⟩)
 rcases Jk with⟨AE,GC,hne,D,QH,rfl,rfl⟩|⟨D,rfl,rfl⟩
 .obtain⟨d,news,P2,KU,aBs,sJ⟩:=zF (w:=w) Gs hr.D5 sK GC;have oH:d=AE:=by
   cases d with
   |nil=>simp[DM] at P2
   |cons q d=>
    simp only[DM] at P2;split at P2;.cases P2;rfl
    .cases P2
  subst oH;have uf:=Bl.mono Er _ _ aBs;have Ku:Src C.P i.size t' (a.eval x) d.length news w:=by rw[Q5];exact KU
  have Pn:news.length=d.length*(n+1):=KU.newsLen;have Hu:d.flatten.length=news.length:=by rw[aBs.length]
  have hpos:0<d.length:=D7.2 hne;have RP:d.length<=AW:=Br (I1 _ (Dc b)) QH;have JT:∀(base:Option Addr) (cap:Nat),a.eval s= .slice base 0 cap->(Builtin.firstCells i.size 0 (.slice base 0 cap)).run C.P w.drew= .ok #[] w.drew->cap<d.length->
    F9 C γ0 w0 o a w ((U.DR (Ds U s)).put o.dst (.val (.CE h.length 0 d.length (n+1)))) (h++[.cells d.flatten]):=by
   intro base cap hs l hlt;have Gj:=run_append_grow_src (P:=C.P) w t t' o.type e i z ht hi hz base 0 cap [] l (a.eval x) d.length news Ku Ac (by simp only[AW] at RP;omega) (by rw[G,BW];exact growslice_fits hlt QH);rw[<-hs,BW] at Gj;have Eh:=grownCap_ge w d.length cap e;have Ve:(([]++news).toArray++Builtin.zeroCells z.cells (grownCap w d.length cap e-d.length)).toList.take d.flatten.length=news:=by simp only[Hg,BT];rw[Hu];exact FD
   have um:(([]++news).toArray++Builtin.zeroCells z.cells (grownCap w d.length cap e-d.length)).size=grownCap w d.length cap e*(n+1):=by simp only[Kl,B9,size_zeroCells,eQ,Q5,BT,Pn,<-BI];congr 1;omega
   obtain⟨E,oB,V5,Mh,S3⟩:=KQ.drew.newObj (([]++news).toArray++Builtin.zeroCells z.cells (grownCap w d.length cap e-d.length)) e (0,0) d.flatten (.inl rfl) (by rw[Ve];exact uf) (by rw[Ve];exact KU.one);exact F9.value (Nb _ _ Gj) (Mh.put λ_ _=>⟨w.heap.size,_,V5,rfl,Eh,⟨Dc n,grownCap_le_maxLen w _ _ _ (by simp only[AW] at RP;simp only[maxLen];omega)⟩,by rw[BW,<-um];exact S3⟩)
  rcases zH with⟨JV,rfl⟩|⟨g,cap,us,y,JV,rfl,TX,hB,hg,aZ,Ă⟩|⟨g,JV,rfl⟩
  rotate_left 2;.exact JT (some ⟨g,0,none⟩) 0 JV (by simpa using run_firstCells_some (P:=C.P) w.drew i.size 0 ⟨g,0,none⟩ 0 0 [] AH AH) hpos
  .exact JT none 0 JV (run_firstCells_none _ _ _ _ _) hpos
  .by_cases hroom:d.length<=cap
   .have hfit:news.length<=us.size:=by rw[Pn,aZ];exact DW _ hroom
    have A3:=run_append_room_src (P:=C.P) w t t' o.type e i ht hi g 0 0 cap (a.eval x) d.length news Ku Ac (λj hj=>by rw[cell_of_row w _ _ us y (0,0) hg,Q5,CV Ac];rfl) (λj hj=>frozen_of_row w _ _ us y hg)
    rw[M1,BW,BW,ES news 0 us w hg Ac,<-JV] at A3;have Ve:((us.toList.take 0++news++us.toList.drop (0+news.length)).toArray).toList.take d.flatten.length=news:=by simp only[KN,BT];rw[Hu];exact FD
    obtain⟨E,oB,V5,Mh,S3⟩:=KQ.aGi TX hB hg (us.toList.take 0++news++us.toList.drop (0+news.length)).toArray d.flatten (by rw[Ve];exact uf) (by rw[Ve];exact KU.one);exact F9.value (Nb _ _ A3) (Mh.put λ_ _=>⟨g,cap,V5,rfl,hroom,⟨Dc n,Ă⟩,by rw[S3,BW,<-aZ];simp;omega⟩)
   .exact JT (some ⟨g,0,none⟩) cap JV (by simpa using run_firstCells_some (P:=C.P) w.drew i.size 0 ⟨g,0,none⟩ 0 cap [] AH AH) Ac
 .have KU:Src C.P i.size t' (a.eval x) 0 [] w:=by
   rcases D with rfl|⟨B,rfl⟩|⟨B,rfl⟩
   .rw[show a.eval x=_ from sK];exact⟨Gs,λ_=>rfl,run_firstCells_none w _ 0 0 0,run_firstCells_none w.drew _ 0 0 0,AH,AH⟩
   .obtain⟨g0,oD⟩:=sK;rw[oD];exact⟨Gs,λ_=>rfl,by simpa using run_firstCells_some (P:=C.P) w i.size 0 ⟨g0,0,none⟩ 0 0 [] AH AH,by simpa using run_firstCells_some (P:=C.P) w.drew i.size 0 ⟨g0,0,none⟩ 0 0 [] AH AH,AH,AH⟩
   .obtain⟨A,f,oD,_⟩:=sK;rw[oD];exact⟨Gs,λ_=>rfl,by simpa using run_firstCells_some (P:=C.P) w i.size 0 A 0 f [] AH AH,by simpa using run_firstCells_some (P:=C.P) w.drew i.size 0 A 0 f [] AH AH,AH,AH⟩
  rcases zH with⟨JV,rfl⟩|⟨g,cap,us,y,JV,rfl,TX,hB,hg,aZ,Ă⟩|⟨g,JV,rfl⟩
  rotate_left 2;.have A3:=run_append_room_src (P:=C.P) w t t' o.type e i ht hi g 0 0 0 (a.eval x) 0 [] KU Ac AH AH;rw[<-JV] at A3;simp only[World.setCells] at A3;exact F9.value (Nb _ _ A3) (KQ.put λ_ _=>DH)
  .have A3:(Builtin.append_ #[t,t'] o.type #[a.eval s,a.eval x]).run C.P w= .ok (.slice none 0 0) w:=by rw[JV];have hl:=KU.len;have WE:=KU.cells;rcases Gs with⟨H,hk⟩|hk<;>simp[Builtin.append_,run_underlying ht,run_underlying hk,sizeOf,typeInfo,hi,hl,WE]
   exact F9.value (Nb _ _ A3) (KQ.put λ_ _=>rfl)
  .have A3:=run_append_room_src (P:=C.P) w t t' o.type e i ht hi g 0 0 cap (a.eval x) 0 [] KU Ac AH AH;rw[<-JV] at A3;simp only[World.setCells] at A3;exact F9.value (Nb _ _ A3) (KQ.put λ_ _=>DH)
def Df.kill(hr:Df C γ0 w0 γ Z U h a w)(id:Nat):Df C γ0 w0 γ Z U (h.set id .CR) a w:=by
 have key:∀{FW:Nat} {x:Dx},(h.set id .CR)[FW]?=some x->x≠ .CR->h[FW]?=some x:=λ{FW x} hx hd=>by
  by_cases he:id=FW
  .subst he;rw[aQT] at hx;simp only[BJ] at hx;split at hx;.cases hx;exact absurd rfl hd
   .cases hx
  .rwa [As he] at hx
 exact⟨⟨hr.D5.IF,λFW y Im hy=>hr.D5.MC FW y (key Im hy) hy,λFW cs hc b hb=>hr.D5.cells FW cs (key hc AH) b hb,λFW es hc b hb=>hr.D5.map FW es (key hc AH) b hb,λFW b hb=>by simpa using hr.D5.mu FW b hb,hr.D5.Bs,hr.D5.sz⟩,hr.fr,hr.DZ,hr.defers,hr.Hk⟩
def Df.tV(hr:Df C γ0 w0 γ Z U h a w){id g:Nat}{cs:List Aa}(hcs:h[id]?=some (.cells cs))(hg:γ.mu id=some g){us:Array Value}{e:TypeId}{fr:Nat×Nat}(hw:w.heap[g]?=some (.cells us e fr))(V6:γ.sz g=some us.size)(DQ:Array Value)(Hi:List Aa)(aZ:DQ.size=us.size)(zA:T9 fr DQ.size)
  (hv:Bl γ Hi (DQ.toList.take Hi.length)) (h1:∀u∈DQ.toList.take Hi.length,u.oneCell'=true):∃γ',γ.le γ'/\γ'.mu h.length=some g/\Df C γ0 w0 γ' Z U (h.set id .CR++[.cells Hi]) a (w.setRow g DQ)/\γ'.sz g=some us.size:=by
 obtain⟨i,p,TX⟩:=hr.D5.MC id _ hcs AH;rw[hg] at p;cases p;have ka:id<h.length:=hr.D5.mu _ _ hg;have d:γ.mu h.length=none:=by
  cases hc:γ.mu h.length with
  |none=>rfl
  |some y=>exact absurd (hr.D5.mu _ y hc) (Dm _)
 have uniq:∀FW x,h[FW]?=some x->x≠ .CR->γ.mu FW=some g->FW=id:=λFW x hx c hm=>by obtain⟨b',p,q⟩:=hr.D5.MC FW x hx c;rw[hm] at p;cases p;rw[TX] at q;cases q;rfl
 have Er:γ.le (γ.B2 g h.length (some us.size)):=⟨λ_ _ _ hv=>hv,λFW b hm=>by
  have:FW≠h.length:=λhe=>by rw[he,d] at hm;cases hm
  simp only[Gh.B2,Ad this];exact hm,λb n hm=>by
  by_cases he:b=g;.subst he;rw[V6] at hm;cases hm;simp[Gh.B2]
  .simp only[Gh.B2,Ad he];exact hm⟩
 have old:∀{FW:Nat} {x:Dx},(h.set id .CR++[Dx.cells Hi])[FW]?=some x->x≠ .CR->FW≠h.length->h[FW]?=some x/\FW≠id:=λ{FW x} hx hd hne=>by
  have hlt:FW<(h.set id .CR).length:=by rw[An] at hx;obtain⟨hl,_⟩:=hx;simp at hl⊢;omega
  rw[Ak hlt] at hx;by_cases he:id=FW;.subst he;rw[AO (by simpa using hlt)] at hx;cases hx;exact absurd rfl hd
  .rw[As he] at hx;exact⟨hx,λh=>he h.symm⟩
 have aLK:Hv (γ.B2 g h.length (some us.size)) (h.set id .CR++[.cells Hi]) (w.setRow g DQ):=by
  refine⟨λb o v hb=>?_,λFW y Im hy=>?_,λFW S4 hc b hb=>?_,λFW es hc b hb=>?_,λFW b hb=>?_,λb y hy=>?_,λb n hb=>?_⟩
  .obtain⟨p,q,r⟩:=hr.D5.IF b o v hb;have OJ:b≠g:=λhe=>by subst he;rw[TX] at r;rcases r with r|⟨_,_,_,r,_⟩<;>cases r
   exact⟨by rw[CU (setRow_other w g b DQ OJ)];exact p,q,by simp only[Gh.B2,Ad OJ];exact r⟩
  .by_cases he:FW=h.length;.exact⟨g,by simp[Gh.B2,he],by simp[Gh.B2,he]⟩
   .obtain⟨ke,hne⟩:=old Im hy he;obtain⟨b,p,q⟩:=hr.D5.MC FW y ke hy;have OJ:b≠g:=λhx=>by subst hx;exact hne (uniq FW y ke hy p)
    exact⟨b,by simp only[Gh.B2,Ad he];exact p,by simp only[Gh.B2,Ad OJ];exact q⟩
  .by_cases he:FW=h.length;.subst he;simp[Gh.B2] at hb;subst hb;rw[Bk AH] at hc;simp at hc;subst hc;exact⟨DQ,e,fr,setRow_heap w g us DQ e fr hw,zA,Bl.mono Er _ _ hv,h1⟩
   .simp only[Gh.B2,Ad he] at hb;obtain⟨I7,hne⟩:=old hc AH he;have OJ:b≠g:=λhx=>by subst hx;exact hne (uniq FW _ I7 AH hb)
    obtain⟨tC,f,tj,p,pf,q,r⟩:=hr.D5.cells FW S4 I7 b hb;exact⟨tC,f,tj,by rw[setRow_other w g b DQ OJ];exact p,pf,Bl.mono Er _ _ q,r⟩
  .by_cases he:FW=h.length;.subst he;rw[Bk AH] at hc;simp at hc
   .simp only[Gh.B2,Ad he] at hb;obtain⟨I7,hne⟩:=old hc AH he;have OJ:b≠g:=λhx=>by subst hx;exact hne (uniq FW _ I7 AH hb)
    obtain⟨DB,clock,p,q⟩:=hr.D5.map FW es I7 b hb;exact⟨DB,clock,by rw[setRow_other w g b DQ OJ];exact p,q.mono Er⟩
  .by_cases he:FW=h.length;.simp[he]
   .simp only[Gh.B2,Ad he] at hb;have:=hr.D5.mu FW b hb;simp;omega
  .by_cases OJ:b=g;.subst OJ;have:=hr.D5.Bs _ _ TX;simpa[World.setRow] using this
   .simp only[Gh.B2,Ad OJ] at hy;have:=hr.D5.Bs b y hy;simpa[World.setRow] using this
  .by_cases he:b=g;.subst he;simp only[Gh.B2,BJ] at hb;cases hb;exact⟨⟨DQ,e,fr,setRow_heap w b us DQ e fr hw,aZ⟩,.inr ⟨h.length,by simp[Gh.B2]⟩⟩
   .simp only[Gh.B2,Ad he] at hb⊢;obtain⟨p,r⟩:=hr.D5.sz b n hb;exact⟨by rw[setRow_other w g b DQ he];exact p,r⟩
 refine⟨_,Er,by simp[Gh.B2],hr.Jj aLK ⟨Er,by simp[World.setRow],rfl,rfl,rfl,λb hb hn=>?_⟩,by simp[Gh.B2]⟩;have OJ:b≠g:=λhe=>by subst he;exact hn id TX
 exact⟨setRow_other w g b DQ OJ,by simp only[Gh.B2,Ad OJ]⟩
def uo{o:Oper}{c:Call}{t t' e:TypeId}{n b:Nat}{s x:Operand}{v u r:Aa}{h':Ai}(ho:o.op= .call c)(hc:c.callee= .builtin .append)(h0:c.argTypes[0]?=some t)(h1:c.argTypes[1]?=some t')(ET:c.args.toList=[s,x])(ht:C.P.underlying t=some (.slice e))
  (Gs:(∃N,C.P.underlying t'=some (.slice N))\/C.P.underlying t'=some .string) (Ls:B4 C.P e=some (n+1)) (ue:Kq C.P e=some (b+1)) (nD:MA C.P e=true) (hv:BB C U [s,x]=some [v,u])
  (hp:Gj h (n+1) (b+1) v u=some (h',r)) (hr:Df C γ0 w0 γ Z U h a w):F9 C γ0 w0 o a w (U.put o.dst (.val r)) h':=by
 obtain⟨i,z,hi,hz,eQ⟩:=LL nD;have Q5:=Ka Ls hi;have J:=Mi ue hi;obtain⟨_,_,e0,hvs,sK⟩:=Fh hr hv;cases e0;have KR:c.args.map a.eval=#[a.eval s,a.eval x]:=by apply HM;simp[ET]
 have Nb:∀v' w',(Builtin.append_ #[t,t'] o.type #[a.eval s,a.eval x]).run C.P w= .ok v' w'->(execOp a.eval o).run C.P w= .ok (.value v') w':=λv' w' A3=>by
  have:execOp a.eval o=(do pure (Next.value (<-Builtin.append_ #[t,t'] o.type #[a.eval s,a.eval x]))):=by rw[<-KR,<-OR (ty:=o.type) h0 h1];simp only[execOp,ho,resolve,hc];rfl
  rw[this];exact DJ A3
 unfold Gj at hp;cases hq:Hj h (n+1) u with
 |none=>rw[hq] at hp;cases hp
 |some AE=>
  rw[hq] at hp;obtain⟨news,KU,WD,sJ⟩:=XW (w:=w) Gs hr.D5 sK hq;have Ku:Src C.P i.size t' (a.eval x) AE.length news w:=by rw[Q5];exact KU
  have Pn:news.length=AE.length*(n+1):=KU.newsLen;have Hu:AE.flatten.length=news.length:=by rw[WD.length]
  cases AE with
  |nil=>
   have zB:news=[]:=C7 (by simpa using Pn);subst zB;cases v with
   |slnil=>
    cases hp;have JV:a.eval s= .slice none 0 0:=hvs;have A3:(Builtin.append_ #[t,t'] o.type #[a.eval s,a.eval x]).run C.P w= .ok (.slice none 0 0) w:=by rw[JV];have hl:=Ku.len;have WE:=Ku.cells;simp only[BR] at hl WE;rcases Gs with⟨N,hk⟩|hk<;>simp[Builtin.append_,run_underlying ht,run_underlying hk,sizeOf,typeInfo,hi,hl,WE]
    exact F9.value (Nb _ _ A3) (hr.put λ_ _=>rfl)
   |Gl E=>
    simp only at hp;split at hp;.cases hp;obtain⟨g,JV⟩:=(show BQ γ _ _ from hvs);have A3:=run_append_room_src (P:=C.P) w t t' o.type e i ht hi g 0 0 0 (a.eval x) 0 [] Ku Ac AH AH;rw[<-JV] at A3;simp only[World.setCells,Bt] at A3;exact F9.value (Nb _ _ A3) (hr.put λ_ _=>⟨g,JV⟩)
    .cases hp
   |CE id off k E=>
    simp only at hp;split at hp;.cases hp;obtain⟨g,cap,hg,JV,ú,qk,V6⟩:=(show BQ γ _ _ from hvs);have A3:=run_append_room_src (P:=C.P) w t t' o.type e i ht hi g off k cap (a.eval x) 0 [] Ku Ac AH AH;rw[<-JV] at A3;simp only[World.setCells,Bt] at A3;exact F9.value (Nb _ _ A3) (hr.put λ_ _=>⟨g,cap,hg,rfl,ú,qk,V6⟩)
    .cases hp
   |_=>cases hp
  |cons O l=>
   generalize hR:O::l=AE at*;have hpos:0<AE.length:=by rw[<-hR];simp
   have d:∀(h2:Ai) (base:Option Addr) (k cap:Nat) (Z4:List Aa) (olds:List Value),Df C γ0 w0 γ Z U h2 a w->a.eval s= .slice base k cap->Bl γ Z4 olds->olds.length=k*(n+1)->(∀q∈olds,q.oneCell'=true)->
     (Builtin.firstCells i.size k (.slice base k cap)).run C.P w.drew= .ok olds.toArray w.drew->cap<k+AE.length->(k+AE.length)*(b+1)<=AW->
     F9 C γ0 w0 o a w (U.put o.dst (.val (.CE h2.length 0 (k+AE.length) (n+1)))) (h2++[.cells (Z4++AE.flatten)]):=by
    intro h2 base k cap Z4 olds Mh hs aGk ql I f hlt QH;have RP:k+AE.length<=AW:=Br (I1 _ (Dc b)) QH;have Gj:=run_append_grow_src (P:=C.P) w t t' o.type e i z ht hi hz base k cap olds f (a.eval x) AE.length news Ku hlt (by simp only[AW] at RP;omega) (by rw[J];exact growslice_fits hlt QH);rw[<-hs] at Gj;have Eh:=grownCap_ge w (k+AE.length) cap e;have jv:(olds++news).length=(k+AE.length)*(n+1):=by rw[Au,ql,Pn,BI]
    have nB:(Z4++AE.flatten).length=(olds++news).length:=by rw[Au,Au,aGk.length,Hu]
    have um:((olds++news).toArray++Builtin.zeroCells z.cells (grownCap w (k+AE.length) cap e-(k+AE.length))).size=grownCap w (k+AE.length) cap e*(n+1):=by simp only[Kl,B9,size_zeroCells,eQ,Q5,jv,<-BI];congr 1;omega
    have Ve:((olds++news).toArray++Builtin.zeroCells z.cells (grownCap w (k+AE.length) cap e-(k+AE.length))).toList.take (Z4++AE.flatten).length=olds++news:=by simp only[Hg];rw[nB];exact FD
    obtain⟨D,oB,V5,H,S3⟩:=Mh.drew.newObj ((olds++news).toArray++Builtin.zeroCells z.cells (grownCap w (k+AE.length) cap e-(k+AE.length))) e (0,0) (Z4++AE.flatten) (.inl rfl) (by rw[Ve];exact aGk.append WD) (by rw[Ve];intro q hq;exact(Ay.1 hq).elim (I q) (KU.one q))
    exact F9.value (Nb _ _ Gj) (H.put λ_ _=>⟨w.heap.size,_,V5,rfl,Eh,⟨Dc n,grownCap_le_maxLen w _ _ _ (by simp only[AW] at RP;simp only[maxLen];omega)⟩,by rw[BW,<-um];exact S3⟩)
   cases v with
   |slnil=>
    have JV:a.eval s= .slice none 0 0:=hvs;rw[<-hR] at hp;simp only at hp;rw[hR] at hp;split at hp;.rename_i QH;cases hp;have:=d h none 0 0 [] [] hr JV rfl AH AH (run_firstCells_none _ _ _ _ _) Ac (by simpa using QH);simpa using this
    .cases hp
   |Gl E=>
    obtain⟨g,JV⟩:=(show BQ γ _ _ from hvs);rw[<-hR] at hp;simp only at hp;rw[hR] at hp;split at hp;.rename_i QH;cases hp;have:=d h (some ⟨g,0,none⟩) 0 0 [] [] hr JV rfl AH AH (by simpa using run_firstCells_some (P:=C.P) w.drew i.size 0 ⟨g,0,none⟩ 0 0 [] AH AH) Ac (by simpa using QH.2);simpa using this
    .cases hp
   |CE id off k E=>
    rw[<-hR] at hp;simp only at hp;rw[hR] at hp;split at hp
    .rename_i cs hcs;split at hp
     .rename_i G;subst G;obtain⟨g,cap,hg,JV,ú,qk,V6⟩:=(show BQ γ _ _ from hvs);obtain⟨us,M,fr,m,pf,B,A⟩:=hr.D5.cells id cs hcs g hg;obtain⟨⟨qj,S,R,K,F⟩,_⟩:=hr.D5.sz g _ V6;rw[m] at K;cases K;have nC:cs.length<=us.size:=by have:=B.length;simp at this;omega
      have N2:∀j,(⟨g,off,none⟩:Addr).add j=⟨g,off+j,none⟩:=λj=>by unfold Addr.add;split<;>simp_all
      have p:∀o,o<us.size->w.frozen? ⟨g,o,none⟩=false:=λo ho=>by
       simp only[World.frozen?,m];rcases pf with rfl|zA
       .simp
       .simp;omega
      have room:k+AE.length<=cap->(Builtin.append_ #[t,t'] o.type #[a.eval s,a.eval x]).run C.P w= .ok (.slice (some ⟨g,off,none⟩) (k+AE.length) cap) (w.setRow g (us.toList.take (off+k*(n+1))++news++us.toList.drop (off+k*(n+1)+news.length)).toArray)/\off+k*(n+1)+news.length<=us.size:=by
       intro hroom;have hfit:off+k*(n+1)+news.length<=us.size:=by rw[Pn,F,Sw,<-BI];exact Nat.add_le_add_left (DW _ hroom) _
       have A3:=run_append_room_src (P:=C.P) w t t' o.type e i ht hi g off k cap (a.eval x) AE.length news Ku hroom (λj hj=>by rw[cell_of_row w _ _ us M fr m,Q5,CV Ac];rfl) (λj hj=>by rw[Q5];exact p _ Ac)
       rw[Q5,ES news _ us w m hfit,<-JV] at A3;exact⟨A3,hfit⟩
      have ZU:(k+AE.length)*(n+1)=k*(n+1)+AE.length*(n+1):=BI _ _ _;split at hp
      .rename_i V8;cases hp;have hroom:k+AE.length<=cap:=by have Q:(k+AE.length)*(n+1)<=cap*(n+1):=Ac;exact Nat.le_of_mul_le_mul_right Q (Dc n)
       obtain⟨A3,hfit⟩:=room hroom;have L:off+(k+AE.length)*(n+1)=off+k*(n+1)+news.length:=by rw[Pn,ZU];omega
       have hcl:(cs.take (off+k*(n+1))++AE.flatten++cs.drop (off+(k+AE.length)*(n+1))).length=cs.length:=by rw[L,Au,Au,Ax,Be,Hu];omega
       have Ve:((us.toList.take (off+k*(n+1))++news++us.toList.drop (off+k*(n+1)+news.length)).toArray).toList.take (cs.take (off+k*(n+1))++AE.flatten++cs.drop (off+(k+AE.length)*(n+1))).length=
         (us.toList.take cs.length).take (off+k*(n+1))++news++(us.toList.take cs.length).drop (off+k*(n+1)+news.length):=by
        rw[hcl];simp only[Lm];exact Nh (by simpa using nC) Ac rfl
       obtain⟨WG,Pz⟩:=NY hr.D5 hcs hg m (us.toList.take (off+k*(n+1))++news++us.toList.drop (off+k*(n+1)+news.length)).toArray (cs.take (off+k*(n+1))++AE.flatten++cs.drop (off+(k+AE.length)*(n+1)))
        (by simp only[B9,Au,Ax,Be,Cg];omega)
        (by
         rcases pf with rfl|pf
         .exact .inl rfl
         .refine .inr (Br (M0 ?_) pf);simp only[B9,Au,Ax,Be,Cg];omega)
        (by rw[Ve,L];exact OP B WD)
        (by
         rw[Ve];intro q hq;rcases Ay.1 hq with hq|hq
         .rcases Ay.1 hq with hq|hq
          .exact A q (Bp hq)
          .exact KU.one q hq
         .exact A q (BD hq))
       exact F9.value (Nb _ _ A3) ((hr.Jj WG Pz).put λ_ _=>⟨g,cap,hg,rfl,hroom,qk,V6⟩)
      .rename_i aRd;split at hp
       .rename_i Ic;obtain⟨rfl,QF,QH⟩:=Ic;cases hp;simp only[BW] at*;by_cases hroom:k+AE.length<=cap
        .obtain⟨A3,hfit⟩:=room hroom;have nB:(cs.take (k*(n+1))++AE.flatten).length=k*(n+1)+news.length:=by rw[Au,Ax,Hu];omega
         have Ve:((us.toList.take (k*(n+1))++news++us.toList.drop (k*(n+1)+news.length)).toArray).toList.take (cs.take (k*(n+1))++AE.flatten).length=(us.toList.take cs.length).take (k*(n+1))++news:=by
          rw[nB];simp only[Lm];have:(us.toList.take (k*(n+1))++news).length=k*(n+1)+news.length:=by rw[Au,Ax,Cg];omega
          rw[<-this,FD,FC,Cq QF]
         obtain⟨D,oB,V5,Mh,S3⟩:=hr.tV hcs hg m (by rw[V6,F]) (us.toList.take (k*(n+1))++news++us.toList.drop (k*(n+1)+news.length)).toArray (cs.take (k*(n+1))++AE.flatten)
          (by simp only[B9,Au,Ax,Be,Cg];omega)
          (by
           rcases pf with rfl|pf
           .exact .inl rfl
           .refine .inr (Br (M0 ?_) pf);simp only[B9,Au,Ax,Be,Cg];omega)
          (by rw[Ve];exact(B.take _).append WD)
          (by
           rw[Ve];intro q hq;rcases Ay.1 hq with hq|hq
           .exact A q (Bp hq)
           .exact KU.one q hq)
         exact F9.value (Nb _ _ A3) (Mh.put λ_ _=>⟨g,cap,V5,rfl,hroom,qk,by rw[S3,F];simp⟩)
        .have ql:((us.toList.take cs.length).take (k*(n+1))).length=k*(n+1):=Ei;have:=d (h.set id .CR) (some ⟨g,0,none⟩) k cap (cs.take (k*(n+1))) ((us.toList.take cs.length).take (k*(n+1))) (hr.kill id) JV (B.take _) ql (λq hq=>A q (Bp hq))
          (by
           rw[Q5];exact run_firstCells_some w.drew _ _ _ _ _ _ ql (λj y hj=>by
            rw[N2];show w.cell? _=_;rw[cell_of_row w _ _ us M fr m];rw[Ci] at hj;split at hj
            .rw[Ci] at hj;split at hj;.simpa using hj
             .cases hj
            .cases hj)) Ac QH
         simpa using this
       .cases hp
     .cases hp
    .cases hp
   |_=>rw[<-hR] at hp;cases hp
def oI(hi:Hv γ h w){id g off:Nat}{cs b:List Aa}{news:List Value}(hcs:h[id]?=some (.cells cs))(hg:γ.mu id=some g)(hv:Bl γ b news)(h1:∀u∈news,u.oneCell'=true)(hl:off+b.length<=cs.length):
  ∃w',(storeCells ⟨g,off,none⟩ news).run C.P w= .ok () w'/\Hv γ (h.set id (.cells (cs.take off++b++cs.drop (off+b.length)))) w'/\LI γ w γ w':=by
 obtain⟨us,e,fr,hw,pf,d,c⟩:=hi.cells id cs hcs g hg;have Pn:news.length=b.length:=hv.length;have hlt:cs.length<=us.size:=by have:=d.length;simp at this;omega
 have hs:=run_storeCells_cells (P:=C.P) g off news 0 w (λj hj=>by
  rw[cell_of_row w _ _ us e fr hw,Bt,CV Ac];rfl) (λj hj=>by
  simp only[World.frozen?,hw];rcases pf with rfl|zA
  .simp
  .simp;omega) h1
 rw[Bt,ES _ off us w hw Ac] at hs;have hcl:(cs.take off++b++cs.drop (off+b.length)).length=cs.length:=Ei;have Ve:((us.toList.take off++news++us.toList.drop (off+news.length)).toArray).toList.take (cs.take off++b++cs.drop (off+b.length)).length=(us.toList.take cs.length).take off++news++(us.toList.take cs.length).drop (off+news.length):=by rw[hcl];simp only[Lm];exact Nh (by simpa using hlt) Ac rfl
 obtain⟨uq,ha⟩:=NY hi hcs hg hw (us.toList.take off++news++us.toList.drop (off+news.length)).toArray (cs.take off++b++cs.drop (off+b.length))
  (by simp only[B9,Au,Ax,Be,Cg];omega)
  (by
   rcases pf with rfl|pf
   .exact .inl rfl
   .refine .inr (Br (M0 ?_) pf);simp only[B9,Au,Ax,Be,Cg];omega)
  (by rw[Ve,Pn];exact OP d hv)
  (by
   rw[Ve];intro q hq;rcases Ay.1 hq with hq|hq
   .rcases Ay.1 hq with hq|hq
    .exact c q (Bp hq)
    .exact h1 q hq
   .exact c q (BD hq))
 exact⟨_,hs,uq,ha⟩
def tW{t t' ty:TypeId}{ts:Array TypeId}{xs:Array Value}(h0:ts[0]?=some t)(h1:ts[1]?=some t'):Builtin.copy_ ts ty xs=Builtin.copy_ #[t,t'] ty xs:=by simp only[Builtin.copy_,h0];rfl
def oJ{P:Program}{t t' ty e:TypeId}{i:TypeInfo}(ht:P.underlying t=some (.slice e))(hi:P.info? e=some i){x:Value}{n:Nat}{news:List Value}(hs:Src P i.size t' x n news w){base:Option Addr}{k cap:Nat}(hk:n<=k)
  (Ib:∀b,base=some b->(storeCells b news).run P w= .ok () w') (ZL:base=none->w'=w):(Builtin.copy_ #[t,t'] ty #[.slice base k cap,x]).run P w= .ok (.int .i64 n) w':=by
 have hl:=hs.len w;have hc:=hs.cells;have hm:Nat.min n k=n:=Cq hk;cases base with
 |none=>cases ZL rfl;simp[Builtin.copy_,run_underlying ht,hl,hc,sizeOf,typeInfo,hi,hm,goInt]
 |some b=>have h2:=Ib b rfl;simp[Builtin.copy_,run_underlying ht,hl,hc,sizeOf,typeInfo,hi,hm,goInt,h2]
def ur{o:Oper}{c:Call}{t t' e:TypeId}{n:Nat}{s x:Operand}{v u r:Aa}{h':Ai}(ho:o.op= .call c)(hc:c.callee= .builtin .copy)(h0:c.argTypes[0]?=some t)(h1:c.argTypes[1]?=some t')(ET:c.args.toList=[s,x])(ht:C.P.underlying t=some (.slice e))
  (Gs:(∃f,C.P.underlying t'=some (.slice f))\/C.P.underlying t'=some .string) (Ls:B4 C.P e=some (n+1)) (hv:BB C U [s,x]=some [v,u])
  (hp:yN h (n+1) v u=some (h',r)) (hr:Df C γ0 w0 γ Z U h a w):F9 C γ0 w0 o a w (U.put o.dst (.val r)) h':=by
 obtain⟨_,_,e0,hvs,sK⟩:=Fh hr hv;cases e0;have KR:c.args.map a.eval=#[a.eval s,a.eval x]:=by apply HM;simp[ET]
 have Nb:∀v' w',(Builtin.copy_ #[t,t'] o.type #[a.eval s,a.eval x]).run C.P w= .ok v' w'->(execOp a.eval o).run C.P w= .ok (.value v') w':=λv' w' A3=>by
  have:execOp a.eval o=(do pure (Next.value (<-Builtin.copy_ #[t,t'] o.type #[a.eval s,a.eval x]))):=by rw[<-KR,<-tW (ty:=o.type) h0 h1];simp only[execOp,ho,resolve,hc];rfl
  rw[this];exact DJ A3
 cases hi:C.P.info? e with
 |none=>simp[B4,hi] at Ls
 |some i=>
 have Q5:=Ka Ls hi;unfold yN at hp;cases hq:Hj h (n+1) u with
 |none=>rw[hq] at hp;cases hp
 |some AE=>
  rw[hq] at hp;obtain⟨news,KU,WD,sJ⟩:=XW (w:=w) Gs hr.D5 sK hq;have Ku:Src C.P i.size t' (a.eval x) AE.length news w:=by rw[Q5];exact KU
  have Pn:news.length=AE.length*(n+1):=KU.newsLen;have Hu:AE.flatten.length=news.length:=by rw[WD.length]
  simp only at hp;split at hp
  .split at hp;.rename_i Z5;cases hp;have JV:a.eval s= .slice none 0 0:=hvs;have A3:=oJ (t:=t) (ty:=o.type) (w:=w) (w':=w) ht hi Ku (base:=none) (k:=0) (cap:=0) Ac (λ_ e=>by cases e) (λ_=>rfl);rw[<-JV] at A3;rw[Z5] at A3;exact F9.value (Nb _ _ A3) (hr.put λ_ _=>rfl)
   .cases hp
  .rename_i id off k z;split at hp
   .rename_i cs hcs;split at hp;.rename_i Ic;obtain⟨rfl,b,hlen⟩:=Ic;cases hp;obtain⟨g,cap,hg,JV,ú,qk,V6⟩:=(show BQ γ _ _ from hvs);have hm:=DW (n+1) b;obtain⟨w',Ib,uq,d⟩:=oI (C:=C) (off:=off) hr.D5 hcs hg WD KU.one Ac;have A3:=oJ (t:=t) (ty:=o.type) (w:=w) (w':=w') ht hi Ku (base:=some ⟨g,off,none⟩) (k:=k) (cap:=cap) b (λ_ e=>by cases e;exact Ib) (λe=>by cases e);rw[<-JV] at A3;rw[show AE.length*(n+1)=AE.flatten.length by rw[Hu,Pn]];exact F9.value (Nb _ _ A3) ((hr.Jj uq d).put λ_ _=>rfl)
    .cases hp
   .cases hp
  .cases hp
def oK{t ty:TypeId}{ts:Array TypeId}{xs:Array Value}(h0:ts[0]?=some t):Builtin.clear_ ts ty xs=Builtin.clear_ #[t] ty xs:=by simp only[Builtin.clear_,h0];rfl
def kg{o:Oper}{c:Call}{t e:TypeId}{n:Nat}{s:Operand}{v z r:Aa}{h':Ai}(ho:o.op= .call c)(hc:c.callee= .builtin .clear)(h0:c.argTypes[0]?=some t)(ET:c.args.toList=[s])(ht:C.P.underlying t=some (.slice e))
  (Ls:B4 C.P e=some (n+1)) (hz:Hl C.P e=some z) (hv:BB C U [s]=some [v]) (hp:Xv h (n+1) z.cells v=some (h',r)) (hr:Df C γ0 w0 γ Z U h a w):F9 C γ0 w0 o a w (U.put o.dst .undef) h':=by
 obtain⟨_,e0,hvs⟩:=GY hr hv;cases e0;have KR:c.args.map a.eval=#[a.eval s]:=by apply HM;simp[ET]
 have Nb:∀v' w',(Builtin.clear_ #[t] o.type #[a.eval s]).run C.P w= .ok v' w'->(execOp a.eval o).run C.P w= .ok (.value v') w':=λv' w' A3=>by
  have:execOp a.eval o=(do pure (Next.value (<-Builtin.clear_ #[t] o.type #[a.eval s]))):=by rw[<-KR,<-oK (ty:=o.type) h0];simp only[execOp,ho,resolve,hc];rfl
  rw[this];exact DJ A3
 unfold Xv at hp;split at hp
 .cases hp;have JV:a.eval s= .slice none 0 0:=hvs;have A3:(Builtin.clear_ #[t] o.type #[a.eval s]).run C.P w= .ok (.tuple #[]) w:=by rw[JV];simp[Builtin.clear_,run_underlying ht]
  exact F9.value (Nb _ _ A3) (hr.put λ_ _=>trivial)
 .rename_i id off k E;split at hp
  .rename_i cs hcs;split at hp
   .rename_i Ic;obtain⟨rfl,f,hlen⟩:=Ic;cases hp;obtain⟨g,cap,hg,JV,ú,qk,V6⟩:=(show BQ γ _ _ from hvs);obtain⟨d,qm,l⟩:=Io hz;obtain⟨y,A⟩:=HB (γ:=γ) (Fv qm) Ac;have eQ:d.cells.size=n+1:=by have:=y.length;simp at this;omega
    have Hu:(List.replicate k z.cells).flatten.length=k*(n+1):=by rw[HD (z:=n+1) (λr hr=>by rw[aA8 hr,f]),F8]
    have i:∀(j:Nat) (u:Value),(Builtin.zeroCells d.cells k).toList[j]?=some u->j<k*(n+1)/\d.cells.toList[j%(n+1)]?=some u:=by
     intro j u hj;have bK:j<k*(n+1):=by have:=(An.1 hj).1;simpa[size_zeroCells,eQ] using this
     refine⟨bK,?_⟩;have aCU:j%(n+1)<d.cells.size:=by rw[eQ];exact Nat.mod_lt _ (Dc n)
     simp only[Builtin.zeroCells,NO,Cn] at hj;have b:(Array.range (k*d.cells.size)).toList[j]?=some j:=by simp[eQ,bK]
     rw[b] at hj;simp only[BY,BC] at hj;rw[eQ] at hj;rw[<-hj];simp[aCU]
    have B:Bl γ (List.replicate k z.cells).flatten (Builtin.zeroCells d.cells k).toList:=by refine Bl.Hm (by simp only[Cg,size_zeroCells,eQ,Hu]) λj x u hx hu=>?_;obtain⟨bK,p⟩:=i j u hu;rw[Iu z.cells _ _ (by rw[f];exact bK),f] at hx;obtain⟨F,sI,m⟩:=y.get hx;rw[p] at sI;cases sI;exact m
    obtain⟨w',Ib,uq,q⟩:=oI (C:=C) (off:=off) hr.D5 hcs hg B (λu hu=>by obtain⟨j,hj⟩:=CT hu;exact A u (CC (i j u hj).2)) Ac
    have A3:(Builtin.clear_ #[t] o.type #[a.eval s]).run C.P w= .ok (.tuple #[]) w':=by
     rw[JV];cases k with
     |zero=>
      have D:(Builtin.zeroCells d.cells 0).toList=[]:=by simp[Builtin.zeroCells]
      rw[D] at Ib;have:w'=w:=by have h2:(storeCells ⟨g,off,none⟩ []).run C.P w= .ok () w:=rfl;rw[h2] at Ib;cases Ib;rfl
      rw[this];simp[Builtin.clear_,run_underlying ht]
     |succ k=>simp[Builtin.clear_,run_underlying ht,l,Ib]
    rw[show k*(n+1)=(List.replicate k z.cells).flatten.length from Hu.symm];exact F9.value (Nb _ _ A3) ((hr.Jj uq q).put λ_ _=>trivial)
   .cases hp
  .cases hp
 .cases hp
def uv{o:Oper}{t e:TypeId}{n:Nat}{x:Operand}{lo hi:Option Operand}{v r:Aa}{as:List Aa}{h':Ai}(ho:o.op= .slice t x lo hi none)(ht:C.P.underlying t=some (.slice e))(Ls:B4 C.P e=some (n+1))
  (hv:BB C U (x::(lo.toList++hi.toList))=some (v::as)) (hp:nK h (n+1) lo.isSome hi.isSome v as=some (h',r)) (hr:Df C γ0 w0 γ Z U h a w):F9 C γ0 w0 o a w (U.put o.dst (.val r)) h':=by
 have tU:=D0 hr hv;obtain⟨u,us,c,hx,uw⟩:=tU;simp only[Bj,E5] at c;obtain⟨rfl,rfl⟩:=c;unfold nK at hp;split at hp
 .rename_i id off k z;split at hp
  .rename_i cs hcs;split at hp
   .rename_i Ic;obtain⟨rfl,b,aGh⟩:=Ic;obtain⟨g,cap,hg,JV,ú,qk,V6⟩:=(show BQ γ _ _ from hx);cases hb:Ed lo.isSome hi.isSome ((cs.length-off)/(n+1)) as with
    |none=>rw[hb] at hp;cases hp
    |some m=>
     obtain⟨l,q⟩:=m;rw[hb] at hp;simp only[Ct] at hp;split at hp
     .rename_i hlt;cases hp;obtain⟨us,c,fr,j,pf,i,E⟩:=hr.D5.cells id cs hcs g hg;obtain⟨⟨qj,B,s,d,D⟩,_⟩:=hr.D5.sz g _ V6;rw[j] at d;cases d;have nC:cs.length<=us.size:=by have:=i.length;simp at this;omega
      have oL:(cs.length-off)/(n+1)<=cap:=by refine Nat.div_le_of_le_mul ?_;rw[Nat.mul_comm];omega
      have f:∀y:Option Operand,(y.map a.eval).isSome=y.isSome:=λy=>by cases y<;>rfl
      have A:(lo.map a.eval).toList++(hi.map a.eval).toList=(lo.toList++hi.toList).map a.eval:=by cases lo<;>cases hi<;>rfl
      rw[<-f lo,<-f hi] at hb;obtain⟨p,G,F⟩:=La (P:=C.P) (w:=w) (isSlice:=true) hb (by rw[A];exact uw) oL;have NZ:Instr.sliceBounds true k cap (lo.map a.eval) (hi.map a.eval) none=Instr.sliceBounds true ((cs.length-off)/(n+1)) cap (lo.map a.eval) (hi.map a.eval) none:=by
       cases hi with
       |none=>cases b
       |some y=>rfl
      have Gs:C.P.underlying t=some (.slice (C.P.elem t)):=by simp[Program.elem,ht]
      have he:C.P.elem t=e:=by simp[Program.elem,ht]
      have A3:(Instr.sliceAt t (a.eval x) (lo.map a.eval) (hi.map a.eval) none).run C.P w= .ok (.slice (some ⟨g,off+l*(n+1),none⟩) (q-l) (cap-l)) w:=by rw[JV,run_sliceAt_slice w t _ _ _ _ Gs,run_slice_any w t _ _ _ Gs,NZ,p,he,Result.andThen_ok,DT Ls];show Result.ok (Value.slice (if cap=l then some ⟨g,off,none⟩ else Option.map (λq:Addr=>q.add (l*(n+1))) (some ⟨g,off,none⟩)) (q-l) (cap-l)) w=_;rw[Ad Ac];simp only[BY];unfold Addr.add;split<;>simp_all
      refine F9.value (by simp only[execOp,ho];exact DJ A3) (hr.put λ_ _=>⟨g,cap-l,hg,rfl,Ac,⟨qk.1,Br (Nat.sub_le _ _) qk.2⟩,?_⟩);rw[V6,Sw,<-BI,aLl Ac]
     .cases hp
   .cases hp
  .cases hp
 .cases hp
def ux{o:Oper}{t e:TypeId}{n:Nat}{x lo hi mx:Operand}{args:List Aa}(ho:o.op= .slice t x (some lo) (some hi) (some mx))(ht:C.P.underlying t=some (.slice e))(Ls:B4 C.P e=some (n+1))
  (hv:BB C U [x,lo,hi,mx]=some args) (hp:Xw (n+1) args=true) (hr:Df C γ0 w0 γ Z U h a w):F9 C γ0 w0 o a w (U.put o.dst .undef) h:=by
 have tU:=D0 hr hv;have Gs:C.P.underlying t=some (.slice (C.P.elem t)):=by simp[Program.elem,ht]
 have he:C.P.elem t=e:=by simp[Program.elem,ht]
 have HN:∀(base:Option Addr) (len cap:Nat) (kl kr f:IntKind) (l r m:Int),a.eval x= .slice base len cap->a.eval lo= .int kl l->a.eval hi= .int kr r->a.eval mx= .int f m->0<=l->l<=r->r<=m->m<=cap->F9 C γ0 w0 o a w (U.put o.dst .undef) h:=by
  intro base len cap kl kr f l r m A z y u h1 h2 d i;have A3:∃v,(Instr.sliceAt t (a.eval x) (some (a.eval lo)) (some (a.eval hi)) (some (a.eval mx))).run C.P w= .ok v w:=by
   have c:0<=m:=Ac;have b:0<=r:=Ac;have b1:∀code,(Instr.sliceBound (.int f m) cap code).run C.P w= .ok m.toNat w:=λcode=>by simp[Instr.sliceBound,asIntOf,c,i]
   have b2:∀code,(Instr.sliceBound (.int kr r) m.toNat code).run C.P w= .ok r.toNat w:=λcode=>by simp[Instr.sliceBound,asIntOf,b,Hh c,d]
   have b3:∀code,(Instr.sliceBound (.int kl l) r.toNat code).run C.P w= .ok l.toNat w:=λcode=>by simp[Instr.sliceBound,asIntOf,h1,Hh b,h2]
   rw[A,z,y,u];simp[Instr.sliceAt,Instr.slice,run_underlying ht,Instr.sliceBounds,b1,b2,b3,DT Ls]
  obtain⟨v,A3⟩:=A3;exact F9.value (by simp only[execOp,ho];exact DJ A3) (hr.put λ_ _=>trivial)
 unfold Xw at hp;split at hp
 .rename_i s _ l _ r _ m;obtain⟨F,q,f1,g1,E,tC,f2,g2,D,p,f3,g3,B,k,f4,j,f5⟩:=tU;subst f5;simp only[Bj,C4] at f1;subst f4;subst f3;subst f2;simp only[E5,M3] at f1;obtain⟨rfl,rfl,rfl,rfl⟩:=f1;split at hp;.simp only[Bv,CO] at hp;obtain⟨⟨⟨⟨_,h1⟩,h2⟩,d⟩,i⟩:=hp;obtain⟨g,cap,hg,JV,ú,_⟩:=(show BQ γ _ _ from g1);exact HN _ _ _ _ _ _ _ _ _ JV (EE g2) (EE g3) (EE j) h1 h2 d Ac
  .simp only[Bv,CO] at hp;obtain⟨⟨⟨⟨_,h1⟩,h2⟩,d⟩,i⟩:=hp;obtain⟨G,cap,JV,ú,_⟩:=(show BQ γ _ _ from g1);exact HN _ _ _ _ _ _ _ _ _ JV (EE g2) (EE g3) (EE j) h1 h2 d Ac
  .cases hp
 .cases hp
def uy{o:Oper}{t:TypeId}{x:Operand}{v:Aa}{u:TypeDesc}(ho:o.op= .makeInterface t x)(ht:C.P.underlying t=some u)(hn:∀i,u≠ .interface i)(hv:BB C U [x]=some [v])(hr:Df C γ0 w0 γ Z U h a w):F9 C γ0 w0 o a w (U.put o.dst (.val (.iface t v))) h:=by
 obtain⟨_,e0,hvs⟩:=GY hr hv;cases e0;have A3:(Instr.makeInterface t (a.eval x)).run C.P w= .ok (.iface t (a.eval x)) w:=by cases u<;>simp_all [Instr.makeInterface,run_underlying ht]
 exact F9.value (by simp only[execOp,ho];exact DJ A3) (hr.put λ_ _=>⟨_,rfl,hvs⟩)
def QI{n:Int}:∀{es:List (Aa×Aa)} {l:List MapEntry} {i:Nat} {r:Option (Nat×Aa)},LH γ es l->L0 n es i=some r->
  match r with
  |none=>Instr.findNow (.int .i64) (.int .i64 n) l i=some none
  |some (j,v)=>∃(e:MapEntry),Instr.findNow (.int .i64) (.int .i64 n) l i=some (some (j,e.val))/\BQ γ v e.val/\i<=j/\l[j-i]?=some e/\e.key= .int .i64 n
 |[],l,i,r,b,hf=>by rw[show l=[] from b];cases hf;rfl
 |(k,v)::es,l,i,r,b,hf=>by
  obtain⟨e,l',rfl,h1,h2,m⟩:=b;cases k with
  |int q t=>
   by_cases hq:q= .i64
   .subst hq;simp only[L0] at hf;have hk:e.key= .int .i64 t:=h1;split at hf;.rename_i Ib;subst Ib;cases hf;exact⟨e,by simp[Instr.findNow,hk,Instr.sameNow],h2,Ag _,AH,hk⟩
    .rename_i Ib;have aGl:(n==t)=false:=by simpa using Ib
     have ih:=QI (i:=i+1) m hf;cases r with
     |none=>simpa[Instr.findNow,hk,Instr.sameNow,aGl] using ih
     |some p=>obtain⟨j,v2⟩:=p;obtain⟨o,g,f,s,d,c⟩:=ih;refine⟨o,by simpa[Instr.findNow,hk,Instr.sameNow,aGl] using g,f,Ac,?_,c⟩;rw[(Ac:j-i=(j-(i+1))+1),Mf];exact d
   .exfalso;cases q<;>first|exact hq rfl|(simp[L0] at hf)
  |_=>simp[L0] at hf
def uz{o:Oper}{t kt e:TypeId}{m k:Operand}{g l z r:Aa}{ok:Bool}{h':Ai}(ho:o.op= .lookup t m k ok)(ht:C.P.underlying t=some (.map kt e))(hk:C.P.underlying kt=some (.int .i64))(hz:Hl C.P e=some z)(ha:BB C U [m,k]=some [g,l])(hm:yO h z ok g l=some (h',r))(hr:Df C γ0 w0 γ Z U h a w):
  F9 C γ0 w0 o a w (U.put o.dst (.val r)) h':=by
 obtain⟨_,_,e0,h1,h2⟩:=Fh hr ha;cases e0;obtain⟨f,qm,d⟩:=Io hz;have HN:∀(es:Array MapEntry) (q:Option (Nat×Aa)),(Instr.lookup t (a.eval m) (a.eval k) ok).run C.P w=(Lv kt e (a.eval k) ok es).run C.P w->
   ∀n,a.eval k= .int .i64 n->(match q with|none=>Instr.findNow (.int .i64) (.int .i64 n) es.toList 0=some none|some (j,v)=>∃(e:MapEntry),Instr.findNow (.int .i64) (.int .i64 n) es.toList 0=some (some (j,e.val))/\BQ γ v e.val/\0<=j/\es.toList[j-0]?=some e/\e.key= .int .i64 n)->
   sW z ok q=r->F9 C γ0 w0 o a w (U.put o.dst (.val r)) h:=by
  intro es q S2 n ā hq Vb;have jz:(Instr.checkKey es.isEmpty 10000 kt (.int .i64 n)).run C.P w= .ok () w:=MapKept.run_checkKey (k:= .int .i64 n) hk (by simp[MapKept.IsKey]) es.isEmpty 9999;have A3:∃v,(Instr.lookup t (a.eval m) (a.eval k) ok).run C.P w= .ok v w/\BQ γ r v:=by
   cases q with
   |none=>
    refine⟨if ok then .tuple #[f,.bool false] else f,?_,?_⟩;.rw[S2,ā];unfold Lv;simp only[Sem.run_bind,Result.andThen_ok,jz,MapKept.run_findKey hk hq,d,Sem.run_bind,Sem.run_pure]
    .rw[<-Vb];have c:=Fv (γ:=γ) qm;cases ok with
     |true=>exact⟨_,rfl,_,_,rfl,c,_,_,rfl,rfl,rfl⟩
     |false=>exact c
   |some p=>
    obtain⟨j,v⟩:=p;obtain⟨en,u,s,_⟩:=hq;refine⟨if ok then .tuple #[en.val,.bool true] else en.val,?_,?_⟩;.rw[S2,ā];unfold Lv;simp only[Sem.run_bind,Result.andThen_ok,jz,MapKept.run_findKey hk u,Sem.run_bind,Sem.run_pure]
    .rw[<-Vb];cases ok with
     |true=>exact⟨_,rfl,_,_,rfl,s,_,_,rfl,rfl,rfl⟩
     |false=>exact s
  obtain⟨v,A3,zE⟩:=A3;exact F9.value (by simp only[execOp,ho];exact DJ A3) (hr.put λ_ _=>zE)
 unfold yO at hm;split at hm;.rename_i n;cases hm;exact HN #[] none (by rw[show a.eval m=_ from h1];simp only[Instr.lookup,Lv,Sem.run_bind,run_underlying ht,Result.andThen_ok,Sem.run_pure];rfl) n h2 rfl rfl
 .rename_i id n;obtain⟨b,hb,jy⟩:=h1;split at hm
  .rename_i es S2;obtain⟨DB,clock,hw,x,_⟩:=hr.D5.map id es S2 b hb;cases hf:L0 n es 0 with
   |none=>rw[hf] at hm;cases hm
   |some q=>
    rw[hf] at hm;simp only[BY,BC,IA] at hm;obtain⟨rfl,hm⟩:=hm;refine HN DB q (by rw[jy];simp only[Instr.lookup,Lv,Sem.run_bind,run_underlying ht,MapKept.run_getObj_map hw,Result.andThen_ok,Sem.run_pure];rfl) n h2 ?_ ?_
    .have:=QI (i:=0) x hf;cases q with
     |none=>exact this
     |some p=>exact this
    .exact hm
  .cases hm
 .cases hm
def LH.tX{k v:Aa}{e:MapEntry}(hk:BQ γ k e.key)(hv:BQ γ v e.val):∀{es:List (Aa×Aa)} {l:List MapEntry},LH γ es l->LH γ (es++[(k,v)]) (l++[e])
 |[],l,b=>by rw[show l=[] from b];exact⟨e,[],rfl,hk,hv,rfl⟩
 |(k',v')::es,l,b=>by obtain⟨d,l',rfl,h1,h2,c⟩:=b;exact⟨d,_,rfl,h1,h2,LH.tX hk hv c⟩
def LH.length:∀{es:List (Aa×Aa)} {l:List MapEntry},LH γ es l->l.length=es.length
 |[],l,b=>by rw[show l=[] from b];rfl
 |(k',v')::es,l,b=>by obtain⟨d,l',rfl,h1,h2,c⟩:=b;simp[LH.length c]
def LH.modify{v:Aa}{u:Value}(hv:BQ γ v u):∀{es:List (Aa×Aa)} {l:List MapEntry} {j:Nat} {k v0:Aa},LH γ es l->es[j]?=some (k,v0)->LH γ (es.set j (k,v)) (l.modify j λe=>{e with val:=u})
 |[],l,j,k,v0,b,hj=>by simp at hj
 |(k',v')::es,l,j,k,v0,b,hj=>by
  obtain⟨d,l',rfl,h1,h2,c⟩:=b;cases j with
  |zero=>cases hj;exact⟨{d with val:=u},l',AH,h1,hv,c⟩
  |succ j=>exact⟨d,l'.modify j _,AH,h1,h2,LH.modify hv c (by simpa using hj)⟩
def oM{es:Array MapEntry}{j:Nat}{e:MapEntry}{k:Value}(hj:es[j]?=some e)(hk:e.key=k):(es.modify j λe=>{e with key:=k})=es:=by
 apply Qz;intro i;rw[Nx];split;.rename_i hi;subst hi;rw[hj];simp[<-hk]
 .rfl
def X1{o:Oper}{t kt e:TypeId}{m k:Operand}{kA z r:Aa}{kV:Value}{d:TypeDesc}{h':Ai}{id:Nat}{es:List (Aa×Aa)}{f:Option (Option (Nat×Aa))}(ho:o.op= .mapEntry t m k)(ht:C.P.underlying t=some (.map kt e))(hk:C.P.underlying kt=some d)(n:MapKept.IsKey d kV)(hz:Hl C.P e=some z)
  (h1:BQ γ (.map (some id)) (a.eval m)) (g:a.eval k=kV) (u:BQ γ kA kV) (S2:h[id]?=some (.map es))
  (hq:∀(l:List MapEntry) q,LH γ es l->f=some q->match q with
   |none=>Instr.findNow d kV l 0=some none
   |some (j,v)=>∃(e:MapEntry),Instr.findNow d kV l 0=some (some (j,e.val))/\BQ γ v e.val/\0<=j/\l[j-0]?=some e/\e.key=kV)
  (hm:(f.map λr=>match r with
   |some (i,v)=>(h,Aa.tuple [v,.int .i64 i])
   |none=>(h.set id (.map (es++[(kA,z)])),.tuple [z,.int .i64 es.length]))=some (h',r)) (hr:Df C γ0 w0 γ Z U h a w):
  F9 C γ0 w0 o a w (U.put o.dst (.val r)) h':=by
 obtain⟨c,qm,s⟩:=Io hz;obtain⟨b,hb,jy⟩:=h1;obtain⟨DB,clock,hw,x,hB⟩:=hr.D5.map id es S2 b hb;have jz:(Instr.checkKey false 10000 kt kV).run C.P w= .ok () w:=MapKept.run_checkKey (k:=kV) hk n false 9999;cases f with
 |none=>cases hm
 |some q=>
  have hq:=hq DB.toList q x rfl;cases q with
  |none=>
   simp only[BY,BC,IA] at hm;obtain⟨rfl,rfl⟩:=hm;have A3:(Instr.mapEntry t (a.eval m) (a.eval k)).run C.P w= .ok (.tuple #[c,goInt clock]) {w with heap:=w.heap.setIfInBounds b (.map (DB.push {key:=kV,val:=c,born:=clock}) (clock+1))}:=by rw[jy,g];simp[Instr.mapEntry,run_underlying ht,MapKept.run_getObj_map hw,jz,MapKept.run_findKey hk hq,s,MapKept.run_setObj_map _ hw,Result.andThen]
   obtain⟨hi,Kv⟩:=N4 (VW:=es++[(kA,z)]) (ents':=DB.push {key:=kV,val:=c,born:=clock}) (clock':=clock+1) hr.D5 S2 hb hw ⟨by have:=LH.tX (γ:=γ) (k:=kA) (v:=z) (e:={key:=kV,val:=c,born:=clock}) u (Fv qm) x;simpa using this,Uf hB⟩
   refine F9.value (by simp only[execOp,ho];exact DJ A3) ((hr.Jj hi Kv).put λ_ _=>⟨_,rfl,c,_,rfl,Fv qm,_,[],rfl,?_,rfl⟩);rw[hB.1];have:=x.length;simp only[Cg] at this;rw[<-this];rfl
  |some p=>
   obtain⟨j,v⟩:=p;simp only[BY,BC,IA] at hm;obtain⟨rfl,rfl⟩:=hm;obtain⟨en,D,B,_,A,y⟩:=hq;have hj:DB[j]?=some en:=by simpa using A
   have aGm:=hB.2 j en hj;have kh:w.heap.setIfInBounds b (.map DB clock)=w.heap:=by
    apply Qz;intro i;rw[Array.getElem?_setIfInBounds];split;.rename_i hi;subst hi;have hlt:=(A8.1 hw).1;rw[Af hlt,hw]
    .rfl
   have A3:(Instr.mapEntry t (a.eval m) (a.eval k)).run C.P w= .ok (.tuple #[en.val,goInt j]) w:=by rw[jy,g];simp[Instr.mapEntry,run_underlying ht,MapKept.run_getObj_map hw,jz,MapKept.run_findKey hk D,hj,y,MapKept.run_keyThatStays (d:=d) (k:=kV) n,MapKept.run_setObj_map _ hw,Result.andThen,aGm,oM hj y,kh]
   exact F9.value (by simp only[execOp,ho];exact DJ A3) (hr.put λ_ _=>⟨_,rfl,_,_,rfl,B,_,[],rfl,rfl,rfl⟩)
def tY{o:Oper}{t kt e:TypeId}{m k:Operand}{b c z r:Aa}{h':Ai}(ho:o.op= .mapEntry t m k)(ht:C.P.underlying t=some (.map kt e))(hk:C.P.underlying kt=some (.int .i64))(hz:Hl C.P e=some z)(ha:BB C U [m,k]=some [b,c])(hm:Wx h z b c=some (h',r))(hr:Df C γ0 w0 γ Z U h a w):
  F9 C γ0 w0 o a w (U.put o.dst (.val r)) h':=by
 obtain⟨_,_,e0,h1,h2⟩:=Fh hr ha;cases e0;unfold Wx at hm;split at hm
 .rename_i id n;split at hm;.rename_i es S2;exact X1 (kA:= .int .i64 n) (kV:= .int .i64 n) ho ht hk (by simp[MapKept.IsKey]) hz h1 h2 rfl S2 (λl q d hf=>QI (i:=0) d hf) hm hr
  .cases hm
 .cases hm
def bM{s:Aj}:∀{es:List (Aa×Aa)} {l:List MapEntry} {i:Nat} {r:Option (Nat×Aa)},LH γ es l->RK s es i=some r->
  match r with
  |none=>Instr.findNow .string (.string ⟨⟨s⟩⟩) l i=some none
  |some (j,v)=>∃(e:MapEntry),Instr.findNow .string (.string ⟨⟨s⟩⟩) l i=some (some (j,e.val))/\BQ γ v e.val/\i<=j/\l[j-i]?=some e/\e.key= .string ⟨⟨s⟩⟩
 |[],l,i,r,b,hf=>by rw[show l=[] from b];cases hf;rfl
 |(k,v)::es,l,i,r,b,hf=>by
  obtain⟨e,l',rfl,h1,h2,m⟩:=b;cases k with
  |str t=>
   simp only[RK] at hf;have hk:e.key= .string ⟨⟨t⟩⟩:=h1;split at hf;.rename_i Ib;subst Ib;cases hf;exact⟨e,by simp[Instr.findNow,hk,Instr.sameNow,RV],h2,Ag _,AH,hk⟩
   .rename_i Ib;have ih:=bM (i:=i+1) m hf;have hne:=XZ Ib;cases r with
    |none=>simpa[Instr.findNow,hk,Instr.sameNow,hne] using ih
    |some p=>obtain⟨j,v2⟩:=p;obtain⟨n,g,f,o,d,c⟩:=ih;refine⟨n,by simpa[Instr.findNow,hk,Instr.sameNow,hne] using g,f,Ac,?_,c⟩;rw[(Ac:j-i=(j-(i+1))+1),Mf];exact d
  |_=>simp[RK] at hf
def tZ{o:Oper}{t kt e:TypeId}{m k:Operand}{b c z r:Aa}{h':Ai}(ho:o.op= .mapEntry t m k)(ht:C.P.underlying t=some (.map kt e))(hk:C.P.underlying kt=some .string)(hz:Hl C.P e=some z)(ha:BB C U [m,k]=some [b,c])(hm:Wy h z b c=some (h',r))(hr:Df C γ0 w0 γ Z U h a w):
  F9 C γ0 w0 o a w (U.put o.dst (.val r)) h':=by
 obtain⟨_,_,e0,h1,h2⟩:=Fh hr ha;cases e0;unfold Wy at hm;split at hm
 .rename_i id n;split at hm;.rename_i es S2;exact X1 (kA:= .str n) (kV:= .string ⟨⟨n⟩⟩) ho ht hk (by simp[MapKept.IsKey]) hz h1 h2 rfl S2 (λl q d hf=>bM (i:=0) d hf) hm hr
  .cases hm
 .cases hm
def oN{o:Oper}{t kt e:TypeId}{m k x:Operand}{f g c r:Aa}{h':Ai}(ho:o.op= .insert t m k x\/o.op= .mapUpdate t m k x)(hd:o.dst=none)(ht:C.P.underlying t=some (.map kt e))(hk:C.P.underlying kt=some (.int .i64))(ha:BB C U [m,k,x]=some [f,g,c])
  (hm:rp h f g c=some (h',r)) (hr:Df C γ0 w0 γ Z U h a w):F9 C γ0 w0 o a w U h':=by
 obtain⟨h1,h2,l⟩:=RY hr ha;have Nb:∀w',(Instr.mapUpdate t (a.eval m) (a.eval k) (a.eval x)).run C.P w= .ok () w'->(execOp a.eval o).run C.P w= .ok .skip w':=λw' A3=>by rcases ho with ho|ho<;>simp[execOp,ho,A3]
 unfold rp at hm;split at hm
 .rename_i id n;obtain⟨b,hb,jy⟩:=h1;have d:a.eval k= .int .i64 n:=h2;split at hm
  .rename_i es S2;obtain⟨DB,clock,hw,j,hB⟩:=hr.D5.map id es S2 b hb;have jz:(Instr.checkKey false 10000 kt (.int .i64 n)).run C.P w= .ok () w:=MapKept.run_checkKey (k:= .int .i64 n) hk (by simp[MapKept.IsKey]) false 9999;split at hm
   .rename_i hf;cases hm;have hq:=QI (i:=0) j hf;have A3:(Instr.mapUpdate t (a.eval m) (a.eval k) (a.eval x)).run C.P w= .ok () {w with heap:=w.heap.setIfInBounds b (.map (DB.push {key:= .int .i64 n,val:=a.eval x,born:=clock}) (clock+1))}:=by rw[jy,d];simp[Instr.mapUpdate,run_underlying ht,MapKept.run_getObj_map hw,jz,MapKept.run_findKey hk hq,MapKept.run_setObj_map _ hw,Result.andThen]
    obtain⟨hi,Kv⟩:=N4 (VW:=es++[(.int .i64 n,c)]) (ents':=DB.push {key:= .int .i64 n,val:=a.eval x,born:=clock}) (clock':=clock+1) hr.D5 S2 hb hw ⟨by have:=LH.tX (γ:=γ) (k:= .int .i64 n) (v:=c) (e:={key:= .int .i64 n,val:=a.eval x,born:=clock}) rfl l j;simpa using this,Uf hB⟩
    exact F9.skip (Nb _ A3) (by rw[hd];exact hr.Jj hi Kv)
   .cases hm
  .cases hm
 .cases hm
def eT{es:Array MapEntry}(hB:∀(i:Nat) (e:MapEntry),es[i]?=some e->e.born=i){j:Nat}{e:MapEntry}(hj:es[j]?=some e):es.findIdx? (λe=>(e.born:Int)==(j:Int))=some j:=by
 rw[Array.findIdx?_eq_some_iff_getElem];obtain⟨hl,he⟩:=A8.1 hj;refine⟨hl,?_,λi hi=>?_⟩;.have:=hB j _ (CV hl);simp[this]
 .have:=hB i _ (CV Ac);simp[this];omega
def uA{o:Oper}{t:TypeId}{m s x:Operand}{f vs c r:Aa}{h':Ai}(ho:o.op= .entryStore t m s x)(hd:o.dst=none)(ha:BB C U [m,s,x]=some [f,vs,c])(hm:SI h f vs c=some (h',r))(hr:Df C γ0 w0 γ Z U h a w):F9 C γ0 w0 o a w U h':=by
 obtain⟨h1,h2,i⟩:=RY hr ha;have Nb:∀w',(Instr.entryStore t (a.eval m) (a.eval s) (a.eval x)).run C.P w= .ok () w'->(execOp a.eval o).run C.P w= .ok .skip w':=λw' A3=>by simp[execOp,ho,A3]
 unfold SI at hm;split at hm
 .rename_i id n;obtain⟨b,hb,jy⟩:=h1;have JV:a.eval s= .int .i64 n:=h2;split at hm
  .rename_i es S2;split at hm
   .rename_i hn;split at hm
    .rename_i kk v0 hk;cases hm;obtain⟨DB,clock,hw,g,hB⟩:=hr.D5.map id es S2 b hb;have hlen:=g.length;have hlt:=(An.1 hk).1;have d:∃en,DB[n.toNat]?=some en:=⟨DB[n.toNat]'(by simp at hlen;omega),CV _⟩;obtain⟨en,hj⟩:=d;have zB:((n.toNat:Nat):Int)=n:=Ac;have aGn:=eT hB.2 hj;rw[zB] at aGn;have A3:(Instr.entryStore t (a.eval m) (a.eval s) (a.eval x)).run C.P w= .ok () {w with heap:=w.heap.setIfInBounds b (.map (DB.modify n.toNat λe=>{e with val:=a.eval x}) clock)}:=by rw[jy,JV];simp[Instr.entryStore,MapKept.run_getObj_map hw,asInt,asIntOf,aGn,MapKept.run_setObj_map _ hw,Result.andThen]
     obtain⟨hi,Kv⟩:=N4 (VW:=es.set n.toNat (kk,c)) (ents':=DB.modify n.toNat λe=>{e with val:=a.eval x}) (clock':=clock) hr.D5 S2 hb hw ⟨by have:=LH.modify i g hk;simpa using this,Vd hB λ_=>rfl⟩
     exact F9.skip (Nb _ A3) (by rw[hd];exact hr.Jj hi Kv)
    .cases hm
   .cases hm
  .cases hm
 .cases hm
end
end Go.Am
end
section
section
namespace Go.Am
open Go
section
variable{C:Gb}{γ0 γ γ':Gh}{w0 w w':World}{O:Nat->Nat}{U U':BU}{h h':Ai}{a:Act}{fid:FuncId}{ops:List Oper}
def F9.wp{o:Oper}{K:Act->World->Prop}{Q:Exit->Act->World->Prop}(hs:F9 C γ0 w0 o a w U' h')(b:∀γ' c a' w',Df C γ0 w0 γ' c U' h' a' w'->K a' w'):o.wp C.P a w K Q:=by
 obtain⟨γ',c,w',⟨v,he,hr⟩|⟨he,hr⟩⟩:=hs;.exact JB he (b _ _ _ _ hr)
 .exact tE he (b _ _ _ _ hr)
def Z6{P:Program}{op:BinOp}{t:TypeId}{p:SF}(hp:QD P op t=some p):p.still=true:=by
 have KR:∀neg u,T2 P t neg u=some p->p.still=true:=by
  intro neg u h;unfold T2 at h;split at h;.cases h;rfl
  .split at h
   .cases hf:PR P 20 t with
    |none=>rw[hf] at h;cases h
    |some k=>rw[hf] at h;cases h;rfl
   .cases h
  .split at h<;>cases h;rfl
  .cases h;rfl
  .cases h;rfl
  .cases h;rfl
  .cases h
 unfold QD at hp;split at hp;.cases hp;rfl
 .cases hp;rfl
 .split at hp;.exact KR _ _ hp
  .exact KR _ _ hp
  .cases hp
 .cases hp
def N5{P:Program}{t:TypeId}{f off:Nat}{sh:Option Nat}(hf:IK P t f=some (off,sh))(b o:Nat):(Instr.fieldAt t (.pointer (some ⟨b,o,none⟩)) f).run P w= .ok (.pointer (some ⟨b,o+off,none⟩)) w:=by
 unfold IK at hf;split at hf
 .rename_i fs sI;split at hf
  .rename_i fd zC;split at hf;.rename_i n c h1 h2;cases hf;simp[Instr.fieldAt,run_underlying sI,zC,Instr.sureAddr,fieldPlace,DT h1,Addr.add_lit]
   .cases hf
  .cases hf
 .cases hf
def X2(hr:Df C γ0 w0 γ O U h a w){s ver:Nat}{cs:List Aa}{ow:List Nat}(hs:Ef C U (.tmp s)=some (.box ver cs ow)):a.eval (.tmp s)= .pointer (some ⟨O s,0,none⟩):=by have h0:=SQ hr s;rw[Hn hs] at h0;exact h0.1
def Vf(hr:Df C γ0 w0 γ O U h a w){x:Operand}{s k:Nat}(hs:Ef C U x=some (.Fo s k)):a.eval x= .pointer (some ⟨O s,k,none⟩):=by obtain⟨t,h1,_⟩:=GB hr hs;exact h1
def bN{o:Oper}{t:TypeId}{v:Aa}{d:Nat}{r:EP}{run:IT->Ai->Option Km}(hb:UZ C fid t v d=some r)(Gk:r.N0 C run (U.drop r.news) h U' h')
  (PQ:∀n,C.kind fid d= .PQ->v.cells.length=n->n≠0->F9 C γ0 w0 o a w ((U.drop [d]).set d (.box 0 v.cells [])) h)
  (heap:v.cells.length≠0->F9 C γ0 w0 o a w (U.put (some d) (.val (.ptr (some (h.length,0))))) (h++[.cells v.cells])):F9 C γ0 w0 o a w U' h':=by
 unfold UZ at hb;split at hb;.cases hb
 .rename_i n hn;split at hb;.cases hb
  .rename_i b;split at hb;.cases hb;obtain⟨h1,rfl,rfl⟩:=Gk;rename_i hk;exact PQ n hk h1 b
   .cases hb;obtain⟨h1,rfl,rfl⟩:=Gk;exact heap Ac
def QJ{d s k:Nat}{run:IT->Ai->Option Km}(Gk:(EP.pure [(d,.Fo s k)]).N0 C run (U.drop (EP.pure [(d,.Fo s k)]).news) h U' h'):U'=U.set d (.Fo s k)/\h'=h:=by obtain⟨rfl,rfl⟩:=Gk;exact⟨rfl,rfl⟩
def u_{run:IT->Ai->Option Km}(G:Fj C run){o:Oper}{r:EP}{K:Act->World->Prop}{Q:Exit->Act->World->Prop}(hc:Gx C fid ops U o=some r)(Gk:r.N0 C run (U.drop r.news) h U' h')(hr:Df C γ0 w0 γ O U h a w)
  (j:∀γ' T a' w',Df C γ0 w0 γ' T U' h' a' w'->K a' w'):o.wp C.P a w K Q:=by
 by_cases Ib:∃p args dst Bs F,r= .op p args dst Bs F/\p.still=true
 .obtain⟨p,args,dst,Bs,F,rfl,ă⟩:=Ib
  obtain⟨L,rfl,rfl,rfl⟩:=jt hc ă hr
  obtain⟨v,hv,rfl,rfl⟩:=Gk
  obtain⟨u,R,N⟩:=L v hv
  exact JB R (j _ _ _ _ (hr.put λ_ _=>N))
 .have ZL:∀{p args dst},r= .op p args dst false none->p.still=false:=λ{p args dst} he=>by
   cases hp:p.still with
   |false=>rfl
   |true=>exact absurd ⟨p,args,dst,false,none,he,hp⟩ Ib
  have HP:∀{p dst x},T3 p dst x=some r->p.still=false:=λ{p dst x} he=>by
   obtain⟨args,_,e⟩:=D1 he
   exact ZL e
  unfold Gx at hc
  split at hc
  .rename_i x ho
   split at hc
   .rename_i d hd
    obtain⟨γ',Gc⟩:=SU hc Gk hr
    exact JB (w':=w) (v:=a.eval x) (by simp[execOp,ho]) (j _ _ _ _ (by rw[hd];exact Gc))
   .cases hc
  .rename_i x ho
   split at hc
   .rename_i d hd
    obtain⟨γ',Gc⟩:=SU hc Gk hr
    exact JB (w':=w) (v:=a.eval x) (by simp[execOp,ho]) (j _ _ _ _ (by rw[hd];exact Gc))
   .cases hc
  .rename_i c x y ho
   split at hc
   .rename_i d hcs hd
    obtain⟨γ',Gc⟩:=SU hc Gk hr
    obtain⟨s,h1,_⟩:=GB hr hcs
    have h1:a.eval c= .bool true:=h1
    exact JB (w':=w) (v:=a.eval x) (by simp[execOp,ho,h1,asBool]) (j _ _ _ _ (by rw[hd];exact Gc))
   .rename_i d hcs hd
    obtain⟨γ',Gc⟩:=SU hc Gk hr
    obtain⟨s,h1,_⟩:=GB hr hcs
    have h1:a.eval c= .bool false:=h1
    exact JB (w':=w) (v:=a.eval y) (by simp[execOp,ho,h1,asBool]) (j _ _ _ _ (by rw[hd];exact Gc))
   .cases HP hc
  .rename_i t ho
   split at hc
   .rename_i d z hd hz
    split at hc
    .split at hc
     .rename_i Ic
      cases hc
      obtain⟨rfl,rfl⟩:=Gk
      exact(XO ho hd hz Ic.2 hr).wp j
     .cases hc
    .rename_i hk
     refine(bN (o:=o) (a:=a) (w:=w) (γ0:=γ0) (w0:=w0) hc Gk (λn h0 h1 h2=>absurd h0 (by simpa using hk)) λh1=>XP ho hd hz h1 hr).wp j
   .cases hc
  .rename_i t x ho
   split at hc
   .rename_i d v hd hv
    exact(bN (o:=o) (a:=a) (w:=w) (γ0:=γ0) (w0:=w0) hc Gk (λn _ h1 h2=>eM ho hd hv h1 h2 hr) λh1=>eO ho hd hv h1 hr).wp j
   .cases hc
  .split at hc
   .split at hc
    .cases HP hc
    .cases hc
   .cases hc
  .rename_i t len parts ho
   split at hc
   .rename_i e ht
    split at hc
    .rename_i n hn
     split at hc
     .rename_i Ic
      split at hc
      .rename_i hlen
       cases hc
       obtain⟨v,hv,rfl,rfl⟩:=Gk
       cases hv
       exact(uc ho ht hn Ic.1 Ic.2 hlen.1 hr).wp j
      cases ha:BB C U (parts.toList.map (·.2)) with
      |none=>rw[ha] at hc;cases hc
      |some args=>
       rw[ha] at hc;cases hc
       obtain⟨v,hv,rfl,rfl⟩:=Gk
       exact(ub ho ht hn Ic.1 Ic.2 ha hv hr).wp j
     .cases hc
    .cases hc
   .cases hc
  .rename_i t x ho
   split at hc
   .rename_i d hd
    by_cases hp:∃ws,r= .pure ws
    .exact(Z0 ho hd hc hp Gk hr).wp j
    .unfold L1 at hc
     split at hc
     .rename_i n p ht hx
      cases hc
      obtain⟨v,hv,rfl,rfl⟩:=Gk
      have hs:=tz ho ht hx hv hr
      rw[hd] at hs
      exact hs.wp j
     .split at hc
      .simp only at hc
       split at hc<;>(cases hc;exact absurd ⟨_,rfl⟩ hp)
      .cases hc
     .split at hc
      .cases hc;exact absurd ⟨_,rfl⟩ hp
      .cases hc
     .cases hc
   .cases hc
  .rename_i t x y ho
   split at hc
   .rename_i hd
    have Kw:=hc
    unfold JM at hc
    split at hc
    .rename_i n p v Ls hx hv
     cases hc
     obtain⟨aLM,rfl⟩:=Gk
     exact(ju ho hd Ls hx hv aLM hr).wp j
    .split at hc
     .cases hc
      exact(tR ho hd Kw Gk hr).wp j
     .cases hc
    .cases hc
   .cases hc
  .rename_i x ho
   split at hc
   .rename_i s ver cs ow d hd hs
    cases hc
    obtain⟨rfl,rfl⟩:=QJ Gk
    have he:=X2 hr hs
    exact JB (w':=w) (v:= .pointer (some ⟨O s,0,none⟩)) (by simp[execOp,ho,he]) (j _ _ _ _ (by rw[hd];exact hr.put (d:=some d) λ_ _=>rfl))
   .rename_i s k d hd hs
    cases hc
    obtain⟨rfl,rfl⟩:=QJ Gk
    have he:=Vf hr hs
    exact JB (w':=w) (v:= .pointer (some ⟨O s,k,none⟩)) (by simp[execOp,ho,he]) (j _ _ _ _ (by rw[hd];exact hr.put (d:=some d) λ_ _=>rfl))
   .cases HP hc
  .split at hc
   .rename_i p hp
    have ă:=HP hc
    rw[Z6 hp] at ă
    cases ă
   .cases hc
  .cases HP hc
  .rename_i src aLu x ho
   split at hc
   .rename_i hq
    unfold XA at hq
    cases hv:E6 C U x with
    |none=>rw[hv] at hc;cases hc
    |some v=>
     rw[hv] at hc;cases hc
     split at hq
     .cases hq
     .cases hq
     .cases hq
     .rename_i e hs hd
      split at hq
      .rename_i he
       obtain⟨v',u,h1,h2,rfl⟩:=Gk
       exact(ü ho hs hd he hv h1 h2 hr).wp j
      .cases hq
     .split at hq<;>cases hq
     .cases hq
   .rename_i hq
    unfold XA at hq
    split at hq
    .cases hq
    .cases hq
    .cases hq
    .split at hq<;>cases hq
    .rename_i e hs hd
     split at hq
     .rename_i he _ _
      split at hc
      .cases hv:E6 C U x with
       |none=>rw[hv] at hc;cases hc
       |some v=>
        rw[hv] at hc;cases hc
        obtain⟨u,h1,rfl⟩:=Gk
        exact(eS ho hs hd he hv h1 hr).wp j
      .obtain⟨args,ha,rfl⟩:=D1 hc
       obtain⟨u,h1,rfl,rfl⟩:=Gk
       obtain⟨v,rfl,_⟩:=GY hr ha
       exact(û ho hs hd he ha h1 hr).wp j
     .cases hq
    .cases hq
   .rename_i p ND TY hq
    have ă:=HP hc
    unfold XA at hq
    split at hq
    .cases hq;cases ă
    .cases hq;cases ă
    .cases hq
    .split at hq
     .cases hq;exact absurd rfl ND
     .cases hq
    .split at hq
     .cases hq;exact absurd rfl TY
     .cases hq
    .cases hq
   .cases hc
  .rename_i fn first captured ho
   split at hc
   .rename_i d as bs fz hd ha hb
    cases hc
    obtain⟨rfl,rfl⟩:=Gk
    exact(oC ho hd ha hb hr).wp j
   .cases hc
  .rename_i t ho
   cases hc
   obtain⟨rfl,rfl⟩:=Gk
   exact(uj ho hr).wp j
  .rename_i t l c ho
   split at hc
   .rename_i e ht
    split at hc
    .rename_i n b z V vc hn hb hz hl WE
     cases hc
     obtain⟨v,h1,rfl⟩:=Gk
     exact(ug ho ht hn hb hz hl WE h1 hr).wp j
    .cases hc
   .cases hc
  .rename_i t m k x ho
   split at hc
   .rename_i kt e ht
    split at hc
    .rename_i D E I hd hk ha
     cases hc
     obtain⟨h1,rfl⟩:=Gk
     exact(oG (.inl ho) hd ht hk ha h1 hr).wp j
    .rename_i D E I hd hk ha
     cases hc
     obtain⟨v,h1,rfl⟩:=Gk
     exact(oN (.inl ho) hd ht hk ha h1 hr).wp j
    .cases hc
   .cases hc
  .rename_i t m k x ho
   split at hc
   .rename_i kt e ht
    split at hc
    .rename_i D E I hd hk ha
     cases hc
     obtain⟨h1,rfl⟩:=Gk
     exact(oG (.inr ho) hd ht hk ha h1 hr).wp j
    .rename_i D E I hd hk ha
     cases hc
     obtain⟨v,h1,rfl⟩:=Gk
     exact(oN (.inr ho) hd ht hk ha h1 hr).wp j
    .cases hc
   .cases hc
  .rename_i t m k ok ho
   split at hc
   .rename_i kt e ht
    split at hc
    .rename_i z D E hk hz ha
     cases hc
     obtain⟨v,h1,rfl,rfl⟩:=Gk
     exact(uk ho ht hk hz ha h1 hr).wp j
    .rename_i z D E hk hz ha
     cases hc
     obtain⟨v,h1,rfl⟩:=Gk
     exact(uz ho ht hk hz ha h1 hr).wp j
    .cases hc
   .cases hc
  .rename_i t x lo hi mx ho
   split at hc
   .rename_i e ht
    split at hc
    .rename_i n hn
     obtain⟨args,ha,rfl⟩:=HC hc
     obtain⟨v,h1,rfl⟩:=Gk
     simp only[Ep] at h1
     split at h1
     .rename_i J
      cases h1
      exact(ux ho ht hn ha J hr).wp j
     .cases h1
    .cases hc
   .cases hc
  .rename_i t x ho
   split at hc
   .cases hc
   .rename_i u hu ht
    obtain⟨args,ha,rfl⟩:=HC hc
    obtain⟨v,h1,rfl⟩:=Gk
    obtain⟨y,rfl,_⟩:=GY hr ha
    cases h1
    exact(uy ho ht (λi e=>hu i e) ha hr).wp j
   .cases hc
  .rename_i t m k ho
   split at hc
   .rename_i kt e ht
    split at hc
    .rename_i z hk hz
     obtain⟨args,ha,rfl⟩:=HC hc
     obtain⟨v,h1,rfl⟩:=Gk
     obtain⟨A,B,rfl,_,_⟩:=Fh hr ha
     exact(tY ho ht hk hz ha h1 hr).wp j
    .rename_i z hk hz
     obtain⟨args,ha,rfl⟩:=HC hc
     obtain⟨v,h1,rfl⟩:=Gk
     obtain⟨A,B,rfl,_,_⟩:=Fh hr ha
     exact(tZ ho ht hk hz ha h1 hr).wp j
    .cases hc
   .cases hc
  .rename_i t m s x ho
   split at hc
   .rename_i hd
    obtain⟨args,ha,rfl⟩:=HC hc
    obtain⟨v,h1,rfl⟩:=Gk
    obtain⟨A,B,H,rfl⟩:∃A B H,args=[A,B,H]:=by
     have:=D0 hr ha
     cases args with
     |nil=>cases h1
     |cons A l1=>cases l1 with
      |nil=>cases h1
      |cons B S=>cases S with
       |nil=>cases h1
       |cons H l3=>cases l3 with
        |nil=>exact⟨_,_,_,rfl⟩
        |cons _ _=>cases h1
    exact(uA ho hd ha h1 hr).wp j
   .cases hc
  .rename_i t x lo hi ho
   split at hc
   .cases HP hc
   .rename_i e ht
    split at hc
    .rename_i n hn
     split at hc
     .obtain⟨args,ha,rfl⟩:=HC hc
      obtain⟨v,h1,rfl⟩:=Gk
      cases args with
      |nil=>cases h1
      |cons y l=>exact(uv ho ht hn ha h1 hr).wp j
     .cases HP hc
    .cases hc
   .cases hc
  .rename_i t x f ho
   split at hc
   .rename_i off sh d hf hd
    split at hc
    .rename_i s ver cs ow hs
     cases hc
     obtain⟨rfl,rfl⟩:=QJ Gk
     have he:=X2 hr hs
     exact JB (w':=w) (v:= .pointer (some ⟨O s,off,none⟩)) (by simp only[execOp,ho,he];exact E0 (by rw[N5 hf];simp)) (j _ _ _ _ (by rw[hd];exact hr.put (d:=some d) λ_ _=>rfl))
    .rename_i s k hs
     cases hc
     obtain⟨rfl,rfl⟩:=QJ Gk
     have he:=Vf hr hs
     exact JB (w':=w) (v:= .pointer (some ⟨O s,k+off,none⟩)) (by simp only[execOp,ho,he];exact E0 (N5 hf _ _)) (j _ _ _ _ (by rw[hd];exact hr.put (d:=some d) λ_ _=>rfl))
    .cases HP hc
   .cases hc
  .split at hc
   .cases HP hc
   .cases hc
  .split at hc
   .split at hc
    .cases HP hc
    .cases hc
   .split at hc
    .split at hc
     .cases hc
     .cases HP hc
    .cases hc
   .cases hc
  .split at hc
   .cases HP hc
   .split at hc
    .cases HP hc
    .cases hc
   .cases hc
  .cases HP hc
  .rename_i c ho
   unfold RL at hc
   split at hc
   .split at hc
    .split at hc
     .cases HP hc
     .cases HP hc
     .cases hc
    .cases hc
   .rename_i hcl
    split at hc
    .rename_i t t' s x h0 h1 ET
     split at hc
     all_goals first
      |(cases hc;done)
      | (rename_i e _ ht Gs
         split at hc
         . rename_i n b hn hb
           split at hc
           . rename_i nD
             split at hc
             . rename_i v u ha
               split at hc
               . rename_i FJ
                 split at hc
                 . cases hc
                   obtain ⟨r', q, rfl⟩ := Gk
                   exact (j_ ho hcl h0 h1 ET ht (by first | exact .inl ⟨_, Gs⟩ | exact .inr Gs) hn hb FJ nD ha q hr).wp j
                 . split at hc
                   . cases hc
                     obtain ⟨r', q, rfl, rfl⟩ := Gk
                     exact (oE ho hcl h0 h1 ET ht (by first | exact .inl ⟨_, Gs⟩ | exact .inr Gs) hn hb FJ nD ha q hr).wp j
                   . cases hc
                     obtain ⟨r', q, rfl, rfl⟩ := Gk
                     exact (tT ho hcl h0 h1 ET ht (by first | exact .inl ⟨_, Gs⟩ | exact .inr Gs) hn hb FJ nD ha q hr).wp j
               . split at hc
                 . cases hc
                   obtain ⟨r', q, rfl⟩ := Gk
                   exact (uo ho hcl h0 h1 ET ht (by first | exact .inl ⟨_, Gs⟩ | exact .inr Gs) hn hb nD ha q hr).wp j
                 . cases hc
             . cases hc
           . cases hc
         . cases hc)
    .cases hc
   .rename_i hcl
    split at hc
    .rename_i t t' s x h0 h1 ET
     split at hc
     all_goals first
      |(cases hc;done)
      | (rename_i e _ ht Gs
         split at hc
         . rename_i n hn
           obtain ⟨args, ha, rfl⟩ := HC hc
           obtain ⟨v, q, rfl⟩ := Gk
           obtain ⟨A, B, rfl, _, _⟩ := Fh hr ha
           exact (ur ho hcl h0 h1 ET ht (by first | exact .inl ⟨_, Gs⟩ | exact .inr Gs) hn ha q hr).wp j
         . cases hc)
    .cases hc
   .rename_i hcl
    split at hc
    .rename_i t s h0 ET
     split at hc
     .rename_i e ht
      split at hc
      .rename_i n z hn hz
       obtain⟨args,ha,rfl⟩:=HC hc
       obtain⟨v,q,rfl⟩:=Gk
       obtain⟨A,rfl,_⟩:=GY hr ha
       exact(kg ho hcl h0 ET ht hn hz ha q hr).wp j
      .cases hc
     .cases hc
    .cases hc
   .split at hc
    .cases HP hc
    .cases hc
   .split at hc
    .cases HP hc
    .cases hc
   .rename_i f hcl
    split at hc
    .rename_i hf
     split at hc
     .rename_i s i x ET
      split at hc
      .rename_i FJ
       obtain⟨args,ha,rfl⟩:=HC hc
       obtain⟨v,q,rfl⟩:=Gk
       exact ý G ho hcl hf ET FJ ha q hr λγ' v w' Gc=>j _ _ _ _ Gc
      .cases hc
     .cases hc
    split at hc
    rotate_left
    .cases hc
    rename_i Vb
    rw[<-Vb] at hcl
    cases ha:BB C U c.args.toList with
    |none=>rw[ha] at hc;cases hc
    |some args=>
     rw[ha] at hc
     simp only[BY,BC] at hc
     split at hc
     .cases hc
      obtain⟨Hu,M,h1,h2,q,rfl,rfl⟩:=Gk
      exact jw G ho hcl ha Hu h2 q hr λγ' v w' Gc=>j _ _ _ _ Gc
     .cases hc
      obtain⟨M,h1,rfl⟩:=Gk
      exact ui G ho hcl ha h1 hr λγ' v w' Gc=>j _ _ _ _ Gc
   .rename_i g hn hcl
    split at hc
    .rename_i W args hg ha
     cases hc
     obtain⟨f,args',M,h0,h1,rfl⟩:=Gk
     exact jx G ho hcl hg ha h0 h1 hr λγ' v w' Gc=>j _ _ _ _ Gc
    .cases hc
   .cases hc
  .cases hc
end
end Go.Am
end
section
namespace Go.Am
open Go
section
variable{C:Gb}{U Z:BU}{fid:FuncId}{ops:List Oper}
def eU{x:Operand}(h:∀t,x= .tmp t->Z.at t=U.at t):Ef C Z x=Ef C U x:=by
 cases x with
 |tmp t=>simp only[Ef,h t rfl]
 |const v=>
  cases v with
  |slice a b c=>cases a<;>cases b<;>cases c<;>rfl
  |_=>rfl
 |global g=>rfl
 |func f=>rfl
def WH(C:Gb)(U Z:BU)(xs:List Operand):Prop:=∀x∈xs,Ef C Z x=Ef C U x
def WH.zJ{xs:List Operand}(h:∀t∈Ks xs,Z.at t=U.at t):WH C U Z xs:=λx hx=>eU λt ht=>h t (by subst ht;exact Cj.2 ⟨_,hx,rfl⟩)
def WH.val{xs:List Operand}(h:WH C U Z xs){x:Operand}(hx:x∈xs):E6 C Z x=E6 C U x:=by unfold E6;rw[h x hx]
def WH.Lb{xs:List Operand}(h:WH C U Z xs):∀{ys:List Operand},(∀y∈ys,y∈xs)->BB C Z ys=BB C U ys
 |[],_=>rfl
 |y::ys,hy=>by unfold BB;rw[h.val (hy y AH),h.Lb λz hz=>hy z (by simp[hz])]
def WH.move{xs:List Operand}(h:WH C U Z xs){x:Operand}(hx:x∈xs)(d:Nat)(take:Bool):K9 C Z x d take=K9 C U x d take:=by unfold K9;rw[h x hx]
def WH.Bs{xs:List Operand}(h:WH C U Z xs){x:Operand}(hx:x∈xs):LF C Z x=LF C U x:=by unfold LF;rw[h x hx]
def WH.DR{xs:List Operand}(h:WH C U Z xs){x:Operand}(hx:x∈xs):Ds Z x=Ds U x:=by
 cases x with
 |tmp t=>have:=h _ hx;simp only[Ef,BC] at this;simp only[Ds,this]
 |_=>rfl
def WH.Gw{xs:List Operand}(h:WH C U Z xs):∀{ys:List Operand},(∀y∈ys,y∈xs)->Am.Gw C Z ys=Am.Gw C U ys
 |[],_=>rfl
 |y::ys,hy=>by unfold Am.Gw;rw[h y (hy y AH),h.Gw λz hz=>hy z (by simp[hz])]
def WH.addr{xs:List Operand}(h:WH C U Z xs){x:Operand}(hx:x∈xs)(hb:∀s∈(OG C U x).toList,Z.at s=U.at s)(hn:Gv C U x≠none):Gv C Z x=Gv C U x:=by
 have OB:=h x hx;cases hs:Ef C U x with
 |none=>unfold Gv at hn;rw[hs] at hn;exact absurd (by split<;>simp_all) hn
 |some sl=>
  rw[hs] at OB;cases sl with
  |Fo s o=>
   have h1:∀J:BU,Ef C J x=some (.Fo s o)->Gv C J x=match J.at s with| .box ver cs ow=>some (.PQ s o ver cs ow)|_=>none:=λJ b=>by unfold Gv;rw[b];cases x<;>rfl
   rw[h1 U hs] at hn⊢;rw[h1 Z OB];have h2:s∈(OG C U x).toList:=by
    unfold OG;rw[h1 U hs];cases RP:U.at s with
    |box ver cs ow=>simp
    |_=>rw[RP] at hn;exact absurd rfl hn
   rw[hb s h2]
  |_=>unfold Gv;rw[hs,OB];cases x<;>rfl
def WH.load{xs:List Operand}(h:WH C U Z xs){x:Operand}(hx:x∈xs)(hb:∀s∈(OG C U x).toList,Z.at s=U.at s){t:TypeId}{d:Nat}{take:Bool}{r:EP}(hc:L1 C U t x d take=some r):L1 C Z t x d take=some r:=by
 have hn:Gv C U x≠none:=λhe=>by unfold L1 at hc;rw[he] at hc;split at hc<;>simp_all
 unfold L1 at hc⊢;rw[h.addr hx hb hn];exact hc
def WH.store{xs:List Operand}(h:WH C U Z xs){x y:Operand}(hx:x∈xs)(hy:y∈xs)(hb:∀s∈(OG C U x).toList,Z.at s=U.at s){t:TypeId}{r:EP}(hc:JM C U t x y=some r):JM C Z t x y=some r:=by
 have hn:Gv C U x≠none:=λhe=>by unfold JM at hc;rw[he] at hc;split at hc<;>simp_all
 unfold JM at hc⊢;rw[h.addr hx hb hn,h.val hy,h.Bs hy,h.DR hy];exact hc
def WH.call{c:Call}(h:WH C U Z c.operands.toList)(dst:Option Nat):RL C fid Z c dst=RL C fid U c dst:=by
 have ha:∀y∈c.args.toList,y∈c.operands.toList:=λy hy=>by unfold Call.operands;rw[Hg];exact BV _ hy
 have hv:BB C Z c.args.toList=BB C U c.args.toList:=h.Lb ha;unfold RL;split;.rw[hv]
 .split
  .rename_i ET;have h1:∀{s x:Operand},c.args.toList=[s,x]->LF C Z s=LF C U s/\Ds Z s=Ds U s/\BB C Z [s,x]=BB C U [s,x]:=λ{s x} he=>by rw[he] at ha;exact⟨h.Bs (ha s AH),h.DR (ha s AH),h.Lb λy hy=>ha y hy⟩
   obtain⟨e,d,b⟩:=h1 ET;rw[e,d,b]
  .rfl
 .split;.rename_i ET;rw[ET] at ha;rw[h.Lb λy hy=>ha y hy]
  .rfl
 .split;.rename_i ET;rw[ET] at ha;rw[h.Lb λy hy=>ha y hy]
  .rfl
 .rw[hv]
 .rw[hv]
 .split
  .split;.rename_i s i v ET;rw[ET] at ha;rw[h.Bs (ha v AH),h.Lb λy hy=>ha y hy]
   .rfl
  .rw[hv]
 .rename_i g _ hcl;have hg:g∈c.operands.toList:=by unfold Call.operands;rw[hcl];simp
  rw[hv,h.val hg]
 .rfl
def X3{o:Oper}{r:EP}(hc:Gx C fid ops U o=some r)(ht:∀t∈Ks o.op.operands.toList,Z.at t=U.at t)(hb:∀s∈Il C U o,Z.at s=U.at s):Gx C fid ops Z o=some r:=by
 have h:WH C U Z o.op.operands.toList:= .zJ ht
 unfold Gx at hc⊢
 cases ho:o.op with
 |move x=>
  rw[ho] at h
  simp only[ho] at hc⊢
  have:=λd=>h.move (x:=x) I8 d
  simpa only[this] using hc
 |assign x=>
  rw[ho] at h
  simp only[ho] at hc⊢
  have:=λd=>h.move (x:=x) I8 d
  simpa only[this] using hc
 |pick c a b=>
  rw[ho] at h
  simp only[ho] at hc⊢
  have h1:=λd=>h.move (x:=a) I8 d
  have h2:=λd=>h.move (x:=b) I8 d
  rw[h c I8,h.Lb (ys:=[c,a,b]) I8]
  simpa only[h1,h2] using hc
 |alloc t=>rw[ho] at hc;exact hc
 |box t x=>
  rw[ho] at h
  simp only[ho] at hc⊢
  rw[h.val (x:=x) I8]
  exact hc
 |build t parts=>
  rw[ho] at h
  simp only[ho] at hc⊢
  rw[h.Lb (ys:=parts.toList.map (·.2)) I8]
  exact hc
 |buildSlice t len parts=>
  rw[ho] at h
  simp only[ho] at hc⊢
  rw[h.Lb (ys:=parts.toList.map (·.2)) I8]
  exact hc
 |load t x=>
  rw[ho] at h
  simp only[ho] at hc⊢
  split at hc
  .exact h.load I8 (λs hs=>hb s (by simpa only[Il,ho] using hs)) hc
  .cases hc
 |store t x y=>
  rw[ho] at h
  simp only[ho] at hc⊢
  split at hc
  .exact h.store I8 I8 (λs hs=>hb s (by simpa only[Il,ho] using hs)) hc
  .cases hc
 |nilCheck x=>
  rw[ho] at h
  simp only[ho] at hc⊢
  have e:=h.Lb (ys:=[x]) I8
  rw[h x I8]
  cases hs:Ef C U x with
  |none=>rw[hs] at hc;cases x<;>cases hd:o.dst<;>rw[hd] at hc<;>first|exact hc|(show T3 _ _ (BB C Z [_])=some r;rw[e];exact hc)
  |some sl=>rw[hs] at hc;cases sl<;>cases x<;>cases hd:o.dst<;>rw[hd] at hc<;>first|exact hc|(show T3 _ _ (BB C Z [_])=some r;rw[e];exact hc)
 |binOp op t x y k=>
  rw[ho] at h
  simp only[ho] at hc⊢
  rw[h.Lb (ys:=[x,y]) I8]
  exact hc
 |unOp op t x=>
  rw[ho] at h
  simp only[ho] at hc⊢
  rw[h.Lb (ys:=[x]) I8]
  exact hc
 |convert src dst x=>
  rw[ho] at h
  simp only[ho] at hc⊢
  rw[h.Lb (ys:=[x]) I8,h.val (x:=x) I8]
  exact hc
 |makeFunc fn first captured=>
  rw[ho] at h
  simp only[ho] at hc⊢
  rw[h.Lb (ys:=first.toList) (λ_ hm=>by simp[Op.operands,hm]),h.Gw (ys:=captured.toList) (λ_ hm=>by simp[Op.operands,hm])]
  exact hc
 |makeMap t r'=>
  rw[ho] at hc
  cases r' with
  |none=>exact hc
  |some _=>cases hc
 |makeSlice t l c=>
  rw[ho] at h
  simp only[ho] at hc⊢
  rw[h.val (x:=l) I8,h.val (x:=c) I8]
  exact hc
 |insert t m k v=>
  rw[ho] at h
  simp only[ho] at hc⊢
  rw[h.Lb (ys:=[m,k,v]) I8]
  exact hc
 |mapUpdate t m k v=>
  rw[ho] at h
  simp only[ho] at hc⊢
  rw[h.Lb (ys:=[m,k,v]) I8]
  exact hc
 |lookup t m k ok=>
  rw[ho] at h
  simp only[ho] at hc⊢
  rw[h.Lb (ys:=[m,k]) I8]
  exact hc
 |slice t x lo hi mx=>
  rw[ho] at h hc
  cases mx with
  |none=>
   have e:=h.Lb (ys:=x::(lo.toList++hi.toList)) (by cases lo<;>cases hi<;>simp[Op.operands])
   simp only at hc⊢
   rw[e]
   exact hc
  |some mx=>cases lo with
   |none=>cases hc
   |some lo=>cases hi with
    |none=>cases hc
    |some hi=>
     have e:=h.Lb (ys:=[x,lo,hi,mx]) I8
     simp only at hc⊢
     rw[e]
     exact hc
 |makeInterface t x=>
  rw[ho] at h
  simp only[ho] at hc⊢
  rw[h.Lb (ys:=[x]) I8]
  exact hc
 |mapEntry t m k=>
  rw[ho] at h
  simp only[ho] at hc⊢
  rw[h.Lb (ys:=[m,k]) I8]
  exact hc
 |entryStore t m s v=>
  rw[ho] at h
  simp only[ho] at hc⊢
  rw[h.Lb (ys:=[m,s,v]) I8]
  exact hc
 |fieldAddr t x f=>
  rw[ho] at h
  simp only[ho] at hc⊢
  have e:=h.Lb (ys:=[x]) I8
  rw[h x I8]
  cases hf:IK C.P t f with
  |none=>rw[hf] at hc;cases hc
  |some q=>
   rw[hf] at hc
   cases hd:o.dst with
   |none=>rw[hd] at hc;cases hc
   |some d=>
    rw[hd] at hc
    cases hs:Ef C U x with
    |none=>rw[hs] at hc;cases x<;>first|exact hc|(show T3 _ _ (BB C Z [_])=some r;rw[e];exact hc)
    |some sl=>rw[hs] at hc;cases sl<;>cases x<;>first|exact hc|(show T3 _ _ (BB C Z [_])=some r;rw[e];exact hc)
 |field t x f=>
  rw[ho] at h
  simp only[ho] at hc⊢
  rw[h.Lb (ys:=[x]) I8]
  exact hc
 |indexAddr t x i=>
  rw[ho] at h
  simp only[ho] at hc⊢
  rw[h.Lb (ys:=[x,i]) I8]
  exact hc
 |index t x i=>
  rw[ho] at h
  simp only[ho] at hc⊢
  rw[h.Lb (ys:=[x,i]) I8]
  exact hc
 |extract x i=>
  rw[ho] at h
  simp only[ho] at hc⊢
  rw[h.Lb (ys:=[x]) I8]
  exact hc
 |call c=>
  rw[ho] at h
  simp only[ho] at hc⊢
  rw[h.call]
  exact hc
 |_=>simp only[ho] at hc;cases hc
end
end Go.Am
end
section
namespace Go.Am
open Go
mutual
def Aa.beq_eq:∀{a b:Aa},Aa.beq a b=true->a=b
 | .bool a,b,h=>by cases b<;>simp[Aa.beq] at h⊢;exact h
 | .int k a,b,h=>by cases b<;>simp[Aa.beq] at h⊢;exact h
 | .str a,b,h=>by cases b<;>simp[Aa.beq] at h⊢;exact h
 | .ptr a,b,h=>by cases b<;>simp[Aa.beq] at h⊢;exact h
 | .Gl a,b,h=>by cases b<;>simp[Aa.beq] at h⊢;exact h
 | .CI a,b,h=>by cases b<;>simp[Aa.beq] at h⊢;exact Aa.OS h
 | .sl n a,b,h=>by cases b<;>simp[Aa.beq] at h⊢;exact⟨h.1,Aa.oO h.2⟩
 | .slnil,b,h=>by cases b<;>simp[Aa.beq] at h⊢
 | .CE a c d e,b,h=>by cases b<;>simp[Aa.beq] at h⊢;exact⟨h.1.1.1,h.1.1.2,h.1.2,h.2⟩
 | .map a,b,h=>by cases b<;>simp[Aa.beq] at h⊢;exact h
 | .func f a c,b,h=>by cases b<;>simp[Aa.beq] at h⊢;exact⟨h.1.1,Aa.OS h.1.2,Aa.OS h.2⟩
 | .nilFunc,b,h=>by cases b<;>simp[Aa.beq] at h⊢
 | .iface t a,b,h=>by cases b<;>simp[Aa.beq] at h⊢;exact⟨h.1,Aa.beq_eq h.2⟩
 | .nilIface,b,h=>by cases b<;>simp[Aa.beq] at h⊢
 | .agg a,b,h=>by cases b<;>simp[Aa.beq] at h⊢;exact Aa.OS h
 | .tuple a,b,h=>by cases b<;>simp[Aa.beq] at h⊢;exact Aa.OS h
def Aa.OS:∀{a b:List Aa},Aa.SD a b=true->a=b
 |[],b,h=>by cases b<;>simp[Aa.SD] at h⊢
 |a::x,b,h=>by
  cases b with
  |nil=>simp[Aa.SD] at h
  |cons c y=>simp[Aa.SD] at h⊢;exact⟨Aa.beq_eq h.1,Aa.OS h.2⟩
def Aa.oO:∀{a b:List (List Aa)},Aa.SE a b=true->a=b
 |[],b,h=>by cases b<;>simp[Aa.SE] at h⊢
 |a::x,b,h=>by
  cases b with
  |nil=>simp[Aa.SE] at h
  |cons c y=>simp[Aa.SE] at h⊢;exact⟨Aa.OS h.1,Aa.oO h.2⟩
end
def BU.Kb(U:BU):∀(a b:List (Nat×Ew)),U.En (a++b)=(U.En a).En b
 |[],_=>rfl
 |(s,x)::a,b=>BU.Kb (U.set s x) a b
def BU.Kd:∀(ws:List (Nat×Ew)) (U:BU),(U.En ws).length=U.length
 |[],_=>rfl
 |(s,x)::ws,U=>by rw[BU.En,BU.Kd ws];simp
def BU.X4(U:BU)(s t:Nat)(x:Ew):BU.at (U.set s x) t=if s=t/\t<U.length then x else U.at t:=by
 by_cases h:s=t
 .subst h;by_cases hl:s<U.length;.simp[BU.at,List.getD,hl]
  .simp[BU.at,List.getD,hl]
 .simp[BU.at,List.getD,As h,h]
def BU.GZ:∀(ws:List (Nat×Ew)) (U:BU) (t:Nat),(∀p∈ws,p.1≠t)->(U.En ws).at t=U.at t
 |[],_,_,_=>rfl
 |(s,x)::ws,U,t,h=>by rw[BU.En,BU.GZ ws _ t λp hp=>h p (by simp[hp]),BU.X4,Ad];exact λe=>h (s,x) AH e.1
def BU.X5:∀(ws:List (Nat×Ew)) (U:BU) (t:Nat),(U.En ws).at t=U.at t\/∃p∈ws,p.1=t/\(U.En ws).at t=p.2
 |[],_,_=> .inl rfl
 |(s,x)::ws,U,t=>by
  rcases BU.X5 ws (U.set s x) t with h|⟨p,hp,h1,h2⟩
  .rw[BU.X4] at h;by_cases hc:s=t/\t<U.length;.rw[Af hc] at h;exact .inr ⟨(s,x),AH,hc.1,h⟩
   .rw[Ad hc] at h;exact .inl h
  .exact .inr ⟨p,by simp[hp],h1,h2⟩
def BU.JC:∀(ws:List (Nat×Ew)) (U Z:BU) (t:Nat),Z.length=U.length->Z.at t=U.at t->(Z.En ws).at t=(U.En ws).at t
 |[],_,_,_,_,h=>h
 |(s,x)::ws,U,Z,t,hl,h=>by refine BU.JC ws _ _ t (by simpa using hl) ?_;rw[BU.X4,BU.X4,hl,h]
def BU.ext{U Z:BU}(hl:Z.length=U.length)(h:∀t,Z.at t=U.at t):Z=U:=by apply List.ext_getElem hl;intro i h1 h2;have:=h i;simpa[BU.at,List.getD,h1,h2] using this
def BU.ki{U:BU}{a b:List (Nat×Ew)}(h:∀p∈a,∀q∈b,p.1≠q.1):(U.En a).En b=(U.En b).En a:=by
 refine BU.ext (by simp[BU.Kd]) λt=>?_;by_cases ha:∀p∈a,p.1≠t;.rw[BU.GZ a (U.En b) t ha];exact BU.JC b _ _ t (by simp[BU.Kd]) (BU.GZ a U t ha)
 .have⟨p,hp,c⟩:∃p∈a,p.1=t:=Classical.byContradiction λhn=>ha λp hp e=>hn ⟨p,hp,e⟩;have hb:∀q∈b,q.1≠t:=λq hq e=>h p hp q hq (by rw[c,e]);rw[BU.GZ b (U.En a) t hb];exact(BU.JC a _ _ t (by simp[BU.Kd]) (BU.GZ b U t hb)).symm
def OT{U:BU}{ds:List Nat}:NA U ds=true↔∀x t o,U.at x= .Fo t o->t∉ds:=by
 unfold NA;rw[Db];constructor
 .intro h x t o hx;by_cases hl:x<U.length;.have:=h (U.at x) (by simp[BU.at,List.getD,hl]);rw[hx] at this;simpa using this
  .simp[BU.at,List.getD,hl] at hx
 .intro h s hs;obtain⟨i,hi⟩:=CT hs;cases s with
  |Fo t o=>have:=h i t o (by simp[BU.at,List.getD,hi]);simpa using this
  |_=>rfl
def kj{a b:List Nat}:U4 a b=true↔∃x,x∈a/\x∈b:=by simp[U4]
structure St where
 idx:Nat
 fp:FP
 fl:Option KZ
def Lw(i:Nat)(r:EP)(U:BU):Option KZ:=
 match r with
 | .load n p (some d)=>match U.at d with
  | .val v=>some {idx:=i,n,p,v}
  |_=>none
 |_=>none
def X6(i:Nat)(r:EP)(U:BU)(fl:List KZ):Nf i r U fl=(Lw i r U).toList++fl:=by
 cases r with
 |load n p dst=>
  cases dst with
  |none=>rfl
  |some d=>simp only[Nf,Lw];cases U.at d<;>rfl
 |_=>rfl
def Z7{i:Nat}{r:EP}{U Z:BU}(h:∀d∈r.wf,Z.at d=U.at d):Lw i r Z=Lw i r U:=by
 cases r with
 |load n p dst=>
  cases dst with
  |none=>rfl
  |some d=>simp only[Lw];rw[h d (by simp[EP.wf])]
 |_=>rfl
def Ni(d:Option Nat)(U U':BU):Prop:=
 match d with
 |none=>U'=U
 |some d=>match U.at d with
  | .val v=>∃b,v= .bool b/\U'=U.set d (.Px b)
  |_=>U'=U
section
variable{C:Gb}{fid:FuncId}{ops:List Oper}{run:IT->Ai->Option Km}{U Z U':BU}{h h':Ai}
def P3(C:Gb)(fid:FuncId)(ops:List Oper)(run:IT->Ai->Option Km)(s:St)(U:BU)(h:Ai)(U':BU)(h':Ai):Prop:=
 ∃o,ops[s.idx]?=some o/\
  ((I5 ops U o = .NX false /\ s.fp = VV C ops U o none /\ s.fl = none /\ U' = U.put o.dst .skip /\ h' = h) \/
   ∃ r U1, I5 ops U o = .NX true /\ Gx C fid ops U o = some r /\ s.fp = VV C ops U o (some r) /\ r.N0 C run (U.drop r.news) h U1 h' /\ s.fl = Lw s.idx r U1 /\
     Ni (if SN ops s.idx then o.dst else none) U1 U')
def X7(U:BU)(d:Option Nat)(x:Ew):U.put d x=U.En (d.toList.map λs=>(s,x)):=by cases d<;>rfl
def kq(U:BU)(d:Option (Nat×Aa)):U.DR d=U.En (d.toList.map λp=>(p.1,.val p.2)):=by cases d<;>rfl
def bO{r:EP}(hd:r.N0 C run U h U' h'):∃ws,U'=U.En ws/\(∀p∈ws,p.1∈r.wf)/\(∀p∈ws,∀t o,p.2= .Fo t o->t∈r.yR)/\∀Z,r.N0 C run Z h (Z.En ws) h':=by
 have one:∀(d:Option Nat) (x:Ew),(∀t o,x≠ .Fo t o)->U'=U.put d x->d.toList⊆r.wf->(∀Z,r.N0 C run Z h (Z.put d x) h')->
   ∃ws,U'=U.En ws/\(∀p∈ws,p.1∈r.wf)/\(∀p∈ws,∀t o,p.2= .Fo t o->t∈r.yR)/\∀Z,r.N0 C run Z h (Z.En ws) h':=by
  intro d x hx he hw ht;refine⟨d.toList.map λs=>(s,x),by rw[<-X7];exact he,λp hp=>?_,λp hp t o hl=>?_,λZ=>by rw[<-X7];exact ht Z⟩;.obtain⟨s,hs,rfl⟩:=Bn.1 hp;exact hw hs
  .obtain⟨s,hs,rfl⟩:=Bn.1 hp;exact absurd hl (hx t o)
 have XL:∀(i:Option (Nat×Aa)) (d:Option Nat) (x:Ew),(∀t o,x≠ .Fo t o)->U'=(U.DR i).put d x->d.toList⊆r.wf->(i.map (·.1)).toList⊆r.wf->(∀Z,r.N0 C run Z h ((Z.DR i).put d x) h')->
   ∃ws,U'=U.En ws/\(∀p∈ws,p.1∈r.wf)/\(∀p∈ws,∀t o,p.2= .Fo t o->t∈r.yR)/\∀Z,r.N0 C run Z h (Z.En ws) h':=by
  intro i d x hx he hw vd ht;have e:∀Z:BU,(Z.DR i).put d x=Z.En ((i.toList.map λp=>(p.1,.val p.2))++d.toList.map λs=>(s,x)):=λZ=>by rw[BU.Kb,<-kq,<-X7]
  refine⟨_,by rw[he,e],λp hp=>?_,λp hp t o hl=>?_,λZ=>by rw[<-e];exact ht Z⟩
  .rcases Ay.1 hp with hp|hp
   .obtain⟨q,hq,rfl⟩:=Bn.1 hp;exact vd (by cases i<;>simp_all)
   .obtain⟨s,hs,rfl⟩:=Bn.1 hp;exact hw hs
  .rcases Ay.1 hp with hp|hp
   .obtain⟨q,hq,rfl⟩:=Bn.1 hp;cases hl
   .obtain⟨s,hs,rfl⟩:=Bn.1 hp;exact absurd hl (hx t o)
 cases r with
 |pure ws=>obtain⟨rfl,rfl⟩:=hd;refine⟨ws,rfl,λp hp=>Bn.2 ⟨p,hp,rfl⟩,λp hp t o hl=>?_,λZ=>⟨rfl,rfl⟩⟩;exact Cj.2 ⟨p.2,Bn.2 ⟨p,hp,rfl⟩,by rw[hl]⟩
 |op p args dst Bs i=>obtain⟨v,hv,rfl,rfl⟩:=hd;exact XL i dst _ (by cases Bs<;>simp) rfl (by simp[EP.wf]) (by simp[EP.wf]) λZ=>⟨v,hv,rfl,rfl⟩
 |box n v d=>obtain⟨hn,rfl,rfl⟩:=hd;exact one (some d) _ AH rfl (by simp[EP.wf]) λZ=>⟨hn,rfl,rfl⟩
 |closure fn x b fz d=>
  obtain⟨rfl,rfl⟩:=hd;refine⟨(fz.map λ(s,cs)=>(s,.val (.CI cs)))++[(d,.val (.func fn x b))],by rw[BU.Kb];rfl,λp hp=>?_,λp hp t o hl=>?_,λZ=>⟨by rw[BU.Kb];rfl,rfl⟩⟩
  .rcases Ay.1 hp with hp|hp
   .obtain⟨q,hq,rfl⟩:=Bn.1 hp;exact ZI _ (Bn.2 ⟨q,hq,rfl⟩)
   .simp at hp;subst hp;simp[EP.wf]
  .rcases Ay.1 hp with hp|hp
   .obtain⟨q,hq,rfl⟩:=Bn.1 hp;cases hl
   .simp at hp;subst hp;cases hl
 |Nz s off n v Bs i ver cells owned=>obtain⟨hn,rfl,rfl⟩:=hd;exact XL i (some s) _ AH rfl (by simp[EP.wf]) (by simp[EP.wf]) λZ=>⟨hn,rfl,rfl⟩
 |load n p dst=>obtain⟨v,hv,rfl,rfl⟩:=hd;exact one dst _ AH rfl (by simp[EP.wf]) λZ=>⟨v,hv,rfl,rfl⟩
 |store n p v=>obtain⟨hv,rfl⟩:=hd;exact one none .undef AH rfl AH λZ=>⟨hv,rfl⟩
 |alloc n v dst=>obtain⟨hn,rfl,rfl⟩:=hd;exact one dst _ AH rfl (by simp[EP.wf]) λZ=>⟨hn,rfl,rfl⟩
 |call f args dst=>obtain⟨v,hv,rfl⟩:=hd;exact one dst _ (by intro t o;split<;>simp) rfl (by simp[EP.wf]) λZ=>⟨v,hv,rfl⟩
 |Ji g args dst=>obtain⟨f,x,v,h1,h2,rfl⟩:=hd;exact one dst _ AH rfl (by simp[EP.wf]) λZ=>⟨f,x,v,h1,h2,rfl⟩
 |B6 f args dst=>obtain⟨Hu,v,h1,h2,j,rfl,rfl⟩:=hd;exact one dst _ AH rfl (by simp[EP.wf]) λZ=>⟨Hu,v,h1,h2,j,rfl,rfl⟩
 |PK dst=>obtain⟨rfl,rfl⟩:=hd;exact one dst _ AH rfl (by simp[EP.wf]) λZ=>⟨rfl,rfl⟩
 |KS m k v=>obtain⟨hv,rfl⟩:=hd;exact one none .undef AH rfl AH λZ=>⟨hv,rfl⟩
 |My z ok m k dst=>obtain⟨v,hv,rfl,rfl⟩:=hd;exact one dst _ AH rfl (by simp[EP.wf]) λZ=>⟨v,hv,rfl,rfl⟩
 |make z b zero l c dst=>obtain⟨v,hv,rfl⟩:=hd;exact one dst _ AH rfl (by simp[EP.wf]) λZ=>⟨v,hv,rfl⟩
 |LD z b s x dst i=>obtain⟨v,hv,rfl⟩:=hd;exact XL i dst _ AH rfl (by simp[EP.wf]) (by simp[EP.wf]) λZ=>⟨v,hv,rfl⟩
 |JT z b s x dst=>obtain⟨v,hv,rfl⟩:=hd;exact one dst _ AH rfl (by simp[EP.wf]) λZ=>⟨v,hv,rfl⟩
 |GJ z b s x dst i=>obtain⟨v,hv,rfl,rfl⟩:=hd;exact XL i dst _ AH rfl (by simp[EP.wf]) (by simp[EP.wf]) λZ=>⟨v,hv,rfl,rfl⟩
 |Fg s dst=>obtain⟨v,hv,rfl⟩:=hd;exact one dst _ AH rfl (by simp[EP.wf]) λZ=>⟨v,hv,rfl⟩
 |Xr s dst=>obtain⟨v,u,h1,h2,rfl⟩:=hd;exact one dst _ AH rfl (by simp[EP.wf]) λZ=>⟨v,u,h1,h2,rfl⟩
 |mem o args dst=>obtain⟨v,hv,rfl⟩:=hd;exact one dst _ (by intro t o';split<;>simp) rfl (by simp[EP.wf]) λZ=>⟨v,hv,rfl⟩
def Ug{r:EP}(hd:r.N0 C run U h U' h')(he:r.Sy=false):h'=h/\
  (r.hl=false->∀h2,r.N0 C run U h2 U' h2)/\
  ∀n p d,r= .load n p (some d)->∃v,A7 h n p=some v/\U'=U.set d (.val v)/\∀h2,A7 h2 n p=some v->r.N0 C run U h2 U' h2:=by
 cases r<;>simp only[EP.Sy] at he<;>try(exact absurd he AP)
 case pure ws=>obtain⟨rfl,rfl⟩:=hd;exact⟨rfl,λ_ _=>⟨rfl,rfl⟩,AH⟩
 case op p args dst Bs g=>obtain⟨v,hv,rfl,rfl⟩:=hd;exact⟨rfl,λ_ _=>⟨v,hv,rfl,rfl⟩,AH⟩
 case box n v d=>obtain⟨hn,rfl,rfl⟩:=hd;exact⟨rfl,λ_ _=>⟨hn,rfl,rfl⟩,AH⟩
 case closure fn x b fz d=>obtain⟨rfl,rfl⟩:=hd;exact⟨rfl,λ_ _=>⟨rfl,rfl⟩,AH⟩
 case Nz s off n v Bs g ver cells owned=>obtain⟨hn,rfl,rfl⟩:=hd;exact⟨rfl,λ_ _=>⟨hn,rfl,rfl⟩,AH⟩
 case load n p dst=>obtain⟨v,hv,rfl,rfl⟩:=hd;refine⟨rfl,λc=>absurd c (by simp[EP.hl]),λn' p' d he=>?_⟩;cases he;exact⟨v,hv,rfl,λh2 e=>⟨v,e,rfl,rfl⟩⟩
 case My z ok m k dst=>obtain⟨v,hv,rfl,rfl⟩:=hd;exact⟨rfl,λc=>absurd c (by simp[EP.hl]),AH⟩
 case B6 f args dst=>obtain⟨Hu,v,h1,h2,i,rfl,rfl⟩:=hd;exact⟨rfl,λ_ _=>⟨Hu,v,h1,h2,i,rfl,rfl⟩,AH⟩
def Vg{ds:List Nat}(hn:NA U ds=true):U.drop ds=U:=by
 refine BU.ext (BU.length_drop U ds) λt=>?_;rw[BU.SY];cases hx:U.at t with
 |Fo t' o=>have:=OT.1 hn t t' o hx;simp[this]
 |_=>rfl
def Rk{o:Oper}(h:∀t∈FG ops o,Z.at t=U.at t):I5 ops Z o=I5 ops U o:=by
 unfold I5;unfold FG at h;cases hg:o.guard with
 |none=>rfl
 |some g=>
  obtain⟨j,want⟩:=g;rw[hg] at h;simp only at h⊢;cases hd:(ops[j]?).bind (·.dst) with
  |none=>rfl
  |some s=>
   rw[hd] at h;simp only
   rw[h s AH]
def V9{o:Oper}{r:EP}(hc:Gx C fid ops U o=some r)(ht:∀t∈Ks o.op.operands.toList,Z.at t=U.at t)(hb:∀s∈Il C U o,Z.at s=U.at s):Il C Z o=Il C U o:=by
 have h:WH C U Z o.op.operands.toList:= .zJ ht
 unfold Il at hb⊢
 cases ho:o.op with
 |load t x=>
  rw[ho] at h hb
  simp only at hb⊢
  have hn:Gv C U x≠none:=λhe=>by
   unfold Gx at hc
   simp only[ho] at hc
   split at hc
   .unfold L1 at hc;rw[he] at hc;split at hc<;>simp_all
   .cases hc
  unfold OG
  rw[h.addr I8 hb hn]
 |store t x y=>
  rw[ho] at h hb
  simp only at hb⊢
  have hn:Gv C U x≠none:=λhe=>by
   unfold Gx at hc
   simp only[ho] at hc
   split at hc
   .unfold JM at hc;rw[he] at hc;split at hc<;>simp_all
   .cases hc
  unfold OG
  rw[h.addr I8 hb hn]
 |_=>rfl
def Vh{xs:List Ew}{t o:Nat}(h: .Fo t o∈xs):t∈WA xs:=Cj.2 ⟨_,h,rfl⟩
def P3.spec{s:St}(hs:P3 C fid ops run s U h U' h')(hf:s.fp.T7=true):
  ∃ws,U'=U.En ws/\(∀p∈ws,p.1∈s.fp.wf)/\(∀p∈ws,∀t o,p.2= .Fo t o->t∈s.fp.lr)/\(∀x∈s.fp.wf,∀t o,U.at x= .Fo t o->t∈s.fp.lr)/\NA U s.fp.news=true/\(s.fp.Sy=false->h'=h)/\
   (s.fp.Sy=false->s.fp.hl=true->∃f,s.fl=some f)/\
   ∀(Z:BU) (h2 bP:Ai),Z.length=U.length->(∀x∈s.fp.rs++s.fp.wf,Z.at x=U.at x)->NA Z s.fp.news=true->
    ((h2=h/\bP=h')\/(s.fp.Sy=false/\bP=h2/\(s.fp.hl=true->∀f,s.fl=some f->A7 h2 f.n f.p=some f.v)))->P3 C fid ops run s Z h2 (Z.En ws) bP:=by
 obtain⟨o,ho,⟨hg,j,Hu,rfl,rfl⟩|⟨r,U1,hg,hc,j,hd,Hu,ha⟩⟩:=hs
 .rw[j] at hf⊢;refine⟨o.dst.toList.map λd=>(d,.skip),X7 _ _ _,λp hp=>?_,λp hp t k hl=>?_,λx hx t k hl=>?_,OT.2 (by simp[VV]),λ_=>rfl,λ_ i=>absurd i (by simp[VV]),λZ h2 bP hlen ve _ Jk=>?_⟩;.obtain⟨d,hd,rfl⟩:=Bn.1 hp;exact hd
  .obtain⟨d,hd,rfl⟩:=Bn.1 hp;cases hl
  .exact Vh (o:=k) (Bn.2 ⟨x,hx,hl⟩)
  .have i:bP=h2:=by rcases Jk with⟨D,B⟩|⟨_,e,_⟩<;>first|exact e|rw[D,B]
   refine⟨o,ho,.inl ⟨?_,?_,Hu,(X7 _ _ _).symm,i⟩⟩;.rw[Rk λt ht=>ve t (CD _ ht)];exact hg
   .rw[j];have e:o.dst.toList.map Z.at=o.dst.toList.map U.at:=aV λx hx=>ve x (BV _ hx);simp only[VV,e]
 .rw[j] at hf⊢;have vf:r.T7 U=true:=hf;have Pn:NA U r.news=true:=by unfold EP.T7 at vf;rw[Bv] at vf;exact vf.1
  rw[Vg Pn] at hd;obtain⟨vg,rfl,hw,A,eE⟩:=bO hd;have aLN:∃g:List (Nat×Ew),U'=(U.En vg).En g/\(∀p∈g,o.dst=some p.1/\∃b,p.2= .Px b)/\∀Z:BU,Z.length=U.length->(∀x∈r.wf++o.dst.toList,Z.at x=U.at x)->Ni (if SN ops s.idx then o.dst else none) (Z.En vg) ((Z.En vg).En g):=by
   by_cases c:SN ops s.idx=true
   .rw[Af c] at ha;cases S5:o.dst with
    |none=>rw[S5] at ha;exact⟨[],ha,AH,λZ _ _=>by simp[c,Ni,BU.En]⟩
    |some d=>
     rw[S5] at ha;simp only[Ni] at ha;have u:∀Z:BU,Z.length=U.length->(∀x∈r.wf++[d],Z.at x=U.at x)->(Z.En vg).at d=(U.En vg).at d:=λZ hl ve=>BU.JC vg U Z d hl (ve d AH);cases hx:(U.En vg).at d with
     |val v=>rw[hx] at ha;obtain⟨b,rfl,rfl⟩:=ha;refine⟨[(d,.Px b)],rfl,AH,λZ hl ve=>?_⟩;simp only[c,BJ,Ni];rw[u Z hl ve,hx];exact⟨b,rfl,rfl⟩
     |_=>rw[hx] at ha;refine⟨[],ha,AH,λZ hl ve=>?_⟩;simp only[c,BJ,Ni];rw[u Z hl ve,hx];rfl
   .rw[Ad c] at ha;exact⟨[],ha,AH,λZ _ _=>by rw[Ad c];rfl⟩
  obtain⟨g,rfl,vd,aGp⟩:=aLN;have q:r.hl=true->∃n p d,r= .load n p (some d)/\d<U.length:=λi=>by
   unfold EP.T7 at vf;rw[Bv] at vf;cases r with
   |load n p dst=>
    cases dst with
    |none=>exact absurd vf.2 AH
    |some d=>exact⟨n,p,d,rfl,by simpa using vf.2⟩
   |My _ _ _ _ _=>exact absurd vf.2 AH
   |_=>simp[EP.hl] at i
  have aGq:r.Sy=false->∀n p d,r= .load n p (some d)->d<U.length->∃v,A7 h n p=some v/\s.fl=some {idx:=s.idx,n,p,v}:=by intro he n p d hr sN;obtain⟨v,y,m,_⟩:=(Ug hd he).2.2 n p d hr;refine⟨v,y,?_⟩;rw[Hu,hr];simp only[Lw];rw[m,BU.Fw sN]
  have aLO:∀(Z:BU) h2 bP,((h2=h/\bP=h')\/(r.Sy=false/\bP=h2/\(r.hl=true->∀f,s.fl=some f->A7 h2 f.n f.p=some f.v)))->r.N0 C run Z h2 (Z.En vg) bP:=by
   intro Z h2 bP Jk;rcases Jk with⟨rfl,rfl⟩|⟨he,rfl,Vb⟩
   .exact eE Z
   .obtain⟨_,H,G⟩:=Ug (eE Z) he;cases i:r.hl with
    |false=>exact H i _
    |true=>obtain⟨n,p,d,hr,sN⟩:=q i;obtain⟨v,y,m⟩:=aGq he n p d hr sN;obtain⟨v',E,_,F⟩:=G n p d hr;rw[y] at E;cases E;exact F _ (Vb i _ m)
  refine⟨vg++g,by rw[BU.Kb],λp hp=>?_,λp hp t k hl=>?_,λx hx t k hl=>?_,Pn,λhe=>(Ug hd he).1,λhe i=>?_,λZ h2 bP hlen ve z Jk=>?_⟩
  .rcases Ay.1 hp with hp|hp
   .exact CD _ (hw p hp)
   .exact BV _ (by rw[(vd p hp).1];simp)
  .rcases Ay.1 hp with hp|hp
   .exact BV _ (A p hp t k hl)
   .obtain⟨_,b,e⟩:=vd p hp;rw[e] at hl;cases hl
  .exact CD _ (Vh (o:=k) (Bn.2 ⟨x,hx,hl⟩))
  .obtain⟨n,p,d,hr,sN⟩:=q i;obtain⟨v,_,m⟩:=aGq he n p d hr sN;exact⟨_,m⟩
  .have l:∀t∈FG ops o++Ks o.op.operands.toList++Il C U o,Z.at t=U.at t:=λt ht=>ve t (CD _ ht);have hwf:∀t∈r.wf++o.dst.toList,Z.at t=U.at t:=λt ht=>ve t (BV _ ht);have ht:∀t∈Ks o.op.operands.toList,Z.at t=U.at t:=λt ht=>l t (by simp[ht]);have hb:∀t∈Il C U o,Z.at t=U.at t:=λt ht=>l t (by simp[ht]);have aGr:NA Z r.news=true:=z;refine⟨o,ho,.inr ⟨r,Z.En vg,?_,X3 hc ht hb,?_,?_,?_,?_⟩⟩;.rw[Rk λt ht=>l t (by simp[ht])];exact hg
   .rw[j];have D:(r.wf++o.dst.toList).map Z.at=(r.wf++o.dst.toList).map U.at:=aV λx hx=>hwf x hx;have B:r.T7 Z=r.T7 U:=by unfold EP.T7;rw[Pn,aGr,hlen]
    simp only[VV,D,B,V9 hc ht hb]
   .rw[Vg aGr];exact aLO Z h2 bP Jk
   .rw[Hu];exact(Z7 λd hd=>BU.JC vg U Z d hlen (hwf d (CD _ hd))).symm
   .rw[BU.Kb];exact aGp Z hlen hwf
end
end Go.Am
end
section
namespace Go.Am
open Go
section
variable{C:Gb}{fid:FuncId}{ops:List Oper}{run:IT->Ai->Option Km}{an:List Nat}
def Ms{a b:List Nat}(h:(!U4 a b)=true){x:Nat}(hx:x∈a):x∉b:=λhb=>by have:U4 a b=true:=kj.2 ⟨x,hx,hb⟩;simp[this] at h
def swap{p s:St}{U σa U1:BU}{h ha h1:Ai}(hp:P3 C fid ops run p U h σa ha)(hs:P3 C fid ops run s σa ha U1 h1)(Mc:RM p.fp s.fp=true)
  (Vb:s.fp.Sy=true->∀f,p.fl=some f->A7 h1 f.n f.p=some f.v):
  ∃σs WB,P3 C fid ops run s U h σs WB/\P3 C fid ops run p σs WB U1 h1/\(s.fp.Sy=true->WB=h1)/\(p.fp.Sy=true->h1=ha):=by
 unfold RM FP.apart at Mc;simp only[Bv] at Mc;obtain⟨⟨⟨⟨pf,D⟩,⟨⟨a1,a2⟩,a3⟩,a4⟩,he⟩,hl⟩:=Mc;obtain⟨c,rfl,l,nB,A,u,y,G,aBv⟩:=hp.spec pf;obtain⟨b,rfl,k,sL,E,m,sH,F,vh⟩:=hs.spec D;have i:∀x∈s.fp.rs++s.fp.wf,(U.En c).at x=U.at x:=λx hx=>BU.GZ c U x λq hq e=>Ms a1 (l q hq) (by rw[e];exact hx);have d:NA U s.fp.news=true:=by
  rw[OT] at m⊢;intro x t o hx;by_cases hw:x∈p.fp.wf;.exact Ms a3 (A x hw t o hx)
  .refine m x t o ?_;rw[BU.GZ c U x λq hq e=>hw (by rw[<-e];exact l q hq)];exact hx
 have hlen:∀(Z:BU) (ws:List (Nat×Ew)),(Z.En ws).length=Z.length:=λZ ws=>BU.Kd ws Z;have aBw:(U.En b).En c=(U.En c).En b:=(BU.ki λq hq r hr e=>by have:=Ms a1 (l q hq);exact this (BV _ (by rw[e];exact k r hr))).symm
 have outs:∀x∈p.fp.rs++p.fp.wf,(U.En b).at x=U.at x:=λx hx=>BU.GZ b U x λq hq e=>by
  rcases Ay.1 hx with hx|hx
  .exact Ms a2 (k q hq) (by rw[e];exact hx)
  .exact Ms a1 hx (BV _ (by rw[<-e];exact k q hq))
 have z:NA (U.En b) p.fp.news=true:=by
  rw[OT] at u⊢;intro x t o hx;rcases BU.X5 b U x with h0|⟨q,hq,_,h2⟩
  .exact u x t o (by rw[<-h0];exact hx)
  .rw[h2] at hx;exact Ms a4 (sL q hq t o hx)
 by_cases JV:s.fp.Sy=true
 .have g:p.fp.Sy=false:=by
   cases hq:p.fp.Sy with
   |false=>rfl
   |true=>simp[JV,hq] at he
  have j:ha=h:=y g;subst j;refine⟨U.En b,h1,vh U ha h1 (hlen U c).symm (λx hx=>(i x hx).symm) d (.inl ⟨rfl,rfl⟩),?_,λ_=>rfl,λe=>by rw[g] at e;cases e⟩;rw[<-aBw];exact aBv (U.En b) h1 h1 (hlen U b) outs z (.inr ⟨g,rfl,λ_ f hf=>Vb JV f hf⟩)
 .have aGs:s.fp.Sy=false:=by simpa using JV
  have B:h1=ha:=sH aGs;subst B;refine⟨U.En b,h,?_,?_,λe=>absurd e JV,λ_=>rfl⟩
  .by_cases g:p.fp.Sy=true;.refine vh U h h (hlen U c).symm (λx hx=>(i x hx).symm) d (.inr ⟨aGs,rfl,λH=>?_⟩);simp[g,H] at hl
   .have aLR:p.fp.Sy=false:=by simpa using g
    have j:=y aLR;exact vh U h h (hlen U c).symm (λx hx=>(i x hx).symm) d (.inl ⟨j.symm,j.symm⟩)
  .rw[<-aBw];exact aBv (U.En b) h h1 (hlen U b) outs z (.inl ⟨rfl,rfl⟩)
inductive Steps(C:Gb)(fid:FuncId)(ops:List Oper)(run:IT->Ai->Option Km)(an:List Nat):List KZ->List St->BU->Ai->BU->Ai->Prop
 |nil {fl:List KZ} {U:BU} {h:Ai}:Steps C fid ops run an fl [] U h U h
 |cons {fl:List KZ} {s:St} {L:List St} {U U1 σf:BU} {h h1 hf:Ai}:P3 C fid ops run s U h U1 h1->(s.fp.Sy=true->∀f∈fl,Ex an f.idx s.idx=false->A7 h1 f.n f.p=some f.v)->
  Steps C fid ops run an (s.fl.toList++fl) L U1 h1 σf hf->Steps C fid ops run an fl (s::L) U h σf hf
def Steps.sub{fl:List KZ}{L:List St}{U σf:BU}{h hf:Ai}(hs:Steps C fid ops run an fl L U h σf hf):∀{b:List KZ},(∀f∈b,f∈fl)->Steps C fid ops run an b L U h σf hf:=by
 induction hs with
 |nil=>intro b _;exact .nil
 |cons h1 h2 _ ih=>
  intro b PC;refine .cons h1 (λhe f hf hb=>h2 he f (PC f hf) hb) (ih λf hf=>?_);rcases Ay.1 hf with hf|hf
  .exact CD _ hf
  .exact BV _ (PC f hf)
def P3.aC2{s:St}{U U':BU}{h h':Ai}(hs:P3 C fid ops run s U h U' h'){f:KZ}(hf:s.fl=some f):f.idx=s.idx:=by
 obtain⟨o,_,⟨_,_,Hu,_⟩|⟨r,U1,_,_,_,_,Hu,_⟩⟩:=hs;.rw[Hu] at hf;cases hf
 .rw[Hu] at hf;unfold Lw at hf;split at hf
  .split at hf;.cases hf;rfl
   .cases hf
  .cases hf
def Steps.lt{fl:List KZ}{L:List St}{U σf:BU}{h hf:Ai}(hs:Steps C fid ops run an fl L U h σf hf):∀q∈L,q.idx<ops.length:=by
 induction hs with
 |nil=>simp
 |cons h1 _ _ ih=>
  intro q hq;rcases AS.1 hq with rfl|hq
  .obtain⟨o',h2,_⟩:=h1;exact(An.1 h2).1
  .exact ih q hq
def aBx{s:St}{B:List St}{σf:BU}{hf:Ai}:∀{A:List St} {fl:List KZ} {U:BU} {h:Ai},Steps C fid ops run an fl (A++s::B) U h σf hf->(∀p∈A,RM p.fp s.fp=true/\Ex an p.idx s.idx=false)->
  ∃U1 h1,P3 C fid ops run s U h U1 h1/\(s.fp.Sy=true->∀f∈fl,Ex an f.idx s.idx=false->A7 h1 f.n f.p=some f.v)/\Steps C fid ops run an (s.fl.toList++fl) (A++B) U1 h1 σf hf
 |[],fl,U,h,hs,_=>by
  cases hs with
  |cons h1 h2 d=>exact⟨_,_,h1,h2,d⟩
 |p::A,fl,U,h,hs,j=>by
  cases hs with
  |cons h1 h2 d=>
   rename_i σa ha;obtain⟨U1,x,i,e,t⟩:=aBx d λq hq=>j q (by simp[hq]);obtain⟨Mc,aLS⟩:=j p AH;obtain⟨σs,WB,w1,m,l,k⟩:=swap h1 i Mc λhe f hf=>e he f (by rw[hf];simp) (by rw[h1.aC2 hf];exact aLS);refine⟨σs,WB,w1,λhe f hf hb=>?_,.cons m (λhe f hf hb=>?_) (t.sub λf hf=>?_)⟩;.rw[l he];exact e he f (BV _ hf) hb
   .rw[k he];rcases Ay.1 hf with hf|hf
    .exfalso;unfold RM at Mc;simp only[Bv] at Mc;obtain⟨⟨⟨⟨_,z⟩,_⟩,u⟩,hl⟩:=Mc;cases uB:s.fl with
     |none=>rw[uB] at hf;simp at hf
     |some g=>
      have b:s.fp.hl=true:=by
       obtain⟨o,_,⟨_,_,Hu,_⟩|⟨r,y,_,_,c,_,Hu,_⟩⟩:=i;.rw[Hu] at uB;cases uB
       .rw[Hu] at uB;unfold Lw at uB;split at uB;.rw[c];rfl
        .cases uB
      simp[he,b] at hl
    .exact h2 he f hf hb
   .rcases Ay.1 hf with hf|hf
    .exact BV _ (CD _ hf)
    .rcases Ay.1 hf with hf|hf
     .exact CD _ hf
     .exact BV _ (BV _ hf)
def Rl{DZ:List Nat}{x:Nat}:∀(ds:List Nat) (m:Nat),(ds.foldl (λm e=>m|||bit e|||DZ.getD e 0) m).testBit x=true↔m.testBit x=true\/∃e∈ds,x=e\/(DZ.getD e 0).testBit x=true
 |[],m=>AH
 |d::ds,m=>by
  rw[qe,Rl ds];simp only[Nat.testBit_or,bit,Nat.testBit_two_pow,Pj,CO,AS,exists_eq_or_imp];constructor
  .rintro((h|h)|h)
   .rcases h with h|h
    .exact .inl h
    .exact .inr (.inl (.inl h.symm))
   .exact .inr (.inl (.inr h))
   .exact .inr (.inr h)
  .rintro(h|(h|h)|h);.exact .inl (.inl (.inl h))
   .exact .inl (.inl (.inr h.symm))
   .exact .inl (.inr h)
   .exact .inr h
def Mj:∀(l:List Oper) (DZ:List Nat) (i:Nat),i<DZ.length->(LG DZ l).getD i 0=DZ.getD i 0
 |[],DZ,i,h=>rfl
 |o::l,DZ,i,h=>by rw[LG,Mj l _ i Ei];simp[List.getD,Ak h]
def Rm:∀(l:List Oper) (DZ:List Nat) (k:Nat) (o:Oper),l[k]?=some o->(∀e∈Oper.VU o,e<DZ.length+k)->∀x,
  ((LG DZ l).getD (DZ.length+k) 0).testBit x=true↔∃e∈Oper.VU o,x=e\/((LG DZ l).getD e 0).testBit x=true
 |[],DZ,k,o,h,_,x=>by simp at h
 |o'::l,DZ,0,o,h,hd,x=>by
  simp at h;subst h;rw[LG,Mj l _ (DZ.length+0) AH];have b:(DZ++[(Oper.VU o').foldl (λm e=>m|||bit e|||DZ.getD e 0) 0]).getD (DZ.length+0) 0=(Oper.VU o').foldl (λm e=>m|||bit e|||DZ.getD e 0) 0:=by simp[List.getD]
  rw[b,Rl];simp only[Nat.zero_testBit,Cx,false_or];constructor;.rintro⟨e,he,h⟩;refine⟨e,he,h.imp id λh=>?_⟩;have hlt:e<DZ.length:=hd e he;rw[Mj l _ e Ei];simpa[List.getD,Ak hlt] using h
  .rintro⟨e,he,h⟩;refine⟨e,he,h.imp id λh=>?_⟩;have hlt:e<DZ.length:=hd e he;rw[Mj l _ e Ei] at h;simpa[List.getD,Ak hlt] using h
 |o'::l,DZ,k+1,o,h,hd,x=>by simp at h;rw[LG];have:=Rm l (DZ++[(Oper.VU o').foldl (λm e=>m|||bit e|||DZ.getD e 0) 0]) k o h (λe he=>by have:=hd e he;simp;omega) x;simp only[Au,Bd,BR,BW] at this;rw[(Ac:DZ.length+(k+1)=DZ.length+1+k)];exact this
def bQ{i:Nat}{o:Oper}(ho:ops[i]?=some o)(hd:∀e∈Oper.VU o,e<i)(x:Nat):Ex (XD ops) x i=true↔∃e∈Oper.VU o,x=e\/Ex (XD ops) x e=true:=by have:=Rm ops [] i o ho (by simpa using hd) x;simpa[Ex,XD] using this
def P4(h:eC ops=true){i:Nat}{o:Oper}(ho:ops[i]?=some o):∀e∈Oper.VU o,e<i:=by
 unfold eC at h;rw[Db] at h;have:=h (o,i) (by refine CC (i:=i) ?_;simp[List.getElem?_zipIdx,ho])
 intro e he;simpa using Db.1 this e he
def bR:∀{l:List (Nat×FP)},XF.go an l=true->l.Pairwise λx y=>x.1≠y.1/\Ex an y.1 x.1=false/\(Ex an x.1 y.1=true\/RM x.2 y.2=true)
 |[],_=> .nil
 |(i,f)::l,h=>by simp only[XF.go,Bv,Db] at h;refine .cons (λy hy=>?_) (bR h.2);have:=h.1 y hy;simp only[bne_iff_ne,aQS,Pj] at this;exact⟨this.1.1,this.1.2,this.2⟩
def vi{d:Option Nat}{U:BU}{K:BU->IT}{h:Ai}{R:Km}(hr:IT.step (Ca C) run (yS d U K) h=some R):∃U',Ni d U U'/\IT.step (Ca C) run (K U') h=some R:=by
 unfold yS at hr;cases d with
 |none=>exact⟨U,rfl,hr⟩
 |some d=>
  simp only at hr;cases hx:U.at d with
  |val v=>
   rw[hx] at hr;simp only[IT.step] at hr;split at hr;.exact⟨U.set d (.Px true),by simp only[Ni,hx];exact⟨true,rfl,rfl⟩,hr⟩
   .exact⟨U.set d (.Px false),by simp only[Ni,hx];exact⟨false,rfl,rfl⟩,hr⟩
   .cases hr
  |_=>rw[hx] at hr;exact⟨U,by simp only[Ni,hx],hr⟩
def OU{i:Nat}{t:IT}{h:Ai}{R:Km}:∀{fl:List KZ},IT.step (Ca C) run (SM an i fl t) h=some R->(∀f∈fl,Ex an f.idx i=false->A7 h f.n f.p=some f.v)/\IT.step (Ca C) run t h=some R
 |[],hr=>⟨AH,hr⟩
 |f::fl,hr=>by
  unfold SM at hr;by_cases hb:Ex an f.idx i=true
  .rw[Af hb] at hr;obtain⟨d,c⟩:=OU hr;refine⟨λg hg b=>?_,c⟩;rcases AS.1 hg with rfl|hg
   .rw[hb] at b;cases b
   .exact d g hg b
  .rw[Ad hb] at hr;simp only[IT.step] at hr;split at hr
   .rename_i v hv;split at hr
    .rename_i KR;obtain⟨d,c⟩:=OU hr;refine⟨λg hg b=>?_,c⟩;rcases AS.1 hg with rfl|hg
     .rw[Aa.beq_eq KR];exact hv
     .exact d g hg b
    .cases hr
   .cases hr
def RZ{K:BU->IT}{R:Km}:∀{rest:List Nat} {b:List (Nat×FP)} {fl:List KZ} {U:BU} {h:Ai},IT.step (Ca C) run (RO C fid ops an rest b fl U K) h=some R->
  ∃L σf hf,Steps C fid ops run an fl L U h σf hf/\XF ops.length an (b.reverse++L.map λs=>(s.idx,s.fp))=true/\IT.step (Ca C) run (K σf) hf=some R
 |[],b,fl,U,h,hr=>by
  unfold RO at hr;split at hr;.rename_i Mc;exact⟨[],U,h,.nil,by simpa using Mc,hr⟩
  .cases hr
 |i::rest,b,fl,U,h,hr=>by
  unfold RO at hr;cases ho:ops[i]? with
  |none=>rw[ho] at hr;cases hr
  |some o=>
   rw[ho] at hr;simp only at hr;split at hr
   .rename_i hg;split at hr;.cases hr
    .rename_i r hc;obtain⟨U1,h1,hd,hr⟩:=bA hr;have Gc:(r.Sy=true->∀f∈fl,Ex an f.idx i=false->A7 h1 f.n f.p=some f.v)/\IT.step (Ca C) run (yS (if SN ops i then o.dst else none) U1 λj=>RO C fid ops an rest ((i,VV C ops U o (some r))::b) (Nf i r U1 fl) j K) h1=some R:=by
      split at hr;.obtain⟨d,c⟩:=OU hr;exact⟨λ_=>d,c⟩
      .rename_i he;exact⟨λe=>absurd e he,hr⟩
     obtain⟨Vb,hr⟩:=Gc;obtain⟨U',ha,hr⟩:=vi hr;rw[X6] at hr;obtain⟨L,σf,hf,d,c,g⟩:=RZ hr;exact⟨{idx:=i,fp:=VV C ops U o (some r),fl:=Lw i r U1}::L,σf,hf,.cons ⟨o,ho,.inr ⟨r,U1,hg,hc,rfl,hd,rfl,ha⟩⟩ Vb d,by simpa using c,g⟩
   .rename_i hg;obtain⟨L,σf,hf,d,c,g⟩:=RZ hr;exact⟨{idx:=i,fp:=VV C ops U o none,fl:=none}::L,σf,hf,.cons ⟨o,ho,.inl ⟨hg,rfl,rfl,rfl,rfl⟩⟩ (λe=>by simp[VV] at e) d,by simpa using c,g⟩
   .cases hr
end
section
variable{C:Gb}{γ0 γ:Gh}{w0 w:World}{O:Nat->Nat}{U:BU}{h:Ai}{a:Act}{fid:FuncId}
def Mk(hr:Df C γ0 w0 γ O U h a w){ops:Array Oper}{o:Oper}{b:Bool}(hg:I5 ops.toList U o= .NX b):Region.wanted o (yielded ops a.tmps)=b:=by
 unfold I5 at hg;unfold Region.wanted;cases ho:o.guard with
 |none=>rw[ho] at hg;cases hg;rfl
 |some g=>
  obtain⟨j,want⟩:=g;rw[ho] at hg;simp only[aF6] at hg⊢;unfold yielded;cases hd:(ops[j]?).bind (·.dst) with
  |none=>rw[hd] at hg;cases hg
  |some s=>
   rw[hd] at hg;simp only[Ct] at hg⊢;have h0:=hr.fr.IB s;cases hx:U.at s with
   |Px c=>
    rw[hx] at hg h0;cases hg;have hl:s<a.tmps.size:=by rw[<-hr.fr.size];exact BU.PU (by rw[hx];simp)
    have hv:a.tmps.getD s undef= .bool c:=h0;have:a.tmps[s]?=some (.bool c):=by rw[CV hl];rw[Hs,CV hl] at hv;exact Cc some hv
    rw[this];rfl
   |skip=>
    rw[hx] at hg h0;cases hg;have hv:a.tmps.getD s undef=undef:=h0;have hne:∀c,a.tmps[s]?≠some (.bool c):=λc hc=>by rw[Hs,hc] at hv;cases hv
    cases ht:a.tmps[s]? with
    |none=>rfl
    |some v=>
     cases v with
     |bool c=>exact absurd ht (hne c)
     |_=>rfl
   |val v=>rw[hx] at hg;cases hg
   |_=>rw[hx] at hg;cases hg
def Df.aGu(hr:Df C γ0 w0 γ O U h a w){d:Option Nat}{U':BU}(ha:Ni d U U'):Df C γ0 w0 γ O U' h a w:=by
 unfold Ni at ha;cases d with
 |none=>simp only at ha;rw[ha];exact hr
 |some d=>
  simp only at ha;cases hx:U.at d with
  |val v=>rw[hx] at ha;obtain⟨b,rfl,rfl⟩:=ha;have h0:=hr.fr.IB d;rw[hx] at h0;exact hr.nM h0
  |_=>rw[hx] at ha;rw[ha];exact hr
structure aLT(ops:Array Oper)(listed:Array Bool)(L:List St):Prop where
 size:listed.size=ops.size
 un:∀i,i<ops.size->(listed.getD i false=false↔i∈L.map (·.idx))
 closed:∀j,listed.getD j false=true->∀e,Ex (XD ops.toList) e j=true->listed.getD e false=true
abbrev zK(an:List Nat)(L:List St):Prop:=L.Pairwise λx y=>x.idx≠y.idx/\Ex an y.idx x.idx=false/\(Ex an x.idx y.idx=true\/RM x.fp y.fp=true)
def ku{run:IT->Ai->Option Km}(D:Fj C run){ops:Array Oper}{Q:Exit->Act->World->Prop}(Gk:eC ops.toList=true){σf:BU}{hf:Ai}(hQ:∀γ' k a' w',Df C γ0 w0 γ' k σf hf a' w'->Q .normal a' w'):
  ∀(fuel:Nat) (L:List St) (listed:Array Bool) (γ:Gh) (O:Nat->Nat) (U:BU) (h:Ai) (a:Act) (w:World),L.length=fuel->Steps C fid ops.toList run (XD ops.toList) [] L U h σf hf->zK (XD ops.toList) L->aLT ops listed L->Df C γ0 w0 γ O U h a w->
   wpAny C.P .any ops Q fuel listed a w:=by
 intro fuel;induction fuel with
 |zero=>
  intro L listed γ O U h a w l hs hp ho hr;have u:L=[]:=C7 l;subst u;cases hs;refine⟨List.eq_nil_iff_forall_not_mem.2 λi hi=>?_,hQ _ _ _ _ hr⟩;obtain⟨h0,o,ã,_⟩:=mem_ready.1 hi;have hlt:i<ops.size:=(A8.1 ã).1;have Z5:listed.getD i false=false:=by
   have hl:i<listed.size:=by rw[ho.size];exact hlt
   simpa[Array.getD,hl] using h0
  have:=(ho.un i hlt).1 Z5;simp at this
 |succ fuel ih=>
  intro L listed γ O U h a w l hs hp ho hr;have eP:∀i,i<ops.size->listed.getD i true=listed.getD i false:=λi hi=>by
   have hl:i<listed.size:=by rw[ho.size];exact hi
   simp[Array.getD,hl]
  constructor
  .intro Vb;exfalso;cases L with
   |nil=>simp at l
   |cons s0 L=>
    obtain⟨o,ã,_⟩:∃o,ops.toList[s0.idx]?=some o/\True:=by
     cases hs with
     |cons h1 _ _=>obtain⟨o,h2,_⟩:=h1;exact⟨o,h2,trivial⟩
    have uC:ops[s0.idx]?=some o:=by simpa using ã
    have hlt:s0.idx<ops.size:=(A8.1 uC).1;have:s0.idx∈Region.ready .any ops listed:=by
     refine mem_ready.2 ⟨?_,o,uC,λe he hb=>?_⟩;.rw[eP _ hlt];exact(ho.un _ hlt).2 AH
     .have f:e.on∈Oper.VU o:=Cj.2 ⟨e,by simpa using he,by rw[Af hb]⟩;have z:=P4 Gk ã e.on f;cases hl:listed.getD e.on false with
      |true=>rfl
      |false=>
       have hm:=(ho.un e.on Ac).1 hl;simp only[Bj,AS] at hm;rcases hm with hm|hm
       .omega
       .obtain⟨y,hy,m⟩:=Bn.1 hm;have:=((aPl.1 hp).1 y hy).2.1;rw[m,(bQ ã (P4 Gk ã) e.on).2 ⟨e.on,f,.inl rfl⟩] at this;cases this
    rw[Vb] at this;cases this
  .intro i hi;obtain⟨h0,o,ã,aGv⟩:=mem_ready.1 hi;have hlt:i<ops.size:=(A8.1 ã).1;rw[eP i hlt] at h0;obtain⟨s,n,rfl⟩:=Bn.1 ((ho.un i hlt).1 h0);obtain⟨A,B,rfl⟩:=List.append_of_mem n;have uC:ops.toList[s.idx]?=some o:=by simpa using ã
   have aGw:∀e,Ex (XD ops.toList) e s.idx=true->listed.getD e false=true:=λe he=>by
    obtain⟨d,hd,Jk⟩:=(bQ uC (P4 Gk uC) e).1 he;obtain⟨E,f,hb⟩:=Cj.1 hd;split at hb
    .rename_i QH;cases hb;have sN:=aGv E (by simpa using f) QH;rcases Jk with rfl|Jk
     .exact sN
     .exact ho.closed _ sN e Jk
    .cases hb
   have b:=(aKu.1 hp).2.2;have aC3:∀p∈A++s::B,p.idx<ops.size:=λp t=>by simpa using hs.lt p t
   obtain⟨U1,h1,x,_,v⟩:=aBx hs λp g=>by
    have hb:Ex (XD ops.toList) p.idx s.idx=false:=by
     cases QH:Ex (XD ops.toList) p.idx s.idx with
     |false=>rfl
     |true=>have h1:=aGw _ QH;have h2:=(ho.un p.idx (aC3 p (by simp[g]))).2 (Bn.2 ⟨p,by simp[g],rfl⟩);rw[h1] at h2;cases h2
    refine⟨?_,hb⟩;have:=(b p g s AH).2.2;rw[hb] at this;exact this.resolve_left AH
   have aBy:∀γ' k a' w',Df C γ0 w0 γ' k U1 h1 a' w'->wpAny C.P .any ops Q fuel (listed.setIfInBounds s.idx true) a' w':=λγ' k a' w' Gc=>by
    refine ih (A++B) _ γ' k U1 h1 a' w' (by simp at l⊢;omega) (v.sub AH) ?_ ⟨by simp[ho.size],λj hj=>?_,λj hj e he=>?_⟩ Gc;.exact hp.sublist ((A4 A).append (UU s B))
    .by_cases c:j=s.idx
     .subst c;have aC4:s.idx∉(A++B).map (·.idx):=λhm=>by
       obtain⟨q,hq,he⟩:=Bn.1 hm;rcases Ay.1 hq with hq|hq
       .exact(b q hq s AH).1 he
       .exact(aPl.1 (aKu.1 hp).2.1).1 q hq |>.1 he.symm
      have ht:(listed.setIfInBounds s.idx true).getD s.idx false=true:=by
       have hl:s.idx<listed.size:=by rw[ho.size];exact hlt
       simp[Array.getD,hl]
      rw[ht];exact⟨λe=>absurd e AH,λe=>absurd e aC4⟩
     .rw[getD_set_ne false (λe=>c e.symm),ho.un j hj];simp only[Bu,Bj,Ay,AS];constructor
      .rintro(e|e|e);.exact .inl e
       .exact absurd e c
       .exact .inr e
      .rintro(e|e);.exact .inl e
       .exact .inr (.inr e)
    .by_cases c:j=s.idx;.subst c;exact getD_set_true (aGw e he)
     .rw[getD_set_ne false (λe=>c e.symm)] at hj;exact getD_set_true (ho.closed j hj e he)
   unfold wpOp;rw[ã];obtain⟨o',á,⟨hg,_,_,rfl,rfl⟩|⟨r,F,hg,hc,_,hd,_,ha⟩⟩:=x;.rw[uC] at á;cases á;simp only[Mk hr hg,Cx,DF];exact aBy _ _ _ _ (hr.put λ_ _=>rfl)
   .rw[uC] at á;cases á;simp only[Mk hr hg,BJ];exact .inl (u_ D hc hd hr λγ' k a' w' Gc=>aBy γ' k a' w' (Gc.aGu ha))
end
end Go.Am
end
end
