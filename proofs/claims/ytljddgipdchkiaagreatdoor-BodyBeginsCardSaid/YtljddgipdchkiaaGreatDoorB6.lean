/- Lemmas -/
import Derived.Test.YtljddgipdchkiaaGreatDoorB5
import Derived.MapKept
set_option linter.all false
section
namespace Go.Am
open Go
section
variable{C:FW}{γ0 γ γ':Gh}{w0 w w':World}{Z:Nat->Nat}{U:BR}{h:Ah}{a:Act}{fid:FuncId}{ops:List Oper}
def WW{s t:Ao}(h:s≠t):((⟨⟨s⟩⟩:ByteArray)==⟨⟨t⟩⟩)=false:=by
 refine Bool.eq_false_iff.2 λhc=>h ?_;have:=(MapKept.bytes_beq _ _).1 hc;injection this with this
 injection this with this
def Rf(s:Ao):((⟨⟨s⟩⟩:ByteArray)==⟨⟨s⟩⟩)=true:=(MapKept.bytes_beq _ _).2 rfl
def lC{s:Ao}:∀{es:List (Aa×Aa)} {l:List MapEntry} {i:Nat} {r:Option Aa},Lc γ es l->Wl s es=some r->
  match r with
  |none=>Instr.findNow .string (.string ⟨⟨s⟩⟩) l i=some none
  |some v=>∃(j:Nat) (e:MapEntry),Instr.findNow .string (.string ⟨⟨s⟩⟩) l i=some (some (i+j,e.val))/\BO γ v e.val
 |[],l,i,r,b,hf=>by rw[show l=[] from b];cases hf;rfl
 |(k,v)::es,l,i,r,b,hf=>by
  obtain⟨e,l',rfl,h1,h2,f⟩:=b;unfold Wl at hf;split at hf;.rename_i Ku;cases Ku
  .rename_i t v' UQ Ku;cases Ku;have hk:e.key= .string ⟨⟨t⟩⟩:=h1;split at hf;.rename_i HR;subst HR;cases hf;exact⟨0,e,by simp[Instr.findNow,hk,Instr.sameNow,Rf],h2⟩
   .rename_i HR;have ih:=lC (i:=i+1) f hf;have hne:=WW HR;cases r with
    |none=>simpa[Instr.findNow,hk,Instr.sameNow,hne] using ih
    |some v2=>obtain⟨j,g,d,c⟩:=ih;exact⟨j+1,g,by simp only[Instr.findNow,hk,Instr.sameNow,hne];rw[d];congr 3;omega,c⟩
  .cases hf
def vP{s:Ao}{v:Aa}{u:Value}(hv:BO γ v u):∀{es UQ:List (Aa×Aa)} {l:List MapEntry} {i:Nat},Lc γ es l->OT s v es=some UQ->
  (Instr.findNow .string (.string ⟨⟨s⟩⟩) l i=some none/\∀born,Lc γ UQ (l++[{key:= .string ⟨⟨s⟩⟩,val:=u,born}]))\/
  ∃j e,Instr.findNow .string (.string ⟨⟨s⟩⟩) l i=some (some (i+j,e.val))/\l[j]?=some e/\e.key= .string ⟨⟨s⟩⟩/\Lc γ UQ (l.modify j λe=>{e with key:= .string ⟨⟨s⟩⟩,val:=u})
 |[],UQ,l,i,d,hp=>by rw[show l=[] from d];cases hp;exact .inl ⟨rfl,λborn=>⟨_,[],rfl,rfl,hv,rfl⟩⟩
 |(k,v0)::es,UQ,l,i,d,hp=>by
  obtain⟨e,l',rfl,h1,h2,f⟩:=d;unfold OT at hp;split at hp;.rename_i Ku;cases Ku
  .rename_i t v' o Ku;cases Ku;have hk:e.key= .string ⟨⟨t⟩⟩:=h1;split at hp;.rename_i HR;subst HR;cases hp;exact .inr ⟨0,e,by simp[Instr.findNow,hk,Instr.sameNow,Rf],rfl,hk,_,l',rfl,rfl,hv,f⟩
   .rename_i HR;have hne:=WW HR;cases hq:OT s v es with
    |none=>rw[hq] at hp;cases hp
    |some n=>
     rw[hq] at hp;cases hp;rcases vP hv (i:=i+1) f hq with⟨c,b⟩|⟨j,p,c,b,m,g⟩
     .exact .inl ⟨by simpa[Instr.findNow,hk,Instr.sameNow,hne] using c,λborn=>⟨e,_,rfl,h1,h2,b born⟩⟩
     .exact .inr ⟨j+1,p,by simp only[Instr.findNow,hk,Instr.sameNow,hne];rw[c];congr 3;omega,b,m,e,_,AH,h1,h2,g⟩
  .cases hp
def Tr{es:Array MapEntry}{clock:Nat}{k v:Value}(h:clock=es.size/\∀(i:Nat) (e:MapEntry),es[i]?=some e->e.born=i):
  clock+1=(es.push {key:=k,val:=v,born:=clock}).size/\∀(i:Nat) (e:MapEntry),(es.push {key:=k,val:=v,born:=clock})[i]?=some e->e.born=i:=by
 obtain⟨rfl,h⟩:=h;refine⟨AH,λi e he=>?_⟩;rw[Zx] at he;split at he;.rename_i hi;cases he;exact hi.symm
 .exact h i e he
def Ud{es:Array MapEntry}{clock j:Nat}{f:MapEntry->MapEntry}(h:clock=es.size/\∀(i:Nat) (e:MapEntry),es[i]?=some e->e.born=i)(hf:∀e,(f e).born=e.born):
  clock=(es.modify j f).size/\∀(i:Nat) (e:MapEntry),(es.modify j f)[i]?=some e->e.born=i:=by
 refine⟨by simpa using h.1,λi e he=>?_⟩;rw[M4] at he;split at he
 .cases hx:es[i]? with
  |none=>rw[hx] at he;cases he
  |some x=>rw[hx] at he;cases he;rw[hf];exact h.2 i x hx
 .exact h.2 i e he
def Nt(hi:Hk γ h w){g id:Nat}{es UQ:List (Aa×Aa)}(Sc:h[id]?=some (.map es))(hg:γ.mu id=some g){o:Obj}{ents':Array MapEntry}{clock':Nat}(hw:w.heap[g]?=some o)(hr:lj γ UQ ents' clock'):
  Hk γ (h.set id (.map UQ)) {w with heap:=w.heap.setIfInBounds g (.map ents' clock')}/\Ld γ w γ {w with heap:=w.heap.setIfInBounds g (.map ents' clock')}:=by
 obtain⟨l,p,Ta⟩:=hi.Md id _ Sc AH;rw[hg] at p;cases p;obtain⟨No,c⟩:=MapKept.heap_set (o':= .map ents' clock') hw;have uniq:∀FM x,h[FM]?=some x->x≠ .CO->γ.mu FM=some g->FM=id:=λFM x hx e hm=>by obtain⟨b',p,q⟩:=hi.Md FM x hx e;rw[hm] at p;cases p;rw[Ta] at q;cases q;rfl
 constructor
 .refine⟨λb o v hb=>?_,λFM y Ij hy=>?_,λFM cs hc b hb=>?_,λFM f hc b hb=>?_,λFM b hb=>by simpa using hi.mu FM b hb,λb x hx=>?_,λb n hb=>?_⟩;rotate_left 5
  .obtain⟨⟨pL,j,lq,p,q⟩,r⟩:=hi.sz b n hb;have hne:b≠g:=λhe=>by subst he;obtain⟨i,d,k,_⟩:=hi.map id es Sc b hg;rw[p] at k;cases k
   exact⟨⟨pL,j,lq,by rw[c b hne];exact p,q⟩,r⟩
  .obtain⟨p,q,r⟩:=hi.Io b o v hb;have:b≠g:=λhe=>by subst he;rw[Ta] at r;rcases r with r|⟨_,_,_,r,_⟩<;>cases r
   exact⟨by rw[CQ (w:=w) (c b this)];exact p,q,r⟩
  .by_cases he:FM=id;.subst he;exact⟨g,hg,Ta⟩
   .rw[Ap (λx=>he x.symm)] at Ij;exact hi.Md FM y Ij hy
  .by_cases he:FM=id;.subst he;rw[AS (hi.mu _ _ hg)] at hc;cases hc
   .rw[Ap (λx=>he x.symm)] at hc;have Q9:b≠g:=λhx=>by subst hx;exact he (uniq FM _ hc AH hb)
    obtain⟨pL,j,lq,p,pf,q,r⟩:=hi.cells FM cs hc b hb;exact⟨pL,j,lq,by rw[c b Q9];exact p,pf,q,r⟩
  .by_cases he:FM=id;.subst he;rw[hg] at hb;cases hb;rw[AS (hi.mu _ _ hg)] at hc;cases hc;exact⟨ents',clock',No,hr⟩
   .rw[Ap (λx=>he x.symm)] at hc;have Q9:b≠g:=λhx=>by subst hx;exact he (uniq FM _ hc AH hb)
    obtain⟨DD,clock,p,q⟩:=hi.map FM f hc b hb;exact⟨DD,clock,by rw[c b Q9];exact p,q⟩
  .have:=hi.Bt b x hx;simpa using this
 .refine⟨.refl _,AH,rfl,rfl,rfl,λb hb hn=>⟨?_,rfl⟩⟩;exact c b (λhe=>by subst he;exact hn id Ta)
def Rg(hr:C9 C γ0 w0 γ Z U h a w){x y z:Operand}{d c b:Aa}(ha:Bx C U [x,y,z]=some [d,c,b]):BO γ d (a.eval x)/\BO γ c (a.eval y)/\BO γ b (a.eval z):=by obtain⟨_,_,_,e,h1,h2,f⟩:=(DY hr ha).T8;simp only[Bk,CW,E1,MB] at e;obtain⟨rfl,rfl,rfl⟩:=e;exact⟨h1,h2,f⟩
def lD{o:Oper}{t kt e:TypeId}{m k x:Operand}{n p g:Aa}{h':Ah}(ho:o.op= .insert t m k x\/o.op= .mapUpdate t m k x)(hd:o.dst=none)(ht:C.P.underlying t=some (.map kt e))(hk:C.P.underlying kt=some .string)(ha:Bx C U [m,k,x]=some [n,p,g])
  (hm:T3 h n p g=some h') (hr:C9 C γ0 w0 γ Z U h a w):FU C γ0 w0 o a w U h':=by
 obtain⟨h1,h2,v⟩:=Rg hr ha;have MJ:∀w',(Instr.mapUpdate t (a.eval m) (a.eval k) (a.eval x)).run C.P w= .ok () w'->(execOp a.eval o).run C.P w= .ok .skip w':=λw' A0=>by rcases ho with ho|ho<;>simp[execOp,ho,A0]
 unfold T3 at hm;split at hm
 .rename_i id s;obtain⟨b,hb,cf⟩:=h1;have c:a.eval k= .string ⟨⟨s⟩⟩:=h2;split at hm
  .rename_i es Sc;cases hp:OT s g es with
   |none=>rw[hp] at hm;cases hm
   |some UQ=>
    rw[hp] at hm;cases hm;obtain⟨DD,clock,hw,u,hB⟩:=hr.D3.map id es Sc b hb;have cg:(Instr.checkKey false 10000 kt (.string ⟨⟨s⟩⟩)).run C.P w= .ok () w:=MapKept.run_checkKey (k:= .string ⟨⟨s⟩⟩) hk (by simp[MapKept.IsKey]) false 9999;rcases vP v (i:=0) u hp with⟨f,l⟩|⟨j,en,f,l,r,q⟩
    .have A0:(Instr.mapUpdate t (a.eval m) (a.eval k) (a.eval x)).run C.P w= .ok () {w with heap:=w.heap.setIfInBounds b (.map (DD.push {key:= .string ⟨⟨s⟩⟩,val:=a.eval x,born:=clock}) (clock+1))}:=by rw[cf,c];simp[Instr.mapUpdate,run_underlying ht,MapKept.run_getObj_map hw,cg,MapKept.run_findKey hk f,MapKept.run_setObj_map _ hw,Result.andThen]
     obtain⟨hi,Kf⟩:=Nt (UQ:=UQ) (ents':=DD.push {key:= .string ⟨⟨s⟩⟩,val:=a.eval x,born:=clock}) (clock':=clock+1) hr.D3 Sc hb hw ⟨by simpa using l clock,Tr hB⟩;exact FU.skip (MJ _ A0) (by rw[hd];exact hr.Jb hi Kf)
    .have hj:DD[j]?=some en:=by simpa using l
     rw[BU] at f;have A0:(Instr.mapUpdate t (a.eval m) (a.eval k) (a.eval x)).run C.P w= .ok () {w with heap:=w.heap.setIfInBounds b (.map (DD.modify j λe=>{e with key:= .string ⟨⟨s⟩⟩,val:=a.eval x}) clock)}:=by rw[cf,c];simp[Instr.mapUpdate,run_underlying ht,MapKept.run_getObj_map hw,cg,MapKept.run_findKey hk f,hj,r,MapKept.run_keyThatStays (d:= .string) (k:= .string ⟨⟨s⟩⟩) (by simp[MapKept.IsKey]),MapKept.run_setObj_map _ hw,Result.andThen]
     obtain⟨hi,Kf⟩:=Nt (UQ:=UQ) (ents':=DD.modify j λe=>{e with key:= .string ⟨⟨s⟩⟩,val:=a.eval x}) (clock':=clock) hr.D3 Sc hb hw ⟨by simpa using q,Ud hB λ_=>rfl⟩;exact FU.skip (MJ _ A0) (by rw[hd];exact hr.Jb hi Kf)
  .cases hm
 .cases hm
def mq{o:Oper}{t:TypeId}(ho:o.op= .makeMap t none)(hr:C9 C γ0 w0 γ Z U h a w):FU C γ0 w0 o a w (U.put o.dst (.val (.map (some h.length)))) (h++[.map []]):=by
 obtain⟨hi,ha⟩:=GM hr.D3 (.map #[] 0) (.map []) none (.inr ⟨rfl,rfl,rfl⟩);have A0:(Instr.makeMap t none).run C.P w= .ok (.map (some w.heap.size)) (w.alloc (.map #[] 0)):=by simp[Instr.makeMap]
 exact FU.value (by simp only[execOp,ho];exact DE A0) ((hr.Jb hi ha).put λ_ _=>⟨w.heap.size,by simp[Gh.B0],rfl⟩)
def KZ(key elem:TypeId)(index:Value)(commaOk:Bool)(es:Array MapEntry):Sem Value:=do
 Instr.checkKey es.isEmpty 10000 key index
 let(v,ok)<-match<-Instr.findKey key index es.toList with
  |some (_,v)=>pure (v,true)
  |none=>pure (<-zeroValue elem,false)
 pure (if commaOk then .tuple #[v,.bool ok] else v)
def mr{o:Oper}{t kt e:TypeId}{m k:Operand}{d f z r:Aa}{ok:Bool}(ho:o.op= .lookup t m k ok)(ht:C.P.underlying t=some (.map kt e))(hk:C.P.underlying kt=some .string)(hz:Ha C.P e=some z)(ha:Bx C U [m,k]=some [d,f])(hm:T4 h z ok d f=some r)(hr:C9 C γ0 w0 γ Z U h a w):
  FU C γ0 w0 o a w (U.put o.dst (.val r)) h:=by
 obtain⟨_,_,e0,h1,h2⟩:=Fc hr ha;cases e0;obtain⟨l,jj,g⟩:=H6 hz;have HC:∀(es:Array MapEntry) (q:Option Aa),(Instr.lookup t (a.eval m) (a.eval k) ok).run C.P w=(KZ kt e (a.eval k) ok es).run C.P w->
   ∀s,a.eval k= .string ⟨⟨s⟩⟩->(match q with|none=>Instr.findNow .string (.string ⟨⟨s⟩⟩) es.toList 0=some none|some v=>∃(j:Nat) (e:MapEntry),Instr.findNow .string (.string ⟨⟨s⟩⟩) es.toList 0=some (some (0+j,e.val))/\BO γ v e.val)->
   (match q with|some v=>if ok then Aa.tuple [v,.bool true] else v|none=>if ok then .tuple [z,.bool false] else z)=r->FU C γ0 w0 o a w (U.put o.dst (.val r)) h:=by
  intro es q Sc s yi hq Uc;have cg:(Instr.checkKey es.isEmpty 10000 kt (.string ⟨⟨s⟩⟩)).run C.P w= .ok () w:=MapKept.run_checkKey (k:= .string ⟨⟨s⟩⟩) hk (by simp[MapKept.IsKey]) es.isEmpty 9999;have A0:∃v,(Instr.lookup t (a.eval m) (a.eval k) ok).run C.P w= .ok v w/\BO γ r v:=by
   cases q with
   |none=>
    refine⟨if ok then .tuple #[l,.bool false] else l,?_,?_⟩;.rw[Sc,yi];unfold KZ;simp only[Sem.run_bind,Result.andThen_ok,cg,MapKept.run_findKey hk hq,g,Sem.run_bind,Sem.run_pure]
    .rw[<-Uc];have c:=Fu (γ:=γ) jj;cases ok with
     |true=>exact⟨_,rfl,_,_,rfl,c,_,_,rfl,rfl,rfl⟩
     |false=>exact c
   |some v=>
    obtain⟨j,en,p,n⟩:=hq;refine⟨if ok then .tuple #[en.val,.bool true] else en.val,?_,?_⟩;.rw[Sc,yi];unfold KZ;simp only[Sem.run_bind,Result.andThen_ok,cg,MapKept.run_findKey hk p,Sem.run_bind,Sem.run_pure]
    .rw[<-Uc];cases ok with
     |true=>exact⟨_,rfl,_,_,rfl,n,_,_,rfl,rfl,rfl⟩
     |false=>exact n
  obtain⟨v,A0,vN⟩:=A0;exact FU.value (by simp only[execOp,ho];exact DE A0) (hr.put λ_ _=>vN)
 unfold T4 at hm;cases hf:Wm h d f with
 |none=>rw[hf] at hm;cases hm
 |some q=>
  rw[hf] at hm;simp only[B9,Bz] at hm;unfold Wm at hf;split at hf;.rename_i s;cases hf;exact HC #[] none (by rw[show a.eval m=_ from h1];simp only[Instr.lookup,KZ,Sem.run_bind,run_underlying ht,Result.andThen_ok,Sem.run_pure];rfl) s h2 rfl hm
  .rename_i id s;obtain⟨b,hb,cf⟩:=h1;split at hf;.rename_i es Sc;obtain⟨DD,clock,hw,u,_⟩:=hr.D3.map id es Sc b hb;exact HC DD q (by rw[cf];simp only[Instr.lookup,KZ,Sem.run_bind,run_underlying ht,MapKept.run_getObj_map hw,Result.andThen_ok,Sem.run_pure];rfl) s h2 (lC (i:=0) u hf) hm
   .cases hf
  .cases hf
def WX{size:Nat}{v:Aa}(h:O8 size v=true):v= .slnil\/v= .Gb size\/v= .sl size []:=by
 unfold O8 at h;split at h;.exact .inl rfl
 .exact .inr (.inl (by simpa using h))
 .exact .inr (.inr (by simpa using h))
 .cases h
def cj{o:Oper}{c:Call}{t t' e:TypeId}{n b:Nat}{s x:Operand}{v u r:Aa}{h':Ah}(ho:o.op= .call c)(hc:c.callee= .builtin .append)(h0:c.argTypes[0]?=some t)(h1:c.argTypes[1]?=some t')(EM:c.args.toList=[s,x])(ht:C.P.underlying t=some (.slice e))
  (Gg:(∃H,C.P.underlying t'=some (.slice H))\/C.P.underlying t'=some .string) (KW:B3 C.P e=some (n+1)) (mj:J9 C.P e=some (b+1)) (FF:La C U s=true) (j9:Mb C.P e=true) (hv:Bx C U [s,x]=some [v,u])
  (hp:KF h (n+1) (b+1) v u=some (h',r)) (hr:C9 C γ0 w0 γ Z U h a w):FU C γ0 w0 o a w ((U.DL (Dj U s)).put o.dst (.val r)) h':=by
 obtain⟨i,z,hi,hz,bX⟩:=Lh j9;have Qx:=JX KW hi;have G:=LR mj hi;obtain⟨_,_,e0,hvs,oZ⟩:=Fc hr hv;cases e0;have xz:E5 C U s=some v:=by
  unfold Bx at hv;split at hv;.rename_i p ps J L;cases hv;exact J
  .cases hv
 have Jc:O8 (n+1) v=true/\((∃AD,HP (n+1) (b+1) .slnil u=some (.sl (n+1) AD)/\AD≠[]/\u= .sl (n+1) AD/\AD.length*(b+1)<=AM/\h'=h++[.cells AD.flatten]/\r= .CE h.length 0 AD.length (n+1))\/((u= .slnil\/(∃B,u= .Gb B)\/∃B,u= .sl B [])/\h'=h/\r=v)):=by
  unfold KF at hp;split at hp
  .rename_i B AD;split at hp
   .rename_i Vy;refine⟨Vy,?_⟩;split at hp;.cases hp;exact .inr ⟨.inr (.inr ⟨_,rfl⟩),rfl,rfl⟩
    .rename_i hne;split at hp
     .rename_i HS;cases hp;obtain⟨rfl,hb⟩:=HS;refine .inl ⟨AD,?_,hne,rfl,hb,rfl,rfl⟩;cases AD with
      |nil=>exact absurd rfl hne
      |cons q AD=>simp only[HP,DI,BL];rw[Ae hb]
     .cases hp
   .cases hp
  .split at hp;.rename_i Vy;cases hp;exact⟨Vy,.inr ⟨.inl rfl,rfl,rfl⟩⟩
   .cases hp
  .split at hp;.rename_i Vy;simp only[Bq] at Vy;cases hp;exact⟨Vy.1,.inr ⟨.inr (.inl ⟨_,rfl⟩),rfl,rfl⟩⟩
   .cases hp
  .cases hp
 obtain⟨Vy,Jc⟩:=Jc;obtain⟨F,Ej,Kt,DC,m⟩:=Pk hr FF xz (U.DL (Dj U s)).length none;have Ku:c.args.map a.eval=#[a.eval s,a.eval x]:=by apply HB;simp[EM]
 have MJ:∀v' w',(Builtin.append_ #[t,t'] o.type #[a.eval s,a.eval x]).run C.P w= .ok v' w'->(execOp a.eval o).run C.P w= .ok (.value v') w':=λv' w' A0=>by
  have:execOp a.eval o=(do pure (Next.value (<-Builtin.append_ #[t,t'] o.type #[a.eval s,a.eval x]))):=by rw[<-Ku,<-Oc (ty:=o.type) h0 h1];simp only[execOp,ho,resolve,hc];rfl
  rw[this];exact DE A0
 have vQ:(a.eval s= .slice none 0 0/\v= .slnil)\/(∃g cap us y,a.eval s= .slice (some ⟨g,0,none⟩) 0 cap/\v= .sl (n+1) []/\F.Bt g=some (.tail (U.DL (Dj U s)).length none 0)/\w0.heap.size<=g/\w.heap[g]?=some (.cells us y (0,0))/\us.size=cap*(n+1)/\cap<=maxLen)\/∃g,a.eval s= .slice (some ⟨g,0,none⟩) 0 0/\v= .Gb (n+1):=by
  rcases m with(m|⟨I,m⟩)|⟨g,k,cap,us,y,I,rr,qF,JK,Ta,hB,hg,ZE,yb,hm,K⟩
  .rw[m] at DC;exact .inl ⟨DC,m⟩
  .rcases WX Vy with vR|vR|vR
   .rw[vR] at m;cases m
   .rw[vR] at DC;obtain⟨g,DC⟩:=DC;exact .inr (.inr ⟨g,DC,vR⟩)
   .rw[vR] at m;cases m
  .rcases WX Vy with vR|vR|vR
   .rw[vR] at qF;cases qF
   .rw[vR] at qF;cases qF
   .rw[vR] at qF;cases qF;have hk:k=0:=by rw[vR,JK] at DC;obtain⟨A,f,lA,_⟩:=DC;simp only[Value.slice.injEq] at lA;exact lA.2.1
    subst hk;exact .inr (.inl ⟨g,cap,us,y,JK,vR,by simpa using Ta,hB,hg,ZE,hm⟩)
 rcases Jc with⟨AD,Gq,hne,D,P9,rfl,rfl⟩|⟨D,rfl,rfl⟩
 .obtain⟨d,news,Pm,Kx,Ň,oY⟩:=vO (w:=w) Gg hr.D3 oZ Gq;have lE:d=AD:=by
   cases d with
   |nil=>simp[DI] at Pm
   |cons q d=>
    simp only[DI] at Pm;split at Pm;.cases Pm;rfl
    .cases Pm
  subst lE;have ml:=Bg.mono Ej _ _ Ň;have Ke:Src C.P i.size t' (a.eval x) d.length news w:=by rw[Qx];exact Kx
  have OH:news.length=d.length*(n+1):=Kx.newsLen;have Ho:d.flatten.length=news.length:=by rw[Ň.length]
  have hpos:0<d.length:=EC.2 hne;have Q9:d.length<=AM:=Bu (IJ _ (C4 b)) P9;have IP:∀(base:Option Addr) (cap:Nat),a.eval s= .slice base 0 cap->(Builtin.firstCells i.size 0 (.slice base 0 cap)).run C.P w.drew= .ok #[] w.drew->cap<d.length->
    FU C γ0 w0 o a w ((U.DL (Dj U s)).put o.dst (.val (.CE h.length 0 d.length (n+1)))) (h++[.cells d.flatten]):=by
   intro base cap hs l hlt;have F8:=run_append_grow_src (P:=C.P) w t t' o.type e i z ht hi hz base 0 cap [] l (a.eval x) d.length news Ke Ab (by simp only[AM] at Q9;omega) (by rw[G,BU];exact growslice_fits hlt P9);rw[<-hs,BU] at F8;have D6:=grownCap_ge w d.length cap e;have Ue:(([]++news).toArray++Builtin.zeroCells z.cells (grownCap w d.length cap e-d.length)).toList.take d.flatten.length=news:=by simp only[GV,BQ];rw[Ho];exact FB
   have mv:(([]++news).toArray++Builtin.zeroCells z.cells (grownCap w d.length cap e-d.length)).size=grownCap w d.length cap e*(n+1):=by simp only[J5,B7,size_zeroCells,bX,Qx,BQ,OH,<-BG];congr 1;omega
   obtain⟨E,kY,UX,LQ,Sd⟩:=Kt.drew.newObj (([]++news).toArray++Builtin.zeroCells z.cells (grownCap w d.length cap e-d.length)) e (0,0) d.flatten (.inl rfl) (by rw[Ue];exact ml) (by rw[Ue];exact Kx.one);exact FU.value (MJ _ _ F8) (LQ.put λ_ _=>⟨w.heap.size,_,UX,rfl,D6,⟨C4 n,grownCap_le_maxLen w _ _ _ (by simp only[AM] at Q9;simp only[maxLen];omega)⟩,by rw[BU,<-mv];exact Sd⟩)
  rcases vQ with⟨JK,rfl⟩|⟨g,cap,us,y,JK,rfl,Ta,hB,hg,ZE,yj⟩|⟨g,JK,rfl⟩
  rotate_left 2;.exact IP (some ⟨g,0,none⟩) 0 JK (by simpa using run_firstCells_some (P:=C.P) w.drew i.size 0 ⟨g,0,none⟩ 0 0 [] AH AH) hpos
  .exact IP none 0 JK (run_firstCells_none _ _ _ _ _) hpos
  .by_cases hroom:d.length<=cap
   .have hfit:news.length<=us.size:=by rw[OH,ZE];exact DT _ hroom
    have A0:=run_append_room_src (P:=C.P) w t t' o.type e i ht hi g 0 0 cap (a.eval x) d.length news Ke Ab (λj hj=>by rw[cell_of_row w _ _ us y (0,0) hg,Qx,CR Ab];rfl) (λj hj=>frozen_of_row w _ _ us y hg)
    rw[Mz,BU,BU,EL news 0 us w hg Ab,<-JK] at A0;have Ue:((us.toList.take 0++news++us.toList.drop (0+news.length)).toArray).toList.take d.flatten.length=news:=by simp only[Kq,BQ];rw[Ho];exact FB
    obtain⟨E,kY,UX,LQ,Sd⟩:=Kt.aD2 Ta hB hg (us.toList.take 0++news++us.toList.drop (0+news.length)).toArray d.flatten (by rw[Ue];exact ml) (by rw[Ue];exact Kx.one);exact FU.value (MJ _ _ A0) (LQ.put λ_ _=>⟨g,cap,UX,rfl,hroom,⟨C4 n,yj⟩,by rw[Sd,BU,<-ZE];simp;omega⟩)
   .exact IP (some ⟨g,0,none⟩) cap JK (by simpa using run_firstCells_some (P:=C.P) w.drew i.size 0 ⟨g,0,none⟩ 0 cap [] AH AH) Ab
 .have Kx:Src C.P i.size t' (a.eval x) 0 [] w:=by
   rcases D with rfl|⟨B,rfl⟩|⟨B,rfl⟩
   .rw[show a.eval x=_ from oZ];exact⟨Gg,λ_=>rfl,run_firstCells_none w _ 0 0 0,run_firstCells_none w.drew _ 0 0 0,AH,AH⟩
   .obtain⟨g0,lA⟩:=oZ;rw[lA];exact⟨Gg,λ_=>rfl,by simpa using run_firstCells_some (P:=C.P) w i.size 0 ⟨g0,0,none⟩ 0 0 [] AH AH,by simpa using run_firstCells_some (P:=C.P) w.drew i.size 0 ⟨g0,0,none⟩ 0 0 [] AH AH,AH,AH⟩
   .obtain⟨A,f,lA,_⟩:=oZ;rw[lA];exact⟨Gg,λ_=>rfl,by simpa using run_firstCells_some (P:=C.P) w i.size 0 A 0 f [] AH AH,by simpa using run_firstCells_some (P:=C.P) w.drew i.size 0 A 0 f [] AH AH,AH,AH⟩
  rcases vQ with⟨JK,rfl⟩|⟨g,cap,us,y,JK,rfl,Ta,hB,hg,ZE,yj⟩|⟨g,JK,rfl⟩
  rotate_left 2;.have A0:=run_append_room_src (P:=C.P) w t t' o.type e i ht hi g 0 0 0 (a.eval x) 0 [] Kx Ab AH AH;rw[<-JK] at A0;simp only[World.setCells] at A0;exact FU.value (MJ _ _ A0) (Kt.put λ_ _=>DC)
  .have A0:(Builtin.append_ #[t,t'] o.type #[a.eval s,a.eval x]).run C.P w= .ok (.slice none 0 0) w:=by rw[JK];have hl:=Kx.len;have Vz:=Kx.cells;rcases Gg with⟨H,hk⟩|hk<;>simp[Builtin.append_,run_underlying ht,run_underlying hk,sizeOf,typeInfo,hi,hl,Vz]
   exact FU.value (MJ _ _ A0) (Kt.put λ_ _=>rfl)
  .have A0:=run_append_room_src (P:=C.P) w t t' o.type e i ht hi g 0 0 cap (a.eval x) 0 [] Kx Ab AH AH;rw[<-JK] at A0;simp only[World.setCells] at A0;exact FU.value (MJ _ _ A0) (Kt.put λ_ _=>DC)
def C9.kill(hr:C9 C γ0 w0 γ Z U h a w)(id:Nat):C9 C γ0 w0 γ Z U (h.set id .CO) a w:=by
 have key:∀{FM:Nat} {x:Dw},(h.set id .CO)[FM]?=some x->x≠ .CO->h[FM]?=some x:=λ{FM x} hx hd=>by
  by_cases he:id=FM
  .subst he;rw[aOk] at hx;simp only[BL] at hx;split at hx;.cases hx;exact absurd rfl hd
   .cases hx
  .rwa [Ap he] at hx
 exact⟨⟨hr.D3.Io,λFM y Ij hy=>hr.D3.Md FM y (key Ij hy) hy,λFM cs hc b hb=>hr.D3.cells FM cs (key hc AH) b hb,λFM es hc b hb=>hr.D3.map FM es (key hc AH) b hb,λFM b hb=>by simpa using hr.D3.mu FM b hb,hr.D3.Bt,hr.D3.sz⟩,hr.fr,hr.DW,hr.defers,hr.GZ⟩
def C9.qG(hr:C9 C γ0 w0 γ Z U h a w){id g:Nat}{cs:List Aa}(hcs:h[id]?=some (.cells cs))(hg:γ.mu id=some g){us:Array Value}{e:TypeId}{fr:Nat×Nat}(hw:w.heap[g]?=some (.cells us e fr))(UY:γ.sz g=some us.size)(DK:Array Value)(GX:List Aa)(ZE:DK.size=us.size)(vI:Tm fr DK.size)
  (hv:Bg γ GX (DK.toList.take GX.length)) (h1:∀u∈DK.toList.take GX.length,u.oneCell'=true):∃γ',γ.le γ'/\γ'.mu h.length=some g/\C9 C γ0 w0 γ' Z U (h.set id .CO++[.cells GX]) a (w.setRow g DK)/\γ'.sz g=some us.size:=by
 obtain⟨i,p,Ta⟩:=hr.D3.Md id _ hcs AH;rw[hg] at p;cases p;have cm:id<h.length:=hr.D3.mu _ _ hg;have d:γ.mu h.length=none:=by
  cases hc:γ.mu h.length with
  |none=>rfl
  |some y=>exact absurd (hr.D3.mu _ y hc) (Dr _)
 have uniq:∀FM x,h[FM]?=some x->x≠ .CO->γ.mu FM=some g->FM=id:=λFM x hx c hm=>by obtain⟨b',p,q⟩:=hr.D3.Md FM x hx c;rw[hm] at p;cases p;rw[Ta] at q;cases q;rfl
 have Ej:γ.le (γ.B0 g h.length (some us.size)):=⟨λ_ _ _ hv=>hv,λFM b hm=>by
  have:FM≠h.length:=λhe=>by rw[he,d] at hm;cases hm
  simp only[Gh.B0,Ac this];exact hm,λb n hm=>by
  by_cases he:b=g;.subst he;rw[UY] at hm;cases hm;simp[Gh.B0]
  .simp only[Gh.B0,Ac he];exact hm⟩
 have old:∀{FM:Nat} {x:Dw},(h.set id .CO++[Dw.cells GX])[FM]?=some x->x≠ .CO->FM≠h.length->h[FM]?=some x/\FM≠id:=λ{FM x} hx hd hne=>by
  have hlt:FM<(h.set id .CO).length:=by rw[Al] at hx;obtain⟨hl,_⟩:=hx;simp at hl⊢;omega
  rw[Aj hlt] at hx;by_cases he:id=FM;.subst he;rw[AS (by simpa using hlt)] at hx;cases hx;exact absurd rfl hd
  .rw[Ap he] at hx;exact⟨hx,λh=>he h.symm⟩
 have aJa:Hk (γ.B0 g h.length (some us.size)) (h.set id .CO++[.cells GX]) (w.setRow g DK):=by
  refine⟨λb o v hb=>?_,λFM y Ij hy=>?_,λFM Se hc b hb=>?_,λFM es hc b hb=>?_,λFM b hb=>?_,λb y hy=>?_,λb n hb=>?_⟩
  .obtain⟨p,q,r⟩:=hr.D3.Io b o v hb;have N4:b≠g:=λhe=>by subst he;rw[Ta] at r;rcases r with r|⟨_,_,_,r,_⟩<;>cases r
   exact⟨by rw[CQ (setRow_other w g b DK N4)];exact p,q,by simp only[Gh.B0,Ac N4];exact r⟩
  .by_cases he:FM=h.length;.exact⟨g,by simp[Gh.B0,he],by simp[Gh.B0,he]⟩
   .obtain⟨cq,hne⟩:=old Ij hy he;obtain⟨b,p,q⟩:=hr.D3.Md FM y cq hy;have N4:b≠g:=λhx=>by subst hx;exact hne (uniq FM y cq hy p)
    exact⟨b,by simp only[Gh.B0,Ac he];exact p,by simp only[Gh.B0,Ac N4];exact q⟩
  .by_cases he:FM=h.length;.subst he;simp[Gh.B0] at hb;subst hb;rw[Bl AH] at hc;simp at hc;subst hc;exact⟨DK,e,fr,setRow_heap w g us DK e fr hw,vI,Bg.mono Ej _ _ hv,h1⟩
   .simp only[Gh.B0,Ac he] at hb;obtain⟨IV,hne⟩:=old hc AH he;have N4:b≠g:=λhx=>by subst hx;exact hne (uniq FM _ IV AH hb)
    obtain⟨pL,f,lq,p,pf,q,r⟩:=hr.D3.cells FM Se IV b hb;exact⟨pL,f,lq,by rw[setRow_other w g b DK N4];exact p,pf,Bg.mono Ej _ _ q,r⟩
  .by_cases he:FM=h.length;.subst he;rw[Bl AH] at hc;simp at hc
   .simp only[Gh.B0,Ac he] at hb;obtain⟨IV,hne⟩:=old hc AH he;have N4:b≠g:=λhx=>by subst hx;exact hne (uniq FM _ IV AH hb)
    obtain⟨DD,clock,p,q⟩:=hr.D3.map FM es IV b hb;exact⟨DD,clock,by rw[setRow_other w g b DK N4];exact p,q.mono Ej⟩
  .by_cases he:FM=h.length;.simp[he]
   .simp only[Gh.B0,Ac he] at hb;have:=hr.D3.mu FM b hb;simp;omega
  .by_cases N4:b=g;.subst N4;have:=hr.D3.Bt _ _ Ta;simpa[World.setRow] using this
   .simp only[Gh.B0,Ac N4] at hy;have:=hr.D3.Bt b y hy;simpa[World.setRow] using this
  .by_cases he:b=g;.subst he;simp only[Gh.B0,BL] at hb;cases hb;exact⟨⟨DK,e,fr,setRow_heap w b us DK e fr hw,ZE⟩,.inr ⟨h.length,by simp[Gh.B0]⟩⟩
   .simp only[Gh.B0,Ac he] at hb⊢;obtain⟨p,r⟩:=hr.D3.sz b n hb;exact⟨by rw[setRow_other w g b DK he];exact p,r⟩
 refine⟨_,Ej,by simp[Gh.B0],hr.Jb aJa ⟨Ej,by simp[World.setRow],rfl,rfl,rfl,λb hb hn=>?_⟩,by simp[Gh.B0]⟩;have N4:b≠g:=λhe=>by subst he;exact hn id Ta
 exact⟨setRow_other w g b DK N4,by simp only[Gh.B0,Ac N4]⟩
def mw{o:Oper}{c:Call}{t t' e:TypeId}{n b:Nat}{s x:Operand}{v u r:Aa}{h':Ah}(ho:o.op= .call c)(hc:c.callee= .builtin .append)(h0:c.argTypes[0]?=some t)(h1:c.argTypes[1]?=some t')(EM:c.args.toList=[s,x])(ht:C.P.underlying t=some (.slice e))
  (Gg:(∃N,C.P.underlying t'=some (.slice N))\/C.P.underlying t'=some .string) (KW:B3 C.P e=some (n+1)) (mj:J9 C.P e=some (b+1)) (j9:Mb C.P e=true) (hv:Bx C U [s,x]=some [v,u])
  (hp:F8 h (n+1) (b+1) v u=some (h',r)) (hr:C9 C γ0 w0 γ Z U h a w):FU C γ0 w0 o a w (U.put o.dst (.val r)) h':=by
 obtain⟨i,z,hi,hz,bX⟩:=Lh j9;have Qx:=JX KW hi;have J:=LR mj hi;obtain⟨_,_,e0,hvs,oZ⟩:=Fc hr hv;cases e0;have Ku:c.args.map a.eval=#[a.eval s,a.eval x]:=by apply HB;simp[EM]
 have MJ:∀v' w',(Builtin.append_ #[t,t'] o.type #[a.eval s,a.eval x]).run C.P w= .ok v' w'->(execOp a.eval o).run C.P w= .ok (.value v') w':=λv' w' A0=>by
  have:execOp a.eval o=(do pure (Next.value (<-Builtin.append_ #[t,t'] o.type #[a.eval s,a.eval x]))):=by rw[<-Ku,<-Oc (ty:=o.type) h0 h1];simp only[execOp,ho,resolve,hc];rfl
  rw[this];exact DE A0
 unfold F8 at hp;cases hq:GY h (n+1) u with
 |none=>rw[hq] at hp;cases hp
 |some AD=>
  rw[hq] at hp;obtain⟨news,Kx,Vy,oY⟩:=WT (w:=w) Gg hr.D3 oZ hq;have Ke:Src C.P i.size t' (a.eval x) AD.length news w:=by rw[Qx];exact Kx
  have OH:news.length=AD.length*(n+1):=Kx.newsLen;have Ho:AD.flatten.length=news.length:=by rw[Vy.length]
  cases AD with
  |nil=>
   have vJ:news=[]:=Dn (by simpa using OH);subst vJ;cases v with
   |slnil=>
    cases hp;have JK:a.eval s= .slice none 0 0:=hvs;have A0:(Builtin.append_ #[t,t'] o.type #[a.eval s,a.eval x]).run C.P w= .ok (.slice none 0 0) w:=by rw[JK];have hl:=Ke.len;have Vz:=Ke.cells;simp only[BP] at hl Vz;rcases Gg with⟨N,hk⟩|hk<;>simp[Builtin.append_,run_underlying ht,run_underlying hk,sizeOf,typeInfo,hi,hl,Vz]
    exact FU.value (MJ _ _ A0) (hr.put λ_ _=>rfl)
   |Gb E=>
    simp only at hp;split at hp;.cases hp;obtain⟨g,JK⟩:=(show BO γ _ _ from hvs);have A0:=run_append_room_src (P:=C.P) w t t' o.type e i ht hi g 0 0 0 (a.eval x) 0 [] Ke Ab AH AH;rw[<-JK] at A0;simp only[World.setCells,Bs] at A0;exact FU.value (MJ _ _ A0) (hr.put λ_ _=>⟨g,JK⟩)
    .cases hp
   |CE id off k E=>
    simp only at hp;split at hp;.cases hp;obtain⟨g,cap,hg,JK,yb,jh,UY⟩:=(show BO γ _ _ from hvs);have A0:=run_append_room_src (P:=C.P) w t t' o.type e i ht hi g off k cap (a.eval x) 0 [] Ke Ab AH AH;rw[<-JK] at A0;simp only[World.setCells,Bs] at A0;exact FU.value (MJ _ _ A0) (hr.put λ_ _=>⟨g,cap,hg,rfl,yb,jh,UY⟩)
    .cases hp
   |_=>cases hp
  |cons O l=>
   generalize hR:O::l=AD at*;have hpos:0<AD.length:=by rw[<-hR];simp
   have d:∀(h2:Ah) (base:Option Addr) (k cap:Nat) (Y5:List Aa) (olds:List Value),C9 C γ0 w0 γ Z U h2 a w->a.eval s= .slice base k cap->Bg γ Y5 olds->olds.length=k*(n+1)->(∀q∈olds,q.oneCell'=true)->
     (Builtin.firstCells i.size k (.slice base k cap)).run C.P w.drew= .ok olds.toArray w.drew->cap<k+AD.length->(k+AD.length)*(b+1)<=AM->
     FU C γ0 w0 o a w (U.put o.dst (.val (.CE h2.length 0 (k+AD.length) (n+1)))) (h2++[.cells (Y5++AD.flatten)]):=by
    intro h2 base k cap Y5 olds LQ hs aD4 ji I f hlt P9;have Q9:k+AD.length<=AM:=Bu (IJ _ (C4 b)) P9;have F8:=run_append_grow_src (P:=C.P) w t t' o.type e i z ht hi hz base k cap olds f (a.eval x) AD.length news Ke hlt (by simp only[AM] at Q9;omega) (by rw[J];exact growslice_fits hlt P9);rw[<-hs] at F8;have D6:=grownCap_ge w (k+AD.length) cap e;have bw:(olds++news).length=(k+AD.length)*(n+1):=by rw[Aw,ji,OH,BG]
    have bS:(Y5++AD.flatten).length=(olds++news).length:=by rw[Aw,Aw,aD4.length,Ho]
    have mv:((olds++news).toArray++Builtin.zeroCells z.cells (grownCap w (k+AD.length) cap e-(k+AD.length))).size=grownCap w (k+AD.length) cap e*(n+1):=by simp only[J5,B7,size_zeroCells,bX,Qx,bw,<-BG];congr 1;omega
    have Ue:((olds++news).toArray++Builtin.zeroCells z.cells (grownCap w (k+AD.length) cap e-(k+AD.length))).toList.take (Y5++AD.flatten).length=olds++news:=by simp only[GV];rw[bS];exact FB
    obtain⟨D,kY,UX,H,Sd⟩:=LQ.drew.newObj ((olds++news).toArray++Builtin.zeroCells z.cells (grownCap w (k+AD.length) cap e-(k+AD.length))) e (0,0) (Y5++AD.flatten) (.inl rfl) (by rw[Ue];exact aD4.append Vy) (by rw[Ue];intro q hq;exact(Ax.1 hq).elim (I q) (Kx.one q))
    exact FU.value (MJ _ _ F8) (H.put λ_ _=>⟨w.heap.size,_,UX,rfl,D6,⟨C4 n,grownCap_le_maxLen w _ _ _ (by simp only[AM] at Q9;simp only[maxLen];omega)⟩,by rw[BU,<-mv];exact Sd⟩)
   cases v with
   |slnil=>
    have JK:a.eval s= .slice none 0 0:=hvs;rw[<-hR] at hp;simp only at hp;rw[hR] at hp;split at hp;.rename_i P9;cases hp;have:=d h none 0 0 [] [] hr JK rfl AH AH (run_firstCells_none _ _ _ _ _) Ab (by simpa using P9);simpa using this
    .cases hp
   |Gb E=>
    obtain⟨g,JK⟩:=(show BO γ _ _ from hvs);rw[<-hR] at hp;simp only at hp;rw[hR] at hp;split at hp;.rename_i P9;cases hp;have:=d h (some ⟨g,0,none⟩) 0 0 [] [] hr JK rfl AH AH (by simpa using run_firstCells_some (P:=C.P) w.drew i.size 0 ⟨g,0,none⟩ 0 0 [] AH AH) Ab (by simpa using P9.2);simpa using this
    .cases hp
   |CE id off k E=>
    rw[<-hR] at hp;simp only at hp;rw[hR] at hp;split at hp
    .rename_i cs hcs;split at hp
     .rename_i G;subst G;obtain⟨g,cap,hg,JK,yb,jh,UY⟩:=(show BO γ _ _ from hvs);obtain⟨us,M,fr,m,pf,B,A⟩:=hr.D3.cells id cs hcs g hg;obtain⟨⟨jg,S,R,K,F⟩,_⟩:=hr.D3.sz g _ UY;rw[m] at K;cases K;have j8:cs.length<=us.size:=by have:=B.length;simp at this;omega
      have Nr:∀j,(⟨g,off,none⟩:Addr).add j=⟨g,off+j,none⟩:=λj=>by unfold Addr.add;split<;>simp_all
      have p:∀o,o<us.size->w.frozen? ⟨g,o,none⟩=false:=λo ho=>by
       simp only[World.frozen?,m];rcases pf with rfl|vI
       .simp
       .simp;omega
      have room:k+AD.length<=cap->(Builtin.append_ #[t,t'] o.type #[a.eval s,a.eval x]).run C.P w= .ok (.slice (some ⟨g,off,none⟩) (k+AD.length) cap) (w.setRow g (us.toList.take (off+k*(n+1))++news++us.toList.drop (off+k*(n+1)+news.length)).toArray)/\off+k*(n+1)+news.length<=us.size:=by
       intro hroom;have hfit:off+k*(n+1)+news.length<=us.size:=by rw[OH,F,RD,<-BG];exact Nat.add_le_add_left (DT _ hroom) _
       have A0:=run_append_room_src (P:=C.P) w t t' o.type e i ht hi g off k cap (a.eval x) AD.length news Ke hroom (λj hj=>by rw[cell_of_row w _ _ us M fr m,Qx,CR Ab];rfl) (λj hj=>by rw[Qx];exact p _ Ab)
       rw[Qx,EL news _ us w m hfit,<-JK] at A0;exact⟨A0,hfit⟩
      have YW:(k+AD.length)*(n+1)=k*(n+1)+AD.length*(n+1):=BG _ _ _;split at hp
      .rename_i UZ;cases hp;have hroom:k+AD.length<=cap:=by have Q:(k+AD.length)*(n+1)<=cap*(n+1):=Ab;exact Nat.le_of_mul_le_mul_right Q (C4 n)
       obtain⟨A0,hfit⟩:=room hroom;have L:off+(k+AD.length)*(n+1)=off+k*(n+1)+news.length:=by rw[OH,YW];omega
       have hcl:(cs.take (off+k*(n+1))++AD.flatten++cs.drop (off+(k+AD.length)*(n+1))).length=cs.length:=by rw[L,Aw,Aw,As,Bb,Ho];omega
       have Ue:((us.toList.take (off+k*(n+1))++news++us.toList.drop (off+k*(n+1)+news.length)).toArray).toList.take (cs.take (off+k*(n+1))++AD.flatten++cs.drop (off+(k+AD.length)*(n+1))).length=
         (us.toList.take cs.length).take (off+k*(n+1))++news++(us.toList.take cs.length).drop (off+k*(n+1)+news.length):=by
        rw[hcl];simp only[KQ];exact MQ (by simpa using j8) Ab rfl
       obtain⟨VA,OV⟩:=Nn hr.D3 hcs hg m (us.toList.take (off+k*(n+1))++news++us.toList.drop (off+k*(n+1)+news.length)).toArray (cs.take (off+k*(n+1))++AD.flatten++cs.drop (off+(k+AD.length)*(n+1)))
        (by simp only[B7,Aw,As,Bb,Cg];omega)
        (by
         rcases pf with rfl|pf
         .exact .inl rfl
         .refine .inr (Bu (My ?_) pf);simp only[B7,Aw,As,Bb,Cg];omega)
        (by rw[Ue,L];exact Oa B Vy)
        (by
         rw[Ue];intro q hq;rcases Ax.1 hq with hq|hq
         .rcases Ax.1 hq with hq|hq
          .exact A q (Bm hq)
          .exact Kx.one q hq
         .exact A q (BB hq))
       exact FU.value (MJ _ _ A0) ((hr.Jb VA OV).put λ_ _=>⟨g,cap,hg,rfl,hroom,jh,UY⟩)
      .rename_i aOH;split at hp
       .rename_i HS;obtain⟨rfl,P7,P9⟩:=HS;cases hp;simp only[BU] at*;by_cases hroom:k+AD.length<=cap
        .obtain⟨A0,hfit⟩:=room hroom;have bS:(cs.take (k*(n+1))++AD.flatten).length=k*(n+1)+news.length:=by rw[Aw,As,Ho];omega
         have Ue:((us.toList.take (k*(n+1))++news++us.toList.drop (k*(n+1)+news.length)).toArray).toList.take (cs.take (k*(n+1))++AD.flatten).length=(us.toList.take cs.length).take (k*(n+1))++news:=by
          rw[bS];simp only[KQ];have:(us.toList.take (k*(n+1))++news).length=k*(n+1)+news.length:=by rw[Aw,As,Cg];omega
          rw[<-this,FB,FA,Cp P7]
         obtain⟨D,kY,UX,LQ,Sd⟩:=hr.qG hcs hg m (by rw[UY,F]) (us.toList.take (k*(n+1))++news++us.toList.drop (k*(n+1)+news.length)).toArray (cs.take (k*(n+1))++AD.flatten)
          (by simp only[B7,Aw,As,Bb,Cg];omega)
          (by
           rcases pf with rfl|pf
           .exact .inl rfl
           .refine .inr (Bu (My ?_) pf);simp only[B7,Aw,As,Bb,Cg];omega)
          (by rw[Ue];exact(B.take _).append Vy)
          (by
           rw[Ue];intro q hq;rcases Ax.1 hq with hq|hq
           .exact A q (Bm hq)
           .exact Kx.one q hq)
         exact FU.value (MJ _ _ A0) (LQ.put λ_ _=>⟨g,cap,UX,rfl,hroom,jh,by rw[Sd,F];simp⟩)
        .have ji:((us.toList.take cs.length).take (k*(n+1))).length=k*(n+1):=Ee;have:=d (h.set id .CO) (some ⟨g,0,none⟩) k cap (cs.take (k*(n+1))) ((us.toList.take cs.length).take (k*(n+1))) (hr.kill id) JK (B.take _) ji (λq hq=>A q (Bm hq))
          (by
           rw[Qx];exact run_firstCells_some w.drew _ _ _ _ _ _ ji (λj y hj=>by
            rw[Nr];show w.cell? _=_;rw[cell_of_row w _ _ us M fr m];rw[Ch] at hj;split at hj
            .rw[Ch] at hj;split at hj;.simpa using hj
             .cases hj
            .cases hj)) Ab P9
         simpa using this
       .cases hp
     .cases hp
    .cases hp
   |_=>rw[<-hR] at hp;cases hp
def lF(hi:Hk γ h w){id g off:Nat}{cs b:List Aa}{news:List Value}(hcs:h[id]?=some (.cells cs))(hg:γ.mu id=some g)(hv:Bg γ b news)(h1:∀u∈news,u.oneCell'=true)(hl:off+b.length<=cs.length):
  ∃w',(storeCells ⟨g,off,none⟩ news).run C.P w= .ok () w'/\Hk γ (h.set id (.cells (cs.take off++b++cs.drop (off+b.length)))) w'/\Ld γ w γ w':=by
 obtain⟨us,e,fr,hw,pf,d,c⟩:=hi.cells id cs hcs g hg;have OH:news.length=b.length:=hv.length;have hlt:cs.length<=us.size:=by have:=d.length;simp at this;omega
 have hs:=run_storeCells_cells (P:=C.P) g off news 0 w (λj hj=>by
  rw[cell_of_row w _ _ us e fr hw,Bs,CR Ab];rfl) (λj hj=>by
  simp only[World.frozen?,hw];rcases pf with rfl|vI
  .simp
  .simp;omega) h1
 rw[Bs,EL _ off us w hw Ab] at hs;have hcl:(cs.take off++b++cs.drop (off+b.length)).length=cs.length:=Ee;have Ue:((us.toList.take off++news++us.toList.drop (off+news.length)).toArray).toList.take (cs.take off++b++cs.drop (off+b.length)).length=(us.toList.take cs.length).take off++news++(us.toList.take cs.length).drop (off+news.length):=by rw[hcl];simp only[KQ];exact MQ (by simpa using hlt) Ab rfl
 obtain⟨my,ha⟩:=Nn hi hcs hg hw (us.toList.take off++news++us.toList.drop (off+news.length)).toArray (cs.take off++b++cs.drop (off+b.length))
  (by simp only[B7,Aw,As,Bb,Cg];omega)
  (by
   rcases pf with rfl|pf
   .exact .inl rfl
   .refine .inr (Bu (My ?_) pf);simp only[B7,Aw,As,Bb,Cg];omega)
  (by rw[Ue,OH];exact Oa d hv)
  (by
   rw[Ue];intro q hq;rcases Ax.1 hq with hq|hq
   .rcases Ax.1 hq with hq|hq
    .exact c q (Bm hq)
    .exact h1 q hq
   .exact c q (BB hq))
 exact⟨_,hs,my,ha⟩
def qH{t t' ty:TypeId}{ts:Array TypeId}{xs:Array Value}(h0:ts[0]?=some t)(h1:ts[1]?=some t'):Builtin.copy_ ts ty xs=Builtin.copy_ #[t,t'] ty xs:=by simp only[Builtin.copy_,h0];rfl
def lG{P:Program}{t t' ty e:TypeId}{i:TypeInfo}(ht:P.underlying t=some (.slice e))(hi:P.info? e=some i){x:Value}{n:Nat}{news:List Value}(hs:Src P i.size t' x n news w){base:Option Addr}{k cap:Nat}(hk:n<=k)
  (HR:∀b,base=some b->(storeCells b news).run P w= .ok () w') (YN:base=none->w'=w):(Builtin.copy_ #[t,t'] ty #[.slice base k cap,x]).run P w= .ok (.int .i64 n) w':=by
 have hl:=hs.len w;have hc:=hs.cells;have hm:Nat.min n k=n:=Cp hk;cases base with
 |none=>cases YN rfl;simp[Builtin.copy_,run_underlying ht,hl,hc,sizeOf,typeInfo,hi,hm,goInt]
 |some b=>have h2:=HR b rfl;simp[Builtin.copy_,run_underlying ht,hl,hc,sizeOf,typeInfo,hi,hm,goInt,h2]
def mz{o:Oper}{c:Call}{t t' e:TypeId}{n:Nat}{s x:Operand}{v u r:Aa}{h':Ah}(ho:o.op= .call c)(hc:c.callee= .builtin .copy)(h0:c.argTypes[0]?=some t)(h1:c.argTypes[1]?=some t')(EM:c.args.toList=[s,x])(ht:C.P.underlying t=some (.slice e))
  (Gg:(∃f,C.P.underlying t'=some (.slice f))\/C.P.underlying t'=some .string) (KW:B3 C.P e=some (n+1)) (hv:Bx C U [s,x]=some [v,u])
  (hp:uW h (n+1) v u=some (h',r)) (hr:C9 C γ0 w0 γ Z U h a w):FU C γ0 w0 o a w (U.put o.dst (.val r)) h':=by
 obtain⟨_,_,e0,hvs,oZ⟩:=Fc hr hv;cases e0;have Ku:c.args.map a.eval=#[a.eval s,a.eval x]:=by apply HB;simp[EM]
 have MJ:∀v' w',(Builtin.copy_ #[t,t'] o.type #[a.eval s,a.eval x]).run C.P w= .ok v' w'->(execOp a.eval o).run C.P w= .ok (.value v') w':=λv' w' A0=>by
  have:execOp a.eval o=(do pure (Next.value (<-Builtin.copy_ #[t,t'] o.type #[a.eval s,a.eval x]))):=by rw[<-Ku,<-qH (ty:=o.type) h0 h1];simp only[execOp,ho,resolve,hc];rfl
  rw[this];exact DE A0
 cases hi:C.P.info? e with
 |none=>simp[B3,hi] at KW
 |some i=>
 have Qx:=JX KW hi;unfold uW at hp;cases hq:GY h (n+1) u with
 |none=>rw[hq] at hp;cases hp
 |some AD=>
  rw[hq] at hp;obtain⟨news,Kx,Vy,oY⟩:=WT (w:=w) Gg hr.D3 oZ hq;have Ke:Src C.P i.size t' (a.eval x) AD.length news w:=by rw[Qx];exact Kx
  have OH:news.length=AD.length*(n+1):=Kx.newsLen;have Ho:AD.flatten.length=news.length:=by rw[Vy.length]
  simp only at hp;split at hp
  .split at hp;.rename_i Y6;cases hp;have JK:a.eval s= .slice none 0 0:=hvs;have A0:=lG (t:=t) (ty:=o.type) (w:=w) (w':=w) ht hi Ke (base:=none) (k:=0) (cap:=0) Ab (λ_ e=>by cases e) (λ_=>rfl);rw[<-JK] at A0;rw[Y6] at A0;exact FU.value (MJ _ _ A0) (hr.put λ_ _=>rfl)
   .cases hp
  .rename_i id off k z;split at hp
   .rename_i cs hcs;split at hp;.rename_i HS;obtain⟨rfl,b,hlen⟩:=HS;cases hp;obtain⟨g,cap,hg,JK,yb,jh,UY⟩:=(show BO γ _ _ from hvs);have hm:=DT (n+1) b;obtain⟨w',HR,my,d⟩:=lF (C:=C) (off:=off) hr.D3 hcs hg Vy Kx.one Ab;have A0:=lG (t:=t) (ty:=o.type) (w:=w) (w':=w') ht hi Ke (base:=some ⟨g,off,none⟩) (k:=k) (cap:=cap) b (λ_ e=>by cases e;exact HR) (λe=>by cases e);rw[<-JK] at A0;rw[show AD.length*(n+1)=AD.flatten.length by rw[Ho,OH]];exact FU.value (MJ _ _ A0) ((hr.Jb my d).put λ_ _=>rfl)
    .cases hp
   .cases hp
  .cases hp
def lH{t ty:TypeId}{ts:Array TypeId}{xs:Array Value}(h0:ts[0]?=some t):Builtin.clear_ ts ty xs=Builtin.clear_ #[t] ty xs:=by simp only[Builtin.clear_,h0];rfl
def cr{o:Oper}{c:Call}{t e:TypeId}{n:Nat}{s:Operand}{v z r:Aa}{h':Ah}(ho:o.op= .call c)(hc:c.callee= .builtin .clear)(h0:c.argTypes[0]?=some t)(EM:c.args.toList=[s])(ht:C.P.underlying t=some (.slice e))
  (KW:B3 C.P e=some (n+1)) (hz:Ha C.P e=some z) (hv:Bx C U [s]=some [v]) (hp:Wn h (n+1) z.cells v=some (h',r)) (hr:C9 C γ0 w0 γ Z U h a w):FU C γ0 w0 o a w (U.put o.dst .undef) h':=by
 obtain⟨_,e0,hvs⟩:=GN hr hv;cases e0;have Ku:c.args.map a.eval=#[a.eval s]:=by apply HB;simp[EM]
 have MJ:∀v' w',(Builtin.clear_ #[t] o.type #[a.eval s]).run C.P w= .ok v' w'->(execOp a.eval o).run C.P w= .ok (.value v') w':=λv' w' A0=>by
  have:execOp a.eval o=(do pure (Next.value (<-Builtin.clear_ #[t] o.type #[a.eval s]))):=by rw[<-Ku,<-lH (ty:=o.type) h0];simp only[execOp,ho,resolve,hc];rfl
  rw[this];exact DE A0
 unfold Wn at hp;split at hp
 .cases hp;have JK:a.eval s= .slice none 0 0:=hvs;have A0:(Builtin.clear_ #[t] o.type #[a.eval s]).run C.P w= .ok (.tuple #[]) w:=by rw[JK];simp[Builtin.clear_,run_underlying ht]
  exact FU.value (MJ _ _ A0) (hr.put λ_ _=>trivial)
 .rename_i id off k E;split at hp
  .rename_i cs hcs;split at hp
   .rename_i HS;obtain⟨rfl,f,hlen⟩:=HS;cases hp;obtain⟨g,cap,hg,JK,yb,jh,UY⟩:=(show BO γ _ _ from hvs);obtain⟨d,jj,l⟩:=H6 hz;obtain⟨y,A⟩:=Hs (γ:=γ) (Fu jj) Ab;have bX:d.cells.size=n+1:=by have:=y.length;simp at this;omega
    have Ho:(List.replicate k z.cells).flatten.length=k*(n+1):=by rw[Hu (z:=n+1) (λr hr=>by rw[ĳ hr,f]),FT]
    have i:∀(j:Nat) (u:Value),(Builtin.zeroCells d.cells k).toList[j]?=some u->j<k*(n+1)/\d.cells.toList[j%(n+1)]?=some u:=by
     intro j u hj;have ZP:j<k*(n+1):=by have:=(Al.1 hj).1;simpa[size_zeroCells,bX] using this
     refine⟨ZP,?_⟩;have aAN:j%(n+1)<d.cells.size:=by rw[bX];exact Nat.mod_lt _ (C4 n)
     simp only[Builtin.zeroCells,Ng,Cl] at hj;have b:(Array.range (k*d.cells.size)).toList[j]?=some j:=by simp[bX,ZP]
     rw[b] at hj;simp only[B9,Bz] at hj;rw[bX] at hj;rw[<-hj];simp[aAN]
    have B:Bg γ (List.replicate k z.cells).flatten (Builtin.zeroCells d.cells k).toList:=by refine Bg.Hc (by simp only[Cg,size_zeroCells,bX,Ho]) λj x u hx hu=>?_;obtain⟨ZP,p⟩:=i j u hu;rw[Ic z.cells _ _ (by rw[f];exact ZP),f] at hx;obtain⟨F,vK,m⟩:=y.get hx;rw[p] at vK;cases vK;exact m
    obtain⟨w',HR,my,q⟩:=lF (C:=C) (off:=off) hr.D3 hcs hg B (λu hu=>by obtain⟨j,hj⟩:=CP hu;exact A u (CC (i j u hj).2)) Ab
    have A0:(Builtin.clear_ #[t] o.type #[a.eval s]).run C.P w= .ok (.tuple #[]) w':=by
     rw[JK];cases k with
     |zero=>
      have D:(Builtin.zeroCells d.cells 0).toList=[]:=by simp[Builtin.zeroCells]
      rw[D] at HR;have:w'=w:=by have h2:(storeCells ⟨g,off,none⟩ []).run C.P w= .ok () w:=rfl;rw[h2] at HR;cases HR;rfl
      rw[this];simp[Builtin.clear_,run_underlying ht]
     |succ k=>simp[Builtin.clear_,run_underlying ht,l,HR]
    rw[show k*(n+1)=(List.replicate k z.cells).flatten.length from Ho.symm];exact FU.value (MJ _ _ A0) ((hr.Jb my q).put λ_ _=>trivial)
   .cases hp
  .cases hp
 .cases hp
def m_{o:Oper}{t e:TypeId}{n:Nat}{x:Operand}{lo hi:Option Operand}{v r:Aa}{as:List Aa}{h':Ah}(ho:o.op= .slice t x lo hi none)(ht:C.P.underlying t=some (.slice e))(KW:B3 C.P e=some (n+1))
  (hv:Bx C U (x::(lo.toList++hi.toList))=some (v::as)) (hp:kI h (n+1) lo.isSome hi.isSome v as=some (h',r)) (hr:C9 C γ0 w0 γ Z U h a w):FU C γ0 w0 o a w (U.put o.dst (.val r)) h':=by
 have qF:=DY hr hv;obtain⟨u,us,c,hx,nc⟩:=qF;simp only[Bk,E1] at c;obtain⟨rfl,rfl⟩:=c;unfold kI at hp;split at hp
 .rename_i id off k z;split at hp
  .rename_i cs hcs;split at hp
   .rename_i HS;obtain⟨rfl,b,aD1⟩:=HS;obtain⟨g,cap,hg,JK,yb,jh,UY⟩:=(show BO γ _ _ from hx);cases hb:DX lo.isSome hi.isSome ((cs.length-off)/(n+1)) as with
    |none=>rw[hb] at hp;cases hp
    |some m=>
     obtain⟨l,q⟩:=m;rw[hb] at hp;simp only[Ct] at hp;split at hp
     .rename_i hlt;cases hp;obtain⟨us,c,fr,j,pf,i,E⟩:=hr.D3.cells id cs hcs g hg;obtain⟨⟨jg,B,s,d,D⟩,_⟩:=hr.D3.sz g _ UY;rw[j] at d;cases d;have j8:cs.length<=us.size:=by have:=i.length;simp at this;omega
      have lI:(cs.length-off)/(n+1)<=cap:=by refine Nat.div_le_of_le_mul ?_;rw[Nat.mul_comm];omega
      have f:∀y:Option Operand,(y.map a.eval).isSome=y.isSome:=λy=>by cases y<;>rfl
      have A:(lo.map a.eval).toList++(hi.map a.eval).toList=(lo.toList++hi.toList).map a.eval:=by cases lo<;>cases hi<;>rfl
      rw[<-f lo,<-f hi] at hb;obtain⟨p,G,F⟩:=KH (P:=C.P) (w:=w) (isSlice:=true) hb (by rw[A];exact nc) lI;have No:Instr.sliceBounds true k cap (lo.map a.eval) (hi.map a.eval) none=Instr.sliceBounds true ((cs.length-off)/(n+1)) cap (lo.map a.eval) (hi.map a.eval) none:=by
       cases hi with
       |none=>cases b
       |some y=>rfl
      have Gg:C.P.underlying t=some (.slice (C.P.elem t)):=by simp[Program.elem,ht]
      have he:C.P.elem t=e:=by simp[Program.elem,ht]
      have A0:(Instr.sliceAt t (a.eval x) (lo.map a.eval) (hi.map a.eval) none).run C.P w= .ok (.slice (some ⟨g,off+l*(n+1),none⟩) (q-l) (cap-l)) w:=by rw[JK,run_sliceAt_slice w t _ _ _ _ Gg,run_slice_any w t _ _ _ Gg,No,p,he,Result.andThen_ok,DN KW];show Result.ok (Value.slice (if cap=l then some ⟨g,off,none⟩ else Option.map (λq:Addr=>q.add (l*(n+1))) (some ⟨g,off,none⟩)) (q-l) (cap-l)) w=_;rw[Ac Ab];simp only[B9];unfold Addr.add;split<;>simp_all
      refine FU.value (by simp only[execOp,ho];exact DE A0) (hr.put λ_ _=>⟨g,cap-l,hg,rfl,Ab,⟨jh.1,Bu (Nat.sub_le _ _) jh.2⟩,?_⟩);rw[UY,RD,<-BG,aIN Ab]
     .cases hp
   .cases hp
  .cases hp
 .cases hp
def ng{o:Oper}{t e:TypeId}{n:Nat}{x lo hi mx:Operand}{args:List Aa}(ho:o.op= .slice t x (some lo) (some hi) (some mx))(ht:C.P.underlying t=some (.slice e))(KW:B3 C.P e=some (n+1))
  (hv:Bx C U [x,lo,hi,mx]=some args) (hp:Wo (n+1) args=true) (hr:C9 C γ0 w0 γ Z U h a w):FU C γ0 w0 o a w (U.put o.dst .undef) h:=by
 have qF:=DY hr hv;have Gg:C.P.underlying t=some (.slice (C.P.elem t)):=by simp[Program.elem,ht]
 have he:C.P.elem t=e:=by simp[Program.elem,ht]
 have HC:∀(base:Option Addr) (len cap:Nat) (kl kr f:IntKind) (l r m:Int),a.eval x= .slice base len cap->a.eval lo= .int kl l->a.eval hi= .int kr r->a.eval mx= .int f m->0<=l->l<=r->r<=m->m<=cap->FU C γ0 w0 o a w (U.put o.dst .undef) h:=by
  intro base len cap kl kr f l r m A z y u h1 h2 d i;have A0:∃v,(Instr.sliceAt t (a.eval x) (some (a.eval lo)) (some (a.eval hi)) (some (a.eval mx))).run C.P w= .ok v w:=by
   have c:0<=m:=Ab;have b:0<=r:=Ab;have b1:∀code,(Instr.sliceBound (.int f m) cap code).run C.P w= .ok m.toNat w:=λcode=>by simp[Instr.sliceBound,asIntOf,c,i]
   have b2:∀code,(Instr.sliceBound (.int kr r) m.toNat code).run C.P w= .ok r.toNat w:=λcode=>by simp[Instr.sliceBound,asIntOf,b,GW c,d]
   have b3:∀code,(Instr.sliceBound (.int kl l) r.toNat code).run C.P w= .ok l.toNat w:=λcode=>by simp[Instr.sliceBound,asIntOf,h1,GW b,h2]
   rw[A,z,y,u];simp[Instr.sliceAt,Instr.slice,run_underlying ht,Instr.sliceBounds,b1,b2,b3,DN KW]
  obtain⟨v,A0⟩:=A0;exact FU.value (by simp only[execOp,ho];exact DE A0) (hr.put λ_ _=>trivial)
 unfold Wo at hp;split at hp
 .rename_i s _ l _ r _ m;obtain⟨F,q,f1,g1,E,pL,f2,g2,D,p,f3,g3,B,k,f4,j,f5⟩:=qF;subst f5;simp only[Bk,CW] at f1;subst f4;subst f3;subst f2;simp only[E1,MB] at f1;obtain⟨rfl,rfl,rfl,rfl⟩:=f1;split at hp;.simp only[Bq,Cz] at hp;obtain⟨⟨⟨⟨_,h1⟩,h2⟩,d⟩,i⟩:=hp;obtain⟨g,cap,hg,JK,yb,_⟩:=(show BO γ _ _ from g1);exact HC _ _ _ _ _ _ _ _ _ JK (Ew g2) (Ew g3) (Ew j) h1 h2 d Ab
  .simp only[Bq,Cz] at hp;obtain⟨⟨⟨⟨_,h1⟩,h2⟩,d⟩,i⟩:=hp;obtain⟨G,cap,JK,yb,_⟩:=(show BO γ _ _ from g1);exact HC _ _ _ _ _ _ _ _ _ JK (Ew g2) (Ew g3) (Ew j) h1 h2 d Ab
  .cases hp
 .cases hp
def nh{o:Oper}{t:TypeId}{x:Operand}{v:Aa}{u:TypeDesc}(ho:o.op= .makeInterface t x)(ht:C.P.underlying t=some u)(hn:∀i,u≠ .interface i)(hv:Bx C U [x]=some [v])(hr:C9 C γ0 w0 γ Z U h a w):FU C γ0 w0 o a w (U.put o.dst (.val (.iface t v))) h:=by
 obtain⟨_,e0,hvs⟩:=GN hr hv;cases e0;have A0:(Instr.makeInterface t (a.eval x)).run C.P w= .ok (.iface t (a.eval x)) w:=by cases u<;>simp_all [Instr.makeInterface,run_underlying ht]
 exact FU.value (by simp only[execOp,ho];exact DE A0) (hr.put λ_ _=>⟨_,rfl,hvs⟩)
def Qa{n:Int}:∀{es:List (Aa×Aa)} {l:List MapEntry} {i:Nat} {r:Option (Nat×Aa)},Lc γ es l->Ly n es i=some r->
  match r with
  |none=>Instr.findNow (.int .i64) (.int .i64 n) l i=some none
  |some (j,v)=>∃(e:MapEntry),Instr.findNow (.int .i64) (.int .i64 n) l i=some (some (j,e.val))/\BO γ v e.val/\i<=j/\l[j-i]?=some e/\e.key= .int .i64 n
 |[],l,i,r,b,hf=>by rw[show l=[] from b];cases hf;rfl
 |(k,v)::es,l,i,r,b,hf=>by
  obtain⟨e,l',rfl,h1,h2,m⟩:=b;cases k with
  |int q t=>
   by_cases hq:q= .i64
   .subst hq;simp only[Ly] at hf;have hk:e.key= .int .i64 t:=h1;split at hf;.rename_i HR;subst HR;cases hf;exact⟨e,by simp[Instr.findNow,hk,Instr.sameNow],h2,Ag _,AH,hk⟩
    .rename_i HR;have aD5:(n==t)=false:=by simpa using HR
     have ih:=Qa (i:=i+1) m hf;cases r with
     |none=>simpa[Instr.findNow,hk,Instr.sameNow,aD5] using ih
     |some p=>obtain⟨j,v2⟩:=p;obtain⟨o,g,f,s,d,c⟩:=ih;refine⟨o,by simpa[Instr.findNow,hk,Instr.sameNow,aD5] using g,f,Ab,?_,c⟩;rw[(Ab:j-i=(j-(i+1))+1),LO];exact d
   .exfalso;cases q<;>first|exact hq rfl|(simp[Ly] at hf)
  |_=>simp[Ly] at hf
def ni{o:Oper}{t kt e:TypeId}{m k:Operand}{g l z r:Aa}{ok:Bool}{h':Ah}(ho:o.op= .lookup t m k ok)(ht:C.P.underlying t=some (.map kt e))(hk:C.P.underlying kt=some (.int .i64))(hz:Ha C.P e=some z)(ha:Bx C U [m,k]=some [g,l])(hm:uX h z ok g l=some (h',r))(hr:C9 C γ0 w0 γ Z U h a w):
  FU C γ0 w0 o a w (U.put o.dst (.val r)) h':=by
 obtain⟨_,_,e0,h1,h2⟩:=Fc hr ha;cases e0;obtain⟨f,jj,d⟩:=H6 hz;have HC:∀(es:Array MapEntry) (q:Option (Nat×Aa)),(Instr.lookup t (a.eval m) (a.eval k) ok).run C.P w=(KZ kt e (a.eval k) ok es).run C.P w->
   ∀n,a.eval k= .int .i64 n->(match q with|none=>Instr.findNow (.int .i64) (.int .i64 n) es.toList 0=some none|some (j,v)=>∃(e:MapEntry),Instr.findNow (.int .i64) (.int .i64 n) es.toList 0=some (some (j,e.val))/\BO γ v e.val/\0<=j/\es.toList[j-0]?=some e/\e.key= .int .i64 n)->
   pH z ok q=r->FU C γ0 w0 o a w (U.put o.dst (.val r)) h:=by
  intro es q Sc n yi hq Uc;have cg:(Instr.checkKey es.isEmpty 10000 kt (.int .i64 n)).run C.P w= .ok () w:=MapKept.run_checkKey (k:= .int .i64 n) hk (by simp[MapKept.IsKey]) es.isEmpty 9999;have A0:∃v,(Instr.lookup t (a.eval m) (a.eval k) ok).run C.P w= .ok v w/\BO γ r v:=by
   cases q with
   |none=>
    refine⟨if ok then .tuple #[f,.bool false] else f,?_,?_⟩;.rw[Sc,yi];unfold KZ;simp only[Sem.run_bind,Result.andThen_ok,cg,MapKept.run_findKey hk hq,d,Sem.run_bind,Sem.run_pure]
    .rw[<-Uc];have c:=Fu (γ:=γ) jj;cases ok with
     |true=>exact⟨_,rfl,_,_,rfl,c,_,_,rfl,rfl,rfl⟩
     |false=>exact c
   |some p=>
    obtain⟨j,v⟩:=p;obtain⟨en,u,s,_⟩:=hq;refine⟨if ok then .tuple #[en.val,.bool true] else en.val,?_,?_⟩;.rw[Sc,yi];unfold KZ;simp only[Sem.run_bind,Result.andThen_ok,cg,MapKept.run_findKey hk u,Sem.run_bind,Sem.run_pure]
    .rw[<-Uc];cases ok with
     |true=>exact⟨_,rfl,_,_,rfl,s,_,_,rfl,rfl,rfl⟩
     |false=>exact s
  obtain⟨v,A0,vN⟩:=A0;exact FU.value (by simp only[execOp,ho];exact DE A0) (hr.put λ_ _=>vN)
 unfold uX at hm;split at hm;.rename_i n;cases hm;exact HC #[] none (by rw[show a.eval m=_ from h1];simp only[Instr.lookup,KZ,Sem.run_bind,run_underlying ht,Result.andThen_ok,Sem.run_pure];rfl) n h2 rfl rfl
 .rename_i id n;obtain⟨b,hb,cf⟩:=h1;split at hm
  .rename_i es Sc;obtain⟨DD,clock,hw,x,_⟩:=hr.D3.map id es Sc b hb;cases hf:Ly n es 0 with
   |none=>rw[hf] at hm;cases hm
   |some q=>
    rw[hf] at hm;simp only[B9,Bz,Ih] at hm;obtain⟨rfl,hm⟩:=hm;refine HC DD q (by rw[cf];simp only[Instr.lookup,KZ,Sem.run_bind,run_underlying ht,MapKept.run_getObj_map hw,Result.andThen_ok,Sem.run_pure];rfl) n h2 ?_ ?_
    .have:=Qa (i:=0) x hf;cases q with
     |none=>exact this
     |some p=>exact this
    .exact hm
  .cases hm
 .cases hm
def Lc.nj{k v:Aa}{e:MapEntry}(hk:BO γ k e.key)(hv:BO γ v e.val):∀{es:List (Aa×Aa)} {l:List MapEntry},Lc γ es l->Lc γ (es++[(k,v)]) (l++[e])
 |[],l,b=>by rw[show l=[] from b];exact⟨e,[],rfl,hk,hv,rfl⟩
 |(k',v')::es,l,b=>by obtain⟨d,l',rfl,h1,h2,c⟩:=b;exact⟨d,_,rfl,h1,h2,Lc.nj hk hv c⟩
def Lc.length:∀{es:List (Aa×Aa)} {l:List MapEntry},Lc γ es l->l.length=es.length
 |[],l,b=>by rw[show l=[] from b];rfl
 |(k',v')::es,l,b=>by obtain⟨d,l',rfl,h1,h2,c⟩:=b;simp[Lc.length c]
def Lc.modify{v:Aa}{u:Value}(hv:BO γ v u):∀{es:List (Aa×Aa)} {l:List MapEntry} {j:Nat} {k v0:Aa},Lc γ es l->es[j]?=some (k,v0)->Lc γ (es.set j (k,v)) (l.modify j λe=>{e with val:=u})
 |[],l,j,k,v0,b,hj=>by simp at hj
 |(k',v')::es,l,j,k,v0,b,hj=>by
  obtain⟨d,l',rfl,h1,h2,c⟩:=b;cases j with
  |zero=>cases hj;exact⟨{d with val:=u},l',AH,h1,hv,c⟩
  |succ j=>exact⟨d,l'.modify j _,AH,h1,h2,Lc.modify hv c (by simpa using hj)⟩
def lJ{es:Array MapEntry}{j:Nat}{e:MapEntry}{k:Value}(hj:es[j]?=some e)(hk:e.key=k):(es.modify j λe=>{e with key:=k})=es:=by
 apply P0;intro i;rw[M4];split;.rename_i hi;subst hi;rw[hj];simp[<-hk]
 .rfl
def WY{o:Oper}{t kt e:TypeId}{m k:Operand}{kA z r:Aa}{kV:Value}{d:TypeDesc}{h':Ah}{id:Nat}{es:List (Aa×Aa)}{f:Option (Option (Nat×Aa))}(ho:o.op= .mapEntry t m k)(ht:C.P.underlying t=some (.map kt e))(hk:C.P.underlying kt=some d)(n:MapKept.IsKey d kV)(hz:Ha C.P e=some z)
  (h1:BO γ (.map (some id)) (a.eval m)) (g:a.eval k=kV) (u:BO γ kA kV) (Sc:h[id]?=some (.map es))
  (hq:∀(l:List MapEntry) q,Lc γ es l->f=some q->match q with
   |none=>Instr.findNow d kV l 0=some none
   |some (j,v)=>∃(e:MapEntry),Instr.findNow d kV l 0=some (some (j,e.val))/\BO γ v e.val/\0<=j/\l[j-0]?=some e/\e.key=kV)
  (hm:(f.map λr=>match r with
   |some (i,v)=>(h,Aa.tuple [v,.int .i64 i])
   |none=>(h.set id (.map (es++[(kA,z)])),.tuple [z,.int .i64 es.length]))=some (h',r)) (hr:C9 C γ0 w0 γ Z U h a w):
  FU C γ0 w0 o a w (U.put o.dst (.val r)) h':=by
 obtain⟨c,jj,s⟩:=H6 hz;obtain⟨b,hb,cf⟩:=h1;obtain⟨DD,clock,hw,x,hB⟩:=hr.D3.map id es Sc b hb;have cg:(Instr.checkKey false 10000 kt kV).run C.P w= .ok () w:=MapKept.run_checkKey (k:=kV) hk n false 9999;cases f with
 |none=>cases hm
 |some q=>
  have hq:=hq DD.toList q x rfl;cases q with
  |none=>
   simp only[B9,Bz,Ih] at hm;obtain⟨rfl,rfl⟩:=hm;have A0:(Instr.mapEntry t (a.eval m) (a.eval k)).run C.P w= .ok (.tuple #[c,goInt clock]) {w with heap:=w.heap.setIfInBounds b (.map (DD.push {key:=kV,val:=c,born:=clock}) (clock+1))}:=by rw[cf,g];simp[Instr.mapEntry,run_underlying ht,MapKept.run_getObj_map hw,cg,MapKept.run_findKey hk hq,s,MapKept.run_setObj_map _ hw,Result.andThen]
   obtain⟨hi,Kf⟩:=Nt (UQ:=es++[(kA,z)]) (ents':=DD.push {key:=kV,val:=c,born:=clock}) (clock':=clock+1) hr.D3 Sc hb hw ⟨by have:=Lc.nj (γ:=γ) (k:=kA) (v:=z) (e:={key:=kV,val:=c,born:=clock}) u (Fu jj) x;simpa using this,Tr hB⟩
   refine FU.value (by simp only[execOp,ho];exact DE A0) ((hr.Jb hi Kf).put λ_ _=>⟨_,rfl,c,_,rfl,Fu jj,_,[],rfl,?_,rfl⟩);rw[hB.1];have:=x.length;simp only[Cg] at this;rw[<-this];rfl
  |some p=>
   obtain⟨j,v⟩:=p;simp only[B9,Bz,Ih] at hm;obtain⟨rfl,rfl⟩:=hm;obtain⟨en,D,B,_,A,y⟩:=hq;have hj:DD[j]?=some en:=by simpa using A
   have aD6:=hB.2 j en hj;have ct:w.heap.setIfInBounds b (.map DD clock)=w.heap:=by
    apply P0;intro i;rw[Array.getElem?_setIfInBounds];split;.rename_i hi;subst hi;have hlt:=(A5.1 hw).1;rw[Ae hlt,hw]
    .rfl
   have A0:(Instr.mapEntry t (a.eval m) (a.eval k)).run C.P w= .ok (.tuple #[en.val,goInt j]) w:=by rw[cf,g];simp[Instr.mapEntry,run_underlying ht,MapKept.run_getObj_map hw,cg,MapKept.run_findKey hk D,hj,y,MapKept.run_keyThatStays (d:=d) (k:=kV) n,MapKept.run_setObj_map _ hw,Result.andThen,aD6,lJ hj y,ct]
   exact FU.value (by simp only[execOp,ho];exact DE A0) (hr.put λ_ _=>⟨_,rfl,_,_,rfl,B,_,[],rfl,rfl,rfl⟩)
def qI{o:Oper}{t kt e:TypeId}{m k:Operand}{b c z r:Aa}{h':Ah}(ho:o.op= .mapEntry t m k)(ht:C.P.underlying t=some (.map kt e))(hk:C.P.underlying kt=some (.int .i64))(hz:Ha C.P e=some z)(ha:Bx C U [m,k]=some [b,c])(hm:Vs h z b c=some (h',r))(hr:C9 C γ0 w0 γ Z U h a w):
  FU C γ0 w0 o a w (U.put o.dst (.val r)) h':=by
 obtain⟨_,_,e0,h1,h2⟩:=Fc hr ha;cases e0;unfold Vs at hm;split at hm
 .rename_i id n;split at hm;.rename_i es Sc;exact WY (kA:= .int .i64 n) (kV:= .int .i64 n) ho ht hk (by simp[MapKept.IsKey]) hz h1 h2 rfl Sc (λl q d hf=>Qa (i:=0) d hf) hm hr
  .cases hm
 .cases hm
def ZR{s:Ao}:∀{es:List (Aa×Aa)} {l:List MapEntry} {i:Nat} {r:Option (Nat×Aa)},Lc γ es l->Wp s es i=some r->
  match r with
  |none=>Instr.findNow .string (.string ⟨⟨s⟩⟩) l i=some none
  |some (j,v)=>∃(e:MapEntry),Instr.findNow .string (.string ⟨⟨s⟩⟩) l i=some (some (j,e.val))/\BO γ v e.val/\i<=j/\l[j-i]?=some e/\e.key= .string ⟨⟨s⟩⟩
 |[],l,i,r,b,hf=>by rw[show l=[] from b];cases hf;rfl
 |(k,v)::es,l,i,r,b,hf=>by
  obtain⟨e,l',rfl,h1,h2,m⟩:=b;cases k with
  |str t=>
   simp only[Wp] at hf;have hk:e.key= .string ⟨⟨t⟩⟩:=h1;split at hf;.rename_i HR;subst HR;cases hf;exact⟨e,by simp[Instr.findNow,hk,Instr.sameNow,Rf],h2,Ag _,AH,hk⟩
   .rename_i HR;have ih:=ZR (i:=i+1) m hf;have hne:=WW HR;cases r with
    |none=>simpa[Instr.findNow,hk,Instr.sameNow,hne] using ih
    |some p=>obtain⟨j,v2⟩:=p;obtain⟨n,g,f,o,d,c⟩:=ih;refine⟨n,by simpa[Instr.findNow,hk,Instr.sameNow,hne] using g,f,Ab,?_,c⟩;rw[(Ab:j-i=(j-(i+1))+1),LO];exact d
  |_=>simp[Wp] at hf
def qJ{o:Oper}{t kt e:TypeId}{m k:Operand}{b c z r:Aa}{h':Ah}(ho:o.op= .mapEntry t m k)(ht:C.P.underlying t=some (.map kt e))(hk:C.P.underlying kt=some .string)(hz:Ha C.P e=some z)(ha:Bx C U [m,k]=some [b,c])(hm:bJ h z b c=some (h',r))(hr:C9 C γ0 w0 γ Z U h a w):
  FU C γ0 w0 o a w (U.put o.dst (.val r)) h':=by
 obtain⟨_,_,e0,h1,h2⟩:=Fc hr ha;cases e0;unfold bJ at hm;split at hm
 .rename_i id n;split at hm;.rename_i es Sc;exact WY (kA:= .str n) (kV:= .string ⟨⟨n⟩⟩) ho ht hk (by simp[MapKept.IsKey]) hz h1 h2 rfl Sc (λl q d hf=>ZR (i:=0) d hf) hm hr
  .cases hm
 .cases hm
def lK{o:Oper}{t kt e:TypeId}{m k x:Operand}{f g c r:Aa}{h':Ah}(ho:o.op= .insert t m k x\/o.op= .mapUpdate t m k x)(hd:o.dst=none)(ht:C.P.underlying t=some (.map kt e))(hk:C.P.underlying kt=some (.int .i64))(ha:Bx C U [m,k,x]=some [f,g,c])
  (hm:jz h f g c=some (h',r)) (hr:C9 C γ0 w0 γ Z U h a w):FU C γ0 w0 o a w U h':=by
 obtain⟨h1,h2,l⟩:=Rg hr ha;have MJ:∀w',(Instr.mapUpdate t (a.eval m) (a.eval k) (a.eval x)).run C.P w= .ok () w'->(execOp a.eval o).run C.P w= .ok .skip w':=λw' A0=>by rcases ho with ho|ho<;>simp[execOp,ho,A0]
 unfold jz at hm;split at hm
 .rename_i id n;obtain⟨b,hb,cf⟩:=h1;have d:a.eval k= .int .i64 n:=h2;split at hm
  .rename_i es Sc;obtain⟨DD,clock,hw,j,hB⟩:=hr.D3.map id es Sc b hb;have cg:(Instr.checkKey false 10000 kt (.int .i64 n)).run C.P w= .ok () w:=MapKept.run_checkKey (k:= .int .i64 n) hk (by simp[MapKept.IsKey]) false 9999;split at hm
   .rename_i hf;cases hm;have hq:=Qa (i:=0) j hf;have A0:(Instr.mapUpdate t (a.eval m) (a.eval k) (a.eval x)).run C.P w= .ok () {w with heap:=w.heap.setIfInBounds b (.map (DD.push {key:= .int .i64 n,val:=a.eval x,born:=clock}) (clock+1))}:=by rw[cf,d];simp[Instr.mapUpdate,run_underlying ht,MapKept.run_getObj_map hw,cg,MapKept.run_findKey hk hq,MapKept.run_setObj_map _ hw,Result.andThen]
    obtain⟨hi,Kf⟩:=Nt (UQ:=es++[(.int .i64 n,c)]) (ents':=DD.push {key:= .int .i64 n,val:=a.eval x,born:=clock}) (clock':=clock+1) hr.D3 Sc hb hw ⟨by have:=Lc.nj (γ:=γ) (k:= .int .i64 n) (v:=c) (e:={key:= .int .i64 n,val:=a.eval x,born:=clock}) rfl l j;simpa using this,Tr hB⟩
    exact FU.skip (MJ _ A0) (by rw[hd];exact hr.Jb hi Kf)
   .cases hm
  .cases hm
 .cases hm
def cA{es:Array MapEntry}(hB:∀(i:Nat) (e:MapEntry),es[i]?=some e->e.born=i){j:Nat}{e:MapEntry}(hj:es[j]?=some e):es.findIdx? (λe=>(e.born:Int)==(j:Int))=some j:=by
 rw[Array.findIdx?_eq_some_iff_getElem];obtain⟨hl,he⟩:=A5.1 hj;refine⟨hl,?_,λi hi=>?_⟩;.have:=hB j _ (CR hl);simp[this]
 .have:=hB i _ (CR Ab);simp[this];omega
def qK{o:Oper}{t:TypeId}{m s x:Operand}{f vs c r:Aa}{h':Ah}(ho:o.op= .entryStore t m s x)(hd:o.dst=none)(ha:Bx C U [m,s,x]=some [f,vs,c])(hm:Vt h f vs c=some (h',r))(hr:C9 C γ0 w0 γ Z U h a w):FU C γ0 w0 o a w U h':=by
 obtain⟨h1,h2,i⟩:=Rg hr ha;have MJ:∀w',(Instr.entryStore t (a.eval m) (a.eval s) (a.eval x)).run C.P w= .ok () w'->(execOp a.eval o).run C.P w= .ok .skip w':=λw' A0=>by simp[execOp,ho,A0]
 unfold Vt at hm;split at hm
 .rename_i id n;obtain⟨b,hb,cf⟩:=h1;have JK:a.eval s= .int .i64 n:=h2;split at hm
  .rename_i es Sc;split at hm
   .rename_i hn;split at hm
    .rename_i kk v0 hk;cases hm;obtain⟨DD,clock,hw,g,hB⟩:=hr.D3.map id es Sc b hb;have hlen:=g.length;have hlt:=(Al.1 hk).1;have d:∃en,DD[n.toNat]?=some en:=⟨DD[n.toNat]'(by simp at hlen;omega),CR _⟩;obtain⟨en,hj⟩:=d;have vJ:((n.toNat:Nat):Int)=n:=Ab;have aD7:=cA hB.2 hj;rw[vJ] at aD7;have A0:(Instr.entryStore t (a.eval m) (a.eval s) (a.eval x)).run C.P w= .ok () {w with heap:=w.heap.setIfInBounds b (.map (DD.modify n.toNat λe=>{e with val:=a.eval x}) clock)}:=by rw[cf,JK];simp[Instr.entryStore,MapKept.run_getObj_map hw,asInt,asIntOf,aD7,MapKept.run_setObj_map _ hw,Result.andThen]
     obtain⟨hi,Kf⟩:=Nt (UQ:=es.set n.toNat (kk,c)) (ents':=DD.modify n.toNat λe=>{e with val:=a.eval x}) (clock':=clock) hr.D3 Sc hb hw ⟨by have:=Lc.modify i g hk;simpa using this,Ud hB λ_=>rfl⟩
     exact FU.skip (MJ _ A0) (by rw[hd];exact hr.Jb hi Kf)
    .cases hm
   .cases hm
  .cases hm
 .cases hm
end
end Go.Am
end
section
section
namespace Go.Am
open Go
section
variable{C:FW}{γ0 γ γ':Gh}{w0 w w':World}{O:Nat->Nat}{U U':BR}{h h':Ah}{a:Act}{fid:FuncId}{ops:List Oper}
def FU.wp{o:Oper}{K:Act->World->Prop}{Q:Exit->Act->World->Prop}(hs:FU C γ0 w0 o a w U' h')(b:∀γ' c a' w',C9 C γ0 w0 γ' c U' h' a' w'->K a' w'):o.wp C.P a w K Q:=by
 obtain⟨γ',c,w',⟨v,he,hr⟩|⟨he,hr⟩⟩:=hs;.exact Js he (b _ _ _ _ hr)
 .exact pO he (b _ _ _ _ hr)
def Y7{P:Program}{op:BinOp}{t:TypeId}{p:RM}(hp:P5 P op t=some p):p.still=true:=by
 have Ku:∀neg u,Tf P t neg u=some p->p.still=true:=by
  intro neg u h;unfold Tf at h;split at h;.cases h;rfl
  .split at h
   .cases hf:Pb P 20 t with
    |none=>rw[hf] at h;cases h
    |some k=>rw[hf] at h;cases h;rfl
   .cases h
  .split at h<;>cases h;rfl
  .cases h;rfl
  .cases h;rfl
  .cases h;rfl
  .cases h
 unfold P5 at hp;split at hp;.cases hp;rfl
 .cases hp;rfl
 .split at hp;.exact Ku _ _ hp
  .exact Ku _ _ hp
  .cases hp
 .cases hp
def Nu{P:Program}{t:TypeId}{f off:Nat}{sh:Option Nat}(hf:It P t f=some (off,sh))(b o:Nat):(Instr.fieldAt t (.pointer (some ⟨b,o,none⟩)) f).run P w= .ok (.pointer (some ⟨b,o+off,none⟩)) w:=by
 unfold It at hf;split at hf
 .rename_i fs vK;split at hf
  .rename_i fd vL;split at hf;.rename_i n c h1 h2;cases hf;simp[Instr.fieldAt,run_underlying vK,vL,Instr.sureAddr,fieldPlace,DN h1,Addr.add_lit]
   .cases hf
  .cases hf
 .cases hf
def WZ(hr:C9 C γ0 w0 γ O U h a w){s ver:Nat}{cs:List Aa}{ow:List Nat}(hs:Ec C U (.tmp s)=some (.box ver cs ow)):a.eval (.tmp s)= .pointer (some ⟨O s,0,none⟩):=by have h0:=RY hr s;rw[Hd hs] at h0;exact h0.1
def Uf(hr:C9 C γ0 w0 γ O U h a w){x:Operand}{s k:Nat}(hs:Ec C U x=some (.Fk s k)):a.eval x= .pointer (some ⟨O s,k,none⟩):=by obtain⟨t,h1,_⟩:=Gp hr hs;exact h1
def ZS{o:Oper}{t:TypeId}{v:Aa}{d:Nat}{r:EJ}{run:IT->Ah->Option J6}(hb:T5 C fid t v d=some r)(F9:r.Np C run (U.drop r.news) h U' h')
  (O9:∀n,C.kind fid d= .O9->v.cells.length=n->n≠0->FU C γ0 w0 o a w ((U.drop [d]).set d (.box 0 v.cells [])) h)
  (heap:v.cells.length≠0->FU C γ0 w0 o a w (U.put (some d) (.val (.ptr (some (h.length,0))))) (h++[.cells v.cells])):FU C γ0 w0 o a w U' h':=by
 unfold T5 at hb;split at hb;.cases hb
 .rename_i n hn;split at hb;.cases hb
  .rename_i b;split at hb;.cases hb;obtain⟨h1,rfl,rfl⟩:=F9;rename_i hk;exact O9 n hk h1 b
   .cases hb;obtain⟨h1,rfl,rfl⟩:=F9;exact heap Ab
def Qb{d s k:Nat}{run:IT->Ah->Option J6}(F9:(EJ.pure [(d,.Fk s k)]).Np C run (U.drop (EJ.pure [(d,.Fk s k)]).news) h U' h'):U'=U.set d (.Fk s k)/\h'=h:=by obtain⟨rfl,rfl⟩:=F9;exact⟨rfl,rfl⟩
def nl{run:IT->Ah->Option J6}(G:Fe C run){o:Oper}{r:EJ}{K:Act->World->Prop}{Q:Exit->Act->World->Prop}(hc:Gl C fid ops U o=some r)(F9:r.Np C run (U.drop r.news) h U' h')(hr:C9 C γ0 w0 γ O U h a w)
  (j:∀γ' T a' w',C9 C γ0 w0 γ' T U' h' a' w'->K a' w'):o.wp C.P a w K Q:=by
 by_cases HR:∃p args dst Bt F,r= .op p args dst Bt F/\p.still=true
 .obtain⟨p,args,dst,Bt,F,rfl,yk⟩:=HR
  obtain⟨L,rfl,rfl,rfl⟩:=bt hc yk hr
  obtain⟨v,hv,rfl,rfl⟩:=F9
  obtain⟨u,R,N⟩:=L v hv
  exact Js R (j _ _ _ _ (hr.put λ_ _=>N))
 .have YN:∀{p args dst},r= .op p args dst false none->p.still=false:=λ{p args dst} he=>by
   cases hp:p.still with
   |false=>rfl
   |true=>exact absurd ⟨p,args,dst,false,none,he,hp⟩ HR
  have HD:∀{p dst x},Tg p dst x=some r->p.still=false:=λ{p dst x} he=>by
   obtain⟨args,_,e⟩:=DZ he
   exact YN e
  unfold Gl at hc
  split at hc
  .rename_i x ho
   split at hc
   .rename_i d hd
    obtain⟨γ',FX⟩:=R2 hc F9 hr
    exact Js (w':=w) (v:=a.eval x) (by simp[execOp,ho]) (j _ _ _ _ (by rw[hd];exact FX))
   .cases hc
  .rename_i x ho
   split at hc
   .rename_i d hd
    obtain⟨γ',FX⟩:=R2 hc F9 hr
    exact Js (w':=w) (v:=a.eval x) (by simp[execOp,ho]) (j _ _ _ _ (by rw[hd];exact FX))
   .cases hc
  .rename_i c x y ho
   split at hc
   .rename_i d hcs hd
    obtain⟨γ',FX⟩:=R2 hc F9 hr
    obtain⟨s,h1,_⟩:=Gp hr hcs
    have h1:a.eval c= .bool true:=h1
    exact Js (w':=w) (v:=a.eval x) (by simp[execOp,ho,h1,asBool]) (j _ _ _ _ (by rw[hd];exact FX))
   .rename_i d hcs hd
    obtain⟨γ',FX⟩:=R2 hc F9 hr
    obtain⟨s,h1,_⟩:=Gp hr hcs
    have h1:a.eval c= .bool false:=h1
    exact Js (w':=w) (v:=a.eval y) (by simp[execOp,ho,h1,asBool]) (j _ _ _ _ (by rw[hd];exact FX))
   .cases HD hc
  .rename_i t ho
   split at hc
   .rename_i d z hd hz
    split at hc
    .split at hc
     .rename_i HS
      cases hc
      obtain⟨rfl,rfl⟩:=F9
      exact(WJ ho hd hz HS.2 hr).wp j
     .cases hc
    .rename_i hk
     refine(ZS (o:=o) (a:=a) (w:=w) (γ0:=γ0) (w0:=w0) hc F9 (λn h0 h1 h2=>absurd h0 (by simpa using hk)) λh1=>WK ho hd hz h1 hr).wp j
   .cases hc
  .rename_i t x ho
   split at hc
   .rename_i d v hd hv
    exact(ZS (o:=o) (a:=a) (w:=w) (γ0:=γ0) (w0:=w0) hc F9 (λn _ h1 h2=>bU ho hd hv h1 h2 hr) λh1=>bV ho hd hv h1 hr).wp j
   .cases hc
  .split at hc
   .split at hc
    .cases HD hc
    .cases hc
   .cases hc
  .rename_i t len parts ho
   split at hc
   .rename_i e ht
    split at hc
    .rename_i n hn
     split at hc
     .rename_i HS
      split at hc
      .rename_i hlen
       cases hc
       obtain⟨v,hv,rfl,rfl⟩:=F9
       cases hv
       exact(mh ho ht hn HS.1 HS.2 hlen.1 hr).wp j
      cases ha:Bx C U (parts.toList.map (·.2)) with
      |none=>rw[ha] at hc;cases hc
      |some args=>
       rw[ha] at hc;cases hc
       obtain⟨v,hv,rfl,rfl⟩:=F9
       exact(mg ho ht hn HS.1 HS.2 ha hv hr).wp j
     .cases hc
    .cases hc
   .cases hc
  .rename_i t x ho
   split at hc
   .rename_i d hd
    by_cases hp:∃ws,r= .pure ws
    .exact(Y3 ho hd hc hp F9 hr).wp j
    .unfold LA at hc
     split at hc
     .rename_i n p ht hx
      cases hc
      obtain⟨v,hv,rfl,rfl⟩:=F9
      have hs:=mc ho ht hx hv hr
      rw[hd] at hs
      exact hs.wp j
     .split at hc
      .simp only at hc
       split at hc<;>(cases hc;exact absurd ⟨_,rfl⟩ hp)
      .cases hc
     .split at hc
      .cases hc;exact absurd ⟨_,rfl⟩ hp
      .cases hc
     .cases hc
   .cases hc
  .rename_i t x y ho
   split at hc
   .rename_i hd
    have KI:=hc
    unfold JC at hc
    split at hc
    .rename_i n p v KW hx hv
     cases hc
     obtain⟨aJc,rfl⟩:=F9
     exact(bu ho hd KW hx hv aJc hr).wp j
    .split at hc
     .cases hc
      exact(qC ho hd KI F9 hr).wp j
     .cases hc
    .cases hc
   .cases hc
  .rename_i x ho
   split at hc
   .rename_i s ver cs ow d hd hs
    cases hc
    obtain⟨rfl,rfl⟩:=Qb F9
    have he:=WZ hr hs
    exact Js (w':=w) (v:= .pointer (some ⟨O s,0,none⟩)) (by simp[execOp,ho,he]) (j _ _ _ _ (by rw[hd];exact hr.put (d:=some d) λ_ _=>rfl))
   .rename_i s k d hd hs
    cases hc
    obtain⟨rfl,rfl⟩:=Qb F9
    have he:=Uf hr hs
    exact Js (w':=w) (v:= .pointer (some ⟨O s,k,none⟩)) (by simp[execOp,ho,he]) (j _ _ _ _ (by rw[hd];exact hr.put (d:=some d) λ_ _=>rfl))
   .cases HD hc
  .split at hc
   .rename_i p hp
    have yk:=HD hc
    rw[Y7 hp] at yk
    cases yk
   .cases hc
  .cases HD hc
  .rename_i src aIU x ho
   split at hc
   .rename_i hq
    unfold Wu at hq
    cases hv:E5 C U x with
    |none=>rw[hv] at hc;cases hc
    |some v=>
     rw[hv] at hc;cases hc
     split at hq
     .cases hq
     .cases hq
     .cases hq
     .rename_i e hs hd
      split at hq
      .rename_i he
       obtain⟨v',u,h1,h2,rfl⟩:=F9
       exact(yd ho hs hd he hv h1 h2 hr).wp j
      .cases hq
     .split at hq<;>cases hq
     .cases hq
   .rename_i hq
    unfold Wu at hq
    split at hq
    .cases hq
    .cases hq
    .cases hq
    .split at hq<;>cases hq
    .rename_i e hs hd
     split at hq
     .rename_i he _ _
      split at hc
      .cases hv:E5 C U x with
       |none=>rw[hv] at hc;cases hc
       |some v=>
        rw[hv] at hc;cases hc
        obtain⟨u,h1,rfl⟩:=F9
        exact(bZ ho hs hd he hv h1 hr).wp j
      .obtain⟨args,ha,rfl⟩:=DZ hc
       obtain⟨u,h1,rfl,rfl⟩:=F9
       obtain⟨v,rfl,_⟩:=GN hr ha
       exact(yc ho hs hd he ha h1 hr).wp j
     .cases hq
    .cases hq
   .rename_i p Na Tb hq
    have yk:=HD hc
    unfold Wu at hq
    split at hq
    .cases hq;cases yk
    .cases hq;cases yk
    .cases hq
    .split at hq
     .cases hq;exact absurd rfl Na
     .cases hq
    .split at hq
     .cases hq;exact absurd rfl Tb
     .cases hq
    .cases hq
   .cases hc
  .rename_i fn first captured ho
   split at hc
   .rename_i d as bs fz hd ha hb
    cases hc
    obtain⟨rfl,rfl⟩:=F9
    exact(kZ ho hd ha hb hr).wp j
   .cases hc
  .rename_i t ho
   cases hc
   obtain⟨rfl,rfl⟩:=F9
   exact(mq ho hr).wp j
  .rename_i t l c ho
   split at hc
   .rename_i e ht
    split at hc
    .rename_i n b z V vc hn hb hz hl Vz
     cases hc
     obtain⟨v,h1,rfl⟩:=F9
     exact(mm ho ht hn hb hz hl Vz h1 hr).wp j
    .cases hc
   .cases hc
  .rename_i t m k x ho
   split at hc
   .rename_i kt e ht
    split at hc
    .rename_i D E I hd hk ha
     cases hc
     obtain⟨h1,rfl⟩:=F9
     exact(lD (.inl ho) hd ht hk ha h1 hr).wp j
    .rename_i D E I hd hk ha
     cases hc
     obtain⟨v,h1,rfl⟩:=F9
     exact(lK (.inl ho) hd ht hk ha h1 hr).wp j
    .cases hc
   .cases hc
  .rename_i t m k x ho
   split at hc
   .rename_i kt e ht
    split at hc
    .rename_i D E I hd hk ha
     cases hc
     obtain⟨h1,rfl⟩:=F9
     exact(lD (.inr ho) hd ht hk ha h1 hr).wp j
    .rename_i D E I hd hk ha
     cases hc
     obtain⟨v,h1,rfl⟩:=F9
     exact(lK (.inr ho) hd ht hk ha h1 hr).wp j
    .cases hc
   .cases hc
  .rename_i t m k ok ho
   split at hc
   .rename_i kt e ht
    split at hc
    .rename_i z D E hk hz ha
     cases hc
     obtain⟨v,h1,rfl,rfl⟩:=F9
     exact(mr ho ht hk hz ha h1 hr).wp j
    .rename_i z D E hk hz ha
     cases hc
     obtain⟨v,h1,rfl⟩:=F9
     exact(ni ho ht hk hz ha h1 hr).wp j
    .cases hc
   .cases hc
  .rename_i t x lo hi mx ho
   split at hc
   .rename_i e ht
    split at hc
    .rename_i n hn
     obtain⟨args,ha,rfl⟩:=Ht hc
     obtain⟨v,h1,rfl⟩:=F9
     simp only[E4] at h1
     split at h1
     .rename_i J
      cases h1
      exact(ng ho ht hn ha J hr).wp j
     .cases h1
    .cases hc
   .cases hc
  .rename_i t x ho
   split at hc
   .cases hc
   .rename_i u hu ht
    obtain⟨args,ha,rfl⟩:=Ht hc
    obtain⟨v,h1,rfl⟩:=F9
    obtain⟨y,rfl,_⟩:=GN hr ha
    cases h1
    exact(nh ho ht (λi e=>hu i e) ha hr).wp j
   .cases hc
  .rename_i t m k ho
   split at hc
   .rename_i kt e ht
    split at hc
    .rename_i z hk hz
     obtain⟨args,ha,rfl⟩:=Ht hc
     obtain⟨v,h1,rfl⟩:=F9
     obtain⟨A,B,rfl,_,_⟩:=Fc hr ha
     exact(qI ho ht hk hz ha h1 hr).wp j
    .rename_i z hk hz
     obtain⟨args,ha,rfl⟩:=Ht hc
     obtain⟨v,h1,rfl⟩:=F9
     obtain⟨A,B,rfl,_,_⟩:=Fc hr ha
     exact(qJ ho ht hk hz ha h1 hr).wp j
    .cases hc
   .cases hc
  .rename_i t m s x ho
   split at hc
   .rename_i hd
    obtain⟨args,ha,rfl⟩:=Ht hc
    obtain⟨v,h1,rfl⟩:=F9
    obtain⟨A,B,H,rfl⟩:∃A B H,args=[A,B,H]:=by
     have:=DY hr ha
     cases args with
     |nil=>cases h1
     |cons A l1=>cases l1 with
      |nil=>cases h1
      |cons B S=>cases S with
       |nil=>cases h1
       |cons H l3=>cases l3 with
        |nil=>exact⟨_,_,_,rfl⟩
        |cons _ _=>cases h1
    exact(qK ho hd ha h1 hr).wp j
   .cases hc
  .rename_i t x lo hi ho
   split at hc
   .cases HD hc
   .rename_i e ht
    split at hc
    .rename_i n hn
     split at hc
     .obtain⟨args,ha,rfl⟩:=Ht hc
      obtain⟨v,h1,rfl⟩:=F9
      cases args with
      |nil=>cases h1
      |cons y l=>exact(m_ ho ht hn ha h1 hr).wp j
     .cases HD hc
    .cases hc
   .cases hc
  .rename_i t x f ho
   split at hc
   .rename_i off sh d hf hd
    split at hc
    .rename_i s ver cs ow hs
     cases hc
     obtain⟨rfl,rfl⟩:=Qb F9
     have he:=WZ hr hs
     exact Js (w':=w) (v:= .pointer (some ⟨O s,off,none⟩)) (by simp only[execOp,ho,he];exact EW (by rw[Nu hf];simp)) (j _ _ _ _ (by rw[hd];exact hr.put (d:=some d) λ_ _=>rfl))
    .rename_i s k hs
     cases hc
     obtain⟨rfl,rfl⟩:=Qb F9
     have he:=Uf hr hs
     exact Js (w':=w) (v:= .pointer (some ⟨O s,k+off,none⟩)) (by simp only[execOp,ho,he];exact EW (Nu hf _ _)) (j _ _ _ _ (by rw[hd];exact hr.put (d:=some d) λ_ _=>rfl))
    .cases HD hc
   .cases hc
  .split at hc
   .cases HD hc
   .cases hc
  .split at hc
   .split at hc
    .cases HD hc
    .cases hc
   .split at hc
    .split at hc
     .cases hc
     .cases HD hc
    .cases hc
   .cases hc
  .split at hc
   .cases HD hc
   .split at hc
    .cases HD hc
    .cases hc
   .cases hc
  .cases HD hc
  .rename_i c ho
   unfold Q6 at hc
   split at hc
   .split at hc
    .split at hc
     .cases HD hc
     .cases HD hc
     .cases hc
    .cases hc
   .rename_i hcl
    split at hc
    .rename_i t t' s x h0 h1 EM
     split at hc
     all_goals first
      |(cases hc;done)
      | (rename_i e _ ht Gg
         split at hc
         . rename_i n b hn hb
           split at hc
           . rename_i j9
             split at hc
             . rename_i v u ha
               split at hc
               . rename_i FF
                 split at hc
                 . cases hc
                   obtain ⟨r', q, rfl⟩ := F9
                   exact (cj ho hcl h0 h1 EM ht (by first | exact .inl ⟨_, Gg⟩ | exact .inr Gg) hn hb FF j9 ha q hr).wp j
                 . split at hc
                   . cases hc
                     obtain ⟨r', q, rfl, rfl⟩ := F9
                     exact (lB ho hcl h0 h1 EM ht (by first | exact .inl ⟨_, Gg⟩ | exact .inr Gg) hn hb FF j9 ha q hr).wp j
                   . cases hc
                     obtain ⟨r', q, rfl, rfl⟩ := F9
                     exact (qE ho hcl h0 h1 EM ht (by first | exact .inl ⟨_, Gg⟩ | exact .inr Gg) hn hb FF j9 ha q hr).wp j
               . split at hc
                 . cases hc
                   obtain ⟨r', q, rfl⟩ := F9
                   exact (mw ho hcl h0 h1 EM ht (by first | exact .inl ⟨_, Gg⟩ | exact .inr Gg) hn hb j9 ha q hr).wp j
                 . cases hc
             . cases hc
           . cases hc
         . cases hc)
    .cases hc
   .rename_i hcl
    split at hc
    .rename_i t t' s x h0 h1 EM
     split at hc
     all_goals first
      |(cases hc;done)
      | (rename_i e _ ht Gg
         split at hc
         . rename_i n hn
           obtain ⟨args, ha, rfl⟩ := Ht hc
           obtain ⟨v, q, rfl⟩ := F9
           obtain ⟨A, B, rfl, _, _⟩ := Fc hr ha
           exact (mz ho hcl h0 h1 EM ht (by first | exact .inl ⟨_, Gg⟩ | exact .inr Gg) hn ha q hr).wp j
         . cases hc)
    .cases hc
   .rename_i hcl
    split at hc
    .rename_i t s h0 EM
     split at hc
     .rename_i e ht
      split at hc
      .rename_i n z hn hz
       obtain⟨args,ha,rfl⟩:=Ht hc
       obtain⟨v,q,rfl⟩:=F9
       obtain⟨A,rfl,_⟩:=GN hr ha
       exact(cr ho hcl h0 EM ht hn hz ha q hr).wp j
      .cases hc
     .cases hc
    .cases hc
   .split at hc
    .cases HD hc
    .cases hc
   .split at hc
    .cases HD hc
    .cases hc
   .rename_i f hcl
    split at hc
    .rename_i hf
     split at hc
     .rename_i s i x EM
      split at hc
      .rename_i FF
       obtain⟨args,ha,rfl⟩:=Ht hc
       obtain⟨v,q,rfl⟩:=F9
       exact ye G ho hcl hf EM FF ha q hr λγ' v w' FX=>j _ _ _ _ FX
      .cases hc
     .cases hc
    split at hc
    rotate_left
    .cases hc
    rename_i Uc
    rw[<-Uc] at hcl
    cases ha:Bx C U c.args.toList with
    |none=>rw[ha] at hc;cases hc
    |some args=>
     rw[ha] at hc
     simp only[B9,Bz] at hc
     split at hc
     .cases hc
      obtain⟨Ho,M,h1,h2,q,rfl,rfl⟩:=F9
      exact bz G ho hcl ha Ho h2 q hr λγ' v w' FX=>j _ _ _ _ FX
     .cases hc
      obtain⟨M,h1,rfl⟩:=F9
      exact mo G ho hcl ha h1 hr λγ' v w' FX=>j _ _ _ _ FX
   .rename_i g hn hcl
    split at hc
    .rename_i W args hg ha
     cases hc
     obtain⟨f,args',M,h0,h1,rfl⟩:=F9
     exact b_ G ho hcl hg ha h0 h1 hr λγ' v w' FX=>j _ _ _ _ FX
    .cases hc
   .cases hc
  .cases hc
end
end Go.Am
end
section
namespace Go.Am
open Go
section
variable{C:FW}{U Z:BR}{fid:FuncId}{ops:List Oper}
def cB{x:Operand}(h:∀t,x= .tmp t->Z.at t=U.at t):Ec C Z x=Ec C U x:=by
 cases x with
 |tmp t=>simp only[Ec,h t rfl]
 |const v=>
  cases v with
  |slice a b c=>cases a<;>cases b<;>cases c<;>rfl
  |_=>rfl
 |global g=>rfl
 |func f=>rfl
def VB(C:FW)(U Z:BR)(xs:List Operand):Prop:=∀x∈xs,Ec C Z x=Ec C U x
def VB.vS{xs:List Operand}(h:∀t∈Kb xs,Z.at t=U.at t):VB C U Z xs:=λx hx=>cB λt ht=>h t (by subst ht;exact Ci.2 ⟨_,hx,rfl⟩)
def VB.val{xs:List Operand}(h:VB C U Z xs){x:Operand}(hx:x∈xs):E5 C Z x=E5 C U x:=by unfold E5;rw[h x hx]
def VB.KJ{xs:List Operand}(h:VB C U Z xs):∀{ys:List Operand},(∀y∈ys,y∈xs)->Bx C Z ys=Bx C U ys
 |[],_=>rfl
 |y::ys,hy=>by unfold Bx;rw[h.val (hy y AH),h.KJ λz hz=>hy z (by simp[hz])]
def VB.move{xs:List Operand}(h:VB C U Z xs){x:Operand}(hx:x∈xs)(d:Nat)(take:Bool):KG C Z x d take=KG C U x d take:=by unfold KG;rw[h x hx]
def VB.Bt{xs:List Operand}(h:VB C U Z xs){x:Operand}(hx:x∈xs):La C Z x=La C U x:=by unfold La;rw[h x hx]
def VB.DL{xs:List Operand}(h:VB C U Z xs){x:Operand}(hx:x∈xs):Dj Z x=Dj U x:=by
 cases x with
 |tmp t=>have:=h _ hx;simp only[Ec,Bz] at this;simp only[Dj,this]
 |_=>rfl
def VB.Gk{xs:List Operand}(h:VB C U Z xs):∀{ys:List Operand},(∀y∈ys,y∈xs)->Am.Gk C Z ys=Am.Gk C U ys
 |[],_=>rfl
 |y::ys,hy=>by unfold Am.Gk;rw[h y (hy y AH),h.Gk λz hz=>hy z (by simp[hz])]
def VB.addr{xs:List Operand}(h:VB C U Z xs){x:Operand}(hx:x∈xs)(hb:∀s∈(N1 C U x).toList,Z.at s=U.at s)(hn:Gj C U x≠none):Gj C Z x=Gj C U x:=by
 have NY:=h x hx;cases hs:Ec C U x with
 |none=>unfold Gj at hn;rw[hs] at hn;exact absurd (by split<;>simp_all) hn
 |some sl=>
  rw[hs] at NY;cases sl with
  |Fk s o=>
   have h1:∀J:BR,Ec C J x=some (.Fk s o)->Gj C J x=match J.at s with| .box ver cs ow=>some (.O9 s o ver cs ow)|_=>none:=λJ b=>by unfold Gj;rw[b];cases x<;>rfl
   rw[h1 U hs] at hn⊢;rw[h1 Z NY];have h2:s∈(N1 C U x).toList:=by
    unfold N1;rw[h1 U hs];cases Q9:U.at s with
    |box ver cs ow=>simp
    |_=>rw[Q9] at hn;exact absurd rfl hn
   rw[hb s h2]
  |_=>unfold Gj;rw[hs,NY];cases x<;>rfl
def VB.load{xs:List Operand}(h:VB C U Z xs){x:Operand}(hx:x∈xs)(hb:∀s∈(N1 C U x).toList,Z.at s=U.at s){t:TypeId}{d:Nat}{take:Bool}{r:EJ}(hc:LA C U t x d take=some r):LA C Z t x d take=some r:=by
 have hn:Gj C U x≠none:=λhe=>by unfold LA at hc;rw[he] at hc;split at hc<;>simp_all
 unfold LA at hc⊢;rw[h.addr hx hb hn];exact hc
def VB.store{xs:List Operand}(h:VB C U Z xs){x y:Operand}(hx:x∈xs)(hy:y∈xs)(hb:∀s∈(N1 C U x).toList,Z.at s=U.at s){t:TypeId}{r:EJ}(hc:JC C U t x y=some r):JC C Z t x y=some r:=by
 have hn:Gj C U x≠none:=λhe=>by unfold JC at hc;rw[he] at hc;split at hc<;>simp_all
 unfold JC at hc⊢;rw[h.addr hx hb hn,h.val hy,h.Bt hy,h.DL hy];exact hc
def VB.call{c:Call}(h:VB C U Z c.operands.toList)(dst:Option Nat):Q6 C fid Z c dst=Q6 C fid U c dst:=by
 have ha:∀y∈c.args.toList,y∈c.operands.toList:=λy hy=>by unfold Call.operands;rw[GV];exact BT _ hy
 have hv:Bx C Z c.args.toList=Bx C U c.args.toList:=h.KJ ha;unfold Q6;split;.rw[hv]
 .split
  .rename_i EM;have h1:∀{s x:Operand},c.args.toList=[s,x]->La C Z s=La C U s/\Dj Z s=Dj U s/\Bx C Z [s,x]=Bx C U [s,x]:=λ{s x} he=>by rw[he] at ha;exact⟨h.Bt (ha s AH),h.DL (ha s AH),h.KJ λy hy=>ha y hy⟩
   obtain⟨e,d,b⟩:=h1 EM;rw[e,d,b]
  .rfl
 .split;.rename_i EM;rw[EM] at ha;rw[h.KJ λy hy=>ha y hy]
  .rfl
 .split;.rename_i EM;rw[EM] at ha;rw[h.KJ λy hy=>ha y hy]
  .rfl
 .rw[hv]
 .rw[hv]
 .split
  .split;.rename_i s i v EM;rw[EM] at ha;rw[h.Bt (ha v AH),h.KJ λy hy=>ha y hy]
   .rfl
  .rw[hv]
 .rename_i g _ hcl;have hg:g∈c.operands.toList:=by unfold Call.operands;rw[hcl];simp
  rw[hv,h.val hg]
 .rfl
def W0{o:Oper}{r:EJ}(hc:Gl C fid ops U o=some r)(ht:∀t∈Kb o.op.operands.toList,Z.at t=U.at t)(hb:∀s∈H5 C U o,Z.at s=U.at s):Gl C fid ops Z o=some r:=by
 have h:VB C U Z o.op.operands.toList:= .vS ht
 unfold Gl at hc⊢
 cases ho:o.op with
 |move x=>
  rw[ho] at h
  simp only[ho] at hc⊢
  have:=λd=>h.move (x:=x) IW d
  simpa only[this] using hc
 |assign x=>
  rw[ho] at h
  simp only[ho] at hc⊢
  have:=λd=>h.move (x:=x) IW d
  simpa only[this] using hc
 |pick c a b=>
  rw[ho] at h
  simp only[ho] at hc⊢
  have h1:=λd=>h.move (x:=a) IW d
  have h2:=λd=>h.move (x:=b) IW d
  rw[h c IW,h.KJ (ys:=[c,a,b]) IW]
  simpa only[h1,h2] using hc
 |alloc t=>rw[ho] at hc;exact hc
 |box t x=>
  rw[ho] at h
  simp only[ho] at hc⊢
  rw[h.val (x:=x) IW]
  exact hc
 |build t parts=>
  rw[ho] at h
  simp only[ho] at hc⊢
  rw[h.KJ (ys:=parts.toList.map (·.2)) IW]
  exact hc
 |buildSlice t len parts=>
  rw[ho] at h
  simp only[ho] at hc⊢
  rw[h.KJ (ys:=parts.toList.map (·.2)) IW]
  exact hc
 |load t x=>
  rw[ho] at h
  simp only[ho] at hc⊢
  split at hc
  .exact h.load IW (λs hs=>hb s (by simpa only[H5,ho] using hs)) hc
  .cases hc
 |store t x y=>
  rw[ho] at h
  simp only[ho] at hc⊢
  split at hc
  .exact h.store IW IW (λs hs=>hb s (by simpa only[H5,ho] using hs)) hc
  .cases hc
 |nilCheck x=>
  rw[ho] at h
  simp only[ho] at hc⊢
  have e:=h.KJ (ys:=[x]) IW
  rw[h x IW]
  cases hs:Ec C U x with
  |none=>rw[hs] at hc;cases x<;>cases hd:o.dst<;>rw[hd] at hc<;>first|exact hc|(show Tg _ _ (Bx C Z [_])=some r;rw[e];exact hc)
  |some sl=>rw[hs] at hc;cases sl<;>cases x<;>cases hd:o.dst<;>rw[hd] at hc<;>first|exact hc|(show Tg _ _ (Bx C Z [_])=some r;rw[e];exact hc)
 |binOp op t x y k=>
  rw[ho] at h
  simp only[ho] at hc⊢
  rw[h.KJ (ys:=[x,y]) IW]
  exact hc
 |unOp op t x=>
  rw[ho] at h
  simp only[ho] at hc⊢
  rw[h.KJ (ys:=[x]) IW]
  exact hc
 |convert src dst x=>
  rw[ho] at h
  simp only[ho] at hc⊢
  rw[h.KJ (ys:=[x]) IW,h.val (x:=x) IW]
  exact hc
 |makeFunc fn first captured=>
  rw[ho] at h
  simp only[ho] at hc⊢
  rw[h.KJ (ys:=first.toList) (λ_ hm=>by simp[Op.operands,hm]),h.Gk (ys:=captured.toList) (λ_ hm=>by simp[Op.operands,hm])]
  exact hc
 |makeMap t r'=>
  rw[ho] at hc
  cases r' with
  |none=>exact hc
  |some _=>cases hc
 |makeSlice t l c=>
  rw[ho] at h
  simp only[ho] at hc⊢
  rw[h.val (x:=l) IW,h.val (x:=c) IW]
  exact hc
 |insert t m k v=>
  rw[ho] at h
  simp only[ho] at hc⊢
  rw[h.KJ (ys:=[m,k,v]) IW]
  exact hc
 |mapUpdate t m k v=>
  rw[ho] at h
  simp only[ho] at hc⊢
  rw[h.KJ (ys:=[m,k,v]) IW]
  exact hc
 |lookup t m k ok=>
  rw[ho] at h
  simp only[ho] at hc⊢
  rw[h.KJ (ys:=[m,k]) IW]
  exact hc
 |slice t x lo hi mx=>
  rw[ho] at h hc
  cases mx with
  |none=>
   have e:=h.KJ (ys:=x::(lo.toList++hi.toList)) (by cases lo<;>cases hi<;>simp[Op.operands])
   simp only at hc⊢
   rw[e]
   exact hc
  |some mx=>cases lo with
   |none=>cases hc
   |some lo=>cases hi with
    |none=>cases hc
    |some hi=>
     have e:=h.KJ (ys:=[x,lo,hi,mx]) IW
     simp only at hc⊢
     rw[e]
     exact hc
 |makeInterface t x=>
  rw[ho] at h
  simp only[ho] at hc⊢
  rw[h.KJ (ys:=[x]) IW]
  exact hc
 |mapEntry t m k=>
  rw[ho] at h
  simp only[ho] at hc⊢
  rw[h.KJ (ys:=[m,k]) IW]
  exact hc
 |entryStore t m s v=>
  rw[ho] at h
  simp only[ho] at hc⊢
  rw[h.KJ (ys:=[m,s,v]) IW]
  exact hc
 |fieldAddr t x f=>
  rw[ho] at h
  simp only[ho] at hc⊢
  have e:=h.KJ (ys:=[x]) IW
  rw[h x IW]
  cases hf:It C.P t f with
  |none=>rw[hf] at hc;cases hc
  |some q=>
   rw[hf] at hc
   cases hd:o.dst with
   |none=>rw[hd] at hc;cases hc
   |some d=>
    rw[hd] at hc
    cases hs:Ec C U x with
    |none=>rw[hs] at hc;cases x<;>first|exact hc|(show Tg _ _ (Bx C Z [_])=some r;rw[e];exact hc)
    |some sl=>rw[hs] at hc;cases sl<;>cases x<;>first|exact hc|(show Tg _ _ (Bx C Z [_])=some r;rw[e];exact hc)
 |field t x f=>
  rw[ho] at h
  simp only[ho] at hc⊢
  rw[h.KJ (ys:=[x]) IW]
  exact hc
 |indexAddr t x i=>
  rw[ho] at h
  simp only[ho] at hc⊢
  rw[h.KJ (ys:=[x,i]) IW]
  exact hc
 |index t x i=>
  rw[ho] at h
  simp only[ho] at hc⊢
  rw[h.KJ (ys:=[x,i]) IW]
  exact hc
 |extract x i=>
  rw[ho] at h
  simp only[ho] at hc⊢
  rw[h.KJ (ys:=[x]) IW]
  exact hc
 |call c=>
  rw[ho] at h
  simp only[ho] at hc⊢
  rw[h.call]
  exact hc
 |_=>simp only[ho] at hc;cases hc
end
end Go.Am
end
section
namespace Go.Am
open Go
mutual
def Aa.beq_eq:∀{a b:Aa},Aa.beq a b=true->a=b
 | .bool a,b,h=>by cases b<;>simp[Aa.beq] at h⊢;exact h
 | .int k a,b,h=>by cases b<;>simp[Aa.beq] at h⊢;exact h
 | .str a,b,h=>by cases b<;>simp[Aa.beq] at h⊢;exact h
 | .ptr a,b,h=>by cases b<;>simp[Aa.beq] at h⊢;exact h
 | .Gb a,b,h=>by cases b<;>simp[Aa.beq] at h⊢;exact h
 | .CG a,b,h=>by cases b<;>simp[Aa.beq] at h⊢;exact Aa.Od h
 | .sl n a,b,h=>by cases b<;>simp[Aa.beq] at h⊢;exact⟨h.1,Aa.lL h.2⟩
 | .slnil,b,h=>by cases b<;>simp[Aa.beq] at h⊢
 | .CE a c d e,b,h=>by cases b<;>simp[Aa.beq] at h⊢;exact⟨h.1.1.1,h.1.1.2,h.1.2,h.2⟩
 | .map a,b,h=>by cases b<;>simp[Aa.beq] at h⊢;exact h
 | .func f a c,b,h=>by cases b<;>simp[Aa.beq] at h⊢;exact⟨h.1.1,Aa.Od h.1.2,Aa.Od h.2⟩
 | .nilFunc,b,h=>by cases b<;>simp[Aa.beq] at h⊢
 | .iface t a,b,h=>by cases b<;>simp[Aa.beq] at h⊢;exact⟨h.1,Aa.beq_eq h.2⟩
 | .nilIface,b,h=>by cases b<;>simp[Aa.beq] at h⊢
 | .agg a,b,h=>by cases b<;>simp[Aa.beq] at h⊢;exact Aa.Od h
 | .tuple a,b,h=>by cases b<;>simp[Aa.beq] at h⊢;exact Aa.Od h
def Aa.Od:∀{a b:List Aa},Aa.RK a b=true->a=b
 |[],b,h=>by cases b<;>simp[Aa.RK] at h⊢
 |a::x,b,h=>by
  cases b with
  |nil=>simp[Aa.RK] at h
  |cons c y=>simp[Aa.RK] at h⊢;exact⟨Aa.beq_eq h.1,Aa.Od h.2⟩
def Aa.lL:∀{a b:List (List Aa)},Aa.RL a b=true->a=b
 |[],b,h=>by cases b<;>simp[Aa.RL] at h⊢
 |a::x,b,h=>by
  cases b with
  |nil=>simp[Aa.RL] at h
  |cons c y=>simp[Aa.RL] at h⊢;exact⟨Aa.Od h.1,Aa.lL h.2⟩
end
def BR.JY(U:BR):∀(a b:List (Nat×En)),U.Eh (a++b)=(U.Eh a).Eh b
 |[],_=>rfl
 |(s,x)::a,b=>BR.JY (U.set s x) a b
def BR.JZ:∀(ws:List (Nat×En)) (U:BR),(U.Eh ws).length=U.length
 |[],_=>rfl
 |(s,x)::ws,U=>by rw[BR.Eh,BR.JZ ws];simp
def BR.W8(U:BR)(s t:Nat)(x:En):BR.at (U.set s x) t=if s=t/\t<U.length then x else U.at t:=by
 by_cases h:s=t
 .subst h;by_cases hl:s<U.length;.simp[BR.at,List.getD,hl]
  .simp[BR.at,List.getD,hl]
 .simp[BR.at,List.getD,Ap h,h]
def BR.GO:∀(ws:List (Nat×En)) (U:BR) (t:Nat),(∀p∈ws,p.1≠t)->(U.Eh ws).at t=U.at t
 |[],_,_,_=>rfl
 |(s,x)::ws,U,t,h=>by rw[BR.Eh,BR.GO ws _ t λp hp=>h p (by simp[hp]),BR.W8,Ac];exact λe=>h (s,x) AH e.1
def BR.W9:∀(ws:List (Nat×En)) (U:BR) (t:Nat),(U.Eh ws).at t=U.at t\/∃p∈ws,p.1=t/\(U.Eh ws).at t=p.2
 |[],_,_=> .inl rfl
 |(s,x)::ws,U,t=>by
  rcases BR.W9 ws (U.set s x) t with h|⟨p,hp,h1,h2⟩
  .rw[BR.W8] at h;by_cases hc:s=t/\t<U.length;.rw[Ae hc] at h;exact .inr ⟨(s,x),AH,hc.1,h⟩
   .rw[Ac hc] at h;exact .inl h
  .exact .inr ⟨p,by simp[hp],h1,h2⟩
def BR.Jt:∀(ws:List (Nat×En)) (U Z:BR) (t:Nat),Z.length=U.length->Z.at t=U.at t->(Z.Eh ws).at t=(U.Eh ws).at t
 |[],_,_,_,_,h=>h
 |(s,x)::ws,U,Z,t,hl,h=>by refine BR.Jt ws _ _ t (by simpa using hl) ?_;rw[BR.W8,BR.W8,hl,h]
def BR.ext{U Z:BR}(hl:Z.length=U.length)(h:∀t,Z.at t=U.at t):Z=U:=by apply List.ext_getElem hl;intro i h1 h2;have:=h i;simpa[BR.at,List.getD,h1,h2] using this
def BR.cu{U:BR}{a b:List (Nat×En)}(h:∀p∈a,∀q∈b,p.1≠q.1):(U.Eh a).Eh b=(U.Eh b).Eh a:=by
 refine BR.ext (by simp[BR.JZ]) λt=>?_;by_cases ha:∀p∈a,p.1≠t;.rw[BR.GO a (U.Eh b) t ha];exact BR.Jt b _ _ t (by simp[BR.JZ]) (BR.GO a U t ha)
 .have⟨p,hp,c⟩:∃p∈a,p.1=t:=Classical.byContradiction λhn=>ha λp hp e=>hn ⟨p,hp,e⟩;have hb:∀q∈b,q.1≠t:=λq hq e=>h p hp q hq (by rw[c,e]);rw[BR.GO b (U.Eh a) t hb];exact(BR.Jt a _ _ t (by simp[BR.JZ]) (BR.GO b U t hb)).symm
def Oe{U:BR}{ds:List Nat}:M7 U ds=true↔∀x t o,U.at x= .Fk t o->t∉ds:=by
 unfold M7;rw[Dv];constructor
 .intro h x t o hx;by_cases hl:x<U.length;.have:=h (U.at x) (by simp[BR.at,List.getD,hl]);rw[hx] at this;simpa using this
  .simp[BR.at,List.getD,hl] at hx
 .intro h s hs;obtain⟨i,hi⟩:=CP hs;cases s with
  |Fk t o=>have:=h i t o (by simp[BR.at,List.getD,hi]);simpa using this
  |_=>rfl
def cw{a b:List Nat}:T6 a b=true↔∃x,x∈a/\x∈b:=by simp[T6]
structure St where
 idx:Nat
 fp:FP
 fl:Option KB
def K0(i:Nat)(r:EJ)(U:BR):Option KB:=
 match r with
 | .load n p (some d)=>match U.at d with
  | .val v=>some {idx:=i,n,p,v}
  |_=>none
 |_=>none
def Xa(i:Nat)(r:EJ)(U:BR)(fl:List KB):MO i r U fl=(K0 i r U).toList++fl:=by
 cases r with
 |load n p dst=>
  cases dst with
  |none=>rfl
  |some d=>simp only[MO,K0];cases U.at d<;>rfl
 |_=>rfl
def Y8{i:Nat}{r:EJ}{U Z:BR}(h:∀d∈r.wf,Z.at d=U.at d):K0 i r Z=K0 i r U:=by
 cases r with
 |load n p dst=>
  cases dst with
  |none=>rfl
  |some d=>simp only[K0];rw[h d (by simp[EJ.wf])]
 |_=>rfl
def MR(d:Option Nat)(U U':BR):Prop:=
 match d with
 |none=>U'=U
 |some d=>match U.at d with
  | .val v=>∃b,v= .bool b/\U'=U.set d (.OS b)
  |_=>U'=U
section
variable{C:FW}{fid:FuncId}{ops:List Oper}{run:IT->Ah->Option J6}{U Z U':BR}{h h':Ah}
def Pn(C:FW)(fid:FuncId)(ops:List Oper)(run:IT->Ah->Option J6)(s:St)(U:BR)(h:Ah)(U':BR)(h':Ah):Prop:=
 ∃o,ops[s.idx]?=some o/\
  ((IS ops U o = .Nl false /\ s.fp = UP C ops U o none /\ s.fl = none /\ U' = U.put o.dst .skip /\ h' = h) \/
   ∃ r U1, IS ops U o = .Nl true /\ Gl C fid ops U o = some r /\ s.fp = UP C ops U o (some r) /\ r.Np C run (U.drop r.news) h U1 h' /\ s.fl = K0 s.idx r U1 /\
     MR (if RT ops s.idx then o.dst else none) U1 U')
def Xb(U:BR)(d:Option Nat)(x:En):U.put d x=U.Eh (d.toList.map λs=>(s,x)):=by cases d<;>rfl
def cy(U:BR)(d:Option (Nat×Aa)):U.DL d=U.Eh (d.toList.map λp=>(p.1,.val p.2)):=by cases d<;>rfl
def ZT{r:EJ}(hd:r.Np C run U h U' h'):∃ws,U'=U.Eh ws/\(∀p∈ws,p.1∈r.wf)/\(∀p∈ws,∀t o,p.2= .Fk t o->t∈r.u9)/\∀Z,r.Np C run Z h (Z.Eh ws) h':=by
 have one:∀(d:Option Nat) (x:En),(∀t o,x≠ .Fk t o)->U'=U.put d x->d.toList⊆r.wf->(∀Z,r.Np C run Z h (Z.put d x) h')->
   ∃ws,U'=U.Eh ws/\(∀p∈ws,p.1∈r.wf)/\(∀p∈ws,∀t o,p.2= .Fk t o->t∈r.u9)/\∀Z,r.Np C run Z h (Z.Eh ws) h':=by
  intro d x hx he hw ht;refine⟨d.toList.map λs=>(s,x),by rw[<-Xb];exact he,λp hp=>?_,λp hp t o hl=>?_,λZ=>by rw[<-Xb];exact ht Z⟩;.obtain⟨s,hs,rfl⟩:=Bj.1 hp;exact hw hs
  .obtain⟨s,hs,rfl⟩:=Bj.1 hp;exact absurd hl (hx t o)
 have YX:∀(i:Option (Nat×Aa)) (d:Option Nat) (x:En),(∀t o,x≠ .Fk t o)->U'=(U.DL i).put d x->d.toList⊆r.wf->(i.map (·.1)).toList⊆r.wf->(∀Z,r.Np C run Z h ((Z.DL i).put d x) h')->
   ∃ws,U'=U.Eh ws/\(∀p∈ws,p.1∈r.wf)/\(∀p∈ws,∀t o,p.2= .Fk t o->t∈r.u9)/\∀Z,r.Np C run Z h (Z.Eh ws) h':=by
  intro i d x hx he hw np ht;have e:∀Z:BR,(Z.DL i).put d x=Z.Eh ((i.toList.map λp=>(p.1,.val p.2))++d.toList.map λs=>(s,x)):=λZ=>by rw[BR.JY,<-cy,<-Xb]
  refine⟨_,by rw[he,e],λp hp=>?_,λp hp t o hl=>?_,λZ=>by rw[<-e];exact ht Z⟩
  .rcases Ax.1 hp with hp|hp
   .obtain⟨q,hq,rfl⟩:=Bj.1 hp;exact np (by cases i<;>simp_all)
   .obtain⟨s,hs,rfl⟩:=Bj.1 hp;exact hw hs
  .rcases Ax.1 hp with hp|hp
   .obtain⟨q,hq,rfl⟩:=Bj.1 hp;cases hl
   .obtain⟨s,hs,rfl⟩:=Bj.1 hp;exact absurd hl (hx t o)
 cases r with
 |pure ws=>obtain⟨rfl,rfl⟩:=hd;refine⟨ws,rfl,λp hp=>Bj.2 ⟨p,hp,rfl⟩,λp hp t o hl=>?_,λZ=>⟨rfl,rfl⟩⟩;exact Ci.2 ⟨p.2,Bj.2 ⟨p,hp,rfl⟩,by rw[hl]⟩
 |op p args dst Bt i=>obtain⟨v,hv,rfl,rfl⟩:=hd;exact YX i dst _ (by cases Bt<;>simp) rfl (by simp[EJ.wf]) (by simp[EJ.wf]) λZ=>⟨v,hv,rfl,rfl⟩
 |box n v d=>obtain⟨hn,rfl,rfl⟩:=hd;exact one (some d) _ AH rfl (by simp[EJ.wf]) λZ=>⟨hn,rfl,rfl⟩
 |closure fn x b fz d=>
  obtain⟨rfl,rfl⟩:=hd;refine⟨(fz.map λ(s,cs)=>(s,.val (.CG cs)))++[(d,.val (.func fn x b))],by rw[BR.JY];rfl,λp hp=>?_,λp hp t o hl=>?_,λZ=>⟨by rw[BR.JY];rfl,rfl⟩⟩
  .rcases Ax.1 hp with hp|hp
   .obtain⟨q,hq,rfl⟩:=Bj.1 hp;exact YL _ (Bj.2 ⟨q,hq,rfl⟩)
   .simp at hp;subst hp;simp[EJ.wf]
  .rcases Ax.1 hp with hp|hp
   .obtain⟨q,hq,rfl⟩:=Bj.1 hp;cases hl
   .simp at hp;subst hp;cases hl
 |M6 s off n v Bt i ver cells owned=>obtain⟨hn,rfl,rfl⟩:=hd;exact YX i (some s) _ AH rfl (by simp[EJ.wf]) (by simp[EJ.wf]) λZ=>⟨hn,rfl,rfl⟩
 |load n p dst=>obtain⟨v,hv,rfl,rfl⟩:=hd;exact one dst _ AH rfl (by simp[EJ.wf]) λZ=>⟨v,hv,rfl,rfl⟩
 |store n p v=>obtain⟨hv,rfl⟩:=hd;exact one none .undef AH rfl AH λZ=>⟨hv,rfl⟩
 |alloc n v dst=>obtain⟨hn,rfl,rfl⟩:=hd;exact one dst _ AH rfl (by simp[EJ.wf]) λZ=>⟨hn,rfl,rfl⟩
 |call f args dst=>obtain⟨v,hv,rfl⟩:=hd;exact one dst _ (by intro t o;split<;>simp) rfl (by simp[EJ.wf]) λZ=>⟨v,hv,rfl⟩
 |Ja g args dst=>obtain⟨f,x,v,h1,h2,rfl⟩:=hd;exact one dst _ AH rfl (by simp[EJ.wf]) λZ=>⟨f,x,v,h1,h2,rfl⟩
 |BV f args dst=>obtain⟨Ho,v,h1,h2,j,rfl,rfl⟩:=hd;exact one dst _ AH rfl (by simp[EJ.wf]) λZ=>⟨Ho,v,h1,h2,j,rfl,rfl⟩
 |O6 dst=>obtain⟨rfl,rfl⟩:=hd;exact one dst _ AH rfl (by simp[EJ.wf]) λZ=>⟨rfl,rfl⟩
 |Kv m k v=>obtain⟨hv,rfl⟩:=hd;exact one none .undef AH rfl AH λZ=>⟨hv,rfl⟩
 |L9 z ok m k dst=>obtain⟨v,hv,rfl,rfl⟩:=hd;exact one dst _ AH rfl (by simp[EJ.wf]) λZ=>⟨v,hv,rfl,rfl⟩
 |make z b zero l c dst=>obtain⟨v,hv,rfl⟩:=hd;exact one dst _ AH rfl (by simp[EJ.wf]) λZ=>⟨v,hv,rfl⟩
 |K9 z b s x dst i=>obtain⟨v,hv,rfl⟩:=hd;exact YX i dst _ AH rfl (by simp[EJ.wf]) (by simp[EJ.wf]) λZ=>⟨v,hv,rfl⟩
 |IP z b s x dst=>obtain⟨v,hv,rfl⟩:=hd;exact one dst _ AH rfl (by simp[EJ.wf]) λZ=>⟨v,hv,rfl⟩
 |Gx z b s x dst i=>obtain⟨v,hv,rfl,rfl⟩:=hd;exact YX i dst _ AH rfl (by simp[EJ.wf]) (by simp[EJ.wf]) λZ=>⟨v,hv,rfl,rfl⟩
 |Fb s dst=>obtain⟨v,hv,rfl⟩:=hd;exact one dst _ AH rfl (by simp[EJ.wf]) λZ=>⟨v,hv,rfl⟩
 |Wh s dst=>obtain⟨v,u,h1,h2,rfl⟩:=hd;exact one dst _ AH rfl (by simp[EJ.wf]) λZ=>⟨v,u,h1,h2,rfl⟩
 |mem o args dst=>obtain⟨v,hv,rfl⟩:=hd;exact one dst _ (by intro t o';split<;>simp) rfl (by simp[EJ.wf]) λZ=>⟨v,hv,rfl⟩
def Ts{r:EJ}(hd:r.Np C run U h U' h')(he:r.RF=false):h'=h/\
  (r.hl=false->∀h2,r.Np C run U h2 U' h2)/\
  ∀n p d,r= .load n p (some d)->∃v,Bd h n p=some v/\U'=U.set d (.val v)/\∀h2,Bd h2 n p=some v->r.Np C run U h2 U' h2:=by
 cases r<;>simp only[EJ.RF] at he<;>try(exact absurd he AX)
 case pure ws=>obtain⟨rfl,rfl⟩:=hd;exact⟨rfl,λ_ _=>⟨rfl,rfl⟩,AH⟩
 case op p args dst Bt g=>obtain⟨v,hv,rfl,rfl⟩:=hd;exact⟨rfl,λ_ _=>⟨v,hv,rfl,rfl⟩,AH⟩
 case box n v d=>obtain⟨hn,rfl,rfl⟩:=hd;exact⟨rfl,λ_ _=>⟨hn,rfl,rfl⟩,AH⟩
 case closure fn x b fz d=>obtain⟨rfl,rfl⟩:=hd;exact⟨rfl,λ_ _=>⟨rfl,rfl⟩,AH⟩
 case M6 s off n v Bt g ver cells owned=>obtain⟨hn,rfl,rfl⟩:=hd;exact⟨rfl,λ_ _=>⟨hn,rfl,rfl⟩,AH⟩
 case load n p dst=>obtain⟨v,hv,rfl,rfl⟩:=hd;refine⟨rfl,λc=>absurd c (by simp[EJ.hl]),λn' p' d he=>?_⟩;cases he;exact⟨v,hv,rfl,λh2 e=>⟨v,e,rfl,rfl⟩⟩
 case L9 z ok m k dst=>obtain⟨v,hv,rfl,rfl⟩:=hd;exact⟨rfl,λc=>absurd c (by simp[EJ.hl]),AH⟩
 case BV f args dst=>obtain⟨Ho,v,h1,h2,i,rfl,rfl⟩:=hd;exact⟨rfl,λ_ _=>⟨Ho,v,h1,h2,i,rfl,rfl⟩,AH⟩
def Ug{ds:List Nat}(hn:M7 U ds=true):U.drop ds=U:=by
 refine BR.ext (BR.length_drop U ds) λt=>?_;rw[BR.R6];cases hx:U.at t with
 |Fk t' o=>have:=Oe.1 hn t t' o hx;simp[this]
 |_=>rfl
def QI{o:Oper}(h:∀t∈FC ops o,Z.at t=U.at t):IS ops Z o=IS ops U o:=by
 unfold IS;unfold FC at h;cases hg:o.guard with
 |none=>rfl
 |some g=>
  obtain⟨j,want⟩:=g;rw[hg] at h;simp only at h⊢;cases hd:(ops[j]?).bind (·.dst) with
  |none=>rfl
  |some s=>
   rw[hd] at h;simp only
   rw[h s AH]
def U4{o:Oper}{r:EJ}(hc:Gl C fid ops U o=some r)(ht:∀t∈Kb o.op.operands.toList,Z.at t=U.at t)(hb:∀s∈H5 C U o,Z.at s=U.at s):H5 C Z o=H5 C U o:=by
 have h:VB C U Z o.op.operands.toList:= .vS ht
 unfold H5 at hb⊢
 cases ho:o.op with
 |load t x=>
  rw[ho] at h hb
  simp only at hb⊢
  have hn:Gj C U x≠none:=λhe=>by
   unfold Gl at hc
   simp only[ho] at hc
   split at hc
   .unfold LA at hc;rw[he] at hc;split at hc<;>simp_all
   .cases hc
  unfold N1
  rw[h.addr IW hb hn]
 |store t x y=>
  rw[ho] at h hb
  simp only at hb⊢
  have hn:Gj C U x≠none:=λhe=>by
   unfold Gl at hc
   simp only[ho] at hc
   split at hc
   .unfold JC at hc;rw[he] at hc;split at hc<;>simp_all
   .cases hc
  unfold N1
  rw[h.addr IW hb hn]
 |_=>rfl
def Uh{xs:List En}{t o:Nat}(h: .Fk t o∈xs):t∈Vv xs:=Ci.2 ⟨_,h,rfl⟩
def Pn.spec{s:St}(hs:Pn C fid ops run s U h U' h')(hf:s.fp.Tk=true):
  ∃ws,U'=U.Eh ws/\(∀p∈ws,p.1∈s.fp.wf)/\(∀p∈ws,∀t o,p.2= .Fk t o->t∈s.fp.lr)/\(∀x∈s.fp.wf,∀t o,U.at x= .Fk t o->t∈s.fp.lr)/\M7 U s.fp.news=true/\(s.fp.RF=false->h'=h)/\
   (s.fp.RF=false->s.fp.hl=true->∃f,s.fl=some f)/\
   ∀(Z:BR) (h2 ZU:Ah),Z.length=U.length->(∀x∈s.fp.rs++s.fp.wf,Z.at x=U.at x)->M7 Z s.fp.news=true->
    ((h2=h/\ZU=h')\/(s.fp.RF=false/\ZU=h2/\(s.fp.hl=true->∀f,s.fl=some f->Bd h2 f.n f.p=some f.v)))->Pn C fid ops run s Z h2 (Z.Eh ws) ZU:=by
 obtain⟨o,ho,⟨hg,j,Ho,rfl,rfl⟩|⟨r,U1,hg,hc,j,hd,Ho,ha⟩⟩:=hs
 .rw[j] at hf⊢;refine⟨o.dst.toList.map λd=>(d,.skip),Xb _ _ _,λp hp=>?_,λp hp t k hl=>?_,λx hx t k hl=>?_,Oe.2 (by simp[UP]),λ_=>rfl,λ_ i=>absurd i (by simp[UP]),λZ h2 ZU hlen nr _ Jc=>?_⟩;.obtain⟨d,hd,rfl⟩:=Bj.1 hp;exact hd
  .obtain⟨d,hd,rfl⟩:=Bj.1 hp;cases hl
  .exact Uh (o:=k) (Bj.2 ⟨x,hx,hl⟩)
  .have i:ZU=h2:=by rcases Jc with⟨A,z⟩|⟨_,e,_⟩<;>first|exact e|rw[A,z]
   refine⟨o,ho,.inl ⟨?_,?_,Ho,(Xb _ _ _).symm,i⟩⟩;.rw[QI λt ht=>nr t (CD _ ht)];exact hg
   .rw[j];have e:o.dst.toList.map Z.at=o.dst.toList.map U.at:=Zy λx hx=>nr x (BT _ hx);simp only[UP,e]
 .rw[j] at hf⊢;have nu:r.Tk U=true:=hf;have OH:M7 U r.news=true:=by unfold EJ.Tk at nu;rw[Bq] at nu;exact nu.1
  rw[Ug OH] at hd;obtain⟨nv,rfl,hw,y,bM⟩:=ZT hd;have aJd:∃g:List (Nat×En),U'=(U.Eh nv).Eh g/\(∀p∈g,o.dst=some p.1/\∃b,p.2= .OS b)/\∀Z:BR,Z.length=U.length->(∀x∈r.wf++o.dst.toList,Z.at x=U.at x)->MR (if RT ops s.idx then o.dst else none) (Z.Eh nv) ((Z.Eh nv).Eh g):=by
   by_cases c:RT ops s.idx=true
   .rw[Ae c] at ha;cases Sf:o.dst with
    |none=>rw[Sf] at ha;exact⟨[],ha,AH,λZ _ _=>by simp[c,MR,BR.Eh]⟩
    |some d=>
     rw[Sf] at ha;simp only[MR] at ha;have ň:∀Z:BR,Z.length=U.length->(∀x∈r.wf++[d],Z.at x=U.at x)->(Z.Eh nv).at d=(U.Eh nv).at d:=λZ hl nr=>BR.Jt nv U Z d hl (nr d AH);cases hx:(U.Eh nv).at d with
     |val v=>rw[hx] at ha;obtain⟨b,rfl,rfl⟩:=ha;refine⟨[(d,.OS b)],rfl,AH,λZ hl nr=>?_⟩;simp only[c,BL,MR];rw[ň Z hl nr,hx];exact⟨b,rfl,rfl⟩
     |_=>rw[hx] at ha;refine⟨[],ha,AH,λZ hl nr=>?_⟩;simp only[c,BL,MR];rw[ň Z hl nr,hx];rfl
   .rw[Ac c] at ha;exact⟨[],ha,AH,λZ _ _=>by rw[Ac c];rfl⟩
  obtain⟨g,rfl,np,aD9⟩:=aJd;have q:r.hl=true->∃n p d,r= .load n p (some d)/\d<U.length:=λi=>by
   unfold EJ.Tk at nu;rw[Bq] at nu;cases r with
   |load n p dst=>
    cases dst with
    |none=>exact absurd nu.2 AH
    |some d=>exact⟨n,p,d,rfl,by simpa using nu.2⟩
   |L9 _ _ _ _ _=>exact absurd nu.2 AH
   |_=>simp[EJ.hl] at i
  have aEa:r.RF=false->∀n p d,r= .load n p (some d)->d<U.length->∃v,Bd h n p=some v/\s.fl=some {idx:=s.idx,n,p,v}:=by intro he n p d hr o9;obtain⟨v,u,m,_⟩:=(Ts hd he).2.2 n p d hr;refine⟨v,u,?_⟩;rw[Ho,hr];simp only[K0];rw[m,BR.Fv o9]
  have aJe:∀(Z:BR) h2 ZU,((h2=h/\ZU=h')\/(r.RF=false/\ZU=h2/\(r.hl=true->∀f,s.fl=some f->Bd h2 f.n f.p=some f.v)))->r.Np C run Z h2 (Z.Eh nv) ZU:=by
   intro Z h2 ZU Jc;rcases Jc with⟨rfl,rfl⟩|⟨he,rfl,Uc⟩
   .exact bM Z
   .obtain⟨_,F,E⟩:=Ts (bM Z) he;cases i:r.hl with
    |false=>exact F i _
    |true=>obtain⟨n,p,d,hr,o9⟩:=q i;obtain⟨v,u,m⟩:=aEa he n p d hr o9;obtain⟨v',B,_,D⟩:=E n p d hr;rw[u] at B;cases B;exact D _ (Uc i _ m)
  refine⟨nv++g,by rw[BR.JY],λp hp=>?_,λp hp t k hl=>?_,λx hx t k hl=>?_,OH,λhe=>(Ts hd he).1,λhe i=>?_,λZ h2 ZU hlen nr ŉ Jc=>?_⟩
  .rcases Ax.1 hp with hp|hp
   .exact CD _ (hw p hp)
   .exact BT _ (by rw[(np p hp).1];simp)
  .rcases Ax.1 hp with hp|hp
   .exact BT _ (y p hp t k hl)
   .obtain⟨_,b,e⟩:=np p hp;rw[e] at hl;cases hl
  .exact CD _ (Uh (o:=k) (Bj.2 ⟨x,hx,hl⟩))
  .obtain⟨n,p,d,hr,o9⟩:=q i;obtain⟨v,_,m⟩:=aEa he n p d hr o9;exact⟨_,m⟩
  .have l:∀t∈FC ops o++Kb o.op.operands.toList++H5 C U o,Z.at t=U.at t:=λt ht=>nr t (CD _ ht);have hwf:∀t∈r.wf++o.dst.toList,Z.at t=U.at t:=λt ht=>nr t (BT _ ht);have ht:∀t∈Kb o.op.operands.toList,Z.at t=U.at t:=λt ht=>l t (by simp[ht]);have hb:∀t∈H5 C U o,Z.at t=U.at t:=λt ht=>l t (by simp[ht]);have aEb:M7 Z r.news=true:=ŉ;refine⟨o,ho,.inr ⟨r,Z.Eh nv,?_,W0 hc ht hb,?_,?_,?_,?_⟩⟩;.rw[QI λt ht=>l t (by simp[ht])];exact hg
   .rw[j];have A:(r.wf++o.dst.toList).map Z.at=(r.wf++o.dst.toList).map U.at:=Zy λx hx=>hwf x hx;have z:r.Tk Z=r.Tk U:=by unfold EJ.Tk;rw[OH,aEb,hlen]
    simp only[UP,A,z,U4 hc ht hb]
   .rw[Ug aEb];exact aJe Z h2 ZU Jc
   .rw[Ho];exact(Y8 λd hd=>BR.Jt nv U Z d hlen (hwf d (CD _ hd))).symm
   .rw[BR.JY];exact aD9 Z hlen hwf
end
end Go.Am
end
section
namespace Go.Am
open Go
section
variable{C:FW}{fid:FuncId}{ops:List Oper}{run:IT->Ah->Option J6}{an:List Nat}
def L3{a b:List Nat}(h:(!T6 a b)=true){x:Nat}(hx:x∈a):x∉b:=λhb=>by have:T6 a b=true:=cw.2 ⟨x,hx,hb⟩;simp[this] at h
def swap{p s:St}{U σa U1:BR}{h ha h1:Ah}(hp:Pn C fid ops run p U h σa ha)(hs:Pn C fid ops run s σa ha U1 h1)(LL:Q7 p.fp s.fp=true)
  (Uc:s.fp.RF=true->∀f,p.fl=some f->Bd h1 f.n f.p=some f.v):
  ∃σs Vw,Pn C fid ops run s U h σs Vw/\Pn C fid ops run p σs Vw U1 h1/\(s.fp.RF=true->Vw=h1)/\(p.fp.RF=true->h1=ha):=by
 unfold Q7 FP.apart at LL;simp only[Bq] at LL;obtain⟨⟨⟨⟨pf,D⟩,⟨⟨a1,a2⟩,a3⟩,a4⟩,he⟩,hl⟩:=LL;obtain⟨c,rfl,l,bS,A,u,y,G,Ŋ⟩:=hp.spec pf;obtain⟨b,rfl,k,o7,E,m,oX,F,ny⟩:=hs.spec D;have i:∀x∈s.fp.rs++s.fp.wf,(U.Eh c).at x=U.at x:=λx hx=>BR.GO c U x λq hq e=>L3 a1 (l q hq) (by rw[e];exact hx);have d:M7 U s.fp.news=true:=by
  rw[Oe] at m⊢;intro x t o hx;by_cases hw:x∈p.fp.wf;.exact L3 a3 (A x hw t o hx)
  .refine m x t o ?_;rw[BR.GO c U x λq hq e=>hw (by rw[<-e];exact l q hq)];exact hx
 have hlen:∀(Z:BR) (ws:List (Nat×En)),(Z.Eh ws).length=Z.length:=λZ ws=>BR.JZ ws Z;have ŋ:(U.Eh b).Eh c=(U.Eh c).Eh b:=(BR.cu λq hq r hr e=>by have:=L3 a1 (l q hq);exact this (BT _ (by rw[e];exact k r hr))).symm
 have outs:∀x∈p.fp.rs++p.fp.wf,(U.Eh b).at x=U.at x:=λx hx=>BR.GO b U x λq hq e=>by
  rcases Ax.1 hx with hx|hx
  .exact L3 a2 (k q hq) (by rw[e];exact hx)
  .exact L3 a1 hx (BT _ (by rw[<-e];exact k q hq))
 have z:M7 (U.Eh b) p.fp.news=true:=by
  rw[Oe] at u⊢;intro x t o hx;rcases BR.W9 b U x with h0|⟨q,hq,_,h2⟩
  .exact u x t o (by rw[<-h0];exact hx)
  .rw[h2] at hx;exact L3 a4 (o7 q hq t o hx)
 by_cases JK:s.fp.RF=true
 .have g:p.fp.RF=false:=by
   cases hq:p.fp.RF with
   |false=>rfl
   |true=>simp[JK,hq] at he
  have j:ha=h:=y g;subst j;refine⟨U.Eh b,h1,ny U ha h1 (hlen U c).symm (λx hx=>(i x hx).symm) d (.inl ⟨rfl,rfl⟩),?_,λ_=>rfl,λe=>by rw[g] at e;cases e⟩;rw[<-ŋ];exact Ŋ (U.Eh b) h1 h1 (hlen U b) outs z (.inr ⟨g,rfl,λ_ f hf=>Uc JK f hf⟩)
 .have aEc:s.fp.RF=false:=by simpa using JK
  have B:h1=ha:=oX aEc;subst B;refine⟨U.Eh b,h,?_,?_,λe=>absurd e JK,λ_=>rfl⟩
  .by_cases g:p.fp.RF=true;.refine ny U h h (hlen U c).symm (λx hx=>(i x hx).symm) d (.inr ⟨aEc,rfl,λH=>?_⟩);simp[g,H] at hl
   .have aJh:p.fp.RF=false:=by simpa using g
    have j:=y aJh;exact ny U h h (hlen U c).symm (λx hx=>(i x hx).symm) d (.inl ⟨j.symm,j.symm⟩)
  .rw[<-ŋ];exact Ŋ (U.Eh b) h h1 (hlen U b) outs z (.inl ⟨rfl,rfl⟩)
inductive Steps(C:FW)(fid:FuncId)(ops:List Oper)(run:IT->Ah->Option J6)(an:List Nat):List KB->List St->BR->Ah->BR->Ah->Prop
 |nil {fl:List KB} {U:BR} {h:Ah}:Steps C fid ops run an fl [] U h U h
 |cons {fl:List KB} {s:St} {L:List St} {U U1 σf:BR} {h h1 hf:Ah}:Pn C fid ops run s U h U1 h1->(s.fp.RF=true->∀f∈fl,Eo an f.idx s.idx=false->Bd h1 f.n f.p=some f.v)->
  Steps C fid ops run an (s.fl.toList++fl) L U1 h1 σf hf->Steps C fid ops run an fl (s::L) U h σf hf
def Steps.sub{fl:List KB}{L:List St}{U σf:BR}{h hf:Ah}(hs:Steps C fid ops run an fl L U h σf hf):∀{b:List KB},(∀f∈b,f∈fl)->Steps C fid ops run an b L U h σf hf:=by
 induction hs with
 |nil=>intro b _;exact .nil
 |cons h1 h2 _ ih=>
  intro b OW;refine .cons h1 (λhe f hf hb=>h2 he f (OW f hf) hb) (ih λf hf=>?_);rcases Ax.1 hf with hf|hf
  .exact CD _ hf
  .exact BT _ (OW f hf)
def Pn.aAV{s:St}{U U':BR}{h h':Ah}(hs:Pn C fid ops run s U h U' h'){f:KB}(hf:s.fl=some f):f.idx=s.idx:=by
 obtain⟨o,_,⟨_,_,Ho,_⟩|⟨r,U1,_,_,_,_,Ho,_⟩⟩:=hs;.rw[Ho] at hf;cases hf
 .rw[Ho] at hf;unfold K0 at hf;split at hf
  .split at hf;.cases hf;rfl
   .cases hf
  .cases hf
def Steps.lt{fl:List KB}{L:List St}{U σf:BR}{h hf:Ah}(hs:Steps C fid ops run an fl L U h σf hf):∀q∈L,q.idx<ops.length:=by
 induction hs with
 |nil=>simp
 |cons h1 _ _ ih=>
  intro q hq;rcases AT.1 hq with rfl|hq
  .obtain⟨o',h2,_⟩:=h1;exact(Al.1 h2).1
  .exact ih q hq
def Ō{s:St}{B:List St}{σf:BR}{hf:Ah}:∀{A:List St} {fl:List KB} {U:BR} {h:Ah},Steps C fid ops run an fl (A++s::B) U h σf hf->(∀p∈A,Q7 p.fp s.fp=true/\Eo an p.idx s.idx=false)->
  ∃U1 h1,Pn C fid ops run s U h U1 h1/\(s.fp.RF=true->∀f∈fl,Eo an f.idx s.idx=false->Bd h1 f.n f.p=some f.v)/\Steps C fid ops run an (s.fl.toList++fl) (A++B) U1 h1 σf hf
 |[],fl,U,h,hs,_=>by
  cases hs with
  |cons h1 h2 d=>exact⟨_,_,h1,h2,d⟩
 |p::A,fl,U,h,hs,j=>by
  cases hs with
  |cons h1 h2 d=>
   rename_i σa ha;obtain⟨U1,Ł,i,e,t⟩:=Ō d λq hq=>j q (by simp[hq]);obtain⟨LL,aJi⟩:=j p AH;obtain⟨σs,Vw,w1,m,l,k⟩:=swap h1 i LL λhe f hf=>e he f (by rw[hf];simp) (by rw[h1.aAV hf];exact aJi);refine⟨σs,Vw,w1,λhe f hf hb=>?_,.cons m (λhe f hf hb=>?_) (t.sub λf hf=>?_)⟩;.rw[l he];exact e he f (BT _ hf) hb
   .rw[k he];rcases Ax.1 hf with hf|hf
    .exfalso;unfold Q7 at LL;simp only[Bq] at LL;obtain⟨⟨⟨⟨_,y⟩,_⟩,u⟩,hl⟩:=LL;cases qL:s.fl with
     |none=>rw[qL] at hf;simp at hf
     |some g=>
      have b:s.fp.hl=true:=by
       obtain⟨o,_,⟨_,_,Ho,_⟩|⟨r,x,_,_,c,_,Ho,_⟩⟩:=i;.rw[Ho] at qL;cases qL
       .rw[Ho] at qL;unfold K0 at qL;split at qL;.rw[c];rfl
        .cases qL
      simp[he,b] at hl
    .exact h2 he f hf hb
   .rcases Ax.1 hf with hf|hf
    .exact BT _ (CD _ hf)
    .rcases Ax.1 hf with hf|hf
     .exact CD _ hf
     .exact BT _ (BT _ hf)
def QJ{DW:List Nat}{x:Nat}:∀(ds:List Nat) (m:Nat),(ds.foldl (λm e=>m|||bit e|||DW.getD e 0) m).testBit x=true↔m.testBit x=true\/∃e∈ds,x=e\/(DW.getD e 0).testBit x=true
 |[],m=>AH
 |d::ds,m=>by
  rw[jd,QJ ds];simp only[Nat.testBit_or,bit,Nat.testBit_two_pow,OE,Cz,AT,exists_eq_or_imp];constructor
  .rintro((h|h)|h)
   .rcases h with h|h
    .exact .inl h
    .exact .inr (.inl (.inl h.symm))
   .exact .inr (.inl (.inr h))
   .exact .inr (.inr h)
  .rintro(h|(h|h)|h);.exact .inl (.inl (.inl h))
   .exact .inl (.inl (.inr h.symm))
   .exact .inl (.inr h)
   .exact .inr h
def LS:∀(l:List Oper) (DW:List Nat) (i:Nat),i<DW.length->(Lb DW l).getD i 0=DW.getD i 0
 |[],DW,i,h=>rfl
 |o::l,DW,i,h=>by rw[Lb,LS l _ i Ee];simp[List.getD,Aj h]
def QK:∀(l:List Oper) (DW:List Nat) (k:Nat) (o:Oper),l[k]?=some o->(∀e∈Oper.UO o,e<DW.length+k)->∀x,
  ((Lb DW l).getD (DW.length+k) 0).testBit x=true↔∃e∈Oper.UO o,x=e\/((Lb DW l).getD e 0).testBit x=true
 |[],DW,k,o,h,_,x=>by simp at h
 |o'::l,DW,0,o,h,hd,x=>by
  simp at h;subst h;rw[Lb,LS l _ (DW.length+0) AH];have b:(DW++[(Oper.UO o').foldl (λm e=>m|||bit e|||DW.getD e 0) 0]).getD (DW.length+0) 0=(Oper.UO o').foldl (λm e=>m|||bit e|||DW.getD e 0) 0:=by simp[List.getD]
  rw[b,QJ];simp only[Nat.zero_testBit,Cy,false_or];constructor;.rintro⟨e,he,h⟩;refine⟨e,he,h.imp id λh=>?_⟩;have hlt:e<DW.length:=hd e he;rw[LS l _ e Ee];simpa[List.getD,Aj hlt] using h
  .rintro⟨e,he,h⟩;refine⟨e,he,h.imp id λh=>?_⟩;have hlt:e<DW.length:=hd e he;rw[LS l _ e Ee] at h;simpa[List.getD,Aj hlt] using h
 |o'::l,DW,k+1,o,h,hd,x=>by simp at h;rw[Lb];have:=QK l (DW++[(Oper.UO o').foldl (λm e=>m|||bit e|||DW.getD e 0) 0]) k o h (λe he=>by have:=hd e he;simp;omega) x;simp only[Aw,A9,BP,BU] at this;rw[(Ab:DW.length+(k+1)=DW.length+1+k)];exact this
def ZV{i:Nat}{o:Oper}(ho:ops[i]?=some o)(hd:∀e∈Oper.UO o,e<i)(x:Nat):Eo (Wx ops) x i=true↔∃e∈Oper.UO o,x=e\/Eo (Wx ops) x e=true:=by have:=QK ops [] i o ho (by simpa using hd) x;simpa[Eo,Wx] using this
def Po(h:bK ops=true){i:Nat}{o:Oper}(ho:ops[i]?=some o):∀e∈Oper.UO o,e<i:=by
 unfold bK at h;rw[Dv] at h;have:=h (o,i) (by refine CC (i:=i) ?_;simp[List.getElem?_zipIdx,ho])
 intro e he;simpa using Dv.1 this e he
def ZW:∀{l:List (Nat×FP)},Wz.go an l=true->l.Pairwise λx y=>x.1≠y.1/\Eo an y.1 x.1=false/\(Eo an x.1 y.1=true\/Q7 x.2 y.2=true)
 |[],_=> .nil
 |(i,f)::l,h=>by simp only[Wz.go,Bq,Dv] at h;refine .cons (λy hy=>?_) (ZW h.2);have:=h.1 y hy;simp only[bne_iff_ne,aOj,OE] at this;exact⟨this.1.1,this.1.2,this.2⟩
def nz{d:Option Nat}{U:BR}{K:BR->IT}{h:Ah}{R:J6}(hr:IT.step (Ca C) run (vA d U K) h=some R):∃U',MR d U U'/\IT.step (Ca C) run (K U') h=some R:=by
 unfold vA at hr;cases d with
 |none=>exact⟨U,rfl,hr⟩
 |some d=>
  simp only at hr;cases hx:U.at d with
  |val v=>
   rw[hx] at hr;simp only[IT.step] at hr;split at hr;.exact⟨U.set d (.OS true),by simp only[MR,hx];exact⟨true,rfl,rfl⟩,hr⟩
   .exact⟨U.set d (.OS false),by simp only[MR,hx];exact⟨false,rfl,rfl⟩,hr⟩
   .cases hr
  |_=>rw[hx] at hr;exact⟨U,by simp only[MR,hx],hr⟩
def Of{i:Nat}{t:IT}{h:Ah}{R:J6}:∀{fl:List KB},IT.step (Ca C) run (RS an i fl t) h=some R->(∀f∈fl,Eo an f.idx i=false->Bd h f.n f.p=some f.v)/\IT.step (Ca C) run t h=some R
 |[],hr=>⟨AH,hr⟩
 |f::fl,hr=>by
  unfold RS at hr;by_cases hb:Eo an f.idx i=true
  .rw[Ae hb] at hr;obtain⟨d,c⟩:=Of hr;refine⟨λg hg b=>?_,c⟩;rcases AT.1 hg with rfl|hg
   .rw[hb] at b;cases b
   .exact d g hg b
  .rw[Ac hb] at hr;simp only[IT.step] at hr;split at hr
   .rename_i v hv;split at hr
    .rename_i Ku;obtain⟨d,c⟩:=Of hr;refine⟨λg hg b=>?_,c⟩;rcases AT.1 hg with rfl|hg
     .rw[Aa.beq_eq Ku];exact hv
     .exact d g hg b
    .cases hr
   .cases hr
def Rh{K:BR->IT}{R:J6}:∀{rest:List Nat} {b:List (Nat×FP)} {fl:List KB} {U:BR} {h:Ah},IT.step (Ca C) run (Q8 C fid ops an rest b fl U K) h=some R->
  ∃L σf hf,Steps C fid ops run an fl L U h σf hf/\Wz ops.length an (b.reverse++L.map λs=>(s.idx,s.fp))=true/\IT.step (Ca C) run (K σf) hf=some R
 |[],b,fl,U,h,hr=>by
  unfold Q8 at hr;split at hr;.rename_i LL;exact⟨[],U,h,.nil,by simpa using LL,hr⟩
  .cases hr
 |i::rest,b,fl,U,h,hr=>by
  unfold Q8 at hr;cases ho:ops[i]? with
  |none=>rw[ho] at hr;cases hr
  |some o=>
   rw[ho] at hr;simp only at hr;split at hr
   .rename_i hg;split at hr;.cases hr
    .rename_i r hc;obtain⟨U1,h1,hd,hr⟩:=ZF hr;have FX:(r.RF=true->∀f∈fl,Eo an f.idx i=false->Bd h1 f.n f.p=some f.v)/\IT.step (Ca C) run (vA (if RT ops i then o.dst else none) U1 λj=>Q8 C fid ops an rest ((i,UP C ops U o (some r))::b) (MO i r U1 fl) j K) h1=some R:=by
      split at hr;.obtain⟨d,c⟩:=Of hr;exact⟨λ_=>d,c⟩
      .rename_i he;exact⟨λe=>absurd e he,hr⟩
     obtain⟨Uc,hr⟩:=FX;obtain⟨U',ha,hr⟩:=nz hr;rw[Xa] at hr;obtain⟨L,σf,hf,d,c,g⟩:=Rh hr;exact⟨{idx:=i,fp:=UP C ops U o (some r),fl:=K0 i r U1}::L,σf,hf,.cons ⟨o,ho,.inr ⟨r,U1,hg,hc,rfl,hd,rfl,ha⟩⟩ Uc d,by simpa using c,g⟩
   .rename_i hg;obtain⟨L,σf,hf,d,c,g⟩:=Rh hr;exact⟨{idx:=i,fp:=UP C ops U o none,fl:=none}::L,σf,hf,.cons ⟨o,ho,.inl ⟨hg,rfl,rfl,rfl,rfl⟩⟩ (λe=>by simp[UP] at e) d,by simpa using c,g⟩
   .cases hr
end
section
variable{C:FW}{γ0 γ:Gh}{w0 w:World}{O:Nat->Nat}{U:BR}{h:Ah}{a:Act}{fid:FuncId}
def LU(hr:C9 C γ0 w0 γ O U h a w){ops:Array Oper}{o:Oper}{b:Bool}(hg:IS ops.toList U o= .Nl b):Region.wanted o (yielded ops a.tmps)=b:=by
 unfold IS at hg;unfold Region.wanted;cases ho:o.guard with
 |none=>rw[ho] at hg;cases hg;rfl
 |some g=>
  obtain⟨j,want⟩:=g;rw[ho] at hg;simp only[aDQ] at hg⊢;unfold yielded;cases hd:(ops[j]?).bind (·.dst) with
  |none=>rw[hd] at hg;cases hg
  |some s=>
   rw[hd] at hg;simp only[Ct] at hg⊢;have h0:=hr.fr.Ii s;cases hx:U.at s with
   |OS c=>
    rw[hx] at hg h0;cases hg;have hl:s<a.tmps.size:=by rw[<-hr.fr.size];exact BR.Pe (by rw[hx];simp)
    have hv:a.tmps.getD s undef= .bool c:=h0;have:a.tmps[s]?=some (.bool c):=by rw[CR hl];rw[Hi,CR hl] at hv;exact Cb some hv
    rw[this];rfl
   |skip=>
    rw[hx] at hg h0;cases hg;have hv:a.tmps.getD s undef=undef:=h0;have hne:∀c,a.tmps[s]?≠some (.bool c):=λc hc=>by rw[Hi,hc] at hv;cases hv
    cases ht:a.tmps[s]? with
    |none=>rfl
    |some v=>
     cases v with
     |bool c=>exact absurd ht (hne c)
     |_=>rfl
   |val v=>rw[hx] at hg;cases hg
   |_=>rw[hx] at hg;cases hg
def C9.aEe(hr:C9 C γ0 w0 γ O U h a w){d:Option Nat}{U':BR}(ha:MR d U U'):C9 C γ0 w0 γ O U' h a w:=by
 unfold MR at ha;cases d with
 |none=>simp only at ha;rw[ha];exact hr
 |some d=>
  simp only at ha;cases hx:U.at d with
  |val v=>rw[hx] at ha;obtain⟨b,rfl,rfl⟩:=ha;have h0:=hr.fr.Ii d;rw[hx] at h0;exact hr.kK h0
  |_=>rw[hx] at ha;rw[ha];exact hr
structure aJj(ops:Array Oper)(listed:Array Bool)(L:List St):Prop where
 size:listed.size=ops.size
 un:∀i,i<ops.size->(listed.getD i false=false↔i∈L.map (·.idx))
 closed:∀j,listed.getD j false=true->∀e,Eo (Wx ops.toList) e j=true->listed.getD e false=true
abbrev vT(an:List Nat)(L:List St):Prop:=L.Pairwise λx y=>x.idx≠y.idx/\Eo an y.idx x.idx=false/\(Eo an x.idx y.idx=true\/Q7 x.fp y.fp=true)
def cz{run:IT->Ah->Option J6}(D:Fe C run){ops:Array Oper}{Q:Exit->Act->World->Prop}(F9:bK ops.toList=true){σf:BR}{hf:Ah}(hQ:∀γ' k a' w',C9 C γ0 w0 γ' k σf hf a' w'->Q .normal a' w'):
  ∀(fuel:Nat) (L:List St) (listed:Array Bool) (γ:Gh) (O:Nat->Nat) (U:BR) (h:Ah) (a:Act) (w:World),L.length=fuel->Steps C fid ops.toList run (Wx ops.toList) [] L U h σf hf->vT (Wx ops.toList) L->aJj ops listed L->C9 C γ0 w0 γ O U h a w->
   wpAny C.P .any ops Q fuel listed a w:=by
 intro fuel;induction fuel with
 |zero=>
  intro L listed γ O U h a w l hs hp ho hr;have u:L=[]:=Dn l;subst u;cases hs;refine⟨List.eq_nil_iff_forall_not_mem.2 λi hi=>?_,hQ _ _ _ _ hr⟩;obtain⟨h0,o,xe,_⟩:=mem_ready.1 hi;have hlt:i<ops.size:=(A5.1 xe).1;have Y6:listed.getD i false=false:=by
   have hl:i<listed.size:=by rw[ho.size];exact hlt
   simpa[Array.getD,hl] using h0
  have:=(ho.un i hlt).1 Y6;simp at this
 |succ fuel ih=>
  intro L listed γ O U h a w l hs hp ho hr;have bW:∀i,i<ops.size->listed.getD i true=listed.getD i false:=λi hi=>by
   have hl:i<listed.size:=by rw[ho.size];exact hi
   simp[Array.getD,hl]
  constructor
  .intro Uc;exfalso;cases L with
   |nil=>simp at l
   |cons s0 L=>
    obtain⟨o,xe,_⟩:∃o,ops.toList[s0.idx]?=some o/\True:=by
     cases hs with
     |cons h1 _ _=>obtain⟨o,h2,_⟩:=h1;exact⟨o,h2,trivial⟩
    have qM:ops[s0.idx]?=some o:=by simpa using xe
    have hlt:s0.idx<ops.size:=(A5.1 qM).1;have:s0.idx∈Region.ready .any ops listed:=by
     refine mem_ready.2 ⟨?_,o,qM,λe he hb=>?_⟩;.rw[bW _ hlt];exact(ho.un _ hlt).2 AH
     .have f:e.on∈Oper.UO o:=Ci.2 ⟨e,by simpa using he,by rw[Ae hb]⟩;have z:=Po F9 xe e.on f;cases hl:listed.getD e.on false with
      |true=>rfl
      |false=>
       have hm:=(ho.un e.on Ab).1 hl;simp only[Bk,AT] at hm;rcases hm with hm|hm
       .omega
       .obtain⟨y,hy,m⟩:=Bj.1 hm;have:=((aMU.1 hp).1 y hy).2.1;rw[m,(ZV xe (Po F9 xe) e.on).2 ⟨e.on,f,.inl rfl⟩] at this;cases this
    rw[Uc] at this;cases this
  .intro i hi;obtain⟨h0,o,xe,aEf⟩:=mem_ready.1 hi;have hlt:i<ops.size:=(A5.1 xe).1;rw[bW i hlt] at h0;obtain⟨s,n,rfl⟩:=Bj.1 ((ho.un i hlt).1 h0);obtain⟨A,B,rfl⟩:=List.append_of_mem n;have qM:ops.toList[s.idx]?=some o:=by simpa using xe
   have aEg:∀e,Eo (Wx ops.toList) e s.idx=true->listed.getD e false=true:=λe he=>by
    obtain⟨d,hd,Jc⟩:=(ZV qM (Po F9 qM) e).1 he;obtain⟨E,f,hb⟩:=Ci.1 hd;split at hb
    .rename_i P9;cases hb;have o9:=aEf E (by simpa using f) P9;rcases Jc with rfl|Jc
     .exact o9
     .exact ho.closed _ o9 e Jc
    .cases hb
   have b:=(aH0.1 hp).2.2;have aAW:∀p∈A++s::B,p.idx<ops.size:=λp t=>by simpa using hs.lt p t
   obtain⟨U1,h1,x,_,v⟩:=Ō hs λp g=>by
    have hb:Eo (Wx ops.toList) p.idx s.idx=false:=by
     cases P9:Eo (Wx ops.toList) p.idx s.idx with
     |false=>rfl
     |true=>have h1:=aEg _ P9;have h2:=(ho.un p.idx (aAW p (by simp[g]))).2 (Bj.2 ⟨p,by simp[g],rfl⟩);rw[h1] at h2;cases h2
    refine⟨?_,hb⟩;have:=(b p g s AH).2.2;rw[hb] at this;exact this.resolve_left AH
   have ō:∀γ' k a' w',C9 C γ0 w0 γ' k U1 h1 a' w'->wpAny C.P .any ops Q fuel (listed.setIfInBounds s.idx true) a' w':=λγ' k a' w' FX=>by
    refine ih (A++B) _ γ' k U1 h1 a' w' (by simp at l⊢;omega) (v.sub AH) ?_ ⟨by simp[ho.size],λj hj=>?_,λj hj e he=>?_⟩ FX;.exact hp.sublist ((A4 A).append (T1 s B))
    .by_cases c:j=s.idx
     .subst c;have aAX:s.idx∉(A++B).map (·.idx):=λhm=>by
       obtain⟨q,hq,he⟩:=Bj.1 hm;rcases Ax.1 hq with hq|hq
       .exact(b q hq s AH).1 he
       .exact(aMU.1 (aH0.1 hp).2.1).1 q hq |>.1 he.symm
      have ht:(listed.setIfInBounds s.idx true).getD s.idx false=true:=by
       have hl:s.idx<listed.size:=by rw[ho.size];exact hlt
       simp[Array.getD,hl]
      rw[ht];exact⟨λe=>absurd e AH,λe=>absurd e aAX⟩
     .rw[getD_set_ne false (λe=>c e.symm),ho.un j hj];simp only[BF,Bk,Ax,AT];constructor
      .rintro(e|e|e);.exact .inl e
       .exact absurd e c
       .exact .inr e
      .rintro(e|e);.exact .inl e
       .exact .inr (.inr e)
    .by_cases c:j=s.idx;.subst c;exact getD_set_true (aEg e he)
     .rw[getD_set_ne false (λe=>c e.symm)] at hj;exact getD_set_true (ho.closed j hj e he)
   unfold wpOp;rw[xe];obtain⟨o',xc,⟨hg,_,_,rfl,rfl⟩|⟨r,F,hg,hc,_,hd,_,ha⟩⟩:=x;.rw[qM] at xc;cases xc;simp only[LU hr hg,Cy,Ea];exact ō _ _ _ _ (hr.put λ_ _=>rfl)
   .rw[qM] at xc;cases xc;simp only[LU hr hg,BL];exact .inl (nl D hc hd hr λγ' k a' w' FX=>ō γ' k a' w' (FX.aEe ha))
end
end Go.Am
end
end
