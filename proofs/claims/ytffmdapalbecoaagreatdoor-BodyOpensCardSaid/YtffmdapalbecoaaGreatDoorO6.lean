/- Lemmas -/
import Derived.Test.YtffmdapalbecoaaGreatDoorO5
import Derived.MapKept
set_option linter.all false
open List renaming length→zz,getD→yh
open Option renaming some→zy,none→zw
open Go.Instr renaming findNow→zx,sameNow→zm,mapUpdate→z0,sliceBound→z4,lookup→z5,checkKey→z7,mapEntry→y6,sliceBounds→xv
open Go.Value renaming string→zu,slice→zl,int→yk,pointer→y3
open Bool renaming false→zt,true→zs
open Go.Builtin renaming zeroCells→zr,clear_→zk,append_→zh,copy_→z2
open Go.MapKept renaming run_getObj_map→zq,run_findKey→zp,run_setObj_map→zj,run_checkKey→z1,IsKey→z3
open Go.Am.Gw renaming value→zo
open Go.Result renaming andThen_ok→zn,andThen→z8,ok→y8
open Go.Sem renaming run_bind→zi,run_pure→z6
open Go.Am.Aa renaming int→z9,beq→ye,tuple→y4
open Go.Am.E8 renaming wf→yg
open Go.Am.DG renaming cells→xt
open Go.Am.EL renaming val→y9
open Go.Am.IT renaming step→xx
open Go.Am.Oper renaming WR→xu
open Go.Program renaming elem→xp
section
namespace Go.Am
open Go
section
variable{C:GN}{γ0 γ γ':Gh}{w0 w w':World}{Z:Nat->Nat}{U:BU}{h:Ah}{a:Act}{fid:FuncId}{ops:List Oper}
def YQ{s t:Ai}(h:s≠t):((⟨⟨s⟩⟩:ByteArray)==⟨⟨t⟩⟩)=zt:=by refine Bool.eq_false_iff.2 λhc=>h ?_;have:=(MapKept.bytes_beq _ _).1 hc;grind
def SJ(s:Ai):((⟨⟨s⟩⟩:ByteArray)==⟨⟨s⟩⟩)=zs:=(MapKept.bytes_beq _ _).2 rfl
def qS{s:Ai}:∀{es:List (Aa×Aa)} {l:List MapEntry} {i:Nat} {r:Option Aa},LP γ es l->Tl s es=zy r->
  match r with
  |zw=>zx .string (zu ⟨⟨s⟩⟩) l i=zy zw
  |zy v=>∃(j:Nat) (e:MapEntry),zx .string (zu ⟨⟨s⟩⟩) l i=zy (zy (i+j,e.val))/\BT γ v e.val
 |[],l,i,r,b,hf=>by rw[show l=[] from b];cases hf;rfl
 |(k,v)::es,l,i,r,b,hf=>by
  obtain⟨e,l',rfl,h1,h2,f⟩:=b;unfold Tl at hf;split at hf;.grind
  .rename_i t v' WT NB;cases NB;have hk:e.key= zu ⟨⟨t⟩⟩:=h1;split at hf;.rename_i Ia;subst Ia;cases hf;exact⟨0,e,by simp[zx,hk,zm,SJ],h2⟩
   .rename_i Ia;have ih:=qS (i:=i+1) f hf;have hne:=YQ Ia;cases r with
    |none=>simpa[zx,hk,zm,hne] using ih
    |some v2=>let⟨j,g,d,c⟩:=ih;exact⟨j+1,g,by simp[zx,hk,zm,hne];rw[d];congr 3;omega,c⟩
  .cases hf
def ez{s:Ai}{v:Aa}{u:Value}(hv:BT γ v u):∀{es WT:List (Aa×Aa)} {l:List MapEntry} {i:Nat},LP γ es l->Od s v es=zy WT->
  (zx .string (zu ⟨⟨s⟩⟩) l i=zy zw/\∀born,LP γ WT (l++[{key:= zu ⟨⟨s⟩⟩,val:=u,born}]))\/
  ∃j e,zx .string (zu ⟨⟨s⟩⟩) l i=zy (zy (i+j,e.val))/\l[j]?=zy e/\e.key= zu ⟨⟨s⟩⟩/\LP γ WT (l.modify j λe=>{e with key:= zu ⟨⟨s⟩⟩,val:=u})
 |[],WT,l,i,d,hp=>by rw[show l=[] from d];cases hp;exact .inl ⟨rfl,λborn=>⟨_,[],rfl,rfl,hv,rfl⟩⟩
 |(k,v0)::es,WT,l,i,d,hp=>by
  obtain⟨e,l',rfl,h1,h2,f⟩:=d;unfold Od at hp;split at hp;next NB=>cases NB
  .rename_i t v' o NB;cases NB;have hk:e.key= zu ⟨⟨t⟩⟩:=h1;split at hp;.rename_i Ia;subst Ia;cases hp;exact .inr ⟨0,e,by simp[zx,hk,zm,SJ],rfl,hk,_,l',rfl,rfl,hv,f⟩
   .rename_i Ia;have hne:=YQ Ia;cases hq:Od s v es with
    |none=>rw[hq] at hp;cases hp
    |some n=>
     rw[hq] at hp;cases hp;rcases ez hv (i:=i+1) f hq with⟨c,b⟩|⟨j,p,c,b,m,g⟩
     .exact .inl ⟨by simpa[zx,hk,zm,hne] using c,λborn=>⟨e,_,rfl,h1,h2,b born⟩⟩
     .exact .inr ⟨j+1,p,by simp[zx,hk,zm,hne];rw[c];congr 3;omega,b,m,e,_,AH,h1,h2,g⟩
  .cases hp
def Va{es:Array MapEntry}{clock:Nat}{k v:Value}(h:clock=es.size/\∀(i:Nat) (e:MapEntry),es[i]?=zy e->e.born=i):
 clock+1=(es.push {key:=k,val:=v,born:=clock}).size/\∀(i:Nat) (e:MapEntry),(es.push {key:=k,val:=v,born:=clock})[i]?=zy e->e.born=i:=by grind
def VX{es:Array MapEntry}{clock j:Nat}{f:MapEntry->MapEntry}(h:clock=es.size/\∀(i:Nat) (e:MapEntry),es[i]?=zy e->e.born=i)(hf:∀e,(f e).born=e.born):
 clock=(es.modify j f).size/\∀(i:Nat) (e:MapEntry),(es.modify j f)[i]?=zy e->e.born=i:=by grind
def Ol(hi:HK γ h w){g id:Nat}{es WT:List (Aa×Aa)}(TE:h[id]?=zy (.map es))(hg:γ.mu id=zy g){o:Obj}{ents':Array MapEntry}{clock':Nat}(hw:w.heap[g]?=zy o)(hr:xw γ WT ents' clock'):
  HK γ (h.set id (.map WT)) {w with heap:=w.heap.setIfInBounds g (.map ents' clock')}/\LQ γ w γ {w with heap:=w.heap.setIfInBounds g (.map ents' clock')}:=by
 let⟨l,p,UN⟩:=hi.MR id _ TE AH;rw[hg] at p;cases p;let⟨Og,c⟩:=MapKept.heap_set (o':= .map ents' clock') hw;have uniq:∀Gv x,h[Gv]?=zy x->x≠ .CU->γ.mu Gv=zy g->Gv=id:=λGv x hx e hm=>by let⟨b',p,q⟩:=hi.MR Gv x hx e;rw[hm] at p;cases p;rw[UN] at q;cases q;rfl
 constructor
 .refine⟨λb o v hb=>?_,λGv y IC hy=>?_,λGv cs hc b hb=>?_,λGv f hc b hb=>?_,λGv b hb=>zv (hi.mu Gv b hb),λb x hx=>?_,λb n hb=>?_⟩;rotate_left 5
  .let⟨⟨wD,j,xz,p,q⟩,r⟩:=hi.sz b n hb;have hne:b≠g:=λhe=>by subst he;let⟨i,d,k,_⟩:=hi.map id es TE b hg;rw[p] at k;cases k
   exact⟨⟨wD,j,xz,by rwa[c b hne],q⟩,r⟩
  .let⟨p,q,r⟩:=hi.IZ b o v hb;have:b≠g:=λhe=>by subst he;rw[UN] at r;obtain r|⟨_,_,_,r,_⟩:=r<;>cases r
   exact⟨by rwa[CX (w:=w) (c b this)],q,r⟩
  .by_cases he:Gv=id;.subst he;exact⟨g,hg,UN⟩
   .rw[Au (λx=>he x.symm)] at IC;exact hi.MR Gv y IC hy
  .by_cases he:Gv=id;.subst he;rw[AY (hi.mu _ _ hg)] at hc;cases hc
   .rw[Au (λx=>he x.symm)] at hc;have Te:b≠g:=λhx=>by subst hx;exact he (uniq Gv _ hc AH hb)
    let⟨wD,j,xz,p,pf,q,r⟩:=hi.cells Gv cs hc b hb;exact⟨wD,j,xz,by rwa[c b Te],pf,q,r⟩
  .by_cases he:Gv=id;.subst he;rw[hg] at hb;cases hb;rw[AY (hi.mu _ _ hg)] at hc;cases hc;exact⟨ents',clock',Og,hr⟩
   .rw[Au (λx=>he x.symm)] at hc;have Te:b≠g:=λhx=>by subst hx;exact he (uniq Gv _ hc AH hb)
    let⟨DL,clock,p,q⟩:=hi.map Gv f hc b hb;exact⟨DL,clock,by rwa[c b Te],q⟩
  .have:=hi.Bu b x hx;exact zv this
 .refine⟨.refl _,AH,rfl,rfl,rfl,λb hb hn=>⟨?_,rfl⟩⟩;exact c b (λhe=>by subst he;exact hn id UN)
def SK(hr:Dd C γ0 w0 γ Z U h a w){x y z:Operand}{d c b:Aa}(ha:BC C U [x,y,z]=zy [d,c,b]):BT γ d (a.eval x)/\BT γ c (a.eval y)/\BT γ b (a.eval z):=by let⟨_,_,_,e,h1,h2,f⟩:=(Ee hr ha).VR;grind
def qT{o:Oper}{t kt e:TypeId}{m k x:Operand}{n p g:Aa}{h':Ah}(ho:o.op= .insert t m k x\/o.op= .mapUpdate t m k x)(hd:o.dst=zw)(ht:C.P.underlying t=zy (.map kt e))(hk:C.P.underlying kt=zy .string)(ha:BC C U [m,k,x]=zy [n,p,g])
  (hm:RV h n p g=zy h') (hr:Dd C γ0 w0 γ Z U h a w):Gw C γ0 w0 o a w U h':=by
 let⟨h1,h2,v⟩:=SK hr ha;have Nw:∀w',(z0 t (a.eval m) (a.eval k) (a.eval x)).run C.P w= y8 () w'->(execOp a.eval o).run C.P w= y8 .skip w':=λw' Bb=>by obtain ho|ho:=ho<;>simp[execOp,ho,Bb]
 unfold RV at hm;split at hm
 .rename_i id s;let⟨b,hb,pq⟩:=h1;have c:a.eval k= zu ⟨⟨s⟩⟩:=h2;split at hm
  .rename_i es TE;cases hp:Od s g es with
   |none=>rw[hp] at hm;cases hm
   |some WT=>
    rw[hp] at hm;cases hm;let⟨DL,clock,hw,u,hB⟩:=hr.Eh.map id es TE b hb;have pv:(z7 zt 10000 kt (zu ⟨⟨s⟩⟩)).run C.P w= y8 () w:=z1 (k:= zu ⟨⟨s⟩⟩) hk (by simp[z3]) zt 9999;rcases ez v (i:=0) u hp with⟨f,l⟩|⟨j,en,f,l,r,q⟩
    .have Bb:(z0 t (a.eval m) (a.eval k) (a.eval x)).run C.P w= y8 () {w with heap:=w.heap.setIfInBounds b (.map (DL.push {key:= zu ⟨⟨s⟩⟩,val:=a.eval x,born:=clock}) (clock+1))}:=by rw[pq,c];simp[z0,run_underlying ht,zq hw,pv,zp hk f,zj _ hw,z8]
     let⟨hi,KK⟩:=Ol (WT:=WT) (ents':=DL.push {key:= zu ⟨⟨s⟩⟩,val:=a.eval x,born:=clock}) (clock':=clock+1) hr.Eh TE hb hw ⟨zv (l clock),Va hB⟩;exact Gw.skip (Nw _ Bb) (by rw[hd];exact hr.JF hi KK)
    .have hj:DL[j]?=zy en:=zv l
     rw[B2] at f;have Bb:(z0 t (a.eval m) (a.eval k) (a.eval x)).run C.P w= y8 () {w with heap:=w.heap.setIfInBounds b (.map (DL.modify j λe=>{e with key:= zu ⟨⟨s⟩⟩,val:=a.eval x}) clock)}:=by rw[pq,c];simp[z0,run_underlying ht,zq hw,pv,zp hk f,hj,r,MapKept.run_keyThatStays (d:= .string) (k:= zu ⟨⟨s⟩⟩) (by simp[z3]),zj _ hw,z8]
     let⟨hi,KK⟩:=Ol (WT:=WT) (ents':=DL.modify j λe=>{e with key:= zu ⟨⟨s⟩⟩,val:=a.eval x}) (clock':=clock) hr.Eh TE hb hw ⟨zv q,VX hB λ_=>rfl⟩;exact Gw.skip (Nw _ Bb) (by rw[hd];exact hr.JF hi KK)
  .cases hm
 .cases hm
def yq{o:Oper}{t:TypeId}(ho:o.op= .makeMap t zw)(hr:Dd C γ0 w0 γ Z U h a w):Gw C γ0 w0 o a w (U.put o.dst (y9 (.map (zy (zz h))))) (h++[.map []]):=by
 let⟨hi,ha⟩:=Hp hr.Eh (.map #[] 0) (.map []) zw (.inr ⟨rfl,rfl,rfl⟩);have Bb:(Instr.makeMap t zw).run C.P w= y8 (.map (zy w.heap.size)) (w.alloc (.map #[] 0)):=by simp[Instr.makeMap]
 exact zo (by simp[execOp,ho];exact DU Bb) ((hr.JF hi ha).put λ_ _=>⟨w.heap.size,by simp[Gh.BW],rfl⟩)
def LG(key elem:TypeId)(index:Value)(commaOk:Bool)(es:Array MapEntry):Sem Value:=do
 z7 es.isEmpty 10000 key index
 let(v,ok)<-match<-Instr.findKey key index es.toList with
  |zy (_,v)=>pure (v,zs)
  |zw=>pure (<-zeroValue elem,zt)
 pure (if commaOk then .tuple #[v,.bool ok] else v)
def yr{o:Oper}{t kt e:TypeId}{m k:Operand}{d f z r:Aa}{ok:Bool}(ho:o.op= .lookup t m k ok)(ht:C.P.underlying t=zy (.map kt e))(hk:C.P.underlying kt=zy .string)(hz:HA C.P e=zy z)(ha:BC C U [m,k]=zy [d,f])(hm:Qb h z ok d f=zy r)(hr:Dd C γ0 w0 γ Z U h a w):
  Gw C γ0 w0 o a w (U.put o.dst (y9 r)) h:=by
 let⟨_,_,e0,h1,h2⟩:=FA hr ha;cases e0;let⟨l,vu,g⟩:=ID hz;have He:∀(es:Array MapEntry) (q:Option Aa),(z5 t (a.eval m) (a.eval k) ok).run C.P w=(LG kt e (a.eval k) ok es).run C.P w->
   ∀s,a.eval k= zu ⟨⟨s⟩⟩->(match q with|zw=>zx .string (zu ⟨⟨s⟩⟩) es.toList 0=zy zw|zy v=>∃(j:Nat) (e:MapEntry),zx .string (zu ⟨⟨s⟩⟩) es.toList 0=zy (zy (0+j,e.val))/\BT γ v e.val)->
   (match q with|zy v=>if ok then Aa.tuple [v,.bool zs] else v|zw=>if ok then y4 [z,.bool zt] else z)=r->Gw C γ0 w0 o a w (U.put o.dst (y9 r)) h:=by
  intro es q TE s ř hq VW;have pv:(z7 es.isEmpty 10000 kt (zu ⟨⟨s⟩⟩)).run C.P w= y8 () w:=z1 (k:= zu ⟨⟨s⟩⟩) hk (by simp[z3]) es.isEmpty 9999;have Bb:∃v,(z5 t (a.eval m) (a.eval k) ok).run C.P w= y8 v w/\BT γ r v:=by
   cases q with
   |none=>
    refine⟨if ok then .tuple #[l,.bool zt] else l,?_,?_⟩;.rw[TE,ř];rw[LG];simp[zi,zn,pv,zp hk hq,g,zi,z6]
    .rw[<-VW];have c:=FO (γ:=γ) vu;cases ok with
     |true=>exact⟨_,rfl,_,_,rfl,c,_,_,rfl,rfl,rfl⟩
     |false=>exact c
   |some v=>
    let⟨j,en,p,n⟩:=hq;refine⟨if ok then .tuple #[en.val,.bool zs] else en.val,?_,?_⟩;.rw[TE,ř];rw[LG];simp[zi,zn,pv,zp hk p,zi,z6]
    .rw[<-VW];cases ok with
     |true=>exact⟨_,rfl,_,_,rfl,n,_,_,rfl,rfl,rfl⟩
     |false=>exact n
  let⟨v,Bb,et⟩:=Bb;exact zo (by simp only[execOp,ho];exact DU Bb) (hr.put λ_ _=>et)
 rw[Qb] at hm;cases hf:UR h d f with
 |none=>rw[hf] at hm;cases hm
 |some q=>
  rw[hf] at hm;simp[B6,BF] at hm;unfold UR at hf;split at hf;next s=>cases hf;exact He #[] zw (by simp only[show a.eval m=_ from h1,Instr.lookup,LG,Sem.run_bind,run_underlying ht,Result.andThen_ok,Sem.run_pure];rfl) s h2 rfl hm
  .rename_i id s;let⟨b,hb,pq⟩:=h1;split at hf;.rename_i es TE;let⟨DL,clock,hw,u,_⟩:=hr.Eh.map id es TE b hb;exact He DL q (by simp only[pq,Instr.lookup,LG,Sem.run_bind,run_underlying ht,MapKept.run_getObj_map hw,Result.andThen_ok,Sem.run_pure];rfl) s h2 (qS (i:=0) u hf) hm
   .cases hf
  .cases hf
def YR{size:Nat}{v:Aa}(h:Qc size v=zs):v= .slnil\/v= .GI size\/v= .sl size []:=by unfold Qc at h;grind
def px{o:Oper}{c:Call}{t t' e:TypeId}{n b:Nat}{s x:Operand}{v u r:Aa}{h':Ah}(ho:o.op= .call c)(hc:c.callee= .builtin .append)(h0:c.argTypes[0]?=zy t)(h1:c.argTypes[1]?=zy t')(Fb:c.args.toList=[s,x])(ht:C.P.underlying t=zy (.slice e))
  (FX:(∃e',C.P.underlying t'=zy (.slice e'))\/C.P.underlying t'=zy .string) (LC:B7 C.P e=zy (n+1)) (yl:KF C.P e=zy (b+1)) (Gf:LN C U s=zs) (pU:MP C.P e=zs) (hv:BC C U [s,x]=zy [v,u])
  (hp:Lj h (n+1) (b+1) v u=zy (h',r)) (hr:Dd C γ0 w0 γ Z U h a w):Gw C γ0 w0 o a w ((U.D5 (Dx U s)).put o.dst (.val r)) h':=by
 obtain⟨i,z,hi,hz,hZ⟩:=LV pU;have RK:=Ko LC hi;have H:=Mu yl hi;obtain⟨_,_,e0,hvs,vQ⟩:=FA hr hv;cases e0;have G:Ft C U s=zy v:=by
  unfold BC at hv;split at hv;.rename_i p ps J L;cases hv;exact J
  .cases hv
 have JG:Qc (n+1) v=zs/\((∃AD,Ip (n+1) (b+1) .slnil u=zy (.sl (n+1) AD)/\AD≠[]/\u= .sl (n+1) AD/\AD.length*(b+1)<=A0/\h'=h++[.cells AD.flatten]/\r= .CC h.length 0 AD.length (n+1))\/((u= .slnil\/(∃B,u= .GI B)\/∃B,u= .sl B [])/\h'=h/\r=v)):=by
  unfold Lj at hp;split at hp
  .rename_i B AD;split at hp
   .rename_i Xw;refine⟨Xw,?_⟩;split at hp;.cases hp;exact .inr ⟨.inr (.inr ⟨_,rfl⟩),rfl,rfl⟩
    .rename_i hne;split at hp
     .rename_i Ir;cases hp;obtain⟨rfl,hb⟩:=Ir;refine .inl ⟨AD,?_,hne,rfl,hb,rfl,rfl⟩;cases AD with
      |nil=>cases hne rfl
      |cons q AD=>simp only[Ip,D0,BR];rw[Af hb]
     .cases hp
   .cases hp
  .split at hp;.rename_i Xw;cases hp;exact⟨Xw,.inr ⟨.inl rfl,rfl,rfl⟩⟩
   .cases hp
  .split at hp;.rename_i Xw;simp only[Bq] at Xw;cases hp;exact⟨Xw.1,.inr ⟨.inr (.inl ⟨_,rfl⟩),rfl,rfl⟩⟩
   .cases hp
  .cases hp
 obtain⟨Xw,JG⟩:=JG;obtain⟨F,EH,KA,DR,m⟩:=Qm hr Gf G (U.D5 (Dx U s)).length zw;have NB:c.args.map a.eval=#[a.eval s,a.eval x]:=by apply HW;simp[Fb]
 have Nw:∀v' w',(zh #[t,t'] o.type #[a.eval s,a.eval x]).run C.P w= .ok v' w'->(execOp a.eval o).run C.P w= .ok (.value v') w':=λv' w' Bb=>by
  have:execOp a.eval o=(do pure (Next.value (<-zh #[t,t'] o.type #[a.eval s,a.eval x]))):=by rw[<-NB,<-O4 (ty:=o.type) h0 h1];simp only[execOp,ho,resolve,hc];rfl
  rw[this];exact DU Bb
 have e_:(a.eval s= .slice zw 0 0/\v= .slnil)\/(∃g cap us y,a.eval s= .slice (zy ⟨g,0,zw⟩) 0 cap/\v= .sl (n+1) []/\F.Bu g=zy (.tail (U.D5 (Dx U s)).length zw 0)/\w0.heap.size<=g/\w.heap[g]?=zy (.cells us y (0,0))/\us.size=cap*(n+1)/\cap<=maxLen)\/∃g,a.eval s= .slice (zy ⟨g,0,zw⟩) 0 0/\v= .GI (n+1):=by
  rcases m with(m|⟨I,m⟩)|⟨g,k,cap,us,y,I,rr,wW,J9,UN,hB,hg,dE,Œ,hm,K⟩
  .rw[m] at DR;exact .inl ⟨DR,m⟩
  .rcases YR Xw with fc|fc|fc
   .rw[fc] at m;cases m
   .rw[fc] at DR;obtain⟨g,DR⟩:=DR;exact .inr (.inr ⟨g,DR,fc⟩)
   .rw[fc] at m;cases m
  .rcases YR Xw with fc|fc|fc
   .rw[fc] at wW;cases wW
   .rw[fc] at wW;cases wW
   .rw[fc] at wW;cases wW;have hk:k=0:=by rw[fc,J9] at DR;obtain⟨A,f,qQ,_⟩:=DR;simp only[Value.slice.injEq] at qQ;exact qQ.2.1
    subst hk;exact .inr (.inl ⟨g,cap,us,y,J9,fc,by simpa using UN,hB,hg,dE,hm⟩)
 rcases JG with⟨AD,GV,hne,D,Rg,rfl,rfl⟩|⟨D,rfl,rfl⟩
 .obtain⟨d,news,Qo,K0,aC6,vP⟩:=ey (w:=w) FX hr.Eh vQ GV;have qU:d=AD:=by
   cases d with
   |nil=>simp[D0] at Qo
   |cons q d=>
    simp only[D0] at Qo;split at Qo;.cases Qo;rfl
    .cases Qo
  subst qU;have ym:=Bp.mono EH _ _ aC6;have KJ:Src C.P i.size t' (a.eval x) d.length news w:=by rw[RK];exact K0
  have PH:news.length=d.length*(n+1):=K0.newsLen;have HB:d.flatten.length=news.length:=by rw[aC6.length]
  have hpos:0<d.length:=Ej.2 hne;have Te:d.length<=A0:=Bv (Jk _ (Db b)) Rg;have J7:∀(base:Option Addr) (cap:Nat),a.eval s= .slice base 0 cap->(Builtin.firstCells i.size 0 (.slice base 0 cap)).run C.P w.drew= .ok #[] w.drew->cap<d.length->
    Gw C γ0 w0 o a w ((U.D5 (Dx U s)).put o.dst (.val (.CC h.length 0 d.length (n+1)))) (h++[.cells d.flatten]):=by
   intro base cap hs l hlt;have GF:=run_append_grow_src (P:=C.P) w t t' o.type e i z ht hi hz base 0 cap [] l (a.eval x) d.length news KJ Ab (by simp only[A0] at Te;omega) (by rw[H,B2];exact growslice_fits hlt Rg);rw[<-hs,B2] at GF;have Et:=grownCap_ge w d.length cap e;have VY:(([]++news).toArray++zr z.cells (grownCap w d.length cap e-d.length)).toList.take d.flatten.length=news:=by simp only[Hy,BY];rw[HB];exact FW
   have yt:(([]++news).toArray++zr z.cells (grownCap w d.length cap e-d.length)).size=grownCap w d.length cap e*(n+1):=by simp only[Ky,Ca,size_zeroCells,hZ,RK,BY,PH,<-B9];congr 1;omega
   obtain⟨E,qO,TF,LU,TG⟩:=KA.drew.newObj (([]++news).toArray++zr z.cells (grownCap w d.length cap e-d.length)) e (0,0) d.flatten (.inl rfl) (by rw[VY];exact ym) (by rw[VY];exact K0.one);exact zo (Nw _ _ GF) (LU.put λ_ _=>⟨w.heap.size,_,TF,rfl,Et,⟨Db n,grownCap_le_maxLen w _ _ _ (by simp only[A0] at Te;simp only[maxLen];omega)⟩,by rw[B2,<-yt];exact TG⟩)
  rcases e_ with⟨J9,rfl⟩|⟨g,cap,us,y,J9,rfl,UN,hB,hg,dE,Ś⟩|⟨g,J9,rfl⟩
  rotate_left 2;.exact J7 (zy ⟨g,0,zw⟩) 0 J9 (by simpa using run_firstCells_some (P:=C.P) w.drew i.size 0 ⟨g,0,none⟩ 0 0 [] AH AH) hpos
  .exact J7 zw 0 J9 (run_firstCells_none _ _ _ _ _) hpos
  .by_cases hroom:d.length<=cap
   .have hfit:news.length<=us.size:=by rw[PH,dE];exact Ea _ hroom
    have Bb:=run_append_room_src (P:=C.P) w t t' o.type e i ht hi g 0 0 cap (a.eval x) d.length news KJ Ab (λj hj=>by rw[cell_of_row w _ _ us y (0,0) hg,RK,Eb Ab];rfl) (λj hj=>frozen_of_row w _ _ us y hg)
    rw[VM,B2,B2,Fa news 0 us w hg Ab,<-J9] at Bb;have VY:((us.toList.take 0++news++us.toList.drop (0+news.length)).toArray).toList.take d.flatten.length=news:=by simp only[KU,BY];rw[HB];exact FW
    obtain⟨E,qO,TF,LU,TG⟩:=KA.aId UN hB hg (us.toList.take 0++news++us.toList.drop (0+news.length)).toArray d.flatten (by rw[VY];exact ym) (by rw[VY];exact K0.one);exact zo (Nw _ _ Bb) (LU.put λ_ _=>⟨g,cap,TF,rfl,hroom,⟨Db n,Ś⟩,by rw[TG,B2,<-dE];simp;omega⟩)
   .exact J7 (zy ⟨g,0,zw⟩) cap J9 (by simpa using run_firstCells_some (P:=C.P) w.drew i.size 0 ⟨g,0,none⟩ 0 cap [] AH AH) Ab
 .have K0:Src C.P i.size t' (a.eval x) 0 [] w:=by
   obtain rfl|⟨B,rfl⟩|⟨B,rfl⟩:=D
   .rw[show a.eval x=_ from vQ];exact⟨FX,λ_=>rfl,run_firstCells_none w _ 0 0 0,run_firstCells_none w.drew _ 0 0 0,AH,AH⟩
   .obtain⟨g0,qQ⟩:=vQ;rw[qQ];exact⟨FX,λ_=>rfl,by simpa using run_firstCells_some (P:=C.P) w i.size 0 ⟨g0,0,none⟩ 0 0 [] AH AH,by simpa using run_firstCells_some (P:=C.P) w.drew i.size 0 ⟨g0,0,none⟩ 0 0 [] AH AH,AH,AH⟩
   .obtain⟨A,f,qQ,_⟩:=vQ;rw[qQ];exact⟨FX,λ_=>rfl,by simpa using run_firstCells_some (P:=C.P) w i.size 0 A 0 f [] AH AH,by simpa using run_firstCells_some (P:=C.P) w.drew i.size 0 A 0 f [] AH AH,AH,AH⟩
  rcases e_ with⟨J9,rfl⟩|⟨g,cap,us,y,J9,rfl,UN,hB,hg,dE,Ś⟩|⟨g,J9,rfl⟩
  rotate_left 2;.have Bb:=run_append_room_src (P:=C.P) w t t' o.type e i ht hi g 0 0 0 (a.eval x) 0 [] K0 Ab AH AH;rw[<-J9] at Bb;simp only[World.setCells] at Bb;exact zo (Nw _ _ Bb) (KA.put λ_ _=>DR)
  .have Bb:(zh #[t,t'] o.type #[a.eval s,a.eval x]).run C.P w= .ok (.slice zw 0 0) w:=by rw[J9];have hl:=K0.len;have Xx:=K0.cells;rcases FX with⟨e',hk⟩|hk<;>simp[zh,run_underlying ht,run_underlying hk,sizeOf,typeInfo,hi,hl,Xx]
   exact zo (Nw _ _ Bb) (KA.put λ_ _=>rfl)
  .have Bb:=run_append_room_src (P:=C.P) w t t' o.type e i ht hi g 0 0 cap (a.eval x) 0 [] K0 Ab AH AH;rw[<-J9] at Bb;simp only[World.setCells] at Bb;exact zo (Nw _ _ Bb) (KA.put λ_ _=>DR)
section
variable(hr:Dd C γ0 w0 γ Z U h a w)
def Dd.kill(id:Nat):Dd C γ0 w0 γ Z U (h.set id .CU) a w:=by
 have key:∀{Gv:Nat} {x:DG},(h.set id .CU)[Gv]?=zy x->x≠ .CU->h[Gv]?=zy x:=λ{Gv x} hx hd=>by grind
 exact⟨⟨hr.Eh.IZ,λGv y IC hy=>hr.Eh.MR Gv y (key IC hy) hy,λGv cs hc b hb=>hr.Eh.cells Gv cs (key hc AH) b hb,λGv es hc b hb=>hr.Eh.map Gv es (key hc AH) b hb,λGv b hb=>zv (hr.Eh.mu Gv b hb),hr.Eh.Bu,hr.Eh.sz⟩,hr.fr,hr.Ed,hr.defers,hr.HO⟩
def Dd.wX{id g:Nat}{cs:List Aa}(hcs:h[id]?=zy (.cells cs))(hg:γ.mu id=zy g){us:Array Value}{e:TypeId}{fr:Nat×Nat}(hw:w.heap[g]?=zy (.cells us e fr))(WZ:γ.sz g=zy us.size)(D4:Array Value)(HJ:List Aa)(dE:D4.size=us.size)(dz:U4 fr D4.size)
  (hv:Bp γ HJ (D4.toList.take HJ.length)) (h1:∀u∈D4.toList.take HJ.length,u.oneCell'=zs):∃γ',γ.le γ'/\γ'.mu h.length=zy g/\Dd C γ0 w0 γ' Z U (h.set id .CU++[.cells HJ]) a (w.setRow g D4)/\γ'.sz g=zy us.size:=by
 obtain⟨i,p,UN⟩:=hr.Eh.MR id _ hcs AH;rw[hg] at p;cases p;have py:id<h.length:=hr.Eh.mu _ _ hg;have d:γ.mu h.length=zw:=by
  cases hc:γ.mu h.length with
  |none=>rfl
  |some y=>exact absurd (hr.Eh.mu _ y hc) (DF _)
 have uniq:∀Gv x,h[Gv]?=zy x->x≠ .CU->γ.mu Gv=zy g->Gv=id:=λGv x hx c hm=>by obtain⟨b',p,q⟩:=hr.Eh.MR Gv x hx c;rw[hm] at p;cases p;rw[UN] at q;cases q;rfl
 have EH:γ.le (γ.BW g h.length (zy us.size)):=⟨λ_ _ _ hv=>hv,λGv b hm=>by
  have:Gv≠h.length:=λhe=>by rw[he,d] at hm;cases hm
  simp only[Gh.BW,Ac this];exact hm,λb n hm=>by
  by_cases he:b=g;.subst he;rw[WZ] at hm;cases hm;simp[Gh.BW]
  .simp only[Gh.BW,Ac he];exact hm⟩
 have old:∀{Gv:Nat} {x:DG},(h.set id .CU++[DG.cells HJ])[Gv]?=zy x->x≠ .CU->Gv≠h.length->h[Gv]?=zy x/\Gv≠id:=λ{Gv x} hx hd hne=>by
  have hlt:Gv<(h.set id .CU).length:=by rw[Aq] at hx;obtain⟨hl,_⟩:=hx;simp at hl⊢;omega
  rw[Ak hlt] at hx;by_cases he:id=Gv;.subst he;rw[AY (by simpa using hlt)] at hx;cases hx;exact absurd rfl hd
  .rw[Au he] at hx;exact⟨hx,λh=>he h.symm⟩
 have aNO:HK (γ.BW g h.length (zy us.size)) (h.set id .CU++[.cells HJ]) (w.setRow g D4):=by
  refine⟨λb o v hb=>?_,λGv y IC hy=>?_,λGv TH hc b hb=>?_,λGv es hc b hb=>?_,λGv b hb=>?_,λb y hy=>?_,λb n hb=>?_⟩
  .obtain⟨p,q,r⟩:=hr.Eh.IZ b o v hb;have OW:b≠g:=λhe=>by subst he;rw[UN] at r;rcases r with r|⟨_,_,_,r,_⟩<;>cases r
   exact⟨by rw[CX (setRow_other w g b D4 OW)];exact p,q,by simp only[Gh.BW,Ac OW];exact r⟩
  .by_cases he:Gv=h.length;.exact⟨g,by simp[Gh.BW,he],by simp[Gh.BW,he]⟩
   .obtain⟨pz,hne⟩:=old IC hy he;obtain⟨b,p,q⟩:=hr.Eh.MR Gv y pz hy;have OW:b≠g:=λhx=>by subst hx;exact hne (uniq Gv y pz hy p)
    exact⟨b,by simp only[Gh.BW,Ac he];exact p,by simp only[Gh.BW,Ac OW];exact q⟩
  .by_cases he:Gv=h.length;.subst he;simp[Gh.BW] at hb;subst hb;rw[Bz AH] at hc;simp at hc;subst hc;exact⟨D4,e,fr,setRow_heap w g us D4 e fr hw,dz,Bp.mono EH _ _ hv,h1⟩
   .simp only[Gh.BW,Ac he] at hb;obtain⟨JH,hne⟩:=old hc AH he;have OW:b≠g:=λhx=>by subst hx;exact hne (uniq Gv _ JH AH hb)
    obtain⟨wD,f,xz,p,pf,q,r⟩:=hr.Eh.cells Gv TH JH b hb;exact⟨wD,f,xz,by rw[setRow_other w g b D4 OW];exact p,pf,Bp.mono EH _ _ q,r⟩
  .by_cases he:Gv=h.length;.subst he;rw[Bz AH] at hc;simp at hc
   .simp only[Gh.BW,Ac he] at hb;obtain⟨JH,hne⟩:=old hc AH he;have OW:b≠g:=λhx=>by subst hx;exact hne (uniq Gv _ JH AH hb)
    obtain⟨DL,clock,p,q⟩:=hr.Eh.map Gv es JH b hb;exact⟨DL,clock,by rw[setRow_other w g b D4 OW];exact p,q.mono EH⟩
  .by_cases he:Gv=h.length;.simp[he]
   .simp only[Gh.BW,Ac he] at hb;have:=hr.Eh.mu Gv b hb;simp;omega
  .by_cases OW:b=g;.subst OW;have:=hr.Eh.Bu _ _ UN;simpa[World.setRow] using this
   .simp only[Gh.BW,Ac OW] at hy;have:=hr.Eh.Bu b y hy;simpa[World.setRow] using this
  .by_cases he:b=g;.subst he;simp only[Gh.BW,BR] at hb;cases hb;exact⟨⟨D4,e,fr,setRow_heap w b us D4 e fr hw,dE⟩,.inr ⟨h.length,by simp[Gh.BW]⟩⟩
   .simp only[Gh.BW,Ac he] at hb⊢;obtain⟨p,r⟩:=hr.Eh.sz b n hb;exact⟨by rw[setRow_other w g b D4 he];exact p,r⟩
 refine⟨_,EH,by simp[Gh.BW],hr.JF aNO ⟨EH,by simp[World.setRow],rfl,rfl,rfl,λb hb hn=>?_⟩,by simp[Gh.BW]⟩;have OW:b≠g:=λhe=>by subst he;exact hn id UN
 exact⟨setRow_other w g b D4 OW,by simp only[Gh.BW,Ac OW]⟩
end
def yu{o:Oper}{c:Call}{t t' e:TypeId}{n b:Nat}{s x:Operand}{v u r:Aa}{h':Ah}(ho:o.op= .call c)(hc:c.callee= .builtin .append)(h0:c.argTypes[0]?=zy t)(h1:c.argTypes[1]?=zy t')(Fb:c.args.toList=[s,x])(ht:C.P.underlying t=zy (.slice e))
  (FX:(∃e',C.P.underlying t'=zy (.slice e'))\/C.P.underlying t'=zy .string) (LC:B7 C.P e=zy (n+1)) (yl:KF C.P e=zy (b+1)) (pU:MP C.P e=zs) (hv:BC C U [s,x]=zy [v,u])
  (hp:GF h (n+1) (b+1) v u=zy (h',r)) (hr:Dd C γ0 w0 γ Z U h a w):Gw C γ0 w0 o a w (U.put o.dst (.val r)) h':=by
 obtain⟨i,z,hi,hz,hZ⟩:=LV pU;have RK:=Ko LC hi;have J:=Mu yl hi;obtain⟨_,_,e0,hvs,vQ⟩:=FA hr hv;cases e0;have NB:c.args.map a.eval=#[a.eval s,a.eval x]:=by apply HW;simp[Fb]
 have Nw:∀v' w',(zh #[t,t'] o.type #[a.eval s,a.eval x]).run C.P w= .ok v' w'->(execOp a.eval o).run C.P w= .ok (.value v') w':=λv' w' Bb=>by
  have:execOp a.eval o=(do pure (Next.value (<-zh #[t,t'] o.type #[a.eval s,a.eval x]))):=by rw[<-NB,<-O4 (ty:=o.type) h0 h1];simp only[execOp,ho,resolve,hc];rfl
  rw[this];exact DU Bb
 unfold GF at hp;cases hq:Hz h (n+1) u with
 |none=>rw[hq] at hp;cases hp
 |some AD=>
  rw[hq] at hp;obtain⟨news,K0,Xw,vP⟩:=YN (w:=w) FX hr.Eh vQ hq;have KJ:Src C.P i.size t' (a.eval x) AD.length news w:=by rw[RK];exact K0
  have PH:news.length=AD.length*(n+1):=K0.newsLen;have HB:AD.flatten.length=news.length:=by rw[Xw.length]
  cases AD with
  |nil=>
   have d_:news=[]:=DC (by simpa using PH);subst d_;cases v with
   |slnil=>
    cases hp;have J9:a.eval s= .slice zw 0 0:=hvs;have Bb:(Builtin.append_ #[t,t'] o.type #[a.eval s,a.eval x]).run C.P w= .ok (.slice none 0 0) w:=by rw[J9];have hl:=KJ.len;have Xx:=KJ.cells;simp only[BP] at hl Xx;rcases FX with⟨e',hk⟩|hk<;>simp[Builtin.append_,run_underlying ht,run_underlying hk,sizeOf,typeInfo,hi,hl,Xx]
    exact Gw.value (Nw _ _ Bb) (hr.put λ_ _=>rfl)
   |GI E=>
    simp only at hp;split at hp;.cases hp;obtain⟨g,J9⟩:=(show BT γ _ _ from hvs);have Bb:=run_append_room_src (P:=C.P) w t t' o.type e i ht hi g 0 0 0 (a.eval x) 0 [] KJ Ab AH AH;rw[<-J9] at Bb;simp only[World.setCells,Bw] at Bb;exact Gw.value (Nw _ _ Bb) (hr.put λ_ _=>⟨g,J9⟩)
    .cases hp
   |CC id off k E=>
    simp only at hp;split at hp;.cases hp;obtain⟨g,cap,hg,J9,Œ,vr,WZ⟩:=(show BT γ _ _ from hvs);have Bb:=run_append_room_src (P:=C.P) w t t' o.type e i ht hi g off k cap (a.eval x) 0 [] KJ Ab AH AH;rw[<-J9] at Bb;simp only[World.setCells,Bw] at Bb;exact Gw.value (Nw _ _ Bb) (hr.put λ_ _=>⟨g,cap,hg,rfl,Œ,vr,WZ⟩)
    .cases hp
   |_=>cases hp
  |cons N l=>
   generalize hR:N::l=AD at*;have hpos:0<AD.length:=by rw[<-hR];simp
   have d:∀(h2:Ah) (base:Option Addr) (k cap:Nat) (UO:List Aa) (olds:List Value),Dd C γ0 w0 γ Z U h2 a w->a.eval s= .slice base k cap->Bp γ UO olds->olds.length=k*(n+1)->(∀q∈olds,q.oneCell'=true)->
     (Builtin.firstCells i.size k (.slice base k cap)).run C.P w.drew= .ok olds.toArray w.drew->cap<k+AD.length->(k+AD.length)*(b+1)<=A0->
     Gw C γ0 w0 o a w (U.put o.dst (.val (.CC h2.length 0 (k+AD.length) (n+1)))) (h2++[.cells (UO++AD.flatten)]):=by
    intro h2 base k cap UO olds LU hs aIf vt I f hlt Rg;have Te:k+AD.length<=A0:=Bv (Jk _ (Db b)) Rg;have GF:=run_append_grow_src (P:=C.P) w t t' o.type e i z ht hi hz base k cap olds f (a.eval x) AD.length news KJ hlt (by simp only[A0] at Te;omega) (by rw[J];exact growslice_fits hlt Rg);rw[<-hs] at GF;have Et:=grownCap_ge w (k+AD.length) cap e;have pj:(olds++news).length=(k+AD.length)*(n+1):=by rw[Aw,vt,PH,B9]
    have pS:(UO++AD.flatten).length=(olds++news).length:=by rw[Aw,Aw,aIf.length,HB]
    have yt:((olds++news).toArray++Builtin.zeroCells z.cells (grownCap w (k+AD.length) cap e-(k+AD.length))).size=grownCap w (k+AD.length) cap e*(n+1):=by simp only[Ky,Ca,size_zeroCells,hZ,RK,pj,<-B9];congr 1;omega
    have VY:((olds++news).toArray++Builtin.zeroCells z.cells (grownCap w (k+AD.length) cap e-(k+AD.length))).toList.take (UO++AD.flatten).length=olds++news:=by simp only[Hy];rw[pS];exact FW
    obtain⟨D,qO,TF,H,TG⟩:=LU.drew.newObj ((olds++news).toArray++Builtin.zeroCells z.cells (grownCap w (k+AD.length) cap e-(k+AD.length))) e (0,0) (UO++AD.flatten) (.inl rfl) (by rw[VY];exact aIf.append Xw) (by rw[VY];intro q hq;exact(Ay.1 hq).elim (I q) (K0.one q))
    exact Gw.value (Nw _ _ GF) (H.put λ_ _=>⟨w.heap.size,_,TF,rfl,Et,⟨Db n,grownCap_le_maxLen w _ _ _ (by simp only[A0] at Te;simp only[maxLen];omega)⟩,by rw[B2,<-yt];exact TG⟩)
   cases v with
   |slnil=>
    have J9:a.eval s= .slice none 0 0:=hvs;rw[<-hR] at hp;simp only at hp;rw[hR] at hp;split at hp;.rename_i Rg;cases hp;have:=d h none 0 0 [] [] hr J9 rfl AH AH (run_firstCells_none _ _ _ _ _) Ab (by simpa using Rg);simpa using this
    .cases hp
   |GI E=>
    obtain⟨g,J9⟩:=(show BT γ _ _ from hvs);rw[<-hR] at hp;simp only at hp;rw[hR] at hp;split at hp;.rename_i Rg;cases hp;have:=d h (some ⟨g,0,none⟩) 0 0 [] [] hr J9 rfl AH AH (by simpa using run_firstCells_some (P:=C.P) w.drew i.size 0 ⟨g,0,none⟩ 0 0 [] AH AH) Ab (by simpa using Rg.2);simpa using this
    .cases hp
   |CC id off k E=>
    rw[<-hR] at hp;simp only at hp;rw[hR] at hp;split at hp
    .rename_i cs hcs;split at hp
     .rename_i G;subst G;obtain⟨g,cap,hg,J9,Œ,vr,WZ⟩:=(show BT γ _ _ from hvs);obtain⟨us,M,fr,m,pf,B,A⟩:=hr.Eh.cells id cs hcs g hg;obtain⟨⟨vq,R,Q,K,F⟩,_⟩:=hr.Eh.sz g _ WZ;rw[m] at K;cases K;have pT:cs.length<=us.size:=by have:=B.length;simp at this;omega
      have Oj:∀j,(⟨g,off,none⟩:Addr).add j=⟨g,off+j,none⟩:=λj=>by unfold Addr.add;split<;>simp_all
      have p:∀o,o<us.size->w.frozen? ⟨g,o,none⟩=false:=λo ho=>by
       simp only[World.frozen?,m];rcases pf with rfl|dz
       .simp
       .simp;omega
      have room:k+AD.length<=cap->(Builtin.append_ #[t,t'] o.type #[a.eval s,a.eval x]).run C.P w= .ok (.slice (some ⟨g,off,none⟩) (k+AD.length) cap) (w.setRow g (us.toList.take (off+k*(n+1))++news++us.toList.drop (off+k*(n+1)+news.length)).toArray)/\off+k*(n+1)+news.length<=us.size:=by
       intro hroom;have hfit:off+k*(n+1)+news.length<=us.size:=by rw[PH,F,gM,<-B9];exact Nat.add_le_add_left (Ea _ hroom) _
       have Bb:=run_append_room_src (P:=C.P) w t t' o.type e i ht hi g off k cap (a.eval x) AD.length news KJ hroom (λj hj=>by rw[cell_of_row w _ _ us M fr m,RK,Eb Ab];rfl) (λj hj=>by rw[RK];exact p _ Ab)
       rw[RK,Fa news _ us w m hfit,<-J9] at Bb;exact⟨Bb,hfit⟩
      have bQ:(k+AD.length)*(n+1)=k*(n+1)+AD.length*(n+1):=B9 _ _ _;split at hp
      .rename_i W0;cases hp;have hroom:k+AD.length<=cap:=by have O:(k+AD.length)*(n+1)<=cap*(n+1):=Ab;exact Nat.le_of_mul_le_mul_right O (Db n)
       obtain⟨Bb,hfit⟩:=room hroom;have L:off+(k+AD.length)*(n+1)=off+k*(n+1)+news.length:=by rw[PH,bQ];omega
       have hcl:(cs.take (off+k*(n+1))++AD.flatten++cs.drop (off+(k+AD.length)*(n+1))).length=cs.length:=by rw[L,Aw,Aw,Ax,Bi,HB];omega
       have VY:((us.toList.take (off+k*(n+1))++news++us.toList.drop (off+k*(n+1)+news.length)).toArray).toList.take (cs.take (off+k*(n+1))++AD.flatten++cs.drop (off+(k+AD.length)*(n+1))).length=
         (us.toList.take cs.length).take (off+k*(n+1))++news++(us.toList.take cs.length).drop (off+k*(n+1)+news.length):=by
        rw[hcl];simp only[Lw];exact NF (by simpa using pT) Ab rfl
       obtain⟨Xz,PV⟩:=Of hr.Eh hcs hg m (us.toList.take (off+k*(n+1))++news++us.toList.drop (off+k*(n+1)+news.length)).toArray (cs.take (off+k*(n+1))++AD.flatten++cs.drop (off+(k+AD.length)*(n+1)))
        (by simp only[Ca,Aw,Ax,Bi,Cv];omega)
        (by
         rcases pf with rfl|pf
         .exact .inl rfl
         .refine .inr (Bv (No ?_) pf);simp only[Ca,Aw,Ax,Bi,Cv];omega)
        (by rw[VY,L];exact O2 B Xw)
        (by
         rw[VY];intro q hq;rcases Ay.1 hq with hq|hq
         .rcases Ay.1 hq with hq|hq
          .exact A q (BJ hq)
          .exact K0.one q hq
         .exact A q (BO hq))
       exact Gw.value (Nw _ _ Bb) ((hr.JF Xz PV).put λ_ _=>⟨g,cap,hg,rfl,hroom,vr,WZ⟩)
      .rename_i aTl;split at hp
       .rename_i Ir;obtain⟨rfl,Re,Rg⟩:=Ir;cases hp;simp only[B2] at*;by_cases hroom:k+AD.length<=cap
        .obtain⟨Bb,hfit⟩:=room hroom;have pS:(cs.take (k*(n+1))++AD.flatten).length=k*(n+1)+news.length:=by rw[Aw,Ax,HB];omega
         have VY:((us.toList.take (k*(n+1))++news++us.toList.drop (k*(n+1)+news.length)).toArray).toList.take (cs.take (k*(n+1))++AD.flatten).length=(us.toList.take cs.length).take (k*(n+1))++news:=by
          rw[pS];simp only[Lw];have:(us.toList.take (k*(n+1))++news).length=k*(n+1)+news.length:=by rw[Aw,Ax,Cv];omega
          rw[<-this,FW,Fj,Ct Re]
         obtain⟨D,qO,TF,LU,TG⟩:=hr.wX hcs hg m (by rw[WZ,F]) (us.toList.take (k*(n+1))++news++us.toList.drop (k*(n+1)+news.length)).toArray (cs.take (k*(n+1))++AD.flatten)
          (by simp only[Ca,Aw,Ax,Bi,Cv];omega)
          (by
           rcases pf with rfl|pf
           .exact .inl rfl
           .refine .inr (Bv (No ?_) pf);simp only[Ca,Aw,Ax,Bi,Cv];omega)
          (by rw[VY];exact(B.take _).append Xw)
          (by
           rw[VY];intro q hq;rcases Ay.1 hq with hq|hq
           .exact A q (BJ hq)
           .exact K0.one q hq)
         exact Gw.value (Nw _ _ Bb) (LU.put λ_ _=>⟨g,cap,TF,rfl,hroom,vr,by rw[TG,F];simp⟩)
        .have vt:((us.toList.take cs.length).take (k*(n+1))).length=k*(n+1):=EP;have:=d (h.set id .CU) (some ⟨g,0,none⟩) k cap (cs.take (k*(n+1))) ((us.toList.take cs.length).take (k*(n+1))) (hr.kill id) J9 (B.take _) vt (λq hq=>A q (BJ hq))
          (by
           rw[RK];exact run_firstCells_some w.drew _ _ _ _ _ _ vt (λj y hj=>by
            rw[Oj];show w.cell? _=_;rw[cell_of_row w _ _ us M fr m];rw[Ci] at hj;split at hj
            .rw[Ci] at hj;split at hj;.simpa using hj
             .cases hj
            .cases hj)) Ab Rg
         simpa using this
       .cases hp
     .cases hp
    .cases hp
   |_=>rw[<-hR] at hp;cases hp
def qV(hi:HK γ h w){id g off:Nat}{cs b:List Aa}{news:List Value}(hcs:h[id]?=zy (xt cs))(hg:γ.mu id=zy g)(hv:Bp γ b news)(h1:∀u∈news,u.oneCell'=zs)(hl:off+zz b<=zz cs):
  ∃w',(storeCells ⟨g,off,zw⟩ news).run C.P w= y8 () w'/\HK γ (h.set id (xt (cs.take off++b++cs.drop (off+zz b)))) w'/\LQ γ w γ w':=by
 let⟨us,e,fr,hw,pf,d,c⟩:=hi.cells id cs hcs g hg;have PH:zz news=zz b:=hv.length;have hlt:zz cs<=us.size:=by have:=d.length;simp at this;omega
 have hs:=run_storeCells_cells (P:=C.P) g off news 0 w (λj hj=>by
  rw[cell_of_row w _ _ us e fr hw,Bw,Eb Ab];rfl) (λj hj=>by
  simp only[World.frozen?,hw];obtain rfl|dz:=pf
  .simp
  .simp;omega) h1
 rw[Bw,Fa _ off us w hw Ab] at hs;have hcl:(cs.take off++b++cs.drop (off+zz b)).length=zz cs:=EP;have VY:((us.toList.take off++news++us.toList.drop (off+zz news)).toArray).toList.take (cs.take off++b++cs.drop (off+zz b)).length=(us.toList.take (zz cs)).take off++news++(us.toList.take (zz cs)).drop (off+zz news):=by simp only[hcl,Lw];exact NF (zv hlt) Ab rfl
 let⟨ĸ,ha⟩:=Of hi hcs hg hw (us.toList.take off++news++us.toList.drop (off+zz news)).toArray (cs.take off++b++cs.drop (off+zz b))
  (by simp[Ca,Aw,Ax,Bi,Cv];omega)
  (by
   obtain rfl|pf:=pf
   .exact .inl rfl
   .refine .inr (Bv (No ?_) pf);simp[Ca,Aw,Ax,Bi,Cv];omega)
  (by rw[VY,PH];exact O2 d hv)
  (by
   rw[VY];intro q hq;obtain hq|hq:=Ay.1 hq
   .rcases Ay.1 hq with hq|hq
    .exact c q (BJ hq)
    .exact h1 q hq
   .exact c q (BO hq))
 exact⟨_,hs,ĸ,ha⟩
def wY{t t' ty:TypeId}{ts:Array TypeId}{xs:Array Value}(h0:ts[0]?=zy t)(h1:ts[1]?=zy t'):z2 ts ty xs=z2 #[t,t'] ty xs:=by simp only[z2,h0];rfl
def qW{P:Program}{t t' ty e:TypeId}{i:TypeInfo}(ht:P.underlying t=zy (.slice e))(hi:P.info? e=zy i){x:Value}{n:Nat}{news:List Value}(hs:Src P i.size t' x n news w){base:Option Addr}{k cap:Nat}(hk:n<=k)
  (Ia:∀b,base=zy b->(storeCells b news).run P w= y8 () w') (Xy:base=zw->w'=w):(z2 #[t,t'] ty #[zl base k cap,x]).run P w= y8 (yk .i64 n) w':=by
 have hl:=hs.len w;have hc:=hs.cells;have hm:=Ct hk;cases base with
 |none=>cases Xy rfl;simp[z2,run_underlying ht,hl,hc,sizeOf,typeInfo,hi,hm,goInt]
 |some b=>have h2:=Ia b rfl;simp[z2,run_underlying ht,hl,hc,sizeOf,typeInfo,hi,hm,goInt,h2]
def yv{o:Oper}{c:Call}{t t' e:TypeId}{n:Nat}{s x:Operand}{v u r:Aa}{h':Ah}(ho:o.op= .call c)(hc:c.callee= .builtin .copy)(h0:c.argTypes[0]?=zy t)(h1:c.argTypes[1]?=zy t')(Fb:c.args.toList=[s,x])(ht:C.P.underlying t=zy (.slice e))
  (FX:(∃e',C.P.underlying t'=zy (.slice e'))\/C.P.underlying t'=zy .string) (LC:B7 C.P e=zy (n+1)) (hv:BC C U [s,x]=zy [v,u])
  (hp:de h (n+1) v u=zy (h',r)) (hr:Dd C γ0 w0 γ Z U h a w):Gw C γ0 w0 o a w (U.put o.dst (y9 r)) h':=by
 let⟨_,_,e0,hvs,vQ⟩:=FA hr hv;cases e0;have NB:c.args.map a.eval=#[a.eval s,a.eval x]:=by apply HW;simp[Fb]
 have Nw:∀v' w',(z2 #[t,t'] o.type #[a.eval s,a.eval x]).run C.P w= y8 v' w'->(execOp a.eval o).run C.P w= y8 (.value v') w':=λv' w' Bb=>by
  have:execOp a.eval o=(do pure (Next.value (<-z2 #[t,t'] o.type #[a.eval s,a.eval x]))):=by rw[<-NB,<-wY (ty:=o.type) h0 h1];simp[execOp,ho,resolve,hc];rfl
  rw[this];exact DU Bb
 cases hi:C.P.info? e with
 |none=>simp[B7,hi] at LC
 |some i=>
 have RK:=Ko LC hi;rw[de] at hp;cases hq:Hz h (n+1) u with
 |none=>rw[hq] at hp;cases hp
 |some AD=>
  rw[hq] at hp;let⟨news,K0,Xw,vP⟩:=YN (w:=w) FX hr.Eh vQ hq;have KJ:Src C.P i.size t' (a.eval x) (zz AD) news w:=by rwa[RK]
  have PH:zz news=zz AD*(n+1):=K0.newsLen;have HB:zz AD.flatten=zz news:=by rw[Xw.length]
  simp only at hp;split at hp
  .split at hp;.rename_i bZ;cases hp;have J9:a.eval s= zl zw 0 0:=hvs;have Bb:=qW (t:=t) (ty:=o.type) (w:=w) (w':=w) ht hi KJ (base:=zw) (k:=0) (cap:=0) Ab (λ_ e=>by cases e) (λ_=>rfl);rw[<-J9] at Bb;rw[bZ] at Bb;exact zo (Nw _ _ Bb) (hr.put λ_ _=>rfl)
   .cases hp
  .rename_i id off k z;split at hp
   .rename_i cs hcs;split at hp;.rename_i Ir;obtain⟨rfl,b,hlen⟩:=Ir;cases hp;let⟨g,cap,hg,J9,Œ,vr,WZ⟩:=(show BT γ _ _ from hvs);have hm:=Ea (n+1) b;let⟨w',Ia,ĸ,d⟩:=qV (C:=C) (off:=off) hr.Eh hcs hg Xw K0.one Ab;have Bb:=qW (t:=t) (ty:=o.type) (w:=w) (w':=w') ht hi KJ (base:=zy ⟨g,off,zw⟩) (k:=k) (cap:=cap) b (λ_ e=>by cases e;exact Ia) (λe=>by cases e);rw[<-J9] at Bb;rw[show zz AD*(n+1)=zz AD.flatten by rw[HB,PH]];exact zo (Nw _ _ Bb) ((hr.JF ĸ d).put λ_ _=>rfl)
    .cases hp
   .cases hp
  .cases hp
def qX{t ty:TypeId}{ts:Array TypeId}{xs:Array Value}(h0:ts[0]?=zy t):zk ts ty xs=zk #[t] ty xs:=by simp only[zk,h0];rfl
def p_{o:Oper}{c:Call}{t e:TypeId}{n:Nat}{s:Operand}{v z r:Aa}{h':Ah}(ho:o.op= .call c)(hc:c.callee= .builtin .clear)(h0:c.argTypes[0]?=zy t)(Fb:c.args.toList=[s])(ht:C.P.underlying t=zy (.slice e))
  (LC:B7 C.P e=zy (n+1)) (hz:HA C.P e=zy z) (hv:BC C U [s]=zy [v]) (hp:Ym h (n+1) z.cells v=zy (h',r)) (hr:Dd C γ0 w0 γ Z U h a w):Gw C γ0 w0 o a w (U.put o.dst .undef) h':=by
 let⟨_,e0,hvs⟩:=Hq hr hv;cases e0;have NB:c.args.map a.eval=#[a.eval s]:=by apply HW;simp[Fb]
 have Nw:∀v' w',(zk #[t] o.type #[a.eval s]).run C.P w= y8 v' w'->(execOp a.eval o).run C.P w= y8 (.value v') w':=λv' w' Bb=>by
  have:execOp a.eval o=(do pure (Next.value (<-zk #[t] o.type #[a.eval s]))):=by rw[<-NB,<-qX (ty:=o.type) h0];simp[execOp,ho,resolve,hc];rfl
  rw[this];exact DU Bb
 unfold Ym at hp;split at hp
 .cases hp;have J9:a.eval s= zl zw 0 0:=hvs;have Bb:(zk #[t] o.type #[a.eval s]).run C.P w= y8 (.tuple #[]) w:=by rw[J9];simp[zk,run_underlying ht]
  exact zo (Nw _ _ Bb) (hr.put λ_ _=>trivial)
 .rename_i id off k E;split at hp
  .rename_i cs hcs;split at hp
   .rename_i Ir;obtain⟨rfl,f,hlen⟩:=Ir;cases hp;let⟨g,cap,hg,J9,Œ,vr,WZ⟩:=(show BT γ _ _ from hvs);let⟨d,vu,l⟩:=ID hz;let⟨y,A⟩:=HQ (γ:=γ) (FO vu) Ab;have hZ:d.cells.size=n+1:=by have:=y.length;simp at this;omega
    have HB:(List.replicate k z.cells).flatten.length=k*(n+1):=by rw[HS (z:=n+1) (λr hr=>by rw[aCM hr,f]),Gu]
    have i:∀(j:Nat) (u:Value),(zr d.cells k).toList[j]?=zy u->j<k*(n+1)/\d.cells.toList[j%(n+1)]?=zy u:=by
     intro j u hj;have dU:j<k*(n+1):=by have:=(Aq.1 hj).1;simpa[size_zeroCells,hZ] using this
     refine⟨dU,?_⟩;have aEC:j%(n+1)<d.cells.size:=by rw[hZ];exact Nat.mod_lt _ (Db n)
     simp only[Builtin.zeroCells,N8,Cc] at hj;have b:(Array.range (k*d.cells.size)).toList[j]?=zy j:=by simp[hZ,dU]
     rw[b] at hj;simp[B6,BF] at hj;rw[hZ] at hj;rw[<-hj];simp[aEC]
    have B:Bp γ (List.replicate k z.cells).flatten (zr d.cells k).toList:=by refine Bp.HD (by simp[Cv,size_zeroCells,hZ,HB]) λj x u hx hu=>?_;let⟨dU,p⟩:=i j u hu;rw[II z.cells _ _ (by rw[f];exact dU),f] at hx;let⟨F,vO,m⟩:=y.get hx;rw[p] at vO;cases vO;exact m
    let⟨w',Ia,ĸ,q⟩:=qV (C:=C) (off:=off) hr.Eh hcs hg B (λu hu=>by let⟨j,hj⟩:=CW hu;exact A u (CV (i j u hj).2)) Ab
    have Bb:(zk #[t] o.type #[a.eval s]).run C.P w= y8 (.tuple #[]) w':=by
     rw[J9];cases k with
     |zero=>
      have D:(zr d.cells 0).toList=[]:=by simp[zr]
      rw[D] at Ia;have:w'=w:=by have h2:(storeCells ⟨g,off,zw⟩ []).run C.P w= y8 () w:=rfl;rw[h2] at Ia;cases Ia;rfl
      rw[this];simp[zk,run_underlying ht]
     |succ k=>simp[zk,run_underlying ht,l,Ia]
    rw[show k*(n+1)=(List.replicate k z.cells).flatten.length from HB.symm];exact zo (Nw _ _ Bb) ((hr.JF ĸ q).put λ_ _=>trivial)
   .cases hp
  .cases hp
 .cases hp
section
variable{o:Oper}{t e:TypeId}{n:Nat}
def yw{x:Operand}{lo hi:Option Operand}{v r:Aa}{as:List Aa}{h':Ah}(ho:o.op= .slice t x lo hi zw)(ht:C.P.underlying t=zy (.slice e))(LC:B7 C.P e=zy (n+1))
  (hv:BC C U (x::(lo.toList++hi.toList))=zy (v::as)) (hp:p9 h (n+1) lo.isSome hi.isSome v as=zy (h',r)) (hr:Dd C γ0 w0 γ Z U h a w):Gw C γ0 w0 o a w (U.put o.dst (y9 r)) h':=by
 have wW:=Ee hr hv;let⟨u,us,c,hx,yx⟩:=wW;simp only[Bm,Fs] at c;obtain⟨rfl,rfl⟩:=c;unfold p9 at hp;split at hp
 .rename_i id off k z;split at hp
  .rename_i cs hcs;split at hp
   .rename_i Ir;obtain⟨rfl,b,aIc⟩:=Ir;let⟨g,cap,hg,J9,Œ,vr,WZ⟩:=(show BT γ _ _ from hx);cases hb:Ep lo.isSome hi.isSome ((zz cs-off)/(n+1)) as with
    |none=>rw[hb] at hp;cases hp
    |some m=>
     let⟨l,q⟩:=m;rw[hb] at hp;simp only[CP] at hp;split at hp
     .rename_i hlt;cases hp;let⟨us,c,fr,j,pf,i,E⟩:=hr.Eh.cells id cs hcs g hg;let⟨⟨vq,B,s,d,D⟩,_⟩:=hr.Eh.sz g _ WZ;rw[j] at d;cases d;have pT:zz cs<=us.size:=by have:=i.length;simp at this;omega
      have qY:(zz cs-off)/(n+1)<=cap:=by refine Nat.div_le_of_le_mul ?_;rw[Nat.mul_comm];omega
      have f:∀y:Option Operand,(y.map a.eval).isSome=y.isSome:=λy=>by cases y<;>rfl
      have A:(lo.map a.eval).toList++(hi.map a.eval).toList=(lo.toList++hi.toList).map a.eval:=by cases lo<;>cases hi<;>rfl
      rw[<-f lo,<-f hi] at hb;let⟨p,G,F⟩:=Ll (P:=C.P) (w:=w) (isSlice:=zs) hb (by rwa[A]) qY;have Og:xv zs k cap (lo.map a.eval) (hi.map a.eval) zw=xv zs ((zz cs-off)/(n+1)) cap (lo.map a.eval) (hi.map a.eval) zw:=by
       cases hi with
       |none=>cases b
       |some y=>rfl
      have FX:C.P.underlying t=zy (.slice (C.P.elem t)):=by simp[xp,ht]
      have he:C.P.elem t=e:=by simp[xp,ht]
      have Bb:(Instr.sliceAt t (a.eval x) (lo.map a.eval) (hi.map a.eval) zw).run C.P w= y8 (zl (zy ⟨g,off+l*(n+1),zw⟩) (q-l) (cap-l)) w:=by rw[J9,run_sliceAt_slice w t _ _ _ _ FX,run_slice_any w t _ _ _ FX,Og,p,he,zn,D7 LC];show Result.ok (Value.slice (if cap=l then zy ⟨g,off,zw⟩ else Option.map (λq:Addr=>q.add (l*(n+1))) (zy ⟨g,off,zw⟩)) (q-l) (cap-l)) w=_;rw[Ac Ab];simp[B6];rw[Addr.add];split<;>simp_all
      refine zo (by simp only[execOp,ho];exact DU Bb) (hr.put λ_ _=>⟨g,cap-l,hg,rfl,Ab,⟨vr.1,Bv (Nat.sub_le _ _) vr.2⟩,?_⟩);rw[WZ,gM,<-B9,aNr Ab]
     .cases hp
   .cases hp
  .cases hp
 .cases hp
def yy{x lo hi mx:Operand}{args:List Aa}(ho:o.op= .slice t x (zy lo) (zy hi) (zy mx))(ht:C.P.underlying t=zy (.slice e))(LC:B7 C.P e=zy (n+1))
  (hv:BC C U [x,lo,hi,mx]=zy args) (hp:Yn (n+1) args=zs) (hr:Dd C γ0 w0 γ Z U h a w):Gw C γ0 w0 o a w (U.put o.dst .undef) h:=by
 have wW:=Ee hr hv;have FX:C.P.underlying t=zy (.slice (C.P.elem t)):=by simp[xp,ht]
 have he:C.P.elem t=e:=by simp[xp,ht]
 have He:∀(base:Option Addr) (len cap:Nat) (kl kr f:IntKind) (l r m:Int),a.eval x= zl base len cap->a.eval lo= .int kl l->a.eval hi= .int kr r->a.eval mx= .int f m->0<=l->l<=r->r<=m->m<=cap->Gw C γ0 w0 o a w (U.put o.dst .undef) h:=by
  intro base len cap kl kr f l r m A z y u h1 h2 d i;have Bb:∃v,(Instr.sliceAt t (a.eval x) (zy (a.eval lo)) (zy (a.eval hi)) (zy (a.eval mx))).run C.P w= y8 v w:=by
   have c:0<=m:=Ab;have b:0<=r:=Ab;have b1:∀code,(z4 (.int f m) cap code).run C.P w= y8 m.toNat w:=λcode=>by simp[z4,asIntOf,c,i]
   have b2:∀code,(z4 (.int kr r) m.toNat code).run C.P w= y8 r.toNat w:=λcode=>by simp[z4,asIntOf,b,E3 c,d]
   have b3:∀code,(z4 (.int kl l) r.toNat code).run C.P w= y8 l.toNat w:=λcode=>by simp[z4,asIntOf,h1,E3 b,h2]
   rw[A,z,y,u];simp[Instr.sliceAt,Instr.slice,run_underlying ht,xv,b1,b2,b3,D7 LC]
  let⟨v,Bb⟩:=Bb;exact zo (by simp only[execOp,ho];exact DU Bb) (hr.put λ_ _=>trivial)
 unfold Yn at hp;split at hp
 .rename_i s _ l _ r _ m;let⟨F,q,f1,g1,E,wD,f2,g2,D,p,f3,g3,B,k,f4,j,f5⟩:=wW;subst f5;simp[Bm,Da] at f1;subst f4;subst f3;subst f2;simp[Fs,Np] at f1;obtain⟨rfl,rfl,rfl,rfl⟩:=f1;split at hp;.simp only[Bq,Cd] at hp;let⟨⟨⟨⟨_,h1⟩,h2⟩,d⟩,i⟩:=hp;let⟨g,cap,hg,J9,Œ,_⟩:=(show BT γ _ _ from g1);exact He _ _ _ _ _ _ _ _ _ J9 (EW g2) (EW g3) (EW j) h1 h2 d Ab
  .simp only[Bq,Cd] at hp;let⟨⟨⟨⟨_,h1⟩,h2⟩,d⟩,i⟩:=hp;let⟨G,cap,J9,Œ,_⟩:=(show BT γ _ _ from g1);exact He _ _ _ _ _ _ _ _ _ J9 (EW g2) (EW g3) (EW j) h1 h2 d Ab
  .cases hp
 .cases hp
end
def yz{o:Oper}{t:TypeId}{x:Operand}{v:Aa}{u:TypeDesc}(ho:o.op= .makeInterface t x)(ht:C.P.underlying t=zy u)(hn:∀i,u≠ .interface i)(hv:BC C U [x]=zy [v])(hr:Dd C γ0 w0 γ Z U h a w):Gw C γ0 w0 o a w (U.put o.dst (y9 (.iface t v))) h:=by
 let⟨_,e0,hvs⟩:=Hq hr hv;cases e0;have Bb:(Instr.makeInterface t (a.eval x)).run C.P w= y8 (.iface t (a.eval x)) w:=by cases u<;>simp_all [Instr.makeInterface,run_underlying ht]
 exact zo (by simp only[execOp,ho];exact DU Bb) (hr.put λ_ _=>⟨_,rfl,hvs⟩)
def Rh{n:Int}:∀{es:List (Aa×Aa)} {l:List MapEntry} {i:Nat} {r:Option (Nat×Aa)},LP γ es l->Mc n es i=zy r->
  match r with
  |zw=>zx (.int .i64) (yk .i64 n) l i=zy zw
  |zy (j,v)=>∃(e:MapEntry),zx (.int .i64) (yk .i64 n) l i=zy (zy (j,e.val))/\BT γ v e.val/\i<=j/\l[j-i]?=zy e/\e.key= .int .i64 n
 |[],l,i,r,b,hf=>by rw[show l=[] from b];cases hf;rfl
 |(k,v)::es,l,i,r,b,hf=>by
  obtain⟨e,l',rfl,h1,h2,g⟩:=b;cases k with
  |int q t=>
   by_cases hq:q= .i64
   .subst hq;simp[Mc] at hf;have hk:e.key= yk .i64 t:=h1;split at hf;.rename_i Ia;subst Ia;cases hf;exact⟨e,by simp[zx,hk,zm],h2,Ae _,AH,hk⟩
    .rename_i Ia;have aIg:(n==t)=zt:=zv Ia
     have ih:=Rh g hf;cases r with
     |none=>simpa[zx,hk,zm,aIg] using ih
     |some p=>let⟨j,v2⟩:=p;let⟨m,f,d,s,o,c⟩:=ih;refine⟨m,by simpa[zx,hk,zm,aIg] using f,d,Ab,?_,c⟩;grind
   .exfalso;cases q<;>first|exact hq rfl|(simp[Mc] at hf)
  |_=>simp[Mc] at hf
def y_{o:Oper}{t kt e:TypeId}{m k:Operand}{g l z r:Aa}{ok:Bool}{h':Ah}(ho:o.op= .lookup t m k ok)(ht:C.P.underlying t=zy (.map kt e))(hk:C.P.underlying kt=zy (.int .i64))(hz:HA C.P e=zy z)(ha:BC C U [m,k]=zy [g,l])(hm:df h z ok g l=zy (h',r))(hr:Dd C γ0 w0 γ Z U h a w):
  Gw C γ0 w0 o a w (U.put o.dst (y9 r)) h':=by
 let⟨_,_,e0,h1,h2⟩:=FA hr ha;cases e0;let⟨f,vu,d⟩:=ID hz;have He:∀(es:Array MapEntry) (q:Option (Nat×Aa)),(z5 t (a.eval m) (a.eval k) ok).run C.P w=(LG kt e (a.eval k) ok es).run C.P w->
   ∀n,a.eval k= .int .i64 n->(match q with|zw=>zx (.int .i64) (.int .i64 n) es.toList 0=zy zw|zy (j,v)=>∃(e:MapEntry),zx (.int .i64) (.int .i64 n) es.toList 0=zy (zy (j,e.val))/\BT γ v e.val/\0<=j/\es.toList[j-0]?=zy e/\e.key= .int .i64 n)->
   wA z ok q=r->Gw C γ0 w0 o a w (U.put o.dst (y9 r)) h:=by
  intro es q TE n ř hq VW;have pv:(z7 es.isEmpty 10000 kt (.int .i64 n)).run C.P w= y8 () w:=z1 (k:= .int .i64 n) hk (by simp[z3]) es.isEmpty 9999;have Bb:∃v,(z5 t (a.eval m) (a.eval k) ok).run C.P w= y8 v w/\BT γ r v:=by
   cases q with
   |none=>
    refine⟨if ok then .tuple #[f,.bool zt] else f,?_,?_⟩;.rw[TE,ř];unfold LG;simp only[Sem.run_bind,Result.andThen_ok,pv,MapKept.run_findKey hk hq,d,Sem.run_bind,Sem.run_pure]
    .rw[<-VW];have c:=FO (γ:=γ) vu;cases ok with
     |true=>exact⟨_,rfl,_,_,rfl,c,_,_,rfl,rfl,rfl⟩
     |false=>exact c
   |some p=>
    let⟨j,v⟩:=p;let⟨en,u,s,_⟩:=hq;refine⟨if ok then .tuple #[en.val,.bool zs] else en.val,?_,?_⟩;.rw[TE,ř];unfold LG;simp only[Sem.run_bind,Result.andThen_ok,pv,MapKept.run_findKey hk u,Sem.run_bind,Sem.run_pure]
    .rw[<-VW];cases ok with
     |true=>exact⟨_,rfl,_,_,rfl,s,_,_,rfl,rfl,rfl⟩
     |false=>exact s
  let⟨v,Bb,et⟩:=Bb;exact zo (by simp only[execOp,ho];exact DU Bb) (hr.put λ_ _=>et)
 unfold df at hm;split at hm;.rename_i n;cases hm;exact He #[] zw (by rw[show a.eval m=_ from h1];simp only[Instr.lookup,LG,Sem.run_bind,run_underlying ht,Result.andThen_ok,Sem.run_pure];rfl) n h2 rfl rfl
 .rename_i id n;let⟨b,hb,pq⟩:=h1;split at hm
  .rename_i es TE;let⟨DL,clock,hw,x,_⟩:=hr.Eh.map id es TE b hb;cases hf:Mc n es 0 with
   |none=>rw[hf] at hm;cases hm
   |some q=>
    rw[hf] at hm;simp only[B6,BF,J4] at hm;obtain⟨rfl,hm⟩:=hm;refine He DL q (by rw[pq];simp only[Instr.lookup,LG,Sem.run_bind,run_underlying ht,MapKept.run_getObj_map hw,Result.andThen_ok,Sem.run_pure];rfl) n h2 ?_ ?_
    .have:=Rh (i:=0) x hf;cases q with
     |none=>exact this
     |some p=>exact this
    .exact hm
  .cases hm
 .cases hm
def LP.qa{k v:Aa}{e:MapEntry}(hk:BT γ k e.key)(hv:BT γ v e.val):∀{es:List (Aa×Aa)} {l:List MapEntry},LP γ es l->LP γ (es++[(k,v)]) (l++[e])
 |[],l,b=>by rw[show l=[] from b];exact⟨e,[],rfl,hk,hv,rfl⟩
 |(k',v')::es,l,b=>by obtain⟨e',l',rfl,h1,h2,c⟩:=b;exact⟨e',_,rfl,h1,h2,LP.qa hk hv c⟩
def LP.length:∀{es:List (Aa×Aa)} {l:List MapEntry},LP γ es l->zz l=zz es
 |[],l,b=>by rw[show l=[] from b];rfl
 |(k',v')::es,l,b=>by obtain⟨e',l',rfl,h1,h2,c⟩:=b;simp[LP.length c]
def LP.modify{v:Aa}{u:Value}(hv:BT γ v u):∀{es:List (Aa×Aa)} {l:List MapEntry} {j:Nat} {k v0:Aa},LP γ es l->es[j]?=zy (k,v0)->LP γ (es.set j (k,v)) (l.modify j λe=>{e with val:=u})
 |[],l,j,k,v0,b,hj=>by simp at hj
 |(k',v')::es,l,j,k,v0,b,hj=>by
  obtain⟨e',l',rfl,h1,h2,c⟩:=b;cases j with
  |zero=>cases hj;exact⟨{e' with val:=u},l',AH,h1,hv,c⟩
  |succ j=>exact⟨e',l'.modify j _,AH,h1,h2,LP.modify hv c (zv hj)⟩
def qZ{es:Array MapEntry}{j:Nat}{e:MapEntry}{k:Value}(hj:es[j]?=zy e)(hk:e.key=k):(es.modify j λe=>{e with key:=k})=es:=by
 apply pP;intro i;rw[Array.getElem?_modify];split;next hi=>subst hi;rw[hj];simp[<-hk]
 .rfl
section
variable{o:Oper}{t kt e:TypeId}{m k:Operand}
def YS{kA z r:Aa}{c:Value}{d:TypeDesc}{h':Ah}{id:Nat}{es:List (Aa×Aa)}{f:Option (Option (Nat×Aa))}(ho:o.op= .mapEntry t m k)(ht:C.P.underlying t=zy (.map kt e))(hk:C.P.underlying kt=zy d)(s:z3 d c)(hz:HA C.P e=zy z)
  (h1:BT γ (.map (zy id)) (a.eval m)) (n:a.eval k=c) (x:BT γ kA c) (TE:h[id]?=zy (.map es))
  (hq:∀(l:List MapEntry) q,LP γ es l->f=zy q->match q with
   |zw=>zx d c l 0=zy zw
   |zy (j,v)=>∃(e:MapEntry),zx d c l 0=zy (zy (j,e.val))/\BT γ v e.val/\0<=j/\l[j-0]?=zy e/\e.key=c)
  (hm:(f.map λr=>match r with
   |zy (i,v)=>(h,Aa.tuple [v,z9 .i64 i])
   |zw=>(h.set id (.map (es++[(kA,z)])),y4 [z,z9 .i64 (zz es)]))=zy (h',r)) (hr:Dd C γ0 w0 γ Z U h a w):
  Gw C γ0 w0 o a w (U.put o.dst (y9 r)) h':=by
 let⟨g,vu,u⟩:=ID hz;let⟨b,hb,pq⟩:=h1;let⟨DL,clock,hw,y,hB⟩:=hr.Eh.map id es TE b hb;have pv:(z7 zt 10000 kt c).run C.P w= y8 () w:=z1 (k:=c) hk s zt 9999;cases f with
 |none=>cases hm
 |some q=>
  have hq:=hq DL.toList q y rfl;cases q with
  |none=>
   simp[B6,BF,J4] at hm;obtain⟨rfl,rfl⟩:=hm;have Bb:(y6 t (a.eval m) (a.eval k)).run C.P w= y8 (.tuple #[g,goInt clock]) {w with heap:=w.heap.setIfInBounds b (.map (DL.push {key:=c,val:=g,born:=clock}) (clock+1))}:=by rw[pq,n];simp[y6,run_underlying ht,zq hw,pv,zp hk hq,u,zj _ hw,z8]
   let⟨hi,KK⟩:=Ol (WT:=es++[(kA,z)]) (ents':=DL.push {key:=c,val:=g,born:=clock}) (clock':=clock+1) hr.Eh TE hb hw ⟨by have:=LP.qa (γ:=γ) (k:=kA) (v:=z) (e:={key:=c,val:=g,born:=clock}) x (FO vu) y;exact zv this,Va hB⟩
   refine zo (by simp only[execOp,ho];exact DU Bb) ((hr.JF hi KK).put λ_ _=>⟨_,rfl,g,_,rfl,FO vu,_,[],rfl,?_,rfl⟩);rw[hB.1];have:=y.length;simp[Cv] at this;rw[<-this];rfl
  |some p=>
   let⟨j,v⟩:=p;simp[B6,BF,J4] at hm;obtain⟨rfl,rfl⟩:=hm;let⟨en,E,D,_,B,A⟩:=hq;have hj:DL[j]?=zy en:=zv B
   have aIh:=hB.2 j en hj;have qb:w.heap.setIfInBounds b (.map DL clock)=w.heap:=by
    apply pP;intro i;rw[Array.getElem?_setIfInBounds];split;next hi=>subst hi;have hlt:=(Bc.1 hw).1;rw[Af hlt,hw]
    .rfl
   have Bb:(y6 t (a.eval m) (a.eval k)).run C.P w= y8 (.tuple #[en.val,goInt j]) w:=by rw[pq,n];simp[y6,run_underlying ht,zq hw,pv,zp hk E,hj,A,MapKept.run_keyThatStays (d:=d) (k:=c) s,zj _ hw,z8,aIh,qZ hj A,qb]
   exact zo (by simp only[execOp,ho];exact DU Bb) (hr.put λ_ _=>⟨_,rfl,_,_,rfl,D,_,[],rfl,rfl,rfl⟩)
def wZ{b c z r:Aa}{h':Ah}(ho:o.op= .mapEntry t m k)(ht:C.P.underlying t=zy (.map kt e))(hk:C.P.underlying kt=zy (.int .i64))(hz:HA C.P e=zy z)(ha:BC C U [m,k]=zy [b,c])(hm:Xs h z b c=zy (h',r))(hr:Dd C γ0 w0 γ Z U h a w):
  Gw C γ0 w0 o a w (U.put o.dst (y9 r)) h':=by
 let⟨_,_,e0,h1,h2⟩:=FA hr ha;cases e0;unfold Xs at hm;split at hm
 .rename_i id n;split at hm;.rename_i es TE;exact YS (kA:= z9 .i64 n) ho ht hk (by simp[z3]) hz h1 h2 rfl TE (λl q d hf=>Rh d hf) hm hr
  .cases hm
 .cases hm
end
def dX{s:Ai}:∀{es:List (Aa×Aa)} {l:List MapEntry} {i:Nat} {r:Option (Nat×Aa)},LP γ es l->Sy s es i=zy r->
  match r with
  |zw=>zx .string (zu ⟨⟨s⟩⟩) l i=zy zw
  |zy (j,v)=>∃(e:MapEntry),zx .string (zu ⟨⟨s⟩⟩) l i=zy (zy (j,e.val))/\BT γ v e.val/\i<=j/\l[j-i]?=zy e/\e.key= zu ⟨⟨s⟩⟩
 |[],l,i,r,b,hf=>by rw[show l=[] from b];cases hf;rfl
 |(k,v)::es,l,i,r,b,hf=>by
  obtain⟨e,l',rfl,h1,h2,g⟩:=b;cases k with
  |str t=>
   simp[Sy] at hf;have hk:e.key= zu ⟨⟨t⟩⟩:=h1;split at hf;next Ia=>subst Ia;cases hf;exact⟨e,by simp[zx,hk,zm,SJ],h2,Ae _,AH,hk⟩
   .rename_i Ia;have ih:=dX g hf;have hne:=YQ Ia;cases r with
    |none=>simpa[zx,hk,zm,hne] using ih
    |some p=>let⟨j,v2⟩:=p;let⟨m,f,d,o,n,c⟩:=ih;refine⟨m,by simpa[zx,hk,zm,hne] using f,d,Ab,?_,c⟩;grind
  |_=>simp[Sy] at hf
def xA{o:Oper}{t kt e:TypeId}{m k:Operand}{b c z r:Aa}{h':Ah}(ho:o.op= .mapEntry t m k)(ht:C.P.underlying t=zy (.map kt e))(hk:C.P.underlying kt=zy .string)(hz:HA C.P e=zy z)(ha:BC C U [m,k]=zy [b,c])(hm:Xt h z b c=zy (h',r))(hr:Dd C γ0 w0 γ Z U h a w):
  Gw C γ0 w0 o a w (U.put o.dst (y9 r)) h':=by
 let⟨_,_,e0,h1,h2⟩:=FA hr ha;cases e0;unfold Xt at hm;split at hm
 .rename_i id n;split at hm;.rename_i es TE;exact YS (kA:= .str n) ho ht hk (by simp[z3]) hz h1 h2 rfl TE (λl q d hf=>dX d hf) hm hr
  .cases hm
 .cases hm
def rA{o:Oper}{t kt e:TypeId}{m k x:Operand}{f g c r:Aa}{h':Ah}(ho:o.op= .insert t m k x\/o.op= .mapUpdate t m k x)(hd:o.dst=zw)(ht:C.P.underlying t=zy (.map kt e))(hk:C.P.underlying kt=zy (.int .i64))(ha:BC C U [m,k,x]=zy [f,g,c])
  (hm:w_ h f g c=zy (h',r)) (hr:Dd C γ0 w0 γ Z U h a w):Gw C γ0 w0 o a w U h':=by
 let⟨h1,h2,l⟩:=SK hr ha;have Nw:∀w',(z0 t (a.eval m) (a.eval k) (a.eval x)).run C.P w= y8 () w'->(execOp a.eval o).run C.P w= y8 .skip w':=λw' Bb=>by obtain ho|ho:=ho<;>simp[execOp,ho,Bb]
 unfold w_ at hm;split at hm
 .rename_i id n;let⟨b,hb,pq⟩:=h1;have d:=h2;split at hm
  .rename_i es TE;let⟨DL,clock,hw,j,hB⟩:=hr.Eh.map id es TE b hb;have pv:(z7 zt 10000 kt (yk .i64 n)).run C.P w= y8 () w:=z1 (k:= yk .i64 n) hk (by simp[z3]) zt 9999;split at hm
   .rename_i hf;cases hm;have hq:=Rh (i:=0) j hf;have Bb:(z0 t (a.eval m) (a.eval k) (a.eval x)).run C.P w= y8 () {w with heap:=w.heap.setIfInBounds b (.map (DL.push {key:= yk .i64 n,val:=a.eval x,born:=clock}) (clock+1))}:=by rw[pq,d];simp[z0,run_underlying ht,zq hw,pv,zp hk hq,zj _ hw,z8]
    let⟨hi,KK⟩:=Ol (WT:=es++[(z9 .i64 n,c)]) (ents':=DL.push {key:= yk .i64 n,val:=a.eval x,born:=clock}) (clock':=clock+1) hr.Eh TE hb hw ⟨by have:=LP.qa (γ:=γ) (k:= z9 .i64 n) (v:=c) (e:={key:= yk .i64 n,val:=a.eval x,born:=clock}) rfl l j;exact zv this,Va hB⟩
    exact Gw.skip (Nw _ Bb) (by rw[hd];exact hr.JF hi KK)
   .cases hm
  .cases hm
 .cases hm
def iC{es:Array MapEntry}(hB:∀(i:Nat) (e:MapEntry),es[i]?=zy e->e.born=i){j:Nat}{e:MapEntry}(hj:es[j]?=zy e):es.findIdx? (λe=>(e.born:Int)==(j:Int))=zy j:=by
 rw[Array.findIdx?_eq_some_iff_getElem];let⟨hl,he⟩:=Bc.1 hj;refine⟨hl,?_,λi hi=>?_⟩;.grind
 .have:=hB i _ (Eb Ab);grind
def xB{o:Oper}{t:TypeId}{m s x:Operand}{f vs c r:Aa}{h':Ah}(ho:o.op= .entryStore t m s x)(hd:o.dst=zw)(ha:BC C U [m,s,x]=zy [f,vs,c])(hm:Tn h f vs c=zy (h',r))(hr:Dd C γ0 w0 γ Z U h a w):Gw C γ0 w0 o a w U h':=by
 let⟨h1,h2,i⟩:=SK hr ha;have Nw:∀w',(Instr.entryStore t (a.eval m) (a.eval s) (a.eval x)).run C.P w= y8 () w'->(execOp a.eval o).run C.P w= y8 .skip w':=λw' Bb=>by simp[execOp,ho,Bb]
 unfold Tn at hm;split at hm
 .rename_i id n;let⟨b,hb,pq⟩:=h1;have J9:=h2;split at hm
  .rename_i es TE;split at hm
   .rename_i hn;split at hm
    .rename_i kk v0 hk;cases hm;let⟨DL,clock,hw,g,hB⟩:=hr.Eh.map id es TE b hb;have hlen:=g.length;have hlt:=(Aq.1 hk).1;have d:∃en,DL[n.toNat]?=zy en:=⟨DL[n.toNat]'(by simp at hlen;omega),Eb _⟩;let⟨en,hj⟩:=d;have d_:((n.toNat:Nat):Int)=n:=Ab;have aIi:=iC hB.2 hj;rw[d_] at aIi;have Bb:(Instr.entryStore t (a.eval m) (a.eval s) (a.eval x)).run C.P w= y8 () {w with heap:=w.heap.setIfInBounds b (.map (DL.modify n.toNat λe=>{e with val:=a.eval x}) clock)}:=by rw[pq,J9];simp[Instr.entryStore,zq hw,asInt,asIntOf,aIi,zj _ hw,z8]
     let⟨hi,KK⟩:=Ol (WT:=es.set n.toNat (kk,c)) (ents':=DL.modify n.toNat λe=>{e with val:=a.eval x}) (clock':=clock) hr.Eh TE hb hw ⟨by have:=LP.modify i g hk;exact zv this,VX hB λ_=>rfl⟩
     exact Gw.skip (Nw _ Bb) (by rw[hd];exact hr.JF hi KK)
    .cases hm
   .cases hm
  .cases hm
 .cases hm
end
end Go.Am
end
section
section
namespace Go.Am
open Go
section
variable{C:GN}{γ0 γ γ':Gh}{w0 w w':World}{O:Nat->Nat}{U U':BU}{h h':Ah}{a:Act}{fid:FuncId}{ops:List Oper}
def Gw.wp{o:Oper}{K:Act->World->Prop}{Q:Exit->Act->World->Prop}(hs:Gw C γ0 w0 o a w U' h')(b:∀γ' c a' w',Dd C γ0 w0 γ' c U' h' a' w'->K a' w'):o.wp C.P a w K Q:=by
 obtain⟨γ',c,w',⟨v,he,hr⟩|⟨he,hr⟩⟩:=hs;.exact JS he (b _ _ _ _ hr)
 .exact wF he (b _ _ _ _ hr)
def cA{P:Program}{op:BinOp}{t:TypeId}{p:Oc}(hp:Rc P op t=zy p):p.still=zs:=by
 have NB:∀neg u,US P t neg u=zy p->p.still=zs:=by
  intro neg u h;unfold US at h;split at h;.cases h;rfl
  .split at h
   .cases hf:Qe P 20 t with
    |none=>rw[hf] at h;cases h
    |some k=>rw[hf] at h;cases h;rfl
   .cases h
  .split at h<;>cases h;rfl
  .cases h;rfl
  .cases h;rfl
  .cases h;rfl
  .cases h
 rw[Rc] at hp;split at hp;.cases hp;rfl
 .cases hp;rfl
 .grind
 .cases hp
def Om{P:Program}{t:TypeId}{f off:Nat}{sh:Option Nat}(hf:I4 P t f=zy (off,sh))(b o:Nat):(Instr.fieldAt t (y3 (zy ⟨b,o,zw⟩)) f).run P w= y8 (y3 (zy ⟨b,o+off,zw⟩)) w:=by
 rw[I4] at hf;split at hf
 .rename_i fs vO;split at hf
  .rename_i fd ee;split at hf;.rename_i n c h1 h2;cases hf;simp[Instr.fieldAt,run_underlying vO,ee,Instr.sureAddr,fieldPlace,D7 h1,Addr.add_lit]
   .cases hf
  .cases hf
 .cases hf
section
variable(hr:Dd C γ0 w0 γ O U h a w)
def YT{s ver:Nat}{cs:List Aa}{ow:List Nat}(hs:Es C U (.tmp s)=zy (.box ver cs ow)):a.eval (.tmp s)= y3 (zy ⟨O s,0,zw⟩):=by have h0:=Tu hr s;rw[HE hs] at h0;exact h0.1
def VZ{x:Operand}{s k:Nat}(hs:Es C U x=zy (.FF s k)):a.eval x= y3 (zy ⟨O s,k,zw⟩):=by let⟨t,h1,_⟩:=GU hr hs;exact h1
end
def dY{o:Oper}{t:TypeId}{v:Aa}{d:Nat}{r:E8}{run:IT->Ah->Option Kz}(hb:VP C fid t v d=zy r)(GG:r.Oh C run (U.drop r.news) h U' h')
  (Qd:∀n,C.kind fid d= .Qd->zz v.cells=n->n≠0->Gw C γ0 w0 o a w ((U.drop [d]).set d (.box 0 v.cells [])) h)
  (heap:zz v.cells≠0->Gw C γ0 w0 o a w (U.put (zy d) (y9 (.ptr (zy (zz h,0))))) (h++[xt v.cells])):Gw C γ0 w0 o a w U' h':=by
 rw[VP] at hb;split at hb;.cases hb
 .rename_i n hn;split at hb;.cases hb
  .rename_i b;split at hb;.cases hb;obtain⟨h1,rfl,rfl⟩:=GG;rename_i hk;exact Qd n hk h1 b
   .cases hb;obtain⟨h1,rfl,rfl⟩:=GG;exact heap Ab
def Ri{d s k:Nat}{run:IT->Ah->Option Kz}(GG:(E8.pure [(d,.FF s k)]).Oh C run (U.drop (E8.pure [(d,.FF s k)]).news) h U' h'):U'=U.set d (.FF s k)/\h'=h:=by obtain⟨rfl,rfl⟩:=GG;exact⟨rfl,rfl⟩
def za{run:IT->Ah->Option Kz}(G:FB C run){o:Oper}{r:E8}{K:Act->World->Prop}{Q:Exit->Act->World->Prop}(hc:GQ C fid ops U o=zy r)(GG:r.Oh C run (U.drop r.news) h U' h')(hr:Dd C γ0 w0 γ O U h a w)
  (j:∀γ' T a' w',Dd C γ0 w0 γ' T U' h' a' w'->K a' w'):o.wp C.P a w K Q:=by
 by_cases Ia:∃p args dst Bu F,r= .op p args dst Bu F/\p.still=zs
 .obtain⟨p,args,dst,Bu,F,rfl,ś⟩:=Ia
  obtain⟨L,rfl,rfl,rfl⟩:=pg hc ś hr
  obtain⟨v,hv,rfl,rfl⟩:=GG
  obtain⟨u,R,N⟩:=L v hv
  exact JS R (j _ _ _ _ (hr.put λ_ _=>N))
 .have Xy:∀{p args dst},r= .op p args dst zt zw->p.still=zt:=λ{p args dst} he=>by
   cases hp:p.still with
   |false=>rfl
   |true=>exact absurd ⟨p,args,dst,false,none,he,hp⟩ Ia
  have HX:∀{p dst x},UT p dst x=some r->p.still=false:=λ{p dst x} he=>by
   obtain⟨args,_,e⟩:=Ef he
   exact Xy e
  unfold GQ at hc
  split at hc
  .rename_i x ho
   split at hc
   .rename_i d hd
    obtain⟨γ',Gy⟩:=Tw hc GG hr
    exact JS (w':=w) (v:=a.eval x) (by simp[execOp,ho]) (j _ _ _ _ (by rw[hd];exact Gy))
   .cases hc
  .rename_i x ho
   split at hc
   .rename_i d hd
    obtain⟨γ',Gy⟩:=Tw hc GG hr
    exact JS (w':=w) (v:=a.eval x) (by simp[execOp,ho]) (j _ _ _ _ (by rw[hd];exact Gy))
   .cases hc
  .rename_i c x y ho
   split at hc
   .rename_i d hcs hd
    obtain⟨γ',Gy⟩:=Tw hc GG hr
    obtain⟨s,h1,_⟩:=GU hr hcs
    have h1:a.eval c= .bool true:=h1
    exact JS (w':=w) (v:=a.eval x) (by simp[execOp,ho,h1,asBool]) (j _ _ _ _ (by rw[hd];exact Gy))
   .rename_i d hcs hd
    obtain⟨γ',Gy⟩:=Tw hc GG hr
    obtain⟨s,h1,_⟩:=GU hr hcs
    have h1:a.eval c= .bool false:=h1
    exact JS (w':=w) (v:=a.eval y) (by simp[execOp,ho,h1,asBool]) (j _ _ _ _ (by rw[hd];exact Gy))
   .cases HX hc
  .rename_i t ho
   split at hc
   .rename_i d z hd hz
    split at hc
    .split at hc
     .rename_i Ir
      cases hc
      obtain⟨rfl,rfl⟩:=GG
      exact(YF ho hd hz Ir.2 hr).wp j
     .cases hc
    .rename_i hk
     refine(dY (o:=o) (a:=a) (w:=w) (γ0:=γ0) (w0:=w0) hc GG (λn h0 h1 h2=>absurd h0 (by simpa using hk)) λh1=>YG ho hd hz h1 hr).wp j
   .cases hc
  .rename_i t x ho
   split at hc
   .rename_i d v hd hv
    exact(dY (o:=o) (a:=a) (w:=w) (γ0:=γ0) (w0:=w0) hc GG (λn _ h1 h2=>gY ho hd hv h1 h2 hr) λh1=>gZ ho hd hv h1 hr).wp j
   .cases hc
  .split at hc
   .split at hc
    .cases HX hc
    .cases hc
   .cases hc
  .rename_i t len parts ho
   split at hc
   .rename_i e ht
    split at hc
    .rename_i n hn
     split at hc
     .rename_i Ir
      split at hc
      .rename_i hlen
       cases hc
       obtain⟨v,hv,rfl,rfl⟩:=GG
       cases hv
       exact(yj ho ht hn Ir.1 Ir.2 hlen.1 hr).wp j
      cases ha:BC C U (parts.toList.map (·.2)) with
      |none=>rw[ha] at hc;cases hc
      |some args=>
       rw[ha] at hc;cases hc
       obtain⟨v,hv,rfl,rfl⟩:=GG
       exact(yi ho ht hn Ir.1 Ir.2 ha hv hr).wp j
     .cases hc
    .cases hc
   .cases hc
  .rename_i t x ho
   split at hc
   .rename_i d hd
    by_cases hp:∃ws,r= .pure ws
    .exact(bW ho hd hc hp GG hr).wp j
    .unfold Md at hc
     split at hc
     .rename_i n p ht hx
      cases hc
      obtain⟨v,hv,rfl,rfl⟩:=GG
      have hs:=yf ho ht hx hv hr
      rw[hd] at hs
      exact hs.wp j
     .split at hc
      .simp only at hc
       split at hc<;>(cases hc;exact absurd ⟨_,rfl⟩ hp)
      .cases hc
     .split at hc
      .cases hc;exact absurd ⟨_,rfl⟩ hp
      .cases hc
     .cases hc
   .cases hc
  .rename_i t x y ho
   split at hc
   .rename_i hd
    have Jq:=hc
    unfold J2 at hc
    split at hc
    .rename_i n p v LC hx hv
     cases hc
     obtain⟨aNQ,rfl⟩:=GG
     exact(ph ho hd LC hx hv aNQ hr).wp j
    .split at hc
     .cases hc
      exact(wT ho hd Jq GG hr).wp j
     .cases hc
    .cases hc
   .cases hc
  .rename_i x ho
   split at hc
   .rename_i s ver cs ow d hd hs
    cases hc
    obtain⟨rfl,rfl⟩:=Ri GG
    have he:=YT hr hs
    exact JS (w':=w) (v:= .pointer (some ⟨O s,0,none⟩)) (by simp[execOp,ho,he]) (j _ _ _ _ (by rw[hd];exact hr.put (d:=some d) λ_ _=>rfl))
   .rename_i s k d hd hs
    cases hc
    obtain⟨rfl,rfl⟩:=Ri GG
    have he:=VZ hr hs
    exact JS (w':=w) (v:= .pointer (some ⟨O s,k,none⟩)) (by simp[execOp,ho,he]) (j _ _ _ _ (by rw[hd];exact hr.put (d:=some d) λ_ _=>rfl))
   .cases HX hc
  .split at hc
   .rename_i p hp
    have ś:=HX hc
    rw[cA hp] at ś
    cases ś
   .cases hc
  .cases HX hc
  .rename_i src aNz x ho
   split at hc
   .rename_i hq
    unfold Yr at hq
    cases hv:Ft C U x with
    |none=>rw[hv] at hc;cases hc
    |some v=>
     rw[hv] at hc;cases hc
     split at hq
     .cases hq
     .cases hq
     .cases hq
     .rename_i e hs hd
      split at hq
      .rename_i he
       obtain⟨v',u,h1,h2,rfl⟩:=GG
       exact(Ŕ ho hs hd he hv h1 h2 hr).wp j
      .cases hq
     .split at hq<;>cases hq
     .cases hq
   .rename_i hq
    unfold Yr at hq
    split at hq
    .cases hq
    .cases hq
    .cases hq
    .split at hq<;>cases hq
    .rename_i e hs hd
     split at hq
     .rename_i he _ _
      split at hc
      .cases hv:Ft C U x with
       |none=>rw[hv] at hc;cases hc
       |some v=>
        rw[hv] at hc;cases hc
        obtain⟨u,h1,rfl⟩:=GG
        exact(iB ho hs hd he hv h1 hr).wp j
      .obtain⟨args,ha,rfl⟩:=Ef hc
       obtain⟨u,h1,rfl,rfl⟩:=GG
       obtain⟨v,rfl,_⟩:=Hq hr ha
       exact(œ ho hs hd he ha h1 hr).wp j
     .cases hq
    .cases hq
   .rename_i p ND Tf hq
    have ś:=HX hc
    unfold Yr at hq
    split at hq
    .cases hq;cases ś
    .cases hq;cases ś
    .cases hq
    .split at hq
     .cases hq;exact absurd rfl ND
     .cases hq
    .split at hq
     .cases hq;exact absurd rfl Tf
     .cases hq
    .cases hq
   .cases hc
  .rename_i fn first captured ho
   split at hc
   .rename_i d as bs X hd ha hb
    cases hc
    obtain⟨rfl,rfl⟩:=GG
    exact(qP ho hd ha hb hr).wp j
   .cases hc
  .rename_i t ho
   cases hc
   obtain⟨rfl,rfl⟩:=GG
   exact(yq ho hr).wp j
  .rename_i t l c ho
   split at hc
   .rename_i e ht
    split at hc
    .rename_i n b z V vc hn hb hz hl Xx
     cases hc
     obtain⟨v,h1,rfl⟩:=GG
     exact(yn ho ht hn hb hz hl Xx h1 hr).wp j
    .cases hc
   .cases hc
  .rename_i t m k x ho
   split at hc
   .rename_i kt e ht
    split at hc
    .rename_i D E I hd hk ha
     cases hc
     obtain⟨h1,rfl⟩:=GG
     exact(qT (.inl ho) hd ht hk ha h1 hr).wp j
    .rename_i D E I hd hk ha
     cases hc
     obtain⟨v,h1,rfl⟩:=GG
     exact(rA (.inl ho) hd ht hk ha h1 hr).wp j
    .cases hc
   .cases hc
  .rename_i t m k x ho
   split at hc
   .rename_i kt e ht
    split at hc
    .rename_i D E I hd hk ha
     cases hc
     obtain⟨h1,rfl⟩:=GG
     exact(qT (.inr ho) hd ht hk ha h1 hr).wp j
    .rename_i D E I hd hk ha
     cases hc
     obtain⟨v,h1,rfl⟩:=GG
     exact(rA (.inr ho) hd ht hk ha h1 hr).wp j
    .cases hc
   .cases hc
  .rename_i t m k ok ho
   split at hc
   .rename_i kt e ht
    split at hc
    .rename_i z D E hk hz ha
     cases hc
     obtain⟨v,h1,rfl,rfl⟩:=GG
     exact(yr ho ht hk hz ha h1 hr).wp j
    .rename_i z D E hk hz ha
     cases hc
     obtain⟨v,h1,rfl⟩:=GG
     exact(y_ ho ht hk hz ha h1 hr).wp j
    .cases hc
   .cases hc
  .rename_i t x lo hi mx ho
   split at hc
   .rename_i e ht
    split at hc
    .rename_i n hn
     obtain⟨args,ha,rfl⟩:=HR hc
     obtain⟨v,h1,rfl⟩:=GG
     simp only[EF] at h1
     split at h1
     .rename_i J
      cases h1
      exact(yy ho ht hn ha J hr).wp j
     .cases h1
    .cases hc
   .cases hc
  .rename_i t x ho
   split at hc
   .cases hc
   .rename_i u hu ht
    obtain⟨args,ha,rfl⟩:=HR hc
    obtain⟨v,h1,rfl⟩:=GG
    obtain⟨y,rfl,_⟩:=Hq hr ha
    cases h1
    exact(yz ho ht (λi e=>hu i e) ha hr).wp j
   .cases hc
  .rename_i t m k ho
   split at hc
   .rename_i kt e ht
    split at hc
    .rename_i z hk hz
     obtain⟨args,ha,rfl⟩:=HR hc
     obtain⟨v,h1,rfl⟩:=GG
     obtain⟨A,B,rfl,_,_⟩:=FA hr ha
     exact(wZ ho ht hk hz ha h1 hr).wp j
    .rename_i z hk hz
     obtain⟨args,ha,rfl⟩:=HR hc
     obtain⟨v,h1,rfl⟩:=GG
     obtain⟨A,B,rfl,_,_⟩:=FA hr ha
     exact(xA ho ht hk hz ha h1 hr).wp j
    .cases hc
   .cases hc
  .rename_i t m s x ho
   split at hc
   .rename_i hd
    obtain⟨args,ha,rfl⟩:=HR hc
    obtain⟨v,h1,rfl⟩:=GG
    obtain⟨A,B,H,rfl⟩:∃A B H,args=[A,B,H]:=by
     have:=Ee hr ha
     cases args with
     |nil=>cases h1
     |cons A l1=>cases l1 with
      |nil=>cases h1
      |cons B S=>cases S with
       |nil=>cases h1
       |cons H l3=>cases l3 with
        |nil=>exact⟨_,_,_,rfl⟩
        |cons _ _=>cases h1
    exact(xB ho hd ha h1 hr).wp j
   .cases hc
  .rename_i t x lo hi ho
   split at hc
   .cases HX hc
   .rename_i e ht
    split at hc
    .rename_i n hn
     split at hc
     .obtain⟨args,ha,rfl⟩:=HR hc
      obtain⟨v,h1,rfl⟩:=GG
      cases args with
      |nil=>cases h1
      |cons y l=>exact(yw ho ht hn ha h1 hr).wp j
     .cases HX hc
    .cases hc
   .cases hc
  .rename_i t x f ho
   split at hc
   .rename_i off sh d hf hd
    split at hc
    .rename_i s ver cs ow hs
     cases hc
     obtain⟨rfl,rfl⟩:=Ri GG
     have he:=YT hr hs
     exact JS (w':=w) (v:= .pointer (some ⟨O s,off,none⟩)) (by simp only[execOp,ho,he];exact MH (by rw[Om hf];simp)) (j _ _ _ _ (by rw[hd];exact hr.put (d:=some d) λ_ _=>rfl))
    .rename_i s k hs
     cases hc
     obtain⟨rfl,rfl⟩:=Ri GG
     have he:=VZ hr hs
     exact JS (w':=w) (v:= .pointer (some ⟨O s,k+off,none⟩)) (by simp only[execOp,ho,he];exact MH (Om hf _ _)) (j _ _ _ _ (by rw[hd];exact hr.put (d:=some d) λ_ _=>rfl))
    .cases HX hc
   .cases hc
  .split at hc
   .cases HX hc
   .cases hc
  .split at hc
   .split at hc
    .cases HX hc
    .cases hc
   .split at hc
    .split at hc
     .cases hc
     .cases HX hc
    .cases hc
   .cases hc
  .split at hc
   .cases HX hc
   .split at hc
    .cases HX hc
    .cases hc
   .cases hc
  .cases HX hc
  .rename_i c ho
   unfold SA at hc
   split at hc
   .split at hc
    .split at hc
     .cases HX hc
     .cases HX hc
     .cases hc
    .cases hc
   .rename_i hcl
    split at hc
    .rename_i t t' s x h0 h1 Fb
     split at hc
     all_goals first
      |(cases hc;done)
      | (rename_i e _ ht FX
         split at hc
         . rename_i n b hn hb
           split at hc
           . rename_i pU
             split at hc
             . rename_i v u ha
               split at hc
               . rename_i Gf
                 split at hc
                 . cases hc
                   obtain ⟨r', q, rfl⟩ := GG
                   exact (px ho hcl h0 h1 Fb ht (by first | exact .inl ⟨_, FX⟩ | exact .inr FX) hn hb Gf pU ha q hr).wp j
                 . split at hc
                   . cases hc
                     obtain ⟨r', q, rfl, rfl⟩ := GG
                     exact (qR ho hcl h0 h1 Fb ht (by first | exact .inl ⟨_, FX⟩ | exact .inr FX) hn hb Gf pU ha q hr).wp j
                   . cases hc
                     obtain ⟨r', q, rfl, rfl⟩ := GG
                     exact (wV ho hcl h0 h1 Fb ht (by first | exact .inl ⟨_, FX⟩ | exact .inr FX) hn hb Gf pU ha q hr).wp j
               . split at hc
                 . cases hc
                   obtain ⟨r', q, rfl⟩ := GG
                   exact (yu ho hcl h0 h1 Fb ht (by first | exact .inl ⟨_, FX⟩ | exact .inr FX) hn hb pU ha q hr).wp j
                 . cases hc
             . cases hc
           . cases hc
         . cases hc)
    .cases hc
   .rename_i hcl
    split at hc
    .rename_i t t' s x h0 h1 Fb
     split at hc
     all_goals first
      |(cases hc;done)
      | (rename_i e _ ht FX
         split at hc
         . rename_i n hn
           obtain ⟨args, ha, rfl⟩ := HR hc
           obtain ⟨v, q, rfl⟩ := GG
           obtain ⟨A, B, rfl, _, _⟩ := FA hr ha
           exact (yv ho hcl h0 h1 Fb ht (by first | exact .inl ⟨_, FX⟩ | exact .inr FX) hn ha q hr).wp j
         . cases hc)
    .cases hc
   .rename_i hcl
    split at hc
    .rename_i t s h0 Fb
     split at hc
     .rename_i e ht
      split at hc
      .rename_i n z hn hz
       obtain⟨args,ha,rfl⟩:=HR hc
       obtain⟨v,q,rfl⟩:=GG
       obtain⟨A,rfl,_⟩:=Hq hr ha
       exact(p_ ho hcl h0 Fb ht hn hz ha q hr).wp j
      .cases hc
     .cases hc
    .cases hc
   .split at hc
    .cases HX hc
    .cases hc
   .split at hc
    .cases HX hc
    .cases hc
   .rename_i f hcl
    split at hc
    .rename_i hf
     split at hc
     .rename_i s i x Fb
      split at hc
      .rename_i Gf
       obtain⟨args,ha,rfl⟩:=HR hc
       obtain⟨v,q,rfl⟩:=GG
       exact ŕ G ho hcl hf Fb Gf ha q hr λγ' v w' Gy=>j _ _ _ _ Gy
      .cases hc
     .cases hc
    split at hc
    rotate_left
    .cases hc
    rename_i VW
    rw[<-VW] at hcl
    cases ha:BC C U c.args.toList with
    |none=>rw[ha] at hc;cases hc
    |some args=>
     rw[ha] at hc
     simp only[B6,BF] at hc
     split at hc
     .cases hc
      obtain⟨HB,M,h1,h2,q,rfl,rfl⟩:=GG
      exact pk G ho hcl ha HB h2 q hr λγ' v w' Gy=>j _ _ _ _ Gy
     .cases hc
      obtain⟨M,h1,rfl⟩:=GG
      exact yp G ho hcl ha h1 hr λγ' v w' Gy=>j _ _ _ _ Gy
   .rename_i g hn hcl
    split at hc
    .rename_i W args hg ha
     cases hc
     obtain⟨f,args',M,h0,h1,rfl⟩:=GG
     exact po G ho hcl hg ha h0 h1 hr λγ' v w' Gy=>j _ _ _ _ Gy
    .cases hc
   .cases hc
  .cases hc
end
end Go.Am
end
section
namespace Go.Am
open Go
section
variable{C:GN}{U Z:BU}{fid:FuncId}{ops:List Oper}
def iD{x:Operand}(h:∀t,x= .tmp t->Z.at t=U.at t):Es C Z x=Es C U x:=by
 cases x with
 |tmp t=>simp[Es,h t rfl]
 |const v=>
  cases v with
  |slice a b c=>cases a<;>cases b<;>cases c<;>rfl
  |_=>rfl
 |global g=>rfl
 |func f=>rfl
def XA(C:GN)(U Z:BU)(xs:List Operand):Prop:=∀x∈xs,Es C Z x=Es C U x
section
variable{xs:List Operand}
def XA.fg(h:∀t∈KH xs,Z.at t=U.at t):XA C U Z xs:=λx hx=>iD λt ht=>h t (by subst ht;exact Ck.2 ⟨_,hx,rfl⟩)
def XA.val(h:XA C U Z xs){x:Operand}(hx:x∈xs):Ft C Z x=Ft C U x:=by unfold Ft;rw[h x hx]
def XA.Lm(h:XA C U Z xs):∀{ys:List Operand},(∀y∈ys,y∈xs)->BC C Z ys=BC C U ys
 |[],_=>rfl
 |y::ys,hy=>by unfold BC;rw[h.val (hy y AH),h.Lm λz hz=>hy z (by simp[hz])]
def XA.move(h:XA C U Z xs){x:Operand}(hx:x∈xs)(d:Nat)(take:Bool):Lk C Z x d take=Lk C U x d take:=by unfold Lk;rw[h x hx]
def XA.Bu(h:XA C U Z xs){x:Operand}(hx:x∈xs):LN C Z x=LN C U x:=by unfold LN;rw[h x hx]
def XA.D5(h:XA C U Z xs){x:Operand}(hx:x∈xs):Dx Z x=Dx U x:=by
 cases x with
 |tmp t=>have:=h _ hx;simp[Es,BF] at this;simp[Dx,this]
 |_=>rfl
def XA.GP(h:XA C U Z xs):∀{ys:List Operand},(∀y∈ys,y∈xs)->Am.GP C Z ys=Am.GP C U ys
 |[],_=>rfl
 |y::ys,hy=>by unfold Am.GP;rw[h y (hy y AH),h.GP λz hz=>hy z (by simp[hz])]
def XA.addr(h:XA C U Z xs){x:Operand}(hx:x∈xs)(hb:∀s∈(OT C U x).toList,Z.at s=U.at s)(hn:GO C U x≠zw):GO C Z x=GO C U x:=by
 have OQ:=h x hx;cases hs:Es C U x with
 |none=>unfold GO at hn;rw[hs] at hn;cases hn (by split<;>simp_all)
 |some sl=>
  rw[hs] at OQ;cases sl with
  |FF s o=>
   have h1:∀J:BU,Es C J x=zy (.FF s o)->GO C J x=match J.at s with| .box ver cs ow=>zy (.Qd s o ver cs ow)|_=>zw:=λJ b=>by unfold GO;rw[b];cases x<;>rfl
   rw[h1 U hs] at hn⊢;rw[h1 Z OQ];have h2:s∈(OT C U x).toList:=by
    rw[OT];rw[h1 U hs];cases Te:U.at s with
    |box ver cs ow=>simp
    |_=>rw[Te] at hn;cases hn rfl
   rw[hb s h2]
  |_=>unfold GO;rw[hs,OQ];cases x<;>rfl
def XA.load(h:XA C U Z xs){x:Operand}(hx:x∈xs)(hb:∀s∈(OT C U x).toList,Z.at s=U.at s){t:TypeId}{d:Nat}{take:Bool}{r:E8}(hc:Md C U t x d take=zy r):Md C Z t x d take=zy r:=by
 have hn:GO C U x≠zw:=λhe=>by rw[Md] at hc;rw[he] at hc;grind
 rw[Md] at hc⊢;rwa[h.addr hx hb hn]
def XA.store(h:XA C U Z xs){x y:Operand}(hx:x∈xs)(hy:y∈xs)(hb:∀s∈(OT C U x).toList,Z.at s=U.at s){t:TypeId}{r:E8}(hc:J2 C U t x y=zy r):J2 C Z t x y=zy r:=by
 have hn:GO C U x≠zw:=λhe=>by rw[J2] at hc;rw[he] at hc;grind
 rw[J2] at hc⊢;rwa[h.addr hx hb hn,h.val hy,h.Bu hy,h.D5 hy]
end
def XA.call{c:Call}(h:XA C U Z c.operands.toList)(dst:Option Nat):SA C fid Z c dst=SA C fid U c dst:=by
 have ha:∀y∈c.args.toList,y∈c.operands.toList:=λy hy=>by rw[Call.operands];rw[Hy];exact Cm _ hy
 have hv:BC C Z c.args.toList=BC C U c.args.toList:=h.Lm ha;unfold SA;split;.rw[hv]
 .split
  .rename_i Fb;have h1:∀{s x:Operand},c.args.toList=[s,x]->LN C Z s=LN C U s/\Dx Z s=Dx U s/\BC C Z [s,x]=BC C U [s,x]:=λ{s x} he=>by rw[he] at ha;exact⟨h.Bu (ha s AH),h.D5 (ha s AH),h.Lm λy hy=>ha y hy⟩
   let⟨e,d,b⟩:=h1 Fb;rw[e,d,b]
  .rfl
 .split;.rename_i Fb;rw[Fb] at ha;rw[h.Lm λy hy=>ha y hy]
  .rfl
 .split;.rename_i Fb;rw[Fb] at ha;rw[h.Lm λy hy=>ha y hy]
  .rfl
 .rw[hv]
 .rw[hv]
 .split
  .split;.rename_i s i v Fb;rw[Fb] at ha;rw[h.Bu (ha v AH),h.Lm λy hy=>ha y hy]
   .rfl
  .rw[hv]
 .rename_i g _ hcl;have hg:g∈c.operands.toList:=by rw[Call.operands];rw[hcl];simp
  rw[hv,h.val hg]
 .rfl
def YU{o:Oper}{r:E8}(hc:GQ C fid ops U o=zy r)(ht:∀t∈KH o.op.operands.toList,Z.at t=U.at t)(hb:∀s∈IB C U o,Z.at s=U.at s):GQ C fid ops Z o=zy r:=by
 have h:XA C U Z o.op.operands.toList:= .fg ht
 unfold GQ at hc⊢
 cases ho:o.op with
 |move x=>
  rw[ho] at h
  simp only[ho] at hc⊢
  have:=λd=>h.move (x:=x) Jr d
  simpa only[this] using hc
 |assign x=>
  rw[ho] at h
  simp only[ho] at hc⊢
  have:=λd=>h.move (x:=x) Jr d
  simpa only[this] using hc
 |pick c a b=>
  rw[ho] at h
  simp only[ho] at hc⊢
  have h1:=λd=>h.move (x:=a) Jr d
  have h2:=λd=>h.move (x:=b) Jr d
  rw[h c Jr,h.Lm (ys:=[c,a,b]) Jr]
  simpa only[h1,h2] using hc
 |alloc t=>rw[ho] at hc;exact hc
 |box t x=>
  rw[ho] at h
  simp only[ho] at hc⊢
  rw[h.val (x:=x) Jr]
  exact hc
 |build t parts=>
  rw[ho] at h
  simp only[ho] at hc⊢
  rw[h.Lm (ys:=parts.toList.map (·.2)) Jr]
  exact hc
 |buildSlice t len parts=>
  rw[ho] at h
  simp only[ho] at hc⊢
  rw[h.Lm (ys:=parts.toList.map (·.2)) Jr]
  exact hc
 |load t x=>
  rw[ho] at h
  simp only[ho] at hc⊢
  split at hc
  .exact h.load Jr (λs hs=>hb s (by simpa only[IB,ho] using hs)) hc
  .cases hc
 |store t x y=>
  rw[ho] at h
  simp only[ho] at hc⊢
  split at hc
  .exact h.store Jr Jr (λs hs=>hb s (by simpa only[IB,ho] using hs)) hc
  .cases hc
 |nilCheck x=>
  rw[ho] at h
  simp only[ho] at hc⊢
  have e:=h.Lm (ys:=[x]) Jr
  rw[h x Jr]
  cases hs:Es C U x with
  |none=>rw[hs] at hc;cases x<;>cases hd:o.dst<;>rw[hd] at hc<;>first|exact hc|(show UT _ _ (BC C Z [_])=zy r;rw[e];exact hc)
  |some sl=>rw[hs] at hc;cases sl<;>cases x<;>cases hd:o.dst<;>rw[hd] at hc<;>first|exact hc|(show UT _ _ (BC C Z [_])=zy r;rw[e];exact hc)
 |binOp op t x y k=>
  rw[ho] at h
  simp only[ho] at hc⊢
  rw[h.Lm (ys:=[x,y]) Jr]
  exact hc
 |unOp op t x=>
  rw[ho] at h
  simp only[ho] at hc⊢
  rw[h.Lm (ys:=[x]) Jr]
  exact hc
 |convert src dst x=>
  rw[ho] at h
  simp only[ho] at hc⊢
  rw[h.Lm (ys:=[x]) Jr,h.val (x:=x) Jr]
  exact hc
 |makeFunc fn first captured=>
  rw[ho] at h
  simp only[ho] at hc⊢
  rw[h.Lm (ys:=first.toList) (λ_ hm=>by simp[Op.operands,hm]),h.GP (ys:=captured.toList) (λ_ hm=>by simp[Op.operands,hm])]
  exact hc
 |makeMap t r'=>
  rw[ho] at hc
  cases r' with
  |none=>exact hc
  |some _=>cases hc
 |makeSlice t l c=>
  rw[ho] at h
  simp only[ho] at hc⊢
  rw[h.val (x:=l) Jr,h.val (x:=c) Jr]
  exact hc
 |insert t m k v=>
  rw[ho] at h
  simp only[ho] at hc⊢
  rw[h.Lm (ys:=[m,k,v]) Jr]
  exact hc
 |mapUpdate t m k v=>
  rw[ho] at h
  simp only[ho] at hc⊢
  rw[h.Lm (ys:=[m,k,v]) Jr]
  exact hc
 |lookup t m k ok=>
  rw[ho] at h
  simp only[ho] at hc⊢
  rw[h.Lm (ys:=[m,k]) Jr]
  exact hc
 |slice t x lo hi mx=>
  rw[ho] at h hc
  cases mx with
  |none=>
   have e:=h.Lm (ys:=x::(lo.toList++hi.toList)) (by cases lo<;>cases hi<;>simp[Op.operands])
   simp only at hc⊢
   rw[e]
   exact hc
  |some mx=>cases lo with
   |none=>cases hc
   |some lo=>cases hi with
    |none=>cases hc
    |some hi=>
     have e:=h.Lm (ys:=[x,lo,hi,mx]) Jr
     simp only at hc⊢
     rw[e]
     exact hc
 |makeInterface t x=>
  rw[ho] at h
  simp only[ho] at hc⊢
  rw[h.Lm (ys:=[x]) Jr]
  exact hc
 |mapEntry t m k=>
  rw[ho] at h
  simp only[ho] at hc⊢
  rw[h.Lm (ys:=[m,k]) Jr]
  exact hc
 |entryStore t m s v=>
  rw[ho] at h
  simp only[ho] at hc⊢
  rw[h.Lm (ys:=[m,s,v]) Jr]
  exact hc
 |fieldAddr t x f=>
  rw[ho] at h
  simp only[ho] at hc⊢
  have e:=h.Lm (ys:=[x]) Jr
  rw[h x Jr]
  cases hf:I4 C.P t f with
  |none=>rw[hf] at hc;cases hc
  |some q=>
   rw[hf] at hc
   cases hd:o.dst with
   |none=>rw[hd] at hc;cases hc
   |some d=>
    rw[hd] at hc
    cases hs:Es C U x with
    |none=>rw[hs] at hc;cases x<;>first|exact hc|(show UT _ _ (BC C Z [_])=some r;rw[e];exact hc)
    |some sl=>rw[hs] at hc;cases sl<;>cases x<;>first|exact hc|(show UT _ _ (BC C Z [_])=some r;rw[e];exact hc)
 |field t x f=>
  rw[ho] at h
  simp only[ho] at hc⊢
  rw[h.Lm (ys:=[x]) Jr]
  exact hc
 |indexAddr t x i=>
  rw[ho] at h
  simp only[ho] at hc⊢
  rw[h.Lm (ys:=[x,i]) Jr]
  exact hc
 |index t x i=>
  rw[ho] at h
  simp only[ho] at hc⊢
  rw[h.Lm (ys:=[x,i]) Jr]
  exact hc
 |extract x i=>
  rw[ho] at h
  simp only[ho] at hc⊢
  rw[h.Lm (ys:=[x]) Jr]
  exact hc
 |call c=>
  rw[ho] at h
  simp only[ho] at hc⊢
  rw[h.call]
  exact hc
 |_=>simp only[ho] at hc;cases hc
end
end Go.Am
end
section
namespace Go.Am
open Go
mutual
def Aa.beq_eq:∀{a b:Aa},ye a b=zs->a=b
 | .bool a,b,h=>by cases b<;>simp[ye] at h⊢;exact h
 | z9 k a,b,h=>by cases b<;>simp[ye] at h⊢;exact h
 | .str a,b,h=>by cases b<;>simp[ye] at h⊢;exact h
 | .ptr a,b,h=>by cases b<;>simp[ye] at h⊢;exact h
 | .GI a,b,h=>by cases b<;>simp[ye] at h⊢;exact h
 | .CH a,b,h=>by cases b<;>simp[ye] at h⊢;exact Aa.O5 h
 | .sl n a,b,h=>by cases b<;>simp[ye] at h⊢;exact⟨h.1,Aa.rB h.2⟩
 | .slnil,b,h=>by cases b<;>simp[ye] at h⊢
 | .CC a c d e,b,h=>by cases b<;>simp[ye] at h⊢;exact⟨h.1.1.1,h.1.1.2,h.1.2,h.2⟩
 | .map a,b,h=>by cases b<;>simp[ye] at h⊢;exact h
 | .func f a c,b,h=>by cases b<;>simp[ye] at h⊢;exact⟨h.1.1,Aa.O5 h.1.2,Aa.O5 h.2⟩
 | .nilFunc,b,h=>by cases b<;>simp[ye] at h⊢
 | .iface t a,b,h=>by cases b<;>simp[ye] at h⊢;exact⟨h.1,Aa.beq_eq h.2⟩
 | .nilIface,b,h=>by cases b<;>simp[ye] at h⊢
 | .agg a,b,h=>by cases b<;>simp[ye] at h⊢;exact Aa.O5 h
 | y4 a,b,h=>by cases b<;>simp[ye] at h⊢;exact Aa.O5 h
def Aa.O5:∀{a b:List Aa},Aa.Tj a b=zs->a=b
 |[],b,h=>by cases b<;>simp[Aa.Tj] at h⊢
 |a::x,b,h=>by
  cases b with
  |nil=>simp[Aa.Tj] at h
  |cons c y=>simp[Aa.Tj] at h⊢;exact⟨Aa.beq_eq h.1,Aa.O5 h.2⟩
def Aa.rB:∀{a b:List (List Aa)},Aa.Tk a b=zs->a=b
 |[],b,h=>by cases b<;>simp[Aa.Tk] at h⊢
 |a::x,b,h=>by
  cases b with
  |nil=>simp[Aa.Tk] at h
  |cons c y=>simp[Aa.Tk] at h⊢;exact⟨Aa.O5 h.1,Aa.rB h.2⟩
end
def BU.Kp(U:BU):∀(a b:List (Nat×EL)),U.EB (a++b)=(U.EB a).EB b
 |[],_=>rfl
 |(s,x)::a,b=>BU.Kp (U.set s x) a b
def BU.Kq:∀(ws:List (Nat×EL)) (U:BU),(U.EB ws).length=zz U
 |[],_=>rfl
 |(s,x)::ws,U=>by rw[BU.EB,BU.Kq ws];simp
def BU.YV(U:BU)(s t:Nat)(x:EL):BU.at (U.set s x) t=if s=t/\t<zz U then x else U.at t:=by
 by_cases h:s=t
 .subst h;by_cases hl:s<zz U;.simp[BU.at,yh,hl]
  .simp[BU.at,yh,hl]
 .simp[BU.at,yh,Au h,h]
def BU.Hr:∀(ws:List (Nat×EL)) (U:BU) (t:Nat),(∀p∈ws,p.1≠t)->(U.EB ws).at t=U.at t
 |[],_,_,_=>rfl
 |(s,x)::ws,U,t,h=>by rw[BU.EB,BU.Hr ws _ t λp hp=>h p (by simp[hp]),BU.YV,Ac];simp_all
def BU.YW:∀(ws:List (Nat×EL)) (U:BU) (t:Nat),(U.EB ws).at t=U.at t\/∃p∈ws,p.1=t/\(U.EB ws).at t=p.2
 |[],_,_=> .inl rfl
 |(s,x)::ws,U,t=>by
  obtain h|⟨p,hp,h1,h2⟩:=BU.YW ws (U.set s x) t
  .rw[BU.YV] at h;by_cases hc:s=t/\t<zz U;.rw[Af hc] at h;exact .inr ⟨(s,x),AH,hc.1,h⟩
   .rw[Ac hc] at h;exact .inl h
  .exact .inr ⟨p,by simp[hp],h1,h2⟩
def BU.JT:∀(ws:List (Nat×EL)) (U Z:BU) (t:Nat),zz Z=zz U->Z.at t=U.at t->(Z.EB ws).at t=(U.EB ws).at t
 |[],_,_,_,_,h=>h
 |(s,x)::ws,U,Z,t,hl,h=>by refine BU.JT ws _ _ t (zv hl) ?_;rw[BU.YV,BU.YV,hl,h]
def BU.ext{U Z:BU}(hl:zz Z=zz U)(h:∀t,Z.at t=U.at t):Z=U:=by apply List.ext_getElem hl;intro i h1 h2;have:=h i;simpa[BU.at,yh,h1,h2] using this
def BU.qd{U:BU}{a b:List (Nat×EL)}(h:∀p∈a,∀q∈b,p.1≠q.1):(U.EB a).EB b=(U.EB b).EB a:=by
 refine BU.ext (by simp[BU.Kq]) λt=>?_;by_cases ha:∀p∈a,p.1≠t;.rw[BU.Hr a (U.EB b) t ha];exact BU.JT b _ _ t (by simp[BU.Kq]) (BU.Hr a U t ha)
 .have⟨p,hp,c⟩:∃p∈a,p.1=t:=Classical.byContradiction λhn=>ha λp hp e=>hn ⟨p,hp,e⟩;have hb:∀q∈b,q.1≠t:=λq hq e=>h p hp q hq (by rw[c,e]);rw[BU.Hr b (U.EB a) t hb];exact(BU.JT a _ _ t (by simp[BU.Kq]) (BU.Hr b U t hb)).symm
def O6{U:BU}{ds:List Nat}:NZ U ds=zs↔∀x t o,U.at x= .FF t o->t∉ds:=by
 rw[NZ];rw[Ei];constructor
 .intro h x t o hx;by_cases hl:x<zz U;.have:=h (U.at x) (by simp[BU.at,yh,hl]);grind
  .simp[BU.at,yh,hl] at hx
 .intro h s hs;let⟨i,hi⟩:=CW hs;cases s with
  |FF t o=>have:=h i t o (by simp[BU.at,yh,hi]);grind
  |_=>rfl
def qe{a b:List Nat}:Yw a b=zs↔∃x,x∈a/\x∈b:=by simp[Yw]
structure St where
 idx:Nat
 fp:FP
 fl:Option Lb
def LH(i:Nat)(r:E8)(U:BU):Option Lb:=
 match r with
 | .load n p (zy d)=>match U.at d with
  | y9 v=>zy {idx:=i,n,p,v}
  |_=>zw
 |_=>zw
def YX(i:Nat)(r:E8)(U:BU)(fl:List Lb):NA i r U fl=(LH i r U).toList++fl:=by
 cases r with
 |load n p dst=>
  cases dst with
  |none=>rfl
  |some d=>simp[NA,LH];cases U.at d<;>rfl
 |_=>rfl
def cB{i:Nat}{r:E8}{U Z:BU}(h:∀d∈r.wf,Z.at d=U.at d):LH i r Z=LH i r U:=by
 cases r with
 |load n p dst=>
  cases dst with
  |none=>rfl
  |some d=>simp[LH];rw[h d (by simp[yg])]
 |_=>rfl
def NG(d:Option Nat)(U U':BU):Prop:=
 match d with
 |zw=>U'=U
 |zy d=>match U.at d with
  | y9 v=>∃b,v= .bool b/\U'=U.set d (.P7 b)
  |_=>U'=U
section
variable{C:GN}{fid:FuncId}{ops:List Oper}{run:IT->Ah->Option Kz}{U Z U':BU}{h h':Ah}
def Qp(C:GN)(fid:FuncId)(ops:List Oper)(run:IT->Ah->Option Kz)(s:St)(U:BU)(h:Ah)(U':BU)(h':Ah):Prop:=
 ∃o,ops[s.idx]?=zy o/\
  ((Jo ops U o = .Oe zt /\ s.fp = WS C ops U o zw /\ s.fl = zw /\ U' = U.put o.dst .skip /\ h' = h) \/
   ∃ r U1, Jo ops U o = .Oe zs /\ GQ C fid ops U o = zy r /\ s.fp = WS C ops U o (zy r) /\ r.Oh C run (U.drop r.news) h U1 h' /\ s.fl = LH s.idx r U1 /\
     NG (if Tr ops s.idx then o.dst else zw) U1 U')
def YY(U:BU)(d:Option Nat)(x:EL):U.put d x=U.EB (d.toList.map λs=>(s,x)):=by cases d<;>rfl
def qg(U:BU)(d:Option (Nat×Aa)):U.D5 d=U.EB (d.toList.map λp=>(p.1,y9 p.2)):=by cases d<;>rfl
def dZ{r:E8}(hd:r.Oh C run U h U' h'):∃ws,U'=U.EB ws/\(∀p∈ws,p.1∈r.wf)/\(∀p∈ws,∀t o,p.2= .FF t o->t∈r.di)/\∀Z,r.Oh C run Z h (Z.EB ws) h':=by
 have one:∀(d:Option Nat) (x:EL),(∀t o,x≠ .FF t o)->U'=U.put d x->d.toList⊆r.wf->(∀Z,r.Oh C run Z h (Z.put d x) h')->
   ∃ws,U'=U.EB ws/\(∀p∈ws,p.1∈r.wf)/\(∀p∈ws,∀t o,p.2= .FF t o->t∈r.di)/\∀Z,r.Oh C run Z h (Z.EB ws) h':=by
  intro d x hx he hw ht;refine⟨d.toList.map λs=>(s,x),by rwa[<-YY],λp hp=>?_,λp hp t o hl=>?_,λZ=>by rw[<-YY];exact ht Z⟩;.obtain⟨s,hs,rfl⟩:=Bs.1 hp;exact hw hs
  .obtain⟨s,hs,rfl⟩:=Bs.1 hp;cases (hx t o) hl
 have KZ:∀(i:Option (Nat×Aa)) (d:Option Nat) (x:EL),(∀t o,x≠ .FF t o)->U'=(U.D5 i).put d x->d.toList⊆r.wf->(i.map (·.1)).toList⊆r.wf->(∀Z,r.Oh C run Z h ((Z.D5 i).put d x) h')->
   ∃ws,U'=U.EB ws/\(∀p∈ws,p.1∈r.wf)/\(∀p∈ws,∀t o,p.2= .FF t o->t∈r.di)/\∀Z,r.Oh C run Z h (Z.EB ws) h':=by
  intro i d x hx he hw zb ht;have e:∀Z:BU,(Z.D5 i).put d x=Z.EB ((i.toList.map λp=>(p.1,y9 p.2))++d.toList.map λs=>(s,x)):=λZ=>by rw[BU.Kp,<-qg,<-YY]
  refine⟨_,by rw[he,e],λp hp=>?_,λp hp t o hl=>?_,λZ=>by rw[<-e];exact ht Z⟩
  .rcases Ay.1 hp with hp|hp
   .obtain⟨q,hq,rfl⟩:=Bs.1 hp;exact zb (by cases i<;>simp_all)
   .obtain⟨s,hs,rfl⟩:=Bs.1 hp;exact hw hs
  .rcases Ay.1 hp with hp|hp
   .obtain⟨q,hq,rfl⟩:=Bs.1 hp;cases hl
   .obtain⟨s,hs,rfl⟩:=Bs.1 hp;cases (hx t o) hl
 cases r with
 |pure ws=>obtain⟨rfl,rfl⟩:=hd;refine⟨ws,rfl,λp hp=>Bs.2 ⟨p,hp,rfl⟩,λp hp t o hl=>?_,λZ=>⟨rfl,rfl⟩⟩;exact Ck.2 ⟨p.2,Bs.2 ⟨p,hp,rfl⟩,by rw[hl]⟩
 |op p args dst Bu i=>obtain⟨v,hv,rfl,rfl⟩:=hd;exact KZ i dst _ (by cases Bu<;>simp) rfl (by simp[yg]) (by simp[yg]) λZ=>⟨v,hv,rfl,rfl⟩
 |box n v d=>obtain⟨hn,rfl,rfl⟩:=hd;exact one (zy d) _ AH rfl (by simp[yg]) λZ=>⟨hn,rfl,rfl⟩
 |closure fn x b y d=>
  obtain⟨rfl,rfl⟩:=hd;refine⟨(y.map λ(s,cs)=>(s,y9 (.CH cs)))++[(d,y9 (.func fn x b))],by rw[BU.Kp];rfl,λp hp=>?_,λp hp t o hl=>?_,λZ=>⟨by rw[BU.Kp];rfl,rfl⟩⟩
  .rcases Ay.1 hp with hp|hp
   .obtain⟨q,hq,rfl⟩:=Bs.1 hp;exact aMw _ (Bs.2 ⟨q,hq,rfl⟩)
   .simp at hp;subst hp;simp[yg]
  .rcases Ay.1 hp with hp|hp
   .obtain⟨q,hq,rfl⟩:=Bs.1 hp;cases hl
   .simp at hp;subst hp;cases hl
 |NY s off n v Bu i ver cells owned=>obtain⟨hn,rfl,rfl⟩:=hd;exact KZ i (zy s) _ AH rfl (by simp[yg]) (by simp[yg]) λZ=>⟨hn,rfl,rfl⟩
 |load n p dst=>obtain⟨v,hv,rfl,rfl⟩:=hd;exact one dst _ AH rfl (by simp[yg]) λZ=>⟨v,hv,rfl,rfl⟩
 |store n p v=>obtain⟨hv,rfl⟩:=hd;exact one zw .undef AH rfl AH λZ=>⟨hv,rfl⟩
 |alloc n v dst=>obtain⟨hn,rfl,rfl⟩:=hd;exact one dst _ AH rfl (by simp[yg]) λZ=>⟨hn,rfl,rfl⟩
 |call f args dst=>obtain⟨v,hv,rfl⟩:=hd;exact one dst _ (by intro t o;split<;>simp) rfl (by simp[yg]) λZ=>⟨v,hv,rfl⟩
 |La g args dst=>obtain⟨f,x,v,h1,h2,rfl⟩:=hd;exact one dst _ AH rfl (by simp[yg]) λZ=>⟨f,x,v,h1,h2,rfl⟩
 |BM f args dst=>obtain⟨HB,v,h1,h2,j,rfl,rfl⟩:=hd;exact one dst _ AH rfl (by simp[yg]) λZ=>⟨HB,v,h1,h2,j,rfl,rfl⟩
 |P9 dst=>obtain⟨rfl,rfl⟩:=hd;exact one dst _ AH rfl (by simp[yg]) λZ=>⟨rfl,rfl⟩
 |KX m k v=>obtain⟨hv,rfl⟩:=hd;exact one zw .undef AH rfl AH λZ=>⟨hv,rfl⟩
 |MN z ok m k dst=>obtain⟨v,hv,rfl,rfl⟩:=hd;exact one dst _ AH rfl (by simp[yg]) λZ=>⟨v,hv,rfl,rfl⟩
 |make z b zero l c dst=>obtain⟨v,hv,rfl⟩:=hd;exact one dst _ AH rfl (by simp[yg]) λZ=>⟨v,hv,rfl⟩
 |LM z b s x dst i=>obtain⟨v,hv,rfl⟩:=hd;exact KZ i dst _ AH rfl (by simp[yg]) (by simp[yg]) λZ=>⟨v,hv,rfl⟩
 |J7 z b s x dst=>obtain⟨v,hv,rfl⟩:=hd;exact one dst _ AH rfl (by simp[yg]) λZ=>⟨v,hv,rfl⟩
 |Ha z b s x dst i=>obtain⟨v,hv,rfl,rfl⟩:=hd;exact KZ i dst _ AH rfl (by simp[yg]) (by simp[yg]) λZ=>⟨v,hv,rfl,rfl⟩
 |Fz s dst=>obtain⟨v,hv,rfl⟩:=hd;exact one dst _ AH rfl (by simp[yg]) λZ=>⟨v,hv,rfl⟩
 |Yi s dst=>obtain⟨v,u,h1,h2,rfl⟩:=hd;exact one dst _ AH rfl (by simp[yg]) λZ=>⟨v,u,h1,h2,rfl⟩
 |mem o args dst=>obtain⟨v,hv,rfl⟩:=hd;exact one dst _ (by intro t o';split<;>simp) rfl (by simp[yg]) λZ=>⟨v,hv,rfl⟩
def Vb{r:E8}(hd:r.Oh C run U h U' h')(he:r.Td=zt):h'=h/\
  (r.hl=zt->∀h2,r.Oh C run U h2 U' h2)/\
  ∀n p d,r= .load n p (zy d)->∃v,A5 h n p=zy v/\U'=U.set d (y9 v)/\∀h2,A5 h2 n p=zy v->r.Oh C run U h2 U' h2:=by
 cases r<;>simp[E8.Td] at he<;>try(cases Bf he)
 case pure ws=>obtain⟨rfl,rfl⟩:=hd;exact⟨rfl,λ_ _=>⟨rfl,rfl⟩,AH⟩
 case op p args dst Bu g=>obtain⟨v,hv,rfl,rfl⟩:=hd;exact⟨rfl,λ_ _=>⟨v,hv,rfl,rfl⟩,AH⟩
 case box n v d=>obtain⟨hn,rfl,rfl⟩:=hd;exact⟨rfl,λ_ _=>⟨hn,rfl,rfl⟩,AH⟩
 case closure fn x b j d=>obtain⟨rfl,rfl⟩:=hd;exact⟨rfl,λ_ _=>⟨rfl,rfl⟩,AH⟩
 case NY s off n v Bu g ver cells owned=>obtain⟨hn,rfl,rfl⟩:=hd;exact⟨rfl,λ_ _=>⟨hn,rfl,rfl⟩,AH⟩
 case load n p dst=>obtain⟨v,hv,rfl,rfl⟩:=hd;refine⟨rfl,λc=>absurd c (by simp[E8.hl]),λn' p' d he=>?_⟩;cases he;exact⟨v,hv,rfl,λh2 e=>⟨v,e,rfl,rfl⟩⟩
 case MN z ok m k dst=>obtain⟨v,hv,rfl,rfl⟩:=hd;exact⟨rfl,λc=>absurd c (by simp[E8.hl]),AH⟩
 case BM f args dst=>obtain⟨HB,v,h1,h2,i,rfl,rfl⟩:=hd;exact⟨rfl,λ_ _=>⟨HB,v,h1,h2,i,rfl,rfl⟩,AH⟩
def V0{ds:List Nat}(hn:NZ U ds=zs):U.drop ds=U:=by
 refine BU.ext (BU.length_drop U ds) λt=>?_;rw[BU.TA];cases hx:U.at t with
 |FF t' o=>have:=O6.1 hn t t' o hx;simp[this]
 |_=>rfl
def R4{o:Oper}(h:∀t∈FY ops o,Z.at t=U.at t):Jo ops Z o=Jo ops U o:=by
 unfold Jo;rw[FY] at h;cases hg:o.guard with
 |none=>rfl
 |some g=>
  let⟨j,want⟩:=g;simp only at h⊢;cases hd:(ops[j]?).bind (·.dst) with
  |none=>rfl
  |some s=>grind
def W8{o:Oper}{r:E8}(hc:GQ C fid ops U o=zy r)(ht:∀t∈KH o.op.operands.toList,Z.at t=U.at t)(hb:∀s∈IB C U o,Z.at s=U.at s):IB C Z o=IB C U o:=by
 have h:XA C U Z o.op.operands.toList:= .fg ht
 unfold IB at hb⊢
 cases ho:o.op with
 |load t x=>
  rw[ho] at h hb
  simp only at hb⊢
  have hn:GO C U x≠zw:=λhe=>by
   rw[GQ] at hc
   simp[ho] at hc
   split at hc
   .unfold Md at hc;rw[he] at hc;split at hc<;>simp_all
   .cases hc
  unfold OT
  rw[h.addr Jr hb hn]
 |store t x y=>
  rw[ho] at h hb
  simp only at hb⊢
  have hn:GO C U x≠zw:=λhe=>by
   rw[GQ] at hc
   simp[ho] at hc
   split at hc
   .unfold J2 at hc;rw[he] at hc;split at hc<;>simp_all
   .cases hc
  unfold OT
  rw[h.addr Jr hb hn]
 |_=>rfl
def V4{xs:List EL}{t o:Nat}(h: .FF t o∈xs):t∈Xv xs:=Ck.2 ⟨_,h,rfl⟩
def Qp.spec{s:St}(hs:Qp C fid ops run s U h U' h')(hf:s.fp.UZ=zs):
  ∃ws,U'=U.EB ws/\(∀p∈ws,p.1∈s.fp.wf)/\(∀p∈ws,∀t o,p.2= .FF t o->t∈s.fp.lr)/\(∀x∈s.fp.wf,∀t o,U.at x= .FF t o->t∈s.fp.lr)/\NZ U s.fp.news=zs/\(s.fp.Td=zt->h'=h)/\
   (s.fp.Td=zt->s.fp.hl=zs->∃f,s.fl=zy f)/\
   ∀(Z:BU) (h2 eB:Ah),zz Z=zz U->(∀x∈s.fp.rs++s.fp.wf,Z.at x=U.at x)->NZ Z s.fp.news=zs->
    ((h2=h/\eB=h')\/(s.fp.Td=zt/\eB=h2/\(s.fp.hl=zs->∀f,s.fl=zy f->A5 h2 f.n f.p=zy f.v)))->Qp C fid ops run s Z h2 (Z.EB ws) eB:=by
 obtain⟨o,ho,⟨hg,j,HB,rfl,rfl⟩|⟨r,U1,hg,hc,j,hd,HB,ha⟩⟩:=hs
 .rw[j] at hf⊢;refine⟨o.dst.toList.map λd=>(d,.skip),YY _ _ _,λp hp=>?_,λp hp t k hl=>?_,λx hx t k hl=>?_,O6.2 (by simp[WS]),λ_=>rfl,λ_ i=>absurd i (by simp[WS]),λZ h2 eB hlen zc _ JG=>?_⟩;.obtain⟨d,hd,rfl⟩:=Bs.1 hp;exact hd
  .obtain⟨d,hd,rfl⟩:=Bs.1 hp;cases hl
  .exact V4 (o:=k) (Bs.2 ⟨x,hx,hl⟩)
  .have i:eB=h2:=by rcases JG with⟨D,B⟩|⟨_,e,_⟩<;>first|exact e|rw[D,B]
   refine⟨o,ho,.inl ⟨?_,?_,HB,(YY _ _ _).symm,i⟩⟩;.rw[R4 λt ht=>zc t (Dn _ ht)];exact hg
   .rw[j];have e:o.dst.toList.map Z.at=o.dst.toList.map U.at:=cY λx hx=>zc x (Cm _ hx);simp only[WS,e]
 .rw[j] at hf⊢;have zd:r.UZ U=zs:=hf;have PH:NZ U r.news=zs:=by unfold E8.UZ at zd;rw[Bq] at zd;exact zd.1
  rw[V0 PH] at hd;obtain⟨ze,rfl,hw,A,gR⟩:=dZ hd;have aNR:∃g:List (Nat×EL),U'=(U.EB ze).EB g/\(∀p∈g,o.dst=zy p.1/\∃b,p.2= .P7 b)/\∀Z:BU,zz Z=zz U->(∀x∈r.wf++o.dst.toList,Z.at x=U.at x)->NG (if Tr ops s.idx then o.dst else zw) (Z.EB ze) ((Z.EB ze).EB g):=by
   by_cases c:Tr ops s.idx=zs
   .rw[Af c] at ha;cases TI:o.dst with
    |none=>rw[TI] at ha;exact⟨[],ha,AH,λZ _ _=>by simp[c,NG,BU.EB]⟩
    |some d=>
     rw[TI] at ha;simp only[NG] at ha;have u:∀Z:BU,zz Z=zz U->(∀x∈r.wf++[d],Z.at x=U.at x)->(Z.EB ze).at d=(U.EB ze).at d:=λZ hl zc=>BU.JT ze U Z d hl (zc d AH);cases hx:(U.EB ze).at d with
     |val v=>rw[hx] at ha;obtain⟨b,rfl,rfl⟩:=ha;refine⟨[(d,.P7 b)],rfl,AH,λZ hl zc=>?_⟩;simp only[c,BR,NG];rw[u Z hl zc,hx];exact⟨b,rfl,rfl⟩
     |_=>rw[hx] at ha;refine⟨[],ha,AH,λZ hl zc=>?_⟩;simp only[c,BR,NG];rw[u Z hl zc,hx];rfl
   .rw[Ac c] at ha;exact⟨[],ha,AH,λZ _ _=>by rw[Ac c];rfl⟩
  obtain⟨g,rfl,zb,aIk⟩:=aNR;have q:r.hl=zs->∃n p d,r= .load n p (zy d)/\d<zz U:=λi=>by
   unfold E8.UZ at zd;rw[Bq] at zd;cases r with
   |load n p dst=>
    cases dst with
    |none=>cases AH zd.2
    |some d=>exact⟨n,p,d,rfl,zv zd.2⟩
   |MN _ _ _ _ _=>cases AH zd.2
   |_=>simp[E8.hl] at i
  have aIl:r.Td=zt->∀n p d,r= .load n p (zy d)->d<zz U->∃v,A5 h n p=zy v/\s.fl=zy {idx:=s.idx,n,p,v}:=by intro he n p d hr vT;let⟨v,y,m,_⟩:=(Vb hd he).2.2 n p d hr;refine⟨v,y,?_⟩;simp only[HB,hr,LH];rw[m,BU.FQ vT]
  have aNS:∀(Z:BU) h2 eB,((h2=h/\eB=h')\/(r.Td=zt/\eB=h2/\(r.hl=zs->∀f,s.fl=zy f->A5 h2 f.n f.p=zy f.v)))->r.Oh C run Z h2 (Z.EB ze) eB:=by
   intro Z h2 eB JG;rcases JG with⟨rfl,rfl⟩|⟨he,rfl,VW⟩
   .exact gR Z
   .let⟨_,H,G⟩:=Vb (gR Z) he;cases i:r.hl with
    |false=>exact H i _
    |true=>let⟨n,p,d,hr,vT⟩:=q i;let⟨v,y,m⟩:=aIl he n p d hr vT;let⟨v',E,_,F⟩:=G n p d hr;rw[y] at E;cases E;exact F _ (VW i _ m)
  refine⟨ze++g,by rw[BU.Kp],λp hp=>?_,λp hp t k hl=>?_,λx hx t k hl=>?_,PH,λhe=>(Vb hd he).1,λhe i=>?_,λZ h2 eB hlen zc z JG=>?_⟩
  .rcases Ay.1 hp with hp|hp
   .exact Dn _ (hw p hp)
   .exact Cm _ (by rw[(zb p hp).1];simp)
  .rcases Ay.1 hp with hp|hp
   .exact Cm _ (A p hp t k hl)
   .let⟨_,b,e⟩:=zb p hp;rw[e] at hl;cases hl
  .exact Dn _ (V4 (o:=k) (Bs.2 ⟨x,hx,hl⟩))
  .let⟨n,p,d,hr,vT⟩:=q i;let⟨v,_,m⟩:=aIl he n p d hr vT;exact⟨_,m⟩
  .have l:∀t∈FY ops o++KH o.op.operands.toList++IB C U o,Z.at t=U.at t:=λt ht=>zc t (Dn _ ht);have hwf:∀t∈r.wf++o.dst.toList,Z.at t=U.at t:=λt ht=>zc t (Cm _ ht);have ht:∀t∈KH o.op.operands.toList,Z.at t=U.at t:=λt ht=>l t (by simp[ht]);have hb:∀t∈IB C U o,Z.at t=U.at t:=λt ht=>l t (by simp[ht]);have aIm:NZ Z r.news=zs:=z;refine⟨o,ho,.inr ⟨r,Z.EB ze,?_,YU hc ht hb,?_,?_,?_,?_⟩⟩;.rw[R4 λt ht=>l t (by simp[ht])];exact hg
   .rw[j];have D:(r.wf++o.dst.toList).map Z.at=(r.wf++o.dst.toList).map U.at:=cY λx hx=>hwf x hx;have B:r.UZ Z=r.UZ U:=by unfold E8.UZ;rw[PH,aIm,hlen]
    simp only[WS,D,B,W8 hc ht hb]
   .rw[V0 aIm];exact aNS Z h2 eB JG
   .rw[HB];exact(cB λd hd=>BU.JT ze U Z d hlen (hwf d (Dn _ hd))).symm
   .rw[BU.Kp];exact aIk Z hlen hwf
end
end Go.Am
end
section
namespace Go.Am
open Go
section
variable{C:GN}{fid:FuncId}{ops:List Oper}{run:IT->Ah->Option Kz}{an:List Nat}
def MI{a b:List Nat}(h:(!Yw a b)=zs){x:Nat}(hx:x∈a):x∉b:=λhb=>by have:=qe.2 ⟨x,hx,hb⟩;grind
def swap{p s:St}{U σa U1:BU}{h ha h1:Ah}(hp:Qp C fid ops run p U h σa ha)(hs:Qp C fid ops run s σa ha U1 h1)(Mm:SB p.fp s.fp=zs)
  (VW:s.fp.Td=zs->∀f,p.fl=zy f->A5 h1 f.n f.p=zy f.v):
  ∃σs dG,Qp C fid ops run s U h σs dG/\Qp C fid ops run p σs dG U1 h1/\(s.fp.Td=zs->dG=h1)/\(p.fp.Td=zs->h1=ha):=by
 unfold SB FP.apart at Mm;simp only[Bq] at Mm;let⟨⟨⟨⟨pf,D⟩,⟨⟨a1,a2⟩,a3⟩,a4⟩,he⟩,hl⟩:=Mm;obtain⟨c,rfl,l,pS,A,u,y,G,aC9⟩:=hp.spec pf;obtain⟨b,rfl,k,vR,E,m,vN,F,zf⟩:=hs.spec D;have i:∀x∈s.fp.rs++s.fp.wf,(U.EB c).at x=U.at x:=λx hx=>BU.Hr c U x λq hq e=>MI a1 (l q hq) (by rwa[e]);have d:NZ U s.fp.news=zs:=by
  rw[O6] at m⊢;intro x t o hx;by_cases hw:x∈p.fp.wf;.exact MI a3 (A x hw t o hx)
  .refine m x t o ?_;rwa[BU.Hr c U x λq hq e=>hw (by rw[<-e];exact l q hq)]
 have hlen:∀(Z:BU) (ws:List (Nat×EL)),(Z.EB ws).length=zz Z:=λZ ws=>BU.Kq ws Z;have aDa:(U.EB b).EB c=(U.EB c).EB b:=(BU.qd λq hq r hr e=>by have:=MI a1 (l q hq);exact this (Cm _ (by rw[e];exact k r hr))).symm
 have outs:∀x∈p.fp.rs++p.fp.wf,(U.EB b).at x=U.at x:=λx hx=>BU.Hr b U x λq hq e=>by
  obtain hx|hx:=Ay.1 hx
  .exact MI a2 (k q hq) (by rwa[e])
  .exact MI a1 hx (Cm _ (by rw[<-e];exact k q hq))
 have z:NZ (U.EB b) p.fp.news=zs:=by
  rw[O6] at u⊢;intro x t o hx;obtain h0|⟨q,hq,_,h2⟩:=BU.YW b U x
  .exact u x t o (by rwa[<-h0])
  .rw[h2] at hx;exact MI a4 (vR q hq t o hx)
 by_cases J9:s.fp.Td=zs
 .have g:p.fp.Td=zt:=by
   cases hq:p.fp.Td with
   |false=>rfl
   |true=>simp[J9,hq] at he
  have j:ha=h:=y g;subst j;refine⟨U.EB b,h1,zf U ha h1 (hlen U c).symm (λx hx=>(i x hx).symm) d (.inl ⟨rfl,rfl⟩),?_,λ_=>rfl,λe=>by rw[g] at e;cases e⟩;rw[<-aDa];exact aC9 (U.EB b) h1 h1 (hlen U b) outs z (.inr ⟨g,rfl,λ_ f hf=>VW J9 f hf⟩)
 .have aIn:s.fp.Td=zt:=zv J9
  have B:h1=ha:=vN aIn;subst B;refine⟨U.EB b,h,?_,?_,λe=>absurd e J9,λ_=>rfl⟩
  .by_cases g:p.fp.Td=zs;.refine zf U h h (hlen U c).symm (λx hx=>(i x hx).symm) d (.inr ⟨aIn,rfl,λH=>?_⟩);simp[g,H] at hl
   .have aNV:p.fp.Td=zt:=zv g
    have j:=y aNV;exact zf U h h (hlen U c).symm (λx hx=>(i x hx).symm) d (.inl ⟨j.symm,j.symm⟩)
  .rw[<-aDa];exact aC9 (U.EB b) h h1 (hlen U b) outs z (.inl ⟨rfl,rfl⟩)
inductive Steps(C:GN)(fid:FuncId)(ops:List Oper)(run:IT->Ah->Option Kz)(an:List Nat):List Lb->List St->BU->Ah->BU->Ah->Prop
 |nil {fl:List Lb} {U:BU} {h:Ah}:Steps C fid ops run an fl [] U h U h
 |cons {fl:List Lb} {s:St} {L:List St} {U U1 σf:BU} {h h1 hf:Ah}:Qp C fid ops run s U h U1 h1->(s.fp.Td=zs->∀f∈fl,EN an f.idx s.idx=zt->A5 h1 f.n f.p=zy f.v)->
  Steps C fid ops run an (s.fl.toList++fl) L U1 h1 σf hf->Steps C fid ops run an fl (s::L) U h σf hf
def Steps.sub{fl:List Lb}{L:List St}{U σf:BU}{h hf:Ah}(hs:Steps C fid ops run an fl L U h σf hf):∀{b:List Lb},(∀f∈b,f∈fl)->Steps C fid ops run an b L U h σf hf:=by
 induction hs with
 |nil=>intro b _;exact .nil
 |cons h1 h2 _ ih=>intro b Qq;refine .cons h1 (λhe f hf hb=>h2 he f (Qq f hf) hb) (ih λf hf=>?_);grind
def Qp.aEK{s:St}{U U':BU}{h h':Ah}(hs:Qp C fid ops run s U h U' h'){f:Lb}(hf:s.fl=zy f):f.idx=s.idx:=by
 obtain⟨o,_,⟨_,_,HB,_⟩|⟨r,U1,_,_,_,_,HB,_⟩⟩:=hs;.grind
 .rw[HB] at hf;unfold LH at hf;grind
def Steps.lt{fl:List Lb}{L:List St}{U σf:BU}{h hf:Ah}(hs:Steps C fid ops run an fl L U h σf hf):∀q∈L,q.idx<zz ops:=by
 induction hs with
 |nil=>simp
 |cons h1 _ _ ih=>
  intro q hq;obtain rfl|hq:=AR.1 hq
  .let⟨o',h2,_⟩:=h1;grind
  .grind
def aDb{s:St}{B:List St}{σf:BU}{hf:Ah}:∀{A:List St} {fl:List Lb} {U:BU} {h:Ah},Steps C fid ops run an fl (A++s::B) U h σf hf->(∀p∈A,SB p.fp s.fp=zs/\EN an p.idx s.idx=zt)->
  ∃U1 h1,Qp C fid ops run s U h U1 h1/\(s.fp.Td=zs->∀f∈fl,EN an f.idx s.idx=zt->A5 h1 f.n f.p=zy f.v)/\Steps C fid ops run an (s.fl.toList++fl) (A++B) U1 h1 σf hf
 |[],fl,U,h,hs,_=>by
  cases hs with
  |cons h1 h2 d=>exact⟨_,_,h1,h2,d⟩
 |p::A,fl,U,h,hs,j=>by
  cases hs with
  |cons h1 h2 d=>
   rename_i σa ha;let⟨U1,x,i,e,t⟩:=aDb d λq hq=>j q (by simp[hq]);let⟨Mm,aNW⟩:=j p AH;let⟨σs,dG,w1,m,l,k⟩:=swap h1 i Mm λhe f hf=>e he f (by rw[hf];simp) (by rwa[h1.aEK hf]);refine⟨σs,dG,w1,λhe f hf hb=>?_,.cons m (λhe f hf hb=>?_) (t.sub λf hf=>?_)⟩;.rw[l he];exact e he f (Cm _ hf) hb
   .rw[k he];obtain hf|hf:=Ay.1 hf
    .exfalso;rw[SB] at Mm;simp[Bq] at Mm;let⟨⟨⟨⟨_,z⟩,_⟩,u⟩,hl⟩:=Mm;cases xC:s.fl with
     |none=>rw[xC] at hf;simp at hf
     |some g=>
      have b:s.fp.hl=zs:=by
       obtain⟨o,_,⟨_,_,HB,_⟩|⟨r,y,_,_,c,_,HB,_⟩⟩:=i;.rw[HB] at xC;cases xC
       .rw[HB] at xC;unfold LH at xC;split at xC;.rw[c];rfl
        .cases xC
      simp[he,b] at hl
    .exact h2 he f hf hb
   .grind
def R5{Ed:List Nat}{x:Nat}:∀(ds:List Nat) (m:Nat),(ds.foldl (λm e=>m|||bit e|||Ed.getD e 0) m).testBit x=zs↔m.testBit x=zs\/∃e∈ds,x=e\/(Ed.getD e 0).testBit x=zs
 |[],m=>AH
 |d::ds,m=>by rw[vj,R5 ds];simp[Nat.testBit_or,bit,Nat.testBit_two_pow,WN,Cd,AR,exists_eq_or_imp];grind
def Mv:∀(l:List Oper) (Ed:List Nat) (i:Nat),i<zz Ed->(LO Ed l).getD i 0=Ed.getD i 0
 |[],Ed,i,h=>rfl
 |o::l,Ed,i,h=>by rw[LO,Mv l _ i EP];grind
def R6:∀(l:List Oper) (Ed:List Nat) (k:Nat) (o:Oper),l[k]?=zy o->(∀e∈xu o,e<zz Ed+k)->∀x,
  ((LO Ed l).getD (zz Ed+k) 0).testBit x=zs↔∃e∈xu o,x=e\/((LO Ed l).getD e 0).testBit x=zs
 |[],Ed,k,o,h,_,x=>by simp at h
 |o'::l,Ed,0,o,h,hd,x=>by
  simp at h;subst h;rw[LO,Mv l _ (zz Ed+0) AH];have b:(Ed++[(xu o').foldl (λm e=>m|||bit e|||Ed.getD e 0) 0]).getD (zz Ed+0) 0=(xu o').foldl (λm e=>m|||bit e|||Ed.getD e 0) 0:=by simp[yh]
  simp only[b,R5,Nat.zero_testBit,CA,false_or];constructor;.rintro⟨e,he,h⟩;refine⟨e,he,h.imp id λh=>?_⟩;have hlt:e<zz Ed:=hd e he;rw[Mv l _ e EP];simpa[yh,Ak hlt] using h
  .rintro⟨e,he,h⟩;refine⟨e,he,h.imp id λh=>?_⟩;have hlt:e<zz Ed:=hd e he;rw[Mv l _ e EP] at h;simpa[yh,Ak hlt] using h
 |o'::l,Ed,k+1,o,h,hd,x=>by simp at h;rw[LO];have:=R6 l (Ed++[(xu o').foldl (λm e=>m|||bit e|||Ed.getD e 0) 0]) k o h (λe he=>by have:=hd e he;simp;omega) x;simp[Aw,Bn,BP,B2] at this;rwa[(Ab:zz Ed+(k+1)=zz Ed+1+k)]
def eC{i:Nat}{o:Oper}(ho:ops[i]?=zy o)(hd:∀e∈xu o,e<i)(x:Nat):EN (Yu ops) x i=zs↔∃e∈xu o,x=e\/EN (Yu ops) x e=zs:=by have:=R6 ops [] i o ho (zv hd) x;simpa[EN,Yu] using this
def Qr(h:gP ops=zs){i:Nat}{o:Oper}(ho:ops[i]?=zy o):∀e∈xu o,e<i:=by
 rw[gP] at h;rw[Ei] at h;have:=h (o,i) (by refine CV (i:=i) ?_;simp[List.getElem?_zipIdx,ho])
 grind
def eD:∀{l:List (Nat×FP)},Yx.go an l=zs->l.Pairwise λx y=>x.1≠y.1/\EN an y.1 x.1=zt/\(EN an x.1 y.1=zs\/SB x.2 y.2=zs)
 |[],_=> .nil
 |(i,f)::l,h=>by simp[Yx.go,Bq,Ei] at h;refine .cons (λy hy=>?_) (eD h.2);grind
def zg{d:Option Nat}{U:BU}{K:BU->IT}{h:Ah}{R:Kz}(hr:xx (B8 C) run (dj d U K) h=zy R):∃U',NG d U U'/\xx (B8 C) run (K U') h=zy R:=by
 unfold dj at hr;cases d with
 |none=>exact⟨U,rfl,hr⟩
 |some d=>
  simp only at hr;cases hx:U.at d with
  |val v=>
   rw[hx] at hr;simp[xx] at hr;split at hr;.exact⟨U.set d (.P7 zs),by simp only[NG,hx];exact⟨zs,rfl,rfl⟩,hr⟩
   .exact⟨U.set d (.P7 zt),by simp only[NG,hx];exact⟨zt,rfl,rfl⟩,hr⟩
   .cases hr
  |_=>rw[hx] at hr;exact⟨U,by simp[NG,hx],hr⟩
def O7{i:Nat}{t:IT}{h:Ah}{R:Kz}:∀{fl:List Lb},xx (B8 C) run (Tq an i fl t) h=zy R->(∀f∈fl,EN an f.idx i=zt->A5 h f.n f.p=zy f.v)/\xx (B8 C) run t h=zy R
 |[],hr=>⟨AH,hr⟩
 |f::fl,hr=>by
  rw[Tq] at hr;by_cases hb:EN an f.idx i=zs;.rw[Af hb] at hr;let⟨d,c⟩:=O7 hr;grind
  .rw[Ac hb] at hr;simp[xx] at hr;split at hr
   .rename_i v hv;split at hr
    .rename_i NB;let⟨d,c⟩:=O7 hr;refine⟨λg hg b=>?_,c⟩;obtain rfl|hg:=AR.1 hg
     .rw[Aa.beq_eq NB];exact hv
     .exact d g hg b
    .cases hr
   .cases hr
def SL{K:BU->IT}{R:Kz}:∀{rest:List Nat} {b:List (Nat×FP)} {fl:List Lb} {U:BU} {h:Ah},xx (B8 C) run (SC C fid ops an rest b fl U K) h=zy R->
  ∃L σf hf,Steps C fid ops run an fl L U h σf hf/\Yx (zz ops) an (b.reverse++L.map λs=>(s.idx,s.fp))=zs/\xx (B8 C) run (K σf) hf=zy R
 |[],b,fl,U,h,hr=>by
  rw[SC] at hr;split at hr;next Mm=>exact⟨[],U,h,.nil,zv Mm,hr⟩
  .cases hr
 |i::rest,b,fl,U,h,hr=>by
  rw[SC] at hr;cases ho:ops[i]? with
  |none=>rw[ho] at hr;cases hr
  |some o=>
   rw[ho] at hr;simp only at hr;split at hr
   .rename_i hg;split at hr;.cases hr
    .rename_i r hc;let⟨U1,h1,hd,hr⟩:=dF hr;have Gy:(r.Td=zs->∀f∈fl,EN an f.idx i=zt->A5 h1 f.n f.p=zy f.v)/\xx (B8 C) run (dj (if Tr ops i then o.dst else zw) U1 λj=>SC C fid ops an rest ((i,WS C ops U o (zy r))::b) (NA i r U1 fl) j K) h1=zy R:=by
      split at hr;.let⟨d,c⟩:=O7 hr;exact⟨λ_=>d,c⟩
      next he=>exact⟨λe=>absurd e he,hr⟩
     let⟨VW,hr⟩:=Gy;let⟨U',ha,hr⟩:=zg hr;rw[YX] at hr;let⟨L,σf,hf,d,c,g⟩:=SL hr;exact⟨{idx:=i,fp:=WS C ops U o (zy r),fl:=LH i r U1}::L,σf,hf,.cons ⟨o,ho,.inr ⟨r,U1,hg,hc,rfl,hd,rfl,ha⟩⟩ VW d,zv c,g⟩
   next hg=>let⟨L,σf,hf,d,c,g⟩:=SL hr;exact⟨{idx:=i,fp:=WS C ops U o zw,fl:=zw}::L,σf,hf,.cons ⟨o,ho,.inl ⟨hg,rfl,rfl,rfl,rfl⟩⟩ (λe=>by simp[WS] at e) d,zv c,g⟩
   .cases hr
end
section
variable{C:GN}{γ0 γ:Gh}{w0 w:World}{O:Nat->Nat}{U:BU}{h:Ah}{a:Act}{fid:FuncId}
section
variable(hr:Dd C γ0 w0 γ O U h a w)
def Mw{ops:Array Oper}{o:Oper}{b:Bool}(hg:Jo ops.toList U o= .Oe b):Region.wanted o (yielded ops a.tmps)=b:=by
 rw[Jo] at hg;rw[Region.wanted];cases ho:o.guard with
 |none=>rw[ho] at hg;cases hg;rfl
 |some g=>
  let⟨j,want⟩:=g;rw[ho] at hg;simp[aH1] at hg⊢;rw[yielded];cases hd:(ops[j]?).bind (·.dst) with
  |none=>rw[hd] at hg;cases hg
  |some s=>
   rw[hd] at hg;simp[CP] at hg⊢;have h0:=hr.fr.IS s;cases hx:U.at s with
   |P7 c=>
    rw[hx] at hg h0;cases hg;have hl:s<a.tmps.size:=by rw[<-hr.fr.size];exact BU.Qh (by rw[hx];simp)
    have hv:a.tmps.getD s undef= .bool c:=h0;simp_all
   |skip=>
    rw[hx] at hg h0;cases hg;have hv:=h0;have hne:∀c,a.tmps[s]?≠zy (.bool c):=λc hc=>by rw[Kx,hc] at hv;cases hv
    cases ht:a.tmps[s]? with
    |none=>rfl
    |some v=>
     cases v with
     |bool c=>cases (hne c) ht
     |_=>rfl
   |val v=>rw[hx] at hg;cases hg
   |_=>rw[hx] at hg;cases hg
def Dd.aIo{d:Option Nat}{U':BU}(ha:NG d U U'):Dd C γ0 w0 γ O U' h a w:=by
 unfold NG at ha;cases d with
 |none=>simp only at ha;rwa[ha]
 |some d=>
  simp only at ha;cases hx:U.at d with
  |val v=>rw[hx] at ha;obtain⟨b,rfl,rfl⟩:=ha;have h0:=hr.fr.IS d;rw[hx] at h0;exact hr.qB h0
  |_=>rw[hx] at ha;rwa[ha]
end
structure aNX(ops:Array Oper)(listed:Array Bool)(L:List St):Prop where
 size:listed.size=ops.size
 un:∀i,i<ops.size->(listed.getD i zt=zt↔i∈L.map (·.idx))
 closed:∀j,listed.getD j zt=zs->∀e,EN (Yu ops.toList) e j=zs->listed.getD e zt=zs
abbrev fh(an:List Nat)(L:List St):Prop:=L.Pairwise λx y=>x.idx≠y.idx/\EN an y.idx x.idx=zt/\(EN an x.idx y.idx=zs\/SB x.fp y.fp=zs)
def qi{run:IT->Ah->Option Kz}(D:FB C run){ops:Array Oper}{Q:Exit->Act->World->Prop}(GG:gP ops.toList=zs){σf:BU}{hf:Ah}(hQ:∀γ' k a' w',Dd C γ0 w0 γ' k σf hf a' w'->Q .normal a' w'):
  ∀(fuel:Nat) (L:List St) (listed:Array Bool) (γ:Gh) (O:Nat->Nat) (U:BU) (h:Ah) (a:Act) (w:World),zz L=fuel->Steps C fid ops.toList run (Yu ops.toList) [] L U h σf hf->fh (Yu ops.toList) L->aNX ops listed L->Dd C γ0 w0 γ O U h a w->
   wpAny C.P .any ops Q fuel listed a w:=by
 intro fuel;induction fuel with
 |zero=>
  intro L listed γ O U h a w l hs hp ho hr;have u:L=[]:=DC l;subst u;cases hs;refine⟨List.eq_nil_iff_forall_not_mem.2 λi hi=>?_,hQ _ _ _ _ hr⟩;let⟨h0,o,Ĺ,_⟩:=mem_ready.1 hi;have hlt:i<ops.size:=(Bc.1 Ĺ).1;have bZ:listed.getD i zt=zt:=by
   have hl:i<listed.size:=by rwa[ho.size]
   simpa[Array.getD,hl] using h0
  have:=(ho.un i hlt).1 bZ;simp at this
 |succ fuel ih=>
  intro L listed γ O U h a w l hs hp ho hr;have hC:∀i,i<ops.size->listed.getD i zs=listed.getD i zt:=λi hi=>by
   have hl:i<listed.size:=by rwa[ho.size]
   simp[Array.getD,hl]
  constructor
  .intro VW;exfalso;cases L with
   |nil=>simp at l
   |cons s0 L=>
    obtain⟨o,Ĺ,_⟩:∃o,ops.toList[s0.idx]?=zy o/\True:=by
     cases hs with
     |cons h1 _ _=>let⟨o,h2,_⟩:=h1;exact⟨o,h2,trivial⟩
    have xD:ops[s0.idx]?=zy o:=zv Ĺ
    have hlt:s0.idx<ops.size:=(Bc.1 xD).1;have:s0.idx∈Region.ready .any ops listed:=by
     refine mem_ready.2 ⟨?_,o,xD,λe he hb=>?_⟩;.rw[hC _ hlt];exact(ho.un _ hlt).2 AH
     .have f:e.on∈xu o:=Ck.2 ⟨e,zv he,by rw[Af hb]⟩;have z:=Qr GG Ĺ e.on f;cases hl:listed.getD e.on zt with
      |true=>rfl
      |false=>
       have hm:=(ho.un e.on Ab).1 hl;simp only[Bm,AR] at hm;obtain hm|hm:=hm
       .omega
       .let⟨y,hy,m⟩:=Bs.1 hm;have:=((aRv.1 hp).1 y hy).2.1;rw[m,(eC Ĺ (Qr GG Ĺ) e.on).2 ⟨e.on,f,.inl rfl⟩] at this;cases this
    rw[VW] at this;cases this
  .intro i hi;let⟨h0,o,Ĺ,aIp⟩:=mem_ready.1 hi;have hlt:i<ops.size:=(Bc.1 Ĺ).1;rw[hC i hlt] at h0;obtain⟨s,n,rfl⟩:=Bs.1 ((ho.un i hlt).1 h0);obtain⟨A,B,rfl⟩:=List.append_of_mem n;have xD:ops.toList[s.idx]?=zy o:=zv Ĺ
   have aIq:∀e,EN (Yu ops.toList) e s.idx=zs->listed.getD e zt=zs:=λe he=>by
    let⟨d,hd,JG⟩:=(eC xD (Qr GG xD) e).1 he;let⟨E,f,hb⟩:=Ck.1 hd;split at hb
    .rename_i Rg;cases hb;have vT:=aIp E (zv f) Rg;obtain rfl|JG:=JG
     .exact vT
     .exact ho.closed _ vT e JG
    .cases hb
   have b:=(aMx.1 hp).2.2;have aEL:∀p∈A++s::B,p.idx<ops.size:=λp t=>zv (hs.lt p t)
   let⟨U1,h1,x,_,v⟩:=aDb hs λp g=>by
    have hb:EN (Yu ops.toList) p.idx s.idx=zt:=by
     cases Rg:EN (Yu ops.toList) p.idx s.idx with
     |false=>rfl
     |true=>have h1:=aIq _ Rg;have h2:=(ho.un p.idx (aEL p (by simp[g]))).2 (Bs.2 ⟨p,by simp[g],rfl⟩);rw[h1] at h2;cases h2
    refine⟨?_,hb⟩;have:=(b p g s AH).2.2;rw[hb] at this;exact this.resolve_left AH
   have aDc:∀γ' k a' w',Dd C γ0 w0 γ' k U1 h1 a' w'->wpAny C.P .any ops Q fuel (listed.setIfInBounds s.idx zs) a' w':=λγ' k a' w' Gy=>by
    refine ih (A++B) _ γ' k U1 h1 a' w' (by simp at l⊢;omega) (v.sub AH) ?_ ⟨by simp[ho.size],λj hj=>?_,λj hj e he=>?_⟩ Gy;.exact hp.sublist ((A4 A).append (List.sublist_cons_self s B))
    .by_cases c:j=s.idx
     .subst c;have aEM:s.idx∉(A++B).map (·.idx):=λhm=>by
       let⟨q,hq,he⟩:=Bs.1 hm;obtain hq|hq:=Ay.1 hq
       .exact(b q hq s AH).1 he
       .exact(aRv.1 (aMx.1 hp).2.1).1 q hq |>.1 he.symm
      have ht:(listed.setIfInBounds s.idx zs).getD s.idx zt=zs:=by
       have hl:s.idx<listed.size:=by rwa[ho.size]
       simp[Array.getD,hl]
      rw[ht];exact⟨λe=>absurd e AH,λe=>absurd e aEM⟩
     .rw[getD_set_ne zt (λe=>c e.symm),ho.un j hj];simp[BL,Bm,Ay,AR];constructor
      .rintro(e|e|e);.exact .inl e
       .cases c e
       .exact .inr e
      .rintro(e|e);.exact .inl e
       .exact .inr (.inr e)
    .by_cases c:j=s.idx;.subst c;exact getD_set_true (aIq e he)
     .rw[getD_set_ne zt (λe=>c e.symm)] at hj;exact getD_set_true (ho.closed j hj e he)
   rw[wpOp];rw[Ĺ];obtain⟨o',ň,⟨hg,_,_,rfl,rfl⟩|⟨r,F,hg,hc,_,hd,_,ha⟩⟩:=x;.rw[xD] at ň;cases ň;simp[Mw hr hg,CA,EV];exact aDc _ _ _ _ (hr.put λ_ _=>rfl)
   .rw[xD] at ň;cases ň;simp[Mw hr hg,BR];exact .inl (za D hc hd hr λγ' k a' w' Gy=>aDc γ' k a' w' (Gy.aIo ha))
end
end Go.Am
end
end
