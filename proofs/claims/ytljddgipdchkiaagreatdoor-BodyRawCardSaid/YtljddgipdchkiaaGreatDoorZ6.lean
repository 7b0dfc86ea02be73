/- Lemmas -/
import Derived.Test.YtljddgipdchkiaaGreatDoorZ5
import Derived.MapKept
set_option linter.all false
section
namespace Go.Am
open Go
section
variable{C:FZ}{γ0 γ γ':Gh}{w0 w w':World}{Z:Nat->Nat}{U:BW}{h:Ah}{a:Act}{fid:FuncId}{ops:List Oper}
def Wj{s t:Aq}(h:s≠t):((⟨⟨s⟩⟩:ByteArray)==⟨⟨t⟩⟩)=false:=by
 refine Bool.eq_false_iff.2 λhc=>h ?_;have:=(MapKept.bytes_beq _ _).1 hc;injection this with this
 injection this with this
def QW(s:Aq):((⟨⟨s⟩⟩:ByteArray)==⟨⟨s⟩⟩)=true:=(MapKept.bytes_beq _ _).2 rfl
def eV{s:Aq}:∀{es:List (Aa×Aa)} {l:List MapEntry} {i:Nat} {r:Option Aa},K5 γ es l->VI s es=some r->
  match r with
  |none=>Instr.findNow .string (.string ⟨⟨s⟩⟩) l i=some none
  |some v=>∃(j:Nat) (e:MapEntry),Instr.findNow .string (.string ⟨⟨s⟩⟩) l i=some (some (i+j,e.val))/\BU γ v e.val
 |[],l,i,r,b,hf=>by rw[show l=[] from b];cases hf;rfl
 |(k,v)::es,l,i,r,b,hf=>by
  obtain⟨e,l',rfl,h1,h2,f⟩:=b;unfold VI at hf;split at hf;.rename_i Kp;cases Kp
  .rename_i t v' UA Kp;cases Kp;have hk:e.key= .string ⟨⟨t⟩⟩:=h1;split at hf;.rename_i HT;subst HT;cases hf;exact⟨0,e,by simp[Instr.findNow,hk,Instr.sameNow,QW],h2⟩
   .rename_i HT;have ih:=eV (i:=i+1) f hf;have hne:=Wj HT;cases r with
    |none=>simpa[Instr.findNow,hk,Instr.sameNow,hne] using ih
    |some v2=>obtain⟨j,g,d,c⟩:=ih;exact⟨j+1,g,by simp only[Instr.findNow,hk,Instr.sameNow,hne];rw[d];congr 3;omega,c⟩
  .cases hf
def pV{s:Aq}{v:Aa}{u:Value}(hv:BU γ v u):∀{es UA:List (Aa×Aa)} {l:List MapEntry} {i:Nat},K5 γ es l->ON s v es=some UA->
  (Instr.findNow .string (.string ⟨⟨s⟩⟩) l i=some none/\∀born,K5 γ UA (l++[{key:= .string ⟨⟨s⟩⟩,val:=u,born}]))\/
  ∃j e,Instr.findNow .string (.string ⟨⟨s⟩⟩) l i=some (some (i+j,e.val))/\l[j]?=some e/\e.key= .string ⟨⟨s⟩⟩/\K5 γ UA (l.modify j λe=>{e with key:= .string ⟨⟨s⟩⟩,val:=u})
 |[],UA,l,i,d,hp=>by rw[show l=[] from d];cases hp;exact .inl ⟨rfl,λborn=>⟨_,[],rfl,rfl,hv,rfl⟩⟩
 |(k,v0)::es,UA,l,i,d,hp=>by
  obtain⟨e,l',rfl,h1,h2,f⟩:=d;unfold ON at hp;split at hp;.rename_i Kp;cases Kp
  .rename_i t v' o Kp;cases Kp;have hk:e.key= .string ⟨⟨t⟩⟩:=h1;split at hp;.rename_i HT;subst HT;cases hp;exact .inr ⟨0,e,by simp[Instr.findNow,hk,Instr.sameNow,QW],rfl,hk,_,l',rfl,rfl,hv,f⟩
   .rename_i HT;have hne:=Wj HT;cases hq:ON s v es with
    |none=>rw[hq] at hp;cases hp
    |some n=>
     rw[hq] at hp;cases hp;rcases pV hv (i:=i+1) f hq with⟨c,b⟩|⟨j,p,c,b,m,g⟩
     .exact .inl ⟨by simpa[Instr.findNow,hk,Instr.sameNow,hne] using c,λborn=>⟨e,_,rfl,h1,h2,b born⟩⟩
     .exact .inr ⟨j+1,p,by simp only[Instr.findNow,hk,Instr.sameNow,hne];rw[c];congr 3;omega,b,m,e,_,AK,h1,h2,g⟩
  .cases hp
def S5{es:Array MapEntry}{clock:Nat}{k v:Value}(h:clock=es.size/\∀(i:Nat) (e:MapEntry),es[i]?=some e->e.born=i):
  clock+1=(es.push {key:=k,val:=v,born:=clock}).size/\∀(i:Nat) (e:MapEntry),(es.push {key:=k,val:=v,born:=clock})[i]?=some e->e.born=i:=by
 obtain⟨rfl,h⟩:=h;refine⟨AK,λi e he=>?_⟩;rw[YH] at he;split at he;.rename_i hi;cases he;exact hi.symm
 .exact h i e he
def TR{es:Array MapEntry}{clock j:Nat}{f:MapEntry->MapEntry}(h:clock=es.size/\∀(i:Nat) (e:MapEntry),es[i]?=some e->e.born=i)(hf:∀e,(f e).born=e.born):
  clock=(es.modify j f).size/\∀(i:Nat) (e:MapEntry),(es.modify j f)[i]?=some e->e.born=i:=by
 refine⟨by simpa using h.1,λi e he=>?_⟩;rw[MW] at he;split at he
 .cases hx:es[i]? with
  |none=>rw[hx] at he;cases he
  |some x=>rw[hx] at he;cases he;rw[hf];exact h.2 i x hx
 .exact h.2 i e he
def No(hi:Hj γ h w){g id:Nat}{es UA:List (Aa×Aa)}(RK:h[id]?=some (.map es))(hg:γ.mu id=some g){o:Obj}{ents':Array MapEntry}{clock':Nat}(hw:w.heap[g]?=some o)(hr:df γ UA ents' clock'):
  Hj γ (h.set id (.map UA)) {w with heap:=w.heap.setIfInBounds g (.map ents' clock')}/\K6 γ w γ {w with heap:=w.heap.setIfInBounds g (.map ents' clock')}:=by
 obtain⟨k,p,SN⟩:=hi.L8 id _ RK AK;rw[hg] at p;cases p;obtain⟨Ni,c⟩:=MapKept.heap_set (o':= .map ents' clock') hw;have uniq:∀FO x,h[FO]?=some x->x≠ .CT->γ.mu FO=some g->FO=id:=λFO x hx Ŵ hm=>by obtain⟨b',p,q⟩:=hi.L8 FO x hx Ŵ;rw[hm] at p;cases p;rw[SN] at q;cases q;rfl
 constructor
 .refine⟨λb o v hb=>?_,λFO y Ik hy=>?_,λFO cs hc b hb=>?_,λFO e hc b hb=>?_,λFO b hb=>by simpa using hi.mu FO b hb,λb x hx=>?_,λb n hb=>?_⟩;rotate_left 5
  .obtain⟨⟨kE,i,dh,p,q⟩,r⟩:=hi.sz b n hb;have hne:b≠g:=λhe=>by subst he;obtain⟨f,d,j,_⟩:=hi.map id es RK b hg;rw[p] at j;cases j
   exact⟨⟨kE,i,dh,by rw[c b hne];exact p,q⟩,r⟩
  .obtain⟨p,q,r⟩:=hi.Io b o v hb;have:b≠g:=λhe=>by subst he;rw[SN] at r;rcases r with r|⟨_,_,_,r,_⟩<;>cases r
   exact⟨by rw[CS (w:=w) (c b this)];exact p,q,r⟩
  .by_cases he:FO=id;.subst he;exact⟨g,hg,SN⟩
   .rw[Ao (λx=>he x.symm)] at Ik;exact hi.L8 FO y Ik hy
  .by_cases he:FO=id;.subst he;rw[AQ (hi.mu _ _ hg)] at hc;cases hc
   .rw[Ao (λx=>he x.symm)] at hc;have QQ:b≠g:=λhx=>by subst hx;exact he (uniq FO _ hc AK hb)
    obtain⟨kE,i,dh,p,pf,q,r⟩:=hi.cells FO cs hc b hb;exact⟨kE,i,dh,by rw[c b QQ];exact p,pf,q,r⟩
  .by_cases he:FO=id;.subst he;rw[hg] at hb;cases hb;rw[AQ (hi.mu _ _ hg)] at hc;cases hc;exact⟨ents',clock',Ni,hr⟩
   .rw[Ao (λx=>he x.symm)] at hc;have QQ:b≠g:=λhx=>by subst hx;exact he (uniq FO _ hc AK hb)
    obtain⟨DD,clock,p,q⟩:=hi.map FO e hc b hb;exact⟨DD,clock,by rw[c b QQ];exact p,q⟩
  .have:=hi.Bw b x hx;simpa using this
 .refine⟨.refl _,AK,rfl,rfl,rfl,λb hb hn=>⟨?_,rfl⟩⟩;exact c b (λhe=>by subst he;exact hn id SN)
def QX(hr:Dc C γ0 w0 γ Z U h a w){x y z:Operand}{d c b:Aa}(ha:BC C U [x,y,z]=some [d,c,b]):BU γ d (a.eval x)/\BU γ c (a.eval y)/\BU γ b (a.eval z):=by obtain⟨_,_,_,e,h1,h2,f⟩:=(DY hr ha).TM;simp only[Bs,Df,E4,Mx] at e;obtain⟨rfl,rfl,rfl⟩:=e;exact⟨h1,h2,f⟩
def eW{o:Oper}{t kt e:TypeId}{m k x:Operand}{n p g:Aa}{h':Ah}(ho:o.op= .insert t m k x\/o.op= .mapUpdate t m k x)(hd:o.dst=none)(ht:C.P.underlying t=some (.map kt e))(hk:C.P.underlying kt=some .string)(ha:BC C U [m,k,x]=some [n,p,g])
  (hm:TH h n p g=some h') (hr:Dc C γ0 w0 γ Z U h a w):FY C γ0 w0 o a w U h':=by
 obtain⟨h1,h2,v⟩:=QX hr ha;have MF:∀w',(Instr.mapUpdate t (a.eval m) (a.eval k) (a.eval x)).run C.P w= .ok () w'->(execOp a.eval o).run C.P w= .ok .skip w':=λw' A3=>by rcases ho with ho|ho<;>simp[execOp,ho,A3]
 unfold TH at hm;split at hm
 .rename_i id s;obtain⟨b,hb,xK⟩:=h1;have c:a.eval k= .string ⟨⟨s⟩⟩:=h2;split at hm
  .rename_i es RK;cases hp:ON s g es with
   |none=>rw[hp] at hm;cases hm
   |some UA=>
    rw[hp] at hm;cases hm;obtain⟨DD,clock,hw,u,hB⟩:=hr.D4.map id es RK b hb;have xL:(Instr.checkKey false 10000 kt (.string ⟨⟨s⟩⟩)).run C.P w= .ok () w:=MapKept.run_checkKey (k:= .string ⟨⟨s⟩⟩) hk (by simp[MapKept.IsKey]) false 9999;rcases pV v (i:=0) u hp with⟨f,l⟩|⟨j,en,f,l,r,q⟩
    .have A3:(Instr.mapUpdate t (a.eval m) (a.eval k) (a.eval x)).run C.P w= .ok () {w with heap:=w.heap.setIfInBounds b (.map (DD.push {key:= .string ⟨⟨s⟩⟩,val:=a.eval x,born:=clock}) (clock+1))}:=by rw[xK,c];simp[Instr.mapUpdate,run_underlying ht,MapKept.run_getObj_map hw,xL,MapKept.run_findKey hk f,MapKept.run_setObj_map _ hw,Result.andThen]
     obtain⟨hi,Ka⟩:=No (UA:=UA) (ents':=DD.push {key:= .string ⟨⟨s⟩⟩,val:=a.eval x,born:=clock}) (clock':=clock+1) hr.D4 RK hb hw ⟨by simpa using l clock,S5 hB⟩;exact FY.skip (MF _ A3) (by rw[hd];exact hr.I5 hi Ka)
    .have hj:DD[j]?=some en:=by simpa using l
     rw[B0] at f;have A3:(Instr.mapUpdate t (a.eval m) (a.eval k) (a.eval x)).run C.P w= .ok () {w with heap:=w.heap.setIfInBounds b (.map (DD.modify j λe=>{e with key:= .string ⟨⟨s⟩⟩,val:=a.eval x}) clock)}:=by rw[xK,c];simp[Instr.mapUpdate,run_underlying ht,MapKept.run_getObj_map hw,xL,MapKept.run_findKey hk f,hj,r,MapKept.run_keyThatStays (d:= .string) (k:= .string ⟨⟨s⟩⟩) (by simp[MapKept.IsKey]),MapKept.run_setObj_map _ hw,Result.andThen]
     obtain⟨hi,Ka⟩:=No (UA:=UA) (ents':=DD.modify j λe=>{e with key:= .string ⟨⟨s⟩⟩,val:=a.eval x}) (clock':=clock) hr.D4 RK hb hw ⟨by simpa using q,TR hB λ_=>rfl⟩;exact FY.skip (MF _ A3) (by rw[hd];exact hr.I5 hi Ka)
  .cases hm
 .cases hm
def e_{o:Oper}{t:TypeId}(ho:o.op= .makeMap t none)(hr:Dc C γ0 w0 γ Z U h a w):FY C γ0 w0 o a w (U.put o.dst (.val (.map (some h.length)))) (h++[.map []]):=by
 obtain⟨hi,ha⟩:=GM hr.D4 (.map #[] 0) (.map []) none (.inr ⟨rfl,rfl,rfl⟩);have A3:(Instr.makeMap t none).run C.P w= .ok (.map (some w.heap.size)) (w.alloc (.map #[] 0)):=by simp[Instr.makeMap]
 exact FY.value (by simp only[execOp,ho];exact DF A3) ((hr.I5 hi ha).put λ_ _=>⟨w.heap.size,by simp[Gh.B3],rfl⟩)
def KU(key elem:TypeId)(index:Value)(commaOk:Bool)(es:Array MapEntry):Sem Value:=do
 Instr.checkKey es.isEmpty 10000 key index
 let(v,ok)<-match<-Instr.findKey key index es.toList with
  |some (_,v)=>pure (v,true)
  |none=>pure (<-zeroValue elem,false)
 pure (if commaOk then .tuple #[v,.bool ok] else v)
def fc{o:Oper}{t kt e:TypeId}{m k:Operand}{d f z r:Aa}{ok:Bool}(ho:o.op= .lookup t m k ok)(ht:C.P.underlying t=some (.map kt e))(hk:C.P.underlying kt=some .string)(hz:GZ C.P e=some z)(ha:BC C U [m,k]=some [d,f])(hm:TI h z ok d f=some r)(hr:Dc C γ0 w0 γ Z U h a w):
  FY C γ0 w0 o a w (U.put o.dst (.val r)) h:=by
 obtain⟨_,_,e0,h1,h2⟩:=Ff hr ha;cases e0;obtain⟨l,be,g⟩:=H7 hz;have HC:∀(es:Array MapEntry) (q:Option Aa),(Instr.lookup t (a.eval m) (a.eval k) ok).run C.P w=(KU kt e (a.eval k) ok es).run C.P w->
   ∀s,a.eval k= .string ⟨⟨s⟩⟩->(match q with|none=>Instr.findNow .string (.string ⟨⟨s⟩⟩) es.toList 0=some none|some v=>∃(j:Nat) (e:MapEntry),Instr.findNow .string (.string ⟨⟨s⟩⟩) es.toList 0=some (some (0+j,e.val))/\BU γ v e.val)->
   (match q with|some v=>if ok then Aa.tuple [v,.bool true] else v|none=>if ok then .tuple [z,.bool false] else z)=r->FY C γ0 w0 o a w (U.put o.dst (.val r)) h:=by
  intro es q RK s so hq TQ;have xL:(Instr.checkKey es.isEmpty 10000 kt (.string ⟨⟨s⟩⟩)).run C.P w= .ok () w:=MapKept.run_checkKey (k:= .string ⟨⟨s⟩⟩) hk (by simp[MapKept.IsKey]) es.isEmpty 9999;have A3:∃v,(Instr.lookup t (a.eval m) (a.eval k) ok).run C.P w= .ok v w/\BU γ r v:=by
   cases q with
   |none=>
    refine⟨if ok then .tuple #[l,.bool false] else l,?_,?_⟩;.rw[RK,so];unfold KU;simp only[Sem.run_bind,Result.andThen_ok,xL,MapKept.run_findKey hk hq,g,Sem.run_bind,Sem.run_pure]
    .rw[<-TQ];have c:=Fu (γ:=γ) be;cases ok with
     |true=>exact⟨_,rfl,_,_,rfl,c,_,_,rfl,rfl,rfl⟩
     |false=>exact c
   |some v=>
    obtain⟨j,en,p,n⟩:=hq;refine⟨if ok then .tuple #[en.val,.bool true] else en.val,?_,?_⟩;.rw[RK,so];unfold KU;simp only[Sem.run_bind,Result.andThen_ok,xL,MapKept.run_findKey hk p,Sem.run_bind,Sem.run_pure]
    .rw[<-TQ];cases ok with
     |true=>exact⟨_,rfl,_,_,rfl,n,_,_,rfl,rfl,rfl⟩
     |false=>exact n
  obtain⟨v,A3,pT⟩:=A3;exact FY.value (by simp only[execOp,ho];exact DF A3) (hr.put λ_ _=>pT)
 unfold TI at hm;cases hf:VJ h d f with
 |none=>rw[hf] at hm;cases hm
 |some q=>
  rw[hf] at hm;simp only[Cc,BE] at hm;unfold VJ at hf;split at hf;.rename_i s;cases hf;exact HC #[] none (by rw[show a.eval m=_ from h1];simp only[Instr.lookup,KU,Sem.run_bind,run_underlying ht,Result.andThen_ok,Sem.run_pure];rfl) s h2 rfl hm
  .rename_i id s;obtain⟨b,hb,xK⟩:=h1;split at hf;.rename_i es RK;obtain⟨DD,clock,hw,u,_⟩:=hr.D4.map id es RK b hb;exact HC DD q (by rw[xK];simp only[Instr.lookup,KU,Sem.run_bind,run_underlying ht,MapKept.run_getObj_map hw,Result.andThen_ok,Sem.run_pure];rfl) s h2 (eV (i:=0) u hf) hm
   .cases hf
  .cases hf
def Wk{size:Nat}{v:Aa}(h:OX size v=true):v= .slnil\/v= .Gb size\/v= .sl size []:=by
 unfold OX at h;split at h;.exact .inl rfl
 .exact .inr (.inl (by simpa using h))
 .exact .inr (.inr (by simpa using h))
 .cases h
def xM{o:Oper}{c:Call}{t t' e:TypeId}{n b:Nat}{s x:Operand}{v u r:Aa}{h':Ah}(ho:o.op= .call c)(hc:c.callee= .builtin .append)(h0:c.argTypes[0]?=some t)(h1:c.argTypes[1]?=some t')(ES:c.args.toList=[s,x])(ht:C.P.underlying t=some (.slice e))
  (Gg:(∃G,C.P.underlying t'=some (.slice G))\/C.P.underlying t'=some .string) (KR:B6 C.P e=some (n+1)) (eo:J5 C.P e=some (b+1)) (FG:K0 C U s=true) (dR:L6 C.P e=true) (hv:BC C U [s,x]=some [v,u])
  (hp:KB h (n+1) (b+1) v u=some (h',r)) (hr:Dc C γ0 w0 γ Z U h a w):FY C γ0 w0 o a w ((U.DO (Dk U s)).put o.dst (.val r)) h':=by
 obtain⟨i,z,hi,hz,Z5⟩:=La dR;have Qe:=JR KR hi;have Ž:=LM eo hi;obtain⟨_,_,e0,hvs,jO⟩:=Ff hr hv;cases e0;have rp:E6 C U s=some v:=by
  unfold BC at hv;split at hv;.rename_i p ps I K;cases hv;exact I
  .cases hv
 have I6:OX (n+1) v=true/\((∃Az,HP (n+1) (b+1) .slnil u=some (.sl (n+1) Az)/\Az≠[]/\u= .sl (n+1) Az/\Az.length*(b+1)<=AX/\h'=h++[.cells Az.flatten]/\r= .CD h.length 0 Az.length (n+1))\/((u= .slnil\/(∃B,u= .Gb B)\/∃B,u= .sl B [])/\h'=h/\r=v)):=by
  unfold KB at hp;split at hp
  .rename_i B Az;split at hp
   .rename_i Vj;refine⟨Vj,?_⟩;split at hp;.cases hp;exact .inr ⟨.inr (.inr ⟨_,rfl⟩),rfl,rfl⟩
    .rename_i hne;split at hp
     .rename_i HU;cases hp;obtain⟨rfl,hb⟩:=HU;refine .inl ⟨Az,?_,hne,rfl,hb,rfl,rfl⟩;cases Az with
      |nil=>exact absurd rfl hne
      |cons q Az=>simp only[HP,DJ,BT];rw[Ae hb]
     .cases hp
   .cases hp
  .split at hp;.rename_i Vj;cases hp;exact⟨Vj,.inr ⟨.inl rfl,rfl,rfl⟩⟩
   .cases hp
  .split at hp;.rename_i Vj;simp only[Bx] at Vj;cases hp;exact⟨Vj.1,.inr ⟨.inr (.inl ⟨_,rfl⟩),rfl,rfl⟩⟩
   .cases hp
  .cases hp
 obtain⟨Vj,I6⟩:=I6;obtain⟨F,En,Ko,DG,m⟩:=O7 hr FG rp (U.DO (Dk U s)).length none;have Kp:c.args.map a.eval=#[a.eval s,a.eval x]:=by apply HA;simp[ES]
 have MF:∀v' w',(Builtin.append_ #[t,t'] o.type #[a.eval s,a.eval x]).run C.P w= .ok v' w'->(execOp a.eval o).run C.P w= .ok (.value v') w':=λv' w' A3=>by
  have:execOp a.eval o=(do pure (Next.value (<-Builtin.append_ #[t,t'] o.type #[a.eval s,a.eval x]))):=by rw[<-Kp,<-N6 (ty:=o.type) h0 h1];simp only[execOp,ho,resolve,hc];rfl
  rw[this];exact DF A3
 have pW:(a.eval s= .slice none 0 0/\v= .slnil)\/(∃g cap us y,a.eval s= .slice (some ⟨g,0,none⟩) 0 cap/\v= .sl (n+1) []/\F.Bw g=some (.tail (U.DO (Dk U s)).length none 0)/\w0.heap.size<=g/\w.heap[g]?=some (.cells us y (0,0))/\us.size=cap*(n+1)/\cap<=maxLen)\/∃g,a.eval s= .slice (some ⟨g,0,none⟩) 0 0/\v= .Gb (n+1):=by
  rcases m with(m|⟨H,m⟩)|⟨g,k,cap,us,y,H,rr,kX,JC,SN,hB,hg,YM,sd,hm,J⟩
  .rw[m] at DG;exact .inl ⟨DG,m⟩
  .rcases Wk Vj with pX|pX|pX
   .rw[pX] at m;cases m
   .rw[pX] at DG;obtain⟨g,DG⟩:=DG;exact .inr (.inr ⟨g,DG,pX⟩)
   .rw[pX] at m;cases m
  .rcases Wk Vj with pX|pX|pX
   .rw[pX] at kX;cases kX
   .rw[pX] at kX;cases kX
   .rw[pX] at kX;cases kX;have hk:k=0:=by rw[pX,JC] at DG;obtain⟨A,f,eT,_⟩:=DG;simp only[Value.slice.injEq] at eT;exact eT.2.1
    subst hk;exact .inr (.inl ⟨g,cap,us,y,JC,pX,by simpa using SN,hB,hg,YM,hm⟩)
 rcases I6 with⟨Az,Gq,hne,D,PS,rfl,rfl⟩|⟨D,rfl,rfl⟩
 .obtain⟨d,news,O9,Kr,ħ,jN⟩:=pU (w:=w) Gg hr.D4 jO Gq;have eX:d=Az:=by
   cases d with
   |nil=>simp[DJ] at O9
   |cons q d=>
    simp only[DJ] at O9;split at O9;.cases O9;rfl
    .cases O9
  subst eX;have et:=Bi.mono En _ _ ħ;have J9:Src C.P i.size t' (a.eval x) d.length news w:=by rw[Qe];exact Kr
  have OC:news.length=d.length*(n+1):=Kr.newsLen;have Hn:d.flatten.length=news.length:=by rw[ħ.length]
  have hpos:0<d.length:=EG.2 hne;have QQ:d.length<=AX:=Bu (IJ _ (C8 b)) PS;have FN:∀(base:Option Addr) (cap:Nat),a.eval s= .slice base 0 cap->(Builtin.firstCells i.size 0 (.slice base 0 cap)).run C.P w.drew= .ok #[] w.drew->cap<d.length->
    FY C γ0 w0 o a w ((U.DO (Dk U s)).put o.dst (.val (.CD h.length 0 d.length (n+1)))) (h++[.cells d.flatten]):=by
   intro base cap hs l hlt;have F9:=run_append_grow_src (P:=C.P) w t t' o.type e i z ht hi hz base 0 cap [] l (a.eval x) d.length news J9 Ab (by simp only[AX] at QQ;omega) (by rw[Ž,B0];exact growslice_fits hlt PS);rw[<-hs,B0] at F9;have Ef:=grownCap_ge w d.length cap e;have TS:(([]++news).toArray++Builtin.zeroCells z.cells (grownCap w d.length cap e-d.length)).toList.take d.flatten.length=news:=by simp only[GU,BV];rw[Hn];exact FB
   have fg:(([]++news).toArray++Builtin.zeroCells z.cells (grownCap w d.length cap e-d.length)).size=grownCap w d.length cap e*(n+1):=by simp only[JZ,Cb,size_zeroCells,Z5,Qe,BV,OC,<-BM];congr 1;omega
   obtain⟨E,eR,UG,LL,RL⟩:=Ko.drew.newObj (([]++news).toArray++Builtin.zeroCells z.cells (grownCap w d.length cap e-d.length)) e (0,0) d.flatten (.inl rfl) (by rw[TS];exact et) (by rw[TS];exact Kr.one);exact FY.value (MF _ _ F9) (LL.put λ_ _=>⟨w.heap.size,_,UG,rfl,Ef,⟨C8 n,grownCap_le_maxLen w _ _ _ (by simp only[AX] at QQ;simp only[maxLen];omega)⟩,by rw[B0,<-fg];exact RL⟩)
  rcases pW with⟨JC,rfl⟩|⟨g,cap,us,y,JC,rfl,SN,hB,hg,YM,sq⟩|⟨g,JC,rfl⟩
  rotate_left 2;.exact FN (some ⟨g,0,none⟩) 0 JC (by simpa using run_firstCells_some (P:=C.P) w.drew i.size 0 ⟨g,0,none⟩ 0 0 [] AK AK) hpos
  .exact FN none 0 JC (run_firstCells_none _ _ _ _ _) hpos
  .by_cases hroom:d.length<=cap
   .have hfit:news.length<=us.size:=by rw[OC,YM];exact DU _ hroom
    have A3:=run_append_room_src (P:=C.P) w t t' o.type e i ht hi g 0 0 cap (a.eval x) d.length news J9 Ab (λj hj=>by rw[cell_of_row w _ _ us y (0,0) hg,Qe,CU Ab];rfl) (λj hj=>frozen_of_row w _ _ us y hg)
    rw[Mv,B0,B0,ER news 0 us w hg Ab,<-JC] at A3;have TS:((us.toList.take 0++news++us.toList.drop (0+news.length)).toArray).toList.take d.flatten.length=news:=by simp only[Kl,BV];rw[Hn];exact FB
    obtain⟨E,eR,UG,LL,RL⟩:=Ko.aFi SN hB hg (us.toList.take 0++news++us.toList.drop (0+news.length)).toArray d.flatten (by rw[TS];exact et) (by rw[TS];exact Kr.one);exact FY.value (MF _ _ A3) (LL.put λ_ _=>⟨g,cap,UG,rfl,hroom,⟨C8 n,sq⟩,by rw[RL,B0,<-YM];simp;omega⟩)
   .exact FN (some ⟨g,0,none⟩) cap JC (by simpa using run_firstCells_some (P:=C.P) w.drew i.size 0 ⟨g,0,none⟩ 0 cap [] AK AK) Ab
 .have Kr:Src C.P i.size t' (a.eval x) 0 [] w:=by
   rcases D with rfl|⟨B,rfl⟩|⟨B,rfl⟩
   .rw[show a.eval x=_ from jO];exact⟨Gg,λ_=>rfl,run_firstCells_none w _ 0 0 0,run_firstCells_none w.drew _ 0 0 0,AK,AK⟩
   .obtain⟨g0,eT⟩:=jO;rw[eT];exact⟨Gg,λ_=>rfl,by simpa using run_firstCells_some (P:=C.P) w i.size 0 ⟨g0,0,none⟩ 0 0 [] AK AK,by simpa using run_firstCells_some (P:=C.P) w.drew i.size 0 ⟨g0,0,none⟩ 0 0 [] AK AK,AK,AK⟩
   .obtain⟨A,f,eT,_⟩:=jO;rw[eT];exact⟨Gg,λ_=>rfl,by simpa using run_firstCells_some (P:=C.P) w i.size 0 A 0 f [] AK AK,by simpa using run_firstCells_some (P:=C.P) w.drew i.size 0 A 0 f [] AK AK,AK,AK⟩
  rcases pW with⟨JC,rfl⟩|⟨g,cap,us,y,JC,rfl,SN,hB,hg,YM,sq⟩|⟨g,JC,rfl⟩
  rotate_left 2;.have A3:=run_append_room_src (P:=C.P) w t t' o.type e i ht hi g 0 0 0 (a.eval x) 0 [] Kr Ab AK AK;rw[<-JC] at A3;simp only[World.setCells] at A3;exact FY.value (MF _ _ A3) (Ko.put λ_ _=>DG)
  .have A3:(Builtin.append_ #[t,t'] o.type #[a.eval s,a.eval x]).run C.P w= .ok (.slice none 0 0) w:=by rw[JC];have hl:=Kr.len;have Vk:=Kr.cells;rcases Gg with⟨G,hk⟩|hk<;>simp[Builtin.append_,run_underlying ht,run_underlying hk,sizeOf,typeInfo,hi,hl,Vk]
   exact FY.value (MF _ _ A3) (Ko.put λ_ _=>rfl)
  .have A3:=run_append_room_src (P:=C.P) w t t' o.type e i ht hi g 0 0 cap (a.eval x) 0 [] Kr Ab AK AK;rw[<-JC] at A3;simp only[World.setCells] at A3;exact FY.value (MF _ _ A3) (Ko.put λ_ _=>DG)
def Dc.kill(hr:Dc C γ0 w0 γ Z U h a w)(id:Nat):Dc C γ0 w0 γ Z U (h.set id .CT) a w:=by
 have key:∀{FO:Nat} {x:Dx},(h.set id .CT)[FO]?=some x->x≠ .CT->h[FO]?=some x:=λ{FO x} hx hd=>by
  by_cases he:id=FO
  .subst he;rw[aR7] at hx;simp only[BT] at hx;split at hx;.cases hx;exact absurd rfl hd
   .cases hx
  .rwa [Ao he] at hx
 exact⟨⟨hr.D4.Io,λFO y Ik hy=>hr.D4.L8 FO y (key Ik hy) hy,λFO cs hc b hb=>hr.D4.cells FO cs (key hc AK) b hb,λFO es hc b hb=>hr.D4.map FO es (key hc AK) b hb,λFO b hb=>by simpa using hr.D4.mu FO b hb,hr.D4.Bw,hr.D4.sz⟩,hr.fr,hr.DX,hr.defers,hr.GY⟩
def Dc.kY(hr:Dc C γ0 w0 γ Z U h a w){id g:Nat}{cs:List Aa}(hcs:h[id]?=some (.cells cs))(hg:γ.mu id=some g){us:Array Value}{e:TypeId}{fr:Nat×Nat}(hw:w.heap[g]?=some (.cells us e fr))(UH:γ.sz g=some us.size)(DM:Array Value)(GW:List Aa)(YM:DM.size=us.size)(pM:S0 fr DM.size)
  (hv:Bi γ GW (DM.toList.take GW.length)) (h1:∀u∈DM.toList.take GW.length,u.oneCell'=true):∃γ',γ.le γ'/\γ'.mu h.length=some g/\Dc C γ0 w0 γ' Z U (h.set id .CT++[.cells GW]) a (w.setRow g DM)/\γ'.sz g=some us.size:=by
 obtain⟨f,p,SN⟩:=hr.D4.L8 id _ hcs AK;rw[hg] at p;cases p;have xN:id<h.length:=hr.D4.mu _ _ hg;have c:γ.mu h.length=none:=by
  cases hc:γ.mu h.length with
  |none=>rfl
  |some y=>exact absurd (hr.D4.mu _ y hc) (Dr _)
 have uniq:∀FO x,h[FO]?=some x->x≠ .CT->γ.mu FO=some g->FO=id:=λFO x hx Ŵ hm=>by obtain⟨b',p,q⟩:=hr.D4.L8 FO x hx Ŵ;rw[hm] at p;cases p;rw[SN] at q;cases q;rfl
 have En:γ.le (γ.B3 g h.length (some us.size)):=⟨λ_ _ _ hv=>hv,λFO b hm=>by
  have:FO≠h.length:=λhe=>by rw[he,c] at hm;cases hm
  simp only[Gh.B3,Ac this];exact hm,λb n hm=>by
  by_cases he:b=g;.subst he;rw[UH] at hm;cases hm;simp[Gh.B3]
  .simp only[Gh.B3,Ac he];exact hm⟩
 have old:∀{FO:Nat} {x:Dx},(h.set id .CT++[Dx.cells GW])[FO]?=some x->x≠ .CT->FO≠h.length->h[FO]?=some x/\FO≠id:=λ{FO x} hx hd hne=>by
  have hlt:FO<(h.set id .CT).length:=by rw[Ak] at hx;obtain⟨hl,_⟩:=hx;simp at hl⊢;omega
  rw[Aj hlt] at hx;by_cases he:id=FO;.subst he;rw[AQ (by simpa using hlt)] at hx;cases hx;exact absurd rfl hd
  .rw[Ao he] at hx;exact⟨hx,λh=>he h.symm⟩
 have aMp:Hj (γ.B3 g h.length (some us.size)) (h.set id .CT++[.cells GW]) (w.setRow g DM):=by
  refine⟨λb o v hb=>?_,λFO y Ik hy=>?_,λFO RM hc b hb=>?_,λFO es hc b hb=>?_,λFO b hb=>?_,λb y hy=>?_,λb n hb=>?_⟩
  .obtain⟨p,q,r⟩:=hr.D4.Io b o v hb;have NY:b≠g:=λhe=>by subst he;rw[SN] at r;rcases r with r|⟨_,_,_,r,_⟩<;>cases r
   exact⟨by rw[CS (setRow_other w g b DM NY)];exact p,q,by simp only[Gh.B3,Ac NY];exact r⟩
  .by_cases he:FO=h.length;.exact⟨g,by simp[Gh.B3,he],by simp[Gh.B3,he]⟩
   .obtain⟨xO,hne⟩:=old Ik hy he;obtain⟨b,p,q⟩:=hr.D4.L8 FO y xO hy;have NY:b≠g:=λhx=>by subst hx;exact hne (uniq FO y xO hy p)
    exact⟨b,by simp only[Gh.B3,Ac he];exact p,by simp only[Gh.B3,Ac NY];exact q⟩
  .by_cases he:FO=h.length;.subst he;simp[Gh.B3] at hb;subst hb;rw[Bm AK] at hc;simp at hc;subst hc;exact⟨DM,e,fr,setRow_heap w g us DM e fr hw,pM,Bi.mono En _ _ hv,h1⟩
   .simp only[Gh.B3,Ac he] at hb;obtain⟨IS,hne⟩:=old hc AK he;have NY:b≠g:=λhx=>by subst hx;exact hne (uniq FO _ IS AK hb)
    obtain⟨kE,d,dh,p,pf,q,r⟩:=hr.D4.cells FO RM IS b hb;exact⟨kE,d,dh,by rw[setRow_other w g b DM NY];exact p,pf,Bi.mono En _ _ q,r⟩
  .by_cases he:FO=h.length;.subst he;rw[Bm AK] at hc;simp at hc
   .simp only[Gh.B3,Ac he] at hb;obtain⟨IS,hne⟩:=old hc AK he;have NY:b≠g:=λhx=>by subst hx;exact hne (uniq FO _ IS AK hb)
    obtain⟨DD,clock,p,q⟩:=hr.D4.map FO es IS b hb;exact⟨DD,clock,by rw[setRow_other w g b DM NY];exact p,q.mono En⟩
  .by_cases he:FO=h.length;.simp[he]
   .simp only[Gh.B3,Ac he] at hb;have:=hr.D4.mu FO b hb;simp;omega
  .by_cases NY:b=g;.subst NY;have:=hr.D4.Bw _ _ SN;simpa[World.setRow] using this
   .simp only[Gh.B3,Ac NY] at hy;have:=hr.D4.Bw b y hy;simpa[World.setRow] using this
  .by_cases he:b=g;.subst he;simp only[Gh.B3,BT] at hb;cases hb;exact⟨⟨DM,e,fr,setRow_heap w b us DM e fr hw,YM⟩,.inr ⟨h.length,by simp[Gh.B3]⟩⟩
   .simp only[Gh.B3,Ac he] at hb⊢;obtain⟨p,r⟩:=hr.D4.sz b n hb;exact⟨by rw[setRow_other w g b DM he];exact p,r⟩
 refine⟨_,En,by simp[Gh.B3],hr.I5 aMp ⟨En,by simp[World.setRow],rfl,rfl,rfl,λb hb hn=>?_⟩,by simp[Gh.B3]⟩;have NY:b≠g:=λhe=>by subst he;exact hn id SN
 exact⟨setRow_other w g b DM NY,by simp only[Gh.B3,Ac NY]⟩
def fh{o:Oper}{c:Call}{t t' e:TypeId}{n b:Nat}{s x:Operand}{v u r:Aa}{h':Ah}(ho:o.op= .call c)(hc:c.callee= .builtin .append)(h0:c.argTypes[0]?=some t)(h1:c.argTypes[1]?=some t')(ES:c.args.toList=[s,x])(ht:C.P.underlying t=some (.slice e))
  (Gg:(∃K,C.P.underlying t'=some (.slice K))\/C.P.underlying t'=some .string) (KR:B6 C.P e=some (n+1)) (eo:J5 C.P e=some (b+1)) (dR:L6 C.P e=true) (hv:BC C U [s,x]=some [v,u])
  (hp:F9 h (n+1) (b+1) v u=some (h',r)) (hr:Dc C γ0 w0 γ Z U h a w):FY C γ0 w0 o a w (U.put o.dst (.val r)) h':=by
 obtain⟨i,z,hi,hz,Z5⟩:=La dR;have Qe:=JR KR hi;have Ž:=LM eo hi;obtain⟨_,_,e0,hvs,jO⟩:=Ff hr hv;cases e0;have Kp:c.args.map a.eval=#[a.eval s,a.eval x]:=by apply HA;simp[ES]
 have MF:∀v' w',(Builtin.append_ #[t,t'] o.type #[a.eval s,a.eval x]).run C.P w= .ok v' w'->(execOp a.eval o).run C.P w= .ok (.value v') w':=λv' w' A3=>by
  have:execOp a.eval o=(do pure (Next.value (<-Builtin.append_ #[t,t'] o.type #[a.eval s,a.eval x]))):=by rw[<-Kp,<-N6 (ty:=o.type) h0 h1];simp only[execOp,ho,resolve,hc];rfl
  rw[this];exact DF A3
 unfold F9 at hp;cases hq:GX h (n+1) u with
 |none=>rw[hq] at hp;cases hp
 |some Az=>
  rw[hq] at hp;obtain⟨news,Kr,Vj,jN⟩:=Wg (w:=w) Gg hr.D4 jO hq;have J9:Src C.P i.size t' (a.eval x) Az.length news w:=by rw[Qe];exact Kr
  have OC:news.length=Az.length*(n+1):=Kr.newsLen;have Hn:Az.flatten.length=news.length:=by rw[Vj.length]
  cases Az with
  |nil=>
   have pO:news=[]:=Dn (by simpa using OC);subst pO;cases v with
   |slnil=>
    cases hp;have JC:a.eval s= .slice none 0 0:=hvs;have A3:(Builtin.append_ #[t,t'] o.type #[a.eval s,a.eval x]).run C.P w= .ok (.slice none 0 0) w:=by rw[JC];have hl:=J9.len;have Vk:=J9.cells;simp only[B1] at hl Vk;rcases Gg with⟨K,hk⟩|hk<;>simp[Builtin.append_,run_underlying ht,run_underlying hk,sizeOf,typeInfo,hi,hl,Vk]
    exact FY.value (MF _ _ A3) (hr.put λ_ _=>rfl)
   |Gb E=>
    simp only at hp;split at hp;.cases hp;obtain⟨g,JC⟩:=(show BU γ _ _ from hvs);have A3:=run_append_room_src (P:=C.P) w t t' o.type e i ht hi g 0 0 0 (a.eval x) 0 [] J9 Ab AK AK;rw[<-JC] at A3;simp only[World.setCells,Bv] at A3;exact FY.value (MF _ _ A3) (hr.put λ_ _=>⟨g,JC⟩)
    .cases hp
   |CD id off k E=>
    simp only at hp;split at hp;.cases hp;obtain⟨g,cap,hg,JC,sd,bc,UH⟩:=(show BU γ _ _ from hvs);have A3:=run_append_room_src (P:=C.P) w t t' o.type e i ht hi g off k cap (a.eval x) 0 [] J9 Ab AK AK;rw[<-JC] at A3;simp only[World.setCells,Bv] at A3;exact FY.value (MF _ _ A3) (hr.put λ_ _=>⟨g,cap,hg,rfl,sd,bc,UH⟩)
    .cases hp
   |_=>cases hp
  |cons L l=>
   generalize hR:L::l=Az at*;have hpos:0<Az.length:=by rw[<-hR];simp
   have d:∀(h2:Ah) (base:Option Addr) (k cap:Nat) (Yj:List Aa) (olds:List Value),Dc C γ0 w0 γ Z U h2 a w->a.eval s= .slice base k cap->Bi γ Yj olds->olds.length=k*(n+1)->(∀q∈olds,q.oneCell'=true)->
     (Builtin.firstCells i.size k (.slice base k cap)).run C.P w.drew= .ok olds.toArray w.drew->cap<k+Az.length->(k+Az.length)*(b+1)<=AX->
     FY C γ0 w0 o a w (U.put o.dst (.val (.CD h2.length 0 (k+Az.length) (n+1)))) (h2++[.cells (Yj++Az.flatten)]):=by
    intro h2 base k cap Yj olds LL hs aFk bd Ÿ f hlt PS;have QQ:k+Az.length<=AX:=Bu (IJ _ (C8 b)) PS;have F9:=run_append_grow_src (P:=C.P) w t t' o.type e i z ht hi hz base k cap olds f (a.eval x) Az.length news J9 hlt (by simp only[AX] at QQ;omega) (by rw[Ž];exact growslice_fits hlt PS);rw[<-hs] at F9;have Ef:=grownCap_ge w (k+Az.length) cap e;have xH:(olds++news).length=(k+Az.length)*(n+1):=by rw[Au,bd,OC,BM]
    have dP:(Yj++Az.flatten).length=(olds++news).length:=by rw[Au,Au,aFk.length,Hn]
    have fg:((olds++news).toArray++Builtin.zeroCells z.cells (grownCap w (k+Az.length) cap e-(k+Az.length))).size=grownCap w (k+Az.length) cap e*(n+1):=by simp only[JZ,Cb,size_zeroCells,Z5,Qe,xH,<-BM];congr 1;omega
    have TS:((olds++news).toArray++Builtin.zeroCells z.cells (grownCap w (k+Az.length) cap e-(k+Az.length))).toList.take (Yj++Az.flatten).length=olds++news:=by simp only[GU];rw[dP];exact FB
    obtain⟨D,eR,UG,ž,RL⟩:=LL.drew.newObj ((olds++news).toArray++Builtin.zeroCells z.cells (grownCap w (k+Az.length) cap e-(k+Az.length))) e (0,0) (Yj++Az.flatten) (.inl rfl) (by rw[TS];exact aFk.append Vj) (by rw[TS];intro q hq;exact(Av.1 hq).elim (Ÿ q) (Kr.one q))
    exact FY.value (MF _ _ F9) (ž.put λ_ _=>⟨w.heap.size,_,UG,rfl,Ef,⟨C8 n,grownCap_le_maxLen w _ _ _ (by simp only[AX] at QQ;simp only[maxLen];omega)⟩,by rw[B0,<-fg];exact RL⟩)
   cases v with
   |slnil=>
    have JC:a.eval s= .slice none 0 0:=hvs;rw[<-hR] at hp;simp only at hp;rw[hR] at hp;split at hp;.rename_i PS;cases hp;have:=d h none 0 0 [] [] hr JC rfl AK AK (run_firstCells_none _ _ _ _ _) Ab (by simpa using PS);simpa using this
    .cases hp
   |Gb E=>
    obtain⟨g,JC⟩:=(show BU γ _ _ from hvs);rw[<-hR] at hp;simp only at hp;rw[hR] at hp;split at hp;.rename_i PS;cases hp;have:=d h (some ⟨g,0,none⟩) 0 0 [] [] hr JC rfl AK AK (by simpa using run_firstCells_some (P:=C.P) w.drew i.size 0 ⟨g,0,none⟩ 0 0 [] AK AK) Ab (by simpa using PS.2);simpa using this
    .cases hp
   |CD id off k E=>
    rw[<-hR] at hp;simp only at hp;rw[hR] at hp;split at hp
    .rename_i cs hcs;split at hp
     .rename_i G;subst G;obtain⟨g,cap,hg,JC,sd,bc,UH⟩:=(show BU γ _ _ from hvs);obtain⟨us,J,fr,m,pf,B,A⟩:=hr.D4.cells id cs hcs g hg;obtain⟨⟨bb,O,N,H,F⟩,_⟩:=hr.D4.sz g _ UH;rw[m] at H;cases H;have dQ:cs.length<=us.size:=by have:=B.length;simp at this;omega
      have Nl:∀j,(⟨g,off,none⟩:Addr).add j=⟨g,off+j,none⟩:=λj=>by unfold Addr.add;split<;>simp_all
      have p:∀o,o<us.size->w.frozen? ⟨g,o,none⟩=false:=λo ho=>by
       simp only[World.frozen?,m];rcases pf with rfl|pM
       .simp
       .simp;omega
      have room:k+Az.length<=cap->(Builtin.append_ #[t,t'] o.type #[a.eval s,a.eval x]).run C.P w= .ok (.slice (some ⟨g,off,none⟩) (k+Az.length) cap) (w.setRow g (us.toList.take (off+k*(n+1))++news++us.toList.drop (off+k*(n+1)+news.length)).toArray)/\off+k*(n+1)+news.length<=us.size:=by
       intro hroom;have hfit:off+k*(n+1)+news.length<=us.size:=by rw[OC,F,Ri,<-BM];exact Nat.add_le_add_left (DU _ hroom) _
       have A3:=run_append_room_src (P:=C.P) w t t' o.type e i ht hi g off k cap (a.eval x) Az.length news J9 hroom (λj hj=>by rw[cell_of_row w _ _ us J fr m,Qe,CU Ab];rfl) (λj hj=>by rw[Qe];exact p _ Ab)
       rw[Qe,ER news _ us w m hfit,<-JC] at A3;exact⟨A3,hfit⟩
      have Yb:(k+Az.length)*(n+1)=k*(n+1)+Az.length*(n+1):=BM _ _ _;split at hp
      .rename_i UI;cases hp;have hroom:k+Az.length<=cap:=by have M:(k+Az.length)*(n+1)<=cap*(n+1):=Ab;exact Nat.le_of_mul_le_mul_right M (C8 n)
       obtain⟨A3,hfit⟩:=room hroom;have I:off+(k+Az.length)*(n+1)=off+k*(n+1)+news.length:=by rw[OC,Yb];omega
       have hcl:(cs.take (off+k*(n+1))++Az.flatten++cs.drop (off+(k+Az.length)*(n+1))).length=cs.length:=by rw[I,Au,Au,As,Bc,Hn];omega
       have TS:((us.toList.take (off+k*(n+1))++news++us.toList.drop (off+k*(n+1)+news.length)).toArray).toList.take (cs.take (off+k*(n+1))++Az.flatten++cs.drop (off+(k+Az.length)*(n+1))).length=
         (us.toList.take cs.length).take (off+k*(n+1))++news++(us.toList.take cs.length).drop (off+k*(n+1)+news.length):=by
        rw[hcl];simp only[KL];exact MK (by simpa using dQ) Ab rfl
       obtain⟨Vl,OP⟩:=Nh hr.D4 hcs hg m (us.toList.take (off+k*(n+1))++news++us.toList.drop (off+k*(n+1)+news.length)).toArray (cs.take (off+k*(n+1))++Az.flatten++cs.drop (off+(k+Az.length)*(n+1)))
        (by simp only[Cb,Au,As,Bc,Ci];omega)
        (by
         rcases pf with rfl|pf
         .exact .inl rfl
         .refine .inr (Bu (Mu ?_) pf);simp only[Cb,Au,As,Bc,Ci];omega)
        (by rw[TS,I];exact N4 B Vj)
        (by
         rw[TS];intro q hq;rcases Av.1 hq with hq|hq
         .rcases Av.1 hq with hq|hq
          .exact A q (Bn hq)
          .exact Kr.one q hq
         .exact A q (BG hq))
       exact FY.value (MF _ _ A3) ((hr.I5 Vl OP).put λ_ _=>⟨g,cap,hg,rfl,hroom,bc,UH⟩)
      .rename_i aSs;split at hp
       .rename_i HU;obtain⟨rfl,PQ,PS⟩:=HU;cases hp;simp only[B0] at*;by_cases hroom:k+Az.length<=cap
        .obtain⟨A3,hfit⟩:=room hroom;have dP:(cs.take (k*(n+1))++Az.flatten).length=k*(n+1)+news.length:=by rw[Au,As,Hn];omega
         have TS:((us.toList.take (k*(n+1))++news++us.toList.drop (k*(n+1)+news.length)).toArray).toList.take (cs.take (k*(n+1))++Az.flatten).length=(us.toList.take cs.length).take (k*(n+1))++news:=by
          rw[dP];simp only[KL];have:(us.toList.take (k*(n+1))++news).length=k*(n+1)+news.length:=by rw[Au,As,Ci];omega
          rw[<-this,FB,FA,Cs PQ]
         obtain⟨D,eR,UG,LL,RL⟩:=hr.kY hcs hg m (by rw[UH,F]) (us.toList.take (k*(n+1))++news++us.toList.drop (k*(n+1)+news.length)).toArray (cs.take (k*(n+1))++Az.flatten)
          (by simp only[Cb,Au,As,Bc,Ci];omega)
          (by
           rcases pf with rfl|pf
           .exact .inl rfl
           .refine .inr (Bu (Mu ?_) pf);simp only[Cb,Au,As,Bc,Ci];omega)
          (by rw[TS];exact(B.take _).append Vj)
          (by
           rw[TS];intro q hq;rcases Av.1 hq with hq|hq
           .exact A q (Bn hq)
           .exact Kr.one q hq)
         exact FY.value (MF _ _ A3) (LL.put λ_ _=>⟨g,cap,UG,rfl,hroom,bc,by rw[RL,F];simp⟩)
        .have bd:((us.toList.take cs.length).take (k*(n+1))).length=k*(n+1):=Eg;have:=d (h.set id .CT) (some ⟨g,0,none⟩) k cap (cs.take (k*(n+1))) ((us.toList.take cs.length).take (k*(n+1))) (hr.kill id) JC (B.take _) bd (λq hq=>A q (Bn hq))
          (by
           rw[Qe];exact run_firstCells_some w.drew _ _ _ _ _ _ bd (λj y hj=>by
            rw[Nl];show w.cell? _=_;rw[cell_of_row w _ _ us J fr m];rw[Cj] at hj;split at hj
            .rw[Cj] at hj;split at hj;.simpa using hj
             .cases hj
            .cases hj)) Ab PS
         simpa using this
       .cases hp
     .cases hp
    .cases hp
   |_=>rw[<-hR] at hp;cases hp
def eY(hi:Hj γ h w){id g off:Nat}{cs b:List Aa}{news:List Value}(hcs:h[id]?=some (.cells cs))(hg:γ.mu id=some g)(hv:Bi γ b news)(h1:∀u∈news,u.oneCell'=true)(hl:off+b.length<=cs.length):
  ∃w',(storeCells ⟨g,off,none⟩ news).run C.P w= .ok () w'/\Hj γ (h.set id (.cells (cs.take off++b++cs.drop (off+b.length)))) w'/\K6 γ w γ w':=by
 obtain⟨us,e,fr,hw,pf,d,c⟩:=hi.cells id cs hcs g hg;have OC:news.length=b.length:=hv.length;have hlt:cs.length<=us.size:=by have:=d.length;simp at this;omega
 have hs:=run_storeCells_cells (P:=C.P) g off news 0 w (λj hj=>by
  rw[cell_of_row w _ _ us e fr hw,Bv,CU Ab];rfl) (λj hj=>by
  simp only[World.frozen?,hw];rcases pf with rfl|pM
  .simp
  .simp;omega) h1
 rw[Bv,ER _ off us w hw Ab] at hs;have hcl:(cs.take off++b++cs.drop (off+b.length)).length=cs.length:=Eg;have TS:((us.toList.take off++news++us.toList.drop (off+news.length)).toArray).toList.take (cs.take off++b++cs.drop (off+b.length)).length=(us.toList.take cs.length).take off++news++(us.toList.take cs.length).drop (off+news.length):=by rw[hcl];simp only[KL];exact MK (by simpa using hlt) Ab rfl
 obtain⟨fj,ha⟩:=Nh hi hcs hg hw (us.toList.take off++news++us.toList.drop (off+news.length)).toArray (cs.take off++b++cs.drop (off+b.length))
  (by simp only[Cb,Au,As,Bc,Ci];omega)
  (by
   rcases pf with rfl|pf
   .exact .inl rfl
   .refine .inr (Bu (Mu ?_) pf);simp only[Cb,Au,As,Bc,Ci];omega)
  (by rw[TS,OC];exact N4 d hv)
  (by
   rw[TS];intro q hq;rcases Av.1 hq with hq|hq
   .rcases Av.1 hq with hq|hq
    .exact c q (Bn hq)
    .exact h1 q hq
   .exact c q (BG hq))
 exact⟨_,hs,fj,ha⟩
def kZ{t t' ty:TypeId}{ts:Array TypeId}{xs:Array Value}(h0:ts[0]?=some t)(h1:ts[1]?=some t'):Builtin.copy_ ts ty xs=Builtin.copy_ #[t,t'] ty xs:=by simp only[Builtin.copy_,h0];rfl
def eZ{P:Program}{t t' ty e:TypeId}{i:TypeInfo}(ht:P.underlying t=some (.slice e))(hi:P.info? e=some i){x:Value}{n:Nat}{news:List Value}(hs:Src P i.size t' x n news w){base:Option Addr}{k cap:Nat}(hk:n<=k)
  (HT:∀b,base=some b->(storeCells b news).run P w= .ok () w') (X4:base=none->w'=w):(Builtin.copy_ #[t,t'] ty #[.slice base k cap,x]).run P w= .ok (.int .i64 n) w':=by
 have hl:=hs.len w;have hc:=hs.cells;have hm:Nat.min n k=n:=Cs hk;cases base with
 |none=>cases X4 rfl;simp[Builtin.copy_,run_underlying ht,hl,hc,sizeOf,typeInfo,hi,hm,goInt]
 |some b=>have h2:=HT b rfl;simp[Builtin.copy_,run_underlying ht,hl,hc,sizeOf,typeInfo,hi,hm,goInt,h2]
def fk{o:Oper}{c:Call}{t t' e:TypeId}{n:Nat}{s x:Operand}{v u r:Aa}{h':Ah}(ho:o.op= .call c)(hc:c.callee= .builtin .copy)(h0:c.argTypes[0]?=some t)(h1:c.argTypes[1]?=some t')(ES:c.args.toList=[s,x])(ht:C.P.underlying t=some (.slice e))
  (Gg:(∃d,C.P.underlying t'=some (.slice d))\/C.P.underlying t'=some .string) (KR:B6 C.P e=some (n+1)) (hv:BC C U [s,x]=some [v,u])
  (hp:o9 h (n+1) v u=some (h',r)) (hr:Dc C γ0 w0 γ Z U h a w):FY C γ0 w0 o a w (U.put o.dst (.val r)) h':=by
 obtain⟨_,_,e0,hvs,jO⟩:=Ff hr hv;cases e0;have Kp:c.args.map a.eval=#[a.eval s,a.eval x]:=by apply HA;simp[ES]
 have MF:∀v' w',(Builtin.copy_ #[t,t'] o.type #[a.eval s,a.eval x]).run C.P w= .ok v' w'->(execOp a.eval o).run C.P w= .ok (.value v') w':=λv' w' A3=>by
  have:execOp a.eval o=(do pure (Next.value (<-Builtin.copy_ #[t,t'] o.type #[a.eval s,a.eval x]))):=by rw[<-Kp,<-kZ (ty:=o.type) h0 h1];simp only[execOp,ho,resolve,hc];rfl
  rw[this];exact DF A3
 cases hi:C.P.info? e with
 |none=>simp[B6,hi] at KR
 |some i=>
 have Qe:=JR KR hi;unfold o9 at hp;cases hq:GX h (n+1) u with
 |none=>rw[hq] at hp;cases hp
 |some Az=>
  rw[hq] at hp;obtain⟨news,Kr,Vj,jN⟩:=Wg (w:=w) Gg hr.D4 jO hq;have J9:Src C.P i.size t' (a.eval x) Az.length news w:=by rw[Qe];exact Kr
  have OC:news.length=Az.length*(n+1):=Kr.newsLen;have Hn:Az.flatten.length=news.length:=by rw[Vj.length]
  simp only at hp;split at hp
  .split at hp;.rename_i Yk;cases hp;have JC:a.eval s= .slice none 0 0:=hvs;have A3:=eZ (t:=t) (ty:=o.type) (w:=w) (w':=w) ht hi J9 (base:=none) (k:=0) (cap:=0) Ab (λ_ e=>by cases e) (λ_=>rfl);rw[<-JC] at A3;rw[Yk] at A3;exact FY.value (MF _ _ A3) (hr.put λ_ _=>rfl)
   .cases hp
  .rename_i id off k z;split at hp
   .rename_i cs hcs;split at hp;.rename_i HU;obtain⟨rfl,b,hlen⟩:=HU;cases hp;obtain⟨g,cap,hg,JC,sd,bc,UH⟩:=(show BU γ _ _ from hvs);have hm:=DU (n+1) b;obtain⟨w',HT,fj,ŷ⟩:=eY (C:=C) (off:=off) hr.D4 hcs hg Vj Kr.one Ab;have A3:=eZ (t:=t) (ty:=o.type) (w:=w) (w':=w') ht hi J9 (base:=some ⟨g,off,none⟩) (k:=k) (cap:=cap) b (λ_ e=>by cases e;exact HT) (λe=>by cases e);rw[<-JC] at A3;rw[show Az.length*(n+1)=Az.flatten.length by rw[Hn,OC]];exact FY.value (MF _ _ A3) ((hr.I5 fj ŷ).put λ_ _=>rfl)
    .cases hp
   .cases hp
  .cases hp
def fA{t ty:TypeId}{ts:Array TypeId}{xs:Array Value}(h0:ts[0]?=some t):Builtin.clear_ ts ty xs=Builtin.clear_ #[t] ty xs:=by simp only[Builtin.clear_,h0];rfl
def xP{o:Oper}{c:Call}{t e:TypeId}{n:Nat}{s:Operand}{v z r:Aa}{h':Ah}(ho:o.op= .call c)(hc:c.callee= .builtin .clear)(h0:c.argTypes[0]?=some t)(ES:c.args.toList=[s])(ht:C.P.underlying t=some (.slice e))
  (KR:B6 C.P e=some (n+1)) (hz:GZ C.P e=some z) (hv:BC C U [s]=some [v]) (hp:VK h (n+1) z.cells v=some (h',r)) (hr:Dc C γ0 w0 γ Z U h a w):FY C γ0 w0 o a w (U.put o.dst .undef) h':=by
 obtain⟨_,e0,hvs⟩:=GN hr hv;cases e0;have Kp:c.args.map a.eval=#[a.eval s]:=by apply HA;simp[ES]
 have MF:∀v' w',(Builtin.clear_ #[t] o.type #[a.eval s]).run C.P w= .ok v' w'->(execOp a.eval o).run C.P w= .ok (.value v') w':=λv' w' A3=>by
  have:execOp a.eval o=(do pure (Next.value (<-Builtin.clear_ #[t] o.type #[a.eval s]))):=by rw[<-Kp,<-fA (ty:=o.type) h0];simp only[execOp,ho,resolve,hc];rfl
  rw[this];exact DF A3
 unfold VK at hp;split at hp
 .cases hp;have JC:a.eval s= .slice none 0 0:=hvs;have A3:(Builtin.clear_ #[t] o.type #[a.eval s]).run C.P w= .ok (.tuple #[]) w:=by rw[JC];simp[Builtin.clear_,run_underlying ht]
  exact FY.value (MF _ _ A3) (hr.put λ_ _=>trivial)
 .rename_i id off k B;split at hp
  .rename_i cs hcs;split at hp
   .rename_i HU;obtain⟨rfl,f,hlen⟩:=HU;cases hp;obtain⟨g,cap,hg,JC,sd,bc,UH⟩:=(show BU γ _ _ from hvs);obtain⟨d,be,l⟩:=H7 hz;obtain⟨p,q⟩:=Hq (γ:=γ) (Fu be) Ab;have Z5:d.cells.size=n+1:=by have:=p.length;simp at this;omega
    have Hn:(List.replicate k z.cells).flatten.length=k*(n+1):=by rw[Hs (z:=n+1) (λr hr=>by rw[ē hr,f]),FX]
    have i:∀(j:Nat) (u:Value),(Builtin.zeroCells d.cells k).toList[j]?=some u->j<k*(n+1)/\d.cells.toList[j%(n+1)]?=some u:=by
     intro j u hj;have YX:j<k*(n+1):=by have:=(Ak.1 hj).1;simpa[size_zeroCells,Z5] using this
     refine⟨YX,?_⟩;have ſ:j%(n+1)<d.cells.size:=by rw[Z5];exact Nat.mod_lt _ (C8 n)
     simp only[Builtin.zeroCells,M8,Cn] at hj;have b:(Array.range (k*d.cells.size)).toList[j]?=some j:=by simp[Z5,YX]
     rw[b] at hj;simp only[Cc,BE] at hj;rw[Z5] at hj;rw[<-hj];simp[ſ]
    have y:Bi γ (List.replicate k z.cells).flatten (Builtin.zeroCells d.cells k).toList:=by refine Bi.Ha (by simp only[Ci,size_zeroCells,Z5,Hn]) λj x u hx hu=>?_;obtain⟨YX,m⟩:=i j u hu;rw[Ie z.cells _ _ (by rw[f];exact YX),f] at hx;obtain⟨D,pP,Ź⟩:=p.get hx;rw[m] at pP;cases pP;exact Ź
    obtain⟨w',HT,fj,ŷ⟩:=eY (C:=C) (off:=off) hr.D4 hcs hg y (λu hu=>by obtain⟨j,hj⟩:=CR hu;exact q u (CB (i j u hj).2)) Ab
    have A3:(Builtin.clear_ #[t] o.type #[a.eval s]).run C.P w= .ok (.tuple #[]) w':=by
     rw[JC];cases k with
     |zero=>
      have A:(Builtin.zeroCells d.cells 0).toList=[]:=by simp[Builtin.zeroCells]
      rw[A] at HT;have:w'=w:=by have h2:(storeCells ⟨g,off,none⟩ []).run C.P w= .ok () w:=rfl;rw[h2] at HT;cases HT;rfl
      rw[this];simp[Builtin.clear_,run_underlying ht]
     |succ k=>simp[Builtin.clear_,run_underlying ht,l,HT]
    rw[show k*(n+1)=(List.replicate k z.cells).flatten.length from Hn.symm];exact FY.value (MF _ _ A3) ((hr.I5 fj ŷ).put λ_ _=>trivial)
   .cases hp
  .cases hp
 .cases hp
def fm{o:Oper}{t e:TypeId}{n:Nat}{x:Operand}{lo hi:Option Operand}{v r:Aa}{as:List Aa}{h':Ah}(ho:o.op= .slice t x lo hi none)(ht:C.P.underlying t=some (.slice e))(KR:B6 C.P e=some (n+1))
  (hv:BC C U (x::(lo.toList++hi.toList))=some (v::as)) (hp:dY h (n+1) lo.isSome hi.isSome v as=some (h',r)) (hr:Dc C γ0 w0 γ Z U h a w):FY C γ0 w0 o a w (U.put o.dst (.val r)) h':=by
 have kX:=DY hr hv;obtain⟨u,us,c,hx,fo⟩:=kX;simp only[Bs,E4] at c;obtain⟨rfl,rfl⟩:=c;unfold dY at hp;split at hp
 .rename_i id off k z;split at hp
  .rename_i cs hcs;split at hp
   .rename_i HU;obtain⟨rfl,b,aFh⟩:=HU;obtain⟨g,cap,hg,JC,sd,bc,UH⟩:=(show BU γ _ _ from hx);cases hb:Ea lo.isSome hi.isSome ((cs.length-off)/(n+1)) as with
    |none=>rw[hb] at hp;cases hp
    |some m=>
     obtain⟨l,q⟩:=m;rw[hb] at hp;simp only[Cv] at hp;split at hp
     .rename_i hlt;cases hp;obtain⟨us,c,fr,j,pf,i,E⟩:=hr.D4.cells id cs hcs g hg;obtain⟨⟨bb,B,s,d,D⟩,_⟩:=hr.D4.sz g _ UH;rw[j] at d;cases d;have dQ:cs.length<=us.size:=by have:=i.length;simp at this;omega
      have fB:(cs.length-off)/(n+1)<=cap:=by refine Nat.div_le_of_le_mul ?_;rw[Nat.mul_comm];omega
      have f:∀y:Option Operand,(y.map a.eval).isSome=y.isSome:=λy=>by cases y<;>rfl
      have A:(lo.map a.eval).toList++(hi.map a.eval).toList=(lo.toList++hi.toList).map a.eval:=by cases lo<;>cases hi<;>rfl
      rw[<-f lo,<-f hi] at hb;obtain⟨p,G,F⟩:=KD (P:=C.P) (w:=w) (isSlice:=true) hb (by rw[A];exact fo) fB;have Ni:Instr.sliceBounds true k cap (lo.map a.eval) (hi.map a.eval) none=Instr.sliceBounds true ((cs.length-off)/(n+1)) cap (lo.map a.eval) (hi.map a.eval) none:=by
       cases hi with
       |none=>cases b
       |some y=>rfl
      have Gg:C.P.underlying t=some (.slice (C.P.elem t)):=by simp[Program.elem,ht]
      have he:C.P.elem t=e:=by simp[Program.elem,ht]
      have A3:(Instr.sliceAt t (a.eval x) (lo.map a.eval) (hi.map a.eval) none).run C.P w= .ok (.slice (some ⟨g,off+l*(n+1),none⟩) (q-l) (cap-l)) w:=by rw[JC,run_sliceAt_slice w t _ _ _ _ Gg,run_slice_any w t _ _ _ Gg,Ni,p,he,Result.andThen_ok,DQ KR];show Result.ok (Value.slice (if cap=l then some ⟨g,off,none⟩ else Option.map (λq:Addr=>q.add (l*(n+1))) (some ⟨g,off,none⟩)) (q-l) (cap-l)) w=_;rw[Ac Ab];simp only[Cc];unfold Addr.add;split<;>simp_all
      refine FY.value (by simp only[execOp,ho];exact DF A3) (hr.put λ_ _=>⟨g,cap-l,hg,rfl,Ab,⟨bc.1,Bu (Nat.sub_le _ _) bc.2⟩,?_⟩);rw[UH,Ri,<-BM,aL0 Ab]
     .cases hp
   .cases hp
  .cases hp
 .cases hp
def fq{o:Oper}{t e:TypeId}{n:Nat}{x lo hi mx:Operand}{args:List Aa}(ho:o.op= .slice t x (some lo) (some hi) (some mx))(ht:C.P.underlying t=some (.slice e))(KR:B6 C.P e=some (n+1))
  (hv:BC C U [x,lo,hi,mx]=some args) (hp:VL (n+1) args=true) (hr:Dc C γ0 w0 γ Z U h a w):FY C γ0 w0 o a w (U.put o.dst .undef) h:=by
 have kX:=DY hr hv;have Gg:C.P.underlying t=some (.slice (C.P.elem t)):=by simp[Program.elem,ht]
 have he:C.P.elem t=e:=by simp[Program.elem,ht]
 have HC:∀(base:Option Addr) (len cap:Nat) (kl kr f:IntKind) (l r m:Int),a.eval x= .slice base len cap->a.eval lo= .int kl l->a.eval hi= .int kr r->a.eval mx= .int f m->0<=l->l<=r->r<=m->m<=cap->FY C γ0 w0 o a w (U.put o.dst .undef) h:=by
  intro base len cap kl kr f l r m A z y u h1 h2 d i;have A3:∃v,(Instr.sliceAt t (a.eval x) (some (a.eval lo)) (some (a.eval hi)) (some (a.eval mx))).run C.P w= .ok v w:=by
   have c:0<=m:=Ab;have b:0<=r:=Ab;have b1:∀code,(Instr.sliceBound (.int f m) cap code).run C.P w= .ok m.toNat w:=λcode=>by simp[Instr.sliceBound,asIntOf,c,i]
   have b2:∀code,(Instr.sliceBound (.int kr r) m.toNat code).run C.P w= .ok r.toNat w:=λcode=>by simp[Instr.sliceBound,asIntOf,b,GV c,d]
   have b3:∀code,(Instr.sliceBound (.int kl l) r.toNat code).run C.P w= .ok l.toNat w:=λcode=>by simp[Instr.sliceBound,asIntOf,h1,GV b,h2]
   rw[A,z,y,u];simp[Instr.sliceAt,Instr.slice,run_underlying ht,Instr.sliceBounds,b1,b2,b3,DQ KR]
  obtain⟨v,A3⟩:=A3;exact FY.value (by simp only[execOp,ho];exact DF A3) (hr.put λ_ _=>trivial)
 unfold VL at hp;split at hp
 .rename_i s _ l _ r _ m;obtain⟨F,q,f1,g1,E,kE,f2,g2,D,p,f3,g3,B,k,f4,j,f5⟩:=kX;subst f5;simp only[Bs,Df] at f1;subst f4;subst f3;subst f2;simp only[E4,Mx] at f1;obtain⟨rfl,rfl,rfl,rfl⟩:=f1;split at hp;.simp only[Bx,CX] at hp;obtain⟨⟨⟨⟨_,h1⟩,h2⟩,d⟩,i⟩:=hp;obtain⟨g,cap,hg,JC,sd,_⟩:=(show BU γ _ _ from g1);exact HC _ _ _ _ _ _ _ _ _ JC (EA g2) (EA g3) (EA j) h1 h2 d Ab
  .simp only[Bx,CX] at hp;obtain⟨⟨⟨⟨_,h1⟩,h2⟩,d⟩,i⟩:=hp;obtain⟨G,cap,JC,sd,_⟩:=(show BU γ _ _ from g1);exact HC _ _ _ _ _ _ _ _ _ JC (EA g2) (EA g3) (EA j) h1 h2 d Ab
  .cases hp
 .cases hp
def fu{o:Oper}{t:TypeId}{x:Operand}{v:Aa}{u:TypeDesc}(ho:o.op= .makeInterface t x)(ht:C.P.underlying t=some u)(hn:∀i,u≠ .interface i)(hv:BC C U [x]=some [v])(hr:Dc C γ0 w0 γ Z U h a w):FY C γ0 w0 o a w (U.put o.dst (.val (.iface t v))) h:=by
 obtain⟨_,e0,hvs⟩:=GN hr hv;cases e0;have A3:(Instr.makeInterface t (a.eval x)).run C.P w= .ok (.iface t (a.eval x)) w:=by cases u<;>simp_all [Instr.makeInterface,run_underlying ht]
 exact FY.value (by simp only[execOp,ho];exact DF A3) (hr.put λ_ _=>⟨_,rfl,hvs⟩)
def PT{n:Int}:∀{es:List (Aa×Aa)} {l:List MapEntry} {i:Nat} {r:Option (Nat×Aa)},K5 γ es l->Ls n es i=some r->
  match r with
  |none=>Instr.findNow (.int .i64) (.int .i64 n) l i=some none
  |some (j,v)=>∃(e:MapEntry),Instr.findNow (.int .i64) (.int .i64 n) l i=some (some (j,e.val))/\BU γ v e.val/\i<=j/\l[j-i]?=some e/\e.key= .int .i64 n
 |[],l,i,r,b,hf=>by rw[show l=[] from b];cases hf;rfl
 |(k,v)::es,l,i,r,b,hf=>by
  obtain⟨e,l',rfl,h1,h2,m⟩:=b;cases k with
  |int q t=>
   by_cases hq:q= .i64
   .subst hq;simp only[Ls] at hf;have hk:e.key= .int .i64 t:=h1;split at hf;.rename_i HT;subst HT;cases hf;exact⟨e,by simp[Instr.findNow,hk,Instr.sameNow],h2,Ag _,AK,hk⟩
    .rename_i HT;have aFl:(n==t)=false:=by simpa using HT
     have ih:=PT (i:=i+1) m hf;cases r with
     |none=>simpa[Instr.findNow,hk,Instr.sameNow,aFl] using ih
     |some p=>obtain⟨j,v2⟩:=p;obtain⟨o,g,f,s,d,c⟩:=ih;refine⟨o,by simpa[Instr.findNow,hk,Instr.sameNow,aFl] using g,f,Ab,?_,c⟩;rw[(Ab:j-i=(j-(i+1))+1),LI];exact d
   .exfalso;cases q<;>first|exact hq rfl|(simp[Ls] at hf)
  |_=>simp[Ls] at hf
def fw{o:Oper}{t kt e:TypeId}{m k:Operand}{g l z r:Aa}{ok:Bool}{h':Ah}(ho:o.op= .lookup t m k ok)(ht:C.P.underlying t=some (.map kt e))(hk:C.P.underlying kt=some (.int .i64))(hz:GZ C.P e=some z)(ha:BC C U [m,k]=some [g,l])(hm:pA h z ok g l=some (h',r))(hr:Dc C γ0 w0 γ Z U h a w):
  FY C γ0 w0 o a w (U.put o.dst (.val r)) h':=by
 obtain⟨_,_,e0,h1,h2⟩:=Ff hr ha;cases e0;obtain⟨f,be,d⟩:=H7 hz;have HC:∀(es:Array MapEntry) (q:Option (Nat×Aa)),(Instr.lookup t (a.eval m) (a.eval k) ok).run C.P w=(KU kt e (a.eval k) ok es).run C.P w->
   ∀n,a.eval k= .int .i64 n->(match q with|none=>Instr.findNow (.int .i64) (.int .i64 n) es.toList 0=some none|some (j,v)=>∃(e:MapEntry),Instr.findNow (.int .i64) (.int .i64 n) es.toList 0=some (some (j,e.val))/\BU γ v e.val/\0<=j/\es.toList[j-0]?=some e/\e.key= .int .i64 n)->
   jY z ok q=r->FY C γ0 w0 o a w (U.put o.dst (.val r)) h:=by
  intro es q RK n so hq TQ;have xL:(Instr.checkKey es.isEmpty 10000 kt (.int .i64 n)).run C.P w= .ok () w:=MapKept.run_checkKey (k:= .int .i64 n) hk (by simp[MapKept.IsKey]) es.isEmpty 9999;have A3:∃v,(Instr.lookup t (a.eval m) (a.eval k) ok).run C.P w= .ok v w/\BU γ r v:=by
   cases q with
   |none=>
    refine⟨if ok then .tuple #[f,.bool false] else f,?_,?_⟩;.rw[RK,so];unfold KU;simp only[Sem.run_bind,Result.andThen_ok,xL,MapKept.run_findKey hk hq,d,Sem.run_bind,Sem.run_pure]
    .rw[<-TQ];have c:=Fu (γ:=γ) be;cases ok with
     |true=>exact⟨_,rfl,_,_,rfl,c,_,_,rfl,rfl,rfl⟩
     |false=>exact c
   |some p=>
    obtain⟨j,v⟩:=p;obtain⟨en,u,s,_⟩:=hq;refine⟨if ok then .tuple #[en.val,.bool true] else en.val,?_,?_⟩;.rw[RK,so];unfold KU;simp only[Sem.run_bind,Result.andThen_ok,xL,MapKept.run_findKey hk u,Sem.run_bind,Sem.run_pure]
    .rw[<-TQ];cases ok with
     |true=>exact⟨_,rfl,_,_,rfl,s,_,_,rfl,rfl,rfl⟩
     |false=>exact s
  obtain⟨v,A3,pT⟩:=A3;exact FY.value (by simp only[execOp,ho];exact DF A3) (hr.put λ_ _=>pT)
 unfold pA at hm;split at hm;.rename_i n;cases hm;exact HC #[] none (by rw[show a.eval m=_ from h1];simp only[Instr.lookup,KU,Sem.run_bind,run_underlying ht,Result.andThen_ok,Sem.run_pure];rfl) n h2 rfl rfl
 .rename_i id n;obtain⟨b,hb,xK⟩:=h1;split at hm
  .rename_i es RK;obtain⟨DD,clock,hw,x,_⟩:=hr.D4.map id es RK b hb;cases hf:Ls n es 0 with
   |none=>rw[hf] at hm;cases hm
   |some q=>
    rw[hf] at hm;simp only[Cc,BE,Ii] at hm;obtain⟨rfl,hm⟩:=hm;refine HC DD q (by rw[xK];simp only[Instr.lookup,KU,Sem.run_bind,run_underlying ht,MapKept.run_getObj_map hw,Result.andThen_ok,Sem.run_pure];rfl) n h2 ?_ ?_
    .have:=PT (i:=0) x hf;cases q with
     |none=>exact this
     |some p=>exact this
    .exact hm
  .cases hm
 .cases hm
def K5.fx{k v:Aa}{e:MapEntry}(hk:BU γ k e.key)(hv:BU γ v e.val):∀{es:List (Aa×Aa)} {l:List MapEntry},K5 γ es l->K5 γ (es++[(k,v)]) (l++[e])
 |[],l,b=>by rw[show l=[] from b];exact⟨e,[],rfl,hk,hv,rfl⟩
 |(k',v')::es,l,b=>by obtain⟨d,l',rfl,h1,h2,c⟩:=b;exact⟨d,_,rfl,h1,h2,K5.fx hk hv c⟩
def K5.length:∀{es:List (Aa×Aa)} {l:List MapEntry},K5 γ es l->l.length=es.length
 |[],l,b=>by rw[show l=[] from b];rfl
 |(k',v')::es,l,b=>by obtain⟨d,l',rfl,h1,h2,c⟩:=b;simp[K5.length c]
def K5.modify{v:Aa}{u:Value}(hv:BU γ v u):∀{es:List (Aa×Aa)} {l:List MapEntry} {j:Nat} {k v0:Aa},K5 γ es l->es[j]?=some (k,v0)->K5 γ (es.set j (k,v)) (l.modify j λe=>{e with val:=u})
 |[],l,j,k,v0,b,hj=>by simp at hj
 |(k',v')::es,l,j,k,v0,b,hj=>by
  obtain⟨d,l',rfl,h1,h2,c⟩:=b;cases j with
  |zero=>cases hj;exact⟨{d with val:=u},l',AK,h1,hv,c⟩
  |succ j=>exact⟨d,l'.modify j _,AK,h1,h2,K5.modify hv c (by simpa using hj)⟩
def fC{es:Array MapEntry}{j:Nat}{e:MapEntry}{k:Value}(hj:es[j]?=some e)(hk:e.key=k):(es.modify j λe=>{e with key:=k})=es:=by
 apply PH;intro i;rw[MW];split;.rename_i hi;subst hi;rw[hj];simp[<-hk]
 .rfl
def Wl{o:Oper}{t kt e:TypeId}{m k:Operand}{kA z r:Aa}{kV:Value}{d:TypeDesc}{h':Ah}{id:Nat}{es:List (Aa×Aa)}{f:Option (Option (Nat×Aa))}(ho:o.op= .mapEntry t m k)(ht:C.P.underlying t=some (.map kt e))(hk:C.P.underlying kt=some d)(n:MapKept.IsKey d kV)(hz:GZ C.P e=some z)
  (h1:BU γ (.map (some id)) (a.eval m)) (g:a.eval k=kV) (u:BU γ kA kV) (RK:h[id]?=some (.map es))
  (hq:∀(l:List MapEntry) q,K5 γ es l->f=some q->match q with
   |none=>Instr.findNow d kV l 0=some none
   |some (j,v)=>∃(e:MapEntry),Instr.findNow d kV l 0=some (some (j,e.val))/\BU γ v e.val/\0<=j/\l[j-0]?=some e/\e.key=kV)
  (hm:(f.map λr=>match r with
   |some (i,v)=>(h,Aa.tuple [v,.int .i64 i])
   |none=>(h.set id (.map (es++[(kA,z)])),.tuple [z,.int .i64 es.length]))=some (h',r)) (hr:Dc C γ0 w0 γ Z U h a w):
  FY C γ0 w0 o a w (U.put o.dst (.val r)) h':=by
 obtain⟨c,be,s⟩:=H7 hz;obtain⟨b,hb,xK⟩:=h1;obtain⟨DD,clock,hw,x,hB⟩:=hr.D4.map id es RK b hb;have xL:(Instr.checkKey false 10000 kt kV).run C.P w= .ok () w:=MapKept.run_checkKey (k:=kV) hk n false 9999;cases f with
 |none=>cases hm
 |some q=>
  have hq:=hq DD.toList q x rfl;cases q with
  |none=>
   simp only[Cc,BE,Ii] at hm;obtain⟨rfl,rfl⟩:=hm;have A3:(Instr.mapEntry t (a.eval m) (a.eval k)).run C.P w= .ok (.tuple #[c,goInt clock]) {w with heap:=w.heap.setIfInBounds b (.map (DD.push {key:=kV,val:=c,born:=clock}) (clock+1))}:=by rw[xK,g];simp[Instr.mapEntry,run_underlying ht,MapKept.run_getObj_map hw,xL,MapKept.run_findKey hk hq,s,MapKept.run_setObj_map _ hw,Result.andThen]
   obtain⟨hi,Ka⟩:=No (UA:=es++[(kA,z)]) (ents':=DD.push {key:=kV,val:=c,born:=clock}) (clock':=clock+1) hr.D4 RK hb hw ⟨by have:=K5.fx (γ:=γ) (k:=kA) (v:=z) (e:={key:=kV,val:=c,born:=clock}) u (Fu be) x;simpa using this,S5 hB⟩
   refine FY.value (by simp only[execOp,ho];exact DF A3) ((hr.I5 hi Ka).put λ_ _=>⟨_,rfl,c,_,rfl,Fu be,_,[],rfl,?_,rfl⟩);rw[hB.1];have:=x.length;simp only[Ci] at this;rw[<-this];rfl
  |some p=>
   obtain⟨j,v⟩:=p;simp only[Cc,BE,Ii] at hm;obtain⟨rfl,rfl⟩:=hm;obtain⟨en,D,B,_,A,y⟩:=hq;have hj:DD[j]?=some en:=by simpa using A
   have aFm:=hB.2 j en hj;have xQ:w.heap.setIfInBounds b (.map DD clock)=w.heap:=by
    apply PH;intro i;rw[Array.getElem?_setIfInBounds];split;.rename_i hi;subst hi;have hlt:=(A7.1 hw).1;rw[Ae hlt,hw]
    .rfl
   have A3:(Instr.mapEntry t (a.eval m) (a.eval k)).run C.P w= .ok (.tuple #[en.val,goInt j]) w:=by rw[xK,g];simp[Instr.mapEntry,run_underlying ht,MapKept.run_getObj_map hw,xL,MapKept.run_findKey hk D,hj,y,MapKept.run_keyThatStays (d:=d) (k:=kV) n,MapKept.run_setObj_map _ hw,Result.andThen,aFm,fC hj y,xQ]
   exact FY.value (by simp only[execOp,ho];exact DF A3) (hr.put λ_ _=>⟨_,rfl,_,_,rfl,B,_,[],rfl,rfl,rfl⟩)
def lA{o:Oper}{t kt e:TypeId}{m k:Operand}{b c z r:Aa}{h':Ah}(ho:o.op= .mapEntry t m k)(ht:C.P.underlying t=some (.map kt e))(hk:C.P.underlying kt=some (.int .i64))(hz:GZ C.P e=some z)(ha:BC C U [m,k]=some [b,c])(hm:Vd h z b c=some (h',r))(hr:Dc C γ0 w0 γ Z U h a w):
  FY C γ0 w0 o a w (U.put o.dst (.val r)) h':=by
 obtain⟨_,_,e0,h1,h2⟩:=Ff hr ha;cases e0;unfold Vd at hm;split at hm
 .rename_i id n;split at hm;.rename_i es RK;exact Wl (kA:= .int .i64 n) (kV:= .int .i64 n) ho ht hk (by simp[MapKept.IsKey]) hz h1 h2 rfl RK (λl q d hf=>PT (i:=0) d hf) hm hr
  .cases hm
 .cases hm
def YZ{s:Aq}:∀{es:List (Aa×Aa)} {l:List MapEntry} {i:Nat} {r:Option (Nat×Aa)},K5 γ es l->VM s es i=some r->
  match r with
  |none=>Instr.findNow .string (.string ⟨⟨s⟩⟩) l i=some none
  |some (j,v)=>∃(e:MapEntry),Instr.findNow .string (.string ⟨⟨s⟩⟩) l i=some (some (j,e.val))/\BU γ v e.val/\i<=j/\l[j-i]?=some e/\e.key= .string ⟨⟨s⟩⟩
 |[],l,i,r,b,hf=>by rw[show l=[] from b];cases hf;rfl
 |(k,v)::es,l,i,r,b,hf=>by
  obtain⟨e,l',rfl,h1,h2,m⟩:=b;cases k with
  |str t=>
   simp only[VM] at hf;have hk:e.key= .string ⟨⟨t⟩⟩:=h1;split at hf;.rename_i HT;subst HT;cases hf;exact⟨e,by simp[Instr.findNow,hk,Instr.sameNow,QW],h2,Ag _,AK,hk⟩
   .rename_i HT;have ih:=YZ (i:=i+1) m hf;have hne:=Wj HT;cases r with
    |none=>simpa[Instr.findNow,hk,Instr.sameNow,hne] using ih
    |some p=>obtain⟨j,v2⟩:=p;obtain⟨n,g,f,o,d,c⟩:=ih;refine⟨n,by simpa[Instr.findNow,hk,Instr.sameNow,hne] using g,f,Ab,?_,c⟩;rw[(Ab:j-i=(j-(i+1))+1),LI];exact d
  |_=>simp[VM] at hf
def lB{o:Oper}{t kt e:TypeId}{m k:Operand}{b c z r:Aa}{h':Ah}(ho:o.op= .mapEntry t m k)(ht:C.P.underlying t=some (.map kt e))(hk:C.P.underlying kt=some .string)(hz:GZ C.P e=some z)(ha:BC C U [m,k]=some [b,c])(hm:ZQ h z b c=some (h',r))(hr:Dc C γ0 w0 γ Z U h a w):
  FY C γ0 w0 o a w (U.put o.dst (.val r)) h':=by
 obtain⟨_,_,e0,h1,h2⟩:=Ff hr ha;cases e0;unfold ZQ at hm;split at hm
 .rename_i id n;split at hm;.rename_i es RK;exact Wl (kA:= .str n) (kV:= .string ⟨⟨n⟩⟩) ho ht hk (by simp[MapKept.IsKey]) hz h1 h2 rfl RK (λl q d hf=>YZ (i:=0) d hf) hm hr
  .cases hm
 .cases hm
def fD{o:Oper}{t kt e:TypeId}{m k x:Operand}{f g c r:Aa}{h':Ah}(ho:o.op= .insert t m k x\/o.op= .mapUpdate t m k x)(hd:o.dst=none)(ht:C.P.underlying t=some (.map kt e))(hk:C.P.underlying kt=some (.int .i64))(ha:BC C U [m,k,x]=some [f,g,c])
  (hm:b_ h f g c=some (h',r)) (hr:Dc C γ0 w0 γ Z U h a w):FY C γ0 w0 o a w U h':=by
 obtain⟨h1,h2,l⟩:=QX hr ha;have MF:∀w',(Instr.mapUpdate t (a.eval m) (a.eval k) (a.eval x)).run C.P w= .ok () w'->(execOp a.eval o).run C.P w= .ok .skip w':=λw' A3=>by rcases ho with ho|ho<;>simp[execOp,ho,A3]
 unfold b_ at hm;split at hm
 .rename_i id n;obtain⟨b,hb,xK⟩:=h1;have d:a.eval k= .int .i64 n:=h2;split at hm
  .rename_i es RK;obtain⟨DD,clock,hw,j,hB⟩:=hr.D4.map id es RK b hb;have xL:(Instr.checkKey false 10000 kt (.int .i64 n)).run C.P w= .ok () w:=MapKept.run_checkKey (k:= .int .i64 n) hk (by simp[MapKept.IsKey]) false 9999;split at hm
   .rename_i hf;cases hm;have hq:=PT (i:=0) j hf;have A3:(Instr.mapUpdate t (a.eval m) (a.eval k) (a.eval x)).run C.P w= .ok () {w with heap:=w.heap.setIfInBounds b (.map (DD.push {key:= .int .i64 n,val:=a.eval x,born:=clock}) (clock+1))}:=by rw[xK,d];simp[Instr.mapUpdate,run_underlying ht,MapKept.run_getObj_map hw,xL,MapKept.run_findKey hk hq,MapKept.run_setObj_map _ hw,Result.andThen]
    obtain⟨hi,Ka⟩:=No (UA:=es++[(.int .i64 n,c)]) (ents':=DD.push {key:= .int .i64 n,val:=a.eval x,born:=clock}) (clock':=clock+1) hr.D4 RK hb hw ⟨by have:=K5.fx (γ:=γ) (k:= .int .i64 n) (v:=c) (e:={key:= .int .i64 n,val:=a.eval x,born:=clock}) rfl l j;simpa using this,S5 hB⟩
    exact FY.skip (MF _ A3) (by rw[hd];exact hr.I5 hi Ka)
   .cases hm
  .cases hm
 .cases hm
def Z8{es:Array MapEntry}(hB:∀(i:Nat) (e:MapEntry),es[i]?=some e->e.born=i){j:Nat}{e:MapEntry}(hj:es[j]?=some e):es.findIdx? (λe=>(e.born:Int)==(j:Int))=some j:=by
 rw[Array.findIdx?_eq_some_iff_getElem];obtain⟨hl,he⟩:=A7.1 hj;refine⟨hl,?_,λi hi=>?_⟩;.have:=hB j _ (CU hl);simp[this]
 .have:=hB i _ (CU Ab);simp[this];omega
def lC{o:Oper}{t:TypeId}{m s x:Operand}{f vs c r:Aa}{h':Ah}(ho:o.op= .entryStore t m s x)(hd:o.dst=none)(ha:BC C U [m,s,x]=some [f,vs,c])(hm:Ve h f vs c=some (h',r))(hr:Dc C γ0 w0 γ Z U h a w):FY C γ0 w0 o a w U h':=by
 obtain⟨h1,h2,i⟩:=QX hr ha;have MF:∀w',(Instr.entryStore t (a.eval m) (a.eval s) (a.eval x)).run C.P w= .ok () w'->(execOp a.eval o).run C.P w= .ok .skip w':=λw' A3=>by simp[execOp,ho,A3]
 unfold Ve at hm;split at hm
 .rename_i id n;obtain⟨b,hb,xK⟩:=h1;have JC:a.eval s= .int .i64 n:=h2;split at hm
  .rename_i es RK;split at hm
   .rename_i hn;split at hm
    .rename_i kk v0 hk;cases hm;obtain⟨DD,clock,hw,g,hB⟩:=hr.D4.map id es RK b hb;have hlen:=g.length;have hlt:=(Ak.1 hk).1;have d:∃en,DD[n.toNat]?=some en:=⟨DD[n.toNat]'(by simp at hlen;omega),CU _⟩;obtain⟨en,hj⟩:=d;have pO:((n.toNat:Nat):Int)=n:=Ab;have aFn:=Z8 hB.2 hj;rw[pO] at aFn;have A3:(Instr.entryStore t (a.eval m) (a.eval s) (a.eval x)).run C.P w= .ok () {w with heap:=w.heap.setIfInBounds b (.map (DD.modify n.toNat λe=>{e with val:=a.eval x}) clock)}:=by rw[xK,JC];simp[Instr.entryStore,MapKept.run_getObj_map hw,asInt,asIntOf,aFn,MapKept.run_setObj_map _ hw,Result.andThen]
     obtain⟨hi,Ka⟩:=No (UA:=es.set n.toNat (kk,c)) (ents':=DD.modify n.toNat λe=>{e with val:=a.eval x}) (clock':=clock) hr.D4 RK hb hw ⟨by have:=K5.modify i g hk;simpa using this,TR hB λ_=>rfl⟩
     exact FY.skip (MF _ A3) (by rw[hd];exact hr.I5 hi Ka)
    .cases hm
   .cases hm
  .cases hm
 .cases hm
end
end Go.Am
end
section
section
namespace Go.Am
open Go
section
variable{C:FZ}{γ0 γ γ':Gh}{w0 w w':World}{O:Nat->Nat}{U U':BW}{h h':Ah}{a:Act}{fid:FuncId}{ops:List Oper}
def FY.wp{o:Oper}{K:Act->World->Prop}{Q:Exit->Act->World->Prop}(hs:FY C γ0 w0 o a w U' h')(b:∀γ' c a' w',Dc C γ0 w0 γ' c U' h' a' w'->K a' w'):o.wp C.P a w K Q:=by
 obtain⟨γ',c,w',⟨v,he,hr⟩|⟨he,hr⟩⟩:=hs;.exact Jk he (b _ _ _ _ hr)
 .exact kG he (b _ _ _ _ hr)
def Yl{P:Program}{op:BinOp}{t:TypeId}{p:X1}(hp:PM P op t=some p):p.still=true:=by
 have Kp:∀neg u,SR P t neg u=some p->p.still=true:=by
  intro neg u h;unfold SR at h;split at h;.cases h;rfl
  .split at h
   .cases hf:OZ P 20 t with
    |none=>rw[hf] at h;cases h
    |some k=>rw[hf] at h;cases h;rfl
   .cases h
  .split at h<;>cases h;rfl
  .cases h;rfl
  .cases h;rfl
  .cases h;rfl
  .cases h
 unfold PM at hp;split at hp;.cases hp;rfl
 .cases hp;rfl
 .split at hp;.exact Kp _ _ hp
  .exact Kp _ _ hp
  .cases hp
 .cases hp
def Np{P:Program}{t:TypeId}{f off:Nat}{sh:Option Nat}(hf:Iu P t f=some (off,sh))(b o:Nat):(Instr.fieldAt t (.pointer (some ⟨b,o,none⟩)) f).run P w= .ok (.pointer (some ⟨b,o+off,none⟩)) w:=by
 unfold Iu at hf;split at hf
 .rename_i fs pP;split at hf
  .rename_i fd pQ;split at hf;.rename_i n c h1 h2;cases hf;simp[Instr.fieldAt,run_underlying pP,pQ,Instr.sureAddr,fieldPlace,DQ h1,Addr.add_lit]
   .cases hf
  .cases hf
 .cases hf
def Wm(hr:Dc C γ0 w0 γ O U h a w){s ver:Nat}{cs:List Aa}{ow:List Nat}(hs:Ed C U (.tmp s)=some (.box ver cs ow)):a.eval (.tmp s)= .pointer (some ⟨O s,0,none⟩):=by have h0:=Rz hr s;rw[Hb hs] at h0;exact h0.1
def TT(hr:Dc C γ0 w0 γ O U h a w){x:Operand}{s k:Nat}(hs:Ed C U x=some (.Fl s k)):a.eval x= .pointer (some ⟨O s,k,none⟩):=by obtain⟨t,h1,_⟩:=Gp hr hs;exact h1
def Y0{o:Oper}{t:TypeId}{v:Aa}{d:Nat}{r:EO}{run:IT->Ah->Option J1}(hb:TJ C fid t v d=some r)(Ga:r.Nj C run (U.drop r.news) h U' h')
  (OY:∀n,C.kind fid d= .OY->v.cells.length=n->n≠0->FY C γ0 w0 o a w ((U.drop [d]).set d (.box 0 v.cells [])) h)
  (heap:v.cells.length≠0->FY C γ0 w0 o a w (U.put (some d) (.val (.ptr (some (h.length,0))))) (h++[.cells v.cells])):FY C γ0 w0 o a w U' h':=by
 unfold TJ at hb;split at hb;.cases hb
 .rename_i n hn;split at hb;.cases hb
  .rename_i b;split at hb;.cases hb;obtain⟨h1,rfl,rfl⟩:=Ga;rename_i hk;exact OY n hk h1 b
   .cases hb;obtain⟨h1,rfl,rfl⟩:=Ga;exact heap Ab
def PU{d s k:Nat}{run:IT->Ah->Option J1}(Ga:(EO.pure [(d,.Fl s k)]).Nj C run (U.drop (EO.pure [(d,.Fl s k)]).news) h U' h'):U'=U.set d (.Fl s k)/\h'=h:=by obtain⟨rfl,rfl⟩:=Ga;exact⟨rfl,rfl⟩
def fy{run:IT->Ah->Option J1}(G:Fg C run){o:Oper}{r:EO}{K:Act->World->Prop}{Q:Exit->Act->World->Prop}(hc:Gl C fid ops U o=some r)(Ga:r.Nj C run (U.drop r.news) h U' h')(hr:Dc C γ0 w0 γ O U h a w)
  (j:∀γ' T a' w',Dc C γ0 w0 γ' T U' h' a' w'->K a' w'):o.wp C.P a w K Q:=by
 by_cases HT:∃p args dst Bw F,r= .op p args dst Bw F/\p.still=true
 .obtain⟨p,args,dst,Bw,F,rfl,sr⟩:=HT
  obtain⟨L,rfl,rfl,rfl⟩:=xF hc sr hr
  obtain⟨v,hv,rfl,rfl⟩:=Ga
  obtain⟨u,R,N⟩:=L v hv
  exact Jk R (j _ _ _ _ (hr.put λ_ _=>N))
 .have X4:∀{p args dst},r= .op p args dst false none->p.still=false:=λ{p args dst} he=>by
   cases hp:p.still with
   |false=>rfl
   |true=>exact absurd ⟨p,args,dst,false,none,he,hp⟩ HT
  have HD:∀{p dst x},SU p dst x=some r->p.still=false:=λ{p dst x} he=>by
   obtain⟨args,_,e⟩:=DZ he
   exact X4 e
  unfold Gl at hc
  split at hc
  .rename_i x ho
   split at hc
   .rename_i d hd
    obtain⟨γ',F0⟩:=RD hc Ga hr
    exact Jk (w':=w) (v:=a.eval x) (by simp[execOp,ho]) (j _ _ _ _ (by rw[hd];exact F0))
   .cases hc
  .rename_i x ho
   split at hc
   .rename_i d hd
    obtain⟨γ',F0⟩:=RD hc Ga hr
    exact Jk (w':=w) (v:=a.eval x) (by simp[execOp,ho]) (j _ _ _ _ (by rw[hd];exact F0))
   .cases hc
  .rename_i c x y ho
   split at hc
   .rename_i d hcs hd
    obtain⟨γ',F0⟩:=RD hc Ga hr
    obtain⟨s,h1,_⟩:=Gp hr hcs
    have h1:a.eval c= .bool true:=h1
    exact Jk (w':=w) (v:=a.eval x) (by simp[execOp,ho,h1,asBool]) (j _ _ _ _ (by rw[hd];exact F0))
   .rename_i d hcs hd
    obtain⟨γ',F0⟩:=RD hc Ga hr
    obtain⟨s,h1,_⟩:=Gp hr hcs
    have h1:a.eval c= .bool false:=h1
    exact Jk (w':=w) (v:=a.eval y) (by simp[execOp,ho,h1,asBool]) (j _ _ _ _ (by rw[hd];exact F0))
   .cases HD hc
  .rename_i t ho
   split at hc
   .rename_i d z hd hz
    split at hc
    .split at hc
     .rename_i HU
      cases hc
      obtain⟨rfl,rfl⟩:=Ga
      exact(V6 ho hd hz HU.2 hr).wp j
     .cases hc
    .rename_i hk
     refine(Y0 (o:=o) (a:=a) (w:=w) (γ0:=γ0) (w0:=w0) hc Ga (λn h0 h1 h2=>absurd h0 (by simpa using hk)) λh1=>V8 ho hd hz h1 hr).wp j
   .cases hc
  .rename_i t x ho
   split at hc
   .rename_i d v hd hv
    exact(Y0 (o:=o) (a:=a) (w:=w) (γ0:=γ0) (w0:=w0) hc Ga (λn _ h1 h2=>Z0 ho hd hv h1 h2 hr) λh1=>Z3 ho hd hv h1 hr).wp j
   .cases hc
  .split at hc
   .split at hc
    .cases HD hc
    .cases hc
   .cases hc
  .rename_i t len parts ho
   split at hc
   .rename_i e ht
    split at hc
    .rename_i n hn
     split at hc
     .rename_i HU
      split at hc
      .rename_i hlen
       cases hc
       obtain⟨v,hv,rfl,rfl⟩:=Ga
       cases hv
       exact(d_ ho ht hn HU.1 HU.2 hlen.1 hr).wp j
      cases ha:BC C U (parts.toList.map (·.2)) with
      |none=>rw[ha] at hc;cases hc
      |some args=>
       rw[ha] at hc;cases hc
       obtain⟨v,hv,rfl,rfl⟩:=Ga
       exact(dz ho ht hn HU.1 HU.2 ha hv hr).wp j
     .cases hc
    .cases hc
   .cases hc
  .rename_i t x ho
   split at hc
   .rename_i d hd
    by_cases hp:∃ws,r= .pure ws
    .exact(Yh ho hd hc hp Ga hr).wp j
    .unfold Lt at hc
     split at hc
     .rename_i n p ht hx
      cases hc
      obtain⟨v,hv,rfl,rfl⟩:=Ga
      have hs:=dw ho ht hx hv hr
      rw[hd] at hs
      exact hs.wp j
     .split at hc
      .simp only at hc
       split at hc<;>(cases hc;exact absurd ⟨_,rfl⟩ hp)
      .cases hc
     .split at hc
      .cases hc;exact absurd ⟨_,rfl⟩ hp
      .cases hc
     .cases hc
   .cases hc
  .rename_i t x y ho
   split at hc
   .rename_i hd
    have KE:=hc
    unfold Jw at hc
    split at hc
    .rename_i n p v KR hx hv
     cases hc
     obtain⟨aMr,rfl⟩:=Ga
     exact(xG ho hd KR hx hv aMr hr).wp j
    .split at hc
     .cases hc
      exact(kT ho hd KE Ga hr).wp j
     .cases hc
    .cases hc
   .cases hc
  .rename_i x ho
   split at hc
   .rename_i s ver cs ow d hd hs
    cases hc
    obtain⟨rfl,rfl⟩:=PU Ga
    have he:=Wm hr hs
    exact Jk (w':=w) (v:= .pointer (some ⟨O s,0,none⟩)) (by simp[execOp,ho,he]) (j _ _ _ _ (by rw[hd];exact hr.put (d:=some d) λ_ _=>rfl))
   .rename_i s k d hd hs
    cases hc
    obtain⟨rfl,rfl⟩:=PU Ga
    have he:=TT hr hs
    exact Jk (w':=w) (v:= .pointer (some ⟨O s,k,none⟩)) (by simp[execOp,ho,he]) (j _ _ _ _ (by rw[hd];exact hr.put (d:=some d) λ_ _=>rfl))
   .cases HD hc
  .split at hc
   .rename_i p hp
    have sr:=HD hc
    rw[Yl hp] at sr
    cases sr
   .cases hc
  .cases HD hc
  .rename_i src aL9 x ho
   split at hc
   .rename_i hq
    unfold VQ at hq
    cases hv:E6 C U x with
    |none=>rw[hv] at hc;cases hc
    |some v=>
     rw[hv] at hc;cases hc
     split at hq
     .cases hq
     .cases hq
     .cases hq
     .rename_i e hs hd
      split at hq
      .rename_i he
       obtain⟨v',u,h1,h2,rfl⟩:=Ga
       exact(si ho hs hd he hv h1 h2 hr).wp j
      .cases hq
     .split at hq<;>cases hq
     .cases hq
   .rename_i hq
    unfold VQ at hq
    split at hq
    .cases hq
    .cases hq
    .cases hq
    .split at hq<;>cases hq
    .rename_i e hs hd
     split at hq
     .rename_i he _ _
      split at hc
      .cases hv:E6 C U x with
       |none=>rw[hv] at hc;cases hc
       |some v=>
        rw[hv] at hc;cases hc
        obtain⟨u,h1,rfl⟩:=Ga
        exact(Z7 ho hs hd he hv h1 hr).wp j
      .obtain⟨args,ha,rfl⟩:=DZ hc
       obtain⟨u,h1,rfl,rfl⟩:=Ga
       obtain⟨v,rfl,_⟩:=GN hr ha
       exact(sg ho hs hd he ha h1 hr).wp j
     .cases hq
    .cases hq
   .rename_i p M2 SO hq
    have sr:=HD hc
    unfold VQ at hq
    split at hq
    .cases hq;cases sr
    .cases hq;cases sr
    .cases hq
    .split at hq
     .cases hq;exact absurd rfl M2
     .cases hq
    .split at hq
     .cases hq;exact absurd rfl SO
     .cases hq
    .cases hq
   .cases hc
  .rename_i fn first captured ho
   split at hc
   .rename_i d as bs fz hd ha hb
    cases hc
    obtain⟨rfl,rfl⟩:=Ga
    exact(eS ho hd ha hb hr).wp j
   .cases hc
  .rename_i t ho
   cases hc
   obtain⟨rfl,rfl⟩:=Ga
   exact(e_ ho hr).wp j
  .rename_i t l c ho
   split at hc
   .rename_i e ht
    split at hc
    .rename_i n b z V vc hn hb hz hl Vk
     cases hc
     obtain⟨v,h1,rfl⟩:=Ga
     exact(ew ho ht hn hb hz hl Vk h1 hr).wp j
    .cases hc
   .cases hc
  .rename_i t m k x ho
   split at hc
   .rename_i kt e ht
    split at hc
    .rename_i D E I hd hk ha
     cases hc
     obtain⟨h1,rfl⟩:=Ga
     exact(eW (.inl ho) hd ht hk ha h1 hr).wp j
    .rename_i D E I hd hk ha
     cases hc
     obtain⟨v,h1,rfl⟩:=Ga
     exact(fD (.inl ho) hd ht hk ha h1 hr).wp j
    .cases hc
   .cases hc
  .rename_i t m k x ho
   split at hc
   .rename_i kt e ht
    split at hc
    .rename_i D E I hd hk ha
     cases hc
     obtain⟨h1,rfl⟩:=Ga
     exact(eW (.inr ho) hd ht hk ha h1 hr).wp j
    .rename_i D E I hd hk ha
     cases hc
     obtain⟨v,h1,rfl⟩:=Ga
     exact(fD (.inr ho) hd ht hk ha h1 hr).wp j
    .cases hc
   .cases hc
  .rename_i t m k ok ho
   split at hc
   .rename_i kt e ht
    split at hc
    .rename_i z D E hk hz ha
     cases hc
     obtain⟨v,h1,rfl,rfl⟩:=Ga
     exact(fc ho ht hk hz ha h1 hr).wp j
    .rename_i z D E hk hz ha
     cases hc
     obtain⟨v,h1,rfl⟩:=Ga
     exact(fw ho ht hk hz ha h1 hr).wp j
    .cases hc
   .cases hc
  .rename_i t x lo hi mx ho
   split at hc
   .rename_i e ht
    split at hc
    .rename_i n hn
     obtain⟨args,ha,rfl⟩:=Hr hc
     obtain⟨v,h1,rfl⟩:=Ga
     simp only[E5] at h1
     split at h1
     .rename_i J
      cases h1
      exact(fq ho ht hn ha J hr).wp j
     .cases h1
    .cases hc
   .cases hc
  .rename_i t x ho
   split at hc
   .cases hc
   .rename_i u hu ht
    obtain⟨args,ha,rfl⟩:=Hr hc
    obtain⟨v,h1,rfl⟩:=Ga
    obtain⟨y,rfl,_⟩:=GN hr ha
    cases h1
    exact(fu ho ht (λi e=>hu i e) ha hr).wp j
   .cases hc
  .rename_i t m k ho
   split at hc
   .rename_i kt e ht
    split at hc
    .rename_i z hk hz
     obtain⟨args,ha,rfl⟩:=Hr hc
     obtain⟨v,h1,rfl⟩:=Ga
     obtain⟨A,B,rfl,_,_⟩:=Ff hr ha
     exact(lA ho ht hk hz ha h1 hr).wp j
    .rename_i z hk hz
     obtain⟨args,ha,rfl⟩:=Hr hc
     obtain⟨v,h1,rfl⟩:=Ga
     obtain⟨A,B,rfl,_,_⟩:=Ff hr ha
     exact(lB ho ht hk hz ha h1 hr).wp j
    .cases hc
   .cases hc
  .rename_i t m s x ho
   split at hc
   .rename_i hd
    obtain⟨args,ha,rfl⟩:=Hr hc
    obtain⟨v,h1,rfl⟩:=Ga
    obtain⟨A,B,H,rfl⟩:∃A B H,args=[A,B,H]:=by
     have:=DY hr ha
     cases args with
     |nil=>cases h1
     |cons A l1=>cases l1 with
      |nil=>cases h1
      |cons B S=>cases S with
       |nil=>cases h1
       |cons H l3=>cases l3 with
        |nil=>exact⟨_,_,_,rfl⟩
        |cons _ _=>cases h1
    exact(lC ho hd ha h1 hr).wp j
   .cases hc
  .rename_i t x lo hi ho
   split at hc
   .cases HD hc
   .rename_i e ht
    split at hc
    .rename_i n hn
     split at hc
     .obtain⟨args,ha,rfl⟩:=Hr hc
      obtain⟨v,h1,rfl⟩:=Ga
      cases args with
      |nil=>cases h1
      |cons y l=>exact(fm ho ht hn ha h1 hr).wp j
     .cases HD hc
    .cases hc
   .cases hc
  .rename_i t x f ho
   split at hc
   .rename_i off sh d hf hd
    split at hc
    .rename_i s ver cs ow hs
     cases hc
     obtain⟨rfl,rfl⟩:=PU Ga
     have he:=Wm hr hs
     exact Jk (w':=w) (v:= .pointer (some ⟨O s,off,none⟩)) (by simp only[execOp,ho,he];exact EZ (by rw[Np hf];simp)) (j _ _ _ _ (by rw[hd];exact hr.put (d:=some d) λ_ _=>rfl))
    .rename_i s k hs
     cases hc
     obtain⟨rfl,rfl⟩:=PU Ga
     have he:=TT hr hs
     exact Jk (w':=w) (v:= .pointer (some ⟨O s,k+off,none⟩)) (by simp only[execOp,ho,he];exact EZ (Np hf _ _)) (j _ _ _ _ (by rw[hd];exact hr.put (d:=some d) λ_ _=>rfl))
    .cases HD hc
   .cases hc
  .split at hc
   .cases HD hc
   .cases hc
  .split at hc
   .split at hc
    .cases HD hc
    .cases hc
   .split at hc
    .split at hc
     .cases hc
     .cases HD hc
    .cases hc
   .cases hc
  .split at hc
   .cases HD hc
   .split at hc
    .cases HD hc
    .cases hc
   .cases hc
  .cases HD hc
  .rename_i c ho
   unfold QM at hc
   split at hc
   .split at hc
    .split at hc
     .cases HD hc
     .cases HD hc
     .cases hc
    .cases hc
   .rename_i hcl
    split at hc
    .rename_i t t' s x h0 h1 ES
     split at hc
     all_goals first
      |(cases hc;done)
      | (rename_i e _ ht Gg
         split at hc
         . rename_i n b hn hb
           split at hc
           . rename_i dR
             split at hc
             . rename_i v u ha
               split at hc
               . rename_i FG
                 split at hc
                 . cases hc
                   obtain ⟨r', q, rfl⟩ := Ga
                   exact (xM ho hcl h0 h1 ES ht (by first | exact .inl ⟨_, Gg⟩ | exact .inr Gg) hn hb FG dR ha q hr).wp j
                 . split at hc
                   . cases hc
                     obtain ⟨r', q, rfl, rfl⟩ := Ga
                     exact (eU ho hcl h0 h1 ES ht (by first | exact .inl ⟨_, Gg⟩ | exact .inr Gg) hn hb FG dR ha q hr).wp j
                   . cases hc
                     obtain ⟨r', q, rfl, rfl⟩ := Ga
                     exact (kW ho hcl h0 h1 ES ht (by first | exact .inl ⟨_, Gg⟩ | exact .inr Gg) hn hb FG dR ha q hr).wp j
               . split at hc
                 . cases hc
                   obtain ⟨r', q, rfl⟩ := Ga
                   exact (fh ho hcl h0 h1 ES ht (by first | exact .inl ⟨_, Gg⟩ | exact .inr Gg) hn hb dR ha q hr).wp j
                 . cases hc
             . cases hc
           . cases hc
         . cases hc)
    .cases hc
   .rename_i hcl
    split at hc
    .rename_i t t' s x h0 h1 ES
     split at hc
     all_goals first
      |(cases hc;done)
      | (rename_i e _ ht Gg
         split at hc
         . rename_i n hn
           obtain ⟨args, ha, rfl⟩ := Hr hc
           obtain ⟨v, q, rfl⟩ := Ga
           obtain ⟨A, B, rfl, _, _⟩ := Ff hr ha
           exact (fk ho hcl h0 h1 ES ht (by first | exact .inl ⟨_, Gg⟩ | exact .inr Gg) hn ha q hr).wp j
         . cases hc)
    .cases hc
   .rename_i hcl
    split at hc
    .rename_i t s h0 ES
     split at hc
     .rename_i e ht
      split at hc
      .rename_i n z hn hz
       obtain⟨args,ha,rfl⟩:=Hr hc
       obtain⟨v,q,rfl⟩:=Ga
       obtain⟨A,rfl,_⟩:=GN hr ha
       exact(xP ho hcl h0 ES ht hn hz ha q hr).wp j
      .cases hc
     .cases hc
    .cases hc
   .split at hc
    .cases HD hc
    .cases hc
   .split at hc
    .cases HD hc
    .cases hc
   .rename_i f hcl
    split at hc
    .rename_i hf
     split at hc
     .rename_i s i x ES
      split at hc
      .rename_i FG
       obtain⟨args,ha,rfl⟩:=Hr hc
       obtain⟨v,q,rfl⟩:=Ga
       exact sj G ho hcl hf ES FG ha q hr λγ' v w' F0=>j _ _ _ _ F0
      .cases hc
     .cases hc
    split at hc
    rotate_left
    .cases hc
    rename_i TQ
    rw[<-TQ] at hcl
    cases ha:BC C U c.args.toList with
    |none=>rw[ha] at hc;cases hc
    |some args=>
     rw[ha] at hc
     simp only[Cc,BE] at hc
     split at hc
     .cases hc
      obtain⟨Hn,M,h1,h2,q,rfl,rfl⟩:=Ga
      exact xI G ho hcl ha Hn h2 q hr λγ' v w' F0=>j _ _ _ _ F0
     .cases hc
      obtain⟨M,h1,rfl⟩:=Ga
      exact ez G ho hcl ha h1 hr λγ' v w' F0=>j _ _ _ _ F0
   .rename_i g hn hcl
    split at hc
    .rename_i W args hg ha
     cases hc
     obtain⟨f,args',M,h0,h1,rfl⟩:=Ga
     exact xJ G ho hcl hg ha h0 h1 hr λγ' v w' F0=>j _ _ _ _ F0
    .cases hc
   .cases hc
  .cases hc
end
end Go.Am
end
section
namespace Go.Am
open Go
section
variable{C:FZ}{U Z:BW}{fid:FuncId}{ops:List Oper}
def Z9{x:Operand}(h:∀t,x= .tmp t->Z.at t=U.at t):Ed C Z x=Ed C U x:=by
 cases x with
 |tmp t=>simp only[Ed,h t rfl]
 |const v=>
  cases v with
  |slice a b c=>cases a<;>cases b<;>cases c<;>rfl
  |_=>rfl
 |global g=>rfl
 |func f=>rfl
def Vm(C:FZ)(U Z:BW)(xs:List Operand):Prop:=∀x∈xs,Ed C Z x=Ed C U x
def Vm.pY{xs:List Operand}(h:∀t∈J7 xs,Z.at t=U.at t):Vm C U Z xs:=λx hx=>Z9 λt ht=>h t (by subst ht;exact Ck.2 ⟨_,hx,rfl⟩)
def Vm.val{xs:List Operand}(h:Vm C U Z xs){x:Operand}(hx:x∈xs):E6 C Z x=E6 C U x:=by unfold E6;rw[h x hx]
def Vm.KF{xs:List Operand}(h:Vm C U Z xs):∀{ys:List Operand},(∀y∈ys,y∈xs)->BC C Z ys=BC C U ys
 |[],_=>rfl
 |y::ys,hy=>by unfold BC;rw[h.val (hy y AK),h.KF λz hz=>hy z (by simp[hz])]
def Vm.move{xs:List Operand}(h:Vm C U Z xs){x:Operand}(hx:x∈xs)(d:Nat)(take:Bool):KC C Z x d take=KC C U x d take:=by unfold KC;rw[h x hx]
def Vm.Bw{xs:List Operand}(h:Vm C U Z xs){x:Operand}(hx:x∈xs):K0 C Z x=K0 C U x:=by unfold K0;rw[h x hx]
def Vm.DO{xs:List Operand}(h:Vm C U Z xs){x:Operand}(hx:x∈xs):Dk Z x=Dk U x:=by
 cases x with
 |tmp t=>have:=h _ hx;simp only[Ed,BE] at this;simp only[Dk,this]
 |_=>rfl
def Vm.Gk{xs:List Operand}(h:Vm C U Z xs):∀{ys:List Operand},(∀y∈ys,y∈xs)->Am.Gk C Z ys=Am.Gk C U ys
 |[],_=>rfl
 |y::ys,hy=>by unfold Am.Gk;rw[h y (hy y AK),h.Gk λz hz=>hy z (by simp[hz])]
def Vm.addr{xs:List Operand}(h:Vm C U Z xs){x:Operand}(hx:x∈xs)(hb:∀s∈(NV C U x).toList,Z.at s=U.at s)(hn:Gj C U x≠none):Gj C Z x=Gj C U x:=by
 have NS:=h x hx;cases hs:Ed C U x with
 |none=>unfold Gj at hn;rw[hs] at hn;exact absurd (by split<;>simp_all) hn
 |some sl=>
  rw[hs] at NS;cases sl with
  |Fl s o=>
   have h1:∀J:BW,Ed C J x=some (.Fl s o)->Gj C J x=match J.at s with| .box ver cs ow=>some (.OY s o ver cs ow)|_=>none:=λJ b=>by unfold Gj;rw[b];cases x<;>rfl
   rw[h1 U hs] at hn⊢;rw[h1 Z NS];have h2:s∈(NV C U x).toList:=by
    unfold NV;rw[h1 U hs];cases QQ:U.at s with
    |box ver cs ow=>simp
    |_=>rw[QQ] at hn;exact absurd rfl hn
   rw[hb s h2]
  |_=>unfold Gj;rw[hs,NS];cases x<;>rfl
def Vm.load{xs:List Operand}(h:Vm C U Z xs){x:Operand}(hx:x∈xs)(hb:∀s∈(NV C U x).toList,Z.at s=U.at s){t:TypeId}{d:Nat}{take:Bool}{r:EO}(hc:Lt C U t x d take=some r):Lt C Z t x d take=some r:=by
 have hn:Gj C U x≠none:=λhe=>by unfold Lt at hc;rw[he] at hc;split at hc<;>simp_all
 unfold Lt at hc⊢;rw[h.addr hx hb hn];exact hc
def Vm.store{xs:List Operand}(h:Vm C U Z xs){x y:Operand}(hx:x∈xs)(hy:y∈xs)(hb:∀s∈(NV C U x).toList,Z.at s=U.at s){t:TypeId}{r:EO}(hc:Jw C U t x y=some r):Jw C Z t x y=some r:=by
 have hn:Gj C U x≠none:=λhe=>by unfold Jw at hc;rw[he] at hc;split at hc<;>simp_all
 unfold Jw at hc⊢;rw[h.addr hx hb hn,h.val hy,h.Bw hy,h.DO hy];exact hc
def Vm.call{c:Call}(h:Vm C U Z c.operands.toList)(dst:Option Nat):QM C fid Z c dst=QM C fid U c dst:=by
 have ha:∀y∈c.args.toList,y∈c.operands.toList:=λy hy=>by unfold Call.operands;rw[GU];exact BY _ hy
 have hv:BC C Z c.args.toList=BC C U c.args.toList:=h.KF ha;unfold QM;split;.rw[hv]
 .split
  .rename_i ES;have h1:∀{s x:Operand},c.args.toList=[s,x]->K0 C Z s=K0 C U s/\Dk Z s=Dk U s/\BC C Z [s,x]=BC C U [s,x]:=λ{s x} he=>by rw[he] at ha;exact⟨h.Bw (ha s AK),h.DO (ha s AK),h.KF λy hy=>ha y hy⟩
   obtain⟨e,d,b⟩:=h1 ES;rw[e,d,b]
  .rfl
 .split;.rename_i ES;rw[ES] at ha;rw[h.KF λy hy=>ha y hy]
  .rfl
 .split;.rename_i ES;rw[ES] at ha;rw[h.KF λy hy=>ha y hy]
  .rfl
 .rw[hv]
 .rw[hv]
 .split
  .split;.rename_i s i v ES;rw[ES] at ha;rw[h.Bw (ha v AK),h.KF λy hy=>ha y hy]
   .rfl
  .rw[hv]
 .rename_i g _ hcl;have hg:g∈c.operands.toList:=by unfold Call.operands;rw[hcl];simp
  rw[hv,h.val hg]
 .rfl
def Wn{o:Oper}{r:EO}(hc:Gl C fid ops U o=some r)(ht:∀t∈J7 o.op.operands.toList,Z.at t=U.at t)(hb:∀s∈H6 C U o,Z.at s=U.at s):Gl C fid ops Z o=some r:=by
 have h:Vm C U Z o.op.operands.toList:= .pY ht
 unfold Gl at hc⊢
 cases ho:o.op with
 |move x=>
  rw[ho] at h
  simp only[ho] at hc⊢
  have:=λd=>h.move (x:=x) IU d
  simpa only[this] using hc
 |assign x=>
  rw[ho] at h
  simp only[ho] at hc⊢
  have:=λd=>h.move (x:=x) IU d
  simpa only[this] using hc
 |pick c a b=>
  rw[ho] at h
  simp only[ho] at hc⊢
  have h1:=λd=>h.move (x:=a) IU d
  have h2:=λd=>h.move (x:=b) IU d
  rw[h c IU,h.KF (ys:=[c,a,b]) IU]
  simpa only[h1,h2] using hc
 |alloc t=>rw[ho] at hc;exact hc
 |box t x=>
  rw[ho] at h
  simp only[ho] at hc⊢
  rw[h.val (x:=x) IU]
  exact hc
 |build t parts=>
  rw[ho] at h
  simp only[ho] at hc⊢
  rw[h.KF (ys:=parts.toList.map (·.2)) IU]
  exact hc
 |buildSlice t len parts=>
  rw[ho] at h
  simp only[ho] at hc⊢
  rw[h.KF (ys:=parts.toList.map (·.2)) IU]
  exact hc
 |load t x=>
  rw[ho] at h
  simp only[ho] at hc⊢
  split at hc
  .exact h.load IU (λs hs=>hb s (by simpa only[H6,ho] using hs)) hc
  .cases hc
 |store t x y=>
  rw[ho] at h
  simp only[ho] at hc⊢
  split at hc
  .exact h.store IU IU (λs hs=>hb s (by simpa only[H6,ho] using hs)) hc
  .cases hc
 |nilCheck x=>
  rw[ho] at h
  simp only[ho] at hc⊢
  have e:=h.KF (ys:=[x]) IU
  rw[h x IU]
  cases hs:Ed C U x with
  |none=>rw[hs] at hc;cases x<;>cases hd:o.dst<;>rw[hd] at hc<;>first|exact hc|(show SU _ _ (BC C Z [_])=some r;rw[e];exact hc)
  |some sl=>rw[hs] at hc;cases sl<;>cases x<;>cases hd:o.dst<;>rw[hd] at hc<;>first|exact hc|(show SU _ _ (BC C Z [_])=some r;rw[e];exact hc)
 |binOp op t x y k=>
  rw[ho] at h
  simp only[ho] at hc⊢
  rw[h.KF (ys:=[x,y]) IU]
  exact hc
 |unOp op t x=>
  rw[ho] at h
  simp only[ho] at hc⊢
  rw[h.KF (ys:=[x]) IU]
  exact hc
 |convert src dst x=>
  rw[ho] at h
  simp only[ho] at hc⊢
  rw[h.KF (ys:=[x]) IU,h.val (x:=x) IU]
  exact hc
 |makeFunc fn first captured=>
  rw[ho] at h
  simp only[ho] at hc⊢
  rw[h.KF (ys:=first.toList) (λ_ hm=>by simp[Op.operands,hm]),h.Gk (ys:=captured.toList) (λ_ hm=>by simp[Op.operands,hm])]
  exact hc
 |makeMap t r'=>
  rw[ho] at hc
  cases r' with
  |none=>exact hc
  |some _=>cases hc
 |makeSlice t l c=>
  rw[ho] at h
  simp only[ho] at hc⊢
  rw[h.val (x:=l) IU,h.val (x:=c) IU]
  exact hc
 |insert t m k v=>
  rw[ho] at h
  simp only[ho] at hc⊢
  rw[h.KF (ys:=[m,k,v]) IU]
  exact hc
 |mapUpdate t m k v=>
  rw[ho] at h
  simp only[ho] at hc⊢
  rw[h.KF (ys:=[m,k,v]) IU]
  exact hc
 |lookup t m k ok=>
  rw[ho] at h
  simp only[ho] at hc⊢
  rw[h.KF (ys:=[m,k]) IU]
  exact hc
 |slice t x lo hi mx=>
  rw[ho] at h hc
  cases mx with
  |none=>
   have e:=h.KF (ys:=x::(lo.toList++hi.toList)) (by cases lo<;>cases hi<;>simp[Op.operands])
   simp only at hc⊢
   rw[e]
   exact hc
  |some mx=>cases lo with
   |none=>cases hc
   |some lo=>cases hi with
    |none=>cases hc
    |some hi=>
     have e:=h.KF (ys:=[x,lo,hi,mx]) IU
     simp only at hc⊢
     rw[e]
     exact hc
 |makeInterface t x=>
  rw[ho] at h
  simp only[ho] at hc⊢
  rw[h.KF (ys:=[x]) IU]
  exact hc
 |mapEntry t m k=>
  rw[ho] at h
  simp only[ho] at hc⊢
  rw[h.KF (ys:=[m,k]) IU]
  exact hc
 |entryStore t m s v=>
  rw[ho] at h
  simp only[ho] at hc⊢
  rw[h.KF (ys:=[m,s,v]) IU]
  exact hc
 |fieldAddr t x f=>
  rw[ho] at h
  simp only[ho] at hc⊢
  have e:=h.KF (ys:=[x]) IU
  rw[h x IU]
  cases hf:Iu C.P t f with
  |none=>rw[hf] at hc;cases hc
  |some q=>
   rw[hf] at hc
   cases hd:o.dst with
   |none=>rw[hd] at hc;cases hc
   |some d=>
    rw[hd] at hc
    cases hs:Ed C U x with
    |none=>rw[hs] at hc;cases x<;>first|exact hc|(show SU _ _ (BC C Z [_])=some r;rw[e];exact hc)
    |some sl=>rw[hs] at hc;cases sl<;>cases x<;>first|exact hc|(show SU _ _ (BC C Z [_])=some r;rw[e];exact hc)
 |field t x f=>
  rw[ho] at h
  simp only[ho] at hc⊢
  rw[h.KF (ys:=[x]) IU]
  exact hc
 |indexAddr t x i=>
  rw[ho] at h
  simp only[ho] at hc⊢
  rw[h.KF (ys:=[x,i]) IU]
  exact hc
 |index t x i=>
  rw[ho] at h
  simp only[ho] at hc⊢
  rw[h.KF (ys:=[x,i]) IU]
  exact hc
 |extract x i=>
  rw[ho] at h
  simp only[ho] at hc⊢
  rw[h.KF (ys:=[x]) IU]
  exact hc
 |call c=>
  rw[ho] at h
  simp only[ho] at hc⊢
  rw[h.call]
  exact hc
 |_=>simp only[ho] at hc;cases hc
end
end Go.Am
end
section
namespace Go.Am
open Go
mutual
def Aa.beq_eq:∀{a b:Aa},Aa.beq a b=true->a=b
 | .bool a,b,h=>by cases b<;>simp[Aa.beq] at h⊢;exact h
 | .int k a,b,h=>by cases b<;>simp[Aa.beq] at h⊢;exact h
 | .str a,b,h=>by cases b<;>simp[Aa.beq] at h⊢;exact h
 | .ptr a,b,h=>by cases b<;>simp[Aa.beq] at h⊢;exact h
 | .Gb a,b,h=>by cases b<;>simp[Aa.beq] at h⊢;exact h
 | .Cq a,b,h=>by cases b<;>simp[Aa.beq] at h⊢;exact Aa.N7 h
 | .sl n a,b,h=>by cases b<;>simp[Aa.beq] at h⊢;exact⟨h.1,Aa.fE h.2⟩
 | .slnil,b,h=>by cases b<;>simp[Aa.beq] at h⊢
 | .CD a c d e,b,h=>by cases b<;>simp[Aa.beq] at h⊢;exact⟨h.1.1.1,h.1.1.2,h.1.2,h.2⟩
 | .map a,b,h=>by cases b<;>simp[Aa.beq] at h⊢;exact h
 | .func f a c,b,h=>by cases b<;>simp[Aa.beq] at h⊢;exact⟨h.1.1,Aa.N7 h.1.2,Aa.N7 h.2⟩
 | .nilFunc,b,h=>by cases b<;>simp[Aa.beq] at h⊢
 | .iface t a,b,h=>by cases b<;>simp[Aa.beq] at h⊢;exact⟨h.1,Aa.beq_eq h.2⟩
 | .nilIface,b,h=>by cases b<;>simp[Aa.beq] at h⊢
 | .agg a,b,h=>by cases b<;>simp[Aa.beq] at h⊢;exact Aa.N7 h
 | .tuple a,b,h=>by cases b<;>simp[Aa.beq] at h⊢;exact Aa.N7 h
def Aa.N7:∀{a b:List Aa},Aa.Ro a b=true->a=b
 |[],b,h=>by cases b<;>simp[Aa.Ro] at h⊢
 |a::x,b,h=>by
  cases b with
  |nil=>simp[Aa.Ro] at h
  |cons c y=>simp[Aa.Ro] at h⊢;exact⟨Aa.beq_eq h.1,Aa.N7 h.2⟩
def Aa.fE:∀{a b:List (List Aa)},Aa.Rp a b=true->a=b
 |[],b,h=>by cases b<;>simp[Aa.Rp] at h⊢
 |a::x,b,h=>by
  cases b with
  |nil=>simp[Aa.Rp] at h
  |cons c y=>simp[Aa.Rp] at h⊢;exact⟨Aa.N7 h.1,Aa.fE h.2⟩
end
def BW.JS(U:BW):∀(a b:List (Nat×Er)),U.Ej (a++b)=(U.Ej a).Ej b
 |[],_=>rfl
 |(s,x)::a,b=>BW.JS (U.set s x) a b
def BW.JT:∀(ws:List (Nat×Er)) (U:BW),(U.Ej ws).length=U.length
 |[],_=>rfl
 |(s,x)::ws,U=>by rw[BW.Ej,BW.JT ws];simp
def BW.Wo(U:BW)(s t:Nat)(x:Er):BW.at (U.set s x) t=if s=t/\t<U.length then x else U.at t:=by
 by_cases h:s=t
 .subst h;by_cases hl:s<U.length;.simp[BW.at,List.getD,hl]
  .simp[BW.at,List.getD,hl]
 .simp[BW.at,List.getD,Ao h,h]
def BW.GO:∀(ws:List (Nat×Er)) (U:BW) (t:Nat),(∀p∈ws,p.1≠t)->(U.Ej ws).at t=U.at t
 |[],_,_,_=>rfl
 |(s,x)::ws,U,t,h=>by rw[BW.Ej,BW.GO ws _ t λp hp=>h p (by simp[hp]),BW.Wo,Ac];exact λe=>h (s,x) AK e.1
def BW.Wp:∀(ws:List (Nat×Er)) (U:BW) (t:Nat),(U.Ej ws).at t=U.at t\/∃p∈ws,p.1=t/\(U.Ej ws).at t=p.2
 |[],_,_=> .inl rfl
 |(s,x)::ws,U,t=>by
  rcases BW.Wp ws (U.set s x) t with h|⟨p,hp,h1,h2⟩
  .rw[BW.Wo] at h;by_cases hc:s=t/\t<U.length;.rw[Ae hc] at h;exact .inr ⟨(s,x),AK,hc.1,h⟩
   .rw[Ac hc] at h;exact .inl h
  .exact .inr ⟨p,by simp[hp],h1,h2⟩
def BW.Jl:∀(ws:List (Nat×Er)) (U Z:BW) (t:Nat),Z.length=U.length->Z.at t=U.at t->(Z.Ej ws).at t=(U.Ej ws).at t
 |[],_,_,_,_,h=>h
 |(s,x)::ws,U,Z,t,hl,h=>by refine BW.Jl ws _ _ t (by simpa using hl) ?_;rw[BW.Wo,BW.Wo,hl,h]
def BW.ext{U Z:BW}(hl:Z.length=U.length)(h:∀t,Z.at t=U.at t):Z=U:=by apply List.ext_getElem hl;intro i h1 h2;have:=h i;simpa[BW.at,List.getD,h1,h2] using this
def BW.xR{U:BW}{a b:List (Nat×Er)}(h:∀p∈a,∀q∈b,p.1≠q.1):(U.Ej a).Ej b=(U.Ej b).Ej a:=by
 refine BW.ext (by simp[BW.JT]) λt=>?_;by_cases ha:∀p∈a,p.1≠t;.rw[BW.GO a (U.Ej b) t ha];exact BW.Jl b _ _ t (by simp[BW.JT]) (BW.GO a U t ha)
 .have⟨p,hp,c⟩:∃p∈a,p.1=t:=Classical.byContradiction λhn=>ha λp hp e=>hn ⟨p,hp,e⟩;have hb:∀q∈b,q.1≠t:=λq hq e=>h p hp q hq (by rw[c,e]);rw[BW.GO b (U.Ej a) t hb];exact(BW.Jl a _ _ t (by simp[BW.JT]) (BW.GO b U t hb)).symm
def N8{U:BW}{ds:List Nat}:MZ U ds=true↔∀x t o,U.at x= .Fl t o->t∉ds:=by
 unfold MZ;rw[DK];constructor
 .intro h x t o hx;by_cases hl:x<U.length;.have:=h (U.at x) (by simp[BW.at,List.getD,hl]);rw[hx] at this;simpa using this
  .simp[BW.at,List.getD,hl] at hx
 .intro h s hs;obtain⟨i,hi⟩:=CR hs;cases s with
  |Fl t o=>have:=h i t o (by simp[BW.at,List.getD,hi]);simpa using this
  |_=>rfl
def xS{a b:List Nat}:TK a b=true↔∃x,x∈a/\x∈b:=by simp[TK]
structure St where
 idx:Nat
 fp:FP
 fl:Option Kw
def KV(i:Nat)(r:EO)(U:BW):Option Kw:=
 match r with
 | .load n p (some d)=>match U.at d with
  | .val v=>some {idx:=i,n,p,v}
  |_=>none
 |_=>none
def Wq(i:Nat)(r:EO)(U:BW)(fl:List Kw):MI i r U fl=(KV i r U).toList++fl:=by
 cases r with
 |load n p dst=>
  cases dst with
  |none=>rfl
  |some d=>simp only[MI,KV];cases U.at d<;>rfl
 |_=>rfl
def Ym{i:Nat}{r:EO}{U Z:BW}(h:∀d∈r.wf,Z.at d=U.at d):KV i r Z=KV i r U:=by
 cases r with
 |load n p dst=>
  cases dst with
  |none=>rfl
  |some d=>simp only[KV];rw[h d (by simp[EO.wf])]
 |_=>rfl
def ML(d:Option Nat)(U U':BW):Prop:=
 match d with
 |none=>U'=U
 |some d=>match U.at d with
  | .val v=>∃b,v= .bool b/\U'=U.set d (.OM b)
  |_=>U'=U
section
variable{C:FZ}{fid:FuncId}{ops:List Oper}{run:IT->Ah->Option J1}{U Z U':BW}{h h':Ah}
def Pb(C:FZ)(fid:FuncId)(ops:List Oper)(run:IT->Ah->Option J1)(s:St)(U:BW)(h:Ah)(U':BW)(h':Ah):Prop:=
 ∃o,ops[s.idx]?=some o/\
  ((IP ops U o = .Ng false /\ s.fp = Uz C ops U o none /\ s.fl = none /\ U' = U.put o.dst .skip /\ h' = h) \/
   ∃ r U1, IP ops U o = .Ng true /\ Gl C fid ops U o = some r /\ s.fp = Uz C ops U o (some r) /\ r.Nj C run (U.drop r.news) h U1 h' /\ s.fl = KV s.idx r U1 /\
     ML (if Rw ops s.idx then o.dst else none) U1 U')
def Ws(U:BW)(d:Option Nat)(x:Er):U.put d x=U.Ej (d.toList.map λs=>(s,x)):=by cases d<;>rfl
def xT(U:BW)(d:Option (Nat×Aa)):U.DO d=U.Ej (d.toList.map λp=>(p.1,.val p.2)):=by cases d<;>rfl
def Y1{r:EO}(hd:r.Nj C run U h U' h'):∃ws,U'=U.Ej ws/\(∀p∈ws,p.1∈r.wf)/\(∀p∈ws,∀t o,p.2= .Fl t o->t∈r.pD)/\∀Z,r.Nj C run Z h (Z.Ej ws) h':=by
 have one:∀(d:Option Nat) (x:Er),(∀t o,x≠ .Fl t o)->U'=U.put d x->d.toList⊆r.wf->(∀Z,r.Nj C run Z h (Z.put d x) h')->
   ∃ws,U'=U.Ej ws/\(∀p∈ws,p.1∈r.wf)/\(∀p∈ws,∀t o,p.2= .Fl t o->t∈r.pD)/\∀Z,r.Nj C run Z h (Z.Ej ws) h':=by
  intro d x hx he hw ht;refine⟨d.toList.map λs=>(s,x),by rw[<-Ws];exact he,λp hp=>?_,λp hp t o hl=>?_,λZ=>by rw[<-Ws];exact ht Z⟩;.obtain⟨s,hs,rfl⟩:=Bl.1 hp;exact hw hs
  .obtain⟨s,hs,rfl⟩:=Bl.1 hp;exact absurd hl (hx t o)
 have eI:∀(i:Option (Nat×Aa)) (d:Option Nat) (x:Er),(∀t o,x≠ .Fl t o)->U'=(U.DO i).put d x->d.toList⊆r.wf->(i.map (·.1)).toList⊆r.wf->(∀Z,r.Nj C run Z h ((Z.DO i).put d x) h')->
   ∃ws,U'=U.Ej ws/\(∀p∈ws,p.1∈r.wf)/\(∀p∈ws,∀t o,p.2= .Fl t o->t∈r.pD)/\∀Z,r.Nj C run Z h (Z.Ej ws) h':=by
  intro i d x hx he hw f_ ht;have e:∀Z:BW,(Z.DO i).put d x=Z.Ej ((i.toList.map λp=>(p.1,.val p.2))++d.toList.map λs=>(s,x)):=λZ=>by rw[BW.JS,<-xT,<-Ws]
  refine⟨_,by rw[he,e],λp hp=>?_,λp hp t o hl=>?_,λZ=>by rw[<-e];exact ht Z⟩
  .rcases Av.1 hp with hp|hp
   .obtain⟨q,hq,rfl⟩:=Bl.1 hp;exact f_ (by cases i<;>simp_all)
   .obtain⟨s,hs,rfl⟩:=Bl.1 hp;exact hw hs
  .rcases Av.1 hp with hp|hp
   .obtain⟨q,hq,rfl⟩:=Bl.1 hp;cases hl
   .obtain⟨s,hs,rfl⟩:=Bl.1 hp;exact absurd hl (hx t o)
 cases r with
 |pure ws=>obtain⟨rfl,rfl⟩:=hd;refine⟨ws,rfl,λp hp=>Bl.2 ⟨p,hp,rfl⟩,λp hp t o hl=>?_,λZ=>⟨rfl,rfl⟩⟩;exact Ck.2 ⟨p.2,Bl.2 ⟨p,hp,rfl⟩,by rw[hl]⟩
 |op p args dst Bw i=>obtain⟨v,hv,rfl,rfl⟩:=hd;exact eI i dst _ (by cases Bw<;>simp) rfl (by simp[EO.wf]) (by simp[EO.wf]) λZ=>⟨v,hv,rfl,rfl⟩
 |box n v d=>obtain⟨hn,rfl,rfl⟩:=hd;exact one (some d) _ AK rfl (by simp[EO.wf]) λZ=>⟨hn,rfl,rfl⟩
 |closure fn x b fz d=>
  obtain⟨rfl,rfl⟩:=hd;refine⟨(fz.map λ(s,cs)=>(s,.val (.Cq cs)))++[(d,.val (.func fn x b))],by rw[BW.JS];rfl,λp hp=>?_,λp hp t o hl=>?_,λZ=>⟨by rw[BW.JS];rfl,rfl⟩⟩
  .rcases Av.1 hp with hp|hp
   .obtain⟨q,hq,rfl⟩:=Bl.1 hp;exact X0 _ (Bl.2 ⟨q,hq,rfl⟩)
   .simp at hp;subst hp;simp[EO.wf]
  .rcases Av.1 hp with hp|hp
   .obtain⟨q,hq,rfl⟩:=Bl.1 hp;cases hl
   .simp at hp;subst hp;cases hl
 |MY s off n v Bw i ver cells owned=>obtain⟨hn,rfl,rfl⟩:=hd;exact eI i (some s) _ AK rfl (by simp[EO.wf]) (by simp[EO.wf]) λZ=>⟨hn,rfl,rfl⟩
 |load n p dst=>obtain⟨v,hv,rfl,rfl⟩:=hd;exact one dst _ AK rfl (by simp[EO.wf]) λZ=>⟨v,hv,rfl,rfl⟩
 |store n p v=>obtain⟨hv,rfl⟩:=hd;exact one none .undef AK rfl AK λZ=>⟨hv,rfl⟩
 |alloc n v dst=>obtain⟨hn,rfl,rfl⟩:=hd;exact one dst _ AK rfl (by simp[EO.wf]) λZ=>⟨hn,rfl,rfl⟩
 |call f args dst=>obtain⟨v,hv,rfl⟩:=hd;exact one dst _ (by intro t o;split<;>simp) rfl (by simp[EO.wf]) λZ=>⟨v,hv,rfl⟩
 |Es g args dst=>obtain⟨f,x,v,h1,h2,rfl⟩:=hd;exact one dst _ AK rfl (by simp[EO.wf]) λZ=>⟨f,x,v,h1,h2,rfl⟩
 |Bk f args dst=>obtain⟨Hn,v,h1,h2,j,rfl,rfl⟩:=hd;exact one dst _ AK rfl (by simp[EO.wf]) λZ=>⟨Hn,v,h1,h2,j,rfl,rfl⟩
 |Nf dst=>obtain⟨rfl,rfl⟩:=hd;exact one dst _ AK rfl (by simp[EO.wf]) λZ=>⟨rfl,rfl⟩
 |HQ m k v=>obtain⟨hv,rfl⟩:=hd;exact one none .undef AK rfl AK λZ=>⟨hv,rfl⟩
 |L4 z ok m k dst=>obtain⟨v,hv,rfl,rfl⟩:=hd;exact one dst _ AK rfl (by simp[EO.wf]) λZ=>⟨v,hv,rfl,rfl⟩
 |make z b zero l c dst=>obtain⟨v,hv,rfl⟩:=hd;exact one dst _ AK rfl (by simp[EO.wf]) λZ=>⟨v,hv,rfl⟩
 |HR z b s x dst i=>obtain⟨v,hv,rfl⟩:=hd;exact eI i dst _ AK rfl (by simp[EO.wf]) (by simp[EO.wf]) λZ=>⟨v,hv,rfl⟩
 |FN z b s x dst=>obtain⟨v,hv,rfl⟩:=hd;exact one dst _ AK rfl (by simp[EO.wf]) λZ=>⟨v,hv,rfl⟩
 |GA z b s x dst i=>obtain⟨v,hv,rfl,rfl⟩:=hd;exact eI i dst _ AK rfl (by simp[EO.wf]) (by simp[EO.wf]) λZ=>⟨v,hv,rfl,rfl⟩
 |Fe s dst=>obtain⟨v,hv,rfl⟩:=hd;exact one dst _ AK rfl (by simp[EO.wf]) λZ=>⟨v,hv,rfl⟩
 |Ux s dst=>obtain⟨v,u,h1,h2,rfl⟩:=hd;exact one dst _ AK rfl (by simp[EO.wf]) λZ=>⟨v,u,h1,h2,rfl⟩
 |mem o args dst=>obtain⟨v,hv,rfl⟩:=hd;exact one dst _ (by intro t o';split<;>simp) rfl (by simp[EO.wf]) λZ=>⟨v,hv,rfl⟩
def S6{r:EO}(hd:r.Nj C run U h U' h')(he:r.Rl=false):h'=h/\
  (r.hl=false->∀h2,r.Nj C run U h2 U' h2)/\
  ∀n p d,r= .load n p (some d)->∃v,Bg h n p=some v/\U'=U.set d (.val v)/\∀h2,Bg h2 n p=some v->r.Nj C run U h2 U' h2:=by
 cases r<;>simp only[EO.Rl] at he<;>try(exact absurd he A5)
 case pure ws=>obtain⟨rfl,rfl⟩:=hd;exact⟨rfl,λ_ _=>⟨rfl,rfl⟩,AK⟩
 case op p args dst Bw g=>obtain⟨v,hv,rfl,rfl⟩:=hd;exact⟨rfl,λ_ _=>⟨v,hv,rfl,rfl⟩,AK⟩
 case box n v d=>obtain⟨hn,rfl,rfl⟩:=hd;exact⟨rfl,λ_ _=>⟨hn,rfl,rfl⟩,AK⟩
 case closure fn x b fz d=>obtain⟨rfl,rfl⟩:=hd;exact⟨rfl,λ_ _=>⟨rfl,rfl⟩,AK⟩
 case MY s off n v Bw g ver cells owned=>obtain⟨hn,rfl,rfl⟩:=hd;exact⟨rfl,λ_ _=>⟨hn,rfl,rfl⟩,AK⟩
 case load n p dst=>obtain⟨v,hv,rfl,rfl⟩:=hd;refine⟨rfl,λc=>absurd c (by simp[EO.hl]),λn' p' d he=>?_⟩;cases he;exact⟨v,hv,rfl,λh2 e=>⟨v,e,rfl,rfl⟩⟩
 case L4 z ok m k dst=>obtain⟨v,hv,rfl,rfl⟩:=hd;exact⟨rfl,λc=>absurd c (by simp[EO.hl]),AK⟩
 case Bk f args dst=>obtain⟨Hn,v,h1,h2,i,rfl,rfl⟩:=hd;exact⟨rfl,λ_ _=>⟨Hn,v,h1,h2,i,rfl,rfl⟩,AK⟩
def TU{ds:List Nat}(hn:MZ U ds=true):U.drop ds=U:=by
 refine BW.ext (BW.length_drop U ds) λt=>?_;rw[BW.RG];cases hx:U.at t with
 |Fl t' o=>have:=N8.1 hn t t' o hx;simp[this]
 |_=>rfl
def Qq{o:Oper}(h:∀t∈FD ops o,Z.at t=U.at t):IP ops Z o=IP ops U o:=by
 unfold IP;unfold FD at h;cases hg:o.guard with
 |none=>rfl
 |some g=>
  obtain⟨j,want⟩:=g;rw[hg] at h;simp only at h⊢;cases hd:(ops[j]?).bind (·.dst) with
  |none=>rfl
  |some s=>
   rw[hd] at h;simp only
   rw[h s AK]
def UJ{o:Oper}{r:EO}(hc:Gl C fid ops U o=some r)(ht:∀t∈J7 o.op.operands.toList,Z.at t=U.at t)(hb:∀s∈H6 C U o,Z.at s=U.at s):H6 C Z o=H6 C U o:=by
 have h:Vm C U Z o.op.operands.toList:= .pY ht
 unfold H6 at hb⊢
 cases ho:o.op with
 |load t x=>
  rw[ho] at h hb
  simp only at hb⊢
  have hn:Gj C U x≠none:=λhe=>by
   unfold Gl at hc
   simp only[ho] at hc
   split at hc
   .unfold Lt at hc;rw[he] at hc;split at hc<;>simp_all
   .cases hc
  unfold NV
  rw[h.addr IU hb hn]
 |store t x y=>
  rw[ho] at h hb
  simp only at hb⊢
  have hn:Gj C U x≠none:=λhe=>by
   unfold Gl at hc
   simp only[ho] at hc
   split at hc
   .unfold Jw at hc;rw[he] at hc;split at hc<;>simp_all
   .cases hc
  unfold NV
  rw[h.addr IU hb hn]
 |_=>rfl
def TV{xs:List Er}{t o:Nat}(h: .Fl t o∈xs):t∈Vg xs:=Ck.2 ⟨_,h,rfl⟩
def Pb.spec{s:St}(hs:Pb C fid ops run s U h U' h')(hf:s.fp.SY=true):
  ∃ws,U'=U.Ej ws/\(∀p∈ws,p.1∈s.fp.wf)/\(∀p∈ws,∀t o,p.2= .Fl t o->t∈s.fp.lr)/\(∀x∈s.fp.wf,∀t o,U.at x= .Fl t o->t∈s.fp.lr)/\MZ U s.fp.news=true/\(s.fp.Rl=false->h'=h)/\
   (s.fp.Rl=false->s.fp.hl=true->∃f,s.fl=some f)/\
   ∀(Z:BW) (h2 Y2:Ah),Z.length=U.length->(∀x∈s.fp.rs++s.fp.wf,Z.at x=U.at x)->MZ Z s.fp.news=true->
    ((h2=h/\Y2=h')\/(s.fp.Rl=false/\Y2=h2/\(s.fp.hl=true->∀f,s.fl=some f->Bg h2 f.n f.p=some f.v)))->Pb C fid ops run s Z h2 (Z.Ej ws) Y2:=by
 obtain⟨o,ho,⟨hg,j,Hn,rfl,rfl⟩|⟨r,U1,hg,hc,j,hd,Hn,ha⟩⟩:=hs
 .rw[j] at hf⊢;refine⟨o.dst.toList.map λd=>(d,.skip),Ws _ _ _,λp hp=>?_,λp hp t k hl=>?_,λx hx t k hl=>?_,N8.2 (by simp[Uz]),λ_=>rfl,λ_ i=>absurd i (by simp[Uz]),λZ h2 Y2 hlen gd _ I6=>?_⟩;.obtain⟨d,hd,rfl⟩:=Bl.1 hp;exact hd
  .obtain⟨d,hd,rfl⟩:=Bl.1 hp;cases hl
  .exact TV (o:=k) (Bl.2 ⟨x,hx,hl⟩)
  .have i:Y2=h2:=by rcases I6 with⟨A,z⟩|⟨_,e,_⟩<;>first|exact e|rw[A,z]
   refine⟨o,ho,.inl ⟨?_,?_,Hn,(Ws _ _ _).symm,i⟩⟩;.rw[Qq λt ht=>gd t (CC _ ht)];exact hg
   .rw[j];have e:o.dst.toList.map Z.at=o.dst.toList.map U.at:=YI λx hx=>gd x (BY _ hx);simp only[Uz,e]
 .rw[j] at hf⊢;have gg:r.SY U=true:=hf;have OC:MZ U r.news=true:=by unfold EO.SY at gg;rw[Bx] at gg;exact gg.1
  rw[TU OC] at hd;obtain⟨gh,rfl,hw,y,ZT⟩:=Y1 hd;have aMs:∃g:List (Nat×Er),U'=(U.Ej gh).Ej g/\(∀p∈g,o.dst=some p.1/\∃b,p.2= .OM b)/\∀Z:BW,Z.length=U.length->(∀x∈r.wf++o.dst.toList,Z.at x=U.at x)->ML (if Rw ops s.idx then o.dst else none) (Z.Ej gh) ((Z.Ej gh).Ej g):=by
   by_cases c:Rw ops s.idx=true
   .rw[Ae c] at ha;cases RO:o.dst with
    |none=>rw[RO] at ha;exact⟨[],ha,AK,λZ _ _=>by simp[c,ML,BW.Ej]⟩
    |some d=>
     rw[RO] at ha;simp only[ML] at ha;have Ĩ:∀Z:BW,Z.length=U.length->(∀x∈r.wf++[d],Z.at x=U.at x)->(Z.Ej gh).at d=(U.Ej gh).at d:=λZ hl gd=>BW.Jl gh U Z d hl (gd d AK);cases hx:(U.Ej gh).at d with
     |val v=>rw[hx] at ha;obtain⟨b,rfl,rfl⟩:=ha;refine⟨[(d,.OM b)],rfl,AK,λZ hl gd=>?_⟩;simp only[c,BT,ML];rw[Ĩ Z hl gd,hx];exact⟨b,rfl,rfl⟩
     |_=>rw[hx] at ha;refine⟨[],ha,AK,λZ hl gd=>?_⟩;simp only[c,BT,ML];rw[Ĩ Z hl gd,hx];rfl
   .rw[Ac c] at ha;exact⟨[],ha,AK,λZ _ _=>by rw[Ac c];rfl⟩
  obtain⟨g,rfl,f_,aFp⟩:=aMs;have q:r.hl=true->∃n p d,r= .load n p (some d)/\d<U.length:=λi=>by
   unfold EO.SY at gg;rw[Bx] at gg;cases r with
   |load n p dst=>
    cases dst with
    |none=>exact absurd gg.2 AK
    |some d=>exact⟨n,p,d,rfl,by simpa using gg.2⟩
   |L4 _ _ _ _ _=>exact absurd gg.2 AK
   |_=>simp[EO.hl] at i
  have aFq:r.Rl=false->∀n p d,r= .load n p (some d)->d<U.length->∃v,Bg h n p=some v/\s.fl=some {idx:=s.idx,n,p,v}:=by intro he n p d hr jR;obtain⟨v,u,m,_⟩:=(S6 hd he).2.2 n p d hr;refine⟨v,u,?_⟩;rw[Hn,hr];simp only[KV];rw[m,BW.Fv jR]
  have aMt:∀(Z:BW) h2 Y2,((h2=h/\Y2=h')\/(r.Rl=false/\Y2=h2/\(r.hl=true->∀f,s.fl=some f->Bg h2 f.n f.p=some f.v)))->r.Nj C run Z h2 (Z.Ej gh) Y2:=by
   intro Z h2 Y2 I6;rcases I6 with⟨rfl,rfl⟩|⟨he,rfl,TQ⟩
   .exact ZT Z
   .obtain⟨_,F,E⟩:=S6 (ZT Z) he;cases i:r.hl with
    |false=>exact F i _
    |true=>obtain⟨n,p,d,hr,jR⟩:=q i;obtain⟨v,u,m⟩:=aFq he n p d hr jR;obtain⟨v',B,_,D⟩:=E n p d hr;rw[u] at B;cases B;exact D _ (TQ i _ m)
  refine⟨gh++g,by rw[BW.JS],λp hp=>?_,λp hp t k hl=>?_,λx hx t k hl=>?_,OC,λhe=>(S6 hd he).1,λhe i=>?_,λZ h2 Y2 hlen gd ĩ I6=>?_⟩
  .rcases Av.1 hp with hp|hp
   .exact CC _ (hw p hp)
   .exact BY _ (by rw[(f_ p hp).1];simp)
  .rcases Av.1 hp with hp|hp
   .exact BY _ (y p hp t k hl)
   .obtain⟨_,b,e⟩:=f_ p hp;rw[e] at hl;cases hl
  .exact CC _ (TV (o:=k) (Bl.2 ⟨x,hx,hl⟩))
  .obtain⟨n,p,d,hr,jR⟩:=q i;obtain⟨v,_,m⟩:=aFq he n p d hr jR;exact⟨_,m⟩
  .have l:∀t∈FD ops o++J7 o.op.operands.toList++H6 C U o,Z.at t=U.at t:=λt ht=>gd t (CC _ ht);have hwf:∀t∈r.wf++o.dst.toList,Z.at t=U.at t:=λt ht=>gd t (BY _ ht);have ht:∀t∈J7 o.op.operands.toList,Z.at t=U.at t:=λt ht=>l t (by simp[ht]);have hb:∀t∈H6 C U o,Z.at t=U.at t:=λt ht=>l t (by simp[ht]);have aFr:MZ Z r.news=true:=ĩ;refine⟨o,ho,.inr ⟨r,Z.Ej gh,?_,Wn hc ht hb,?_,?_,?_,?_⟩⟩;.rw[Qq λt ht=>l t (by simp[ht])];exact hg
   .rw[j];have A:(r.wf++o.dst.toList).map Z.at=(r.wf++o.dst.toList).map U.at:=YI λx hx=>hwf x hx;have z:r.SY Z=r.SY U:=by unfold EO.SY;rw[OC,aFr,hlen]
    simp only[Uz,A,z,UJ hc ht hb]
   .rw[TU aFr];exact aMt Z h2 Y2 I6
   .rw[Hn];exact(Ym λd hd=>BW.Jl gh U Z d hlen (hwf d (CC _ hd))).symm
   .rw[BW.JS];exact aFp Z hlen hwf
end
end Go.Am
end
section
namespace Go.Am
open Go
section
variable{C:FZ}{fid:FuncId}{ops:List Oper}{run:IT->Ah->Option J1}{an:List Nat}
def LX{a b:List Nat}(h:(!TK a b)=true){x:Nat}(hx:x∈a):x∉b:=λhb=>by have:TK a b=true:=xS.2 ⟨x,hx,hb⟩;simp[this] at h
def swap{p s:St}{U σa U1:BW}{h ha h1:Ah}(hp:Pb C fid ops run p U h σa ha)(hs:Pb C fid ops run s σa ha U1 h1)(LF:QN p.fp s.fp=true)
  (TQ:s.fp.Rl=true->∀f,p.fl=some f->Bg h1 f.n f.p=some f.v):
  ∃σs Vh,Pb C fid ops run s U h σs Vh/\Pb C fid ops run p σs Vh U1 h1/\(s.fp.Rl=true->Vh=h1)/\(p.fp.Rl=true->h1=ha):=by
 unfold QN FP.apart at LF;simp only[Bx] at LF;obtain⟨⟨⟨⟨pf,D⟩,⟨⟨a1,a2⟩,a3⟩,a4⟩,he⟩,hl⟩:=LF;obtain⟨c,rfl,l,dP,A,u,y,G,Ī⟩:=hp.spec pf;obtain⟨b,rfl,k,jP,E,m,jM,F,gi⟩:=hs.spec D;have i:∀x∈s.fp.rs++s.fp.wf,(U.Ej c).at x=U.at x:=λx hx=>BW.GO c U x λq hq e=>LX a1 (l q hq) (by rw[e];exact hx);have d:MZ U s.fp.news=true:=by
  rw[N8] at m⊢;intro x t o hx;by_cases hw:x∈p.fp.wf;.exact LX a3 (A x hw t o hx)
  .refine m x t o ?_;rw[BW.GO c U x λq hq e=>hw (by rw[<-e];exact l q hq)];exact hx
 have hlen:∀(Z:BW) (ws:List (Nat×Er)),(Z.Ej ws).length=Z.length:=λZ ws=>BW.JT ws Z;have ī:(U.Ej b).Ej c=(U.Ej c).Ej b:=(BW.xR λq hq r hr e=>by have:=LX a1 (l q hq);exact this (BY _ (by rw[e];exact k r hr))).symm
 have outs:∀x∈p.fp.rs++p.fp.wf,(U.Ej b).at x=U.at x:=λx hx=>BW.GO b U x λq hq e=>by
  rcases Av.1 hx with hx|hx
  .exact LX a2 (k q hq) (by rw[e];exact hx)
  .exact LX a1 hx (BY _ (by rw[<-e];exact k q hq))
 have z:MZ (U.Ej b) p.fp.news=true:=by
  rw[N8] at u⊢;intro x t o hx;rcases BW.Wp b U x with h0|⟨q,hq,_,h2⟩
  .exact u x t o (by rw[<-h0];exact hx)
  .rw[h2] at hx;exact LX a4 (jP q hq t o hx)
 by_cases JC:s.fp.Rl=true
 .have g:p.fp.Rl=false:=by
   cases hq:p.fp.Rl with
   |false=>rfl
   |true=>simp[JC,hq] at he
  have j:ha=h:=y g;subst j;refine⟨U.Ej b,h1,gi U ha h1 (hlen U c).symm (λx hx=>(i x hx).symm) d (.inl ⟨rfl,rfl⟩),?_,λ_=>rfl,λe=>by rw[g] at e;cases e⟩;rw[<-ī];exact Ī (U.Ej b) h1 h1 (hlen U b) outs z (.inr ⟨g,rfl,λ_ f hf=>TQ JC f hf⟩)
 .have aFs:s.fp.Rl=false:=by simpa using JC
  have B:h1=ha:=jM aFs;subst B;refine⟨U.Ej b,h,?_,?_,λe=>absurd e JC,λ_=>rfl⟩
  .by_cases g:p.fp.Rl=true;.refine gi U h h (hlen U c).symm (λx hx=>(i x hx).symm) d (.inr ⟨aFs,rfl,λH=>?_⟩);simp[g,H] at hl
   .have aMw:p.fp.Rl=false:=by simpa using g
    have j:=y aMw;exact gi U h h (hlen U c).symm (λx hx=>(i x hx).symm) d (.inl ⟨j.symm,j.symm⟩)
  .rw[<-ī];exact Ī (U.Ej b) h h1 (hlen U b) outs z (.inl ⟨rfl,rfl⟩)
inductive Steps(C:FZ)(fid:FuncId)(ops:List Oper)(run:IT->Ah->Option J1)(an:List Nat):List Kw->List St->BW->Ah->BW->Ah->Prop
 |nil {fl:List Kw} {U:BW} {h:Ah}:Steps C fid ops run an fl [] U h U h
 |cons {fl:List Kw} {s:St} {L:List St} {U U1 σf:BW} {h h1 hf:Ah}:Pb C fid ops run s U h U1 h1->(s.fp.Rl=true->∀f∈fl,Et an f.idx s.idx=false->Bg h1 f.n f.p=some f.v)->
  Steps C fid ops run an (s.fl.toList++fl) L U1 h1 σf hf->Steps C fid ops run an fl (s::L) U h σf hf
def Steps.sub{fl:List Kw}{L:List St}{U σf:BW}{h hf:Ah}(hs:Steps C fid ops run an fl L U h σf hf):∀{b:List Kw},(∀f∈b,f∈fl)->Steps C fid ops run an b L U h σf hf:=by
 induction hs with
 |nil=>intro b _;exact .nil
 |cons h1 h2 _ ih=>
  intro b OQ;refine .cons h1 (λhe f hf hb=>h2 he f (OQ f hf) hb) (ih λf hf=>?_);rcases Av.1 hf with hf|hf
  .exact CC _ hf
  .exact BY _ (OQ f hf)
def Pb.aAh{s:St}{U U':BW}{h h':Ah}(hs:Pb C fid ops run s U h U' h'){f:Kw}(hf:s.fl=some f):f.idx=s.idx:=by
 obtain⟨o,_,⟨_,_,Hn,_⟩|⟨r,U1,_,_,_,_,Hn,_⟩⟩:=hs;.rw[Hn] at hf;cases hf
 .rw[Hn] at hf;unfold KV at hf;split at hf
  .split at hf;.cases hf;rfl
   .cases hf
  .cases hf
def Steps.lt{fl:List Kw}{L:List St}{U σf:BW}{h hf:Ah}(hs:Steps C fid ops run an fl L U h σf hf):∀q∈L,q.idx<ops.length:=by
 induction hs with
 |nil=>simp
 |cons h1 _ _ ih=>
  intro q hq;rcases AS.1 hq with rfl|hq
  .obtain⟨o',h2,_⟩:=h1;exact(Ak.1 h2).1
  .exact ih q hq
def Ĭ{s:St}{B:List St}{σf:BW}{hf:Ah}:∀{A:List St} {fl:List Kw} {U:BW} {h:Ah},Steps C fid ops run an fl (A++s::B) U h σf hf->(∀p∈A,QN p.fp s.fp=true/\Et an p.idx s.idx=false)->
  ∃U1 h1,Pb C fid ops run s U h U1 h1/\(s.fp.Rl=true->∀f∈fl,Et an f.idx s.idx=false->Bg h1 f.n f.p=some f.v)/\Steps C fid ops run an (s.fl.toList++fl) (A++B) U1 h1 σf hf
 |[],fl,U,h,hs,_=>by
  cases hs with
  |cons h1 h2 d=>exact⟨_,_,h1,h2,d⟩
 |p::A,fl,U,h,hs,j=>by
  cases hs with
  |cons h1 h2 d=>
   rename_i σa ha;obtain⟨U1,ġ,i,e,t⟩:=Ĭ d λq hq=>j q (by simp[hq]);obtain⟨LF,aMx⟩:=j p AK;obtain⟨σs,Vh,w1,m,l,k⟩:=swap h1 i LF λhe f hf=>e he f (by rw[hf];simp) (by rw[h1.aAh hf];exact aMx);refine⟨σs,Vh,w1,λhe f hf hb=>?_,.cons m (λhe f hf hb=>?_) (t.sub λf hf=>?_)⟩;.rw[l he];exact e he f (BY _ hf) hb
   .rw[k he];rcases Av.1 hf with hf|hf
    .exfalso;unfold QN at LF;simp only[Bx] at LF;obtain⟨⟨⟨⟨_,y⟩,_⟩,u⟩,hl⟩:=LF;cases lD:s.fl with
     |none=>rw[lD] at hf;simp at hf
     |some g=>
      have b:s.fp.hl=true:=by
       obtain⟨o,_,⟨_,_,Hn,_⟩|⟨r,x,_,_,c,_,Hn,_⟩⟩:=i;.rw[Hn] at lD;cases lD
       .rw[Hn] at lD;unfold KV at lD;split at lD;.rw[c];rfl
        .cases lD
      simp[he,b] at hl
    .exact h2 he f hf hb
   .rcases Av.1 hf with hf|hf
    .exact BY _ (CC _ hf)
    .rcases Av.1 hf with hf|hf
     .exact CC _ hf
     .exact BY _ (BY _ hf)
def Qr{DX:List Nat}{x:Nat}:∀(ds:List Nat) (m:Nat),(ds.foldl (λm e=>m|||bit e|||DX.getD e 0) m).testBit x=true↔m.testBit x=true\/∃e∈ds,x=e\/(DX.getD e 0).testBit x=true
 |[],m=>AK
 |d::ds,m=>by
  rw[ay,Qr ds];simp only[Nat.testBit_or,bit,Nat.testBit_two_pow,Oy,CX,AS,exists_eq_or_imp];constructor
  .rintro((h|h)|h)
   .rcases h with h|h
    .exact .inl h
    .exact .inr (.inl (.inl h.symm))
   .exact .inr (.inl (.inr h))
   .exact .inr (.inr h)
  .rintro(h|(h|h)|h);.exact .inl (.inl (.inl h))
   .exact .inl (.inl (.inr h.symm))
   .exact .inl (.inr h)
   .exact .inr h
def LN:∀(l:List Oper) (DX:List Nat) (i:Nat),i<DX.length->(K4 DX l).getD i 0=DX.getD i 0
 |[],DX,i,h=>rfl
 |o::l,DX,i,h=>by rw[K4,LN l _ i Eg];simp[List.getD,Aj h]
def Qs:∀(l:List Oper) (DX:List Nat) (k:Nat) (o:Oper),l[k]?=some o->(∀e∈Oper.Uy o,e<DX.length+k)->∀x,
  ((K4 DX l).getD (DX.length+k) 0).testBit x=true↔∃e∈Oper.Uy o,x=e\/((K4 DX l).getD e 0).testBit x=true
 |[],DX,k,o,h,_,x=>by simp at h
 |o'::l,DX,0,o,h,hd,x=>by
  simp at h;subst h;rw[K4,LN l _ (DX.length+0) AK];have b:(DX++[(Oper.Uy o').foldl (λm e=>m|||bit e|||DX.getD e 0) 0]).getD (DX.length+0) 0=(Oper.Uy o').foldl (λm e=>m|||bit e|||DX.getD e 0) 0:=by simp[List.getD]
  rw[b,Qr];simp only[Nat.zero_testBit,Cy,false_or];constructor;.rintro⟨e,he,h⟩;refine⟨e,he,h.imp id λh=>?_⟩;have hlt:e<DX.length:=hd e he;rw[LN l _ e Eg];simpa[List.getD,Aj hlt] using h
  .rintro⟨e,he,h⟩;refine⟨e,he,h.imp id λh=>?_⟩;have hlt:e<DX.length:=hd e he;rw[LN l _ e Eg] at h;simpa[List.getD,Aj hlt] using h
 |o'::l,DX,k+1,o,h,hd,x=>by simp at h;rw[K4];have:=Qs l (DX++[(Oper.Uy o').foldl (λm e=>m|||bit e|||DX.getD e 0) 0]) k o h (λe he=>by have:=hd e he;simp;omega) x;simp only[Au,Be,B1,B0] at this;rw[(Ab:DX.length+(k+1)=DX.length+1+k)];exact this
def Y3{i:Nat}{o:Oper}(ho:ops[i]?=some o)(hd:∀e∈Oper.Uy o,e<i)(x:Nat):Et (VT ops) x i=true↔∃e∈Oper.Uy o,x=e\/Et (VT ops) x e=true:=by have:=Qs ops [] i o ho (by simpa using hd) x;simpa[Et,VT] using this
def Pc(h:ZR ops=true){i:Nat}{o:Oper}(ho:ops[i]?=some o):∀e∈Oper.Uy o,e<i:=by
 unfold ZR at h;rw[DK] at h;have:=h (o,i) (by refine CB (i:=i) ?_;simp[List.getElem?_zipIdx,ho])
 intro e he;simpa using DK.1 this e he
def Y4:∀{l:List (Nat×FP)},VV.go an l=true->l.Pairwise λx y=>x.1≠y.1/\Et an y.1 x.1=false/\(Et an x.1 y.1=true\/QN x.2 y.2=true)
 |[],_=> .nil
 |(i,f)::l,h=>by simp only[VV.go,Bx,DK] at h;refine .cons (λy hy=>?_) (Y4 h.2);have:=h.1 y hy;simp only[bne_iff_ne,aR6,Oy] at this;exact⟨this.1.1,this.1.2,this.2⟩
def gj{d:Option Nat}{U:BW}{K:BW->IT}{h:Ah}{R:J1}(hr:IT.step (Cd C) run (pE d U K) h=some R):∃U',ML d U U'/\IT.step (Cd C) run (K U') h=some R:=by
 unfold pE at hr;cases d with
 |none=>exact⟨U,rfl,hr⟩
 |some d=>
  simp only at hr;cases hx:U.at d with
  |val v=>
   rw[hx] at hr;simp only[IT.step] at hr;split at hr;.exact⟨U.set d (.OM true),by simp only[ML,hx];exact⟨true,rfl,rfl⟩,hr⟩
   .exact⟨U.set d (.OM false),by simp only[ML,hx];exact⟨false,rfl,rfl⟩,hr⟩
   .cases hr
  |_=>rw[hx] at hr;exact⟨U,by simp only[ML,hx],hr⟩
def N9{i:Nat}{t:IT}{h:Ah}{R:J1}:∀{fl:List Kw},IT.step (Cd C) run (Rv an i fl t) h=some R->(∀f∈fl,Et an f.idx i=false->Bg h f.n f.p=some f.v)/\IT.step (Cd C) run t h=some R
 |[],hr=>⟨AK,hr⟩
 |f::fl,hr=>by
  unfold Rv at hr;by_cases hb:Et an f.idx i=true
  .rw[Ae hb] at hr;obtain⟨d,c⟩:=N9 hr;refine⟨λg hg b=>?_,c⟩;rcases AS.1 hg with rfl|hg
   .rw[hb] at b;cases b
   .exact d g hg b
  .rw[Ac hb] at hr;simp only[IT.step] at hr;split at hr
   .rename_i v hv;split at hr
    .rename_i Kp;obtain⟨d,c⟩:=N9 hr;refine⟨λg hg b=>?_,c⟩;rcases AS.1 hg with rfl|hg
     .rw[Aa.beq_eq Kp];exact hv
     .exact d g hg b
    .cases hr
   .cases hr
def QY{K:BW->IT}{R:J1}:∀{rest:List Nat} {b:List (Nat×FP)} {fl:List Kw} {U:BW} {h:Ah},IT.step (Cd C) run (QP C fid ops an rest b fl U K) h=some R->
  ∃L σf hf,Steps C fid ops run an fl L U h σf hf/\VV ops.length an (b.reverse++L.map λs=>(s.idx,s.fp))=true/\IT.step (Cd C) run (K σf) hf=some R
 |[],b,fl,U,h,hr=>by
  unfold QP at hr;split at hr;.rename_i LF;exact⟨[],U,h,.nil,by simpa using LF,hr⟩
  .cases hr
 |i::rest,b,fl,U,h,hr=>by
  unfold QP at hr;cases ho:ops[i]? with
  |none=>rw[ho] at hr;cases hr
  |some o=>
   rw[ho] at hr;simp only at hr;split at hr
   .rename_i hg;split at hr;.cases hr
    .rename_i r hc;obtain⟨U1,h1,hd,hr⟩:=YN hr;have F0:(r.Rl=true->∀f∈fl,Et an f.idx i=false->Bg h1 f.n f.p=some f.v)/\IT.step (Cd C) run (pE (if Rw ops i then o.dst else none) U1 λj=>QP C fid ops an rest ((i,Uz C ops U o (some r))::b) (MI i r U1 fl) j K) h1=some R:=by
      split at hr;.obtain⟨d,c⟩:=N9 hr;exact⟨λ_=>d,c⟩
      .rename_i he;exact⟨λe=>absurd e he,hr⟩
     obtain⟨TQ,hr⟩:=F0;obtain⟨U',ha,hr⟩:=gj hr;rw[Wq] at hr;obtain⟨L,σf,hf,d,c,g⟩:=QY hr;exact⟨{idx:=i,fp:=Uz C ops U o (some r),fl:=KV i r U1}::L,σf,hf,.cons ⟨o,ho,.inr ⟨r,U1,hg,hc,rfl,hd,rfl,ha⟩⟩ TQ d,by simpa using c,g⟩
   .rename_i hg;obtain⟨L,σf,hf,d,c,g⟩:=QY hr;exact⟨{idx:=i,fp:=Uz C ops U o none,fl:=none}::L,σf,hf,.cons ⟨o,ho,.inl ⟨hg,rfl,rfl,rfl,rfl⟩⟩ (λe=>by simp[Uz] at e) d,by simpa using c,g⟩
   .cases hr
end
section
variable{C:FZ}{γ0 γ:Gh}{w0 w:World}{O:Nat->Nat}{U:BW}{h:Ah}{a:Act}{fid:FuncId}
def LO(hr:Dc C γ0 w0 γ O U h a w){ops:Array Oper}{o:Oper}{b:Bool}(hg:IP ops.toList U o= .Ng b):Region.wanted o (yielded ops a.tmps)=b:=by
 unfold IP at hg;unfold Region.wanted;cases ho:o.guard with
 |none=>rw[ho] at hg;cases hg;rfl
 |some g=>
  obtain⟨j,want⟩:=g;rw[ho] at hg;simp only[aE6] at hg⊢;unfold yielded;cases hd:(ops[j]?).bind (·.dst) with
  |none=>rw[hd] at hg;cases hg
  |some s=>
   rw[hd] at hg;simp only[Cv] at hg⊢;have h0:=hr.fr.Ij s;cases hx:U.at s with
   |OM c=>
    rw[hx] at hg h0;cases hg;have hl:s<a.tmps.size:=by rw[<-hr.fr.size];exact BW.O2 (by rw[hx];simp)
    have hv:a.tmps.getD s undef= .bool c:=h0;have:a.tmps[s]?=some (.bool c):=by rw[CU hl];rw[Hg,CU hl] at hv;exact Ce some hv
    rw[this];rfl
   |skip=>
    rw[hx] at hg h0;cases hg;have hv:a.tmps.getD s undef=undef:=h0;have hne:∀c,a.tmps[s]?≠some (.bool c):=λc hc=>by rw[Hg,hc] at hv;cases hv
    cases ht:a.tmps[s]? with
    |none=>rfl
    |some v=>
     cases v with
     |bool c=>exact absurd ht (hne c)
     |_=>rfl
   |val v=>rw[hx] at hg;cases hg
   |_=>rw[hx] at hg;cases hg
def Dc.aFu(hr:Dc C γ0 w0 γ O U h a w){d:Option Nat}{U':BW}(ha:ML d U U'):Dc C γ0 w0 γ O U' h a w:=by
 unfold ML at ha;cases d with
 |none=>simp only at ha;rw[ha];exact hr
 |some d=>
  simp only at ha;cases hx:U.at d with
  |val v=>rw[hx] at ha;obtain⟨b,rfl,rfl⟩:=ha;have h0:=hr.fr.Ij d;rw[hx] at h0;exact hr.eB h0
  |_=>rw[hx] at ha;rw[ha];exact hr
structure aMy(ops:Array Oper)(listed:Array Bool)(L:List St):Prop where
 size:listed.size=ops.size
 un:∀i,i<ops.size->(listed.getD i false=false↔i∈L.map (·.idx))
 closed:∀j,listed.getD j false=true->∀e,Et (VT ops.toList) e j=true->listed.getD e false=true
abbrev pZ(an:List Nat)(L:List St):Prop:=L.Pairwise λx y=>x.idx≠y.idx/\Et an y.idx x.idx=false/\(Et an x.idx y.idx=true\/QN x.fp y.fp=true)
def xU{run:IT->Ah->Option J1}(D:Fg C run){ops:Array Oper}{Q:Exit->Act->World->Prop}(Ga:ZR ops.toList=true){σf:BW}{hf:Ah}(hQ:∀γ' k a' w',Dc C γ0 w0 γ' k σf hf a' w'->Q .normal a' w'):
  ∀(fuel:Nat) (L:List St) (listed:Array Bool) (γ:Gh) (O:Nat->Nat) (U:BW) (h:Ah) (a:Act) (w:World),L.length=fuel->Steps C fid ops.toList run (VT ops.toList) [] L U h σf hf->pZ (VT ops.toList) L->aMy ops listed L->Dc C γ0 w0 γ O U h a w->
   wpAny C.P .any ops Q fuel listed a w:=by
 intro fuel;induction fuel with
 |zero=>
  intro L listed γ O U h a w l hs hp ho hr;have u:L=[]:=Dn l;subst u;cases hs;refine⟨List.eq_nil_iff_forall_not_mem.2 λi hi=>?_,hQ _ _ _ _ hr⟩;obtain⟨h0,o,ql,_⟩:=mem_ready.1 hi;have hlt:i<ops.size:=(A7.1 ql).1;have Yk:listed.getD i false=false:=by
   have hl:i<listed.size:=by rw[ho.size];exact hlt
   simpa[Array.getD,hl] using h0
  have:=(ho.un i hlt).1 Yk;simp at this
 |succ fuel ih=>
  intro L listed γ O U h a w l hs hp ho hr;have Z4:∀i,i<ops.size->listed.getD i true=listed.getD i false:=λi hi=>by
   have hl:i<listed.size:=by rw[ho.size];exact hi
   simp[Array.getD,hl]
  constructor
  .intro TQ;exfalso;cases L with
   |nil=>simp at l
   |cons s0 L=>
    obtain⟨o,ql,_⟩:∃o,ops.toList[s0.idx]?=some o/\True:=by
     cases hs with
     |cons h1 _ _=>obtain⟨o,h2,_⟩:=h1;exact⟨o,h2,trivial⟩
    have lE:ops[s0.idx]?=some o:=by simpa using ql
    have hlt:s0.idx<ops.size:=(A7.1 lE).1;have:s0.idx∈Region.ready .any ops listed:=by
     refine mem_ready.2 ⟨?_,o,lE,λe he hb=>?_⟩;.rw[Z4 _ hlt];exact(ho.un _ hlt).2 AK
     .have f:e.on∈Oper.Uy o:=Ck.2 ⟨e,by simpa using he,by rw[Ae hb]⟩;have z:=Pc Ga ql e.on f;cases hl:listed.getD e.on false with
      |true=>rfl
      |false=>
       have hm:=(ho.un e.on Ab).1 hl;simp only[Bs,AS] at hm;rcases hm with hm|hm
       .omega
       .obtain⟨y,hy,m⟩:=Bl.1 hm;have:=((aQa.1 hp).1 y hy).2.1;rw[m,(Y3 ql (Pc Ga ql) e.on).2 ⟨e.on,f,.inl rfl⟩] at this;cases this
    rw[TQ] at this;cases this
  .intro i hi;obtain⟨h0,o,ql,aFv⟩:=mem_ready.1 hi;have hlt:i<ops.size:=(A7.1 ql).1;rw[Z4 i hlt] at h0;obtain⟨s,n,rfl⟩:=Bl.1 ((ho.un i hlt).1 h0);obtain⟨A,B,rfl⟩:=List.append_of_mem n;have lE:ops.toList[s.idx]?=some o:=by simpa using ql
   have aFw:∀e,Et (VT ops.toList) e s.idx=true->listed.getD e false=true:=λe he=>by
    obtain⟨d,hd,I6⟩:=(Y3 lE (Pc Ga lE) e).1 he;obtain⟨E,f,hb⟩:=Ck.1 hd;split at hb
    .rename_i PS;cases hb;have jR:=aFv E (by simpa using f) PS;rcases I6 with rfl|I6
     .exact jR
     .exact ho.closed _ jR e I6
    .cases hb
   have b:=(aK7.1 hp).2.2;have aAi:∀p∈A++s::B,p.idx<ops.size:=λp t=>by simpa using hs.lt p t
   obtain⟨U1,h1,x,_,v⟩:=Ĭ hs λp g=>by
    have hb:Et (VT ops.toList) p.idx s.idx=false:=by
     cases PS:Et (VT ops.toList) p.idx s.idx with
     |false=>rfl
     |true=>have h1:=aFw _ PS;have h2:=(ho.un p.idx (aAi p (by simp[g]))).2 (Bl.2 ⟨p,by simp[g],rfl⟩);rw[h1] at h2;cases h2
    refine⟨?_,hb⟩;have:=(b p g s AK).2.2;rw[hb] at this;exact this.resolve_left AK
   have ĭ:∀γ' k a' w',Dc C γ0 w0 γ' k U1 h1 a' w'->wpAny C.P .any ops Q fuel (listed.setIfInBounds s.idx true) a' w':=λγ' k a' w' F0=>by
    refine ih (A++B) _ γ' k U1 h1 a' w' (by simp at l⊢;omega) (v.sub AK) ?_ ⟨by simp[ho.size],λj hj=>?_,λj hj e he=>?_⟩ F0;.exact hp.sublist ((A4 A).append (TE s B))
    .by_cases c:j=s.idx
     .subst c;have aAj:s.idx∉(A++B).map (·.idx):=λhm=>by
       obtain⟨q,hq,he⟩:=Bl.1 hm;rcases Av.1 hq with hq|hq
       .exact(b q hq s AK).1 he
       .exact(aQa.1 (aK7.1 hp).2.1).1 q hq |>.1 he.symm
      have ht:(listed.setIfInBounds s.idx true).getD s.idx false=true:=by
       have hl:s.idx<listed.size:=by rw[ho.size];exact hlt
       simp[Array.getD,hl]
      rw[ht];exact⟨λe=>absurd e AK,λe=>absurd e aAj⟩
     .rw[getD_set_ne false (λe=>c e.symm),ho.un j hj];simp only[BL,Bs,Av,AS];constructor
      .rintro(e|e|e);.exact .inl e
       .exact absurd e c
       .exact .inr e
      .rintro(e|e);.exact .inl e
       .exact .inr (.inr e)
    .by_cases c:j=s.idx;.subst c;exact getD_set_true (aFw e he)
     .rw[getD_set_ne false (λe=>c e.symm)] at hj;exact getD_set_true (ho.closed j hj e he)
   unfold wpOp;rw[ql];obtain⟨o',qj,⟨hg,_,_,rfl,rfl⟩|⟨r,F,hg,hc,_,hd,_,ha⟩⟩:=x;.rw[lE] at qj;cases qj;simp only[LO hr hg,Cy,Eb];exact ĭ _ _ _ _ (hr.put λ_ _=>rfl)
   .rw[lE] at qj;cases qj;simp only[LO hr hg,BT];exact .inl (fy D hc hd hr λγ' k a' w' F0=>ĭ γ' k a' w' (F0.aFu ha))
end
end Go.Am
end
end
