/- Lemmas -/
import Derived.Test.YtjbidlnjecppfaaGreatDoorS1
import Derived.Scope
import Derived.Carry
import Derived.ReadAgain
set_option linter.all false
open Option renaming some→zz,none→zx
open List renaming length→zy,replicate→yx
open Go.Am.Ad renaming int→zw,bool→z1,tuple→y7,map→wq,slnil→wl,iface→tg
open Go.Value renaming int→zr,slice→zf,string→zd,bool→yy,tuple→y8,map→wn,iface→tf,slice→pp
open Bool renaming true→zq,false→zm
open Go.Am.Fb renaming val→zp,undef→x8
open Go.Am.DH renaming cells→zl,map→wo
open Go.IntKind renaming i64→zi
open Go.Instr renaming findNow→ze,sameNow→yi,mapUpdate→y4,sliceBound→xr,lookup→xl,checkKey→xd,mapEntry→vy,sliceBounds→vk,makeInterface→t1,sliceAt→sy,makeMap→r8
open Go.Builtin renaming zeroCells→zb,clear_→ye,append_→yc,copy_→xu,firstCells→sv
open Go.MapKept renaming run_getObj_map→yt,run_findKey→yq,run_setObj_map→yd,run_checkKey→xw,IsKey→xt,bytes_beq→sh
open Go.Result renaming andThen_ok→yp,andThen→xb,ok→wz
open Or renaming inl→ym,inr→yg
open Go.Am.He renaming value→yk,skip→qm
open Go.Sem renaming run_bind→yh,run_pure→xv
open Go.Am.Gh renaming B6→y9
open Go.World renaming setRow→tv
open Go.Program renaming elem→u7
section
namespace Go.Am
open Go
section
variable{C:Hw}{T γ X:Gh}{V w w':World}{Z:Nat->Nat}{U:B5}{h:Ak}{a:Act}{fid:FuncId}{ops:List Oper}
def bZ{s t:Aj}(h:s≠t):((⟨⟨s⟩⟩:ByteArray)==⟨⟨t⟩⟩)=zm:=by refine Bool.eq_false_iff.2 λa=>h ?_;have:=(sh _ _).1 a;grind
def Uw(s:Aj):((⟨⟨s⟩⟩:ByteArray)==⟨⟨s⟩⟩)=zq:=(sh _ _).2 rfl
def xV{s:Aj}:∀{p:List (Ad×Ad)} {l:List MapEntry} {i:Nat} {r:Option Ad},M6 γ p l->Vj s p=zz r->
  match r with
  |zx=>ze .string (zd ⟨⟨s⟩⟩) l i=zz zx
  |zz v=>∃(j:Nat) (e:MapEntry),ze .string (zd ⟨⟨s⟩⟩) l i=zz (zz (i+j,e.val))/\B3 γ v e.val
 |[],l,i,r,b,h=>by rw[show l=[] from b];cases h;rfl
 |(k,v)::p,l,i,r,b,h=>by
  obtain⟨e,l',rfl,x,w,f⟩:=b;unfold Vj at h;split at h;.grind
  .rename_i t v' Y0 y;cases y;have o:e.key= zd ⟨⟨t⟩⟩:=x;split at h;.rename_i n;subst n;cases h;exact⟨0,e,by simp[ze,o,yi,Uw],w⟩
   .rename_i n;have q:=xV (i:=i+1) f h;cases r with
    |none=>simpa[ze,o,yi,bZ n] using q
    |some v2=>let⟨j,g,d,c⟩:=q;exact⟨j+1,g,by simp[ze,o,yi,bZ n];rw[d];congr 3;omega,c⟩
  .cases h
def ve{s:Aj}{v:Ad}{u:Value}(C:B3 γ v u):∀{x q:List (Ad×Ad)} {l:List MapEntry} {i:Nat},M6 γ x l->Px s v x=zz q->
  (ze .string (zd ⟨⟨s⟩⟩) l i=zz zx/\∀born,M6 γ q (l++[{key:= zd ⟨⟨s⟩⟩,val:=u,born}]))\/
  ∃j e,ze .string (zd ⟨⟨s⟩⟩) l i=zz (zz (i+j,e.val))/\l[j]?=zz e/\e.key= zd ⟨⟨s⟩⟩/\M6 γ q (l.modify j λe=>{e with key:= zd ⟨⟨s⟩⟩,val:=u})
 |[],q,l,i,d,h=>by rw[show l=[] from d];cases h;exact ym ⟨rfl,λborn=>⟨_,[],rfl,rfl,C,rfl⟩⟩
 |(k,v0)::x,q,l,i,d,h=>by
  obtain⟨e,K,rfl,E,G,f⟩:=d;unfold Px at h;split at h;next F=>cases F
  .rename_i t v' o F;cases F;have w:e.key= zd ⟨⟨t⟩⟩:=E;split at h;.rename_i y;subst y;cases h;exact yg ⟨0,e,by simp[ze,w,yi,Uw],rfl,w,_,K,rfl,rfl,C,f⟩
   .rename_i y;cases D:Px s v x with
    |none=>rw[D] at h;cases h
    |some n=>
     rw[D] at h;cases h;rcases ve C f D with⟨c,b⟩|⟨j,p,c,b,m,g⟩
     .exact ym ⟨by simpa[ze,w,yi,bZ y] using c,λborn=>⟨e,_,rfl,E,G,b born⟩⟩
     .exact yg ⟨j+1,p,by simp[ze,w,yi,bZ y];rw[c];congr 3;omega,b,m,e,_,AF,E,G,g⟩
  .cases h
def Xr{d:Array MapEntry}{b:Nat}{k v:Value}(h:b=d.size/\∀(i:Nat) (e:MapEntry),d[i]?=zz e->e.born=i):
 b+1=(d.push {key:=k,val:=v,born:=b}).size/\∀(i:Nat) (e:MapEntry),(d.push {key:=k,val:=v,born:=b})[i]?=zz e->e.born=i:=by grind
def Yf{c:Array MapEntry}{b j:Nat}{f:MapEntry->MapEntry}(h:b=c.size/\∀(i:Nat) (e:MapEntry),c[i]?=zz e->e.born=i)(hf:∀e,(f e).born=e.born):
 b=(c.modify j f).size/\∀(i:Nat) (e:MapEntry),(c.modify j f)[i]?=zz e->e.born=i:=by grind
def PH(t:IA γ h w){g z:Nat}{M Y0:List (Ad×Ad)}(N:h[z]?=zz (wo M))(E:γ.mu z=zz g){o:Obj}{ents':Array MapEntry}{clock':Nat}(T:w.heap[g]?=zz o)(U:ń γ Y0 ents' clock'):
  IA γ (h.set z (wo Y0)) {w with heap:=w.heap.setIfInBounds g (.map ents' clock')}/\M7 γ w γ {w with heap:=w.heap.setIfInBounds g (.map ents' clock')}:=by
 let⟨l,p,G⟩:=t.Oa z _ N AF;rw[E] at p;cases p;let⟨Z,c⟩:=MapKept.heap_set (o':= .map ents' clock') T;have A:∀a x,h[a]?=zz x->x≠ .CV->γ.mu a=zz g->a=z:=λa x B e X=>by let⟨b',p,q⟩:=t.Oa a x B e;rw[X] at p;cases p;rw[G] at q;cases q;rfl
 constructor
 .refine⟨λb o v s=>?_,λa y O R=>?_,λa Y u b s=>?_,λa f u b s=>?_,λa b s=>zv (t.mu a b s),λb x B=>?_,λb n s=>?_⟩;rotate_left 5
  .let⟨⟨J,j,H,p,q⟩,r⟩:=t.sz b n s;have K:b≠g:=λm=>by subst m;let⟨i,d,k,_⟩:=t.map z M N b E;rw[p] at k;cases k
   exact⟨⟨J,j,H,c b K▸p,q⟩,r⟩
  .let⟨p,q,r⟩:=t.JJ b o v s;have:b≠g:=λm=>by subst m;rw[G] at r;obtain r|⟨_,_,_,r,_⟩:=r<;>cases r
   exact⟨by rwa[C9 (c b this)],q,r⟩
  .by_cases m:a=z;.subst m;exact⟨g,E,G⟩
   .rw[Av (λx=>m x.symm)] at O;exact t.Oa a y O R
  .by_cases m:a=z;.subst m;rw[AT (t.mu _ _ E)] at u;cases u
   .rw[Av (λx=>m x.symm)] at u;have L:b≠g:=λB=>by subst B;exact m (A a _ u AF s)
    let⟨J,j,H,p,Q,q,r⟩:=t.cells a Y u b s;exact⟨J,j,H,c b L▸p,Q,q,r⟩
  .by_cases m:a=z;.subst m;rw[E] at s;cases s;rw[AT (t.mu _ _ E)] at u;cases u;exact⟨ents',clock',Z,U⟩
   .rw[Av (λx=>m x.symm)] at u;have L:b≠g:=λB=>by subst B;exact m (A a _ u AF s)
    let⟨DU,C,p,q⟩:=t.map a f u b s;exact⟨DU,C,c b L▸p,q⟩
  .have:=t.BD b x B;exact zv this
 .refine⟨.refl _,AF,rfl,rfl,rfl,λb s V=>⟨?_,rfl⟩⟩;exact c b (λm=>by subst m;exact V z G)
def Ux(j:Dp C T V γ Z U h a w){x y z:Operand}{d c b:Ad}(k:BI C U [x,y,z]=zz [d,c,b]):B3 γ d (a.eval x)/\B3 γ c (a.eval y)/\B3 γ b (a.eval z):=by let⟨_,_,_,e,h1,h2,f⟩:=(Ez j k).Ya;grind
def xW{o:Oper}{t kt e:TypeId}{m k x:Operand}{n p g:Ad}{h':Ak}(M:o.op= .insert t m k x\/o.op= .mapUpdate t m k x)(hd:o.dst=zx)(ht:C.P.underlying t=zz (.map kt e))(hk:C.P.underlying kt=zz .string)(ha:BI C U [m,k,x]=zz [n,p,g])
  (y:TU h n p g=zz h') (F:Dp C T V γ Z U h a w):He C T V o a w U h':=by
 let⟨h1,h2,v⟩:=Ux F ha;have OK:∀Q,(y4 t (a.eval m) (a.eval k) (a.eval x)).run C.P w= wz () Q->(execOp a.eval o).run C.P w= wz .skip Q:=λQ K=>by obtain M|M:=M<;>simp[execOp,M,K]
 unfold TU at y;split at y
 .rename_i id s;let⟨b,hb,Z_⟩:=h1;split at y
  .rename_i es VB;cases hp:Px s g es with
   |none=>rw[hp] at y;cases y
   |some N=>
    rw[hp] at y;cases y;let⟨J,c,E,u,hB⟩:=F.ED.map id es VB b hb;have À:(Instr.checkKey false 10000 kt (.string ⟨⟨s⟩⟩)).run C.P w= .ok () w:=xw hk (by simp[xt]) zm 9999;rcases ve v u hp with⟨f,l⟩|⟨j,en,f,l,r,q⟩
    .have K:(y4 t (a.eval m) (a.eval k) (a.eval x)).run C.P w= wz () {w with heap:=w.heap.setIfInBounds b (.map (J.push {key:= zd ⟨⟨s⟩⟩,val:=a.eval x,born:=c}) (c+1))}:=by rw[Z_,h2];simp[y4,run_underlying ht,yt E,À,yq hk f,yd _ E,xb]
     let⟨hi,LQ⟩:=PH (Y0:=N) (ents':=J.push {key:= .string ⟨⟨s⟩⟩,val:=a.eval x,born:=c}) F.ED VB hb E ⟨zv (l c),Xr hB⟩;exact qm (OK _ K) (by rw[hd];exact F.Kz hi LQ)
    .have hj:J[j]?=zz en:=zv l
     rw[B1] at f;have K:(y4 t (a.eval m) (a.eval k) (a.eval x)).run C.P w= wz () {w with heap:=w.heap.setIfInBounds b (.map (J.modify j λe=>{e with key:= zd ⟨⟨s⟩⟩,val:=a.eval x}) c)}:=by rw[Z_,h2];simp[y4,run_underlying ht,yt E,À,yq hk f,hj,r,MapKept.run_keyThatStays (d:= .string) (k:= .string ⟨⟨s⟩⟩) (by simp[xt]),yd _ E,xb]
     let⟨hi,LQ⟩:=PH (Y0:=N) (ents':=J.modify j λe=>{e with key:= .string ⟨⟨s⟩⟩,val:=a.eval x}) (clock':=c) F.ED VB hb E ⟨zv q,Yf hB λ_=>rfl⟩;exact qm (OK _ K) (by rw[hd];exact F.Kz hi LQ)
  .cases y
 .cases y
def ř{o:Oper}{t:TypeId}(f:o.op= .makeMap t zx)(b:Dp C T V γ Z U h a w):He C T V o a w (U.put o.dst (zp (wq (zz (zy h))))) (h++[wo []]):=by
 let⟨i,j⟩:=Ia b.ED (.map #[] 0) (wo []) zx (yg ⟨rfl,rfl,rfl⟩);have k:(r8 t zx).run C.P w= wz (wn (zz w.heap.size)) (w.alloc (.map #[] 0)):=by simp[r8]
 exact yk (by rw[execOp,f];exact Ea k) ((b.Kz i j).put λ_ _=>⟨w.heap.size,by simp[y9],rfl⟩)
def MU(d e:TypeId)(a:Value)(b:Bool)(f:Array MapEntry):Sem Value:=do
 xd f.isEmpty 10000 d a
 let(v,ok)<-match<-Instr.findKey d a f.toList with
  |zz (_,v)=>pure (v,zq)
  |zx=>pure (<-zeroValue e,zm)
 pure (if b then y8 #[v,yy ok] else v)
def Ś{o:Oper}{t G e:TypeId}{m k:Operand}{f g z r:Ad}{ok:Bool}(ho:o.op= .lookup t m k ok)(N:C.P.underlying t=zz (.map G e))(K:C.P.underlying G=zz .string)(hz:Ip C.P e=zz z)(ha:BI C U [m,k]=zz [f,g])(E:Rc h z ok f g=zz r)(J:Dp C T V γ Z U h a w):
  He C T V o a w (U.put o.dst (zp r)) h:=by
 let⟨_,_,e0,R,Q⟩:=F8 J ha;cases e0;let⟨n,ģ,l⟩:=Jp hz;have Y:∀(D:Array MapEntry) (q:Option Ad),(xl t (a.eval m) (a.eval k) ok).run C.P w=(MU G e (a.eval k) ok D).run C.P w->
   ∀s,a.eval k= zd ⟨⟨s⟩⟩->(match q with|zx=>ze .string (zd ⟨⟨s⟩⟩) D.toList 0=zz zx|zz v=>∃(j:Nat) (e:MapEntry),ze .string (zd ⟨⟨s⟩⟩) D.toList 0=zz (zz (0+j,e.val))/\B3 γ v e.val)->
   (match q with|zz v=>if ok then Ad.tuple [v,z1 zq] else v|zx=>if ok then y7 [z,z1 zm] else z)=r->He C T V o a w (U.put o.dst (zp r)) h:=by
  intro D q H s d O X;have M:(xd D.isEmpty 10000 G (.string ⟨⟨s⟩⟩)).run C.P w= .ok () w:=xw K (by simp[xt]) D.isEmpty 9999;have L:∃v,(xl t (a.eval m) (a.eval k) ok).run C.P w= wz v w/\B3 γ r v:=by
   cases q with
   |none=>
    refine⟨if ok then .tuple #[n,.bool zm] else n,?_,?_⟩;.rw[H,d];rw[MU];simp[yh,yp,M,yq K O,l,yh,xv]
    .rw[<-X];have c:=Gr (γ:=γ) ģ;cases ok with
     |true=>exact⟨_,rfl,_,_,rfl,c,_,_,rfl,rfl,rfl⟩
     |false=>exact c
   |some v=>
    let⟨j,en,u,p⟩:=O;refine⟨if ok then .tuple #[en.val,.bool zq] else en.val,?_,?_⟩;.rw[H,d];rw[MU];simp[yh,yp,M,yq K u,yh,xv]
    .rw[<-X];cases ok with
     |true=>exact⟨_,rfl,_,_,rfl,p,_,_,rfl,rfl,rfl⟩
     |false=>exact p
  let⟨v,L,u_⟩:=L;exact yk (by simp only[execOp,ho];exact Ea L) (J.put λ_ _=>u_)
 rw[Rc] at E;cases B:Xd h f g with
 |none=>rw[B] at E;cases E
 |some q=>
  rw[B] at E;simp[Cb,BN] at E;unfold Xd at B;split at B;next s=>cases B;exact Y #[] zx (by simp only[show a.eval m=_ from R,Instr.lookup,MU,Sem.run_bind,run_underlying N,Result.andThen_ok,Sem.run_pure];rfl) s Q rfl E
  .rename_i id s;let⟨b,hb,Z_⟩:=R;split at B;.rename_i D H;let⟨DU,clock,hw,x,_⟩:=J.ED.map id D H b hb;exact Y DU q (by rw[Z_];simp[xl,MU,yh,run_underlying N,yt hw,yp,xv];rfl) s Q (xV x B) E
   .cases B
  .cases B
def cA{a:Nat}{v:Ad}(h:Qq a v=zq):v= wl\/v= .FT a\/v= .sl a []:=by unfold Qq at h;grind
def Á{o:Oper}{c:Call}{t t' e:TypeId}{n b:Nat}{s x:Operand}{v u r:Ad}{h':Ak}(ho:o.op= .call c)(hc:c.callee= .builtin .append)(h0:c.argTypes[0]?=zz t)(h1:c.argTypes[1]?=zz t')(FD:c.args.toList=[s,x])(ht:C.P.underlying t=zz (.slice e))
  (GF:(∃e',C.P.underlying t'=zz (.slice e'))\/C.P.underlying t'=zz .string) (MR:Ce C.P e=zz (n+1)) (Ŕ:LL C.P e=zz (b+1)) (GQ:M4 C U s=zq) (wU:N8 C.P e=zq) (hv:BI C U [s,x]=zz [v,u])
  (hp:KF h (n+1) (b+1) v u=zz (h',r)) (hr:Dp C T V γ Z U h a w):He C T V o a w ((U.Ej (DI U s)).put o.dst (.val r)) h':=by
 obtain⟨i,z,hi,hz,nT⟩:=Nb wU;have TN:=Lv MR hi;obtain⟨_,_,e0,hvs,gh⟩:=F8 hr hv;cases e0;have H:FV C U s=zz v:=by
  unfold BI at hv;split at hv;.rename_i p ps K N;cases hv;exact K
  .cases hv
 have KA:Qq (n+1) v=zq/\((∃AH,Jd (n+1) (b+1) .slnil u=zz (.sl (n+1) AH)/\AH≠[]/\u= .sl (n+1) AH/\AH.length*(b+1)<=AN/\h'=h++[.cells AH.flatten]/\r= .CK h.length 0 AH.length (n+1))\/((u= .slnil\/(∃B,u= .FT B)\/∃B,u= .sl B [])/\h'=h/\r=v)):=by
  unfold KF at hp;split at hp
  .rename_i B AH;split at hp
   .rename_i Zv;refine⟨Zv,?_⟩;split at hp;.cases hp;exact .inr ⟨.inr (.inr ⟨_,rfl⟩),rfl,rfl⟩
    .rename_i hne;split at hp
     .rename_i Jf;cases hp;obtain⟨rfl,hb⟩:=Jf;refine .inl ⟨AH,?_,hne,rfl,hb,rfl,rfl⟩;cases AH with
      |nil=>cases hne rfl
      |cons q AH=>simp only[Jd,Ee,BV];rw[Ae hb]
     .cases hp
   .cases hp
  .split at hp;.rename_i Zv;cases hp;exact⟨Zv,.inr ⟨.inl rfl,rfl,rfl⟩⟩
   .cases hp
  .split at hp;.rename_i Zv;simp only[Bs] at Zv;cases hp;exact⟨Zv.1,.inr ⟨.inr (.inl ⟨_,rfl⟩),rfl,rfl⟩⟩
   .cases hp
  .cases hp
 obtain⟨Zv,KA⟩:=KA;obtain⟨G,E7,LJ,DP,m⟩:=R6 hr GQ H (U.Ej (DI U s)).length zx;have OR:c.args.map a.eval=#[a.eval s,a.eval x]:=by apply IV;simp[FD]
 have OK:∀v' w',(yc #[t,t'] o.type #[a.eval s,a.eval x]).run C.P w= .ok v' w'->(execOp a.eval o).run C.P w= .ok (.value v') w':=λv' w' Bd=>by
  have:execOp a.eval o=(do pure (Next.value (<-yc #[t,t'] o.type #[a.eval s,a.eval x]))):=by rw[<-OR,<-QC (ty:=o.type) h0 h1];simp only[execOp,ho,resolve,hc];rfl
  rw[this];exact Ea Bd
 have vf:(a.eval s= .slice zx 0 0/\v= .slnil)\/(∃g cap us y,a.eval s= .slice (zz ⟨g,0,zx⟩) 0 cap/\v= .sl (n+1) []/\G.BD g=zz (.tail (U.Ej (DI U s)).length zx 0)/\V.heap.size<=g/\w.heap[g]?=zz (.cells us y (0,0))/\us.size=cap*(n+1)/\cap<=maxLen)\/∃g,a.eval s= .slice (zz ⟨g,0,zx⟩) 0 0/\v= .FT (n+1):=by
  rcases m with(m|⟨J,m⟩)|⟨g,k,cap,us,y,J,rr,jl,La,WZ,hB,hg,kE,M,hm,L⟩
  .rw[m] at DP;exact .inl ⟨DP,m⟩
  .rcases cA Zv with gp|gp|gp
   .rw[gp] at m;cases m
   .rw[gp] at DP;obtain⟨g,DP⟩:=DP;exact .inr (.inr ⟨g,DP,gp⟩)
   .rw[gp] at m;cases m
  .rcases cA Zv with gp|gp|gp
   .rw[gp] at jl;cases jl
   .rw[gp] at jl;cases jl
   .rw[gp] at jl;cases jl;have hk:k=0:=by rw[gp,La] at DP;obtain⟨A,f,xT,_⟩:=DP;simp only[Value.slice.injEq] at xT;exact xT.2.1
    subst hk;exact .inr (.inl ⟨g,cap,us,y,La,gp,by simpa using WZ,hB,hg,kE,hm⟩)
 rcases KA with⟨AH,HE,hne,D,Td,rfl,rfl⟩|⟨D,rfl,rfl⟩
 .obtain⟨d,news,Sa,Mg,aGW,gd⟩:=vd (w:=w) GF hr.ED gh HE;have xX:d=AH:=by
   cases d with
   |nil=>simp[Ee] at Sa
   |cons q d=>
    simp only[Ee] at Sa;split at Sa;.cases Sa;rfl
    .cases Sa
  subst xX;have ŕ:=Bt.mono E7 _ _ aGW;have LP:Src C.P i.size t' (a.eval x) d.length news w:=by rw[TN];exact Mg
  have Iq:d.flatten.length=news.length:=by rw[aGW.length]
  have TM:d.length<=AN:=BC (Kb _ (Dj b)) Td;have Kh:∀(base:Option Addr) (cap:Nat),a.eval s= .slice base 0 cap->(sv i.size 0 (.slice base 0 cap)).run C.P w.drew= .ok #[] w.drew->cap<d.length->
    He C T V o a w ((U.Ej (DI U s)).put o.dst (.val (.CK h.length 0 d.length (n+1)))) (h++[.cells d.flatten]):=by
   intro base cap hs l hlt;have Gq:=run_append_grow_src (P:=C.P) w t t' o.type e i z ht hi hz base 0 cap [] l (a.eval x) d.length news LP Ab (by simp only[AN] at TM;omega) (by rw[NM Ŕ hi,B1];exact growslice_fits hlt Td);rw[<-hs,B1] at Gq;have EC:=grownCap_ge w d.length cap e;have Yg:(([]++news).toArray++zb z.cells (grownCap w d.length cap e-d.length)).toList.take d.flatten.length=news:=by simp only[Io,B4];rw[Iq];exact FM
   have ś:(([]++news).toArray++zb z.cells (grownCap w d.length cap e-d.length)).size=grownCap w d.length cap e*(n+1):=by simp only[LG,Ci,size_zeroCells,nT,TN,B4,Mg.newsLen,<-Ch];congr 1;omega
   obtain⟨F,xR,Yh,Na,VC⟩:=LJ.drew.newObj (([]++news).toArray++zb z.cells (grownCap w d.length cap e-d.length)) e (0,0) d.flatten (.inl rfl) (by rw[Yg];exact ŕ) (by rw[Yg];exact Mg.one);exact yk (OK _ _ Gq) (Na.put λ_ _=>⟨w.heap.size,_,Yh,rfl,EC,⟨Dj n,grownCap_le_maxLen w _ _ _ (by simp only[AN] at TM;simp only[maxLen];omega)⟩,by rw[B1,<-ś];exact VC⟩)
  rcases vf with⟨La,rfl⟩|⟨g,cap,us,y,La,rfl,WZ,hB,hg,kE,E⟩|⟨g,La,rfl⟩
  rotate_left 2;.exact Kh (zz ⟨g,0,zx⟩) 0 La (by simpa using run_firstCells_some (P:=C.P) w.drew i.size 0 ⟨g,0,none⟩ 0 0 [] AF AF) (Du.2 hne)
  .exact Kh zx 0 La (run_firstCells_none _ _ _ _ _) (Du.2 hne)
  .by_cases hroom:d.length<=cap
   .have hfit:news.length<=us.size:=by rw[Mg.newsLen,kE];exact Er _ hroom
    have Bd:=run_append_room_src (P:=C.P) w t t' o.type e i ht hi g 0 0 cap (a.eval x) d.length news LP Ab (λj hj=>by rw[cell_of_row w _ _ us y (0,0) hg,TN,Es Ab];rfl) (λj hj=>frozen_of_row w _ _ us y hg)
    rw[X6,B1,B1,FC news 0 us w hg Ab,<-La] at Bd;have Yg:((us.toList.take 0++news++us.toList.drop (0+news.length)).toArray).toList.take d.flatten.length=news:=by simp only[GD,B4];rw[Iq];exact FM
    obtain⟨F,xR,Yh,Na,VC⟩:=LJ.aMt WZ hB hg (us.toList.take 0++news++us.toList.drop (0+news.length)).toArray d.flatten (by rw[Yg];exact ŕ) (by rw[Yg];exact Mg.one);exact yk (OK _ _ Bd) (Na.put λ_ _=>⟨g,cap,Yh,rfl,hroom,⟨Dj n,E⟩,by rw[VC,B1,<-kE];simp;omega⟩)
   .exact Kh (zz ⟨g,0,zx⟩) cap La (by simpa using run_firstCells_some (P:=C.P) w.drew i.size 0 ⟨g,0,none⟩ 0 cap [] AF AF) Ab
 .have Mg:Src C.P i.size t' (a.eval x) 0 [] w:=by
   obtain rfl|⟨B,rfl⟩|⟨B,rfl⟩:=D
   .rw[show a.eval x=_ from gh];exact⟨GF,λ_=>rfl,run_firstCells_none w _ 0 0 0,run_firstCells_none w.drew _ 0 0 0,AF,AF⟩
   .obtain⟨g0,xT⟩:=gh;rw[xT];exact⟨GF,λ_=>rfl,by simpa using run_firstCells_some (P:=C.P) w i.size 0 ⟨g0,0,none⟩ 0 0 [] AF AF,by simpa using run_firstCells_some (P:=C.P) w.drew i.size 0 ⟨g0,0,none⟩ 0 0 [] AF AF,AF,AF⟩
   .obtain⟨A,f,xT,_⟩:=gh;rw[xT];exact⟨GF,λ_=>rfl,by simpa using run_firstCells_some (P:=C.P) w i.size 0 A 0 f [] AF AF,by simpa using run_firstCells_some (P:=C.P) w.drew i.size 0 A 0 f [] AF AF,AF,AF⟩
  rcases vf with⟨La,rfl⟩|⟨g,cap,us,y,La,rfl,WZ,hB,hg,kE,E⟩|⟨g,La,rfl⟩
  rotate_left 2;.have Bd:=run_append_room_src (P:=C.P) w t t' o.type e i ht hi g 0 0 0 (a.eval x) 0 [] Mg Ab AF AF;rw[<-La] at Bd;simp only[World.setCells] at Bd;exact yk (OK _ _ Bd) (LJ.put λ_ _=>DP)
  .have Bd:(yc #[t,t'] o.type #[a.eval s,a.eval x]).run C.P w= .ok (.slice zx 0 0) w:=by rw[La];have Zw:=Mg.cells;rcases GF with⟨e',hk⟩|hk<;>simp[yc,run_underlying ht,run_underlying hk,sizeOf,typeInfo,hi,Mg.len,Zw]
   exact yk (OK _ _ Bd) (LJ.put λ_ _=>rfl)
  .have Bd:=run_append_room_src (P:=C.P) w t t' o.type e i ht hi g 0 0 cap (a.eval x) 0 [] Mg Ab AF AF;rw[<-La] at Bd;simp only[World.setCells] at Bd;exact yk (OK _ _ Bd) (LJ.put λ_ _=>DP)
section
variable(hr:Dp C T V γ Z U h a w)
def Dp.kill(i:Nat):Dp C T V γ Z U (h.set i .CV) a w:=by
 have d:∀{c:Nat} {x:DH},(h.set i .CV)[c]?=zz x->x≠ .CV->h[c]?=zz x:=λ{c x} hx hd=>by grind
 exact⟨⟨hr.ED.JJ,λc y m j=>hr.ED.Oa c y (d m j) j,λc l f b e=>hr.ED.cells c l (d f AF) b e,λc k f b e=>hr.ED.map c k (d f AF) b e,λc b e=>zv (hr.ED.mu c b e),hr.ED.BD,hr.ED.sz⟩,hr.fr,hr.Ex,hr.defers,hr.IF⟩
def Dp.jm{id g:Nat}{cs:List Ad}(hcs:h[id]?=zz (zl cs))(hg:γ.mu id=zz g){J:Array Value}{e:TypeId}{N:Nat×Nat}(hw:w.heap[g]?=zz (.cells J e N))(Y6:γ.sz g=zz J.size)(z:Array Value)(O:List Ad)(kE:z.size=J.size)(uw:Xm N z.size)
  (hv:Bt γ O (z.toList.take (zy O))) (h1:∀u∈z.toList.take (zy O),u.oneCell'=zq):∃X,γ.le X/\X.mu (zy h)=zz g/\Dp C T V X Z U (h.set id .CV++[.cells O]) a (w.setRow g z)/\X.sz g=zz J.size:=by
 let⟨i,p,Y⟩:=hr.ED.Oa id _ hcs AF;rw[hg] at p;cases p;have Â:id<h.length:=hr.ED.mu _ _ hg;have d:γ.mu (zy h)=zx:=by
  cases F:γ.mu (zy h) with
  |none=>rfl
  |some y=>cases (DT _) (hr.ED.mu _ y F)
 have E:∀l x,h[l]?=zz x->x≠ .CV->γ.mu l=zz g->l=id:=λl x t c H=>by let⟨b',p,q⟩:=hr.ED.Oa l x t c;rw[H] at p;cases p;rw[Y] at q;cases q;rfl
 have R:γ.le (γ.B6 g (zy h) (zz J.size)):=⟨λ_ _ _ hv=>hv,λl b H=>by
  have:l≠zy h:=λk=>by rw[k,d] at H;cases H
  simp only[Gh.B6,Aa this];exact H,λb n H=>by
  by_cases k:b=g;.subst k;rw[Y6] at H;cases H;simp[y9]
  .simp only[y9,Aa k];exact H⟩
 have K:∀{l:Nat} {x:DH},(h.set id .CV++[DH.cells O])[l]?=zz x->x≠ .CV->l≠zy h->h[l]?=zz x/\l≠id:=λ{l x} t hd B=>by
  have P:l<(h.set id .CV).length:=by rw[Aq] at t;let⟨hl,_⟩:=t;simp at hl⊢;omega
  rw[An P] at t;by_cases k:id=l;.subst k;rw[AT (by simpa using P)] at t;cases t;cases hd rfl
  .rw[Av k] at t;exact⟨t,λh=>k h.symm⟩
 have aSn:IA (γ.B6 g (zy h) (zz J.size)) (h.set id .CV++[zl O]) (w.setRow g z):=by
  refine⟨λb o v m=>?_,λl y Jo M=>?_,λl VD F b m=>?_,λl es F b m=>?_,λl b m=>?_,λb y M=>?_,λb n m=>?_⟩
  .let⟨p,q,r⟩:=hr.ED.JJ b o v m;have A:b≠g:=λk=>by subst k;rw[Y] at r;obtain r|⟨_,_,_,r,_⟩:=r<;>cases r
   exact⟨by rw[C9 (setRow_other w g b z A)];exact p,q,by simp only[Gh.B6,Aa A];exact r⟩
  .by_cases k:l=zy h;.exact⟨g,by simp[y9,k],by simp[y9,k]⟩
   .let⟨Ã,B⟩:=K Jo M k;let⟨b,p,q⟩:=hr.ED.Oa l y Ã M;have A:b≠g:=λt=>by subst t;exact B (E l y Ã M p)
    exact⟨b,by simp only[Gh.B6,Aa k];exact p,by simp only[Gh.B6,Aa A];exact q⟩
  .by_cases k:l=zy h;.subst k;simp[y9] at m;subst m;rw[Bu AF] at F;simp at F;subst F;exact⟨z,e,N,setRow_heap w g J z e N hw,uw,Bt.mono R _ _ hv,h1⟩
   .simp only[y9,Aa k] at m;let⟨Q,B⟩:=K F AF k;have A:b≠g:=λt=>by subst t;exact B (E l _ Q AF m)
    let⟨ir,f,ņ,p,pf,q,r⟩:=hr.ED.cells l VD Q b m;exact⟨ir,f,ņ,by rw[setRow_other w g b z A];exact p,pf,Bt.mono R _ _ q,r⟩
  .by_cases k:l=zy h;.subst k;rw[Bu AF] at F;simp at F
   .simp only[y9,Aa k] at m;let⟨Q,B⟩:=K F AF k;have A:b≠g:=λt=>by subst t;exact B (E l _ Q AF m)
    let⟨DU,L,p,q⟩:=hr.ED.map l es Q b m;exact⟨DU,L,by rw[setRow_other w g b z A];exact p,q.mono R⟩
  .by_cases k:l=zy h;.simp[k]
   .simp only[y9,Aa k] at m;have:=hr.ED.mu l b m;simp;omega
  .by_cases A:b=g;.subst A;have:=hr.ED.BD _ _ Y;simpa[tv] using this
   .simp only[y9,Aa A] at M;have:=hr.ED.BD b y M;simpa[tv] using this
  .by_cases k:b=g;.subst k;simp only[Gh.B6,BV] at m;cases m;exact⟨⟨z,e,N,setRow_heap w b J z e N hw,kE⟩,yg ⟨zy h,by simp[y9]⟩⟩
   .simp only[y9,Aa k] at m⊢;let⟨p,r⟩:=hr.ED.sz b n m;exact⟨by rw[setRow_other w g b z k];exact p,r⟩
 refine⟨_,R,by simp[y9],hr.Kz aSn ⟨R,by simp[tv],rfl,rfl,rfl,λb m hn=>?_⟩,by simp[y9]⟩;have A:b≠g:=λk=>by subst k;exact hn id Y
 exact⟨setRow_other w g b z A,by simp only[Gh.B6,Aa A]⟩
end
def Ŝ{o:Oper}{c:Call}{t t' e:TypeId}{n b:Nat}{s x:Operand}{v u r:Ad}{h':Ak}(ho:o.op= .call c)(hc:c.callee= .builtin .append)(h0:c.argTypes[0]?=zz t)(h1:c.argTypes[1]?=zz t')(FD:c.args.toList=[s,x])(ht:C.P.underlying t=zz (.slice e))
  (GF:(∃e',C.P.underlying t'=zz (.slice e'))\/C.P.underlying t'=zz .string) (MR:Ce C.P e=zz (n+1)) (Ŕ:LL C.P e=zz (b+1)) (wU:N8 C.P e=zq) (hv:BI C U [s,x]=zz [v,u])
  (hp:Gq h (n+1) (b+1) v u=zz (h',r)) (hr:Dp C T V γ Z U h a w):He C T V o a w (U.put o.dst (.val r)) h':=by
 obtain⟨i,z,hi,hz,nT⟩:=Nb wU;have TN:=Lv MR hi;obtain⟨_,_,e0,hvs,gh⟩:=F8 hr hv;cases e0;have OR:c.args.map a.eval=#[a.eval s,a.eval x]:=by apply IV;simp[FD]
 have OK:∀v' w',(yc #[t,t'] o.type #[a.eval s,a.eval x]).run C.P w= .ok v' w'->(execOp a.eval o).run C.P w= .ok (.value v') w':=λv' w' Bd=>by
  have:execOp a.eval o=(do pure (Next.value (<-yc #[t,t'] o.type #[a.eval s,a.eval x]))):=by rw[<-OR,<-QC (ty:=o.type) h0 h1];simp only[execOp,ho,resolve,hc];rfl
  rw[this];exact Ea Bd
 unfold Gq at hp;cases hq:Hy h (n+1) u with
 |none=>rw[hq] at hp;cases hp
 |some AH=>
  rw[hq] at hp;obtain⟨K,Mg,Zv,gd⟩:=bW (w:=w) GF hr.ED gh hq;have LP:Src C.P i.size t' (a.eval x) AH.length K w:=by rw[TN];exact Mg
  have Iq:AH.flatten.length=K.length:=by rw[Zv.length]
  cases AH with
  |nil=>
   have ux:K=[]:=DR (by simpa using Mg.newsLen);subst ux;cases v with
   |slnil=>
    cases hp;have La:a.eval s= .slice none 0 0:=hvs;have Bd:(Builtin.append_ #[t,t'] o.type #[a.eval s,a.eval x]).run C.P w= .ok (.slice none 0 0) w:=by rw[La];have hl:=LP.len;have Zw:=LP.cells;simp only[BH] at hl Zw;rcases GF with⟨e',hk⟩|hk<;>simp[Builtin.append_,run_underlying ht,run_underlying hk,sizeOf,typeInfo,hi,hl,Zw]
    exact He.value (OK _ _ Bd) (hr.put λ_ _=>rfl)
   |FT F=>
    simp only at hp;split at hp;.cases hp;obtain⟨g,La⟩:=(show B3 γ _ _ from hvs);have Bd:=run_append_room_src (P:=C.P) w t t' o.type e i ht hi g 0 0 0 (a.eval x) 0 [] LP Ab AF AF;rw[<-La] at Bd;simp only[World.setCells,BE] at Bd;exact He.value (OK _ _ Bd) (hr.put λ_ _=>⟨g,La⟩)
    .cases hp
   |CK id X k F=>
    simp only at hp;split at hp;.cases hp;obtain⟨g,Y,hg,La,p,ġ,Y6⟩:=(show B3 γ _ _ from hvs);have Bd:=run_append_room_src (P:=C.P) w t t' o.type e i ht hi g X k Y (a.eval x) 0 [] LP Ab AF AF;rw[<-La] at Bd;simp only[World.setCells,BE] at Bd;exact He.value (OK _ _ Bd) (hr.put λ_ _=>⟨g,Y,hg,rfl,p,ġ,Y6⟩)
    .cases hp
   |_=>cases hp
  |cons O l=>
   generalize hR:O::l=AH at*;have hpos:0<AH.length:=by rw[<-hR];simp
   have d:∀(h2:Ak) (base:Option Addr) (k Y:Nat) (W0:List Ad) (olds:List Value),Dp C T V γ Z U h2 a w->a.eval s= .slice base k Y->Bt γ W0 olds->olds.length=k*(n+1)->(∀q∈olds,q.oneCell'=true)->
     (Builtin.firstCells i.size k (.slice base k Y)).run C.P w.drew= .ok olds.toArray w.drew->Y<k+AH.length->(k+AH.length)*(b+1)<=AN->
     He C T V o a w (U.put o.dst (.val (.CK h2.length 0 (k+AH.length) (n+1)))) (h2++[.cells (W0++AH.flatten)]):=by
    intro h2 base k Y W0 olds Na hs aMv Ģ J f hlt Td;have TM:k+AH.length<=AN:=BC (Kb _ (Dj b)) Td;have Gq:=run_append_grow_src (P:=C.P) w t t' o.type e i z ht hi hz base k Y olds f (a.eval x) AH.length K LP hlt (by simp only[AN] at TM;omega) (by rw[NM Ŕ hi];exact growslice_fits hlt Td);rw[<-hs] at Gq;have EC:=grownCap_ge w (k+AH.length) Y e;have W_:(olds++K).length=(k+AH.length)*(n+1):=by rw[As,Ģ,Mg.newsLen,Ch]
    have nM:(W0++AH.flatten).length=(olds++K).length:=by rw[As,As,aMv.length,Iq]
    have ś:((olds++K).toArray++Builtin.zeroCells z.cells (grownCap w (k+AH.length) Y e-(k+AH.length))).size=grownCap w (k+AH.length) Y e*(n+1):=by simp only[LG,Ci,size_zeroCells,nT,TN,W_,<-Ch];congr 1;omega
    have Yg:((olds++K).toArray++Builtin.zeroCells z.cells (grownCap w (k+AH.length) Y e-(k+AH.length))).toList.take (W0++AH.flatten).length=olds++K:=by simp only[Io];rw[nM];exact FM
    obtain⟨E,xR,Yh,I,VC⟩:=Na.drew.newObj ((olds++K).toArray++Builtin.zeroCells z.cells (grownCap w (k+AH.length) Y e-(k+AH.length))) e (0,0) (W0++AH.flatten) (.inl rfl) (by rw[Yg];exact aMv.append Zv) (by rw[Yg];intro q hq;exact(AA.1 hq).elim (J q) (Mg.one q))
    exact He.value (OK _ _ Gq) (I.put λ_ _=>⟨w.heap.size,_,Yh,rfl,EC,⟨Dj n,grownCap_le_maxLen w _ _ _ (by simp only[AN] at TM;simp only[maxLen];omega)⟩,by rw[B1,<-ś];exact VC⟩)
   cases v with
   |slnil=>
    have La:a.eval s= .slice none 0 0:=hvs;rw[<-hR] at hp;simp only at hp;rw[hR] at hp;split at hp;.rename_i Td;cases hp;have:=d h none 0 0 [] [] hr La rfl AF AF (run_firstCells_none _ _ _ _ _) Ab (by simpa using Td);simpa using this
    .cases hp
   |FT F=>
    obtain⟨g,La⟩:=(show B3 γ _ _ from hvs);rw[<-hR] at hp;simp only at hp;rw[hR] at hp;split at hp;.rename_i Td;cases hp;have:=d h (some ⟨g,0,none⟩) 0 0 [] [] hr La rfl AF AF (by simpa using run_firstCells_some (P:=C.P) w.drew i.size 0 ⟨g,0,none⟩ 0 0 [] AF AF) Ab (by simpa using Td.2);simpa using this
    .cases hp
   |CK id X k F=>
    rw[<-hR] at hp;simp only at hp;rw[hR] at hp;split at hp
    .rename_i cs hcs;split at hp
     .rename_i H;subst H;obtain⟨g,Y,hg,La,p,ġ,Y6⟩:=(show B3 γ _ _ from hvs);obtain⟨us,N,fr,m,pf,D,B⟩:=hr.ED.cells id cs hcs g hg;obtain⟨⟨Ġ,S,R,L,G⟩,_⟩:=hr.ED.sz g _ Y6;rw[m] at L;cases L;have wT:cs.length<=us.size:=by have:=D.length;simp at this;omega
      have PF:∀j,(⟨g,X,none⟩:Addr).add j=⟨g,X+j,none⟩:=λj=>by unfold Addr.add;split<;>simp_all
      have A:∀o,o<us.size->w.frozen? ⟨g,o,none⟩=false:=λo ho=>by
       simp only[World.frozen?,m];rcases pf with rfl|uw
       .simp
       .simp;omega
      have room:k+AH.length<=Y->(Builtin.append_ #[t,t'] o.type #[a.eval s,a.eval x]).run C.P w= .ok (.slice (some ⟨g,X,none⟩) (k+AH.length) Y) (w.setRow g (us.toList.take (X+k*(n+1))++K++us.toList.drop (X+k*(n+1)+K.length)).toArray)/\X+k*(n+1)+K.length<=us.size:=by
       intro hroom;have hfit:X+k*(n+1)+K.length<=us.size:=by rw[Mg.newsLen,G,nB,<-Ch];exact Nat.add_le_add_left (Er _ hroom) _
       have Bd:=run_append_room_src (P:=C.P) w t t' o.type e i ht hi g X k Y (a.eval x) AH.length K LP hroom (λj hj=>by rw[cell_of_row w _ _ us N fr m,TN,Es Ab];rfl) (λj hj=>by rw[TN];exact A _ Ab)
       rw[TN,FC K _ us w m hfit,<-La] at Bd;exact⟨Bd,hfit⟩
      have iV:(k+AH.length)*(n+1)=k*(n+1)+AH.length*(n+1):=Ch _ _ _;split at hp
      .rename_i Y7;cases hp;have hroom:k+AH.length<=Y:=by have Q:(k+AH.length)*(n+1)<=Y*(n+1):=Ab;exact Nat.le_of_mul_le_mul_right Q (Dj n)
       obtain⟨Bd,hfit⟩:=room hroom;have M:X+(k+AH.length)*(n+1)=X+k*(n+1)+K.length:=by rw[Mg.newsLen,iV];omega
       have hcl:(cs.take (X+k*(n+1))++AH.flatten++cs.drop (X+(k+AH.length)*(n+1))).length=cs.length:=by rw[M,As,As,Az,Bp,Iq];omega
       have Yg:((us.toList.take (X+k*(n+1))++K++us.toList.drop (X+k*(n+1)+K.length)).toArray).toList.take (cs.take (X+k*(n+1))++AH.flatten++cs.drop (X+(k+AH.length)*(n+1))).length=
         (us.toList.take cs.length).take (X+k*(n+1))++K++(us.toList.take cs.length).drop (X+k*(n+1)+K.length):=by
        rw[hcl];simp only[MM];exact OU (by simpa using wT) Ab rfl
       obtain⟨Zy,Ry⟩:=Pz hr.ED hcs hg m (us.toList.take (X+k*(n+1))++K++us.toList.drop (X+k*(n+1)+K.length)).toArray (cs.take (X+k*(n+1))++AH.flatten++cs.drop (X+(k+AH.length)*(n+1)))
        (by simp only[Ci,As,Az,Bp,CG];omega)
        (by
         rcases pf with rfl|pf
         .exact .inl rfl
         .refine .inr (BC (OC ?_) pf);simp only[Ci,As,Az,Bp,CG];omega)
        (by rw[Yg,M];exact QA D Zv)
        (by
         rw[Yg];intro q hq;rcases AA.1 hq with hq|hq
         .rcases AA.1 hq with hq|hq
          .exact B q (BQ hq)
          .exact Mg.one q hq
         .exact B q (BU hq))
       exact He.value (OK _ _ Bd) ((hr.Kz Zy Ry).put λ_ _=>⟨g,Y,hg,rfl,hroom,ġ,Y6⟩)
      .rename_i aYf;split at hp
       .rename_i Jf;obtain⟨rfl,Tb,Td⟩:=Jf;cases hp;simp only[B1] at*;by_cases hroom:k+AH.length<=Y
        .obtain⟨Bd,hfit⟩:=room hroom;have nM:(cs.take (k*(n+1))++AH.flatten).length=k*(n+1)+K.length:=by rw[As,Az,Iq];omega
         have Yg:((us.toList.take (k*(n+1))++K++us.toList.drop (k*(n+1)+K.length)).toArray).toList.take (cs.take (k*(n+1))++AH.flatten).length=(us.toList.take cs.length).take (k*(n+1))++K:=by
          rw[nM];simp only[MM];have:(us.toList.take (k*(n+1))++K).length=k*(n+1)+K.length:=by rw[As,Az,CG];omega
          rw[<-this,FM,FL,CE Tb]
         obtain⟨E,xR,Yh,Na,VC⟩:=hr.jm hcs hg m (by rw[Y6,G]) (us.toList.take (k*(n+1))++K++us.toList.drop (k*(n+1)+K.length)).toArray (cs.take (k*(n+1))++AH.flatten)
          (by simp only[Ci,As,Az,Bp,CG];omega)
          (by
           rcases pf with rfl|pf
           .exact .inl rfl
           .refine .inr (BC (OC ?_) pf);simp only[Ci,As,Az,Bp,CG];omega)
          (by rw[Yg];exact(D.take _).append Zv)
          (by
           rw[Yg];intro q hq;rcases AA.1 hq with hq|hq
           .exact B q (BQ hq)
           .exact Mg.one q hq)
         exact He.value (OK _ _ Bd) (Na.put λ_ _=>⟨g,Y,Yh,rfl,hroom,ġ,by rw[VC,G];simp⟩)
        .have Ģ:((us.toList.take cs.length).take (k*(n+1))).length=k*(n+1):=ES;have:=d (h.set id .CV) (some ⟨g,0,none⟩) k Y (cs.take (k*(n+1))) ((us.toList.take cs.length).take (k*(n+1))) (hr.kill id) La (D.take _) Ģ (λq hq=>B q (BQ hq))
          (by
           rw[TN];exact run_firstCells_some w.drew _ _ _ _ _ _ Ģ (λj y hj=>by
            rw[PF];show w.cell? _=_;rw[cell_of_row w _ _ us N fr m];rw[Cw] at hj;split at hj
            .rw[Cw] at hj;split at hj;.simpa using hj
             .cases hj
            .cases hj)) Ab Td
         simpa using this
       .cases hp
     .cases hp
    .cases hp
   |_=>rw[<-hR] at hp;cases hp
def xY(y:IA γ h w){p g off:Nat}{i b:List Ad}{a:List Value}(n:h[p]?=zz (zl i))(z:γ.mu p=zz g)(v:Bt γ b a)(A:∀u∈a,u.oneCell'=zq)(hl:off+zy b<=zy i):
  ∃s,(storeCells ⟨g,off,zx⟩ a).run C.P w= wz () s/\IA γ (h.set p (zl (i.take off++b++i.drop (off+zy b)))) s/\M7 γ w γ s:=by
 let⟨k,e,F,r,o,f,d⟩:=y.cells p i n g z;have G:=v.length;have t:zy i<=k.size:=by have:=f.length;simp at this;omega
 have x:=run_storeCells_cells (P:=C.P) g off a 0 w (λj D=>by
  rw[cell_of_row w _ _ k e F r,BE,Es Ab];rfl) (λj D=>by
  rw[World.frozen?,r];obtain rfl|uw:=o
  .simp
  .simp;omega) A
 rw[BE,FC _ off k w r Ab] at x;have B:((k.toList.take off++a++k.toList.drop (off+zy a)).toArray).toList.take (i.take off++b++i.drop (off+zy b)).length=(k.toList.take (zy i)).take off++a++(k.toList.take (zy i)).drop (off+zy a):=by rw[(ES:(i.take off++b++i.drop (off+zy b)).length=zy i)];exact MM▸OU (zv t) Ab rfl
 let⟨c,E⟩:=Pz y n z r (k.toList.take off++a++k.toList.drop (off+zy a)).toArray (i.take off++b++i.drop (off+zy b))
  (by simp[Ci,As,Az,Bp,CG];omega)
  (by
   obtain rfl|o:=o
   .exact ym rfl
   .refine yg (BC (OC ?_) o);simp[Ci,As,Az,Bp,CG];omega)
  (B▸G▸QA f v)
  (by
   rw[B];intro q l;obtain l|l:=AA.1 l
   .rcases AA.1 l with l|l
    .exact d q (BQ l)
    .exact A q l
   .exact d q (BU l))
 exact⟨_,x,c,E⟩
def jn{t c ty:TypeId}{a:Array TypeId}{b:Array Value}(d:a[0]?=zz t)(h1:a[1]?=zz c):xu a ty b=xu #[t,c] ty b:=by rw[xu,d];rfl
def xZ{P:Program}{t m ty e:TypeId}{i:TypeInfo}(o:P.underlying t=zz (.slice e))(q:P.info? e=zz i){x:Value}{n:Nat}{f:List Value}(j:Src P i.size m x n f w){base:Option Addr}{k cap:Nat}(p:n<=k)
  (v:∀b,base=zz b->(storeCells b f).run P w= wz () w') (u:base=zx->w'=w):(xu #[t,m] ty #[zf base k cap,x]).run P w= wz (zr zi n) w':=by
 cases base with
 |none=>cases u rfl;simp[xu,run_underlying o,j.len w,j.cells,sizeOf,typeInfo,q,CE p,goInt]
 |some b=>have s:=v b rfl;simp[xu,run_underlying o,j.len w,j.cells,sizeOf,typeInfo,q,CE p,goInt,s]
def ŝ{o:Oper}{c:Call}{t B e:TypeId}{n:Nat}{s x:Operand}{v u r:Ad}{O:Ak}(ho:o.op= .call c)(hc:c.callee= .builtin .copy)(h0:c.argTypes[0]?=zz t)(h1:c.argTypes[1]?=zz B)(FD:c.args.toList=[s,x])(N:C.P.underlying t=zz (.slice e))
  (GF:(∃e',C.P.underlying B=zz (.slice e'))\/C.P.underlying B=zz .string) (X:Ce C.P e=zz (n+1)) (hv:BI C U [s,x]=zz [v,u])
  (l:ud h (n+1) v u=zz (O,r)) (E:Dp C T V γ Z U h a w):He C T V o a w (U.put o.dst (zp r)) O:=by
 let⟨_,_,e0,p,gh⟩:=F8 E hv;cases e0;have OR:c.args.map a.eval=#[a.eval s,a.eval x]:=by apply IV;simp[FD]
 have R:∀J G,(xu #[t,B] o.type #[a.eval s,a.eval x]).run C.P w= wz J G->(execOp a.eval o).run C.P w= wz (.value J) G:=λJ G q=>by
  have:execOp a.eval o=(do pure (Next.value (<-xu #[t,B] o.type #[a.eval s,a.eval x]))):=by rw[<-OR,<-jn h0 h1];simp[execOp,ho,resolve,hc];rfl
  exact this▸Ea q
 cases H:C.P.info? e with
 |none=>simp[Ce,H] at X
 |some i=>
 rw[ud] at l;cases K:Hy h (n+1) u with
 |none=>rw[K] at l;cases l
 |some AH=>
  rw[K] at l;let⟨D,M,Q,gd⟩:=bW GF E.ED gh K;have Y:=(Lv X H)▸M
  have Rg:=M.newsLen;have Iq:zy AH.flatten=zy D:=by rw[Q.length]
  simp only at l;split at l
  .split at l;.rename_i jB;cases l;have q:=xZ (ty:=o.type) N H Y (base:=none) (k:=0) (cap:=0) Ab (λ_ e=>by cases e) (λ_=>rfl);rw[<-p] at q;rw[jB] at q;exact yk (R _ _ q) (E.put λ_ _=>rfl)
   .cases l
  .rename_i id y k z;split at l
   .rename_i cs L;split at l;.rename_i Jf;obtain⟨rfl,b,hlen⟩:=Jf;cases l;let⟨g,A,hg,p,j,ġ,Y6⟩:=(p);have hm:=Er (n+1) b;let⟨G,I3,d,f⟩:=xY (C:=C) (off:=y) E.ED L hg Q M.one Ab;have q:=xZ (ty:=o.type) N H Y (base:=some ⟨g,y,none⟩) (cap:=A) b (λ_ e=>by cases e;exact I3) (λe=>by cases e);rw[<-p] at q;rw[show zy AH*(n+1)=zy AH.flatten by rw[Iq,Rg]];exact yk (R _ _ q) ((E.Kz d f).put λ_ _=>rfl)
    .cases l
   .cases l
  .cases l
def yA{t ty:TypeId}{b:Array TypeId}{a:Array Value}(c:b[0]?=zz t):ye b ty a=ye #[t] ty a:=by rw[ye,c];rfl
def Ä{o:Oper}{c:Call}{t e:TypeId}{n:Nat}{s:Operand}{v z r:Ad}{h':Ak}(ho:o.op= .call c)(hc:c.callee= .builtin .clear)(h0:c.argTypes[0]?=zz t)(FD:c.args.toList=[s])(ht:C.P.underlying t=zz (.slice e))
  (MR:Ce C.P e=zz (n+1)) (hz:Ip C.P e=zz z) (hv:BI C U [s]=zz [v]) (N:aU h (n+1) z.cells v=zz (h',r)) (X:Dp C T V γ Z U h a w):He C T V o a w (U.put o.dst x8) h':=by
 let⟨_,e0,M⟩:=Ib X hv;cases e0;have OR:c.args.map a.eval=#[a.eval s]:=by apply IV;simp[FD]
 have OK:∀v' R,(ye #[t] o.type #[a.eval s]).run C.P w= wz v' R->(execOp a.eval o).run C.P w= wz (.value v') R:=λv' R Bd=>by
  have:execOp a.eval o=(do pure (Next.value (<-ye #[t] o.type #[a.eval s]))):=by rw[<-OR,<-yA (ty:=o.type) h0];simp[execOp,ho,resolve,hc];rfl
  rw[this];exact Ea Bd
 unfold aU at N;split at N
 .cases N;have Bd:(ye #[t] o.type #[a.eval s]).run C.P w= wz (.tuple #[]) w:=by rw[M];simp[ye,run_underlying ht]
  exact yk (OK _ _ Bd) (X.put λ_ _=>trivial)
 .rename_i id Q k G;split at N
  .rename_i cs hcs;split at N
   .rename_i Jf;obtain⟨rfl,f,hlen⟩:=Jf;cases N;let⟨g,cap,hg,M,D,ġ,Y6⟩:=(show B3 γ _ _ from M);let⟨d,ģ,l⟩:=Jp hz;let⟨A,B⟩:=IH (γ:=γ) (Gr ģ) Ab;have Y:d.cells.size=n+1:=by have:=A.length;simp at this;omega
    have Iq:(yx k z.cells).flatten.length=k*(n+1):=by rw[IJ (z:=n+1) (λr X=>by rw[aGC X,f]),Hc]
    have i:∀(j:Nat) (u:Value),(zb d.cells k).toList[j]?=zz u->j<k*(n+1)/\d.cells.toList[j%(n+1)]?=zz u:=by
     intro j u O;have kQ:j<k*(n+1):=by have:=(Aq.1 O).1;simpa[size_zeroCells,Y] using this
     refine⟨kQ,?_⟩;have aIz:j%(n+1)<d.cells.size:=by rw[Y];exact Nat.mod_lt _ (Dj n)
     simp only[Builtin.zeroCells,Pr,Cp] at O;have b:(Array.range (k*d.cells.size)).toList[j]?=zz j:=by simp[Y,kQ]
     rw[b] at O;simp[Cb,BN] at O;rw[Y] at O;rw[<-O];simp[aIz]
    have E:Bt γ (yx k z.cells).flatten (zb d.cells k).toList:=by refine Bt.Ir (by simp[CG,size_zeroCells,Y,Iq]) λj x u hx hu=>?_;let⟨kQ,p⟩:=i j u hu;rw[Jw z.cells _ _ (by rw[f];exact kQ),f] at hx;let⟨H,wS,m⟩:=A.get hx;rw[p] at wS;cases wS;exact m
    let⟨R,I3,q,y⟩:=xY (C:=C) (off:=Q) X.ED hcs hg E (λu hu=>let⟨j,O⟩:=C8 hu;B u (C7 (i j u O).2)) Ab
    have Bd:(ye #[t] o.type #[a.eval s]).run C.P w= wz (.tuple #[]) R:=by
     rw[M];cases k with
     |zero=>
      have F:(zb d.cells 0).toList=[]:=by simp[zb]
      rw[F] at I3;have:R=w:=by rw[(rfl:(storeCells ⟨g,Q,zx⟩ []).run C.P w= wz () w)] at I3;cases I3;rfl
      rw[this];simp[ye,run_underlying ht]
     |succ k=>simp[ye,run_underlying ht,l,I3]
    rw[show k*(n+1)=(yx k z.cells).flatten.length from Iq.symm];exact yk (OK _ _ Bd) ((X.Kz q y).put λ_ _=>trivial)
   .cases N
  .cases N
 .cases N
section
variable{o:Oper}{t e:TypeId}{n:Nat}
def Ş{x:Operand}{lo M:Option Operand}{v r:Ad}{Y:List Ad}{h':Ak}(ho:o.op= .slice t x lo M zx)(ht:C.P.underlying t=zz (.slice e))(MR:Ce C.P e=zz (n+1))
  (hv:BI C U (x::(lo.toList++M.toList))=zz (v::Y)) (K:xB h (n+1) lo.isSome M.isSome v Y=zz (h',r)) (Q:Dp C T V γ Z U h a w):He C T V o a w (U.put o.dst (zp r)) h':=by
 let⟨u,us,c,hx,ş⟩:=(Ez Q hv);simp only[Bn,FU] at c;obtain⟨rfl,rfl⟩:=c;unfold xB at K;split at K
 .rename_i id L k z;split at K
  .rename_i O X;split at K
   .rename_i Jf;obtain⟨rfl,b,aMr⟩:=Jf;let⟨g,J,hg,La,s,ġ,Y6⟩:=(hx);cases R:En lo.isSome M.isSome ((zy O-L)/(n+1)) Y with
    |none=>rw[R] at K;cases K
    |some m=>
     let⟨l,q⟩:=m;rw[R] at K;simp only[CR] at K;split at K
     .rename_i hlt;cases K;let⟨us,c,fr,j,pf,i,F⟩:=Q.ED.cells id O X g hg;let⟨⟨Ġ,D,A,d,E⟩,_⟩:=Q.ED.sz g _ Y6;rw[j] at d;cases d;have wT:O.length<=us.size:=by have:=i.length;simp at this;omega
      have yB:(zy O-L)/(n+1)<=J:=by refine Nat.div_le_of_le_mul ?_;rw[Nat.mul_comm];omega
      have f:∀y:Option Operand,(y.map a.eval).isSome=y.isSome:=λy=>by cases y<;>rfl
      have B:(lo.map a.eval).toList++(M.map a.eval).toList=(lo.toList++M.toList).map a.eval:=by cases lo<;>cases M<;>rfl
      rw[<-f lo,<-f M] at R;let⟨p,H,G⟩:=MB (P:=C.P) (w:=w) (isSlice:=true) R (B▸ş) yB;have PC:vk zq k J (lo.map a.eval) (M.map a.eval) zx=vk zq ((zy O-L)/(n+1)) J (lo.map a.eval) (M.map a.eval) zx:=by
       cases M with
       |none=>cases b
       |some y=>rfl
      have GF:C.P.underlying t=zz (.slice (C.P.elem t)):=by rw[u7,ht]
      have he:C.P.elem t=e:=by rw[u7,ht]
      have Bd:(sy t (a.eval x) (lo.map a.eval) (M.map a.eval) zx).run C.P w= wz (zf (zz ⟨g,L+l*(n+1),zx⟩) (q-l) (J-l)) w:=by rw[La,run_sliceAt_slice w t _ _ _ _ GF,run_slice_any w t _ _ _ GF,PC,p,he,yp,El MR];show Result.ok (pp (if J=l then zz ⟨g,L,zx⟩ else Option.map (λq:Addr=>q.add (l*(n+1))) (zz ⟨g,L,zx⟩)) (q-l) (J-l)) w=_;rw[Aa Ab];simp only[Cb];rw[Addr.add];split<;>simp_all
      refine yk (by simp only[execOp,ho];exact Ea Bd) (Q.put λ_ _=>⟨g,J-l,hg,rfl,Ab,⟨ġ.1,BC (Nat.sub_le _ _) ġ.2⟩,?_⟩);rw[Y6,nB,<-Ch,aR2 Ab]
     .cases K
   .cases K
  .cases K
 .cases K
def Š{x lo hi Y:Operand}{Q:List Ad}(ho:o.op= .slice t x (zz lo) (zz hi) (zz Y))(ht:C.P.underlying t=zz (.slice e))(MR:Ce C.P e=zz (n+1))
  (hv:BI C U [x,lo,hi,Y]=zz Q) (N:aV (n+1) Q=zq) (hr:Dp C T V γ Z U h a w):He C T V o a w (U.put o.dst x8) h:=by
 have GF:C.P.underlying t=zz (.slice (C.P.elem t)):=by rw[u7,ht]
 have he:C.P.elem t=e:=by rw[u7,ht]
 have HT:∀(O:Option Addr) (len L:Nat) (kl kr f:IntKind) (l r m:Int),a.eval x= zf O len L->a.eval lo= .int kl l->a.eval hi= .int kr r->a.eval Y= .int f m->0<=l->l<=r->r<=m->m<=L->He C T V o a w (U.put o.dst x8) h:=by
  intro O len L kl kr f l r m B A z y X R d j;have Bd:∃v,(sy t (a.eval x) (zz (a.eval lo)) (zz (a.eval hi)) (zz (a.eval Y))).run C.P w= wz v w:=by
   have c:0<=m:=Ab;have b:0<=r:=Ab;have b1:∀J,(xr (.int f m) L J).run C.P w= wz m.toNat w:=λJ=>by simp[xr,asIntOf,c,j]
   have b2:∀J,(xr (.int kr r) m.toNat J).run C.P w= wz r.toNat w:=λJ=>by simp[xr,asIntOf,b,Ft c,d]
   have b3:∀J,(xr (.int kl l) r.toNat J).run C.P w= wz l.toNat w:=λJ=>by simp[xr,asIntOf,X,Ft b,R]
   rw[B,A,z,y];simp[sy,Instr.slice,run_underlying ht,vk,b1,b2,b3,El MR]
  let⟨v,Bd⟩:=Bd;exact yk (by simp only[execOp,ho];exact Ea Bd) (hr.put λ_ _=>trivial)
 unfold aV at N;split at N
 .rename_i s _ l _ r _ m;let⟨G,u,f1,g1,F,ir,f2,g2,E,q,f3,g3,D,p,f4,k,f5⟩:=(Ez hr hv);subst f5;simp only[Bn,C1] at f1;subst f4;subst f3;subst f2;simp only[FU,OD] at f1;obtain⟨rfl,rfl,rfl,rfl⟩:=f1;split at N;.simp only[Bs,Cj] at N;let⟨⟨⟨⟨_,X⟩,R⟩,d⟩,j⟩:=N;let⟨g,L,hg,La,i,_⟩:=(show B3 γ _ _ from g1);exact HT _ _ _ _ _ _ _ _ _ La (Fl g2) (Fl g3) (Fl k) X R d Ab
  .simp only[Bs,Cj] at N;let⟨⟨⟨⟨_,X⟩,R⟩,d⟩,j⟩:=N;let⟨H,L,La,i,_⟩:=(show B3 γ _ _ from g1);exact HT _ _ _ _ _ _ _ _ _ La (Fl g2) (Fl g3) (Fl k) X R d Ab
  .cases N
 .cases N
end
def š{o:Oper}{t:TypeId}{x:Operand}{v:Ad}{u:TypeDesc}(j:o.op= .makeInterface t x)(f:C.P.underlying t=zz u)(hn:∀i,u≠ .interface i)(e:BI C U [x]=zz [v])(c:Dp C T V γ Z U h a w):He C T V o a w (U.put o.dst (zp (tg t v))) h:=by
 let⟨_,k,b⟩:=Ib c e;cases k;have l:(t1 t (a.eval x)).run C.P w= wz (tf t (a.eval x)) w:=by cases u<;>simp_all [t1,run_underlying f]
 exact yk (by rw[execOp,j];exact Ea l) (c.put λ_ _=>⟨_,rfl,b⟩)
def Te{n:Int}:∀{y:List (Ad×Ad)} {l:List MapEntry} {i:Nat} {r:Option (Nat×Ad)},M6 γ y l->JQ n y i=zz r->
  match r with
  |zx=>ze (.int zi) (.int zi n) l i=zz zx
  |zz (j,v)=>∃(e:MapEntry),ze (.int zi) (.int zi n) l i=zz (zz (j,e.val))/\B3 γ v e.val/\i<=j/\l[j-i]?=zz e/\e.key= .int zi n
 |[],l,i,r,b,h=>by rw[show l=[] from b];cases h;rfl
 |(k,v)::y,l,i,r,b,h=>by
  obtain⟨e,l',rfl,D,C,g⟩:=b;cases k with
  |int q t=>
   by_cases A:q= zi
   .subst A;rw[JQ] at h;have x:e.key= .int zi t:=D;split at h;.rename_i z;subst z;cases h;exact⟨e,by simp[ze,x,yi],C,Af _,AF,x⟩
    .rename_i z;have w:(n==t)=zm:=zv z
     cases r with
     |none=>simpa[ze,x,yi,w] using (Te g h)
     |some p=>let⟨j,v2⟩:=p;let⟨m,f,d,s,o,c⟩:=(Te g h);refine⟨m,by simpa[ze,x,yi,w] using f,d,Ab,?_,c⟩;grind
   .exfalso;cases q<;>first|exact A rfl|(simp[JQ] at h)
  |_=>simp[JQ] at h
def Ţ{o:Oper}{t K e:TypeId}{m k:Operand}{l s z r:Ad}{ok:Bool}{Y:Ak}(ho:o.op= .lookup t m k ok)(O:C.P.underlying t=zz (.map K e))(H:C.P.underlying K=zz (.int zi))(hz:Ip C.P e=zz z)(ha:BI C U [m,k]=zz [l,s])(B:xC h z ok l s=zz (Y,r))(L:Dp C T V γ Z U h a w):
  He C T V o a w (U.put o.dst (zp r)) Y:=by
 let⟨_,_,e0,X,R⟩:=F8 L ha;cases e0;let⟨g,ģ,f⟩:=Jp hz;have HT:∀(E:Array MapEntry) (q:Option (Nat×Ad)),(xl t (a.eval m) (a.eval k) ok).run C.P w=(MU K e (a.eval k) ok E).run C.P w->
   ∀n,a.eval k= .int zi n->(match q with|zx=>ze (.int zi) (.int zi n) E.toList 0=zz zx|zz (j,v)=>∃(e:MapEntry),ze (.int zi) (.int zi n) E.toList 0=zz (zz (j,e.val))/\B3 γ v e.val/\0<=j/\E.toList[j-0]?=zz e/\e.key= .int zi n)->
   Xe z ok q=r->He C T V o a w (U.put o.dst (zp r)) h:=by
  intro E q J n d Q Ye;have N:∃v,(xl t (a.eval m) (a.eval k) ok).run C.P w= wz v w/\B3 γ r v:=by
   cases q with
   |none=>
    refine⟨if ok then .tuple #[g,.bool zm] else g,?_,?_⟩;.rw[J,d];unfold MU;simp only[Sem.run_bind,Result.andThen_ok,xw (k:= .int .i64 n) H (by rw[xt]) E.isEmpty 9999,MapKept.run_findKey H Q,f,Sem.run_bind,Sem.run_pure]
    .rw[<-Ye];have c:=Gr (γ:=γ) ģ;cases ok with
     |true=>exact⟨_,rfl,_,_,rfl,c,_,_,rfl,rfl,rfl⟩
     |false=>exact c
   |some p=>
    let⟨j,v⟩:=p;let⟨en,x,u,_⟩:=Q;refine⟨if ok then .tuple #[en.val,.bool zq] else en.val,?_,?_⟩;.rw[J,d];unfold MU;simp only[Sem.run_bind,Result.andThen_ok,xw (k:= .int .i64 n) H (by rw[xt]) E.isEmpty 9999,MapKept.run_findKey H x,Sem.run_bind,Sem.run_pure]
    .rw[<-Ye];cases ok with
     |true=>exact⟨_,rfl,_,_,rfl,u,_,_,rfl,rfl,rfl⟩
     |false=>exact u
  let⟨v,N,u_⟩:=N;exact yk (by simp only[execOp,ho];exact Ea N) (L.put λ_ _=>u_)
 unfold xC at B;split at B;next n=>cases B;exact HT #[] zx (by simp only[show a.eval m=_ from X,Instr.lookup,MU,Sem.run_bind,run_underlying O,Result.andThen_ok,Sem.run_pure];rfl) n R rfl rfl
 .rename_i id n;let⟨b,hb,Z_⟩:=X;split at B
  .rename_i E J;let⟨DU,clock,hw,y,_⟩:=L.ED.map id E J b hb;cases M:JQ n E 0 with
   |none=>rw[M] at B;cases B
   |some q=>
    rw[M] at B;simp only[Cb,BN,K6] at B;obtain⟨rfl,B⟩:=B;refine HT DU q (by rw[Z_];simp only[Instr.lookup,MU,Sem.run_bind,run_underlying O,MapKept.run_getObj_map hw,Result.andThen_ok,Sem.run_pure];rfl) n R ?_ ?_
    .have:=Te (i:=0) y M;cases q with
     |none=>exact this
     |some p=>exact this
    .exact B
  .cases B
 .cases B
def M6.yC{k v:Ad}{e:MapEntry}(h:B3 γ k e.key)(f:B3 γ v e.val):∀{d:List (Ad×Ad)} {l:List MapEntry},M6 γ d l->M6 γ (d++[(k,v)]) (l++[e])
 |[],l,b=>by rw[show l=[] from b];exact⟨e,[],rfl,h,f,rfl⟩
 |(k',v')::d,l,b=>by obtain⟨m,l',rfl,j,i,c⟩:=b;exact⟨m,_,rfl,j,i,M6.yC h f c⟩
def M6.length:∀{a:List (Ad×Ad)} {l:List MapEntry},M6 γ a l->zy l=zy a
 |[],l,b=>by rw[show l=[] from b];rfl
 |(k',v')::a,l,b=>by obtain⟨e',l',rfl,h1,h2,c⟩:=b;simp[M6.length c]
def M6.modify{v:Ad}{u:Value}(n:B3 γ v u):∀{d:List (Ad×Ad)} {l:List MapEntry} {j:Nat} {k h:Ad},M6 γ d l->d[j]?=zz (k,h)->M6 γ (d.set j (k,v)) (l.modify j λe=>{e with val:=u})
 |[],l,j,k,h,b,a=>by simp at a
 |(k',v')::d,l,j,k,h,b,a=>by
  obtain⟨p,m,rfl,o,q,c⟩:=b;cases j with
  |zero=>cases a;exact⟨{p with val:=u},m,AF,o,n,c⟩
  |succ j=>exact⟨p,m.modify j _,AF,o,q,M6.modify n c (zv a)⟩
def yD{b:Array MapEntry}{j:Nat}{e:MapEntry}{k:Value}(d:b[j]?=zz e)(c:e.key=k):(b.modify j λe=>{e with key:=k})=b:=by
 apply wQ;intro i;rw[Array.getElem?_modify];split;next f=>subst f;rw[d];simp[<-c]
 .rfl
section
variable{o:Oper}{t kt e:TypeId}{m k:Operand}
def cB{kA z r:Ad}{c:Value}{d:TypeDesc}{h':Ak}{id:Nat}{O:List (Ad×Ad)}{f:Option (Option (Nat×Ad))}(ho:o.op= .mapEntry t m k)(ht:C.P.underlying t=zz (.map kt e))(hk:C.P.underlying kt=zz d)(s:xt d c)(hz:Ip C.P e=zz z)
  (h1:B3 γ (wq (zz id)) (a.eval m)) (n:a.eval k=c) (x:B3 γ kA c) (VB:h[id]?=zz (.map O))
  (hq:∀(l:List MapEntry) q,M6 γ O l->f=zz q->match q with
   |zx=>ze d c l 0=zz zx
   |zz (j,v)=>∃(e:MapEntry),ze d c l 0=zz (zz (j,e.val))/\B3 γ v e.val/\0<=j/\l[j-0]?=zz e/\e.key=c)
  (X:(f.map λr=>match r with
   |zz (i,v)=>(h,Ad.tuple [v,zw zi i])
   |zx=>(h.set id (.map (O++[(kA,z)])),y7 [z,zw zi O.length]))=zz (h',r)) (hr:Dp C T V γ Z U h a w):
  He C T V o a w (U.put o.dst (zp r)) h':=by
 obtain⟨g,ģ,u⟩:=Jp hz;obtain⟨b,hb,Z_⟩:=h1;obtain⟨Y,F,L,y,hB⟩:=hr.ED.map id O VB b hb;cases f with
 |none=>cases X
 |some q=>
  have hq:=hq Y.toList q y rfl;cases q with
  |none=>
   simp only[Cb,BN,K6] at X;obtain⟨rfl,rfl⟩:=X;have Bd:(vy t (a.eval m) (a.eval k)).run C.P w= wz (.tuple #[g,goInt F]) {w with heap:=w.heap.setIfInBounds b (.map (Y.push {key:=c,val:=g,born:=F}) (F+1))}:=by rw[Z_,n];simp[vy,run_underlying ht,yt L,xw (k:=c) hk s zm 9999,yq hk hq,u,yd _ L,xb]
   obtain⟨hi,LQ⟩:=PH (Y0:=O++[(kA,z)]) (ents':=Y.push {key:=c,val:=g,born:=F}) (clock':=F+1) hr.ED VB hb L ⟨by have:=M6.yC (γ:=γ) (k:=kA) (v:=z) (e:={key:=c,val:=g,born:=F}) x (Gr ģ) y;simpa using this,Xr hB⟩
   refine yk (by simp only[execOp,ho];exact Ea Bd) ((hr.Kz hi LQ).put λ_ _=>⟨_,rfl,g,_,rfl,Gr ģ,_,[],rfl,?_,rfl⟩);rw[hB.1];have:=y.length;simp only[CG] at this;rw[<-this];rfl
  |some p=>
   obtain⟨j,v⟩:=p;simp only[Cb,BN,K6] at X;obtain⟨rfl,rfl⟩:=X;obtain⟨en,E,D,_,B,A⟩:=hq;have hj:Y[j]?=zz en:=by simpa using B
   have Å:w.heap.setIfInBounds b (.map Y F)=w.heap:=by
    apply wQ;intro i;rw[Array.getElem?_setIfInBounds];split;.rename_i hi;subst hi;rw[Ae ((Bf.1 L).1),L]
    .rfl
   have Bd:(vy t (a.eval m) (a.eval k)).run C.P w= wz (.tuple #[en.val,goInt j]) w:=by rw[Z_,n];simp[vy,run_underlying ht,yt L,xw (k:=c) hk s zm 9999,yq hk E,hj,A,MapKept.run_keyThatStays (d:=d) (k:=c) s,yd _ L,xb,hB.2 j en hj,yD hj A,Å]
   exact yk (by simp only[execOp,ho];exact Ea Bd) (hr.put λ_ _=>⟨_,rfl,_,_,rfl,D,_,[],rfl,rfl,rfl⟩)
def jo{b c z r:Ad}{j:Ak}(v:o.op= .mapEntry t m k)(u:C.P.underlying t=zz (.map kt e))(x:C.P.underlying kt=zz (.int zi))(s:Ip C.P e=zz z)(A:BI C U [m,k]=zz [b,c])(f:Zq h z b c=zz (j,r))(i:Dp C T V γ Z U h a w):
  He C T V o a w (U.put o.dst (zp r)) j:=by
 let⟨_,_,E,D,B⟩:=F8 i A;cases E;unfold Zq at f;split at f
 .rename_i id n;split at f;.rename_i es F;exact cB (kA:= zw zi n) v u x (by rw[xt]) s D B rfl F (λl q d y=>Te d y) f i
  .cases f
 .cases f
end
def kS{s:Aj}:∀{x:List (Ad×Ad)} {l:List MapEntry} {i:Nat} {r:Option (Nat×Ad)},M6 γ x l->Um s x i=zz r->
  match r with
  |zx=>ze .string (zd ⟨⟨s⟩⟩) l i=zz zx
  |zz (j,v)=>∃(e:MapEntry),ze .string (zd ⟨⟨s⟩⟩) l i=zz (zz (j,e.val))/\B3 γ v e.val/\i<=j/\l[j-i]?=zz e/\e.key= zd ⟨⟨s⟩⟩
 |[],l,i,r,b,h=>by rw[show l=[] from b];cases h;rfl
 |(k,v)::x,l,i,r,b,h=>by
  obtain⟨e,l',rfl,A,z,g⟩:=b;cases k with
  |str t=>
   rw[Um] at h;have u:e.key= zd ⟨⟨t⟩⟩:=A;split at h;next w=>subst w;cases h;exact⟨e,by rw[ze,u,yi,Uw],z,Af _,AF,u⟩
   .rename_i w;cases r with
    |none=>simpa[ze,u,yi,bZ w] using (kS g h)
    |some p=>let⟨j,v2⟩:=p;let⟨m,f,d,o,n,c⟩:=(kS g h);refine⟨m,by simpa[ze,u,yi,bZ w] using f,d,Ab,?_,c⟩;grind
  |_=>simp[Um] at h
def jq{o:Oper}{t i e:TypeId}{m k:Operand}{b c z r:Ad}{p:Ak}(v:o.op= .mapEntry t m k)(u:C.P.underlying t=zz (.map i e))(x:C.P.underlying i=zz .string)(s:Ip C.P e=zz z)(A:BI C U [m,k]=zz [b,c])(f:Zr h z b c=zz (p,r))(j:Dp C T V γ Z U h a w):
  He C T V o a w (U.put o.dst (zp r)) p:=by
 let⟨_,_,E,D,B⟩:=F8 j A;cases E;unfold Zr at f;split at f
 .rename_i id n;split at f;.rename_i es F;exact cB (kA:= .str n) v u x (by simp[xt]) s D B rfl F (λl q d y=>kS d y) f j
  .cases f
 .cases f
def yE{o:Oper}{t B e:TypeId}{m k x:Operand}{f g c r:Ad}{J:Ak}(y:o.op= .insert t m k x\/o.op= .mapUpdate t m k x)(Y:o.dst=zx)(Q:C.P.underlying t=zz (.map B e))(G:C.P.underlying B=zz (.int zi))(ha:BI C U [m,k,x]=zz [f,g,c])
  (p:ue h f g c=zz (J,r)) (v:Dp C T V γ Z U h a w):He C T V o a w U J:=by
 let⟨h1,h2,l⟩:=Ux v ha;have OK:∀A,(y4 t (a.eval m) (a.eval k) (a.eval x)).run C.P w= wz () A->(execOp a.eval o).run C.P w= wz .skip A:=λA E=>by obtain y|y:=y<;>simp[execOp,y,E]
 unfold ue at p;split at p
 .rename_i O n;let⟨b,H,Z_⟩:=h1;split at p
  .rename_i K L;let⟨M,d,D,j,hB⟩:=v.ED.map O K L b H;split at p
   .rename_i X;cases p;have E:(y4 t (a.eval m) (a.eval k) (a.eval x)).run C.P w= wz () {w with heap:=w.heap.setIfInBounds b (.map (M.push {key:= zr zi n,val:=a.eval x,born:=d}) (d+1))}:=by rw[Z_,h2];simp[y4,run_underlying Q,yt D,(xw G (by rw[xt]) zm 9999:(xd zm 10000 B (.int zi n)).run C.P w= wz () w),yq G (Te j X),yd _ D,xb]
    let⟨R,LQ⟩:=PH (Y0:=K++[(zw zi n,c)]) (ents':=M.push {key:= zr zi n,val:=a.eval x,born:=d}) v.ED L H D ⟨have:=M6.yC (k:= zw zi n) (e:={key:= .int zi n,val:=a.eval x,born:=d}) rfl l j;zv this,Xr hB⟩
    exact qm (OK _ E) (by rw[Y];exact v.Kz R LQ)
   .cases p
  .cases p
 .cases p
def nW{b:Array MapEntry}(f:∀(i:Nat) (e:MapEntry),b[i]?=zz e->e.born=i){j:Nat}{e:MapEntry}(d:b[j]?=zz e):b.findIdx? (λe=>(e.born:Int)==(j:Int))=zz j:=by
 rw[Array.findIdx?_eq_some_iff_getElem];let⟨c,he⟩:=Bf.1 d;refine⟨c,?_,λi hi=>?_⟩;.grind
 .have:=f i _ (Es Ab);grind
def jr{o:Oper}{t:TypeId}{m s x:Operand}{f D c r:Ad}{H:Ak}(N:o.op= .entryStore t m s x)(R:o.dst=zx)(X:BI C U [m,s,x]=zz [f,D,c])(d:Vl h f D c=zz (H,r))(q:Dp C T V γ Z U h a w):He C T V o a w U H:=by
 let⟨h1,Y,i⟩:=Ux q X;have OK:∀v,(Instr.entryStore t (a.eval m) (a.eval s) (a.eval x)).run C.P w= wz () v->(execOp a.eval o).run C.P w= wz .skip v:=λv A=>by simp[execOp,N,A]
 unfold Vl at d;split at d
 .rename_i M n;let⟨b,F,Z_⟩:=h1;split at d
  .rename_i J K;split at d
   .rename_i hn;split at d
    .rename_i L v0 E;cases d;let⟨u,k,z,g,G⟩:=q.ED.map M J K b F;have l:=g.length;have hlt:=(Aq.1 E).1;let⟨en,O⟩:=(⟨u[n.toNat]'(by simp at l;omega),Es _⟩:∃en,u[n.toNat]?=zz en);have p:=nW G.2 O;rw[(Ab:((n.toNat:Nat):Int)=n)] at p;have A:(Instr.entryStore t (a.eval m) (a.eval s) (a.eval x)).run C.P w= wz () {w with heap:=w.heap.setIfInBounds b (.map (u.modify n.toNat λe=>{e with val:=a.eval x}) k)}:=by rw[Z_,Y];simp[Instr.entryStore,yt z,asInt,asIntOf,p,yd _ z,xb]
     let⟨Q,LQ⟩:=PH (Y0:=J.set n.toNat (L,c)) (ents':=u.modify n.toNat λe=>{e with val:=a.eval x}) q.ED K F z ⟨have:=M6.modify i g E;zv this,Yf G λ_=>rfl⟩
     exact qm (OK _ A) (by rw[R];exact q.Kz Q LQ)
    .cases d
   .cases d
  .cases d
 .cases d
end
end Go.Am
end
open List renaming getD→y2
open Go.Am.Ad renaming ptr→x6,beq→x9,func→wx,nilIface→uu,agg→rz,Vh→p6,Vi→p7
open Go.Value renaming pointer→zj
open Go.Am.Fb renaming box→xz,skip→qr
open Go.Am.IT renaming step→zh
open Go.Instr renaming sureAddr→rh,fieldAt→r7
open Go.Am.FA renaming wf→yf,load→qs
open Array renaming getD→vz
open Go.Am.Oper renaming YY→vb
open Go.Am.B5 renaming length_drop→rk,RY→qo,Gs→qc,E2→p8
section
namespace Go.Am
open Go
section
variable{C:Hw}{γ0 γ Z:Gh}{w0 w w':World}{O:Nat->Nat}{U U':B5}{h h':Ak}{a:Act}{fid:FuncId}{ops:List Oper}
def He.wp{o:Oper}{K:Act->World->Prop}{Q:Exit->Act->World->Prop}(k:He C γ0 w0 o a w U' h')(b:∀Z c i e,Dp C γ0 w0 Z c U' h' i e->K i e):o.wp C.P a w K Q:=by
 obtain⟨Z,c,e,⟨v,h,f⟩|⟨h,f⟩⟩:=k;.exact KQ h (b _ _ _ _ f)
 .exact iv h (b _ _ _ _ f)
def jC{P:Program}{d:BinOp}{t:TypeId}{p:Pw}(b:S9 P d t=zz p):p.still=zq:=by
 have OR:∀a u,Xf P t a u=zz p->p.still=zq:=by
  intro a u h;unfold Xf at h;split at h;.cases h;rfl
  .split at h
   .cases c:RT P 20 t with
    |none=>rw[c] at h;cases h
    |some k=>rw[c] at h;cases h;rfl
   .cases h
  .split at h<;>cases h;rfl
  .cases h;rfl
  .cases h;rfl
  .cases h;rfl
  .cases h
 rw[S9] at b;split at b;.cases b;rfl
 .cases b;rfl
 .grind
 .cases b
def PI{P:Program}{t:TypeId}{f e:Nat}{d:Option Nat}(a:JR P t f=zz (e,d))(b o:Nat):(r7 t (zj (zz ⟨b,o,zx⟩)) f).run P w= wz (zj (zz ⟨b,o+e,zx⟩)) w:=by
 rw[JR] at a;split at a
 .rename_i fs j;split at a
  .rename_i fd k;split at a;.rename_i n c m h2;cases a;simp[r7,run_underlying j,k,rh,fieldPlace,El m,Addr.add_lit]
   .cases a
  .cases a
 .cases a
section
variable(hr:Dp C γ0 w0 γ O U h a w)
def cC{s b:Nat}{h:List Ad}{e:List Nat}(f:EN C U (.tmp s)=zz (xz b h e)):a.eval (.tmp s)= zj (zz ⟨O s,0,zx⟩):=by have c:=Vs hr s;rw[It f] at c;exact c.1
def Yi{x:Operand}{s k:Nat}(c:EN C U x=zz (.Ge s k)):a.eval x= zj (zz ⟨O s,k,zx⟩):=let⟨t,d,_⟩:=HD hr c;d
end
def kT{o:Oper}{t:TypeId}{v:Ad}{d:Nat}{r:FA}{f:IT->Ak->Option LI}(c:X8 C fid t v d=zz r)(l:r.PD C f (U.drop r.news) h U' h')
  (s:∀n,C.kind fid d= .RS->zy v.cells=n->n≠0->He C γ0 w0 o a w ((U.drop [d]).set d (xz 0 v.cells [])) h)
  (e:zy v.cells≠0->He C γ0 w0 o a w (U.put (zz d) (zp (x6 (zz (zy h,0))))) (h++[zl v.cells])):He C γ0 w0 o a w U' h':=by
 rw[X8] at c;split at c;.cases c
 .rename_i n hn;split at c;.cases c
  .rename_i b;split at c;.cases c;obtain⟨k,rfl,rfl⟩:=l;rename_i m;exact s n m k b
   .cases c;obtain⟨k,rfl,rfl⟩:=l;exact e Ab
def Tf{d s k:Nat}{a:IT->Ak->Option LI}(e:(FA.pure [(d,.Ge s k)]).PD C a (U.drop (FA.pure [(d,.Ge s k)]).news) h U' h'):U'=U.set d (.Ge s k)/\h'=h:=by obtain⟨rfl,rfl⟩:=e;exact⟨rfl,rfl⟩
def ţ{run:IT->Ak->Option LI}(H:F9 C run){o:Oper}{r:FA}{K:Act->World->Prop}{Q:Exit->Act->World->Prop}(hc:HB C fid ops U o=zz r)(Hn:r.PD C run (U.drop r.news) h U' h')(hr:Dp C γ0 w0 γ O U h a w)
  (j:∀Z V a' w',Dp C γ0 w0 Z V U' h' a' w'->K a' w'):o.wp C.P a w K Q:=by
 by_cases I3:∃p args dst BD G,r= .op p args dst BD G/\p.still=zq
 .obtain⟨p,args,dst,BD,G,rfl,q⟩:=I3
  obtain⟨M,rfl,rfl,rfl⟩:=U_ hc q hr
  obtain⟨v,hv,rfl,rfl⟩:=Hn
  obtain⟨u,S,R⟩:=M v hv
  exact KQ S (j _ _ _ _ (hr.put λ_ _=>R))
 .have Zx:∀{p args dst},r= .op p args dst zm zx->p.still=zm:=λ{p args dst} he=>by
   cases hp:p.still with
   |false=>rfl
   |true=>exact absurd ⟨p,args,dst,false,none,he,hp⟩ I3
  have IY:∀{p dst x},Xg p dst x=some r->p.still=false:=λ{p dst x} he=>by
   obtain⟨args,_,e⟩:=EA he
   exact Zx e
  unfold HB at hc
  split at hc
  .rename_i x ho
   split at hc
   .rename_i d hd
    obtain⟨Z,Hi⟩:=Vu hc Hn hr
    exact KQ (w':=w) (v:=a.eval x) (by simp[execOp,ho]) (j _ _ _ _ (by rw[hd];exact Hi))
   .cases hc
  .rename_i x ho
   split at hc
   .rename_i d hd
    obtain⟨Z,Hi⟩:=Vu hc Hn hr
    exact KQ (w':=w) (v:=a.eval x) (by simp[execOp,ho]) (j _ _ _ _ (by rw[hd];exact Hi))
   .cases hc
  .rename_i c x y ho
   split at hc
   .rename_i d hcs hd
    obtain⟨Z,Hi⟩:=Vu hc Hn hr
    obtain⟨s,h1,_⟩:=HD hr hcs
    have h1:a.eval c= .bool true:=h1
    exact KQ (w':=w) (v:=a.eval x) (by simp[execOp,ho,h1,asBool]) (j _ _ _ _ (by rw[hd];exact Hi))
   .rename_i d hcs hd
    obtain⟨Z,Hi⟩:=Vu hc Hn hr
    obtain⟨s,h1,_⟩:=HD hr hcs
    have h1:a.eval c= .bool false:=h1
    exact KQ (w':=w) (v:=a.eval y) (by simp[execOp,ho,h1,asBool]) (j _ _ _ _ (by rw[hd];exact Hi))
   .cases IY hc
  .rename_i t ho
   split at hc
   .rename_i d z hd hz
    split at hc
    .split at hc
     .rename_i Jf
      cases hc
      obtain⟨rfl,rfl⟩:=Hn
      exact(bO ho hd hz Jf.2 hr).wp j
     .cases hc
    .rename_i hk
     refine(kT (o:=o) (a:=a) (w:=w) (γ0:=γ0) (w0:=w0) hc Hn (λn h0 h1 h2=>absurd h0 (by simpa using hk)) λh1=>bP ho hd hz h1 hr).wp j
   .cases hc
  .rename_i t x ho
   split at hc
   .rename_i d v hd hv
    exact(kT (o:=o) (a:=a) (w:=w) (γ0:=γ0) (w0:=w0) hc Hn (λn _ h1 h2=>nO ho hd hv h1 h2 hr) λh1=>nQ ho hd hv h1 hr).wp j
   .cases hc
  .split at hc
   .split at hc
    .cases IY hc
    .cases hc
   .cases hc
  .rename_i t len parts ho
   split at hc
   .rename_i e ht
    split at hc
    .rename_i n hn
     split at hc
     .rename_i Jf
      split at hc
      .rename_i hlen
       cases hc
       obtain⟨v,hv,rfl,rfl⟩:=Hn
       cases hv
       exact(Œ ho ht hn Jf.1 Jf.2 hlen.1 hr).wp j
      cases ha:BI C U (parts.toList.map (·.2)) with
      |none=>rw[ha] at hc;cases hc
      |some args=>
       rw[ha] at hc;cases hc
       obtain⟨v,hv,rfl,rfl⟩:=Hn
       exact(ő ho ht hn Jf.1 Jf.2 ha hv hr).wp j
     .cases hc
    .cases hc
   .cases hc
  .rename_i t x ho
   split at hc
   .rename_i d hd
    by_cases hp:∃ws,r= .pure ws
    .exact(i6 ho hd hc hp Hn hr).wp j
    .unfold Nt at hc
     split at hc
     .rename_i n p ht hx
      cases hc
      obtain⟨v,hv,rfl,rfl⟩:=Hn
      have hs:=Ŏ ho ht hx hv hr
      rw[hd] at hs
      exact hs.wp j
     .split at hc
      .simp only at hc
       split at hc<;>(cases hc;exact absurd ⟨_,rfl⟩ hp)
      .cases hc
     .split at hc
      .cases hc;exact absurd ⟨_,rfl⟩ hp
      .cases hc
     .cases hc
   .cases hc
  .rename_i t x y ho
   split at hc
   .rename_i hd
    have JU:=hc
    unfold K4 at hc
    split at hc
    .rename_i n p v MR hx hv
     cases hc
     obtain⟨aSp,rfl⟩:=Hn
     exact(V_ ho hd MR hx hv aSp hr).wp j
    .split at hc
     .cases hc
      exact(ji ho hd JU Hn hr).wp j
     .cases hc
    .cases hc
   .cases hc
  .rename_i x ho
   split at hc
   .rename_i s ver cs ow d hd hs
    cases hc
    obtain⟨rfl,rfl⟩:=Tf Hn
    have he:=cC hr hs
    exact KQ (w':=w) (v:= .pointer (some ⟨O s,0,none⟩)) (by simp[execOp,ho,he]) (j _ _ _ _ (by rw[hd];exact hr.put (d:=some d) λ_ _=>rfl))
   .rename_i s k d hd hs
    cases hc
    obtain⟨rfl,rfl⟩:=Tf Hn
    have he:=Yi hr hs
    exact KQ (w':=w) (v:= .pointer (some ⟨O s,k,none⟩)) (by simp[execOp,ho,he]) (j _ _ _ _ (by rw[hd];exact hr.put (d:=some d) λ_ _=>rfl))
   .cases IY hc
  .split at hc
   .rename_i p hp
    have q:=IY hc
    rw[jC hp] at q
    cases q
   .cases hc
  .cases IY hc
  .rename_i src aR8 x ho
   split at hc
   .rename_i hq
    unfold aZ at hq
    cases hv:FV C U x with
    |none=>rw[hv] at hc;cases hc
    |some v=>
     rw[hv] at hc;cases hc
     split at hq
     .cases hq
     .cases hq
     .cases hq
     .rename_i e hs hd
      split at hq
      .rename_i he
       obtain⟨v',u,h1,h2,rfl⟩:=Hn
       exact(aDa ho hs hd he hv h1 h2 hr).wp j
      .cases hq
     .split at hq<;>cases hq
     .cases hq
   .rename_i hq
    unfold aZ at hq
    split at hq
    .cases hq
    .cases hq
    .cases hq
    .split at hq<;>cases hq
    .rename_i e hs hd
     split at hq
     .rename_i he _ _
      split at hc
      .cases hv:FV C U x with
       |none=>rw[hv] at hc;cases hc
       |some v=>
        rw[hv] at hc;cases hc
        obtain⟨u,h1,rfl⟩:=Hn
        exact(nV ho hs hd he hv h1 hr).wp j
      .obtain⟨args,ha,rfl⟩:=EA hc
       obtain⟨u,h1,rfl,rfl⟩:=Hn
       obtain⟨v,rfl,_⟩:=Ib hr ha
       exact(aC9 ho hs hd he ha h1 hr).wp j
     .cases hq
    .cases hq
   .rename_i p OT Va hq
    have q:=IY hc
    unfold aZ at hq
    split at hq
    .cases hq;cases q
    .cases hq;cases q
    .cases hq
    .split at hq
     .cases hq;exact absurd rfl OT
     .cases hq
    .split at hq
     .cases hq;exact absurd rfl Va
     .cases hq
    .cases hq
   .cases hc
  .rename_i fn first captured ho
   split at hc
   .rename_i d bp bs fz hd ha hb
    cases hc
    obtain⟨rfl,rfl⟩:=Hn
    exact(xS ho hd ha hb hr).wp j
   .cases hc
  .rename_i t ho
   cases hc
   obtain⟨rfl,rfl⟩:=Hn
   exact(ř ho hr).wp j
  .rename_i t l c ho
   split at hc
   .rename_i e ht
    split at hc
    .rename_i n b z W vc hn hb hz hl Zw
     cases hc
     obtain⟨v,h1,rfl⟩:=Hn
     exact(Ŗ ho ht hn hb hz hl Zw h1 hr).wp j
    .cases hc
   .cases hc
  .rename_i t m k x ho
   split at hc
   .rename_i kt e ht
    split at hc
    .rename_i E F J hd hk ha
     cases hc
     obtain⟨h1,rfl⟩:=Hn
     exact(xW (.inl ho) hd ht hk ha h1 hr).wp j
    .rename_i E F J hd hk ha
     cases hc
     obtain⟨v,h1,rfl⟩:=Hn
     exact(yE (.inl ho) hd ht hk ha h1 hr).wp j
    .cases hc
   .cases hc
  .rename_i t m k x ho
   split at hc
   .rename_i kt e ht
    split at hc
    .rename_i E F J hd hk ha
     cases hc
     obtain⟨h1,rfl⟩:=Hn
     exact(xW (.inr ho) hd ht hk ha h1 hr).wp j
    .rename_i E F J hd hk ha
     cases hc
     obtain⟨v,h1,rfl⟩:=Hn
     exact(yE (.inr ho) hd ht hk ha h1 hr).wp j
    .cases hc
   .cases hc
  .rename_i t m k ok ho
   split at hc
   .rename_i kt e ht
    split at hc
    .rename_i z E F hk hz ha
     cases hc
     obtain⟨v,h1,rfl,rfl⟩:=Hn
     exact(Ś ho ht hk hz ha h1 hr).wp j
    .rename_i z E F hk hz ha
     cases hc
     obtain⟨v,h1,rfl⟩:=Hn
     exact(Ţ ho ht hk hz ha h1 hr).wp j
    .cases hc
   .cases hc
  .rename_i t x lo hi mx ho
   split at hc
   .rename_i e ht
    split at hc
    .rename_i n hn
     obtain⟨args,ha,rfl⟩:=II hc
     obtain⟨v,h1,rfl⟩:=Hn
     simp only[EH] at h1
     split at h1
     .rename_i L
      cases h1
      exact(Š ho ht hn ha L hr).wp j
     .cases h1
    .cases hc
   .cases hc
  .rename_i t x ho
   split at hc
   .cases hc
   .rename_i u hu ht
    obtain⟨args,ha,rfl⟩:=II hc
    obtain⟨v,h1,rfl⟩:=Hn
    obtain⟨y,rfl,_⟩:=Ib hr ha
    cases h1
    exact(š ho ht (λi e=>hu i e) ha hr).wp j
   .cases hc
  .rename_i t m k ho
   split at hc
   .rename_i kt e ht
    split at hc
    .rename_i z hk hz
     obtain⟨args,ha,rfl⟩:=II hc
     obtain⟨v,h1,rfl⟩:=Hn
     obtain⟨B,D,rfl,_,_⟩:=F8 hr ha
     exact(jo ho ht hk hz ha h1 hr).wp j
    .rename_i z hk hz
     obtain⟨args,ha,rfl⟩:=II hc
     obtain⟨v,h1,rfl⟩:=Hn
     obtain⟨B,D,rfl,_,_⟩:=F8 hr ha
     exact(jq ho ht hk hz ha h1 hr).wp j
    .cases hc
   .cases hc
  .rename_i t m s x ho
   split at hc
   .rename_i hd
    obtain⟨args,ha,rfl⟩:=II hc
    obtain⟨v,h1,rfl⟩:=Hn
    obtain⟨B,D,I,rfl⟩:∃B D I,args=[B,D,I]:=by
     have:=Ez hr ha
     cases args with
     |nil=>cases h1
     |cons B l1=>cases l1 with
      |nil=>cases h1
      |cons D T=>cases T with
       |nil=>cases h1
       |cons I l3=>cases l3 with
        |nil=>exact⟨_,_,_,rfl⟩
        |cons _ _=>cases h1
    exact(jr ho hd ha h1 hr).wp j
   .cases hc
  .rename_i t x lo hi ho
   split at hc
   .cases IY hc
   .rename_i e ht
    split at hc
    .rename_i n hn
     split at hc
     .obtain⟨args,ha,rfl⟩:=II hc
      obtain⟨v,h1,rfl⟩:=Hn
      cases args with
      |nil=>cases h1
      |cons y l=>exact(Ş ho ht hn ha h1 hr).wp j
     .cases IY hc
    .cases hc
   .cases hc
  .rename_i t x f ho
   split at hc
   .rename_i off X d hf hd
    split at hc
    .rename_i s ver cs ow hs
     cases hc
     obtain⟨rfl,rfl⟩:=Tf Hn
     have he:=cC hr hs
     exact KQ (w':=w) (v:= .pointer (some ⟨O s,off,none⟩)) (by simp only[execOp,ho,he];exact NY (by rw[PI hf];simp)) (j _ _ _ _ (by rw[hd];exact hr.put (d:=some d) λ_ _=>rfl))
    .rename_i s k hs
     cases hc
     obtain⟨rfl,rfl⟩:=Tf Hn
     have he:=Yi hr hs
     exact KQ (w':=w) (v:= .pointer (some ⟨O s,k+off,none⟩)) (by simp only[execOp,ho,he];exact NY (PI hf _ _)) (j _ _ _ _ (by rw[hd];exact hr.put (d:=some d) λ_ _=>rfl))
    .cases IY hc
   .cases hc
  .split at hc
   .cases IY hc
   .cases hc
  .split at hc
   .split at hc
    .cases IY hc
    .cases hc
   .split at hc
    .split at hc
     .cases hc
     .cases IY hc
    .cases hc
   .cases hc
  .split at hc
   .cases IY hc
   .split at hc
    .cases IY hc
    .cases hc
   .cases hc
  .cases IY hc
  .rename_i c ho
   unfold Un at hc
   split at hc
   .split at hc
    .split at hc
     .cases IY hc
     .cases IY hc
     .cases hc
    .cases hc
   .rename_i hcl
    split at hc
    .rename_i t t' s x h0 h1 FD
     split at hc
     all_goals first
      |(cases hc;done)
      | (rename_i e _ ht GF
         split at hc
         . rename_i n b hn hb
           split at hc
           . rename_i wU
             split at hc
             . rename_i v u ha
               split at hc
               . rename_i GQ
                 split at hc
                 . cases hc
                   obtain ⟨r', A, rfl⟩ := Hn
                   exact (Á ho hcl h0 h1 FD ht (by first | exact .inl ⟨_, GF⟩ | exact .inr GF) hn hb GQ wU ha A hr).wp j
                 . split at hc
                   . cases hc
                     obtain ⟨r', A, rfl, rfl⟩ := Hn
                     exact (xU ho hcl h0 h1 FD ht (by first | exact .inl ⟨_, GF⟩ | exact .inr GF) hn hb GQ wU ha A hr).wp j
                   . cases hc
                     obtain ⟨r', A, rfl, rfl⟩ := Hn
                     exact (jk ho hcl h0 h1 FD ht (by first | exact .inl ⟨_, GF⟩ | exact .inr GF) hn hb GQ wU ha A hr).wp j
               . split at hc
                 . cases hc
                   obtain ⟨r', A, rfl⟩ := Hn
                   exact (Ŝ ho hcl h0 h1 FD ht (by first | exact .inl ⟨_, GF⟩ | exact .inr GF) hn hb wU ha A hr).wp j
                 . cases hc
             . cases hc
           . cases hc
         . cases hc)
    .cases hc
   .rename_i hcl
    split at hc
    .rename_i t t' s x h0 h1 FD
     split at hc
     all_goals first
      |(cases hc;done)
      | (rename_i e _ ht GF
         split at hc
         . rename_i n hn
           obtain ⟨args, ha, rfl⟩ := II hc
           obtain ⟨v, A, rfl⟩ := Hn
           obtain ⟨B, D, rfl, _, _⟩ := F8 hr ha
           exact (ŝ ho hcl h0 h1 FD ht (by first | exact .inl ⟨_, GF⟩ | exact .inr GF) hn ha A hr).wp j
         . cases hc)
    .cases hc
   .rename_i hcl
    split at hc
    .rename_i t s h0 FD
     split at hc
     .rename_i e ht
      split at hc
      .rename_i n z hn hz
       obtain⟨args,ha,rfl⟩:=II hc
       obtain⟨v,A,rfl⟩:=Hn
       obtain⟨B,rfl,_⟩:=Ib hr ha
       exact(Ä ho hcl h0 FD ht hn hz ha A hr).wp j
      .cases hc
     .cases hc
    .cases hc
   .split at hc
    .cases IY hc
    .cases hc
   .split at hc
    .cases IY hc
    .cases hc
   .rename_i f hcl
    split at hc
    .rename_i hf
     split at hc
     .rename_i s i x FD
      split at hc
      .rename_i GQ
       obtain⟨args,ha,rfl⟩:=II hc
       obtain⟨v,A,rfl⟩:=Hn
       exact aDb H ho hcl hf FD GQ ha A hr λZ v w' Hi=>j _ _ _ _ Hi
      .cases hc
     .cases hc
    split at hc
    rotate_left
    .cases hc
    rename_i Ye
    rw[<-Ye] at hcl
    cases ha:BI C U c.args.toList with
    |none=>rw[ha] at hc;cases hc
    |some args=>
     rw[ha] at hc
     simp only[Cb,BN] at hc
     split at hc
     .cases hc
      obtain⟨Iq,N,h1,h2,A,rfl,rfl⟩:=Hn
      exact X_ H ho hcl ha Iq h2 A hr λZ v w' Hi=>j _ _ _ _ Hi
     .cases hc
      obtain⟨N,h1,rfl⟩:=Hn
      exact Ř H ho hcl ha h1 hr λZ v w' Hi=>j _ _ _ _ Hi
   .rename_i g hn hcl
    split at hc
    .rename_i Y args hg ha
     cases hc
     obtain⟨f,args',N,h0,h1,rfl⟩:=Hn
     exact Y_ H ho hcl hg ha h0 h1 hr λZ v w' Hi=>j _ _ _ _ Hi
    .cases hc
   .cases hc
  .cases hc
end
section
variable{C:Hw}{U Z:B5}{j:FuncId}{n:List Oper}
def nX{x:Operand}(h:∀t,x= .tmp t->Z.at t=U.at t):EN C Z x=EN C U x:=by
 cases x with
 |tmp t=>simp[EN,h t rfl]
 |const v=>
  cases v with
  |slice a b c=>cases a<;>cases b<;>cases c<;>rfl
  |_=>rfl
 |global g=>rfl
 |func f=>rfl
def Zz(C:Hw)(U Z:B5)(a:List Operand):Prop:=∀x∈a,EN C Z x=EN C U x
section
variable{xs:List Operand}
def Zz.vg(h:∀t∈LN xs,Z.at t=U.at t):Zz C U Z xs:=λx b=>nX λt c=>h t (by subst c;exact Cz.2 ⟨_,b,rfl⟩)
def Zz.val(h:Zz C U Z xs){x:Operand}(b:x∈xs):FV C Z x=FV C U x:=by unfold FV;rw[h x b]
def Zz.MC(h:Zz C U Z xs):∀{ys:List Operand},(∀y∈ys,y∈xs)->BI C Z ys=BI C U ys
 |[],_=>rfl
 |y::ys,a=>by unfold BI;rw[h.val (a y AF),h.MC λz c=>a z (by simp[c])]
def Zz.move(h:Zz C U Z xs){x:Operand}(c:x∈xs)(d:Nat)(a:Bool):MA C Z x d a=MA C U x d a:=by unfold MA;rw[h x c]
def Zz.BD(h:Zz C U Z xs){x:Operand}(b:x∈xs):M4 C Z x=M4 C U x:=by unfold M4;rw[h x b]
def Zz.Ej(h:Zz C U Z xs){x:Operand}(b:x∈xs):DI Z x=DI U x:=by
 cases x with
 |tmp t=>have:=h _ b;simp[EN,BN] at this;simp[DI,this]
 |_=>rfl
def Zz.HA(h:Zz C U Z xs):∀{ys:List Operand},(∀y∈ys,y∈xs)->Am.HA C Z ys=Am.HA C U ys
 |[],_=>rfl
 |y::ys,a=>by unfold Am.HA;rw[h y (a y AF),h.HA λz c=>a z (by simp[c])]
def Zz.addr(h:Zz C U Z xs){x:Operand}(m:x∈xs)(n:∀s∈(Qr C U x).toList,Z.at s=U.at s)(a:Hz C U x≠zx):Hz C Z x=Hz C U x:=by
 have f:=h x m;cases d:EN C U x with
 |none=>unfold Hz at a;rw[d] at a;cases a (by split<;>simp_all)
 |some l=>
  rw[d] at f;cases l with
  |Ge s o=>
   have e:∀J:B5,EN C J x=zz (.Ge s o)->Hz C J x=match J.at s with| xz c j i=>zz (.RS s o c j i)|_=>zx:=λJ b=>by unfold Hz;rw[b];cases x<;>rfl
   rw[e U d] at a⊢;rw[e Z f];have p:s∈(Qr C U x).toList:=by
    rw[Qr];rw[e U d];cases q:U.at s with
    |box c j i=>simp
    |_=>rw[q] at a;cases a rfl
   rw[n s p]
  |_=>unfold Hz;rw[d,f];cases x<;>rfl
def Zz.load(h:Zz C U Z xs){x:Operand}(e:x∈xs)(j:∀s∈(Qr C U x).toList,Z.at s=U.at s){t:TypeId}{d:Nat}{a:Bool}{r:FA}(b:Nt C U t x d a=zz r):Nt C Z t x d a=zz r:=by
 have f:Hz C U x≠zx:=λi=>by rw[Nt] at b;rw[i] at b;grind
 rw[Nt] at b⊢;rwa[h.addr e j f]
def Zz.store(h:Zz C U Z xs){x y:Operand}(d:x∈xs)(a:y∈xs)(i:∀s∈(Qr C U x).toList,Z.at s=U.at s){t:TypeId}{r:FA}(b:K4 C U t x y=zz r):K4 C Z t x y=zz r:=by
 have e:Hz C U x≠zx:=λf=>by rw[K4] at b;rw[f] at b;grind
 rw[K4] at b⊢;rwa[h.addr d i e,h.val a,h.BD a,h.Ej a]
end
def Zz.call{c:Call}(h:Zz C U Z c.operands.toList)(m:Option Nat):Un C j Z c m=Un C j U c m:=by
 have a:∀y∈c.args.toList,y∈c.operands.toList:=λy f=>by rw[Call.operands];exact Io▸CB _ f
 have l:=h.MC a;unfold Un;split;.rw[l]
 .split
  .rename_i k;have q:∀{s x:Operand},c.args.toList=[s,x]->M4 C Z s=M4 C U s/\DI Z s=DI U s/\BI C Z [s,x]=BI C U [s,x]:=λ{s x} p=>by rw[p] at a;exact⟨h.BD (a s AF),h.Ej (a s AF),h.MC λy f=>a y f⟩
   let⟨e,d,b⟩:=q k;rw[e,d,b]
  .rfl
 .split;.rename_i k;rw[k] at a;rw[h.MC λy f=>a y f]
  .rfl
 .split;.rename_i k;rw[k] at a;rw[h.MC λy f=>a y f]
  .rfl
 .rw[l]
 .rw[l]
 .split
  .split;.rename_i s i v k;rw[k] at a;rw[h.BD (a v AF),h.MC λy f=>a y f]
   .rfl
  .rw[l]
 .rename_i g _ n;have o:g∈c.operands.toList:=by rw[Call.operands];rw[n];simp
  rw[l,h.val o]
 .rfl
def cD{o:Oper}{r:FA}(p:HB C j n U o=zz r)(N:∀t∈LN o.op.operands.toList,Z.at t=U.at t)(K:∀s∈Jn C U o,Z.at s=U.at s):HB C j n Z o=zz r:=by
 have h:Zz C U Z o.op.operands.toList:= .vg N
 unfold HB at p⊢
 cases u:o.op with
 |move x=>
  rw[u] at h
  simp only[u] at p⊢
  have:=λd=>h.move (x:=x) Kl d
  simpa only[this] using p
 |assign x=>
  rw[u] at h
  simp only[u] at p⊢
  have:=λd=>h.move (x:=x) Kl d
  simpa only[this] using p
 |pick c a b=>
  rw[u] at h
  simp only[u] at p⊢
  have Q:=λd=>h.move (x:=a) Kl d
  have O:=λd=>h.move (x:=b) Kl d
  rw[h c Kl,h.MC (ys:=[c,a,b]) Kl]
  simpa only[Q,O] using p
 |alloc t=>rw[u] at p;exact p
 |box t x=>
  rw[u] at h
  simp only[u] at p⊢
  rw[h.val (x:=x) Kl]
  exact p
 |build t z=>
  rw[u] at h
  simp only[u] at p⊢
  rw[h.MC (ys:=z.toList.map (·.2)) Kl]
  exact p
 |buildSlice t len z=>
  rw[u] at h
  simp only[u] at p⊢
  rw[h.MC (ys:=z.toList.map (·.2)) Kl]
  exact p
 |load t x=>
  rw[u] at h
  simp only[u] at p⊢
  split at p
  .exact h.load Kl (λs B=>K s (by simpa only[Jn,u] using B)) p
  .cases p
 |store t x y=>
  rw[u] at h
  simp only[u] at p⊢
  split at p
  .exact h.store Kl Kl (λs B=>K s (by simpa only[Jn,u] using B)) p
  .cases p
 |nilCheck x=>
  rw[u] at h
  simp only[u] at p⊢
  have e:=h.MC (ys:=[x]) Kl
  rw[h x Kl]
  cases B:EN C U x with
  |none=>rw[B] at p;cases x<;>cases D:o.dst<;>rw[D] at p<;>first|exact p|(show Xg _ _ (BI C Z [_])=zz r;rw[e];exact p)
  |some F=>rw[B] at p;cases F<;>cases x<;>cases D:o.dst<;>rw[D] at p<;>first|exact p|(show Xg _ _ (BI C Z [_])=zz r;rw[e];exact p)
 |binOp M t x y k=>
  rw[u] at h
  simp only[u] at p⊢
  rw[h.MC (ys:=[x,y]) Kl]
  exact p
 |unOp M t x=>
  rw[u] at h
  simp only[u] at p⊢
  rw[h.MC (ys:=[x]) Kl]
  exact p
 |convert src dst x=>
  rw[u] at h
  simp only[u] at p⊢
  rw[h.MC (ys:=[x]) Kl,h.val (x:=x) Kl]
  exact p
 |makeFunc fn first A=>
  rw[u] at h
  simp only[u] at p⊢
  rw[h.MC (ys:=first.toList) (λ_ H=>by simp[Op.operands,H]),h.HA (ys:=A.toList) (λ_ H=>by simp[Op.operands,H])]
  exact p
 |makeMap t L=>
  rw[u] at p
  cases L with
  |none=>exact p
  |some _=>cases p
 |makeSlice t l c=>
  rw[u] at h
  simp only[u] at p⊢
  rw[h.val (x:=l) Kl,h.val (x:=c) Kl]
  exact p
 |insert t m k v=>
  rw[u] at h
  simp only[u] at p⊢
  rw[h.MC (ys:=[m,k,v]) Kl]
  exact p
 |mapUpdate t m k v=>
  rw[u] at h
  simp only[u] at p⊢
  rw[h.MC (ys:=[m,k,v]) Kl]
  exact p
 |lookup t m k ok=>
  rw[u] at h
  simp only[u] at p⊢
  rw[h.MC (ys:=[m,k]) Kl]
  exact p
 |slice t x lo E G=>
  rw[u] at h p
  cases G with
  |none=>
   have e:=h.MC (ys:=x::(lo.toList++E.toList)) (by cases lo<;>cases E<;>simp[Op.operands])
   simp only at p⊢
   rw[e]
   exact p
  |some G=>cases lo with
   |none=>cases p
   |some lo=>cases E with
    |none=>cases p
    |some E=>
     have e:=h.MC (ys:=[x,lo,E,G]) Kl
     simp only at p⊢
     rw[e]
     exact p
 |makeInterface t x=>
  rw[u] at h
  simp only[u] at p⊢
  rw[h.MC (ys:=[x]) Kl]
  exact p
 |mapEntry t m k=>
  rw[u] at h
  simp only[u] at p⊢
  rw[h.MC (ys:=[m,k]) Kl]
  exact p
 |entryStore t m s v=>
  rw[u] at h
  simp only[u] at p⊢
  rw[h.MC (ys:=[m,s,v]) Kl]
  exact p
 |fieldAddr t x f=>
  rw[u] at h
  simp only[u] at p⊢
  have e:=h.MC (ys:=[x]) Kl
  rw[h x Kl]
  cases J:JR C.P t f with
  |none=>rw[J] at p;cases p
  |some q=>
   rw[J] at p
   cases D:o.dst with
   |none=>rw[D] at p;cases p
   |some d=>
    rw[D] at p
    cases B:EN C U x with
    |none=>rw[B] at p;cases x<;>first|exact p|(show Xg _ _ (BI C Z [_])=some r;rw[e];exact p)
    |some F=>rw[B] at p;cases F<;>cases x<;>first|exact p|(show Xg _ _ (BI C Z [_])=some r;rw[e];exact p)
 |field t x f=>
  rw[u] at h
  simp only[u] at p⊢
  rw[h.MC (ys:=[x]) Kl]
  exact p
 |indexAddr t x i=>
  rw[u] at h
  simp only[u] at p⊢
  rw[h.MC (ys:=[x,i]) Kl]
  exact p
 |index t x i=>
  rw[u] at h
  simp only[u] at p⊢
  rw[h.MC (ys:=[x,i]) Kl]
  exact p
 |extract x i=>
  rw[u] at h
  simp only[u] at p⊢
  rw[h.MC (ys:=[x]) Kl]
  exact p
 |call c=>
  rw[u] at h
  simp only[u] at p⊢
  rw[h.call]
  exact p
 |_=>simp only[u] at p;cases p
end
mutual
def Ad.beq_eq:∀{a b:Ad},x9 a b=zq->a=b
 | z1 a,b,h=>by cases b<;>simp[x9] at h⊢;exact h
 | zw k a,b,h=>by cases b<;>simp[x9] at h⊢;exact h
 | .str a,b,h=>by cases b<;>simp[x9] at h⊢;exact h
 | x6 a,b,h=>by cases b<;>simp[x9] at h⊢;exact h
 | .FT a,b,h=>by cases b<;>simp[x9] at h⊢;exact h
 | .CO a,b,h=>by cases b<;>simp[x9] at h⊢;exact Ad.QD h
 | .sl n a,b,h=>by cases b<;>simp[x9] at h⊢;exact⟨h.1,Ad.yF h.2⟩
 | wl,b,h=>by cases b<;>simp[x9] at h⊢
 | .CK a c d e,b,h=>by cases b<;>simp[x9] at h⊢;exact⟨h.1.1.1,h.1.1.2,h.1.2,h.2⟩
 | wq a,b,h=>by cases b<;>simp[x9] at h⊢;exact h
 | wx f a c,b,h=>by cases b<;>simp[x9] at h⊢;exact⟨h.1.1,Ad.QD h.1.2,Ad.QD h.2⟩
 | .nilFunc,b,h=>by cases b<;>simp[x9] at h⊢
 | tg t a,b,h=>by cases b<;>simp[x9] at h⊢;exact⟨h.1,Ad.beq_eq h.2⟩
 | uu,b,h=>by cases b<;>simp[x9] at h⊢
 | rz a,b,h=>by cases b<;>simp[x9] at h⊢;exact Ad.QD h
 | y7 a,b,h=>by cases b<;>simp[x9] at h⊢;exact Ad.QD h
def Ad.QD:∀{a b:List Ad},p6 a b=zq->a=b
 |[],b,h=>by cases b<;>simp[p6] at h⊢
 |a::x,b,h=>by
  cases b with
  |nil=>simp[p6] at h
  |cons c y=>simp[p6] at h⊢;exact⟨Ad.beq_eq h.1,Ad.QD h.2⟩
def Ad.yF:∀{a b:List (List Ad)},p7 a b=zq->a=b
 |[],b,h=>by cases b<;>simp[p7] at h⊢
 |a::x,b,h=>by
  cases b with
  |nil=>simp[p7] at h
  |cons c y=>simp[p7] at h⊢;exact⟨Ad.QD h.1,Ad.yF h.2⟩
end
def B5.Lw(U:B5):∀(a b:List (Nat×Fb)),U.E2 (a++b)=(U.E2 a).E2 b
 |[],_=>rfl
 |(s,x)::a,b=>B5.Lw (U.set s x) a b
def B5.Lx:∀(a:List (Nat×Fb)) (U:B5),(U.E2 a).length=zy U
 |[],_=>rfl
 |(s,x)::a,U=>by rw[p8,B5.Lx a];simp
def B5.cE(U:B5)(s t:Nat)(x:Fb):B5.at (U.set s x) t=if s=t/\t<zy U then x else U.at t:=by
 by_cases h:s=t
 .subst h;by_cases b:s<zy U;.simp[B5.at,y2,b]
  .simp[B5.at,y2,b]
 .simp[B5.at,y2,Av h,h]
def B5.Ic:∀(a:List (Nat×Fb)) (U:B5) (t:Nat),(∀p∈a,p.1≠t)->(U.E2 a).at t=U.at t
 |[],_,_,_=>rfl
 |(s,x)::a,U,t,h=>by rw[p8,B5.Ic a _ t λp b=>h p (by simp[b]),B5.cE,Aa];simp_all
def B5.cF:∀(a:List (Nat×Fb)) (U:B5) (t:Nat),(U.E2 a).at t=U.at t\/∃p∈a,p.1=t/\(U.E2 a).at t=p.2
 |[],_,_=> ym rfl
 |(s,x)::a,U,t=>by
  obtain h|⟨p,e,i,f⟩:=B5.cF a (U.set s x) t
  .rw[B5.cE] at h;by_cases b:s=t/\t<zy U;.rw[Ae b] at h;exact yg ⟨(s,x),AF,b.1,h⟩
   .rw[Aa b] at h;exact ym h
  .exact yg ⟨p,by simp[e],i,f⟩
def B5.KR:∀(a:List (Nat×Fb)) (U Z:B5) (t:Nat),zy Z=zy U->Z.at t=U.at t->(Z.E2 a).at t=(U.E2 a).at t
 |[],_,_,_,_,h=>h
 |(s,x)::a,U,Z,t,b,h=>by refine B5.KR a _ _ t (zv b) ?_;rw[B5.cE,B5.cE,b,h]
def B5.ext{U Z:B5}(a:zy Z=zy U)(h:∀t,Z.at t=U.at t):Z=U:=by apply List.ext_getElem a;intro i c b;have:=h i;simpa[B5.at,y2,c,b] using this
def B5.Æ{U:B5}{a b:List (Nat×Fb)}(h:∀p∈a,∀q∈b,p.1≠q.1):(U.E2 a).E2 b=(U.E2 b).E2 a:=by
 refine B5.ext (by simp[B5.Lx]) λt=>?_;by_cases f:∀p∈a,p.1≠t;.rw[B5.Ic a (U.E2 b) t f];exact B5.KR b _ _ t (by rw[B5.Lx]) (B5.Ic a U t f)
 .have⟨p,d,c⟩:∃p∈a,p.1=t:=Mw λk=>f λp d e=>k ⟨p,d,e⟩;have i:∀q∈b,q.1≠t:=λq j e=>h p d q j (by rw[c,e]);exact B5.Ic b (U.E2 a) t i▸(B5.KR a _ _ t (by rw[B5.Lx]) (B5.Ic b U t i)).symm
def QE{U:B5}{c:List Nat}:Pf U c=zq↔∀x t o,U.at x= .Ge t o->t∉c:=by
 rw[Pf];rw[EE];constructor
 .intro h x t o d;by_cases b:x<zy U;.have:=h (U.at x) (by simp[B5.at,y2,b]);grind
  .simp[B5.at,y2,b] at d
 .intro h s e;let⟨i,f⟩:=C8 e;cases s with
  |Ge t o=>have:=h i t o (by simp[B5.at,y2,f]);grind
  |_=>rfl
def Ç{a b:List Nat}:bE a b=zq↔∃x,x∈a/\x∈b:=by simp[bE]
structure St where
 idx:Nat
 fp:FP
 fl:Option Mq
def MV(i:Nat)(r:FA)(U:B5):Option Mq:=
 match r with
 | qs n p (zz d)=>match U.at d with
  | zp v=>zz {idx:=i,n,p,v}
  |_=>zx
 |_=>zx
def cG(i:Nat)(r:FA)(U:B5)(b:List Mq):OQ i r U b=(MV i r U).toList++b:=by
 cases r with
 |load n p a=>
  cases a with
  |none=>rfl
  |some d=>rw[OQ,MV];cases U.at d<;>rfl
 |_=>rfl
def jD{i:Nat}{r:FA}{U Z:B5}(h:∀d∈r.wf,Z.at d=U.at d):MV i r Z=MV i r U:=by
 cases r with
 |load n p a=>
  cases a with
  |none=>rfl
  |some d=>simp[MV];rw[h d (by simp[yf])]
 |_=>rfl
def OV(d:Option Nat)(U a:B5):Prop:=
 match d with
 |zx=>a=U
 |zz d=>match U.at d with
  | zp v=>∃b,v= z1 b/\a=U.set d (.RO b)
  |_=>a=U
section
variable{C:Hw}{L:FuncId}{a:List Oper}{w:IT->Ak->Option LI}{U Z J:B5}{h K:Ak}
def Sb(C:Hw)(L:FuncId)(a:List Oper)(w:IT->Ak->Option LI)(s:St)(U:B5)(h:Ak)(J:B5)(K:Ak):Prop:=
 ∃o,a[s.idx]?=zz o/\
  ((Kj a U o = .Py zm /\ s.fp = YZ C a U o zx /\ s.fl = zx /\ J = U.put o.dst qr /\ K = h) \/
   ∃ r b, Kj a U o = .Py zq /\ HB C L a U o = zz r /\ s.fp = YZ C a U o (zz r) /\ r.PD C w (U.drop r.news) h b K /\ s.fl = MV s.idx r b /\
     OV (if Vp a s.idx then o.dst else zx) b J)
def cH(U:B5)(d:Option Nat)(x:Fb):U.put d x=U.E2 (d.toList.map λs=>(s,x)):=by cases d<;>rfl
def È(U:B5)(d:Option (Nat×Ad)):U.Ej d=U.E2 (d.toList.map λp=>(p.1,zp p.2)):=by cases d<;>rfl
def kU{r:FA}(E:r.PD C w U h J K):∃F,J=U.E2 F/\(∀p∈F,p.1∈r.wf)/\(∀p∈F,∀t o,p.2= .Ge t o->t∈r.uh)/\∀Z,r.PD C w Z h (Z.E2 F) K:=by
 have B:∀(d:Option Nat) (x:Fb),(∀t o,x≠ .Ge t o)->J=U.put d x->d.toList⊆r.wf->(∀Z,r.PD C w Z h (Z.put d x) K)->
   ∃F,J=U.E2 F/\(∀p∈F,p.1∈r.wf)/\(∀p∈F,∀t o,p.2= .Ge t o->t∈r.uh)/\∀Z,r.PD C w Z h (Z.E2 F) K:=by
  intro d x Q V R T;refine⟨d.toList.map λs=>(s,x),by rw[<-cH];exact V,λp A=>?_,λp A t o H=>?_,λZ=>by rw[<-cH];exact T Z⟩;.obtain⟨s,L,rfl⟩:=Bv.1 A;exact R L
  .obtain⟨s,L,rfl⟩:=Bv.1 A;cases (Q t o) H
 have KO:∀(i:Option (Nat×Ad)) (d:Option Nat) (x:Fb),(∀t o,x≠ .Ge t o)->J=(U.Ej i).put d x->d.toList⊆r.wf->(i.map (·.1)).toList⊆r.wf->(∀Z,r.PD C w Z h ((Z.Ej i).put d x) K)->
   ∃F,J=U.E2 F/\(∀p∈F,p.1∈r.wf)/\(∀p∈F,∀t o,p.2= .Ge t o->t∈r.uh)/\∀Z,r.PD C w Z h (Z.E2 F) K:=by
  intro i d x Q V R Y T;have e:∀Z:B5,(Z.Ej i).put d x=Z.E2 ((i.toList.map λp=>(p.1,zp p.2))++d.toList.map λs=>(s,x)):=λZ=>by rw[B5.Lw,<-È,<-cH]
  refine⟨_,by rw[V,e],λp A=>?_,λp A t o H=>?_,λZ=>by rw[<-e];exact T Z⟩
  .rcases AA.1 A with A|A
   .obtain⟨q,P,rfl⟩:=Bv.1 A;exact Y (by cases i<;>simp_all)
   .obtain⟨s,L,rfl⟩:=Bv.1 A;exact R L
  .rcases AA.1 A with A|A
   .obtain⟨q,P,rfl⟩:=Bv.1 A;cases H
   .obtain⟨s,L,rfl⟩:=Bv.1 A;cases (Q t o) H
 cases r with
 |pure F=>obtain⟨rfl,rfl⟩:=E;refine⟨F,rfl,λp A=>Bv.2 ⟨p,A,rfl⟩,λp A t o H=>?_,λZ=>⟨rfl,rfl⟩⟩;exact Cz.2 ⟨p.2,Bv.2 ⟨p,A,rfl⟩,by rw[H]⟩
 |op p G a BD i=>obtain⟨v,D,rfl,rfl⟩:=E;exact KO i a _ (by cases BD<;>simp) rfl (by simp[yf]) (by simp[yf]) λZ=>⟨v,D,rfl,rfl⟩
 |box n v d=>obtain⟨M,rfl,rfl⟩:=E;exact B (zz d) _ AF rfl (by simp[yf]) λZ=>⟨M,rfl,rfl⟩
 |closure fn x b y d=>
  obtain⟨rfl,rfl⟩:=E;refine⟨(y.map λ(s,cs)=>(s,zp (.CO cs)))++[(d,zp (wx fn x b))],by rw[B5.Lw];rfl,λp A=>?_,λp A t o H=>?_,λZ=>⟨by rw[B5.Lw];rfl,rfl⟩⟩
  .rcases AA.1 A with A|A
   .obtain⟨q,P,rfl⟩:=Bv.1 A;exact aQ9 _ (Bv.2 ⟨q,P,rfl⟩)
   .simp at A;subst A;simp[yf]
  .rcases AA.1 A with A|A
   .obtain⟨q,P,rfl⟩:=Bv.1 A;cases H
   .simp at A;subst A;cases H
 |Pe s off n v BD i ver cells owned=>obtain⟨M,rfl,rfl⟩:=E;exact KO i (zz s) _ AF rfl (by simp[yf]) (by simp[yf]) λZ=>⟨M,rfl,rfl⟩
 |load n p a=>obtain⟨v,D,rfl,rfl⟩:=E;exact B a _ AF rfl (by simp[yf]) λZ=>⟨v,D,rfl,rfl⟩
 |store n p v=>obtain⟨D,rfl⟩:=E;exact B zx x8 AF rfl AF λZ=>⟨D,rfl⟩
 |alloc n v a=>obtain⟨M,rfl,rfl⟩:=E;exact B a _ AF rfl (by simp[yf]) λZ=>⟨M,rfl,rfl⟩
 |call f G a=>obtain⟨v,D,rfl⟩:=E;exact B a _ (by intro t o;split<;>simp) rfl (by simp[yf]) λZ=>⟨v,D,rfl⟩
 |Mp g G a=>obtain⟨f,x,v,O,N,rfl⟩:=E;exact B a _ AF rfl (by simp[yf]) λZ=>⟨f,x,v,O,N,rfl⟩
 |BG f G a=>obtain⟨Iq,v,O,N,j,rfl,rfl⟩:=E;exact B a _ AF rfl (by simp[yf]) λZ=>⟨Iq,v,O,N,j,rfl,rfl⟩
 |RQ a=>obtain⟨rfl,rfl⟩:=E;exact B a _ AF rfl (by simp[yf]) λZ=>⟨rfl,rfl⟩
 |Me m k v=>obtain⟨D,rfl⟩:=E;exact B zx x8 AF rfl AF λZ=>⟨D,rfl⟩
 |N7 z ok m k a=>obtain⟨v,D,rfl,rfl⟩:=E;exact B a _ AF rfl (by simp[yf]) λZ=>⟨v,D,rfl,rfl⟩
 |make z b zero l c a=>obtain⟨v,D,rfl⟩:=E;exact B a _ AF rfl (by simp[yf]) λZ=>⟨v,D,rfl⟩
 |M3 z b s x a i=>obtain⟨v,D,rfl⟩:=E;exact KO i a _ AF rfl (by simp[yf]) (by simp[yf]) λZ=>⟨v,D,rfl⟩
 |Kh z b s x a=>obtain⟨v,D,rfl⟩:=E;exact B a _ AF rfl (by simp[yf]) λZ=>⟨v,D,rfl⟩
 |HL z b s x a i=>obtain⟨v,D,rfl,rfl⟩:=E;exact KO i a _ AF rfl (by simp[yf]) (by simp[yf]) λZ=>⟨v,D,rfl,rfl⟩
 |FZ s a=>obtain⟨v,D,rfl⟩:=E;exact B a _ AF rfl (by simp[yf]) λZ=>⟨v,D,rfl⟩
 |aQ s a=>obtain⟨v,u,O,N,rfl⟩:=E;exact B a _ AF rfl (by simp[yf]) λZ=>⟨v,u,O,N,rfl⟩
 |mem o G a=>obtain⟨v,D,rfl⟩:=E;exact B a _ (by intro t o';split<;>simp) rfl (by simp[yf]) λZ=>⟨v,D,rfl⟩
def Xs{r:FA}(l:r.PD C w U h J K)(u:r.U9=zm):K=h/\
  (r.hl=zm->∀a,r.PD C w U a J a)/\
  ∀n p d,r= qs n p (zz d)->∃v,A8 h n p=zz v/\J=U.set d (zp v)/\∀a,A8 a n p=zz v->r.PD C w U a J a:=by
 cases r<;>simp[FA.U9] at u<;>try(cases AR u)
 case pure ws=>obtain⟨rfl,rfl⟩:=l;exact⟨rfl,λ_ _=>⟨rfl,rfl⟩,AF⟩
 case op p q o BD g=>obtain⟨v,t,rfl,rfl⟩:=l;exact⟨rfl,λ_ _=>⟨v,t,rfl,rfl⟩,AF⟩
 case box n v d=>obtain⟨y,rfl,rfl⟩:=l;exact⟨rfl,λ_ _=>⟨y,rfl,rfl⟩,AF⟩
 case closure fn x b j d=>obtain⟨rfl,rfl⟩:=l;exact⟨rfl,λ_ _=>⟨rfl,rfl⟩,AF⟩
 case Pe s off n v BD g ver cells owned=>obtain⟨y,rfl,rfl⟩:=l;exact⟨rfl,λ_ _=>⟨y,rfl,rfl⟩,AF⟩
 case load n p o=>obtain⟨v,t,rfl,rfl⟩:=l;refine⟨rfl,λc=>absurd c (by simp[FA.hl]),λn' p' d u=>?_⟩;cases u;exact⟨v,t,rfl,λa e=>⟨v,e,rfl,rfl⟩⟩
 case N7 z ok m k o=>obtain⟨v,t,rfl,rfl⟩:=l;exact⟨rfl,λc=>absurd c (by simp[FA.hl]),AF⟩
 case BG f q o=>obtain⟨D,v,B,a,i,rfl,rfl⟩:=l;exact⟨rfl,λ_ _=>⟨D,v,B,a,i,rfl,rfl⟩,AF⟩
def Yj{a:List Nat}(d:Pf U a=zq):U.drop a=U:=by
 refine B5.ext (rk U a) λt=>?_;rw[B5.Vx];cases c:U.at t with
 |Ge b o=>have:=QE.1 d t b o c;simp[this]
 |_=>rfl
def TY{o:Oper}(h:∀t∈GI a o,Z.at t=U.at t):Kj a Z o=Kj a U o:=by
 unfold Kj;rw[GI] at h;cases hg:o.guard with
 |none=>rfl
 |some g=>
  let⟨j,want⟩:=g;simp only at h⊢;cases hd:(a[j]?).bind (·.dst) with
  |none=>rfl
  |some s=>grind
def Y8{o:Oper}{r:FA}(b:HB C L a U o=zz r)(i:∀t∈LN o.op.operands.toList,Z.at t=U.at t)(c:∀s∈Jn C U o,Z.at s=U.at s):Jn C Z o=Jn C U o:=by
 have h:Zz C U Z o.op.operands.toList:= .vg i
 unfold Jn at c⊢
 cases d:o.op with
 |load t x=>
  rw[d] at h c
  simp only at c⊢
  have e:Hz C U x≠zx:=λf=>by
   rw[HB] at b
   simp[d] at b
   split at b
   .unfold Nt at b;rw[f] at b;split at b<;>simp_all
   .cases b
  unfold Qr
  rw[h.addr Kl c e]
 |store t x y=>
  rw[d] at h c
  simp only at c⊢
  have e:Hz C U x≠zx:=λf=>by
   rw[HB] at b
   simp[d] at b
   split at b
   .unfold K4 at b;rw[f] at b;split at b<;>simp_all
   .cases b
  unfold Qr
  rw[h.addr Kl c e]
 |_=>rfl
def Yk{a:List Fb}{t o:Nat}(h: .Ge t o∈a):t∈Zt a:=Cz.2 ⟨_,h,rfl⟩
def Sb.spec{s:St}(hs:Sb C L a w s U h J K)(hf:s.fp.Xl=zq):
  ∃ws,J=U.E2 ws/\(∀p∈ws,p.1∈s.fp.wf)/\(∀p∈ws,∀t o,p.2= .Ge t o->t∈s.fp.lr)/\(∀x∈s.fp.wf,∀t o,U.at x= .Ge t o->t∈s.fp.lr)/\Pf U s.fp.news=zq/\(s.fp.U9=zm->K=h)/\
   (s.fp.U9=zm->s.fp.hl=zq->∃f,s.fl=zz f)/\
   ∀(Z:B5) (Q T:Ak),Z.length=U.length->(∀x∈s.fp.rs++s.fp.wf,Z.at x=U.at x)->Pf Z s.fp.news=zq->
    ((Q=h/\T=K)\/(s.fp.U9=zm/\T=Q/\(s.fp.hl=zq->∀f,s.fl=zz f->A8 Q f.n f.p=zz f.v)))->Sb C L a w s Z Q (Z.E2 ws) T:=by
 obtain⟨o,ho,⟨hg,j,Iq,rfl,rfl⟩|⟨r,U1,hg,hc,j,hd,Iq,Y⟩⟩:=hs
 .rw[j] at hf⊢;refine⟨o.dst.toList.map λd=>(d,qr),cH _ _ _,λp N=>?_,λp N t k O=>?_,λx V t k O=>?_,QE.2 (by simp[YZ]),λ_=>rfl,λ_ i=>absurd i (by simp[YZ]),λZ Q T P R _ KA=>?_⟩;.obtain⟨d,hd,rfl⟩:=Bv.1 N;exact hd
  .obtain⟨d,hd,rfl⟩:=Bv.1 N;cases O
  .exact Yk (o:=k) (Bv.2 ⟨x,V,O⟩)
  .have i:T=Q:=by rcases KA with⟨D,B⟩|⟨_,e,_⟩<;>first|exact e|rw[D,B]
   refine⟨o,ho,ym ⟨?_,?_,Iq,(cH _ _ _).symm,i⟩⟩;.rw[TY λt M=>R t (DA _ M)];exact hg
   .rw[j];have e:o.dst.toList.map Z.at=o.dst.toList.map U.at:=j3 λx V=>R x (CB _ V);simp only[YZ,e]
 .rw[j] at hf⊢;have Ŧ:r.Xl U=true:=hf;have Rg:Pf U r.news=zq:=by unfold FA.Xl at Ŧ;rw[Bs] at Ŧ;exact Ŧ.1
  rw[Yj Rg] at hd;obtain⟨X,rfl,hw,A,nG⟩:=kU hd;have aSq:∃g:List (Nat×Fb),J=(U.E2 X).E2 g/\(∀p∈g,o.dst=zz p.1/\∃b,p.2= .RO b)/\∀Z:B5,Z.length=U.length->(∀x∈r.wf++o.dst.toList,Z.at x=U.at x)->OV (if Vp a s.idx then o.dst else zx) (Z.E2 X) ((Z.E2 X).E2 g):=by
   by_cases c:Vp a s.idx=zq
   .rw[Ae c] at Y;cases VE:o.dst with
    |none=>rw[VE] at Y;exact⟨[],Y,AF,λZ _ _=>by simp[c,OV,p8]⟩
    |some d=>
     rw[VE] at Y;simp only[OV] at Y;have u:∀Z:B5,Z.length=U.length->(∀x∈r.wf++[d],Z.at x=U.at x)->(Z.E2 X).at d=(U.E2 X).at d:=λZ O R=>B5.KR X U Z d O (R d AF);cases V:(U.E2 X).at d with
     |val v=>rw[V] at Y;obtain⟨b,rfl,rfl⟩:=Y;refine⟨[(d,.RO b)],rfl,AF,λZ O R=>?_⟩;simp only[c,BV,OV];rw[u Z O R,V];exact⟨b,rfl,rfl⟩
     |_=>rw[V] at Y;refine⟨[],Y,AF,λZ O R=>?_⟩;simp only[c,BV,OV];rw[u Z O R,V];rfl
   .rw[Aa c] at Y;exact⟨[],Y,AF,λZ _ _=>by rw[Aa c];rfl⟩
  obtain⟨g,rfl,Ť,aMA⟩:=aSq;have q:r.hl=zq->∃n p d,r= .load n p (zz d)/\d<U.length:=λi=>by
   unfold FA.Xl at Ŧ;rw[Bs] at Ŧ;cases r with
   |load n p dst=>
    cases dst with
    |none=>cases AF Ŧ.2
    |some d=>exact⟨n,p,d,rfl,by simpa using Ŧ.2⟩
   |N7 _ _ _ _ _=>cases AF Ŧ.2
   |_=>simp[FA.hl] at i
  have aMB:r.U9=zm->∀n p d,r= .load n p (zz d)->d<U.length->∃v,A8 h n p=zz v/\s.fl=zz {idx:=s.idx,n,p,v}:=by intro he n p d hr gq;obtain⟨v,y,m,_⟩:=(Xs hd he).2.2 n p d hr;refine⟨v,y,?_⟩;rw[Iq,hr];simp only[MV];rw[m,qc gq]
  have aSr:∀(Z:B5) Q T,((Q=h/\T=K)\/(r.U9=zm/\T=Q/\(r.hl=zq->∀f,s.fl=zz f->A8 Q f.n f.p=zz f.v)))->r.PD C w Z Q (Z.E2 X) T:=by
   intro Z Q T KA;rcases KA with⟨rfl,rfl⟩|⟨he,rfl,Ye⟩
   .exact nG Z
   .obtain⟨_,H,G⟩:=Xs (nG Z) he;cases i:r.hl with
    |false=>exact H i _
    |true=>obtain⟨n,p,d,hr,gq⟩:=q i;obtain⟨v,y,m⟩:=aMB he n p d hr gq;obtain⟨v',E,_,F⟩:=G n p d hr;rw[y] at E;cases E;exact F _ (Ye i _ m)
  refine⟨X++g,by rw[B5.Lw],λp N=>?_,λp N t k O=>?_,λx V t k O=>?_,Rg,λhe=>(Xs hd he).1,λhe i=>?_,λZ Q T P R z KA=>?_⟩
  .rcases AA.1 N with N|N
   .exact DA _ (hw p N)
   .exact CB _ (by rw[(Ť p N).1];simp)
  .rcases AA.1 N with N|N
   .exact CB _ (A p N t k O)
   .obtain⟨_,b,e⟩:=Ť p N;rw[e] at O;cases O
  .exact DA _ (Yk (o:=k) (Bv.2 ⟨x,V,O⟩))
  .obtain⟨n,p,d,hr,gq⟩:=q i;obtain⟨v,_,m⟩:=aMB he n p d hr gq;exact⟨_,m⟩
  .have l:∀t∈GI a o++LN o.op.operands.toList++Jn C U o,Z.at t=U.at t:=λt M=>R t (DA _ M);have M:∀t∈LN o.op.operands.toList,Z.at t=U.at t:=λt M=>l t (by simp[M]);have aMC:Pf Z r.news=true:=z;refine⟨o,ho,.inr ⟨r,Z.E2 X,?_,cD hc M (λt M=>l t (by simp[M])),?_,?_,?_,?_⟩⟩;.rw[TY λt M=>l t (by simp[M])];exact hg
   .rw[j];have B:r.Xl Z=r.Xl U:=by unfold FA.Xl;rw[Rg,aMC,P]
    simp only[YZ,(j3 λx V=>(λt M=>R t (CB _ M)) x V:(r.wf++o.dst.toList).map Z.at=(r.wf++o.dst.toList).map U.at),B,Y8 hc M (λt M=>l t (by simp[M]))]
   .rw[Yj aMC];exact aSr Z Q T KA
   .rw[Iq];exact(jD λd hd=>B5.KR X U Z d P ((λt M=>R t (CB _ M)) d (DA _ hd))).symm
   .rw[B5.Lw];exact aMA Z P (λt M=>R t (CB _ M))
end
section
variable{C:Hw}{J:FuncId}{w:List Oper}{H:IT->Ak->Option LI}{M:List Nat}
def NZ{a b:List Nat}(h:(!bE a b)=zq){x:Nat}(c:x∈a):x∉b:=λd=>by have:=Ç.2 ⟨x,c,d⟩;grind
def swap{p s:St}{U P U1:B5}{h X M:Ak}(hp:Sb C J w H p U h P X)(hs:Sb C J w H s P X U1 M)(ND:Uo p.fp s.fp=zq)
  (Ye:s.fp.U9=zq->∀f,p.fl=zz f->A8 M f.n f.p=zz f.v):
  ∃O kG,Sb C J w H s U h O kG/\Sb C J w H p O kG U1 M/\(s.fp.U9=zq->kG=M)/\(p.fp.U9=zq->M=X):=by
 unfold Uo FP.apart at ND;simp only[Bs] at ND;let⟨⟨⟨⟨pf,B⟩,⟨⟨a1,a2⟩,a3⟩,a4⟩,he⟩,hl⟩:=ND;obtain⟨c,rfl,l,nM,z,js,u,F,T⟩:=hp.spec pf;obtain⟨b,rfl,k,gj,D,m,f_,E,Ũ⟩:=hs.spec B;have i:∀x∈s.fp.rs++s.fp.wf,(U.E2 c).at x=U.at x:=λx a=>B5.Ic c U x λq L e=>NZ a1 (l q L) (e▸a);have d:Pf U s.fp.news=zq:=by
  rw[QE] at m⊢;intro x t o a;by_cases hw:x∈p.fp.wf;.exact NZ a3 (z x hw t o a)
  .refine m x t o ?_;rwa[B5.Ic c U x λq L e=>hw (e▸l q L)]
 have K:∀(Z:B5) (ws:List (Nat×Fb)),(Z.E2 ws).length=zy Z:=λZ ws=>B5.Lx ws Z;have V:(U.E2 b).E2 c=(U.E2 c).E2 b:=(B5.Æ λq L r hr e=>have:=NZ a1 (l q L);this (CB _ (e▸k r hr))).symm
 have N:∀x∈p.fp.rs++p.fp.wf,(U.E2 b).at x=U.at x:=λx a=>B5.Ic b U x λq L e=>by
  obtain a|a:=AA.1 a
  .exact NZ a2 (k q L) (e▸a)
  .exact NZ a1 a (CB _ (e▸k q L))
 have y:Pf (U.E2 b) p.fp.news=zq:=by
  rw[QE] at js⊢;intro x t o a;obtain h0|⟨q,L,_,h2⟩:=B5.cF b U x
  .exact js x t o (h0▸a)
  .rw[h2] at a;exact NZ a4 (gj q L t o a)
 by_cases Y:s.fp.U9=zq
 .have g:p.fp.U9=zm:=by
   cases L:p.fp.U9 with
   |false=>rfl
   |true=>simp[Y,L] at he
  have j:=u g;subst j;refine⟨U.E2 b,M,Ũ U X M (K U c).symm (λx a=>(i x a).symm) d (ym ⟨rfl,rfl⟩),?_,λ_=>rfl,λe=>by rw[g] at e;cases e⟩;exact V▸T (U.E2 b) M M (K U b) N y (yg ⟨g,rfl,λ_ f hf=>Ye Y f hf⟩)
 .have R:=zv Y
  have A:=f_ R;subst A;refine⟨U.E2 b,h,?_,?_,λe=>absurd e Y,λ_=>rfl⟩
  .by_cases g:p.fp.U9=zq;.refine Ũ U h h (K U c).symm (λx a=>(i x a).symm) d (yg ⟨R,rfl,λG=>?_⟩);simp[g,G] at hl
   .have Q:=zv g
    exact Ũ U h h (K U c).symm (λx a=>(i x a).symm) d (ym ⟨(u Q).symm,(u Q).symm⟩)
  .rw[<-V];exact T (U.E2 b) h M (K U b) N y (ym ⟨rfl,rfl⟩)
inductive Steps(C:Hw)(J:FuncId)(w:List Oper)(H:IT->Ak->Option LI)(M:List Nat):List Mq->List St->B5->Ak->B5->Ak->Prop
 |nil {fl:List Mq} {U:B5} {h:Ak}:Steps C J w H M fl [] U h U h
 |cons {fl:List Mq} {s:St} {L:List St} {U U1 σf:B5} {h h1 hf:Ak}:Sb C J w H s U h U1 h1->(s.fp.U9=zq->∀f∈fl,Fe M f.idx s.idx=zm->A8 h1 f.n f.p=zz f.v)->
  Steps C J w H M (s.fl.toList++fl) L U1 h1 σf hf->Steps C J w H M fl (s::L) U h σf hf
def Steps.sub{d:List Mq}{L:List St}{U a:B5}{h c:Ak}(i:Steps C J w H M d L U h a c):∀{b:List Mq},(∀f∈b,f∈d)->Steps C J w H M b L U h a c:=by
 induction i with
 |nil=>intro b _;exact .nil
 |cons m l _ e=>intro b n;refine .cons m (λj f c k=>l j f (n f c) k) (e λf c=>?_);grind
def Sb.aIG{s:St}{U e:B5}{h d:Ak}(c:Sb C J w H s U h e d){f:Mq}(a:s.fl=zz f):f.idx=s.idx:=by
 obtain⟨o,_,⟨_,_,b,_⟩|⟨r,U1,_,_,_,_,b,_⟩⟩:=c;.grind
 .rw[b] at a;unfold MV at a;grind
def Steps.lt{f:List Mq}{L:List St}{U a:B5}{h d:Ak}(c:Steps C J w H M f L U h a d):∀q∈L,q.idx<zy w:=by
 induction c with
 |nil=>simp
 |cons e _ _ ih=>
  intro q b;obtain rfl|b:=A0.1 b
  .let⟨o',h2,_⟩:=e;grind
  .grind
def aG1{s:St}{B:List St}{G:B5}{a:Ak}:∀{A:List St} {K:List Mq} {U:B5} {h:Ak},Steps C J w H M K (A++s::B) U h G a->(∀p∈A,Uo p.fp s.fp=zq/\Fe M p.idx s.idx=zm)->
  ∃T E,Sb C J w H s U h T E/\(s.fp.U9=zq->∀f∈K,Fe M f.idx s.idx=zm->A8 E f.n f.p=zz f.v)/\Steps C J w H M (s.fl.toList++K) (A++B) T E G a
 |[],K,U,h,O,_=>by
  cases O with
  |cons E Q d=>exact⟨_,_,E,Q,d⟩
 |p::A,K,U,h,O,j=>by
  cases O with
  |cons E Q d=>
   rename_i σa ha;let⟨T,x,i,e,t⟩:=aG1 d λq Z=>j q (by simp[Z]);let⟨L,R⟩:=j p AF;let⟨N,Y,X,m,l,k⟩:=swap E i L λD f a=>e D f (by rw[a];simp) (E.aIG a▸R);refine⟨N,Y,X,λD f a P=>?_,.cons m (λD f a P=>?_) (t.sub λf a=>?_)⟩;.rw[l D];exact e D f (CB _ a) P
   .rw[k D];obtain a|a:=AA.1 a
    .exfalso;rw[Uo] at L;simp[Bs] at L;let⟨⟨⟨⟨_,z⟩,_⟩,u⟩,hl⟩:=L;cases F:s.fl with
     |none=>rw[F] at a;simp at a
     |some g=>
      have b:s.fp.hl=zq:=by
       obtain⟨o,_,⟨_,_,V,_⟩|⟨r,y,_,_,c,_,V,_⟩⟩:=i;.rw[V] at F;cases F
       .rw[V] at F;unfold MV at F;split at F;.rw[c];rfl
        .cases F
      simp[D,b] at hl
    .exact Q D f a P
   .grind
def TZ{b:List Nat}{x:Nat}:∀(a:List Nat) (m:Nat),(a.foldl (λm e=>m|||bit e|||b.getD e 0) m).testBit x=zq↔m.testBit x=zq\/∃e∈a,x=e\/(b.getD e 0).testBit x=zq
 |[],m=>AF
 |d::a,m=>by rw[Ě,TZ a];simp[Nat.testBit_or,bit,Nat.testBit_two_pow,YV,Cj,A0,exists_eq_or_imp];grind
def NN:∀(l:List Oper) (a:List Nat) (i:Nat),i<zy a->(M5 a l).getD i 0=a.getD i 0
 |[],a,i,h=>rfl
 |o::l,a,i,h=>by rw[M5,NN l _ i ES];grind
def T0:∀(l:List Oper) (a:List Nat) (k:Nat) (o:Oper),l[k]?=zz o->(∀e∈vb o,e<zy a+k)->∀x,
  ((M5 a l).getD (zy a+k) 0).testBit x=zq↔∃e∈vb o,x=e\/((M5 a l).getD e 0).testBit x=zq
 |[],a,k,o,h,_,x=>by simp at h
 |i::l,a,0,o,h,j,x=>by
  simp at h;subst h;rw[M5,NN l _ (zy a+0) AF];have b:(a++[(vb i).foldl (λm e=>m|||bit e|||a.getD e 0) 0]).getD (zy a+0) 0=(vb i).foldl (λm e=>m|||bit e|||a.getD e 0) 0:=by simp[y2]
  rw[b,TZ,Nat.zero_testBit,Cy,false_or];constructor;.rintro⟨e,d,h⟩;refine⟨e,d,h.imp id λh=>?_⟩;have c:=j e d;rw[NN l _ e ES];simpa[y2,An c] using h
  .rintro⟨e,d,h⟩;refine⟨e,d,h.imp id λh=>?_⟩;have c:=j e d;rw[NN l _ e ES] at h;simpa[y2,An c] using h
 |i::l,a,k+1,o,h,j,x=>by simp at h;rw[M5];have:=T0 l (a++[(vb i).foldl (λm e=>m|||bit e|||a.getD e 0) 0]) k o h (λe d=>by have:=j e d;simp;omega) x;rw[As,Bg,BH,B1] at this;rwa[(Ab:zy a+(k+1)=zy a+1+k)]
def kX{i:Nat}{o:Oper}(a:w[i]?=zz o)(b:∀e∈vb o,e<i)(x:Nat):Fe (bC w) x i=zq↔∃e∈vb o,x=e\/Fe (bC w) x e=zq:=by have:=T0 w [] i o a (zv b) x;simpa[Fe,bC] using this
def Sd(h:nE w=zq){i:Nat}{o:Oper}(a:w[i]?=zz o):∀e∈vb o,e<i:=by
 rw[nE] at h;rw[EE] at h;have:=h (o,i) (by refine C7 (i:=i) ?_;simp[List.getElem?_zipIdx,a])
 grind
def kY:∀{l:List (Nat×FP)},bF.go M l=zq->l.Pairwise λx y=>x.1≠y.1/\Fe M y.1 x.1=zm/\(Fe M x.1 y.1=zq\/Uo x.2 y.2=zq)
 |[],_=> .nil
 |(i,f)::l,h=>by rw[bF.go,Bs,EE] at h;refine .cons (λy hy=>?_) (kY h.2);grind
def ũ{d:Option Nat}{U:B5}{K:B5->IT}{h:Ak}{R:LI}(a:zh (Cf C) H (ui d U K) h=zz R):∃c,OV d U c/\zh (Cf C) H (K c) h=zz R:=by
 unfold ui at a;cases d with
 |none=>exact⟨U,rfl,a⟩
 |some d=>
  simp only at a;cases b:U.at d with
  |val v=>
   rw[b] at a;simp[zh] at a;split at a;.exact⟨U.set d (.RO zq),by rw[OV,b];exact⟨zq,rfl,rfl⟩,a⟩
   .exact⟨U.set d (.RO zm),by rw[OV,b];exact⟨zm,rfl,rfl⟩,a⟩
   .cases a
  |_=>rw[b] at a;exact⟨U,by rw[OV,b],a⟩
def QF{i:Nat}{t:IT}{h:Ak}{R:LI}:∀{j:List Mq},zh (Cf C) H (Vo M i j t) h=zz R->(∀f∈j,Fe M f.idx i=zm->A8 h f.n f.p=zz f.v)/\zh (Cf C) H t h=zz R
 |[],a=>⟨AF,a⟩
 |f::j,a=>by
  rw[Vo] at a;by_cases k:Fe M f.idx i=zq;.rw[Ae k] at a;let⟨d,c⟩:=QF a;grind
  .rw[Aa k] at a;simp[zh] at a;split at a
   .rename_i v l;split at a
    .rename_i m;let⟨d,c⟩:=QF a;refine⟨λg e b=>?_,c⟩;obtain rfl|e:=A0.1 e
     .rw[Ad.beq_eq m];exact l
     .exact d g e b
    .cases a
   .cases a
def Uy{K:B5->IT}{R:LI}:∀{l:List Nat} {b:List (Nat×FP)} {m:List Mq} {U:B5} {h:Ak},zh (Cf C) H (Uq C J w M l b m U K) h=zz R->
  ∃L k q,Steps C J w H M m L U h k q/\bF (zy w) M (b.reverse++L.map λs=>(s.idx,s.fp))=zq/\zh (Cf C) H (K k) q=zz R
 |[],b,m,U,h,a=>by
  rw[Uq] at a;split at a;next O=>exact⟨[],U,h,.nil,zv O,a⟩
  .cases a
 |i::l,b,m,U,h,a=>by
  rw[Uq] at a;cases u:w[i]? with
  |none=>rw[u] at a;cases a
  |some o=>
   rw[u] at a;simp only at a;split at a
   .rename_i z;split at a;.cases a
    .rename_i r E;let⟨x,A,D,a⟩:=kF a;have P:(r.U9=zq->∀f∈m,Fe M f.idx i=zm->A8 A f.n f.p=zz f.v)/\zh (Cf C) H (ui (if Vp w i then o.dst else zx) x λj=>Uq C J w M l ((i,YZ C w U o (zz r))::b) (OQ i r x m) j K) A=zz R:=by
      split at a;.let⟨d,c⟩:=QF a;exact⟨λ_=>d,c⟩
      next B=>exact⟨λe=>absurd e B,a⟩
     let⟨N,a⟩:=P;let⟨U',F,a⟩:=ũ a;rw[cG] at a;let⟨L,k,q,d,c,g⟩:=Uy a;exact⟨{idx:=i,fp:=YZ C w U o (zz r),fl:=MV i r x}::L,k,q,.cons ⟨o,u,yg ⟨r,x,z,E,rfl,D,rfl,F⟩⟩ N d,zv c,g⟩
   next z=>let⟨L,k,q,d,c,g⟩:=Uy a;exact⟨{idx:=i,fp:=YZ C w U o zx,fl:=zx}::L,k,q,.cons ⟨o,u,ym ⟨z,rfl,rfl,rfl,rfl⟩⟩ (λe=>by simp[YZ] at e) d,zv c,g⟩
   .cases a
end
section
variable{C:Hw}{J K:Gh}{M w:World}{O:Nat->Nat}{U:B5}{h:Ak}{a:Act}{fid:FuncId}
section
variable(hr:Dp C J M K O U h a w)
def NO{f:Array Oper}{o:Oper}{b:Bool}(d:Kj f.toList U o= .Py b):Region.wanted o (yielded f a.tmps)=b:=by
 rw[Kj] at d;rw[Region.wanted];cases m:o.guard with
 |none=>rw[m] at d;cases d;rfl
 |some g=>
  let⟨j,want⟩:=g;rw[m] at d;simp[aMh] at d⊢;rw[yielded];cases n:(f[j]?).bind (·.dst) with
  |none=>rw[n] at d;cases d
  |some s=>
   rw[n] at d;simp[CR] at d⊢;have i:=hr.fr.JC s;cases h:U.at s with
   |RO c=>
    rw[h] at d i;cases d;have hl:=hr.fr.size▸qo (by rw[h];simp)
    have k:a.tmps.getD s undef= yy c:=i;simp_all
   |skip=>
    rw[h] at d i;cases d;have k:=i;have l:∀c,a.tmps[s]?≠zz (yy c):=λc q=>by rw[LF,q] at k;cases k
    cases p:a.tmps[s]? with
    |none=>rfl
    |some v=>
     cases v with
     |bool c=>cases (l c) p
     |_=>rfl
   |val v=>rw[h] at d;cases d
   |_=>rw[h] at d;cases d
def Dp.aME{d:Option Nat}{i:B5}(c:OV d U i):Dp C J M K O i h a w:=by
 unfold OV at c;cases d with
 |none=>simp only at c;rwa[c]
 |some d=>
  simp only at c;cases e:U.at d with
  |val v=>rw[e] at c;obtain⟨b,rfl,rfl⟩:=c;have f:=hr.fr.JC d;rw[e] at f;exact hr.xE f
  |_=>rw[e] at c;rwa[c]
end
structure aSw(ops:Array Oper)(listed:Array Bool)(L:List St):Prop where
 size:listed.size=ops.size
 un:∀i,i<ops.size->(listed.getD i zm=zm↔i∈L.map (·.idx))
 closed:∀j,listed.getD j zm=zq->∀e,Fe (bC ops.toList) e j=zq->listed.getD e zm=zq
abbrev vh(an:List Nat)(L:List St):Prop:=L.Pairwise λx y=>x.idx≠y.idx/\Fe an y.idx x.idx=zm/\(Fe an x.idx y.idx=zq\/Uo x.fp y.fp=zq)
def É{run:IT->Ak->Option LI}(F:F9 C run){R:Array Oper}{Q:Exit->Act->World->Prop}(Hn:nE R.toList=zq){σf:B5}{hf:Ak}(hQ:∀X m a' w',Dp C J M X m σf hf a' w'->Q .normal a' w'):
  ∀(V:Nat) (L:List St) (N:Array Bool) (K:Gh) (O:Nat->Nat) (U:B5) (h:Ak) (a:Act) (w:World),zy L=V->Steps C fid R.toList run (bC R.toList) [] L U h σf hf->vh (bC R.toList) L->aSw R N L->Dp C J M K O U h a w->
   wpAny C.P .any R Q V N a w:=by
 intro V;induction V with
 |zero=>
  intro L N K O U h a w n hs hp Y hr;have x:L=[]:=DR n;subst x;cases hs;refine⟨List.eq_nil_iff_forall_not_mem.2 λi hi=>?_,hQ _ _ _ _ hr⟩;let⟨h0,o,b,_⟩:=mem_ready.1 hi;have Z:i<R.size:=(Bf.1 b).1;have jB:N.getD i zm=zm:=by
   have hl:i<N.size:=Y.size▸Z
   simpa[vz,hl] using h0
  have:=(Y.un i Z).1 jB;simp at this
 |succ V ih=>
  intro L N K O U h a w n hs hp Y hr;have nS:∀i,i<R.size->N.getD i zq=N.getD i zm:=λi hi=>by
   have hl:i<N.size:=Y.size▸hi
   simp[vz,hl]
  constructor
  .intro Ye;exfalso;cases L with
   |nil=>simp at n
   |cons s0 L=>
    obtain⟨o,b,_⟩:∃o,R.toList[s0.idx]?=zz o/\True:=by
     cases hs with
     |cons h1 _ _=>let⟨o,h2,_⟩:=h1;exact⟨o,h2,trivial⟩
    have ju:R[s0.idx]?=zz o:=zv b
    have Z:s0.idx<R.size:=(Bf.1 ju).1;have:s0.idx∈Region.ready .any R N:=by
     refine mem_ready.2 ⟨?_,o,ju,λe he hb=>?_⟩;.rw[nS _ Z];exact(Y.un _ Z).2 AF
     .have k:e.on∈Oper.YY o:=Cz.2 ⟨e,zv he,Ae hb⟩;have E:=Sd Hn b e.on k;cases hl:N.getD e.on zm with
      |true=>rfl
      |false=>
       have hm:=(Y.un e.on Ab).1 hl;simp only[Bn,A0] at hm;obtain hm|hm:=hm
       .omega
       .let⟨y,hy,t⟩:=Bv.1 hm;have:=((aWq.1 hp).1 y hy).2.1;rw[t,(kX b (Sd Hn b) e.on).2 ⟨e.on,k,ym rfl⟩] at this;cases this
    rw[Ye] at this;cases this
  .intro i hi;let⟨h0,o,b,aMF⟩:=mem_ready.1 hi;rw[nS i ((Bf.1 b).1)] at h0;obtain⟨s,u,rfl⟩:=Bv.1 ((Y.un i ((Bf.1 b).1)).1 h0);obtain⟨A,B,rfl⟩:=List.append_of_mem u;have ju:R.toList[s.idx]?=zz o:=zv b
   have aMG:∀e,Fe (bC R.toList) e s.idx=zq->N.getD e zm=zq:=λe he=>by
    let⟨d,hd,KA⟩:=(kX ju (Sd Hn ju) e).1 he;let⟨G,k,hb⟩:=Cz.1 hd;split at hb
    .rename_i Td;cases hb;have gq:=aMF G (zv k) Td;obtain rfl|KA:=KA
     .exact gq
     .exact Y.closed _ gq e KA
    .cases hb
   have c:=(aRa.1 hp).2.2;have aIH:∀p∈A++s::B,p.idx<R.size:=λp v=>zv (hs.lt p v)
   let⟨U1,h1,D,_,z⟩:=aG1 hs λp l=>by
    have hb:Fe (bC R.toList) p.idx s.idx=zm:=by
     cases Td:Fe (bC R.toList) p.idx s.idx with
     |false=>rfl
     |true=>have h1:=aMG _ Td;have h2:=(Y.un p.idx (aIH p (by simp[l]))).2 (Bv.2 ⟨p,by simp[l],rfl⟩);rw[h1] at h2;cases h2
    refine⟨?_,hb⟩;have:=(c p l s AF).2.2;rw[hb] at this;exact this.resolve_left AF
   have aG2:∀X m a' w',Dp C J M X m U1 h1 a' w'->wpAny C.P .any R Q V (N.setIfInBounds s.idx zq) a' w':=λX m a' w' Hi=>by
    refine ih (A++B) _ X m U1 h1 a' w' (by simp at n⊢;omega) (z.sub AF) ?_ ⟨by simp[Y.size],λj hj=>?_,λj hj e he=>?_⟩ Hi;.exact hp.sublist ((AW A).append (List.sublist_cons_self s B))
    .by_cases f:j=s.idx
     .subst f;have aII:s.idx∉(A++B).map (·.idx):=λhm=>by
       let⟨q,hq,he⟩:=Bv.1 hm;obtain hq|hq:=AA.1 hq
       .exact(c q hq s AF).1 he
       .exact(aWq.1 (aRa.1 hp).2.1).1 q hq |>.1 he.symm
      have ht:(N.setIfInBounds s.idx zq).getD s.idx zm=zq:=by
       have hl:s.idx<N.size:=by rw[Y.size];exact ((Bf.1 b).1)
       simp[vz,hl]
      rw[ht];exact⟨λe=>absurd e AF,λe=>absurd e aII⟩
     .rw[getD_set_ne zm (λe=>f e.symm),Y.un j hj];simp[BJ,Bn,AA,A0];constructor
      .rintro(e|e|e);.exact ym e
       .exact absurd e f
       .exact .inr e
      .rintro(e|e);.exact ym e
       .exact yg (yg e)
    .by_cases f:j=s.idx;.subst f;exact getD_set_true (aMG e he)
     .rw[getD_set_ne zm (λe=>f e.symm)] at hj;exact getD_set_true (Y.closed j hj e he)
   unfold wpOp;rw[b];obtain⟨o',g,⟨hg,_,_,rfl,rfl⟩|⟨r,H,hg,hc,_,hd,_,ha⟩⟩:=D;.rw[ju] at g;cases g;simp[NO hr hg,Cy,DW];exact aG2 _ _ _ _ (hr.put λ_ _=>rfl)
   .rw[ju] at g;cases g;simp[NO hr hg,BV];exact ym (ţ F hc hd hr λX m a' w' Hi=>aG2 X m a' w' (Hi.aME ha))
end
end Go.Am
end
open List renaming range→rg,drop→p4
open Go.Am.Ad renaming OJ→qd
open Go.Value renaming okWide→w7,agg→ry,cells→pq
open Go.Am.Sh renaming val→zo
open Go.Am.IT renaming run→yj,loop→w9
open Go.Instr renaming loadAt→si
open Go.Am.Dz renaming normal→xo,ret→wi,exit→ro
open Array renaming replicate→rx
open Go.DataW renaming TrodAll→v6,trod→pa
open Go.Am.B5 renaming Ic→sk,Ht→rl,Lx→qp,cE→q0,clear→q1
section
namespace Go.Am
open Go
def Kpt(x y:Fb):Prop:=
 match x with
 | xz a f e=>∃b d c,y= xz b d c/\a<=b/\(b=a->d=f/\c=e)
 | .Ge t o=>y= .Ge t o\/y= x8
 |x=>y=x
def Kpt.refl(x:Fb):Kpt x x:=by
 cases x with
 |box a c b=>exact⟨a,c,b,rfl,Af _,λ_=>⟨rfl,rfl⟩⟩
 |Ge t o=>exact ym rfl
 |_=>rfl
def Kpt.trans{x y z:Fb}(h:Kpt x y)(k:Kpt y z):Kpt x z:=by
 cases x with
 |box ver cs ow=>obtain⟨f,j,g,rfl,l,h2⟩:=h;obtain⟨a,d,b,rfl,c,i⟩:=k;refine⟨a,d,b,rfl,BC l c,λe=>?_⟩;grind
 |Ge t o=>
  obtain rfl|rfl:=h
  .exact k
  .exact yg k
 |_=>rwa[show y=_ from h] at k
def Hu(W:List Nat)(a O:B5):Prop:=zy O=zy a/\∀s,s∉W->Kpt (a.at s) (O.at s)
def Hu.refl(W:List Nat)(a:B5):Hu W a a:=⟨rfl,λ_ _=> .refl _⟩
def Hu.trans{W:List Nat}{a O J:B5}(h:Hu W a O)(k:Hu W O J):Hu W a J:=⟨k.1.trans h.1,λs b=>(h.2 s b).trans (k.2 s b)⟩
def Hu.mono{W b:List Nat}{a O:B5}(h:Hu W a O)(c:∀s∈W,s∈b):Hu b a O:=⟨h.1,λs d=>h.2 s λe=>d (c s e)⟩
def Hu.set{W:List Nat}{a:B5}{s:Nat}{x:Fb}(hs:s∈W):Hu W a (a.set s x):=
 ⟨AF,λt b=>by rw[rl λe=>b (by rwa[<-e])];exact .refl _⟩
def Hu.put{W:List Nat}{a:B5}{d:Option Nat}{x:Fb}(b:∀s∈d.toList,s∈W):Hu W a (a.put d x):=by
 cases d with
 |none=>exact .refl _ _
 |some d=>exact .set (b d AF)
section
variable{C:Hw}{A:FuncId}{n:List Oper}{w:IT->Ak->Option LI}{a u:B5}{h B:Ak}{W:List Nat}
def Hu.drop(a:B5)(b:List Nat):Hu W a (a.drop b):=by
 refine⟨rk a b,λs _=>?_⟩;rw[B5.Vx];cases hx:a.at s with
 |Ge t o=>
  simp only
  split;.exact yg rfl
  .exact ym rfl
 |_=>exact .refl _
def jv{r:FA}{c:List Nat}(j:r.PD C w (a.drop c) h u B)(d:∀s∈r.wf,s∈W):Hu W a u:=by obtain⟨b,rfl,k,_⟩:=kU j;refine(Hu.drop a c).trans ⟨qp b _,λs f=>?_⟩;rw[sk b _ s λp i e=>f (d s (e▸k p i))];exact .refl _
def Tg{x:Operand}{d:Nat}{e:Bool}{r:FA}(h:MA C a x d e=zz r):∀s∈r.wf,s=d\/(e=zq/\x= .tmp s):=by
 unfold MA at h;split at h;.cases h;simp[yf]
 .cases h;simp[yf]
 .split at h
  .rename_i ht;cases h;intro s f;rw[yf,BJ,AA] at f;obtain f|f:=f
   .revert f;generalize b:Vm _ _=c;intro f;unfold Vm at b;grind
   .grind
  .cases i:JS _ with
   |none=>rw[i] at h;cases h
   |some j=>rw[i] at h;cases h;simp[yf]
 .cases i:JS _ with
  |none=>rw[i] at h;cases h
  |some j=>rw[i] at h;cases h;simp[yf]
 .cases h
def VF{x:Operand}{p:Nat×Ad}(h:DI a x=zz p):x= .tmp p.1:=by
 cases x with
 |tmp t=>
  rw[DI] at h;cases b:a.at t with
  |BD v=>rw[b] at h;cases h;rfl
  |_=>rw[b] at h;cases h
 |_=>cases h
def yG{t:TypeId}{v:Ad}{d:Nat}{r:FA}(h:X8 C A t v d=zz r):r.wf=[d]:=by
 rw[X8] at h;split at h;.cases h
 .split at h;.cases h
  .split at h<;>(cases h;rfl)
def Pk:∀{h:List Operand} {i:List Ad} {b:List (Nat×List Ad)},HA C a h=zz (i,b)->∀p∈b,p.1∈LN h
 |[],i,b,e=>by cases e;simp
 |x::h,i,b,e=>by
  rw[HA] at e;split at e;.cases e
  .rename_i Je d c;have up:∀p∈d,p.1∈LN (x::h):=λp f=>by let⟨y,j,k⟩:=Cz.1 ((Pk c) p f);exact Cz.2 ⟨y,aQ9 _ j,k⟩
   split at e
   .rename_i s ver cs ow hs;split at e;.cases e
    .cases e;intro p f;obtain rfl|f:=A0.1 f
     .simp[LN]
     .exact up p f
   .grind
   .cases e
def vi{o:Oper}{r:FA}(E:HB C A n a o=zz r)(hd:r.PD C w (a.drop r.news) h u B):Hu (Ff n o) a u:=by
 have O:∀s∈o.dst.toList,s∈Ff n o:=λs J=>DA _ J
 have G:(∀s∈r.wf,s∈Ff n o)->Hu (Ff n o) a u:=jv hd
 have L:r.wf=o.dst.toList->Hu (Ff n o) a u:=λe=>G (by rw[e];exact O)
 have U:∀{m x},Xh m o.dst x=zz r->Hu (Ff n o) a u:=λ{m x} he=>by
  obtain⟨_,_,rfl⟩:=II he
  exact L rfl
 have M:∀{p x},Xg p o.dst x=zz r->Hu (Ff n o) a u:=λ{p x} he=>by
  obtain⟨T,_,rfl⟩:=EA he
  exact L (by simp[yf])
 unfold HB at E
 split at E
 .rename_i x ho
  split at E
  .rename_i d H
   refine G λs J=>?_
   rcases Tg E s J with rfl|⟨V,rfl⟩
   .exact O s (by rw[H];simp)
   .refine CB _ ?_
    simp[ho,H,V]
  .cases E
 .rename_i x ho
  split at E
  .rename_i d H
   refine G λs J=>?_
   rcases Tg E s J with rfl|⟨V,rfl⟩
   .exact O s (by rw[H];simp)
   .refine CB _ ?_
    simp[ho]
  .cases E
 .rename_i c x y ho
  split at E
  .rename_i d _ H
   refine G λs J=>?_
   rcases Tg E s J with rfl|⟨V,rfl⟩
   .exact O s (by rw[H];simp)
   .cases V
  .rename_i d _ H
   refine G λs J=>?_
   rcases Tg E s J with rfl|⟨V,rfl⟩
   .exact O s (by rw[H];simp)
   .cases V
  .exact M E
 .split at E
  .rename_i d z H hz
   split at E
   .split at E
    .cases E;exact L (by rw[H];rfl)
    .cases E
   .exact L (by rw[yG E,H];rfl)
  .cases E
 .split at E
  .rename_i d v H hz
   exact L (by rw[yG E,H];rfl)
  .cases E
 .split at E
  .split at E
   .exact M E
   .cases E
  .cases E
 .split at E
  .split at E
   .split at E
    .split at E
     .cases E;exact L (by simp[yf])
     .cases K:BI C a _ with
      |none=>rw[K] at E;cases E
      |some T=>rw[K] at E;cases E;exact L (by simp[yf])
    .cases E
   .cases E
  .cases E
 .split at E
  .rename_i d H
   unfold Nt at E
   split at E
   .cases E;exact L (by rw[H];rfl)
   .rename_i s Y Q cs ow V K
    split at E
    .simp only at E
     split at E
     .cases E
      rw[Qv AF] at hd
      obtain⟨rfl,rfl⟩:=hd
      have J:a.at s= .box Q cs ow:=by
       unfold Hz at K
       split at K
       .rename_i J;cases K;exact It J
       .split at K
        .rename_i hb;cases K;exact hb
        .cases K
       .exact absurd K (by cases R:Fb.Jt _<;>simp)
       .cases K
      refine⟨by simp[B5.drop,p8],λt b=>?_⟩
      have f:t≠d:=λe=>b (O t (by rw[H,e];simp))
      have ŏ:s<a.length:=B5.RY (by rw[J];simp)
      show Kpt (a.at t) (B5.at ((a.set s _).set d _) t)
      rw[B5.Ht (λe=>f e.symm)]
      by_cases Z:s=t
      .subst Z
       rw[B5.Gs ŏ,J]
       exact⟨_,_,_,rfl,Gd _,λe=>absurd e Ab⟩
      .rw[B5.Ht Z];exact .refl _
     .cases E;exact L (by rw[H];rfl)
    .cases E
   .split at E
    .cases E;exact L (by rw[H];rfl)
    .cases E
   .cases E
  .cases E
 .rename_i t x y ho
  split at E
  .rename_i H
   unfold K4 at E
   split at E
   .cases E;exact G (by simp[FA.wf])
   .rename_i m g s Y Q cs ow v MR f_ K R
    split at E
    .cases E
     obtain⟨_,rfl,rfl⟩:=hd
     have J:a.at s= .box Q cs ow:=by
      unfold Hz at K
      split at K
      .rename_i J;cases K;exact It J
      .split at K
       .rename_i hb;cases K;exact hb
       .cases K
      .exact absurd K (by cases R:Fb.Jt _<;>simp)
      .cases K
     have jA:∀(D:Option (Nat×Ad)),(∀p,D=some p->p.1∈Ff n o/\p.1≠s)->∀X:List Ad×List Nat,Hu (Ff n o) a ((a.Ej D).set s (.box (Q+1) X.1 X.2)):=by
      intro D j X
      refine⟨by cases D<;>simp[B5.Ej],λt b=>?_⟩
      have hlen:s<(a.Ej D).length:=by
       have:s<a.length:=B5.RY (by rw[J];simp)
       cases D<;>simpa[B5.Ej] using this
      by_cases Z:s=t
      .subst Z
       rw[B5.Gs hlen,J]
       exact⟨_,_,_,rfl,Gd _,λe=>absurd e Ab⟩
      .rw[B5.Ht Z]
       cases D with
       |none=>exact .refl _
       |some p=>
        obtain⟨i,k⟩:=j p rfl
        simp only[B5.Ej]
        rw[B5.Ht (λe=>b (by rw[<-e];exact i))]
        exact .refl _
     refine jA _ (λp P=>?_) (_,_)
     split at P
     .have hy:=VF P
      subst hy
      refine⟨CB _ (by simp[ho]),λe=>?_⟩
      simp only[DI] at P
      rw[e,J] at P
      cases P
     .cases P
    .cases E
   .cases E
  .cases E
 .split at E
  .rename_i H _ _
   cases E;exact L (by rw[H];rfl)
  .rename_i H _ _
   cases E;exact L (by rw[H];rfl)
  .exact M E
 .split at E
  .exact M E
  .cases E
 .exact M E
 .split at E
  .cases R:FV C a _ with
   |none=>rw[R] at E;cases E
   |some v=>rw[R] at E;cases E;exact L rfl
  .split at E
   .cases R:FV C a _ with
    |none=>rw[R] at E;cases E
    |some v=>rw[R] at E;cases E;exact L rfl
   .exact M E
  .exact M E
  .cases E
 .rename_i fn first captured ho
  split at E
  .rename_i d bp bs l H K hb
   cases E
   refine G λs J=>?_
   simp only[FA.wf,A0] at J
   rcases J with rfl|J
   .exact O s (by rw[H];simp)
   .obtain⟨p,P,rfl⟩:=Bv.1 J
    refine CB _ ?_
    simp only[ho]
    exact Pk hb p P
  .cases E
 .cases E;exact L rfl
 .split at E
  .split at E
   .cases E;exact L rfl
   .cases E
  .cases E
 .split at E
  .split at E
   .cases E;exact G (by simp[FA.wf])
   .cases E;exact G (by simp[FA.wf])
   .cases E
  .cases E
 .split at E
  .split at E
   .cases E;exact G (by simp[FA.wf])
   .cases E;exact G (by simp[FA.wf])
   .cases E
  .cases E
 .split at E
  .split at E
   .cases E;exact L rfl
   .cases E;exact L rfl
   .cases E
  .cases E
 .split at E
  .split at E
   .exact U E
   .cases E
  .cases E
 .split at E
  .cases E
  .exact U E
  .cases E
 .split at E
  .split at E<;>first|exact U E|cases E
  .cases E
 .split at E
  .rename_i H
   exact U (by rw[H];exact E)
  .cases E
 .split at E
  .exact M E
  .split at E
   .split at E
    .exact U E
    .exact M E
   .cases E
  .cases E
 .split at E
  .rename_i Y g d hf H
   split at E
   .cases E;exact L (by rw[H];rfl)
   .cases E;exact L (by rw[H];rfl)
   .exact M (by rw[H];exact E)
  .cases E
 .split at E
  .exact M E
  .cases E
 .split at E
  .split at E
   .exact M E
   .cases E
  .split at E
   .split at E
    .cases E
    .exact M E
   .cases E
  .cases E
 .split at E
  .exact M E
  .split at E
   .exact M E
   .cases E
  .cases E
 .exact M E
 .rename_i c ho
  unfold Un at E
  split at E
  .split at E
   .split at E
    .exact M E
    .exact M E
    .cases E
   .cases E
  .rename_i hcl
   split at E
   .rename_i t t' s x h0 h1 FD
    have jA:∀p,DI a s=some p->p.1∈Ff n o:=λp P=>by
     have:=VF P
     subst this
     refine CB _ ?_
     simp only[ho,hcl,FD]
     simp[LN]
    split at E
    all_goals first
     |(cases E;done)
     | (split at E
        . split at E
          . split at E
            . split at E
              . split at E
                . cases E
                  refine G fun q F => ?_
                  simp only [FA.wf, AA] at F
                  rcases F with F | F
                  . exact O q F
                  . cases N : DI a s with
                    | none => rw [N] at F; simp at F
                    | some p => rw [N] at F; simp at F; rw [F]; exact jA p N
                . split at E
                  . cases E
                    refine G fun q F => ?_
                    simp only [FA.wf, AA] at F
                    rcases F with F | F
                    . exact O q F
                    . cases N : DI a s with
                      | none => rw [N] at F; simp at F
                      | some p => rw [N] at F; simp at F; rw [F]; exact jA p N
                  . cases E
                    refine G fun q F => ?_
                    simp only [FA.wf, AA] at F
                    rcases F with F | F
                    . exact O q F
                    . cases N : DI a s with
                      | none => rw [N] at F; simp at F
                      | some p => rw [N] at F; simp at F; rw [F]; exact jA p N
              . split at E
                . cases E
                  refine G fun q F => O q (by simpa [FA.wf] using F)
                . cases E
            . cases E
          . cases E
        . cases E)
   .cases E
  .split at E
   .split at E
    all_goals first
     |(cases E;done)
     | (split at E
        . exact U E
        . cases E)
   .cases E
  .split at E
   .split at E
    .split at E
     .exact U E
     .cases E
    .cases E
   .cases E
  .split at E
   .exact M E
   .cases E
  .split at E
   .exact M E
   .cases E
  .split at E
   .split at E
    .split at E
     .exact U E
     .cases E
    .cases E
   split at E
   .cases K:BI C a c.args.toList with
    |none=>rw[K] at E;cases E
    |some T=>
     rw[K] at E
     simp only[Cb,BN] at E
     split at E<;>(cases E;exact L rfl)
   .cases E
  .split at E
   .cases E;exact L rfl
   .cases E
  .cases E
 .cases E
end
def Ū:Dz->Exit
 | xo=> .normal
 | ro i=> .exit i
 | wi=> .ret
def QG:∀{l m:List Nat},l.Nodup->(∀x∈l,x∈m)->zy l<=zy m
 |[],_,_,_=>AZ _
 |x::l,m,a,c=>by have h1:=QG (m:=m.erase x) (CA.1 a).2 λy b=>(List.mem_erase_of_ne λe=>(CA.1 a).1 (by rwa[<-e])).2 (c y (by simp[b]));grind
def nY{P:Program}{c:Code}{Q:Exit->Act->World->Prop}(T:Nat->Act->World->Prop)(round:∀n a w,T n a w->c.wp P (Exit.then (λo l=>∃m,m<n/\T m o l) Q) a w)(n:Nat)(a:Act)(w:World)(z:T n a w):(Code.loop c).wp P Q a w:=by
 intro b k s;have q:∀n a w,T n a w->∃e o l,Q e o l/\Arrives P (lone (b.at a (.code c:: .inLoop c::k)) s w) b k s e o l:=by
  intro n;induction n using Nat.strongRecOn with
  |_ n x=>
   intro a w i;let⟨e,u,t,p,h⟩:=round n a w i b (.inLoop c::k) s;by_cases r:e= .normal;.subst r;let⟨m,y,d⟩:=p;let⟨j,A,f,g,v⟩:=x m y u t d;exact⟨j,A,f,g,.of_steps (Go.Steps.trans h (.one step_inLoop)) v⟩
   .exact⟨e,u,t,by cases e<;>first|exact p|exact absurd rfl r,.pass rfl (λ_ _=> ym r) h⟩
 let⟨e,o,l,p,h⟩:=q n a w z;exact⟨e,o,l,p,.of_steps (.one step_loop) h⟩
section
variable{C:Hw}{A U:Gh}{z w:World}{Z:Nat->Nat}{t:B5}{h:Ak}{a:Act}{y:FuncId}{u:IT->Ak->Option LI}
def nZ{f:List Oper}{o:Oper}{K:B5->IT}{R:LI}(l:zh (Cf C) u (Xi C y f t o K) h=zz R):
  ∃d,(d=t\/∃s b,s∈GI f o/\t.at s= zp (z1 b)/\d=t.set s (.RO b))/\
   ((Kj f d o= .Py zq/\zh (Cf C) u (Ķ C y f d o K) h=zz R)\/(Kj f d o= .Py zm/\zh (Cf C) u (K (d.put o.dst qr)) h=zz R)):=by
 rw[Xi] at l;split at l;.grind
 next a=>exact⟨t,ym rfl,yg ⟨a,l⟩⟩
 .rename_i s v k a;have e:s∈GI f o/\t.at s= zp v/\∀b,Kj f (t.set s (.RO b)) o= .Py (b==k):=by
   unfold Kj at a⊢;rw[GI];cases m:o.guard with
   |none=>rw[m] at a;cases a
   |some g=>
    let⟨j,want'⟩:=g;rw[m] at a;simp only at a⊢;cases n:(f[j]?).bind (·.dst) with
    |none=>rw[n] at a;cases a
    |some q=>
     rw[n] at a;simp only at a⊢;cases i:t.at q with
     |val v'=>rw[i] at a;cases a;refine⟨AF,i,λb=>?_⟩;rw[qc (qo (by rw[i];simp))]
     |RO c=>rw[i] at a;cases a
     |skip=>rw[i] at a;cases a
     |_=>rw[i] at a;cases a
  let⟨g1,g2,g3⟩:=e;simp[zh] at l;grind
 .cases l
def Ê(a:Act){ops:List Oper}{o:Oper}:(∀p∈Xk C t o,∃d n,t.at p.1= xz d p.2 n)/\((Xk C t o).map (·.1)).Nodup/\∀p∈Xk C t o,p.1∈Ff ops o:=by
 have j:∀l:List (Nat×List Ad),l=[]->(∀p∈l,∃d n,t.at p.1= xz d p.2 n)/\(l.map (·.1)).Nodup/\∀p∈l,p.1∈Ff ops o:=by grind
 cases h:o.op with
 |call c=>
  cases i:c.callee with
  |value g=>
   cases g with
   |func f=>
    cases m:Xj f with
    |true=>
     cases k:HA C t c.args.toList with
     |some q=>
      let⟨vs,b⟩:=q;have e:Xk C t o=b:=by rw[Xk];simp[h,i,m,k,BV]
      rw[e];let⟨u,s,_⟩:=Pj (a:=a) k;refine⟨u,s,λp r=>CB _ ?_⟩;simp[h,i,m,BV];exact Pk k p r
     |none=>exact j _ (by rw[Xk];simp[h,i,m,k,BV])
    |false=>exact j _ (by rw[Xk];simp[h,i,m])
   |_=>exact j _ (by rw[Xk];simp[h,i])
  |_=>exact j _ (by rw[Xk];simp[h,i])
 |_=>exact j _ (by rw[Xk];rw[h])
def Hu.E2{W:List Nat}:∀{l:List (Nat×Fb)} {t:B5},(∀p∈l,p.1∈W)->Hu W t (t.E2 l)
 |[],t,_=> .refl _ _
 |(s,x)::l,t,h=>(Hu.set (h (s,x) AF)).trans (Hu.E2 λp a=>h p (by simp[a]))
def ū{d:List Oper}{o:Oper}{W:List Nat}(k:Dp C A z U Z t h a w)(hw:∀s∈Ff d o,s∈W):∃b,Dp C A z b Z (aIl C t o) h a w/\Hu W t (aIl C t o):=by
 obtain⟨m,l,c⟩:=Ê a (ops:=d);obtain⟨b,_,n,_⟩:=(k.drop ((Xk C t o).map (·.1))).Xp (λp f=>by obtain⟨e,i,j⟩:=m p f;exact⟨e,i,by rw[B5.Vx,j]⟩) l
 refine⟨b,n,(Hu.drop t _).trans (Hu.E2 λp f=>?_)⟩;grind
def vj(m:F9 C u){x:Array Oper}{Q:Exit->Act->World->Prop}{W:List Nat}{K:B5->IT}{R:LI}:∀(v:List Oper) (k:Nat) (U:Gh) (Z:Nat->Nat) (t:B5) (h:Ak) (a:Act) (w:World),
  x.toList.drop k=v->(∀o∈v,(∀s∈Ff x.toList o,s∈W)/\∀s∈GI x.toList o,s∈W)->zh (Cf C) u (ug C y x.toList v t K) h=zz R->Dp C A z U Z t h a w->
  (∀g f B G F E,zh (Cf C) u (K B) G=zz R->Hu W t B->Dp C A z g f B G F E->Q .normal F E)->wpOps C.P x Q (List.range' k (zy v)) a w
 |[],k,U,Z,t,h,a,w,_,_,Bd,O,X=>by rw[BH,List.range'_zero,wpOps];exact X U Z t h a w Bd (.refl _ _) O
 |o::v,k,U,Z,t,h,a,w,hk,hW,Bd,O,X=>by
  have T:x[k]?=zz o:=by
   have:x.toList[k]?=zz o:=by have H:=Cx (·[0]?) hk;simpa[CF] using H
   exact zv this
  have l:x.toList.drop (k+1)=v:=by have H:=Cx (p4 1) hk;simpa[FJ] using H
  let⟨N,Ť⟩:=hW o AF;simp[Bg,List.range'_succ,wpOps,T];let⟨U1,e,c⟩:=ū O N;let⟨i,j,KA⟩:=nZ Bd;have J:Dp C A z U1 Z i h a w/\Hu W t i:=by
   obtain rfl|⟨s,b,g1,g2,rfl⟩:=j
   .exact⟨e,c⟩
   .have H:=e.fr.JC s;rw[g2] at H;exact⟨e.xE H,c.trans (.set (Ť s g1))⟩
  let⟨J,M⟩:=J;have next:∀g f B G F E,zh (Cf C) u (ug C y x.toList v B K) G=zz R->Hu W t B->Dp C A z g f B G F E->wpOps C.P x Q (List.range' (k+1) (zy v)) F E:=λg f B G F E T1 W_ Hi=>vj m v (k+1) g f B G F E l (λo T=>hW o (by simp[T])) T1 Hi λq p d Y a2 n Na aSx aMI=>X q p d Y a2 n Na (W_.trans aSx) aMI
  rcases KA with⟨V,L⟩|⟨V,L⟩
  .rw[Ae (NO J V)];rw[Ķ] at L;split at L;.rename_i r hc;let⟨d,Y,hd,Ym⟩:=kF L;exact ym (ţ m hc hd J λg f F E Hi=>next g f d Y F E Ym (M.trans ((vi hc hd).mono N)) Hi)
   .cases L
  .rw[Aa (by rw[NO J V];simp)];exact next U1 Z _ h _ w L (M.trans (.put λs hs=>N s (DA _ hs))) (J.put λ_ _=>rfl)
def jy{W:List Nat}{d:Option Nat}{t a:B5}(h:OV d t a)(c:∀s∈d.toList,s∈W):Hu W t a:=by
 unfold OV at h;cases d with
 |none=>simp only at h;exact h▸.refl _ _
 |some d=>
  simp only at h;split at h;.obtain⟨b,_,rfl⟩:=h;exact .set (c d AF)
  .rw[h];exact .refl _ _
def jz{c:List Oper}{q:List Nat}{W:List Nat}(f:∀o∈c,∀s∈Ff c o,s∈W){p:List Mq}{L:List St}{t d:B5}{h j:Ak}(a:Steps C y c u q p L t h d j):Hu W t d:=by
 induction a with
 |nil=>exact .refl _ _
 |cons n _ _ i=>
  refine Hu.trans ?_ i;obtain⟨o,e,⟨_,_,_,rfl,rfl⟩|⟨r,b,hg,l,_,k,_,m⟩⟩:=n;.exact .put λs a=>f o (C7 e) s (DA _ a)
  .refine((vi l k).mono λs a=>f o (C7 e) s a).trans (jy m λs a=>?_);split at a;.exact f o (C7 e) s (DA _ a)
   .grind
def cI(hm:C.P.follows .mixedOrders=zq)(g:F9 C u){Y:Nat}{n:Array Oper}{p:Bool}{Q:Exit->Act->World->Prop}{K:B5->IT}{R:LI}(B:zh (Cf C) u (Vq C y n.toList p t K) h=zz R)(O:Dp C A z U Z t h a w)
  (V:∀f d r X H F,zh (Cf C) u (K r) X=zz R->Hu (n.toList.flatMap (Ff n.toList)++n.toList.flatMap (GI n.toList)) t r->Dp C A z f d r X H F->Q .normal H F):(Code.region Y n p).wp C.P Q a w:=by
 rw[Vq] at B;cases p with
 |false=>refine wp_region ?_;have:=vj g n.toList 0 U Z t h a w rfl (λo G=>⟨λs v=>DA _ (tz.2 ⟨o,G,v⟩),λs v=>CB _ (tz.2 ⟨o,G,v⟩)⟩) B O V;simpa[aQ8] using this
 |true=>
  simp[BV] at B;split at B
  .rename_i Hn;let⟨L,J,hf,M,h2,m⟩:=Uy B;refine wp_region_any hm ?_;have b:=h2;rw[bF] at b;rw[WU,B4,Bs] at b;have E:vh (bC n.toList) L:=by have:=kY b.1;rwa[aXW] at this
   have x:=M.lt;have N:∀i,i<n.size->i∈L.map (·.idx):=λi q=>have:=EE.1 b.2 i (zv q);zv this
   have c:(L.map (·.idx)).Nodup:=by rw[List.Nodup,aXW];exact E.imp λh=>h.1
   have D:zy L=n.size:=by
    have l:(L.map (·.idx)).length<=(rg n.size).length:=QG c (λi q=>by obtain⟨s,v,rfl⟩:=Bv.1 q;exact zv (x s v))
    have k:=QG List.nodup_range λi q=>N i (zv q);simp at l k;omega
   refine É g Hn (λf d H F Hi=>V f d J hf H F m (jz (W:=n.toList.flatMap (Ff n.toList)++n.toList.flatMap (GI n.toList)) (λo G s v=>DA _ (tz.2 ⟨o,G,v⟩)) M) Hi) n.size L _ U Z t h a w.drew D M E ⟨AF,λi q=>⟨λ_=>N i q,λ_=>by simp[vz,q]⟩,λj T e _=>?_⟩ O.drew;exfalso;obtain x|EC:=AQ j n.size
   .simp[vz,x] at T
   .simp[vz,Nat.not_lt.2 EC] at T
  .cases B
end
def Th(x y:Fb):Prop:=
 (∃u,x.Jt=zz u/\y= zp u)\/(∃v,x= .BD v/\y= .BD v)\/∃a c b e d,x= xz a c b/\y= xz e c d/\∀o∈d,o∈b
def B5.JV:∀(b:List Nat) (a:B5) (s:Nat),(a.clear b).at s=if s∈b then x8 else a.at s
 |[],a,s=>by simp[q1]
 |t::b,a,s=>by
  rw[q1,B5.JV b];by_cases h:s∈b;.simp[h]
  .by_cases c:s=t
   .subst c;rw[q0];by_cases d:s<zy a;.simp[d]
    .have:a.at s= x8:=by simp[B5.at,y2,d]
     grind
   .rw[rl λe=>c e.symm];simp[h,c]
def B5.LR:∀(b:List Nat) (a:B5),(a.clear b).length=zy a
 |[],a=>rfl
 |t::b,a=>by rw[q1,B5.LR b];simp
section
variable{C:Hw}{U0 U:Gh}{w0 w:World}{Z:Nat->Nat}{H:B5}{h:Ak}{a:Act}{fid:FuncId}{run:IT->Ak->Option LI}
def Th.rel{B s:Nat}{x y:Fb}{v:Value}(a:Nu U Z B w s x v)(m:Th x y):Nu U Z B w s y v:=by
 rcases m with⟨u,k,rfl⟩|⟨u,rfl,rfl⟩|⟨ver,cs,ow,HS,Rd,rfl,rfl,n⟩
 .exact PE a k
 .exact a
 .let⟨j,i,g,h,e,f,d,c,b⟩:=a;exact⟨j,i,g,h,e,f,d,c,λo l=>b o (n o l)⟩
def Yn{σs:B5}{G:B5->IT}{R:LI}{Q:List Ad}:∀{l:List (Nat×Sh)} {i:Nat} {σa:B5},bG σs l=zz (Q.drop i)->zy σa=zy σs->zh (Cf C) run (K9 Q l i σa G) h=zz R->
  ∃b,zh (Cf C) run (G b) h=zz R/\zy b=zy σa/\(∀s,s∉l.map (·.1)->b.at s=σa.at s)/\(∀s,s∈l.map (·.1)->Th (σs.at s) (b.at s)/\
   ((∃K P J,b.at s= xz K P J/\j9 (σa.at s)<K)\/∀a w F,σs.at s≠ xz a w F))
 |[],i,σa,_,_,H=>⟨σa,H,rfl,λ_ _=>rfl,AF⟩
 |(s,c)::l,i,σa,N,hl,H=>by
  have hd:∃v U,Q.drop i=v::U/\Q.drop (i+1)=U/\Q.getD i uu=v/\bG σs l=zz U/\
    (match(generalizing:=false) c,σs.at s with| zo,x=>x.Jt| .BD,.BD v=>zz v| .box n F,xz _ w J=>if zy w=n/\F.all (J.contains ·) then zz (rz w) else zx|_,_=>zx)=zz v:=by
   unfold bG at N;simp only at N;split at N
   .rename_i v U h1 h2;simp[BN] at N;refine⟨v,U,N.symm,?_,?_,h2,h1⟩;.have:=Cx (p4 1) N;simpa[FJ] using this.symm
    .have:=Cx (·[0]?) N;simp[HR,CF,BE] at this;simp[y2,<-this]
   .cases N
  let⟨v,U,z,aSy,nS,Rw,E⟩:=hd;have V:s<zy σa:=by rw[hl];refine qo λe=>?_;rw[e] at E;cases c<;>simp[Fb.Jt] at E
  have go:∀(y:Fb),Th (σs.at s) y->((∃K P J,y= xz K P J/\j9 (σa.at s)<K)\/∀a w F,σs.at s≠ xz a w F)->zh (Cf C) run (K9 Q l (i+1) (σa.set s y) G) h=zz R->
    ∃b,zh (Cf C) run (G b) h=zz R/\zy b=zy σa/\(∀t,t∉((s,c)::l).map (·.1)->b.at t=σa.at t)/\(∀t,t∈((s,c)::l).map (·.1)->Th (σs.at t) (b.at t)/\
     ((∃K P J,b.at t= xz K P J/\j9 (σa.at t)<K)\/∀a w F,σs.at t≠ xz a w F)):=by
   intro y hy d Hi;obtain⟨b,r,q,k,p⟩:=Yn (aSy▸Rw) (zv hl) Hi;refine⟨b,r,zv q,λt T=>?_,λt T=>?_⟩;.simp only[Bn,A0,MO] at T;rw[k t T.2,rl λe=>T.1 e.symm]
   .by_cases hm:t∈l.map (·.1)
    .let⟨j,m⟩:=p t hm;refine⟨j,m.imp (λ⟨K,P,J,g,f⟩=>⟨K,P,J,g,?_⟩) id⟩;by_cases Y:s=t
     .subst Y;rw[qc V] at f;rcases d with⟨A,D,B,rfl,h1⟩|hn
      .simp only[j9] at f;omega
      .rcases j with⟨u,_,e⟩|⟨u,_,e⟩|⟨a,w,F,_,_,e,_⟩
       .rw[g] at e;cases e
       .rw[g] at e;cases e
       .cases (hn _ _ _) e
     .rwa [rl Y] at f
    .have Y:t=s:=by simp only[Bn,A0] at T;exact T.resolve_right hm
     subst Y;rw[k t hm,qc V];exact⟨hy,d⟩
  cases c with
  |val=>
   simp only[K9,nS] at H;have Z:(σs.at s).Jt=zz v:=zv E
   refine go (zp v) (ym ⟨v,Z,rfl⟩) (yg λa w F e=>?_) H;rw[e] at Z;cases Z
  |BD=>
   simp only[K9,nS] at H;cases M:σs.at s with
   |BD u=>rw[M] at E;cases E;exact go (.BD v) (yg (ym ⟨v,M,rfl⟩)) (yg λa w F e=>by rw[M] at e;cases e) H
   |_=>rw[M] at E;cases E
  |box n F=>
   simp only[K9,nS,zh] at H;cases M:σs.at s with
   |box a w J=>
    rw[M] at E;simp only at E;split at E
    .rename_i Jf;cases E;split at H;.rename_i hn;rw[Xn hn] at H;refine go (xz (j9 (σa.at s)+1) w F) (yg (yg ⟨a,w,J,_,F,M,rfl,λo ho=>?_⟩)) (ym ⟨_,_,_,rfl,Ps _⟩) H;have:=EE.1 Jf.2 o ho;exact zv this
     .cases H
    .cases E
   |_=>rw[M] at E;cases E
def Dp.aIL(b:Dp C U0 w0 U Z H h a w){O:B5}(i:zy O=zy H)(f:∀s,O.at s= x8\/O.at s=H.at s\/Th (H.at s) (O.at s)):Dp C U0 w0 U Z O h a w:=by
 refine⟨b.ED,⟨i▸b.fr.size,λs=>?_⟩,b.Ex,b.defers,b.IF⟩;have c:=b.fr.JC s;obtain e|e|e:=f s
 .rw[e];trivial
 .rw[e];exact c
 .exact e.rel c
structure ŭ(σ0:B5)(ws:List Nat)(l:List (Nat×Sh))(σ':B5)(vs:List Ad):Prop where
 vec:bG σ' l=zz vs
 len:zy σ'=zy σ0
 same:∀s,s∉l.map (·.1)->σ0.at s= x8\/σ0.at s=σ'.at s
 box:∀s ver cs ow,σ0.at s= xz ver cs ow->∃HS Iz Rd,σ'.at s= xz HS Iz Rd
def yH{a b:B5}{l:List (Nat×Sh)}(m:ķ a b l=zq){s:Nat}(hs:s∉l.map (·.1)):(∀c f e,a.at s= xz c f e->∃p n,b.at s= xz c p n)/\(∀t o,a.at s= .Ge t o->∃i j,b.at s= .Ge i j):=by
 have h:s<zy a->(match a.at s with
   | xz c _ _=>(l.map (·.1)).contains s||(match b.at s with| xz q _ _=>q==c|_=>zm)
   | .Ge _ _=>(l.map (·.1)).contains s||(match b.at s with| .Ge _ _=>zq|_=>zm)
   |_=>zq)=zq:=λk=>by
  exact EE.1 m s (zv k)
 constructor;.intro c f e d;have:=h (qo (by rw[d];simp));grind
 .intro t o d;have:=h (qo (by rw[d];simp));grind
def Se{a b r:B5}{ws:List Nat}{l:List (Nat×Sh)}{x:Dz}{R:LI}(v:zh (Cf C) run (EO a l x r) h=zz R)(F:Hu ws b r)(w:zy b=zy a)
  (H:∀s,s∈ws->a.at s= x8) (P:∀s,s∉l.map (·.1)->a.at s= x8\/a.at s=b.at s) (E:∀s p A z,a.at s= xz p A z->∃T Q O,b.at s= xz T Q O):
  ∃y,R=(x,y,h)/\ŭ a ws l r y:=by
 rw[EO] at v;split at v
 .rename_i N;split at v
  .rename_i y M;cases v;refine⟨y,rfl,M,F.1.trans w,λs G=>?_,λs p A z D=>?_⟩
   .by_cases u:s∈ws;.exact ym (H s u)
    .rcases P s G with e|e
     .exact ym e
     .right;have q:=F.2 s u;let⟨k,j⟩:=yH N G;rw[e] at k j⊢;cases B:b.at s with
      |box p A z=>rw[B] at q;let⟨f,n,i,c,_,d⟩:=q;grind
      |Ge t o=>
       rw[B] at q;obtain c|c:=q
       .exact c.symm
       .grind
      |_=>rw[B] at q;exact(q).symm
   .have u:s∉ws:=λu=>by rw[H s u] at D;cases D
    let⟨f,n,i,c⟩:=E s p A z D;have q:=F.2 s u;rw[c] at q;let⟨L,m,g,d,_⟩:=q;exact⟨L,m,g,d⟩
  .cases v
 .cases v
def ŭ.next{p t:B5}{K:List Nat}{l:List (Nat×Sh)}{F:List Ad}(v:ŭ p K l t F){G:B5->IT}{R:LI}(M:Dp C U0 w0 U Z t h a w)(O:zh (Cf C) run (K9 F l 0 p G) h=zz R):
  ∃b,zh (Cf C) run (G b) h=zz R/\Dp C U0 w0 U Z b h a w/\zy b=zy p/\(∀s,s∉l.map (·.1)->b.at s=p.at s)/\(∀s r A z,p.at s= xz r A z->∃x D B,b.at s= xz x D B/\(s∈l.map (·.1)->r<x)):=by
 let⟨b,i,f,d,c⟩:=Yn (zv v.vec) v.len.symm O;refine⟨b,i,M.aIL (f.trans v.len.symm) λs=>?_,f,d,λs r A z H=>?_⟩
 .by_cases u:s∈l.map (·.1);.exact yg (yg (c s u).1)
  .rw[d s u];obtain e|e:=v.same s u
   .exact ym e
   .exact yg (ym e)
 .by_cases u:s∈l.map (·.1)
  .let⟨_,q⟩:=c s u;let⟨m,o,n,k⟩:=v.box s r A z H;rcases q with⟨x,D,B,j,g⟩|q
   .exact⟨x,D,B,j,λ_=>by rwa[H] at g⟩
   .cases (q _ _ _) k
  .grind
def Sf{H a b:B5}{m W:List Nat}{l:List (Nat×Sh)}(r:a=H.clear m)(v:ĸ l m H=zq)(y:zy b=zy a)(B:∀s,s∉l.map (·.1)->b.at s=a.at s)
  (A:∀s h o n,a.at s= xz h o n->∃u D C,b.at s= xz u D C/\(s∈l.map (·.1)->h<u)) (z:∀s∈m,s∈W):Hu W H b:=by
 refine⟨by rw[y,r,B5.LR],λs w=>?_⟩;have c:=λk=>w (z s k);have t:a.at s=H.at s:=by rw[r,B5.JV,Aa c]
 by_cases k:s∈l.map (·.1)
 .obtain⟨p,x,rfl⟩:=Bv.1 k;have:=EE.1 v p x;rw[YV,aMg] at this;obtain this|this:=this
  .cases c this
  .cases q:H.at p.1 with
   |box h o n=>let⟨d,j,f,i,g⟩:=A p.1 h o n (t▸q);have:=g k;exact⟨d,j,f,i,Ab,λe=>Ab⟩
   |_=>rw[q] at this;cases this
 .rw[B s k,t];exact .refl _
def F9.le{n m:Nat}(h:F9 C (yj (Cf C) n))(b:m<=n):F9 C (yj (Cf C) m):=⟨h.1,λf a d r e i=>h.2 f a d r e (IT.Ju b i)⟩
def Ů(hm:C.P.follows .mixedOrders=zq):∀(c:Code) (n:Nat),F9 C (yj (Cf C) n)->∀{K:Dz->B5->IT} {R:LI} {H:B5} {h:Ak} {a:Act} {w:World} {U:Gh} {Z:Nat->Nat} {Q:Exit->Act->World->Prop},
  zh (Cf C) (yj (Cf C) n) (HC C fid c H K) h=zz R->Dp C U0 w0 U Z H h a w->
  (∀x f d T h' a' w',zh (Cf C) (yj (Cf C) n) (K x T) h'=zz R->Hu (Dq c++Ct c) H T->Dp C U0 w0 f d T h' a' w'->Q (Ū x) a' w')->c.wp C.P Q a w:=by
 intro c;induction c with
 |skip=>intro n p K R H h a w U Z Q Bd hr g;exact wp_skip (g xo U Z H h a w Bd (.refl _ _) hr)
 |region id ops draw=>
  intro n p K R H h a w U Z Q Bd hr g;simp only[HC] at Bd;split at Bd;.exact cI hm p Bd hr λf d T h' a' w' h1 h2 A=>g xo f d T h' a' w' h1 h2 A
  .rename_i l hl;unfold nF at Bd;simp only at Bd;split at Bd
   .rename_i hv;simp only[IT.step] at Bd;split at Bd
    .rename_i x vs h1 cJ;refine cI hm p cJ hr λf d T h' a' w' z u q=>?_;let⟨Je,e,he⟩:=Se (h:=h') z u (by rw[B5.LR]) (λs hs=>by rw[B5.JV,Ae hs]) (λs _=>by rw[B5.JV];split<;>simp) (λs ver cs ow hb=>by
      rw[B5.JV] at hb;split at hb;.cases hb
      .exact⟨ver,cs,ow,hb⟩)
     cases e;let⟨k,F,E,L,J,I⟩:=he.next q Bd;exact g xo f d k h1 a' w' F (Sf rfl hv L J I (λs hs=>hs)) E
    .cases Bd
   .cases Bd
 |seq x y D B=>
  intro n p K R H h a w U Z Q Bd hr g;simp only[HC] at Bd;refine wp_seq (D n p Bd hr λe f d T h' a' w' h1 h2 A=>?_);have up:∀j,Hu (Dq x++Ct x) H j->Hu (Dq (.seq x y)++Ct (.seq x y)) H j:=λj ho=>ho.mono λs hs=>by simp only[Dq,Ct,AA] at hs⊢;obtain hs|hs:=hs<;>simp[hs]
  cases e with
  |normal=>refine B n p h1 A λY U2 Z2 j kW a2 w2 z u q=>g Y U2 Z2 j kW a2 w2 z ((up _ h2).trans (u.mono λs hs=>?_)) q;simp only[Dq,Ct,AA] at hs⊢;obtain hs|hs:=hs<;>simp[hs]
  |exit i=>exact g (ro i) f d T h' a' w' h1 (up _ h2) A
  |ret=>exact g wi f d T h' a' w' h1 (up _ h2) A
 |cond c x y D B=>
  intro n p K R H h a w U Z Q Bd hr g;have N:∀{o j:B5},Hu (Dq x++Ct x) o j->Hu (Dq (.cond c x y)++Ct (.cond c x y)) o j:=λ{o j} ho=>ho.mono λs hs=>by cases c<;>simp only[Dq,Ct,AA,A0] at hs⊢<;>obtain hs|hs:=hs<;>simp[hs]
  have M:∀{o j:B5},Hu (Dq y++Ct y) o j->Hu (Dq (.cond c x y)++Ct (.cond c x y)) o j:=λ{o j} ho=>ho.mono λs hs=>by cases c<;>simp only[Dq,Ct,AA,A0] at hs⊢<;>obtain hs|hs:=hs<;>simp[hs]
  simp only[HC] at Bd;split at Bd;next hc=>let⟨s,h1,_⟩:=HD hr hc;exact wp_cond_true h1 (D n p Bd hr λe f d T h' a' w' z u q=>g e f d T h' a' w' z (N u) q)
  next hc=>let⟨s,h1,_⟩:=HD hr hc;exact wp_cond_false h1 (B n p Bd hr λe f d T h' a' w' z u q=>g e f d T h' a' w' z (M u) q)
  .rename_i s v hc;have h0:=hr.fr.JC s;rw[It hc] at h0;have G:∀{S:Dz->B5->IT} {R':LI} {Q':Exit->Act->World->Prop},zh (Cf C) (yj (Cf C) n) (.Hs v (HC C fid x (H.set s (.RO zq)) S) (HC C fid y (H.set s (.RO zm)) S)) h=zz R'->
     (∀e f d T h' a' w',zh (Cf C) (yj (Cf C) n) (S e T) h'=zz R'->Hu (Dq (.cond (.tmp s) x y)++Ct (.cond (.tmp s) x y)) H T->Dp C U0 w0 f d T h' a' w'->Q' (Ū e) a' w')->(Code.cond (.tmp s) x y).wp C.P Q' a w:=by
    intro S R' Q' T1 O;have Å:∀b:Bool,Hu (Dq (.cond (.tmp s) x y)++Ct (.cond (.tmp s) x y)) H (H.set s (.RO b)):=λb=> .set (by simp[Ct]);simp only[IT.step] at T1;split at T1;.have hv:a.eval (.tmp s)= .bool true:=h0;exact wp_cond_true hv (D n p T1 (hr.xE h0) λe f d T h' a' w' z u q=>O e f d T h' a' w' z ((Å zq).trans (N u)) q)
    .have hv:a.eval (.tmp s)= .bool false:=h0;exact wp_cond_false hv (B n p T1 (hr.xE h0) λe f d T h' a' w' z u q=>O e f d T h' a' w' z ((Å zm).trans (M u)) q)
    .cases T1
   split at Bd;.exact G Bd g
   .rename_i l hl;unfold nF at Bd;simp only at Bd;split at Bd
    .rename_i hv;simp only[IT.step] at Bd;split at Bd
     .rename_i e vs h1 cJ;refine G cJ λY f d T h' a' w' z u q=>?_;let⟨Je,eq,he⟩:=Se (h:=h') (ws:=s::(Dq x++Dq y++Ct x++Ct y)) z (u.mono λt ht=>by
        simp only[Dq,Ct,AA,A0] at ht⊢;rcases ht with(ht|ht)|ht|ht|ht<;>simp[ht]) (by rw[B5.LR]) (λt ht=>by rw[B5.JV,Ae ht]) (λt _=>by rw[B5.JV];split<;>simp) (λt ver cs ow hb=>by
       rw[B5.JV] at hb;split at hb;.cases hb
       .exact⟨ver,cs,ow,hb⟩)
      cases eq;let⟨k,F,E,L,J,I⟩:=he.next q Bd;exact g e f d k h1 a' w' F (Sf rfl hv L J I (λt ht=>by simp only[Dq,Ct,AA,A0] at ht⊢;obtain ht|((ht|ht)|ht)|ht:=ht<;>simp[ht])) E
     .cases Bd
    .cases Bd
  .cases Bd
 |block id b ih=>
  intro n p K R H h a w U Z Q Bd hr g;simp only[HC] at Bd;refine wp_block (ih n p Bd hr λe f d T h' a' w' h1 h2 A=>?_);cases e with
  |normal=>exact g xo f d T h' a' w' h1 h2 A
  |exit i=>
   simp only at h1;show if i=id then Q .normal a' w' else Q (.exit i) a' w'
   by_cases hi:i=id;.rw[Ae hi] at h1⊢;exact g xo f d T h' a' w' h1 h2 A
   .rw[Aa hi] at h1⊢;exact g (ro i) f d T h' a' w' h1 h2 A
  |ret=>exact g wi f d T h' a' w' h1 h2 A
 |loop b ih=>
  intro n p K R H h a w U Z Q Bd hr g;simp only[HC] at Bd;generalize hl:C.aIh fid ((H9 b).getD 0)=l at Bd;generalize aYr:(H9 b).getD 0=key at Bd;generalize h0:H.clear (Dq b++Ct b)=σ0 at Bd;split at Bd
  .rename_i hv;split at Bd;.cases Bd
   .rename_i init aMK;have aML:zy σ0=zy H:=by rw[<-h0,B5.LR]
    have Y7:∀s,s∈Dq b++Ct b->σ0.at s= x8:=λs hs=>by rw[<-h0,B5.JV,Ae hs]
    refine nY (λm a w=>∃U Z o h vs,Dp C U0 w0 U Z o h a w/\ŭ σ0 (Dq b++Ct b) l o vs/\m<=n+1/\
     yj (Cf C) m (w9 key vs (λvs=>K9 vs l 0 σ0 λk=>HC C fid b k λx T=>EO σ0 l x T) λx vs=>K9 vs l 0 σ0 λT=>aGM K x T) h=zz R) ?_ (n+1) a w
     ⟨U,Z,H,h,init,hr,⟨aMK,aML.symm,λs _=>by rw[<-h0,B5.JV];split<;>simp,λs ver cs ow hb=>by
      rw[<-h0,B5.JV] at hb;split at hb;.cases hb
      .exact⟨ver,cs,ow,hb⟩⟩,Af _,Bd⟩
    rintro m a1 w1 ⟨U1,Z1,o,h1,vs,LJ,V,hmn,KC⟩;cases m with
    |zero=>simp[yj] at KC
    |succ m=>
     simp only[IT.run,IT.step] at KC;have body:∀{x:Dz} {Je:List Ad} {h':Ak},zh (Cf C) (yj (Cf C) m) (K9 vs l 0 σ0 λk=>HC C fid b k λx T=>EO σ0 l x T) h1=zz (x,Je,h')->∀{Q':Exit->Act->World->Prop},
       (∀f d T a' w',Dp C U0 w0 f d T h' a' w'->ŭ σ0 (Dq b++Ct b) l T Je->Q' (Ū x) a' w')->b.wp C.P Q' a1 w1:=by
      intro x Je h' hb Q' X;let⟨k,F,E,L,J,I⟩:=V.next LJ hb;refine ih m (p.le Ab) F E λy f d T h2 a' w' z u q=>?_;let⟨vs2,eq,he⟩:=Se z u L Y7 (λs hs=> yg (J s hs).symm) λs ver cs ow hb=>let⟨v1,c1,o1,e1,_⟩:=I s ver cs ow hb;⟨v1,c1,o1,e1⟩
      cases eq;exact X f d T a' w' q he
     split at KC;next Je h' hb=>exact body hb λf d T a' w' Hi Sg=>⟨m,Ps m,f,d,T,h',Je,Hi,Sg,Ab,KC⟩
     .rename_i x Je h' hne hb;refine body hb λf d T a' w' Hi Sg=>?_;let⟨k,F,E,L,J,I⟩:=Sg.next Hi (IT.Ls (λt h r=>IT.Ju (fn:=Cf C) (Ab:m<=n)) _ _ _ KC);have ho:=Sf h0.symm hv L J I λs hs=>hs;cases x with
      |normal=>cases hne rfl
      |exit i=>exact g _ f d k h' a' w' F ho E
      |ret=>exact g _ f d k h' a' w' F ho E
     .cases KC
  .cases Bd
 |exit id=>intro n p K R H h a w U Z Q Bd hr g;exact wp_exit (g (ro id) U Z H h a w Bd (.refl _ _) hr)
 |ret=>intro n p K R H h a w U Z Q Bd hr g;exact wp_ret (g wi U Z H h a w Bd (.refl _ _) hr)
 |label l=>intro n p K R H h a w U Z Q Bd hr g;exact wp_label (g xo U Z H h a w Bd (.refl _ _) hr)
 |scope b ih=>
  intro n p K R H h a w U Z Q Bd hr g;simp only[HC] at Bd;refine wp_scope_straight (ih n p Bd hr λe f d T h' a' w' h1 h2 A=>?_);cases e with
  |normal=>exact g xo f d T h' a' w' h1 h2 A
  |exit i=>exact g (ro i) f d T h' a' w' h1 h2 A
  |ret=>exact g wi f d T h' a' w' h1 h2 A
 |_=>intros n p K R H h a w U Z Q Bd hr g;cases Bd
end
section
variable{C:Hw}{J U:Gh}{G w:World}{Z:Nat->Nat}{F:B5}{h:Ak}{a:Act}{H:FuncId}{E:IT->Ak->Option LI}
def JW(b:Array Value):ResultVar->Sem Value
 | .tmp t=>pure (b.getD t undef)
 | .cell a t=>do loadVar t (<-asAddr (b.getD a undef))
def VH{P:Program}{t:TypeId}{b o:Nat}{v:Value}(h:(si t (zj (zz ⟨b,o,zx⟩))).run P w= wz v w):(loadVar t ⟨b,o,zx⟩).run P w= wz v w:=by simpa[si,rh] using h
def Yo{K:List Ad->IT}{R:LI}:∀{V:List ResultVar} {Q:List Ad},zh (Cf C) E (HZ C F V Q K) h=zz R->Dp C J G U Z F h a w->
  ∃M H,(V.mapM (JW a.tmps)).run C.P w= wz H w/\Bt U M H/\zh (Cf C) E (K (Q.reverse++M)) h=zz R
 |[],Q,B,L=>⟨[],[],AF,rfl,by simpa[HZ] using B⟩
 |f::V,Q,B,L=>by
  have one:∀(v:Ad) (u:Value),(JW a.tmps f).run C.P w= wz u w->B3 U v u->zh (Cf C) E (HZ C F V (v::Q) K) h=zz R->
    ∃M H,((f::V).mapM (JW a.tmps)).run C.P w= wz H w/\Bt U M H/\zh (Cf C) E (K (Q.reverse++M)) h=zz R:=by
   intro v u h1 h2 m;let⟨M,H,z,y,x⟩:=Yo m L;refine⟨v::M,u::H,?_,⟨u,H,rfl,h2,y⟩,zv x⟩;simp[List.mapM_cons,h1,z]
  cases f with
  |tmp t=>
   rw[HZ] at B;split at B;next v N=>exact one v _ (by simp[JW]) (PE (L.fr.JC t) N) B
   .cases B
  |cell p t=>
   have c:∀(b o:Nat) (v:Ad),a.tmps.getD p undef= zj (zz ⟨b,o,zx⟩)->(∃u,(si t (zj (zz ⟨b,o,zx⟩))).run C.P w= wz u w/\B3 U v u)->zh (Cf C) E (HZ C F V (v::Q) K) h=zz R->
     ∃M H,((ResultVar.cell p t::V).mapM (JW a.tmps)).run C.P w= wz H w/\Bt U M H/\zh (Cf C) E (K (Q.reverse++M)) h=zz R:=by
    intro b o v hp ⟨u,h1,h2⟩ m;refine one v u ?_ h2 m;rw[JW,hp,asAddr,yh,xv,yp];exact VH h1
   rw[HZ] at B;split at B
   .rename_i s A ver cs ow X Y;split at B;.rename_i hlt;let⟨hs,hx⟩:=M9 L Y;let⟨u,i,g,_⟩:=MS L X hs (r:=cs.getD A uu) (off:=A) (by simp[Gp,y2,Ap hlt]);exact c _ _ _ hx ⟨u,i,g⟩ B
    .cases B
   .rename_i n s A ver cs ow X Y;split at B;.rename_i E7;let⟨hs,hx⟩:=M9 L Y;let⟨u,i,g,_⟩:=MS L X hs (r:= rz ((cs.drop A).take n)) (off:=A) (by simp[Gp,E7]);exact c _ _ _ hx ⟨u,i,g⟩ B
    .cases B
   .rename_i n p' X Y;rw[zh] at B;split at B
    .rename_i v N;unfold A8 at N;split at N;.rename_i cs;let⟨b,k,xT,hm⟩:=(Uv L Y);let⟨H,l,d⟩:=hm.values;exact c b k v xT (JT X l (λj u O=>(L.ED.JJ _ _ _ (d j u O)).1) (λu hu=>let⟨j,O⟩:=C8 hu;(L.ED.JJ _ _ _ (d j u O)).2.1) N) B
     .rename_i id A;let⟨b,hb,xT⟩:=(Uv L Y);split at N
      .rename_i cs hcs;let⟨H,e,fr,l,pf,d,q⟩:=L.ED.cells id cs hcs b hb;refine c b A v xT (JT X (d.drop A) (λj u O=>?_) (λu hu=>q u (BU hu)) (R5 N)) B;rw[cell_of_row w _ _ H e fr l];rw[CF,Cw] at O;split at O;.exact zv O
       .cases O
      .cases N
     .cases N
    .cases B
   .cases B
def Dp.RR(O:Dp C J G U Z F h a w){p:Ad}{H:Nat}{u:Value}{h':Ak}(hp:B3 U p u)(E:Mz h H p=zz h'):∃t,Dp C J G t Z F h' a w:=by
 unfold Mz at E;split at E;.cases E;exact⟨U,O⟩
 .rename_i V n;generalize n+H=o at E;let⟨b,hb,_⟩:=hp;split at E
  .rename_i cs Q;split at E
   .rename_i v hv;let⟨N,e,fr,c,pf,m,B⟩:=O.ED.cells V cs Q b hb;let⟨x,hx,f⟩:=m.get hv;cases P:LH h v with
    |none=>rw[P] at E;cases E
    |some q=>
     let⟨h1,M⟩:=q;rw[P] at E;simp[CR] at E;split at E
     .rename_i L K;cases E;let⟨U1,E7,R,r⟩:=O.RL f P;have W8:=E7.mu _ _ hb;let⟨j,D,s,g,k,T,l⟩:=R.ED.cells V L K b W8;rw[c] at g;cases g;have Å:Bt U1 (L.set o M) (N.toList.take (L.set o M).length):=by
       rw[Bw];refine Bt.Ir (by simp[T.length]) λi y z Y hz=>?_;by_cases hi:o=i;.grind
       .rw[Av hi] at Y;let⟨A,X,d⟩:=T.get Y;rw[hz] at X;cases X;exact d
      let⟨Zy,Ry⟩:=Pz R.ED K W8 c N (L.set o M) rfl k Å (by rwa[Bw]);rw[setRow_self w b N e fr c] at Zy Ry;exact⟨U1,R.Kz Zy Ry⟩
     .cases E
   .cases E
  .cases E
 .cases E
def vn{t:IT}{R:LI}:∀{l:List (Nat×Nat)} {U:Gh} {h:Ak},zh (Cf C) E (uj C F l t) h=zz R->Dp C J G U Z F h a w->∃b e,Dp C J G b Z F e a w/\zh (Cf C) E t e=zz R
 |[],U,h,c,d=>⟨U,h,d,c⟩
 |(s,off)::l,U,h,c,d=>by
  rw[uj] at c;split at c
  .rename_i p f;rw[zh] at c;split at c;.rename_i h1 i;let⟨U1,j⟩:=d.RR (PE (d.fr.JC s) f) i;exact vn c j
   .cases c
  .cases c
def cK{R:LI}:∀{q m:List Ad} {U:Gh} {h:Ak} {n Ġ:List Value},zh (Cf C) E (RU q m X9) h=zz R->Dp C J G U Z F h a w->Bt U q n->Bt U m.reverse Ġ->
  ∃c t x,Dp C J G c Z F t a w/\Bt c x (Ġ++n)/\zh (Cf C) E (X9 x) t=zz R
 |[],m,U,h,n,Ġ,p,r,o,s=>by rw[show n=[] from o,Br];exact⟨U,h,m.reverse,r,s,p⟩
 |v::q,m,U,h,n,Ġ,p,r,o,s=>by
  obtain⟨u,Ei,rfl,A,o⟩:=o;rw[RU,zh] at p;split at p
  .rename_i k z B;let⟨D,y,H,b⟩:=r.RL A B;have e:Bt D (z::m).reverse (Ġ++[u]):=Fw▸(Bt.mono y _ _ s).append ⟨u,[],rfl,b,rfl⟩
   let⟨l,j,d,i,g,f⟩:=cK p H (Bt.mono y _ _ o) e;grind
  .grind
def vo{R:LI}{l:List Ad}{a:List Value}{U:Gh}{h:Ak}(j:zh (Cf C) E (X9 l) h=zz R)(d:Bt U l a):
  ∃r,R=(wi,[r],h)/\B3 U r (if c:a.toArray.size=1 then a.toArray[0] else y8 a.toArray):=by
 unfold X9 at j;split at j;next v=>obtain⟨u,m,rfl,b,f⟩:=d;rw[show m=[] from f];rw[zh] at j;grind
 .rename_i k;rw[zh] at j;cases j;have i:zy a≠1:=λe=>by have:=d.length;rw[e] at this;let⟨v,d⟩:=aLy.1 this.symm;exact k v d
  refine⟨_,rfl,?_⟩;exact dif_neg (zv i)▸⟨a.toArray,rfl,zv d⟩
def Yp{fn:Func}{tmps:Array Value}{us:List Value}(h:(fn.results.toList.mapM (JW tmps)).run C.P w= wz us w):(results fn tmps).run C.P w= wz (if b:us.toArray.size=1 then us.toArray[0] else y8 us.toArray) w:=by
 have e:fn.results.mapM (JW tmps)=(do let l<-fn.results.toList.mapM (JW tmps);pure l.toArray:Sem (Array Value)):=Array.mapM_eq_mapM_toList;simp
 have c:results fn tmps=(do let d<-fn.results.mapM (JW tmps);pure (if b:d.size=1 then d[0] else y8 d):Sem Value):=by congr 2
 simp_all
def aDj{z:Func}{R:LI}(D:zh (Cf C) E (xD C H z F) h=zz R)(V:Dp C J G U Z F h a w):
  ∃r N v f,R=(wi,[r],N)/\(results z a.tmps).run C.P w= wz v w/\IA f N w/\M7 J G f w/\B3 f r v/\(C.KG H=zq->∃s c,Kk f G.heap.size w s c v r):=by
 rw[xD] at D;split at D;.cases D
 .rename_i GQ;let⟨O,y,q,p⟩:=vn D V;by_cases K:C.KG H=zq
  .have g:∃t x,z.results.toList=[.tmp t]/\F.at t= .BD x:=by
    have:Ta F z.results.toList=zq:=by
     cases X:Ta F z.results.toList with
     |true=>rfl
     |false=>cases GQ (by simp[K,X])
    unfold Ta at this;grind
   let⟨t,x,d,M⟩:=g;have A:=q.fr.JC t;rw[M] at A;rw[d] at p;simp[HZ,M,Fb.Jt,Fw,WU,B4] at p;have L:LH y x=zz (y,x):=by rcases A.2 with(rfl|⟨_,rfl⟩)|⟨_,_,_,_,_,_,_,rfl,_⟩<;>rfl
   have u:R=(wi,[x],y):=by
    split at p;.simp only[RU,zh,L,Fw,WU,B4,X9] at p;cases p;rfl
    .simp only[zh,X9] at p;cases p;rfl
   exact⟨x,y,_,O,u,zv (Yp (C:=C) (w:=w) (tmps:=a.tmps) (us:=[a.tmps.getD t undef]) (by rw[d];simp[JW])),q.ED,q.Ex,A.1,λ_=>⟨t,zx,A.2⟩⟩
  .let⟨vs,T,n,k,B⟩:=Yo p q;rw[WU,B4] at B;split at B;.let⟨o,Y,l,j,i,m⟩:=cK B q k rfl;rw[B4] at i;let⟨r,u,b⟩:=vo m i;exact⟨r,Y,_,o,u,Yp n,j.ED,j.Ex,b,λe=>absurd e K⟩
   .let⟨r,u,b⟩:=vo B k;exact⟨r,y,_,O,u,Yp n,q.ED,q.Ex,b,λe=>absurd e K⟩
def Dp.start{U:Gh}{h:Ak}{w:World}(p:IA U h w)(q:∀g l,C.IF g=zz l->Dr U l g 0){a:List Ad}{b:Array Value}(k:Bt U a b.toList)(n:Nat)(Z:Nat->Nat):
  Dp C U w U Z (a.map zp++yx (n-zy a) .undef) h {tmps:=b++rx (n-b.size) undef,defers:=[]} w:=by
 have d:=have:=k.length;zv this
 refine⟨p,⟨by simp[d],λs=>?_⟩,M7.refl U w,rfl,q⟩;by_cases j:s<zy a
 .have f:B5.at (a.map zp++yx (n-zy a) x8) s= zp a[s]:=by simp[B5.at,y2,An,j]
  let⟨u,o,hr⟩:=k.get (Ap j);have r:(b++rx (n-b.size) undef).getD s undef=u:=by
   rw[LF,Array.getElem?_append_left Ab];have:b[s]?=zz u:=zv o
   rw[this];rfl
  rwa[f,r]
 .have f:B5.at (a.map zp++yx (n-zy a) x8) s= x8:=by rw[B5.at,y2];grind
  rw[f];trivial
def oA(C:Hw):Prop:=
 (∀f,C.Mf f=zq->ŗ C f)/\∀(f:FuncId) (p:List Ad->IT),C.aIi f=zz p->∀n,F9 C (yj (Cf C) n)->∀(d:List Ad) (h:Ak) (r:Ad) (j:Ak),zh (Cf C) (yj (Cf C) n) (p d) h=zz (wi,[r],j)->
  (∃fn c,C.P.funcs[Fq f]?=zz fn/\(fn.name== "runtime.NumGoroutine")=zm/\fn.body=zz c)/\
  ∀(U:Gh) (w:World) (a:Array Value),IA U h w->(∀g k,C.IF g=zz k->Dr U k g 0)->Bt U d a.toList->
   Calls C.P (Fq f) a w λe i=>match e with
    | .returned v=>∃b,IA b j i/\M7 U w b i/\B3 b r v/\(C.KG f=zq->∃s c,Kk b w.heap.size i s c v r)
    |_=>False
def yI(L:C.P.follows .mixedOrders=zq)(G:∀g O,C.IF g=zz O->O.all qd=zq)(d:oA C):∀n,F9 C (yj (Cf C) n)
 |0=>⟨⟨G,d.1⟩,λf z h r D a=>by simp[yj] at a⟩
 |n+1=>⟨⟨G,d.1⟩,λf z h r D a=>by
  have K:=yI L G d n;rw[Cf] at a;split at a;next p T=>exact d.2 f p T n K z h r D a
  rw[aMn] at a;split at a
  .rename_i E M;split at a;.cases a
   .rename_i A;rw[Ĺ] at a;split at a;.cases a
    .rename_i c N;refine⟨⟨E,c,M,zv A,N⟩,λU w cargs V X Y=>calls_of_wp M N ?_⟩;refine Ů L c n K a (Dp.start V X Y E.ntmps (λ_=>0)) λx y u F Z Q B j _ k=>?_;have R:zh (Cf C) (yj (Cf C) n) (xD C f E F) Z=zz (wi,[r],D)->Q.defers=[]/\∃v,(results E Q.tmps).run C.P B= wz v B/\∃b,IA b D B/\M7 U w b B/\B3 b r v/\(C.KG f=zq->∃s c,Kk b w.heap.size B s c v r):=λH=>by let⟨r',h2,v,b,e,t,q,o,m,l⟩:=aDj H k;cases e;exact⟨k.defers,v,t,b,q,o,m,l⟩
     cases x with
     |normal=>exact R j
     |ret=>exact R j
     |exit i=>cases j
  .cases a⟩
end
def Ev.calls{C:Hw}(m:C.P.follows .mixedOrders=zq)(l:∀g i,C.IF g=zz i->i.all qd=zq)(b:oA C){f:FuncId}{d:List Ad}{h:Ak}{Q:Ad->Ak->Prop}(t:Ev C f d h Q){U:Gh}{w:World}{a:Array Value}(o:IA U h w)(p:∀g i,C.IF g=zz i->Dr U i g 0)(s:Bt U d a.toList):
  Calls C.P (Fq f) a w λe k=>match e with
   | .returned v=>∃r j c,Q r j/\IA c j k/\M7 U w c k/\B3 c r v
   |_=>False:=by
 obtain⟨n,x,vs,j,u,rfl,r,rfl,hQ⟩:=t;refine(((yI m l b n).2 f d h r j u).2 U w a o p s).mono λe k q=>?_;cases e with
 |returned v=>grind
 |_=>exact q
inductive Ty where
 |bool
 |int (k:IntKind)
 |str
 |sl (e:Ty)
 |st (fs:List Ty)
 deriving Inhabited
mutual
def Ty.size:Ty->Nat
 | .bool| .int _| .str| .sl _=>1
 | .st fs=>Ty.OW fs
def Ty.OW:List Ty->Nat
 |[]=>0
 |t::ts=>Ty.size t+Ty.OW ts
end
mutual
def TO(P:Program):Ty->TypeId->Bool
 | .bool,t=>match P.underlying t with|zz .bool=>zq|_=>zm
 | .int k,t=>match P.underlying t with|zz (.int k')=>decide (k'=k)|_=>zm
 | .str,t=>match P.underlying t with|zz .string=>zq|_=>zm
 | .sl e,t=>match P.underlying t with
  |zz (.slice e')=>P.cellsOf e'==Ty.size e&&decide (0<Ty.size e)&&TO P e e'
  |_=>zm
 | .st fs,t=>match P.underlying t with
  |zz (.struct fields)=>P.cellsOf t==Ty.OW fs&&Si P fs fields.toList 0
  |_=>zm
def Si(P:Program):List Ty->List Field->Nat->Bool
 |[],[],_=>zq
 |ty::tys,f::fs,off=>f.offset==off&&P.cellsOf f.type==Ty.size ty&&TO P ty f.type&&Si P tys fs (off+Ty.size ty)
 |_,_,_=>zm
end
mutual
def jE:Ty->List Ad->Prop
 | .bool,l=>∃b,l=[z1 b]
 | .int k,l=>∃n,l=[zw k n]/\(Lit.int k n).wf=zq
 | .str,l=>∃s:Aj,l=[.str s]/\zy s<=maxLen
 | .sl e,l=>l=[wl]\/∃AH:List (List Ad),l=[.sl (Ty.size e) AH]/\zy AH<=maxLen/\∀r∈AH,jE e r
 | .st fs,l=>Ë fs l
def Ë:List Ty->List Ad->Prop
 |[],l=>l=[]
 |ty::tys,l=>∃a b,l=a++b/\jE ty a/\Ë tys b
end
def Ty.aIO:Ty->Bool
 | .st _=>zq
 |_=>zm
def j_(b:Ty)(a:Ad):Prop:=if b.aIO then∃c,a= rz c/\jE b c else jE b [a]
def ZB:List Ty->List Ad->Prop
 |[],l=>l=[]
 |c::tys,l=>∃a b,l=a::b/\j_ c a/\ZB tys b
def HF(W:World):Gh:={JJ:=λb o=>(W.cell? ⟨b,o,zx⟩).filter (·.oneCell'),mu:=λ_=>zx,BD:=λ_=>zx,sz:=λ_=>zx}
def Ű(W:World):IA (HF W) [] W:=by refine⟨λb o v h=>?_,λa x h=>by simp at h,λa cs h=>by simp at h,λa es h=>by simp at h,λa b h=>(by cases h),λb x h=>(by cases h),λb n h=>(by cases h)⟩;rw[HF,TS] at h;exact⟨h.1,h.2,ym rfl⟩
def Xt{W:World}{b o:Nat}{v:Value}(h:W.cell? ⟨b,o,zx⟩=zz v)(a:v.oneCell'=zq):(HF W).JJ b o=zz v:=by simp[HF,h,a,Option.filter]
def Yq{V:Type}{p:Nat->V->Prop}:∀(n:Nat),(∀i,i<n->∃x,p i x)->∃l:List V,zy l=n/\∀i x,l[i]?=zz x->p i x
 |0,_=>⟨[],rfl,AF⟩
 |n+1,h=>by let⟨l,a,hp⟩:=Yq n λi hi=>h i Ab;let⟨x,hx⟩:=h n Ab;refine⟨l++[x],by simp[a],λi y hy=>?_⟩;grind
section
variable{H:Type}{w:TypeId×Value->H}{P:Program}{W:World}
def T2{a:Addr}{n:Nat}{e:List Value}(h:W.cells? 0 a n=zz e)(c:0<n):a.spot=zx:=by
 let⟨_,hl,d⟩:=World.cells?_some h;have b:=d 0 c;rw[Ap Ab] at b;rw[World.cell?] at b;have ha:a.add 0=a:=by simp[Addr.add]
 split at b;.simp_all
 .cases b
mutual
def oB:∀(ty:Ty) {t:TypeId} {fuel:Nat} {cs:List Value} {x:DataW H×List MemPlace},TO P ty t=zq->pa w P W 0 (λ_=>zq) zq fuel t cs=zz x->
  ∃bp,jE ty bp/\Bt (HF W) bp cs/\(∀u∈cs,u.oneCell'=zq)/\zy bp=Ty.size ty
 | .bool,t,fuel,cs,x,ND,h=>by
  unfold TO at ND;split at ND;next ht=>obtain⟨b,rfl,_⟩:=DataW.trod_bool ht h;exact⟨[z1 b],⟨b,rfl⟩,⟨_,[],rfl,rfl,rfl⟩,by simp[Value.oneCell'],rfl⟩
  .cases ND
 | .int k,t,fuel,cs,x,ND,h=>by
  unfold TO at ND;split at ND
  .rename_i k' ht;have hk:k'=k:=by simpa using ND
   subst hk;obtain⟨n,rfl,_,hw⟩:=DataW.trod_int ht h;exact⟨[zw k' n],⟨n,rfl,hw⟩,⟨_,[],rfl,rfl,rfl⟩,by simp[Value.oneCell'],rfl⟩
  .cases ND
 | .str,t,fuel,cs,x,ND,h=>by
  unfold TO at ND;split at ND
  .rename_i ht;obtain⟨s,rfl,_,hs⟩:=DataW.trod_string ht h;refine⟨[.str s.data.toList],⟨_,rfl,by
    have e:zy s.data.toList=s.size:=by rw[CG];rfl
    rw[e];exact hs⟩,⟨_,[],rfl,?_,rfl⟩,by simp[Value.oneCell'],rfl⟩
   show Value.string s= zd ⟨⟨s.data.toList⟩⟩;congr 1
  .cases ND
 | .sl e,t,fuel,cs,x,ND,h=>by
  unfold TO at ND;split at ND
  .rename_i e' ht;simp only[Bs,aCH,Cj] at ND;let⟨⟨hce,hpos⟩,aSD⟩:=ND;rcases DataW.trod_slice ht h with⟨rfl,_⟩|⟨a,len,cap,elems,rest,n,_,rfl,_,_,hl,hm,hlen,c,hsp,_⟩
   .exact⟨[wl],ym rfl,⟨_,[],rfl,rfl,rfl⟩,by simp[Value.oneCell'],rfl⟩
   .have spot:0<cap->a.spot=zx:=λhc=>by
     have ha:a.add 0=a:=by simp[Addr.add]
     obtain h0|h0:=S3 len
     .let⟨LJ,Na⟩:=hsp rfl;have:=Na 0 Ab;rw[Ap (Ab:0<zy rest)] at this;have z:(len+0)*P.cellsOf e'=0:=by rw[h0];simp
      rw[z,ha] at this;let⟨vs,hv,_⟩:=WV.1 this;exact T2 hv Ab
     .have:=c 0 h0;rw[Ap (Ab:0<zy elems)] at this;rw[X6,ha] at this;let⟨vs,hv,_⟩:=WV.1 this;exact T2 hv Ab
    let⟨AH,gd,xX⟩:=Yq (p:=λi (r:List Ad)=>jE e r/\r.length=Ty.size e/\Dr (HF W) r a.block (a.off+i*Ty.size e)) len λi hi=>by
     have:=c i hi;rw[Ap (Ab:i<zy elems)] at this;let⟨vs,hv,hd⟩:=WV.1 this;let⟨r,m,g,d,l⟩:=oB e aSD hd;refine⟨r,m,l,Dr.Ir λj y hj=>?_⟩;let⟨u,hu,q⟩:=g.get hj;let⟨_,hvl,v⟩:=World.cells?_some hv;have kQ:j<P.cellsOf e':=by have:=(Aq.1 hu).1;omega
     have hc:=v j kQ;rw[hu] at hc;have ja:a=⟨a.block,a.off,zx⟩:=by have:=spot Ab;cases a;simp_all
     have PF:(a.add (i*P.cellsOf e')).add j=⟨a.block,a.off+i*Ty.size e+j,zx⟩:=by rw[hce];generalize a.block=b at*;generalize a.off=o at*;subst ja;rw[Addr.add_lit,Addr.add_lit]
     rw[PF] at hc;exact⟨u,Xt hc (d u (C7 hu)),q⟩
    refine⟨[.sl (Ty.size e) AH],yg ⟨AH,rfl,Ab,λr hr=>?_⟩,⟨_,[],rfl,⟨a,cap,by rw[gd],Ab,?_,GJ.Ir λi r hr=>?_⟩,rfl⟩,by simp[Value.oneCell'],rfl⟩;.let⟨i,hi⟩:=C8 hr;exact(xX i r hi).1
    .rcases S3 cap with h0|h0
     .exact .inr h0
     .exact .inl (spot h0)
    .exact⟨(xX i r hr).2.1,(xX i r hr).2.2⟩
  .cases ND
 | .st fs,t,fuel,cs,x,ND,h=>by
  unfold TO at ND;split at ND
  .rename_i fields ht;simp only[Bs,aCH] at ND;let⟨hct,hf⟩:=ND;let⟨xs,n,_,_,hcl,A,nG⟩:=DataW.trod_struct ht h;let⟨bp,m,g,d,l⟩:=Yr fs (fields:=fields.toList) (off:=0) (cs:=cs) (n:=n) hf (λi f hi=>by
    have:=nG i f (by simpa using hi);have hlt:i<fields.size:=by have:=(Aq.1 hi).1;simpa using this
    rw[Ap (Ab:i<zy xs)] at this;exact⟨_,this⟩) (by rw[hcl,hct];omega)
   have B:(cs.drop 0).take (Ty.OW fs)=cs:=by rw[HK];exact AL (by rw[hcl,hct];exact Af _)
   rw[B] at g d;exact⟨bp,m,g,d,l⟩
  .cases ND
def Yr:∀(tys:List Ty) {fields:List Field} {off:Nat} {cs:List Value} {n:Nat},Si P tys fields off=zq->
  (∀(i:Nat) (f:Field),fields[i]?=zz f->∃y,pa w P W 0 (λ_=>zq) zq n f.type ((cs.drop f.offset).take (P.cellsOf f.type))=zz y)->off+Ty.OW tys<=zy cs->
  ∃bp,Ë tys bp/\Bt (HF W) bp ((cs.drop off).take (Ty.OW tys))/\(∀u∈(cs.drop off).take (Ty.OW tys),u.oneCell'=zq)/\zy bp=Ty.OW tys
 |[],fields,off,cs,n,ND,h,hl=>by refine⟨[],rfl,?_,?_,rfl⟩<;>simp[Ty.OW,Bt]
 |ty::tys,fields,off,cs,n,ND,h,hl=>by
  cases fields with
  |nil=>simp[Si] at ND
  |cons f fs=>
   simp only[Si,Bs,aCH] at ND;let⟨⟨⟨ho,hc⟩,kI⟩,ş⟩:=ND;let⟨y,hy⟩:=h 0 f rfl;rw[ho,hc] at hy;let⟨bp,m,l,k,j⟩:=oB ty kI hy;simp only[Ty.OW] at hl;let⟨bs,e,d,c,b⟩:=Yr tys ş (λi g hi=>h (i+1) g (by simpa using hi)) Ab;have o:(cs.drop off).take (Ty.OW (ty::tys))=(cs.drop off).take (Ty.size ty)++(cs.drop (off+Ty.size ty)).take (Ty.OW tys):=by simp only[Ty.OW];rw[aGB,FJ]
   rw[o];refine⟨bp++bs,⟨bp,bs,rfl,m,e⟩,l.append d,λu hu=>?_,by simp[j,b,Ty.OW]⟩;obtain hu|hu:=AA.1 hu
   .exact k u hu
   .exact c u hu
end
def oC{d:Ty}{t:TypeId}{v:Value}{c:Nat}(b:TO P d t=zq)(a:w7 P W .any c t v):if d.aIO then∃h,v= ry h else v.cells=#[v]:=by
 cases d with
 |st fs=>
  rw[TO] at b;split at b;next fields f=>rw[w7] at a;rw[f] at a;let⟨h,e,_⟩:=a;exact⟨h,e⟩
  .cases b
 |_=>
  rw[TO] at b;split at b;next f=>rw[w7] at a;simp[Cell.okWide,f,Cell.ok] at a;cases v<;>first|rfl|exact a.elim
  .cases b
def kZ:∀{tys:List Ty} {s:List TypeId} {r:List Value} {K:List (DataW H)} {G:List MemPlace} {o:Nat},v6 w P W 0 (λ_=>zq) zq s r K G->zy tys=zy s->(∀(i:Nat) (n:Ty) (t:TypeId),tys[i]?=zz n->s[i]?=zz t->TO P n t=zq)->
  (∀(i:Nat) (t:TypeId) (v:Value),s[i]?=zz t->r[i]?=zz v->w7 P W .any o t v)->∃M,ZB tys M/\Bt (HF W) M r
 |[],[],[],[],_,_,_,_,_,_=>⟨[],rfl,rfl⟩
 |n::tys,t::s,v::r,d::K,G,o,⟨p,q,⟨fuel,D⟩,C,_⟩,y,O,N=>by
  have J:=O 0 n t rfl rfl;let⟨m,f,b,k,l⟩:=oB n J D;obtain⟨L,j,g⟩:=kZ C (zv y) (λi n t h E=>O (i+1) n t (zv h) (zv E)) (λi t v h E=>N (i+1) t v (zv h) (zv E));have A:=oC J (N 0 t v rfl rfl);have:∃a,j_ n a/\B3 (HF W) a v:=by
   by_cases B:n.aIO=zq;.rw[Ae B] at A;obtain⟨F,rfl⟩:=A;exact⟨rz m,(by rw[j_];exact Ae B▸⟨m,rfl,f⟩),F,rfl,by simpa[pq] using b,by simpa[pq] using k⟩
   .rw[Aa B] at A;rw[A] at b;obtain⟨u,F,e,Q,x⟩:∃c z,m=c::z/\B3 (HF W) c v/\z=[]:=by
     cases m with
     |nil=>cases b
     |cons c z=>let⟨u,Ei,e,D,C⟩:=b;simp at e;obtain⟨rfl,rfl⟩:=e;exact⟨c,z,rfl,D,by cases z with|nil=>rfl|cons _ _=>let⟨_,_,e,_⟩:=C;cases e⟩
    subst x;subst e;exact⟨u,(by rw[j_];rwa[Aa B]),Q⟩
  let⟨a,T,R⟩:=this;exact⟨a::L,⟨a,L,rfl,T,j⟩,v,r,rfl,R,g⟩
 |[],_::_,_,_,_,_,_,y,_,_=>by simp at y
 |_::_,[],_,_,_,_,_,y,_,_=>by simp at y
 |[],[],_::_,_,_,_,h,_,_,_=>by cases h
 |[],[],[],_::_,_,_,h,_,_,_=>by cases h
 |_::_,_::_,[],_,_,_,h,_,_,_=>by cases h
 |_::_,_::_,_::_,[],_,_,h,_,_,_=>by cases h
def cL{a:World}{b:MemPlace->Prop}(d:a.os=W.os)(c:a.output=W.output)(hb:∀i,i<W.heap.size->a.heap[i]?=W.heap[i]?):W.keptBut a b:=by refine⟨d,c,λi hi=>?_⟩;grind
def T3(m:laidOutB P=zq){o:World}(n:RowKit.Below W.heap.size W o):∀{f:List TypeId} {i:List Value} {l:List (DataW H)} {a:List MemPlace},(∀t∈f,P.readableRec t=zq/\t<P.types.size)->
  v6 w P W 0 (λ_=>zq) zq f i l a->(∀x∈a,x.block<W.heap.size)->v6 w P o 0 (λb=>decide (b<W.heap.size)) zq f i l a
 |[],[],[],a,_,h,_=>h
 |t::f,v::i,d::l,a,j,⟨p,q,y,u,e⟩,c=>by subst e;exact⟨p,q,RowKit.Below.trod m (j t AF).1 (j t AF).2 y n λx k=>c x (DA _ k),T3 m n (λs z=>j s (by simp[z])) u λx k=>c x (CB _ k),rfl⟩
 |[],[],_::_,_,_,h,_=>by cases h
 |[],_::_,_,_,_,h,_=>by cases h
 |_::_,[],_,_,_,h,_=>by cases h
 |_::_,_::_,[],_,_,h,_=>by cases h
end
def oD{C:Hw}(hm:C.P.follows .mixedOrders=zq)(ů:∀g M,C.IF g=zz M->M.all qd=zq)(o:oA C)(hl:laidOutB C.P=zq){f:FuncId}{fn:Func}{rt:TypeId}(m:f<=99999)(l:fn.resultTypes=#[rt])(n:C.P.underlying rt=zz .bool){tys:List Ty}(K:zy tys=fn.params.size)
  (aSE:∀(i:Nat) (N:Ty) (t:TypeId),tys[i]?=zz N->fn.params[i]?=zz t->TO C.P N t=zq) (aMO:∀t∈fn.params.toList,C.P.readableRec t=zq/\t<C.P.types.size)
  (Jy:∀Q,ZB tys Q->Ev C f Q [] λr _=>r= z1 zq) {s:ChangeSpec} (k:s.vars=[])
  {H:Type} (c:∀ds:List (DataW H),zy ds=fn.params.size->s.fn H ds={results:=[.lit (.bool zq)],args:=ds})
  {F:TypeId×Value->H} {W:World} {base:Nat} {args:Array Value} {ds gs:List (DataW H)} {before:List MemPlace} (hg:∀g M,C.IF g=zz M->Dr (HF W) M g 0)
  (Sj:∀(j:Nat) (t:TypeId) (v:Value),fn.params[j]?=zz t->args[j]?=zz v->w7 C.P W .any base t v) (Z:DataW.Whole F C.P fn.params.toList s.vars zm W args.toList ds gs before):
  Calls C.P f args W λe W'=>∃v,e= .returned v/\s.post F C.P fn zm zq zm zm W args v W':=by
 have z:=Z;have Y:=Z.lt;obtain⟨p,q,B,A,rfl,hfz,D⟩:=Z;rw[k] at A;have y:gs=[]/\q=[]:=by
  cases gs with
  |nil=>exact⟨rfl,A⟩
  |cons _ _=>cases A
 obtain⟨rfl,rfl⟩:=y;let⟨Q,jF,Ry⟩:=kZ B (zv K) (λi N t h O=>aSE i N t h (zv O)) (λi t v h O=>Sj i t v (zv h) (zv O));have V:zy ds=fn.params.size:=by
  have U:∀{J:List TypeId} {G:List Value} {ds:List (DataW H)} {T:List MemPlace},v6 F C.P W 0 (λ_=>zq) zq J G ds T->zy ds=zy J:=by
   intro J;induction J with
   |nil=>intro G ds T h;cases G<;>cases ds<;>first|rfl|cases h
   |cons t J ih=>
    intro G ds T h;cases G with
    |nil=>cases h
    |cons v G=>
     cases ds with
     |nil=>cases h
     |cons d ds=>let⟨_,_,_,h2,_⟩:=h;simp[ih h2]
  exact zv (U B)
 have Zw:=(Jy Q jF).calls hm ů o (Ű W) hg Ry;rw[show Fq f=f from Ae m] at Zw;refine Zw.mono λe W' he=>?_;cases e with
 |returned v=>
  obtain⟨r,O,E,rfl,hi,w,hv⟩:=he;have X:=hv;subst X;refine⟨_,rfl,ds,[],p++[],[],p,[],z,?_,?_,?_,cL w.os w.output (λi u=>(w.Qt i u λid L=>by cases L).1),λL=>by cases L⟩;.rw[Br,c ds V,l];exact⟨[],[],RowKit.shut_bool n zq,rfl,rfl⟩
  .rw[Br,c ds V];exact T3 hl (⟨w.os,w.tape,w.output,w.size,λi u=>(w.Qt i u λid L=>by cases L).1⟩) aMO B λx hx=>Y x (zv hx)
  .rw[Br,c ds V,k];rfl
 |_=>exact he.elim
end Go.Am
end
