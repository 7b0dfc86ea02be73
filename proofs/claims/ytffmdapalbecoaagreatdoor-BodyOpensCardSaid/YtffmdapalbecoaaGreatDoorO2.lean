/- Lemmas -/
import Derived.Test.YtffmdapalbecoaaGreatDoorO1
import Derived.Orders
import Derived.Laws.AppendOwn
import Derived.Laws.StructEq
set_option linter.all false
open Option renaming some→zz,none→zx
open List renaming length→zy,getD→zu
open Go.Am.IT renaming step→zw
open Go.Am.DG renaming cells→zt
open Go.Am.E8 renaming MQ→zr
open ByteArray renaming mk→zq
open Go.World renaming setRow→zp
open Go.Value renaming string→zo,int→zj,pointer→zi,bool→zh,slice→zb
open Go.Result renaming andThen_ok→zn,ok→z4
open Go.Am.EL renaming val→zm,box→za,undef→z3
open Bool renaming true→zk,false→zd
section
namespace Go.Am
inductive Lc where
 |MR (id:Nat)
 |loc (s:Nat)
 |tail (s:Nat) (c:Option Nat) (start:Nat)
def Lc.xt:Lc->Bool
 | .MR _=>zk
 |_=>zd
structure Gh where
 IZ:Nat->Nat->Option Value
 mu:Nat->Option Nat
 Bu:Nat->Option Lc
 sz:Nat->Option Nat
mutual
def BT(γ:Gh):Aa->Value->Prop
 | .bool b,v=>v= zh b
 | .int k n,v=>v= zj k n
 | .str s,v=>v= zo ⟨⟨s⟩⟩
 | .ptr zx,v=>v= zi zx
 | .ptr (zz (id,o)),v=>∃b,γ.mu id=zz b/\v= zi (zz ⟨b,o,zx⟩)
 | .CH cs,v=>∃b o,v= zi (zz ⟨b,o,zx⟩)/\Df γ cs b o
 | .sl z AD,v=>∃d cap,v= zb (zz d) (zy AD) cap/\zy AD<=cap/\(d.spot=zx\/cap=0)/\FZ γ AD z d.block d.off
 | .slnil,v=>v= zb zx 0 0
 | .GI _,v=>∃b,v= zb (zz ⟨b,0,zx⟩) 0 0
 | .CC id off len z,v=>∃b cap,γ.mu id=zz b/\v= zb (zz ⟨b,off,zx⟩) len cap/\len<=cap/\(0<z/\cap<=maxLen)/\γ.sz b=zz (off+cap*z)
 | .map zx,v=>v= .map zx
 | .map (zz id),v=>∃b,γ.mu id=zz b/\v= .map (zz b)
 | .func fn f c,v=>∃fs cs,v= .func fn fs cs/\Bp γ f fs.toList/\Bp γ c cs.toList
 | .nilFunc,v=>v= .nilFunc
 | .iface t a,v=>∃u,v= .iface t u/\BT γ a u
 | .nilIface,v=>v= .nilIface
 | .agg cs,v=>∃us,v= .agg us/\Bp γ cs us.toList/\∀u∈us.toList,u.oneCell'=zk
 | .tuple vs,v=>∃us,v= .tuple us/\Bp γ vs us.toList
def Bp(γ:Gh):List Aa->List Value->Prop
 |[],us=>us=[]
 |a::l,us=>∃u D4,us=u::D4/\BT γ a u/\Bp γ l D4
def Df(γ:Gh):List Aa->Nat->Nat->Prop
 |[],_,_=>True
 |a::l,b,o=>(∃u,γ.IZ b o=zz u/\BT γ a u)/\Df γ l b (o+1)
def FZ(γ:Gh):List (List Aa)->Nat->Nat->Nat->Prop
 |[],_,_,_=>True
 |r::rs,z,b,o=>zy r=z/\Df γ r b o/\FZ γ rs z b (o+z)
end
structure Gh.le(γ γ':Gh):Prop where
 IZ:∀b o v,γ.IZ b o=zz v->γ'.IZ b o=zz v
 mu:∀id b,γ.mu id=zz b->γ'.mu id=zz b
 sz:∀b n,γ.sz b=zz n->γ'.sz b=zz n
def Gh.le.refl(γ:Gh):γ.le γ:=⟨λ_ _ _ h=>h,λ_ _ h=>h,λ_ _ h=>h⟩
def Gh.le.trans{a b c:Gh}(h:a.le b)(k:b.le c):a.le c:=⟨λ_ _ _ x=>k.IZ _ _ _ (h.IZ _ _ _ x),λ_ _ x=>k.mu _ _ (h.mu _ _ x),λ_ _ x=>k.sz _ _ (h.sz _ _ x)⟩
mutual
def BT.mono{γ γ':Gh}(EH:γ.le γ'):∀(a:Aa) (v:Value),BT γ a v->BT γ' a v
 | .bool b,v,h=>h
 | .int k n,v,h=>h
 | .str s,v,h=>h
 | .ptr zx,v,h=>h
 | .ptr (zz (id,o)),v,h=>by let⟨b,hb,hv⟩:=h;exact⟨b,EH.mu _ _ hb,hv⟩
 | .CH cs,v,h=>by let⟨b,o,hv,hm⟩:=h;exact⟨b,o,hv,Df.mono EH cs b o hm⟩
 | .sl z AD,v,h=>by let⟨d,cap,hv,hc,hs,hm⟩:=h;exact⟨d,cap,hv,hc,hs,FZ.mono EH AD z _ _ hm⟩
 | .slnil,v,h=>h
 | .GI _,v,h=>h
 | .CC id off len z,v,h=>by let⟨b,cap,hb,hv,hc,hz,hs⟩:=h;exact⟨b,cap,EH.mu _ _ hb,hv,hc,hz,EH.sz _ _ hs⟩
 | .map zx,v,h=>h
 | .map (zz id),v,h=>by let⟨b,hb,hv⟩:=h;exact⟨b,EH.mu _ _ hb,hv⟩
 | .func fn f c,v,h=>by let⟨fs,cs,hv,h1,h2⟩:=h;exact⟨fs,cs,hv,Bp.mono EH f _ h1,Bp.mono EH c _ h2⟩
 | .nilFunc,v,h=>h
 | .iface t a,v,h=>by let⟨u,hv,h1⟩:=h;exact⟨u,hv,BT.mono EH a u h1⟩
 | .nilIface,v,h=>h
 | .agg cs,v,h=>by let⟨us,hv,h1,h2⟩:=h;exact⟨us,hv,Bp.mono EH cs _ h1,h2⟩
 | .tuple vs,v,h=>by let⟨us,hv,h1⟩:=h;exact⟨us,hv,Bp.mono EH vs _ h1⟩
def Bp.mono{γ γ':Gh}(EH:γ.le γ'):∀(l:List Aa) (us:List Value),Bp γ l us->Bp γ' l us
 |[],us,h=>h
 |a::l,us,h=>by let⟨u,D4,hu,h1,h2⟩:=h;exact⟨u,D4,hu,BT.mono EH a u h1,Bp.mono EH l D4 h2⟩
def Df.mono{γ γ':Gh}(EH:γ.le γ'):∀(l:List Aa) (b o:Nat),Df γ l b o->Df γ' l b o
 |[],_,_,_=>trivial
 |a::l,b,o,h=>by let⟨⟨u,hu,h1⟩,h2⟩:=h;exact⟨⟨u,EH.IZ _ _ _ hu,BT.mono EH a u h1⟩,Df.mono EH l b (o+1) h2⟩
def FZ.mono{γ γ':Gh}(EH:γ.le γ'):∀(rs:List (List Aa)) (z b o:Nat),FZ γ rs z b o->FZ γ' rs z b o
 |[],_,_,_,_=>trivial
 |r::rs,z,b,o,h=>⟨h.1,Df.mono EH r b o h.2.1,FZ.mono EH rs z b (o+z) h.2.2⟩
end
section
variable{γ:Gh}
def Bp.length:∀{l:List Aa} {us:List Value},Bp γ l us->zy us=zy l
 |[],us,h=>by rw[Bp] at h;subst h;rfl
 |a::l,us,h=>by obtain⟨u,D4,rfl,_,h2⟩:=h;simp[h2.length]
def Bp.get:∀{l:List Aa} {us:List Value},Bp γ l us->∀{i:Nat} {a:Aa},l[i]?=zz a->∃u,us[i]?=zz u/\BT γ a u
 |[],us,h,i,a,hi=>by simp at hi
 |x::l,us,h,i,a,hi=>by
  obtain⟨u,D4,rfl,h1,h2⟩:=h;cases i with
  |zero=>simp at hi;subst hi;exact⟨u,rfl,h1⟩
  |succ i=>simp at hi;let⟨v,hv,hr⟩:=h2.get hi;exact⟨v,zv hv,hr⟩
def Bp.HD:∀{l:List Aa} {us:List Value},zy us=zy l->(∀(i:Nat) (a:Aa) (u:Value),l[i]?=zz a->us[i]?=zz u->BT γ a u)->Bp γ l us
 |[],us,hl,_=>by rw[Bp];exact DC hl
 |x::l,[],hl,_=>by simp at hl
 |x::l,u::us,hl,h=>by exact⟨u,us,rfl,h 0 x u rfl rfl,Bp.HD (zv hl) λi a v hi hv=>h (i+1) a v (zv hi) (zv hv)⟩
def Bp.append:∀{l l':List Aa} {us D4:List Value},Bp γ l us->Bp γ l' D4->Bp γ (l++l') (us++D4)
 |[],l',us,D4,h,h'=>by rw[Bp] at h;subst h;exact zv h'
 |a::l,l',us,D4,h,h'=>by obtain⟨u,r,rfl,h1,h2⟩:=h;exact⟨u,r++D4,rfl,h1,h2.append h'⟩
def Bp.take{l:List Aa}{us:List Value}(h:Bp γ l us)(n:Nat):Bp γ (l.take n) (us.take n):=by
 refine Bp.HD (by simp[h.length]) λi a u hi hu=>?_;rw[Ci] at hi hu;split at hi;next hlt=>let⟨v,hv,hr⟩:=h.get hi;grind
 .cases hi
def Bp.drop{l:List Aa}{us:List Value}(h:Bp γ l us)(n:Nat):Bp γ (l.drop n) (us.drop n):=by refine Bp.HD (by simp[h.length]) λi a u hi hu=>?_;rw[Cu] at hi hu;let⟨v,hv,hr⟩:=h.get hi;grind
def Df.get:∀{l:List Aa} {b o:Nat},Df γ l b o->∀{i:Nat} {a:Aa},l[i]?=zz a->∃u,γ.IZ b (o+i)=zz u/\BT γ a u
 |[],b,o,h,i,a,hi=>by simp at hi
 |x::l,b,o,h,i,a,hi=>by
  let⟨⟨u,hu,h1⟩,h2⟩:=h;cases i with
  |zero=>simp at hi;subst hi;exact⟨u,hu,h1⟩
  |succ i=>let⟨v,hv,hr⟩:=h2.get hi;grind
def Df.HD:∀{l:List Aa} {b o:Nat},(∀(i:Nat) (a:Aa),l[i]?=zz a->∃u,γ.IZ b (o+i)=zz u/\BT γ a u)->Df γ l b o
 |[],b,o,h=>by rw[Df];trivial
 |x::l,b,o,h=>by refine⟨h 0 x rfl,Df.HD λi a hi=>?_⟩;let⟨u,hu,hr⟩:=h (i+1) a (zv hi);grind
def Df.drop{l:List Aa}{b o:Nat}(h:Df γ l b o)(n:Nat):Df γ (l.drop n) b (o+n):=by refine Df.HD λi a hi=>?_;rw[Cu] at hi;let⟨u,hu,hr⟩:=h.get hi;grind
def Df.values:∀{l:List Aa} {b o:Nat},Df γ l b o->∃us:List Value,Bp γ l us/\∀(j:Nat) (u:Value),us[j]?=zz u->γ.IZ b (o+j)=zz u
 |[],b,o,h=>⟨[],by rw[Bp],AH⟩
 |x::l,b,o,h=>by
  let⟨⟨u,hu,h1⟩,h2⟩:=h;let⟨us,hr,hi⟩:=h2.values;refine⟨u::us,by rw[Bp];exact⟨u,us,rfl,h1,hr⟩,λj v hj=>?_⟩;cases j with
  |zero=>simp at hj;subst hj;exact hu
  |succ j=>simp at hj;rw[<-hi j v hj];congr 1;omega
def FZ.get:∀{rs:List (List Aa)} {z b o:Nat},FZ γ rs z b o->∀{i:Nat} {r:List Aa},rs[i]?=zz r->zy r=z/\Df γ r b (o+i*z)
 |[],z,b,o,h,i,r,hi=>by simp at hi
 |x::rs,z,b,o,h,i,r,hi=>by
  cases i with
  |zero=>simp at hi;subst hi;simpa using⟨h.1,h.2.1⟩
  |succ i=>let⟨h1,h2⟩:=h.2.2.get hi;grind
def FZ.HD:∀{rs:List (List Aa)} {z b o:Nat},(∀(i:Nat) (r:List Aa),rs[i]?=zz r->zy r=z/\Df γ r b (o+i*z))->FZ γ rs z b o
 |[],z,b,o,h=>by rw[FZ];trivial
 |x::rs,z,b,o,h=>by have h0:=h 0 x rfl;refine⟨h0.1,zv h0.2,FZ.HD λi r hi=>?_⟩;let⟨h1,h2⟩:=h (i+1) r (zv hi);grind
def FZ.length:∀{rs:List (List Aa)} {z b o:Nat},FZ γ rs z b o->zy rs.flatten=zy rs*z
 |[],z,b,o,h=>AH
 |x::rs,z,b,o,h=>by simp[h.1,h.2.2.length,B9,P2]
end
def OU{b:Addr}{n cap:Nat}(hs:b.spot=zx\/cap=0)(hc:n<=cap)(hn:0<n):b=⟨b.block,b.off,zx⟩:=by
 obtain hs|hs:=hs
 .cases b;simp_all
 .omega
def FZ.values{γ:Gh}:∀{rs:List (List Aa)} {z b o:Nat},FZ γ rs z b o->∃us:List Value,Bp γ rs.flatten us/\zy us=zy rs*z/\∀(j:Nat) (u:Value),us[j]?=zz u->γ.IZ b (o+j)=zz u
 |[],z,b,o,h=>⟨[],by simp[Bp],AH,AH⟩
 |x::rs,z,b,o,h=>by
  let⟨us,h1,h2⟩:=h.2.1.values;let⟨vs,d,c,e⟩:=h.2.2.values;have hl:zy us=z:=by rw[h1.length,h.1]
  refine⟨us++vs,zv (h1.append d),by simp[hl,c,B9,P2],λj u hj=>?_⟩;grind
def Jp(γ:Gh)(B:Nat)(w:World)(s:Nat)(c:Option Nat)(v:Value)(a:Aa):Prop:=
 (a= .slnil\/∃z,a= .GI z)\/∃g n cap us e z AD,a= .sl z AD/\v= zb (zz ⟨g,0,zx⟩) n cap/\γ.Bu g=zz (.tail s c (n*z))/\B<=g/\
  w.heap[g]?=zz (.cells us e (0,0))/\us.size=cap*z/\n<=cap/\cap<=maxLen/\0<z
def Me(γ:Gh)(β:Nat->Nat)(B:Nat)(w:World)(s:Nat):EL->Value->Prop
 | z3,_=>True
 | .skip,v=>v=undef
 | zm a,v=>BT γ a v
 | .P7 b,v=>v= zh b
 | .Bu a,v=>BT γ a v/\Jp γ B w s zx v a
 | za _ cs ow,v=>v= zi (zz ⟨β s,0,zx⟩)/\γ.Bu (β s)=zz (.loc s)/\B<=β s/\
  ∃us e,w.heap[β s]?=zz (.cells us e (0,0))/\Bp γ cs us.toList/\(∀u∈us.toList,u.oneCell'=zk)/\
   ∀o∈ow,∃u a,us[o]?=zz u/\cs[o]?=zz a/\Jp γ B w s (zz o) u a
 | .FF s' o,v=>v= zi (zz ⟨β s',o,zx⟩)
structure FR(γ:Gh)(β:Nat->Nat)(B:Nat)(U:BU)(tmps:Array Value)(w:World):Prop where
 size:zy U=tmps.size
 IS:∀s,Me γ β B w s (U.at s) (tmps.getD s undef)
def LP(γ:Gh):List (Aa×Aa)->List MapEntry->Prop
 |[],es=>es=[]
 |(k,v)::l,es=>∃e WT,es=e::WT/\BT γ k e.key/\BT γ v e.val/\LP γ l WT
def xw(γ:Gh)(l:List (Aa×Aa))(es:Array MapEntry)(clock:Nat):Prop:=
 LP γ l es.toList/\clock=es.size/\∀(i:Nat) (e:MapEntry),es[i]?=zz e->e.born=i
def U4(fr:Nat×Nat)(n:Nat):Prop:=fr=(0,0)\/n<=fr.1
structure HK(γ:Gh)(h:Ah)(w:World):Prop where
 IZ:∀b o v,γ.IZ b o=zz v->w.cell? ⟨b,o,zx⟩=zz v/\v.oneCell'=zk/\(γ.Bu b=zx\/∃s c st,γ.Bu b=zz (.tail s c st)/\o<st)
 MR:∀id x,h[id]?=zz x->x≠ .CU->∃b,γ.mu id=zz b/\γ.Bu b=zz (.MR id)
 cells:∀id cs,h[id]?=zz (zt cs)->∀b,γ.mu id=zz b->∃us e fr,w.heap[b]?=zz (.cells us e fr)/\U4 fr us.size/\Bp γ cs (us.toList.take (zy cs))/\∀u∈us.toList.take (zy cs),u.oneCell'=zk
 map:∀id es,h[id]?=zz (.map es)->∀b,γ.mu id=zz b->∃DL clock,w.heap[b]?=zz (.map DL clock)/\xw γ es DL clock
 mu:∀id b,γ.mu id=zz b->id<zy h
 Bu:∀b x,γ.Bu b=zz x->b<w.heap.size
 sz:∀b n,γ.sz b=zz n->(∃us e fr,w.heap[b]?=zz (.cells us e fr)/\us.size=n)/\(γ.Bu b=zx\/∃id,γ.Bu b=zz (.MR id))
structure LQ(γ0:Gh)(w0:World)(γ:Gh)(w:World):Prop where
 le:γ0.le γ
 size:w0.heap.size<=w.heap.size
 os:w.os=w0.os
 tape:w.tape=w0.tape
 output:w.output=w0.output
 OV:∀b,b<w0.heap.size->(∀id,γ0.Bu b≠zz (.MR id))->w.heap[b]?=w0.heap[b]?/\γ.Bu b=γ0.Bu b
def LQ.refl(γ:Gh)(w:World):LQ γ w γ w:=⟨.refl _,Ae _,rfl,rfl,rfl,λ_ _ _=>⟨rfl,rfl⟩⟩
def LQ.trans{γ0 d c:Gh}{w0 w1 e:World}(h:LQ γ0 w0 d w1)(k:LQ d w1 c e):LQ γ0 w0 c e:=by refine⟨h.le.trans k.le,Bv h.size k.size,k.os.trans h.os,k.tape.trans h.tape,k.output.trans h.output,λb hb hn=>?_⟩;.let⟨h1,h2⟩:=h.OV b hb hn;let⟨g,f⟩:=k.OV b (JQ hb h.size) (λid=>by rw[h2];exact hn id);grind
structure oj(γ:Gh)(w:World)(γ':Gh)(w':World):Prop where
 le:γ.le γ'
 OV:∀b x,γ.Bu b=zz x->x.xt=zd->γ'.Bu b=zz x/\w'.heap[b]?=w.heap[b]?
section
variable{γ γ':Gh}
def oj.aEp{h:Ah}{w w':World}(hi:HK γ h w)(ha:LQ γ w γ' w'):oj γ w γ' w':=by refine⟨ha.le,λb x hb hx=>?_⟩;let⟨h1,h2⟩:=ha.OV b (hi.Bu b x hb) (λid IC=>by rw[hb] at IC;cases IC;simp[Lc.xt] at hx);grind
def Jp.kept{B:Nat}{w w':World}{s:Nat}{c:Option Nat}{v:Value}{a:Aa}(h:Jp γ B w s c v a)(k:oj γ w γ' w'):Jp γ' B w' s c v a:=by
 obtain h|⟨g,n,cap,us,e,z,AD,h1,h2,l,j,i,f⟩:=h
 .exact .inl h
 .let⟨d,b⟩:=k.OV g _ l rfl;exact .inr ⟨g,n,cap,us,e,z,AD,h1,h2,d,j,by rwa[b],f⟩
def Me.kept{β:Nat->Nat}{B:Nat}{w w':World}{s:Nat}{x:EL}{v:Value}(h:Me γ β B w s x v)(k:oj γ w γ' w'):Me γ' β B w' s x v:=by
 cases x with
 |undef=>trivial
 |skip=>exact h
 |val a=>exact BT.mono k.le a v h
 |P7 b=>exact h
 |Bu a=>exact⟨BT.mono k.le a v h.1,h.2.kept k⟩
 |box ver cs ow=>let⟨h1,h2,l,us,e,j,i,g,f⟩:=h;let⟨d,c⟩:=k.OV _ _ h2 rfl;exact⟨h1,d,l,us,e,by rwa[c],Bp.mono k.le cs _ i,g,λo ho=>let⟨u,a,p,q,r⟩:=f o ho;⟨u,a,p,q,r.kept k⟩⟩
 |FF s' o=>exact h
def FR.kept{β:Nat->Nat}{B:Nat}{U:BU}{tmps:Array Value}{w w':World}(h:FR γ β B U tmps w)(k:oj γ w γ' w'):FR γ' β B U tmps w':=
 ⟨h.size,λs=>(h.IS s).kept k⟩
end
end Go.Am
end
section
namespace Go.Am
def CX{w w':World}{b o:Nat}(h:w'.heap[b]?=w.heap[b]?):w'.cell? ⟨b,o,zx⟩=w.cell? ⟨b,o,zx⟩:=by simp[World.cell?,h]
def D6{w:World}{b o:Nat}{v:Value}(h:w.cell? ⟨b,o,zx⟩=zz v):b<w.heap.size:=by
 obtain h'|h':=AP b w.heap.size
 .exact h'
 .simp[World.cell?,Array.getElem?_eq_none h'] at h
def HK.aEq{γ:Gh}{h:Ah}{w:World}(hi:HK γ h w){b o:Nat}{v:Value}(hb:γ.IZ b o=zz v):b<w.heap.size:=D6 (hi.IZ b o v hb).1
def HK.same{γ:Gh}{h:Ah}{w w':World}(hi:HK γ h w)(c:w'.heap=w.heap):HK γ h w':=by
 refine⟨λb o v hb=>?_,hi.MR,λid cs hc b hb=>?_,λid es hc b hb=>?_,hi.mu,λb x hx=>?_,λb n hb=>by rw[c];exact hi.sz b n hb⟩;.let⟨h1,h2,d⟩:=hi.IZ b o v hb;have e:=CX (w:=w) (w':=w') (b:=b) (o:=o) (by rw[c]);grind
 .rw[c];exact hi.cells id cs hc b hb
 .rw[c];exact hi.map id es hc b hb
 .rw[c];exact hi.Bu b x hx
def LQ.same{γ:Gh}{w w':World}(b:w'.heap=w.heap)(h1:w'.os=w.os)(h2:w'.tape=w.tape)(c:w'.output=w.output):LQ γ w γ w':=
 ⟨.refl _,by rw[b];exact Ae _,h1,h2,c,λ_ _ _=>⟨by rw[b],rfl⟩⟩
def LQ.drew(γ:Gh)(w:World):LQ γ w γ w.drew:=LQ.same rfl rfl rfl rfl
def Gh.DH(γ:Gh)(b:Nat)(us:Array Value)(k:Nat)(x:Option Lc):Gh:=
 {IZ:=λb' o=>if b'=b then(if o<k then us[o]? else zx) else γ.IZ b' o,mu:=γ.mu,Bu:=λb'=>if b'=b then x else γ.Bu b',sz:=γ.sz}
def Gh.BW(γ:Gh)(b id:Nat)(n:Option Nat):Gh:=
 {IZ:=γ.IZ,mu:=λi=>if i=id then zz b else γ.mu i,Bu:=λb'=>if b'=b then zz (.MR id) else γ.Bu b',sz:=λb'=>if b'=b then n else γ.sz b'}
section
variable{γ:Gh}{h:Ah}{w:World}
def E6(w:World)(o:Obj){b:Nat}(hb:b<w.heap.size):(w.alloc o).heap[b]?=w.heap[b]?:=heap_alloc_old w o b hb
def Qg(hi:HK γ h w)(us:Array Value)(e:TypeId)(fr:Nat×Nat)(k:Nat)(x:Option Lc)(h1:∀o u,o<k->us[o]?=zz u->u.oneCell'=zk)
  (hx:x=zx\/(∃s c,x=zz (.tail s c k))\/(k=0/\∀id,x≠zz (.MR id))):
  HK (γ.DH w.heap.size us k x) h (w.alloc (.cells us e fr))/\LQ γ w (γ.DH w.heap.size us k x) (w.alloc (.cells us e fr)):=by
 have Gf:γ.Bu w.heap.size=zx:=by
  cases hc:γ.Bu w.heap.size with
  |none=>rfl
  |some y=>cases (DF _) (hi.Bu _ y hc)
 have xy:∀o,γ.IZ w.heap.size o=zx:=λo=>by
  cases hc:γ.IZ w.heap.size o with
  |none=>rfl
  |some y=>cases (DF _) (hi.aEq hc)
 have EH:γ.le (γ.DH w.heap.size us k x):=⟨λb' o' v' DR=>by
  have:b'≠w.heap.size:=λhe=>by rw[he,xy] at DR;cases DR
  simp[Gh.DH,Ac this];exact DR,λ_ _ hm=>hm,λ_ _ hm=>hm⟩
 constructor
 .refine⟨λb o v hb=>?_,λid y IC hy=>?_,λid cs hc b hb=>?_,λid es hc b hb=>?_,hi.mu,λb y hy=>?_,λb n hb=>?_⟩;rotate_left 5;.let⟨⟨D4,e',vo,p,q⟩,r⟩:=hi.sz b n hb;have OW:b≠w.heap.size:=P3 (by rw[Bc] at p;exact p.1);exact⟨⟨D4,e',vo,by rwa[E6 _ _ (by rw[Bc] at p;exact p.1)],q⟩,by simp[Gh.DH,Ac OW];exact r⟩
  .by_cases OW:b=w.heap.size
   .subst OW;simp only[Gh.DH,BR] at hb⊢;split at hb
    .rename_i hlt;refine⟨by rwa[cell_of_row _ _ _ us e fr (heap_alloc_new w _)],h1 o v hlt hb,?_⟩;obtain hx|⟨s,c,hx⟩|⟨hx,_⟩:=hx
     .exact .inl hx
     .exact .inr ⟨s,c,k,hx,hlt⟩
     .omega
    .cases hb
   .simp only[Gh.DH,Ac OW] at hb⊢;let⟨p,q,r⟩:=hi.IZ b o v hb;exact⟨by rwa[CX (E6 w _ (D6 p))],q,r⟩
  .let⟨b,p,q⟩:=hi.MR id y IC hy;refine⟨b,p,?_⟩;have:b≠w.heap.size:=λhe=>by rw[he,Gf] at q;cases q
   simp[Gh.DH,Ac this];exact q
  .let⟨D4,e',vo,p,pf,q,r⟩:=hi.cells id cs hc b hb;exact⟨D4,e',vo,by rwa[E6 _ _ (by rw[Bc] at p;exact p.1)],pf,Bp.mono EH cs _ q,r⟩
  .let⟨DL,clock,p,q⟩:=hi.map id es hc b hb;refine⟨DL,clock,by rwa[E6 _ _ (by rw[Bc] at p;exact p.1)],?_,q.2⟩;replace q:=q.1;clear hc p;revert q;generalize DL.toList=l;intro q;induction es generalizing l with
   |nil=>exact q
   |cons kv es ih=>let⟨kk,d⟩:=kv;let⟨en,WT,hl,a1,a2,a3⟩:=q;exact⟨en,WT,hl,BT.mono EH _ _ a1,BT.mono EH _ _ a2,ih WT a3⟩
  .by_cases OW:b=w.heap.size;.subst OW;simp
   .simp only[Gh.DH,Ac OW] at hy;have:=hi.Bu b y hy;simp;omega
 .refine⟨EH,AH,rfl,rfl,rfl,λb hb _=>⟨E6 _ _ hb,?_⟩⟩;simp[Gh.DH,Ac (P3 hb)]
def LP.mono{γ γ':Gh}(EH:γ.le γ'):∀{es:List (Aa×Aa)} {l:List MapEntry},LP γ es l->LP γ' es l
 |[],l,q=>q
 |(kk,b)::es,l,q=>by let⟨en,WT,hl,a1,a2,a3⟩:=q;exact⟨en,WT,hl,BT.mono EH _ _ a1,BT.mono EH _ _ a2,a3.mono EH⟩
def xw.mono{γ γ':Gh}(EH:γ.le γ'){es:List (Aa×Aa)}{l:Array MapEntry}{c:Nat}(h:xw γ es l c):xw γ' es l c:=⟨h.1.mono EH,h.2⟩
section
variable(hi:HK γ h w)
def Hp(o:Obj)(x:DG)(m:Option Nat)
  (hx:(∃cs us e fr,x= zt cs/\o= .cells us e fr/\U4 fr us.size/\Bp γ cs (us.toList.take (zy cs))/\(∀u∈us.toList.take (zy cs),u.oneCell'=zk)/\m=zz us.size)\/(x= .map []/\o= .map #[] 0/\m=zx)):
  HK (γ.BW w.heap.size (zy h) m) (h++[x]) (w.alloc o)/\LQ γ w (γ.BW w.heap.size (zy h) m) (w.alloc o):=by
 have Gf:γ.Bu w.heap.size=zx:=by
  cases hc:γ.Bu w.heap.size with
  |none=>rfl
  |some y=>cases (DF _) (hi.Bu _ y hc)
 have c:γ.mu (zy h)=zx:=by
  cases hc:γ.mu (zy h) with
  |none=>rfl
  |some y=>cases (DF _) (hi.mu _ y hc)
 have LC:γ.sz w.heap.size=zx:=by
  cases hc:γ.sz w.heap.size with
  |none=>rfl
  |some y=>let⟨⟨_,_,_,p,_⟩,_⟩:=hi.sz _ y hc;rw[Bc] at p;cases (DF _) p.1
 have EH:γ.le (γ.BW w.heap.size (zy h) m):=⟨λ_ _ _ hv=>hv,λid b hm=>by
  have:id≠zy h:=λhe=>by rw[he,c] at hm;cases hm
  simp[Gh.BW,Ac this];exact hm,λb n hm=>by
  have:b≠w.heap.size:=λhe=>by rw[he,LC] at hm;cases hm
  simp[Gh.BW,Ac this];exact hm⟩
 constructor
 .refine⟨λb o' v hb=>?_,λid y IC hy=>?_,λid cs hc b hb=>?_,λid es hc b hb=>?_,λid b hb=>?_,λb y hy=>?_,λb n hb=>?_⟩;rotate_left 6
  .by_cases OW:b=w.heap.size
   .subst OW;simp[Gh.BW,BR] at hb;rcases hx with⟨HJ,us,e,fr,rfl,rfl,pf,p,q,rfl⟩|⟨rfl,rfl,rfl⟩
    .cases hb;exact⟨⟨us,e,fr,heap_alloc_new w _,rfl⟩,.inr ⟨zy h,by simp[Gh.BW]⟩⟩
    .cases hb
   .simp only[Gh.BW,Ac OW] at hb⊢;let⟨⟨D4,e',vo,p,q⟩,r⟩:=hi.sz b n hb;exact⟨⟨D4,e',vo,by rwa[E6 _ _ (by rw[Bc] at p;exact p.1)],q⟩,r⟩
  .let⟨p,q,r⟩:=hi.IZ b o' v hb;have OW:b≠w.heap.size:=P3 (D6 p);exact⟨by rwa[World.cell?_alloc_old _ _ _ OW],q,by simp[Gh.BW,Ac OW];exact r⟩
  .by_cases he:id=zy h;.exact⟨w.heap.size,by simp[Gh.BW,he],by simp[Gh.BW,he]⟩
   .have YA:id<zy h:=by rw[Aq] at IC;let⟨hl,_⟩:=IC;simp at hl;omega
    rw[Ak YA] at IC;let⟨b,p,q⟩:=hi.MR id y IC hy;have OW:b≠w.heap.size:=λhe=>by rw[he,Gf] at q;cases q
    exact⟨b,by simp[Gh.BW,Ac he];exact p,by simp[Gh.BW,Ac OW];exact q⟩
  .by_cases he:id=zy h
   .subst he;simp[Gh.BW] at hb;subst hb;simp at hc;rcases hx with⟨HJ,us,e,fr,rfl,rfl,pf,p,q,rfl⟩|⟨rfl,rfl,rfl⟩
    .cases hc;exact⟨us,e,fr,heap_alloc_new w _,pf,Bp.mono EH _ _ p,q⟩
    .cases hc
   .simp only[Gh.BW,Ac he] at hb;have YA:=hi.mu id b hb;rw[Ak YA] at hc;let⟨D4,e',vo,p,pf,q,r⟩:=hi.cells id cs hc b hb;exact⟨D4,e',vo,by rwa[E6 _ _ (by rw[Bc] at p;exact p.1)],pf,Bp.mono EH _ _ q,r⟩
  .by_cases he:id=zy h
   .subst he;simp[Gh.BW] at hb;subst hb;simp at hc;rcases hx with⟨HJ,us,e,fr,rfl,rfl,pf,p,q,rfl⟩|⟨rfl,rfl,rfl⟩
    .cases hc
    .cases hc;exact⟨#[],0,heap_alloc_new w _,rfl,rfl,AH⟩
   .simp only[Gh.BW,Ac he] at hb;have YA:=hi.mu id b hb;rw[Ak YA] at hc;let⟨DL,clock,p,q⟩:=hi.map id es hc b hb;exact⟨DL,clock,by rwa[E6 _ _ (by rw[Bc] at p;exact p.1)],q.mono EH⟩
  .by_cases he:id=zy h;.simp[he]
   .simp only[Gh.BW,Ac he] at hb;have:=hi.mu id b hb;simp;omega
  .by_cases OW:b=w.heap.size;.subst OW;simp
   .simp only[Gh.BW,Ac OW] at hy;have:=hi.Bu b y hy;simp;omega
 .refine⟨EH,AH,rfl,rfl,rfl,λb hb _=>⟨E6 _ _ hb,?_⟩⟩;simp[Gh.BW,Ac (P3 hb)]
def om{g s:Nat}(hg:γ.Bu g=zz (.loc s))(us:Array Value):HK γ h (w.setRow g us):=by
 refine⟨λb o v hb=>?_,hi.MR,λid cs hc b hb=>?_,λid es hc b hb=>?_,hi.mu,λb x hx=>?_,λb n hb=>?_⟩;rotate_left 4
 .let⟨p,r⟩:=hi.sz b n hb;have:b≠g:=λhe=>by grind
  exact⟨by rwa[setRow_other w g b us this],r⟩
 .let⟨p,q,r⟩:=hi.IZ b o v hb;have:b≠g:=λhe=>by grind
  exact⟨by rwa[CX (setRow_other w g b us this)],q,r⟩
 .have Te:b≠g:=λhe=>by subst he;let⟨b',p,q⟩:=hi.MR id _ hc AH;grind
  rw[setRow_other w g b us Te];exact hi.cells id cs hc b hb
 .have Te:b≠g:=λhe=>by subst he;let⟨b',p,q⟩:=hi.MR id _ hc AH;rw[hb] at p;cases p;rw[hg] at q;cases q
  rw[setRow_other w g b us Te];exact hi.map id es hc b hb
 .have:=hi.Bu b x hx;simpa[zp] using this
def Of{g id:Nat}{cs:List Aa}(hcs:h[id]?=zz (zt cs))(hg:γ.mu id=zz g){us:Array Value}{e:TypeId}{fr:Nat×Nat}(hw:w.heap[g]?=zz (.cells us e fr))(D4:Array Value)(HJ:List Aa)(dE:D4.size=us.size)(dz:U4 fr D4.size)
  (hr:Bp γ HJ (D4.toList.take (zy HJ))) (h1:∀u∈D4.toList.take (zy HJ),u.oneCell'=zk):
  HK γ (h.set id (zt HJ)) (w.setRow g D4)/\LQ γ w γ (w.setRow g D4):=by
 let⟨f,p,UN⟩:=hi.MR id _ hcs AH;rw[hg] at p;cases p;have uniq:∀Gv x,h[Gv]?=zz x->x≠ .CU->γ.mu Gv=zz g->Gv=id:=λGv x hx c hm=>by let⟨b',p,q⟩:=hi.MR Gv x hx c;rw[hm] at p;cases p;rw[UN] at q;cases q;rfl
 constructor
 .refine⟨λb o v hb=>?_,λGv y IC hy=>?_,λGv cs hc b hb=>?_,λGv es hc b hb=>?_,λGv b hb=>zv (hi.mu Gv b hb),λb x hx=>?_,λb n hb=>?_⟩;rotate_left 5
  .let⟨⟨wD,d,xz,p,q⟩,r⟩:=hi.sz b n hb;by_cases he:b=g;.subst he;rw[hw] at p;cases p;exact⟨⟨D4,e,fr,setRow_heap w b us D4 e fr hw,by rwa[dE]⟩,r⟩
   .exact⟨⟨wD,d,xz,by rwa[setRow_other w g b D4 he],q⟩,r⟩
  .let⟨p,q,r⟩:=hi.IZ b o v hb;have:b≠g:=λhe=>by subst he;rw[UN] at r;obtain r|⟨_,_,_,r,_⟩:=r<;>cases r
   exact⟨by rwa[CX (setRow_other w g b D4 this)],q,r⟩
  .by_cases he:Gv=id;.subst he;exact⟨g,hg,UN⟩
   .rw[Au (λx=>he x.symm)] at IC;exact hi.MR Gv y IC hy
  .by_cases he:Gv=id;.subst he;rw[hg] at hb;cases hb;rw[AY (hi.mu _ _ hg)] at hc;cases hc;exact⟨D4,e,fr,setRow_heap w g us D4 e fr hw,dz,hr,h1⟩
   .rw[Au (λx=>he x.symm)] at hc;have Te:b≠g:=λhx=>by subst hx;exact he (uniq Gv _ hc AH hb)
    rw[setRow_other w g b D4 Te];exact hi.cells Gv cs hc b hb
  .by_cases he:Gv=id;.subst he;rw[AY (hi.mu _ _ hg)] at hc;cases hc
   .rw[Au (λx=>he x.symm)] at hc;have Te:b≠g:=λhx=>by subst hx;exact he (uniq Gv _ hc AH hb)
    rw[setRow_other w g b D4 Te];exact hi.map Gv es hc b hb
  .have:=hi.Bu b x hx;simpa[zp] using this
 .refine⟨.refl _,by simp[zp],rfl,rfl,rfl,λb hb hn=>⟨?_,rfl⟩⟩;exact setRow_other w g b D4 (λhe=>by subst he;exact hn id UN)
def wE{g s st:Nat}{c:Option Nat}(hg:γ.Bu g=zz (.tail s c st)){us:Array Value}{e:TypeId}(hw:w.heap[g]?=zz (.cells us e (0,0)))(D4:Array Value)(k:Nat)(s':Nat)(c':Option Nat)
  (Og:∀o,o<st->D4[o]?=us[o]?) (hk:st<=k) (h1:∀o u,o<k->D4[o]?=zz u->u.oneCell'=zk) (gR:∀o v,γ.IZ g o=zz v->us[o]?=zz v):
  HK (γ.DH g D4 k (zz (.tail s' c' k))) h (w.setRow g D4)/\γ.le (γ.DH g D4 k (zz (.tail s' c' k))):=by
 have hlt:∀o v,γ.IZ g o=zz v->o<st:=λo v ho=>by
  let⟨_,_,r⟩:=hi.IZ g o v ho;rw[hg] at r;obtain r|⟨_,_,_,r,hl⟩:=r
  .cases r
  .cases r;exact hl
 have EH:γ.le (γ.DH g D4 k (zz (.tail s' c' k))):=⟨λb o v hb=>by
  by_cases he:b=g;.subst he;have:=hlt o v hb;simp[Gh.DH,BR,Af (JQ this hk)];rw[Og o this];exact gR o v hb
  .simp only[Gh.DH,Ac he];exact hb,λ_ _ hm=>hm,λ_ _ hm=>hm⟩
 refine⟨⟨λb o v hb=>?_,λid y IC hy=>?_,λid cs hc b hb=>?_,λid es hc b hb=>?_,hi.mu,λb x hx=>?_,λb n hb=>?_⟩,EH⟩;rotate_left 5
 .let⟨p,r⟩:=hi.sz b n hb;have:b≠g:=λhe=>by subst he;rw[hg] at r;obtain r|⟨_,r⟩:=r<;>cases r
  exact⟨by rwa[setRow_other w g b D4 this],by simp[Gh.DH,Ac this];exact r⟩
 .by_cases he:b=g
  .subst he;simp only[Gh.DH,BR] at hb⊢;split at hb
   next hl=>exact⟨by rwa[cell_of_row _ _ _ D4 e (0,0) (setRow_heap w b us D4 e (0,0) hw)],
     h1 o v hl hb,.inr ⟨s',c',k,rfl,hl⟩⟩
   .cases hb
  .simp only[Gh.DH,Ac he] at hb⊢;let⟨p,q,r⟩:=hi.IZ b o v hb;exact⟨by rwa[CX (setRow_other w g b D4 he)],q,r⟩
 .let⟨b,p,q⟩:=hi.MR id y IC hy;have:b≠g:=λhe=>by subst he;rw[hg] at q;cases q
  exact⟨b,p,by simp[Gh.DH,Ac this];exact q⟩
 .replace hb:γ.mu id=zz b:=hb;let⟨b',p,q⟩:=hi.MR id _ hc AH;rw[hb] at p;cases p;have:b≠g:=λhe=>by subst he;rw[hg] at q;cases q
  rw[setRow_other w g b D4 this];let⟨wD,j,xz,i,f,d,r2⟩:=hi.cells id cs hc b hb;exact⟨wD,j,xz,i,f,Bp.mono EH _ _ d,r2⟩
 .replace hb:γ.mu id=zz b:=hb;let⟨b',p,q⟩:=hi.MR id _ hc AH;rw[hb] at p;cases p;have:b≠g:=λhe=>by subst he;rw[hg] at q;cases q
  rw[setRow_other w g b D4 this];let⟨DL,clock,i,d⟩:=hi.map id es hc b hb;exact⟨DL,clock,i,d.mono EH⟩
 .by_cases he:b=g;.subst he;have:=hi.Bu b _ hg;simpa[zp] using this
  .simp only[Gh.DH,Ac he] at hx;have:=hi.Bu b x hx;simpa[zp] using this
end
def LQ.write{γ0 c:Gh}{w0:World}(ha:LQ γ0 w0 γ w){w1:World}{g:Nat}(hg:w0.heap.size<=g)(EH:γ.le c)(hs:w1.heap.size=w.heap.size)(h1:w1.os=w.os)(h2:w1.tape=w.tape)(d:w1.output=w.output)
  (hk:∀b,b≠g->w1.heap[b]?=w.heap[b]?/\c.Bu b=γ.Bu b):LQ γ0 w0 c w1:=by
 refine⟨ha.le.trans EH,by rw[hs];exact ha.size,h1.trans ha.os,h2.trans ha.tape,d.trans ha.output,λb hb hn=>?_⟩;.let⟨p,q⟩:=ha.OV b hb hn;grind
def x_(hi:HK γ h w){g id:Nat}{cs:List Aa}(hcs:h[id]?=zz (zt cs))(hg:γ.mu id=zz g){us:Array Value}{e:TypeId}{fr:Nat×Nat}(hw:w.heap[g]?=zz (.cells us e fr))(h1:∀u∈us.toList.take (zy cs),u.oneCell'=zk):
  HK (γ.DH g us (zy cs) zx) (h.set id .CU) w/\LQ γ w (γ.DH g us (zy cs) zx) w:=by
 let⟨d,p,UN⟩:=hi.MR id _ hcs AH;rw[hg] at p;cases p;have uniq:∀Gv x,h[Gv]?=zz x->x≠ .CU->γ.mu Gv=zz g->Gv=id:=λGv x hx c hm=>by let⟨b',p,q⟩:=hi.MR Gv x hx c;rw[hm] at p;cases p;rw[UN] at q;cases q;rfl
 have hne:∀o v,γ.IZ g o=zz v->False:=λo v hv=>by let⟨_,_,r⟩:=hi.IZ g o v hv;rw[UN] at r;obtain r|⟨_,_,_,r,_⟩:=r<;>cases r
 have EH:γ.le (γ.DH g us (zy cs) zx):=⟨λb o v hb=>by
  have:b≠g:=λhe=>by subst he;exact hne o v hb
  simp[Gh.DH,Ac this];exact hb,λ_ _ hm=>hm,λ_ _ hm=>hm⟩
 constructor
 .refine⟨λb o v hb=>?_,λGv y IC hy=>?_,λGv HJ hc b hb=>?_,λGv es hc b hb=>?_,λGv b hb=>zv (hi.mu Gv b hb),λb x hx=>?_,λb n hb=>?_⟩;rotate_left 5
  .let⟨p,r⟩:=hi.sz b n hb;by_cases he:b=g;.subst he;exact⟨p,.inl (by simp[Gh.DH])⟩
   .exact⟨p,by simp[Gh.DH,Ac he];exact r⟩
  .by_cases he:b=g
   .subst he;simp only[Gh.DH,BR] at hb⊢;split at hb;.rename_i hlt;exact⟨by rwa[cell_of_row _ _ _ us e fr hw],h1 v (CV (i:=o) (by rw[DS hlt];exact zv hb)),.inl AH⟩
    .cases hb
   .simp only[Gh.DH,Ac he] at hb⊢;exact hi.IZ b o v hb
  .by_cases he:Gv=id;.subst he;rw[AY (hi.mu _ _ hg)] at IC;cases IC;cases hy rfl
   .rw[Au (λx=>he x.symm)] at IC;let⟨b,p,q⟩:=hi.MR Gv y IC hy;have:b≠g:=λhx=>by subst hx;exact he (uniq Gv y IC hy p)
    exact⟨b,p,by simp[Gh.DH,Ac this];exact q⟩
  .by_cases he:Gv=id;.subst he;rw[AY (hi.mu _ _ hg)] at hc;cases hc
   .rw[Au (λx=>he x.symm)] at hc;let⟨D4,e',vo,p,pf,q,r⟩:=hi.cells Gv HJ hc b hb;exact⟨D4,e',vo,p,pf,Bp.mono EH _ _ q,r⟩
  .by_cases he:Gv=id;.subst he;rw[AY (hi.mu _ _ hg)] at hc;cases hc
   .rw[Au (λx=>he x.symm)] at hc;let⟨D4,e',p,q⟩:=hi.map Gv es hc b hb;exact⟨D4,e',p,q.mono EH⟩
  .by_cases he:b=g;.subst he;exact hi.Bu b _ UN
   .simp only[Gh.DH,Ac he] at hx;exact hi.Bu b x hx
 .refine⟨EH,Ae _,rfl,rfl,rfl,λb hb hn=>⟨rfl,?_⟩⟩;have:b≠g:=λhe=>by subst he;exact hn id UN
  simp[Gh.DH,Ac this]
end
end Go.Am
end
section
namespace Go.Am
def E8.Oh(C:GN)(run:IT->Ah->Option Kz)(U:BU)(h:Ah)(e:BU)(h':Ah):E8->Prop
 | .pure ws=>e=U.EB ws/\h'=h
 | .op p args dst Bu i=>∃v,AA p args=zz v/\e=(U.D5 i).put dst (if Bu then .Bu v else zm v)/\h'=h
 | .box n v d=>zy v.cells=n/\e=U.set d (za 0 v.cells [])/\h'=h
 | .closure fn a b j d=>e=(U.EB (j.map λ(s,cs)=>(s,zm (.CH cs)))).set d (zm (.func fn a b))/\h'=h
 | .NY s off n v Bu i ver cells owned=>zy v.cells=n/\e=(U.D5 i).set s (za (ver+1) (Yt cells off n v.cells) (Tp owned off n Bu))/\h'=h
 | .load n p dst=>∃v,A5 h n p=zz v/\e=U.put dst (zm v)/\h'=h
 | .store n p v=>Cy h n p v=zz h'/\e=U
 | .alloc n v dst=>zy v.cells=n/\h'=h++[zt v.cells]/\e=U.put dst (zm (.ptr (zz (zy h,0))))
 | .call f args dst=>∃r,run (B8 C f args) h=zz (.ret,[r],h')/\e=U.put dst (if C.JM f then .Bu r else zm r)
 | .La g args dst=>∃f args' r,Dw g args=zz (f,args')/\run (B8 C f args') h=zz (.ret,[r],h')/\e=U.put dst (zm r)
 | .BM f args dst=>args.all Aa.Nv=zk/\∃r h1,run (B8 C f args) []=zz (.ret,[r],h1)/\r.Nv=zk/\e=U.put dst (zm r)/\h'=h
 | .P9 dst=>h'=h++[.map []]/\e=U.put dst (zm (.map (zz (zy h))))
 | .KX m k v=>RV h m k v=zz h'/\e=U
 | .make z b zero l c dst=>∃v,Tm h z b zero l c=zz (h',v)/\e=U.put dst (zm v)
 | .LM z b s x dst i=>∃v,Lj h z b s x=zz (h',v)/\e=(U.D5 i).put dst (zm v)
 | .J7 z b s x dst=>∃v,GF h z b s x=zz (h',v)/\e=U.put dst (zm v)
 | .Ha z b s x dst i=>∃v,RY h z b s x=zz v/\e=(U.D5 i).put dst (.Bu v)/\h'=h
 | .Fz s dst=>∃v,Jn h s=zz (h',v)/\e=U.put dst (zm v)
 | .Yi s dst=>∃v u,KY h s=zz (h',v)/\AA .Yi [v]=zz u/\e=U.put dst (zm u)
 | .mem o args dst=>∃v,EF o h args=zz (h',v)/\e=U.put dst (if o.aH5 then z3 else zm v)
 | .MN z ok m k dst=>∃v,Qb h z ok m k=zz v/\e=U.put dst (zm v)/\h'=h
def U5{n:Nat}{cs:List Aa}(h:zy cs=n):Ys n cs=cs:=by apply Su;intro i;simp[Ys,Cc,zu];grind
def dF{C:GN}{run:IT->Ah->Option Kz}{U:BU}{K:BU->IT}{h:Ah}{R:Kz}{r:E8}
  (hr:zw (B8 C) run (r.MQ C U K) h=zz R):∃i h',r.Oh C run U h i h'/\zw (B8 C) run (K i) h'=zz R:=by
 cases r with
 |pure ws=>exact⟨_,_,⟨rfl,rfl⟩,hr⟩
 |op p args dst Bu e=>
  simp[zr,zw] at hr;split at hr;next v hv=>exact⟨_,_,⟨v,hv,rfl,rfl⟩,hr⟩
  .cases hr
 |box n v d=>
  simp only[zr,zw] at hr;split at hr;next hn=>rw[U5 hn] at hr;exact⟨_,_,⟨hn,rfl,rfl⟩,hr⟩
  .cases hr
 |closure fn a b j d=>exact⟨_,_,⟨rfl,rfl⟩,hr⟩
 |NY s off n v Bu e ver cells owned=>
  simp only[zr,zw] at hr;split at hr;next hn=>rw[U5 hn] at hr;exact⟨_,_,⟨hn,rfl,rfl⟩,hr⟩
  .cases hr
 |load n p dst=>
  simp[zr,zw] at hr;split at hr;next v hv=>exact⟨_,_,⟨v,hv,rfl,rfl⟩,hr⟩
  .cases hr
 |store n p v=>
  simp[zr,zw] at hr;split at hr;next h1 hv=>exact⟨_,_,⟨hv,rfl⟩,hr⟩
  .cases hr
 |alloc n v dst=>
  simp[zr,zw,Yl] at hr;by_cases hn:zy v.cells=n;.rw[Af hn] at hr;exact⟨_,_,⟨hn,rfl,rfl⟩,hr⟩
  .rw[Ac hn] at hr;cases hr
 |call f args dst=>
  simp[zr,zw] at hr;split at hr;next r h1 hv=>exact⟨_,_,⟨r,hv,rfl⟩,hr⟩
  .cases hr
 |La g args dst=>
  simp[zr,zw] at hr;split at hr
  .rename_i f a' ht;split at hr;.rename_i r h1 hv;exact⟨_,_,⟨f,a',r,ht,hv,rfl⟩,hr⟩
   .cases hr
  .cases hr
 |BM f args dst=>
  simp only[zr,zw] at hr;split at hr
  .rename_i HB;split at hr
   .rename_i r h1 hv;split at hr;.rename_i vn;exact⟨_,_,⟨HB,r,h1,hv,vn,rfl,rfl⟩,hr⟩
    .cases hr
   .cases hr
  .cases hr
 |P9 dst=>exact⟨_,_,⟨rfl,rfl⟩,hr⟩
 |KX m k v=>
  simp[zr,zw] at hr;split at hr;next h1 hv=>exact⟨_,_,⟨hv,rfl⟩,hr⟩
  .cases hr
 |MN z ok m k dst=>
  simp[zr,zw] at hr;split at hr;next v hv=>exact⟨_,_,⟨v,hv,rfl,rfl⟩,hr⟩
  .cases hr
 |make z b zero l c dst=>
  simp[zr,zw] at hr;split at hr;next h1 v hv=>exact⟨_,_,⟨v,hv,rfl⟩,hr⟩
  .cases hr
 |LM z b s x dst e=>
  simp[zr,zw] at hr;split at hr;next h1 v hv=>exact⟨_,_,⟨v,hv,rfl⟩,hr⟩
  .cases hr
 |J7 z b s x dst=>
  simp[zr,zw] at hr;split at hr;next h1 v hv=>exact⟨_,_,⟨v,hv,rfl⟩,hr⟩
  .cases hr
 |Ha z b s x dst e=>
  simp[zr,zw] at hr;split at hr;next v hv=>exact⟨_,_,⟨v,hv,rfl,rfl⟩,hr⟩
  .cases hr
 |Fz s dst=>
  simp[zr,zw] at hr;split at hr;next h1 v hv=>exact⟨_,_,⟨v,hv,rfl⟩,hr⟩
  .cases hr
 |Yi s dst=>
  simp[zr,zw] at hr;split at hr
  .rename_i h1 v hv;split at hr;.rename_i u hu;exact⟨_,_,⟨v,u,hv,hu,rfl⟩,hr⟩
   .cases hr
  .cases hr
 |mem o args dst=>
  simp[zr,zw] at hr;split at hr;next h1 v hv=>exact⟨_,_,⟨v,hv,rfl⟩,hr⟩
  .cases hr
structure Dd(C:GN)(γ0:Gh)(w0:World)(γ:Gh)(β:Nat->Nat)(U:BU)(h:Ah)(a:Act)(w:World):Prop where
 Eh:HK γ h w
 fr:FR γ β w0.heap.size U a.tmps w
 Ed:LQ γ0 w0 γ w
 defers:a.defers=[]
 HO:∀g cs,C.HO g=zz cs->Df γ cs g 0
def Tt{γ:Gh}{v:Value}{a:Aa}(h:P8 v=zz a):BT γ a v/\v.oneCell'=zk:=by
 unfold P8 at h;split at h;case h_7=>
  split at h;next hs=>cases h;have c:=Jj hs.1;have b:=Jj hs.2;subst c;subst b;exact⟨⟨#[],#[],rfl,rfl,rfl⟩,rfl⟩
  .cases h
 all_goals first
  |(cases h;exact⟨rfl,rfl⟩)
  |cases h
def N0{γ:Gh}:∀{vs:List Value} {as:List Aa},MG vs=zz as->Bp γ as vs/\∀v∈vs,v.oneCell'=zk
 |[],as,h=>by cases h;exact⟨rfl,AH⟩
 |v::vs,as,h=>by
  rw[MG] at h;split at h;next a b h1 h2=>cases h;obtain⟨p,q⟩:=Tt h1;obtain⟨p',q'⟩:=N0 h2;exact⟨⟨v,vs,rfl,p,p'⟩,λx hx=>(AR.1 hx).elim (λe=>by rwa[e]) (q' x)⟩
  .cases h
def FO{γ:Gh}{v:Value}{a:Aa}(h:Mt v=zz a):BT γ a v:=by
 unfold Mt at h;split at h
 .rename_i cs;cases hs:MG cs.toList with
  |none=>rw[hs] at h;cases h
  |some as=>rw[hs] at h;cases h;obtain⟨p,q⟩:=N0 hs;exact⟨cs,rfl,p,q⟩
 .exact(Tt h).1
section
variable{C:GN}{γ0 γ:Gh}{w0 w:World}{β:Nat->Nat}{U:BU}{h:Ah}{a:Act}
section
variable(hr:Dd C γ0 w0 γ β U h a w)
def SD{x:Operand}{sl:EL}(hx:Es C U x=zz sl)(hn:∀s,x≠ .tmp s):∃s,Me γ β w0.heap.size w s sl (a.eval x):=by
 unfold Es at hx;split at hx;.grind
 .cases hx;exact⟨0,rfl⟩
 .cases hx;exact⟨0,rfl,.inl (.inl rfl)⟩
 .rename_i v _ _;cases hc:Mt v with
  |none=>rw[hc] at hx;cases hx
  |some u=>rw[hc] at hx;cases hx;exact⟨0,FO hc⟩
 .rename_i g;cases hc:C.HO g with
  |none=>rw[hc] at hx;cases hx
  |some cs=>rw[hc] at hx;cases hx;exact⟨0,g,0,rfl,hr.HO g cs hc⟩
 .cases hx;exact⟨0,#[],#[],rfl,rfl,rfl⟩
def Tu(s:Nat):Me γ β w0.heap.size w s (U.at s) (a.eval (.tmp s)):=hr.fr.IS s
def GU{x:Operand}{sl:EL}(hx:Es C U x=zz sl):∃s,Me γ β w0.heap.size w s sl (a.eval x)/\∀t,x= .tmp t->s=t:=by
 cases x with
 |tmp t=>cases hx;exact⟨t,Tu hr t,λ_ h=>by cases h;rfl⟩
 |const v=>let⟨s,h1⟩:=SD hr hx (by intro s h;cases h);exact⟨s,h1,λ_ h=>by cases h⟩
 |global g=>let⟨s,h1⟩:=SD hr hx (by intro s h;cases h);exact⟨s,h1,λ_ h=>by cases h⟩
 |func f=>let⟨s,h1⟩:=SD hr hx (by intro s h;cases h);exact⟨s,h1,λ_ h=>by cases h⟩
end
def Oi{B s:Nat}{sl:EL}{v:Value}{u:Aa}(hs:Me γ β B w s sl v)(hv:sl.IF=zz u):BT γ u v:=by
 cases sl<;>simp[EL.IF] at hv;.subst hv;exact hs
 .subst hv;exact hs
 .subst hv;exact hs.1
section
variable(hr:Dd C γ0 w0 γ β U h a w)
def Hk{x:Operand}{u:Aa}(hx:Ft C U x=zz u):BT γ u (a.eval x):=by
 rw[Ft] at hx;cases hs:Es C U x with
 |none=>rw[hs] at hx;cases hx
 |some sl=>rw[hs] at hx;let⟨s,h1,_⟩:=GU hr hs;exact Oi h1 hx
end
def Ee(hr:Dd C γ0 w0 γ β U h a w):∀{xs:List Operand} {us:List Aa},BC C U xs=zz us->Bp γ us (xs.map a.eval)
 |[],us,hx=>by cases hx;rfl
 |x::xs,us,hx=>by
  rw[BC] at hx;split at hx;next u D4 h1 h2=>cases hx;exact⟨_,_,rfl,Hk hr h1,Ee hr h2⟩
  .cases hx
section
variable{B:Nat}{tmps:Array Value}(hf:FR γ β B U tmps w){d:Nat}{x:EL}
def FR.put{v:Value}(hx:Me γ β B w d x v):FR γ β B (U.set d x) (tmps.setIfInBounds d v) w:=by
 refine⟨by simp[hf.size],λs=>?_⟩;have hs:=hf.IS s;by_cases he:s=d
 .subst he;by_cases hl:s<zy U
  .have b:s<tmps.size:=by rwa[<-hf.size]
   simpa[BU.at,zu,hl,b,Array.getD] using hx
  .have b:¬s<tmps.size:=by rwa[<-hf.size]
   simpa[BU.at,zu,hl,b,Array.getD] using hs
 .have h1:BU.at (U.set d x) s=U.at s:=by simp[BU.at,zu,Au (λe=>he e.symm)]
  have h2:(tmps.setIfInBounds d v).getD s undef=tmps.getD s undef:=by simp[Kx,vY (λe=>he e.symm)]
  grind
def FR.qB(hx:Me γ β B w d x (tmps.getD d undef)):FR γ β B (U.set d x) tmps w:=by
 refine⟨by simp[hf.size],λs=>?_⟩;have hs:=hf.IS s;by_cases he:s=d
 .subst he;by_cases hl:s<zy U;.simpa[BU.at,zu,hl] using hx
  .simpa[BU.at,zu,hl] using hs
 .have h1:BU.at (U.set d x) s=U.at s:=by simp[BU.at,zu,Au (λe=>he e.symm)]
  grind
end
section
variable(hr:Dd C γ0 w0 γ β U h a w)
def Dd.put{d:Option Nat}{x:EL}{v:Value}(hx:∀s,d=zz s->Me γ β w0.heap.size w s x v):Dd C γ0 w0 γ β (U.put d x) h (a.put d v) w:=by
 cases d with
 |none=>exact hr
 |some d=>exact⟨hr.Eh,hr.fr.put (hx d rfl),hr.Ed,hr.defers,hr.HO⟩
def Dd.qB{d:Nat}{x:EL}(hx:Me γ β w0.heap.size w d x (a.tmps.getD d undef)):Dd C γ0 w0 γ β (U.set d x) h a w:=
 ⟨hr.Eh,hr.fr.qB hx,hr.Ed,hr.defers,hr.HO⟩
def Dd.drop(ds:List Nat):Dd C γ0 w0 γ β (U.drop ds) h a w:=by
 cases ds with
 |nil=>exact hr
 |cons d ds=>
  refine⟨hr.Eh,⟨by simp[BU.drop,hr.fr.size],λs=>?_⟩,hr.Ed,hr.defers,hr.HO⟩;have hs:=hr.fr.IS s;have e:(BU.drop U (d::ds)).at s=match U.at s with| .FF t o=>if(d::ds).contains t then z3 else .FF t o|x=>x:=by
   simp[BU.drop,BU.at,zu,Cc];cases hg:U[s]? with
   |none=>rfl
   |some x=>cases x<;>rfl
  rw[e];cases hx:U.at s with
  |FF t o=>
   rw[hx] at hs;simp only
   split;.trivial
   .exact hs
  |_=>rwa[hx] at hs
def Dd.JF{γ':Gh}{h':Ah}{w':World}(hi:HK γ' h' w')(ha:LQ γ w γ' w'):Dd C γ0 w0 γ' β U h' a w':=
 ⟨hi,hr.fr.kept (oj.aEp hr.Eh ha),hr.Ed.trans ha,hr.defers,λg cs hg=>Df.mono ha.le _ _ _ (hr.HO g cs hg)⟩
end
def JS{P:Program}{o:Oper}{v:Value}{w':World}{next:Act->World->Prop}{Q:Exit->Act->World->Prop}(he:(execOp a.eval o).run P w= z4 (.value v) w')(hn:next (a.put o.dst v) w'):o.wp P a w next Q:=by rw[Oper.wp];rwa[he]
def wF{P:Program}{o:Oper}{w':World}{next:Act->World->Prop}{Q:Exit->Act->World->Prop}(he:(execOp a.eval o).run P w= z4 .skip w')(hn:next (a.put o.dst undef) w'):o.wp P a w next Q:=by rw[Oper.wp];rwa[he]
end
end Go.Am
end
section
namespace Go.Am
def Gh.Gn(γ:Gh)(g:Nat)(x:Lc):Gh:={γ with Bu:=λb=>if b=g then zz x else γ.Bu b}
section
variable{C:GN}{γ0 γ:Gh}{w0 w:World}{β:Nat->Nat}{U:BU}{h:Ah}{a:Act}
def HP(γ:Gh)(g:Nat)(x:Lc):γ.le (γ.Gn g x):=⟨λ_ _ _ h=>h,λ_ _ h=>h,λ_ _ h=>h⟩
def HK.Gn(hi:HK γ h w){g s s' st:Nat}{c c':Option Nat}(hg:γ.Bu g=zz (.tail s c st)):HK (γ.Gn g (.tail s' c' st)) h w:=by
 refine⟨λb o v hb=>?_,λid y IC hy=>?_,λid cs hc b hb=>?_,λid es hc b hb=>?_,hi.mu,λb x hx=>?_,λb n hb=>?_⟩;rotate_left 5
 .let⟨p,r⟩:=hi.sz b n hb;have:b≠g:=λhe=>by grind
  exact⟨p,by simp[Gh.Gn,Ac this];exact r⟩
 .let⟨p,q,r⟩:=hi.IZ b o v hb;refine⟨p,q,?_⟩;by_cases he:b=g
  .subst he;rw[hg] at r;obtain r|⟨_,_,_,r,hl⟩:=r
   .cases r
   .cases r;exact .inr ⟨s',c',st,by simp[Gh.Gn],hl⟩
  .simpa only[Gh.Gn,Ac he] using r
 .let⟨b,p,q⟩:=hi.MR id y IC hy;have:b≠g:=λhe=>by subst he;rw[hg] at q;cases q
  exact⟨b,p,by simp[Gh.Gn,Ac this];exact q⟩
 .let⟨us,e,fr,p,pf,q,r⟩:=hi.cells id cs hc b hb;exact⟨us,e,fr,p,pf,Bp.mono (HP γ g _) _ _ q,r⟩
 .let⟨us,e,p,q⟩:=hi.map id es hc b hb;exact⟨us,e,p,q.mono (HP γ g _)⟩
 .by_cases he:b=g;.subst he;exact hi.Bu b _ hg
  .simp only[Gh.Gn,Ac he] at hx;exact hi.Bu b x hx
def Jp.Gn{B:Nat}{s b st:Nat}{c d:Option Nat}{v:Value}{u:Aa}{x:Lc}{g:Nat}(hg:γ.Bu g=zz (.tail s c st))(ho:Jp γ B w b d v u)(hne:b≠s\/d≠c):Jp (γ.Gn g x) B w b d v u:=by
 obtain ho|⟨g2,n,cap,us,e,z,AD,h1,h2,i,f⟩:=ho
 .exact .inl ho
 .have:g2≠g:=λhe=>by grind
  exact .inr ⟨g2,n,cap,us,e,z,AD,h1,h2,by simp[Gh.Gn,Ac this];exact i,f⟩
def FR.Gn{B:Nat}{tmps:Array Value}(hf:FR γ β B U tmps w){g s st:Nat}{c:Option Nat}{x:Lc}(hg:γ.Bu g=zz (.tail s c st))
  (h1:c=zx->∀v,U.at s≠ .Bu v) (h2:∀o,c=zz o->∀ver cs ow,U.at s= za ver cs ow->o∉ow):FR (γ.Gn g x) β B U tmps w:=by
 refine⟨hf.size,λd=>?_⟩;have hs:=hf.IS d;cases hx:U.at d with
 |undef=>trivial
 |skip=>rwa[hx] at hs
 |val u=>rw[hx] at hs;exact BT.mono (HP γ g x) _ _ hs
 |P7 b=>rwa[hx] at hs
 |Bu u=>rw[hx] at hs;refine⟨BT.mono (HP γ g x) _ _ hs.1,hs.2.Gn hg ?_⟩;grind
 |box ver cs ow=>
  rw[hx] at hs;let⟨r,f,q,us,e,p,n,m,l⟩:=hs;have hb:β d≠g:=λhe=>by rw[he,hg] at f;cases f
  refine⟨r,by simp[Gh.Gn,Ac hb];exact f,q,us,e,p,Bp.mono (HP γ g x) _ _ n,m,λo ho=>?_⟩;let⟨u,v,k,j,i⟩:=l o ho;refine⟨u,v,k,j,i.Gn hg ?_⟩;grind
 |FF s' o=>rwa[hx] at hs
def Dd.Gn(hr:Dd C γ0 w0 γ β U h a w){g s st s':Nat}{c c':Option Nat}(hg:γ.Bu g=zz (.tail s c st))(hB:w0.heap.size<=g)
  (h1:c=zx->∀v,U.at s≠ .Bu v) (h2:∀o,c=zz o->∀ver cs ow,U.at s= za ver cs ow->o∉ow):Dd C γ0 w0 (γ.Gn g (.tail s' c' st)) β U h a w:=by
 refine⟨hr.Eh.Gn hg,hr.fr.Gn hg h1 h2,?_,hr.defers,λx cs hx=>Df.mono (HP γ g _) _ _ _ (hr.HO x cs hx)⟩;refine⟨hr.Ed.le.trans (HP γ g _),hr.Ed.size,hr.Ed.os,hr.Ed.tape,hr.Ed.output,λb hb hn=>?_⟩;.let⟨p,q⟩:=hr.Ed.OV b hb hn;exact⟨p,by simp[Gh.Gn,Ac (Ab:b≠g)];exact q⟩
def BU.FQ{s:Nat}{x:EL}(hs:s<zy U):BU.at (U.set s x) s=x:=by simp[BU.at,zu,hs]
def BU.GK{s t:Nat}{x:EL}(hs:s≠t):BU.at (U.set s x) t=U.at t:=by simp[BU.at,zu,Au hs]
def BU.Qh{s:Nat}(hs:U.at s≠ z3):s<zy U:=by
 obtain h|h:=AP s (zy U)
 .exact h
 .cases hs (by simp[BU.at,zu,Ki h])
def Dd.take(hr:Dd C γ0 w0 γ β U h a w){s:Nat}{v:Aa}(hs:U.at s= .Bu v)(s':Nat)(c':Option Nat):
  ∃γ',γ.le γ'/\Dd C γ0 w0 γ' β (U.set s (zm v)) h a w/\BT γ' v (a.tmps.getD s undef)/\Jp γ' w0.heap.size w s' c' (a.tmps.getD s undef) v:=by
 have h0:=hr.fr.IS s;rw[hs] at h0;let⟨hv,ho⟩:=h0;have KA:Dd C γ0 w0 γ β (U.set s (zm v)) h a w:=hr.qB hv;have hl:=BU.Qh (by rw[hs];simp);obtain ho|⟨g,n,cap,us,e,z,AD,h1,h2,d,b,c⟩:=ho
 .exact⟨γ,.refl _,KA,hv,.inl ho⟩
 .refine⟨γ.Gn g (.tail s' c' (n*z)),HP _ _ _,KA.Gn d b (λ_ u=>?_) (λo ho=>by cases ho),BT.mono (HP _ _ _) _ _ hv,.inr ⟨g,n,cap,us,e,z,AD,h1,h2,by simp[Gh.Gn],b,c⟩⟩;rw[BU.FQ hl];simp
def gS{B s d:Nat}{sl b:EL}{v:Value}(hs:Me γ β B w s sl v)(hc:I5 sl=zz b):Me γ β B w d b v:=by
 cases sl<;>simp[I5] at hc;.subst hc;exact hs
 .subst hc;exact hs
 .subst hc;exact hs.1
 .subst hc;exact hs
def OX{ws:List (Nat×EL)}(h:∀p∈ws,∀cs ow,p.2≠ za 0 cs ow):(E8.pure ws).news=[]:=by
 simp only[E8.news,List.filterMap_eq_nil_iff];rintro⟨s,x⟩ hp;have:=h _ hp;cases x with
 |box ver cs ow=>
  cases ver with
  |zero=>cases (this cs ow) rfl
  |succ n=>rfl
 |_=>rfl
def Tv{v:Value}{sl:EL}(hs:Es C U (.const v)=zz sl):(∀B d,Me γ β B w d sl v)/\∀ver cs ow,sl≠ za ver cs ow:=by
 unfold Es at hs;split at hs;.grind
 next NB=>cases NB;cases hs;exact⟨λ_ _=>rfl,λ_ _ _ h=>by cases h⟩
 next NB=>cases NB;cases hs;exact⟨λ_ _=>⟨rfl,.inl (.inl rfl)⟩,λ_ _ _ h=>by cases h⟩
 .rename_i NB;cases NB;cases hc:Mt v with
  |none=>rw[hc] at hs;cases hs
  |some u=>rw[hc] at hs;cases hs;exact⟨λ_ _=>FO hc,λ_ _ _ h=>by cases h⟩
 .grind
 .grind
def HE{s:Nat}{sl:EL}(hs:Es C U (.tmp s)=zz sl):U.at s=sl:=EA hs
def wG{x:Operand}{v:Aa}(hs:Es C U x=zz (.Bu v))(hn:∀c,x≠ .const c):∃s,x= .tmp s/\U.at s= .Bu v:=by
 cases x with
 |tmp s=>exact⟨s,rfl,HE hs⟩
 |const c=>cases (hn c) rfl
 |global g=>have dG:(C.HO g).map (λcs=>EL.val (Aa.CH cs))=zz (.Bu v):=hs;simp_all
 |func f=>cases hs
def Tw{x:Operand}{d:Nat}{take:Bool}{r:E8}{run:IT->Ah->Option Kz}{f:BU}{h':Ah}(hm:Lk C U x d take=zz r)(hd:r.Oh C run (U.drop r.news) h f h')
  (hr:Dd C γ0 w0 γ β U h a w):∃γ',Dd C γ0 w0 γ' β f h' (a.put (zz d) (a.eval x)) w:=by
 unfold Lk at hm;split at hm;next s _ _ _ hs=>cases hm;rw[OX AH] at hd;obtain⟨rfl,rfl⟩:=hd;refine⟨γ,hr.put (d:=zz d) λt ht=>?_⟩;have h0:=Tu hr s;rw[HE hs] at h0;exact h0.1
 next v sl hs=>cases hm;let⟨p,q⟩:=Tv (γ:=γ) (β:=β) (w:=w) hs;rw[OX (zv (λcs ow=>q 0 cs ow))] at hd;obtain⟨rfl,rfl⟩:=hd;exact⟨γ,hr.put (d:=zz d) λt _=>p _ t⟩
 .rename_i v hnc hs;split at hm;.cases hm;obtain⟨s,rfl,e⟩:=wG hs (λc hc=>hnc c hc);rw[OX (by simp[To])] at hd;obtain⟨rfl,rfl⟩:=hd;let⟨γ',EH,Gy,DR,ň⟩:=hr.take e d zx;exact⟨γ',Gy.put (d:=zz d) λt ht=>by cases ht;exact⟨DR,ň⟩⟩
  .simp only[I5,B6] at hm;cases hm;rw[OX AH] at hd;obtain⟨rfl,rfl⟩:=hd;let⟨s,h1,_⟩:=GU hr hs;exact⟨γ,hr.put (d:=zz d) λt ht=>h1.1⟩
 .rename_i sl _ _ _ hs;cases hc:I5 sl with
  |none=>rw[hc] at hm;cases hm
  |some b=>
   rw[hc] at hm;cases hm;have d_:∀cs ow,b≠ za 0 cs ow:=by intro cs ow he;subst he;cases sl<;>simp[I5] at hc
   rw[OX (zv d_)] at hd;obtain⟨rfl,rfl⟩:=hd;let⟨s,h1,_⟩:=GU hr hs;exact⟨γ,hr.put (d:=zz d) λt ht=>gS h1 hc⟩
 .cases hm
end
end Go.Am
end
section
namespace Go.Am
open Go
def YB{s:Sem Value}{v:Value}(h:Ra s=zz v):s= .pure v:=by cases s<;>simp[Ra] at h;subst h;rfl
section
variable{P:Program}{γ:Gh}{w:World}
def qC{op:BinOp}{k l:IntKind}{x y:Int}{u:Aa}(t:TypeId)(c b:Operand)(h:c_ op k x l y=zz u):
  ∃v,(do eqGuard op t c b (zj k x) (zj l y);binOp op t (zj k x) (zj l y):Sem Value).run P w= z4 v w/\BT γ u v:=by
 rw[c_] at h;cases hs:Ra (binOp op 0 (zj k x) (zj l y)) with
 |none=>rw[hs] at h;cases h
 |some v=>
  rw[hs] at h;have f:=YB hs;have e:binOp op t (zj k x) (zj l y)= .pure v:=by rw[<-f];cases op<;>rfl
  have d:eqGuard op t c b (zj k x) (zj l y)=pure ():=by cases op<;>rfl
  refine⟨v,by rw[d,e];rfl,?_⟩;simp[CP] at h;split at h<;>cases h<;>rfl
def gT(l:List UInt8):(zq ⟨l⟩).toList=l:=ByteArray.toList_mk l
def qD{op:BinOp}{x y:Ai}{u:Aa}(t:TypeId)(d c:Operand)(h:pZ op x y=zz u):
  ∃v,(do eqGuard op t d c (zo ⟨⟨x⟩⟩) (zo ⟨⟨y⟩⟩);binOp op t (zo ⟨⟨x⟩⟩) (zo ⟨⟨y⟩⟩):Sem Value).run P w= z4 v w/\BT γ u v:=by
 have e:eqGuard op t d c (zo ⟨⟨x⟩⟩) (zo ⟨⟨y⟩⟩)=pure ():=by cases op<;>rfl
 have b:binOp op t (zo ⟨⟨x⟩⟩) (zo ⟨⟨y⟩⟩)=Op.stringOp op ⟨⟨x⟩⟩ ⟨⟨y⟩⟩:=by cases op<;>rfl
 rw[e,b];unfold pZ at h;cases op<;>simp only at h<;>first
  |cases h;done
  |(simp only[Op.stringOp,gT];cases h;exact⟨_,rfl,rfl⟩)
  | (split at h
     . rename_i EH
       cases h
       have hc : ¬ ((((zq ⟨x⟩).size + (zq ⟨y⟩).size : Nat) : Int) > IntKind.i64.max) := by
         have f : (zq ⟨x⟩).size = zy x := rfl
         have b : (zq ⟨y⟩).size = zy y := rfl
         rw [f, b]
         have : IntKind.i64.max = 9223372036854775807 := Bf
         rw [this]
         omega
       simp only [Op.stringOp, Ac hc]
       refine ⟨_, rfl, ?_⟩
       first
         | (congr 1; done)
         | (congr 1; apply ByteArray.ext; simp)
     . cases h)
section
variable{t:TypeId}
def wH(h:FL P t=zz zx):(isAgg t).run P w= z4 zd w:=by
 rw[FL] at h;split at h;.simp_all
 .simp_all
 next d h1 h2 hu=>simp only[isAgg,Sem.run_bind,run_underlying hu,zn];rfl
 .cases h
def SE{n:Nat}(h:FL P t=zz (zz n)):(isAgg t).run P w= z4 zk w/\B7 P t=zz n:=by
 rw[FL] at h;split at h
 .rename_i fs hu;cases hs:B7 P t with
  |none=>rw[hs] at h;cases h
  |some m=>rw[hs] at h;cases h;exact⟨by simp[isAgg,run_underlying hu],rfl⟩
 .rename_i fs _ hu;cases hs:B7 P t with
  |none=>rw[hs] at h;cases h
  |some m=>rw[hs] at h;cases h;exact⟨by simp[isAgg,run_underlying hu],rfl⟩
 .cases h
 .cases h
def D7{n:Nat}(h:B7 P t=zz n):(sizeOf t).run P w= z4 n w:=by
 rw[B7] at h;cases hi:P.info? t with
 |none=>rw[hi] at h;cases h
 |some i=>rw[hi] at h;cases h;simp[sizeOf,typeInfo,hi]
def qE{sh:Option Nat}{cs:List Aa}{us:Array Value}{off:Nat}{u:Aa}(vN:FL P t=zz sh)(hr:Bp γ cs us.toList)(h1:∀v∈us.toList,v.oneCell'=zk)
  (hp:FN cs off sh=zz u):∃v,(part t us off).run P w= z4 v w/\BT γ u v:=by
 cases sh with
 |none=>
  let⟨v,hv,hrel⟩:=hr.get hp;refine⟨v,?_,hrel⟩;have DR:us[off]?=zz v:=zv hv
  simp[part,wH vN,DR]
 |some n=>
  let⟨ha,hs⟩:=SE (w:=w) vN;replace hp:(if off+n<=zy cs then zz (Aa.agg ((cs.drop off).take n)) else zx)=zz u:=hp;split at hp
  .cases hp;refine⟨.agg (us.extract off (off+n)),by simp[part,ha,D7 hs],us.extract off (off+n),rfl,?_,?_⟩;.have:=(hr.drop off).take n;simp_all
   .intro v hv;refine h1 v ?_;rw[bH,Lh] at hv;grind
  .cases hp
end
end
end Go.Am
end
section
namespace Go.Am
open Go
section
variable{x y:Aa}{b:Bool}
def ya(h:Mb .b x y=zz b):∃p q,x= .bool p/\y= .bool q/\(p==q)=b:=by unfold Mb at h;grind
def yb(h:Mb .i x y=zz b):∃k p q,x= .int k p/\y= .int k q/\(p==q)=b:=by unfold Mb at h;grind
def yc(h:Mb .s x y=zz b):∃p q,x= .str p/\y= .str q/\(p==q)=b:=by unfold Mb at h;grind
end
def Qi:∀{ks c:List FK} {xs ys:List Aa} {b:Bool},Ek (ks++c) xs ys=zz b->
  ∃b1 b2,Ek ks (xs.take (zy ks)) (ys.take (zy ks))=zz b1/\Ek c (xs.drop (zy ks)) (ys.drop (zy ks))=zz b2/\b=(b1&&b2)
 |[],c,xs,ys,b,h=>⟨zk,b,by simp[Ek],zv h,AH⟩
 |k::ks,c,[],ys,b,h=>by cases ys<;>simp[Ek] at h
 |k::ks,c,x::xs,[],b,h=>by simp[Ek] at h
 |k::ks,c,x::xs,y::ys,b,h=>by
  simp[CQ,Ek] at h;split at h;next e es h1 h2=>cases h;let⟨b1,b2,p,q,r⟩:=Qi h2;refine⟨e&&b1,b2,?_,zv q,by rw[r,Bool.and_assoc]⟩;simp[Bn,cW,Ek,h1,p]
  .cases h
def Qj:∀{ks:List FK} {xs ys:List Aa} {b:Bool},Ek ks xs ys=zz b->zy xs=zy ks/\zy ys=zy ks
 |[],xs,ys,b,h=>by cases xs<;>cases ys<;>simp[Ek] at h⊢
 |k::ks,xs,ys,b,h=>by
  cases xs<;>cases ys<;>simp[Ek] at h;split at h;next h1 h2=>let⟨p,q⟩:=Qj h2;simp[p,q]
  .cases h
section
variable{P:Program}{γ:Gh}{w:World}
def dH:∀{d:Nat} {t:TypeId} {ks:List FK},Qe P d t=zz ks->B7 P t=zz (zy ks)
 |0,t,ks,h=>by cases h
 |d+1,t,ks,h=>by simp[Qe] at h;grind
def wI{ks:List FK}{k:FK}{t:TypeId}(h:(if B7 P t=zz 1 then zz [k] else zx)=zz ks):ks=[k]:=by simp_all
def Hl{t:TypeId}{us:Array Value}{off:Nat}{v:Value}{d:TypeDesc}(hu:P.underlying t=zz d)(h1:∀fs,d≠ .struct fs)(h2:∀n e,d≠ .array n e)(hv:us[off]?=zz v):
  (part t us off).run P w= z4 v w:=by
 have ha:(isAgg t).run P w= z4 zd w:=by simp only[isAgg,Sem.run_bind,run_underlying hu,zn];simp_all
 simp[part,ha,hv]
def Kl{l:List Aa}{off:Nat}{x:Aa}(h:(l.drop off).take 1=[x]):l[off]?=zz x:=by have:=Cj (·[0]?) h;grind
def YC{k:FK}{xs ys:List Aa}{b:Bool}(h:Ek [k] xs ys=zz b):∃x y,xs=[x]/\ys=[y]/\Mb k x y=zz b:=by cases xs<;>cases ys<;>simp[Ek] at h;rename_i x xs y ys;cases xs<;>cases ys<;>simp[Ek] at h;grind
mutual
def qF:∀{d D:Nat},d<=D->∀{t:TypeId} {ks:List FK},Qe P d t=zz ks->∀(us vs:Array Value) (cs ds:List Aa) (off:Nat) (b:Bool),Bp γ cs us.toList->Bp γ ds vs.toList->
  Ek ks ((cs.drop off).take ks.length) ((ds.drop off).take ks.length)=zz b->
  ∃x y,(part t us off).run P w= .ok x w/\(part t vs off).run P w= .ok y w/\(Op.equalIn D t x y).run P w= .ok b w
 |0,_,_,_,_,h=>by cases h
 |d+1,0,hd,_,_,_=>Ab
 |d+1,D+1,hd,t,ks,h=>by
  intro us vs cs ds off b hu hv he;have LC:=dH h;simp only[Qe] at h;split at h;.rename_i dI;have:=wI h;subst this;obtain⟨x,y,m,l,k⟩:=YC he;obtain⟨x',i,g⟩:=hu.get (Kl m);obtain⟨c,f,e⟩:=hv.get (Kl l);refine⟨x',c,Hl dI AH AH (by simpa using i),Hl dI AH AH (by simpa using f),?_⟩;obtain⟨o,n,rfl,rfl,j⟩:=ya k;rw[g,e,run_equalIn_bool' w D t _ _ dI,<-j]
  .rename_i kk dI;have:=wI h;subst this;obtain⟨x,y,m,l,k⟩:=YC he;obtain⟨x',i,g⟩:=hu.get (Kl m);obtain⟨c,f,e⟩:=hv.get (Kl l);refine⟨x',c,Hl dI AH AH (by simpa using i),Hl dI AH AH (by simpa using f),?_⟩;obtain⟨q,o,n,rfl,rfl,j⟩:=yb k;rw[g,e,run_equalIn_int w D t _ _ _ _ dI,<-j]
  .rename_i dI;have:=wI h;subst this;obtain⟨x,y,m,l,k⟩:=YC he;obtain⟨x',i,g⟩:=hu.get (Kl m);obtain⟨c,f,e⟩:=hv.get (Kl l);refine⟨x',c,Hl dI AH AH (by simpa using i),Hl dI AH AH (by simpa using f),?_⟩;obtain⟨o,n,rfl,rfl,j⟩:=yc k;rw[g,e,run_equalIn_string w D t _ _ dI,gT,gT,<-j]
  .rename_i fs dI;split at h
   .rename_i p Gp;split at h
    .rename_i hc;cases h;have vN:FL P t=zz (zz ks.length):=by simp[FL,dI,LC]
     obtain⟨ha,hs⟩:=SE (w:=w) vN;refine⟨.agg (us.extract off (off+ks.length)),.agg (vs.extract off (off+ks.length)),by simp[part,ha,D7 hs],by simp[part,ha,D7 hs],?_⟩;have aNx:P.underlying t=zz (.struct (P.fieldsOf t)):=by simp[Program.fieldsOf,dI]
     rw[run_equalIn_struct w D t _ _ aNx hc.2];have hf:(P.fieldsOf t).toList=fs.toList:=by simp[Program.fieldsOf,dI]
     rw[hf];have vO:Bp γ ((cs.drop off).take ks.length) (us.extract off (off+ks.length)).toList:=by have:=(hu.drop off).take ks.length;simpa[bH,Lh] using this
     have DR:Bp γ ((ds.drop off).take ks.length) (vs.extract off (off+ks.length)).toList:=by have:=(hv.drop off).take ks.length;simpa[bH,Lh] using this
     refine dJ (Nat.le_of_succ_le_succ hd) fs.toList Gp _ _ _ _ _ vO DR ?_;simpa using he
    .cases h
   .cases h
  .cases h
def dJ:∀{d D:Nat},d<=D->∀(fs:List Field) {off:Nat} {ks:List FK},Yp (Qe P d) fs off=zz ks->∀(us vs:Array Value) (cs ds:List Aa) (b:Bool),Bp γ cs us.toList->Bp γ ds vs.toList->
  Ek ks (cs.drop off) (ds.drop off)=zz b->(Op.eqFields D us vs fs).run P w= .ok b w
 |d,D,hd,[],off,ks,h=>by
  intro us vs cs ds b hu hv he;cases h;have:b=true:=by cases h1:cs.drop off<;>cases h2:ds.drop off<;>rw[h1,h2] at he<;>simp[Ek] at he;exact he
  subst this;rfl
 |d,D,hd,f::fs,off,ks,h=>by
  intro us vs cs ds b hu hv he;simp only[Yp] at h;split at h
  .rename_i hc;obtain⟨hn,aIc⟩:=hc;split at h
   .rename_i c bQ;cases hr:Yp (Qe P d) fs (off+c.length) with
    |none=>rw[hr] at h;cases h
    |some j=>
     rw[hr] at h;cases h;obtain⟨b1,b2,l,k,rfl⟩:=Qi he;obtain⟨x,y,i,g,e⟩:=qF hd bQ _ _ _ _ _ _ hu hv l;simp only[Op.eqFields,hn,B3,Ag,BR,aIc,Sem.run_bind,i,g,e,Result.andThen_ok];cases b1;.rfl
     .simp only[gK,CA,EV,gL];exact dJ hd fs hr _ _ _ _ _ hu hv (by simpa[Fi] using k)
   .cases h
  .cases h
end
def qG{op:BinOp}{t:TypeId}{d c:Operand}{neg:Bool}{ks:List FK}{a b:List Aa}{x y:Value}{u:Aa}(OQ:(op= .eql/\neg=zd)\/(op= .neq/\neg=zk))
  (hg:P.eqGuardType P.depth t=zd) (hk:Qe P 20 t=zz ks) (Ia:∃fs,P.underlying t=zz (.struct fs)) (hx:BT γ (.agg a) x) (hy:BT γ (.agg b) y) (h:(Ek ks a b).map (λe=>Aa.bool (e != neg))=zz u):
  ∃v,(do eqGuard op t d c x y;binOp op t x y:Sem Value).run P w= z4 v w/\BT γ u v:=by
 obtain⟨us,rfl,hu,_⟩:=hx;obtain⟨vs,rfl,hv,_⟩:=hy;cases he:Ek ks a b with
 |none=>rw[he] at h;cases h
 |some e=>
  rw[he] at h;cases h;let⟨l1,m⟩:=Qj he;let⟨x',j,i,g,f⟩:=qF (w:=w) (P:=P) (γ:=γ) (D:=10000) (Ab:20<=10000) hk us vs a b 0 e hu hv (by rwa[Nn,Nn,AF (No l1),AF (No m)]);let⟨fs,Gp⟩:=Ia;have vN:FL P t=zz (zz (zy ks)):=by simp[FL,Gp,dH hk]
  let⟨ha,hs⟩:=SE (w:=w) vN;have o:us.extract 0 (zy ks)=us:=by
   have:us.size=zy ks:=by have:=hu.length;simp at this;omega
   rw[<-this];simp
  have n:vs.extract 0 (zy ks)=vs:=by
   have:vs.size=zy ks:=by have:=hv.length;simp at this;omega
   rw[<-this];simp
  have l:x'= .agg us:=by simp[part,ha,D7 hs,o] at i;exact i.symm
  have k:j= .agg vs:=by simp[part,ha,D7 hs,n] at g;exact g.symm
  subst l;subst k;rcases OQ with⟨rfl,rfl⟩|⟨rfl,rfl⟩
  .refine⟨zh e,by simp[run_eqGuard_agg (P:=P) w .eql t d c us vs hg,run_eql_struct,f],?_⟩;show Value.bool e=Value.bool _;cases e<;>rfl
  .refine⟨zh (!e),by simp[run_eqGuard_agg (P:=P) w .neq t d c us vs hg,run_neq_struct,f],?_⟩;show Value.bool _=Value.bool _;cases e<;>rfl
end
end Go.Am
end
