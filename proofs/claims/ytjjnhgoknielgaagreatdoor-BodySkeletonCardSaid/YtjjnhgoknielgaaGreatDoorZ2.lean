/- Lemmas -/
import Derived.Test.YtjjnhgoknielgaaGreatDoorZ1
import Derived.Orders
import Derived.Laws.AppendOwn
import Derived.Laws.StructEq
set_option linter.all false
section
namespace Go.Am
inductive Lb where
 |Nw (id:Nat)
 |loc (s:Nat)
 |tail (s:Nat) (c:Option Nat) (start:Nat)
def Lb.wg:Lb->Bool
 | .Nw _=>true
 |_=>false
structure Gh where
 IQ:Nat->Nat->Option Value
 mu:Nat->Option Nat
 BT:Nat->Option Lb
 sz:Nat->Option Nat
mutual
def BP(γ:Gh):Aa->Value->Prop
 | .bool b,v=>v= .bool b
 | .int k n,v=>v= .int k n
 | .str s,v=>v= .string ⟨⟨s⟩⟩
 | .ptr none,v=>v= .pointer none
 | .ptr (some (id,o)),v=>∃b,γ.mu id=some b/\v= .pointer (some ⟨b,o,none⟩)
 | .B9 cs,v=>∃b o,v= .pointer (some ⟨b,o,none⟩)/\C2 γ cs b o
 | .sl z Ax,v=>∃d cap,v= .slice (some d) Ax.length cap/\Ax.length<=cap/\(d.spot=none\/cap=0)/\Fb γ Ax z d.block d.off
 | .slnil,v=>v= .slice none 0 0
 | .GX _,v=>∃b,v= .slice (some ⟨b,0,none⟩) 0 0
 | .Dn id off len z,v=>∃b cap,γ.mu id=some b/\v= .slice (some ⟨b,off,none⟩) len cap/\len<=cap/\(0<z/\cap<=maxLen)/\γ.sz b=some (off+cap*z)
 | .map none,v=>v= .map none
 | .map (some id),v=>∃b,γ.mu id=some b/\v= .map (some b)
 | .func fn f c,v=>∃fs cs,v= .func fn fs cs/\A8 γ f fs.toList/\A8 γ c cs.toList
 | .nilFunc,v=>v= .nilFunc
 | .iface t a,v=>∃u,v= .iface t u/\BP γ a u
 | .nilIface,v=>v= .nilIface
 | .agg cs,v=>∃us,v= .agg us/\A8 γ cs us.toList/\∀u∈us.toList,u.oneCell'=true
 | .tuple vs,v=>∃us,v= .tuple us/\A8 γ vs us.toList
def A8(γ:Gh):List Aa->List Value->Prop
 |[],us=>us=[]
 |a::l,us=>∃u DR,us=u::DR/\BP γ a u/\A8 γ l DR
def C2(γ:Gh):List Aa->Nat->Nat->Prop
 |[],_,_=>True
 |a::l,b,o=>(∃u,γ.IQ b o=some u/\BP γ a u)/\C2 γ l b (o+1)
def Fb(γ:Gh):List (List Aa)->Nat->Nat->Nat->Prop
 |[],_,_,_=>True
 |r::rs,z,b,o=>r.length=z/\C2 γ r b o/\Fb γ rs z b (o+z)
end
structure Gh.le(γ γ':Gh):Prop where
 IQ:∀b o v,γ.IQ b o=some v->γ'.IQ b o=some v
 mu:∀id b,γ.mu id=some b->γ'.mu id=some b
 sz:∀b n,γ.sz b=some n->γ'.sz b=some n
def Gh.le.refl(γ:Gh):γ.le γ:=⟨λ_ _ _ h=>h,λ_ _ h=>h,λ_ _ h=>h⟩
def Gh.le.trans{a b c:Gh}(h:a.le b)(k:b.le c):a.le c:=⟨λ_ _ _ x=>k.IQ _ _ _ (h.IQ _ _ _ x),λ_ _ x=>k.mu _ _ (h.mu _ _ x),λ_ _ x=>k.sz _ _ (h.sz _ _ x)⟩
mutual
def BP.mono{γ γ':Gh}(EU:γ.le γ'):∀(a:Aa) (v:Value),BP γ a v->BP γ' a v
 | .bool b,v,h=>h
 | .int k n,v,h=>h
 | .str s,v,h=>h
 | .ptr none,v,h=>h
 | .ptr (some (id,o)),v,h=>by obtain⟨b,hb,hv⟩:=h;exact⟨b,EU.mu _ _ hb,hv⟩
 | .B9 cs,v,h=>by obtain⟨b,o,hv,hm⟩:=h;exact⟨b,o,hv,C2.mono EU cs b o hm⟩
 | .sl z Ax,v,h=>by obtain⟨d,cap,hv,hc,hs,hm⟩:=h;exact⟨d,cap,hv,hc,hs,Fb.mono EU Ax z _ _ hm⟩
 | .slnil,v,h=>h
 | .GX _,v,h=>h
 | .Dn id off len z,v,h=>by obtain⟨b,cap,hb,hv,hc,hz,hs⟩:=h;exact⟨b,cap,EU.mu _ _ hb,hv,hc,hz,EU.sz _ _ hs⟩
 | .map none,v,h=>h
 | .map (some id),v,h=>by obtain⟨b,hb,hv⟩:=h;exact⟨b,EU.mu _ _ hb,hv⟩
 | .func fn f c,v,h=>by obtain⟨fs,cs,hv,h1,h2⟩:=h;exact⟨fs,cs,hv,A8.mono EU f _ h1,A8.mono EU c _ h2⟩
 | .nilFunc,v,h=>h
 | .iface t a,v,h=>by obtain⟨u,hv,h1⟩:=h;exact⟨u,hv,BP.mono EU a u h1⟩
 | .nilIface,v,h=>h
 | .agg cs,v,h=>by obtain⟨us,hv,h1,h2⟩:=h;exact⟨us,hv,A8.mono EU cs _ h1,h2⟩
 | .tuple vs,v,h=>by obtain⟨us,hv,h1⟩:=h;exact⟨us,hv,A8.mono EU vs _ h1⟩
def A8.mono{γ γ':Gh}(EU:γ.le γ'):∀(l:List Aa) (us:List Value),A8 γ l us->A8 γ' l us
 |[],us,h=>h
 |a::l,us,h=>by obtain⟨u,DR,hu,h1,h2⟩:=h;exact⟨u,DR,hu,BP.mono EU a u h1,A8.mono EU l DR h2⟩
def C2.mono{γ γ':Gh}(EU:γ.le γ'):∀(l:List Aa) (b o:Nat),C2 γ l b o->C2 γ' l b o
 |[],_,_,_=>trivial
 |a::l,b,o,h=>by obtain⟨⟨u,hu,h1⟩,h2⟩:=h;exact⟨⟨u,EU.IQ _ _ _ hu,BP.mono EU a u h1⟩,C2.mono EU l b (o+1) h2⟩
def Fb.mono{γ γ':Gh}(EU:γ.le γ'):∀(rs:List (List Aa)) (z b o:Nat),Fb γ rs z b o->Fb γ' rs z b o
 |[],_,_,_,_=>trivial
 |r::rs,z,b,o,h=>⟨h.1,C2.mono EU r b o h.2.1,Fb.mono EU rs z b (o+z) h.2.2⟩
end
def A8.length{γ:Gh}:∀{l:List Aa} {us:List Value},A8 γ l us->us.length=l.length
 |[],us,h=>by rw[A8] at h;subst h;rfl
 |a::l,us,h=>by rw[A8] at h;obtain⟨u,DR,rfl,_,h2⟩:=h;simp[h2.length]
def A8.get{γ:Gh}:∀{l:List Aa} {us:List Value},A8 γ l us->∀{i:Nat} {a:Aa},l[i]?=some a->∃u,us[i]?=some u/\BP γ a u
 |[],us,h,i,a,hi=>by simp at hi
 |x::l,us,h,i,a,hi=>by
  rw[A8] at h;obtain⟨u,DR,rfl,h1,h2⟩:=h;cases i with
  |zero=>simp at hi;subst hi;exact⟨u,rfl,h1⟩
  |succ i=>simp at hi;obtain⟨v,hv,hr⟩:=h2.get hi;exact⟨v,by simpa using hv,hr⟩
def A8.Hr{γ:Gh}:∀{l:List Aa} {us:List Value},us.length=l.length->(∀(i:Nat) (a:Aa) (u:Value),l[i]?=some a->us[i]?=some u->BP γ a u)->A8 γ l us
 |[],us,hl,_=>by rw[A8];exact CX hl
 |x::l,[],hl,_=>by simp at hl
 |x::l,u::us,hl,h=>by rw[A8];exact⟨u,us,rfl,h 0 x u rfl rfl,A8.Hr (by simpa using hl) λi a v hi hv=>h (i+1) a v (by simpa using hi) (by simpa using hv)⟩
def A8.append{γ:Gh}:∀{l l':List Aa} {us DR:List Value},A8 γ l us->A8 γ l' DR->A8 γ (l++l') (us++DR)
 |[],l',us,DR,h,h'=>by rw[A8] at h;subst h;simpa using h'
 |a::l,l',us,DR,h,h'=>by rw[A8] at h;obtain⟨u,r,rfl,h1,h2⟩:=h;rw[B8,A8];exact⟨u,r++DR,rfl,h1,h2.append h'⟩
def A8.take{γ:Gh}{l:List Aa}{us:List Value}(h:A8 γ l us)(n:Nat):A8 γ (l.take n) (us.take n):=by
 refine A8.Hr (by simp[h.length]) λi a u hi hu=>?_;rw[CA] at hi hu;split at hi;.rename_i hlt;rw[Af hlt] at hu;obtain⟨v,hv,hr⟩:=h.get hi;rw[hu] at hv;cases hv;exact hr
 .cases hi
def A8.drop{γ:Gh}{l:List Aa}{us:List Value}(h:A8 γ l us)(n:Nat):A8 γ (l.drop n) (us.drop n):=by refine A8.Hr (by simp[h.length]) λi a u hi hu=>?_;rw[CF] at hi hu;obtain⟨v,hv,hr⟩:=h.get hi;rw[hu] at hv;cases hv;exact hr
def C2.get{γ:Gh}:∀{l:List Aa} {b o:Nat},C2 γ l b o->∀{i:Nat} {a:Aa},l[i]?=some a->∃u,γ.IQ b (o+i)=some u/\BP γ a u
 |[],b,o,h,i,a,hi=>by simp at hi
 |x::l,b,o,h,i,a,hi=>by
  rw[C2] at h;obtain⟨⟨u,hu,h1⟩,h2⟩:=h;cases i with
  |zero=>simp at hi;subst hi;exact⟨u,hu,h1⟩
  |succ i=>simp at hi;obtain⟨v,hv,hr⟩:=h2.get hi;exact⟨v,by rw[<-hv];congr 1;omega,hr⟩
def C2.Hr{γ:Gh}:∀{l:List Aa} {b o:Nat},(∀(i:Nat) (a:Aa),l[i]?=some a->∃u,γ.IQ b (o+i)=some u/\BP γ a u)->C2 γ l b o
 |[],b,o,h=>by rw[C2];trivial
 |x::l,b,o,h=>by rw[C2];refine⟨h 0 x rfl,C2.Hr λi a hi=>?_⟩;obtain⟨u,hu,hr⟩:=h (i+1) a (by simpa using hi);exact⟨u,by rw[<-hu];congr 1;omega,hr⟩
def C2.drop{γ:Gh}{l:List Aa}{b o:Nat}(h:C2 γ l b o)(n:Nat):C2 γ (l.drop n) b (o+n):=by refine C2.Hr λi a hi=>?_;rw[CF] at hi;obtain⟨u,hu,hr⟩:=h.get hi;exact⟨u,by rw[<-hu];congr 1;omega,hr⟩
def C2.values{γ:Gh}:∀{l:List Aa} {b o:Nat},C2 γ l b o->∃us:List Value,A8 γ l us/\∀(j:Nat) (u:Value),us[j]?=some u->γ.IQ b (o+j)=some u
 |[],b,o,h=>⟨[],by rw[A8],AB⟩
 |x::l,b,o,h=>by
  rw[C2] at h;obtain⟨⟨u,hu,h1⟩,h2⟩:=h;obtain⟨us,hr,hi⟩:=h2.values;refine⟨u::us,by rw[A8];exact⟨u,us,rfl,h1,hr⟩,λj v hj=>?_⟩;cases j with
  |zero=>simp at hj;subst hj;exact hu
  |succ j=>simp at hj;rw[<-hi j v hj];congr 1;omega
def Fb.get{γ:Gh}:∀{rs:List (List Aa)} {z b o:Nat},Fb γ rs z b o->∀{i:Nat} {r:List Aa},rs[i]?=some r->r.length=z/\C2 γ r b (o+i*z)
 |[],z,b,o,h,i,r,hi=>by simp at hi
 |x::rs,z,b,o,h,i,r,hi=>by
  rw[Fb] at h;cases i with
  |zero=>simp at hi;subst hi;simpa using⟨h.1,h.2.1⟩
  |succ i=>simp at hi;obtain⟨h1,h2⟩:=h.2.2.get hi;exact⟨h1,by rw[show o+(i+1)*z=o+z+i*z by rw[BJ,ER];omega];exact h2⟩
def Fb.Hr{γ:Gh}:∀{rs:List (List Aa)} {z b o:Nat},(∀(i:Nat) (r:List Aa),rs[i]?=some r->r.length=z/\C2 γ r b (o+i*z))->Fb γ rs z b o
 |[],z,b,o,h=>by rw[Fb];trivial
 |x::rs,z,b,o,h=>by rw[Fb];have h0:=h 0 x rfl;refine⟨h0.1,by simpa using h0.2,Fb.Hr λi r hi=>?_⟩;obtain⟨h1,h2⟩:=h (i+1) r (by simpa using hi);exact⟨h1,by rw[show o+z+i*z=o+(i+1)*z by rw[BJ,ER];omega];exact h2⟩
def Fb.length{γ:Gh}:∀{rs:List (List Aa)} {z b o:Nat},Fb γ rs z b o->rs.flatten.length=rs.length*z
 |[],z,b,o,h=>AB
 |x::rs,z,b,o,h=>by rw[Fb] at h;simp[h.1,h.2.2.length,BJ,Qd]
def O5{b:Addr}{n cap:Nat}(hs:b.spot=none\/cap=0)(hc:n<=cap)(hn:0<n):b=⟨b.block,b.off,none⟩:=by
 rcases hs with hs|hs
 .cases b;simp_all
 .omega
def Fb.values{γ:Gh}:∀{rs:List (List Aa)} {z b o:Nat},Fb γ rs z b o->∃us:List Value,A8 γ rs.flatten us/\us.length=rs.length*z/\∀(j:Nat) (u:Value),us[j]?=some u->γ.IQ b (o+j)=some u
 |[],z,b,o,h=>⟨[],by simp[A8],AB,AB⟩
 |x::rs,z,b,o,h=>by
  rw[Fb] at h;obtain⟨us,h1,h2⟩:=h.2.1.values;obtain⟨vs,h3,d,c⟩:=h.2.2.values;have hl:us.length=z:=by rw[h1.length,h.1]
  refine⟨us++vs,by simpa using h1.append h3,by simp[hl,d,BJ,Qd],λj u hj=>?_⟩;rw[aKV] at hj;split at hj;.exact h2 j u hj
  .rename_i IS;rw[<-c _ _ hj];congr 1
   omega
def JO(γ:Gh)(B:Nat)(w:World)(s:Nat)(c:Option Nat)(v:Value)(a:Aa):Prop:=
 (a= .slnil\/∃z,a= .GX z)\/∃g n cap us e z Ax,a= .sl z Ax/\v= .slice (some ⟨g,0,none⟩) n cap/\γ.BT g=some (.tail s c (n*z))/\B<=g/\
  w.heap[g]?=some (.cells us e (0,0))/\us.size=cap*z/\n<=cap/\cap<=maxLen/\0<z
def Mt(γ:Gh)(β:Nat->Nat)(B:Nat)(w:World)(s:Nat):EM->Value->Prop
 | .undef,_=>True
 | .skip,v=>v=undef
 | .val a,v=>BP γ a v
 | .P9 b,v=>v= .bool b
 | .BT a,v=>BP γ a v/\JO γ B w s none v a
 | .box _ cs ow,v=>v= .pointer (some ⟨β s,0,none⟩)/\γ.BT (β s)=some (.loc s)/\B<=β s/\
  ∃us e,w.heap[β s]?=some (.cells us e (0,0))/\A8 γ cs us.toList/\(∀u∈us.toList,u.oneCell'=true)/\
   ∀o∈ow,∃u a,us[o]?=some u/\cs[o]?=some a/\JO γ B w s (some o) u a
 | .Fu s' o,v=>v= .pointer (some ⟨β s',o,none⟩)
structure FR(γ:Gh)(β:Nat->Nat)(B:Nat)(U:BR)(tmps:Array Value)(w:World):Prop where
 size:U.length=tmps.size
 IJ:∀s,Mt γ β B w s (U.at s) (tmps.getD s undef)
def LZ(γ:Gh):List (Aa×Aa)->List MapEntry->Prop
 |[],es=>es=[]
 |(k,v)::l,es=>∃e V4,es=e::V4/\BP γ k e.key/\BP γ v e.val/\LZ γ l V4
def wh(γ:Gh)(l:List (Aa×Aa))(es:Array MapEntry)(clock:Nat):Prop:=
 LZ γ l es.toList/\clock=es.size/\∀(i:Nat) (e:MapEntry),es[i]?=some e->e.born=i
def Uw(fr:Nat×Nat)(n:Nat):Prop:=fr=(0,0)\/n<=fr.1
structure Ic(γ:Gh)(h:Ai)(w:World):Prop where
 IQ:∀b o v,γ.IQ b o=some v->w.cell? ⟨b,o,none⟩=some v/\v.oneCell'=true/\(γ.BT b=none\/∃s c st,γ.BT b=some (.tail s c st)/\o<st)
 Nw:∀id x,h[id]?=some x->x≠ .Ef->∃b,γ.mu id=some b/\γ.BT b=some (.Nw id)
 cells:∀id cs,h[id]?=some (.cells cs)->∀b,γ.mu id=some b->∃us e fr,w.heap[b]?=some (.cells us e fr)/\Uw fr us.size/\A8 γ cs (us.toList.take cs.length)/\∀u∈us.toList.take cs.length,u.oneCell'=true
 map:∀id es,h[id]?=some (.map es)->∀b,γ.mu id=some b->∃Ep clock,w.heap[b]?=some (.map Ep clock)/\wh γ es Ep clock
 mu:∀id b,γ.mu id=some b->id<h.length
 BT:∀b x,γ.BT b=some x->b<w.heap.size
 sz:∀b n,γ.sz b=some n->(∃us e fr,w.heap[b]?=some (.cells us e fr)/\us.size=n)/\(γ.BT b=none\/∃id,γ.BT b=some (.Nw id))
structure M1(γ0:Gh)(w0:World)(γ:Gh)(w:World):Prop where
 le:γ0.le γ
 size:w0.heap.size<=w.heap.size
 os:w.os=w0.os
 tape:w.tape=w0.tape
 output:w.output=w0.output
 O6:∀b,b<w0.heap.size->(∀id,γ0.BT b≠some (.Nw id))->w.heap[b]?=w0.heap[b]?/\γ.BT b=γ0.BT b
def M1.refl(γ:Gh)(w:World):M1 γ w γ w:=⟨.refl _,Ad _,rfl,rfl,rfl,λ_ _ _=>⟨rfl,rfl⟩⟩
def M1.trans{γ0 d c:Gh}{w0 w1 e:World}(h:M1 γ0 w0 d w1)(k:M1 d w1 c e):M1 γ0 w0 c e:=by refine⟨h.le.trans k.le,Bv h.size k.size,k.os.trans h.os,k.tape.trans h.tape,k.output.trans h.output,λb hb hn=>?_⟩;.obtain⟨h1,h2⟩:=h.O6 b hb hn;obtain⟨g,f⟩:=k.O6 b (JI hb h.size) (λid=>by rw[h2];exact hn id);exact⟨g.trans h1,f.trans h2⟩
structure ll(γ:Gh)(w:World)(γ':Gh)(w':World):Prop where
 le:γ.le γ'
 O6:∀b x,γ.BT b=some x->x.wg=false->γ'.BT b=some x/\w'.heap[b]?=w.heap[b]?
def ll.aCR{γ γ':Gh}{h:Ai}{w w':World}(hi:Ic γ h w)(ha:M1 γ w γ' w'):ll γ w γ' w':=by refine⟨ha.le,λb x hb hx=>?_⟩;obtain⟨h1,h2⟩:=ha.O6 b (hi.BT b x hb) (λid Jk=>by rw[hb] at Jk;cases Jk;simp[Lb.wg] at hx);exact⟨h2.trans hb,h1⟩
def JO.kept{γ γ':Gh}{B:Nat}{w w':World}{s:Nat}{c:Option Nat}{v:Value}{a:Aa}(h:JO γ B w s c v a)(k:ll γ w γ' w'):JO γ' B w' s c v a:=by
 rcases h with h|⟨g,n,cap,us,e,z,Ax,h1,h2,h3,j,i,f⟩
 .exact .inl h
 .obtain⟨d,b⟩:=k.O6 g _ h3 rfl;exact .inr ⟨g,n,cap,us,e,z,Ax,h1,h2,d,j,by rw[b];exact i,f⟩
def Mt.kept{γ γ':Gh}{β:Nat->Nat}{B:Nat}{w w':World}{s:Nat}{x:EM}{v:Value}(h:Mt γ β B w s x v)(k:ll γ w γ' w'):Mt γ' β B w' s x v:=by
 cases x with
 |undef=>trivial
 |skip=>exact h
 |val a=>exact BP.mono k.le a v h
 |P9 b=>exact h
 |BT a=>exact⟨BP.mono k.le a v h.1,h.2.kept k⟩
 |box ver cs ow=>obtain⟨h1,h2,h3,us,e,j,i,g,f⟩:=h;obtain⟨d,c⟩:=k.O6 _ _ h2 rfl;exact⟨h1,d,h3,us,e,by rw[c];exact j,A8.mono k.le cs _ i,g,λo ho=>let⟨u,a,p,q,r⟩:=f o ho;⟨u,a,p,q,r.kept k⟩⟩
 |Fu s' o=>exact h
def FR.kept{γ γ':Gh}{β:Nat->Nat}{B:Nat}{U:BR}{tmps:Array Value}{w w':World}(h:FR γ β B U tmps w)(k:ll γ w γ' w'):FR γ' β B U tmps w':=
 ⟨h.size,λs=>(h.IJ s).kept k⟩
end Go.Am
end
section
namespace Go.Am
def CQ{w w':World}{b o:Nat}(h:w'.heap[b]?=w.heap[b]?):w'.cell? ⟨b,o,none⟩=w.cell? ⟨b,o,none⟩:=by simp[World.cell?,h]
def DU{w:World}{b o:Nat}{v:Value}(h:w.cell? ⟨b,o,none⟩=some v):b<w.heap.size:=by
 rcases Bl b w.heap.size with h'|h'
 .exact h'
 .simp[World.cell?,Array.getElem?_eq_none h'] at h
def Ic.aCS{γ:Gh}{h:Ai}{w:World}(hi:Ic γ h w){b o:Nat}{v:Value}(hb:γ.IQ b o=some v):b<w.heap.size:=DU (hi.IQ b o v hb).1
def Ic.same{γ:Gh}{h:Ai}{w w':World}(hi:Ic γ h w)(c:w'.heap=w.heap):Ic γ h w':=by
 refine⟨λb o v hb=>?_,hi.Nw,λid cs hc b hb=>?_,λid es hc b hb=>?_,hi.mu,λb x hx=>?_,λb n hb=>by rw[c];exact hi.sz b n hb⟩;.obtain⟨h1,h2,h3⟩:=hi.IQ b o v hb;have e:=CQ (w:=w) (w':=w') (b:=b) (o:=o) (by rw[c]);exact⟨e.trans h1,h2,h3⟩
 .rw[c];exact hi.cells id cs hc b hb
 .rw[c];exact hi.map id es hc b hb
 .rw[c];exact hi.BT b x hx
def M1.same{γ:Gh}{w w':World}(b:w'.heap=w.heap)(h1:w'.os=w.os)(h2:w'.tape=w.tape)(h3:w'.output=w.output):M1 γ w γ w':=
 ⟨.refl _,by rw[b];exact Ad _,h1,h2,h3,λ_ _ _=>⟨by rw[b],rfl⟩⟩
def M1.drew(γ:Gh)(w:World):M1 γ w γ w.drew:=M1.same rfl rfl rfl rfl
def Gh.Dy(γ:Gh)(b:Nat)(us:Array Value)(k:Nat)(x:Option Lb):Gh:=
 {IQ:=λb' o=>if b'=b then(if o<k then us[o]? else none) else γ.IQ b' o,mu:=γ.mu,BT:=λb'=>if b'=b then x else γ.BT b',sz:=γ.sz}
def Gh.BU(γ:Gh)(b id:Nat)(n:Option Nat):Gh:=
 {IQ:=γ.IQ,mu:=λi=>if i=id then some b else γ.mu i,BT:=λb'=>if b'=b then some (.Nw id) else γ.BT b',sz:=λb'=>if b'=b then n else γ.sz b'}
section
variable{γ:Gh}{h:Ai}{w:World}
def FF(w:World)(o:Obj){b:Nat}(hb:b<w.heap.size):(w.alloc o).heap[b]?=w.heap[b]?:=heap_alloc_old w o b hb
def Qk(hi:Ic γ h w)(us:Array Value)(e:TypeId)(fr:Nat×Nat)(k:Nat)(x:Option Lb)(h1:∀o u,o<k->us[o]?=some u->u.oneCell'=true)
  (hx:x=none\/(∃s c,x=some (.tail s c k))\/(k=0/\∀id,x≠some (.Nw id))):
  Ic (γ.Dy w.heap.size us k x) h (w.alloc (.cells us e fr))/\M1 γ w (γ.Dy w.heap.size us k x) (w.alloc (.cells us e fr)):=by
 have FX:γ.BT w.heap.size=none:=by
  cases hc:γ.BT w.heap.size with
  |none=>rfl
  |some y=>exact absurd (hi.BT _ y hc) (DH _)
 have wj:∀o,γ.IQ w.heap.size o=none:=λo=>by
  cases hc:γ.IQ w.heap.size o with
  |none=>rfl
  |some y=>exact absurd (hi.aCS hc) (DH _)
 have EU:γ.le (γ.Dy w.heap.size us k x):=⟨λb' o' v' K5=>by
  have:b'≠w.heap.size:=λhe=>by rw[he,wj] at K5;cases K5
  simp only[Gh.Dy,Ac this];exact K5,λ_ _ hm=>hm,λ_ _ hm=>hm⟩
 constructor
 .refine⟨λb o v hb=>?_,λid y Jk hy=>?_,λid cs hc b hb=>?_,λid es hc b hb=>?_,hi.mu,λb y hy=>?_,λb n hb=>?_⟩;rotate_left 5;.obtain⟨⟨DR,d,lp,p,q⟩,r⟩:=hi.sz b n hb;have O7:b≠w.heap.size:=Qe (by rw[AQ] at p;exact p.1);exact⟨⟨DR,d,lp,by rw[FF _ _ (by rw[AQ] at p;exact p.1)];exact p,q⟩,by simp only[Gh.Dy,Ac O7];exact r⟩
  .by_cases O7:b=w.heap.size
   .subst O7;simp only[Gh.Dy,BN] at hb⊢;split at hb
    .rename_i hlt;refine⟨by rw[cell_of_row _ _ _ us e fr (heap_alloc_new w _)];exact hb,h1 o v hlt hb,?_⟩;rcases hx with hx|⟨s,c,hx⟩|⟨hx,_⟩
     .exact .inl hx
     .exact .inr ⟨s,c,k,hx,hlt⟩
     .omega
    .cases hb
   .simp only[Gh.Dy,Ac O7] at hb⊢;obtain⟨p,q,r⟩:=hi.IQ b o v hb;exact⟨by rw[CQ (FF w _ (DU p))];exact p,q,r⟩
  .obtain⟨b,p,q⟩:=hi.Nw id y Jk hy;refine⟨b,p,?_⟩;have:b≠w.heap.size:=λhe=>by rw[he,FX] at q;cases q
   simp only[Gh.Dy,Ac this];exact q
  .obtain⟨DR,d,lp,p,pf,q,r⟩:=hi.cells id cs hc b hb;exact⟨DR,d,lp,by rw[FF _ _ (by rw[AQ] at p;exact p.1)];exact p,pf,A8.mono EU cs _ q,r⟩
  .obtain⟨Ep,clock,p,q⟩:=hi.map id es hc b hb;refine⟨Ep,clock,by rw[FF _ _ (by rw[AQ] at p;exact p.1)];exact p,?_,q.2⟩;replace q:=q.1;clear hc p;revert q;generalize Ep.toList=l;intro q;induction es generalizing l with
   |nil=>exact q
   |cons kv es ih=>obtain⟨kk,f⟩:=kv;obtain⟨en,V4,hl,a1,a2,a3⟩:=q;exact⟨en,V4,hl,BP.mono EU _ _ a1,BP.mono EU _ _ a2,ih V4 a3⟩
  .by_cases O7:b=w.heap.size;.subst O7;simp
   .simp only[Gh.Dy,Ac O7] at hy;have:=hi.BT b y hy;simp;omega
 .refine⟨EU,AB,rfl,rfl,rfl,λb hb _=>⟨FF _ _ hb,?_⟩⟩;simp only[Gh.Dy,Ac (Qe hb)]
def LZ.mono{γ γ':Gh}(EU:γ.le γ'):∀{es:List (Aa×Aa)} {l:List MapEntry},LZ γ es l->LZ γ' es l
 |[],l,q=>q
 |(kk,b)::es,l,q=>by obtain⟨en,V4,hl,a1,a2,a3⟩:=q;exact⟨en,V4,hl,BP.mono EU _ _ a1,BP.mono EU _ _ a2,a3.mono EU⟩
def wh.mono{γ γ':Gh}(EU:γ.le γ'){es:List (Aa×Aa)}{l:Array MapEntry}{c:Nat}(h:wh γ es l c):wh γ' es l c:=⟨h.1.mono EU,h.2⟩
def O8(hi:Ic γ h w)(o:Obj)(x:GJ)(m:Option Nat)
  (hx:(∃cs us e fr,x= .cells cs/\o= .cells us e fr/\Uw fr us.size/\A8 γ cs (us.toList.take cs.length)/\(∀u∈us.toList.take cs.length,u.oneCell'=true)/\m=some us.size)\/(x= .map []/\o= .map #[] 0/\m=none)):
  Ic (γ.BU w.heap.size h.length m) (h++[x]) (w.alloc o)/\M1 γ w (γ.BU w.heap.size h.length m) (w.alloc o):=by
 have FX:γ.BT w.heap.size=none:=by
  cases hc:γ.BT w.heap.size with
  |none=>rfl
  |some y=>exact absurd (hi.BT _ y hc) (DH _)
 have c:γ.mu h.length=none:=by
  cases hc:γ.mu h.length with
  |none=>rfl
  |some y=>exact absurd (hi.mu _ y hc) (DH _)
 have Lk:γ.sz w.heap.size=none:=by
  cases hc:γ.sz w.heap.size with
  |none=>rfl
  |some y=>obtain⟨⟨_,_,_,p,_⟩,_⟩:=hi.sz _ y hc;rw[AQ] at p;exact absurd p.1 (DH _)
 have EU:γ.le (γ.BU w.heap.size h.length m):=⟨λ_ _ _ hv=>hv,λid b hm=>by
  have:id≠h.length:=λhe=>by rw[he,c] at hm;cases hm
  simp only[Gh.BU,Ac this];exact hm,λb n hm=>by
  have:b≠w.heap.size:=λhe=>by rw[he,Lk] at hm;cases hm
  simp only[Gh.BU,Ac this];exact hm⟩
 constructor
 .refine⟨λb o' v hb=>?_,λid y Jk hy=>?_,λid cs hc b hb=>?_,λid es hc b hb=>?_,λid b hb=>?_,λb y hy=>?_,λb n hb=>?_⟩;rotate_left 6
  .by_cases O7:b=w.heap.size
   .subst O7;simp only[Gh.BU,BN] at hb;rcases hx with⟨Hp,us,e,fr,rfl,rfl,pf,p,q,rfl⟩|⟨rfl,rfl,rfl⟩
    .cases hb;exact⟨⟨us,e,fr,heap_alloc_new w _,rfl⟩,.inr ⟨h.length,by simp[Gh.BU]⟩⟩
    .cases hb
   .simp only[Gh.BU,Ac O7] at hb⊢;obtain⟨⟨DR,d,lp,p,q⟩,r⟩:=hi.sz b n hb;exact⟨⟨DR,d,lp,by rw[FF _ _ (by rw[AQ] at p;exact p.1)];exact p,q⟩,r⟩
  .obtain⟨p,q,r⟩:=hi.IQ b o' v hb;have O7:b≠w.heap.size:=Qe (DU p);exact⟨by rw[World.cell?_alloc_old _ _ _ O7];exact p,q,by simp only[Gh.BU,Ac O7];exact r⟩
  .by_cases he:id=h.length;.exact⟨w.heap.size,by simp[Gh.BU,he],by simp[Gh.BU,he]⟩
   .have XB:id<h.length:=by rw[Aj] at Jk;obtain⟨hl,_⟩:=Jk;simp at hl;omega
    rw[Al XB] at Jk;obtain⟨b,p,q⟩:=hi.Nw id y Jk hy;have O7:b≠w.heap.size:=λhe=>by rw[he,FX] at q;cases q
    exact⟨b,by simp only[Gh.BU,Ac he];exact p,by simp only[Gh.BU,Ac O7];exact q⟩
  .by_cases he:id=h.length
   .subst he;simp[Gh.BU] at hb;subst hb;simp at hc;rcases hx with⟨Hp,us,e,fr,rfl,rfl,pf,p,q,rfl⟩|⟨rfl,rfl,rfl⟩
    .cases hc;exact⟨us,e,fr,heap_alloc_new w _,pf,A8.mono EU _ _ p,q⟩
    .cases hc
   .simp only[Gh.BU,Ac he] at hb;have XB:=hi.mu id b hb;rw[Al XB] at hc;obtain⟨DR,d,lp,p,pf,q,r⟩:=hi.cells id cs hc b hb;exact⟨DR,d,lp,by rw[FF _ _ (by rw[AQ] at p;exact p.1)];exact p,pf,A8.mono EU _ _ q,r⟩
  .by_cases he:id=h.length
   .subst he;simp[Gh.BU] at hb;subst hb;simp at hc;rcases hx with⟨Hp,us,e,fr,rfl,rfl,pf,p,q,rfl⟩|⟨rfl,rfl,rfl⟩
    .cases hc
    .cases hc;exact⟨#[],0,heap_alloc_new w _,rfl,rfl,AB⟩
   .simp only[Gh.BU,Ac he] at hb;have XB:=hi.mu id b hb;rw[Al XB] at hc;obtain⟨Ep,clock,p,q⟩:=hi.map id es hc b hb;exact⟨Ep,clock,by rw[FF _ _ (by rw[AQ] at p;exact p.1)];exact p,q.mono EU⟩
  .by_cases he:id=h.length;.simp[he]
   .simp only[Gh.BU,Ac he] at hb;have:=hi.mu id b hb;simp;omega
  .by_cases O7:b=w.heap.size;.subst O7;simp
   .simp only[Gh.BU,Ac O7] at hy;have:=hi.BT b y hy;simp;omega
 .refine⟨EU,AB,rfl,rfl,rfl,λb hb _=>⟨FF _ _ hb,?_⟩⟩;simp only[Gh.BU,Ac (Qe hb)]
def lq(hi:Ic γ h w){g s:Nat}(hg:γ.BT g=some (.loc s))(us:Array Value):Ic γ h (w.setRow g us):=by
 refine⟨λb o v hb=>?_,hi.Nw,λid cs hc b hb=>?_,λid es hc b hb=>?_,hi.mu,λb x hx=>?_,λb n hb=>?_⟩;rotate_left 4
 .obtain⟨p,r⟩:=hi.sz b n hb;have:b≠g:=λhe=>by subst he;rw[hg] at r;rcases r with r|⟨_,r⟩<;>cases r
  exact⟨by rw[setRow_other w g b us this];exact p,r⟩
 .obtain⟨p,q,r⟩:=hi.IQ b o v hb;have:b≠g:=λhe=>by subst he;rw[hg] at r;rcases r with r|⟨_,_,_,r,_⟩<;>cases r
  exact⟨by rw[CQ (setRow_other w g b us this)];exact p,q,r⟩
 .have Se:b≠g:=λhe=>by subst he;obtain⟨b',p,q⟩:=hi.Nw id _ hc AB;rw[hb] at p;cases p;rw[hg] at q;cases q
  rw[setRow_other w g b us Se];exact hi.cells id cs hc b hb
 .have Se:b≠g:=λhe=>by subst he;obtain⟨b',p,q⟩:=hi.Nw id _ hc AB;rw[hb] at p;cases p;rw[hg] at q;cases q
  rw[setRow_other w g b us Se];exact hi.map id es hc b hb
 .have:=hi.BT b x hx;simpa[World.setRow] using this
def Oj(hi:Ic γ h w){g id:Nat}{cs:List Aa}(hcs:h[id]?=some (.cells cs))(hg:γ.mu id=some g){us:Array Value}{e:TypeId}{fr:Nat×Nat}(hw:w.heap[g]?=some (.cells us e fr))(DR:Array Value)(Hp:List Aa)(bD:DR.size=us.size)(XC:Uw fr DR.size)
  (hr:A8 γ Hp (DR.toList.take Hp.length)) (h1:∀u∈DR.toList.take Hp.length,u.oneCell'=true):
  Ic γ (h.set id (.cells Hp)) (w.setRow g DR)/\M1 γ w γ (w.setRow g DR):=by
 obtain⟨f,p,Ul⟩:=hi.Nw id _ hcs AB;rw[hg] at p;cases p;have uniq:∀F9 x,h[F9]?=some x->x≠ .Ef->γ.mu F9=some g->F9=id:=λF9 x hx c hm=>by obtain⟨b',p,q⟩:=hi.Nw F9 x hx c;rw[hm] at p;cases p;rw[Ul] at q;cases q;rfl
 constructor
 .refine⟨λb o v hb=>?_,λF9 y Jk hy=>?_,λF9 cs hc b hb=>?_,λF9 es hc b hb=>?_,λF9 b hb=>by simpa using hi.mu F9 b hb,λb x hx=>?_,λb n hb=>?_⟩;rotate_left 5
  .obtain⟨⟨qR,d,wk,p,q⟩,r⟩:=hi.sz b n hb;by_cases he:b=g;.subst he;rw[hw] at p;cases p;exact⟨⟨DR,e,fr,setRow_heap w b us DR e fr hw,by rw[bD];exact q⟩,r⟩
   .exact⟨⟨qR,d,wk,by rw[setRow_other w g b DR he];exact p,q⟩,r⟩
  .obtain⟨p,q,r⟩:=hi.IQ b o v hb;have:b≠g:=λhe=>by subst he;rw[Ul] at r;rcases r with r|⟨_,_,_,r,_⟩<;>cases r
   exact⟨by rw[CQ (setRow_other w g b DR this)];exact p,q,r⟩
  .by_cases he:F9=id;.subst he;exact⟨g,hg,Ul⟩
   .rw[Aq (λx=>he x.symm)] at Jk;exact hi.Nw F9 y Jk hy
  .by_cases he:F9=id;.subst he;rw[hg] at hb;cases hb;rw[AI (hi.mu _ _ hg)] at hc;cases hc;exact⟨DR,e,fr,setRow_heap w g us DR e fr hw,XC,hr,h1⟩
   .rw[Aq (λx=>he x.symm)] at hc;have Se:b≠g:=λhx=>by subst hx;exact he (uniq F9 _ hc AB hb)
    rw[setRow_other w g b DR Se];exact hi.cells F9 cs hc b hb
  .by_cases he:F9=id;.subst he;rw[AI (hi.mu _ _ hg)] at hc;cases hc
   .rw[Aq (λx=>he x.symm)] at hc;have Se:b≠g:=λhx=>by subst hx;exact he (uniq F9 _ hc AB hb)
    rw[setRow_other w g b DR Se];exact hi.map F9 es hc b hb
  .have:=hi.BT b x hx;simpa[World.setRow] using this
 .refine⟨.refl _,by simp[World.setRow],rfl,rfl,rfl,λb hb hn=>⟨?_,rfl⟩⟩;exact setRow_other w g b DR (λhe=>by subst he;exact hn id Ul)
def qS(hi:Ic γ h w){g s st:Nat}{c:Option Nat}(hg:γ.BT g=some (.tail s c st)){us:Array Value}{e:TypeId}(hw:w.heap[g]?=some (.cells us e (0,0)))(DR:Array Value)(k:Nat)(s':Nat)(c':Option Nat)
  (Ok:∀o,o<st->DR[o]?=us[o]?) (hk:st<=k) (h1:∀o u,o<k->DR[o]?=some u->u.oneCell'=true) (Ny:∀o v,γ.IQ g o=some v->us[o]?=some v):
  Ic (γ.Dy g DR k (some (.tail s' c' k))) h (w.setRow g DR)/\γ.le (γ.Dy g DR k (some (.tail s' c' k))):=by
 have hlt:∀o v,γ.IQ g o=some v->o<st:=λo v ho=>by
  obtain⟨_,_,r⟩:=hi.IQ g o v ho;rw[hg] at r;rcases r with r|⟨_,_,_,r,hl⟩
  .cases r
  .cases r;exact hl
 have EU:γ.le (γ.Dy g DR k (some (.tail s' c' k))):=⟨λb o v hb=>by
  by_cases he:b=g;.subst he;have:=hlt o v hb;simp only[Gh.Dy,BN,Af (JI this hk)];rw[Ok o this];exact Ny o v hb
  .simp only[Gh.Dy,Ac he];exact hb,λ_ _ hm=>hm,λ_ _ hm=>hm⟩
 refine⟨⟨λb o v hb=>?_,λid y Jk hy=>?_,λid cs hc b hb=>?_,λid es hc b hb=>?_,hi.mu,λb x hx=>?_,λb n hb=>?_⟩,EU⟩;rotate_left 5
 .obtain⟨p,r⟩:=hi.sz b n hb;have:b≠g:=λhe=>by subst he;rw[hg] at r;rcases r with r|⟨_,r⟩<;>cases r
  exact⟨by rw[setRow_other w g b DR this];exact p,by simp only[Gh.Dy,Ac this];exact r⟩
 .by_cases he:b=g
  .subst he;simp only[Gh.Dy,BN] at hb⊢;split at hb
   .rename_i hl;exact⟨by rw[cell_of_row _ _ _ DR e (0,0) (setRow_heap w b us DR e (0,0) hw)];exact hb,
     h1 o v hl hb,.inr ⟨s',c',k,rfl,hl⟩⟩
   .cases hb
  .simp only[Gh.Dy,Ac he] at hb⊢;obtain⟨p,q,r⟩:=hi.IQ b o v hb;exact⟨by rw[CQ (setRow_other w g b DR he)];exact p,q,r⟩
 .obtain⟨b,p,q⟩:=hi.Nw id y Jk hy;have:b≠g:=λhe=>by subst he;rw[hg] at q;cases q
  exact⟨b,p,by simp only[Gh.Dy,Ac this];exact q⟩
 .replace hb:γ.mu id=some b:=hb;obtain⟨b',p,q⟩:=hi.Nw id _ hc AB;rw[hb] at p;cases p;have:b≠g:=λhe=>by subst he;rw[hg] at q;cases q
  rw[setRow_other w g b DR this];obtain⟨qR,j,wk,i,f,d,r2⟩:=hi.cells id cs hc b hb;exact⟨qR,j,wk,i,f,A8.mono EU _ _ d,r2⟩
 .replace hb:γ.mu id=some b:=hb;obtain⟨b',p,q⟩:=hi.Nw id _ hc AB;rw[hb] at p;cases p;have:b≠g:=λhe=>by subst he;rw[hg] at q;cases q
  rw[setRow_other w g b DR this];obtain⟨Ep,clock,i,d⟩:=hi.map id es hc b hb;exact⟨Ep,clock,i,d.mono EU⟩
 .by_cases he:b=g;.subst he;have:=hi.BT b _ hg;simpa[World.setRow] using this
  .simp only[Gh.Dy,Ac he] at hx;have:=hi.BT b x hx;simpa[World.setRow] using this
def M1.write{γ0 c:Gh}{w0:World}(ha:M1 γ0 w0 γ w){w1:World}{g:Nat}(hg:w0.heap.size<=g)(EU:γ.le c)(hs:w1.heap.size=w.heap.size)(h1:w1.os=w.os)(h2:w1.tape=w.tape)(h3:w1.output=w.output)
  (hk:∀b,b≠g->w1.heap[b]?=w.heap[b]?/\c.BT b=γ.BT b):M1 γ0 w0 c w1:=by
 refine⟨ha.le.trans EU,by rw[hs];exact ha.size,h1.trans ha.os,h2.trans ha.tape,h3.trans ha.output,λb hb hn=>?_⟩;.obtain⟨p,q⟩:=ha.O6 b hb hn;obtain⟨p',d⟩:=hk b Ab;exact⟨p'.trans p,d.trans q⟩
def wm(hi:Ic γ h w){g id:Nat}{cs:List Aa}(hcs:h[id]?=some (.cells cs))(hg:γ.mu id=some g){us:Array Value}{e:TypeId}{fr:Nat×Nat}(hw:w.heap[g]?=some (.cells us e fr))(h1:∀u∈us.toList.take cs.length,u.oneCell'=true):
  Ic (γ.Dy g us cs.length none) (h.set id .Ef) w/\M1 γ w (γ.Dy g us cs.length none) w:=by
 obtain⟨f,p,Ul⟩:=hi.Nw id _ hcs AB;rw[hg] at p;cases p;have uniq:∀F9 x,h[F9]?=some x->x≠ .Ef->γ.mu F9=some g->F9=id:=λF9 x hx c hm=>by obtain⟨b',p,q⟩:=hi.Nw F9 x hx c;rw[hm] at p;cases p;rw[Ul] at q;cases q;rfl
 have hne:∀o v,γ.IQ g o=some v->False:=λo v hv=>by obtain⟨_,_,r⟩:=hi.IQ g o v hv;rw[Ul] at r;rcases r with r|⟨_,_,_,r,_⟩<;>cases r
 have EU:γ.le (γ.Dy g us cs.length none):=⟨λb o v hb=>by
  have:b≠g:=λhe=>by subst he;exact hne o v hb
  simp only[Gh.Dy,Ac this];exact hb,λ_ _ hm=>hm,λ_ _ hm=>hm⟩
 constructor
 .refine⟨λb o v hb=>?_,λF9 y Jk hy=>?_,λF9 Hp hc b hb=>?_,λF9 es hc b hb=>?_,λF9 b hb=>by simpa using hi.mu F9 b hb,λb x hx=>?_,λb n hb=>?_⟩;rotate_left 5
  .obtain⟨p,r⟩:=hi.sz b n hb;by_cases he:b=g;.subst he;exact⟨p,.inl (by simp[Gh.Dy])⟩
   .exact⟨p,by simp only[Gh.Dy,Ac he];exact r⟩
  .by_cases he:b=g
   .subst he;simp only[Gh.Dy,BN] at hb⊢;split at hb;.rename_i hlt;exact⟨by rw[cell_of_row _ _ _ us e fr hw];exact hb,h1 v (CH (i:=o) (by rw[CM hlt];simpa using hb)),.inl AB⟩
    .cases hb
   .simp only[Gh.Dy,Ac he] at hb⊢;exact hi.IQ b o v hb
  .by_cases he:F9=id;.subst he;rw[AI (hi.mu _ _ hg)] at Jk;cases Jk;exact absurd rfl hy
   .rw[Aq (λx=>he x.symm)] at Jk;obtain⟨b,p,q⟩:=hi.Nw F9 y Jk hy;have:b≠g:=λhx=>by subst hx;exact he (uniq F9 y Jk hy p)
    exact⟨b,p,by simp only[Gh.Dy,Ac this];exact q⟩
  .by_cases he:F9=id;.subst he;rw[AI (hi.mu _ _ hg)] at hc;cases hc
   .rw[Aq (λx=>he x.symm)] at hc;obtain⟨DR,d,lp,p,pf,q,r⟩:=hi.cells F9 Hp hc b hb;exact⟨DR,d,lp,p,pf,A8.mono EU _ _ q,r⟩
  .by_cases he:F9=id;.subst he;rw[AI (hi.mu _ _ hg)] at hc;cases hc
   .rw[Aq (λx=>he x.symm)] at hc;obtain⟨DR,d,p,q⟩:=hi.map F9 es hc b hb;exact⟨DR,d,p,q.mono EU⟩
  .by_cases he:b=g;.subst he;exact hi.BT b _ Ul
   .simp only[Gh.Dy,Ac he] at hx;exact hi.BT b x hx
 .refine⟨EU,Ad _,rfl,rfl,rfl,λb hb hn=>⟨rfl,?_⟩⟩;have:b≠g:=λhe=>by subst he;exact hn id Ul
  simp only[Gh.Dy,Ac this]
end
end Go.Am
end
section
namespace Go.Am
def EW.Ol(C:Gj)(run:IT->Ai->Option Ku)(U:BR)(h:Ai)(e:BR)(h':Ai):EW->Prop
 | .pure ws=>e=U.EX ws/\h'=h
 | .op p args dst BT i=>∃v,AH p args=some v/\e=(U.DT i).put dst (if BT then .BT v else .val v)/\h'=h
 | .box n v d=>v.cells.length=n/\e=U.set d (.box 0 v.cells [])/\h'=h
 | .closure fn a b fz d=>e=(U.EX (fz.map λ(s,cs)=>(s,.val (.B9 cs)))).set d (.val (.func fn a b))/\h'=h
 | .N3 s off n v BT i ver cells owned=>v.cells.length=n/\e=(U.DT i).set s (.box (ver+1) (Xv cells off n v.cells) (S4 owned off n BT))/\h'=h
 | .load n p dst=>∃v,Bn h n p=some v/\e=U.put dst (.val v)/\h'=h
 | .store n p v=>C9 h n p v=some h'/\e=U
 | .alloc n v dst=>v.cells.length=n/\h'=h++[.cells v.cells]/\e=U.put dst (.val (.ptr (some (h.length,0))))
 | .call f args dst=>∃r,run (Cd C f args) h=some (.ret,[r],h')/\e=U.put dst (if C.KC f then .BT r else .val r)
 | .EG g args dst=>∃f args' r,CN g args=some (f,args')/\run (Cd C f args') h=some (.ret,[r],h')/\e=U.put dst (.val r)
 | .BH f args dst=>args.all Aa.Nx=true/\∃r h1,run (Cd C f args) []=some (.ret,[r],h1)/\r.Nx=true/\e=U.put dst (.val r)/\h'=h
 | .Og dst=>h'=h++[.map []]/\e=U.put dst (.val (.map (some h.length)))
 | .Ig m k v=>RN h m k v=some h'/\e=U
 | .make z b zero l c dst=>∃v,Xo h z b zero l c=some (h',v)/\e=U.put dst (.val v)
 | .Kf z b s x dst i=>∃v,Lf h z b s x=some (h',v)/\e=(U.DT i).put dst (.val v)
 | .GL z b s x dst=>∃v,GZ h z b s x=some (h',v)/\e=U.put dst (.val v)
 | .GI z b s x dst i=>∃v,RO h z b s x=some v/\e=(U.DT i).put dst (.BT v)/\h'=h
 | .Fi s dst=>∃v,Jm h s=some (h',v)/\e=U.put dst (.val v)
 | .ZM s dst=>∃v u,LW h s=some (h',v)/\AH .ZM [v]=some u/\e=U.put dst (.val u)
 | .mem o args dst=>∃v,Eu o h args=some (h',v)/\e=U.put dst (if o.eD then .undef else .val v)
 | .MY z ok m k dst=>∃v,PV h z ok m k=some v/\e=U.put dst (.val v)/\h'=h
def Ux{n:Nat}{cs:List Aa}(h:cs.length=n):Xu n cs=cs:=by
 subst h;apply R7;intro i;simp only[Xu,Dm,List.getD];by_cases hi:i<cs.length;.simp[List.getElem?_range hi,Av hi]
 .simp[hi]
def bE{C:Gj}{run:IT->Ai->Option Ku}{U:BR}{K:BR->IT}{h:Ai}{R:Ku}{r:EW}
  (hr:IT.step (Cd C) run (r.M0 C U K) h=some R):∃i h',r.Ol C run U h i h'/\IT.step (Cd C) run (K i) h'=some R:=by
 cases r with
 |pure ws=>exact⟨_,_,⟨rfl,rfl⟩,hr⟩
 |op p args dst BT e=>
  simp only[EW.M0,IT.step] at hr;split at hr;.rename_i v hv;exact⟨_,_,⟨v,hv,rfl,rfl⟩,hr⟩
  .cases hr
 |box n v d=>
  simp only[EW.M0,IT.step] at hr;split at hr;.rename_i hn;rw[Ux hn] at hr;exact⟨_,_,⟨hn,rfl,rfl⟩,hr⟩
  .cases hr
 |closure fn a b fz d=>exact⟨_,_,⟨rfl,rfl⟩,hr⟩
 |N3 s off n v BT e ver cells owned=>
  simp only[EW.M0,IT.step] at hr;split at hr;.rename_i hn;rw[Ux hn] at hr;exact⟨_,_,⟨hn,rfl,rfl⟩,hr⟩
  .cases hr
 |load n p dst=>
  simp only[EW.M0,IT.step] at hr;split at hr;.rename_i v hv;exact⟨_,_,⟨v,hv,rfl,rfl⟩,hr⟩
  .cases hr
 |store n p v=>
  simp only[EW.M0,IT.step] at hr;split at hr;.rename_i h1 hv;exact⟨_,_,⟨hv,rfl⟩,hr⟩
  .cases hr
 |alloc n v dst=>
  simp only[EW.M0,IT.step,Xn] at hr;by_cases hn:v.cells.length=n;.rw[Af hn] at hr;exact⟨_,_,⟨hn,rfl,rfl⟩,hr⟩
  .rw[Ac hn] at hr;cases hr
 |call f args dst=>
  simp only[EW.M0,IT.step] at hr;split at hr;.rename_i r h1 hv;exact⟨_,_,⟨r,hv,rfl⟩,hr⟩
  .cases hr
 |EG g args dst=>
  simp only[EW.M0,IT.step] at hr;split at hr
  .rename_i f a' ht;split at hr;.rename_i r h1 hv;exact⟨_,_,⟨f,a',r,ht,hv,rfl⟩,hr⟩
   .cases hr
  .cases hr
 |BH f args dst=>
  simp only[EW.M0,IT.step] at hr;split at hr
  .rename_i Jj;split at hr
   .rename_i r h1 hv;split at hr;.rename_i ub;exact⟨_,_,⟨Jj,r,h1,hv,ub,rfl,rfl⟩,hr⟩
    .cases hr
   .cases hr
  .cases hr
 |Og dst=>exact⟨_,_,⟨rfl,rfl⟩,hr⟩
 |Ig m k v=>
  simp only[EW.M0,IT.step] at hr;split at hr;.rename_i h1 hv;exact⟨_,_,⟨hv,rfl⟩,hr⟩
  .cases hr
 |MY z ok m k dst=>
  simp only[EW.M0,IT.step] at hr;split at hr;.rename_i v hv;exact⟨_,_,⟨v,hv,rfl,rfl⟩,hr⟩
  .cases hr
 |make z b zero l c dst=>
  simp only[EW.M0,IT.step] at hr;split at hr;.rename_i h1 v hv;exact⟨_,_,⟨v,hv,rfl⟩,hr⟩
  .cases hr
 |Kf z b s x dst e=>
  simp only[EW.M0,IT.step] at hr;split at hr;.rename_i h1 v hv;exact⟨_,_,⟨v,hv,rfl⟩,hr⟩
  .cases hr
 |GL z b s x dst=>
  simp only[EW.M0,IT.step] at hr;split at hr;.rename_i h1 v hv;exact⟨_,_,⟨v,hv,rfl⟩,hr⟩
  .cases hr
 |GI z b s x dst e=>
  simp only[EW.M0,IT.step] at hr;split at hr;.rename_i v hv;exact⟨_,_,⟨v,hv,rfl,rfl⟩,hr⟩
  .cases hr
 |Fi s dst=>
  simp only[EW.M0,IT.step] at hr;split at hr;.rename_i h1 v hv;exact⟨_,_,⟨v,hv,rfl⟩,hr⟩
  .cases hr
 |ZM s dst=>
  simp only[EW.M0,IT.step] at hr;split at hr
  .rename_i h1 v hv;split at hr;.rename_i u hu;exact⟨_,_,⟨v,u,hv,hu,rfl⟩,hr⟩
   .cases hr
  .cases hr
 |mem o args dst=>
  simp only[EW.M0,IT.step] at hr;split at hr;.rename_i h1 v hv;exact⟨_,_,⟨v,hv,rfl⟩,hr⟩
  .cases hr
structure Db(C:Gj)(γ0:Gh)(w0:World)(γ:Gh)(β:Nat->Nat)(U:BR)(h:Ai)(a:Act)(w:World):Prop where
 Ee:Ic γ h w
 fr:FR γ β w0.heap.size U a.tmps w
 D7:M1 γ0 w0 γ w
 defers:a.defers=[]
 HB:∀g cs,C.HB g=some cs->C2 γ cs g 0
def S8{γ:Gh}{v:Value}{a:Aa}(h:Qg v=some a):BP γ a v/\v.oneCell'=true:=by
 unfold Qg at h;split at h;case h_7=>
  rename_i fn f c;split at h;.rename_i hs;cases h;have d:f=#[]:=Je hs.1;have b:c=#[]:=Je hs.2;subst d;subst b;exact⟨⟨#[],#[],rfl,rfl,rfl⟩,rfl⟩
  .cases h
 all_goals first
  |(cases h;exact⟨rfl,rfl⟩)
  |cases h
def N5{γ:Gh}:∀{vs:List Value} {as:List Aa},MQ vs=some as->A8 γ as vs/\∀v∈vs,v.oneCell'=true
 |[],as,h=>by cases h;exact⟨rfl,AB⟩
 |v::vs,as,h=>by
  unfold MQ at h;split at h;.rename_i a c h1 h2;cases h;obtain⟨p,q⟩:=S8 (γ:=γ) h1;obtain⟨p',b⟩:=N5 (γ:=γ) h2;exact⟨⟨v,vs,rfl,p,p'⟩,λx hx=>(AE.1 hx).elim (λe=>by rw[e];exact q) (b x)⟩
  .cases h
def FI{γ:Gh}{v:Value}{a:Aa}(h:LM v=some a):BP γ a v:=by
 unfold LM at h;split at h
 .rename_i cs;cases hs:MQ cs.toList with
  |none=>rw[hs] at h;cases h
  |some as=>rw[hs] at h;cases h;obtain⟨p,q⟩:=N5 (γ:=γ) hs;exact⟨cs,rfl,p,q⟩
 .exact(S8 h).1
section
variable{C:Gj}{γ0 γ:Gh}{w0 w:World}{β:Nat->Nat}{U:BR}{h:Ai}{a:Act}
def Sf(hr:Db C γ0 w0 γ β U h a w){x:Operand}{sl:EM}(hx:Eo C U x=some sl)(hn:∀s,x≠ .tmp s):∃s,Mt γ β w0.heap.size w s sl (a.eval x):=by
 unfold Eo at hx;split at hx;.exact absurd rfl (hn _)
 .cases hx;exact⟨0,rfl⟩
 .cases hx;exact⟨0,rfl,.inl (.inl rfl)⟩
 .rename_i v _ _;cases hc:LM v with
  |none=>rw[hc] at hx;cases hx
  |some u=>rw[hc] at hx;cases hx;exact⟨0,FI hc⟩
 .rename_i g;cases hc:C.HB g with
  |none=>rw[hc] at hx;cases hx
  |some cs=>rw[hc] at hx;cases hx;exact⟨0,g,0,rfl,hr.HB g cs hc⟩
 .cases hx;exact⟨0,#[],#[],rfl,rfl,rfl⟩
def S9(hr:Db C γ0 w0 γ β U h a w)(s:Nat):Mt γ β w0.heap.size w s (U.at s) (a.eval (.tmp s)):=hr.fr.IJ s
def Gx(hr:Db C γ0 w0 γ β U h a w){x:Operand}{sl:EM}(hx:Eo C U x=some sl):∃s,Mt γ β w0.heap.size w s sl (a.eval x)/\∀t,x= .tmp t->s=t:=by
 cases x with
 |tmp t=>cases hx;exact⟨t,S9 hr t,λ_ h=>by cases h;rfl⟩
 |const v=>obtain⟨s,h1⟩:=Sf hr hx (by intro s h;cases h);exact⟨s,h1,λ_ h=>by cases h⟩
 |global g=>obtain⟨s,h1⟩:=Sf hr hx (by intro s h;cases h);exact⟨s,h1,λ_ h=>by cases h⟩
 |func f=>obtain⟨s,h1⟩:=Sf hr hx (by intro s h;cases h);exact⟨s,h1,λ_ h=>by cases h⟩
def Om{B s:Nat}{sl:EM}{v:Value}{u:Aa}(hs:Mt γ β B w s sl v)(hv:sl.HH=some u):BP γ u v:=by
 cases sl<;>simp[EM.HH] at hv;.subst hv;exact hs
 .subst hv;exact hs
 .subst hv;exact hs.1
def GU(hr:Db C γ0 w0 γ β U h a w){x:Operand}{u:Aa}(hx:Fa C U x=some u):BP γ u (a.eval x):=by
 unfold Fa at hx;cases hs:Eo C U x with
 |none=>rw[hs] at hx;cases hx
 |some sl=>rw[hs] at hx;obtain⟨s,h1,_⟩:=Gx hr hs;exact Om h1 hx
def D8(hr:Db C γ0 w0 γ β U h a w):∀{xs:List Operand} {us:List Aa},Bs C U xs=some us->A8 γ us (xs.map a.eval)
 |[],us,hx=>by cases hx;rfl
 |x::xs,us,hx=>by
  unfold Bs at hx;split at hx;.rename_i u DR h1 h2;cases hx;exact⟨_,_,rfl,GU hr h1,D8 hr h2⟩
  .cases hx
def FR.put{B:Nat}{tmps:Array Value}(hf:FR γ β B U tmps w){d:Nat}{x:EM}{v:Value}(hx:Mt γ β B w d x v):FR γ β B (U.set d x) (tmps.setIfInBounds d v) w:=by
 refine⟨by simp[hf.size],λs=>?_⟩;have hs:=hf.IJ s;by_cases he:s=d
 .subst he;by_cases hl:s<U.length
  .have Ň:s<tmps.size:=by rw[<-hf.size];exact hl
   simpa[BR.at,List.getD,hl,Ň,Array.getD] using hx
  .have Ň:¬s<tmps.size:=by rw[<-hf.size];exact hl
   simpa[BR.at,List.getD,hl,Ň,Array.getD] using hs
 .have h1:BR.at (U.set d x) s=U.at s:=by simp[BR.at,List.getD,Aq (λe=>he e.symm)]
  have h2:(tmps.setIfInBounds d v).getD s undef=tmps.getD s undef:=by simp[Hw,qN (λe=>he e.symm)]
  rw[h1,h2];exact hs
def FR.lT{B:Nat}{tmps:Array Value}(hf:FR γ β B U tmps w){d:Nat}{x:EM}(hx:Mt γ β B w d x (tmps.getD d undef)):FR γ β B (U.set d x) tmps w:=by
 refine⟨by simp[hf.size],λs=>?_⟩;have hs:=hf.IJ s;by_cases he:s=d
 .subst he;by_cases hl:s<U.length;.simpa[BR.at,List.getD,hl] using hx
  .simpa[BR.at,List.getD,hl] using hs
 .have h1:BR.at (U.set d x) s=U.at s:=by simp[BR.at,List.getD,Aq (λe=>he e.symm)]
  rw[h1];exact hs
def Db.put(hr:Db C γ0 w0 γ β U h a w){d:Option Nat}{x:EM}{v:Value}(hx:∀s,d=some s->Mt γ β w0.heap.size w s x v):Db C γ0 w0 γ β (U.put d x) h (a.put d v) w:=by
 cases d with
 |none=>exact hr
 |some d=>exact⟨hr.Ee,hr.fr.put (hx d rfl),hr.D7,hr.defers,hr.HB⟩
def Db.lT(hr:Db C γ0 w0 γ β U h a w){d:Nat}{x:EM}(hx:Mt γ β w0.heap.size w d x (a.tmps.getD d undef)):Db C γ0 w0 γ β (U.set d x) h a w:=
 ⟨hr.Ee,hr.fr.lT hx,hr.D7,hr.defers,hr.HB⟩
def Db.drop(hr:Db C γ0 w0 γ β U h a w)(ds:List Nat):Db C γ0 w0 γ β (U.drop ds) h a w:=by
 cases ds with
 |nil=>exact hr
 |cons d ds=>
  refine⟨hr.Ee,⟨by simp[BR.drop,hr.fr.size],λs=>?_⟩,hr.D7,hr.defers,hr.HB⟩;have hs:=hr.fr.IJ s;have e:(BR.drop U (d::ds)).at s=match U.at s with| .Fu t o=>if(d::ds).contains t then .undef else .Fu t o|x=>x:=by
   simp only[BR.drop,BR.at,List.getD,Dm];cases hg:U[s]? with
   |none=>rfl
   |some x=>cases x<;>rfl
  rw[e];cases hx:U.at s with
  |Fu t o=>
   rw[hx] at hs;simp only
   split;.trivial
   .exact hs
  |_=>rw[hx] at hs;exact hs
def Db.Jw(hr:Db C γ0 w0 γ β U h a w){γ':Gh}{h':Ai}{w':World}(hi:Ic γ' h' w')(ha:M1 γ w γ' w'):Db C γ0 w0 γ' β U h' a w':=
 ⟨hi,hr.fr.kept (ll.aCR hr.Ee ha),hr.D7.trans ha,hr.defers,λg cs hg=>C2.mono ha.le _ _ _ (hr.HB g cs hg)⟩
def JP{P:Program}{o:Oper}{v:Value}{w':World}{next:Act->World->Prop}{Q:Exit->Act->World->Prop}(he:(execOp a.eval o).run P w= .ok (.value v) w')(hn:next (a.put o.dst v) w'):o.wp P a w next Q:=by unfold Oper.wp;rw[he];exact hn
def qT{P:Program}{o:Oper}{w':World}{next:Act->World->Prop}{Q:Exit->Act->World->Prop}(he:(execOp a.eval o).run P w= .ok .skip w')(hn:next (a.put o.dst undef) w'):o.wp P a w next Q:=by unfold Oper.wp;rw[he];exact hn
end
end Go.Am
end
section
namespace Go.Am
def Gh.F8(γ:Gh)(g:Nat)(x:Lb):Gh:={γ with BT:=λb=>if b=g then some x else γ.BT b}
section
variable{C:Gj}{γ0 γ:Gh}{w0 w:World}{β:Nat->Nat}{U:BR}{h:Ai}{a:Act}
def HJ(γ:Gh)(g:Nat)(x:Lb):γ.le (γ.F8 g x):=⟨λ_ _ _ h=>h,λ_ _ h=>h,λ_ _ h=>h⟩
def Ic.F8(hi:Ic γ h w){g s s' st:Nat}{c c':Option Nat}(hg:γ.BT g=some (.tail s c st)):Ic (γ.F8 g (.tail s' c' st)) h w:=by
 refine⟨λb o v hb=>?_,λid y Jk hy=>?_,λid cs hc b hb=>?_,λid es hc b hb=>?_,hi.mu,λb x hx=>?_,λb n hb=>?_⟩;rotate_left 5
 .obtain⟨p,r⟩:=hi.sz b n hb;have:b≠g:=λhe=>by subst he;rw[hg] at r;rcases r with r|⟨_,r⟩<;>cases r
  exact⟨p,by simp only[Gh.F8,Ac this];exact r⟩
 .obtain⟨p,q,r⟩:=hi.IQ b o v hb;refine⟨p,q,?_⟩;by_cases he:b=g
  .subst he;rw[hg] at r;rcases r with r|⟨_,_,_,r,hl⟩
   .cases r
   .cases r;exact .inr ⟨s',c',st,by simp[Gh.F8],hl⟩
  .simpa only[Gh.F8,Ac he] using r
 .obtain⟨b,p,q⟩:=hi.Nw id y Jk hy;have:b≠g:=λhe=>by subst he;rw[hg] at q;cases q
  exact⟨b,p,by simp only[Gh.F8,Ac this];exact q⟩
 .obtain⟨us,e,fr,p,pf,q,r⟩:=hi.cells id cs hc b hb;exact⟨us,e,fr,p,pf,A8.mono (HJ γ g _) _ _ q,r⟩
 .obtain⟨us,e,p,q⟩:=hi.map id es hc b hb;exact⟨us,e,p,q.mono (HJ γ g _)⟩
 .by_cases he:b=g;.subst he;exact hi.BT b _ hg
  .simp only[Gh.F8,Ac he] at hx;exact hi.BT b x hx
def JO.F8{B:Nat}{s b st:Nat}{c d:Option Nat}{v:Value}{u:Aa}{x:Lb}{g:Nat}(hg:γ.BT g=some (.tail s c st))(ho:JO γ B w b d v u)(hne:b≠s\/d≠c):JO (γ.F8 g x) B w b d v u:=by
 rcases ho with ho|⟨g2,n,cap,us,e,z,Ax,h1,h2,h3,f⟩
 .exact .inl ho
 .have:g2≠g:=λhe=>by subst he;rw[hg] at h3;cases h3;rcases hne with hne|hne<;>exact hne rfl
  exact .inr ⟨g2,n,cap,us,e,z,Ax,h1,h2,by simp only[Gh.F8,Ac this];exact h3,f⟩
def FR.F8{B:Nat}{tmps:Array Value}(hf:FR γ β B U tmps w){g s st:Nat}{c:Option Nat}{x:Lb}(hg:γ.BT g=some (.tail s c st))
  (h1:c=none->∀v,U.at s≠ .BT v) (h2:∀o,c=some o->∀ver cs ow,U.at s= .box ver cs ow->o∉ow):FR (γ.F8 g x) β B U tmps w:=by
 refine⟨hf.size,λd=>?_⟩;have hs:=hf.IJ d;cases hx:U.at d with
 |undef=>trivial
 |skip=>rw[hx] at hs;exact hs
 |val u=>rw[hx] at hs;exact BP.mono (HJ γ g x) _ _ hs
 |P9 b=>rw[hx] at hs;exact hs
 |BT u=>
  rw[hx] at hs;refine⟨BP.mono (HJ γ g x) _ _ hs.1,hs.2.F8 hg ?_⟩;by_cases he:d=s
  .subst he;cases c with
   |none=>exact absurd hx (h1 rfl u)
   |some o=>exact .inr AB
  .exact .inl he
 |box ver cs ow=>
  rw[hx] at hs;obtain⟨r,f,q,us,e,p,n,m,l⟩:=hs;have hb:β d≠g:=λhe=>by rw[he,hg] at f;cases f
  refine⟨r,by simp only[Gh.F8,Ac hb];exact f,q,us,e,p,A8.mono (HJ γ g x) _ _ n,m,λo ho=>?_⟩;obtain⟨u,v,k,j,i⟩:=l o ho;refine⟨u,v,k,j,i.F8 hg ?_⟩;by_cases he:d=s
  .subst he;cases c with
   |none=>exact .inr AB
   |some o'=>refine .inr λhe=>?_;cases he;exact h2 o rfl ver cs ow hx ho
  .exact .inl he
 |Fu s' o=>rw[hx] at hs;exact hs
def Db.F8(hr:Db C γ0 w0 γ β U h a w){g s st s':Nat}{c c':Option Nat}(hg:γ.BT g=some (.tail s c st))(hB:w0.heap.size<=g)
  (h1:c=none->∀v,U.at s≠ .BT v) (h2:∀o,c=some o->∀ver cs ow,U.at s= .box ver cs ow->o∉ow):Db C γ0 w0 (γ.F8 g (.tail s' c' st)) β U h a w:=by
 refine⟨hr.Ee.F8 hg,hr.fr.F8 hg h1 h2,?_,hr.defers,λx cs hx=>C2.mono (HJ γ g _) _ _ _ (hr.HB x cs hx)⟩;refine⟨hr.D7.le.trans (HJ γ g _),hr.D7.size,hr.D7.os,hr.D7.tape,hr.D7.output,λb hb hn=>?_⟩;.obtain⟨p,q⟩:=hr.D7.O6 b hb hn;exact⟨p,by simp only[Gh.F8,Ac (Ab:b≠g)];exact q⟩
def BR.FJ{s:Nat}{x:EM}(hs:s<U.length):BR.at (U.set s x) s=x:=by simp[BR.at,List.getD,hs]
def BR.Gk{s t:Nat}{x:EM}(hs:s≠t):BR.at (U.set s x) t=U.at t:=by simp[BR.at,List.getD,Aq hs]
def BR.Ql{s:Nat}(hs:U.at s≠ .undef):s<U.length:=by
 rcases Bl s U.length with h|h
 .exact h
 .exact absurd (by simp[BR.at,List.getD,En h]) hs
def Db.take(hr:Db C γ0 w0 γ β U h a w){s:Nat}{v:Aa}(hs:U.at s= .BT v)(s':Nat)(c':Option Nat):
  ∃γ',γ.le γ'/\Db C γ0 w0 γ' β (U.set s (.val v)) h a w/\BP γ' v (a.tmps.getD s undef)/\JO γ' w0.heap.size w s' c' (a.tmps.getD s undef) v:=by
 have h0:=hr.fr.IJ s;rw[hs] at h0;obtain⟨hv,ho⟩:=h0;have Kv:Db C γ0 w0 γ β (U.set s (.val v)) h a w:=hr.lT hv;have hl:s<U.length:=BR.Ql (by rw[hs];simp);rcases ho with ho|⟨g,n,cap,us,e,z,Ax,h1,h2,h3,b,c⟩
 .exact⟨γ,.refl _,Kv,hv,.inl ho⟩
 .refine⟨γ.F8 g (.tail s' c' (n*z)),HJ _ _ _,Kv.F8 h3 b (λ_ u=>?_) (λo ho=>by cases ho),BP.mono (HJ _ _ _) _ _ hv,.inr ⟨g,n,cap,us,e,z,Ax,h1,h2,by simp[Gh.F8],b,c⟩⟩;rw[BR.FJ hl];simp
def eI{B s d:Nat}{sl b:EM}{v:Value}(hs:Mt γ β B w s sl v)(hc:I0 sl=some b):Mt γ β B w d b v:=by
 cases sl<;>simp[I0] at hc;.subst hc;exact hs
 .subst hc;exact hs
 .subst hc;exact hs.1
 .subst hc;exact hs
def O9{ws:List (Nat×EM)}(h:∀p∈ws,∀cs ow,p.2≠ .box 0 cs ow):(EW.pure ws).news=[]:=by
 simp only[EW.news,List.filterMap_eq_nil_iff];rintro⟨s,x⟩ hp;have:=h _ hp;cases x with
 |box ver cs ow=>
  cases ver with
  |zero=>exact absurd rfl (this cs ow)
  |succ n=>rfl
 |_=>rfl
def Ta{v:Value}{sl:EM}(hs:Eo C U (.const v)=some sl):(∀B d,Mt γ β B w d sl v)/\∀ver cs ow,sl≠ .box ver cs ow:=by
 unfold Eo at hs;split at hs;.rename_i K4;cases K4
 .rename_i K4;cases K4;cases hs;exact⟨λ_ _=>rfl,λ_ _ _ h=>by cases h⟩
 .rename_i K4;cases K4;cases hs;exact⟨λ_ _=>⟨rfl,.inl (.inl rfl)⟩,λ_ _ _ h=>by cases h⟩
 .rename_i K4;cases K4;cases hc:LM v with
  |none=>rw[hc] at hs;cases hs
  |some u=>rw[hc] at hs;cases hs;exact⟨λ_ _=>FI hc,λ_ _ _ h=>by cases h⟩
 .rename_i K4;cases K4
 .rename_i K4;cases K4
def Hs{s:Nat}{sl:EM}(hs:Eo C U (.tmp s)=some sl):U.at s=sl:=E8 hs
def qU{x:Operand}{v:Aa}(hs:Eo C U x=some (.BT v))(hn:∀c,x≠ .const c):∃s,x= .tmp s/\U.at s= .BT v:=by
 cases x with
 |tmp s=>exact⟨s,rfl,Hs hs⟩
 |const c=>exact absurd rfl (hn c)
 |global g=>have lC:(C.HB g).map (λcs=>EM.val (Aa.B9 cs))=some (.BT v):=hs;cases hc:C.HB g<;>rw[hc] at lC<;>cases lC
 |func f=>cases hs
def Tb{x:Operand}{d:Nat}{take:Bool}{r:EW}{run:IT->Ai->Option Ku}{f:BR}{h':Ai}(hm:Lh C U x d take=some r)(hd:r.Ol C run (U.drop r.news) h f h')
  (hr:Db C γ0 w0 γ β U h a w):∃γ',Db C γ0 w0 γ' β f h' (a.put (some d) (a.eval x)) w:=by
 unfold Lh at hm;split at hm;.rename_i s _ _ _ hs;cases hm;rw[O9 AB] at hd;obtain⟨rfl,rfl⟩:=hd;refine⟨γ,hr.put (d:=some d) λt ht=>?_⟩;have h0:=S9 hr s;rw[Hs hs] at h0;exact h0.1
 .rename_i v sl hs;cases hm;obtain⟨p,q⟩:=Ta (γ:=γ) (β:=β) (w:=w) hs;rw[O9 (by simpa using λcs ow=>q 0 cs ow)] at hd;obtain⟨rfl,rfl⟩:=hd;exact⟨γ,hr.put (d:=some d) λt _=>p _ t⟩
 .rename_i v hnc hs;split at hm;.cases hm;obtain⟨s,rfl,e⟩:=qU hs (λc hc=>hnc c hc);rw[O9 (by simp[S3])] at hd;obtain⟨rfl,rfl⟩:=hd;obtain⟨γ',EU,HY,K5,Ĵ⟩:=hr.take e d none;exact⟨γ',HY.put (d:=some d) λt ht=>by cases ht;exact⟨K5,Ĵ⟩⟩
  .simp only[I0,BV] at hm;cases hm;rw[O9 AB] at hd;obtain⟨rfl,rfl⟩:=hd;obtain⟨s,h1,_⟩:=Gx hr hs;exact⟨γ,hr.put (d:=some d) λt ht=>h1.1⟩
 .rename_i sl _ _ _ hs;cases hc:I0 sl with
  |none=>rw[hc] at hm;cases hm
  |some b=>
   rw[hc] at hm;cases hm;have wX:∀cs ow,b≠ .box 0 cs ow:=by intro cs ow he;subst he;cases sl<;>simp[I0] at hc
   rw[O9 (by simpa using wX)] at hd;obtain⟨rfl,rfl⟩:=hd;obtain⟨s,h1,_⟩:=Gx hr hs;exact⟨γ,hr.put (d:=some d) λt ht=>eI h1 hc⟩
 .cases hm
end
end Go.Am
end
section
namespace Go.Am
open Go
def XD{s:Sem Value}{v:Value}(h:Rc s=some v):s= .pure v:=by cases s<;>simp[Rc] at h;subst h;rfl
section
variable{P:Program}{γ:Gh}{w:World}
def lU{op:BinOp}{k l:IntKind}{x y:Int}{u:Aa}(t:TypeId)(c b:Operand)(h:wG op k x l y=some u):
  ∃v,(do eqGuard op t c b (.int k x) (.int l y);binOp op t (.int k x) (.int l y):Sem Value).run P w= .ok v w/\BP γ u v:=by
 unfold wG at h;cases hs:Rc (binOp op 0 (.int k x) (.int l y)) with
 |none=>rw[hs] at h;cases h
 |some v=>
  rw[hs] at h;have f:=XD hs;have e:binOp op t (.int k x) (.int l y)= .pure v:=by rw[<-f];cases op<;>rfl
  have d:eqGuard op t c b (.int k x) (.int l y)=pure ():=by cases op<;>rfl
  refine⟨v,by rw[d,e];rfl,?_⟩;simp only[Cw] at h;split at h<;>cases h<;>rfl
def eJ(l:List UInt8):(ByteArray.mk ⟨l⟩).toList=l:=ByteArray.toList_mk l
def lV{op:BinOp}{x y:Ah}{u:Aa}(t:TypeId)(d c:Operand)(h:lO op x y=some u):
  ∃v,(do eqGuard op t d c (.string ⟨⟨x⟩⟩) (.string ⟨⟨y⟩⟩);binOp op t (.string ⟨⟨x⟩⟩) (.string ⟨⟨y⟩⟩):Sem Value).run P w= .ok v w/\BP γ u v:=by
 have e:eqGuard op t d c (.string ⟨⟨x⟩⟩) (.string ⟨⟨y⟩⟩)=pure ():=by cases op<;>rfl
 have b:binOp op t (.string ⟨⟨x⟩⟩) (.string ⟨⟨y⟩⟩)=Op.stringOp op ⟨⟨x⟩⟩ ⟨⟨y⟩⟩:=by cases op<;>rfl
 rw[e,b];unfold lO at h;cases op<;>simp only at h<;>first
  |cases h;done
  |(simp only[Op.stringOp,eJ];cases h;exact⟨_,rfl,rfl⟩)
  | (split at h
     . rename_i EU
       cases h
       have hc : ¬ ((((ByteArray.mk ⟨x⟩).size + (ByteArray.mk ⟨y⟩).size : Nat) : Int) > IntKind.i64.max) := by
         have f : (ByteArray.mk ⟨x⟩).size = x.length := rfl
         have b : (ByteArray.mk ⟨y⟩).size = y.length := rfl
         rw [f, b]
         have : IntKind.i64.max = 9223372036854775807 := AA
         rw [this]
         omega
       simp only [Op.stringOp, Ac hc]
       refine ⟨_, rfl, ?_⟩
       show Value.string _ = Value.string _
       first
         | (congr 1; done)
         | (congr 1; apply ByteArray.ext; simp)
     . cases h)
def qV{t:TypeId}(h:FE P t=some none):(isAgg t).run P w= .ok false w:=by
 unfold FE at h;split at h;.cases hs:B0 P t<;>rw[hs] at h<;>cases h
 .cases hs:B0 P t<;>rw[hs] at h<;>cases h
 .rename_i d h1 h2 hu;simp only[isAgg,Sem.run_bind,run_underlying hu,Result.andThen_ok];rfl
 .cases h
def Sg{t:TypeId}{n:Nat}(h:FE P t=some (some n)):(isAgg t).run P w= .ok true w/\B0 P t=some n:=by
 unfold FE at h;split at h
 .rename_i fs hu;cases hs:B0 P t with
  |none=>rw[hs] at h;cases h
  |some m=>rw[hs] at h;cases h;exact⟨by simp[isAgg,run_underlying hu],rfl⟩
 .rename_i fs _ hu;cases hs:B0 P t with
  |none=>rw[hs] at h;cases h
  |some m=>rw[hs] at h;cases h;exact⟨by simp[isAgg,run_underlying hu],rfl⟩
 .cases h
 .cases h
def DV{t:TypeId}{n:Nat}(h:B0 P t=some n):(sizeOf t).run P w= .ok n w:=by
 unfold B0 at h;cases hi:P.info? t with
 |none=>rw[hi] at h;cases h
 |some i=>rw[hi] at h;cases h;simp[sizeOf,typeInfo,hi]
def lW{t:TypeId}{sh:Option Nat}{cs:List Aa}{us:Array Value}{off:Nat}{u:Aa}(qF:FE P t=some sh)(hr:A8 γ cs us.toList)(h1:∀v∈us.toList,v.oneCell'=true)
  (hp:FG cs off sh=some u):∃v,(part t us off).run P w= .ok v w/\BP γ u v:=by
 cases sh with
 |none=>
  replace hp:cs[off]?=some u:=hp;obtain⟨v,hv,hrel⟩:=hr.get hp;refine⟨v,?_,hrel⟩;have K5:us[off]?=some v:=by simpa using hv
  simp[part,qV qF,K5]
 |some n=>
  obtain⟨ha,hs⟩:=Sg (w:=w) qF;replace hp:(if off+n<=cs.length then some (Aa.agg ((cs.drop off).take n)) else none)=some u:=hp;split at hp
  .cases hp;refine⟨.agg (us.extract off (off+n)),by simp[part,ha,DV hs],us.extract off (off+n),rfl,?_,?_⟩;.have:=(hr.drop off).take n;simpa[OV,Ib] using this
   .intro v hv;refine h1 v ?_;rw[OV,Ib] at hv;exact AY (AZ hv)
  .cases hp
end
end Go.Am
end
section
namespace Go.Am
open Go
def wo{x y:Aa}{b:Bool}(h:N2 .b x y=some b):∃p q,x= .bool p/\y= .bool q/\(p==q)=b:=by unfold N2 at h;split at h<;>first|cases h;done|(rename_i he;cases he;done)|(cases h;exact⟨_,_,rfl,rfl,rfl⟩)
def wq{x y:Aa}{b:Bool}(h:N2 .i x y=some b):∃k p q,x= .int k p/\y= .int k q/\(p==q)=b:=by
 unfold N2 at h;split at h;.rename_i he;cases he
 .split at h;.rename_i hk;subst hk;cases h;exact⟨_,_,_,rfl,rfl,rfl⟩
  .cases h
 .rename_i he;cases he
 .cases h
def wv{x y:Aa}{b:Bool}(h:N2 .s x y=some b):∃p q,x= .str p/\y= .str q/\(p==q)=b:=by
 unfold N2 at h;split at h;.rename_i he;cases he
 .rename_i he;cases he
 .cases h;exact⟨_,_,rfl,rfl,rfl⟩
 .cases h
def Qm:∀{ks c:List FK} {xs ys:List Aa} {b:Bool},Ez (ks++c) xs ys=some b->
  ∃b1 b2,Ez ks (xs.take ks.length) (ys.take ks.length)=some b1/\Ez c (xs.drop ks.length) (ys.drop ks.length)=some b2/\b=(b1&&b2)
 |[],c,xs,ys,b,h=>⟨true,b,by simp[Ez],by simpa using h,AB⟩
 |k::ks,c,[],ys,b,h=>by cases ys<;>simp[Ez] at h
 |k::ks,c,x::xs,[],b,h=>by simp[Ez] at h
 |k::ks,c,x::xs,y::ys,b,h=>by
  simp only[B8,Ez] at h;split at h;.rename_i e es h1 h2;cases h;obtain⟨b1,b2,p,q,r⟩:=Qm h2;refine⟨e&&b1,b2,?_,by simpa using q,by rw[r,Bool.and_assoc]⟩;simp only[AK,LD,Ez,h1,p]
  .cases h
def Qn:∀{ks:List FK} {xs ys:List Aa} {b:Bool},Ez ks xs ys=some b->xs.length=ks.length/\ys.length=ks.length
 |[],xs,ys,b,h=>by cases xs<;>cases ys<;>simp[Ez] at h⊢
 |k::ks,xs,ys,b,h=>by
  cases xs<;>cases ys<;>simp[Ez] at h;split at h;.rename_i h1 h2;obtain⟨p,q⟩:=Qn h2;simp[p,q]
  .cases h
section
variable{P:Program}{γ:Gh}{w:World}
def bF:∀{d:Nat} {t:TypeId} {ks:List FK},Qi P d t=some ks->B0 P t=some ks.length
 |0,t,ks,h=>by cases h
 |d+1,t,ks,h=>by
  simp only[Qi] at h;split at h;.split at h<;>cases h;assumption
  .split at h<;>cases h;assumption
  .split at h<;>cases h;assumption
  .split at h
   .split at h;.rename_i hc;cases h;exact hc.1
    .cases h
   .cases h
  .cases h
def qW{ks:List FK}{k:FK}{t:TypeId}(h:(if B0 P t=some 1 then some [k] else none)=some ks):ks=[k]:=by split at h<;>cases h;rfl
def GV{t:TypeId}{us:Array Value}{off:Nat}{v:Value}{d:TypeDesc}(hu:P.underlying t=some d)(h1:∀fs,d≠ .struct fs)(h2:∀n e,d≠ .array n e)(hv:us[off]?=some v):
  (part t us off).run P w= .ok v w:=by
 have ha:(isAgg t).run P w= .ok false w:=by simp only[isAgg,Sem.run_bind,run_underlying hu,Result.andThen_ok];cases d<;>first|rfl|exact absurd rfl (h1 _)|exact absurd rfl (h2 _ _)
 simp[part,ha,hv]
def Kh{l:List Aa}{off:Nat}{x:Aa}(h:(l.drop off).take 1=[x]):l[off]?=some x:=by have:=B3 (·[0]?) h;simpa using this
def XE{k:FK}{xs ys:List Aa}{b:Bool}(h:Ez [k] xs ys=some b):∃x y,xs=[x]/\ys=[y]/\N2 k x y=some b:=by
 cases xs<;>cases ys<;>simp[Ez] at h;rename_i x xs y ys;cases xs<;>cases ys<;>simp[Ez] at h;all_goals first
  | (split at h
     . rename_i e es h1 h2; cases h2; cases h; exact ⟨x, y, rfl, rfl, by simpa using h1⟩
     . cases h)
  |(split at h<;>simp_all)
mutual
def lX:∀{d D:Nat},d<=D->∀{t:TypeId} {ks:List FK},Qi P d t=some ks->∀(us vs:Array Value) (cs ds:List Aa) (off:Nat) (b:Bool),A8 γ cs us.toList->A8 γ ds vs.toList->
  Ez ks ((cs.drop off).take ks.length) ((ds.drop off).take ks.length)=some b->
  ∃x y,(part t us off).run P w= .ok x w/\(part t vs off).run P w= .ok y w/\(Op.equalIn D t x y).run P w= .ok b w
 |0,_,_,_,_,h=>by cases h
 |d+1,0,hd,_,_,_=>Ab
 |d+1,D+1,hd,t,ks,h=>by
  intro us vs cs ds off b hu hv he;have Lk:=bF h;simp only[Qi] at h;split at h;.rename_i bG;have:=qW h;subst this;obtain⟨x,y,m,l,k⟩:=XE he;obtain⟨x',i,g⟩:=hu.get (Kh m);obtain⟨c,f,e⟩:=hv.get (Kh l);refine⟨x',c,GV bG AB AB (by simpa using i),GV bG AB AB (by simpa using f),?_⟩;obtain⟨o,n,rfl,rfl,j⟩:=wo k;rw[g,e,run_equalIn_bool' w D t _ _ bG,<-j]
  .rename_i kk bG;have:=qW h;subst this;obtain⟨x,y,m,l,k⟩:=XE he;obtain⟨x',i,g⟩:=hu.get (Kh m);obtain⟨c,f,e⟩:=hv.get (Kh l);refine⟨x',c,GV bG AB AB (by simpa using i),GV bG AB AB (by simpa using f),?_⟩;obtain⟨q,o,n,rfl,rfl,j⟩:=wq k;rw[g,e,run_equalIn_int w D t _ _ _ _ bG,<-j]
  .rename_i bG;have:=qW h;subst this;obtain⟨x,y,m,l,k⟩:=XE he;obtain⟨x',i,g⟩:=hu.get (Kh m);obtain⟨c,f,e⟩:=hv.get (Kh l);refine⟨x',c,GV bG AB AB (by simpa using i),GV bG AB AB (by simpa using f),?_⟩;obtain⟨o,n,rfl,rfl,j⟩:=wv k;rw[g,e,run_equalIn_string w D t _ _ bG,eJ,eJ,<-j]
  .rename_i fs bG;split at h
   .rename_i p ME;split at h
    .rename_i hc;cases h;have qF:FE P t=some (some ks.length):=by simp[FE,bG,Lk]
     obtain⟨ha,hs⟩:=Sg (w:=w) qF;refine⟨.agg (us.extract off (off+ks.length)),.agg (vs.extract off (off+ks.length)),by simp[part,ha,DV hs],by simp[part,ha,DV hs],?_⟩;have aL0:P.underlying t=some (.struct (P.fieldsOf t)):=by simp[Program.fieldsOf,bG]
     rw[run_equalIn_struct w D t _ _ aL0 hc.2];have hf:(P.fieldsOf t).toList=fs.toList:=by simp[Program.fieldsOf,bG]
     rw[hf];have ls:A8 γ ((cs.drop off).take ks.length) (us.extract off (off+ks.length)).toList:=by have:=(hu.drop off).take ks.length;simpa[OV,Ib] using this
     have K5:A8 γ ((ds.drop off).take ks.length) (vs.extract off (off+ks.length)).toList:=by have:=(hv.drop off).take ks.length;simpa[OV,Ib] using this
     refine bH (Nat.le_of_succ_le_succ hd) fs.toList ME _ _ _ _ _ ls K5 ?_;simpa using he
    .cases h
   .cases h
  .cases h
def bH:∀{d D:Nat},d<=D->∀(fs:List Field) {off:Nat} {ks:List FK},Xr (Qi P d) fs off=some ks->∀(us vs:Array Value) (cs ds:List Aa) (b:Bool),A8 γ cs us.toList->A8 γ ds vs.toList->
  Ez ks (cs.drop off) (ds.drop off)=some b->(Op.eqFields D us vs fs).run P w= .ok b w
 |d,D,hd,[],off,ks,h=>by
  intro us vs cs ds b hu hv he;cases h;have:b=true:=by cases h1:cs.drop off<;>cases h2:ds.drop off<;>rw[h1,h2] at he<;>simp[Ez] at he;exact he
  subst this;rfl
 |d,D,hd,f::fs,off,ks,h=>by
  intro us vs cs ds b hu hv he;simp only[Xr] at h;split at h
  .rename_i hc;obtain⟨hn,aHE⟩:=hc;split at h
   .rename_i c qX;cases hr:Xr (Qi P d) fs (off+c.length) with
    |none=>rw[hr] at h;cases h
    |some j=>
     rw[hr] at h;cases h;obtain⟨b1,b2,l,k,rfl⟩:=Qm he;obtain⟨x,y,i,g,e⟩:=lX hd qX _ _ _ _ _ _ hu hv l;simp only[Op.eqFields,hn,CY,A5,BN,aHE,Sem.run_bind,i,g,e,Result.andThen_ok];cases b1;.rfl
     .simp only[Bool.not_true,Cb,DP,eC];exact bH hd fs hr _ _ _ _ _ hu hv (by simpa[Ew] using k)
   .cases h
  .cases h
end
def lY{op:BinOp}{t:TypeId}{d c:Operand}{neg:Bool}{ks:List FK}{a b:List Aa}{x y:Value}{u:Aa}(NH:(op= .eql/\neg=false)\/(op= .neq/\neg=true))
  (hg:P.eqGuardType P.depth t=false) (hk:Qi P 20 t=some ks) (JM:∃fs,P.underlying t=some (.struct fs)) (hx:BP γ (.agg a) x) (hy:BP γ (.agg b) y) (h:(Ez ks a b).map (λe=>Aa.bool (e != neg))=some u):
  ∃v,(do eqGuard op t d c x y;binOp op t x y:Sem Value).run P w= .ok v w/\BP γ u v:=by
 obtain⟨us,rfl,hu,_⟩:=hx;obtain⟨vs,rfl,hv,_⟩:=hy;cases he:Ez ks a b with
 |none=>rw[he] at h;cases h
 |some e=>
  rw[he] at h;cases h;obtain⟨l1,l2⟩:=Qn he;obtain⟨x',j,i,g,f⟩:=lX (w:=w) (P:=P) (γ:=γ) (D:=10000) (Ab:20<=10000) hk us vs a b 0 e hu hv (by rw[FO,FO,Bf (Nr l1),Bf (Nr l2)];exact he);obtain⟨fs,ME⟩:=JM;have qF:FE P t=some (some ks.length):=by simp[FE,ME,bF hk]
  obtain⟨ha,hs⟩:=Sg (w:=w) qF;have n:us.extract 0 ks.length=us:=by
   have:us.size=ks.length:=by have:=hu.length;simp at this;omega
   rw[<-this];simp
  have m:vs.extract 0 ks.length=vs:=by
   have:vs.size=ks.length:=by have:=hv.length;simp at this;omega
   rw[<-this];simp
  have l:x'= .agg us:=by simp[part,ha,DV hs,n] at i;exact i.symm
  have k:j= .agg vs:=by simp[part,ha,DV hs,m] at g;exact g.symm
  subst l;subst k;rcases NH with⟨rfl,rfl⟩|⟨rfl,rfl⟩
  .refine⟨.bool e,by simp[run_eqGuard_agg (P:=P) w .eql t d c us vs hg,run_eql_struct,f],?_⟩;show Value.bool e=Value.bool _;cases e<;>rfl
  .refine⟨.bool (!e),by simp[run_eqGuard_agg (P:=P) w .neq t d c us vs hg,run_neq_struct,f],?_⟩;show Value.bool _=Value.bool _;cases e<;>rfl
end
end Go.Am
end
