/- Lemmas -/
import Derived.Test.YtljddgipdchkiaaGreatDoorB1
import Derived.Orders
import Derived.Laws.AppendOwn
import Derived.Laws.StructEq
set_option linter.all false
section
namespace Go.Am
inductive KC where
 |Md (id:Nat)
 |loc (s:Nat)
 |tail (s:Nat) (c:Option Nat) (start:Nat)
def KC.lg:KC->Bool
 | .Md _=>true
 |_=>false
structure Gh where
 Io:Nat->Nat->Option Value
 mu:Nat->Option Nat
 Bt:Nat->Option KC
 sz:Nat->Option Nat
mutual
def BO(γ:Gh):Aa->Value->Prop
 | .bool b,v=>v= .bool b
 | .int k n,v=>v= .int k n
 | .str s,v=>v= .string ⟨⟨s⟩⟩
 | .ptr none,v=>v= .pointer none
 | .ptr (some (id,o)),v=>∃b,γ.mu id=some b/\v= .pointer (some ⟨b,o,none⟩)
 | .CG cs,v=>∃b o,v= .pointer (some ⟨b,o,none⟩)/\C1 γ cs b o
 | .sl z AD,v=>∃d cap,v= .slice (some d) AD.length cap/\AD.length<=cap/\(d.spot=none\/cap=0)/\E6 γ AD z d.block d.off
 | .slnil,v=>v= .slice none 0 0
 | .Gb _,v=>∃b,v= .slice (some ⟨b,0,none⟩) 0 0
 | .CE id off len z,v=>∃b cap,γ.mu id=some b/\v= .slice (some ⟨b,off,none⟩) len cap/\len<=cap/\(0<z/\cap<=maxLen)/\γ.sz b=some (off+cap*z)
 | .map none,v=>v= .map none
 | .map (some id),v=>∃b,γ.mu id=some b/\v= .map (some b)
 | .func fn f c,v=>∃fs cs,v= .func fn fs cs/\Bg γ f fs.toList/\Bg γ c cs.toList
 | .nilFunc,v=>v= .nilFunc
 | .iface t a,v=>∃u,v= .iface t u/\BO γ a u
 | .nilIface,v=>v= .nilIface
 | .agg cs,v=>∃us,v= .agg us/\Bg γ cs us.toList/\∀u∈us.toList,u.oneCell'=true
 | .tuple vs,v=>∃us,v= .tuple us/\Bg γ vs us.toList
def Bg(γ:Gh):List Aa->List Value->Prop
 |[],us=>us=[]
 |a::l,us=>∃u DK,us=u::DK/\BO γ a u/\Bg γ l DK
def C1(γ:Gh):List Aa->Nat->Nat->Prop
 |[],_,_=>True
 |a::l,b,o=>(∃u,γ.Io b o=some u/\BO γ a u)/\C1 γ l b (o+1)
def E6(γ:Gh):List (List Aa)->Nat->Nat->Nat->Prop
 |[],_,_,_=>True
 |r::rs,z,b,o=>r.length=z/\C1 γ r b o/\E6 γ rs z b (o+z)
end
structure Gh.le(γ γ':Gh):Prop where
 Io:∀b o v,γ.Io b o=some v->γ'.Io b o=some v
 mu:∀id b,γ.mu id=some b->γ'.mu id=some b
 sz:∀b n,γ.sz b=some n->γ'.sz b=some n
def Gh.le.refl(γ:Gh):γ.le γ:=⟨λ_ _ _ h=>h,λ_ _ h=>h,λ_ _ h=>h⟩
def Gh.le.trans{a b c:Gh}(h:a.le b)(k:b.le c):a.le c:=⟨λ_ _ _ x=>k.Io _ _ _ (h.Io _ _ _ x),λ_ _ x=>k.mu _ _ (h.mu _ _ x),λ_ _ x=>k.sz _ _ (h.sz _ _ x)⟩
mutual
def BO.mono{γ γ':Gh}(Ej:γ.le γ'):∀(a:Aa) (v:Value),BO γ a v->BO γ' a v
 | .bool b,v,h=>h
 | .int k n,v,h=>h
 | .str s,v,h=>h
 | .ptr none,v,h=>h
 | .ptr (some (id,o)),v,h=>by obtain⟨b,hb,hv⟩:=h;exact⟨b,Ej.mu _ _ hb,hv⟩
 | .CG cs,v,h=>by obtain⟨b,o,hv,hm⟩:=h;exact⟨b,o,hv,C1.mono Ej cs b o hm⟩
 | .sl z AD,v,h=>by obtain⟨d,cap,hv,hc,hs,hm⟩:=h;exact⟨d,cap,hv,hc,hs,E6.mono Ej AD z _ _ hm⟩
 | .slnil,v,h=>h
 | .Gb _,v,h=>h
 | .CE id off len z,v,h=>by obtain⟨b,cap,hb,hv,hc,hz,hs⟩:=h;exact⟨b,cap,Ej.mu _ _ hb,hv,hc,hz,Ej.sz _ _ hs⟩
 | .map none,v,h=>h
 | .map (some id),v,h=>by obtain⟨b,hb,hv⟩:=h;exact⟨b,Ej.mu _ _ hb,hv⟩
 | .func fn f c,v,h=>by obtain⟨fs,cs,hv,h1,h2⟩:=h;exact⟨fs,cs,hv,Bg.mono Ej f _ h1,Bg.mono Ej c _ h2⟩
 | .nilFunc,v,h=>h
 | .iface t a,v,h=>by obtain⟨u,hv,h1⟩:=h;exact⟨u,hv,BO.mono Ej a u h1⟩
 | .nilIface,v,h=>h
 | .agg cs,v,h=>by obtain⟨us,hv,h1,h2⟩:=h;exact⟨us,hv,Bg.mono Ej cs _ h1,h2⟩
 | .tuple vs,v,h=>by obtain⟨us,hv,h1⟩:=h;exact⟨us,hv,Bg.mono Ej vs _ h1⟩
def Bg.mono{γ γ':Gh}(Ej:γ.le γ'):∀(l:List Aa) (us:List Value),Bg γ l us->Bg γ' l us
 |[],us,h=>h
 |a::l,us,h=>by obtain⟨u,DK,hu,h1,h2⟩:=h;exact⟨u,DK,hu,BO.mono Ej a u h1,Bg.mono Ej l DK h2⟩
def C1.mono{γ γ':Gh}(Ej:γ.le γ'):∀(l:List Aa) (b o:Nat),C1 γ l b o->C1 γ' l b o
 |[],_,_,_=>trivial
 |a::l,b,o,h=>by obtain⟨⟨u,hu,h1⟩,h2⟩:=h;exact⟨⟨u,Ej.Io _ _ _ hu,BO.mono Ej a u h1⟩,C1.mono Ej l b (o+1) h2⟩
def E6.mono{γ γ':Gh}(Ej:γ.le γ'):∀(rs:List (List Aa)) (z b o:Nat),E6 γ rs z b o->E6 γ' rs z b o
 |[],_,_,_,_=>trivial
 |r::rs,z,b,o,h=>⟨h.1,C1.mono Ej r b o h.2.1,E6.mono Ej rs z b (o+z) h.2.2⟩
end
def Bg.length{γ:Gh}:∀{l:List Aa} {us:List Value},Bg γ l us->us.length=l.length
 |[],us,h=>by rw[Bg] at h;subst h;rfl
 |a::l,us,h=>by rw[Bg] at h;obtain⟨u,DK,rfl,_,h2⟩:=h;simp[h2.length]
def Bg.get{γ:Gh}:∀{l:List Aa} {us:List Value},Bg γ l us->∀{i:Nat} {a:Aa},l[i]?=some a->∃u,us[i]?=some u/\BO γ a u
 |[],us,h,i,a,hi=>by simp at hi
 |x::l,us,h,i,a,hi=>by
  rw[Bg] at h;obtain⟨u,DK,rfl,h1,h2⟩:=h;cases i with
  |zero=>simp at hi;subst hi;exact⟨u,rfl,h1⟩
  |succ i=>simp at hi;obtain⟨v,hv,hr⟩:=h2.get hi;exact⟨v,by simpa using hv,hr⟩
def Bg.Hc{γ:Gh}:∀{l:List Aa} {us:List Value},us.length=l.length->(∀(i:Nat) (a:Aa) (u:Value),l[i]?=some a->us[i]?=some u->BO γ a u)->Bg γ l us
 |[],us,hl,_=>by rw[Bg];exact Dn hl
 |x::l,[],hl,_=>by simp at hl
 |x::l,u::us,hl,h=>by rw[Bg];exact⟨u,us,rfl,h 0 x u rfl rfl,Bg.Hc (by simpa using hl) λi a v hi hv=>h (i+1) a v (by simpa using hi) (by simpa using hv)⟩
def Bg.append{γ:Gh}:∀{l l':List Aa} {us DK:List Value},Bg γ l us->Bg γ l' DK->Bg γ (l++l') (us++DK)
 |[],l',us,DK,h,h'=>by rw[Bg] at h;subst h;simpa using h'
 |a::l,l',us,DK,h,h'=>by rw[Bg] at h;obtain⟨u,r,rfl,h1,h2⟩:=h;rw[CJ,Bg];exact⟨u,r++DK,rfl,h1,h2.append h'⟩
def Bg.take{γ:Gh}{l:List Aa}{us:List Value}(h:Bg γ l us)(n:Nat):Bg γ (l.take n) (us.take n):=by
 refine Bg.Hc (by simp[h.length]) λi a u hi hu=>?_;rw[Ch] at hi hu;split at hi;.rename_i hlt;rw[Ae hlt] at hu;obtain⟨v,hv,hr⟩:=h.get hi;rw[hu] at hv;cases hv;exact hr
 .cases hi
def Bg.drop{γ:Gh}{l:List Aa}{us:List Value}(h:Bg γ l us)(n:Nat):Bg γ (l.drop n) (us.drop n):=by refine Bg.Hc (by simp[h.length]) λi a u hi hu=>?_;rw[Cr] at hi hu;obtain⟨v,hv,hr⟩:=h.get hi;rw[hu] at hv;cases hv;exact hr
def C1.get{γ:Gh}:∀{l:List Aa} {b o:Nat},C1 γ l b o->∀{i:Nat} {a:Aa},l[i]?=some a->∃u,γ.Io b (o+i)=some u/\BO γ a u
 |[],b,o,h,i,a,hi=>by simp at hi
 |x::l,b,o,h,i,a,hi=>by
  rw[C1] at h;obtain⟨⟨u,hu,h1⟩,h2⟩:=h;cases i with
  |zero=>simp at hi;subst hi;exact⟨u,hu,h1⟩
  |succ i=>simp at hi;obtain⟨v,hv,hr⟩:=h2.get hi;exact⟨v,by rw[<-hv];congr 1;omega,hr⟩
def C1.Hc{γ:Gh}:∀{l:List Aa} {b o:Nat},(∀(i:Nat) (a:Aa),l[i]?=some a->∃u,γ.Io b (o+i)=some u/\BO γ a u)->C1 γ l b o
 |[],b,o,h=>by rw[C1];trivial
 |x::l,b,o,h=>by rw[C1];refine⟨h 0 x rfl,C1.Hc λi a hi=>?_⟩;obtain⟨u,hu,hr⟩:=h (i+1) a (by simpa using hi);exact⟨u,by rw[<-hu];congr 1;omega,hr⟩
def C1.drop{γ:Gh}{l:List Aa}{b o:Nat}(h:C1 γ l b o)(n:Nat):C1 γ (l.drop n) b (o+n):=by refine C1.Hc λi a hi=>?_;rw[Cr] at hi;obtain⟨u,hu,hr⟩:=h.get hi;exact⟨u,by rw[<-hu];congr 1;omega,hr⟩
def C1.values{γ:Gh}:∀{l:List Aa} {b o:Nat},C1 γ l b o->∃us:List Value,Bg γ l us/\∀(j:Nat) (u:Value),us[j]?=some u->γ.Io b (o+j)=some u
 |[],b,o,h=>⟨[],by rw[Bg],AH⟩
 |x::l,b,o,h=>by
  rw[C1] at h;obtain⟨⟨u,hu,h1⟩,h2⟩:=h;obtain⟨us,hr,hi⟩:=h2.values;refine⟨u::us,by rw[Bg];exact⟨u,us,rfl,h1,hr⟩,λj v hj=>?_⟩;cases j with
  |zero=>simp at hj;subst hj;exact hu
  |succ j=>simp at hj;rw[<-hi j v hj];congr 1;omega
def E6.get{γ:Gh}:∀{rs:List (List Aa)} {z b o:Nat},E6 γ rs z b o->∀{i:Nat} {r:List Aa},rs[i]?=some r->r.length=z/\C1 γ r b (o+i*z)
 |[],z,b,o,h,i,r,hi=>by simp at hi
 |x::rs,z,b,o,h,i,r,hi=>by
  rw[E6] at h;cases i with
  |zero=>simp at hi;subst hi;simpa using⟨h.1,h.2.1⟩
  |succ i=>simp at hi;obtain⟨h1,h2⟩:=h.2.2.get hi;exact⟨h1,by rw[show o+(i+1)*z=o+z+i*z by rw[BG,D4];omega];exact h2⟩
def E6.Hc{γ:Gh}:∀{rs:List (List Aa)} {z b o:Nat},(∀(i:Nat) (r:List Aa),rs[i]?=some r->r.length=z/\C1 γ r b (o+i*z))->E6 γ rs z b o
 |[],z,b,o,h=>by rw[E6];trivial
 |x::rs,z,b,o,h=>by rw[E6];have h0:=h 0 x rfl;refine⟨h0.1,by simpa using h0.2,E6.Hc λi r hi=>?_⟩;obtain⟨h1,h2⟩:=h (i+1) r (by simpa using hi);exact⟨h1,by rw[show o+z+i*z=o+(i+1)*z by rw[BG,D4];omega];exact h2⟩
def E6.length{γ:Gh}:∀{rs:List (List Aa)} {z b o:Nat},E6 γ rs z b o->rs.flatten.length=rs.length*z
 |[],z,b,o,h=>AH
 |x::rs,z,b,o,h=>by rw[E6] at h;simp[h.1,h.2.2.length,BG,O1]
def N2{b:Addr}{n cap:Nat}(hs:b.spot=none\/cap=0)(hc:n<=cap)(hn:0<n):b=⟨b.block,b.off,none⟩:=by
 rcases hs with hs|hs
 .cases b;simp_all
 .omega
def E6.values{γ:Gh}:∀{rs:List (List Aa)} {z b o:Nat},E6 γ rs z b o->∃us:List Value,Bg γ rs.flatten us/\us.length=rs.length*z/\∀(j:Nat) (u:Value),us[j]?=some u->γ.Io b (o+j)=some u
 |[],z,b,o,h=>⟨[],by simp[Bg],AH,AH⟩
 |x::rs,z,b,o,h=>by
  rw[E6] at h;obtain⟨us,h1,h2⟩:=h.2.1.values;obtain⟨vs,e,d,c⟩:=h.2.2.values;have hl:us.length=z:=by rw[h1.length,h.1]
  refine⟨us++vs,by simpa using h1.append e,by simp[hl,d,BG,O1],λj u hj=>?_⟩;rw[aHY] at hj;split at hj;.exact h2 j u hj
  .rename_i D6;rw[<-c _ _ hj];congr 1
   omega
def IU(γ:Gh)(B:Nat)(w:World)(s:Nat)(c:Option Nat)(v:Value)(a:Aa):Prop:=
 (a= .slnil\/∃z,a= .Gb z)\/∃g n cap us e z AD,a= .sl z AD/\v= .slice (some ⟨g,0,none⟩) n cap/\γ.Bt g=some (.tail s c (n*z))/\B<=g/\
  w.heap[g]?=some (.cells us e (0,0))/\us.size=cap*z/\n<=cap/\cap<=maxLen/\0<z
def LB(γ:Gh)(β:Nat->Nat)(B:Nat)(w:World)(s:Nat):En->Value->Prop
 | .undef,_=>True
 | .skip,v=>v=undef
 | .val a,v=>BO γ a v
 | .OS b,v=>v= .bool b
 | .Bt a,v=>BO γ a v/\IU γ B w s none v a
 | .box _ cs ow,v=>v= .pointer (some ⟨β s,0,none⟩)/\γ.Bt (β s)=some (.loc s)/\B<=β s/\
  ∃us e,w.heap[β s]?=some (.cells us e (0,0))/\Bg γ cs us.toList/\(∀u∈us.toList,u.oneCell'=true)/\
   ∀o∈ow,∃u a,us[o]?=some u/\cs[o]?=some a/\IU γ B w s (some o) u a
 | .Fk s' o,v=>v= .pointer (some ⟨β s',o,none⟩)
structure FR(γ:Gh)(β:Nat->Nat)(B:Nat)(U:BR)(tmps:Array Value)(w:World):Prop where
 size:U.length=tmps.size
 Ii:∀s,LB γ β B w s (U.at s) (tmps.getD s undef)
def Lc(γ:Gh):List (Aa×Aa)->List MapEntry->Prop
 |[],es=>es=[]
 |(k,v)::l,es=>∃e UQ,es=e::UQ/\BO γ k e.key/\BO γ v e.val/\Lc γ l UQ
def lj(γ:Gh)(l:List (Aa×Aa))(es:Array MapEntry)(clock:Nat):Prop:=
 Lc γ l es.toList/\clock=es.size/\∀(i:Nat) (e:MapEntry),es[i]?=some e->e.born=i
def Tm(fr:Nat×Nat)(n:Nat):Prop:=fr=(0,0)\/n<=fr.1
structure Hk(γ:Gh)(h:Ah)(w:World):Prop where
 Io:∀b o v,γ.Io b o=some v->w.cell? ⟨b,o,none⟩=some v/\v.oneCell'=true/\(γ.Bt b=none\/∃s c st,γ.Bt b=some (.tail s c st)/\o<st)
 Md:∀id x,h[id]?=some x->x≠ .CO->∃b,γ.mu id=some b/\γ.Bt b=some (.Md id)
 cells:∀id cs,h[id]?=some (.cells cs)->∀b,γ.mu id=some b->∃us e fr,w.heap[b]?=some (.cells us e fr)/\Tm fr us.size/\Bg γ cs (us.toList.take cs.length)/\∀u∈us.toList.take cs.length,u.oneCell'=true
 map:∀id es,h[id]?=some (.map es)->∀b,γ.mu id=some b->∃DD clock,w.heap[b]?=some (.map DD clock)/\lj γ es DD clock
 mu:∀id b,γ.mu id=some b->id<h.length
 Bt:∀b x,γ.Bt b=some x->b<w.heap.size
 sz:∀b n,γ.sz b=some n->(∃us e fr,w.heap[b]?=some (.cells us e fr)/\us.size=n)/\(γ.Bt b=none\/∃id,γ.Bt b=some (.Md id))
structure Ld(γ0:Gh)(w0:World)(γ:Gh)(w:World):Prop where
 le:γ0.le γ
 size:w0.heap.size<=w.heap.size
 os:w.os=w0.os
 tape:w.tape=w0.tape
 output:w.output=w0.output
 N3:∀b,b<w0.heap.size->(∀id,γ0.Bt b≠some (.Md id))->w.heap[b]?=w0.heap[b]?/\γ.Bt b=γ0.Bt b
def Ld.refl(γ:Gh)(w:World):Ld γ w γ w:=⟨.refl _,Ag _,rfl,rfl,rfl,λ_ _ _=>⟨rfl,rfl⟩⟩
def Ld.trans{γ0 d c:Gh}{w0 w1 e:World}(h:Ld γ0 w0 d w1)(k:Ld d w1 c e):Ld γ0 w0 c e:=by refine⟨h.le.trans k.le,Bu h.size k.size,k.os.trans h.os,k.tape.trans h.tape,k.output.trans h.output,λb hb hn=>?_⟩;.obtain⟨h1,h2⟩:=h.N3 b hb hn;obtain⟨g,f⟩:=k.N3 b (LK hb h.size) (λid=>by rw[h2];exact hn id);exact⟨g.trans h1,f.trans h2⟩
structure be(γ:Gh)(w:World)(γ':Gh)(w':World):Prop where
 le:γ.le γ'
 N3:∀b x,γ.Bt b=some x->x.lg=false->γ'.Bt b=some x/\w'.heap[b]?=w.heap[b]?
def be.aAA{γ γ':Gh}{h:Ah}{w w':World}(hi:Hk γ h w)(ha:Ld γ w γ' w'):be γ w γ' w':=by refine⟨ha.le,λb x hb hx=>?_⟩;obtain⟨h1,h2⟩:=ha.N3 b (hi.Bt b x hb) (λid Ij=>by rw[hb] at Ij;cases Ij;simp[KC.lg] at hx);exact⟨h2.trans hb,h1⟩
def IU.kept{γ γ':Gh}{B:Nat}{w w':World}{s:Nat}{c:Option Nat}{v:Value}{a:Aa}(h:IU γ B w s c v a)(k:be γ w γ' w'):IU γ' B w' s c v a:=by
 rcases h with h|⟨g,n,cap,us,e,z,AD,h1,h2,l,j,i,f⟩
 .exact .inl h
 .obtain⟨d,b⟩:=k.N3 g _ l rfl;exact .inr ⟨g,n,cap,us,e,z,AD,h1,h2,d,j,by rw[b];exact i,f⟩
def LB.kept{γ γ':Gh}{β:Nat->Nat}{B:Nat}{w w':World}{s:Nat}{x:En}{v:Value}(h:LB γ β B w s x v)(k:be γ w γ' w'):LB γ' β B w' s x v:=by
 cases x with
 |undef=>trivial
 |skip=>exact h
 |val a=>exact BO.mono k.le a v h
 |OS b=>exact h
 |Bt a=>exact⟨BO.mono k.le a v h.1,h.2.kept k⟩
 |box ver cs ow=>obtain⟨h1,h2,l,us,e,j,i,g,f⟩:=h;obtain⟨d,c⟩:=k.N3 _ _ h2 rfl;exact⟨h1,d,l,us,e,by rw[c];exact j,Bg.mono k.le cs _ i,g,λo ho=>let⟨u,a,p,q,r⟩:=f o ho;⟨u,a,p,q,r.kept k⟩⟩
 |Fk s' o=>exact h
def FR.kept{γ γ':Gh}{β:Nat->Nat}{B:Nat}{U:BR}{tmps:Array Value}{w w':World}(h:FR γ β B U tmps w)(k:be γ w γ' w'):FR γ' β B U tmps w':=
 ⟨h.size,λs=>(h.Ii s).kept k⟩
end Go.Am
end
section
namespace Go.Am
def CQ{w w':World}{b o:Nat}(h:w'.heap[b]?=w.heap[b]?):w'.cell? ⟨b,o,none⟩=w.cell? ⟨b,o,none⟩:=by simp[World.cell?,h]
def DM{w:World}{b o:Nat}{v:Value}(h:w.cell? ⟨b,o,none⟩=some v):b<w.heap.size:=by
 rcases AN b w.heap.size with h'|h'
 .exact h'
 .simp[World.cell?,Array.getElem?_eq_none h'] at h
def Hk.aAB{γ:Gh}{h:Ah}{w:World}(hi:Hk γ h w){b o:Nat}{v:Value}(hb:γ.Io b o=some v):b<w.heap.size:=DM (hi.Io b o v hb).1
def Hk.same{γ:Gh}{h:Ah}{w w':World}(hi:Hk γ h w)(c:w'.heap=w.heap):Hk γ h w':=by
 refine⟨λb o v hb=>?_,hi.Md,λid cs hc b hb=>?_,λid es hc b hb=>?_,hi.mu,λb x hx=>?_,λb n hb=>by rw[c];exact hi.sz b n hb⟩;.obtain⟨h1,h2,d⟩:=hi.Io b o v hb;have e:=CQ (w:=w) (w':=w') (b:=b) (o:=o) (by rw[c]);exact⟨e.trans h1,h2,d⟩
 .rw[c];exact hi.cells id cs hc b hb
 .rw[c];exact hi.map id es hc b hb
 .rw[c];exact hi.Bt b x hx
def Ld.same{γ:Gh}{w w':World}(b:w'.heap=w.heap)(h1:w'.os=w.os)(h2:w'.tape=w.tape)(c:w'.output=w.output):Ld γ w γ w':=
 ⟨.refl _,by rw[b];exact Ag _,h1,h2,c,λ_ _ _=>⟨by rw[b],rfl⟩⟩
def Ld.drew(γ:Gh)(w:World):Ld γ w γ w.drew:=Ld.same rfl rfl rfl rfl
def Gh.Ds(γ:Gh)(b:Nat)(us:Array Value)(k:Nat)(x:Option KC):Gh:=
 {Io:=λb' o=>if b'=b then(if o<k then us[o]? else none) else γ.Io b' o,mu:=γ.mu,Bt:=λb'=>if b'=b then x else γ.Bt b',sz:=γ.sz}
def Gh.B0(γ:Gh)(b id:Nat)(n:Option Nat):Gh:=
 {Io:=γ.Io,mu:=λi=>if i=id then some b else γ.mu i,Bt:=λb'=>if b'=b then some (.Md id) else γ.Bt b',sz:=λb'=>if b'=b then n else γ.sz b'}
section
variable{γ:Gh}{h:Ah}{w:World}
def EH(w:World)(o:Obj){b:Nat}(hb:b<w.heap.size):(w.alloc o).heap[b]?=w.heap[b]?:=heap_alloc_old w o b hb
def Pd(hi:Hk γ h w)(us:Array Value)(e:TypeId)(fr:Nat×Nat)(k:Nat)(x:Option KC)(h1:∀o u,o<k->us[o]?=some u->u.oneCell'=true)
  (hx:x=none\/(∃s c,x=some (.tail s c k))\/(k=0/\∀id,x≠some (.Md id))):
  Hk (γ.Ds w.heap.size us k x) h (w.alloc (.cells us e fr))/\Ld γ w (γ.Ds w.heap.size us k x) (w.alloc (.cells us e fr)):=by
 have FF:γ.Bt w.heap.size=none:=by
  cases hc:γ.Bt w.heap.size with
  |none=>rfl
  |some y=>exact absurd (hi.Bt _ y hc) (Dr _)
 have lp:∀o,γ.Io w.heap.size o=none:=λo=>by
  cases hc:γ.Io w.heap.size o with
  |none=>rfl
  |some y=>exact absurd (hi.aAB hc) (Dr _)
 have Ej:γ.le (γ.Ds w.heap.size us k x):=⟨λb' o' v' DC=>by
  have:b'≠w.heap.size:=λhe=>by rw[he,lp] at DC;cases DC
  simp only[Gh.Ds,Ac this];exact DC,λ_ _ hm=>hm,λ_ _ hm=>hm⟩
 constructor
 .refine⟨λb o v hb=>?_,λid y Ij hy=>?_,λid cs hc b hb=>?_,λid es hc b hb=>?_,hi.mu,λb y hy=>?_,λb n hb=>?_⟩;rotate_left 5;.obtain⟨⟨DK,d,bg,p,q⟩,r⟩:=hi.sz b n hb;have N4:b≠w.heap.size:=O2 (by rw[A5] at p;exact p.1);exact⟨⟨DK,d,bg,by rw[EH _ _ (by rw[A5] at p;exact p.1)];exact p,q⟩,by simp only[Gh.Ds,Ac N4];exact r⟩
  .by_cases N4:b=w.heap.size
   .subst N4;simp only[Gh.Ds,BL] at hb⊢;split at hb
    .rename_i hlt;refine⟨by rw[cell_of_row _ _ _ us e fr (heap_alloc_new w _)];exact hb,h1 o v hlt hb,?_⟩;rcases hx with hx|⟨s,c,hx⟩|⟨hx,_⟩
     .exact .inl hx
     .exact .inr ⟨s,c,k,hx,hlt⟩
     .omega
    .cases hb
   .simp only[Gh.Ds,Ac N4] at hb⊢;obtain⟨p,q,r⟩:=hi.Io b o v hb;exact⟨by rw[CQ (EH w _ (DM p))];exact p,q,r⟩
  .obtain⟨b,p,q⟩:=hi.Md id y Ij hy;refine⟨b,p,?_⟩;have:b≠w.heap.size:=λhe=>by rw[he,FF] at q;cases q
   simp only[Gh.Ds,Ac this];exact q
  .obtain⟨DK,d,bg,p,pf,q,r⟩:=hi.cells id cs hc b hb;exact⟨DK,d,bg,by rw[EH _ _ (by rw[A5] at p;exact p.1)];exact p,pf,Bg.mono Ej cs _ q,r⟩
  .obtain⟨DD,clock,p,q⟩:=hi.map id es hc b hb;refine⟨DD,clock,by rw[EH _ _ (by rw[A5] at p;exact p.1)];exact p,?_,q.2⟩;replace q:=q.1;clear hc p;revert q;generalize DD.toList=l;intro q;induction es generalizing l with
   |nil=>exact q
   |cons kv es ih=>obtain⟨kk,f⟩:=kv;obtain⟨en,UQ,hl,a1,a2,a3⟩:=q;exact⟨en,UQ,hl,BO.mono Ej _ _ a1,BO.mono Ej _ _ a2,ih UQ a3⟩
  .by_cases N4:b=w.heap.size;.subst N4;simp
   .simp only[Gh.Ds,Ac N4] at hy;have:=hi.Bt b y hy;simp;omega
 .refine⟨Ej,AH,rfl,rfl,rfl,λb hb _=>⟨EH _ _ hb,?_⟩⟩;simp only[Gh.Ds,Ac (O2 hb)]
def Lc.mono{γ γ':Gh}(Ej:γ.le γ'):∀{es:List (Aa×Aa)} {l:List MapEntry},Lc γ es l->Lc γ' es l
 |[],l,q=>q
 |(kk,b)::es,l,q=>by obtain⟨en,UQ,hl,a1,a2,a3⟩:=q;exact⟨en,UQ,hl,BO.mono Ej _ _ a1,BO.mono Ej _ _ a2,a3.mono Ej⟩
def lj.mono{γ γ':Gh}(Ej:γ.le γ'){es:List (Aa×Aa)}{l:Array MapEntry}{c:Nat}(h:lj γ es l c):lj γ' es l c:=⟨h.1.mono Ej,h.2⟩
def GM(hi:Hk γ h w)(o:Obj)(x:Dw)(m:Option Nat)
  (hx:(∃cs us e fr,x= .cells cs/\o= .cells us e fr/\Tm fr us.size/\Bg γ cs (us.toList.take cs.length)/\(∀u∈us.toList.take cs.length,u.oneCell'=true)/\m=some us.size)\/(x= .map []/\o= .map #[] 0/\m=none)):
  Hk (γ.B0 w.heap.size h.length m) (h++[x]) (w.alloc o)/\Ld γ w (γ.B0 w.heap.size h.length m) (w.alloc o):=by
 have FF:γ.Bt w.heap.size=none:=by
  cases hc:γ.Bt w.heap.size with
  |none=>rfl
  |some y=>exact absurd (hi.Bt _ y hc) (Dr _)
 have c:γ.mu h.length=none:=by
  cases hc:γ.mu h.length with
  |none=>rfl
  |some y=>exact absurd (hi.mu _ y hc) (Dr _)
 have KW:γ.sz w.heap.size=none:=by
  cases hc:γ.sz w.heap.size with
  |none=>rfl
  |some y=>obtain⟨⟨_,_,_,p,_⟩,_⟩:=hi.sz _ y hc;rw[A5] at p;exact absurd p.1 (Dr _)
 have Ej:γ.le (γ.B0 w.heap.size h.length m):=⟨λ_ _ _ hv=>hv,λid b hm=>by
  have:id≠h.length:=λhe=>by rw[he,c] at hm;cases hm
  simp only[Gh.B0,Ac this];exact hm,λb n hm=>by
  have:b≠w.heap.size:=λhe=>by rw[he,KW] at hm;cases hm
  simp only[Gh.B0,Ac this];exact hm⟩
 constructor
 .refine⟨λb o' v hb=>?_,λid y Ij hy=>?_,λid cs hc b hb=>?_,λid es hc b hb=>?_,λid b hb=>?_,λb y hy=>?_,λb n hb=>?_⟩;rotate_left 6
  .by_cases N4:b=w.heap.size
   .subst N4;simp only[Gh.B0,BL] at hb;rcases hx with⟨GX,us,e,fr,rfl,rfl,pf,p,q,rfl⟩|⟨rfl,rfl,rfl⟩
    .cases hb;exact⟨⟨us,e,fr,heap_alloc_new w _,rfl⟩,.inr ⟨h.length,by simp[Gh.B0]⟩⟩
    .cases hb
   .simp only[Gh.B0,Ac N4] at hb⊢;obtain⟨⟨DK,d,bg,p,q⟩,r⟩:=hi.sz b n hb;exact⟨⟨DK,d,bg,by rw[EH _ _ (by rw[A5] at p;exact p.1)];exact p,q⟩,r⟩
  .obtain⟨p,q,r⟩:=hi.Io b o' v hb;have N4:b≠w.heap.size:=O2 (DM p);exact⟨by rw[World.cell?_alloc_old _ _ _ N4];exact p,q,by simp only[Gh.B0,Ac N4];exact r⟩
  .by_cases he:id=h.length;.exact⟨w.heap.size,by simp[Gh.B0,he],by simp[Gh.B0,he]⟩
   .have WC:id<h.length:=by rw[Al] at Ij;obtain⟨hl,_⟩:=Ij;simp at hl;omega
    rw[Aj WC] at Ij;obtain⟨b,p,q⟩:=hi.Md id y Ij hy;have N4:b≠w.heap.size:=λhe=>by rw[he,FF] at q;cases q
    exact⟨b,by simp only[Gh.B0,Ac he];exact p,by simp only[Gh.B0,Ac N4];exact q⟩
  .by_cases he:id=h.length
   .subst he;simp[Gh.B0] at hb;subst hb;simp at hc;rcases hx with⟨GX,us,e,fr,rfl,rfl,pf,p,q,rfl⟩|⟨rfl,rfl,rfl⟩
    .cases hc;exact⟨us,e,fr,heap_alloc_new w _,pf,Bg.mono Ej _ _ p,q⟩
    .cases hc
   .simp only[Gh.B0,Ac he] at hb;have WC:=hi.mu id b hb;rw[Aj WC] at hc;obtain⟨DK,d,bg,p,pf,q,r⟩:=hi.cells id cs hc b hb;exact⟨DK,d,bg,by rw[EH _ _ (by rw[A5] at p;exact p.1)];exact p,pf,Bg.mono Ej _ _ q,r⟩
  .by_cases he:id=h.length
   .subst he;simp[Gh.B0] at hb;subst hb;simp at hc;rcases hx with⟨GX,us,e,fr,rfl,rfl,pf,p,q,rfl⟩|⟨rfl,rfl,rfl⟩
    .cases hc
    .cases hc;exact⟨#[],0,heap_alloc_new w _,rfl,rfl,AH⟩
   .simp only[Gh.B0,Ac he] at hb;have WC:=hi.mu id b hb;rw[Aj WC] at hc;obtain⟨DD,clock,p,q⟩:=hi.map id es hc b hb;exact⟨DD,clock,by rw[EH _ _ (by rw[A5] at p;exact p.1)];exact p,q.mono Ej⟩
  .by_cases he:id=h.length;.simp[he]
   .simp only[Gh.B0,Ac he] at hb;have:=hi.mu id b hb;simp;omega
  .by_cases N4:b=w.heap.size;.subst N4;simp
   .simp only[Gh.B0,Ac N4] at hy;have:=hi.Bt b y hy;simp;omega
 .refine⟨Ej,AH,rfl,rfl,rfl,λb hb _=>⟨EH _ _ hb,?_⟩⟩;simp only[Gh.B0,Ac (O2 hb)]
def bh(hi:Hk γ h w){g s:Nat}(hg:γ.Bt g=some (.loc s))(us:Array Value):Hk γ h (w.setRow g us):=by
 refine⟨λb o v hb=>?_,hi.Md,λid cs hc b hb=>?_,λid es hc b hb=>?_,hi.mu,λb x hx=>?_,λb n hb=>?_⟩;rotate_left 4
 .obtain⟨p,r⟩:=hi.sz b n hb;have:b≠g:=λhe=>by subst he;rw[hg] at r;rcases r with r|⟨_,r⟩<;>cases r
  exact⟨by rw[setRow_other w g b us this];exact p,r⟩
 .obtain⟨p,q,r⟩:=hi.Io b o v hb;have:b≠g:=λhe=>by subst he;rw[hg] at r;rcases r with r|⟨_,_,_,r,_⟩<;>cases r
  exact⟨by rw[CQ (setRow_other w g b us this)];exact p,q,r⟩
 .have Q9:b≠g:=λhe=>by subst he;obtain⟨b',p,q⟩:=hi.Md id _ hc AH;rw[hb] at p;cases p;rw[hg] at q;cases q
  rw[setRow_other w g b us Q9];exact hi.cells id cs hc b hb
 .have Q9:b≠g:=λhe=>by subst he;obtain⟨b',p,q⟩:=hi.Md id _ hc AH;rw[hb] at p;cases p;rw[hg] at q;cases q
  rw[setRow_other w g b us Q9];exact hi.map id es hc b hb
 .have:=hi.Bt b x hx;simpa[World.setRow] using this
def Nn(hi:Hk γ h w){g id:Nat}{cs:List Aa}(hcs:h[id]?=some (.cells cs))(hg:γ.mu id=some g){us:Array Value}{e:TypeId}{fr:Nat×Nat}(hw:w.heap[g]?=some (.cells us e fr))(DK:Array Value)(GX:List Aa)(ZE:DK.size=us.size)(vI:Tm fr DK.size)
  (hr:Bg γ GX (DK.toList.take GX.length)) (h1:∀u∈DK.toList.take GX.length,u.oneCell'=true):
  Hk γ (h.set id (.cells GX)) (w.setRow g DK)/\Ld γ w γ (w.setRow g DK):=by
 obtain⟨f,p,Ta⟩:=hi.Md id _ hcs AH;rw[hg] at p;cases p;have uniq:∀FM x,h[FM]?=some x->x≠ .CO->γ.mu FM=some g->FM=id:=λFM x hx c hm=>by obtain⟨b',p,q⟩:=hi.Md FM x hx c;rw[hm] at p;cases p;rw[Ta] at q;cases q;rfl
 constructor
 .refine⟨λb o v hb=>?_,λFM y Ij hy=>?_,λFM cs hc b hb=>?_,λFM es hc b hb=>?_,λFM b hb=>by simpa using hi.mu FM b hb,λb x hx=>?_,λb n hb=>?_⟩;rotate_left 5
  .obtain⟨⟨pL,d,lq,p,q⟩,r⟩:=hi.sz b n hb;by_cases he:b=g;.subst he;rw[hw] at p;cases p;exact⟨⟨DK,e,fr,setRow_heap w b us DK e fr hw,by rw[ZE];exact q⟩,r⟩
   .exact⟨⟨pL,d,lq,by rw[setRow_other w g b DK he];exact p,q⟩,r⟩
  .obtain⟨p,q,r⟩:=hi.Io b o v hb;have:b≠g:=λhe=>by subst he;rw[Ta] at r;rcases r with r|⟨_,_,_,r,_⟩<;>cases r
   exact⟨by rw[CQ (setRow_other w g b DK this)];exact p,q,r⟩
  .by_cases he:FM=id;.subst he;exact⟨g,hg,Ta⟩
   .rw[Ap (λx=>he x.symm)] at Ij;exact hi.Md FM y Ij hy
  .by_cases he:FM=id;.subst he;rw[hg] at hb;cases hb;rw[AS (hi.mu _ _ hg)] at hc;cases hc;exact⟨DK,e,fr,setRow_heap w g us DK e fr hw,vI,hr,h1⟩
   .rw[Ap (λx=>he x.symm)] at hc;have Q9:b≠g:=λhx=>by subst hx;exact he (uniq FM _ hc AH hb)
    rw[setRow_other w g b DK Q9];exact hi.cells FM cs hc b hb
  .by_cases he:FM=id;.subst he;rw[AS (hi.mu _ _ hg)] at hc;cases hc
   .rw[Ap (λx=>he x.symm)] at hc;have Q9:b≠g:=λhx=>by subst hx;exact he (uniq FM _ hc AH hb)
    rw[setRow_other w g b DK Q9];exact hi.map FM es hc b hb
  .have:=hi.Bt b x hx;simpa[World.setRow] using this
 .refine⟨.refl _,by simp[World.setRow],rfl,rfl,rfl,λb hb hn=>⟨?_,rfl⟩⟩;exact setRow_other w g b DK (λhe=>by subst he;exact hn id Ta)
def pM(hi:Hk γ h w){g s st:Nat}{c:Option Nat}(hg:γ.Bt g=some (.tail s c st)){us:Array Value}{e:TypeId}(hw:w.heap[g]?=some (.cells us e (0,0)))(DK:Array Value)(k:Nat)(s':Nat)(c':Option Nat)
  (No:∀o,o<st->DK[o]?=us[o]?) (hk:st<=k) (h1:∀o u,o<k->DK[o]?=some u->u.oneCell'=true) (bM:∀o v,γ.Io g o=some v->us[o]?=some v):
  Hk (γ.Ds g DK k (some (.tail s' c' k))) h (w.setRow g DK)/\γ.le (γ.Ds g DK k (some (.tail s' c' k))):=by
 have hlt:∀o v,γ.Io g o=some v->o<st:=λo v ho=>by
  obtain⟨_,_,r⟩:=hi.Io g o v ho;rw[hg] at r;rcases r with r|⟨_,_,_,r,hl⟩
  .cases r
  .cases r;exact hl
 have Ej:γ.le (γ.Ds g DK k (some (.tail s' c' k))):=⟨λb o v hb=>by
  by_cases he:b=g;.subst he;have:=hlt o v hb;simp only[Gh.Ds,BL,Ae (LK this hk)];rw[No o this];exact bM o v hb
  .simp only[Gh.Ds,Ac he];exact hb,λ_ _ hm=>hm,λ_ _ hm=>hm⟩
 refine⟨⟨λb o v hb=>?_,λid y Ij hy=>?_,λid cs hc b hb=>?_,λid es hc b hb=>?_,hi.mu,λb x hx=>?_,λb n hb=>?_⟩,Ej⟩;rotate_left 5
 .obtain⟨p,r⟩:=hi.sz b n hb;have:b≠g:=λhe=>by subst he;rw[hg] at r;rcases r with r|⟨_,r⟩<;>cases r
  exact⟨by rw[setRow_other w g b DK this];exact p,by simp only[Gh.Ds,Ac this];exact r⟩
 .by_cases he:b=g
  .subst he;simp only[Gh.Ds,BL] at hb⊢;split at hb
   .rename_i hl;exact⟨by rw[cell_of_row _ _ _ DK e (0,0) (setRow_heap w b us DK e (0,0) hw)];exact hb,
     h1 o v hl hb,.inr ⟨s',c',k,rfl,hl⟩⟩
   .cases hb
  .simp only[Gh.Ds,Ac he] at hb⊢;obtain⟨p,q,r⟩:=hi.Io b o v hb;exact⟨by rw[CQ (setRow_other w g b DK he)];exact p,q,r⟩
 .obtain⟨b,p,q⟩:=hi.Md id y Ij hy;have:b≠g:=λhe=>by subst he;rw[hg] at q;cases q
  exact⟨b,p,by simp only[Gh.Ds,Ac this];exact q⟩
 .replace hb:γ.mu id=some b:=hb;obtain⟨b',p,q⟩:=hi.Md id _ hc AH;rw[hb] at p;cases p;have:b≠g:=λhe=>by subst he;rw[hg] at q;cases q
  rw[setRow_other w g b DK this];obtain⟨pL,j,lq,i,f,d,r2⟩:=hi.cells id cs hc b hb;exact⟨pL,j,lq,i,f,Bg.mono Ej _ _ d,r2⟩
 .replace hb:γ.mu id=some b:=hb;obtain⟨b',p,q⟩:=hi.Md id _ hc AH;rw[hb] at p;cases p;have:b≠g:=λhe=>by subst he;rw[hg] at q;cases q
  rw[setRow_other w g b DK this];obtain⟨DD,clock,i,d⟩:=hi.map id es hc b hb;exact⟨DD,clock,i,d.mono Ej⟩
 .by_cases he:b=g;.subst he;have:=hi.Bt b _ hg;simpa[World.setRow] using this
  .simp only[Gh.Ds,Ac he] at hx;have:=hi.Bt b x hx;simpa[World.setRow] using this
def Ld.write{γ0 c:Gh}{w0:World}(ha:Ld γ0 w0 γ w){w1:World}{g:Nat}(hg:w0.heap.size<=g)(Ej:γ.le c)(hs:w1.heap.size=w.heap.size)(h1:w1.os=w.os)(h2:w1.tape=w.tape)(e:w1.output=w.output)
  (hk:∀b,b≠g->w1.heap[b]?=w.heap[b]?/\c.Bt b=γ.Bt b):Ld γ0 w0 c w1:=by
 refine⟨ha.le.trans Ej,by rw[hs];exact ha.size,h1.trans ha.os,h2.trans ha.tape,e.trans ha.output,λb hb hn=>?_⟩;.obtain⟨p,q⟩:=ha.N3 b hb hn;obtain⟨p',d⟩:=hk b Ab;exact⟨p'.trans p,d.trans q⟩
def ls(hi:Hk γ h w){g id:Nat}{cs:List Aa}(hcs:h[id]?=some (.cells cs))(hg:γ.mu id=some g){us:Array Value}{e:TypeId}{fr:Nat×Nat}(hw:w.heap[g]?=some (.cells us e fr))(h1:∀u∈us.toList.take cs.length,u.oneCell'=true):
  Hk (γ.Ds g us cs.length none) (h.set id .CO) w/\Ld γ w (γ.Ds g us cs.length none) w:=by
 obtain⟨f,p,Ta⟩:=hi.Md id _ hcs AH;rw[hg] at p;cases p;have uniq:∀FM x,h[FM]?=some x->x≠ .CO->γ.mu FM=some g->FM=id:=λFM x hx c hm=>by obtain⟨b',p,q⟩:=hi.Md FM x hx c;rw[hm] at p;cases p;rw[Ta] at q;cases q;rfl
 have hne:∀o v,γ.Io g o=some v->False:=λo v hv=>by obtain⟨_,_,r⟩:=hi.Io g o v hv;rw[Ta] at r;rcases r with r|⟨_,_,_,r,_⟩<;>cases r
 have Ej:γ.le (γ.Ds g us cs.length none):=⟨λb o v hb=>by
  have:b≠g:=λhe=>by subst he;exact hne o v hb
  simp only[Gh.Ds,Ac this];exact hb,λ_ _ hm=>hm,λ_ _ hm=>hm⟩
 constructor
 .refine⟨λb o v hb=>?_,λFM y Ij hy=>?_,λFM GX hc b hb=>?_,λFM es hc b hb=>?_,λFM b hb=>by simpa using hi.mu FM b hb,λb x hx=>?_,λb n hb=>?_⟩;rotate_left 5
  .obtain⟨p,r⟩:=hi.sz b n hb;by_cases he:b=g;.subst he;exact⟨p,.inl (by simp[Gh.Ds])⟩
   .exact⟨p,by simp only[Gh.Ds,Ac he];exact r⟩
  .by_cases he:b=g
   .subst he;simp only[Gh.Ds,BL] at hb⊢;split at hb;.rename_i hlt;exact⟨by rw[cell_of_row _ _ _ us e fr hw];exact hb,h1 v (CC (i:=o) (by rw[CV hlt];simpa using hb)),.inl AH⟩
    .cases hb
   .simp only[Gh.Ds,Ac he] at hb⊢;exact hi.Io b o v hb
  .by_cases he:FM=id;.subst he;rw[AS (hi.mu _ _ hg)] at Ij;cases Ij;exact absurd rfl hy
   .rw[Ap (λx=>he x.symm)] at Ij;obtain⟨b,p,q⟩:=hi.Md FM y Ij hy;have:b≠g:=λhx=>by subst hx;exact he (uniq FM y Ij hy p)
    exact⟨b,p,by simp only[Gh.Ds,Ac this];exact q⟩
  .by_cases he:FM=id;.subst he;rw[AS (hi.mu _ _ hg)] at hc;cases hc
   .rw[Ap (λx=>he x.symm)] at hc;obtain⟨DK,d,bg,p,pf,q,r⟩:=hi.cells FM GX hc b hb;exact⟨DK,d,bg,p,pf,Bg.mono Ej _ _ q,r⟩
  .by_cases he:FM=id;.subst he;rw[AS (hi.mu _ _ hg)] at hc;cases hc
   .rw[Ap (λx=>he x.symm)] at hc;obtain⟨DK,d,p,q⟩:=hi.map FM es hc b hb;exact⟨DK,d,p,q.mono Ej⟩
  .by_cases he:b=g;.subst he;exact hi.Bt b _ Ta
   .simp only[Gh.Ds,Ac he] at hx;exact hi.Bt b x hx
 .refine⟨Ej,Ag _,rfl,rfl,rfl,λb hb hn=>⟨rfl,?_⟩⟩;have:b≠g:=λhe=>by subst he;exact hn id Ta
  simp only[Gh.Ds,Ac this]
end
end Go.Am
end
section
namespace Go.Am
def EJ.Np(C:FW)(run:IT->Ah->Option J6)(U:BR)(h:Ah)(e:BR)(h':Ah):EJ->Prop
 | .pure ws=>e=U.Eh ws/\h'=h
 | .op p args dst Bt i=>∃v,AE p args=some v/\e=(U.DL i).put dst (if Bt then .Bt v else .val v)/\h'=h
 | .box n v d=>v.cells.length=n/\e=U.set d (.box 0 v.cells [])/\h'=h
 | .closure fn a b fz d=>e=(U.Eh (fz.map λ(s,cs)=>(s,.val (.CG cs)))).set d (.val (.func fn a b))/\h'=h
 | .M6 s off n v Bt i ver cells owned=>v.cells.length=n/\e=(U.DL i).set s (.box (ver+1) (Ww cells off n v.cells) (RQ owned off n Bt))/\h'=h
 | .load n p dst=>∃v,Bd h n p=some v/\e=U.put dst (.val v)/\h'=h
 | .store n p v=>Cx h n p v=some h'/\e=U
 | .alloc n v dst=>v.cells.length=n/\h'=h++[.cells v.cells]/\e=U.put dst (.val (.ptr (some (h.length,0))))
 | .call f args dst=>∃r,run (Ca C f args) h=some (.ret,[r],h')/\e=U.put dst (if C.Jh f then .Bt r else .val r)
 | .Ja g args dst=>∃f args' r,Di g args=some (f,args')/\run (Ca C f args') h=some (.ret,[r],h')/\e=U.put dst (.val r)
 | .BV f args dst=>args.all Aa.MI=true/\∃r h1,run (Ca C f args) []=some (.ret,[r],h1)/\r.MI=true/\e=U.put dst (.val r)/\h'=h
 | .O6 dst=>h'=h++[.map []]/\e=U.put dst (.val (.map (some h.length)))
 | .Kv m k v=>T3 h m k v=some h'/\e=U
 | .make z b zero l c dst=>∃v,RO h z b zero l c=some (h',v)/\e=U.put dst (.val v)
 | .K9 z b s x dst i=>∃v,KF h z b s x=some (h',v)/\e=(U.DL i).put dst (.val v)
 | .IP z b s x dst=>∃v,F8 h z b s x=some (h',v)/\e=U.put dst (.val v)
 | .Gx z b s x dst i=>∃v,QF h z b s x=some v/\e=(U.DL i).put dst (.Bt v)/\h'=h
 | .Fb s dst=>∃v,IQ h s=some (h',v)/\e=U.put dst (.val v)
 | .Wh s dst=>∃v u,Kw h s=some (h',v)/\AE .Wh [v]=some u/\e=U.put dst (.val u)
 | .mem o args dst=>∃v,E4 o h args=some (h',v)/\e=U.put dst (if o.aDU then .undef else .val v)
 | .L9 z ok m k dst=>∃v,T4 h z ok m k=some v/\e=U.put dst (.val v)/\h'=h
def Tn{n:Nat}{cs:List Aa}(h:cs.length=n):Wv n cs=cs:=by
 subst h;apply Q3;intro i;simp only[Wv,Cl,List.getD];by_cases hi:i<cs.length;.simp[List.getElem?_range hi,Ai hi]
 .simp[hi]
def ZF{C:FW}{run:IT->Ah->Option J6}{U:BR}{K:BR->IT}{h:Ah}{R:J6}{r:EJ}
  (hr:IT.step (Ca C) run (r.Mc C U K) h=some R):∃i h',r.Np C run U h i h'/\IT.step (Ca C) run (K i) h'=some R:=by
 cases r with
 |pure ws=>exact⟨_,_,⟨rfl,rfl⟩,hr⟩
 |op p args dst Bt e=>
  simp only[EJ.Mc,IT.step] at hr;split at hr;.rename_i v hv;exact⟨_,_,⟨v,hv,rfl,rfl⟩,hr⟩
  .cases hr
 |box n v d=>
  simp only[EJ.Mc,IT.step] at hr;split at hr;.rename_i hn;rw[Tn hn] at hr;exact⟨_,_,⟨hn,rfl,rfl⟩,hr⟩
  .cases hr
 |closure fn a b fz d=>exact⟨_,_,⟨rfl,rfl⟩,hr⟩
 |M6 s off n v Bt e ver cells owned=>
  simp only[EJ.Mc,IT.step] at hr;split at hr;.rename_i hn;rw[Tn hn] at hr;exact⟨_,_,⟨hn,rfl,rfl⟩,hr⟩
  .cases hr
 |load n p dst=>
  simp only[EJ.Mc,IT.step] at hr;split at hr;.rename_i v hv;exact⟨_,_,⟨v,hv,rfl,rfl⟩,hr⟩
  .cases hr
 |store n p v=>
  simp only[EJ.Mc,IT.step] at hr;split at hr;.rename_i h1 hv;exact⟨_,_,⟨hv,rfl⟩,hr⟩
  .cases hr
 |alloc n v dst=>
  simp only[EJ.Mc,IT.step,Wk] at hr;by_cases hn:v.cells.length=n;.rw[Ae hn] at hr;exact⟨_,_,⟨hn,rfl,rfl⟩,hr⟩
  .rw[Ac hn] at hr;cases hr
 |call f args dst=>
  simp only[EJ.Mc,IT.step] at hr;split at hr;.rename_i r h1 hv;exact⟨_,_,⟨r,hv,rfl⟩,hr⟩
  .cases hr
 |Ja g args dst=>
  simp only[EJ.Mc,IT.step] at hr;split at hr
  .rename_i f a' ht;split at hr;.rename_i r h1 hv;exact⟨_,_,⟨f,a',r,ht,hv,rfl⟩,hr⟩
   .cases hr
  .cases hr
 |BV f args dst=>
  simp only[EJ.Mc,IT.step] at hr;split at hr
  .rename_i Ho;split at hr
   .rename_i r h1 hv;split at hr;.rename_i je;exact⟨_,_,⟨Ho,r,h1,hv,je,rfl,rfl⟩,hr⟩
    .cases hr
   .cases hr
  .cases hr
 |O6 dst=>exact⟨_,_,⟨rfl,rfl⟩,hr⟩
 |Kv m k v=>
  simp only[EJ.Mc,IT.step] at hr;split at hr;.rename_i h1 hv;exact⟨_,_,⟨hv,rfl⟩,hr⟩
  .cases hr
 |L9 z ok m k dst=>
  simp only[EJ.Mc,IT.step] at hr;split at hr;.rename_i v hv;exact⟨_,_,⟨v,hv,rfl,rfl⟩,hr⟩
  .cases hr
 |make z b zero l c dst=>
  simp only[EJ.Mc,IT.step] at hr;split at hr;.rename_i h1 v hv;exact⟨_,_,⟨v,hv,rfl⟩,hr⟩
  .cases hr
 |K9 z b s x dst e=>
  simp only[EJ.Mc,IT.step] at hr;split at hr;.rename_i h1 v hv;exact⟨_,_,⟨v,hv,rfl⟩,hr⟩
  .cases hr
 |IP z b s x dst=>
  simp only[EJ.Mc,IT.step] at hr;split at hr;.rename_i h1 v hv;exact⟨_,_,⟨v,hv,rfl⟩,hr⟩
  .cases hr
 |Gx z b s x dst e=>
  simp only[EJ.Mc,IT.step] at hr;split at hr;.rename_i v hv;exact⟨_,_,⟨v,hv,rfl,rfl⟩,hr⟩
  .cases hr
 |Fb s dst=>
  simp only[EJ.Mc,IT.step] at hr;split at hr;.rename_i h1 v hv;exact⟨_,_,⟨v,hv,rfl⟩,hr⟩
  .cases hr
 |Wh s dst=>
  simp only[EJ.Mc,IT.step] at hr;split at hr
  .rename_i h1 v hv;split at hr;.rename_i u hu;exact⟨_,_,⟨v,u,hv,hu,rfl⟩,hr⟩
   .cases hr
  .cases hr
 |mem o args dst=>
  simp only[EJ.Mc,IT.step] at hr;split at hr;.rename_i h1 v hv;exact⟨_,_,⟨v,hv,rfl⟩,hr⟩
  .cases hr
structure C9(C:FW)(γ0:Gh)(w0:World)(γ:Gh)(β:Nat->Nat)(U:BR)(h:Ah)(a:Act)(w:World):Prop where
 D3:Hk γ h w
 fr:FR γ β w0.heap.size U a.tmps w
 DW:Ld γ0 w0 γ w
 defers:a.defers=[]
 GZ:∀g cs,C.GZ g=some cs->C1 γ cs g 0
def RV{γ:Gh}{v:Value}{a:Aa}(h:O5 v=some a):BO γ a v/\v.oneCell'=true:=by
 unfold O5 at h;split at h;case h_7=>
  rename_i fn f c;split at h;.rename_i hs;cases h;have d:f=#[]:=F0 hs.1;have b:c=#[]:=F0 hs.2;subst d;subst b;exact⟨⟨#[],#[],rfl,rfl,rfl⟩,rfl⟩
  .cases h
 all_goals first
  |(cases h;exact⟨rfl,rfl⟩)
  |cases h
def M8{γ:Gh}:∀{vs:List Value} {as:List Aa},L2 vs=some as->Bg γ as vs/\∀v∈vs,v.oneCell'=true
 |[],as,h=>by cases h;exact⟨rfl,AH⟩
 |v::vs,as,h=>by
  unfold L2 at h;split at h;.rename_i a c h1 h2;cases h;obtain⟨p,q⟩:=RV (γ:=γ) h1;obtain⟨p',b⟩:=M8 (γ:=γ) h2;exact⟨⟨v,vs,rfl,p,p'⟩,λx hx=>(AT.1 hx).elim (λe=>by rw[e];exact q) (b x)⟩
  .cases h
def Fu{γ:Gh}{v:Value}{a:Aa}(h:KV v=some a):BO γ a v:=by
 unfold KV at h;split at h
 .rename_i cs;cases hs:L2 cs.toList with
  |none=>rw[hs] at h;cases h
  |some as=>rw[hs] at h;cases h;obtain⟨p,q⟩:=M8 (γ:=γ) hs;exact⟨cs,rfl,p,q⟩
 .exact(RV h).1
section
variable{C:FW}{γ0 γ:Gh}{w0 w:World}{β:Nat->Nat}{U:BR}{h:Ah}{a:Act}
def Ra(hr:C9 C γ0 w0 γ β U h a w){x:Operand}{sl:En}(hx:Ec C U x=some sl)(hn:∀s,x≠ .tmp s):∃s,LB γ β w0.heap.size w s sl (a.eval x):=by
 unfold Ec at hx;split at hx;.exact absurd rfl (hn _)
 .cases hx;exact⟨0,rfl⟩
 .cases hx;exact⟨0,rfl,.inl (.inl rfl)⟩
 .rename_i v _ _;cases hc:KV v with
  |none=>rw[hc] at hx;cases hx
  |some u=>rw[hc] at hx;cases hx;exact⟨0,Fu hc⟩
 .rename_i g;cases hc:C.GZ g with
  |none=>rw[hc] at hx;cases hx
  |some cs=>rw[hc] at hx;cases hx;exact⟨0,g,0,rfl,hr.GZ g cs hc⟩
 .cases hx;exact⟨0,#[],#[],rfl,rfl,rfl⟩
def RY(hr:C9 C γ0 w0 γ β U h a w)(s:Nat):LB γ β w0.heap.size w s (U.at s) (a.eval (.tmp s)):=hr.fr.Ii s
def Gp(hr:C9 C γ0 w0 γ β U h a w){x:Operand}{sl:En}(hx:Ec C U x=some sl):∃s,LB γ β w0.heap.size w s sl (a.eval x)/\∀t,x= .tmp t->s=t:=by
 cases x with
 |tmp t=>cases hx;exact⟨t,RY hr t,λ_ h=>by cases h;rfl⟩
 |const v=>obtain⟨s,h1⟩:=Ra hr hx (by intro s h;cases h);exact⟨s,h1,λ_ h=>by cases h⟩
 |global g=>obtain⟨s,h1⟩:=Ra hr hx (by intro s h;cases h);exact⟨s,h1,λ_ h=>by cases h⟩
 |func f=>obtain⟨s,h1⟩:=Ra hr hx (by intro s h;cases h);exact⟨s,h1,λ_ h=>by cases h⟩
def Nq{B s:Nat}{sl:En}{v:Value}{u:Aa}(hs:LB γ β B w s sl v)(hv:sl.Hq=some u):BO γ u v:=by
 cases sl<;>simp[En.Hq] at hv;.subst hv;exact hs
 .subst hv;exact hs
 .subst hv;exact hs.1
def GI(hr:C9 C γ0 w0 γ β U h a w){x:Operand}{u:Aa}(hx:E5 C U x=some u):BO γ u (a.eval x):=by
 unfold E5 at hx;cases hs:Ec C U x with
 |none=>rw[hs] at hx;cases hx
 |some sl=>rw[hs] at hx;obtain⟨s,h1,_⟩:=Gp hr hs;exact Nq h1 hx
def DY(hr:C9 C γ0 w0 γ β U h a w):∀{xs:List Operand} {us:List Aa},Bx C U xs=some us->Bg γ us (xs.map a.eval)
 |[],us,hx=>by cases hx;rfl
 |x::xs,us,hx=>by
  unfold Bx at hx;split at hx;.rename_i u DK h1 h2;cases hx;exact⟨_,_,rfl,GI hr h1,DY hr h2⟩
  .cases hx
def FR.put{B:Nat}{tmps:Array Value}(hf:FR γ β B U tmps w){d:Nat}{x:En}{v:Value}(hx:LB γ β B w d x v):FR γ β B (U.set d x) (tmps.setIfInBounds d v) w:=by
 refine⟨by simp[hf.size],λs=>?_⟩;have hs:=hf.Ii s;by_cases he:s=d
 .subst he;by_cases hl:s<U.length
  .have b:s<tmps.size:=by rw[<-hf.size];exact hl
   simpa[BR.at,List.getD,hl,b,Array.getD] using hx
  .have b:¬s<tmps.size:=by rw[<-hf.size];exact hl
   simpa[BR.at,List.getD,hl,b,Array.getD] using hs
 .have h1:BR.at (U.set d x) s=U.at s:=by simp[BR.at,List.getD,Ap (λe=>he e.symm)]
  have h2:(tmps.setIfInBounds d v).getD s undef=tmps.getD s undef:=by simp[Hi,pD (λe=>he e.symm)]
  rw[h1,h2];exact hs
def FR.kK{B:Nat}{tmps:Array Value}(hf:FR γ β B U tmps w){d:Nat}{x:En}(hx:LB γ β B w d x (tmps.getD d undef)):FR γ β B (U.set d x) tmps w:=by
 refine⟨by simp[hf.size],λs=>?_⟩;have hs:=hf.Ii s;by_cases he:s=d
 .subst he;by_cases hl:s<U.length;.simpa[BR.at,List.getD,hl] using hx
  .simpa[BR.at,List.getD,hl] using hs
 .have h1:BR.at (U.set d x) s=U.at s:=by simp[BR.at,List.getD,Ap (λe=>he e.symm)]
  rw[h1];exact hs
def C9.put(hr:C9 C γ0 w0 γ β U h a w){d:Option Nat}{x:En}{v:Value}(hx:∀s,d=some s->LB γ β w0.heap.size w s x v):C9 C γ0 w0 γ β (U.put d x) h (a.put d v) w:=by
 cases d with
 |none=>exact hr
 |some d=>exact⟨hr.D3,hr.fr.put (hx d rfl),hr.DW,hr.defers,hr.GZ⟩
def C9.kK(hr:C9 C γ0 w0 γ β U h a w){d:Nat}{x:En}(hx:LB γ β w0.heap.size w d x (a.tmps.getD d undef)):C9 C γ0 w0 γ β (U.set d x) h a w:=
 ⟨hr.D3,hr.fr.kK hx,hr.DW,hr.defers,hr.GZ⟩
def C9.drop(hr:C9 C γ0 w0 γ β U h a w)(ds:List Nat):C9 C γ0 w0 γ β (U.drop ds) h a w:=by
 cases ds with
 |nil=>exact hr
 |cons d ds=>
  refine⟨hr.D3,⟨by simp[BR.drop,hr.fr.size],λs=>?_⟩,hr.DW,hr.defers,hr.GZ⟩;have hs:=hr.fr.Ii s;have e:(BR.drop U (d::ds)).at s=match U.at s with| .Fk t o=>if(d::ds).contains t then .undef else .Fk t o|x=>x:=by
   simp only[BR.drop,BR.at,List.getD,Cl];cases hg:U[s]? with
   |none=>rfl
   |some x=>cases x<;>rfl
  rw[e];cases hx:U.at s with
  |Fk t o=>
   rw[hx] at hs;simp only
   split;.trivial
   .exact hs
  |_=>rw[hx] at hs;exact hs
def C9.Jb(hr:C9 C γ0 w0 γ β U h a w){γ':Gh}{h':Ah}{w':World}(hi:Hk γ' h' w')(ha:Ld γ w γ' w'):C9 C γ0 w0 γ' β U h' a w':=
 ⟨hi,hr.fr.kept (be.aAA hr.D3 ha),hr.DW.trans ha,hr.defers,λg cs hg=>C1.mono ha.le _ _ _ (hr.GZ g cs hg)⟩
def Js{P:Program}{o:Oper}{v:Value}{w':World}{next:Act->World->Prop}{Q:Exit->Act->World->Prop}(he:(execOp a.eval o).run P w= .ok (.value v) w')(hn:next (a.put o.dst v) w'):o.wp P a w next Q:=by unfold Oper.wp;rw[he];exact hn
def pO{P:Program}{o:Oper}{w':World}{next:Act->World->Prop}{Q:Exit->Act->World->Prop}(he:(execOp a.eval o).run P w= .ok .skip w')(hn:next (a.put o.dst undef) w'):o.wp P a w next Q:=by unfold Oper.wp;rw[he];exact hn
end
end Go.Am
end
section
namespace Go.Am
def Gh.FN(γ:Gh)(g:Nat)(x:KC):Gh:={γ with Bt:=λb=>if b=g then some x else γ.Bt b}
section
variable{C:FW}{γ0 γ:Gh}{w0 w:World}{β:Nat->Nat}{U:BR}{h:Ah}{a:Act}
def Hr(γ:Gh)(g:Nat)(x:KC):γ.le (γ.FN g x):=⟨λ_ _ _ h=>h,λ_ _ h=>h,λ_ _ h=>h⟩
def Hk.FN(hi:Hk γ h w){g s s' st:Nat}{c c':Option Nat}(hg:γ.Bt g=some (.tail s c st)):Hk (γ.FN g (.tail s' c' st)) h w:=by
 refine⟨λb o v hb=>?_,λid y Ij hy=>?_,λid cs hc b hb=>?_,λid es hc b hb=>?_,hi.mu,λb x hx=>?_,λb n hb=>?_⟩;rotate_left 5
 .obtain⟨p,r⟩:=hi.sz b n hb;have:b≠g:=λhe=>by subst he;rw[hg] at r;rcases r with r|⟨_,r⟩<;>cases r
  exact⟨p,by simp only[Gh.FN,Ac this];exact r⟩
 .obtain⟨p,q,r⟩:=hi.Io b o v hb;refine⟨p,q,?_⟩;by_cases he:b=g
  .subst he;rw[hg] at r;rcases r with r|⟨_,_,_,r,hl⟩
   .cases r
   .cases r;exact .inr ⟨s',c',st,by simp[Gh.FN],hl⟩
  .simpa only[Gh.FN,Ac he] using r
 .obtain⟨b,p,q⟩:=hi.Md id y Ij hy;have:b≠g:=λhe=>by subst he;rw[hg] at q;cases q
  exact⟨b,p,by simp only[Gh.FN,Ac this];exact q⟩
 .obtain⟨us,e,fr,p,pf,q,r⟩:=hi.cells id cs hc b hb;exact⟨us,e,fr,p,pf,Bg.mono (Hr γ g _) _ _ q,r⟩
 .obtain⟨us,e,p,q⟩:=hi.map id es hc b hb;exact⟨us,e,p,q.mono (Hr γ g _)⟩
 .by_cases he:b=g;.subst he;exact hi.Bt b _ hg
  .simp only[Gh.FN,Ac he] at hx;exact hi.Bt b x hx
def IU.FN{B:Nat}{s b st:Nat}{c f:Option Nat}{v:Value}{u:Aa}{x:KC}{g:Nat}(hg:γ.Bt g=some (.tail s c st))(ho:IU γ B w b f v u)(hne:b≠s\/f≠c):IU (γ.FN g x) B w b f v u:=by
 rcases ho with ho|⟨g2,n,cap,us,e,z,AD,h1,h2,d,i⟩
 .exact .inl ho
 .have:g2≠g:=λhe=>by subst he;rw[hg] at d;cases d;rcases hne with hne|hne<;>exact hne rfl
  exact .inr ⟨g2,n,cap,us,e,z,AD,h1,h2,by simp only[Gh.FN,Ac this];exact d,i⟩
def FR.FN{B:Nat}{tmps:Array Value}(hf:FR γ β B U tmps w){g s st:Nat}{c:Option Nat}{x:KC}(hg:γ.Bt g=some (.tail s c st))
  (h1:c=none->∀v,U.at s≠ .Bt v) (h2:∀o,c=some o->∀ver cs ow,U.at s= .box ver cs ow->o∉ow):FR (γ.FN g x) β B U tmps w:=by
 refine⟨hf.size,λd=>?_⟩;have hs:=hf.Ii d;cases hx:U.at d with
 |undef=>trivial
 |skip=>rw[hx] at hs;exact hs
 |val u=>rw[hx] at hs;exact BO.mono (Hr γ g x) _ _ hs
 |OS b=>rw[hx] at hs;exact hs
 |Bt u=>
  rw[hx] at hs;refine⟨BO.mono (Hr γ g x) _ _ hs.1,hs.2.FN hg ?_⟩;by_cases he:d=s
  .subst he;cases c with
   |none=>exact absurd hx (h1 rfl u)
   |some o=>exact .inr AH
  .exact .inl he
 |box ver cs ow=>
  rw[hx] at hs;obtain⟨r,f,q,us,e,p,n,m,l⟩:=hs;have hb:β d≠g:=λhe=>by rw[he,hg] at f;cases f
  refine⟨r,by simp only[Gh.FN,Ac hb];exact f,q,us,e,p,Bg.mono (Hr γ g x) _ _ n,m,λo ho=>?_⟩;obtain⟨u,v,k,j,i⟩:=l o ho;refine⟨u,v,k,j,i.FN hg ?_⟩;by_cases he:d=s
  .subst he;cases c with
   |none=>exact .inr AH
   |some o'=>refine .inr λhe=>?_;cases he;exact h2 o rfl ver cs ow hx ho
  .exact .inl he
 |Fk s' o=>rw[hx] at hs;exact hs
def C9.FN(hr:C9 C γ0 w0 γ β U h a w){g s st s':Nat}{c c':Option Nat}(hg:γ.Bt g=some (.tail s c st))(hB:w0.heap.size<=g)
  (h1:c=none->∀v,U.at s≠ .Bt v) (h2:∀o,c=some o->∀ver cs ow,U.at s= .box ver cs ow->o∉ow):C9 C γ0 w0 (γ.FN g (.tail s' c' st)) β U h a w:=by
 refine⟨hr.D3.FN hg,hr.fr.FN hg h1 h2,?_,hr.defers,λx cs hx=>C1.mono (Hr γ g _) _ _ _ (hr.GZ x cs hx)⟩;refine⟨hr.DW.le.trans (Hr γ g _),hr.DW.size,hr.DW.os,hr.DW.tape,hr.DW.output,λb hb hn=>?_⟩;.obtain⟨p,q⟩:=hr.DW.N3 b hb hn;exact⟨p,by simp only[Gh.FN,Ac (Ab:b≠g)];exact q⟩
def BR.Fv{s:Nat}{x:En}(hs:s<U.length):BR.at (U.set s x) s=x:=by simp[BR.at,List.getD,hs]
def BR.Gd{s t:Nat}{x:En}(hs:s≠t):BR.at (U.set s x) t=U.at t:=by simp[BR.at,List.getD,Ap hs]
def BR.Pe{s:Nat}(hs:U.at s≠ .undef):s<U.length:=by
 rcases AN s U.length with h|h
 .exact h
 .exact absurd (by simp[BR.at,List.getD,D9 h]) hs
def C9.take(hr:C9 C γ0 w0 γ β U h a w){s:Nat}{v:Aa}(hs:U.at s= .Bt v)(s':Nat)(c':Option Nat):
  ∃γ',γ.le γ'/\C9 C γ0 w0 γ' β (U.set s (.val v)) h a w/\BO γ' v (a.tmps.getD s undef)/\IU γ' w0.heap.size w s' c' (a.tmps.getD s undef) v:=by
 have h0:=hr.fr.Ii s;rw[hs] at h0;obtain⟨hv,ho⟩:=h0;have Kt:C9 C γ0 w0 γ β (U.set s (.val v)) h a w:=hr.kK hv;have hl:s<U.length:=BR.Pe (by rw[hs];simp);rcases ho with ho|⟨g,n,cap,us,e,z,AD,h1,h2,d,b,c⟩
 .exact⟨γ,.refl _,Kt,hv,.inl ho⟩
 .refine⟨γ.FN g (.tail s' c' (n*z)),Hr _ _ _,Kt.FN d b (λ_ u=>?_) (λo ho=>by cases ho),BO.mono (Hr _ _ _) _ _ hv,.inr ⟨g,n,cap,us,e,z,AD,h1,h2,by simp[Gh.FN],b,c⟩⟩;rw[BR.Fv hl];simp
def bN{B s d:Nat}{sl b:En}{v:Value}(hs:LB γ β B w s sl v)(hc:Iu sl=some b):LB γ β B w d b v:=by
 cases sl<;>simp[Iu] at hc;.subst hc;exact hs
 .subst hc;exact hs
 .subst hc;exact hs.1
 .subst hc;exact hs
def N5{ws:List (Nat×En)}(h:∀p∈ws,∀cs ow,p.2≠ .box 0 cs ow):(EJ.pure ws).news=[]:=by
 simp only[EJ.news,List.filterMap_eq_nil_iff];rintro⟨s,x⟩ hp;have:=h _ hp;cases x with
 |box ver cs ow=>
  cases ver with
  |zero=>exact absurd rfl (this cs ow)
  |succ n=>rfl
 |_=>rfl
def RZ{v:Value}{sl:En}(hs:Ec C U (.const v)=some sl):(∀B d,LB γ β B w d sl v)/\∀ver cs ow,sl≠ .box ver cs ow:=by
 unfold Ec at hs;split at hs;.rename_i Ku;cases Ku
 .rename_i Ku;cases Ku;cases hs;exact⟨λ_ _=>rfl,λ_ _ _ h=>by cases h⟩
 .rename_i Ku;cases Ku;cases hs;exact⟨λ_ _=>⟨rfl,.inl (.inl rfl)⟩,λ_ _ _ h=>by cases h⟩
 .rename_i Ku;cases Ku;cases hc:KV v with
  |none=>rw[hc] at hs;cases hs
  |some u=>rw[hc] at hs;cases hs;exact⟨λ_ _=>Fu hc,λ_ _ _ h=>by cases h⟩
 .rename_i Ku;cases Ku
 .rename_i Ku;cases Ku
def Hd{s:Nat}{sl:En}(hs:Ec C U (.tmp s)=some sl):U.at s=sl:=D2 hs
def pP{x:Operand}{v:Aa}(hs:Ec C U x=some (.Bt v))(hn:∀c,x≠ .const c):∃s,x= .tmp s/\U.at s= .Bt v:=by
 cases x with
 |tmp s=>exact⟨s,rfl,Hd hs⟩
 |const c=>exact absurd rfl (hn c)
 |global g=>have Vw:(C.GZ g).map (λcs=>En.val (Aa.CG cs))=some (.Bt v):=hs;cases hc:C.GZ g<;>rw[hc] at Vw<;>cases Vw
 |func f=>cases hs
def R2{x:Operand}{d:Nat}{take:Bool}{r:EJ}{run:IT->Ah->Option J6}{e:BR}{h':Ah}(hm:KG C U x d take=some r)(hd:r.Np C run (U.drop r.news) h e h')
  (hr:C9 C γ0 w0 γ β U h a w):∃γ',C9 C γ0 w0 γ' β e h' (a.put (some d) (a.eval x)) w:=by
 unfold KG at hm;split at hm;.rename_i s _ _ _ hs;cases hm;rw[N5 AH] at hd;obtain⟨rfl,rfl⟩:=hd;refine⟨γ,hr.put (d:=some d) λt ht=>?_⟩;have h0:=RY hr s;rw[Hd hs] at h0;exact h0.1
 .rename_i v sl hs;cases hm;obtain⟨p,q⟩:=RZ (γ:=γ) (β:=β) (w:=w) hs;rw[N5 (by simpa using λcs ow=>q 0 cs ow)] at hd;obtain⟨rfl,rfl⟩:=hd;exact⟨γ,hr.put (d:=some d) λt _=>p _ t⟩
 .rename_i v hnc hs;split at hm;.cases hm;obtain⟨s,rfl,ł⟩:=pP hs (λc hc=>hnc c hc);rw[N5 (by simp[RP])] at hd;obtain⟨rfl,rfl⟩:=hd;obtain⟨γ',Ej,FX,DC,xc⟩:=hr.take ł d none;exact⟨γ',FX.put (d:=some d) λt ht=>by cases ht;exact⟨DC,xc⟩⟩
  .simp only[Iu,B9] at hm;cases hm;rw[N5 AH] at hd;obtain⟨rfl,rfl⟩:=hd;obtain⟨s,h1,_⟩:=Gp hr hs;exact⟨γ,hr.put (d:=some d) λt ht=>h1.1⟩
 .rename_i sl _ _ _ hs;cases hc:Iu sl with
  |none=>rw[hc] at hm;cases hm
  |some b=>
   rw[hc] at hm;cases hm;have vJ:∀cs ow,b≠ .box 0 cs ow:=by intro cs ow he;subst he;cases sl<;>simp[Iu] at hc
   rw[N5 (by simpa using vJ)] at hd;obtain⟨rfl,rfl⟩:=hd;obtain⟨s,h1,_⟩:=Gp hr hs;exact⟨γ,hr.put (d:=some d) λt ht=>bN h1 hc⟩
 .cases hm
end
end Go.Am
end
section
namespace Go.Am
open Go
def WD{s:Sem Value}{v:Value}(h:P3 s=some v):s= .pure v:=by cases s<;>simp[P3] at h;subst h;rfl
section
variable{P:Program}{γ:Gh}{w:World}
def kL{op:BinOp}{k l:IntKind}{x y:Int}{u:Aa}(t:TypeId)(c b:Operand)(h:uS op k x l y=some u):
  ∃v,(do eqGuard op t c b (.int k x) (.int l y);binOp op t (.int k x) (.int l y):Sem Value).run P w= .ok v w/\BO γ u v:=by
 unfold uS at h;cases hs:P3 (binOp op 0 (.int k x) (.int l y)) with
 |none=>rw[hs] at h;cases h
 |some v=>
  rw[hs] at h;have f:=WD hs;have e:binOp op t (.int k x) (.int l y)= .pure v:=by rw[<-f];cases op<;>rfl
  have d:eqGuard op t c b (.int k x) (.int l y)=pure ():=by cases op<;>rfl
  refine⟨v,by rw[d,e];rfl,?_⟩;simp only[Ct] at h;split at h<;>cases h<;>rfl
def bO(l:List UInt8):(ByteArray.mk ⟨l⟩).toList=l:=ByteArray.toList_mk l
def kM{op:BinOp}{x y:Ao}{u:Aa}(t:TypeId)(d c:Operand)(h:kG op x y=some u):
  ∃v,(do eqGuard op t d c (.string ⟨⟨x⟩⟩) (.string ⟨⟨y⟩⟩);binOp op t (.string ⟨⟨x⟩⟩) (.string ⟨⟨y⟩⟩):Sem Value).run P w= .ok v w/\BO γ u v:=by
 have e:eqGuard op t d c (.string ⟨⟨x⟩⟩) (.string ⟨⟨y⟩⟩)=pure ():=by cases op<;>rfl
 have b:binOp op t (.string ⟨⟨x⟩⟩) (.string ⟨⟨y⟩⟩)=Op.stringOp op ⟨⟨x⟩⟩ ⟨⟨y⟩⟩:=by cases op<;>rfl
 rw[e,b];unfold kG at h;cases op<;>simp only at h<;>first
  |cases h;done
  |(simp only[Op.stringOp,bO];cases h;exact⟨_,rfl,rfl⟩)
  | (split at h
     . rename_i Ej
       cases h
       have hc : ¬ ((((ByteArray.mk ⟨x⟩).size + (ByteArray.mk ⟨y⟩).size : Nat) : Int) > IntKind.i64.max) := by
         have f : (ByteArray.mk ⟨x⟩).size = x.length := rfl
         have b : (ByteArray.mk ⟨y⟩).size = y.length := rfl
         rw [f, b]
         have : IntKind.i64.max = 9223372036854775807 := AX
         rw [this]
         omega
       simp only [Op.stringOp, Ac hc]
       refine ⟨_, rfl, ?_⟩
       show Value.string _ = Value.string _
       first
         | (congr 1; done)
         | (congr 1; apply ByteArray.ext; simp)
     . cases h)
def pQ{t:TypeId}(h:Fp P t=some none):(isAgg t).run P w= .ok false w:=by
 unfold Fp at h;split at h;.cases hs:B3 P t<;>rw[hs] at h<;>cases h
 .cases hs:B3 P t<;>rw[hs] at h<;>cases h
 .rename_i d h1 h2 hu;simp only[isAgg,Sem.run_bind,run_underlying hu,Result.andThen_ok];rfl
 .cases h
def Rb{t:TypeId}{n:Nat}(h:Fp P t=some (some n)):(isAgg t).run P w= .ok true w/\B3 P t=some n:=by
 unfold Fp at h;split at h
 .rename_i fs hu;cases hs:B3 P t with
  |none=>rw[hs] at h;cases h
  |some m=>rw[hs] at h;cases h;exact⟨by simp[isAgg,run_underlying hu],rfl⟩
 .rename_i fs _ hu;cases hs:B3 P t with
  |none=>rw[hs] at h;cases h
  |some m=>rw[hs] at h;cases h;exact⟨by simp[isAgg,run_underlying hu],rfl⟩
 .cases h
 .cases h
def DN{t:TypeId}{n:Nat}(h:B3 P t=some n):(sizeOf t).run P w= .ok n w:=by
 unfold B3 at h;cases hi:P.info? t with
 |none=>rw[hi] at h;cases h
 |some i=>rw[hi] at h;cases h;simp[sizeOf,typeInfo,hi]
def kN{t:TypeId}{sh:Option Nat}{cs:List Aa}{us:Array Value}{off:Nat}{u:Aa}(oX:Fp P t=some sh)(hr:Bg γ cs us.toList)(h1:∀v∈us.toList,v.oneCell'=true)
  (hp:Ft cs off sh=some u):∃v,(part t us off).run P w= .ok v w/\BO γ u v:=by
 cases sh with
 |none=>
  replace hp:cs[off]?=some u:=hp;obtain⟨v,hv,hrel⟩:=hr.get hp;refine⟨v,?_,hrel⟩;have DC:us[off]?=some v:=by simpa using hv
  simp[part,pQ oX,DC]
 |some n=>
  obtain⟨ha,hs⟩:=Rb (w:=w) oX;replace hp:(if off+n<=cs.length then some (Aa.agg ((cs.drop off).take n)) else none)=some u:=hp;split at hp
  .cases hp;refine⟨.agg (us.extract off (off+n)),by simp[part,ha,DN hs],us.extract off (off+n),rfl,?_,?_⟩;.have:=(hr.drop off).take n;simpa[NW,HM] using this
   .intro v hv;refine h1 v ?_;rw[NW,HM] at hv;exact BB (Bm hv)
  .cases hp
end
end Go.Am
end
section
namespace Go.Am
open Go
def ly{x y:Aa}{b:Bool}(h:Lx .b x y=some b):∃p q,x= .bool p/\y= .bool q/\(p==q)=b:=by unfold Lx at h;split at h<;>first|cases h;done|(rename_i he;cases he;done)|(cases h;exact⟨_,_,rfl,rfl,rfl⟩)
def lz{x y:Aa}{b:Bool}(h:Lx .i x y=some b):∃k p q,x= .int k p/\y= .int k q/\(p==q)=b:=by
 unfold Lx at h;split at h;.rename_i he;cases he
 .split at h;.rename_i hk;subst hk;cases h;exact⟨_,_,_,rfl,rfl,rfl⟩
  .cases h
 .rename_i he;cases he
 .cases h
def l_{x y:Aa}{b:Bool}(h:Lx .s x y=some b):∃p q,x= .str p/\y= .str q/\(p==q)=b:=by
 unfold Lx at h;split at h;.rename_i he;cases he
 .rename_i he;cases he
 .cases h;exact⟨_,_,rfl,rfl,rfl⟩
 .cases h
def Pf:∀{ks c:List FK} {xs ys:List Aa} {b:Bool},D5 (ks++c) xs ys=some b->
  ∃b1 b2,D5 ks (xs.take ks.length) (ys.take ks.length)=some b1/\D5 c (xs.drop ks.length) (ys.drop ks.length)=some b2/\b=(b1&&b2)
 |[],c,xs,ys,b,h=>⟨true,b,by simp[D5],by simpa using h,AH⟩
 |k::ks,c,[],ys,b,h=>by cases ys<;>simp[D5] at h
 |k::ks,c,x::xs,[],b,h=>by simp[D5] at h
 |k::ks,c,x::xs,y::ys,b,h=>by
  simp only[CJ,D5] at h;split at h;.rename_i e es h1 h2;cases h;obtain⟨b1,b2,p,q,r⟩:=Pf h2;refine⟨e&&b1,b2,?_,by simpa using q,by rw[r,Bool.and_assoc]⟩;simp only[A9,Zv,D5,h1,p]
  .cases h
def Pg:∀{ks:List FK} {xs ys:List Aa} {b:Bool},D5 ks xs ys=some b->xs.length=ks.length/\ys.length=ks.length
 |[],xs,ys,b,h=>by cases xs<;>cases ys<;>simp[D5] at h⊢
 |k::ks,xs,ys,b,h=>by
  cases xs<;>cases ys<;>simp[D5] at h;split at h;.rename_i h1 h2;obtain⟨p,q⟩:=Pg h2;simp[p,q]
  .cases h
section
variable{P:Program}{γ:Gh}{w:World}
def ZG:∀{d:Nat} {t:TypeId} {ks:List FK},Pb P d t=some ks->B3 P t=some ks.length
 |0,t,ks,h=>by cases h
 |d+1,t,ks,h=>by
  simp only[Pb] at h;split at h;.split at h<;>cases h;assumption
  .split at h<;>cases h;assumption
  .split at h<;>cases h;assumption
  .split at h
   .split at h;.rename_i hc;cases h;exact hc.1
    .cases h
   .cases h
  .cases h
def pS{ks:List FK}{k:FK}{t:TypeId}(h:(if B3 P t=some 1 then some [k] else none)=some ks):ks=[k]:=by split at h<;>cases h;rfl
def GJ{t:TypeId}{us:Array Value}{off:Nat}{v:Value}{d:TypeDesc}(hu:P.underlying t=some d)(h1:∀fs,d≠ .struct fs)(h2:∀n e,d≠ .array n e)(hv:us[off]?=some v):
  (part t us off).run P w= .ok v w:=by
 have ha:(isAgg t).run P w= .ok false w:=by simp only[isAgg,Sem.run_bind,run_underlying hu,Result.andThen_ok];cases d<;>first|rfl|exact absurd rfl (h1 _)|exact absurd rfl (h2 _ _)
 simp[part,ha,hv]
def JU{l:List Aa}{off:Nat}{x:Aa}(h:(l.drop off).take 1=[x]):l[off]?=some x:=by have:=Cb (·[0]?) h;simpa using this
def WE{k:FK}{xs ys:List Aa}{b:Bool}(h:D5 [k] xs ys=some b):∃x y,xs=[x]/\ys=[y]/\Lx k x y=some b:=by
 cases xs<;>cases ys<;>simp[D5] at h;rename_i x xs y ys;cases xs<;>cases ys<;>simp[D5] at h;all_goals first
  | (split at h
     . rename_i e es h1 h2; cases h2; cases h; exact ⟨x, y, rfl, rfl, by simpa using h1⟩
     . cases h)
  |(split at h<;>simp_all)
mutual
def kO:∀{d D:Nat},d<=D->∀{t:TypeId} {ks:List FK},Pb P d t=some ks->∀(us vs:Array Value) (cs ds:List Aa) (off:Nat) (b:Bool),Bg γ cs us.toList->Bg γ ds vs.toList->
  D5 ks ((cs.drop off).take ks.length) ((ds.drop off).take ks.length)=some b->
  ∃x y,(part t us off).run P w= .ok x w/\(part t vs off).run P w= .ok y w/\(Op.equalIn D t x y).run P w= .ok b w
 |0,_,_,_,_,h=>by cases h
 |d+1,0,hd,_,_,_=>Ab
 |d+1,D+1,hd,t,ks,h=>by
  intro us vs cs ds off b hu hv he;have KW:=ZG h;simp only[Pb] at h;split at h;.rename_i ZH;have:=pS h;subst this;obtain⟨x,y,m,l,k⟩:=WE he;obtain⟨x',i,g⟩:=hu.get (JU m);obtain⟨c,f,e⟩:=hv.get (JU l);refine⟨x',c,GJ ZH AH AH (by simpa using i),GJ ZH AH AH (by simpa using f),?_⟩;obtain⟨o,n,rfl,rfl,j⟩:=ly k;rw[g,e,run_equalIn_bool' w D t _ _ ZH,<-j]
  .rename_i kk ZH;have:=pS h;subst this;obtain⟨x,y,m,l,k⟩:=WE he;obtain⟨x',i,g⟩:=hu.get (JU m);obtain⟨c,f,e⟩:=hv.get (JU l);refine⟨x',c,GJ ZH AH AH (by simpa using i),GJ ZH AH AH (by simpa using f),?_⟩;obtain⟨q,o,n,rfl,rfl,j⟩:=lz k;rw[g,e,run_equalIn_int w D t _ _ _ _ ZH,<-j]
  .rename_i ZH;have:=pS h;subst this;obtain⟨x,y,m,l,k⟩:=WE he;obtain⟨x',i,g⟩:=hu.get (JU m);obtain⟨c,f,e⟩:=hv.get (JU l);refine⟨x',c,GJ ZH AH AH (by simpa using i),GJ ZH AH AH (by simpa using f),?_⟩;obtain⟨o,n,rfl,rfl,j⟩:=l_ k;rw[g,e,run_equalIn_string w D t _ _ ZH,bO,bO,<-j]
  .rename_i fs ZH;split at h
   .rename_i p Hj;split at h
    .rename_i hc;cases h;have oX:Fp P t=some (some ks.length):=by simp[Fp,ZH,KW]
     obtain⟨ha,hs⟩:=Rb (w:=w) oX;refine⟨.agg (us.extract off (off+ks.length)),.agg (vs.extract off (off+ks.length)),by simp[part,ha,DN hs],by simp[part,ha,DN hs],?_⟩;have aIS:P.underlying t=some (.struct (P.fieldsOf t)):=by simp[Program.fieldsOf,ZH]
     rw[run_equalIn_struct w D t _ _ aIS hc.2];have hf:(P.fieldsOf t).toList=fs.toList:=by simp[Program.fieldsOf,ZH]
     rw[hf];have vK:Bg γ ((cs.drop off).take ks.length) (us.extract off (off+ks.length)).toList:=by have:=(hu.drop off).take ks.length;simpa[NW,HM] using this
     have DC:Bg γ ((ds.drop off).take ks.length) (vs.extract off (off+ks.length)).toList:=by have:=(hv.drop off).take ks.length;simpa[NW,HM] using this
     refine ZI (Nat.le_of_succ_le_succ hd) fs.toList Hj _ _ _ _ _ vK DC ?_;simpa using he
    .cases h
   .cases h
  .cases h
def ZI:∀{d D:Nat},d<=D->∀(fs:List Field) {off:Nat} {ks:List FK},Ws (Pb P d) fs off=some ks->∀(us vs:Array Value) (cs ds:List Aa) (b:Bool),Bg γ cs us.toList->Bg γ ds vs.toList->
  D5 ks (cs.drop off) (ds.drop off)=some b->(Op.eqFields D us vs fs).run P w= .ok b w
 |d,D,hd,[],off,ks,h=>by
  intro us vs cs ds b hu hv he;cases h;have:b=true:=by cases h1:cs.drop off<;>cases h2:ds.drop off<;>rw[h1,h2] at he<;>simp[D5] at he;exact he
  subst this;rfl
 |d,D,hd,f::fs,off,ks,h=>by
  intro us vs cs ds b hu hv he;simp only[Ws] at h;split at h
  .rename_i hc;obtain⟨hn,aD1⟩:=hc;split at h
   .rename_i c YW;cases hr:Ws (Pb P d) fs (off+c.length) with
    |none=>rw[hr] at h;cases h
    |some j=>
     rw[hr] at h;cases h;obtain⟨b1,b2,l,k,rfl⟩:=Pf he;obtain⟨x,y,i,g,e⟩:=kO hd YW _ _ _ _ _ _ hu hv l;simp only[Op.eqFields,hn,BW,Au,BL,aD1,Sem.run_bind,i,g,e,Result.andThen_ok];cases b1;.rfl
     .simp only[RC,Cy,Ea,Bool.true_and];exact ZI hd fs hr _ _ _ _ _ hu hv (by simpa[Eg] using k)
   .cases h
  .cases h
end
def kP{op:BinOp}{t:TypeId}{d c:Operand}{neg:Bool}{ks:List FK}{a b:List Aa}{x y:Value}{u:Aa}(NY:(op= .eql/\neg=false)\/(op= .neq/\neg=true))
  (hg:P.eqGuardType P.depth t=false) (hk:Pb P 20 t=some ks) (HR:∃fs,P.underlying t=some (.struct fs)) (hx:BO γ (.agg a) x) (hy:BO γ (.agg b) y) (h:(D5 ks a b).map (λe=>Aa.bool (e != neg))=some u):
  ∃v,(do eqGuard op t d c x y;binOp op t x y:Sem Value).run P w= .ok v w/\BO γ u v:=by
 obtain⟨us,rfl,hu,_⟩:=hx;obtain⟨vs,rfl,hv,_⟩:=hy;cases he:D5 ks a b with
 |none=>rw[he] at h;cases h
 |some e=>
  rw[he] at h;cases h;obtain⟨l1,m⟩:=Pg he;obtain⟨x',j,i,g,f⟩:=kO (w:=w) (P:=P) (γ:=γ) (D:=10000) (Ab:20<=10000) hk us vs a b 0 e hu hv (by rw[Mx,Mx,AG (My l1),AG (My m)];exact he);obtain⟨fs,Hj⟩:=HR;have oX:Fp P t=some (some ks.length):=by simp[Fp,Hj,ZG hk]
  obtain⟨ha,hs⟩:=Rb (w:=w) oX;have o:us.extract 0 ks.length=us:=by
   have:us.size=ks.length:=by have:=hu.length;simp at this;omega
   rw[<-this];simp
  have n:vs.extract 0 ks.length=vs:=by
   have:vs.size=ks.length:=by have:=hv.length;simp at this;omega
   rw[<-this];simp
  have l:x'= .agg us:=by simp[part,ha,DN hs,o] at i;exact i.symm
  have k:j= .agg vs:=by simp[part,ha,DN hs,n] at g;exact g.symm
  subst l;subst k;rcases NY with⟨rfl,rfl⟩|⟨rfl,rfl⟩
  .refine⟨.bool e,by simp[run_eqGuard_agg (P:=P) w .eql t d c us vs hg,run_eql_struct,f],?_⟩;show Value.bool e=Value.bool _;cases e<;>rfl
  .refine⟨.bool (!e),by simp[run_eqGuard_agg (P:=P) w .neq t d c us vs hg,run_neq_struct,f],?_⟩;show Value.bool _=Value.bool _;cases e<;>rfl
end
end Go.Am
end
