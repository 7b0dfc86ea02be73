/- Lemmas -/
import Derived.Test.YtjjnhgoknielgaaGreatDoorW1
import Derived.Orders
import Derived.Laws.AppendOwn
import Derived.Laws.StructEq
set_option linter.all false
section
namespace Go.Am
inductive Ll where
 |NH (id:Nat)
 |loc (s:Nat)
 |tail (s:Nat) (c:Option Nat) (start:Nat)
def Ll.yw:Ll->Bool
 | .NH _=>true
 |_=>false
structure Gh where
 I6:Nat->Nat->Option Value
 mu:Nat->Option Nat
 BU:Nat->Option Ll
 sz:Nat->Option Nat
mutual
def BQ(γ:Gh):Ab->Value->Prop
 | .bool b,v=>v= .bool b
 | .int k n,v=>v= .int k n
 | .str s,v=>v= .string ⟨⟨s⟩⟩
 | .ptr none,v=>v= .pointer none
 | .ptr (some (id,o)),v=>∃b,γ.mu id=some b/\v= .pointer (some ⟨b,o,none⟩)
 | .Cd cs,v=>∃b o,v= .pointer (some ⟨b,o,none⟩)/\C8 γ cs b o
 | .sl z Ay,v=>∃d cap,v= .slice (some d) Ay.length cap/\Ay.length<=cap/\(d.spot=none\/cap=0)/\Fj γ Ay z d.block d.off
 | .slnil,v=>v= .slice none 0 0
 | .Hi _,v=>∃b,v= .slice (some ⟨b,0,none⟩) 0 0
 | .Du id off len z,v=>∃b cap,γ.mu id=some b/\v= .slice (some ⟨b,off,none⟩) len cap/\len<=cap/\(0<z/\cap<=maxLen)/\γ.sz b=some (off+cap*z)
 | .map none,v=>v= .map none
 | .map (some id),v=>∃b,γ.mu id=some b/\v= .map (some b)
 | .func fn f c,v=>∃fs cs,v= .func fn fs cs/\Bc γ f fs.toList/\Bc γ c cs.toList
 | .nilFunc,v=>v= .nilFunc
 | .iface t a,v=>∃u,v= .iface t u/\BQ γ a u
 | .nilIface,v=>v= .nilIface
 | .agg cs,v=>∃us,v= .agg us/\Bc γ cs us.toList/\∀u∈us.toList,u.oneCell'=true
 | .tuple vs,v=>∃us,v= .tuple us/\Bc γ vs us.toList
def Bc(γ:Gh):List Ab->List Value->Prop
 |[],us=>us=[]
 |a::l,us=>∃u DS,us=u::DS/\BQ γ a u/\Bc γ l DS
def C8(γ:Gh):List Ab->Nat->Nat->Prop
 |[],_,_=>True
 |a::l,b,o=>(∃u,γ.I6 b o=some u/\BQ γ a u)/\C8 γ l b (o+1)
def Fj(γ:Gh):List (List Ab)->Nat->Nat->Nat->Prop
 |[],_,_,_=>True
 |r::rs,z,b,o=>r.length=z/\C8 γ r b o/\Fj γ rs z b (o+z)
end
structure Gh.le(γ γ':Gh):Prop where
 I6:∀b o v,γ.I6 b o=some v->γ'.I6 b o=some v
 mu:∀id b,γ.mu id=some b->γ'.mu id=some b
 sz:∀b n,γ.sz b=some n->γ'.sz b=some n
def Gh.le.refl(γ:Gh):γ.le γ:=⟨λ_ _ _ h=>h,λ_ _ h=>h,λ_ _ h=>h⟩
def Gh.le.trans{a b c:Gh}(h:a.le b)(k:b.le c):a.le c:=⟨λ_ _ _ x=>k.I6 _ _ _ (h.I6 _ _ _ x),λ_ _ x=>k.mu _ _ (h.mu _ _ x),λ_ _ x=>k.sz _ _ (h.sz _ _ x)⟩
mutual
def BQ.mono{γ γ':Gh}(E0:γ.le γ'):∀(a:Ab) (v:Value),BQ γ a v->BQ γ' a v
 | .bool b,v,h=>h
 | .int k n,v,h=>h
 | .str s,v,h=>h
 | .ptr none,v,h=>h
 | .ptr (some (id,o)),v,h=>by obtain⟨b,hb,hv⟩:=h;exact⟨b,E0.mu _ _ hb,hv⟩
 | .Cd cs,v,h=>by obtain⟨b,o,hv,hm⟩:=h;exact⟨b,o,hv,C8.mono E0 cs b o hm⟩
 | .sl z Ay,v,h=>by obtain⟨d,cap,hv,hc,hs,hm⟩:=h;exact⟨d,cap,hv,hc,hs,Fj.mono E0 Ay z _ _ hm⟩
 | .slnil,v,h=>h
 | .Hi _,v,h=>h
 | .Du id off len z,v,h=>by obtain⟨b,cap,hb,hv,hc,hz,hs⟩:=h;exact⟨b,cap,E0.mu _ _ hb,hv,hc,hz,E0.sz _ _ hs⟩
 | .map none,v,h=>h
 | .map (some id),v,h=>by obtain⟨b,hb,hv⟩:=h;exact⟨b,E0.mu _ _ hb,hv⟩
 | .func fn f c,v,h=>by obtain⟨fs,cs,hv,h1,h2⟩:=h;exact⟨fs,cs,hv,Bc.mono E0 f _ h1,Bc.mono E0 c _ h2⟩
 | .nilFunc,v,h=>h
 | .iface t a,v,h=>by obtain⟨u,hv,h1⟩:=h;exact⟨u,hv,BQ.mono E0 a u h1⟩
 | .nilIface,v,h=>h
 | .agg cs,v,h=>by obtain⟨us,hv,h1,h2⟩:=h;exact⟨us,hv,Bc.mono E0 cs _ h1,h2⟩
 | .tuple vs,v,h=>by obtain⟨us,hv,h1⟩:=h;exact⟨us,hv,Bc.mono E0 vs _ h1⟩
def Bc.mono{γ γ':Gh}(E0:γ.le γ'):∀(l:List Ab) (us:List Value),Bc γ l us->Bc γ' l us
 |[],us,h=>h
 |a::l,us,h=>by obtain⟨u,DS,hu,h1,h2⟩:=h;exact⟨u,DS,hu,BQ.mono E0 a u h1,Bc.mono E0 l DS h2⟩
def C8.mono{γ γ':Gh}(E0:γ.le γ'):∀(l:List Ab) (b o:Nat),C8 γ l b o->C8 γ' l b o
 |[],_,_,_=>trivial
 |a::l,b,o,h=>by obtain⟨⟨u,hu,h1⟩,h2⟩:=h;exact⟨⟨u,E0.I6 _ _ _ hu,BQ.mono E0 a u h1⟩,C8.mono E0 l b (o+1) h2⟩
def Fj.mono{γ γ':Gh}(E0:γ.le γ'):∀(rs:List (List Ab)) (z b o:Nat),Fj γ rs z b o->Fj γ' rs z b o
 |[],_,_,_,_=>trivial
 |r::rs,z,b,o,h=>⟨h.1,C8.mono E0 r b o h.2.1,Fj.mono E0 rs z b (o+z) h.2.2⟩
end
def Bc.length{γ:Gh}:∀{l:List Ab} {us:List Value},Bc γ l us->us.length=l.length
 |[],us,h=>by rw[Bc] at h;subst h;rfl
 |a::l,us,h=>by rw[Bc] at h;obtain⟨u,DS,rfl,_,h2⟩:=h;simp[h2.length]
def Bc.get{γ:Gh}:∀{l:List Ab} {us:List Value},Bc γ l us->∀{i:Nat} {a:Ab},l[i]?=some a->∃u,us[i]?=some u/\BQ γ a u
 |[],us,h,i,a,hi=>by simp at hi
 |x::l,us,h,i,a,hi=>by
  rw[Bc] at h;obtain⟨u,DS,rfl,h1,h2⟩:=h;cases i with
  |zero=>simp at hi;subst hi;exact⟨u,rfl,h1⟩
  |succ i=>simp at hi;obtain⟨v,hv,hr⟩:=h2.get hi;exact⟨v,by simpa using hv,hr⟩
def Bc.HC{γ:Gh}:∀{l:List Ab} {us:List Value},us.length=l.length->(∀(i:Nat) (a:Ab) (u:Value),l[i]?=some a->us[i]?=some u->BQ γ a u)->Bc γ l us
 |[],us,hl,_=>by rw[Bc];exact C5 hl
 |x::l,[],hl,_=>by simp at hl
 |x::l,u::us,hl,h=>by rw[Bc];exact⟨u,us,rfl,h 0 x u rfl rfl,Bc.HC (by simpa using hl) λi a v hi hv=>h (i+1) a v (by simpa using hi) (by simpa using hv)⟩
def Bc.append{γ:Gh}:∀{l l':List Ab} {us DS:List Value},Bc γ l us->Bc γ l' DS->Bc γ (l++l') (us++DS)
 |[],l',us,DS,h,h'=>by rw[Bc] at h;subst h;simpa using h'
 |a::l,l',us,DS,h,h'=>by rw[Bc] at h;obtain⟨u,r,rfl,h1,h2⟩:=h;rw[BD,Bc];exact⟨u,r++DS,rfl,h1,h2.append h'⟩
def Bc.take{γ:Gh}{l:List Ab}{us:List Value}(h:Bc γ l us)(n:Nat):Bc γ (l.take n) (us.take n):=by
 refine Bc.HC (by simp[h.length]) λi a u hi hu=>?_;rw[CA] at hi hu;split at hi;.rename_i hlt;rw[Ae hlt] at hu;obtain⟨v,hv,hr⟩:=h.get hi;rw[hu] at hv;cases hv;exact hr
 .cases hi
def Bc.drop{γ:Gh}{l:List Ab}{us:List Value}(h:Bc γ l us)(n:Nat):Bc γ (l.drop n) (us.drop n):=by refine Bc.HC (by simp[h.length]) λi a u hi hu=>?_;rw[CE] at hi hu;obtain⟨v,hv,hr⟩:=h.get hi;rw[hu] at hv;cases hv;exact hr
def C8.get{γ:Gh}:∀{l:List Ab} {b o:Nat},C8 γ l b o->∀{i:Nat} {a:Ab},l[i]?=some a->∃u,γ.I6 b (o+i)=some u/\BQ γ a u
 |[],b,o,h,i,a,hi=>by simp at hi
 |x::l,b,o,h,i,a,hi=>by
  rw[C8] at h;obtain⟨⟨u,hu,h1⟩,h2⟩:=h;cases i with
  |zero=>simp at hi;subst hi;exact⟨u,hu,h1⟩
  |succ i=>simp at hi;obtain⟨v,hv,hr⟩:=h2.get hi;exact⟨v,by rw[<-hv];congr 1;omega,hr⟩
def C8.HC{γ:Gh}:∀{l:List Ab} {b o:Nat},(∀(i:Nat) (a:Ab),l[i]?=some a->∃u,γ.I6 b (o+i)=some u/\BQ γ a u)->C8 γ l b o
 |[],b,o,h=>by rw[C8];trivial
 |x::l,b,o,h=>by rw[C8];refine⟨h 0 x rfl,C8.HC λi a hi=>?_⟩;obtain⟨u,hu,hr⟩:=h (i+1) a (by simpa using hi);exact⟨u,by rw[<-hu];congr 1;omega,hr⟩
def C8.drop{γ:Gh}{l:List Ab}{b o:Nat}(h:C8 γ l b o)(n:Nat):C8 γ (l.drop n) b (o+n):=by refine C8.HC λi a hi=>?_;rw[CE] at hi;obtain⟨u,hu,hr⟩:=h.get hi;exact⟨u,by rw[<-hu];congr 1;omega,hr⟩
def C8.values{γ:Gh}:∀{l:List Ab} {b o:Nat},C8 γ l b o->∃us:List Value,Bc γ l us/\∀(j:Nat) (u:Value),us[j]?=some u->γ.I6 b (o+j)=some u
 |[],b,o,h=>⟨[],by rw[Bc],AB⟩
 |x::l,b,o,h=>by
  rw[C8] at h;obtain⟨⟨u,hu,h1⟩,h2⟩:=h;obtain⟨us,hr,hi⟩:=h2.values;refine⟨u::us,by rw[Bc];exact⟨u,us,rfl,h1,hr⟩,λj v hj=>?_⟩;cases j with
  |zero=>simp at hj;subst hj;exact hu
  |succ j=>simp at hj;rw[<-hi j v hj];congr 1;omega
def Fj.get{γ:Gh}:∀{rs:List (List Ab)} {z b o:Nat},Fj γ rs z b o->∀{i:Nat} {r:List Ab},rs[i]?=some r->r.length=z/\C8 γ r b (o+i*z)
 |[],z,b,o,h,i,r,hi=>by simp at hi
 |x::rs,z,b,o,h,i,r,hi=>by
  rw[Fj] at h;cases i with
  |zero=>simp at hi;subst hi;simpa using⟨h.1,h.2.1⟩
  |succ i=>simp at hi;obtain⟨h1,h2⟩:=h.2.2.get hi;exact⟨h1,by rw[show o+(i+1)*z=o+z+i*z by rw[BK,EW];omega];exact h2⟩
def Fj.HC{γ:Gh}:∀{rs:List (List Ab)} {z b o:Nat},(∀(i:Nat) (r:List Ab),rs[i]?=some r->r.length=z/\C8 γ r b (o+i*z))->Fj γ rs z b o
 |[],z,b,o,h=>by rw[Fj];trivial
 |x::rs,z,b,o,h=>by rw[Fj];have h0:=h 0 x rfl;refine⟨h0.1,by simpa using h0.2,Fj.HC λi r hi=>?_⟩;obtain⟨h1,h2⟩:=h (i+1) r (by simpa using hi);exact⟨h1,by rw[show o+z+i*z=o+(i+1)*z by rw[BK,EW];omega];exact h2⟩
def Fj.length{γ:Gh}:∀{rs:List (List Ab)} {z b o:Nat},Fj γ rs z b o->rs.flatten.length=rs.length*z
 |[],z,b,o,h=>AB
 |x::rs,z,b,o,h=>by rw[Fj] at h;simp[h.1,h.2.2.length,BK,Qn]
def Pl{b:Addr}{n cap:Nat}(hs:b.spot=none\/cap=0)(hc:n<=cap)(hn:0<n):b=⟨b.block,b.off,none⟩:=by
 rcases hs with hs|hs
 .cases b;simp_all
 .omega
def Fj.values{γ:Gh}:∀{rs:List (List Ab)} {z b o:Nat},Fj γ rs z b o->∃us:List Value,Bc γ rs.flatten us/\us.length=rs.length*z/\∀(j:Nat) (u:Value),us[j]?=some u->γ.I6 b (o+j)=some u
 |[],z,b,o,h=>⟨[],by simp[Bc],AB,AB⟩
 |x::rs,z,b,o,h=>by
  rw[Fj] at h;obtain⟨us,h1,h2⟩:=h.2.1.values;obtain⟨vs,h3,d,c⟩:=h.2.2.values;have hl:us.length=z:=by rw[h1.length,h.1]
  refine⟨us++vs,by simpa using h1.append h3,by simp[hl,d,BK,Qn],λj u hj=>?_⟩;rw[aMa] at hj;split at hj;.exact h2 j u hj
  .rename_i JA;rw[<-c _ _ hj];congr 1
   omega
def J1(γ:Gh)(B:Nat)(w:World)(s:Nat)(c:Option Nat)(v:Value)(a:Ab):Prop:=
 (a= .slnil\/∃z,a= .Hi z)\/∃g n cap us e z Ay,a= .sl z Ay/\v= .slice (some ⟨g,0,none⟩) n cap/\γ.BU g=some (.tail s c (n*z))/\B<=g/\
  w.heap[g]?=some (.cells us e (0,0))/\us.size=cap*z/\n<=cap/\cap<=maxLen/\0<z
def MC(γ:Gh)(β:Nat->Nat)(B:Nat)(w:World)(s:Nat):ER->Value->Prop
 | .undef,_=>True
 | .skip,v=>v=undef
 | .val a,v=>BQ γ a v
 | .Qk b,v=>v= .bool b
 | .BU a,v=>BQ γ a v/\J1 γ B w s none v a
 | .box _ cs ow,v=>v= .pointer (some ⟨β s,0,none⟩)/\γ.BU (β s)=some (.loc s)/\B<=β s/\
  ∃us e,w.heap[β s]?=some (.cells us e (0,0))/\Bc γ cs us.toList/\(∀u∈us.toList,u.oneCell'=true)/\
   ∀o∈ow,∃u a,us[o]?=some u/\cs[o]?=some a/\J1 γ B w s (some o) u a
 | .FD s' o,v=>v= .pointer (some ⟨β s',o,none⟩)
structure FR(γ:Gh)(β:Nat->Nat)(B:Nat)(U:BT)(tmps:Array Value)(w:World):Prop where
 size:U.length=tmps.size
 IZ:∀s,MC γ β B w s (U.at s) (tmps.getD s undef)
def L9(γ:Gh):List (Ab×Ab)->List MapEntry->Prop
 |[],es=>es=[]
 |(k,v)::l,es=>∃e Wj,es=e::Wj/\BQ γ k e.key/\BQ γ v e.val/\L9 γ l Wj
def yx(γ:Gh)(l:List (Ab×Ab))(es:Array MapEntry)(clock:Nat):Prop:=
 L9 γ l es.toList/\clock=es.size/\∀(i:Nat) (e:MapEntry),es[i]?=some e->e.born=i
def UM(fr:Nat×Nat)(n:Nat):Prop:=fr=(0,0)\/n<=fr.1
structure It(γ:Gh)(h:Ai)(w:World):Prop where
 I6:∀b o v,γ.I6 b o=some v->w.cell? ⟨b,o,none⟩=some v/\v.oneCell'=true/\(γ.BU b=none\/∃s c st,γ.BU b=some (.tail s c st)/\o<st)
 NH:∀id x,h[id]?=some x->x≠ .Ef->∃b,γ.mu id=some b/\γ.BU b=some (.NH id)
 cells:∀id cs,h[id]?=some (.cells cs)->∀b,γ.mu id=some b->∃us e fr,w.heap[b]?=some (.cells us e fr)/\UM fr us.size/\Bc γ cs (us.toList.take cs.length)/\∀u∈us.toList.take cs.length,u.oneCell'=true
 map:∀id es,h[id]?=some (.map es)->∀b,γ.mu id=some b->∃Es clock,w.heap[b]?=some (.map Es clock)/\yx γ es Es clock
 mu:∀id b,γ.mu id=some b->id<h.length
 BU:∀b x,γ.BU b=some x->b<w.heap.size
 sz:∀b n,γ.sz b=some n->(∃us e fr,w.heap[b]?=some (.cells us e fr)/\us.size=n)/\(γ.BU b=none\/∃id,γ.BU b=some (.NH id))
structure Nb(γ0:Gh)(w0:World)(γ:Gh)(w:World):Prop where
 le:γ0.le γ
 size:w0.heap.size<=w.heap.size
 os:w.os=w0.os
 tape:w.tape=w0.tape
 output:w.output=w0.output
 Pm:∀b,b<w0.heap.size->(∀id,γ0.BU b≠some (.NH id))->w.heap[b]?=w0.heap[b]?/\γ.BU b=γ0.BU b
def Nb.refl(γ:Gh)(w:World):Nb γ w γ w:=⟨.refl _,Ad _,rfl,rfl,rfl,λ_ _ _=>⟨rfl,rfl⟩⟩
def Nb.trans{γ0 d c:Gh}{w0 w1 e:World}(h:Nb γ0 w0 d w1)(k:Nb d w1 c e):Nb γ0 w0 c e:=by refine⟨h.le.trans k.le,Bw h.size k.size,k.os.trans h.os,k.tape.trans h.tape,k.output.trans h.output,λb hb hn=>?_⟩;.obtain⟨h1,h2⟩:=h.Pm b hb hn;obtain⟨g,f⟩:=k.Pm b (JV hb h.size) (λid=>by rw[h2];exact hn id);exact⟨g.trans h1,f.trans h2⟩
structure pc(γ:Gh)(w:World)(γ':Gh)(w':World):Prop where
 le:γ.le γ'
 Pm:∀b x,γ.BU b=some x->x.yw=false->γ'.BU b=some x/\w'.heap[b]?=w.heap[b]?
def pc.aDT{γ γ':Gh}{h:Ai}{w w':World}(hi:It γ h w)(ha:Nb γ w γ' w'):pc γ w γ' w':=by refine⟨ha.le,λb x hb hx=>?_⟩;obtain⟨h1,h2⟩:=ha.Pm b (hi.BU b x hb) (λid JB=>by rw[hb] at JB;cases JB;simp[Ll.yw] at hx);exact⟨h2.trans hb,h1⟩
def J1.kept{γ γ':Gh}{B:Nat}{w w':World}{s:Nat}{c:Option Nat}{v:Value}{a:Ab}(h:J1 γ B w s c v a)(k:pc γ w γ' w'):J1 γ' B w' s c v a:=by
 rcases h with h|⟨g,n,cap,us,e,z,Ay,h1,h2,h3,j,i,f⟩
 .exact .inl h
 .obtain⟨d,b⟩:=k.Pm g _ h3 rfl;exact .inr ⟨g,n,cap,us,e,z,Ay,h1,h2,d,j,by rw[b];exact i,f⟩
def MC.kept{γ γ':Gh}{β:Nat->Nat}{B:Nat}{w w':World}{s:Nat}{x:ER}{v:Value}(h:MC γ β B w s x v)(k:pc γ w γ' w'):MC γ' β B w' s x v:=by
 cases x with
 |undef=>trivial
 |skip=>exact h
 |val a=>exact BQ.mono k.le a v h
 |Qk b=>exact h
 |BU a=>exact⟨BQ.mono k.le a v h.1,h.2.kept k⟩
 |box ver cs ow=>obtain⟨h1,h2,h3,us,e,j,i,g,f⟩:=h;obtain⟨d,c⟩:=k.Pm _ _ h2 rfl;exact⟨h1,d,h3,us,e,by rw[c];exact j,Bc.mono k.le cs _ i,g,λo ho=>let⟨u,a,p,q,r⟩:=f o ho;⟨u,a,p,q,r.kept k⟩⟩
 |FD s' o=>exact h
def FR.kept{γ γ':Gh}{β:Nat->Nat}{B:Nat}{U:BT}{tmps:Array Value}{w w':World}(h:FR γ β B U tmps w)(k:pc γ w γ' w'):FR γ' β B U tmps w':=
 ⟨h.size,λs=>(h.IZ s).kept k⟩
end Go.Am
end
section
namespace Go.Am
def CV{w w':World}{b o:Nat}(h:w'.heap[b]?=w.heap[b]?):w'.cell? ⟨b,o,none⟩=w.cell? ⟨b,o,none⟩:=by simp[World.cell?,h]
def DV{w:World}{b o:Nat}{v:Value}(h:w.cell? ⟨b,o,none⟩=some v):b<w.heap.size:=by
 rcases Bm b w.heap.size with h'|h'
 .exact h'
 .simp[World.cell?,Array.getElem?_eq_none h'] at h
def It.aDU{γ:Gh}{h:Ai}{w:World}(hi:It γ h w){b o:Nat}{v:Value}(hb:γ.I6 b o=some v):b<w.heap.size:=DV (hi.I6 b o v hb).1
def It.same{γ:Gh}{h:Ai}{w w':World}(hi:It γ h w)(c:w'.heap=w.heap):It γ h w':=by
 refine⟨λb o v hb=>?_,hi.NH,λid cs hc b hb=>?_,λid es hc b hb=>?_,hi.mu,λb x hx=>?_,λb n hb=>by rw[c];exact hi.sz b n hb⟩;.obtain⟨h1,h2,h3⟩:=hi.I6 b o v hb;have e:=CV (w:=w) (w':=w') (b:=b) (o:=o) (by rw[c]);exact⟨e.trans h1,h2,h3⟩
 .rw[c];exact hi.cells id cs hc b hb
 .rw[c];exact hi.map id es hc b hb
 .rw[c];exact hi.BU b x hx
def Nb.same{γ:Gh}{w w':World}(b:w'.heap=w.heap)(h1:w'.os=w.os)(h2:w'.tape=w.tape)(h3:w'.output=w.output):Nb γ w γ w':=
 ⟨.refl _,by rw[b];exact Ad _,h1,h2,h3,λ_ _ _=>⟨by rw[b],rfl⟩⟩
def Nb.drew(γ:Gh)(w:World):Nb γ w γ w.drew:=Nb.same rfl rfl rfl rfl
def Gh.Dz(γ:Gh)(b:Nat)(us:Array Value)(k:Nat)(x:Option Ll):Gh:=
 {I6:=λb' o=>if b'=b then(if o<k then us[o]? else none) else γ.I6 b' o,mu:=γ.mu,BU:=λb'=>if b'=b then x else γ.BU b',sz:=γ.sz}
def Gh.BV(γ:Gh)(b id:Nat)(n:Option Nat):Gh:=
 {I6:=γ.I6,mu:=λi=>if i=id then some b else γ.mu i,BU:=λb'=>if b'=b then some (.NH id) else γ.BU b',sz:=λb'=>if b'=b then n else γ.sz b'}
section
variable{γ:Gh}{h:Ai}{w:World}
def FM(w:World)(o:Obj){b:Nat}(hb:b<w.heap.size):(w.alloc o).heap[b]?=w.heap[b]?:=heap_alloc_old w o b hb
def Qw(hi:It γ h w)(us:Array Value)(e:TypeId)(fr:Nat×Nat)(k:Nat)(x:Option Ll)(h1:∀o u,o<k->us[o]?=some u->u.oneCell'=true)
  (hx:x=none\/(∃s c,x=some (.tail s c k))\/(k=0/\∀id,x≠some (.NH id))):
  It (γ.Dz w.heap.size us k x) h (w.alloc (.cells us e fr))/\Nb γ w (γ.Dz w.heap.size us k x) (w.alloc (.cells us e fr)):=by
 have F8:γ.BU w.heap.size=none:=by
  cases hc:γ.BU w.heap.size with
  |none=>rfl
  |some y=>exact absurd (hi.BU _ y hc) (DI _)
 have yy:∀o,γ.I6 w.heap.size o=none:=λo=>by
  cases hc:γ.I6 w.heap.size o with
  |none=>rfl
  |some y=>exact absurd (hi.aDU hc) (DI _)
 have E0:γ.le (γ.Dz w.heap.size us k x):=⟨λb' o' v' Lm=>by
  have:b'≠w.heap.size:=λhe=>by rw[he,yy] at Lm;cases Lm
  simp only[Gh.Dz,Aa this];exact Lm,λ_ _ hm=>hm,λ_ _ hm=>hm⟩
 constructor
 .refine⟨λb o v hb=>?_,λid y JB hy=>?_,λid cs hc b hb=>?_,λid es hc b hb=>?_,hi.mu,λb y hy=>?_,λb n hb=>?_⟩;rotate_left 5;.obtain⟨⟨DS,d,pd,p,q⟩,r⟩:=hi.sz b n hb;have Pn:b≠w.heap.size:=Qo (by rw[AU] at p;exact p.1);exact⟨⟨DS,d,pd,by rw[FM _ _ (by rw[AU] at p;exact p.1)];exact p,q⟩,by simp only[Gh.Dz,Aa Pn];exact r⟩
  .by_cases Pn:b=w.heap.size
   .subst Pn;simp only[Gh.Dz,BN] at hb⊢;split at hb
    .rename_i hlt;refine⟨by rw[cell_of_row _ _ _ us e fr (heap_alloc_new w _)];exact hb,h1 o v hlt hb,?_⟩;rcases hx with hx|⟨s,c,hx⟩|⟨hx,_⟩
     .exact .inl hx
     .exact .inr ⟨s,c,k,hx,hlt⟩
     .omega
    .cases hb
   .simp only[Gh.Dz,Aa Pn] at hb⊢;obtain⟨p,q,r⟩:=hi.I6 b o v hb;exact⟨by rw[CV (FM w _ (DV p))];exact p,q,r⟩
  .obtain⟨b,p,q⟩:=hi.NH id y JB hy;refine⟨b,p,?_⟩;have:b≠w.heap.size:=λhe=>by rw[he,F8] at q;cases q
   simp only[Gh.Dz,Aa this];exact q
  .obtain⟨DS,d,pd,p,pf,q,r⟩:=hi.cells id cs hc b hb;exact⟨DS,d,pd,by rw[FM _ _ (by rw[AU] at p;exact p.1)];exact p,pf,Bc.mono E0 cs _ q,r⟩
  .obtain⟨Es,clock,p,q⟩:=hi.map id es hc b hb;refine⟨Es,clock,by rw[FM _ _ (by rw[AU] at p;exact p.1)];exact p,?_,q.2⟩;replace q:=q.1;clear hc p;revert q;generalize Es.toList=l;intro q;induction es generalizing l with
   |nil=>exact q
   |cons kv es ih=>obtain⟨kk,f⟩:=kv;obtain⟨en,Wj,hl,a1,a2,a3⟩:=q;exact⟨en,Wj,hl,BQ.mono E0 _ _ a1,BQ.mono E0 _ _ a2,ih Wj a3⟩
  .by_cases Pn:b=w.heap.size;.subst Pn;simp
   .simp only[Gh.Dz,Aa Pn] at hy;have:=hi.BU b y hy;simp;omega
 .refine⟨E0,AB,rfl,rfl,rfl,λb hb _=>⟨FM _ _ hb,?_⟩⟩;simp only[Gh.Dz,Aa (Qo hb)]
def L9.mono{γ γ':Gh}(E0:γ.le γ'):∀{es:List (Ab×Ab)} {l:List MapEntry},L9 γ es l->L9 γ' es l
 |[],l,q=>q
 |(kk,b)::es,l,q=>by obtain⟨en,Wj,hl,a1,a2,a3⟩:=q;exact⟨en,Wj,hl,BQ.mono E0 _ _ a1,BQ.mono E0 _ _ a2,a3.mono E0⟩
def yx.mono{γ γ':Gh}(E0:γ.le γ'){es:List (Ab×Ab)}{l:Array MapEntry}{c:Nat}(h:yx γ es l c):yx γ' es l c:=⟨h.1.mono E0,h.2⟩
def Po(hi:It γ h w)(o:Obj)(x:GX)(m:Option Nat)
  (hx:(∃cs us e fr,x= .cells cs/\o= .cells us e fr/\UM fr us.size/\Bc γ cs (us.toList.take cs.length)/\(∀u∈us.toList.take cs.length,u.oneCell'=true)/\m=some us.size)\/(x= .map []/\o= .map #[] 0/\m=none)):
  It (γ.BV w.heap.size h.length m) (h++[x]) (w.alloc o)/\Nb γ w (γ.BV w.heap.size h.length m) (w.alloc o):=by
 have F8:γ.BU w.heap.size=none:=by
  cases hc:γ.BU w.heap.size with
  |none=>rfl
  |some y=>exact absurd (hi.BU _ y hc) (DI _)
 have c:γ.mu h.length=none:=by
  cases hc:γ.mu h.length with
  |none=>rfl
  |some y=>exact absurd (hi.mu _ y hc) (DI _)
 have Lu:γ.sz w.heap.size=none:=by
  cases hc:γ.sz w.heap.size with
  |none=>rfl
  |some y=>obtain⟨⟨_,_,_,p,_⟩,_⟩:=hi.sz _ y hc;rw[AU] at p;exact absurd p.1 (DI _)
 have E0:γ.le (γ.BV w.heap.size h.length m):=⟨λ_ _ _ hv=>hv,λid b hm=>by
  have:id≠h.length:=λhe=>by rw[he,c] at hm;cases hm
  simp only[Gh.BV,Aa this];exact hm,λb n hm=>by
  have:b≠w.heap.size:=λhe=>by rw[he,Lu] at hm;cases hm
  simp only[Gh.BV,Aa this];exact hm⟩
 constructor
 .refine⟨λb o' v hb=>?_,λid y JB hy=>?_,λid cs hc b hb=>?_,λid es hc b hb=>?_,λid b hb=>?_,λb y hy=>?_,λb n hb=>?_⟩;rotate_left 6
  .by_cases Pn:b=w.heap.size
   .subst Pn;simp only[Gh.BV,BN] at hb;rcases hx with⟨Hz,us,e,fr,rfl,rfl,pf,p,q,rfl⟩|⟨rfl,rfl,rfl⟩
    .cases hb;exact⟨⟨us,e,fr,heap_alloc_new w _,rfl⟩,.inr ⟨h.length,by simp[Gh.BV]⟩⟩
    .cases hb
   .simp only[Gh.BV,Aa Pn] at hb⊢;obtain⟨⟨DS,d,pd,p,q⟩,r⟩:=hi.sz b n hb;exact⟨⟨DS,d,pd,by rw[FM _ _ (by rw[AU] at p;exact p.1)];exact p,q⟩,r⟩
  .obtain⟨p,q,r⟩:=hi.I6 b o' v hb;have Pn:b≠w.heap.size:=Qo (DV p);exact⟨by rw[World.cell?_alloc_old _ _ _ Pn];exact p,q,by simp only[Gh.BV,Aa Pn];exact r⟩
  .by_cases he:id=h.length;.exact⟨w.heap.size,by simp[Gh.BV,he],by simp[Gh.BV,he]⟩
   .have XT:id<h.length:=by rw[Aj] at JB;obtain⟨hl,_⟩:=JB;simp at hl;omega
    rw[Al XT] at JB;obtain⟨b,p,q⟩:=hi.NH id y JB hy;have Pn:b≠w.heap.size:=λhe=>by rw[he,F8] at q;cases q
    exact⟨b,by simp only[Gh.BV,Aa he];exact p,by simp only[Gh.BV,Aa Pn];exact q⟩
  .by_cases he:id=h.length
   .subst he;simp[Gh.BV] at hb;subst hb;simp at hc;rcases hx with⟨Hz,us,e,fr,rfl,rfl,pf,p,q,rfl⟩|⟨rfl,rfl,rfl⟩
    .cases hc;exact⟨us,e,fr,heap_alloc_new w _,pf,Bc.mono E0 _ _ p,q⟩
    .cases hc
   .simp only[Gh.BV,Aa he] at hb;have XT:=hi.mu id b hb;rw[Al XT] at hc;obtain⟨DS,d,pd,p,pf,q,r⟩:=hi.cells id cs hc b hb;exact⟨DS,d,pd,by rw[FM _ _ (by rw[AU] at p;exact p.1)];exact p,pf,Bc.mono E0 _ _ q,r⟩
  .by_cases he:id=h.length
   .subst he;simp[Gh.BV] at hb;subst hb;simp at hc;rcases hx with⟨Hz,us,e,fr,rfl,rfl,pf,p,q,rfl⟩|⟨rfl,rfl,rfl⟩
    .cases hc
    .cases hc;exact⟨#[],0,heap_alloc_new w _,rfl,rfl,AB⟩
   .simp only[Gh.BV,Aa he] at hb;have XT:=hi.mu id b hb;rw[Al XT] at hc;obtain⟨Es,clock,p,q⟩:=hi.map id es hc b hb;exact⟨Es,clock,by rw[FM _ _ (by rw[AU] at p;exact p.1)];exact p,q.mono E0⟩
  .by_cases he:id=h.length;.simp[he]
   .simp only[Gh.BV,Aa he] at hb;have:=hi.mu id b hb;simp;omega
  .by_cases Pn:b=w.heap.size;.subst Pn;simp
   .simp only[Gh.BV,Aa Pn] at hy;have:=hi.BU b y hy;simp;omega
 .refine⟨E0,AB,rfl,rfl,rfl,λb hb _=>⟨FM _ _ hb,?_⟩⟩;simp only[Gh.BV,Aa (Qo hb)]
def pg(hi:It γ h w){g s:Nat}(hg:γ.BU g=some (.loc s))(us:Array Value):It γ h (w.setRow g us):=by
 refine⟨λb o v hb=>?_,hi.NH,λid cs hc b hb=>?_,λid es hc b hb=>?_,hi.mu,λb x hx=>?_,λb n hb=>?_⟩;rotate_left 4
 .obtain⟨p,r⟩:=hi.sz b n hb;have:b≠g:=λhe=>by subst he;rw[hg] at r;rcases r with r|⟨_,r⟩<;>cases r
  exact⟨by rw[setRow_other w g b us this];exact p,r⟩
 .obtain⟨p,q,r⟩:=hi.I6 b o v hb;have:b≠g:=λhe=>by subst he;rw[hg] at r;rcases r with r|⟨_,_,_,r,_⟩<;>cases r
  exact⟨by rw[CV (setRow_other w g b us this)];exact p,q,r⟩
 .have Su:b≠g:=λhe=>by subst he;obtain⟨b',p,q⟩:=hi.NH id _ hc AB;rw[hb] at p;cases p;rw[hg] at q;cases q
  rw[setRow_other w g b us Su];exact hi.cells id cs hc b hb
 .have Su:b≠g:=λhe=>by subst he;obtain⟨b',p,q⟩:=hi.NH id _ hc AB;rw[hb] at p;cases p;rw[hg] at q;cases q
  rw[setRow_other w g b us Su];exact hi.map id es hc b hb
 .have:=hi.BU b x hx;simpa[World.setRow] using this
def OB(hi:It γ h w){g id:Nat}{cs:List Ab}(hcs:h[id]?=some (.cells cs))(hg:γ.mu id=some g){us:Array Value}{e:TypeId}{fr:Nat×Nat}(hw:w.heap[g]?=some (.cells us e fr))(DS:Array Value)(Hz:List Ab)(cD:DS.size=us.size)(XU:UM fr DS.size)
  (hr:Bc γ Hz (DS.toList.take Hz.length)) (h1:∀u∈DS.toList.take Hz.length,u.oneCell'=true):
  It γ (h.set id (.cells Hz)) (w.setRow g DS)/\Nb γ w γ (w.setRow g DS):=by
 obtain⟨f,p,UB⟩:=hi.NH id _ hcs AB;rw[hg] at p;cases p;have uniq:∀Gk x,h[Gk]?=some x->x≠ .Ef->γ.mu Gk=some g->Gk=id:=λGk x hx c hm=>by obtain⟨b',p,q⟩:=hi.NH Gk x hx c;rw[hm] at p;cases p;rw[UB] at q;cases q;rfl
 constructor
 .refine⟨λb o v hb=>?_,λGk y JB hy=>?_,λGk cs hc b hb=>?_,λGk es hc b hb=>?_,λGk b hb=>by simpa using hi.mu Gk b hb,λb x hx=>?_,λb n hb=>?_⟩;rotate_left 5
  .obtain⟨⟨sR,d,yz,p,q⟩,r⟩:=hi.sz b n hb;by_cases he:b=g;.subst he;rw[hw] at p;cases p;exact⟨⟨DS,e,fr,setRow_heap w b us DS e fr hw,by rw[cD];exact q⟩,r⟩
   .exact⟨⟨sR,d,yz,by rw[setRow_other w g b DS he];exact p,q⟩,r⟩
  .obtain⟨p,q,r⟩:=hi.I6 b o v hb;have:b≠g:=λhe=>by subst he;rw[UB] at r;rcases r with r|⟨_,_,_,r,_⟩<;>cases r
   exact⟨by rw[CV (setRow_other w g b DS this)];exact p,q,r⟩
  .by_cases he:Gk=id;.subst he;exact⟨g,hg,UB⟩
   .rw[Aq (λx=>he x.symm)] at JB;exact hi.NH Gk y JB hy
  .by_cases he:Gk=id;.subst he;rw[hg] at hb;cases hb;rw[AI (hi.mu _ _ hg)] at hc;cases hc;exact⟨DS,e,fr,setRow_heap w g us DS e fr hw,XU,hr,h1⟩
   .rw[Aq (λx=>he x.symm)] at hc;have Su:b≠g:=λhx=>by subst hx;exact he (uniq Gk _ hc AB hb)
    rw[setRow_other w g b DS Su];exact hi.cells Gk cs hc b hb
  .by_cases he:Gk=id;.subst he;rw[AI (hi.mu _ _ hg)] at hc;cases hc
   .rw[Aq (λx=>he x.symm)] at hc;have Su:b≠g:=λhx=>by subst hx;exact he (uniq Gk _ hc AB hb)
    rw[setRow_other w g b DS Su];exact hi.map Gk es hc b hb
  .have:=hi.BU b x hx;simpa[World.setRow] using this
 .refine⟨.refl _,by simp[World.setRow],rfl,rfl,rfl,λb hb hn=>⟨?_,rfl⟩⟩;exact setRow_other w g b DS (λhe=>by subst he;exact hn id UB)
def sS(hi:It γ h w){g s st:Nat}{c:Option Nat}(hg:γ.BU g=some (.tail s c st)){us:Array Value}{e:TypeId}(hw:w.heap[g]?=some (.cells us e (0,0)))(DS:Array Value)(k:Nat)(s':Nat)(c':Option Nat)
  (OC:∀o,o<st->DS[o]?=us[o]?) (hk:st<=k) (h1:∀o u,o<k->DS[o]?=some u->u.oneCell'=true) (Wk:∀o v,γ.I6 g o=some v->us[o]?=some v):
  It (γ.Dz g DS k (some (.tail s' c' k))) h (w.setRow g DS)/\γ.le (γ.Dz g DS k (some (.tail s' c' k))):=by
 have hlt:∀o v,γ.I6 g o=some v->o<st:=λo v ho=>by
  obtain⟨_,_,r⟩:=hi.I6 g o v ho;rw[hg] at r;rcases r with r|⟨_,_,_,r,hl⟩
  .cases r
  .cases r;exact hl
 have E0:γ.le (γ.Dz g DS k (some (.tail s' c' k))):=⟨λb o v hb=>by
  by_cases he:b=g;.subst he;have:=hlt o v hb;simp only[Gh.Dz,BN,Ae (JV this hk)];rw[OC o this];exact Wk o v hb
  .simp only[Gh.Dz,Aa he];exact hb,λ_ _ hm=>hm,λ_ _ hm=>hm⟩
 refine⟨⟨λb o v hb=>?_,λid y JB hy=>?_,λid cs hc b hb=>?_,λid es hc b hb=>?_,hi.mu,λb x hx=>?_,λb n hb=>?_⟩,E0⟩;rotate_left 5
 .obtain⟨p,r⟩:=hi.sz b n hb;have:b≠g:=λhe=>by subst he;rw[hg] at r;rcases r with r|⟨_,r⟩<;>cases r
  exact⟨by rw[setRow_other w g b DS this];exact p,by simp only[Gh.Dz,Aa this];exact r⟩
 .by_cases he:b=g
  .subst he;simp only[Gh.Dz,BN] at hb⊢;split at hb
   .rename_i hl;exact⟨by rw[cell_of_row _ _ _ DS e (0,0) (setRow_heap w b us DS e (0,0) hw)];exact hb,
     h1 o v hl hb,.inr ⟨s',c',k,rfl,hl⟩⟩
   .cases hb
  .simp only[Gh.Dz,Aa he] at hb⊢;obtain⟨p,q,r⟩:=hi.I6 b o v hb;exact⟨by rw[CV (setRow_other w g b DS he)];exact p,q,r⟩
 .obtain⟨b,p,q⟩:=hi.NH id y JB hy;have:b≠g:=λhe=>by subst he;rw[hg] at q;cases q
  exact⟨b,p,by simp only[Gh.Dz,Aa this];exact q⟩
 .replace hb:γ.mu id=some b:=hb;obtain⟨b',p,q⟩:=hi.NH id _ hc AB;rw[hb] at p;cases p;have:b≠g:=λhe=>by subst he;rw[hg] at q;cases q
  rw[setRow_other w g b DS this];obtain⟨sR,j,yz,i,f,d,r2⟩:=hi.cells id cs hc b hb;exact⟨sR,j,yz,i,f,Bc.mono E0 _ _ d,r2⟩
 .replace hb:γ.mu id=some b:=hb;obtain⟨b',p,q⟩:=hi.NH id _ hc AB;rw[hb] at p;cases p;have:b≠g:=λhe=>by subst he;rw[hg] at q;cases q
  rw[setRow_other w g b DS this];obtain⟨Es,clock,i,d⟩:=hi.map id es hc b hb;exact⟨Es,clock,i,d.mono E0⟩
 .by_cases he:b=g;.subst he;have:=hi.BU b _ hg;simpa[World.setRow] using this
  .simp only[Gh.Dz,Aa he] at hx;have:=hi.BU b x hx;simpa[World.setRow] using this
def Nb.write{γ0 c:Gh}{w0:World}(ha:Nb γ0 w0 γ w){w1:World}{g:Nat}(hg:w0.heap.size<=g)(E0:γ.le c)(hs:w1.heap.size=w.heap.size)(h1:w1.os=w.os)(h2:w1.tape=w.tape)(h3:w1.output=w.output)
  (hk:∀b,b≠g->w1.heap[b]?=w.heap[b]?/\c.BU b=γ.BU b):Nb γ0 w0 c w1:=by
 refine⟨ha.le.trans E0,by rw[hs];exact ha.size,h1.trans ha.os,h2.trans ha.tape,h3.trans ha.output,λb hb hn=>?_⟩;.obtain⟨p,q⟩:=ha.Pm b hb hn;obtain⟨p',d⟩:=hk b Ac;exact⟨p'.trans p,d.trans q⟩
def y_(hi:It γ h w){g id:Nat}{cs:List Ab}(hcs:h[id]?=some (.cells cs))(hg:γ.mu id=some g){us:Array Value}{e:TypeId}{fr:Nat×Nat}(hw:w.heap[g]?=some (.cells us e fr))(h1:∀u∈us.toList.take cs.length,u.oneCell'=true):
  It (γ.Dz g us cs.length none) (h.set id .Ef) w/\Nb γ w (γ.Dz g us cs.length none) w:=by
 obtain⟨f,p,UB⟩:=hi.NH id _ hcs AB;rw[hg] at p;cases p;have uniq:∀Gk x,h[Gk]?=some x->x≠ .Ef->γ.mu Gk=some g->Gk=id:=λGk x hx c hm=>by obtain⟨b',p,q⟩:=hi.NH Gk x hx c;rw[hm] at p;cases p;rw[UB] at q;cases q;rfl
 have hne:∀o v,γ.I6 g o=some v->False:=λo v hv=>by obtain⟨_,_,r⟩:=hi.I6 g o v hv;rw[UB] at r;rcases r with r|⟨_,_,_,r,_⟩<;>cases r
 have E0:γ.le (γ.Dz g us cs.length none):=⟨λb o v hb=>by
  have:b≠g:=λhe=>by subst he;exact hne o v hb
  simp only[Gh.Dz,Aa this];exact hb,λ_ _ hm=>hm,λ_ _ hm=>hm⟩
 constructor
 .refine⟨λb o v hb=>?_,λGk y JB hy=>?_,λGk Hz hc b hb=>?_,λGk es hc b hb=>?_,λGk b hb=>by simpa using hi.mu Gk b hb,λb x hx=>?_,λb n hb=>?_⟩;rotate_left 5
  .obtain⟨p,r⟩:=hi.sz b n hb;by_cases he:b=g;.subst he;exact⟨p,.inl (by simp[Gh.Dz])⟩
   .exact⟨p,by simp only[Gh.Dz,Aa he];exact r⟩
  .by_cases he:b=g
   .subst he;simp only[Gh.Dz,BN] at hb⊢;split at hb;.rename_i hlt;exact⟨by rw[cell_of_row _ _ _ us e fr hw];exact hb,h1 v (CJ (i:=o) (by rw[CQ hlt];simpa using hb)),.inl AB⟩
    .cases hb
   .simp only[Gh.Dz,Aa he] at hb⊢;exact hi.I6 b o v hb
  .by_cases he:Gk=id;.subst he;rw[AI (hi.mu _ _ hg)] at JB;cases JB;exact absurd rfl hy
   .rw[Aq (λx=>he x.symm)] at JB;obtain⟨b,p,q⟩:=hi.NH Gk y JB hy;have:b≠g:=λhx=>by subst hx;exact he (uniq Gk y JB hy p)
    exact⟨b,p,by simp only[Gh.Dz,Aa this];exact q⟩
  .by_cases he:Gk=id;.subst he;rw[AI (hi.mu _ _ hg)] at hc;cases hc
   .rw[Aq (λx=>he x.symm)] at hc;obtain⟨DS,d,pd,p,pf,q,r⟩:=hi.cells Gk Hz hc b hb;exact⟨DS,d,pd,p,pf,Bc.mono E0 _ _ q,r⟩
  .by_cases he:Gk=id;.subst he;rw[AI (hi.mu _ _ hg)] at hc;cases hc
   .rw[Aq (λx=>he x.symm)] at hc;obtain⟨DS,d,p,q⟩:=hi.map Gk es hc b hb;exact⟨DS,d,p,q.mono E0⟩
  .by_cases he:b=g;.subst he;exact hi.BU b _ UB
   .simp only[Gh.Dz,Aa he] at hx;exact hi.BU b x hx
 .refine⟨E0,Ad _,rfl,rfl,rfl,λb hb hn=>⟨rfl,?_⟩⟩;have:b≠g:=λhe=>by subst he;exact hn id UB
  simp only[Gh.Dz,Aa this]
end
end Go.Am
end
section
namespace Go.Am
def E2.OD(C:Gw)(run:IT->Ai->Option KE)(U:BT)(h:Ai)(e:BT)(h':Ai):E2->Prop
 | .pure ws=>e=U.E3 ws/\h'=h
 | .op p args dst BU i=>∃v,AE p args=some v/\e=(U.DU i).put dst (if BU then .BU v else .val v)/\h'=h
 | .box n v d=>v.cells.length=n/\e=U.set d (.box 0 v.cells [])/\h'=h
 | .closure fn a b fz d=>e=(U.E3 (fz.map λ(s,cs)=>(s,.val (.Cd cs)))).set d (.val (.func fn a b))/\h'=h
 | .Og s off n v BU i ver cells owned=>v.cells.length=n/\e=(U.DU i).set s (.box (ver+1) (XN cells off n v.cells) (Tm owned off n BU))/\h'=h
 | .load n p dst=>∃v,Bp h n p=some v/\e=U.put dst (.val v)/\h'=h
 | .store n p v=>Dd h n p v=some h'/\e=U
 | .alloc n v dst=>v.cells.length=n/\h'=h++[.cells v.cells]/\e=U.put dst (.val (.ptr (some (h.length,0))))
 | .call f args dst=>∃r,run (Cf C f args) h=some (.ret,[r],h')/\e=U.put dst (if C.KK f then .BU r else .val r)
 | .EJ g args dst=>∃f args' r,CR g args=some (f,args')/\run (Cf C f args') h=some (.ret,[r],h')/\e=U.put dst (.val r)
 | .Bz f args dst=>args.all Ab.NI=true/\∃r h1,run (Cf C f args) []=some (.ret,[r],h1)/\r.NI=true/\e=U.put dst (.val r)/\h'=h
 | .Oy dst=>h'=h++[.map []]/\e=U.put dst (.val (.map (some h.length)))
 | .Iw m k v=>R2 h m k v=some h'/\e=U
 | .make z b zero l c dst=>∃v,XG h z b zero l c=some (h',v)/\e=U.put dst (.val v)
 | .Ks z b s x dst i=>∃v,Lp h z b s x=some (h',v)/\e=(U.DU i).put dst (.val v)
 | .GZ z b s x dst=>∃v,Hk h z b s x=some (h',v)/\e=U.put dst (.val v)
 | .GW z b s x dst i=>∃v,R4 h z b s x=some v/\e=(U.DU i).put dst (.BU v)/\h'=h
 | .Fq s dst=>∃v,JD h s=some (h',v)/\e=U.put dst (.val v)
 | .XD s dst=>∃v u,L6 h s=some (h',v)/\AE .XD [v]=some u/\e=U.put dst (.val u)
 | .mem o args dst=>∃v,Ey o h args=some (h',v)/\e=U.put dst (if o.fO then .undef else .val v)
 | .M8 z ok m k dst=>∃v,P6 h z ok m k=some v/\e=U.put dst (.val v)/\h'=h
def UN{n:Nat}{cs:List Ab}(h:cs.length=n):XM n cs=cs:=by
 subst h;apply So;intro i;simp only[XM,Dt,List.getD];by_cases hi:i<cs.length;.simp[List.getElem?_range hi,Av hi]
 .simp[hi]
def cE{C:Gw}{run:IT->Ai->Option KE}{U:BT}{K:BT->IT}{h:Ai}{R:KE}{r:E2}
  (hr:IT.step (Cf C) run (r.Na C U K) h=some R):∃i h',r.OD C run U h i h'/\IT.step (Cf C) run (K i) h'=some R:=by
 cases r with
 |pure ws=>exact⟨_,_,⟨rfl,rfl⟩,hr⟩
 |op p args dst BU e=>
  simp only[E2.Na,IT.step] at hr;split at hr;.rename_i v hv;exact⟨_,_,⟨v,hv,rfl,rfl⟩,hr⟩
  .cases hr
 |box n v d=>
  simp only[E2.Na,IT.step] at hr;split at hr;.rename_i hn;rw[UN hn] at hr;exact⟨_,_,⟨hn,rfl,rfl⟩,hr⟩
  .cases hr
 |closure fn a b fz d=>exact⟨_,_,⟨rfl,rfl⟩,hr⟩
 |Og s off n v BU e ver cells owned=>
  simp only[E2.Na,IT.step] at hr;split at hr;.rename_i hn;rw[UN hn] at hr;exact⟨_,_,⟨hn,rfl,rfl⟩,hr⟩
  .cases hr
 |load n p dst=>
  simp only[E2.Na,IT.step] at hr;split at hr;.rename_i v hv;exact⟨_,_,⟨v,hv,rfl,rfl⟩,hr⟩
  .cases hr
 |store n p v=>
  simp only[E2.Na,IT.step] at hr;split at hr;.rename_i h1 hv;exact⟨_,_,⟨hv,rfl⟩,hr⟩
  .cases hr
 |alloc n v dst=>
  simp only[E2.Na,IT.step,XF] at hr;by_cases hn:v.cells.length=n;.rw[Ae hn] at hr;exact⟨_,_,⟨hn,rfl,rfl⟩,hr⟩
  .rw[Aa hn] at hr;cases hr
 |call f args dst=>
  simp only[E2.Na,IT.step] at hr;split at hr;.rename_i r h1 hv;exact⟨_,_,⟨r,hv,rfl⟩,hr⟩
  .cases hr
 |EJ g args dst=>
  simp only[E2.Na,IT.step] at hr;split at hr
  .rename_i f a' ht;split at hr;.rename_i r h1 hv;exact⟨_,_,⟨f,a',r,ht,hv,rfl⟩,hr⟩
   .cases hr
  .cases hr
 |Bz f args dst=>
  simp only[E2.Na,IT.step] at hr;split at hr
  .rename_i Jz;split at hr
   .rename_i r h1 hv;split at hr;.rename_i xc;exact⟨_,_,⟨Jz,r,h1,hv,xc,rfl,rfl⟩,hr⟩
    .cases hr
   .cases hr
  .cases hr
 |Oy dst=>exact⟨_,_,⟨rfl,rfl⟩,hr⟩
 |Iw m k v=>
  simp only[E2.Na,IT.step] at hr;split at hr;.rename_i h1 hv;exact⟨_,_,⟨hv,rfl⟩,hr⟩
  .cases hr
 |M8 z ok m k dst=>
  simp only[E2.Na,IT.step] at hr;split at hr;.rename_i v hv;exact⟨_,_,⟨v,hv,rfl,rfl⟩,hr⟩
  .cases hr
 |make z b zero l c dst=>
  simp only[E2.Na,IT.step] at hr;split at hr;.rename_i h1 v hv;exact⟨_,_,⟨v,hv,rfl⟩,hr⟩
  .cases hr
 |Ks z b s x dst e=>
  simp only[E2.Na,IT.step] at hr;split at hr;.rename_i h1 v hv;exact⟨_,_,⟨v,hv,rfl⟩,hr⟩
  .cases hr
 |GZ z b s x dst=>
  simp only[E2.Na,IT.step] at hr;split at hr;.rename_i h1 v hv;exact⟨_,_,⟨v,hv,rfl⟩,hr⟩
  .cases hr
 |GW z b s x dst e=>
  simp only[E2.Na,IT.step] at hr;split at hr;.rename_i v hv;exact⟨_,_,⟨v,hv,rfl,rfl⟩,hr⟩
  .cases hr
 |Fq s dst=>
  simp only[E2.Na,IT.step] at hr;split at hr;.rename_i h1 v hv;exact⟨_,_,⟨v,hv,rfl⟩,hr⟩
  .cases hr
 |XD s dst=>
  simp only[E2.Na,IT.step] at hr;split at hr
  .rename_i h1 v hv;split at hr;.rename_i u hu;exact⟨_,_,⟨v,u,hv,hu,rfl⟩,hr⟩
   .cases hr
  .cases hr
 |mem o args dst=>
  simp only[E2.Na,IT.step] at hr;split at hr;.rename_i h1 v hv;exact⟨_,_,⟨v,hv,rfl⟩,hr⟩
  .cases hr
structure Df(C:Gw)(γ0:Gh)(w0:World)(γ:Gh)(β:Nat->Nat)(U:BT)(h:Ai)(a:Act)(w:World):Prop where
 Ee:It γ h w
 fr:FR γ β w0.heap.size U a.tmps w
 D8:Nb γ0 w0 γ w
 defers:a.defers=[]
 HO:∀g cs,C.HO g=some cs->C8 γ cs g 0
def Tq{γ:Gh}{v:Value}{a:Ab}(h:Qs v=some a):BQ γ a v/\v.oneCell'=true:=by
 unfold Qs at h;split at h;case h_7=>
  rename_i fn f c;split at h;.rename_i hs;cases h;have d:f=#[]:=Ju hs.1;have b:c=#[]:=Ju hs.2;subst d;subst b;exact⟨⟨#[],#[],rfl,rfl,rfl⟩,rfl⟩
  .cases h
 all_goals first
  |(cases h;exact⟨rfl,rfl⟩)
  |cases h
def Oi{γ:Gh}:∀{vs:List Value} {as:List Ab},M0 vs=some as->Bc γ as vs/\∀v∈vs,v.oneCell'=true
 |[],as,h=>by cases h;exact⟨rfl,AB⟩
 |v::vs,as,h=>by
  unfold M0 at h;split at h;.rename_i a c h1 h2;cases h;obtain⟨p,q⟩:=Tq (γ:=γ) h1;obtain⟨p',b⟩:=Oi (γ:=γ) h2;exact⟨⟨v,vs,rfl,p,p'⟩,λx hx=>(AF.1 hx).elim (λe=>by rw[e];exact q) (b x)⟩
  .cases h
def FQ{γ:Gh}{v:Value}{a:Ab}(h:LV v=some a):BQ γ a v:=by
 unfold LV at h;split at h
 .rename_i cs;cases hs:M0 cs.toList with
  |none=>rw[hs] at h;cases h
  |some as=>rw[hs] at h;cases h;obtain⟨p,q⟩:=Oi (γ:=γ) hs;exact⟨cs,rfl,p,q⟩
 .exact(Tq h).1
section
variable{C:Gw}{γ0 γ:Gh}{w0 w:World}{β:Nat->Nat}{U:BT}{h:Ai}{a:Act}
def Sv(hr:Df C γ0 w0 γ β U h a w){x:Operand}{sl:ER}(hx:Er C U x=some sl)(hn:∀s,x≠ .tmp s):∃s,MC γ β w0.heap.size w s sl (a.eval x):=by
 unfold Er at hx;split at hx;.exact absurd rfl (hn _)
 .cases hx;exact⟨0,rfl⟩
 .cases hx;exact⟨0,rfl,.inl (.inl rfl)⟩
 .rename_i v _ _;cases hc:LV v with
  |none=>rw[hc] at hx;cases hx
  |some u=>rw[hc] at hx;cases hx;exact⟨0,FQ hc⟩
 .rename_i g;cases hc:C.HO g with
  |none=>rw[hc] at hx;cases hx
  |some cs=>rw[hc] at hx;cases hx;exact⟨0,g,0,rfl,hr.HO g cs hc⟩
 .cases hx;exact⟨0,#[],#[],rfl,rfl,rfl⟩
def Ts(hr:Df C γ0 w0 γ β U h a w)(s:Nat):MC γ β w0.heap.size w s (U.at s) (a.eval (.tmp s)):=hr.fr.IZ s
def GJ(hr:Df C γ0 w0 γ β U h a w){x:Operand}{sl:ER}(hx:Er C U x=some sl):∃s,MC γ β w0.heap.size w s sl (a.eval x)/\∀t,x= .tmp t->s=t:=by
 cases x with
 |tmp t=>cases hx;exact⟨t,Ts hr t,λ_ h=>by cases h;rfl⟩
 |const v=>obtain⟨s,h1⟩:=Sv hr hx (by intro s h;cases h);exact⟨s,h1,λ_ h=>by cases h⟩
 |global g=>obtain⟨s,h1⟩:=Sv hr hx (by intro s h;cases h);exact⟨s,h1,λ_ h=>by cases h⟩
 |func f=>obtain⟨s,h1⟩:=Sv hr hx (by intro s h;cases h);exact⟨s,h1,λ_ h=>by cases h⟩
def OE{B s:Nat}{sl:ER}{v:Value}{u:Ab}(hs:MC γ β B w s sl v)(hv:sl.HT=some u):BQ γ u v:=by
 cases sl<;>simp[ER.HT] at hv;.subst hv;exact hs
 .subst hv;exact hs
 .subst hv;exact hs.1
def He(hr:Df C γ0 w0 γ β U h a w){x:Operand}{u:Ab}(hx:Fi C U x=some u):BQ γ u (a.eval x):=by
 unfold Fi at hx;cases hs:Er C U x with
 |none=>rw[hs] at hx;cases hx
 |some sl=>rw[hs] at hx;obtain⟨s,h1,_⟩:=GJ hr hs;exact OE h1 hx
def D9(hr:Df C γ0 w0 γ β U h a w):∀{xs:List Operand} {us:List Ab},Bs C U xs=some us->Bc γ us (xs.map a.eval)
 |[],us,hx=>by cases hx;rfl
 |x::xs,us,hx=>by
  unfold Bs at hx;split at hx;.rename_i u DS h1 h2;cases hx;exact⟨_,_,rfl,He hr h1,D9 hr h2⟩
  .cases hx
def FR.put{B:Nat}{tmps:Array Value}(hf:FR γ β B U tmps w){d:Nat}{x:ER}{v:Value}(hx:MC γ β B w d x v):FR γ β B (U.set d x) (tmps.setIfInBounds d v) w:=by
 refine⟨by simp[hf.size],λs=>?_⟩;have hs:=hf.IZ s;by_cases he:s=d
 .subst he;by_cases hl:s<U.length
  .have b:s<tmps.size:=by rw[<-hf.size];exact hl
   simpa[BT.at,List.getD,hl,b,Array.getD] using hx
  .have b:¬s<tmps.size:=by rw[<-hf.size];exact hl
   simpa[BT.at,List.getD,hl,b,Array.getD] using hs
 .have h1:BT.at (U.set d x) s=U.at s:=by simp[BT.at,List.getD,Aq (λe=>he e.symm)]
  have h2:(tmps.setIfInBounds d v).getD s undef=tmps.getD s undef:=by simp[HI,sM (λe=>he e.symm)]
  rw[h1,h2];exact hs
def FR.nE{B:Nat}{tmps:Array Value}(hf:FR γ β B U tmps w){d:Nat}{x:ER}(hx:MC γ β B w d x (tmps.getD d undef)):FR γ β B (U.set d x) tmps w:=by
 refine⟨by simp[hf.size],λs=>?_⟩;have hs:=hf.IZ s;by_cases he:s=d
 .subst he;by_cases hl:s<U.length;.simpa[BT.at,List.getD,hl] using hx
  .simpa[BT.at,List.getD,hl] using hs
 .have h1:BT.at (U.set d x) s=U.at s:=by simp[BT.at,List.getD,Aq (λe=>he e.symm)]
  rw[h1];exact hs
def Df.put(hr:Df C γ0 w0 γ β U h a w){d:Option Nat}{x:ER}{v:Value}(hx:∀s,d=some s->MC γ β w0.heap.size w s x v):Df C γ0 w0 γ β (U.put d x) h (a.put d v) w:=by
 cases d with
 |none=>exact hr
 |some d=>exact⟨hr.Ee,hr.fr.put (hx d rfl),hr.D8,hr.defers,hr.HO⟩
def Df.nE(hr:Df C γ0 w0 γ β U h a w){d:Nat}{x:ER}(hx:MC γ β w0.heap.size w d x (a.tmps.getD d undef)):Df C γ0 w0 γ β (U.set d x) h a w:=
 ⟨hr.Ee,hr.fr.nE hx,hr.D8,hr.defers,hr.HO⟩
def Df.drop(hr:Df C γ0 w0 γ β U h a w)(ds:List Nat):Df C γ0 w0 γ β (U.drop ds) h a w:=by
 cases ds with
 |nil=>exact hr
 |cons d ds=>
  refine⟨hr.Ee,⟨by simp[BT.drop,hr.fr.size],λs=>?_⟩,hr.D8,hr.defers,hr.HO⟩;have hs:=hr.fr.IZ s;have e:(BT.drop U (d::ds)).at s=match U.at s with| .FD t o=>if(d::ds).contains t then .undef else .FD t o|x=>x:=by
   simp only[BT.drop,BT.at,List.getD,Dt];cases hg:U[s]? with
   |none=>rfl
   |some x=>cases x<;>rfl
  rw[e];cases hx:U.at s with
  |FD t o=>
   rw[hx] at hs;simp only
   split;.trivial
   .exact hs
  |_=>rw[hx] at hs;exact hs
def Df.JO(hr:Df C γ0 w0 γ β U h a w){γ':Gh}{h':Ai}{w':World}(hi:It γ' h' w')(ha:Nb γ w γ' w'):Df C γ0 w0 γ' β U h' a w':=
 ⟨hi,hr.fr.kept (pc.aDT hr.Ee ha),hr.D8.trans ha,hr.defers,λg cs hg=>C8.mono ha.le _ _ _ (hr.HO g cs hg)⟩
def J2{P:Program}{o:Oper}{v:Value}{w':World}{next:Act->World->Prop}{Q:Exit->Act->World->Prop}(he:(execOp a.eval o).run P w= .ok (.value v) w')(hn:next (a.put o.dst v) w'):o.wp P a w next Q:=by unfold Oper.wp;rw[he];exact hn
def sT{P:Program}{o:Oper}{w':World}{next:Act->World->Prop}{Q:Exit->Act->World->Prop}(he:(execOp a.eval o).run P w= .ok .skip w')(hn:next (a.put o.dst undef) w'):o.wp P a w next Q:=by unfold Oper.wp;rw[he];exact hn
end
end Go.Am
end
section
namespace Go.Am
def Gh.Gg(γ:Gh)(g:Nat)(x:Ll):Gh:={γ with BU:=λb=>if b=g then some x else γ.BU b}
section
variable{C:Gw}{γ0 γ:Gh}{w0 w:World}{β:Nat->Nat}{U:BT}{h:Ai}{a:Act}
def HV(γ:Gh)(g:Nat)(x:Ll):γ.le (γ.Gg g x):=⟨λ_ _ _ h=>h,λ_ _ h=>h,λ_ _ h=>h⟩
def It.Gg(hi:It γ h w){g s s' st:Nat}{c c':Option Nat}(hg:γ.BU g=some (.tail s c st)):It (γ.Gg g (.tail s' c' st)) h w:=by
 refine⟨λb o v hb=>?_,λid y JB hy=>?_,λid cs hc b hb=>?_,λid es hc b hb=>?_,hi.mu,λb x hx=>?_,λb n hb=>?_⟩;rotate_left 5
 .obtain⟨p,r⟩:=hi.sz b n hb;have:b≠g:=λhe=>by subst he;rw[hg] at r;rcases r with r|⟨_,r⟩<;>cases r
  exact⟨p,by simp only[Gh.Gg,Aa this];exact r⟩
 .obtain⟨p,q,r⟩:=hi.I6 b o v hb;refine⟨p,q,?_⟩;by_cases he:b=g
  .subst he;rw[hg] at r;rcases r with r|⟨_,_,_,r,hl⟩
   .cases r
   .cases r;exact .inr ⟨s',c',st,by simp[Gh.Gg],hl⟩
  .simpa only[Gh.Gg,Aa he] using r
 .obtain⟨b,p,q⟩:=hi.NH id y JB hy;have:b≠g:=λhe=>by subst he;rw[hg] at q;cases q
  exact⟨b,p,by simp only[Gh.Gg,Aa this];exact q⟩
 .obtain⟨us,e,fr,p,pf,q,r⟩:=hi.cells id cs hc b hb;exact⟨us,e,fr,p,pf,Bc.mono (HV γ g _) _ _ q,r⟩
 .obtain⟨us,e,p,q⟩:=hi.map id es hc b hb;exact⟨us,e,p,q.mono (HV γ g _)⟩
 .by_cases he:b=g;.subst he;exact hi.BU b _ hg
  .simp only[Gh.Gg,Aa he] at hx;exact hi.BU b x hx
def J1.Gg{B:Nat}{s b st:Nat}{c d:Option Nat}{v:Value}{u:Ab}{x:Ll}{g:Nat}(hg:γ.BU g=some (.tail s c st))(ho:J1 γ B w b d v u)(hne:b≠s\/d≠c):J1 (γ.Gg g x) B w b d v u:=by
 rcases ho with ho|⟨g2,n,cap,us,e,z,Ay,h1,h2,h3,f⟩
 .exact .inl ho
 .have:g2≠g:=λhe=>by subst he;rw[hg] at h3;cases h3;rcases hne with hne|hne<;>exact hne rfl
  exact .inr ⟨g2,n,cap,us,e,z,Ay,h1,h2,by simp only[Gh.Gg,Aa this];exact h3,f⟩
def FR.Gg{B:Nat}{tmps:Array Value}(hf:FR γ β B U tmps w){g s st:Nat}{c:Option Nat}{x:Ll}(hg:γ.BU g=some (.tail s c st))
  (h1:c=none->∀v,U.at s≠ .BU v) (h2:∀o,c=some o->∀ver cs ow,U.at s= .box ver cs ow->o∉ow):FR (γ.Gg g x) β B U tmps w:=by
 refine⟨hf.size,λd=>?_⟩;have hs:=hf.IZ d;cases hx:U.at d with
 |undef=>trivial
 |skip=>rw[hx] at hs;exact hs
 |val u=>rw[hx] at hs;exact BQ.mono (HV γ g x) _ _ hs
 |Qk b=>rw[hx] at hs;exact hs
 |BU u=>
  rw[hx] at hs;refine⟨BQ.mono (HV γ g x) _ _ hs.1,hs.2.Gg hg ?_⟩;by_cases he:d=s
  .subst he;cases c with
   |none=>exact absurd hx (h1 rfl u)
   |some o=>exact .inr AB
  .exact .inl he
 |box ver cs ow=>
  rw[hx] at hs;obtain⟨r,f,q,us,e,p,n,m,l⟩:=hs;have hb:β d≠g:=λhe=>by rw[he,hg] at f;cases f
  refine⟨r,by simp only[Gh.Gg,Aa hb];exact f,q,us,e,p,Bc.mono (HV γ g x) _ _ n,m,λo ho=>?_⟩;obtain⟨u,v,k,j,i⟩:=l o ho;refine⟨u,v,k,j,i.Gg hg ?_⟩;by_cases he:d=s
  .subst he;cases c with
   |none=>exact .inr AB
   |some o'=>refine .inr λhe=>?_;cases he;exact h2 o rfl ver cs ow hx ho
  .exact .inl he
 |FD s' o=>rw[hx] at hs;exact hs
def Df.Gg(hr:Df C γ0 w0 γ β U h a w){g s st s':Nat}{c c':Option Nat}(hg:γ.BU g=some (.tail s c st))(hB:w0.heap.size<=g)
  (h1:c=none->∀v,U.at s≠ .BU v) (h2:∀o,c=some o->∀ver cs ow,U.at s= .box ver cs ow->o∉ow):Df C γ0 w0 (γ.Gg g (.tail s' c' st)) β U h a w:=by
 refine⟨hr.Ee.Gg hg,hr.fr.Gg hg h1 h2,?_,hr.defers,λx cs hx=>C8.mono (HV γ g _) _ _ _ (hr.HO x cs hx)⟩;refine⟨hr.D8.le.trans (HV γ g _),hr.D8.size,hr.D8.os,hr.D8.tape,hr.D8.output,λb hb hn=>?_⟩;.obtain⟨p,q⟩:=hr.D8.Pm b hb hn;exact⟨p,by simp only[Gh.Gg,Aa (Ac:b≠g)];exact q⟩
def BT.FT{s:Nat}{x:ER}(hs:s<U.length):BT.at (U.set s x) s=x:=by simp[BT.at,List.getD,hs]
def BT.Gx{s t:Nat}{x:ER}(hs:s≠t):BT.at (U.set s x) t=U.at t:=by simp[BT.at,List.getD,Aq hs]
def BT.Qx{s:Nat}(hs:U.at s≠ .undef):s<U.length:=by
 rcases Bm s U.length with h|h
 .exact h
 .exact absurd (by simp[BT.at,List.getD,En h]) hs
def Df.take(hr:Df C γ0 w0 γ β U h a w){s:Nat}{v:Ab}(hs:U.at s= .BU v)(s':Nat)(c':Option Nat):
  ∃γ',γ.le γ'/\Df C γ0 w0 γ' β (U.set s (.val v)) h a w/\BQ γ' v (a.tmps.getD s undef)/\J1 γ' w0.heap.size w s' c' (a.tmps.getD s undef) v:=by
 have h0:=hr.fr.IZ s;rw[hs] at h0;obtain⟨hv,ho⟩:=h0;have KF:Df C γ0 w0 γ β (U.set s (.val v)) h a w:=hr.nE hv;have hl:s<U.length:=BT.Qx (by rw[hs];simp);rcases ho with ho|⟨g,n,cap,us,e,z,Ay,h1,h2,h3,b,c⟩
 .exact⟨γ,.refl _,KF,hv,.inl ho⟩
 .refine⟨γ.Gg g (.tail s' c' (n*z)),HV _ _ _,KF.Gg h3 b (λ_ u=>?_) (λo ho=>by cases ho),BQ.mono (HV _ _ _) _ _ hv,.inr ⟨g,n,cap,us,e,z,Ay,h1,h2,by simp[Gh.Gg],b,c⟩⟩;rw[BT.FT hl];simp
def fS{B s d:Nat}{sl b:ER}{v:Value}(hs:MC γ β B w s sl v)(hc:Jd sl=some b):MC γ β B w d b v:=by
 cases sl<;>simp[Jd] at hc;.subst hc;exact hs
 .subst hc;exact hs
 .subst hc;exact hs.1
 .subst hc;exact hs
def Pp{ws:List (Nat×ER)}(h:∀p∈ws,∀cs ow,p.2≠ .box 0 cs ow):(E2.pure ws).news=[]:=by
 simp only[E2.news,List.filterMap_eq_nil_iff];rintro⟨s,x⟩ hp;have:=h _ hp;cases x with
 |box ver cs ow=>
  cases ver with
  |zero=>exact absurd rfl (this cs ow)
  |succ n=>rfl
 |_=>rfl
def Tt{v:Value}{sl:ER}(hs:Er C U (.const v)=some sl):(∀B d,MC γ β B w d sl v)/\∀ver cs ow,sl≠ .box ver cs ow:=by
 unfold Er at hs;split at hs;.rename_i Ld;cases Ld
 .rename_i Ld;cases Ld;cases hs;exact⟨λ_ _=>rfl,λ_ _ _ h=>by cases h⟩
 .rename_i Ld;cases Ld;cases hs;exact⟨λ_ _=>⟨rfl,.inl (.inl rfl)⟩,λ_ _ _ h=>by cases h⟩
 .rename_i Ld;cases Ld;cases hc:LV v with
  |none=>rw[hc] at hs;cases hs
  |some u=>rw[hc] at hs;cases hs;exact⟨λ_ _=>FQ hc,λ_ _ _ h=>by cases h⟩
 .rename_i Ld;cases Ld
 .rename_i Ld;cases Ld
def HD{s:Nat}{sl:ER}(hs:Er C U (.tmp s)=some sl):U.at s=sl:=Ff hs
def sU{x:Operand}{v:Ab}(hs:Er C U x=some (.BU v))(hn:∀c,x≠ .const c):∃s,x= .tmp s/\U.at s= .BU v:=by
 cases x with
 |tmp s=>exact⟨s,rfl,HD hs⟩
 |const c=>exact absurd rfl (hn c)
 |global g=>have mP:(C.HO g).map (λcs=>ER.val (Ab.Cd cs))=some (.BU v):=hs;cases hc:C.HO g<;>rw[hc] at mP<;>cases mP
 |func f=>cases hs
def Tu{x:Operand}{d:Nat}{take:Bool}{r:E2}{run:IT->Ai->Option KE}{f:BT}{h':Ai}(hm:Lr C U x d take=some r)(hd:r.OD C run (U.drop r.news) h f h')
  (hr:Df C γ0 w0 γ β U h a w):∃γ',Df C γ0 w0 γ' β f h' (a.put (some d) (a.eval x)) w:=by
 unfold Lr at hm;split at hm;.rename_i s _ _ _ hs;cases hm;rw[Pp AB] at hd;obtain⟨rfl,rfl⟩:=hd;refine⟨γ,hr.put (d:=some d) λt ht=>?_⟩;have h0:=Ts hr s;rw[HD hs] at h0;exact h0.1
 .rename_i v sl hs;cases hm;obtain⟨p,q⟩:=Tt (γ:=γ) (β:=β) (w:=w) hs;rw[Pp (by simpa using λcs ow=>q 0 cs ow)] at hd;obtain⟨rfl,rfl⟩:=hd;exact⟨γ,hr.put (d:=some d) λt _=>p _ t⟩
 .rename_i v hnc hs;split at hm;.cases hm;obtain⟨s,rfl,e⟩:=sU hs (λc hc=>hnc c hc);rw[Pp (by simp[Tl])] at hd;obtain⟨rfl,rfl⟩:=hd;obtain⟨γ',E0,Ib,Lm,Ů⟩:=hr.take e d none;exact⟨γ',Ib.put (d:=some d) λt ht=>by cases ht;exact⟨Lm,Ů⟩⟩
  .simp only[Jd,BW] at hm;cases hm;rw[Pp AB] at hd;obtain⟨rfl,rfl⟩:=hd;obtain⟨s,h1,_⟩:=GJ hr hs;exact⟨γ,hr.put (d:=some d) λt ht=>h1.1⟩
 .rename_i sl _ _ _ hs;cases hc:Jd sl with
  |none=>rw[hc] at hm;cases hm
  |some b=>
   rw[hc] at hm;cases hm;have yW:∀cs ow,b≠ .box 0 cs ow:=by intro cs ow he;subst he;cases sl<;>simp[Jd] at hc
   rw[Pp (by simpa using yW)] at hd;obtain⟨rfl,rfl⟩:=hd;obtain⟨s,h1,_⟩:=GJ hr hs;exact⟨γ,hr.put (d:=some d) λt ht=>fS h1 hc⟩
 .cases hm
end
end Go.Am
end
section
namespace Go.Am
open Go
def XV{s:Sem Value}{v:Value}(h:Rp s=some v):s= .pure v:=by cases s<;>simp[Rp] at h;subst h;rfl
section
variable{P:Program}{γ:Gh}{w:World}
def nF{op:BinOp}{k l:IntKind}{x y:Int}{u:Ab}(t:TypeId)(c b:Operand)(h:yG op k x l y=some u):
  ∃v,(do eqGuard op t c b (.int k x) (.int l y);binOp op t (.int k x) (.int l y):Sem Value).run P w= .ok v w/\BQ γ u v:=by
 unfold yG at h;cases hs:Rp (binOp op 0 (.int k x) (.int l y)) with
 |none=>rw[hs] at h;cases h
 |some v=>
  rw[hs] at h;have f:=XV hs;have e:binOp op t (.int k x) (.int l y)= .pure v:=by rw[<-f];cases op<;>rfl
  have d:eqGuard op t c b (.int k x) (.int l y)=pure ():=by cases op<;>rfl
  refine⟨v,by rw[d,e];rfl,?_⟩;simp only[Cx] at h;split at h<;>cases h<;>rfl
def fU(l:List UInt8):(ByteArray.mk ⟨l⟩).toList=l:=ByteArray.toList_mk l
def nG{op:BinOp}{x y:Ah}{u:Ab}(t:TypeId)(d c:Operand)(h:mZ op x y=some u):
  ∃v,(do eqGuard op t d c (.string ⟨⟨x⟩⟩) (.string ⟨⟨y⟩⟩);binOp op t (.string ⟨⟨x⟩⟩) (.string ⟨⟨y⟩⟩):Sem Value).run P w= .ok v w/\BQ γ u v:=by
 have e:eqGuard op t d c (.string ⟨⟨x⟩⟩) (.string ⟨⟨y⟩⟩)=pure ():=by cases op<;>rfl
 have b:binOp op t (.string ⟨⟨x⟩⟩) (.string ⟨⟨y⟩⟩)=Op.stringOp op ⟨⟨x⟩⟩ ⟨⟨y⟩⟩:=by cases op<;>rfl
 rw[e,b];unfold mZ at h;cases op<;>simp only at h<;>first
  |cases h;done
  |(simp only[Op.stringOp,fU];cases h;exact⟨_,rfl,rfl⟩)
  | (split at h
     . rename_i E0
       cases h
       have hc : ¬ ((((ByteArray.mk ⟨x⟩).size + (ByteArray.mk ⟨y⟩).size : Nat) : Int) > IntKind.i64.max) := by
         have f : (ByteArray.mk ⟨x⟩).size = x.length := rfl
         have b : (ByteArray.mk ⟨y⟩).size = y.length := rfl
         rw [f, b]
         have : IntKind.i64.max = 9223372036854775807 := Az
         rw [this]
         omega
       simp only [Op.stringOp, Aa hc]
       refine ⟨_, rfl, ?_⟩
       show Value.string _ = Value.string _
       first
         | (congr 1; done)
         | (congr 1; apply ByteArray.ext; simp)
     . cases h)
def sV{t:TypeId}(h:FL P t=some none):(isAgg t).run P w= .ok false w:=by
 unfold FL at h;split at h;.cases hs:B1 P t<;>rw[hs] at h<;>cases h
 .cases hs:B1 P t<;>rw[hs] at h<;>cases h
 .rename_i d h1 h2 hu;simp only[isAgg,Sem.run_bind,run_underlying hu,Result.andThen_ok];rfl
 .cases h
def Sw{t:TypeId}{n:Nat}(h:FL P t=some (some n)):(isAgg t).run P w= .ok true w/\B1 P t=some n:=by
 unfold FL at h;split at h
 .rename_i fs hu;cases hs:B1 P t with
  |none=>rw[hs] at h;cases h
  |some m=>rw[hs] at h;cases h;exact⟨by simp[isAgg,run_underlying hu],rfl⟩
 .rename_i fs _ hu;cases hs:B1 P t with
  |none=>rw[hs] at h;cases h
  |some m=>rw[hs] at h;cases h;exact⟨by simp[isAgg,run_underlying hu],rfl⟩
 .cases h
 .cases h
def DW{t:TypeId}{n:Nat}(h:B1 P t=some n):(sizeOf t).run P w= .ok n w:=by
 unfold B1 at h;cases hi:P.info? t with
 |none=>rw[hi] at h;cases h
 |some i=>rw[hi] at h;cases h;simp[sizeOf,typeInfo,hi]
def nH{t:TypeId}{sh:Option Nat}{cs:List Ab}{us:Array Value}{off:Nat}{u:Ab}(sD:FL P t=some sh)(hr:Bc γ cs us.toList)(h1:∀v∈us.toList,v.oneCell'=true)
  (hp:FN cs off sh=some u):∃v,(part t us off).run P w= .ok v w/\BQ γ u v:=by
 cases sh with
 |none=>
  replace hp:cs[off]?=some u:=hp;obtain⟨v,hv,hrel⟩:=hr.get hp;refine⟨v,?_,hrel⟩;have Lm:us[off]?=some v:=by simpa using hv
  simp[part,sV sD,Lm]
 |some n=>
  obtain⟨ha,hs⟩:=Sw (w:=w) sD;replace hp:(if off+n<=cs.length then some (Ab.agg ((cs.drop off).take n)) else none)=some u:=hp;split at hp
  .cases hp;refine⟨.agg (us.extract off (off+n)),by simp[part,ha,DW hs],us.extract off (off+n),rfl,?_,?_⟩;.have:=(hr.drop off).take n;simpa[Pb,Ir] using this
   .intro v hv;refine h1 v ?_;rw[Pb,Ir] at hv;exact A6 (A9 hv)
  .cases hp
end
end Go.Am
end
section
namespace Go.Am
open Go
def za{x y:Ab}{b:Bool}(h:Of .b x y=some b):∃p q,x= .bool p/\y= .bool q/\(p==q)=b:=by unfold Of at h;split at h<;>first|cases h;done|(rename_i he;cases he;done)|(cases h;exact⟨_,_,rfl,rfl,rfl⟩)
def zb{x y:Ab}{b:Bool}(h:Of .i x y=some b):∃k p q,x= .int k p/\y= .int k q/\(p==q)=b:=by
 unfold Of at h;split at h;.rename_i he;cases he
 .split at h;.rename_i hk;subst hk;cases h;exact⟨_,_,_,rfl,rfl,rfl⟩
  .cases h
 .rename_i he;cases he
 .cases h
def zc{x y:Ab}{b:Bool}(h:Of .s x y=some b):∃p q,x= .str p/\y= .str q/\(p==q)=b:=by
 unfold Of at h;split at h;.rename_i he;cases he
 .rename_i he;cases he
 .cases h;exact⟨_,_,rfl,rfl,rfl⟩
 .cases h
def Qy:∀{ks c:List FK} {xs ys:List Ab} {b:Bool},ED (ks++c) xs ys=some b->
  ∃b1 b2,ED ks (xs.take ks.length) (ys.take ks.length)=some b1/\ED c (xs.drop ks.length) (ys.drop ks.length)=some b2/\b=(b1&&b2)
 |[],c,xs,ys,b,h=>⟨true,b,by simp[ED],by simpa using h,AB⟩
 |k::ks,c,[],ys,b,h=>by cases ys<;>simp[ED] at h
 |k::ks,c,x::xs,[],b,h=>by simp[ED] at h
 |k::ks,c,x::xs,y::ys,b,h=>by
  simp only[BD,ED] at h;split at h;.rename_i e es h1 h2;cases h;obtain⟨b1,b2,p,q,r⟩:=Qy h2;refine⟨e&&b1,b2,?_,by simpa using q,by rw[r,Bool.and_assoc]⟩;simp only[AJ,LN,ED,h1,p]
  .cases h
def Qz:∀{ks:List FK} {xs ys:List Ab} {b:Bool},ED ks xs ys=some b->xs.length=ks.length/\ys.length=ks.length
 |[],xs,ys,b,h=>by cases xs<;>cases ys<;>simp[ED] at h⊢
 |k::ks,xs,ys,b,h=>by
  cases xs<;>cases ys<;>simp[ED] at h;split at h;.rename_i h1 h2;obtain⟨p,q⟩:=Qz h2;simp[p,q]
  .cases h
section
variable{P:Program}{γ:Gh}{w:World}
def cF:∀{d:Nat} {t:TypeId} {ks:List FK},Qu P d t=some ks->B1 P t=some ks.length
 |0,t,ks,h=>by cases h
 |d+1,t,ks,h=>by
  simp only[Qu] at h;split at h;.split at h<;>cases h;assumption
  .split at h<;>cases h;assumption
  .split at h<;>cases h;assumption
  .split at h
   .split at h;.rename_i hc;cases h;exact hc.1
    .cases h
   .cases h
  .cases h
def sW{ks:List FK}{k:FK}{t:TypeId}(h:(if B1 P t=some 1 then some [k] else none)=some ks):ks=[k]:=by split at h<;>cases h;rfl
def Hg{t:TypeId}{us:Array Value}{off:Nat}{v:Value}{d:TypeDesc}(hu:P.underlying t=some d)(h1:∀fs,d≠ .struct fs)(h2:∀n e,d≠ .array n e)(hv:us[off]?=some v):
  (part t us off).run P w= .ok v w:=by
 have ha:(isAgg t).run P w= .ok false w:=by simp only[isAgg,Sem.run_bind,run_underlying hu,Result.andThen_ok];cases d<;>first|rfl|exact absurd rfl (h1 _)|exact absurd rfl (h2 _ _)
 simp[part,ha,hv]
def Ku{l:List Ab}{off:Nat}{x:Ab}(h:(l.drop off).take 1=[x]):l[off]?=some x:=by have:=B6 (·[0]?) h;simpa using this
def XW{k:FK}{xs ys:List Ab}{b:Bool}(h:ED [k] xs ys=some b):∃x y,xs=[x]/\ys=[y]/\Of k x y=some b:=by
 cases xs<;>cases ys<;>simp[ED] at h;rename_i x xs y ys;cases xs<;>cases ys<;>simp[ED] at h;all_goals first
  | (split at h
     . rename_i e es h1 h2; cases h2; cases h; exact ⟨x, y, rfl, rfl, by simpa using h1⟩
     . cases h)
  |(split at h<;>simp_all)
mutual
def nI:∀{d D:Nat},d<=D->∀{t:TypeId} {ks:List FK},Qu P d t=some ks->∀(us vs:Array Value) (cs ds:List Ab) (off:Nat) (b:Bool),Bc γ cs us.toList->Bc γ ds vs.toList->
  ED ks ((cs.drop off).take ks.length) ((ds.drop off).take ks.length)=some b->
  ∃x y,(part t us off).run P w= .ok x w/\(part t vs off).run P w= .ok y w/\(Op.equalIn D t x y).run P w= .ok b w
 |0,_,_,_,_,h=>by cases h
 |d+1,0,hd,_,_,_=>Ac
 |d+1,D+1,hd,t,ks,h=>by
  intro us vs cs ds off b hu hv he;have Lu:=cF h;simp only[Qu] at h;split at h;.rename_i cG;have:=sW h;subst this;obtain⟨x,y,m,l,k⟩:=XW he;obtain⟨x',i,g⟩:=hu.get (Ku m);obtain⟨c,f,e⟩:=hv.get (Ku l);refine⟨x',c,Hg cG AB AB (by simpa using i),Hg cG AB AB (by simpa using f),?_⟩;obtain⟨o,n,rfl,rfl,j⟩:=za k;rw[g,e,run_equalIn_bool' w D t _ _ cG,<-j]
  .rename_i kk cG;have:=sW h;subst this;obtain⟨x,y,m,l,k⟩:=XW he;obtain⟨x',i,g⟩:=hu.get (Ku m);obtain⟨c,f,e⟩:=hv.get (Ku l);refine⟨x',c,Hg cG AB AB (by simpa using i),Hg cG AB AB (by simpa using f),?_⟩;obtain⟨q,o,n,rfl,rfl,j⟩:=zb k;rw[g,e,run_equalIn_int w D t _ _ _ _ cG,<-j]
  .rename_i cG;have:=sW h;subst this;obtain⟨x,y,m,l,k⟩:=XW he;obtain⟨x',i,g⟩:=hu.get (Ku m);obtain⟨c,f,e⟩:=hv.get (Ku l);refine⟨x',c,Hg cG AB AB (by simpa using i),Hg cG AB AB (by simpa using f),?_⟩;obtain⟨o,n,rfl,rfl,j⟩:=zc k;rw[g,e,run_equalIn_string w D t _ _ cG,fU,fU,<-j]
  .rename_i fs cG;split at h
   .rename_i p MM;split at h
    .rename_i hc;cases h;have sD:FL P t=some (some ks.length):=by simp[FL,cG,Lu]
     obtain⟨ha,hs⟩:=Sw (w:=w) sD;refine⟨.agg (us.extract off (off+ks.length)),.agg (vs.extract off (off+ks.length)),by simp[part,ha,DW hs],by simp[part,ha,DW hs],?_⟩;have aNg:P.underlying t=some (.struct (P.fieldsOf t)):=by simp[Program.fieldsOf,cG]
     rw[run_equalIn_struct w D t _ _ aNg hc.2];have hf:(P.fieldsOf t).toList=fs.toList:=by simp[Program.fieldsOf,cG]
     rw[hf];have ph:Bc γ ((cs.drop off).take ks.length) (us.extract off (off+ks.length)).toList:=by have:=(hu.drop off).take ks.length;simpa[Pb,Ir] using this
     have Lm:Bc γ ((ds.drop off).take ks.length) (vs.extract off (off+ks.length)).toList:=by have:=(hv.drop off).take ks.length;simpa[Pb,Ir] using this
     refine cH (Nat.le_of_succ_le_succ hd) fs.toList MM _ _ _ _ _ ph Lm ?_;simpa using he
    .cases h
   .cases h
  .cases h
def cH:∀{d D:Nat},d<=D->∀(fs:List Field) {off:Nat} {ks:List FK},XJ (Qu P d) fs off=some ks->∀(us vs:Array Value) (cs ds:List Ab) (b:Bool),Bc γ cs us.toList->Bc γ ds vs.toList->
  ED ks (cs.drop off) (ds.drop off)=some b->(Op.eqFields D us vs fs).run P w= .ok b w
 |d,D,hd,[],off,ks,h=>by
  intro us vs cs ds b hu hv he;cases h;have:b=true:=by cases h1:cs.drop off<;>cases h2:ds.drop off<;>rw[h1,h2] at he<;>simp[ED] at he;exact he
  subst this;rfl
 |d,D,hd,f::fs,off,ks,h=>by
  intro us vs cs ds b hu hv he;simp only[XJ] at h;split at h
  .rename_i hc;obtain⟨hn,aIT⟩:=hc;split at h
   .rename_i c sX;cases hr:XJ (Qu P d) fs (off+c.length) with
    |none=>rw[hr] at h;cases h
    |some j=>
     rw[hr] at h;cases h;obtain⟨b1,b2,l,k,rfl⟩:=Qy he;obtain⟨x,y,i,g,e⟩:=nI hd sX _ _ _ _ _ _ hu hv l;simp only[Op.eqFields,hn,CP,AP,BN,aIT,Sem.run_bind,i,g,e,Result.andThen_ok];cases b1;.rfl
     .simp only[Bool.not_true,B5,DK,Bool.true_and];exact cH hd fs hr _ _ _ _ _ hu hv (by simpa[Ez] using k)
   .cases h
  .cases h
end
def nJ{op:BinOp}{t:TypeId}{d c:Operand}{neg:Bool}{ks:List FK}{a b:List Ab}{x y:Value}{u:Ab}(NV:(op= .eql/\neg=false)\/(op= .neq/\neg=true))
  (hg:P.eqGuardType P.depth t=false) (hk:Qu P 20 t=some ks) (JZ:∃fs,P.underlying t=some (.struct fs)) (hx:BQ γ (.agg a) x) (hy:BQ γ (.agg b) y) (h:(ED ks a b).map (λe=>Ab.bool (e != neg))=some u):
  ∃v,(do eqGuard op t d c x y;binOp op t x y:Sem Value).run P w= .ok v w/\BQ γ u v:=by
 obtain⟨us,rfl,hu,_⟩:=hx;obtain⟨vs,rfl,hv,_⟩:=hy;cases he:ED ks a b with
 |none=>rw[he] at h;cases h
 |some e=>
  rw[he] at h;cases h;obtain⟨l1,l2⟩:=Qz he;obtain⟨x',j,i,g,f⟩:=nI (w:=w) (P:=P) (γ:=γ) (D:=10000) (Ac:20<=10000) hk us vs a b 0 e hu hv (by rw[K8,K8,Bf (NA l1),Bf (NA l2)];exact he);obtain⟨fs,MM⟩:=JZ;have sD:FL P t=some (some ks.length):=by simp[FL,MM,cF hk]
  obtain⟨ha,hs⟩:=Sw (w:=w) sD;have n:us.extract 0 ks.length=us:=by
   have:us.size=ks.length:=by have:=hu.length;simp at this;omega
   rw[<-this];simp
  have m:vs.extract 0 ks.length=vs:=by
   have:vs.size=ks.length:=by have:=hv.length;simp at this;omega
   rw[<-this];simp
  have l:x'= .agg us:=by simp[part,ha,DW hs,n] at i;exact i.symm
  have k:j= .agg vs:=by simp[part,ha,DW hs,m] at g;exact g.symm
  subst l;subst k;rcases NV with⟨rfl,rfl⟩|⟨rfl,rfl⟩
  .refine⟨.bool e,by simp[run_eqGuard_agg (P:=P) w .eql t d c us vs hg,run_eql_struct,f],?_⟩;show Value.bool e=Value.bool _;cases e<;>rfl
  .refine⟨.bool (!e),by simp[run_eqGuard_agg (P:=P) w .neq t d c us vs hg,run_neq_struct,f],?_⟩;show Value.bool _=Value.bool _;cases e<;>rfl
end
end Go.Am
end
