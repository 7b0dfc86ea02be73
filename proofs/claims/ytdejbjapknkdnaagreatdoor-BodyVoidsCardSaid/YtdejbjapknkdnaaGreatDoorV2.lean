/- Lemmas -/
import Derived.Test.YtdejbjapknkdnaaGreatDoorV1
import Derived.Orders
import Derived.Laws.AppendOwn
import Derived.Laws.StructEq
set_option linter.all false
section
namespace Go.Am
inductive KK where
 |Ng (id:Nat)
 |loc (s:Nat)
 |tail (s:Nat) (c:Option Nat) (start:Nat)
def KK.tg:KK->Bool
 | .Ng _=>true
 |_=>false
structure Gh where
 Iw:Nat->Nat->Option Value
 mu:Nat->Option Nat
 BN:Nat->Option KK
 sz:Nat->Option Nat
mutual
def BJ(γ:Gh):Aa->Value->Prop
 | .bool b,v=>v= .bool b
 | .int k n,v=>v= .int k n
 | .str s,v=>v= .string ⟨⟨s⟩⟩
 | .ptr none,v=>v= .pointer none
 | .ptr (some (id,o)),v=>∃b,γ.mu id=some b/\v= .pointer (some ⟨b,o,none⟩)
 | .B4 cs,v=>∃b o,v= .pointer (some ⟨b,o,none⟩)/\CU γ cs b o
 | .sl z As,v=>∃d cap,v= .slice (some d) As.length cap/\As.length<=cap/\(d.spot=none\/cap=0)/\ES γ As z d.block d.off
 | .slnil,v=>v= .slice none 0 0
 | .GB _,v=>∃b,v= .slice (some ⟨b,0,none⟩) 0 0
 | .C7 id off len z,v=>∃b cap,γ.mu id=some b/\v= .slice (some ⟨b,off,none⟩) len cap/\len<=cap/\(0<z/\cap<=maxLen)/\γ.sz b=some (off+cap*z)
 | .map none,v=>v= .map none
 | .map (some id),v=>∃b,γ.mu id=some b/\v= .map (some b)
 | .func fn f c,v=>∃fs cs,v= .func fn fs cs/\A3 γ f fs.toList/\A3 γ c cs.toList
 | .nilFunc,v=>v= .nilFunc
 | .iface t a,v=>∃u,v= .iface t u/\BJ γ a u
 | .nilIface,v=>v= .nilIface
 | .agg cs,v=>∃us,v= .agg us/\A3 γ cs us.toList/\∀u∈us.toList,u.oneCell'=true
 | .tuple vs,v=>∃us,v= .tuple us/\A3 γ vs us.toList
def A3(γ:Gh):List Aa->List Value->Prop
 |[],us=>us=[]
 |a::l,us=>∃u DB,us=u::DB/\BJ γ a u/\A3 γ l DB
def CU(γ:Gh):List Aa->Nat->Nat->Prop
 |[],_,_=>True
 |a::l,b,o=>(∃u,γ.Iw b o=some u/\BJ γ a u)/\CU γ l b (o+1)
def ES(γ:Gh):List (List Aa)->Nat->Nat->Nat->Prop
 |[],_,_,_=>True
 |r::rs,z,b,o=>r.length=z/\CU γ r b o/\ES γ rs z b (o+z)
end
structure Gh.le(γ γ':Gh):Prop where
 Iw:∀b o v,γ.Iw b o=some v->γ'.Iw b o=some v
 mu:∀id b,γ.mu id=some b->γ'.mu id=some b
 sz:∀b n,γ.sz b=some n->γ'.sz b=some n
def Gh.le.refl(γ:Gh):γ.le γ:=⟨λ_ _ _ h=>h,λ_ _ h=>h,λ_ _ h=>h⟩
def Gh.le.trans{a b c:Gh}(h:a.le b)(k:b.le c):a.le c:=⟨λ_ _ _ x=>k.Iw _ _ _ (h.Iw _ _ _ x),λ_ _ x=>k.mu _ _ (h.mu _ _ x),λ_ _ x=>k.sz _ _ (h.sz _ _ x)⟩
mutual
def BJ.mono{γ γ':Gh}(EC:γ.le γ'):∀(a:Aa) (v:Value),BJ γ a v->BJ γ' a v
 | .bool b,v,h=>h
 | .int k n,v,h=>h
 | .str s,v,h=>h
 | .ptr none,v,h=>h
 | .ptr (some (id,o)),v,h=>by obtain⟨b,hb,d⟩:=h;exact⟨b,EC.mu _ _ hb,d⟩
 | .B4 cs,v,h=>by obtain⟨b,o,d,hm⟩:=h;exact⟨b,o,d,CU.mono EC cs b o hm⟩
 | .sl z As,v,h=>by obtain⟨e,cap,d,hc,hs,hm⟩:=h;exact⟨e,cap,d,hc,hs,ES.mono EC As z _ _ hm⟩
 | .slnil,v,h=>h
 | .GB _,v,h=>h
 | .C7 id off len z,v,h=>by obtain⟨b,cap,hb,d,hc,hz,hs⟩:=h;exact⟨b,cap,EC.mu _ _ hb,d,hc,hz,EC.sz _ _ hs⟩
 | .map none,v,h=>h
 | .map (some id),v,h=>by obtain⟨b,hb,d⟩:=h;exact⟨b,EC.mu _ _ hb,d⟩
 | .func fn f c,v,h=>by obtain⟨fs,cs,d,h1,h2⟩:=h;exact⟨fs,cs,d,A3.mono EC f _ h1,A3.mono EC c _ h2⟩
 | .nilFunc,v,h=>h
 | .iface t a,v,h=>by obtain⟨u,d,h1⟩:=h;exact⟨u,d,BJ.mono EC a u h1⟩
 | .nilIface,v,h=>h
 | .agg cs,v,h=>by obtain⟨us,d,h1,h2⟩:=h;exact⟨us,d,A3.mono EC cs _ h1,h2⟩
 | .tuple vs,v,h=>by obtain⟨us,d,h1⟩:=h;exact⟨us,d,A3.mono EC vs _ h1⟩
def A3.mono{γ γ':Gh}(EC:γ.le γ'):∀(l:List Aa) (us:List Value),A3 γ l us->A3 γ' l us
 |[],us,h=>h
 |a::l,us,h=>by obtain⟨u,DB,hu,h1,h2⟩:=h;exact⟨u,DB,hu,BJ.mono EC a u h1,A3.mono EC l DB h2⟩
def CU.mono{γ γ':Gh}(EC:γ.le γ'):∀(l:List Aa) (b o:Nat),CU γ l b o->CU γ' l b o
 |[],_,_,_=>trivial
 |a::l,b,o,h=>by obtain⟨⟨u,hu,h1⟩,h2⟩:=h;exact⟨⟨u,EC.Iw _ _ _ hu,BJ.mono EC a u h1⟩,CU.mono EC l b (o+1) h2⟩
def ES.mono{γ γ':Gh}(EC:γ.le γ'):∀(rs:List (List Aa)) (z b o:Nat),ES γ rs z b o->ES γ' rs z b o
 |[],_,_,_,_=>trivial
 |r::rs,z,b,o,h=>⟨h.1,CU.mono EC r b o h.2.1,ES.mono EC rs z b (o+z) h.2.2⟩
end
def A3.length{γ:Gh}:∀{l:List Aa} {us:List Value},A3 γ l us->us.length=l.length
 |[],us,h=>by rw[A3] at h;subst h;rfl
 |a::l,us,h=>by rw[A3] at h;obtain⟨u,DB,rfl,_,h2⟩:=h;simp[h2.length]
def A3.get{γ:Gh}:∀{l:List Aa} {us:List Value},A3 γ l us->∀{i:Nat} {a:Aa},l[i]?=some a->∃u,us[i]?=some u/\BJ γ a u
 |[],us,h,i,a,hi=>by simp at hi
 |x::l,us,h,i,a,hi=>by
  rw[A3] at h;obtain⟨u,DB,rfl,h1,h2⟩:=h;cases i with
  |zero=>simp at hi;subst hi;exact⟨u,rfl,h1⟩
  |succ i=>simp at hi;obtain⟨v,b,hr⟩:=h2.get hi;exact⟨v,by simpa using b,hr⟩
def A3.GZ{γ:Gh}:∀{l:List Aa} {us:List Value},us.length=l.length->(∀(i:Nat) (a:Aa) (u:Value),l[i]?=some a->us[i]?=some u->BJ γ a u)->A3 γ l us
 |[],us,hl,_=>by rw[A3];exact CQ hl
 |x::l,[],hl,_=>by simp at hl
 |x::l,u::us,hl,h=>by rw[A3];exact⟨u,us,rfl,h 0 x u rfl rfl,A3.GZ (by simpa using hl) λi a v hi b=>h (i+1) a v (by simpa using hi) (by simpa using b)⟩
def A3.append{γ:Gh}:∀{l l':List Aa} {us DB:List Value},A3 γ l us->A3 γ l' DB->A3 γ (l++l') (us++DB)
 |[],l',us,DB,h,h'=>by rw[A3] at h;subst h;simpa using h'
 |a::l,l',us,DB,h,h'=>by rw[A3] at h;obtain⟨u,r,rfl,h1,h2⟩:=h;rw[Cr,A3];exact⟨u,r++DB,rfl,h1,h2.append h'⟩
def A3.take{γ:Gh}{l:List Aa}{us:List Value}(h:A3 γ l us)(n:Nat):A3 γ (l.take n) (us.take n):=by
 refine A3.GZ (by simp[h.length]) λi a u hi hu=>?_;rw[Co] at hi hu;split at hi;.rename_i hlt;rw[if_pos hlt] at hu;obtain⟨v,b,hr⟩:=h.get hi;rw[hu] at b;cases b;exact hr
 .cases hi
def A3.drop{γ:Gh}{l:List Aa}{us:List Value}(h:A3 γ l us)(n:Nat):A3 γ (l.drop n) (us.drop n):=by refine A3.GZ (by simp[h.length]) λi a u hi hu=>?_;rw[Cu] at hi hu;obtain⟨v,b,hr⟩:=h.get hi;rw[hu] at b;cases b;exact hr
def CU.get{γ:Gh}:∀{l:List Aa} {b o:Nat},CU γ l b o->∀{i:Nat} {a:Aa},l[i]?=some a->∃u,γ.Iw b (o+i)=some u/\BJ γ a u
 |[],b,o,h,i,a,hi=>by simp at hi
 |x::l,b,o,h,i,a,hi=>by
  rw[CU] at h;obtain⟨⟨u,hu,h1⟩,h2⟩:=h;cases i with
  |zero=>simp at hi;subst hi;exact⟨u,hu,h1⟩
  |succ i=>simp at hi;obtain⟨v,c,hr⟩:=h2.get hi;exact⟨v,by rw[<-c];congr 1;omega,hr⟩
def CU.GZ{γ:Gh}:∀{l:List Aa} {b o:Nat},(∀(i:Nat) (a:Aa),l[i]?=some a->∃u,γ.Iw b (o+i)=some u/\BJ γ a u)->CU γ l b o
 |[],b,o,h=>by rw[CU];trivial
 |x::l,b,o,h=>by rw[CU];refine⟨h 0 x rfl,CU.GZ λi a hi=>?_⟩;obtain⟨u,hu,hr⟩:=h (i+1) a (by simpa using hi);exact⟨u,by rw[<-hu];congr 1;omega,hr⟩
def CU.drop{γ:Gh}{l:List Aa}{b o:Nat}(h:CU γ l b o)(n:Nat):CU γ (l.drop n) b (o+n):=by refine CU.GZ λi a hi=>?_;rw[Cu] at hi;obtain⟨u,hu,hr⟩:=h.get hi;exact⟨u,by rw[<-hu];congr 1;omega,hr⟩
def CU.values{γ:Gh}:∀{l:List Aa} {b o:Nat},CU γ l b o->∃us:List Value,A3 γ l us/\∀(j:Nat) (u:Value),us[j]?=some u->γ.Iw b (o+j)=some u
 |[],b,o,h=>⟨[],by rw[A3],by simp⟩
 |x::l,b,o,h=>by
  rw[CU] at h;obtain⟨⟨u,hu,h1⟩,h2⟩:=h;obtain⟨us,hr,hi⟩:=h2.values;refine⟨u::us,by rw[A3];exact⟨u,us,rfl,h1,hr⟩,λj v hj=>?_⟩;cases j with
  |zero=>simp at hj;subst hj;exact hu
  |succ j=>simp at hj;rw[<-hi j v hj];congr 1;omega
def ES.get{γ:Gh}:∀{rs:List (List Aa)} {z b o:Nat},ES γ rs z b o->∀{i:Nat} {r:List Aa},rs[i]?=some r->r.length=z/\CU γ r b (o+i*z)
 |[],z,b,o,h,i,r,hi=>by simp at hi
 |x::rs,z,b,o,h,i,r,hi=>by
  rw[ES] at h;cases i with
  |zero=>simp at hi;subst hi;simpa using⟨h.1,h.2.1⟩
  |succ i=>simp at hi;obtain⟨h1,h2⟩:=h.2.2.get hi;exact⟨h1,by rw[show o+(i+1)*z=o+z+i*z by rw[BD,Ez];omega];exact h2⟩
def ES.GZ{γ:Gh}:∀{rs:List (List Aa)} {z b o:Nat},(∀(i:Nat) (r:List Aa),rs[i]?=some r->r.length=z/\CU γ r b (o+i*z))->ES γ rs z b o
 |[],z,b,o,h=>by rw[ES];trivial
 |x::rs,z,b,o,h=>by rw[ES];have h0:=h 0 x rfl;refine⟨h0.1,by simpa using h0.2,ES.GZ λi r hi=>?_⟩;obtain⟨h1,h2⟩:=h (i+1) r (by simpa using hi);exact⟨h1,by rw[show o+z+i*z=o+(i+1)*z by rw[BD,Ez];omega];exact h2⟩
def ES.length{γ:Gh}:∀{rs:List (List Aa)} {z b o:Nat},ES γ rs z b o->rs.flatten.length=rs.length*z
 |[],z,b,o,h=>by simp
 |x::rs,z,b,o,h=>by rw[ES] at h;simp[h.1,h.2.2.length,BD,PL]
def OE{b:Addr}{n cap:Nat}(hs:b.spot=none\/cap=0)(hc:n<=cap)(hn:0<n):b=⟨b.block,b.off,none⟩:=by
 rcases hs with hs|hs
 .cases b;simp_all
 .omega
def ES.values{γ:Gh}:∀{rs:List (List Aa)} {z b o:Nat},ES γ rs z b o->∃us:List Value,A3 γ rs.flatten us/\us.length=rs.length*z/\∀(j:Nat) (u:Value),us[j]?=some u->γ.Iw b (o+j)=some u
 |[],z,b,o,h=>⟨[],by simp[A3],by simp,by simp⟩
 |x::rs,z,b,o,h=>by
  rw[ES] at h;obtain⟨us,h1,h2⟩:=h.2.1.values;obtain⟨vs,h3,d,c⟩:=h.2.2.values;have hl:us.length=z:=by rw[h1.length,h.1]
  refine⟨us++vs,by simpa using h1.append h3,by simp[hl,d,BD,PL],λj u hj=>?_⟩;rw[aKc] at hj;split at hj;.exact h2 j u hj
  .rename_i HK;rw[<-c _ _ hj];congr 1
   omega
def Jm(γ:Gh)(B:Nat)(w:World)(s:Nat)(c:Option Nat)(v:Value)(a:Aa):Prop:=
 (a= .slnil\/∃z,a= .GB z)\/∃g n cap us e z As,a= .sl z As/\v= .slice (some ⟨g,0,none⟩) n cap/\γ.BN g=some (.tail s c (n*z))/\B<=g/\
  w.heap[g]?=some (.cells us e (0,0))/\us.size=cap*z/\n<=cap/\cap<=maxLen/\0<z
def L2(γ:Gh)(β:Nat->Nat)(B:Nat)(w:World)(s:Nat):Eu->Value->Prop
 | .undef,_=>True
 | .skip,v=>v=undef
 | .val a,v=>BJ γ a v
 | .PH b,v=>v= .bool b
 | .BN a,v=>BJ γ a v/\Jm γ B w s none v a
 | .box _ cs ow,v=>v= .pointer (some ⟨β s,0,none⟩)/\γ.BN (β s)=some (.loc s)/\B<=β s/\
  ∃us e,w.heap[β s]?=some (.cells us e (0,0))/\A3 γ cs us.toList/\(∀u∈us.toList,u.oneCell'=true)/\
   ∀o∈ow,∃u a,us[o]?=some u/\cs[o]?=some a/\Jm γ B w s (some o) u a
 | .E8 s' o,v=>v= .pointer (some ⟨β s',o,none⟩)
structure FR(γ:Gh)(β:Nat->Nat)(B:Nat)(U:BL)(tmps:Array Value)(w:World):Prop where
 size:U.length=tmps.size
 Ir:∀s,L2 γ β B w s (U.at s) (tmps.getD s undef)
def Lw(γ:Gh):List (Aa×Aa)->List MapEntry->Prop
 |[],es=>es=[]
 |(k,v)::l,es=>∃e VU,es=e::VU/\BJ γ k e.key/\BJ γ v e.val/\Lw γ l VU
def th(γ:Gh)(l:List (Aa×Aa))(es:Array MapEntry)(clock:Nat):Prop:=
 Lw γ l es.toList/\clock=es.size/\∀(i:Nat) (e:MapEntry),es[i]?=some e->e.born=i
def Um(fr:Nat×Nat)(n:Nat):Prop:=fr=(0,0)\/n<=fr.1
structure HY(γ:Gh)(h:Ae)(w:World):Prop where
 Iw:∀b o v,γ.Iw b o=some v->w.cell? ⟨b,o,none⟩=some v/\v.oneCell'=true/\(γ.BN b=none\/∃s c st,γ.BN b=some (.tail s c st)/\o<st)
 Ng:∀id x,h[id]?=some x->x≠ .DD->∃b,γ.mu id=some b/\γ.BN b=some (.Ng id)
 cells:∀id cs,h[id]?=some (.cells cs)->∀b,γ.mu id=some b->∃us e fr,w.heap[b]?=some (.cells us e fr)/\Um fr us.size/\A3 γ cs (us.toList.take cs.length)/\∀u∈us.toList.take cs.length,u.oneCell'=true
 map:∀id es,h[id]?=some (.map es)->∀b,γ.mu id=some b->∃D0 clock,w.heap[b]?=some (.map D0 clock)/\th γ es D0 clock
 mu:∀id b,γ.mu id=some b->id<h.length
 BN:∀b x,γ.BN b=some x->b<w.heap.size
 sz:∀b n,γ.sz b=some n->(∃us e fr,w.heap[b]?=some (.cells us e fr)/\us.size=n)/\(γ.BN b=none\/∃id,γ.BN b=some (.Ng id))
structure ME(γ0:Gh)(w0:World)(γ:Gh)(w:World):Prop where
 le:γ0.le γ
 size:w0.heap.size<=w.heap.size
 os:w.os=w0.os
 tape:w.tape=w0.tape
 output:w.output=w0.output
 OF:∀b,b<w0.heap.size->(∀id,γ0.BN b≠some (.Ng id))->w.heap[b]?=w0.heap[b]?/\γ.BN b=γ0.BN b
def ME.refl(γ:Gh)(w:World):ME γ w γ w:=⟨.refl _,Ab _,rfl,rfl,rfl,λ_ _ _=>⟨rfl,rfl⟩⟩
def ME.trans{γ0 d c:Gh}{w0 f e:World}(h:ME γ0 w0 d f)(k:ME d f c e):ME γ0 w0 c e:=by refine⟨h.le.trans k.le,Bn h.size k.size,k.os.trans h.os,k.tape.trans h.tape,k.output.trans h.output,λb hb hn=>?_⟩;.obtain⟨h1,h2⟩:=h.OF b hb hn;obtain⟨i,g⟩:=k.OF b (Ji hb h.size) (λid=>by rw[h2];exact hn id);exact⟨i.trans h1,g.trans h2⟩
structure iv(γ:Gh)(w:World)(γ':Gh)(w':World):Prop where
 le:γ.le γ'
 OF:∀b x,γ.BN b=some x->x.tg=false->γ'.BN b=some x/\w'.heap[b]?=w.heap[b]?
def iv.aB7{γ γ':Gh}{h:Ae}{w w':World}(hi:HY γ h w)(ha:ME γ w γ' w'):iv γ w γ' w':=by refine⟨ha.le,λb x hb hx=>?_⟩;obtain⟨h1,h2⟩:=ha.OF b (hi.BN b x hb) (λid Iy=>by rw[hb] at Iy;cases Iy;simp[KK.tg] at hx);exact⟨h2.trans hb,h1⟩
def Jm.kept{γ γ':Gh}{B:Nat}{w w':World}{s:Nat}{c:Option Nat}{v:Value}{a:Aa}(h:Jm γ B w s c v a)(k:iv γ w γ' w'):Jm γ' B w' s c v a:=by
 rcases h with h|⟨g,n,cap,us,e,z,As,h1,h2,h3,j,i,f⟩
 .exact .inl h
 .obtain⟨d,b⟩:=k.OF g _ h3 rfl;exact .inr ⟨g,n,cap,us,e,z,As,h1,h2,d,j,by rw[b];exact i,f⟩
def L2.kept{γ γ':Gh}{β:Nat->Nat}{B:Nat}{w w':World}{s:Nat}{x:Eu}{v:Value}(h:L2 γ β B w s x v)(k:iv γ w γ' w'):L2 γ' β B w' s x v:=by
 cases x with
 |undef=>trivial
 |skip=>exact h
 |val a=>exact BJ.mono k.le a v h
 |PH b=>exact h
 |BN a=>exact⟨BJ.mono k.le a v h.1,h.2.kept k⟩
 |box ver cs ow=>obtain⟨h1,h2,h3,us,e,j,i,g,f⟩:=h;obtain⟨d,c⟩:=k.OF _ _ h2 rfl;exact⟨h1,d,h3,us,e,by rw[c];exact j,A3.mono k.le cs _ i,g,λo ho=>let⟨u,a,p,q,r⟩:=f o ho;⟨u,a,p,q,r.kept k⟩⟩
 |E8 s' o=>exact h
def FR.kept{γ γ':Gh}{β:Nat->Nat}{B:Nat}{U:BL}{tmps:Array Value}{w w':World}(h:FR γ β B U tmps w)(k:iv γ w γ' w'):FR γ' β B U tmps w':=
 ⟨h.size,λs=>(h.Ir s).kept k⟩
end Go.Am
end
section
namespace Go.Am
def CH{w w':World}{b o:Nat}(h:w'.heap[b]?=w.heap[b]?):w'.cell? ⟨b,o,none⟩=w.cell? ⟨b,o,none⟩:=by simp[World.cell?,h]
def DF{w:World}{b o:Nat}{v:Value}(h:w.cell? ⟨b,o,none⟩=some v):b<w.heap.size:=by
 rcases A6 b w.heap.size with h'|h'
 .exact h'
 .simp[World.cell?,Array.getElem?_eq_none h'] at h
def HY.aB8{γ:Gh}{h:Ae}{w:World}(hi:HY γ h w){b o:Nat}{v:Value}(hb:γ.Iw b o=some v):b<w.heap.size:=DF (hi.Iw b o v hb).1
def HY.same{γ:Gh}{h:Ae}{w w':World}(hi:HY γ h w)(c:w'.heap=w.heap):HY γ h w':=by
 refine⟨λb o v hb=>?_,hi.Ng,λid cs hc b hb=>?_,λid es hc b hb=>?_,hi.mu,λb x hx=>?_,λb n hb=>by rw[c];exact hi.sz b n hb⟩;.obtain⟨h1,h2,h3⟩:=hi.Iw b o v hb;have e:=CH (w:=w) (w':=w') (b:=b) (o:=o) (by rw[c]);exact⟨e.trans h1,h2,h3⟩
 .rw[c];exact hi.cells id cs hc b hb
 .rw[c];exact hi.map id es hc b hb
 .rw[c];exact hi.BN b x hx
def ME.same{γ:Gh}{w w':World}(b:w'.heap=w.heap)(h1:w'.os=w.os)(h2:w'.tape=w.tape)(h3:w'.output=w.output):ME γ w γ w':=
 ⟨.refl _,by rw[b];exact Ab _,h1,h2,h3,λ_ _ _=>⟨by rw[b],rfl⟩⟩
def ME.drew(γ:Gh)(w:World):ME γ w γ w.drew:=ME.same rfl rfl rfl rfl
def Gh.Dk(γ:Gh)(b:Nat)(us:Array Value)(k:Nat)(x:Option KK):Gh:=
 {Iw:=λb' o=>if b'=b then(if o<k then us[o]? else none) else γ.Iw b' o,mu:=γ.mu,BN:=λb'=>if b'=b then x else γ.BN b',sz:=γ.sz}
def Gh.BP(γ:Gh)(b id:Nat)(n:Option Nat):Gh:=
 {Iw:=γ.Iw,mu:=λi=>if i=id then some b else γ.mu i,BN:=λb'=>if b'=b then some (.Ng id) else γ.BN b',sz:=λb'=>if b'=b then n else γ.sz b'}
section
variable{γ:Gh}{h:Ae}{w:World}
def Fe(w:World)(o:Obj){b:Nat}(hb:b<w.heap.size):(w.alloc o).heap[b]?=w.heap[b]?:=heap_alloc_old w o b hb
def PX(hi:HY γ h w)(us:Array Value)(e:TypeId)(fr:Nat×Nat)(k:Nat)(x:Option KK)(h1:∀o u,o<k->us[o]?=some u->u.oneCell'=true)
  (hx:x=none\/(∃s c,x=some (.tail s c k))\/(k=0/\∀id,x≠some (.Ng id))):
  HY (γ.Dk w.heap.size us k x) h (w.alloc (.cells us e fr))/\ME γ w (γ.Dk w.heap.size us k x) (w.alloc (.cells us e fr)):=by
 have Fv:γ.BN w.heap.size=none:=by
  cases hc:γ.BN w.heap.size with
  |none=>rfl
  |some y=>exact absurd (hi.BN _ y hc) (Dw _)
 have tj:∀o,γ.Iw w.heap.size o=none:=λo=>by
  cases hc:γ.Iw w.heap.size o with
  |none=>rfl
  |some y=>exact absurd (hi.aB8 hc) (Dw _)
 have EC:γ.le (γ.Dk w.heap.size us k x):=⟨λb' o' v' JG=>by
  have:b'≠w.heap.size:=λhe=>by rw[he,tj] at JG;cases JG
  simp only[Gh.Dk,if_neg this];exact JG,λ_ _ hm=>hm,λ_ _ hm=>hm⟩
 constructor
 .refine⟨λb o v hb=>?_,λid y Iy hy=>?_,λid cs hc b hb=>?_,λid es hc b hb=>?_,hi.mu,λb y hy=>?_,λb n hb=>?_⟩;rotate_left 5;.obtain⟨⟨DB,d,iw,p,q⟩,r⟩:=hi.sz b n hb;have OG:b≠w.heap.size:=PM (by rw[AM] at p;exact p.1);exact⟨⟨DB,d,iw,by rw[Fe _ _ (by rw[AM] at p;exact p.1)];exact p,q⟩,by simp only[Gh.Dk,if_neg OG];exact r⟩
  .by_cases OG:b=w.heap.size
   .subst OG;simp only[Gh.Dk,BM] at hb⊢;split at hb
    .rename_i hlt;refine⟨by rw[cell_of_row _ _ _ us e fr (heap_alloc_new w _)];exact hb,h1 o v hlt hb,?_⟩;rcases hx with hx|⟨s,c,hx⟩|⟨hx,_⟩
     .exact .inl hx
     .exact .inr ⟨s,c,k,hx,hlt⟩
     .omega
    .cases hb
   .simp only[Gh.Dk,if_neg OG] at hb⊢;obtain⟨p,q,r⟩:=hi.Iw b o v hb;exact⟨by rw[CH (Fe w _ (DF p))];exact p,q,r⟩
  .obtain⟨b,p,q⟩:=hi.Ng id y Iy hy;refine⟨b,p,?_⟩;have:b≠w.heap.size:=λhe=>by rw[he,Fv] at q;cases q
   simp only[Gh.Dk,if_neg this];exact q
  .obtain⟨DB,d,iw,p,pf,q,r⟩:=hi.cells id cs hc b hb;exact⟨DB,d,iw,by rw[Fe _ _ (by rw[AM] at p;exact p.1)];exact p,pf,A3.mono EC cs _ q,r⟩
  .obtain⟨D0,clock,p,q⟩:=hi.map id es hc b hb;refine⟨D0,clock,by rw[Fe _ _ (by rw[AM] at p;exact p.1)];exact p,?_,q.2⟩;replace q:=q.1;clear hc p;revert q;generalize D0.toList=l;intro q;induction es generalizing l with
   |nil=>exact q
   |cons kv es ih=>obtain⟨g,f⟩:=kv;obtain⟨en,VU,hl,a1,a2,a3⟩:=q;exact⟨en,VU,hl,BJ.mono EC _ _ a1,BJ.mono EC _ _ a2,ih VU a3⟩
  .by_cases OG:b=w.heap.size;.subst OG;simp
   .simp only[Gh.Dk,if_neg OG] at hy;have:=hi.BN b y hy;simp;omega
 .refine⟨EC,by simp,rfl,rfl,rfl,λb hb _=>⟨Fe _ _ hb,?_⟩⟩;simp only[Gh.Dk,if_neg (PM hb)]
def Lw.mono{γ γ':Gh}(EC:γ.le γ'):∀{es:List (Aa×Aa)} {l:List MapEntry},Lw γ es l->Lw γ' es l
 |[],l,q=>q
 |(c,b)::es,l,q=>by obtain⟨en,VU,hl,a1,a2,a3⟩:=q;exact⟨en,VU,hl,BJ.mono EC _ _ a1,BJ.mono EC _ _ a2,a3.mono EC⟩
def th.mono{γ γ':Gh}(EC:γ.le γ'){es:List (Aa×Aa)}{l:Array MapEntry}{c:Nat}(h:th γ es l c):th γ' es l c:=⟨h.1.mono EC,h.2⟩
def OH(hi:HY γ h w)(o:Obj)(x:EE)(m:Option Nat)
  (hx:(∃cs us e fr,x= .cells cs/\o= .cells us e fr/\Um fr us.size/\A3 γ cs (us.toList.take cs.length)/\(∀u∈us.toList.take cs.length,u.oneCell'=true)/\m=some us.size)\/(x= .map []/\o= .map #[] 0/\m=none)):
  HY (γ.BP w.heap.size h.length m) (h++[x]) (w.alloc o)/\ME γ w (γ.BP w.heap.size h.length m) (w.alloc o):=by
 have Fv:γ.BN w.heap.size=none:=by
  cases hc:γ.BN w.heap.size with
  |none=>rfl
  |some y=>exact absurd (hi.BN _ y hc) (Dw _)
 have c:γ.mu h.length=none:=by
  cases hc:γ.mu h.length with
  |none=>rfl
  |some y=>exact absurd (hi.mu _ y hc) (Dw _)
 have KT:γ.sz w.heap.size=none:=by
  cases hc:γ.sz w.heap.size with
  |none=>rfl
  |some y=>obtain⟨⟨_,_,_,p,_⟩,_⟩:=hi.sz _ y hc;rw[AM] at p;exact absurd p.1 (Dw _)
 have EC:γ.le (γ.BP w.heap.size h.length m):=⟨λ_ _ _ f=>f,λid b hm=>by
  have:id≠h.length:=λhe=>by rw[he,c] at hm;cases hm
  simp only[Gh.BP,if_neg this];exact hm,λb n hm=>by
  have:b≠w.heap.size:=λhe=>by rw[he,KT] at hm;cases hm
  simp only[Gh.BP,if_neg this];exact hm⟩
 constructor
 .refine⟨λb o' v hb=>?_,λid y Iy hy=>?_,λid cs hc b hb=>?_,λid es hc b hb=>?_,λid b hb=>?_,λb y hy=>?_,λb n hb=>?_⟩;rotate_left 6
  .by_cases OG:b=w.heap.size
   .subst OG;simp only[Gh.BP,BM] at hb;rcases hx with⟨GW,us,e,fr,rfl,rfl,pf,p,q,rfl⟩|⟨rfl,rfl,rfl⟩
    .cases hb;exact⟨⟨us,e,fr,heap_alloc_new w _,rfl⟩,.inr ⟨h.length,by simp[Gh.BP]⟩⟩
    .cases hb
   .simp only[Gh.BP,if_neg OG] at hb⊢;obtain⟨⟨DB,d,iw,p,q⟩,r⟩:=hi.sz b n hb;exact⟨⟨DB,d,iw,by rw[Fe _ _ (by rw[AM] at p;exact p.1)];exact p,q⟩,r⟩
  .obtain⟨p,q,r⟩:=hi.Iw b o' v hb;have OG:b≠w.heap.size:=PM (DF p);exact⟨by rw[World.cell?_alloc_old _ _ _ OG];exact p,q,by simp only[Gh.BP,if_neg OG];exact r⟩
  .by_cases he:id=h.length;.exact⟨w.heap.size,by simp[Gh.BP,he],by simp[Gh.BP,he]⟩
   .have Xj:id<h.length:=by rw[Af] at Iy;obtain⟨hl,_⟩:=Iy;simp at hl;omega
    rw[Ah Xj] at Iy;obtain⟨b,p,q⟩:=hi.Ng id y Iy hy;have OG:b≠w.heap.size:=λhe=>by rw[he,Fv] at q;cases q
    exact⟨b,by simp only[Gh.BP,if_neg he];exact p,by simp only[Gh.BP,if_neg OG];exact q⟩
  .by_cases he:id=h.length
   .subst he;simp[Gh.BP] at hb;subst hb;simp at hc;rcases hx with⟨GW,us,e,fr,rfl,rfl,pf,p,q,rfl⟩|⟨rfl,rfl,rfl⟩
    .cases hc;exact⟨us,e,fr,heap_alloc_new w _,pf,A3.mono EC _ _ p,q⟩
    .cases hc
   .simp only[Gh.BP,if_neg he] at hb;have Xj:=hi.mu id b hb;rw[Ah Xj] at hc;obtain⟨DB,d,iw,p,pf,q,r⟩:=hi.cells id cs hc b hb;exact⟨DB,d,iw,by rw[Fe _ _ (by rw[AM] at p;exact p.1)];exact p,pf,A3.mono EC _ _ q,r⟩
  .by_cases he:id=h.length
   .subst he;simp[Gh.BP] at hb;subst hb;simp at hc;rcases hx with⟨GW,us,e,fr,rfl,rfl,pf,p,q,rfl⟩|⟨rfl,rfl,rfl⟩
    .cases hc
    .cases hc;exact⟨#[],0,heap_alloc_new w _,rfl,rfl,by simp⟩
   .simp only[Gh.BP,if_neg he] at hb;have Xj:=hi.mu id b hb;rw[Ah Xj] at hc;obtain⟨D0,clock,p,q⟩:=hi.map id es hc b hb;exact⟨D0,clock,by rw[Fe _ _ (by rw[AM] at p;exact p.1)];exact p,q.mono EC⟩
  .by_cases he:id=h.length;.simp[he]
   .simp only[Gh.BP,if_neg he] at hb;have:=hi.mu id b hb;simp;omega
  .by_cases OG:b=w.heap.size;.subst OG;simp
   .simp only[Gh.BP,if_neg OG] at hy;have:=hi.BN b y hy;simp;omega
 .refine⟨EC,by simp,rfl,rfl,rfl,λb hb _=>⟨Fe _ _ hb,?_⟩⟩;simp only[Gh.BP,if_neg (PM hb)]
def ix(hi:HY γ h w){g s:Nat}(hg:γ.BN g=some (.loc s))(us:Array Value):HY γ h (w.setRow g us):=by
 refine⟨λb o v hb=>?_,hi.Ng,λid cs hc b hb=>?_,λid es hc b hb=>?_,hi.mu,λb x hx=>?_,λb n hb=>?_⟩;rotate_left 4
 .obtain⟨p,r⟩:=hi.sz b n hb;have:b≠g:=λhe=>by subst he;rw[hg] at r;rcases r with r|⟨_,r⟩<;>cases r
  exact⟨by rw[setRow_other w g b us this];exact p,r⟩
 .obtain⟨p,q,r⟩:=hi.Iw b o v hb;have:b≠g:=λhe=>by subst he;rw[hg] at r;rcases r with r|⟨_,_,_,r,_⟩<;>cases r
  exact⟨by rw[CH (setRow_other w g b us this)];exact p,q,r⟩
 .have RY:b≠g:=λhe=>by subst he;obtain⟨b',p,q⟩:=hi.Ng id _ hc (by simp);rw[hb] at p;cases p;rw[hg] at q;cases q
  rw[setRow_other w g b us RY];exact hi.cells id cs hc b hb
 .have RY:b≠g:=λhe=>by subst he;obtain⟨b',p,q⟩:=hi.Ng id _ hc (by simp);rw[hb] at p;cases p;rw[hg] at q;cases q
  rw[setRow_other w g b us RY];exact hi.map id es hc b hb
 .have:=hi.BN b x hx;simpa[World.setRow] using this
def N1(hi:HY γ h w){g id:Nat}{cs:List Aa}(hcs:h[id]?=some (.cells cs))(hg:γ.mu id=some g){us:Array Value}{e:TypeId}{fr:Nat×Nat}(hw:w.heap[g]?=some (.cells us e fr))(DB:Array Value)(GW:List Aa)(aC:DB.size=us.size)(oU:Um fr DB.size)
  (hr:A3 γ GW (DB.toList.take GW.length)) (h1:∀u∈DB.toList.take GW.length,u.oneCell'=true):
  HY γ (h.set id (.cells GW)) (w.setRow g DB)/\ME γ w γ (w.setRow g DB):=by
 obtain⟨f,p,T8⟩:=hi.Ng id _ hcs (by simp);rw[hg] at p;cases p;have uniq:∀FB x,h[FB]?=some x->x≠ .DD->γ.mu FB=some g->FB=id:=λFB x hx c hm=>by obtain⟨b',p,q⟩:=hi.Ng FB x hx c;rw[hm] at p;cases p;rw[T8] at q;cases q;rfl
 constructor
 .refine⟨λb o v hb=>?_,λFB y Iy hy=>?_,λFB cs hc b hb=>?_,λFB es hc b hb=>?_,λFB b hb=>by simpa using hi.mu FB b hb,λb x hx=>?_,λb n hb=>?_⟩;rotate_left 5
  .obtain⟨⟨pG,d,tk,p,q⟩,r⟩:=hi.sz b n hb;by_cases he:b=g;.subst he;rw[hw] at p;cases p;exact⟨⟨DB,e,fr,setRow_heap w b us DB e fr hw,by rw[aC];exact q⟩,r⟩
   .exact⟨⟨pG,d,tk,by rw[setRow_other w g b DB he];exact p,q⟩,r⟩
  .obtain⟨p,q,r⟩:=hi.Iw b o v hb;have:b≠g:=λhe=>by subst he;rw[T8] at r;rcases r with r|⟨_,_,_,r,_⟩<;>cases r
   exact⟨by rw[CH (setRow_other w g b DB this)];exact p,q,r⟩
  .by_cases he:FB=id;.subst he;exact⟨g,hg,T8⟩
   .rw[Al (λx=>he x.symm)] at Iy;exact hi.Ng FB y Iy hy
  .by_cases he:FB=id;.subst he;rw[hg] at hb;cases hb;rw[AB (hi.mu _ _ hg)] at hc;cases hc;exact⟨DB,e,fr,setRow_heap w g us DB e fr hw,oU,hr,h1⟩
   .rw[Al (λx=>he x.symm)] at hc;have RY:b≠g:=λhx=>by subst hx;exact he (uniq FB _ hc (by simp) hb)
    rw[setRow_other w g b DB RY];exact hi.cells FB cs hc b hb
  .by_cases he:FB=id;.subst he;rw[AB (hi.mu _ _ hg)] at hc;cases hc
   .rw[Al (λx=>he x.symm)] at hc;have RY:b≠g:=λhx=>by subst hx;exact he (uniq FB _ hc (by simp) hb)
    rw[setRow_other w g b DB RY];exact hi.map FB es hc b hb
  .have:=hi.BN b x hx;simpa[World.setRow] using this
 .refine⟨.refl _,by simp[World.setRow],rfl,rfl,rfl,λb hb hn=>⟨?_,rfl⟩⟩;exact setRow_other w g b DB (λhe=>by subst he;exact hn id T8)
def pH(hi:HY γ h w){g s st:Nat}{c:Option Nat}(hg:γ.BN g=some (.tail s c st)){us:Array Value}{e:TypeId}(hw:w.heap[g]?=some (.cells us e (0,0)))(DB:Array Value)(k:Nat)(s':Nat)(c':Option Nat)
  (N2:∀o,o<st->DB[o]?=us[o]?) (hk:st<=k) (h1:∀o u,o<k->DB[o]?=some u->u.oneCell'=true) (Ni:∀o v,γ.Iw g o=some v->us[o]?=some v):
  HY (γ.Dk g DB k (some (.tail s' c' k))) h (w.setRow g DB)/\γ.le (γ.Dk g DB k (some (.tail s' c' k))):=by
 have hlt:∀o v,γ.Iw g o=some v->o<st:=λo v ho=>by
  obtain⟨_,_,r⟩:=hi.Iw g o v ho;rw[hg] at r;rcases r with r|⟨_,_,_,r,hl⟩
  .cases r
  .cases r;exact hl
 have EC:γ.le (γ.Dk g DB k (some (.tail s' c' k))):=⟨λb o v hb=>by
  by_cases he:b=g;.subst he;have:=hlt o v hb;simp only[Gh.Dk,BM,if_pos (Ji this hk)];rw[N2 o this];exact Ni o v hb
  .simp only[Gh.Dk,if_neg he];exact hb,λ_ _ hm=>hm,λ_ _ hm=>hm⟩
 refine⟨⟨λb o v hb=>?_,λid y Iy hy=>?_,λid cs hc b hb=>?_,λid es hc b hb=>?_,hi.mu,λb x hx=>?_,λb n hb=>?_⟩,EC⟩;rotate_left 5
 .obtain⟨p,r⟩:=hi.sz b n hb;have:b≠g:=λhe=>by subst he;rw[hg] at r;rcases r with r|⟨_,r⟩<;>cases r
  exact⟨by rw[setRow_other w g b DB this];exact p,by simp only[Gh.Dk,if_neg this];exact r⟩
 .by_cases he:b=g
  .subst he;simp only[Gh.Dk,BM] at hb⊢;split at hb
   .rename_i hl;exact⟨by rw[cell_of_row _ _ _ DB e (0,0) (setRow_heap w b us DB e (0,0) hw)];exact hb,
     h1 o v hl hb,.inr ⟨s',c',k,rfl,hl⟩⟩
   .cases hb
  .simp only[Gh.Dk,if_neg he] at hb⊢;obtain⟨p,q,r⟩:=hi.Iw b o v hb;exact⟨by rw[CH (setRow_other w g b DB he)];exact p,q,r⟩
 .obtain⟨b,p,q⟩:=hi.Ng id y Iy hy;have:b≠g:=λhe=>by subst he;rw[hg] at q;cases q
  exact⟨b,p,by simp only[Gh.Dk,if_neg this];exact q⟩
 .replace hb:γ.mu id=some b:=hb;obtain⟨b',p,q⟩:=hi.Ng id _ hc (by simp);rw[hb] at p;cases p;have:b≠g:=λhe=>by subst he;rw[hg] at q;cases q
  rw[setRow_other w g b DB this];obtain⟨pG,j,tk,i,f,d,r2⟩:=hi.cells id cs hc b hb;exact⟨pG,j,tk,i,f,A3.mono EC _ _ d,r2⟩
 .replace hb:γ.mu id=some b:=hb;obtain⟨b',p,q⟩:=hi.Ng id _ hc (by simp);rw[hb] at p;cases p;have:b≠g:=λhe=>by subst he;rw[hg] at q;cases q
  rw[setRow_other w g b DB this];obtain⟨D0,clock,i,d⟩:=hi.map id es hc b hb;exact⟨D0,clock,i,d.mono EC⟩
 .by_cases he:b=g;.subst he;have:=hi.BN b _ hg;simpa[World.setRow] using this
  .simp only[Gh.Dk,if_neg he] at hx;have:=hi.BN b x hx;simpa[World.setRow] using this
def ME.write{γ0 c:Gh}{w0:World}(ha:ME γ0 w0 γ w){d:World}{g:Nat}(hg:w0.heap.size<=g)(EC:γ.le c)(hs:d.heap.size=w.heap.size)(h1:d.os=w.os)(h2:d.tape=w.tape)(h3:d.output=w.output)
  (hk:∀b,b≠g->d.heap[b]?=w.heap[b]?/\c.BN b=γ.BN b):ME γ0 w0 c d:=by
 refine⟨ha.le.trans EC,by rw[hs];exact ha.size,h1.trans ha.os,h2.trans ha.tape,h3.trans ha.output,λb hb hn=>?_⟩;.obtain⟨p,q⟩:=ha.OF b hb hn;obtain⟨p',e⟩:=hk b (by omega);exact⟨p'.trans p,e.trans q⟩
def tl(hi:HY γ h w){g id:Nat}{cs:List Aa}(hcs:h[id]?=some (.cells cs))(hg:γ.mu id=some g){us:Array Value}{e:TypeId}{fr:Nat×Nat}(hw:w.heap[g]?=some (.cells us e fr))(h1:∀u∈us.toList.take cs.length,u.oneCell'=true):
  HY (γ.Dk g us cs.length none) (h.set id .DD) w/\ME γ w (γ.Dk g us cs.length none) w:=by
 obtain⟨j,p,T8⟩:=hi.Ng id _ hcs (by simp);rw[hg] at p;cases p;have uniq:∀FB x,h[FB]?=some x->x≠ .DD->γ.mu FB=some g->FB=id:=λFB x hx c hm=>by obtain⟨b',p,q⟩:=hi.Ng FB x hx c;rw[hm] at p;cases p;rw[T8] at q;cases q;rfl
 have hne:∀o v,γ.Iw g o=some v->False:=λo v f=>by obtain⟨_,_,r⟩:=hi.Iw g o v f;rw[T8] at r;rcases r with r|⟨_,_,_,r,_⟩<;>cases r
 have EC:γ.le (γ.Dk g us cs.length none):=⟨λb o v hb=>by
  have:b≠g:=λhe=>by subst he;exact hne o v hb
  simp only[Gh.Dk,if_neg this];exact hb,λ_ _ hm=>hm,λ_ _ hm=>hm⟩
 constructor
 .refine⟨λb o v hb=>?_,λFB y Iy hy=>?_,λFB GW hc b hb=>?_,λFB es hc b hb=>?_,λFB b hb=>by simpa using hi.mu FB b hb,λb x hx=>?_,λb n hb=>?_⟩;rotate_left 5
  .obtain⟨p,r⟩:=hi.sz b n hb;by_cases he:b=g;.subst he;exact⟨p,.inl (by simp[Gh.Dk])⟩
   .exact⟨p,by simp only[Gh.Dk,if_neg he];exact r⟩
  .by_cases he:b=g
   .subst he;simp only[Gh.Dk,BM] at hb⊢;split at hb;.rename_i hlt;exact⟨by rw[cell_of_row _ _ _ us e fr hw];exact hb,h1 v (Cx (i:=o) (by rw[CC hlt];simpa using hb)),.inl (by simp)⟩
    .cases hb
   .simp only[Gh.Dk,if_neg he] at hb⊢;exact hi.Iw b o v hb
  .by_cases he:FB=id;.subst he;rw[AB (hi.mu _ _ hg)] at Iy;cases Iy;exact absurd rfl hy
   .rw[Al (λx=>he x.symm)] at Iy;obtain⟨b,p,q⟩:=hi.Ng FB y Iy hy;have:b≠g:=λhx=>by subst hx;exact he (uniq FB y Iy hy p)
    exact⟨b,p,by simp only[Gh.Dk,if_neg this];exact q⟩
  .by_cases he:FB=id;.subst he;rw[AB (hi.mu _ _ hg)] at hc;cases hc
   .rw[Al (λx=>he x.symm)] at hc;obtain⟨DB,d,iw,p,pf,q,r⟩:=hi.cells FB GW hc b hb;exact⟨DB,d,iw,p,pf,A3.mono EC _ _ q,r⟩
  .by_cases he:FB=id;.subst he;rw[AB (hi.mu _ _ hg)] at hc;cases hc
   .rw[Al (λx=>he x.symm)] at hc;obtain⟨DB,d,p,q⟩:=hi.map FB es hc b hb;exact⟨DB,d,p,q.mono EC⟩
  .by_cases he:b=g;.subst he;exact hi.BN b _ T8
   .simp only[Gh.Dk,if_neg he] at hx;exact hi.BN b x hx
 .refine⟨EC,Ab _,rfl,rfl,rfl,λb hb hn=>⟨rfl,?_⟩⟩;have:b≠g:=λhe=>by subst he;exact hn id T8
  simp only[Gh.Dk,if_neg this]
end
end Go.Am
end
section
namespace Go.Am
def EF.N3(C:FT)(run:IT->Ae->Option J7)(U:BL)(h:Ae)(e:BL)(h':Ae):EF->Prop
 | .pure ws=>e=U.EG ws/\h'=h
 | .op p args dst BN i=>∃v,Az p args=some v/\e=(U.DE i).put dst (if BN then .BN v else .val v)/\h'=h
 | .box n v d=>v.cells.length=n/\e=U.set d (.box 0 v.cells [])/\h'=h
 | .closure fn a b fz d=>e=(U.EG (fz.map λ(s,cs)=>(s,.val (.B4 cs)))).set d (.val (.func fn a b))/\h'=h
 | .NH s off n v BN i ver cells owned=>v.cells.length=n/\e=(U.DE i).set s (.box (ver+1) (Xd cells off n v.cells) (SU owned off n BN))/\h'=h
 | .load n p dst=>∃v,Bg h n p=some v/\e=U.put dst (.val v)/\h'=h
 | .store n p v=>CR h n p v=some h'/\e=U
 | .alloc n v dst=>v.cells.length=n/\h'=h++[.cells v.cells]/\e=U.put dst (.val (.ptr (some (h.length,0))))
 | .call f args dst=>∃r,run (B7 C f args) h=some (.ret,[r],h')/\e=U.put dst (if C.Kf f then .BN r else .val r)
 | .El g args dst=>∃f args' r,CD g args=some (f,args')/\run (B7 C f args') h=some (.ret,[r],h')/\e=U.put dst (.val r)
 | .AQ f args dst=>args.all Aa.Nh=true/\∃r h1,run (B7 C f args) []=some (.ret,[r],h1)/\r.Nh=true/\e=U.put dst (.val r)/\h'=h
 | .NY dst=>h'=h++[.map []]/\e=U.put dst (.val (.map (some h.length)))
 | .H6 m k v=>Ry h m k v=some h'/\e=U
 | .make z b zero l c dst=>∃v,SP h z b zero l c=some (h',v)/\e=U.put dst (.val v)
 | .JS z b s x dst i=>∃v,KP h z b s x=some (h',v)/\e=(U.DE i).put dst (.val v)
 | .F8 z b s x dst=>∃v,Gt h z b s x=some (h',v)/\e=U.put dst (.val v)
 | .Gn z b s x dst i=>∃v,Rz h z b s x=some v/\e=(U.DE i).put dst (.BN v)/\h'=h
 | .E0 s dst=>∃v,I1 h s=some (h',v)/\e=U.put dst (.val v)
 | .Zo s dst=>∃v u,Lt h s=some (h',v)/\Az .Zo [v]=some u/\e=U.put dst (.val u)
 | .mem o args dst=>∃v,D5 o h args=some (h',v)/\e=U.put dst (if o.sd then .undef else .val v)
 | .MB z ok m k dst=>∃v,Po h z ok m k=some v/\e=U.put dst (.val v)/\h'=h
def Un{n:Nat}{cs:List Aa}(h:cs.length=n):Xc n cs=cs:=by
 subst h;apply RT;intro i;simp only[Xc,CE,List.getD];by_cases hi:i<cs.length;.simp[List.getElem?_range hi,An hi]
 .simp[hi]
def aD{C:FT}{run:IT->Ae->Option J7}{U:BL}{K:BL->IT}{h:Ae}{R:J7}{r:EF}
  (hr:IT.step (B7 C) run (r.MD C U K) h=some R):∃j h',r.N3 C run U h j h'/\IT.step (B7 C) run (K j) h'=some R:=by
 cases r with
 |pure ws=>exact⟨_,_,⟨rfl,rfl⟩,hr⟩
 |op p args dst BN i=>
  simp only[EF.MD,IT.step] at hr;split at hr;.rename_i v e;exact⟨_,_,⟨v,e,rfl,rfl⟩,hr⟩
  .cases hr
 |box n v d=>
  simp only[EF.MD,IT.step] at hr;split at hr;.rename_i hn;rw[Un hn] at hr;exact⟨_,_,⟨hn,rfl,rfl⟩,hr⟩
  .cases hr
 |closure fn a b fz d=>exact⟨_,_,⟨rfl,rfl⟩,hr⟩
 |NH s off n v BN i ver cells owned=>
  simp only[EF.MD,IT.step] at hr;split at hr;.rename_i hn;rw[Un hn] at hr;exact⟨_,_,⟨hn,rfl,rfl⟩,hr⟩
  .cases hr
 |load n p dst=>
  simp only[EF.MD,IT.step] at hr;split at hr;.rename_i v e;exact⟨_,_,⟨v,e,rfl,rfl⟩,hr⟩
  .cases hr
 |store n p v=>
  simp only[EF.MD,IT.step] at hr;split at hr;.rename_i h1 e;exact⟨_,_,⟨e,rfl⟩,hr⟩
  .cases hr
 |alloc n v dst=>
  simp only[EF.MD,IT.step,WZ] at hr;by_cases hn:v.cells.length=n;.rw[if_pos hn] at hr;exact⟨_,_,⟨hn,rfl,rfl⟩,hr⟩
  .rw[if_neg hn] at hr;cases hr
 |call f args dst=>
  simp only[EF.MD,IT.step] at hr;split at hr;.rename_i r h1 e;exact⟨_,_,⟨r,e,rfl⟩,hr⟩
  .cases hr
 |El g args dst=>
  simp only[EF.MD,IT.step] at hr;split at hr
  .rename_i f a' ht;split at hr;.rename_i r h1 e;exact⟨_,_,⟨f,a',r,ht,e,rfl⟩,hr⟩
   .cases hr
  .cases hr
 |AQ f args dst=>
  simp only[EF.MD,IT.step] at hr;split at hr
  .rename_i IZ;split at hr
   .rename_i r h1 e;split at hr;.rename_i py;exact⟨_,_,⟨IZ,r,h1,e,py,rfl,rfl⟩,hr⟩
    .cases hr
   .cases hr
  .cases hr
 |NY dst=>exact⟨_,_,⟨rfl,rfl⟩,hr⟩
 |H6 m k v=>
  simp only[EF.MD,IT.step] at hr;split at hr;.rename_i h1 e;exact⟨_,_,⟨e,rfl⟩,hr⟩
  .cases hr
 |MB z ok m k dst=>
  simp only[EF.MD,IT.step] at hr;split at hr;.rename_i v e;exact⟨_,_,⟨v,e,rfl,rfl⟩,hr⟩
  .cases hr
 |make z b zero l c dst=>
  simp only[EF.MD,IT.step] at hr;split at hr;.rename_i h1 v e;exact⟨_,_,⟨v,e,rfl⟩,hr⟩
  .cases hr
 |JS z b s x dst i=>
  simp only[EF.MD,IT.step] at hr;split at hr;.rename_i h1 v e;exact⟨_,_,⟨v,e,rfl⟩,hr⟩
  .cases hr
 |F8 z b s x dst=>
  simp only[EF.MD,IT.step] at hr;split at hr;.rename_i h1 v e;exact⟨_,_,⟨v,e,rfl⟩,hr⟩
  .cases hr
 |Gn z b s x dst i=>
  simp only[EF.MD,IT.step] at hr;split at hr;.rename_i v e;exact⟨_,_,⟨v,e,rfl,rfl⟩,hr⟩
  .cases hr
 |E0 s dst=>
  simp only[EF.MD,IT.step] at hr;split at hr;.rename_i h1 v e;exact⟨_,_,⟨v,e,rfl⟩,hr⟩
  .cases hr
 |Zo s dst=>
  simp only[EF.MD,IT.step] at hr;split at hr
  .rename_i h1 v e;split at hr;.rename_i u hu;exact⟨_,_,⟨v,u,e,hu,rfl⟩,hr⟩
   .cases hr
  .cases hr
 |mem o args dst=>
  simp only[EF.MD,IT.step] at hr;split at hr;.rename_i h1 v e;exact⟨_,_,⟨v,e,rfl⟩,hr⟩
  .cases hr
structure C4(C:FT)(γ0:Gh)(w0:World)(γ:Gh)(β:Nat->Nat)(U:BL)(h:Ae)(a:Act)(w:World):Prop where
 DV:HY γ h w
 fr:FR γ β w0.heap.size U a.tmps w
 DP:ME γ0 w0 γ w
 defers:a.defers=[]
 Hs:∀g cs,C.Hs g=some cs->CU γ cs g 0
def SZ{γ:Gh}{v:Value}{a:Aa}(h:PS v=some a):BJ γ a v/\v.oneCell'=true:=by
 unfold PS at h;split at h;case h_7=>
  rename_i fn f c;split at h;.rename_i hs;cases h;have d:f=#[]:=IU hs.1;have b:c=#[]:=IU hs.2;subst d;subst b;exact⟨⟨#[],#[],rfl,rfl,rfl⟩,rfl⟩
  .cases h
 all_goals first
  |(cases h;exact⟨rfl,rfl⟩)
  |cases h
def NJ{γ:Gh}:∀{vs:List Value} {as:List Aa},Ms vs=some as->A3 γ as vs/\∀v∈vs,v.oneCell'=true
 |[],as,h=>by cases h;exact⟨rfl,by simp⟩
 |v::vs,as,h=>by
  unfold Ms at h;split at h;.rename_i a c h1 h2;cases h;obtain⟨p,q⟩:=SZ (γ:=γ) h1;obtain⟨p',b⟩:=NJ (γ:=γ) h2;exact⟨⟨v,vs,rfl,p,p'⟩,λx hx=>(Aw.1 hx).elim (λe=>by rw[e];exact q) (b x)⟩
  .cases h
def Fi{γ:Gh}{v:Value}{a:Aa}(h:Lk v=some a):BJ γ a v:=by
 unfold Lk at h;split at h
 .rename_i cs;cases hs:Ms cs.toList with
  |none=>rw[hs] at h;cases h
  |some as=>rw[hs] at h;cases h;obtain⟨p,q⟩:=NJ (γ:=γ) hs;exact⟨cs,rfl,p,q⟩
 .exact(SZ h).1
section
variable{C:FT}{γ0 γ:Gh}{w0 w:World}{β:Nat->Nat}{U:BL}{h:Ae}{a:Act}
def RZ(hr:C4 C γ0 w0 γ β U h a w){x:Operand}{sl:Eu}(hx:D8 C U x=some sl)(hn:∀s,x≠ .tmp s):∃s,L2 γ β w0.heap.size w s sl (a.eval x):=by
 unfold D8 at hx;split at hx;.exact absurd rfl (hn _)
 .cases hx;exact⟨0,rfl⟩
 .cases hx;exact⟨0,rfl,.inl (.inl rfl)⟩
 .rename_i v _ _;cases hc:Lk v with
  |none=>rw[hc] at hx;cases hx
  |some u=>rw[hc] at hx;cases hx;exact⟨0,Fi hc⟩
 .rename_i g;cases hc:C.Hs g with
  |none=>rw[hc] at hx;cases hx
  |some cs=>rw[hc] at hx;cases hx;exact⟨0,g,0,rfl,hr.Hs g cs hc⟩
 .cases hx;exact⟨0,#[],#[],rfl,rfl,rfl⟩
def S0(hr:C4 C γ0 w0 γ β U h a w)(s:Nat):L2 γ β w0.heap.size w s (U.at s) (a.eval (.tmp s)):=hr.fr.Ir s
def Gd(hr:C4 C γ0 w0 γ β U h a w){x:Operand}{sl:Eu}(hx:D8 C U x=some sl):∃s,L2 γ β w0.heap.size w s sl (a.eval x)/\∀t,x= .tmp t->s=t:=by
 cases x with
 |tmp t=>cases hx;exact⟨t,S0 hr t,λ_ h=>by cases h;rfl⟩
 |const v=>obtain⟨s,h1⟩:=RZ hr hx (by intro s h;cases h);exact⟨s,h1,λ_ h=>by cases h⟩
 |global g=>obtain⟨s,h1⟩:=RZ hr hx (by intro s h;cases h);exact⟨s,h1,λ_ h=>by cases h⟩
 |func f=>obtain⟨s,h1⟩:=RZ hr hx (by intro s h;cases h);exact⟨s,h1,λ_ h=>by cases h⟩
def N4{B s:Nat}{sl:Eu}{v:Value}{u:Aa}(hs:L2 γ β B w s sl v)(b:sl.Hv=some u):BJ γ u v:=by
 cases sl<;>simp[Eu.Hv] at b;.subst b;exact hs
 .subst b;exact hs
 .subst b;exact hs.1
def Gw(hr:C4 C γ0 w0 γ β U h a w){x:Operand}{u:Aa}(hx:ER C U x=some u):BJ γ u (a.eval x):=by
 unfold ER at hx;cases hs:D8 C U x with
 |none=>rw[hs] at hx;cases hx
 |some sl=>rw[hs] at hx;obtain⟨s,h1,_⟩:=Gd hr hs;exact N4 h1 hx
def DQ(hr:C4 C γ0 w0 γ β U h a w):∀{xs:List Operand} {us:List Aa},Bm C U xs=some us->A3 γ us (xs.map a.eval)
 |[],us,hx=>by cases hx;rfl
 |x::xs,us,hx=>by
  unfold Bm at hx;split at hx;.rename_i u DB h1 h2;cases hx;exact⟨_,_,rfl,Gw hr h1,DQ hr h2⟩
  .cases hx
def FR.put{B:Nat}{tmps:Array Value}(hf:FR γ β B U tmps w){d:Nat}{x:Eu}{v:Value}(hx:L2 γ β B w d x v):FR γ β B (U.set d x) (tmps.setIfInBounds d v) w:=by
 refine⟨by simp[hf.size],λs=>?_⟩;have hs:=hf.Ir s;by_cases he:s=d
 .subst he;by_cases hl:s<U.length
  .have Ē:s<tmps.size:=by rw[<-hf.size];exact hl
   simpa[BL.at,List.getD,hl,Ē,Array.getD] using hx
  .have Ē:¬s<tmps.size:=by rw[<-hf.size];exact hl
   simpa[BL.at,List.getD,hl,Ē,Array.getD] using hs
 .have h1:BL.at (U.set d x) s=U.at s:=by simp[BL.at,List.getD,Al (λe=>he e.symm)]
  have h2:(tmps.setIfInBounds d v).getD s undef=tmps.getD s undef:=by simp[Hn,pA (λe=>he e.symm)]
  rw[h1,h2];exact hs
def FR.j3{B:Nat}{tmps:Array Value}(hf:FR γ β B U tmps w){d:Nat}{x:Eu}(hx:L2 γ β B w d x (tmps.getD d undef)):FR γ β B (U.set d x) tmps w:=by
 refine⟨by simp[hf.size],λs=>?_⟩;have hs:=hf.Ir s;by_cases he:s=d
 .subst he;by_cases hl:s<U.length;.simpa[BL.at,List.getD,hl] using hx
  .simpa[BL.at,List.getD,hl] using hs
 .have h1:BL.at (U.set d x) s=U.at s:=by simp[BL.at,List.getD,Al (λe=>he e.symm)]
  rw[h1];exact hs
def C4.put(hr:C4 C γ0 w0 γ β U h a w){d:Option Nat}{x:Eu}{v:Value}(hx:∀s,d=some s->L2 γ β w0.heap.size w s x v):C4 C γ0 w0 γ β (U.put d x) h (a.put d v) w:=by
 cases d with
 |none=>exact hr
 |some d=>exact⟨hr.DV,hr.fr.put (hx d rfl),hr.DP,hr.defers,hr.Hs⟩
def C4.j3(hr:C4 C γ0 w0 γ β U h a w){d:Nat}{x:Eu}(hx:L2 γ β w0.heap.size w d x (a.tmps.getD d undef)):C4 C γ0 w0 γ β (U.set d x) h a w:=
 ⟨hr.DV,hr.fr.j3 hx,hr.DP,hr.defers,hr.Hs⟩
def C4.drop(hr:C4 C γ0 w0 γ β U h a w)(ds:List Nat):C4 C γ0 w0 γ β (U.drop ds) h a w:=by
 cases ds with
 |nil=>exact hr
 |cons d ds=>
  refine⟨hr.DV,⟨by simp[BL.drop,hr.fr.size],λs=>?_⟩,hr.DP,hr.defers,hr.Hs⟩;have hs:=hr.fr.Ir s;have e:(BL.drop U (d::ds)).at s=match U.at s with| .E8 t o=>if(d::ds).contains t then .undef else .E8 t o|x=>x:=by
   simp only[BL.drop,BL.at,List.getD,CE];cases hg:U[s]? with
   |none=>rfl
   |some x=>cases x<;>rfl
  rw[e];cases hx:U.at s with
  |E8 t o=>
   rw[hx] at hs;simp only
   split;.trivial
   .exact hs
  |_=>rw[hx] at hs;exact hs
def C4.I8(hr:C4 C γ0 w0 γ β U h a w){γ':Gh}{h':Ae}{w':World}(hi:HY γ' h' w')(ha:ME γ w γ' w'):C4 C γ0 w0 γ' β U h' a w':=
 ⟨hi,hr.fr.kept (iv.aB7 hr.DV ha),hr.DP.trans ha,hr.defers,λg cs hg=>CU.mono ha.le _ _ _ (hr.Hs g cs hg)⟩
def Jo{P:Program}{o:Oper}{v:Value}{w':World}{next:Act->World->Prop}{Q:Exit->Act->World->Prop}(he:(execOp a.eval o).run P w= .ok (.value v) w')(hn:next (a.put o.dst v) w'):o.wp P a w next Q:=by unfold Oper.wp;rw[he];exact hn
def pI{P:Program}{o:Oper}{w':World}{next:Act->World->Prop}{Q:Exit->Act->World->Prop}(he:(execOp a.eval o).run P w= .ok .skip w')(hn:next (a.put o.dst undef) w'):o.wp P a w next Q:=by unfold Oper.wp;rw[he];exact hn
end
end Go.Am
end
section
namespace Go.Am
def Gh.FC(γ:Gh)(g:Nat)(x:KK):Gh:={γ with BN:=λb=>if b=g then some x else γ.BN b}
section
variable{C:FT}{γ0 γ:Gh}{w0 w:World}{β:Nat->Nat}{U:BL}{h:Ae}{a:Act}
def Hy(γ:Gh)(g:Nat)(x:KK):γ.le (γ.FC g x):=⟨λ_ _ _ h=>h,λ_ _ h=>h,λ_ _ h=>h⟩
def HY.FC(hi:HY γ h w){g s s' st:Nat}{c c':Option Nat}(hg:γ.BN g=some (.tail s c st)):HY (γ.FC g (.tail s' c' st)) h w:=by
 refine⟨λb o v hb=>?_,λid y Iy hy=>?_,λid cs hc b hb=>?_,λid es hc b hb=>?_,hi.mu,λb x hx=>?_,λb n hb=>?_⟩;rotate_left 5
 .obtain⟨p,r⟩:=hi.sz b n hb;have:b≠g:=λhe=>by subst he;rw[hg] at r;rcases r with r|⟨_,r⟩<;>cases r
  exact⟨p,by simp only[Gh.FC,if_neg this];exact r⟩
 .obtain⟨p,q,r⟩:=hi.Iw b o v hb;refine⟨p,q,?_⟩;by_cases he:b=g
  .subst he;rw[hg] at r;rcases r with r|⟨_,_,_,r,hl⟩
   .cases r
   .cases r;exact .inr ⟨s',c',st,by simp[Gh.FC],hl⟩
  .simpa only[Gh.FC,if_neg he] using r
 .obtain⟨b,p,q⟩:=hi.Ng id y Iy hy;have:b≠g:=λhe=>by subst he;rw[hg] at q;cases q
  exact⟨b,p,by simp only[Gh.FC,if_neg this];exact q⟩
 .obtain⟨us,e,fr,p,pf,q,r⟩:=hi.cells id cs hc b hb;exact⟨us,e,fr,p,pf,A3.mono (Hy γ g _) _ _ q,r⟩
 .obtain⟨us,e,p,q⟩:=hi.map id es hc b hb;exact⟨us,e,p,q.mono (Hy γ g _)⟩
 .by_cases he:b=g;.subst he;exact hi.BN b _ hg
  .simp only[Gh.FC,if_neg he] at hx;exact hi.BN b x hx
def Jm.FC{B:Nat}{s b st:Nat}{c d:Option Nat}{v:Value}{u:Aa}{x:KK}{g:Nat}(hg:γ.BN g=some (.tail s c st))(ho:Jm γ B w b d v u)(hne:b≠s\/d≠c):Jm (γ.FC g x) B w b d v u:=by
 rcases ho with ho|⟨g2,n,cap,us,e,z,As,h1,h2,h3,f⟩
 .exact .inl ho
 .have:g2≠g:=λhe=>by subst he;rw[hg] at h3;cases h3;rcases hne with hne|hne<;>exact hne rfl
  exact .inr ⟨g2,n,cap,us,e,z,As,h1,h2,by simp only[Gh.FC,if_neg this];exact h3,f⟩
def FR.FC{B:Nat}{tmps:Array Value}(hf:FR γ β B U tmps w){g s st:Nat}{c:Option Nat}{x:KK}(hg:γ.BN g=some (.tail s c st))
  (h1:c=none->∀v,U.at s≠ .BN v) (h2:∀o,c=some o->∀ver cs ow,U.at s= .box ver cs ow->o∉ow):FR (γ.FC g x) β B U tmps w:=by
 refine⟨hf.size,λd=>?_⟩;have hs:=hf.Ir d;cases hx:U.at d with
 |undef=>trivial
 |skip=>rw[hx] at hs;exact hs
 |val u=>rw[hx] at hs;exact BJ.mono (Hy γ g x) _ _ hs
 |PH b=>rw[hx] at hs;exact hs
 |BN u=>
  rw[hx] at hs;refine⟨BJ.mono (Hy γ g x) _ _ hs.1,hs.2.FC hg ?_⟩;by_cases he:d=s
  .subst he;cases c with
   |none=>exact absurd hx (h1 rfl u)
   |some o=>exact .inr (by simp)
  .exact .inl he
 |box ver cs ow=>
  rw[hx] at hs;obtain⟨r,f,q,us,e,p,n,m,l⟩:=hs;have hb:β d≠g:=λhe=>by rw[he,hg] at f;cases f
  refine⟨r,by simp only[Gh.FC,if_neg hb];exact f,q,us,e,p,A3.mono (Hy γ g x) _ _ n,m,λo ho=>?_⟩;obtain⟨u,v,k,j,i⟩:=l o ho;refine⟨u,v,k,j,i.FC hg ?_⟩;by_cases he:d=s
  .subst he;cases c with
   |none=>exact .inr (by simp)
   |some o'=>refine .inr λhe=>?_;cases he;exact h2 o rfl ver cs ow hx ho
  .exact .inl he
 |E8 s' o=>rw[hx] at hs;exact hs
def C4.FC(hr:C4 C γ0 w0 γ β U h a w){g s st s':Nat}{c c':Option Nat}(hg:γ.BN g=some (.tail s c st))(hB:w0.heap.size<=g)
  (h1:c=none->∀v,U.at s≠ .BN v) (h2:∀o,c=some o->∀ver cs ow,U.at s= .box ver cs ow->o∉ow):C4 C γ0 w0 (γ.FC g (.tail s' c' st)) β U h a w:=by
 refine⟨hr.DV.FC hg,hr.fr.FC hg h1 h2,?_,hr.defers,λx cs hx=>CU.mono (Hy γ g _) _ _ _ (hr.Hs x cs hx)⟩;refine⟨hr.DP.le.trans (Hy γ g _),hr.DP.size,hr.DP.os,hr.DP.tape,hr.DP.output,λb hb hn=>?_⟩;.obtain⟨p,q⟩:=hr.DP.OF b hb hn;exact⟨p,by simp only[Gh.FC,if_neg (show b≠g by omega)];exact q⟩
def BL.Fj{s:Nat}{x:Eu}(hs:s<U.length):BL.at (U.set s x) s=x:=by simp[BL.at,List.getD,hs]
def BL.FU{s t:Nat}{x:Eu}(hs:s≠t):BL.at (U.set s x) t=U.at t:=by simp[BL.at,List.getD,Al hs]
def BL.PY{s:Nat}(hs:U.at s≠ .undef):s<U.length:=by
 rcases A6 s U.length with h|h
 .exact h
 .exact absurd (by simp[BL.at,List.getD,D4 h]) hs
def C4.take(hr:C4 C γ0 w0 γ β U h a w){s:Nat}{v:Aa}(hs:U.at s= .BN v)(s':Nat)(c':Option Nat):
  ∃γ',γ.le γ'/\C4 C γ0 w0 γ' β (U.set s (.val v)) h a w/\BJ γ' v (a.tmps.getD s undef)/\Jm γ' w0.heap.size w s' c' (a.tmps.getD s undef) v:=by
 have h0:=hr.fr.Ir s;rw[hs] at h0;obtain⟨b,ho⟩:=h0;have J8:C4 C γ0 w0 γ β (U.set s (.val v)) h a w:=hr.j3 b;have hl:s<U.length:=BL.PY (by rw[hs];simp);rcases ho with ho|⟨g,n,cap,us,e,z,As,h1,h2,h3,c,d⟩
 .exact⟨γ,.refl _,J8,b,.inl ho⟩
 .refine⟨γ.FC g (.tail s' c' (n*z)),Hy _ _ _,J8.FC h3 c (λ_ u=>?_) (λo ho=>by cases ho),BJ.mono (Hy _ _ _) _ _ b,.inr ⟨g,n,cap,us,e,z,As,h1,h2,by simp[Gh.FC],c,d⟩⟩;rw[BL.Fj hl];simp
def cZ{B s d:Nat}{sl b:Eu}{v:Value}(hs:L2 γ β B w s sl v)(hc:IF sl=some b):L2 γ β B w d b v:=by
 cases sl<;>simp[IF] at hc;.subst hc;exact hs
 .subst hc;exact hs
 .subst hc;exact hs.1
 .subst hc;exact hs
def OI{ws:List (Nat×Eu)}(h:∀p∈ws,∀cs ow,p.2≠ .box 0 cs ow):(EF.pure ws).news=[]:=by
 simp only[EF.news,List.filterMap_eq_nil_iff];rintro⟨s,x⟩ hp;have:=h _ hp;cases x with
 |box ver cs ow=>
  cases ver with
  |zero=>exact absurd rfl (this cs ow)
  |succ n=>rfl
 |_=>rfl
def S1{v:Value}{sl:Eu}(hs:D8 C U (.const v)=some sl):(∀B d,L2 γ β B w d sl v)/\∀ver cs ow,sl≠ .box ver cs ow:=by
 unfold D8 at hs;split at hs;.rename_i KD;cases KD
 .rename_i KD;cases KD;cases hs;exact⟨λ_ _=>rfl,λ_ _ _ h=>by cases h⟩
 .rename_i KD;cases KD;cases hs;exact⟨λ_ _=>⟨rfl,.inl (.inl rfl)⟩,λ_ _ _ h=>by cases h⟩
 .rename_i KD;cases KD;cases hc:Lk v with
  |none=>rw[hc] at hs;cases hs
  |some u=>rw[hc] at hs;cases hs;exact⟨λ_ _=>Fi hc,λ_ _ _ h=>by cases h⟩
 .rename_i KD;cases KD
 .rename_i KD;cases KD
def Ha{s:Nat}{sl:Eu}(hs:D8 C U (.tmp s)=some sl):U.at s=sl:=C0 hs
def pJ{x:Operand}{v:Aa}(hs:D8 C U x=some (.BN v))(hn:∀c,x≠ .const c):∃s,x= .tmp s/\U.at s= .BN v:=by
 cases x with
 |tmp s=>exact⟨s,rfl,Ha hs⟩
 |const c=>exact absurd rfl (hn c)
 |global g=>have jO:(C.Hs g).map (λcs=>Eu.val (Aa.B4 cs))=some (.BN v):=hs;cases hc:C.Hs g<;>rw[hc] at jO<;>cases jO
 |func f=>cases hs
def S2{x:Operand}{d:Nat}{take:Bool}{r:EF}{run:IT->Ae->Option J7}{f:BL}{h':Ae}(hm:KR C U x d take=some r)(hd:r.N3 C run (U.drop r.news) h f h')
  (hr:C4 C γ0 w0 γ β U h a w):∃γ',C4 C γ0 w0 γ' β f h' (a.put (some d) (a.eval x)) w:=by
 unfold KR at hm;split at hm;.rename_i s _ _ _ hs;cases hm;rw[OI (by simp)] at hd;obtain⟨rfl,rfl⟩:=hd;refine⟨γ,hr.put (d:=some d) λt ht=>?_⟩;have h0:=S0 hr s;rw[Ha hs] at h0;exact h0.1
 .rename_i v sl hs;cases hm;obtain⟨p,q⟩:=S1 (γ:=γ) (β:=β) (w:=w) hs;rw[OI (by simpa using λcs ow=>q 0 cs ow)] at hd;obtain⟨rfl,rfl⟩:=hd;exact⟨γ,hr.put (d:=some d) λt _=>p _ t⟩
 .rename_i v hnc hs;split at hm;.cases hm;obtain⟨s,rfl,e⟩:=pJ hs (λc hc=>hnc c hc);rw[OI (by simp[SR])] at hd;obtain⟨rfl,rfl⟩:=hd;obtain⟨γ',EC,HM,JG,û⟩:=hr.take e d none;exact⟨γ',HM.put (d:=some d) λt ht=>by cases ht;exact⟨JG,û⟩⟩
  .simp only[IF,BF] at hm;cases hm;rw[OI (by simp)] at hd;obtain⟨rfl,rfl⟩:=hd;obtain⟨s,h1,_⟩:=Gd hr hs;exact⟨γ,hr.put (d:=some d) λt ht=>h1.1⟩
 .rename_i sl _ _ _ hs;cases hc:IF sl with
  |none=>rw[hc] at hm;cases hm
  |some b=>
   rw[hc] at hm;cases hm;have tn:∀cs ow,b≠ .box 0 cs ow:=by intro cs ow he;subst he;cases sl<;>simp[IF] at hc
   rw[OI (by simpa using tn)] at hd;obtain⟨rfl,rfl⟩:=hd;obtain⟨s,h1,_⟩:=Gd hr hs;exact⟨γ,hr.put (d:=some d) λt ht=>cZ h1 hc⟩
 .cases hm
end
end Go.Am
end
section
namespace Go.Am
open Go
def Xk{s:Sem Value}{v:Value}(h:QR s=some v):s= .pure v:=by cases s<;>simp[QR] at h;subst h;rfl
section
variable{P:Program}{γ:Gh}{w:World}
def j6{op:BinOp}{k l:IntKind}{x y:Int}{u:Aa}(t:TypeId)(c b:Operand)(h:uY op k x l y=some u):
  ∃v,(do eqGuard op t c b (.int k x) (.int l y);binOp op t (.int k x) (.int l y):Sem Value).run P w= .ok v w/\BJ γ u v:=by
 unfold uY at h;cases hs:QR (binOp op 0 (.int k x) (.int l y)) with
 |none=>rw[hs] at h;cases h
 |some v=>
  rw[hs] at h;have f:=Xk hs;have e:binOp op t (.int k x) (.int l y)= .pure v:=by rw[<-f];cases op<;>rfl
  have d:eqGuard op t c b (.int k x) (.int l y)=pure ():=by cases op<;>rfl
  refine⟨v,by rw[d,e];rfl,?_⟩;simp only[Ck] at h;split at h<;>cases h<;>rfl
def dA(l:List UInt8):(ByteArray.mk ⟨l⟩).toList=l:=ByteArray.toList_mk l
def j7{op:BinOp}{x y:Ad}{u:Aa}(t:TypeId)(d c:Operand)(h:jX op x y=some u):
  ∃v,(do eqGuard op t d c (.string ⟨⟨x⟩⟩) (.string ⟨⟨y⟩⟩);binOp op t (.string ⟨⟨x⟩⟩) (.string ⟨⟨y⟩⟩):Sem Value).run P w= .ok v w/\BJ γ u v:=by
 have e:eqGuard op t d c (.string ⟨⟨x⟩⟩) (.string ⟨⟨y⟩⟩)=pure ():=by cases op<;>rfl
 have b:binOp op t (.string ⟨⟨x⟩⟩) (.string ⟨⟨y⟩⟩)=Op.stringOp op ⟨⟨x⟩⟩ ⟨⟨y⟩⟩:=by cases op<;>rfl
 rw[e,b];unfold jX at h;cases op<;>simp only at h<;>first
  |cases h;done
  |(simp only[Op.stringOp,dA];cases h;exact⟨_,rfl,rfl⟩)
  | (split at h
     . rename_i EC
       cases h
       have hc : ¬ ((((ByteArray.mk ⟨x⟩).size + (ByteArray.mk ⟨y⟩).size : Nat) : Int) > IntKind.i64.max) := by
         have f : (ByteArray.mk ⟨x⟩).size = x.length := rfl
         have b : (ByteArray.mk ⟨y⟩).size = y.length := rfl
         rw [f, b]
         have : IntKind.i64.max = 9223372036854775807 := by decide
         rw [this]
         omega
       simp only [Op.stringOp, if_neg hc]
       refine ⟨_, rfl, ?_⟩
       show Value.string _ = Value.string _
       first
         | (congr 1; done)
         | (congr 1; apply ByteArray.ext; simp)
     . cases h)
def pK{t:TypeId}(h:Fc P t=some none):(isAgg t).run P w= .ok false w:=by
 unfold Fc at h;split at h;.cases hs:BR P t<;>rw[hs] at h<;>cases h
 .cases hs:BR P t<;>rw[hs] at h<;>cases h
 .rename_i d h1 h2 hu;simp only[isAgg,Sem.run_bind,run_underlying hu,Result.andThen_ok];rfl
 .cases h
def R2{t:TypeId}{n:Nat}(h:Fc P t=some (some n)):(isAgg t).run P w= .ok true w/\BR P t=some n:=by
 unfold Fc at h;split at h
 .rename_i fs hu;cases hs:BR P t with
  |none=>rw[hs] at h;cases h
  |some m=>rw[hs] at h;cases h;exact⟨by simp[isAgg,run_underlying hu],rfl⟩
 .rename_i fs _ hu;cases hs:BR P t with
  |none=>rw[hs] at h;cases h
  |some m=>rw[hs] at h;cases h;exact⟨by simp[isAgg,run_underlying hu],rfl⟩
 .cases h
 .cases h
def DG{t:TypeId}{n:Nat}(h:BR P t=some n):(sizeOf t).run P w= .ok n w:=by
 unfold BR at h;cases hi:P.info? t with
 |none=>rw[hi] at h;cases h
 |some i=>rw[hi] at h;cases h;simp[sizeOf,typeInfo,hi]
def j8{t:TypeId}{sh:Option Nat}{cs:List Aa}{us:Array Value}{off:Nat}{u:Aa}(oV:Fc P t=some sh)(hr:A3 γ cs us.toList)(h1:∀v∈us.toList,v.oneCell'=true)
  (hp:Fg cs off sh=some u):∃v,(part t us off).run P w= .ok v w/\BJ γ u v:=by
 cases sh with
 |none=>
  replace hp:cs[off]?=some u:=hp;obtain⟨v,b,hrel⟩:=hr.get hp;refine⟨v,?_,hrel⟩;have JG:us[off]?=some v:=by simpa using b
  simp[part,pK oV,JG]
 |some n=>
  obtain⟨ha,hs⟩:=R2 (w:=w) oV;replace hp:(if off+n<=cs.length then some (Aa.agg ((cs.drop off).take n)) else none)=some u:=hp;split at hp
  .cases hp;refine⟨.agg (us.extract off (off+n)),by simp[part,ha,DG hs],us.extract off (off+n),rfl,?_,?_⟩;.have:=(hr.drop off).take n;simpa[Ox,HX] using this
   .intro v b;refine h1 v ?_;rw[Ox,HX] at b;exact Bc (AZ b)
  .cases hp
end
end Go.Am
end
section
namespace Go.Am
open Go
def tq{x y:Aa}{b:Bool}(h:Mz .b x y=some b):∃p q,x= .bool p/\y= .bool q/\(p==q)=b:=by unfold Mz at h;split at h<;>first|cases h;done|(rename_i he;cases he;done)|(cases h;exact⟨_,_,rfl,rfl,rfl⟩)
def tr{x y:Aa}{b:Bool}(h:Mz .i x y=some b):∃k p q,x= .int k p/\y= .int k q/\(p==q)=b:=by
 unfold Mz at h;split at h;.rename_i he;cases he
 .split at h;.rename_i hk;subst hk;cases h;exact⟨_,_,_,rfl,rfl,rfl⟩
  .cases h
 .rename_i he;cases he
 .cases h
def tw{x y:Aa}{b:Bool}(h:Mz .s x y=some b):∃p q,x= .str p/\y= .str q/\(p==q)=b:=by
 unfold Mz at h;split at h;.rename_i he;cases he
 .rename_i he;cases he
 .cases h;exact⟨_,_,rfl,rfl,rfl⟩
 .cases h
def PZ:∀{ks c:List FK} {xs ys:List Aa} {b:Bool},D9 (ks++c) xs ys=some b->
  ∃b1 d,D9 ks (xs.take ks.length) (ys.take ks.length)=some b1/\D9 c (xs.drop ks.length) (ys.drop ks.length)=some d/\b=(b1&&d)
 |[],c,xs,ys,b,h=>⟨true,b,by simp[D9],by simpa using h,by simp⟩
 |k::ks,c,[],ys,b,h=>by cases ys<;>simp[D9] at h
 |k::ks,c,x::xs,[],b,h=>by simp[D9] at h
 |k::ks,c,x::xs,y::ys,b,h=>by
  simp only[Cr,D9] at h;split at h;.rename_i e es h1 h2;cases h;obtain⟨b1,d,p,q,r⟩:=PZ h2;refine⟨e&&b1,d,?_,by simpa using q,by rw[r,Bool.and_assoc]⟩;simp only[AE,PE,D9,h1,p]
  .cases h
def P0:∀{ks:List FK} {xs ys:List Aa} {b:Bool},D9 ks xs ys=some b->xs.length=ks.length/\ys.length=ks.length
 |[],xs,ys,b,h=>by cases xs<;>cases ys<;>simp[D9] at h⊢
 |k::ks,xs,ys,b,h=>by
  cases xs<;>cases ys<;>simp[D9] at h;split at h;.rename_i h1 h2;obtain⟨p,q⟩:=P0 h2;simp[p,q]
  .cases h
section
variable{P:Program}{γ:Gh}{w:World}
def aE:∀{d:Nat} {t:TypeId} {ks:List FK},PU P d t=some ks->BR P t=some ks.length
 |0,t,ks,h=>by cases h
 |d+1,t,ks,h=>by
  simp only[PU] at h;split at h;.split at h<;>cases h;assumption
  .split at h<;>cases h;assumption
  .split at h<;>cases h;assumption
  .split at h
   .split at h;.rename_i hc;cases h;exact hc.1
    .cases h
   .cases h
  .cases h
def pL{ks:List FK}{k:FK}{t:TypeId}(h:(if BR P t=some 1 then some [k] else none)=some ks):ks=[k]:=by split at h<;>cases h;rfl
def Gx{t:TypeId}{us:Array Value}{off:Nat}{v:Value}{d:TypeDesc}(hu:P.underlying t=some d)(h1:∀fs,d≠ .struct fs)(h2:∀n e,d≠ .array n e)(b:us[off]?=some v):
  (part t us off).run P w= .ok v w:=by
 have ha:(isAgg t).run P w= .ok false w:=by simp only[isAgg,Sem.run_bind,run_underlying hu,Result.andThen_ok];cases d<;>first|rfl|exact absurd rfl (h1 _)|exact absurd rfl (h2 _ _)
 simp[part,ha,b]
def JU{l:List Aa}{off:Nat}{x:Aa}(h:(l.drop off).take 1=[x]):l[off]?=some x:=by have:=BQ (·[0]?) h;simpa using this
def Xl{k:FK}{xs ys:List Aa}{b:Bool}(h:D9 [k] xs ys=some b):∃x y,xs=[x]/\ys=[y]/\Mz k x y=some b:=by
 cases xs<;>cases ys<;>simp[D9] at h;rename_i x xs y ys;cases xs<;>cases ys<;>simp[D9] at h;all_goals first
  | (split at h
     . rename_i e es h1 h2; cases h2; cases h; exact ⟨x, y, rfl, rfl, by simpa using h1⟩
     . cases h)
  |(split at h<;>simp_all)
mutual
def j9:∀{d D:Nat},d<=D->∀{t:TypeId} {ks:List FK},PU P d t=some ks->∀(us vs:Array Value) (cs ds:List Aa) (off:Nat) (b:Bool),A3 γ cs us.toList->A3 γ ds vs.toList->
  D9 ks ((cs.drop off).take ks.length) ((ds.drop off).take ks.length)=some b->
  ∃x y,(part t us off).run P w= .ok x w/\(part t vs off).run P w= .ok y w/\(Op.equalIn D t x y).run P w= .ok b w
 |0,_,_,_,_,h=>by cases h
 |d+1,0,hd,_,_,_=>by omega
 |d+1,D+1,hd,t,ks,h=>by
  intro us vs cs ds off b hu n he;have KT:=aE h;simp only[PU] at h;split at h;.rename_i aF;have:=pL h;subst this;obtain⟨x,y,m,l,k⟩:=Xl he;obtain⟨x',i,g⟩:=hu.get (JU m);obtain⟨c,f,e⟩:=n.get (JU l);refine⟨x',c,Gx aF (by simp) (by simp) (by simpa using i),Gx aF (by simp) (by simp) (by simpa using f),?_⟩;obtain⟨p,o,rfl,rfl,j⟩:=tq k;rw[g,e,run_equalIn_bool' w D t _ _ aF,<-j]
  .rename_i r aF;have:=pL h;subst this;obtain⟨x,y,m,l,k⟩:=Xl he;obtain⟨x',i,g⟩:=hu.get (JU m);obtain⟨c,f,e⟩:=n.get (JU l);refine⟨x',c,Gx aF (by simp) (by simp) (by simpa using i),Gx aF (by simp) (by simp) (by simpa using f),?_⟩;obtain⟨s,p,o,rfl,rfl,j⟩:=tr k;rw[g,e,run_equalIn_int w D t _ _ _ _ aF,<-j]
  .rename_i aF;have:=pL h;subst this;obtain⟨x,y,m,l,k⟩:=Xl he;obtain⟨x',i,g⟩:=hu.get (JU m);obtain⟨c,f,e⟩:=n.get (JU l);refine⟨x',c,Gx aF (by simp) (by simp) (by simpa using i),Gx aF (by simp) (by simp) (by simpa using f),?_⟩;obtain⟨p,o,rfl,rfl,j⟩:=tw k;rw[g,e,run_equalIn_string w D t _ _ aF,dA,dA,<-j]
  .rename_i fs aF;split at h
   .rename_i q Lx;split at h
    .rename_i hc;cases h;have oV:Fc P t=some (some ks.length):=by simp[Fc,aF,KT]
     obtain⟨ha,hs⟩:=R2 (w:=w) oV;refine⟨.agg (us.extract off (off+ks.length)),.agg (vs.extract off (off+ks.length)),by simp[part,ha,DG hs],by simp[part,ha,DG hs],?_⟩;have aLo:P.underlying t=some (.struct (P.fieldsOf t)):=by simp[Program.fieldsOf,aF]
     rw[run_equalIn_struct w D t _ _ aLo hc.2];have hf:(P.fieldsOf t).toList=fs.toList:=by simp[Program.fieldsOf,aF]
     rw[hf];have iy:A3 γ ((cs.drop off).take ks.length) (us.extract off (off+ks.length)).toList:=by have:=(hu.drop off).take ks.length;simpa[Ox,HX] using this
     have JG:A3 γ ((ds.drop off).take ks.length) (vs.extract off (off+ks.length)).toList:=by have:=(n.drop off).take ks.length;simpa[Ox,HX] using this
     refine aG (Nat.le_of_succ_le_succ hd) fs.toList Lx _ _ _ _ _ iy JG ?_;simpa using he
    .cases h
   .cases h
  .cases h
def aG:∀{d D:Nat},d<=D->∀(fs:List Field) {off:Nat} {ks:List FK},W9 (PU P d) fs off=some ks->∀(us vs:Array Value) (cs ds:List Aa) (b:Bool),A3 γ cs us.toList->A3 γ ds vs.toList->
  D9 ks (cs.drop off) (ds.drop off)=some b->(Op.eqFields D us vs fs).run P w= .ok b w
 |d,D,hd,[],off,ks,h=>by
  intro us vs cs ds b hu e he;cases h;have:b=true:=by cases h1:cs.drop off<;>cases h2:ds.drop off<;>rw[h1,h2] at he<;>simp[D9] at he;exact he
  subst this;rfl
 |d,D,hd,f::fs,off,ks,h=>by
  intro us vs cs ds b hu e he;simp only[W9] at h;split at h
  .rename_i hc;obtain⟨hn,aGV⟩:=hc;split at h
   .rename_i c ü;cases hr:W9 (PU P d) fs (off+c.length) with
    |none=>rw[hr] at h;cases h
    |some k=>
     rw[hr] at h;cases h;obtain⟨b1,n,m,l,rfl⟩:=PZ he;obtain⟨x,y,j,i,g⟩:=j9 hd ü _ _ _ _ _ _ hu e m;simp only[Op.eqFields,hn,ne_eq,AS,BM,aGV,Sem.run_bind,j,i,g,Result.andThen_ok];cases b1;.rfl
     .simp only[aAI,Cp,DU,cV];exact aG hd fs hr _ _ _ _ _ hu e (by simpa[Ed] using l)
   .cases h
  .cases h
end
def kC{op:BinOp}{t:TypeId}{d c:Operand}{neg:Bool}{ks:List FK}{a b:List Aa}{x y:Value}{u:Aa}(RA:(op= .eql/\neg=false)\/(op= .neq/\neg=true))
  (hg:P.eqGuardType P.depth t=false) (hk:PU P 20 t=some ks) (Jl:∃fs,P.underlying t=some (.struct fs)) (hx:BJ γ (.agg a) x) (hy:BJ γ (.agg b) y) (h:(D9 ks a b).map (λe=>Aa.bool (e != neg))=some u):
  ∃v,(do eqGuard op t d c x y;binOp op t x y:Sem Value).run P w= .ok v w/\BJ γ u v:=by
 obtain⟨us,rfl,hu,_⟩:=hx;obtain⟨vs,rfl,j,_⟩:=hy;cases he:D9 ks a b with
 |none=>rw[he] at h;cases h
 |some e=>
  rw[he] at h;cases h;obtain⟨l1,n⟩:=P0 he;obtain⟨x',k,i,g,f⟩:=j9 (w:=w) (P:=P) (γ:=γ) (D:=10000) (by omega:20<=10000) hk us vs a b 0 e hu j (by rw[Kz,Kz,A7 (M5 l1),A7 (M5 n)];exact he);obtain⟨fs,Lx⟩:=Jl;have oV:Fc P t=some (some ks.length):=by simp[Fc,Lx,aE hk]
  obtain⟨ha,hs⟩:=R2 (w:=w) oV;have p:us.extract 0 ks.length=us:=by
   have:us.size=ks.length:=by have:=hu.length;simp at this;omega
   rw[<-this];simp
  have o:vs.extract 0 ks.length=vs:=by
   have:vs.size=ks.length:=by have:=j.length;simp at this;omega
   rw[<-this];simp
  have m:x'= .agg us:=by simp[part,ha,DG hs,p] at i;exact i.symm
  have l:k= .agg vs:=by simp[part,ha,DG hs,o] at g;exact g.symm
  subst m;subst l;rcases RA with⟨rfl,rfl⟩|⟨rfl,rfl⟩
  .refine⟨.bool e,by simp[run_eqGuard_agg (P:=P) w .eql t d c us vs hg,run_eql_struct,f],?_⟩;show Value.bool e=Value.bool _;cases e<;>rfl
  .refine⟨.bool (!e),by simp[run_eqGuard_agg (P:=P) w .neq t d c us vs hg,run_neq_struct,f],?_⟩;show Value.bool _=Value.bool _;cases e<;>rfl
end
end Go.Am
end
