/- Lemmas -/
import Derived.Test.YtdbnpiefklklhaaGreatDoorH1
import Derived.Orders
import Derived.Laws.AppendOwn
import Derived.Laws.StructEq
set_option linter.all false
section
namespace Go.Am
inductive J3 where
 |Md (id:Nat)
 |loc (s:Nat)
 |tail (s:Nat) (c:Option Nat) (start:Nat)
def J3.jd:J3->Bool
 | .Md _=>true
 |_=>false
structure Gh where
 HU:Nat->Nat->Option Value
 mu:Nat->Option Nat
 BK:Nat->Option J3
 sz:Nat->Option Nat
mutual
def BF(γ:Gh):Aa->Value->Prop
 | .bool b,v=>v= .bool b
 | .int k n,v=>v= .int k n
 | .str s,v=>v= .string ⟨⟨s⟩⟩
 | .ptr none,v=>v= .pointer none
 | .ptr (some (id,o)),v=>∃b,γ.mu id=some b/\v= .pointer (some ⟨b,o,none⟩)
 | .BR cs,v=>∃b o,v= .pointer (some ⟨b,o,none⟩)/\CQ γ cs b o
 | .sl z Aw,v=>∃d cap,v= .slice (some d) Aw.length cap/\Aw.length<=cap/\(d.spot=none\/cap=0)/\EA γ Aw z d.block d.off
 | .slnil,v=>v= .slice none 0 0
 | .H5 _,v=>∃b,v= .slice (some ⟨b,0,none⟩) 0 0
 | .C3 id off len z,v=>∃b cap,γ.mu id=some b/\v= .slice (some ⟨b,off,none⟩) len cap/\len<=cap/\(0<z/\cap<=maxLen)/\γ.sz b=some (off+cap*z)
 | .map none,v=>v= .map none
 | .map (some id),v=>∃b,γ.mu id=some b/\v= .map (some b)
 | .func fn f c,v=>∃fs cs,v= .func fn fs cs/\AW γ f fs.toList/\AW γ c cs.toList
 | .nilFunc,v=>v= .nilFunc
 | .iface t a,v=>∃u,v= .iface t u/\BF γ a u
 | .nilIface,v=>v= .nilIface
 | .agg cs,v=>∃us,v= .agg us/\AW γ cs us.toList/\∀u∈us.toList,u.oneCell'=true
 | .tuple vs,v=>∃us,v= .tuple us/\AW γ vs us.toList
def AW(γ:Gh):List Aa->List Value->Prop
 |[],us=>us=[]
 |a::l,us=>∃u Dk,us=u::Dk/\BF γ a u/\AW γ l Dk
def CQ(γ:Gh):List Aa->Nat->Nat->Prop
 |[],_,_=>True
 |a::l,b,o=>(∃u,γ.HU b o=some u/\BF γ a u)/\CQ γ l b (o+1)
def EA(γ:Gh):List (List Aa)->Nat->Nat->Nat->Prop
 |[],_,_,_=>True
 |r::rs,z,b,o=>r.length=z/\CQ γ r b o/\EA γ rs z b (o+z)
end
structure Gh.le(γ γ':Gh):Prop where
 HU:∀b o v,γ.HU b o=some v->γ'.HU b o=some v
 mu:∀id b,γ.mu id=some b->γ'.mu id=some b
 sz:∀b n,γ.sz b=some n->γ'.sz b=some n
def Gh.le.refl(γ:Gh):γ.le γ:=⟨λ_ _ _ h=>h,λ_ _ h=>h,λ_ _ h=>h⟩
def Gh.le.trans{a b c:Gh}(h:a.le b)(k:b.le c):a.le c:=⟨λ_ _ _ x=>k.HU _ _ _ (h.HU _ _ _ x),λ_ _ x=>k.mu _ _ (h.mu _ _ x),λ_ _ x=>k.sz _ _ (h.sz _ _ x)⟩
mutual
def BF.mono{γ γ':Gh}(Ee:γ.le γ'):∀(a:Aa) (v:Value),BF γ a v->BF γ' a v
 | .bool b,v,h=>h
 | .int k n,v,h=>h
 | .str s,v,h=>h
 | .ptr none,v,h=>h
 | .ptr (some (id,o)),v,h=>by obtain⟨b,hb,hv⟩:=h;exact⟨b,Ee.mu _ _ hb,hv⟩
 | .BR cs,v,h=>by obtain⟨b,o,hv,hm⟩:=h;exact⟨b,o,hv,CQ.mono Ee cs b o hm⟩
 | .sl z Aw,v,h=>by obtain⟨d,cap,hv,hc,hs,hm⟩:=h;exact⟨d,cap,hv,hc,hs,EA.mono Ee Aw z _ _ hm⟩
 | .slnil,v,h=>h
 | .H5 _,v,h=>h
 | .C3 id off len z,v,h=>by obtain⟨b,cap,hb,hv,hc,hz,hs⟩:=h;exact⟨b,cap,Ee.mu _ _ hb,hv,hc,hz,Ee.sz _ _ hs⟩
 | .map none,v,h=>h
 | .map (some id),v,h=>by obtain⟨b,hb,hv⟩:=h;exact⟨b,Ee.mu _ _ hb,hv⟩
 | .func fn f c,v,h=>by obtain⟨fs,cs,hv,h1,h2⟩:=h;exact⟨fs,cs,hv,AW.mono Ee f _ h1,AW.mono Ee c _ h2⟩
 | .nilFunc,v,h=>h
 | .iface t a,v,h=>by obtain⟨u,hv,h1⟩:=h;exact⟨u,hv,BF.mono Ee a u h1⟩
 | .nilIface,v,h=>h
 | .agg cs,v,h=>by obtain⟨us,hv,h1,h2⟩:=h;exact⟨us,hv,AW.mono Ee cs _ h1,h2⟩
 | .tuple vs,v,h=>by obtain⟨us,hv,h1⟩:=h;exact⟨us,hv,AW.mono Ee vs _ h1⟩
def AW.mono{γ γ':Gh}(Ee:γ.le γ'):∀(l:List Aa) (us:List Value),AW γ l us->AW γ' l us
 |[],us,h=>h
 |a::l,us,h=>by obtain⟨u,Dk,hu,h1,h2⟩:=h;exact⟨u,Dk,hu,BF.mono Ee a u h1,AW.mono Ee l Dk h2⟩
def CQ.mono{γ γ':Gh}(Ee:γ.le γ'):∀(l:List Aa) (b o:Nat),CQ γ l b o->CQ γ' l b o
 |[],_,_,_=>trivial
 |a::l,b,o,h=>by obtain⟨⟨u,hu,h1⟩,h2⟩:=h;exact⟨⟨u,Ee.HU _ _ _ hu,BF.mono Ee a u h1⟩,CQ.mono Ee l b (o+1) h2⟩
def EA.mono{γ γ':Gh}(Ee:γ.le γ'):∀(rs:List (List Aa)) (z b o:Nat),EA γ rs z b o->EA γ' rs z b o
 |[],_,_,_,_=>trivial
 |r::rs,z,b,o,h=>⟨h.1,CQ.mono Ee r b o h.2.1,EA.mono Ee rs z b (o+z) h.2.2⟩
end
def AW.length{γ:Gh}:∀{l:List Aa} {us:List Value},AW γ l us->us.length=l.length
 |[],us,h=>by rw[AW] at h;subst h;rfl
 |a::l,us,h=>by rw[AW] at h;obtain⟨u,Dk,rfl,_,h2⟩:=h;simp[h2.length]
def AW.get{γ:Gh}:∀{l:List Aa} {us:List Value},AW γ l us->∀{i:Nat} {a:Aa},l[i]?=some a->∃u,us[i]?=some u/\BF γ a u
 |[],us,h,i,a,hi=>by simp at hi
 |x::l,us,h,i,a,hi=>by
  rw[AW] at h;obtain⟨u,Dk,rfl,h1,h2⟩:=h;cases i with
  |zero=>simp at hi;subst hi;exact⟨u,rfl,h1⟩
  |succ i=>simp at hi;obtain⟨v,hv,hr⟩:=h2.get hi;exact⟨v,by simpa using hv,hr⟩
def AW.GF{γ:Gh}:∀{l:List Aa} {us:List Value},us.length=l.length->(∀(i:Nat) (a:Aa) (u:Value),l[i]?=some a->us[i]?=some u->BF γ a u)->AW γ l us
 |[],us,hl,_=>by rw[AW];exact CO hl
 |x::l,[],hl,_=>by simp at hl
 |x::l,u::us,hl,h=>by rw[AW];exact⟨u,us,rfl,h 0 x u rfl rfl,AW.GF (by simpa using hl) λi a v hi hv=>h (i+1) a v (by simpa using hi) (by simpa using hv)⟩
def AW.append{γ:Gh}:∀{l l':List Aa} {us Dk:List Value},AW γ l us->AW γ l' Dk->AW γ (l++l') (us++Dk)
 |[],l',us,Dk,h,h'=>by rw[AW] at h;subst h;simpa using h'
 |a::l,l',us,Dk,h,h'=>by rw[AW] at h;obtain⟨u,r,rfl,h1,h2⟩:=h;rw[CJ,AW];exact⟨u,r++Dk,rfl,h1,h2.append h'⟩
def AW.take{γ:Gh}{l:List Aa}{us:List Value}(h:AW γ l us)(n:Nat):AW γ (l.take n) (us.take n):=by
 refine AW.GF (by simp[h.length]) λi a u hi hu=>?_;rw[Cj] at hi hu;split at hi;.rename_i hlt;rw[Af hlt] at hu;obtain⟨v,hv,hr⟩:=h.get hi;rw[hu] at hv;cases hv;exact hr
 .cases hi
def AW.drop{γ:Gh}{l:List Aa}{us:List Value}(h:AW γ l us)(n:Nat):AW γ (l.drop n) (us.drop n):=by refine AW.GF (by simp[h.length]) λi a u hi hu=>?_;rw[Cp] at hi hu;obtain⟨v,hv,hr⟩:=h.get hi;rw[hu] at hv;cases hv;exact hr
def CQ.get{γ:Gh}:∀{l:List Aa} {b o:Nat},CQ γ l b o->∀{i:Nat} {a:Aa},l[i]?=some a->∃u,γ.HU b (o+i)=some u/\BF γ a u
 |[],b,o,h,i,a,hi=>by simp at hi
 |x::l,b,o,h,i,a,hi=>by
  rw[CQ] at h;obtain⟨⟨u,hu,h1⟩,h2⟩:=h;cases i with
  |zero=>simp at hi;subst hi;exact⟨u,hu,h1⟩
  |succ i=>simp at hi;obtain⟨v,hv,hr⟩:=h2.get hi;exact⟨v,by rw[<-hv];congr 1;omega,hr⟩
def CQ.GF{γ:Gh}:∀{l:List Aa} {b o:Nat},(∀(i:Nat) (a:Aa),l[i]?=some a->∃u,γ.HU b (o+i)=some u/\BF γ a u)->CQ γ l b o
 |[],b,o,h=>by rw[CQ];trivial
 |x::l,b,o,h=>by rw[CQ];refine⟨h 0 x rfl,CQ.GF λi a hi=>?_⟩;obtain⟨u,hu,hr⟩:=h (i+1) a (by simpa using hi);exact⟨u,by rw[<-hu];congr 1;omega,hr⟩
def CQ.drop{γ:Gh}{l:List Aa}{b o:Nat}(h:CQ γ l b o)(n:Nat):CQ γ (l.drop n) b (o+n):=by refine CQ.GF λi a hi=>?_;rw[Cp] at hi;obtain⟨u,hu,hr⟩:=h.get hi;exact⟨u,by rw[<-hu];congr 1;omega,hr⟩
def CQ.values{γ:Gh}:∀{l:List Aa} {b o:Nat},CQ γ l b o->∃us:List Value,AW γ l us/\∀(j:Nat) (u:Value),us[j]?=some u->γ.HU b (o+j)=some u
 |[],b,o,h=>⟨[],by rw[AW],Ax⟩
 |x::l,b,o,h=>by
  rw[CQ] at h;obtain⟨⟨u,hu,h1⟩,h2⟩:=h;obtain⟨us,hr,hi⟩:=h2.values;refine⟨u::us,by rw[AW];exact⟨u,us,rfl,h1,hr⟩,λj v hj=>?_⟩;cases j with
  |zero=>simp at hj;subst hj;exact hu
  |succ j=>simp at hj;rw[<-hi j v hj];congr 1;omega
def EA.get{γ:Gh}:∀{rs:List (List Aa)} {z b o:Nat},EA γ rs z b o->∀{i:Nat} {r:List Aa},rs[i]?=some r->r.length=z/\CQ γ r b (o+i*z)
 |[],z,b,o,h,i,r,hi=>by simp at hi
 |x::rs,z,b,o,h,i,r,hi=>by
  rw[EA] at h;cases i with
  |zero=>simp at hi;subst hi;simpa using⟨h.1,h.2.1⟩
  |succ i=>simp at hi;obtain⟨h1,h2⟩:=h.2.2.get hi;exact⟨h1,by rw[show o+(i+1)*z=o+z+i*z by rw[BA,Ed];omega];exact h2⟩
def EA.GF{γ:Gh}:∀{rs:List (List Aa)} {z b o:Nat},(∀(i:Nat) (r:List Aa),rs[i]?=some r->r.length=z/\CQ γ r b (o+i*z))->EA γ rs z b o
 |[],z,b,o,h=>by rw[EA];trivial
 |x::rs,z,b,o,h=>by rw[EA];have h0:=h 0 x rfl;refine⟨h0.1,by simpa using h0.2,EA.GF λi r hi=>?_⟩;obtain⟨h1,h2⟩:=h (i+1) r (by simpa using hi);exact⟨h1,by rw[show o+z+i*z=o+(i+1)*z by rw[BA,Ed];omega];exact h2⟩
def EA.length{γ:Gh}:∀{rs:List (List Aa)} {z b o:Nat},EA γ rs z b o->rs.flatten.length=rs.length*z
 |[],z,b,o,h=>Ax
 |x::rs,z,b,o,h=>by rw[EA] at h;simp[h.1,h.2.2.length,BA,OJ]
def Nv{b:Addr}{n cap:Nat}(hs:b.spot=none\/cap=0)(hc:n<=cap)(hn:0<n):b=⟨b.block,b.off,none⟩:=by
 rcases hs with hs|hs
 .cases b;simp_all
 .omega
def EA.values{γ:Gh}:∀{rs:List (List Aa)} {z b o:Nat},EA γ rs z b o->∃us:List Value,AW γ rs.flatten us/\us.length=rs.length*z/\∀(j:Nat) (u:Value),us[j]?=some u->γ.HU b (o+j)=some u
 |[],z,b,o,h=>⟨[],by simp[AW],Ax,Ax⟩
 |x::rs,z,b,o,h=>by
  rw[EA] at h;obtain⟨us,h1,h2⟩:=h.2.1.values;obtain⟨vs,e,d,c⟩:=h.2.2.values;have hl:us.length=z:=by rw[h1.length,h.1]
  refine⟨us++vs,by simpa using h1.append e,by simp[hl,d,BA,OJ],λj u hj=>?_⟩;rw[aHN] at hj;split at hj;.exact h2 j u hj
  .rename_i GX;rw[<-c _ _ hj];congr 1
   omega
def IE(γ:Gh)(B:Nat)(w:World)(s:Nat)(c:Option Nat)(v:Value)(a:Aa):Prop:=
 (a= .slnil\/∃z,a= .H5 z)\/∃g n cap us e z Aw,a= .sl z Aw/\v= .slice (some ⟨g,0,none⟩) n cap/\γ.BK g=some (.tail s c (n*z))/\B<=g/\
  w.heap[g]?=some (.cells us e (0,0))/\us.size=cap*z/\n<=cap/\cap<=maxLen/\0<z
def K8(γ:Gh)(β:Nat->Nat)(B:Nat)(w:World)(s:Nat):D0->Value->Prop
 | .undef,_=>True
 | .skip,v=>v=undef
 | .val a,v=>BF γ a v
 | .OD b,v=>v= .bool b
 | .BK a,v=>BF γ a v/\IE γ B w s none v a
 | .box _ cs ow,v=>v= .pointer (some ⟨β s,0,none⟩)/\γ.BK (β s)=some (.loc s)/\B<=β s/\
  ∃us e,w.heap[β s]?=some (.cells us e (0,0))/\AW γ cs us.toList/\(∀u∈us.toList,u.oneCell'=true)/\
   ∀o∈ow,∃u a,us[o]?=some u/\cs[o]?=some a/\IE γ B w s (some o) u a
 | .EU s' o,v=>v= .pointer (some ⟨β s',o,none⟩)
structure FR(γ:Gh)(β:Nat->Nat)(B:Nat)(U:BG)(tmps:Array Value)(w:World):Prop where
 size:U.length=tmps.size
 HR:∀s,K8 γ β B w s (U.at s) (tmps.getD s undef)
def J8(γ:Gh):List (Aa×Aa)->List MapEntry->Prop
 |[],es=>es=[]
 |(k,v)::l,es=>∃e T5,es=e::T5/\BF γ k e.key/\BF γ v e.val/\J8 γ l T5
def je(γ:Gh)(l:List (Aa×Aa))(es:Array MapEntry)(clock:Nat):Prop:=
 J8 γ l es.toList/\clock=es.size/\∀(i:Nat) (e:MapEntry),es[i]?=some e->e.born=i
def Tg(fr:Nat×Nat)(n:Nat):Prop:=fr=(0,0)\/n<=fr.1
structure Hj(γ:Gh)(h:Ai)(w:World):Prop where
 HU:∀b o v,γ.HU b o=some v->w.cell? ⟨b,o,none⟩=some v/\v.oneCell'=true/\(γ.BK b=none\/∃s c st,γ.BK b=some (.tail s c st)/\o<st)
 Md:∀id x,h[id]?=some x->x≠ .DF->∃b,γ.mu id=some b/\γ.BK b=some (.Md id)
 cells:∀id cs,h[id]?=some (.cells cs)->∀b,γ.mu id=some b->∃us e fr,w.heap[b]?=some (.cells us e fr)/\Tg fr us.size/\AW γ cs (us.toList.take cs.length)/\∀u∈us.toList.take cs.length,u.oneCell'=true
 map:∀id es,h[id]?=some (.map es)->∀b,γ.mu id=some b->∃C7 clock,w.heap[b]?=some (.map C7 clock)/\je γ es C7 clock
 mu:∀id b,γ.mu id=some b->id<h.length
 BK:∀b x,γ.BK b=some x->b<w.heap.size
 sz:∀b n,γ.sz b=some n->(∃us e fr,w.heap[b]?=some (.cells us e fr)/\us.size=n)/\(γ.BK b=none\/∃id,γ.BK b=some (.Md id))
structure Lx(γ0:Gh)(w0:World)(γ:Gh)(w:World):Prop where
 le:γ0.le γ
 size:w0.heap.size<=w.heap.size
 os:w.os=w0.os
 tape:w.tape=w0.tape
 output:w.output=w0.output
 Nw:∀b,b<w0.heap.size->(∀id,γ0.BK b≠some (.Md id))->w.heap[b]?=w0.heap[b]?/\γ.BK b=γ0.BK b
def Lx.refl(γ:Gh)(w:World):Lx γ w γ w:=⟨.refl _,Ae _,rfl,rfl,rfl,λ_ _ _=>⟨rfl,rfl⟩⟩
def Lx.trans{γ0 d c:Gh}{w0 w1 e:World}(h:Lx γ0 w0 d w1)(k:Lx d w1 c e):Lx γ0 w0 c e:=by refine⟨h.le.trans k.le,Bp h.size k.size,k.os.trans h.os,k.tape.trans h.tape,k.output.trans h.output,λb hb hn=>?_⟩;.obtain⟨h1,h2⟩:=h.Nw b hb hn;obtain⟨g,f⟩:=k.Nw b (IH hb h.size) (λid=>by rw[h2];exact hn id);exact⟨g.trans h1,f.trans h2⟩
structure zD(γ:Gh)(w:World)(γ':Gh)(w':World):Prop where
 le:γ.le γ'
 Nw:∀b x,γ.BK b=some x->x.jd=false->γ'.BK b=some x/\w'.heap[b]?=w.heap[b]?
def zD.Œ{γ γ':Gh}{h:Ai}{w w':World}(hi:Hj γ h w)(ha:Lx γ w γ' w'):zD γ w γ' w':=by refine⟨ha.le,λb x hb hx=>?_⟩;obtain⟨h1,h2⟩:=ha.Nw b (hi.BK b x hb) (λid HV=>by rw[hb] at HV;cases HV;simp[J3.jd] at hx);exact⟨h2.trans hb,h1⟩
def IE.kept{γ γ':Gh}{B:Nat}{w w':World}{s:Nat}{c:Option Nat}{v:Value}{a:Aa}(h:IE γ B w s c v a)(k:zD γ w γ' w'):IE γ' B w' s c v a:=by
 rcases h with h|⟨g,n,cap,us,e,z,Aw,h1,h2,l,j,i,f⟩
 .exact .inl h
 .obtain⟨d,b⟩:=k.Nw g _ l rfl;exact .inr ⟨g,n,cap,us,e,z,Aw,h1,h2,d,j,by rw[b];exact i,f⟩
def K8.kept{γ γ':Gh}{β:Nat->Nat}{B:Nat}{w w':World}{s:Nat}{x:D0}{v:Value}(h:K8 γ β B w s x v)(k:zD γ w γ' w'):K8 γ' β B w' s x v:=by
 cases x with
 |undef=>trivial
 |skip=>exact h
 |val a=>exact BF.mono k.le a v h
 |OD b=>exact h
 |BK a=>exact⟨BF.mono k.le a v h.1,h.2.kept k⟩
 |box ver cs ow=>obtain⟨h1,h2,l,us,e,j,i,g,f⟩:=h;obtain⟨d,c⟩:=k.Nw _ _ h2 rfl;exact⟨h1,d,l,us,e,by rw[c];exact j,AW.mono k.le cs _ i,g,λo ho=>let⟨u,a,p,q,r⟩:=f o ho;⟨u,a,p,q,r.kept k⟩⟩
 |EU s' o=>exact h
def FR.kept{γ γ':Gh}{β:Nat->Nat}{B:Nat}{U:BG}{tmps:Array Value}{w w':World}(h:FR γ β B U tmps w)(k:zD γ w γ' w'):FR γ' β B U tmps w':=
 ⟨h.size,λs=>(h.HR s).kept k⟩
end Go.Am
end
section
namespace Go.Am
def CF{w w':World}{b o:Nat}(h:w'.heap[b]?=w.heap[b]?):w'.cell? ⟨b,o,none⟩=w.cell? ⟨b,o,none⟩:=by simp[World.cell?,h]
def Dn{w:World}{b o:Nat}{v:Value}(h:w.cell? ⟨b,o,none⟩=some v):b<w.heap.size:=by
 rcases Bi b w.heap.size with h'|h'
 .exact h'
 .simp[World.cell?,Array.getElem?_eq_none h'] at h
def Hj.œ{γ:Gh}{h:Ai}{w:World}(hi:Hj γ h w){b o:Nat}{v:Value}(hb:γ.HU b o=some v):b<w.heap.size:=Dn (hi.HU b o v hb).1
def Hj.same{γ:Gh}{h:Ai}{w w':World}(hi:Hj γ h w)(c:w'.heap=w.heap):Hj γ h w':=by
 refine⟨λb o v hb=>?_,hi.Md,λid cs hc b hb=>?_,λid es hc b hb=>?_,hi.mu,λb x hx=>?_,λb n hb=>by rw[c];exact hi.sz b n hb⟩;.obtain⟨h1,h2,d⟩:=hi.HU b o v hb;have e:=CF (w:=w) (w':=w') (b:=b) (o:=o) (by rw[c]);exact⟨e.trans h1,h2,d⟩
 .rw[c];exact hi.cells id cs hc b hb
 .rw[c];exact hi.map id es hc b hb
 .rw[c];exact hi.BK b x hx
def Lx.same{γ:Gh}{w w':World}(b:w'.heap=w.heap)(h1:w'.os=w.os)(h2:w'.tape=w.tape)(c:w'.output=w.output):Lx γ w γ w':=
 ⟨.refl _,by rw[b];exact Ae _,h1,h2,c,λ_ _ _=>⟨by rw[b],rfl⟩⟩
def Lx.drew(γ:Gh)(w:World):Lx γ w γ w.drew:=Lx.same rfl rfl rfl rfl
def Gh.C6(γ:Gh)(b:Nat)(us:Array Value)(k:Nat)(x:Option J3):Gh:=
 {HU:=λb' o=>if b'=b then(if o<k then us[o]? else none) else γ.HU b' o,mu:=γ.mu,BK:=λb'=>if b'=b then x else γ.BK b',sz:=γ.sz}
def Gh.BY(γ:Gh)(b id:Nat)(n:Option Nat):Gh:=
 {HU:=γ.HU,mu:=λi=>if i=id then some b else γ.mu i,BK:=λb'=>if b'=b then some (.Md id) else γ.BK b',sz:=λb'=>if b'=b then n else γ.sz b'}
section
variable{γ:Gh}{h:Ai}{w:World}
def EX(w:World)(o:Obj){b:Nat}(hb:b<w.heap.size):(w.alloc o).heap[b]?=w.heap[b]?:=heap_alloc_old w o b hb
def OS(hi:Hj γ h w)(us:Array Value)(e:TypeId)(fr:Nat×Nat)(k:Nat)(x:Option J3)(h1:∀o u,o<k->us[o]?=some u->u.oneCell'=true)
  (hx:x=none\/(∃s c,x=some (.tail s c k))\/(k=0/\∀id,x≠some (.Md id))):
  Hj (γ.C6 w.heap.size us k x) h (w.alloc (.cells us e fr))/\Lx γ w (γ.C6 w.heap.size us k x) (w.alloc (.cells us e fr)):=by
 have Fj:γ.BK w.heap.size=none:=by
  cases hc:γ.BK w.heap.size with
  |none=>rfl
  |some y=>exact absurd (hi.BK _ y hc) (Dc _)
 have jf:∀o,γ.HU w.heap.size o=none:=λo=>by
  cases hc:γ.HU w.heap.size o with
  |none=>rfl
  |some y=>exact absurd (hi.œ hc) (Dc _)
 have Ee:γ.le (γ.C6 w.heap.size us k x):=⟨λb' o' v' Gm=>by
  have:b'≠w.heap.size:=λhe=>by rw[he,jf] at Gm;cases Gm
  simp only[Gh.C6,Ad this];exact Gm,λ_ _ hm=>hm,λ_ _ hm=>hm⟩
 constructor
 .refine⟨λb o v hb=>?_,λid y HV hy=>?_,λid cs hc b hb=>?_,λid es hc b hb=>?_,hi.mu,λb y hy=>?_,λb n hb=>?_⟩;rotate_left 5;.obtain⟨⟨Dk,d,zE,p,q⟩,r⟩:=hi.sz b n hb;have Nx:b≠w.heap.size:=OK (by rw[AL] at p;exact p.1);exact⟨⟨Dk,d,zE,by rw[EX _ _ (by rw[AL] at p;exact p.1)];exact p,q⟩,by simp only[Gh.C6,Ad Nx];exact r⟩
  .by_cases Nx:b=w.heap.size
   .subst Nx;simp only[Gh.C6,BE] at hb⊢;split at hb
    .rename_i hlt;refine⟨by rw[cell_of_row _ _ _ us e fr (heap_alloc_new w _)];exact hb,h1 o v hlt hb,?_⟩;rcases hx with hx|⟨s,c,hx⟩|⟨hx,_⟩
     .exact .inl hx
     .exact .inr ⟨s,c,k,hx,hlt⟩
     .omega
    .cases hb
   .simp only[Gh.C6,Ad Nx] at hb⊢;obtain⟨p,q,r⟩:=hi.HU b o v hb;exact⟨by rw[CF (EX w _ (Dn p))];exact p,q,r⟩
  .obtain⟨b,p,q⟩:=hi.Md id y HV hy;refine⟨b,p,?_⟩;have:b≠w.heap.size:=λhe=>by rw[he,Fj] at q;cases q
   simp only[Gh.C6,Ad this];exact q
  .obtain⟨Dk,d,zE,p,pf,q,r⟩:=hi.cells id cs hc b hb;exact⟨Dk,d,zE,by rw[EX _ _ (by rw[AL] at p;exact p.1)];exact p,pf,AW.mono Ee cs _ q,r⟩
  .obtain⟨C7,clock,p,q⟩:=hi.map id es hc b hb;refine⟨C7,clock,by rw[EX _ _ (by rw[AL] at p;exact p.1)];exact p,?_,q.2⟩;replace q:=q.1;clear hc p;revert q;generalize C7.toList=l;intro q;induction es generalizing l with
   |nil=>exact q
   |cons kv es ih=>obtain⟨kk,f⟩:=kv;obtain⟨en,T5,hl,a1,a2,a3⟩:=q;exact⟨en,T5,hl,BF.mono Ee _ _ a1,BF.mono Ee _ _ a2,ih T5 a3⟩
  .by_cases Nx:b=w.heap.size;.subst Nx;simp
   .simp only[Gh.C6,Ad Nx] at hy;have:=hi.BK b y hy;simp;omega
 .refine⟨Ee,Ax,rfl,rfl,rfl,λb hb _=>⟨EX _ _ hb,?_⟩⟩;simp only[Gh.C6,Ad (OK hb)]
def J8.mono{γ γ':Gh}(Ee:γ.le γ'):∀{es:List (Aa×Aa)} {l:List MapEntry},J8 γ es l->J8 γ' es l
 |[],l,q=>q
 |(kk,b)::es,l,q=>by obtain⟨en,T5,hl,a1,a2,a3⟩:=q;exact⟨en,T5,hl,BF.mono Ee _ _ a1,BF.mono Ee _ _ a2,a3.mono Ee⟩
def je.mono{γ γ':Gh}(Ee:γ.le γ'){es:List (Aa×Aa)}{l:Array MapEntry}{c:Nat}(h:je γ es l c):je γ' es l c:=⟨h.1.mono Ee,h.2⟩
def Ny(hi:Hj γ h w)(o:Obj)(x:ED)(m:Option Nat)
  (hx:(∃cs us e fr,x= .cells cs/\o= .cells us e fr/\Tg fr us.size/\AW γ cs (us.toList.take cs.length)/\(∀u∈us.toList.take cs.length,u.oneCell'=true)/\m=some us.size)\/(x= .map []/\o= .map #[] 0/\m=none)):
  Hj (γ.BY w.heap.size h.length m) (h++[x]) (w.alloc o)/\Lx γ w (γ.BY w.heap.size h.length m) (w.alloc o):=by
 have Fj:γ.BK w.heap.size=none:=by
  cases hc:γ.BK w.heap.size with
  |none=>rfl
  |some y=>exact absurd (hi.BK _ y hc) (Dc _)
 have c:γ.mu h.length=none:=by
  cases hc:γ.mu h.length with
  |none=>rfl
  |some y=>exact absurd (hi.mu _ y hc) (Dc _)
 have KW:γ.sz w.heap.size=none:=by
  cases hc:γ.sz w.heap.size with
  |none=>rfl
  |some y=>obtain⟨⟨_,_,_,p,_⟩,_⟩:=hi.sz _ y hc;rw[AL] at p;exact absurd p.1 (Dc _)
 have Ee:γ.le (γ.BY w.heap.size h.length m):=⟨λ_ _ _ hv=>hv,λid b hm=>by
  have:id≠h.length:=λhe=>by rw[he,c] at hm;cases hm
  simp only[Gh.BY,Ad this];exact hm,λb n hm=>by
  have:b≠w.heap.size:=λhe=>by rw[he,KW] at hm;cases hm
  simp only[Gh.BY,Ad this];exact hm⟩
 constructor
 .refine⟨λb o' v hb=>?_,λid y HV hy=>?_,λid cs hc b hb=>?_,λid es hc b hb=>?_,λid b hb=>?_,λb y hy=>?_,λb n hb=>?_⟩;rotate_left 6
  .by_cases Nx:b=w.heap.size
   .subst Nx;simp only[Gh.BY,BE] at hb;rcases hx with⟨GB,us,e,fr,rfl,rfl,pf,p,q,rfl⟩|⟨rfl,rfl,rfl⟩
    .cases hb;exact⟨⟨us,e,fr,heap_alloc_new w _,rfl⟩,.inr ⟨h.length,by simp[Gh.BY]⟩⟩
    .cases hb
   .simp only[Gh.BY,Ad Nx] at hb⊢;obtain⟨⟨Dk,d,zE,p,q⟩,r⟩:=hi.sz b n hb;exact⟨⟨Dk,d,zE,by rw[EX _ _ (by rw[AL] at p;exact p.1)];exact p,q⟩,r⟩
  .obtain⟨p,q,r⟩:=hi.HU b o' v hb;have Nx:b≠w.heap.size:=OK (Dn p);exact⟨by rw[World.cell?_alloc_old _ _ _ Nx];exact p,q,by simp only[Gh.BY,Ad Nx];exact r⟩
  .by_cases he:id=h.length;.exact⟨w.heap.size,by simp[Gh.BY,he],by simp[Gh.BY,he]⟩
   .have VQ:id<h.length:=by rw[Aj] at HV;obtain⟨hl,_⟩:=HV;simp at hl;omega
    rw[An VQ] at HV;obtain⟨b,p,q⟩:=hi.Md id y HV hy;have Nx:b≠w.heap.size:=λhe=>by rw[he,Fj] at q;cases q
    exact⟨b,by simp only[Gh.BY,Ad he];exact p,by simp only[Gh.BY,Ad Nx];exact q⟩
  .by_cases he:id=h.length
   .subst he;simp[Gh.BY] at hb;subst hb;simp at hc;rcases hx with⟨GB,us,e,fr,rfl,rfl,pf,p,q,rfl⟩|⟨rfl,rfl,rfl⟩
    .cases hc;exact⟨us,e,fr,heap_alloc_new w _,pf,AW.mono Ee _ _ p,q⟩
    .cases hc
   .simp only[Gh.BY,Ad he] at hb;have VQ:=hi.mu id b hb;rw[An VQ] at hc;obtain⟨Dk,d,zE,p,pf,q,r⟩:=hi.cells id cs hc b hb;exact⟨Dk,d,zE,by rw[EX _ _ (by rw[AL] at p;exact p.1)];exact p,pf,AW.mono Ee _ _ q,r⟩
  .by_cases he:id=h.length
   .subst he;simp[Gh.BY] at hb;subst hb;simp at hc;rcases hx with⟨GB,us,e,fr,rfl,rfl,pf,p,q,rfl⟩|⟨rfl,rfl,rfl⟩
    .cases hc
    .cases hc;exact⟨#[],0,heap_alloc_new w _,rfl,rfl,Ax⟩
   .simp only[Gh.BY,Ad he] at hb;have VQ:=hi.mu id b hb;rw[An VQ] at hc;obtain⟨C7,clock,p,q⟩:=hi.map id es hc b hb;exact⟨C7,clock,by rw[EX _ _ (by rw[AL] at p;exact p.1)];exact p,q.mono Ee⟩
  .by_cases he:id=h.length;.simp[he]
   .simp only[Gh.BY,Ad he] at hb;have:=hi.mu id b hb;simp;omega
  .by_cases Nx:b=w.heap.size;.subst Nx;simp
   .simp only[Gh.BY,Ad Nx] at hy;have:=hi.BK b y hy;simp;omega
 .refine⟨Ee,Ax,rfl,rfl,rfl,λb hb _=>⟨EX _ _ hb,?_⟩⟩;simp only[Gh.BY,Ad (OK hb)]
def zF(hi:Hj γ h w){g s:Nat}(hg:γ.BK g=some (.loc s))(us:Array Value):Hj γ h (w.setRow g us):=by
 refine⟨λb o v hb=>?_,hi.Md,λid cs hc b hb=>?_,λid es hc b hb=>?_,hi.mu,λb x hx=>?_,λb n hb=>?_⟩;rotate_left 4
 .obtain⟨p,r⟩:=hi.sz b n hb;have:b≠g:=λhe=>by subst he;rw[hg] at r;rcases r with r|⟨_,r⟩<;>cases r
  exact⟨by rw[setRow_other w g b us this];exact p,r⟩
 .obtain⟨p,q,r⟩:=hi.HU b o v hb;have:b≠g:=λhe=>by subst he;rw[hg] at r;rcases r with r|⟨_,_,_,r,_⟩<;>cases r
  exact⟨by rw[CF (setRow_other w g b us this)];exact p,q,r⟩
 .have S4:b≠g:=λhe=>by subst he;obtain⟨b',p,q⟩:=hi.Md id _ hc Ax;rw[hb] at p;cases p;rw[hg] at q;cases q
  rw[setRow_other w g b us S4];exact hi.cells id cs hc b hb
 .have S4:b≠g:=λhe=>by subst he;obtain⟨b',p,q⟩:=hi.Md id _ hc Ax;rw[hb] at p;cases p;rw[hg] at q;cases q
  rw[setRow_other w g b us S4];exact hi.map id es hc b hb
 .have:=hi.BK b x hx;simpa[World.setRow] using this
def M0(hi:Hj γ h w){g id:Nat}{cs:List Aa}(hcs:h[id]?=some (.cells cs))(hg:γ.mu id=some g){us:Array Value}{e:TypeId}{fr:Nat×Nat}(hw:w.heap[g]?=some (.cells us e fr))(Dk:Array Value)(GB:List Aa)(YR:Dk.size=us.size)(rL:Tg fr Dk.size)
  (hr:AW γ GB (Dk.toList.take GB.length)) (h1:∀u∈Dk.toList.take GB.length,u.oneCell'=true):
  Hj γ (h.set id (.cells GB)) (w.setRow g Dk)/\Lx γ w γ (w.setRow g Dk):=by
 obtain⟨d,p,S5⟩:=hi.Md id _ hcs Ax;rw[hg] at p;cases p;have uniq:∀Fo x,h[Fo]?=some x->x≠ .DF->γ.mu Fo=some g->Fo=id:=λFo x hx Ŕ hm=>by obtain⟨b',p,q⟩:=hi.Md Fo x hx Ŕ;rw[hm] at p;cases p;rw[S5] at q;cases q;rfl
 constructor
 .refine⟨λb o v hb=>?_,λFo y HV hy=>?_,λFo cs hc b hb=>?_,λFo es hc b hb=>?_,λFo b hb=>by simpa using hi.mu Fo b hb,λb x hx=>?_,λb n hb=>?_⟩;rotate_left 5
  .obtain⟨⟨lO,c,jg,p,q⟩,r⟩:=hi.sz b n hb;by_cases he:b=g;.subst he;rw[hw] at p;cases p;exact⟨⟨Dk,e,fr,setRow_heap w b us Dk e fr hw,by rw[YR];exact q⟩,r⟩
   .exact⟨⟨lO,c,jg,by rw[setRow_other w g b Dk he];exact p,q⟩,r⟩
  .obtain⟨p,q,r⟩:=hi.HU b o v hb;have:b≠g:=λhe=>by subst he;rw[S5] at r;rcases r with r|⟨_,_,_,r,_⟩<;>cases r
   exact⟨by rw[CF (setRow_other w g b Dk this)];exact p,q,r⟩
  .by_cases he:Fo=id;.subst he;exact⟨g,hg,S5⟩
   .rw[Ao (λx=>he x.symm)] at HV;exact hi.Md Fo y HV hy
  .by_cases he:Fo=id;.subst he;rw[hg] at hb;cases hb;rw[AE (hi.mu _ _ hg)] at hc;cases hc;exact⟨Dk,e,fr,setRow_heap w g us Dk e fr hw,rL,hr,h1⟩
   .rw[Ao (λx=>he x.symm)] at hc;have S4:b≠g:=λhx=>by subst hx;exact he (uniq Fo _ hc Ax hb)
    rw[setRow_other w g b Dk S4];exact hi.cells Fo cs hc b hb
  .by_cases he:Fo=id;.subst he;rw[AE (hi.mu _ _ hg)] at hc;cases hc
   .rw[Ao (λx=>he x.symm)] at hc;have S4:b≠g:=λhx=>by subst hx;exact he (uniq Fo _ hc Ax hb)
    rw[setRow_other w g b Dk S4];exact hi.map Fo es hc b hb
  .have:=hi.BK b x hx;simpa[World.setRow] using this
 .refine⟨.refl _,by simp[World.setRow],rfl,rfl,rfl,λb hb hn=>⟨?_,rfl⟩⟩;exact setRow_other w g b Dk (λhe=>by subst he;exact hn id S5)
def mD(hi:Hj γ h w){g s st:Nat}{c:Option Nat}(hg:γ.BK g=some (.tail s c st)){us:Array Value}{e:TypeId}(hw:w.heap[g]?=some (.cells us e (0,0)))(Dk:Array Value)(k:Nat)(s':Nat)(c':Option Nat)
  (M1:∀o,o<st->Dk[o]?=us[o]?) (hk:st<=k) (h1:∀o u,o<k->Dk[o]?=some u->u.oneCell'=true) (aB:∀o v,γ.HU g o=some v->us[o]?=some v):
  Hj (γ.C6 g Dk k (some (.tail s' c' k))) h (w.setRow g Dk)/\γ.le (γ.C6 g Dk k (some (.tail s' c' k))):=by
 have hlt:∀o v,γ.HU g o=some v->o<st:=λo v ho=>by
  obtain⟨_,_,r⟩:=hi.HU g o v ho;rw[hg] at r;rcases r with r|⟨_,_,_,r,hl⟩
  .cases r
  .cases r;exact hl
 have Ee:γ.le (γ.C6 g Dk k (some (.tail s' c' k))):=⟨λb o v hb=>by
  by_cases he:b=g;.subst he;have:=hlt o v hb;simp only[Gh.C6,BE,Af (IH this hk)];rw[M1 o this];exact aB o v hb
  .simp only[Gh.C6,Ad he];exact hb,λ_ _ hm=>hm,λ_ _ hm=>hm⟩
 refine⟨⟨λb o v hb=>?_,λid y HV hy=>?_,λid cs hc b hb=>?_,λid es hc b hb=>?_,hi.mu,λb x hx=>?_,λb n hb=>?_⟩,Ee⟩;rotate_left 5
 .obtain⟨p,r⟩:=hi.sz b n hb;have:b≠g:=λhe=>by subst he;rw[hg] at r;rcases r with r|⟨_,r⟩<;>cases r
  exact⟨by rw[setRow_other w g b Dk this];exact p,by simp only[Gh.C6,Ad this];exact r⟩
 .by_cases he:b=g
  .subst he;simp only[Gh.C6,BE] at hb⊢;split at hb
   .rename_i hl;exact⟨by rw[cell_of_row _ _ _ Dk e (0,0) (setRow_heap w b us Dk e (0,0) hw)];exact hb,
     h1 o v hl hb,.inr ⟨s',c',k,rfl,hl⟩⟩
   .cases hb
  .simp only[Gh.C6,Ad he] at hb⊢;obtain⟨p,q,r⟩:=hi.HU b o v hb;exact⟨by rw[CF (setRow_other w g b Dk he)];exact p,q,r⟩
 .obtain⟨b,p,q⟩:=hi.Md id y HV hy;have:b≠g:=λhe=>by subst he;rw[hg] at q;cases q
  exact⟨b,p,by simp only[Gh.C6,Ad this];exact q⟩
 .replace hb:γ.mu id=some b:=hb;obtain⟨b',p,q⟩:=hi.Md id _ hc Ax;rw[hb] at p;cases p;have:b≠g:=λhe=>by subst he;rw[hg] at q;cases q
  rw[setRow_other w g b Dk this];obtain⟨lO,i,jg,p2,f,d,r2⟩:=hi.cells id cs hc b hb;exact⟨lO,i,jg,p2,f,AW.mono Ee _ _ d,r2⟩
 .replace hb:γ.mu id=some b:=hb;obtain⟨b',p,q⟩:=hi.Md id _ hc Ax;rw[hb] at p;cases p;have:b≠g:=λhe=>by subst he;rw[hg] at q;cases q
  rw[setRow_other w g b Dk this];obtain⟨C7,clock,p2,d⟩:=hi.map id es hc b hb;exact⟨C7,clock,p2,d.mono Ee⟩
 .by_cases he:b=g;.subst he;have:=hi.BK b _ hg;simpa[World.setRow] using this
  .simp only[Gh.C6,Ad he] at hx;have:=hi.BK b x hx;simpa[World.setRow] using this
def Lx.write{γ0 c:Gh}{w0:World}(ha:Lx γ0 w0 γ w){w1:World}{g:Nat}(hg:w0.heap.size<=g)(Ee:γ.le c)(hs:w1.heap.size=w.heap.size)(h1:w1.os=w.os)(h2:w1.tape=w.tape)(e:w1.output=w.output)
  (hk:∀b,b≠g->w1.heap[b]?=w.heap[b]?/\c.BK b=γ.BK b):Lx γ0 w0 c w1:=by
 refine⟨ha.le.trans Ee,by rw[hs];exact ha.size,h1.trans ha.os,h2.trans ha.tape,e.trans ha.output,λb hb hn=>?_⟩;.obtain⟨p,q⟩:=ha.Nw b hb hn;obtain⟨p',d⟩:=hk b Ab;exact⟨p'.trans p,d.trans q⟩
def jh(hi:Hj γ h w){g id:Nat}{cs:List Aa}(hcs:h[id]?=some (.cells cs))(hg:γ.mu id=some g){us:Array Value}{e:TypeId}{fr:Nat×Nat}(hw:w.heap[g]?=some (.cells us e fr))(h1:∀u∈us.toList.take cs.length,u.oneCell'=true):
  Hj (γ.C6 g us cs.length none) (h.set id .DF) w/\Lx γ w (γ.C6 g us cs.length none) w:=by
 obtain⟨d,p,S5⟩:=hi.Md id _ hcs Ax;rw[hg] at p;cases p;have uniq:∀Fo x,h[Fo]?=some x->x≠ .DF->γ.mu Fo=some g->Fo=id:=λFo x hx Ŕ hm=>by obtain⟨b',p,q⟩:=hi.Md Fo x hx Ŕ;rw[hm] at p;cases p;rw[S5] at q;cases q;rfl
 have hne:∀o v,γ.HU g o=some v->False:=λo v hv=>by obtain⟨_,_,r⟩:=hi.HU g o v hv;rw[S5] at r;rcases r with r|⟨_,_,_,r,_⟩<;>cases r
 have Ee:γ.le (γ.C6 g us cs.length none):=⟨λb o v hb=>by
  have:b≠g:=λhe=>by subst he;exact hne o v hb
  simp only[Gh.C6,Ad this];exact hb,λ_ _ hm=>hm,λ_ _ hm=>hm⟩
 constructor
 .refine⟨λb o v hb=>?_,λFo y HV hy=>?_,λFo GB hc b hb=>?_,λFo es hc b hb=>?_,λFo b hb=>by simpa using hi.mu Fo b hb,λb x hx=>?_,λb n hb=>?_⟩;rotate_left 5
  .obtain⟨p,r⟩:=hi.sz b n hb;by_cases he:b=g;.subst he;exact⟨p,.inl (by simp[Gh.C6])⟩
   .exact⟨p,by simp only[Gh.C6,Ad he];exact r⟩
  .by_cases he:b=g
   .subst he;simp only[Gh.C6,BE] at hb⊢;split at hb;.rename_i hlt;exact⟨by rw[cell_of_row _ _ _ us e fr hw];exact hb,h1 v (Ct (i:=o) (by rw[CM hlt];simpa using hb)),.inl Ax⟩
    .cases hb
   .simp only[Gh.C6,Ad he] at hb⊢;exact hi.HU b o v hb
  .by_cases he:Fo=id;.subst he;rw[AE (hi.mu _ _ hg)] at HV;cases HV;exact absurd rfl hy
   .rw[Ao (λx=>he x.symm)] at HV;obtain⟨b,p,q⟩:=hi.Md Fo y HV hy;have:b≠g:=λhx=>by subst hx;exact he (uniq Fo y HV hy p)
    exact⟨b,p,by simp only[Gh.C6,Ad this];exact q⟩
  .by_cases he:Fo=id;.subst he;rw[AE (hi.mu _ _ hg)] at hc;cases hc
   .rw[Ao (λx=>he x.symm)] at hc;obtain⟨Dk,c,zE,p,pf,q,r⟩:=hi.cells Fo GB hc b hb;exact⟨Dk,c,zE,p,pf,AW.mono Ee _ _ q,r⟩
  .by_cases he:Fo=id;.subst he;rw[AE (hi.mu _ _ hg)] at hc;cases hc
   .rw[Ao (λx=>he x.symm)] at hc;obtain⟨Dk,c,p,q⟩:=hi.map Fo es hc b hb;exact⟨Dk,c,p,q.mono Ee⟩
  .by_cases he:b=g;.subst he;exact hi.BK b _ S5
   .simp only[Gh.C6,Ad he] at hx;exact hi.BK b x hx
 .refine⟨Ee,Ae _,rfl,rfl,rfl,λb hb hn=>⟨rfl,?_⟩⟩;have:b≠g:=λhe=>by subst he;exact hn id S5
  simp only[Gh.C6,Ad this]
end
end Go.Am
end
section
namespace Go.Am
def Eg.M2(C:Fv)(run:IT->Ai->Option Jp)(U:BG)(h:Ai)(e:BG)(h':Ai):Eg->Prop
 | .pure ws=>e=U.DW ws/\h'=h
 | .op p args dst BK i=>∃v,Az p args=some v/\e=(U.Dm i).put dst (if BK then .BK v else .val v)/\h'=h
 | .box n v d=>v.cells.length=n/\e=U.set d (.box 0 v.cells [])/\h'=h
 | .closure fn a b fz d=>e=(U.DW (fz.map λ(s,cs)=>(s,.val (.BR cs)))).set d (.val (.func fn a b))/\h'=h
 | .MJ s off n v BK i ver cells owned=>v.cells.length=n/\e=(U.Dm i).set s (.box (ver+1) (VK cells off n v.cells) (RE owned off n BK))/\h'=h
 | .load n p dst=>∃v,Bj h n p=some v/\e=U.put dst (.val v)/\h'=h
 | .store n p v=>CL h n p v=some h'/\e=U
 | .alloc n v dst=>v.cells.length=n/\h'=h++[.cells v.cells]/\e=U.put dst (.val (.ptr (some (h.length,0))))
 | .call f args dst=>∃r,run (B4 C f args) h=some (.ret,[r],h')/\e=U.put dst (if C.I3 f then .BK r else .val r)
 | .D3 g args dst=>∃f args' r,CC g args=some (f,args')/\run (B4 C f args') h=some (.ret,[r],h')/\e=U.put dst (.val r)
 | .Bn f args dst=>args.all Aa.Me=true/\∃r h1,run (B4 C f args) []=some (.ret,[r],h1)/\r.Me=true/\e=U.put dst (.val r)/\h'=h
 | .MX dst=>h'=h++[.map []]/\e=U.put dst (.val (.map (some h.length)))
 | .Hw m k v=>Qq h m k v=some h'/\e=U
 | .make z b zero l c dst=>∃v,RB h z b zero l c=some (h',v)/\e=U.put dst (.val v)
 | .Je z b s x dst i=>∃v,MH h z b s x=some (h',v)/\e=(U.Dm i).put dst (.val v)
 | .FH z b s x dst=>∃v,GP h z b s x=some (h',v)/\e=U.put dst (.val v)
 | .FX z b s x dst i=>∃v,Qr h z b s x=some v/\e=(U.Dm i).put dst (.BK v)/\h'=h
 | .EN s dst=>∃v,Ip h s=some (h',v)/\e=U.put dst (.val v)
 | .X8 s dst=>∃v u,Li h s=some (h',v)/\Az .X8 [v]=some u/\e=U.put dst (.val u)
 | .mem o args dst=>∃v,DS o h args=some (h',v)/\e=U.put dst (if o.aEi then .undef else .val v)
 | .LI z ok m k dst=>∃v,Oj h z ok m k=some v/\e=U.put dst (.val v)/\h'=h
def Th{n:Nat}{cs:List Aa}(h:cs.length=n):VJ n cs=cs:=by
 subst h;apply L7;intro i;simp only[VJ,Cd,List.getD];by_cases hi:i<cs.length;.simp[List.getElem?_range hi,As hi]
 .simp[hi]
def YS{C:Fv}{run:IT->Ai->Option Jp}{U:BG}{K:BG->IT}{h:Ai}{R:Jp}{r:Eg}
  (hr:IT.step (B4 C) run (r.LL C U K) h=some R):∃i h',r.M2 C run U h i h'/\IT.step (B4 C) run (K i) h'=some R:=by
 cases r with
 |pure ws=>exact⟨_,_,⟨rfl,rfl⟩,hr⟩
 |op p args dst BK e=>
  simp only[Eg.LL,IT.step] at hr;split at hr;.rename_i v hv;exact⟨_,_,⟨v,hv,rfl,rfl⟩,hr⟩
  .cases hr
 |box n v d=>
  simp only[Eg.LL,IT.step] at hr;split at hr;.rename_i hn;rw[Th hn] at hr;exact⟨_,_,⟨hn,rfl,rfl⟩,hr⟩
  .cases hr
 |closure fn a b fz d=>exact⟨_,_,⟨rfl,rfl⟩,hr⟩
 |MJ s off n v BK e ver cells owned=>
  simp only[Eg.LL,IT.step] at hr;split at hr;.rename_i hn;rw[Th hn] at hr;exact⟨_,_,⟨hn,rfl,rfl⟩,hr⟩
  .cases hr
 |load n p dst=>
  simp only[Eg.LL,IT.step] at hr;split at hr;.rename_i v hv;exact⟨_,_,⟨v,hv,rfl,rfl⟩,hr⟩
  .cases hr
 |store n p v=>
  simp only[Eg.LL,IT.step] at hr;split at hr;.rename_i h1 hv;exact⟨_,_,⟨hv,rfl⟩,hr⟩
  .cases hr
 |alloc n v dst=>
  simp only[Eg.LL,IT.step,VD] at hr;by_cases hn:v.cells.length=n;.rw[Af hn] at hr;exact⟨_,_,⟨hn,rfl,rfl⟩,hr⟩
  .rw[Ad hn] at hr;cases hr
 |call f args dst=>
  simp only[Eg.LL,IT.step] at hr;split at hr;.rename_i r h1 hv;exact⟨_,_,⟨r,hv,rfl⟩,hr⟩
  .cases hr
 |D3 g args dst=>
  simp only[Eg.LL,IT.step] at hr;split at hr
  .rename_i f a' ht;split at hr;.rename_i r h1 hv;exact⟨_,_,⟨f,a',r,ht,hv,rfl⟩,hr⟩
   .cases hr
  .cases hr
 |Bn f args dst=>
  simp only[Eg.LL,IT.step] at hr;split at hr
  .rename_i Io;split at hr
   .rename_i r h1 hv;split at hr;.rename_i fm;exact⟨_,_,⟨Io,r,h1,hv,fm,rfl,rfl⟩,hr⟩
    .cases hr
   .cases hr
  .cases hr
 |MX dst=>exact⟨_,_,⟨rfl,rfl⟩,hr⟩
 |Hw m k v=>
  simp only[Eg.LL,IT.step] at hr;split at hr;.rename_i h1 hv;exact⟨_,_,⟨hv,rfl⟩,hr⟩
  .cases hr
 |LI z ok m k dst=>
  simp only[Eg.LL,IT.step] at hr;split at hr;.rename_i v hv;exact⟨_,_,⟨v,hv,rfl,rfl⟩,hr⟩
  .cases hr
 |make z b zero l c dst=>
  simp only[Eg.LL,IT.step] at hr;split at hr;.rename_i h1 v hv;exact⟨_,_,⟨v,hv,rfl⟩,hr⟩
  .cases hr
 |Je z b s x dst e=>
  simp only[Eg.LL,IT.step] at hr;split at hr;.rename_i h1 v hv;exact⟨_,_,⟨v,hv,rfl⟩,hr⟩
  .cases hr
 |FH z b s x dst=>
  simp only[Eg.LL,IT.step] at hr;split at hr;.rename_i h1 v hv;exact⟨_,_,⟨v,hv,rfl⟩,hr⟩
  .cases hr
 |FX z b s x dst e=>
  simp only[Eg.LL,IT.step] at hr;split at hr;.rename_i v hv;exact⟨_,_,⟨v,hv,rfl,rfl⟩,hr⟩
  .cases hr
 |EN s dst=>
  simp only[Eg.LL,IT.step] at hr;split at hr;.rename_i h1 v hv;exact⟨_,_,⟨v,hv,rfl⟩,hr⟩
  .cases hr
 |X8 s dst=>
  simp only[Eg.LL,IT.step] at hr;split at hr
  .rename_i h1 v hv;split at hr;.rename_i u hu;exact⟨_,_,⟨v,u,hv,hu,rfl⟩,hr⟩
   .cases hr
  .cases hr
 |mem o args dst=>
  simp only[Eg.LL,IT.step] at hr;split at hr;.rename_i h1 v hv;exact⟨_,_,⟨v,hv,rfl⟩,hr⟩
  .cases hr
structure CX(C:Fv)(γ0:Gh)(w0:World)(γ:Gh)(β:Nat->Nat)(U:BG)(h:Ai)(a:Act)(w:World):Prop where
 DG:Hj γ h w
 fr:FR γ β w0.heap.size U a.tmps w
 DA:Lx γ0 w0 γ w
 defers:a.defers=[]
 GC:∀g cs,C.GC g=some cs->CQ γ cs g 0
def RJ{γ:Gh}{v:Value}{a:Aa}(h:ON v=some a):BF γ a v/\v.oneCell'=true:=by
 unfold ON at h;split at h;case h_7=>
  rename_i fn f c;split at h;.rename_i hs;cases h;have d:f=#[]:=Ik hs.1;have b:c=#[]:=Ik hs.2;subst d;subst b;exact⟨⟨#[],#[],rfl,rfl,rfl⟩,rfl⟩
  .cases h
 all_goals first
  |(cases h;exact⟨rfl,rfl⟩)
  |cases h
def ML{γ:Gh}:∀{vs:List Value} {as:List Aa},Lw vs=some as->AW γ as vs/\∀v∈vs,v.oneCell'=true
 |[],as,h=>by cases h;exact⟨rfl,Ax⟩
 |v::vs,as,h=>by
  unfold Lw at h;split at h;.rename_i a c h1 h2;cases h;obtain⟨p,q⟩:=RJ (γ:=γ) h1;obtain⟨p',b⟩:=ML (γ:=γ) h2;exact⟨⟨v,vs,rfl,p,p'⟩,λx hx=>(AG.1 hx).elim (λe=>by rw[e];exact q) (b x)⟩
  .cases h
def E1{γ:Gh}{v:Value}{a:Aa}(h:Ks v=some a):BF γ a v:=by
 unfold Ks at h;split at h
 .rename_i cs;cases hs:Lw cs.toList with
  |none=>rw[hs] at h;cases h
  |some as=>rw[hs] at h;cases h;obtain⟨p,q⟩:=ML (γ:=γ) hs;exact⟨cs,rfl,p,q⟩
 .exact(RJ h).1
section
variable{C:Fv}{γ0 γ:Gh}{w0 w:World}{β:Nat->Nat}{U:BG}{h:Ai}{a:Act}
def QR(hr:CX C γ0 w0 γ β U h a w){x:Operand}{sl:D0}(hx:DL C U x=some sl)(hn:∀s,x≠ .tmp s):∃s,K8 γ β w0.heap.size w s sl (a.eval x):=by
 unfold DL at hx;split at hx;.exact absurd rfl (hn _)
 .cases hx;exact⟨0,rfl⟩
 .cases hx;exact⟨0,rfl,.inl (.inl rfl)⟩
 .rename_i v _ _;cases hc:Ks v with
  |none=>rw[hc] at hx;cases hx
  |some u=>rw[hc] at hx;cases hx;exact⟨0,E1 hc⟩
 .rename_i g;cases hc:C.GC g with
  |none=>rw[hc] at hx;cases hx
  |some cs=>rw[hc] at hx;cases hx;exact⟨0,g,0,rfl,hr.GC g cs hc⟩
 .cases hx;exact⟨0,#[],#[],rfl,rfl,rfl⟩
def RK(hr:CX C γ0 w0 γ β U h a w)(s:Nat):K8 γ β w0.heap.size w s (U.at s) (a.eval (.tmp s)):=hr.fr.HR s
def FO(hr:CX C γ0 w0 γ β U h a w){x:Operand}{sl:D0}(hx:DL C U x=some sl):∃s,K8 γ β w0.heap.size w s sl (a.eval x)/\∀t,x= .tmp t->s=t:=by
 cases x with
 |tmp t=>cases hx;exact⟨t,RK hr t,λ_ h=>by cases h;rfl⟩
 |const v=>obtain⟨s,h1⟩:=QR hr hx (by intro s h;cases h);exact⟨s,h1,λ_ h=>by cases h⟩
 |global g=>obtain⟨s,h1⟩:=QR hr hx (by intro s h;cases h);exact⟨s,h1,λ_ h=>by cases h⟩
 |func f=>obtain⟨s,h1⟩:=QR hr hx (by intro s h;cases h);exact⟨s,h1,λ_ h=>by cases h⟩
def M3{B s:Nat}{sl:D0}{v:Value}{u:Aa}(hs:K8 γ β B w s sl v)(hv:sl.GZ=some u):BF γ u v:=by
 cases sl<;>simp[D0.GZ] at hv;.subst hv;exact hs
 .subst hv;exact hs
 .subst hv;exact hs.1
def Gg(hr:CX C γ0 w0 γ β U h a w){x:Operand}{u:Aa}(hx:Ez C U x=some u):BF γ u (a.eval x):=by
 unfold Ez at hx;cases hs:DL C U x with
 |none=>rw[hs] at hx;cases hx
 |some sl=>rw[hs] at hx;obtain⟨s,h1,_⟩:=FO hr hs;exact M3 h1 hx
def DB(hr:CX C γ0 w0 γ β U h a w):∀{xs:List Operand} {us:List Aa},Bm C U xs=some us->AW γ us (xs.map a.eval)
 |[],us,hx=>by cases hx;rfl
 |x::xs,us,hx=>by
  unfold Bm at hx;split at hx;.rename_i u Dk h1 h2;cases hx;exact⟨_,_,rfl,Gg hr h1,DB hr h2⟩
  .cases hx
def FR.put{B:Nat}{tmps:Array Value}(hf:FR γ β B U tmps w){d:Nat}{x:D0}{v:Value}(hx:K8 γ β B w d x v):FR γ β B (U.set d x) (tmps.setIfInBounds d v) w:=by
 refine⟨by simp[hf.size],λs=>?_⟩;have hs:=hf.HR s;by_cases he:s=d
 .subst he;by_cases hl:s<U.length
  .have b:s<tmps.size:=by rw[<-hf.size];exact hl
   simpa[BG.at,List.getD,hl,b,Array.getD] using hx
  .have b:¬s<tmps.size:=by rw[<-hf.size];exact hl
   simpa[BG.at,List.getD,hl,b,Array.getD] using hs
 .have h1:BG.at (U.set d x) s=U.at s:=by simp[BG.at,List.getD,Ao (λe=>he e.symm)]
  have h2:(tmps.setIfInBounds d v).getD s undef=tmps.getD s undef:=by simp[GM,lX (λe=>he e.symm)]
  rw[h1,h2];exact hs
def FR.fJ{B:Nat}{tmps:Array Value}(hf:FR γ β B U tmps w){d:Nat}{x:D0}(hx:K8 γ β B w d x (tmps.getD d undef)):FR γ β B (U.set d x) tmps w:=by
 refine⟨by simp[hf.size],λs=>?_⟩;have hs:=hf.HR s;by_cases he:s=d
 .subst he;by_cases hl:s<U.length;.simpa[BG.at,List.getD,hl] using hx
  .simpa[BG.at,List.getD,hl] using hs
 .have h1:BG.at (U.set d x) s=U.at s:=by simp[BG.at,List.getD,Ao (λe=>he e.symm)]
  rw[h1];exact hs
def CX.put(hr:CX C γ0 w0 γ β U h a w){d:Option Nat}{x:D0}{v:Value}(hx:∀s,d=some s->K8 γ β w0.heap.size w s x v):CX C γ0 w0 γ β (U.put d x) h (a.put d v) w:=by
 cases d with
 |none=>exact hr
 |some d=>exact⟨hr.DG,hr.fr.put (hx d rfl),hr.DA,hr.defers,hr.GC⟩
def CX.fJ(hr:CX C γ0 w0 γ β U h a w){d:Nat}{x:D0}(hx:K8 γ β w0.heap.size w d x (a.tmps.getD d undef)):CX C γ0 w0 γ β (U.set d x) h a w:=
 ⟨hr.DG,hr.fr.fJ hx,hr.DA,hr.defers,hr.GC⟩
def CX.drop(hr:CX C γ0 w0 γ β U h a w)(ds:List Nat):CX C γ0 w0 γ β (U.drop ds) h a w:=by
 cases ds with
 |nil=>exact hr
 |cons d ds=>
  refine⟨hr.DG,⟨by simp[BG.drop,hr.fr.size],λs=>?_⟩,hr.DA,hr.defers,hr.GC⟩;have hs:=hr.fr.HR s;have e:(BG.drop U (d::ds)).at s=match U.at s with| .EU t o=>if(d::ds).contains t then .undef else .EU t o|x=>x:=by
   simp only[BG.drop,BG.at,List.getD,Cd];cases hg:U[s]? with
   |none=>rfl
   |some x=>cases x<;>rfl
  rw[e];cases hx:U.at s with
  |EU t o=>
   rw[hx] at hs;simp only
   split;.trivial
   .exact hs
  |_=>rw[hx] at hs;exact hs
def CX.IA(hr:CX C γ0 w0 γ β U h a w){γ':Gh}{h':Ai}{w':World}(hi:Hj γ' h' w')(ha:Lx γ w γ' w'):CX C γ0 w0 γ' β U h' a w':=
 ⟨hi,hr.fr.kept (zD.Œ hr.DG ha),hr.DA.trans ha,hr.defers,λg cs hg=>CQ.mono ha.le _ _ _ (hr.GC g cs hg)⟩
def IL{P:Program}{o:Oper}{v:Value}{w':World}{next:Act->World->Prop}{Q:Exit->Act->World->Prop}(he:(execOp a.eval o).run P w= .ok (.value v) w')(hn:next (a.put o.dst v) w'):o.wp P a w next Q:=by unfold Oper.wp;rw[he];exact hn
def mE{P:Program}{o:Oper}{w':World}{next:Act->World->Prop}{Q:Exit->Act->World->Prop}(he:(execOp a.eval o).run P w= .ok .skip w')(hn:next (a.put o.dst undef) w'):o.wp P a w next Q:=by unfold Oper.wp;rw[he];exact hn
end
end Go.Am
end
section
namespace Go.Am
def Gh.Fp(γ:Gh)(g:Nat)(x:J3):Gh:={γ with BK:=λb=>if b=g then some x else γ.BK b}
section
variable{C:Fv}{γ0 γ:Gh}{w0 w:World}{β:Nat->Nat}{U:BG}{h:Ai}{a:Act}
def Hb(γ:Gh)(g:Nat)(x:J3):γ.le (γ.Fp g x):=⟨λ_ _ _ h=>h,λ_ _ h=>h,λ_ _ h=>h⟩
def Hj.Fp(hi:Hj γ h w){g s s' st:Nat}{c c':Option Nat}(hg:γ.BK g=some (.tail s c st)):Hj (γ.Fp g (.tail s' c' st)) h w:=by
 refine⟨λb o v hb=>?_,λid y HV hy=>?_,λid cs hc b hb=>?_,λid es hc b hb=>?_,hi.mu,λb x hx=>?_,λb n hb=>?_⟩;rotate_left 5
 .obtain⟨p,r⟩:=hi.sz b n hb;have:b≠g:=λhe=>by subst he;rw[hg] at r;rcases r with r|⟨_,r⟩<;>cases r
  exact⟨p,by simp only[Gh.Fp,Ad this];exact r⟩
 .obtain⟨p,q,r⟩:=hi.HU b o v hb;refine⟨p,q,?_⟩;by_cases he:b=g
  .subst he;rw[hg] at r;rcases r with r|⟨_,_,_,r,hl⟩
   .cases r
   .cases r;exact .inr ⟨s',c',st,by simp[Gh.Fp],hl⟩
  .simpa only[Gh.Fp,Ad he] using r
 .obtain⟨b,p,q⟩:=hi.Md id y HV hy;have:b≠g:=λhe=>by subst he;rw[hg] at q;cases q
  exact⟨b,p,by simp only[Gh.Fp,Ad this];exact q⟩
 .obtain⟨us,e,fr,p,pf,q,r⟩:=hi.cells id cs hc b hb;exact⟨us,e,fr,p,pf,AW.mono (Hb γ g _) _ _ q,r⟩
 .obtain⟨us,e,p,q⟩:=hi.map id es hc b hb;exact⟨us,e,p,q.mono (Hb γ g _)⟩
 .by_cases he:b=g;.subst he;exact hi.BK b _ hg
  .simp only[Gh.Fp,Ad he] at hx;exact hi.BK b x hx
def IE.Fp{B:Nat}{s b st:Nat}{c f:Option Nat}{v:Value}{u:Aa}{x:J3}{g:Nat}(hg:γ.BK g=some (.tail s c st))(ho:IE γ B w b f v u)(hne:b≠s\/f≠c):IE (γ.Fp g x) B w b f v u:=by
 rcases ho with ho|⟨g2,n,cap,us,e,z,Aw,h1,h2,d,i⟩
 .exact .inl ho
 .have:g2≠g:=λhe=>by subst he;rw[hg] at d;cases d;rcases hne with hne|hne<;>exact hne rfl
  exact .inr ⟨g2,n,cap,us,e,z,Aw,h1,h2,by simp only[Gh.Fp,Ad this];exact d,i⟩
def FR.Fp{B:Nat}{tmps:Array Value}(hf:FR γ β B U tmps w){g s st:Nat}{c:Option Nat}{x:J3}(hg:γ.BK g=some (.tail s c st))
  (h1:c=none->∀v,U.at s≠ .BK v) (h2:∀o,c=some o->∀ver cs ow,U.at s= .box ver cs ow->o∉ow):FR (γ.Fp g x) β B U tmps w:=by
 refine⟨hf.size,λd=>?_⟩;have hs:=hf.HR d;cases hx:U.at d with
 |undef=>trivial
 |skip=>rw[hx] at hs;exact hs
 |val u=>rw[hx] at hs;exact BF.mono (Hb γ g x) _ _ hs
 |OD b=>rw[hx] at hs;exact hs
 |BK u=>
  rw[hx] at hs;refine⟨BF.mono (Hb γ g x) _ _ hs.1,hs.2.Fp hg ?_⟩;by_cases he:d=s
  .subst he;cases c with
   |none=>exact absurd hx (h1 rfl u)
   |some o=>exact .inr Ax
  .exact .inl he
 |box ver cs ow=>
  rw[hx] at hs;obtain⟨p1,p2,p,us,e,n,m,l,k⟩:=hs;have hb:β d≠g:=λhe=>by rw[he,hg] at p2;cases p2
  refine⟨p1,by simp only[Gh.Fp,Ad hb];exact p2,p,us,e,n,AW.mono (Hb γ g x) _ _ m,l,λo ho=>?_⟩;obtain⟨u,v,j,i,f⟩:=k o ho;refine⟨u,v,j,i,f.Fp hg ?_⟩;by_cases he:d=s
  .subst he;cases c with
   |none=>exact .inr Ax
   |some o'=>refine .inr λhe=>?_;cases he;exact h2 o rfl ver cs ow hx ho
  .exact .inl he
 |EU s' o=>rw[hx] at hs;exact hs
def CX.Fp(hr:CX C γ0 w0 γ β U h a w){g s st s':Nat}{c c':Option Nat}(hg:γ.BK g=some (.tail s c st))(hB:w0.heap.size<=g)
  (h1:c=none->∀v,U.at s≠ .BK v) (h2:∀o,c=some o->∀ver cs ow,U.at s= .box ver cs ow->o∉ow):CX C γ0 w0 (γ.Fp g (.tail s' c' st)) β U h a w:=by
 refine⟨hr.DG.Fp hg,hr.fr.Fp hg h1 h2,?_,hr.defers,λx cs hx=>CQ.mono (Hb γ g _) _ _ _ (hr.GC x cs hx)⟩;refine⟨hr.DA.le.trans (Hb γ g _),hr.DA.size,hr.DA.os,hr.DA.tape,hr.DA.output,λb hb hn=>?_⟩;.obtain⟨p,q⟩:=hr.DA.Nw b hb hn;exact⟨p,by simp only[Gh.Fp,Ad (Ab:b≠g)];exact q⟩
def BG.E2{s:Nat}{x:D0}(hs:s<U.length):BG.at (U.set s x) s=x:=by simp[BG.at,List.getD,hs]
def BG.FD{s t:Nat}{x:D0}(hs:s≠t):BG.at (U.set s x) t=U.at t:=by simp[BG.at,List.getD,Ao hs]
def BG.OT{s:Nat}(hs:U.at s≠ .undef):s<U.length:=by
 rcases Bi s U.length with h|h
 .exact h
 .exact absurd (by simp[BG.at,List.getD,C5 h]) hs
def CX.take(hr:CX C γ0 w0 γ β U h a w){s:Nat}{v:Aa}(hs:U.at s= .BK v)(s':Nat)(c':Option Nat):
  ∃γ',γ.le γ'/\CX C γ0 w0 γ' β (U.set s (.val v)) h a w/\BF γ' v (a.tmps.getD s undef)/\IE γ' w0.heap.size w s' c' (a.tmps.getD s undef) v:=by
 have h0:=hr.fr.HR s;rw[hs] at h0;obtain⟨hv,ho⟩:=h0;have Jq:CX C γ0 w0 γ β (U.set s (.val v)) h a w:=hr.fJ hv;have hl:s<U.length:=BG.OT (by rw[hs];simp);rcases ho with ho|⟨g,n,cap,us,e,z,Aw,h1,h2,d,b,c⟩
 .exact⟨γ,.refl _,Jq,hv,.inl ho⟩
 .refine⟨γ.Fp g (.tail s' c' (n*z)),Hb _ _ _,Jq.Fp d b (λ_ u=>?_) (λo ho=>by cases ho),BF.mono (Hb _ _ _) _ _ hv,.inr ⟨g,n,cap,us,e,z,Aw,h1,h2,by simp[Gh.Fp],b,c⟩⟩;rw[BG.E2 hl];simp
def aC{B s d:Nat}{sl b:D0}{v:Value}(hs:K8 γ β B w s sl v)(hc:H9 sl=some b):K8 γ β B w d b v:=by
 cases sl<;>simp[H9] at hc;.subst hc;exact hs
 .subst hc;exact hs
 .subst hc;exact hs.1
 .subst hc;exact hs
def Nz{ws:List (Nat×D0)}(h:∀p∈ws,∀cs ow,p.2≠ .box 0 cs ow):(Eg.pure ws).news=[]:=by
 simp only[Eg.news,List.filterMap_eq_nil_iff];rintro⟨s,x⟩ hp;have:=h _ hp;cases x with
 |box ver cs ow=>
  cases ver with
  |zero=>exact absurd rfl (this cs ow)
  |succ n=>rfl
 |_=>rfl
def RL{v:Value}{sl:D0}(hs:DL C U (.const v)=some sl):(∀B d,K8 γ β B w d sl v)/\∀ver cs ow,sl≠ .box ver cs ow:=by
 unfold DL at hs;split at hs;.rename_i JU;cases JU
 .rename_i JU;cases JU;cases hs;exact⟨λ_ _=>rfl,λ_ _ _ h=>by cases h⟩
 .rename_i JU;cases JU;cases hs;exact⟨λ_ _=>⟨rfl,.inl (.inl rfl)⟩,λ_ _ _ h=>by cases h⟩
 .rename_i JU;cases JU;cases hc:Ks v with
  |none=>rw[hc] at hs;cases hs
  |some u=>rw[hc] at hs;cases hs;exact⟨λ_ _=>E1 hc,λ_ _ _ h=>by cases h⟩
 .rename_i JU;cases JU
 .rename_i JU;cases JU
def GG{s:Nat}{sl:D0}(hs:DL C U (.tmp s)=some sl):U.at s=sl:=DE hs
def mF{x:Operand}{v:Aa}(hs:DL C U x=some (.BK v))(hn:∀c,x≠ .const c):∃s,x= .tmp s/\U.at s= .BK v:=by
 cases x with
 |tmp s=>exact⟨s,rfl,GG hs⟩
 |const c=>exact absurd rfl (hn c)
 |global g=>have eU:(C.GC g).map (λcs=>D0.val (Aa.BR cs))=some (.BK v):=hs;cases hc:C.GC g<;>rw[hc] at eU<;>cases eU
 |func f=>cases hs
def RM{x:Operand}{d:Nat}{take:Bool}{r:Eg}{run:IT->Ai->Option Jp}{e:BG}{h':Ai}(hm:J6 C U x d take=some r)(hd:r.M2 C run (U.drop r.news) h e h')
  (hr:CX C γ0 w0 γ β U h a w):∃γ',CX C γ0 w0 γ' β e h' (a.put (some d) (a.eval x)) w:=by
 unfold J6 at hm;split at hm;.rename_i s _ _ _ hs;cases hm;rw[Nz Ax] at hd;obtain⟨rfl,rfl⟩:=hd;refine⟨γ,hr.put (d:=some d) λt ht=>?_⟩;have h0:=RK hr s;rw[GG hs] at h0;exact h0.1
 .rename_i v sl hs;cases hm;obtain⟨p,q⟩:=RL (γ:=γ) (β:=β) (w:=w) hs;rw[Nz (by simpa using λcs ow=>q 0 cs ow)] at hd;obtain⟨rfl,rfl⟩:=hd;exact⟨γ,hr.put (d:=some d) λt _=>p _ t⟩
 .rename_i v hnc hs;split at hm;.cases hm;obtain⟨s,rfl,č⟩:=mF hs (λc hc=>hnc c hc);rw[Nz (by simp[RD])] at hd;obtain⟨rfl,rfl⟩:=hd;obtain⟨γ',Ee,Hh,Gm,xa⟩:=hr.take č d none;exact⟨γ',Hh.put (d:=some d) λt ht=>by cases ht;exact⟨Gm,xa⟩⟩
  .simp only[H9,By] at hm;cases hm;rw[Nz Ax] at hd;obtain⟨rfl,rfl⟩:=hd;obtain⟨s,h1,_⟩:=FO hr hs;exact⟨γ,hr.put (d:=some d) λt ht=>h1.1⟩
 .rename_i sl _ _ _ hs;cases hc:H9 sl with
  |none=>rw[hc] at hm;cases hm
  |some b=>
   rw[hc] at hm;cases hm;have ji:∀cs ow,b≠ .box 0 cs ow:=by intro cs ow he;subst he;cases sl<;>simp[H9] at hc
   rw[Nz (by simpa using ji)] at hd;obtain⟨rfl,rfl⟩:=hd;obtain⟨s,h1,_⟩:=FO hr hs;exact⟨γ,hr.put (d:=some d) λt ht=>aC h1 hc⟩
 .cases hm
end
end Go.Am
end
section
namespace Go.Am
open Go
def VR{s:Sem Value}{v:Value}(h:PO s=some v):s= .pure v:=by cases s<;>simp[PO] at h;subst h;rfl
section
variable{P:Program}{γ:Gh}{w:World}
def fK{op:BinOp}{k l:IntKind}{x y:Int}{u:Aa}(t:TypeId)(c b:Operand)(h:qU op k x l y=some u):
  ∃v,(do eqGuard op t c b (.int k x) (.int l y);binOp op t (.int k x) (.int l y):Sem Value).run P w= .ok v w/\BF γ u v:=by
 unfold qU at h;cases hs:PO (binOp op 0 (.int k x) (.int l y)) with
 |none=>rw[hs] at h;cases h
 |some v=>
  rw[hs] at h;have f:=VR hs;have e:binOp op t (.int k x) (.int l y)= .pure v:=by rw[<-f];cases op<;>rfl
  have d:eqGuard op t c b (.int k x) (.int l y)=pure ():=by cases op<;>rfl
  refine⟨v,by rw[d,e];rfl,?_⟩;simp only[Cm] at h;split at h<;>cases h<;>rfl
def aD(l:List UInt8):(ByteArray.mk ⟨l⟩).toList=l:=ByteArray.toList_mk l
def fL{op:BinOp}{x y:Ah}{u:Aa}(t:TypeId)(d c:Operand)(h:fF op x y=some u):
  ∃v,(do eqGuard op t d c (.string ⟨⟨x⟩⟩) (.string ⟨⟨y⟩⟩);binOp op t (.string ⟨⟨x⟩⟩) (.string ⟨⟨y⟩⟩):Sem Value).run P w= .ok v w/\BF γ u v:=by
 have e:eqGuard op t d c (.string ⟨⟨x⟩⟩) (.string ⟨⟨y⟩⟩)=pure ():=by cases op<;>rfl
 have b:binOp op t (.string ⟨⟨x⟩⟩) (.string ⟨⟨y⟩⟩)=Op.stringOp op ⟨⟨x⟩⟩ ⟨⟨y⟩⟩:=by cases op<;>rfl
 rw[e,b];unfold fF at h;cases op<;>simp only at h<;>first
  |cases h;done
  |(simp only[Op.stringOp,aD];cases h;exact⟨_,rfl,rfl⟩)
  | (split at h
     . rename_i Ee
       cases h
       have hc : ¬ ((((ByteArray.mk ⟨x⟩).size + (ByteArray.mk ⟨y⟩).size : Nat) : Int) > IntKind.i64.max) := by
         have f : (ByteArray.mk ⟨x⟩).size = x.length := rfl
         have b : (ByteArray.mk ⟨y⟩).size = y.length := rfl
         rw [f, b]
         have : IntKind.i64.max = 9223372036854775807 := AM
         rw [this]
         omega
       simp only [Op.stringOp, Ad hc]
       refine ⟨_, rfl, ?_⟩
       show Value.string _ = Value.string _
       first
         | (congr 1; done)
         | (congr 1; apply ByteArray.ext; simp)
     . cases h)
def mG{t:TypeId}(h:EW P t=some none):(isAgg t).run P w= .ok false w:=by
 unfold EW at h;split at h;.cases hs:BO P t<;>rw[hs] at h<;>cases h
 .cases hs:BO P t<;>rw[hs] at h<;>cases h
 .rename_i d h1 h2 hu;simp only[isAgg,Sem.run_bind,run_underlying hu,Result.andThen_ok];rfl
 .cases h
def QS{t:TypeId}{n:Nat}(h:EW P t=some (some n)):(isAgg t).run P w= .ok true w/\BO P t=some n:=by
 unfold EW at h;split at h
 .rename_i fs hu;cases hs:BO P t with
  |none=>rw[hs] at h;cases h
  |some m=>rw[hs] at h;cases h;exact⟨by simp[isAgg,run_underlying hu],rfl⟩
 .rename_i fs _ hu;cases hs:BO P t with
  |none=>rw[hs] at h;cases h
  |some m=>rw[hs] at h;cases h;exact⟨by simp[isAgg,run_underlying hu],rfl⟩
 .cases h
 .cases h
def Dp{t:TypeId}{n:Nat}(h:BO P t=some n):(sizeOf t).run P w= .ok n w:=by
 unfold BO at h;cases hi:P.info? t with
 |none=>rw[hi] at h;cases h
 |some i=>rw[hi] at h;cases h;simp[sizeOf,typeInfo,hi]
def fM{t:TypeId}{sh:Option Nat}{cs:List Aa}{us:Array Value}{off:Nat}{u:Aa}(lP:EW P t=some sh)(hr:AW γ cs us.toList)(h1:∀v∈us.toList,v.oneCell'=true)
  (hp:E0 cs off sh=some u):∃v,(part t us off).run P w= .ok v w/\BF γ u v:=by
 cases sh with
 |none=>
  replace hp:cs[off]?=some u:=hp;obtain⟨v,hv,hrel⟩:=hr.get hp;refine⟨v,?_,hrel⟩;have Gm:us[off]?=some v:=by simpa using hv
  simp[part,mG lP,Gm]
 |some n=>
  obtain⟨ha,hs⟩:=QS (w:=w) lP;replace hp:(if off+n<=cs.length then some (Aa.agg ((cs.drop off).take n)) else none)=some u:=hp;split at hp
  .cases hp;refine⟨.agg (us.extract off (off+n)),by simp[part,ha,Dp hs],us.extract off (off+n),rfl,?_,?_⟩;.have:=(hr.drop off).take n;simpa[Np,Hs] using this
   .intro v hv;refine h1 v ?_;rw[Np,Hs] at hv;exact Bu (A0 hv)
  .cases hp
end
end Go.Am
end
section
namespace Go.Am
open Go
def jj{x y:Aa}{b:Bool}(h:LG .b x y=some b):∃p q,x= .bool p/\y= .bool q/\(p==q)=b:=by unfold LG at h;split at h<;>first|cases h;done|(rename_i he;cases he;done)|(cases h;exact⟨_,_,rfl,rfl,rfl⟩)
def jk{x y:Aa}{b:Bool}(h:LG .i x y=some b):∃k p q,x= .int k p/\y= .int k q/\(p==q)=b:=by
 unfold LG at h;split at h;.rename_i he;cases he
 .split at h;.rename_i hk;subst hk;cases h;exact⟨_,_,_,rfl,rfl,rfl⟩
  .cases h
 .rename_i he;cases he
 .cases h
def jl{x y:Aa}{b:Bool}(h:LG .s x y=some b):∃p q,x= .str p/\y= .str q/\(p==q)=b:=by
 unfold LG at h;split at h;.rename_i he;cases he
 .rename_i he;cases he
 .cases h;exact⟨_,_,rfl,rfl,rfl⟩
 .cases h
def OU:∀{ks ŕ:List FK} {xs ys:List Aa} {b:Bool},DO (ks++ŕ) xs ys=some b->
  ∃b1 b2,DO ks (xs.take ks.length) (ys.take ks.length)=some b1/\DO ŕ (xs.drop ks.length) (ys.drop ks.length)=some b2/\b=(b1&&b2)
 |[],ŕ,xs,ys,b,h=>⟨true,b,by simp[DO],by simpa using h,Ax⟩
 |k::ks,ŕ,[],ys,b,h=>by cases ys<;>simp[DO] at h
 |k::ks,ŕ,x::xs,[],b,h=>by simp[DO] at h
 |k::ks,ŕ,x::xs,y::ys,b,h=>by
  simp only[CJ,DO] at h;split at h;.rename_i e es h1 h2;cases h;obtain⟨b1,b2,p,q,r⟩:=OU h2;refine⟨e&&b1,b2,?_,by simpa using q,by rw[r,Bool.and_assoc]⟩;simp only[AJ,YH,DO,h1,p]
  .cases h
def OV:∀{ks:List FK} {xs ys:List Aa} {b:Bool},DO ks xs ys=some b->xs.length=ks.length/\ys.length=ks.length
 |[],xs,ys,b,h=>by cases xs<;>cases ys<;>simp[DO] at h⊢
 |k::ks,xs,ys,b,h=>by
  cases xs<;>cases ys<;>simp[DO] at h;split at h;.rename_i h1 h2;obtain⟨p,q⟩:=OV h2;simp[p,q]
  .cases h
section
variable{P:Program}{γ:Gh}{w:World}
def YT:∀{d:Nat} {t:TypeId} {ks:List FK},OQ P d t=some ks->BO P t=some ks.length
 |0,t,ks,h=>by cases h
 |d+1,t,ks,h=>by
  simp only[OQ] at h;split at h;.split at h<;>cases h;assumption
  .split at h<;>cases h;assumption
  .split at h<;>cases h;assumption
  .split at h
   .split at h;.rename_i hc;cases h;exact hc.1
    .cases h
   .cases h
  .cases h
def mH{ks:List FK}{k:FK}{t:TypeId}(h:(if BO P t=some 1 then some [k] else none)=some ks):ks=[k]:=by split at h<;>cases h;rfl
def Gi{t:TypeId}{us:Array Value}{off:Nat}{v:Value}{d:TypeDesc}(hu:P.underlying t=some d)(h1:∀fs,d≠ .struct fs)(h2:∀n e,d≠ .array n e)(hv:us[off]?=some v):
  (part t us off).run P w= .ok v w:=by
 have ha:(isAgg t).run P w= .ok false w:=by simp only[isAgg,Sem.run_bind,run_underlying hu,Result.andThen_ok];cases d<;>first|rfl|exact absurd rfl (h1 _)|exact absurd rfl (h2 _ _)
 simp[part,ha,hv]
def Jg{l:List Aa}{off:Nat}{x:Aa}(h:(l.drop off).take 1=[x]):l[off]?=some x:=by have:=B2 (·[0]?) h;simpa using this
def VS{k:FK}{xs ys:List Aa}{b:Bool}(h:DO [k] xs ys=some b):∃x y,xs=[x]/\ys=[y]/\LG k x y=some b:=by
 cases xs<;>cases ys<;>simp[DO] at h;rename_i x xs y ys;cases xs<;>cases ys<;>simp[DO] at h;all_goals first
  | (split at h
     . rename_i e es h1 h2; cases h2; cases h; exact ⟨x, y, rfl, rfl, by simpa using h1⟩
     . cases h)
  |(split at h<;>simp_all)
mutual
def fN:∀{d D:Nat},d<=D->∀{t:TypeId} {ks:List FK},OQ P d t=some ks->∀(us vs:Array Value) (cs ds:List Aa) (off:Nat) (b:Bool),AW γ cs us.toList->AW γ ds vs.toList->
  DO ks ((cs.drop off).take ks.length) ((ds.drop off).take ks.length)=some b->
  ∃x y,(part t us off).run P w= .ok x w/\(part t vs off).run P w= .ok y w/\(Op.equalIn D t x y).run P w= .ok b w
 |0,_,_,_,_,h=>by cases h
 |d+1,0,hd,_,_,_=>Ab
 |d+1,D+1,hd,t,ks,h=>by
  intro us vs cs ds off b hu hv he;have KW:=YT h;simp only[OQ] at h;split at h;.rename_i YU;have:=mH h;subst this;obtain⟨x,y,k,j,i⟩:=VS he;obtain⟨x',p1,p2⟩:=hu.get (Jg k);obtain⟨c,f,e⟩:=hv.get (Jg j);refine⟨x',c,Gi YU Ax Ax (by simpa using p1),Gi YU Ax Ax (by simpa using f),?_⟩;obtain⟨m,l,rfl,rfl,g⟩:=jj i;rw[p2,e,run_equalIn_bool' w D t _ _ YU,<-g]
  .rename_i kk YU;have:=mH h;subst this;obtain⟨x,y,k,j,i⟩:=VS he;obtain⟨x',p1,p2⟩:=hu.get (Jg k);obtain⟨c,f,e⟩:=hv.get (Jg j);refine⟨x',c,Gi YU Ax Ax (by simpa using p1),Gi YU Ax Ax (by simpa using f),?_⟩;obtain⟨n,m,l,rfl,rfl,g⟩:=jk i;rw[p2,e,run_equalIn_int w D t _ _ _ _ YU,<-g]
  .rename_i YU;have:=mH h;subst this;obtain⟨x,y,k,j,i⟩:=VS he;obtain⟨x',p1,p2⟩:=hu.get (Jg k);obtain⟨c,f,e⟩:=hv.get (Jg j);refine⟨x',c,Gi YU Ax Ax (by simpa using p1),Gi YU Ax Ax (by simpa using f),?_⟩;obtain⟨m,l,rfl,rfl,g⟩:=jl i;rw[p2,e,run_equalIn_string w D t _ _ YU,aD,aD,<-g]
  .rename_i fs YU;split at h
   .rename_i ŕ Jy;split at h
    .rename_i hc;cases h;have lP:EW P t=some (some ks.length):=by simp[EW,YU,KW]
     obtain⟨ha,hs⟩:=QS (w:=w) lP;refine⟨.agg (us.extract off (off+ks.length)),.agg (vs.extract off (off+ks.length)),by simp[part,ha,Dp hs],by simp[part,ha,Dp hs],?_⟩;have aIU:P.underlying t=some (.struct (P.fieldsOf t)):=by simp[Program.fieldsOf,YU]
     rw[run_equalIn_struct w D t _ _ aIU hc.2];have hf:(P.fieldsOf t).toList=fs.toList:=by simp[Program.fieldsOf,YU]
     rw[hf];have zG:AW γ ((cs.drop off).take ks.length) (us.extract off (off+ks.length)).toList:=by have:=(hu.drop off).take ks.length;simpa[Np,Hs] using this
     have Gm:AW γ ((ds.drop off).take ks.length) (vs.extract off (off+ks.length)).toList:=by have:=(hv.drop off).take ks.length;simpa[Np,Hs] using this
     refine YV (Nat.le_of_succ_le_succ hd) fs.toList Jy _ _ _ _ _ zG Gm ?_;simpa using he
    .cases h
   .cases h
  .cases h
def YV:∀{d D:Nat},d<=D->∀(fs:List Field) {off:Nat} {ks:List FK},VG (OQ P d) fs off=some ks->∀(us vs:Array Value) (cs ds:List Aa) (b:Bool),AW γ cs us.toList->AW γ ds vs.toList->
  DO ks (cs.drop off) (ds.drop off)=some b->(Op.eqFields D us vs fs).run P w= .ok b w
 |d,D,hd,[],off,ks,h=>by
  intro us vs cs ds b hu hv he;cases h;have:b=true:=by cases h1:cs.drop off<;>cases h2:ds.drop off<;>rw[h1,h2] at he<;>simp[DO] at he;exact he
  subst this;rfl
 |d,D,hd,f::fs,off,ks,h=>by
  intro us vs cs ds b hu hv he;simp only[VG] at h;split at h
  .rename_i hc;obtain⟨hn,aEq⟩:=hc;split at h
   .rename_i c xb;cases hr:VG (OQ P d) fs (off+c.length) with
    |none=>rw[hr] at h;cases h
    |some g=>
     rw[hr] at h;cases h;obtain⟨b1,b2,j,i,rfl⟩:=OU he;obtain⟨x,y,p1,p2,e⟩:=fN hd xb _ _ _ _ _ _ hu hv j;simp only[Op.eqFields,hn,Cy,AV,BE,aEq,Sem.run_bind,p1,p2,e,Result.andThen_ok];cases b1;.rfl
     .simp only[Bool.not_true,Ck,DU,Z5];exact YV hd fs hr _ _ _ _ _ hu hv (by simpa[Es] using i)
   .cases h
  .cases h
end
def fO{op:BinOp}{t:TypeId}{d c:Operand}{neg:Bool}{ks:List FK}{a b:List Aa}{x y:Value}{u:Aa}(Qs:(op= .eql/\neg=false)\/(op= .neq/\neg=true))
  (hg:P.eqGuardType P.depth t=false) (hk:OQ P 20 t=some ks) (IK:∃fs,P.underlying t=some (.struct fs)) (hx:BF γ (.agg a) x) (hy:BF γ (.agg b) y) (h:(DO ks a b).map (λe=>Aa.bool (e != neg))=some u):
  ∃v,(do eqGuard op t d c x y;binOp op t x y:Sem Value).run P w= .ok v w/\BF γ u v:=by
 obtain⟨us,rfl,hu,_⟩:=hx;obtain⟨vs,rfl,hv,_⟩:=hy;cases he:DO ks a b with
 |none=>rw[he] at h;cases h
 |some e=>
  rw[he] at h;cases h;obtain⟨l1,k⟩:=OV he;obtain⟨x',g,p1,p2,f⟩:=fN (w:=w) (P:=P) (γ:=γ) (D:=10000) (Ab:20<=10000) hk us vs a b 0 e hu hv (by rw[L8,L8,A8 (L9 l1),A8 (L9 k)];exact he);obtain⟨fs,Jy⟩:=IK;have lP:EW P t=some (some ks.length):=by simp[EW,Jy,YT hk]
  obtain⟨ha,hs⟩:=QS (w:=w) lP;have m:us.extract 0 ks.length=us:=by
   have:us.size=ks.length:=by have:=hu.length;simp at this;omega
   rw[<-this];simp
  have l:vs.extract 0 ks.length=vs:=by
   have:vs.size=ks.length:=by have:=hv.length;simp at this;omega
   rw[<-this];simp
  have j:x'= .agg us:=by simp[part,ha,Dp hs,m] at p1;exact p1.symm
  have i:g= .agg vs:=by simp[part,ha,Dp hs,l] at p2;exact p2.symm
  subst j;subst i;rcases Qs with⟨rfl,rfl⟩|⟨rfl,rfl⟩
  .refine⟨.bool e,by simp[run_eqGuard_agg (P:=P) w .eql t d c us vs hg,run_eql_struct,f],?_⟩;show Value.bool e=Value.bool _;cases e<;>rfl
  .refine⟨.bool (!e),by simp[run_eqGuard_agg (P:=P) w .neq t d c us vs hg,run_neq_struct,f],?_⟩;show Value.bool _=Value.bool _;cases e<;>rfl
end
end Go.Am
end
