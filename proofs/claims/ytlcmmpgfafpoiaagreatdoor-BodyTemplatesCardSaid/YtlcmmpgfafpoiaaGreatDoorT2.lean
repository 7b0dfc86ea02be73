/- Lemmas -/
import Derived.Test.YtlcmmpgfafpoiaaGreatDoorT1
import Derived.Orders
import Derived.Laws.AppendOwn
import Derived.Laws.StructEq
set_option linter.all false
section
namespace Go.Am
inductive KM where
 |Mm (id:Nat)
 |loc (s:Nat)
 |tail (s:Nat) (c:Option Nat) (start:Nat)
def KM.pq:KM->Bool
 | .Mm _=>true
 |_=>false
structure Gh where
 It:Nat->Nat->Option Value
 mu:Nat->Option Nat
 Bt:Nat->Option KM
 sz:Nat->Option Nat
mutual
def BR(γ:Gh):Aa->Value->Prop
 | .bool b,v=>v= .bool b
 | .int k n,v=>v= .int k n
 | .str s,v=>v= .string ⟨⟨s⟩⟩
 | .ptr none,v=>v= .pointer none
 | .ptr (some (id,o)),v=>∃b,γ.mu id=some b/\v= .pointer (some ⟨b,o,none⟩)
 | .CJ cs,v=>∃b o,v= .pointer (some ⟨b,o,none⟩)/\C6 γ cs b o
 | .sl z AD,v=>∃d cap,v= .slice (some d) AD.length cap/\AD.length<=cap/\(d.spot=none\/cap=0)/\E9 γ AD z d.block d.off
 | .slnil,v=>v= .slice none 0 0
 | .E4 _,v=>∃b,v= .slice (some ⟨b,0,none⟩) 0 0
 | .Cs id off len z,v=>∃b cap,γ.mu id=some b/\v= .slice (some ⟨b,off,none⟩) len cap/\len<=cap/\(0<z/\cap<=maxLen)/\γ.sz b=some (off+cap*z)
 | .map none,v=>v= .map none
 | .map (some id),v=>∃b,γ.mu id=some b/\v= .map (some b)
 | .func fn f c,v=>∃fs cs,v= .func fn fs cs/\Bj γ f fs.toList/\Bj γ c cs.toList
 | .nilFunc,v=>v= .nilFunc
 | .iface t a,v=>∃u,v= .iface t u/\BR γ a u
 | .nilIface,v=>v= .nilIface
 | .agg cs,v=>∃us,v= .agg us/\Bj γ cs us.toList/\∀u∈us.toList,u.oneCell'=true
 | .tuple vs,v=>∃us,v= .tuple us/\Bj γ vs us.toList
def Bj(γ:Gh):List Aa->List Value->Prop
 |[],us=>us=[]
 |a::l,us=>∃u DR,us=u::DR/\BR γ a u/\Bj γ l DR
def C6(γ:Gh):List Aa->Nat->Nat->Prop
 |[],_,_=>True
 |a::l,b,o=>(∃u,γ.It b o=some u/\BR γ a u)/\C6 γ l b (o+1)
def E9(γ:Gh):List (List Aa)->Nat->Nat->Nat->Prop
 |[],_,_,_=>True
 |r::rs,z,b,o=>r.length=z/\C6 γ r b o/\E9 γ rs z b (o+z)
end
structure Gh.le(γ γ':Gh):Prop where
 It:∀b o v,γ.It b o=some v->γ'.It b o=some v
 mu:∀id b,γ.mu id=some b->γ'.mu id=some b
 sz:∀b n,γ.sz b=some n->γ'.sz b=some n
def Gh.le.refl(γ:Gh):γ.le γ:=⟨λ_ _ _ h=>h,λ_ _ h=>h,λ_ _ h=>h⟩
def Gh.le.trans{a b c:Gh}(h:a.le b)(k:b.le c):a.le c:=⟨λ_ _ _ x=>k.It _ _ _ (h.It _ _ _ x),λ_ _ x=>k.mu _ _ (h.mu _ _ x),λ_ _ x=>k.sz _ _ (h.sz _ _ x)⟩
mutual
def BR.mono{γ γ':Gh}(Eo:γ.le γ'):∀(a:Aa) (v:Value),BR γ a v->BR γ' a v
 | .bool b,v,h=>h
 | .int k n,v,h=>h
 | .str s,v,h=>h
 | .ptr none,v,h=>h
 | .ptr (some (id,o)),v,h=>by obtain⟨b,hb,hv⟩:=h;exact⟨b,Eo.mu _ _ hb,hv⟩
 | .CJ cs,v,h=>by obtain⟨b,o,hv,hm⟩:=h;exact⟨b,o,hv,C6.mono Eo cs b o hm⟩
 | .sl z AD,v,h=>by obtain⟨d,cap,hv,hc,hs,hm⟩:=h;exact⟨d,cap,hv,hc,hs,E9.mono Eo AD z _ _ hm⟩
 | .slnil,v,h=>h
 | .E4 _,v,h=>h
 | .Cs id off len z,v,h=>by obtain⟨b,cap,hb,hv,hc,hz,hs⟩:=h;exact⟨b,cap,Eo.mu _ _ hb,hv,hc,hz,Eo.sz _ _ hs⟩
 | .map none,v,h=>h
 | .map (some id),v,h=>by obtain⟨b,hb,hv⟩:=h;exact⟨b,Eo.mu _ _ hb,hv⟩
 | .func fn f c,v,h=>by obtain⟨fs,cs,hv,h1,h2⟩:=h;exact⟨fs,cs,hv,Bj.mono Eo f _ h1,Bj.mono Eo c _ h2⟩
 | .nilFunc,v,h=>h
 | .iface t a,v,h=>by obtain⟨u,hv,h1⟩:=h;exact⟨u,hv,BR.mono Eo a u h1⟩
 | .nilIface,v,h=>h
 | .agg cs,v,h=>by obtain⟨us,hv,h1,h2⟩:=h;exact⟨us,hv,Bj.mono Eo cs _ h1,h2⟩
 | .tuple vs,v,h=>by obtain⟨us,hv,h1⟩:=h;exact⟨us,hv,Bj.mono Eo vs _ h1⟩
def Bj.mono{γ γ':Gh}(Eo:γ.le γ'):∀(l:List Aa) (us:List Value),Bj γ l us->Bj γ' l us
 |[],us,h=>h
 |a::l,us,h=>by obtain⟨u,DR,hu,h1,h2⟩:=h;exact⟨u,DR,hu,BR.mono Eo a u h1,Bj.mono Eo l DR h2⟩
def C6.mono{γ γ':Gh}(Eo:γ.le γ'):∀(l:List Aa) (b o:Nat),C6 γ l b o->C6 γ' l b o
 |[],_,_,_=>trivial
 |a::l,b,o,h=>by obtain⟨⟨u,hu,h1⟩,h2⟩:=h;exact⟨⟨u,Eo.It _ _ _ hu,BR.mono Eo a u h1⟩,C6.mono Eo l b (o+1) h2⟩
def E9.mono{γ γ':Gh}(Eo:γ.le γ'):∀(rs:List (List Aa)) (z b o:Nat),E9 γ rs z b o->E9 γ' rs z b o
 |[],_,_,_,_=>trivial
 |r::rs,z,b,o,h=>⟨h.1,C6.mono Eo r b o h.2.1,E9.mono Eo rs z b (o+z) h.2.2⟩
end
def Bj.length{γ:Gh}:∀{l:List Aa} {us:List Value},Bj γ l us->us.length=l.length
 |[],us,h=>by rw[Bj] at h;subst h;rfl
 |a::l,us,h=>by rw[Bj] at h;obtain⟨u,DR,rfl,_,h2⟩:=h;simp[h2.length]
def Bj.get{γ:Gh}:∀{l:List Aa} {us:List Value},Bj γ l us->∀{i:Nat} {a:Aa},l[i]?=some a->∃u,us[i]?=some u/\BR γ a u
 |[],us,h,i,a,hi=>by simp at hi
 |x::l,us,h,i,a,hi=>by
  rw[Bj] at h;obtain⟨u,DR,rfl,h1,h2⟩:=h;cases i with
  |zero=>simp at hi;subst hi;exact⟨u,rfl,h1⟩
  |succ i=>simp at hi;obtain⟨v,hv,hr⟩:=h2.get hi;exact⟨v,by simpa using hv,hr⟩
def Bj.Hd{γ:Gh}:∀{l:List Aa} {us:List Value},us.length=l.length->(∀(i:Nat) (a:Aa) (u:Value),l[i]?=some a->us[i]?=some u->BR γ a u)->Bj γ l us
 |[],us,hl,_=>by rw[Bj];exact Dw hl
 |x::l,[],hl,_=>by simp at hl
 |x::l,u::us,hl,h=>by rw[Bj];exact⟨u,us,rfl,h 0 x u rfl rfl,Bj.Hd (by simpa using hl) λi a v hi hv=>h (i+1) a v (by simpa using hi) (by simpa using hv)⟩
def Bj.append{γ:Gh}:∀{l l':List Aa} {us DR:List Value},Bj γ l us->Bj γ l' DR->Bj γ (l++l') (us++DR)
 |[],l',us,DR,h,h'=>by rw[Bj] at h;subst h;simpa using h'
 |a::l,l',us,DR,h,h'=>by rw[Bj] at h;obtain⟨u,r,rfl,h1,h2⟩:=h;rw[CO,Bj];exact⟨u,r++DR,rfl,h1,h2.append h'⟩
def Bj.take{γ:Gh}{l:List Aa}{us:List Value}(h:Bj γ l us)(n:Nat):Bj γ (l.take n) (us.take n):=by
 refine Bj.Hd (by simp[h.length]) λi a u hi hu=>?_;rw[Cg] at hi hu;split at hi;.rename_i hlt;rw[Af hlt] at hu;obtain⟨v,hv,hr⟩:=h.get hi;rw[hu] at hv;cases hv;exact hr
 .cases hi
def Bj.drop{γ:Gh}{l:List Aa}{us:List Value}(h:Bj γ l us)(n:Nat):Bj γ (l.drop n) (us.drop n):=by refine Bj.Hd (by simp[h.length]) λi a u hi hu=>?_;rw[Cr] at hi hu;obtain⟨v,hv,hr⟩:=h.get hi;rw[hu] at hv;cases hv;exact hr
def C6.get{γ:Gh}:∀{l:List Aa} {b o:Nat},C6 γ l b o->∀{i:Nat} {a:Aa},l[i]?=some a->∃u,γ.It b (o+i)=some u/\BR γ a u
 |[],b,o,h,i,a,hi=>by simp at hi
 |x::l,b,o,h,i,a,hi=>by
  rw[C6] at h;obtain⟨⟨u,hu,h1⟩,h2⟩:=h;cases i with
  |zero=>simp at hi;subst hi;exact⟨u,hu,h1⟩
  |succ i=>simp at hi;obtain⟨v,hv,hr⟩:=h2.get hi;exact⟨v,by rw[<-hv];congr 1;omega,hr⟩
def C6.Hd{γ:Gh}:∀{l:List Aa} {b o:Nat},(∀(i:Nat) (a:Aa),l[i]?=some a->∃u,γ.It b (o+i)=some u/\BR γ a u)->C6 γ l b o
 |[],b,o,h=>by rw[C6];trivial
 |x::l,b,o,h=>by rw[C6];refine⟨h 0 x rfl,C6.Hd λi a hi=>?_⟩;obtain⟨u,hu,hr⟩:=h (i+1) a (by simpa using hi);exact⟨u,by rw[<-hu];congr 1;omega,hr⟩
def C6.drop{γ:Gh}{l:List Aa}{b o:Nat}(h:C6 γ l b o)(n:Nat):C6 γ (l.drop n) b (o+n):=by refine C6.Hd λi a hi=>?_;rw[Cr] at hi;obtain⟨u,hu,hr⟩:=h.get hi;exact⟨u,by rw[<-hu];congr 1;omega,hr⟩
def C6.values{γ:Gh}:∀{l:List Aa} {b o:Nat},C6 γ l b o->∃us:List Value,Bj γ l us/\∀(j:Nat) (u:Value),us[j]?=some u->γ.It b (o+j)=some u
 |[],b,o,h=>⟨[],by rw[Bj],AH⟩
 |x::l,b,o,h=>by
  rw[C6] at h;obtain⟨⟨u,hu,h1⟩,h2⟩:=h;obtain⟨us,hr,hi⟩:=h2.values;refine⟨u::us,by rw[Bj];exact⟨u,us,rfl,h1,hr⟩,λj v hj=>?_⟩;cases j with
  |zero=>simp at hj;subst hj;exact hu
  |succ j=>simp at hj;rw[<-hi j v hj];congr 1;omega
def E9.get{γ:Gh}:∀{rs:List (List Aa)} {z b o:Nat},E9 γ rs z b o->∀{i:Nat} {r:List Aa},rs[i]?=some r->r.length=z/\C6 γ r b (o+i*z)
 |[],z,b,o,h,i,r,hi=>by simp at hi
 |x::rs,z,b,o,h,i,r,hi=>by
  rw[E9] at h;cases i with
  |zero=>simp at hi;subst hi;simpa using⟨h.1,h.2.1⟩
  |succ i=>simp at hi;obtain⟨h1,h2⟩:=h.2.2.get hi;exact⟨h1,by rw[show o+(i+1)*z=o+z+i*z by rw[BJ,Ea];omega];exact h2⟩
def E9.Hd{γ:Gh}:∀{rs:List (List Aa)} {z b o:Nat},(∀(i:Nat) (r:List Aa),rs[i]?=some r->r.length=z/\C6 γ r b (o+i*z))->E9 γ rs z b o
 |[],z,b,o,h=>by rw[E9];trivial
 |x::rs,z,b,o,h=>by rw[E9];have h0:=h 0 x rfl;refine⟨h0.1,by simpa using h0.2,E9.Hd λi r hi=>?_⟩;obtain⟨h1,h2⟩:=h (i+1) r (by simpa using hi);exact⟨h1,by rw[show o+z+i*z=o+(i+1)*z by rw[BJ,Ea];omega];exact h2⟩
def E9.length{γ:Gh}:∀{rs:List (List Aa)} {z b o:Nat},E9 γ rs z b o->rs.flatten.length=rs.length*z
 |[],z,b,o,h=>AH
 |x::rs,z,b,o,h=>by rw[E9] at h;simp[h.1,h.2.2.length,BJ,Pe]
def Of{b:Addr}{n cap:Nat}(hs:b.spot=none\/cap=0)(hc:n<=cap)(hn:0<n):b=⟨b.block,b.off,none⟩:=by
 rcases hs with hs|hs
 .cases b;simp_all
 .omega
def E9.values{γ:Gh}:∀{rs:List (List Aa)} {z b o:Nat},E9 γ rs z b o->∃us:List Value,Bj γ rs.flatten us/\us.length=rs.length*z/\∀(j:Nat) (u:Value),us[j]?=some u->γ.It b (o+j)=some u
 |[],z,b,o,h=>⟨[],by simp[Bj],AH,AH⟩
 |x::rs,z,b,o,h=>by
  rw[E9] at h;obtain⟨us,h1,h2⟩:=h.2.1.values;obtain⟨vs,e,d,c⟩:=h.2.2.values;have hl:us.length=z:=by rw[h1.length,h.1]
  refine⟨us++vs,by simpa using h1.append e,by simp[hl,d,BJ,Pe],λj u hj=>?_⟩;rw[aJu] at hj;split at hj;.exact h2 j u hj
  .rename_i Ei;rw[<-c _ _ hj];congr 1
   omega
def IY(γ:Gh)(B:Nat)(w:World)(s:Nat)(c:Option Nat)(v:Value)(a:Aa):Prop:=
 (a= .slnil\/∃z,a= .E4 z)\/∃g n cap us e z AD,a= .sl z AD/\v= .slice (some ⟨g,0,none⟩) n cap/\γ.Bt g=some (.tail s c (n*z))/\B<=g/\
  w.heap[g]?=some (.cells us e (0,0))/\us.size=cap*z/\n<=cap/\cap<=maxLen/\0<z
def LM(γ:Gh)(β:Nat->Nat)(B:Nat)(w:World)(s:Nat):Et->Value->Prop
 | .undef,_=>True
 | .skip,v=>v=undef
 | .val a,v=>BR γ a v
 | .O5 b,v=>v= .bool b
 | .Bt a,v=>BR γ a v/\IY γ B w s none v a
 | .box _ cs ow,v=>v= .pointer (some ⟨β s,0,none⟩)/\γ.Bt (β s)=some (.loc s)/\B<=β s/\
  ∃us e,w.heap[β s]?=some (.cells us e (0,0))/\Bj γ cs us.toList/\(∀u∈us.toList,u.oneCell'=true)/\
   ∀o∈ow,∃u a,us[o]?=some u/\cs[o]?=some a/\IY γ B w s (some o) u a
 | .Fl s' o,v=>v= .pointer (some ⟨β s',o,none⟩)
structure FR(γ:Gh)(β:Nat->Nat)(B:Nat)(U:BV)(tmps:Array Value)(w:World):Prop where
 size:U.length=tmps.size
 Ip:∀s,LM γ β B w s (U.at s) (tmps.getD s undef)
def Lp(γ:Gh):List (Aa×Aa)->List MapEntry->Prop
 |[],es=>es=[]
 |(k,v)::l,es=>∃e Vp,es=e::Vp/\BR γ k e.key/\BR γ v e.val/\Lp γ l Vp
def pv(γ:Gh)(l:List (Aa×Aa))(es:Array MapEntry)(clock:Nat):Prop:=
 Lp γ l es.toList/\clock=es.size/\∀(i:Nat) (e:MapEntry),es[i]?=some e->e.born=i
def TG(fr:Nat×Nat)(n:Nat):Prop:=fr=(0,0)\/n<=fr.1
structure Hn(γ:Gh)(h:Ah)(w:World):Prop where
 It:∀b o v,γ.It b o=some v->w.cell? ⟨b,o,none⟩=some v/\v.oneCell'=true/\(γ.Bt b=none\/∃s c st,γ.Bt b=some (.tail s c st)/\o<st)
 Mm:∀id x,h[id]?=some x->x≠ .CF->∃b,γ.mu id=some b/\γ.Bt b=some (.Mm id)
 cells:∀id cs,h[id]?=some (.cells cs)->∀b,γ.mu id=some b->∃us e fr,w.heap[b]?=some (.cells us e fr)/\TG fr us.size/\Bj γ cs (us.toList.take cs.length)/\∀u∈us.toList.take cs.length,u.oneCell'=true
 map:∀id es,h[id]?=some (.map es)->∀b,γ.mu id=some b->∃DE clock,w.heap[b]?=some (.map DE clock)/\pv γ es DE clock
 mu:∀id b,γ.mu id=some b->id<h.length
 Bt:∀b x,γ.Bt b=some x->b<w.heap.size
 sz:∀b n,γ.sz b=some n->(∃us e fr,w.heap[b]?=some (.cells us e fr)/\us.size=n)/\(γ.Bt b=none\/∃id,γ.Bt b=some (.Mm id))
structure Lq(γ0:Gh)(w0:World)(γ:Gh)(w:World):Prop where
 le:γ0.le γ
 size:w0.heap.size<=w.heap.size
 os:w.os=w0.os
 tape:w.tape=w0.tape
 output:w.output=w0.output
 Og:∀b,b<w0.heap.size->(∀id,γ0.Bt b≠some (.Mm id))->w.heap[b]?=w0.heap[b]?/\γ.Bt b=γ0.Bt b
def Lq.refl(γ:Gh)(w:World):Lq γ w γ w:=⟨.refl _,Ag _,rfl,rfl,rfl,λ_ _ _=>⟨rfl,rfl⟩⟩
def Lq.trans{γ0 d c:Gh}{w0 w1 e:World}(h:Lq γ0 w0 d w1)(k:Lq d w1 c e):Lq γ0 w0 c e:=by refine⟨h.le.trans k.le,Br h.size k.size,k.os.trans h.os,k.tape.trans h.tape,k.output.trans h.output,λb hb hn=>?_⟩;.obtain⟨h1,h2⟩:=h.Og b hb hn;obtain⟨g,f⟩:=k.Og b (LU hb h.size) (λid=>by rw[h2];exact hn id);exact⟨g.trans h1,f.trans h2⟩
structure e_(γ:Gh)(w:World)(γ':Gh)(w':World):Prop where
 le:γ.le γ'
 Og:∀b x,γ.Bt b=some x->x.pq=false->γ'.Bt b=some x/\w'.heap[b]?=w.heap[b]?
def e_.aBO{γ γ':Gh}{h:Ah}{w w':World}(hi:Hn γ h w)(ha:Lq γ w γ' w'):e_ γ w γ' w':=by refine⟨ha.le,λb x hb hx=>?_⟩;obtain⟨h1,h2⟩:=ha.Og b (hi.Bt b x hb) (λid Ih=>by rw[hb] at Ih;cases Ih;simp[KM.pq] at hx);exact⟨h2.trans hb,h1⟩
def IY.kept{γ γ':Gh}{B:Nat}{w w':World}{s:Nat}{c:Option Nat}{v:Value}{a:Aa}(h:IY γ B w s c v a)(k:e_ γ w γ' w'):IY γ' B w' s c v a:=by
 rcases h with h|⟨g,n,cap,us,e,z,AD,h1,h2,l,j,i,f⟩
 .exact .inl h
 .obtain⟨d,b⟩:=k.Og g _ l rfl;exact .inr ⟨g,n,cap,us,e,z,AD,h1,h2,d,j,by rw[b];exact i,f⟩
def LM.kept{γ γ':Gh}{β:Nat->Nat}{B:Nat}{w w':World}{s:Nat}{x:Et}{v:Value}(h:LM γ β B w s x v)(k:e_ γ w γ' w'):LM γ' β B w' s x v:=by
 cases x with
 |undef=>trivial
 |skip=>exact h
 |val a=>exact BR.mono k.le a v h
 |O5 b=>exact h
 |Bt a=>exact⟨BR.mono k.le a v h.1,h.2.kept k⟩
 |box ver cs ow=>obtain⟨h1,h2,l,us,e,j,i,g,f⟩:=h;obtain⟨d,c⟩:=k.Og _ _ h2 rfl;exact⟨h1,d,l,us,e,by rw[c];exact j,Bj.mono k.le cs _ i,g,λo ho=>let⟨u,a,p,q,r⟩:=f o ho;⟨u,a,p,q,r.kept k⟩⟩
 |Fl s' o=>exact h
def FR.kept{γ γ':Gh}{β:Nat->Nat}{B:Nat}{U:BV}{tmps:Array Value}{w w':World}(h:FR γ β B U tmps w)(k:e_ γ w γ' w'):FR γ' β B U tmps w':=
 ⟨h.size,λs=>(h.Ip s).kept k⟩
end Go.Am
end
section
namespace Go.Am
def CV{w w':World}{b o:Nat}(h:w'.heap[b]?=w.heap[b]?):w'.cell? ⟨b,o,none⟩=w.cell? ⟨b,o,none⟩:=by simp[World.cell?,h]
def DT{w:World}{b o:Nat}{v:Value}(h:w.cell? ⟨b,o,none⟩=some v):b<w.heap.size:=by
 rcases AQ b w.heap.size with h'|h'
 .exact h'
 .simp[World.cell?,Array.getElem?_eq_none h'] at h
def Hn.aBP{γ:Gh}{h:Ah}{w:World}(hi:Hn γ h w){b o:Nat}{v:Value}(hb:γ.It b o=some v):b<w.heap.size:=DT (hi.It b o v hb).1
def Hn.same{γ:Gh}{h:Ah}{w w':World}(hi:Hn γ h w)(c:w'.heap=w.heap):Hn γ h w':=by
 refine⟨λb o v hb=>?_,hi.Mm,λid cs hc b hb=>?_,λid es hc b hb=>?_,hi.mu,λb x hx=>?_,λb n hb=>by rw[c];exact hi.sz b n hb⟩;.obtain⟨h1,h2,d⟩:=hi.It b o v hb;have e:=CV (w:=w) (w':=w') (b:=b) (o:=o) (by rw[c]);exact⟨e.trans h1,h2,d⟩
 .rw[c];exact hi.cells id cs hc b hb
 .rw[c];exact hi.map id es hc b hb
 .rw[c];exact hi.Bt b x hx
def Lq.same{γ:Gh}{w w':World}(b:w'.heap=w.heap)(h1:w'.os=w.os)(h2:w'.tape=w.tape)(c:w'.output=w.output):Lq γ w γ w':=
 ⟨.refl _,by rw[b];exact Ag _,h1,h2,c,λ_ _ _=>⟨by rw[b],rfl⟩⟩
def Lq.drew(γ:Gh)(w:World):Lq γ w γ w.drew:=Lq.same rfl rfl rfl rfl
def Gh.Dz(γ:Gh)(b:Nat)(us:Array Value)(k:Nat)(x:Option KM):Gh:=
 {It:=λb' o=>if b'=b then(if o<k then us[o]? else none) else γ.It b' o,mu:=γ.mu,Bt:=λb'=>if b'=b then x else γ.Bt b',sz:=γ.sz}
def Gh.B0(γ:Gh)(b id:Nat)(n:Option Nat):Gh:=
 {It:=γ.It,mu:=λi=>if i=id then some b else γ.mu i,Bt:=λb'=>if b'=b then some (.Mm id) else γ.Bt b',sz:=λb'=>if b'=b then n else γ.sz b'}
section
variable{γ:Gh}{h:Ah}{w:World}
def EL(w:World)(o:Obj){b:Nat}(hb:b<w.heap.size):(w.alloc o).heap[b]?=w.heap[b]?:=heap_alloc_old w o b hb
def Pr(hi:Hn γ h w)(us:Array Value)(e:TypeId)(fr:Nat×Nat)(k:Nat)(x:Option KM)(h1:∀o u,o<k->us[o]?=some u->u.oneCell'=true)
  (hx:x=none\/(∃s c,x=some (.tail s c k))\/(k=0/\∀id,x≠some (.Mm id))):
  Hn (γ.Dz w.heap.size us k x) h (w.alloc (.cells us e fr))/\Lq γ w (γ.Dz w.heap.size us k x) (w.alloc (.cells us e fr)):=by
 have FI:γ.Bt w.heap.size=none:=by
  cases hc:γ.Bt w.heap.size with
  |none=>rfl
  |some y=>exact absurd (hi.Bt _ y hc) (Dj _)
 have px:∀o,γ.It w.heap.size o=none:=λo=>by
  cases hc:γ.It w.heap.size o with
  |none=>rfl
  |some y=>exact absurd (hi.aBP hc) (Dj _)
 have Eo:γ.le (γ.Dz w.heap.size us k x):=⟨λb' o' v' DL=>by
  have:b'≠w.heap.size:=λhe=>by rw[he,px] at DL;cases DL
  simp only[Gh.Dz,Ad this];exact DL,λ_ _ hm=>hm,λ_ _ hm=>hm⟩
 constructor
 .refine⟨λb o v hb=>?_,λid y Ih hy=>?_,λid cs hc b hb=>?_,λid es hc b hb=>?_,hi.mu,λb y hy=>?_,λb n hb=>?_⟩;rotate_left 5;.obtain⟨⟨DR,d,fc,p,q⟩,r⟩:=hi.sz b n hb;have Oh:b≠w.heap.size:=Pf (by rw[A8] at p;exact p.1);exact⟨⟨DR,d,fc,by rw[EL _ _ (by rw[A8] at p;exact p.1)];exact p,q⟩,by simp only[Gh.Dz,Ad Oh];exact r⟩
  .by_cases Oh:b=w.heap.size
   .subst Oh;simp only[Gh.Dz,BI] at hb⊢;split at hb
    .rename_i hlt;refine⟨by rw[cell_of_row _ _ _ us e fr (heap_alloc_new w _)];exact hb,h1 o v hlt hb,?_⟩;rcases hx with hx|⟨s,c,hx⟩|⟨hx,_⟩
     .exact .inl hx
     .exact .inr ⟨s,c,k,hx,hlt⟩
     .omega
    .cases hb
   .simp only[Gh.Dz,Ad Oh] at hb⊢;obtain⟨p,q,r⟩:=hi.It b o v hb;exact⟨by rw[CV (EL w _ (DT p))];exact p,q,r⟩
  .obtain⟨b,p,q⟩:=hi.Mm id y Ih hy;refine⟨b,p,?_⟩;have:b≠w.heap.size:=λhe=>by rw[he,FI] at q;cases q
   simp only[Gh.Dz,Ad this];exact q
  .obtain⟨DR,d,fc,p,pf,q,r⟩:=hi.cells id cs hc b hb;exact⟨DR,d,fc,by rw[EL _ _ (by rw[A8] at p;exact p.1)];exact p,pf,Bj.mono Eo cs _ q,r⟩
  .obtain⟨DE,clock,p,q⟩:=hi.map id es hc b hb;refine⟨DE,clock,by rw[EL _ _ (by rw[A8] at p;exact p.1)];exact p,?_,q.2⟩;replace q:=q.1;clear hc p;revert q;generalize DE.toList=l;intro q;induction es generalizing l with
   |nil=>exact q
   |cons kv es ih=>obtain⟨kk,f⟩:=kv;obtain⟨en,Vp,hl,a1,a2,a3⟩:=q;exact⟨en,Vp,hl,BR.mono Eo _ _ a1,BR.mono Eo _ _ a2,ih Vp a3⟩
  .by_cases Oh:b=w.heap.size;.subst Oh;simp
   .simp only[Gh.Dz,Ad Oh] at hy;have:=hi.Bt b y hy;simp;omega
 .refine⟨Eo,AH,rfl,rfl,rfl,λb hb _=>⟨EL _ _ hb,?_⟩⟩;simp only[Gh.Dz,Ad (Pf hb)]
def Lp.mono{γ γ':Gh}(Eo:γ.le γ'):∀{es:List (Aa×Aa)} {l:List MapEntry},Lp γ es l->Lp γ' es l
 |[],l,q=>q
 |(kk,b)::es,l,q=>by obtain⟨en,Vp,hl,a1,a2,a3⟩:=q;exact⟨en,Vp,hl,BR.mono Eo _ _ a1,BR.mono Eo _ _ a2,a3.mono Eo⟩
def pv.mono{γ γ':Gh}(Eo:γ.le γ'){es:List (Aa×Aa)}{l:Array MapEntry}{c:Nat}(h:pv γ es l c):pv γ' es l c:=⟨h.1.mono Eo,h.2⟩
def GQ(hi:Hn γ h w)(o:Obj)(x:Du)(m:Option Nat)
  (hx:(∃cs us e fr,x= .cells cs/\o= .cells us e fr/\TG fr us.size/\Bj γ cs (us.toList.take cs.length)/\(∀u∈us.toList.take cs.length,u.oneCell'=true)/\m=some us.size)\/(x= .map []/\o= .map #[] 0/\m=none)):
  Hn (γ.B0 w.heap.size h.length m) (h++[x]) (w.alloc o)/\Lq γ w (γ.B0 w.heap.size h.length m) (w.alloc o):=by
 have FI:γ.Bt w.heap.size=none:=by
  cases hc:γ.Bt w.heap.size with
  |none=>rfl
  |some y=>exact absurd (hi.Bt _ y hc) (Dj _)
 have c:γ.mu h.length=none:=by
  cases hc:γ.mu h.length with
  |none=>rfl
  |some y=>exact absurd (hi.mu _ y hc) (Dj _)
 have Lb:γ.sz w.heap.size=none:=by
  cases hc:γ.sz w.heap.size with
  |none=>rfl
  |some y=>obtain⟨⟨_,_,_,p,_⟩,_⟩:=hi.sz _ y hc;rw[A8] at p;exact absurd p.1 (Dj _)
 have Eo:γ.le (γ.B0 w.heap.size h.length m):=⟨λ_ _ _ hv=>hv,λid b hm=>by
  have:id≠h.length:=λhe=>by rw[he,c] at hm;cases hm
  simp only[Gh.B0,Ad this];exact hm,λb n hm=>by
  have:b≠w.heap.size:=λhe=>by rw[he,Lb] at hm;cases hm
  simp only[Gh.B0,Ad this];exact hm⟩
 constructor
 .refine⟨λb o' v hb=>?_,λid y Ih hy=>?_,λid cs hc b hb=>?_,λid es hc b hb=>?_,λid b hb=>?_,λb y hy=>?_,λb n hb=>?_⟩;rotate_left 6
  .by_cases Oh:b=w.heap.size
   .subst Oh;simp only[Gh.B0,BI] at hb;rcases hx with⟨Ha,us,e,fr,rfl,rfl,pf,p,q,rfl⟩|⟨rfl,rfl,rfl⟩
    .cases hb;exact⟨⟨us,e,fr,heap_alloc_new w _,rfl⟩,.inr ⟨h.length,by simp[Gh.B0]⟩⟩
    .cases hb
   .simp only[Gh.B0,Ad Oh] at hb⊢;obtain⟨⟨DR,d,fc,p,q⟩,r⟩:=hi.sz b n hb;exact⟨⟨DR,d,fc,by rw[EL _ _ (by rw[A8] at p;exact p.1)];exact p,q⟩,r⟩
  .obtain⟨p,q,r⟩:=hi.It b o' v hb;have Oh:b≠w.heap.size:=Pf (DT p);exact⟨by rw[World.cell?_alloc_old _ _ _ Oh];exact p,q,by simp only[Gh.B0,Ad Oh];exact r⟩
  .by_cases he:id=h.length;.exact⟨w.heap.size,by simp[Gh.B0,he],by simp[Gh.B0,he]⟩
   .have Xc:id<h.length:=by rw[Al] at Ih;obtain⟨hl,_⟩:=Ih;simp at hl;omega
    rw[Ai Xc] at Ih;obtain⟨b,p,q⟩:=hi.Mm id y Ih hy;have Oh:b≠w.heap.size:=λhe=>by rw[he,FI] at q;cases q
    exact⟨b,by simp only[Gh.B0,Ad he];exact p,by simp only[Gh.B0,Ad Oh];exact q⟩
  .by_cases he:id=h.length
   .subst he;simp[Gh.B0] at hb;subst hb;simp at hc;rcases hx with⟨Ha,us,e,fr,rfl,rfl,pf,p,q,rfl⟩|⟨rfl,rfl,rfl⟩
    .cases hc;exact⟨us,e,fr,heap_alloc_new w _,pf,Bj.mono Eo _ _ p,q⟩
    .cases hc
   .simp only[Gh.B0,Ad he] at hb;have Xc:=hi.mu id b hb;rw[Ai Xc] at hc;obtain⟨DR,d,fc,p,pf,q,r⟩:=hi.cells id cs hc b hb;exact⟨DR,d,fc,by rw[EL _ _ (by rw[A8] at p;exact p.1)];exact p,pf,Bj.mono Eo _ _ q,r⟩
  .by_cases he:id=h.length
   .subst he;simp[Gh.B0] at hb;subst hb;simp at hc;rcases hx with⟨Ha,us,e,fr,rfl,rfl,pf,p,q,rfl⟩|⟨rfl,rfl,rfl⟩
    .cases hc
    .cases hc;exact⟨#[],0,heap_alloc_new w _,rfl,rfl,AH⟩
   .simp only[Gh.B0,Ad he] at hb;have Xc:=hi.mu id b hb;rw[Ai Xc] at hc;obtain⟨DE,clock,p,q⟩:=hi.map id es hc b hb;exact⟨DE,clock,by rw[EL _ _ (by rw[A8] at p;exact p.1)];exact p,q.mono Eo⟩
  .by_cases he:id=h.length;.simp[he]
   .simp only[Gh.B0,Ad he] at hb;have:=hi.mu id b hb;simp;omega
  .by_cases Oh:b=w.heap.size;.subst Oh;simp
   .simp only[Gh.B0,Ad Oh] at hy;have:=hi.Bt b y hy;simp;omega
 .refine⟨Eo,AH,rfl,rfl,rfl,λb hb _=>⟨EL _ _ hb,?_⟩⟩;simp only[Gh.B0,Ad (Pf hb)]
def fg(hi:Hn γ h w){g s:Nat}(hg:γ.Bt g=some (.loc s))(us:Array Value):Hn γ h (w.setRow g us):=by
 refine⟨λb o v hb=>?_,hi.Mm,λid cs hc b hb=>?_,λid es hc b hb=>?_,hi.mu,λb x hx=>?_,λb n hb=>?_⟩;rotate_left 4
 .obtain⟨p,r⟩:=hi.sz b n hb;have:b≠g:=λhe=>by subst he;rw[hg] at r;rcases r with r|⟨_,r⟩<;>cases r
  exact⟨by rw[setRow_other w g b us this];exact p,r⟩
 .obtain⟨p,q,r⟩:=hi.It b o v hb;have:b≠g:=λhe=>by subst he;rw[hg] at r;rcases r with r|⟨_,_,_,r,_⟩<;>cases r
  exact⟨by rw[CV (setRow_other w g b us this)];exact p,q,r⟩
 .have Qh:b≠g:=λhe=>by subst he;obtain⟨b',p,q⟩:=hi.Mm id _ hc AH;rw[hb] at p;cases p;rw[hg] at q;cases q
  rw[setRow_other w g b us Qh];exact hi.cells id cs hc b hb
 .have Qh:b≠g:=λhe=>by subst he;obtain⟨b',p,q⟩:=hi.Mm id _ hc AH;rw[hb] at p;cases p;rw[hg] at q;cases q
  rw[setRow_other w g b us Qh];exact hi.map id es hc b hb
 .have:=hi.Bt b x hx;simpa[World.setRow] using this
def Nz(hi:Hn γ h w){g id:Nat}{cs:List Aa}(hcs:h[id]?=some (.cells cs))(hg:γ.mu id=some g){us:Array Value}{e:TypeId}{fr:Nat×Nat}(hw:w.heap[g]?=some (.cells us e fr))(DR:Array Value)(Ha:List Aa)(Z4:DR.size=us.size)(wU:TG fr DR.size)
  (hr:Bj γ Ha (DR.toList.take Ha.length)) (h1:∀u∈DR.toList.take Ha.length,u.oneCell'=true):
  Hn γ (h.set id (.cells Ha)) (w.setRow g DR)/\Lq γ w γ (w.setRow g DR):=by
 obtain⟨f,p,Tu⟩:=hi.Mm id _ hcs AH;rw[hg] at p;cases p;have uniq:∀FT x,h[FT]?=some x->x≠ .CF->γ.mu FT=some g->FT=id:=λFT x hx c hm=>by obtain⟨b',p,q⟩:=hi.Mm FT x hx c;rw[hm] at p;cases p;rw[Tu] at q;cases q;rfl
 constructor
 .refine⟨λb o v hb=>?_,λFT y Ih hy=>?_,λFT cs hc b hb=>?_,λFT es hc b hb=>?_,λFT b hb=>by simpa using hi.mu FT b hb,λb x hx=>?_,λb n hb=>?_⟩;rotate_left 5
  .obtain⟨⟨qX,d,py,p,q⟩,r⟩:=hi.sz b n hb;by_cases he:b=g;.subst he;rw[hw] at p;cases p;exact⟨⟨DR,e,fr,setRow_heap w b us DR e fr hw,by rw[Z4];exact q⟩,r⟩
   .exact⟨⟨qX,d,py,by rw[setRow_other w g b DR he];exact p,q⟩,r⟩
  .obtain⟨p,q,r⟩:=hi.It b o v hb;have:b≠g:=λhe=>by subst he;rw[Tu] at r;rcases r with r|⟨_,_,_,r,_⟩<;>cases r
   exact⟨by rw[CV (setRow_other w g b DR this)];exact p,q,r⟩
  .by_cases he:FT=id;.subst he;exact⟨g,hg,Tu⟩
   .rw[Ap (λx=>he x.symm)] at Ih;exact hi.Mm FT y Ih hy
  .by_cases he:FT=id;.subst he;rw[hg] at hb;cases hb;rw[AO (hi.mu _ _ hg)] at hc;cases hc;exact⟨DR,e,fr,setRow_heap w g us DR e fr hw,wU,hr,h1⟩
   .rw[Ap (λx=>he x.symm)] at hc;have Qh:b≠g:=λhx=>by subst hx;exact he (uniq FT _ hc AH hb)
    rw[setRow_other w g b DR Qh];exact hi.cells FT cs hc b hb
  .by_cases he:FT=id;.subst he;rw[AO (hi.mu _ _ hg)] at hc;cases hc
   .rw[Ap (λx=>he x.symm)] at hc;have Qh:b≠g:=λhx=>by subst hx;exact he (uniq FT _ hc AH hb)
    rw[setRow_other w g b DR Qh];exact hi.map FT es hc b hb
  .have:=hi.Bt b x hx;simpa[World.setRow] using this
 .refine⟨.refl _,by simp[World.setRow],rfl,rfl,rfl,λb hb hn=>⟨?_,rfl⟩⟩;exact setRow_other w g b DR (λhe=>by subst he;exact hn id Tu)
def qY(hi:Hn γ h w){g s st:Nat}{c:Option Nat}(hg:γ.Bt g=some (.tail s c st)){us:Array Value}{e:TypeId}(hw:w.heap[g]?=some (.cells us e (0,0)))(DR:Array Value)(k:Nat)(s':Nat)(c':Option Nat)
  (NA:∀o,o<st->DR[o]?=us[o]?) (hk:st<=k) (h1:∀o u,o<k->DR[o]?=some u->u.oneCell'=true) (cR:∀o v,γ.It g o=some v->us[o]?=some v):
  Hn (γ.Dz g DR k (some (.tail s' c' k))) h (w.setRow g DR)/\γ.le (γ.Dz g DR k (some (.tail s' c' k))):=by
 have hlt:∀o v,γ.It g o=some v->o<st:=λo v ho=>by
  obtain⟨_,_,r⟩:=hi.It g o v ho;rw[hg] at r;rcases r with r|⟨_,_,_,r,hl⟩
  .cases r
  .cases r;exact hl
 have Eo:γ.le (γ.Dz g DR k (some (.tail s' c' k))):=⟨λb o v hb=>by
  by_cases he:b=g;.subst he;have:=hlt o v hb;simp only[Gh.Dz,BI,Af (LU this hk)];rw[NA o this];exact cR o v hb
  .simp only[Gh.Dz,Ad he];exact hb,λ_ _ hm=>hm,λ_ _ hm=>hm⟩
 refine⟨⟨λb o v hb=>?_,λid y Ih hy=>?_,λid cs hc b hb=>?_,λid es hc b hb=>?_,hi.mu,λb x hx=>?_,λb n hb=>?_⟩,Eo⟩;rotate_left 5
 .obtain⟨p,r⟩:=hi.sz b n hb;have:b≠g:=λhe=>by subst he;rw[hg] at r;rcases r with r|⟨_,r⟩<;>cases r
  exact⟨by rw[setRow_other w g b DR this];exact p,by simp only[Gh.Dz,Ad this];exact r⟩
 .by_cases he:b=g
  .subst he;simp only[Gh.Dz,BI] at hb⊢;split at hb
   .rename_i hl;exact⟨by rw[cell_of_row _ _ _ DR e (0,0) (setRow_heap w b us DR e (0,0) hw)];exact hb,
     h1 o v hl hb,.inr ⟨s',c',k,rfl,hl⟩⟩
   .cases hb
  .simp only[Gh.Dz,Ad he] at hb⊢;obtain⟨p,q,r⟩:=hi.It b o v hb;exact⟨by rw[CV (setRow_other w g b DR he)];exact p,q,r⟩
 .obtain⟨b,p,q⟩:=hi.Mm id y Ih hy;have:b≠g:=λhe=>by subst he;rw[hg] at q;cases q
  exact⟨b,p,by simp only[Gh.Dz,Ad this];exact q⟩
 .replace hb:γ.mu id=some b:=hb;obtain⟨b',p,q⟩:=hi.Mm id _ hc AH;rw[hb] at p;cases p;have:b≠g:=λhe=>by subst he;rw[hg] at q;cases q
  rw[setRow_other w g b DR this];obtain⟨qX,j,py,i,f,d,r2⟩:=hi.cells id cs hc b hb;exact⟨qX,j,py,i,f,Bj.mono Eo _ _ d,r2⟩
 .replace hb:γ.mu id=some b:=hb;obtain⟨b',p,q⟩:=hi.Mm id _ hc AH;rw[hb] at p;cases p;have:b≠g:=λhe=>by subst he;rw[hg] at q;cases q
  rw[setRow_other w g b DR this];obtain⟨DE,clock,i,d⟩:=hi.map id es hc b hb;exact⟨DE,clock,i,d.mono Eo⟩
 .by_cases he:b=g;.subst he;have:=hi.Bt b _ hg;simpa[World.setRow] using this
  .simp only[Gh.Dz,Ad he] at hx;have:=hi.Bt b x hx;simpa[World.setRow] using this
def Lq.write{γ0 c:Gh}{w0:World}(ha:Lq γ0 w0 γ w){w1:World}{g:Nat}(hg:w0.heap.size<=g)(Eo:γ.le c)(hs:w1.heap.size=w.heap.size)(h1:w1.os=w.os)(h2:w1.tape=w.tape)(e:w1.output=w.output)
  (hk:∀b,b≠g->w1.heap[b]?=w.heap[b]?/\c.Bt b=γ.Bt b):Lq γ0 w0 c w1:=by
 refine⟨ha.le.trans Eo,by rw[hs];exact ha.size,h1.trans ha.os,h2.trans ha.tape,e.trans ha.output,λb hb hn=>?_⟩;.obtain⟨p,q⟩:=ha.Og b hb hn;obtain⟨p',d⟩:=hk b Ab;exact⟨p'.trans p,d.trans q⟩
def pz(hi:Hn γ h w){g id:Nat}{cs:List Aa}(hcs:h[id]?=some (.cells cs))(hg:γ.mu id=some g){us:Array Value}{e:TypeId}{fr:Nat×Nat}(hw:w.heap[g]?=some (.cells us e fr))(h1:∀u∈us.toList.take cs.length,u.oneCell'=true):
  Hn (γ.Dz g us cs.length none) (h.set id .CF) w/\Lq γ w (γ.Dz g us cs.length none) w:=by
 obtain⟨f,p,Tu⟩:=hi.Mm id _ hcs AH;rw[hg] at p;cases p;have uniq:∀FT x,h[FT]?=some x->x≠ .CF->γ.mu FT=some g->FT=id:=λFT x hx c hm=>by obtain⟨b',p,q⟩:=hi.Mm FT x hx c;rw[hm] at p;cases p;rw[Tu] at q;cases q;rfl
 have hne:∀o v,γ.It g o=some v->False:=λo v hv=>by obtain⟨_,_,r⟩:=hi.It g o v hv;rw[Tu] at r;rcases r with r|⟨_,_,_,r,_⟩<;>cases r
 have Eo:γ.le (γ.Dz g us cs.length none):=⟨λb o v hb=>by
  have:b≠g:=λhe=>by subst he;exact hne o v hb
  simp only[Gh.Dz,Ad this];exact hb,λ_ _ hm=>hm,λ_ _ hm=>hm⟩
 constructor
 .refine⟨λb o v hb=>?_,λFT y Ih hy=>?_,λFT Ha hc b hb=>?_,λFT es hc b hb=>?_,λFT b hb=>by simpa using hi.mu FT b hb,λb x hx=>?_,λb n hb=>?_⟩;rotate_left 5
  .obtain⟨p,r⟩:=hi.sz b n hb;by_cases he:b=g;.subst he;exact⟨p,.inl (by simp[Gh.Dz])⟩
   .exact⟨p,by simp only[Gh.Dz,Ad he];exact r⟩
  .by_cases he:b=g
   .subst he;simp only[Gh.Dz,BI] at hb⊢;split at hb;.rename_i hlt;exact⟨by rw[cell_of_row _ _ _ us e fr hw];exact hb,h1 v (Cz (i:=o) (by rw[C1 hlt];simpa using hb)),.inl AH⟩
    .cases hb
   .simp only[Gh.Dz,Ad he] at hb⊢;exact hi.It b o v hb
  .by_cases he:FT=id;.subst he;rw[AO (hi.mu _ _ hg)] at Ih;cases Ih;exact absurd rfl hy
   .rw[Ap (λx=>he x.symm)] at Ih;obtain⟨b,p,q⟩:=hi.Mm FT y Ih hy;have:b≠g:=λhx=>by subst hx;exact he (uniq FT y Ih hy p)
    exact⟨b,p,by simp only[Gh.Dz,Ad this];exact q⟩
  .by_cases he:FT=id;.subst he;rw[AO (hi.mu _ _ hg)] at hc;cases hc
   .rw[Ap (λx=>he x.symm)] at hc;obtain⟨DR,d,fc,p,pf,q,r⟩:=hi.cells FT Ha hc b hb;exact⟨DR,d,fc,p,pf,Bj.mono Eo _ _ q,r⟩
  .by_cases he:FT=id;.subst he;rw[AO (hi.mu _ _ hg)] at hc;cases hc
   .rw[Ap (λx=>he x.symm)] at hc;obtain⟨DR,d,p,q⟩:=hi.map FT es hc b hb;exact⟨DR,d,p,q.mono Eo⟩
  .by_cases he:b=g;.subst he;exact hi.Bt b _ Tu
   .simp only[Gh.Dz,Ad he] at hx;exact hi.Bt b x hx
 .refine⟨Eo,Ag _,rfl,rfl,rfl,λb hb hn=>⟨rfl,?_⟩⟩;have:b≠g:=λhe=>by subst he;exact hn id Tu
  simp only[Gh.Dz,Ad this]
end
end Go.Am
end
section
namespace Go.Am
def EN.NB(C:F8)(run:IT->Ah->Option Ke)(U:BV)(h:Ah)(e:BV)(h':Ah):EN->Prop
 | .pure ws=>e=U.Em ws/\h'=h
 | .op p args dst Bt i=>∃v,AB p args=some v/\e=(U.DS i).put dst (if Bt then .Bt v else .val v)/\h'=h
 | .box n v d=>v.cells.length=n/\e=U.set d (.box 0 v.cells [])/\h'=h
 | .closure fn a b fz d=>e=(U.Em (fz.map λ(s,cs)=>(s,.val (.CJ cs)))).set d (.val (.func fn a b))/\h'=h
 | .Nf s off n v Bt i ver cells owned=>v.cells.length=n/\e=(U.DS i).set s (.box (ver+1) (WZ cells off n v.cells) (R5 owned off n Bt))/\h'=h
 | .load n p dst=>∃v,A7 h n p=some v/\e=U.put dst (.val v)/\h'=h
 | .store n p v=>Co h n p v=some h'/\e=U
 | .alloc n v dst=>v.cells.length=n/\h'=h++[.cells v.cells]/\e=U.put dst (.val (.ptr (some (h.length,0))))
 | .call f args dst=>∃r,run (B9 C f args) h=some (.ret,[r],h')/\e=U.put dst (if C.Jk f then .Bt r else .val r)
 | .Jc g args dst=>∃f args' r,DD g args=some (f,args')/\run (B9 C f args') h=some (.ret,[r],h')/\e=U.put dst (.val r)
 | .B7 f args dst=>args.all Aa.MQ=true/\∃r h1,run (B9 C f args) []=some (.ret,[r],h1)/\r.MQ=true/\e=U.put dst (.val r)/\h'=h
 | .Pm dst=>h'=h++[.map []]/\e=U.put dst (.val (.map (some h.length)))
 | .KE m k v=>Ur h m k v=some h'/\e=U
 | .make z b zero l c dst=>∃v,R2 h z b zero l c=some (h',v)/\e=U.put dst (.val v)
 | .Lm z b s x dst i=>∃v,Jj h z b s x=some (h',v)/\e=(U.DS i).put dst (.val v)
 | .JL z b s x dst=>∃v,Fw h z b s x=some (h',v)/\e=U.put dst (.val v)
 | .GD z b s x dst i=>∃v,QS h z b s x=some v/\e=(U.DS i).put dst (.Bt v)/\h'=h
 | .Ff s dst=>∃v,IV h s=some (h',v)/\e=U.put dst (.val v)
 | .WK s dst=>∃v u,Kd h s=some (h',v)/\AB .WK [v]=some u/\e=U.put dst (.val u)
 | .mem o args dst=>∃v,E7 o h args=some (h',v)/\e=U.put dst (if o.aFh then .undef else .val v)
 | .Mj z ok m k dst=>∃v,Us h z ok m k=some v/\e=U.put dst (.val v)/\h'=h
def TH{n:Nat}{cs:List Aa}(h:cs.length=n):WY n cs=cs:=by
 subst h;apply Rf;intro i;simp only[WY,Ck,List.getD];by_cases hi:i<cs.length;.simp[List.getElem?_range hi,Ak hi]
 .simp[hi]
def Z5{C:F8}{run:IT->Ah->Option Ke}{U:BV}{K:BV->IT}{h:Ah}{R:Ke}{r:EN}
  (hr:IT.step (B9 C) run (r.Ml C U K) h=some R):∃i h',r.NB C run U h i h'/\IT.step (B9 C) run (K i) h'=some R:=by
 cases r with
 |pure ws=>exact⟨_,_,⟨rfl,rfl⟩,hr⟩
 |op p args dst Bt e=>
  simp only[EN.Ml,IT.step] at hr;split at hr;.rename_i v hv;exact⟨_,_,⟨v,hv,rfl,rfl⟩,hr⟩
  .cases hr
 |box n v d=>
  simp only[EN.Ml,IT.step] at hr;split at hr;.rename_i hn;rw[TH hn] at hr;exact⟨_,_,⟨hn,rfl,rfl⟩,hr⟩
  .cases hr
 |closure fn a b fz d=>exact⟨_,_,⟨rfl,rfl⟩,hr⟩
 |Nf s off n v Bt e ver cells owned=>
  simp only[EN.Ml,IT.step] at hr;split at hr;.rename_i hn;rw[TH hn] at hr;exact⟨_,_,⟨hn,rfl,rfl⟩,hr⟩
  .cases hr
 |load n p dst=>
  simp only[EN.Ml,IT.step] at hr;split at hr;.rename_i v hv;exact⟨_,_,⟨v,hv,rfl,rfl⟩,hr⟩
  .cases hr
 |store n p v=>
  simp only[EN.Ml,IT.step] at hr;split at hr;.rename_i h1 hv;exact⟨_,_,⟨hv,rfl⟩,hr⟩
  .cases hr
 |alloc n v dst=>
  simp only[EN.Ml,IT.step,WN] at hr;by_cases hn:v.cells.length=n;.rw[Af hn] at hr;exact⟨_,_,⟨hn,rfl,rfl⟩,hr⟩
  .rw[Ad hn] at hr;cases hr
 |call f args dst=>
  simp only[EN.Ml,IT.step] at hr;split at hr;.rename_i r h1 hv;exact⟨_,_,⟨r,hv,rfl⟩,hr⟩
  .cases hr
 |Jc g args dst=>
  simp only[EN.Ml,IT.step] at hr;split at hr
  .rename_i f a' ht;split at hr;.rename_i r h1 hv;exact⟨_,_,⟨f,a',r,ht,hv,rfl⟩,hr⟩
   .cases hr
  .cases hr
 |B7 f args dst=>
  simp only[EN.Ml,IT.step] at hr;split at hr
  .rename_i Hm;split at hr
   .rename_i r h1 hv;split at hr;.rename_i mw;exact⟨_,_,⟨Hm,r,h1,hv,mw,rfl,rfl⟩,hr⟩
    .cases hr
   .cases hr
  .cases hr
 |Pm dst=>exact⟨_,_,⟨rfl,rfl⟩,hr⟩
 |KE m k v=>
  simp only[EN.Ml,IT.step] at hr;split at hr;.rename_i h1 hv;exact⟨_,_,⟨hv,rfl⟩,hr⟩
  .cases hr
 |Mj z ok m k dst=>
  simp only[EN.Ml,IT.step] at hr;split at hr;.rename_i v hv;exact⟨_,_,⟨v,hv,rfl,rfl⟩,hr⟩
  .cases hr
 |make z b zero l c dst=>
  simp only[EN.Ml,IT.step] at hr;split at hr;.rename_i h1 v hv;exact⟨_,_,⟨v,hv,rfl⟩,hr⟩
  .cases hr
 |Lm z b s x dst e=>
  simp only[EN.Ml,IT.step] at hr;split at hr;.rename_i h1 v hv;exact⟨_,_,⟨v,hv,rfl⟩,hr⟩
  .cases hr
 |JL z b s x dst=>
  simp only[EN.Ml,IT.step] at hr;split at hr;.rename_i h1 v hv;exact⟨_,_,⟨v,hv,rfl⟩,hr⟩
  .cases hr
 |GD z b s x dst e=>
  simp only[EN.Ml,IT.step] at hr;split at hr;.rename_i v hv;exact⟨_,_,⟨v,hv,rfl,rfl⟩,hr⟩
  .cases hr
 |Ff s dst=>
  simp only[EN.Ml,IT.step] at hr;split at hr;.rename_i h1 v hv;exact⟨_,_,⟨v,hv,rfl⟩,hr⟩
  .cases hr
 |WK s dst=>
  simp only[EN.Ml,IT.step] at hr;split at hr
  .rename_i h1 v hv;split at hr;.rename_i u hu;exact⟨_,_,⟨v,u,hv,hu,rfl⟩,hr⟩
   .cases hr
  .cases hr
 |mem o args dst=>
  simp only[EN.Ml,IT.step] at hr;split at hr;.rename_i h1 v hv;exact⟨_,_,⟨v,hv,rfl⟩,hr⟩
  .cases hr
structure De(C:F8)(γ0:Gh)(w0:World)(γ:Gh)(β:Nat->Nat)(U:BV)(h:Ah)(a:Act)(w:World):Prop where
 D8:Hn γ h w
 fr:FR γ β w0.heap.size U a.tmps w
 D0:Lq γ0 w0 γ w
 defers:a.defers=[]
 Hb:∀g cs,C.Hb g=some cs->C6 γ cs g 0
def Sc{γ:Gh}{v:Value}{a:Aa}(h:Pl v=some a):BR γ a v/\v.oneCell'=true:=by
 unfold Pl at h;split at h;case h_7=>
  rename_i fn f c;split at h;.rename_i hs;cases h;have d:f=#[]:=Gb hs.1;have b:c=#[]:=Gb hs.2;subst d;subst b;exact⟨⟨#[],#[],rfl,rfl,rfl⟩,rfl⟩
  .cases h
 all_goals first
  |(cases h;exact⟨rfl,rfl⟩)
  |cases h
def Nh{γ:Gh}:∀{vs:List Value} {as:List Aa},Mc vs=some as->Bj γ as vs/\∀v∈vs,v.oneCell'=true
 |[],as,h=>by cases h;exact⟨rfl,AH⟩
 |v::vs,as,h=>by
  unfold Mc at h;split at h;.rename_i a c h1 h2;cases h;obtain⟨p,q⟩:=Sc (γ:=γ) h1;obtain⟨p',b⟩:=Nh (γ:=γ) h2;exact⟨⟨v,vs,rfl,p,p'⟩,λx hx=>(AX.1 hx).elim (λe=>by rw[e];exact q) (b x)⟩
  .cases h
def Fx{γ:Gh}{v:Value}{a:Aa}(h:La v=some a):BR γ a v:=by
 unfold La at h;split at h
 .rename_i cs;cases hs:Mc cs.toList with
  |none=>rw[hs] at h;cases h
  |some as=>rw[hs] at h;cases h;obtain⟨p,q⟩:=Nh (γ:=γ) hs;exact⟨cs,rfl,p,q⟩
 .exact(Sc h).1
section
variable{C:F8}{γ0 γ:Gh}{w0 w:World}{β:Nat->Nat}{U:BV}{h:Ah}{a:Act}
def Rl(hr:De C γ0 w0 γ β U h a w){x:Operand}{sl:Et}(hx:Eg C U x=some sl)(hn:∀s,x≠ .tmp s):∃s,LM γ β w0.heap.size w s sl (a.eval x):=by
 unfold Eg at hx;split at hx;.exact absurd rfl (hn _)
 .cases hx;exact⟨0,rfl⟩
 .cases hx;exact⟨0,rfl,.inl (.inl rfl)⟩
 .rename_i v _ _;cases hc:La v with
  |none=>rw[hc] at hx;cases hx
  |some u=>rw[hc] at hx;cases hx;exact⟨0,Fx hc⟩
 .rename_i g;cases hc:C.Hb g with
  |none=>rw[hc] at hx;cases hx
  |some cs=>rw[hc] at hx;cases hx;exact⟨0,g,0,rfl,hr.Hb g cs hc⟩
 .cases hx;exact⟨0,#[],#[],rfl,rfl,rfl⟩
def Sd(hr:De C γ0 w0 γ β U h a w)(s:Nat):LM γ β w0.heap.size w s (U.at s) (a.eval (.tmp s)):=hr.fr.Ip s
def Gv(hr:De C γ0 w0 γ β U h a w){x:Operand}{sl:Et}(hx:Eg C U x=some sl):∃s,LM γ β w0.heap.size w s sl (a.eval x)/\∀t,x= .tmp t->s=t:=by
 cases x with
 |tmp t=>cases hx;exact⟨t,Sd hr t,λ_ h=>by cases h;rfl⟩
 |const v=>obtain⟨s,h1⟩:=Rl hr hx (by intro s h;cases h);exact⟨s,h1,λ_ h=>by cases h⟩
 |global g=>obtain⟨s,h1⟩:=Rl hr hx (by intro s h;cases h);exact⟨s,h1,λ_ h=>by cases h⟩
 |func f=>obtain⟨s,h1⟩:=Rl hr hx (by intro s h;cases h);exact⟨s,h1,λ_ h=>by cases h⟩
def NC{B s:Nat}{sl:Et}{v:Value}{u:Aa}(hs:LM γ β B w s sl v)(hv:sl.Hr=some u):BR γ u v:=by
 cases sl<;>simp[Et.Hr] at hv;.subst hv;exact hs
 .subst hv;exact hs
 .subst hv;exact hs.1
def GM(hr:De C γ0 w0 γ β U h a w){x:Operand}{u:Aa}(hx:E8 C U x=some u):BR γ u (a.eval x):=by
 unfold E8 at hx;cases hs:Eg C U x with
 |none=>rw[hs] at hx;cases hx
 |some sl=>rw[hs] at hx;obtain⟨s,h1,_⟩:=Gv hr hs;exact NC h1 hx
def D4(hr:De C γ0 w0 γ β U h a w):∀{xs:List Operand} {us:List Aa},BC C U xs=some us->Bj γ us (xs.map a.eval)
 |[],us,hx=>by cases hx;rfl
 |x::xs,us,hx=>by
  unfold BC at hx;split at hx;.rename_i u DR h1 h2;cases hx;exact⟨_,_,rfl,GM hr h1,D4 hr h2⟩
  .cases hx
def FR.put{B:Nat}{tmps:Array Value}(hf:FR γ β B U tmps w){d:Nat}{x:Et}{v:Value}(hx:LM γ β B w d x v):FR γ β B (U.set d x) (tmps.setIfInBounds d v) w:=by
 refine⟨by simp[hf.size],λs=>?_⟩;have hs:=hf.Ip s;by_cases he:s=d
 .subst he;by_cases hl:s<U.length
  .have p_:s<tmps.size:=by rw[<-hf.size];exact hl
   simpa[BV.at,List.getD,hl,p_,Array.getD] using hx
  .have p_:¬s<tmps.size:=by rw[<-hf.size];exact hl
   simpa[BV.at,List.getD,hl,p_,Array.getD] using hs
 .have h1:BV.at (U.set d x) s=U.at s:=by simp[BV.at,List.getD,Ap (λe=>he e.symm)]
  have h2:(tmps.setIfInBounds d v).getD s undef=tmps.getD s undef:=by simp[Hk,qP (λe=>he e.symm)]
  rw[h1,h2];exact hs
def FR.lV{B:Nat}{tmps:Array Value}(hf:FR γ β B U tmps w){d:Nat}{x:Et}(hx:LM γ β B w d x (tmps.getD d undef)):FR γ β B (U.set d x) tmps w:=by
 refine⟨by simp[hf.size],λs=>?_⟩;have hs:=hf.Ip s;by_cases he:s=d
 .subst he;by_cases hl:s<U.length;.simpa[BV.at,List.getD,hl] using hx
  .simpa[BV.at,List.getD,hl] using hs
 .have h1:BV.at (U.set d x) s=U.at s:=by simp[BV.at,List.getD,Ap (λe=>he e.symm)]
  rw[h1];exact hs
def De.put(hr:De C γ0 w0 γ β U h a w){d:Option Nat}{x:Et}{v:Value}(hx:∀s,d=some s->LM γ β w0.heap.size w s x v):De C γ0 w0 γ β (U.put d x) h (a.put d v) w:=by
 cases d with
 |none=>exact hr
 |some d=>exact⟨hr.D8,hr.fr.put (hx d rfl),hr.D0,hr.defers,hr.Hb⟩
def De.lV(hr:De C γ0 w0 γ β U h a w){d:Nat}{x:Et}(hx:LM γ β w0.heap.size w d x (a.tmps.getD d undef)):De C γ0 w0 γ β (U.set d x) h a w:=
 ⟨hr.D8,hr.fr.lV hx,hr.D0,hr.defers,hr.Hb⟩
def De.drop(hr:De C γ0 w0 γ β U h a w)(ds:List Nat):De C γ0 w0 γ β (U.drop ds) h a w:=by
 cases ds with
 |nil=>exact hr
 |cons d ds=>
  refine⟨hr.D8,⟨by simp[BV.drop,hr.fr.size],λs=>?_⟩,hr.D0,hr.defers,hr.Hb⟩;have hs:=hr.fr.Ip s;have e:(BV.drop U (d::ds)).at s=match U.at s with| .Fl t o=>if(d::ds).contains t then .undef else .Fl t o|x=>x:=by
   simp only[BV.drop,BV.at,List.getD,Ck];cases hg:U[s]? with
   |none=>rfl
   |some x=>cases x<;>rfl
  rw[e];cases hx:U.at s with
  |Fl t o=>
   rw[hx] at hs;simp only
   split;.trivial
   .exact hs
  |_=>rw[hx] at hs;exact hs
def De.Jd(hr:De C γ0 w0 γ β U h a w){γ':Gh}{h':Ah}{w':World}(hi:Hn γ' h' w')(ha:Lq γ w γ' w'):De C γ0 w0 γ' β U h' a w':=
 ⟨hi,hr.fr.kept (e_.aBO hr.D8 ha),hr.D0.trans ha,hr.defers,λg cs hg=>C6.mono ha.le _ _ _ (hr.Hb g cs hg)⟩
def Jt{P:Program}{o:Oper}{v:Value}{w':World}{next:Act->World->Prop}{Q:Exit->Act->World->Prop}(he:(execOp a.eval o).run P w= .ok (.value v) w')(hn:next (a.put o.dst v) w'):o.wp P a w next Q:=by unfold Oper.wp;rw[he];exact hn
def qZ{P:Program}{o:Oper}{w':World}{next:Act->World->Prop}{Q:Exit->Act->World->Prop}(he:(execOp a.eval o).run P w= .ok .skip w')(hn:next (a.put o.dst undef) w'):o.wp P a w next Q:=by unfold Oper.wp;rw[he];exact hn
end
end Go.Am
end
section
namespace Go.Am
def Gh.FU(γ:Gh)(g:Nat)(x:KM):Gh:={γ with Bt:=λb=>if b=g then some x else γ.Bt b}
section
variable{C:F8}{γ0 γ:Gh}{w0 w:World}{β:Nat->Nat}{U:BV}{h:Ah}{a:Act}
def Hs(γ:Gh)(g:Nat)(x:KM):γ.le (γ.FU g x):=⟨λ_ _ _ h=>h,λ_ _ h=>h,λ_ _ h=>h⟩
def Hn.FU(hi:Hn γ h w){g s s' st:Nat}{c c':Option Nat}(hg:γ.Bt g=some (.tail s c st)):Hn (γ.FU g (.tail s' c' st)) h w:=by
 refine⟨λb o v hb=>?_,λid y Ih hy=>?_,λid cs hc b hb=>?_,λid es hc b hb=>?_,hi.mu,λb x hx=>?_,λb n hb=>?_⟩;rotate_left 5
 .obtain⟨p,r⟩:=hi.sz b n hb;have:b≠g:=λhe=>by subst he;rw[hg] at r;rcases r with r|⟨_,r⟩<;>cases r
  exact⟨p,by simp only[Gh.FU,Ad this];exact r⟩
 .obtain⟨p,q,r⟩:=hi.It b o v hb;refine⟨p,q,?_⟩;by_cases he:b=g
  .subst he;rw[hg] at r;rcases r with r|⟨_,_,_,r,hl⟩
   .cases r
   .cases r;exact .inr ⟨s',c',st,by simp[Gh.FU],hl⟩
  .simpa only[Gh.FU,Ad he] using r
 .obtain⟨b,p,q⟩:=hi.Mm id y Ih hy;have:b≠g:=λhe=>by subst he;rw[hg] at q;cases q
  exact⟨b,p,by simp only[Gh.FU,Ad this];exact q⟩
 .obtain⟨us,e,fr,p,pf,q,r⟩:=hi.cells id cs hc b hb;exact⟨us,e,fr,p,pf,Bj.mono (Hs γ g _) _ _ q,r⟩
 .obtain⟨us,e,p,q⟩:=hi.map id es hc b hb;exact⟨us,e,p,q.mono (Hs γ g _)⟩
 .by_cases he:b=g;.subst he;exact hi.Bt b _ hg
  .simp only[Gh.FU,Ad he] at hx;exact hi.Bt b x hx
def IY.FU{B:Nat}{s b st:Nat}{c f:Option Nat}{v:Value}{u:Aa}{x:KM}{g:Nat}(hg:γ.Bt g=some (.tail s c st))(ho:IY γ B w b f v u)(hne:b≠s\/f≠c):IY (γ.FU g x) B w b f v u:=by
 rcases ho with ho|⟨g2,n,cap,us,e,z,AD,h1,h2,d,i⟩
 .exact .inl ho
 .have:g2≠g:=λhe=>by subst he;rw[hg] at d;cases d;rcases hne with hne|hne<;>exact hne rfl
  exact .inr ⟨g2,n,cap,us,e,z,AD,h1,h2,by simp only[Gh.FU,Ad this];exact d,i⟩
def FR.FU{B:Nat}{tmps:Array Value}(hf:FR γ β B U tmps w){g s st:Nat}{c:Option Nat}{x:KM}(hg:γ.Bt g=some (.tail s c st))
  (h1:c=none->∀v,U.at s≠ .Bt v) (h2:∀o,c=some o->∀ver cs ow,U.at s= .box ver cs ow->o∉ow):FR (γ.FU g x) β B U tmps w:=by
 refine⟨hf.size,λd=>?_⟩;have hs:=hf.Ip d;cases hx:U.at d with
 |undef=>trivial
 |skip=>rw[hx] at hs;exact hs
 |val u=>rw[hx] at hs;exact BR.mono (Hs γ g x) _ _ hs
 |O5 b=>rw[hx] at hs;exact hs
 |Bt u=>
  rw[hx] at hs;refine⟨BR.mono (Hs γ g x) _ _ hs.1,hs.2.FU hg ?_⟩;by_cases he:d=s
  .subst he;cases c with
   |none=>exact absurd hx (h1 rfl u)
   |some o=>exact .inr AH
  .exact .inl he
 |box ver cs ow=>
  rw[hx] at hs;obtain⟨r,f,q,us,e,p,n,m,l⟩:=hs;have hb:β d≠g:=λhe=>by rw[he,hg] at f;cases f
  refine⟨r,by simp only[Gh.FU,Ad hb];exact f,q,us,e,p,Bj.mono (Hs γ g x) _ _ n,m,λo ho=>?_⟩;obtain⟨u,v,k,j,i⟩:=l o ho;refine⟨u,v,k,j,i.FU hg ?_⟩;by_cases he:d=s
  .subst he;cases c with
   |none=>exact .inr AH
   |some o'=>refine .inr λhe=>?_;cases he;exact h2 o rfl ver cs ow hx ho
  .exact .inl he
 |Fl s' o=>rw[hx] at hs;exact hs
def De.FU(hr:De C γ0 w0 γ β U h a w){g s st s':Nat}{c c':Option Nat}(hg:γ.Bt g=some (.tail s c st))(hB:w0.heap.size<=g)
  (h1:c=none->∀v,U.at s≠ .Bt v) (h2:∀o,c=some o->∀ver cs ow,U.at s= .box ver cs ow->o∉ow):De C γ0 w0 (γ.FU g (.tail s' c' st)) β U h a w:=by
 refine⟨hr.D8.FU hg,hr.fr.FU hg h1 h2,?_,hr.defers,λx cs hx=>C6.mono (Hs γ g _) _ _ _ (hr.Hb x cs hx)⟩;refine⟨hr.D0.le.trans (Hs γ g _),hr.D0.size,hr.D0.os,hr.D0.tape,hr.D0.output,λb hb hn=>?_⟩;.obtain⟨p,q⟩:=hr.D0.Og b hb hn;exact⟨p,by simp only[Gh.FU,Ad (Ab:b≠g)];exact q⟩
def BV.Fy{s:Nat}{x:Et}(hs:s<U.length):BV.at (U.set s x) s=x:=by simp[BV.at,List.getD,hs]
def BV.Gi{s t:Nat}{x:Et}(hs:s≠t):BV.at (U.set s x) t=U.at t:=by simp[BV.at,List.getD,Ap hs]
def BV.Ps{s:Nat}(hs:U.at s≠ .undef):s<U.length:=by
 rcases AQ s U.length with h|h
 .exact h
 .exact absurd (by simp[BV.at,List.getD,Ef h]) hs
def De.take(hr:De C γ0 w0 γ β U h a w){s:Nat}{v:Aa}(hs:U.at s= .Bt v)(s':Nat)(c':Option Nat):
  ∃γ',γ.le γ'/\De C γ0 w0 γ' β (U.set s (.val v)) h a w/\BR γ' v (a.tmps.getD s undef)/\IY γ' w0.heap.size w s' c' (a.tmps.getD s undef) v:=by
 have h0:=hr.fr.Ip s;rw[hs] at h0;obtain⟨hv,ho⟩:=h0;have KC:De C γ0 w0 γ β (U.set s (.val v)) h a w:=hr.lV hv;have hl:s<U.length:=BV.Ps (by rw[hs];simp);rcases ho with ho|⟨g,n,cap,us,e,z,AD,h1,h2,d,b,c⟩
 .exact⟨γ,.refl _,KC,hv,.inl ho⟩
 .refine⟨γ.FU g (.tail s' c' (n*z)),Hs _ _ _,KC.FU d b (λ_ u=>?_) (λo ho=>by cases ho),BR.mono (Hs _ _ _) _ _ hv,.inr ⟨g,n,cap,us,e,z,AD,h1,h2,by simp[Gh.FU],b,c⟩⟩;rw[BV.Fy hl];simp
def cS{B s d:Nat}{sl b:Et}{v:Value}(hs:LM γ β B w s sl v)(hc:Iz sl=some b):LM γ β B w d b v:=by
 cases sl<;>simp[Iz] at hc;.subst hc;exact hs
 .subst hc;exact hs
 .subst hc;exact hs.1
 .subst hc;exact hs
def Oi{ws:List (Nat×Et)}(h:∀p∈ws,∀cs ow,p.2≠ .box 0 cs ow):(EN.pure ws).news=[]:=by
 simp only[EN.news,List.filterMap_eq_nil_iff];rintro⟨s,x⟩ hp;have:=h _ hp;cases x with
 |box ver cs ow=>
  cases ver with
  |zero=>exact absurd rfl (this cs ow)
  |succ n=>rfl
 |_=>rfl
def Se{v:Value}{sl:Et}(hs:Eg C U (.const v)=some sl):(∀B d,LM γ β B w d sl v)/\∀ver cs ow,sl≠ .box ver cs ow:=by
 unfold Eg at hs;split at hs;.rename_i KD;cases KD
 .rename_i KD;cases KD;cases hs;exact⟨λ_ _=>rfl,λ_ _ _ h=>by cases h⟩
 .rename_i KD;cases KD;cases hs;exact⟨λ_ _=>⟨rfl,.inl (.inl rfl)⟩,λ_ _ _ h=>by cases h⟩
 .rename_i KD;cases KD;cases hc:La v with
  |none=>rw[hc] at hs;cases hs
  |some u=>rw[hc] at hs;cases hs;exact⟨λ_ _=>Fx hc,λ_ _ _ h=>by cases h⟩
 .rename_i KD;cases KD
 .rename_i KD;cases KD
def He{s:Nat}{sl:Et}(hs:Eg C U (.tmp s)=some sl):U.at s=sl:=D7 hs
def rA{x:Operand}{v:Aa}(hs:Eg C U x=some (.Bt v))(hn:∀c,x≠ .const c):∃s,x= .tmp s/\U.at s= .Bt v:=by
 cases x with
 |tmp s=>exact⟨s,rfl,He hs⟩
 |const c=>exact absurd rfl (hn c)
 |global g=>have VW:(C.Hb g).map (λcs=>Et.val (Aa.CJ cs))=some (.Bt v):=hs;cases hc:C.Hb g<;>rw[hc] at VW<;>cases VW
 |func f=>cases hs
def Sf{x:Operand}{d:Nat}{take:Bool}{r:EN}{run:IT->Ah->Option Ke}{f:BV}{h':Ah}(hm:KS C U x d take=some r)(hd:r.NB C run (U.drop r.news) h f h')
  (hr:De C γ0 w0 γ β U h a w):∃γ',De C γ0 w0 γ' β f h' (a.put (some d) (a.eval x)) w:=by
 unfold KS at hm;split at hm;.rename_i s _ _ _ hs;cases hm;rw[Oi AH] at hd;obtain⟨rfl,rfl⟩:=hd;refine⟨γ,hr.put (d:=some d) λt ht=>?_⟩;have h0:=Sd hr s;rw[He hs] at h0;exact h0.1
 .rename_i v sl hs;cases hm;obtain⟨p,q⟩:=Se (γ:=γ) (β:=β) (w:=w) hs;rw[Oi (by simpa using λcs ow=>q 0 cs ow)] at hd;obtain⟨rfl,rfl⟩:=hd;exact⟨γ,hr.put (d:=some d) λt _=>p _ t⟩
 .rename_i v hnc hs;split at hm;.cases hm;obtain⟨s,rfl,e⟩:=rA hs (λc hc=>hnc c hc);rw[Oi (by simp[R4])] at hd;obtain⟨rfl,rfl⟩:=hd;obtain⟨γ',Eo,F9,DL,J_⟩:=hr.take e d none;exact⟨γ',F9.put (d:=some d) λt ht=>by cases ht;exact⟨DL,J_⟩⟩
  .simp only[Iz,B5] at hm;cases hm;rw[Oi AH] at hd;obtain⟨rfl,rfl⟩:=hd;obtain⟨s,h1,_⟩:=Gv hr hs;exact⟨γ,hr.put (d:=some d) λt ht=>h1.1⟩
 .rename_i sl _ _ _ hs;cases hc:Iz sl with
  |none=>rw[hc] at hm;cases hm
  |some b=>
   rw[hc] at hm;cases hm;have wV:∀cs ow,b≠ .box 0 cs ow:=by intro cs ow he;subst he;cases sl<;>simp[Iz] at hc
   rw[Oi (by simpa using wV)] at hd;obtain⟨rfl,rfl⟩:=hd;obtain⟨s,h1,_⟩:=Gv hr hs;exact⟨γ,hr.put (d:=some d) λt ht=>cS h1 hc⟩
 .cases hm
end
end Go.Am
end
section
namespace Go.Am
open Go
def Xd{s:Sem Value}{v:Value}(h:Qd s=some v):s= .pure v:=by cases s<;>simp[Qd] at h;subst h;rfl
section
variable{P:Program}{γ:Gh}{w:World}
def lW{op:BinOp}{k l:IntKind}{x y:Int}{u:Aa}(t:TypeId)(c b:Operand)(h:wC op k x l y=some u):
  ∃v,(do eqGuard op t c b (.int k x) (.int l y);binOp op t (.int k x) (.int l y):Sem Value).run P w= .ok v w/\BR γ u v:=by
 unfold wC at h;cases hs:Qd (binOp op 0 (.int k x) (.int l y)) with
 |none=>rw[hs] at h;cases h
 |some v=>
  rw[hs] at h;have f:=Xd hs;have e:binOp op t (.int k x) (.int l y)= .pure v:=by rw[<-f];cases op<;>rfl
  have d:eqGuard op t c b (.int k x) (.int l y)=pure ():=by cases op<;>rfl
  refine⟨v,by rw[d,e];rfl,?_⟩;simp only[Cm] at h;split at h<;>cases h<;>rfl
def cT(l:List UInt8):(ByteArray.mk ⟨l⟩).toList=l:=ByteArray.toList_mk l
def lX{op:BinOp}{x y:An}{u:Aa}(t:TypeId)(d c:Operand)(h:lR op x y=some u):
  ∃v,(do eqGuard op t d c (.string ⟨⟨x⟩⟩) (.string ⟨⟨y⟩⟩);binOp op t (.string ⟨⟨x⟩⟩) (.string ⟨⟨y⟩⟩):Sem Value).run P w= .ok v w/\BR γ u v:=by
 have e:eqGuard op t d c (.string ⟨⟨x⟩⟩) (.string ⟨⟨y⟩⟩)=pure ():=by cases op<;>rfl
 have b:binOp op t (.string ⟨⟨x⟩⟩) (.string ⟨⟨y⟩⟩)=Op.stringOp op ⟨⟨x⟩⟩ ⟨⟨y⟩⟩:=by cases op<;>rfl
 rw[e,b];unfold lR at h;cases op<;>simp only at h<;>first
  |cases h;done
  |(simp only[Op.stringOp,cT];cases h;exact⟨_,rfl,rfl⟩)
  | (split at h
     . rename_i Eo
       cases h
       have hc : ¬ ((((ByteArray.mk ⟨x⟩).size + (ByteArray.mk ⟨y⟩).size : Nat) : Int) > IntKind.i64.max) := by
         have f : (ByteArray.mk ⟨x⟩).size = x.length := rfl
         have b : (ByteArray.mk ⟨y⟩).size = y.length := rfl
         rw [f, b]
         have : IntKind.i64.max = 9223372036854775807 := AU
         rw [this]
         omega
       simp only [Op.stringOp, Ad hc]
       refine ⟨_, rfl, ?_⟩
       show Value.string _ = Value.string _
       first
         | (congr 1; done)
         | (congr 1; apply ByteArray.ext; simp)
     . cases h)
def rB{t:TypeId}(h:Fq P t=some none):(isAgg t).run P w= .ok false w:=by
 unfold Fq at h;split at h;.cases hs:B4 P t<;>rw[hs] at h<;>cases h
 .cases hs:B4 P t<;>rw[hs] at h<;>cases h
 .rename_i d h1 h2 hu;simp only[isAgg,Sem.run_bind,run_underlying hu,Result.andThen_ok];rfl
 .cases h
def Rm{t:TypeId}{n:Nat}(h:Fq P t=some (some n)):(isAgg t).run P w= .ok true w/\B4 P t=some n:=by
 unfold Fq at h;split at h
 .rename_i fs hu;cases hs:B4 P t with
  |none=>rw[hs] at h;cases h
  |some m=>rw[hs] at h;cases h;exact⟨by simp[isAgg,run_underlying hu],rfl⟩
 .rename_i fs _ hu;cases hs:B4 P t with
  |none=>rw[hs] at h;cases h
  |some m=>rw[hs] at h;cases h;exact⟨by simp[isAgg,run_underlying hu],rfl⟩
 .cases h
 .cases h
def DU{t:TypeId}{n:Nat}(h:B4 P t=some n):(sizeOf t).run P w= .ok n w:=by
 unfold B4 at h;cases hi:P.info? t with
 |none=>rw[hi] at h;cases h
 |some i=>rw[hi] at h;cases h;simp[sizeOf,typeInfo,hi]
def lY{t:TypeId}{sh:Option Nat}{cs:List Aa}{us:Array Value}{off:Nat}{u:Aa}(qE:Fq P t=some sh)(hr:Bj γ cs us.toList)(h1:∀v∈us.toList,v.oneCell'=true)
  (hp:Fv cs off sh=some u):∃v,(part t us off).run P w= .ok v w/\BR γ u v:=by
 cases sh with
 |none=>
  replace hp:cs[off]?=some u:=hp;obtain⟨v,hv,hrel⟩:=hr.get hp;refine⟨v,?_,hrel⟩;have DL:us[off]?=some v:=by simpa using hv
  simp[part,rB qE,DL]
 |some n=>
  obtain⟨ha,hs⟩:=Rm (w:=w) qE;replace hp:(if off+n<=cs.length then some (Aa.agg ((cs.drop off).take n)) else none)=some u:=hp;split at hp
  .cases hp;refine⟨.agg (us.extract off (off+n)),by simp[part,ha,DU hs],us.extract off (off+n),rfl,?_,?_⟩;.have:=(hr.drop off).take n;simpa[N8,HO] using this
   .intro v hv;refine h1 v ?_;rw[N8,HO] at hv;exact Bw (Bn hv)
  .cases hp
end
end Go.Am
end
section
namespace Go.Am
open Go
def qa{x y:Aa}{b:Bool}(h:LJ .b x y=some b):∃p q,x= .bool p/\y= .bool q/\(p==q)=b:=by unfold LJ at h;split at h<;>first|cases h;done|(rename_i he;cases he;done)|(cases h;exact⟨_,_,rfl,rfl,rfl⟩)
def qb{x y:Aa}{b:Bool}(h:LJ .i x y=some b):∃k p q,x= .int k p/\y= .int k q/\(p==q)=b:=by
 unfold LJ at h;split at h;.rename_i he;cases he
 .split at h;.rename_i hk;subst hk;cases h;exact⟨_,_,_,rfl,rfl,rfl⟩
  .cases h
 .rename_i he;cases he
 .cases h
def qc{x y:Aa}{b:Bool}(h:LJ .s x y=some b):∃p q,x= .str p/\y= .str q/\(p==q)=b:=by
 unfold LJ at h;split at h;.rename_i he;cases he
 .rename_i he;cases he
 .cases h;exact⟨_,_,rfl,rfl,rfl⟩
 .cases h
def Pu:∀{ks c:List FK} {xs ys:List Aa} {b:Bool},Eb (ks++c) xs ys=some b->
  ∃b1 b2,Eb ks (xs.take ks.length) (ys.take ks.length)=some b1/\Eb c (xs.drop ks.length) (ys.drop ks.length)=some b2/\b=(b1&&b2)
 |[],c,xs,ys,b,h=>⟨true,b,by simp[Eb],by simpa using h,AH⟩
 |k::ks,c,[],ys,b,h=>by cases ys<;>simp[Eb] at h
 |k::ks,c,x::xs,[],b,h=>by simp[Eb] at h
 |k::ks,c,x::xs,y::ys,b,h=>by
  simp only[CO,Eb] at h;split at h;.rename_i e es h1 h2;cases h;obtain⟨b1,b2,p,q,r⟩:=Pu h2;refine⟨e&&b1,b2,?_,by simpa using q,by rw[r,Bool.and_assoc]⟩;simp only[Bf,ZV,Eb,h1,p]
  .cases h
def Pv:∀{ks:List FK} {xs ys:List Aa} {b:Bool},Eb ks xs ys=some b->xs.length=ks.length/\ys.length=ks.length
 |[],xs,ys,b,h=>by cases xs<;>cases ys<;>simp[Eb] at h⊢
 |k::ks,xs,ys,b,h=>by
  cases xs<;>cases ys<;>simp[Eb] at h;split at h;.rename_i h1 h2;obtain⟨p,q⟩:=Pv h2;simp[p,q]
  .cases h
section
variable{P:Program}{γ:Gh}{w:World}
def Z6:∀{d:Nat} {t:TypeId} {ks:List FK},Pp P d t=some ks->B4 P t=some ks.length
 |0,t,ks,h=>by cases h
 |d+1,t,ks,h=>by
  simp only[Pp] at h;split at h;.split at h<;>cases h;assumption
  .split at h<;>cases h;assumption
  .split at h<;>cases h;assumption
  .split at h
   .split at h;.rename_i hc;cases h;exact hc.1
    .cases h
   .cases h
  .cases h
def rC{ks:List FK}{k:FK}{t:TypeId}(h:(if B4 P t=some 1 then some [k] else none)=some ks):ks=[k]:=by split at h<;>cases h;rfl
def GN{t:TypeId}{us:Array Value}{off:Nat}{v:Value}{d:TypeDesc}(hu:P.underlying t=some d)(h1:∀fs,d≠ .struct fs)(h2:∀n e,d≠ .array n e)(hv:us[off]?=some v):
  (part t us off).run P w= .ok v w:=by
 have ha:(isAgg t).run P w= .ok false w:=by simp only[isAgg,Sem.run_bind,run_underlying hu,Result.andThen_ok];cases d<;>first|rfl|exact absurd rfl (h1 _)|exact absurd rfl (h2 _ _)
 simp[part,ha,hv]
def JZ{l:List Aa}{off:Nat}{x:Aa}(h:(l.drop off).take 1=[x]):l[off]?=some x:=by have:=Ca (·[0]?) h;simpa using this
def Xe{k:FK}{xs ys:List Aa}{b:Bool}(h:Eb [k] xs ys=some b):∃x y,xs=[x]/\ys=[y]/\LJ k x y=some b:=by
 cases xs<;>cases ys<;>simp[Eb] at h;rename_i x xs y ys;cases xs<;>cases ys<;>simp[Eb] at h;all_goals first
  | (split at h
     . rename_i e es h1 h2; cases h2; cases h; exact ⟨x, y, rfl, rfl, by simpa using h1⟩
     . cases h)
  |(split at h<;>simp_all)
mutual
def lZ:∀{d D:Nat},d<=D->∀{t:TypeId} {ks:List FK},Pp P d t=some ks->∀(us vs:Array Value) (cs ds:List Aa) (off:Nat) (b:Bool),Bj γ cs us.toList->Bj γ ds vs.toList->
  Eb ks ((cs.drop off).take ks.length) ((ds.drop off).take ks.length)=some b->
  ∃x y,(part t us off).run P w= .ok x w/\(part t vs off).run P w= .ok y w/\(Op.equalIn D t x y).run P w= .ok b w
 |0,_,_,_,_,h=>by cases h
 |d+1,0,hd,_,_,_=>Ab
 |d+1,D+1,hd,t,ks,h=>by
  intro us vs cs ds off b hu hv he;have Lb:=Z6 h;simp only[Pp] at h;split at h;.rename_i Z7;have:=rC h;subst this;obtain⟨x,y,m,l,k⟩:=Xe he;obtain⟨x',i,g⟩:=hu.get (JZ m);obtain⟨c,f,e⟩:=hv.get (JZ l);refine⟨x',c,GN Z7 AH AH (by simpa using i),GN Z7 AH AH (by simpa using f),?_⟩;obtain⟨o,n,rfl,rfl,j⟩:=qa k;rw[g,e,run_equalIn_bool' w D t _ _ Z7,<-j]
  .rename_i kk Z7;have:=rC h;subst this;obtain⟨x,y,m,l,k⟩:=Xe he;obtain⟨x',i,g⟩:=hu.get (JZ m);obtain⟨c,f,e⟩:=hv.get (JZ l);refine⟨x',c,GN Z7 AH AH (by simpa using i),GN Z7 AH AH (by simpa using f),?_⟩;obtain⟨q,o,n,rfl,rfl,j⟩:=qb k;rw[g,e,run_equalIn_int w D t _ _ _ _ Z7,<-j]
  .rename_i Z7;have:=rC h;subst this;obtain⟨x,y,m,l,k⟩:=Xe he;obtain⟨x',i,g⟩:=hu.get (JZ m);obtain⟨c,f,e⟩:=hv.get (JZ l);refine⟨x',c,GN Z7 AH AH (by simpa using i),GN Z7 AH AH (by simpa using f),?_⟩;obtain⟨o,n,rfl,rfl,j⟩:=qc k;rw[g,e,run_equalIn_string w D t _ _ Z7,cT,cT,<-j]
  .rename_i fs Z7;split at h
   .rename_i p Gw;split at h
    .rename_i hc;cases h;have qE:Fq P t=some (some ks.length):=by simp[Fq,Z7,Lb]
     obtain⟨ha,hs⟩:=Rm (w:=w) qE;refine⟨.agg (us.extract off (off+ks.length)),.agg (vs.extract off (off+ks.length)),by simp[part,ha,DU hs],by simp[part,ha,DU hs],?_⟩;have aKt:P.underlying t=some (.struct (P.fieldsOf t)):=by simp[Program.fieldsOf,Z7]
     rw[run_equalIn_struct w D t _ _ aKt hc.2];have hf:(P.fieldsOf t).toList=fs.toList:=by simp[Program.fieldsOf,Z7]
     rw[hf];have wW:Bj γ ((cs.drop off).take ks.length) (us.extract off (off+ks.length)).toList:=by have:=(hu.drop off).take ks.length;simpa[N8,HO] using this
     have DL:Bj γ ((ds.drop off).take ks.length) (vs.extract off (off+ks.length)).toList:=by have:=(hv.drop off).take ks.length;simpa[N8,HO] using this
     refine Z8 (Nat.le_of_succ_le_succ hd) fs.toList Gw _ _ _ _ _ wW DL ?_;simpa using he
    .cases h
   .cases h
  .cases h
def Z8:∀{d D:Nat},d<=D->∀(fs:List Field) {off:Nat} {ks:List FK},WV (Pp P d) fs off=some ks->∀(us vs:Array Value) (cs ds:List Aa) (b:Bool),Bj γ cs us.toList->Bj γ ds vs.toList->
  Eb ks (cs.drop off) (ds.drop off)=some b->(Op.eqFields D us vs fs).run P w= .ok b w
 |d,D,hd,[],off,ks,h=>by
  intro us vs cs ds b hu hv he;cases h;have:b=true:=by cases h1:cs.drop off<;>cases h2:ds.drop off<;>rw[h1,h2] at he<;>simp[Eb] at he;exact he
  subst this;rfl
 |d,D,hd,f::fs,off,ks,h=>by
  intro us vs cs ds b hu hv he;simp only[WV] at h;split at h
  .rename_i hc;obtain⟨hn,aFo⟩:=hc;split at h
   .rename_i c Zs;cases hr:WV (Pp P d) fs (off+c.length) with
    |none=>rw[hr] at h;cases h
    |some j=>
     rw[hr] at h;cases h;obtain⟨b1,b2,l,k,rfl⟩:=Pu he;obtain⟨x,y,i,g,e⟩:=lZ hd Zs _ _ _ _ _ _ hu hv l;simp only[Op.eqFields,hn,B2,Ay,BI,aFo,Sem.run_bind,i,g,e,Result.andThen_ok];cases b1;.rfl
     .simp only[RO,Cu,DG,Bool.true_and];exact Z8 hd fs hr _ _ _ _ _ hu hv (by simpa[El] using k)
   .cases h
  .cases h
end
def mA{op:BinOp}{t:TypeId}{d c:Operand}{neg:Bool}{ks:List FK}{a b:List Aa}{x y:Value}{u:Aa}(Oa:(op= .eql/\neg=false)\/(op= .neq/\neg=true))
  (hg:P.eqGuardType P.depth t=false) (hk:Pp P 20 t=some ks) (HT:∃fs,P.underlying t=some (.struct fs)) (hx:BR γ (.agg a) x) (hy:BR γ (.agg b) y) (h:(Eb ks a b).map (λe=>Aa.bool (e != neg))=some u):
  ∃v,(do eqGuard op t d c x y;binOp op t x y:Sem Value).run P w= .ok v w/\BR γ u v:=by
 obtain⟨us,rfl,hu,_⟩:=hx;obtain⟨vs,rfl,hv,_⟩:=hy;cases he:Eb ks a b with
 |none=>rw[he] at h;cases h
 |some e=>
  rw[he] at h;cases h;obtain⟨l1,m⟩:=Pv he;obtain⟨x',j,i,g,f⟩:=lZ (w:=w) (P:=P) (γ:=γ) (D:=10000) (Ab:20<=10000) hk us vs a b 0 e hu hv (by rw[Ky,Ky,AF (MG l1),AF (MG m)];exact he);obtain⟨fs,Gw⟩:=HT;have qE:Fq P t=some (some ks.length):=by simp[Fq,Gw,Z6 hk]
  obtain⟨ha,hs⟩:=Rm (w:=w) qE;have o:us.extract 0 ks.length=us:=by
   have:us.size=ks.length:=by have:=hu.length;simp at this;omega
   rw[<-this];simp
  have n:vs.extract 0 ks.length=vs:=by
   have:vs.size=ks.length:=by have:=hv.length;simp at this;omega
   rw[<-this];simp
  have l:x'= .agg us:=by simp[part,ha,DU hs,o] at i;exact i.symm
  have k:j= .agg vs:=by simp[part,ha,DU hs,n] at g;exact g.symm
  subst l;subst k;rcases Oa with⟨rfl,rfl⟩|⟨rfl,rfl⟩
  .refine⟨.bool e,by simp[run_eqGuard_agg (P:=P) w .eql t d c us vs hg,run_eql_struct,f],?_⟩;show Value.bool e=Value.bool _;cases e<;>rfl
  .refine⟨.bool (!e),by simp[run_eqGuard_agg (P:=P) w .neq t d c us vs hg,run_neq_struct,f],?_⟩;show Value.bool _=Value.bool _;cases e<;>rfl
end
end Go.Am
end
