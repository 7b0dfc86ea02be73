/- Lemmas -/
import Derived.Test.YtefjamneieebhaaGreatDoorS1
import Derived.Orders
import Derived.Laws.AppendOwn
import Derived.Laws.StructEq
set_option linter.unusedVariables false
set_option linter.unusedSimpArgs false
section
namespace Go.Am
inductive Jq where
 |KT (id:Nat)
 |loc (s:Nat)
 |tail (s:Nat) (c:Option Nat) (start:Nat)
def Jq.vD:Jq->Bool
 | .KT _=>true
 |_=>false
structure Gh where
 Hy:Nat->Nat->Option Value
 mu:Nat->Option Nat
 own:Nat->Option Jq
 sz:Nat->Option Nat
mutual
def BE(γ:Gh):Aa->Value->Prop
 | .bool b,v=>v= .bool b
 | .int k n,v=>v= .int k n
 | .str s,v=>v= .string ⟨⟨s⟩⟩
 | .ptr none,v=>v= .pointer none
 | .ptr (some (id,o)),v=>∃b,γ.mu id=some b/\v= .pointer (some ⟨b,o,none⟩)
 | .CA cs,v=>∃b o,v= .pointer (some ⟨b,o,none⟩)/\CI γ cs b o
 | .sl z Au,v=>∃ad cap,v= .slice (some ad) Au.length cap/\Au.length<=cap/\(ad.spot=none\/cap=0)/\EP γ Au z ad.block ad.off
 | .slnil,v=>v= .slice none 0 0
 | .Cl id off len z,v=>∃b cap,γ.mu id=some b/\v= .slice (some ⟨b,off,none⟩) len cap/\len<=cap/\(0<z/\cap<=maxLen)/\γ.sz b=some (off+cap*z)
 | .map none,v=>v= .map none
 | .map (some id),v=>∃b,γ.mu id=some b/\v= .map (some b)
 | .func fn f c,v=>∃fs cs,v= .func fn fs cs/\A9 γ f fs.toList/\A9 γ c cs.toList
 | .nilFunc,v=>v= .nilFunc
 | .iface t a,v=>∃u,v= .iface t u/\BE γ a u
 | .nilIface,v=>v= .nilIface
 | .agg cs,v=>∃us,v= .agg us/\A9 γ cs us.toList/\∀u∈us.toList,u.oneCell'=true
 | .tuple vs,v=>∃us,v= .tuple us/\A9 γ vs us.toList
def A9(γ:Gh):List Aa->List Value->Prop
 |[],us=>us=[]
 |a::l,us=>∃u Dj,us=u::Dj/\BE γ a u/\A9 γ l Dj
def CI(γ:Gh):List Aa->Nat->Nat->Prop
 |[],_,_=>True
 |a::l,b,o=>(∃u,γ.Hy b o=some u/\BE γ a u)/\CI γ l b (o+1)
def EP(γ:Gh):List (List Aa)->Nat->Nat->Nat->Prop
 |[],_,_,_=>True
 |r::rs,z,b,o=>r.length=z/\CI γ r b o/\EP γ rs z b (o+z)
end
structure Gh.le(γ γ':Gh):Prop where
 Hy:∀b o v,γ.Hy b o=some v->γ'.Hy b o=some v
 mu:∀id b,γ.mu id=some b->γ'.mu id=some b
 sz:∀b n,γ.sz b=some n->γ'.sz b=some n
theorem Gh.le.refl(γ:Gh):γ.le γ:=⟨λ_ _ _ h=>h,λ_ _ h=>h,λ_ _ h=>h⟩
theorem Gh.le.trans{a b c:Gh}(h:a.le b)(k:b.le c):a.le c:=⟨λ_ _ _ x=>k.Hy _ _ _ (h.Hy _ _ _ x),λ_ _ x=>k.mu _ _ (h.mu _ _ x),λ_ _ x=>k.sz _ _ (h.sz _ _ x)⟩
mutual
theorem BE.mono{γ γ':Gh}(DV:γ.le γ'):∀(a:Aa) (v:Value),BE γ a v->BE γ' a v
 | .bool b,v,h=>h
 | .int k n,v,h=>h
 | .str s,v,h=>h
 | .ptr none,v,h=>h
 | .ptr (some (id,o)),v,h=>by obtain⟨b,hb,hv⟩:=h;exact⟨b,DV.mu _ _ hb,hv⟩
 | .CA cs,v,h=>by obtain⟨b,o,hv,hm⟩:=h;exact⟨b,o,hv,CI.mono DV cs b o hm⟩
 | .sl z Au,v,h=>by obtain⟨ad,cap,hv,hc,hs,hm⟩:=h;exact⟨ad,cap,hv,hc,hs,EP.mono DV Au z _ _ hm⟩
 | .slnil,v,h=>h
 | .Cl id off len z,v,h=>by obtain⟨b,cap,hb,hv,hc,hz,hs⟩:=h;exact⟨b,cap,DV.mu _ _ hb,hv,hc,hz,DV.sz _ _ hs⟩
 | .map none,v,h=>h
 | .map (some id),v,h=>by obtain⟨b,hb,hv⟩:=h;exact⟨b,DV.mu _ _ hb,hv⟩
 | .func fn f c,v,h=>by obtain⟨fs,cs,hv,h1,h2⟩:=h;exact⟨fs,cs,hv,A9.mono DV f _ h1,A9.mono DV c _ h2⟩
 | .nilFunc,v,h=>h
 | .iface t a,v,h=>by obtain⟨u,hv,h1⟩:=h;exact⟨u,hv,BE.mono DV a u h1⟩
 | .nilIface,v,h=>h
 | .agg cs,v,h=>by obtain⟨us,hv,h1,h2⟩:=h;exact⟨us,hv,A9.mono DV cs _ h1,h2⟩
 | .tuple vs,v,h=>by obtain⟨us,hv,h1⟩:=h;exact⟨us,hv,A9.mono DV vs _ h1⟩
theorem A9.mono{γ γ':Gh}(DV:γ.le γ'):∀(l:List Aa) (us:List Value),A9 γ l us->A9 γ' l us
 |[],us,h=>h
 |a::l,us,h=>by obtain⟨u,Dj,hu,h1,h2⟩:=h;exact⟨u,Dj,hu,BE.mono DV a u h1,A9.mono DV l Dj h2⟩
theorem CI.mono{γ γ':Gh}(DV:γ.le γ'):∀(l:List Aa) (b o:Nat),CI γ l b o->CI γ' l b o
 |[],_,_,_=>trivial
 |a::l,b,o,h=>by obtain⟨⟨u,hu,h1⟩,h2⟩:=h;exact⟨⟨u,DV.Hy _ _ _ hu,BE.mono DV a u h1⟩,CI.mono DV l b (o+1) h2⟩
theorem EP.mono{γ γ':Gh}(DV:γ.le γ'):∀(rs:List (List Aa)) (z b o:Nat),EP γ rs z b o->EP γ' rs z b o
 |[],_,_,_,_=>trivial
 |r::rs,z,b,o,h=>⟨h.1,CI.mono DV r b o h.2.1,EP.mono DV rs z b (o+z) h.2.2⟩
end
theorem A9.length{γ:Gh}:∀{l:List Aa} {us:List Value},A9 γ l us->us.length=l.length
 |[],us,h=>by rw[A9] at h;subst h;rfl
 |a::l,us,h=>by rw[A9] at h;obtain⟨u,Dj,rfl,_,h2⟩:=h;simp[h2.length]
theorem A9.get{γ:Gh}:∀{l:List Aa} {us:List Value},A9 γ l us->∀{i:Nat} {a:Aa},l[i]?=some a->∃u,us[i]?=some u/\BE γ a u
 |[],us,h,i,a,hi=>by simp at hi
 |x::l,us,h,i,a,hi=>by
  rw[A9] at h;obtain⟨u,Dj,rfl,h1,h2⟩:=h;cases i with
  |zero=>simp at hi;subst hi;exact⟨u,rfl,h1⟩
  |succ i=>simp at hi;obtain⟨v,hv,hr⟩:=h2.get hi;exact⟨v,by simpa using hv,hr⟩
theorem A9.Gg{γ:Gh}:∀{l:List Aa} {us:List Value},us.length=l.length->(∀(i:Nat) (a:Aa) (u:Value),l[i]?=some a->us[i]?=some u->BE γ a u)->A9 γ l us
 |[],us,hl,_=>by rw[A9];exact EU hl
 |x::l,[],hl,_=>by simp at hl
 |x::l,u::us,hl,h=>by rw[A9];exact⟨u,us,rfl,h 0 x u rfl rfl,A9.Gg (by simpa using hl) λi a v hi hv=>h (i+1) a v (by simpa using hi) (by simpa using hv)⟩
theorem A9.append{γ:Gh}:∀{l l':List Aa} {us Dj:List Value},A9 γ l us->A9 γ l' Dj->A9 γ (l++l') (us++Dj)
 |[],l',us,Dj,h,h'=>by rw[A9] at h;subst h;simpa using h'
 |a::l,l',us,Dj,h,h'=>by rw[A9] at h;obtain⟨u,r,rfl,h1,h2⟩:=h;rw[CB,A9];exact⟨u,r++Dj,rfl,h1,h2.append h'⟩
theorem A9.take{γ:Gh}{l:List Aa}{us:List Value}(h:A9 γ l us)(n:Nat):A9 γ (l.take n) (us.take n):=by
 refine A9.Gg (by simp[h.length]) λi a u hi hu=>?_;rw[Cf] at hi hu;split at hi;·rename_i hlt;rw[if_pos hlt] at hu;obtain⟨v,hv,hr⟩:=h.get hi;rw[hu] at hv;cases hv;exact hr
 .cases hi
theorem A9.drop{γ:Gh}{l:List Aa}{us:List Value}(h:A9 γ l us)(n:Nat):A9 γ (l.drop n) (us.drop n):=by refine A9.Gg (by simp[h.length]) λi a u hi hu=>?_;rw[Cz] at hi hu;obtain⟨v,hv,hr⟩:=h.get hi;rw[hu] at hv;cases hv;exact hr
theorem CI.get{γ:Gh}:∀{l:List Aa} {b o:Nat},CI γ l b o->∀{i:Nat} {a:Aa},l[i]?=some a->∃u,γ.Hy b (o+i)=some u/\BE γ a u
 |[],b,o,h,i,a,hi=>by simp at hi
 |x::l,b,o,h,i,a,hi=>by
  rw[CI] at h;obtain⟨⟨u,hu,h1⟩,h2⟩:=h;cases i with
  |zero=>simp at hi;subst hi;exact⟨u,hu,h1⟩
  |succ i=>simp at hi;obtain⟨v,hv,hr⟩:=h2.get hi;exact⟨v,by rw[<-hv];congr 1;omega,hr⟩
theorem CI.Gg{γ:Gh}:∀{l:List Aa} {b o:Nat},(∀(i:Nat) (a:Aa),l[i]?=some a->∃u,γ.Hy b (o+i)=some u/\BE γ a u)->CI γ l b o
 |[],b,o,h=>by rw[CI];trivial
 |x::l,b,o,h=>by rw[CI];refine⟨h 0 x rfl,CI.Gg λi a hi=>?_⟩;obtain⟨u,hu,hr⟩:=h (i+1) a (by simpa using hi);exact⟨u,by rw[<-hu];congr 1;omega,hr⟩
theorem CI.drop{γ:Gh}{l:List Aa}{b o:Nat}(h:CI γ l b o)(n:Nat):CI γ (l.drop n) b (o+n):=by refine CI.Gg λi a hi=>?_;rw[Cz] at hi;obtain⟨u,hu,hr⟩:=h.get hi;exact⟨u,by rw[<-hu];congr 1;omega,hr⟩
theorem CI.values{γ:Gh}:∀{l:List Aa} {b o:Nat},CI γ l b o->∃us:List Value,A9 γ l us/\∀(j:Nat) (u:Value),us[j]?=some u->γ.Hy b (o+j)=some u
 |[],b,o,h=>⟨[],by rw[A9],by simp⟩
 |x::l,b,o,h=>by
  rw[CI] at h;obtain⟨⟨u,hu,h1⟩,h2⟩:=h;obtain⟨us,hr,hi⟩:=h2.values;refine⟨u::us,by rw[A9];exact⟨u,us,rfl,h1,hr⟩,λj v hj=>?_⟩;cases j with
  |zero=>simp at hj;subst hj;exact hu
  |succ j=>simp at hj;rw[<-hi j v hj];congr 1;omega
theorem EP.get{γ:Gh}:∀{rs:List (List Aa)} {z b o:Nat},EP γ rs z b o->∀{i:Nat} {r:List Aa},rs[i]?=some r->r.length=z/\CI γ r b (o+i*z)
 |[],z,b,o,h,i,r,hi=>by simp at hi
 |x::rs,z,b,o,h,i,r,hi=>by
  rw[EP] at h;cases i with
  |zero=>simp at hi;subst hi;simpa using⟨h.1,h.2.1⟩
  |succ i=>simp at hi;obtain⟨h1,h2⟩:=h.2.2.get hi;exact⟨h1,by rw[show o+(i+1)*z=o+z+i*z by rw[BB,Ey];omega];exact h2⟩
theorem EP.Gg{γ:Gh}:∀{rs:List (List Aa)} {z b o:Nat},(∀(i:Nat) (r:List Aa),rs[i]?=some r->r.length=z/\CI γ r b (o+i*z))->EP γ rs z b o
 |[],z,b,o,h=>by rw[EP];trivial
 |x::rs,z,b,o,h=>by rw[EP];have h0:=h 0 x rfl;refine⟨h0.1,by simpa using h0.2,EP.Gg λi r hi=>?_⟩;obtain⟨h1,h2⟩:=h (i+1) r (by simpa using hi);exact⟨h1,by rw[show o+z+i*z=o+(i+1)*z by rw[BB,Ey];omega];exact h2⟩
theorem MN{ad:Addr}{n cap:Nat}(hs:ad.spot=none\/cap=0)(hc:n<=cap)(hn:0<n):ad=⟨ad.block,ad.off,none⟩:=by
 rcases hs with hs|hs
 .cases ad;simp_all
 .omega
theorem EP.values{γ:Gh}:∀{rs:List (List Aa)} {z b o:Nat},EP γ rs z b o->∃us:List Value,A9 γ rs.flatten us/\us.length=rs.length*z/\∀(j:Nat) (u:Value),us[j]?=some u->γ.Hy b (o+j)=some u
 |[],z,b,o,h=>⟨[],by simp[A9],by simp,by simp⟩
 |x::rs,z,b,o,h=>by
  rw[EP] at h;obtain⟨us,h1,h2⟩:=h.2.1.values;obtain⟨vs,h3,h4,h5⟩:=h.2.2.values;have hl:us.length=z:=by rw[h1.length,h.1]
  refine⟨us++vs,by simpa using h1.append h3,by simp[hl,h4,BB,Nat.add_comm],λj u hj=>?_⟩;rw[List.getElem?_append] at hj;split at hj;·exact h2 j u hj
  .rename_i D1;rw[<-h5 _ _ hj];congr 1
   omega
def HV(γ:Gh)(B:Nat)(w:World)(s:Nat)(c:Option Nat)(v:Value)(a:Aa):Prop:=
 a= .slnil\/∃g n cap us e z Au,a= .sl z Au/\v= .slice (some ⟨g,0,none⟩) n cap/\γ.own g=some (.tail s c (n*z))/\B<=g/\
  w.heap[g]?=some (.cells us e (0,0))/\us.size=cap*z/\n<=cap/\cap<=maxLen/\0<z
def Ko(γ:Gh)(β:Nat->Nat)(B:Nat)(w:World)(s:Nat):D5->Value->Prop
 | .undef,_=>True
 | .skip,v=>v=undef
 | .val a,v=>BE γ a v
 | .NC b,v=>v= .bool b
 | .own a,v=>BE γ a v/\HV γ B w s none v a
 | .box _ cs ow,v=>v= .pointer (some ⟨β s,0,none⟩)/\γ.own (β s)=some (.loc s)/\B<=β s/\
  ∃us e,w.heap[β s]?=some (.cells us e (0,0))/\A9 γ cs us.toList/\(∀u∈us.toList,u.oneCell'=true)/\
   ∀o∈ow,∃u a,us[o]?=some u/\cs[o]?=some a/\HV γ B w s (some o) u a
 | .EG s' o,v=>v= .pointer (some ⟨β s',o,none⟩)
structure FR(γ:Gh)(β:Nat->Nat)(B:Nat)(σ:BD)(tmps:Array Value)(w:World):Prop where
 size:σ.length=tmps.size
 Hs:∀s,Ko γ β B w s (σ.at s) (tmps.getD s undef)
def KU(γ:Gh):List (Aa×Aa)->List MapEntry->Prop
 |[],es=>es=[]
 |(k,v)::l,es=>∃e TU,es=e::TU/\BE γ k e.key/\BE γ v e.val/\KU γ l TU
def vE(γ:Gh)(l:List (Aa×Aa))(es:Array MapEntry)(clock:Nat):Prop:=
 KU γ l es.toList/\clock=es.size/\∀(i:Nat) (e:MapEntry),es[i]?=some e->e.born=i
def RJ(fr:Nat×Nat)(n:Nat):Prop:=fr=(0,0)\/n<=fr.1
structure Gp(γ:Gh)(h:Ad)(w:World):Prop where
 Hy:∀b o v,γ.Hy b o=some v->w.cell? ⟨b,o,none⟩=some v/\v.oneCell'=true/\(γ.own b=none\/∃s c st,γ.own b=some (.tail s c st)/\o<st)
 KT:∀id x,h[id]?=some x->x≠ .CG->∃b,γ.mu id=some b/\γ.own b=some (.KT id)
 cells:∀id cs,h[id]?=some (.cells cs)->∀b,γ.mu id=some b->∃us e fr,w.heap[b]?=some (.cells us e fr)/\RJ fr us.size/\A9 γ cs (us.toList.take cs.length)/\∀u∈us.toList.take cs.length,u.oneCell'=true
 map:∀id es,h[id]?=some (.map es)->∀b,γ.mu id=some b->∃Dk clock,w.heap[b]?=some (.map Dk clock)/\vE γ es Dk clock
 mu:∀id b,γ.mu id=some b->id<h.length
 own:∀b x,γ.own b=some x->b<w.heap.size
 sz:∀b n,γ.sz b=some n->(∃us e fr,w.heap[b]?=some (.cells us e fr)/\us.size=n)/\(γ.own b=none\/∃id,γ.own b=some (.KT id))
structure J3(γ0:Gh)(w0:World)(γ:Gh)(w:World):Prop where
 le:γ0.le γ
 size:w0.heap.size<=w.heap.size
 os:w.os=w0.os
 tape:w.tape=w0.tape
 output:w.output=w0.output
 MO:∀b,b<w0.heap.size->(∀id,γ0.own b≠some (.KT id))->w.heap[b]?=w0.heap[b]?/\γ.own b=γ0.own b
theorem J3.refl(γ:Gh)(w:World):J3 γ w γ w:=⟨.refl _,Ac _,rfl,rfl,rfl,λ_ _ _=>⟨rfl,rfl⟩⟩
theorem J3.trans{γ0 γ1 γ2:Gh}{w0 w1 w2:World}(h:J3 γ0 w0 γ1 w1)(k:J3 γ1 w1 γ2 w2):J3 γ0 w0 γ2 w2:=by refine⟨h.le.trans k.le,Bt h.size k.size,k.os.trans h.os,k.tape.trans h.tape,k.output.trans h.output,λb hb hn=>?_⟩;·obtain⟨h1,h2⟩:=h.MO b hb hn;obtain⟨k1,k2⟩:=k.MO b (ZD hb h.size) (λid=>by rw[h2];exact hn id);exact⟨k1.trans h1,k2.trans h2⟩
structure qJ(γ:Gh)(w:World)(γ':Gh)(w':World):Prop where
 le:γ.le γ'
 MO:∀b x,γ.own b=some x->x.vD=false->γ'.own b=some x/\w'.heap[b]?=w.heap[b]?
theorem qJ.yc{γ γ':Gh}{h:Ad}{w w':World}(hi:Gp γ h w)(ha:J3 γ w γ' w'):qJ γ w γ' w':=by refine⟨ha.le,λb x hb hx=>?_⟩;obtain⟨h1,h2⟩:=ha.MO b (hi.own b x hb) (λid Ht=>by rw[hb] at Ht;cases Ht;simp[Jq.vD] at hx);exact⟨h2.trans hb,h1⟩
theorem HV.kept{γ γ':Gh}{B:Nat}{w w':World}{s:Nat}{c:Option Nat}{v:Value}{a:Aa}(h:HV γ B w s c v a)(k:qJ γ w γ' w'):HV γ' B w' s c v a:=by
 rcases h with h|⟨g,n,cap,us,e,z,Au,h1,h2,h3,h4,h5,h6⟩
 .exact .inl h
 .obtain⟨k1,k2⟩:=k.MO g _ h3 rfl;exact .inr ⟨g,n,cap,us,e,z,Au,h1,h2,k1,h4,by rw[k2];exact h5,h6⟩
theorem Ko.kept{γ γ':Gh}{β:Nat->Nat}{B:Nat}{w w':World}{s:Nat}{x:D5}{v:Value}(h:Ko γ β B w s x v)(k:qJ γ w γ' w'):Ko γ' β B w' s x v:=by
 cases x with
 |undef=>trivial
 |skip=>exact h
 |val a=>exact BE.mono k.le a v h
 |NC b=>exact h
 |own a=>exact⟨BE.mono k.le a v h.1,h.2.kept k⟩
 |box ver cs ow=>obtain⟨h1,h2,h3,us,e,h4,h5,h6,h7⟩:=h;obtain⟨k1,k2⟩:=k.MO _ _ h2 rfl;exact⟨h1,k1,h3,us,e,by rw[k2];exact h4,A9.mono k.le cs _ h5,h6,λo ho=>let⟨u,a,p,q,r⟩:=h7 o ho;⟨u,a,p,q,r.kept k⟩⟩
 |EG s' o=>exact h
theorem FR.kept{γ γ':Gh}{β:Nat->Nat}{B:Nat}{σ:BD}{tmps:Array Value}{w w':World}(h:FR γ β B σ tmps w)(k:qJ γ w γ' w'):FR γ' β B σ tmps w':=
 ⟨h.size,λs=>(h.Hs s).kept k⟩
end Go.Am
end
section
namespace Go.Am
theorem Cw{w w':World}{b o:Nat}(h:w'.heap[b]?=w.heap[b]?):w'.cell? ⟨b,o,none⟩=w.cell? ⟨b,o,none⟩:=by simp[World.cell?,h]
theorem Dn{w:World}{b o:Nat}{v:Value}(h:w.cell? ⟨b,o,none⟩=some v):b<w.heap.size:=by
 rcases AT b w.heap.size with h'|h'
 .exact h'
 .simp[World.cell?,Array.getElem?_eq_none h'] at h
theorem Gp.yd{γ:Gh}{h:Ad}{w:World}(hi:Gp γ h w){b o:Nat}{v:Value}(hb:γ.Hy b o=some v):b<w.heap.size:=Dn (hi.Hy b o v hb).1
theorem Gp.same{γ:Gh}{h:Ad}{w w':World}(hi:Gp γ h w)(hh:w'.heap=w.heap):Gp γ h w':=by
 refine⟨λb o v hb=>?_,hi.KT,λid cs hc b hb=>?_,λid es hc b hb=>?_,hi.mu,λb x hx=>?_,λb n hb=>by rw[hh];exact hi.sz b n hb⟩;·obtain⟨h1,h2,h3⟩:=hi.Hy b o v hb;have e:=Cw (w:=w) (w':=w') (b:=b) (o:=o) (by rw[hh]);exact⟨e.trans h1,h2,h3⟩
 .rw[hh];exact hi.cells id cs hc b hb
 .rw[hh];exact hi.map id es hc b hb
 .rw[hh];exact hi.own b x hx
theorem J3.same{γ:Gh}{w w':World}(hh:w'.heap=w.heap)(h1:w'.os=w.os)(h2:w'.tape=w.tape)(h3:w'.output=w.output):J3 γ w γ w':=
 ⟨.refl _,by rw[hh];exact Ac _,h1,h2,h3,λ_ _ _=>⟨by rw[hh],rfl⟩⟩
theorem J3.drew(γ:Gh)(w:World):J3 γ w γ w.drew:=J3.same rfl rfl rfl rfl
def Gh.C3(γ:Gh)(b:Nat)(us:Array Value)(k:Nat)(x:Option Jq):Gh:=
 {Hy:=λb' o=>if b'=b then(if o<k then us[o]? else none) else γ.Hy b' o,mu:=γ.mu,own:=λb'=>if b'=b then x else γ.own b',sz:=γ.sz}
def Gh.BM(γ:Gh)(b id:Nat)(n:Option Nat):Gh:=
 {Hy:=γ.Hy,mu:=λi=>if i=id then some b else γ.mu i,own:=λb'=>if b'=b then some (.KT id) else γ.own b',sz:=λb'=>if b'=b then n else γ.sz b'}
section
variable{γ:Gh}{h:Ad}{w:World}
theorem Ea(w:World)(o:Obj){b:Nat}(hb:b<w.heap.size):(w.alloc o).heap[b]?=w.heap[b]?:=heap_alloc_old w o b hb
theorem NW(hi:Gp γ h w)(us:Array Value)(e:TypeId)(fr:Nat×Nat)(k:Nat)(x:Option Jq)(h1:∀o u,o<k->us[o]?=some u->u.oneCell'=true)
  (hx:x=none\/(∃s c,x=some (.tail s c k))\/(k=0/\∀id,x≠some (.KT id))):
  Gp (γ.C3 w.heap.size us k x) h (w.alloc (.cells us e fr))/\J3 γ w (γ.C3 w.heap.size us k x) (w.alloc (.cells us e fr)):=by
 have E0:γ.own w.heap.size=none:=by
  cases hc:γ.own w.heap.size with
  |none=>rfl
  |some y=>exact absurd (hi.own _ y hc) (Dd _)
 have vF:∀o,γ.Hy w.heap.size o=none:=λo=>by
  cases hc:γ.Hy w.heap.size o with
  |none=>rfl
  |some y=>exact absurd (hi.yd hc) (Dd _)
 have DV:γ.le (γ.C3 w.heap.size us k x):=⟨λb' o' v' Du=>by
  have:b'≠w.heap.size:=λhe=>by rw[he,vF] at Du;cases Du
  simp only[Gh.C3,if_neg this];exact Du,λ_ _ hm=>hm,λ_ _ hm=>hm⟩
 constructor
 .refine⟨λb o v hb=>?_,λid y Ht hy=>?_,λid cs hc b hb=>?_,λid es hc b hb=>?_,hi.mu,λb y hy=>?_,λb n hb=>?_⟩;rotate_left 5;·obtain⟨⟨Dj,e',qL,p,q⟩,r⟩:=hi.sz b n hb;have MP:b≠w.heap.size:=di (by rw[A0] at p;exact p.1);exact⟨⟨Dj,e',qL,by rw[Ea _ _ (by rw[A0] at p;exact p.1)];exact p,q⟩,by simp only[Gh.C3,if_neg MP];exact r⟩
  .by_cases MP:b=w.heap.size
   .subst MP;simp only[Gh.C3,BK] at hb⊢;split at hb
    .rename_i hlt;refine⟨by rw[cell_of_row _ _ _ us e fr (heap_alloc_new w _)];exact hb,h1 o v hlt hb,?_⟩;rcases hx with hx|⟨s,c,hx⟩|⟨hx,_⟩
     .exact .inl hx
     .exact .inr ⟨s,c,k,hx,hlt⟩
     .omega
    .cases hb
   .simp only[Gh.C3,if_neg MP] at hb⊢;obtain⟨p,q,r⟩:=hi.Hy b o v hb;exact⟨by rw[Cw (Ea w _ (Dn p))];exact p,q,r⟩
  .obtain⟨b,p,q⟩:=hi.KT id y Ht hy;refine⟨b,p,?_⟩;have:b≠w.heap.size:=λhe=>by rw[he,E0] at q;cases q
   simp only[Gh.C3,if_neg this];exact q
  .obtain⟨Dj,e',qL,p,pf,q,r⟩:=hi.cells id cs hc b hb;exact⟨Dj,e',qL,by rw[Ea _ _ (by rw[A0] at p;exact p.1)];exact p,pf,A9.mono DV cs _ q,r⟩
  .obtain⟨Dk,clock,p,q⟩:=hi.map id es hc b hb;refine⟨Dk,clock,by rw[Ea _ _ (by rw[A0] at p;exact p.1)];exact p,?_,q.2⟩;replace q:=q.1;clear hc p;revert q;generalize Dk.toList=l;intro q;induction es generalizing l with
   |nil=>exact q
   |cons kv es ih=>obtain⟨kk,vv⟩:=kv;obtain⟨en,TU,hl,a1,a2,a3⟩:=q;exact⟨en,TU,hl,BE.mono DV _ _ a1,BE.mono DV _ _ a2,ih TU a3⟩
  .by_cases MP:b=w.heap.size;·subst MP;simp
   .simp only[Gh.C3,if_neg MP] at hy;have:=hi.own b y hy;simp;omega
 .refine⟨DV,by simp,rfl,rfl,rfl,λb hb _=>⟨Ea _ _ hb,?_⟩⟩;simp only[Gh.C3,if_neg (di hb)]
theorem KU.mono{γ γ':Gh}(DV:γ.le γ'):∀{es:List (Aa×Aa)} {l:List MapEntry},KU γ es l->KU γ' es l
 |[],l,q=>q
 |(kk,vv)::es,l,q=>by obtain⟨en,TU,hl,a1,a2,a3⟩:=q;exact⟨en,TU,hl,BE.mono DV _ _ a1,BE.mono DV _ _ a2,a3.mono DV⟩
theorem vE.mono{γ γ':Gh}(DV:γ.le γ'){es:List (Aa×Aa)}{l:Array MapEntry}{c:Nat}(h:vE γ es l c):vE γ' es l c:=⟨h.1.mono DV,h.2⟩
theorem FX(hi:Gp γ h w)(o:Obj)(x:Dc)(m:Option Nat)
  (hx:(∃cs us e fr,x= .cells cs/\o= .cells us e fr/\RJ fr us.size/\A9 γ cs (us.toList.take cs.length)/\(∀u∈us.toList.take cs.length,u.oneCell'=true)/\m=some us.size)\/(x= .map []/\o= .map #[] 0/\m=none)):
  Gp (γ.BM w.heap.size h.length m) (h++[x]) (w.alloc o)/\J3 γ w (γ.BM w.heap.size h.length m) (w.alloc o):=by
 have E0:γ.own w.heap.size=none:=by
  cases hc:γ.own w.heap.size with
  |none=>rfl
  |some y=>exact absurd (hi.own _ y hc) (Dd _)
 have hmu:γ.mu h.length=none:=by
  cases hc:γ.mu h.length with
  |none=>rfl
  |some y=>exact absurd (hi.mu _ y hc) (Dd _)
 have hsz:γ.sz w.heap.size=none:=by
  cases hc:γ.sz w.heap.size with
  |none=>rfl
  |some y=>obtain⟨⟨_,_,_,p,_⟩,_⟩:=hi.sz _ y hc;rw[A0] at p;exact absurd p.1 (Dd _)
 have DV:γ.le (γ.BM w.heap.size h.length m):=⟨λ_ _ _ hv=>hv,λid b hm=>by
  have:id≠h.length:=λhe=>by rw[he,hmu] at hm;cases hm
  simp only[Gh.BM,if_neg this];exact hm,λb n hm=>by
  have:b≠w.heap.size:=λhe=>by rw[he,hsz] at hm;cases hm
  simp only[Gh.BM,if_neg this];exact hm⟩
 constructor
 .refine⟨λb o' v hb=>?_,λid y Ht hy=>?_,λid cs hc b hb=>?_,λid es hc b hb=>?_,λid b hb=>?_,λb y hy=>?_,λb n hb=>?_⟩;rotate_left 6
  .by_cases MP:b=w.heap.size
   .subst MP;simp only[Gh.BM,BK] at hb;rcases hx with⟨Gc,us,e,fr,rfl,rfl,pf,p,q,rfl⟩|⟨rfl,rfl,rfl⟩
    .cases hb;exact⟨⟨us,e,fr,heap_alloc_new w _,rfl⟩,.inr ⟨h.length,by simp[Gh.BM]⟩⟩
    .cases hb
   .simp only[Gh.BM,if_neg MP] at hb⊢;obtain⟨⟨Dj,e',qL,p,q⟩,r⟩:=hi.sz b n hb;exact⟨⟨Dj,e',qL,by rw[Ea _ _ (by rw[A0] at p;exact p.1)];exact p,q⟩,r⟩
  .obtain⟨p,q,r⟩:=hi.Hy b o' v hb;have MP:b≠w.heap.size:=di (Dn p);exact⟨by rw[World.cell?_alloc_old _ _ _ MP];exact p,q,by simp only[Gh.BM,if_neg MP];exact r⟩
  .by_cases he:id=h.length;·exact⟨w.heap.size,by simp[Gh.BM,he],by simp[Gh.BM,he]⟩
   .have Uz:id<h.length:=by rw[Ah] at Ht;obtain⟨hl,_⟩:=Ht;simp at hl;omega
    rw[Af Uz] at Ht;obtain⟨b,p,q⟩:=hi.KT id y Ht hy;have MP:b≠w.heap.size:=λhe=>by rw[he,E0] at q;cases q
    exact⟨b,by simp only[Gh.BM,if_neg he];exact p,by simp only[Gh.BM,if_neg MP];exact q⟩
  .by_cases he:id=h.length
   .subst he;simp[Gh.BM] at hb;subst hb;simp at hc;rcases hx with⟨Gc,us,e,fr,rfl,rfl,pf,p,q,rfl⟩|⟨rfl,rfl,rfl⟩
    .cases hc;exact⟨us,e,fr,heap_alloc_new w _,pf,A9.mono DV _ _ p,q⟩
    .cases hc
   .simp only[Gh.BM,if_neg he] at hb;have Uz:=hi.mu id b hb;rw[Af Uz] at hc;obtain⟨Dj,e',qL,p,pf,q,r⟩:=hi.cells id cs hc b hb;exact⟨Dj,e',qL,by rw[Ea _ _ (by rw[A0] at p;exact p.1)];exact p,pf,A9.mono DV _ _ q,r⟩
  .by_cases he:id=h.length
   .subst he;simp[Gh.BM] at hb;subst hb;simp at hc;rcases hx with⟨Gc,us,e,fr,rfl,rfl,pf,p,q,rfl⟩|⟨rfl,rfl,rfl⟩
    .cases hc
    .cases hc;exact⟨#[],0,heap_alloc_new w _,rfl,rfl,by simp⟩
   .simp only[Gh.BM,if_neg he] at hb;have Uz:=hi.mu id b hb;rw[Af Uz] at hc;obtain⟨Dk,clock,p,q⟩:=hi.map id es hc b hb;exact⟨Dk,clock,by rw[Ea _ _ (by rw[A0] at p;exact p.1)];exact p,q.mono DV⟩
  .by_cases he:id=h.length;·simp[he]
   .simp only[Gh.BM,if_neg he] at hb;have:=hi.mu id b hb;simp;omega
  .by_cases MP:b=w.heap.size;·subst MP;simp
   .simp only[Gh.BM,if_neg MP] at hy;have:=hi.own b y hy;simp;omega
 .refine⟨DV,by simp,rfl,rfl,rfl,λb hb _=>⟨Ea _ _ hb,?_⟩⟩;simp only[Gh.BM,if_neg (di hb)]
theorem qM(hi:Gp γ h w){g s:Nat}(hg:γ.own g=some (.loc s))(us:Array Value):Gp γ h (w.setRow g us):=by
 refine⟨λb o v hb=>?_,hi.KT,λid cs hc b hb=>?_,λid es hc b hb=>?_,hi.mu,λb x hx=>?_,λb n hb=>?_⟩;rotate_left 4
 .obtain⟨p,r⟩:=hi.sz b n hb;have:b≠g:=λhe=>by subst he;rw[hg] at r;rcases r with r|⟨_,r⟩<;>cases r
  exact⟨by rw[setRow_other w g b us this];exact p,r⟩
 .obtain⟨p,q,r⟩:=hi.Hy b o v hb;have:b≠g:=λhe=>by subst he;rw[hg] at r;rcases r with r|⟨_,_,_,r,_⟩<;>cases r
  exact⟨by rw[Cw (setRow_other w g b us this)];exact p,q,r⟩
 .have Qq:b≠g:=λhe=>by subst he;obtain⟨b',p,q⟩:=hi.KT id _ hc (by simp);rw[hb] at p;cases p;rw[hg] at q;cases q
  rw[setRow_other w g b us Qq];exact hi.cells id cs hc b hb
 .have Qq:b≠g:=λhe=>by subst he;obtain⟨b',p,q⟩:=hi.KT id _ hc (by simp);rw[hb] at p;cases p;rw[hg] at q;cases q
  rw[setRow_other w g b us Qq];exact hi.map id es hc b hb
 .have:=hi.own b x hx;simpa[World.setRow] using this
theorem Md(hi:Gp γ h w){g id:Nat}{cs:List Aa}(hcs:h[id]?=some (.cells cs))(hg:γ.mu id=some g){us:Array Value}{e:TypeId}{fr:Nat×Nat}(hw:w.heap[g]?=some (.cells us e fr))(Dj:Array Value)(Gc:List Aa)(W8:Dj.size=us.size)(kZ:RJ fr Dj.size)
  (hr:A9 γ Gc (Dj.toList.take Gc.length)) (h1:∀u∈Dj.toList.take Gc.length,u.oneCell'=true):
  Gp γ (h.set id (.cells Gc)) (w.setRow g Dj)/\J3 γ w γ (w.setRow g Dj):=by
 obtain⟨g',p,Rw⟩:=hi.KT id _ hcs (by simp);rw[hg] at p;cases p;have uniq:∀E8 x,h[E8]?=some x->x≠ .CG->γ.mu E8=some g->E8=id:=λE8 x hx ye hm=>by obtain⟨b',p,q⟩:=hi.KT E8 x hx ye;rw[hm] at p;cases p;rw[Rw] at q;cases q;rfl
 constructor
 .refine⟨λb o v hb=>?_,λE8 y Ht hy=>?_,λE8 cs hc b hb=>?_,λE8 es hc b hb=>?_,λE8 b hb=>by simpa using hi.mu E8 b hb,λb x hx=>?_,λb n hb=>?_⟩;rotate_left 5
  .obtain⟨⟨eV,e2,vG,p,q⟩,r⟩:=hi.sz b n hb;by_cases he:b=g;·subst he;rw[hw] at p;cases p;exact⟨⟨Dj,e,fr,setRow_heap w b us Dj e fr hw,by rw[W8];exact q⟩,r⟩
   .exact⟨⟨eV,e2,vG,by rw[setRow_other w g b Dj he];exact p,q⟩,r⟩
  .obtain⟨p,q,r⟩:=hi.Hy b o v hb;have:b≠g:=λhe=>by subst he;rw[Rw] at r;rcases r with r|⟨_,_,_,r,_⟩<;>cases r
   exact⟨by rw[Cw (setRow_other w g b Dj this)];exact p,q,r⟩
  .by_cases he:E8=id;·subst he;exact⟨g,hg,Rw⟩
   .rw[Aj (λx=>he x.symm)] at Ht;exact hi.KT E8 y Ht hy
  .by_cases he:E8=id;·subst he;rw[hg] at hb;cases hb;rw[AN (hi.mu _ _ hg)] at hc;cases hc;exact⟨Dj,e,fr,setRow_heap w g us Dj e fr hw,kZ,hr,h1⟩
   .rw[Aj (λx=>he x.symm)] at hc;have Qq:b≠g:=λhx=>by subst hx;exact he (uniq E8 _ hc (by simp) hb)
    rw[setRow_other w g b Dj Qq];exact hi.cells E8 cs hc b hb
  .by_cases he:E8=id;·subst he;rw[AN (hi.mu _ _ hg)] at hc;cases hc
   .rw[Aj (λx=>he x.symm)] at hc;have Qq:b≠g:=λhx=>by subst hx;exact he (uniq E8 _ hc (by simp) hb)
    rw[setRow_other w g b Dj Qq];exact hi.map E8 es hc b hb
  .have:=hi.own b x hx;simpa[World.setRow] using this
 .refine⟨.refl _,by simp[World.setRow],rfl,rfl,rfl,λb hb hn=>⟨?_,rfl⟩⟩;exact setRow_other w g b Dj (λhe=>by subst he;exact hn id Rw)
theorem eW(hi:Gp γ h w){g s st:Nat}{c:Option Nat}(hg:γ.own g=some (.tail s c st)){us:Array Value}{e:TypeId}(hw:w.heap[g]?=some (.cells us e (0,0)))(Dj:Array Value)(k:Nat)(s':Nat)(c':Option Nat)
  (Me:∀o,o<st->Dj[o]?=us[o]?) (hk:st<=k) (h1:∀o u,o<k->Dj[o]?=some u->u.oneCell'=true) (X9:∀o v,γ.Hy g o=some v->us[o]?=some v):
  Gp (γ.C3 g Dj k (some (.tail s' c' k))) h (w.setRow g Dj)/\γ.le (γ.C3 g Dj k (some (.tail s' c' k))):=by
 have hlt:∀o v,γ.Hy g o=some v->o<st:=λo v ho=>by
  obtain⟨_,_,r⟩:=hi.Hy g o v ho;rw[hg] at r;rcases r with r|⟨_,_,_,r,hl⟩
  .cases r
  .cases r;exact hl
 have DV:γ.le (γ.C3 g Dj k (some (.tail s' c' k))):=⟨λb o v hb=>by
  by_cases he:b=g;·subst he;have:=hlt o v hb;simp only[Gh.C3,BK,if_pos (ZD this hk)];rw[Me o this];exact X9 o v hb
  .simp only[Gh.C3,if_neg he];exact hb,λ_ _ hm=>hm,λ_ _ hm=>hm⟩
 refine⟨⟨λb o v hb=>?_,λid y Ht hy=>?_,λid cs hc b hb=>?_,λid es hc b hb=>?_,hi.mu,λb x hx=>?_,λb n hb=>?_⟩,DV⟩;rotate_left 5
 .obtain⟨p,r⟩:=hi.sz b n hb;have:b≠g:=λhe=>by subst he;rw[hg] at r;rcases r with r|⟨_,r⟩<;>cases r
  exact⟨by rw[setRow_other w g b Dj this];exact p,by simp only[Gh.C3,if_neg this];exact r⟩
 .by_cases he:b=g
  .subst he;simp only[Gh.C3,BK] at hb⊢;split at hb
   .rename_i hl;exact⟨by rw[cell_of_row _ _ _ Dj e (0,0) (setRow_heap w b us Dj e (0,0) hw)];exact hb,
     h1 o v hl hb,.inr ⟨s',c',k,rfl,hl⟩⟩
   .cases hb
  .simp only[Gh.C3,if_neg he] at hb⊢;obtain⟨p,q,r⟩:=hi.Hy b o v hb;exact⟨by rw[Cw (setRow_other w g b Dj he)];exact p,q,r⟩
 .obtain⟨b,p,q⟩:=hi.KT id y Ht hy;have:b≠g:=λhe=>by subst he;rw[hg] at q;cases q
  exact⟨b,p,by simp only[Gh.C3,if_neg this];exact q⟩
 .replace hb:γ.mu id=some b:=hb;obtain⟨b',p,q⟩:=hi.KT id _ hc (by simp);rw[hb] at p;cases p;have:b≠g:=λhe=>by subst he;rw[hg] at q;cases q
  rw[setRow_other w g b Dj this];obtain⟨eV,e2,vG,p2,yf,q2,r2⟩:=hi.cells id cs hc b hb;exact⟨eV,e2,vG,p2,yf,A9.mono DV _ _ q2,r2⟩
 .replace hb:γ.mu id=some b:=hb;obtain⟨b',p,q⟩:=hi.KT id _ hc (by simp);rw[hb] at p;cases p;have:b≠g:=λhe=>by subst he;rw[hg] at q;cases q
  rw[setRow_other w g b Dj this];obtain⟨Dk,clock,p2,q2⟩:=hi.map id es hc b hb;exact⟨Dk,clock,p2,q2.mono DV⟩
 .by_cases he:b=g;·subst he;have:=hi.own b _ hg;simpa[World.setRow] using this
  .simp only[Gh.C3,if_neg he] at hx;have:=hi.own b x hx;simpa[World.setRow] using this
theorem J3.write{γ0 γ1:Gh}{w0:World}(ha:J3 γ0 w0 γ w){w1:World}{g:Nat}(hg:w0.heap.size<=g)(DV:γ.le γ1)(hs:w1.heap.size=w.heap.size)(h1:w1.os=w.os)(h2:w1.tape=w.tape)(h3:w1.output=w.output)
  (hk:∀b,b≠g->w1.heap[b]?=w.heap[b]?/\γ1.own b=γ.own b):J3 γ0 w0 γ1 w1:=by
 refine⟨ha.le.trans DV,by rw[hs];exact ha.size,h1.trans ha.os,h2.trans ha.tape,h3.trans ha.output,λb hb hn=>?_⟩;·obtain⟨p,q⟩:=ha.MO b hb hn;obtain⟨p',q'⟩:=hk b (by omega);exact⟨p'.trans p,q'.trans q⟩
theorem vH(hi:Gp γ h w){g id:Nat}{cs:List Aa}(hcs:h[id]?=some (.cells cs))(hg:γ.mu id=some g){us:Array Value}{e:TypeId}{fr:Nat×Nat}(hw:w.heap[g]?=some (.cells us e fr))(h1:∀u∈us.toList.take cs.length,u.oneCell'=true):
  Gp (γ.C3 g us cs.length none) (h.set id .CG) w/\J3 γ w (γ.C3 g us cs.length none) w:=by
 obtain⟨g',p,Rw⟩:=hi.KT id _ hcs (by simp);rw[hg] at p;cases p;have uniq:∀E8 x,h[E8]?=some x->x≠ .CG->γ.mu E8=some g->E8=id:=λE8 x hx ye hm=>by obtain⟨b',p,q⟩:=hi.KT E8 x hx ye;rw[hm] at p;cases p;rw[Rw] at q;cases q;rfl
 have hne:∀o v,γ.Hy g o=some v->False:=λo v hv=>by obtain⟨_,_,r⟩:=hi.Hy g o v hv;rw[Rw] at r;rcases r with r|⟨_,_,_,r,_⟩<;>cases r
 have DV:γ.le (γ.C3 g us cs.length none):=⟨λb o v hb=>by
  have:b≠g:=λhe=>by subst he;exact hne o v hb
  simp only[Gh.C3,if_neg this];exact hb,λ_ _ hm=>hm,λ_ _ hm=>hm⟩
 constructor
 .refine⟨λb o v hb=>?_,λE8 y Ht hy=>?_,λE8 Gc hc b hb=>?_,λE8 es hc b hb=>?_,λE8 b hb=>by simpa using hi.mu E8 b hb,λb x hx=>?_,λb n hb=>?_⟩;rotate_left 5
  .obtain⟨p,r⟩:=hi.sz b n hb;by_cases he:b=g;·subst he;exact⟨p,.inl (by simp[Gh.C3])⟩
   .exact⟨p,by simp only[Gh.C3,if_neg he];exact r⟩
  .by_cases he:b=g
   .subst he;simp only[Gh.C3,BK] at hb⊢;split at hb;·rename_i hlt;exact⟨by rw[cell_of_row _ _ _ us e fr hw];exact hb,h1 v (CD (i:=o) (by rw[C6 hlt];simpa using hb)),.inl (by simp)⟩
    .cases hb
   .simp only[Gh.C3,if_neg he] at hb⊢;exact hi.Hy b o v hb
  .by_cases he:E8=id;·subst he;rw[AN (hi.mu _ _ hg)] at Ht;cases Ht;exact absurd rfl hy
   .rw[Aj (λx=>he x.symm)] at Ht;obtain⟨b,p,q⟩:=hi.KT E8 y Ht hy;have:b≠g:=λhx=>by subst hx;exact he (uniq E8 y Ht hy p)
    exact⟨b,p,by simp only[Gh.C3,if_neg this];exact q⟩
  .by_cases he:E8=id;·subst he;rw[AN (hi.mu _ _ hg)] at hc;cases hc
   .rw[Aj (λx=>he x.symm)] at hc;obtain⟨Dj,e',qL,p,pf,q,r⟩:=hi.cells E8 Gc hc b hb;exact⟨Dj,e',qL,p,pf,A9.mono DV _ _ q,r⟩
  .by_cases he:E8=id;·subst he;rw[AN (hi.mu _ _ hg)] at hc;cases hc
   .rw[Aj (λx=>he x.symm)] at hc;obtain⟨Dj,e',p,q⟩:=hi.map E8 es hc b hb;exact⟨Dj,e',p,q.mono DV⟩
  .by_cases he:b=g;·subst he;exact hi.own b _ Rw
   .simp only[Gh.C3,if_neg he] at hx;exact hi.own b x hx
 .refine⟨DV,Ac _,rfl,rfl,rfl,λb hb hn=>⟨rfl,?_⟩⟩;have:b≠g:=λhe=>by subst he;exact hn id Rw
  simp only[Gh.C3,if_neg this]
end
end Go.Am
end
section
namespace Go.Am
def Er.Mf(C:FG)(run:IT->Ad->Option Jo)(σ:BD)(h:Ad)(σ':BD)(h':Ad):Er->Prop
 | .pure ws=>σ'=σ.Eb ws/\h'=h
 | .op p args dst own dem=>∃v,Aw p args=some v/\σ'=(σ.Dm dem).put dst (if own then .own v else .val v)/\h'=h
 | .box n v d=>v.cells.length=n/\σ'=σ.set d (.box 0 v.cells [])/\h'=h
 | .KC fn a b fz d=>σ'=(σ.Eb (fz.map λ(s,cs)=>(s,.val (.CA cs)))).set d (.val (.func fn a b))/\h'=h
 | .LO s off n v own dem ver cells owned=>v.cells.length=n/\σ'=(σ.Dm dem).set s (.box (ver+1) (Uu cells off n v.cells) (Qv owned off n own))/\h'=h
 | .load n p dst=>∃v,A6 h n p=some v/\σ'=σ.put dst (.val v)/\h'=h
 | .store n p v=>Cv h n p v=some h'/\σ'=σ
 | .alloc n v dst=>v.cells.length=n/\h'=h++[.cells v.cells]/\σ'=σ.put dst (.val (.ptr (some (h.length,0))))
 | .call f args dst=>∃r,run (B5 C f args) h=some (.ret,[r],h')/\σ'=σ.put dst (if C.Ii f then .own r else .val r)
 | .FF g args dst=>∃f args' r,Dt g args=some (f,args')/\run (B5 C f args') h=some (.ret,[r],h')/\σ'=σ.put dst (.val r)
 | .Bc f args dst=>args.all Aa.Ls=true/\∃r h1,run (B5 C f args) []=some (.ret,[r],h1)/\r.Ls=true/\σ'=σ.put dst (.val r)/\h'=h
 | .O7 dst=>h'=h++[.map []]/\σ'=σ.put dst (.val (.map (some h.length)))
 | .J0 m k v=>SA h m k v=some h'/\σ'=σ
 | .make z b zero l c dst=>∃v,Ul h z b zero l c=some (h',v)/\σ'=σ.put dst (.val v)
 | .HC z b s x dst dem=>∃v,Jv h z b s x=some (h',v)/\σ'=(σ.Dm dem).put dst (.val v)
 | .FE z b s x dst=>∃v,Fk h z b s x=some (h',v)/\σ'=σ.put dst (.val v)
 | .FV z b s x dst dem=>∃v,Pg h z b s x=some v/\σ'=(σ.Dm dem).put dst (.own v)/\h'=h
 | .E7 s dst=>∃v,IM h s=some (h',v)/\σ'=σ.put dst (.val v)
 | .Th s dst=>∃v u,Kl h s=some (h',v)/\Aw .Th [v]=some u/\σ'=σ.put dst (.val u)
 | .mem o args dst=>∃v,Ep o h args=some (h',v)/\σ'=σ.put dst (if o.aDj then .undef else .val v)
 | .Mb z ok m k dst=>∃v,SB h z ok m k=some v/\σ'=σ.put dst (.val v)/\h'=h
theorem RK{n:Nat}{cs:List Aa}(h:cs.length=n):Ut n cs=cs:=by
 subst h;apply List.ext_getElem?;intro i;simp only[Ut,Cr,List.getD];by_cases hi:i<cs.length;·simp[List.getElem?_range hi,Ae hi]
 .simp[hi]
theorem W9{C:FG}{run:IT->Ad->Option Jo}{σ:BD}{K:BD->IT}{h:Ad}{R:Jo}{r:Er}
  (hr:IT.step (B5 C) run (r.LR C σ K) h=some R):∃σ' h',r.Mf C run σ h σ' h'/\IT.step (B5 C) run (K σ') h'=some R:=by
 cases r with
 |pure ws=>exact⟨_,_,⟨rfl,rfl⟩,hr⟩
 |op p args dst own dem=>
  simp only[Er.LR,IT.step] at hr;split at hr;·rename_i v hv;exact⟨_,_,⟨v,hv,rfl,rfl⟩,hr⟩
  .cases hr
 |box n v d=>
  simp only[Er.LR,IT.step] at hr;split at hr;·rename_i hn;rw[RK hn] at hr;exact⟨_,_,⟨hn,rfl,rfl⟩,hr⟩
  .cases hr
 |KC fn a b fz d=>exact⟨_,_,⟨rfl,rfl⟩,hr⟩
 |LO s off n v own dem ver cells owned=>
  simp only[Er.LR,IT.step] at hr;split at hr;·rename_i hn;rw[RK hn] at hr;exact⟨_,_,⟨hn,rfl,rfl⟩,hr⟩
  .cases hr
 |load n p dst=>
  simp only[Er.LR,IT.step] at hr;split at hr;·rename_i v hv;exact⟨_,_,⟨v,hv,rfl,rfl⟩,hr⟩
  .cases hr
 |store n p v=>
  simp only[Er.LR,IT.step] at hr;split at hr;·rename_i h1 hv;exact⟨_,_,⟨hv,rfl⟩,hr⟩
  .cases hr
 |alloc n v dst=>
  simp only[Er.LR,IT.step,X6] at hr;by_cases hn:v.cells.length=n;·rw[if_pos hn] at hr;exact⟨_,_,⟨hn,rfl,rfl⟩,hr⟩
  .rw[if_neg hn] at hr;cases hr
 |call f args dst=>
  simp only[Er.LR,IT.step] at hr;split at hr;·rename_i r h1 hv;exact⟨_,_,⟨r,hv,rfl⟩,hr⟩
  .cases hr
 |FF g args dst=>
  simp only[Er.LR,IT.step] at hr;split at hr
  .rename_i f a' ht;split at hr;·rename_i r h1 hv;exact⟨_,_,⟨f,a',r,ht,hv,rfl⟩,hr⟩
   .cases hr
  .cases hr
 |Bc f args dst=>
  simp only[Er.LR,IT.step] at hr;split at hr
  .rename_i GG;split at hr
   .rename_i r h1 hv;split at hr;·rename_i th;exact⟨_,_,⟨GG,r,h1,hv,th,rfl,rfl⟩,hr⟩
    .cases hr
   .cases hr
  .cases hr
 |O7 dst=>exact⟨_,_,⟨rfl,rfl⟩,hr⟩
 |J0 m k v=>
  simp only[Er.LR,IT.step] at hr;split at hr;·rename_i h1 hv;exact⟨_,_,⟨hv,rfl⟩,hr⟩
  .cases hr
 |Mb z ok m k dst=>
  simp only[Er.LR,IT.step] at hr;split at hr;·rename_i v hv;exact⟨_,_,⟨v,hv,rfl,rfl⟩,hr⟩
  .cases hr
 |make z b zero l c dst=>
  simp only[Er.LR,IT.step] at hr;split at hr;·rename_i h1 v hv;exact⟨_,_,⟨v,hv,rfl⟩,hr⟩
  .cases hr
 |HC z b s x dst dem=>
  simp only[Er.LR,IT.step] at hr;split at hr;·rename_i h1 v hv;exact⟨_,_,⟨v,hv,rfl⟩,hr⟩
  .cases hr
 |FE z b s x dst=>
  simp only[Er.LR,IT.step] at hr;split at hr;·rename_i h1 v hv;exact⟨_,_,⟨v,hv,rfl⟩,hr⟩
  .cases hr
 |FV z b s x dst dem=>
  simp only[Er.LR,IT.step] at hr;split at hr;·rename_i v hv;exact⟨_,_,⟨v,hv,rfl,rfl⟩,hr⟩
  .cases hr
 |E7 s dst=>
  simp only[Er.LR,IT.step] at hr;split at hr;·rename_i h1 v hv;exact⟨_,_,⟨v,hv,rfl⟩,hr⟩
  .cases hr
 |Th s dst=>
  simp only[Er.LR,IT.step] at hr;split at hr
  .rename_i h1 v hv;split at hr;·rename_i u hu;exact⟨_,_,⟨v,u,hv,hu,rfl⟩,hr⟩
   .cases hr
  .cases hr
 |mem o args dst=>
  simp only[Er.LR,IT.step] at hr;split at hr;·rename_i h1 v hv;exact⟨_,_,⟨v,hv,rfl⟩,hr⟩
  .cases hr
structure CR(C:FG)(γ0:Gh)(w0:World)(γ:Gh)(β:Nat->Nat)(σ:BD)(h:Ad)(a:Act)(w:World):Prop where
 DD:Gp γ h w
 fr:FR γ β w0.heap.size σ a.tmps w
 Dw:J3 γ0 w0 γ w
 defers:a.defers=[]
 Gf:∀g cs,C.Gf g=some cs->CI γ cs g 0
theorem Qz{γ:Gh}{v:Value}{a:Aa}(h:NS v=some a):BE γ a v/\v.oneCell'=true:=by
 unfold NS at h;split at h;case h_7=>
  rename_i fn f c;split at h;·rename_i hs;cases h;have e1:f=#[]:=Sx hs.1;have e2:c=#[]:=Sx hs.2;subst e1;subst e2;exact⟨⟨#[],#[],rfl,rfl,rfl⟩,rfl⟩
  .cases h
 all_goals first
  |(cases h;exact⟨rfl,rfl⟩)
  |cases h
theorem LS{γ:Gh}:∀{vs:List Value} {as:List Aa},KJ vs=some as->A9 γ as vs/\∀v∈vs,v.oneCell'=true
 |[],as,h=>by cases h;exact⟨rfl,by simp⟩
 |v::vs,as,h=>by
  unfold KJ at h;split at h;·rename_i a as' h1 h2;cases h;obtain⟨p,q⟩:=Qz (γ:=γ) h1;obtain⟨p',q'⟩:=LS (γ:=γ) h2;exact⟨⟨v,vs,rfl,p,p'⟩,λx hx=>(AL.1 hx).elim (λe=>by rw[e];exact q) (q' x)⟩
  .cases h
theorem ER{γ:Gh}{v:Value}{a:Aa}(h:JQ v=some a):BE γ a v:=by
 unfold JQ at h;split at h
 .rename_i cs;cases hs:KJ cs.toList with
  |none=>rw[hs] at h;cases h
  |some as=>rw[hs] at h;cases h;obtain⟨p,q⟩:=LS (γ:=γ) hs;exact⟨cs,rfl,p,q⟩
 .exact(Qz h).1
section
variable{C:FG}{γ0 γ:Gh}{w0 w:World}{β:Nat->Nat}{σ:BD}{h:Ad}{a:Act}
theorem PR(hr:CR C γ0 w0 γ β σ h a w){x:Operand}{sl:D5}(hx:DK C σ x=some sl)(hn:∀s,x≠ .tmp s):∃s,Ko γ β w0.heap.size w s sl (a.eval x):=by
 unfold DK at hx;split at hx;·exact absurd rfl (hn _)
 .cases hx;exact⟨0,rfl⟩
 .cases hx;exact⟨0,rfl,.inl rfl⟩
 .rename_i v _ _;cases hc:JQ v with
  |none=>rw[hc] at hx;cases hx
  |some u=>rw[hc] at hx;cases hx;exact⟨0,ER hc⟩
 .rename_i g;cases hc:C.Gf g with
  |none=>rw[hc] at hx;cases hx
  |some cs=>rw[hc] at hx;cases hx;exact⟨0,g,0,rfl,hr.Gf g cs hc⟩
 .cases hx;exact⟨0,#[],#[],rfl,rfl,rfl⟩
theorem QA(hr:CR C γ0 w0 γ β σ h a w)(s:Nat):Ko γ β w0.heap.size w s (σ.at s) (a.eval (.tmp s)):=hr.fr.Hs s
theorem Fv(hr:CR C γ0 w0 γ β σ h a w){x:Operand}{sl:D5}(hx:DK C σ x=some sl):∃s,Ko γ β w0.heap.size w s sl (a.eval x)/\∀t,x= .tmp t->s=t:=by
 cases x with
 |tmp t=>cases hx;exact⟨t,QA hr t,λ_ h=>by cases h;rfl⟩
 |const v=>obtain⟨s,h1⟩:=PR hr hx (by intro s h;cases h);exact⟨s,h1,λ_ h=>by cases h⟩
 |global g=>obtain⟨s,h1⟩:=PR hr hx (by intro s h;cases h);exact⟨s,h1,λ_ h=>by cases h⟩
 |func f=>obtain⟨s,h1⟩:=PR hr hx (by intro s h;cases h);exact⟨s,h1,λ_ h=>by cases h⟩
theorem Mg{B s:Nat}{sl:D5}{v:Value}{u:Aa}(hs:Ko γ β B w s sl v)(hv:sl.Gr=some u):BE γ u v:=by
 cases sl<;>simp[D5.Gr] at hv;·subst hv;exact hs
 .subst hv;exact hs
 .subst hv;exact hs.1
theorem FQ(hr:CR C γ0 w0 γ β σ h a w){x:Operand}{u:Aa}(hx:Es C σ x=some u):BE γ u (a.eval x):=by
 unfold Es at hx;cases hs:DK C σ x with
 |none=>rw[hs] at hx;cases hx
 |some sl=>rw[hs] at hx;obtain⟨s,h1,_⟩:=Fv hr hs;exact Mg h1 hx
theorem Dx(hr:CR C γ0 w0 γ β σ h a w):∀{xs:List Operand} {us:List Aa},Bq C σ xs=some us->A9 γ us (xs.map a.eval)
 |[],us,hx=>by cases hx;rfl
 |x::xs,us,hx=>by
  unfold Bq at hx;split at hx;·rename_i u Dj h1 h2;cases hx;exact⟨_,_,rfl,FQ hr h1,Dx hr h2⟩
  .cases hx
theorem FR.put{B:Nat}{tmps:Array Value}(hf:FR γ β B σ tmps w){d:Nat}{x:D5}{v:Value}(hx:Ko γ β B w d x v):FR γ β B (σ.set d x) (tmps.setIfInBounds d v) w:=by
 refine⟨by simp[hf.size],λs=>?_⟩;have hs:=hf.Hs s;by_cases he:s=d
 .subst he;by_cases hl:s<σ.length
  .have hl':s<tmps.size:=by rw[<-hf.size];exact hl
   simpa[BD.at,List.getD,hl,hl',Array.getD] using hx
  .have hl':¬s<tmps.size:=by rw[<-hf.size];exact hl
   simpa[BD.at,List.getD,hl,hl',Array.getD] using hs
 .have h1:BD.at (σ.set d x) s=σ.at s:=by simp[BD.at,List.getD,Aj (λe=>he e.symm)]
  have h2:(tmps.setIfInBounds d v).getD s undef=tmps.getD s undef:=by simp[Lq,Array.getElem?_setIfInBounds_ne (λe=>he e.symm)]
  rw[h1,h2];exact hs
theorem FR.ZY{B:Nat}{tmps:Array Value}(hf:FR γ β B σ tmps w){d:Nat}{x:D5}(hx:Ko γ β B w d x (tmps.getD d undef)):FR γ β B (σ.set d x) tmps w:=by
 refine⟨by simp[hf.size],λs=>?_⟩;have hs:=hf.Hs s;by_cases he:s=d
 .subst he;by_cases hl:s<σ.length;·simpa[BD.at,List.getD,hl] using hx
  .simpa[BD.at,List.getD,hl] using hs
 .have h1:BD.at (σ.set d x) s=σ.at s:=by simp[BD.at,List.getD,Aj (λe=>he e.symm)]
  rw[h1];exact hs
theorem CR.put(hr:CR C γ0 w0 γ β σ h a w){d:Option Nat}{x:D5}{v:Value}(hx:∀s,d=some s->Ko γ β w0.heap.size w s x v):CR C γ0 w0 γ β (σ.put d x) h (a.put d v) w:=by
 cases d with
 |none=>exact hr
 |some d=>exact⟨hr.DD,hr.fr.put (hx d rfl),hr.Dw,hr.defers,hr.Gf⟩
theorem CR.ZY(hr:CR C γ0 w0 γ β σ h a w){d:Nat}{x:D5}(hx:Ko γ β w0.heap.size w d x (a.tmps.getD d undef)):CR C γ0 w0 γ β (σ.set d x) h a w:=
 ⟨hr.DD,hr.fr.ZY hx,hr.Dw,hr.defers,hr.Gf⟩
theorem CR.drop(hr:CR C γ0 w0 γ β σ h a w)(ds:List Nat):CR C γ0 w0 γ β (σ.drop ds) h a w:=by
 cases ds with
 |nil=>exact hr
 |cons d ds=>
  refine⟨hr.DD,⟨by simp[BD.drop,hr.fr.size],λs=>?_⟩,hr.Dw,hr.defers,hr.Gf⟩;have hs:=hr.fr.Hs s;have e:(BD.drop σ (d::ds)).at s=match σ.at s with| .EG t o=>if(d::ds).contains t then .undef else .EG t o|x=>x:=by
   simp only[BD.drop,BD.at,List.getD,Cr];cases hg:σ[s]? with
   |none=>rfl
   |some x=>cases x<;>rfl
  rw[e];cases hx:σ.at s with
  |EG t o=>
   rw[hx] at hs;simp only
   split;·trivial
   .exact hs
  |_=>rw[hx] at hs;exact hs
theorem CR.world(hr:CR C γ0 w0 γ β σ h a w){γ':Gh}{h':Ad}{w':World}(hi:Gp γ' h' w')(ha:J3 γ w γ' w'):CR C γ0 w0 γ' β σ h' a w':=
 ⟨hi,hr.fr.kept (qJ.yc hr.DD ha),hr.Dw.trans ha,hr.defers,λg cs hg=>CI.mono ha.le _ _ _ (hr.Gf g cs hg)⟩
theorem Ir{P:Program}{o:Oper}{v:Value}{w':World}{next:Act->World->Prop}{Q:Exit->Act->World->Prop}(he:(execOp a.eval o).run P w= .ok (.value v) w')(hn:next (a.put o.dst v) w'):o.wp P a w next Q:=by unfold Oper.wp;rw[he];exact hn
theorem eX{P:Program}{o:Oper}{w':World}{next:Act->World->Prop}{Q:Exit->Act->World->Prop}(he:(execOp a.eval o).run P w= .ok .skip w')(hn:next (a.put o.dst undef) w'):o.wp P a w next Q:=by unfold Oper.wp;rw[he];exact hn
end
end Go.Am
end
section
namespace Go.Am
def Gh.E9(γ:Gh)(g:Nat)(x:Jq):Gh:={γ with own:=λb=>if b=g then some x else γ.own b}
section
variable{C:FG}{γ0 γ:Gh}{w0 w:World}{β:Nat->Nat}{σ:BD}{h:Ad}{a:Act}
theorem Gt(γ:Gh)(g:Nat)(x:Jq):γ.le (γ.E9 g x):=⟨λ_ _ _ h=>h,λ_ _ h=>h,λ_ _ h=>h⟩
theorem Gp.E9(hi:Gp γ h w){g s s' st:Nat}{c c':Option Nat}(hg:γ.own g=some (.tail s c st)):Gp (γ.E9 g (.tail s' c' st)) h w:=by
 refine⟨λb o v hb=>?_,λid y Ht hy=>?_,λid cs hc b hb=>?_,λid es hc b hb=>?_,hi.mu,λb x hx=>?_,λb n hb=>?_⟩;rotate_left 5
 .obtain⟨p,r⟩:=hi.sz b n hb;have:b≠g:=λhe=>by subst he;rw[hg] at r;rcases r with r|⟨_,r⟩<;>cases r
  exact⟨p,by simp only[Gh.E9,if_neg this];exact r⟩
 .obtain⟨p,q,r⟩:=hi.Hy b o v hb;refine⟨p,q,?_⟩;by_cases he:b=g
  .subst he;rw[hg] at r;rcases r with r|⟨_,_,_,r,hl⟩
   .cases r
   .cases r;exact .inr ⟨s',c',st,by simp[Gh.E9],hl⟩
  .simpa only[Gh.E9,if_neg he] using r
 .obtain⟨b,p,q⟩:=hi.KT id y Ht hy;have:b≠g:=λhe=>by subst he;rw[hg] at q;cases q
  exact⟨b,p,by simp only[Gh.E9,if_neg this];exact q⟩
 .obtain⟨us,e,fr,p,pf,q,r⟩:=hi.cells id cs hc b hb;exact⟨us,e,fr,p,pf,A9.mono (Gt γ g _) _ _ q,r⟩
 .obtain⟨us,e,p,q⟩:=hi.map id es hc b hb;exact⟨us,e,p,q.mono (Gt γ g _)⟩
 .by_cases he:b=g;·subst he;exact hi.own b _ hg
  .simp only[Gh.E9,if_neg he] at hx;exact hi.own b x hx
theorem HV.E9{B:Nat}{s s2 st:Nat}{c c2:Option Nat}{v:Value}{u:Aa}{x:Jq}{g:Nat}(hg:γ.own g=some (.tail s c st))(ho:HV γ B w s2 c2 v u)(hne:s2≠s\/c2≠c):HV (γ.E9 g x) B w s2 c2 v u:=by
 rcases ho with ho|⟨g2,n,cap,us,e,z,Au,h1,h2,h3,h4⟩
 .exact .inl ho
 .have:g2≠g:=λhe=>by subst he;rw[hg] at h3;cases h3;rcases hne with hne|hne<;>exact hne rfl
  exact .inr ⟨g2,n,cap,us,e,z,Au,h1,h2,by simp only[Gh.E9,if_neg this];exact h3,h4⟩
theorem FR.E9{B:Nat}{tmps:Array Value}(hf:FR γ β B σ tmps w){g s st:Nat}{c:Option Nat}{x:Jq}(hg:γ.own g=some (.tail s c st))
  (h1:c=none->∀v,σ.at s≠ .own v) (h2:∀o,c=some o->∀ver cs ow,σ.at s= .box ver cs ow->o∉ow):FR (γ.E9 g x) β B σ tmps w:=by
 refine⟨hf.size,λs2=>?_⟩;have hs:=hf.Hs s2;cases hx:σ.at s2 with
 |undef=>trivial
 |skip=>rw[hx] at hs;exact hs
 |val u=>rw[hx] at hs;exact BE.mono (Gt γ g x) _ _ hs
 |NC b=>rw[hx] at hs;exact hs
 |own u=>
  rw[hx] at hs;refine⟨BE.mono (Gt γ g x) _ _ hs.1,hs.2.E9 hg ?_⟩;by_cases he:s2=s
  .subst he;cases c with
   |none=>exact absurd hx (h1 rfl u)
   |some o=>exact .inr (by simp)
  .exact .inl he
 |box ver cs ow=>
  rw[hx] at hs;obtain⟨p1,p2,p3,us,e,p4,p5,p6,p7⟩:=hs;have hb:β s2≠g:=λhe=>by rw[he,hg] at p2;cases p2
  refine⟨p1,by simp only[Gh.E9,if_neg hb];exact p2,p3,us,e,p4,A9.mono (Gt γ g x) _ _ p5,p6,λo ho=>?_⟩;obtain⟨u,v,q1,q2,q3⟩:=p7 o ho;refine⟨u,v,q1,q2,q3.E9 hg ?_⟩;by_cases he:s2=s
  .subst he;cases c with
   |none=>exact .inr (by simp)
   |some o'=>refine .inr λhe=>?_;cases he;exact h2 o rfl ver cs ow hx ho
  .exact .inl he
 |EG s' o=>rw[hx] at hs;exact hs
theorem CR.E9(hr:CR C γ0 w0 γ β σ h a w){g s st s':Nat}{c c':Option Nat}(hg:γ.own g=some (.tail s c st))(hB:w0.heap.size<=g)
  (h1:c=none->∀v,σ.at s≠ .own v) (h2:∀o,c=some o->∀ver cs ow,σ.at s= .box ver cs ow->o∉ow):CR C γ0 w0 (γ.E9 g (.tail s' c' st)) β σ h a w:=by
 refine⟨hr.DD.E9 hg,hr.fr.E9 hg h1 h2,?_,hr.defers,λx cs hx=>CI.mono (Gt γ g _) _ _ _ (hr.Gf x cs hx)⟩;refine⟨hr.Dw.le.trans (Gt γ g _),hr.Dw.size,hr.Dw.os,hr.Dw.tape,hr.Dw.output,λb hb hn=>?_⟩;·obtain⟨p,q⟩:=hr.Dw.MO b hb hn;exact⟨p,by simp only[Gh.E9,if_neg (show b≠g by omega)];exact q⟩
theorem BD.ES{s:Nat}{x:D5}(hs:s<σ.length):BD.at (σ.set s x) s=x:=by simp[BD.at,List.getD,hs]
theorem BD.Fl{s t:Nat}{x:D5}(hs:s≠t):BD.at (σ.set s x) t=σ.at t:=by simp[BD.at,List.getD,Aj hs]
theorem BD.NX{s:Nat}(hs:σ.at s≠ .undef):s<σ.length:=by
 rcases AT s σ.length with h|h
 .exact h
 .exact absurd (by simp[BD.at,List.getD,EZ h]) hs
theorem CR.take(hr:CR C γ0 w0 γ β σ h a w){s:Nat}{v:Aa}(hs:σ.at s= .own v)(s':Nat)(c':Option Nat):
  ∃γ',γ.le γ'/\CR C γ0 w0 γ' β (σ.set s (.val v)) h a w/\BE γ' v (a.tmps.getD s undef)/\HV γ' w0.heap.size w s' c' (a.tmps.getD s undef) v:=by
 have h0:=hr.fr.Hs s;rw[hs] at h0;obtain⟨hv,ho⟩:=h0;have Jr:CR C γ0 w0 γ β (σ.set s (.val v)) h a w:=hr.ZY hv;have hl:s<σ.length:=BD.NX (by rw[hs];simp);rcases ho with ho|⟨g,n,cap,us,e,z,Au,h1,h2,h3,h4,h5⟩
 .exact⟨γ,.refl _,Jr,hv,.inl ho⟩
 .refine⟨γ.E9 g (.tail s' c' (n*z)),Gt _ _ _,Jr.E9 h3 h4 (λ_ u=>?_) (λo ho=>by cases ho),BE.mono (Gt _ _ _) _ _ hv,.inr ⟨g,n,cap,us,e,z,Au,h1,h2,by simp[Gh.E9],h4,h5⟩⟩;rw[BD.ES hl];simp
theorem Ya{B s d:Nat}{sl sl':D5}{v:Value}(hs:Ko γ β B w s sl v)(hc:HE sl=some sl'):Ko γ β B w d sl' v:=by
 cases sl<;>simp[HE] at hc;·subst hc;exact hs
 .subst hc;exact hs
 .subst hc;exact hs.1
 .subst hc;exact hs
theorem MQ{ws:List (Nat×D5)}(h:∀p∈ws,∀cs ow,p.2≠ .box 0 cs ow):(Er.pure ws).news=[]:=by
 simp only[Er.news,List.filterMap_eq_nil_iff];rintro⟨s,x⟩ hp;have:=h _ hp;cases x with
 |box ver cs ow=>
  cases ver with
  |zero=>exact absurd rfl (this cs ow)
  |succ n=>rfl
 |_=>rfl
theorem QB{v:Value}{sl:D5}(hs:DK C σ (.const v)=some sl):(∀B d,Ko γ β B w d sl v)/\∀ver cs ow,sl≠ .box ver cs ow:=by
 unfold DK at hs;split at hs;·rename_i Jk;cases Jk
 .rename_i Jk;cases Jk;cases hs;exact⟨λ_ _=>rfl,λ_ _ _ h=>by cases h⟩
 .rename_i Jk;cases Jk;cases hs;exact⟨λ_ _=>⟨rfl,.inl rfl⟩,λ_ _ _ h=>by cases h⟩
 .rename_i Jk;cases Jk;cases hc:JQ v with
  |none=>rw[hc] at hs;cases hs
  |some u=>rw[hc] at hs;cases hs;exact⟨λ_ _=>ER hc,λ_ _ _ h=>by cases h⟩
 .rename_i Jk;cases Jk
 .rename_i Jk;cases Jk
theorem Gi{s:Nat}{sl:D5}(hs:DK C σ (.tmp s)=some sl):σ.at s=sl:=C8 hs
theorem eY{x:Operand}{v:Aa}(hs:DK C σ x=some (.own v))(hn:∀c,x≠ .const c):∃s,x= .tmp s/\σ.at s= .own v:=by
 cases x with
 |tmp s=>exact⟨s,rfl,Gi hs⟩
 |const c=>exact absurd rfl (hn c)
 |global g=>have TV:(C.Gf g).map (λcs=>D5.val (Aa.CA cs))=some (.own v):=hs;cases hc:C.Gf g<;>rw[hc] at TV<;>cases TV
 |func f=>cases hs
theorem QC{x:Operand}{d:Nat}{take:Bool}{r:Er}{run:IT->Ad->Option Jo}{σ':BD}{h':Ad}(hm:Jw C σ x d take=some r)(hd:r.Mf C run (σ.drop r.news) h σ' h')
  (hr:CR C γ0 w0 γ β σ h a w):∃γ',CR C γ0 w0 γ' β σ' h' (a.put (some d) (a.eval x)) w:=by
 unfold Jw at hm;split at hm;·rename_i s _ _ _ hs;cases hm;rw[MQ (by simp)] at hd;obtain⟨rfl,rfl⟩:=hd;refine⟨γ,hr.put (d:=some d) λt ht=>?_⟩;have h0:=QA hr s;rw[Gi hs] at h0;exact h0.1
 .rename_i v sl hs;cases hm;obtain⟨p,q⟩:=QB (γ:=γ) (β:=β) (w:=w) hs;rw[MQ (by simpa using λcs ow=>q 0 cs ow)] at hd;obtain⟨rfl,rfl⟩:=hd;exact⟨γ,hr.put (d:=some d) λt _=>p _ t⟩
 .rename_i v hnc hs;split at hm;·cases hm;obtain⟨s,rfl,tl⟩:=eY hs (λc hc=>hnc c hc);rw[MQ (by simp[Qu])] at hd;obtain⟨rfl,rfl⟩:=hd;obtain⟨γ',DV,Fu,Du,dn⟩:=hr.take tl d none;exact⟨γ',Fu.put (d:=some d) λt ht=>by cases ht;exact⟨Du,dn⟩⟩
  .simp only[HE,BR] at hm;cases hm;rw[MQ (by simp)] at hd;obtain⟨rfl,rfl⟩:=hd;obtain⟨s,h1,_⟩:=Fv hr hs;exact⟨γ,hr.put (d:=some d) λt ht=>h1.1⟩
 .rename_i sl _ _ _ hs;cases hc:HE sl with
  |none=>rw[hc] at hm;cases hm
  |some sl'=>
   rw[hc] at hm;cases hm;have uB:∀cs ow,sl'≠ .box 0 cs ow:=by intro cs ow he;subst he;cases sl<;>simp[HE] at hc
   rw[MQ (by simpa using uB)] at hd;obtain⟨rfl,rfl⟩:=hd;obtain⟨s,h1,_⟩:=Fv hr hs;exact⟨γ,hr.put (d:=some d) λt ht=>Ya h1 hc⟩
 .cases hm
end
end Go.Am
end
section
namespace Go.Am
open Go
theorem UA{s:Sem Value}{v:Value}(h:OD s=some v):s= .pure v:=by cases s<;>simp[OD] at h;subst h;rfl
section
variable{P:Program}{γ:Gh}{w:World}
theorem ZZ{op:BinOp}{k l:IntKind}{x y:Int}{u:Aa}(t:TypeId)(ox oy:Operand)(h:kP op k x l y=some u):
  ∃v,(do eqGuard op t ox oy (.int k x) (.int l y);binOp op t (.int k x) (.int l y):Sem Value).run P w= .ok v w/\BE γ u v:=by
 unfold kP at h;cases hs:OD (binOp op 0 (.int k x) (.int l y)) with
 |none=>rw[hs] at h;cases h
 |some v=>
  rw[hs] at h;have e1:=UA hs;have e2:binOp op t (.int k x) (.int l y)= .pure v:=by rw[<-e1];cases op<;>rfl
  have e3:eqGuard op t ox oy (.int k x) (.int l y)=pure ():=by cases op<;>rfl
  refine⟨v,by rw[e3,e2];rfl,?_⟩;simp only[Ct] at h;split at h<;>cases h<;>rfl
theorem Yb(l:List UInt8):(ByteArray.mk ⟨l⟩).toList=l:=ByteArray.toList_mk l
theorem Z0{op:BinOp}{x y:Ap}{u:Aa}(t:TypeId)(ox oy:Operand)(h:ZU op x y=some u):
  ∃v,(do eqGuard op t ox oy (.string ⟨⟨x⟩⟩) (.string ⟨⟨y⟩⟩);binOp op t (.string ⟨⟨x⟩⟩) (.string ⟨⟨y⟩⟩):Sem Value).run P w= .ok v w/\BE γ u v:=by
 have e3:eqGuard op t ox oy (.string ⟨⟨x⟩⟩) (.string ⟨⟨y⟩⟩)=pure ():=by cases op<;>rfl
 have e2:binOp op t (.string ⟨⟨x⟩⟩) (.string ⟨⟨y⟩⟩)=Op.stringOp op ⟨⟨x⟩⟩ ⟨⟨y⟩⟩:=by cases op<;>rfl
 rw[e3,e2];unfold ZU at h;cases op<;>simp only at h<;>first
  |cases h;done
  |(simp only[Op.stringOp,Yb];cases h;exact⟨_,rfl,rfl⟩)
  | (split at h
     . rename_i DV
       cases h
       have hc : ¬ ((((ByteArray.mk ⟨x⟩).size + (ByteArray.mk ⟨y⟩).size : Nat) : Int) > IntKind.i64.max) := by
         have e1 : (ByteArray.mk ⟨x⟩).size = x.length := rfl
         have e2 : (ByteArray.mk ⟨y⟩).size = y.length := rfl
         rw [e1, e2]
         have : IntKind.i64.max = 9223372036854775807 := by decide
         rw [this]
         omega
       simp only [Op.stringOp, if_neg hc]
       refine ⟨_, rfl, ?_⟩
       show Value.string _ = Value.string _
       first
         | (congr 1; done)
         | (congr 1; apply ByteArray.ext; simp)
     . cases h)
theorem eZ{t:TypeId}(h:EM P t=some none):(isAgg t).run P w= .ok false w:=by
 unfold EM at h;split at h;·cases hs:BP P t<;>rw[hs] at h<;>cases h
 .cases hs:BP P t<;>rw[hs] at h<;>cases h
 .rename_i d h1 h2 hu;simp only[isAgg,Sem.run_bind,run_underlying hu,Result.andThen_ok];rfl
 .cases h
theorem PS{t:TypeId}{n:Nat}(h:EM P t=some (some n)):(isAgg t).run P w= .ok true w/\BP P t=some n:=by
 unfold EM at h;split at h
 .rename_i fs hu;cases hs:BP P t with
  |none=>rw[hs] at h;cases h
  |some m=>rw[hs] at h;cases h;exact⟨by simp[isAgg,run_underlying hu],rfl⟩
 .rename_i fs _ hu;cases hs:BP P t with
  |none=>rw[hs] at h;cases h
  |some m=>rw[hs] at h;cases h;exact⟨by simp[isAgg,run_underlying hu],rfl⟩
 .cases h
 .cases h
theorem Dp{t:TypeId}{n:Nat}(h:BP P t=some n):(sizeOf t).run P w= .ok n w:=by
 unfold BP at h;cases hi:P.info? t with
 |none=>rw[hi] at h;cases h
 |some i=>rw[hi] at h;cases h;simp[sizeOf,typeInfo,hi]
theorem Z3{t:TypeId}{sh:Option Nat}{cs:List Aa}{us:Array Value}{off:Nat}{u:Aa}(eF:EM P t=some sh)(hr:A9 γ cs us.toList)(h1:∀v∈us.toList,v.oneCell'=true)
  (hp:EN cs off sh=some u):∃v,(part t us off).run P w= .ok v w/\BE γ u v:=by
 cases sh with
 |none=>
  replace hp:cs[off]?=some u:=hp;obtain⟨v,hv,hrel⟩:=hr.get hp;refine⟨v,?_,hrel⟩;have Du:us[off]?=some v:=by simpa using hv
  simp[part,eZ eF,Du]
 |some n=>
  obtain⟨ha,hs⟩:=PS (w:=w) eF;replace hp:(if off+n<=cs.length then some (Aa.agg ((cs.drop off).take n)) else none)=some u:=hp;split at hp
  .cases hp;refine⟨.agg (us.extract off (off+n)),by simp[part,ha,Dp hs],us.extract off (off+n),rfl,?_,?_⟩;·have:=(hr.drop off).take n;simpa[aCG,MK] using this
   .intro v hv;refine h1 v ?_;rw[aCG,MK] at hv;exact Bv (Bf hv)
  .cases hp
end
end Go.Am
end
section
namespace Go.Am
open Go
theorem vI{x y:Aa}{b:Bool}(h:Ju .b x y=some b):∃p q,x= .bool p/\y= .bool q/\(p==q)=b:=by unfold Ju at h;split at h<;>first|cases h;done|(rename_i he;cases he;done)|(cases h;exact⟨_,_,rfl,rfl,rfl⟩)
theorem vJ{x y:Aa}{b:Bool}(h:Ju .i x y=some b):∃k p q,x= .int k p/\y= .int k q/\(p==q)=b:=by
 unfold Ju at h;split at h;·rename_i he;cases he
 .split at h;·rename_i hk;subst hk;cases h;exact⟨_,_,_,rfl,rfl,rfl⟩
  .cases h
 .rename_i he;cases he
 .cases h
theorem vK{x y:Aa}{b:Bool}(h:Ju .s x y=some b):∃p q,x= .str p/\y= .str q/\(p==q)=b:=by
 unfold Ju at h;split at h;·rename_i he;cases he
 .rename_i he;cases he
 .cases h;exact⟨_,_,rfl,rfl,rfl⟩
 .cases h
theorem NY:∀{ks yg:List FK} {xs ys:List Aa} {b:Bool},Ds (ks++yg) xs ys=some b->
  ∃b1 b2,Ds ks (xs.take ks.length) (ys.take ks.length)=some b1/\Ds yg (xs.drop ks.length) (ys.drop ks.length)=some b2/\b=(b1&&b2)
 |[],yg,xs,ys,b,h=>⟨true,b,by simp[Ds],by simpa using h,by simp⟩
 |k::ks,yg,[],ys,b,h=>by cases ys<;>simp[Ds] at h
 |k::ks,yg,x::xs,[],b,h=>by simp[Ds] at h
 |k::ks,yg,x::xs,y::ys,b,h=>by
  simp only[CB,Ds] at h;split at h;·rename_i e es h1 h2;cases h;obtain⟨b1,b2,p,q,r⟩:=NY h2;refine⟨e&&b1,b2,?_,by simpa using q,by rw[r,Bool.and_assoc]⟩;simp only[Bd,aIo,Ds,h1,p]
  .cases h
theorem NZ:∀{ks:List FK} {xs ys:List Aa} {b:Bool},Ds ks xs ys=some b->xs.length=ks.length/\ys.length=ks.length
 |[],xs,ys,b,h=>by cases xs<;>cases ys<;>simp[Ds] at h⊢
 |k::ks,xs,ys,b,h=>by
  cases xs<;>cases ys<;>simp[Ds] at h;split at h;·rename_i h1 h2;obtain⟨p,q⟩:=NZ h2;simp[p,q]
  .cases h
section
variable{P:Program}{γ:Gh}{w:World}
theorem Xa:∀{d:Nat} {t:TypeId} {ks:List FK},NU P d t=some ks->BP P t=some ks.length
 |0,t,ks,h=>by cases h
 |d+1,t,ks,h=>by
  simp only[NU] at h;split at h;·split at h<;>cases h;assumption
  .split at h<;>cases h;assumption
  .split at h<;>cases h;assumption
  .split at h
   .split at h;·rename_i hc;cases h;exact hc.1
    .cases h
   .cases h
  .cases h
theorem fA{ks:List FK}{k:FK}{t:TypeId}(h:(if BP P t=some 1 then some [k] else none)=some ks):ks=[k]:=by split at h<;>cases h;rfl
theorem FT{t:TypeId}{us:Array Value}{off:Nat}{v:Value}{d:TypeDesc}(hu:P.underlying t=some d)(h1:∀fs,d≠ .struct fs)(h2:∀n e,d≠ .array n e)(hv:us[off]?=some v):
  (part t us off).run P w= .ok v w:=by
 have ha:(isAgg t).run P w= .ok false w:=by simp only[isAgg,Sem.run_bind,run_underlying hu,Result.andThen_ok];cases d<;>first|rfl|exact absurd rfl (h1 _)|exact absurd rfl (h2 _ _)
 simp[part,ha,hv]
theorem IN{l:List Aa}{off:Nat}{x:Aa}(h:(l.drop off).take 1=[x]):l[off]?=some x:=by have:=Cd (·[0]?) h;simpa using this
theorem UB{k:FK}{xs ys:List Aa}{b:Bool}(h:Ds [k] xs ys=some b):∃x y,xs=[x]/\ys=[y]/\Ju k x y=some b:=by
 cases xs<;>cases ys<;>simp[Ds] at h;rename_i x xs y ys;cases xs<;>cases ys<;>simp[Ds] at h;all_goals first
  | (split at h
     . rename_i e es h1 h2; cases h2; cases h; exact ⟨x, y, rfl, rfl, by simpa using h1⟩
     . cases h)
  |(split at h<;>simp_all)
mutual
theorem Z4:∀{d D:Nat},d<=D->∀{t:TypeId} {ks:List FK},NU P d t=some ks->∀(us vs:Array Value) (cs ds:List Aa) (off:Nat) (b:Bool),A9 γ cs us.toList->A9 γ ds vs.toList->
  Ds ks ((cs.drop off).take ks.length) ((ds.drop off).take ks.length)=some b->
  ∃x y,(part t us off).run P w= .ok x w/\(part t vs off).run P w= .ok y w/\(Op.equalIn D t x y).run P w= .ok b w
 |0,_,_,_,_,h=>by cases h
 |d+1,0,hd,_,_,_=>by omega
 |d+1,D+1,hd,t,ks,h=>by
  intro us vs cs ds off b hu hv he;have hsz:=Xa h;simp only[NU] at h;split at h;·rename_i Xb;have:=fA h;subst this;obtain⟨x,y,e1,e2,e3⟩:=UB he;obtain⟨x',p1,p2⟩:=hu.get (IN e1);obtain⟨y',q1,q2⟩:=hv.get (IN e2);refine⟨x',y',FT Xb (by simp) (by simp) (by simpa using p1),FT Xb (by simp) (by simp) (by simpa using q1),?_⟩;obtain⟨x1,y1,rfl,rfl,e4⟩:=vI e3;rw[p2,q2,run_equalIn_bool' w D t _ _ Xb,<-e4]
  .rename_i kk Xb;have:=fA h;subst this;obtain⟨x,y,e1,e2,e3⟩:=UB he;obtain⟨x',p1,p2⟩:=hu.get (IN e1);obtain⟨y',q1,q2⟩:=hv.get (IN e2);refine⟨x',y',FT Xb (by simp) (by simp) (by simpa using p1),FT Xb (by simp) (by simp) (by simpa using q1),?_⟩;obtain⟨k1,x1,y1,rfl,rfl,e4⟩:=vJ e3;rw[p2,q2,run_equalIn_int w D t _ _ _ _ Xb,<-e4]
  .rename_i Xb;have:=fA h;subst this;obtain⟨x,y,e1,e2,e3⟩:=UB he;obtain⟨x',p1,p2⟩:=hu.get (IN e1);obtain⟨y',q1,q2⟩:=hv.get (IN e2);refine⟨x',y',FT Xb (by simp) (by simp) (by simpa using p1),FT Xb (by simp) (by simp) (by simpa using q1),?_⟩;obtain⟨x1,y1,rfl,rfl,e4⟩:=vK e3;rw[p2,q2,run_equalIn_string w D t _ _ Xb,Yb,Yb,<-e4]
  .rename_i fs Xb;split at h
   .rename_i yg Gn;split at h
    .rename_i hc;cases h;have eF:EM P t=some (some ks.length):=by simp[EM,Xb,hsz]
     obtain⟨ha,hs⟩:=PS (w:=w) eF;refine⟨.agg (us.extract off (off+ks.length)),.agg (vs.extract off (off+ks.length)),by simp[part,ha,Dp hs],by simp[part,ha,Dp hs],?_⟩;have aJe:P.underlying t=some (.struct (P.fieldsOf t)):=by simp[Program.fieldsOf,Xb]
     rw[run_equalIn_struct w D t _ _ aJe hc.2];have hf:(P.fieldsOf t).toList=fs.toList:=by simp[Program.fieldsOf,Xb]
     rw[hf];have lA:A9 γ ((cs.drop off).take ks.length) (us.extract off (off+ks.length)).toList:=by have:=(hu.drop off).take ks.length;simpa[aCG,MK] using this
     have Du:A9 γ ((ds.drop off).take ks.length) (vs.extract off (off+ks.length)).toList:=by have:=(hv.drop off).take ks.length;simpa[aCG,MK] using this
     refine Xc (Nat.le_of_succ_le_succ hd) fs.toList Gn _ _ _ _ _ lA Du ?_;simpa using he
    .cases h
   .cases h
  .cases h
theorem Xc:∀{d D:Nat},d<=D->∀(fs:List Field) {off:Nat} {ks:List FK},Uq (NU P d) fs off=some ks->∀(us vs:Array Value) (cs ds:List Aa) (b:Bool),A9 γ cs us.toList->A9 γ ds vs.toList->
  Ds ks (cs.drop off) (ds.drop off)=some b->(Op.eqFields D us vs fs).run P w= .ok b w
 |d,D,hd,[],off,ks,h=>by
  intro us vs cs ds b hu hv he;cases h;have:b=true:=by cases h1:cs.drop off<;>cases h2:ds.drop off<;>rw[h1,h2] at he<;>simp[Ds] at he;exact he
  subst this;rfl
 |d,D,hd,f::fs,off,ks,h=>by
  intro us vs cs ds b hu hv he;simp only[Uq] at h;split at h
  .rename_i hc;obtain⟨hn,aDs⟩:=hc;split at h
   .rename_i ks1 Wt;cases hr:Uq (NU P d) fs (off+ks1.length) with
    |none=>rw[hr] at h;cases h
    |some ks2=>
     rw[hr] at h;cases h;obtain⟨b1,b2,e1,e2,rfl⟩:=NY he;obtain⟨x,y,p1,p2,p3⟩:=Z4 hd Wt _ _ _ _ _ _ hu hv e1;simp only[Op.eqFields,hn,ne_eq,An,BK,aDs,Sem.run_bind,p1,p2,p3,Result.andThen_ok];cases b1;·rfl
     .simp only[kN,C1,D9,Bool.true_and];exact Xc hd fs hr _ _ _ _ _ hu hv (by simpa[E5] using e2)
   .cases h
  .cases h
end
theorem Z5{op:BinOp}{t:TypeId}{ox oy:Operand}{neg:Bool}{ks:List FK}{a b:List Aa}{x y:Value}{u:Aa}(MH:(op= .eql/\neg=false)\/(op= .neq/\neg=true))
  (hg:P.eqGuardType P.depth t=false) (hk:NU P 20 t=some ks) (hst:∃fs,P.underlying t=some (.struct fs)) (hx:BE γ (.agg a) x) (hy:BE γ (.agg b) y) (h:(Ds ks a b).map (λe=>Aa.bool (e != neg))=some u):
  ∃v,(do eqGuard op t ox oy x y;binOp op t x y:Sem Value).run P w= .ok v w/\BE γ u v:=by
 obtain⟨us,rfl,hu,_⟩:=hx;obtain⟨vs,rfl,hv,_⟩:=hy;cases he:Ds ks a b with
 |none=>rw[he] at h;cases h
 |some e=>
  rw[he] at h;cases h;obtain⟨l1,l2⟩:=NZ he;obtain⟨x',y',p1,p2,p3⟩:=Z4 (w:=w) (P:=P) (γ:=γ) (D:=10000) (by omega:20<=10000) hk us vs a b 0 e hu hv (by rw[Qm,Qm,Ay (WX l1),Ay (WX l2)];exact he);obtain⟨fs,Gn⟩:=hst;have eF:EM P t=some (some ks.length):=by simp[EM,Gn,Xa hk]
  obtain⟨ha,hs⟩:=PS (w:=w) eF;have e1:us.extract 0 ks.length=us:=by
   have:us.size=ks.length:=by have:=hu.length;simp at this;omega
   rw[<-this];simp
  have e2:vs.extract 0 ks.length=vs:=by
   have:vs.size=ks.length:=by have:=hv.length;simp at this;omega
   rw[<-this];simp
  have q1:x'= .agg us:=by simp[part,ha,Dp hs,e1] at p1;exact p1.symm
  have q2:y'= .agg vs:=by simp[part,ha,Dp hs,e2] at p2;exact p2.symm
  subst q1;subst q2;rcases MH with⟨rfl,rfl⟩|⟨rfl,rfl⟩
  .refine⟨.bool e,by simp[run_eqGuard_agg (P:=P) w .eql t ox oy us vs hg,run_eql_struct,p3],?_⟩;show Value.bool e=Value.bool _;cases e<;>rfl
  .refine⟨.bool (!e),by simp[run_eqGuard_agg (P:=P) w .neq t ox oy us vs hg,run_neq_struct,p3],?_⟩;show Value.bool _=Value.bool _;cases e<;>rfl
end
end Go.Am
end
