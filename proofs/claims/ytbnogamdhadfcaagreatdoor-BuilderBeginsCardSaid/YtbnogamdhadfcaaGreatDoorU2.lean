/- Lemmas -/
import Derived.Test.YtbnogamdhadfcaaGreatDoorU1
import Derived.Orders
import Derived.Laws.AppendOwn
import Derived.Laws.StructEq
set_option linter.unusedVariables false
set_option linter.unusedSimpArgs false
section
namespace Go.Am
inductive Jp where
 |KW (id:Nat)
 |loc (s:Nat)
 |tail (s:Nat) (c:Option Nat) (start:Nat)
def Jp.uO:Jp->Bool
 | .KW _=>true
 |_=>false
structure Gh where
 HA:Nat->Nat->Option Value
 mu:Nat->Option Nat
 own:Nat->Option Jp
 sz:Nat->Option Nat
mutual
def BF(γ:Gh):Aa->Value->Prop
 | .bool b,v=>v= .bool b
 | .int k n,v=>v= .int k n
 | .str s,v=>v= .string ⟨⟨s⟩⟩
 | .ptr none,v=>v= .pointer none
 | .ptr (some (id,o)),v=>∃b,γ.mu id=some b/\v= .pointer (some ⟨b,o,none⟩)
 | .CA cs,v=>∃b o,v= .pointer (some ⟨b,o,none⟩)/\CI γ cs b o
 | .sl z Au,v=>∃ad cap,v= .slice (some ad) Au.length cap/\Au.length<=cap/\(ad.spot=none\/cap=0)/\ER γ Au z ad.block ad.off
 | .slnil,v=>v= .slice none 0 0
 | .Cm id off len z,v=>∃b cap,γ.mu id=some b/\v= .slice (some ⟨b,off,none⟩) len cap/\len<=cap/\(0<z/\cap<=maxLen)/\γ.sz b=some (off+cap*z)
 | .map none,v=>v= .map none
 | .map (some id),v=>∃b,γ.mu id=some b/\v= .map (some b)
 | .func fn f c,v=>∃fs cs,v= .func fn fs cs/\A8 γ f fs.toList/\A8 γ c cs.toList
 | .nilFunc,v=>v= .nilFunc
 | .iface t a,v=>∃u,v= .iface t u/\BF γ a u
 | .nilIface,v=>v= .nilIface
 | .agg cs,v=>∃us,v= .agg us/\A8 γ cs us.toList/\∀u∈us.toList,u.oneCell'=true
 | .tuple vs,v=>∃us,v= .tuple us/\A8 γ vs us.toList
def A8(γ:Gh):List Aa->List Value->Prop
 |[],us=>us=[]
 |a::l,us=>∃u Dk,us=u::Dk/\BF γ a u/\A8 γ l Dk
def CI(γ:Gh):List Aa->Nat->Nat->Prop
 |[],_,_=>True
 |a::l,b,o=>(∃u,γ.HA b o=some u/\BF γ a u)/\CI γ l b (o+1)
def ER(γ:Gh):List (List Aa)->Nat->Nat->Nat->Prop
 |[],_,_,_=>True
 |r::rs,z,b,o=>r.length=z/\CI γ r b o/\ER γ rs z b (o+z)
end
structure Gh.le(γ γ':Gh):Prop where
 HA:∀b o v,γ.HA b o=some v->γ'.HA b o=some v
 mu:∀id b,γ.mu id=some b->γ'.mu id=some b
 sz:∀b n,γ.sz b=some n->γ'.sz b=some n
theorem Gh.le.refl(γ:Gh):γ.le γ:=⟨λ_ _ _ h=>h,λ_ _ h=>h,λ_ _ h=>h⟩
theorem Gh.le.trans{a b c:Gh}(h:a.le b)(k:b.le c):a.le c:=⟨λ_ _ _ x=>k.HA _ _ _ (h.HA _ _ _ x),λ_ _ x=>k.mu _ _ (h.mu _ _ x),λ_ _ x=>k.sz _ _ (h.sz _ _ x)⟩
mutual
theorem BF.mono{γ γ':Gh}(DW:γ.le γ'):∀(a:Aa) (v:Value),BF γ a v->BF γ' a v
 | .bool b,v,h=>h
 | .int k n,v,h=>h
 | .str s,v,h=>h
 | .ptr none,v,h=>h
 | .ptr (some (id,o)),v,h=>by obtain⟨b,hb,hv⟩:=h;exact⟨b,DW.mu _ _ hb,hv⟩
 | .CA cs,v,h=>by obtain⟨b,o,hv,hm⟩:=h;exact⟨b,o,hv,CI.mono DW cs b o hm⟩
 | .sl z Au,v,h=>by obtain⟨ad,cap,hv,hc,hs,hm⟩:=h;exact⟨ad,cap,hv,hc,hs,ER.mono DW Au z _ _ hm⟩
 | .slnil,v,h=>h
 | .Cm id off len z,v,h=>by obtain⟨b,cap,hb,hv,hc,hz,hs⟩:=h;exact⟨b,cap,DW.mu _ _ hb,hv,hc,hz,DW.sz _ _ hs⟩
 | .map none,v,h=>h
 | .map (some id),v,h=>by obtain⟨b,hb,hv⟩:=h;exact⟨b,DW.mu _ _ hb,hv⟩
 | .func fn f c,v,h=>by obtain⟨fs,cs,hv,h1,h2⟩:=h;exact⟨fs,cs,hv,A8.mono DW f _ h1,A8.mono DW c _ h2⟩
 | .nilFunc,v,h=>h
 | .iface t a,v,h=>by obtain⟨u,hv,h1⟩:=h;exact⟨u,hv,BF.mono DW a u h1⟩
 | .nilIface,v,h=>h
 | .agg cs,v,h=>by obtain⟨us,hv,h1,h2⟩:=h;exact⟨us,hv,A8.mono DW cs _ h1,h2⟩
 | .tuple vs,v,h=>by obtain⟨us,hv,h1⟩:=h;exact⟨us,hv,A8.mono DW vs _ h1⟩
theorem A8.mono{γ γ':Gh}(DW:γ.le γ'):∀(l:List Aa) (us:List Value),A8 γ l us->A8 γ' l us
 |[],us,h=>h
 |a::l,us,h=>by obtain⟨u,Dk,hu,h1,h2⟩:=h;exact⟨u,Dk,hu,BF.mono DW a u h1,A8.mono DW l Dk h2⟩
theorem CI.mono{γ γ':Gh}(DW:γ.le γ'):∀(l:List Aa) (b o:Nat),CI γ l b o->CI γ' l b o
 |[],_,_,_=>trivial
 |a::l,b,o,h=>by obtain⟨⟨u,hu,h1⟩,h2⟩:=h;exact⟨⟨u,DW.HA _ _ _ hu,BF.mono DW a u h1⟩,CI.mono DW l b (o+1) h2⟩
theorem ER.mono{γ γ':Gh}(DW:γ.le γ'):∀(rs:List (List Aa)) (z b o:Nat),ER γ rs z b o->ER γ' rs z b o
 |[],_,_,_,_=>trivial
 |r::rs,z,b,o,h=>⟨h.1,CI.mono DW r b o h.2.1,ER.mono DW rs z b (o+z) h.2.2⟩
end
theorem A8.length{γ:Gh}:∀{l:List Aa} {us:List Value},A8 γ l us->us.length=l.length
 |[],us,h=>by rw[A8] at h;subst h;rfl
 |a::l,us,h=>by rw[A8] at h;obtain⟨u,Dk,rfl,_,h2⟩:=h;simp[h2.length]
theorem A8.get{γ:Gh}:∀{l:List Aa} {us:List Value},A8 γ l us->∀{i:Nat} {a:Aa},l[i]?=some a->∃u,us[i]?=some u/\BF γ a u
 |[],us,h,i,a,hi=>by simp at hi
 |x::l,us,h,i,a,hi=>by
  rw[A8] at h;obtain⟨u,Dk,rfl,h1,h2⟩:=h;cases i with
  |zero=>simp at hi;subst hi;exact⟨u,rfl,h1⟩
  |succ i=>simp at hi;obtain⟨v,hv,hr⟩:=h2.get hi;exact⟨v,by simpa using hv,hr⟩
theorem A8.Gk{γ:Gh}:∀{l:List Aa} {us:List Value},us.length=l.length->(∀(i:Nat) (a:Aa) (u:Value),l[i]?=some a->us[i]?=some u->BF γ a u)->A8 γ l us
 |[],us,hl,_=>by rw[A8];exact EW hl
 |x::l,[],hl,_=>by simp at hl
 |x::l,u::us,hl,h=>by rw[A8];exact⟨u,us,rfl,h 0 x u rfl rfl,A8.Gk (by simpa using hl) λi a v hi hv=>h (i+1) a v (by simpa using hi) (by simpa using hv)⟩
theorem A8.append{γ:Gh}:∀{l l':List Aa} {us Dk:List Value},A8 γ l us->A8 γ l' Dk->A8 γ (l++l') (us++Dk)
 |[],l',us,Dk,h,h'=>by rw[A8] at h;subst h;simpa using h'
 |a::l,l',us,Dk,h,h'=>by rw[A8] at h;obtain⟨u,r,rfl,h1,h2⟩:=h;rw[CB,A8];exact⟨u,r++Dk,rfl,h1,h2.append h'⟩
theorem A8.take{γ:Gh}{l:List Aa}{us:List Value}(h:A8 γ l us)(n:Nat):A8 γ (l.take n) (us.take n):=by
 refine A8.Gk (by simp[h.length]) λi a u hi hu=>?_;rw[Cg] at hi hu;split at hi;·rename_i hlt;rw[if_pos hlt] at hu;obtain⟨v,hv,hr⟩:=h.get hi;rw[hu] at hv;cases hv;exact hr
 .cases hi
theorem A8.drop{γ:Gh}{l:List Aa}{us:List Value}(h:A8 γ l us)(n:Nat):A8 γ (l.drop n) (us.drop n):=by refine A8.Gk (by simp[h.length]) λi a u hi hu=>?_;rw[Cz] at hi hu;obtain⟨v,hv,hr⟩:=h.get hi;rw[hu] at hv;cases hv;exact hr
theorem CI.get{γ:Gh}:∀{l:List Aa} {b o:Nat},CI γ l b o->∀{i:Nat} {a:Aa},l[i]?=some a->∃u,γ.HA b (o+i)=some u/\BF γ a u
 |[],b,o,h,i,a,hi=>by simp at hi
 |x::l,b,o,h,i,a,hi=>by
  rw[CI] at h;obtain⟨⟨u,hu,h1⟩,h2⟩:=h;cases i with
  |zero=>simp at hi;subst hi;exact⟨u,hu,h1⟩
  |succ i=>simp at hi;obtain⟨v,hv,hr⟩:=h2.get hi;exact⟨v,by rw[<-hv];congr 1;omega,hr⟩
theorem CI.Gk{γ:Gh}:∀{l:List Aa} {b o:Nat},(∀(i:Nat) (a:Aa),l[i]?=some a->∃u,γ.HA b (o+i)=some u/\BF γ a u)->CI γ l b o
 |[],b,o,h=>by rw[CI];trivial
 |x::l,b,o,h=>by rw[CI];refine⟨h 0 x rfl,CI.Gk λi a hi=>?_⟩;obtain⟨u,hu,hr⟩:=h (i+1) a (by simpa using hi);exact⟨u,by rw[<-hu];congr 1;omega,hr⟩
theorem CI.drop{γ:Gh}{l:List Aa}{b o:Nat}(h:CI γ l b o)(n:Nat):CI γ (l.drop n) b (o+n):=by refine CI.Gk λi a hi=>?_;rw[Cz] at hi;obtain⟨u,hu,hr⟩:=h.get hi;exact⟨u,by rw[<-hu];congr 1;omega,hr⟩
theorem CI.values{γ:Gh}:∀{l:List Aa} {b o:Nat},CI γ l b o->∃us:List Value,A8 γ l us/\∀(j:Nat) (u:Value),us[j]?=some u->γ.HA b (o+j)=some u
 |[],b,o,h=>⟨[],by rw[A8],by simp⟩
 |x::l,b,o,h=>by
  rw[CI] at h;obtain⟨⟨u,hu,h1⟩,h2⟩:=h;obtain⟨us,hr,hi⟩:=h2.values;refine⟨u::us,by rw[A8];exact⟨u,us,rfl,h1,hr⟩,λj v hj=>?_⟩;cases j with
  |zero=>simp at hj;subst hj;exact hu
  |succ j=>simp at hj;rw[<-hi j v hj];congr 1;omega
theorem ER.get{γ:Gh}:∀{rs:List (List Aa)} {z b o:Nat},ER γ rs z b o->∀{i:Nat} {r:List Aa},rs[i]?=some r->r.length=z/\CI γ r b (o+i*z)
 |[],z,b,o,h,i,r,hi=>by simp at hi
 |x::rs,z,b,o,h,i,r,hi=>by
  rw[ER] at h;cases i with
  |zero=>simp at hi;subst hi;simpa using⟨h.1,h.2.1⟩
  |succ i=>simp at hi;obtain⟨h1,h2⟩:=h.2.2.get hi;exact⟨h1,by rw[show o+(i+1)*z=o+z+i*z by rw[BA,Ey];omega];exact h2⟩
theorem ER.Gk{γ:Gh}:∀{rs:List (List Aa)} {z b o:Nat},(∀(i:Nat) (r:List Aa),rs[i]?=some r->r.length=z/\CI γ r b (o+i*z))->ER γ rs z b o
 |[],z,b,o,h=>by rw[ER];trivial
 |x::rs,z,b,o,h=>by rw[ER];have h0:=h 0 x rfl;refine⟨h0.1,by simpa using h0.2,ER.Gk λi r hi=>?_⟩;obtain⟨h1,h2⟩:=h (i+1) r (by simpa using hi);exact⟨h1,by rw[show o+z+i*z=o+(i+1)*z by rw[BA,Ey];omega];exact h2⟩
theorem MG{ad:Addr}{n cap:Nat}(hs:ad.spot=none\/cap=0)(hc:n<=cap)(hn:0<n):ad=⟨ad.block,ad.off,none⟩:=by
 rcases hs with hs|hs
 .cases ad;simp_all
 .omega
theorem ER.values{γ:Gh}:∀{rs:List (List Aa)} {z b o:Nat},ER γ rs z b o->∃us:List Value,A8 γ rs.flatten us/\us.length=rs.length*z/\∀(j:Nat) (u:Value),us[j]?=some u->γ.HA b (o+j)=some u
 |[],z,b,o,h=>⟨[],by simp[A8],by simp,by simp⟩
 |x::rs,z,b,o,h=>by
  rw[ER] at h;obtain⟨us,h1,h2⟩:=h.2.1.values;obtain⟨vs,h3,h4,h5⟩:=h.2.2.values;have hl:us.length=z:=by rw[h1.length,h.1]
  refine⟨us++vs,by simpa using h1.append h3,by simp[hl,h4,BA,Nat.add_comm],λj u hj=>?_⟩;rw[List.getElem?_append] at hj;split at hj;·exact h2 j u hj
  .rename_i D2;rw[<-h5 _ _ hj];congr 1
   omega
def HU(γ:Gh)(B:Nat)(w:World)(s:Nat)(c:Option Nat)(v:Value)(a:Aa):Prop:=
 a= .slnil\/∃g n cap us e z Au,a= .sl z Au/\v= .slice (some ⟨g,0,none⟩) n cap/\γ.own g=some (.tail s c (n*z))/\B<=g/\
  w.heap[g]?=some (.cells us e (0,0))/\us.size=cap*z/\n<=cap/\cap<=maxLen/\0<z
def Kq(γ:Gh)(β:Nat->Nat)(B:Nat)(w:World)(s:Nat):D6->Value->Prop
 | .undef,_=>True
 | .skip,v=>v=undef
 | .val a,v=>BF γ a v
 | .Nq b,v=>v= .bool b
 | .own a,v=>BF γ a v/\HU γ B w s none v a
 | .box _ cs ow,v=>v= .pointer (some ⟨β s,0,none⟩)/\γ.own (β s)=some (.loc s)/\B<=β s/\
  ∃us e,w.heap[β s]?=some (.cells us e (0,0))/\A8 γ cs us.toList/\(∀u∈us.toList,u.oneCell'=true)/\
   ∀o∈ow,∃u a,us[o]?=some u/\cs[o]?=some a/\HU γ B w s (some o) u a
 | .EG s' o,v=>v= .pointer (some ⟨β s',o,none⟩)
structure FR(γ:Gh)(β:Nat->Nat)(B:Nat)(σ:BD)(tmps:Array Value)(w:World):Prop where
 size:σ.length=tmps.size
 Hv:∀s,Kq γ β B w s (σ.at s) (tmps.getD s undef)
def KX(γ:Gh):List (Aa×Aa)->List MapEntry->Prop
 |[],es=>es=[]
 |(k,v)::l,es=>∃e TO,es=e::TO/\BF γ k e.key/\BF γ v e.val/\KX γ l TO
def uP(γ:Gh)(l:List (Aa×Aa))(es:Array MapEntry)(clock:Nat):Prop:=
 KX γ l es.toList/\clock=es.size/\∀(i:Nat) (e:MapEntry),es[i]?=some e->e.born=i
def RD(fr:Nat×Nat)(n:Nat):Prop:=fr=(0,0)\/n<=fr.1
structure Gs(γ:Gh)(h:Ae)(w:World):Prop where
 HA:∀b o v,γ.HA b o=some v->w.cell? ⟨b,o,none⟩=some v/\v.oneCell'=true/\(γ.own b=none\/∃s c st,γ.own b=some (.tail s c st)/\o<st)
 KW:∀id x,h[id]?=some x->x≠ .CG->∃b,γ.mu id=some b/\γ.own b=some (.KW id)
 cells:∀id cs,h[id]?=some (.cells cs)->∀b,γ.mu id=some b->∃us e fr,w.heap[b]?=some (.cells us e fr)/\RD fr us.size/\A8 γ cs (us.toList.take cs.length)/\∀u∈us.toList.take cs.length,u.oneCell'=true
 map:∀id es,h[id]?=some (.map es)->∀b,γ.mu id=some b->∃Dl clock,w.heap[b]?=some (.map Dl clock)/\uP γ es Dl clock
 mu:∀id b,γ.mu id=some b->id<h.length
 own:∀b x,γ.own b=some x->b<w.heap.size
 sz:∀b n,γ.sz b=some n->(∃us e fr,w.heap[b]?=some (.cells us e fr)/\us.size=n)/\(γ.own b=none\/∃id,γ.own b=some (.KW id))
structure J1(γ0:Gh)(w0:World)(γ:Gh)(w:World):Prop where
 le:γ0.le γ
 size:w0.heap.size<=w.heap.size
 os:w.os=w0.os
 tape:w.tape=w0.tape
 output:w.output=w0.output
 MH:∀b,b<w0.heap.size->(∀id,γ0.own b≠some (.KW id))->w.heap[b]?=w0.heap[b]?/\γ.own b=γ0.own b
theorem J1.refl(γ:Gh)(w:World):J1 γ w γ w:=⟨.refl _,Ac _,rfl,rfl,rfl,λ_ _ _=>⟨rfl,rfl⟩⟩
theorem J1.trans{γ0 γ1 γ2:Gh}{w0 w1 w2:World}(h:J1 γ0 w0 γ1 w1)(k:J1 γ1 w1 γ2 w2):J1 γ0 w0 γ2 w2:=by refine⟨h.le.trans k.le,Bt h.size k.size,k.os.trans h.os,k.tape.trans h.tape,k.output.trans h.output,λb hb hn=>?_⟩;·obtain⟨h1,h2⟩:=h.MH b hb hn;obtain⟨k1,k2⟩:=k.MH b (Zz hb h.size) (λid=>by rw[h2];exact hn id);exact⟨k1.trans h1,k2.trans h2⟩
structure qA(γ:Gh)(w:World)(γ':Gh)(w':World):Prop where
 le:γ.le γ'
 MH:∀b x,γ.own b=some x->x.uO=false->γ'.own b=some x/\w'.heap[b]?=w.heap[b]?
theorem qA.yj{γ γ':Gh}{h:Ae}{w w':World}(hi:Gs γ h w)(ha:J1 γ w γ' w'):qA γ w γ' w':=by refine⟨ha.le,λb x hb hx=>?_⟩;obtain⟨h1,h2⟩:=ha.MH b (hi.own b x hb) (λid Hj=>by rw[hb] at Hj;cases Hj;simp[Jp.uO] at hx);exact⟨h2.trans hb,h1⟩
theorem HU.kept{γ γ':Gh}{B:Nat}{w w':World}{s:Nat}{c:Option Nat}{v:Value}{a:Aa}(h:HU γ B w s c v a)(k:qA γ w γ' w'):HU γ' B w' s c v a:=by
 rcases h with h|⟨g,n,cap,us,e,z,Au,h1,h2,h3,h4,h5,h6⟩
 .exact .inl h
 .obtain⟨k1,k2⟩:=k.MH g _ h3 rfl;exact .inr ⟨g,n,cap,us,e,z,Au,h1,h2,k1,h4,by rw[k2];exact h5,h6⟩
theorem Kq.kept{γ γ':Gh}{β:Nat->Nat}{B:Nat}{w w':World}{s:Nat}{x:D6}{v:Value}(h:Kq γ β B w s x v)(k:qA γ w γ' w'):Kq γ' β B w' s x v:=by
 cases x with
 |undef=>trivial
 |skip=>exact h
 |val a=>exact BF.mono k.le a v h
 |Nq b=>exact h
 |own a=>exact⟨BF.mono k.le a v h.1,h.2.kept k⟩
 |box ver cs ow=>obtain⟨h1,h2,h3,us,e,h4,h5,h6,h7⟩:=h;obtain⟨k1,k2⟩:=k.MH _ _ h2 rfl;exact⟨h1,k1,h3,us,e,by rw[k2];exact h4,A8.mono k.le cs _ h5,h6,λo ho=>let⟨u,a,p,q,r⟩:=h7 o ho;⟨u,a,p,q,r.kept k⟩⟩
 |EG s' o=>exact h
theorem FR.kept{γ γ':Gh}{β:Nat->Nat}{B:Nat}{σ:BD}{tmps:Array Value}{w w':World}(h:FR γ β B σ tmps w)(k:qA γ w γ' w'):FR γ' β B σ tmps w':=
 ⟨h.size,λs=>(h.Hv s).kept k⟩
end Go.Am
end
section
namespace Go.Am
theorem Cw{w w':World}{b o:Nat}(h:w'.heap[b]?=w.heap[b]?):w'.cell? ⟨b,o,none⟩=w.cell? ⟨b,o,none⟩:=by simp[World.cell?,h]
theorem Dn{w:World}{b o:Nat}{v:Value}(h:w.cell? ⟨b,o,none⟩=some v):b<w.heap.size:=by
 rcases AT b w.heap.size with h'|h'
 .exact h'
 .simp[World.cell?,Array.getElem?_eq_none h'] at h
theorem Gs.yk{γ:Gh}{h:Ae}{w:World}(hi:Gs γ h w){b o:Nat}{v:Value}(hb:γ.HA b o=some v):b<w.heap.size:=Dn (hi.HA b o v hb).1
theorem Gs.same{γ:Gh}{h:Ae}{w w':World}(hi:Gs γ h w)(hh:w'.heap=w.heap):Gs γ h w':=by
 refine⟨λb o v hb=>?_,hi.KW,λid cs hc b hb=>?_,λid es hc b hb=>?_,hi.mu,λb x hx=>?_,λb n hb=>by rw[hh];exact hi.sz b n hb⟩;·obtain⟨h1,h2,h3⟩:=hi.HA b o v hb;have e:=Cw (w:=w) (w':=w') (b:=b) (o:=o) (by rw[hh]);exact⟨e.trans h1,h2,h3⟩
 .rw[hh];exact hi.cells id cs hc b hb
 .rw[hh];exact hi.map id es hc b hb
 .rw[hh];exact hi.own b x hx
theorem J1.same{γ:Gh}{w w':World}(hh:w'.heap=w.heap)(h1:w'.os=w.os)(h2:w'.tape=w.tape)(h3:w'.output=w.output):J1 γ w γ w':=
 ⟨.refl _,by rw[hh];exact Ac _,h1,h2,h3,λ_ _ _=>⟨by rw[hh],rfl⟩⟩
theorem J1.drew(γ:Gh)(w:World):J1 γ w γ w.drew:=J1.same rfl rfl rfl rfl
def Gh.C6(γ:Gh)(b:Nat)(us:Array Value)(k:Nat)(x:Option Jp):Gh:=
 {HA:=λb' o=>if b'=b then(if o<k then us[o]? else none) else γ.HA b' o,mu:=γ.mu,own:=λb'=>if b'=b then x else γ.own b',sz:=γ.sz}
def Gh.BL(γ:Gh)(b id:Nat)(n:Option Nat):Gh:=
 {HA:=γ.HA,mu:=λi=>if i=id then some b else γ.mu i,own:=λb'=>if b'=b then some (.KW id) else γ.own b',sz:=λb'=>if b'=b then n else γ.sz b'}
section
variable{γ:Gh}{h:Ae}{w:World}
theorem Eb(w:World)(o:Obj){b:Nat}(hb:b<w.heap.size):(w.alloc o).heap[b]?=w.heap[b]?:=heap_alloc_old w o b hb
theorem NM(hi:Gs γ h w)(us:Array Value)(e:TypeId)(fr:Nat×Nat)(k:Nat)(x:Option Jp)(h1:∀o u,o<k->us[o]?=some u->u.oneCell'=true)
  (hx:x=none\/(∃s c,x=some (.tail s c k))\/(k=0/\∀id,x≠some (.KW id))):
  Gs (γ.C6 w.heap.size us k x) h (w.alloc (.cells us e fr))/\J1 γ w (γ.C6 w.heap.size us k x) (w.alloc (.cells us e fr)):=by
 have E2:γ.own w.heap.size=none:=by
  cases hc:γ.own w.heap.size with
  |none=>rfl
  |some y=>exact absurd (hi.own _ y hc) (C8 _)
 have uQ:∀o,γ.HA w.heap.size o=none:=λo=>by
  cases hc:γ.HA w.heap.size o with
  |none=>rfl
  |some y=>exact absurd (hi.yk hc) (C8 _)
 have DW:γ.le (γ.C6 w.heap.size us k x):=⟨λb' o' v' Du=>by
  have:b'≠w.heap.size:=λhe=>by rw[he,uQ] at Du;cases Du
  simp only[Gh.C6,if_neg this];exact Du,λ_ _ hm=>hm,λ_ _ hm=>hm⟩
 constructor
 .refine⟨λb o v hb=>?_,λid y Hj hy=>?_,λid cs hc b hb=>?_,λid es hc b hb=>?_,hi.mu,λb y hy=>?_,λb n hb=>?_⟩;rotate_left 5;·obtain⟨⟨Dk,e',qB,p,q⟩,r⟩:=hi.sz b n hb;have MI:b≠w.heap.size:=cy (by rw[A0] at p;exact p.1);exact⟨⟨Dk,e',qB,by rw[Eb _ _ (by rw[A0] at p;exact p.1)];exact p,q⟩,by simp only[Gh.C6,if_neg MI];exact r⟩
  .by_cases MI:b=w.heap.size
   .subst MI;simp only[Gh.C6,BN] at hb⊢;split at hb
    .rename_i hlt;refine⟨by rw[cell_of_row _ _ _ us e fr (heap_alloc_new w _)];exact hb,h1 o v hlt hb,?_⟩;rcases hx with hx|⟨s,c,hx⟩|⟨hx,_⟩
     .exact .inl hx
     .exact .inr ⟨s,c,k,hx,hlt⟩
     .omega
    .cases hb
   .simp only[Gh.C6,if_neg MI] at hb⊢;obtain⟨p,q,r⟩:=hi.HA b o v hb;exact⟨by rw[Cw (Eb w _ (Dn p))];exact p,q,r⟩
  .obtain⟨b,p,q⟩:=hi.KW id y Hj hy;refine⟨b,p,?_⟩;have:b≠w.heap.size:=λhe=>by rw[he,E2] at q;cases q
   simp only[Gh.C6,if_neg this];exact q
  .obtain⟨Dk,e',qB,p,pf,q,r⟩:=hi.cells id cs hc b hb;exact⟨Dk,e',qB,by rw[Eb _ _ (by rw[A0] at p;exact p.1)];exact p,pf,A8.mono DW cs _ q,r⟩
  .obtain⟨Dl,clock,p,q⟩:=hi.map id es hc b hb;refine⟨Dl,clock,by rw[Eb _ _ (by rw[A0] at p;exact p.1)];exact p,?_,q.2⟩;replace q:=q.1;clear hc p;revert q;generalize Dl.toList=l;intro q;induction es generalizing l with
   |nil=>exact q
   |cons kv es ih=>obtain⟨kk,vv⟩:=kv;obtain⟨en,TO,hl,a1,a2,a3⟩:=q;exact⟨en,TO,hl,BF.mono DW _ _ a1,BF.mono DW _ _ a2,ih TO a3⟩
  .by_cases MI:b=w.heap.size;·subst MI;simp
   .simp only[Gh.C6,if_neg MI] at hy;have:=hi.own b y hy;simp;omega
 .refine⟨DW,by simp,rfl,rfl,rfl,λb hb _=>⟨Eb _ _ hb,?_⟩⟩;simp only[Gh.C6,if_neg (cy hb)]
theorem KX.mono{γ γ':Gh}(DW:γ.le γ'):∀{es:List (Aa×Aa)} {l:List MapEntry},KX γ es l->KX γ' es l
 |[],l,q=>q
 |(kk,vv)::es,l,q=>by obtain⟨en,TO,hl,a1,a2,a3⟩:=q;exact⟨en,TO,hl,BF.mono DW _ _ a1,BF.mono DW _ _ a2,a3.mono DW⟩
theorem uP.mono{γ γ':Gh}(DW:γ.le γ'){es:List (Aa×Aa)}{l:Array MapEntry}{c:Nat}(h:uP γ es l c):uP γ' es l c:=⟨h.1.mono DW,h.2⟩
theorem F0(hi:Gs γ h w)(o:Obj)(x:De)(m:Option Nat)
  (hx:(∃cs us e fr,x= .cells cs/\o= .cells us e fr/\RD fr us.size/\A8 γ cs (us.toList.take cs.length)/\(∀u∈us.toList.take cs.length,u.oneCell'=true)/\m=some us.size)\/(x= .map []/\o= .map #[] 0/\m=none)):
  Gs (γ.BL w.heap.size h.length m) (h++[x]) (w.alloc o)/\J1 γ w (γ.BL w.heap.size h.length m) (w.alloc o):=by
 have E2:γ.own w.heap.size=none:=by
  cases hc:γ.own w.heap.size with
  |none=>rfl
  |some y=>exact absurd (hi.own _ y hc) (C8 _)
 have hmu:γ.mu h.length=none:=by
  cases hc:γ.mu h.length with
  |none=>rfl
  |some y=>exact absurd (hi.mu _ y hc) (C8 _)
 have hsz:γ.sz w.heap.size=none:=by
  cases hc:γ.sz w.heap.size with
  |none=>rfl
  |some y=>obtain⟨⟨_,_,_,p,_⟩,_⟩:=hi.sz _ y hc;rw[A0] at p;exact absurd p.1 (C8 _)
 have DW:γ.le (γ.BL w.heap.size h.length m):=⟨λ_ _ _ hv=>hv,λid b hm=>by
  have:id≠h.length:=λhe=>by rw[he,hmu] at hm;cases hm
  simp only[Gh.BL,if_neg this];exact hm,λb n hm=>by
  have:b≠w.heap.size:=λhe=>by rw[he,hsz] at hm;cases hm
  simp only[Gh.BL,if_neg this];exact hm⟩
 constructor
 .refine⟨λb o' v hb=>?_,λid y Hj hy=>?_,λid cs hc b hb=>?_,λid es hc b hb=>?_,λid b hb=>?_,λb y hy=>?_,λb n hb=>?_⟩;rotate_left 6
  .by_cases MI:b=w.heap.size
   .subst MI;simp only[Gh.BL,BN] at hb;rcases hx with⟨Gf,us,e,fr,rfl,rfl,pf,p,q,rfl⟩|⟨rfl,rfl,rfl⟩
    .cases hb;exact⟨⟨us,e,fr,heap_alloc_new w _,rfl⟩,.inr ⟨h.length,by simp[Gh.BL]⟩⟩
    .cases hb
   .simp only[Gh.BL,if_neg MI] at hb⊢;obtain⟨⟨Dk,e',qB,p,q⟩,r⟩:=hi.sz b n hb;exact⟨⟨Dk,e',qB,by rw[Eb _ _ (by rw[A0] at p;exact p.1)];exact p,q⟩,r⟩
  .obtain⟨p,q,r⟩:=hi.HA b o' v hb;have MI:b≠w.heap.size:=cy (Dn p);exact⟨by rw[World.cell?_alloc_old _ _ _ MI];exact p,q,by simp only[Gh.BL,if_neg MI];exact r⟩
  .by_cases he:id=h.length;·exact⟨w.heap.size,by simp[Gh.BL,he],by simp[Gh.BL,he]⟩
   .have Us:id<h.length:=by rw[Ah] at Hj;obtain⟨hl,_⟩:=Hj;simp at hl;omega
    rw[Ad Us] at Hj;obtain⟨b,p,q⟩:=hi.KW id y Hj hy;have MI:b≠w.heap.size:=λhe=>by rw[he,E2] at q;cases q
    exact⟨b,by simp only[Gh.BL,if_neg he];exact p,by simp only[Gh.BL,if_neg MI];exact q⟩
  .by_cases he:id=h.length
   .subst he;simp[Gh.BL] at hb;subst hb;simp at hc;rcases hx with⟨Gf,us,e,fr,rfl,rfl,pf,p,q,rfl⟩|⟨rfl,rfl,rfl⟩
    .cases hc;exact⟨us,e,fr,heap_alloc_new w _,pf,A8.mono DW _ _ p,q⟩
    .cases hc
   .simp only[Gh.BL,if_neg he] at hb;have Us:=hi.mu id b hb;rw[Ad Us] at hc;obtain⟨Dk,e',qB,p,pf,q,r⟩:=hi.cells id cs hc b hb;exact⟨Dk,e',qB,by rw[Eb _ _ (by rw[A0] at p;exact p.1)];exact p,pf,A8.mono DW _ _ q,r⟩
  .by_cases he:id=h.length
   .subst he;simp[Gh.BL] at hb;subst hb;simp at hc;rcases hx with⟨Gf,us,e,fr,rfl,rfl,pf,p,q,rfl⟩|⟨rfl,rfl,rfl⟩
    .cases hc
    .cases hc;exact⟨#[],0,heap_alloc_new w _,rfl,rfl,by simp⟩
   .simp only[Gh.BL,if_neg he] at hb;have Us:=hi.mu id b hb;rw[Ad Us] at hc;obtain⟨Dl,clock,p,q⟩:=hi.map id es hc b hb;exact⟨Dl,clock,by rw[Eb _ _ (by rw[A0] at p;exact p.1)];exact p,q.mono DW⟩
  .by_cases he:id=h.length;·simp[he]
   .simp only[Gh.BL,if_neg he] at hb;have:=hi.mu id b hb;simp;omega
  .by_cases MI:b=w.heap.size;·subst MI;simp
   .simp only[Gh.BL,if_neg MI] at hy;have:=hi.own b y hy;simp;omega
 .refine⟨DW,by simp,rfl,rfl,rfl,λb hb _=>⟨Eb _ _ hb,?_⟩⟩;simp only[Gh.BL,if_neg (cy hb)]
theorem qC(hi:Gs γ h w){g s:Nat}(hg:γ.own g=some (.loc s))(us:Array Value):Gs γ h (w.setRow g us):=by
 refine⟨λb o v hb=>?_,hi.KW,λid cs hc b hb=>?_,λid es hc b hb=>?_,hi.mu,λb x hx=>?_,λb n hb=>?_⟩;rotate_left 4
 .obtain⟨p,r⟩:=hi.sz b n hb;have:b≠g:=λhe=>by subst he;rw[hg] at r;rcases r with r|⟨_,r⟩<;>cases r
  exact⟨by rw[setRow_other w g b us this];exact p,r⟩
 .obtain⟨p,q,r⟩:=hi.HA b o v hb;have:b≠g:=λhe=>by subst he;rw[hg] at r;rcases r with r|⟨_,_,_,r,_⟩<;>cases r
  exact⟨by rw[Cw (setRow_other w g b us this)];exact p,q,r⟩
 .have Sw:b≠g:=λhe=>by subst he;obtain⟨b',p,q⟩:=hi.KW id _ hc (by simp);rw[hb] at p;cases p;rw[hg] at q;cases q
  rw[setRow_other w g b us Sw];exact hi.cells id cs hc b hb
 .have Sw:b≠g:=λhe=>by subst he;obtain⟨b',p,q⟩:=hi.KW id _ hc (by simp);rw[hb] at p;cases p;rw[hg] at q;cases q
  rw[setRow_other w g b us Sw];exact hi.map id es hc b hb
 .have:=hi.own b x hx;simpa[World.setRow] using this
theorem L7(hi:Gs γ h w){g id:Nat}{cs:List Aa}(hcs:h[id]?=some (.cells cs))(hg:γ.mu id=some g){us:Array Value}{e:TypeId}{fr:Nat×Nat}(hw:w.heap[g]?=some (.cells us e fr))(Dk:Array Value)(Gf:List Aa)(WW:Dk.size=us.size)(kN:RD fr Dk.size)
  (hr:A8 γ Gf (Dk.toList.take Gf.length)) (h1:∀u∈Dk.toList.take Gf.length,u.oneCell'=true):
  Gs γ (h.set id (.cells Gf)) (w.setRow g Dk)/\J1 γ w γ (w.setRow g Dk):=by
 obtain⟨g',p,Rp⟩:=hi.KW id _ hcs (by simp);rw[hg] at p;cases p;have uniq:∀Fa x,h[Fa]?=some x->x≠ .CG->γ.mu Fa=some g->Fa=id:=λFa x hx yl hm=>by obtain⟨b',p,q⟩:=hi.KW Fa x hx yl;rw[hm] at p;cases p;rw[Rp] at q;cases q;rfl
 constructor
 .refine⟨λb o v hb=>?_,λFa y Hj hy=>?_,λFa cs hc b hb=>?_,λFa es hc b hb=>?_,λFa b hb=>by simpa using hi.mu Fa b hb,λb x hx=>?_,λb n hb=>?_⟩;rotate_left 5
  .obtain⟨⟨eJ,e2,uR,p,q⟩,r⟩:=hi.sz b n hb;by_cases he:b=g;·subst he;rw[hw] at p;cases p;exact⟨⟨Dk,e,fr,setRow_heap w b us Dk e fr hw,by rw[WW];exact q⟩,r⟩
   .exact⟨⟨eJ,e2,uR,by rw[setRow_other w g b Dk he];exact p,q⟩,r⟩
  .obtain⟨p,q,r⟩:=hi.HA b o v hb;have:b≠g:=λhe=>by subst he;rw[Rp] at r;rcases r with r|⟨_,_,_,r,_⟩<;>cases r
   exact⟨by rw[Cw (setRow_other w g b Dk this)];exact p,q,r⟩
  .by_cases he:Fa=id;·subst he;exact⟨g,hg,Rp⟩
   .rw[Aj (λx=>he x.symm)] at Hj;exact hi.KW Fa y Hj hy
  .by_cases he:Fa=id;·subst he;rw[hg] at hb;cases hb;rw[AN (hi.mu _ _ hg)] at hc;cases hc;exact⟨Dk,e,fr,setRow_heap w g us Dk e fr hw,kN,hr,h1⟩
   .rw[Aj (λx=>he x.symm)] at hc;have Sw:b≠g:=λhx=>by subst hx;exact he (uniq Fa _ hc (by simp) hb)
    rw[setRow_other w g b Dk Sw];exact hi.cells Fa cs hc b hb
  .by_cases he:Fa=id;·subst he;rw[AN (hi.mu _ _ hg)] at hc;cases hc
   .rw[Aj (λx=>he x.symm)] at hc;have Sw:b≠g:=λhx=>by subst hx;exact he (uniq Fa _ hc (by simp) hb)
    rw[setRow_other w g b Dk Sw];exact hi.map Fa es hc b hb
  .have:=hi.own b x hx;simpa[World.setRow] using this
 .refine⟨.refl _,by simp[World.setRow],rfl,rfl,rfl,λb hb hn=>⟨?_,rfl⟩⟩;exact setRow_other w g b Dk (λhe=>by subst he;exact hn id Rp)
theorem eK(hi:Gs γ h w){g s st:Nat}{c:Option Nat}(hg:γ.own g=some (.tail s c st)){us:Array Value}{e:TypeId}(hw:w.heap[g]?=some (.cells us e (0,0)))(Dk:Array Value)(k:Nat)(s':Nat)(c':Option Nat)
  (L8:∀o,o<st->Dk[o]?=us[o]?) (hk:st<=k) (h1:∀o u,o<k->Dk[o]?=some u->u.oneCell'=true) (X3:∀o v,γ.HA g o=some v->us[o]?=some v):
  Gs (γ.C6 g Dk k (some (.tail s' c' k))) h (w.setRow g Dk)/\γ.le (γ.C6 g Dk k (some (.tail s' c' k))):=by
 have hlt:∀o v,γ.HA g o=some v->o<st:=λo v ho=>by
  obtain⟨_,_,r⟩:=hi.HA g o v ho;rw[hg] at r;rcases r with r|⟨_,_,_,r,hl⟩
  .cases r
  .cases r;exact hl
 have DW:γ.le (γ.C6 g Dk k (some (.tail s' c' k))):=⟨λb o v hb=>by
  by_cases he:b=g;·subst he;have:=hlt o v hb;simp only[Gh.C6,BN,if_pos (Zz this hk)];rw[L8 o this];exact X3 o v hb
  .simp only[Gh.C6,if_neg he];exact hb,λ_ _ hm=>hm,λ_ _ hm=>hm⟩
 refine⟨⟨λb o v hb=>?_,λid y Hj hy=>?_,λid cs hc b hb=>?_,λid es hc b hb=>?_,hi.mu,λb x hx=>?_,λb n hb=>?_⟩,DW⟩;rotate_left 5
 .obtain⟨p,r⟩:=hi.sz b n hb;have:b≠g:=λhe=>by subst he;rw[hg] at r;rcases r with r|⟨_,r⟩<;>cases r
  exact⟨by rw[setRow_other w g b Dk this];exact p,by simp only[Gh.C6,if_neg this];exact r⟩
 .by_cases he:b=g
  .subst he;simp only[Gh.C6,BN] at hb⊢;split at hb
   .rename_i hl;exact⟨by rw[cell_of_row _ _ _ Dk e (0,0) (setRow_heap w b us Dk e (0,0) hw)];exact hb,
     h1 o v hl hb,.inr ⟨s',c',k,rfl,hl⟩⟩
   .cases hb
  .simp only[Gh.C6,if_neg he] at hb⊢;obtain⟨p,q,r⟩:=hi.HA b o v hb;exact⟨by rw[Cw (setRow_other w g b Dk he)];exact p,q,r⟩
 .obtain⟨b,p,q⟩:=hi.KW id y Hj hy;have:b≠g:=λhe=>by subst he;rw[hg] at q;cases q
  exact⟨b,p,by simp only[Gh.C6,if_neg this];exact q⟩
 .replace hb:γ.mu id=some b:=hb;obtain⟨b',p,q⟩:=hi.KW id _ hc (by simp);rw[hb] at p;cases p;have:b≠g:=λhe=>by subst he;rw[hg] at q;cases q
  rw[setRow_other w g b Dk this];obtain⟨eJ,e2,uR,p2,pf2,q2,r2⟩:=hi.cells id cs hc b hb;exact⟨eJ,e2,uR,p2,pf2,A8.mono DW _ _ q2,r2⟩
 .replace hb:γ.mu id=some b:=hb;obtain⟨b',p,q⟩:=hi.KW id _ hc (by simp);rw[hb] at p;cases p;have:b≠g:=λhe=>by subst he;rw[hg] at q;cases q
  rw[setRow_other w g b Dk this];obtain⟨Dl,clock,p2,q2⟩:=hi.map id es hc b hb;exact⟨Dl,clock,p2,q2.mono DW⟩
 .by_cases he:b=g;·subst he;have:=hi.own b _ hg;simpa[World.setRow] using this
  .simp only[Gh.C6,if_neg he] at hx;have:=hi.own b x hx;simpa[World.setRow] using this
theorem J1.write{γ0 γ1:Gh}{w0:World}(ha:J1 γ0 w0 γ w){w1:World}{g:Nat}(hg:w0.heap.size<=g)(DW:γ.le γ1)(hs:w1.heap.size=w.heap.size)(h1:w1.os=w.os)(h2:w1.tape=w.tape)(h3:w1.output=w.output)
  (hk:∀b,b≠g->w1.heap[b]?=w.heap[b]?/\γ1.own b=γ.own b):J1 γ0 w0 γ1 w1:=by
 refine⟨ha.le.trans DW,by rw[hs];exact ha.size,h1.trans ha.os,h2.trans ha.tape,h3.trans ha.output,λb hb hn=>?_⟩;·obtain⟨p,q⟩:=ha.MH b hb hn;obtain⟨p',q'⟩:=hk b (by omega);exact⟨p'.trans p,q'.trans q⟩
theorem uS(hi:Gs γ h w){g id:Nat}{cs:List Aa}(hcs:h[id]?=some (.cells cs))(hg:γ.mu id=some g){us:Array Value}{e:TypeId}{fr:Nat×Nat}(hw:w.heap[g]?=some (.cells us e fr))(h1:∀u∈us.toList.take cs.length,u.oneCell'=true):
  Gs (γ.C6 g us cs.length none) (h.set id .CG) w/\J1 γ w (γ.C6 g us cs.length none) w:=by
 obtain⟨g',p,Rp⟩:=hi.KW id _ hcs (by simp);rw[hg] at p;cases p;have uniq:∀Fa x,h[Fa]?=some x->x≠ .CG->γ.mu Fa=some g->Fa=id:=λFa x hx yl hm=>by obtain⟨b',p,q⟩:=hi.KW Fa x hx yl;rw[hm] at p;cases p;rw[Rp] at q;cases q;rfl
 have hne:∀o v,γ.HA g o=some v->False:=λo v hv=>by obtain⟨_,_,r⟩:=hi.HA g o v hv;rw[Rp] at r;rcases r with r|⟨_,_,_,r,_⟩<;>cases r
 have DW:γ.le (γ.C6 g us cs.length none):=⟨λb o v hb=>by
  have:b≠g:=λhe=>by subst he;exact hne o v hb
  simp only[Gh.C6,if_neg this];exact hb,λ_ _ hm=>hm,λ_ _ hm=>hm⟩
 constructor
 .refine⟨λb o v hb=>?_,λFa y Hj hy=>?_,λFa Gf hc b hb=>?_,λFa es hc b hb=>?_,λFa b hb=>by simpa using hi.mu Fa b hb,λb x hx=>?_,λb n hb=>?_⟩;rotate_left 5
  .obtain⟨p,r⟩:=hi.sz b n hb;by_cases he:b=g;·subst he;exact⟨p,.inl (by simp[Gh.C6])⟩
   .exact⟨p,by simp only[Gh.C6,if_neg he];exact r⟩
  .by_cases he:b=g
   .subst he;simp only[Gh.C6,BN] at hb⊢;split at hb;·rename_i hlt;exact⟨by rw[cell_of_row _ _ _ us e fr hw];exact hb,h1 v (CD (i:=o) (by rw[C9 hlt];simpa using hb)),.inl (by simp)⟩
    .cases hb
   .simp only[Gh.C6,if_neg he] at hb⊢;exact hi.HA b o v hb
  .by_cases he:Fa=id;·subst he;rw[AN (hi.mu _ _ hg)] at Hj;cases Hj;exact absurd rfl hy
   .rw[Aj (λx=>he x.symm)] at Hj;obtain⟨b,p,q⟩:=hi.KW Fa y Hj hy;have:b≠g:=λhx=>by subst hx;exact he (uniq Fa y Hj hy p)
    exact⟨b,p,by simp only[Gh.C6,if_neg this];exact q⟩
  .by_cases he:Fa=id;·subst he;rw[AN (hi.mu _ _ hg)] at hc;cases hc
   .rw[Aj (λx=>he x.symm)] at hc;obtain⟨Dk,e',qB,p,pf,q,r⟩:=hi.cells Fa Gf hc b hb;exact⟨Dk,e',qB,p,pf,A8.mono DW _ _ q,r⟩
  .by_cases he:Fa=id;·subst he;rw[AN (hi.mu _ _ hg)] at hc;cases hc
   .rw[Aj (λx=>he x.symm)] at hc;obtain⟨Dk,e',p,q⟩:=hi.map Fa es hc b hb;exact⟨Dk,e',p,q.mono DW⟩
  .by_cases he:b=g;·subst he;exact hi.own b _ Rp
   .simp only[Gh.C6,if_neg he] at hx;exact hi.own b x hx
 .refine⟨DW,Ac _,rfl,rfl,rfl,λb hb hn=>⟨rfl,?_⟩⟩;have:b≠g:=λhe=>by subst he;exact hn id Rp
  simp only[Gh.C6,if_neg this]
end
end Go.Am
end
section
namespace Go.Am
def Er.L9(C:FI)(run:IT->Ae->Option Jn)(σ:BD)(h:Ae)(σ':BD)(h':Ae):Er->Prop
 | .pure ws=>σ'=σ.Ec ws/\h'=h
 | .op p args dst own dem=>∃v,Aw p args=some v/\σ'=(σ.Dm dem).put dst (if own then .own v else .val v)/\h'=h
 | .box n v d=>v.cells.length=n/\σ'=σ.set d (.box 0 v.cells [])/\h'=h
 | .KC fn a b fz d=>σ'=(σ.Ec (fz.map λ(s,cs)=>(s,.val (.CA cs)))).set d (.val (.func fn a b))/\h'=h
 | .LN s off n v own dem ver cells owned=>v.cells.length=n/\σ'=(σ.Dm dem).set s (.box (ver+1) (Um cells off n v.cells) (Qq owned off n own))/\h'=h
 | .load n p dst=>∃v,Bb h n p=some v/\σ'=σ.put dst (.val v)/\h'=h
 | .store n p v=>Cv h n p v=some h'/\σ'=σ
 | .alloc n v dst=>v.cells.length=n/\h'=h++[.cells v.cells]/\σ'=σ.put dst (.val (.ptr (some (h.length,0))))
 | .call f args dst=>∃r,run (B5 C f args) h=some (.ret,[r],h')/\σ'=σ.put dst (if C.Ii f then .own r else .val r)
 | .FH g args dst=>∃f args' r,Dt g args=some (f,args')/\run (B5 C f args') h=some (.ret,[r],h')/\σ'=σ.put dst (.val r)
 | .Be f args dst=>args.all Aa.Lp=true/\∃r h1,run (B5 C f args) []=some (.ret,[r],h1)/\r.Lp=true/\σ'=σ.put dst (.val r)/\h'=h
 | .OY dst=>h'=h++[.map []]/\σ'=σ.put dst (.val (.map (some h.length)))
 | .JY m k v=>Sq h m k v=some h'/\σ'=σ
 | .make z b zero l c dst=>∃v,Uf h z b zero l c=some (h',v)/\σ'=σ.put dst (.val v)
 | .Ht z b s x dst dem=>∃v,Jt h z b s x=some (h',v)/\σ'=(σ.Dm dem).put dst (.val v)
 | .Ft z b s x dst=>∃v,Fo h z b s x=some (h',v)/\σ'=σ.put dst (.val v)
 | .FY z b s x dst dem=>∃v,O7 h z b s x=some v/\σ'=(σ.Dm dem).put dst (.own v)/\h'=h
 | .E9 s dst=>∃v,IL h s=some (h',v)/\σ'=σ.put dst (.val v)
 | .S7 s dst=>∃v u,Kn h s=some (h',v)/\Aw .S7 [v]=some u/\σ'=σ.put dst (.val u)
 | .mem o args dst=>∃v,Ep o h args=some (h',v)/\σ'=σ.put dst (if o.aDi then .undef else .val v)
 | .L5 z ok m k dst=>∃v,Sr h z ok m k=some v/\σ'=σ.put dst (.val v)/\h'=h
theorem RE{n:Nat}{cs:List Aa}(h:cs.length=n):Ul n cs=cs:=by
 subst h;apply List.ext_getElem?;intro i;simp only[Ul,Cp,List.getD];by_cases hi:i<cs.length;·simp[List.getElem?_range hi,Af hi]
 .simp[hi]
theorem WX{C:FI}{run:IT->Ae->Option Jn}{σ:BD}{K:BD->IT}{h:Ae}{R:Jn}{r:Er}
  (hr:IT.step (B5 C) run (r.LQ C σ K) h=some R):∃σ' h',r.L9 C run σ h σ' h'/\IT.step (B5 C) run (K σ') h'=some R:=by
 cases r with
 |pure ws=>exact⟨_,_,⟨rfl,rfl⟩,hr⟩
 |op p args dst own dem=>
  simp only[Er.LQ,IT.step] at hr;split at hr;·rename_i v hv;exact⟨_,_,⟨v,hv,rfl,rfl⟩,hr⟩
  .cases hr
 |box n v d=>
  simp only[Er.LQ,IT.step] at hr;split at hr;·rename_i hn;rw[RE hn] at hr;exact⟨_,_,⟨hn,rfl,rfl⟩,hr⟩
  .cases hr
 |KC fn a b fz d=>exact⟨_,_,⟨rfl,rfl⟩,hr⟩
 |LN s off n v own dem ver cells owned=>
  simp only[Er.LQ,IT.step] at hr;split at hr;·rename_i hn;rw[RE hn] at hr;exact⟨_,_,⟨hn,rfl,rfl⟩,hr⟩
  .cases hr
 |load n p dst=>
  simp only[Er.LQ,IT.step] at hr;split at hr;·rename_i v hv;exact⟨_,_,⟨v,hv,rfl,rfl⟩,hr⟩
  .cases hr
 |store n p v=>
  simp only[Er.LQ,IT.step] at hr;split at hr;·rename_i h1 hv;exact⟨_,_,⟨hv,rfl⟩,hr⟩
  .cases hr
 |alloc n v dst=>
  simp only[Er.LQ,IT.step,X0] at hr;by_cases hn:v.cells.length=n;·rw[if_pos hn] at hr;exact⟨_,_,⟨hn,rfl,rfl⟩,hr⟩
  .rw[if_neg hn] at hr;cases hr
 |call f args dst=>
  simp only[Er.LQ,IT.step] at hr;split at hr;·rename_i r h1 hv;exact⟨_,_,⟨r,hv,rfl⟩,hr⟩
  .cases hr
 |FH g args dst=>
  simp only[Er.LQ,IT.step] at hr;split at hr
  .rename_i f a' ht;split at hr;·rename_i r h1 hv;exact⟨_,_,⟨f,a',r,ht,hv,rfl⟩,hr⟩
   .cases hr
  .cases hr
 |Be f args dst=>
  simp only[Er.LQ,IT.step] at hr;split at hr
  .rename_i GI;split at hr
   .rename_i r h1 hv;split at hr;·rename_i tn;exact⟨_,_,⟨GI,r,h1,hv,tn,rfl,rfl⟩,hr⟩
    .cases hr
   .cases hr
  .cases hr
 |OY dst=>exact⟨_,_,⟨rfl,rfl⟩,hr⟩
 |JY m k v=>
  simp only[Er.LQ,IT.step] at hr;split at hr;·rename_i h1 hv;exact⟨_,_,⟨hv,rfl⟩,hr⟩
  .cases hr
 |L5 z ok m k dst=>
  simp only[Er.LQ,IT.step] at hr;split at hr;·rename_i v hv;exact⟨_,_,⟨v,hv,rfl,rfl⟩,hr⟩
  .cases hr
 |make z b zero l c dst=>
  simp only[Er.LQ,IT.step] at hr;split at hr;·rename_i h1 v hv;exact⟨_,_,⟨v,hv,rfl⟩,hr⟩
  .cases hr
 |Ht z b s x dst dem=>
  simp only[Er.LQ,IT.step] at hr;split at hr;·rename_i h1 v hv;exact⟨_,_,⟨v,hv,rfl⟩,hr⟩
  .cases hr
 |Ft z b s x dst=>
  simp only[Er.LQ,IT.step] at hr;split at hr;·rename_i h1 v hv;exact⟨_,_,⟨v,hv,rfl⟩,hr⟩
  .cases hr
 |FY z b s x dst dem=>
  simp only[Er.LQ,IT.step] at hr;split at hr;·rename_i v hv;exact⟨_,_,⟨v,hv,rfl,rfl⟩,hr⟩
  .cases hr
 |E9 s dst=>
  simp only[Er.LQ,IT.step] at hr;split at hr;·rename_i h1 v hv;exact⟨_,_,⟨v,hv,rfl⟩,hr⟩
  .cases hr
 |S7 s dst=>
  simp only[Er.LQ,IT.step] at hr;split at hr
  .rename_i h1 v hv;split at hr;·rename_i u hu;exact⟨_,_,⟨v,u,hv,hu,rfl⟩,hr⟩
   .cases hr
  .cases hr
 |mem o args dst=>
  simp only[Er.LQ,IT.step] at hr;split at hr;·rename_i h1 v hv;exact⟨_,_,⟨v,hv,rfl⟩,hr⟩
  .cases hr
structure CS(C:FI)(γ0:Gh)(w0:World)(γ:Gh)(β:Nat->Nat)(σ:BD)(h:Ae)(a:Act)(w:World):Prop where
 DD:Gs γ h w
 fr:FR γ β w0.heap.size σ a.tmps w
 Dw:J1 γ0 w0 γ w
 defers:a.defers=[]
 Gj:∀g cs,C.Gj g=some cs->CI γ cs g 0
theorem Qu{γ:Gh}{v:Value}{a:Aa}(h:NH v=some a):BF γ a v/\v.oneCell'=true:=by
 unfold NH at h;split at h;case h_7=>
  rename_i fn f c;split at h;·rename_i hs;cases h;have e1:f=#[]:=Sp hs.1;have e2:c=#[]:=Sp hs.2;subst e1;subst e2;exact⟨⟨#[],#[],rfl,rfl,rfl⟩,rfl⟩
  .cases h
 all_goals first
  |(cases h;exact⟨rfl,rfl⟩)
  |cases h
theorem LR{γ:Gh}:∀{vs:List Value} {as:List Aa},KK vs=some as->A8 γ as vs/\∀v∈vs,v.oneCell'=true
 |[],as,h=>by cases h;exact⟨rfl,by simp⟩
 |v::vs,as,h=>by
  unfold KK at h;split at h;·rename_i a as' h1 h2;cases h;obtain⟨p,q⟩:=Qu (γ:=γ) h1;obtain⟨p',q'⟩:=LR (γ:=γ) h2;exact⟨⟨v,vs,rfl,p,p'⟩,λx hx=>(AM.1 hx).elim (λe=>by rw[e];exact q) (q' x)⟩
  .cases h
theorem ES{γ:Gh}{v:Value}{a:Aa}(h:JP v=some a):BF γ a v:=by
 unfold JP at h;split at h
 .rename_i cs;cases hs:KK cs.toList with
  |none=>rw[hs] at h;cases h
  |some as=>rw[hs] at h;cases h;obtain⟨p,q⟩:=LR (γ:=γ) hs;exact⟨cs,rfl,p,q⟩
 .exact(Qu h).1
section
variable{C:FI}{γ0 γ:Gh}{w0 w:World}{β:Nat->Nat}{σ:BD}{h:Ae}{a:Act}
theorem PI(hr:CS C γ0 w0 γ β σ h a w){x:Operand}{sl:D6}(hx:DJ C σ x=some sl)(hn:∀s,x≠ .tmp s):∃s,Kq γ β w0.heap.size w s sl (a.eval x):=by
 unfold DJ at hx;split at hx;·exact absurd rfl (hn _)
 .cases hx;exact⟨0,rfl⟩
 .cases hx;exact⟨0,rfl,.inl rfl⟩
 .rename_i v _ _;cases hc:JP v with
  |none=>rw[hc] at hx;cases hx
  |some u=>rw[hc] at hx;cases hx;exact⟨0,ES hc⟩
 .rename_i g;cases hc:C.Gj g with
  |none=>rw[hc] at hx;cases hx
  |some cs=>rw[hc] at hx;cases hx;exact⟨0,g,0,rfl,hr.Gj g cs hc⟩
 .cases hx;exact⟨0,#[],#[],rfl,rfl,rfl⟩
theorem Qv(hr:CS C γ0 w0 γ β σ h a w)(s:Nat):Kq γ β w0.heap.size w s (σ.at s) (a.eval (.tmp s)):=hr.fr.Hv s
theorem Fz(hr:CS C γ0 w0 γ β σ h a w){x:Operand}{sl:D6}(hx:DJ C σ x=some sl):∃s,Kq γ β w0.heap.size w s sl (a.eval x)/\∀t,x= .tmp t->s=t:=by
 cases x with
 |tmp t=>cases hx;exact⟨t,Qv hr t,λ_ h=>by cases h;rfl⟩
 |const v=>obtain⟨s,h1⟩:=PI hr hx (by intro s h;cases h);exact⟨s,h1,λ_ h=>by cases h⟩
 |global g=>obtain⟨s,h1⟩:=PI hr hx (by intro s h;cases h);exact⟨s,h1,λ_ h=>by cases h⟩
 |func f=>obtain⟨s,h1⟩:=PI hr hx (by intro s h;cases h);exact⟨s,h1,λ_ h=>by cases h⟩
theorem Ma{B s:Nat}{sl:D6}{v:Value}{u:Aa}(hs:Kq γ β B w s sl v)(hv:sl.Gu=some u):BF γ u v:=by
 cases sl<;>simp[D6.Gu] at hv;·subst hv;exact hs
 .subst hv;exact hs
 .subst hv;exact hs.1
theorem FU(hr:CS C γ0 w0 γ β σ h a w){x:Operand}{u:Aa}(hx:Es C σ x=some u):BF γ u (a.eval x):=by
 unfold Es at hx;cases hs:DJ C σ x with
 |none=>rw[hs] at hx;cases hx
 |some sl=>rw[hs] at hx;obtain⟨s,h1,_⟩:=Fz hr hs;exact Ma h1 hx
theorem Dx(hr:CS C γ0 w0 γ β σ h a w):∀{xs:List Operand} {us:List Aa},Bq C σ xs=some us->A8 γ us (xs.map a.eval)
 |[],us,hx=>by cases hx;rfl
 |x::xs,us,hx=>by
  unfold Bq at hx;split at hx;·rename_i u Dk h1 h2;cases hx;exact⟨_,_,rfl,FU hr h1,Dx hr h2⟩
  .cases hx
theorem FR.put{B:Nat}{tmps:Array Value}(hf:FR γ β B σ tmps w){d:Nat}{x:D6}{v:Value}(hx:Kq γ β B w d x v):FR γ β B (σ.set d x) (tmps.setIfInBounds d v) w:=by
 refine⟨by simp[hf.size],λs=>?_⟩;have hs:=hf.Hv s;by_cases he:s=d
 .subst he;by_cases hl:s<σ.length
  .have hl':s<tmps.size:=by rw[<-hf.size];exact hl
   simpa[BD.at,List.getD,hl,hl',Array.getD] using hx
  .have hl':¬s<tmps.size:=by rw[<-hf.size];exact hl
   simpa[BD.at,List.getD,hl,hl',Array.getD] using hs
 .have h1:BD.at (σ.set d x) s=σ.at s:=by simp[BD.at,List.getD,Aj (λe=>he e.symm)]
  have h2:(tmps.setIfInBounds d v).getD s undef=tmps.getD s undef:=by simp[Lo,Array.getElem?_setIfInBounds_ne (λe=>he e.symm)]
  rw[h1,h2];exact hs
theorem FR.ZQ{B:Nat}{tmps:Array Value}(hf:FR γ β B σ tmps w){d:Nat}{x:D6}(hx:Kq γ β B w d x (tmps.getD d undef)):FR γ β B (σ.set d x) tmps w:=by
 refine⟨by simp[hf.size],λs=>?_⟩;have hs:=hf.Hv s;by_cases he:s=d
 .subst he;by_cases hl:s<σ.length;·simpa[BD.at,List.getD,hl] using hx
  .simpa[BD.at,List.getD,hl] using hs
 .have h1:BD.at (σ.set d x) s=σ.at s:=by simp[BD.at,List.getD,Aj (λe=>he e.symm)]
  rw[h1];exact hs
theorem CS.put(hr:CS C γ0 w0 γ β σ h a w){d:Option Nat}{x:D6}{v:Value}(hx:∀s,d=some s->Kq γ β w0.heap.size w s x v):CS C γ0 w0 γ β (σ.put d x) h (a.put d v) w:=by
 cases d with
 |none=>exact hr
 |some d=>exact⟨hr.DD,hr.fr.put (hx d rfl),hr.Dw,hr.defers,hr.Gj⟩
theorem CS.ZQ(hr:CS C γ0 w0 γ β σ h a w){d:Nat}{x:D6}(hx:Kq γ β w0.heap.size w d x (a.tmps.getD d undef)):CS C γ0 w0 γ β (σ.set d x) h a w:=
 ⟨hr.DD,hr.fr.ZQ hx,hr.Dw,hr.defers,hr.Gj⟩
theorem CS.drop(hr:CS C γ0 w0 γ β σ h a w)(ds:List Nat):CS C γ0 w0 γ β (σ.drop ds) h a w:=by
 cases ds with
 |nil=>exact hr
 |cons d ds=>
  refine⟨hr.DD,⟨by simp[BD.drop,hr.fr.size],λs=>?_⟩,hr.Dw,hr.defers,hr.Gj⟩;have hs:=hr.fr.Hv s;have e:(BD.drop σ (d::ds)).at s=match σ.at s with| .EG t o=>if(d::ds).contains t then .undef else .EG t o|x=>x:=by
   simp only[BD.drop,BD.at,List.getD,Cp];cases hg:σ[s]? with
   |none=>rfl
   |some x=>cases x<;>rfl
  rw[e];cases hx:σ.at s with
  |EG t o=>
   rw[hx] at hs;simp only
   split;·trivial
   .exact hs
  |_=>rw[hx] at hs;exact hs
theorem CS.world(hr:CS C γ0 w0 γ β σ h a w){γ':Gh}{h':Ae}{w':World}(hi:Gs γ' h' w')(ha:J1 γ w γ' w'):CS C γ0 w0 γ' β σ h' a w':=
 ⟨hi,hr.fr.kept (qA.yj hr.DD ha),hr.Dw.trans ha,hr.defers,λg cs hg=>CI.mono ha.le _ _ _ (hr.Gj g cs hg)⟩
theorem Ir{P:Program}{o:Oper}{v:Value}{w':World}{next:Act->World->Prop}{Q:Exit->Act->World->Prop}(he:(execOp a.eval o).run P w= .ok (.value v) w')(hn:next (a.put o.dst v) w'):o.wp P a w next Q:=by unfold Oper.wp;rw[he];exact hn
theorem eL{P:Program}{o:Oper}{w':World}{next:Act->World->Prop}{Q:Exit->Act->World->Prop}(he:(execOp a.eval o).run P w= .ok .skip w')(hn:next (a.put o.dst undef) w'):o.wp P a w next Q:=by unfold Oper.wp;rw[he];exact hn
end
end Go.Am
end
section
namespace Go.Am
def Gh.Fb(γ:Gh)(g:Nat)(x:Jp):Gh:={γ with own:=λb=>if b=g then some x else γ.own b}
section
variable{C:FI}{γ0 γ:Gh}{w0 w:World}{β:Nat->Nat}{σ:BD}{h:Ae}{a:Act}
theorem Gw(γ:Gh)(g:Nat)(x:Jp):γ.le (γ.Fb g x):=⟨λ_ _ _ h=>h,λ_ _ h=>h,λ_ _ h=>h⟩
theorem Gs.Fb(hi:Gs γ h w){g s s' st:Nat}{c c':Option Nat}(hg:γ.own g=some (.tail s c st)):Gs (γ.Fb g (.tail s' c' st)) h w:=by
 refine⟨λb o v hb=>?_,λid y Hj hy=>?_,λid cs hc b hb=>?_,λid es hc b hb=>?_,hi.mu,λb x hx=>?_,λb n hb=>?_⟩;rotate_left 5
 .obtain⟨p,r⟩:=hi.sz b n hb;have:b≠g:=λhe=>by subst he;rw[hg] at r;rcases r with r|⟨_,r⟩<;>cases r
  exact⟨p,by simp only[Gh.Fb,if_neg this];exact r⟩
 .obtain⟨p,q,r⟩:=hi.HA b o v hb;refine⟨p,q,?_⟩;by_cases he:b=g
  .subst he;rw[hg] at r;rcases r with r|⟨_,_,_,r,hl⟩
   .cases r
   .cases r;exact .inr ⟨s',c',st,by simp[Gh.Fb],hl⟩
  .simpa only[Gh.Fb,if_neg he] using r
 .obtain⟨b,p,q⟩:=hi.KW id y Hj hy;have:b≠g:=λhe=>by subst he;rw[hg] at q;cases q
  exact⟨b,p,by simp only[Gh.Fb,if_neg this];exact q⟩
 .obtain⟨us,e,fr,p,pf,q,r⟩:=hi.cells id cs hc b hb;exact⟨us,e,fr,p,pf,A8.mono (Gw γ g _) _ _ q,r⟩
 .obtain⟨us,e,p,q⟩:=hi.map id es hc b hb;exact⟨us,e,p,q.mono (Gw γ g _)⟩
 .by_cases he:b=g;·subst he;exact hi.own b _ hg
  .simp only[Gh.Fb,if_neg he] at hx;exact hi.own b x hx
theorem HU.Fb{B:Nat}{s s2 st:Nat}{c c2:Option Nat}{v:Value}{u:Aa}{x:Jp}{g:Nat}(hg:γ.own g=some (.tail s c st))(ho:HU γ B w s2 c2 v u)(hne:s2≠s\/c2≠c):HU (γ.Fb g x) B w s2 c2 v u:=by
 rcases ho with ho|⟨g2,n,cap,us,e,z,Au,h1,h2,h3,h4⟩
 .exact .inl ho
 .have:g2≠g:=λhe=>by subst he;rw[hg] at h3;cases h3;rcases hne with hne|hne<;>exact hne rfl
  exact .inr ⟨g2,n,cap,us,e,z,Au,h1,h2,by simp only[Gh.Fb,if_neg this];exact h3,h4⟩
theorem FR.Fb{B:Nat}{tmps:Array Value}(hf:FR γ β B σ tmps w){g s st:Nat}{c:Option Nat}{x:Jp}(hg:γ.own g=some (.tail s c st))
  (h1:c=none->∀v,σ.at s≠ .own v) (h2:∀o,c=some o->∀ver cs ow,σ.at s= .box ver cs ow->o∉ow):FR (γ.Fb g x) β B σ tmps w:=by
 refine⟨hf.size,λs2=>?_⟩;have hs:=hf.Hv s2;cases hx:σ.at s2 with
 |undef=>trivial
 |skip=>rw[hx] at hs;exact hs
 |val u=>rw[hx] at hs;exact BF.mono (Gw γ g x) _ _ hs
 |Nq b=>rw[hx] at hs;exact hs
 |own u=>
  rw[hx] at hs;refine⟨BF.mono (Gw γ g x) _ _ hs.1,hs.2.Fb hg ?_⟩;by_cases he:s2=s
  .subst he;cases c with
   |none=>exact absurd hx (h1 rfl u)
   |some o=>exact .inr (by simp)
  .exact .inl he
 |box ver cs ow=>
  rw[hx] at hs;obtain⟨p1,p2,p3,us,e,p4,p5,p6,p7⟩:=hs;have hb:β s2≠g:=λhe=>by rw[he,hg] at p2;cases p2
  refine⟨p1,by simp only[Gh.Fb,if_neg hb];exact p2,p3,us,e,p4,A8.mono (Gw γ g x) _ _ p5,p6,λo ho=>?_⟩;obtain⟨u,v,q1,q2,q3⟩:=p7 o ho;refine⟨u,v,q1,q2,q3.Fb hg ?_⟩;by_cases he:s2=s
  .subst he;cases c with
   |none=>exact .inr (by simp)
   |some o'=>refine .inr λhe=>?_;cases he;exact h2 o rfl ver cs ow hx ho
  .exact .inl he
 |EG s' o=>rw[hx] at hs;exact hs
theorem CS.Fb(hr:CS C γ0 w0 γ β σ h a w){g s st s':Nat}{c c':Option Nat}(hg:γ.own g=some (.tail s c st))(hB:w0.heap.size<=g)
  (h1:c=none->∀v,σ.at s≠ .own v) (h2:∀o,c=some o->∀ver cs ow,σ.at s= .box ver cs ow->o∉ow):CS C γ0 w0 (γ.Fb g (.tail s' c' st)) β σ h a w:=by
 refine⟨hr.DD.Fb hg,hr.fr.Fb hg h1 h2,?_,hr.defers,λx cs hx=>CI.mono (Gw γ g _) _ _ _ (hr.Gj x cs hx)⟩;refine⟨hr.Dw.le.trans (Gw γ g _),hr.Dw.size,hr.Dw.os,hr.Dw.tape,hr.Dw.output,λb hb hn=>?_⟩;·obtain⟨p,q⟩:=hr.Dw.MH b hb hn;exact⟨p,by simp only[Gh.Fb,if_neg (show b≠g by omega)];exact q⟩
theorem BD.ET{s:Nat}{x:D6}(hs:s<σ.length):BD.at (σ.set s x) s=x:=by simp[BD.at,List.getD,hs]
theorem BD.Fp{s t:Nat}{x:D6}(hs:s≠t):BD.at (σ.set s x) t=σ.at t:=by simp[BD.at,List.getD,Aj hs]
theorem BD.NN{s:Nat}(hs:σ.at s≠ .undef):s<σ.length:=by
 rcases AT s σ.length with h|h
 .exact h
 .exact absurd (by simp[BD.at,List.getD,E1 h]) hs
theorem CS.take(hr:CS C γ0 w0 γ β σ h a w){s:Nat}{v:Aa}(hs:σ.at s= .own v)(s':Nat)(c':Option Nat):
  ∃γ',γ.le γ'/\CS C γ0 w0 γ' β (σ.set s (.val v)) h a w/\BF γ' v (a.tmps.getD s undef)/\HU γ' w0.heap.size w s' c' (a.tmps.getD s undef) v:=by
 have h0:=hr.fr.Hv s;rw[hs] at h0;obtain⟨hv,ho⟩:=h0;have Jq:CS C γ0 w0 γ β (σ.set s (.val v)) h a w:=hr.ZQ hv;have hl:s<σ.length:=BD.NN (by rw[hs];simp);rcases ho with ho|⟨g,n,cap,us,e,z,Au,h1,h2,h3,h4,h5⟩
 .exact⟨γ,.refl _,Jq,hv,.inl ho⟩
 .refine⟨γ.Fb g (.tail s' c' (n*z)),Gw _ _ _,Jq.Fb h3 h4 (λ_ u=>?_) (λo ho=>by cases ho),BF.mono (Gw _ _ _) _ _ hv,.inr ⟨g,n,cap,us,e,z,Au,h1,h2,by simp[Gh.Fb],h4,h5⟩⟩;rw[BD.ET hl];simp
theorem X4{B s d:Nat}{sl sl':D6}{v:Value}(hs:Kq γ β B w s sl v)(hc:HG sl=some sl'):Kq γ β B w d sl' v:=by
 cases sl<;>simp[HG] at hc;·subst hc;exact hs
 .subst hc;exact hs
 .subst hc;exact hs.1
 .subst hc;exact hs
theorem MJ{ws:List (Nat×D6)}(h:∀p∈ws,∀cs ow,p.2≠ .box 0 cs ow):(Er.pure ws).news=[]:=by
 simp only[Er.news,List.filterMap_eq_nil_iff];rintro⟨s,x⟩ hp;have:=h _ hp;cases x with
 |box ver cs ow=>
  cases ver with
  |zero=>exact absurd rfl (this cs ow)
  |succ n=>rfl
 |_=>rfl
theorem Qw{v:Value}{sl:D6}(hs:DJ C σ (.const v)=some sl):(∀B d,Kq γ β B w d sl v)/\∀ver cs ow,sl≠ .box ver cs ow:=by
 unfold DJ at hs;split at hs;·rename_i Ji;cases Ji
 .rename_i Ji;cases Ji;cases hs;exact⟨λ_ _=>rfl,λ_ _ _ h=>by cases h⟩
 .rename_i Ji;cases Ji;cases hs;exact⟨λ_ _=>⟨rfl,.inl rfl⟩,λ_ _ _ h=>by cases h⟩
 .rename_i Ji;cases Ji;cases hc:JP v with
  |none=>rw[hc] at hs;cases hs
  |some u=>rw[hc] at hs;cases hs;exact⟨λ_ _=>ES hc,λ_ _ _ h=>by cases h⟩
 .rename_i Ji;cases Ji
 .rename_i Ji;cases Ji
theorem Gl{s:Nat}{sl:D6}(hs:DJ C σ (.tmp s)=some sl):σ.at s=sl:=EC hs
theorem eM{x:Operand}{v:Aa}(hs:DJ C σ x=some (.own v))(hn:∀c,x≠ .const c):∃s,x= .tmp s/\σ.at s= .own v:=by
 cases x with
 |tmp s=>exact⟨s,rfl,Gl hs⟩
 |const c=>exact absurd rfl (hn c)
 |global g=>have TP:(C.Gj g).map (λcs=>D6.val (Aa.CA cs))=some (.own v):=hs;cases hc:C.Gj g<;>rw[hc] at TP<;>cases TP
 |func f=>cases hs
theorem Qx{x:Operand}{d:Nat}{take:Bool}{r:Er}{run:IT->Ae->Option Jn}{σ':BD}{h':Ae}(hm:Ju C σ x d take=some r)(hd:r.L9 C run (σ.drop r.news) h σ' h')
  (hr:CS C γ0 w0 γ β σ h a w):∃γ',CS C γ0 w0 γ' β σ' h' (a.put (some d) (a.eval x)) w:=by
 unfold Ju at hm;split at hm;·rename_i s _ _ _ hs;cases hm;rw[MJ (by simp)] at hd;obtain⟨rfl,rfl⟩:=hd;refine⟨γ,hr.put (d:=some d) λt ht=>?_⟩;have h0:=Qv hr s;rw[Gl hs] at h0;exact h0.1
 .rename_i v sl hs;cases hm;obtain⟨p,q⟩:=Qw (γ:=γ) (β:=β) (w:=w) hs;rw[MJ (by simpa using λcs ow=>q 0 cs ow)] at hd;obtain⟨rfl,rfl⟩:=hd;exact⟨γ,hr.put (d:=some d) λt _=>p _ t⟩
 .rename_i v hnc hs;split at hm;·cases hm;obtain⟨s,rfl,tv⟩:=eM hs (λc hc=>hnc c hc);rw[MJ (by simp[Qp])] at hd;obtain⟨rfl,rfl⟩:=hd;obtain⟨γ',DW,Fy,Du,db⟩:=hr.take tv d none;exact⟨γ',Fy.put (d:=some d) λt ht=>by cases ht;exact⟨Du,db⟩⟩
  .simp only[HG,BR] at hm;cases hm;rw[MJ (by simp)] at hd;obtain⟨rfl,rfl⟩:=hd;obtain⟨s,h1,_⟩:=Fz hr hs;exact⟨γ,hr.put (d:=some d) λt ht=>h1.1⟩
 .rename_i sl _ _ _ hs;cases hc:HG sl with
  |none=>rw[hc] at hm;cases hm
  |some sl'=>
   rw[hc] at hm;cases hm;have tP:∀cs ow,sl'≠ .box 0 cs ow:=by intro cs ow he;subst he;cases sl<;>simp[HG] at hc
   rw[MJ (by simpa using tP)] at hd;obtain⟨rfl,rfl⟩:=hd;obtain⟨s,h1,_⟩:=Fz hr hs;exact⟨γ,hr.put (d:=some d) λt ht=>X4 h1 hc⟩
 .cases hm
end
end Go.Am
end
section
namespace Go.Am
open Go
theorem Ut{s:Sem Value}{v:Value}(h:Ov s=some v):s= .pure v:=by cases s<;>simp[Ov] at h;subst h;rfl
section
variable{P:Program}{γ:Gh}{w:World}
theorem ZR{op:BinOp}{k l:IntKind}{x y:Int}{u:Aa}(t:TypeId)(ox oy:Operand)(h:kE op k x l y=some u):
  ∃v,(do eqGuard op t ox oy (.int k x) (.int l y);binOp op t (.int k x) (.int l y):Sem Value).run P w= .ok v w/\BF γ u v:=by
 unfold kE at h;cases hs:Ov (binOp op 0 (.int k x) (.int l y)) with
 |none=>rw[hs] at h;cases h
 |some v=>
  rw[hs] at h;have e1:=Ut hs;have e2:binOp op t (.int k x) (.int l y)= .pure v:=by rw[<-e1];cases op<;>rfl
  have e3:eqGuard op t ox oy (.int k x) (.int l y)=pure ():=by cases op<;>rfl
  refine⟨v,by rw[e3,e2];rfl,?_⟩;simp only[Cs] at h;split at h<;>cases h<;>rfl
theorem X5(l:List UInt8):(ByteArray.mk ⟨l⟩).toList=l:=ByteArray.toList_mk l
theorem ZS{op:BinOp}{x y:As}{u:Aa}(t:TypeId)(ox oy:Operand)(h:ZL op x y=some u):
  ∃v,(do eqGuard op t ox oy (.string ⟨⟨x⟩⟩) (.string ⟨⟨y⟩⟩);binOp op t (.string ⟨⟨x⟩⟩) (.string ⟨⟨y⟩⟩):Sem Value).run P w= .ok v w/\BF γ u v:=by
 have e3:eqGuard op t ox oy (.string ⟨⟨x⟩⟩) (.string ⟨⟨y⟩⟩)=pure ():=by cases op<;>rfl
 have e2:binOp op t (.string ⟨⟨x⟩⟩) (.string ⟨⟨y⟩⟩)=Op.stringOp op ⟨⟨x⟩⟩ ⟨⟨y⟩⟩:=by cases op<;>rfl
 rw[e3,e2];unfold ZL at h;cases op<;>simp only at h<;>first
  |cases h;done
  |(simp only[Op.stringOp,X5];cases h;exact⟨_,rfl,rfl⟩)
  | (split at h
     . rename_i DW
       cases h
       have hc : ¬ ((((ByteArray.mk ⟨x⟩).size + (ByteArray.mk ⟨y⟩).size : Nat) : Int) > IntKind.i64.max) := by
         have e1 : (ByteArray.mk ⟨x⟩).size = x.length := rfl
         have e2 : (ByteArray.mk ⟨y⟩).size = y.length := rfl
         rw [e1, e2]
         have : IntKind.i64.max = 9223372036854775807 := by decide
         rw [this]
         omega
       simp only [Op.stringOp, if_neg hc]
       refine ⟨_, rfl, ?_⟩
       show Value.string _ = Value.string _
       first
         | (congr 1; done)
         | (congr 1; apply ByteArray.ext; simp)
     . cases h)
theorem eO{t:TypeId}(h:EN P t=some none):(isAgg t).run P w= .ok false w:=by
 unfold EN at h;split at h;·cases hs:BP P t<;>rw[hs] at h<;>cases h
 .cases hs:BP P t<;>rw[hs] at h<;>cases h
 .rename_i d h1 h2 hu;simp only[isAgg,Sem.run_bind,run_underlying hu,Result.andThen_ok];rfl
 .cases h
theorem PJ{t:TypeId}{n:Nat}(h:EN P t=some (some n)):(isAgg t).run P w= .ok true w/\BP P t=some n:=by
 unfold EN at h;split at h
 .rename_i fs hu;cases hs:BP P t with
  |none=>rw[hs] at h;cases h
  |some m=>rw[hs] at h;cases h;exact⟨by simp[isAgg,run_underlying hu],rfl⟩
 .rename_i fs _ hu;cases hs:BP P t with
  |none=>rw[hs] at h;cases h
  |some m=>rw[hs] at h;cases h;exact⟨by simp[isAgg,run_underlying hu],rfl⟩
 .cases h
 .cases h
theorem Dp{t:TypeId}{n:Nat}(h:BP P t=some n):(sizeOf t).run P w= .ok n w:=by
 unfold BP at h;cases hi:P.info? t with
 |none=>rw[hi] at h;cases h
 |some i=>rw[hi] at h;cases h;simp[sizeOf,typeInfo,hi]
theorem ZT{t:TypeId}{sh:Option Nat}{cs:List Aa}{us:Array Value}{off:Nat}{u:Aa}(dT:EN P t=some sh)(hr:A8 γ cs us.toList)(h1:∀v∈us.toList,v.oneCell'=true)
  (hp:EO cs off sh=some u):∃v,(part t us off).run P w= .ok v w/\BF γ u v:=by
 cases sh with
 |none=>
  replace hp:cs[off]?=some u:=hp;obtain⟨v,hv,hrel⟩:=hr.get hp;refine⟨v,?_,hrel⟩;have Du:us[off]?=some v:=by simpa using hv
  simp[part,eO dT,Du]
 |some n=>
  obtain⟨ha,hs⟩:=PJ (w:=w) dT;replace hp:(if off+n<=cs.length then some (Aa.agg ((cs.drop off).take n)) else none)=some u:=hp;split at hp
  .cases hp;refine⟨.agg (us.extract off (off+n)),by simp[part,ha,Dp hs],us.extract off (off+n),rfl,?_,?_⟩;·have:=(hr.drop off).take n;simpa[aCD,MD] using this
   .intro v hv;refine h1 v ?_;rw[aCD,MD] at hv;exact Bw (Bf hv)
  .cases hp
end
end Go.Am
end
section
namespace Go.Am
open Go
theorem uT{x y:Aa}{b:Bool}(h:Km .b x y=some b):∃p q,x= .bool p/\y= .bool q/\(p==q)=b:=by unfold Km at h;split at h<;>first|cases h;done|(rename_i he;cases he;done)|(cases h;exact⟨_,_,rfl,rfl,rfl⟩)
theorem uU{x y:Aa}{b:Bool}(h:Km .i x y=some b):∃k p q,x= .int k p/\y= .int k q/\(p==q)=b:=by
 unfold Km at h;split at h;·rename_i he;cases he
 .split at h;·rename_i hk;subst hk;cases h;exact⟨_,_,_,rfl,rfl,rfl⟩
  .cases h
 .rename_i he;cases he
 .cases h
theorem uV{x y:Aa}{b:Bool}(h:Km .s x y=some b):∃p q,x= .str p/\y= .str q/\(p==q)=b:=by
 unfold Km at h;split at h;·rename_i he;cases he
 .rename_i he;cases he
 .cases h;exact⟨_,_,rfl,rfl,rfl⟩
 .cases h
theorem NO:∀{ks ym:List FK} {xs ys:List Aa} {b:Bool},DC (ks++ym) xs ys=some b->
  ∃b1 b2,DC ks (xs.take ks.length) (ys.take ks.length)=some b1/\DC ym (xs.drop ks.length) (ys.drop ks.length)=some b2/\b=(b1&&b2)
 |[],ym,xs,ys,b,h=>⟨true,b,by simp[DC],by simpa using h,by simp⟩
 |k::ks,ym,[],ys,b,h=>by cases ys<;>simp[DC] at h
 |k::ks,ym,x::xs,[],b,h=>by simp[DC] at h
 |k::ks,ym,x::xs,y::ys,b,h=>by
  simp only[CB,DC] at h;split at h;·rename_i e es h1 h2;cases h;obtain⟨b1,b2,p,q,r⟩:=NO h2;refine⟨e&&b1,b2,?_,by simpa using q,by rw[r,Bool.and_assoc]⟩;simp only[Bc,aIi,DC,h1,p]
  .cases h
theorem NP:∀{ks:List FK} {xs ys:List Aa} {b:Bool},DC ks xs ys=some b->xs.length=ks.length/\ys.length=ks.length
 |[],xs,ys,b,h=>by cases xs<;>cases ys<;>simp[DC] at h⊢
 |k::ks,xs,ys,b,h=>by
  cases xs<;>cases ys<;>simp[DC] at h;split at h;·rename_i h1 h2;obtain⟨p,q⟩:=NP h2;simp[p,q]
  .cases h
section
variable{P:Program}{γ:Gh}{w:World}
theorem WY:∀{d:Nat} {t:TypeId} {ks:List FK},NJ P d t=some ks->BP P t=some ks.length
 |0,t,ks,h=>by cases h
 |d+1,t,ks,h=>by
  simp only[NJ] at h;split at h;·split at h<;>cases h;assumption
  .split at h<;>cases h;assumption
  .split at h<;>cases h;assumption
  .split at h
   .split at h;·rename_i hc;cases h;exact hc.1
    .cases h
   .cases h
  .cases h
theorem eP{ks:List FK}{k:FK}{t:TypeId}(h:(if BP P t=some 1 then some [k] else none)=some ks):ks=[k]:=by split at h<;>cases h;rfl
theorem FV{t:TypeId}{us:Array Value}{off:Nat}{v:Value}{d:TypeDesc}(hu:P.underlying t=some d)(h1:∀fs,d≠ .struct fs)(h2:∀n e,d≠ .array n e)(hv:us[off]?=some v):
  (part t us off).run P w= .ok v w:=by
 have ha:(isAgg t).run P w= .ok false w:=by simp only[isAgg,Sem.run_bind,run_underlying hu,Result.andThen_ok];cases d<;>first|rfl|exact absurd rfl (h1 _)|exact absurd rfl (h2 _ _)
 simp[part,ha,hv]
theorem IM{l:List Aa}{off:Nat}{x:Aa}(h:(l.drop off).take 1=[x]):l[off]?=some x:=by have:=Ce (·[0]?) h;simpa using this
theorem Uu{k:FK}{xs ys:List Aa}{b:Bool}(h:DC [k] xs ys=some b):∃x y,xs=[x]/\ys=[y]/\Km k x y=some b:=by
 cases xs<;>cases ys<;>simp[DC] at h;rename_i x xs y ys;cases xs<;>cases ys<;>simp[DC] at h;all_goals first
  | (split at h
     . rename_i e es h1 h2; cases h2; cases h; exact ⟨x, y, rfl, rfl, by simpa using h1⟩
     . cases h)
  |(split at h<;>simp_all)
mutual
theorem ZU:∀{d D:Nat},d<=D->∀{t:TypeId} {ks:List FK},NJ P d t=some ks->∀(us vs:Array Value) (cs ds:List Aa) (off:Nat) (b:Bool),A8 γ cs us.toList->A8 γ ds vs.toList->
  DC ks ((cs.drop off).take ks.length) ((ds.drop off).take ks.length)=some b->
  ∃x y,(part t us off).run P w= .ok x w/\(part t vs off).run P w= .ok y w/\(Op.equalIn D t x y).run P w= .ok b w
 |0,_,_,_,_,h=>by cases h
 |d+1,0,hd,_,_,_=>by omega
 |d+1,D+1,hd,t,ks,h=>by
  intro us vs cs ds off b hu hv he;have hsz:=WY h;simp only[NJ] at h;split at h;·rename_i WZ;have:=eP h;subst this;obtain⟨x,y,e1,e2,e3⟩:=Uu he;obtain⟨x',p1,p2⟩:=hu.get (IM e1);obtain⟨y',q1,q2⟩:=hv.get (IM e2);refine⟨x',y',FV WZ (by simp) (by simp) (by simpa using p1),FV WZ (by simp) (by simp) (by simpa using q1),?_⟩;obtain⟨x1,y1,rfl,rfl,e4⟩:=uT e3;rw[p2,q2,run_equalIn_bool' w D t _ _ WZ,<-e4]
  .rename_i kk WZ;have:=eP h;subst this;obtain⟨x,y,e1,e2,e3⟩:=Uu he;obtain⟨x',p1,p2⟩:=hu.get (IM e1);obtain⟨y',q1,q2⟩:=hv.get (IM e2);refine⟨x',y',FV WZ (by simp) (by simp) (by simpa using p1),FV WZ (by simp) (by simp) (by simpa using q1),?_⟩;obtain⟨k1,x1,y1,rfl,rfl,e4⟩:=uU e3;rw[p2,q2,run_equalIn_int w D t _ _ _ _ WZ,<-e4]
  .rename_i WZ;have:=eP h;subst this;obtain⟨x,y,e1,e2,e3⟩:=Uu he;obtain⟨x',p1,p2⟩:=hu.get (IM e1);obtain⟨y',q1,q2⟩:=hv.get (IM e2);refine⟨x',y',FV WZ (by simp) (by simp) (by simpa using p1),FV WZ (by simp) (by simp) (by simpa using q1),?_⟩;obtain⟨x1,y1,rfl,rfl,e4⟩:=uV e3;rw[p2,q2,run_equalIn_string w D t _ _ WZ,X5,X5,<-e4]
  .rename_i fs WZ;split at h
   .rename_i ym Gr;split at h
    .rename_i hc;cases h;have dT:EN P t=some (some ks.length):=by simp[EN,WZ,hsz]
     obtain⟨ha,hs⟩:=PJ (w:=w) dT;refine⟨.agg (us.extract off (off+ks.length)),.agg (vs.extract off (off+ks.length)),by simp[part,ha,Dp hs],by simp[part,ha,Dp hs],?_⟩;have aJa:P.underlying t=some (.struct (P.fieldsOf t)):=by simp[Program.fieldsOf,WZ]
     rw[run_equalIn_struct w D t _ _ aJa hc.2];have hf:(P.fieldsOf t).toList=fs.toList:=by simp[Program.fieldsOf,WZ]
     rw[hf];have kO:A8 γ ((cs.drop off).take ks.length) (us.extract off (off+ks.length)).toList:=by have:=(hu.drop off).take ks.length;simpa[aCD,MD] using this
     have Du:A8 γ ((ds.drop off).take ks.length) (vs.extract off (off+ks.length)).toList:=by have:=(hv.drop off).take ks.length;simpa[aCD,MD] using this
     refine W0 (Nat.le_of_succ_le_succ hd) fs.toList Gr _ _ _ _ _ kO Du ?_;simpa using he
    .cases h
   .cases h
  .cases h
theorem W0:∀{d D:Nat},d<=D->∀(fs:List Field) {off:Nat} {ks:List FK},Ui (NJ P d) fs off=some ks->∀(us vs:Array Value) (cs ds:List Aa) (b:Bool),A8 γ cs us.toList->A8 γ ds vs.toList->
  DC ks (cs.drop off) (ds.drop off)=some b->(Op.eqFields D us vs fs).run P w= .ok b w
 |d,D,hd,[],off,ks,h=>by
  intro us vs cs ds b hu hv he;cases h;have:b=true:=by cases h1:cs.drop off<;>cases h2:ds.drop off<;>rw[h1,h2] at he<;>simp[DC] at he;exact he
  subst this;rfl
 |d,D,hd,f::fs,off,ks,h=>by
  intro us vs cs ds b hu hv he;simp only[Ui] at h;split at h
  .rename_i hc;obtain⟨hn,aDr⟩:=hc;split at h
   .rename_i ks1 Uv;cases hr:Ui (NJ P d) fs (off+ks1.length) with
    |none=>rw[hr] at h;cases h
    |some ks2=>
     rw[hr] at h;cases h;obtain⟨b1,b2,e1,e2,rfl⟩:=NO he;obtain⟨x,y,p1,p2,p3⟩:=ZU hd Uv _ _ _ _ _ _ hu hv e1;simp only[Op.eqFields,hn,ne_eq,An,BN,aDr,Sem.run_bind,p1,p2,p3,Result.andThen_ok];cases b1;·rfl
     .simp only[kC,C2,Ea,Bool.true_and];exact W0 hd fs hr _ _ _ _ _ hu hv (by simpa[E7] using e2)
   .cases h
  .cases h
end
theorem ZV{op:BinOp}{t:TypeId}{ox oy:Operand}{neg:Bool}{ks:List FK}{a b:List Aa}{x y:Value}{u:Aa}(MA:(op= .eql/\neg=false)\/(op= .neq/\neg=true))
  (hg:P.eqGuardType P.depth t=false) (hk:NJ P 20 t=some ks) (hst:∃fs,P.underlying t=some (.struct fs)) (hx:BF γ (.agg a) x) (hy:BF γ (.agg b) y) (h:(DC ks a b).map (λe=>Aa.bool (e != neg))=some u):
  ∃v,(do eqGuard op t ox oy x y;binOp op t x y:Sem Value).run P w= .ok v w/\BF γ u v:=by
 obtain⟨us,rfl,hu,_⟩:=hx;obtain⟨vs,rfl,hv,_⟩:=hy;cases he:DC ks a b with
 |none=>rw[he] at h;cases h
 |some e=>
  rw[he] at h;cases h;obtain⟨l1,l2⟩:=NP he;obtain⟨x',y',p1,p2,p3⟩:=ZU (w:=w) (P:=P) (γ:=γ) (D:=10000) (by omega:20<=10000) hk us vs a b 0 e hu hv (by rw[Qh,Qh,Ay (WS l1),Ay (WS l2)];exact he);obtain⟨fs,Gr⟩:=hst;have dT:EN P t=some (some ks.length):=by simp[EN,Gr,WY hk]
  obtain⟨ha,hs⟩:=PJ (w:=w) dT;have e1:us.extract 0 ks.length=us:=by
   have:us.size=ks.length:=by have:=hu.length;simp at this;omega
   rw[<-this];simp
  have e2:vs.extract 0 ks.length=vs:=by
   have:vs.size=ks.length:=by have:=hv.length;simp at this;omega
   rw[<-this];simp
  have q1:x'= .agg us:=by simp[part,ha,Dp hs,e1] at p1;exact p1.symm
  have q2:y'= .agg vs:=by simp[part,ha,Dp hs,e2] at p2;exact p2.symm
  subst q1;subst q2;rcases MA with⟨rfl,rfl⟩|⟨rfl,rfl⟩
  .refine⟨.bool e,by simp[run_eqGuard_agg (P:=P) w .eql t ox oy us vs hg,run_eql_struct,p3],?_⟩;show Value.bool e=Value.bool _;cases e<;>rfl
  .refine⟨.bool (!e),by simp[run_eqGuard_agg (P:=P) w .neq t ox oy us vs hg,run_neq_struct,p3],?_⟩;show Value.bool _=Value.bool _;cases e<;>rfl
end
end Go.Am
end
