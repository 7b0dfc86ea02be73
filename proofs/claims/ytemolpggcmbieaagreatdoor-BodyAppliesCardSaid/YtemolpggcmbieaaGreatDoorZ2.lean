/- Lemmas -/
import Derived.Test.YtemolpggcmbieaaGreatDoorZ1
import Derived.Orders
import Derived.Laws.AppendOwn
import Derived.Laws.StructEq
set_option linter.all false
section
namespace Go.Am
inductive Kc where
 |Me (id:Nat)
 |loc (s:Nat)
 |tail (s:Nat) (c:Option Nat) (start:Nat)
def Kc.jc:Kc->Bool
 | .Me _=>true
 |_=>false
structure Gh where
 HW:Nat->Nat->Option Value
 mu:Nat->Option Nat
 BM:Nat->Option Kc
 sz:Nat->Option Nat
mutual
def BI(γ:Gh):Aa->Value->Prop
 | .bool b,v=>v= .bool b
 | .int k n,v=>v= .int k n
 | .str s,v=>v= .string ⟨⟨s⟩⟩
 | .ptr none,v=>v= .pointer none
 | .ptr (some (id,o)),v=>∃b,γ.mu id=some b/\v= .pointer (some ⟨b,o,none⟩)
 | .BW cs,v=>∃b o,v= .pointer (some ⟨b,o,none⟩)/\CP γ cs b o
 | .sl z Aw,v=>∃d cap,v= .slice (some d) Aw.length cap/\Aw.length<=cap/\(d.spot=none\/cap=0)/\EG γ Aw z d.block d.off
 | .slnil,v=>v= .slice none 0 0
 | .EC _,v=>∃b,v= .slice (some ⟨b,0,none⟩) 0 0
 | .CW id off len z,v=>∃b cap,γ.mu id=some b/\v= .slice (some ⟨b,off,none⟩) len cap/\len<=cap/\(0<z/\cap<=maxLen)/\γ.sz b=some (off+cap*z)
 | .map none,v=>v= .map none
 | .map (some id),v=>∃b,γ.mu id=some b/\v= .map (some b)
 | .func fn f c,v=>∃fs cs,v= .func fn fs cs/\AV γ f fs.toList/\AV γ c cs.toList
 | .nilFunc,v=>v= .nilFunc
 | .iface t a,v=>∃u,v= .iface t u/\BI γ a u
 | .nilIface,v=>v= .nilIface
 | .agg cs,v=>∃us,v= .agg us/\AV γ cs us.toList/\∀u∈us.toList,u.oneCell'=true
 | .tuple vs,v=>∃us,v= .tuple us/\AV γ vs us.toList
def AV(γ:Gh):List Aa->List Value->Prop
 |[],us=>us=[]
 |a::l,us=>∃u Dq,us=u::Dq/\BI γ a u/\AV γ l Dq
def CP(γ:Gh):List Aa->Nat->Nat->Prop
 |[],_,_=>True
 |a::l,b,o=>(∃u,γ.HW b o=some u/\BI γ a u)/\CP γ l b (o+1)
def EG(γ:Gh):List (List Aa)->Nat->Nat->Nat->Prop
 |[],_,_,_=>True
 |r::rs,z,b,o=>r.length=z/\CP γ r b o/\EG γ rs z b (o+z)
end
structure Gh.le(γ γ':Gh):Prop where
 HW:∀b o v,γ.HW b o=some v->γ'.HW b o=some v
 mu:∀id b,γ.mu id=some b->γ'.mu id=some b
 sz:∀b n,γ.sz b=some n->γ'.sz b=some n
def Gh.le.refl(γ:Gh):γ.le γ:=⟨λ_ _ _ h=>h,λ_ _ h=>h,λ_ _ h=>h⟩
def Gh.le.trans{a b c:Gh}(h:a.le b)(k:b.le c):a.le c:=⟨λ_ _ _ x=>k.HW _ _ _ (h.HW _ _ _ x),λ_ _ x=>k.mu _ _ (h.mu _ _ x),λ_ _ x=>k.sz _ _ (h.sz _ _ x)⟩
mutual
def BI.mono{γ γ':Gh}(Ek:γ.le γ'):∀(a:Aa) (v:Value),BI γ a v->BI γ' a v
 | .bool b,v,h=>h
 | .int k n,v,h=>h
 | .str s,v,h=>h
 | .ptr none,v,h=>h
 | .ptr (some (id,o)),v,h=>by obtain⟨b,hb,hv⟩:=h;exact⟨b,Ek.mu _ _ hb,hv⟩
 | .BW cs,v,h=>by obtain⟨b,o,hv,hm⟩:=h;exact⟨b,o,hv,CP.mono Ek cs b o hm⟩
 | .sl z Aw,v,h=>by obtain⟨d,cap,hv,hc,hs,hm⟩:=h;exact⟨d,cap,hv,hc,hs,EG.mono Ek Aw z _ _ hm⟩
 | .slnil,v,h=>h
 | .EC _,v,h=>h
 | .CW id off len z,v,h=>by obtain⟨b,cap,hb,hv,hc,hz,hs⟩:=h;exact⟨b,cap,Ek.mu _ _ hb,hv,hc,hz,Ek.sz _ _ hs⟩
 | .map none,v,h=>h
 | .map (some id),v,h=>by obtain⟨b,hb,hv⟩:=h;exact⟨b,Ek.mu _ _ hb,hv⟩
 | .func fn f c,v,h=>by obtain⟨fs,cs,hv,h1,h2⟩:=h;exact⟨fs,cs,hv,AV.mono Ek f _ h1,AV.mono Ek c _ h2⟩
 | .nilFunc,v,h=>h
 | .iface t a,v,h=>by obtain⟨u,hv,h1⟩:=h;exact⟨u,hv,BI.mono Ek a u h1⟩
 | .nilIface,v,h=>h
 | .agg cs,v,h=>by obtain⟨us,hv,h1,h2⟩:=h;exact⟨us,hv,AV.mono Ek cs _ h1,h2⟩
 | .tuple vs,v,h=>by obtain⟨us,hv,h1⟩:=h;exact⟨us,hv,AV.mono Ek vs _ h1⟩
def AV.mono{γ γ':Gh}(Ek:γ.le γ'):∀(l:List Aa) (us:List Value),AV γ l us->AV γ' l us
 |[],us,h=>h
 |a::l,us,h=>by obtain⟨u,Dq,hu,h1,h2⟩:=h;exact⟨u,Dq,hu,BI.mono Ek a u h1,AV.mono Ek l Dq h2⟩
def CP.mono{γ γ':Gh}(Ek:γ.le γ'):∀(l:List Aa) (b o:Nat),CP γ l b o->CP γ' l b o
 |[],_,_,_=>trivial
 |a::l,b,o,h=>by obtain⟨⟨u,hu,h1⟩,h2⟩:=h;exact⟨⟨u,Ek.HW _ _ _ hu,BI.mono Ek a u h1⟩,CP.mono Ek l b (o+1) h2⟩
def EG.mono{γ γ':Gh}(Ek:γ.le γ'):∀(rs:List (List Aa)) (z b o:Nat),EG γ rs z b o->EG γ' rs z b o
 |[],_,_,_,_=>trivial
 |r::rs,z,b,o,h=>⟨h.1,CP.mono Ek r b o h.2.1,EG.mono Ek rs z b (o+z) h.2.2⟩
end
def AV.length{γ:Gh}:∀{l:List Aa} {us:List Value},AV γ l us->us.length=l.length
 |[],us,h=>by rw[AV] at h;subst h;rfl
 |a::l,us,h=>by rw[AV] at h;obtain⟨u,Dq,rfl,_,h2⟩:=h;simp[h2.length]
def AV.get{γ:Gh}:∀{l:List Aa} {us:List Value},AV γ l us->∀{i:Nat} {a:Aa},l[i]?=some a->∃u,us[i]?=some u/\BI γ a u
 |[],us,h,i,a,hi=>by simp at hi
 |x::l,us,h,i,a,hi=>by
  rw[AV] at h;obtain⟨u,Dq,rfl,h1,h2⟩:=h;cases i with
  |zero=>simp at hi;subst hi;exact⟨u,rfl,h1⟩
  |succ i=>simp at hi;obtain⟨v,hv,hr⟩:=h2.get hi;exact⟨v,by simpa using hv,hr⟩
def AV.GB{γ:Gh}:∀{l:List Aa} {us:List Value},us.length=l.length->(∀(i:Nat) (a:Aa) (u:Value),l[i]?=some a->us[i]?=some u->BI γ a u)->AV γ l us
 |[],us,hl,_=>by rw[AV];exact CN hl
 |x::l,[],hl,_=>by simp at hl
 |x::l,u::us,hl,h=>by rw[AV];exact⟨u,us,rfl,h 0 x u rfl rfl,AV.GB (by simpa using hl) λi a v hi hv=>h (i+1) a v (by simpa using hi) (by simpa using hv)⟩
def AV.append{γ:Gh}:∀{l l':List Aa} {us Dq:List Value},AV γ l us->AV γ l' Dq->AV γ (l++l') (us++Dq)
 |[],l',us,Dq,h,h'=>by rw[AV] at h;subst h;simpa using h'
 |a::l,l',us,Dq,h,h'=>by rw[AV] at h;obtain⟨u,r,rfl,h1,h2⟩:=h;rw[CC,AV];exact⟨u,r++Dq,rfl,h1,h2.append h'⟩
def AV.take{γ:Gh}{l:List Aa}{us:List Value}(h:AV γ l us)(n:Nat):AV γ (l.take n) (us.take n):=by
 refine AV.GB (by simp[h.length]) λi a u hi hu=>?_;rw[Cn] at hi hu;split at hi;.rename_i hlt;rw[Af hlt] at hu;obtain⟨v,hv,hr⟩:=h.get hi;rw[hu] at hv;cases hv;exact hr
 .cases hi
def AV.drop{γ:Gh}{l:List Aa}{us:List Value}(h:AV γ l us)(n:Nat):AV γ (l.drop n) (us.drop n):=by refine AV.GB (by simp[h.length]) λi a u hi hu=>?_;rw[Cr] at hi hu;obtain⟨v,hv,hr⟩:=h.get hi;rw[hu] at hv;cases hv;exact hr
def CP.get{γ:Gh}:∀{l:List Aa} {b o:Nat},CP γ l b o->∀{i:Nat} {a:Aa},l[i]?=some a->∃u,γ.HW b (o+i)=some u/\BI γ a u
 |[],b,o,h,i,a,hi=>by simp at hi
 |x::l,b,o,h,i,a,hi=>by
  rw[CP] at h;obtain⟨⟨u,hu,h1⟩,h2⟩:=h;cases i with
  |zero=>simp at hi;subst hi;exact⟨u,hu,h1⟩
  |succ i=>simp at hi;obtain⟨v,hv,hr⟩:=h2.get hi;exact⟨v,by rw[<-hv];congr 1;omega,hr⟩
def CP.GB{γ:Gh}:∀{l:List Aa} {b o:Nat},(∀(i:Nat) (a:Aa),l[i]?=some a->∃u,γ.HW b (o+i)=some u/\BI γ a u)->CP γ l b o
 |[],b,o,h=>by rw[CP];trivial
 |x::l,b,o,h=>by rw[CP];refine⟨h 0 x rfl,CP.GB λi a hi=>?_⟩;obtain⟨u,hu,hr⟩:=h (i+1) a (by simpa using hi);exact⟨u,by rw[<-hu];congr 1;omega,hr⟩
def CP.drop{γ:Gh}{l:List Aa}{b o:Nat}(h:CP γ l b o)(n:Nat):CP γ (l.drop n) b (o+n):=by refine CP.GB λi a hi=>?_;rw[Cr] at hi;obtain⟨u,hu,hr⟩:=h.get hi;exact⟨u,by rw[<-hu];congr 1;omega,hr⟩
def CP.values{γ:Gh}:∀{l:List Aa} {b o:Nat},CP γ l b o->∃us:List Value,AV γ l us/\∀(j:Nat) (u:Value),us[j]?=some u->γ.HW b (o+j)=some u
 |[],b,o,h=>⟨[],by rw[AV],Ax⟩
 |x::l,b,o,h=>by
  rw[CP] at h;obtain⟨⟨u,hu,h1⟩,h2⟩:=h;obtain⟨us,hr,hi⟩:=h2.values;refine⟨u::us,by rw[AV];exact⟨u,us,rfl,h1,hr⟩,λj v hj=>?_⟩;cases j with
  |zero=>simp at hj;subst hj;exact hu
  |succ j=>simp at hj;rw[<-hi j v hj];congr 1;omega
def EG.get{γ:Gh}:∀{rs:List (List Aa)} {z b o:Nat},EG γ rs z b o->∀{i:Nat} {r:List Aa},rs[i]?=some r->r.length=z/\CP γ r b (o+i*z)
 |[],z,b,o,h,i,r,hi=>by simp at hi
 |x::rs,z,b,o,h,i,r,hi=>by
  rw[EG] at h;cases i with
  |zero=>simp at hi;subst hi;simpa using⟨h.1,h.2.1⟩
  |succ i=>simp at hi;obtain⟨h1,h2⟩:=h.2.2.get hi;exact⟨h1,by rw[show o+(i+1)*z=o+z+i*z by rw[BE,Eh];omega];exact h2⟩
def EG.GB{γ:Gh}:∀{rs:List (List Aa)} {z b o:Nat},(∀(i:Nat) (r:List Aa),rs[i]?=some r->r.length=z/\CP γ r b (o+i*z))->EG γ rs z b o
 |[],z,b,o,h=>by rw[EG];trivial
 |x::rs,z,b,o,h=>by rw[EG];have h0:=h 0 x rfl;refine⟨h0.1,by simpa using h0.2,EG.GB λi r hi=>?_⟩;obtain⟨h1,h2⟩:=h (i+1) r (by simpa using hi);exact⟨h1,by rw[show o+z+i*z=o+(i+1)*z by rw[BE,Eh];omega];exact h2⟩
def EG.length{γ:Gh}:∀{rs:List (List Aa)} {z b o:Nat},EG γ rs z b o->rs.flatten.length=rs.length*z
 |[],z,b,o,h=>Ax
 |x::rs,z,b,o,h=>by rw[EG] at h;simp[h.1,h.2.2.length,BE,OQ]
def ND{b:Addr}{n cap:Nat}(hs:b.spot=none\/cap=0)(hc:n<=cap)(hn:0<n):b=⟨b.block,b.off,none⟩:=by
 rcases hs with hs|hs
 .cases b;simp_all
 .omega
def EG.values{γ:Gh}:∀{rs:List (List Aa)} {z b o:Nat},EG γ rs z b o->∃us:List Value,AV γ rs.flatten us/\us.length=rs.length*z/\∀(j:Nat) (u:Value),us[j]?=some u->γ.HW b (o+j)=some u
 |[],z,b,o,h=>⟨[],by simp[AV],Ax,Ax⟩
 |x::rs,z,b,o,h=>by
  rw[EG] at h;obtain⟨us,h1,h2⟩:=h.2.1.values;obtain⟨vs,e,d,c⟩:=h.2.2.values;have hl:us.length=z:=by rw[h1.length,h.1]
  refine⟨us++vs,by simpa using h1.append e,by simp[hl,d,BE,OQ],λj u hj=>?_⟩;rw[aHS] at hj;split at hj;.exact h2 j u hj
  .rename_i Hh;rw[<-c _ _ hj];congr 1
   omega
def IF(γ:Gh)(B:Nat)(w:World)(s:Nat)(c:Option Nat)(v:Value)(a:Aa):Prop:=
 (a= .slnil\/∃z,a= .EC z)\/∃g n cap us e z Aw,a= .sl z Aw/\v= .slice (some ⟨g,0,none⟩) n cap/\γ.BM g=some (.tail s c (n*z))/\B<=g/\
  w.heap[g]?=some (.cells us e (0,0))/\us.size=cap*z/\n<=cap/\cap<=maxLen/\0<z
def Lg(γ:Gh)(β:Nat->Nat)(B:Nat)(w:World)(s:Nat):D3->Value->Prop
 | .undef,_=>True
 | .skip,v=>v=undef
 | .val a,v=>BI γ a v
 | .OL b,v=>v= .bool b
 | .BM a,v=>BI γ a v/\IF γ B w s none v a
 | .box _ cs ow,v=>v= .pointer (some ⟨β s,0,none⟩)/\γ.BM (β s)=some (.loc s)/\B<=β s/\
  ∃us e,w.heap[β s]?=some (.cells us e (0,0))/\AV γ cs us.toList/\(∀u∈us.toList,u.oneCell'=true)/\
   ∀o∈ow,∃u a,us[o]?=some u/\cs[o]?=some a/\IF γ B w s (some o) u a
 | .EW s' o,v=>v= .pointer (some ⟨β s',o,none⟩)
structure FR(γ:Gh)(β:Nat->Nat)(B:Nat)(U:BJ)(tmps:Array Value)(w:World):Prop where
 size:U.length=tmps.size
 HS:∀s,Lg γ β B w s (U.at s) (tmps.getD s undef)
def Kk(γ:Gh):List (Aa×Aa)->List MapEntry->Prop
 |[],es=>es=[]
 |(k,v)::l,es=>∃e T2,es=e::T2/\BI γ k e.key/\BI γ v e.val/\Kk γ l T2
def jd(γ:Gh)(l:List (Aa×Aa))(es:Array MapEntry)(clock:Nat):Prop:=
 Kk γ l es.toList/\clock=es.size/\∀(i:Nat) (e:MapEntry),es[i]?=some e->e.born=i
def Tc(fr:Nat×Nat)(n:Nat):Prop:=fr=(0,0)\/n<=fr.1
structure Hi(γ:Gh)(h:Ah)(w:World):Prop where
 HW:∀b o v,γ.HW b o=some v->w.cell? ⟨b,o,none⟩=some v/\v.oneCell'=true/\(γ.BM b=none\/∃s c st,γ.BM b=some (.tail s c st)/\o<st)
 Me:∀id x,h[id]?=some x->x≠ .Ds->∃b,γ.mu id=some b/\γ.BM b=some (.Me id)
 cells:∀id cs,h[id]?=some (.cells cs)->∀b,γ.mu id=some b->∃us e fr,w.heap[b]?=some (.cells us e fr)/\Tc fr us.size/\AV γ cs (us.toList.take cs.length)/\∀u∈us.toList.take cs.length,u.oneCell'=true
 map:∀id es,h[id]?=some (.map es)->∀b,γ.mu id=some b->∃C5 clock,w.heap[b]?=some (.map C5 clock)/\jd γ es C5 clock
 mu:∀id b,γ.mu id=some b->id<h.length
 BM:∀b x,γ.BM b=some x->b<w.heap.size
 sz:∀b n,γ.sz b=some n->(∃us e fr,w.heap[b]?=some (.cells us e fr)/\us.size=n)/\(γ.BM b=none\/∃id,γ.BM b=some (.Me id))
structure LB(γ0:Gh)(w0:World)(γ:Gh)(w:World):Prop where
 le:γ0.le γ
 size:w0.heap.size<=w.heap.size
 os:w.os=w0.os
 tape:w.tape=w0.tape
 output:w.output=w0.output
 NF:∀b,b<w0.heap.size->(∀id,γ0.BM b≠some (.Me id))->w.heap[b]?=w0.heap[b]?/\γ.BM b=γ0.BM b
def LB.refl(γ:Gh)(w:World):LB γ w γ w:=⟨.refl _,Ab _,rfl,rfl,rfl,λ_ _ _=>⟨rfl,rfl⟩⟩
def LB.trans{γ0 d c:Gh}{w0 w1 e:World}(h:LB γ0 w0 d w1)(k:LB d w1 c e):LB γ0 w0 c e:=by refine⟨h.le.trans k.le,Bp h.size k.size,k.os.trans h.os,k.tape.trans h.tape,k.output.trans h.output,λb hb hn=>?_⟩;.obtain⟨h1,h2⟩:=h.NF b hb hn;obtain⟨g,f⟩:=k.NF b (IK hb h.size) (λid=>by rw[h2];exact hn id);exact⟨g.trans h1,f.trans h2⟩
structure zD(γ:Gh)(w:World)(γ':Gh)(w':World):Prop where
 le:γ.le γ'
 NF:∀b x,γ.BM b=some x->x.jc=false->γ'.BM b=some x/\w'.heap[b]?=w.heap[b]?
def zD.Ŕ{γ γ':Gh}{h:Ah}{w w':World}(hi:Hi γ h w)(ha:LB γ w γ' w'):zD γ w γ' w':=by refine⟨ha.le,λb x hb hx=>?_⟩;obtain⟨h1,h2⟩:=ha.NF b (hi.BM b x hb) (λid HX=>by rw[hb] at HX;cases HX;simp[Kc.jc] at hx);exact⟨h2.trans hb,h1⟩
def IF.kept{γ γ':Gh}{B:Nat}{w w':World}{s:Nat}{c:Option Nat}{v:Value}{a:Aa}(h:IF γ B w s c v a)(k:zD γ w γ' w'):IF γ' B w' s c v a:=by
 rcases h with h|⟨g,n,cap,us,e,z,Aw,h1,h2,l,j,i,f⟩
 .exact .inl h
 .obtain⟨d,b⟩:=k.NF g _ l rfl;exact .inr ⟨g,n,cap,us,e,z,Aw,h1,h2,d,j,by rw[b];exact i,f⟩
def Lg.kept{γ γ':Gh}{β:Nat->Nat}{B:Nat}{w w':World}{s:Nat}{x:D3}{v:Value}(h:Lg γ β B w s x v)(k:zD γ w γ' w'):Lg γ' β B w' s x v:=by
 cases x with
 |undef=>trivial
 |skip=>exact h
 |val a=>exact BI.mono k.le a v h
 |OL b=>exact h
 |BM a=>exact⟨BI.mono k.le a v h.1,h.2.kept k⟩
 |box ver cs ow=>obtain⟨h1,h2,l,us,e,j,i,g,f⟩:=h;obtain⟨d,c⟩:=k.NF _ _ h2 rfl;exact⟨h1,d,l,us,e,by rw[c];exact j,AV.mono k.le cs _ i,g,λo ho=>let⟨u,a,p,q,r⟩:=f o ho;⟨u,a,p,q,r.kept k⟩⟩
 |EW s' o=>exact h
def FR.kept{γ γ':Gh}{β:Nat->Nat}{B:Nat}{U:BJ}{tmps:Array Value}{w w':World}(h:FR γ β B U tmps w)(k:zD γ w γ' w'):FR γ' β B U tmps w':=
 ⟨h.size,λs=>(h.HS s).kept k⟩
end Go.Am
end
section
namespace Go.Am
def CI{w w':World}{b o:Nat}(h:w'.heap[b]?=w.heap[b]?):w'.cell? ⟨b,o,none⟩=w.cell? ⟨b,o,none⟩:=by simp[World.cell?,h]
def Du{w:World}{b o:Nat}{v:Value}(h:w.cell? ⟨b,o,none⟩=some v):b<w.heap.size:=by
 rcases Bk b w.heap.size with h'|h'
 .exact h'
 .simp[World.cell?,Array.getElem?_eq_none h'] at h
def Hi.ŕ{γ:Gh}{h:Ah}{w:World}(hi:Hi γ h w){b o:Nat}{v:Value}(hb:γ.HW b o=some v):b<w.heap.size:=Du (hi.HW b o v hb).1
def Hi.same{γ:Gh}{h:Ah}{w w':World}(hi:Hi γ h w)(c:w'.heap=w.heap):Hi γ h w':=by
 refine⟨λb o v hb=>?_,hi.Me,λid cs hc b hb=>?_,λid es hc b hb=>?_,hi.mu,λb x hx=>?_,λb n hb=>by rw[c];exact hi.sz b n hb⟩;.obtain⟨h1,h2,d⟩:=hi.HW b o v hb;have e:=CI (w:=w) (w':=w') (b:=b) (o:=o) (by rw[c]);exact⟨e.trans h1,h2,d⟩
 .rw[c];exact hi.cells id cs hc b hb
 .rw[c];exact hi.map id es hc b hb
 .rw[c];exact hi.BM b x hx
def LB.same{γ:Gh}{w w':World}(b:w'.heap=w.heap)(h1:w'.os=w.os)(h2:w'.tape=w.tape)(c:w'.output=w.output):LB γ w γ w':=
 ⟨.refl _,by rw[b];exact Ab _,h1,h2,c,λ_ _ _=>⟨by rw[b],rfl⟩⟩
def LB.drew(γ:Gh)(w:World):LB γ w γ w.drew:=LB.same rfl rfl rfl rfl
def Gh.C6(γ:Gh)(b:Nat)(us:Array Value)(k:Nat)(x:Option Kc):Gh:=
 {HW:=λb' o=>if b'=b then(if o<k then us[o]? else none) else γ.HW b' o,mu:=γ.mu,BM:=λb'=>if b'=b then x else γ.BM b',sz:=γ.sz}
def Gh.B0(γ:Gh)(b id:Nat)(n:Option Nat):Gh:=
 {HW:=γ.HW,mu:=λi=>if i=id then some b else γ.mu i,BM:=λb'=>if b'=b then some (.Me id) else γ.BM b',sz:=λb'=>if b'=b then n else γ.sz b'}
section
variable{γ:Gh}{h:Ah}{w:World}
def E0(w:World)(o:Obj){b:Nat}(hb:b<w.heap.size):(w.alloc o).heap[b]?=w.heap[b]?:=heap_alloc_old w o b hb
def OX(hi:Hi γ h w)(us:Array Value)(e:TypeId)(fr:Nat×Nat)(k:Nat)(x:Option Kc)(h1:∀o u,o<k->us[o]?=some u->u.oneCell'=true)
  (hx:x=none\/(∃s c,x=some (.tail s c k))\/(k=0/\∀id,x≠some (.Me id))):
  Hi (γ.C6 w.heap.size us k x) h (w.alloc (.cells us e fr))/\LB γ w (γ.C6 w.heap.size us k x) (w.alloc (.cells us e fr)):=by
 have Fp:γ.BM w.heap.size=none:=by
  cases hc:γ.BM w.heap.size with
  |none=>rfl
  |some y=>exact absurd (hi.BM _ y hc) (Dd _)
 have je:∀o,γ.HW w.heap.size o=none:=λo=>by
  cases hc:γ.HW w.heap.size o with
  |none=>rfl
  |some y=>exact absurd (hi.ŕ hc) (Dd _)
 have Ek:γ.le (γ.C6 w.heap.size us k x):=⟨λb' o' v' Gc=>by
  have:b'≠w.heap.size:=λhe=>by rw[he,je] at Gc;cases Gc
  simp only[Gh.C6,Ag this];exact Gc,λ_ _ hm=>hm,λ_ _ hm=>hm⟩
 constructor
 .refine⟨λb o v hb=>?_,λid y HX hy=>?_,λid cs hc b hb=>?_,λid es hc b hb=>?_,hi.mu,λb y hy=>?_,λb n hb=>?_⟩;rotate_left 5;.obtain⟨⟨Dq,d,zE,p,q⟩,r⟩:=hi.sz b n hb;have NG:b≠w.heap.size:=OR (by rw[AN] at p;exact p.1);exact⟨⟨Dq,d,zE,by rw[E0 _ _ (by rw[AN] at p;exact p.1)];exact p,q⟩,by simp only[Gh.C6,Ag NG];exact r⟩
  .by_cases NG:b=w.heap.size
   .subst NG;simp only[Gh.C6,BD] at hb⊢;split at hb
    .rename_i hlt;refine⟨by rw[cell_of_row _ _ _ us e fr (heap_alloc_new w _)];exact hb,h1 o v hlt hb,?_⟩;rcases hx with hx|⟨s,c,hx⟩|⟨hx,_⟩
     .exact .inl hx
     .exact .inr ⟨s,c,k,hx,hlt⟩
     .omega
    .cases hb
   .simp only[Gh.C6,Ag NG] at hb⊢;obtain⟨p,q,r⟩:=hi.HW b o v hb;exact⟨by rw[CI (E0 w _ (Du p))];exact p,q,r⟩
  .obtain⟨b,p,q⟩:=hi.Me id y HX hy;refine⟨b,p,?_⟩;have:b≠w.heap.size:=λhe=>by rw[he,Fp] at q;cases q
   simp only[Gh.C6,Ag this];exact q
  .obtain⟨Dq,d,zE,p,pf,q,r⟩:=hi.cells id cs hc b hb;exact⟨Dq,d,zE,by rw[E0 _ _ (by rw[AN] at p;exact p.1)];exact p,pf,AV.mono Ek cs _ q,r⟩
  .obtain⟨C5,clock,p,q⟩:=hi.map id es hc b hb;refine⟨C5,clock,by rw[E0 _ _ (by rw[AN] at p;exact p.1)];exact p,?_,q.2⟩;replace q:=q.1;clear hc p;revert q;generalize C5.toList=l;intro q;induction es generalizing l with
   |nil=>exact q
   |cons kv es ih=>obtain⟨kk,f⟩:=kv;obtain⟨en,T2,hl,a1,a2,a3⟩:=q;exact⟨en,T2,hl,BI.mono Ek _ _ a1,BI.mono Ek _ _ a2,ih T2 a3⟩
  .by_cases NG:b=w.heap.size;.subst NG;simp
   .simp only[Gh.C6,Ag NG] at hy;have:=hi.BM b y hy;simp;omega
 .refine⟨Ek,Ax,rfl,rfl,rfl,λb hb _=>⟨E0 _ _ hb,?_⟩⟩;simp only[Gh.C6,Ag (OR hb)]
def Kk.mono{γ γ':Gh}(Ek:γ.le γ'):∀{es:List (Aa×Aa)} {l:List MapEntry},Kk γ es l->Kk γ' es l
 |[],l,q=>q
 |(kk,b)::es,l,q=>by obtain⟨en,T2,hl,a1,a2,a3⟩:=q;exact⟨en,T2,hl,BI.mono Ek _ _ a1,BI.mono Ek _ _ a2,a3.mono Ek⟩
def jd.mono{γ γ':Gh}(Ek:γ.le γ'){es:List (Aa×Aa)}{l:Array MapEntry}{c:Nat}(h:jd γ es l c):jd γ' es l c:=⟨h.1.mono Ek,h.2⟩
def NH(hi:Hi γ h w)(o:Obj)(x:Ej)(m:Option Nat)
  (hx:(∃cs us e fr,x= .cells cs/\o= .cells us e fr/\Tc fr us.size/\AV γ cs (us.toList.take cs.length)/\(∀u∈us.toList.take cs.length,u.oneCell'=true)/\m=some us.size)\/(x= .map []/\o= .map #[] 0/\m=none)):
  Hi (γ.B0 w.heap.size h.length m) (h++[x]) (w.alloc o)/\LB γ w (γ.B0 w.heap.size h.length m) (w.alloc o):=by
 have Fp:γ.BM w.heap.size=none:=by
  cases hc:γ.BM w.heap.size with
  |none=>rfl
  |some y=>exact absurd (hi.BM _ y hc) (Dd _)
 have c:γ.mu h.length=none:=by
  cases hc:γ.mu h.length with
  |none=>rfl
  |some y=>exact absurd (hi.mu _ y hc) (Dd _)
 have K8:γ.sz w.heap.size=none:=by
  cases hc:γ.sz w.heap.size with
  |none=>rfl
  |some y=>obtain⟨⟨_,_,_,p,_⟩,_⟩:=hi.sz _ y hc;rw[AN] at p;exact absurd p.1 (Dd _)
 have Ek:γ.le (γ.B0 w.heap.size h.length m):=⟨λ_ _ _ hv=>hv,λid b hm=>by
  have:id≠h.length:=λhe=>by rw[he,c] at hm;cases hm
  simp only[Gh.B0,Ag this];exact hm,λb n hm=>by
  have:b≠w.heap.size:=λhe=>by rw[he,K8] at hm;cases hm
  simp only[Gh.B0,Ag this];exact hm⟩
 constructor
 .refine⟨λb o' v hb=>?_,λid y HX hy=>?_,λid cs hc b hb=>?_,λid es hc b hb=>?_,λid b hb=>?_,λb y hy=>?_,λb n hb=>?_⟩;rotate_left 6
  .by_cases NG:b=w.heap.size
   .subst NG;simp only[Gh.B0,BD] at hb;rcases hx with⟨Gx,us,e,fr,rfl,rfl,pf,p,q,rfl⟩|⟨rfl,rfl,rfl⟩
    .cases hb;exact⟨⟨us,e,fr,heap_alloc_new w _,rfl⟩,.inr ⟨h.length,by simp[Gh.B0]⟩⟩
    .cases hb
   .simp only[Gh.B0,Ag NG] at hb⊢;obtain⟨⟨Dq,d,zE,p,q⟩,r⟩:=hi.sz b n hb;exact⟨⟨Dq,d,zE,by rw[E0 _ _ (by rw[AN] at p;exact p.1)];exact p,q⟩,r⟩
  .obtain⟨p,q,r⟩:=hi.HW b o' v hb;have NG:b≠w.heap.size:=OR (Du p);exact⟨by rw[World.cell?_alloc_old _ _ _ NG];exact p,q,by simp only[Gh.B0,Ag NG];exact r⟩
  .by_cases he:id=h.length;.exact⟨w.heap.size,by simp[Gh.B0,he],by simp[Gh.B0,he]⟩
   .have VT:id<h.length:=by rw[Aj] at HX;obtain⟨hl,_⟩:=HX;simp at hl;omega
    rw[An VT] at HX;obtain⟨b,p,q⟩:=hi.Me id y HX hy;have NG:b≠w.heap.size:=λhe=>by rw[he,Fp] at q;cases q
    exact⟨b,by simp only[Gh.B0,Ag he];exact p,by simp only[Gh.B0,Ag NG];exact q⟩
  .by_cases he:id=h.length
   .subst he;simp[Gh.B0] at hb;subst hb;simp at hc;rcases hx with⟨Gx,us,e,fr,rfl,rfl,pf,p,q,rfl⟩|⟨rfl,rfl,rfl⟩
    .cases hc;exact⟨us,e,fr,heap_alloc_new w _,pf,AV.mono Ek _ _ p,q⟩
    .cases hc
   .simp only[Gh.B0,Ag he] at hb;have VT:=hi.mu id b hb;rw[An VT] at hc;obtain⟨Dq,d,zE,p,pf,q,r⟩:=hi.cells id cs hc b hb;exact⟨Dq,d,zE,by rw[E0 _ _ (by rw[AN] at p;exact p.1)];exact p,pf,AV.mono Ek _ _ q,r⟩
  .by_cases he:id=h.length
   .subst he;simp[Gh.B0] at hb;subst hb;simp at hc;rcases hx with⟨Gx,us,e,fr,rfl,rfl,pf,p,q,rfl⟩|⟨rfl,rfl,rfl⟩
    .cases hc
    .cases hc;exact⟨#[],0,heap_alloc_new w _,rfl,rfl,Ax⟩
   .simp only[Gh.B0,Ag he] at hb;have VT:=hi.mu id b hb;rw[An VT] at hc;obtain⟨C5,clock,p,q⟩:=hi.map id es hc b hb;exact⟨C5,clock,by rw[E0 _ _ (by rw[AN] at p;exact p.1)];exact p,q.mono Ek⟩
  .by_cases he:id=h.length;.simp[he]
   .simp only[Gh.B0,Ag he] at hb;have:=hi.mu id b hb;simp;omega
  .by_cases NG:b=w.heap.size;.subst NG;simp
   .simp only[Gh.B0,Ag NG] at hy;have:=hi.BM b y hy;simp;omega
 .refine⟨Ek,Ax,rfl,rfl,rfl,λb hb _=>⟨E0 _ _ hb,?_⟩⟩;simp only[Gh.B0,Ag (OR hb)]
def zF(hi:Hi γ h w){g s:Nat}(hg:γ.BM g=some (.loc s))(us:Array Value):Hi γ h (w.setRow g us):=by
 refine⟨λb o v hb=>?_,hi.Me,λid cs hc b hb=>?_,λid es hc b hb=>?_,hi.mu,λb x hx=>?_,λb n hb=>?_⟩;rotate_left 4
 .obtain⟨p,r⟩:=hi.sz b n hb;have:b≠g:=λhe=>by subst he;rw[hg] at r;rcases r with r|⟨_,r⟩<;>cases r
  exact⟨by rw[setRow_other w g b us this];exact p,r⟩
 .obtain⟨p,q,r⟩:=hi.HW b o v hb;have:b≠g:=λhe=>by subst he;rw[hg] at r;rcases r with r|⟨_,_,_,r,_⟩<;>cases r
  exact⟨by rw[CI (setRow_other w g b us this)];exact p,q,r⟩
 .have PV:b≠g:=λhe=>by subst he;obtain⟨b',p,q⟩:=hi.Me id _ hc Ax;rw[hb] at p;cases p;rw[hg] at q;cases q
  rw[setRow_other w g b us PV];exact hi.cells id cs hc b hb
 .have PV:b≠g:=λhe=>by subst he;obtain⟨b',p,q⟩:=hi.Me id _ hc Ax;rw[hb] at p;cases p;rw[hg] at q;cases q
  rw[setRow_other w g b us PV];exact hi.map id es hc b hb
 .have:=hi.BM b x hx;simpa[World.setRow] using this
def M1(hi:Hi γ h w){g id:Nat}{cs:List Aa}(hcs:h[id]?=some (.cells cs))(hg:γ.mu id=some g){us:Array Value}{e:TypeId}{fr:Nat×Nat}(hw:w.heap[g]?=some (.cells us e fr))(Dq:Array Value)(Gx:List Aa)(YU:Dq.size=us.size)(rF:Tc fr Dq.size)
  (hr:AV γ Gx (Dq.toList.take Gx.length)) (h1:∀u∈Dq.toList.take Gx.length,u.oneCell'=true):
  Hi γ (h.set id (.cells Gx)) (w.setRow g Dq)/\LB γ w γ (w.setRow g Dq):=by
 obtain⟨d,p,SY⟩:=hi.Me id _ hcs Ax;rw[hg] at p;cases p;have uniq:∀Fv x,h[Fv]?=some x->x≠ .Ds->γ.mu Fv=some g->Fv=id:=λFv x hx Ŗ hm=>by obtain⟨b',p,q⟩:=hi.Me Fv x hx Ŗ;rw[hm] at p;cases p;rw[SY] at q;cases q;rfl
 constructor
 .refine⟨λb o v hb=>?_,λFv y HX hy=>?_,λFv cs hc b hb=>?_,λFv es hc b hb=>?_,λFv b hb=>by simpa using hi.mu Fv b hb,λb x hx=>?_,λb n hb=>?_⟩;rotate_left 5
  .obtain⟨⟨lF,c,jf,p,q⟩,r⟩:=hi.sz b n hb;by_cases he:b=g;.subst he;rw[hw] at p;cases p;exact⟨⟨Dq,e,fr,setRow_heap w b us Dq e fr hw,by rw[YU];exact q⟩,r⟩
   .exact⟨⟨lF,c,jf,by rw[setRow_other w g b Dq he];exact p,q⟩,r⟩
  .obtain⟨p,q,r⟩:=hi.HW b o v hb;have:b≠g:=λhe=>by subst he;rw[SY] at r;rcases r with r|⟨_,_,_,r,_⟩<;>cases r
   exact⟨by rw[CI (setRow_other w g b Dq this)];exact p,q,r⟩
  .by_cases he:Fv=id;.subst he;exact⟨g,hg,SY⟩
   .rw[Ao (λx=>he x.symm)] at HX;exact hi.Me Fv y HX hy
  .by_cases he:Fv=id;.subst he;rw[hg] at hb;cases hb;rw[AA (hi.mu _ _ hg)] at hc;cases hc;exact⟨Dq,e,fr,setRow_heap w g us Dq e fr hw,rF,hr,h1⟩
   .rw[Ao (λx=>he x.symm)] at hc;have PV:b≠g:=λhx=>by subst hx;exact he (uniq Fv _ hc Ax hb)
    rw[setRow_other w g b Dq PV];exact hi.cells Fv cs hc b hb
  .by_cases he:Fv=id;.subst he;rw[AA (hi.mu _ _ hg)] at hc;cases hc
   .rw[Ao (λx=>he x.symm)] at hc;have PV:b≠g:=λhx=>by subst hx;exact he (uniq Fv _ hc Ax hb)
    rw[setRow_other w g b Dq PV];exact hi.map Fv es hc b hb
  .have:=hi.BM b x hx;simpa[World.setRow] using this
 .refine⟨.refl _,by simp[World.setRow],rfl,rfl,rfl,λb hb hn=>⟨?_,rfl⟩⟩;exact setRow_other w g b Dq (λhe=>by subst he;exact hn id SY)
def lV(hi:Hi γ h w){g s st:Nat}{c:Option Nat}(hg:γ.BM g=some (.tail s c st)){us:Array Value}{e:TypeId}(hw:w.heap[g]?=some (.cells us e (0,0)))(Dq:Array Value)(k:Nat)(s':Nat)(c':Option Nat)
  (M2:∀o,o<st->Dq[o]?=us[o]?) (hk:st<=k) (h1:∀o u,o<k->Dq[o]?=some u->u.oneCell'=true) (Z8:∀o v,γ.HW g o=some v->us[o]?=some v):
  Hi (γ.C6 g Dq k (some (.tail s' c' k))) h (w.setRow g Dq)/\γ.le (γ.C6 g Dq k (some (.tail s' c' k))):=by
 have hlt:∀o v,γ.HW g o=some v->o<st:=λo v ho=>by
  obtain⟨_,_,r⟩:=hi.HW g o v ho;rw[hg] at r;rcases r with r|⟨_,_,_,r,hl⟩
  .cases r
  .cases r;exact hl
 have Ek:γ.le (γ.C6 g Dq k (some (.tail s' c' k))):=⟨λb o v hb=>by
  by_cases he:b=g;.subst he;have:=hlt o v hb;simp only[Gh.C6,BD,Af (IK this hk)];rw[M2 o this];exact Z8 o v hb
  .simp only[Gh.C6,Ag he];exact hb,λ_ _ hm=>hm,λ_ _ hm=>hm⟩
 refine⟨⟨λb o v hb=>?_,λid y HX hy=>?_,λid cs hc b hb=>?_,λid es hc b hb=>?_,hi.mu,λb x hx=>?_,λb n hb=>?_⟩,Ek⟩;rotate_left 5
 .obtain⟨p,r⟩:=hi.sz b n hb;have:b≠g:=λhe=>by subst he;rw[hg] at r;rcases r with r|⟨_,r⟩<;>cases r
  exact⟨by rw[setRow_other w g b Dq this];exact p,by simp only[Gh.C6,Ag this];exact r⟩
 .by_cases he:b=g
  .subst he;simp only[Gh.C6,BD] at hb⊢;split at hb
   .rename_i hl;exact⟨by rw[cell_of_row _ _ _ Dq e (0,0) (setRow_heap w b us Dq e (0,0) hw)];exact hb,
     h1 o v hl hb,.inr ⟨s',c',k,rfl,hl⟩⟩
   .cases hb
  .simp only[Gh.C6,Ag he] at hb⊢;obtain⟨p,q,r⟩:=hi.HW b o v hb;exact⟨by rw[CI (setRow_other w g b Dq he)];exact p,q,r⟩
 .obtain⟨b,p,q⟩:=hi.Me id y HX hy;have:b≠g:=λhe=>by subst he;rw[hg] at q;cases q
  exact⟨b,p,by simp only[Gh.C6,Ag this];exact q⟩
 .replace hb:γ.mu id=some b:=hb;obtain⟨b',p,q⟩:=hi.Me id _ hc Ax;rw[hb] at p;cases p;have:b≠g:=λhe=>by subst he;rw[hg] at q;cases q
  rw[setRow_other w g b Dq this];obtain⟨lF,i,jf,p2,f,d,r2⟩:=hi.cells id cs hc b hb;exact⟨lF,i,jf,p2,f,AV.mono Ek _ _ d,r2⟩
 .replace hb:γ.mu id=some b:=hb;obtain⟨b',p,q⟩:=hi.Me id _ hc Ax;rw[hb] at p;cases p;have:b≠g:=λhe=>by subst he;rw[hg] at q;cases q
  rw[setRow_other w g b Dq this];obtain⟨C5,clock,p2,d⟩:=hi.map id es hc b hb;exact⟨C5,clock,p2,d.mono Ek⟩
 .by_cases he:b=g;.subst he;have:=hi.BM b _ hg;simpa[World.setRow] using this
  .simp only[Gh.C6,Ag he] at hx;have:=hi.BM b x hx;simpa[World.setRow] using this
def LB.write{γ0 c:Gh}{w0:World}(ha:LB γ0 w0 γ w){w1:World}{g:Nat}(hg:w0.heap.size<=g)(Ek:γ.le c)(hs:w1.heap.size=w.heap.size)(h1:w1.os=w.os)(h2:w1.tape=w.tape)(e:w1.output=w.output)
  (hk:∀b,b≠g->w1.heap[b]?=w.heap[b]?/\c.BM b=γ.BM b):LB γ0 w0 c w1:=by
 refine⟨ha.le.trans Ek,by rw[hs];exact ha.size,h1.trans ha.os,h2.trans ha.tape,e.trans ha.output,λb hb hn=>?_⟩;.obtain⟨p,q⟩:=ha.NF b hb hn;obtain⟨p',d⟩:=hk b Ac;exact⟨p'.trans p,d.trans q⟩
def jg(hi:Hi γ h w){g id:Nat}{cs:List Aa}(hcs:h[id]?=some (.cells cs))(hg:γ.mu id=some g){us:Array Value}{e:TypeId}{fr:Nat×Nat}(hw:w.heap[g]?=some (.cells us e fr))(h1:∀u∈us.toList.take cs.length,u.oneCell'=true):
  Hi (γ.C6 g us cs.length none) (h.set id .Ds) w/\LB γ w (γ.C6 g us cs.length none) w:=by
 obtain⟨d,p,SY⟩:=hi.Me id _ hcs Ax;rw[hg] at p;cases p;have uniq:∀Fv x,h[Fv]?=some x->x≠ .Ds->γ.mu Fv=some g->Fv=id:=λFv x hx Ŗ hm=>by obtain⟨b',p,q⟩:=hi.Me Fv x hx Ŗ;rw[hm] at p;cases p;rw[SY] at q;cases q;rfl
 have hne:∀o v,γ.HW g o=some v->False:=λo v hv=>by obtain⟨_,_,r⟩:=hi.HW g o v hv;rw[SY] at r;rcases r with r|⟨_,_,_,r,_⟩<;>cases r
 have Ek:γ.le (γ.C6 g us cs.length none):=⟨λb o v hb=>by
  have:b≠g:=λhe=>by subst he;exact hne o v hb
  simp only[Gh.C6,Ag this];exact hb,λ_ _ hm=>hm,λ_ _ hm=>hm⟩
 constructor
 .refine⟨λb o v hb=>?_,λFv y HX hy=>?_,λFv Gx hc b hb=>?_,λFv es hc b hb=>?_,λFv b hb=>by simpa using hi.mu Fv b hb,λb x hx=>?_,λb n hb=>?_⟩;rotate_left 5
  .obtain⟨p,r⟩:=hi.sz b n hb;by_cases he:b=g;.subst he;exact⟨p,.inl (by simp[Gh.C6])⟩
   .exact⟨p,by simp only[Gh.C6,Ag he];exact r⟩
  .by_cases he:b=g
   .subst he;simp only[Gh.C6,BD] at hb⊢;split at hb;.rename_i hlt;exact⟨by rw[cell_of_row _ _ _ us e fr hw];exact hb,h1 v (Cv (i:=o) (by rw[CL hlt];simpa using hb)),.inl Ax⟩
    .cases hb
   .simp only[Gh.C6,Ag he] at hb⊢;exact hi.HW b o v hb
  .by_cases he:Fv=id;.subst he;rw[AA (hi.mu _ _ hg)] at HX;cases HX;exact absurd rfl hy
   .rw[Ao (λx=>he x.symm)] at HX;obtain⟨b,p,q⟩:=hi.Me Fv y HX hy;have:b≠g:=λhx=>by subst hx;exact he (uniq Fv y HX hy p)
    exact⟨b,p,by simp only[Gh.C6,Ag this];exact q⟩
  .by_cases he:Fv=id;.subst he;rw[AA (hi.mu _ _ hg)] at hc;cases hc
   .rw[Ao (λx=>he x.symm)] at hc;obtain⟨Dq,c,zE,p,pf,q,r⟩:=hi.cells Fv Gx hc b hb;exact⟨Dq,c,zE,p,pf,AV.mono Ek _ _ q,r⟩
  .by_cases he:Fv=id;.subst he;rw[AA (hi.mu _ _ hg)] at hc;cases hc
   .rw[Ao (λx=>he x.symm)] at hc;obtain⟨Dq,c,p,q⟩:=hi.map Fv es hc b hb;exact⟨Dq,c,p,q.mono Ek⟩
  .by_cases he:b=g;.subst he;exact hi.BM b _ SY
   .simp only[Gh.C6,Ag he] at hx;exact hi.BM b x hx
 .refine⟨Ek,Ab _,rfl,rfl,rfl,λb hb hn=>⟨rfl,?_⟩⟩;have:b≠g:=λhe=>by subst he;exact hn id SY
  simp only[Gh.C6,Ag this]
end
end Go.Am
end
section
namespace Go.Am
def Em.M3(C:FB)(run:IT->Ah->Option Jy)(U:BJ)(h:Ah)(e:BJ)(h':Ah):Em->Prop
 | .pure ws=>e=U.DX ws/\h'=h
 | .op p args dst BM i=>∃v,Ay p args=some v/\e=(U.Dt i).put dst (if BM then .BM v else .val v)/\h'=h
 | .box n v d=>v.cells.length=n/\e=U.set d (.box 0 v.cells [])/\h'=h
 | .closure fn a b fz d=>e=(U.DX (fz.map λ(s,cs)=>(s,.val (.BW cs)))).set d (.val (.func fn a b))/\h'=h
 | .MH s off n v BM i ver cells owned=>v.cells.length=n/\e=(U.Dt i).set s (.box (ver+1) (VN cells off n v.cells) (RC owned off n BM))/\h'=h
 | .load n p dst=>∃v,Bi h n p=some v/\e=U.put dst (.val v)/\h'=h
 | .store n p v=>CH h n p v=some h'/\e=U
 | .alloc n v dst=>v.cells.length=n/\h'=h++[.cells v.cells]/\e=U.put dst (.val (.ptr (some (h.length,0))))
 | .call f args dst=>∃r,run (B7 C f args) h=some (.ret,[r],h')/\e=U.put dst (if C.I9 f then .BM r else .val r)
 | .D4 g args dst=>∃f args' r,Cz g args=some (f,args')/\run (B7 C f args') h=some (.ret,[r],h')/\e=U.put dst (.val r)
 | .BG f args dst=>args.all Aa.Mf=true/\∃r h1,run (B7 C f args) []=some (.ret,[r],h1)/\r.Mf=true/\e=U.put dst (.val r)/\h'=h
 | .MY dst=>h'=h++[.map []]/\e=U.put dst (.val (.map (some h.length)))
 | .Hu m k v=>Qs h m k v=some h'/\e=U
 | .make z b zero l c dst=>∃v,Rz h z b zero l c=some (h',v)/\e=U.put dst (.val v)
 | .Jk z b s x dst i=>∃v,Kg h z b s x=some (h',v)/\e=(U.Dt i).put dst (.val v)
 | .FQ z b s x dst=>∃v,FT h z b s x=some (h',v)/\e=U.put dst (.val v)
 | .F8 z b s x dst i=>∃v,Qt h z b s x=some v/\e=(U.Dt i).put dst (.BM v)/\h'=h
 | .EO s dst=>∃v,Ip h s=some (h',v)/\e=U.put dst (.val v)
 | .Yc s dst=>∃v u,KO h s=some (h',v)/\Ay .Yc [v]=some u/\e=U.put dst (.val u)
 | .mem o args dst=>∃v,DC o h args=some (h',v)/\e=U.put dst (if o.aEl then .undef else .val v)
 | .LL z ok m k dst=>∃v,Oo h z ok m k=some v/\e=U.put dst (.val v)/\h'=h
def Td{n:Nat}{cs:List Aa}(h:cs.length=n):VM n cs=cs:=by
 subst h;apply L7;intro i;simp only[VM,Cg,List.getD];by_cases hi:i<cs.length;.simp[List.getElem?_range hi,Au hi]
 .simp[hi]
def YV{C:FB}{run:IT->Ah->Option Jy}{U:BJ}{K:BJ->IT}{h:Ah}{R:Jy}{r:Em}
  (hr:IT.step (B7 C) run (r.LN C U K) h=some R):∃i h',r.M3 C run U h i h'/\IT.step (B7 C) run (K i) h'=some R:=by
 cases r with
 |pure ws=>exact⟨_,_,⟨rfl,rfl⟩,hr⟩
 |op p args dst BM e=>
  simp only[Em.LN,IT.step] at hr;split at hr;.rename_i v hv;exact⟨_,_,⟨v,hv,rfl,rfl⟩,hr⟩
  .cases hr
 |box n v d=>
  simp only[Em.LN,IT.step] at hr;split at hr;.rename_i hn;rw[Td hn] at hr;exact⟨_,_,⟨hn,rfl,rfl⟩,hr⟩
  .cases hr
 |closure fn a b fz d=>exact⟨_,_,⟨rfl,rfl⟩,hr⟩
 |MH s off n v BM e ver cells owned=>
  simp only[Em.LN,IT.step] at hr;split at hr;.rename_i hn;rw[Td hn] at hr;exact⟨_,_,⟨hn,rfl,rfl⟩,hr⟩
  .cases hr
 |load n p dst=>
  simp only[Em.LN,IT.step] at hr;split at hr;.rename_i v hv;exact⟨_,_,⟨v,hv,rfl,rfl⟩,hr⟩
  .cases hr
 |store n p v=>
  simp only[Em.LN,IT.step] at hr;split at hr;.rename_i h1 hv;exact⟨_,_,⟨hv,rfl⟩,hr⟩
  .cases hr
 |alloc n v dst=>
  simp only[Em.LN,IT.step,VG] at hr;by_cases hn:v.cells.length=n;.rw[Af hn] at hr;exact⟨_,_,⟨hn,rfl,rfl⟩,hr⟩
  .rw[Ag hn] at hr;cases hr
 |call f args dst=>
  simp only[Em.LN,IT.step] at hr;split at hr;.rename_i r h1 hv;exact⟨_,_,⟨r,hv,rfl⟩,hr⟩
  .cases hr
 |D4 g args dst=>
  simp only[Em.LN,IT.step] at hr;split at hr
  .rename_i f a' ht;split at hr;.rename_i r h1 hv;exact⟨_,_,⟨f,a',r,ht,hv,rfl⟩,hr⟩
   .cases hr
  .cases hr
 |BG f args dst=>
  simp only[Em.LN,IT.step] at hr;split at hr
  .rename_i Im;split at hr
   .rename_i r h1 hv;split at hr;.rename_i fk;exact⟨_,_,⟨Im,r,h1,hv,fk,rfl,rfl⟩,hr⟩
    .cases hr
   .cases hr
  .cases hr
 |MY dst=>exact⟨_,_,⟨rfl,rfl⟩,hr⟩
 |Hu m k v=>
  simp only[Em.LN,IT.step] at hr;split at hr;.rename_i h1 hv;exact⟨_,_,⟨hv,rfl⟩,hr⟩
  .cases hr
 |LL z ok m k dst=>
  simp only[Em.LN,IT.step] at hr;split at hr;.rename_i v hv;exact⟨_,_,⟨v,hv,rfl,rfl⟩,hr⟩
  .cases hr
 |make z b zero l c dst=>
  simp only[Em.LN,IT.step] at hr;split at hr;.rename_i h1 v hv;exact⟨_,_,⟨v,hv,rfl⟩,hr⟩
  .cases hr
 |Jk z b s x dst e=>
  simp only[Em.LN,IT.step] at hr;split at hr;.rename_i h1 v hv;exact⟨_,_,⟨v,hv,rfl⟩,hr⟩
  .cases hr
 |FQ z b s x dst=>
  simp only[Em.LN,IT.step] at hr;split at hr;.rename_i h1 v hv;exact⟨_,_,⟨v,hv,rfl⟩,hr⟩
  .cases hr
 |F8 z b s x dst e=>
  simp only[Em.LN,IT.step] at hr;split at hr;.rename_i v hv;exact⟨_,_,⟨v,hv,rfl,rfl⟩,hr⟩
  .cases hr
 |EO s dst=>
  simp only[Em.LN,IT.step] at hr;split at hr;.rename_i h1 v hv;exact⟨_,_,⟨v,hv,rfl⟩,hr⟩
  .cases hr
 |Yc s dst=>
  simp only[Em.LN,IT.step] at hr;split at hr
  .rename_i h1 v hv;split at hr;.rename_i u hu;exact⟨_,_,⟨v,u,hv,hu,rfl⟩,hr⟩
   .cases hr
  .cases hr
 |mem o args dst=>
  simp only[Em.LN,IT.step] at hr;split at hr;.rename_i h1 v hv;exact⟨_,_,⟨v,hv,rfl⟩,hr⟩
  .cases hr
structure CX(C:FB)(γ0:Gh)(w0:World)(γ:Gh)(β:Nat->Nat)(U:BJ)(h:Ah)(a:Act)(w:World):Prop where
 DI:Hi γ h w
 fr:FR γ β w0.heap.size U a.tmps w
 DD:LB γ0 w0 γ w
 defers:a.defers=[]
 Gy:∀g cs,C.Gy g=some cs->CP γ cs g 0
def RH{γ:Gh}{v:Value}{a:Aa}(h:OT v=some a):BI γ a v/\v.oneCell'=true:=by
 unfold OT at h;split at h;case h_7=>
  rename_i fn f c;split at h;.rename_i hs;cases h;have d:f=#[]:=Ij hs.1;have b:c=#[]:=Ij hs.2;subst d;subst b;exact⟨⟨#[],#[],rfl,rfl,rfl⟩,rfl⟩
  .cases h
 all_goals first
  |(cases h;exact⟨rfl,rfl⟩)
  |cases h
def MJ{γ:Gh}:∀{vs:List Value} {as:List Aa},LA vs=some as->AV γ as vs/\∀v∈vs,v.oneCell'=true
 |[],as,h=>by cases h;exact⟨rfl,Ax⟩
 |v::vs,as,h=>by
  unfold LA at h;split at h;.rename_i a c h1 h2;cases h;obtain⟨p,q⟩:=RH (γ:=γ) h1;obtain⟨p',b⟩:=MJ (γ:=γ) h2;exact⟨⟨v,vs,rfl,p,p'⟩,λx hx=>(AE.1 hx).elim (λe=>by rw[e];exact q) (b x)⟩
  .cases h
def E2{γ:Gh}{v:Value}{a:Aa}(h:KD v=some a):BI γ a v:=by
 unfold KD at h;split at h
 .rename_i cs;cases hs:LA cs.toList with
  |none=>rw[hs] at h;cases h
  |some as=>rw[hs] at h;cases h;obtain⟨p,q⟩:=MJ (γ:=γ) hs;exact⟨cs,rfl,p,q⟩
 .exact(RH h).1
section
variable{C:FB}{γ0 γ:Gh}{w0 w:World}{β:Nat->Nat}{U:BJ}{h:Ah}{a:Act}
def QR(hr:CX C γ0 w0 γ β U h a w){x:Operand}{sl:D3}(hx:DP C U x=some sl)(hn:∀s,x≠ .tmp s):∃s,Lg γ β w0.heap.size w s sl (a.eval x):=by
 unfold DP at hx;split at hx;.exact absurd rfl (hn _)
 .cases hx;exact⟨0,rfl⟩
 .cases hx;exact⟨0,rfl,.inl (.inl rfl)⟩
 .rename_i v _ _;cases hc:KD v with
  |none=>rw[hc] at hx;cases hx
  |some u=>rw[hc] at hx;cases hx;exact⟨0,E2 hc⟩
 .rename_i g;cases hc:C.Gy g with
  |none=>rw[hc] at hx;cases hx
  |some cs=>rw[hc] at hx;cases hx;exact⟨0,g,0,rfl,hr.Gy g cs hc⟩
 .cases hx;exact⟨0,#[],#[],rfl,rfl,rfl⟩
def RI(hr:CX C γ0 w0 γ β U h a w)(s:Nat):Lg γ β w0.heap.size w s (U.at s) (a.eval (.tmp s)):=hr.fr.HS s
def FZ(hr:CX C γ0 w0 γ β U h a w){x:Operand}{sl:D3}(hx:DP C U x=some sl):∃s,Lg γ β w0.heap.size w s sl (a.eval x)/\∀t,x= .tmp t->s=t:=by
 cases x with
 |tmp t=>cases hx;exact⟨t,RI hr t,λ_ h=>by cases h;rfl⟩
 |const v=>obtain⟨s,h1⟩:=QR hr hx (by intro s h;cases h);exact⟨s,h1,λ_ h=>by cases h⟩
 |global g=>obtain⟨s,h1⟩:=QR hr hx (by intro s h;cases h);exact⟨s,h1,λ_ h=>by cases h⟩
 |func f=>obtain⟨s,h1⟩:=QR hr hx (by intro s h;cases h);exact⟨s,h1,λ_ h=>by cases h⟩
def M4{B s:Nat}{sl:D3}{v:Value}{u:Aa}(hs:Lg γ β B w s sl v)(hv:sl.GV=some u):BI γ u v:=by
 cases sl<;>simp[D3.GV] at hv;.subst hv;exact hs
 .subst hv;exact hs
 .subst hv;exact hs.1
def Gi(hr:CX C γ0 w0 γ β U h a w){x:Operand}{u:Aa}(hx:EF C U x=some u):BI γ u (a.eval x):=by
 unfold EF at hx;cases hs:DP C U x with
 |none=>rw[hs] at hx;cases hx
 |some sl=>rw[hs] at hx;obtain⟨s,h1,_⟩:=FZ hr hs;exact M4 h1 hx
def DE(hr:CX C γ0 w0 γ β U h a w):∀{xs:List Operand} {us:List Aa},Bm C U xs=some us->AV γ us (xs.map a.eval)
 |[],us,hx=>by cases hx;rfl
 |x::xs,us,hx=>by
  unfold Bm at hx;split at hx;.rename_i u Dq h1 h2;cases hx;exact⟨_,_,rfl,Gi hr h1,DE hr h2⟩
  .cases hx
def FR.put{B:Nat}{tmps:Array Value}(hf:FR γ β B U tmps w){d:Nat}{x:D3}{v:Value}(hx:Lg γ β B w d x v):FR γ β B (U.set d x) (tmps.setIfInBounds d v) w:=by
 refine⟨by simp[hf.size],λs=>?_⟩;have hs:=hf.HS s;by_cases he:s=d
 .subst he;by_cases hl:s<U.length
  .have w_:s<tmps.size:=by rw[<-hf.size];exact hl
   simpa[BJ.at,List.getD,hl,w_,Array.getD] using hx
  .have w_:¬s<tmps.size:=by rw[<-hf.size];exact hl
   simpa[BJ.at,List.getD,hl,w_,Array.getD] using hs
 .have h1:BJ.at (U.set d x) s=U.at s:=by simp[BJ.at,List.getD,Ao (λe=>he e.symm)]
  have h2:(tmps.setIfInBounds d v).getD s undef=tmps.getD s undef:=by simp[GJ,lP (λe=>he e.symm)]
  rw[h1,h2];exact hs
def FR.fM{B:Nat}{tmps:Array Value}(hf:FR γ β B U tmps w){d:Nat}{x:D3}(hx:Lg γ β B w d x (tmps.getD d undef)):FR γ β B (U.set d x) tmps w:=by
 refine⟨by simp[hf.size],λs=>?_⟩;have hs:=hf.HS s;by_cases he:s=d
 .subst he;by_cases hl:s<U.length;.simpa[BJ.at,List.getD,hl] using hx
  .simpa[BJ.at,List.getD,hl] using hs
 .have h1:BJ.at (U.set d x) s=U.at s:=by simp[BJ.at,List.getD,Ao (λe=>he e.symm)]
  rw[h1];exact hs
def CX.put(hr:CX C γ0 w0 γ β U h a w){d:Option Nat}{x:D3}{v:Value}(hx:∀s,d=some s->Lg γ β w0.heap.size w s x v):CX C γ0 w0 γ β (U.put d x) h (a.put d v) w:=by
 cases d with
 |none=>exact hr
 |some d=>exact⟨hr.DI,hr.fr.put (hx d rfl),hr.DD,hr.defers,hr.Gy⟩
def CX.fM(hr:CX C γ0 w0 γ β U h a w){d:Nat}{x:D3}(hx:Lg γ β w0.heap.size w d x (a.tmps.getD d undef)):CX C γ0 w0 γ β (U.set d x) h a w:=
 ⟨hr.DI,hr.fr.fM hx,hr.DD,hr.defers,hr.Gy⟩
def CX.drop(hr:CX C γ0 w0 γ β U h a w)(ds:List Nat):CX C γ0 w0 γ β (U.drop ds) h a w:=by
 cases ds with
 |nil=>exact hr
 |cons d ds=>
  refine⟨hr.DI,⟨by simp[BJ.drop,hr.fr.size],λs=>?_⟩,hr.DD,hr.defers,hr.Gy⟩;have hs:=hr.fr.HS s;have e:(BJ.drop U (d::ds)).at s=match U.at s with| .EW t o=>if(d::ds).contains t then .undef else .EW t o|x=>x:=by
   simp only[BJ.drop,BJ.at,List.getD,Cg];cases hg:U[s]? with
   |none=>rfl
   |some x=>cases x<;>rfl
  rw[e];cases hx:U.at s with
  |EW t o=>
   rw[hx] at hs;simp only
   split;.trivial
   .exact hs
  |_=>rw[hx] at hs;exact hs
def CX.IB(hr:CX C γ0 w0 γ β U h a w){γ':Gh}{h':Ah}{w':World}(hi:Hi γ' h' w')(ha:LB γ w γ' w'):CX C γ0 w0 γ' β U h' a w':=
 ⟨hi,hr.fr.kept (zD.Ŕ hr.DI ha),hr.DD.trans ha,hr.defers,λg cs hg=>CP.mono ha.le _ _ _ (hr.Gy g cs hg)⟩
def IU{P:Program}{o:Oper}{v:Value}{w':World}{next:Act->World->Prop}{Q:Exit->Act->World->Prop}(he:(execOp a.eval o).run P w= .ok (.value v) w')(hn:next (a.put o.dst v) w'):o.wp P a w next Q:=by unfold Oper.wp;rw[he];exact hn
def lW{P:Program}{o:Oper}{w':World}{next:Act->World->Prop}{Q:Exit->Act->World->Prop}(he:(execOp a.eval o).run P w= .ok .skip w')(hn:next (a.put o.dst undef) w'):o.wp P a w next Q:=by unfold Oper.wp;rw[he];exact hn
end
end Go.Am
end
section
namespace Go.Am
def Gh.Fw(γ:Gh)(g:Nat)(x:Kc):Gh:={γ with BM:=λb=>if b=g then some x else γ.BM b}
section
variable{C:FB}{γ0 γ:Gh}{w0 w:World}{β:Nat->Nat}{U:BJ}{h:Ah}{a:Act}
def GW(γ:Gh)(g:Nat)(x:Kc):γ.le (γ.Fw g x):=⟨λ_ _ _ h=>h,λ_ _ h=>h,λ_ _ h=>h⟩
def Hi.Fw(hi:Hi γ h w){g s s' st:Nat}{c c':Option Nat}(hg:γ.BM g=some (.tail s c st)):Hi (γ.Fw g (.tail s' c' st)) h w:=by
 refine⟨λb o v hb=>?_,λid y HX hy=>?_,λid cs hc b hb=>?_,λid es hc b hb=>?_,hi.mu,λb x hx=>?_,λb n hb=>?_⟩;rotate_left 5
 .obtain⟨p,r⟩:=hi.sz b n hb;have:b≠g:=λhe=>by subst he;rw[hg] at r;rcases r with r|⟨_,r⟩<;>cases r
  exact⟨p,by simp only[Gh.Fw,Ag this];exact r⟩
 .obtain⟨p,q,r⟩:=hi.HW b o v hb;refine⟨p,q,?_⟩;by_cases he:b=g
  .subst he;rw[hg] at r;rcases r with r|⟨_,_,_,r,hl⟩
   .cases r
   .cases r;exact .inr ⟨s',c',st,by simp[Gh.Fw],hl⟩
  .simpa only[Gh.Fw,Ag he] using r
 .obtain⟨b,p,q⟩:=hi.Me id y HX hy;have:b≠g:=λhe=>by subst he;rw[hg] at q;cases q
  exact⟨b,p,by simp only[Gh.Fw,Ag this];exact q⟩
 .obtain⟨us,e,fr,p,pf,q,r⟩:=hi.cells id cs hc b hb;exact⟨us,e,fr,p,pf,AV.mono (GW γ g _) _ _ q,r⟩
 .obtain⟨us,e,p,q⟩:=hi.map id es hc b hb;exact⟨us,e,p,q.mono (GW γ g _)⟩
 .by_cases he:b=g;.subst he;exact hi.BM b _ hg
  .simp only[Gh.Fw,Ag he] at hx;exact hi.BM b x hx
def IF.Fw{B:Nat}{s b st:Nat}{c f:Option Nat}{v:Value}{u:Aa}{x:Kc}{g:Nat}(hg:γ.BM g=some (.tail s c st))(ho:IF γ B w b f v u)(hne:b≠s\/f≠c):IF (γ.Fw g x) B w b f v u:=by
 rcases ho with ho|⟨g2,n,cap,us,e,z,Aw,h1,h2,d,i⟩
 .exact .inl ho
 .have:g2≠g:=λhe=>by subst he;rw[hg] at d;cases d;rcases hne with hne|hne<;>exact hne rfl
  exact .inr ⟨g2,n,cap,us,e,z,Aw,h1,h2,by simp only[Gh.Fw,Ag this];exact d,i⟩
def FR.Fw{B:Nat}{tmps:Array Value}(hf:FR γ β B U tmps w){g s st:Nat}{c:Option Nat}{x:Kc}(hg:γ.BM g=some (.tail s c st))
  (h1:c=none->∀v,U.at s≠ .BM v) (h2:∀o,c=some o->∀ver cs ow,U.at s= .box ver cs ow->o∉ow):FR (γ.Fw g x) β B U tmps w:=by
 refine⟨hf.size,λd=>?_⟩;have hs:=hf.HS d;cases hx:U.at d with
 |undef=>trivial
 |skip=>rw[hx] at hs;exact hs
 |val u=>rw[hx] at hs;exact BI.mono (GW γ g x) _ _ hs
 |OL b=>rw[hx] at hs;exact hs
 |BM u=>
  rw[hx] at hs;refine⟨BI.mono (GW γ g x) _ _ hs.1,hs.2.Fw hg ?_⟩;by_cases he:d=s
  .subst he;cases c with
   |none=>exact absurd hx (h1 rfl u)
   |some o=>exact .inr Ax
  .exact .inl he
 |box ver cs ow=>
  rw[hx] at hs;obtain⟨p1,p2,p,us,e,n,m,l,k⟩:=hs;have hb:β d≠g:=λhe=>by rw[he,hg] at p2;cases p2
  refine⟨p1,by simp only[Gh.Fw,Ag hb];exact p2,p,us,e,n,AV.mono (GW γ g x) _ _ m,l,λo ho=>?_⟩;obtain⟨u,v,j,i,f⟩:=k o ho;refine⟨u,v,j,i,f.Fw hg ?_⟩;by_cases he:d=s
  .subst he;cases c with
   |none=>exact .inr Ax
   |some o'=>refine .inr λhe=>?_;cases he;exact h2 o rfl ver cs ow hx ho
  .exact .inl he
 |EW s' o=>rw[hx] at hs;exact hs
def CX.Fw(hr:CX C γ0 w0 γ β U h a w){g s st s':Nat}{c c':Option Nat}(hg:γ.BM g=some (.tail s c st))(hB:w0.heap.size<=g)
  (h1:c=none->∀v,U.at s≠ .BM v) (h2:∀o,c=some o->∀ver cs ow,U.at s= .box ver cs ow->o∉ow):CX C γ0 w0 (γ.Fw g (.tail s' c' st)) β U h a w:=by
 refine⟨hr.DI.Fw hg,hr.fr.Fw hg h1 h2,?_,hr.defers,λx cs hx=>CP.mono (GW γ g _) _ _ _ (hr.Gy x cs hx)⟩;refine⟨hr.DD.le.trans (GW γ g _),hr.DD.size,hr.DD.os,hr.DD.tape,hr.DD.output,λb hb hn=>?_⟩;.obtain⟨p,q⟩:=hr.DD.NF b hb hn;exact⟨p,by simp only[Gh.Fw,Ag (Ac:b≠g)];exact q⟩
def BJ.E3{s:Nat}{x:D3}(hs:s<U.length):BJ.at (U.set s x) s=x:=by simp[BJ.at,List.getD,hs]
def BJ.FM{s t:Nat}{x:D3}(hs:s≠t):BJ.at (U.set s x) t=U.at t:=by simp[BJ.at,List.getD,Ao hs]
def BJ.OY{s:Nat}(hs:U.at s≠ .undef):s<U.length:=by
 rcases Bk s U.length with h|h
 .exact h
 .exact absurd (by simp[BJ.at,List.getD,C4 h]) hs
def CX.take(hr:CX C γ0 w0 γ β U h a w){s:Nat}{v:Aa}(hs:U.at s= .BM v)(s':Nat)(c':Option Nat):
  ∃γ',γ.le γ'/\CX C γ0 w0 γ' β (U.set s (.val v)) h a w/\BI γ' v (a.tmps.getD s undef)/\IF γ' w0.heap.size w s' c' (a.tmps.getD s undef) v:=by
 have h0:=hr.fr.HS s;rw[hs] at h0;obtain⟨hv,ho⟩:=h0;have Jz:CX C γ0 w0 γ β (U.set s (.val v)) h a w:=hr.fM hv;have hl:s<U.length:=BJ.OY (by rw[hs];simp);rcases ho with ho|⟨g,n,cap,us,e,z,Aw,h1,h2,d,b,c⟩
 .exact⟨γ,.refl _,Jz,hv,.inl ho⟩
 .refine⟨γ.Fw g (.tail s' c' (n*z)),GW _ _ _,Jz.Fw d b (λ_ u=>?_) (λo ho=>by cases ho),BI.mono (GW _ _ _) _ _ hv,.inr ⟨g,n,cap,us,e,z,Aw,h1,h2,by simp[Gh.Fw],b,c⟩⟩;rw[BJ.E3 hl];simp
def Z9{B s d:Nat}{sl b:D3}{v:Value}(hs:Lg γ β B w s sl v)(hc:H9 sl=some b):Lg γ β B w d b v:=by
 cases sl<;>simp[H9] at hc;.subst hc;exact hs
 .subst hc;exact hs
 .subst hc;exact hs.1
 .subst hc;exact hs
def NI{ws:List (Nat×D3)}(h:∀p∈ws,∀cs ow,p.2≠ .box 0 cs ow):(Em.pure ws).news=[]:=by
 simp only[Em.news,List.filterMap_eq_nil_iff];rintro⟨s,x⟩ hp;have:=h _ hp;cases x with
 |box ver cs ow=>
  cases ver with
  |zero=>exact absurd rfl (this cs ow)
  |succ n=>rfl
 |_=>rfl
def RJ{v:Value}{sl:D3}(hs:DP C U (.const v)=some sl):(∀B d,Lg γ β B w d sl v)/\∀ver cs ow,sl≠ .box ver cs ow:=by
 unfold DP at hs;split at hs;.rename_i J7;cases J7
 .rename_i J7;cases J7;cases hs;exact⟨λ_ _=>rfl,λ_ _ _ h=>by cases h⟩
 .rename_i J7;cases J7;cases hs;exact⟨λ_ _=>⟨rfl,.inl (.inl rfl)⟩,λ_ _ _ h=>by cases h⟩
 .rename_i J7;cases J7;cases hc:KD v with
  |none=>rw[hc] at hs;cases hs
  |some u=>rw[hc] at hs;cases hs;exact⟨λ_ _=>E2 hc,λ_ _ _ h=>by cases h⟩
 .rename_i J7;cases J7
 .rename_i J7;cases J7
def GC{s:Nat}{sl:D3}(hs:DP C U (.tmp s)=some sl):U.at s=sl:=ED hs
def lX{x:Operand}{v:Aa}(hs:DP C U x=some (.BM v))(hn:∀c,x≠ .const c):∃s,x= .tmp s/\U.at s= .BM v:=by
 cases x with
 |tmp s=>exact⟨s,rfl,GC hs⟩
 |const c=>exact absurd rfl (hn c)
 |global g=>have eW:(C.Gy g).map (λcs=>D3.val (Aa.BW cs))=some (.BM v):=hs;cases hc:C.Gy g<;>rw[hc] at eW<;>cases eW
 |func f=>cases hs
def RK{x:Operand}{d:Nat}{take:Bool}{r:Em}{run:IT->Ah->Option Jy}{e:BJ}{h':Ah}(hm:Ki C U x d take=some r)(hd:r.M3 C run (U.drop r.news) h e h')
  (hr:CX C γ0 w0 γ β U h a w):∃γ',CX C γ0 w0 γ' β e h' (a.put (some d) (a.eval x)) w:=by
 unfold Ki at hm;split at hm;.rename_i s _ _ _ hs;cases hm;rw[NI Ax] at hd;obtain⟨rfl,rfl⟩:=hd;refine⟨γ,hr.put (d:=some d) λt ht=>?_⟩;have h0:=RI hr s;rw[GC hs] at h0;exact h0.1
 .rename_i v sl hs;cases hm;obtain⟨p,q⟩:=RJ (γ:=γ) (β:=β) (w:=w) hs;rw[NI (by simpa using λcs ow=>q 0 cs ow)] at hd;obtain⟨rfl,rfl⟩:=hd;exact⟨γ,hr.put (d:=some d) λt _=>p _ t⟩
 .rename_i v hnc hs;split at hm;.cases hm;obtain⟨s,rfl,Đ⟩:=lX hs (λc hc=>hnc c hc);rw[NI (by simp[RB])] at hd;obtain⟨rfl,rfl⟩:=hd;obtain⟨γ',Ek,Hd,Gc,xa⟩:=hr.take Đ d none;exact⟨γ',Hd.put (d:=some d) λt ht=>by cases ht;exact⟨Gc,xa⟩⟩
  .simp only[H9,Bt] at hm;cases hm;rw[NI Ax] at hd;obtain⟨rfl,rfl⟩:=hd;obtain⟨s,h1,_⟩:=FZ hr hs;exact⟨γ,hr.put (d:=some d) λt ht=>h1.1⟩
 .rename_i sl _ _ _ hs;cases hc:H9 sl with
  |none=>rw[hc] at hm;cases hm
  |some b=>
   rw[hc] at hm;cases hm;have jh:∀cs ow,b≠ .box 0 cs ow:=by intro cs ow he;subst he;cases sl<;>simp[H9] at hc
   rw[NI (by simpa using jh)] at hd;obtain⟨rfl,rfl⟩:=hd;obtain⟨s,h1,_⟩:=FZ hr hs;exact⟨γ,hr.put (d:=some d) λt ht=>Z9 h1 hc⟩
 .cases hm
end
end Go.Am
end
section
namespace Go.Am
open Go
def VU{s:Sem Value}{v:Value}(h:PR s=some v):s= .pure v:=by cases s<;>simp[PR] at h;subst h;rfl
section
variable{P:Program}{γ:Gh}{w:World}
def fN{op:BinOp}{k l:IntKind}{x y:Int}{u:Aa}(t:TypeId)(c b:Operand)(h:qO op k x l y=some u):
  ∃v,(do eqGuard op t c b (.int k x) (.int l y);binOp op t (.int k x) (.int l y):Sem Value).run P w= .ok v w/\BI γ u v:=by
 unfold qO at h;cases hs:PR (binOp op 0 (.int k x) (.int l y)) with
 |none=>rw[hs] at h;cases h
 |some v=>
  rw[hs] at h;have f:=VU hs;have e:binOp op t (.int k x) (.int l y)= .pure v:=by rw[<-f];cases op<;>rfl
  have d:eqGuard op t c b (.int k x) (.int l y)=pure ():=by cases op<;>rfl
  refine⟨v,by rw[d,e];rfl,?_⟩;simp only[Cj] at h;split at h<;>cases h<;>rfl
def aA(l:List UInt8):(ByteArray.mk ⟨l⟩).toList=l:=ByteArray.toList_mk l
def fO{op:BinOp}{x y:Ak}{u:Aa}(t:TypeId)(d c:Operand)(h:fH op x y=some u):
  ∃v,(do eqGuard op t d c (.string ⟨⟨x⟩⟩) (.string ⟨⟨y⟩⟩);binOp op t (.string ⟨⟨x⟩⟩) (.string ⟨⟨y⟩⟩):Sem Value).run P w= .ok v w/\BI γ u v:=by
 have e:eqGuard op t d c (.string ⟨⟨x⟩⟩) (.string ⟨⟨y⟩⟩)=pure ():=by cases op<;>rfl
 have b:binOp op t (.string ⟨⟨x⟩⟩) (.string ⟨⟨y⟩⟩)=Op.stringOp op ⟨⟨x⟩⟩ ⟨⟨y⟩⟩:=by cases op<;>rfl
 rw[e,b];unfold fH at h;cases op<;>simp only at h<;>first
  |cases h;done
  |(simp only[Op.stringOp,aA];cases h;exact⟨_,rfl,rfl⟩)
  | (split at h
     . rename_i Ek
       cases h
       have hc : ¬ ((((ByteArray.mk ⟨x⟩).size + (ByteArray.mk ⟨y⟩).size : Nat) : Int) > IntKind.i64.max) := by
         have f : (ByteArray.mk ⟨x⟩).size = x.length := rfl
         have b : (ByteArray.mk ⟨y⟩).size = y.length := rfl
         rw [f, b]
         have : IntKind.i64.max = 9223372036854775807 := AI
         rw [this]
         omega
       simp only [Op.stringOp, Ag hc]
       refine ⟨_, rfl, ?_⟩
       show Value.string _ = Value.string _
       first
         | (congr 1; done)
         | (congr 1; apply ByteArray.ext; simp)
     . cases h)
def lY{t:TypeId}(h:EZ P t=some none):(isAgg t).run P w= .ok false w:=by
 unfold EZ at h;split at h;.cases hs:BR P t<;>rw[hs] at h<;>cases h
 .cases hs:BR P t<;>rw[hs] at h<;>cases h
 .rename_i d h1 h2 hu;simp only[isAgg,Sem.run_bind,run_underlying hu,Result.andThen_ok];rfl
 .cases h
def QS{t:TypeId}{n:Nat}(h:EZ P t=some (some n)):(isAgg t).run P w= .ok true w/\BR P t=some n:=by
 unfold EZ at h;split at h
 .rename_i fs hu;cases hs:BR P t with
  |none=>rw[hs] at h;cases h
  |some m=>rw[hs] at h;cases h;exact⟨by simp[isAgg,run_underlying hu],rfl⟩
 .rename_i fs _ hu;cases hs:BR P t with
  |none=>rw[hs] at h;cases h
  |some m=>rw[hs] at h;cases h;exact⟨by simp[isAgg,run_underlying hu],rfl⟩
 .cases h
 .cases h
def Dv{t:TypeId}{n:Nat}(h:BR P t=some n):(sizeOf t).run P w= .ok n w:=by
 unfold BR at h;cases hi:P.info? t with
 |none=>rw[hi] at h;cases h
 |some i=>rw[hi] at h;cases h;simp[sizeOf,typeInfo,hi]
def fP{t:TypeId}{sh:Option Nat}{cs:List Aa}{us:Array Value}{off:Nat}{u:Aa}(lG:EZ P t=some sh)(hr:AV γ cs us.toList)(h1:∀v∈us.toList,v.oneCell'=true)
  (hp:E1 cs off sh=some u):∃v,(part t us off).run P w= .ok v w/\BI γ u v:=by
 cases sh with
 |none=>
  replace hp:cs[off]?=some u:=hp;obtain⟨v,hv,hrel⟩:=hr.get hp;refine⟨v,?_,hrel⟩;have Gc:us[off]?=some v:=by simpa using hv
  simp[part,lY lG,Gc]
 |some n=>
  obtain⟨ha,hs⟩:=QS (w:=w) lG;replace hp:(if off+n<=cs.length then some (Aa.agg ((cs.drop off).take n)) else none)=some u:=hp;split at hp
  .cases hp;refine⟨.agg (us.extract off (off+n)),by simp[part,ha,Dv hs],us.extract off (off+n),rfl,?_,?_⟩;.have:=(hr.drop off).take n;simpa[Nw,Hp] using this
   .intro v hv;refine h1 v ?_;rw[Nw,Hp] at hv;exact Bu (A4 hv)
  .cases hp
end
end Go.Am
end
section
namespace Go.Am
open Go
def ji{x y:Aa}{b:Bool}(h:LJ .b x y=some b):∃p q,x= .bool p/\y= .bool q/\(p==q)=b:=by unfold LJ at h;split at h<;>first|cases h;done|(rename_i he;cases he;done)|(cases h;exact⟨_,_,rfl,rfl,rfl⟩)
def jj{x y:Aa}{b:Bool}(h:LJ .i x y=some b):∃k p q,x= .int k p/\y= .int k q/\(p==q)=b:=by
 unfold LJ at h;split at h;.rename_i he;cases he
 .split at h;.rename_i hk;subst hk;cases h;exact⟨_,_,_,rfl,rfl,rfl⟩
  .cases h
 .rename_i he;cases he
 .cases h
def jk{x y:Aa}{b:Bool}(h:LJ .s x y=some b):∃p q,x= .str p/\y= .str q/\(p==q)=b:=by
 unfold LJ at h;split at h;.rename_i he;cases he
 .rename_i he;cases he
 .cases h;exact⟨_,_,rfl,rfl,rfl⟩
 .cases h
def OZ:∀{ks ŗ:List FK} {xs ys:List Aa} {b:Bool},DR (ks++ŗ) xs ys=some b->
  ∃b1 b2,DR ks (xs.take ks.length) (ys.take ks.length)=some b1/\DR ŗ (xs.drop ks.length) (ys.drop ks.length)=some b2/\b=(b1&&b2)
 |[],ŗ,xs,ys,b,h=>⟨true,b,by simp[DR],by simpa using h,Ax⟩
 |k::ks,ŗ,[],ys,b,h=>by cases ys<;>simp[DR] at h
 |k::ks,ŗ,x::xs,[],b,h=>by simp[DR] at h
 |k::ks,ŗ,x::xs,y::ys,b,h=>by
  simp only[CC,DR] at h;split at h;.rename_i e es h1 h2;cases h;obtain⟨b1,b2,p,q,r⟩:=OZ h2;refine⟨e&&b1,b2,?_,by simpa using q,by rw[r,Bool.and_assoc]⟩;simp only[AJ,OI,DR,h1,p]
  .cases h
def O0:∀{ks:List FK} {xs ys:List Aa} {b:Bool},DR ks xs ys=some b->xs.length=ks.length/\ys.length=ks.length
 |[],xs,ys,b,h=>by cases xs<;>cases ys<;>simp[DR] at h⊢
 |k::ks,xs,ys,b,h=>by
  cases xs<;>cases ys<;>simp[DR] at h;split at h;.rename_i h1 h2;obtain⟨p,q⟩:=O0 h2;simp[p,q]
  .cases h
section
variable{P:Program}{γ:Gh}{w:World}
def YW:∀{d:Nat} {t:TypeId} {ks:List FK},OV P d t=some ks->BR P t=some ks.length
 |0,t,ks,h=>by cases h
 |d+1,t,ks,h=>by
  simp only[OV] at h;split at h;.split at h<;>cases h;assumption
  .split at h<;>cases h;assumption
  .split at h<;>cases h;assumption
  .split at h
   .split at h;.rename_i hc;cases h;exact hc.1
    .cases h
   .cases h
  .cases h
def lZ{ks:List FK}{k:FK}{t:TypeId}(h:(if BR P t=some 1 then some [k] else none)=some ks):ks=[k]:=by split at h<;>cases h;rfl
def Gj{t:TypeId}{us:Array Value}{off:Nat}{v:Value}{d:TypeDesc}(hu:P.underlying t=some d)(h1:∀fs,d≠ .struct fs)(h2:∀n e,d≠ .array n e)(hv:us[off]?=some v):
  (part t us off).run P w= .ok v w:=by
 have ha:(isAgg t).run P w= .ok false w:=by simp only[isAgg,Sem.run_bind,run_underlying hu,Result.andThen_ok];cases d<;>first|rfl|exact absurd rfl (h1 _)|exact absurd rfl (h2 _ _)
 simp[part,ha,hv]
def Jm{l:List Aa}{off:Nat}{x:Aa}(h:(l.drop off).take 1=[x]):l[off]?=some x:=by have:=B5 (·[0]?) h;simpa using this
def VV{k:FK}{xs ys:List Aa}{b:Bool}(h:DR [k] xs ys=some b):∃x y,xs=[x]/\ys=[y]/\LJ k x y=some b:=by
 cases xs<;>cases ys<;>simp[DR] at h;rename_i x xs y ys;cases xs<;>cases ys<;>simp[DR] at h;all_goals first
  | (split at h
     . rename_i e es h1 h2; cases h2; cases h; exact ⟨x, y, rfl, rfl, by simpa using h1⟩
     . cases h)
  |(split at h<;>simp_all)
mutual
def fQ:∀{d D:Nat},d<=D->∀{t:TypeId} {ks:List FK},OV P d t=some ks->∀(us vs:Array Value) (cs ds:List Aa) (off:Nat) (b:Bool),AV γ cs us.toList->AV γ ds vs.toList->
  DR ks ((cs.drop off).take ks.length) ((ds.drop off).take ks.length)=some b->
  ∃x y,(part t us off).run P w= .ok x w/\(part t vs off).run P w= .ok y w/\(Op.equalIn D t x y).run P w= .ok b w
 |0,_,_,_,_,h=>by cases h
 |d+1,0,hd,_,_,_=>Ac
 |d+1,D+1,hd,t,ks,h=>by
  intro us vs cs ds off b hu hv he;have K8:=YW h;simp only[OV] at h;split at h;.rename_i YX;have:=lZ h;subst this;obtain⟨x,y,k,j,i⟩:=VV he;obtain⟨x',p1,p2⟩:=hu.get (Jm k);obtain⟨c,f,e⟩:=hv.get (Jm j);refine⟨x',c,Gj YX Ax Ax (by simpa using p1),Gj YX Ax Ax (by simpa using f),?_⟩;obtain⟨m,l,rfl,rfl,g⟩:=ji i;rw[p2,e,run_equalIn_bool' w D t _ _ YX,<-g]
  .rename_i kk YX;have:=lZ h;subst this;obtain⟨x,y,k,j,i⟩:=VV he;obtain⟨x',p1,p2⟩:=hu.get (Jm k);obtain⟨c,f,e⟩:=hv.get (Jm j);refine⟨x',c,Gj YX Ax Ax (by simpa using p1),Gj YX Ax Ax (by simpa using f),?_⟩;obtain⟨n,m,l,rfl,rfl,g⟩:=jj i;rw[p2,e,run_equalIn_int w D t _ _ _ _ YX,<-g]
  .rename_i YX;have:=lZ h;subst this;obtain⟨x,y,k,j,i⟩:=VV he;obtain⟨x',p1,p2⟩:=hu.get (Jm k);obtain⟨c,f,e⟩:=hv.get (Jm j);refine⟨x',c,Gj YX Ax Ax (by simpa using p1),Gj YX Ax Ax (by simpa using f),?_⟩;obtain⟨m,l,rfl,rfl,g⟩:=jk i;rw[p2,e,run_equalIn_string w D t _ _ YX,aA,aA,<-g]
  .rename_i fs YX;split at h
   .rename_i ŗ Jn;split at h
    .rename_i hc;cases h;have lG:EZ P t=some (some ks.length):=by simp[EZ,YX,K8]
     obtain⟨ha,hs⟩:=QS (w:=w) lG;refine⟨.agg (us.extract off (off+ks.length)),.agg (vs.extract off (off+ks.length)),by simp[part,ha,Dv hs],by simp[part,ha,Dv hs],?_⟩;have aI1:P.underlying t=some (.struct (P.fieldsOf t)):=by simp[Program.fieldsOf,YX]
     rw[run_equalIn_struct w D t _ _ aI1 hc.2];have hf:(P.fieldsOf t).toList=fs.toList:=by simp[Program.fieldsOf,YX]
     rw[hf];have zG:AV γ ((cs.drop off).take ks.length) (us.extract off (off+ks.length)).toList:=by have:=(hu.drop off).take ks.length;simpa[Nw,Hp] using this
     have Gc:AV γ ((ds.drop off).take ks.length) (vs.extract off (off+ks.length)).toList:=by have:=(hv.drop off).take ks.length;simpa[Nw,Hp] using this
     refine YY (Nat.le_of_succ_le_succ hd) fs.toList Jn _ _ _ _ _ zG Gc ?_;simpa using he
    .cases h
   .cases h
  .cases h
def YY:∀{d D:Nat},d<=D->∀(fs:List Field) {off:Nat} {ks:List FK},VJ (OV P d) fs off=some ks->∀(us vs:Array Value) (cs ds:List Aa) (b:Bool),AV γ cs us.toList->AV γ ds vs.toList->
  DR ks (cs.drop off) (ds.drop off)=some b->(Op.eqFields D us vs fs).run P w= .ok b w
 |d,D,hd,[],off,ks,h=>by
  intro us vs cs ds b hu hv he;cases h;have:b=true:=by cases h1:cs.drop off<;>cases h2:ds.drop off<;>rw[h1,h2] at he<;>simp[DR] at he;exact he
  subst this;rfl
 |d,D,hd,f::fs,off,ks,h=>by
  intro us vs cs ds b hu hv he;simp only[VJ] at h;split at h
  .rename_i hc;obtain⟨hn,aEs⟩:=hc;split at h
   .rename_i c xb;cases hr:VJ (OV P d) fs (off+c.length) with
    |none=>rw[hr] at h;cases h
    |some g=>
     rw[hr] at h;cases h;obtain⟨b1,b2,j,i,rfl⟩:=OZ he;obtain⟨x,y,p1,p2,e⟩:=fQ hd xb _ _ _ _ _ _ hu hv j;simp only[Op.eqFields,hn,CA,A3,BD,aEs,Sem.run_bind,p1,p2,e,Result.andThen_ok];cases b1;.rfl
     .simp only[Bool.not_true,Co,DO,Z0];exact YY hd fs hr _ _ _ _ _ hu hv (by simpa[Ez] using i)
   .cases h
  .cases h
end
def fR{op:BinOp}{t:TypeId}{d c:Operand}{neg:Bool}{ks:List FK}{a b:List Aa}{x y:Value}{u:Aa}(Qu:(op= .eql/\neg=false)\/(op= .neq/\neg=true))
  (hg:P.eqGuardType P.depth t=false) (hk:OV P 20 t=some ks) (IP:∃fs,P.underlying t=some (.struct fs)) (hx:BI γ (.agg a) x) (hy:BI γ (.agg b) y) (h:(DR ks a b).map (λe=>Aa.bool (e != neg))=some u):
  ∃v,(do eqGuard op t d c x y;binOp op t x y:Sem Value).run P w= .ok v w/\BI γ u v:=by
 obtain⟨us,rfl,hu,_⟩:=hx;obtain⟨vs,rfl,hv,_⟩:=hy;cases he:DR ks a b with
 |none=>rw[he] at h;cases h
 |some e=>
  rw[he] at h;cases h;obtain⟨l1,k⟩:=O0 he;obtain⟨x',g,p1,p2,f⟩:=fQ (w:=w) (P:=P) (γ:=γ) (D:=10000) (Ac:20<=10000) hk us vs a b 0 e hu hv (by rw[J2,J2,Be (L8 l1),Be (L8 k)];exact he);obtain⟨fs,Jn⟩:=IP;have lG:EZ P t=some (some ks.length):=by simp[EZ,Jn,YW hk]
  obtain⟨ha,hs⟩:=QS (w:=w) lG;have m:us.extract 0 ks.length=us:=by
   have:us.size=ks.length:=by have:=hu.length;simp at this;omega
   rw[<-this];simp
  have l:vs.extract 0 ks.length=vs:=by
   have:vs.size=ks.length:=by have:=hv.length;simp at this;omega
   rw[<-this];simp
  have j:x'= .agg us:=by simp[part,ha,Dv hs,m] at p1;exact p1.symm
  have i:g= .agg vs:=by simp[part,ha,Dv hs,l] at p2;exact p2.symm
  subst j;subst i;rcases Qu with⟨rfl,rfl⟩|⟨rfl,rfl⟩
  .refine⟨.bool e,by simp[run_eqGuard_agg (P:=P) w .eql t d c us vs hg,run_eql_struct,f],?_⟩;show Value.bool e=Value.bool _;cases e<;>rfl
  .refine⟨.bool (!e),by simp[run_eqGuard_agg (P:=P) w .neq t d c us vs hg,run_neq_struct,f],?_⟩;show Value.bool _=Value.bool _;cases e<;>rfl
end
end Go.Am
end
