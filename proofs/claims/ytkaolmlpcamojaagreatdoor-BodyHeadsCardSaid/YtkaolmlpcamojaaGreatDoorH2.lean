/- Lemmas -/
import Derived.Test.YtkaolmlpcamojaaGreatDoorH1
import Derived.Orders
import Derived.Laws.AppendOwn
import Derived.Laws.StructEq
set_option linter.all false
section
namespace Go.Am
inductive K0 where
 |MC (id:Nat)
 |loc (s:Nat)
 |tail (s:Nat) (c:Option Nat) (start:Nat)
def K0.td:K0->Bool
 | .MC _=>true
 |_=>false
structure Gh where
 IF:Nat->Nat->Option Value
 mu:Nat->Option Nat
 Bs:Nat->Option K0
 sz:Nat->Option Nat
mutual
def BQ(γ:Gh):Aa->Value->Prop
 | .bool b,v=>v= .bool b
 | .int k n,v=>v= .int k n
 | .str s,v=>v= .string ⟨⟨s⟩⟩
 | .ptr none,v=>v= .pointer none
 | .ptr (some (id,o)),v=>∃b,γ.mu id=some b/\v= .pointer (some ⟨b,o,none⟩)
 | .CI cs,v=>∃b o,v= .pointer (some ⟨b,o,none⟩)/\C8 γ cs b o
 | .sl z AE,v=>∃d cap,v= .slice (some d) AE.length cap/\AE.length<=cap/\(d.spot=none\/cap=0)/\E7 γ AE z d.block d.off
 | .slnil,v=>v= .slice none 0 0
 | .Gl _,v=>∃b,v= .slice (some ⟨b,0,none⟩) 0 0
 | .CE id off len z,v=>∃b cap,γ.mu id=some b/\v= .slice (some ⟨b,off,none⟩) len cap/\len<=cap/\(0<z/\cap<=maxLen)/\γ.sz b=some (off+cap*z)
 | .map none,v=>v= .map none
 | .map (some id),v=>∃b,γ.mu id=some b/\v= .map (some b)
 | .func fn f c,v=>∃fs cs,v= .func fn fs cs/\Bl γ f fs.toList/\Bl γ c cs.toList
 | .nilFunc,v=>v= .nilFunc
 | .iface t a,v=>∃u,v= .iface t u/\BQ γ a u
 | .nilIface,v=>v= .nilIface
 | .agg cs,v=>∃us,v= .agg us/\Bl γ cs us.toList/\∀u∈us.toList,u.oneCell'=true
 | .tuple vs,v=>∃us,v= .tuple us/\Bl γ vs us.toList
def Bl(γ:Gh):List Aa->List Value->Prop
 |[],us=>us=[]
 |a::l,us=>∃u DQ,us=u::DQ/\BQ γ a u/\Bl γ l DQ
def C8(γ:Gh):List Aa->Nat->Nat->Prop
 |[],_,_=>True
 |a::l,b,o=>(∃u,γ.IF b o=some u/\BQ γ a u)/\C8 γ l b (o+1)
def E7(γ:Gh):List (List Aa)->Nat->Nat->Nat->Prop
 |[],_,_,_=>True
 |r::rs,z,b,o=>r.length=z/\C8 γ r b o/\E7 γ rs z b (o+z)
end
structure Gh.le(γ γ':Gh):Prop where
 IF:∀b o v,γ.IF b o=some v->γ'.IF b o=some v
 mu:∀id b,γ.mu id=some b->γ'.mu id=some b
 sz:∀b n,γ.sz b=some n->γ'.sz b=some n
def Gh.le.refl(γ:Gh):γ.le γ:=⟨λ_ _ _ h=>h,λ_ _ h=>h,λ_ _ h=>h⟩
def Gh.le.trans{a b c:Gh}(h:a.le b)(k:b.le c):a.le c:=⟨λ_ _ _ x=>k.IF _ _ _ (h.IF _ _ _ x),λ_ _ x=>k.mu _ _ (h.mu _ _ x),λ_ _ x=>k.sz _ _ (h.sz _ _ x)⟩
mutual
def BQ.mono{γ γ':Gh}(Er:γ.le γ'):∀(a:Aa) (v:Value),BQ γ a v->BQ γ' a v
 | .bool b,v,h=>h
 | .int k n,v,h=>h
 | .str s,v,h=>h
 | .ptr none,v,h=>h
 | .ptr (some (id,o)),v,h=>by obtain⟨b,hb,hv⟩:=h;exact⟨b,Er.mu _ _ hb,hv⟩
 | .CI cs,v,h=>by obtain⟨b,o,hv,hm⟩:=h;exact⟨b,o,hv,C8.mono Er cs b o hm⟩
 | .sl z AE,v,h=>by obtain⟨d,cap,hv,hc,hs,hm⟩:=h;exact⟨d,cap,hv,hc,hs,E7.mono Er AE z _ _ hm⟩
 | .slnil,v,h=>h
 | .Gl _,v,h=>h
 | .CE id off len z,v,h=>by obtain⟨b,cap,hb,hv,hc,hz,hs⟩:=h;exact⟨b,cap,Er.mu _ _ hb,hv,hc,hz,Er.sz _ _ hs⟩
 | .map none,v,h=>h
 | .map (some id),v,h=>by obtain⟨b,hb,hv⟩:=h;exact⟨b,Er.mu _ _ hb,hv⟩
 | .func fn f c,v,h=>by obtain⟨fs,cs,hv,h1,h2⟩:=h;exact⟨fs,cs,hv,Bl.mono Er f _ h1,Bl.mono Er c _ h2⟩
 | .nilFunc,v,h=>h
 | .iface t a,v,h=>by obtain⟨u,hv,h1⟩:=h;exact⟨u,hv,BQ.mono Er a u h1⟩
 | .nilIface,v,h=>h
 | .agg cs,v,h=>by obtain⟨us,hv,h1,h2⟩:=h;exact⟨us,hv,Bl.mono Er cs _ h1,h2⟩
 | .tuple vs,v,h=>by obtain⟨us,hv,h1⟩:=h;exact⟨us,hv,Bl.mono Er vs _ h1⟩
def Bl.mono{γ γ':Gh}(Er:γ.le γ'):∀(l:List Aa) (us:List Value),Bl γ l us->Bl γ' l us
 |[],us,h=>h
 |a::l,us,h=>by obtain⟨u,DQ,hu,h1,h2⟩:=h;exact⟨u,DQ,hu,BQ.mono Er a u h1,Bl.mono Er l DQ h2⟩
def C8.mono{γ γ':Gh}(Er:γ.le γ'):∀(l:List Aa) (b o:Nat),C8 γ l b o->C8 γ' l b o
 |[],_,_,_=>trivial
 |a::l,b,o,h=>by obtain⟨⟨u,hu,h1⟩,h2⟩:=h;exact⟨⟨u,Er.IF _ _ _ hu,BQ.mono Er a u h1⟩,C8.mono Er l b (o+1) h2⟩
def E7.mono{γ γ':Gh}(Er:γ.le γ'):∀(rs:List (List Aa)) (z b o:Nat),E7 γ rs z b o->E7 γ' rs z b o
 |[],_,_,_,_=>trivial
 |r::rs,z,b,o,h=>⟨h.1,C8.mono Er r b o h.2.1,E7.mono Er rs z b (o+z) h.2.2⟩
end
def Bl.length{γ:Gh}:∀{l:List Aa} {us:List Value},Bl γ l us->us.length=l.length
 |[],us,h=>by rw[Bl] at h;subst h;rfl
 |a::l,us,h=>by rw[Bl] at h;obtain⟨u,DQ,rfl,_,h2⟩:=h;simp[h2.length]
def Bl.get{γ:Gh}:∀{l:List Aa} {us:List Value},Bl γ l us->∀{i:Nat} {a:Aa},l[i]?=some a->∃u,us[i]?=some u/\BQ γ a u
 |[],us,h,i,a,hi=>by simp at hi
 |x::l,us,h,i,a,hi=>by
  rw[Bl] at h;obtain⟨u,DQ,rfl,h1,h2⟩:=h;cases i with
  |zero=>simp at hi;subst hi;exact⟨u,rfl,h1⟩
  |succ i=>simp at hi;obtain⟨v,hv,hr⟩:=h2.get hi;exact⟨v,by simpa using hv,hr⟩
def Bl.Hm{γ:Gh}:∀{l:List Aa} {us:List Value},us.length=l.length->(∀(i:Nat) (a:Aa) (u:Value),l[i]?=some a->us[i]?=some u->BQ γ a u)->Bl γ l us
 |[],us,hl,_=>by rw[Bl];exact C7 hl
 |x::l,[],hl,_=>by simp at hl
 |x::l,u::us,hl,h=>by rw[Bl];exact⟨u,us,rfl,h 0 x u rfl rfl,Bl.Hm (by simpa using hl) λi a v hi hv=>h (i+1) a v (by simpa using hi) (by simpa using hv)⟩
def Bl.append{γ:Gh}:∀{l l':List Aa} {us DQ:List Value},Bl γ l us->Bl γ l' DQ->Bl γ (l++l') (us++DQ)
 |[],l',us,DQ,h,h'=>by rw[Bl] at h;subst h;simpa using h'
 |a::l,l',us,DQ,h,h'=>by rw[Bl] at h;obtain⟨u,r,rfl,h1,h2⟩:=h;rw[Cs,Bl];exact⟨u,r++DQ,rfl,h1,h2.append h'⟩
def Bl.take{γ:Gh}{l:List Aa}{us:List Value}(h:Bl γ l us)(n:Nat):Bl γ (l.take n) (us.take n):=by
 refine Bl.Hm (by simp[h.length]) λi a u hi hu=>?_;rw[Ci] at hi hu;split at hi;.rename_i hlt;rw[Af hlt] at hu;obtain⟨v,hv,hr⟩:=h.get hi;rw[hu] at hv;cases hv;exact hr
 .cases hi
def Bl.drop{γ:Gh}{l:List Aa}{us:List Value}(h:Bl γ l us)(n:Nat):Bl γ (l.drop n) (us.drop n):=by refine Bl.Hm (by simp[h.length]) λi a u hi hu=>?_;rw[Cr] at hi hu;obtain⟨v,hv,hr⟩:=h.get hi;rw[hu] at hv;cases hv;exact hr
def C8.get{γ:Gh}:∀{l:List Aa} {b o:Nat},C8 γ l b o->∀{i:Nat} {a:Aa},l[i]?=some a->∃u,γ.IF b (o+i)=some u/\BQ γ a u
 |[],b,o,h,i,a,hi=>by simp at hi
 |x::l,b,o,h,i,a,hi=>by
  rw[C8] at h;obtain⟨⟨u,hu,h1⟩,h2⟩:=h;cases i with
  |zero=>simp at hi;subst hi;exact⟨u,hu,h1⟩
  |succ i=>simp at hi;obtain⟨v,hv,hr⟩:=h2.get hi;exact⟨v,by rw[<-hv];congr 1;omega,hr⟩
def C8.Hm{γ:Gh}:∀{l:List Aa} {b o:Nat},(∀(i:Nat) (a:Aa),l[i]?=some a->∃u,γ.IF b (o+i)=some u/\BQ γ a u)->C8 γ l b o
 |[],b,o,h=>by rw[C8];trivial
 |x::l,b,o,h=>by rw[C8];refine⟨h 0 x rfl,C8.Hm λi a hi=>?_⟩;obtain⟨u,hu,hr⟩:=h (i+1) a (by simpa using hi);exact⟨u,by rw[<-hu];congr 1;omega,hr⟩
def C8.drop{γ:Gh}{l:List Aa}{b o:Nat}(h:C8 γ l b o)(n:Nat):C8 γ (l.drop n) b (o+n):=by refine C8.Hm λi a hi=>?_;rw[Cr] at hi;obtain⟨u,hu,hr⟩:=h.get hi;exact⟨u,by rw[<-hu];congr 1;omega,hr⟩
def C8.values{γ:Gh}:∀{l:List Aa} {b o:Nat},C8 γ l b o->∃us:List Value,Bl γ l us/\∀(j:Nat) (u:Value),us[j]?=some u->γ.IF b (o+j)=some u
 |[],b,o,h=>⟨[],by rw[Bl],AH⟩
 |x::l,b,o,h=>by
  rw[C8] at h;obtain⟨⟨u,hu,h1⟩,h2⟩:=h;obtain⟨us,hr,hi⟩:=h2.values;refine⟨u::us,by rw[Bl];exact⟨u,us,rfl,h1,hr⟩,λj v hj=>?_⟩;cases j with
  |zero=>simp at hj;subst hj;exact hu
  |succ j=>simp at hj;rw[<-hi j v hj];congr 1;omega
def E7.get{γ:Gh}:∀{rs:List (List Aa)} {z b o:Nat},E7 γ rs z b o->∀{i:Nat} {r:List Aa},rs[i]?=some r->r.length=z/\C8 γ r b (o+i*z)
 |[],z,b,o,h,i,r,hi=>by simp at hi
 |x::rs,z,b,o,h,i,r,hi=>by
  rw[E7] at h;cases i with
  |zero=>simp at hi;subst hi;simpa using⟨h.1,h.2.1⟩
  |succ i=>simp at hi;obtain⟨h1,h2⟩:=h.2.2.get hi;exact⟨h1,by rw[show o+(i+1)*z=o+z+i*z by rw[BI,D6];omega];exact h2⟩
def E7.Hm{γ:Gh}:∀{rs:List (List Aa)} {z b o:Nat},(∀(i:Nat) (r:List Aa),rs[i]?=some r->r.length=z/\C8 γ r b (o+i*z))->E7 γ rs z b o
 |[],z,b,o,h=>by rw[E7];trivial
 |x::rs,z,b,o,h=>by rw[E7];have h0:=h 0 x rfl;refine⟨h0.1,by simpa using h0.2,E7.Hm λi r hi=>?_⟩;obtain⟨h1,h2⟩:=h (i+1) r (by simpa using hi);exact⟨h1,by rw[show o+z+i*z=o+(i+1)*z by rw[BI,D6];omega];exact h2⟩
def E7.length{γ:Gh}:∀{rs:List (List Aa)} {z b o:Nat},E7 γ rs z b o->rs.flatten.length=rs.length*z
 |[],z,b,o,h=>AH
 |x::rs,z,b,o,h=>by rw[E7] at h;simp[h.1,h.2.2.length,BI,PF]
def OH{b:Addr}{n cap:Nat}(hs:b.spot=none\/cap=0)(hc:n<=cap)(hn:0<n):b=⟨b.block,b.off,none⟩:=by
 rcases hs with hs|hs
 .cases b;simp_all
 .omega
def E7.values{γ:Gh}:∀{rs:List (List Aa)} {z b o:Nat},E7 γ rs z b o->∃us:List Value,Bl γ rs.flatten us/\us.length=rs.length*z/\∀(j:Nat) (u:Value),us[j]?=some u->γ.IF b (o+j)=some u
 |[],z,b,o,h=>⟨[],by simp[Bl],AH,AH⟩
 |x::rs,z,b,o,h=>by
  rw[E7] at h;obtain⟨us,h1,h2⟩:=h.2.1.values;obtain⟨vs,e,d,c⟩:=h.2.2.values;have hl:us.length=z:=by rw[h1.length,h.1]
  refine⟨us++vs,by simpa using h1.append e,by simp[hl,d,BI,PF],λj u hj=>?_⟩;rw[aKs] at hj;split at hj;.exact h2 j u hj
  .rename_i Eh;rw[<-c _ _ hj];congr 1
   omega
def I6(γ:Gh)(B:Nat)(w:World)(s:Nat)(c:Option Nat)(v:Value)(a:Aa):Prop:=
 (a= .slnil\/∃z,a= .Gl z)\/∃g n cap us e z AE,a= .sl z AE/\v= .slice (some ⟨g,0,none⟩) n cap/\γ.Bs g=some (.tail s c (n*z))/\B<=g/\
  w.heap[g]?=some (.cells us e (0,0))/\us.size=cap*z/\n<=cap/\cap<=maxLen/\0<z
def L2(γ:Gh)(β:Nat->Nat)(B:Nat)(w:World)(s:Nat):Ew->Value->Prop
 | .undef,_=>True
 | .skip,v=>v=undef
 | .val a,v=>BQ γ a v
 | .Px b,v=>v= .bool b
 | .Bs a,v=>BQ γ a v/\I6 γ B w s none v a
 | .box _ cs ow,v=>v= .pointer (some ⟨β s,0,none⟩)/\γ.Bs (β s)=some (.loc s)/\B<=β s/\
  ∃us e,w.heap[β s]?=some (.cells us e (0,0))/\Bl γ cs us.toList/\(∀u∈us.toList,u.oneCell'=true)/\
   ∀o∈ow,∃u a,us[o]?=some u/\cs[o]?=some a/\I6 γ B w s (some o) u a
 | .Fo s' o,v=>v= .pointer (some ⟨β s',o,none⟩)
structure FR(γ:Gh)(β:Nat->Nat)(B:Nat)(U:BU)(tmps:Array Value)(w:World):Prop where
 size:U.length=tmps.size
 IB:∀s,L2 γ β B w s (U.at s) (tmps.getD s undef)
def LH(γ:Gh):List (Aa×Aa)->List MapEntry->Prop
 |[],es=>es=[]
 |(k,v)::l,es=>∃e VW,es=e::VW/\BQ γ k e.key/\BQ γ v e.val/\LH γ l VW
def tg(γ:Gh)(l:List (Aa×Aa))(es:Array MapEntry)(clock:Nat):Prop:=
 LH γ l es.toList/\clock=es.size/\∀(i:Nat) (e:MapEntry),es[i]?=some e->e.born=i
def T9(fr:Nat×Nat)(n:Nat):Prop:=fr=(0,0)\/n<=fr.1
structure Hv(γ:Gh)(h:Ai)(w:World):Prop where
 IF:∀b o v,γ.IF b o=some v->w.cell? ⟨b,o,none⟩=some v/\v.oneCell'=true/\(γ.Bs b=none\/∃s c st,γ.Bs b=some (.tail s c st)/\o<st)
 MC:∀id x,h[id]?=some x->x≠ .CR->∃b,γ.mu id=some b/\γ.Bs b=some (.MC id)
 cells:∀id cs,h[id]?=some (.cells cs)->∀b,γ.mu id=some b->∃us e fr,w.heap[b]?=some (.cells us e fr)/\T9 fr us.size/\Bl γ cs (us.toList.take cs.length)/\∀u∈us.toList.take cs.length,u.oneCell'=true
 map:∀id es,h[id]?=some (.map es)->∀b,γ.mu id=some b->∃DB clock,w.heap[b]?=some (.map DB clock)/\tg γ es DB clock
 mu:∀id b,γ.mu id=some b->id<h.length
 Bs:∀b x,γ.Bs b=some x->b<w.heap.size
 sz:∀b n,γ.sz b=some n->(∃us e fr,w.heap[b]?=some (.cells us e fr)/\us.size=n)/\(γ.Bs b=none\/∃id,γ.Bs b=some (.MC id))
structure LI(γ0:Gh)(w0:World)(γ:Gh)(w:World):Prop where
 le:γ0.le γ
 size:w0.heap.size<=w.heap.size
 os:w.os=w0.os
 tape:w.tape=w0.tape
 output:w.output=w0.output
 OI:∀b,b<w0.heap.size->(∀id,γ0.Bs b≠some (.MC id))->w.heap[b]?=w0.heap[b]?/\γ.Bs b=γ0.Bs b
def LI.refl(γ:Gh)(w:World):LI γ w γ w:=⟨.refl _,Ag _,rfl,rfl,rfl,λ_ _ _=>⟨rfl,rfl⟩⟩
def LI.trans{γ0 d c:Gh}{w0 w1 e:World}(h:LI γ0 w0 d w1)(k:LI d w1 c e):LI γ0 w0 c e:=by refine⟨h.le.trans k.le,Br h.size k.size,k.os.trans h.os,k.tape.trans h.tape,k.output.trans h.output,λb hb hn=>?_⟩;.obtain⟨h1,h2⟩:=h.OI b hb hn;obtain⟨g,f⟩:=k.OI b (Jv hb h.size) (λid=>by rw[h2];exact hn id);exact⟨g.trans h1,f.trans h2⟩
structure jh(γ:Gh)(w:World)(γ':Gh)(w':World):Prop where
 le:γ.le γ'
 OI:∀b x,γ.Bs b=some x->x.td=false->γ'.Bs b=some x/\w'.heap[b]?=w.heap[b]?
def jh.aCH{γ γ':Gh}{h:Ai}{w w':World}(hi:Hv γ h w)(ha:LI γ w γ' w'):jh γ w γ' w':=by refine⟨ha.le,λb x hb hx=>?_⟩;obtain⟨h1,h2⟩:=ha.OI b (hi.Bs b x hb) (λid Im=>by rw[hb] at Im;cases Im;simp[K0.td] at hx);exact⟨h2.trans hb,h1⟩
def I6.kept{γ γ':Gh}{B:Nat}{w w':World}{s:Nat}{c:Option Nat}{v:Value}{a:Aa}(h:I6 γ B w s c v a)(k:jh γ w γ' w'):I6 γ' B w' s c v a:=by
 rcases h with h|⟨g,n,cap,us,e,z,AE,h1,h2,l,j,i,f⟩
 .exact .inl h
 .obtain⟨d,b⟩:=k.OI g _ l rfl;exact .inr ⟨g,n,cap,us,e,z,AE,h1,h2,d,j,by rw[b];exact i,f⟩
def L2.kept{γ γ':Gh}{β:Nat->Nat}{B:Nat}{w w':World}{s:Nat}{x:Ew}{v:Value}(h:L2 γ β B w s x v)(k:jh γ w γ' w'):L2 γ' β B w' s x v:=by
 cases x with
 |undef=>trivial
 |skip=>exact h
 |val a=>exact BQ.mono k.le a v h
 |Px b=>exact h
 |Bs a=>exact⟨BQ.mono k.le a v h.1,h.2.kept k⟩
 |box ver cs ow=>obtain⟨h1,h2,l,us,e,j,i,g,f⟩:=h;obtain⟨d,c⟩:=k.OI _ _ h2 rfl;exact⟨h1,d,l,us,e,by rw[c];exact j,Bl.mono k.le cs _ i,g,λo ho=>let⟨u,a,p,q,r⟩:=f o ho;⟨u,a,p,q,r.kept k⟩⟩
 |Fo s' o=>exact h
def FR.kept{γ γ':Gh}{β:Nat->Nat}{B:Nat}{U:BU}{tmps:Array Value}{w w':World}(h:FR γ β B U tmps w)(k:jh γ w γ' w'):FR γ' β B U tmps w':=
 ⟨h.size,λs=>(h.IB s).kept k⟩
end Go.Am
end
section
namespace Go.Am
def CU{w w':World}{b o:Nat}(h:w'.heap[b]?=w.heap[b]?):w'.cell? ⟨b,o,none⟩=w.cell? ⟨b,o,none⟩:=by simp[World.cell?,h]
def DS{w:World}{b o:Nat}{v:Value}(h:w.cell? ⟨b,o,none⟩=some v):b<w.heap.size:=by
 rcases AR b w.heap.size with h'|h'
 .exact h'
 .simp[World.cell?,Array.getElem?_eq_none h'] at h
def Hv.aCI{γ:Gh}{h:Ai}{w:World}(hi:Hv γ h w){b o:Nat}{v:Value}(hb:γ.IF b o=some v):b<w.heap.size:=DS (hi.IF b o v hb).1
def Hv.same{γ:Gh}{h:Ai}{w w':World}(hi:Hv γ h w)(c:w'.heap=w.heap):Hv γ h w':=by
 refine⟨λb o v hb=>?_,hi.MC,λid cs hc b hb=>?_,λid es hc b hb=>?_,hi.mu,λb x hx=>?_,λb n hb=>by rw[c];exact hi.sz b n hb⟩;.obtain⟨h1,h2,d⟩:=hi.IF b o v hb;have e:=CU (w:=w) (w':=w') (b:=b) (o:=o) (by rw[c]);exact⟨e.trans h1,h2,d⟩
 .rw[c];exact hi.cells id cs hc b hb
 .rw[c];exact hi.map id es hc b hb
 .rw[c];exact hi.Bs b x hx
def LI.same{γ:Gh}{w w':World}(b:w'.heap=w.heap)(h1:w'.os=w.os)(h2:w'.tape=w.tape)(c:w'.output=w.output):LI γ w γ w':=
 ⟨.refl _,by rw[b];exact Ag _,h1,h2,c,λ_ _ _=>⟨by rw[b],rfl⟩⟩
def LI.drew(γ:Gh)(w:World):LI γ w γ w.drew:=LI.same rfl rfl rfl rfl
def Gh.Dy(γ:Gh)(b:Nat)(us:Array Value)(k:Nat)(x:Option K0):Gh:=
 {IF:=λb' o=>if b'=b then(if o<k then us[o]? else none) else γ.IF b' o,mu:=γ.mu,Bs:=λb'=>if b'=b then x else γ.Bs b',sz:=γ.sz}
def Gh.B2(γ:Gh)(b id:Nat)(n:Option Nat):Gh:=
 {IF:=γ.IF,mu:=λi=>if i=id then some b else γ.mu i,Bs:=λb'=>if b'=b then some (.MC id) else γ.Bs b',sz:=λb'=>if b'=b then n else γ.sz b'}
section
variable{γ:Gh}{h:Ai}{w:World}
def EN(w:World)(o:Obj){b:Nat}(hb:b<w.heap.size):(w.alloc o).heap[b]?=w.heap[b]?:=heap_alloc_old w o b hb
def PT(hi:Hv γ h w)(us:Array Value)(e:TypeId)(fr:Nat×Nat)(k:Nat)(x:Option K0)(h1:∀o u,o<k->us[o]?=some u->u.oneCell'=true)
  (hx:x=none\/(∃s c,x=some (.tail s c k))\/(k=0/\∀id,x≠some (.MC id))):
  Hv (γ.Dy w.heap.size us k x) h (w.alloc (.cells us e fr))/\LI γ w (γ.Dy w.heap.size us k x) (w.alloc (.cells us e fr)):=by
 have FJ:γ.Bs w.heap.size=none:=by
  cases hc:γ.Bs w.heap.size with
  |none=>rfl
  |some y=>exact absurd (hi.Bs _ y hc) (Dm _)
 have th:∀o,γ.IF w.heap.size o=none:=λo=>by
  cases hc:γ.IF w.heap.size o with
  |none=>rfl
  |some y=>exact absurd (hi.aCI hc) (Dm _)
 have Er:γ.le (γ.Dy w.heap.size us k x):=⟨λb' o' v' DH=>by
  have:b'≠w.heap.size:=λhe=>by rw[he,th] at DH;cases DH
  simp only[Gh.Dy,Ad this];exact DH,λ_ _ hm=>hm,λ_ _ hm=>hm⟩
 constructor
 .refine⟨λb o v hb=>?_,λid y Im hy=>?_,λid cs hc b hb=>?_,λid es hc b hb=>?_,hi.mu,λb y hy=>?_,λb n hb=>?_⟩;rotate_left 5;.obtain⟨⟨DQ,d,ji,p,q⟩,r⟩:=hi.sz b n hb;have OJ:b≠w.heap.size:=PG (by rw[A8] at p;exact p.1);exact⟨⟨DQ,d,ji,by rw[EN _ _ (by rw[A8] at p;exact p.1)];exact p,q⟩,by simp only[Gh.Dy,Ad OJ];exact r⟩
  .by_cases OJ:b=w.heap.size
   .subst OJ;simp only[Gh.Dy,BJ] at hb⊢;split at hb
    .rename_i hlt;refine⟨by rw[cell_of_row _ _ _ us e fr (heap_alloc_new w _)];exact hb,h1 o v hlt hb,?_⟩;rcases hx with hx|⟨s,c,hx⟩|⟨hx,_⟩
     .exact .inl hx
     .exact .inr ⟨s,c,k,hx,hlt⟩
     .omega
    .cases hb
   .simp only[Gh.Dy,Ad OJ] at hb⊢;obtain⟨p,q,r⟩:=hi.IF b o v hb;exact⟨by rw[CU (EN w _ (DS p))];exact p,q,r⟩
  .obtain⟨b,p,q⟩:=hi.MC id y Im hy;refine⟨b,p,?_⟩;have:b≠w.heap.size:=λhe=>by rw[he,FJ] at q;cases q
   simp only[Gh.Dy,Ad this];exact q
  .obtain⟨DQ,d,ji,p,pf,q,r⟩:=hi.cells id cs hc b hb;exact⟨DQ,d,ji,by rw[EN _ _ (by rw[A8] at p;exact p.1)];exact p,pf,Bl.mono Er cs _ q,r⟩
  .obtain⟨DB,clock,p,q⟩:=hi.map id es hc b hb;refine⟨DB,clock,by rw[EN _ _ (by rw[A8] at p;exact p.1)];exact p,?_,q.2⟩;replace q:=q.1;clear hc p;revert q;generalize DB.toList=l;intro q;induction es generalizing l with
   |nil=>exact q
   |cons kv es ih=>obtain⟨kk,f⟩:=kv;obtain⟨en,VW,hl,a1,a2,a3⟩:=q;exact⟨en,VW,hl,BQ.mono Er _ _ a1,BQ.mono Er _ _ a2,ih VW a3⟩
  .by_cases OJ:b=w.heap.size;.subst OJ;simp
   .simp only[Gh.Dy,Ad OJ] at hy;have:=hi.Bs b y hy;simp;omega
 .refine⟨Er,AH,rfl,rfl,rfl,λb hb _=>⟨EN _ _ hb,?_⟩⟩;simp only[Gh.Dy,Ad (PG hb)]
def LH.mono{γ γ':Gh}(Er:γ.le γ'):∀{es:List (Aa×Aa)} {l:List MapEntry},LH γ es l->LH γ' es l
 |[],l,q=>q
 |(kk,b)::es,l,q=>by obtain⟨en,VW,hl,a1,a2,a3⟩:=q;exact⟨en,VW,hl,BQ.mono Er _ _ a1,BQ.mono Er _ _ a2,a3.mono Er⟩
def tg.mono{γ γ':Gh}(Er:γ.le γ'){es:List (Aa×Aa)}{l:Array MapEntry}{c:Nat}(h:tg γ es l c):tg γ' es l c:=⟨h.1.mono Er,h.2⟩
def GX(hi:Hv γ h w)(o:Obj)(x:Dx)(m:Option Nat)
  (hx:(∃cs us e fr,x= .cells cs/\o= .cells us e fr/\T9 fr us.size/\Bl γ cs (us.toList.take cs.length)/\(∀u∈us.toList.take cs.length,u.oneCell'=true)/\m=some us.size)\/(x= .map []/\o= .map #[] 0/\m=none)):
  Hv (γ.B2 w.heap.size h.length m) (h++[x]) (w.alloc o)/\LI γ w (γ.B2 w.heap.size h.length m) (w.alloc o):=by
 have FJ:γ.Bs w.heap.size=none:=by
  cases hc:γ.Bs w.heap.size with
  |none=>rfl
  |some y=>exact absurd (hi.Bs _ y hc) (Dm _)
 have c:γ.mu h.length=none:=by
  cases hc:γ.mu h.length with
  |none=>rfl
  |some y=>exact absurd (hi.mu _ y hc) (Dm _)
 have Ls:γ.sz w.heap.size=none:=by
  cases hc:γ.sz w.heap.size with
  |none=>rfl
  |some y=>obtain⟨⟨_,_,_,p,_⟩,_⟩:=hi.sz _ y hc;rw[A8] at p;exact absurd p.1 (Dm _)
 have Er:γ.le (γ.B2 w.heap.size h.length m):=⟨λ_ _ _ hv=>hv,λid b hm=>by
  have:id≠h.length:=λhe=>by rw[he,c] at hm;cases hm
  simp only[Gh.B2,Ad this];exact hm,λb n hm=>by
  have:b≠w.heap.size:=λhe=>by rw[he,Ls] at hm;cases hm
  simp only[Gh.B2,Ad this];exact hm⟩
 constructor
 .refine⟨λb o' v hb=>?_,λid y Im hy=>?_,λid cs hc b hb=>?_,λid es hc b hb=>?_,λid b hb=>?_,λb y hy=>?_,λb n hb=>?_⟩;rotate_left 6
  .by_cases OJ:b=w.heap.size
   .subst OJ;simp only[Gh.B2,BJ] at hb;rcases hx with⟨Hi,us,e,fr,rfl,rfl,pf,p,q,rfl⟩|⟨rfl,rfl,rfl⟩
    .cases hb;exact⟨⟨us,e,fr,heap_alloc_new w _,rfl⟩,.inr ⟨h.length,by simp[Gh.B2]⟩⟩
    .cases hb
   .simp only[Gh.B2,Ad OJ] at hb⊢;obtain⟨⟨DQ,d,ji,p,q⟩,r⟩:=hi.sz b n hb;exact⟨⟨DQ,d,ji,by rw[EN _ _ (by rw[A8] at p;exact p.1)];exact p,q⟩,r⟩
  .obtain⟨p,q,r⟩:=hi.IF b o' v hb;have OJ:b≠w.heap.size:=PG (DS p);exact⟨by rw[World.cell?_alloc_old _ _ _ OJ];exact p,q,by simp only[Gh.B2,Ad OJ];exact r⟩
  .by_cases he:id=h.length;.exact⟨w.heap.size,by simp[Gh.B2,he],by simp[Gh.B2,he]⟩
   .have XI:id<h.length:=by rw[An] at Im;obtain⟨hl,_⟩:=Im;simp at hl;omega
    rw[Ak XI] at Im;obtain⟨b,p,q⟩:=hi.MC id y Im hy;have OJ:b≠w.heap.size:=λhe=>by rw[he,FJ] at q;cases q
    exact⟨b,by simp only[Gh.B2,Ad he];exact p,by simp only[Gh.B2,Ad OJ];exact q⟩
  .by_cases he:id=h.length
   .subst he;simp[Gh.B2] at hb;subst hb;simp at hc;rcases hx with⟨Hi,us,e,fr,rfl,rfl,pf,p,q,rfl⟩|⟨rfl,rfl,rfl⟩
    .cases hc;exact⟨us,e,fr,heap_alloc_new w _,pf,Bl.mono Er _ _ p,q⟩
    .cases hc
   .simp only[Gh.B2,Ad he] at hb;have XI:=hi.mu id b hb;rw[Ak XI] at hc;obtain⟨DQ,d,ji,p,pf,q,r⟩:=hi.cells id cs hc b hb;exact⟨DQ,d,ji,by rw[EN _ _ (by rw[A8] at p;exact p.1)];exact p,pf,Bl.mono Er _ _ q,r⟩
  .by_cases he:id=h.length
   .subst he;simp[Gh.B2] at hb;subst hb;simp at hc;rcases hx with⟨Hi,us,e,fr,rfl,rfl,pf,p,q,rfl⟩|⟨rfl,rfl,rfl⟩
    .cases hc
    .cases hc;exact⟨#[],0,heap_alloc_new w _,rfl,rfl,AH⟩
   .simp only[Gh.B2,Ad he] at hb;have XI:=hi.mu id b hb;rw[Ak XI] at hc;obtain⟨DB,clock,p,q⟩:=hi.map id es hc b hb;exact⟨DB,clock,by rw[EN _ _ (by rw[A8] at p;exact p.1)];exact p,q.mono Er⟩
  .by_cases he:id=h.length;.simp[he]
   .simp only[Gh.B2,Ad he] at hb;have:=hi.mu id b hb;simp;omega
  .by_cases OJ:b=w.heap.size;.subst OJ;simp
   .simp only[Gh.B2,Ad OJ] at hy;have:=hi.Bs b y hy;simp;omega
 .refine⟨Er,AH,rfl,rfl,rfl,λb hb _=>⟨EN _ _ hb,?_⟩⟩;simp only[Gh.B2,Ad (PG hb)]
def jj(hi:Hv γ h w){g s:Nat}(hg:γ.Bs g=some (.loc s))(us:Array Value):Hv γ h (w.setRow g us):=by
 refine⟨λb o v hb=>?_,hi.MC,λid cs hc b hb=>?_,λid es hc b hb=>?_,hi.mu,λb x hx=>?_,λb n hb=>?_⟩;rotate_left 4
 .obtain⟨p,r⟩:=hi.sz b n hb;have:b≠g:=λhe=>by subst he;rw[hg] at r;rcases r with r|⟨_,r⟩<;>cases r
  exact⟨by rw[setRow_other w g b us this];exact p,r⟩
 .obtain⟨p,q,r⟩:=hi.IF b o v hb;have:b≠g:=λhe=>by subst he;rw[hg] at r;rcases r with r|⟨_,_,_,r,_⟩<;>cases r
  exact⟨by rw[CU (setRow_other w g b us this)];exact p,q,r⟩
 .have RP:b≠g:=λhe=>by subst he;obtain⟨b',p,q⟩:=hi.MC id _ hc AH;rw[hb] at p;cases p;rw[hg] at q;cases q
  rw[setRow_other w g b us RP];exact hi.cells id cs hc b hb
 .have RP:b≠g:=λhe=>by subst he;obtain⟨b',p,q⟩:=hi.MC id _ hc AH;rw[hb] at p;cases p;rw[hg] at q;cases q
  rw[setRow_other w g b us RP];exact hi.map id es hc b hb
 .have:=hi.Bs b x hx;simpa[World.setRow] using this
def NY(hi:Hv γ h w){g id:Nat}{cs:List Aa}(hcs:h[id]?=some (.cells cs))(hg:γ.mu id=some g){us:Array Value}{e:TypeId}{fr:Nat×Nat}(hw:w.heap[g]?=some (.cells us e fr))(DQ:Array Value)(Hi:List Aa)(aZ:DQ.size=us.size)(zA:T9 fr DQ.size)
  (hr:Bl γ Hi (DQ.toList.take Hi.length)) (h1:∀u∈DQ.toList.take Hi.length,u.oneCell'=true):
  Hv γ (h.set id (.cells Hi)) (w.setRow g DQ)/\LI γ w γ (w.setRow g DQ):=by
 obtain⟨f,p,TX⟩:=hi.MC id _ hcs AH;rw[hg] at p;cases p;have uniq:∀FW x,h[FW]?=some x->x≠ .CR->γ.mu FW=some g->FW=id:=λFW x hx c hm=>by obtain⟨b',p,q⟩:=hi.MC FW x hx c;rw[hm] at p;cases p;rw[TX] at q;cases q;rfl
 constructor
 .refine⟨λb o v hb=>?_,λFW y Im hy=>?_,λFW cs hc b hb=>?_,λFW es hc b hb=>?_,λFW b hb=>by simpa using hi.mu FW b hb,λb x hx=>?_,λb n hb=>?_⟩;rotate_left 5
  .obtain⟨⟨tC,d,tj,p,q⟩,r⟩:=hi.sz b n hb;by_cases he:b=g;.subst he;rw[hw] at p;cases p;exact⟨⟨DQ,e,fr,setRow_heap w b us DQ e fr hw,by rw[aZ];exact q⟩,r⟩
   .exact⟨⟨tC,d,tj,by rw[setRow_other w g b DQ he];exact p,q⟩,r⟩
  .obtain⟨p,q,r⟩:=hi.IF b o v hb;have:b≠g:=λhe=>by subst he;rw[TX] at r;rcases r with r|⟨_,_,_,r,_⟩<;>cases r
   exact⟨by rw[CU (setRow_other w g b DQ this)];exact p,q,r⟩
  .by_cases he:FW=id;.subst he;exact⟨g,hg,TX⟩
   .rw[As (λx=>he x.symm)] at Im;exact hi.MC FW y Im hy
  .by_cases he:FW=id;.subst he;rw[hg] at hb;cases hb;rw[AO (hi.mu _ _ hg)] at hc;cases hc;exact⟨DQ,e,fr,setRow_heap w g us DQ e fr hw,zA,hr,h1⟩
   .rw[As (λx=>he x.symm)] at hc;have RP:b≠g:=λhx=>by subst hx;exact he (uniq FW _ hc AH hb)
    rw[setRow_other w g b DQ RP];exact hi.cells FW cs hc b hb
  .by_cases he:FW=id;.subst he;rw[AO (hi.mu _ _ hg)] at hc;cases hc
   .rw[As (λx=>he x.symm)] at hc;have RP:b≠g:=λhx=>by subst hx;exact he (uniq FW _ hc AH hb)
    rw[setRow_other w g b DQ RP];exact hi.map FW es hc b hb
  .have:=hi.Bs b x hx;simpa[World.setRow] using this
 .refine⟨.refl _,by simp[World.setRow],rfl,rfl,rfl,λb hb hn=>⟨?_,rfl⟩⟩;exact setRow_other w g b DQ (λhe=>by subst he;exact hn id TX)
def tD(hi:Hv γ h w){g s st:Nat}{c:Option Nat}(hg:γ.Bs g=some (.tail s c st)){us:Array Value}{e:TypeId}(hw:w.heap[g]?=some (.cells us e (0,0)))(DQ:Array Value)(k:Nat)(s':Nat)(c':Option Nat)
  (NZ:∀o,o<st->DQ[o]?=us[o]?) (hk:st<=k) (h1:∀o u,o<k->DQ[o]?=some u->u.oneCell'=true) (eE:∀o v,γ.IF g o=some v->us[o]?=some v):
  Hv (γ.Dy g DQ k (some (.tail s' c' k))) h (w.setRow g DQ)/\γ.le (γ.Dy g DQ k (some (.tail s' c' k))):=by
 have hlt:∀o v,γ.IF g o=some v->o<st:=λo v ho=>by
  obtain⟨_,_,r⟩:=hi.IF g o v ho;rw[hg] at r;rcases r with r|⟨_,_,_,r,hl⟩
  .cases r
  .cases r;exact hl
 have Er:γ.le (γ.Dy g DQ k (some (.tail s' c' k))):=⟨λb o v hb=>by
  by_cases he:b=g;.subst he;have:=hlt o v hb;simp only[Gh.Dy,BJ,Af (Jv this hk)];rw[NZ o this];exact eE o v hb
  .simp only[Gh.Dy,Ad he];exact hb,λ_ _ hm=>hm,λ_ _ hm=>hm⟩
 refine⟨⟨λb o v hb=>?_,λid y Im hy=>?_,λid cs hc b hb=>?_,λid es hc b hb=>?_,hi.mu,λb x hx=>?_,λb n hb=>?_⟩,Er⟩;rotate_left 5
 .obtain⟨p,r⟩:=hi.sz b n hb;have:b≠g:=λhe=>by subst he;rw[hg] at r;rcases r with r|⟨_,r⟩<;>cases r
  exact⟨by rw[setRow_other w g b DQ this];exact p,by simp only[Gh.Dy,Ad this];exact r⟩
 .by_cases he:b=g
  .subst he;simp only[Gh.Dy,BJ] at hb⊢;split at hb
   .rename_i hl;exact⟨by rw[cell_of_row _ _ _ DQ e (0,0) (setRow_heap w b us DQ e (0,0) hw)];exact hb,
     h1 o v hl hb,.inr ⟨s',c',k,rfl,hl⟩⟩
   .cases hb
  .simp only[Gh.Dy,Ad he] at hb⊢;obtain⟨p,q,r⟩:=hi.IF b o v hb;exact⟨by rw[CU (setRow_other w g b DQ he)];exact p,q,r⟩
 .obtain⟨b,p,q⟩:=hi.MC id y Im hy;have:b≠g:=λhe=>by subst he;rw[hg] at q;cases q
  exact⟨b,p,by simp only[Gh.Dy,Ad this];exact q⟩
 .replace hb:γ.mu id=some b:=hb;obtain⟨b',p,q⟩:=hi.MC id _ hc AH;rw[hb] at p;cases p;have:b≠g:=λhe=>by subst he;rw[hg] at q;cases q
  rw[setRow_other w g b DQ this];obtain⟨tC,j,tj,i,f,d,r2⟩:=hi.cells id cs hc b hb;exact⟨tC,j,tj,i,f,Bl.mono Er _ _ d,r2⟩
 .replace hb:γ.mu id=some b:=hb;obtain⟨b',p,q⟩:=hi.MC id _ hc AH;rw[hb] at p;cases p;have:b≠g:=λhe=>by subst he;rw[hg] at q;cases q
  rw[setRow_other w g b DQ this];obtain⟨DB,clock,i,d⟩:=hi.map id es hc b hb;exact⟨DB,clock,i,d.mono Er⟩
 .by_cases he:b=g;.subst he;have:=hi.Bs b _ hg;simpa[World.setRow] using this
  .simp only[Gh.Dy,Ad he] at hx;have:=hi.Bs b x hx;simpa[World.setRow] using this
def LI.write{γ0 c:Gh}{w0:World}(ha:LI γ0 w0 γ w){w1:World}{g:Nat}(hg:w0.heap.size<=g)(Er:γ.le c)(hs:w1.heap.size=w.heap.size)(h1:w1.os=w.os)(h2:w1.tape=w.tape)(e:w1.output=w.output)
  (hk:∀b,b≠g->w1.heap[b]?=w.heap[b]?/\c.Bs b=γ.Bs b):LI γ0 w0 c w1:=by
 refine⟨ha.le.trans Er,by rw[hs];exact ha.size,h1.trans ha.os,h2.trans ha.tape,e.trans ha.output,λb hb hn=>?_⟩;.obtain⟨p,q⟩:=ha.OI b hb hn;obtain⟨p',d⟩:=hk b Ac;exact⟨p'.trans p,d.trans q⟩
def tk(hi:Hv γ h w){g id:Nat}{cs:List Aa}(hcs:h[id]?=some (.cells cs))(hg:γ.mu id=some g){us:Array Value}{e:TypeId}{fr:Nat×Nat}(hw:w.heap[g]?=some (.cells us e fr))(h1:∀u∈us.toList.take cs.length,u.oneCell'=true):
  Hv (γ.Dy g us cs.length none) (h.set id .CR) w/\LI γ w (γ.Dy g us cs.length none) w:=by
 obtain⟨f,p,TX⟩:=hi.MC id _ hcs AH;rw[hg] at p;cases p;have uniq:∀FW x,h[FW]?=some x->x≠ .CR->γ.mu FW=some g->FW=id:=λFW x hx c hm=>by obtain⟨b',p,q⟩:=hi.MC FW x hx c;rw[hm] at p;cases p;rw[TX] at q;cases q;rfl
 have hne:∀o v,γ.IF g o=some v->False:=λo v hv=>by obtain⟨_,_,r⟩:=hi.IF g o v hv;rw[TX] at r;rcases r with r|⟨_,_,_,r,_⟩<;>cases r
 have Er:γ.le (γ.Dy g us cs.length none):=⟨λb o v hb=>by
  have:b≠g:=λhe=>by subst he;exact hne o v hb
  simp only[Gh.Dy,Ad this];exact hb,λ_ _ hm=>hm,λ_ _ hm=>hm⟩
 constructor
 .refine⟨λb o v hb=>?_,λFW y Im hy=>?_,λFW Hi hc b hb=>?_,λFW es hc b hb=>?_,λFW b hb=>by simpa using hi.mu FW b hb,λb x hx=>?_,λb n hb=>?_⟩;rotate_left 5
  .obtain⟨p,r⟩:=hi.sz b n hb;by_cases he:b=g;.subst he;exact⟨p,.inl (by simp[Gh.Dy])⟩
   .exact⟨p,by simp only[Gh.Dy,Ad he];exact r⟩
  .by_cases he:b=g
   .subst he;simp only[Gh.Dy,BJ] at hb⊢;split at hb;.rename_i hlt;exact⟨by rw[cell_of_row _ _ _ us e fr hw];exact hb,h1 v (CC (i:=o) (by rw[C3 hlt];simpa using hb)),.inl AH⟩
    .cases hb
   .simp only[Gh.Dy,Ad he] at hb⊢;exact hi.IF b o v hb
  .by_cases he:FW=id;.subst he;rw[AO (hi.mu _ _ hg)] at Im;cases Im;exact absurd rfl hy
   .rw[As (λx=>he x.symm)] at Im;obtain⟨b,p,q⟩:=hi.MC FW y Im hy;have:b≠g:=λhx=>by subst hx;exact he (uniq FW y Im hy p)
    exact⟨b,p,by simp only[Gh.Dy,Ad this];exact q⟩
  .by_cases he:FW=id;.subst he;rw[AO (hi.mu _ _ hg)] at hc;cases hc
   .rw[As (λx=>he x.symm)] at hc;obtain⟨DQ,d,ji,p,pf,q,r⟩:=hi.cells FW Hi hc b hb;exact⟨DQ,d,ji,p,pf,Bl.mono Er _ _ q,r⟩
  .by_cases he:FW=id;.subst he;rw[AO (hi.mu _ _ hg)] at hc;cases hc
   .rw[As (λx=>he x.symm)] at hc;obtain⟨DQ,d,p,q⟩:=hi.map FW es hc b hb;exact⟨DQ,d,p,q.mono Er⟩
  .by_cases he:b=g;.subst he;exact hi.Bs b _ TX
   .simp only[Gh.Dy,Ad he] at hx;exact hi.Bs b x hx
 .refine⟨Er,Ag _,rfl,rfl,rfl,λb hb hn=>⟨rfl,?_⟩⟩;have:b≠g:=λhe=>by subst he;exact hn id TX
  simp only[Gh.Dy,Ad this]
end
end Go.Am
end
section
namespace Go.Am
def EP.N0(C:Gb)(run:IT->Ai->Option Km)(U:BU)(h:Ai)(e:BU)(h':Ai):EP->Prop
 | .pure ws=>e=U.En ws/\h'=h
 | .op p args dst Bs i=>∃v,AD p args=some v/\e=(U.DR i).put dst (if Bs then .Bs v else .val v)/\h'=h
 | .box n v d=>v.cells.length=n/\e=U.set d (.box 0 v.cells [])/\h'=h
 | .closure fn a b fz d=>e=(U.En (fz.map λ(s,cs)=>(s,.val (.CI cs)))).set d (.val (.func fn a b))/\h'=h
 | .Nz s off n v Bs i ver cells owned=>v.cells.length=n/\e=(U.DR i).set s (.box (ver+1) (XC cells off n v.cells) (SK owned off n Bs))/\h'=h
 | .load n p dst=>∃v,A7 h n p=some v/\e=U.put dst (.val v)/\h'=h
 | .store n p v=>Cv h n p v=some h'/\e=U
 | .alloc n v dst=>v.cells.length=n/\h'=h++[.cells v.cells]/\e=U.put dst (.val (.ptr (some (h.length,0))))
 | .call f args dst=>∃r,run (Ca C f args) h=some (.ret,[r],h')/\e=U.put dst (if C.Jq f then .Bs r else .val r)
 | .Ji g args dst=>∃f args' r,Dh g args=some (f,args')/\run (Ca C f args') h=some (.ret,[r],h')/\e=U.put dst (.val r)
 | .B6 f args dst=>args.all Aa.M9=true/\∃r h1,run (Ca C f args) []=some (.ret,[r],h1)/\r.M9=true/\e=U.put dst (.val r)/\h'=h
 | .PK dst=>h'=h++[.map []]/\e=U.put dst (.val (.map (some h.length)))
 | .KS m k v=>Rg h m k v=some h'/\e=U
 | .make z b zero l c dst=>∃v,SH h z b zero l c=some (h',v)/\e=U.put dst (.val v)
 | .LD z b s x dst i=>∃v,K8 h z b s x=some (h',v)/\e=(U.DR i).put dst (.val v)
 | .JT z b s x dst=>∃v,Gj h z b s x=some (h',v)/\e=U.put dst (.val v)
 | .GJ z b s x dst i=>∃v,Rh h z b s x=some v/\e=(U.DR i).put dst (.Bs v)/\h'=h
 | .Fg s dst=>∃v,I4 h s=some (h',v)/\e=U.put dst (.val v)
 | .Xr s dst=>∃v u,KT h s=some (h',v)/\AD .Xr [v]=some u/\e=U.put dst (.val u)
 | .mem o args dst=>∃v,Ep o h args=some (h',v)/\e=U.put dst (if o.aGa then .undef else .val v)
 | .My z ok m k dst=>∃v,PM h z ok m k=some v/\e=U.put dst (.val v)/\h'=h
def Ua{n:Nat}{cs:List Aa}(h:cs.length=n):XB n cs=cs:=by
 subst h;apply RH;intro i;simp only[XB,Cn,List.getD];by_cases hi:i<cs.length;.simp[List.getElem?_range hi,Ap hi]
 .simp[hi]
def bA{C:Gb}{run:IT->Ai->Option Km}{U:BU}{K:BU->IT}{h:Ai}{R:Km}{r:EP}
  (hr:IT.step (Ca C) run (r.MB C U K) h=some R):∃i h',r.N0 C run U h i h'/\IT.step (Ca C) run (K i) h'=some R:=by
 cases r with
 |pure ws=>exact⟨_,_,⟨rfl,rfl⟩,hr⟩
 |op p args dst Bs e=>
  simp only[EP.MB,IT.step] at hr;split at hr;.rename_i v hv;exact⟨_,_,⟨v,hv,rfl,rfl⟩,hr⟩
  .cases hr
 |box n v d=>
  simp only[EP.MB,IT.step] at hr;split at hr;.rename_i hn;rw[Ua hn] at hr;exact⟨_,_,⟨hn,rfl,rfl⟩,hr⟩
  .cases hr
 |closure fn a b fz d=>exact⟨_,_,⟨rfl,rfl⟩,hr⟩
 |Nz s off n v Bs e ver cells owned=>
  simp only[EP.MB,IT.step] at hr;split at hr;.rename_i hn;rw[Ua hn] at hr;exact⟨_,_,⟨hn,rfl,rfl⟩,hr⟩
  .cases hr
 |load n p dst=>
  simp only[EP.MB,IT.step] at hr;split at hr;.rename_i v hv;exact⟨_,_,⟨v,hv,rfl,rfl⟩,hr⟩
  .cases hr
 |store n p v=>
  simp only[EP.MB,IT.step] at hr;split at hr;.rename_i h1 hv;exact⟨_,_,⟨hv,rfl⟩,hr⟩
  .cases hr
 |alloc n v dst=>
  simp only[EP.MB,IT.step,Xu] at hr;by_cases hn:v.cells.length=n;.rw[Af hn] at hr;exact⟨_,_,⟨hn,rfl,rfl⟩,hr⟩
  .rw[Ad hn] at hr;cases hr
 |call f args dst=>
  simp only[EP.MB,IT.step] at hr;split at hr;.rename_i r h1 hv;exact⟨_,_,⟨r,hv,rfl⟩,hr⟩
  .cases hr
 |Ji g args dst=>
  simp only[EP.MB,IT.step] at hr;split at hr
  .rename_i f a' ht;split at hr;.rename_i r h1 hv;exact⟨_,_,⟨f,a',r,ht,hv,rfl⟩,hr⟩
   .cases hr
  .cases hr
 |B6 f args dst=>
  simp only[EP.MB,IT.step] at hr;split at hr
  .rename_i Hu;split at hr
   .rename_i r h1 hv;split at hr;.rename_i qg;exact⟨_,_,⟨Hu,r,h1,hv,qg,rfl,rfl⟩,hr⟩
    .cases hr
   .cases hr
  .cases hr
 |PK dst=>exact⟨_,_,⟨rfl,rfl⟩,hr⟩
 |KS m k v=>
  simp only[EP.MB,IT.step] at hr;split at hr;.rename_i h1 hv;exact⟨_,_,⟨hv,rfl⟩,hr⟩
  .cases hr
 |My z ok m k dst=>
  simp only[EP.MB,IT.step] at hr;split at hr;.rename_i v hv;exact⟨_,_,⟨v,hv,rfl,rfl⟩,hr⟩
  .cases hr
 |make z b zero l c dst=>
  simp only[EP.MB,IT.step] at hr;split at hr;.rename_i h1 v hv;exact⟨_,_,⟨v,hv,rfl⟩,hr⟩
  .cases hr
 |LD z b s x dst e=>
  simp only[EP.MB,IT.step] at hr;split at hr;.rename_i h1 v hv;exact⟨_,_,⟨v,hv,rfl⟩,hr⟩
  .cases hr
 |JT z b s x dst=>
  simp only[EP.MB,IT.step] at hr;split at hr;.rename_i h1 v hv;exact⟨_,_,⟨v,hv,rfl⟩,hr⟩
  .cases hr
 |GJ z b s x dst e=>
  simp only[EP.MB,IT.step] at hr;split at hr;.rename_i v hv;exact⟨_,_,⟨v,hv,rfl,rfl⟩,hr⟩
  .cases hr
 |Fg s dst=>
  simp only[EP.MB,IT.step] at hr;split at hr;.rename_i h1 v hv;exact⟨_,_,⟨v,hv,rfl⟩,hr⟩
  .cases hr
 |Xr s dst=>
  simp only[EP.MB,IT.step] at hr;split at hr
  .rename_i h1 v hv;split at hr;.rename_i u hu;exact⟨_,_,⟨v,u,hv,hu,rfl⟩,hr⟩
   .cases hr
  .cases hr
 |mem o args dst=>
  simp only[EP.MB,IT.step] at hr;split at hr;.rename_i h1 v hv;exact⟨_,_,⟨v,hv,rfl⟩,hr⟩
  .cases hr
structure Df(C:Gb)(γ0:Gh)(w0:World)(γ:Gh)(β:Nat->Nat)(U:BU)(h:Ai)(a:Act)(w:World):Prop where
 D5:Hv γ h w
 fr:FR γ β w0.heap.size U a.tmps w
 DZ:LI γ0 w0 γ w
 defers:a.defers=[]
 Hk:∀g cs,C.Hk g=some cs->C8 γ cs g 0
def SP{γ:Gh}{v:Value}{a:Aa}(h:PJ v=some a):BQ γ a v/\v.oneCell'=true:=by
 unfold PJ at h;split at h;case h_7=>
  rename_i fn f c;split at h;.rename_i hs;cases h;have d:f=#[]:=Gf hs.1;have b:c=#[]:=Gf hs.2;subst d;subst b;exact⟨⟨#[],#[],rfl,rfl,rfl⟩,rfl⟩
  .cases h
 all_goals first
  |(cases h;exact⟨rfl,rfl⟩)
  |cases h
def NB{γ:Gh}:∀{vs:List Value} {as:List Aa},Mr vs=some as->Bl γ as vs/\∀v∈vs,v.oneCell'=true
 |[],as,h=>by cases h;exact⟨rfl,AH⟩
 |v::vs,as,h=>by
  unfold Mr at h;split at h;.rename_i a c h1 h2;cases h;obtain⟨p,q⟩:=SP (γ:=γ) h1;obtain⟨p',b⟩:=NB (γ:=γ) h2;exact⟨⟨v,vs,rfl,p,p'⟩,λx hx=>(AS.1 hx).elim (λe=>by rw[e];exact q) (b x)⟩
  .cases h
def Fv{γ:Gh}{v:Value}{a:Aa}(h:Lr v=some a):BQ γ a v:=by
 unfold Lr at h;split at h
 .rename_i cs;cases hs:Mr cs.toList with
  |none=>rw[hs] at h;cases h
  |some as=>rw[hs] at h;cases h;obtain⟨p,q⟩:=NB (γ:=γ) hs;exact⟨cs,rfl,p,q⟩
 .exact(SP h).1
section
variable{C:Gb}{γ0 γ:Gh}{w0 w:World}{β:Nat->Nat}{U:BU}{h:Ai}{a:Act}
def RQ(hr:Df C γ0 w0 γ β U h a w){x:Operand}{sl:Ew}(hx:Ef C U x=some sl)(hn:∀s,x≠ .tmp s):∃s,L2 γ β w0.heap.size w s sl (a.eval x):=by
 unfold Ef at hx;split at hx;.exact absurd rfl (hn _)
 .cases hx;exact⟨0,rfl⟩
 .cases hx;exact⟨0,rfl,.inl (.inl rfl)⟩
 .rename_i v _ _;cases hc:Lr v with
  |none=>rw[hc] at hx;cases hx
  |some u=>rw[hc] at hx;cases hx;exact⟨0,Fv hc⟩
 .rename_i g;cases hc:C.Hk g with
  |none=>rw[hc] at hx;cases hx
  |some cs=>rw[hc] at hx;cases hx;exact⟨0,g,0,rfl,hr.Hk g cs hc⟩
 .cases hx;exact⟨0,#[],#[],rfl,rfl,rfl⟩
def SQ(hr:Df C γ0 w0 γ β U h a w)(s:Nat):L2 γ β w0.heap.size w s (U.at s) (a.eval (.tmp s)):=hr.fr.IB s
def GB(hr:Df C γ0 w0 γ β U h a w){x:Operand}{sl:Ew}(hx:Ef C U x=some sl):∃s,L2 γ β w0.heap.size w s sl (a.eval x)/\∀t,x= .tmp t->s=t:=by
 cases x with
 |tmp t=>cases hx;exact⟨t,SQ hr t,λ_ h=>by cases h;rfl⟩
 |const v=>obtain⟨s,h1⟩:=RQ hr hx (by intro s h;cases h);exact⟨s,h1,λ_ h=>by cases h⟩
 |global g=>obtain⟨s,h1⟩:=RQ hr hx (by intro s h;cases h);exact⟨s,h1,λ_ h=>by cases h⟩
 |func f=>obtain⟨s,h1⟩:=RQ hr hx (by intro s h;cases h);exact⟨s,h1,λ_ h=>by cases h⟩
def N1{B s:Nat}{sl:Ew}{v:Value}{u:Aa}(hs:L2 γ β B w s sl v)(hv:sl.Hz=some u):BQ γ u v:=by
 cases sl<;>simp[Ew.Hz] at hv;.subst hv;exact hs
 .subst hv;exact hs
 .subst hv;exact hs.1
def GS(hr:Df C γ0 w0 γ β U h a w){x:Operand}{u:Aa}(hx:E6 C U x=some u):BQ γ u (a.eval x):=by
 unfold E6 at hx;cases hs:Ef C U x with
 |none=>rw[hs] at hx;cases hx
 |some sl=>rw[hs] at hx;obtain⟨s,h1,_⟩:=GB hr hs;exact N1 h1 hx
def D0(hr:Df C γ0 w0 γ β U h a w):∀{xs:List Operand} {us:List Aa},BB C U xs=some us->Bl γ us (xs.map a.eval)
 |[],us,hx=>by cases hx;rfl
 |x::xs,us,hx=>by
  unfold BB at hx;split at hx;.rename_i u DQ h1 h2;cases hx;exact⟨_,_,rfl,GS hr h1,D0 hr h2⟩
  .cases hx
def FR.put{B:Nat}{tmps:Array Value}(hf:FR γ β B U tmps w){d:Nat}{x:Ew}{v:Value}(hx:L2 γ β B w d x v):FR γ β B (U.set d x) (tmps.setIfInBounds d v) w:=by
 refine⟨by simp[hf.size],λs=>?_⟩;have hs:=hf.IB s;by_cases he:s=d
 .subst he;by_cases hl:s<U.length
  .have b:s<tmps.size:=by rw[<-hf.size];exact hl
   simpa[BU.at,List.getD,hl,b,Array.getD] using hx
  .have b:¬s<tmps.size:=by rw[<-hf.size];exact hl
   simpa[BU.at,List.getD,hl,b,Array.getD] using hs
 .have h1:BU.at (U.set d x) s=U.at s:=by simp[BU.at,List.getD,As (λe=>he e.symm)]
  have h2:(tmps.setIfInBounds d v).getD s undef=tmps.getD s undef:=by simp[Hs,sT (λe=>he e.symm)]
  rw[h1,h2];exact hs
def FR.nM{B:Nat}{tmps:Array Value}(hf:FR γ β B U tmps w){d:Nat}{x:Ew}(hx:L2 γ β B w d x (tmps.getD d undef)):FR γ β B (U.set d x) tmps w:=by
 refine⟨by simp[hf.size],λs=>?_⟩;have hs:=hf.IB s;by_cases he:s=d
 .subst he;by_cases hl:s<U.length;.simpa[BU.at,List.getD,hl] using hx
  .simpa[BU.at,List.getD,hl] using hs
 .have h1:BU.at (U.set d x) s=U.at s:=by simp[BU.at,List.getD,As (λe=>he e.symm)]
  rw[h1];exact hs
def Df.put(hr:Df C γ0 w0 γ β U h a w){d:Option Nat}{x:Ew}{v:Value}(hx:∀s,d=some s->L2 γ β w0.heap.size w s x v):Df C γ0 w0 γ β (U.put d x) h (a.put d v) w:=by
 cases d with
 |none=>exact hr
 |some d=>exact⟨hr.D5,hr.fr.put (hx d rfl),hr.DZ,hr.defers,hr.Hk⟩
def Df.nM(hr:Df C γ0 w0 γ β U h a w){d:Nat}{x:Ew}(hx:L2 γ β w0.heap.size w d x (a.tmps.getD d undef)):Df C γ0 w0 γ β (U.set d x) h a w:=
 ⟨hr.D5,hr.fr.nM hx,hr.DZ,hr.defers,hr.Hk⟩
def Df.drop(hr:Df C γ0 w0 γ β U h a w)(ds:List Nat):Df C γ0 w0 γ β (U.drop ds) h a w:=by
 cases ds with
 |nil=>exact hr
 |cons d ds=>
  refine⟨hr.D5,⟨by simp[BU.drop,hr.fr.size],λs=>?_⟩,hr.DZ,hr.defers,hr.Hk⟩;have hs:=hr.fr.IB s;have e:(BU.drop U (d::ds)).at s=match U.at s with| .Fo t o=>if(d::ds).contains t then .undef else .Fo t o|x=>x:=by
   simp only[BU.drop,BU.at,List.getD,Cn];cases hg:U[s]? with
   |none=>rfl
   |some x=>cases x<;>rfl
  rw[e];cases hx:U.at s with
  |Fo t o=>
   rw[hx] at hs;simp only
   split;.trivial
   .exact hs
  |_=>rw[hx] at hs;exact hs
def Df.Jj(hr:Df C γ0 w0 γ β U h a w){γ':Gh}{h':Ai}{w':World}(hi:Hv γ' h' w')(ha:LI γ w γ' w'):Df C γ0 w0 γ' β U h' a w':=
 ⟨hi,hr.fr.kept (jh.aCH hr.D5 ha),hr.DZ.trans ha,hr.defers,λg cs hg=>C8.mono ha.le _ _ _ (hr.Hk g cs hg)⟩
def JB{P:Program}{o:Oper}{v:Value}{w':World}{next:Act->World->Prop}{Q:Exit->Act->World->Prop}(he:(execOp a.eval o).run P w= .ok (.value v) w')(hn:next (a.put o.dst v) w'):o.wp P a w next Q:=by unfold Oper.wp;rw[he];exact hn
def tE{P:Program}{o:Oper}{w':World}{next:Act->World->Prop}{Q:Exit->Act->World->Prop}(he:(execOp a.eval o).run P w= .ok .skip w')(hn:next (a.put o.dst undef) w'):o.wp P a w next Q:=by unfold Oper.wp;rw[he];exact hn
end
end Go.Am
end
section
namespace Go.Am
def Gh.FX(γ:Gh)(g:Nat)(x:K0):Gh:={γ with Bs:=λb=>if b=g then some x else γ.Bs b}
section
variable{C:Gb}{γ0 γ:Gh}{w0 w:World}{β:Nat->Nat}{U:BU}{h:Ai}{a:Act}
def HA(γ:Gh)(g:Nat)(x:K0):γ.le (γ.FX g x):=⟨λ_ _ _ h=>h,λ_ _ h=>h,λ_ _ h=>h⟩
def Hv.FX(hi:Hv γ h w){g s s' st:Nat}{c c':Option Nat}(hg:γ.Bs g=some (.tail s c st)):Hv (γ.FX g (.tail s' c' st)) h w:=by
 refine⟨λb o v hb=>?_,λid y Im hy=>?_,λid cs hc b hb=>?_,λid es hc b hb=>?_,hi.mu,λb x hx=>?_,λb n hb=>?_⟩;rotate_left 5
 .obtain⟨p,r⟩:=hi.sz b n hb;have:b≠g:=λhe=>by subst he;rw[hg] at r;rcases r with r|⟨_,r⟩<;>cases r
  exact⟨p,by simp only[Gh.FX,Ad this];exact r⟩
 .obtain⟨p,q,r⟩:=hi.IF b o v hb;refine⟨p,q,?_⟩;by_cases he:b=g
  .subst he;rw[hg] at r;rcases r with r|⟨_,_,_,r,hl⟩
   .cases r
   .cases r;exact .inr ⟨s',c',st,by simp[Gh.FX],hl⟩
  .simpa only[Gh.FX,Ad he] using r
 .obtain⟨b,p,q⟩:=hi.MC id y Im hy;have:b≠g:=λhe=>by subst he;rw[hg] at q;cases q
  exact⟨b,p,by simp only[Gh.FX,Ad this];exact q⟩
 .obtain⟨us,e,fr,p,pf,q,r⟩:=hi.cells id cs hc b hb;exact⟨us,e,fr,p,pf,Bl.mono (HA γ g _) _ _ q,r⟩
 .obtain⟨us,e,p,q⟩:=hi.map id es hc b hb;exact⟨us,e,p,q.mono (HA γ g _)⟩
 .by_cases he:b=g;.subst he;exact hi.Bs b _ hg
  .simp only[Gh.FX,Ad he] at hx;exact hi.Bs b x hx
def I6.FX{B:Nat}{s b st:Nat}{c f:Option Nat}{v:Value}{u:Aa}{x:K0}{g:Nat}(hg:γ.Bs g=some (.tail s c st))(ho:I6 γ B w b f v u)(hne:b≠s\/f≠c):I6 (γ.FX g x) B w b f v u:=by
 rcases ho with ho|⟨g2,n,cap,us,e,z,AE,h1,h2,d,i⟩
 .exact .inl ho
 .have:g2≠g:=λhe=>by subst he;rw[hg] at d;cases d;rcases hne with hne|hne<;>exact hne rfl
  exact .inr ⟨g2,n,cap,us,e,z,AE,h1,h2,by simp only[Gh.FX,Ad this];exact d,i⟩
def FR.FX{B:Nat}{tmps:Array Value}(hf:FR γ β B U tmps w){g s st:Nat}{c:Option Nat}{x:K0}(hg:γ.Bs g=some (.tail s c st))
  (h1:c=none->∀v,U.at s≠ .Bs v) (h2:∀o,c=some o->∀ver cs ow,U.at s= .box ver cs ow->o∉ow):FR (γ.FX g x) β B U tmps w:=by
 refine⟨hf.size,λd=>?_⟩;have hs:=hf.IB d;cases hx:U.at d with
 |undef=>trivial
 |skip=>rw[hx] at hs;exact hs
 |val u=>rw[hx] at hs;exact BQ.mono (HA γ g x) _ _ hs
 |Px b=>rw[hx] at hs;exact hs
 |Bs u=>
  rw[hx] at hs;refine⟨BQ.mono (HA γ g x) _ _ hs.1,hs.2.FX hg ?_⟩;by_cases he:d=s
  .subst he;cases c with
   |none=>exact absurd hx (h1 rfl u)
   |some o=>exact .inr AH
  .exact .inl he
 |box ver cs ow=>
  rw[hx] at hs;obtain⟨r,f,q,us,e,p,n,m,l⟩:=hs;have hb:β d≠g:=λhe=>by rw[he,hg] at f;cases f
  refine⟨r,by simp only[Gh.FX,Ad hb];exact f,q,us,e,p,Bl.mono (HA γ g x) _ _ n,m,λo ho=>?_⟩;obtain⟨u,v,k,j,i⟩:=l o ho;refine⟨u,v,k,j,i.FX hg ?_⟩;by_cases he:d=s
  .subst he;cases c with
   |none=>exact .inr AH
   |some o'=>refine .inr λhe=>?_;cases he;exact h2 o rfl ver cs ow hx ho
  .exact .inl he
 |Fo s' o=>rw[hx] at hs;exact hs
def Df.FX(hr:Df C γ0 w0 γ β U h a w){g s st s':Nat}{c c':Option Nat}(hg:γ.Bs g=some (.tail s c st))(hB:w0.heap.size<=g)
  (h1:c=none->∀v,U.at s≠ .Bs v) (h2:∀o,c=some o->∀ver cs ow,U.at s= .box ver cs ow->o∉ow):Df C γ0 w0 (γ.FX g (.tail s' c' st)) β U h a w:=by
 refine⟨hr.D5.FX hg,hr.fr.FX hg h1 h2,?_,hr.defers,λx cs hx=>C8.mono (HA γ g _) _ _ _ (hr.Hk x cs hx)⟩;refine⟨hr.DZ.le.trans (HA γ g _),hr.DZ.size,hr.DZ.os,hr.DZ.tape,hr.DZ.output,λb hb hn=>?_⟩;.obtain⟨p,q⟩:=hr.DZ.OI b hb hn;exact⟨p,by simp only[Gh.FX,Ad (Ac:b≠g)];exact q⟩
def BU.Fw{s:Nat}{x:Ew}(hs:s<U.length):BU.at (U.set s x) s=x:=by simp[BU.at,List.getD,hs]
def BU.Gn{s t:Nat}{x:Ew}(hs:s≠t):BU.at (U.set s x) t=U.at t:=by simp[BU.at,List.getD,As hs]
def BU.PU{s:Nat}(hs:U.at s≠ .undef):s<U.length:=by
 rcases AR s U.length with h|h
 .exact h
 .exact absurd (by simp[BU.at,List.getD,Ec h]) hs
def Df.take(hr:Df C γ0 w0 γ β U h a w){s:Nat}{v:Aa}(hs:U.at s= .Bs v)(s':Nat)(c':Option Nat):
  ∃γ',γ.le γ'/\Df C γ0 w0 γ' β (U.set s (.val v)) h a w/\BQ γ' v (a.tmps.getD s undef)/\I6 γ' w0.heap.size w s' c' (a.tmps.getD s undef) v:=by
 have h0:=hr.fr.IB s;rw[hs] at h0;obtain⟨hv,ho⟩:=h0;have KQ:Df C γ0 w0 γ β (U.set s (.val v)) h a w:=hr.nM hv;have hl:s<U.length:=BU.PU (by rw[hs];simp);rcases ho with ho|⟨g,n,cap,us,e,z,AE,h1,h2,d,b,c⟩
 .exact⟨γ,.refl _,KQ,hv,.inl ho⟩
 .refine⟨γ.FX g (.tail s' c' (n*z)),HA _ _ _,KQ.FX d b (λ_ u=>?_) (λo ho=>by cases ho),BQ.mono (HA _ _ _) _ _ hv,.inr ⟨g,n,cap,us,e,z,AE,h1,h2,by simp[Gh.FX],b,c⟩⟩;rw[BU.Fw hl];simp
def eF{B s d:Nat}{sl b:Ew}{v:Value}(hs:L2 γ β B w s sl v)(hc:IL sl=some b):L2 γ β B w d b v:=by
 cases sl<;>simp[IL] at hc;.subst hc;exact hs
 .subst hc;exact hs
 .subst hc;exact hs.1
 .subst hc;exact hs
def OK{ws:List (Nat×Ew)}(h:∀p∈ws,∀cs ow,p.2≠ .box 0 cs ow):(EP.pure ws).news=[]:=by
 simp only[EP.news,List.filterMap_eq_nil_iff];rintro⟨s,x⟩ hp;have:=h _ hp;cases x with
 |box ver cs ow=>
  cases ver with
  |zero=>exact absurd rfl (this cs ow)
  |succ n=>rfl
 |_=>rfl
def SR{v:Value}{sl:Ew}(hs:Ef C U (.const v)=some sl):(∀B d,L2 γ β B w d sl v)/\∀ver cs ow,sl≠ .box ver cs ow:=by
 unfold Ef at hs;split at hs;.rename_i KR;cases KR
 .rename_i KR;cases KR;cases hs;exact⟨λ_ _=>rfl,λ_ _ _ h=>by cases h⟩
 .rename_i KR;cases KR;cases hs;exact⟨λ_ _=>⟨rfl,.inl (.inl rfl)⟩,λ_ _ _ h=>by cases h⟩
 .rename_i KR;cases KR;cases hc:Lr v with
  |none=>rw[hc] at hs;cases hs
  |some u=>rw[hc] at hs;cases hs;exact⟨λ_ _=>Fv hc,λ_ _ _ h=>by cases h⟩
 .rename_i KR;cases KR
 .rename_i KR;cases KR
def Hn{s:Nat}{sl:Ew}(hs:Ef C U (.tmp s)=some sl):U.at s=sl:=D4 hs
def tF{x:Operand}{v:Aa}(hs:Ef C U x=some (.Bs v))(hn:∀c,x≠ .const c):∃s,x= .tmp s/\U.at s= .Bs v:=by
 cases x with
 |tmp s=>exact⟨s,rfl,Hn hs⟩
 |const c=>exact absurd rfl (hn c)
 |global g=>have WB:(C.Hk g).map (λcs=>Ew.val (Aa.CI cs))=some (.Bs v):=hs;cases hc:C.Hk g<;>rw[hc] at WB<;>cases WB
 |func f=>cases hs
def SU{x:Operand}{d:Nat}{take:Bool}{r:EP}{run:IT->Ai->Option Km}{f:BU}{h':Ai}(hm:K9 C U x d take=some r)(hd:r.N0 C run (U.drop r.news) h f h')
  (hr:Df C γ0 w0 γ β U h a w):∃γ',Df C γ0 w0 γ' β f h' (a.put (some d) (a.eval x)) w:=by
 unfold K9 at hm;split at hm;.rename_i s _ _ _ hs;cases hm;rw[OK AH] at hd;obtain⟨rfl,rfl⟩:=hd;refine⟨γ,hr.put (d:=some d) λt ht=>?_⟩;have h0:=SQ hr s;rw[Hn hs] at h0;exact h0.1
 .rename_i v sl hs;cases hm;obtain⟨p,q⟩:=SR (γ:=γ) (β:=β) (w:=w) hs;rw[OK (by simpa using λcs ow=>q 0 cs ow)] at hd;obtain⟨rfl,rfl⟩:=hd;exact⟨γ,hr.put (d:=some d) λt _=>p _ t⟩
 .rename_i v hnc hs;split at hm;.cases hm;obtain⟨s,rfl,e⟩:=tF hs (λc hc=>hnc c hc);rw[OK (by simp[SJ])] at hd;obtain⟨rfl,rfl⟩:=hd;obtain⟨γ',Er,Gc,DH,á⟩:=hr.take e d none;exact⟨γ',Gc.put (d:=some d) λt ht=>by cases ht;exact⟨DH,á⟩⟩
  .simp only[IL,BY] at hm;cases hm;rw[OK AH] at hd;obtain⟨rfl,rfl⟩:=hd;obtain⟨s,h1,_⟩:=GB hr hs;exact⟨γ,hr.put (d:=some d) λt ht=>h1.1⟩
 .rename_i sl _ _ _ hs;cases hc:IL sl with
  |none=>rw[hc] at hm;cases hm
  |some b=>
   rw[hc] at hm;cases hm;have zB:∀cs ow,b≠ .box 0 cs ow:=by intro cs ow he;subst he;cases sl<;>simp[IL] at hc
   rw[OK (by simpa using zB)] at hd;obtain⟨rfl,rfl⟩:=hd;obtain⟨s,h1,_⟩:=GB hr hs;exact⟨γ,hr.put (d:=some d) λt ht=>eF h1 hc⟩
 .cases hm
end
end Go.Am
end
section
namespace Go.Am
open Go
def XJ{s:Sem Value}{v:Value}(h:QB s=some v):s= .pure v:=by cases s<;>simp[QB] at h;subst h;rfl
section
variable{P:Program}{γ:Gh}{w:World}
def nN{op:BinOp}{k l:IntKind}{x y:Int}{u:Aa}(t:TypeId)(c b:Operand)(h:yJ op k x l y=some u):
  ∃v,(do eqGuard op t c b (.int k x) (.int l y);binOp op t (.int k x) (.int l y):Sem Value).run P w= .ok v w/\BQ γ u v:=by
 unfold yJ at h;cases hs:QB (binOp op 0 (.int k x) (.int l y)) with
 |none=>rw[hs] at h;cases h
 |some v=>
  rw[hs] at h;have f:=XJ hs;have e:binOp op t (.int k x) (.int l y)= .pure v:=by rw[<-f];cases op<;>rfl
  have d:eqGuard op t c b (.int k x) (.int l y)=pure ():=by cases op<;>rfl
  refine⟨v,by rw[d,e];rfl,?_⟩;simp only[Ct] at h;split at h<;>cases h<;>rfl
def eH(l:List UInt8):(ByteArray.mk ⟨l⟩).toList=l:=ByteArray.toList_mk l
def nO{op:BinOp}{x y:Aj}{u:Aa}(t:TypeId)(d c:Operand)(h:nI op x y=some u):
  ∃v,(do eqGuard op t d c (.string ⟨⟨x⟩⟩) (.string ⟨⟨y⟩⟩);binOp op t (.string ⟨⟨x⟩⟩) (.string ⟨⟨y⟩⟩):Sem Value).run P w= .ok v w/\BQ γ u v:=by
 have e:eqGuard op t d c (.string ⟨⟨x⟩⟩) (.string ⟨⟨y⟩⟩)=pure ():=by cases op<;>rfl
 have b:binOp op t (.string ⟨⟨x⟩⟩) (.string ⟨⟨y⟩⟩)=Op.stringOp op ⟨⟨x⟩⟩ ⟨⟨y⟩⟩:=by cases op<;>rfl
 rw[e,b];unfold nI at h;cases op<;>simp only at h<;>first
  |cases h;done
  |(simp only[Op.stringOp,eH];cases h;exact⟨_,rfl,rfl⟩)
  | (split at h
     . rename_i Er
       cases h
       have hc : ¬ ((((ByteArray.mk ⟨x⟩).size + (ByteArray.mk ⟨y⟩).size : Nat) : Int) > IntKind.i64.max) := by
         have f : (ByteArray.mk ⟨x⟩).size = x.length := rfl
         have b : (ByteArray.mk ⟨y⟩).size = y.length := rfl
         rw [f, b]
         have : IntKind.i64.max = 9223372036854775807 := AP
         rw [this]
         omega
       simp only [Op.stringOp, Ad hc]
       refine ⟨_, rfl, ?_⟩
       show Value.string _ = Value.string _
       first
         | (congr 1; done)
         | (congr 1; apply ByteArray.ext; simp)
     . cases h)
def tG{t:TypeId}(h:Ft P t=some none):(isAgg t).run P w= .ok false w:=by
 unfold Ft at h;split at h;.cases hs:B4 P t<;>rw[hs] at h<;>cases h
 .cases hs:B4 P t<;>rw[hs] at h<;>cases h
 .rename_i d h1 h2 hu;simp only[isAgg,Sem.run_bind,run_underlying hu,Result.andThen_ok];rfl
 .cases h
def RR{t:TypeId}{n:Nat}(h:Ft P t=some (some n)):(isAgg t).run P w= .ok true w/\B4 P t=some n:=by
 unfold Ft at h;split at h
 .rename_i fs hu;cases hs:B4 P t with
  |none=>rw[hs] at h;cases h
  |some m=>rw[hs] at h;cases h;exact⟨by simp[isAgg,run_underlying hu],rfl⟩
 .rename_i fs _ hu;cases hs:B4 P t with
  |none=>rw[hs] at h;cases h
  |some m=>rw[hs] at h;cases h;exact⟨by simp[isAgg,run_underlying hu],rfl⟩
 .cases h
 .cases h
def DT{t:TypeId}{n:Nat}(h:B4 P t=some n):(sizeOf t).run P w= .ok n w:=by
 unfold B4 at h;cases hi:P.info? t with
 |none=>rw[hi] at h;cases h
 |some i=>rw[hi] at h;cases h;simp[sizeOf,typeInfo,hi]
def nQ{t:TypeId}{sh:Option Nat}{cs:List Aa}{us:Array Value}{off:Nat}{u:Aa}(sH:Ft P t=some sh)(hr:Bl γ cs us.toList)(h1:∀v∈us.toList,v.oneCell'=true)
  (hp:Fu cs off sh=some u):∃v,(part t us off).run P w= .ok v w/\BQ γ u v:=by
 cases sh with
 |none=>
  replace hp:cs[off]?=some u:=hp;obtain⟨v,hv,hrel⟩:=hr.get hp;refine⟨v,?_,hrel⟩;have DH:us[off]?=some v:=by simpa using hv
  simp[part,tG sH,DH]
 |some n=>
  obtain⟨ha,hs⟩:=RR (w:=w) sH;replace hp:(if off+n<=cs.length then some (Aa.agg ((cs.drop off).take n)) else none)=some u:=hp;split at hp
  .cases hp;refine⟨.agg (us.extract off (off+n)),by simp[part,ha,DT hs],us.extract off (off+n),rfl,?_,?_⟩;.have:=(hr.drop off).take n;simpa[Oz,H6] using this
   .intro v hv;refine h1 v ?_;rw[Oz,H6] at hv;exact BD (Bp hv)
  .cases hp
end
end Go.Am
end
section
namespace Go.Am
open Go
def tl{x y:Aa}{b:Bool}(h:LZ .b x y=some b):∃p q,x= .bool p/\y= .bool q/\(p==q)=b:=by unfold LZ at h;split at h<;>first|cases h;done|(rename_i he;cases he;done)|(cases h;exact⟨_,_,rfl,rfl,rfl⟩)
def tn{x y:Aa}{b:Bool}(h:LZ .i x y=some b):∃k p q,x= .int k p/\y= .int k q/\(p==q)=b:=by
 unfold LZ at h;split at h;.rename_i he;cases he
 .split at h;.rename_i hk;subst hk;cases h;exact⟨_,_,_,rfl,rfl,rfl⟩
  .cases h
 .rename_i he;cases he
 .cases h
def tq{x y:Aa}{b:Bool}(h:LZ .s x y=some b):∃p q,x= .str p/\y= .str q/\(p==q)=b:=by
 unfold LZ at h;split at h;.rename_i he;cases he
 .rename_i he;cases he
 .cases h;exact⟨_,_,rfl,rfl,rfl⟩
 .cases h
def PV:∀{ks c:List FK} {xs ys:List Aa} {b:Bool},D8 (ks++c) xs ys=some b->
  ∃b1 b2,D8 ks (xs.take ks.length) (ys.take ks.length)=some b1/\D8 c (xs.drop ks.length) (ys.drop ks.length)=some b2/\b=(b1&&b2)
 |[],c,xs,ys,b,h=>⟨true,b,by simp[D8],by simpa using h,AH⟩
 |k::ks,c,[],ys,b,h=>by cases ys<;>simp[D8] at h
 |k::ks,c,x::xs,[],b,h=>by simp[D8] at h
 |k::ks,c,x::xs,y::ys,b,h=>by
  simp only[Cs,D8] at h;split at h;.rename_i e es h1 h2;cases h;obtain⟨b1,b2,p,q,r⟩:=PV h2;refine⟨e&&b1,b2,?_,by simpa using q,by rw[r,Bool.and_assoc]⟩;simp only[Bd,aS,D8,h1,p]
  .cases h
def PX:∀{ks:List FK} {xs ys:List Aa} {b:Bool},D8 ks xs ys=some b->xs.length=ks.length/\ys.length=ks.length
 |[],xs,ys,b,h=>by cases xs<;>cases ys<;>simp[D8] at h⊢
 |k::ks,xs,ys,b,h=>by
  cases xs<;>cases ys<;>simp[D8] at h;split at h;.rename_i h1 h2;obtain⟨p,q⟩:=PX h2;simp[p,q]
  .cases h
section
variable{P:Program}{γ:Gh}{w:World}
def bB:∀{d:Nat} {t:TypeId} {ks:List FK},PR P d t=some ks->B4 P t=some ks.length
 |0,t,ks,h=>by cases h
 |d+1,t,ks,h=>by
  simp only[PR] at h;split at h;.split at h<;>cases h;assumption
  .split at h<;>cases h;assumption
  .split at h<;>cases h;assumption
  .split at h
   .split at h;.rename_i hc;cases h;exact hc.1
    .cases h
   .cases h
  .cases h
def tH{ks:List FK}{k:FK}{t:TypeId}(h:(if B4 P t=some 1 then some [k] else none)=some ks):ks=[k]:=by split at h<;>cases h;rfl
def GU{t:TypeId}{us:Array Value}{off:Nat}{v:Value}{d:TypeDesc}(hu:P.underlying t=some d)(h1:∀fs,d≠ .struct fs)(h2:∀n e,d≠ .array n e)(hv:us[off]?=some v):
  (part t us off).run P w= .ok v w:=by
 have ha:(isAgg t).run P w= .ok false w:=by simp only[isAgg,Sem.run_bind,run_underlying hu,Result.andThen_ok];cases d<;>first|rfl|exact absurd rfl (h1 _)|exact absurd rfl (h2 _ _)
 simp[part,ha,hv]
def J7{l:List Aa}{off:Nat}{x:Aa}(h:(l.drop off).take 1=[x]):l[off]?=some x:=by have:=Cc (·[0]?) h;simpa using this
def XK{k:FK}{xs ys:List Aa}{b:Bool}(h:D8 [k] xs ys=some b):∃x y,xs=[x]/\ys=[y]/\LZ k x y=some b:=by
 cases xs<;>cases ys<;>simp[D8] at h;rename_i x xs y ys;cases xs<;>cases ys<;>simp[D8] at h;all_goals first
  | (split at h
     . rename_i e es h1 h2; cases h2; cases h; exact ⟨x, y, rfl, rfl, by simpa using h1⟩
     . cases h)
  |(split at h<;>simp_all)
mutual
def nS:∀{d D:Nat},d<=D->∀{t:TypeId} {ks:List FK},PR P d t=some ks->∀(us vs:Array Value) (cs ds:List Aa) (off:Nat) (b:Bool),Bl γ cs us.toList->Bl γ ds vs.toList->
  D8 ks ((cs.drop off).take ks.length) ((ds.drop off).take ks.length)=some b->
  ∃x y,(part t us off).run P w= .ok x w/\(part t vs off).run P w= .ok y w/\(Op.equalIn D t x y).run P w= .ok b w
 |0,_,_,_,_,h=>by cases h
 |d+1,0,hd,_,_,_=>Ac
 |d+1,D+1,hd,t,ks,h=>by
  intro us vs cs ds off b hu hv he;have Ls:=bB h;simp only[PR] at h;split at h;.rename_i bC;have:=tH h;subst this;obtain⟨x,y,m,l,k⟩:=XK he;obtain⟨x',i,g⟩:=hu.get (J7 m);obtain⟨c,f,e⟩:=hv.get (J7 l);refine⟨x',c,GU bC AH AH (by simpa using i),GU bC AH AH (by simpa using f),?_⟩;obtain⟨o,n,rfl,rfl,j⟩:=tl k;rw[g,e,run_equalIn_bool' w D t _ _ bC,<-j]
  .rename_i kk bC;have:=tH h;subst this;obtain⟨x,y,m,l,k⟩:=XK he;obtain⟨x',i,g⟩:=hu.get (J7 m);obtain⟨c,f,e⟩:=hv.get (J7 l);refine⟨x',c,GU bC AH AH (by simpa using i),GU bC AH AH (by simpa using f),?_⟩;obtain⟨q,o,n,rfl,rfl,j⟩:=tn k;rw[g,e,run_equalIn_int w D t _ _ _ _ bC,<-j]
  .rename_i bC;have:=tH h;subst this;obtain⟨x,y,m,l,k⟩:=XK he;obtain⟨x',i,g⟩:=hu.get (J7 m);obtain⟨c,f,e⟩:=hv.get (J7 l);refine⟨x',c,GU bC AH AH (by simpa using i),GU bC AH AH (by simpa using f),?_⟩;obtain⟨o,n,rfl,rfl,j⟩:=tq k;rw[g,e,run_equalIn_string w D t _ _ bC,eH,eH,<-j]
  .rename_i fs bC;split at h
   .rename_i p GK;split at h
    .rename_i hc;cases h;have sH:Ft P t=some (some ks.length):=by simp[Ft,bC,Ls]
     obtain⟨ha,hs⟩:=RR (w:=w) sH;refine⟨.agg (us.extract off (off+ks.length)),.agg (vs.extract off (off+ks.length)),by simp[part,ha,DT hs],by simp[part,ha,DT hs],?_⟩;have aLs:P.underlying t=some (.struct (P.fieldsOf t)):=by simp[Program.fieldsOf,bC]
     rw[run_equalIn_struct w D t _ _ aLs hc.2];have hf:(P.fieldsOf t).toList=fs.toList:=by simp[Program.fieldsOf,bC]
     rw[hf];have sI:Bl γ ((cs.drop off).take ks.length) (us.extract off (off+ks.length)).toList:=by have:=(hu.drop off).take ks.length;simpa[Oz,H6] using this
     have DH:Bl γ ((ds.drop off).take ks.length) (vs.extract off (off+ks.length)).toList:=by have:=(hv.drop off).take ks.length;simpa[Oz,H6] using this
     refine bD (Nat.le_of_succ_le_succ hd) fs.toList GK _ _ _ _ _ sI DH ?_;simpa using he
    .cases h
   .cases h
  .cases h
def bD:∀{d D:Nat},d<=D->∀(fs:List Field) {off:Nat} {ks:List FK},Xy (PR P d) fs off=some ks->∀(us vs:Array Value) (cs ds:List Aa) (b:Bool),Bl γ cs us.toList->Bl γ ds vs.toList->
  D8 ks (cs.drop off) (ds.drop off)=some b->(Op.eqFields D us vs fs).run P w= .ok b w
 |d,D,hd,[],off,ks,h=>by
  intro us vs cs ds b hu hv he;cases h;have:b=true:=by cases h1:cs.drop off<;>cases h2:ds.drop off<;>rw[h1,h2] at he<;>simp[D8] at he;exact he
  subst this;rfl
 |d,D,hd,f::fs,off,ks,h=>by
  intro us vs cs ds b hu hv he;simp only[Xy] at h;split at h
  .rename_i hc;obtain⟨hn,aGh⟩:=hc;split at h
   .rename_i c ZU;cases hr:Xy (PR P d) fs (off+c.length) with
    |none=>rw[hr] at h;cases h
    |some j=>
     rw[hr] at h;cases h;obtain⟨b1,b2,l,k,rfl⟩:=PV he;obtain⟨x,y,i,g,e⟩:=nS hd ZU _ _ _ _ _ _ hu hv l;simp only[Op.eqFields,hn,B7,Az,BJ,aGh,Sem.run_bind,i,g,e,Result.andThen_ok];cases b1;.rfl
     .simp only[Sv,Cx,DF,Bool.true_and];exact bD hd fs hr _ _ _ _ _ hu hv (by simpa[Em] using k)
   .cases h
  .cases h
end
def nT{op:BinOp}{t:TypeId}{d c:Operand}{neg:Bool}{ks:List FK}{a b:List Aa}{x y:Value}{u:Aa}(OB:(op= .eql/\neg=false)\/(op= .neq/\neg=true))
  (hg:P.eqGuardType P.depth t=false) (hk:PR P 20 t=some ks) (Ib:∃fs,P.underlying t=some (.struct fs)) (hx:BQ γ (.agg a) x) (hy:BQ γ (.agg b) y) (h:(D8 ks a b).map (λe=>Aa.bool (e != neg))=some u):
  ∃v,(do eqGuard op t d c x y;binOp op t x y:Sem Value).run P w= .ok v w/\BQ γ u v:=by
 obtain⟨us,rfl,hu,_⟩:=hx;obtain⟨vs,rfl,hv,_⟩:=hy;cases he:D8 ks a b with
 |none=>rw[he] at h;cases h
 |some e=>
  rw[he] at h;cases h;obtain⟨l1,m⟩:=PX he;obtain⟨x',j,i,g,f⟩:=nS (w:=w) (P:=P) (γ:=γ) (D:=10000) (Ac:20<=10000) hk us vs a b 0 e hu hv (by rw[MZ,MZ,AF (M0 l1),AF (M0 m)];exact he);obtain⟨fs,GK⟩:=Ib;have sH:Ft P t=some (some ks.length):=by simp[Ft,GK,bB hk]
  obtain⟨ha,hs⟩:=RR (w:=w) sH;have o:us.extract 0 ks.length=us:=by
   have:us.size=ks.length:=by have:=hu.length;simp at this;omega
   rw[<-this];simp
  have n:vs.extract 0 ks.length=vs:=by
   have:vs.size=ks.length:=by have:=hv.length;simp at this;omega
   rw[<-this];simp
  have l:x'= .agg us:=by simp[part,ha,DT hs,o] at i;exact i.symm
  have k:j= .agg vs:=by simp[part,ha,DT hs,n] at g;exact g.symm
  subst l;subst k;rcases OB with⟨rfl,rfl⟩|⟨rfl,rfl⟩
  .refine⟨.bool e,by simp[run_eqGuard_agg (P:=P) w .eql t d c us vs hg,run_eql_struct,f],?_⟩;show Value.bool e=Value.bool _;cases e<;>rfl
  .refine⟨.bool (!e),by simp[run_eqGuard_agg (P:=P) w .neq t d c us vs hg,run_neq_struct,f],?_⟩;show Value.bool _=Value.bool _;cases e<;>rfl
end
end Go.Am
end
