/- Lemmas -/
import Derived.Test.YtkaolmlpcamojaaGreatDoorC1
import Derived.Orders
import Derived.Laws.AppendOwn
import Derived.Laws.StructEq
set_option linter.all false
section
namespace Go.Am
inductive KH where
 |Mj (id:Nat)
 |loc (s:Nat)
 |tail (s:Nat) (c:Option Nat) (start:Nat)
def KH.pk:KH->Bool
 | .Mj _=>true
 |_=>false
structure Gh where
 Iw:Nat->Nat->Option Value
 mu:Nat->Option Nat
 Bu:Nat->Option KH
 sz:Nat->Option Nat
mutual
def BQ(γ:Gh):Aa->Value->Prop
 | .bool b,v=>v= .bool b
 | .int k n,v=>v= .int k n
 | .str s,v=>v= .string ⟨⟨s⟩⟩
 | .ptr none,v=>v= .pointer none
 | .ptr (some (id,o)),v=>∃b,γ.mu id=some b/\v= .pointer (some ⟨b,o,none⟩)
 | .CH cs,v=>∃b o,v= .pointer (some ⟨b,o,none⟩)/\C8 γ cs b o
 | .sl z AE,v=>∃d cap,v= .slice (some d) AE.length cap/\AE.length<=cap/\(d.spot=none\/cap=0)/\E5 γ AE z d.block d.off
 | .slnil,v=>v= .slice none 0 0
 | .Gf _,v=>∃b,v= .slice (some ⟨b,0,none⟩) 0 0
 | .CF id off len z,v=>∃b cap,γ.mu id=some b/\v= .slice (some ⟨b,off,none⟩) len cap/\len<=cap/\(0<z/\cap<=maxLen)/\γ.sz b=some (off+cap*z)
 | .map none,v=>v= .map none
 | .map (some id),v=>∃b,γ.mu id=some b/\v= .map (some b)
 | .func fn f c,v=>∃fs cs,v= .func fn fs cs/\Bj γ f fs.toList/\Bj γ c cs.toList
 | .nilFunc,v=>v= .nilFunc
 | .iface t a,v=>∃u,v= .iface t u/\BQ γ a u
 | .nilIface,v=>v= .nilIface
 | .agg cs,v=>∃us,v= .agg us/\Bj γ cs us.toList/\∀u∈us.toList,u.oneCell'=true
 | .tuple vs,v=>∃us,v= .tuple us/\Bj γ vs us.toList
def Bj(γ:Gh):List Aa->List Value->Prop
 |[],us=>us=[]
 |a::l,us=>∃u DT,us=u::DT/\BQ γ a u/\Bj γ l DT
def C8(γ:Gh):List Aa->Nat->Nat->Prop
 |[],_,_=>True
 |a::l,b,o=>(∃u,γ.Iw b o=some u/\BQ γ a u)/\C8 γ l b (o+1)
def E5(γ:Gh):List (List Aa)->Nat->Nat->Nat->Prop
 |[],_,_,_=>True
 |r::rs,z,b,o=>r.length=z/\C8 γ r b o/\E5 γ rs z b (o+z)
end
structure Gh.le(γ γ':Gh):Prop where
 Iw:∀b o v,γ.Iw b o=some v->γ'.Iw b o=some v
 mu:∀id b,γ.mu id=some b->γ'.mu id=some b
 sz:∀b n,γ.sz b=some n->γ'.sz b=some n
def Gh.le.refl(γ:Gh):γ.le γ:=⟨λ_ _ _ h=>h,λ_ _ h=>h,λ_ _ h=>h⟩
def Gh.le.trans{a b c:Gh}(h:a.le b)(k:b.le c):a.le c:=⟨λ_ _ _ x=>k.Iw _ _ _ (h.Iw _ _ _ x),λ_ _ x=>k.mu _ _ (h.mu _ _ x),λ_ _ x=>k.sz _ _ (h.sz _ _ x)⟩
mutual
def BQ.mono{γ γ':Gh}(En:γ.le γ'):∀(a:Aa) (v:Value),BQ γ a v->BQ γ' a v
 | .bool b,v,h=>h
 | .int k n,v,h=>h
 | .str s,v,h=>h
 | .ptr none,v,h=>h
 | .ptr (some (id,o)),v,h=>by obtain⟨b,hb,hv⟩:=h;exact⟨b,En.mu _ _ hb,hv⟩
 | .CH cs,v,h=>by obtain⟨b,o,hv,hm⟩:=h;exact⟨b,o,hv,C8.mono En cs b o hm⟩
 | .sl z AE,v,h=>by obtain⟨d,cap,hv,hc,hs,hm⟩:=h;exact⟨d,cap,hv,hc,hs,E5.mono En AE z _ _ hm⟩
 | .slnil,v,h=>h
 | .Gf _,v,h=>h
 | .CF id off len z,v,h=>by obtain⟨b,cap,hb,hv,hc,hz,hs⟩:=h;exact⟨b,cap,En.mu _ _ hb,hv,hc,hz,En.sz _ _ hs⟩
 | .map none,v,h=>h
 | .map (some id),v,h=>by obtain⟨b,hb,hv⟩:=h;exact⟨b,En.mu _ _ hb,hv⟩
 | .func fn f c,v,h=>by obtain⟨fs,cs,hv,h1,h2⟩:=h;exact⟨fs,cs,hv,Bj.mono En f _ h1,Bj.mono En c _ h2⟩
 | .nilFunc,v,h=>h
 | .iface t a,v,h=>by obtain⟨u,hv,h1⟩:=h;exact⟨u,hv,BQ.mono En a u h1⟩
 | .nilIface,v,h=>h
 | .agg cs,v,h=>by obtain⟨us,hv,h1,h2⟩:=h;exact⟨us,hv,Bj.mono En cs _ h1,h2⟩
 | .tuple vs,v,h=>by obtain⟨us,hv,h1⟩:=h;exact⟨us,hv,Bj.mono En vs _ h1⟩
def Bj.mono{γ γ':Gh}(En:γ.le γ'):∀(l:List Aa) (us:List Value),Bj γ l us->Bj γ' l us
 |[],us,h=>h
 |a::l,us,h=>by obtain⟨u,DT,hu,h1,h2⟩:=h;exact⟨u,DT,hu,BQ.mono En a u h1,Bj.mono En l DT h2⟩
def C8.mono{γ γ':Gh}(En:γ.le γ'):∀(l:List Aa) (b o:Nat),C8 γ l b o->C8 γ' l b o
 |[],_,_,_=>trivial
 |a::l,b,o,h=>by obtain⟨⟨u,hu,h1⟩,h2⟩:=h;exact⟨⟨u,En.Iw _ _ _ hu,BQ.mono En a u h1⟩,C8.mono En l b (o+1) h2⟩
def E5.mono{γ γ':Gh}(En:γ.le γ'):∀(rs:List (List Aa)) (z b o:Nat),E5 γ rs z b o->E5 γ' rs z b o
 |[],_,_,_,_=>trivial
 |r::rs,z,b,o,h=>⟨h.1,C8.mono En r b o h.2.1,E5.mono En rs z b (o+z) h.2.2⟩
end
def Bj.length{γ:Gh}:∀{l:List Aa} {us:List Value},Bj γ l us->us.length=l.length
 |[],us,h=>by rw[Bj] at h;subst h;rfl
 |a::l,us,h=>by rw[Bj] at h;obtain⟨u,DT,rfl,_,h2⟩:=h;simp[h2.length]
def Bj.get{γ:Gh}:∀{l:List Aa} {us:List Value},Bj γ l us->∀{i:Nat} {a:Aa},l[i]?=some a->∃u,us[i]?=some u/\BQ γ a u
 |[],us,h,i,a,hi=>by simp at hi
 |x::l,us,h,i,a,hi=>by
  rw[Bj] at h;obtain⟨u,DT,rfl,h1,h2⟩:=h;cases i with
  |zero=>simp at hi;subst hi;exact⟨u,rfl,h1⟩
  |succ i=>simp at hi;obtain⟨v,hv,hr⟩:=h2.get hi;exact⟨v,by simpa using hv,hr⟩
def Bj.Hd{γ:Gh}:∀{l:List Aa} {us:List Value},us.length=l.length->(∀(i:Nat) (a:Aa) (u:Value),l[i]?=some a->us[i]?=some u->BQ γ a u)->Bj γ l us
 |[],us,hl,_=>by rw[Bj];exact Dy hl
 |x::l,[],hl,_=>by simp at hl
 |x::l,u::us,hl,h=>by rw[Bj];exact⟨u,us,rfl,h 0 x u rfl rfl,Bj.Hd (by simpa using hl) λi a v hi hv=>h (i+1) a v (by simpa using hi) (by simpa using hv)⟩
def Bj.append{γ:Gh}:∀{l l':List Aa} {us DT:List Value},Bj γ l us->Bj γ l' DT->Bj γ (l++l') (us++DT)
 |[],l',us,DT,h,h'=>by rw[Bj] at h;subst h;simpa using h'
 |a::l,l',us,DT,h,h'=>by rw[Bj] at h;obtain⟨u,r,rfl,h1,h2⟩:=h;rw[CC,Bj];exact⟨u,r++DT,rfl,h1,h2.append h'⟩
def Bj.take{γ:Gh}{l:List Aa}{us:List Value}(h:Bj γ l us)(n:Nat):Bj γ (l.take n) (us.take n):=by
 refine Bj.Hd (by simp[h.length]) λi a u hi hu=>?_;rw[Ci] at hi hu;split at hi;.rename_i hlt;rw[Af hlt] at hu;obtain⟨v,hv,hr⟩:=h.get hi;rw[hu] at hv;cases hv;exact hr
 .cases hi
def Bj.drop{γ:Gh}{l:List Aa}{us:List Value}(h:Bj γ l us)(n:Nat):Bj γ (l.drop n) (us.drop n):=by refine Bj.Hd (by simp[h.length]) λi a u hi hu=>?_;rw[Ct] at hi hu;obtain⟨v,hv,hr⟩:=h.get hi;rw[hu] at hv;cases hv;exact hr
def C8.get{γ:Gh}:∀{l:List Aa} {b o:Nat},C8 γ l b o->∀{i:Nat} {a:Aa},l[i]?=some a->∃u,γ.Iw b (o+i)=some u/\BQ γ a u
 |[],b,o,h,i,a,hi=>by simp at hi
 |x::l,b,o,h,i,a,hi=>by
  rw[C8] at h;obtain⟨⟨u,hu,h1⟩,h2⟩:=h;cases i with
  |zero=>simp at hi;subst hi;exact⟨u,hu,h1⟩
  |succ i=>simp at hi;obtain⟨v,hv,hr⟩:=h2.get hi;exact⟨v,by rw[<-hv];congr 1;omega,hr⟩
def C8.Hd{γ:Gh}:∀{l:List Aa} {b o:Nat},(∀(i:Nat) (a:Aa),l[i]?=some a->∃u,γ.Iw b (o+i)=some u/\BQ γ a u)->C8 γ l b o
 |[],b,o,h=>by rw[C8];trivial
 |x::l,b,o,h=>by rw[C8];refine⟨h 0 x rfl,C8.Hd λi a hi=>?_⟩;obtain⟨u,hu,hr⟩:=h (i+1) a (by simpa using hi);exact⟨u,by rw[<-hu];congr 1;omega,hr⟩
def C8.drop{γ:Gh}{l:List Aa}{b o:Nat}(h:C8 γ l b o)(n:Nat):C8 γ (l.drop n) b (o+n):=by refine C8.Hd λi a hi=>?_;rw[Ct] at hi;obtain⟨u,hu,hr⟩:=h.get hi;exact⟨u,by rw[<-hu];congr 1;omega,hr⟩
def C8.values{γ:Gh}:∀{l:List Aa} {b o:Nat},C8 γ l b o->∃us:List Value,Bj γ l us/\∀(j:Nat) (u:Value),us[j]?=some u->γ.Iw b (o+j)=some u
 |[],b,o,h=>⟨[],by rw[Bj],AH⟩
 |x::l,b,o,h=>by
  rw[C8] at h;obtain⟨⟨u,hu,h1⟩,h2⟩:=h;obtain⟨us,hr,hi⟩:=h2.values;refine⟨u::us,by rw[Bj];exact⟨u,us,rfl,h1,hr⟩,λj v hj=>?_⟩;cases j with
  |zero=>simp at hj;subst hj;exact hu
  |succ j=>simp at hj;rw[<-hi j v hj];congr 1;omega
def E5.get{γ:Gh}:∀{rs:List (List Aa)} {z b o:Nat},E5 γ rs z b o->∀{i:Nat} {r:List Aa},rs[i]?=some r->r.length=z/\C8 γ r b (o+i*z)
 |[],z,b,o,h,i,r,hi=>by simp at hi
 |x::rs,z,b,o,h,i,r,hi=>by
  rw[E5] at h;cases i with
  |zero=>simp at hi;subst hi;simpa using⟨h.1,h.2.1⟩
  |succ i=>simp at hi;obtain⟨h1,h2⟩:=h.2.2.get hi;exact⟨h1,by rw[show o+(i+1)*z=o+z+i*z by rw[BH,D7];omega];exact h2⟩
def E5.Hd{γ:Gh}:∀{rs:List (List Aa)} {z b o:Nat},(∀(i:Nat) (r:List Aa),rs[i]?=some r->r.length=z/\C8 γ r b (o+i*z))->E5 γ rs z b o
 |[],z,b,o,h=>by rw[E5];trivial
 |x::rs,z,b,o,h=>by rw[E5];have h0:=h 0 x rfl;refine⟨h0.1,by simpa using h0.2,E5.Hd λi r hi=>?_⟩;obtain⟨h1,h2⟩:=h (i+1) r (by simpa using hi);exact⟨h1,by rw[show o+z+i*z=o+(i+1)*z by rw[BH,D7];omega];exact h2⟩
def E5.length{γ:Gh}:∀{rs:List (List Aa)} {z b o:Nat},E5 γ rs z b o->rs.flatten.length=rs.length*z
 |[],z,b,o,h=>AH
 |x::rs,z,b,o,h=>by rw[E5] at h;simp[h.1,h.2.2.length,BH,Ph]
def Oh{b:Addr}{n cap:Nat}(hs:b.spot=none\/cap=0)(hc:n<=cap)(hn:0<n):b=⟨b.block,b.off,none⟩:=by
 rcases hs with hs|hs
 .cases b;simp_all
 .omega
def E5.values{γ:Gh}:∀{rs:List (List Aa)} {z b o:Nat},E5 γ rs z b o->∃us:List Value,Bj γ rs.flatten us/\us.length=rs.length*z/\∀(j:Nat) (u:Value),us[j]?=some u->γ.Iw b (o+j)=some u
 |[],z,b,o,h=>⟨[],by simp[Bj],AH,AH⟩
 |x::rs,z,b,o,h=>by
  rw[E5] at h;obtain⟨us,h1,h2⟩:=h.2.1.values;obtain⟨vs,e,d,c⟩:=h.2.2.values;have hl:us.length=z:=by rw[h1.length,h.1]
  refine⟨us++vs,by simpa using h1.append e,by simp[hl,d,BH,Ph],λj u hj=>?_⟩;rw[aJG] at hj;split at hj;.exact h2 j u hj
  .rename_i Eg;rw[<-c _ _ hj];congr 1
   omega
def IZ(γ:Gh)(B:Nat)(w:World)(s:Nat)(c:Option Nat)(v:Value)(a:Aa):Prop:=
 (a= .slnil\/∃z,a= .Gf z)\/∃g n cap us e z AE,a= .sl z AE/\v= .slice (some ⟨g,0,none⟩) n cap/\γ.Bu g=some (.tail s c (n*z))/\B<=g/\
  w.heap[g]?=some (.cells us e (0,0))/\us.size=cap*z/\n<=cap/\cap<=maxLen/\0<z
def LG(γ:Gh)(β:Nat->Nat)(B:Nat)(w:World)(s:Nat):Es->Value->Prop
 | .undef,_=>True
 | .skip,v=>v=undef
 | .val a,v=>BQ γ a v
 | .O8 b,v=>v= .bool b
 | .Bu a,v=>BQ γ a v/\IZ γ B w s none v a
 | .box _ cs ow,v=>v= .pointer (some ⟨β s,0,none⟩)/\γ.Bu (β s)=some (.loc s)/\B<=β s/\
  ∃us e,w.heap[β s]?=some (.cells us e (0,0))/\Bj γ cs us.toList/\(∀u∈us.toList,u.oneCell'=true)/\
   ∀o∈ow,∃u a,us[o]?=some u/\cs[o]?=some a/\IZ γ B w s (some o) u a
 | .Fi s' o,v=>v= .pointer (some ⟨β s',o,none⟩)
structure FR(γ:Gh)(β:Nat->Nat)(B:Nat)(U:BT)(tmps:Array Value)(w:World):Prop where
 size:U.length=tmps.size
 It:∀s,LG γ β B w s (U.at s) (tmps.getD s undef)
def Ll(γ:Gh):List (Aa×Aa)->List MapEntry->Prop
 |[],es=>es=[]
 |(k,v)::l,es=>∃e Vw,es=e::Vw/\BQ γ k e.key/\BQ γ v e.val/\Ll γ l Vw
def po(γ:Gh)(l:List (Aa×Aa))(es:Array MapEntry)(clock:Nat):Prop:=
 Ll γ l es.toList/\clock=es.size/\∀(i:Nat) (e:MapEntry),es[i]?=some e->e.born=i
def TT(fr:Nat×Nat)(n:Nat):Prop:=fr=(0,0)\/n<=fr.1
structure Hm(γ:Gh)(h:Ah)(w:World):Prop where
 Iw:∀b o v,γ.Iw b o=some v->w.cell? ⟨b,o,none⟩=some v/\v.oneCell'=true/\(γ.Bu b=none\/∃s c st,γ.Bu b=some (.tail s c st)/\o<st)
 Mj:∀id x,h[id]?=some x->x≠ .CR->∃b,γ.mu id=some b/\γ.Bu b=some (.Mj id)
 cells:∀id cs,h[id]?=some (.cells cs)->∀b,γ.mu id=some b->∃us e fr,w.heap[b]?=some (.cells us e fr)/\TT fr us.size/\Bj γ cs (us.toList.take cs.length)/\∀u∈us.toList.take cs.length,u.oneCell'=true
 map:∀id es,h[id]?=some (.map es)->∀b,γ.mu id=some b->∃DE clock,w.heap[b]?=some (.map DE clock)/\po γ es DE clock
 mu:∀id b,γ.mu id=some b->id<h.length
 Bu:∀b x,γ.Bu b=some x->b<w.heap.size
 sz:∀b n,γ.sz b=some n->(∃us e fr,w.heap[b]?=some (.cells us e fr)/\us.size=n)/\(γ.Bu b=none\/∃id,γ.Bu b=some (.Mj id))
structure Lm(γ0:Gh)(w0:World)(γ:Gh)(w:World):Prop where
 le:γ0.le γ
 size:w0.heap.size<=w.heap.size
 os:w.os=w0.os
 tape:w.tape=w0.tape
 output:w.output=w0.output
 Oi:∀b,b<w0.heap.size->(∀id,γ0.Bu b≠some (.Mj id))->w.heap[b]?=w0.heap[b]?/\γ.Bu b=γ0.Bu b
def Lm.refl(γ:Gh)(w:World):Lm γ w γ w:=⟨.refl _,Ag _,rfl,rfl,rfl,λ_ _ _=>⟨rfl,rfl⟩⟩
def Lm.trans{γ0 d c:Gh}{w0 w1 e:World}(h:Lm γ0 w0 d w1)(k:Lm d w1 c e):Lm γ0 w0 c e:=by refine⟨h.le.trans k.le,Bs h.size k.size,k.os.trans h.os,k.tape.trans h.tape,k.output.trans h.output,λb hb hn=>?_⟩;.obtain⟨h1,h2⟩:=h.Oi b hb hn;obtain⟨g,f⟩:=k.Oi b (Jp hb h.size) (λid=>by rw[h2];exact hn id);exact⟨g.trans h1,f.trans h2⟩
structure ez(γ:Gh)(w:World)(γ':Gh)(w':World):Prop where
 le:γ.le γ'
 Oi:∀b x,γ.Bu b=some x->x.pk=false->γ'.Bu b=some x/\w'.heap[b]?=w.heap[b]?
def ez.aBI{γ γ':Gh}{h:Ah}{w w':World}(hi:Hm γ h w)(ha:Lm γ w γ' w'):ez γ w γ' w':=by refine⟨ha.le,λb x hb hx=>?_⟩;obtain⟨h1,h2⟩:=ha.Oi b (hi.Bu b x hb) (λid Ie=>by rw[hb] at Ie;cases Ie;simp[KH.pk] at hx);exact⟨h2.trans hb,h1⟩
def IZ.kept{γ γ':Gh}{B:Nat}{w w':World}{s:Nat}{c:Option Nat}{v:Value}{a:Aa}(h:IZ γ B w s c v a)(k:ez γ w γ' w'):IZ γ' B w' s c v a:=by
 rcases h with h|⟨g,n,cap,us,e,z,AE,h1,h2,l,j,i,f⟩
 .exact .inl h
 .obtain⟨d,b⟩:=k.Oi g _ l rfl;exact .inr ⟨g,n,cap,us,e,z,AE,h1,h2,d,j,by rw[b];exact i,f⟩
def LG.kept{γ γ':Gh}{β:Nat->Nat}{B:Nat}{w w':World}{s:Nat}{x:Es}{v:Value}(h:LG γ β B w s x v)(k:ez γ w γ' w'):LG γ' β B w' s x v:=by
 cases x with
 |undef=>trivial
 |skip=>exact h
 |val a=>exact BQ.mono k.le a v h
 |O8 b=>exact h
 |Bu a=>exact⟨BQ.mono k.le a v h.1,h.2.kept k⟩
 |box ver cs ow=>obtain⟨h1,h2,l,us,e,j,i,g,f⟩:=h;obtain⟨d,c⟩:=k.Oi _ _ h2 rfl;exact⟨h1,d,l,us,e,by rw[c];exact j,Bj.mono k.le cs _ i,g,λo ho=>let⟨u,a,p,q,r⟩:=f o ho;⟨u,a,p,q,r.kept k⟩⟩
 |Fi s' o=>exact h
def FR.kept{γ γ':Gh}{β:Nat->Nat}{B:Nat}{U:BT}{tmps:Array Value}{w w':World}(h:FR γ β B U tmps w)(k:ez γ w γ' w'):FR γ' β B U tmps w':=
 ⟨h.size,λs=>(h.It s).kept k⟩
end Go.Am
end
section
namespace Go.Am
def CV{w w':World}{b o:Nat}(h:w'.heap[b]?=w.heap[b]?):w'.cell? ⟨b,o,none⟩=w.cell? ⟨b,o,none⟩:=by simp[World.cell?,h]
def DV{w:World}{b o:Nat}{v:Value}(h:w.cell? ⟨b,o,none⟩=some v):b<w.heap.size:=by
 rcases AP b w.heap.size with h'|h'
 .exact h'
 .simp[World.cell?,Array.getElem?_eq_none h'] at h
def Hm.aBJ{γ:Gh}{h:Ah}{w:World}(hi:Hm γ h w){b o:Nat}{v:Value}(hb:γ.Iw b o=some v):b<w.heap.size:=DV (hi.Iw b o v hb).1
def Hm.same{γ:Gh}{h:Ah}{w w':World}(hi:Hm γ h w)(c:w'.heap=w.heap):Hm γ h w':=by
 refine⟨λb o v hb=>?_,hi.Mj,λid cs hc b hb=>?_,λid es hc b hb=>?_,hi.mu,λb x hx=>?_,λb n hb=>by rw[c];exact hi.sz b n hb⟩;.obtain⟨h1,h2,d⟩:=hi.Iw b o v hb;have e:=CV (w:=w) (w':=w') (b:=b) (o:=o) (by rw[c]);exact⟨e.trans h1,h2,d⟩
 .rw[c];exact hi.cells id cs hc b hb
 .rw[c];exact hi.map id es hc b hb
 .rw[c];exact hi.Bu b x hx
def Lm.same{γ:Gh}{w w':World}(b:w'.heap=w.heap)(h1:w'.os=w.os)(h2:w'.tape=w.tape)(c:w'.output=w.output):Lm γ w γ w':=
 ⟨.refl _,by rw[b];exact Ag _,h1,h2,c,λ_ _ _=>⟨by rw[b],rfl⟩⟩
def Lm.drew(γ:Gh)(w:World):Lm γ w γ w.drew:=Lm.same rfl rfl rfl rfl
def Gh.DB(γ:Gh)(b:Nat)(us:Array Value)(k:Nat)(x:Option KH):Gh:=
 {Iw:=λb' o=>if b'=b then(if o<k then us[o]? else none) else γ.Iw b' o,mu:=γ.mu,Bu:=λb'=>if b'=b then x else γ.Bu b',sz:=γ.sz}
def Gh.B1(γ:Gh)(b id:Nat)(n:Option Nat):Gh:=
 {Iw:=γ.Iw,mu:=λi=>if i=id then some b else γ.mu i,Bu:=λb'=>if b'=b then some (.Mj id) else γ.Bu b',sz:=λb'=>if b'=b then n else γ.sz b'}
section
variable{γ:Gh}{h:Ah}{w:World}
def EK(w:World)(o:Obj){b:Nat}(hb:b<w.heap.size):(w.alloc o).heap[b]?=w.heap[b]?:=heap_alloc_old w o b hb
def Pw(hi:Hm γ h w)(us:Array Value)(e:TypeId)(fr:Nat×Nat)(k:Nat)(x:Option KH)(h1:∀o u,o<k->us[o]?=some u->u.oneCell'=true)
  (hx:x=none\/(∃s c,x=some (.tail s c k))\/(k=0/\∀id,x≠some (.Mj id))):
  Hm (γ.DB w.heap.size us k x) h (w.alloc (.cells us e fr))/\Lm γ w (γ.DB w.heap.size us k x) (w.alloc (.cells us e fr)):=by
 have FG:γ.Bu w.heap.size=none:=by
  cases hc:γ.Bu w.heap.size with
  |none=>rfl
  |some y=>exact absurd (hi.Bu _ y hc) (Dr _)
 have pq:∀o,γ.Iw w.heap.size o=none:=λo=>by
  cases hc:γ.Iw w.heap.size o with
  |none=>rfl
  |some y=>exact absurd (hi.aBJ hc) (Dr _)
 have En:γ.le (γ.DB w.heap.size us k x):=⟨λb' o' v' DJ=>by
  have:b'≠w.heap.size:=λhe=>by rw[he,pq] at DJ;cases DJ
  simp only[Gh.DB,Ad this];exact DJ,λ_ _ hm=>hm,λ_ _ hm=>hm⟩
 constructor
 .refine⟨λb o v hb=>?_,λid y Ie hy=>?_,λid cs hc b hb=>?_,λid es hc b hb=>?_,hi.mu,λb y hy=>?_,λb n hb=>?_⟩;rotate_left 5;.obtain⟨⟨DT,d,e_,p,q⟩,r⟩:=hi.sz b n hb;have Oj:b≠w.heap.size:=Pj (by rw[A7] at p;exact p.1);exact⟨⟨DT,d,e_,by rw[EK _ _ (by rw[A7] at p;exact p.1)];exact p,q⟩,by simp only[Gh.DB,Ad Oj];exact r⟩
  .by_cases Oj:b=w.heap.size
   .subst Oj;simp only[Gh.DB,BN] at hb⊢;split at hb
    .rename_i hlt;refine⟨by rw[cell_of_row _ _ _ us e fr (heap_alloc_new w _)];exact hb,h1 o v hlt hb,?_⟩;rcases hx with hx|⟨s,c,hx⟩|⟨hx,_⟩
     .exact .inl hx
     .exact .inr ⟨s,c,k,hx,hlt⟩
     .omega
    .cases hb
   .simp only[Gh.DB,Ad Oj] at hb⊢;obtain⟨p,q,r⟩:=hi.Iw b o v hb;exact⟨by rw[CV (EK w _ (DV p))];exact p,q,r⟩
  .obtain⟨b,p,q⟩:=hi.Mj id y Ie hy;refine⟨b,p,?_⟩;have:b≠w.heap.size:=λhe=>by rw[he,FG] at q;cases q
   simp only[Gh.DB,Ad this];exact q
  .obtain⟨DT,d,e_,p,pf,q,r⟩:=hi.cells id cs hc b hb;exact⟨DT,d,e_,by rw[EK _ _ (by rw[A7] at p;exact p.1)];exact p,pf,Bj.mono En cs _ q,r⟩
  .obtain⟨DE,clock,p,q⟩:=hi.map id es hc b hb;refine⟨DE,clock,by rw[EK _ _ (by rw[A7] at p;exact p.1)];exact p,?_,q.2⟩;replace q:=q.1;clear hc p;revert q;generalize DE.toList=l;intro q;induction es generalizing l with
   |nil=>exact q
   |cons kv es ih=>obtain⟨kk,f⟩:=kv;obtain⟨en,Vw,hl,a1,a2,a3⟩:=q;exact⟨en,Vw,hl,BQ.mono En _ _ a1,BQ.mono En _ _ a2,ih Vw a3⟩
  .by_cases Oj:b=w.heap.size;.subst Oj;simp
   .simp only[Gh.DB,Ad Oj] at hy;have:=hi.Bu b y hy;simp;omega
 .refine⟨En,AH,rfl,rfl,rfl,λb hb _=>⟨EK _ _ hb,?_⟩⟩;simp only[Gh.DB,Ad (Pj hb)]
def Ll.mono{γ γ':Gh}(En:γ.le γ'):∀{es:List (Aa×Aa)} {l:List MapEntry},Ll γ es l->Ll γ' es l
 |[],l,q=>q
 |(kk,b)::es,l,q=>by obtain⟨en,Vw,hl,a1,a2,a3⟩:=q;exact⟨en,Vw,hl,BQ.mono En _ _ a1,BQ.mono En _ _ a2,a3.mono En⟩
def po.mono{γ γ':Gh}(En:γ.le γ'){es:List (Aa×Aa)}{l:Array MapEntry}{c:Nat}(h:po γ es l c):po γ' es l c:=⟨h.1.mono En,h.2⟩
def GN(hi:Hm γ h w)(o:Obj)(x:DA)(m:Option Nat)
  (hx:(∃cs us e fr,x= .cells cs/\o= .cells us e fr/\TT fr us.size/\Bj γ cs (us.toList.take cs.length)/\(∀u∈us.toList.take cs.length,u.oneCell'=true)/\m=some us.size)\/(x= .map []/\o= .map #[] 0/\m=none)):
  Hm (γ.B1 w.heap.size h.length m) (h++[x]) (w.alloc o)/\Lm γ w (γ.B1 w.heap.size h.length m) (w.alloc o):=by
 have FG:γ.Bu w.heap.size=none:=by
  cases hc:γ.Bu w.heap.size with
  |none=>rfl
  |some y=>exact absurd (hi.Bu _ y hc) (Dr _)
 have c:γ.mu h.length=none:=by
  cases hc:γ.mu h.length with
  |none=>rfl
  |some y=>exact absurd (hi.mu _ y hc) (Dr _)
 have K5:γ.sz w.heap.size=none:=by
  cases hc:γ.sz w.heap.size with
  |none=>rfl
  |some y=>obtain⟨⟨_,_,_,p,_⟩,_⟩:=hi.sz _ y hc;rw[A7] at p;exact absurd p.1 (Dr _)
 have En:γ.le (γ.B1 w.heap.size h.length m):=⟨λ_ _ _ hv=>hv,λid b hm=>by
  have:id≠h.length:=λhe=>by rw[he,c] at hm;cases hm
  simp only[Gh.B1,Ad this];exact hm,λb n hm=>by
  have:b≠w.heap.size:=λhe=>by rw[he,K5] at hm;cases hm
  simp only[Gh.B1,Ad this];exact hm⟩
 constructor
 .refine⟨λb o' v hb=>?_,λid y Ie hy=>?_,λid cs hc b hb=>?_,λid es hc b hb=>?_,λid b hb=>?_,λb y hy=>?_,λb n hb=>?_⟩;rotate_left 6
  .by_cases Oj:b=w.heap.size
   .subst Oj;simp only[Gh.B1,BN] at hb;rcases hx with⟨GY,us,e,fr,rfl,rfl,pf,p,q,rfl⟩|⟨rfl,rfl,rfl⟩
    .cases hb;exact⟨⟨us,e,fr,heap_alloc_new w _,rfl⟩,.inr ⟨h.length,by simp[Gh.B1]⟩⟩
    .cases hb
   .simp only[Gh.B1,Ad Oj] at hb⊢;obtain⟨⟨DT,d,e_,p,q⟩,r⟩:=hi.sz b n hb;exact⟨⟨DT,d,e_,by rw[EK _ _ (by rw[A7] at p;exact p.1)];exact p,q⟩,r⟩
  .obtain⟨p,q,r⟩:=hi.Iw b o' v hb;have Oj:b≠w.heap.size:=Pj (DV p);exact⟨by rw[World.cell?_alloc_old _ _ _ Oj];exact p,q,by simp only[Gh.B1,Ad Oj];exact r⟩
  .by_cases he:id=h.length;.exact⟨w.heap.size,by simp[Gh.B1,he],by simp[Gh.B1,he]⟩
   .have Xk:id<h.length:=by rw[Ak] at Ie;obtain⟨hl,_⟩:=Ie;simp at hl;omega
    rw[Aj Xk] at Ie;obtain⟨b,p,q⟩:=hi.Mj id y Ie hy;have Oj:b≠w.heap.size:=λhe=>by rw[he,FG] at q;cases q
    exact⟨b,by simp only[Gh.B1,Ad he];exact p,by simp only[Gh.B1,Ad Oj];exact q⟩
  .by_cases he:id=h.length
   .subst he;simp[Gh.B1] at hb;subst hb;simp at hc;rcases hx with⟨GY,us,e,fr,rfl,rfl,pf,p,q,rfl⟩|⟨rfl,rfl,rfl⟩
    .cases hc;exact⟨us,e,fr,heap_alloc_new w _,pf,Bj.mono En _ _ p,q⟩
    .cases hc
   .simp only[Gh.B1,Ad he] at hb;have Xk:=hi.mu id b hb;rw[Aj Xk] at hc;obtain⟨DT,d,e_,p,pf,q,r⟩:=hi.cells id cs hc b hb;exact⟨DT,d,e_,by rw[EK _ _ (by rw[A7] at p;exact p.1)];exact p,pf,Bj.mono En _ _ q,r⟩
  .by_cases he:id=h.length
   .subst he;simp[Gh.B1] at hb;subst hb;simp at hc;rcases hx with⟨GY,us,e,fr,rfl,rfl,pf,p,q,rfl⟩|⟨rfl,rfl,rfl⟩
    .cases hc
    .cases hc;exact⟨#[],0,heap_alloc_new w _,rfl,rfl,AH⟩
   .simp only[Gh.B1,Ad he] at hb;have Xk:=hi.mu id b hb;rw[Aj Xk] at hc;obtain⟨DE,clock,p,q⟩:=hi.map id es hc b hb;exact⟨DE,clock,by rw[EK _ _ (by rw[A7] at p;exact p.1)];exact p,q.mono En⟩
  .by_cases he:id=h.length;.simp[he]
   .simp only[Gh.B1,Ad he] at hb;have:=hi.mu id b hb;simp;omega
  .by_cases Oj:b=w.heap.size;.subst Oj;simp
   .simp only[Gh.B1,Ad Oj] at hy;have:=hi.Bu b y hy;simp;omega
 .refine⟨En,AH,rfl,rfl,rfl,λb hb _=>⟨EK _ _ hb,?_⟩⟩;simp only[Gh.B1,Ad (Pj hb)]
def fc(hi:Hm γ h w){g s:Nat}(hg:γ.Bu g=some (.loc s))(us:Array Value):Hm γ h (w.setRow g us):=by
 refine⟨λb o v hb=>?_,hi.Mj,λid cs hc b hb=>?_,λid es hc b hb=>?_,hi.mu,λb x hx=>?_,λb n hb=>?_⟩;rotate_left 4
 .obtain⟨p,r⟩:=hi.sz b n hb;have:b≠g:=λhe=>by subst he;rw[hg] at r;rcases r with r|⟨_,r⟩<;>cases r
  exact⟨by rw[setRow_other w g b us this];exact p,r⟩
 .obtain⟨p,q,r⟩:=hi.Iw b o v hb;have:b≠g:=λhe=>by subst he;rw[hg] at r;rcases r with r|⟨_,_,_,r,_⟩<;>cases r
  exact⟨by rw[CV (setRow_other w g b us this)];exact p,q,r⟩
 .have Ru:b≠g:=λhe=>by subst he;obtain⟨b',p,q⟩:=hi.Mj id _ hc AH;rw[hb] at p;cases p;rw[hg] at q;cases q
  rw[setRow_other w g b us Ru];exact hi.cells id cs hc b hb
 .have Ru:b≠g:=λhe=>by subst he;obtain⟨b',p,q⟩:=hi.Mj id _ hc AH;rw[hb] at p;cases p;rw[hg] at q;cases q
  rw[setRow_other w g b us Ru];exact hi.map id es hc b hb
 .have:=hi.Bu b x hx;simpa[World.setRow] using this
def NA(hi:Hm γ h w){g id:Nat}{cs:List Aa}(hcs:h[id]?=some (.cells cs))(hg:γ.mu id=some g){us:Array Value}{e:TypeId}{fr:Nat×Nat}(hw:w.heap[g]?=some (.cells us e fr))(DT:Array Value)(GY:List Aa)(Z0:DT.size=us.size)(xJ:TT fr DT.size)
  (hr:Bj γ GY (DT.toList.take GY.length)) (h1:∀u∈DT.toList.take GY.length,u.oneCell'=true):
  Hm γ (h.set id (.cells GY)) (w.setRow g DT)/\Lm γ w γ (w.setRow g DT):=by
 obtain⟨f,p,TH⟩:=hi.Mj id _ hcs AH;rw[hg] at p;cases p;have uniq:∀FN x,h[FN]?=some x->x≠ .CR->γ.mu FN=some g->FN=id:=λFN x hx c hm=>by obtain⟨b',p,q⟩:=hi.Mj FN x hx c;rw[hm] at p;cases p;rw[TH] at q;cases q;rfl
 constructor
 .refine⟨λb o v hb=>?_,λFN y Ie hy=>?_,λFN cs hc b hb=>?_,λFN es hc b hb=>?_,λFN b hb=>by simpa using hi.mu FN b hb,λb x hx=>?_,λb n hb=>?_⟩;rotate_left 5
  .obtain⟨⟨rH,d,pv,p,q⟩,r⟩:=hi.sz b n hb;by_cases he:b=g;.subst he;rw[hw] at p;cases p;exact⟨⟨DT,e,fr,setRow_heap w b us DT e fr hw,by rw[Z0];exact q⟩,r⟩
   .exact⟨⟨rH,d,pv,by rw[setRow_other w g b DT he];exact p,q⟩,r⟩
  .obtain⟨p,q,r⟩:=hi.Iw b o v hb;have:b≠g:=λhe=>by subst he;rw[TH] at r;rcases r with r|⟨_,_,_,r,_⟩<;>cases r
   exact⟨by rw[CV (setRow_other w g b DT this)];exact p,q,r⟩
  .by_cases he:FN=id;.subst he;exact⟨g,hg,TH⟩
   .rw[Ao (λx=>he x.symm)] at Ie;exact hi.Mj FN y Ie hy
  .by_cases he:FN=id;.subst he;rw[hg] at hb;cases hb;rw[AO (hi.mu _ _ hg)] at hc;cases hc;exact⟨DT,e,fr,setRow_heap w g us DT e fr hw,xJ,hr,h1⟩
   .rw[Ao (λx=>he x.symm)] at hc;have Ru:b≠g:=λhx=>by subst hx;exact he (uniq FN _ hc AH hb)
    rw[setRow_other w g b DT Ru];exact hi.cells FN cs hc b hb
  .by_cases he:FN=id;.subst he;rw[AO (hi.mu _ _ hg)] at hc;cases hc
   .rw[Ao (λx=>he x.symm)] at hc;have Ru:b≠g:=λhx=>by subst hx;exact he (uniq FN _ hc AH hb)
    rw[setRow_other w g b DT Ru];exact hi.map FN es hc b hb
  .have:=hi.Bu b x hx;simpa[World.setRow] using this
 .refine⟨.refl _,by simp[World.setRow],rfl,rfl,rfl,λb hb hn=>⟨?_,rfl⟩⟩;exact setRow_other w g b DT (λhe=>by subst he;exact hn id TH)
def rI(hi:Hm γ h w){g s st:Nat}{c:Option Nat}(hg:γ.Bu g=some (.tail s c st)){us:Array Value}{e:TypeId}(hw:w.heap[g]?=some (.cells us e (0,0)))(DT:Array Value)(k:Nat)(s':Nat)(c':Option Nat)
  (NB:∀o,o<st->DT[o]?=us[o]?) (hk:st<=k) (h1:∀o u,o<k->DT[o]?=some u->u.oneCell'=true) (cJ:∀o v,γ.Iw g o=some v->us[o]?=some v):
  Hm (γ.DB g DT k (some (.tail s' c' k))) h (w.setRow g DT)/\γ.le (γ.DB g DT k (some (.tail s' c' k))):=by
 have hlt:∀o v,γ.Iw g o=some v->o<st:=λo v ho=>by
  obtain⟨_,_,r⟩:=hi.Iw g o v ho;rw[hg] at r;rcases r with r|⟨_,_,_,r,hl⟩
  .cases r
  .cases r;exact hl
 have En:γ.le (γ.DB g DT k (some (.tail s' c' k))):=⟨λb o v hb=>by
  by_cases he:b=g;.subst he;have:=hlt o v hb;simp only[Gh.DB,BN,Af (Jp this hk)];rw[NB o this];exact cJ o v hb
  .simp only[Gh.DB,Ad he];exact hb,λ_ _ hm=>hm,λ_ _ hm=>hm⟩
 refine⟨⟨λb o v hb=>?_,λid y Ie hy=>?_,λid cs hc b hb=>?_,λid es hc b hb=>?_,hi.mu,λb x hx=>?_,λb n hb=>?_⟩,En⟩;rotate_left 5
 .obtain⟨p,r⟩:=hi.sz b n hb;have:b≠g:=λhe=>by subst he;rw[hg] at r;rcases r with r|⟨_,r⟩<;>cases r
  exact⟨by rw[setRow_other w g b DT this];exact p,by simp only[Gh.DB,Ad this];exact r⟩
 .by_cases he:b=g
  .subst he;simp only[Gh.DB,BN] at hb⊢;split at hb
   .rename_i hl;exact⟨by rw[cell_of_row _ _ _ DT e (0,0) (setRow_heap w b us DT e (0,0) hw)];exact hb,
     h1 o v hl hb,.inr ⟨s',c',k,rfl,hl⟩⟩
   .cases hb
  .simp only[Gh.DB,Ad he] at hb⊢;obtain⟨p,q,r⟩:=hi.Iw b o v hb;exact⟨by rw[CV (setRow_other w g b DT he)];exact p,q,r⟩
 .obtain⟨b,p,q⟩:=hi.Mj id y Ie hy;have:b≠g:=λhe=>by subst he;rw[hg] at q;cases q
  exact⟨b,p,by simp only[Gh.DB,Ad this];exact q⟩
 .replace hb:γ.mu id=some b:=hb;obtain⟨b',p,q⟩:=hi.Mj id _ hc AH;rw[hb] at p;cases p;have:b≠g:=λhe=>by subst he;rw[hg] at q;cases q
  rw[setRow_other w g b DT this];obtain⟨rH,j,pv,i,f,d,r2⟩:=hi.cells id cs hc b hb;exact⟨rH,j,pv,i,f,Bj.mono En _ _ d,r2⟩
 .replace hb:γ.mu id=some b:=hb;obtain⟨b',p,q⟩:=hi.Mj id _ hc AH;rw[hb] at p;cases p;have:b≠g:=λhe=>by subst he;rw[hg] at q;cases q
  rw[setRow_other w g b DT this];obtain⟨DE,clock,i,d⟩:=hi.map id es hc b hb;exact⟨DE,clock,i,d.mono En⟩
 .by_cases he:b=g;.subst he;have:=hi.Bu b _ hg;simpa[World.setRow] using this
  .simp only[Gh.DB,Ad he] at hx;have:=hi.Bu b x hx;simpa[World.setRow] using this
def Lm.write{γ0 c:Gh}{w0:World}(ha:Lm γ0 w0 γ w){w1:World}{g:Nat}(hg:w0.heap.size<=g)(En:γ.le c)(hs:w1.heap.size=w.heap.size)(h1:w1.os=w.os)(h2:w1.tape=w.tape)(e:w1.output=w.output)
  (hk:∀b,b≠g->w1.heap[b]?=w.heap[b]?/\c.Bu b=γ.Bu b):Lm γ0 w0 c w1:=by
 refine⟨ha.le.trans En,by rw[hs];exact ha.size,h1.trans ha.os,h2.trans ha.tape,e.trans ha.output,λb hb hn=>?_⟩;.obtain⟨p,q⟩:=ha.Oi b hb hn;obtain⟨p',d⟩:=hk b Ab;exact⟨p'.trans p,d.trans q⟩
def px(hi:Hm γ h w){g id:Nat}{cs:List Aa}(hcs:h[id]?=some (.cells cs))(hg:γ.mu id=some g){us:Array Value}{e:TypeId}{fr:Nat×Nat}(hw:w.heap[g]?=some (.cells us e fr))(h1:∀u∈us.toList.take cs.length,u.oneCell'=true):
  Hm (γ.DB g us cs.length none) (h.set id .CR) w/\Lm γ w (γ.DB g us cs.length none) w:=by
 obtain⟨f,p,TH⟩:=hi.Mj id _ hcs AH;rw[hg] at p;cases p;have uniq:∀FN x,h[FN]?=some x->x≠ .CR->γ.mu FN=some g->FN=id:=λFN x hx c hm=>by obtain⟨b',p,q⟩:=hi.Mj FN x hx c;rw[hm] at p;cases p;rw[TH] at q;cases q;rfl
 have hne:∀o v,γ.Iw g o=some v->False:=λo v hv=>by obtain⟨_,_,r⟩:=hi.Iw g o v hv;rw[TH] at r;rcases r with r|⟨_,_,_,r,_⟩<;>cases r
 have En:γ.le (γ.DB g us cs.length none):=⟨λb o v hb=>by
  have:b≠g:=λhe=>by subst he;exact hne o v hb
  simp only[Gh.DB,Ad this];exact hb,λ_ _ hm=>hm,λ_ _ hm=>hm⟩
 constructor
 .refine⟨λb o v hb=>?_,λFN y Ie hy=>?_,λFN GY hc b hb=>?_,λFN es hc b hb=>?_,λFN b hb=>by simpa using hi.mu FN b hb,λb x hx=>?_,λb n hb=>?_⟩;rotate_left 5
  .obtain⟨p,r⟩:=hi.sz b n hb;by_cases he:b=g;.subst he;exact⟨p,.inl (by simp[Gh.DB])⟩
   .exact⟨p,by simp only[Gh.DB,Ad he];exact r⟩
  .by_cases he:b=g
   .subst he;simp only[Gh.DB,BN] at hb⊢;split at hb;.rename_i hlt;exact⟨by rw[cell_of_row _ _ _ us e fr hw];exact hb,h1 v (CD (i:=o) (by rw[C3 hlt];simpa using hb)),.inl AH⟩
    .cases hb
   .simp only[Gh.DB,Ad he] at hb⊢;exact hi.Iw b o v hb
  .by_cases he:FN=id;.subst he;rw[AO (hi.mu _ _ hg)] at Ie;cases Ie;exact absurd rfl hy
   .rw[Ao (λx=>he x.symm)] at Ie;obtain⟨b,p,q⟩:=hi.Mj FN y Ie hy;have:b≠g:=λhx=>by subst hx;exact he (uniq FN y Ie hy p)
    exact⟨b,p,by simp only[Gh.DB,Ad this];exact q⟩
  .by_cases he:FN=id;.subst he;rw[AO (hi.mu _ _ hg)] at hc;cases hc
   .rw[Ao (λx=>he x.symm)] at hc;obtain⟨DT,d,e_,p,pf,q,r⟩:=hi.cells FN GY hc b hb;exact⟨DT,d,e_,p,pf,Bj.mono En _ _ q,r⟩
  .by_cases he:FN=id;.subst he;rw[AO (hi.mu _ _ hg)] at hc;cases hc
   .rw[Ao (λx=>he x.symm)] at hc;obtain⟨DT,d,p,q⟩:=hi.map FN es hc b hb;exact⟨DT,d,p,q.mono En⟩
  .by_cases he:b=g;.subst he;exact hi.Bu b _ TH
   .simp only[Gh.DB,Ad he] at hx;exact hi.Bu b x hx
 .refine⟨En,Ag _,rfl,rfl,rfl,λb hb hn=>⟨rfl,?_⟩⟩;have:b≠g:=λhe=>by subst he;exact hn id TH
  simp only[Gh.DB,Ad this]
end
end Go.Am
end
section
namespace Go.Am
def EM.NC(C:FY)(run:IT->Ah->Option Ka)(U:BT)(h:Ah)(e:BT)(h':Ah):EM->Prop
 | .pure ws=>e=U.El ws/\h'=h
 | .op p args dst Bu i=>∃v,AD p args=some v/\e=(U.DU i).put dst (if Bu then .Bu v else .val v)/\h'=h
 | .box n v d=>v.cells.length=n/\e=U.set d (.box 0 v.cells [])/\h'=h
 | .closure fn a b fz d=>e=(U.El (fz.map λ(s,cs)=>(s,.val (.CH cs)))).set d (.val (.func fn a b))/\h'=h
 | .Ni s off n v Bu i ver cells owned=>v.cells.length=n/\e=(U.DU i).set s (.box (ver+1) (Xe cells off n v.cells) (Sj owned off n Bu))/\h'=h
 | .load n p dst=>∃v,A8 h n p=some v/\e=U.put dst (.val v)/\h'=h
 | .store n p v=>Cv h n p v=some h'/\e=U
 | .alloc n v dst=>v.cells.length=n/\h'=h++[.cells v.cells]/\e=U.put dst (.val (.ptr (some (h.length,0))))
 | .call f args dst=>∃r,run (B9 C f args) h=some (.ret,[r],h')/\e=U.put dst (if C.Jl f then .Bu r else .val r)
 | .Jd g args dst=>∃f args' r,Dp g args=some (f,args')/\run (B9 C f args') h=some (.ret,[r],h')/\e=U.put dst (.val r)
 | .B7 f args dst=>args.all Aa.MT=true/\∃r h1,run (B9 C f args) []=some (.ret,[r],h1)/\r.MT=true/\e=U.put dst (.val r)/\h'=h
 | .Po dst=>h'=h++[.map []]/\e=U.put dst (.val (.map (some h.length)))
 | .Kz m k v=>Q2 h m k v=some h'/\e=U
 | .make z b zero l c dst=>∃v,Sg h z b zero l c=some (h',v)/\e=U.put dst (.val v)
 | .Li z b s x dst i=>∃v,KK h z b s x=some (h',v)/\e=(U.DU i).put dst (.val v)
 | .JI z b s x dst=>∃v,Gb h z b s x=some (h',v)/\e=U.put dst (.val v)
 | .GC z b s x dst i=>∃v,Q3 h z b s x=some v/\e=(U.DU i).put dst (.Bu v)/\h'=h
 | .Fa s dst=>∃v,IW h s=some (h',v)/\e=U.put dst (.val v)
 | .WV s dst=>∃v u,KA h s=some (h',v)/\AD .WV [v]=some u/\e=U.put dst (.val u)
 | .mem o args dst=>∃v,E3 o h args=some (h',v)/\e=U.put dst (if o.aFq then .undef else .val v)
 | .Mf z ok m k dst=>∃v,Pq h z ok m k=some v/\e=U.put dst (.val v)/\h'=h
def TU{n:Nat}{cs:List Aa}(h:cs.length=n):Xd n cs=cs:=by
 subst h;apply Ro;intro i;simp only[Xd,Cm,List.getD];by_cases hi:i<cs.length;.simp[List.getElem?_range hi,Al hi]
 .simp[hi]
def Z3{C:FY}{run:IT->Ah->Option Ka}{U:BT}{K:BT->IT}{h:Ah}{R:Ka}{r:EM}
  (hr:IT.step (B9 C) run (r.Mi C U K) h=some R):∃i h',r.NC C run U h i h'/\IT.step (B9 C) run (K i) h'=some R:=by
 cases r with
 |pure ws=>exact⟨_,_,⟨rfl,rfl⟩,hr⟩
 |op p args dst Bu e=>
  simp only[EM.Mi,IT.step] at hr;split at hr;.rename_i v hv;exact⟨_,_,⟨v,hv,rfl,rfl⟩,hr⟩
  .cases hr
 |box n v d=>
  simp only[EM.Mi,IT.step] at hr;split at hr;.rename_i hn;rw[TU hn] at hr;exact⟨_,_,⟨hn,rfl,rfl⟩,hr⟩
  .cases hr
 |closure fn a b fz d=>exact⟨_,_,⟨rfl,rfl⟩,hr⟩
 |Ni s off n v Bu e ver cells owned=>
  simp only[EM.Mi,IT.step] at hr;split at hr;.rename_i hn;rw[TU hn] at hr;exact⟨_,_,⟨hn,rfl,rfl⟩,hr⟩
  .cases hr
 |load n p dst=>
  simp only[EM.Mi,IT.step] at hr;split at hr;.rename_i v hv;exact⟨_,_,⟨v,hv,rfl,rfl⟩,hr⟩
  .cases hr
 |store n p v=>
  simp only[EM.Mi,IT.step] at hr;split at hr;.rename_i h1 hv;exact⟨_,_,⟨hv,rfl⟩,hr⟩
  .cases hr
 |alloc n v dst=>
  simp only[EM.Mi,IT.step,WY] at hr;by_cases hn:v.cells.length=n;.rw[Af hn] at hr;exact⟨_,_,⟨hn,rfl,rfl⟩,hr⟩
  .rw[Ad hn] at hr;cases hr
 |call f args dst=>
  simp only[EM.Mi,IT.step] at hr;split at hr;.rename_i r h1 hv;exact⟨_,_,⟨r,hv,rfl⟩,hr⟩
  .cases hr
 |Jd g args dst=>
  simp only[EM.Mi,IT.step] at hr;split at hr
  .rename_i f a' ht;split at hr;.rename_i r h1 hv;exact⟨_,_,⟨f,a',r,ht,hv,rfl⟩,hr⟩
   .cases hr
  .cases hr
 |B7 f args dst=>
  simp only[EM.Mi,IT.step] at hr;split at hr
  .rename_i Hp;split at hr
   .rename_i r h1 hv;split at hr;.rename_i mz;exact⟨_,_,⟨Hp,r,h1,hv,mz,rfl,rfl⟩,hr⟩
    .cases hr
   .cases hr
  .cases hr
 |Po dst=>exact⟨_,_,⟨rfl,rfl⟩,hr⟩
 |Kz m k v=>
  simp only[EM.Mi,IT.step] at hr;split at hr;.rename_i h1 hv;exact⟨_,_,⟨hv,rfl⟩,hr⟩
  .cases hr
 |Mf z ok m k dst=>
  simp only[EM.Mi,IT.step] at hr;split at hr;.rename_i v hv;exact⟨_,_,⟨v,hv,rfl,rfl⟩,hr⟩
  .cases hr
 |make z b zero l c dst=>
  simp only[EM.Mi,IT.step] at hr;split at hr;.rename_i h1 v hv;exact⟨_,_,⟨v,hv,rfl⟩,hr⟩
  .cases hr
 |Li z b s x dst e=>
  simp only[EM.Mi,IT.step] at hr;split at hr;.rename_i h1 v hv;exact⟨_,_,⟨v,hv,rfl⟩,hr⟩
  .cases hr
 |JI z b s x dst=>
  simp only[EM.Mi,IT.step] at hr;split at hr;.rename_i h1 v hv;exact⟨_,_,⟨v,hv,rfl⟩,hr⟩
  .cases hr
 |GC z b s x dst e=>
  simp only[EM.Mi,IT.step] at hr;split at hr;.rename_i v hv;exact⟨_,_,⟨v,hv,rfl,rfl⟩,hr⟩
  .cases hr
 |Fa s dst=>
  simp only[EM.Mi,IT.step] at hr;split at hr;.rename_i h1 v hv;exact⟨_,_,⟨v,hv,rfl⟩,hr⟩
  .cases hr
 |WV s dst=>
  simp only[EM.Mi,IT.step] at hr;split at hr
  .rename_i h1 v hv;split at hr;.rename_i u hu;exact⟨_,_,⟨v,u,hv,hu,rfl⟩,hr⟩
   .cases hr
  .cases hr
 |mem o args dst=>
  simp only[EM.Mi,IT.step] at hr;split at hr;.rename_i h1 v hv;exact⟨_,_,⟨v,hv,rfl⟩,hr⟩
  .cases hr
structure Dh(C:FY)(γ0:Gh)(w0:World)(γ:Gh)(β:Nat->Nat)(U:BT)(h:Ah)(a:Act)(w:World):Prop where
 D6:Hm γ h w
 fr:FR γ β w0.heap.size U a.tmps w
 D0:Lm γ0 w0 γ w
 defers:a.defers=[]
 Ha:∀g cs,C.Ha g=some cs->C8 γ cs g 0
def Sp{γ:Gh}{v:Value}{a:Aa}(h:Pn v=some a):BQ γ a v/\v.oneCell'=true:=by
 unfold Pn at h;split at h;case h_7=>
  rename_i fn f c;split at h;.rename_i hs;cases h;have d:f=#[]:=F8 hs.1;have b:c=#[]:=F8 hs.2;subst d;subst b;exact⟨⟨#[],#[],rfl,rfl,rfl⟩,rfl⟩
  .cases h
 all_goals first
  |(cases h;exact⟨rfl,rfl⟩)
  |cases h
def Nk{γ:Gh}:∀{vs:List Value} {as:List Aa},L7 vs=some as->Bj γ as vs/\∀v∈vs,v.oneCell'=true
 |[],as,h=>by cases h;exact⟨rfl,AH⟩
 |v::vs,as,h=>by
  unfold L7 at h;split at h;.rename_i a c h1 h2;cases h;obtain⟨p,q⟩:=Sp (γ:=γ) h1;obtain⟨p',b⟩:=Nk (γ:=γ) h2;exact⟨⟨v,vs,rfl,p,p'⟩,λx hx=>(AS.1 hx).elim (λe=>by rw[e];exact q) (b x)⟩
  .cases h
def Fu{γ:Gh}{v:Value}{a:Aa}(h:K4 v=some a):BQ γ a v:=by
 unfold K4 at h;split at h
 .rename_i cs;cases hs:L7 cs.toList with
  |none=>rw[hs] at h;cases h
  |some as=>rw[hs] at h;cases h;obtain⟨p,q⟩:=Nk (γ:=γ) hs;exact⟨cs,rfl,p,q⟩
 .exact(Sp h).1
section
variable{C:FY}{γ0 γ:Gh}{w0 w:World}{β:Nat->Nat}{U:BT}{h:Ah}{a:Act}
def Rv(hr:Dh C γ0 w0 γ β U h a w){x:Operand}{sl:Es}(hx:Ef C U x=some sl)(hn:∀s,x≠ .tmp s):∃s,LG γ β w0.heap.size w s sl (a.eval x):=by
 unfold Ef at hx;split at hx;.exact absurd rfl (hn _)
 .cases hx;exact⟨0,rfl⟩
 .cases hx;exact⟨0,rfl,.inl (.inl rfl)⟩
 .rename_i v _ _;cases hc:K4 v with
  |none=>rw[hc] at hx;cases hx
  |some u=>rw[hc] at hx;cases hx;exact⟨0,Fu hc⟩
 .rename_i g;cases hc:C.Ha g with
  |none=>rw[hc] at hx;cases hx
  |some cs=>rw[hc] at hx;cases hx;exact⟨0,g,0,rfl,hr.Ha g cs hc⟩
 .cases hx;exact⟨0,#[],#[],rfl,rfl,rfl⟩
def Sq(hr:Dh C γ0 w0 γ β U h a w)(s:Nat):LG γ β w0.heap.size w s (U.at s) (a.eval (.tmp s)):=hr.fr.It s
def Gt(hr:Dh C γ0 w0 γ β U h a w){x:Operand}{sl:Es}(hx:Ef C U x=some sl):∃s,LG γ β w0.heap.size w s sl (a.eval x)/\∀t,x= .tmp t->s=t:=by
 cases x with
 |tmp t=>cases hx;exact⟨t,Sq hr t,λ_ h=>by cases h;rfl⟩
 |const v=>obtain⟨s,h1⟩:=Rv hr hx (by intro s h;cases h);exact⟨s,h1,λ_ h=>by cases h⟩
 |global g=>obtain⟨s,h1⟩:=Rv hr hx (by intro s h;cases h);exact⟨s,h1,λ_ h=>by cases h⟩
 |func f=>obtain⟨s,h1⟩:=Rv hr hx (by intro s h;cases h);exact⟨s,h1,λ_ h=>by cases h⟩
def ND{B s:Nat}{sl:Es}{v:Value}{u:Aa}(hs:LG γ β B w s sl v)(hv:sl.Hr=some u):BQ γ u v:=by
 cases sl<;>simp[Es.Hr] at hv;.subst hv;exact hs
 .subst hv;exact hs
 .subst hv;exact hs.1
def GJ(hr:Dh C γ0 w0 γ β U h a w){x:Operand}{u:Aa}(hx:E4 C U x=some u):BQ γ u (a.eval x):=by
 unfold E4 at hx;cases hs:Ef C U x with
 |none=>rw[hs] at hx;cases hx
 |some sl=>rw[hs] at hx;obtain⟨s,h1,_⟩:=Gt hr hs;exact ND h1 hx
def D1(hr:Dh C γ0 w0 γ β U h a w):∀{xs:List Operand} {us:List Aa},Bz C U xs=some us->Bj γ us (xs.map a.eval)
 |[],us,hx=>by cases hx;rfl
 |x::xs,us,hx=>by
  unfold Bz at hx;split at hx;.rename_i u DT h1 h2;cases hx;exact⟨_,_,rfl,GJ hr h1,D1 hr h2⟩
  .cases hx
def FR.put{B:Nat}{tmps:Array Value}(hf:FR γ β B U tmps w){d:Nat}{x:Es}{v:Value}(hx:LG γ β B w d x v):FR γ β B (U.set d x) (tmps.setIfInBounds d v) w:=by
 refine⟨by simp[hf.size],λs=>?_⟩;have hs:=hf.It s;by_cases he:s=d
 .subst he;by_cases hl:s<U.length
  .have b:s<tmps.size:=by rw[<-hf.size];exact hl
   simpa[BT.at,List.getD,hl,b,Array.getD] using hx
  .have b:¬s<tmps.size:=by rw[<-hf.size];exact hl
   simpa[BT.at,List.getD,hl,b,Array.getD] using hs
 .have h1:BT.at (U.set d x) s=U.at s:=by simp[BT.at,List.getD,Ao (λe=>he e.symm)]
  have h2:(tmps.setIfInBounds d v).getD s undef=tmps.getD s undef:=by simp[Hk,qZ (λe=>he e.symm)]
  rw[h1,h2];exact hs
def FR.lW{B:Nat}{tmps:Array Value}(hf:FR γ β B U tmps w){d:Nat}{x:Es}(hx:LG γ β B w d x (tmps.getD d undef)):FR γ β B (U.set d x) tmps w:=by
 refine⟨by simp[hf.size],λs=>?_⟩;have hs:=hf.It s;by_cases he:s=d
 .subst he;by_cases hl:s<U.length;.simpa[BT.at,List.getD,hl] using hx
  .simpa[BT.at,List.getD,hl] using hs
 .have h1:BT.at (U.set d x) s=U.at s:=by simp[BT.at,List.getD,Ao (λe=>he e.symm)]
  rw[h1];exact hs
def Dh.put(hr:Dh C γ0 w0 γ β U h a w){d:Option Nat}{x:Es}{v:Value}(hx:∀s,d=some s->LG γ β w0.heap.size w s x v):Dh C γ0 w0 γ β (U.put d x) h (a.put d v) w:=by
 cases d with
 |none=>exact hr
 |some d=>exact⟨hr.D6,hr.fr.put (hx d rfl),hr.D0,hr.defers,hr.Ha⟩
def Dh.lW(hr:Dh C γ0 w0 γ β U h a w){d:Nat}{x:Es}(hx:LG γ β w0.heap.size w d x (a.tmps.getD d undef)):Dh C γ0 w0 γ β (U.set d x) h a w:=
 ⟨hr.D6,hr.fr.lW hx,hr.D0,hr.defers,hr.Ha⟩
def Dh.drop(hr:Dh C γ0 w0 γ β U h a w)(ds:List Nat):Dh C γ0 w0 γ β (U.drop ds) h a w:=by
 cases ds with
 |nil=>exact hr
 |cons d ds=>
  refine⟨hr.D6,⟨by simp[BT.drop,hr.fr.size],λs=>?_⟩,hr.D0,hr.defers,hr.Ha⟩;have hs:=hr.fr.It s;have e:(BT.drop U (d::ds)).at s=match U.at s with| .Fi t o=>if(d::ds).contains t then .undef else .Fi t o|x=>x:=by
   simp only[BT.drop,BT.at,List.getD,Cm];cases hg:U[s]? with
   |none=>rfl
   |some x=>cases x<;>rfl
  rw[e];cases hx:U.at s with
  |Fi t o=>
   rw[hx] at hs;simp only
   split;.trivial
   .exact hs
  |_=>rw[hx] at hs;exact hs
def Dh.Je(hr:Dh C γ0 w0 γ β U h a w){γ':Gh}{h':Ah}{w':World}(hi:Hm γ' h' w')(ha:Lm γ w γ' w'):Dh C γ0 w0 γ' β U h' a w':=
 ⟨hi,hr.fr.kept (ez.aBI hr.D6 ha),hr.D0.trans ha,hr.defers,λg cs hg=>C8.mono ha.le _ _ _ (hr.Ha g cs hg)⟩
def Ju{P:Program}{o:Oper}{v:Value}{w':World}{next:Act->World->Prop}{Q:Exit->Act->World->Prop}(he:(execOp a.eval o).run P w= .ok (.value v) w')(hn:next (a.put o.dst v) w'):o.wp P a w next Q:=by unfold Oper.wp;rw[he];exact hn
def rJ{P:Program}{o:Oper}{w':World}{next:Act->World->Prop}{Q:Exit->Act->World->Prop}(he:(execOp a.eval o).run P w= .ok .skip w')(hn:next (a.put o.dst undef) w'):o.wp P a w next Q:=by unfold Oper.wp;rw[he];exact hn
end
end Go.Am
end
section
namespace Go.Am
def Gh.FO(γ:Gh)(g:Nat)(x:KH):Gh:={γ with Bu:=λb=>if b=g then some x else γ.Bu b}
section
variable{C:FY}{γ0 γ:Gh}{w0 w:World}{β:Nat->Nat}{U:BT}{h:Ah}{a:Act}
def Hs(γ:Gh)(g:Nat)(x:KH):γ.le (γ.FO g x):=⟨λ_ _ _ h=>h,λ_ _ h=>h,λ_ _ h=>h⟩
def Hm.FO(hi:Hm γ h w){g s s' st:Nat}{c c':Option Nat}(hg:γ.Bu g=some (.tail s c st)):Hm (γ.FO g (.tail s' c' st)) h w:=by
 refine⟨λb o v hb=>?_,λid y Ie hy=>?_,λid cs hc b hb=>?_,λid es hc b hb=>?_,hi.mu,λb x hx=>?_,λb n hb=>?_⟩;rotate_left 5
 .obtain⟨p,r⟩:=hi.sz b n hb;have:b≠g:=λhe=>by subst he;rw[hg] at r;rcases r with r|⟨_,r⟩<;>cases r
  exact⟨p,by simp only[Gh.FO,Ad this];exact r⟩
 .obtain⟨p,q,r⟩:=hi.Iw b o v hb;refine⟨p,q,?_⟩;by_cases he:b=g
  .subst he;rw[hg] at r;rcases r with r|⟨_,_,_,r,hl⟩
   .cases r
   .cases r;exact .inr ⟨s',c',st,by simp[Gh.FO],hl⟩
  .simpa only[Gh.FO,Ad he] using r
 .obtain⟨b,p,q⟩:=hi.Mj id y Ie hy;have:b≠g:=λhe=>by subst he;rw[hg] at q;cases q
  exact⟨b,p,by simp only[Gh.FO,Ad this];exact q⟩
 .obtain⟨us,e,fr,p,pf,q,r⟩:=hi.cells id cs hc b hb;exact⟨us,e,fr,p,pf,Bj.mono (Hs γ g _) _ _ q,r⟩
 .obtain⟨us,e,p,q⟩:=hi.map id es hc b hb;exact⟨us,e,p,q.mono (Hs γ g _)⟩
 .by_cases he:b=g;.subst he;exact hi.Bu b _ hg
  .simp only[Gh.FO,Ad he] at hx;exact hi.Bu b x hx
def IZ.FO{B:Nat}{s b st:Nat}{c f:Option Nat}{v:Value}{u:Aa}{x:KH}{g:Nat}(hg:γ.Bu g=some (.tail s c st))(ho:IZ γ B w b f v u)(hne:b≠s\/f≠c):IZ (γ.FO g x) B w b f v u:=by
 rcases ho with ho|⟨g2,n,cap,us,e,z,AE,h1,h2,d,i⟩
 .exact .inl ho
 .have:g2≠g:=λhe=>by subst he;rw[hg] at d;cases d;rcases hne with hne|hne<;>exact hne rfl
  exact .inr ⟨g2,n,cap,us,e,z,AE,h1,h2,by simp only[Gh.FO,Ad this];exact d,i⟩
def FR.FO{B:Nat}{tmps:Array Value}(hf:FR γ β B U tmps w){g s st:Nat}{c:Option Nat}{x:KH}(hg:γ.Bu g=some (.tail s c st))
  (h1:c=none->∀v,U.at s≠ .Bu v) (h2:∀o,c=some o->∀ver cs ow,U.at s= .box ver cs ow->o∉ow):FR (γ.FO g x) β B U tmps w:=by
 refine⟨hf.size,λd=>?_⟩;have hs:=hf.It d;cases hx:U.at d with
 |undef=>trivial
 |skip=>rw[hx] at hs;exact hs
 |val u=>rw[hx] at hs;exact BQ.mono (Hs γ g x) _ _ hs
 |O8 b=>rw[hx] at hs;exact hs
 |Bu u=>
  rw[hx] at hs;refine⟨BQ.mono (Hs γ g x) _ _ hs.1,hs.2.FO hg ?_⟩;by_cases he:d=s
  .subst he;cases c with
   |none=>exact absurd hx (h1 rfl u)
   |some o=>exact .inr AH
  .exact .inl he
 |box ver cs ow=>
  rw[hx] at hs;obtain⟨r,f,q,us,e,p,n,m,l⟩:=hs;have hb:β d≠g:=λhe=>by rw[he,hg] at f;cases f
  refine⟨r,by simp only[Gh.FO,Ad hb];exact f,q,us,e,p,Bj.mono (Hs γ g x) _ _ n,m,λo ho=>?_⟩;obtain⟨u,v,k,j,i⟩:=l o ho;refine⟨u,v,k,j,i.FO hg ?_⟩;by_cases he:d=s
  .subst he;cases c with
   |none=>exact .inr AH
   |some o'=>refine .inr λhe=>?_;cases he;exact h2 o rfl ver cs ow hx ho
  .exact .inl he
 |Fi s' o=>rw[hx] at hs;exact hs
def Dh.FO(hr:Dh C γ0 w0 γ β U h a w){g s st s':Nat}{c c':Option Nat}(hg:γ.Bu g=some (.tail s c st))(hB:w0.heap.size<=g)
  (h1:c=none->∀v,U.at s≠ .Bu v) (h2:∀o,c=some o->∀ver cs ow,U.at s= .box ver cs ow->o∉ow):Dh C γ0 w0 (γ.FO g (.tail s' c' st)) β U h a w:=by
 refine⟨hr.D6.FO hg,hr.fr.FO hg h1 h2,?_,hr.defers,λx cs hx=>C8.mono (Hs γ g _) _ _ _ (hr.Ha x cs hx)⟩;refine⟨hr.D0.le.trans (Hs γ g _),hr.D0.size,hr.D0.os,hr.D0.tape,hr.D0.output,λb hb hn=>?_⟩;.obtain⟨p,q⟩:=hr.D0.Oi b hb hn;exact⟨p,by simp only[Gh.FO,Ad (Ab:b≠g)];exact q⟩
def BT.Fv{s:Nat}{x:Es}(hs:s<U.length):BT.at (U.set s x) s=x:=by simp[BT.at,List.getD,hs]
def BT.Gi{s t:Nat}{x:Es}(hs:s≠t):BT.at (U.set s x) t=U.at t:=by simp[BT.at,List.getD,Ao hs]
def BT.Px{s:Nat}(hs:U.at s≠ .undef):s<U.length:=by
 rcases AP s U.length with h|h
 .exact h
 .exact absurd (by simp[BT.at,List.getD,Ec h]) hs
def Dh.take(hr:Dh C γ0 w0 γ β U h a w){s:Nat}{v:Aa}(hs:U.at s= .Bu v)(s':Nat)(c':Option Nat):
  ∃γ',γ.le γ'/\Dh C γ0 w0 γ' β (U.set s (.val v)) h a w/\BQ γ' v (a.tmps.getD s undef)/\IZ γ' w0.heap.size w s' c' (a.tmps.getD s undef) v:=by
 have h0:=hr.fr.It s;rw[hs] at h0;obtain⟨hv,ho⟩:=h0;have Kx:Dh C γ0 w0 γ β (U.set s (.val v)) h a w:=hr.lW hv;have hl:s<U.length:=BT.Px (by rw[hs];simp);rcases ho with ho|⟨g,n,cap,us,e,z,AE,h1,h2,d,b,c⟩
 .exact⟨γ,.refl _,Kx,hv,.inl ho⟩
 .refine⟨γ.FO g (.tail s' c' (n*z)),Hs _ _ _,Kx.FO d b (λ_ u=>?_) (λo ho=>by cases ho),BQ.mono (Hs _ _ _) _ _ hv,.inr ⟨g,n,cap,us,e,z,AE,h1,h2,by simp[Gh.FO],b,c⟩⟩;rw[BT.Fv hl];simp
def cK{B s d:Nat}{sl b:Es}{v:Value}(hs:LG γ β B w s sl v)(hc:IC sl=some b):LG γ β B w d b v:=by
 cases sl<;>simp[IC] at hc;.subst hc;exact hs
 .subst hc;exact hs
 .subst hc;exact hs.1
 .subst hc;exact hs
def Ok{ws:List (Nat×Es)}(h:∀p∈ws,∀cs ow,p.2≠ .box 0 cs ow):(EM.pure ws).news=[]:=by
 simp only[EM.news,List.filterMap_eq_nil_iff];rintro⟨s,x⟩ hp;have:=h _ hp;cases x with
 |box ver cs ow=>
  cases ver with
  |zero=>exact absurd rfl (this cs ow)
  |succ n=>rfl
 |_=>rfl
def Sr{v:Value}{sl:Es}(hs:Ef C U (.const v)=some sl):(∀B d,LG γ β B w d sl v)/\∀ver cs ow,sl≠ .box ver cs ow:=by
 unfold Ef at hs;split at hs;.rename_i Ky;cases Ky
 .rename_i Ky;cases Ky;cases hs;exact⟨λ_ _=>rfl,λ_ _ _ h=>by cases h⟩
 .rename_i Ky;cases Ky;cases hs;exact⟨λ_ _=>⟨rfl,.inl (.inl rfl)⟩,λ_ _ _ h=>by cases h⟩
 .rename_i Ky;cases Ky;cases hc:K4 v with
  |none=>rw[hc] at hs;cases hs
  |some u=>rw[hc] at hs;cases hs;exact⟨λ_ _=>Fu hc,λ_ _ _ h=>by cases h⟩
 .rename_i Ky;cases Ky
 .rename_i Ky;cases Ky
def He{s:Nat}{sl:Es}(hs:Ef C U (.tmp s)=some sl):U.at s=sl:=D5 hs
def rK{x:Operand}{v:Aa}(hs:Ef C U x=some (.Bu v))(hn:∀c,x≠ .const c):∃s,x= .tmp s/\U.at s= .Bu v:=by
 cases x with
 |tmp s=>exact⟨s,rfl,He hs⟩
 |const c=>exact absurd rfl (hn c)
 |global g=>have Wa:(C.Ha g).map (λcs=>Es.val (Aa.CH cs))=some (.Bu v):=hs;cases hc:C.Ha g<;>rw[hc] at Wa<;>cases Wa
 |func f=>cases hs
def Ss{x:Operand}{d:Nat}{take:Bool}{r:EM}{run:IT->Ah->Option Ka}{f:BT}{h':Ah}(hm:KL C U x d take=some r)(hd:r.NC C run (U.drop r.news) h f h')
  (hr:Dh C γ0 w0 γ β U h a w):∃γ',Dh C γ0 w0 γ' β f h' (a.put (some d) (a.eval x)) w:=by
 unfold KL at hm;split at hm;.rename_i s _ _ _ hs;cases hm;rw[Ok AH] at hd;obtain⟨rfl,rfl⟩:=hd;refine⟨γ,hr.put (d:=some d) λt ht=>?_⟩;have h0:=Sq hr s;rw[He hs] at h0;exact h0.1
 .rename_i v sl hs;cases hm;obtain⟨p,q⟩:=Sr (γ:=γ) (β:=β) (w:=w) hs;rw[Ok (by simpa using λcs ow=>q 0 cs ow)] at hd;obtain⟨rfl,rfl⟩:=hd;exact⟨γ,hr.put (d:=some d) λt _=>p _ t⟩
 .rename_i v hnc hs;split at hm;.cases hm;obtain⟨s,rfl,e⟩:=rK hs (λc hc=>hnc c hc);rw[Ok (by simp[Si])] at hd;obtain⟨rfl,rfl⟩:=hd;obtain⟨γ',En,FZ,DJ,zy⟩:=hr.take e d none;exact⟨γ',FZ.put (d:=some d) λt ht=>by cases ht;exact⟨DJ,zy⟩⟩
  .simp only[IC,B0] at hm;cases hm;rw[Ok AH] at hd;obtain⟨rfl,rfl⟩:=hd;obtain⟨s,h1,_⟩:=Gt hr hs;exact⟨γ,hr.put (d:=some d) λt ht=>h1.1⟩
 .rename_i sl _ _ _ hs;cases hc:IC sl with
  |none=>rw[hc] at hm;cases hm
  |some b=>
   rw[hc] at hm;cases hm;have xK:∀cs ow,b≠ .box 0 cs ow:=by intro cs ow he;subst he;cases sl<;>simp[IC] at hc
   rw[Ok (by simpa using xK)] at hd;obtain⟨rfl,rfl⟩:=hd;obtain⟨s,h1,_⟩:=Gt hr hs;exact⟨γ,hr.put (d:=some d) λt ht=>cK h1 hc⟩
 .cases hm
end
end Go.Am
end
section
namespace Go.Am
open Go
def Xl{s:Sem Value}{v:Value}(h:Qh s=some v):s= .pure v:=by cases s<;>simp[Qh] at h;subst h;rfl
section
variable{P:Program}{γ:Gh}{w:World}
def lX{op:BinOp}{k l:IntKind}{x y:Int}{u:Aa}(t:TypeId)(c b:Operand)(h:wS op k x l y=some u):
  ∃v,(do eqGuard op t c b (.int k x) (.int l y);binOp op t (.int k x) (.int l y):Sem Value).run P w= .ok v w/\BQ γ u v:=by
 unfold wS at h;cases hs:Qh (binOp op 0 (.int k x) (.int l y)) with
 |none=>rw[hs] at h;cases h
 |some v=>
  rw[hs] at h;have f:=Xl hs;have e:binOp op t (.int k x) (.int l y)= .pure v:=by rw[<-f];cases op<;>rfl
  have d:eqGuard op t c b (.int k x) (.int l y)=pure ():=by cases op<;>rfl
  refine⟨v,by rw[d,e];rfl,?_⟩;simp only[Cw] at h;split at h<;>cases h<;>rfl
def cL(l:List UInt8):(ByteArray.mk ⟨l⟩).toList=l:=ByteArray.toList_mk l
def lY{op:BinOp}{x y:Ai}{u:Aa}(t:TypeId)(d c:Operand)(h:lS op x y=some u):
  ∃v,(do eqGuard op t d c (.string ⟨⟨x⟩⟩) (.string ⟨⟨y⟩⟩);binOp op t (.string ⟨⟨x⟩⟩) (.string ⟨⟨y⟩⟩):Sem Value).run P w= .ok v w/\BQ γ u v:=by
 have e:eqGuard op t d c (.string ⟨⟨x⟩⟩) (.string ⟨⟨y⟩⟩)=pure ():=by cases op<;>rfl
 have b:binOp op t (.string ⟨⟨x⟩⟩) (.string ⟨⟨y⟩⟩)=Op.stringOp op ⟨⟨x⟩⟩ ⟨⟨y⟩⟩:=by cases op<;>rfl
 rw[e,b];unfold lS at h;cases op<;>simp only at h<;>first
  |cases h;done
  |(simp only[Op.stringOp,cL];cases h;exact⟨_,rfl,rfl⟩)
  | (split at h
     . rename_i En
       cases h
       have hc : ¬ ((((ByteArray.mk ⟨x⟩).size + (ByteArray.mk ⟨y⟩).size : Nat) : Int) > IntKind.i64.max) := by
         have f : (ByteArray.mk ⟨x⟩).size = x.length := rfl
         have b : (ByteArray.mk ⟨y⟩).size = y.length := rfl
         rw [f, b]
         have : IntKind.i64.max = 9223372036854775807 := AM
         rw [this]
         omega
       simp only [Op.stringOp, Ad hc]
       refine ⟨_, rfl, ?_⟩
       show Value.string _ = Value.string _
       first
         | (congr 1; done)
         | (congr 1; apply ByteArray.ext; simp)
     . cases h)
def rL{t:TypeId}(h:Fq P t=some none):(isAgg t).run P w= .ok false w:=by
 unfold Fq at h;split at h;.cases hs:B4 P t<;>rw[hs] at h<;>cases h
 .cases hs:B4 P t<;>rw[hs] at h<;>cases h
 .rename_i d h1 h2 hu;simp only[isAgg,Sem.run_bind,run_underlying hu,Result.andThen_ok];rfl
 .cases h
def Rw{t:TypeId}{n:Nat}(h:Fq P t=some (some n)):(isAgg t).run P w= .ok true w/\B4 P t=some n:=by
 unfold Fq at h;split at h
 .rename_i fs hu;cases hs:B4 P t with
  |none=>rw[hs] at h;cases h
  |some m=>rw[hs] at h;cases h;exact⟨by simp[isAgg,run_underlying hu],rfl⟩
 .rename_i fs _ hu;cases hs:B4 P t with
  |none=>rw[hs] at h;cases h
  |some m=>rw[hs] at h;cases h;exact⟨by simp[isAgg,run_underlying hu],rfl⟩
 .cases h
 .cases h
def DW{t:TypeId}{n:Nat}(h:B4 P t=some n):(sizeOf t).run P w= .ok n w:=by
 unfold B4 at h;cases hi:P.info? t with
 |none=>rw[hi] at h;cases h
 |some i=>rw[hi] at h;cases h;simp[sizeOf,typeInfo,hi]
def lZ{t:TypeId}{sh:Option Nat}{cs:List Aa}{us:Array Value}{off:Nat}{u:Aa}(qQ:Fq P t=some sh)(hr:Bj γ cs us.toList)(h1:∀v∈us.toList,v.oneCell'=true)
  (hp:Ft cs off sh=some u):∃v,(part t us off).run P w= .ok v w/\BQ γ u v:=by
 cases sh with
 |none=>
  replace hp:cs[off]?=some u:=hp;obtain⟨v,hv,hrel⟩:=hr.get hp;refine⟨v,?_,hrel⟩;have DJ:us[off]?=some v:=by simpa using hv
  simp[part,rL qQ,DJ]
 |some n=>
  obtain⟨ha,hs⟩:=Rw (w:=w) qQ;replace hp:(if off+n<=cs.length then some (Aa.agg ((cs.drop off).take n)) else none)=some u:=hp;split at hp
  .cases hp;refine⟨.agg (us.extract off (off+n)),by simp[part,ha,DW hs],us.extract off (off+n),rfl,?_,?_⟩;.have:=(hr.drop off).take n;simpa[Oa,HV] using this
   .intro v hv;refine h1 v ?_;rw[Oa,HV] at hv;exact Bw (Bp hv)
  .cases hp
end
end Go.Am
end
section
namespace Go.Am
open Go
def py{x y:Aa}{b:Bool}(h:LC .b x y=some b):∃p q,x= .bool p/\y= .bool q/\(p==q)=b:=by unfold LC at h;split at h<;>first|cases h;done|(rename_i he;cases he;done)|(cases h;exact⟨_,_,rfl,rfl,rfl⟩)
def pz{x y:Aa}{b:Bool}(h:LC .i x y=some b):∃k p q,x= .int k p/\y= .int k q/\(p==q)=b:=by
 unfold LC at h;split at h;.rename_i he;cases he
 .split at h;.rename_i hk;subst hk;cases h;exact⟨_,_,_,rfl,rfl,rfl⟩
  .cases h
 .rename_i he;cases he
 .cases h
def p_{x y:Aa}{b:Bool}(h:LC .s x y=some b):∃p q,x= .str p/\y= .str q/\(p==q)=b:=by
 unfold LC at h;split at h;.rename_i he;cases he
 .rename_i he;cases he
 .cases h;exact⟨_,_,rfl,rfl,rfl⟩
 .cases h
def Py:∀{ks c:List FK} {xs ys:List Aa} {b:Bool},D8 (ks++c) xs ys=some b->
  ∃b1 b2,D8 ks (xs.take ks.length) (ys.take ks.length)=some b1/\D8 c (xs.drop ks.length) (ys.drop ks.length)=some b2/\b=(b1&&b2)
 |[],c,xs,ys,b,h=>⟨true,b,by simp[D8],by simpa using h,AH⟩
 |k::ks,c,[],ys,b,h=>by cases ys<;>simp[D8] at h
 |k::ks,c,x::xs,[],b,h=>by simp[D8] at h
 |k::ks,c,x::xs,y::ys,b,h=>by
  simp only[CC,D8] at h;split at h;.rename_i e es h1 h2;cases h;obtain⟨b1,b2,p,q,r⟩:=Py h2;refine⟨e&&b1,b2,?_,by simpa using q,by rw[r,Bool.and_assoc]⟩;simp only[A9,ZT,D8,h1,p]
  .cases h
def Pz:∀{ks:List FK} {xs ys:List Aa} {b:Bool},D8 ks xs ys=some b->xs.length=ks.length/\ys.length=ks.length
 |[],xs,ys,b,h=>by cases xs<;>cases ys<;>simp[D8] at h⊢
 |k::ks,xs,ys,b,h=>by
  cases xs<;>cases ys<;>simp[D8] at h;split at h;.rename_i h1 h2;obtain⟨p,q⟩:=Pz h2;simp[p,q]
  .cases h
section
variable{P:Program}{γ:Gh}{w:World}
def Z4:∀{d:Nat} {t:TypeId} {ks:List FK},Pu P d t=some ks->B4 P t=some ks.length
 |0,t,ks,h=>by cases h
 |d+1,t,ks,h=>by
  simp only[Pu] at h;split at h;.split at h<;>cases h;assumption
  .split at h<;>cases h;assumption
  .split at h<;>cases h;assumption
  .split at h
   .split at h;.rename_i hc;cases h;exact hc.1
    .cases h
   .cases h
  .cases h
def rM{ks:List FK}{k:FK}{t:TypeId}(h:(if B4 P t=some 1 then some [k] else none)=some ks):ks=[k]:=by split at h<;>cases h;rfl
def GK{t:TypeId}{us:Array Value}{off:Nat}{v:Value}{d:TypeDesc}(hu:P.underlying t=some d)(h1:∀fs,d≠ .struct fs)(h2:∀n e,d≠ .array n e)(hv:us[off]?=some v):
  (part t us off).run P w= .ok v w:=by
 have ha:(isAgg t).run P w= .ok false w:=by simp only[isAgg,Sem.run_bind,run_underlying hu,Result.andThen_ok];cases d<;>first|rfl|exact absurd rfl (h1 _)|exact absurd rfl (h2 _ _)
 simp[part,ha,hv]
def JT{l:List Aa}{off:Nat}{x:Aa}(h:(l.drop off).take 1=[x]):l[off]?=some x:=by have:=Ca (·[0]?) h;simpa using this
def Xm{k:FK}{xs ys:List Aa}{b:Bool}(h:D8 [k] xs ys=some b):∃x y,xs=[x]/\ys=[y]/\LC k x y=some b:=by
 cases xs<;>cases ys<;>simp[D8] at h;rename_i x xs y ys;cases xs<;>cases ys<;>simp[D8] at h;all_goals first
  | (split at h
     . rename_i e es h1 h2; cases h2; cases h; exact ⟨x, y, rfl, rfl, by simpa using h1⟩
     . cases h)
  |(split at h<;>simp_all)
mutual
def mA:∀{d D:Nat},d<=D->∀{t:TypeId} {ks:List FK},Pu P d t=some ks->∀(us vs:Array Value) (cs ds:List Aa) (off:Nat) (b:Bool),Bj γ cs us.toList->Bj γ ds vs.toList->
  D8 ks ((cs.drop off).take ks.length) ((ds.drop off).take ks.length)=some b->
  ∃x y,(part t us off).run P w= .ok x w/\(part t vs off).run P w= .ok y w/\(Op.equalIn D t x y).run P w= .ok b w
 |0,_,_,_,_,h=>by cases h
 |d+1,0,hd,_,_,_=>Ab
 |d+1,D+1,hd,t,ks,h=>by
  intro us vs cs ds off b hu hv he;have K5:=Z4 h;simp only[Pu] at h;split at h;.rename_i Z5;have:=rM h;subst this;obtain⟨x,y,m,l,k⟩:=Xm he;obtain⟨x',i,g⟩:=hu.get (JT m);obtain⟨c,f,e⟩:=hv.get (JT l);refine⟨x',c,GK Z5 AH AH (by simpa using i),GK Z5 AH AH (by simpa using f),?_⟩;obtain⟨o,n,rfl,rfl,j⟩:=py k;rw[g,e,run_equalIn_bool' w D t _ _ Z5,<-j]
  .rename_i kk Z5;have:=rM h;subst this;obtain⟨x,y,m,l,k⟩:=Xm he;obtain⟨x',i,g⟩:=hu.get (JT m);obtain⟨c,f,e⟩:=hv.get (JT l);refine⟨x',c,GK Z5 AH AH (by simpa using i),GK Z5 AH AH (by simpa using f),?_⟩;obtain⟨q,o,n,rfl,rfl,j⟩:=pz k;rw[g,e,run_equalIn_int w D t _ _ _ _ Z5,<-j]
  .rename_i Z5;have:=rM h;subst this;obtain⟨x,y,m,l,k⟩:=Xm he;obtain⟨x',i,g⟩:=hu.get (JT m);obtain⟨c,f,e⟩:=hv.get (JT l);refine⟨x',c,GK Z5 AH AH (by simpa using i),GK Z5 AH AH (by simpa using f),?_⟩;obtain⟨o,n,rfl,rfl,j⟩:=p_ k;rw[g,e,run_equalIn_string w D t _ _ Z5,cL,cL,<-j]
  .rename_i fs Z5;split at h
   .rename_i p Gu;split at h
    .rename_i hc;cases h;have qQ:Fq P t=some (some ks.length):=by simp[Fq,Z5,K5]
     obtain⟨ha,hs⟩:=Rw (w:=w) qQ;refine⟨.agg (us.extract off (off+ks.length)),.agg (vs.extract off (off+ks.length)),by simp[part,ha,DW hs],by simp[part,ha,DW hs],?_⟩;have aKD:P.underlying t=some (.struct (P.fieldsOf t)):=by simp[Program.fieldsOf,Z5]
     rw[run_equalIn_struct w D t _ _ aKD hc.2];have hf:(P.fieldsOf t).toList=fs.toList:=by simp[Program.fieldsOf,Z5]
     rw[hf];have xL:Bj γ ((cs.drop off).take ks.length) (us.extract off (off+ks.length)).toList:=by have:=(hu.drop off).take ks.length;simpa[Oa,HV] using this
     have DJ:Bj γ ((ds.drop off).take ks.length) (vs.extract off (off+ks.length)).toList:=by have:=(hv.drop off).take ks.length;simpa[Oa,HV] using this
     refine Z6 (Nat.le_of_succ_le_succ hd) fs.toList Gu _ _ _ _ _ xL DJ ?_;simpa using he
    .cases h
   .cases h
  .cases h
def Z6:∀{d D:Nat},d<=D->∀(fs:List Field) {off:Nat} {ks:List FK},Xa (Pu P d) fs off=some ks->∀(us vs:Array Value) (cs ds:List Aa) (b:Bool),Bj γ cs us.toList->Bj γ ds vs.toList->
  D8 ks (cs.drop off) (ds.drop off)=some b->(Op.eqFields D us vs fs).run P w= .ok b w
 |d,D,hd,[],off,ks,h=>by
  intro us vs cs ds b hu hv he;cases h;have:b=true:=by cases h1:cs.drop off<;>cases h2:ds.drop off<;>rw[h1,h2] at he<;>simp[D8] at he;exact he
  subst this;rfl
 |d,D,hd,f::fs,off,ks,h=>by
  intro us vs cs ds b hu hv he;simp only[Xa] at h;split at h
  .rename_i hc;obtain⟨hn,aFx⟩:=hc;split at h
   .rename_i c Zp;cases hr:Xa (Pu P d) fs (off+c.length) with
    |none=>rw[hr] at h;cases h
    |some j=>
     rw[hr] at h;cases h;obtain⟨b1,b2,l,k,rfl⟩:=Py he;obtain⟨x,y,i,g,e⟩:=mA hd Zp _ _ _ _ _ _ hu hv l;simp only[Op.eqFields,hn,BW,Az,BN,aFx,Sem.run_bind,i,g,e,Result.andThen_ok];cases b1;.rfl
     .simp only[R2,Cj,DQ,Bool.true_and];exact Z6 hd fs hr _ _ _ _ _ hu hv (by simpa[Ek] using k)
   .cases h
  .cases h
end
def mB{op:BinOp}{t:TypeId}{d c:Operand}{neg:Bool}{ks:List FK}{a b:List Aa}{x y:Value}{u:Aa}(Oc:(op= .eql/\neg=false)\/(op= .neq/\neg=true))
  (hg:P.eqGuardType P.depth t=false) (hk:Pu P 20 t=some ks) (HN:∃fs,P.underlying t=some (.struct fs)) (hx:BQ γ (.agg a) x) (hy:BQ γ (.agg b) y) (h:(D8 ks a b).map (λe=>Aa.bool (e != neg))=some u):
  ∃v,(do eqGuard op t d c x y;binOp op t x y:Sem Value).run P w= .ok v w/\BQ γ u v:=by
 obtain⟨us,rfl,hu,_⟩:=hx;obtain⟨vs,rfl,hv,_⟩:=hy;cases he:D8 ks a b with
 |none=>rw[he] at h;cases h
 |some e=>
  rw[he] at h;cases h;obtain⟨l1,m⟩:=Pz he;obtain⟨x',j,i,g,f⟩:=mA (w:=w) (P:=P) (γ:=γ) (D:=10000) (Ab:20<=10000) hk us vs a b 0 e hu hv (by rw[MH,MH,AF (MI l1),AF (MI m)];exact he);obtain⟨fs,Gu⟩:=HN;have qQ:Fq P t=some (some ks.length):=by simp[Fq,Gu,Z4 hk]
  obtain⟨ha,hs⟩:=Rw (w:=w) qQ;have o:us.extract 0 ks.length=us:=by
   have:us.size=ks.length:=by have:=hu.length;simp at this;omega
   rw[<-this];simp
  have n:vs.extract 0 ks.length=vs:=by
   have:vs.size=ks.length:=by have:=hv.length;simp at this;omega
   rw[<-this];simp
  have l:x'= .agg us:=by simp[part,ha,DW hs,o] at i;exact i.symm
  have k:j= .agg vs:=by simp[part,ha,DW hs,n] at g;exact g.symm
  subst l;subst k;rcases Oc with⟨rfl,rfl⟩|⟨rfl,rfl⟩
  .refine⟨.bool e,by simp[run_eqGuard_agg (P:=P) w .eql t d c us vs hg,run_eql_struct,f],?_⟩;show Value.bool e=Value.bool _;cases e<;>rfl
  .refine⟨.bool (!e),by simp[run_eqGuard_agg (P:=P) w .neq t d c us vs hg,run_neq_struct,f],?_⟩;show Value.bool _=Value.bool _;cases e<;>rfl
end
end Go.Am
end
