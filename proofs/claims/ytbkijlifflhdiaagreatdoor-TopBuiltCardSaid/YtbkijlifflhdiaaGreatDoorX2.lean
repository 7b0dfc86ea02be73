/- Lemmas -/
import Derived.Test.YtbkijlifflhdiaaGreatDoorX1
import Derived.Orders
import Derived.Laws.AppendOwn
import Derived.Laws.StructEq
set_option linter.all false
section
namespace Go.Am
inductive Jd where
 |K5 (id:Nat)
 |zj (s:Nat)
 |tail (s:Nat) (c:Option Nat) (start:Nat)
def Jd.qY:Jd->Bool
 | .K5 _=>true
 |_=>false
structure Gh where
 Hh:Nat->Nat->Option Value
 mu:Nat->Option Nat
 BE:Nat->Option Jd
 sz:Nat->Option Nat
mutual
def Bz(γ:Gh):Aa->Value->Prop
 | .bool b,v=>v= .bool b
 | .int k n,v=>v= .int k n
 | .str s,v=>v= .string ⟨⟨s⟩⟩
 | .ptr none,v=>v= .pointer none
 | .ptr (some (id,o)),v=>∃b,γ.mu id=some b/\v= .pointer (some ⟨b,o,none⟩)
 | .Cz cs,v=>∃b o,v= .pointer (some ⟨b,o,none⟩)/\CD γ cs b o
 | .sl z Ao,v=>∃d cap,v= .slice (some d) Ao.length cap/\Ao.length<=cap/\(d.spot=none\/cap=0)/\Ey γ Ao z d.block d.off
 | .slnil,v=>v= .slice none 0 0
 | .Fq _,v=>∃b,v= .slice (some ⟨b,0,none⟩) 0 0
 | .CL id off len z,v=>∃b cap,γ.mu id=some b/\v= .slice (some ⟨b,off,none⟩) len cap/\len<=cap/\(0<z/\cap<=maxLen)/\γ.sz b=some (off+cap*z)
 | .map none,v=>v= .map none
 | .map (some id),v=>∃b,γ.mu id=some b/\v= .map (some b)
 | .func fn f c,v=>∃fs cs,v= .func fn fs cs/\AS γ f fs.toList/\AS γ c cs.toList
 | .nilFunc,v=>v= .nilFunc
 | .iface t a,v=>∃u,v= .iface t u/\Bz γ a u
 | .nilIface,v=>v= .nilIface
 | .agg cs,v=>∃us,v= .agg us/\AS γ cs us.toList/\∀u∈us.toList,u.oneCell'=true
 | .tuple vs,v=>∃us,v= .tuple us/\AS γ vs us.toList
def AS(γ:Gh):List Aa->List Value->Prop
 |[],us=>us=[]
 |a::l,us=>∃u C6,us=u::C6/\Bz γ a u/\AS γ l C6
def CD(γ:Gh):List Aa->Nat->Nat->Prop
 |[],_,_=>True
 |a::l,b,o=>(∃u,γ.Hh b o=some u/\Bz γ a u)/\CD γ l b (o+1)
def Ey(γ:Gh):List (List Aa)->Nat->Nat->Nat->Prop
 |[],_,_,_=>True
 |r::rs,z,b,o=>r.length=z/\CD γ r b o/\Ey γ rs z b (o+z)
end
structure Gh.le(γ γ':Gh):Prop where
 Hh:∀b o v,γ.Hh b o=some v->γ'.Hh b o=some v
 mu:∀id b,γ.mu id=some b->γ'.mu id=some b
 sz:∀b n,γ.sz b=some n->γ'.sz b=some n
def Gh.le.refl(γ:Gh):γ.le γ:=⟨λ_ _ _ h=>h,λ_ _ h=>h,λ_ _ h=>h⟩
def Gh.le.trans{a b c:Gh}(h:a.le b)(k:b.le c):a.le c:=⟨λ_ _ _ x=>k.Hh _ _ _ (h.Hh _ _ _ x),λ_ _ x=>k.mu _ _ (h.mu _ _ x),λ_ _ x=>k.sz _ _ (h.sz _ _ x)⟩
mutual
def Bz.mono{γ γ':Gh}(Eg:γ.le γ'):∀(a:Aa) (v:Value),Bz γ a v->Bz γ' a v
 | .bool b,v,h=>h
 | .int k n,v,h=>h
 | .str s,v,h=>h
 | .ptr none,v,h=>h
 | .ptr (some (id,o)),v,h=>by obtain⟨b,hb,hv⟩:=h;exact⟨b,Eg.mu _ _ hb,hv⟩
 | .Cz cs,v,h=>by obtain⟨b,o,hv,hm⟩:=h;exact⟨b,o,hv,CD.mono Eg cs b o hm⟩
 | .sl z Ao,v,h=>by obtain⟨d,cap,hv,hc,hs,hm⟩:=h;exact⟨d,cap,hv,hc,hs,Ey.mono Eg Ao z _ _ hm⟩
 | .slnil,v,h=>h
 | .Fq _,v,h=>h
 | .CL id off len z,v,h=>by obtain⟨b,cap,hb,hv,hc,hz,hs⟩:=h;exact⟨b,cap,Eg.mu _ _ hb,hv,hc,hz,Eg.sz _ _ hs⟩
 | .map none,v,h=>h
 | .map (some id),v,h=>by obtain⟨b,hb,hv⟩:=h;exact⟨b,Eg.mu _ _ hb,hv⟩
 | .func fn f c,v,h=>by obtain⟨fs,cs,hv,h1,h2⟩:=h;exact⟨fs,cs,hv,AS.mono Eg f _ h1,AS.mono Eg c _ h2⟩
 | .nilFunc,v,h=>h
 | .iface t a,v,h=>by obtain⟨u,hv,h1⟩:=h;exact⟨u,hv,Bz.mono Eg a u h1⟩
 | .nilIface,v,h=>h
 | .agg cs,v,h=>by obtain⟨us,hv,h1,h2⟩:=h;exact⟨us,hv,AS.mono Eg cs _ h1,h2⟩
 | .tuple vs,v,h=>by obtain⟨us,hv,h1⟩:=h;exact⟨us,hv,AS.mono Eg vs _ h1⟩
def AS.mono{γ γ':Gh}(Eg:γ.le γ'):∀(l:List Aa) (us:List Value),AS γ l us->AS γ' l us
 |[],us,h=>h
 |a::l,us,h=>by obtain⟨u,C6,hu,h1,h2⟩:=h;exact⟨u,C6,hu,Bz.mono Eg a u h1,AS.mono Eg l C6 h2⟩
def CD.mono{γ γ':Gh}(Eg:γ.le γ'):∀(l:List Aa) (b o:Nat),CD γ l b o->CD γ' l b o
 |[],_,_,_=>trivial
 |a::l,b,o,h=>by obtain⟨⟨u,hu,h1⟩,h2⟩:=h;exact⟨⟨u,Eg.Hh _ _ _ hu,Bz.mono Eg a u h1⟩,CD.mono Eg l b (o+1) h2⟩
def Ey.mono{γ γ':Gh}(Eg:γ.le γ'):∀(rs:List (List Aa)) (z b o:Nat),Ey γ rs z b o->Ey γ' rs z b o
 |[],_,_,_,_=>trivial
 |r::rs,z,b,o,h=>⟨h.1,CD.mono Eg r b o h.2.1,Ey.mono Eg rs z b (o+z) h.2.2⟩
end
def AS.length{γ:Gh}:∀{l:List Aa} {us:List Value},AS γ l us->us.length=l.length
 |[],us,h=>by rw[AS] at h;subst h;rfl
 |a::l,us,h=>by rw[AS] at h;obtain⟨u,C6,rfl,_,h2⟩:=h;simp[h2.length]
def AS.get{γ:Gh}:∀{l:List Aa} {us:List Value},AS γ l us->∀{i:Nat} {a:Aa},l[i]?=some a->∃u,us[i]?=some u/\Bz γ a u
 |[],us,h,i,a,hi=>by simp at hi
 |x::l,us,h,i,a,hi=>by
  rw[AS] at h;obtain⟨u,C6,rfl,h1,h2⟩:=h;cases i with
  |zero=>simp at hi;subst hi;exact⟨u,rfl,h1⟩
  |succ i=>simp at hi;obtain⟨v,hv,hr⟩:=h2.get hi;exact⟨v,by simpa using hv,hr⟩
def AS.Gf{γ:Gh}:∀{l:List Aa} {us:List Value},us.length=l.length->(∀(i:Nat) (a:Aa) (u:Value),l[i]?=some a->us[i]?=some u->Bz γ a u)->AS γ l us
 |[],us,hl,_=>by rw[AS];exact CB hl
 |x::l,[],hl,_=>by simp at hl
 |x::l,u::us,hl,h=>by rw[AS];exact⟨u,us,rfl,h 0 x u rfl rfl,AS.Gf (by simpa using hl) λi a v hi hv=>h (i+1) a v (by simpa using hi) (by simpa using hv)⟩
def AS.append{γ:Gh}:∀{l l':List Aa} {us C6:List Value},AS γ l us->AS γ l' C6->AS γ (l++l') (us++C6)
 |[],l',us,C6,h,h'=>by rw[AS] at h;subst h;simpa using h'
 |a::l,l',us,C6,h,h'=>by rw[AS] at h;obtain⟨u,r,rfl,h1,h2⟩:=h;rw[CP,AS];exact⟨u,r++C6,rfl,h1,h2.append h'⟩
def AS.take{γ:Gh}{l:List Aa}{us:List Value}(h:AS γ l us)(n:Nat):AS γ (l.take n) (us.take n):=by
 refine AS.Gf (by simp[h.length]) λi a u hi hu=>?_;rw[B3] at hi hu;split at hi;.rename_i hlt;rw[Ad hlt] at hu;obtain⟨v,hv,hr⟩:=h.get hi;rw[hu] at hv;cases hv;exact hr
 .cases hi
def AS.drop{γ:Gh}{l:List Aa}{us:List Value}(h:AS γ l us)(n:Nat):AS γ (l.drop n) (us.drop n):=by refine AS.Gf (by simp[h.length]) λi a u hi hu=>?_;rw[Cm] at hi hu;obtain⟨v,hv,hr⟩:=h.get hi;rw[hu] at hv;cases hv;exact hr
def CD.get{γ:Gh}:∀{l:List Aa} {b o:Nat},CD γ l b o->∀{i:Nat} {a:Aa},l[i]?=some a->∃u,γ.Hh b (o+i)=some u/\Bz γ a u
 |[],b,o,h,i,a,hi=>by simp at hi
 |x::l,b,o,h,i,a,hi=>by
  rw[CD] at h;obtain⟨⟨u,hu,h1⟩,h2⟩:=h;cases i with
  |zero=>simp at hi;subst hi;exact⟨u,hu,h1⟩
  |succ i=>simp at hi;obtain⟨v,hv,hr⟩:=h2.get hi;exact⟨v,by rw[<-hv];congr 1;omega,hr⟩
def CD.Gf{γ:Gh}:∀{l:List Aa} {b o:Nat},(∀(i:Nat) (a:Aa),l[i]?=some a->∃u,γ.Hh b (o+i)=some u/\Bz γ a u)->CD γ l b o
 |[],b,o,h=>by rw[CD];trivial
 |x::l,b,o,h=>by rw[CD];refine⟨h 0 x rfl,CD.Gf λi a hi=>?_⟩;obtain⟨u,hu,hr⟩:=h (i+1) a (by simpa using hi);exact⟨u,by rw[<-hu];congr 1;omega,hr⟩
def CD.drop{γ:Gh}{l:List Aa}{b o:Nat}(h:CD γ l b o)(n:Nat):CD γ (l.drop n) b (o+n):=by refine CD.Gf λi a hi=>?_;rw[Cm] at hi;obtain⟨u,hu,hr⟩:=h.get hi;exact⟨u,by rw[<-hu];congr 1;omega,hr⟩
def CD.values{γ:Gh}:∀{l:List Aa} {b o:Nat},CD γ l b o->∃us:List Value,AS γ l us/\∀(j:Nat) (u:Value),us[j]?=some u->γ.Hh b (o+j)=some u
 |[],b,o,h=>⟨[],by rw[AS],Aw⟩
 |x::l,b,o,h=>by
  rw[CD] at h;obtain⟨⟨u,hu,h1⟩,h2⟩:=h;obtain⟨us,hr,hi⟩:=h2.values;refine⟨u::us,by rw[AS];exact⟨u,us,rfl,h1,hr⟩,λj v hj=>?_⟩;cases j with
  |zero=>simp at hj;subst hj;exact hu
  |succ j=>simp at hj;rw[<-hi j v hj];congr 1;omega
def Ey.get{γ:Gh}:∀{rs:List (List Aa)} {z b o:Nat},Ey γ rs z b o->∀{i:Nat} {r:List Aa},rs[i]?=some r->r.length=z/\CD γ r b (o+i*z)
 |[],z,b,o,h,i,r,hi=>by simp at hi
 |x::rs,z,b,o,h,i,r,hi=>by
  rw[Ey] at h;cases i with
  |zero=>simp at hi;subst hi;simpa using⟨h.1,h.2.1⟩
  |succ i=>simp at hi;obtain⟨h1,h2⟩:=h.2.2.get hi;exact⟨h1,by rw[show o+(i+1)*z=o+z+i*z by rw[Bs,Ef];omega];exact h2⟩
def Ey.Gf{γ:Gh}:∀{rs:List (List Aa)} {z b o:Nat},(∀(i:Nat) (r:List Aa),rs[i]?=some r->r.length=z/\CD γ r b (o+i*z))->Ey γ rs z b o
 |[],z,b,o,h=>by rw[Ey];trivial
 |x::rs,z,b,o,h=>by rw[Ey];have h0:=h 0 x rfl;refine⟨h0.1,by simpa using h0.2,Ey.Gf λi r hi=>?_⟩;obtain⟨h1,h2⟩:=h (i+1) r (by simpa using hi);exact⟨h1,by rw[show o+z+i*z=o+(i+1)*z by rw[Bs,Ef];omega];exact h2⟩
def Ey.length{γ:Gh}:∀{rs:List (List Aa)} {z b o:Nat},Ey γ rs z b o->rs.flatten.length=rs.length*z
 |[],z,b,o,h=>Aw
 |x::rs,z,b,o,h=>by rw[Ey] at h;simp[h.1,h.2.2.length,Bs,KW]
def MD{b:Addr}{n cap:Nat}(hs:b.spot=none\/cap=0)(hc:n<=cap)(hn:0<n):b=⟨b.block,b.off,none⟩:=by
 rcases hs with hs|hs
 .cases b;simp_all
 .omega
def Ey.values{γ:Gh}:∀{rs:List (List Aa)} {z b o:Nat},Ey γ rs z b o->∃us:List Value,AS γ rs.flatten us/\us.length=rs.length*z/\∀(j:Nat) (u:Value),us[j]?=some u->γ.Hh b (o+j)=some u
 |[],z,b,o,h=>⟨[],by simp[AS],Aw,Aw⟩
 |x::rs,z,b,o,h=>by
  rw[Ey] at h;obtain⟨us,h1,h2⟩:=h.2.1.values;obtain⟨vs,e,d,c⟩:=h.2.2.values;have hl:us.length=z:=by rw[h1.length,h.1]
  refine⟨us++vs,by simpa using h1.append e,by simp[hl,d,Bs,KW],λj u hj=>?_⟩;rw[aAB] at hj;split at hj;.exact h2 j u hj
  .rename_i GW;rw[<-c _ _ hj];congr 1
   omega
def HY(γ:Gh)(B:Nat)(w:World)(s:Nat)(c:Option Nat)(v:Value)(a:Aa):Prop:=
 (a= .slnil\/∃z,a= .Fq z)\/∃g n cap us e z Ao,a= .sl z Ao/\v= .slice (some ⟨g,0,none⟩) n cap/\γ.BE g=some (.tail s c (n*z))/\B<=g/\
  w.heap[g]?=some (.cells us e (0,0))/\us.size=cap*z/\n<=cap/\cap<=maxLen/\0<z
def J8(γ:Gh)(β:Nat->Nat)(B:Nat)(w:World)(s:Nat):D0->Value->Prop
 | .undef,_=>True
 | .skip,v=>v=undef
 | .val a,v=>Bz γ a v
 | .Nj b,v=>v= .bool b
 | .BE a,v=>Bz γ a v/\HY γ B w s none v a
 | .box _ cs ow,v=>v= .pointer (some ⟨β s,0,none⟩)/\γ.BE (β s)=some (.zj s)/\B<=β s/\
  ∃us e,w.heap[β s]?=some (.cells us e (0,0))/\AS γ cs us.toList/\(∀u∈us.toList,u.oneCell'=true)/\
   ∀o∈ow,∃u a,us[o]?=some u/\cs[o]?=some a/\HY γ B w s (some o) u a
 | .EI s' o,v=>v= .pointer (some ⟨β s',o,none⟩)
structure FR(γ:Gh)(β:Nat->Nat)(B:Nat)(U:Bx)(tmps:Array Value)(w:World):Prop where
 size:U.length=tmps.size
 Hd:∀s,J8 γ β B w s (U.at s) (tmps.getD s undef)
def JM(γ:Gh):List (Aa×Aa)->List MapEntry->Prop
 |[],es=>es=[]
 |(k,v)::l,es=>∃e Su,es=e::Su/\Bz γ k e.key/\Bz γ v e.val/\JM γ l Su
def qZ(γ:Gh)(l:List (Aa×Aa))(es:Array MapEntry)(clock:Nat):Prop:=
 JM γ l es.toList/\clock=es.size/\∀(i:Nat) (e:MapEntry),es[i]?=some e->e.born=i
def Q8(fr:Nat×Nat)(n:Nat):Prop:=fr=(0,0)\/n<=fr.1
structure GO(γ:Gh)(h:Ah)(w:World):Prop where
 Hh:∀b o v,γ.Hh b o=some v->w.cell? ⟨b,o,none⟩=some v/\v.oneCell'=true/\(γ.BE b=none\/∃s c st,γ.BE b=some (.tail s c st)/\o<st)
 K5:∀id x,h[id]?=some x->x≠ .DK->∃b,γ.mu id=some b/\γ.BE b=some (.K5 id)
 cells:∀id cs,h[id]?=some (.cells cs)->∀b,γ.mu id=some b->∃us e fr,w.heap[b]?=some (.cells us e fr)/\Q8 fr us.size/\AS γ cs (us.toList.take cs.length)/\∀u∈us.toList.take cs.length,u.oneCell'=true
 map:∀id es,h[id]?=some (.map es)->∀b,γ.mu id=some b->∃Dy clock,w.heap[b]?=some (.map Dy clock)/\qZ γ es Dy clock
 mu:∀id b,γ.mu id=some b->id<h.length
 BE:∀b x,γ.BE b=some x->b<w.heap.size
 sz:∀b n,γ.sz b=some n->(∃us e fr,w.heap[b]?=some (.cells us e fr)/\us.size=n)/\(γ.BE b=none\/∃id,γ.BE b=some (.K5 id))
structure KF(γ0:Gh)(w0:World)(γ:Gh)(w:World):Prop where
 le:γ0.le γ
 size:w0.heap.size<=w.heap.size
 os:w.os=w0.os
 tape:w.tape=w0.tape
 output:w.output=w0.output
 ME:∀b,b<w0.heap.size->(∀id,γ0.BE b≠some (.K5 id))->w.heap[b]?=w0.heap[b]?/\γ.BE b=γ0.BE b
def KF.refl(γ:Gh)(w:World):KF γ w γ w:=⟨.refl _,Af _,rfl,rfl,rfl,λ_ _ _=>⟨rfl,rfl⟩⟩
def KF.trans{γ0 d c:Gh}{w0 w1 w2:World}(h:KF γ0 w0 d w1)(k:KF d w1 c w2):KF γ0 w0 c w2:=by refine⟨h.le.trans k.le,Bm h.size k.size,k.os.trans h.os,k.tape.trans h.tape,k.output.trans h.output,λb hb hn=>?_⟩;.obtain⟨h1,h2⟩:=h.ME b hb hn;obtain⟨f,e⟩:=k.ME b (Ke hb h.size) (λid=>by rw[h2];exact hn id);exact⟨f.trans h1,e.trans h2⟩
structure mJ(γ:Gh)(w:World)(γ':Gh)(w':World):Prop where
 le:γ.le γ'
 ME:∀b x,γ.BE b=some x->x.qY=false->γ'.BE b=some x/\w'.heap[b]?=w.heap[b]?
def mJ.pd{γ γ':Gh}{h:Ah}{w w':World}(hi:GO γ h w)(ha:KF γ w γ' w'):mJ γ w γ' w':=by refine⟨ha.le,λb x hb hx=>?_⟩;obtain⟨h1,h2⟩:=ha.ME b (hi.BE b x hb) (λid Hw=>by rw[hb] at Hw;cases Hw;simp[Jd.qY] at hx);exact⟨h2.trans hb,h1⟩
def HY.kept{γ γ':Gh}{B:Nat}{w w':World}{s:Nat}{c:Option Nat}{v:Value}{a:Aa}(h:HY γ B w s c v a)(k:mJ γ w γ' w'):HY γ' B w' s c v a:=by
 rcases h with h|⟨g,n,cap,us,e,z,Ao,h1,h2,l,j,i,f⟩
 .exact .inl h
 .obtain⟨d,b⟩:=k.ME g _ l rfl;exact .inr ⟨g,n,cap,us,e,z,Ao,h1,h2,d,j,by rw[b];exact i,f⟩
def J8.kept{γ γ':Gh}{β:Nat->Nat}{B:Nat}{w w':World}{s:Nat}{x:D0}{v:Value}(h:J8 γ β B w s x v)(k:mJ γ w γ' w'):J8 γ' β B w' s x v:=by
 cases x with
 |undef=>trivial
 |skip=>exact h
 |val a=>exact Bz.mono k.le a v h
 |Nj b=>exact h
 |BE a=>exact⟨Bz.mono k.le a v h.1,h.2.kept k⟩
 |box ver cs ow=>obtain⟨h1,h2,l,us,e,j,i,g,f⟩:=h;obtain⟨d,c⟩:=k.ME _ _ h2 rfl;exact⟨h1,d,l,us,e,by rw[c];exact j,AS.mono k.le cs _ i,g,λo ho=>let⟨u,a,p,q,r⟩:=f o ho;⟨u,a,p,q,r.kept k⟩⟩
 |EI s' o=>exact h
def FR.kept{γ γ':Gh}{β:Nat->Nat}{B:Nat}{U:Bx}{tmps:Array Value}{w w':World}(h:FR γ β B U tmps w)(k:mJ γ w γ' w'):FR γ' β B U tmps w':=
 ⟨h.size,λs=>(h.Hd s).kept k⟩
end Go.Am
end
section
namespace Go.Am
def Cs{w w':World}{b o:Nat}(h:w'.heap[b]?=w.heap[b]?):w'.cell? ⟨b,o,none⟩=w.cell? ⟨b,o,none⟩:=by simp[World.cell?,h]
def Db{w:World}{b o:Nat}{v:Value}(h:w.cell? ⟨b,o,none⟩=some v):b<w.heap.size:=by
 rcases Bg b w.heap.size with h'|h'
 .exact h'
 .simp[World.cell?,Array.getElem?_eq_none h'] at h
def GO.pg{γ:Gh}{h:Ah}{w:World}(hi:GO γ h w){b o:Nat}{v:Value}(hb:γ.Hh b o=some v):b<w.heap.size:=Db (hi.Hh b o v hb).1
def GO.same{γ:Gh}{h:Ah}{w w':World}(hi:GO γ h w)(c:w'.heap=w.heap):GO γ h w':=by
 refine⟨λb o v hb=>?_,hi.K5,λid cs hc b hb=>?_,λid es hc b hb=>?_,hi.mu,λb x hx=>?_,λb n hb=>by rw[c];exact hi.sz b n hb⟩;.obtain⟨h1,h2,d⟩:=hi.Hh b o v hb;have e:=Cs (w:=w) (w':=w') (b:=b) (o:=o) (by rw[c]);exact⟨e.trans h1,h2,d⟩
 .rw[c];exact hi.cells id cs hc b hb
 .rw[c];exact hi.map id es hc b hb
 .rw[c];exact hi.BE b x hx
def KF.same{γ:Gh}{w w':World}(b:w'.heap=w.heap)(h1:w'.os=w.os)(h2:w'.tape=w.tape)(c:w'.output=w.output):KF γ w γ w':=
 ⟨.refl _,by rw[b];exact Af _,h1,h2,c,λ_ _ _=>⟨by rw[b],rfl⟩⟩
def KF.drew(γ:Gh)(w:World):KF γ w γ w.drew:=KF.same rfl rfl rfl rfl
def Gh.CT(γ:Gh)(b:Nat)(us:Array Value)(k:Nat)(x:Option Jd):Gh:=
 {Hh:=λb' o=>if b'=b then(if o<k then us[o]? else none) else γ.Hh b' o,mu:=γ.mu,BE:=λb'=>if b'=b then x else γ.BE b',sz:=γ.sz}
def Gh.BW(γ:Gh)(b id:Nat)(n:Option Nat):Gh:=
 {Hh:=γ.Hh,mu:=λi=>if i=id then some b else γ.mu i,BE:=λb'=>if b'=b then some (.K5 id) else γ.BE b',sz:=λb'=>if b'=b then n else γ.sz b'}
section
variable{γ:Gh}{h:Ah}{w:World}
def EN(w:World)(o:Obj){b:Nat}(hb:b<w.heap.size):(w.alloc o).heap[b]?=w.heap[b]?:=heap_alloc_old w o b hb
def Nt(hi:GO γ h w)(us:Array Value)(e:TypeId)(fr:Nat×Nat)(k:Nat)(x:Option Jd)(h1:∀o u,o<k->us[o]?=some u->u.oneCell'=true)
  (hx:x=none\/(∃s c,x=some (.tail s c k))\/(k=0/\∀id,x≠some (.K5 id))):
  GO (γ.CT w.heap.size us k x) h (w.alloc (.cells us e fr))/\KF γ w (γ.CT w.heap.size us k x) (w.alloc (.cells us e fr)):=by
 have EZ:γ.BE w.heap.size=none:=by
  cases hc:γ.BE w.heap.size with
  |none=>rfl
  |some y=>exact absurd (hi.BE _ y hc) (C8 _)
 have q6:∀o,γ.Hh w.heap.size o=none:=λo=>by
  cases hc:γ.Hh w.heap.size o with
  |none=>rfl
  |some y=>exact absurd (hi.pg hc) (C8 _)
 have Eg:γ.le (γ.CT w.heap.size us k x):=⟨λb' o' v' Ig=>by
  have:b'≠w.heap.size:=λhe=>by rw[he,q6] at Ig;cases Ig
  simp only[Gh.CT,Ac this];exact Ig,λ_ _ hm=>hm,λ_ _ hm=>hm⟩
 constructor
 .refine⟨λb o v hb=>?_,λid y Hw hy=>?_,λid cs hc b hb=>?_,λid es hc b hb=>?_,hi.mu,λb y hy=>?_,λb n hb=>?_⟩;rotate_left 5;.obtain⟨⟨C6,d,mK,p,q⟩,r⟩:=hi.sz b n hb;have MF:b≠w.heap.size:=Nn (by rw[AK] at p;exact p.1);exact⟨⟨C6,d,mK,by rw[EN _ _ (by rw[AK] at p;exact p.1)];exact p,q⟩,by simp only[Gh.CT,Ac MF];exact r⟩
  .by_cases MF:b=w.heap.size
   .subst MF;simp only[Gh.CT,BH] at hb⊢;split at hb
    .rename_i hlt;refine⟨by rw[cell_of_row _ _ _ us e fr (heap_alloc_new w _)];exact hb,h1 o v hlt hb,?_⟩;rcases hx with hx|⟨s,c,hx⟩|⟨hx,_⟩
     .exact .inl hx
     .exact .inr ⟨s,c,k,hx,hlt⟩
     .omega
    .cases hb
   .simp only[Gh.CT,Ac MF] at hb⊢;obtain⟨p,q,r⟩:=hi.Hh b o v hb;exact⟨by rw[Cs (EN w _ (Db p))];exact p,q,r⟩
  .obtain⟨b,p,q⟩:=hi.K5 id y Hw hy;refine⟨b,p,?_⟩;have:b≠w.heap.size:=λhe=>by rw[he,EZ] at q;cases q
   simp only[Gh.CT,Ac this];exact q
  .obtain⟨C6,d,mK,p,pf,q,r⟩:=hi.cells id cs hc b hb;exact⟨C6,d,mK,by rw[EN _ _ (by rw[AK] at p;exact p.1)];exact p,pf,AS.mono Eg cs _ q,r⟩
  .obtain⟨Dy,clock,p,q⟩:=hi.map id es hc b hb;refine⟨Dy,clock,by rw[EN _ _ (by rw[AK] at p;exact p.1)];exact p,?_,q.2⟩;replace q:=q.1;clear hc p;revert q;generalize Dy.toList=l;intro q;induction es generalizing l with
   |nil=>exact q
   |cons kv es ih=>obtain⟨kk,g⟩:=kv;obtain⟨f,Su,hl,a1,a2,a3⟩:=q;exact⟨f,Su,hl,Bz.mono Eg _ _ a1,Bz.mono Eg _ _ a2,ih Su a3⟩
  .by_cases MF:b=w.heap.size;.subst MF;simp
   .simp only[Gh.CT,Ac MF] at hy;have:=hi.BE b y hy;simp;omega
 .refine⟨Eg,Aw,rfl,rfl,rfl,λb hb _=>⟨EN _ _ hb,?_⟩⟩;simp only[Gh.CT,Ac (Nn hb)]
def JM.mono{γ γ':Gh}(Eg:γ.le γ'):∀{es:List (Aa×Aa)} {l:List MapEntry},JM γ es l->JM γ' es l
 |[],l,q=>q
 |(kk,c)::es,l,q=>by obtain⟨b,Su,hl,a1,a2,a3⟩:=q;exact⟨b,Su,hl,Bz.mono Eg _ _ a1,Bz.mono Eg _ _ a2,a3.mono Eg⟩
def qZ.mono{γ γ':Gh}(Eg:γ.le γ'){es:List (Aa×Aa)}{l:Array MapEntry}{c:Nat}(h:qZ γ es l c):qZ γ' es l c:=⟨h.1.mono Eg,h.2⟩
def MG(hi:GO γ h w)(o:Obj)(x:DJ)(m:Option Nat)
  (hx:(∃cs us e fr,x= .cells cs/\o= .cells us e fr/\Q8 fr us.size/\AS γ cs (us.toList.take cs.length)/\(∀u∈us.toList.take cs.length,u.oneCell'=true)/\m=some us.size)\/(x= .map []/\o= .map #[] 0/\m=none)):
  GO (γ.BW w.heap.size h.length m) (h++[x]) (w.alloc o)/\KF γ w (γ.BW w.heap.size h.length m) (w.alloc o):=by
 have EZ:γ.BE w.heap.size=none:=by
  cases hc:γ.BE w.heap.size with
  |none=>rfl
  |some y=>exact absurd (hi.BE _ y hc) (C8 _)
 have Y_:γ.mu h.length=none:=by
  cases hc:γ.mu h.length with
  |none=>rfl
  |some y=>exact absurd (hi.mu _ y hc) (C8 _)
 have J3:γ.sz w.heap.size=none:=by
  cases hc:γ.sz w.heap.size with
  |none=>rfl
  |some y=>obtain⟨⟨_,_,_,p,_⟩,_⟩:=hi.sz _ y hc;rw[AK] at p;exact absurd p.1 (C8 _)
 have Eg:γ.le (γ.BW w.heap.size h.length m):=⟨λ_ _ _ hv=>hv,λid b hm=>by
  have:id≠h.length:=λhe=>by rw[he,Y_] at hm;cases hm
  simp only[Gh.BW,Ac this];exact hm,λb n hm=>by
  have:b≠w.heap.size:=λhe=>by rw[he,J3] at hm;cases hm
  simp only[Gh.BW,Ac this];exact hm⟩
 constructor
 .refine⟨λb o' v hb=>?_,λid y Hw hy=>?_,λid cs hc b hb=>?_,λid es hc b hb=>?_,λid b hb=>?_,λb y hy=>?_,λb n hb=>?_⟩;rotate_left 6
  .by_cases MF:b=w.heap.size
   .subst MF;simp only[Gh.BW,BH] at hb;rcases hx with⟨Gd,us,e,fr,rfl,rfl,pf,p,q,rfl⟩|⟨rfl,rfl,rfl⟩
    .cases hb;exact⟨⟨us,e,fr,heap_alloc_new w _,rfl⟩,.inr ⟨h.length,by simp[Gh.BW]⟩⟩
    .cases hb
   .simp only[Gh.BW,Ac MF] at hb⊢;obtain⟨⟨C6,c,mK,p,q⟩,r⟩:=hi.sz b n hb;exact⟨⟨C6,c,mK,by rw[EN _ _ (by rw[AK] at p;exact p.1)];exact p,q⟩,r⟩
  .obtain⟨p,q,r⟩:=hi.Hh b o' v hb;have MF:b≠w.heap.size:=Nn (Db p);exact⟨by rw[World.cell?_alloc_old _ _ _ MF];exact p,q,by simp only[Gh.BW,Ac MF];exact r⟩
  .by_cases he:id=h.length;.exact⟨w.heap.size,by simp[Gh.BW,he],by simp[Gh.BW,he]⟩
   .have Tw:id<h.length:=by rw[Ae] at Hw;obtain⟨hl,_⟩:=Hw;simp at hl;omega
    rw[Al Tw] at Hw;obtain⟨b,p,q⟩:=hi.K5 id y Hw hy;have MF:b≠w.heap.size:=λhe=>by rw[he,EZ] at q;cases q
    exact⟨b,by simp only[Gh.BW,Ac he];exact p,by simp only[Gh.BW,Ac MF];exact q⟩
  .by_cases he:id=h.length
   .subst he;simp[Gh.BW] at hb;subst hb;simp at hc;rcases hx with⟨Gd,us,e,fr,rfl,rfl,pf,p,q,rfl⟩|⟨rfl,rfl,rfl⟩
    .cases hc;exact⟨us,e,fr,heap_alloc_new w _,pf,AS.mono Eg _ _ p,q⟩
    .cases hc
   .simp only[Gh.BW,Ac he] at hb;have Tw:=hi.mu id b hb;rw[Al Tw] at hc;obtain⟨C6,c,mK,p,pf,q,r⟩:=hi.cells id cs hc b hb;exact⟨C6,c,mK,by rw[EN _ _ (by rw[AK] at p;exact p.1)];exact p,pf,AS.mono Eg _ _ q,r⟩
  .by_cases he:id=h.length
   .subst he;simp[Gh.BW] at hb;subst hb;simp at hc;rcases hx with⟨Gd,us,e,fr,rfl,rfl,pf,p,q,rfl⟩|⟨rfl,rfl,rfl⟩
    .cases hc
    .cases hc;exact⟨#[],0,heap_alloc_new w _,rfl,rfl,Aw⟩
   .simp only[Gh.BW,Ac he] at hb;have Tw:=hi.mu id b hb;rw[Al Tw] at hc;obtain⟨Dy,clock,p,q⟩:=hi.map id es hc b hb;exact⟨Dy,clock,by rw[EN _ _ (by rw[AK] at p;exact p.1)];exact p,q.mono Eg⟩
  .by_cases he:id=h.length;.simp[he]
   .simp only[Gh.BW,Ac he] at hb;have:=hi.mu id b hb;simp;omega
  .by_cases MF:b=w.heap.size;.subst MF;simp
   .simp only[Gh.BW,Ac MF] at hy;have:=hi.BE b y hy;simp;omega
 .refine⟨Eg,Aw,rfl,rfl,rfl,λb hb _=>⟨EN _ _ hb,?_⟩⟩;simp only[Gh.BW,Ac (Nn hb)]
def mL(hi:GO γ h w){g s:Nat}(hg:γ.BE g=some (.zj s))(us:Array Value):GO γ h (w.setRow g us):=by
 refine⟨λb o v hb=>?_,hi.K5,λid cs hc b hb=>?_,λid es hc b hb=>?_,hi.mu,λb x hx=>?_,λb n hb=>?_⟩;rotate_left 4
 .obtain⟨p,r⟩:=hi.sz b n hb;have:b≠g:=λhe=>by subst he;rw[hg] at r;rcases r with r|⟨_,r⟩<;>cases r
  exact⟨by rw[setRow_other w g b us this];exact p,r⟩
 .obtain⟨p,q,r⟩:=hi.Hh b o v hb;have:b≠g:=λhe=>by subst he;rw[hg] at r;rcases r with r|⟨_,_,_,r,_⟩<;>cases r
  exact⟨by rw[Cs (setRow_other w g b us this)];exact p,q,r⟩
 .have PR:b≠g:=λhe=>by subst he;obtain⟨b',p,q⟩:=hi.K5 id _ hc Aw;rw[hb] at p;cases p;rw[hg] at q;cases q
  rw[setRow_other w g b us PR];exact hi.cells id cs hc b hb
 .have PR:b≠g:=λhe=>by subst he;obtain⟨b',p,q⟩:=hi.K5 id _ hc Aw;rw[hb] at p;cases p;rw[hg] at q;cases q
  rw[setRow_other w g b us PR];exact hi.map id es hc b hb
 .have:=hi.BE b x hx;simpa[World.setRow] using this
def LZ(hi:GO γ h w){g id:Nat}{cs:List Aa}(hcs:h[id]?=some (.cells cs))(hg:γ.mu id=some g){us:Array Value}{e:TypeId}{fr:Nat×Nat}(hw:w.heap[g]?=some (.cells us e fr))(C6:Array Value)(Gd:List Aa)(VW:C6.size=us.size)(iK:Q8 fr C6.size)
  (hr:AS γ Gd (C6.toList.take Gd.length)) (h1:∀u∈C6.toList.take Gd.length,u.oneCell'=true):
  GO γ (h.set id (.cells Gd)) (w.setRow g C6)/\KF γ w γ (w.setRow g C6):=by
 obtain⟨d,p,QW⟩:=hi.K5 id _ hcs Aw;rw[hg] at p;cases p;have uniq:∀Fb x,h[Fb]?=some x->x≠ .DK->γ.mu Fb=some g->Fb=id:=λFb x hx ph hm=>by obtain⟨b',p,q⟩:=hi.K5 Fb x hx ph;rw[hm] at p;cases p;rw[QW] at q;cases q;rfl
 constructor
 .refine⟨λb o v hb=>?_,λFb y Hw hy=>?_,λFb cs hc b hb=>?_,λFb es hc b hb=>?_,λFb b hb=>by simpa using hi.mu Fb b hb,λb x hx=>?_,λb n hb=>?_⟩;rotate_left 5
  .obtain⟨⟨cE,c,q7,p,q⟩,r⟩:=hi.sz b n hb;by_cases he:b=g;.subst he;rw[hw] at p;cases p;exact⟨⟨C6,e,fr,setRow_heap w b us C6 e fr hw,by rw[VW];exact q⟩,r⟩
   .exact⟨⟨cE,c,q7,by rw[setRow_other w g b C6 he];exact p,q⟩,r⟩
  .obtain⟨p,q,r⟩:=hi.Hh b o v hb;have:b≠g:=λhe=>by subst he;rw[QW] at r;rcases r with r|⟨_,_,_,r,_⟩<;>cases r
   exact⟨by rw[Cs (setRow_other w g b C6 this)];exact p,q,r⟩
  .by_cases he:Fb=id;.subst he;exact⟨g,hg,QW⟩
   .rw[An (λx=>he x.symm)] at Hw;exact hi.K5 Fb y Hw hy
  .by_cases he:Fb=id;.subst he;rw[hg] at hb;cases hb;rw[AH (hi.mu _ _ hg)] at hc;cases hc;exact⟨C6,e,fr,setRow_heap w g us C6 e fr hw,iK,hr,h1⟩
   .rw[An (λx=>he x.symm)] at hc;have PR:b≠g:=λhx=>by subst hx;exact he (uniq Fb _ hc Aw hb)
    rw[setRow_other w g b C6 PR];exact hi.cells Fb cs hc b hb
  .by_cases he:Fb=id;.subst he;rw[AH (hi.mu _ _ hg)] at hc;cases hc
   .rw[An (λx=>he x.symm)] at hc;have PR:b≠g:=λhx=>by subst hx;exact he (uniq Fb _ hc Aw hb)
    rw[setRow_other w g b C6 PR];exact hi.map Fb es hc b hb
  .have:=hi.BE b x hx;simpa[World.setRow] using this
 .refine⟨.refl _,by simp[World.setRow],rfl,rfl,rfl,λb hb hn=>⟨?_,rfl⟩⟩;exact setRow_other w g b C6 (λhe=>by subst he;exact hn id QW)
def cF(hi:GO γ h w){g s st:Nat}{c:Option Nat}(hg:γ.BE g=some (.tail s c st)){us:Array Value}{e:TypeId}(hw:w.heap[g]?=some (.cells us e (0,0)))(C6:Array Value)(k:Nat)(s':Nat)(c':Option Nat)
  (L0:∀o,o<st->C6[o]?=us[o]?) (hk:st<=k) (h1:∀o u,o<k->C6[o]?=some u->u.oneCell'=true) (Q9:∀o v,γ.Hh g o=some v->us[o]?=some v):
  GO (γ.CT g C6 k (some (.tail s' c' k))) h (w.setRow g C6)/\γ.le (γ.CT g C6 k (some (.tail s' c' k))):=by
 have hlt:∀o v,γ.Hh g o=some v->o<st:=λo v ho=>by
  obtain⟨_,_,r⟩:=hi.Hh g o v ho;rw[hg] at r;rcases r with r|⟨_,_,_,r,hl⟩
  .cases r
  .cases r;exact hl
 have Eg:γ.le (γ.CT g C6 k (some (.tail s' c' k))):=⟨λb o v hb=>by
  by_cases he:b=g;.subst he;have:=hlt o v hb;simp only[Gh.CT,BH,Ad (Ke this hk)];rw[L0 o this];exact Q9 o v hb
  .simp only[Gh.CT,Ac he];exact hb,λ_ _ hm=>hm,λ_ _ hm=>hm⟩
 refine⟨⟨λb o v hb=>?_,λid y Hw hy=>?_,λid cs hc b hb=>?_,λid es hc b hb=>?_,hi.mu,λb x hx=>?_,λb n hb=>?_⟩,Eg⟩;rotate_left 5
 .obtain⟨p,r⟩:=hi.sz b n hb;have:b≠g:=λhe=>by subst he;rw[hg] at r;rcases r with r|⟨_,r⟩<;>cases r
  exact⟨by rw[setRow_other w g b C6 this];exact p,by simp only[Gh.CT,Ac this];exact r⟩
 .by_cases he:b=g
  .subst he;simp only[Gh.CT,BH] at hb⊢;split at hb
   .rename_i hl;exact⟨by rw[cell_of_row _ _ _ C6 e (0,0) (setRow_heap w b us C6 e (0,0) hw)];exact hb,
     h1 o v hl hb,.inr ⟨s',c',k,rfl,hl⟩⟩
   .cases hb
  .simp only[Gh.CT,Ac he] at hb⊢;obtain⟨p,q,r⟩:=hi.Hh b o v hb;exact⟨by rw[Cs (setRow_other w g b C6 he)];exact p,q,r⟩
 .obtain⟨b,p,q⟩:=hi.K5 id y Hw hy;have:b≠g:=λhe=>by subst he;rw[hg] at q;cases q
  exact⟨b,p,by simp only[Gh.CT,Ac this];exact q⟩
 .replace hb:γ.mu id=some b:=hb;obtain⟨b',p,q⟩:=hi.K5 id _ hc Aw;rw[hb] at p;cases p;have:b≠g:=λhe=>by subst he;rw[hg] at q;cases q
  rw[setRow_other w g b C6 this];obtain⟨cE,j,q7,i,f,d,r2⟩:=hi.cells id cs hc b hb;exact⟨cE,j,q7,i,f,AS.mono Eg _ _ d,r2⟩
 .replace hb:γ.mu id=some b:=hb;obtain⟨b',p,q⟩:=hi.K5 id _ hc Aw;rw[hb] at p;cases p;have:b≠g:=λhe=>by subst he;rw[hg] at q;cases q
  rw[setRow_other w g b C6 this];obtain⟨Dy,clock,i,d⟩:=hi.map id es hc b hb;exact⟨Dy,clock,i,d.mono Eg⟩
 .by_cases he:b=g;.subst he;have:=hi.BE b _ hg;simpa[World.setRow] using this
  .simp only[Gh.CT,Ac he] at hx;have:=hi.BE b x hx;simpa[World.setRow] using this
def KF.write{γ0 c:Gh}{w0:World}(ha:KF γ0 w0 γ w){w1:World}{g:Nat}(hg:w0.heap.size<=g)(Eg:γ.le c)(hs:w1.heap.size=w.heap.size)(h1:w1.os=w.os)(h2:w1.tape=w.tape)(e:w1.output=w.output)
  (hk:∀b,b≠g->w1.heap[b]?=w.heap[b]?/\c.BE b=γ.BE b):KF γ0 w0 c w1:=by
 refine⟨ha.le.trans Eg,by rw[hs];exact ha.size,h1.trans ha.os,h2.trans ha.tape,e.trans ha.output,λb hb hn=>?_⟩;.obtain⟨p,q⟩:=ha.ME b hb hn;obtain⟨p',d⟩:=hk b Ab;exact⟨p'.trans p,d.trans q⟩
def q8(hi:GO γ h w){g id:Nat}{cs:List Aa}(hcs:h[id]?=some (.cells cs))(hg:γ.mu id=some g){us:Array Value}{e:TypeId}{fr:Nat×Nat}(hw:w.heap[g]?=some (.cells us e fr))(h1:∀u∈us.toList.take cs.length,u.oneCell'=true):
  GO (γ.CT g us cs.length none) (h.set id .DK) w/\KF γ w (γ.CT g us cs.length none) w:=by
 obtain⟨d,p,QW⟩:=hi.K5 id _ hcs Aw;rw[hg] at p;cases p;have uniq:∀Fb x,h[Fb]?=some x->x≠ .DK->γ.mu Fb=some g->Fb=id:=λFb x hx ph hm=>by obtain⟨b',p,q⟩:=hi.K5 Fb x hx ph;rw[hm] at p;cases p;rw[QW] at q;cases q;rfl
 have hne:∀o v,γ.Hh g o=some v->False:=λo v hv=>by obtain⟨_,_,r⟩:=hi.Hh g o v hv;rw[QW] at r;rcases r with r|⟨_,_,_,r,_⟩<;>cases r
 have Eg:γ.le (γ.CT g us cs.length none):=⟨λb o v hb=>by
  have:b≠g:=λhe=>by subst he;exact hne o v hb
  simp only[Gh.CT,Ac this];exact hb,λ_ _ hm=>hm,λ_ _ hm=>hm⟩
 constructor
 .refine⟨λb o v hb=>?_,λFb y Hw hy=>?_,λFb Gd hc b hb=>?_,λFb es hc b hb=>?_,λFb b hb=>by simpa using hi.mu Fb b hb,λb x hx=>?_,λb n hb=>?_⟩;rotate_left 5
  .obtain⟨p,r⟩:=hi.sz b n hb;by_cases he:b=g;.subst he;exact⟨p,.inl (by simp[Gh.CT])⟩
   .exact⟨p,by simp only[Gh.CT,Ac he];exact r⟩
  .by_cases he:b=g
   .subst he;simp only[Gh.CT,BH] at hb⊢;split at hb;.rename_i hlt;exact⟨by rw[cell_of_row _ _ _ us e fr hw];exact hb,h1 v (Cb (i:=o) (by rw[CA hlt];simpa using hb)),.inl Aw⟩
    .cases hb
   .simp only[Gh.CT,Ac he] at hb⊢;exact hi.Hh b o v hb
  .by_cases he:Fb=id;.subst he;rw[AH (hi.mu _ _ hg)] at Hw;cases Hw;exact absurd rfl hy
   .rw[An (λx=>he x.symm)] at Hw;obtain⟨b,p,q⟩:=hi.K5 Fb y Hw hy;have:b≠g:=λhx=>by subst hx;exact he (uniq Fb y Hw hy p)
    exact⟨b,p,by simp only[Gh.CT,Ac this];exact q⟩
  .by_cases he:Fb=id;.subst he;rw[AH (hi.mu _ _ hg)] at hc;cases hc
   .rw[An (λx=>he x.symm)] at hc;obtain⟨C6,c,mK,p,pf,q,r⟩:=hi.cells Fb Gd hc b hb;exact⟨C6,c,mK,p,pf,AS.mono Eg _ _ q,r⟩
  .by_cases he:Fb=id;.subst he;rw[AH (hi.mu _ _ hg)] at hc;cases hc
   .rw[An (λx=>he x.symm)] at hc;obtain⟨C6,c,p,q⟩:=hi.map Fb es hc b hb;exact⟨C6,c,p,q.mono Eg⟩
  .by_cases he:b=g;.subst he;exact hi.BE b _ QW
   .simp only[Gh.CT,Ac he] at hx;exact hi.BE b x hx
 .refine⟨Eg,Af _,rfl,rfl,rfl,λb hb hn=>⟨rfl,?_⟩⟩;have:b≠g:=λhe=>by subst he;exact hn id QW
  simp only[Gh.CT,Ac this]
end
end Go.Am
end
section
namespace Go.Am
def Ei.L4(C:FC)(run:IT->Ah->Option Jb)(U:Bx)(h:Ah)(e:Bx)(h':Ah):Ei->Prop
 | .pure ws=>e=U.DR ws/\h'=h
 | .op p args dst BE i=>∃v,Ay p args=some v/\e=(U.Da i).put dst (if BE then .BE v else .val v)/\h'=h
 | .box n v d=>v.cells.length=n/\e=U.set d (.box 0 v.cells [])/\h'=h
 | .Kn fn a b fz d=>e=(U.DR (fz.map λ(s,cs)=>(s,.val (.Cz cs)))).set d (.val (.func fn a b))/\h'=h
 | .LB s off n v BE i ver cells owned=>v.cells.length=n/\e=(U.Da i).set s (.box (ver+1) (Tr cells off n v.cells) (PK owned off n BE))/\h'=h
 | .load n p dst=>∃v,Bq h n p=some v/\e=U.put dst (.val v)/\h'=h
 | .store n p v=>CM h n p v=some h'/\e=U
 | .alloc n v dst=>v.cells.length=n/\h'=h++[.cells v.cells]/\e=U.put dst (.val (.ptr (some (h.length,0))))
 | .call f args dst=>∃r,run (B2 C f args) h=some (.ret,[r],h')/\e=U.put dst (if C.IJ f then .BE r else .val r)
 | .FH g args dst=>∃f args' r,De g args=some (f,args')/\run (B2 C f args') h=some (.ret,[r],h')/\e=U.put dst (.val r)
 | .Co f args dst=>args.all Aa.K6=true/\∃r h1,run (B2 C f args) []=some (.ret,[r],h1)/\r.K6=true/\e=U.put dst (.val r)/\h'=h
 | .OC dst=>h'=h++[.map []]/\e=U.put dst (.val (.map (some h.length)))
 | .JJ m k v=>RH h m k v=some h'/\e=U
 | .make z b zero l c dst=>∃v,OM h z b zero l c=some (h',v)/\e=U.put dst (.val v)
 | .Ja z b s x dst i=>∃v,Ly h z b s x=some (h',v)/\e=(U.Da i).put dst (.val v)
 | .FJ z b s x dst=>∃v,FX h z b s x=some (h',v)/\e=U.put dst (.val v)
 | .FW z b s x dst i=>∃v,ON h z b s x=some v/\e=(U.Da i).put dst (.BE v)/\h'=h
 | .E4 s dst=>∃v,Ir h s=some (h',v)/\e=U.put dst (.val v)
 | .Vk s dst=>∃v u,LA h s=some (h',v)/\Ay .Vk [v]=some u/\e=U.put dst (.val u)
 | .mem o args dst=>∃v,EC o h args=some (h',v)/\e=U.put dst (if o.Q_ then .undef else .val v)
 | .LX z ok m k dst=>∃v,RI h z ok m k=some v/\e=U.put dst (.val v)/\h'=h
def Ra{n:Nat}{cs:List Aa}(h:cs.length=n):Tq n cs=cs:=by
 subst h;apply O0;intro i;simp only[Tq,Cn,List.getD];by_cases hi:i<cs.length;.simp[List.getElem?_range hi,Ai hi]
 .simp[hi]
def VX{C:FC}{run:IT->Ah->Option Jb}{U:Bx}{K:Bx->IT}{h:Ah}{R:Jb}{r:Ei}
  (hr:IT.step (B2 C) run (r.LD C U K) h=some R):∃i h',r.L4 C run U h i h'/\IT.step (B2 C) run (K i) h'=some R:=by
 cases r with
 |pure ws=>exact⟨_,_,⟨rfl,rfl⟩,hr⟩
 |op p args dst BE e=>
  simp only[Ei.LD,IT.step] at hr;split at hr;.rename_i v hv;exact⟨_,_,⟨v,hv,rfl,rfl⟩,hr⟩
  .cases hr
 |box n v d=>
  simp only[Ei.LD,IT.step] at hr;split at hr;.rename_i hn;rw[Ra hn] at hr;exact⟨_,_,⟨hn,rfl,rfl⟩,hr⟩
  .cases hr
 |Kn fn a b fz d=>exact⟨_,_,⟨rfl,rfl⟩,hr⟩
 |LB s off n v BE e ver cells owned=>
  simp only[Ei.LD,IT.step] at hr;split at hr;.rename_i hn;rw[Ra hn] at hr;exact⟨_,_,⟨hn,rfl,rfl⟩,hr⟩
  .cases hr
 |load n p dst=>
  simp only[Ei.LD,IT.step] at hr;split at hr;.rename_i v hv;exact⟨_,_,⟨v,hv,rfl,rfl⟩,hr⟩
  .cases hr
 |store n p v=>
  simp only[Ei.LD,IT.step] at hr;split at hr;.rename_i h1 hv;exact⟨_,_,⟨hv,rfl⟩,hr⟩
  .cases hr
 |alloc n v dst=>
  simp only[Ei.LD,IT.step,Xb] at hr;by_cases hn:v.cells.length=n;.rw[Ad hn] at hr;exact⟨_,_,⟨hn,rfl,rfl⟩,hr⟩
  .rw[Ac hn] at hr;cases hr
 |call f args dst=>
  simp only[Ei.LD,IT.step] at hr;split at hr;.rename_i r h1 hv;exact⟨_,_,⟨r,hv,rfl⟩,hr⟩
  .cases hr
 |FH g args dst=>
  simp only[Ei.LD,IT.step] at hr;split at hr
  .rename_i f a' ht;split at hr;.rename_i r h1 hv;exact⟨_,_,⟨f,a',r,ht,hv,rfl⟩,hr⟩
   .cases hr
  .cases hr
 |Co f args dst=>
  simp only[Ei.LD,IT.step] at hr;split at hr
  .rename_i HV;split at hr
   .rename_i r h1 hv;split at hr;.rename_i ju;exact⟨_,_,⟨HV,r,h1,hv,ju,rfl,rfl⟩,hr⟩
    .cases hr
   .cases hr
  .cases hr
 |OC dst=>exact⟨_,_,⟨rfl,rfl⟩,hr⟩
 |JJ m k v=>
  simp only[Ei.LD,IT.step] at hr;split at hr;.rename_i h1 hv;exact⟨_,_,⟨hv,rfl⟩,hr⟩
  .cases hr
 |LX z ok m k dst=>
  simp only[Ei.LD,IT.step] at hr;split at hr;.rename_i v hv;exact⟨_,_,⟨v,hv,rfl,rfl⟩,hr⟩
  .cases hr
 |make z b zero l c dst=>
  simp only[Ei.LD,IT.step] at hr;split at hr;.rename_i h1 v hv;exact⟨_,_,⟨v,hv,rfl⟩,hr⟩
  .cases hr
 |Ja z b s x dst e=>
  simp only[Ei.LD,IT.step] at hr;split at hr;.rename_i h1 v hv;exact⟨_,_,⟨v,hv,rfl⟩,hr⟩
  .cases hr
 |FJ z b s x dst=>
  simp only[Ei.LD,IT.step] at hr;split at hr;.rename_i h1 v hv;exact⟨_,_,⟨v,hv,rfl⟩,hr⟩
  .cases hr
 |FW z b s x dst e=>
  simp only[Ei.LD,IT.step] at hr;split at hr;.rename_i v hv;exact⟨_,_,⟨v,hv,rfl,rfl⟩,hr⟩
  .cases hr
 |E4 s dst=>
  simp only[Ei.LD,IT.step] at hr;split at hr;.rename_i h1 v hv;exact⟨_,_,⟨v,hv,rfl⟩,hr⟩
  .cases hr
 |Vk s dst=>
  simp only[Ei.LD,IT.step] at hr;split at hr
  .rename_i h1 v hv;split at hr;.rename_i u hu;exact⟨_,_,⟨v,u,hv,hu,rfl⟩,hr⟩
   .cases hr
  .cases hr
 |mem o args dst=>
  simp only[Ei.LD,IT.step] at hr;split at hr;.rename_i h1 v hv;exact⟨_,_,⟨v,hv,rfl⟩,hr⟩
  .cases hr
structure CH(C:FC)(γ0:Gh)(w0:World)(γ:Gh)(β:Nat->Nat)(U:Bx)(h:Ah)(a:Act)(w:World):Prop where
 Dr:GO γ h w
 fr:FR γ β w0.heap.size U a.tmps w
 Dq:KF γ0 w0 γ w
 defers:a.defers=[]
 Gq:∀g cs,C.Gq g=some cs->CD γ cs g 0
def PS{γ:Gh}{v:Value}{a:Aa}(h:No v=some a):Bz γ a v/\v.oneCell'=true:=by
 unfold No at h;split at h;case h_7=>
  rename_i fn f c;split at h;.rename_i hs;cases h;have d:f=#[]:=Ht hs.1;have b:c=#[]:=Ht hs.2;subst d;subst b;exact⟨⟨#[],#[],rfl,rfl,rfl⟩,rfl⟩
  .cases h
 all_goals first
  |(cases h;exact⟨rfl,rfl⟩)
  |cases h
def LF{γ:Gh}:∀{vs:List Value} {as:List Aa},Kw vs=some as->AS γ as vs/\∀v∈vs,v.oneCell'=true
 |[],as,h=>by cases h;exact⟨rfl,Aw⟩
 |v::vs,as,h=>by
  unfold Kw at h;split at h;.rename_i a c h1 h2;cases h;obtain⟨p,q⟩:=PS (γ:=γ) h1;obtain⟨p',b⟩:=LF (γ:=γ) h2;exact⟨⟨v,vs,rfl,p,p'⟩,λx hx=>(Az.1 hx).elim (λe=>by rw[e];exact q) (b x)⟩
  .cases h
def EO{γ:Gh}{v:Value}{a:Aa}(h:Jz v=some a):Bz γ a v:=by
 unfold Jz at h;split at h
 .rename_i cs;cases hs:Kw cs.toList with
  |none=>rw[hs] at h;cases h
  |some as=>rw[hs] at h;cases h;obtain⟨p,q⟩:=LF (γ:=γ) hs;exact⟨cs,rfl,p,q⟩
 .exact(PS h).1
section
variable{C:FC}{γ0 γ:Gh}{w0 w:World}{β:Nat->Nat}{U:Bx}{h:Ah}{a:Act}
def O6(hr:CH C γ0 w0 γ β U h a w){x:Operand}{sl:D0}(hx:DF C U x=some sl)(hn:∀s,x≠ .tmp s):∃s,J8 γ β w0.heap.size w s sl (a.eval x):=by
 unfold DF at hx;split at hx;.exact absurd rfl (hn _)
 .cases hx;exact⟨0,rfl⟩
 .cases hx;exact⟨0,rfl,.inl (.inl rfl)⟩
 .rename_i v _ _;cases hc:Jz v with
  |none=>rw[hc] at hx;cases hx
  |some u=>rw[hc] at hx;cases hx;exact⟨0,EO hc⟩
 .rename_i g;cases hc:C.Gq g with
  |none=>rw[hc] at hx;cases hx
  |some cs=>rw[hc] at hx;cases hx;exact⟨0,g,0,rfl,hr.Gq g cs hc⟩
 .cases hx;exact⟨0,#[],#[],rfl,rfl,rfl⟩
def PT(hr:CH C γ0 w0 γ β U h a w)(s:Nat):J8 γ β w0.heap.size w s (U.at s) (a.eval (.tmp s)):=hr.fr.Hd s
def Fy(hr:CH C γ0 w0 γ β U h a w){x:Operand}{sl:D0}(hx:DF C U x=some sl):∃s,J8 γ β w0.heap.size w s sl (a.eval x)/\∀t,x= .tmp t->s=t:=by
 cases x with
 |tmp t=>cases hx;exact⟨t,PT hr t,λ_ h=>by cases h;rfl⟩
 |const v=>obtain⟨s,h1⟩:=O6 hr hx (by intro s h;cases h);exact⟨s,h1,λ_ h=>by cases h⟩
 |global g=>obtain⟨s,h1⟩:=O6 hr hx (by intro s h;cases h);exact⟨s,h1,λ_ h=>by cases h⟩
 |func f=>obtain⟨s,h1⟩:=O6 hr hx (by intro s h;cases h);exact⟨s,h1,λ_ h=>by cases h⟩
def L6{B s:Nat}{sl:D0}{v:Value}{u:Aa}(hs:J8 γ β B w s sl v)(hv:sl.Gt=some u):Bz γ u v:=by
 cases sl<;>simp[D0.Gt] at hv;.subst hv;exact hs
 .subst hv;exact hs
 .subst hv;exact hs.1
def FT(hr:CH C γ0 w0 γ β U h a w){x:Operand}{u:Aa}(hx:Ex C U x=some u):Bz γ u (a.eval x):=by
 unfold Ex at hx;cases hs:DF C U x with
 |none=>rw[hs] at hx;cases hx
 |some sl=>rw[hs] at hx;obtain⟨s,h1,_⟩:=Fy hr hs;exact L6 h1 hx
def Ds(hr:CH C γ0 w0 γ β U h a w):∀{xs:List Operand} {us:List Aa},Be C U xs=some us->AS γ us (xs.map a.eval)
 |[],us,hx=>by cases hx;rfl
 |x::xs,us,hx=>by
  unfold Be at hx;split at hx;.rename_i u C6 h1 h2;cases hx;exact⟨_,_,rfl,FT hr h1,Ds hr h2⟩
  .cases hx
def FR.put{B:Nat}{tmps:Array Value}(hf:FR γ β B U tmps w){d:Nat}{x:D0}{v:Value}(hx:J8 γ β B w d x v):FR γ β B (U.set d x) (tmps.setIfInBounds d v) w:=by
 refine⟨by simp[hf.size],λs=>?_⟩;have hs:=hf.Hd s;by_cases he:s=d
 .subst he;by_cases hl:s<U.length
  .have Z_:s<tmps.size:=by rw[<-hf.size];exact hl
   simpa[Bx.at,List.getD,hl,Z_,Array.getD] using hx
  .have Z_:¬s<tmps.size:=by rw[<-hf.size];exact hl
   simpa[Bx.at,List.getD,hl,Z_,Array.getD] using hs
 .have h1:Bx.at (U.set d x) s=U.at s:=by simp[Bx.at,List.getD,An (λe=>he e.symm)]
  have h2:(tmps.setIfInBounds d v).getD s undef=tmps.getD s undef:=by simp[Gl,bX (λe=>he e.symm)]
  rw[h1,h2];exact hs
def FR.YY{B:Nat}{tmps:Array Value}(hf:FR γ β B U tmps w){d:Nat}{x:D0}(hx:J8 γ β B w d x (tmps.getD d undef)):FR γ β B (U.set d x) tmps w:=by
 refine⟨by simp[hf.size],λs=>?_⟩;have hs:=hf.Hd s;by_cases he:s=d
 .subst he;by_cases hl:s<U.length;.simpa[Bx.at,List.getD,hl] using hx
  .simpa[Bx.at,List.getD,hl] using hs
 .have h1:Bx.at (U.set d x) s=U.at s:=by simp[Bx.at,List.getD,An (λe=>he e.symm)]
  rw[h1];exact hs
def CH.put(hr:CH C γ0 w0 γ β U h a w){d:Option Nat}{x:D0}{v:Value}(hx:∀s,d=some s->J8 γ β w0.heap.size w s x v):CH C γ0 w0 γ β (U.put d x) h (a.put d v) w:=by
 cases d with
 |none=>exact hr
 |some d=>exact⟨hr.Dr,hr.fr.put (hx d rfl),hr.Dq,hr.defers,hr.Gq⟩
def CH.YY(hr:CH C γ0 w0 γ β U h a w){d:Nat}{x:D0}(hx:J8 γ β w0.heap.size w d x (a.tmps.getD d undef)):CH C γ0 w0 γ β (U.set d x) h a w:=
 ⟨hr.Dr,hr.fr.YY hx,hr.Dq,hr.defers,hr.Gq⟩
def CH.drop(hr:CH C γ0 w0 γ β U h a w)(ds:List Nat):CH C γ0 w0 γ β (U.drop ds) h a w:=by
 cases ds with
 |nil=>exact hr
 |cons d ds=>
  refine⟨hr.Dr,⟨by simp[Bx.drop,hr.fr.size],λs=>?_⟩,hr.Dq,hr.defers,hr.Gq⟩;have hs:=hr.fr.Hd s;have e:(Bx.drop U (d::ds)).at s=match U.at s with| .EI t o=>if(d::ds).contains t then .undef else .EI t o|x=>x:=by
   simp only[Bx.drop,Bx.at,List.getD,Cn];cases hg:U[s]? with
   |none=>rfl
   |some x=>cases x<;>rfl
  rw[e];cases hx:U.at s with
  |EI t o=>
   rw[hx] at hs;simp only
   split;.trivial
   .exact hs
  |_=>rw[hx] at hs;exact hs
def CH.HK(hr:CH C γ0 w0 γ β U h a w){γ':Gh}{h':Ah}{w':World}(hi:GO γ' h' w')(ha:KF γ w γ' w'):CH C γ0 w0 γ' β U h' a w':=
 ⟨hi,hr.fr.kept (mJ.pd hr.Dr ha),hr.Dq.trans ha,hr.defers,λg cs hg=>CD.mono ha.le _ _ _ (hr.Gq g cs hg)⟩
def HZ{P:Program}{o:Oper}{v:Value}{w':World}{next:Act->World->Prop}{Q:Exit->Act->World->Prop}(he:(execOp a.eval o).run P w= .ok (.value v) w')(hn:next (a.put o.dst v) w'):o.wp P a w next Q:=by unfold Oper.wp;rw[he];exact hn
def cG{P:Program}{o:Oper}{w':World}{next:Act->World->Prop}{Q:Exit->Act->World->Prop}(he:(execOp a.eval o).run P w= .ok .skip w')(hn:next (a.put o.dst undef) w'):o.wp P a w next Q:=by unfold Oper.wp;rw[he];exact hn
end
end Go.Am
end
section
namespace Go.Am
def Gh.E5(γ:Gh)(g:Nat)(x:Jd):Gh:={γ with BE:=λb=>if b=g then some x else γ.BE b}
section
variable{C:FC}{γ0 γ:Gh}{w0 w:World}{β:Nat->Nat}{U:Bx}{h:Ah}{a:Act}
def Gw(γ:Gh)(g:Nat)(x:Jd):γ.le (γ.E5 g x):=⟨λ_ _ _ h=>h,λ_ _ h=>h,λ_ _ h=>h⟩
def GO.E5(hi:GO γ h w){g s s' st:Nat}{c c':Option Nat}(hg:γ.BE g=some (.tail s c st)):GO (γ.E5 g (.tail s' c' st)) h w:=by
 refine⟨λb o v hb=>?_,λid y Hw hy=>?_,λid cs hc b hb=>?_,λid es hc b hb=>?_,hi.mu,λb x hx=>?_,λb n hb=>?_⟩;rotate_left 5
 .obtain⟨p,r⟩:=hi.sz b n hb;have:b≠g:=λhe=>by subst he;rw[hg] at r;rcases r with r|⟨_,r⟩<;>cases r
  exact⟨p,by simp only[Gh.E5,Ac this];exact r⟩
 .obtain⟨p,q,r⟩:=hi.Hh b o v hb;refine⟨p,q,?_⟩;by_cases he:b=g
  .subst he;rw[hg] at r;rcases r with r|⟨_,_,_,r,hl⟩
   .cases r
   .cases r;exact .inr ⟨s',c',st,by simp[Gh.E5],hl⟩
  .simpa only[Gh.E5,Ac he] using r
 .obtain⟨b,p,q⟩:=hi.K5 id y Hw hy;have:b≠g:=λhe=>by subst he;rw[hg] at q;cases q
  exact⟨b,p,by simp only[Gh.E5,Ac this];exact q⟩
 .obtain⟨us,e,fr,p,pf,q,r⟩:=hi.cells id cs hc b hb;exact⟨us,e,fr,p,pf,AS.mono (Gw γ g _) _ _ q,r⟩
 .obtain⟨us,e,p,q⟩:=hi.map id es hc b hb;exact⟨us,e,p,q.mono (Gw γ g _)⟩
 .by_cases he:b=g;.subst he;exact hi.BE b _ hg
  .simp only[Gh.E5,Ac he] at hx;exact hi.BE b x hx
def HY.E5{B:Nat}{s b st:Nat}{c f:Option Nat}{v:Value}{u:Aa}{x:Jd}{g:Nat}(hg:γ.BE g=some (.tail s c st))(ho:HY γ B w b f v u)(hne:b≠s\/f≠c):HY (γ.E5 g x) B w b f v u:=by
 rcases ho with ho|⟨g2,n,cap,us,e,z,Ao,h1,h2,d,i⟩
 .exact .inl ho
 .have:g2≠g:=λhe=>by subst he;rw[hg] at d;cases d;rcases hne with hne|hne<;>exact hne rfl
  exact .inr ⟨g2,n,cap,us,e,z,Ao,h1,h2,by simp only[Gh.E5,Ac this];exact d,i⟩
def FR.E5{B:Nat}{tmps:Array Value}(hf:FR γ β B U tmps w){g s st:Nat}{c:Option Nat}{x:Jd}(hg:γ.BE g=some (.tail s c st))
  (h1:c=none->∀v,U.at s≠ .BE v) (h2:∀o,c=some o->∀ver cs ow,U.at s= .box ver cs ow->o∉ow):FR (γ.E5 g x) β B U tmps w:=by
 refine⟨hf.size,λd=>?_⟩;have hs:=hf.Hd d;cases hx:U.at d with
 |undef=>trivial
 |skip=>rw[hx] at hs;exact hs
 |val u=>rw[hx] at hs;exact Bz.mono (Gw γ g x) _ _ hs
 |Nj b=>rw[hx] at hs;exact hs
 |BE u=>
  rw[hx] at hs;refine⟨Bz.mono (Gw γ g x) _ _ hs.1,hs.2.E5 hg ?_⟩;by_cases he:d=s
  .subst he;cases c with
   |none=>exact absurd hx (h1 rfl u)
   |some o=>exact .inr Aw
  .exact .inl he
 |box ver cs ow=>
  rw[hx] at hs;obtain⟨r,f,q,us,e,p,n,m,l⟩:=hs;have hb:β d≠g:=λhe=>by rw[he,hg] at f;cases f
  refine⟨r,by simp only[Gh.E5,Ac hb];exact f,q,us,e,p,AS.mono (Gw γ g x) _ _ n,m,λo ho=>?_⟩;obtain⟨u,v,k,j,i⟩:=l o ho;refine⟨u,v,k,j,i.E5 hg ?_⟩;by_cases he:d=s
  .subst he;cases c with
   |none=>exact .inr Aw
   |some o'=>refine .inr λhe=>?_;cases he;exact h2 o rfl ver cs ow hx ho
  .exact .inl he
 |EI s' o=>rw[hx] at hs;exact hs
def CH.E5(hr:CH C γ0 w0 γ β U h a w){g s st s':Nat}{c c':Option Nat}(hg:γ.BE g=some (.tail s c st))(hB:w0.heap.size<=g)
  (h1:c=none->∀v,U.at s≠ .BE v) (h2:∀o,c=some o->∀ver cs ow,U.at s= .box ver cs ow->o∉ow):CH C γ0 w0 (γ.E5 g (.tail s' c' st)) β U h a w:=by
 refine⟨hr.Dr.E5 hg,hr.fr.E5 hg h1 h2,?_,hr.defers,λx cs hx=>CD.mono (Gw γ g _) _ _ _ (hr.Gq x cs hx)⟩;refine⟨hr.Dq.le.trans (Gw γ g _),hr.Dq.size,hr.Dq.os,hr.Dq.tape,hr.Dq.output,λb hb hn=>?_⟩;.obtain⟨p,q⟩:=hr.Dq.ME b hb hn;exact⟨p,by simp only[Gh.E5,Ac (Ab:b≠g)];exact q⟩
def Bx.EP{s:Nat}{x:D0}(hs:s<U.length):Bx.at (U.set s x) s=x:=by simp[Bx.at,List.getD,hs]
def Bx.Fk{s t:Nat}{x:D0}(hs:s≠t):Bx.at (U.set s x) t=U.at t:=by simp[Bx.at,List.getD,An hs]
def Bx.Nu{s:Nat}(hs:U.at s≠ .undef):s<U.length:=by
 rcases Bg s U.length with h|h
 .exact h
 .exact absurd (by simp[Bx.at,List.getD,C3 h]) hs
def CH.take(hr:CH C γ0 w0 γ β U h a w){s:Nat}{v:Aa}(hs:U.at s= .BE v)(s':Nat)(c':Option Nat):
  ∃γ',γ.le γ'/\CH C γ0 w0 γ' β (U.set s (.val v)) h a w/\Bz γ' v (a.tmps.getD s undef)/\HY γ' w0.heap.size w s' c' (a.tmps.getD s undef) v:=by
 have h0:=hr.fr.Hd s;rw[hs] at h0;obtain⟨hv,ho⟩:=h0;have I7:CH C γ0 w0 γ β (U.set s (.val v)) h a w:=hr.YY hv;have hl:s<U.length:=Bx.Nu (by rw[hs];simp);rcases ho with ho|⟨g,n,cap,us,e,z,Ao,h1,h2,d,b,c⟩
 .exact⟨γ,.refl _,I7,hv,.inl ho⟩
 .refine⟨γ.E5 g (.tail s' c' (n*z)),Gw _ _ _,I7.E5 d b (λ_ u=>?_) (λo ho=>by cases ho),Bz.mono (Gw _ _ _) _ _ hv,.inr ⟨g,n,cap,us,e,z,Ao,h1,h2,by simp[Gh.E5],b,c⟩⟩;rw[Bx.EP hl];simp
def Xg{B s d:Nat}{sl b:D0}{v:Value}(hs:J8 γ β B w s sl v)(hc:Hl sl=some b):J8 γ β B w d b v:=by
 cases sl<;>simp[Hl] at hc;.subst hc;exact hs
 .subst hc;exact hs
 .subst hc;exact hs.1
 .subst hc;exact hs
def MH{ws:List (Nat×D0)}(h:∀p∈ws,∀cs ow,p.2≠ .box 0 cs ow):(Ei.pure ws).news=[]:=by
 simp only[Ei.news,List.filterMap_eq_nil_iff];rintro⟨s,x⟩ hp;have:=h _ hp;cases x with
 |box ver cs ow=>
  cases ver with
  |zero=>exact absurd rfl (this cs ow)
  |succ n=>rfl
 |_=>rfl
def PU{v:Value}{sl:D0}(hs:DF C U (.const v)=some sl):(∀B d,J8 γ β B w d sl v)/\∀ver cs ow,sl≠ .box ver cs ow:=by
 unfold DF at hs;split at hs;.rename_i I8;cases I8
 .rename_i I8;cases I8;cases hs;exact⟨λ_ _=>rfl,λ_ _ _ h=>by cases h⟩
 .rename_i I8;cases I8;cases hs;exact⟨λ_ _=>⟨rfl,.inl (.inl rfl)⟩,λ_ _ _ h=>by cases h⟩
 .rename_i I8;cases I8;cases hc:Jz v with
  |none=>rw[hc] at hs;cases hs
  |some u=>rw[hc] at hs;cases hs;exact⟨λ_ _=>EO hc,λ_ _ _ h=>by cases h⟩
 .rename_i I8;cases I8
 .rename_i I8;cases I8
def Gg{s:Nat}{sl:D0}(hs:DF C U (.tmp s)=some sl):U.at s=sl:=Ew hs
def cH{x:Operand}{v:Aa}(hs:DF C U x=some (.BE v))(hn:∀c,x≠ .const c):∃s,x= .tmp s/\U.at s= .BE v:=by
 cases x with
 |tmp s=>exact⟨s,rfl,Gg hs⟩
 |const c=>exact absurd rfl (hn c)
 |global g=>have YH:(C.Gq g).map (λcs=>D0.val (Aa.Cz cs))=some (.BE v):=hs;cases hc:C.Gq g<;>rw[hc] at YH<;>cases YH
 |func f=>cases hs
def PV{x:Operand}{d:Nat}{take:Bool}{r:Ei}{run:IT->Ah->Option Jb}{e:Bx}{h':Ah}(hm:Ji C U x d take=some r)(hd:r.L4 C run (U.drop r.news) h e h')
  (hr:CH C γ0 w0 γ β U h a w):∃γ',CH C γ0 w0 γ' β e h' (a.put (some d) (a.eval x)) w:=by
 unfold Ji at hm;split at hm;.rename_i s _ _ _ hs;cases hm;rw[MH Aw] at hd;obtain⟨rfl,rfl⟩:=hd;refine⟨γ,hr.put (d:=some d) λt ht=>?_⟩;have h0:=PT hr s;rw[Gg hs] at h0;exact h0.1
 .rename_i v sl hs;cases hm;obtain⟨p,q⟩:=PU (γ:=γ) (β:=β) (w:=w) hs;rw[MH (by simpa using λcs ow=>q 0 cs ow)] at hd;obtain⟨rfl,rfl⟩:=hd;exact⟨γ,hr.put (d:=some d) λt _=>p _ t⟩
 .rename_i v hnc hs;split at hm;.cases hm;obtain⟨s,rfl,jx⟩:=cH hs (λc hc=>hnc c hc);rw[MH (by simp[PJ])] at hd;obtain⟨rfl,rfl⟩:=hd;obtain⟨γ',Eg,GH,Ig,xU⟩:=hr.take jx d none;exact⟨γ',GH.put (d:=some d) λt ht=>by cases ht;exact⟨Ig,xU⟩⟩
  .simp only[Hl,BU] at hm;cases hm;rw[MH Aw] at hd;obtain⟨rfl,rfl⟩:=hd;obtain⟨s,h1,_⟩:=Fy hr hs;exact⟨γ,hr.put (d:=some d) λt ht=>h1.1⟩
 .rename_i sl _ _ _ hs;cases hc:Hl sl with
  |none=>rw[hc] at hm;cases hm
  |some b=>
   rw[hc] at hm;cases hm;have q9:∀cs ow,b≠ .box 0 cs ow:=by intro cs ow he;subst he;cases sl<;>simp[Hl] at hc
   rw[MH (by simpa using q9)] at hd;obtain⟨rfl,rfl⟩:=hd;obtain⟨s,h1,_⟩:=Fy hr hs;exact⟨γ,hr.put (d:=some d) λt ht=>Xg h1 hc⟩
 .cases hm
end
end Go.Am
end
section
namespace Go.Am
open Go
def Tx{s:Sem Value}{v:Value}(h:Od s=some v):s= .pure v:=by cases s<;>simp[Od] at h;subst h;rfl
section
variable{P:Program}{γ:Gh}{w:World}
def YZ{op:BinOp}{k l:IntKind}{x y:Int}{u:Aa}(t:TypeId)(c b:Operand)(h:iA op k x l y=some u):
  ∃v,(do eqGuard op t c b (.int k x) (.int l y);binOp op t (.int k x) (.int l y):Sem Value).run P w= .ok v w/\Bz γ u v:=by
 unfold iA at h;cases hs:Od (binOp op 0 (.int k x) (.int l y)) with
 |none=>rw[hs] at h;cases h
 |some v=>
  rw[hs] at h;have f:=Tx hs;have e:binOp op t (.int k x) (.int l y)= .pure v:=by rw[<-f];cases op<;>rfl
  have d:eqGuard op t c b (.int k x) (.int l y)=pure ():=by cases op<;>rfl
  refine⟨v,by rw[d,e];rfl,?_⟩;simp only[B5] at h;split at h<;>cases h<;>rfl
def Xh(l:List UInt8):(ByteArray.mk ⟨l⟩).toList=l:=ByteArray.toList_mk l
def Y0{op:BinOp}{x y:Aq}{u:Aa}(t:TypeId)(d c:Operand)(h:YU op x y=some u):
  ∃v,(do eqGuard op t d c (.string ⟨⟨x⟩⟩) (.string ⟨⟨y⟩⟩);binOp op t (.string ⟨⟨x⟩⟩) (.string ⟨⟨y⟩⟩):Sem Value).run P w= .ok v w/\Bz γ u v:=by
 have e:eqGuard op t d c (.string ⟨⟨x⟩⟩) (.string ⟨⟨y⟩⟩)=pure ():=by cases op<;>rfl
 have b:binOp op t (.string ⟨⟨x⟩⟩) (.string ⟨⟨y⟩⟩)=Op.stringOp op ⟨⟨x⟩⟩ ⟨⟨y⟩⟩:=by cases op<;>rfl
 rw[e,b];unfold YU at h;cases op<;>simp only at h<;>first
  |cases h;done
  |(simp only[Op.stringOp,Xh];cases h;exact⟨_,rfl,rfl⟩)
  | (split at h
     . rename_i Eg
       cases h
       have hc : ¬ ((((ByteArray.mk ⟨x⟩).size + (ByteArray.mk ⟨y⟩).size : Nat) : Int) > IntKind.i64.max) := by
         have f : (ByteArray.mk ⟨x⟩).size = x.length := rfl
         have b : (ByteArray.mk ⟨y⟩).size = y.length := rfl
         rw [f, b]
         have : IntKind.i64.max = 9223372036854775807 := Bj
         rw [this]
         omega
       simp only [Op.stringOp, Ac hc]
       refine ⟨_, rfl, ?_⟩
       show Value.string _ = Value.string _
       first
         | (congr 1; done)
         | (congr 1; apply ByteArray.ext; simp)
     . cases h)
def cI{t:TypeId}(h:EM P t=some none):(isAgg t).run P w= .ok false w:=by
 unfold EM at h;split at h;.cases hs:BJ P t<;>rw[hs] at h<;>cases h
 .cases hs:BJ P t<;>rw[hs] at h<;>cases h
 .rename_i d h1 h2 hu;simp only[isAgg,Sem.run_bind,run_underlying hu,Result.andThen_ok];rfl
 .cases h
def O7{t:TypeId}{n:Nat}(h:EM P t=some (some n)):(isAgg t).run P w= .ok true w/\BJ P t=some n:=by
 unfold EM at h;split at h
 .rename_i fs hu;cases hs:BJ P t with
  |none=>rw[hs] at h;cases h
  |some m=>rw[hs] at h;cases h;exact⟨by simp[isAgg,run_underlying hu],rfl⟩
 .rename_i fs _ hu;cases hs:BJ P t with
  |none=>rw[hs] at h;cases h
  |some m=>rw[hs] at h;cases h;exact⟨by simp[isAgg,run_underlying hu],rfl⟩
 .cases h
 .cases h
def Dc{t:TypeId}{n:Nat}(h:BJ P t=some n):(sizeOf t).run P w= .ok n w:=by
 unfold BJ at h;cases hi:P.info? t with
 |none=>rw[hi] at h;cases h
 |some i=>rw[hi] at h;cases h;simp[sizeOf,typeInfo,hi]
def Y1{t:TypeId}{b:Option Nat}{cs:List Aa}{us:Array Value}{off:Nat}{u:Aa}(bL:EM P t=some b)(hr:AS γ cs us.toList)(h1:∀v∈us.toList,v.oneCell'=true)
  (hp:EJ cs off b=some u):∃v,(part t us off).run P w= .ok v w/\Bz γ u v:=by
 cases b with
 |none=>
  replace hp:cs[off]?=some u:=hp;obtain⟨v,hv,hrel⟩:=hr.get hp;refine⟨v,?_,hrel⟩;have Ig:us[off]?=some v:=by simpa using hv
  simp[part,cI bL,Ig]
 |some n=>
  obtain⟨ha,hs⟩:=O7 (w:=w) bL;replace hp:(if off+n<=cs.length then some (Aa.agg ((cs.drop off).take n)) else none)=some u:=hp;split at hp
  .cases hp;refine⟨.agg (us.extract off (off+n)),by simp[part,ha,Dc hs],us.extract off (off+n),rfl,?_,?_⟩;.have:=(hr.drop off).take n;simpa[Mw,GN] using this
   .intro v hv;refine h1 v ?_;rw[Mw,GN] at hv;exact A6 (AN hv)
  .cases hp
end
end Go.Am
end
section
namespace Go.Am
open Go
def rA{x y:Aa}{b:Bool}(h:Lx .b x y=some b):∃p q,x= .bool p/\y= .bool q/\(p==q)=b:=by unfold Lx at h;split at h<;>first|cases h;done|(rename_i he;cases he;done)|(cases h;exact⟨_,_,rfl,rfl,rfl⟩)
def rB{x y:Aa}{b:Bool}(h:Lx .i x y=some b):∃k p q,x= .int k p/\y= .int k q/\(p==q)=b:=by
 unfold Lx at h;split at h;.rename_i he;cases he
 .split at h;.rename_i hk;subst hk;cases h;exact⟨_,_,_,rfl,rfl,rfl⟩
  .cases h
 .rename_i he;cases he
 .cases h
def rC{x y:Aa}{b:Bool}(h:Lx .s x y=some b):∃p q,x= .str p/\y= .str q/\(p==q)=b:=by
 unfold Lx at h;split at h;.rename_i he;cases he
 .rename_i he;cases he
 .cases h;exact⟨_,_,rfl,rfl,rfl⟩
 .cases h
def Nv:∀{ks pj:List FK} {xs ys:List Aa} {b:Bool},DQ (ks++pj) xs ys=some b->
  ∃b1 b2,DQ ks (xs.take ks.length) (ys.take ks.length)=some b1/\DQ pj (xs.drop ks.length) (ys.drop ks.length)=some b2/\b=(b1&&b2)
 |[],pj,xs,ys,b,h=>⟨true,b,by simp[DQ],by simpa using h,Aw⟩
 |k::ks,pj,[],ys,b,h=>by cases ys<;>simp[DQ] at h
 |k::ks,pj,x::xs,[],b,h=>by simp[DQ] at h
 |k::ks,pj,x::xs,y::ys,b,h=>by
  simp only[CP,DQ] at h;split at h;.rename_i e es h1 h2;cases h;obtain⟨b1,b2,p,q,r⟩:=Nv h2;refine⟨e&&b1,b2,?_,by simpa using q,by rw[r,Bool.and_assoc]⟩;simp only[AU,VN,DQ,h1,p]
  .cases h
def Nw:∀{ks:List FK} {xs ys:List Aa} {b:Bool},DQ ks xs ys=some b->xs.length=ks.length/\ys.length=ks.length
 |[],xs,ys,b,h=>by cases xs<;>cases ys<;>simp[DQ] at h⊢
 |k::ks,xs,ys,b,h=>by
  cases xs<;>cases ys<;>simp[DQ] at h;split at h;.rename_i h1 h2;obtain⟨p,q⟩:=Nw h2;simp[p,q]
  .cases h
section
variable{P:Program}{γ:Gh}{w:World}
def VY:∀{d:Nat} {t:TypeId} {ks:List FK},Nr P d t=some ks->BJ P t=some ks.length
 |0,t,ks,h=>by cases h
 |d+1,t,ks,h=>by
  simp only[Nr] at h;split at h;.split at h<;>cases h;assumption
  .split at h<;>cases h;assumption
  .split at h<;>cases h;assumption
  .split at h
   .split at h;.rename_i hc;cases h;exact hc.1
    .cases h
   .cases h
  .cases h
def cJ{ks:List FK}{k:FK}{t:TypeId}(h:(if BJ P t=some 1 then some [k] else none)=some ks):ks=[k]:=by split at h<;>cases h;rfl
def FU{t:TypeId}{us:Array Value}{off:Nat}{v:Value}{d:TypeDesc}(hu:P.underlying t=some d)(h1:∀fs,d≠ .struct fs)(h2:∀n e,d≠ .array n e)(hv:us[off]?=some v):
  (part t us off).run P w= .ok v w:=by
 have ha:(isAgg t).run P w= .ok false w:=by simp only[isAgg,Sem.run_bind,run_underlying hu,Result.andThen_ok];cases d<;>first|rfl|exact absurd rfl (h1 _)|exact absurd rfl (h2 _ _)
 simp[part,ha,hv]
def Is{l:List Aa}{off:Nat}{x:Aa}(h:(l.drop off).take 1=[x]):l[off]?=some x:=by have:=Ca (·[0]?) h;simpa using this
def Tz{k:FK}{xs ys:List Aa}{b:Bool}(h:DQ [k] xs ys=some b):∃x y,xs=[x]/\ys=[y]/\Lx k x y=some b:=by
 cases xs<;>cases ys<;>simp[DQ] at h;rename_i x xs y ys;cases xs<;>cases ys<;>simp[DQ] at h;all_goals first
  | (split at h
     . rename_i e es h1 h2; cases h2; cases h; exact ⟨x, y, rfl, rfl, by simpa using h1⟩
     . cases h)
  |(split at h<;>simp_all)
mutual
def Y2:∀{d D:Nat},d<=D->∀{t:TypeId} {ks:List FK},Nr P d t=some ks->∀(us vs:Array Value) (cs ds:List Aa) (off:Nat) (b:Bool),AS γ cs us.toList->AS γ ds vs.toList->
  DQ ks ((cs.drop off).take ks.length) ((ds.drop off).take ks.length)=some b->
  ∃x y,(part t us off).run P w= .ok x w/\(part t vs off).run P w= .ok y w/\(Op.equalIn D t x y).run P w= .ok b w
 |0,_,_,_,_,h=>by cases h
 |d+1,0,hd,_,_,_=>Ab
 |d+1,D+1,hd,t,ks,h=>by
  intro us vs cs ds off b hu hv he;have J3:=VY h;simp only[Nr] at h;split at h;.rename_i VZ;have:=cJ h;subst this;obtain⟨x,y,m,l,k⟩:=Tz he;obtain⟨x',i,g⟩:=hu.get (Is m);obtain⟨c,f,e⟩:=hv.get (Is l);refine⟨x',c,FU VZ Aw Aw (by simpa using i),FU VZ Aw Aw (by simpa using f),?_⟩;obtain⟨o,n,rfl,rfl,j⟩:=rA k;rw[g,e,run_equalIn_bool' w D t _ _ VZ,<-j]
  .rename_i kk VZ;have:=cJ h;subst this;obtain⟨x,y,m,l,k⟩:=Tz he;obtain⟨x',i,g⟩:=hu.get (Is m);obtain⟨c,f,e⟩:=hv.get (Is l);refine⟨x',c,FU VZ Aw Aw (by simpa using i),FU VZ Aw Aw (by simpa using f),?_⟩;obtain⟨p,o,n,rfl,rfl,j⟩:=rB k;rw[g,e,run_equalIn_int w D t _ _ _ _ VZ,<-j]
  .rename_i VZ;have:=cJ h;subst this;obtain⟨x,y,m,l,k⟩:=Tz he;obtain⟨x',i,g⟩:=hu.get (Is m);obtain⟨c,f,e⟩:=hv.get (Is l);refine⟨x',c,FU VZ Aw Aw (by simpa using i),FU VZ Aw Aw (by simpa using f),?_⟩;obtain⟨o,n,rfl,rfl,j⟩:=rC k;rw[g,e,run_equalIn_string w D t _ _ VZ,Xh,Xh,<-j]
  .rename_i fs VZ;split at h
   .rename_i pj Ld;split at h
    .rename_i hc;cases h;have bL:EM P t=some (some ks.length):=by simp[EM,VZ,J3]
     obtain⟨ha,hs⟩:=O7 (w:=w) bL;refine⟨.agg (us.extract off (off+ks.length)),.agg (vs.extract off (off+ks.length)),by simp[part,ha,Dc hs],by simp[part,ha,Dc hs],?_⟩;have aBx:P.underlying t=some (.struct (P.fieldsOf t)):=by simp[Program.fieldsOf,VZ]
     rw[run_equalIn_struct w D t _ _ aBx hc.2];have hf:(P.fieldsOf t).toList=fs.toList:=by simp[Program.fieldsOf,VZ]
     rw[hf];have rD:AS γ ((cs.drop off).take ks.length) (us.extract off (off+ks.length)).toList:=by have:=(hu.drop off).take ks.length;simpa[Mw,GN] using this
     have Ig:AS γ ((ds.drop off).take ks.length) (vs.extract off (off+ks.length)).toList:=by have:=(hv.drop off).take ks.length;simpa[Mw,GN] using this
     refine V0 (Nat.le_of_succ_le_succ hd) fs.toList Ld _ _ _ _ _ rD Ig ?_;simpa using he
    .cases h
   .cases h
  .cases h
def V0:∀{d D:Nat},d<=D->∀(fs:List Field) {off:Nat} {ks:List FK},Tn (Nr P d) fs off=some ks->∀(us vs:Array Value) (cs ds:List Aa) (b:Bool),AS γ cs us.toList->AS γ ds vs.toList->
  DQ ks (cs.drop off) (ds.drop off)=some b->(Op.eqFields D us vs fs).run P w= .ok b w
 |d,D,hd,[],off,ks,h=>by
  intro us vs cs ds b hu hv he;cases h;have:b=true:=by cases h1:cs.drop off<;>cases h2:ds.drop off<;>rw[h1,h2] at he<;>simp[DQ] at he;exact he
  subst this;rfl
 |d,D,hd,f::fs,off,ks,h=>by
  intro us vs cs ds b hu hv he;simp only[Tn] at h;split at h
  .rename_i hc;obtain⟨hn,À⟩:=hc;split at h
   .rename_i c Y3;cases hr:Tn (Nr P d) fs (off+c.length) with
    |none=>rw[hr] at h;cases h
    |some j=>
     rw[hr] at h;cases h;obtain⟨b1,b2,l,k,rfl⟩:=Nv he;obtain⟨x,y,i,g,e⟩:=Y2 hd Y3 _ _ _ _ _ _ hu hv l;simp only[Op.eqFields,hn,CC,AM,BH,À,Sem.run_bind,i,g,e,Result.andThen_ok];cases b1;.rfl
     .simp only[Gn,Dk,E9,Bool.true_and];exact V0 hd fs hr _ _ _ _ _ hu hv (by simpa[DL] using k)
   .cases h
  .cases h
end
def Y4{op:BinOp}{t:TypeId}{d c:Operand}{neg:Bool}{ks:List FK}{a b:List Aa}{x y:Value}{u:Aa}(OD:(op= .eql/\neg=false)\/(op= .neq/\neg=true))
  (hg:P.eqGuardType P.depth t=false) (hk:Nr P 20 t=some ks) (HW:∃fs,P.underlying t=some (.struct fs)) (hx:Bz γ (.agg a) x) (hy:Bz γ (.agg b) y) (h:(DQ ks a b).map (λe=>Aa.bool (e != neg))=some u):
  ∃v,(do eqGuard op t d c x y;binOp op t x y:Sem Value).run P w= .ok v w/\Bz γ u v:=by
 obtain⟨us,rfl,hu,_⟩:=hx;obtain⟨vs,rfl,hv,_⟩:=hy;cases he:DQ ks a b with
 |none=>rw[he] at h;cases h
 |some e=>
  rw[he] at h;cases h;obtain⟨l1,m⟩:=Nw he;obtain⟨x',j,i,g,f⟩:=Y2 (w:=w) (P:=P) (γ:=γ) (D:=10000) (Ab:20<=10000) hk us vs a b 0 e hu hv (by rw[KX,KX,AR (KY l1),AR (KY m)];exact he);obtain⟨fs,Ld⟩:=HW;have bL:EM P t=some (some ks.length):=by simp[EM,Ld,VY hk]
  obtain⟨ha,hs⟩:=O7 (w:=w) bL;have o:us.extract 0 ks.length=us:=by
   have:us.size=ks.length:=by have:=hu.length;simp at this;omega
   rw[<-this];simp
  have n:vs.extract 0 ks.length=vs:=by
   have:vs.size=ks.length:=by have:=hv.length;simp at this;omega
   rw[<-this];simp
  have l:x'= .agg us:=by simp[part,ha,Dc hs,o] at i;exact i.symm
  have k:j= .agg vs:=by simp[part,ha,Dc hs,n] at g;exact g.symm
  subst l;subst k;rcases OD with⟨rfl,rfl⟩|⟨rfl,rfl⟩
  .refine⟨.bool e,by simp[run_eqGuard_agg (P:=P) w .eql t d c us vs hg,run_eql_struct,f],?_⟩;show Value.bool e=Value.bool _;cases e<;>rfl
  .refine⟨.bool (!e),by simp[run_eqGuard_agg (P:=P) w .neq t d c us vs hg,run_neq_struct,f],?_⟩;show Value.bool _=Value.bool _;cases e<;>rfl
end
end Go.Am
end
