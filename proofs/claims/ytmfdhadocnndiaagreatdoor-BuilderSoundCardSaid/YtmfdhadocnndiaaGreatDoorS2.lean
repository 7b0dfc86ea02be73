/- Lemmas -/
import Derived.Test.YtmfdhadocnndiaaGreatDoorS1
import Derived.Orders
import Derived.Laws.AppendOwn
import Derived.Laws.StructEq
set_option linter.all false
section
namespace Go.Am
inductive IY where
 |KJ (id:Nat)
 |zf (s:Nat)
 |tail (s:Nat) (c:Option Nat) (start:Nat)
def IY.q8:IY->Bool
 | .KJ _=>true
 |_=>false
structure Gh where
 GQ:Nat->Nat->Option Value
 mu:Nat->Option Nat
 BB:Nat->Option IY
 sz:Nat->Option Nat
mutual
def Bv(γ:Gh):Aa->Value->Prop
 | .bool b,v=>v= .bool b
 | .int k n,v=>v= .int k n
 | .str s,v=>v= .string ⟨⟨s⟩⟩
 | .ptr none,v=>v= .pointer none
 | .ptr (some (id,o)),v=>∃b,γ.mu id=some b/\v= .pointer (some ⟨b,o,none⟩)
 | .B3 cs,v=>∃b o,v= .pointer (some ⟨b,o,none⟩)/\Cz γ cs b o
 | .sl z Af,v=>∃ad cap,v= .slice (some ad) Af.length cap/\Af.length<=cap/\(ad.spot=none\/cap=0)/\DY γ Af z ad.block ad.off
 | .slnil,v=>v= .slice none 0 0
 | .Fb _,v=>∃b,v= .slice (some ⟨b,0,none⟩) 0 0
 | .CI id off len z,v=>∃b cap,γ.mu id=some b/\v= .slice (some ⟨b,off,none⟩) len cap/\len<=cap/\(0<z/\cap<=maxLen)/\γ.sz b=some (off+cap*z)
 | .map none,v=>v= .map none
 | .map (some id),v=>∃b,γ.mu id=some b/\v= .map (some b)
 | .func fn f c,v=>∃fs cs,v= .func fn fs cs/\AQ γ f fs.toList/\AQ γ c cs.toList
 | .nilFunc,v=>v= .nilFunc
 | .iface t a,v=>∃u,v= .iface t u/\Bv γ a u
 | .nilIface,v=>v= .nilIface
 | .agg cs,v=>∃us,v= .agg us/\AQ γ cs us.toList/\∀u∈us.toList,u.oneCell'=true
 | .tuple vs,v=>∃us,v= .tuple us/\AQ γ vs us.toList
def AQ(γ:Gh):List Aa->List Value->Prop
 |[],us=>us=[]
 |a::l,us=>∃u C4,us=u::C4/\Bv γ a u/\AQ γ l C4
def Cz(γ:Gh):List Aa->Nat->Nat->Prop
 |[],_,_=>True
 |a::l,b,o=>(∃u,γ.GQ b o=some u/\Bv γ a u)/\Cz γ l b (o+1)
def DY(γ:Gh):List (List Aa)->Nat->Nat->Nat->Prop
 |[],_,_,_=>True
 |r::rs,z,b,o=>r.length=z/\Cz γ r b o/\DY γ rs z b (o+z)
end
structure Gh.le(γ γ':Gh):Prop where
 GQ:∀b o v,γ.GQ b o=some v->γ'.GQ b o=some v
 mu:∀id b,γ.mu id=some b->γ'.mu id=some b
 sz:∀b n,γ.sz b=some n->γ'.sz b=some n
def Gh.le.refl(γ:Gh):γ.le γ:=⟨λ_ _ _ h=>h,λ_ _ h=>h,λ_ _ h=>h⟩
def Gh.le.trans{a b c:Gh}(h:a.le b)(k:b.le c):a.le c:=⟨λ_ _ _ x=>k.GQ _ _ _ (h.GQ _ _ _ x),λ_ _ x=>k.mu _ _ (h.mu _ _ x),λ_ _ x=>k.sz _ _ (h.sz _ _ x)⟩
mutual
def Bv.mono{γ γ':Gh}(D0:γ.le γ'):∀(a:Aa) (v:Value),Bv γ a v->Bv γ' a v
 | .bool b,v,h=>h
 | .int k n,v,h=>h
 | .str s,v,h=>h
 | .ptr none,v,h=>h
 | .ptr (some (id,o)),v,h=>by obtain⟨b,hb,hv⟩:=h;exact⟨b,D0.mu _ _ hb,hv⟩
 | .B3 cs,v,h=>by obtain⟨b,o,hv,hm⟩:=h;exact⟨b,o,hv,Cz.mono D0 cs b o hm⟩
 | .sl z Af,v,h=>by obtain⟨ad,cap,hv,hc,hs,hm⟩:=h;exact⟨ad,cap,hv,hc,hs,DY.mono D0 Af z _ _ hm⟩
 | .slnil,v,h=>h
 | .Fb _,v,h=>h
 | .CI id off len z,v,h=>by obtain⟨b,cap,hb,hv,hc,hz,hs⟩:=h;exact⟨b,cap,D0.mu _ _ hb,hv,hc,hz,D0.sz _ _ hs⟩
 | .map none,v,h=>h
 | .map (some id),v,h=>by obtain⟨b,hb,hv⟩:=h;exact⟨b,D0.mu _ _ hb,hv⟩
 | .func fn f c,v,h=>by obtain⟨fs,cs,hv,h1,h2⟩:=h;exact⟨fs,cs,hv,AQ.mono D0 f _ h1,AQ.mono D0 c _ h2⟩
 | .nilFunc,v,h=>h
 | .iface t a,v,h=>by obtain⟨u,hv,h1⟩:=h;exact⟨u,hv,Bv.mono D0 a u h1⟩
 | .nilIface,v,h=>h
 | .agg cs,v,h=>by obtain⟨us,hv,h1,h2⟩:=h;exact⟨us,hv,AQ.mono D0 cs _ h1,h2⟩
 | .tuple vs,v,h=>by obtain⟨us,hv,h1⟩:=h;exact⟨us,hv,AQ.mono D0 vs _ h1⟩
def AQ.mono{γ γ':Gh}(D0:γ.le γ'):∀(l:List Aa) (us:List Value),AQ γ l us->AQ γ' l us
 |[],us,h=>h
 |a::l,us,h=>by obtain⟨u,C4,hu,h1,h2⟩:=h;exact⟨u,C4,hu,Bv.mono D0 a u h1,AQ.mono D0 l C4 h2⟩
def Cz.mono{γ γ':Gh}(D0:γ.le γ'):∀(l:List Aa) (b o:Nat),Cz γ l b o->Cz γ' l b o
 |[],_,_,_=>trivial
 |a::l,b,o,h=>by obtain⟨⟨u,hu,h1⟩,h2⟩:=h;exact⟨⟨u,D0.GQ _ _ _ hu,Bv.mono D0 a u h1⟩,Cz.mono D0 l b (o+1) h2⟩
def DY.mono{γ γ':Gh}(D0:γ.le γ'):∀(rs:List (List Aa)) (z b o:Nat),DY γ rs z b o->DY γ' rs z b o
 |[],_,_,_,_=>trivial
 |r::rs,z,b,o,h=>⟨h.1,Cz.mono D0 r b o h.2.1,DY.mono D0 rs z b (o+z) h.2.2⟩
end
def AQ.length{γ:Gh}:∀{l:List Aa} {us:List Value},AQ γ l us->us.length=l.length
 |[],us,h=>by rw[AQ] at h;subst h;rfl
 |a::l,us,h=>by rw[AQ] at h;obtain⟨u,C4,rfl,_,h2⟩:=h;simp[h2.length]
def AQ.get{γ:Gh}:∀{l:List Aa} {us:List Value},AQ γ l us->∀{i:Nat} {a:Aa},l[i]?=some a->∃u,us[i]?=some u/\Bv γ a u
 |[],us,h,i,a,hi=>by simp at hi
 |x::l,us,h,i,a,hi=>by
  rw[AQ] at h;obtain⟨u,C4,rfl,h1,h2⟩:=h;cases i with
  |zero=>simp at hi;subst hi;exact⟨u,rfl,h1⟩
  |succ i=>simp at hi;obtain⟨v,hv,hr⟩:=h2.get hi;exact⟨v,by simpa using hv,hr⟩
def AQ.FX{γ:Gh}:∀{l:List Aa} {us:List Value},us.length=l.length->(∀(i:Nat) (a:Aa) (u:Value),l[i]?=some a->us[i]?=some u->Bv γ a u)->AQ γ l us
 |[],us,hl,_=>by rw[AQ];exact B4 hl
 |x::l,[],hl,_=>by simp at hl
 |x::l,u::us,hl,h=>by rw[AQ];exact⟨u,us,rfl,h 0 x u rfl rfl,AQ.FX (by simpa using hl) λi a v hi hv=>h (i+1) a v (by simpa using hi) (by simpa using hv)⟩
def AQ.append{γ:Gh}:∀{l l':List Aa} {us C4:List Value},AQ γ l us->AQ γ l' C4->AQ γ (l++l') (us++C4)
 |[],l',us,C4,h,h'=>by rw[AQ] at h;subst h;simpa using h'
 |a::l,l',us,C4,h,h'=>by rw[AQ] at h;obtain⟨u,r,rfl,h1,h2⟩:=h;rw[Cl,AQ];exact⟨u,r++C4,rfl,h1,h2.append h'⟩
def AQ.take{γ:Gh}{l:List Aa}{us:List Value}(h:AQ γ l us)(n:Nat):AQ γ (l.take n) (us.take n):=by
 refine AQ.FX (by simp[h.length]) λi a u hi hu=>?_;rw[B2] at hi hu;split at hi;.rename_i hlt;rw[Ad hlt] at hu;obtain⟨v,hv,hr⟩:=h.get hi;rw[hu] at hv;cases hv;exact hr
 .cases hi
def AQ.drop{γ:Gh}{l:List Aa}{us:List Value}(h:AQ γ l us)(n:Nat):AQ γ (l.drop n) (us.drop n):=by refine AQ.FX (by simp[h.length]) λi a u hi hu=>?_;rw[Ci] at hi hu;obtain⟨v,hv,hr⟩:=h.get hi;rw[hu] at hv;cases hv;exact hr
def Cz.get{γ:Gh}:∀{l:List Aa} {b o:Nat},Cz γ l b o->∀{i:Nat} {a:Aa},l[i]?=some a->∃u,γ.GQ b (o+i)=some u/\Bv γ a u
 |[],b,o,h,i,a,hi=>by simp at hi
 |x::l,b,o,h,i,a,hi=>by
  rw[Cz] at h;obtain⟨⟨u,hu,h1⟩,h2⟩:=h;cases i with
  |zero=>simp at hi;subst hi;exact⟨u,hu,h1⟩
  |succ i=>simp at hi;obtain⟨v,hv,hr⟩:=h2.get hi;exact⟨v,by rw[<-hv];congr 1;omega,hr⟩
def Cz.FX{γ:Gh}:∀{l:List Aa} {b o:Nat},(∀(i:Nat) (a:Aa),l[i]?=some a->∃u,γ.GQ b (o+i)=some u/\Bv γ a u)->Cz γ l b o
 |[],b,o,h=>by rw[Cz];trivial
 |x::l,b,o,h=>by rw[Cz];refine⟨h 0 x rfl,Cz.FX λi a hi=>?_⟩;obtain⟨u,hu,hr⟩:=h (i+1) a (by simpa using hi);exact⟨u,by rw[<-hu];congr 1;omega,hr⟩
def Cz.drop{γ:Gh}{l:List Aa}{b o:Nat}(h:Cz γ l b o)(n:Nat):Cz γ (l.drop n) b (o+n):=by refine Cz.FX λi a hi=>?_;rw[Ci] at hi;obtain⟨u,hu,hr⟩:=h.get hi;exact⟨u,by rw[<-hu];congr 1;omega,hr⟩
def Cz.values{γ:Gh}:∀{l:List Aa} {b o:Nat},Cz γ l b o->∃us:List Value,AQ γ l us/\∀(j:Nat) (u:Value),us[j]?=some u->γ.GQ b (o+j)=some u
 |[],b,o,h=>⟨[],by rw[AQ],Av⟩
 |x::l,b,o,h=>by
  rw[Cz] at h;obtain⟨⟨u,hu,h1⟩,h2⟩:=h;obtain⟨us,hr,hi⟩:=h2.values;refine⟨u::us,by rw[AQ];exact⟨u,us,rfl,h1,hr⟩,λj v hj=>?_⟩;cases j with
  |zero=>simp at hj;subst hj;exact hu
  |succ j=>simp at hj;rw[<-hi j v hj];congr 1;omega
def DY.get{γ:Gh}:∀{rs:List (List Aa)} {z b o:Nat},DY γ rs z b o->∀{i:Nat} {r:List Aa},rs[i]?=some r->r.length=z/\Cz γ r b (o+i*z)
 |[],z,b,o,h,i,r,hi=>by simp at hi
 |x::rs,z,b,o,h,i,r,hi=>by
  rw[DY] at h;cases i with
  |zero=>simp at hi;subst hi;simpa using⟨h.1,h.2.1⟩
  |succ i=>simp at hi;obtain⟨h1,h2⟩:=h.2.2.get hi;exact⟨h1,by rw[show o+(i+1)*z=o+z+i*z by rw[Bp,DZ];omega];exact h2⟩
def DY.FX{γ:Gh}:∀{rs:List (List Aa)} {z b o:Nat},(∀(i:Nat) (r:List Aa),rs[i]?=some r->r.length=z/\Cz γ r b (o+i*z))->DY γ rs z b o
 |[],z,b,o,h=>by rw[DY];trivial
 |x::rs,z,b,o,h=>by rw[DY];have h0:=h 0 x rfl;refine⟨h0.1,by simpa using h0.2,DY.FX λi r hi=>?_⟩;obtain⟨h1,h2⟩:=h (i+1) r (by simpa using hi);exact⟨h1,by rw[show o+z+i*z=o+(i+1)*z by rw[Bp,DZ];omega];exact h2⟩
def DY.length{γ:Gh}:∀{rs:List (List Aa)} {z b o:Nat},DY γ rs z b o->rs.flatten.length=rs.length*z
 |[],z,b,o,h=>Av
 |x::rs,z,b,o,h=>by rw[DY] at h;simp[h.1,h.2.2.length,Bp,KF]
def L8{ad:Addr}{n cap:Nat}(hs:ad.spot=none\/cap=0)(hc:n<=cap)(hn:0<n):ad=⟨ad.block,ad.off,none⟩:=by
 rcases hs with hs|hs
 .cases ad;simp_all
 .omega
def DY.values{γ:Gh}:∀{rs:List (List Aa)} {z b o:Nat},DY γ rs z b o->∃us:List Value,AQ γ rs.flatten us/\us.length=rs.length*z/\∀(j:Nat) (u:Value),us[j]?=some u->γ.GQ b (o+j)=some u
 |[],z,b,o,h=>⟨[],by simp[AQ],Av,Av⟩
 |x::rs,z,b,o,h=>by
  rw[DY] at h;obtain⟨us,h1,h2⟩:=h.2.1.values;obtain⟨vs,h3,d,c⟩:=h.2.2.values;have hl:us.length=z:=by rw[h1.length,h.1]
  refine⟨us++vs,by simpa using h1.append h3,by simp[hl,d,Bp,KF],λj u hj=>?_⟩;rw[ż] at hj;split at hj;.exact h2 j u hj
  .rename_i GR;rw[<-c _ _ hj];congr 1
   omega
def HB(γ:Gh)(B:Nat)(w:World)(s:Nat)(c:Option Nat)(v:Value)(a:Aa):Prop:=
 (a= .slnil\/∃z,a= .Fb z)\/∃g n cap us e z Af,a= .sl z Af/\v= .slice (some ⟨g,0,none⟩) n cap/\γ.BB g=some (.tail s c (n*z))/\B<=g/\
  w.heap[g]?=some (.cells us e (0,0))/\us.size=cap*z/\n<=cap/\cap<=maxLen/\0<z
def JP(γ:Gh)(β:Nat->Nat)(B:Nat)(w:World)(s:Nat):DN->Value->Prop
 | .undef,_=>True
 | .skip,v=>v=undef
 | .val a,v=>Bv γ a v
 | .MO b,v=>v= .bool b
 | .BB a,v=>Bv γ a v/\HB γ B w s none v a
 | .box _ cs ow,v=>v= .pointer (some ⟨β s,0,none⟩)/\γ.BB (β s)=some (.zf s)/\B<=β s/\
  ∃us e,w.heap[β s]?=some (.cells us e (0,0))/\AQ γ cs us.toList/\(∀u∈us.toList,u.oneCell'=true)/\
   ∀o∈ow,∃u a,us[o]?=some u/\cs[o]?=some a/\HB γ B w s (some o) u a
 | .Eo s' o,v=>v= .pointer (some ⟨β s',o,none⟩)
structure FR(γ:Gh)(β:Nat->Nat)(B:Nat)(U:Bu)(tmps:Array Value)(w:World):Prop where
 size:U.length=tmps.size
 GO:∀s,JP γ β B w s (U.at s) (tmps.getD s undef)
def Jv(γ:Gh):List (Aa×Aa)->List MapEntry->Prop
 |[],es=>es=[]
 |(k,v)::l,es=>∃e RT,es=e::RT/\Bv γ k e.key/\Bv γ v e.val/\Jv γ l RT
def q9(γ:Gh)(l:List (Aa×Aa))(es:Array MapEntry)(clock:Nat):Prop:=
 Jv γ l es.toList/\clock=es.size/\∀(i:Nat) (e:MapEntry),es[i]?=some e->e.born=i
def Qv(fr:Nat×Nat)(n:Nat):Prop:=fr=(0,0)\/n<=fr.1
structure Gm(γ:Gh)(h:Ah)(w:World):Prop where
 GQ:∀b o v,γ.GQ b o=some v->w.cell? ⟨b,o,none⟩=some v/\v.oneCell'=true/\(γ.BB b=none\/∃s c st,γ.BB b=some (.tail s c st)/\o<st)
 KJ:∀id x,h[id]?=some x->x≠ .DD->∃b,γ.mu id=some b/\γ.BB b=some (.KJ id)
 cells:∀id cs,h[id]?=some (.cells cs)->∀b,γ.mu id=some b->∃us e fr,w.heap[b]?=some (.cells us e fr)/\Qv fr us.size/\AQ γ cs (us.toList.take cs.length)/\∀u∈us.toList.take cs.length,u.oneCell'=true
 map:∀id es,h[id]?=some (.map es)->∀b,γ.mu id=some b->∃Dn clock,w.heap[b]?=some (.map Dn clock)/\q9 γ es Dn clock
 mu:∀id b,γ.mu id=some b->id<h.length
 BB:∀b x,γ.BB b=some x->b<w.heap.size
 sz:∀b n,γ.sz b=some n->(∃us e fr,w.heap[b]?=some (.cells us e fr)/\us.size=n)/\(γ.BB b=none\/∃id,γ.BB b=some (.KJ id))
structure Kf(γ0:Gh)(w0:World)(γ:Gh)(w:World):Prop where
 le:γ0.le γ
 size:w0.heap.size<=w.heap.size
 os:w.os=w0.os
 tape:w.tape=w0.tape
 output:w.output=w0.output
 Iy:∀b,b<w0.heap.size->(∀id,γ0.BB b≠some (.KJ id))->w.heap[b]?=w0.heap[b]?/\γ.BB b=γ0.BB b
def Kf.refl(γ:Gh)(w:World):Kf γ w γ w:=⟨.refl _,Ae _,rfl,rfl,rfl,λ_ _ _=>⟨rfl,rfl⟩⟩
def Kf.trans{γ0 d c:Gh}{w0 w1 e:World}(h:Kf γ0 w0 d w1)(k:Kf d w1 c e):Kf γ0 w0 c e:=by refine⟨h.le.trans k.le,Bj h.size k.size,k.os.trans h.os,k.tape.trans h.tape,k.output.trans h.output,λb hb hn=>?_⟩;.obtain⟨h1,h2⟩:=h.Iy b hb hn;obtain⟨g,f⟩:=k.Iy b (JW hb h.size) (λid=>by rw[h2];exact hn id);exact⟨g.trans h1,f.trans h2⟩
structure mH(γ:Gh)(w:World)(γ':Gh)(w':World):Prop where
 le:γ.le γ'
 Iy:∀b x,γ.BB b=some x->x.q8=false->γ'.BB b=some x/\w'.heap[b]?=w.heap[b]?
def mH.nh{γ γ':Gh}{h:Ah}{w w':World}(hi:Gm γ h w)(ha:Kf γ w γ' w'):mH γ w γ' w':=by refine⟨ha.le,λb x hb hx=>?_⟩;obtain⟨h1,h2⟩:=ha.Iy b (hi.BB b x hb) (λid Hn=>by rw[hb] at Hn;cases Hn;simp[IY.q8] at hx);exact⟨h2.trans hb,h1⟩
def HB.kept{γ γ':Gh}{B:Nat}{w w':World}{s:Nat}{c:Option Nat}{v:Value}{a:Aa}(h:HB γ B w s c v a)(k:mH γ w γ' w'):HB γ' B w' s c v a:=by
 rcases h with h|⟨g,n,cap,us,e,z,Af,h1,h2,h3,j,i,f⟩
 .exact .inl h
 .obtain⟨d,b⟩:=k.Iy g _ h3 rfl;exact .inr ⟨g,n,cap,us,e,z,Af,h1,h2,d,j,by rw[b];exact i,f⟩
def JP.kept{γ γ':Gh}{β:Nat->Nat}{B:Nat}{w w':World}{s:Nat}{x:DN}{v:Value}(h:JP γ β B w s x v)(k:mH γ w γ' w'):JP γ' β B w' s x v:=by
 cases x with
 |undef=>trivial
 |skip=>exact h
 |val a=>exact Bv.mono k.le a v h
 |MO b=>exact h
 |BB a=>exact⟨Bv.mono k.le a v h.1,h.2.kept k⟩
 |box ver cs ow=>obtain⟨h1,h2,h3,us,e,j,i,g,f⟩:=h;obtain⟨d,c⟩:=k.Iy _ _ h2 rfl;exact⟨h1,d,h3,us,e,by rw[c];exact j,AQ.mono k.le cs _ i,g,λo ho=>let⟨u,a,p,q,r⟩:=f o ho;⟨u,a,p,q,r.kept k⟩⟩
 |Eo s' o=>exact h
def FR.kept{γ γ':Gh}{β:Nat->Nat}{B:Nat}{U:Bu}{tmps:Array Value}{w w':World}(h:FR γ β B U tmps w)(k:mH γ w γ' w'):FR γ' β B U tmps w':=
 ⟨h.size,λs=>(h.GO s).kept k⟩
end Go.Am
end
section
namespace Go.Am
def B1{w w':World}{b o:Nat}(h:w'.heap[b]?=w.heap[b]?):w'.cell? ⟨b,o,none⟩=w.cell? ⟨b,o,none⟩:=by simp[World.cell?,h]
def CL{w:World}{b o:Nat}{v:Value}(h:w.cell? ⟨b,o,none⟩=some v):b<w.heap.size:=by
 rcases A8 b w.heap.size with h'|h'
 .exact h'
 .simp[World.cell?,Array.getElem?_eq_none h'] at h
def Gm.ni{γ:Gh}{h:Ah}{w:World}(hi:Gm γ h w){b o:Nat}{v:Value}(hb:γ.GQ b o=some v):b<w.heap.size:=CL (hi.GQ b o v hb).1
def Gm.same{γ:Gh}{h:Ah}{w w':World}(hi:Gm γ h w)(c:w'.heap=w.heap):Gm γ h w':=by
 refine⟨λb o v hb=>?_,hi.KJ,λid cs hc b hb=>?_,λid es hc b hb=>?_,hi.mu,λb x hx=>?_,λb n hb=>by rw[c];exact hi.sz b n hb⟩;.obtain⟨h1,h2,h3⟩:=hi.GQ b o v hb;have e:=B1 (w:=w) (w':=w') (b:=b) (o:=o) (by rw[c]);exact⟨e.trans h1,h2,h3⟩
 .rw[c];exact hi.cells id cs hc b hb
 .rw[c];exact hi.map id es hc b hb
 .rw[c];exact hi.BB b x hx
def Kf.same{γ:Gh}{w w':World}(b:w'.heap=w.heap)(h1:w'.os=w.os)(h2:w'.tape=w.tape)(h3:w'.output=w.output):Kf γ w γ w':=
 ⟨.refl _,by rw[b];exact Ae _,h1,h2,h3,λ_ _ _=>⟨by rw[b],rfl⟩⟩
def Kf.drew(γ:Gh)(w:World):Kf γ w γ w.drew:=Kf.same rfl rfl rfl rfl
def Gh.CT(γ:Gh)(b:Nat)(us:Array Value)(k:Nat)(x:Option IY):Gh:=
 {GQ:=λb' o=>if b'=b then(if o<k then us[o]? else none) else γ.GQ b' o,mu:=γ.mu,BB:=λb'=>if b'=b then x else γ.BB b',sz:=γ.sz}
def Gh.BP(γ:Gh)(b id:Nat)(n:Option Nat):Gh:=
 {GQ:=γ.GQ,mu:=λi=>if i=id then some b else γ.mu i,BB:=λb'=>if b'=b then some (.KJ id) else γ.BB b',sz:=λb'=>if b'=b then n else γ.sz b'}
section
variable{γ:Gh}{h:Ah}{w:World}
def Eu(w:World)(o:Obj){b:Nat}(hb:b<w.heap.size):(w.alloc o).heap[b]?=w.heap[b]?:=heap_alloc_old w o b hb
def M2(hi:Gm γ h w)(us:Array Value)(e:TypeId)(fr:Nat×Nat)(k:Nat)(x:Option IY)(h1:∀o u,o<k->us[o]?=some u->u.oneCell'=true)
  (hx:x=none\/(∃s c,x=some (.tail s c k))\/(k=0/\∀id,x≠some (.KJ id))):
  Gm (γ.CT w.heap.size us k x) h (w.alloc (.cells us e fr))/\Kf γ w (γ.CT w.heap.size us k x) (w.alloc (.cells us e fr)):=by
 have hown:γ.BB w.heap.size=none:=by
  cases hc:γ.BB w.heap.size with
  |none=>rfl
  |some y=>exact absurd (hi.BB _ y hc) (CX _)
 have rA:∀o,γ.GQ w.heap.size o=none:=λo=>by
  cases hc:γ.GQ w.heap.size o with
  |none=>rfl
  |some y=>exact absurd (hi.ni hc) (CX _)
 have D0:γ.le (γ.CT w.heap.size us k x):=⟨λb' o' v' HZ=>by
  have:b'≠w.heap.size:=λhe=>by rw[he,rA] at HZ;cases HZ
  simp only[Gh.CT,Ac this];exact HZ,λ_ _ hm=>hm,λ_ _ hm=>hm⟩
 constructor
 .refine⟨λb o v hb=>?_,λid y Hn hy=>?_,λid cs hc b hb=>?_,λid es hc b hb=>?_,hi.mu,λb y hy=>?_,λb n hb=>?_⟩;rotate_left 5;.obtain⟨⟨C4,d,mI,p,q⟩,r⟩:=hi.sz b n hb;have L9:b≠w.heap.size:=MU (by rw[Aq] at p;exact p.1);exact⟨⟨C4,d,mI,by rw[Eu _ _ (by rw[Aq] at p;exact p.1)];exact p,q⟩,by simp only[Gh.CT,Ac L9];exact r⟩
  .by_cases L9:b=w.heap.size
   .subst L9;simp only[Gh.CT,BE] at hb⊢;split at hb
    .rename_i hlt;refine⟨by rw[cell_of_row _ _ _ us e fr (heap_alloc_new w _)];exact hb,h1 o v hlt hb,?_⟩;rcases hx with hx|⟨s,c,hx⟩|⟨hx,_⟩
     .exact .inl hx
     .exact .inr ⟨s,c,k,hx,hlt⟩
     .omega
    .cases hb
   .simp only[Gh.CT,Ac L9] at hb⊢;obtain⟨p,q,r⟩:=hi.GQ b o v hb;exact⟨by rw[B1 (Eu w _ (CL p))];exact p,q,r⟩
  .obtain⟨b,p,q⟩:=hi.KJ id y Hn hy;refine⟨b,p,?_⟩;have:b≠w.heap.size:=λhe=>by rw[he,hown] at q;cases q
   simp only[Gh.CT,Ac this];exact q
  .obtain⟨C4,d,mI,p,pf,q,r⟩:=hi.cells id cs hc b hb;exact⟨C4,d,mI,by rw[Eu _ _ (by rw[Aq] at p;exact p.1)];exact p,pf,AQ.mono D0 cs _ q,r⟩
  .obtain⟨Dn,clock,p,q⟩:=hi.map id es hc b hb;refine⟨Dn,clock,by rw[Eu _ _ (by rw[Aq] at p;exact p.1)];exact p,?_,q.2⟩;replace q:=q.1;clear hc p;revert q;generalize Dn.toList=l;intro q;induction es generalizing l with
   |nil=>exact q
   |cons kv es ih=>obtain⟨kk,g⟩:=kv;obtain⟨f,RT,hl,a1,a2,a3⟩:=q;exact⟨f,RT,hl,Bv.mono D0 _ _ a1,Bv.mono D0 _ _ a2,ih RT a3⟩
  .by_cases L9:b=w.heap.size;.subst L9;simp
   .simp only[Gh.CT,Ac L9] at hy;have:=hi.BB b y hy;simp;omega
 .refine⟨D0,Av,rfl,rfl,rfl,λb hb _=>⟨Eu _ _ hb,?_⟩⟩;simp only[Gh.CT,Ac (MU hb)]
def Jv.mono{γ γ':Gh}(D0:γ.le γ'):∀{es:List (Aa×Aa)} {l:List MapEntry},Jv γ es l->Jv γ' es l
 |[],l,q=>q
 |(kk,c)::es,l,q=>by obtain⟨b,RT,hl,a1,a2,a3⟩:=q;exact⟨b,RT,hl,Bv.mono D0 _ _ a1,Bv.mono D0 _ _ a2,a3.mono D0⟩
def q9.mono{γ γ':Gh}(D0:γ.le γ'){es:List (Aa×Aa)}{l:Array MapEntry}{c:Nat}(h:q9 γ es l c):q9 γ' es l c:=⟨h.1.mono D0,h.2⟩
def Ma(hi:Gm γ h w)(o:Obj)(x:DH)(m:Option Nat)
  (hx:(∃cs us e fr,x= .cells cs/\o= .cells us e fr/\Qv fr us.size/\AQ γ cs (us.toList.take cs.length)/\(∀u∈us.toList.take cs.length,u.oneCell'=true)/\m=some us.size)\/(x= .map []/\o= .map #[] 0/\m=none)):
  Gm (γ.BP w.heap.size h.length m) (h++[x]) (w.alloc o)/\Kf γ w (γ.BP w.heap.size h.length m) (w.alloc o):=by
 have hown:γ.BB w.heap.size=none:=by
  cases hc:γ.BB w.heap.size with
  |none=>rfl
  |some y=>exact absurd (hi.BB _ y hc) (CX _)
 have Á:γ.mu h.length=none:=by
  cases hc:γ.mu h.length with
  |none=>rfl
  |some y=>exact absurd (hi.mu _ y hc) (CX _)
 have hsz:γ.sz w.heap.size=none:=by
  cases hc:γ.sz w.heap.size with
  |none=>rfl
  |some y=>obtain⟨⟨_,_,_,p,_⟩,_⟩:=hi.sz _ y hc;rw[Aq] at p;exact absurd p.1 (CX _)
 have D0:γ.le (γ.BP w.heap.size h.length m):=⟨λ_ _ _ hv=>hv,λid b hm=>by
  have:id≠h.length:=λhe=>by rw[he,Á] at hm;cases hm
  simp only[Gh.BP,Ac this];exact hm,λb n hm=>by
  have:b≠w.heap.size:=λhe=>by rw[he,hsz] at hm;cases hm
  simp only[Gh.BP,Ac this];exact hm⟩
 constructor
 .refine⟨λb o' v hb=>?_,λid y Hn hy=>?_,λid cs hc b hb=>?_,λid es hc b hb=>?_,λid b hb=>?_,λb y hy=>?_,λb n hb=>?_⟩;rotate_left 6
  .by_cases L9:b=w.heap.size
   .subst L9;simp only[Gh.BP,BE] at hb;rcases hx with⟨FU,us,e,fr,rfl,rfl,pf,p,q,rfl⟩|⟨rfl,rfl,rfl⟩
    .cases hb;exact⟨⟨us,e,fr,heap_alloc_new w _,rfl⟩,.inr ⟨h.length,by simp[Gh.BP]⟩⟩
    .cases hb
   .simp only[Gh.BP,Ac L9] at hb⊢;obtain⟨⟨C4,c,mI,p,q⟩,r⟩:=hi.sz b n hb;exact⟨⟨C4,c,mI,by rw[Eu _ _ (by rw[Aq] at p;exact p.1)];exact p,q⟩,r⟩
  .obtain⟨p,q,r⟩:=hi.GQ b o' v hb;have L9:b≠w.heap.size:=MU (CL p);exact⟨by rw[World.cell?_alloc_old _ _ _ L9];exact p,q,by simp only[Gh.BP,Ac L9];exact r⟩
  .by_cases he:id=h.length;.exact⟨w.heap.size,by simp[Gh.BP,he],by simp[Gh.BP,he]⟩
   .have SU:id<h.length:=by rw[Ai] at Hn;obtain⟨hl,_⟩:=Hn;simp at hl;omega
    rw[Al SU] at Hn;obtain⟨b,p,q⟩:=hi.KJ id y Hn hy;have L9:b≠w.heap.size:=λhe=>by rw[he,hown] at q;cases q
    exact⟨b,by simp only[Gh.BP,Ac he];exact p,by simp only[Gh.BP,Ac L9];exact q⟩
  .by_cases he:id=h.length
   .subst he;simp[Gh.BP] at hb;subst hb;simp at hc;rcases hx with⟨FU,us,e,fr,rfl,rfl,pf,p,q,rfl⟩|⟨rfl,rfl,rfl⟩
    .cases hc;exact⟨us,e,fr,heap_alloc_new w _,pf,AQ.mono D0 _ _ p,q⟩
    .cases hc
   .simp only[Gh.BP,Ac he] at hb;have SU:=hi.mu id b hb;rw[Al SU] at hc;obtain⟨C4,c,mI,p,pf,q,r⟩:=hi.cells id cs hc b hb;exact⟨C4,c,mI,by rw[Eu _ _ (by rw[Aq] at p;exact p.1)];exact p,pf,AQ.mono D0 _ _ q,r⟩
  .by_cases he:id=h.length
   .subst he;simp[Gh.BP] at hb;subst hb;simp at hc;rcases hx with⟨FU,us,e,fr,rfl,rfl,pf,p,q,rfl⟩|⟨rfl,rfl,rfl⟩
    .cases hc
    .cases hc;exact⟨#[],0,heap_alloc_new w _,rfl,rfl,Av⟩
   .simp only[Gh.BP,Ac he] at hb;have SU:=hi.mu id b hb;rw[Al SU] at hc;obtain⟨Dn,clock,p,q⟩:=hi.map id es hc b hb;exact⟨Dn,clock,by rw[Eu _ _ (by rw[Aq] at p;exact p.1)];exact p,q.mono D0⟩
  .by_cases he:id=h.length;.simp[he]
   .simp only[Gh.BP,Ac he] at hb;have:=hi.mu id b hb;simp;omega
  .by_cases L9:b=w.heap.size;.subst L9;simp
   .simp only[Gh.BP,Ac L9] at hy;have:=hi.BB b y hy;simp;omega
 .refine⟨D0,Av,rfl,rfl,rfl,λb hb _=>⟨Eu _ _ hb,?_⟩⟩;simp only[Gh.BP,Ac (MU hb)]
def mJ(hi:Gm γ h w){g s:Nat}(hg:γ.BB g=some (.zf s))(us:Array Value):Gm γ h (w.setRow g us):=by
 refine⟨λb o v hb=>?_,hi.KJ,λid cs hc b hb=>?_,λid es hc b hb=>?_,hi.mu,λb x hx=>?_,λb n hb=>?_⟩;rotate_left 4
 .obtain⟨p,r⟩:=hi.sz b n hb;have:b≠g:=λhe=>by subst he;rw[hg] at r;rcases r with r|⟨_,r⟩<;>cases r
  exact⟨by rw[setRow_other w g b us this];exact p,r⟩
 .obtain⟨p,q,r⟩:=hi.GQ b o v hb;have:b≠g:=λhe=>by subst he;rw[hg] at r;rcases r with r|⟨_,_,_,r,_⟩<;>cases r
  exact⟨by rw[B1 (setRow_other w g b us this)];exact p,q,r⟩
 .have MV:b≠g:=λhe=>by subst he;obtain⟨b',p,q⟩:=hi.KJ id _ hc Av;rw[hb] at p;cases p;rw[hg] at q;cases q
  rw[setRow_other w g b us MV];exact hi.cells id cs hc b hb
 .have MV:b≠g:=λhe=>by subst he;obtain⟨b',p,q⟩:=hi.KJ id _ hc Av;rw[hb] at p;cases p;rw[hg] at q;cases q
  rw[setRow_other w g b us MV];exact hi.map id es hc b hb
 .have:=hi.BB b x hx;simpa[World.setRow] using this
def LB(hi:Gm γ h w){g id:Nat}{cs:List Aa}(hcs:h[id]?=some (.cells cs))(hg:γ.mu id=some g){us:Array Value}{e:TypeId}{fr:Nat×Nat}(hw:w.heap[g]?=some (.cells us e fr))(C4:Array Value)(FU:List Aa)(Vq:C4.size=us.size)(gP:Qv fr C4.size)
  (hr:AQ γ FU (C4.toList.take FU.length)) (h1:∀u∈C4.toList.take FU.length,u.oneCell'=true):
  Gm γ (h.set id (.cells FU)) (w.setRow g C4)/\Kf γ w γ (w.setRow g C4):=by
 obtain⟨d,p,Of⟩:=hi.KJ id _ hcs Av;rw[hg] at p;cases p;have uniq:∀EZ x,h[EZ]?=some x->x≠ .DD->γ.mu EZ=some g->EZ=id:=λEZ x hx nj hm=>by obtain⟨b',p,q⟩:=hi.KJ EZ x hx nj;rw[hm] at p;cases p;rw[Of] at q;cases q;rfl
 constructor
 .refine⟨λb o v hb=>?_,λEZ y Hn hy=>?_,λEZ cs hc b hb=>?_,λEZ es hc b hb=>?_,λEZ b hb=>by simpa using hi.mu EZ b hb,λb x hx=>?_,λb n hb=>?_⟩;rotate_left 5
  .obtain⟨⟨bF,c,rB,p,q⟩,r⟩:=hi.sz b n hb;by_cases he:b=g;.subst he;rw[hw] at p;cases p;exact⟨⟨C4,e,fr,setRow_heap w b us C4 e fr hw,by rw[Vq];exact q⟩,r⟩
   .exact⟨⟨bF,c,rB,by rw[setRow_other w g b C4 he];exact p,q⟩,r⟩
  .obtain⟨p,q,r⟩:=hi.GQ b o v hb;have:b≠g:=λhe=>by subst he;rw[Of] at r;rcases r with r|⟨_,_,_,r,_⟩<;>cases r
   exact⟨by rw[B1 (setRow_other w g b C4 this)];exact p,q,r⟩
  .by_cases he:EZ=id;.subst he;exact⟨g,hg,Of⟩
   .rw[Ao (λx=>he x.symm)] at Hn;exact hi.KJ EZ y Hn hy
  .by_cases he:EZ=id;.subst he;rw[hg] at hb;cases hb;rw[AJ (hi.mu _ _ hg)] at hc;cases hc;exact⟨C4,e,fr,setRow_heap w g us C4 e fr hw,gP,hr,h1⟩
   .rw[Ao (λx=>he x.symm)] at hc;have MV:b≠g:=λhx=>by subst hx;exact he (uniq EZ _ hc Av hb)
    rw[setRow_other w g b C4 MV];exact hi.cells EZ cs hc b hb
  .by_cases he:EZ=id;.subst he;rw[AJ (hi.mu _ _ hg)] at hc;cases hc
   .rw[Ao (λx=>he x.symm)] at hc;have MV:b≠g:=λhx=>by subst hx;exact he (uniq EZ _ hc Av hb)
    rw[setRow_other w g b C4 MV];exact hi.map EZ es hc b hb
  .have:=hi.BB b x hx;simpa[World.setRow] using this
 .refine⟨.refl _,by simp[World.setRow],rfl,rfl,rfl,λb hb hn=>⟨?_,rfl⟩⟩;exact setRow_other w g b C4 (λhe=>by subst he;exact hn id Of)
def bG(hi:Gm γ h w){g s st:Nat}{c:Option Nat}(hg:γ.BB g=some (.tail s c st)){us:Array Value}{e:TypeId}(hw:w.heap[g]?=some (.cells us e (0,0)))(C4:Array Value)(k:Nat)(s':Nat)(c':Option Nat)
  (LC:∀o,o<st->C4[o]?=us[o]?) (hk:st<=k) (h1:∀o u,o<k->C4[o]?=some u->u.oneCell'=true) (Qw:∀o v,γ.GQ g o=some v->us[o]?=some v):
  Gm (γ.CT g C4 k (some (.tail s' c' k))) h (w.setRow g C4)/\γ.le (γ.CT g C4 k (some (.tail s' c' k))):=by
 have hlt:∀o v,γ.GQ g o=some v->o<st:=λo v ho=>by
  obtain⟨_,_,r⟩:=hi.GQ g o v ho;rw[hg] at r;rcases r with r|⟨_,_,_,r,hl⟩
  .cases r
  .cases r;exact hl
 have D0:γ.le (γ.CT g C4 k (some (.tail s' c' k))):=⟨λb o v hb=>by
  by_cases he:b=g;.subst he;have:=hlt o v hb;simp only[Gh.CT,BE,Ad (JW this hk)];rw[LC o this];exact Qw o v hb
  .simp only[Gh.CT,Ac he];exact hb,λ_ _ hm=>hm,λ_ _ hm=>hm⟩
 refine⟨⟨λb o v hb=>?_,λid y Hn hy=>?_,λid cs hc b hb=>?_,λid es hc b hb=>?_,hi.mu,λb x hx=>?_,λb n hb=>?_⟩,D0⟩;rotate_left 5
 .obtain⟨p,r⟩:=hi.sz b n hb;have:b≠g:=λhe=>by subst he;rw[hg] at r;rcases r with r|⟨_,r⟩<;>cases r
  exact⟨by rw[setRow_other w g b C4 this];exact p,by simp only[Gh.CT,Ac this];exact r⟩
 .by_cases he:b=g
  .subst he;simp only[Gh.CT,BE] at hb⊢;split at hb
   .rename_i hl;exact⟨by rw[cell_of_row _ _ _ C4 e (0,0) (setRow_heap w b us C4 e (0,0) hw)];exact hb,
     h1 o v hl hb,.inr ⟨s',c',k,rfl,hl⟩⟩
   .cases hb
  .simp only[Gh.CT,Ac he] at hb⊢;obtain⟨p,q,r⟩:=hi.GQ b o v hb;exact⟨by rw[B1 (setRow_other w g b C4 he)];exact p,q,r⟩
 .obtain⟨b,p,q⟩:=hi.KJ id y Hn hy;have:b≠g:=λhe=>by subst he;rw[hg] at q;cases q
  exact⟨b,p,by simp only[Gh.CT,Ac this];exact q⟩
 .replace hb:γ.mu id=some b:=hb;obtain⟨b',p,q⟩:=hi.KJ id _ hc Av;rw[hb] at p;cases p;have:b≠g:=λhe=>by subst he;rw[hg] at q;cases q
  rw[setRow_other w g b C4 this];obtain⟨bF,j,rB,i,f,d,r2⟩:=hi.cells id cs hc b hb;exact⟨bF,j,rB,i,f,AQ.mono D0 _ _ d,r2⟩
 .replace hb:γ.mu id=some b:=hb;obtain⟨b',p,q⟩:=hi.KJ id _ hc Av;rw[hb] at p;cases p;have:b≠g:=λhe=>by subst he;rw[hg] at q;cases q
  rw[setRow_other w g b C4 this];obtain⟨Dn,clock,i,d⟩:=hi.map id es hc b hb;exact⟨Dn,clock,i,d.mono D0⟩
 .by_cases he:b=g;.subst he;have:=hi.BB b _ hg;simpa[World.setRow] using this
  .simp only[Gh.CT,Ac he] at hx;have:=hi.BB b x hx;simpa[World.setRow] using this
def Kf.write{γ0 c:Gh}{w0:World}(ha:Kf γ0 w0 γ w){w1:World}{g:Nat}(hg:w0.heap.size<=g)(D0:γ.le c)(hs:w1.heap.size=w.heap.size)(h1:w1.os=w.os)(h2:w1.tape=w.tape)(h3:w1.output=w.output)
  (hk:∀b,b≠g->w1.heap[b]?=w.heap[b]?/\c.BB b=γ.BB b):Kf γ0 w0 c w1:=by
 refine⟨ha.le.trans D0,by rw[hs];exact ha.size,h1.trans ha.os,h2.trans ha.tape,h3.trans ha.output,λb hb hn=>?_⟩;.obtain⟨p,q⟩:=ha.Iy b hb hn;obtain⟨p',d⟩:=hk b Ab;exact⟨p'.trans p,d.trans q⟩
def rC(hi:Gm γ h w){g id:Nat}{cs:List Aa}(hcs:h[id]?=some (.cells cs))(hg:γ.mu id=some g){us:Array Value}{e:TypeId}{fr:Nat×Nat}(hw:w.heap[g]?=some (.cells us e fr))(h1:∀u∈us.toList.take cs.length,u.oneCell'=true):
  Gm (γ.CT g us cs.length none) (h.set id .DD) w/\Kf γ w (γ.CT g us cs.length none) w:=by
 obtain⟨d,p,Of⟩:=hi.KJ id _ hcs Av;rw[hg] at p;cases p;have uniq:∀EZ x,h[EZ]?=some x->x≠ .DD->γ.mu EZ=some g->EZ=id:=λEZ x hx nj hm=>by obtain⟨b',p,q⟩:=hi.KJ EZ x hx nj;rw[hm] at p;cases p;rw[Of] at q;cases q;rfl
 have hne:∀o v,γ.GQ g o=some v->False:=λo v hv=>by obtain⟨_,_,r⟩:=hi.GQ g o v hv;rw[Of] at r;rcases r with r|⟨_,_,_,r,_⟩<;>cases r
 have D0:γ.le (γ.CT g us cs.length none):=⟨λb o v hb=>by
  have:b≠g:=λhe=>by subst he;exact hne o v hb
  simp only[Gh.CT,Ac this];exact hb,λ_ _ hm=>hm,λ_ _ hm=>hm⟩
 constructor
 .refine⟨λb o v hb=>?_,λEZ y Hn hy=>?_,λEZ FU hc b hb=>?_,λEZ es hc b hb=>?_,λEZ b hb=>by simpa using hi.mu EZ b hb,λb x hx=>?_,λb n hb=>?_⟩;rotate_left 5
  .obtain⟨p,r⟩:=hi.sz b n hb;by_cases he:b=g;.subst he;exact⟨p,.inl (by simp[Gh.CT])⟩
   .exact⟨p,by simp only[Gh.CT,Ac he];exact r⟩
  .by_cases he:b=g
   .subst he;simp only[Gh.CT,BE] at hb⊢;split at hb;.rename_i hlt;exact⟨by rw[cell_of_row _ _ _ us e fr hw];exact hb,h1 v (Ca (i:=o) (by rw[Ch hlt];simpa using hb)),.inl Av⟩
    .cases hb
   .simp only[Gh.CT,Ac he] at hb⊢;exact hi.GQ b o v hb
  .by_cases he:EZ=id;.subst he;rw[AJ (hi.mu _ _ hg)] at Hn;cases Hn;exact absurd rfl hy
   .rw[Ao (λx=>he x.symm)] at Hn;obtain⟨b,p,q⟩:=hi.KJ EZ y Hn hy;have:b≠g:=λhx=>by subst hx;exact he (uniq EZ y Hn hy p)
    exact⟨b,p,by simp only[Gh.CT,Ac this];exact q⟩
  .by_cases he:EZ=id;.subst he;rw[AJ (hi.mu _ _ hg)] at hc;cases hc
   .rw[Ao (λx=>he x.symm)] at hc;obtain⟨C4,c,mI,p,pf,q,r⟩:=hi.cells EZ FU hc b hb;exact⟨C4,c,mI,p,pf,AQ.mono D0 _ _ q,r⟩
  .by_cases he:EZ=id;.subst he;rw[AJ (hi.mu _ _ hg)] at hc;cases hc
   .rw[Ao (λx=>he x.symm)] at hc;obtain⟨C4,c,p,q⟩:=hi.map EZ es hc b hb;exact⟨C4,c,p,q.mono D0⟩
  .by_cases he:b=g;.subst he;exact hi.BB b _ Of
   .simp only[Gh.CT,Ac he] at hx;exact hi.BB b x hx
 .refine⟨D0,Ae _,rfl,rfl,rfl,λb hb hn=>⟨rfl,?_⟩⟩;have:b≠g:=λhe=>by subst he;exact hn id Of
  simp only[Gh.CT,Ac this]
end
end Go.Am
end
section
namespace Go.Am
def D3.LD(C:Fo)(run:IT->Ah->Option IW)(U:Bu)(h:Ah)(e:Bu)(h':Ah):D3->Prop
 | .pure ws=>e=U.DE ws/\h'=h
 | .op p args dst BB i=>∃v,Ax p args=some v/\e=(U.C7 i).put dst (if BB then .BB v else .val v)/\h'=h
 | .box n v d=>v.cells.length=n/\e=U.set d (.box 0 v.cells [])/\h'=h
 | .J4 fn a b fz d=>e=(U.DE (fz.map λ(s,cs)=>(s,.val (.B3 cs)))).set d (.val (.func fn a b))/\h'=h
 | .Lg s off n v BB i ver cells owned=>v.cells.length=n/\e=(U.C7 i).set s (.box (ver+1) (SM cells off n v.cells) (Pd owned off n BB))/\h'=h
 | .load n p dst=>∃v,Bk h n p=some v/\e=U.put dst (.val v)/\h'=h
 | .store n p v=>CK h n p v=some h'/\e=U
 | .alloc n v dst=>v.cells.length=n/\h'=h++[.cells v.cells]/\e=U.put dst (.val (.ptr (some (h.length,0))))
 | .call f args dst=>∃r,run (BY C f args) h=some (.ret,[r],h')/\e=U.put dst (if C.HX f then .BB r else .val r)
 | .Es g args dst=>∃f args' r,CA g args=some (f,args')/\run (BY C f args') h=some (.ret,[r],h')/\e=U.put dst (.val r)
 | .Cx f args dst=>args.all Aa.KK=true/\∃r h1,run (BY C f args) []=some (.ret,[r],h1)/\r.KK=true/\e=U.put dst (.val r)/\h'=h
 | .N4 dst=>h'=h++[.map []]/\e=U.put dst (.val (.map (some h.length)))
 | .Js m k v=>Re h m k v=some h'/\e=U
 | .make z b zero l c dst=>∃v,Od h z b zero l c=some (h',v)/\e=U.put dst (.val v)
 | .IV z b s x dst i=>∃v,Ld h z b s x=some (h',v)/\e=(U.C7 i).put dst (.val v)
 | .FC z b s x dst=>∃v,ET h z b s x=some (h',v)/\e=U.put dst (.val v)
 | .FD z b s x dst i=>∃v,Oe h z b s x=some v/\e=(U.C7 i).put dst (.BB v)/\h'=h
 | .ES s dst=>∃v,Ie h s=some (h',v)/\e=U.put dst (.val v)
 | .UF s dst=>∃v u,Lf h s=some (h',v)/\Ax .UF [v]=some u/\e=U.put dst (.val u)
 | .mem o args dst=>∃v,D2 o h args=some (h',v)/\e=U.put dst (if o.T_ then .undef else .val v)
 | .Ly z ok m k dst=>∃v,Rf h z ok m k=some v/\e=U.put dst (.val v)/\h'=h
def Qx{n:Nat}{cs:List Aa}(h:cs.length=n):SL n cs=cs:=by
 subst h;apply Oy;intro i;simp only[SL,Cj,List.getD];by_cases hi:i<cs.length;.simp[aAW hi,Ak hi]
 .simp[hi]
def Vr{C:Fo}{run:IT->Ah->Option IW}{U:Bu}{K:Bu->IT}{h:Ah}{R:IW}{r:D3}
  (hr:IT.step (BY C) run (r.Li C U K) h=some R):∃i h',r.LD C run U h i h'/\IT.step (BY C) run (K i) h'=some R:=by
 cases r with
 |pure ws=>exact⟨_,_,⟨rfl,rfl⟩,hr⟩
 |op p args dst BB e=>
  simp only[D3.Li,IT.step] at hr;split at hr;.rename_i v hv;exact⟨_,_,⟨v,hv,rfl,rfl⟩,hr⟩
  .cases hr
 |box n v d=>
  simp only[D3.Li,IT.step] at hr;split at hr;.rename_i hn;rw[Qx hn] at hr;exact⟨_,_,⟨hn,rfl,rfl⟩,hr⟩
  .cases hr
 |J4 fn a b fz d=>exact⟨_,_,⟨rfl,rfl⟩,hr⟩
 |Lg s off n v BB e ver cells owned=>
  simp only[D3.Li,IT.step] at hr;split at hr;.rename_i hn;rw[Qx hn] at hr;exact⟨_,_,⟨hn,rfl,rfl⟩,hr⟩
  .cases hr
 |load n p dst=>
  simp only[D3.Li,IT.step] at hr;split at hr;.rename_i v hv;exact⟨_,_,⟨v,hv,rfl,rfl⟩,hr⟩
  .cases hr
 |store n p v=>
  simp only[D3.Li,IT.step] at hr;split at hr;.rename_i h1 hv;exact⟨_,_,⟨hv,rfl⟩,hr⟩
  .cases hr
 |alloc n v dst=>
  simp only[D3.Li,IT.step,Wu] at hr;by_cases hn:v.cells.length=n;.rw[Ad hn] at hr;exact⟨_,_,⟨hn,rfl,rfl⟩,hr⟩
  .rw[Ac hn] at hr;cases hr
 |call f args dst=>
  simp only[D3.Li,IT.step] at hr;split at hr;.rename_i r h1 hv;exact⟨_,_,⟨r,hv,rfl⟩,hr⟩
  .cases hr
 |Es g args dst=>
  simp only[D3.Li,IT.step] at hr;split at hr
  .rename_i f a' ht;split at hr;.rename_i r h1 hv;exact⟨_,_,⟨f,a',r,ht,hv,rfl⟩,hr⟩
   .cases hr
  .cases hr
 |Cx f args dst=>
  simp only[D3.Li,IT.step] at hr;split at hr
  .rename_i HI;split at hr
   .rename_i r h1 hv;split at hr;.rename_i gu;exact⟨_,_,⟨HI,r,h1,hv,gu,rfl,rfl⟩,hr⟩
    .cases hr
   .cases hr
  .cases hr
 |N4 dst=>exact⟨_,_,⟨rfl,rfl⟩,hr⟩
 |Js m k v=>
  simp only[D3.Li,IT.step] at hr;split at hr;.rename_i h1 hv;exact⟨_,_,⟨hv,rfl⟩,hr⟩
  .cases hr
 |Ly z ok m k dst=>
  simp only[D3.Li,IT.step] at hr;split at hr;.rename_i v hv;exact⟨_,_,⟨v,hv,rfl,rfl⟩,hr⟩
  .cases hr
 |make z b zero l c dst=>
  simp only[D3.Li,IT.step] at hr;split at hr;.rename_i h1 v hv;exact⟨_,_,⟨v,hv,rfl⟩,hr⟩
  .cases hr
 |IV z b s x dst e=>
  simp only[D3.Li,IT.step] at hr;split at hr;.rename_i h1 v hv;exact⟨_,_,⟨v,hv,rfl⟩,hr⟩
  .cases hr
 |FC z b s x dst=>
  simp only[D3.Li,IT.step] at hr;split at hr;.rename_i h1 v hv;exact⟨_,_,⟨v,hv,rfl⟩,hr⟩
  .cases hr
 |FD z b s x dst e=>
  simp only[D3.Li,IT.step] at hr;split at hr;.rename_i v hv;exact⟨_,_,⟨v,hv,rfl,rfl⟩,hr⟩
  .cases hr
 |ES s dst=>
  simp only[D3.Li,IT.step] at hr;split at hr;.rename_i h1 v hv;exact⟨_,_,⟨v,hv,rfl⟩,hr⟩
  .cases hr
 |UF s dst=>
  simp only[D3.Li,IT.step] at hr;split at hr
  .rename_i h1 v hv;split at hr;.rename_i u hu;exact⟨_,_,⟨v,u,hv,hu,rfl⟩,hr⟩
   .cases hr
  .cases hr
 |mem o args dst=>
  simp only[D3.Li,IT.step] at hr;split at hr;.rename_i h1 v hv;exact⟨_,_,⟨v,hv,rfl⟩,hr⟩
  .cases hr
structure CF(C:Fo)(γ0:Gh)(w0:World)(γ:Gh)(β:Nat->Nat)(U:Bu)(h:Ah)(a:Act)(w:World):Prop where
 Dr:Gm γ h w
 fr:FR γ β w0.heap.size U a.tmps w
 Dh:Kf γ0 w0 γ w
 defers:a.defers=[]
 FV:∀g cs,C.FV g=some cs->Cz γ cs g 0
def Pj{γ:Gh}{v:Value}{a:Aa}(h:MW v=some a):Bv γ a v/\v.oneCell'=true:=by
 unfold MW at h;split at h;case h_7=>
  rename_i fn f c;split at h;.rename_i hs;cases h;have d:f=#[]:=Hj hs.1;have b:c=#[]:=Hj hs.2;subst d;subst b;exact⟨⟨#[],#[],rfl,rfl,rfl⟩,rfl⟩
  .cases h
 all_goals first
  |(cases h;exact⟨rfl,rfl⟩)
  |cases h
def Lj{γ:Gh}:∀{vs:List Value} {as:List Aa},Ke vs=some as->AQ γ as vs/\∀v∈vs,v.oneCell'=true
 |[],as,h=>by cases h;exact⟨rfl,Av⟩
 |v::vs,as,h=>by
  unfold Ke at h;split at h;.rename_i a c h1 h2;cases h;obtain⟨p,q⟩:=Pj (γ:=γ) h1;obtain⟨p',b⟩:=Lj (γ:=γ) h2;exact⟨⟨v,vs,rfl,p,p'⟩,λx hx=>(Az.1 hx).elim (λe=>by rw[e];exact q) (b x)⟩
  .cases h
def EA{γ:Gh}{v:Value}{a:Aa}(h:Jl v=some a):Bv γ a v:=by
 unfold Jl at h;split at h
 .rename_i cs;cases hs:Ke cs.toList with
  |none=>rw[hs] at h;cases h
  |some as=>rw[hs] at h;cases h;obtain⟨p,q⟩:=Lj (γ:=γ) hs;exact⟨cs,rfl,p,q⟩
 .exact(Pj h).1
section
variable{C:Fo}{γ0 γ:Gh}{w0 w:World}{β:Nat->Nat}{U:Bu}{h:Ah}{a:Act}
def OD(hr:CF C γ0 w0 γ β U h a w){x:Operand}{sl:DN}(hx:Dv C U x=some sl)(hn:∀s,x≠ .tmp s):∃s,JP γ β w0.heap.size w s sl (a.eval x):=by
 unfold Dv at hx;split at hx;.exact absurd rfl (hn _)
 .cases hx;exact⟨0,rfl⟩
 .cases hx;exact⟨0,rfl,.inl (.inl rfl)⟩
 .rename_i v _ _;cases hc:Jl v with
  |none=>rw[hc] at hx;cases hx
  |some u=>rw[hc] at hx;cases hx;exact⟨0,EA hc⟩
 .rename_i g;cases hc:C.FV g with
  |none=>rw[hc] at hx;cases hx
  |some cs=>rw[hc] at hx;cases hx;exact⟨0,g,0,rfl,hr.FV g cs hc⟩
 .cases hx;exact⟨0,#[],#[],rfl,rfl,rfl⟩
def Pk(hr:CF C γ0 w0 γ β U h a w)(s:Nat):JP γ β w0.heap.size w s (U.at s) (a.eval (.tmp s)):=hr.fr.GO s
def Fj(hr:CF C γ0 w0 γ β U h a w){x:Operand}{sl:DN}(hx:Dv C U x=some sl):∃s,JP γ β w0.heap.size w s sl (a.eval x)/\∀t,x= .tmp t->s=t:=by
 cases x with
 |tmp t=>cases hx;exact⟨t,Pk hr t,λ_ h=>by cases h;rfl⟩
 |const v=>obtain⟨s,h1⟩:=OD hr hx (by intro s h;cases h);exact⟨s,h1,λ_ h=>by cases h⟩
 |global g=>obtain⟨s,h1⟩:=OD hr hx (by intro s h;cases h);exact⟨s,h1,λ_ h=>by cases h⟩
 |func f=>obtain⟨s,h1⟩:=OD hr hx (by intro s h;cases h);exact⟨s,h1,λ_ h=>by cases h⟩
def LF{B s:Nat}{sl:DN}{v:Value}{u:Aa}(hs:JP γ β B w s sl v)(hv:sl.Ga=some u):Bv γ u v:=by
 cases sl<;>simp[DN.Ga] at hv;.subst hv;exact hs
 .subst hv;exact hs
 .subst hv;exact hs.1
def Fy(hr:CF C γ0 w0 γ β U h a w){x:Operand}{u:Aa}(hx:Ed C U x=some u):Bv γ u (a.eval x):=by
 unfold Ed at hx;cases hs:Dv C U x with
 |none=>rw[hs] at hx;cases hx
 |some sl=>rw[hs] at hx;obtain⟨s,h1,_⟩:=Fj hr hs;exact LF h1 hx
def Di(hr:CF C γ0 w0 γ β U h a w):∀{xs:List Operand} {us:List Aa},A9 C U xs=some us->AQ γ us (xs.map a.eval)
 |[],us,hx=>by cases hx;rfl
 |x::xs,us,hx=>by
  unfold A9 at hx;split at hx;.rename_i u C4 h1 h2;cases hx;exact⟨_,_,rfl,Fy hr h1,Di hr h2⟩
  .cases hx
def FR.put{B:Nat}{tmps:Array Value}(hf:FR γ β B U tmps w){d:Nat}{x:DN}{v:Value}(hx:JP γ β B w d x v):FR γ β B (U.set d x) (tmps.setIfInBounds d v) w:=by
 refine⟨by simp[hf.size],λs=>?_⟩;have hs:=hf.GO s;by_cases he:s=d
 .subst he;by_cases hl:s<U.length
  .have zg:s<tmps.size:=by rw[<-hf.size];exact hl
   simpa[Bu.at,List.getD,hl,zg,Array.getD] using hx
  .have zg:¬s<tmps.size:=by rw[<-hf.size];exact hl
   simpa[Bu.at,List.getD,hl,zg,Array.getD] using hs
 .have h1:Bu.at (U.set d x) s=U.at s:=by simp[Bu.at,List.getD,Ao (λe=>he e.symm)]
  have h2:(tmps.setIfInBounds d v).getD s undef=tmps.getD s undef:=by simp[F3,aW (λe=>he e.symm)]
  rw[h1,h2];exact hs
def FR.Yt{B:Nat}{tmps:Array Value}(hf:FR γ β B U tmps w){d:Nat}{x:DN}(hx:JP γ β B w d x (tmps.getD d undef)):FR γ β B (U.set d x) tmps w:=by
 refine⟨by simp[hf.size],λs=>?_⟩;have hs:=hf.GO s;by_cases he:s=d
 .subst he;by_cases hl:s<U.length;.simpa[Bu.at,List.getD,hl] using hx
  .simpa[Bu.at,List.getD,hl] using hs
 .have h1:Bu.at (U.set d x) s=U.at s:=by simp[Bu.at,List.getD,Ao (λe=>he e.symm)]
  rw[h1];exact hs
def CF.put(hr:CF C γ0 w0 γ β U h a w){d:Option Nat}{x:DN}{v:Value}(hx:∀s,d=some s->JP γ β w0.heap.size w s x v):CF C γ0 w0 γ β (U.put d x) h (a.put d v) w:=by
 cases d with
 |none=>exact hr
 |some d=>exact⟨hr.Dr,hr.fr.put (hx d rfl),hr.Dh,hr.defers,hr.FV⟩
def CF.Yt(hr:CF C γ0 w0 γ β U h a w){d:Nat}{x:DN}(hx:JP γ β w0.heap.size w d x (a.tmps.getD d undef)):CF C γ0 w0 γ β (U.set d x) h a w:=
 ⟨hr.Dr,hr.fr.Yt hx,hr.Dh,hr.defers,hr.FV⟩
def CF.drop(hr:CF C γ0 w0 γ β U h a w)(ds:List Nat):CF C γ0 w0 γ β (U.drop ds) h a w:=by
 cases ds with
 |nil=>exact hr
 |cons d ds=>
  refine⟨hr.Dr,⟨by simp[Bu.drop,hr.fr.size],λs=>?_⟩,hr.Dh,hr.defers,hr.FV⟩;have hs:=hr.fr.GO s;have e:(Bu.drop U (d::ds)).at s=match U.at s with| .Eo t o=>if(d::ds).contains t then .undef else .Eo t o|x=>x:=by
   simp only[Bu.drop,Bu.at,List.getD,Cj];cases hg:U[s]? with
   |none=>rfl
   |some x=>cases x<;>rfl
  rw[e];cases hx:U.at s with
  |Eo t o=>
   rw[hx] at hs;simp only
   split;.trivial
   .exact hs
  |_=>rw[hx] at hs;exact hs
def CF.world(hr:CF C γ0 w0 γ β U h a w){γ':Gh}{h':Ah}{w':World}(hi:Gm γ' h' w')(ha:Kf γ w γ' w'):CF C γ0 w0 γ' β U h' a w':=
 ⟨hi,hr.fr.kept (mH.nh hr.Dr ha),hr.Dh.trans ha,hr.defers,λg cs hg=>Cz.mono ha.le _ _ _ (hr.FV g cs hg)⟩
def HK{P:Program}{o:Oper}{v:Value}{w':World}{next:Act->World->Prop}{Q:Exit->Act->World->Prop}(he:(execOp a.eval o).run P w= .ok (.value v) w')(hn:next (a.put o.dst v) w'):o.wp P a w next Q:=by unfold Oper.wp;rw[he];exact hn
def bH{P:Program}{o:Oper}{w':World}{next:Act->World->Prop}{Q:Exit->Act->World->Prop}(he:(execOp a.eval o).run P w= .ok .skip w')(hn:next (a.put o.dst undef) w'):o.wp P a w next Q:=by unfold Oper.wp;rw[he];exact hn
end
end Go.Am
end
section
namespace Go.Am
def Gh.EU(γ:Gh)(g:Nat)(x:IY):Gh:={γ with BB:=λb=>if b=g then some x else γ.BB b}
section
variable{C:Fo}{γ0 γ:Gh}{w0 w:World}{β:Nat->Nat}{U:Bu}{h:Ah}{a:Act}
def Gd(γ:Gh)(g:Nat)(x:IY):γ.le (γ.EU g x):=⟨λ_ _ _ h=>h,λ_ _ h=>h,λ_ _ h=>h⟩
def Gm.EU(hi:Gm γ h w){g s s' st:Nat}{c c':Option Nat}(hg:γ.BB g=some (.tail s c st)):Gm (γ.EU g (.tail s' c' st)) h w:=by
 refine⟨λb o v hb=>?_,λid y Hn hy=>?_,λid cs hc b hb=>?_,λid es hc b hb=>?_,hi.mu,λb x hx=>?_,λb n hb=>?_⟩;rotate_left 5
 .obtain⟨p,r⟩:=hi.sz b n hb;have:b≠g:=λhe=>by subst he;rw[hg] at r;rcases r with r|⟨_,r⟩<;>cases r
  exact⟨p,by simp only[Gh.EU,Ac this];exact r⟩
 .obtain⟨p,q,r⟩:=hi.GQ b o v hb;refine⟨p,q,?_⟩;by_cases he:b=g
  .subst he;rw[hg] at r;rcases r with r|⟨_,_,_,r,hl⟩
   .cases r
   .cases r;exact .inr ⟨s',c',st,by simp[Gh.EU],hl⟩
  .simpa only[Gh.EU,Ac he] using r
 .obtain⟨b,p,q⟩:=hi.KJ id y Hn hy;have:b≠g:=λhe=>by subst he;rw[hg] at q;cases q
  exact⟨b,p,by simp only[Gh.EU,Ac this];exact q⟩
 .obtain⟨us,e,fr,p,pf,q,r⟩:=hi.cells id cs hc b hb;exact⟨us,e,fr,p,pf,AQ.mono (Gd γ g _) _ _ q,r⟩
 .obtain⟨us,e,p,q⟩:=hi.map id es hc b hb;exact⟨us,e,p,q.mono (Gd γ g _)⟩
 .by_cases he:b=g;.subst he;exact hi.BB b _ hg
  .simp only[Gh.EU,Ac he] at hx;exact hi.BB b x hx
def HB.EU{B:Nat}{s b st:Nat}{c d:Option Nat}{v:Value}{u:Aa}{x:IY}{g:Nat}(hg:γ.BB g=some (.tail s c st))(ho:HB γ B w b d v u)(hne:b≠s\/d≠c):HB (γ.EU g x) B w b d v u:=by
 rcases ho with ho|⟨g2,n,cap,us,e,z,Af,h1,h2,h3,f⟩
 .exact .inl ho
 .have:g2≠g:=λhe=>by subst he;rw[hg] at h3;cases h3;rcases hne with hne|hne<;>exact hne rfl
  exact .inr ⟨g2,n,cap,us,e,z,Af,h1,h2,by simp only[Gh.EU,Ac this];exact h3,f⟩
def FR.EU{B:Nat}{tmps:Array Value}(hf:FR γ β B U tmps w){g s st:Nat}{c:Option Nat}{x:IY}(hg:γ.BB g=some (.tail s c st))
  (h1:c=none->∀v,U.at s≠ .BB v) (h2:∀o,c=some o->∀ver cs ow,U.at s= .box ver cs ow->o∉ow):FR (γ.EU g x) β B U tmps w:=by
 refine⟨hf.size,λd=>?_⟩;have hs:=hf.GO d;cases hx:U.at d with
 |undef=>trivial
 |skip=>rw[hx] at hs;exact hs
 |val u=>rw[hx] at hs;exact Bv.mono (Gd γ g x) _ _ hs
 |MO b=>rw[hx] at hs;exact hs
 |BB u=>
  rw[hx] at hs;refine⟨Bv.mono (Gd γ g x) _ _ hs.1,hs.2.EU hg ?_⟩;by_cases he:d=s
  .subst he;cases c with
   |none=>exact absurd hx (h1 rfl u)
   |some o=>exact .inr Av
  .exact .inl he
 |box ver cs ow=>
  rw[hx] at hs;obtain⟨r,f,q,us,e,p,n,m,l⟩:=hs;have hb:β d≠g:=λhe=>by rw[he,hg] at f;cases f
  refine⟨r,by simp only[Gh.EU,Ac hb];exact f,q,us,e,p,AQ.mono (Gd γ g x) _ _ n,m,λo ho=>?_⟩;obtain⟨u,v,k,j,i⟩:=l o ho;refine⟨u,v,k,j,i.EU hg ?_⟩;by_cases he:d=s
  .subst he;cases c with
   |none=>exact .inr Av
   |some o'=>refine .inr λhe=>?_;cases he;exact h2 o rfl ver cs ow hx ho
  .exact .inl he
 |Eo s' o=>rw[hx] at hs;exact hs
def CF.EU(hr:CF C γ0 w0 γ β U h a w){g s st s':Nat}{c c':Option Nat}(hg:γ.BB g=some (.tail s c st))(hB:w0.heap.size<=g)
  (h1:c=none->∀v,U.at s≠ .BB v) (h2:∀o,c=some o->∀ver cs ow,U.at s= .box ver cs ow->o∉ow):CF C γ0 w0 (γ.EU g (.tail s' c' st)) β U h a w:=by
 refine⟨hr.Dr.EU hg,hr.fr.EU hg h1 h2,?_,hr.defers,λx cs hx=>Cz.mono (Gd γ g _) _ _ _ (hr.FV x cs hx)⟩;refine⟨hr.Dh.le.trans (Gd γ g _),hr.Dh.size,hr.Dh.os,hr.Dh.tape,hr.Dh.output,λb hb hn=>?_⟩;.obtain⟨p,q⟩:=hr.Dh.Iy b hb hn;exact⟨p,by simp only[Gh.EU,Ac (Ab:b≠g)];exact q⟩
def Bu.EB{s:Nat}{x:DN}(hs:s<U.length):Bu.at (U.set s x) s=x:=by simp[Bu.at,List.getD,hs]
def Bu.E6{s t:Nat}{x:DN}(hs:s≠t):Bu.at (U.set s x) t=U.at t:=by simp[Bu.at,List.getD,Ao hs]
def Bu.M3{s:Nat}(hs:U.at s≠ .undef):s<U.length:=by
 rcases A8 s U.length with h|h
 .exact h
 .exact absurd (by simp[Bu.at,List.getD,CZ h]) hs
def CF.take(hr:CF C γ0 w0 γ β U h a w){s:Nat}{v:Aa}(hs:U.at s= .BB v)(s':Nat)(c':Option Nat):
  ∃γ',γ.le γ'/\CF C γ0 w0 γ' β (U.set s (.val v)) h a w/\Bv γ' v (a.tmps.getD s undef)/\HB γ' w0.heap.size w s' c' (a.tmps.getD s undef) v:=by
 have h0:=hr.fr.GO s;rw[hs] at h0;obtain⟨hv,ho⟩:=h0;have Iz:CF C γ0 w0 γ β (U.set s (.val v)) h a w:=hr.Yt hv;have hl:s<U.length:=Bu.M3 (by rw[hs];simp);rcases ho with ho|⟨g,n,cap,us,e,z,Af,h1,h2,h3,b,c⟩
 .exact⟨γ,.refl _,Iz,hv,.inl ho⟩
 .refine⟨γ.EU g (.tail s' c' (n*z)),Gd _ _ _,Iz.EU h3 b (λ_ u=>?_) (λo ho=>by cases ho),Bv.mono (Gd _ _ _) _ _ hv,.inr ⟨g,n,cap,us,e,z,Af,h1,h2,by simp[Gh.EU],b,c⟩⟩;rw[Bu.EB hl];simp
def Wz{B s d:Nat}{sl b:DN}{v:Value}(hs:JP γ β B w s sl v)(hc:GX sl=some b):JP γ β B w d b v:=by
 cases sl<;>simp[GX] at hc;.subst hc;exact hs
 .subst hc;exact hs
 .subst hc;exact hs.1
 .subst hc;exact hs
def Mb{ws:List (Nat×DN)}(h:∀p∈ws,∀cs ow,p.2≠ .box 0 cs ow):(D3.pure ws).news=[]:=by
 simp only[D3.news,List.filterMap_eq_nil_iff];rintro⟨s,x⟩ hp;have:=h _ hp;cases x with
 |box ver cs ow=>
  cases ver with
  |zero=>exact absurd rfl (this cs ow)
  |succ n=>rfl
 |_=>rfl
def Pl{v:Value}{sl:DN}(hs:Dv C U (.const v)=some sl):(∀B d,JP γ β B w d sl v)/\∀ver cs ow,sl≠ .box ver cs ow:=by
 unfold Dv at hs;split at hs;.rename_i IS;cases IS
 .rename_i IS;cases IS;cases hs;exact⟨λ_ _=>rfl,λ_ _ _ h=>by cases h⟩
 .rename_i IS;cases IS;cases hs;exact⟨λ_ _=>⟨rfl,.inl (.inl rfl)⟩,λ_ _ _ h=>by cases h⟩
 .rename_i IS;cases IS;cases hc:Jl v with
  |none=>rw[hc] at hs;cases hs
  |some u=>rw[hc] at hs;cases hs;exact⟨λ_ _=>EA hc,λ_ _ _ h=>by cases h⟩
 .rename_i IS;cases IS
 .rename_i IS;cases IS
def FY{s:Nat}{sl:DN}(hs:Dv C U (.tmp s)=some sl):U.at s=sl:=DC hs
def bI{x:Operand}{v:Aa}(hs:Dv C U x=some (.BB v))(hn:∀c,x≠ .const c):∃s,x= .tmp s/\U.at s= .BB v:=by
 cases x with
 |tmp s=>exact⟨s,rfl,FY hs⟩
 |const c=>exact absurd rfl (hn c)
 |global g=>have X9:(C.FV g).map (λcs=>DN.val (Aa.B3 cs))=some (.BB v):=hs;cases hc:C.FV g<;>rw[hc] at X9<;>cases X9
 |func f=>cases hs
def Pm{x:Operand}{d:Nat}{take:Bool}{r:D3}{run:IT->Ah->Option IW}{e:Bu}{h':Ah}(hm:I3 C U x d take=some r)(hd:r.LD C run (U.drop r.news) h e h')
  (hr:CF C γ0 w0 γ β U h a w):∃γ',CF C γ0 w0 γ' β e h' (a.put (some d) (a.eval x)) w:=by
 unfold I3 at hm;split at hm;.rename_i s _ _ _ hs;cases hm;rw[Mb Av] at hd;obtain⟨rfl,rfl⟩:=hd;refine⟨γ,hr.put (d:=some d) λt ht=>?_⟩;have h0:=Pk hr s;rw[FY hs] at h0;exact h0.1
 .rename_i v sl hs;cases hm;obtain⟨p,q⟩:=Pl (γ:=γ) (β:=β) (w:=w) hs;rw[Mb (by simpa using λcs ow=>q 0 cs ow)] at hd;obtain⟨rfl,rfl⟩:=hd;exact⟨γ,hr.put (d:=some d) λt _=>p _ t⟩
 .rename_i v hnc hs;split at hm;.cases hm;obtain⟨s,rfl,gx⟩:=bI hs (λc hc=>hnc c hc);rw[Mb (by simp[Pc])] at hd;obtain⟨rfl,rfl⟩:=hd;obtain⟨γ',D0,F6,HZ,yI⟩:=hr.take gx d none;exact⟨γ',F6.put (d:=some d) λt ht=>by cases ht;exact⟨HZ,yI⟩⟩
  .simp only[GX,BO] at hm;cases hm;rw[Mb Av] at hd;obtain⟨rfl,rfl⟩:=hd;obtain⟨s,h1,_⟩:=Fj hr hs;exact⟨γ,hr.put (d:=some d) λt ht=>h1.1⟩
 .rename_i sl _ _ _ hs;cases hc:GX sl with
  |none=>rw[hc] at hm;cases hm
  |some b=>
   rw[hc] at hm;cases hm;have rD:∀cs ow,b≠ .box 0 cs ow:=by intro cs ow he;subst he;cases sl<;>simp[GX] at hc
   rw[Mb (by simpa using rD)] at hd;obtain⟨rfl,rfl⟩:=hd;obtain⟨s,h1,_⟩:=Fj hr hs;exact⟨γ,hr.put (d:=some d) λt ht=>Wz h1 hc⟩
 .cases hm
end
end Go.Am
end
section
namespace Go.Am
open Go
def SV{s:Sem Value}{v:Value}(h:NI s=some v):s= .pure v:=by cases s<;>simp[NI] at h;subst h;rfl
section
variable{P:Program}{γ:Gh}{w:World}
def Yu{op:BinOp}{k l:IntKind}{x y:Int}{u:Aa}(t:TypeId)(c b:Operand)(h:gE op k x l y=some u):
  ∃v,(do eqGuard op t c b (.int k x) (.int l y);binOp op t (.int k x) (.int l y):Sem Value).run P w= .ok v w/\Bv γ u v:=by
 unfold gE at h;cases hs:NI (binOp op 0 (.int k x) (.int l y)) with
 |none=>rw[hs] at h;cases h
 |some v=>
  rw[hs] at h;have f:=SV hs;have e:binOp op t (.int k x) (.int l y)= .pure v:=by rw[<-f];cases op<;>rfl
  have d:eqGuard op t c b (.int k x) (.int l y)=pure ():=by cases op<;>rfl
  refine⟨v,by rw[d,e];rfl,?_⟩;simp only[BZ] at h;split at h<;>cases h<;>rfl
def WA(l:List UInt8):(ByteArray.mk ⟨l⟩).toList=l:=ByteArray.toList_mk l
def Yv{op:BinOp}{x y:Au}{u:Aa}(t:TypeId)(d c:Operand)(h:Yp op x y=some u):
  ∃v,(do eqGuard op t d c (.string ⟨⟨x⟩⟩) (.string ⟨⟨y⟩⟩);binOp op t (.string ⟨⟨x⟩⟩) (.string ⟨⟨y⟩⟩):Sem Value).run P w= .ok v w/\Bv γ u v:=by
 have e:eqGuard op t d c (.string ⟨⟨x⟩⟩) (.string ⟨⟨y⟩⟩)=pure ():=by cases op<;>rfl
 have b:binOp op t (.string ⟨⟨x⟩⟩) (.string ⟨⟨y⟩⟩)=Op.stringOp op ⟨⟨x⟩⟩ ⟨⟨y⟩⟩:=by cases op<;>rfl
 rw[e,b];unfold Yp at h;cases op<;>simp only at h<;>first
  |cases h;done
  |(simp only[Op.stringOp,WA];cases h;exact⟨_,rfl,rfl⟩)
  | (split at h
     . rename_i D0
       cases h
       have hc : ¬ ((((ByteArray.mk ⟨x⟩).size + (ByteArray.mk ⟨y⟩).size : Nat) : Int) > IntKind.i64.max) := by
         have f : (ByteArray.mk ⟨x⟩).size = x.length := rfl
         have b : (ByteArray.mk ⟨y⟩).size = y.length := rfl
         rw [f, b]
         have : IntKind.i64.max = 9223372036854775807 := Br
         rw [this]
         omega
       simp only [Op.stringOp, Ac hc]
       refine ⟨_, rfl, ?_⟩
       show Value.string _ = Value.string _
       first
         | (congr 1; done)
         | (congr 1; apply ByteArray.ext; simp)
     . cases h)
def bJ{t:TypeId}(h:Et P t=some none):(isAgg t).run P w= .ok false w:=by
 unfold Et at h;split at h;.cases hs:BI P t<;>rw[hs] at h<;>cases h
 .cases hs:BI P t<;>rw[hs] at h<;>cases h
 .rename_i d h1 h2 hu;simp only[isAgg,Sem.run_bind,run_underlying hu,Result.andThen_ok];rfl
 .cases h
def OE{t:TypeId}{n:Nat}(h:Et P t=some (some n)):(isAgg t).run P w= .ok true w/\BI P t=some n:=by
 unfold Et at h;split at h
 .rename_i fs hu;cases hs:BI P t with
  |none=>rw[hs] at h;cases h
  |some m=>rw[hs] at h;cases h;exact⟨by simp[isAgg,run_underlying hu],rfl⟩
 .rename_i fs _ hu;cases hs:BI P t with
  |none=>rw[hs] at h;cases h
  |some m=>rw[hs] at h;cases h;exact⟨by simp[isAgg,run_underlying hu],rfl⟩
 .cases h
 .cases h
def C8{t:TypeId}{n:Nat}(h:BI P t=some n):(sizeOf t).run P w= .ok n w:=by
 unfold BI at h;cases hi:P.info? t with
 |none=>rw[hi] at h;cases h
 |some i=>rw[hi] at h;cases h;simp[sizeOf,typeInfo,hi]
def Yw{t:TypeId}{b:Option Nat}{cs:List Aa}{us:Array Value}{off:Nat}{u:Aa}(aJ:Et P t=some b)(hr:AQ γ cs us.toList)(h1:∀v∈us.toList,v.oneCell'=true)
  (hp:Ez cs off b=some u):∃v,(part t us off).run P w= .ok v w/\Bv γ u v:=by
 cases b with
 |none=>
  replace hp:cs[off]?=some u:=hp;obtain⟨v,hv,hrel⟩:=hr.get hp;refine⟨v,?_,hrel⟩;have HZ:us[off]?=some v:=by simpa using hv
  simp[part,bJ aJ,HZ]
 |some n=>
  obtain⟨ha,hs⟩:=OE (w:=w) aJ;replace hp:(if off+n<=cs.length then some (Aa.agg ((cs.drop off).take n)) else none)=some u:=hp;split at hp
  .cases hp;refine⟨.agg (us.extract off (off+n)),by simp[part,ha,C8 hs],us.extract off (off+n),rfl,?_,?_⟩;.have:=(hr.drop off).take n;simpa[L3,Gv] using this
   .intro v hv;refine h1 v ?_;rw[L3,Gv] at hv;exact Bc (AS hv)
  .cases hp
end
end Go.Am
end
section
namespace Go.Am
open Go
def rE{x y:Aa}{b:Bool}(h:I2 .b x y=some b):∃p q,x= .bool p/\y= .bool q/\(p==q)=b:=by unfold I2 at h;split at h<;>first|cases h;done|(rename_i he;cases he;done)|(cases h;exact⟨_,_,rfl,rfl,rfl⟩)
def rF{x y:Aa}{b:Bool}(h:I2 .i x y=some b):∃k p q,x= .int k p/\y= .int k q/\(p==q)=b:=by
 unfold I2 at h;split at h;.rename_i he;cases he
 .split at h;.rename_i hk;subst hk;cases h;exact⟨_,_,_,rfl,rfl,rfl⟩
  .cases h
 .rename_i he;cases he
 .cases h
def rG{x y:Aa}{b:Bool}(h:I2 .s x y=some b):∃p q,x= .str p/\y= .str q/\(p==q)=b:=by
 unfold I2 at h;split at h;.rename_i he;cases he
 .rename_i he;cases he
 .cases h;exact⟨_,_,rfl,rfl,rfl⟩
 .cases h
def M4:∀{ks nl:List FK} {xs ys:List Aa} {b:Bool},De (ks++nl) xs ys=some b->
  ∃b1 b2,De ks (xs.take ks.length) (ys.take ks.length)=some b1/\De nl (xs.drop ks.length) (ys.drop ks.length)=some b2/\b=(b1&&b2)
 |[],nl,xs,ys,b,h=>⟨true,b,by simp[De],by simpa using h,Av⟩
 |k::ks,nl,[],ys,b,h=>by cases ys<;>simp[De] at h
 |k::ks,nl,x::xs,[],b,h=>by simp[De] at h
 |k::ks,nl,x::xs,y::ys,b,h=>by
  simp only[Cl,De] at h;split at h;.rename_i e es h1 h2;cases h;obtain⟨b1,b2,p,q,r⟩:=M4 h2;refine⟨e&&b1,b2,?_,by simpa using q,by rw[r,Bool.and_assoc]⟩;simp only[AO,Vg,De,h1,p]
  .cases h
def M5:∀{ks:List FK} {xs ys:List Aa} {b:Bool},De ks xs ys=some b->xs.length=ks.length/\ys.length=ks.length
 |[],xs,ys,b,h=>by cases xs<;>cases ys<;>simp[De] at h⊢
 |k::ks,xs,ys,b,h=>by
  cases xs<;>cases ys<;>simp[De] at h;split at h;.rename_i h1 h2;obtain⟨p,q⟩:=M5 h2;simp[p,q]
  .cases h
section
variable{P:Program}{γ:Gh}{w:World}
def Vs:∀{d:Nat} {t:TypeId} {ks:List FK},M0 P d t=some ks->BI P t=some ks.length
 |0,t,ks,h=>by cases h
 |d+1,t,ks,h=>by
  simp only[M0] at h;split at h;.split at h<;>cases h;assumption
  .split at h<;>cases h;assumption
  .split at h<;>cases h;assumption
  .split at h
   .split at h;.rename_i hc;cases h;exact hc.1
    .cases h
   .cases h
  .cases h
def bK{ks:List FK}{k:FK}{t:TypeId}(h:(if BI P t=some 1 then some [k] else none)=some ks):ks=[k]:=by split at h<;>cases h;rfl
def Fz{t:TypeId}{us:Array Value}{off:Nat}{v:Value}{d:TypeDesc}(hu:P.underlying t=some d)(h1:∀fs,d≠ .struct fs)(h2:∀n e,d≠ .array n e)(hv:us[off]?=some v):
  (part t us off).run P w= .ok v w:=by
 have ha:(isAgg t).run P w= .ok false w:=by simp only[isAgg,Sem.run_bind,run_underlying hu,Result.andThen_ok];cases d<;>first|rfl|exact absurd rfl (h1 _)|exact absurd rfl (h2 _ _)
 simp[part,ha,hv]
def If{l:List Aa}{off:Nat}{x:Aa}(h:(l.drop off).take 1=[x]):l[off]?=some x:=by have:=B8 (·[0]?) h;simpa using this
def SW{k:FK}{xs ys:List Aa}{b:Bool}(h:De [k] xs ys=some b):∃x y,xs=[x]/\ys=[y]/\I2 k x y=some b:=by
 cases xs<;>cases ys<;>simp[De] at h;rename_i x xs y ys;cases xs<;>cases ys<;>simp[De] at h;all_goals first
  | (split at h
     . rename_i e es h1 h2; cases h2; cases h; exact ⟨x, y, rfl, rfl, by simpa using h1⟩
     . cases h)
  |(split at h<;>simp_all)
mutual
def Yx:∀{d D:Nat},d<=D->∀{t:TypeId} {ks:List FK},M0 P d t=some ks->∀(us vs:Array Value) (cs ds:List Aa) (off:Nat) (b:Bool),AQ γ cs us.toList->AQ γ ds vs.toList->
  De ks ((cs.drop off).take ks.length) ((ds.drop off).take ks.length)=some b->
  ∃x y,(part t us off).run P w= .ok x w/\(part t vs off).run P w= .ok y w/\(Op.equalIn D t x y).run P w= .ok b w
 |0,_,_,_,_,h=>by cases h
 |d+1,0,hd,_,_,_=>Ab
 |d+1,D+1,hd,t,ks,h=>by
  intro us vs cs ds off b hu hv he;have hsz:=Vs h;simp only[M0] at h;split at h;.rename_i Vt;have:=bK h;subst this;obtain⟨x,y,m,l,k⟩:=SW he;obtain⟨x',i,g⟩:=hu.get (If m);obtain⟨c,f,e⟩:=hv.get (If l);refine⟨x',c,Fz Vt Av Av (by simpa using i),Fz Vt Av Av (by simpa using f),?_⟩;obtain⟨o,n,rfl,rfl,j⟩:=rE k;rw[g,e,run_equalIn_bool' w D t _ _ Vt,<-j]
  .rename_i kk Vt;have:=bK h;subst this;obtain⟨x,y,m,l,k⟩:=SW he;obtain⟨x',i,g⟩:=hu.get (If m);obtain⟨c,f,e⟩:=hv.get (If l);refine⟨x',c,Fz Vt Av Av (by simpa using i),Fz Vt Av Av (by simpa using f),?_⟩;obtain⟨p,o,n,rfl,rfl,j⟩:=rF k;rw[g,e,run_equalIn_int w D t _ _ _ _ Vt,<-j]
  .rename_i Vt;have:=bK h;subst this;obtain⟨x,y,m,l,k⟩:=SW he;obtain⟨x',i,g⟩:=hu.get (If m);obtain⟨c,f,e⟩:=hv.get (If l);refine⟨x',c,Fz Vt Av Av (by simpa using i),Fz Vt Av Av (by simpa using f),?_⟩;obtain⟨o,n,rfl,rfl,j⟩:=rG k;rw[g,e,run_equalIn_string w D t _ _ Vt,WA,WA,<-j]
  .rename_i fs Vt;split at h
   .rename_i nl KQ;split at h
    .rename_i hc;cases h;have aJ:Et P t=some (some ks.length):=by simp[Et,Vt,hsz]
     obtain⟨ha,hs⟩:=OE (w:=w) aJ;refine⟨.agg (us.extract off (off+ks.length)),.agg (vs.extract off (off+ks.length)),by simp[part,ha,C8 hs],by simp[part,ha,C8 hs],?_⟩;have aA4:P.underlying t=some (.struct (P.fieldsOf t)):=by simp[Program.fieldsOf,Vt]
     rw[run_equalIn_struct w D t _ _ aA4 hc.2];have hf:(P.fieldsOf t).toList=fs.toList:=by simp[Program.fieldsOf,Vt]
     rw[hf];have rH:AQ γ ((cs.drop off).take ks.length) (us.extract off (off+ks.length)).toList:=by have:=(hu.drop off).take ks.length;simpa[L3,Gv] using this
     have HZ:AQ γ ((ds.drop off).take ks.length) (vs.extract off (off+ks.length)).toList:=by have:=(hv.drop off).take ks.length;simpa[L3,Gv] using this
     refine Vu (Nat.le_of_succ_le_succ hd) fs.toList KQ _ _ _ _ _ rH HZ ?_;simpa using he
    .cases h
   .cases h
  .cases h
def Vu:∀{d D:Nat},d<=D->∀(fs:List Field) {off:Nat} {ks:List FK},SI (M0 P d) fs off=some ks->∀(us vs:Array Value) (cs ds:List Aa) (b:Bool),AQ γ cs us.toList->AQ γ ds vs.toList->
  De ks (cs.drop off) (ds.drop off)=some b->(Op.eqFields D us vs fs).run P w= .ok b w
 |d,D,hd,[],off,ks,h=>by
  intro us vs cs ds b hu hv he;cases h;have:b=true:=by cases h1:cs.drop off<;>cases h2:ds.drop off<;>rw[h1,h2] at he<;>simp[De] at he;exact he
  subst this;rfl
 |d,D,hd,f::fs,off,ks,h=>by
  intro us vs cs ds b hu hv he;simp only[SI] at h;split at h
  .rename_i hc;obtain⟨hn,Â⟩:=hc;split at h
   .rename_i c SX;cases hr:SI (M0 P d) fs (off+c.length) with
    |none=>rw[hr] at h;cases h
    |some j=>
     rw[hr] at h;cases h;obtain⟨b1,b2,l,k,rfl⟩:=M4 he;obtain⟨x,y,i,g,e⟩:=Yx hd SX _ _ _ _ _ _ hu hv l;simp only[Op.eqFields,hn,Ct,AF,BE,Â,Sem.run_bind,i,g,e,Result.andThen_ok];cases b1;.rfl
     .simp only[Ey,Dd,EX,Bool.true_and];exact Vu hd fs hr _ _ _ _ _ hu hv (by simpa[Eb] using k)
   .cases h
  .cases h
end
def Yy{op:BinOp}{t:TypeId}{d c:Operand}{neg:Bool}{ks:List FK}{a b:List Aa}{x y:Value}{u:Aa}(Og:(op= .eql/\neg=false)\/(op= .neq/\neg=true))
  (hg:P.eqGuardType P.depth t=false) (hk:M0 P 20 t=some ks) (Hw:∃fs,P.underlying t=some (.struct fs)) (hx:Bv γ (.agg a) x) (hy:Bv γ (.agg b) y) (h:(De ks a b).map (λe=>Aa.bool (e != neg))=some u):
  ∃v,(do eqGuard op t d c x y;binOp op t x y:Sem Value).run P w= .ok v w/\Bv γ u v:=by
 obtain⟨us,rfl,hu,_⟩:=hx;obtain⟨vs,rfl,hv,_⟩:=hy;cases he:De ks a b with
 |none=>rw[he] at h;cases h
 |some e=>
  rw[he] at h;cases h;obtain⟨l1,m⟩:=M5 he;obtain⟨x',j,i,g,f⟩:=Yx (w:=w) (P:=P) (γ:=γ) (D:=10000) (Ab:20<=10000) hk us vs a b 0 e hu hv (by rw[KG,KG,AT (HF l1),AT (HF m)];exact he);obtain⟨fs,KQ⟩:=Hw;have aJ:Et P t=some (some ks.length):=by simp[Et,KQ,Vs hk]
  obtain⟨ha,hs⟩:=OE (w:=w) aJ;have o:us.extract 0 ks.length=us:=by
   have:us.size=ks.length:=by have:=hu.length;simp at this;omega
   rw[<-this];simp
  have n:vs.extract 0 ks.length=vs:=by
   have:vs.size=ks.length:=by have:=hv.length;simp at this;omega
   rw[<-this];simp
  have l:x'= .agg us:=by simp[part,ha,C8 hs,o] at i;exact i.symm
  have k:j= .agg vs:=by simp[part,ha,C8 hs,n] at g;exact g.symm
  subst l;subst k;rcases Og with⟨rfl,rfl⟩|⟨rfl,rfl⟩
  .refine⟨.bool e,by simp[run_eqGuard_agg (P:=P) w .eql t d c us vs hg,run_eql_struct,f],?_⟩;show Value.bool e=Value.bool _;cases e<;>rfl
  .refine⟨.bool (!e),by simp[run_eqGuard_agg (P:=P) w .neq t d c us vs hg,run_neq_struct,f],?_⟩;show Value.bool _=Value.bool _;cases e<;>rfl
end
end Go.Am
end
