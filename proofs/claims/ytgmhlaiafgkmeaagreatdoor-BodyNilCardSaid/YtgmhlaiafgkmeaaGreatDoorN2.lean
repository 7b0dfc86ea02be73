/- Lemmas -/
import Derived.Test.YtgmhlaiafgkmeaaGreatDoorN1
import Derived.Orders
import Derived.Laws.AppendOwn
import Derived.Laws.StructEq
set_option linter.all false
section
namespace Go.Am
inductive EL where
 |FV (id:Nat)
 |fJ (s:Nat)
 |tail (s:Nat) (c:Option Nat) (start:Nat)
def EL.Ts:EL->Bool
 | .FV _=>true
 |_=>false
structure Gh where
 DI:Nat->Nat->Option Value
 mu:Nat->Option Nat
 A5:Nat->Option EL
 sz:Nat->Option Nat
mutual
def Au(γ:Gh):Aa->Value->Prop
 | .bool b,v=>v= .bool b
 | .int k n,v=>v= .int k n
 | .str s,v=>v= .string ⟨⟨s⟩⟩
 | .ptr none,v=>v= .pointer none
 | .ptr (some (id,o)),v=>∃b,γ.mu id=some b/\v= .pointer (some ⟨b,o,none⟩)
 | .A9 cs,v=>∃b o,v= .pointer (some ⟨b,o,none⟩)/\Bb γ cs b o
 | .sl z Ac,v=>∃ad cap,v= .slice (some ad) Ac.length cap/\Ac.length<=cap/\(ad.spot=none\/cap=0)/\B3 γ Ac z ad.block ad.off
 | .slnil,v=>v= .slice none 0 0
 | .DU _,v=>∃b,v= .slice (some ⟨b,0,none⟩) 0 0
 | .EG id off len z,v=>∃b cap,γ.mu id=some b/\v= .slice (some ⟨b,off,none⟩) len cap/\len<=cap/\(0<z/\cap<=maxLen)/\γ.sz b=some (off+cap*z)
 | .map none,v=>v= .map none
 | .map (some id),v=>∃b,γ.mu id=some b/\v= .map (some b)
 | .func fn f c,v=>∃fs cs,v= .func fn fs cs/\Ai γ f fs.toList/\Ai γ c cs.toList
 | .nilFunc,v=>v= .nilFunc
 | .iface t a,v=>∃u,v= .iface t u/\Au γ a u
 | .nilIface,v=>v= .nilIface
 | .agg cs,v=>∃us,v= .agg us/\Ai γ cs us.toList/\∀u∈us.toList,u.oneCell'=true
 | .tuple vs,v=>∃us,v= .tuple us/\Ai γ vs us.toList
def Ai(γ:Gh):List Aa->List Value->Prop
 |[],us=>us=[]
 |a::l,us=>∃u By,us=u::By/\Au γ a u/\Ai γ l By
def Bb(γ:Gh):List Aa->Nat->Nat->Prop
 |[],_,_=>True
 |a::l,b,o=>(∃u,γ.DI b o=some u/\Au γ a u)/\Bb γ l b (o+1)
def B3(γ:Gh):List (List Aa)->Nat->Nat->Nat->Prop
 |[],_,_,_=>True
 |r::rs,z,b,o=>r.length=z/\Bb γ r b o/\B3 γ rs z b (o+z)
end
structure Gh.le(γ γ':Gh):Prop where
 DI:∀b o v,γ.DI b o=some v->γ'.DI b o=some v
 mu:∀id b,γ.mu id=some b->γ'.mu id=some b
 sz:∀b n,γ.sz b=some n->γ'.sz b=some n
def Gh.le.refl(γ:Gh):γ.le γ:=⟨λ_ _ _ h=>h,λ_ _ h=>h,λ_ _ h=>h⟩
def Gh.le.trans{a b c:Gh}(h:a.le b)(k:b.le c):a.le c:=⟨λ_ _ _ x=>k.DI _ _ _ (h.DI _ _ _ x),λ_ _ x=>k.mu _ _ (h.mu _ _ x),λ_ _ x=>k.sz _ _ (h.sz _ _ x)⟩
mutual
def Au.mono{γ γ':Gh}(Cd:γ.le γ'):∀(a:Aa) (v:Value),Au γ a v->Au γ' a v
 | .bool b,v,h=>h
 | .int k n,v,h=>h
 | .str s,v,h=>h
 | .ptr none,v,h=>h
 | .ptr (some (id,o)),v,h=>by obtain⟨b,hb,hv⟩:=h;exact⟨b,Cd.mu _ _ hb,hv⟩
 | .A9 cs,v,h=>by obtain⟨b,o,hv,hm⟩:=h;exact⟨b,o,hv,Bb.mono Cd cs b o hm⟩
 | .sl z Ac,v,h=>by obtain⟨ad,cap,hv,hc,hs,hm⟩:=h;exact⟨ad,cap,hv,hc,hs,B3.mono Cd Ac z _ _ hm⟩
 | .slnil,v,h=>h
 | .DU _,v,h=>h
 | .EG id off len z,v,h=>by obtain⟨b,cap,hb,hv,hc,hz,hs⟩:=h;exact⟨b,cap,Cd.mu _ _ hb,hv,hc,hz,Cd.sz _ _ hs⟩
 | .map none,v,h=>h
 | .map (some id),v,h=>by obtain⟨b,hb,hv⟩:=h;exact⟨b,Cd.mu _ _ hb,hv⟩
 | .func fn f c,v,h=>by obtain⟨fs,cs,hv,h1,h2⟩:=h;exact⟨fs,cs,hv,Ai.mono Cd f _ h1,Ai.mono Cd c _ h2⟩
 | .nilFunc,v,h=>h
 | .iface t a,v,h=>by obtain⟨u,hv,h1⟩:=h;exact⟨u,hv,Au.mono Cd a u h1⟩
 | .nilIface,v,h=>h
 | .agg cs,v,h=>by obtain⟨us,hv,h1,h2⟩:=h;exact⟨us,hv,Ai.mono Cd cs _ h1,h2⟩
 | .tuple vs,v,h=>by obtain⟨us,hv,h1⟩:=h;exact⟨us,hv,Ai.mono Cd vs _ h1⟩
def Ai.mono{γ γ':Gh}(Cd:γ.le γ'):∀(l:List Aa) (us:List Value),Ai γ l us->Ai γ' l us
 |[],us,h=>h
 |a::l,us,h=>by obtain⟨u,By,hu,h1,h2⟩:=h;exact⟨u,By,hu,Au.mono Cd a u h1,Ai.mono Cd l By h2⟩
def Bb.mono{γ γ':Gh}(Cd:γ.le γ'):∀(l:List Aa) (b o:Nat),Bb γ l b o->Bb γ' l b o
 |[],_,_,_=>trivial
 |a::l,b,o,h=>by obtain⟨⟨u,hu,h1⟩,h2⟩:=h;exact⟨⟨u,Cd.DI _ _ _ hu,Au.mono Cd a u h1⟩,Bb.mono Cd l b (o+1) h2⟩
def B3.mono{γ γ':Gh}(Cd:γ.le γ'):∀(rs:List (List Aa)) (z b o:Nat),B3 γ rs z b o->B3 γ' rs z b o
 |[],_,_,_,_=>trivial
 |r::rs,z,b,o,h=>⟨h.1,Bb.mono Cd r b o h.2.1,B3.mono Cd rs z b (o+z) h.2.2⟩
end
def Ai.length{γ:Gh}:∀{l:List Aa} {us:List Value},Ai γ l us->us.length=l.length
 |[],us,h=>by rw[Ai] at h;subst h;rfl
 |a::l,us,h=>by rw[Ai] at h;obtain⟨u,By,rfl,_,h2⟩:=h;simp[h2.length]
def Ai.get{γ:Gh}:∀{l:List Aa} {us:List Value},Ai γ l us->∀{i:Nat} {a:Aa},l[i]?=some a->∃u,us[i]?=some u/\Au γ a u
 |[],us,h,i,a,hi=>by simp at hi
 |x::l,us,h,i,a,hi=>by
  rw[Ai] at h;obtain⟨u,By,rfl,h1,h2⟩:=h;cases i with
  |zero=>simp at hi;subst hi;exact⟨u,rfl,h1⟩
  |succ i=>simp at hi;obtain⟨v,hv,hr⟩:=h2.get hi;exact⟨v,by simpa using hv,hr⟩
def Ai.C2{γ:Gh}:∀{l:List Aa} {us:List Value},us.length=l.length->(∀(i:Nat) (a:Aa) (u:Value),l[i]?=some a->us[i]?=some u->Au γ a u)->Ai γ l us
 |[],us,hl,_=>by rw[Ai];exact Bq hl
 |x::l,[],hl,_=>by simp at hl
 |x::l,u::us,hl,h=>by rw[Ai];exact⟨u,us,rfl,h 0 x u rfl rfl,Ai.C2 (by simpa using hl) λi a v hi hv=>h (i+1) a v (by simpa using hi) (by simpa using hv)⟩
def Ai.append{γ:Gh}:∀{l l':List Aa} {us By:List Value},Ai γ l us->Ai γ l' By->Ai γ (l++l') (us++By)
 |[],l',us,By,h,h'=>by rw[Ai] at h;subst h;simpa using h'
 |a::l,l',us,By,h,h'=>by rw[Ai] at h;obtain⟨u,r,rfl,h1,h2⟩:=h;rw[Cz,Ai];exact⟨u,r++By,rfl,h1,h2.append h'⟩
def Ai.take{γ:Gh}{l:List Aa}{us:List Value}(h:Ai γ l us)(n:Nat):Ai γ (l.take n) (us.take n):=by
 refine Ai.C2 (by simp[h.length]) λi a u hi hu=>?_;rw[A0] at hi hu;split at hi;.rename_i hlt;rw[if_pos hlt] at hu;obtain⟨v,hv,hr⟩:=h.get hi;rw[hu] at hv;cases hv;exact hr
 .cases hi
def Ai.drop{γ:Gh}{l:List Aa}{us:List Value}(h:Ai γ l us)(n:Nat):Ai γ (l.drop n) (us.drop n):=by refine Ai.C2 (by simp[h.length]) λi a u hi hu=>?_;rw[Bg] at hi hu;obtain⟨v,hv,hr⟩:=h.get hi;rw[hu] at hv;cases hv;exact hr
def Bb.get{γ:Gh}:∀{l:List Aa} {b o:Nat},Bb γ l b o->∀{i:Nat} {a:Aa},l[i]?=some a->∃u,γ.DI b (o+i)=some u/\Au γ a u
 |[],b,o,h,i,a,hi=>by simp at hi
 |x::l,b,o,h,i,a,hi=>by
  rw[Bb] at h;obtain⟨⟨u,hu,h1⟩,h2⟩:=h;cases i with
  |zero=>simp at hi;subst hi;exact⟨u,hu,h1⟩
  |succ i=>simp at hi;obtain⟨v,hv,hr⟩:=h2.get hi;exact⟨v,by rw[<-hv];congr 1;omega,hr⟩
def Bb.C2{γ:Gh}:∀{l:List Aa} {b o:Nat},(∀(i:Nat) (a:Aa),l[i]?=some a->∃u,γ.DI b (o+i)=some u/\Au γ a u)->Bb γ l b o
 |[],b,o,h=>by rw[Bb];trivial
 |x::l,b,o,h=>by rw[Bb];refine⟨h 0 x rfl,Bb.C2 λi a hi=>?_⟩;obtain⟨u,hu,hr⟩:=h (i+1) a (by simpa using hi);exact⟨u,by rw[<-hu];congr 1;omega,hr⟩
def Bb.drop{γ:Gh}{l:List Aa}{b o:Nat}(h:Bb γ l b o)(n:Nat):Bb γ (l.drop n) b (o+n):=by refine Bb.C2 λi a hi=>?_;rw[Bg] at hi;obtain⟨u,hu,hr⟩:=h.get hi;exact⟨u,by rw[<-hu];congr 1;omega,hr⟩
def Bb.values{γ:Gh}:∀{l:List Aa} {b o:Nat},Bb γ l b o->∃us:List Value,Ai γ l us/\∀(j:Nat) (u:Value),us[j]?=some u->γ.DI b (o+j)=some u
 |[],b,o,h=>⟨[],by rw[Ai],by simp⟩
 |x::l,b,o,h=>by
  rw[Bb] at h;obtain⟨⟨u,hu,h1⟩,h2⟩:=h;obtain⟨us,hr,hi⟩:=h2.values;refine⟨u::us,by rw[Ai];exact⟨u,us,rfl,h1,hr⟩,λj v hj=>?_⟩;cases j with
  |zero=>simp at hj;subst hj;exact hu
  |succ j=>simp at hj;rw[<-hi j v hj];congr 1;omega
def B3.get{γ:Gh}:∀{rs:List (List Aa)} {z b o:Nat},B3 γ rs z b o->∀{i:Nat} {r:List Aa},rs[i]?=some r->r.length=z/\Bb γ r b (o+i*z)
 |[],z,b,o,h,i,r,hi=>by simp at hi
 |x::rs,z,b,o,h,i,r,hi=>by
  rw[B3] at h;cases i with
  |zero=>simp at hi;subst hi;simpa using⟨h.1,h.2.1⟩
  |succ i=>simp at hi;obtain⟨h1,h2⟩:=h.2.2.get hi;exact⟨h1,by rw[show o+(i+1)*z=o+z+i*z by rw[AI,Fo];omega];exact h2⟩
def B3.C2{γ:Gh}:∀{rs:List (List Aa)} {z b o:Nat},(∀(i:Nat) (r:List Aa),rs[i]?=some r->r.length=z/\Bb γ r b (o+i*z))->B3 γ rs z b o
 |[],z,b,o,h=>by rw[B3];trivial
 |x::rs,z,b,o,h=>by rw[B3];have h0:=h 0 x rfl;refine⟨h0.1,by simpa using h0.2,B3.C2 λi r hi=>?_⟩;obtain⟨h1,h2⟩:=h (i+1) r (by simpa using hi);exact⟨h1,by rw[show o+z+i*z=o+(i+1)*z by rw[AI,Fo];omega];exact h2⟩
def B3.length{γ:Gh}:∀{rs:List (List Aa)} {z b o:Nat},B3 γ rs z b o->rs.flatten.length=rs.length*z
 |[],z,b,o,h=>by simp
 |x::rs,z,b,o,h=>by rw[B3] at h;simp[h.1,h.2.2.length,AI,Kr]
def GR{ad:Addr}{n cap:Nat}(hs:ad.spot=none\/cap=0)(hc:n<=cap)(hn:0<n):ad=⟨ad.block,ad.off,none⟩:=by
 rcases hs with hs|hs
 .cases ad;simp_all
 .omega
def B3.values{γ:Gh}:∀{rs:List (List Aa)} {z b o:Nat},B3 γ rs z b o->∃us:List Value,Ai γ rs.flatten us/\us.length=rs.length*z/\∀(j:Nat) (u:Value),us[j]?=some u->γ.DI b (o+j)=some u
 |[],z,b,o,h=>⟨[],by simp[Ai],by simp,by simp⟩
 |x::rs,z,b,o,h=>by
  rw[B3] at h;obtain⟨us,h1,h2⟩:=h.2.1.values;obtain⟨vs,h3,h4,h5⟩:=h.2.2.values;have hl:us.length=z:=by rw[h1.length,h.1]
  refine⟨us++vs,by simpa using h1.append h3,by simp[hl,h4,AI,Kr],λj u hj=>?_⟩;rw[qH] at hj;split at hj;.exact h2 j u hj
  .rename_i Jk;rw[<-h5 _ _ hj];congr 1
   omega
def D2(γ:Gh)(B:Nat)(w:World)(s:Nat)(c:Option Nat)(v:Value)(a:Aa):Prop:=
 (a= .slnil\/∃z,a= .DU z)\/∃g n cap us e z Ac,a= .sl z Ac/\v= .slice (some ⟨g,0,none⟩) n cap/\γ.A5 g=some (.tail s c (n*z))/\B<=g/\
  w.heap[g]?=some (.cells us e (0,0))/\us.size=cap*z/\n<=cap/\cap<=maxLen/\0<z
def Fg(γ:Gh)(β:Nat->Nat)(B:Nat)(w:World)(s:Nat):BQ->Value->Prop
 | .undef,_=>True
 | .skip,v=>v=undef
 | .val a,v=>Au γ a v
 | .Hm b,v=>v= .bool b
 | .A5 a,v=>Au γ a v/\D2 γ B w s none v a
 | .box _ cs ow,v=>v= .pointer (some ⟨β s,0,none⟩)/\γ.A5 (β s)=some (.fJ s)/\B<=β s/\
  ∃us e,w.heap[β s]?=some (.cells us e (0,0))/\Ai γ cs us.toList/\(∀u∈us.toList,u.oneCell'=true)/\
   ∀o∈ow,∃u a,us[o]?=some u/\cs[o]?=some a/\D2 γ B w s (some o) u a
 | .Cc s' o,v=>v= .pointer (some ⟨β s',o,none⟩)
structure FR(γ:Gh)(β:Nat->Nat)(B:Nat)(U:Av)(tmps:Array Value)(w:World):Prop where
 size:U.length=tmps.size
 DG:∀s,Fg γ β B w s (U.at s) (tmps.getD s undef)
def E7(γ:Gh):List (Aa×Aa)->List MapEntry->Prop
 |[],es=>es=[]
 |(k,v)::l,es=>∃e KW,es=e::KW/\Au γ k e.key/\Au γ v e.val/\E7 γ l KW
def Tt(γ:Gh)(l:List (Aa×Aa))(es:Array MapEntry)(clock:Nat):Prop:=
 E7 γ l es.toList/\clock=es.size/\∀(i:Nat) (e:MapEntry),es[i]?=some e->e.born=i
def J2(fr:Nat×Nat)(n:Nat):Prop:=fr=(0,0)\/n<=fr.1
structure Dp(γ:Gh)(h:Ab)(w:World):Prop where
 DI:∀b o v,γ.DI b o=some v->w.cell? ⟨b,o,none⟩=some v/\v.oneCell'=true/\(γ.A5 b=none\/∃s c st,γ.A5 b=some (.tail s c st)/\o<st)
 FV:∀id x,h[id]?=some x->x≠ .Ec->∃b,γ.mu id=some b/\γ.A5 b=some (.FV id)
 cells:∀id cs,h[id]?=some (.cells cs)->∀b,γ.mu id=some b->∃us e fr,w.heap[b]?=some (.cells us e fr)/\J2 fr us.size/\Ai γ cs (us.toList.take cs.length)/\∀u∈us.toList.take cs.length,u.oneCell'=true
 map:∀id es,h[id]?=some (.map es)->∀b,γ.mu id=some b->∃C3 clock,w.heap[b]?=some (.map C3 clock)/\Tt γ es C3 clock
 mu:∀id b,γ.mu id=some b->id<h.length
 A5:∀b x,γ.A5 b=some x->b<w.heap.size
 sz:∀b n,γ.sz b=some n->(∃us e fr,w.heap[b]?=some (.cells us e fr)/\us.size=n)/\(γ.A5 b=none\/∃id,γ.A5 b=some (.FV id))
structure FC(γ0:Gh)(w0:World)(γ:Gh)(w:World):Prop where
 le:γ0.le γ
 size:w0.heap.size<=w.heap.size
 os:w.os=w0.os
 tape:w.tape=w0.tape
 output:w.output=w0.output
 GS:∀b,b<w0.heap.size->(∀id,γ0.A5 b≠some (.FV id))->w.heap[b]?=w0.heap[b]?/\γ.A5 b=γ0.A5 b
def FC.refl(γ:Gh)(w:World):FC γ w γ w:=⟨.refl _,Ap _,rfl,rfl,rfl,λ_ _ _=>⟨rfl,rfl⟩⟩
def FC.trans{γ0 γ1 γ2:Gh}{w0 w1 w2:World}(h:FC γ0 w0 γ1 w1)(k:FC γ1 w1 γ2 w2):FC γ0 w0 γ2 w2:=by refine⟨h.le.trans k.le,AX h.size k.size,k.os.trans h.os,k.tape.trans h.tape,k.output.trans h.output,λb hb hn=>?_⟩;.obtain⟨h1,h2⟩:=h.GS b hb hn;obtain⟨k1,k2⟩:=k.GS b (HX hb h.size) (λid=>by rw[h2];exact hn id);exact⟨k1.trans h1,k2.trans h2⟩
structure RW(γ:Gh)(w:World)(γ':Gh)(w':World):Prop where
 le:γ.le γ'
 GS:∀b x,γ.A5 b=some x->x.Ts=false->γ'.A5 b=some x/\w'.heap[b]?=w.heap[b]?
def RW.aN{γ γ':Gh}{h:Ab}{w w':World}(hi:Dp γ h w)(ha:FC γ w γ' w'):RW γ w γ' w':=by refine⟨ha.le,λb x hb hx=>?_⟩;obtain⟨h1,h2⟩:=ha.GS b (hi.A5 b x hb) (λid Gi=>by rw[hb] at Gi;cases Gi;simp[EL.Ts] at hx);exact⟨h2.trans hb,h1⟩
def D2.kept{γ γ':Gh}{B:Nat}{w w':World}{s:Nat}{c:Option Nat}{v:Value}{a:Aa}(h:D2 γ B w s c v a)(k:RW γ w γ' w'):D2 γ' B w' s c v a:=by
 rcases h with h|⟨g,n,cap,us,e,z,Ac,h1,h2,h3,h4,h5,h6⟩
 .exact .inl h
 .obtain⟨k1,k2⟩:=k.GS g _ h3 rfl;exact .inr ⟨g,n,cap,us,e,z,Ac,h1,h2,k1,h4,by rw[k2];exact h5,h6⟩
def Fg.kept{γ γ':Gh}{β:Nat->Nat}{B:Nat}{w w':World}{s:Nat}{x:BQ}{v:Value}(h:Fg γ β B w s x v)(k:RW γ w γ' w'):Fg γ' β B w' s x v:=by
 cases x with
 |undef=>trivial
 |skip=>exact h
 |val a=>exact Au.mono k.le a v h
 |Hm b=>exact h
 |A5 a=>exact⟨Au.mono k.le a v h.1,h.2.kept k⟩
 |box ver cs ow=>obtain⟨h1,h2,h3,us,e,h4,h5,h6,h7⟩:=h;obtain⟨k1,k2⟩:=k.GS _ _ h2 rfl;exact⟨h1,k1,h3,us,e,by rw[k2];exact h4,Ai.mono k.le cs _ h5,h6,λo ho=>let⟨u,a,p,q,r⟩:=h7 o ho;⟨u,a,p,q,r.kept k⟩⟩
 |Cc s' o=>exact h
def FR.kept{γ γ':Gh}{β:Nat->Nat}{B:Nat}{U:Av}{tmps:Array Value}{w w':World}(h:FR γ β B U tmps w)(k:RW γ w γ' w'):FR γ' β B U tmps w':=
 ⟨h.size,λs=>(h.DG s).kept k⟩
end Go.Am
end
section
namespace Go.Am
def AV{w w':World}{b o:Nat}(h:w'.heap[b]?=w.heap[b]?):w'.cell? ⟨b,o,none⟩=w.cell? ⟨b,o,none⟩:=by simp[World.cell?,h]
def BB{w:World}{b o:Nat}{v:Value}(h:w.cell? ⟨b,o,none⟩=some v):b<w.heap.size:=by
 rcases CD b w.heap.size with h'|h'
 .exact h'
 .simp[World.cell?,Array.getElem?_eq_none h'] at h
def Dp.aO{γ:Gh}{h:Ab}{w:World}(hi:Dp γ h w){b o:Nat}{v:Value}(hb:γ.DI b o=some v):b<w.heap.size:=BB (hi.DI b o v hb).1
def Dp.same{γ:Gh}{h:Ab}{w w':World}(hi:Dp γ h w)(hh:w'.heap=w.heap):Dp γ h w':=by
 refine⟨λb o v hb=>?_,hi.FV,λid cs hc b hb=>?_,λid es hc b hb=>?_,hi.mu,λb x hx=>?_,λb n hb=>by rw[hh];exact hi.sz b n hb⟩;.obtain⟨h1,h2,h3⟩:=hi.DI b o v hb;have e:=AV (w:=w) (w':=w') (b:=b) (o:=o) (by rw[hh]);exact⟨e.trans h1,h2,h3⟩
 .rw[hh];exact hi.cells id cs hc b hb
 .rw[hh];exact hi.map id es hc b hb
 .rw[hh];exact hi.A5 b x hx
def FC.same{γ:Gh}{w w':World}(hh:w'.heap=w.heap)(h1:w'.os=w.os)(h2:w'.tape=w.tape)(h3:w'.output=w.output):FC γ w γ w':=
 ⟨.refl _,by rw[hh];exact Ap _,h1,h2,h3,λ_ _ _=>⟨by rw[hh],rfl⟩⟩
def FC.drew(γ:Gh)(w:World):FC γ w γ w.drew:=FC.same rfl rfl rfl rfl
def Gh.Br(γ:Gh)(b:Nat)(us:Array Value)(k:Nat)(x:Option EL):Gh:=
 {DI:=λb' o=>if b'=b then(if o<k then us[o]? else none) else γ.DI b' o,mu:=γ.mu,A5:=λb'=>if b'=b then x else γ.A5 b',sz:=γ.sz}
def Gh.AJ(γ:Gh)(b id:Nat)(n:Option Nat):Gh:=
 {DI:=γ.DI,mu:=λi=>if i=id then some b else γ.mu i,A5:=λb'=>if b'=b then some (.FV id) else γ.A5 b',sz:=λb'=>if b'=b then n else γ.sz b'}
section
variable{γ:Gh}{h:Ab}{w:World}
def Ch(w:World)(o:Obj){b:Nat}(hb:b<w.heap.size):(w.alloc o).heap[b]?=w.heap[b]?:=heap_alloc_old w o b hb
def Ht(hi:Dp γ h w)(us:Array Value)(e:TypeId)(fr:Nat×Nat)(k:Nat)(x:Option EL)(h1:∀o u,o<k->us[o]?=some u->u.oneCell'=true)
  (hx:x=none\/(∃s c,x=some (.tail s c k))\/(k=0/\∀id,x≠some (.FV id))):
  Dp (γ.Br w.heap.size us k x) h (w.alloc (.cells us e fr))/\FC γ w (γ.Br w.heap.size us k x) (w.alloc (.cells us e fr)):=by
 have Ct:γ.A5 w.heap.size=none:=by
  cases hc:γ.A5 w.heap.size with
  |none=>rfl
  |some y=>exact absurd (hi.A5 _ y hc) (DF _)
 have Tu:∀o,γ.DI w.heap.size o=none:=λo=>by
  cases hc:γ.DI w.heap.size o with
  |none=>rfl
  |some y=>exact absurd (hi.aO hc) (DF _)
 have Cd:γ.le (γ.Br w.heap.size us k x):=⟨λb' o' v' Ih=>by
  have:b'≠w.heap.size:=λhe=>by rw[he,Tu] at Ih;cases Ih
  simp only[Gh.Br,if_neg this];exact Ih,λ_ _ hm=>hm,λ_ _ hm=>hm⟩
 constructor
 .refine⟨λb o v hb=>?_,λid y Gi hy=>?_,λid cs hc b hb=>?_,λid es hc b hb=>?_,hi.mu,λb y hy=>?_,λb n hb=>?_⟩;rotate_left 5;.obtain⟨⟨By,e',RX,p,q⟩,r⟩:=hi.sz b n hb;have GU:b≠w.heap.size:=O9 (by rw[Ae] at p;exact p.1);exact⟨⟨By,e',RX,by rw[Ch _ _ (by rw[Ae] at p;exact p.1)];exact p,q⟩,by simp only[Gh.Br,if_neg GU];exact r⟩
  .by_cases GU:b=w.heap.size
   .subst GU;simp only[Gh.Br,Bc] at hb⊢;split at hb
    .rename_i hlt;refine⟨by rw[cell_of_row _ _ _ us e fr (heap_alloc_new w _)];exact hb,h1 o v hlt hb,?_⟩;rcases hx with hx|⟨s,c,hx⟩|⟨hx,_⟩
     .exact .inl hx
     .exact .inr ⟨s,c,k,hx,hlt⟩
     .omega
    .cases hb
   .simp only[Gh.Br,if_neg GU] at hb⊢;obtain⟨p,q,r⟩:=hi.DI b o v hb;exact⟨by rw[AV (Ch w _ (BB p))];exact p,q,r⟩
  .obtain⟨b,p,q⟩:=hi.FV id y Gi hy;refine⟨b,p,?_⟩;have:b≠w.heap.size:=λhe=>by rw[he,Ct] at q;cases q
   simp only[Gh.Br,if_neg this];exact q
  .obtain⟨By,e',RX,p,pf,q,r⟩:=hi.cells id cs hc b hb;exact⟨By,e',RX,by rw[Ch _ _ (by rw[Ae] at p;exact p.1)];exact p,pf,Ai.mono Cd cs _ q,r⟩
  .obtain⟨C3,clock,p,q⟩:=hi.map id es hc b hb;refine⟨C3,clock,by rw[Ch _ _ (by rw[Ae] at p;exact p.1)];exact p,?_,q.2⟩;replace q:=q.1;clear hc p;revert q;generalize C3.toList=l;intro q;induction es generalizing l with
   |nil=>exact q
   |cons kv es ih=>obtain⟨kk,vv⟩:=kv;obtain⟨en,KW,hl,a1,a2,a3⟩:=q;exact⟨en,KW,hl,Au.mono Cd _ _ a1,Au.mono Cd _ _ a2,ih KW a3⟩
  .by_cases GU:b=w.heap.size;.subst GU;simp
   .simp only[Gh.Br,if_neg GU] at hy;have:=hi.A5 b y hy;simp;omega
 .refine⟨Cd,by simp,rfl,rfl,rfl,λb hb _=>⟨Ch _ _ hb,?_⟩⟩;simp only[Gh.Br,if_neg (O9 hb)]
def E7.mono{γ γ':Gh}(Cd:γ.le γ'):∀{es:List (Aa×Aa)} {l:List MapEntry},E7 γ es l->E7 γ' es l
 |[],l,q=>q
 |(kk,vv)::es,l,q=>by obtain⟨en,KW,hl,a1,a2,a3⟩:=q;exact⟨en,KW,hl,Au.mono Cd _ _ a1,Au.mono Cd _ _ a2,a3.mono Cd⟩
def Tt.mono{γ γ':Gh}(Cd:γ.le γ'){es:List (Aa×Aa)}{l:Array MapEntry}{c:Nat}(h:Tt γ es l c):Tt γ' es l c:=⟨h.1.mono Cd,h.2⟩
def GV(hi:Dp γ h w)(o:Obj)(x:Ig)(m:Option Nat)
  (hx:(∃cs us e fr,x= .cells cs/\o= .cells us e fr/\J2 fr us.size/\Ai γ cs (us.toList.take cs.length)/\(∀u∈us.toList.take cs.length,u.oneCell'=true)/\m=some us.size)\/(x= .map []/\o= .map #[] 0/\m=none)):
  Dp (γ.AJ w.heap.size h.length m) (h++[x]) (w.alloc o)/\FC γ w (γ.AJ w.heap.size h.length m) (w.alloc o):=by
 have Ct:γ.A5 w.heap.size=none:=by
  cases hc:γ.A5 w.heap.size with
  |none=>rfl
  |some y=>exact absurd (hi.A5 _ y hc) (DF _)
 have gO:γ.mu h.length=none:=by
  cases hc:γ.mu h.length with
  |none=>rfl
  |some y=>exact absurd (hi.mu _ y hc) (DF _)
 have Fc:γ.sz w.heap.size=none:=by
  cases hc:γ.sz w.heap.size with
  |none=>rfl
  |some y=>obtain⟨⟨_,_,_,p,_⟩,_⟩:=hi.sz _ y hc;rw[Ae] at p;exact absurd p.1 (DF _)
 have Cd:γ.le (γ.AJ w.heap.size h.length m):=⟨λ_ _ _ hv=>hv,λid b hm=>by
  have:id≠h.length:=λhe=>by rw[he,gO] at hm;cases hm
  simp only[Gh.AJ,if_neg this];exact hm,λb n hm=>by
  have:b≠w.heap.size:=λhe=>by rw[he,Fc] at hm;cases hm
  simp only[Gh.AJ,if_neg this];exact hm⟩
 constructor
 .refine⟨λb o' v hb=>?_,λid y Gi hy=>?_,λid cs hc b hb=>?_,λid es hc b hb=>?_,λid b hb=>?_,λb y hy=>?_,λb n hb=>?_⟩;rotate_left 6
  .by_cases GU:b=w.heap.size
   .subst GU;simp only[Gh.AJ,Bc] at hb;rcases hx with⟨Dz,us,e,fr,rfl,rfl,pf,p,q,rfl⟩|⟨rfl,rfl,rfl⟩
    .cases hb;exact⟨⟨us,e,fr,heap_alloc_new w _,rfl⟩,.inr ⟨h.length,by simp[Gh.AJ]⟩⟩
    .cases hb
   .simp only[Gh.AJ,if_neg GU] at hb⊢;obtain⟨⟨By,e',RX,p,q⟩,r⟩:=hi.sz b n hb;exact⟨⟨By,e',RX,by rw[Ch _ _ (by rw[Ae] at p;exact p.1)];exact p,q⟩,r⟩
  .obtain⟨p,q,r⟩:=hi.DI b o' v hb;have GU:b≠w.heap.size:=O9 (BB p);exact⟨by rw[World.cell?_alloc_old _ _ _ GU];exact p,q,by simp only[Gh.AJ,if_neg GU];exact r⟩
  .by_cases he:id=h.length;.exact⟨w.heap.size,by simp[Gh.AJ,he],by simp[Gh.AJ,he]⟩
   .have Lx:id<h.length:=by rw[Af] at Gi;obtain⟨hl,_⟩:=Gi;simp at hl;omega
    rw[As Lx] at Gi;obtain⟨b,p,q⟩:=hi.FV id y Gi hy;have GU:b≠w.heap.size:=λhe=>by rw[he,Ct] at q;cases q
    exact⟨b,by simp only[Gh.AJ,if_neg he];exact p,by simp only[Gh.AJ,if_neg GU];exact q⟩
  .by_cases he:id=h.length
   .subst he;simp[Gh.AJ] at hb;subst hb;simp at hc;rcases hx with⟨Dz,us,e,fr,rfl,rfl,pf,p,q,rfl⟩|⟨rfl,rfl,rfl⟩
    .cases hc;exact⟨us,e,fr,heap_alloc_new w _,pf,Ai.mono Cd _ _ p,q⟩
    .cases hc
   .simp only[Gh.AJ,if_neg he] at hb;have Lx:=hi.mu id b hb;rw[As Lx] at hc;obtain⟨By,e',RX,p,pf,q,r⟩:=hi.cells id cs hc b hb;exact⟨By,e',RX,by rw[Ch _ _ (by rw[Ae] at p;exact p.1)];exact p,pf,Ai.mono Cd _ _ q,r⟩
  .by_cases he:id=h.length
   .subst he;simp[Gh.AJ] at hb;subst hb;simp at hc;rcases hx with⟨Dz,us,e,fr,rfl,rfl,pf,p,q,rfl⟩|⟨rfl,rfl,rfl⟩
    .cases hc
    .cases hc;exact⟨#[],0,heap_alloc_new w _,rfl,rfl,by simp⟩
   .simp only[Gh.AJ,if_neg he] at hb;have Lx:=hi.mu id b hb;rw[As Lx] at hc;obtain⟨C3,clock,p,q⟩:=hi.map id es hc b hb;exact⟨C3,clock,by rw[Ch _ _ (by rw[Ae] at p;exact p.1)];exact p,q.mono Cd⟩
  .by_cases he:id=h.length;.simp[he]
   .simp only[Gh.AJ,if_neg he] at hb;have:=hi.mu id b hb;simp;omega
  .by_cases GU:b=w.heap.size;.subst GU;simp
   .simp only[Gh.AJ,if_neg GU] at hy;have:=hi.A5 b y hy;simp;omega
 .refine⟨Cd,by simp,rfl,rfl,rfl,λb hb _=>⟨Ch _ _ hb,?_⟩⟩;simp only[Gh.AJ,if_neg (O9 hb)]
def RY(hi:Dp γ h w){g s:Nat}(hg:γ.A5 g=some (.fJ s))(us:Array Value):Dp γ h (w.setRow g us):=by
 refine⟨λb o v hb=>?_,hi.FV,λid cs hc b hb=>?_,λid es hc b hb=>?_,hi.mu,λb x hx=>?_,λb n hb=>?_⟩;rotate_left 4
 .obtain⟨p,r⟩:=hi.sz b n hb;have:b≠g:=λhe=>by subst he;rw[hg] at r;rcases r with r|⟨_,r⟩<;>cases r
  exact⟨by rw[setRow_other w g b us this];exact p,r⟩
 .obtain⟨p,q,r⟩:=hi.DI b o v hb;have:b≠g:=λhe=>by subst he;rw[hg] at r;rcases r with r|⟨_,_,_,r,_⟩<;>cases r
  exact⟨by rw[AV (setRow_other w g b us this)];exact p,q,r⟩
 .have J3:b≠g:=λhe=>by subst he;obtain⟨b',p,q⟩:=hi.FV id _ hc (by simp);rw[hb] at p;cases p;rw[hg] at q;cases q
  rw[setRow_other w g b us J3];exact hi.cells id cs hc b hb
 .have J3:b≠g:=λhe=>by subst he;obtain⟨b',p,q⟩:=hi.FV id _ hc (by simp);rw[hb] at p;cases p;rw[hg] at q;cases q
  rw[setRow_other w g b us J3];exact hi.map id es hc b hb
 .have:=hi.A5 b x hx;simpa[World.setRow] using this
def Gs(hi:Dp γ h w){g id:Nat}{cs:List Aa}(hcs:h[id]?=some (.cells cs))(hg:γ.mu id=some g){us:Array Value}{e:TypeId}{fr:Nat×Nat}(hw:w.heap[g]?=some (.cells us e fr))(By:Array Value)(Dz:List Aa)(ML:By.size=us.size)(QT:J2 fr By.size)
  (hr:Ai γ Dz (By.toList.take Dz.length)) (h1:∀u∈By.toList.take Dz.length,u.oneCell'=true):
  Dp γ (h.set id (.cells Dz)) (w.setRow g By)/\FC γ w γ (w.setRow g By):=by
 obtain⟨g',p,JS⟩:=hi.FV id _ hcs (by simp);rw[hg] at p;cases p;have uniq:∀Cw x,h[Cw]?=some x->x≠ .Ec->γ.mu Cw=some g->Cw=id:=λCw x hx aP hm=>by obtain⟨b',p,q⟩:=hi.FV Cw x hx aP;rw[hm] at p;cases p;rw[JS] at q;cases q;rfl
 constructor
 .refine⟨λb o v hb=>?_,λCw y Gi hy=>?_,λCw cs hc b hb=>?_,λCw es hc b hb=>?_,λCw b hb=>by simpa using hi.mu Cw b hb,λb x hx=>?_,λb n hb=>?_⟩;rotate_left 5
  .obtain⟨⟨Pv,e2,Tv,p,q⟩,r⟩:=hi.sz b n hb;by_cases he:b=g;.subst he;rw[hw] at p;cases p;exact⟨⟨By,e,fr,setRow_heap w b us By e fr hw,by rw[ML];exact q⟩,r⟩
   .exact⟨⟨Pv,e2,Tv,by rw[setRow_other w g b By he];exact p,q⟩,r⟩
  .obtain⟨p,q,r⟩:=hi.DI b o v hb;have:b≠g:=λhe=>by subst he;rw[JS] at r;rcases r with r|⟨_,_,_,r,_⟩<;>cases r
   exact⟨by rw[AV (setRow_other w g b By this)];exact p,q,r⟩
  .by_cases he:Cw=id;.subst he;exact⟨g,hg,JS⟩
   .rw[AB (λx=>he x.symm)] at Gi;exact hi.FV Cw y Gi hy
  .by_cases he:Cw=id;.subst he;rw[hg] at hb;cases hb;rw[AD (hi.mu _ _ hg)] at hc;cases hc;exact⟨By,e,fr,setRow_heap w g us By e fr hw,QT,hr,h1⟩
   .rw[AB (λx=>he x.symm)] at hc;have J3:b≠g:=λhx=>by subst hx;exact he (uniq Cw _ hc (by simp) hb)
    rw[setRow_other w g b By J3];exact hi.cells Cw cs hc b hb
  .by_cases he:Cw=id;.subst he;rw[AD (hi.mu _ _ hg)] at hc;cases hc
   .rw[AB (λx=>he x.symm)] at hc;have J3:b≠g:=λhx=>by subst hx;exact he (uniq Cw _ hc (by simp) hb)
    rw[setRow_other w g b By J3];exact hi.map Cw es hc b hb
  .have:=hi.A5 b x hx;simpa[World.setRow] using this
 .refine⟨.refl _,by simp[World.setRow],rfl,rfl,rfl,λb hb hn=>⟨?_,rfl⟩⟩;exact setRow_other w g b By (λhe=>by subst he;exact hn id JS)
def Pw(hi:Dp γ h w){g s st:Nat}{c:Option Nat}(hg:γ.A5 g=some (.tail s c st)){us:Array Value}{e:TypeId}(hw:w.heap[g]?=some (.cells us e (0,0)))(By:Array Value)(k:Nat)(s':Nat)(c':Option Nat)
  (Gt:∀o,o<st->By[o]?=us[o]?) (hk:st<=k) (h1:∀o u,o<k->By[o]?=some u->u.oneCell'=true) (Nq:∀o v,γ.DI g o=some v->us[o]?=some v):
  Dp (γ.Br g By k (some (.tail s' c' k))) h (w.setRow g By)/\γ.le (γ.Br g By k (some (.tail s' c' k))):=by
 have hlt:∀o v,γ.DI g o=some v->o<st:=λo v ho=>by
  obtain⟨_,_,r⟩:=hi.DI g o v ho;rw[hg] at r;rcases r with r|⟨_,_,_,r,hl⟩
  .cases r
  .cases r;exact hl
 have Cd:γ.le (γ.Br g By k (some (.tail s' c' k))):=⟨λb o v hb=>by
  by_cases he:b=g;.subst he;have:=hlt o v hb;simp only[Gh.Br,Bc,if_pos (HX this hk)];rw[Gt o this];exact Nq o v hb
  .simp only[Gh.Br,if_neg he];exact hb,λ_ _ hm=>hm,λ_ _ hm=>hm⟩
 refine⟨⟨λb o v hb=>?_,λid y Gi hy=>?_,λid cs hc b hb=>?_,λid es hc b hb=>?_,hi.mu,λb x hx=>?_,λb n hb=>?_⟩,Cd⟩;rotate_left 5
 .obtain⟨p,r⟩:=hi.sz b n hb;have:b≠g:=λhe=>by subst he;rw[hg] at r;rcases r with r|⟨_,r⟩<;>cases r
  exact⟨by rw[setRow_other w g b By this];exact p,by simp only[Gh.Br,if_neg this];exact r⟩
 .by_cases he:b=g
  .subst he;simp only[Gh.Br,Bc] at hb⊢;split at hb
   .rename_i hl;exact⟨by rw[cell_of_row _ _ _ By e (0,0) (setRow_heap w b us By e (0,0) hw)];exact hb,
     h1 o v hl hb,.inr ⟨s',c',k,rfl,hl⟩⟩
   .cases hb
  .simp only[Gh.Br,if_neg he] at hb⊢;obtain⟨p,q,r⟩:=hi.DI b o v hb;exact⟨by rw[AV (setRow_other w g b By he)];exact p,q,r⟩
 .obtain⟨b,p,q⟩:=hi.FV id y Gi hy;have:b≠g:=λhe=>by subst he;rw[hg] at q;cases q
  exact⟨b,p,by simp only[Gh.Br,if_neg this];exact q⟩
 .replace hb:γ.mu id=some b:=hb;obtain⟨b',p,q⟩:=hi.FV id _ hc (by simp);rw[hb] at p;cases p;have:b≠g:=λhe=>by subst he;rw[hg] at q;cases q
  rw[setRow_other w g b By this];obtain⟨Pv,e2,Tv,p2,rO,q2,r2⟩:=hi.cells id cs hc b hb;exact⟨Pv,e2,Tv,p2,rO,Ai.mono Cd _ _ q2,r2⟩
 .replace hb:γ.mu id=some b:=hb;obtain⟨b',p,q⟩:=hi.FV id _ hc (by simp);rw[hb] at p;cases p;have:b≠g:=λhe=>by subst he;rw[hg] at q;cases q
  rw[setRow_other w g b By this];obtain⟨C3,clock,p2,q2⟩:=hi.map id es hc b hb;exact⟨C3,clock,p2,q2.mono Cd⟩
 .by_cases he:b=g;.subst he;have:=hi.A5 b _ hg;simpa[World.setRow] using this
  .simp only[Gh.Br,if_neg he] at hx;have:=hi.A5 b x hx;simpa[World.setRow] using this
def FC.write{γ0 γ1:Gh}{w0:World}(ha:FC γ0 w0 γ w){w1:World}{g:Nat}(hg:w0.heap.size<=g)(Cd:γ.le γ1)(hs:w1.heap.size=w.heap.size)(h1:w1.os=w.os)(h2:w1.tape=w.tape)(h3:w1.output=w.output)
  (hk:∀b,b≠g->w1.heap[b]?=w.heap[b]?/\γ1.A5 b=γ.A5 b):FC γ0 w0 γ1 w1:=by
 refine⟨ha.le.trans Cd,by rw[hs];exact ha.size,h1.trans ha.os,h2.trans ha.tape,h3.trans ha.output,λb hb hn=>?_⟩;.obtain⟨p,q⟩:=ha.GS b hb hn;obtain⟨p',q'⟩:=hk b (by omega);exact⟨p'.trans p,q'.trans q⟩
def Tw(hi:Dp γ h w){g id:Nat}{cs:List Aa}(hcs:h[id]?=some (.cells cs))(hg:γ.mu id=some g){us:Array Value}{e:TypeId}{fr:Nat×Nat}(hw:w.heap[g]?=some (.cells us e fr))(h1:∀u∈us.toList.take cs.length,u.oneCell'=true):
  Dp (γ.Br g us cs.length none) (h.set id .Ec) w/\FC γ w (γ.Br g us cs.length none) w:=by
 obtain⟨g',p,JS⟩:=hi.FV id _ hcs (by simp);rw[hg] at p;cases p;have uniq:∀Cw x,h[Cw]?=some x->x≠ .Ec->γ.mu Cw=some g->Cw=id:=λCw x hx aP hm=>by obtain⟨b',p,q⟩:=hi.FV Cw x hx aP;rw[hm] at p;cases p;rw[JS] at q;cases q;rfl
 have hne:∀o v,γ.DI g o=some v->False:=λo v hv=>by obtain⟨_,_,r⟩:=hi.DI g o v hv;rw[JS] at r;rcases r with r|⟨_,_,_,r,_⟩<;>cases r
 have Cd:γ.le (γ.Br g us cs.length none):=⟨λb o v hb=>by
  have:b≠g:=λhe=>by subst he;exact hne o v hb
  simp only[Gh.Br,if_neg this];exact hb,λ_ _ hm=>hm,λ_ _ hm=>hm⟩
 constructor
 .refine⟨λb o v hb=>?_,λCw y Gi hy=>?_,λCw Dz hc b hb=>?_,λCw es hc b hb=>?_,λCw b hb=>by simpa using hi.mu Cw b hb,λb x hx=>?_,λb n hb=>?_⟩;rotate_left 5
  .obtain⟨p,r⟩:=hi.sz b n hb;by_cases he:b=g;.subst he;exact⟨p,.inl (by simp[Gh.Br])⟩
   .exact⟨p,by simp only[Gh.Br,if_neg he];exact r⟩
  .by_cases he:b=g
   .subst he;simp only[Gh.Br,Bc] at hb⊢;split at hb;.rename_i hlt;exact⟨by rw[cell_of_row _ _ _ us e fr hw];exact hb,h1 v (AT (i:=o) (by rw[A6 hlt];simpa using hb)),.inl (by simp)⟩
    .cases hb
   .simp only[Gh.Br,if_neg he] at hb⊢;exact hi.DI b o v hb
  .by_cases he:Cw=id;.subst he;rw[AD (hi.mu _ _ hg)] at Gi;cases Gi;exact absurd rfl hy
   .rw[AB (λx=>he x.symm)] at Gi;obtain⟨b,p,q⟩:=hi.FV Cw y Gi hy;have:b≠g:=λhx=>by subst hx;exact he (uniq Cw y Gi hy p)
    exact⟨b,p,by simp only[Gh.Br,if_neg this];exact q⟩
  .by_cases he:Cw=id;.subst he;rw[AD (hi.mu _ _ hg)] at hc;cases hc
   .rw[AB (λx=>he x.symm)] at hc;obtain⟨By,e',RX,p,pf,q,r⟩:=hi.cells Cw Dz hc b hb;exact⟨By,e',RX,p,pf,Ai.mono Cd _ _ q,r⟩
  .by_cases he:Cw=id;.subst he;rw[AD (hi.mu _ _ hg)] at hc;cases hc
   .rw[AB (λx=>he x.symm)] at hc;obtain⟨By,e',p,q⟩:=hi.map Cw es hc b hb;exact⟨By,e',p,q.mono Cd⟩
  .by_cases he:b=g;.subst he;exact hi.A5 b _ JS
   .simp only[Gh.Br,if_neg he] at hx;exact hi.A5 b x hx
 .refine⟨Cd,Ap _,rfl,rfl,rfl,λb hb hn=>⟨rfl,?_⟩⟩;have:b≠g:=λhe=>by subst he;exact hn id JS
  simp only[Gh.Br,if_neg this]
end
end Go.Am
end
section
namespace Go.Am
def BV.Gu(C:CB)(run:IT->Ab->Option Ep)(U:Av)(h:Ab)(U':Av)(h':Ab):BV->Prop
 | .pure ws=>U'=U.BW ws/\h'=h
 | .op p args dst A5 dem=>∃v,AA p args=some v/\U'=(U.BA dem).put dst (if A5 then .A5 v else .val v)/\h'=h
 | .box n v d=>v.cells.length=n/\U'=U.set d (.box 0 v.cells [])/\h'=h
 | .closure fn a b fz d=>U'=(U.BW (fz.map λ(s,cs)=>(s,.val (.A9 cs)))).set d (.val (.func fn a b))/\h'=h
 | .Ge s off n v A5 dem ver cells owned=>v.cells.length=n/\U'=(U.BA dem).set s (.box (ver+1) (Lr cells off n v.cells) (Jg owned off n A5))/\h'=h
 | .load n p dst=>∃v,Ck h n p=some v/\U'=U.put dst (.val v)/\h'=h
 | .store n p v=>Dy h n p v=some h'/\U'=U
 | .alloc n v dst=>v.cells.length=n/\h'=h++[.cells v.cells]/\U'=U.put dst (.val (.ptr (some (h.length,0))))
 | .call f args dst=>∃r,run (AH C f args) h=some (.ret,[r],h')/\U'=U.put dst (if C.Et f then .A5 r else .val r)
 | .B7 g args dst=>∃f args' r,E4 g args=some (f,args')/\run (AH C f args') h=some (.ret,[r],h')/\U'=U.put dst (.val r)
 | .AW f args dst=>args.all Aa.FW=true/\∃r h1,run (AH C f args) []=some (.ret,[r],h1)/\r.FW=true/\U'=U.put dst (.val r)/\h'=h
 | .GO dst=>h'=h++[.map []]/\U'=U.put dst (.val (.map (some h.length)))
 | .Dt m k v=>MG h m k v=some h'/\U'=U
 | .make z b zero l c dst=>∃v,Lk h z b zero l c=some (h',v)/\U'=U.put dst (.val v)
 | .Eh z b s x dst dem=>∃v,JV h z b s x=some (h',v)/\U'=(U.BA dem).put dst (.val v)
 | .Dm z b s x dst=>∃v,Fz h z b s x=some (h',v)/\U'=U.put dst (.val v)
 | .CM z b s x dst dem=>∃v,MI h z b s x=some v/\U'=(U.BA dem).put dst (.A5 v)/\h'=h
 | .B8 s dst=>∃v,EN h s=some (h',v)/\U'=U.put dst (.val v)
 | .Oa s dst=>∃v u,IB h s=some (h',v)/\AA .Oa [v]=some u/\U'=U.put dst (.val u)
 | .mem o args dst=>∃v,Je o h args=some (h',v)/\U'=U.put dst (if o.gH then .undef else .val v)
 | .Fy z ok m k dst=>∃v,MH h z ok m k=some v/\U'=U.put dst (.val v)/\h'=h
def J4{n:Nat}{cs:List Aa}(h:cs.length=n):Lq n cs=cs:=by
 subst h;apply Pb;intro i;simp only[Lq,Cp,List.getD];by_cases hi:i<cs.length;.simp[List.getElem?_range hi,Ax hi]
 .simp[hi]
def MM{C:CB}{run:IT->Ab->Option Ep}{U:Av}{K:Av->IT}{h:Ab}{R:Ep}{r:BV}
  (hr:IT.step (AH C) run (r.Gg C U K) h=some R):∃U' h',r.Gu C run U h U' h'/\IT.step (AH C) run (K U') h'=some R:=by
 cases r with
 |pure ws=>exact⟨_,_,⟨rfl,rfl⟩,hr⟩
 |op p args dst A5 dem=>
  simp only[BV.Gg,IT.step] at hr;split at hr;.rename_i v hv;exact⟨_,_,⟨v,hv,rfl,rfl⟩,hr⟩
  .cases hr
 |box n v d=>
  simp only[BV.Gg,IT.step] at hr;split at hr;.rename_i hn;rw[J4 hn] at hr;exact⟨_,_,⟨hn,rfl,rfl⟩,hr⟩
  .cases hr
 |closure fn a b fz d=>exact⟨_,_,⟨rfl,rfl⟩,hr⟩
 |Ge s off n v A5 dem ver cells owned=>
  simp only[BV.Gg,IT.step] at hr;split at hr;.rename_i hn;rw[J4 hn] at hr;exact⟨_,_,⟨hn,rfl,rfl⟩,hr⟩
  .cases hr
 |load n p dst=>
  simp only[BV.Gg,IT.step] at hr;split at hr;.rename_i v hv;exact⟨_,_,⟨v,hv,rfl,rfl⟩,hr⟩
  .cases hr
 |store n p v=>
  simp only[BV.Gg,IT.step] at hr;split at hr;.rename_i h1 hv;exact⟨_,_,⟨hv,rfl⟩,hr⟩
  .cases hr
 |alloc n v dst=>
  simp only[BV.Gg,IT.step,Lj] at hr;by_cases hn:v.cells.length=n;.rw[if_pos hn] at hr;exact⟨_,_,⟨hn,rfl,rfl⟩,hr⟩
  .rw[if_neg hn] at hr;cases hr
 |call f args dst=>
  simp only[BV.Gg,IT.step] at hr;split at hr;.rename_i r h1 hv;exact⟨_,_,⟨r,hv,rfl⟩,hr⟩
  .cases hr
 |B7 g args dst=>
  simp only[BV.Gg,IT.step] at hr;split at hr
  .rename_i f a' ht;split at hr;.rename_i r h1 hv;exact⟨_,_,⟨f,a',r,ht,hv,rfl⟩,hr⟩
   .cases hr
  .cases hr
 |AW f args dst=>
  simp only[BV.Gg,IT.step] at hr;split at hr
  .rename_i FX;split at hr
   .rename_i r h1 hv;split at hr;.rename_i SZ;exact⟨_,_,⟨FX,r,h1,hv,SZ,rfl,rfl⟩,hr⟩
    .cases hr
   .cases hr
  .cases hr
 |GO dst=>exact⟨_,_,⟨rfl,rfl⟩,hr⟩
 |Dt m k v=>
  simp only[BV.Gg,IT.step] at hr;split at hr;.rename_i h1 hv;exact⟨_,_,⟨hv,rfl⟩,hr⟩
  .cases hr
 |Fy z ok m k dst=>
  simp only[BV.Gg,IT.step] at hr;split at hr;.rename_i v hv;exact⟨_,_,⟨v,hv,rfl,rfl⟩,hr⟩
  .cases hr
 |make z b zero l c dst=>
  simp only[BV.Gg,IT.step] at hr;split at hr;.rename_i h1 v hv;exact⟨_,_,⟨v,hv,rfl⟩,hr⟩
  .cases hr
 |Eh z b s x dst dem=>
  simp only[BV.Gg,IT.step] at hr;split at hr;.rename_i h1 v hv;exact⟨_,_,⟨v,hv,rfl⟩,hr⟩
  .cases hr
 |Dm z b s x dst=>
  simp only[BV.Gg,IT.step] at hr;split at hr;.rename_i h1 v hv;exact⟨_,_,⟨v,hv,rfl⟩,hr⟩
  .cases hr
 |CM z b s x dst dem=>
  simp only[BV.Gg,IT.step] at hr;split at hr;.rename_i v hv;exact⟨_,_,⟨v,hv,rfl,rfl⟩,hr⟩
  .cases hr
 |B8 s dst=>
  simp only[BV.Gg,IT.step] at hr;split at hr;.rename_i h1 v hv;exact⟨_,_,⟨v,hv,rfl⟩,hr⟩
  .cases hr
 |Oa s dst=>
  simp only[BV.Gg,IT.step] at hr;split at hr
  .rename_i h1 v hv;split at hr;.rename_i u hu;exact⟨_,_,⟨v,u,hv,hu,rfl⟩,hr⟩
   .cases hr
  .cases hr
 |mem o args dst=>
  simp only[BV.Gg,IT.step] at hr;split at hr;.rename_i h1 v hv;exact⟨_,_,⟨v,hv,rfl⟩,hr⟩
  .cases hr
structure Bk(C:CB)(γ0:Gh)(w0:World)(γ:Gh)(β:Nat->Nat)(U:Av)(h:Ab)(a:Act)(w:World):Prop where
 BI:Dp γ h w
 fr:FR γ β w0.heap.size U a.tmps w
 BE:FC γ0 w0 γ w
 defers:a.defers=[]
 C8:∀g cs,C.C8 g=some cs->Bb γ cs g 0
def Jl{γ:Gh}{v:Value}{a:Aa}(h:Ho v=some a):Au γ a v/\v.oneCell'=true:=by
 unfold Ho at h;split at h;case h_7=>
  rename_i fn f c;split at h;.rename_i hs;cases h;have e1:f=#[]:=DR hs.1;have e2:c=#[]:=DR hs.2;subst e1;subst e2;exact⟨⟨#[],#[],rfl,rfl,rfl⟩,rfl⟩
  .cases h
 all_goals first
  |(cases h;exact⟨rfl,rfl⟩)
  |cases h
def Gj{γ:Gh}:∀{vs:List Value} {as:List Aa},Fv vs=some as->Ai γ as vs/\∀v∈vs,v.oneCell'=true
 |[],as,h=>by cases h;exact⟨rfl,by simp⟩
 |v::vs,as,h=>by
  unfold Fv at h;split at h;.rename_i a jb h1 h2;cases h;obtain⟨p,q⟩:=Jl (γ:=γ) h1;obtain⟨p',q'⟩:=Gj (γ:=γ) h2;exact⟨⟨v,vs,rfl,p,p'⟩,λx hx=>(AP.1 hx).elim (λe=>by rw[e];exact q) (q' x)⟩
  .cases h
def Cm{γ:Gh}{v:Value}{a:Aa}(h:EX v=some a):Au γ a v:=by
 unfold EX at h;split at h
 .rename_i cs;cases hs:Fv cs.toList with
  |none=>rw[hs] at h;cases h
  |some as=>rw[hs] at h;cases h;obtain⟨p,q⟩:=Gj (γ:=γ) hs;exact⟨cs,rfl,p,q⟩
 .exact(Jl h).1
section
variable{C:CB}{γ0 γ:Gh}{w0 w:World}{β:Nat->Nat}{U:Av}{h:Ab}{a:Act}
def IF(hr:Bk C γ0 w0 γ β U h a w){x:Operand}{sl:BQ}(hx:BK C U x=some sl)(hn:∀s,x≠ .tmp s):∃s,Fg γ β w0.heap.size w s sl (a.eval x):=by
 unfold BK at hx;split at hx;.exact absurd rfl (hn _)
 .cases hx;exact⟨0,rfl⟩
 .cases hx;exact⟨0,rfl,.inl (.inl rfl)⟩
 .rename_i v _ _;cases hc:EX v with
  |none=>rw[hc] at hx;cases hx
  |some u=>rw[hc] at hx;cases hx;exact⟨0,Cm hc⟩
 .rename_i g;cases hc:C.C8 g with
  |none=>rw[hc] at hx;cases hx
  |some cs=>rw[hc] at hx;cases hx;exact⟨0,g,0,rfl,hr.C8 g cs hc⟩
 .cases hx;exact⟨0,#[],#[],rfl,rfl,rfl⟩
def Jm(hr:Bk C γ0 w0 γ β U h a w)(s:Nat):Fg γ β w0.heap.size w s (U.at s) (a.eval (.tmp s)):=hr.fr.DG s
def CJ(hr:Bk C γ0 w0 γ β U h a w){x:Operand}{sl:BQ}(hx:BK C U x=some sl):∃s,Fg γ β w0.heap.size w s sl (a.eval x)/\∀t,x= .tmp t->s=t:=by
 cases x with
 |tmp t=>cases hx;exact⟨t,Jm hr t,λ_ h=>by cases h;rfl⟩
 |const v=>obtain⟨s,h1⟩:=IF hr hx (by intro s h;cases h);exact⟨s,h1,λ_ h=>by cases h⟩
 |global g=>obtain⟨s,h1⟩:=IF hr hx (by intro s h;cases h);exact⟨s,h1,λ_ h=>by cases h⟩
 |func f=>obtain⟨s,h1⟩:=IF hr hx (by intro s h;cases h);exact⟨s,h1,λ_ h=>by cases h⟩
def Gv{B s:Nat}{sl:BQ}{v:Value}{u:Aa}(hs:Fg γ β B w s sl v)(hv:sl.Da=some u):Au γ u v:=by
 cases sl<;>simp[BQ.Da] at hv;.subst hv;exact hs
 .subst hv;exact hs
 .subst hv;exact hs.1
def CQ(hr:Bk C γ0 w0 γ β U h a w){x:Operand}{u:Aa}(hx:B2 C U x=some u):Au γ u (a.eval x):=by
 unfold B2 at hx;cases hs:BK C U x with
 |none=>rw[hs] at hx;cases hx
 |some sl=>rw[hs] at hx;obtain⟨s,h1,_⟩:=CJ hr hs;exact Gv h1 hx
def BF(hr:Bk C γ0 w0 γ β U h a w):∀{xs:List Operand} {us:List Aa},Ak C U xs=some us->Ai γ us (xs.map a.eval)
 |[],us,hx=>by cases hx;rfl
 |x::xs,us,hx=>by
  unfold Ak at hx;split at hx;.rename_i u By h1 h2;cases hx;exact⟨_,_,rfl,CQ hr h1,BF hr h2⟩
  .cases hx
def FR.put{B:Nat}{tmps:Array Value}(hf:FR γ β B U tmps w){d:Nat}{x:BQ}{v:Value}(hx:Fg γ β B w d x v):FR γ β B (U.set d x) (tmps.setIfInBounds d v) w:=by
 refine⟨by simp[hf.size],λs=>?_⟩;have hs:=hf.DG s;by_cases he:s=d
 .subst he;by_cases hl:s<U.length
  .have gP:s<tmps.size:=by rw[<-hf.size];exact hl
   simpa[Av.at,List.getD,hl,gP,Array.getD] using hx
  .have gP:¬s<tmps.size:=by rw[<-hf.size];exact hl
   simpa[Av.at,List.getD,hl,gP,Array.getD] using hs
 .have h1:Av.at (U.set d x) s=U.at s:=by simp[Av.at,List.getD,AB (λe=>he e.symm)]
  have h2:(tmps.setIfInBounds d v).getD s undef=tmps.getD s undef:=by simp[C6,Pn (λe=>he e.symm)]
  rw[h1,h2];exact hs
def FR.Od{B:Nat}{tmps:Array Value}(hf:FR γ β B U tmps w){d:Nat}{x:BQ}(hx:Fg γ β B w d x (tmps.getD d undef)):FR γ β B (U.set d x) tmps w:=by
 refine⟨by simp[hf.size],λs=>?_⟩;have hs:=hf.DG s;by_cases he:s=d
 .subst he;by_cases hl:s<U.length;.simpa[Av.at,List.getD,hl] using hx
  .simpa[Av.at,List.getD,hl] using hs
 .have h1:Av.at (U.set d x) s=U.at s:=by simp[Av.at,List.getD,AB (λe=>he e.symm)]
  rw[h1];exact hs
def Bk.put(hr:Bk C γ0 w0 γ β U h a w){d:Option Nat}{x:BQ}{v:Value}(hx:∀s,d=some s->Fg γ β w0.heap.size w s x v):Bk C γ0 w0 γ β (U.put d x) h (a.put d v) w:=by
 cases d with
 |none=>exact hr
 |some d=>exact⟨hr.BI,hr.fr.put (hx d rfl),hr.BE,hr.defers,hr.C8⟩
def Bk.Od(hr:Bk C γ0 w0 γ β U h a w){d:Nat}{x:BQ}(hx:Fg γ β w0.heap.size w d x (a.tmps.getD d undef)):Bk C γ0 w0 γ β (U.set d x) h a w:=
 ⟨hr.BI,hr.fr.Od hx,hr.BE,hr.defers,hr.C8⟩
def Bk.drop(hr:Bk C γ0 w0 γ β U h a w)(ds:List Nat):Bk C γ0 w0 γ β (U.drop ds) h a w:=by
 cases ds with
 |nil=>exact hr
 |cons d ds=>
  refine⟨hr.BI,⟨by simp[Av.drop,hr.fr.size],λs=>?_⟩,hr.BE,hr.defers,hr.C8⟩;have hs:=hr.fr.DG s;have e:(Av.drop U (d::ds)).at s=match U.at s with| .Cc t o=>if(d::ds).contains t then .undef else .Cc t o|x=>x:=by
   simp only[Av.drop,Av.at,List.getD,Cp];cases hg:U[s]? with
   |none=>rfl
   |some x=>cases x<;>rfl
  rw[e];cases hx:U.at s with
  |Cc t o=>
   rw[hx] at hs;simp only
   split;.trivial
   .exact hs
  |_=>rw[hx] at hs;exact hs
def Bk.DX(hr:Bk C γ0 w0 γ β U h a w){γ':Gh}{h':Ab}{w':World}(hi:Dp γ' h' w')(ha:FC γ w γ' w'):Bk C γ0 w0 γ' β U h' a w':=
 ⟨hi,hr.fr.kept (RW.aN hr.BI ha),hr.BE.trans ha,hr.defers,λg cs hg=>Bb.mono ha.le _ _ _ (hr.C8 g cs hg)⟩
def D3{P:Program}{o:Oper}{v:Value}{w':World}{next:Act->World->Prop}{Q:Exit->Act->World->Prop}(he:(execOp a.eval o).run P w= .ok (.value v) w')(hn:next (a.put o.dst v) w'):o.wp P a w next Q:=by unfold Oper.wp;rw[he];exact hn
def Px{P:Program}{o:Oper}{w':World}{next:Act->World->Prop}{Q:Exit->Act->World->Prop}(he:(execOp a.eval o).run P w= .ok .skip w')(hn:next (a.put o.dst undef) w'):o.wp P a w next Q:=by unfold Oper.wp;rw[he];exact hn
end
end Go.Am
end
section
namespace Go.Am
def Gh.Cv(γ:Gh)(g:Nat)(x:EL):Gh:={γ with A5:=λb=>if b=g then some x else γ.A5 b}
section
variable{C:CB}{γ0 γ:Gh}{w0 w:World}{β:Nat->Nat}{U:Av}{h:Ab}{a:Act}
def Dc(γ:Gh)(g:Nat)(x:EL):γ.le (γ.Cv g x):=⟨λ_ _ _ h=>h,λ_ _ h=>h,λ_ _ h=>h⟩
def Dp.Cv(hi:Dp γ h w){g s s' st:Nat}{c c':Option Nat}(hg:γ.A5 g=some (.tail s c st)):Dp (γ.Cv g (.tail s' c' st)) h w:=by
 refine⟨λb o v hb=>?_,λid y Gi hy=>?_,λid cs hc b hb=>?_,λid es hc b hb=>?_,hi.mu,λb x hx=>?_,λb n hb=>?_⟩;rotate_left 5
 .obtain⟨p,r⟩:=hi.sz b n hb;have:b≠g:=λhe=>by subst he;rw[hg] at r;rcases r with r|⟨_,r⟩<;>cases r
  exact⟨p,by simp only[Gh.Cv,if_neg this];exact r⟩
 .obtain⟨p,q,r⟩:=hi.DI b o v hb;refine⟨p,q,?_⟩;by_cases he:b=g
  .subst he;rw[hg] at r;rcases r with r|⟨_,_,_,r,hl⟩
   .cases r
   .cases r;exact .inr ⟨s',c',st,by simp[Gh.Cv],hl⟩
  .simpa only[Gh.Cv,if_neg he] using r
 .obtain⟨b,p,q⟩:=hi.FV id y Gi hy;have:b≠g:=λhe=>by subst he;rw[hg] at q;cases q
  exact⟨b,p,by simp only[Gh.Cv,if_neg this];exact q⟩
 .obtain⟨us,e,fr,p,pf,q,r⟩:=hi.cells id cs hc b hb;exact⟨us,e,fr,p,pf,Ai.mono (Dc γ g _) _ _ q,r⟩
 .obtain⟨us,e,p,q⟩:=hi.map id es hc b hb;exact⟨us,e,p,q.mono (Dc γ g _)⟩
 .by_cases he:b=g;.subst he;exact hi.A5 b _ hg
  .simp only[Gh.Cv,if_neg he] at hx;exact hi.A5 b x hx
def D2.Cv{B:Nat}{s s2 st:Nat}{c c2:Option Nat}{v:Value}{u:Aa}{x:EL}{g:Nat}(hg:γ.A5 g=some (.tail s c st))(ho:D2 γ B w s2 c2 v u)(hne:s2≠s\/c2≠c):D2 (γ.Cv g x) B w s2 c2 v u:=by
 rcases ho with ho|⟨g2,n,cap,us,e,z,Ac,h1,h2,h3,h4⟩
 .exact .inl ho
 .have:g2≠g:=λhe=>by subst he;rw[hg] at h3;cases h3;rcases hne with hne|hne<;>exact hne rfl
  exact .inr ⟨g2,n,cap,us,e,z,Ac,h1,h2,by simp only[Gh.Cv,if_neg this];exact h3,h4⟩
def FR.Cv{B:Nat}{tmps:Array Value}(hf:FR γ β B U tmps w){g s st:Nat}{c:Option Nat}{x:EL}(hg:γ.A5 g=some (.tail s c st))
  (h1:c=none->∀v,U.at s≠ .A5 v) (h2:∀o,c=some o->∀ver cs ow,U.at s= .box ver cs ow->o∉ow):FR (γ.Cv g x) β B U tmps w:=by
 refine⟨hf.size,λs2=>?_⟩;have hs:=hf.DG s2;cases hx:U.at s2 with
 |undef=>trivial
 |skip=>rw[hx] at hs;exact hs
 |val u=>rw[hx] at hs;exact Au.mono (Dc γ g x) _ _ hs
 |Hm b=>rw[hx] at hs;exact hs
 |A5 u=>
  rw[hx] at hs;refine⟨Au.mono (Dc γ g x) _ _ hs.1,hs.2.Cv hg ?_⟩;by_cases he:s2=s
  .subst he;cases c with
   |none=>exact absurd hx (h1 rfl u)
   |some o=>exact .inr (by simp)
  .exact .inl he
 |box ver cs ow=>
  rw[hx] at hs;obtain⟨p1,p2,p3,us,e,p4,p5,p6,p7⟩:=hs;have hb:β s2≠g:=λhe=>by rw[he,hg] at p2;cases p2
  refine⟨p1,by simp only[Gh.Cv,if_neg hb];exact p2,p3,us,e,p4,Ai.mono (Dc γ g x) _ _ p5,p6,λo ho=>?_⟩;obtain⟨u,v,q1,q2,q3⟩:=p7 o ho;refine⟨u,v,q1,q2,q3.Cv hg ?_⟩;by_cases he:s2=s
  .subst he;cases c with
   |none=>exact .inr (by simp)
   |some o'=>refine .inr λhe=>?_;cases he;exact h2 o rfl ver cs ow hx ho
  .exact .inl he
 |Cc s' o=>rw[hx] at hs;exact hs
def Bk.Cv(hr:Bk C γ0 w0 γ β U h a w){g s st s':Nat}{c c':Option Nat}(hg:γ.A5 g=some (.tail s c st))(hB:w0.heap.size<=g)
  (h1:c=none->∀v,U.at s≠ .A5 v) (h2:∀o,c=some o->∀ver cs ow,U.at s= .box ver cs ow->o∉ow):Bk C γ0 w0 (γ.Cv g (.tail s' c' st)) β U h a w:=by
 refine⟨hr.BI.Cv hg,hr.fr.Cv hg h1 h2,?_,hr.defers,λx cs hx=>Bb.mono (Dc γ g _) _ _ _ (hr.C8 x cs hx)⟩;refine⟨hr.BE.le.trans (Dc γ g _),hr.BE.size,hr.BE.os,hr.BE.tape,hr.BE.output,λb hb hn=>?_⟩;.obtain⟨p,q⟩:=hr.BE.GS b hb hn;exact⟨p,by simp only[Gh.Cv,if_neg (show b≠g by omega)];exact q⟩
def Av.Cn{s:Nat}{x:BQ}(hs:s<U.length):Av.at (U.set s x) s=x:=by simp[Av.at,List.getD,hs]
def Av.CC{s t:Nat}{x:BQ}(hs:s≠t):Av.at (U.set s x) t=U.at t:=by simp[Av.at,List.getD,AB hs]
def Av.Hu{s:Nat}(hs:U.at s≠ .undef):s<U.length:=by
 rcases CD s U.length with h|h
 .exact h
 .exact absurd (by simp[Av.at,List.getD,Dj h]) hs
def Bk.take(hr:Bk C γ0 w0 γ β U h a w){s:Nat}{v:Aa}(hs:U.at s= .A5 v)(s':Nat)(c':Option Nat):
  ∃γ',γ.le γ'/\Bk C γ0 w0 γ' β (U.set s (.val v)) h a w/\Au γ' v (a.tmps.getD s undef)/\D2 γ' w0.heap.size w s' c' (a.tmps.getD s undef) v:=by
 have h0:=hr.fr.DG s;rw[hs] at h0;obtain⟨hv,ho⟩:=h0;have EH:Bk C γ0 w0 γ β (U.set s (.val v)) h a w:=hr.Od hv;have hl:s<U.length:=Av.Hu (by rw[hs];simp);rcases ho with ho|⟨g,n,cap,us,e,z,Ac,h1,h2,h3,h4,h5⟩
 .exact⟨γ,.refl _,EH,hv,.inl ho⟩
 .refine⟨γ.Cv g (.tail s' c' (n*z)),Dc _ _ _,EH.Cv h3 h4 (λ_ u=>?_) (λo ho=>by cases ho),Au.mono (Dc _ _ _) _ _ hv,.inr ⟨g,n,cap,us,e,z,Ac,h1,h2,by simp[Gh.Cv],h4,h5⟩⟩;rw[Av.Cn hl];simp
def Nr{B s d:Nat}{sl qL:BQ}{v:Value}(hs:Fg γ β B w s sl v)(hc:DL sl=some qL):Fg γ β B w d qL v:=by
 cases sl<;>simp[DL] at hc;.subst hc;exact hs
 .subst hc;exact hs
 .subst hc;exact hs.1
 .subst hc;exact hs
def GW{ws:List (Nat×BQ)}(h:∀p∈ws,∀cs ow,p.2≠ .box 0 cs ow):(BV.pure ws).news=[]:=by
 simp only[BV.news,List.filterMap_eq_nil_iff];rintro⟨s,x⟩ hp;have:=h _ hp;cases x with
 |box ver cs ow=>
  cases ver with
  |zero=>exact absurd rfl (this cs ow)
  |succ n=>rfl
 |_=>rfl
def Jn{v:Value}{sl:BQ}(hs:BK C U (.const v)=some sl):(∀B d,Fg γ β B w d sl v)/\∀ver cs ow,sl≠ .box ver cs ow:=by
 unfold BK at hs;split at hs;.rename_i EI;cases EI
 .rename_i EI;cases EI;cases hs;exact⟨λ_ _=>rfl,λ_ _ _ h=>by cases h⟩
 .rename_i EI;cases EI;cases hs;exact⟨λ_ _=>⟨rfl,.inl (.inl rfl)⟩,λ_ _ _ h=>by cases h⟩
 .rename_i EI;cases EI;cases hc:EX v with
  |none=>rw[hc] at hs;cases hs
  |some u=>rw[hc] at hs;cases hs;exact⟨λ_ _=>Cm hc,λ_ _ _ h=>by cases h⟩
 .rename_i EI;cases EI
 .rename_i EI;cases EI
def C4{s:Nat}{sl:BQ}(hs:BK C U (.tmp s)=some sl):U.at s=sl:=D7 hs
def Py{x:Operand}{v:Aa}(hs:BK C U x=some (.A5 v))(hn:∀c,x≠ .const c):∃s,x= .tmp s/\U.at s= .A5 v:=by
 cases x with
 |tmp s=>exact⟨s,rfl,C4 hs⟩
 |const c=>exact absurd rfl (hn c)
 |global g=>have Oe:(C.C8 g).map (λcs=>BQ.val (Aa.A9 cs))=some (.A5 v):=hs;cases hc:C.C8 g<;>rw[hc] at Oe<;>cases Oe
 |func f=>cases hs
def Jo{x:Operand}{d:Nat}{take:Bool}{r:BV}{run:IT->Ab->Option Ep}{U':Av}{h':Ab}(hm:EO C U x d take=some r)(hd:r.Gu C run (U.drop r.news) h U' h')
  (hr:Bk C γ0 w0 γ β U h a w):∃γ',Bk C γ0 w0 γ' β U' h' (a.put (some d) (a.eval x)) w:=by
 unfold EO at hm;split at hm;.rename_i s _ _ _ hs;cases hm;rw[GW (by simp)] at hd;obtain⟨rfl,rfl⟩:=hd;refine⟨γ,hr.put (d:=some d) λt ht=>?_⟩;have h0:=Jm hr s;rw[C4 hs] at h0;exact h0.1
 .rename_i v sl hs;cases hm;obtain⟨p,q⟩:=Jn (γ:=γ) (β:=β) (w:=w) hs;rw[GW (by simpa using λcs ow=>q 0 cs ow)] at hd;obtain⟨rfl,rfl⟩:=hd;exact⟨γ,hr.put (d:=some d) λt _=>p _ t⟩
 .rename_i v hnc hs;split at hm;.cases hm;obtain⟨s,rfl,ZB⟩:=Py hs (λc hc=>hnc c hc);rw[GW (by simp[Jf])] at hd;obtain⟨rfl,rfl⟩:=hd;obtain⟨γ',Cd,DC,Ih,Vn⟩:=hr.take ZB d none;exact⟨γ',DC.put (d:=some d) λt ht=>by cases ht;exact⟨Ih,Vn⟩⟩
  .simp only[DL,A3] at hm;cases hm;rw[GW (by simp)] at hd;obtain⟨rfl,rfl⟩:=hd;obtain⟨s,h1,_⟩:=CJ hr hs;exact⟨γ,hr.put (d:=some d) λt ht=>h1.1⟩
 .rename_i sl _ _ _ hs;cases hc:DL sl with
  |none=>rw[hc] at hm;cases hm
  |some qL=>
   rw[hc] at hm;cases hm;have Vv:∀cs ow,qL≠ .box 0 cs ow:=by intro cs ow he;subst he;cases sl<;>simp[DL] at hc
   rw[GW (by simpa using Vv)] at hd;obtain⟨rfl,rfl⟩:=hd;obtain⟨s,h1,_⟩:=CJ hr hs;exact⟨γ,hr.put (d:=some d) λt ht=>Nr h1 hc⟩
 .cases hm
end
end Go.Am
end
section
namespace Go.Am
open Go
def Ly{s:Sem Value}{v:Value}(h:H0 s=some v):s= .pure v:=by cases s<;>simp[H0] at h;subst h;rfl
section
variable{P:Program}{γ:Gh}{w:World}
def Of{op:BinOp}{k l:IntKind}{x y:Int}{u:Aa}(t:TypeId)(ox oy:Operand)(h:QB op k x l y=some u):
  ∃v,(do eqGuard op t ox oy (.int k x) (.int l y);binOp op t (.int k x) (.int l y):Sem Value).run P w= .ok v w/\Au γ u v:=by
 unfold QB at h;cases hs:H0 (binOp op 0 (.int k x) (.int l y)) with
 |none=>rw[hs] at h;cases h
 |some v=>
  rw[hs] at h;have e1:=Ly hs;have e2:binOp op t (.int k x) (.int l y)= .pure v:=by rw[<-e1];cases op<;>rfl
  have e3:eqGuard op t ox oy (.int k x) (.int l y)=pure ():=by cases op<;>rfl
  refine⟨v,by rw[e3,e2];rfl,?_⟩;simp only[Bx] at h;split at h<;>cases h<;>rfl
def Ns(l:List UInt8):(ByteArray.mk ⟨l⟩).toList=l:=ByteArray.toList_mk l
def Og{op:BinOp}{x y:Ag}{u:Aa}(t:TypeId)(ox oy:Operand)(h:QC op x y=some u):
  ∃v,(do eqGuard op t ox oy (.string ⟨⟨x⟩⟩) (.string ⟨⟨y⟩⟩);binOp op t (.string ⟨⟨x⟩⟩) (.string ⟨⟨y⟩⟩):Sem Value).run P w= .ok v w/\Au γ u v:=by
 have e3:eqGuard op t ox oy (.string ⟨⟨x⟩⟩) (.string ⟨⟨y⟩⟩)=pure ():=by cases op<;>rfl
 have e2:binOp op t (.string ⟨⟨x⟩⟩) (.string ⟨⟨y⟩⟩)=Op.stringOp op ⟨⟨x⟩⟩ ⟨⟨y⟩⟩:=by cases op<;>rfl
 rw[e3,e2];unfold QC at h;cases op<;>simp only at h<;>first
  |cases h;done
  |(simp only[Op.stringOp,Ns];cases h;exact⟨_,rfl,rfl⟩)
  | (split at h
     . rename_i Cd
       cases h
       have hc : ¬ ((((ByteArray.mk ⟨x⟩).size + (ByteArray.mk ⟨y⟩).size : Nat) : Int) > IntKind.i64.max) := by
         have e1 : (ByteArray.mk ⟨x⟩).size = x.length := rfl
         have e2 : (ByteArray.mk ⟨y⟩).size = y.length := rfl
         rw [e1, e2]
         have : IntKind.i64.max = 9223372036854775807 := by decide
         rw [this]
         omega
       simp only [Op.stringOp, if_neg hc]
       refine ⟨_, rfl, ?_⟩
       show Value.string _ = Value.string _
       first
         | (congr 1; done)
         | (congr 1; apply ByteArray.ext; simp)
     . cases h)
def Pz{t:TypeId}(h:Cg P t=some none):(isAgg t).run P w= .ok false w:=by
 unfold Cg at h;split at h;.cases hs:Az P t<;>rw[hs] at h<;>cases h
 .cases hs:Az P t<;>rw[hs] at h<;>cases h
 .rename_i d h1 h2 hu;simp only[isAgg,Sem.run_bind,run_underlying hu,Result.andThen_ok];rfl
 .cases h
def IG{t:TypeId}{n:Nat}(h:Cg P t=some (some n)):(isAgg t).run P w= .ok true w/\Az P t=some n:=by
 unfold Cg at h;split at h
 .rename_i fs hu;cases hs:Az P t with
  |none=>rw[hs] at h;cases h
  |some m=>rw[hs] at h;cases h;exact⟨by simp[isAgg,run_underlying hu],rfl⟩
 .rename_i fs _ hu;cases hs:Az P t with
  |none=>rw[hs] at h;cases h
  |some m=>rw[hs] at h;cases h;exact⟨by simp[isAgg,run_underlying hu],rfl⟩
 .cases h
 .cases h
def BC{t:TypeId}{n:Nat}(h:Az P t=some n):(sizeOf t).run P w= .ok n w:=by
 unfold Az at h;cases hi:P.info? t with
 |none=>rw[hi] at h;cases h
 |some i=>rw[hi] at h;cases h;simp[sizeOf,typeInfo,hi]
def Oh{t:TypeId}{sh:Option Nat}{cs:List Aa}{us:Array Value}{off:Nat}{u:Aa}(Ph:Cg P t=some sh)(hr:Ai γ cs us.toList)(h1:∀v∈us.toList,v.oneCell'=true)
  (hp:Cj cs off sh=some u):∃v,(part t us off).run P w= .ok v w/\Au γ u v:=by
 cases sh with
 |none=>
  replace hp:cs[off]?=some u:=hp;obtain⟨v,hv,hrel⟩:=hr.get hp;refine⟨v,?_,hrel⟩;have Ih:us[off]?=some v:=by simpa using hv
  simp[part,Pz Ph,Ih]
 |some n=>
  obtain⟨ha,hs⟩:=IG (w:=w) Ph;replace hp:(if off+n<=cs.length then some (Aa.agg ((cs.drop off).take n)) else none)=some u:=hp;split at hp
  .cases hp;refine⟨.agg (us.extract off (off+n)),by simp[part,ha,BC hs],us.extract off (off+n),rfl,?_,?_⟩;.have:=(hr.drop off).take n;simpa[GI,Dn] using this
   .intro v hv;refine h1 v ?_;rw[GI,Dn] at hv;exact Bu (AQ hv)
  .cases hp
end
end Go.Am
end
section
namespace Go.Am
open Go
def Tx{x y:Aa}{b:Bool}(h:GM .b x y=some b):∃p q,x= .bool p/\y= .bool q/\(p==q)=b:=by unfold GM at h;split at h<;>first|cases h;done|(rename_i he;cases he;done)|(cases h;exact⟨_,_,rfl,rfl,rfl⟩)
def Tz{x y:Aa}{b:Bool}(h:GM .i x y=some b):∃k p q,x= .int k p/\y= .int k q/\(p==q)=b:=by
 unfold GM at h;split at h;.rename_i he;cases he
 .split at h;.rename_i hk;subst hk;cases h;exact⟨_,_,_,rfl,rfl,rfl⟩
  .cases h
 .rename_i he;cases he
 .cases h
def TA{x y:Aa}{b:Bool}(h:GM .s x y=some b):∃p q,x= .str p/\y= .str q/\(p==q)=b:=by
 unfold GM at h;split at h;.rename_i he;cases he
 .rename_i he;cases he
 .cases h;exact⟨_,_,rfl,rfl,rfl⟩
 .cases h
def Hv:∀{ks aQ:List FK} {xs ys:List Aa} {b:Bool},BU (ks++aQ) xs ys=some b->
  ∃b1 b2,BU ks (xs.take ks.length) (ys.take ks.length)=some b1/\BU aQ (xs.drop ks.length) (ys.drop ks.length)=some b2/\b=(b1&&b2)
 |[],aQ,xs,ys,b,h=>⟨true,b,by simp[BU],by simpa using h,by simp⟩
 |k::ks,aQ,[],ys,b,h=>by cases ys<;>simp[BU] at h
 |k::ks,aQ,x::xs,[],b,h=>by simp[BU] at h
 |k::ks,aQ,x::xs,y::ys,b,h=>by
  simp only[Cz,BU] at h;split at h;.rename_i e es h1 h2;cases h;obtain⟨b1,b2,p,q,r⟩:=Hv h2;refine⟨e&&b1,b2,?_,by simpa using q,by rw[r,Bool.and_assoc]⟩;simp only[AF,Hk,BU,h1,p]
  .cases h
def Hw:∀{ks:List FK} {xs ys:List Aa} {b:Bool},BU ks xs ys=some b->xs.length=ks.length/\ys.length=ks.length
 |[],xs,ys,b,h=>by cases xs<;>cases ys<;>simp[BU] at h⊢
 |k::ks,xs,ys,b,h=>by
  cases xs<;>cases ys<;>simp[BU] at h;split at h;.rename_i h1 h2;obtain⟨p,q⟩:=Hw h2;simp[p,q]
  .cases h
section
variable{P:Program}{γ:Gh}{w:World}
def MN:∀{d:Nat} {t:TypeId} {ks:List FK},Hr P d t=some ks->Az P t=some ks.length
 |0,t,ks,h=>by cases h
 |d+1,t,ks,h=>by
  simp only[Hr] at h;split at h;.split at h<;>cases h;assumption
  .split at h<;>cases h;assumption
  .split at h<;>cases h;assumption
  .split at h
   .split at h;.rename_i hc;cases h;exact hc.1
    .cases h
   .cases h
  .cases h
def PB{ks:List FK}{k:FK}{t:TypeId}(h:(if Az P t=some 1 then some [k] else none)=some ks):ks=[k]:=by split at h<;>cases h;rfl
def CR{t:TypeId}{us:Array Value}{off:Nat}{v:Value}{d:TypeDesc}(hu:P.underlying t=some d)(h1:∀fs,d≠ .struct fs)(h2:∀n e,d≠ .array n e)(hv:us[off]?=some v):
  (part t us off).run P w= .ok v w:=by
 have ha:(isAgg t).run P w= .ok false w:=by simp only[isAgg,Sem.run_bind,run_underlying hu,Result.andThen_ok];cases d<;>first|rfl|exact absurd rfl (h1 _)|exact absurd rfl (h2 _ _)
 simp[part,ha,hv]
def Ej{l:List Aa}{off:Nat}{x:Aa}(h:(l.drop off).take 1=[x]):l[off]?=some x:=by have:=Bm (·[0]?) h;simpa using this
def LA{k:FK}{xs ys:List Aa}{b:Bool}(h:BU [k] xs ys=some b):∃x y,xs=[x]/\ys=[y]/\GM k x y=some b:=by
 cases xs<;>cases ys<;>simp[BU] at h;rename_i x xs y ys;cases xs<;>cases ys<;>simp[BU] at h;all_goals first
  | (split at h
     . rename_i e es h1 h2; cases h2; cases h; exact ⟨x, y, rfl, rfl, by simpa using h1⟩
     . cases h)
  |(split at h<;>simp_all)
mutual
def Oi:∀{d D:Nat},d<=D->∀{t:TypeId} {ks:List FK},Hr P d t=some ks->∀(us vs:Array Value) (cs ds:List Aa) (off:Nat) (b:Bool),Ai γ cs us.toList->Ai γ ds vs.toList->
  BU ks ((cs.drop off).take ks.length) ((ds.drop off).take ks.length)=some b->
  ∃x y,(part t us off).run P w= .ok x w/\(part t vs off).run P w= .ok y w/\(Op.equalIn D t x y).run P w= .ok b w
 |0,_,_,_,_,h=>by cases h
 |d+1,0,hd,_,_,_=>by omega
 |d+1,D+1,hd,t,ks,h=>by
  intro us vs cs ds off b hu hv he;have Fc:=MN h;simp only[Hr] at h;split at h;.rename_i MO;have:=PB h;subst this;obtain⟨x,y,e1,e2,e3⟩:=LA he;obtain⟨x',p1,p2⟩:=hu.get (Ej e1);obtain⟨y',q1,q2⟩:=hv.get (Ej e2);refine⟨x',y',CR MO (by simp) (by simp) (by simpa using p1),CR MO (by simp) (by simp) (by simpa using q1),?_⟩;obtain⟨x1,y1,rfl,rfl,e4⟩:=Tx e3;rw[p2,q2,run_equalIn_bool' w D t _ _ MO,<-e4]
  .rename_i kk MO;have:=PB h;subst this;obtain⟨x,y,e1,e2,e3⟩:=LA he;obtain⟨x',p1,p2⟩:=hu.get (Ej e1);obtain⟨y',q1,q2⟩:=hv.get (Ej e2);refine⟨x',y',CR MO (by simp) (by simp) (by simpa using p1),CR MO (by simp) (by simp) (by simpa using q1),?_⟩;obtain⟨k1,x1,y1,rfl,rfl,e4⟩:=Tz e3;rw[p2,q2,run_equalIn_int w D t _ _ _ _ MO,<-e4]
  .rename_i MO;have:=PB h;subst this;obtain⟨x,y,e1,e2,e3⟩:=LA he;obtain⟨x',p1,p2⟩:=hu.get (Ej e1);obtain⟨y',q1,q2⟩:=hv.get (Ej e2);refine⟨x',y',CR MO (by simp) (by simp) (by simpa using p1),CR MO (by simp) (by simp) (by simpa using q1),?_⟩;obtain⟨x1,y1,rfl,rfl,e4⟩:=TA e3;rw[p2,q2,run_equalIn_string w D t _ _ MO,Ns,Ns,<-e4]
  .rename_i fs MO;split at h
   .rename_i aQ rP;split at h
    .rename_i hc;cases h;have Ph:Cg P t=some (some ks.length):=by simp[Cg,MO,Fc]
     obtain⟨ha,hs⟩:=IG (w:=w) Ph;refine⟨.agg (us.extract off (off+ks.length)),.agg (vs.extract off (off+ks.length)),by simp[part,ha,BC hs],by simp[part,ha,BC hs],?_⟩;have rQ:P.underlying t=some (.struct (P.fieldsOf t)):=by simp[Program.fieldsOf,MO]
     rw[run_equalIn_struct w D t _ _ rQ hc.2];have hf:(P.fieldsOf t).toList=fs.toList:=by simp[Program.fieldsOf,MO]
     rw[hf];have TB:Ai γ ((cs.drop off).take ks.length) (us.extract off (off+ks.length)).toList:=by have:=(hu.drop off).take ks.length;simpa[GI,Dn] using this
     have Ih:Ai γ ((ds.drop off).take ks.length) (vs.extract off (off+ks.length)).toList:=by have:=(hv.drop off).take ks.length;simpa[GI,Dn] using this
     refine MP (Nat.le_of_succ_le_succ hd) fs.toList rP _ _ _ _ _ TB Ih ?_;simpa using he
    .cases h
   .cases h
  .cases h
def MP:∀{d D:Nat},d<=D->∀(fs:List Field) {off:Nat} {ks:List FK},Ln (Hr P d) fs off=some ks->∀(us vs:Array Value) (cs ds:List Aa) (b:Bool),Ai γ cs us.toList->Ai γ ds vs.toList->
  BU ks (cs.drop off) (ds.drop off)=some b->(Op.eqFields D us vs fs).run P w= .ok b w
 |d,D,hd,[],off,ks,h=>by
  intro us vs cs ds b hu hv he;cases h;have:b=true:=by cases h1:cs.drop off<;>cases h2:ds.drop off<;>rw[h1,h2] at he<;>simp[BU] at he;exact he
  subst this;rfl
 |d,D,hd,f::fs,off,ks,h=>by
  intro us vs cs ds b hu hv he;simp only[Ln] at h;split at h
  .rename_i hc;obtain⟨hn,gQ⟩:=hc;split at h
   .rename_i zA Vw;cases hr:Ln (Hr P d) fs (off+zA.length) with
    |none=>rw[hr] at h;cases h
    |some jc=>
     rw[hr] at h;cases h;obtain⟨b1,b2,e1,e2,rfl⟩:=Hv he;obtain⟨x,y,p1,p2,p3⟩:=Oi hd Vw _ _ _ _ _ _ hu hv e1;simp only[Op.eqFields,hn,ne_eq,Iz,Bc,gQ,Sem.run_bind,p1,p2,p3,Result.andThen_ok];cases b1;.rfl
     .simp only[Zo,B5,JN,Zp];exact MP hd fs hr _ _ _ _ _ hu hv (by simpa[DS] using e2)
   .cases h
  .cases h
end
def Oj{op:BinOp}{t:TypeId}{ox oy:Operand}{neg:Bool}{ks:List FK}{a b:List Aa}{x y:Value}{u:Aa}(PC:(op= .eql/\neg=false)\/(op= .neq/\neg=true))
  (hg:P.eqGuardType P.depth t=false) (hk:Hr P 20 t=some ks) (Ex:∃fs,P.underlying t=some (.struct fs)) (hx:Au γ (.agg a) x) (hy:Au γ (.agg b) y) (h:(BU ks a b).map (λe=>Aa.bool (e != neg))=some u):
  ∃v,(do eqGuard op t ox oy x y;binOp op t x y:Sem Value).run P w= .ok v w/\Au γ u v:=by
 obtain⟨us,rfl,hu,_⟩:=hx;obtain⟨vs,rfl,hv,_⟩:=hy;cases he:BU ks a b with
 |none=>rw[he] at h;cases h
 |some e=>
  rw[he] at h;cases h;obtain⟨l1,l2⟩:=Hw he;obtain⟨x',y',p1,p2,p3⟩:=Oi (w:=w) (P:=P) (γ:=γ) (D:=10000) (by omega:20<=10000) hk us vs a b 0 e hu hv (by rw[FL,FL,AS (FM l1),AS (FM l2)];exact he);obtain⟨fs,rP⟩:=Ex;have Ph:Cg P t=some (some ks.length):=by simp[Cg,rP,MN hk]
  obtain⟨ha,hs⟩:=IG (w:=w) Ph;have e1:us.extract 0 ks.length=us:=by
   have:us.size=ks.length:=by have:=hu.length;simp at this;omega
   rw[<-this];simp
  have e2:vs.extract 0 ks.length=vs:=by
   have:vs.size=ks.length:=by have:=hv.length;simp at this;omega
   rw[<-this];simp
  have q1:x'= .agg us:=by simp[part,ha,BC hs,e1] at p1;exact p1.symm
  have q2:y'= .agg vs:=by simp[part,ha,BC hs,e2] at p2;exact p2.symm
  subst q1;subst q2;rcases PC with⟨rfl,rfl⟩|⟨rfl,rfl⟩
  .refine⟨.bool e,by simp[run_eqGuard_agg (P:=P) w .eql t ox oy us vs hg,run_eql_struct,p3],?_⟩;show Value.bool e=Value.bool _;cases e<;>rfl
  .refine⟨.bool (!e),by simp[run_eqGuard_agg (P:=P) w .neq t ox oy us vs hg,run_neq_struct,p3],?_⟩;show Value.bool _=Value.bool _;cases e<;>rfl
end
end Go.Am
end
