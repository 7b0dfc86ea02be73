/- Lemmas -/
import Derived.Test.YtglbboamemndeaaGreatDoorS1
import Derived.Orders
import Derived.Laws.AppendOwn
import Derived.Laws.StructEq
set_option linter.all false
section
namespace Go.Am
inductive Kh where
 |Mj (id:Nat)
 |loc (s:Nat)
 |tail (s:Nat) (c:Option Nat) (start:Nat)
def Kh.jd:Kh->Bool
 | .Mj _=>true
 |_=>false
structure Gh where
 HW:Nat->Nat->Option Value
 mu:Nat->Option Nat
 BI:Nat->Option Kh
 sz:Nat->Option Nat
mutual
def BH(γ:Gh):Aa->Value->Prop
 | .bool b,v=>v= .bool b
 | .int k n,v=>v= .int k n
 | .str s,v=>v= .string ⟨⟨s⟩⟩
 | .ptr none,v=>v= .pointer none
 | .ptr (some (id,o)),v=>∃b,γ.mu id=some b/\v= .pointer (some ⟨b,o,none⟩)
 | .Cu cs,v=>∃b o,v= .pointer (some ⟨b,o,none⟩)/\CQ γ cs b o
 | .sl z Av,v=>∃d cap,v= .slice (some d) Av.length cap/\Av.length<=cap/\(d.spot=none\/cap=0)/\EL γ Av z d.block d.off
 | .slnil,v=>v= .slice none 0 0
 | .EI _,v=>∃b,v= .slice (some ⟨b,0,none⟩) 0 0
 | .CT id off len z,v=>∃b cap,γ.mu id=some b/\v= .slice (some ⟨b,off,none⟩) len cap/\len<=cap/\(0<z/\cap<=maxLen)/\γ.sz b=some (off+cap*z)
 | .map none,v=>v= .map none
 | .map (some id),v=>∃b,γ.mu id=some b/\v= .map (some b)
 | .func fn f c,v=>∃fs cs,v= .func fn fs cs/\AX γ f fs.toList/\AX γ c cs.toList
 | .nilFunc,v=>v= .nilFunc
 | .iface t a,v=>∃u,v= .iface t u/\BH γ a u
 | .nilIface,v=>v= .nilIface
 | .agg cs,v=>∃us,v= .agg us/\AX γ cs us.toList/\∀u∈us.toList,u.oneCell'=true
 | .tuple vs,v=>∃us,v= .tuple us/\AX γ vs us.toList
def AX(γ:Gh):List Aa->List Value->Prop
 |[],us=>us=[]
 |a::l,us=>∃u Dq,us=u::Dq/\BH γ a u/\AX γ l Dq
def CQ(γ:Gh):List Aa->Nat->Nat->Prop
 |[],_,_=>True
 |a::l,b,o=>(∃u,γ.HW b o=some u/\BH γ a u)/\CQ γ l b (o+1)
def EL(γ:Gh):List (List Aa)->Nat->Nat->Nat->Prop
 |[],_,_,_=>True
 |r::rs,z,b,o=>r.length=z/\CQ γ r b o/\EL γ rs z b (o+z)
end
structure Gh.le(γ γ':Gh):Prop where
 HW:∀b o v,γ.HW b o=some v->γ'.HW b o=some v
 mu:∀id b,γ.mu id=some b->γ'.mu id=some b
 sz:∀b n,γ.sz b=some n->γ'.sz b=some n
def Gh.le.refl(γ:Gh):γ.le γ:=⟨λ_ _ _ h=>h,λ_ _ h=>h,λ_ _ h=>h⟩
def Gh.le.trans{a b c:Gh}(h:a.le b)(k:b.le c):a.le c:=⟨λ_ _ _ x=>k.HW _ _ _ (h.HW _ _ _ x),λ_ _ x=>k.mu _ _ (h.mu _ _ x),λ_ _ x=>k.sz _ _ (h.sz _ _ x)⟩
mutual
def BH.mono{γ γ':Gh}(Es:γ.le γ'):∀(a:Aa) (v:Value),BH γ a v->BH γ' a v
 | .bool b,v,h=>h
 | .int k n,v,h=>h
 | .str s,v,h=>h
 | .ptr none,v,h=>h
 | .ptr (some (id,o)),v,h=>by obtain⟨b,hb,hv⟩:=h;exact⟨b,Es.mu _ _ hb,hv⟩
 | .Cu cs,v,h=>by obtain⟨b,o,hv,hm⟩:=h;exact⟨b,o,hv,CQ.mono Es cs b o hm⟩
 | .sl z Av,v,h=>by obtain⟨d,cap,hv,hc,hs,hm⟩:=h;exact⟨d,cap,hv,hc,hs,EL.mono Es Av z _ _ hm⟩
 | .slnil,v,h=>h
 | .EI _,v,h=>h
 | .CT id off len z,v,h=>by obtain⟨b,cap,hb,hv,hc,hz,hs⟩:=h;exact⟨b,cap,Es.mu _ _ hb,hv,hc,hz,Es.sz _ _ hs⟩
 | .map none,v,h=>h
 | .map (some id),v,h=>by obtain⟨b,hb,hv⟩:=h;exact⟨b,Es.mu _ _ hb,hv⟩
 | .func fn f c,v,h=>by obtain⟨fs,cs,hv,h1,h2⟩:=h;exact⟨fs,cs,hv,AX.mono Es f _ h1,AX.mono Es c _ h2⟩
 | .nilFunc,v,h=>h
 | .iface t a,v,h=>by obtain⟨u,hv,h1⟩:=h;exact⟨u,hv,BH.mono Es a u h1⟩
 | .nilIface,v,h=>h
 | .agg cs,v,h=>by obtain⟨us,hv,h1,h2⟩:=h;exact⟨us,hv,AX.mono Es cs _ h1,h2⟩
 | .tuple vs,v,h=>by obtain⟨us,hv,h1⟩:=h;exact⟨us,hv,AX.mono Es vs _ h1⟩
def AX.mono{γ γ':Gh}(Es:γ.le γ'):∀(l:List Aa) (us:List Value),AX γ l us->AX γ' l us
 |[],us,h=>h
 |a::l,us,h=>by obtain⟨u,Dq,hu,h1,h2⟩:=h;exact⟨u,Dq,hu,BH.mono Es a u h1,AX.mono Es l Dq h2⟩
def CQ.mono{γ γ':Gh}(Es:γ.le γ'):∀(l:List Aa) (b o:Nat),CQ γ l b o->CQ γ' l b o
 |[],_,_,_=>trivial
 |a::l,b,o,h=>by obtain⟨⟨u,hu,h1⟩,h2⟩:=h;exact⟨⟨u,Es.HW _ _ _ hu,BH.mono Es a u h1⟩,CQ.mono Es l b (o+1) h2⟩
def EL.mono{γ γ':Gh}(Es:γ.le γ'):∀(rs:List (List Aa)) (z b o:Nat),EL γ rs z b o->EL γ' rs z b o
 |[],_,_,_,_=>trivial
 |r::rs,z,b,o,h=>⟨h.1,CQ.mono Es r b o h.2.1,EL.mono Es rs z b (o+z) h.2.2⟩
end
def AX.length{γ:Gh}:∀{l:List Aa} {us:List Value},AX γ l us->us.length=l.length
 |[],us,h=>by rw[AX] at h;subst h;rfl
 |a::l,us,h=>by rw[AX] at h;obtain⟨u,Dq,rfl,_,h2⟩:=h;simp[h2.length]
def AX.get{γ:Gh}:∀{l:List Aa} {us:List Value},AX γ l us->∀{i:Nat} {a:Aa},l[i]?=some a->∃u,us[i]?=some u/\BH γ a u
 |[],us,h,i,a,hi=>by simp at hi
 |x::l,us,h,i,a,hi=>by
  rw[AX] at h;obtain⟨u,Dq,rfl,h1,h2⟩:=h;cases i with
  |zero=>simp at hi;subst hi;exact⟨u,rfl,h1⟩
  |succ i=>simp at hi;obtain⟨v,hv,hr⟩:=h2.get hi;exact⟨v,by simpa using hv,hr⟩
def AX.GD{γ:Gh}:∀{l:List Aa} {us:List Value},us.length=l.length->(∀(i:Nat) (a:Aa) (u:Value),l[i]?=some a->us[i]?=some u->BH γ a u)->AX γ l us
 |[],us,hl,_=>by rw[AX];exact Cy hl
 |x::l,[],hl,_=>by simp at hl
 |x::l,u::us,hl,h=>by rw[AX];exact⟨u,us,rfl,h 0 x u rfl rfl,AX.GD (by simpa using hl) λi a v hi hv=>h (i+1) a v (by simpa using hi) (by simpa using hv)⟩
def AX.append{γ:Gh}:∀{l l':List Aa} {us Dq:List Value},AX γ l us->AX γ l' Dq->AX γ (l++l') (us++Dq)
 |[],l',us,Dq,h,h'=>by rw[AX] at h;subst h;simpa using h'
 |a::l,l',us,Dq,h,h'=>by rw[AX] at h;obtain⟨u,r,rfl,h1,h2⟩:=h;rw[CD,AX];exact⟨u,r++Dq,rfl,h1,h2.append h'⟩
def AX.take{γ:Gh}{l:List Aa}{us:List Value}(h:AX γ l us)(n:Nat):AX γ (l.take n) (us.take n):=by
 refine AX.GD (by simp[h.length]) λi a u hi hu=>?_;rw[Cg] at hi hu;split at hi;.rename_i hlt;rw[Ag hlt] at hu;obtain⟨v,hv,hr⟩:=h.get hi;rw[hu] at hv;cases hv;exact hr
 .cases hi
def AX.drop{γ:Gh}{l:List Aa}{us:List Value}(h:AX γ l us)(n:Nat):AX γ (l.drop n) (us.drop n):=by refine AX.GD (by simp[h.length]) λi a u hi hu=>?_;rw[Cn] at hi hu;obtain⟨v,hv,hr⟩:=h.get hi;rw[hu] at hv;cases hv;exact hr
def CQ.get{γ:Gh}:∀{l:List Aa} {b o:Nat},CQ γ l b o->∀{i:Nat} {a:Aa},l[i]?=some a->∃u,γ.HW b (o+i)=some u/\BH γ a u
 |[],b,o,h,i,a,hi=>by simp at hi
 |x::l,b,o,h,i,a,hi=>by
  rw[CQ] at h;obtain⟨⟨u,hu,h1⟩,h2⟩:=h;cases i with
  |zero=>simp at hi;subst hi;exact⟨u,hu,h1⟩
  |succ i=>simp at hi;obtain⟨v,hv,hr⟩:=h2.get hi;exact⟨v,by rw[<-hv];congr 1;omega,hr⟩
def CQ.GD{γ:Gh}:∀{l:List Aa} {b o:Nat},(∀(i:Nat) (a:Aa),l[i]?=some a->∃u,γ.HW b (o+i)=some u/\BH γ a u)->CQ γ l b o
 |[],b,o,h=>by rw[CQ];trivial
 |x::l,b,o,h=>by rw[CQ];refine⟨h 0 x rfl,CQ.GD λi a hi=>?_⟩;obtain⟨u,hu,hr⟩:=h (i+1) a (by simpa using hi);exact⟨u,by rw[<-hu];congr 1;omega,hr⟩
def CQ.drop{γ:Gh}{l:List Aa}{b o:Nat}(h:CQ γ l b o)(n:Nat):CQ γ (l.drop n) b (o+n):=by refine CQ.GD λi a hi=>?_;rw[Cn] at hi;obtain⟨u,hu,hr⟩:=h.get hi;exact⟨u,by rw[<-hu];congr 1;omega,hr⟩
def CQ.values{γ:Gh}:∀{l:List Aa} {b o:Nat},CQ γ l b o->∃us:List Value,AX γ l us/\∀(j:Nat) (u:Value),us[j]?=some u->γ.HW b (o+j)=some u
 |[],b,o,h=>⟨[],by rw[AX],Ax⟩
 |x::l,b,o,h=>by
  rw[CQ] at h;obtain⟨⟨u,hu,h1⟩,h2⟩:=h;obtain⟨us,hr,hi⟩:=h2.values;refine⟨u::us,by rw[AX];exact⟨u,us,rfl,h1,hr⟩,λj v hj=>?_⟩;cases j with
  |zero=>simp at hj;subst hj;exact hu
  |succ j=>simp at hj;rw[<-hi j v hj];congr 1;omega
def EL.get{γ:Gh}:∀{rs:List (List Aa)} {z b o:Nat},EL γ rs z b o->∀{i:Nat} {r:List Aa},rs[i]?=some r->r.length=z/\CQ γ r b (o+i*z)
 |[],z,b,o,h,i,r,hi=>by simp at hi
 |x::rs,z,b,o,h,i,r,hi=>by
  rw[EL] at h;cases i with
  |zero=>simp at hi;subst hi;simpa using⟨h.1,h.2.1⟩
  |succ i=>simp at hi;obtain⟨h1,h2⟩:=h.2.2.get hi;exact⟨h1,by rw[show o+(i+1)*z=o+z+i*z by rw[BC,Eo];omega];exact h2⟩
def EL.GD{γ:Gh}:∀{rs:List (List Aa)} {z b o:Nat},(∀(i:Nat) (r:List Aa),rs[i]?=some r->r.length=z/\CQ γ r b (o+i*z))->EL γ rs z b o
 |[],z,b,o,h=>by rw[EL];trivial
 |x::rs,z,b,o,h=>by rw[EL];have h0:=h 0 x rfl;refine⟨h0.1,by simpa using h0.2,EL.GD λi r hi=>?_⟩;obtain⟨h1,h2⟩:=h (i+1) r (by simpa using hi);exact⟨h1,by rw[show o+z+i*z=o+(i+1)*z by rw[BC,Eo];omega];exact h2⟩
def EL.length{γ:Gh}:∀{rs:List (List Aa)} {z b o:Nat},EL γ rs z b o->rs.flatten.length=rs.length*z
 |[],z,b,o,h=>Ax
 |x::rs,z,b,o,h=>by rw[EL] at h;simp[h.1,h.2.2.length,BC,Mc]
def NR{b:Addr}{n cap:Nat}(hs:b.spot=none\/cap=0)(hc:n<=cap)(hn:0<n):b=⟨b.block,b.off,none⟩:=by
 rcases hs with hs|hs
 .cases b;simp_all
 .omega
def EL.values{γ:Gh}:∀{rs:List (List Aa)} {z b o:Nat},EL γ rs z b o->∃us:List Value,AX γ rs.flatten us/\us.length=rs.length*z/\∀(j:Nat) (u:Value),us[j]?=some u->γ.HW b (o+j)=some u
 |[],z,b,o,h=>⟨[],by simp[AX],Ax,Ax⟩
 |x::rs,z,b,o,h=>by
  rw[EL] at h;obtain⟨us,h1,h2⟩:=h.2.1.values;obtain⟨vs,e,d,c⟩:=h.2.2.values;have hl:us.length=z:=by rw[h1.length,h.1]
  refine⟨us++vs,by simpa using h1.append e,by simp[hl,d,BC,Mc],λj u hj=>?_⟩;rw[aFu] at hj;split at hj;.exact h2 j u hj
  .rename_i GS;rw[<-c _ _ hj];congr 1
   omega
def IP(γ:Gh)(B:Nat)(w:World)(s:Nat)(c:Option Nat)(v:Value)(a:Aa):Prop:=
 (a= .slnil\/∃z,a= .EI z)\/∃g n cap us e z Av,a= .sl z Av/\v= .slice (some ⟨g,0,none⟩) n cap/\γ.BI g=some (.tail s c (n*z))/\B<=g/\
  w.heap[g]?=some (.cells us e (0,0))/\us.size=cap*z/\n<=cap/\cap<=maxLen/\0<z
def Lf(γ:Gh)(β:Nat->Nat)(B:Nat)(w:World)(s:Nat):Ec->Value->Prop
 | .undef,_=>True
 | .skip,v=>v=undef
 | .val a,v=>BH γ a v
 | .OQ b,v=>v= .bool b
 | .BI a,v=>BH γ a v/\IP γ B w s none v a
 | .box _ cs ow,v=>v= .pointer (some ⟨β s,0,none⟩)/\γ.BI (β s)=some (.loc s)/\B<=β s/\
  ∃us e,w.heap[β s]?=some (.cells us e (0,0))/\AX γ cs us.toList/\(∀u∈us.toList,u.oneCell'=true)/\
   ∀o∈ow,∃u a,us[o]?=some u/\cs[o]?=some a/\IP γ B w s (some o) u a
 | .EY s' o,v=>v= .pointer (some ⟨β s',o,none⟩)
structure FR(γ:Gh)(β:Nat->Nat)(B:Nat)(U:BF)(tmps:Array Value)(w:World):Prop where
 size:U.length=tmps.size
 HT:∀s,Lf γ β B w s (U.at s) (tmps.getD s undef)
def KO(γ:Gh):List (Aa×Aa)->List MapEntry->Prop
 |[],es=>es=[]
 |(k,v)::l,es=>∃e UG,es=e::UG/\BH γ k e.key/\BH γ v e.val/\KO γ l UG
def je(γ:Gh)(l:List (Aa×Aa))(es:Array MapEntry)(clock:Nat):Prop:=
 KO γ l es.toList/\clock=es.size/\∀(i:Nat) (e:MapEntry),es[i]?=some e->e.born=i
def Tg(fr:Nat×Nat)(n:Nat):Prop:=fr=(0,0)\/n<=fr.1
structure Hw(γ:Gh)(h:Ai)(w:World):Prop where
 HW:∀b o v,γ.HW b o=some v->w.cell? ⟨b,o,none⟩=some v/\v.oneCell'=true/\(γ.BI b=none\/∃s c st,γ.BI b=some (.tail s c st)/\o<st)
 Mj:∀id x,h[id]?=some x->x≠ .Dw->∃b,γ.mu id=some b/\γ.BI b=some (.Mj id)
 cells:∀id cs,h[id]?=some (.cells cs)->∀b,γ.mu id=some b->∃us e fr,w.heap[b]?=some (.cells us e fr)/\Tg fr us.size/\AX γ cs (us.toList.take cs.length)/\∀u∈us.toList.take cs.length,u.oneCell'=true
 map:∀id es,h[id]?=some (.map es)->∀b,γ.mu id=some b->∃DD clock,w.heap[b]?=some (.map DD clock)/\je γ es DD clock
 mu:∀id b,γ.mu id=some b->id<h.length
 BI:∀b x,γ.BI b=some x->b<w.heap.size
 sz:∀b n,γ.sz b=some n->(∃us e fr,w.heap[b]?=some (.cells us e fr)/\us.size=n)/\(γ.BI b=none\/∃id,γ.BI b=some (.Mj id))
structure LR(γ0:Gh)(w0:World)(γ:Gh)(w:World):Prop where
 le:γ0.le γ
 size:w0.heap.size<=w.heap.size
 os:w.os=w0.os
 tape:w.tape=w0.tape
 output:w.output=w0.output
 NS:∀b,b<w0.heap.size->(∀id,γ0.BI b≠some (.Mj id))->w.heap[b]?=w0.heap[b]?/\γ.BI b=γ0.BI b
def LR.refl(γ:Gh)(w:World):LR γ w γ w:=⟨.refl _,Ab _,rfl,rfl,rfl,λ_ _ _=>⟨rfl,rfl⟩⟩
def LR.trans{γ0 d c:Gh}{w0 w1 e:World}(h:LR γ0 w0 d w1)(k:LR d w1 c e):LR γ0 w0 c e:=by refine⟨h.le.trans k.le,Bn h.size k.size,k.os.trans h.os,k.tape.trans h.tape,k.output.trans h.output,λb hb hn=>?_⟩;.obtain⟨h1,h2⟩:=h.NS b hb hn;obtain⟨g,f⟩:=k.NS b (IJ hb h.size) (λid=>by rw[h2];exact hn id);exact⟨g.trans h1,f.trans h2⟩
structure zF(γ:Gh)(w:World)(γ':Gh)(w':World):Prop where
 le:γ.le γ'
 NS:∀b x,γ.BI b=some x->x.jd=false->γ'.BI b=some x/\w'.heap[b]?=w.heap[b]?
def zF.Ğ{γ γ':Gh}{h:Ai}{w w':World}(hi:Hw γ h w)(ha:LR γ w γ' w'):zF γ w γ' w':=by refine⟨ha.le,λb x hb hx=>?_⟩;obtain⟨h1,h2⟩:=ha.NS b (hi.BI b x hb) (λid Ik=>by rw[hb] at Ik;cases Ik;simp[Kh.jd] at hx);exact⟨h2.trans hb,h1⟩
def IP.kept{γ γ':Gh}{B:Nat}{w w':World}{s:Nat}{c:Option Nat}{v:Value}{a:Aa}(h:IP γ B w s c v a)(k:zF γ w γ' w'):IP γ' B w' s c v a:=by
 rcases h with h|⟨g,n,cap,us,e,z,Av,h1,h2,l,j,i,f⟩
 .exact .inl h
 .obtain⟨d,b⟩:=k.NS g _ l rfl;exact .inr ⟨g,n,cap,us,e,z,Av,h1,h2,d,j,by rw[b];exact i,f⟩
def Lf.kept{γ γ':Gh}{β:Nat->Nat}{B:Nat}{w w':World}{s:Nat}{x:Ec}{v:Value}(h:Lf γ β B w s x v)(k:zF γ w γ' w'):Lf γ' β B w' s x v:=by
 cases x with
 |undef=>trivial
 |skip=>exact h
 |val a=>exact BH.mono k.le a v h
 |OQ b=>exact h
 |BI a=>exact⟨BH.mono k.le a v h.1,h.2.kept k⟩
 |box ver cs ow=>obtain⟨h1,h2,l,us,e,j,i,g,f⟩:=h;obtain⟨d,c⟩:=k.NS _ _ h2 rfl;exact⟨h1,d,l,us,e,by rw[c];exact j,AX.mono k.le cs _ i,g,λo ho=>let⟨u,a,p,q,r⟩:=f o ho;⟨u,a,p,q,r.kept k⟩⟩
 |EY s' o=>exact h
def FR.kept{γ γ':Gh}{β:Nat->Nat}{B:Nat}{U:BF}{tmps:Array Value}{w w':World}(h:FR γ β B U tmps w)(k:zF γ w γ' w'):FR γ' β B U tmps w':=
 ⟨h.size,λs=>(h.HT s).kept k⟩
end Go.Am
end
section
namespace Go.Am
def CG{w w':World}{b o:Nat}(h:w'.heap[b]?=w.heap[b]?):w'.cell? ⟨b,o,none⟩=w.cell? ⟨b,o,none⟩:=by simp[World.cell?,h]
def Dt{w:World}{b o:Nat}{v:Value}(h:w.cell? ⟨b,o,none⟩=some v):b<w.heap.size:=by
 rcases Bl b w.heap.size with h'|h'
 .exact h'
 .simp[World.cell?,Array.getElem?_eq_none h'] at h
def Hw.ğ{γ:Gh}{h:Ai}{w:World}(hi:Hw γ h w){b o:Nat}{v:Value}(hb:γ.HW b o=some v):b<w.heap.size:=Dt (hi.HW b o v hb).1
def Hw.same{γ:Gh}{h:Ai}{w w':World}(hi:Hw γ h w)(c:w'.heap=w.heap):Hw γ h w':=by
 refine⟨λb o v hb=>?_,hi.Mj,λid cs hc b hb=>?_,λid es hc b hb=>?_,hi.mu,λb x hx=>?_,λb n hb=>by rw[c];exact hi.sz b n hb⟩;.obtain⟨h1,h2,d⟩:=hi.HW b o v hb;have e:=CG (w:=w) (w':=w') (b:=b) (o:=o) (by rw[c]);exact⟨e.trans h1,h2,d⟩
 .rw[c];exact hi.cells id cs hc b hb
 .rw[c];exact hi.map id es hc b hb
 .rw[c];exact hi.BI b x hx
def LR.same{γ:Gh}{w w':World}(b:w'.heap=w.heap)(h1:w'.os=w.os)(h2:w'.tape=w.tape)(c:w'.output=w.output):LR γ w γ w':=
 ⟨.refl _,by rw[b];exact Ab _,h1,h2,c,λ_ _ _=>⟨by rw[b],rfl⟩⟩
def LR.drew(γ:Gh)(w:World):LR γ w γ w.drew:=LR.same rfl rfl rfl rfl
def Gh.C5(γ:Gh)(b:Nat)(us:Array Value)(k:Nat)(x:Option Kh):Gh:=
 {HW:=λb' o=>if b'=b then(if o<k then us[o]? else none) else γ.HW b' o,mu:=γ.mu,BI:=λb'=>if b'=b then x else γ.BI b',sz:=γ.sz}
def Gh.BO(γ:Gh)(b id:Nat)(n:Option Nat):Gh:=
 {HW:=γ.HW,mu:=λi=>if i=id then some b else γ.mu i,BI:=λb'=>if b'=b then some (.Mj id) else γ.BI b',sz:=λb'=>if b'=b then n else γ.sz b'}
section
variable{γ:Gh}{h:Ai}{w:World}
def E6(w:World)(o:Obj){b:Nat}(hb:b<w.heap.size):(w.alloc o).heap[b]?=w.heap[b]?:=heap_alloc_old w o b hb
def O6(hi:Hw γ h w)(us:Array Value)(e:TypeId)(fr:Nat×Nat)(k:Nat)(x:Option Kh)(h1:∀o u,o<k->us[o]?=some u->u.oneCell'=true)
  (hx:x=none\/(∃s c,x=some (.tail s c k))\/(k=0/\∀id,x≠some (.Mj id))):
  Hw (γ.C5 w.heap.size us k x) h (w.alloc (.cells us e fr))/\LR γ w (γ.C5 w.heap.size us k x) (w.alloc (.cells us e fr)):=by
 have Fl:γ.BI w.heap.size=none:=by
  cases hc:γ.BI w.heap.size with
  |none=>rfl
  |some y=>exact absurd (hi.BI _ y hc) (Di _)
 have jf:∀o,γ.HW w.heap.size o=none:=λo=>by
  cases hc:γ.HW w.heap.size o with
  |none=>rfl
  |some y=>exact absurd (hi.ğ hc) (Di _)
 have Es:γ.le (γ.C5 w.heap.size us k x):=⟨λb' o' v' Hq=>by
  have:b'≠w.heap.size:=λhe=>by rw[he,jf] at Hq;cases Hq
  simp only[Gh.C5,Af this];exact Hq,λ_ _ hm=>hm,λ_ _ hm=>hm⟩
 constructor
 .refine⟨λb o v hb=>?_,λid y Ik hy=>?_,λid cs hc b hb=>?_,λid es hc b hb=>?_,hi.mu,λb y hy=>?_,λb n hb=>?_⟩;rotate_left 5;.obtain⟨⟨Dq,d,zG,p,q⟩,r⟩:=hi.sz b n hb;have NT:b≠w.heap.size:=OX (by rw[AO] at p;exact p.1);exact⟨⟨Dq,d,zG,by rw[E6 _ _ (by rw[AO] at p;exact p.1)];exact p,q⟩,by simp only[Gh.C5,Af NT];exact r⟩
  .by_cases NT:b=w.heap.size
   .subst NT;simp only[Gh.C5,BE] at hb⊢;split at hb
    .rename_i hlt;refine⟨by rw[cell_of_row _ _ _ us e fr (heap_alloc_new w _)];exact hb,h1 o v hlt hb,?_⟩;rcases hx with hx|⟨s,c,hx⟩|⟨hx,_⟩
     .exact .inl hx
     .exact .inr ⟨s,c,k,hx,hlt⟩
     .omega
    .cases hb
   .simp only[Gh.C5,Af NT] at hb⊢;obtain⟨p,q,r⟩:=hi.HW b o v hb;exact⟨by rw[CG (E6 w _ (Dt p))];exact p,q,r⟩
  .obtain⟨b,p,q⟩:=hi.Mj id y Ik hy;refine⟨b,p,?_⟩;have:b≠w.heap.size:=λhe=>by rw[he,Fl] at q;cases q
   simp only[Gh.C5,Af this];exact q
  .obtain⟨Dq,d,zG,p,pf,q,r⟩:=hi.cells id cs hc b hb;exact⟨Dq,d,zG,by rw[E6 _ _ (by rw[AO] at p;exact p.1)];exact p,pf,AX.mono Es cs _ q,r⟩
  .obtain⟨DD,clock,p,q⟩:=hi.map id es hc b hb;refine⟨DD,clock,by rw[E6 _ _ (by rw[AO] at p;exact p.1)];exact p,?_,q.2⟩;replace q:=q.1;clear hc p;revert q;generalize DD.toList=l;intro q;induction es generalizing l with
   |nil=>exact q
   |cons kv es ih=>obtain⟨kk,f⟩:=kv;obtain⟨en,UG,hl,a1,a2,a3⟩:=q;exact⟨en,UG,hl,BH.mono Es _ _ a1,BH.mono Es _ _ a2,ih UG a3⟩
  .by_cases NT:b=w.heap.size;.subst NT;simp
   .simp only[Gh.C5,Af NT] at hy;have:=hi.BI b y hy;simp;omega
 .refine⟨Es,Ax,rfl,rfl,rfl,λb hb _=>⟨E6 _ _ hb,?_⟩⟩;simp only[Gh.C5,Af (OX hb)]
def KO.mono{γ γ':Gh}(Es:γ.le γ'):∀{es:List (Aa×Aa)} {l:List MapEntry},KO γ es l->KO γ' es l
 |[],l,q=>q
 |(kk,b)::es,l,q=>by obtain⟨en,UG,hl,a1,a2,a3⟩:=q;exact⟨en,UG,hl,BH.mono Es _ _ a1,BH.mono Es _ _ a2,a3.mono Es⟩
def je.mono{γ γ':Gh}(Es:γ.le γ'){es:List (Aa×Aa)}{l:Array MapEntry}{c:Nat}(h:je γ es l c):je γ' es l c:=⟨h.1.mono Es,h.2⟩
def NU(hi:Hw γ h w)(o:Obj)(x:EN)(m:Option Nat)
  (hx:(∃cs us e fr,x= .cells cs/\o= .cells us e fr/\Tg fr us.size/\AX γ cs (us.toList.take cs.length)/\(∀u∈us.toList.take cs.length,u.oneCell'=true)/\m=some us.size)\/(x= .map []/\o= .map #[] 0/\m=none)):
  Hw (γ.BO w.heap.size h.length m) (h++[x]) (w.alloc o)/\LR γ w (γ.BO w.heap.size h.length m) (w.alloc o):=by
 have Fl:γ.BI w.heap.size=none:=by
  cases hc:γ.BI w.heap.size with
  |none=>rfl
  |some y=>exact absurd (hi.BI _ y hc) (Di _)
 have c:γ.mu h.length=none:=by
  cases hc:γ.mu h.length with
  |none=>rfl
  |some y=>exact absurd (hi.mu _ y hc) (Di _)
 have K8:γ.sz w.heap.size=none:=by
  cases hc:γ.sz w.heap.size with
  |none=>rfl
  |some y=>obtain⟨⟨_,_,_,p,_⟩,_⟩:=hi.sz _ y hc;rw[AO] at p;exact absurd p.1 (Di _)
 have Es:γ.le (γ.BO w.heap.size h.length m):=⟨λ_ _ _ hv=>hv,λid b hm=>by
  have:id≠h.length:=λhe=>by rw[he,c] at hm;cases hm
  simp only[Gh.BO,Af this];exact hm,λb n hm=>by
  have:b≠w.heap.size:=λhe=>by rw[he,K8] at hm;cases hm
  simp only[Gh.BO,Af this];exact hm⟩
 constructor
 .refine⟨λb o' v hb=>?_,λid y Ik hy=>?_,λid cs hc b hb=>?_,λid es hc b hb=>?_,λid b hb=>?_,λb y hy=>?_,λb n hb=>?_⟩;rotate_left 6
  .by_cases NT:b=w.heap.size
   .subst NT;simp only[Gh.BO,BE] at hb;rcases hx with⟨GB,us,e,fr,rfl,rfl,pf,p,q,rfl⟩|⟨rfl,rfl,rfl⟩
    .cases hb;exact⟨⟨us,e,fr,heap_alloc_new w _,rfl⟩,.inr ⟨h.length,by simp[Gh.BO]⟩⟩
    .cases hb
   .simp only[Gh.BO,Af NT] at hb⊢;obtain⟨⟨Dq,d,zG,p,q⟩,r⟩:=hi.sz b n hb;exact⟨⟨Dq,d,zG,by rw[E6 _ _ (by rw[AO] at p;exact p.1)];exact p,q⟩,r⟩
  .obtain⟨p,q,r⟩:=hi.HW b o' v hb;have NT:b≠w.heap.size:=OX (Dt p);exact⟨by rw[World.cell?_alloc_old _ _ _ NT];exact p,q,by simp only[Gh.BO,Af NT];exact r⟩
  .by_cases he:id=h.length;.exact⟨w.heap.size,by simp[Gh.BO,he],by simp[Gh.BO,he]⟩
   .have Wd:id<h.length:=by rw[Al] at Ik;obtain⟨hl,_⟩:=Ik;simp at hl;omega
    rw[An Wd] at Ik;obtain⟨b,p,q⟩:=hi.Mj id y Ik hy;have NT:b≠w.heap.size:=λhe=>by rw[he,Fl] at q;cases q
    exact⟨b,by simp only[Gh.BO,Af he];exact p,by simp only[Gh.BO,Af NT];exact q⟩
  .by_cases he:id=h.length
   .subst he;simp[Gh.BO] at hb;subst hb;simp at hc;rcases hx with⟨GB,us,e,fr,rfl,rfl,pf,p,q,rfl⟩|⟨rfl,rfl,rfl⟩
    .cases hc;exact⟨us,e,fr,heap_alloc_new w _,pf,AX.mono Es _ _ p,q⟩
    .cases hc
   .simp only[Gh.BO,Af he] at hb;have Wd:=hi.mu id b hb;rw[An Wd] at hc;obtain⟨Dq,d,zG,p,pf,q,r⟩:=hi.cells id cs hc b hb;exact⟨Dq,d,zG,by rw[E6 _ _ (by rw[AO] at p;exact p.1)];exact p,pf,AX.mono Es _ _ q,r⟩
  .by_cases he:id=h.length
   .subst he;simp[Gh.BO] at hb;subst hb;simp at hc;rcases hx with⟨GB,us,e,fr,rfl,rfl,pf,p,q,rfl⟩|⟨rfl,rfl,rfl⟩
    .cases hc
    .cases hc;exact⟨#[],0,heap_alloc_new w _,rfl,rfl,Ax⟩
   .simp only[Gh.BO,Af he] at hb;have Wd:=hi.mu id b hb;rw[An Wd] at hc;obtain⟨DD,clock,p,q⟩:=hi.map id es hc b hb;exact⟨DD,clock,by rw[E6 _ _ (by rw[AO] at p;exact p.1)];exact p,q.mono Es⟩
  .by_cases he:id=h.length;.simp[he]
   .simp only[Gh.BO,Af he] at hb;have:=hi.mu id b hb;simp;omega
  .by_cases NT:b=w.heap.size;.subst NT;simp
   .simp only[Gh.BO,Af NT] at hy;have:=hi.BI b y hy;simp;omega
 .refine⟨Es,Ax,rfl,rfl,rfl,λb hb _=>⟨E6 _ _ hb,?_⟩⟩;simp only[Gh.BO,Af (OX hb)]
def zH(hi:Hw γ h w){g s:Nat}(hg:γ.BI g=some (.loc s))(us:Array Value):Hw γ h (w.setRow g us):=by
 refine⟨λb o v hb=>?_,hi.Mj,λid cs hc b hb=>?_,λid es hc b hb=>?_,hi.mu,λb x hx=>?_,λb n hb=>?_⟩;rotate_left 4
 .obtain⟨p,r⟩:=hi.sz b n hb;have:b≠g:=λhe=>by subst he;rw[hg] at r;rcases r with r|⟨_,r⟩<;>cases r
  exact⟨by rw[setRow_other w g b us this];exact p,r⟩
 .obtain⟨p,q,r⟩:=hi.HW b o v hb;have:b≠g:=λhe=>by subst he;rw[hg] at r;rcases r with r|⟨_,_,_,r,_⟩<;>cases r
  exact⟨by rw[CG (setRow_other w g b us this)];exact p,q,r⟩
 .have OS:b≠g:=λhe=>by subst he;obtain⟨b',p,q⟩:=hi.Mj id _ hc Ax;rw[hb] at p;cases p;rw[hg] at q;cases q
  rw[setRow_other w g b us OS];exact hi.cells id cs hc b hb
 .have OS:b≠g:=λhe=>by subst he;obtain⟨b',p,q⟩:=hi.Mj id _ hc Ax;rw[hb] at p;cases p;rw[hg] at q;cases q
  rw[setRow_other w g b us OS];exact hi.map id es hc b hb
 .have:=hi.BI b x hx;simpa[World.setRow] using this
def Nb(hi:Hw γ h w){g id:Nat}{cs:List Aa}(hcs:h[id]?=some (.cells cs))(hg:γ.mu id=some g){us:Array Value}{e:TypeId}{fr:Nat×Nat}(hw:w.heap[g]?=some (.cells us e fr))(Dq:Array Value)(GB:List Aa)(Zk:Dq.size=us.size)(vW:Tg fr Dq.size)
  (hr:AX γ GB (Dq.toList.take GB.length)) (h1:∀u∈Dq.toList.take GB.length,u.oneCell'=true):
  Hw γ (h.set id (.cells GB)) (w.setRow g Dq)/\LR γ w γ (w.setRow g Dq):=by
 obtain⟨d,p,S4⟩:=hi.Mj id _ hcs Ax;rw[hg] at p;cases p;have uniq:∀Ft x,h[Ft]?=some x->x≠ .Dw->γ.mu Ft=some g->Ft=id:=λFt x hx Ġ hm=>by obtain⟨b',p,q⟩:=hi.Mj Ft x hx Ġ;rw[hm] at p;cases p;rw[S4] at q;cases q;rfl
 constructor
 .refine⟨λb o v hb=>?_,λFt y Ik hy=>?_,λFt cs hc b hb=>?_,λFt es hc b hb=>?_,λFt b hb=>by simpa using hi.mu Ft b hb,λb x hx=>?_,λb n hb=>?_⟩;rotate_left 5
  .obtain⟨⟨pQ,c,jg,p,q⟩,r⟩:=hi.sz b n hb;by_cases he:b=g;.subst he;rw[hw] at p;cases p;exact⟨⟨Dq,e,fr,setRow_heap w b us Dq e fr hw,by rw[Zk];exact q⟩,r⟩
   .exact⟨⟨pQ,c,jg,by rw[setRow_other w g b Dq he];exact p,q⟩,r⟩
  .obtain⟨p,q,r⟩:=hi.HW b o v hb;have:b≠g:=λhe=>by subst he;rw[S4] at r;rcases r with r|⟨_,_,_,r,_⟩<;>cases r
   exact⟨by rw[CG (setRow_other w g b Dq this)];exact p,q,r⟩
  .by_cases he:Ft=id;.subst he;exact⟨g,hg,S4⟩
   .rw[Ap (λx=>he x.symm)] at Ik;exact hi.Mj Ft y Ik hy
  .by_cases he:Ft=id;.subst he;rw[hg] at hb;cases hb;rw[AD (hi.mu _ _ hg)] at hc;cases hc;exact⟨Dq,e,fr,setRow_heap w g us Dq e fr hw,vW,hr,h1⟩
   .rw[Ap (λx=>he x.symm)] at hc;have OS:b≠g:=λhx=>by subst hx;exact he (uniq Ft _ hc Ax hb)
    rw[setRow_other w g b Dq OS];exact hi.cells Ft cs hc b hb
  .by_cases he:Ft=id;.subst he;rw[AD (hi.mu _ _ hg)] at hc;cases hc
   .rw[Ap (λx=>he x.symm)] at hc;have OS:b≠g:=λhx=>by subst hx;exact he (uniq Ft _ hc Ax hb)
    rw[setRow_other w g b Dq OS];exact hi.map Ft es hc b hb
  .have:=hi.BI b x hx;simpa[World.setRow] using this
 .refine⟨.refl _,by simp[World.setRow],rfl,rfl,rfl,λb hb hn=>⟨?_,rfl⟩⟩;exact setRow_other w g b Dq (λhe=>by subst he;exact hn id S4)
def pR(hi:Hw γ h w){g s st:Nat}{c:Option Nat}(hg:γ.BI g=some (.tail s c st)){us:Array Value}{e:TypeId}(hw:w.heap[g]?=some (.cells us e (0,0)))(Dq:Array Value)(k:Nat)(s':Nat)(c':Option Nat)
  (Nc:∀o,o<st->Dq[o]?=us[o]?) (hk:st<=k) (h1:∀o u,o<k->Dq[o]?=some u->u.oneCell'=true) (aS:∀o v,γ.HW g o=some v->us[o]?=some v):
  Hw (γ.C5 g Dq k (some (.tail s' c' k))) h (w.setRow g Dq)/\γ.le (γ.C5 g Dq k (some (.tail s' c' k))):=by
 have hlt:∀o v,γ.HW g o=some v->o<st:=λo v ho=>by
  obtain⟨_,_,r⟩:=hi.HW g o v ho;rw[hg] at r;rcases r with r|⟨_,_,_,r,hl⟩
  .cases r
  .cases r;exact hl
 have Es:γ.le (γ.C5 g Dq k (some (.tail s' c' k))):=⟨λb o v hb=>by
  by_cases he:b=g;.subst he;have:=hlt o v hb;simp only[Gh.C5,BE,Ag (IJ this hk)];rw[Nc o this];exact aS o v hb
  .simp only[Gh.C5,Af he];exact hb,λ_ _ hm=>hm,λ_ _ hm=>hm⟩
 refine⟨⟨λb o v hb=>?_,λid y Ik hy=>?_,λid cs hc b hb=>?_,λid es hc b hb=>?_,hi.mu,λb x hx=>?_,λb n hb=>?_⟩,Es⟩;rotate_left 5
 .obtain⟨p,r⟩:=hi.sz b n hb;have:b≠g:=λhe=>by subst he;rw[hg] at r;rcases r with r|⟨_,r⟩<;>cases r
  exact⟨by rw[setRow_other w g b Dq this];exact p,by simp only[Gh.C5,Af this];exact r⟩
 .by_cases he:b=g
  .subst he;simp only[Gh.C5,BE] at hb⊢;split at hb
   .rename_i hl;exact⟨by rw[cell_of_row _ _ _ Dq e (0,0) (setRow_heap w b us Dq e (0,0) hw)];exact hb,
     h1 o v hl hb,.inr ⟨s',c',k,rfl,hl⟩⟩
   .cases hb
  .simp only[Gh.C5,Af he] at hb⊢;obtain⟨p,q,r⟩:=hi.HW b o v hb;exact⟨by rw[CG (setRow_other w g b Dq he)];exact p,q,r⟩
 .obtain⟨b,p,q⟩:=hi.Mj id y Ik hy;have:b≠g:=λhe=>by subst he;rw[hg] at q;cases q
  exact⟨b,p,by simp only[Gh.C5,Af this];exact q⟩
 .replace hb:γ.mu id=some b:=hb;obtain⟨b',p,q⟩:=hi.Mj id _ hc Ax;rw[hb] at p;cases p;have:b≠g:=λhe=>by subst he;rw[hg] at q;cases q
  rw[setRow_other w g b Dq this];obtain⟨pQ,j,jg,i,f,d,r2⟩:=hi.cells id cs hc b hb;exact⟨pQ,j,jg,i,f,AX.mono Es _ _ d,r2⟩
 .replace hb:γ.mu id=some b:=hb;obtain⟨b',p,q⟩:=hi.Mj id _ hc Ax;rw[hb] at p;cases p;have:b≠g:=λhe=>by subst he;rw[hg] at q;cases q
  rw[setRow_other w g b Dq this];obtain⟨DD,clock,i,d⟩:=hi.map id es hc b hb;exact⟨DD,clock,i,d.mono Es⟩
 .by_cases he:b=g;.subst he;have:=hi.BI b _ hg;simpa[World.setRow] using this
  .simp only[Gh.C5,Af he] at hx;have:=hi.BI b x hx;simpa[World.setRow] using this
def LR.write{γ0 c:Gh}{w0:World}(ha:LR γ0 w0 γ w){w1:World}{g:Nat}(hg:w0.heap.size<=g)(Es:γ.le c)(hs:w1.heap.size=w.heap.size)(h1:w1.os=w.os)(h2:w1.tape=w.tape)(e:w1.output=w.output)
  (hk:∀b,b≠g->w1.heap[b]?=w.heap[b]?/\c.BI b=γ.BI b):LR γ0 w0 c w1:=by
 refine⟨ha.le.trans Es,by rw[hs];exact ha.size,h1.trans ha.os,h2.trans ha.tape,e.trans ha.output,λb hb hn=>?_⟩;.obtain⟨p,q⟩:=ha.NS b hb hn;obtain⟨p',d⟩:=hk b Ac;exact⟨p'.trans p,d.trans q⟩
def jh(hi:Hw γ h w){g id:Nat}{cs:List Aa}(hcs:h[id]?=some (.cells cs))(hg:γ.mu id=some g){us:Array Value}{e:TypeId}{fr:Nat×Nat}(hw:w.heap[g]?=some (.cells us e fr))(h1:∀u∈us.toList.take cs.length,u.oneCell'=true):
  Hw (γ.C5 g us cs.length none) (h.set id .Dw) w/\LR γ w (γ.C5 g us cs.length none) w:=by
 obtain⟨d,p,S4⟩:=hi.Mj id _ hcs Ax;rw[hg] at p;cases p;have uniq:∀Ft x,h[Ft]?=some x->x≠ .Dw->γ.mu Ft=some g->Ft=id:=λFt x hx Ġ hm=>by obtain⟨b',p,q⟩:=hi.Mj Ft x hx Ġ;rw[hm] at p;cases p;rw[S4] at q;cases q;rfl
 have hne:∀o v,γ.HW g o=some v->False:=λo v hv=>by obtain⟨_,_,r⟩:=hi.HW g o v hv;rw[S4] at r;rcases r with r|⟨_,_,_,r,_⟩<;>cases r
 have Es:γ.le (γ.C5 g us cs.length none):=⟨λb o v hb=>by
  have:b≠g:=λhe=>by subst he;exact hne o v hb
  simp only[Gh.C5,Af this];exact hb,λ_ _ hm=>hm,λ_ _ hm=>hm⟩
 constructor
 .refine⟨λb o v hb=>?_,λFt y Ik hy=>?_,λFt GB hc b hb=>?_,λFt es hc b hb=>?_,λFt b hb=>by simpa using hi.mu Ft b hb,λb x hx=>?_,λb n hb=>?_⟩;rotate_left 5
  .obtain⟨p,r⟩:=hi.sz b n hb;by_cases he:b=g;.subst he;exact⟨p,.inl (by simp[Gh.C5])⟩
   .exact⟨p,by simp only[Gh.C5,Af he];exact r⟩
  .by_cases he:b=g
   .subst he;simp only[Gh.C5,BE] at hb⊢;split at hb;.rename_i hlt;exact⟨by rw[cell_of_row _ _ _ us e fr hw];exact hb,h1 v (Cr (i:=o) (by rw[CN hlt];simpa using hb)),.inl Ax⟩
    .cases hb
   .simp only[Gh.C5,Af he] at hb⊢;exact hi.HW b o v hb
  .by_cases he:Ft=id;.subst he;rw[AD (hi.mu _ _ hg)] at Ik;cases Ik;exact absurd rfl hy
   .rw[Ap (λx=>he x.symm)] at Ik;obtain⟨b,p,q⟩:=hi.Mj Ft y Ik hy;have:b≠g:=λhx=>by subst hx;exact he (uniq Ft y Ik hy p)
    exact⟨b,p,by simp only[Gh.C5,Af this];exact q⟩
  .by_cases he:Ft=id;.subst he;rw[AD (hi.mu _ _ hg)] at hc;cases hc
   .rw[Ap (λx=>he x.symm)] at hc;obtain⟨Dq,c,zG,p,pf,q,r⟩:=hi.cells Ft GB hc b hb;exact⟨Dq,c,zG,p,pf,AX.mono Es _ _ q,r⟩
  .by_cases he:Ft=id;.subst he;rw[AD (hi.mu _ _ hg)] at hc;cases hc
   .rw[Ap (λx=>he x.symm)] at hc;obtain⟨Dq,c,p,q⟩:=hi.map Ft es hc b hb;exact⟨Dq,c,p,q.mono Es⟩
  .by_cases he:b=g;.subst he;exact hi.BI b _ S4
   .simp only[Gh.C5,Af he] at hx;exact hi.BI b x hx
 .refine⟨Es,Ab _,rfl,rfl,rfl,λb hb hn=>⟨rfl,?_⟩⟩;have:b≠g:=λhe=>by subst he;exact hn id S4
  simp only[Gh.C5,Af this]
end
end Go.Am
end
section
namespace Go.Am
def Eu.Nd(C:Fx)(run:IT->Ai->Option Ju)(U:BF)(h:Ai)(e:BF)(h':Ai):Eu->Prop
 | .pure ws=>e=U.D4 ws/\h'=h
 | .op p args dst BI i=>∃v,Az p args=some v/\e=(U.Dr i).put dst (if BI then .BI v else .val v)/\h'=h
 | .box n v d=>v.cells.length=n/\e=U.set d (.box 0 v.cells [])/\h'=h
 | .closure fn a b fz d=>e=(U.D4 (fz.map λ(s,cs)=>(s,.val (.Cu cs)))).set d (.val (.func fn a b))/\h'=h
 | .MO s off n v BI i ver cells owned=>v.cells.length=n/\e=(U.Dr i).set s (.box (ver+1) (V6 cells off n v.cells) (RD owned off n BI))/\h'=h
 | .load n p dst=>∃v,Bd h n p=some v/\e=U.put dst (.val v)/\h'=h
 | .store n p v=>CK h n p v=some h'/\e=U
 | .alloc n v dst=>v.cells.length=n/\h'=h++[.cells v.cells]/\e=U.put dst (.val (.ptr (some (h.length,0))))
 | .call f args dst=>∃r,run (BZ C f args) h=some (.ret,[r],h')/\e=U.put dst (if C.JA f then .BI r else .val r)
 | .Iz g args dst=>∃f args' r,Cc g args=some (f,args')/\run (BZ C f args') h=some (.ret,[r],h')/\e=U.put dst (.val r)
 | .Cb f args dst=>args.all Aa.Mk=true/\∃r h1,run (BZ C f args) []=some (.ret,[r],h1)/\r.Mk=true/\e=U.put dst (.val r)/\h'=h
 | .O1 dst=>h'=h++[.map []]/\e=U.put dst (.val (.map (some h.length)))
 | .Kc m k v=>QB h m k v=some h'/\e=U
 | .make z b zero l c dst=>∃v,TX h z b zero l c=some (h',v)/\e=U.put dst (.val v)
 | .KJ z b s x dst i=>∃v,Kj h z b s x=some (h',v)/\e=(U.Dr i).put dst (.val v)
 | .ID z b s x dst=>∃v,FN h z b s x=some (h',v)/\e=U.put dst (.val v)
 | .F6 z b s x dst i=>∃v,QC h z b s x=some v/\e=(U.Dr i).put dst (.BI v)/\h'=h
 | .ET s dst=>∃v,Io h s=some (h',v)/\e=U.put dst (.val v)
 | .YB s dst=>∃v u,KK h s=some (h',v)/\Az .YB [v]=some u/\e=U.put dst (.val u)
 | .mem o args dst=>∃v,DZ o h args=some (h',v)/\e=U.put dst (if o.aBK then .undef else .val v)
 | .LO z ok m k dst=>∃v,OB h z ok m k=some v/\e=U.put dst (.val v)/\h'=h
def Th{n:Nat}{cs:List Aa}(h:cs.length=n):V5 n cs=cs:=by
 subst h;apply QW;intro i;simp only[V5,CA,List.getD];by_cases hi:i<cs.length;.simp[List.getElem?_range hi,Au hi]
 .simp[hi]
def Zl{C:Fx}{run:IT->Ai->Option Ju}{U:BF}{K:BF->IT}{h:Ai}{R:Ju}{r:Eu}
  (hr:IT.step (BZ C) run (r.LQ C U K) h=some R):∃i h',r.Nd C run U h i h'/\IT.step (BZ C) run (K i) h'=some R:=by
 cases r with
 |pure ws=>exact⟨_,_,⟨rfl,rfl⟩,hr⟩
 |op p args dst BI e=>
  simp only[Eu.LQ,IT.step] at hr;split at hr;.rename_i v hv;exact⟨_,_,⟨v,hv,rfl,rfl⟩,hr⟩
  .cases hr
 |box n v d=>
  simp only[Eu.LQ,IT.step] at hr;split at hr;.rename_i hn;rw[Th hn] at hr;exact⟨_,_,⟨hn,rfl,rfl⟩,hr⟩
  .cases hr
 |closure fn a b fz d=>exact⟨_,_,⟨rfl,rfl⟩,hr⟩
 |MO s off n v BI e ver cells owned=>
  simp only[Eu.LQ,IT.step] at hr;split at hr;.rename_i hn;rw[Th hn] at hr;exact⟨_,_,⟨hn,rfl,rfl⟩,hr⟩
  .cases hr
 |load n p dst=>
  simp only[Eu.LQ,IT.step] at hr;split at hr;.rename_i v hv;exact⟨_,_,⟨v,hv,rfl,rfl⟩,hr⟩
  .cases hr
 |store n p v=>
  simp only[Eu.LQ,IT.step] at hr;split at hr;.rename_i h1 hv;exact⟨_,_,⟨hv,rfl⟩,hr⟩
  .cases hr
 |alloc n v dst=>
  simp only[Eu.LQ,IT.step,VW] at hr;by_cases hn:v.cells.length=n;.rw[Ag hn] at hr;exact⟨_,_,⟨hn,rfl,rfl⟩,hr⟩
  .rw[Af hn] at hr;cases hr
 |call f args dst=>
  simp only[Eu.LQ,IT.step] at hr;split at hr;.rename_i r h1 hv;exact⟨_,_,⟨r,hv,rfl⟩,hr⟩
  .cases hr
 |Iz g args dst=>
  simp only[Eu.LQ,IT.step] at hr;split at hr
  .rename_i f a' ht;split at hr;.rename_i r h1 hv;exact⟨_,_,⟨f,a',r,ht,hv,rfl⟩,hr⟩
   .cases hr
  .cases hr
 |Cb f args dst=>
  simp only[Eu.LQ,IT.step] at hr;split at hr
  .rename_i Iq;split at hr
   .rename_i r h1 hv;split at hr;.rename_i fo;exact⟨_,_,⟨Iq,r,h1,hv,fo,rfl,rfl⟩,hr⟩
    .cases hr
   .cases hr
  .cases hr
 |O1 dst=>exact⟨_,_,⟨rfl,rfl⟩,hr⟩
 |Kc m k v=>
  simp only[Eu.LQ,IT.step] at hr;split at hr;.rename_i h1 hv;exact⟨_,_,⟨hv,rfl⟩,hr⟩
  .cases hr
 |LO z ok m k dst=>
  simp only[Eu.LQ,IT.step] at hr;split at hr;.rename_i v hv;exact⟨_,_,⟨v,hv,rfl,rfl⟩,hr⟩
  .cases hr
 |make z b zero l c dst=>
  simp only[Eu.LQ,IT.step] at hr;split at hr;.rename_i h1 v hv;exact⟨_,_,⟨v,hv,rfl⟩,hr⟩
  .cases hr
 |KJ z b s x dst e=>
  simp only[Eu.LQ,IT.step] at hr;split at hr;.rename_i h1 v hv;exact⟨_,_,⟨v,hv,rfl⟩,hr⟩
  .cases hr
 |ID z b s x dst=>
  simp only[Eu.LQ,IT.step] at hr;split at hr;.rename_i h1 v hv;exact⟨_,_,⟨v,hv,rfl⟩,hr⟩
  .cases hr
 |F6 z b s x dst e=>
  simp only[Eu.LQ,IT.step] at hr;split at hr;.rename_i v hv;exact⟨_,_,⟨v,hv,rfl,rfl⟩,hr⟩
  .cases hr
 |ET s dst=>
  simp only[Eu.LQ,IT.step] at hr;split at hr;.rename_i h1 v hv;exact⟨_,_,⟨v,hv,rfl⟩,hr⟩
  .cases hr
 |YB s dst=>
  simp only[Eu.LQ,IT.step] at hr;split at hr
  .rename_i h1 v hv;split at hr;.rename_i u hu;exact⟨_,_,⟨v,u,hv,hu,rfl⟩,hr⟩
   .cases hr
  .cases hr
 |mem o args dst=>
  simp only[Eu.LQ,IT.step] at hr;split at hr;.rename_i h1 v hv;exact⟨_,_,⟨v,hv,rfl⟩,hr⟩
  .cases hr
structure CW(C:Fx)(γ0:Gh)(w0:World)(γ:Gh)(β:Nat->Nat)(U:BF)(h:Ai)(a:Act)(w:World):Prop where
 DL:Hw γ h w
 fr:FR γ β w0.heap.size U a.tmps w
 DE:LR γ0 w0 γ w
 defers:a.defers=[]
 GN:∀g cs,C.GN g=some cs->CQ γ cs g 0
def RI{γ:Gh}{v:Value}{a:Aa}(h:O0 v=some a):BH γ a v/\v.oneCell'=true:=by
 unfold O0 at h;split at h;case h_7=>
  rename_i fn f c;split at h;.rename_i hs;cases h;have d:f=#[]:=Ig hs.1;have b:c=#[]:=Ig hs.2;subst d;subst b;exact⟨⟨#[],#[],rfl,rfl,rfl⟩,rfl⟩
  .cases h
 all_goals first
  |(cases h;exact⟨rfl,rfl⟩)
  |cases h
def MQ{γ:Gh}:∀{vs:List Value} {as:List Aa},LF vs=some as->AX γ as vs/\∀v∈vs,v.oneCell'=true
 |[],as,h=>by cases h;exact⟨rfl,Ax⟩
 |v::vs,as,h=>by
  unfold LF at h;split at h;.rename_i a c h1 h2;cases h;obtain⟨p,q⟩:=RI (γ:=γ) h1;obtain⟨p',b⟩:=MQ (γ:=γ) h2;exact⟨⟨v,vs,rfl,p,p'⟩,λx hx=>(AF.1 hx).elim (λe=>by rw[e];exact q) (b x)⟩
  .cases h
def E9{γ:Gh}{v:Value}{a:Aa}(h:KA v=some a):BH γ a v:=by
 unfold KA at h;split at h
 .rename_i cs;cases hs:LF cs.toList with
  |none=>rw[hs] at h;cases h
  |some as=>rw[hs] at h;cases h;obtain⟨p,q⟩:=MQ (γ:=γ) hs;exact⟨cs,rfl,p,q⟩
 .exact(RI h).1
section
variable{C:Fx}{γ0 γ:Gh}{w0 w:World}{β:Nat->Nat}{U:BF}{h:Ai}{a:Act}
def Q2(hr:CW C γ0 w0 γ β U h a w){x:Operand}{sl:Ec}(hx:DS C U x=some sl)(hn:∀s,x≠ .tmp s):∃s,Lf γ β w0.heap.size w s sl (a.eval x):=by
 unfold DS at hx;split at hx;.exact absurd rfl (hn _)
 .cases hx;exact⟨0,rfl⟩
 .cases hx;exact⟨0,rfl,.inl (.inl rfl)⟩
 .rename_i v _ _;cases hc:KA v with
  |none=>rw[hc] at hx;cases hx
  |some u=>rw[hc] at hx;cases hx;exact⟨0,E9 hc⟩
 .rename_i g;cases hc:C.GN g with
  |none=>rw[hc] at hx;cases hx
  |some cs=>rw[hc] at hx;cases hx;exact⟨0,g,0,rfl,hr.GN g cs hc⟩
 .cases hx;exact⟨0,#[],#[],rfl,rfl,rfl⟩
def RJ(hr:CW C γ0 w0 γ β U h a w)(s:Nat):Lf γ β w0.heap.size w s (U.at s) (a.eval (.tmp s)):=hr.fr.HT s
def FW(hr:CW C γ0 w0 γ β U h a w){x:Operand}{sl:Ec}(hx:DS C U x=some sl):∃s,Lf γ β w0.heap.size w s sl (a.eval x)/\∀t,x= .tmp t->s=t:=by
 cases x with
 |tmp t=>cases hx;exact⟨t,RJ hr t,λ_ h=>by cases h;rfl⟩
 |const v=>obtain⟨s,h1⟩:=Q2 hr hx (by intro s h;cases h);exact⟨s,h1,λ_ h=>by cases h⟩
 |global g=>obtain⟨s,h1⟩:=Q2 hr hx (by intro s h;cases h);exact⟨s,h1,λ_ h=>by cases h⟩
 |func f=>obtain⟨s,h1⟩:=Q2 hr hx (by intro s h;cases h);exact⟨s,h1,λ_ h=>by cases h⟩
def Nf{B s:Nat}{sl:Ec}{v:Value}{u:Aa}(hs:Lf γ β B w s sl v)(hv:sl.GW=some u):BH γ u v:=by
 cases sl<;>simp[Ec.GW] at hv;.subst hv;exact hs
 .subst hv;exact hs
 .subst hv;exact hs.1
def Gc(hr:CW C γ0 w0 γ β U h a w){x:Operand}{u:Aa}(hx:EK C U x=some u):BH γ u (a.eval x):=by
 unfold EK at hx;cases hs:DS C U x with
 |none=>rw[hs] at hx;cases hx
 |some sl=>rw[hs] at hx;obtain⟨s,h1,_⟩:=FW hr hs;exact Nf h1 hx
def DF(hr:CW C γ0 w0 γ β U h a w):∀{xs:List Operand} {us:List Aa},Bq C U xs=some us->AX γ us (xs.map a.eval)
 |[],us,hx=>by cases hx;rfl
 |x::xs,us,hx=>by
  unfold Bq at hx;split at hx;.rename_i u Dq h1 h2;cases hx;exact⟨_,_,rfl,Gc hr h1,DF hr h2⟩
  .cases hx
def FR.put{B:Nat}{tmps:Array Value}(hf:FR γ β B U tmps w){d:Nat}{x:Ec}{v:Value}(hx:Lf γ β B w d x v):FR γ β B (U.set d x) (tmps.setIfInBounds d v) w:=by
 refine⟨by simp[hf.size],λs=>?_⟩;have hs:=hf.HT s;by_cases he:s=d
 .subst he;by_cases hl:s<U.length
  .have vq:s<tmps.size:=by rw[<-hf.size];exact hl
   simpa[BF.at,List.getD,hl,vq,Array.getD] using hx
  .have vq:¬s<tmps.size:=by rw[<-hf.size];exact hl
   simpa[BF.at,List.getD,hl,vq,Array.getD] using hs
 .have h1:BF.at (U.set d x) s=U.at s:=by simp[BF.at,List.getD,Ap (λe=>he e.symm)]
  have h2:(tmps.setIfInBounds d v).getD s undef=tmps.getD s undef:=by simp[GJ,pJ (λe=>he e.symm)]
  rw[h1,h2];exact hs
def FR.kS{B:Nat}{tmps:Array Value}(hf:FR γ β B U tmps w){d:Nat}{x:Ec}(hx:Lf γ β B w d x (tmps.getD d undef)):FR γ β B (U.set d x) tmps w:=by
 refine⟨by simp[hf.size],λs=>?_⟩;have hs:=hf.HT s;by_cases he:s=d
 .subst he;by_cases hl:s<U.length;.simpa[BF.at,List.getD,hl] using hx
  .simpa[BF.at,List.getD,hl] using hs
 .have h1:BF.at (U.set d x) s=U.at s:=by simp[BF.at,List.getD,Ap (λe=>he e.symm)]
  rw[h1];exact hs
def CW.put(hr:CW C γ0 w0 γ β U h a w){d:Option Nat}{x:Ec}{v:Value}(hx:∀s,d=some s->Lf γ β w0.heap.size w s x v):CW C γ0 w0 γ β (U.put d x) h (a.put d v) w:=by
 cases d with
 |none=>exact hr
 |some d=>exact⟨hr.DL,hr.fr.put (hx d rfl),hr.DE,hr.defers,hr.GN⟩
def CW.kS(hr:CW C γ0 w0 γ β U h a w){d:Nat}{x:Ec}(hx:Lf γ β w0.heap.size w d x (a.tmps.getD d undef)):CW C γ0 w0 γ β (U.set d x) h a w:=
 ⟨hr.DL,hr.fr.kS hx,hr.DE,hr.defers,hr.GN⟩
def CW.drop(hr:CW C γ0 w0 γ β U h a w)(ds:List Nat):CW C γ0 w0 γ β (U.drop ds) h a w:=by
 cases ds with
 |nil=>exact hr
 |cons d ds=>
  refine⟨hr.DL,⟨by simp[BF.drop,hr.fr.size],λs=>?_⟩,hr.DE,hr.defers,hr.GN⟩;have hs:=hr.fr.HT s;have e:(BF.drop U (d::ds)).at s=match U.at s with| .EY t o=>if(d::ds).contains t then .undef else .EY t o|x=>x:=by
   simp only[BF.drop,BF.at,List.getD,CA];cases hg:U[s]? with
   |none=>rfl
   |some x=>cases x<;>rfl
  rw[e];cases hx:U.at s with
  |EY t o=>
   rw[hx] at hs;simp only
   split;.trivial
   .exact hs
  |_=>rw[hx] at hs;exact hs
def CW.IA(hr:CW C γ0 w0 γ β U h a w){γ':Gh}{h':Ai}{w':World}(hi:Hw γ' h' w')(ha:LR γ w γ' w'):CW C γ0 w0 γ' β U h' a w':=
 ⟨hi,hr.fr.kept (zF.Ğ hr.DL ha),hr.DE.trans ha,hr.defers,λg cs hg=>CQ.mono ha.le _ _ _ (hr.GN g cs hg)⟩
def IQ{P:Program}{o:Oper}{v:Value}{w':World}{next:Act->World->Prop}{Q:Exit->Act->World->Prop}(he:(execOp a.eval o).run P w= .ok (.value v) w')(hn:next (a.put o.dst v) w'):o.wp P a w next Q:=by unfold Oper.wp;rw[he];exact hn
def pT{P:Program}{o:Oper}{w':World}{next:Act->World->Prop}{Q:Exit->Act->World->Prop}(he:(execOp a.eval o).run P w= .ok .skip w')(hn:next (a.put o.dst undef) w'):o.wp P a w next Q:=by unfold Oper.wp;rw[he];exact hn
end
end Go.Am
end
section
namespace Go.Am
def Gh.Fq(γ:Gh)(g:Nat)(x:Kh):Gh:={γ with BI:=λb=>if b=g then some x else γ.BI b}
section
variable{C:Fx}{γ0 γ:Gh}{w0 w:World}{β:Nat->Nat}{U:BF}{h:Ai}{a:Act}
def GY(γ:Gh)(g:Nat)(x:Kh):γ.le (γ.Fq g x):=⟨λ_ _ _ h=>h,λ_ _ h=>h,λ_ _ h=>h⟩
def Hw.Fq(hi:Hw γ h w){g s s' st:Nat}{c c':Option Nat}(hg:γ.BI g=some (.tail s c st)):Hw (γ.Fq g (.tail s' c' st)) h w:=by
 refine⟨λb o v hb=>?_,λid y Ik hy=>?_,λid cs hc b hb=>?_,λid es hc b hb=>?_,hi.mu,λb x hx=>?_,λb n hb=>?_⟩;rotate_left 5
 .obtain⟨p,r⟩:=hi.sz b n hb;have:b≠g:=λhe=>by subst he;rw[hg] at r;rcases r with r|⟨_,r⟩<;>cases r
  exact⟨p,by simp only[Gh.Fq,Af this];exact r⟩
 .obtain⟨p,q,r⟩:=hi.HW b o v hb;refine⟨p,q,?_⟩;by_cases he:b=g
  .subst he;rw[hg] at r;rcases r with r|⟨_,_,_,r,hl⟩
   .cases r
   .cases r;exact .inr ⟨s',c',st,by simp[Gh.Fq],hl⟩
  .simpa only[Gh.Fq,Af he] using r
 .obtain⟨b,p,q⟩:=hi.Mj id y Ik hy;have:b≠g:=λhe=>by subst he;rw[hg] at q;cases q
  exact⟨b,p,by simp only[Gh.Fq,Af this];exact q⟩
 .obtain⟨us,e,fr,p,pf,q,r⟩:=hi.cells id cs hc b hb;exact⟨us,e,fr,p,pf,AX.mono (GY γ g _) _ _ q,r⟩
 .obtain⟨us,e,p,q⟩:=hi.map id es hc b hb;exact⟨us,e,p,q.mono (GY γ g _)⟩
 .by_cases he:b=g;.subst he;exact hi.BI b _ hg
  .simp only[Gh.Fq,Af he] at hx;exact hi.BI b x hx
def IP.Fq{B:Nat}{s b st:Nat}{c f:Option Nat}{v:Value}{u:Aa}{x:Kh}{g:Nat}(hg:γ.BI g=some (.tail s c st))(ho:IP γ B w b f v u)(hne:b≠s\/f≠c):IP (γ.Fq g x) B w b f v u:=by
 rcases ho with ho|⟨g2,n,cap,us,e,z,Av,h1,h2,d,i⟩
 .exact .inl ho
 .have:g2≠g:=λhe=>by subst he;rw[hg] at d;cases d;rcases hne with hne|hne<;>exact hne rfl
  exact .inr ⟨g2,n,cap,us,e,z,Av,h1,h2,by simp only[Gh.Fq,Af this];exact d,i⟩
def FR.Fq{B:Nat}{tmps:Array Value}(hf:FR γ β B U tmps w){g s st:Nat}{c:Option Nat}{x:Kh}(hg:γ.BI g=some (.tail s c st))
  (h1:c=none->∀v,U.at s≠ .BI v) (h2:∀o,c=some o->∀ver cs ow,U.at s= .box ver cs ow->o∉ow):FR (γ.Fq g x) β B U tmps w:=by
 refine⟨hf.size,λd=>?_⟩;have hs:=hf.HT d;cases hx:U.at d with
 |undef=>trivial
 |skip=>rw[hx] at hs;exact hs
 |val u=>rw[hx] at hs;exact BH.mono (GY γ g x) _ _ hs
 |OQ b=>rw[hx] at hs;exact hs
 |BI u=>
  rw[hx] at hs;refine⟨BH.mono (GY γ g x) _ _ hs.1,hs.2.Fq hg ?_⟩;by_cases he:d=s
  .subst he;cases c with
   |none=>exact absurd hx (h1 rfl u)
   |some o=>exact .inr Ax
  .exact .inl he
 |box ver cs ow=>
  rw[hx] at hs;obtain⟨r,f,q,us,e,p,n,m,l⟩:=hs;have hb:β d≠g:=λhe=>by rw[he,hg] at f;cases f
  refine⟨r,by simp only[Gh.Fq,Af hb];exact f,q,us,e,p,AX.mono (GY γ g x) _ _ n,m,λo ho=>?_⟩;obtain⟨u,v,k,j,i⟩:=l o ho;refine⟨u,v,k,j,i.Fq hg ?_⟩;by_cases he:d=s
  .subst he;cases c with
   |none=>exact .inr Ax
   |some o'=>refine .inr λhe=>?_;cases he;exact h2 o rfl ver cs ow hx ho
  .exact .inl he
 |EY s' o=>rw[hx] at hs;exact hs
def CW.Fq(hr:CW C γ0 w0 γ β U h a w){g s st s':Nat}{c c':Option Nat}(hg:γ.BI g=some (.tail s c st))(hB:w0.heap.size<=g)
  (h1:c=none->∀v,U.at s≠ .BI v) (h2:∀o,c=some o->∀ver cs ow,U.at s= .box ver cs ow->o∉ow):CW C γ0 w0 (γ.Fq g (.tail s' c' st)) β U h a w:=by
 refine⟨hr.DL.Fq hg,hr.fr.Fq hg h1 h2,?_,hr.defers,λx cs hx=>CQ.mono (GY γ g _) _ _ _ (hr.GN x cs hx)⟩;refine⟨hr.DE.le.trans (GY γ g _),hr.DE.size,hr.DE.os,hr.DE.tape,hr.DE.output,λb hb hn=>?_⟩;.obtain⟨p,q⟩:=hr.DE.NS b hb hn;exact⟨p,by simp only[Gh.Fq,Af (Ac:b≠g)];exact q⟩
def BF.Fa{s:Nat}{x:Ec}(hs:s<U.length):BF.at (U.set s x) s=x:=by simp[BF.at,List.getD,hs]
def BF.FJ{s t:Nat}{x:Ec}(hs:s≠t):BF.at (U.set s x) t=U.at t:=by simp[BF.at,List.getD,Ap hs]
def BF.O7{s:Nat}(hs:U.at s≠ .undef):s<U.length:=by
 rcases Bl s U.length with h|h
 .exact h
 .exact absurd (by simp[BF.at,List.getD,DQ h]) hs
def CW.take(hr:CW C γ0 w0 γ β U h a w){s:Nat}{v:Aa}(hs:U.at s= .BI v)(s':Nat)(c':Option Nat):
  ∃γ',γ.le γ'/\CW C γ0 w0 γ' β (U.set s (.val v)) h a w/\BH γ' v (a.tmps.getD s undef)/\IP γ' w0.heap.size w s' c' (a.tmps.getD s undef) v:=by
 have h0:=hr.fr.HT s;rw[hs] at h0;obtain⟨hv,ho⟩:=h0;have Jv:CW C γ0 w0 γ β (U.set s (.val v)) h a w:=hr.kS hv;have hl:s<U.length:=BF.O7 (by rw[hs];simp);rcases ho with ho|⟨g,n,cap,us,e,z,Av,h1,h2,d,b,c⟩
 .exact⟨γ,.refl _,Jv,hv,.inl ho⟩
 .refine⟨γ.Fq g (.tail s' c' (n*z)),GY _ _ _,Jv.Fq d b (λ_ u=>?_) (λo ho=>by cases ho),BH.mono (GY _ _ _) _ _ hv,.inr ⟨g,n,cap,us,e,z,Av,h1,h2,by simp[Gh.Fq],b,c⟩⟩;rw[BF.Fa hl];simp
def aT{B s d:Nat}{sl b:Ec}{v:Value}(hs:Lf γ β B w s sl v)(hc:H6 sl=some b):Lf γ β B w d b v:=by
 cases sl<;>simp[H6] at hc;.subst hc;exact hs
 .subst hc;exact hs
 .subst hc;exact hs.1
 .subst hc;exact hs
def NV{ws:List (Nat×Ec)}(h:∀p∈ws,∀cs ow,p.2≠ .box 0 cs ow):(Eu.pure ws).news=[]:=by
 simp only[Eu.news,List.filterMap_eq_nil_iff];rintro⟨s,x⟩ hp;have:=h _ hp;cases x with
 |box ver cs ow=>
  cases ver with
  |zero=>exact absurd rfl (this cs ow)
  |succ n=>rfl
 |_=>rfl
def RK{v:Value}{sl:Ec}(hs:DS C U (.const v)=some sl):(∀B d,Lf γ β B w d sl v)/\∀ver cs ow,sl≠ .box ver cs ow:=by
 unfold DS at hs;split at hs;.rename_i Kb;cases Kb
 .rename_i Kb;cases Kb;cases hs;exact⟨λ_ _=>rfl,λ_ _ _ h=>by cases h⟩
 .rename_i Kb;cases Kb;cases hs;exact⟨λ_ _=>⟨rfl,.inl (.inl rfl)⟩,λ_ _ _ h=>by cases h⟩
 .rename_i Kb;cases Kb;cases hc:KA v with
  |none=>rw[hc] at hs;cases hs
  |some u=>rw[hc] at hs;cases hs;exact⟨λ_ _=>E9 hc,λ_ _ _ h=>by cases h⟩
 .rename_i Kb;cases Kb
 .rename_i Kb;cases Kb
def GF{s:Nat}{sl:Ec}(hs:DS C U (.tmp s)=some sl):U.at s=sl:=D3 hs
def pU{x:Operand}{v:Aa}(hs:DS C U x=some (.BI v))(hn:∀c,x≠ .const c):∃s,x= .tmp s/\U.at s= .BI v:=by
 cases x with
 |tmp s=>exact⟨s,rfl,GF hs⟩
 |const c=>exact absurd rfl (hn c)
 |global g=>have j8:(C.GN g).map (λcs=>Ec.val (Aa.Cu cs))=some (.BI v):=hs;cases hc:C.GN g<;>rw[hc] at j8<;>cases j8
 |func f=>cases hs
def RL{x:Operand}{d:Nat}{take:Bool}{r:Eu}{run:IT->Ai->Option Ju}{e:BF}{h':Ai}(hm:Kl C U x d take=some r)(hd:r.Nd C run (U.drop r.news) h e h')
  (hr:CW C γ0 w0 γ β U h a w):∃γ',CW C γ0 w0 γ' β e h' (a.put (some d) (a.eval x)) w:=by
 unfold Kl at hm;split at hm;.rename_i s _ _ _ hs;cases hm;rw[NV Ax] at hd;obtain⟨rfl,rfl⟩:=hd;refine⟨γ,hr.put (d:=some d) λt ht=>?_⟩;have h0:=RJ hr s;rw[GF hs] at h0;exact h0.1
 .rename_i v sl hs;cases hm;obtain⟨p,q⟩:=RK (γ:=γ) (β:=β) (w:=w) hs;rw[NV (by simpa using λcs ow=>q 0 cs ow)] at hd;obtain⟨rfl,rfl⟩:=hd;exact⟨γ,hr.put (d:=some d) λt _=>p _ t⟩
 .rename_i v hnc hs;split at hm;.cases hm;obtain⟨s,rfl,Ò⟩:=pU hs (λc hc=>hnc c hc);rw[NV (by simp[RC])] at hd;obtain⟨rfl,rfl⟩:=hd;obtain⟨γ',Es,Hn,Hq,vr⟩:=hr.take Ò d none;exact⟨γ',Hn.put (d:=some d) λt ht=>by cases ht;exact⟨Hq,vr⟩⟩
  .simp only[H6,BJ] at hm;cases hm;rw[NV Ax] at hd;obtain⟨rfl,rfl⟩:=hd;obtain⟨s,h1,_⟩:=FW hr hs;exact⟨γ,hr.put (d:=some d) λt ht=>h1.1⟩
 .rename_i sl _ _ _ hs;cases hc:H6 sl with
  |none=>rw[hc] at hm;cases hm
  |some b=>
   rw[hc] at hm;cases hm;have ji:∀cs ow,b≠ .box 0 cs ow:=by intro cs ow he;subst he;cases sl<;>simp[H6] at hc
   rw[NV (by simpa using ji)] at hd;obtain⟨rfl,rfl⟩:=hd;obtain⟨s,h1,_⟩:=FW hr hs;exact⟨γ,hr.put (d:=some d) λt ht=>aT h1 hc⟩
 .cases hm
end
end Go.Am
end
section
namespace Go.Am
open Go
def We{s:Sem Value}{v:Value}(h:PV s=some v):s= .pure v:=by cases s<;>simp[PV] at h;subst h;rfl
section
variable{P:Program}{γ:Gh}{w:World}
def kT{op:BinOp}{k l:IntKind}{x y:Int}{u:Aa}(t:TypeId)(c b:Operand)(h:vG op k x l y=some u):
  ∃v,(do eqGuard op t c b (.int k x) (.int l y);binOp op t (.int k x) (.int l y):Sem Value).run P w= .ok v w/\BH γ u v:=by
 unfold vG at h;cases hs:PV (binOp op 0 (.int k x) (.int l y)) with
 |none=>rw[hs] at h;cases h
 |some v=>
  rw[hs] at h;have f:=We hs;have e:binOp op t (.int k x) (.int l y)= .pure v:=by rw[<-f];cases op<;>rfl
  have d:eqGuard op t c b (.int k x) (.int l y)=pure ():=by cases op<;>rfl
  refine⟨v,by rw[d,e];rfl,?_⟩;simp only[Cd] at h;split at h<;>cases h<;>rfl
def aU(l:List UInt8):(ByteArray.mk ⟨l⟩).toList=l:=ByteArray.toList_mk l
def kU{op:BinOp}{x y:Aj}{u:Aa}(t:TypeId)(d c:Operand)(h:kN op x y=some u):
  ∃v,(do eqGuard op t d c (.string ⟨⟨x⟩⟩) (.string ⟨⟨y⟩⟩);binOp op t (.string ⟨⟨x⟩⟩) (.string ⟨⟨y⟩⟩):Sem Value).run P w= .ok v w/\BH γ u v:=by
 have e:eqGuard op t d c (.string ⟨⟨x⟩⟩) (.string ⟨⟨y⟩⟩)=pure ():=by cases op<;>rfl
 have b:binOp op t (.string ⟨⟨x⟩⟩) (.string ⟨⟨y⟩⟩)=Op.stringOp op ⟨⟨x⟩⟩ ⟨⟨y⟩⟩:=by cases op<;>rfl
 rw[e,b];unfold kN at h;cases op<;>simp only at h<;>first
  |cases h;done
  |(simp only[Op.stringOp,aU];cases h;exact⟨_,rfl,rfl⟩)
  | (split at h
     . rename_i Es
       cases h
       have hc : ¬ ((((ByteArray.mk ⟨x⟩).size + (ByteArray.mk ⟨y⟩).size : Nat) : Int) > IntKind.i64.max) := by
         have f : (ByteArray.mk ⟨x⟩).size = x.length := rfl
         have b : (ByteArray.mk ⟨y⟩).size = y.length := rfl
         rw [f, b]
         have : IntKind.i64.max = 9223372036854775807 := AM
         rw [this]
         omega
       simp only [Op.stringOp, Af hc]
       refine ⟨_, rfl, ?_⟩
       show Value.string _ = Value.string _
       first
         | (congr 1; done)
         | (congr 1; apply ByteArray.ext; simp)
     . cases h)
def pV{t:TypeId}(h:E5 P t=some none):(isAgg t).run P w= .ok false w:=by
 unfold E5 at h;split at h;.cases hs:BQ P t<;>rw[hs] at h<;>cases h
 .cases hs:BQ P t<;>rw[hs] at h<;>cases h
 .rename_i d h1 h2 hu;simp only[isAgg,Sem.run_bind,run_underlying hu,Result.andThen_ok];rfl
 .cases h
def Q3{t:TypeId}{n:Nat}(h:E5 P t=some (some n)):(isAgg t).run P w= .ok true w/\BQ P t=some n:=by
 unfold E5 at h;split at h
 .rename_i fs hu;cases hs:BQ P t with
  |none=>rw[hs] at h;cases h
  |some m=>rw[hs] at h;cases h;exact⟨by simp[isAgg,run_underlying hu],rfl⟩
 .rename_i fs _ hu;cases hs:BQ P t with
  |none=>rw[hs] at h;cases h
  |some m=>rw[hs] at h;cases h;exact⟨by simp[isAgg,run_underlying hu],rfl⟩
 .cases h
 .cases h
def Du{t:TypeId}{n:Nat}(h:BQ P t=some n):(sizeOf t).run P w= .ok n w:=by
 unfold BQ at h;cases hi:P.info? t with
 |none=>rw[hi] at h;cases h
 |some i=>rw[hi] at h;cases h;simp[sizeOf,typeInfo,hi]
def kW{t:TypeId}{b:Option Nat}{cs:List Aa}{us:Array Value}{off:Nat}{u:Aa}(o9:E5 P t=some b)(hr:AX γ cs us.toList)(h1:∀v∈us.toList,v.oneCell'=true)
  (hp:E8 cs off b=some u):∃v,(part t us off).run P w= .ok v w/\BH γ u v:=by
 cases b with
 |none=>
  replace hp:cs[off]?=some u:=hp;obtain⟨v,hv,hrel⟩:=hr.get hp;refine⟨v,?_,hrel⟩;have Hq:us[off]?=some v:=by simpa using hv
  simp[part,pV o9,Hq]
 |some n=>
  obtain⟨ha,hs⟩:=Q3 (w:=w) o9;replace hp:(if off+n<=cs.length then some (Aa.agg ((cs.drop off).take n)) else none)=some u:=hp;split at hp
  .cases hp;refine⟨.agg (us.extract off (off+n)),by simp[part,ha,Du hs],us.extract off (off+n),rfl,?_,?_⟩;.have:=(hr.drop off).take n;simpa[NL,Hu] using this
   .intro v hv;refine h1 v ?_;rw[NL,Hu] at hv;exact Bu (A0 hv)
  .cases hp
end
end Go.Am
end
section
namespace Go.Am
open Go
def jj{x y:Aa}{b:Bool}(h:LM .b x y=some b):∃p q,x= .bool p/\y= .bool q/\(p==q)=b:=by unfold LM at h;split at h<;>first|cases h;done|(rename_i he;cases he;done)|(cases h;exact⟨_,_,rfl,rfl,rfl⟩)
def jk{x y:Aa}{b:Bool}(h:LM .i x y=some b):∃k p q,x= .int k p/\y= .int k q/\(p==q)=b:=by
 unfold LM at h;split at h;.rename_i he;cases he
 .split at h;.rename_i hk;subst hk;cases h;exact⟨_,_,_,rfl,rfl,rfl⟩
  .cases h
 .rename_i he;cases he
 .cases h
def jl{x y:Aa}{b:Bool}(h:LM .s x y=some b):∃p q,x= .str p/\y= .str q/\(p==q)=b:=by
 unfold LM at h;split at h;.rename_i he;cases he
 .rename_i he;cases he
 .cases h;exact⟨_,_,rfl,rfl,rfl⟩
 .cases h
def O8:∀{ks ġ:List FK} {xs ys:List Aa} {b:Bool},DU (ks++ġ) xs ys=some b->
  ∃b1 b2,DU ks (xs.take ks.length) (ys.take ks.length)=some b1/\DU ġ (xs.drop ks.length) (ys.drop ks.length)=some b2/\b=(b1&&b2)
 |[],ġ,xs,ys,b,h=>⟨true,b,by simp[DU],by simpa using h,Ax⟩
 |k::ks,ġ,[],ys,b,h=>by cases ys<;>simp[DU] at h
 |k::ks,ġ,x::xs,[],b,h=>by simp[DU] at h
 |k::ks,ġ,x::xs,y::ys,b,h=>by
  simp only[CD,DU] at h;split at h;.rename_i e es h1 h2;cases h;obtain⟨b1,b2,p,q,r⟩:=O8 h2;refine⟨e&&b1,b2,?_,by simpa using q,by rw[r,Bool.and_assoc]⟩;simp only[AG,Gy,DU,h1,p]
  .cases h
def O9:∀{ks:List FK} {xs ys:List Aa} {b:Bool},DU ks xs ys=some b->xs.length=ks.length/\ys.length=ks.length
 |[],xs,ys,b,h=>by cases xs<;>cases ys<;>simp[DU] at h⊢
 |k::ks,xs,ys,b,h=>by
  cases xs<;>cases ys<;>simp[DU] at h;split at h;.rename_i h1 h2;obtain⟨p,q⟩:=O9 h2;simp[p,q]
  .cases h
section
variable{P:Program}{γ:Gh}{w:World}
def Zm:∀{d:Nat} {t:TypeId} {ks:List FK},O4 P d t=some ks->BQ P t=some ks.length
 |0,t,ks,h=>by cases h
 |d+1,t,ks,h=>by
  simp only[O4] at h;split at h;.split at h<;>cases h;assumption
  .split at h<;>cases h;assumption
  .split at h<;>cases h;assumption
  .split at h
   .split at h;.rename_i hc;cases h;exact hc.1
    .cases h
   .cases h
  .cases h
def pW{ks:List FK}{k:FK}{t:TypeId}(h:(if BQ P t=some 1 then some [k] else none)=some ks):ks=[k]:=by split at h<;>cases h;rfl
def Gd{t:TypeId}{us:Array Value}{off:Nat}{v:Value}{d:TypeDesc}(hu:P.underlying t=some d)(h1:∀fs,d≠ .struct fs)(h2:∀n e,d≠ .array n e)(hv:us[off]?=some v):
  (part t us off).run P w= .ok v w:=by
 have ha:(isAgg t).run P w= .ok false w:=by simp only[isAgg,Sem.run_bind,run_underlying hu,Result.andThen_ok];cases d<;>first|rfl|exact absurd rfl (h1 _)|exact absurd rfl (h2 _ _)
 simp[part,ha,hv]
def Ji{l:List Aa}{off:Nat}{x:Aa}(h:(l.drop off).take 1=[x]):l[off]?=some x:=by have:=Cm (·[0]?) h;simpa using this
def Wf{k:FK}{xs ys:List Aa}{b:Bool}(h:DU [k] xs ys=some b):∃x y,xs=[x]/\ys=[y]/\LM k x y=some b:=by
 cases xs<;>cases ys<;>simp[DU] at h;rename_i x xs y ys;cases xs<;>cases ys<;>simp[DU] at h;all_goals first
  | (split at h
     . rename_i e es h1 h2; cases h2; cases h; exact ⟨x, y, rfl, rfl, by simpa using h1⟩
     . cases h)
  |(split at h<;>simp_all)
mutual
def kX:∀{d D:Nat},d<=D->∀{t:TypeId} {ks:List FK},O4 P d t=some ks->∀(us vs:Array Value) (cs ds:List Aa) (off:Nat) (b:Bool),AX γ cs us.toList->AX γ ds vs.toList->
  DU ks ((cs.drop off).take ks.length) ((ds.drop off).take ks.length)=some b->
  ∃x y,(part t us off).run P w= .ok x w/\(part t vs off).run P w= .ok y w/\(Op.equalIn D t x y).run P w= .ok b w
 |0,_,_,_,_,h=>by cases h
 |d+1,0,hd,_,_,_=>Ac
 |d+1,D+1,hd,t,ks,h=>by
  intro us vs cs ds off b hu hv he;have K8:=Zm h;simp only[O4] at h;split at h;.rename_i Zn;have:=pW h;subst this;obtain⟨x,y,m,l,k⟩:=Wf he;obtain⟨x',i,g⟩:=hu.get (Ji m);obtain⟨c,f,e⟩:=hv.get (Ji l);refine⟨x',c,Gd Zn Ax Ax (by simpa using i),Gd Zn Ax Ax (by simpa using f),?_⟩;obtain⟨o,n,rfl,rfl,j⟩:=jj k;rw[g,e,run_equalIn_bool' w D t _ _ Zn,<-j]
  .rename_i kk Zn;have:=pW h;subst this;obtain⟨x,y,m,l,k⟩:=Wf he;obtain⟨x',i,g⟩:=hu.get (Ji m);obtain⟨c,f,e⟩:=hv.get (Ji l);refine⟨x',c,Gd Zn Ax Ax (by simpa using i),Gd Zn Ax Ax (by simpa using f),?_⟩;obtain⟨p,o,n,rfl,rfl,j⟩:=jk k;rw[g,e,run_equalIn_int w D t _ _ _ _ Zn,<-j]
  .rename_i Zn;have:=pW h;subst this;obtain⟨x,y,m,l,k⟩:=Wf he;obtain⟨x',i,g⟩:=hu.get (Ji m);obtain⟨c,f,e⟩:=hv.get (Ji l);refine⟨x',c,Gd Zn Ax Ax (by simpa using i),Gd Zn Ax Ax (by simpa using f),?_⟩;obtain⟨o,n,rfl,rfl,j⟩:=jl k;rw[g,e,run_equalIn_string w D t _ _ Zn,aU,aU,<-j]
  .rename_i fs Zn;split at h
   .rename_i ġ JF;split at h
    .rename_i hc;cases h;have o9:E5 P t=some (some ks.length):=by simp[E5,Zn,K8]
     obtain⟨ha,hs⟩:=Q3 (w:=w) o9;refine⟨.agg (us.extract off (off+ks.length)),.agg (vs.extract off (off+ks.length)),by simp[part,ha,Du hs],by simp[part,ha,Du hs],?_⟩;have aGq:P.underlying t=some (.struct (P.fieldsOf t)):=by simp[Program.fieldsOf,Zn]
     rw[run_equalIn_struct w D t _ _ aGq hc.2];have hf:(P.fieldsOf t).toList=fs.toList:=by simp[Program.fieldsOf,Zn]
     rw[hf];have zI:AX γ ((cs.drop off).take ks.length) (us.extract off (off+ks.length)).toList:=by have:=(hu.drop off).take ks.length;simpa[NL,Hu] using this
     have Hq:AX γ ((ds.drop off).take ks.length) (vs.extract off (off+ks.length)).toList:=by have:=(hv.drop off).take ks.length;simpa[NL,Hu] using this
     refine Zo (Nat.le_of_succ_le_succ hd) fs.toList JF _ _ _ _ _ zI Hq ?_;simpa using he
    .cases h
   .cases h
  .cases h
def Zo:∀{d D:Nat},d<=D->∀(fs:List Field) {off:Nat} {ks:List FK},VZ (O4 P d) fs off=some ks->∀(us vs:Array Value) (cs ds:List Aa) (b:Bool),AX γ cs us.toList->AX γ ds vs.toList->
  DU ks (cs.drop off) (ds.drop off)=some b->(Op.eqFields D us vs fs).run P w= .ok b w
 |d,D,hd,[],off,ks,h=>by
  intro us vs cs ds b hu hv he;cases h;have:b=true:=by cases h1:cs.drop off<;>cases h2:ds.drop off<;>rw[h1,h2] at he<;>simp[DU] at he;exact he
  subst this;rfl
 |d,D,hd,f::fs,off,ks,h=>by
  intro us vs cs ds b hu hv he;simp only[VZ] at h;split at h
  .rename_i hc;obtain⟨hn,aBS⟩:=hc;split at h
   .rename_i c pA;cases hr:VZ (O4 P d) fs (off+c.length) with
    |none=>rw[hr] at h;cases h
    |some j=>
     rw[hr] at h;cases h;obtain⟨b1,b2,l,k,rfl⟩:=O8 he;obtain⟨x,y,i,g,e⟩:=kX hd pA _ _ _ _ _ _ hu hv l;simp only[Op.eqFields,hn,Cj,AN,BE,aBS,Sem.run_bind,i,g,e,Result.andThen_ok];cases b1;.rfl
     .simp only[GK,Ch,DR,Bool.true_and];exact Zo hd fs hr _ _ _ _ _ hu hv (by simpa[ED] using k)
   .cases h
  .cases h
end
def kY{op:BinOp}{t:TypeId}{d c:Operand}{neg:Bool}{ks:List FK}{a b:List Aa}{x y:Value}{u:Aa}(QD:(op= .eql/\neg=false)\/(op= .neq/\neg=true))
  (hg:P.eqGuardType P.depth t=false) (hk:O4 P 20 t=some ks) (IM:∃fs,P.underlying t=some (.struct fs)) (hx:BH γ (.agg a) x) (hy:BH γ (.agg b) y) (h:(DU ks a b).map (λe=>Aa.bool (e != neg))=some u):
  ∃v,(do eqGuard op t d c x y;binOp op t x y:Sem Value).run P w= .ok v w/\BH γ u v:=by
 obtain⟨us,rfl,hu,_⟩:=hx;obtain⟨vs,rfl,hv,_⟩:=hy;cases he:DU ks a b with
 |none=>rw[he] at h;cases h
 |some e=>
  rw[he] at h;cases h;obtain⟨l1,m⟩:=O9 he;obtain⟨x',j,i,g,f⟩:=kX (w:=w) (P:=P) (γ:=γ) (D:=10000) (Ac:20<=10000) hk us vs a b 0 e hu hv (by rw[F0,F0,A8 (Md l1),A8 (Md m)];exact he);obtain⟨fs,JF⟩:=IM;have o9:E5 P t=some (some ks.length):=by simp[E5,JF,Zm hk]
  obtain⟨ha,hs⟩:=Q3 (w:=w) o9;have o:us.extract 0 ks.length=us:=by
   have:us.size=ks.length:=by have:=hu.length;simp at this;omega
   rw[<-this];simp
  have n:vs.extract 0 ks.length=vs:=by
   have:vs.size=ks.length:=by have:=hv.length;simp at this;omega
   rw[<-this];simp
  have l:x'= .agg us:=by simp[part,ha,Du hs,o] at i;exact i.symm
  have k:j= .agg vs:=by simp[part,ha,Du hs,n] at g;exact g.symm
  subst l;subst k;rcases QD with⟨rfl,rfl⟩|⟨rfl,rfl⟩
  .refine⟨.bool e,by simp[run_eqGuard_agg (P:=P) w .eql t d c us vs hg,run_eql_struct,f],?_⟩;show Value.bool e=Value.bool _;cases e<;>rfl
  .refine⟨.bool (!e),by simp[run_eqGuard_agg (P:=P) w .neq t d c us vs hg,run_neq_struct,f],?_⟩;show Value.bool _=Value.bool _;cases e<;>rfl
end
end Go.Am
end
