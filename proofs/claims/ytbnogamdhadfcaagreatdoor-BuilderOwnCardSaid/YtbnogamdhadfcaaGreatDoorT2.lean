/- Lemmas -/
import Derived.Test.YtbnogamdhadfcaaGreatDoorT1
import Derived.Orders
import Derived.Laws.AppendOwn
import Derived.Laws.StructEq
set_option linter.unusedVariables false
set_option linter.unusedSimpArgs false
section
namespace Go.Am
inductive Ju where
 |KY (id:Nat)
 |loc (s:Nat)
 |tail (s:Nat) (c:Option Nat) (start:Nat)
def Ju.uR:Ju->Bool
 | .KY _=>true
 |_=>false
structure Gh where
 HD:Nat->Nat->Option Value
 mu:Nat->Option Nat
 own:Nat->Option Ju
 sz:Nat->Option Nat
mutual
def BH(γ:Gh):Aa->Value->Prop
 | .bool b,v=>v= .bool b
 | .int k n,v=>v= .int k n
 | .str s,v=>v= .string ⟨⟨s⟩⟩
 | .ptr none,v=>v= .pointer none
 | .ptr (some (id,o)),v=>∃b,γ.mu id=some b/\v= .pointer (some ⟨b,o,none⟩)
 | .CB cs,v=>∃b o,v= .pointer (some ⟨b,o,none⟩)/\CJ γ cs b o
 | .sl z Au,v=>∃ad cap,v= .slice (some ad) Au.length cap/\Au.length<=cap/\(ad.spot=none\/cap=0)/\ET γ Au z ad.block ad.off
 | .slnil,v=>v= .slice none 0 0
 | .Ck id off len z,v=>∃b cap,γ.mu id=some b/\v= .slice (some ⟨b,off,none⟩) len cap/\len<=cap/\(0<z/\cap<=maxLen)/\γ.sz b=some (off+cap*z)
 | .map none,v=>v= .map none
 | .map (some id),v=>∃b,γ.mu id=some b/\v= .map (some b)
 | .func fn f c,v=>∃fs cs,v= .func fn fs cs/\Bb γ f fs.toList/\Bb γ c cs.toList
 | .nilFunc,v=>v= .nilFunc
 | .iface t a,v=>∃u,v= .iface t u/\BH γ a u
 | .nilIface,v=>v= .nilIface
 | .agg cs,v=>∃us,v= .agg us/\Bb γ cs us.toList/\∀u∈us.toList,u.oneCell'=true
 | .tuple vs,v=>∃us,v= .tuple us/\Bb γ vs us.toList
def Bb(γ:Gh):List Aa->List Value->Prop
 |[],us=>us=[]
 |a::l,us=>∃u Dm,us=u::Dm/\BH γ a u/\Bb γ l Dm
def CJ(γ:Gh):List Aa->Nat->Nat->Prop
 |[],_,_=>True
 |a::l,b,o=>(∃u,γ.HD b o=some u/\BH γ a u)/\CJ γ l b (o+1)
def ET(γ:Gh):List (List Aa)->Nat->Nat->Nat->Prop
 |[],_,_,_=>True
 |r::rs,z,b,o=>r.length=z/\CJ γ r b o/\ET γ rs z b (o+z)
end
structure Gh.le(γ γ':Gh):Prop where
 HD:∀b o v,γ.HD b o=some v->γ'.HD b o=some v
 mu:∀id b,γ.mu id=some b->γ'.mu id=some b
 sz:∀b n,γ.sz b=some n->γ'.sz b=some n
theorem Gh.le.refl(γ:Gh):γ.le γ:=⟨λ_ _ _ h=>h,λ_ _ h=>h,λ_ _ h=>h⟩
theorem Gh.le.trans{a b c:Gh}(h:a.le b)(k:b.le c):a.le c:=⟨λ_ _ _ x=>k.HD _ _ _ (h.HD _ _ _ x),λ_ _ x=>k.mu _ _ (h.mu _ _ x),λ_ _ x=>k.sz _ _ (h.sz _ _ x)⟩
mutual
theorem BH.mono{γ γ':Gh}(DY:γ.le γ'):∀(a:Aa) (v:Value),BH γ a v->BH γ' a v
 | .bool b,v,h=>h
 | .int k n,v,h=>h
 | .str s,v,h=>h
 | .ptr none,v,h=>h
 | .ptr (some (id,o)),v,h=>by obtain⟨b,hb,hv⟩:=h;exact⟨b,DY.mu _ _ hb,hv⟩
 | .CB cs,v,h=>by obtain⟨b,o,hv,hm⟩:=h;exact⟨b,o,hv,CJ.mono DY cs b o hm⟩
 | .sl z Au,v,h=>by obtain⟨ad,cap,hv,hc,hs,hm⟩:=h;exact⟨ad,cap,hv,hc,hs,ET.mono DY Au z _ _ hm⟩
 | .slnil,v,h=>h
 | .Ck id off len z,v,h=>by obtain⟨b,cap,hb,hv,hc,hz,hs⟩:=h;exact⟨b,cap,DY.mu _ _ hb,hv,hc,hz,DY.sz _ _ hs⟩
 | .map none,v,h=>h
 | .map (some id),v,h=>by obtain⟨b,hb,hv⟩:=h;exact⟨b,DY.mu _ _ hb,hv⟩
 | .func fn f c,v,h=>by obtain⟨fs,cs,hv,h1,h2⟩:=h;exact⟨fs,cs,hv,Bb.mono DY f _ h1,Bb.mono DY c _ h2⟩
 | .nilFunc,v,h=>h
 | .iface t a,v,h=>by obtain⟨u,hv,h1⟩:=h;exact⟨u,hv,BH.mono DY a u h1⟩
 | .nilIface,v,h=>h
 | .agg cs,v,h=>by obtain⟨us,hv,h1,h2⟩:=h;exact⟨us,hv,Bb.mono DY cs _ h1,h2⟩
 | .tuple vs,v,h=>by obtain⟨us,hv,h1⟩:=h;exact⟨us,hv,Bb.mono DY vs _ h1⟩
theorem Bb.mono{γ γ':Gh}(DY:γ.le γ'):∀(l:List Aa) (us:List Value),Bb γ l us->Bb γ' l us
 |[],us,h=>h
 |a::l,us,h=>by obtain⟨u,Dm,hu,h1,h2⟩:=h;exact⟨u,Dm,hu,BH.mono DY a u h1,Bb.mono DY l Dm h2⟩
theorem CJ.mono{γ γ':Gh}(DY:γ.le γ'):∀(l:List Aa) (b o:Nat),CJ γ l b o->CJ γ' l b o
 |[],_,_,_=>trivial
 |a::l,b,o,h=>by obtain⟨⟨u,hu,h1⟩,h2⟩:=h;exact⟨⟨u,DY.HD _ _ _ hu,BH.mono DY a u h1⟩,CJ.mono DY l b (o+1) h2⟩
theorem ET.mono{γ γ':Gh}(DY:γ.le γ'):∀(rs:List (List Aa)) (z b o:Nat),ET γ rs z b o->ET γ' rs z b o
 |[],_,_,_,_=>trivial
 |r::rs,z,b,o,h=>⟨h.1,CJ.mono DY r b o h.2.1,ET.mono DY rs z b (o+z) h.2.2⟩
end
theorem Bb.length{γ:Gh}:∀{l:List Aa} {us:List Value},Bb γ l us->us.length=l.length
 |[],us,h=>by rw[Bb] at h;subst h;rfl
 |a::l,us,h=>by rw[Bb] at h;obtain⟨u,Dm,rfl,_,h2⟩:=h;simp[h2.length]
theorem Bb.get{γ:Gh}:∀{l:List Aa} {us:List Value},Bb γ l us->∀{i:Nat} {a:Aa},l[i]?=some a->∃u,us[i]?=some u/\BH γ a u
 |[],us,h,i,a,hi=>by simp at hi
 |x::l,us,h,i,a,hi=>by
  rw[Bb] at h;obtain⟨u,Dm,rfl,h1,h2⟩:=h;cases i with
  |zero=>simp at hi;subst hi;exact⟨u,rfl,h1⟩
  |succ i=>simp at hi;obtain⟨v,hv,hr⟩:=h2.get hi;exact⟨v,by simpa using hv,hr⟩
theorem Bb.Gi{γ:Gh}:∀{l:List Aa} {us:List Value},us.length=l.length->(∀(i:Nat) (a:Aa) (u:Value),l[i]?=some a->us[i]?=some u->BH γ a u)->Bb γ l us
 |[],us,hl,_=>by rw[Bb];exact EY hl
 |x::l,[],hl,_=>by simp at hl
 |x::l,u::us,hl,h=>by rw[Bb];exact⟨u,us,rfl,h 0 x u rfl rfl,Bb.Gi (by simpa using hl) λi a v hi hv=>h (i+1) a v (by simpa using hi) (by simpa using hv)⟩
theorem Bb.append{γ:Gh}:∀{l l':List Aa} {us Dm:List Value},Bb γ l us->Bb γ l' Dm->Bb γ (l++l') (us++Dm)
 |[],l',us,Dm,h,h'=>by rw[Bb] at h;subst h;simpa using h'
 |a::l,l',us,Dm,h,h'=>by rw[Bb] at h;obtain⟨u,r,rfl,h1,h2⟩:=h;rw[CC,Bb];exact⟨u,r++Dm,rfl,h1,h2.append h'⟩
theorem Bb.take{γ:Gh}{l:List Aa}{us:List Value}(h:Bb γ l us)(n:Nat):Bb γ (l.take n) (us.take n):=by
 refine Bb.Gi (by simp[h.length]) λi a u hi hu=>?_;rw[Ch] at hi hu;split at hi;·rename_i hlt;rw[if_pos hlt] at hu;obtain⟨v,hv,hr⟩:=h.get hi;rw[hu] at hv;cases hv;exact hr
 .cases hi
theorem Bb.drop{γ:Gh}{l:List Aa}{us:List Value}(h:Bb γ l us)(n:Nat):Bb γ (l.drop n) (us.drop n):=by refine Bb.Gi (by simp[h.length]) λi a u hi hu=>?_;rw[CA] at hi hu;obtain⟨v,hv,hr⟩:=h.get hi;rw[hu] at hv;cases hv;exact hr
theorem CJ.get{γ:Gh}:∀{l:List Aa} {b o:Nat},CJ γ l b o->∀{i:Nat} {a:Aa},l[i]?=some a->∃u,γ.HD b (o+i)=some u/\BH γ a u
 |[],b,o,h,i,a,hi=>by simp at hi
 |x::l,b,o,h,i,a,hi=>by
  rw[CJ] at h;obtain⟨⟨u,hu,h1⟩,h2⟩:=h;cases i with
  |zero=>simp at hi;subst hi;exact⟨u,hu,h1⟩
  |succ i=>simp at hi;obtain⟨v,hv,hr⟩:=h2.get hi;exact⟨v,by rw[<-hv];congr 1;omega,hr⟩
theorem CJ.Gi{γ:Gh}:∀{l:List Aa} {b o:Nat},(∀(i:Nat) (a:Aa),l[i]?=some a->∃u,γ.HD b (o+i)=some u/\BH γ a u)->CJ γ l b o
 |[],b,o,h=>by rw[CJ];trivial
 |x::l,b,o,h=>by rw[CJ];refine⟨h 0 x rfl,CJ.Gi λi a hi=>?_⟩;obtain⟨u,hu,hr⟩:=h (i+1) a (by simpa using hi);exact⟨u,by rw[<-hu];congr 1;omega,hr⟩
theorem CJ.drop{γ:Gh}{l:List Aa}{b o:Nat}(h:CJ γ l b o)(n:Nat):CJ γ (l.drop n) b (o+n):=by refine CJ.Gi λi a hi=>?_;rw[CA] at hi;obtain⟨u,hu,hr⟩:=h.get hi;exact⟨u,by rw[<-hu];congr 1;omega,hr⟩
theorem CJ.values{γ:Gh}:∀{l:List Aa} {b o:Nat},CJ γ l b o->∃us:List Value,Bb γ l us/\∀(j:Nat) (u:Value),us[j]?=some u->γ.HD b (o+j)=some u
 |[],b,o,h=>⟨[],by rw[Bb],by simp⟩
 |x::l,b,o,h=>by
  rw[CJ] at h;obtain⟨⟨u,hu,h1⟩,h2⟩:=h;obtain⟨us,hr,hi⟩:=h2.values;refine⟨u::us,by rw[Bb];exact⟨u,us,rfl,h1,hr⟩,λj v hj=>?_⟩;cases j with
  |zero=>simp at hj;subst hj;exact hu
  |succ j=>simp at hj;rw[<-hi j v hj];congr 1;omega
theorem ET.get{γ:Gh}:∀{rs:List (List Aa)} {z b o:Nat},ET γ rs z b o->∀{i:Nat} {r:List Aa},rs[i]?=some r->r.length=z/\CJ γ r b (o+i*z)
 |[],z,b,o,h,i,r,hi=>by simp at hi
 |x::rs,z,b,o,h,i,r,hi=>by
  rw[ET] at h;cases i with
  |zero=>simp at hi;subst hi;simpa using⟨h.1,h.2.1⟩
  |succ i=>simp at hi;obtain⟨h1,h2⟩:=h.2.2.get hi;exact⟨h1,by rw[show o+(i+1)*z=o+z+i*z by rw[BC,Ez];omega];exact h2⟩
theorem ET.Gi{γ:Gh}:∀{rs:List (List Aa)} {z b o:Nat},(∀(i:Nat) (r:List Aa),rs[i]?=some r->r.length=z/\CJ γ r b (o+i*z))->ET γ rs z b o
 |[],z,b,o,h=>by rw[ET];trivial
 |x::rs,z,b,o,h=>by rw[ET];have h0:=h 0 x rfl;refine⟨h0.1,by simpa using h0.2,ET.Gi λi r hi=>?_⟩;obtain⟨h1,h2⟩:=h (i+1) r (by simpa using hi);exact⟨h1,by rw[show o+z+i*z=o+(i+1)*z by rw[BC,Ez];omega];exact h2⟩
theorem MJ{ad:Addr}{n cap:Nat}(hs:ad.spot=none\/cap=0)(hc:n<=cap)(hn:0<n):ad=⟨ad.block,ad.off,none⟩:=by
 rcases hs with hs|hs
 .cases ad;simp_all
 .omega
theorem ET.values{γ:Gh}:∀{rs:List (List Aa)} {z b o:Nat},ET γ rs z b o->∃us:List Value,Bb γ rs.flatten us/\us.length=rs.length*z/\∀(j:Nat) (u:Value),us[j]?=some u->γ.HD b (o+j)=some u
 |[],z,b,o,h=>⟨[],by simp[Bb],by simp,by simp⟩
 |x::rs,z,b,o,h=>by
  rw[ET] at h;obtain⟨us,h1,h2⟩:=h.2.1.values;obtain⟨vs,h3,h4,h5⟩:=h.2.2.values;have hl:us.length=z:=by rw[h1.length,h.1]
  refine⟨us++vs,by simpa using h1.append h3,by simp[hl,h4,BC,Nat.add_comm],λj u hj=>?_⟩;rw[List.getElem?_append] at hj;split at hj;·exact h2 j u hj
  .rename_i DT;rw[<-h5 _ _ hj];congr 1
   omega
def HY(γ:Gh)(B:Nat)(w:World)(s:Nat)(c:Option Nat)(v:Value)(a:Aa):Prop:=
 a= .slnil\/∃g n cap us e z Au,a= .sl z Au/\v= .slice (some ⟨g,0,none⟩) n cap/\γ.own g=some (.tail s c (n*z))/\B<=g/\
  w.heap[g]?=some (.cells us e (0,0))/\us.size=cap*z/\n<=cap/\cap<=maxLen/\0<z
def Ks(γ:Gh)(β:Nat->Nat)(B:Nat)(w:World)(s:Nat):D9->Value->Prop
 | .undef,_=>True
 | .skip,v=>v=undef
 | .val a,v=>BH γ a v
 | .Nv b,v=>v= .bool b
 | .own a,v=>BH γ a v/\HY γ B w s none v a
 | .box _ cs ow,v=>v= .pointer (some ⟨β s,0,none⟩)/\γ.own (β s)=some (.loc s)/\B<=β s/\
  ∃us e,w.heap[β s]?=some (.cells us e (0,0))/\Bb γ cs us.toList/\(∀u∈us.toList,u.oneCell'=true)/\
   ∀o∈ow,∃u a,us[o]?=some u/\cs[o]?=some a/\HY γ B w s (some o) u a
 | .EI s' o,v=>v= .pointer (some ⟨β s',o,none⟩)
structure FR(γ:Gh)(β:Nat->Nat)(B:Nat)(σ:BG)(tmps:Array Value)(w:World):Prop where
 size:σ.length=tmps.size
 Hz:∀s,Ks γ β B w s (σ.at s) (tmps.getD s undef)
def KZ(γ:Gh):List (Aa×Aa)->List MapEntry->Prop
 |[],es=>es=[]
 |(k,v)::l,es=>∃e TQ,es=e::TQ/\BH γ k e.key/\BH γ v e.val/\KZ γ l TQ
def uS(γ:Gh)(l:List (Aa×Aa))(es:Array MapEntry)(clock:Nat):Prop:=
 KZ γ l es.toList/\clock=es.size/\∀(i:Nat) (e:MapEntry),es[i]?=some e->e.born=i
def RF(fr:Nat×Nat)(n:Nat):Prop:=fr=(0,0)\/n<=fr.1
structure Gq(γ:Gh)(h:Ag)(w:World):Prop where
 HD:∀b o v,γ.HD b o=some v->w.cell? ⟨b,o,none⟩=some v/\v.oneCell'=true/\(γ.own b=none\/∃s c st,γ.own b=some (.tail s c st)/\o<st)
 KY:∀id x,h[id]?=some x->x≠ .CH->∃b,γ.mu id=some b/\γ.own b=some (.KY id)
 cells:∀id cs,h[id]?=some (.cells cs)->∀b,γ.mu id=some b->∃us e fr,w.heap[b]?=some (.cells us e fr)/\RF fr us.size/\Bb γ cs (us.toList.take cs.length)/\∀u∈us.toList.take cs.length,u.oneCell'=true
 map:∀id es,h[id]?=some (.map es)->∀b,γ.mu id=some b->∃Dj clock,w.heap[b]?=some (.map Dj clock)/\uS γ es Dj clock
 mu:∀id b,γ.mu id=some b->id<h.length
 own:∀b x,γ.own b=some x->b<w.heap.size
 sz:∀b n,γ.sz b=some n->(∃us e fr,w.heap[b]?=some (.cells us e fr)/\us.size=n)/\(γ.own b=none\/∃id,γ.own b=some (.KY id))
structure J7(γ0:Gh)(w0:World)(γ:Gh)(w:World):Prop where
 le:γ0.le γ
 size:w0.heap.size<=w.heap.size
 os:w.os=w0.os
 tape:w.tape=w0.tape
 output:w.output=w0.output
 MK:∀b,b<w0.heap.size->(∀id,γ0.own b≠some (.KY id))->w.heap[b]?=w0.heap[b]?/\γ.own b=γ0.own b
theorem J7.refl(γ:Gh)(w:World):J7 γ w γ w:=⟨.refl _,Ac _,rfl,rfl,rfl,λ_ _ _=>⟨rfl,rfl⟩⟩
theorem J7.trans{γ0 γ1 γ2:Gh}{w0 w1 w2:World}(h:J7 γ0 w0 γ1 w1)(k:J7 γ1 w1 γ2 w2):J7 γ0 w0 γ2 w2:=by refine⟨h.le.trans k.le,Bt h.size k.size,k.os.trans h.os,k.tape.trans h.tape,k.output.trans h.output,λb hb hn=>?_⟩;·obtain⟨h1,h2⟩:=h.MK b hb hn;obtain⟨k1,k2⟩:=k.MK b (Zz hb h.size) (λid=>by rw[h2];exact hn id);exact⟨k1.trans h1,k2.trans h2⟩
structure qB(γ:Gh)(w:World)(γ':Gh)(w':World):Prop where
 le:γ.le γ'
 MK:∀b x,γ.own b=some x->x.uR=false->γ'.own b=some x/\w'.heap[b]?=w.heap[b]?
theorem qB.yg{γ γ':Gh}{h:Ag}{w w':World}(hi:Gq γ h w)(ha:J7 γ w γ' w'):qB γ w γ' w':=by refine⟨ha.le,λb x hb hx=>?_⟩;obtain⟨h1,h2⟩:=ha.MK b (hi.own b x hb) (λid Ha=>by rw[hb] at Ha;cases Ha;simp[Ju.uR] at hx);exact⟨h2.trans hb,h1⟩
theorem HY.kept{γ γ':Gh}{B:Nat}{w w':World}{s:Nat}{c:Option Nat}{v:Value}{a:Aa}(h:HY γ B w s c v a)(k:qB γ w γ' w'):HY γ' B w' s c v a:=by
 rcases h with h|⟨g,n,cap,us,e,z,Au,h1,h2,h3,h4,h5,h6⟩
 .exact .inl h
 .obtain⟨k1,k2⟩:=k.MK g _ h3 rfl;exact .inr ⟨g,n,cap,us,e,z,Au,h1,h2,k1,h4,by rw[k2];exact h5,h6⟩
theorem Ks.kept{γ γ':Gh}{β:Nat->Nat}{B:Nat}{w w':World}{s:Nat}{x:D9}{v:Value}(h:Ks γ β B w s x v)(k:qB γ w γ' w'):Ks γ' β B w' s x v:=by
 cases x with
 |undef=>trivial
 |skip=>exact h
 |val a=>exact BH.mono k.le a v h
 |Nv b=>exact h
 |own a=>exact⟨BH.mono k.le a v h.1,h.2.kept k⟩
 |box ver cs ow=>obtain⟨h1,h2,h3,us,e,h4,h5,h6,h7⟩:=h;obtain⟨k1,k2⟩:=k.MK _ _ h2 rfl;exact⟨h1,k1,h3,us,e,by rw[k2];exact h4,Bb.mono k.le cs _ h5,h6,λo ho=>let⟨u,a,p,q,r⟩:=h7 o ho;⟨u,a,p,q,r.kept k⟩⟩
 |EI s' o=>exact h
theorem FR.kept{γ γ':Gh}{β:Nat->Nat}{B:Nat}{σ:BG}{tmps:Array Value}{w w':World}(h:FR γ β B σ tmps w)(k:qB γ w γ' w'):FR γ' β B σ tmps w':=
 ⟨h.size,λs=>(h.Hz s).kept k⟩
end Go.Am
end
section
namespace Go.Am
theorem Cw{w w':World}{b o:Nat}(h:w'.heap[b]?=w.heap[b]?):w'.cell? ⟨b,o,none⟩=w.cell? ⟨b,o,none⟩:=by simp[World.cell?,h]
theorem Dp{w:World}{b o:Nat}{v:Value}(h:w.cell? ⟨b,o,none⟩=some v):b<w.heap.size:=by
 rcases AN b w.heap.size with h'|h'
 .exact h'
 .simp[World.cell?,Array.getElem?_eq_none h'] at h
theorem Gq.yh{γ:Gh}{h:Ag}{w:World}(hi:Gq γ h w){b o:Nat}{v:Value}(hb:γ.HD b o=some v):b<w.heap.size:=Dp (hi.HD b o v hb).1
theorem Gq.same{γ:Gh}{h:Ag}{w w':World}(hi:Gq γ h w)(hh:w'.heap=w.heap):Gq γ h w':=by
 refine⟨λb o v hb=>?_,hi.KY,λid cs hc b hb=>?_,λid es hc b hb=>?_,hi.mu,λb x hx=>?_,λb n hb=>by rw[hh];exact hi.sz b n hb⟩;·obtain⟨h1,h2,h3⟩:=hi.HD b o v hb;have e:=Cw (w:=w) (w':=w') (b:=b) (o:=o) (by rw[hh]);exact⟨e.trans h1,h2,h3⟩
 .rw[hh];exact hi.cells id cs hc b hb
 .rw[hh];exact hi.map id es hc b hb
 .rw[hh];exact hi.own b x hx
theorem J7.same{γ:Gh}{w w':World}(hh:w'.heap=w.heap)(h1:w'.os=w.os)(h2:w'.tape=w.tape)(h3:w'.output=w.output):J7 γ w γ w':=
 ⟨.refl _,by rw[hh];exact Ac _,h1,h2,h3,λ_ _ _=>⟨by rw[hh],rfl⟩⟩
theorem J7.drew(γ:Gh)(w:World):J7 γ w γ w.drew:=J7.same rfl rfl rfl rfl
def Gh.C5(γ:Gh)(b:Nat)(us:Array Value)(k:Nat)(x:Option Ju):Gh:=
 {HD:=λb' o=>if b'=b then(if o<k then us[o]? else none) else γ.HD b' o,mu:=γ.mu,own:=λb'=>if b'=b then x else γ.own b',sz:=γ.sz}
def Gh.BL(γ:Gh)(b id:Nat)(n:Option Nat):Gh:=
 {HD:=γ.HD,mu:=λi=>if i=id then some b else γ.mu i,own:=λb'=>if b'=b then some (.KY id) else γ.own b',sz:=λb'=>if b'=b then n else γ.sz b'}
section
variable{γ:Gh}{h:Ag}{w:World}
theorem Eg(w:World)(o:Obj){b:Nat}(hb:b<w.heap.size):(w.alloc o).heap[b]?=w.heap[b]?:=heap_alloc_old w o b hb
theorem NP(hi:Gq γ h w)(us:Array Value)(e:TypeId)(fr:Nat×Nat)(k:Nat)(x:Option Ju)(h1:∀o u,o<k->us[o]?=some u->u.oneCell'=true)
  (hx:x=none\/(∃s c,x=some (.tail s c k))\/(k=0/\∀id,x≠some (.KY id))):
  Gq (γ.C5 w.heap.size us k x) h (w.alloc (.cells us e fr))/\J7 γ w (γ.C5 w.heap.size us k x) (w.alloc (.cells us e fr)):=by
 have E4:γ.own w.heap.size=none:=by
  cases hc:γ.own w.heap.size with
  |none=>rfl
  |some y=>exact absurd (hi.own _ y hc) (Dg _)
 have uT:∀o,γ.HD w.heap.size o=none:=λo=>by
  cases hc:γ.HD w.heap.size o with
  |none=>rfl
  |some y=>exact absurd (hi.yh hc) (Dg _)
 have DY:γ.le (γ.C5 w.heap.size us k x):=⟨λb' o' v' Du=>by
  have:b'≠w.heap.size:=λhe=>by rw[he,uT] at Du;cases Du
  simp only[Gh.C5,if_neg this];exact Du,λ_ _ hm=>hm,λ_ _ hm=>hm⟩
 constructor
 .refine⟨λb o v hb=>?_,λid y Ha hy=>?_,λid cs hc b hb=>?_,λid es hc b hb=>?_,hi.mu,λb y hy=>?_,λb n hb=>?_⟩;rotate_left 5;·obtain⟨⟨Dm,e',qC,p,q⟩,r⟩:=hi.sz b n hb;have ML:b≠w.heap.size:=db (by rw[A4] at p;exact p.1);exact⟨⟨Dm,e',qC,by rw[Eg _ _ (by rw[A4] at p;exact p.1)];exact p,q⟩,by simp only[Gh.C5,if_neg ML];exact r⟩
  .by_cases ML:b=w.heap.size
   .subst ML;simp only[Gh.C5,BO] at hb⊢;split at hb
    .rename_i hlt;refine⟨by rw[cell_of_row _ _ _ us e fr (heap_alloc_new w _)];exact hb,h1 o v hlt hb,?_⟩;rcases hx with hx|⟨s,c,hx⟩|⟨hx,_⟩
     .exact .inl hx
     .exact .inr ⟨s,c,k,hx,hlt⟩
     .omega
    .cases hb
   .simp only[Gh.C5,if_neg ML] at hb⊢;obtain⟨p,q,r⟩:=hi.HD b o v hb;exact⟨by rw[Cw (Eg w _ (Dp p))];exact p,q,r⟩
  .obtain⟨b,p,q⟩:=hi.KY id y Ha hy;refine⟨b,p,?_⟩;have:b≠w.heap.size:=λhe=>by rw[he,E4] at q;cases q
   simp only[Gh.C5,if_neg this];exact q
  .obtain⟨Dm,e',qC,p,pf,q,r⟩:=hi.cells id cs hc b hb;exact⟨Dm,e',qC,by rw[Eg _ _ (by rw[A4] at p;exact p.1)];exact p,pf,Bb.mono DY cs _ q,r⟩
  .obtain⟨Dj,clock,p,q⟩:=hi.map id es hc b hb;refine⟨Dj,clock,by rw[Eg _ _ (by rw[A4] at p;exact p.1)];exact p,?_,q.2⟩;replace q:=q.1;clear hc p;revert q;generalize Dj.toList=l;intro q;induction es generalizing l with
   |nil=>exact q
   |cons kv es ih=>obtain⟨kk,vv⟩:=kv;obtain⟨en,TQ,hl,a1,a2,a3⟩:=q;exact⟨en,TQ,hl,BH.mono DY _ _ a1,BH.mono DY _ _ a2,ih TQ a3⟩
  .by_cases ML:b=w.heap.size;·subst ML;simp
   .simp only[Gh.C5,if_neg ML] at hy;have:=hi.own b y hy;simp;omega
 .refine⟨DY,by simp,rfl,rfl,rfl,λb hb _=>⟨Eg _ _ hb,?_⟩⟩;simp only[Gh.C5,if_neg (db hb)]
theorem KZ.mono{γ γ':Gh}(DY:γ.le γ'):∀{es:List (Aa×Aa)} {l:List MapEntry},KZ γ es l->KZ γ' es l
 |[],l,q=>q
 |(kk,vv)::es,l,q=>by obtain⟨en,TQ,hl,a1,a2,a3⟩:=q;exact⟨en,TQ,hl,BH.mono DY _ _ a1,BH.mono DY _ _ a2,a3.mono DY⟩
theorem uS.mono{γ γ':Gh}(DY:γ.le γ'){es:List (Aa×Aa)}{l:Array MapEntry}{c:Nat}(h:uS γ es l c):uS γ' es l c:=⟨h.1.mono DY,h.2⟩
theorem FZ(hi:Gq γ h w)(o:Obj)(x:C6)(m:Option Nat)
  (hx:(∃cs us e fr,x= .cells cs/\o= .cells us e fr/\RF fr us.size/\Bb γ cs (us.toList.take cs.length)/\(∀u∈us.toList.take cs.length,u.oneCell'=true)/\m=some us.size)\/(x= .map []/\o= .map #[] 0/\m=none)):
  Gq (γ.BL w.heap.size h.length m) (h++[x]) (w.alloc o)/\J7 γ w (γ.BL w.heap.size h.length m) (w.alloc o):=by
 have E4:γ.own w.heap.size=none:=by
  cases hc:γ.own w.heap.size with
  |none=>rfl
  |some y=>exact absurd (hi.own _ y hc) (Dg _)
 have hmu:γ.mu h.length=none:=by
  cases hc:γ.mu h.length with
  |none=>rfl
  |some y=>exact absurd (hi.mu _ y hc) (Dg _)
 have hsz:γ.sz w.heap.size=none:=by
  cases hc:γ.sz w.heap.size with
  |none=>rfl
  |some y=>obtain⟨⟨_,_,_,p,_⟩,_⟩:=hi.sz _ y hc;rw[A4] at p;exact absurd p.1 (Dg _)
 have DY:γ.le (γ.BL w.heap.size h.length m):=⟨λ_ _ _ hv=>hv,λid b hm=>by
  have:id≠h.length:=λhe=>by rw[he,hmu] at hm;cases hm
  simp only[Gh.BL,if_neg this];exact hm,λb n hm=>by
  have:b≠w.heap.size:=λhe=>by rw[he,hsz] at hm;cases hm
  simp only[Gh.BL,if_neg this];exact hm⟩
 constructor
 .refine⟨λb o' v hb=>?_,λid y Ha hy=>?_,λid cs hc b hb=>?_,λid es hc b hb=>?_,λid b hb=>?_,λb y hy=>?_,λb n hb=>?_⟩;rotate_left 6
  .by_cases ML:b=w.heap.size
   .subst ML;simp only[Gh.BL,BO] at hb;rcases hx with⟨FI,us,e,fr,rfl,rfl,pf,p,q,rfl⟩|⟨rfl,rfl,rfl⟩
    .cases hb;exact⟨⟨us,e,fr,heap_alloc_new w _,rfl⟩,.inr ⟨h.length,by simp[Gh.BL]⟩⟩
    .cases hb
   .simp only[Gh.BL,if_neg ML] at hb⊢;obtain⟨⟨Dm,e',qC,p,q⟩,r⟩:=hi.sz b n hb;exact⟨⟨Dm,e',qC,by rw[Eg _ _ (by rw[A4] at p;exact p.1)];exact p,q⟩,r⟩
  .obtain⟨p,q,r⟩:=hi.HD b o' v hb;have ML:b≠w.heap.size:=db (Dp p);exact⟨by rw[World.cell?_alloc_old _ _ _ ML];exact p,q,by simp only[Gh.BL,if_neg ML];exact r⟩
  .by_cases he:id=h.length;·exact⟨w.heap.size,by simp[Gh.BL,he],by simp[Gh.BL,he]⟩
   .have Ut:id<h.length:=by rw[Ae] at Ha;obtain⟨hl,_⟩:=Ha;simp at hl;omega
    rw[Ad Ut] at Ha;obtain⟨b,p,q⟩:=hi.KY id y Ha hy;have ML:b≠w.heap.size:=λhe=>by rw[he,E4] at q;cases q
    exact⟨b,by simp only[Gh.BL,if_neg he];exact p,by simp only[Gh.BL,if_neg ML];exact q⟩
  .by_cases he:id=h.length
   .subst he;simp[Gh.BL] at hb;subst hb;simp at hc;rcases hx with⟨FI,us,e,fr,rfl,rfl,pf,p,q,rfl⟩|⟨rfl,rfl,rfl⟩
    .cases hc;exact⟨us,e,fr,heap_alloc_new w _,pf,Bb.mono DY _ _ p,q⟩
    .cases hc
   .simp only[Gh.BL,if_neg he] at hb;have Ut:=hi.mu id b hb;rw[Ad Ut] at hc;obtain⟨Dm,e',qC,p,pf,q,r⟩:=hi.cells id cs hc b hb;exact⟨Dm,e',qC,by rw[Eg _ _ (by rw[A4] at p;exact p.1)];exact p,pf,Bb.mono DY _ _ q,r⟩
  .by_cases he:id=h.length
   .subst he;simp[Gh.BL] at hb;subst hb;simp at hc;rcases hx with⟨FI,us,e,fr,rfl,rfl,pf,p,q,rfl⟩|⟨rfl,rfl,rfl⟩
    .cases hc
    .cases hc;exact⟨#[],0,heap_alloc_new w _,rfl,rfl,by simp⟩
   .simp only[Gh.BL,if_neg he] at hb;have Ut:=hi.mu id b hb;rw[Ad Ut] at hc;obtain⟨Dj,clock,p,q⟩:=hi.map id es hc b hb;exact⟨Dj,clock,by rw[Eg _ _ (by rw[A4] at p;exact p.1)];exact p,q.mono DY⟩
  .by_cases he:id=h.length;·simp[he]
   .simp only[Gh.BL,if_neg he] at hb;have:=hi.mu id b hb;simp;omega
  .by_cases ML:b=w.heap.size;·subst ML;simp
   .simp only[Gh.BL,if_neg ML] at hy;have:=hi.own b y hy;simp;omega
 .refine⟨DY,by simp,rfl,rfl,rfl,λb hb _=>⟨Eg _ _ hb,?_⟩⟩;simp only[Gh.BL,if_neg (db hb)]
theorem qD(hi:Gq γ h w){g s:Nat}(hg:γ.own g=some (.loc s))(us:Array Value):Gq γ h (w.setRow g us):=by
 refine⟨λb o v hb=>?_,hi.KY,λid cs hc b hb=>?_,λid es hc b hb=>?_,hi.mu,λb x hx=>?_,λb n hb=>?_⟩;rotate_left 4
 .obtain⟨p,r⟩:=hi.sz b n hb;have:b≠g:=λhe=>by subst he;rw[hg] at r;rcases r with r|⟨_,r⟩<;>cases r
  exact⟨by rw[setRow_other w g b us this];exact p,r⟩
 .obtain⟨p,q,r⟩:=hi.HD b o v hb;have:b≠g:=λhe=>by subst he;rw[hg] at r;rcases r with r|⟨_,_,_,r,_⟩<;>cases r
  exact⟨by rw[Cw (setRow_other w g b us this)];exact p,q,r⟩
 .have SB:b≠g:=λhe=>by subst he;obtain⟨b',p,q⟩:=hi.KY id _ hc (by simp);rw[hb] at p;cases p;rw[hg] at q;cases q
  rw[setRow_other w g b us SB];exact hi.cells id cs hc b hb
 .have SB:b≠g:=λhe=>by subst he;obtain⟨b',p,q⟩:=hi.KY id _ hc (by simp);rw[hb] at p;cases p;rw[hg] at q;cases q
  rw[setRow_other w g b us SB];exact hi.map id es hc b hb
 .have:=hi.own b x hx;simpa[World.setRow] using this
theorem L7(hi:Gq γ h w){g id:Nat}{cs:List Aa}(hcs:h[id]?=some (.cells cs))(hg:γ.mu id=some g){us:Array Value}{e:TypeId}{fr:Nat×Nat}(hw:w.heap[g]?=some (.cells us e fr))(Dm:Array Value)(FI:List Aa)(RG:Dm.size=us.size)(kN:RF fr Dm.size)
  (hr:Bb γ FI (Dm.toList.take FI.length)) (h1:∀u∈Dm.toList.take FI.length,u.oneCell'=true):
  Gq γ (h.set id (.cells FI)) (w.setRow g Dm)/\J7 γ w γ (w.setRow g Dm):=by
 obtain⟨g',p,Rr⟩:=hi.KY id _ hcs (by simp);rw[hg] at p;cases p;have uniq:∀E0 x,h[E0]?=some x->x≠ .CH->γ.mu E0=some g->E0=id:=λE0 x hx yi hm=>by obtain⟨b',p,q⟩:=hi.KY E0 x hx yi;rw[hm] at p;cases p;rw[Rr] at q;cases q;rfl
 constructor
 .refine⟨λb o v hb=>?_,λE0 y Ha hy=>?_,λE0 cs hc b hb=>?_,λE0 es hc b hb=>?_,λE0 b hb=>by simpa using hi.mu E0 b hb,λb x hx=>?_,λb n hb=>?_⟩;rotate_left 5
  .obtain⟨⟨eH,e2,uU,p,q⟩,r⟩:=hi.sz b n hb;by_cases he:b=g;·subst he;rw[hw] at p;cases p;exact⟨⟨Dm,e,fr,setRow_heap w b us Dm e fr hw,by rw[RG];exact q⟩,r⟩
   .exact⟨⟨eH,e2,uU,by rw[setRow_other w g b Dm he];exact p,q⟩,r⟩
  .obtain⟨p,q,r⟩:=hi.HD b o v hb;have:b≠g:=λhe=>by subst he;rw[Rr] at r;rcases r with r|⟨_,_,_,r,_⟩<;>cases r
   exact⟨by rw[Cw (setRow_other w g b Dm this)];exact p,q,r⟩
  .by_cases he:E0=id;·subst he;exact⟨g,hg,Rr⟩
   .rw[Af (λx=>he x.symm)] at Ha;exact hi.KY E0 y Ha hy
  .by_cases he:E0=id;·subst he;rw[hg] at hb;cases hb;rw[AG (hi.mu _ _ hg)] at hc;cases hc;exact⟨Dm,e,fr,setRow_heap w g us Dm e fr hw,kN,hr,h1⟩
   .rw[Af (λx=>he x.symm)] at hc;have SB:b≠g:=λhx=>by subst hx;exact he (uniq E0 _ hc (by simp) hb)
    rw[setRow_other w g b Dm SB];exact hi.cells E0 cs hc b hb
  .by_cases he:E0=id;·subst he;rw[AG (hi.mu _ _ hg)] at hc;cases hc
   .rw[Af (λx=>he x.symm)] at hc;have SB:b≠g:=λhx=>by subst hx;exact he (uniq E0 _ hc (by simp) hb)
    rw[setRow_other w g b Dm SB];exact hi.map E0 es hc b hb
  .have:=hi.own b x hx;simpa[World.setRow] using this
 .refine⟨.refl _,by simp[World.setRow],rfl,rfl,rfl,λb hb hn=>⟨?_,rfl⟩⟩;exact setRow_other w g b Dm (λhe=>by subst he;exact hn id Rr)
theorem eI(hi:Gq γ h w){g s st:Nat}{c:Option Nat}(hg:γ.own g=some (.tail s c st)){us:Array Value}{e:TypeId}(hw:w.heap[g]?=some (.cells us e (0,0)))(Dm:Array Value)(k:Nat)(s':Nat)(c':Option Nat)
  (L8:∀o,o<st->Dm[o]?=us[o]?) (hk:st<=k) (h1:∀o u,o<k->Dm[o]?=some u->u.oneCell'=true) (X5:∀o v,γ.HD g o=some v->us[o]?=some v):
  Gq (γ.C5 g Dm k (some (.tail s' c' k))) h (w.setRow g Dm)/\γ.le (γ.C5 g Dm k (some (.tail s' c' k))):=by
 have hlt:∀o v,γ.HD g o=some v->o<st:=λo v ho=>by
  obtain⟨_,_,r⟩:=hi.HD g o v ho;rw[hg] at r;rcases r with r|⟨_,_,_,r,hl⟩
  .cases r
  .cases r;exact hl
 have DY:γ.le (γ.C5 g Dm k (some (.tail s' c' k))):=⟨λb o v hb=>by
  by_cases he:b=g;·subst he;have:=hlt o v hb;simp only[Gh.C5,BO,if_pos (Zz this hk)];rw[L8 o this];exact X5 o v hb
  .simp only[Gh.C5,if_neg he];exact hb,λ_ _ hm=>hm,λ_ _ hm=>hm⟩
 refine⟨⟨λb o v hb=>?_,λid y Ha hy=>?_,λid cs hc b hb=>?_,λid es hc b hb=>?_,hi.mu,λb x hx=>?_,λb n hb=>?_⟩,DY⟩;rotate_left 5
 .obtain⟨p,r⟩:=hi.sz b n hb;have:b≠g:=λhe=>by subst he;rw[hg] at r;rcases r with r|⟨_,r⟩<;>cases r
  exact⟨by rw[setRow_other w g b Dm this];exact p,by simp only[Gh.C5,if_neg this];exact r⟩
 .by_cases he:b=g
  .subst he;simp only[Gh.C5,BO] at hb⊢;split at hb
   .rename_i hl;exact⟨by rw[cell_of_row _ _ _ Dm e (0,0) (setRow_heap w b us Dm e (0,0) hw)];exact hb,
     h1 o v hl hb,.inr ⟨s',c',k,rfl,hl⟩⟩
   .cases hb
  .simp only[Gh.C5,if_neg he] at hb⊢;obtain⟨p,q,r⟩:=hi.HD b o v hb;exact⟨by rw[Cw (setRow_other w g b Dm he)];exact p,q,r⟩
 .obtain⟨b,p,q⟩:=hi.KY id y Ha hy;have:b≠g:=λhe=>by subst he;rw[hg] at q;cases q
  exact⟨b,p,by simp only[Gh.C5,if_neg this];exact q⟩
 .replace hb:γ.mu id=some b:=hb;obtain⟨b',p,q⟩:=hi.KY id _ hc (by simp);rw[hb] at p;cases p;have:b≠g:=λhe=>by subst he;rw[hg] at q;cases q
  rw[setRow_other w g b Dm this];obtain⟨eH,e2,uU,p2,pf2,q2,r2⟩:=hi.cells id cs hc b hb;exact⟨eH,e2,uU,p2,pf2,Bb.mono DY _ _ q2,r2⟩
 .replace hb:γ.mu id=some b:=hb;obtain⟨b',p,q⟩:=hi.KY id _ hc (by simp);rw[hb] at p;cases p;have:b≠g:=λhe=>by subst he;rw[hg] at q;cases q
  rw[setRow_other w g b Dm this];obtain⟨Dj,clock,p2,q2⟩:=hi.map id es hc b hb;exact⟨Dj,clock,p2,q2.mono DY⟩
 .by_cases he:b=g;·subst he;have:=hi.own b _ hg;simpa[World.setRow] using this
  .simp only[Gh.C5,if_neg he] at hx;have:=hi.own b x hx;simpa[World.setRow] using this
theorem J7.write{γ0 γ1:Gh}{w0:World}(ha:J7 γ0 w0 γ w){w1:World}{g:Nat}(hg:w0.heap.size<=g)(DY:γ.le γ1)(hs:w1.heap.size=w.heap.size)(h1:w1.os=w.os)(h2:w1.tape=w.tape)(h3:w1.output=w.output)
  (hk:∀b,b≠g->w1.heap[b]?=w.heap[b]?/\γ1.own b=γ.own b):J7 γ0 w0 γ1 w1:=by
 refine⟨ha.le.trans DY,by rw[hs];exact ha.size,h1.trans ha.os,h2.trans ha.tape,h3.trans ha.output,λb hb hn=>?_⟩;·obtain⟨p,q⟩:=ha.MK b hb hn;obtain⟨p',q'⟩:=hk b (by omega);exact⟨p'.trans p,q'.trans q⟩
theorem uV(hi:Gq γ h w){g id:Nat}{cs:List Aa}(hcs:h[id]?=some (.cells cs))(hg:γ.mu id=some g){us:Array Value}{e:TypeId}{fr:Nat×Nat}(hw:w.heap[g]?=some (.cells us e fr))(h1:∀u∈us.toList.take cs.length,u.oneCell'=true):
  Gq (γ.C5 g us cs.length none) (h.set id .CH) w/\J7 γ w (γ.C5 g us cs.length none) w:=by
 obtain⟨g',p,Rr⟩:=hi.KY id _ hcs (by simp);rw[hg] at p;cases p;have uniq:∀E0 x,h[E0]?=some x->x≠ .CH->γ.mu E0=some g->E0=id:=λE0 x hx yi hm=>by obtain⟨b',p,q⟩:=hi.KY E0 x hx yi;rw[hm] at p;cases p;rw[Rr] at q;cases q;rfl
 have hne:∀o v,γ.HD g o=some v->False:=λo v hv=>by obtain⟨_,_,r⟩:=hi.HD g o v hv;rw[Rr] at r;rcases r with r|⟨_,_,_,r,_⟩<;>cases r
 have DY:γ.le (γ.C5 g us cs.length none):=⟨λb o v hb=>by
  have:b≠g:=λhe=>by subst he;exact hne o v hb
  simp only[Gh.C5,if_neg this];exact hb,λ_ _ hm=>hm,λ_ _ hm=>hm⟩
 constructor
 .refine⟨λb o v hb=>?_,λE0 y Ha hy=>?_,λE0 FI hc b hb=>?_,λE0 es hc b hb=>?_,λE0 b hb=>by simpa using hi.mu E0 b hb,λb x hx=>?_,λb n hb=>?_⟩;rotate_left 5
  .obtain⟨p,r⟩:=hi.sz b n hb;by_cases he:b=g;·subst he;exact⟨p,.inl (by simp[Gh.C5])⟩
   .exact⟨p,by simp only[Gh.C5,if_neg he];exact r⟩
  .by_cases he:b=g
   .subst he;simp only[Gh.C5,BO] at hb⊢;split at hb;·rename_i hlt;exact⟨by rw[cell_of_row _ _ _ us e fr hw];exact hb,h1 v (CE (i:=o) (by rw[C9 hlt];simpa using hb)),.inl (by simp)⟩
    .cases hb
   .simp only[Gh.C5,if_neg he] at hb⊢;exact hi.HD b o v hb
  .by_cases he:E0=id;·subst he;rw[AG (hi.mu _ _ hg)] at Ha;cases Ha;exact absurd rfl hy
   .rw[Af (λx=>he x.symm)] at Ha;obtain⟨b,p,q⟩:=hi.KY E0 y Ha hy;have:b≠g:=λhx=>by subst hx;exact he (uniq E0 y Ha hy p)
    exact⟨b,p,by simp only[Gh.C5,if_neg this];exact q⟩
  .by_cases he:E0=id;·subst he;rw[AG (hi.mu _ _ hg)] at hc;cases hc
   .rw[Af (λx=>he x.symm)] at hc;obtain⟨Dm,e',qC,p,pf,q,r⟩:=hi.cells E0 FI hc b hb;exact⟨Dm,e',qC,p,pf,Bb.mono DY _ _ q,r⟩
  .by_cases he:E0=id;·subst he;rw[AG (hi.mu _ _ hg)] at hc;cases hc
   .rw[Af (λx=>he x.symm)] at hc;obtain⟨Dm,e',p,q⟩:=hi.map E0 es hc b hb;exact⟨Dm,e',p,q.mono DY⟩
  .by_cases he:b=g;·subst he;exact hi.own b _ Rr
   .simp only[Gh.C5,if_neg he] at hx;exact hi.own b x hx
 .refine⟨DY,Ac _,rfl,rfl,rfl,λb hb hn=>⟨rfl,?_⟩⟩;have:b≠g:=λhe=>by subst he;exact hn id Rr
  simp only[Gh.C5,if_neg this]
end
end Go.Am
end
section
namespace Go.Am
def Et.L9(C:FJ)(run:IT->Ag->Option Js)(σ:BG)(h:Ag)(σ':BG)(h':Ag):Et->Prop
 | .pure ws=>σ'=σ.Eh ws/\h'=h
 | .op p args dst own dem=>∃v,Aw p args=some v/\σ'=(σ.Dn dem).put dst (if own then .own v else .val v)/\h'=h
 | .box n v d=>v.cells.length=n/\σ'=σ.set d (.box 0 v.cells [])/\h'=h
 | .KF fn a b fz d=>σ'=(σ.Eh (fz.map λ(s,cs)=>(s,.val (.CB cs)))).set d (.val (.func fn a b))/\h'=h
 | .LL s off n v own dem ver cells owned=>v.cells.length=n/\σ'=(σ.Dn dem).set s (.box (ver+1) (Un cells off n v.cells) (Qp owned off n own))/\h'=h
 | .load n p dst=>∃v,A9 h n p=some v/\σ'=σ.put dst (.val v)/\h'=h
 | .store n p v=>Cd h n p v=some h'/\σ'=σ
 | .alloc n v dst=>v.cells.length=n/\h'=h++[.cells v.cells]/\σ'=σ.put dst (.val (.ptr (some (h.length,0))))
 | .call f args dst=>∃r,run (B5 C f args) h=some (.ret,[r],h')/\σ'=σ.put dst (if C.Io f then .own r else .val r)
 | .FH g args dst=>∃f args' r,Dt g args=some (f,args')/\run (B5 C f args') h=some (.ret,[r],h')/\σ'=σ.put dst (.val r)
 | .Bk f args dst=>args.all Aa.Ls=true/\∃r h1,run (B5 C f args) []=some (.ret,[r],h1)/\r.Ls=true/\σ'=σ.put dst (.val r)/\h'=h
 | .O4 dst=>h'=h++[.map []]/\σ'=σ.put dst (.val (.map (some h.length)))
 | .J4 m k v=>Sv h m k v=some h'/\σ'=σ
 | .make z b zero l c dst=>∃v,Ug h z b zero l c=some (h',v)/\σ'=σ.put dst (.val v)
 | .Hw z b s x dst dem=>∃v,IG h z b s x=some (h',v)/\σ'=(σ.Dn dem).put dst (.val v)
 | .Fs z b s x dst=>∃v,Fl h z b s x=some (h',v)/\σ'=σ.put dst (.val v)
 | .FX z b s x dst dem=>∃v,Pc h z b s x=some v/\σ'=(σ.Dn dem).put dst (.own v)/\h'=h
 | .Fb s dst=>∃v,IQ h s=some (h',v)/\σ'=σ.put dst (.val v)
 | .Tc s dst=>∃v u,Kp h s=some (h',v)/\Aw .Tc [v]=some u/\σ'=σ.put dst (.val u)
 | .mem o args dst=>∃v,Ed o h args=some (h',v)/\σ'=σ.put dst (if o.aDe then .undef else .val v)
 | .L5 z ok m k dst=>∃v,Sw h z ok m k=some v/\σ'=σ.put dst (.val v)/\h'=h
theorem RH{n:Nat}{cs:List Aa}(h:cs.length=n):Um n cs=cs:=by
 subst h;apply List.ext_getElem?;intro i;simp only[Um,Cc,List.getD];by_cases hi:i<cs.length;·simp[List.getElem?_range hi,Ai hi]
 .simp[hi]
theorem WY{C:FJ}{run:IT->Ag->Option Js}{σ:BG}{K:BG->IT}{h:Ag}{R:Js}{r:Et}
  (hr:IT.step (B5 C) run (r.LO C σ K) h=some R):∃σ' h',r.L9 C run σ h σ' h'/\IT.step (B5 C) run (K σ') h'=some R:=by
 cases r with
 |pure ws=>exact⟨_,_,⟨rfl,rfl⟩,hr⟩
 |op p args dst own dem=>
  simp only[Et.LO,IT.step] at hr;split at hr;·rename_i v hv;exact⟨_,_,⟨v,hv,rfl,rfl⟩,hr⟩
  .cases hr
 |box n v d=>
  simp only[Et.LO,IT.step] at hr;split at hr;·rename_i hn;rw[RH hn] at hr;exact⟨_,_,⟨hn,rfl,rfl⟩,hr⟩
  .cases hr
 |KF fn a b fz d=>exact⟨_,_,⟨rfl,rfl⟩,hr⟩
 |LL s off n v own dem ver cells owned=>
  simp only[Et.LO,IT.step] at hr;split at hr;·rename_i hn;rw[RH hn] at hr;exact⟨_,_,⟨hn,rfl,rfl⟩,hr⟩
  .cases hr
 |load n p dst=>
  simp only[Et.LO,IT.step] at hr;split at hr;·rename_i v hv;exact⟨_,_,⟨v,hv,rfl,rfl⟩,hr⟩
  .cases hr
 |store n p v=>
  simp only[Et.LO,IT.step] at hr;split at hr;·rename_i h1 hv;exact⟨_,_,⟨hv,rfl⟩,hr⟩
  .cases hr
 |alloc n v dst=>
  simp only[Et.LO,IT.step,X2] at hr;by_cases hn:v.cells.length=n;·rw[if_pos hn] at hr;exact⟨_,_,⟨hn,rfl,rfl⟩,hr⟩
  .rw[if_neg hn] at hr;cases hr
 |call f args dst=>
  simp only[Et.LO,IT.step] at hr;split at hr;·rename_i r h1 hv;exact⟨_,_,⟨r,hv,rfl⟩,hr⟩
  .cases hr
 |FH g args dst=>
  simp only[Et.LO,IT.step] at hr;split at hr
  .rename_i f a' ht;split at hr;·rename_i r h1 hv;exact⟨_,_,⟨f,a',r,ht,hv,rfl⟩,hr⟩
   .cases hr
  .cases hr
 |Bk f args dst=>
  simp only[Et.LO,IT.step] at hr;split at hr
  .rename_i Gv;split at hr
   .rename_i r h1 hv;split at hr;·rename_i tq;exact⟨_,_,⟨Gv,r,h1,hv,tq,rfl,rfl⟩,hr⟩
    .cases hr
   .cases hr
  .cases hr
 |O4 dst=>exact⟨_,_,⟨rfl,rfl⟩,hr⟩
 |J4 m k v=>
  simp only[Et.LO,IT.step] at hr;split at hr;·rename_i h1 hv;exact⟨_,_,⟨hv,rfl⟩,hr⟩
  .cases hr
 |L5 z ok m k dst=>
  simp only[Et.LO,IT.step] at hr;split at hr;·rename_i v hv;exact⟨_,_,⟨v,hv,rfl,rfl⟩,hr⟩
  .cases hr
 |make z b zero l c dst=>
  simp only[Et.LO,IT.step] at hr;split at hr;·rename_i h1 v hv;exact⟨_,_,⟨v,hv,rfl⟩,hr⟩
  .cases hr
 |Hw z b s x dst dem=>
  simp only[Et.LO,IT.step] at hr;split at hr;·rename_i h1 v hv;exact⟨_,_,⟨v,hv,rfl⟩,hr⟩
  .cases hr
 |Fs z b s x dst=>
  simp only[Et.LO,IT.step] at hr;split at hr;·rename_i h1 v hv;exact⟨_,_,⟨v,hv,rfl⟩,hr⟩
  .cases hr
 |FX z b s x dst dem=>
  simp only[Et.LO,IT.step] at hr;split at hr;·rename_i v hv;exact⟨_,_,⟨v,hv,rfl,rfl⟩,hr⟩
  .cases hr
 |Fb s dst=>
  simp only[Et.LO,IT.step] at hr;split at hr;·rename_i h1 v hv;exact⟨_,_,⟨v,hv,rfl⟩,hr⟩
  .cases hr
 |Tc s dst=>
  simp only[Et.LO,IT.step] at hr;split at hr
  .rename_i h1 v hv;split at hr;·rename_i u hu;exact⟨_,_,⟨v,u,hv,hu,rfl⟩,hr⟩
   .cases hr
  .cases hr
 |mem o args dst=>
  simp only[Et.LO,IT.step] at hr;split at hr;·rename_i h1 v hv;exact⟨_,_,⟨v,hv,rfl⟩,hr⟩
  .cases hr
structure CT(C:FJ)(γ0:Gh)(w0:World)(γ:Gh)(β:Nat->Nat)(σ:BG)(h:Ag)(a:Act)(w:World):Prop where
 DD:Gq γ h w
 fr:FR γ β w0.heap.size σ a.tmps w
 Dw:J7 γ0 w0 γ w
 defers:a.defers=[]
 Gg:∀g cs,C.Gg g=some cs->CJ γ cs g 0
theorem Qt{γ:Gh}{v:Value}{a:Aa}(h:NJ v=some a):BH γ a v/\v.oneCell'=true:=by
 unfold NJ at h;split at h;case h_7=>
  rename_i fn f c;split at h;·rename_i hs;cases h;have e1:f=#[]:=Su hs.1;have e2:c=#[]:=Su hs.2;subst e1;subst e2;exact⟨⟨#[],#[],rfl,rfl,rfl⟩,rfl⟩
  .cases h
 all_goals first
  |(cases h;exact⟨rfl,rfl⟩)
  |cases h
theorem LP{γ:Gh}:∀{vs:List Value} {as:List Aa},KN vs=some as->Bb γ as vs/\∀v∈vs,v.oneCell'=true
 |[],as,h=>by cases h;exact⟨rfl,by simp⟩
 |v::vs,as,h=>by
  unfold KN at h;split at h;·rename_i a as' h1 h2;cases h;obtain⟨p,q⟩:=Qt (γ:=γ) h1;obtain⟨p',q'⟩:=LP (γ:=γ) h2;exact⟨⟨v,vs,rfl,p,p'⟩,λx hx=>(AP.1 hx).elim (λe=>by rw[e];exact q) (q' x)⟩
  .cases h
theorem EU{γ:Gh}{v:Value}{a:Aa}(h:JU v=some a):BH γ a v:=by
 unfold JU at h;split at h
 .rename_i cs;cases hs:KN cs.toList with
  |none=>rw[hs] at h;cases h
  |some as=>rw[hs] at h;cases h;obtain⟨p,q⟩:=LP (γ:=γ) hs;exact⟨cs,rfl,p,q⟩
 .exact(Qt h).1
section
variable{C:FJ}{γ0 γ:Gh}{w0 w:World}{β:Nat->Nat}{σ:BG}{h:Ag}{a:Act}
theorem PJ(hr:CT C γ0 w0 γ β σ h a w){x:Operand}{sl:D9}(hx:DL C σ x=some sl)(hn:∀s,x≠ .tmp s):∃s,Ks γ β w0.heap.size w s sl (a.eval x):=by
 unfold DL at hx;split at hx;·exact absurd rfl (hn _)
 .cases hx;exact⟨0,rfl⟩
 .cases hx;exact⟨0,rfl,.inl rfl⟩
 .rename_i v _ _;cases hc:JU v with
  |none=>rw[hc] at hx;cases hx
  |some u=>rw[hc] at hx;cases hx;exact⟨0,EU hc⟩
 .rename_i g;cases hc:C.Gg g with
  |none=>rw[hc] at hx;cases hx
  |some cs=>rw[hc] at hx;cases hx;exact⟨0,g,0,rfl,hr.Gg g cs hc⟩
 .cases hx;exact⟨0,#[],#[],rfl,rfl,rfl⟩
theorem Qu(hr:CT C γ0 w0 γ β σ h a w)(s:Nat):Ks γ β w0.heap.size w s (σ.at s) (a.eval (.tmp s)):=hr.fr.Hz s
theorem Fz(hr:CT C γ0 w0 γ β σ h a w){x:Operand}{sl:D9}(hx:DL C σ x=some sl):∃s,Ks γ β w0.heap.size w s sl (a.eval x)/\∀t,x= .tmp t->s=t:=by
 cases x with
 |tmp t=>cases hx;exact⟨t,Qu hr t,λ_ h=>by cases h;rfl⟩
 |const v=>obtain⟨s,h1⟩:=PJ hr hx (by intro s h;cases h);exact⟨s,h1,λ_ h=>by cases h⟩
 |global g=>obtain⟨s,h1⟩:=PJ hr hx (by intro s h;cases h);exact⟨s,h1,λ_ h=>by cases h⟩
 |func f=>obtain⟨s,h1⟩:=PJ hr hx (by intro s h;cases h);exact⟨s,h1,λ_ h=>by cases h⟩
theorem Ma{B s:Nat}{sl:D9}{v:Value}{u:Aa}(hs:Ks γ β B w s sl v)(hv:sl.Gt=some u):BH γ u v:=by
 cases sl<;>simp[D9.Gt] at hv;·subst hv;exact hs
 .subst hv;exact hs
 .subst hv;exact hs.1
theorem FU(hr:CT C γ0 w0 γ β σ h a w){x:Operand}{u:Aa}(hx:Eu C σ x=some u):BH γ u (a.eval x):=by
 unfold Eu at hx;cases hs:DL C σ x with
 |none=>rw[hs] at hx;cases hx
 |some sl=>rw[hs] at hx;obtain⟨s,h1,_⟩:=Fz hr hs;exact Ma h1 hx
theorem Dx(hr:CT C γ0 w0 γ β σ h a w):∀{xs:List Operand} {us:List Aa},Br C σ xs=some us->Bb γ us (xs.map a.eval)
 |[],us,hx=>by cases hx;rfl
 |x::xs,us,hx=>by
  unfold Br at hx;split at hx;·rename_i u Dm h1 h2;cases hx;exact⟨_,_,rfl,FU hr h1,Dx hr h2⟩
  .cases hx
theorem FR.put{B:Nat}{tmps:Array Value}(hf:FR γ β B σ tmps w){d:Nat}{x:D9}{v:Value}(hx:Ks γ β B w d x v):FR γ β B (σ.set d x) (tmps.setIfInBounds d v) w:=by
 refine⟨by simp[hf.size],λs=>?_⟩;have hs:=hf.Hz s;by_cases he:s=d
 .subst he;by_cases hl:s<σ.length
  .have hl':s<tmps.size:=by rw[<-hf.size];exact hl
   simpa[BG.at,List.getD,hl,hl',Array.getD] using hx
  .have hl':¬s<tmps.size:=by rw[<-hf.size];exact hl
   simpa[BG.at,List.getD,hl,hl',Array.getD] using hs
 .have h1:BG.at (σ.set d x) s=σ.at s:=by simp[BG.at,List.getD,Af (λe=>he e.symm)]
  have h2:(tmps.setIfInBounds d v).getD s undef=tmps.getD s undef:=by simp[Lr,Array.getElem?_setIfInBounds_ne (λe=>he e.symm)]
  rw[h1,h2];exact hs
theorem FR.ZQ{B:Nat}{tmps:Array Value}(hf:FR γ β B σ tmps w){d:Nat}{x:D9}(hx:Ks γ β B w d x (tmps.getD d undef)):FR γ β B (σ.set d x) tmps w:=by
 refine⟨by simp[hf.size],λs=>?_⟩;have hs:=hf.Hz s;by_cases he:s=d
 .subst he;by_cases hl:s<σ.length;·simpa[BG.at,List.getD,hl] using hx
  .simpa[BG.at,List.getD,hl] using hs
 .have h1:BG.at (σ.set d x) s=σ.at s:=by simp[BG.at,List.getD,Af (λe=>he e.symm)]
  rw[h1];exact hs
theorem CT.put(hr:CT C γ0 w0 γ β σ h a w){d:Option Nat}{x:D9}{v:Value}(hx:∀s,d=some s->Ks γ β w0.heap.size w s x v):CT C γ0 w0 γ β (σ.put d x) h (a.put d v) w:=by
 cases d with
 |none=>exact hr
 |some d=>exact⟨hr.DD,hr.fr.put (hx d rfl),hr.Dw,hr.defers,hr.Gg⟩
theorem CT.ZQ(hr:CT C γ0 w0 γ β σ h a w){d:Nat}{x:D9}(hx:Ks γ β w0.heap.size w d x (a.tmps.getD d undef)):CT C γ0 w0 γ β (σ.set d x) h a w:=
 ⟨hr.DD,hr.fr.ZQ hx,hr.Dw,hr.defers,hr.Gg⟩
theorem CT.drop(hr:CT C γ0 w0 γ β σ h a w)(ds:List Nat):CT C γ0 w0 γ β (σ.drop ds) h a w:=by
 cases ds with
 |nil=>exact hr
 |cons d ds=>
  refine⟨hr.DD,⟨by simp[BG.drop,hr.fr.size],λs=>?_⟩,hr.Dw,hr.defers,hr.Gg⟩;have hs:=hr.fr.Hz s;have e:(BG.drop σ (d::ds)).at s=match σ.at s with| .EI t o=>if(d::ds).contains t then .undef else .EI t o|x=>x:=by
   simp only[BG.drop,BG.at,List.getD,Cc];cases hg:σ[s]? with
   |none=>rfl
   |some x=>cases x<;>rfl
  rw[e];cases hx:σ.at s with
  |EI t o=>
   rw[hx] at hs;simp only
   split;·trivial
   .exact hs
  |_=>rw[hx] at hs;exact hs
theorem CT.world(hr:CT C γ0 w0 γ β σ h a w){γ':Gh}{h':Ag}{w':World}(hi:Gq γ' h' w')(ha:J7 γ w γ' w'):CT C γ0 w0 γ' β σ h' a w':=
 ⟨hi,hr.fr.kept (qB.yg hr.DD ha),hr.Dw.trans ha,hr.defers,λg cs hg=>CJ.mono ha.le _ _ _ (hr.Gg g cs hg)⟩
theorem Is{P:Program}{o:Oper}{v:Value}{w':World}{next:Act->World->Prop}{Q:Exit->Act->World->Prop}(he:(execOp a.eval o).run P w= .ok (.value v) w')(hn:next (a.put o.dst v) w'):o.wp P a w next Q:=by unfold Oper.wp;rw[he];exact hn
theorem eJ{P:Program}{o:Oper}{w':World}{next:Act->World->Prop}{Q:Exit->Act->World->Prop}(he:(execOp a.eval o).run P w= .ok .skip w')(hn:next (a.put o.dst undef) w'):o.wp P a w next Q:=by unfold Oper.wp;rw[he];exact hn
end
end Go.Am
end
section
namespace Go.Am
def Gh.Fc(γ:Gh)(g:Nat)(x:Ju):Gh:={γ with own:=λb=>if b=g then some x else γ.own b}
section
variable{C:FJ}{γ0 γ:Gh}{w0 w:World}{β:Nat->Nat}{σ:BG}{h:Ag}{a:Act}
theorem Gw(γ:Gh)(g:Nat)(x:Ju):γ.le (γ.Fc g x):=⟨λ_ _ _ h=>h,λ_ _ h=>h,λ_ _ h=>h⟩
theorem Gq.Fc(hi:Gq γ h w){g s s' st:Nat}{c c':Option Nat}(hg:γ.own g=some (.tail s c st)):Gq (γ.Fc g (.tail s' c' st)) h w:=by
 refine⟨λb o v hb=>?_,λid y Ha hy=>?_,λid cs hc b hb=>?_,λid es hc b hb=>?_,hi.mu,λb x hx=>?_,λb n hb=>?_⟩;rotate_left 5
 .obtain⟨p,r⟩:=hi.sz b n hb;have:b≠g:=λhe=>by subst he;rw[hg] at r;rcases r with r|⟨_,r⟩<;>cases r
  exact⟨p,by simp only[Gh.Fc,if_neg this];exact r⟩
 .obtain⟨p,q,r⟩:=hi.HD b o v hb;refine⟨p,q,?_⟩;by_cases he:b=g
  .subst he;rw[hg] at r;rcases r with r|⟨_,_,_,r,hl⟩
   .cases r
   .cases r;exact .inr ⟨s',c',st,by simp[Gh.Fc],hl⟩
  .simpa only[Gh.Fc,if_neg he] using r
 .obtain⟨b,p,q⟩:=hi.KY id y Ha hy;have:b≠g:=λhe=>by subst he;rw[hg] at q;cases q
  exact⟨b,p,by simp only[Gh.Fc,if_neg this];exact q⟩
 .obtain⟨us,e,fr,p,pf,q,r⟩:=hi.cells id cs hc b hb;exact⟨us,e,fr,p,pf,Bb.mono (Gw γ g _) _ _ q,r⟩
 .obtain⟨us,e,p,q⟩:=hi.map id es hc b hb;exact⟨us,e,p,q.mono (Gw γ g _)⟩
 .by_cases he:b=g;·subst he;exact hi.own b _ hg
  .simp only[Gh.Fc,if_neg he] at hx;exact hi.own b x hx
theorem HY.Fc{B:Nat}{s s2 st:Nat}{c c2:Option Nat}{v:Value}{u:Aa}{x:Ju}{g:Nat}(hg:γ.own g=some (.tail s c st))(ho:HY γ B w s2 c2 v u)(hne:s2≠s\/c2≠c):HY (γ.Fc g x) B w s2 c2 v u:=by
 rcases ho with ho|⟨g2,n,cap,us,e,z,Au,h1,h2,h3,h4⟩
 .exact .inl ho
 .have:g2≠g:=λhe=>by subst he;rw[hg] at h3;cases h3;rcases hne with hne|hne<;>exact hne rfl
  exact .inr ⟨g2,n,cap,us,e,z,Au,h1,h2,by simp only[Gh.Fc,if_neg this];exact h3,h4⟩
theorem FR.Fc{B:Nat}{tmps:Array Value}(hf:FR γ β B σ tmps w){g s st:Nat}{c:Option Nat}{x:Ju}(hg:γ.own g=some (.tail s c st))
  (h1:c=none->∀v,σ.at s≠ .own v) (h2:∀o,c=some o->∀ver cs ow,σ.at s= .box ver cs ow->o∉ow):FR (γ.Fc g x) β B σ tmps w:=by
 refine⟨hf.size,λs2=>?_⟩;have hs:=hf.Hz s2;cases hx:σ.at s2 with
 |undef=>trivial
 |skip=>rw[hx] at hs;exact hs
 |val u=>rw[hx] at hs;exact BH.mono (Gw γ g x) _ _ hs
 |Nv b=>rw[hx] at hs;exact hs
 |own u=>
  rw[hx] at hs;refine⟨BH.mono (Gw γ g x) _ _ hs.1,hs.2.Fc hg ?_⟩;by_cases he:s2=s
  .subst he;cases c with
   |none=>exact absurd hx (h1 rfl u)
   |some o=>exact .inr (by simp)
  .exact .inl he
 |box ver cs ow=>
  rw[hx] at hs;obtain⟨p1,p2,p3,us,e,p4,p5,p6,p7⟩:=hs;have hb:β s2≠g:=λhe=>by rw[he,hg] at p2;cases p2
  refine⟨p1,by simp only[Gh.Fc,if_neg hb];exact p2,p3,us,e,p4,Bb.mono (Gw γ g x) _ _ p5,p6,λo ho=>?_⟩;obtain⟨u,v,q1,q2,q3⟩:=p7 o ho;refine⟨u,v,q1,q2,q3.Fc hg ?_⟩;by_cases he:s2=s
  .subst he;cases c with
   |none=>exact .inr (by simp)
   |some o'=>refine .inr λhe=>?_;cases he;exact h2 o rfl ver cs ow hx ho
  .exact .inl he
 |EI s' o=>rw[hx] at hs;exact hs
theorem CT.Fc(hr:CT C γ0 w0 γ β σ h a w){g s st s':Nat}{c c':Option Nat}(hg:γ.own g=some (.tail s c st))(hB:w0.heap.size<=g)
  (h1:c=none->∀v,σ.at s≠ .own v) (h2:∀o,c=some o->∀ver cs ow,σ.at s= .box ver cs ow->o∉ow):CT C γ0 w0 (γ.Fc g (.tail s' c' st)) β σ h a w:=by
 refine⟨hr.DD.Fc hg,hr.fr.Fc hg h1 h2,?_,hr.defers,λx cs hx=>CJ.mono (Gw γ g _) _ _ _ (hr.Gg x cs hx)⟩;refine⟨hr.Dw.le.trans (Gw γ g _),hr.Dw.size,hr.Dw.os,hr.Dw.tape,hr.Dw.output,λb hb hn=>?_⟩;·obtain⟨p,q⟩:=hr.Dw.MK b hb hn;exact⟨p,by simp only[Gh.Fc,if_neg (show b≠g by omega)];exact q⟩
theorem BG.EV{s:Nat}{x:D9}(hs:s<σ.length):BG.at (σ.set s x) s=x:=by simp[BG.at,List.getD,hs]
theorem BG.Fm{s t:Nat}{x:D9}(hs:s≠t):BG.at (σ.set s x) t=σ.at t:=by simp[BG.at,List.getD,Af hs]
theorem BG.NQ{s:Nat}(hs:σ.at s≠ .undef):s<σ.length:=by
 rcases AN s σ.length with h|h
 .exact h
 .exact absurd (by simp[BG.at,List.getD,E3 h]) hs
theorem CT.take(hr:CT C γ0 w0 γ β σ h a w){s:Nat}{v:Aa}(hs:σ.at s= .own v)(s':Nat)(c':Option Nat):
  ∃γ',γ.le γ'/\CT C γ0 w0 γ' β (σ.set s (.val v)) h a w/\BH γ' v (a.tmps.getD s undef)/\HY γ' w0.heap.size w s' c' (a.tmps.getD s undef) v:=by
 have h0:=hr.fr.Hz s;rw[hs] at h0;obtain⟨hv,ho⟩:=h0;have Jv:CT C γ0 w0 γ β (σ.set s (.val v)) h a w:=hr.ZQ hv;have hl:s<σ.length:=BG.NQ (by rw[hs];simp);rcases ho with ho|⟨g,n,cap,us,e,z,Au,h1,h2,h3,h4,h5⟩
 .exact⟨γ,.refl _,Jv,hv,.inl ho⟩
 .refine⟨γ.Fc g (.tail s' c' (n*z)),Gw _ _ _,Jv.Fc h3 h4 (λ_ u=>?_) (λo ho=>by cases ho),BH.mono (Gw _ _ _) _ _ hv,.inr ⟨g,n,cap,us,e,z,Au,h1,h2,by simp[Gh.Fc],h4,h5⟩⟩;rw[BG.EV hl];simp
theorem X6{B s d:Nat}{sl sl':D9}{v:Value}(hs:Ks γ β B w s sl v)(hc:HH sl=some sl'):Ks γ β B w d sl' v:=by
 cases sl<;>simp[HH] at hc;·subst hc;exact hs
 .subst hc;exact hs
 .subst hc;exact hs.1
 .subst hc;exact hs
theorem MM{ws:List (Nat×D9)}(h:∀p∈ws,∀cs ow,p.2≠ .box 0 cs ow):(Et.pure ws).news=[]:=by
 simp only[Et.news,List.filterMap_eq_nil_iff];rintro⟨s,x⟩ hp;have:=h _ hp;cases x with
 |box ver cs ow=>
  cases ver with
  |zero=>exact absurd rfl (this cs ow)
  |succ n=>rfl
 |_=>rfl
theorem Qv{v:Value}{sl:D9}(hs:DL C σ (.const v)=some sl):(∀B d,Ks γ β B w d sl v)/\∀ver cs ow,sl≠ .box ver cs ow:=by
 unfold DL at hs;split at hs;·rename_i Jo;cases Jo
 .rename_i Jo;cases Jo;cases hs;exact⟨λ_ _=>rfl,λ_ _ _ h=>by cases h⟩
 .rename_i Jo;cases Jo;cases hs;exact⟨λ_ _=>⟨rfl,.inl rfl⟩,λ_ _ _ h=>by cases h⟩
 .rename_i Jo;cases Jo;cases hc:JU v with
  |none=>rw[hc] at hs;cases hs
  |some u=>rw[hc] at hs;cases hs;exact⟨λ_ _=>EU hc,λ_ _ _ h=>by cases h⟩
 .rename_i Jo;cases Jo
 .rename_i Jo;cases Jo
theorem Gj{s:Nat}{sl:D9}(hs:DL C σ (.tmp s)=some sl):σ.at s=sl:=ED hs
theorem eK{x:Operand}{v:Aa}(hs:DL C σ x=some (.own v))(hn:∀c,x≠ .const c):∃s,x= .tmp s/\σ.at s= .own v:=by
 cases x with
 |tmp s=>exact⟨s,rfl,Gj hs⟩
 |const c=>exact absurd rfl (hn c)
 |global g=>have TR:(C.Gg g).map (λcs=>D9.val (Aa.CB cs))=some (.own v):=hs;cases hc:C.Gg g<;>rw[hc] at TR<;>cases TR
 |func f=>cases hs
theorem Qw{x:Operand}{d:Nat}{take:Bool}{r:Et}{run:IT->Ag->Option Js}{σ':BG}{h':Ag}(hm:Jz C σ x d take=some r)(hd:r.L9 C run (σ.drop r.news) h σ' h')
  (hr:CT C γ0 w0 γ β σ h a w):∃γ',CT C γ0 w0 γ' β σ' h' (a.put (some d) (a.eval x)) w:=by
 unfold Jz at hm;split at hm;·rename_i s _ _ _ hs;cases hm;rw[MM (by simp)] at hd;obtain⟨rfl,rfl⟩:=hd;refine⟨γ,hr.put (d:=some d) λt ht=>?_⟩;have h0:=Qu hr s;rw[Gj hs] at h0;exact h0.1
 .rename_i v sl hs;cases hm;obtain⟨p,q⟩:=Qv (γ:=γ) (β:=β) (w:=w) hs;rw[MM (by simpa using λcs ow=>q 0 cs ow)] at hd;obtain⟨rfl,rfl⟩:=hd;exact⟨γ,hr.put (d:=some d) λt _=>p _ t⟩
 .rename_i v hnc hs;split at hm;·cases hm;obtain⟨s,rfl,tw⟩:=eK hs (λc hc=>hnc c hc);rw[MM (by simp[Qo])] at hd;obtain⟨rfl,rfl⟩:=hd;obtain⟨γ',DY,Fy,Du,dg⟩:=hr.take tw d none;exact⟨γ',Fy.put (d:=some d) λt ht=>by cases ht;exact⟨Du,dg⟩⟩
  .simp only[HH,BT] at hm;cases hm;rw[MM (by simp)] at hd;obtain⟨rfl,rfl⟩:=hd;obtain⟨s,h1,_⟩:=Fz hr hs;exact⟨γ,hr.put (d:=some d) λt ht=>h1.1⟩
 .rename_i sl _ _ _ hs;cases hc:HH sl with
  |none=>rw[hc] at hm;cases hm
  |some sl'=>
   rw[hc] at hm;cases hm;have tQ:∀cs ow,sl'≠ .box 0 cs ow:=by intro cs ow he;subst he;cases sl<;>simp[HH] at hc
   rw[MM (by simpa using tQ)] at hd;obtain⟨rfl,rfl⟩:=hd;obtain⟨s,h1,_⟩:=Fz hr hs;exact⟨γ,hr.put (d:=some d) λt ht=>X6 h1 hc⟩
 .cases hm
end
end Go.Am
end
section
namespace Go.Am
open Go
theorem Uu{s:Sem Value}{v:Value}(h:OA s=some v):s= .pure v:=by cases s<;>simp[OA] at h;subst h;rfl
section
variable{P:Program}{γ:Gh}{w:World}
theorem ZR{op:BinOp}{k l:IntKind}{x y:Int}{u:Aa}(t:TypeId)(ox oy:Operand)(h:kE op k x l y=some u):
  ∃v,(do eqGuard op t ox oy (.int k x) (.int l y);binOp op t (.int k x) (.int l y):Sem Value).run P w= .ok v w/\BH γ u v:=by
 unfold kE at h;cases hs:OA (binOp op 0 (.int k x) (.int l y)) with
 |none=>rw[hs] at h;cases h
 |some v=>
  rw[hs] at h;have e1:=Uu hs;have e2:binOp op t (.int k x) (.int l y)= .pure v:=by rw[<-e1];cases op<;>rfl
  have e3:eqGuard op t ox oy (.int k x) (.int l y)=pure ():=by cases op<;>rfl
  refine⟨v,by rw[e3,e2];rfl,?_⟩;simp only[Ct] at h;split at h<;>cases h<;>rfl
theorem X7(l:List UInt8):(ByteArray.mk ⟨l⟩).toList=l:=ByteArray.toList_mk l
theorem ZS{op:BinOp}{x y:As}{u:Aa}(t:TypeId)(ox oy:Operand)(h:WV op x y=some u):
  ∃v,(do eqGuard op t ox oy (.string ⟨⟨x⟩⟩) (.string ⟨⟨y⟩⟩);binOp op t (.string ⟨⟨x⟩⟩) (.string ⟨⟨y⟩⟩):Sem Value).run P w= .ok v w/\BH γ u v:=by
 have e3:eqGuard op t ox oy (.string ⟨⟨x⟩⟩) (.string ⟨⟨y⟩⟩)=pure ():=by cases op<;>rfl
 have e2:binOp op t (.string ⟨⟨x⟩⟩) (.string ⟨⟨y⟩⟩)=Op.stringOp op ⟨⟨x⟩⟩ ⟨⟨y⟩⟩:=by cases op<;>rfl
 rw[e3,e2];unfold WV at h;cases op<;>simp only at h<;>first
  |cases h;done
  |(simp only[Op.stringOp,X7];cases h;exact⟨_,rfl,rfl⟩)
  | (split at h
     . rename_i DY
       cases h
       have hc : ¬ ((((ByteArray.mk ⟨x⟩).size + (ByteArray.mk ⟨y⟩).size : Nat) : Int) > IntKind.i64.max) := by
         have e1 : (ByteArray.mk ⟨x⟩).size = x.length := rfl
         have e2 : (ByteArray.mk ⟨y⟩).size = y.length := rfl
         rw [e1, e2]
         have : IntKind.i64.max = 9223372036854775807 := by decide
         rw [this]
         omega
       simp only [Op.stringOp, if_neg hc]
       refine ⟨_, rfl, ?_⟩
       show Value.string _ = Value.string _
       first
         | (congr 1; done)
         | (congr 1; apply ByteArray.ext; simp)
     . cases h)
theorem eL{t:TypeId}(h:EP P t=some none):(isAgg t).run P w= .ok false w:=by
 unfold EP at h;split at h;·cases hs:BQ P t<;>rw[hs] at h<;>cases h
 .cases hs:BQ P t<;>rw[hs] at h<;>cases h
 .rename_i d h1 h2 hu;simp only[isAgg,Sem.run_bind,run_underlying hu,Result.andThen_ok];rfl
 .cases h
theorem PK{t:TypeId}{n:Nat}(h:EP P t=some (some n)):(isAgg t).run P w= .ok true w/\BQ P t=some n:=by
 unfold EP at h;split at h
 .rename_i fs hu;cases hs:BQ P t with
  |none=>rw[hs] at h;cases h
  |some m=>rw[hs] at h;cases h;exact⟨by simp[isAgg,run_underlying hu],rfl⟩
 .rename_i fs _ hu;cases hs:BQ P t with
  |none=>rw[hs] at h;cases h
  |some m=>rw[hs] at h;cases h;exact⟨by simp[isAgg,run_underlying hu],rfl⟩
 .cases h
 .cases h
theorem Dq{t:TypeId}{n:Nat}(h:BQ P t=some n):(sizeOf t).run P w= .ok n w:=by
 unfold BQ at h;cases hi:P.info? t with
 |none=>rw[hi] at h;cases h
 |some i=>rw[hi] at h;cases h;simp[sizeOf,typeInfo,hi]
theorem ZT{t:TypeId}{sh:Option Nat}{cs:List Aa}{us:Array Value}{off:Nat}{u:Aa}(dR:EP P t=some sh)(hr:Bb γ cs us.toList)(h1:∀v∈us.toList,v.oneCell'=true)
  (hp:ER cs off sh=some u):∃v,(part t us off).run P w= .ok v w/\BH γ u v:=by
 cases sh with
 |none=>
  replace hp:cs[off]?=some u:=hp;obtain⟨v,hv,hrel⟩:=hr.get hp;refine⟨v,?_,hrel⟩;have Du:us[off]?=some v:=by simpa using hv
  simp[part,eL dR,Du]
 |some n=>
  obtain⟨ha,hs⟩:=PK (w:=w) dR;replace hp:(if off+n<=cs.length then some (Aa.agg ((cs.drop off).take n)) else none)=some u:=hp;split at hp
  .cases hp;refine⟨.agg (us.extract off (off+n)),by simp[part,ha,Dq hs],us.extract off (off+n),rfl,?_,?_⟩;·have:=(hr.drop off).take n;simpa[aCv,MG] using this
   .intro v hv;refine h1 v ?_;rw[aCv,MG] at hv;exact Bw (Bj hv)
  .cases hp
end
end Go.Am
end
section
namespace Go.Am
open Go
theorem uW{x y:Aa}{b:Bool}(h:Ko .b x y=some b):∃p q,x= .bool p/\y= .bool q/\(p==q)=b:=by unfold Ko at h;split at h<;>first|cases h;done|(rename_i he;cases he;done)|(cases h;exact⟨_,_,rfl,rfl,rfl⟩)
theorem uX{x y:Aa}{b:Bool}(h:Ko .i x y=some b):∃k p q,x= .int k p/\y= .int k q/\(p==q)=b:=by
 unfold Ko at h;split at h;·rename_i he;cases he
 .split at h;·rename_i hk;subst hk;cases h;exact⟨_,_,_,rfl,rfl,rfl⟩
  .cases h
 .rename_i he;cases he
 .cases h
theorem uY{x y:Aa}{b:Bool}(h:Ko .s x y=some b):∃p q,x= .str p/\y= .str q/\(p==q)=b:=by
 unfold Ko at h;split at h;·rename_i he;cases he
 .rename_i he;cases he
 .cases h;exact⟨_,_,rfl,rfl,rfl⟩
 .cases h
theorem NR:∀{ks yj:List FK} {xs ys:List Aa} {b:Bool},DC (ks++yj) xs ys=some b->
  ∃b1 b2,DC ks (xs.take ks.length) (ys.take ks.length)=some b1/\DC yj (xs.drop ks.length) (ys.drop ks.length)=some b2/\b=(b1&&b2)
 |[],yj,xs,ys,b,h=>⟨true,b,by simp[DC],by simpa using h,by simp⟩
 |k::ks,yj,[],ys,b,h=>by cases ys<;>simp[DC] at h
 |k::ks,yj,x::xs,[],b,h=>by simp[DC] at h
 |k::ks,yj,x::xs,y::ys,b,h=>by
  simp only[CC,DC] at h;split at h;·rename_i e es h1 h2;cases h;obtain⟨b1,b2,p,q,r⟩:=NR h2;refine⟨e&&b1,b2,?_,by simpa using q,by rw[r,Bool.and_assoc]⟩;simp only[Bf,aIc,DC,h1,p]
  .cases h
theorem NS:∀{ks:List FK} {xs ys:List Aa} {b:Bool},DC ks xs ys=some b->xs.length=ks.length/\ys.length=ks.length
 |[],xs,ys,b,h=>by cases xs<;>cases ys<;>simp[DC] at h⊢
 |k::ks,xs,ys,b,h=>by
  cases xs<;>cases ys<;>simp[DC] at h;split at h;·rename_i h1 h2;obtain⟨p,q⟩:=NS h2;simp[p,q]
  .cases h
section
variable{P:Program}{γ:Gh}{w:World}
theorem WZ:∀{d:Nat} {t:TypeId} {ks:List FK},NN P d t=some ks->BQ P t=some ks.length
 |0,t,ks,h=>by cases h
 |d+1,t,ks,h=>by
  simp only[NN] at h;split at h;·split at h<;>cases h;assumption
  .split at h<;>cases h;assumption
  .split at h<;>cases h;assumption
  .split at h
   .split at h;·rename_i hc;cases h;exact hc.1
    .cases h
   .cases h
  .cases h
theorem eM{ks:List FK}{k:FK}{t:TypeId}(h:(if BQ P t=some 1 then some [k] else none)=some ks):ks=[k]:=by split at h<;>cases h;rfl
theorem FV{t:TypeId}{us:Array Value}{off:Nat}{v:Value}{d:TypeDesc}(hu:P.underlying t=some d)(h1:∀fs,d≠ .struct fs)(h2:∀n e,d≠ .array n e)(hv:us[off]?=some v):
  (part t us off).run P w= .ok v w:=by
 have ha:(isAgg t).run P w= .ok false w:=by simp only[isAgg,Sem.run_bind,run_underlying hu,Result.andThen_ok];cases d<;>first|rfl|exact absurd rfl (h1 _)|exact absurd rfl (h2 _ _)
 simp[part,ha,hv]
theorem IS{l:List Aa}{off:Nat}{x:Aa}(h:(l.drop off).take 1=[x]):l[off]?=some x:=by have:=Cf (·[0]?) h;simpa using this
theorem Uv{k:FK}{xs ys:List Aa}{b:Bool}(h:DC [k] xs ys=some b):∃x y,xs=[x]/\ys=[y]/\Ko k x y=some b:=by
 cases xs<;>cases ys<;>simp[DC] at h;rename_i x xs y ys;cases xs<;>cases ys<;>simp[DC] at h;all_goals first
  | (split at h
     . rename_i e es h1 h2; cases h2; cases h; exact ⟨x, y, rfl, rfl, by simpa using h1⟩
     . cases h)
  |(split at h<;>simp_all)
mutual
theorem ZU:∀{d D:Nat},d<=D->∀{t:TypeId} {ks:List FK},NN P d t=some ks->∀(us vs:Array Value) (cs ds:List Aa) (off:Nat) (b:Bool),Bb γ cs us.toList->Bb γ ds vs.toList->
  DC ks ((cs.drop off).take ks.length) ((ds.drop off).take ks.length)=some b->
  ∃x y,(part t us off).run P w= .ok x w/\(part t vs off).run P w= .ok y w/\(Op.equalIn D t x y).run P w= .ok b w
 |0,_,_,_,_,h=>by cases h
 |d+1,0,hd,_,_,_=>by omega
 |d+1,D+1,hd,t,ks,h=>by
  intro us vs cs ds off b hu hv he;have hsz:=WZ h;simp only[NN] at h;split at h;·rename_i W0;have:=eM h;subst this;obtain⟨x,y,e1,e2,e3⟩:=Uv he;obtain⟨x',p1,p2⟩:=hu.get (IS e1);obtain⟨y',q1,q2⟩:=hv.get (IS e2);refine⟨x',y',FV W0 (by simp) (by simp) (by simpa using p1),FV W0 (by simp) (by simp) (by simpa using q1),?_⟩;obtain⟨x1,y1,rfl,rfl,e4⟩:=uW e3;rw[p2,q2,run_equalIn_bool' w D t _ _ W0,<-e4]
  .rename_i kk W0;have:=eM h;subst this;obtain⟨x,y,e1,e2,e3⟩:=Uv he;obtain⟨x',p1,p2⟩:=hu.get (IS e1);obtain⟨y',q1,q2⟩:=hv.get (IS e2);refine⟨x',y',FV W0 (by simp) (by simp) (by simpa using p1),FV W0 (by simp) (by simp) (by simpa using q1),?_⟩;obtain⟨k1,x1,y1,rfl,rfl,e4⟩:=uX e3;rw[p2,q2,run_equalIn_int w D t _ _ _ _ W0,<-e4]
  .rename_i W0;have:=eM h;subst this;obtain⟨x,y,e1,e2,e3⟩:=Uv he;obtain⟨x',p1,p2⟩:=hu.get (IS e1);obtain⟨y',q1,q2⟩:=hv.get (IS e2);refine⟨x',y',FV W0 (by simp) (by simp) (by simpa using p1),FV W0 (by simp) (by simp) (by simpa using q1),?_⟩;obtain⟨x1,y1,rfl,rfl,e4⟩:=uY e3;rw[p2,q2,run_equalIn_string w D t _ _ W0,X7,X7,<-e4]
  .rename_i fs W0;split at h
   .rename_i yj F0;split at h
    .rename_i hc;cases h;have dR:EP P t=some (some ks.length):=by simp[EP,W0,hsz]
     obtain⟨ha,hs⟩:=PK (w:=w) dR;refine⟨.agg (us.extract off (off+ks.length)),.agg (vs.extract off (off+ks.length)),by simp[part,ha,Dq hs],by simp[part,ha,Dq hs],?_⟩;have aI1:P.underlying t=some (.struct (P.fieldsOf t)):=by simp[Program.fieldsOf,W0]
     rw[run_equalIn_struct w D t _ _ aI1 hc.2];have hf:(P.fieldsOf t).toList=fs.toList:=by simp[Program.fieldsOf,W0]
     rw[hf];have kO:Bb γ ((cs.drop off).take ks.length) (us.extract off (off+ks.length)).toList:=by have:=(hu.drop off).take ks.length;simpa[aCv,MG] using this
     have Du:Bb γ ((ds.drop off).take ks.length) (vs.extract off (off+ks.length)).toList:=by have:=(hv.drop off).take ks.length;simpa[aCv,MG] using this
     refine W8 (Nat.le_of_succ_le_succ hd) fs.toList F0 _ _ _ _ _ kO Du ?_;simpa using he
    .cases h
   .cases h
  .cases h
theorem W8:∀{d D:Nat},d<=D->∀(fs:List Field) {off:Nat} {ks:List FK},Uj (NN P d) fs off=some ks->∀(us vs:Array Value) (cs ds:List Aa) (b:Bool),Bb γ cs us.toList->Bb γ ds vs.toList->
  DC ks (cs.drop off) (ds.drop off)=some b->(Op.eqFields D us vs fs).run P w= .ok b w
 |d,D,hd,[],off,ks,h=>by
  intro us vs cs ds b hu hv he;cases h;have:b=true:=by cases h1:cs.drop off<;>cases h2:ds.drop off<;>rw[h1,h2] at he<;>simp[DC] at he;exact he
  subst this;rfl
 |d,D,hd,f::fs,off,ks,h=>by
  intro us vs cs ds b hu hv he;simp only[Uj] at h;split at h
  .rename_i hc;obtain⟨hn,aDn⟩:=hc;split at h
   .rename_i ks1 Wr;cases hr:Uj (NN P d) fs (off+ks1.length) with
    |none=>rw[hr] at h;cases h
    |some ks2=>
     rw[hr] at h;cases h;obtain⟨b1,b2,e1,e2,rfl⟩:=NR he;obtain⟨x,y,p1,p2,p3⟩:=ZU hd Wr _ _ _ _ _ _ hu hv e1;simp only[Op.eqFields,hn,ne_eq,An,BO,aDn,Sem.run_bind,p1,p2,p3,Result.andThen_ok];cases b1;·rfl
     .simp only[kC,C2,Ef,Bool.true_and];exact W8 hd fs hr _ _ _ _ _ hu hv (by simpa[E9] using e2)
   .cases h
  .cases h
end
theorem ZV{op:BinOp}{t:TypeId}{ox oy:Operand}{neg:Bool}{ks:List FK}{a b:List Aa}{x y:Value}{u:Aa}(MD:(op= .eql/\neg=false)\/(op= .neq/\neg=true))
  (hg:P.eqGuardType P.depth t=false) (hk:NN P 20 t=some ks) (hst:∃fs,P.underlying t=some (.struct fs)) (hx:BH γ (.agg a) x) (hy:BH γ (.agg b) y) (h:(DC ks a b).map (λe=>Aa.bool (e != neg))=some u):
  ∃v,(do eqGuard op t ox oy x y;binOp op t x y:Sem Value).run P w= .ok v w/\BH γ u v:=by
 obtain⟨us,rfl,hu,_⟩:=hx;obtain⟨vs,rfl,hv,_⟩:=hy;cases he:DC ks a b with
 |none=>rw[he] at h;cases h
 |some e=>
  rw[he] at h;cases h;obtain⟨l1,l2⟩:=NS he;obtain⟨x',y',p1,p2,p3⟩:=ZU (w:=w) (P:=P) (γ:=γ) (D:=10000) (by omega:20<=10000) hk us vs a b 0 e hu hv (by rw[Qg,Qg,Az (WT l1),Az (WT l2)];exact he);obtain⟨fs,F0⟩:=hst;have dR:EP P t=some (some ks.length):=by simp[EP,F0,WZ hk]
  obtain⟨ha,hs⟩:=PK (w:=w) dR;have e1:us.extract 0 ks.length=us:=by
   have:us.size=ks.length:=by have:=hu.length;simp at this;omega
   rw[<-this];simp
  have e2:vs.extract 0 ks.length=vs:=by
   have:vs.size=ks.length:=by have:=hv.length;simp at this;omega
   rw[<-this];simp
  have q1:x'= .agg us:=by simp[part,ha,Dq hs,e1] at p1;exact p1.symm
  have q2:y'= .agg vs:=by simp[part,ha,Dq hs,e2] at p2;exact p2.symm
  subst q1;subst q2;rcases MD with⟨rfl,rfl⟩|⟨rfl,rfl⟩
  .refine⟨.bool e,by simp[run_eqGuard_agg (P:=P) w .eql t ox oy us vs hg,run_eql_struct,p3],?_⟩;show Value.bool e=Value.bool _;cases e<;>rfl
  .refine⟨.bool (!e),by simp[run_eqGuard_agg (P:=P) w .neq t ox oy us vs hg,run_neq_struct,p3],?_⟩;show Value.bool _=Value.bool _;cases e<;>rfl
end
end Go.Am
end
