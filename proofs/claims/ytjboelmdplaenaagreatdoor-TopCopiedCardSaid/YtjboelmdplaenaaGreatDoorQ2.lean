/- Lemmas -/
import Derived.Test.YtjboelmdplaenaaGreatDoorQ1
import Derived.Orders
import Derived.Laws.AppendOwn
import Derived.Laws.StructEq
set_option linter.unusedVariables false
set_option linter.unusedSimpArgs false
section
namespace Go.Am
inductive Owner where
 |obj (id:Nat)
 |loc (s:Nat)
 |tail (s:Nat) (c:Option Nat) (start:Nat)
def Owner.isObj:Owner→Bool
 | .obj _=>true
 |_=>false
structure Gh where
 imm:Nat→Nat→Option Value
 mu:Nat→Option Nat
 own:Nat→Option Owner
 sz:Nat→Option Nat
mutual
def VRel (γ:Gh):AVal→Value→Prop
 | .bool b,v=>v= .bool b
 | .int k n,v=>v= .int k n
 | .str s,v=>v= .string ⟨⟨s⟩⟩
 | .ptr none,v=>v= .pointer none
 | .ptr (some (id,o)),v=>∃b,γ.mu id=some b∧v= .pointer (some ⟨b,o,none⟩)
 | .rptr cs,v=>∃b o,v= .pointer (some ⟨b,o,none⟩)∧VRelM γ cs b o
 | .sl z rows,v=>∃ad cap,v= .slice (some ad) rows.length cap∧rows.length≤cap∧(ad.spot=none∨cap=0)∧VRelR γ rows z ad.block ad.off
 | .slnil,v=>v= .slice none 0 0
 | .nosl _,v=>∃b,v= .slice (some ⟨b,0,none⟩) 0 0
 | .msl id off len z,v=>∃b cap,γ.mu id=some b∧v= .slice (some ⟨b,off,none⟩) len cap∧len≤cap∧(0<z∧cap≤maxLen)∧γ.sz b=some (off+cap*z)
 | .map none,v=>v= .map none
 | .map (some id),v=>∃b,γ.mu id=some b∧v= .map (some b)
 | .func fn f c,v=>∃fs cs,v= .func fn fs cs∧VRelV γ f fs.toList∧VRelV γ c cs.toList
 | .nilFunc,v=>v= .nilFunc
 | .iface t a,v=>∃u,v= .iface t u∧VRel γ a u
 | .nilIface,v=>v= .nilIface
 | .agg cs,v=>∃us,v= .agg us∧VRelV γ cs us.toList∧∀u∈us.toList,u.oneCell'=true
 | .tuple vs,v=>∃us,v= .tuple us∧VRelV γ vs us.toList
def VRelV (γ:Gh):List AVal→List Value→Prop
 |[],us=>us=[]
 |a::l,us=>∃u us',us=u::us'∧VRel γ a u∧VRelV γ l us'
def VRelM (γ:Gh):List AVal→Nat→Nat→Prop
 |[],_,_=>True
 |a::l,b,o=>(∃u,γ.imm b o=some u∧VRel γ a u)∧VRelM γ l b (o+1)
def VRelR (γ:Gh):List (List AVal)→Nat→Nat→Nat→Prop
 |[],_,_,_=>True
 |r::rs,z,b,o=>r.length=z∧VRelM γ r b o∧VRelR γ rs z b (o+z)
end
structure Gh.le (γ γ':Gh):Prop where
 imm:∀b o v,γ.imm b o=some v→γ'.imm b o=some v
 mu:∀id b,γ.mu id=some b→γ'.mu id=some b
 sz:∀b n,γ.sz b=some n→γ'.sz b=some n
theorem Gh.le.refl (γ:Gh):γ.le γ:=⟨λ_ _ _ h=>h,λ_ _ h=>h,λ_ _ h=>h⟩
theorem Gh.le.trans {a b c:Gh} (h:a.le b) (k:b.le c):a.le c:=⟨λ_ _ _ x=>k.imm _ _ _ (h.imm _ _ _ x),λ_ _ x=>k.mu _ _ (h.mu _ _ x),λ_ _ x=>k.sz _ _ (h.sz _ _ x)⟩
mutual
theorem VRel.mono {γ γ':Gh} (hle:γ.le γ'):∀(a:AVal) (v:Value),VRel γ a v→VRel γ' a v
 | .bool b,v,h=>h
 | .int k n,v,h=>h
 | .str s,v,h=>h
 | .ptr none,v,h=>h
 | .ptr (some (id,o)),v,h=>by obtain⟨b,hb,hv⟩:=h;exact⟨b,hle.mu _ _ hb,hv⟩
 | .rptr cs,v,h=>by obtain⟨b,o,hv,hm⟩:=h;exact⟨b,o,hv,VRelM.mono hle cs b o hm⟩
 | .sl z rows,v,h=>by obtain⟨ad,cap,hv,hc,hs,hm⟩:=h;exact⟨ad,cap,hv,hc,hs,VRelR.mono hle rows z _ _ hm⟩
 | .slnil,v,h=>h
 | .nosl _,v,h=>h
 | .msl id off len z,v,h=>by obtain⟨b,cap,hb,hv,hc,hz,hs⟩:=h;exact⟨b,cap,hle.mu _ _ hb,hv,hc,hz,hle.sz _ _ hs⟩
 | .map none,v,h=>h
 | .map (some id),v,h=>by obtain⟨b,hb,hv⟩:=h;exact⟨b,hle.mu _ _ hb,hv⟩
 | .func fn f c,v,h=>by obtain⟨fs,cs,hv,h1,h2⟩:=h;exact⟨fs,cs,hv,VRelV.mono hle f _ h1,VRelV.mono hle c _ h2⟩
 | .nilFunc,v,h=>h
 | .iface t a,v,h=>by obtain⟨u,hv,h1⟩:=h;exact⟨u,hv,VRel.mono hle a u h1⟩
 | .nilIface,v,h=>h
 | .agg cs,v,h=>by obtain⟨us,hv,h1,h2⟩:=h;exact⟨us,hv,VRelV.mono hle cs _ h1,h2⟩
 | .tuple vs,v,h=>by obtain⟨us,hv,h1⟩:=h;exact⟨us,hv,VRelV.mono hle vs _ h1⟩
theorem VRelV.mono {γ γ':Gh} (hle:γ.le γ'):∀(l:List AVal) (us:List Value),VRelV γ l us→VRelV γ' l us
 |[],us,h=>h
 |a::l,us,h=>by obtain⟨u,us',hu,h1,h2⟩:=h;exact⟨u,us',hu,VRel.mono hle a u h1,VRelV.mono hle l us' h2⟩
theorem VRelM.mono {γ γ':Gh} (hle:γ.le γ'):∀(l:List AVal) (b o:Nat),VRelM γ l b o→VRelM γ' l b o
 |[],_,_,_=>trivial
 |a::l,b,o,h=>by obtain⟨⟨u,hu,h1⟩,h2⟩:=h;exact⟨⟨u,hle.imm _ _ _ hu,VRel.mono hle a u h1⟩,VRelM.mono hle l b (o+1) h2⟩
theorem VRelR.mono {γ γ':Gh} (hle:γ.le γ'):∀(rs:List (List AVal)) (z b o:Nat),VRelR γ rs z b o→VRelR γ' rs z b o
 |[],_,_,_,_=>trivial
 |r::rs,z,b,o,h=>⟨h.1,VRelM.mono hle r b o h.2.1,VRelR.mono hle rs z b (o+z) h.2.2⟩
end
theorem VRelV.length {γ:Gh}:∀{l:List AVal} {us:List Value},VRelV γ l us→us.length=l.length
 |[],us,h=>by rw[VRelV] at h;subst h;rfl
 |a::l,us,h=>by obtain⟨u,us',rfl,_,h2⟩:=h;simp[h2.length]
theorem VRelV.get {γ:Gh}:∀{l:List AVal} {us:List Value},VRelV γ l us→∀{i:Nat} {a:AVal},l[i]?=some a→∃u,us[i]?=some u∧VRel γ a u
 |[],us,h,i,a,hi=>by simp at hi
 |x::l,us,h,i,a,hi=>by
  obtain⟨u,us',rfl,h1,h2⟩:=h
  cases i with
  |zero=>simp at hi;subst hi;exact⟨u,rfl,h1⟩
  |succ i=>simp at hi;obtain⟨v,hv,hr⟩:=h2.get hi;exact⟨v,by simpa using hv,hr⟩
theorem VRelV.of_get {γ:Gh}:∀{l:List AVal} {us:List Value},us.length=l.length→(∀(i:Nat) (a:AVal) (u:Value),l[i]?=some a→us[i]?=some u→VRel γ a u)→VRelV γ l us
 |[],us,hl,_=>by rw[VRelV];exact List.eq_nil_of_length_eq_zero hl
 |x::l,[],hl,_=>by simp at hl
 |x::l,u::us,hl,h=>by exact⟨u,us,rfl,h 0 x u rfl rfl,VRelV.of_get (by simpa using hl) λi a v hi hv=>h (i+1) a v (by simpa using hi) (by simpa using hv)⟩
theorem VRelV.append {γ:Gh}:∀{l l':List AVal} {us us':List Value},VRelV γ l us→VRelV γ l' us'→VRelV γ (l++l') (us++us')
 |[],l',us,us',h,h'=>by rw[VRelV] at h;subst h;simpa using h'
 |a::l,l',us,us',h,h'=>by obtain⟨u,r,rfl,h1,h2⟩:=h;exact⟨u,r++us',rfl,h1,h2.append h'⟩
theorem VRelV.take {γ:Gh} {l:List AVal} {us:List Value} (h:VRelV γ l us) (n:Nat):VRelV γ (l.take n) (us.take n):=by
 refine VRelV.of_get (by simp[h.length]) λi a u hi hu=>?_;rw[List.getElem?_take] at hi hu;split at hi
 ·rename_i hlt;obtain⟨v,hv,hr⟩:=h.get hi
  grind
 ·cases hi
theorem VRelV.drop {γ:Gh} {l:List AVal} {us:List Value} (h:VRelV γ l us) (n:Nat):VRelV γ (l.drop n) (us.drop n):=by
 refine VRelV.of_get (by simp[h.length]) λi a u hi hu=>?_;rw[List.getElem?_drop] at hi hu;obtain⟨v,hv,hr⟩:=h.get hi
 grind
theorem VRelM.get {γ:Gh}:∀{l:List AVal} {b o:Nat},VRelM γ l b o→∀{i:Nat} {a:AVal},l[i]?=some a→∃u,γ.imm b (o+i)=some u∧VRel γ a u
 |[],b,o,h,i,a,hi=>by simp at hi
 |x::l,b,o,h,i,a,hi=>by
  obtain⟨⟨u,hu,h1⟩,h2⟩:=h
  cases i with
  |zero=>simp at hi;subst hi;exact⟨u,hu,h1⟩
  |succ i=>
   obtain⟨v,hv,hr⟩:=h2.get hi
   grind
theorem VRelM.of_get {γ:Gh}:∀{l:List AVal} {b o:Nat},(∀(i:Nat) (a:AVal),l[i]?=some a→∃u,γ.imm b (o+i)=some u∧VRel γ a u)→VRelM γ l b o
 |[],b,o,h=>by rw[VRelM];trivial
 |x::l,b,o,h=>by
  refine⟨h 0 x rfl,VRelM.of_get λi a hi=>?_⟩;obtain⟨u,hu,hr⟩:=h (i+1) a (by simpa using hi)
  grind
theorem VRelM.drop {γ:Gh} {l:List AVal} {b o:Nat} (h:VRelM γ l b o) (n:Nat):VRelM γ (l.drop n) b (o+n):=by
 refine VRelM.of_get λi a hi=>?_;rw[List.getElem?_drop] at hi;obtain⟨u,hu,hr⟩:=h.get hi
 grind
theorem VRelM.values {γ:Gh}:∀{l:List AVal} {b o:Nat},VRelM γ l b o→∃us:List Value,VRelV γ l us∧∀(j:Nat) (u:Value),us[j]?=some u→γ.imm b (o+j)=some u
 |[],b,o,h=>⟨[],by rw[VRelV],by simp⟩
 |x::l,b,o,h=>by
  obtain⟨⟨u,hu,h1⟩,h2⟩:=h;obtain⟨us,hr,hi⟩:=h2.values;refine⟨u::us,by rw[VRelV];exact⟨u,us,rfl,h1,hr⟩,λj v hj=>?_⟩
  cases j with
  |zero=>simp at hj;subst hj;exact hu
  |succ j=>simp at hj;rw[←hi j v hj];congr 1;omega
theorem VRelR.get {γ:Gh}:∀{rs:List (List AVal)} {z b o:Nat},VRelR γ rs z b o→∀{i:Nat} {r:List AVal},rs[i]?=some r→r.length=z∧VRelM γ r b (o+i*z)
 |[],z,b,o,h,i,r,hi=>by simp at hi
 |x::rs,z,b,o,h,i,r,hi=>by
  cases i with
  |zero=>simp at hi;subst hi;simpa using⟨h.1,h.2.1⟩
  |succ i=>
   obtain⟨h1,h2⟩:=h.2.2.get hi
   grind
theorem VRelR.of_get {γ:Gh}:∀{rs:List (List AVal)} {z b o:Nat},(∀(i:Nat) (r:List AVal),rs[i]?=some r→r.length=z∧VRelM γ r b (o+i*z))→VRelR γ rs z b o
 |[],z,b,o,h=>by rw[VRelR];trivial
 |x::rs,z,b,o,h=>by
  have h0:=h 0 x rfl;refine⟨h0.1,by simpa using h0.2,VRelR.of_get λi r hi=>?_⟩;obtain⟨h1,h2⟩:=h (i+1) r (by simpa using hi)
  grind
theorem VRelR.length {γ:Gh}:∀{rs:List (List AVal)} {z b o:Nat},VRelR γ rs z b o→rs.flatten.length=rs.length*z
 |[],z,b,o,h=>by simp
 |x::rs,z,b,o,h=>by simp[h.1,h.2.2.length,Nat.add_mul,Nat.add_comm]
theorem plain_addr {ad:Addr} {n cap:Nat} (hs:ad.spot=none∨cap=0) (hc:n≤cap) (hn:0<n):ad=⟨ad.block,ad.off,none⟩:=by
 rcases hs with hs|hs
 ·cases ad;simp_all
 ·omega
theorem VRelR.values {γ:Gh}:∀{rs:List (List AVal)} {z b o:Nat},VRelR γ rs z b o→∃us:List Value,VRelV γ rs.flatten us∧us.length=rs.length*z∧∀(j:Nat) (u:Value),us[j]?=some u→γ.imm b (o+j)=some u
 |[],z,b,o,h=>⟨[],by simp[VRelV],by simp,by simp⟩
 |x::rs,z,b,o,h=>by
  obtain⟨us,h1,h2⟩:=h.2.1.values;obtain⟨vs,h3,h4,h5⟩:=h.2.2.values;have hl:us.length=z:=by rw[h1.length,h.1]
  refine⟨us++vs,by simpa using h1.append h3,by simp[hl,h4,Nat.add_mul,Nat.add_comm],λj u hj=>?_⟩
  grind
def OwnT (γ:Gh) (B:Nat) (w:World) (s:Nat) (c:Option Nat) (v:Value) (a:AVal):Prop:=
 (a= .slnil∨∃z,a= .nosl z)∨∃g n cap us e z rows,a= .sl z rows∧v= .slice (some ⟨g,0,none⟩) n cap∧γ.own g=some (.tail s c (n*z))∧B≤g∧
  w.heap[g]?=some (.cells us e (0,0))∧us.size=cap*z∧n≤cap∧cap≤maxLen∧0<z
def SRel (γ:Gh) (β:Nat→Nat) (B:Nat) (w:World) (s:Nat):Slot→Value→Prop
 | .undef,_=>True
 | .skip,v=>v=undef
 | .val a,v=>VRel γ a v
 | .cst b,v=>v= .bool b
 | .own a,v=>VRel γ a v∧OwnT γ B w s none v a
 | .box _ cs ow,v=>v= .pointer (some ⟨β s,0,none⟩)∧γ.own (β s)=some (.loc s)∧B≤β s∧
  ∃us e,w.heap[β s]?=some (.cells us e (0,0))∧VRelV γ cs us.toList∧(∀u∈us.toList,u.oneCell'=true)∧
   ∀o∈ow,∃u a,us[o]?=some u∧cs[o]?=some a∧OwnT γ B w s (some o) u a
 | .lref s' o,v=>v= .pointer (some ⟨β s',o,none⟩)
structure FR (γ:Gh) (β:Nat→Nat) (B:Nat) (σ:Env) (tmps:Array Value) (w:World):Prop where
 size:σ.length=tmps.size
 slots:∀s,SRel γ β B w s (σ.at s) (tmps.getD s undef)
def MRel (γ:Gh):List (AVal×AVal)→List MapEntry→Prop
 |[],es=>es=[]
 |(k,v)::l,es=>∃e es',es=e::es'∧VRel γ k e.key∧VRel γ v e.val∧MRel γ l es'
def MObj (γ:Gh) (l:List (AVal×AVal)) (es:Array MapEntry) (clock:Nat):Prop:=
 MRel γ l es.toList∧clock=es.size∧∀(i:Nat) (e:MapEntry),es[i]?=some e→e.born=i
def freeFr (fr:Nat×Nat) (n:Nat):Prop:=fr=(0,0)∨n≤fr.1
structure Inv (γ:Gh) (h:AHeap) (w:World):Prop where
 imm:∀b o v,γ.imm b o=some v→w.cell? ⟨b,o,none⟩=some v∧v.oneCell'=true∧(γ.own b=none∨∃s c st,γ.own b=some (.tail s c st)∧o<st)
 obj:∀id x,h[id]?=some x→x≠ .dead→∃b,γ.mu id=some b∧γ.own b=some (.obj id)
 cells:∀id cs,h[id]?=some (.cells cs)→∀b,γ.mu id=some b→∃us e fr,w.heap[b]?=some (.cells us e fr)∧freeFr fr us.size∧VRelV γ cs (us.toList.take cs.length)∧∀u∈us.toList.take cs.length,u.oneCell'=true
 map:∀id es,h[id]?=some (.map es)→∀b,γ.mu id=some b→∃ents clock,w.heap[b]?=some (.map ents clock)∧MObj γ es ents clock
 mu:∀id b,γ.mu id=some b→id<h.length
 own:∀b x,γ.own b=some x→b<w.heap.size
 sz:∀b n,γ.sz b=some n→(∃us e fr,w.heap[b]?=some (.cells us e fr)∧us.size=n)∧(γ.own b=none∨∃id,γ.own b=some (.obj id))
structure Acc (γ0:Gh) (w0:World) (γ:Gh) (w:World):Prop where
 le:γ0.le γ
 size:w0.heap.size≤w.heap.size
 os:w.os=w0.os
 tape:w.tape=w0.tape
 output:w.output=w0.output
 keep:∀b,b<w0.heap.size→(∀id,γ0.own b≠some (.obj id))→w.heap[b]?=w0.heap[b]?∧γ.own b=γ0.own b
theorem Acc.refl (γ:Gh) (w:World):Acc γ w γ w:=⟨.refl _,Nat.le_refl _,rfl,rfl,rfl,λ_ _ _=>⟨rfl,rfl⟩⟩
theorem Acc.trans {γ0 γ1 γ2:Gh} {w0 w1 w2:World} (h:Acc γ0 w0 γ1 w1) (k:Acc γ1 w1 γ2 w2):Acc γ0 w0 γ2 w2:=by
 refine⟨h.le.trans k.le,Nat.le_trans h.size k.size,k.os.trans h.os,k.tape.trans h.tape,k.output.trans h.output,λb hb hn=>?_⟩
 ·obtain⟨h1,h2⟩:=h.keep b hb hn;obtain⟨k1,k2⟩:=k.keep b (Nat.lt_of_lt_of_le hb h.size) (λid=>by rw[h2];exact hn id)
  grind
structure Kept (γ:Gh) (w:World) (γ':Gh) (w':World):Prop where
 le:γ.le γ'
 keep:∀b x,γ.own b=some x→x.isObj=false→γ'.own b=some x∧w'.heap[b]?=w.heap[b]?
theorem Kept.of_acc {γ γ':Gh} {h:AHeap} {w w':World} (hi:Inv γ h w) (ha:Acc γ w γ' w'):Kept γ w γ' w':=by
 refine⟨ha.le,λb x hb hx=>?_⟩;obtain⟨h1,h2⟩:=ha.keep b (hi.own b x hb) (λid hid=>by rw[hb] at hid;cases hid;simp[Owner.isObj] at hx)
 grind
theorem OwnT.kept {γ γ':Gh} {B:Nat} {w w':World} {s:Nat} {c:Option Nat} {v:Value} {a:AVal} (h:OwnT γ B w s c v a) (k:Kept γ w γ' w'):OwnT γ' B w' s c v a:=by
 rcases h with h|⟨g,n,cap,us,e,z,rows,h1,h2,h3,h4,h5,h6⟩
 ·exact .inl h
 ·obtain⟨k1,k2⟩:=k.keep g _ h3 rfl;exact .inr ⟨g,n,cap,us,e,z,rows,h1,h2,k1,h4,by rw[k2];exact h5,h6⟩
theorem SRel.kept {γ γ':Gh} {β:Nat→Nat} {B:Nat} {w w':World} {s:Nat} {x:Slot} {v:Value} (h:SRel γ β B w s x v) (k:Kept γ w γ' w'):SRel γ' β B w' s x v:=by
 cases x with
 |undef=>trivial
 |skip=>exact h
 |val a=>exact VRel.mono k.le a v h
 |cst b=>exact h
 |own a=>exact⟨VRel.mono k.le a v h.1,h.2.kept k⟩
 |box ver cs ow=>obtain⟨h1,h2,h3,us,e,h4,h5,h6,h7⟩:=h;obtain⟨k1,k2⟩:=k.keep _ _ h2 rfl;exact⟨h1,k1,h3,us,e,by rw[k2];exact h4,VRelV.mono k.le cs _ h5,h6,λo ho=>let⟨u,a,p,q,r⟩:=h7 o ho;⟨u,a,p,q,r.kept k⟩⟩
 |lref s' o=>exact h
theorem FR.kept {γ γ':Gh} {β:Nat→Nat} {B:Nat} {σ:Env} {tmps:Array Value} {w w':World} (h:FR γ β B σ tmps w) (k:Kept γ w γ' w'):FR γ' β B σ tmps w':=
 ⟨h.size,λs=>(h.slots s).kept k⟩
end Go.Am
end
section
namespace Go.Am
theorem cell?_of_heap {w w':World} {b o:Nat} (h:w'.heap[b]?=w.heap[b]?):w'.cell? ⟨b,o,none⟩=w.cell? ⟨b,o,none⟩:=by simp[World.cell?,h]
theorem lt_of_cell {w:World} {b o:Nat} {v:Value} (h:w.cell? ⟨b,o,none⟩=some v):b<w.heap.size:=by
 rcases Nat.lt_or_ge b w.heap.size with h'|h'
 ·exact h'
 ·simp[World.cell?,Array.getElem?_eq_none h'] at h
theorem Inv.imm_lt {γ:Gh} {h:AHeap} {w:World} (hi:Inv γ h w) {b o:Nat} {v:Value} (hb:γ.imm b o=some v):b<w.heap.size:=lt_of_cell (hi.imm b o v hb).1
theorem Inv.same {γ:Gh} {h:AHeap} {w w':World} (hi:Inv γ h w) (hh:w'.heap=w.heap):Inv γ h w':=by
 refine⟨λb o v hb=>?_,hi.obj,λid cs hc b hb=>?_,λid es hc b hb=>?_,hi.mu,λb x hx=>?_,λb n hb=>by rw[hh];exact hi.sz b n hb⟩
 ·obtain⟨h1,h2,h3⟩:=hi.imm b o v hb;have e:=cell?_of_heap (w:=w) (w':=w') (b:=b) (o:=o) (by rw[hh])
  grind
 ·rw[hh];exact hi.cells id cs hc b hb
 ·rw[hh];exact hi.map id es hc b hb
 ·rw[hh];exact hi.own b x hx
theorem Acc.same {γ:Gh} {w w':World} (hh:w'.heap=w.heap) (h1:w'.os=w.os) (h2:w'.tape=w.tape) (h3:w'.output=w.output):Acc γ w γ w':=
 ⟨.refl _,by rw[hh];exact Nat.le_refl _,h1,h2,h3,λ_ _ _=>⟨by rw[hh],rfl⟩⟩
theorem Acc.drew (γ:Gh) (w:World):Acc γ w γ w.drew:=Acc.same rfl rfl rfl rfl
def Gh.claim (γ:Gh) (b:Nat) (us:Array Value) (k:Nat) (x:Option Owner):Gh:=
 {imm:=λb' o=>if b'=b then(if o<k then us[o]? else none) else γ.imm b' o,mu:=γ.mu,own:=λb'=>if b'=b then x else γ.own b',sz:=γ.sz}
def Gh.object (γ:Gh) (b id:Nat) (n:Option Nat):Gh:=
 {imm:=γ.imm,mu:=λi=>if i=id then some b else γ.mu i,own:=λb'=>if b'=b then some (.obj id) else γ.own b',sz:=λb'=>if b'=b then n else γ.sz b'}
section
variable {γ:Gh} {h:AHeap} {w:World}
theorem heap_alloc_lt (w:World) (o:Obj) {b:Nat} (hb:b<w.heap.size):(w.alloc o).heap[b]?=w.heap[b]?:=heap_alloc_old w o b hb
theorem alloc_claim (hi:Inv γ h w) (us:Array Value) (e:TypeId) (fr:Nat×Nat) (k:Nat) (x:Option Owner) (h1:∀o u,o<k→us[o]?=some u→u.oneCell'=true)
  (hx:x=none∨(∃s c,x=some (.tail s c k))∨(k=0∧∀id,x≠some (.obj id))):
  Inv (γ.claim w.heap.size us k x) h (w.alloc (.cells us e fr))∧Acc γ w (γ.claim w.heap.size us k x) (w.alloc (.cells us e fr)):=by
 have hown:γ.own w.heap.size=none:=by
  cases hc:γ.own w.heap.size with
  |none=>rfl
  |some y=>exact absurd (hi.own _ y hc) (Nat.lt_irrefl _)
 have himm:∀o,γ.imm w.heap.size o=none:=λo=>by
  cases hc:γ.imm w.heap.size o with
  |none=>rfl
  |some y=>exact absurd (hi.imm_lt hc) (Nat.lt_irrefl _)
 have hle:γ.le (γ.claim w.heap.size us k x):=⟨λb' o' v' hv'=>by
  have:b'≠w.heap.size:=λhe=>by rw[he,himm] at hv';cases hv'
  simp only[Gh.claim,if_neg this];exact hv',λ_ _ hm=>hm,λ_ _ hm=>hm⟩
 constructor
 ·refine⟨λb o v hb=>?_,λid y hid hy=>?_,λid cs hc b hb=>?_,λid es hc b hb=>?_,hi.mu,λb y hy=>?_,λb n hb=>?_⟩;rotate_left 5
  ·obtain⟨⟨us',e',fr',p,q⟩,r⟩:=hi.sz b n hb;have hbe:b≠w.heap.size:=Nat.ne_of_lt (by rw[Array.getElem?_eq_some_iff] at p;exact p.1);exact⟨⟨us',e',fr',by rw[heap_alloc_lt _ _ (by rw[Array.getElem?_eq_some_iff] at p;exact p.1)];exact p,q⟩,by simp only[Gh.claim,if_neg hbe];exact r⟩
  ·by_cases hbe:b=w.heap.size
   ·subst hbe;simp only[Gh.claim,if_true] at hb⊢;split at hb
    ·rename_i hlt;refine⟨by rw[cell_of_row _ _ _ us e fr (heap_alloc_new w _)];exact hb,h1 o v hlt hb,?_⟩;rcases hx with hx|⟨s,c,hx⟩|⟨hx,_⟩
     ·exact .inl hx
     ·exact .inr ⟨s,c,k,hx,hlt⟩
     ·omega
    ·cases hb
   ·simp only[Gh.claim,if_neg hbe] at hb⊢;obtain⟨p,q,r⟩:=hi.imm b o v hb;exact⟨by rw[cell?_of_heap (heap_alloc_lt w _ (lt_of_cell p))];exact p,q,r⟩
  ·obtain⟨b,p,q⟩:=hi.obj id y hid hy;refine⟨b,p,?_⟩;have:b≠w.heap.size:=λhe=>by rw[he,hown] at q;cases q
   simp only[Gh.claim,if_neg this];exact q
  ·obtain⟨us',e',fr',p,pf,q,r⟩:=hi.cells id cs hc b hb;exact⟨us',e',fr',by rw[heap_alloc_lt _ _ (by rw[Array.getElem?_eq_some_iff] at p;exact p.1)];exact p,pf,VRelV.mono hle cs _ q,r⟩
  ·obtain⟨ents,clock,p,q⟩:=hi.map id es hc b hb;refine⟨ents,clock,by rw[heap_alloc_lt _ _ (by rw[Array.getElem?_eq_some_iff] at p;exact p.1)];exact p,?_,q.2⟩;replace q:=q.1;clear hc p;revert q;generalize ents.toList=l;intro q
   induction es generalizing l with
   |nil=>exact q
   |cons kv es ih=>obtain⟨kk,vv⟩:=kv;obtain⟨en,es',hl,a1,a2,a3⟩:=q;exact⟨en,es',hl,VRel.mono hle _ _ a1,VRel.mono hle _ _ a2,ih es' a3⟩
  ·by_cases hbe:b=w.heap.size
   ·subst hbe;simp
   ·simp only[Gh.claim,if_neg hbe] at hy;have:=hi.own b y hy;simp;omega
 ·refine⟨hle,by simp,rfl,rfl,rfl,λb hb _=>⟨heap_alloc_lt _ _ hb,?_⟩⟩;simp only[Gh.claim,if_neg (Nat.ne_of_lt hb)]
theorem MRel.mono {γ γ':Gh} (hle:γ.le γ'):∀{es:List (AVal×AVal)} {l:List MapEntry},MRel γ es l→MRel γ' es l
 |[],l,q=>q
 |(kk,vv)::es,l,q=>by obtain⟨en,es',hl,a1,a2,a3⟩:=q;exact⟨en,es',hl,VRel.mono hle _ _ a1,VRel.mono hle _ _ a2,a3.mono hle⟩
theorem MObj.mono {γ γ':Gh} (hle:γ.le γ') {es:List (AVal×AVal)} {l:Array MapEntry} {c:Nat} (h:MObj γ es l c):MObj γ' es l c:=⟨h.1.mono hle,h.2⟩
theorem alloc_object (hi:Inv γ h w) (o:Obj) (x:AObj) (m:Option Nat)
  (hx:(∃cs us e fr,x= .cells cs∧o= .cells us e fr∧freeFr fr us.size∧VRelV γ cs (us.toList.take cs.length)∧(∀u∈us.toList.take cs.length,u.oneCell'=true)∧m=some us.size)∨(x= .map []∧o= .map #[] 0∧m=none)):
  Inv (γ.object w.heap.size h.length m) (h++[x]) (w.alloc o)∧Acc γ w (γ.object w.heap.size h.length m) (w.alloc o):=by
 have hown:γ.own w.heap.size=none:=by
  cases hc:γ.own w.heap.size with
  |none=>rfl
  |some y=>exact absurd (hi.own _ y hc) (Nat.lt_irrefl _)
 have hmu:γ.mu h.length=none:=by
  cases hc:γ.mu h.length with
  |none=>rfl
  |some y=>exact absurd (hi.mu _ y hc) (Nat.lt_irrefl _)
 have hsz:γ.sz w.heap.size=none:=by
  cases hc:γ.sz w.heap.size with
  |none=>rfl
  |some y=>obtain⟨⟨_,_,_,p,_⟩,_⟩:=hi.sz _ y hc;rw[Array.getElem?_eq_some_iff] at p;exact absurd p.1 (Nat.lt_irrefl _)
 have hle:γ.le (γ.object w.heap.size h.length m):=⟨λ_ _ _ hv=>hv,λid b hm=>by
  have:id≠h.length:=λhe=>by rw[he,hmu] at hm;cases hm
  simp only[Gh.object,if_neg this];exact hm,λb n hm=>by
  have:b≠w.heap.size:=λhe=>by rw[he,hsz] at hm;cases hm
  simp only[Gh.object,if_neg this];exact hm⟩
 constructor
 ·refine⟨λb o' v hb=>?_,λid y hid hy=>?_,λid cs hc b hb=>?_,λid es hc b hb=>?_,λid b hb=>?_,λb y hy=>?_,λb n hb=>?_⟩;rotate_left 6
  ·by_cases hbe:b=w.heap.size
   ·subst hbe;simp only[Gh.object,if_true] at hb;rcases hx with⟨cs',us,e,fr,rfl,rfl,pf,p,q,rfl⟩|⟨rfl,rfl,rfl⟩
    ·cases hb
     exact⟨⟨us,e,fr,heap_alloc_new w _,rfl⟩,.inr ⟨h.length,by simp[Gh.object]⟩⟩
    ·cases hb
   ·simp only[Gh.object,if_neg hbe] at hb⊢;obtain⟨⟨us',e',fr',p,q⟩,r⟩:=hi.sz b n hb;exact⟨⟨us',e',fr',by rw[heap_alloc_lt _ _ (by rw[Array.getElem?_eq_some_iff] at p;exact p.1)];exact p,q⟩,r⟩
  ·obtain⟨p,q,r⟩:=hi.imm b o' v hb;have hbe:b≠w.heap.size:=Nat.ne_of_lt (lt_of_cell p);exact⟨by rw[World.cell?_alloc_old _ _ _ hbe];exact p,q,by simp only[Gh.object,if_neg hbe];exact r⟩
  ·by_cases he:id=h.length
   ·exact⟨w.heap.size,by simp[Gh.object,he],by simp[Gh.object,he]⟩
   ·have hid':id<h.length:=by rw[List.getElem?_eq_some_iff] at hid;obtain⟨hl,_⟩:=hid;simp at hl;omega
    rw[List.getElem?_append_left hid'] at hid;obtain⟨b,p,q⟩:=hi.obj id y hid hy;have hbe:b≠w.heap.size:=λhe=>by rw[he,hown] at q;cases q
    exact⟨b,by simp only[Gh.object,if_neg he];exact p,by simp only[Gh.object,if_neg hbe];exact q⟩
  ·by_cases he:id=h.length
   ·subst he;simp[Gh.object] at hb;subst hb;simp at hc;rcases hx with⟨cs',us,e,fr,rfl,rfl,pf,p,q,rfl⟩|⟨rfl,rfl,rfl⟩
    ·cases hc;exact⟨us,e,fr,heap_alloc_new w _,pf,VRelV.mono hle _ _ p,q⟩
    ·cases hc
   ·simp only[Gh.object,if_neg he] at hb;have hid':=hi.mu id b hb;rw[List.getElem?_append_left hid'] at hc;obtain⟨us',e',fr',p,pf,q,r⟩:=hi.cells id cs hc b hb;exact⟨us',e',fr',by rw[heap_alloc_lt _ _ (by rw[Array.getElem?_eq_some_iff] at p;exact p.1)];exact p,pf,VRelV.mono hle _ _ q,r⟩
  ·by_cases he:id=h.length
   ·subst he;simp[Gh.object] at hb;subst hb;simp at hc;rcases hx with⟨cs',us,e,fr,rfl,rfl,pf,p,q,rfl⟩|⟨rfl,rfl,rfl⟩
    ·cases hc
    ·cases hc;exact⟨#[],0,heap_alloc_new w _,rfl,rfl,by simp⟩
   ·simp only[Gh.object,if_neg he] at hb;have hid':=hi.mu id b hb;rw[List.getElem?_append_left hid'] at hc;obtain⟨ents,clock,p,q⟩:=hi.map id es hc b hb;exact⟨ents,clock,by rw[heap_alloc_lt _ _ (by rw[Array.getElem?_eq_some_iff] at p;exact p.1)];exact p,q.mono hle⟩
  ·by_cases he:id=h.length
   ·simp[he]
   ·simp only[Gh.object,if_neg he] at hb;have:=hi.mu id b hb;simp;omega
  ·by_cases hbe:b=w.heap.size
   ·subst hbe;simp
   ·simp only[Gh.object,if_neg hbe] at hy;have:=hi.own b y hy;simp;omega
 ·refine⟨hle,by simp,rfl,rfl,rfl,λb hb _=>⟨heap_alloc_lt _ _ hb,?_⟩⟩;simp only[Gh.object,if_neg (Nat.ne_of_lt hb)]
theorem write_loc (hi:Inv γ h w) {g s:Nat} (hg:γ.own g=some (.loc s)) (us:Array Value):Inv γ h (w.setRow g us):=by
 refine⟨λb o v hb=>?_,hi.obj,λid cs hc b hb=>?_,λid es hc b hb=>?_,hi.mu,λb x hx=>?_,λb n hb=>?_⟩;rotate_left 4
 ·obtain⟨p,r⟩:=hi.sz b n hb;have:b≠g:=λhe=>by grind
  exact⟨by rw[setRow_other w g b us this];exact p,r⟩
 ·obtain⟨p,q,r⟩:=hi.imm b o v hb;have:b≠g:=λhe=>by grind
  exact⟨by rw[cell?_of_heap (setRow_other w g b us this)];exact p,q,r⟩
 ·have hb':b≠g:=λhe=>by
   subst he;obtain⟨b',p,q⟩:=hi.obj id _ hc (by simp)
   grind
  rw[setRow_other w g b us hb'];exact hi.cells id cs hc b hb
 ·have hb':b≠g:=λhe=>by subst he;obtain⟨b',p,q⟩:=hi.obj id _ hc (by simp);rw[hb] at p;cases p;rw[hg] at q;cases q
  rw[setRow_other w g b us hb'];exact hi.map id es hc b hb
 ·have:=hi.own b x hx;simpa[World.setRow] using this
theorem write_obj (hi:Inv γ h w) {g id:Nat} {cs:List AVal} (hcs:h[id]?=some (.cells cs)) (hg:γ.mu id=some g) {us:Array Value} {e:TypeId} {fr:Nat×Nat} (hw:w.heap[g]?=some (.cells us e fr)) (us':Array Value) (cs':List AVal) (hus:us'.size=us.size) (hfr:freeFr fr us'.size)
  (hr:VRelV γ cs' (us'.toList.take cs'.length)) (h1:∀u∈us'.toList.take cs'.length,u.oneCell'=true):
  Inv γ (h.set id (.cells cs')) (w.setRow g us')∧Acc γ w γ (w.setRow g us'):=by
 obtain⟨g',p,hgo⟩:=hi.obj id _ hcs (by simp);rw[hg] at p;cases p;have uniq:∀id' x,h[id']?=some x→x≠ .dead→γ.mu id'=some g→id'=id:=λid' x hx hxd hm=>by obtain⟨b',p,q⟩:=hi.obj id' x hx hxd;rw[hm] at p;cases p;rw[hgo] at q;cases q;rfl
 constructor
 ·refine⟨λb o v hb=>?_,λid' y hid hy=>?_,λid' cs hc b hb=>?_,λid' es hc b hb=>?_,λid' b hb=>by simpa using hi.mu id' b hb,λb x hx=>?_,λb n hb=>?_⟩;rotate_left 5
  ·obtain⟨⟨us2,e2,fr2,p,q⟩,r⟩:=hi.sz b n hb;by_cases he:b=g
   ·subst he;rw[hw] at p
    cases p
    exact⟨⟨us',e,fr,setRow_heap w b us us' e fr hw,by rw[hus];exact q⟩,r⟩
   ·exact⟨⟨us2,e2,fr2,by rw[setRow_other w g b us' he];exact p,q⟩,r⟩
  ·obtain⟨p,q,r⟩:=hi.imm b o v hb;have:b≠g:=λhe=>by subst he;rw[hgo] at r;rcases r with r|⟨_,_,_,r,_⟩<;>cases r
   exact⟨by rw[cell?_of_heap (setRow_other w g b us' this)];exact p,q,r⟩
  ·by_cases he:id'=id
   ·subst he;exact⟨g,hg,hgo⟩
   ·rw[List.getElem?_set_ne (λx=>he x.symm)] at hid;exact hi.obj id' y hid hy
  ·by_cases he:id'=id
   ·subst he;rw[hg] at hb;cases hb;rw[List.getElem?_set_self (hi.mu _ _ hg)] at hc
    cases hc
    exact⟨us',e,fr,setRow_heap w g us us' e fr hw,hfr,hr,h1⟩
   ·rw[List.getElem?_set_ne (λx=>he x.symm)] at hc;have hb':b≠g:=λhx=>by subst hx;exact he (uniq id' _ hc (by simp) hb)
    rw[setRow_other w g b us' hb'];exact hi.cells id' cs hc b hb
  ·by_cases he:id'=id
   ·subst he;rw[List.getElem?_set_self (hi.mu _ _ hg)] at hc
    cases hc
   ·rw[List.getElem?_set_ne (λx=>he x.symm)] at hc;have hb':b≠g:=λhx=>by subst hx;exact he (uniq id' _ hc (by simp) hb)
    rw[setRow_other w g b us' hb'];exact hi.map id' es hc b hb
  ·have:=hi.own b x hx;simpa[World.setRow] using this
 ·refine⟨.refl _,by simp[World.setRow],rfl,rfl,rfl,λb hb hn=>⟨?_,rfl⟩⟩;exact setRow_other w g b us' (λhe=>by subst he;exact hn id hgo)
theorem write_tail (hi:Inv γ h w) {g s st:Nat} {c:Option Nat} (hg:γ.own g=some (.tail s c st)) {us:Array Value} {e:TypeId} (hw:w.heap[g]?=some (.cells us e (0,0))) (us':Array Value) (k:Nat) (s':Nat) (c':Option Nat)
  (hsame:∀o,o<st→us'[o]?=us[o]?) (hk:st≤k) (h1:∀o u,o<k→us'[o]?=some u→u.oneCell'=true) (hall:∀o v,γ.imm g o=some v→us[o]?=some v):
  Inv (γ.claim g us' k (some (.tail s' c' k))) h (w.setRow g us')∧γ.le (γ.claim g us' k (some (.tail s' c' k))):=by
 have hlt:∀o v,γ.imm g o=some v→o<st:=λo v ho=>by
  obtain⟨_,_,r⟩:=hi.imm g o v ho;rw[hg] at r;rcases r with r|⟨_,_,_,r,hl⟩
  ·cases r
  ·cases r;exact hl
 have hle:γ.le (γ.claim g us' k (some (.tail s' c' k))):=⟨λb o v hb=>by
  by_cases he:b=g
  ·subst he;have:=hlt o v hb;simp only[Gh.claim,if_true,if_pos (Nat.lt_of_lt_of_le this hk)];rw[hsame o this];exact hall o v hb
  ·simp only[Gh.claim,if_neg he];exact hb,λ_ _ hm=>hm,λ_ _ hm=>hm⟩
 refine⟨⟨λb o v hb=>?_,λid y hid hy=>?_,λid cs hc b hb=>?_,λid es hc b hb=>?_,hi.mu,λb x hx=>?_,λb n hb=>?_⟩,hle⟩;rotate_left 5
 ·obtain⟨p,r⟩:=hi.sz b n hb;have:b≠g:=λhe=>by subst he;rw[hg] at r;rcases r with r|⟨_,r⟩<;>cases r
  exact⟨by rw[setRow_other w g b us' this];exact p,by simp only[Gh.claim,if_neg this];exact r⟩
 ·by_cases he:b=g
  ·subst he;simp only[Gh.claim,if_true] at hb⊢;split at hb
   ·rename_i hl;exact⟨by rw[cell_of_row _ _ _ us' e (0,0) (setRow_heap w b us us' e (0,0) hw)];exact hb,
     h1 o v hl hb,.inr ⟨s',c',k,rfl,hl⟩⟩
   ·cases hb
  ·simp only[Gh.claim,if_neg he] at hb⊢;obtain⟨p,q,r⟩:=hi.imm b o v hb;exact⟨by rw[cell?_of_heap (setRow_other w g b us' he)];exact p,q,r⟩
 ·obtain⟨b,p,q⟩:=hi.obj id y hid hy;have:b≠g:=λhe=>by subst he;rw[hg] at q;cases q
  exact⟨b,p,by simp only[Gh.claim,if_neg this];exact q⟩
 ·replace hb:γ.mu id=some b:=hb;obtain⟨b',p,q⟩:=hi.obj id _ hc (by simp);rw[hb] at p;cases p;have:b≠g:=λhe=>by subst he;rw[hg] at q;cases q
  rw[setRow_other w g b us' this];obtain⟨us2,e2,fr2,p2,pf2,q2,r2⟩:=hi.cells id cs hc b hb;exact⟨us2,e2,fr2,p2,pf2,VRelV.mono hle _ _ q2,r2⟩
 ·replace hb:γ.mu id=some b:=hb;obtain⟨b',p,q⟩:=hi.obj id _ hc (by simp);rw[hb] at p;cases p;have:b≠g:=λhe=>by subst he;rw[hg] at q;cases q
  rw[setRow_other w g b us' this];obtain⟨ents,clock,p2,q2⟩:=hi.map id es hc b hb;exact⟨ents,clock,p2,q2.mono hle⟩
 ·by_cases he:b=g
  ·subst he;have:=hi.own b _ hg;simpa[World.setRow] using this
  ·simp only[Gh.claim,if_neg he] at hx;have:=hi.own b x hx;simpa[World.setRow] using this
theorem Acc.write {γ0 γ1:Gh} {w0:World} (ha:Acc γ0 w0 γ w) {w1:World} {g:Nat} (hg:w0.heap.size≤g) (hle:γ.le γ1) (hs:w1.heap.size=w.heap.size) (h1:w1.os=w.os) (h2:w1.tape=w.tape) (h3:w1.output=w.output)
  (hk:∀b,b≠g→w1.heap[b]?=w.heap[b]?∧γ1.own b=γ.own b):Acc γ0 w0 γ1 w1:=by
 refine⟨ha.le.trans hle,by rw[hs];exact ha.size,h1.trans ha.os,h2.trans ha.tape,h3.trans ha.output,λb hb hn=>?_⟩
 ·obtain⟨p,q⟩:=ha.keep b hb hn
  grind
theorem free_obj (hi:Inv γ h w) {g id:Nat} {cs:List AVal} (hcs:h[id]?=some (.cells cs)) (hg:γ.mu id=some g) {us:Array Value} {e:TypeId} {fr:Nat×Nat} (hw:w.heap[g]?=some (.cells us e fr)) (h1:∀u∈us.toList.take cs.length,u.oneCell'=true):
  Inv (γ.claim g us cs.length none) (h.set id .dead) w∧Acc γ w (γ.claim g us cs.length none) w:=by
 obtain⟨g',p,hgo⟩:=hi.obj id _ hcs (by simp);rw[hg] at p;cases p;have uniq:∀id' x,h[id']?=some x→x≠ .dead→γ.mu id'=some g→id'=id:=λid' x hx hxd hm=>by obtain⟨b',p,q⟩:=hi.obj id' x hx hxd;rw[hm] at p;cases p;rw[hgo] at q;cases q;rfl
 have hne:∀o v,γ.imm g o=some v→False:=λo v hv=>by obtain⟨_,_,r⟩:=hi.imm g o v hv;rw[hgo] at r;rcases r with r|⟨_,_,_,r,_⟩<;>cases r
 have hle:γ.le (γ.claim g us cs.length none):=⟨λb o v hb=>by
  have:b≠g:=λhe=>by subst he;exact hne o v hb
  simp only[Gh.claim,if_neg this];exact hb,λ_ _ hm=>hm,λ_ _ hm=>hm⟩
 constructor
 ·refine⟨λb o v hb=>?_,λid' y hid hy=>?_,λid' cs' hc b hb=>?_,λid' es hc b hb=>?_,λid' b hb=>by simpa using hi.mu id' b hb,λb x hx=>?_,λb n hb=>?_⟩;rotate_left 5
  ·obtain⟨p,r⟩:=hi.sz b n hb;by_cases he:b=g
   ·subst he;exact⟨p,.inl (by simp[Gh.claim])⟩
   ·exact⟨p,by simp only[Gh.claim,if_neg he];exact r⟩
  ·by_cases he:b=g
   ·subst he;simp only[Gh.claim,if_true] at hb⊢;split at hb
    ·rename_i hlt;exact⟨by rw[cell_of_row _ _ _ us e fr hw];exact hb,h1 v (List.mem_of_getElem? (i:=o) (by rw[List.getElem?_take_of_lt hlt];simpa using hb)),.inl (by simp)⟩
    ·cases hb
   ·simp only[Gh.claim,if_neg he] at hb⊢;exact hi.imm b o v hb
  ·by_cases he:id'=id
   ·subst he;rw[List.getElem?_set_self (hi.mu _ _ hg)] at hid
    cases hid;exact absurd rfl hy
   ·rw[List.getElem?_set_ne (λx=>he x.symm)] at hid;obtain⟨b,p,q⟩:=hi.obj id' y hid hy;have:b≠g:=λhx=>by subst hx;exact he (uniq id' y hid hy p)
    exact⟨b,p,by simp only[Gh.claim,if_neg this];exact q⟩
  ·by_cases he:id'=id
   ·subst he;rw[List.getElem?_set_self (hi.mu _ _ hg)] at hc
    cases hc
   ·rw[List.getElem?_set_ne (λx=>he x.symm)] at hc;obtain⟨us',e',fr',p,pf,q,r⟩:=hi.cells id' cs' hc b hb;exact⟨us',e',fr',p,pf,VRelV.mono hle _ _ q,r⟩
  ·by_cases he:id'=id
   ·subst he;rw[List.getElem?_set_self (hi.mu _ _ hg)] at hc
    cases hc
   ·rw[List.getElem?_set_ne (λx=>he x.symm)] at hc;obtain⟨us',e',p,q⟩:=hi.map id' es hc b hb;exact⟨us',e',p,q.mono hle⟩
  ·by_cases he:b=g
   ·subst he;exact hi.own b _ hgo
   ·simp only[Gh.claim,if_neg he] at hx;exact hi.own b x hx
 ·refine⟨hle,Nat.le_refl _,rfl,rfl,rfl,λb hb hn=>⟨rfl,?_⟩⟩;have:b≠g:=λhe=>by subst he;exact hn id hgo
  simp only[Gh.claim,if_neg this]
end
end Go.Am
end
section
namespace Go.Am
def OpR.does (C:Ctx) (run:IT→AHeap→Option Res) (σ:Env) (h:AHeap) (σ':Env) (h':AHeap):OpR→Prop
 | .pure ws=>σ'=σ.puts ws∧h'=h
 | .op p args dst own dem=>∃v,peval p args=some v∧σ'=(σ.demote dem).put dst (if own then .own v else .val v)∧h'=h
 | .box n v d=>v.cells.length=n∧σ'=σ.set d (.box 0 v.cells [])∧h'=h
 | .closure fn a b fz d=>σ'=(σ.puts (fz.map λ(s,cs)=>(s,.val (.rptr cs)))).set d (.val (.func fn a b))∧h'=h
 | .bstore s off n v own dem ver cells owned=>v.cells.length=n∧σ'=(σ.demote dem).set s (.box (ver+1) (splice cells off n v.cells) (ownAfter owned off n own))∧h'=h
 | .load n p dst=>∃v,hload h n p=some v∧σ'=σ.put dst (.val v)∧h'=h
 | .store n p v=>hstore h n p v=some h'∧σ'=σ
 | .alloc n v dst=>v.cells.length=n∧h'=h++[.cells v.cells]∧σ'=σ.put dst (.val (.ptr (some (h.length,0))))
 | .call f args dst=>∃r,run (afun C f args) h=some (.ret,[r],h')∧σ'=σ.put dst (if C.ownRet f then .own r else .val r)
 | .callv g args dst=>∃f args' r,targetOf g args=some (f,args')∧run (afun C f args') h=some (.ret,[r],h')∧σ'=σ.put dst (.val r)
 | .pcall f args dst=>args.all AVal.flat=true∧∃r h1,run (afun C f args) []=some (.ret,[r],h1)∧r.flat=true∧σ'=σ.put dst (.val r)∧h'=h
 | .mnew dst=>h'=h++[.map []]∧σ'=σ.put dst (.val (.map (some h.length)))
 | .mset m k v=>hmset h m k v=some h'∧σ'=σ
 | .make z b zero l c dst=>∃v,hmake h z b zero l c=some (h',v)∧σ'=σ.put dst (.val v)
 | .objOf z b s x dst dem=>∃v,hobjOf h z b s x=some (h',v)∧σ'=(σ.demote dem).put dst (.val v)
 | .grow z b s x dst=>∃v,hgrow h z b s x=some (h',v)∧σ'=σ.put dst (.val v)
 | .appendM z b s x dst dem=>∃v,happM h z b s x=some v∧σ'=(σ.demote dem).put dst (.own v)∧h'=h
 | .bytesObj s dst=>∃v,hbytesObj h s=some (h',v)∧σ'=σ.put dst (.val v)
 | .b2s s dst=>∃v u,hfrz h s=some (h',v)∧peval .b2s [v]=some u∧σ'=σ.put dst (.val u)
 | .mem o args dst=>∃v,meval o h args=some (h',v)∧σ'=σ.put dst (if o.void then .undef else .val v)
 | .mget z ok m k dst=>∃v,hmget h z ok m k=some v∧σ'=σ.put dst (.val v)∧h'=h
theorem unpack_eq {n:Nat} {cs:List AVal} (h:cs.length=n):unpack n cs=cs:=by
 apply List.ext_getElem?;intro i;simp only[unpack,List.getElem?_map,List.getD]
 grind
theorem tree_does {C:Ctx} {run:IT→AHeap→Option Res} {σ:Env} {K:Env→IT} {h:AHeap} {R:Res} {r:OpR}
  (hr:IT.step (afun C) run (r.tree C σ K) h=some R):∃σ' h',r.does C run σ h σ' h'∧IT.step (afun C) run (K σ') h'=some R:=by
 cases r with
 |pure ws=>exact⟨_,_,⟨rfl,rfl⟩,hr⟩
 |op p args dst own dem=>
  simp only[OpR.tree,IT.step] at hr;split at hr
  ·rename_i v hv;exact⟨_,_,⟨v,hv,rfl,rfl⟩,hr⟩
  ·cases hr
 |box n v d=>
  simp only[OpR.tree,IT.step] at hr;split at hr
  ·rename_i hn;rw[unpack_eq hn] at hr;exact⟨_,_,⟨hn,rfl,rfl⟩,hr⟩
  ·cases hr
 |closure fn a b fz d=>exact⟨_,_,⟨rfl,rfl⟩,hr⟩
 |bstore s off n v own dem ver cells owned=>
  simp only[OpR.tree,IT.step] at hr;split at hr
  ·rename_i hn;rw[unpack_eq hn] at hr;exact⟨_,_,⟨hn,rfl,rfl⟩,hr⟩
  ·cases hr
 |load n p dst=>
  simp only[OpR.tree,IT.step] at hr;split at hr
  ·rename_i v hv;exact⟨_,_,⟨v,hv,rfl,rfl⟩,hr⟩
  ·cases hr
 |store n p v=>
  simp only[OpR.tree,IT.step] at hr;split at hr
  ·rename_i h1 hv;exact⟨_,_,⟨hv,rfl⟩,hr⟩
  ·cases hr
 |alloc n v dst=>
  simp only[OpR.tree,IT.step,halloc] at hr;by_cases hn:v.cells.length=n
  ·rw[if_pos hn] at hr;exact⟨_,_,⟨hn,rfl,rfl⟩,hr⟩
  ·rw[if_neg hn] at hr;cases hr
 |call f args dst=>
  simp only[OpR.tree,IT.step] at hr;split at hr
  ·rename_i r h1 hv;exact⟨_,_,⟨r,hv,rfl⟩,hr⟩
  ·cases hr
 |callv g args dst=>
  simp only[OpR.tree,IT.step] at hr;split at hr
  ·rename_i f a' ht;split at hr
   ·rename_i r h1 hv;exact⟨_,_,⟨f,a',r,ht,hv,rfl⟩,hr⟩
   ·cases hr
  ·cases hr
 |pcall f args dst=>
  simp only[OpR.tree,IT.step] at hr;split at hr
  ·rename_i hfl;split at hr
   ·rename_i r h1 hv;split at hr
    ·rename_i hf2;exact⟨_,_,⟨hfl,r,h1,hv,hf2,rfl,rfl⟩,hr⟩
    ·cases hr
   ·cases hr
  ·cases hr
 |mnew dst=>exact⟨_,_,⟨rfl,rfl⟩,hr⟩
 |mset m k v=>
  simp only[OpR.tree,IT.step] at hr;split at hr
  ·rename_i h1 hv;exact⟨_,_,⟨hv,rfl⟩,hr⟩
  ·cases hr
 |mget z ok m k dst=>
  simp only[OpR.tree,IT.step] at hr;split at hr
  ·rename_i v hv;exact⟨_,_,⟨v,hv,rfl,rfl⟩,hr⟩
  ·cases hr
 |make z b zero l c dst=>
  simp only[OpR.tree,IT.step] at hr;split at hr
  ·rename_i h1 v hv;exact⟨_,_,⟨v,hv,rfl⟩,hr⟩
  ·cases hr
 |objOf z b s x dst dem=>
  simp only[OpR.tree,IT.step] at hr;split at hr
  ·rename_i h1 v hv;exact⟨_,_,⟨v,hv,rfl⟩,hr⟩
  ·cases hr
 |grow z b s x dst=>
  simp only[OpR.tree,IT.step] at hr;split at hr
  ·rename_i h1 v hv;exact⟨_,_,⟨v,hv,rfl⟩,hr⟩
  ·cases hr
 |appendM z b s x dst dem=>
  simp only[OpR.tree,IT.step] at hr;split at hr
  ·rename_i v hv;exact⟨_,_,⟨v,hv,rfl,rfl⟩,hr⟩
  ·cases hr
 |bytesObj s dst=>
  simp only[OpR.tree,IT.step] at hr;split at hr
  ·rename_i h1 v hv;exact⟨_,_,⟨v,hv,rfl⟩,hr⟩
  ·cases hr
 |b2s s dst=>
  simp only[OpR.tree,IT.step] at hr;split at hr
  ·rename_i h1 v hv;split at hr
   ·rename_i u hu;exact⟨_,_,⟨v,u,hv,hu,rfl⟩,hr⟩
   ·cases hr
  ·cases hr
 |mem o args dst=>
  simp only[OpR.tree,IT.step] at hr;split at hr
  ·rename_i h1 v hv;exact⟨_,_,⟨v,hv,rfl⟩,hr⟩
  ·cases hr
structure Rel (C:Ctx) (γ0:Gh) (w0:World) (γ:Gh) (β:Nat→Nat) (σ:Env) (h:AHeap) (a:Act) (w:World):Prop where
 inv:Inv γ h w
 fr:FR γ β w0.heap.size σ a.tmps w
 acc:Acc γ0 w0 γ w
 defers:a.defers=[]
 glob:∀g cs,C.glob g=some cs→VRelM γ cs g 0
theorem ofScalar_rel {γ:Gh} {v:Value} {a:AVal} (h:ofScalar v=some a):VRel γ a v∧v.oneCell'=true:=by
 unfold ofScalar at h;split at h
 case h_7=>
  split at h
  ·rename_i hs
   cases h
   have e1:=Array.eq_empty_of_size_eq_zero hs.1;have e2:=Array.eq_empty_of_size_eq_zero hs.2;subst e1;subst e2;exact⟨⟨#[],#[],rfl,rfl,rfl⟩,rfl⟩
  ·cases h
 all_goals first
  |(cases h;exact⟨rfl,rfl⟩)
  |cases h
theorem ofScalars_rel {γ:Gh}:∀{vs:List Value} {as:List AVal},ofScalars vs=some as→VRelV γ as vs∧∀v∈vs,v.oneCell'=true
 |[],as,h=>by cases h;exact⟨rfl,by simp⟩
 |v::vs,as,h=>by
  unfold ofScalars at h;split at h
  ·rename_i a as' h1 h2
   cases h
   obtain⟨p,q⟩:=ofScalar_rel h1;obtain⟨p',q'⟩:=ofScalars_rel h2;exact⟨⟨v,vs,rfl,p,p'⟩,λx hx=>(List.mem_cons.1 hx).elim (λe=>by rw[e];exact q) (q' x)⟩
  ·cases h
theorem ofConst_rel {γ:Gh} {v:Value} {a:AVal} (h:ofConst v=some a):VRel γ a v:=by
 unfold ofConst at h;split at h
 ·rename_i cs
  cases hs:ofScalars cs.toList with
  |none=>rw[hs] at h;cases h
  |some as=>rw[hs] at h;cases h;obtain⟨p,q⟩:=ofScalars_rel hs;exact⟨cs,rfl,p,q⟩
 ·exact(ofScalar_rel h).1
section
variable {C:Ctx} {γ0 γ:Gh} {w0 w:World} {β:Nat→Nat} {σ:Env} {h:AHeap} {a:Act}
theorem opSlot_rel (hr:Rel C γ0 w0 γ β σ h a w) {x:Operand} {sl:Slot} (hx:opSlot C σ x=some sl) (hn:∀s,x≠ .tmp s):∃s,SRel γ β w0.heap.size w s sl (a.eval x):=by
 unfold opSlot at hx;split at hx
 ·grind
 ·cases hx;exact⟨0,rfl⟩
 ·cases hx;exact⟨0,rfl,.inl (.inl rfl)⟩
 ·rename_i v _ _
  cases hc:ofConst v with
  |none=>rw[hc] at hx;cases hx
  |some u=>rw[hc] at hx;cases hx;exact⟨0,ofConst_rel hc⟩
 ·rename_i g
  cases hc:C.glob g with
  |none=>rw[hc] at hx;cases hx
  |some cs=>rw[hc] at hx;cases hx;exact⟨0,g,0,rfl,hr.glob g cs hc⟩
 ·cases hx;exact⟨0,#[],#[],rfl,rfl,rfl⟩
theorem slot_rel (hr:Rel C γ0 w0 γ β σ h a w) (s:Nat):SRel γ β w0.heap.size w s (σ.at s) (a.eval (.tmp s)):=hr.fr.slots s
theorem opSlot_any (hr:Rel C γ0 w0 γ β σ h a w) {x:Operand} {sl:Slot} (hx:opSlot C σ x=some sl):∃s,SRel γ β w0.heap.size w s sl (a.eval x)∧∀t,x= .tmp t→s=t:=by
 cases x with
 |tmp t=>cases hx;exact⟨t,slot_rel hr t,λ_ h=>by cases h;rfl⟩
 |const v=>obtain⟨s,h1⟩:=opSlot_rel hr hx (by intro s h;cases h);exact⟨s,h1,λ_ h=>by cases h⟩
 |global g=>obtain⟨s,h1⟩:=opSlot_rel hr hx (by intro s h;cases h);exact⟨s,h1,λ_ h=>by cases h⟩
 |func f=>obtain⟨s,h1⟩:=opSlot_rel hr hx (by intro s h;cases h);exact⟨s,h1,λ_ h=>by cases h⟩
theorem value_rel {B s:Nat} {sl:Slot} {v:Value} {u:AVal} (hs:SRel γ β B w s sl v) (hv:sl.value?=some u):VRel γ u v:=by
 cases sl<;>simp[Slot.value?] at hv
 ·subst hv;exact hs
 ·subst hv;exact hs
 ·subst hv;exact hs.1
theorem opVal_rel (hr:Rel C γ0 w0 γ β σ h a w) {x:Operand} {u:AVal} (hx:opVal C σ x=some u):VRel γ u (a.eval x):=by
 unfold opVal at hx
 cases hs:opSlot C σ x with
 |none=>rw[hs] at hx;cases hx
 |some sl=>rw[hs] at hx;obtain⟨s,h1,_⟩:=opSlot_any hr hs;exact value_rel h1 hx
theorem opVals_rel (hr:Rel C γ0 w0 γ β σ h a w):∀{xs:List Operand} {us:List AVal},opVals C σ xs=some us→VRelV γ us (xs.map a.eval)
 |[],us,hx=>by cases hx;rfl
 |x::xs,us,hx=>by
  unfold opVals at hx;split at hx
  ·rename_i u us' h1 h2
   cases hx
   exact⟨_,_,rfl,opVal_rel hr h1,opVals_rel hr h2⟩
  ·cases hx
theorem FR.put {B:Nat} {tmps:Array Value} (hf:FR γ β B σ tmps w) {d:Nat} {x:Slot} {v:Value} (hx:SRel γ β B w d x v):FR γ β B (σ.set d x) (tmps.setIfInBounds d v) w:=by
 refine⟨by simp[hf.size],λs=>?_⟩;have hs:=hf.slots s;by_cases he:s=d
 ·subst he;by_cases hl:s<σ.length
  ·have hl':s<tmps.size:=by rw[←hf.size];exact hl
   simpa[Env.at,List.getD,hl,hl',Array.getD] using hx
  ·have hl':¬s<tmps.size:=by rw[←hf.size];exact hl
   simpa[Env.at,List.getD,hl,hl',Array.getD] using hs
 ·have h1:Env.at (σ.set d x) s=σ.at s:=by simp[Env.at,List.getD,List.getElem?_set_ne (λe=>he e.symm)]
  have h2:(tmps.setIfInBounds d v).getD s undef=tmps.getD s undef:=by simp[Array.getD_eq_getD_getElem?,Array.getElem?_setIfInBounds_ne (λe=>he e.symm)]
  grind
theorem FR.turn {B:Nat} {tmps:Array Value} (hf:FR γ β B σ tmps w) {d:Nat} {x:Slot} (hx:SRel γ β B w d x (tmps.getD d undef)):FR γ β B (σ.set d x) tmps w:=by
 refine⟨by simp[hf.size],λs=>?_⟩;have hs:=hf.slots s;by_cases he:s=d
 ·subst he;by_cases hl:s<σ.length
  ·simpa[Env.at,List.getD,hl] using hx
  ·simpa[Env.at,List.getD,hl] using hs
 ·have h1:Env.at (σ.set d x) s=σ.at s:=by simp[Env.at,List.getD,List.getElem?_set_ne (λe=>he e.symm)]
  grind
theorem Rel.put (hr:Rel C γ0 w0 γ β σ h a w) {d:Option Nat} {x:Slot} {v:Value} (hx:∀s,d=some s→SRel γ β w0.heap.size w s x v):Rel C γ0 w0 γ β (σ.put d x) h (a.put d v) w:=by
 cases d with
 |none=>exact hr
 |some d=>exact⟨hr.inv,hr.fr.put (hx d rfl),hr.acc,hr.defers,hr.glob⟩
theorem Rel.turn (hr:Rel C γ0 w0 γ β σ h a w) {d:Nat} {x:Slot} (hx:SRel γ β w0.heap.size w d x (a.tmps.getD d undef)):Rel C γ0 w0 γ β (σ.set d x) h a w:=
 ⟨hr.inv,hr.fr.turn hx,hr.acc,hr.defers,hr.glob⟩
theorem Rel.drop (hr:Rel C γ0 w0 γ β σ h a w) (ds:List Nat):Rel C γ0 w0 γ β (σ.drop ds) h a w:=by
 cases ds with
 |nil=>exact hr
 |cons d ds=>
  refine⟨hr.inv,⟨by simp[Env.drop,hr.fr.size],λs=>?_⟩,hr.acc,hr.defers,hr.glob⟩;have hs:=hr.fr.slots s;have e:(Env.drop σ (d::ds)).at s=match σ.at s with| .lref t o=>if(d::ds).contains t then .undef else .lref t o|x=>x:=by
   simp only[Env.drop,Env.at,List.getD,List.getElem?_map]
   cases hg:σ[s]? with
   |none=>rfl
   |some x=>cases x<;>rfl
  rw[e]
  cases hx:σ.at s with
  |lref t o=>
   rw[hx] at hs;simp only
   split
   ·trivial
   ·exact hs
  |_=>rw[hx] at hs;exact hs
theorem Rel.world (hr:Rel C γ0 w0 γ β σ h a w) {γ':Gh} {h':AHeap} {w':World} (hi:Inv γ' h' w') (ha:Acc γ w γ' w'):Rel C γ0 w0 γ' β σ h' a w':=
 ⟨hi,hr.fr.kept (Kept.of_acc hr.inv ha),hr.acc.trans ha,hr.defers,λg cs hg=>VRelM.mono ha.le _ _ _ (hr.glob g cs hg)⟩
theorem wp_value {P:Program} {o:Oper} {v:Value} {w':World} {next:Act→World→Prop} {Q:Exit→Act→World→Prop} (he:(execOp a.eval o).run P w= .ok (.value v) w') (hn:next (a.put o.dst v) w'):o.wp P a w next Q:=by unfold Oper.wp;rw[he];exact hn
theorem wp_skipped {P:Program} {o:Oper} {w':World} {next:Act→World→Prop} {Q:Exit→Act→World→Prop} (he:(execOp a.eval o).run P w= .ok .skip w') (hn:next (a.put o.dst undef) w'):o.wp P a w next Q:=by unfold Oper.wp;rw[he];exact hn
end
end Go.Am
end
section
namespace Go.Am
def Gh.retag (γ:Gh) (g:Nat) (x:Owner):Gh:={γ with own:=λb=>if b=g then some x else γ.own b}
section
variable {C:Ctx} {γ0 γ:Gh} {w0 w:World} {β:Nat→Nat} {σ:Env} {h:AHeap} {a:Act}
theorem le_retag (γ:Gh) (g:Nat) (x:Owner):γ.le (γ.retag g x):=⟨λ_ _ _ h=>h,λ_ _ h=>h,λ_ _ h=>h⟩
theorem Inv.retag (hi:Inv γ h w) {g s s' st:Nat} {c c':Option Nat} (hg:γ.own g=some (.tail s c st)):Inv (γ.retag g (.tail s' c' st)) h w:=by
 refine⟨λb o v hb=>?_,λid y hid hy=>?_,λid cs hc b hb=>?_,λid es hc b hb=>?_,hi.mu,λb x hx=>?_,λb n hb=>?_⟩;rotate_left 5
 ·obtain⟨p,r⟩:=hi.sz b n hb;have:b≠g:=λhe=>by grind
  exact⟨p,by simp only[Gh.retag,if_neg this];exact r⟩
 ·obtain⟨p,q,r⟩:=hi.imm b o v hb;refine⟨p,q,?_⟩;by_cases he:b=g
  ·subst he;rw[hg] at r;rcases r with r|⟨_,_,_,r,hl⟩
   ·cases r
   ·cases r;exact .inr ⟨s',c',st,by simp[Gh.retag],hl⟩
  ·simpa only[Gh.retag,if_neg he] using r
 ·obtain⟨b,p,q⟩:=hi.obj id y hid hy;have:b≠g:=λhe=>by subst he;rw[hg] at q;cases q
  exact⟨b,p,by simp only[Gh.retag,if_neg this];exact q⟩
 ·obtain⟨us,e,fr,p,pf,q,r⟩:=hi.cells id cs hc b hb;exact⟨us,e,fr,p,pf,VRelV.mono (le_retag γ g _) _ _ q,r⟩
 ·obtain⟨us,e,p,q⟩:=hi.map id es hc b hb;exact⟨us,e,p,q.mono (le_retag γ g _)⟩
 ·by_cases he:b=g
  ·subst he;exact hi.own b _ hg
  ·simp only[Gh.retag,if_neg he] at hx;exact hi.own b x hx
theorem OwnT.retag {B:Nat} {s s2 st:Nat} {c c2:Option Nat} {v:Value} {u:AVal} {x:Owner} {g:Nat} (hg:γ.own g=some (.tail s c st)) (ho:OwnT γ B w s2 c2 v u) (hne:s2≠s∨c2≠c):OwnT (γ.retag g x) B w s2 c2 v u:=by
 rcases ho with ho|⟨g2,n,cap,us,e,z,rows,h1,h2,h3,h4⟩
 ·exact .inl ho
 ·have:g2≠g:=λhe=>by grind
  exact .inr ⟨g2,n,cap,us,e,z,rows,h1,h2,by simp only[Gh.retag,if_neg this];exact h3,h4⟩
theorem FR.retag {B:Nat} {tmps:Array Value} (hf:FR γ β B σ tmps w) {g s st:Nat} {c:Option Nat} {x:Owner} (hg:γ.own g=some (.tail s c st))
  (h1:c=none→∀v,σ.at s≠ .own v) (h2:∀o,c=some o→∀ver cs ow,σ.at s= .box ver cs ow→o∉ow):FR (γ.retag g x) β B σ tmps w:=by
 refine⟨hf.size,λs2=>?_⟩;have hs:=hf.slots s2
 cases hx:σ.at s2 with
 |undef=>trivial
 |skip=>rw[hx] at hs;exact hs
 |val u=>rw[hx] at hs;exact VRel.mono (le_retag γ g x) _ _ hs
 |cst b=>rw[hx] at hs;exact hs
 |own u=>
  rw[hx] at hs;refine⟨VRel.mono (le_retag γ g x) _ _ hs.1,hs.2.retag hg ?_⟩
  grind
 |box ver cs ow=>
  rw[hx] at hs;obtain⟨p1,p2,p3,us,e,p4,p5,p6,p7⟩:=hs;have hb:β s2≠g:=λhe=>by rw[he,hg] at p2;cases p2
  refine⟨p1,by simp only[Gh.retag,if_neg hb];exact p2,p3,us,e,p4,VRelV.mono (le_retag γ g x) _ _ p5,p6,λo ho=>?_⟩;obtain⟨u,v,q1,q2,q3⟩:=p7 o ho;refine⟨u,v,q1,q2,q3.retag hg ?_⟩
  grind
 |lref s' o=>rw[hx] at hs;exact hs
theorem Rel.retag (hr:Rel C γ0 w0 γ β σ h a w) {g s st s':Nat} {c c':Option Nat} (hg:γ.own g=some (.tail s c st)) (hB:w0.heap.size≤g)
  (h1:c=none→∀v,σ.at s≠ .own v) (h2:∀o,c=some o→∀ver cs ow,σ.at s= .box ver cs ow→o∉ow):Rel C γ0 w0 (γ.retag g (.tail s' c' st)) β σ h a w:=by
 refine⟨hr.inv.retag hg,hr.fr.retag hg h1 h2,?_,hr.defers,λx cs hx=>VRelM.mono (le_retag γ g _) _ _ _ (hr.glob x cs hx)⟩;refine⟨hr.acc.le.trans (le_retag γ g _),hr.acc.size,hr.acc.os,hr.acc.tape,hr.acc.output,λb hb hn=>?_⟩
 ·obtain⟨p,q⟩:=hr.acc.keep b hb hn;exact⟨p,by simp only[Gh.retag,if_neg (show b≠g by omega)];exact q⟩
theorem Env.at_set_self {s:Nat} {x:Slot} (hs:s<σ.length):Env.at (σ.set s x) s=x:=by simp[Env.at,List.getD,hs]
theorem Env.at_set_ne {s t:Nat} {x:Slot} (hs:s≠t):Env.at (σ.set s x) t=σ.at t:=by simp[Env.at,List.getD,List.getElem?_set_ne hs]
theorem Env.at_lt {s:Nat} (hs:σ.at s≠ .undef):s<σ.length:=by
 rcases Nat.lt_or_ge s σ.length with h|h
 ·exact h
 ·exact absurd (by simp[Env.at,List.getD,List.getElem?_eq_none h]) hs
theorem Rel.take (hr:Rel C γ0 w0 γ β σ h a w) {s:Nat} {v:AVal} (hs:σ.at s= .own v) (s':Nat) (c':Option Nat):
  ∃γ',γ.le γ'∧Rel C γ0 w0 γ' β (σ.set s (.val v)) h a w∧VRel γ' v (a.tmps.getD s undef)∧OwnT γ' w0.heap.size w s' c' (a.tmps.getD s undef) v:=by
 have h0:=hr.fr.slots s;rw[hs] at h0;obtain⟨hv,ho⟩:=h0;have hr1:Rel C γ0 w0 γ β (σ.set s (.val v)) h a w:=hr.turn hv;have hl:=Env.at_lt (by rw[hs];simp);rcases ho with ho|⟨g,n,cap,us,e,z,rows,h1,h2,h3,h4,h5⟩
 ·exact⟨γ,.refl _,hr1,hv,.inl ho⟩
 ·refine⟨γ.retag g (.tail s' c' (n*z)),le_retag _ _ _,hr1.retag h3 h4 (λ_ u=>?_) (λo ho=>by cases ho),VRel.mono (le_retag _ _ _) _ _ hv,.inr ⟨g,n,cap,us,e,z,rows,h1,h2,by simp[Gh.retag],h4,h5⟩⟩;rw[Env.at_set_self hl];simp
theorem copySlot_rel {B s d:Nat} {sl sl':Slot} {v:Value} (hs:SRel γ β B w s sl v) (hc:copySlot sl=some sl'):SRel γ β B w d sl' v:=by
 cases sl<;>simp[copySlot] at hc
 ·subst hc;exact hs
 ·subst hc;exact hs
 ·subst hc;exact hs.1
 ·subst hc;exact hs
theorem noNews {ws:List (Nat×Slot)} (h:∀p∈ws,∀cs ow,p.2≠ .box 0 cs ow):(OpR.pure ws).news=[]:=by
 simp only[OpR.news,List.filterMap_eq_nil_iff];rintro⟨s,x⟩ hp;have:=h _ hp
 cases x with
 |box ver cs ow=>
  cases ver with
  |zero=>exact absurd rfl (this cs ow)
  |succ n=>rfl
 |_=>rfl
theorem opSlot_const {v:Value} {sl:Slot} (hs:opSlot C σ (.const v)=some sl):(∀B d,SRel γ β B w d sl v)∧∀ver cs ow,sl≠ .box ver cs ow:=by
 unfold opSlot at hs;split at hs
 ·grind
 ·rename_i heq;cases heq;cases hs;exact⟨λ_ _=>rfl,λ_ _ _ h=>by cases h⟩
 ·rename_i heq;cases heq;cases hs;exact⟨λ_ _=>⟨rfl,.inl (.inl rfl)⟩,λ_ _ _ h=>by cases h⟩
 ·rename_i heq
  cases heq
  cases hc:ofConst v with
  |none=>rw[hc] at hs;cases hs
  |some u=>rw[hc] at hs;cases hs;exact⟨λ_ _=>ofConst_rel hc,λ_ _ _ h=>by cases h⟩
 ·grind
 ·grind
theorem opSlot_tmp {s:Nat} {sl:Slot} (hs:opSlot C σ (.tmp s)=some sl):σ.at s=sl:=Option.some.inj hs
theorem opSlot_own {x:Operand} {v:AVal} (hs:opSlot C σ x=some (.own v)) (hn:∀c,x≠ .const c):∃s,x= .tmp s∧σ.at s= .own v:=by
 cases x with
 |tmp s=>exact⟨s,rfl,opSlot_tmp hs⟩
 |const c=>exact absurd rfl (hn c)
 |global g=>have hs':(C.glob g).map (λcs=>Slot.val (AVal.rptr cs))=some (.own v):=hs;simp_all
 |func f=>cases hs
theorem sim_move {x:Operand} {d:Nat} {take:Bool} {r:OpR} {run:IT→AHeap→Option Res} {σ':Env} {h':AHeap} (hm:moveOp C σ x d take=some r) (hd:r.does C run (σ.drop r.news) h σ' h')
  (hr:Rel C γ0 w0 γ β σ h a w):∃γ',Rel C γ0 w0 γ' β σ' h' (a.put (some d) (a.eval x)) w:=by
 unfold moveOp at hm;split at hm
 ·rename_i s _ _ _ hs
  cases hm
  rw[noNews (by simp)] at hd;obtain⟨rfl,rfl⟩:=hd;refine⟨γ,hr.put (d:=some d) λt ht=>?_⟩;have h0:=slot_rel hr s;rw[opSlot_tmp hs] at h0;exact h0.1
 ·rename_i v sl hs
  cases hm
  obtain⟨p,q⟩:=opSlot_const (γ:=γ) (β:=β) (w:=w) hs;rw[noNews (by simpa using λcs ow=>q 0 cs ow)] at hd;obtain⟨rfl,rfl⟩:=hd;exact⟨γ,hr.put (d:=some d) λt _=>p _ t⟩
 ·rename_i v hnc hs;split at hm
  ·cases hm
   obtain⟨s,rfl,hsv⟩:=opSlot_own hs (λc hc=>hnc c hc);rw[noNews (by simp[takeFrom])] at hd;obtain⟨rfl,rfl⟩:=hd;obtain⟨γ',hle,hr',hv',ho'⟩:=hr.take hsv d none;exact⟨γ',hr'.put (d:=some d) λt ht=>by cases ht;exact⟨hv',ho'⟩⟩
  ·simp only[copySlot,Option.map_some] at hm
   cases hm
   rw[noNews (by simp)] at hd;obtain⟨rfl,rfl⟩:=hd;obtain⟨s,h1,_⟩:=opSlot_any hr hs;exact⟨γ,hr.put (d:=some d) λt ht=>h1.1⟩
 ·rename_i sl _ _ _ hs
  cases hc:copySlot sl with
  |none=>rw[hc] at hm;cases hm
  |some sl'=>
   rw[hc] at hm;cases hm;have hnn:∀cs ow,sl'≠ .box 0 cs ow:=by
    intro cs ow he;subst he
    cases sl<;>simp[copySlot] at hc
   rw[noNews (by simpa using hnn)] at hd;obtain⟨rfl,rfl⟩:=hd;obtain⟨s,h1,_⟩:=opSlot_any hr hs;exact⟨γ,hr.put (d:=some d) λt ht=>copySlot_rel h1 hc⟩
 ·cases hm
end
end Go.Am
end
section
namespace Go.Am
open Go
theorem semPure_eq {s:Sem Value} {v:Value} (h:semPure s=some v):s= .pure v:=by
 cases s<;>simp[semPure] at h
 subst h;rfl
section
variable {P:Program} {γ:Gh} {w:World}
theorem run_pop_int {op:BinOp} {k l:IntKind} {x y:Int} {u:AVal} (t:TypeId) (ox oy:Operand) (h:intOp op k x l y=some u):
  ∃v,(do eqGuard op t ox oy (.int k x) (.int l y);binOp op t (.int k x) (.int l y):Sem Value).run P w= .ok v w∧VRel γ u v:=by
 unfold intOp at h
 cases hs:semPure (binOp op 0 (.int k x) (.int l y)) with
 |none=>rw[hs] at h;cases h
 |some v=>
  rw[hs] at h;have e1:=semPure_eq hs;have e2:binOp op t (.int k x) (.int l y)= .pure v:=by rw[←e1];cases op<;>rfl
  have e3:eqGuard op t ox oy (.int k x) (.int l y)=pure ():=by cases op<;>rfl
  refine⟨v,by rw[e3,e2];rfl,?_⟩;simp only[Option.bind_some] at h;split at h<;>cases h<;>rfl
theorem data_mk (l:List UInt8):(ByteArray.mk ⟨l⟩).toList=l:=ByteArray.toList_mk l
theorem run_pop_str {op:BinOp} {x y:Bytes} {u:AVal} (t:TypeId) (ox oy:Operand) (h:strOp op x y=some u):
  ∃v,(do eqGuard op t ox oy (.string ⟨⟨x⟩⟩) (.string ⟨⟨y⟩⟩);binOp op t (.string ⟨⟨x⟩⟩) (.string ⟨⟨y⟩⟩):Sem Value).run P w= .ok v w∧VRel γ u v:=by
 have e3:eqGuard op t ox oy (.string ⟨⟨x⟩⟩) (.string ⟨⟨y⟩⟩)=pure ():=by cases op<;>rfl
 have e2:binOp op t (.string ⟨⟨x⟩⟩) (.string ⟨⟨y⟩⟩)=Op.stringOp op ⟨⟨x⟩⟩ ⟨⟨y⟩⟩:=by cases op<;>rfl
 rw[e3,e2];unfold strOp at h
 cases op<;>simp only at h<;>first
  |cases h;done
  |(simp only[Op.stringOp,data_mk];cases h;exact⟨_,rfl,rfl⟩)
  | (split at h
     · rename_i hle
       cases h
       have hc : ¬ ((((ByteArray.mk ⟨x⟩).size + (ByteArray.mk ⟨y⟩).size : Nat) : Int) > IntKind.i64.max) := by
         have e1 : (ByteArray.mk ⟨x⟩).size = x.length := rfl
         have e2 : (ByteArray.mk ⟨y⟩).size = y.length := rfl
         rw [e1, e2]
         have : IntKind.i64.max = 9223372036854775807 := by decide
         rw [this]
         omega
       simp only [Op.stringOp, if_neg hc]
       refine ⟨_, rfl, ?_⟩
       first
         | (congr 1; done)
         | (congr 1; apply ByteArray.ext; simp)
     · cases h)
theorem isAgg_none {t:TypeId} (h:tyShape P t=some none):(isAgg t).run P w= .ok false w:=by
 unfold tyShape at h;split at h
 ·simp_all
 ·simp_all
 ·rename_i d h1 h2 hu;simp only[isAgg,Sem.run_bind,run_underlying hu,Result.andThen_ok];rfl
 ·cases h
theorem isAgg_some {t:TypeId} {n:Nat} (h:tyShape P t=some (some n)):(isAgg t).run P w= .ok true w∧tySize P t=some n:=by
 unfold tyShape at h;split at h
 ·rename_i fs hu
  cases hs:tySize P t with
  |none=>rw[hs] at h;cases h
  |some m=>rw[hs] at h;cases h;exact⟨by simp[isAgg,run_underlying hu],rfl⟩
 ·rename_i fs _ hu
  cases hs:tySize P t with
  |none=>rw[hs] at h;cases h
  |some m=>rw[hs] at h;cases h;exact⟨by simp[isAgg,run_underlying hu],rfl⟩
 ·cases h
 ·cases h
theorem run_sizeOf {t:TypeId} {n:Nat} (h:tySize P t=some n):(sizeOf t).run P w= .ok n w:=by
 unfold tySize at h
 cases hi:P.info? t with
 |none=>rw[hi] at h;cases h
 |some i=>rw[hi] at h;cases h;simp[sizeOf,typeInfo,hi]
theorem run_part {t:TypeId} {sh:Option Nat} {cs:List AVal} {us:Array Value} {off:Nat} {u:AVal} (hsh:tyShape P t=some sh) (hr:VRelV γ cs us.toList) (h1:∀v∈us.toList,v.oneCell'=true)
  (hp:partOf cs off sh=some u):∃v,(part t us off).run P w= .ok v w∧VRel γ u v:=by
 cases sh with
 |none=>
  obtain⟨v,hv,hrel⟩:=hr.get hp;refine⟨v,?_,hrel⟩;have hv':us[off]?=some v:=by simpa using hv
  simp[part,isAgg_none hsh,hv']
 |some n=>
  obtain⟨ha,hs⟩:=isAgg_some (w:=w) hsh;replace hp:(if off+n≤cs.length then some (AVal.agg ((cs.drop off).take n)) else none)=some u:=hp;split at hp
  ·cases hp
   refine⟨.agg (us.extract off (off+n)),by simp[part,ha,run_sizeOf hs],us.extract off (off+n),rfl,?_,?_⟩
   ·have:=(hr.drop off).take n;simp_all
   ·intro v hv;refine h1 v ?_;rw[Array.toList_extract,List.extract_eq_take_drop] at hv
    grind
  ·cases hp
end
end Go.Am
end
section
namespace Go.Am
open Go
theorem flatEq_b {x y:AVal} {b:Bool} (h:flatEq .b x y=some b):∃p q,x= .bool p∧y= .bool q∧(p==q)=b:=by
 unfold flatEq at h
 grind
theorem flatEq_i {x y:AVal} {b:Bool} (h:flatEq .i x y=some b):∃k p q,x= .int k p∧y= .int k q∧(p==q)=b:=by
 unfold flatEq at h
 grind
theorem flatEq_s {x y:AVal} {b:Bool} (h:flatEq .s x y=some b):∃p q,x= .str p∧y= .str q∧(p==q)=b:=by
 unfold flatEq at h
 grind
theorem flatEqs_append:∀{ks ks':List FK} {xs ys:List AVal} {b:Bool},flatEqs (ks++ks') xs ys=some b→
  ∃b1 b2,flatEqs ks (xs.take ks.length) (ys.take ks.length)=some b1∧flatEqs ks' (xs.drop ks.length) (ys.drop ks.length)=some b2∧b=(b1&&b2)
 |[],ks',xs,ys,b,h=>⟨true,b,by simp[flatEqs],by simpa using h,by simp⟩
 |k::ks,ks',[],ys,b,h=>by cases ys<;>simp[flatEqs] at h
 |k::ks,ks',x::xs,[],b,h=>by simp[flatEqs] at h
 |k::ks,ks',x::xs,y::ys,b,h=>by
  simp only[List.cons_append,flatEqs] at h;split at h
  ·rename_i e es h1 h2
   cases h
   obtain⟨b1,b2,p,q,r⟩:=flatEqs_append h2;refine⟨e&&b1,b2,?_,by simpa using q,by rw[r,Bool.and_assoc]⟩;simp only[List.length_cons,List.take_succ_cons,flatEqs,h1,p]
  ·cases h
theorem flatEqs_length:∀{ks:List FK} {xs ys:List AVal} {b:Bool},flatEqs ks xs ys=some b→xs.length=ks.length∧ys.length=ks.length
 |[],xs,ys,b,h=>by cases xs<;>cases ys<;>simp[flatEqs] at h⊢
 |k::ks,xs,ys,b,h=>by
  cases xs<;>cases ys<;>simp[flatEqs] at h
  split at h
  ·rename_i h1 h2;obtain⟨p,q⟩:=flatEqs_length h2;simp[p,q]
  ·cases h
section
variable {P:Program} {γ:Gh} {w:World}
theorem flat_size:∀{d:Nat} {t:TypeId} {ks:List FK},flatK P d t=some ks→tySize P t=some ks.length
 |0,t,ks,h=>by cases h
 |d+1,t,ks,h=>by
  simp only[flatK] at h
  grind
theorem one_of {ks:List FK} {k:FK} {t:TypeId} (h:(if tySize P t=some 1 then some [k] else none)=some ks):ks=[k]:=by simp_all
theorem run_part_scalar {t:TypeId} {us:Array Value} {off:Nat} {v:Value} {d:TypeDesc} (hu:P.underlying t=some d) (h1:∀fs,d≠ .struct fs) (h2:∀n e,d≠ .array n e) (hv:us[off]?=some v):
  (part t us off).run P w= .ok v w:=by
 have ha:(isAgg t).run P w= .ok false w:=by simp only[isAgg,Sem.run_bind,run_underlying hu,Result.andThen_ok];simp_all
 simp[part,ha,hv]
theorem get_of_take {l:List AVal} {off:Nat} {x:AVal} (h:(l.drop off).take 1=[x]):l[off]?=some x:=by
 have:=congrArg (·[0]?) h
 grind
theorem flat_one {k:FK} {xs ys:List AVal} {b:Bool} (h:flatEqs [k] xs ys=some b):∃x y,xs=[x]∧ys=[y]∧flatEq k x y=some b:=by
 cases xs<;>cases ys<;>simp[flatEqs] at h
 rename_i x xs y ys
 cases xs<;>cases ys<;>simp[flatEqs] at h
 grind
mutual
theorem run_flat:∀{d D:Nat},d≤D→∀{t:TypeId} {ks:List FK},flatK P d t=some ks→∀(us vs:Array Value) (cs ds:List AVal) (off:Nat) (b:Bool),VRelV γ cs us.toList→VRelV γ ds vs.toList→
  flatEqs ks ((cs.drop off).take ks.length) ((ds.drop off).take ks.length)=some b→
  ∃x y,(part t us off).run P w= .ok x w∧(part t vs off).run P w= .ok y w∧(Op.equalIn D t x y).run P w= .ok b w
 |0,_,_,_,_,h=>by cases h
 |d+1,0,hd,_,_,_=>by omega
 |d+1,D+1,hd,t,ks,h=>by
  intro us vs cs ds off b hu hv he;have hsz:=flat_size h;simp only[flatK] at h;split at h
  ·rename_i hty;have:=one_of h;subst this;obtain⟨x,y,e1,e2,e3⟩:=flat_one he;obtain⟨x',p1,p2⟩:=hu.get (get_of_take e1);obtain⟨y',q1,q2⟩:=hv.get (get_of_take e2);refine⟨x',y',run_part_scalar hty (by simp) (by simp) (by simpa using p1),run_part_scalar hty (by simp) (by simp) (by simpa using q1),?_⟩;obtain⟨x1,y1,rfl,rfl,e4⟩:=flatEq_b e3;rw[p2,q2,run_equalIn_bool' w D t _ _ hty,←e4]
  ·rename_i kk hty;have:=one_of h;subst this;obtain⟨x,y,e1,e2,e3⟩:=flat_one he;obtain⟨x',p1,p2⟩:=hu.get (get_of_take e1);obtain⟨y',q1,q2⟩:=hv.get (get_of_take e2);refine⟨x',y',run_part_scalar hty (by simp) (by simp) (by simpa using p1),run_part_scalar hty (by simp) (by simp) (by simpa using q1),?_⟩;obtain⟨k1,x1,y1,rfl,rfl,e4⟩:=flatEq_i e3;rw[p2,q2,run_equalIn_int w D t _ _ _ _ hty,←e4]
  ·rename_i hty;have:=one_of h;subst this;obtain⟨x,y,e1,e2,e3⟩:=flat_one he;obtain⟨x',p1,p2⟩:=hu.get (get_of_take e1);obtain⟨y',q1,q2⟩:=hv.get (get_of_take e2);refine⟨x',y',run_part_scalar hty (by simp) (by simp) (by simpa using p1),run_part_scalar hty (by simp) (by simp) (by simpa using q1),?_⟩;obtain⟨x1,y1,rfl,rfl,e4⟩:=flatEq_s e3;rw[p2,q2,run_equalIn_string w D t _ _ hty,data_mk,data_mk,←e4]
  ·rename_i fs hty;split at h
   ·rename_i ks' hfs;split at h
    ·rename_i hc
     cases h
     have hsh:tyShape P t=some (some ks.length):=by simp[tyShape,hty,hsz]
     obtain⟨ha,hs⟩:=isAgg_some (w:=w) hsh;refine⟨.agg (us.extract off (off+ks.length)),.agg (vs.extract off (off+ks.length)),by simp[part,ha,run_sizeOf hs],by simp[part,ha,run_sizeOf hs],?_⟩;have hty':P.underlying t=some (.struct (P.fieldsOf t)):=by simp[Program.fieldsOf,hty]
     rw[run_equalIn_struct w D t _ _ hty' hc.2];have hf:(P.fieldsOf t).toList=fs.toList:=by simp[Program.fieldsOf,hty]
     rw[hf];have hu':VRelV γ ((cs.drop off).take ks.length) (us.extract off (off+ks.length)).toList:=by have:=(hu.drop off).take ks.length;simpa[Array.toList_extract,List.extract_eq_take_drop] using this
     have hv':VRelV γ ((ds.drop off).take ks.length) (vs.extract off (off+ks.length)).toList:=by have:=(hv.drop off).take ks.length;simpa[Array.toList_extract,List.extract_eq_take_drop] using this
     refine run_flats (Nat.le_of_succ_le_succ hd) fs.toList hfs _ _ _ _ _ hu' hv' ?_;simpa using he
    ·cases h
   ·cases h
  ·cases h
theorem run_flats:∀{d D:Nat},d≤D→∀(fs:List Field) {off:Nat} {ks:List FK},flatFs (flatK P d) fs off=some ks→∀(us vs:Array Value) (cs ds:List AVal) (b:Bool),VRelV γ cs us.toList→VRelV γ ds vs.toList→
  flatEqs ks (cs.drop off) (ds.drop off)=some b→(Op.eqFields D us vs fs).run P w= .ok b w
 |d,D,hd,[],off,ks,h=>by
  intro us vs cs ds b hu hv he
  cases h
  have:b=true:=by
   cases h1:cs.drop off<;>cases h2:ds.drop off<;>rw[h1,h2] at he<;>simp[flatEqs] at he
   exact he
  subst this;rfl
 |d,D,hd,f::fs,off,ks,h=>by
  intro us vs cs ds b hu hv he;simp only[flatFs] at h;split at h
  ·rename_i hc;obtain⟨hn,hoff⟩:=hc;split at h
   ·rename_i ks1 hk1
    cases hr:flatFs (flatK P d) fs (off+ks1.length) with
    |none=>rw[hr] at h;cases h
    |some ks2=>
     rw[hr] at h;cases h;obtain⟨b1,b2,e1,e2,rfl⟩:=flatEqs_append he;obtain⟨x,y,p1,p2,p3⟩:=run_flat hd hk1 _ _ _ _ _ _ hu hv e1;simp only[Op.eqFields,hn,ne_eq,not_false_eq_true,if_true,hoff,Sem.run_bind,p1,p2,p3,Result.andThen_ok]
     cases b1
     ·rfl
     ·simp only[Bool.not_true,Bool.false_eq_true,if_false,Bool.true_and];exact run_flats hd fs hr _ _ _ _ _ hu hv (by simpa[List.drop_drop] using e2)
   ·cases h
  ·cases h
end
theorem run_pop_geq {op:BinOp} {t:TypeId} {ox oy:Operand} {neg:Bool} {ks:List FK} {a b:List AVal} {x y:Value} {u:AVal} (hop:(op= .eql∧neg=false)∨(op= .neq∧neg=true))
  (hg:P.eqGuardType P.depth t=false) (hk:flatK P 20 t=some ks) (hst:∃fs,P.underlying t=some (.struct fs)) (hx:VRel γ (.agg a) x) (hy:VRel γ (.agg b) y) (h:(flatEqs ks a b).map (λe=>AVal.bool (e != neg))=some u):
  ∃v,(do eqGuard op t ox oy x y;binOp op t x y:Sem Value).run P w= .ok v w∧VRel γ u v:=by
 obtain⟨us,rfl,hu,_⟩:=hx;obtain⟨vs,rfl,hv,_⟩:=hy
 cases he:flatEqs ks a b with
 |none=>rw[he] at h;cases h
 |some e=>
  rw[he] at h;cases h;obtain⟨l1,l2⟩:=flatEqs_length he;obtain⟨x',y',p1,p2,p3⟩:=run_flat (w:=w) (P:=P) (γ:=γ) (D:=10000) (by omega:20≤10000) hk us vs a b 0 e hu hv (by rw[List.drop_zero,List.drop_zero,List.take_of_length_le (Nat.le_of_eq l1),List.take_of_length_le (Nat.le_of_eq l2)];exact he);obtain⟨fs,hfs⟩:=hst;have hsh:tyShape P t=some (some ks.length):=by simp[tyShape,hfs,flat_size hk]
  obtain⟨ha,hs⟩:=isAgg_some (w:=w) hsh;have e1:us.extract 0 ks.length=us:=by
   have:us.size=ks.length:=by have:=hu.length;simp at this;omega
   rw[←this];simp
  have e2:vs.extract 0 ks.length=vs:=by
   have:vs.size=ks.length:=by have:=hv.length;simp at this;omega
   rw[←this];simp
  have q1:x'= .agg us:=by simp[part,ha,run_sizeOf hs,e1] at p1;exact p1.symm
  have q2:y'= .agg vs:=by simp[part,ha,run_sizeOf hs,e2] at p2;exact p2.symm
  subst q1;subst q2;rcases hop with⟨rfl,rfl⟩|⟨rfl,rfl⟩
  ·refine⟨.bool e,by simp[run_eqGuard_agg (P:=P) w .eql t ox oy us vs hg,run_eql_struct,p3],?_⟩;show Value.bool e=Value.bool _
   cases e<;>rfl
  ·refine⟨.bool (!e),by simp[run_eqGuard_agg (P:=P) w .neq t ox oy us vs hg,run_neq_struct,p3],?_⟩;show Value.bool _=Value.bool _
   cases e<;>rfl
end
end Go.Am
end
