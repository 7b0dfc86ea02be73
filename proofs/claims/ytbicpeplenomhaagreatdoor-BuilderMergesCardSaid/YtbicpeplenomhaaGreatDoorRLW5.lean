/- Parts of the proof. No law is claimed here. -/
import Derived.Test.YtbicpeplenomhaaGreatDoorR27
set_option linter.unusedVariables false
set_option linter.unusedSimpArgs false
namespace Go.Am
set_option maxRecDepth 100000
theorem onceF_pre:∀{l out:List Attr},∃t,onceF out l=out++t
 |[],out=>⟨[],by simp[onceF]⟩
 |x::l,out=>by
  rw[onceF];split
  ·exact onceF_pre
  ·obtain⟨t,e⟩:=onceF_pre (l:=l) (out:=out++[x]);exact⟨x::t,by rw[e];simp⟩
theorem onceF_app:∀{l out m:List Attr},onceF out (l++m)=onceF (onceF out l) m
 |[],out,m=>rfl
 |x::l,out,m=>by
  rw[List.cons_append,onceF,onceF];split
  ·exact onceF_app
  ·exact onceF_app
theorem onceF_has:∀{l out:List Attr} {a:Attr},a∈l→∃c∈onceF out l,keyOf c=keyOf a
 |x::l,out,a,h=>by
  rw[onceF];have key:∀out:List Attr,(∃c∈out,keyOf c=keyOf a)→∃c∈onceF out l,keyOf c=keyOf a:=by rintro out ⟨c,hc,e⟩;obtain⟨t,e2⟩:=onceF_pre (l:=l) (out:=out);exact⟨c,by rw[e2];exact List.mem_append.2 (.inl hc),e⟩
  rcases List.mem_cons.1 h with rfl|h
  ·split
   ·rename_i h1;obtain⟨y,hy,e⟩:=List.any_eq_true.1 h1;exact key _ ⟨y,hy,(of_decide_eq_true e).symm⟩
   ·exact key _ ⟨a,by simp,rfl⟩
  ·split
   ·exact onceF_has h
   ·exact onceF_has h
theorem nod_idx {m:List Attr} (hn:(m.map keyOf).Nodup) {i j:Nat} {x y:Attr} (hx:m[i]?=some x) (hy:m[j]?=some y) (e:keyOf x=keyOf y):i=j:=by obtain⟨hi,rfl⟩:=List.getElem?_eq_some_iff.1 hx;obtain⟨hj,rfl⟩:=List.getElem?_eq_some_iff.1 hy;refine(List.getElem_inj (xs:=m.map keyOf) (i:=i) (j:=j) (h₀:=by simpa using hi) (h₁:=by simpa using hj) hn).1 ?_;simpa using e
theorem onceF_first:∀{l out:List Attr} {k:Nat} {y:Attr},((onceF out l).map keyOf).Nodup→(onceF out l)[k]?=some y→out.length≤k→∃a c,l=a++y::c∧∀x∈a,keyOf x≠keyOf y
 |[],out,k,y,hn,h,hk=>by rw[onceF,List.getElem?_eq_none hk] at h;cases h
 |x::l,out,k,y,hn,h,hk=>by
  rw[onceF] at h hn;split at h
  ·rename_i h1;rw[if_pos h1] at hn;obtain⟨a,c,e,h2⟩:=onceF_first hn h hk;refine⟨x::a,c,by rw[e];rfl,λz hz=>?_⟩;rcases List.mem_cons.1 hz with rfl|hz
   ·intro h3;obtain⟨t,e2⟩:=onceF_pre (l:=l) (out:=out);obtain⟨w,hw,e3⟩:=List.any_eq_true.1 h1;obtain⟨n,hlt,rfl⟩:=List.getElem_of_mem hw;have h4:(onceF out l)[n]?=some out[n]:=by rw[e2,List.getElem?_append_left hlt,List.getElem?_eq_getElem hlt]
    have:=nod_idx hn h4 h ((of_decide_eq_true e3).symm.trans h3);omega
   ·exact h2 z hz
  ·rename_i h1;rw[if_neg h1] at hn;obtain⟨t,e2⟩:=onceF_pre (l:=l) (out:=out++[x]);have h4:(onceF (out++[x]) l)[out.length]?=some x:=by rw[e2];simp
   by_cases hk2:k=out.length
   ·subst hk2;rw[h4] at h
    cases h
    exact⟨[],l,rfl,by simp⟩
   ·obtain⟨a,c,e,h2⟩:=onceF_first hn h (by simp;omega);refine⟨x::a,c,by rw[e];rfl,λz hz=>?_⟩;rcases List.mem_cons.1 hz with rfl|hz
    ·intro h3;have:=nod_idx hn h4 h h3;omega
    ·exact h2 z hz
section
variable {xs ma:List Attr}
def allS (l:List Attr):Prop:=∀a∈l,a.space=0
theorem plain_space:allS (BS.plain ma):=by intro a ha;obtain⟨c,_,rfl⟩:=List.mem_map.1 ha;rfl
theorem adj_space {l:List Attr}:allS (l.map (adjAttr 1)):=by intro a ha;obtain⟨c,_,rfl⟩:=List.mem_map.1 ha;unfold adjAttr;rw[if_neg (by decide)]
theorem once_space {l:List Attr} (h:allS l):allS (once l):=λa ha=>h a (once_mem ha)
theorem merged (h:(xs.map keyOf).Nodup):once (xs++BS.plain ma)=onceF xs (BS.plain ma):=by unfold once;rw[onceF_app,onceF_of (out:=[]) (l:=xs) (by simpa using h)];rfl
theorem merged_take (h:(xs.map keyOf).Nodup):xs.length≤(once (xs++BS.plain ma)).length∧(once (xs++BS.plain ma)).take xs.length=xs:=by rw[merged h];obtain⟨t,e⟩:=onceF_pre (l:=BS.plain ma) (out:=xs);rw[e];simp
def manyN (n:Bytes) (l:List Attr):Nat:=l.countP λa=>decide (a.name=n)
theorem many_one {l:List Attr} (h:(l.map keyOf).Nodup) (hs:allS l) {a:Attr} (ha:∃c∈l,c.name=a.name):manyN a.name l=1:=by
 obtain⟨c,hc,e⟩:=ha;obtain⟨u,v,rfl⟩:=List.append_of_mem hc;have key:∀x∈u++v,x.name≠a.name:=by
  intro x hx h1;rw[List.map_append,List.map_cons,List.nodup_append] at h;obtain⟨h2,h3,h4⟩:=h;have ek:keyOf x=keyOf c:=by have:=hs x (by rcases List.mem_append.1 hx with h|h<;>simp[h]);have:=hs c (by simp);unfold keyOf;rw[h1,e];simp[*]
  rcases List.mem_append.1 hx with hx|hx
  ·exact h4 (keyOf x) (List.mem_map_of_mem hx) (keyOf c) (by simp) ek
  ·rw[List.nodup_cons] at h3;exact h3.1 (ek▸List.mem_map_of_mem hx)
 unfold manyN;rw[List.countP_append,List.countP_cons,if_pos (decide_eq_true e)];have h0:∀w:List Attr,(∀x∈w,x.name≠a.name)→w.countP (λx=>decide (x.name=a.name))=0:=λw hw=>List.countP_eq_zero.2 λx hx=>by simpa using hw x hx
 rw[h0 u λx hx=>key x (by simp[hx]),h0 v λx hx=>key x (by simp[hx])]
theorem merged_many (h:(xs.map keyOf).Nodup) (hs:allS xs) {a:Attr} (ha:a∈ma):manyN a.name (once (xs++BS.plain ma))=1:=by
 have hp:⟨0,a.name,a.value⟩∈BS.plain ma:=List.mem_map_of_mem (f:=λa:Attr=>(⟨0,a.name,a.value⟩:Attr)) ha;obtain⟨c,hc,e⟩:=onceF_has (out:=xs) hp;refine many_one (once_keys _) (once_space λx hx=>?_) ⟨c,by rw[merged h];exact hc,(congrArg Prod.snd e:_)⟩;rcases List.mem_append.1 hx with hx|hx
 ·exact hs x hx
 ·exact plain_space x hx
def givenC (l:List Attr) (y:Attr):Prop:=y.space=0∧∃a x c,l=a++x::c∧x.name=y.name∧x.value=y.value∧∀z∈a,z.name≠y.name
theorem merged_given (h:(xs.map keyOf).Nodup) {k:Nat} {y:Attr} (hk:xs.length≤k) (hy:(once (xs++BS.plain ma))[k]?=some y):givenC ma y:=by
 have hn:=once_keys (xs++BS.plain ma);rw[merged h] at hn hy;obtain⟨a,c,e,h2⟩:=onceF_first hn hy hk;have hs:y.space=0:=plain_space (ma:=ma) y (by rw[e];simp);refine⟨hs,?_⟩;unfold BS.plain at e;obtain⟨a',r,e1,e2,e3⟩:=List.map_eq_append_iff.1 e;obtain⟨x,c',e4,e5,e6⟩:=List.map_eq_cons_iff.1 e3;refine⟨a',x,c',by rw[e1,e4],by rw[←e5],by rw[←e5],λz hz h3=>?_⟩;have hz2:(⟨0,z.name,z.value⟩:Attr)∈a:=by rw[←e2];exact List.mem_map_of_mem (f:=λa:Attr=>(⟨0,a.name,a.value⟩:Attr)) hz
 refine h2 _ hz2 ?_;unfold keyOf;rw[hs];simp only;rw[h3]
end
end Go.Am
