/- Lemmas -/
import Derived.Test.YtjboelmdplaenaaGreatDoorQ28
set_option linter.unusedVariables false
set_option linter.unusedSimpArgs false
namespace Go.Am
open Go
set_option maxRecDepth 100000
def FinPost {σ:Type} (enc:σ→List AVal) (inv:σ→AHeap→Prop) (μ:σ→Nat) (i:Nat) (fin:σ→AHeap→Prop) (s:σ):Post:=
 λx vs h1=>(x= .normal∧∃s',vs=enc s'∧inv s' h1∧μ s'<μ s)∨(x= .exit i∧∃s',vs=enc s'∧fin s' h1)
theorem FinPost.next {σ:Type} {enc:σ→List AVal} {inv fin:σ→AHeap→Prop} {μ:σ→Nat} {i:Nat} {s:σ} {vs:List AVal} {h:AHeap} (s':σ) (e:vs=enc s') (hi:inv s' h) (hl:μ s'<μ s):FinPost enc inv μ i fin s .normal vs h:= .inl ⟨rfl,s',e,hi,hl⟩
theorem FinPost.fin {σ:Type} {enc:σ→List AVal} {inv fin:σ→AHeap→Prop} {μ:σ→Nat} {i:Nat} {s:σ} {vs:List AVal} {h:AHeap} (s':σ) (e:vs=enc s') (hi:fin s' h):FinPost enc inv μ i fin s (.exit i) vs h:= .inr ⟨rfl,s',e,hi⟩
theorem W_loop_fin {C:Ctx} {Q:Post} {h:AHeap} {σ:Type} {key i:Nat} {init:List AVal} {body:List AVal→IT} {k:AExit→List AVal→IT} (enc:σ→List AVal) (inv:σ→AHeap→Prop) (μ:σ→Nat) (fin:σ→AHeap→Prop) (s0:σ) (h0:init=enc s0) (hi:inv s0 h)
  (round:∀s h,inv s h→W C (body (enc s)) (FinPost enc inv μ i fin s) h) (hk:∀s h,fin s h→W C (k (.exit i) (enc s)) Q h):W C (.loop key init body k) Q h:=by
 refine W_loop_st enc inv μ s0 h0 hi λs h hs=>W.mono (round s h hs) ?_;rintro x vs h1 (hn|⟨rfl,s',rfl,hf⟩)
 ·exact .inl hn
 ·exact .inr ⟨by simp,hk s' h1 hf⟩
theorem hload_row {h:AHeap} {id z:Nat} {rows:List (List AVal)} (hr:∀r∈rows,r.length=z) (hc:h[id]?=some (.cells rows.flatten)) {i:Nat} (hi:i<rows.length):hload h (some z) (.ptr (some (id,i*z)))=some (.agg rows[i]):=by
 have hl:i*z+z≤rows.flatten.length:=by
  rw[flat_len hr];have:=Nat.mul_le_mul_right z (show i+1≤rows.length by omega)
  rwa [Nat.add_mul,Nat.one_mul] at this
 simp only[hload,hc,partOf_some];rw[if_pos hl,flat_drop hr,List.drop_eq_getElem_cons hi,List.flatten_cons,List.take_append_of_le_length (by rw[hr _ (List.getElem_mem hi)];exact Nat.le_refl _),List.take_of_length_le (by rw[hr _ (List.getElem_mem hi)];exact Nat.le_refl _)]
section
variable {h:AHeap}
theorem put_cells {id k:Nat} {v:AVal} {cs:List AVal} (hc:h[id]?=some (.cells cs)):(put h id k v)[id]?=some (.cells (cs.set k v)):=by rw[put_of hc,List.getElem?_set_self (List.getElem?_eq_some_iff.1 hc).1]
set_option maxHeartbeats 1000000 in
theorem f161a {v:AVal} {l:List Int} (hv:IntsAt h v l) (hb:l.length≤1000000000) (x:Int):Ret cx 82 [v,.int .i64 x] h (.int .i64 (idxFrom (λy=>decide (x=y)) 0 l)) h:=by
 rw[ret_iff,t82_eq,t82];refine W_loop_st (λk:Nat=>[I 0,.int .i64 (k:Int)]) (λk h1=>k≤l.length∧idxFrom (λy=>decide (x=y)) 0 l=idxFrom (λy=>decide (x=y)) k (l.drop k)∧h1=h) (λk=>l.length-k) 0 rfl ⟨Nat.zero_le _,rfl,rfl⟩ ?_;rintro k h1 ⟨hk,ha,rfl⟩;rcases Nat.lt_or_ge k l.length with hlt|hge
 ·obtain⟨p,e1,e2⟩:=hv.at_ k hlt;rw[List.drop_eq_getElem_cons hlt,idxFrom] at ha;simp only[amS,bxS,hv.len,show(k:Int)<(l.length:Int) by omega,e1,e2,pe_incN k];refine⟨λh2=>?_,λh2=>?_⟩
  ·rw[ha,if_pos (by simp[h2])]
  ·rw[if_neg (by simpa using λe=>h2 e.symm)] at ha;exact LoopPost.next (k+1) rfl ⟨hlt,ha,rfl⟩ (by omega)
 ·rw[List.drop_of_length_le hge,idxFrom] at ha;simp only[amS,bxS,hv.len,show¬(k:Int)<(l.length:Int) by omega,ha]
end
end Go.Am
