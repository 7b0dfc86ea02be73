/- Lemmas -/
import Derived.Test.YtjboelmdplaenaaGreatDoorQ17
import Derived.Lib.Bytealg
set_option linter.unusedVariables false
set_option linter.unusedSimpArgs false
namespace Go.Am
open Go Go.RowKit Go.Shelf
set_option maxHeartbeats 1000000 in
set_option maxRecDepth 100000 in
theorem cnt376 (s:ByteArray) (c:UInt8) (w:World):
  Calls Proofs.Tryz.prog 240 #[.string s,.string ⟨#[c]⟩] w λe w'=>e= .returned (.int .i64 (Lib.countByte s.data.toList c))∧w'=w:=by
 go_enter Proofs.Tryz.func240,Proofs.Tryz.ntmps240
 go_wp2
 rw[run_callFunc_extern Proofs.Tryz.func242 (by kernel_rfl) (by kernel_rfl) (by kernel_rfl) (e:=Extern.BytealgCount.count) (by kernel_rfl),Lib.run_countString];simp only[Result.andThen];rw[Oper.upon_value]
 go_wp2
 go_ret
 exact⟨rfl,rfl⟩
set_option maxHeartbeats 1000000 in
set_option maxRecDepth 100000 in
theorem ixb381 (s:ByteArray) (c:Int) (w:World):
  Calls Proofs.Tryz.prog 148 #[.string s,.int .u8 c] w λe w'=>e= .returned (.int .i64 (Lib.indexByte s.data.toList c.toNat.toUInt8))∧w'=w:=by
 go_enter Proofs.Tryz.func148,Proofs.Tryz.ntmps148
 go_wp2
 rw[run_callFunc_extern Proofs.Tryz.func162 (by kernel_rfl) (by kernel_rfl) (by kernel_rfl) (e:=Extern.BytealgIndexByte.indexByte) (by kernel_rfl),Lib.run_indexByteString];simp only[Result.andThen];rw[Oper.upon_value]
 go_wp2
 go_ret
 exact⟨rfl,rfl⟩
theorem ixByte_eq (c:UInt8) (l:Bytes):ixByte c l=Lib.indexByte l c:=by
 induction l with
 |nil=>rfl
 |cons b l ih=>
  have hge:=Lib.indexByte_ge l c;simp only[ixByte,Lib.indexByte];split
  ·rfl
  ·rw[ih]
   cases hx:Lib.indexByte l c with
   |ofNat n=>
    have:¬((Int.ofNat n== -1)=true):=by simp
    rw[if_neg this];rfl
   |negSucc n=>
    rw[hx] at hge;have:n=0:=by omega
    subst this;rfl
section
variable {h:AHeap}
theorem prim376 (n:Nat) (args:List AVal) (r:AVal) (h':AHeap) (hrun:IT.step (afun cx) (IT.run (afun cx) n) (pCount args) h=some (.ret,[r],h')):
  (∃fn c,cx.P.funcs[realOf 240]?=some fn∧(fn.name== "runtime.NumGoroutine")=false∧fn.body=some c)∧
  ∀(γ:Gh) (w:World) (cargs:Array Value),Inv γ h w→(∀g cs,cx.glob g=some cs→VRelM γ cs g 0)→VRelV γ args cargs.toList→
   Calls cx.P (realOf 240) cargs w λe w'=>match e with
    | .returned v=>∃γ',Inv γ' h' w'∧Acc γ w γ' w'∧VRel γ' r v∧(cx.ownRet 240=true→∃s c,OwnT γ' w.heap.size w' s c v r)
    |_=>False:=by
 refine⟨⟨_,_,Proofs.Tryz.func240,rfl,rfl⟩,λγ w cargs hi hg ha=>?_⟩;unfold pCount at hrun;split at hrun
 ·rename_i s c;simp only[IT.step] at hrun
  cases hrun
  obtain⟨v1,us1,hcg,hv1,v2,us2,rfl,hv2,hnil⟩:=ha
  cases hnil
  cases hv1
  cases hv2
  have hcargs:cargs=#[.string ⟨⟨s⟩⟩,.string ⟨#[c]⟩]:=by apply Array.ext';simpa using hcg
  subst hcargs;refine(cnt376 ⟨⟨s⟩⟩ c w).mono λe w' he=>?_;obtain⟨rfl,rfl⟩:=he;exact⟨γ,hi,.refl _ _,rfl,λe=>by cases e⟩
 ·cases hrun
theorem prim381 (n:Nat) (args:List AVal) (r:AVal) (h':AHeap) (hrun:IT.step (afun cx) (IT.run (afun cx) n) (pIndexByte args) h=some (.ret,[r],h')):
  (∃fn c,cx.P.funcs[realOf 148]?=some fn∧(fn.name== "runtime.NumGoroutine")=false∧fn.body=some c)∧
  ∀(γ:Gh) (w:World) (cargs:Array Value),Inv γ h w→(∀g cs,cx.glob g=some cs→VRelM γ cs g 0)→VRelV γ args cargs.toList→
   Calls cx.P (realOf 148) cargs w λe w'=>match e with
    | .returned v=>∃γ',Inv γ' h' w'∧Acc γ w γ' w'∧VRel γ' r v∧(cx.ownRet 148=true→∃s c,OwnT γ' w.heap.size w' s c v r)
    |_=>False:=by
 refine⟨⟨_,_,Proofs.Tryz.func148,rfl,rfl⟩,λγ w cargs hi hg ha=>?_⟩;unfold pIndexByte at hrun;split at hrun
 ·rename_i s c;simp only[IT.step] at hrun
  cases hrun
  obtain⟨v1,us1,hcg,hv1,v2,us2,rfl,hv2,hnil⟩:=ha
  cases hnil
  cases hv1
  cases hv2
  have hcargs:cargs=#[.string ⟨⟨s⟩⟩,.int .u8 c]:=by apply Array.ext';simpa using hcg
  subst hcargs;refine(ixb381 ⟨⟨s⟩⟩ c w).mono λe w' he=>?_;obtain⟨rfl,rfl⟩:=he;exact⟨γ,hi,.refl _ _,by rw[ixByte_eq];rfl,λe=>by cases e⟩
 ·cases hrun
end
end Go.Am
