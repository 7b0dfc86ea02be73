/- Lemmas -/
import Derived.Test.YtjboelmdplaenaaGreatDoorQ17
import Derived.Shelf.SlMaps.Clone
set_option linter.unusedVariables false
set_option linter.unusedSimpArgs false
namespace Go.Proofs
open Go.Shelf
def Tryz.cloM_ren:Go.Shelf.Ren:=⟨λ|5=>30|7=>74|n=>n,λ|23=>58|25=>3|n=>n,λn=>n⟩
theorem Tryz.cloM:SlLaysW.n5 Tryz.prog Tryz.cloM_ren:={
 mixed:=by kernel_rfl
 f5:=⟨ "maps.Clone[map[int]int,int,int]",by decide,Tryz.func30.trans (congrArg some (by kernel_rfl))⟩
 f7:=Tryz.func74.trans (congrArg some (by kernel_rfl))
 t4:=Tryz.underlying4
 a4:=Tryz.isAgg4
 z4:=Tryz.sizeOf4
 v4:=Tryz.zeroValue4
 t20:=Tryz.underlying20
 a20:=Tryz.isAgg20
 z20:=Tryz.sizeOf20
 v20:=Tryz.zeroValue20
 t23:=Tryz.underlying58
 a23:=Tryz.isAgg58
 z23:=Tryz.sizeOf58
 v23:=Tryz.zeroValue58}
end Go.Proofs
namespace Go.Am
open Go Go.RowKit Go.Shelf Go.Maps
section
variable {h:AHeap}
theorem prim628 (n:Nat) (args:List AVal) (r:AVal) (h':AHeap) (hrun:IT.step (afun cx) (IT.run (afun cx) n) (pMapClone args) h=some (.ret,[r],h')):
  (∃fn c,cx.P.funcs[realOf 30]?=some fn∧(fn.name== "runtime.NumGoroutine")=false∧fn.body=some c)∧
  ∀(γ:Gh) (w:World) (cargs:Array Value),Inv γ h w→(∀g cs,cx.glob g=some cs→VRelM γ cs g 0)→VRelV γ args cargs.toList→
   Calls cx.P (realOf 30) cargs w λe w'=>match e with
    | .returned v=>∃γ',Inv γ' h' w'∧Acc γ w γ' w'∧VRel γ' r v∧(cx.ownRet 30=true→∃s c,OwnT γ' w.heap.size w' s c v r)
    |_=>False:=by
 refine⟨⟨_,_,Proofs.Tryz.func30,rfl,rfl⟩,λγ w cargs hi hg ha=>?_⟩;simp only[pMapClone,IT.step,meval] at hrun
 cases e0:gMapClone h args with
 |none=>simp[e0] at hrun
 |some R0=>
 obtain⟨h1,r1⟩:=R0;simp only[e0] at hrun
 cases hrun
 unfold gMapClone at e0;split at e0
 ·cases e0
  obtain⟨v1,us1,hcg,hv1,hnil⟩:=ha
  cases hnil
  cases hv1
  have hcargs:cargs=#[.map none]:=by apply Array.ext';simpa using hcg
  subst hcargs;refine(Proofs.AnyW.maps_Clone_nil Proofs.Tryz.cloM w).mono λe w' he=>?_;obtain⟨rfl,rfl⟩:=he;exact⟨γ,hi,.refl _ _,rfl,λe=>by cases e⟩
 ·rename_i id;split at e0
  ·rename_i es hes
   cases e0
   obtain⟨v1,us1,hcg,⟨b,hb,rfl⟩,hnil⟩:=ha
   cases hnil
   have hcargs:cargs=#[.map (some b)]:=by apply Array.ext';simpa using hcg
   subst hcargs;obtain⟨ents,clock,hw,hmo⟩:=hi.map id es hes b hb;refine(Proofs.AnyW.maps_Clone Proofs.Tryz.cloM b ents clock w hw).mono λe w' he=>?_;obtain⟨rfl,rfl⟩:=he;obtain⟨hi1,ha1⟩:=alloc_object hi (.map #[] 0) (.map []) none (.inr ⟨rfl,rfl,rfl⟩);obtain⟨hi2,ha2⟩:=write_map hi1 (g:=w.heap.size) (id:=h.length) (es:=[]) (es':=es) (by simp) (by simp[Gh.object]) (World.alloc_heap_new w _) (hmo.mono ha1.le);have eh:(h++[AObj.map []]).set h.length (.map es)=h++[.map es]:=by rw[List.set_append_right _ _ (Nat.le_refl _),Nat.sub_self];rfl
   have ew:({(w.alloc (.map #[] 0)) with heap:=(w.alloc (.map #[] 0)).heap.setIfInBounds w.heap.size (.map ents clock)}:World)=w.alloc (.map ents clock):=by
    have ea:(w.heap.push (Obj.map #[] 0)).setIfInBounds w.heap.size (.map ents clock)=w.heap.push (.map ents clock):=by apply Array.ext';simp
    simp only[World.alloc,ea]
   rw[eh,ew] at hi2;rw[ew] at ha2;exact⟨_,hi2,ha1.trans ha2,⟨w.heap.size,by simp[Gh.object],rfl⟩,λe=>by cases e⟩
  ·cases e0
 ·cases e0
end
end Go.Am
