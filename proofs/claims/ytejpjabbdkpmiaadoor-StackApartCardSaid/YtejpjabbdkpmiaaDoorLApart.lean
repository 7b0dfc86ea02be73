/-
  StackApart as the abstract machine runs it: it returns true. No law is claimed here.
-/
import Derived.Test.YtejpjabbdkpmiaaDoorKinds
import Derived.Test.YtejpjabbdkpmiaaDoorAm30
namespace Go.Am
open Go
set_option maxRecDepth 100000
theorem ap1 : ∀ s ∈ formattings, s ∉ specials ∧ s ∉ voids := by decide
theorem ap2 : ∀ s ∈ headings, s ∈ specials := by decide
theorem ap3 : ∀ s ∈ voids, s ∈ specials := by decide
theorem ev_apart (s : Bytes) : Ev cx 10 [.str s] [] fun r _ => r = .bool true := by
  unfold Ev
  rw [t10_eq, t10]
  have a1 := ap1 s
  have a2 := ap2 s
  have a3 := ap3 s
  have e1 : isSpecial 1 s = decide (s ∈ specials) := rfl
  have e3 : isSpecial 3 s = decide (s = [97,110,110,111,116,97,116,105,111,110,45,120,109,108] ∨ s ∈ mathPoints) := rfl
  simp only [W_op_iff, pe_slen, opW_some, pe_gtr, W_cnd_iff, cndW_dec, known_iff, W_ret_iff, f42_iff, f55_iff, f57_iff, f59_iff, f36_iff, f62_iff, f44_iff, pe_not, e1, e3]
  by_cases h1 : s ∈ formattings <;> by_cases h2 : s ∈ specials <;> by_cases h3 : s ∈ voids <;> by_cases h4 : s ∈ headings <;> by_cases h5 : s ∈ implieds <;> by_cases h6 : s ∈ mathPoints <;> simp [h1, h2, h3, h4, h5, h6] at a1 a2 a3 ⊢
theorem all_apart : ∀ l, HasArgs [.str] l → Ev cx 10 l [] fun r _ => r = .bool true := by
  rintro _ ⟨a, b, rfl, ⟨s, h, _⟩, rfl⟩
  cases h
  exact ev_apart s
end Go.Am
