/-
  The categories of names (functions of the stack): what each returns. No law is claimed here.
-/
import Derived.Test.YtejpjabbdkpmiaaDoorAm32
import Derived.Test.YtejpjabbdkpmiaaDoorKnown
import Derived.KernelRfl
set_option linter.unusedSimpArgs false
set_option linter.unusedVariables false
namespace Go.Am
open Go
set_option maxRecDepth 100000
def formattings : List Bytes := [[97], [98], [98,105,103], [99,111,100,101], [101,109], [102,111,110,116], [105], [110,111,98,114], [115], [115,109,97,108,108], [115,116,114,105,107,101], [115,116,114,111,110,103], [116,116], [117]]
def voids : List Bytes := [[97,114,101,97], [98,97,115,101], [98,97,115,101,102,111,110,116], [98,103,115,111,117,110,100], [98,114], [99,111,108], [101,109,98,101,100], [102,114,97,109,101], [104,114], [105,109,103], [105,110,112,117,116], [107,101,121,103,101,110], [108,105,110,107], [109,101,116,97], [112,97,114,97,109], [115,111,117,114,99,101], [116,114,97,99,107], [119,98,114]]
def implieds : List Bytes := [[100,100], [100,116], [108,105], [111,112,116,103,114,111,117,112], [111,112,116,105,111,110], [112], [114,98], [114,112], [114,116], [114,116,99]]
def thoroughs : List Bytes := [[99,97,112,116,105,111,110], [99,111,108,103,114,111,117,112], [116,98,111,100,121], [116,100], [116,102,111,111,116], [116,104], [116,104,101,97,100], [116,114]]
def mathPoints : List Bytes := [[109,105], [109,110], [109,111], [109,115], [109,116,101,120,116]]
def svgPoints : List Bytes := [[100,101,115,99], [102,111,114,101,105,103,110,79,98,106,101,99,116], [116,105,116,108,101]]
def specials : List Bytes := [[97,100,100,114,101,115,115], [97,112,112,108,101,116], [97,114,101,97], [97,114,116,105,99,108,101], [97,115,105,100,101], [98,97,115,101], [98,97,115,101,102,111,110,116], [98,103,115,111,117,110,100], [98,108,111,99,107,113,117,111,116,101], [98,111,100,121], [98,114], [98,117,116,116,111,110], [99,97,112,116,105,111,110], [99,101,110,116,101,114], [99,111,108], [99,111,108,103,114,111,117,112], [100,100], [100,101,116,97,105,108,115], [100,105,114], [100,105,118], [100,108], [100,116], [101,109,98,101,100], [102,105,101,108,100,115,101,116], [102,105,103,99,97,112,116,105,111,110], [102,105,103,117,114,101], [102,111,111,116,101,114], [102,111,114,109], [102,114,97,109,101], [102,114,97,109,101,115,101,116], [104,49], [104,50], [104,51], [104,52], [104,53], [104,54], [104,101,97,100], [104,101,97,100,101,114], [104,103,114,111,117,112], [104,114], [104,116,109,108], [105,102,114,97,109,101], [105,109,103], [105,110,112,117,116], [107,101,121,103,101,110], [108,105], [108,105,110,107], [108,105,115,116,105,110,103], [109,97,105,110], [109,97,114,113,117,101,101], [109,101,110,117], [109,101,116,97], [110,97,118], [110,111,101,109,98,101,100], [110,111,102,114,97,109,101,115], [110,111,115,99,114,105,112,116], [111,98,106,101,99,116], [111,108], [112], [112,97,114,97,109], [112,108,97,105,110,116,101,120,116], [112,114,101], [115,99,114,105,112,116], [115,101,97,114,99,104], [115,101,99,116,105,111,110], [115,101,108,101,99,116], [115,111,117,114,99,101], [115,116,121,108,101], [115,117,109,109,97,114,121], [116,97,98,108,101], [116,98,111,100,121], [116,100], [116,101,109,112,108,97,116,101], [116,101,120,116,97,114,101,97], [116,102,111,111,116], [116,104], [116,104,101,97,100], [116,105,116,108,101], [116,114], [116,114,97,99,107], [117,108], [119,98,114], [120,109,112]]
def breakouts : List Bytes := [[98,114], [112], [98], [98,105,103], [98,108,111,99,107,113,117,111,116,101], [98,111,100,121], [98,114], [99,101,110,116,101,114], [99,111,100,101], [100,100], [100,105,118], [100,108], [100,116], [101,109], [101,109,98,101,100], [104,49], [104,50], [104,51], [104,52], [104,53], [104,54], [104,101,97,100], [104,114], [105], [105,109,103], [108,105], [108,105,115,116,105,110,103], [109,101,110,117], [109,101,116,97], [110,111,98,114], [111,108], [112], [112,114,101], [114,117,98,121], [115], [115,109,97,108,108], [115,112,97,110], [115,116,114,105,107,101], [115,116,114,111,110,103], [115,117,98], [115,117,112], [116,97,98,108,101], [116,116], [117], [117,108], [118,97,114], [102,111,110,116]]

def headings : List Bytes := [[104,49], [104,50], [104,51], [104,52], [104,53], [104,54]]
def isSpecial (k : Int) (s : Bytes) : Bool :=
  if k = 3 then decide (s = [97,110,110,111,116,97,116,105,111,110,45,120,109,108] ∨ s ∈ mathPoints) else if k = 2 then decide (s ∈ svgPoints) else if k = 1 then decide (s ∈ specials) else false

/-- A switch over words. -/
def sw (s : Bytes) (t e : IT) : List Bytes → IT
  | [] => e
  | c :: cs => .op (.str .eql) [.str s, .str c] fun v => .cnd v t (sw s t e cs)

theorem W_sw {C : Ctx} {Q : Post} {h : AHeap} {s : Bytes} {t e : IT} : ∀ {cs : List Bytes}, W C (sw s t e cs) Q h ↔ (s ∈ cs → W C t Q h) ∧ (s ∉ cs → W C e Q h)
  | [] => by simp [sw]
  | c :: cs => by
    simp only [sw, W_op_iff, pe_seql, opW_some, W_cnd_iff, cndW_dec, List.mem_cons, not_or]
    rw [W_sw]
    by_cases hc : s = c
    · simp [hc]
    · simp [hc]

theorem wout {C : Ctx} {f : FuncId} {args : List AVal} {r : AVal} : PRet C f args r ↔ W C (afun C f args) (fun x vs _ => x = .ret ∧ vs = [r]) [] := by
  unfold PRet Ev
  constructor
  · exact fun h => W.mono h fun _ _ _ ⟨h1, r, h2, h3⟩ => ⟨h1, by rw [h2, h3]⟩
  · exact fun h => W.mono h fun _ _ _ ⟨h1, h2⟩ => ⟨h1, r, h2, rfl⟩

@[simp] theorem known_iff {Q : Post} {h : AHeap} {k : AVal → IT} : W cx (.pcall 23 [] k) Q h ↔ W cx (k (.bool true)) Q h := PRet.pcall run_known rfl rfl

theorem f55 (s : Bytes) : PRet cx 55 [.str s] (.bool (decide (s ∈ formattings))) := by
  rw [wout, t55_eq]
  rw [show t55 (.str s) = sw s (.ret .ret [tt]) (.ret .ret [ff]) formattings from rfl, W_sw]
  exact ⟨fun h => by simp [h], fun h => by simp [h]⟩
theorem f57 (s : Bytes) : PRet cx 57 [.str s] (.bool (decide (s ∈ voids))) := by
  rw [wout, t57_eq]
  rw [show t57 (.str s) = sw s (.ret .ret [tt]) (.ret .ret [ff]) voids from rfl, W_sw]
  exact ⟨fun h => by simp [h], fun h => by simp [h]⟩
theorem f36 (s : Bytes) : PRet cx 36 [.str s] (.bool (decide (s ∈ implieds))) := by
  rw [wout, t36_eq]
  rw [show t36 (.str s) = sw s (.ret .ret [tt]) (.ret .ret [ff]) implieds from rfl, W_sw]
  exact ⟨fun h => by simp [h], fun h => by simp [h]⟩
section
variable {Q : Post} {h : AHeap} {k : AVal → IT} {s : Bytes}
@[simp] theorem f55_iff : W cx (.pcall 55 [.str s] k) Q h ↔ W cx (k (.bool (decide (s ∈ formattings)))) Q h := (f55 s).pcall rfl rfl
@[simp] theorem f57_iff : W cx (.pcall 57 [.str s] k) Q h ↔ W cx (k (.bool (decide (s ∈ voids)))) Q h := (f57 s).pcall rfl rfl
@[simp] theorem f36_iff : W cx (.pcall 36 [.str s] k) Q h ↔ W cx (k (.bool (decide (s ∈ implieds)))) Q h := (f36 s).pcall rfl rfl
end
theorem f62 (s : Bytes) : PRet cx 62 [.str s] (.bool (decide (s ∈ thoroughs ∨ s ∈ implieds))) := by
  rw [wout, t62_eq]
  rw [show t62 (.str s) = sw s (.ret .ret [tt]) (.pcall 36 [.str s] fun v => .ret .ret [v]) thoroughs from rfl, W_sw]
  exact ⟨fun h => by simp [h], fun h => by simp [h]⟩
theorem f44 (n : Int) (s : Bytes) : PRet cx 44 [.int .i64 n, .str s] (.bool (decide (n = 3 ∧ s ∈ mathPoints))) := by
  rw [wout, t44_eq, t44]
  by_cases h : n = 3
  · simp [h, mathPoints]
    by_cases h1 : s = [109, 105] <;> by_cases h2 : s = [109, 110] <;> by_cases h3 : s = [109, 111] <;> by_cases h4 : s = [109, 115] <;> simp [h1, h2, h3, h4]
  · simp [h]
theorem f59 (s : Bytes) : PRet cx 59 [.str s] (.bool (decide (s ∈ headings))) := by
  rw [wout, t59_eq, t59]
  match s with
  | [] => simp [headings]
  | [a] => simp [headings]
  | [a, b] =>
    have e : decide ([a, b] ∈ headings) = decide (a.toNat = 104 ∧ 49 ≤ b.toNat ∧ b.toNat ≤ 54) := by
      simp only [headings, List.mem_cons, List.not_mem_nil, or_false, List.cons.injEq, and_true, ← UInt8.toNat_inj]
      have e1 : UInt8.toNat 104 = 104 ∧ UInt8.toNat 49 = 49 ∧ UInt8.toNat 50 = 50 ∧ UInt8.toNat 51 = 51 ∧ UInt8.toNat 52 = 52 ∧ UInt8.toNat 53 = 53 ∧ UInt8.toNat 54 = 54 := by decide
      simp only [e1]
      rw [decide_eq_decide]
      omega
    rw [e]
    have i1 : ((a.toNat : Int) = 104) ↔ a.toNat = 104 := by omega
    have i2 : ((49 : Int) ≤ b.toNat) ↔ 49 ≤ b.toNat := by omega
    have i3 : ((b.toNat : Int) ≤ 54) ↔ b.toNat ≤ 54 := by omega
    have i4 : ((b.toNat : Int) < 49) ↔ b.toNat < 49 := by omega
    simp [i1, i2, i3, i4]
    by_cases h1 : a.toNat = 104 <;> by_cases h2 : 49 ≤ b.toNat <;> by_cases h3 : b.toNat ≤ 54 <;> simp [h1, h2, h3] <;> omega
  | a :: b :: c :: l => simp [headings]; omega
section
variable {Q : Post} {h : AHeap} {k : AVal → IT} {s : Bytes} {n : Int}
@[simp] theorem f62_iff : W cx (.pcall 62 [.str s] k) Q h ↔ W cx (k (.bool (decide (s ∈ thoroughs ∨ s ∈ implieds)))) Q h := (f62 s).pcall rfl rfl
@[simp] theorem f44_iff : W cx (.pcall 44 [.int .i64 n, .str s] k) Q h ↔ W cx (k (.bool (decide (n = 3 ∧ s ∈ mathPoints)))) Q h := (f44 n s).pcall rfl rfl
@[simp] theorem f59_iff : W cx (.pcall 59 [.str s] k) Q h ↔ W cx (k (.bool (decide (s ∈ headings)))) Q h := (f59 s).pcall rfl rfl
end
theorem f42 (n : Int) (s : Bytes) : PRet cx 42 [.int .i64 n, .str s] (.bool (isSpecial n s)) := by
  rw [wout, t42_eq]
  rw [show t42 (.int .i64 n) (.str s) = .op (.int .eql) [.int .i64 n, I 3] fun v => .cnd v (.op (.str .eql) [.str s, S [97,110,110,111,116,97,116,105,111,110,45,120,109,108]] fun v => .cnd v (.ret .ret [tt]) (.pcall 44 [.int .i64 n, .str s] fun v => .ret .ret [v]))
    (.op (.int .eql) [.int .i64 n, I 2] fun v => .cnd v (sw s (.ret .ret [tt]) (.op (.str .eql) [.str s, S [116,105,116,108,101]] fun v => .ret .ret [v]) [[100,101,115,99], [102,111,114,101,105,103,110,79,98,106,101,99,116]])
    (.op (.int .eql) [.int .i64 n, I 1] fun v => .cnd v (sw s (.ret .ret [tt]) (.ret .ret [ff]) specials) (.ret .ret [ff]))) from rfl]
  by_cases h3 : n = 3
  · by_cases h : s = [97,110,110,111,116,97,116,105,111,110,45,120,109,108] <;> simp [h3, isSpecial, h]
  · by_cases h2 : n = 2
    · by_cases ha : s = [100,101,115,99] <;> by_cases hb : s = [102,111,114,101,105,103,110,79,98,106,101,99,116] <;> simp [h2, W_sw, isSpecial, svgPoints, ha, hb]
    · by_cases h1 : n = 1
      · by_cases h : s ∈ specials <;> simp [h1, W_sw, isSpecial, h]
      · simp [h3, h2, h1, isSpecial]
section
variable {Q : Post} {h : AHeap} {k : AVal → IT} {s : Bytes} {n : Int}
@[simp] theorem f42_iff : W cx (.pcall 42 [.int .i64 n, .str s] k) Q h ↔ W cx (k (.bool (isSpecial n s))) Q h := (f42 n s).pcall rfl rfl
end
end Go.Am
