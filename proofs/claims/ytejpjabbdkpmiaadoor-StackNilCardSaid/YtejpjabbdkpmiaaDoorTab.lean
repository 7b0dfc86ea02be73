/-
  The table of the functions' trees, for closed runs by the kernel. Written by a program. No law is claimed here.
-/
import Derived.Test.YtejpjabbdkpmiaaDoorTrees1
import Derived.Test.YtejpjabbdkpmiaaDoorTrees2
import Derived.Test.YtejpjabbdkpmiaaDoorTrees3
import Derived.Test.YtejpjabbdkpmiaaDoorTrees4
import Derived.KernelRfl
set_option linter.unusedSimpArgs false
set_option linter.unusedVariables false
namespace Go.Am
open Go

abbrev Ent := List AVal → Option IT
def ent0 (g : IT) : Ent := fun l => match l with
  | [] => some (g )
  | _ => none
def ent1 (g : AVal → IT) : Ent := fun l => match l with
  | [a0] => some (g a0)
  | _ => none
def ent2 (g : AVal → AVal → IT) : Ent := fun l => match l with
  | [a0, a1] => some (g a0 a1)
  | _ => none
def ent3 (g : AVal → AVal → AVal → IT) : Ent := fun l => match l with
  | [a0, a1, a2] => some (g a0 a1 a2)
  | _ => none
def ent4 (g : AVal → AVal → AVal → AVal → IT) : Ent := fun l => match l with
  | [a0, a1, a2, a3] => some (g a0 a1 a2 a3)
  | _ => none
def EntOk (f : Nat) (g : Ent) : Prop := ∀ l t, g l = some t → t = afun cx f l
theorem entOk0 {f : Nat} {g : IT} (h : afun cx f [] = g ) : EntOk f (ent0 g) := by
  intro l t ht
  unfold ent0 at ht
  split at ht
  · cases ht; exact (h).symm
  · cases ht
theorem entOk1 {f : Nat} {g : AVal → IT} (h : ∀ a0, afun cx f [a0] = g a0) : EntOk f (ent1 g) := by
  intro l t ht
  unfold ent1 at ht
  split at ht
  · cases ht; exact (h _).symm
  · cases ht
theorem entOk2 {f : Nat} {g : AVal → AVal → IT} (h : ∀ a0 a1, afun cx f [a0, a1] = g a0 a1) : EntOk f (ent2 g) := by
  intro l t ht
  unfold ent2 at ht
  split at ht
  · cases ht; exact (h _ _).symm
  · cases ht
theorem entOk3 {f : Nat} {g : AVal → AVal → AVal → IT} (h : ∀ a0 a1 a2, afun cx f [a0, a1, a2] = g a0 a1 a2) : EntOk f (ent3 g) := by
  intro l t ht
  unfold ent3 at ht
  split at ht
  · cases ht; exact (h _ _ _).symm
  · cases ht
theorem entOk4 {f : Nat} {g : AVal → AVal → AVal → AVal → IT} (h : ∀ a0 a1 a2 a3, afun cx f [a0, a1, a2, a3] = g a0 a1 a2 a3) : EntOk f (ent4 g) := by
  intro l t ht
  unfold ent4 at ht
  split at ht
  · cases ht; exact (h _ _ _ _).symm
  · cases ht
def table : List (Nat × Ent) := [(2, ent0 t2), (3, ent4 t3), (4, ent2 t4), (5, ent3 t5), (6, ent3 t6), (7, ent4 t7), (8, ent1 t8), (9, ent1 t9), (10, ent1 t10), (11, ent3 t11), (12, ent2 t12), (13, ent1 t13), (14, ent3 t14), (15, ent1 t15), (16, ent2 t16), (17, ent3 t17), (18, ent1 t18), (19, ent2 t19), (20, ent2 t20), (21, ent1 t21), (22, ent1 t22), (23, ent0 t23), (24, ent1 t24), (25, ent3 t25), (26, ent3 t26), (27, ent3 t27), (28, ent3 t28), (29, ent2 t29), (30, ent2 t30), (31, ent2 t31), (32, ent1 t32), (33, ent1 t33), (34, ent1 t34), (35, ent2 t35), (36, ent1 t36), (37, ent2 t37), (38, ent1 t38), (39, ent2 t39), (40, ent2 t40), (41, ent1 t41), (42, ent2 t42), (43, ent2 t43), (44, ent2 t44), (45, ent2 t45), (46, ent3 t46), (47, ent3 t47), (48, ent2 t48), (49, ent2 t49), (50, ent2 t50), (51, ent2 t51), (52, ent2 t52), (53, ent1 t53), (54, ent1 t54), (55, ent1 t55), (56, ent1 t56), (57, ent1 t57), (58, ent1 t58), (59, ent1 t59), (60, ent1 t60), (61, ent1 t61), (62, ent1 t62), (63, ent1 t63), (64, ent1 t64), (65, ent1 t65), (66, ent3 t66), (67, ent2 t67), (68, ent1 t68), (69, ent3 t69), (70, ent2 t70), (71, ent2 t71), (72, ent3 t72), (73, ent3 t73), (74, ent2 t74), (75, ent1 t75), (76, ent1 t76), (77, ent1 t77), (78, ent2 t78), (79, ent2 t79), (80, ent2 t80), (81, ent2 t81), (82, ent2 t82), (83, ent2 t83), (84, ent2 t84), (85, ent2 t85), (86, ent2 t86), (87, ent2 t87), (88, ent1 t88), (89, ent2 t89), (90, ent2 t90), (91, ent1 t91), (92, ent2 t92), (93, ent1 t93), (94, ent1 t94), (95, ent1 t95), (96, ent3 t96), (97, ent2 t97), (98, ent2 t98), (99, ent3 t99), (100, ent2 t100), (101, ent3 t101), (102, ent2 t102), (103, ent1 t103), (104, ent2 t104), (105, ent2 t105), (106, ent2 t106), (107, ent2 t107), (108, ent2 t108), (109, ent2 t109), (110, ent2 t110), (111, ent1 t111), (112, ent2 t112), (113, ent1 t113), (114, ent2 t114), (115, ent1 t115), (116, ent2 t116), (117, ent2 t117), (118, ent1 t118), (119, ent3 t119), (120, ent2 t120), (121, ent1 t121), (122, ent2 t122), (123, ent2 t123), (124, ent3 t124), (125, ent1 t125), (126, ent1 t126), (127, ent2 t127), (128, ent2 t128), (129, ent2 t129), (130, ent2 t130), (131, ent2 t131), (132, ent1 t132), (133, ent2 t133), (134, ent2 t134), (135, ent3 t135), (136, ent1 t136), (137, ent2 t137), (138, ent3 t138), (139, ent1 t139), (140, ent2 t140), (141, ent1 t141), (142, ent2 t142), (143, ent2 t143), (144, ent1 t144), (145, ent1 t145), (146, ent2 t146), (147, ent2 t147), (148, ent3 t148), (149, ent2 t149), (150, ent2 t150), (151, ent3 t151), (152, ent3 t152), (153, ent1 t153), (154, ent3 t154), (155, ent2 t155), (156, ent2 t156), (157, ent2 t157), (158, ent1 t158), (159, ent1 t159), (160, ent1 t160), (161, ent2 t161), (162, ent2 t162), (163, ent2 t163), (164, ent1 t164), (165, ent2 t165), (166, ent2 t166), (167, ent1 t167), (168, ent2 t168), (169, ent1 t169), (170, ent2 t170), (171, ent1 t171), (172, ent1 t172), (173, ent2 t173), (174, ent2 t174), (175, ent1 t175), (176, ent2 t176), (177, ent1 t177), (178, ent2 t178), (179, ent2 t179), (180, ent2 t180), (181, ent3 t181), (182, ent2 t182), (183, ent2 t183), (207, ent0 t207)]
def AllOk : List (Nat × Ent) → Prop
  | [] => True
  | (f, g) :: l => EntOk f g ∧ AllOk l
theorem table_ok : AllOk table :=
  ⟨entOk0 t2_eq, entOk4 t3_eq, entOk2 t4_eq, entOk3 t5_eq, entOk3 t6_eq, entOk4 t7_eq, entOk1 t8_eq, entOk1 t9_eq, entOk1 t10_eq, entOk3 t11_eq, entOk2 t12_eq, entOk1 t13_eq, entOk3 t14_eq, entOk1 t15_eq, entOk2 t16_eq, entOk3 t17_eq, entOk1 t18_eq, entOk2 t19_eq, entOk2 t20_eq, entOk1 t21_eq, entOk1 t22_eq, entOk0 t23_eq, entOk1 t24_eq, entOk3 t25_eq, entOk3 t26_eq, entOk3 t27_eq, entOk3 t28_eq, entOk2 t29_eq, entOk2 t30_eq, entOk2 t31_eq, entOk1 t32_eq, entOk1 t33_eq, entOk1 t34_eq, entOk2 t35_eq, entOk1 t36_eq, entOk2 t37_eq, entOk1 t38_eq, entOk2 t39_eq, entOk2 t40_eq, entOk1 t41_eq, entOk2 t42_eq, entOk2 t43_eq, entOk2 t44_eq, entOk2 t45_eq, entOk3 t46_eq, entOk3 t47_eq, entOk2 t48_eq, entOk2 t49_eq, entOk2 t50_eq, entOk2 t51_eq, entOk2 t52_eq, entOk1 t53_eq, entOk1 t54_eq, entOk1 t55_eq, entOk1 t56_eq, entOk1 t57_eq, entOk1 t58_eq, entOk1 t59_eq, entOk1 t60_eq, entOk1 t61_eq, entOk1 t62_eq, entOk1 t63_eq, entOk1 t64_eq, entOk1 t65_eq, entOk3 t66_eq, entOk2 t67_eq, entOk1 t68_eq, entOk3 t69_eq, entOk2 t70_eq, entOk2 t71_eq, entOk3 t72_eq, entOk3 t73_eq, entOk2 t74_eq, entOk1 t75_eq, entOk1 t76_eq, entOk1 t77_eq, entOk2 t78_eq, entOk2 t79_eq, entOk2 t80_eq, entOk2 t81_eq, entOk2 t82_eq, entOk2 t83_eq, entOk2 t84_eq, entOk2 t85_eq, entOk2 t86_eq, entOk2 t87_eq, entOk1 t88_eq, entOk2 t89_eq, entOk2 t90_eq, entOk1 t91_eq, entOk2 t92_eq, entOk1 t93_eq, entOk1 t94_eq, entOk1 t95_eq, entOk3 t96_eq, entOk2 t97_eq, entOk2 t98_eq, entOk3 t99_eq, entOk2 t100_eq, entOk3 t101_eq, entOk2 t102_eq, entOk1 t103_eq, entOk2 t104_eq, entOk2 t105_eq, entOk2 t106_eq, entOk2 t107_eq, entOk2 t108_eq, entOk2 t109_eq, entOk2 t110_eq, entOk1 t111_eq, entOk2 t112_eq, entOk1 t113_eq, entOk2 t114_eq, entOk1 t115_eq, entOk2 t116_eq, entOk2 t117_eq, entOk1 t118_eq, entOk3 t119_eq, entOk2 t120_eq, entOk1 t121_eq, entOk2 t122_eq, entOk2 t123_eq, entOk3 t124_eq, entOk1 t125_eq, entOk1 t126_eq, entOk2 t127_eq, entOk2 t128_eq, entOk2 t129_eq, entOk2 t130_eq, entOk2 t131_eq, entOk1 t132_eq, entOk2 t133_eq, entOk2 t134_eq, entOk3 t135_eq, entOk1 t136_eq, entOk2 t137_eq, entOk3 t138_eq, entOk1 t139_eq, entOk2 t140_eq, entOk1 t141_eq, entOk2 t142_eq, entOk2 t143_eq, entOk1 t144_eq, entOk1 t145_eq, entOk2 t146_eq, entOk2 t147_eq, entOk3 t148_eq, entOk2 t149_eq, entOk2 t150_eq, entOk3 t151_eq, entOk3 t152_eq, entOk1 t153_eq, entOk3 t154_eq, entOk2 t155_eq, entOk2 t156_eq, entOk2 t157_eq, entOk1 t158_eq, entOk1 t159_eq, entOk1 t160_eq, entOk2 t161_eq, entOk2 t162_eq, entOk2 t163_eq, entOk1 t164_eq, entOk2 t165_eq, entOk2 t166_eq, entOk1 t167_eq, entOk2 t168_eq, entOk1 t169_eq, entOk2 t170_eq, entOk1 t171_eq, entOk1 t172_eq, entOk2 t173_eq, entOk2 t174_eq, entOk1 t175_eq, entOk2 t176_eq, entOk1 t177_eq, entOk2 t178_eq, entOk2 t179_eq, entOk2 t180_eq, entOk3 t181_eq, entOk2 t182_eq, entOk2 t183_eq, entOk0 t207_eq, trivial⟩
def look (f : Nat) : List (Nat × Ent) → List AVal → Option IT
  | [], _ => none
  | (k, g) :: l, args => if Nat.beq k f then g args else look f l args

theorem look_ok {f : Nat} {args : List AVal} {t : IT} : ∀ {l : List (Nat × Ent)}, AllOk l → look f l args = some t → t = afun cx f args
  | [], _, h => by cases h
  | (k, g) :: l, ha, h => by
    simp only [look] at h
    split at h
    · rename_i hk
      have hk : k = f := Nat.eq_of_beq_eq_true hk
      subst hk
      exact ha.1 _ _ h
    · exact look_ok ha.2 h

/-- The functions' trees, looked up; a function that is not in the table: as it is. -/
noncomputable def tab (f : FuncId) (args : List AVal) : IT := match look f table args with
  | some t => t
  | none => afun cx f args

theorem tab_eq : tab = afun cx := by
  funext f args
  unfold tab
  split
  · rename_i t h; exact look_ok table_ok h
  · rfl

def saysTrue : Option Res → Bool
  | some (.ret, [.bool true], _) => true
  | _ => false

theorem saysTrue_spec {r : Option Res} (h : saysTrue r = true) : ∃ h', r = some (.ret, [.bool true], h') := by
  unfold saysTrue at h
  split at h
  · exact ⟨_, rfl⟩
  · cases h

/-- A closed run by the kernel. -/
theorem Ev_of_tab {f : FuncId} {args : List AVal} {h : AHeap} (n : Nat) (hr : saysTrue (IT.run tab n (tab f args) h) = true) : Ev cx f args h fun r _ => r = .bool true := by
  obtain ⟨h', e⟩ := saysTrue_spec hr
  rw [tab_eq] at e
  exact ⟨n, _, _, _, e, rfl, _, rfl, rfl⟩
end Go.Am
