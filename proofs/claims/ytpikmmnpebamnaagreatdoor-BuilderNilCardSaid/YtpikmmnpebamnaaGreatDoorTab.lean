/-
  The table of the functions' trees, for closed runs by the kernel. Written by a program. No law is claimed here.
-/
import Derived.Test.YtpikmmnpebamnaaGreatDoorTrees1
import Derived.Test.YtpikmmnpebamnaaGreatDoorTrees2
import Derived.Test.YtpikmmnpebamnaaGreatDoorTrees3
import Derived.Test.YtpikmmnpebamnaaGreatDoorTrees4
import Derived.KernelRfl
namespace Go.Am
open Go

abbrev Ent := List AVal → Option IT
def ent0 (g : IT) : Ent := fun l => match l with
  | [] => some (g )
  | _ => none
def ent1 (g : AVal → IT) : Ent := fun l => match l with
  | [a0] => some (g a0)
  | _ => none
def ent2 (g : AVal → AVal → IT) : Ent := fun l => match l with
  | [a0, a1] => some (g a0 a1)
  | _ => none
def ent3 (g : AVal → AVal → AVal → IT) : Ent := fun l => match l with
  | [a0, a1, a2] => some (g a0 a1 a2)
  | _ => none
def ent4 (g : AVal → AVal → AVal → AVal → IT) : Ent := fun l => match l with
  | [a0, a1, a2, a3] => some (g a0 a1 a2 a3)
  | _ => none
def ent5 (g : AVal → AVal → AVal → AVal → AVal → IT) : Ent := fun l => match l with
  | [a0, a1, a2, a3, a4] => some (g a0 a1 a2 a3 a4)
  | _ => none
def EntOk (f : Nat) (g : Ent) : Prop := ∀ l t, g l = some t → t = afun cx f l
theorem entOk0 {f : Nat} {g : IT} (h : afun cx f [] = g ) : EntOk f (ent0 g) := by
  intro l t ht
  unfold ent0 at ht
  split at ht
  · cases ht; exact (h).symm
  · cases ht
theorem entOk1 {f : Nat} {g : AVal → IT} (h : ∀ a0, afun cx f [a0] = g a0) : EntOk f (ent1 g) := by
  intro l t ht
  unfold ent1 at ht
  split at ht
  · cases ht; exact (h _).symm
  · cases ht
theorem entOk2 {f : Nat} {g : AVal → AVal → IT} (h : ∀ a0 a1, afun cx f [a0, a1] = g a0 a1) : EntOk f (ent2 g) := by
  intro l t ht
  unfold ent2 at ht
  split at ht
  · cases ht; exact (h _ _).symm
  · cases ht
theorem entOk3 {f : Nat} {g : AVal → AVal → AVal → IT} (h : ∀ a0 a1 a2, afun cx f [a0, a1, a2] = g a0 a1 a2) : EntOk f (ent3 g) := by
  intro l t ht
  unfold ent3 at ht
  split at ht
  · cases ht; exact (h _ _ _).symm
  · cases ht
theorem entOk4 {f : Nat} {g : AVal → AVal → AVal → AVal → IT} (h : ∀ a0 a1 a2 a3, afun cx f [a0, a1, a2, a3] = g a0 a1 a2 a3) : EntOk f (ent4 g) := by
  intro l t ht
  unfold ent4 at ht
  split at ht
  · cases ht; exact (h _ _ _ _).symm
  · cases ht
theorem entOk5 {f : Nat} {g : AVal → AVal → AVal → AVal → AVal → IT} (h : ∀ a0 a1 a2 a3 a4, afun cx f [a0, a1, a2, a3, a4] = g a0 a1 a2 a3 a4) : EntOk f (ent5 g) := by
  intro l t ht
  unfold ent5 at ht
  split at ht
  · cases ht; exact (h _ _ _ _ _).symm
  · cases ht
def table : List (Nat × Ent) := [(3, ent2 t3), (4, ent2 t4), (5, ent2 t5), (6, ent1 t6), (7, ent0 t7), (8, ent1 t8), (9, ent1 t9), (10, ent2 t10), (11, ent1 t11), (12, ent0 t12), (13, ent2 t13), (14, ent3 t14), (15, ent2 t15), (16, ent3 t16), (17, ent1 t17), (18, ent2 t18), (19, ent1 t19), (20, ent1 t20), (21, ent2 t21), (22, ent2 t22), (23, ent3 t23), (24, ent2 t24), (25, ent2 t25), (26, ent2 t26), (27, ent2 t27), (28, ent1 t28), (29, ent1 t29), (30, ent2 t30), (31, ent2 t31), (32, ent2 t32), (33, ent2 t33), (35, ent2 t35), (37, ent2 t37), (38, ent3 t38), (39, ent2 t39), (40, ent1 t40), (41, ent2 t41), (42, ent2 t42), (43, ent2 t43), (44, ent3 t44), (45, ent4 t45), (46, ent4 t46), (47, ent2 t47), (48, ent3 t48), (49, ent2 t49), (50, ent1 t50), (51, ent1 t51), (52, ent1 t52), (53, ent1 t53), (54, ent2 t54), (55, ent3 t55), (56, ent2 t56), (57, ent1 t57), (58, ent2 t58), (59, ent2 t59), (60, ent2 t60), (61, ent3 t61), (62, ent1 t62), (63, ent1 t63), (64, ent1 t64), (65, ent1 t65), (66, ent3 t66), (67, ent3 t67), (68, ent1 t68), (69, ent1 t69), (70, ent2 t70), (71, ent1 t71), (72, ent1 t72), (73, ent1 t73), (74, ent1 t74), (75, ent1 t75), (76, ent2 t76), (77, ent2 t77), (78, ent2 t78), (79, ent2 t79), (80, ent3 t80), (81, ent3 t81), (82, ent2 t82), (83, ent2 t83), (84, ent2 t84), (87, ent2 t87), (88, ent5 t88), (89, ent4 t89), (90, ent3 t90), (91, ent1 t91), (92, ent2 t92), (93, ent1 t93), (94, ent2 t94), (95, ent1 t95), (96, ent1 t96), (97, ent2 t97), (98, ent2 t98), (99, ent1 t99), (100, ent5 t100), (101, ent2 t101), (102, ent2 t102), (103, ent2 t103), (104, ent2 t104), (105, ent4 t105), (106, ent3 t106), (107, ent2 t107), (108, ent2 t108), (109, ent1 t109), (110, ent2 t110), (111, ent2 t111), (112, ent2 t112), (113, ent3 t113), (114, ent4 t114), (115, ent1 t115), (116, ent1 t116), (117, ent2 t117), (118, ent2 t118), (119, ent3 t119), (120, ent2 t120), (121, ent2 t121), (122, ent1 t122), (123, ent1 t123), (124, ent2 t124), (125, ent1 t125), (126, ent3 t126), (127, ent1 t127), (128, ent3 t128), (129, ent1 t129), (130, ent2 t130), (131, ent2 t131), (132, ent2 t132), (133, ent2 t133), (134, ent1 t134), (135, ent2 t135), (136, ent2 t136), (137, ent3 t137), (138, ent3 t138), (139, ent2 t139), (140, ent4 t140), (141, ent3 t141), (142, ent2 t142), (143, ent3 t143), (148, ent1 t148), (149, ent1 t149), (150, ent1 t150), (151, ent1 t151), (152, ent2 t152), (153, ent2 t153), (154, ent2 t154), (155, ent4 t155), (156, ent2 t156), (157, ent1 t157), (158, ent4 t158), (159, ent2 t159), (160, ent2 t160), (161, ent1 t161), (162, ent1 t162), (163, ent2 t163), (164, ent1 t164), (165, ent1 t165), (166, ent2 t166), (167, ent2 t167), (169, ent2 t169), (171, ent2 t171), (172, ent1 t172), (173, ent2 t173), (174, ent0 t174), (175, ent2 t175), (176, ent2 t176), (177, ent2 t177), (178, ent2 t178), (179, ent3 t179), (180, ent2 t180), (181, ent2 t181), (182, ent1 t182), (183, ent2 t183), (184, ent2 t184), (185, ent1 t185), (186, ent1 t186), (187, ent2 t187), (188, ent2 t188), (189, ent2 t189), (190, ent3 t190), (191, ent2 t191), (192, ent3 t192), (193, ent3 t193), (194, ent2 t194), (202, ent4 t202), (203, ent2 t203), (204, ent2 t204), (205, ent1 t205), (206, ent2 t206), (207, ent2 t207), (208, ent1 t208), (210, ent3 t210), (213, ent1 t213), (214, ent1 t214), (215, ent3 t215), (216, ent2 t216), (217, ent1 t217), (226, ent3 t226), (227, ent2 t227), (228, ent2 t228), (229, ent2 t229), (233, ent2 t233), (234, ent1 t234), (235, ent1 t235), (236, ent2 t236), (239, ent1 t239), (241, ent2 t241), (244, ent3 t244), (247, ent1 t247), (315, ent2 t315), (100053, ent1 t100053)]
def AllOk : List (Nat × Ent) → Prop
  | [] => True
  | (f, g) :: l => EntOk f g ∧ AllOk l
theorem table_ok : AllOk table :=
  ⟨entOk2 t3_eq, entOk2 t4_eq, entOk2 t5_eq, entOk1 t6_eq, entOk0 t7_eq, entOk1 t8_eq, entOk1 t9_eq, entOk2 t10_eq, entOk1 t11_eq, entOk0 t12_eq, entOk2 t13_eq, entOk3 t14_eq, entOk2 t15_eq, entOk3 t16_eq, entOk1 t17_eq, entOk2 t18_eq, entOk1 t19_eq, entOk1 t20_eq, entOk2 t21_eq, entOk2 t22_eq, entOk3 t23_eq, entOk2 t24_eq, entOk2 t25_eq, entOk2 t26_eq, entOk2 t27_eq, entOk1 t28_eq, entOk1 t29_eq, entOk2 t30_eq, entOk2 t31_eq, entOk2 t32_eq, entOk2 t33_eq, entOk2 t35_eq, entOk2 t37_eq, entOk3 t38_eq, entOk2 t39_eq, entOk1 t40_eq, entOk2 t41_eq, entOk2 t42_eq, entOk2 t43_eq, entOk3 t44_eq, entOk4 t45_eq, entOk4 t46_eq, entOk2 t47_eq, entOk3 t48_eq, entOk2 t49_eq, entOk1 t50_eq, entOk1 t51_eq, entOk1 t52_eq, entOk1 t53_eq, entOk2 t54_eq, entOk3 t55_eq, entOk2 t56_eq, entOk1 t57_eq, entOk2 t58_eq, entOk2 t59_eq, entOk2 t60_eq, entOk3 t61_eq, entOk1 t62_eq, entOk1 t63_eq, entOk1 t64_eq, entOk1 t65_eq, entOk3 t66_eq, entOk3 t67_eq, entOk1 t68_eq, entOk1 t69_eq, entOk2 t70_eq, entOk1 t71_eq, entOk1 t72_eq, entOk1 t73_eq, entOk1 t74_eq, entOk1 t75_eq, entOk2 t76_eq, entOk2 t77_eq, entOk2 t78_eq, entOk2 t79_eq, entOk3 t80_eq, entOk3 t81_eq, entOk2 t82_eq, entOk2 t83_eq, entOk2 t84_eq, entOk2 t87_eq, entOk5 t88_eq, entOk4 t89_eq, entOk3 t90_eq, entOk1 t91_eq, entOk2 t92_eq, entOk1 t93_eq, entOk2 t94_eq, entOk1 t95_eq, entOk1 t96_eq, entOk2 t97_eq, entOk2 t98_eq, entOk1 t99_eq, entOk5 t100_eq, entOk2 t101_eq, entOk2 t102_eq, entOk2 t103_eq, entOk2 t104_eq, entOk4 t105_eq, entOk3 t106_eq, entOk2 t107_eq, entOk2 t108_eq, entOk1 t109_eq, entOk2 t110_eq, entOk2 t111_eq, entOk2 t112_eq, entOk3 t113_eq, entOk4 t114_eq, entOk1 t115_eq, entOk1 t116_eq, entOk2 t117_eq, entOk2 t118_eq, entOk3 t119_eq, entOk2 t120_eq, entOk2 t121_eq, entOk1 t122_eq, entOk1 t123_eq, entOk2 t124_eq, entOk1 t125_eq, entOk3 t126_eq, entOk1 t127_eq, entOk3 t128_eq, entOk1 t129_eq, entOk2 t130_eq, entOk2 t131_eq, entOk2 t132_eq, entOk2 t133_eq, entOk1 t134_eq, entOk2 t135_eq, entOk2 t136_eq, entOk3 t137_eq, entOk3 t138_eq, entOk2 t139_eq, entOk4 t140_eq, entOk3 t141_eq, entOk2 t142_eq, entOk3 t143_eq, entOk1 t148_eq, entOk1 t149_eq, entOk1 t150_eq, entOk1 t151_eq, entOk2 t152_eq, entOk2 t153_eq, entOk2 t154_eq, entOk4 t155_eq, entOk2 t156_eq, entOk1 t157_eq, entOk4 t158_eq, entOk2 t159_eq, entOk2 t160_eq, entOk1 t161_eq, entOk1 t162_eq, entOk2 t163_eq, entOk1 t164_eq, entOk1 t165_eq, entOk2 t166_eq, entOk2 t167_eq, entOk2 t169_eq, entOk2 t171_eq, entOk1 t172_eq, entOk2 t173_eq, entOk0 t174_eq, entOk2 t175_eq, entOk2 t176_eq, entOk2 t177_eq, entOk2 t178_eq, entOk3 t179_eq, entOk2 t180_eq, entOk2 t181_eq, entOk1 t182_eq, entOk2 t183_eq, entOk2 t184_eq, entOk1 t185_eq, entOk1 t186_eq, entOk2 t187_eq, entOk2 t188_eq, entOk2 t189_eq, entOk3 t190_eq, entOk2 t191_eq, entOk3 t192_eq, entOk3 t193_eq, entOk2 t194_eq, entOk4 t202_eq, entOk2 t203_eq, entOk2 t204_eq, entOk1 t205_eq, entOk2 t206_eq, entOk2 t207_eq, entOk1 t208_eq, entOk3 t210_eq, entOk1 t213_eq, entOk1 t214_eq, entOk3 t215_eq, entOk2 t216_eq, entOk1 t217_eq, entOk3 t226_eq, entOk2 t227_eq, entOk2 t228_eq, entOk2 t229_eq, entOk2 t233_eq, entOk1 t234_eq, entOk1 t235_eq, entOk2 t236_eq, entOk1 t239_eq, entOk2 t241_eq, entOk3 t244_eq, entOk1 t247_eq, entOk2 t315_eq, entOk1 t100053_eq, trivial⟩
def look (f : Nat) : List (Nat × Ent) → List AVal → Option IT
  | [], _ => none
  | (k, g) :: l, args => if Nat.beq k f then g args else look f l args

theorem look_ok {f : Nat} {args : List AVal} {t : IT} : ∀ {l : List (Nat × Ent)}, AllOk l → look f l args = some t → t = afun cx f args
  | [], _, h => by cases h
  | (k, g) :: l, ha, h => by
    simp only [look] at h
    split at h
    · rename_i hk
      have hk : k = f := Nat.eq_of_beq_eq_true hk
      subst hk
      exact ha.1 _ _ h
    · exact look_ok ha.2 h

/-- The functions' trees, looked up; a function that is not in the table: as it is. -/
noncomputable def tab (f : FuncId) (args : List AVal) : IT := match look f table args with
  | some t => t
  | none => afun cx f args

theorem tab_eq : tab = afun cx := by
  funext f args
  unfold tab
  split
  · rename_i t h; exact look_ok table_ok h
  · rfl

def saysTrue : Option Res → Bool
  | some (.ret, [.bool true], _) => true
  | _ => false

theorem saysTrue_spec {r : Option Res} (h : saysTrue r = true) : ∃ h', r = some (.ret, [.bool true], h') := by
  unfold saysTrue at h
  split at h
  · exact ⟨_, rfl⟩
  · cases h

/-- A closed run by the kernel. -/
theorem Ev_of_tab {f : FuncId} {args : List AVal} {h : AHeap} (n : Nat) (hr : saysTrue (IT.run tab n (tab f args) h) = true) : Ev cx f args h fun r _ => r = .bool true := by
  obtain ⟨h', e⟩ := saysTrue_spec hr
  rw [tab_eq] at e
  exact ⟨n, _, _, _, e, rfl, _, rfl, rfl⟩
end Go.Am
