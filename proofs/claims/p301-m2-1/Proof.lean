import JvmDerived
import JvmDerived.Pilot.@@N@@Statement
import JvmDerived.Pilot.@@N@@Code
set_option linter.unusedVariables false
set_option linter.unusedSimpArgs false
namespace Jvm.Pilot.@@N@@
open Jvm Jvm.ClassFile Sem Op Lib Jvm.Free Jvm.Stand Jvm.LawKit Jvm.RoadKit Bundle Jvm.Pilot.@@N@@.Jvm.D
abbrev Go (p : Program) (e : Env) (below : List Frame) (t T : State) (m : MethodId) (pc : Nat) (ls : Array Slot) (st : List Value) : Prop := Steps p.tables e below (T.setTop (mkF m pc ls st)) t
/-- from A the run comes to B -/
def Goes (p : Program) (e : Env) (below : List Frame) (A B : State) : Prop := ∀ t, Steps p.tables e below B t → Steps p.tables e below A t
abbrev dLt (x y : UInt64) : Prop := FP.dcmp x y = some .lt
abbrev dEq (x y : UInt64) : Prop := FP.dcmp x y = some .eq
abbrev dLe (x y : UInt64) : Prop := FP.dcmp x y = some .lt ∨ FP.dcmp x y = some .eq
abbrev fLt (x y : UInt32) : Prop := FP.fcmp x y = some .lt
abbrev fEq (x y : UInt32) : Prop := FP.fcmp x y = some .eq
abbrev fLe (x y : UInt32) : Prop := FP.fcmp x y = some .lt ∨ FP.fcmp x y = some .eq
theorem Sta.keepO {Z : State} {h h' : Heap} {C n d : String} {v : Value} {ws : List Addr} (F : Sta Z h C n d v) (K : Keep h h' ws) (q : ∀ x ∈ ws, ∀ cell : Cell, h[x]? = some cell → cell.vm.isStatics = false) : Sta Z h' C n d v := by
  obtain ⟨cf, i, k, f, st, cell, h1, h2, h3, h4, h5, h6, h7⟩ := F
  refine ⟨cf, i, k, f, st, cell, h1, h2, h3, h4, K.2.1 _ _ h5 fun hm => ?_, h6, h7⟩
  rw [q _ hm _ h5] at h6; cases h6
theorem own_swap (o : Option Ordering) : o.map Ordering.swap = some .lt ↔ o = some .gt := by rcases o with _ | (_ | _ | _) <;> simp [Ordering.swap]
theorem own_swapE (o : Option Ordering) : o.map Ordering.swap = some .eq ↔ o = some .eq := by rcases o with _ | (_ | _ | _) <;> simp [Ordering.swap]
theorem own_dgt (x y : UInt64) : dLt y x ↔ FP.dcmp x y = some .gt := by
  show FP.Core.dcmp y x = some .lt ↔ FP.Core.dcmp x y = some .gt
  rw [FP.Core.dcmp_swap x y]; exact own_swap _
theorem own_dge (x y : UInt64) : dLe y x ↔ (FP.dcmp x y = some .gt ∨ FP.dcmp x y = some .eq) := by
  show (FP.Core.dcmp y x = some .lt ∨ FP.Core.dcmp y x = some .eq) ↔ (FP.Core.dcmp x y = some .gt ∨ FP.Core.dcmp x y = some .eq)
  rw [FP.Core.dcmp_swap x y, own_swap, own_swapE]
theorem own_fgt (x y : UInt32) : fLt y x ↔ FP.fcmp x y = some .gt := by
  show FP.Core.fcmp y x = some .lt ↔ FP.Core.fcmp x y = some .gt
  rw [FP.Core.fcmp_swap x y]; exact own_swap _
theorem own_fge (x y : UInt32) : fLe y x ↔ (FP.fcmp x y = some .gt ∨ FP.fcmp x y = some .eq) := by
  show (FP.Core.fcmp y x = some .lt ∨ FP.Core.fcmp y x = some .eq) ↔ (FP.Core.fcmp x y = some .gt ∨ FP.Core.fcmp x y = some .eq)
  rw [FP.Core.fcmp_swap x y, own_swap, own_swapE]
theorem own_c (o : Option Ordering) :
    (o = some .lt → ifCond.holds .ge (cmpValue o .g) = false ∧ ifCond.holds .lt (cmpValue o .g) = true) ∧
    (¬ o = some .lt → ifCond.holds .ge (cmpValue o .g) = true ∧ ifCond.holds .lt (cmpValue o .g) = false) ∧
    ((o = some .lt ∨ o = some .eq) → ifCond.holds .gt (cmpValue o .g) = false ∧ ifCond.holds .le (cmpValue o .g) = true) ∧
    (¬ (o = some .lt ∨ o = some .eq) → ifCond.holds .gt (cmpValue o .g) = true ∧ ifCond.holds .le (cmpValue o .g) = false) ∧
    (o = some .gt → ifCond.holds .le (cmpValue o .l) = false ∧ ifCond.holds .gt (cmpValue o .l) = true) ∧
    (¬ o = some .gt → ifCond.holds .le (cmpValue o .l) = true ∧ ifCond.holds .gt (cmpValue o .l) = false) ∧
    ((o = some .gt ∨ o = some .eq) → ifCond.holds .lt (cmpValue o .l) = false ∧ ifCond.holds .ge (cmpValue o .l) = true) ∧
    (¬ (o = some .gt ∨ o = some .eq) → ifCond.holds .lt (cmpValue o .l) = true ∧ ifCond.holds .ge (cmpValue o .l) = false) ∧
    (o = some .eq → ∀ q, ifCond.holds .ne (cmpValue o q) = false ∧ ifCond.holds .eq (cmpValue o q) = true) ∧
    (¬ o = some .eq → ∀ q, ifCond.holds .ne (cmpValue o q) = true ∧ ifCond.holds .eq (cmpValue o q) = false) := by
  refine ⟨?_, ?_, ?_, ?_, ?_, ?_, ?_, ?_, ?_, ?_⟩ <;> rcases o with _ | (_ | _ | _) <;> first | (intro h; exact ⟨by decide, by decide⟩) | (intro h q; cases q <;> exact ⟨by decide, by decide⟩) | (intro h; simp at h; done) | (intro h; exact absurd rfl h) | (intro h; exact absurd (Or.inl rfl) h) | (intro h; exact absurd (Or.inr rfl) h)
theorem dc_g_ge_f {x y : UInt64} (h : dLt x y) : ifCond.holds .ge (cmpValue (FP.dcmp x y) .g) = false := ((own_c _).1 h).1
theorem dc_g_ge_t {x y : UInt64} (h : ¬ dLt x y) : ifCond.holds .ge (cmpValue (FP.dcmp x y) .g) = true := ((own_c _).2.1 h).1
theorem dc_g_lt_t {x y : UInt64} (h : dLt x y) : ifCond.holds .lt (cmpValue (FP.dcmp x y) .g) = true := ((own_c _).1 h).2
theorem dc_g_lt_f {x y : UInt64} (h : ¬ dLt x y) : ifCond.holds .lt (cmpValue (FP.dcmp x y) .g) = false := ((own_c _).2.1 h).2
theorem dc_g_gt_f {x y : UInt64} (h : dLe x y) : ifCond.holds .gt (cmpValue (FP.dcmp x y) .g) = false := ((own_c _).2.2.1 h).1
theorem dc_g_gt_t {x y : UInt64} (h : ¬ dLe x y) : ifCond.holds .gt (cmpValue (FP.dcmp x y) .g) = true := ((own_c _).2.2.2.1 h).1
theorem dc_g_le_t {x y : UInt64} (h : dLe x y) : ifCond.holds .le (cmpValue (FP.dcmp x y) .g) = true := ((own_c _).2.2.1 h).2
theorem dc_g_le_f {x y : UInt64} (h : ¬ dLe x y) : ifCond.holds .le (cmpValue (FP.dcmp x y) .g) = false := ((own_c _).2.2.2.1 h).2
theorem dc_l_le_f {x y : UInt64} (h : dLt y x) : ifCond.holds .le (cmpValue (FP.dcmp x y) .l) = false := ((own_c _).2.2.2.2.1 ((own_dgt x y).mp h)).1
theorem dc_l_le_t {x y : UInt64} (h : ¬ dLt y x) : ifCond.holds .le (cmpValue (FP.dcmp x y) .l) = true := ((own_c _).2.2.2.2.2.1 (fun q => h ((own_dgt x y).mpr q))).1
theorem dc_l_gt_t {x y : UInt64} (h : dLt y x) : ifCond.holds .gt (cmpValue (FP.dcmp x y) .l) = true := ((own_c _).2.2.2.2.1 ((own_dgt x y).mp h)).2
theorem dc_l_gt_f {x y : UInt64} (h : ¬ dLt y x) : ifCond.holds .gt (cmpValue (FP.dcmp x y) .l) = false := ((own_c _).2.2.2.2.2.1 (fun q => h ((own_dgt x y).mpr q))).2
theorem dc_l_lt_f {x y : UInt64} (h : dLe y x) : ifCond.holds .lt (cmpValue (FP.dcmp x y) .l) = false := ((own_c _).2.2.2.2.2.2.1 ((own_dge x y).mp h)).1
theorem dc_l_lt_t {x y : UInt64} (h : ¬ dLe y x) : ifCond.holds .lt (cmpValue (FP.dcmp x y) .l) = true := ((own_c _).2.2.2.2.2.2.2.1 (fun q => h ((own_dge x y).mpr q))).1
theorem dc_l_ge_t {x y : UInt64} (h : dLe y x) : ifCond.holds .ge (cmpValue (FP.dcmp x y) .l) = true := ((own_c _).2.2.2.2.2.2.1 ((own_dge x y).mp h)).2
theorem dc_l_ge_f {x y : UInt64} (h : ¬ dLe y x) : ifCond.holds .ge (cmpValue (FP.dcmp x y) .l) = false := ((own_c _).2.2.2.2.2.2.2.1 (fun q => h ((own_dge x y).mpr q))).2
theorem dc_l_ne_f {x y : UInt64} (h : dEq x y) : ifCond.holds .ne (cmpValue (FP.dcmp x y) .l) = false := ((own_c _).2.2.2.2.2.2.2.2.1 h _).1
theorem dc_l_ne_t {x y : UInt64} (h : ¬ dEq x y) : ifCond.holds .ne (cmpValue (FP.dcmp x y) .l) = true := ((own_c _).2.2.2.2.2.2.2.2.2 h _).1
theorem dc_l_eq_t {x y : UInt64} (h : dEq x y) : ifCond.holds .eq (cmpValue (FP.dcmp x y) .l) = true := ((own_c _).2.2.2.2.2.2.2.2.1 h _).2
theorem dc_l_eq_f {x y : UInt64} (h : ¬ dEq x y) : ifCond.holds .eq (cmpValue (FP.dcmp x y) .l) = false := ((own_c _).2.2.2.2.2.2.2.2.2 h _).2
theorem dc_g_ne_f {x y : UInt64} (h : dEq x y) : ifCond.holds .ne (cmpValue (FP.dcmp x y) .g) = false := ((own_c _).2.2.2.2.2.2.2.2.1 h _).1
theorem dc_g_ne_t {x y : UInt64} (h : ¬ dEq x y) : ifCond.holds .ne (cmpValue (FP.dcmp x y) .g) = true := ((own_c _).2.2.2.2.2.2.2.2.2 h _).1
theorem dc_g_eq_t {x y : UInt64} (h : dEq x y) : ifCond.holds .eq (cmpValue (FP.dcmp x y) .g) = true := ((own_c _).2.2.2.2.2.2.2.2.1 h _).2
theorem dc_g_eq_f {x y : UInt64} (h : ¬ dEq x y) : ifCond.holds .eq (cmpValue (FP.dcmp x y) .g) = false := ((own_c _).2.2.2.2.2.2.2.2.2 h _).2
theorem fc_g_ge_f {x y : UInt32} (h : fLt x y) : ifCond.holds .ge (cmpValue (FP.fcmp x y) .g) = false := ((own_c _).1 h).1
theorem fc_g_ge_t {x y : UInt32} (h : ¬ fLt x y) : ifCond.holds .ge (cmpValue (FP.fcmp x y) .g) = true := ((own_c _).2.1 h).1
theorem fc_g_lt_t {x y : UInt32} (h : fLt x y) : ifCond.holds .lt (cmpValue (FP.fcmp x y) .g) = true := ((own_c _).1 h).2
theorem fc_g_lt_f {x y : UInt32} (h : ¬ fLt x y) : ifCond.holds .lt (cmpValue (FP.fcmp x y) .g) = false := ((own_c _).2.1 h).2
theorem fc_g_gt_f {x y : UInt32} (h : fLe x y) : ifCond.holds .gt (cmpValue (FP.fcmp x y) .g) = false := ((own_c _).2.2.1 h).1
theorem fc_g_gt_t {x y : UInt32} (h : ¬ fLe x y) : ifCond.holds .gt (cmpValue (FP.fcmp x y) .g) = true := ((own_c _).2.2.2.1 h).1
theorem fc_g_le_t {x y : UInt32} (h : fLe x y) : ifCond.holds .le (cmpValue (FP.fcmp x y) .g) = true := ((own_c _).2.2.1 h).2
theorem fc_g_le_f {x y : UInt32} (h : ¬ fLe x y) : ifCond.holds .le (cmpValue (FP.fcmp x y) .g) = false := ((own_c _).2.2.2.1 h).2
theorem fc_l_le_f {x y : UInt32} (h : fLt y x) : ifCond.holds .le (cmpValue (FP.fcmp x y) .l) = false := ((own_c _).2.2.2.2.1 ((own_fgt x y).mp h)).1
theorem fc_l_le_t {x y : UInt32} (h : ¬ fLt y x) : ifCond.holds .le (cmpValue (FP.fcmp x y) .l) = true := ((own_c _).2.2.2.2.2.1 (fun q => h ((own_fgt x y).mpr q))).1
theorem fc_l_gt_t {x y : UInt32} (h : fLt y x) : ifCond.holds .gt (cmpValue (FP.fcmp x y) .l) = true := ((own_c _).2.2.2.2.1 ((own_fgt x y).mp h)).2
theorem fc_l_gt_f {x y : UInt32} (h : ¬ fLt y x) : ifCond.holds .gt (cmpValue (FP.fcmp x y) .l) = false := ((own_c _).2.2.2.2.2.1 (fun q => h ((own_fgt x y).mpr q))).2
theorem fc_l_lt_f {x y : UInt32} (h : fLe y x) : ifCond.holds .lt (cmpValue (FP.fcmp x y) .l) = false := ((own_c _).2.2.2.2.2.2.1 ((own_fge x y).mp h)).1
theorem fc_l_lt_t {x y : UInt32} (h : ¬ fLe y x) : ifCond.holds .lt (cmpValue (FP.fcmp x y) .l) = true := ((own_c _).2.2.2.2.2.2.2.1 (fun q => h ((own_fge x y).mpr q))).1
theorem fc_l_ge_t {x y : UInt32} (h : fLe y x) : ifCond.holds .ge (cmpValue (FP.fcmp x y) .l) = true := ((own_c _).2.2.2.2.2.2.1 ((own_fge x y).mp h)).2
theorem fc_l_ge_f {x y : UInt32} (h : ¬ fLe y x) : ifCond.holds .ge (cmpValue (FP.fcmp x y) .l) = false := ((own_c _).2.2.2.2.2.2.2.1 (fun q => h ((own_fge x y).mpr q))).2
theorem fc_l_ne_f {x y : UInt32} (h : fEq x y) : ifCond.holds .ne (cmpValue (FP.fcmp x y) .l) = false := ((own_c _).2.2.2.2.2.2.2.2.1 h _).1
theorem fc_l_ne_t {x y : UInt32} (h : ¬ fEq x y) : ifCond.holds .ne (cmpValue (FP.fcmp x y) .l) = true := ((own_c _).2.2.2.2.2.2.2.2.2 h _).1
theorem fc_l_eq_t {x y : UInt32} (h : fEq x y) : ifCond.holds .eq (cmpValue (FP.fcmp x y) .l) = true := ((own_c _).2.2.2.2.2.2.2.2.1 h _).2
theorem fc_l_eq_f {x y : UInt32} (h : ¬ fEq x y) : ifCond.holds .eq (cmpValue (FP.fcmp x y) .l) = false := ((own_c _).2.2.2.2.2.2.2.2.2 h _).2
theorem fc_g_ne_f {x y : UInt32} (h : fEq x y) : ifCond.holds .ne (cmpValue (FP.fcmp x y) .g) = false := ((own_c _).2.2.2.2.2.2.2.2.1 h _).1
theorem fc_g_ne_t {x y : UInt32} (h : ¬ fEq x y) : ifCond.holds .ne (cmpValue (FP.fcmp x y) .g) = true := ((own_c _).2.2.2.2.2.2.2.2.2 h _).1
theorem fc_g_eq_t {x y : UInt32} (h : fEq x y) : ifCond.holds .eq (cmpValue (FP.fcmp x y) .g) = true := ((own_c _).2.2.2.2.2.2.2.2.1 h _).2
theorem fc_g_eq_f {x y : UInt32} (h : ¬ fEq x y) : ifCond.holds .eq (cmpValue (FP.fcmp x y) .g) = false := ((own_c _).2.2.2.2.2.2.2.2.2 h _).2
theorem own_selp {s : State} {args : Array Value} {y z : MethodName} {K : String} (h : (Jvm.Cond.selects K z z).before args s = true) (e : z.cls = y.cls) (hp : s.PrivateAt y) (hi : (Jvm.Cond.instanceMethod y).before args s = true) (hy : y.cls ≠ "java/lang/invoke/MethodHandle" ∧ y.cls ≠ "java/lang/invoke/VarHandle") : (Jvm.Cond.selects y.cls y y).before args s = true := by
  obtain ⟨c, r, m, -, -, h3, -, k, hk, hni⟩ := Cond.selects_spec h
  exact Jvm.Stand.selects_self_of_private (e ▸ findClass_of_methodNamed h3) hk hni hp hi hy

theorem d7_0 : decode jdk_17_method_70_code 0 = .ok (.aload_n 0, 1) := by decide +kernel
theorem d7_1 : decode jdk_17_method_70_code 1 = .ok (.getfield 17, 3) := by decide +kernel
theorem d7_4 : decode jdk_17_method_70_code 4 = .ok (.aload_n 1, 1) := by decide +kernel
theorem d7_5 : decode jdk_17_method_70_code 5 = .ok (.getfield 17, 3) := by decide +kernel
theorem d7_8 : decode jdk_17_method_70_code 8 = .ok (.if_icmp .ne 55, 3) := by decide +kernel
theorem d7_11 : decode jdk_17_method_70_code 11 = .ok (.aload_n 0, 1) := by decide +kernel
theorem d7_12 : decode jdk_17_method_70_code 12 = .ok (.getfield 24, 3) := by decide +kernel
theorem d7_15 : decode jdk_17_method_70_code 15 = .ok (.lstore_n 2, 1) := by decide +kernel
theorem d7_16 : decode jdk_17_method_70_code 16 = .ok (.aload_n 1, 1) := by decide +kernel
theorem d7_17 : decode jdk_17_method_70_code 17 = .ok (.getfield 24, 3) := by decide +kernel
theorem d7_20 : decode jdk_17_method_70_code 20 = .ok (.lstore 4, 2) := by decide +kernel
theorem d7_22 : decode jdk_17_method_70_code 22 = .ok (.lload_n 2, 1) := by decide +kernel
theorem d7_23 : decode jdk_17_method_70_code 23 = .ok (.ldc2_w 125, 3) := by decide +kernel
theorem d7_26 : decode jdk_17_method_70_code 26 = .ok (.lcmp, 1) := by decide +kernel
theorem d7_27 : decode jdk_17_method_70_code 27 = .ok (.ifCond .eq 36, 3) := by decide +kernel
theorem d7_30 : decode jdk_17_method_70_code 30 = .ok (.lload 4, 2) := by decide +kernel
theorem d7_32 : decode jdk_17_method_70_code 32 = .ok (.ldc2_w 125, 3) := by decide +kernel
theorem d7_35 : decode jdk_17_method_70_code 35 = .ok (.lcmp, 1) := by decide +kernel
theorem d7_36 : decode jdk_17_method_70_code 36 = .ok (.ifCond .eq 27, 3) := by decide +kernel
theorem d7_39 : decode jdk_17_method_70_code 39 = .ok (.lload_n 2, 1) := by decide +kernel
theorem d7_40 : decode jdk_17_method_70_code 40 = .ok (.lload 4, 2) := by decide +kernel
theorem d7_42 : decode jdk_17_method_70_code 42 = .ok (.lcmp, 1) := by decide +kernel
theorem d7_43 : decode jdk_17_method_70_code 43 = .ok (.ifCond .eq 18, 3) := by decide +kernel
theorem d7_46 : decode jdk_17_method_70_code 46 = .ok (.lload_n 2, 1) := by decide +kernel
theorem d7_47 : decode jdk_17_method_70_code 47 = .ok (.lload 4, 2) := by decide +kernel
theorem d7_49 : decode jdk_17_method_70_code 49 = .ok (.lcmp, 1) := by decide +kernel
theorem d7_50 : decode jdk_17_method_70_code 50 = .ok (.ifCond .le 7, 3) := by decide +kernel
theorem d7_53 : decode jdk_17_method_70_code 53 = .ok (.iconst 1, 1) := by decide +kernel
theorem d7_54 : decode jdk_17_method_70_code 54 = .ok (.goto 8, 3) := by decide +kernel
theorem d7_57 : decode jdk_17_method_70_code 57 = .ok (.iconst (-1), 1) := by decide +kernel
theorem d7_58 : decode jdk_17_method_70_code 58 = .ok (.goto 4, 3) := by decide +kernel
theorem d7_61 : decode jdk_17_method_70_code 61 = .ok (.iconst 0, 1) := by decide +kernel
theorem d7_62 : decode jdk_17_method_70_code 62 = .ok (.ireturn, 1) := by decide +kernel
theorem d7_63 : decode jdk_17_method_70_code 63 = .ok (.aload_n 0, 1) := by decide +kernel
theorem d7_64 : decode jdk_17_method_70_code 64 = .ok (.invokevirtual 270, 3) := by decide +kernel
theorem d7_67 : decode jdk_17_method_70_code 67 = .ok (.istore_n 2, 1) := by decide +kernel
theorem d7_68 : decode jdk_17_method_70_code 68 = .ok (.aload_n 1, 1) := by decide +kernel
theorem d7_69 : decode jdk_17_method_70_code 69 = .ok (.invokevirtual 270, 3) := by decide +kernel
theorem d7_72 : decode jdk_17_method_70_code 72 = .ok (.istore_n 3, 1) := by decide +kernel
theorem d7_73 : decode jdk_17_method_70_code 73 = .ok (.iload_n 2, 1) := by decide +kernel
theorem d7_74 : decode jdk_17_method_70_code 74 = .ok (.iload_n 3, 1) := by decide +kernel
theorem d7_75 : decode jdk_17_method_70_code 75 = .ok (.if_icmp .eq 14, 3) := by decide +kernel
theorem d7_78 : decode jdk_17_method_70_code 78 = .ok (.iload_n 2, 1) := by decide +kernel
theorem d7_79 : decode jdk_17_method_70_code 79 = .ok (.iload_n 3, 1) := by decide +kernel
theorem d7_80 : decode jdk_17_method_70_code 80 = .ok (.if_icmp .le 7, 3) := by decide +kernel
theorem d7_83 : decode jdk_17_method_70_code 83 = .ok (.iconst 1, 1) := by decide +kernel
theorem d7_84 : decode jdk_17_method_70_code 84 = .ok (.goto 4, 3) := by decide +kernel
theorem d7_87 : decode jdk_17_method_70_code 87 = .ok (.iconst (-1), 1) := by decide +kernel
theorem d7_88 : decode jdk_17_method_70_code 88 = .ok (.ireturn, 1) := by decide +kernel
theorem d7_89 : decode jdk_17_method_70_code 89 = .ok (.iload_n 2, 1) := by decide +kernel
theorem d7_90 : decode jdk_17_method_70_code 90 = .ok (.ifCond .ne 5, 3) := by decide +kernel
theorem d7_93 : decode jdk_17_method_70_code 93 = .ok (.iconst 0, 1) := by decide +kernel
theorem d7_94 : decode jdk_17_method_70_code 94 = .ok (.ireturn, 1) := by decide +kernel
theorem d7_95 : decode jdk_17_method_70_code 95 = .ok (.aload_n 0, 1) := by decide +kernel
theorem d7_96 : decode jdk_17_method_70_code 96 = .ok (.aload_n 1, 1) := by decide +kernel
theorem d7_97 : decode jdk_17_method_70_code 97 = .ok (.invokevirtual 436, 3) := by decide +kernel
theorem d7_100 : decode jdk_17_method_70_code 100 = .ok (.istore 4, 2) := by decide +kernel
theorem d7_102 : decode jdk_17_method_70_code 102 = .ok (.iload_n 2, 1) := by decide +kernel
theorem d7_103 : decode jdk_17_method_70_code 103 = .ok (.ifCond .le 8, 3) := by decide +kernel
theorem d7_106 : decode jdk_17_method_70_code 106 = .ok (.iload 4, 2) := by decide +kernel
theorem d7_108 : decode jdk_17_method_70_code 108 = .ok (.goto 6, 3) := by decide +kernel
theorem d7_111 : decode jdk_17_method_70_code 111 = .ok (.iload 4, 2) := by decide +kernel
theorem d7_113 : decode jdk_17_method_70_code 113 = .ok (.ineg, 1) := by decide +kernel
theorem d7_114 : decode jdk_17_method_70_code 114 = .ok (.ireturn, 1) := by decide +kernel
theorem pd0 : parseMethodDescriptor "(Ljava/math/BigDecimal;)I" = some ⟨[(.object "java/math/BigDecimal")], some .int⟩ := by decide +kernel
theorem pf_cmp : plainFor (⟨"java/math/BigDecimal", "compareTo", "(Ljava/math/BigDecimal;)I"⟩ : MethodName) = true := by first | exact plainFor_of_name (by first | (simp [plainName, overriddenIn, x]; done) | decide +kernel) | exact Jvm.Free.JP.mathPlain rfl (by decide +kernel) | decide +kernel
theorem ef_cmp (m : MethodId) (bx : Addr) (by_ : Addr) : entryFrame m #[(.ref bx), (.ref by_)] 6 = mkF m 0 #[rv bx, rv by_, .unset, .unset, .unset, .unset] [] := by first | (simp [entryFrame, mkF, argsToLocals, Value.category, maxLocals]; done) | rfl
def Q_cmp (Z : State) (bx : Addr) (by_ : Addr)  (h0 : Heap) (n0 : Nat) (v : Option Value) (h : Heap) (L : List Loc) : Prop := v = some (.int (0 : Int32)) ∧ Fr n0 L ∧ h = h0
set_option maxRecDepth 65536 in
set_option maxHeartbeats 40000000 in
theorem rm_cmp (l : Launch) (Z : State) (a0 : Array Value) (hw : ∀ d ∈ tables_1, d.before a0 Z = true) (ws : List Jvm.Cond) (bx : Addr) (by_ : Addr)  (h0 : Heap) (n0 : Nat) (Z0 : n0 ≤ h0.size) (P0 : Fld Z h0 bx "java/math/BigDecimal" "scale" "I" (.int (0 : Int32))) (P1 : Fld Z h0 by_ "java/math/BigDecimal" "scale" "I" (.int (0 : Int32))) (P2 : Fld Z h0 bx "java/math/BigDecimal" "intCompact" "J" (.long (0 : Int64))) (P3 : Fld Z h0 by_ "java/math/BigDecimal" "intCompact" "J" (.long (0 : Int64)))  :
    MetFree l (⟨"java/math/BigDecimal", "compareTo", "(Ljava/math/BigDecimal;)I"⟩ : MethodName) (head1 (Jvm.Cond.code (⟨"java/math/BigDecimal", "compareTo", "(Ljava/math/BigDecimal;)I"⟩ : MethodName) jdk_17_method_70_code 6 (some .int) :: ws) ({ frames := 0, cells := 0, slots := 0, locals := 0 } : Room)) (fun a U => a = #[(.ref bx), (.ref by_)] ∧ Z.Warmed39 U.vm ∧ U.heap = h0) (fun _ _ _ _ _ => True) (fun _ U o U' => ∃ v L, o = .returned v ∧ Q_cmp Z bx by_  h0 n0 v U'.heap L ∧ FrameEnd U o U' L ({ frames := 0, cells := 0, slots := 0, locals := 0 } : Room).cells ({ frames := 0, cells := 0, slots := 0, locals := 0 } : Room).slots) := by
  refine MetFree.of_bodySF pf_cmp hisR ?_
  intro p e s m args below meth c s₁ Bd hml0 hP hK
  obtain ⟨rfl, hZ, hh⟩ := hP
  have hx := Bd.exec
  have hby := Bd.bytes
  have hml : c.maxLocals = 6 := hml0
  have hown : s.vm.findClass "java/math/BigDecimal" = some m.cls := findClass_of_methodNamed Bd.named
  have hnm := (name_of_methodNamed Bd.named Bd.method).1
  have X0 : Stand p l e ({ frames := 0, cells := 0, slots := 0, locals := 0 } : Room) s m #[(.ref bx), (.ref by_)] below meth c s₁ [] 0 0 := Stand.of_body Bd
  have e0 : s₁.heap = h0 := by rw [← hh, Bd.state]; rfl
  have N0 := Fr.nil n0
  obtain ⟨S0, hS0⟩ : ∃ z, z = s₁.setTop (entryFrame m #[(.ref bx), (.ref by_)] 6) := ⟨_, rfl⟩
  rw [← hS0]
  have g0 : Goes p e below S0 (s₁.setTop (mkF m 0 #[rv bx, rv by_, .unset, .unset, .unset, .unset] [])) := fun t k => by rw [hS0]; exact castTop (ef_cmp m bx by_) k
  have g1 : Goes p e below S0 (s₁.setTop (mkF m 1 #[rv bx, rv by_, .unset, .unset, .unset, .unset] [(.ref bx)])) := fun t k => g0 t (by
    refine XS.aloadN X0.here hx rfl (hb hby d7_0) rfl rfl ?_
    show Go p e below t s₁ m 1 #[rv bx, rv by_, .unset, .unset, .unset, .unset] [(.ref bx)]
    exact k)
  obtain ⟨T2, X2, e2, st2⟩ := getF X0 hx hZ hown (host := "") (Or.inl (hw _ (List.mem_of_getElem? (i := 50) rfl))) Via.refl e0 P0 (g := (mkF m 1 #[rv bx, rv by_, .unset, .unset, .unset, .unset] [(.ref bx)])) rfl rfl (hb hby d7_1)
  have g3 : Goes p e below S0 (T2.setTop (mkF m 4 #[rv bx, rv by_, .unset, .unset, .unset, .unset] [(.int (0 : Int32))])) := fun t k => g1 t (st2 t k)
  have g4 : Goes p e below S0 (T2.setTop (mkF m 5 #[rv bx, rv by_, .unset, .unset, .unset, .unset] [(.ref by_), (.int (0 : Int32))])) := fun t k => g3 t (by
    refine XS.aloadN X2.here hx rfl (hb hby d7_4) rfl rfl ?_
    show Go p e below t T2 m 5 #[rv bx, rv by_, .unset, .unset, .unset, .unset] [(.ref by_), (.int (0 : Int32))]
    exact k)
  obtain ⟨T5, X5, e5, st5⟩ := getF X2 hx hZ hown (host := "") (Or.inl (hw _ (List.mem_of_getElem? (i := 50) rfl))) Via.refl e2 P1 (g := (mkF m 5 #[rv bx, rv by_, .unset, .unset, .unset, .unset] [(.ref by_), (.int (0 : Int32))])) rfl rfl (hb hby d7_5)
  have g6 : Goes p e below S0 (T5.setTop (mkF m 8 #[rv bx, rv by_, .unset, .unset, .unset, .unset] [(.int (0 : Int32)), (.int (0 : Int32))])) := fun t k => g4 t (st5 t k)
  have g7 : Goes p e below S0 (T5.setTop (mkF m 12 #[rv bx, rv by_, .unset, .unset, .unset, .unset] [(.ref bx)])) := fun t k => g6 t (by
    refine XS.icmpNo X5.here hx rfl (hb hby d7_8) rfl (XT.ii_ne_f (by decide)) ?_
    show Go p e below t T5 m 11 #[rv bx, rv by_, .unset, .unset, .unset, .unset] []
    refine XS.aloadN X5.here hx rfl (hb hby d7_11) rfl rfl ?_
    show Go p e below t T5 m 12 #[rv bx, rv by_, .unset, .unset, .unset, .unset] [(.ref bx)]
    exact k)
  obtain ⟨T8, X8, e8, st8⟩ := getF X5 hx hZ hown (host := "") (Or.inl (hw _ (List.mem_of_getElem? (i := 52) rfl))) Via.refl e5 P2 (g := (mkF m 12 #[rv bx, rv by_, .unset, .unset, .unset, .unset] [(.ref bx)])) rfl rfl (hb hby d7_12)
  have g9 : Goes p e below S0 (T8.setTop (mkF m 15 #[rv bx, rv by_, .unset, .unset, .unset, .unset] [(.long (0 : Int64))])) := fun t k => g7 t (st8 t k)
  have g10 : Goes p e below S0 (T8.setTop (mkF m 17 #[rv bx, rv by_, .val (.long (0 : Int64)), .second, .unset, .unset] [(.ref by_)])) := fun t k => g9 t (by
    refine XS.lstoreN X8.here hx rfl (hb hby d7_15) rfl (l' := #[rv bx, rv by_, .val (.long (0 : Int64)), .second, .unset, .unset]) rfl ?_
    show Go p e below t T8 m 16 #[rv bx, rv by_, .val (.long (0 : Int64)), .second, .unset, .unset] []
    refine XS.aloadN X8.here hx rfl (hb hby d7_16) rfl rfl ?_
    show Go p e below t T8 m 17 #[rv bx, rv by_, .val (.long (0 : Int64)), .second, .unset, .unset] [(.ref by_)]
    exact k)
  obtain ⟨T11, X11, e11, st11⟩ := getF X8 hx hZ hown (host := "") (Or.inl (hw _ (List.mem_of_getElem? (i := 52) rfl))) Via.refl e8 P3 (g := (mkF m 17 #[rv bx, rv by_, .val (.long (0 : Int64)), .second, .unset, .unset] [(.ref by_)])) rfl rfl (hb hby d7_17)
  have g12 : Goes p e below S0 (T11.setTop (mkF m 20 #[rv bx, rv by_, .val (.long (0 : Int64)), .second, .unset, .unset] [(.long (0 : Int64))])) := fun t k => g10 t (st11 t k)
  have g13 : Goes p e below S0 (T11.setTop (mkF m 62 #[rv bx, rv by_, .val (.long (0 : Int64)), .second, .val (.long (0 : Int64)), .second] [(.int (0 : Int32))])) := fun t k => g12 t (by
    refine XS.lstore X11.here hx rfl (hb hby d7_20) rfl (l' := #[rv bx, rv by_, .val (.long (0 : Int64)), .second, .val (.long (0 : Int64)), .second]) rfl ?_
    show Go p e below t T11 m 22 #[rv bx, rv by_, .val (.long (0 : Int64)), .second, .val (.long (0 : Int64)), .second] []
    refine XS.lloadN X11.here hx rfl (hb hby d7_22) rfl ?_
    show Go p e below t T11 m 23 #[rv bx, rv by_, .val (.long (0 : Int64)), .second, .val (.long (0 : Int64)), .second] [(.long (0 : Int64))]
    refine Jvm.Stand.ldc2J X11 hx hown (mvT hZ (hw _ (List.mem_of_getElem? (i := 54) rfl))) (g := (mkF m 23 #[rv bx, rv by_, .val (.long (0 : Int64)), .second, .val (.long (0 : Int64)), .second] [(.long (0 : Int64))])) rfl (hb hby d7_23) ?_
    show Go p e below t T11 m 26 #[rv bx, rv by_, .val (.long (0 : Int64)), .second, .val (.long (0 : Int64)), .second] [(.long (-9223372036854775808 : Int64)), (.long (0 : Int64))]
    refine XS.lcmp X11.here hx rfl (hb hby d7_26) rfl ?_
    show Go p e below t T11 m 27 #[rv bx, rv by_, .val (.long (0 : Int64)), .second, .val (.long (0 : Int64)), .second] [(.int (lcmpW (0 : Int64) (-9223372036854775808 : Int64)))]
    refine XS.ifNo X11.here hx rfl (hb hby d7_27) rfl (XT.ll_eq_f (by decide)) ?_
    show Go p e below t T11 m 30 #[rv bx, rv by_, .val (.long (0 : Int64)), .second, .val (.long (0 : Int64)), .second] []
    refine XS.lload X11.here hx rfl (hb hby d7_30) rfl ?_
    show Go p e below t T11 m 32 #[rv bx, rv by_, .val (.long (0 : Int64)), .second, .val (.long (0 : Int64)), .second] [(.long (0 : Int64))]
    refine Jvm.Stand.ldc2J X11 hx hown (mvT hZ (hw _ (List.mem_of_getElem? (i := 54) rfl))) (g := (mkF m 32 #[rv bx, rv by_, .val (.long (0 : Int64)), .second, .val (.long (0 : Int64)), .second] [(.long (0 : Int64))])) rfl (hb hby d7_32) ?_
    show Go p e below t T11 m 35 #[rv bx, rv by_, .val (.long (0 : Int64)), .second, .val (.long (0 : Int64)), .second] [(.long (-9223372036854775808 : Int64)), (.long (0 : Int64))]
    refine XS.lcmp X11.here hx rfl (hb hby d7_35) rfl ?_
    show Go p e below t T11 m 36 #[rv bx, rv by_, .val (.long (0 : Int64)), .second, .val (.long (0 : Int64)), .second] [(.int (lcmpW (0 : Int64) (-9223372036854775808 : Int64)))]
    refine XS.ifNo X11.here hx rfl (hb hby d7_36) rfl (XT.ll_eq_f (by decide)) ?_
    show Go p e below t T11 m 39 #[rv bx, rv by_, .val (.long (0 : Int64)), .second, .val (.long (0 : Int64)), .second] []
    refine XS.lloadN X11.here hx rfl (hb hby d7_39) rfl ?_
    show Go p e below t T11 m 40 #[rv bx, rv by_, .val (.long (0 : Int64)), .second, .val (.long (0 : Int64)), .second] [(.long (0 : Int64))]
    refine XS.lload X11.here hx rfl (hb hby d7_40) rfl ?_
    show Go p e below t T11 m 42 #[rv bx, rv by_, .val (.long (0 : Int64)), .second, .val (.long (0 : Int64)), .second] [(.long (0 : Int64)), (.long (0 : Int64))]
    refine XS.lcmp X11.here hx rfl (hb hby d7_42) rfl ?_
    show Go p e below t T11 m 43 #[rv bx, rv by_, .val (.long (0 : Int64)), .second, .val (.long (0 : Int64)), .second] [(.int (lcmpW (0 : Int64) (0 : Int64)))]
    refine XS.ifYes X11.here hx rfl (pc0 := 43) (pc' := 61) rfl (hb hby d7_43) rfl (XT.ll_eq_t (by decide)) (by decide) (by decide) ?_
    show Go p e below t T11 m 61 #[rv bx, rv by_, .val (.long (0 : Int64)), .second, .val (.long (0 : Int64)), .second] []
    refine XT.iconstV X11.here hx rfl (0 : Int32) (hb hby d7_61) (by decide) ?_
    show Go p e below t T11 m 62 #[rv bx, rv by_, .val (.long (0 : Int64)), .second, .val (.long (0 : Int64)), .second] [(.int (0 : Int32))]
    exact k)
  obtain ⟨fs, hr, hrun, hended, hW, hsame⟩ := X11.leave (v := some (.int (0 : Int32))) (fun h => by rw [Bd.returns] at h; cases h)
  refine ⟨_, _, g13 _ (retOut X11 hx Bd.returns rfl (Or.inl ⟨rfl, Or.inl rfl, _, rfl⟩) (hb hby d7_62) hr), hrun, hended, _, _, rfl, ?_, ⟨_, rfl⟩, hW, hsame.mono (by decide) (by decide)⟩
  show Q_cmp Z bx by_  h0 n0 _ T11.heap _
  rw [e11]
  exact ⟨rfl, N0, rfl⟩
theorem d6_0 : decode jdk_17_method_74_code 0 = .ok (.aload_n 0, 1) := by decide +kernel
theorem d6_1 : decode jdk_17_method_74_code 1 = .ok (.aload_n 1, 1) := by decide +kernel
theorem d6_2 : decode jdk_17_method_74_code 2 = .ok (.invokevirtual 480, 3) := by decide +kernel
theorem d6_5 : decode jdk_17_method_74_code 5 = .ok (.ifCond .lt 7, 3) := by decide +kernel
theorem d6_8 : decode jdk_17_method_74_code 8 = .ok (.aload_n 0, 1) := by decide +kernel
theorem d6_9 : decode jdk_17_method_74_code 9 = .ok (.goto 4, 3) := by decide +kernel
theorem d6_12 : decode jdk_17_method_74_code 12 = .ok (.aload_n 1, 1) := by decide +kernel
theorem d6_13 : decode jdk_17_method_74_code 13 = .ok (.areturn, 1) := by decide +kernel
theorem pd1 : parseMethodDescriptor "(Ljava/math/BigDecimal;)Ljava/math/BigDecimal;" = some ⟨[(.object "java/math/BigDecimal")], some (.object "java/math/BigDecimal")⟩ := by decide +kernel
theorem pf_max : plainFor (⟨"java/math/BigDecimal", "max", "(Ljava/math/BigDecimal;)Ljava/math/BigDecimal;"⟩ : MethodName) = true := by first | exact plainFor_of_name (by first | (simp [plainName, overriddenIn, x]; done) | decide +kernel) | exact Jvm.Free.JP.mathPlain rfl (by decide +kernel) | decide +kernel
theorem ef_max (m : MethodId) (bx : Addr) (by_ : Addr) : entryFrame m #[(.ref bx), (.ref by_)] 2 = mkF m 0 #[rv bx, rv by_] [] := by first | (simp [entryFrame, mkF, argsToLocals, Value.category, maxLocals]; done) | rfl
def Q_max (Z : State) (bx : Addr) (by_ : Addr)  (h0 : Heap) (n0 : Nat) (v : Option Value) (h : Heap) (L : List Loc) : Prop := v = some (.ref bx) ∧ Fr n0 L ∧ h = h0
set_option maxRecDepth 65536 in
set_option maxHeartbeats 40000000 in
theorem rm_max (l : Launch) (Z : State) (a0 : Array Value) (hw : ∀ d ∈ tables_1, d.before a0 Z = true) (ws : List Jvm.Cond) (bx : Addr) (by_ : Addr)  (h0 : Heap) (n0 : Nat) (Z0 : n0 ≤ h0.size) (P0 : Exa Z h0 bx "java/math/BigDecimal") (P1 : Fld Z h0 bx "java/math/BigDecimal" "scale" "I" (.int (0 : Int32))) (P2 : Fld Z h0 by_ "java/math/BigDecimal" "scale" "I" (.int (0 : Int32))) (P3 : Fld Z h0 bx "java/math/BigDecimal" "intCompact" "J" (.long (0 : Int64))) (P4 : Fld Z h0 by_ "java/math/BigDecimal" "intCompact" "J" (.long (0 : Int64)))  :
    MetFree l (⟨"java/math/BigDecimal", "max", "(Ljava/math/BigDecimal;)Ljava/math/BigDecimal;"⟩ : MethodName) (head1 (Jvm.Cond.code (⟨"java/math/BigDecimal", "max", "(Ljava/math/BigDecimal;)Ljava/math/BigDecimal;"⟩ : MethodName) jdk_17_method_74_code 2 (some (.object "java/math/BigDecimal")) :: ws) ({ frames := 1, cells := 0, slots := 0, locals := 17 } : Room)) (fun a U => a = #[(.ref bx), (.ref by_)] ∧ Z.Warmed39 U.vm ∧ U.heap = h0) (fun _ _ _ _ _ => True) (fun _ U o U' => ∃ v L, o = .returned v ∧ Q_max Z bx by_  h0 n0 v U'.heap L ∧ FrameEnd U o U' L ({ frames := 1, cells := 0, slots := 0, locals := 17 } : Room).cells ({ frames := 1, cells := 0, slots := 0, locals := 17 } : Room).slots) := by
  refine MetFree.of_bodySF pf_max hisR ?_
  intro p e s m args below meth c s₁ Bd hml0 hP hK
  obtain ⟨rfl, hZ, hh⟩ := hP
  have hx := Bd.exec
  have hby := Bd.bytes
  have hml : c.maxLocals = 2 := hml0
  have hown : s.vm.findClass "java/math/BigDecimal" = some m.cls := findClass_of_methodNamed Bd.named
  have hnm := (name_of_methodNamed Bd.named Bd.method).1
  have X0 : Stand p l e ({ frames := 1, cells := 0, slots := 0, locals := 17 } : Room) s m #[(.ref bx), (.ref by_)] below meth c s₁ [] 0 0 := Stand.of_body Bd
  have e0 : s₁.heap = h0 := by rw [← hh, Bd.state]; rfl
  have N0 := Fr.nil n0
  obtain ⟨S0, hS0⟩ : ∃ z, z = s₁.setTop (entryFrame m #[(.ref bx), (.ref by_)] 2) := ⟨_, rfl⟩
  rw [← hS0]
  have g0 : Goes p e below S0 (s₁.setTop (mkF m 0 #[rv bx, rv by_] [])) := fun t k => by rw [hS0]; exact castTop (ef_max m bx by_) k
  have g14 : Goes p e below S0 (s₁.setTop (mkF m 2 #[rv bx, rv by_] [(.ref by_), (.ref bx)])) := fun t k => g0 t (by
    refine XS.aloadN X0.here hx rfl (hb hby d6_0) rfl rfl ?_
    show Go p e below t s₁ m 1 #[rv bx, rv by_] [(.ref bx)]
    refine XS.aloadN X0.here hx rfl (hb hby d6_1) rfl rfl ?_
    show Go p e below t s₁ m 2 #[rv bx, rv by_] [(.ref by_), (.ref bx)]
    exact k)
  obtain ⟨cq15, kq15, q15a, q15b, q15c⟩ := isOf hZ e0 P0
  obtain ⟨_, _, ⟨T15, L15, k15, n15⟩, -, X15, ⟨Lc15, hQ15, l15, y15, z15⟩, st15⟩ := X0.virtualBack hx (y := (⟨"java/math/BigDecimal", "compareTo", "(Ljava/math/BigDecimal;)I"⟩ : MethodName)) (z := (⟨"java/math/BigDecimal", "compareTo", "(Ljava/math/BigDecimal;)I"⟩ : MethodName)) hown (mvT hZ (hw _ (List.mem_of_getElem? (i := 45) rfl))) (mvT hZ (hw _ (List.mem_of_getElem? (i := 46) rfl))) (notFace_of_selects (args := #[]) (mvT hZ (hw _ (List.mem_of_getElem? (i := 48) rfl)))) (mvT hZ (hw _ (List.mem_of_getElem? (i := 48) rfl))) (mvT hZ (hw _ (List.mem_of_getElem? (i := 47) rfl))) (by decide) (backOf (W := 0) (rm_cmp l Z a0 hw [] bx by_  h0 n0 Z0 P1 P2 P3 P4) hZ (hw _ (List.mem_of_getElem? (i := 49) rfl)) (hw _ (List.mem_of_getElem? (i := 11) rfl)) (by decide) (by decide)) q15a q15c (g := (mkF m 2 #[rv bx, rv by_] [(.ref by_), (.ref bx)])) rfl (by rw [hml]; rfl) (Steps.refl _) (argsL := [(.ref by_)]) (rest := []) (lenOf pd0 rfl) rfl (by show 2 * 0 + _ ≤ _; exact Nat.le_of_eq rfl) (hb hby d6_2) (fun _ _ => ⟨rfl, e0, (by decide : 0 + 0 ≤ _), (by decide : 0 + 0 ≤ _)⟩)
  dsimp only [Pt.U, Pt.locs, Pt.cells, Pt.slots] at X15 l15 y15 z15 st15 hQ15
  subst l15 y15 z15
  obtain ⟨rfl, N15, R15_0⟩ := hQ15
  have M15 := Fr.app N0 N15
  have g16 : Goes p e below S0 (T15.setTop (mkF m 5 #[rv bx, rv by_] [(.int (0 : Int32))])) := fun t k => g14 t (st15.trans k)
  have g17 : Goes p e below S0 (T15.setTop (mkF m 13 #[rv bx, rv by_] [(.ref bx)])) := fun t k => g16 t (by
    refine XS.ifNo X15.here hx rfl (hb hby d6_5) rfl (XT.i0_lt_f (by decide)) ?_
    show Go p e below t T15 m 8 #[rv bx, rv by_] []
    refine XS.aloadN X15.here hx rfl (hb hby d6_8) rfl rfl ?_
    show Go p e below t T15 m 9 #[rv bx, rv by_] [(.ref bx)]
    refine XS.goto X15.here hx rfl (pc0 := 9) (pc' := 13) rfl (hb hby d6_9) (by decide) (by decide) ?_
    show Go p e below t T15 m 13 #[rv bx, rv by_] [(.ref bx)]
    exact k)
  obtain ⟨fs, hr, hrun, hended, hW, hsame⟩ := X15.leave (v := some (.ref bx)) (fun h => by rw [Bd.returns] at h; cases h)
  refine ⟨_, _, g17 _ (retOut X15 hx Bd.returns rfl (Or.inr (Or.inr (Or.inr (Or.inr ⟨rfl, rfl, rfl⟩)))) (hb hby d6_13) hr), hrun, hended, _, _, rfl, ?_, ⟨_, rfl⟩, hW, hsame.mono (by decide) (by decide)⟩
  show Q_max Z bx by_  h0 n0 _ T15.heap _
  rw [R15_0]
  exact ⟨rfl, M15, rfl⟩
theorem d9_0 : decode prog_17_method_5_code 0 = .ok (.dload_n 1, 1) := by decide +kernel
theorem d9_1 : decode prog_17_method_5_code 1 = .ok (.aload_n 0, 1) := by decide +kernel
theorem d9_2 : decode prog_17_method_5_code 2 = .ok (.getfield 43, 3) := by decide +kernel
theorem d9_5 : decode prog_17_method_5_code 5 = .ok (.dcmp .l, 1) := by decide +kernel
theorem d9_6 : decode prog_17_method_5_code 6 = .ok (.ifCond .gt 21, 3) := by decide +kernel
theorem d9_9 : decode prog_17_method_5_code 9 = .ok (.dload_n 1, 1) := by decide +kernel
theorem d9_10 : decode prog_17_method_5_code 10 = .ok (.aload_n 0, 1) := by decide +kernel
theorem d9_11 : decode prog_17_method_5_code 11 = .ok (.getfield 43, 3) := by decide +kernel
theorem d9_14 : decode prog_17_method_5_code 14 = .ok (.dcmp .l, 1) := by decide +kernel
theorem d9_15 : decode prog_17_method_5_code 15 = .ok (.ifCond .ne 22, 3) := by decide +kernel
theorem d9_18 : decode prog_17_method_5_code 18 = .ok (.dload_n 3, 1) := by decide +kernel
theorem d9_19 : decode prog_17_method_5_code 19 = .ok (.aload_n 0, 1) := by decide +kernel
theorem d9_20 : decode prog_17_method_5_code 20 = .ok (.getfield 46, 3) := by decide +kernel
theorem d9_23 : decode prog_17_method_5_code 23 = .ok (.dcmp .l, 1) := by decide +kernel
theorem d9_24 : decode prog_17_method_5_code 24 = .ok (.ifCond .le 13, 3) := by decide +kernel
theorem d9_27 : decode prog_17_method_5_code 27 = .ok (.aload_n 0, 1) := by decide +kernel
theorem d9_28 : decode prog_17_method_5_code 28 = .ok (.dload_n 1, 1) := by decide +kernel
theorem d9_29 : decode prog_17_method_5_code 29 = .ok (.putfield 43, 3) := by decide +kernel
theorem d9_32 : decode prog_17_method_5_code 32 = .ok (.aload_n 0, 1) := by decide +kernel
theorem d9_33 : decode prog_17_method_5_code 33 = .ok (.dload_n 3, 1) := by decide +kernel
theorem d9_34 : decode prog_17_method_5_code 34 = .ok (.putfield 46, 3) := by decide +kernel
theorem d9_37 : decode prog_17_method_5_code 37 = .ok (.return_, 1) := by decide +kernel
theorem pd2 : parseMethodDescriptor "(DD)V" = some ⟨[.double, .double], none⟩ := by decide +kernel
theorem pf_keep : plainFor (⟨"org/volder/cli/UlpError$Maximum", "keep", "(DD)V"⟩ : MethodName) = true := by first | exact plainFor_of_name (by first | (simp [plainName, overriddenIn, x]; done) | decide +kernel) | exact Jvm.Free.JP.mathPlain rfl (by decide +kernel) | decide +kernel
theorem ef_keep (m : MethodId) (ma : Addr) (mh : UInt64) (mt : UInt64) : entryFrame m #[(.ref ma), (.double mh), (.double mt)] 5 = mkF m 0 #[rv ma, .val (.double mh), .second, .val (.double mt), .second] [] := by first | (simp [entryFrame, mkF, argsToLocals, Value.category, maxLocals]; done) | rfl
def Q_keep (Z : State) (ma : Addr) (mh : UInt64) (mt : UInt64)  (h0 : Heap) (n0 : Nat) (v : Option Value) (h : Heap) (L : List Loc) : Prop := v = none ∧ Fr n0 L ∧ h = h0
set_option maxRecDepth 65536 in
set_option maxHeartbeats 40000000 in
theorem rm_keep (l : Launch) (Z : State) (a0 : Array Value) (hw : ∀ d ∈ tables_1, d.before a0 Z = true) (ws : List Jvm.Cond) (ma : Addr) (mh : UInt64) (mt : UInt64)  (h0 : Heap) (n0 : Nat) (Z0 : n0 ≤ h0.size) (P0 : Fld Z h0 ma "org/volder/cli/UlpError$Maximum" "head" "D" (.double (0 : UInt64))) (P1 : Fld Z h0 ma "org/volder/cli/UlpError$Maximum" "tail" "D" (.double (0 : UInt64))) (hmh : mh = (0 : UInt64)) (hmt : mt = (0 : UInt64))  :
    MetFree l (⟨"org/volder/cli/UlpError$Maximum", "keep", "(DD)V"⟩ : MethodName) (head1 (Jvm.Cond.code (⟨"org/volder/cli/UlpError$Maximum", "keep", "(DD)V"⟩ : MethodName) prog_17_method_5_code 5 none :: ws) ({ frames := 0, cells := 0, slots := 0, locals := 0 } : Room)) (fun a U => a = #[(.ref ma), (.double mh), (.double mt)] ∧ Z.Warmed39 U.vm ∧ U.heap = h0) (fun _ _ _ _ _ => True) (fun _ U o U' => ∃ v L, o = .returned v ∧ Q_keep Z ma mh mt  h0 n0 v U'.heap L ∧ FrameEnd U o U' L ({ frames := 0, cells := 0, slots := 0, locals := 0 } : Room).cells ({ frames := 0, cells := 0, slots := 0, locals := 0 } : Room).slots) := by
  refine MetFree.of_bodySF pf_keep hisR ?_
  intro p e s m args below meth c s₁ Bd hml0 hP hK
  obtain ⟨rfl, hZ, hh⟩ := hP
  have hx := Bd.exec
  have hby := Bd.bytes
  have hml : c.maxLocals = 5 := hml0
  have hown : s.vm.findClass "org/volder/cli/UlpError$Maximum" = some m.cls := findClass_of_methodNamed Bd.named
  have hnm := (name_of_methodNamed Bd.named Bd.method).1
  have X0 : Stand p l e ({ frames := 0, cells := 0, slots := 0, locals := 0 } : Room) s m #[(.ref ma), (.double mh), (.double mt)] below meth c s₁ [] 0 0 := Stand.of_body Bd
  have e0 : s₁.heap = h0 := by rw [← hh, Bd.state]; rfl
  have N0 := Fr.nil n0
  obtain ⟨S0, hS0⟩ : ∃ z, z = s₁.setTop (entryFrame m #[(.ref ma), (.double mh), (.double mt)] 5) := ⟨_, rfl⟩
  rw [← hS0]
  have g0 : Goes p e below S0 (s₁.setTop (mkF m 0 #[rv ma, .val (.double mh), .second, .val (.double mt), .second] [])) := fun t k => by rw [hS0]; exact castTop (ef_keep m ma mh mt) k
  have g18 : Goes p e below S0 (s₁.setTop (mkF m 2 #[rv ma, .val (.double mh), .second, .val (.double mt), .second] [(.ref ma), (.double mh)])) := fun t k => g0 t (by
    refine XS.dloadN X0.here hx rfl (hb hby d9_0) rfl ?_
    show Go p e below t s₁ m 1 #[rv ma, .val (.double mh), .second, .val (.double mt), .second] [(.double mh)]
    refine XS.aloadN X0.here hx rfl (hb hby d9_1) rfl rfl ?_
    show Go p e below t s₁ m 2 #[rv ma, .val (.double mh), .second, .val (.double mt), .second] [(.ref ma), (.double mh)]
    exact k)
  obtain ⟨T19, X19, e19, st19⟩ := getF X0 hx hZ hown (host := "") (Or.inl (hw _ (List.mem_of_getElem? (i := 60) rfl))) Via.refl e0 P0 (g := (mkF m 2 #[rv ma, .val (.double mh), .second, .val (.double mt), .second] [(.ref ma), (.double mh)])) rfl rfl (hb hby d9_2)
  have g20 : Goes p e below S0 (T19.setTop (mkF m 5 #[rv ma, .val (.double mh), .second, .val (.double mt), .second] [(.double (0 : UInt64)), (.double mh)])) := fun t k => g18 t (st19 t k)
  have g21 : Goes p e below S0 (T19.setTop (mkF m 11 #[rv ma, .val (.double mh), .second, .val (.double mt), .second] [(.ref ma), (.double mh)])) := fun t k => g20 t (by
    refine XS.dcmpS X19.here hx rfl (hb hby d9_5) rfl rfl ?_
    show Go p e below t T19 m 6 #[rv ma, .val (.double mh), .second, .val (.double mt), .second] [(.int (cmpValue (FP.dcmp mh (0 : UInt64)) .l))]
    refine XS.ifNo X19.here hx rfl (hb hby d9_6) rfl (dc_l_gt_f (fun q => by rw [hmh] at q; exact absurd q (by decide +kernel))) ?_
    show Go p e below t T19 m 9 #[rv ma, .val (.double mh), .second, .val (.double mt), .second] []
    refine XS.dloadN X19.here hx rfl (hb hby d9_9) rfl ?_
    show Go p e below t T19 m 10 #[rv ma, .val (.double mh), .second, .val (.double mt), .second] [(.double mh)]
    refine XS.aloadN X19.here hx rfl (hb hby d9_10) rfl rfl ?_
    show Go p e below t T19 m 11 #[rv ma, .val (.double mh), .second, .val (.double mt), .second] [(.ref ma), (.double mh)]
    exact k)
  obtain ⟨T22, X22, e22, st22⟩ := getF X19 hx hZ hown (host := "") (Or.inl (hw _ (List.mem_of_getElem? (i := 60) rfl))) Via.refl e19 P0 (g := (mkF m 11 #[rv ma, .val (.double mh), .second, .val (.double mt), .second] [(.ref ma), (.double mh)])) rfl rfl (hb hby d9_11)
  have g23 : Goes p e below S0 (T22.setTop (mkF m 14 #[rv ma, .val (.double mh), .second, .val (.double mt), .second] [(.double (0 : UInt64)), (.double mh)])) := fun t k => g21 t (st22 t k)
  have g24 : Goes p e below S0 (T22.setTop (mkF m 20 #[rv ma, .val (.double mh), .second, .val (.double mt), .second] [(.ref ma), (.double mt)])) := fun t k => g23 t (by
    refine XS.dcmpS X22.here hx rfl (hb hby d9_14) rfl rfl ?_
    show Go p e below t T22 m 15 #[rv ma, .val (.double mh), .second, .val (.double mt), .second] [(.int (cmpValue (FP.dcmp mh (0 : UInt64)) .l))]
    refine XS.ifNo X22.here hx rfl (hb hby d9_15) rfl (dc_l_ne_f (by rw [hmh]; decide +kernel)) ?_
    show Go p e below t T22 m 18 #[rv ma, .val (.double mh), .second, .val (.double mt), .second] []
    refine XS.dloadN X22.here hx rfl (hb hby d9_18) rfl ?_
    show Go p e below t T22 m 19 #[rv ma, .val (.double mh), .second, .val (.double mt), .second] [(.double mt)]
    refine XS.aloadN X22.here hx rfl (hb hby d9_19) rfl rfl ?_
    show Go p e below t T22 m 20 #[rv ma, .val (.double mh), .second, .val (.double mt), .second] [(.ref ma), (.double mt)]
    exact k)
  obtain ⟨T25, X25, e25, st25⟩ := getF X22 hx hZ hown (host := "") (Or.inl (hw _ (List.mem_of_getElem? (i := 62) rfl))) Via.refl e22 P1 (g := (mkF m 20 #[rv ma, .val (.double mh), .second, .val (.double mt), .second] [(.ref ma), (.double mt)])) rfl rfl (hb hby d9_20)
  have g26 : Goes p e below S0 (T25.setTop (mkF m 23 #[rv ma, .val (.double mh), .second, .val (.double mt), .second] [(.double (0 : UInt64)), (.double mt)])) := fun t k => g24 t (st25 t k)
  have g27 : Goes p e below S0 (T25.setTop (mkF m 37 #[rv ma, .val (.double mh), .second, .val (.double mt), .second] [])) := fun t k => g26 t (by
    refine XS.dcmpS X25.here hx rfl (hb hby d9_23) rfl rfl ?_
    show Go p e below t T25 m 24 #[rv ma, .val (.double mh), .second, .val (.double mt), .second] [(.int (cmpValue (FP.dcmp mt (0 : UInt64)) .l))]
    refine XS.ifYes X25.here hx rfl (pc0 := 24) (pc' := 37) rfl (hb hby d9_24) rfl (dc_l_le_t (fun q => by rw [hmt] at q; exact absurd q (by decide +kernel))) (by decide) (by decide) ?_
    show Go p e below t T25 m 37 #[rv ma, .val (.double mh), .second, .val (.double mt), .second] []
    exact k)
  obtain ⟨fs, hr, hrun, hended, hW, hsame⟩ := X25.leave (v := none) (fun _ => rfl)
  refine ⟨_, _, g27 _ (X25.returnOut hx Bd.returns (hb hby d9_37) hr), hrun, hended, _, _, rfl, ?_, ⟨_, rfl⟩, hW, hsame.mono (by decide) (by decide)⟩
  show Q_keep Z ma mh mt  h0 n0 _ T25.heap _
  rw [e25]
  exact ⟨rfl, N0, rfl⟩
theorem d8_0 : decode prog_17_method_3_code 0 = .ok (.aload_n 0, 1) := by decide +kernel
theorem d8_1 : decode prog_17_method_3_code 1 = .ok (.aload_n 1, 1) := by decide +kernel
theorem d8_2 : decode prog_17_method_3_code 2 = .ok (.getfield 43, 3) := by decide +kernel
theorem d8_5 : decode prog_17_method_3_code 5 = .ok (.aload_n 1, 1) := by decide +kernel
theorem d8_6 : decode prog_17_method_3_code 6 = .ok (.getfield 46, 3) := by decide +kernel
theorem d8_9 : decode prog_17_method_3_code 9 = .ok (.invokevirtual 37, 3) := by decide +kernel
theorem d8_12 : decode prog_17_method_3_code 12 = .ok (.return_, 1) := by decide +kernel
theorem pd3 : parseMethodDescriptor "(Lorg/volder/cli/UlpError$Maximum;)V" = some ⟨[(.object "org/volder/cli/UlpError$Maximum")], none⟩ := by decide +kernel
theorem pf_madd : plainFor (⟨"org/volder/cli/UlpError$Maximum", "add", "(Lorg/volder/cli/UlpError$Maximum;)V"⟩ : MethodName) = true := by first | exact plainFor_of_name (by first | (simp [plainName, overriddenIn, x]; done) | decide +kernel) | exact Jvm.Free.JP.mathPlain rfl (by decide +kernel) | decide +kernel
theorem ef_madd (m : MethodId) (ma : Addr) (mb : Addr) : entryFrame m #[(.ref ma), (.ref mb)] 2 = mkF m 0 #[rv ma, rv mb] [] := by first | (simp [entryFrame, mkF, argsToLocals, Value.category, maxLocals]; done) | rfl
def Q_madd (Z : State) (ma : Addr) (mb : Addr)  (h0 : Heap) (n0 : Nat) (v : Option Value) (h : Heap) (L : List Loc) : Prop := v = none ∧ Fr n0 L ∧ h = h0
set_option maxRecDepth 65536 in
set_option maxHeartbeats 40000000 in
theorem rm_madd (l : Launch) (Z : State) (a0 : Array Value) (hw : ∀ d ∈ tables_1, d.before a0 Z = true) (ws : List Jvm.Cond) (ma : Addr) (mb : Addr)  (h0 : Heap) (n0 : Nat) (Z0 : n0 ≤ h0.size) (P0 : Exa Z h0 ma "org/volder/cli/UlpError$Maximum") (P1 : Fld Z h0 ma "org/volder/cli/UlpError$Maximum" "head" "D" (.double (0 : UInt64))) (P2 : Fld Z h0 ma "org/volder/cli/UlpError$Maximum" "tail" "D" (.double (0 : UInt64))) (P3 : Fld Z h0 mb "org/volder/cli/UlpError$Maximum" "head" "D" (.double (0 : UInt64))) (P4 : Fld Z h0 mb "org/volder/cli/UlpError$Maximum" "tail" "D" (.double (0 : UInt64)))  :
    MetFree l (⟨"org/volder/cli/UlpError$Maximum", "add", "(Lorg/volder/cli/UlpError$Maximum;)V"⟩ : MethodName) (head1 (Jvm.Cond.code (⟨"org/volder/cli/UlpError$Maximum", "add", "(Lorg/volder/cli/UlpError$Maximum;)V"⟩ : MethodName) prog_17_method_3_code 2 none :: ws) ({ frames := 1, cells := 0, slots := 0, locals := 16 } : Room)) (fun a U => a = #[(.ref ma), (.ref mb)] ∧ Z.Warmed39 U.vm ∧ U.heap = h0) (fun _ _ _ _ _ => True) (fun _ U o U' => ∃ v L, o = .returned v ∧ Q_madd Z ma mb  h0 n0 v U'.heap L ∧ FrameEnd U o U' L ({ frames := 1, cells := 0, slots := 0, locals := 16 } : Room).cells ({ frames := 1, cells := 0, slots := 0, locals := 16 } : Room).slots) := by
  refine MetFree.of_bodySF pf_madd hisR ?_
  intro p e s m args below meth c s₁ Bd hml0 hP hK
  obtain ⟨rfl, hZ, hh⟩ := hP
  have hx := Bd.exec
  have hby := Bd.bytes
  have hml : c.maxLocals = 2 := hml0
  have hown : s.vm.findClass "org/volder/cli/UlpError$Maximum" = some m.cls := findClass_of_methodNamed Bd.named
  have hnm := (name_of_methodNamed Bd.named Bd.method).1
  have X0 : Stand p l e ({ frames := 1, cells := 0, slots := 0, locals := 16 } : Room) s m #[(.ref ma), (.ref mb)] below meth c s₁ [] 0 0 := Stand.of_body Bd
  have e0 : s₁.heap = h0 := by rw [← hh, Bd.state]; rfl
  have N0 := Fr.nil n0
  obtain ⟨S0, hS0⟩ : ∃ z, z = s₁.setTop (entryFrame m #[(.ref ma), (.ref mb)] 2) := ⟨_, rfl⟩
  rw [← hS0]
  have g0 : Goes p e below S0 (s₁.setTop (mkF m 0 #[rv ma, rv mb] [])) := fun t k => by rw [hS0]; exact castTop (ef_madd m ma mb) k
  have g28 : Goes p e below S0 (s₁.setTop (mkF m 2 #[rv ma, rv mb] [(.ref mb), (.ref ma)])) := fun t k => g0 t (by
    refine XS.aloadN X0.here hx rfl (hb hby d8_0) rfl rfl ?_
    show Go p e below t s₁ m 1 #[rv ma, rv mb] [(.ref ma)]
    refine XS.aloadN X0.here hx rfl (hb hby d8_1) rfl rfl ?_
    show Go p e below t s₁ m 2 #[rv ma, rv mb] [(.ref mb), (.ref ma)]
    exact k)
  obtain ⟨T29, X29, e29, st29⟩ := getF X0 hx hZ hown (host := "") (Or.inl (hw _ (List.mem_of_getElem? (i := 60) rfl))) Via.refl e0 P3 (g := (mkF m 2 #[rv ma, rv mb] [(.ref mb), (.ref ma)])) rfl rfl (hb hby d8_2)
  have g30 : Goes p e below S0 (T29.setTop (mkF m 5 #[rv ma, rv mb] [(.double (0 : UInt64)), (.ref ma)])) := fun t k => g28 t (st29 t k)
  have g31 : Goes p e below S0 (T29.setTop (mkF m 6 #[rv ma, rv mb] [(.ref mb), (.double (0 : UInt64)), (.ref ma)])) := fun t k => g30 t (by
    refine XS.aloadN X29.here hx rfl (hb hby d8_5) rfl rfl ?_
    show Go p e below t T29 m 6 #[rv ma, rv mb] [(.ref mb), (.double (0 : UInt64)), (.ref ma)]
    exact k)
  obtain ⟨T32, X32, e32, st32⟩ := getF X29 hx hZ hown (host := "") (Or.inl (hw _ (List.mem_of_getElem? (i := 62) rfl))) Via.refl e29 P4 (g := (mkF m 6 #[rv ma, rv mb] [(.ref mb), (.double (0 : UInt64)), (.ref ma)])) rfl rfl (hb hby d8_6)
  have g33 : Goes p e below S0 (T32.setTop (mkF m 9 #[rv ma, rv mb] [(.double (0 : UInt64)), (.double (0 : UInt64)), (.ref ma)])) := fun t k => g31 t (st32 t k)
  obtain ⟨cq34, q34, q34b⟩ := Exa.cell P0
  obtain ⟨_, _, ⟨T34, L34, k34, n34⟩, -, X34, ⟨Lc34, hQ34, l34, y34, z34⟩, st34⟩ := X32.privateBack hx (y := (⟨"org/volder/cli/UlpError$Maximum", "keep", "(DD)V"⟩ : MethodName)) hown (mvT hZ (hw _ (List.mem_of_getElem? (i := 64) rfl))) (mvT hZ (hw _ (List.mem_of_getElem? (i := 65) rfl))) (own_selp (mvT hZ (hw _ (List.mem_of_getElem? (i := 58) rfl))) rfl (Cond.privateMethod_at (mvP hZ (hw _ (List.mem_of_getElem? (i := 66) rfl)) (args := #[]))) (mvT hZ (hw _ (List.mem_of_getElem? (i := 65) rfl))) (by decide)) (Cond.privateMethod_at (mvP hZ (hw _ (List.mem_of_getElem? (i := 66) rfl)) (args := #[]))) (mvT hZ (hw _ (List.mem_of_getElem? (i := 67) rfl))) (by decide) (backOf (W := 0) (rm_keep l Z a0 hw [] ma (0 : UInt64) (0 : UInt64)  h0 n0 Z0 P1 P2 rfl rfl) hZ (hw _ (List.mem_of_getElem? (i := 67) rfl)) (hw _ (List.mem_of_getElem? (i := 16) rfl)) (by decide) (by decide)) (g := (mkF m 9 #[rv ma, rv mb] [(.double (0 : UInt64)), (.double (0 : UInt64)), (.ref ma)])) rfl (by rw [hml]; rfl) (Steps.refl _) (a := ma) (by rw [e32]; exact q34) q34b (argsL := [(.double (0 : UInt64)), (.double (0 : UInt64))]) (rest := []) (lenOf pd2 rfl) rfl (by show 2 * 0 + _ ≤ _; exact Nat.le_of_eq rfl) (hb hby d8_9) (fun _ _ => ⟨rfl, e32, (by decide : 0 + 0 ≤ _), (by decide : 0 + 0 ≤ _)⟩)
  dsimp only [Pt.U, Pt.locs, Pt.cells, Pt.slots] at X34 l34 y34 z34 st34 hQ34
  subst l34 y34 z34
  obtain ⟨rfl, N34, R34_0⟩ := hQ34
  have M34 := Fr.app N0 N34
  have g35 : Goes p e below S0 (T34.setTop (mkF m 12 #[rv ma, rv mb] [])) := fun t k => g33 t (st34.trans k)
  obtain ⟨fs, hr, hrun, hended, hW, hsame⟩ := X34.leave (v := none) (fun _ => rfl)
  refine ⟨_, _, g35 _ (X34.returnOut hx Bd.returns (hb hby d8_12) hr), hrun, hended, _, _, rfl, ?_, ⟨_, rfl⟩, hW, hsame.mono (by decide) (by decide)⟩
  show Q_madd Z ma mb  h0 n0 _ T34.heap _
  rw [R34_0]
  exact ⟨rfl, M34, rfl⟩
theorem d2_0 : decode prog_17_method_1_code 0 = .ok (.aload_n 0, 1) := by decide +kernel
theorem d2_1 : decode prog_17_method_1_code 1 = .ok (.invokespecial 3, 3) := by decide +kernel
theorem d2_4 : decode prog_17_method_1_code 4 = .ok (.return_, 1) := by decide +kernel
theorem pd4 : parseMethodDescriptor "()V" = some ⟨[], none⟩ := by decide +kernel
theorem pf_mini : plainFor (⟨"org/volder/cli/UlpError$Maximum", "<init>", "()V"⟩ : MethodName) = true := by first | exact plainFor_of_name (by first | (simp [plainName, overriddenIn, x]; done) | decide +kernel) | exact Jvm.Free.JP.mathPlain rfl (by decide +kernel) | decide +kernel
theorem ef_mini (m : MethodId) (ma : Addr) : entryFrame m #[(.ref ma)] 1 = mkF m 0 #[rv ma] [] := by first | (simp [entryFrame, mkF, argsToLocals, Value.category, maxLocals]; done) | rfl
def Q_mini (Z : State) (ma : Addr)  (h0 : Heap) (n0 : Nat) (v : Option Value) (h : Heap) (L : List Loc) : Prop := v = none ∧ Fr n0 L ∧ h = h0
set_option maxRecDepth 65536 in
set_option maxHeartbeats 40000000 in
theorem rm_mini (l : Launch) (Z : State) (a0 : Array Value) (hw : ∀ d ∈ tables_1, d.before a0 Z = true) (ws : List Jvm.Cond) (ma : Addr)  (h0 : Heap) (n0 : Nat) (Z0 : n0 ≤ h0.size)   :
    MetFree l (⟨"org/volder/cli/UlpError$Maximum", "<init>", "()V"⟩ : MethodName) (head1 (Jvm.Cond.code (⟨"org/volder/cli/UlpError$Maximum", "<init>", "()V"⟩ : MethodName) prog_17_method_1_code 1 none :: ws) ({ frames := 1, cells := 0, slots := 0, locals := 12 } : Room)) (fun a U => a = #[(.ref ma)] ∧ Z.Warmed39 U.vm ∧ U.heap = h0) (fun _ _ _ _ _ => True) (fun _ U o U' => ∃ v L, o = .returned v ∧ Q_mini Z ma  h0 n0 v U'.heap L ∧ FrameEnd U o U' L ({ frames := 1, cells := 0, slots := 0, locals := 12 } : Room).cells ({ frames := 1, cells := 0, slots := 0, locals := 12 } : Room).slots) := by
  refine MetFree.of_bodySF pf_mini hisR ?_
  intro p e s m args below meth c s₁ Bd hml0 hP hK
  obtain ⟨rfl, hZ, hh⟩ := hP
  have hx := Bd.exec
  have hby := Bd.bytes
  have hml : c.maxLocals = 1 := hml0
  have hown : s.vm.findClass "org/volder/cli/UlpError$Maximum" = some m.cls := findClass_of_methodNamed Bd.named
  have hnm := (name_of_methodNamed Bd.named Bd.method).1
  have X0 : Stand p l e ({ frames := 1, cells := 0, slots := 0, locals := 12 } : Room) s m #[(.ref ma)] below meth c s₁ [] 0 0 := Stand.of_body Bd
  have e0 : s₁.heap = h0 := by rw [← hh, Bd.state]; rfl
  have N0 := Fr.nil n0
  obtain ⟨S0, hS0⟩ : ∃ z, z = s₁.setTop (entryFrame m #[(.ref ma)] 1) := ⟨_, rfl⟩
  rw [← hS0]
  have g0 : Goes p e below S0 (s₁.setTop (mkF m 0 #[rv ma] [])) := fun t k => by rw [hS0]; exact castTop (ef_mini m ma) k
  have g36 : Goes p e below S0 (s₁.setTop (mkF m 1 #[rv ma] [(.ref ma)])) := fun t k => g0 t (by
    refine XS.aloadN X0.here hx rfl (hb hby d2_0) rfl rfl ?_
    show Go p e below t s₁ m 1 #[rv ma] [(.ref ma)]
    exact k)
  obtain ⟨T37, X37, e37, st37⟩ := initO X0 hx hZ hown (hw _ (List.mem_of_getElem? (i := 20) rfl)) (hw _ (List.mem_of_getElem? (i := 8) rfl)) (hw _ (List.mem_of_getElem? (i := 9) rfl)) e0 (g := (mkF m 1 #[rv ma] [(.ref ma)])) rfl (by rw [hml]; rfl) rfl (hb hby d2_1) (by decide) (W := 0) (by show 2 * 0 + _ ≤ _; exact Nat.le_of_eq rfl) (by decide)
  have g38 : Goes p e below S0 (T37.setTop (mkF m 4 #[rv ma] [])) := fun t k => g36 t (st37 t k)
  obtain ⟨fs, hr, hrun, hended, hW, hsame⟩ := X37.leave (v := none) (fun _ => rfl)
  refine ⟨_, _, g38 _ (X37.returnOut hx Bd.returns (hb hby d2_4) hr), hrun, hended, _, _, rfl, ?_, ⟨_, rfl⟩, hW, hsame.mono (by decide) (by decide)⟩
  show Q_mini Z ma  h0 n0 _ T37.heap _
  rw [e37]
  exact ⟨rfl, N0, rfl⟩
theorem d0_0 : decode prog_8_method_1_code 0 = .ok (.aload_n 0, 1) := by decide +kernel
theorem d0_1 : decode prog_8_method_1_code 1 = .ok (.invokespecial 1, 3) := by decide +kernel
theorem d0_4 : decode prog_8_method_1_code 4 = .ok (.aload_n 0, 1) := by decide +kernel
theorem d0_5 : decode prog_8_method_1_code 5 = .ok (.getstatic 7, 3) := by decide +kernel
theorem d0_8 : decode prog_8_method_1_code 8 = .ok (.putfield 13, 3) := by decide +kernel
theorem d0_11 : decode prog_8_method_1_code 11 = .ok (.aload_n 0, 1) := by decide +kernel
theorem d0_12 : decode prog_8_method_1_code 12 = .ok (.new 18, 3) := by decide +kernel
theorem d0_15 : decode prog_8_method_1_code 15 = .ok (.dup, 1) := by decide +kernel
theorem d0_16 : decode prog_8_method_1_code 16 = .ok (.invokespecial 20, 3) := by decide +kernel
theorem d0_19 : decode prog_8_method_1_code 19 = .ok (.putfield 21, 3) := by decide +kernel
theorem d0_22 : decode prog_8_method_1_code 22 = .ok (.return_, 1) := by decide +kernel
theorem pf_ini : plainFor (⟨"org/volder/cli/Census", "<init>", "()V"⟩ : MethodName) = true := by first | exact plainFor_of_name (by first | (simp [plainName, overriddenIn, x]; done) | decide +kernel) | exact Jvm.Free.JP.mathPlain rfl (by decide +kernel) | decide +kernel
theorem ef_ini (m : MethodId) (ca : Addr) : entryFrame m #[(.ref ca)] 1 = mkF m 0 #[rv ca] [] := by first | (simp [entryFrame, mkF, argsToLocals, Value.category, maxLocals]; done) | rfl
def Q_ini (Z : State) (ca : Addr) (sz : Addr) (h0 : Heap) (n0 : Nat) (v : Option Value) (h : Heap) (L : List Loc) : Prop := ∃ (cm : Addr), v = none ∧ Fr n0 L ∧ (Keep h0 h [ca]) ∧ (h0.size ≤ cm) ∧ (Exa Z h ca "org/volder/cli/Census") ∧ (Fld Z h ca "org/volder/cli/Census" "unfaithful" "J" (.long (0 : Int64))) ∧ (Fld Z h ca "org/volder/cli/Census" "unbounded" "Z" (.int (0 : Int32))) ∧ (Fld Z h ca "org/volder/cli/Census" "maxError" "Ljava/math/BigDecimal;" (.ref sz)) ∧ (Fld Z h ca "org/volder/cli/Census" "maxErrorAgainstDoubles" "Lorg/volder/cli/UlpError$Maximum;" (.ref cm)) ∧ (Exa Z h cm "org/volder/cli/UlpError$Maximum") ∧ (Fld Z h cm "org/volder/cli/UlpError$Maximum" "head" "D" (.double (0 : UInt64))) ∧ (Fld Z h cm "org/volder/cli/UlpError$Maximum" "tail" "D" (.double (0 : UInt64)))
set_option maxRecDepth 65536 in
set_option maxHeartbeats 40000000 in
theorem rm_ini (l : Launch) (Z : State) (a0 : Array Value) (hw : ∀ d ∈ tables_1, d.before a0 Z = true) (ws : List Jvm.Cond) (ca : Addr) (sz : Addr) (h0 : Heap) (n0 : Nat) (Z0 : n0 ≤ h0.size) (P0 : Exa Z h0 ca "org/volder/cli/Census") (P1 : Fld Z h0 ca "org/volder/cli/Census" "unfaithful" "J" (.long (0 : Int64))) (P2 : Fld Z h0 ca "org/volder/cli/Census" "unbounded" "Z" (.int (0 : Int32))) (P3 : Fld Z h0 ca "org/volder/cli/Census" "maxError" "Ljava/math/BigDecimal;" .null) (P4 : Fld Z h0 ca "org/volder/cli/Census" "maxErrorAgainstDoubles" "Lorg/volder/cli/UlpError$Maximum;" .null) (P5 : n0 ≤ ca) (P6 : Sta Z h0 "java/math/BigDecimal" "ZERO" "Ljava/math/BigDecimal;" (.ref sz))  :
    MetFree l (⟨"org/volder/cli/Census", "<init>", "()V"⟩ : MethodName) (head1 (Jvm.Cond.code (⟨"org/volder/cli/Census", "<init>", "()V"⟩ : MethodName) prog_8_method_1_code 1 none :: ws) ({ frames := 2, cells := 1, slots := 2, locals := 30 } : Room)) (fun a U => a = #[(.ref ca)] ∧ Z.Warmed39 U.vm ∧ U.heap = h0) (fun _ _ _ _ _ => True) (fun _ U o U' => ∃ v L, o = .returned v ∧ Q_ini Z ca sz h0 n0 v U'.heap L ∧ FrameEnd U o U' L ({ frames := 2, cells := 1, slots := 2, locals := 30 } : Room).cells ({ frames := 2, cells := 1, slots := 2, locals := 30 } : Room).slots) := by
  refine MetFree.of_bodySF pf_ini hisR ?_
  intro p e s m args below meth c s₁ Bd hml0 hP hK
  obtain ⟨rfl, hZ, hh⟩ := hP
  have hx := Bd.exec
  have hby := Bd.bytes
  have hml : c.maxLocals = 1 := hml0
  have hown : s.vm.findClass "org/volder/cli/Census" = some m.cls := findClass_of_methodNamed Bd.named
  have hnm := (name_of_methodNamed Bd.named Bd.method).1
  have X0 : Stand p l e ({ frames := 2, cells := 1, slots := 2, locals := 30 } : Room) s m #[(.ref ca)] below meth c s₁ [] 0 0 := Stand.of_body Bd
  have e0 : s₁.heap = h0 := by rw [← hh, Bd.state]; rfl
  have N0 := Fr.nil n0
  obtain ⟨S0, hS0⟩ : ∃ z, z = s₁.setTop (entryFrame m #[(.ref ca)] 1) := ⟨_, rfl⟩
  rw [← hS0]
  have g0 : Goes p e below S0 (s₁.setTop (mkF m 0 #[rv ca] [])) := fun t k => by rw [hS0]; exact castTop (ef_ini m ca) k
  have g39 : Goes p e below S0 (s₁.setTop (mkF m 1 #[rv ca] [(.ref ca)])) := fun t k => g0 t (by
    refine XS.aloadN X0.here hx rfl (hb hby d0_0) rfl rfl ?_
    show Go p e below t s₁ m 1 #[rv ca] [(.ref ca)]
    exact k)
  obtain ⟨T40, X40, e40, st40⟩ := initO X0 hx hZ hown (hw _ (List.mem_of_getElem? (i := 7) rfl)) (hw _ (List.mem_of_getElem? (i := 8) rfl)) (hw _ (List.mem_of_getElem? (i := 9) rfl)) e0 (g := (mkF m 1 #[rv ca] [(.ref ca)])) rfl (by rw [hml]; rfl) rfl (hb hby d0_1) (by decide) (W := 0) (by show 2 * 0 + _ ≤ _; exact Nat.le_of_eq rfl) (by decide)
  have g41 : Goes p e below S0 (T40.setTop (mkF m 4 #[rv ca] [])) := fun t k => g39 t (st40 t k)
  have g42 : Goes p e below S0 (T40.setTop (mkF m 5 #[rv ca] [(.ref ca)])) := fun t k => g41 t (by
    refine XS.aloadN X40.here hx rfl (hb hby d0_4) rfl rfl ?_
    show Go p e below t T40 m 5 #[rv ca] [(.ref ca)]
    exact k)
  obtain ⟨T43, X43, e43, st43⟩ := getS (host := "") X40 hx hZ hown (hw _ (List.mem_of_getElem? (i := 10) rfl)) Via.refl e40 P6 (g := (mkF m 5 #[rv ca] [(.ref ca)])) rfl (hb hby d0_5)
  have g44 : Goes p e below S0 (T43.setTop (mkF m 8 #[rv ca] [(.ref sz), (.ref ca)])) := fun t k => g42 t (st43 t k)
  obtain ⟨T45, h45, X45, e45, W45, st45⟩ := putF X43 hx hZ hown (host := "") (Or.inl (hw _ (List.mem_of_getElem? (i := 12) rfl))) Via.refl e43 P3 P0 (Or.inl (hw _ (List.mem_of_getElem? (i := 13) rfl))) (hw _ (List.mem_of_getElem? (i := 2) rfl)) (ty := (.object "java/math/BigDecimal")) (by decide) rfl rfl (g := (mkF m 8 #[rv ca] [(.ref sz), (.ref ca)])) rfl rfl (hb hby d0_8)
  have N45 := Fr.snoc X45 N0 P5
  have Fw45 := Fld.same W45 P3
  have g46 : Goes p e below S0 (T45.setTop (mkF m 11 #[rv ca] [])) := fun t k => g44 t (st45 t k)
  have g47 : Goes p e below S0 (T45.setTop (mkF m 12 #[rv ca] [(.ref ca)])) := fun t k => g46 t (by
    refine XS.aloadN X45.here hx rfl (hb hby d0_11) rfl rfl ?_
    show Go p e below t T45 m 12 #[rv ca] [(.ref ca)]
    exact k)
  obtain ⟨T48, h48, X48, e48, E48, A48, D48, -, st48⟩ := newO X45 hx hZ hown (hw _ (List.mem_of_getElem? (i := 14) rfl)) (hw _ (List.mem_of_getElem? (i := 15) rfl)) (hw _ (List.mem_of_getElem? (i := 16) rfl)) e45 (g := (mkF m 12 #[rv ca] [(.ref ca)])) rfl (hb hby d0_12) (by decide) (by decide)
  obtain ⟨b48, gb48⟩ : ∃ z, z = h45.size := ⟨_, rfl⟩
  have sz48 : h0.size ≤ b48 := Nat.le_trans (Nat.le_trans (Nat.le_refl _) (Nat.le_of_eq W45.size.symm)) (Nat.le_of_eq gb48.symm)
  have ng48 : n0 ≤ b48 := Nat.le_trans Z0 sz48
  rw [← gb48] at A48 D48 st48
  have F48_49 : Fld Z h48 b48 "org/volder/cli/UlpError$Maximum" "head" "D" (.double (0 : UInt64)) := D48 (Or.inl (hw _ (List.mem_of_getElem? (i := 61) rfl))) (ty := .double) (by decide)
  have F48_50 : Fld Z h48 b48 "org/volder/cli/UlpError$Maximum" "tail" "D" (.double (0 : UInt64)) := D48 (Or.inl (hw _ (List.mem_of_getElem? (i := 63) rfl))) (ty := .double) (by decide)
  have g51 : Goes p e below S0 (T48.setTop (mkF m 15 #[rv ca] [(.ref b48), (.ref ca)])) := fun t k => g47 t (st48 t k)
  have g52 : Goes p e below S0 (T48.setTop (mkF m 16 #[rv ca] [(.ref b48), (.ref b48), (.ref ca)])) := fun t k => g51 t (by
    refine XS.dup X48.here hx rfl (hb hby d0_15) rfl rfl ?_
    show Go p e below t T48 m 16 #[rv ca] [(.ref b48), (.ref b48), (.ref ca)]
    exact k)
  obtain ⟨_, _, ⟨T53, L53, k53, n53⟩, -, X53, ⟨Lc53, hQ53, l53, y53, z53⟩, st53⟩ := X48.specialBack hx (y := (⟨"org/volder/cli/UlpError$Maximum", "<init>", "()V"⟩ : MethodName)) rfl hown (mvT hZ (hw _ (List.mem_of_getElem? (i := 17) rfl))) (mvT hZ (hw _ (List.mem_of_getElem? (i := 18) rfl))) (mvT hZ (hw _ (List.mem_of_getElem? (i := 19) rfl))) (by decide) (backOf (W := 2) (rm_mini l Z a0 hw [] b48  h48 n0 (Nat.le_trans Z0 (Nat.le_trans (Nat.le_trans (Nat.le_refl _) (Nat.le_of_eq W45.size.symm)) E48.1)) ) hZ (hw _ (List.mem_of_getElem? (i := 19) rfl)) (hw _ (List.mem_of_getElem? (i := 16) rfl)) (by decide) (by decide)) (g := (mkF m 16 #[rv ca] [(.ref b48), (.ref b48), (.ref ca)])) rfl (by rw [hml]; rfl) (Steps.refl _) (a := b48) (argsL := []) (rest := [(.ref b48), (.ref ca)]) (lenOf pd4 rfl) rfl (by show 2 * 0 + _ ≤ _; exact Nat.le_of_eq rfl) (hb hby d0_16) (fun _ _ => ⟨rfl, e48, (by decide : 1 + 0 ≤ _), (by decide : 2 + 0 ≤ _)⟩)
  dsimp only [Pt.U, Pt.locs, Pt.cells, Pt.slots] at X53 l53 y53 z53 st53 hQ53
  subst l53 y53 z53
  obtain ⟨rfl, N53, R53_0⟩ := hQ53
  have M53 := Fr.app N45 N53
  have g54 : Goes p e below S0 (T53.setTop (mkF m 19 #[rv ca] [(.ref b48), (.ref ca)])) := fun t k => g52 t (st53.trans k)
  obtain ⟨T55, h55, X55, e55, W55, st55⟩ := putF X53 hx hZ hown (host := "") (Or.inl (hw _ (List.mem_of_getElem? (i := 21) rfl))) Via.refl R53_0 ((P4.other W45 (Or.inr (slot_ne (Or.inr (hw _ (List.mem_of_getElem? (i := 22) rfl))) (Or.inl (hw _ (List.mem_of_getElem? (i := 13) rfl))) (by decide) (t := (.object "org/volder/cli/UlpError$Maximum")) (t' := (.object "java/math/BigDecimal")) (by decide) (by decide)))).ext E48) ((P0.wr W45).ext E48) (Or.inr ⟨(hw _ (List.mem_of_getElem? (i := 22) rfl)), rfl, hnm⟩) (hw _ (List.mem_of_getElem? (i := 2) rfl)) (ty := (.object "org/volder/cli/UlpError$Maximum")) (by decide) rfl rfl (g := (mkF m 19 #[rv ca] [(.ref b48), (.ref ca)])) rfl rfl (hb hby d0_19)
  have N55 := Fr.snoc X55 M53 P5
  have Fw55 := Fld.same W55 ((P4.other W45 (Or.inr (slot_ne (Or.inr (hw _ (List.mem_of_getElem? (i := 22) rfl))) (Or.inl (hw _ (List.mem_of_getElem? (i := 13) rfl))) (by decide) (t := (.object "org/volder/cli/UlpError$Maximum")) (t' := (.object "java/math/BigDecimal")) (by decide) (by decide)))).ext E48)
  have g56 : Goes p e below S0 (T55.setTop (mkF m 22 #[rv ca] [])) := fun t k => g54 t (st55 t k)
  obtain ⟨fs, hr, hrun, hended, hW, hsame⟩ := X55.leave (v := none) (fun _ => rfl)
  refine ⟨_, _, g56 _ (X55.returnOut hx Bd.returns (hb hby d0_22) hr), hrun, hended, _, _, rfl, ?_, ⟨_, rfl⟩, hW, hsame.mono (by decide) (by decide)⟩
  show Q_ini Z ca sz h0 n0 _ T55.heap _
  rw [e55]
  exact ⟨b48, rfl, N55, ((((Keep.refl h0 [ca]).wr W45 (Or.inl (List.mem_of_getElem? (i := 0) rfl))).ext E48).wr W55 (Or.inl (List.mem_of_getElem? (i := 0) rfl))), sz48, (((P0.wr W45).ext E48).wr W55), (((P1.other W45 (Or.inr (slot_ne (Or.inl (hw _ (List.mem_of_getElem? (i := 29) rfl))) (Or.inl (hw _ (List.mem_of_getElem? (i := 13) rfl))) (by decide) (t := .long) (t' := (.object "java/math/BigDecimal")) (by decide) (by decide)))).ext E48).other W55 (Or.inr (slot_ne (Or.inl (hw _ (List.mem_of_getElem? (i := 29) rfl))) (Or.inr (hw _ (List.mem_of_getElem? (i := 22) rfl))) (by decide) (t := .long) (t' := (.object "org/volder/cli/UlpError$Maximum")) (by decide) (by decide)))), (((P2.other W45 (Or.inr (slot_ne (Or.inl (hw _ (List.mem_of_getElem? (i := 69) rfl))) (Or.inl (hw _ (List.mem_of_getElem? (i := 13) rfl))) (by decide) (t := .boolean) (t' := (.object "java/math/BigDecimal")) (by decide) (by decide)))).ext E48).other W55 (Or.inr (slot_ne (Or.inl (hw _ (List.mem_of_getElem? (i := 69) rfl))) (Or.inr (hw _ (List.mem_of_getElem? (i := 22) rfl))) (by decide) (t := .boolean) (t' := (.object "org/volder/cli/UlpError$Maximum")) (by decide) (by decide)))), ((Fw45.ext E48).other W55 (Or.inr (slot_ne (Or.inl (hw _ (List.mem_of_getElem? (i := 13) rfl))) (Or.inr (hw _ (List.mem_of_getElem? (i := 22) rfl))) (by decide) (t := (.object "java/math/BigDecimal")) (t' := (.object "org/volder/cli/UlpError$Maximum")) (by decide) (by decide)))), Fw55, (A48.wr W55), (F48_49.other W55 (Or.inl (Ne.symm (Nat.ne_of_lt (Nat.lt_of_lt_of_le (P0.wr W45).lt (Nat.le_of_eq gb48.symm)))))), (F48_50.other W55 (Or.inl (Ne.symm (Nat.ne_of_lt (Nat.lt_of_lt_of_le (P0.wr W45).lt (Nat.le_of_eq gb48.symm))))))⟩
theorem d4_0 : decode prog_8_method_3_code 0 = .ok (.aload_n 0, 1) := by decide +kernel
theorem d4_1 : decode prog_8_method_3_code 1 = .ok (.dup, 1) := by decide +kernel
theorem d4_2 : decode prog_8_method_3_code 2 = .ok (.getfield 56, 3) := by decide +kernel
theorem d4_5 : decode prog_8_method_3_code 5 = .ok (.lconst 1, 1) := by decide +kernel
theorem d4_6 : decode prog_8_method_3_code 6 = .ok (.ladd, 1) := by decide +kernel
theorem d4_7 : decode prog_8_method_3_code 7 = .ok (.putfield 56, 3) := by decide +kernel
theorem d4_10 : decode prog_8_method_3_code 10 = .ok (.return_, 1) := by decide +kernel
theorem pf_cn0 : plainFor (⟨"org/volder/cli/Census", "countUnfaithful", "()V"⟩ : MethodName) = true := by first | exact plainFor_of_name (by first | (simp [plainName, overriddenIn, x]; done) | decide +kernel) | exact Jvm.Free.JP.mathPlain rfl (by decide +kernel) | decide +kernel
theorem ef_cn0 (m : MethodId) (ca : Addr) : entryFrame m #[(.ref ca)] 1 = mkF m 0 #[rv ca] [] := by first | (simp [entryFrame, mkF, argsToLocals, Value.category, maxLocals]; done) | rfl
def Q_cn0 (Z : State) (ca : Addr) (sz : Addr) (cm : Addr) (h0 : Heap) (n0 : Nat) (v : Option Value) (h : Heap) (L : List Loc) : Prop := v = none ∧ Fr n0 L ∧ (Keep h0 h [ca]) ∧ (Exa Z h ca "org/volder/cli/Census") ∧ (Fld Z h ca "org/volder/cli/Census" "unfaithful" "J" (.long (1 : Int64))) ∧ (Fld Z h ca "org/volder/cli/Census" "unbounded" "Z" (.int (0 : Int32))) ∧ (Fld Z h ca "org/volder/cli/Census" "maxError" "Ljava/math/BigDecimal;" (.ref sz)) ∧ (Fld Z h ca "org/volder/cli/Census" "maxErrorAgainstDoubles" "Lorg/volder/cli/UlpError$Maximum;" (.ref cm))
set_option maxRecDepth 65536 in
set_option maxHeartbeats 40000000 in
theorem rm_cn0 (l : Launch) (Z : State) (a0 : Array Value) (hw : ∀ d ∈ tables_1, d.before a0 Z = true) (ws : List Jvm.Cond) (ca : Addr) (sz : Addr) (cm : Addr) (h0 : Heap) (n0 : Nat) (Z0 : n0 ≤ h0.size) (P0 : Exa Z h0 ca "org/volder/cli/Census") (P1 : Fld Z h0 ca "org/volder/cli/Census" "unfaithful" "J" (.long (0 : Int64))) (P2 : Fld Z h0 ca "org/volder/cli/Census" "unbounded" "Z" (.int (0 : Int32))) (P3 : Fld Z h0 ca "org/volder/cli/Census" "maxError" "Ljava/math/BigDecimal;" (.ref sz)) (P4 : Fld Z h0 ca "org/volder/cli/Census" "maxErrorAgainstDoubles" "Lorg/volder/cli/UlpError$Maximum;" (.ref cm)) (P5 : n0 ≤ ca)  :
    MetFree l (⟨"org/volder/cli/Census", "countUnfaithful", "()V"⟩ : MethodName) (head1 (Jvm.Cond.code (⟨"org/volder/cli/Census", "countUnfaithful", "()V"⟩ : MethodName) prog_8_method_3_code 1 none :: ws) ({ frames := 0, cells := 0, slots := 0, locals := 0 } : Room)) (fun a U => a = #[(.ref ca)] ∧ Z.Warmed39 U.vm ∧ U.heap = h0) (fun _ _ _ _ _ => True) (fun _ U o U' => ∃ v L, o = .returned v ∧ Q_cn0 Z ca sz cm h0 n0 v U'.heap L ∧ FrameEnd U o U' L ({ frames := 0, cells := 0, slots := 0, locals := 0 } : Room).cells ({ frames := 0, cells := 0, slots := 0, locals := 0 } : Room).slots) := by
  refine MetFree.of_bodySF pf_cn0 hisR ?_
  intro p e s m args below meth c s₁ Bd hml0 hP hK
  obtain ⟨rfl, hZ, hh⟩ := hP
  have hx := Bd.exec
  have hby := Bd.bytes
  have hml : c.maxLocals = 1 := hml0
  have hown : s.vm.findClass "org/volder/cli/Census" = some m.cls := findClass_of_methodNamed Bd.named
  have hnm := (name_of_methodNamed Bd.named Bd.method).1
  have X0 : Stand p l e ({ frames := 0, cells := 0, slots := 0, locals := 0 } : Room) s m #[(.ref ca)] below meth c s₁ [] 0 0 := Stand.of_body Bd
  have e0 : s₁.heap = h0 := by rw [← hh, Bd.state]; rfl
  have N0 := Fr.nil n0
  obtain ⟨S0, hS0⟩ : ∃ z, z = s₁.setTop (entryFrame m #[(.ref ca)] 1) := ⟨_, rfl⟩
  rw [← hS0]
  have g0 : Goes p e below S0 (s₁.setTop (mkF m 0 #[rv ca] [])) := fun t k => by rw [hS0]; exact castTop (ef_cn0 m ca) k
  have g57 : Goes p e below S0 (s₁.setTop (mkF m 2 #[rv ca] [(.ref ca), (.ref ca)])) := fun t k => g0 t (by
    refine XS.aloadN X0.here hx rfl (hb hby d4_0) rfl rfl ?_
    show Go p e below t s₁ m 1 #[rv ca] [(.ref ca)]
    refine XS.dup X0.here hx rfl (hb hby d4_1) rfl rfl ?_
    show Go p e below t s₁ m 2 #[rv ca] [(.ref ca), (.ref ca)]
    exact k)
  obtain ⟨T58, X58, e58, st58⟩ := getF X0 hx hZ hown (host := "") (Or.inl (hw _ (List.mem_of_getElem? (i := 28) rfl))) Via.refl e0 P1 (g := (mkF m 2 #[rv ca] [(.ref ca), (.ref ca)])) rfl rfl (hb hby d4_2)
  have g59 : Goes p e below S0 (T58.setTop (mkF m 5 #[rv ca] [(.long (0 : Int64)), (.ref ca)])) := fun t k => g57 t (st58 t k)
  have g60 : Goes p e below S0 (T58.setTop (mkF m 7 #[rv ca] [(.long ((0 : Int64) + (1 : Int64))), (.ref ca)])) := fun t k => g59 t (by
    refine XT.lconstV X58.here hx rfl (1 : Int64) (hb hby d4_5) (by decide) ?_
    show Go p e below t T58 m 6 #[rv ca] [(.long (1 : Int64)), (.long (0 : Int64)), (.ref ca)]
    refine XS.ladd X58.here hx rfl (hb hby d4_6) rfl ?_
    show Go p e below t T58 m 7 #[rv ca] [(.long ((0 : Int64) + (1 : Int64))), (.ref ca)]
    exact k)
  obtain ⟨T61, h61, X61, e61, W61, st61⟩ := putF X58 hx hZ hown (host := "") (Or.inl (hw _ (List.mem_of_getElem? (i := 28) rfl))) Via.refl e58 P1 P0 (Or.inl (hw _ (List.mem_of_getElem? (i := 29) rfl))) (hw _ (List.mem_of_getElem? (i := 2) rfl)) (ty := .long) (by decide) rfl rfl (g := (mkF m 7 #[rv ca] [(.long ((0 : Int64) + (1 : Int64))), (.ref ca)])) rfl rfl (hb hby d4_7)
  have N61 := Fr.snoc X61 N0 P5
  have Fw61 := Fld.same W61 P1
  have g62 : Goes p e below S0 (T61.setTop (mkF m 10 #[rv ca] [])) := fun t k => g60 t (st61 t k)
  obtain ⟨fs, hr, hrun, hended, hW, hsame⟩ := X61.leave (v := none) (fun _ => rfl)
  refine ⟨_, _, g62 _ (X61.returnOut hx Bd.returns (hb hby d4_10) hr), hrun, hended, _, _, rfl, ?_, ⟨_, rfl⟩, hW, hsame.mono (by decide) (by decide)⟩
  show Q_cn0 Z ca sz cm h0 n0 _ T61.heap _
  rw [e61]
  exact ⟨rfl, N61, ((Keep.refl h0 [ca]).wr W61 (Or.inl (List.mem_of_getElem? (i := 0) rfl))), (P0.wr W61), Fw61, (P2.other W61 (Or.inr (slot_ne (Or.inl (hw _ (List.mem_of_getElem? (i := 69) rfl))) (Or.inl (hw _ (List.mem_of_getElem? (i := 29) rfl))) (by decide) (t := .boolean) (t' := .long) (by decide) (by decide)))), (P3.other W61 (Or.inr (slot_ne (Or.inl (hw _ (List.mem_of_getElem? (i := 13) rfl))) (Or.inl (hw _ (List.mem_of_getElem? (i := 29) rfl))) (by decide) (t := (.object "java/math/BigDecimal")) (t' := .long) (by decide) (by decide)))), (P4.other W61 (Or.inr (slot_ne (Or.inr (hw _ (List.mem_of_getElem? (i := 22) rfl))) (Or.inl (hw _ (List.mem_of_getElem? (i := 29) rfl))) (by decide) (t := (.object "org/volder/cli/UlpError$Maximum")) (t' := .long) (by decide) (by decide))))⟩
theorem pf_cn1 : plainFor (⟨"org/volder/cli/Census", "countUnfaithful", "()V"⟩ : MethodName) = true := by first | exact plainFor_of_name (by first | (simp [plainName, overriddenIn, x]; done) | decide +kernel) | exact Jvm.Free.JP.mathPlain rfl (by decide +kernel) | decide +kernel
theorem ef_cn1 (m : MethodId) (ca : Addr) : entryFrame m #[(.ref ca)] 1 = mkF m 0 #[rv ca] [] := by first | (simp [entryFrame, mkF, argsToLocals, Value.category, maxLocals]; done) | rfl
def Q_cn1 (Z : State) (ca : Addr) (sz : Addr) (cm : Addr) (h0 : Heap) (n0 : Nat) (v : Option Value) (h : Heap) (L : List Loc) : Prop := v = none ∧ Fr n0 L ∧ (Keep h0 h [ca]) ∧ (Exa Z h ca "org/volder/cli/Census") ∧ (Fld Z h ca "org/volder/cli/Census" "unfaithful" "J" (.long (2 : Int64))) ∧ (Fld Z h ca "org/volder/cli/Census" "unbounded" "Z" (.int (0 : Int32))) ∧ (Fld Z h ca "org/volder/cli/Census" "maxError" "Ljava/math/BigDecimal;" (.ref sz)) ∧ (Fld Z h ca "org/volder/cli/Census" "maxErrorAgainstDoubles" "Lorg/volder/cli/UlpError$Maximum;" (.ref cm))
set_option maxRecDepth 65536 in
set_option maxHeartbeats 40000000 in
theorem rm_cn1 (l : Launch) (Z : State) (a0 : Array Value) (hw : ∀ d ∈ tables_1, d.before a0 Z = true) (ws : List Jvm.Cond) (ca : Addr) (sz : Addr) (cm : Addr) (h0 : Heap) (n0 : Nat) (Z0 : n0 ≤ h0.size) (P0 : Exa Z h0 ca "org/volder/cli/Census") (P1 : Fld Z h0 ca "org/volder/cli/Census" "unfaithful" "J" (.long (1 : Int64))) (P2 : Fld Z h0 ca "org/volder/cli/Census" "unbounded" "Z" (.int (0 : Int32))) (P3 : Fld Z h0 ca "org/volder/cli/Census" "maxError" "Ljava/math/BigDecimal;" (.ref sz)) (P4 : Fld Z h0 ca "org/volder/cli/Census" "maxErrorAgainstDoubles" "Lorg/volder/cli/UlpError$Maximum;" (.ref cm)) (P5 : n0 ≤ ca)  :
    MetFree l (⟨"org/volder/cli/Census", "countUnfaithful", "()V"⟩ : MethodName) (head1 (Jvm.Cond.code (⟨"org/volder/cli/Census", "countUnfaithful", "()V"⟩ : MethodName) prog_8_method_3_code 1 none :: ws) ({ frames := 0, cells := 0, slots := 0, locals := 0 } : Room)) (fun a U => a = #[(.ref ca)] ∧ Z.Warmed39 U.vm ∧ U.heap = h0) (fun _ _ _ _ _ => True) (fun _ U o U' => ∃ v L, o = .returned v ∧ Q_cn1 Z ca sz cm h0 n0 v U'.heap L ∧ FrameEnd U o U' L ({ frames := 0, cells := 0, slots := 0, locals := 0 } : Room).cells ({ frames := 0, cells := 0, slots := 0, locals := 0 } : Room).slots) := by
  refine MetFree.of_bodySF pf_cn1 hisR ?_
  intro p e s m args below meth c s₁ Bd hml0 hP hK
  obtain ⟨rfl, hZ, hh⟩ := hP
  have hx := Bd.exec
  have hby := Bd.bytes
  have hml : c.maxLocals = 1 := hml0
  have hown : s.vm.findClass "org/volder/cli/Census" = some m.cls := findClass_of_methodNamed Bd.named
  have hnm := (name_of_methodNamed Bd.named Bd.method).1
  have X0 : Stand p l e ({ frames := 0, cells := 0, slots := 0, locals := 0 } : Room) s m #[(.ref ca)] below meth c s₁ [] 0 0 := Stand.of_body Bd
  have e0 : s₁.heap = h0 := by rw [← hh, Bd.state]; rfl
  have N0 := Fr.nil n0
  obtain ⟨S0, hS0⟩ : ∃ z, z = s₁.setTop (entryFrame m #[(.ref ca)] 1) := ⟨_, rfl⟩
  rw [← hS0]
  have g0 : Goes p e below S0 (s₁.setTop (mkF m 0 #[rv ca] [])) := fun t k => by rw [hS0]; exact castTop (ef_cn1 m ca) k
  have g63 : Goes p e below S0 (s₁.setTop (mkF m 2 #[rv ca] [(.ref ca), (.ref ca)])) := fun t k => g0 t (by
    refine XS.aloadN X0.here hx rfl (hb hby d4_0) rfl rfl ?_
    show Go p e below t s₁ m 1 #[rv ca] [(.ref ca)]
    refine XS.dup X0.here hx rfl (hb hby d4_1) rfl rfl ?_
    show Go p e below t s₁ m 2 #[rv ca] [(.ref ca), (.ref ca)]
    exact k)
  obtain ⟨T64, X64, e64, st64⟩ := getF X0 hx hZ hown (host := "") (Or.inl (hw _ (List.mem_of_getElem? (i := 28) rfl))) Via.refl e0 P1 (g := (mkF m 2 #[rv ca] [(.ref ca), (.ref ca)])) rfl rfl (hb hby d4_2)
  have g65 : Goes p e below S0 (T64.setTop (mkF m 5 #[rv ca] [(.long (1 : Int64)), (.ref ca)])) := fun t k => g63 t (st64 t k)
  have g66 : Goes p e below S0 (T64.setTop (mkF m 7 #[rv ca] [(.long ((1 : Int64) + (1 : Int64))), (.ref ca)])) := fun t k => g65 t (by
    refine XT.lconstV X64.here hx rfl (1 : Int64) (hb hby d4_5) (by decide) ?_
    show Go p e below t T64 m 6 #[rv ca] [(.long (1 : Int64)), (.long (1 : Int64)), (.ref ca)]
    refine XS.ladd X64.here hx rfl (hb hby d4_6) rfl ?_
    show Go p e below t T64 m 7 #[rv ca] [(.long ((1 : Int64) + (1 : Int64))), (.ref ca)]
    exact k)
  obtain ⟨T67, h67, X67, e67, W67, st67⟩ := putF X64 hx hZ hown (host := "") (Or.inl (hw _ (List.mem_of_getElem? (i := 28) rfl))) Via.refl e64 P1 P0 (Or.inl (hw _ (List.mem_of_getElem? (i := 29) rfl))) (hw _ (List.mem_of_getElem? (i := 2) rfl)) (ty := .long) (by decide) rfl rfl (g := (mkF m 7 #[rv ca] [(.long ((1 : Int64) + (1 : Int64))), (.ref ca)])) rfl rfl (hb hby d4_7)
  have N67 := Fr.snoc X67 N0 P5
  have Fw67 := Fld.same W67 P1
  have g68 : Goes p e below S0 (T67.setTop (mkF m 10 #[rv ca] [])) := fun t k => g66 t (st67 t k)
  obtain ⟨fs, hr, hrun, hended, hW, hsame⟩ := X67.leave (v := none) (fun _ => rfl)
  refine ⟨_, _, g68 _ (X67.returnOut hx Bd.returns (hb hby d4_10) hr), hrun, hended, _, _, rfl, ?_, ⟨_, rfl⟩, hW, hsame.mono (by decide) (by decide)⟩
  show Q_cn1 Z ca sz cm h0 n0 _ T67.heap _
  rw [e67]
  exact ⟨rfl, N67, ((Keep.refl h0 [ca]).wr W67 (Or.inl (List.mem_of_getElem? (i := 0) rfl))), (P0.wr W67), Fw67, (P2.other W67 (Or.inr (slot_ne (Or.inl (hw _ (List.mem_of_getElem? (i := 69) rfl))) (Or.inl (hw _ (List.mem_of_getElem? (i := 29) rfl))) (by decide) (t := .boolean) (t' := .long) (by decide) (by decide)))), (P3.other W67 (Or.inr (slot_ne (Or.inl (hw _ (List.mem_of_getElem? (i := 13) rfl))) (Or.inl (hw _ (List.mem_of_getElem? (i := 29) rfl))) (by decide) (t := (.object "java/math/BigDecimal")) (t' := .long) (by decide) (by decide)))), (P4.other W67 (Or.inr (slot_ne (Or.inr (hw _ (List.mem_of_getElem? (i := 22) rfl))) (Or.inl (hw _ (List.mem_of_getElem? (i := 29) rfl))) (by decide) (t := (.object "org/volder/cli/UlpError$Maximum")) (t' := .long) (by decide) (by decide))))⟩
theorem d3_0 : decode prog_8_method_7_code 0 = .ok (.aload_n 0, 1) := by decide +kernel
theorem d3_1 : decode prog_8_method_7_code 1 = .ok (.getfield 56, 3) := by decide +kernel
theorem d3_4 : decode prog_8_method_7_code 4 = .ok (.lconst 0, 1) := by decide +kernel
theorem d3_5 : decode prog_8_method_7_code 5 = .ok (.lcmp, 1) := by decide +kernel
theorem d3_6 : decode prog_8_method_7_code 6 = .ok (.ifCond .ne 7, 3) := by decide +kernel
theorem d3_9 : decode prog_8_method_7_code 9 = .ok (.iconst 1, 1) := by decide +kernel
theorem d3_10 : decode prog_8_method_7_code 10 = .ok (.goto 4, 3) := by decide +kernel
theorem d3_13 : decode prog_8_method_7_code 13 = .ok (.iconst 0, 1) := by decide +kernel
theorem d3_14 : decode prog_8_method_7_code 14 = .ok (.ireturn, 1) := by decide +kernel
theorem pd5 : parseMethodDescriptor "()Z" = some ⟨[], some .boolean⟩ := by decide +kernel
theorem pf_alf : plainFor (⟨"org/volder/cli/Census", "allFaithful", "()Z"⟩ : MethodName) = true := by first | exact plainFor_of_name (by first | (simp [plainName, overriddenIn, x]; done) | decide +kernel) | exact Jvm.Free.JP.mathPlain rfl (by decide +kernel) | decide +kernel
theorem ef_alf (m : MethodId) (ca : Addr) : entryFrame m #[(.ref ca)] 1 = mkF m 0 #[rv ca] [] := by first | (simp [entryFrame, mkF, argsToLocals, Value.category, maxLocals]; done) | rfl
def f_alf (zu : Int64) : Int32 := (if zu = (0 : Int64) then (1 : Int32) else (0 : Int32))
def Q_alf (Z : State) (ca : Addr) (zu : Int64) (h0 : Heap) (n0 : Nat) (v : Option Value) (h : Heap) (L : List Loc) : Prop := v = some (.int (f_alf zu)) ∧ Fr n0 L ∧ h = h0
set_option maxRecDepth 65536 in
set_option maxHeartbeats 40000000 in
theorem rm_alf (l : Launch) (Z : State) (a0 : Array Value) (hw : ∀ d ∈ tables_1, d.before a0 Z = true) (ws : List Jvm.Cond) (ca : Addr) (zu : Int64) (h0 : Heap) (n0 : Nat) (Z0 : n0 ≤ h0.size) (P0 : Fld Z h0 ca "org/volder/cli/Census" "unfaithful" "J" (.long zu))  :
    MetFree l (⟨"org/volder/cli/Census", "allFaithful", "()Z"⟩ : MethodName) (head1 (Jvm.Cond.code (⟨"org/volder/cli/Census", "allFaithful", "()Z"⟩ : MethodName) prog_8_method_7_code 1 (some .boolean) :: ws) ({ frames := 0, cells := 0, slots := 0, locals := 0 } : Room)) (fun a U => a = #[(.ref ca)] ∧ Z.Warmed39 U.vm ∧ U.heap = h0) (fun _ _ _ _ _ => True) (fun _ U o U' => ∃ v L, o = .returned v ∧ Q_alf Z ca zu h0 n0 v U'.heap L ∧ FrameEnd U o U' L ({ frames := 0, cells := 0, slots := 0, locals := 0 } : Room).cells ({ frames := 0, cells := 0, slots := 0, locals := 0 } : Room).slots) := by
  refine MetFree.of_bodySF pf_alf hisR ?_
  intro p e s m args below meth c s₁ Bd hml0 hP hK
  obtain ⟨rfl, hZ, hh⟩ := hP
  have hx := Bd.exec
  have hby := Bd.bytes
  have hml : c.maxLocals = 1 := hml0
  have hown : s.vm.findClass "org/volder/cli/Census" = some m.cls := findClass_of_methodNamed Bd.named
  have hnm := (name_of_methodNamed Bd.named Bd.method).1
  have X0 : Stand p l e ({ frames := 0, cells := 0, slots := 0, locals := 0 } : Room) s m #[(.ref ca)] below meth c s₁ [] 0 0 := Stand.of_body Bd
  have e0 : s₁.heap = h0 := by rw [← hh, Bd.state]; rfl
  have N0 := Fr.nil n0
  obtain ⟨S0, hS0⟩ : ∃ z, z = s₁.setTop (entryFrame m #[(.ref ca)] 1) := ⟨_, rfl⟩
  rw [← hS0]
  have g0 : Goes p e below S0 (s₁.setTop (mkF m 0 #[rv ca] [])) := fun t k => by rw [hS0]; exact castTop (ef_alf m ca) k
  have g69 : Goes p e below S0 (s₁.setTop (mkF m 1 #[rv ca] [(.ref ca)])) := fun t k => g0 t (by
    refine XS.aloadN X0.here hx rfl (hb hby d3_0) rfl rfl ?_
    show Go p e below t s₁ m 1 #[rv ca] [(.ref ca)]
    exact k)
  obtain ⟨T70, X70, e70, st70⟩ := getF X0 hx hZ hown (host := "") (Or.inl (hw _ (List.mem_of_getElem? (i := 28) rfl))) Via.refl e0 P0 (g := (mkF m 1 #[rv ca] [(.ref ca)])) rfl rfl (hb hby d3_1)
  have g71 : Goes p e below S0 (T70.setTop (mkF m 4 #[rv ca] [(.long zu)])) := fun t k => g69 t (st70 t k)
  have g72 : Goes p e below S0 (T70.setTop (mkF m 6 #[rv ca] [(.int (lcmpW zu (0 : Int64)))])) := fun t k => g71 t (by
    refine XT.lconstV X70.here hx rfl (0 : Int64) (hb hby d3_4) (by decide) ?_
    show Go p e below t T70 m 5 #[rv ca] [(.long (0 : Int64)), (.long zu)]
    refine XS.lcmp X70.here hx rfl (hb hby d3_5) rfl ?_
    show Go p e below t T70 m 6 #[rv ca] [(.int (lcmpW zu (0 : Int64)))]
    exact k)
  by_cases h73 : zu = (0 : Int64)
  · skip
    have g74 : Goes p e below S0 (T70.setTop (mkF m 14 #[rv ca] [(.int (1 : Int32))])) := fun t k => g72 t (by
      refine XS.ifNo X70.here hx rfl (hb hby d3_6) rfl (XT.ll_ne_f h73) ?_
      show Go p e below t T70 m 9 #[rv ca] []
      refine XT.iconstV X70.here hx rfl (1 : Int32) (hb hby d3_9) (by decide) ?_
      show Go p e below t T70 m 10 #[rv ca] [(.int (1 : Int32))]
      refine XS.goto X70.here hx rfl (pc0 := 10) (pc' := 14) rfl (hb hby d3_10) (by decide) (by decide) ?_
      show Go p e below t T70 m 14 #[rv ca] [(.int (1 : Int32))]
      exact k)
    obtain ⟨fs, hr, hrun, hended, hW, hsame⟩ := X70.leave (v := some (.int (1 : Int32))) (fun h => by rw [Bd.returns] at h; cases h)
    refine ⟨_, _, g74 _ (retN X70 hx (t := .boolean) Bd.returns (by simp) (hb hby d3_14) hr), hrun, hended, _, _, rfl, ?_, ⟨_, rfl⟩, hW, hsame.mono (by decide) (by decide)⟩
    show Q_alf Z ca zu h0 n0 _ T70.heap _
    rw [e70]
    exact ⟨by unfold f_alf; rw [if_pos h73], N0, rfl⟩
  · skip
    have g75 : Goes p e below S0 (T70.setTop (mkF m 14 #[rv ca] [(.int (0 : Int32))])) := fun t k => g72 t (by
      refine XS.ifYes X70.here hx rfl (pc0 := 6) (pc' := 13) rfl (hb hby d3_6) rfl (XT.ll_ne_t h73) (by decide) (by decide) ?_
      show Go p e below t T70 m 13 #[rv ca] []
      refine XT.iconstV X70.here hx rfl (0 : Int32) (hb hby d3_13) (by decide) ?_
      show Go p e below t T70 m 14 #[rv ca] [(.int (0 : Int32))]
      exact k)
    obtain ⟨fs, hr, hrun, hended, hW, hsame⟩ := X70.leave (v := some (.int (0 : Int32))) (fun h => by rw [Bd.returns] at h; cases h)
    refine ⟨_, _, g75 _ (retN X70 hx (t := .boolean) Bd.returns (by simp) (hb hby d3_14) hr), hrun, hended, _, _, rfl, ?_, ⟨_, rfl⟩, hW, hsame.mono (by decide) (by decide)⟩
    show Q_alf Z ca zu h0 n0 _ T70.heap _
    rw [e70]
    exact ⟨by unfold f_alf; rw [if_neg h73], N0, rfl⟩
theorem d5_0 : decode prog_8_method_6_code 0 = .ok (.aload_n 0, 1) := by decide +kernel
theorem d5_1 : decode prog_8_method_6_code 1 = .ok (.dup, 1) := by decide +kernel
theorem d5_2 : decode prog_8_method_6_code 2 = .ok (.getfield 56, 3) := by decide +kernel
theorem d5_5 : decode prog_8_method_6_code 5 = .ok (.aload_n 1, 1) := by decide +kernel
theorem d5_6 : decode prog_8_method_6_code 6 = .ok (.getfield 56, 3) := by decide +kernel
theorem d5_9 : decode prog_8_method_6_code 9 = .ok (.ladd, 1) := by decide +kernel
theorem d5_10 : decode prog_8_method_6_code 10 = .ok (.putfield 56, 3) := by decide +kernel
theorem d5_13 : decode prog_8_method_6_code 13 = .ok (.aload_n 0, 1) := by decide +kernel
theorem d5_14 : decode prog_8_method_6_code 14 = .ok (.aload_n 0, 1) := by decide +kernel
theorem d5_15 : decode prog_8_method_6_code 15 = .ok (.getfield 13, 3) := by decide +kernel
theorem d5_18 : decode prog_8_method_6_code 18 = .ok (.aload_n 1, 1) := by decide +kernel
theorem d5_19 : decode prog_8_method_6_code 19 = .ok (.getfield 13, 3) := by decide +kernel
theorem d5_22 : decode prog_8_method_6_code 22 = .ok (.invokevirtual 75, 3) := by decide +kernel
theorem d5_25 : decode prog_8_method_6_code 25 = .ok (.putfield 13, 3) := by decide +kernel
theorem d5_28 : decode prog_8_method_6_code 28 = .ok (.aload_n 0, 1) := by decide +kernel
theorem d5_29 : decode prog_8_method_6_code 29 = .ok (.getfield 21, 3) := by decide +kernel
theorem d5_32 : decode prog_8_method_6_code 32 = .ok (.aload_n 1, 1) := by decide +kernel
theorem d5_33 : decode prog_8_method_6_code 33 = .ok (.getfield 21, 3) := by decide +kernel
theorem d5_36 : decode prog_8_method_6_code 36 = .ok (.invokevirtual 91, 3) := by decide +kernel
theorem d5_39 : decode prog_8_method_6_code 39 = .ok (.aload_n 0, 1) := by decide +kernel
theorem d5_40 : decode prog_8_method_6_code 40 = .ok (.dup, 1) := by decide +kernel
theorem d5_41 : decode prog_8_method_6_code 41 = .ok (.getfield 65, 3) := by decide +kernel
theorem d5_44 : decode prog_8_method_6_code 44 = .ok (.aload_n 1, 1) := by decide +kernel
theorem d5_45 : decode prog_8_method_6_code 45 = .ok (.getfield 65, 3) := by decide +kernel
theorem d5_48 : decode prog_8_method_6_code 48 = .ok (.ior, 1) := by decide +kernel
theorem d5_49 : decode prog_8_method_6_code 49 = .ok (.putfield 65, 3) := by decide +kernel
theorem d5_52 : decode prog_8_method_6_code 52 = .ok (.return_, 1) := by decide +kernel
theorem pd6 : parseMethodDescriptor "(Lorg/volder/cli/Census;)V" = some ⟨[(.object "org/volder/cli/Census")], none⟩ := by decide +kernel
theorem pf_cadd : plainFor (⟨"org/volder/cli/Census", "add", "(Lorg/volder/cli/Census;)V"⟩ : MethodName) = true := by first | exact plainFor_of_name (by first | (simp [plainName, overriddenIn, x]; done) | decide +kernel) | exact Jvm.Free.JP.mathPlain rfl (by decide +kernel) | decide +kernel
theorem ef_cadd (m : MethodId) (ca : Addr) (cb : Addr) : entryFrame m #[(.ref ca), (.ref cb)] 2 = mkF m 0 #[rv ca, rv cb] [] := by first | (simp [entryFrame, mkF, argsToLocals, Value.category, maxLocals]; done) | rfl
def Q_cadd (Z : State) (ca : Addr) (cb : Addr) (ua : Int64) (ub : Int64) (sz : Addr) (cm : Addr) (cn : Addr) (h0 : Heap) (n0 : Nat) (v : Option Value) (h : Heap) (L : List Loc) : Prop := v = none ∧ Fr n0 L ∧ (Keep h0 h [ca]) ∧ (Exa Z h ca "org/volder/cli/Census") ∧ (Fld Z h ca "org/volder/cli/Census" "unfaithful" "J" (.long (ua + ub)))
set_option maxRecDepth 65536 in
set_option maxHeartbeats 40000000 in
theorem rm_cadd (l : Launch) (Z : State) (a0 : Array Value) (hw : ∀ d ∈ tables_1, d.before a0 Z = true) (ws : List Jvm.Cond) (ca : Addr) (cb : Addr) (ua : Int64) (ub : Int64) (sz : Addr) (cm : Addr) (cn : Addr) (h0 : Heap) (n0 : Nat) (Z0 : n0 ≤ h0.size) (P0 : Exa Z h0 ca "org/volder/cli/Census") (P1 : Fld Z h0 ca "org/volder/cli/Census" "unfaithful" "J" (.long ua)) (P2 : Fld Z h0 ca "org/volder/cli/Census" "unbounded" "Z" (.int (0 : Int32))) (P3 : Fld Z h0 ca "org/volder/cli/Census" "maxError" "Ljava/math/BigDecimal;" (.ref sz)) (P4 : Fld Z h0 ca "org/volder/cli/Census" "maxErrorAgainstDoubles" "Lorg/volder/cli/UlpError$Maximum;" (.ref cm)) (P5 : n0 ≤ ca) (P6 : ca ≠ cb) (P7 : ca ≠ sz) (P8 : ca ≠ cm) (P9 : ca ≠ cn) (P10 : Fld Z h0 cb "org/volder/cli/Census" "unfaithful" "J" (.long ub)) (P11 : Fld Z h0 cb "org/volder/cli/Census" "unbounded" "Z" (.int (0 : Int32))) (P12 : Fld Z h0 cb "org/volder/cli/Census" "maxError" "Ljava/math/BigDecimal;" (.ref sz)) (P13 : Fld Z h0 cb "org/volder/cli/Census" "maxErrorAgainstDoubles" "Lorg/volder/cli/UlpError$Maximum;" (.ref cn)) (P14 : Exa Z h0 cm "org/volder/cli/UlpError$Maximum") (P15 : Fld Z h0 cm "org/volder/cli/UlpError$Maximum" "head" "D" (.double (0 : UInt64))) (P16 : Fld Z h0 cm "org/volder/cli/UlpError$Maximum" "tail" "D" (.double (0 : UInt64))) (P17 : Fld Z h0 cn "org/volder/cli/UlpError$Maximum" "head" "D" (.double (0 : UInt64))) (P18 : Fld Z h0 cn "org/volder/cli/UlpError$Maximum" "tail" "D" (.double (0 : UInt64))) (P19 : Exa Z h0 sz "java/math/BigDecimal") (P20 : Fld Z h0 sz "java/math/BigDecimal" "scale" "I" (.int (0 : Int32))) (P21 : Fld Z h0 sz "java/math/BigDecimal" "intCompact" "J" (.long (0 : Int64)))  :
    MetFree l (⟨"org/volder/cli/Census", "add", "(Lorg/volder/cli/Census;)V"⟩ : MethodName) (head1 (Jvm.Cond.code (⟨"org/volder/cli/Census", "add", "(Lorg/volder/cli/Census;)V"⟩ : MethodName) prog_8_method_6_code 2 none :: ws) ({ frames := 2, cells := 0, slots := 0, locals := 44 } : Room)) (fun a U => a = #[(.ref ca), (.ref cb)] ∧ Z.Warmed39 U.vm ∧ U.heap = h0) (fun _ _ _ _ _ => True) (fun _ U o U' => ∃ v L, o = .returned v ∧ Q_cadd Z ca cb ua ub sz cm cn h0 n0 v U'.heap L ∧ FrameEnd U o U' L ({ frames := 2, cells := 0, slots := 0, locals := 44 } : Room).cells ({ frames := 2, cells := 0, slots := 0, locals := 44 } : Room).slots) := by
  refine MetFree.of_bodySF pf_cadd hisR ?_
  intro p e s m args below meth c s₁ Bd hml0 hP hK
  obtain ⟨rfl, hZ, hh⟩ := hP
  have hx := Bd.exec
  have hby := Bd.bytes
  have hml : c.maxLocals = 2 := hml0
  have hown : s.vm.findClass "org/volder/cli/Census" = some m.cls := findClass_of_methodNamed Bd.named
  have hnm := (name_of_methodNamed Bd.named Bd.method).1
  have X0 : Stand p l e ({ frames := 2, cells := 0, slots := 0, locals := 44 } : Room) s m #[(.ref ca), (.ref cb)] below meth c s₁ [] 0 0 := Stand.of_body Bd
  have e0 : s₁.heap = h0 := by rw [← hh, Bd.state]; rfl
  have N0 := Fr.nil n0
  obtain ⟨S0, hS0⟩ : ∃ z, z = s₁.setTop (entryFrame m #[(.ref ca), (.ref cb)] 2) := ⟨_, rfl⟩
  rw [← hS0]
  have g0 : Goes p e below S0 (s₁.setTop (mkF m 0 #[rv ca, rv cb] [])) := fun t k => by rw [hS0]; exact castTop (ef_cadd m ca cb) k
  have g76 : Goes p e below S0 (s₁.setTop (mkF m 2 #[rv ca, rv cb] [(.ref ca), (.ref ca)])) := fun t k => g0 t (by
    refine XS.aloadN X0.here hx rfl (hb hby d5_0) rfl rfl ?_
    show Go p e below t s₁ m 1 #[rv ca, rv cb] [(.ref ca)]
    refine XS.dup X0.here hx rfl (hb hby d5_1) rfl rfl ?_
    show Go p e below t s₁ m 2 #[rv ca, rv cb] [(.ref ca), (.ref ca)]
    exact k)
  obtain ⟨T77, X77, e77, st77⟩ := getF X0 hx hZ hown (host := "") (Or.inl (hw _ (List.mem_of_getElem? (i := 28) rfl))) Via.refl e0 P1 (g := (mkF m 2 #[rv ca, rv cb] [(.ref ca), (.ref ca)])) rfl rfl (hb hby d5_2)
  have g78 : Goes p e below S0 (T77.setTop (mkF m 5 #[rv ca, rv cb] [(.long ua), (.ref ca)])) := fun t k => g76 t (st77 t k)
  have g79 : Goes p e below S0 (T77.setTop (mkF m 6 #[rv ca, rv cb] [(.ref cb), (.long ua), (.ref ca)])) := fun t k => g78 t (by
    refine XS.aloadN X77.here hx rfl (hb hby d5_5) rfl rfl ?_
    show Go p e below t T77 m 6 #[rv ca, rv cb] [(.ref cb), (.long ua), (.ref ca)]
    exact k)
  obtain ⟨T80, X80, e80, st80⟩ := getF X77 hx hZ hown (host := "") (Or.inl (hw _ (List.mem_of_getElem? (i := 28) rfl))) Via.refl e77 P10 (g := (mkF m 6 #[rv ca, rv cb] [(.ref cb), (.long ua), (.ref ca)])) rfl rfl (hb hby d5_6)
  have g81 : Goes p e below S0 (T80.setTop (mkF m 9 #[rv ca, rv cb] [(.long ub), (.long ua), (.ref ca)])) := fun t k => g79 t (st80 t k)
  have g82 : Goes p e below S0 (T80.setTop (mkF m 10 #[rv ca, rv cb] [(.long (ua + ub)), (.ref ca)])) := fun t k => g81 t (by
    refine XS.ladd X80.here hx rfl (hb hby d5_9) rfl ?_
    show Go p e below t T80 m 10 #[rv ca, rv cb] [(.long (ua + ub)), (.ref ca)]
    exact k)
  obtain ⟨T83, h83, X83, e83, W83, st83⟩ := putF X80 hx hZ hown (host := "") (Or.inl (hw _ (List.mem_of_getElem? (i := 28) rfl))) Via.refl e80 P1 P0 (Or.inl (hw _ (List.mem_of_getElem? (i := 29) rfl))) (hw _ (List.mem_of_getElem? (i := 2) rfl)) (ty := .long) (by decide) rfl rfl (g := (mkF m 10 #[rv ca, rv cb] [(.long (ua + ub)), (.ref ca)])) rfl rfl (hb hby d5_10)
  have N83 := Fr.snoc X83 N0 P5
  have Fw83 := Fld.same W83 P1
  have g84 : Goes p e below S0 (T83.setTop (mkF m 13 #[rv ca, rv cb] [])) := fun t k => g82 t (st83 t k)
  have g85 : Goes p e below S0 (T83.setTop (mkF m 15 #[rv ca, rv cb] [(.ref ca), (.ref ca)])) := fun t k => g84 t (by
    refine XS.aloadN X83.here hx rfl (hb hby d5_13) rfl rfl ?_
    show Go p e below t T83 m 14 #[rv ca, rv cb] [(.ref ca)]
    refine XS.aloadN X83.here hx rfl (hb hby d5_14) rfl rfl ?_
    show Go p e below t T83 m 15 #[rv ca, rv cb] [(.ref ca), (.ref ca)]
    exact k)
  obtain ⟨T86, X86, e86, st86⟩ := getF X83 hx hZ hown (host := "") (Or.inl (hw _ (List.mem_of_getElem? (i := 12) rfl))) Via.refl e83 (P3.other W83 (Or.inr (slot_ne (Or.inl (hw _ (List.mem_of_getElem? (i := 13) rfl))) (Or.inl (hw _ (List.mem_of_getElem? (i := 29) rfl))) (by decide) (t := (.object "java/math/BigDecimal")) (t' := .long) (by decide) (by decide)))) (g := (mkF m 15 #[rv ca, rv cb] [(.ref ca), (.ref ca)])) rfl rfl (hb hby d5_15)
  have g87 : Goes p e below S0 (T86.setTop (mkF m 18 #[rv ca, rv cb] [(.ref sz), (.ref ca)])) := fun t k => g85 t (st86 t k)
  have g88 : Goes p e below S0 (T86.setTop (mkF m 19 #[rv ca, rv cb] [(.ref cb), (.ref sz), (.ref ca)])) := fun t k => g87 t (by
    refine XS.aloadN X86.here hx rfl (hb hby d5_18) rfl rfl ?_
    show Go p e below t T86 m 19 #[rv ca, rv cb] [(.ref cb), (.ref sz), (.ref ca)]
    exact k)
  obtain ⟨T89, X89, e89, st89⟩ := getF X86 hx hZ hown (host := "") (Or.inl (hw _ (List.mem_of_getElem? (i := 12) rfl))) Via.refl e86 (P12.other W83 (Or.inl (Ne.symm P6))) (g := (mkF m 19 #[rv ca, rv cb] [(.ref cb), (.ref sz), (.ref ca)])) rfl rfl (hb hby d5_19)
  have g90 : Goes p e below S0 (T89.setTop (mkF m 22 #[rv ca, rv cb] [(.ref sz), (.ref sz), (.ref ca)])) := fun t k => g88 t (st89 t k)
  obtain ⟨cq91, kq91, q91a, q91b, q91c⟩ := isOf hZ e89 (P19.wr W83)
  obtain ⟨_, _, ⟨T91, L91, k91, n91⟩, -, X91, ⟨Lc91, hQ91, l91, y91, z91⟩, st91⟩ := X89.virtualBack hx (y := (⟨"java/math/BigDecimal", "max", "(Ljava/math/BigDecimal;)Ljava/math/BigDecimal;"⟩ : MethodName)) (z := (⟨"java/math/BigDecimal", "max", "(Ljava/math/BigDecimal;)Ljava/math/BigDecimal;"⟩ : MethodName)) hown (mvT hZ (hw _ (List.mem_of_getElem? (i := 40) rfl))) (mvT hZ (hw _ (List.mem_of_getElem? (i := 41) rfl))) (notFace_of_selects (args := #[]) (mvT hZ (hw _ (List.mem_of_getElem? (i := 43) rfl)))) (mvT hZ (hw _ (List.mem_of_getElem? (i := 43) rfl))) (mvT hZ (hw _ (List.mem_of_getElem? (i := 42) rfl))) (by decide) (backOf (W := 1) (rm_max l Z a0 hw [] sz sz  h83 n0 (Nat.le_trans Z0 (Nat.le_trans (Nat.le_refl _) (Nat.le_of_eq W83.size.symm))) (P19.wr W83) (P20.other W83 (Or.inl (Ne.symm P7))) (P20.other W83 (Or.inl (Ne.symm P7))) (P21.other W83 (Or.inl (Ne.symm P7))) (P21.other W83 (Or.inl (Ne.symm P7)))) hZ (hw _ (List.mem_of_getElem? (i := 44) rfl)) (hw _ (List.mem_of_getElem? (i := 11) rfl)) (by decide) (by decide)) q91a q91c (g := (mkF m 22 #[rv ca, rv cb] [(.ref sz), (.ref sz), (.ref ca)])) rfl (by rw [hml]; rfl) (Steps.refl _) (argsL := [(.ref sz)]) (rest := [(.ref ca)]) (lenOf pd1 rfl) rfl (by show 2 * 0 + _ ≤ _; exact Nat.le_of_eq rfl) (hb hby d5_22) (fun _ _ => ⟨rfl, e89, (by decide : 0 + 0 ≤ _), (by decide : 0 + 0 ≤ _)⟩)
  dsimp only [Pt.U, Pt.locs, Pt.cells, Pt.slots] at X91 l91 y91 z91 st91 hQ91
  subst l91 y91 z91
  obtain ⟨rfl, N91, R91_0⟩ := hQ91
  have M91 := Fr.app N83 N91
  have g92 : Goes p e below S0 (T91.setTop (mkF m 25 #[rv ca, rv cb] [(.ref sz), (.ref ca)])) := fun t k => g90 t (st91.trans k)
  obtain ⟨T93, h93, X93, e93, W93, st93⟩ := putF X91 hx hZ hown (host := "") (Or.inl (hw _ (List.mem_of_getElem? (i := 12) rfl))) Via.refl R91_0 (P3.other W83 (Or.inr (slot_ne (Or.inl (hw _ (List.mem_of_getElem? (i := 13) rfl))) (Or.inl (hw _ (List.mem_of_getElem? (i := 29) rfl))) (by decide) (t := (.object "java/math/BigDecimal")) (t' := .long) (by decide) (by decide)))) (P0.wr W83) (Or.inl (hw _ (List.mem_of_getElem? (i := 13) rfl))) (hw _ (List.mem_of_getElem? (i := 2) rfl)) (ty := (.object "java/math/BigDecimal")) (by decide) rfl rfl (g := (mkF m 25 #[rv ca, rv cb] [(.ref sz), (.ref ca)])) rfl rfl (hb hby d5_25)
  have N93 := Fr.snoc X93 M91 P5
  have Fw93 := Fld.same W93 (P3.other W83 (Or.inr (slot_ne (Or.inl (hw _ (List.mem_of_getElem? (i := 13) rfl))) (Or.inl (hw _ (List.mem_of_getElem? (i := 29) rfl))) (by decide) (t := (.object "java/math/BigDecimal")) (t' := .long) (by decide) (by decide))))
  have g94 : Goes p e below S0 (T93.setTop (mkF m 28 #[rv ca, rv cb] [])) := fun t k => g92 t (st93 t k)
  have g95 : Goes p e below S0 (T93.setTop (mkF m 29 #[rv ca, rv cb] [(.ref ca)])) := fun t k => g94 t (by
    refine XS.aloadN X93.here hx rfl (hb hby d5_28) rfl rfl ?_
    show Go p e below t T93 m 29 #[rv ca, rv cb] [(.ref ca)]
    exact k)
  obtain ⟨T96, X96, e96, st96⟩ := getF X93 hx hZ hown (host := "") (Or.inl (hw _ (List.mem_of_getElem? (i := 21) rfl))) Via.refl e93 ((P4.other W83 (Or.inr (slot_ne (Or.inr (hw _ (List.mem_of_getElem? (i := 22) rfl))) (Or.inl (hw _ (List.mem_of_getElem? (i := 29) rfl))) (by decide) (t := (.object "org/volder/cli/UlpError$Maximum")) (t' := .long) (by decide) (by decide)))).other W93 (Or.inr (slot_ne (Or.inr (hw _ (List.mem_of_getElem? (i := 22) rfl))) (Or.inl (hw _ (List.mem_of_getElem? (i := 13) rfl))) (by decide) (t := (.object "org/volder/cli/UlpError$Maximum")) (t' := (.object "java/math/BigDecimal")) (by decide) (by decide)))) (g := (mkF m 29 #[rv ca, rv cb] [(.ref ca)])) rfl rfl (hb hby d5_29)
  have g97 : Goes p e below S0 (T96.setTop (mkF m 32 #[rv ca, rv cb] [(.ref cm)])) := fun t k => g95 t (st96 t k)
  have g98 : Goes p e below S0 (T96.setTop (mkF m 33 #[rv ca, rv cb] [(.ref cb), (.ref cm)])) := fun t k => g97 t (by
    refine XS.aloadN X96.here hx rfl (hb hby d5_32) rfl rfl ?_
    show Go p e below t T96 m 33 #[rv ca, rv cb] [(.ref cb), (.ref cm)]
    exact k)
  obtain ⟨T99, X99, e99, st99⟩ := getF X96 hx hZ hown (host := "") (Or.inl (hw _ (List.mem_of_getElem? (i := 21) rfl))) Via.refl e96 ((P13.other W83 (Or.inl (Ne.symm P6))).other W93 (Or.inl (Ne.symm P6))) (g := (mkF m 33 #[rv ca, rv cb] [(.ref cb), (.ref cm)])) rfl rfl (hb hby d5_33)
  have g100 : Goes p e below S0 (T99.setTop (mkF m 36 #[rv ca, rv cb] [(.ref cn), (.ref cm)])) := fun t k => g98 t (st99 t k)
  obtain ⟨cq101, kq101, q101a, q101b, q101c⟩ := isOf hZ e99 ((P14.wr W83).wr W93)
  obtain ⟨_, _, ⟨T101, L101, k101, n101⟩, -, X101, ⟨Lc101, hQ101, l101, y101, z101⟩, st101⟩ := X99.virtualBack hx (y := (⟨"org/volder/cli/UlpError$Maximum", "add", "(Lorg/volder/cli/UlpError$Maximum;)V"⟩ : MethodName)) (z := (⟨"org/volder/cli/UlpError$Maximum", "add", "(Lorg/volder/cli/UlpError$Maximum;)V"⟩ : MethodName)) hown (mvT hZ (hw _ (List.mem_of_getElem? (i := 55) rfl))) (mvT hZ (hw _ (List.mem_of_getElem? (i := 56) rfl))) (notFace_of_selects (args := #[]) (mvT hZ (hw _ (List.mem_of_getElem? (i := 58) rfl)))) (mvT hZ (hw _ (List.mem_of_getElem? (i := 58) rfl))) (mvT hZ (hw _ (List.mem_of_getElem? (i := 57) rfl))) (by decide) (backOf (W := 0) (rm_madd l Z a0 hw [] cm cn  h93 n0 (Nat.le_trans Z0 (Nat.le_trans (Nat.le_trans (Nat.le_refl _) (Nat.le_of_eq W83.size.symm)) (Nat.le_of_eq W93.size.symm))) ((P14.wr W83).wr W93) ((P15.other W83 (Or.inl (Ne.symm P8))).other W93 (Or.inl (Ne.symm P8))) ((P16.other W83 (Or.inl (Ne.symm P8))).other W93 (Or.inl (Ne.symm P8))) ((P17.other W83 (Or.inl (Ne.symm P9))).other W93 (Or.inl (Ne.symm P9))) ((P18.other W83 (Or.inl (Ne.symm P9))).other W93 (Or.inl (Ne.symm P9)))) hZ (hw _ (List.mem_of_getElem? (i := 59) rfl)) (hw _ (List.mem_of_getElem? (i := 16) rfl)) (by decide) (by decide)) q101a q101c (g := (mkF m 36 #[rv ca, rv cb] [(.ref cn), (.ref cm)])) rfl (by rw [hml]; rfl) (Steps.refl _) (argsL := [(.ref cn)]) (rest := []) (lenOf pd3 rfl) rfl (by show 2 * 0 + _ ≤ _; exact Nat.le_of_eq rfl) (hb hby d5_36) (fun _ _ => ⟨rfl, e99, (by decide : 0 + 0 ≤ _), (by decide : 0 + 0 ≤ _)⟩)
  dsimp only [Pt.U, Pt.locs, Pt.cells, Pt.slots] at X101 l101 y101 z101 st101 hQ101
  subst l101 y101 z101
  obtain ⟨rfl, N101, R101_0⟩ := hQ101
  have M101 := Fr.app N93 N101
  have g102 : Goes p e below S0 (T101.setTop (mkF m 39 #[rv ca, rv cb] [])) := fun t k => g100 t (st101.trans k)
  have g103 : Goes p e below S0 (T101.setTop (mkF m 41 #[rv ca, rv cb] [(.ref ca), (.ref ca)])) := fun t k => g102 t (by
    refine XS.aloadN X101.here hx rfl (hb hby d5_39) rfl rfl ?_
    show Go p e below t T101 m 40 #[rv ca, rv cb] [(.ref ca)]
    refine XS.dup X101.here hx rfl (hb hby d5_40) rfl rfl ?_
    show Go p e below t T101 m 41 #[rv ca, rv cb] [(.ref ca), (.ref ca)]
    exact k)
  obtain ⟨T104, X104, e104, st104⟩ := getF X101 hx hZ hown (host := "") (Or.inl (hw _ (List.mem_of_getElem? (i := 68) rfl))) Via.refl R101_0 ((P2.other W83 (Or.inr (slot_ne (Or.inl (hw _ (List.mem_of_getElem? (i := 69) rfl))) (Or.inl (hw _ (List.mem_of_getElem? (i := 29) rfl))) (by decide) (t := .boolean) (t' := .long) (by decide) (by decide)))).other W93 (Or.inr (slot_ne (Or.inl (hw _ (List.mem_of_getElem? (i := 69) rfl))) (Or.inl (hw _ (List.mem_of_getElem? (i := 13) rfl))) (by decide) (t := .boolean) (t' := (.object "java/math/BigDecimal")) (by decide) (by decide)))) (g := (mkF m 41 #[rv ca, rv cb] [(.ref ca), (.ref ca)])) rfl rfl (hb hby d5_41)
  have g105 : Goes p e below S0 (T104.setTop (mkF m 44 #[rv ca, rv cb] [(.int (0 : Int32)), (.ref ca)])) := fun t k => g103 t (st104 t k)
  have g106 : Goes p e below S0 (T104.setTop (mkF m 45 #[rv ca, rv cb] [(.ref cb), (.int (0 : Int32)), (.ref ca)])) := fun t k => g105 t (by
    refine XS.aloadN X104.here hx rfl (hb hby d5_44) rfl rfl ?_
    show Go p e below t T104 m 45 #[rv ca, rv cb] [(.ref cb), (.int (0 : Int32)), (.ref ca)]
    exact k)
  obtain ⟨T107, X107, e107, st107⟩ := getF X104 hx hZ hown (host := "") (Or.inl (hw _ (List.mem_of_getElem? (i := 68) rfl))) Via.refl e104 ((P11.other W83 (Or.inl (Ne.symm P6))).other W93 (Or.inl (Ne.symm P6))) (g := (mkF m 45 #[rv ca, rv cb] [(.ref cb), (.int (0 : Int32)), (.ref ca)])) rfl rfl (hb hby d5_45)
  have g108 : Goes p e below S0 (T107.setTop (mkF m 48 #[rv ca, rv cb] [(.int (0 : Int32)), (.int (0 : Int32)), (.ref ca)])) := fun t k => g106 t (st107 t k)
  have g109 : Goes p e below S0 (T107.setTop (mkF m 49 #[rv ca, rv cb] [(.int (0 : Int32)), (.ref ca)])) := fun t k => g108 t (by
    refine XS.ior X107.here hx rfl (hb hby d5_48) rfl ?_
    rw [show ((0 : Int32) ||| (0 : Int32)) = (0 : Int32) by decide]
    show Go p e below t T107 m 49 #[rv ca, rv cb] [(.int (0 : Int32)), (.ref ca)]
    exact k)
  obtain ⟨T110, h110, X110, e110, W110, st110⟩ := putFN X107 hx hZ hown (hw _ (List.mem_of_getElem? (i := 68) rfl)) Via.refl e107 ((P2.other W83 (Or.inr (slot_ne (Or.inl (hw _ (List.mem_of_getElem? (i := 69) rfl))) (Or.inl (hw _ (List.mem_of_getElem? (i := 29) rfl))) (by decide) (t := .boolean) (t' := .long) (by decide) (by decide)))).other W93 (Or.inr (slot_ne (Or.inl (hw _ (List.mem_of_getElem? (i := 69) rfl))) (Or.inl (hw _ (List.mem_of_getElem? (i := 13) rfl))) (by decide) (t := .boolean) (t' := (.object "java/math/BigDecimal")) (by decide) (by decide)))) ((P0.wr W83).wr W93) (Or.inl (hw _ (List.mem_of_getElem? (i := 69) rfl))) (hw _ (List.mem_of_getElem? (i := 2) rfl)) (ty := .boolean) (v' := (.int (0 : Int32))) (by decide) (by decide) (by decide) (g := (mkF m 49 #[rv ca, rv cb] [(.int (0 : Int32)), (.ref ca)])) rfl rfl (hb hby d5_49)
  have N110 := Fr.snoc X110 M101 P5
  have Fw110 := Fld.same W110 ((P2.other W83 (Or.inr (slot_ne (Or.inl (hw _ (List.mem_of_getElem? (i := 69) rfl))) (Or.inl (hw _ (List.mem_of_getElem? (i := 29) rfl))) (by decide) (t := .boolean) (t' := .long) (by decide) (by decide)))).other W93 (Or.inr (slot_ne (Or.inl (hw _ (List.mem_of_getElem? (i := 69) rfl))) (Or.inl (hw _ (List.mem_of_getElem? (i := 13) rfl))) (by decide) (t := .boolean) (t' := (.object "java/math/BigDecimal")) (by decide) (by decide))))
  have g111 : Goes p e below S0 (T110.setTop (mkF m 52 #[rv ca, rv cb] [])) := fun t k => g109 t (st110 t k)
  obtain ⟨fs, hr, hrun, hended, hW, hsame⟩ := X110.leave (v := none) (fun _ => rfl)
  refine ⟨_, _, g111 _ (X110.returnOut hx Bd.returns (hb hby d5_52) hr), hrun, hended, _, _, rfl, ?_, ⟨_, rfl⟩, hW, hsame.mono (by decide) (by decide)⟩
  show Q_cadd Z ca cb ua ub sz cm cn h0 n0 _ T110.heap _
  rw [e110]
  exact ⟨rfl, N110, ((((Keep.refl h0 [ca]).wr W83 (Or.inl (List.mem_of_getElem? (i := 0) rfl))).wr W93 (Or.inl (List.mem_of_getElem? (i := 0) rfl))).wr W110 (Or.inl (List.mem_of_getElem? (i := 0) rfl))), (((P0.wr W83).wr W93).wr W110), ((Fw83.other W93 (Or.inr (slot_ne (Or.inl (hw _ (List.mem_of_getElem? (i := 29) rfl))) (Or.inl (hw _ (List.mem_of_getElem? (i := 13) rfl))) (by decide) (t := .long) (t' := (.object "java/math/BigDecimal")) (by decide) (by decide)))).other W110 (Or.inr (slot_ne (Or.inl (hw _ (List.mem_of_getElem? (i := 29) rfl))) (Or.inl (hw _ (List.mem_of_getElem? (i := 69) rfl))) (by decide) (t := .long) (t' := .boolean) (by decide) (by decide))))⟩

def own_n (x : Int32) : Int32 := (x &&& (2147483647 : Int32)) % (3 : Int32)
theorem own_three (x : Int32) : own_n x = 0 ∨ own_n x = 1 ∨ own_n x = 2 := by
  have h := c_and x 2147483647 (by decide)
  have h1 := (c_irem (x &&& 2147483647) 3 3 (by decide)).1 h.1
  have h2 : 0 ≤ (own_n x).toInt ∧ (own_n x).toInt < 3 := by unfold own_n; omega
  have e : (own_n x).toInt = 0 ∨ (own_n x).toInt = 1 ∨ (own_n x).toInt = 2 := by omega
  rcases e with e | e | e
  · exact Or.inl (Int32.toInt_inj.mp e)
  · exact Or.inr (Or.inl (Int32.toInt_inj.mp e))
  · exact Or.inr (Or.inr (Int32.toInt_inj.mp e))
theorem own_fldI {s : State} {args : Array Value} {t : Term} {x : Addr} {C n d : String} {k : Int32} (ev : t.eval args s none [] s = some (.ref x)) (h : (Jvm.Cond.eq (.field t C n d) (.int k)).value args s none s [] = some true) : s.fieldOf? x C n d = some (.int k) := by
  have e1 : (Term.field t C n d).eval args s none [] s = s.fieldOf? x C n d := by
    simp only [Term.eval, ev]; rfl
  have e2 : (Term.int k).eval args s none [] s = some (.int k) := rfl
  simp only [Jvm.Cond.value, e1, e2] at h
  cases e : s.fieldOf? x C n d with
  | none => rw [e] at h; simp at h
  | some v =>
    rw [e] at h
    cases v <;> simp at h
    rw [h]
theorem own_fldJ {s : State} {args : Array Value} {t : Term} {x : Addr} {C n d : String} {k : Int64} (ev : t.eval args s none [] s = some (.ref x)) (h : (Jvm.Cond.eq (.field t C n d) (.long k)).value args s none s [] = some true) : s.fieldOf? x C n d = some (.long k) := by
  have e1 : (Term.field t C n d).eval args s none [] s = s.fieldOf? x C n d := by
    simp only [Term.eval, ev]; rfl
  have e2 : (Term.long k).eval args s none [] s = some (.long k) := rfl
  simp only [Jvm.Cond.value, e1, e2] at h
  cases e : s.fieldOf? x C n d with
  | none => rw [e] at h; simp at h
  | some v =>
    rw [e] at h
    cases v <;> simp at h
    rw [h]

theorem pd7 : parseMethodDescriptor "(III)Z" = some ⟨[.int, .int, .int], some .boolean⟩ := by decide +kernel
theorem pf_law : plainFor x = true := by first | exact plainFor_of_name (by first | (simp [plainName, overriddenIn, x]; done) | decide +kernel) | exact Jvm.Free.JP.mathPlain rfl (by decide +kernel) | decide +kernel
theorem ef_law (m : MethodId) (i0 : Int32) (i1 : Int32) (i2 : Int32) : entryFrame m #[(.int i0), (.int i1), (.int i2)] maxLocals = mkF m 0 #[iv i0, iv i1, iv i2, .unset, .unset, .unset, .unset, .unset, .unset] [] := by first | (simp [entryFrame, mkF, argsToLocals, Value.category, maxLocals]; done) | rfl
def f_law (i0 : Int32) (i1 : Int32) (i2 : Int32) : Int32 := 1
def Q_law (Z : State) (i0 : Int32) (i1 : Int32) (i2 : Int32) (sz : Addr) (h0 : Heap) (n0 : Nat) (v : Option Value) (h : Heap) (L : List Loc) : Prop := v = some (.int (f_law i0 i1 i2)) ∧ Fr n0 L
set_option maxRecDepth 65536 in
set_option maxHeartbeats 40000000 in
theorem rm_law (l : Launch) (Z : State) (a0 : Array Value) (hw : ∀ d ∈ tables_1, d.before a0 Z = true) (ws : List Jvm.Cond) (i0 : Int32) (i1 : Int32) (i2 : Int32) (sz : Addr) (h0 : Heap) (n0 : Nat) (Z0 : n0 ≤ h0.size) (P0 : Sta Z h0 "java/math/BigDecimal" "ZERO" "Ljava/math/BigDecimal;" (.ref sz)) (P1 : Exa Z h0 sz "java/math/BigDecimal") (P2 : Fld Z h0 sz "java/math/BigDecimal" "scale" "I" (.int (0 : Int32))) (P3 : Fld Z h0 sz "java/math/BigDecimal" "intCompact" "J" (.long (0 : Int64)))  :
    MetFree l x (head1 (Jvm.Cond.code x code maxLocals ret :: ws) room_1) (fun a U => a = #[(.int i0), (.int i1), (.int i2)] ∧ Z.Warmed39 U.vm ∧ U.heap = h0) (fun _ _ _ _ _ => True) (fun _ U o U' => ∃ v L, o = .returned v ∧ Q_law Z i0 i1 i2 sz h0 n0 v U'.heap L ∧ FrameEnd U o U' L 16 128) := by
  refine MetFree.of_bodySF pf_law hisR ?_
  intro p e s m args below meth c s₁ Bd hml0 hP hK
  obtain ⟨rfl, hZ, hh⟩ := hP
  have hx := Bd.exec
  have hby := Bd.bytes
  have hml : c.maxLocals = 9 := hml0
  have hown : s.vm.findClass "org/volder/cli/CensusAllFaithfulPinLaw" = some m.cls := findClass_of_methodNamed Bd.named
  have hnm := (name_of_methodNamed Bd.named Bd.method).1
  have X0 : Stand p l e room_1 s m #[(.int i0), (.int i1), (.int i2)] below meth c s₁ [] 0 0 := Stand.of_body Bd
  have e0 : s₁.heap = h0 := by rw [← hh, Bd.state]; rfl
  have N0 := Fr.nil n0
  obtain ⟨S0, hS0⟩ : ∃ z, z = s₁.setTop (entryFrame m #[(.int i0), (.int i1), (.int i2)] maxLocals) := ⟨_, rfl⟩
  rw [← hS0]
  have g0 : Goes p e below S0 (s₁.setTop (mkF m 0 #[iv i0, iv i1, iv i2, .unset, .unset, .unset, .unset, .unset, .unset] [])) := fun t k => by rw [hS0]; exact castTop (ef_law m i0 i1 i2) k
  have g112 : Goes p e below S0 (s₁.setTop (mkF m 7 #[iv i0, iv i1, iv i2, iv (own_n i0), .unset, .unset, .unset, .unset, .unset] [])) := fun t k => g0 t (by
    refine XS.iloadN X0.here hx rfl (hb hby at_0) rfl ?_
    show Go p e below t s₁ m 1 #[iv i0, iv i1, iv i2, .unset, .unset, .unset, .unset, .unset, .unset] [(.int i0)]
    refine Jvm.Stand.ldcI X0 hx hown (mvT hZ (hw _ (List.mem_of_getElem? (i := 0) rfl))) (g := (mkF m 1 #[iv i0, iv i1, iv i2, .unset, .unset, .unset, .unset, .unset, .unset] [(.int i0)])) rfl (hb hby at_1) ?_
    show Go p e below t s₁ m 3 #[iv i0, iv i1, iv i2, .unset, .unset, .unset, .unset, .unset, .unset] [(.int (2147483647 : Int32)), (.int i0)]
    refine XS.iand X0.here hx rfl (hb hby at_3) rfl ?_
    show Go p e below t s₁ m 4 #[iv i0, iv i1, iv i2, .unset, .unset, .unset, .unset, .unset, .unset] [(.int (i0 &&& (2147483647 : Int32)))]
    refine XT.iconstV X0.here hx rfl (3 : Int32) (hb hby at_4) (by decide) ?_
    show Go p e below t s₁ m 5 #[iv i0, iv i1, iv i2, .unset, .unset, .unset, .unset, .unset, .unset] [(.int (3 : Int32)), (.int (i0 &&& (2147483647 : Int32)))]
    refine iremM X0 hx rfl (hb hby at_5) rfl (by decide) ?_
    show Go p e below t s₁ m 6 #[iv i0, iv i1, iv i2, .unset, .unset, .unset, .unset, .unset, .unset] [(.int ((i0 &&& (2147483647 : Int32)) % (3 : Int32)))]
    refine XS.istoreN X0.here hx rfl (hb hby at_6) rfl (l' := #[iv i0, iv i1, iv i2, iv (own_n i0), .unset, .unset, .unset, .unset, .unset]) rfl ?_
    show Go p e below t s₁ m 7 #[iv i0, iv i1, iv i2, iv (own_n i0), .unset, .unset, .unset, .unset, .unset] []
    exact k)
  obtain ⟨na, hna⟩ : ∃ z, z = (own_n i0) := ⟨_, rfl⟩
  rw [← hna] at g112
  have g113 : Goes p e below S0 (s₁.setTop (mkF m 15 #[iv i0, iv i1, iv i2, iv na, iv (own_n i1), .unset, .unset, .unset, .unset] [])) := fun t k => g112 t (by
    refine XS.iloadN X0.here hx rfl (hb hby at_7) rfl ?_
    show Go p e below t s₁ m 8 #[iv i0, iv i1, iv i2, iv na, .unset, .unset, .unset, .unset, .unset] [(.int i1)]
    refine Jvm.Stand.ldcI X0 hx hown (mvT hZ (hw _ (List.mem_of_getElem? (i := 0) rfl))) (g := (mkF m 8 #[iv i0, iv i1, iv i2, iv na, .unset, .unset, .unset, .unset, .unset] [(.int i1)])) rfl (hb hby at_8) ?_
    show Go p e below t s₁ m 10 #[iv i0, iv i1, iv i2, iv na, .unset, .unset, .unset, .unset, .unset] [(.int (2147483647 : Int32)), (.int i1)]
    refine XS.iand X0.here hx rfl (hb hby at_10) rfl ?_
    show Go p e below t s₁ m 11 #[iv i0, iv i1, iv i2, iv na, .unset, .unset, .unset, .unset, .unset] [(.int (i1 &&& (2147483647 : Int32)))]
    refine XT.iconstV X0.here hx rfl (3 : Int32) (hb hby at_11) (by decide) ?_
    show Go p e below t s₁ m 12 #[iv i0, iv i1, iv i2, iv na, .unset, .unset, .unset, .unset, .unset] [(.int (3 : Int32)), (.int (i1 &&& (2147483647 : Int32)))]
    refine iremM X0 hx rfl (hb hby at_12) rfl (by decide) ?_
    show Go p e below t s₁ m 13 #[iv i0, iv i1, iv i2, iv na, .unset, .unset, .unset, .unset, .unset] [(.int ((i1 &&& (2147483647 : Int32)) % (3 : Int32)))]
    refine XS.istore X0.here hx rfl (hb hby at_13) rfl (l' := #[iv i0, iv i1, iv i2, iv na, iv (own_n i1), .unset, .unset, .unset, .unset]) rfl ?_
    show Go p e below t s₁ m 15 #[iv i0, iv i1, iv i2, iv na, iv (own_n i1), .unset, .unset, .unset, .unset] []
    exact k)
  obtain ⟨nb, hnb⟩ : ∃ z, z = (own_n i1) := ⟨_, rfl⟩
  rw [← hnb] at g113
  have gj114 : ∃ z : Int32, Goes p e below S0 (s₁.setTop (mkF m 26 #[iv i0, iv i1, iv i2, iv na, iv nb, .unset, .unset, .unset, .unset] [(.int z)])) := by
    have g115 : Goes p e below S0 (s₁.setTop (mkF m 18 #[iv i0, iv i1, iv i2, iv na, iv nb, .unset, .unset, .unset, .unset] [(.int (i2 &&& (1 : Int32)))])) := fun t k => g113 t (by
      refine XS.iloadN X0.here hx rfl (hb hby at_15) rfl ?_
      show Go p e below t s₁ m 16 #[iv i0, iv i1, iv i2, iv na, iv nb, .unset, .unset, .unset, .unset] [(.int i2)]
      refine XT.iconstV X0.here hx rfl (1 : Int32) (hb hby at_16) (by decide) ?_
      show Go p e below t s₁ m 17 #[iv i0, iv i1, iv i2, iv na, iv nb, .unset, .unset, .unset, .unset] [(.int (1 : Int32)), (.int i2)]
      refine XS.iand X0.here hx rfl (hb hby at_17) rfl ?_
      show Go p e below t s₁ m 18 #[iv i0, iv i1, iv i2, iv na, iv nb, .unset, .unset, .unset, .unset] [(.int (i2 &&& (1 : Int32)))]
      exact k)
    by_cases h116 : (i2 &&& (1 : Int32)) = 0
    · skip
      have g117 : Goes p e below S0 (s₁.setTop (mkF m 26 #[iv i0, iv i1, iv i2, iv na, iv nb, .unset, .unset, .unset, .unset] [(.int (0 : Int32))])) := fun t k => g115 t (by
        refine XS.ifYes X0.here hx rfl (pc0 := 18) (pc' := 25) rfl (hb hby at_18) rfl (XT.i0_eq_t h116) (by decide) (by decide) ?_
        show Go p e below t s₁ m 25 #[iv i0, iv i1, iv i2, iv na, iv nb, .unset, .unset, .unset, .unset] []
        refine XT.iconstV X0.here hx rfl (0 : Int32) (hb hby at_25) (by decide) ?_
        show Go p e below t s₁ m 26 #[iv i0, iv i1, iv i2, iv na, iv nb, .unset, .unset, .unset, .unset] [(.int (0 : Int32))]
        exact k)
      exact ⟨_, g117⟩
    · skip
      have g118 : Goes p e below S0 (s₁.setTop (mkF m 26 #[iv i0, iv i1, iv i2, iv na, iv nb, .unset, .unset, .unset, .unset] [(.int (1 : Int32))])) := fun t k => g115 t (by
        refine XS.ifNo X0.here hx rfl (hb hby at_18) rfl (XT.i0_eq_f h116) ?_
        show Go p e below t s₁ m 21 #[iv i0, iv i1, iv i2, iv na, iv nb, .unset, .unset, .unset, .unset] []
        refine XT.iconstV X0.here hx rfl (1 : Int32) (hb hby at_21) (by decide) ?_
        show Go p e below t s₁ m 22 #[iv i0, iv i1, iv i2, iv na, iv nb, .unset, .unset, .unset, .unset] [(.int (1 : Int32))]
        refine XS.goto X0.here hx rfl (pc0 := 22) (pc' := 26) rfl (hb hby at_22) (by decide) (by decide) ?_
        show Go p e below t s₁ m 26 #[iv i0, iv i1, iv i2, iv na, iv nb, .unset, .unset, .unset, .unset] [(.int (1 : Int32))]
        exact k)
      exact ⟨_, g118⟩
  obtain ⟨mg, g119⟩ := gj114
  have g120 : Goes p e below S0 (s₁.setTop (mkF m 28 #[iv i0, iv i1, iv i2, iv na, iv nb, iv mg, .unset, .unset, .unset] [])) := fun t k => g119 t (by
    refine XS.istore X0.here hx rfl (hb hby at_26) rfl (l' := #[iv i0, iv i1, iv i2, iv na, iv nb, iv mg, .unset, .unset, .unset]) rfl ?_
    show Go p e below t s₁ m 28 #[iv i0, iv i1, iv i2, iv na, iv nb, iv mg, .unset, .unset, .unset] []
    exact k)
  obtain ⟨T121, h121, X121, e121, E121, A121, D121, -, st121⟩ := newO X0 hx hZ hown (hw _ (List.mem_of_getElem? (i := 1) rfl)) (hw _ (List.mem_of_getElem? (i := 2) rfl)) (hw _ (List.mem_of_getElem? (i := 3) rfl)) e0 (g := (mkF m 28 #[iv i0, iv i1, iv i2, iv na, iv nb, iv mg, .unset, .unset, .unset] [])) rfl (hb hby at_28) (by decide) (by decide)
  obtain ⟨b121, gb121⟩ : ∃ z, z = h0.size := ⟨_, rfl⟩
  have sz121 : h0.size ≤ b121 := Nat.le_trans (Nat.le_refl _) (Nat.le_of_eq gb121.symm)
  have ng121 : n0 ≤ b121 := Nat.le_trans Z0 sz121
  rw [← gb121] at A121 D121 st121
  have F121_122 : Fld Z h121 b121 "org/volder/cli/Census" "maxError" "Ljava/math/BigDecimal;" .null := D121 (Or.inl (hw _ (List.mem_of_getElem? (i := 13) rfl))) (ty := (.object "java/math/BigDecimal")) (by decide)
  have F121_123 : Fld Z h121 b121 "org/volder/cli/Census" "maxErrorAgainstDoubles" "Lorg/volder/cli/UlpError$Maximum;" .null := D121 (Or.inr (hw _ (List.mem_of_getElem? (i := 22) rfl))) (ty := (.object "org/volder/cli/UlpError$Maximum")) (by decide)
  have F121_124 : Fld Z h121 b121 "org/volder/cli/Census" "unfaithful" "J" (.long (0 : Int64)) := D121 (Or.inl (hw _ (List.mem_of_getElem? (i := 29) rfl))) (ty := .long) (by decide)
  have F121_125 : Fld Z h121 b121 "org/volder/cli/Census" "unbounded" "Z" (.int (0 : Int32)) := D121 (Or.inl (hw _ (List.mem_of_getElem? (i := 69) rfl))) (ty := .boolean) (by decide)
  have g126 : Goes p e below S0 (T121.setTop (mkF m 31 #[iv i0, iv i1, iv i2, iv na, iv nb, iv mg, .unset, .unset, .unset] [(.ref b121)])) := fun t k => g120 t (st121 t k)
  have g127 : Goes p e below S0 (T121.setTop (mkF m 32 #[iv i0, iv i1, iv i2, iv na, iv nb, iv mg, .unset, .unset, .unset] [(.ref b121), (.ref b121)])) := fun t k => g126 t (by
    refine XS.dup X121.here hx rfl (hb hby at_31) rfl rfl ?_
    show Go p e below t T121 m 32 #[iv i0, iv i1, iv i2, iv na, iv nb, iv mg, .unset, .unset, .unset] [(.ref b121), (.ref b121)]
    exact k)
  obtain ⟨_, _, ⟨T128, L128, k128, n128⟩, -, X128, ⟨Lc128, hQ128, l128, y128, z128⟩, st128⟩ := X121.specialBack hx (y := (⟨"org/volder/cli/Census", "<init>", "()V"⟩ : MethodName)) rfl hown (mvT hZ (hw _ (List.mem_of_getElem? (i := 4) rfl))) (mvT hZ (hw _ (List.mem_of_getElem? (i := 5) rfl))) (mvT hZ (hw _ (List.mem_of_getElem? (i := 6) rfl))) (by decide) (backOf (W := 1) (rm_ini l Z a0 hw [] b121 sz h121 n0 (Nat.le_trans Z0 (Nat.le_trans (Nat.le_refl _) E121.1)) A121 F121_124 F121_125 F121_122 F121_123 ng121 (P0.ext E121)) hZ (hw _ (List.mem_of_getElem? (i := 6) rfl)) (hw _ (List.mem_of_getElem? (i := 3) rfl)) (by decide) (by decide)) (g := (mkF m 32 #[iv i0, iv i1, iv i2, iv na, iv nb, iv mg, .unset, .unset, .unset] [(.ref b121), (.ref b121)])) rfl (by rw [hml]; rfl) (Steps.refl _) (a := b121) (argsL := []) (rest := [(.ref b121)]) (lenOf pd4 rfl) rfl (by show 2 * 0 + _ ≤ _; exact Nat.le_of_eq rfl) (hb hby at_32) (fun _ _ => ⟨rfl, e121, (by decide : 1 + 1 ≤ _), (by decide : 4 + 2 ≤ _)⟩)
  dsimp only [Pt.U, Pt.locs, Pt.cells, Pt.slots] at X128 l128 y128 z128 st128 hQ128
  subst l128 y128 z128
  obtain ⟨cm_128, rfl, N128, R128_0, R128_1, R128_2, R128_3, R128_4, R128_5, R128_6, R128_7, R128_8, R128_9⟩ := hQ128
  have M128 := Fr.app N0 N128
  have sz128_1 : h0.size ≤ cm_128 := Nat.le_trans (Nat.le_trans (Nat.le_refl _) E121.1) R128_1
  have ng128_1 : n0 ≤ cm_128 := Nat.le_trans Z0 sz128_1
  have g129 : Goes p e below S0 (T128.setTop (mkF m 35 #[iv i0, iv i1, iv i2, iv na, iv nb, iv mg, .unset, .unset, .unset] [(.ref b121)])) := fun t k => g127 t (st128.trans k)
  have g130 : Goes p e below S0 (T128.setTop (mkF m 37 #[iv i0, iv i1, iv i2, iv na, iv nb, iv mg, rv b121, .unset, .unset] [])) := fun t k => g129 t (by
    refine XS.astore X128.here hx rfl (hb hby at_35) rfl rfl (l' := #[iv i0, iv i1, iv i2, iv na, iv nb, iv mg, rv b121, .unset, .unset]) rfl ?_
    show Go p e below t T128 m 37 #[iv i0, iv i1, iv i2, iv na, iv nb, iv mg, rv b121, .unset, .unset] []
    exact k)
  obtain ⟨T131, h131, X131, e131, E131, A131, D131, -, st131⟩ := newO X128 hx hZ hown (hw _ (List.mem_of_getElem? (i := 1) rfl)) (hw _ (List.mem_of_getElem? (i := 2) rfl)) (hw _ (List.mem_of_getElem? (i := 3) rfl)) rfl (g := (mkF m 37 #[iv i0, iv i1, iv i2, iv na, iv nb, iv mg, rv b121, .unset, .unset] [])) rfl (hb hby at_37) (by decide) (by decide)
  obtain ⟨b131, gb131⟩ : ∃ z, z = T128.heap.size := ⟨_, rfl⟩
  have sz131 : h0.size ≤ b131 := Nat.le_trans (Nat.le_trans (Nat.le_trans (Nat.le_refl _) E121.1) R128_0.1) (Nat.le_of_eq gb131.symm)
  have ng131 : n0 ≤ b131 := Nat.le_trans Z0 sz131
  rw [← gb131] at A131 D131 st131
  have F131_132 : Fld Z h131 b131 "org/volder/cli/Census" "maxError" "Ljava/math/BigDecimal;" .null := D131 (Or.inl (hw _ (List.mem_of_getElem? (i := 13) rfl))) (ty := (.object "java/math/BigDecimal")) (by decide)
  have F131_133 : Fld Z h131 b131 "org/volder/cli/Census" "maxErrorAgainstDoubles" "Lorg/volder/cli/UlpError$Maximum;" .null := D131 (Or.inr (hw _ (List.mem_of_getElem? (i := 22) rfl))) (ty := (.object "org/volder/cli/UlpError$Maximum")) (by decide)
  have F131_134 : Fld Z h131 b131 "org/volder/cli/Census" "unfaithful" "J" (.long (0 : Int64)) := D131 (Or.inl (hw _ (List.mem_of_getElem? (i := 29) rfl))) (ty := .long) (by decide)
  have F131_135 : Fld Z h131 b131 "org/volder/cli/Census" "unbounded" "Z" (.int (0 : Int32)) := D131 (Or.inl (hw _ (List.mem_of_getElem? (i := 69) rfl))) (ty := .boolean) (by decide)
  have g136 : Goes p e below S0 (T131.setTop (mkF m 40 #[iv i0, iv i1, iv i2, iv na, iv nb, iv mg, rv b121, .unset, .unset] [(.ref b131)])) := fun t k => g130 t (st131 t k)
  have g137 : Goes p e below S0 (T131.setTop (mkF m 41 #[iv i0, iv i1, iv i2, iv na, iv nb, iv mg, rv b121, .unset, .unset] [(.ref b131), (.ref b131)])) := fun t k => g136 t (by
    refine XS.dup X131.here hx rfl (hb hby at_40) rfl rfl ?_
    show Go p e below t T131 m 41 #[iv i0, iv i1, iv i2, iv na, iv nb, iv mg, rv b121, .unset, .unset] [(.ref b131), (.ref b131)]
    exact k)
  obtain ⟨_, _, ⟨T138, L138, k138, n138⟩, -, X138, ⟨Lc138, hQ138, l138, y138, z138⟩, st138⟩ := X131.specialBack hx (y := (⟨"org/volder/cli/Census", "<init>", "()V"⟩ : MethodName)) rfl hown (mvT hZ (hw _ (List.mem_of_getElem? (i := 4) rfl))) (mvT hZ (hw _ (List.mem_of_getElem? (i := 5) rfl))) (mvT hZ (hw _ (List.mem_of_getElem? (i := 6) rfl))) (by decide) (backOf (W := 1) (rm_ini l Z a0 hw [] b131 sz h131 n0 (Nat.le_trans Z0 (Nat.le_trans (Nat.le_trans (Nat.le_trans (Nat.le_refl _) E121.1) R128_0.1) E131.1)) A131 F131_134 F131_135 F131_132 F131_133 ng131 ((Sta.keepO (P0.ext E121) R128_0 (nsS (Exa.nostat A121) ns0)).ext E131)) hZ (hw _ (List.mem_of_getElem? (i := 6) rfl)) (hw _ (List.mem_of_getElem? (i := 3) rfl)) (by decide) (by decide)) (g := (mkF m 41 #[iv i0, iv i1, iv i2, iv na, iv nb, iv mg, rv b121, .unset, .unset] [(.ref b131), (.ref b131)])) rfl (by rw [hml]; rfl) (Steps.refl _) (a := b131) (argsL := []) (rest := [(.ref b131)]) (lenOf pd4 rfl) rfl (by show 2 * 0 + _ ≤ _; exact Nat.le_of_eq rfl) (hb hby at_41) (fun _ _ => ⟨rfl, e131, (by decide : 3 + 1 ≤ _), (by decide : 10 + 2 ≤ _)⟩)
  dsimp only [Pt.U, Pt.locs, Pt.cells, Pt.slots] at X138 l138 y138 z138 st138 hQ138
  subst l138 y138 z138
  obtain ⟨cm_138, rfl, N138, R138_0, R138_1, R138_2, R138_3, R138_4, R138_5, R138_6, R138_7, R138_8, R138_9⟩ := hQ138
  have M138 := Fr.app M128 N138
  have sz138_1 : h0.size ≤ cm_138 := Nat.le_trans (Nat.le_trans (Nat.le_trans (Nat.le_trans (Nat.le_refl _) E121.1) R128_0.1) E131.1) R138_1
  have ng138_1 : n0 ≤ cm_138 := Nat.le_trans Z0 sz138_1
  have g139 : Goes p e below S0 (T138.setTop (mkF m 44 #[iv i0, iv i1, iv i2, iv na, iv nb, iv mg, rv b121, .unset, .unset] [(.ref b131)])) := fun t k => g137 t (st138.trans k)
  have g140 : Goes p e below S0 (T138.setTop (mkF m 46 #[iv i0, iv i1, iv i2, iv na, iv nb, iv mg, rv b121, rv b131, .unset] [])) := fun t k => g139 t (by
    refine XS.astore X138.here hx rfl (hb hby at_44) rfl rfl (l' := #[iv i0, iv i1, iv i2, iv na, iv nb, iv mg, rv b121, rv b131, .unset]) rfl ?_
    show Go p e below t T138 m 46 #[iv i0, iv i1, iv i2, iv na, iv nb, iv mg, rv b121, rv b131, .unset] []
    exact k)
  rcases (hna ▸ own_three i0 : na = 0 ∨ na = 1 ∨ na = 2) with rfl | rfl | rfl
  · skip
    have g141 : Goes p e below S0 (T138.setTop (mkF m 66 #[iv i0, iv i1, iv i2, iv (0 : Int32), iv nb, iv mg, rv b121, rv b131, .unset] [])) := fun t k => g140 t (by
      refine XS.iloadN X138.here hx rfl (hb hby at_46) rfl ?_
      show Go p e below t T138 m 47 #[iv i0, iv i1, iv i2, iv (0 : Int32), iv nb, iv mg, rv b121, rv b131, .unset] [(.int (0 : Int32))]
      refine XT.iconstV X138.here hx rfl (1 : Int32) (hb hby at_47) (by decide) ?_
      show Go p e below t T138 m 48 #[iv i0, iv i1, iv i2, iv (0 : Int32), iv nb, iv mg, rv b121, rv b131, .unset] [(.int (1 : Int32)), (.int (0 : Int32))]
      refine XS.icmpYes X138.here hx rfl (pc0 := 48) (pc' := 56) rfl (hb hby at_48) rfl (XT.ii_lt_t (by decide)) (by decide) (by decide) ?_
      show Go p e below t T138 m 56 #[iv i0, iv i1, iv i2, iv (0 : Int32), iv nb, iv mg, rv b121, rv b131, .unset] []
      refine XS.iloadN X138.here hx rfl (hb hby at_56) rfl ?_
      show Go p e below t T138 m 57 #[iv i0, iv i1, iv i2, iv (0 : Int32), iv nb, iv mg, rv b121, rv b131, .unset] [(.int (0 : Int32))]
      refine XT.iconstV X138.here hx rfl (2 : Int32) (hb hby at_57) (by decide) ?_
      show Go p e below t T138 m 58 #[iv i0, iv i1, iv i2, iv (0 : Int32), iv nb, iv mg, rv b121, rv b131, .unset] [(.int (2 : Int32)), (.int (0 : Int32))]
      refine XS.icmpYes X138.here hx rfl (pc0 := 58) (pc' := 66) rfl (hb hby at_58) rfl (XT.ii_lt_t (by decide)) (by decide) (by decide) ?_
      show Go p e below t T138 m 66 #[iv i0, iv i1, iv i2, iv (0 : Int32), iv nb, iv mg, rv b121, rv b131, .unset] []
      exact k)
    rcases (hnb ▸ own_three i1 : nb = 0 ∨ nb = 1 ∨ nb = 2) with rfl | rfl | rfl
    · skip
      have g142 : Goes p e below S0 (T138.setTop (mkF m 90 #[iv i0, iv i1, iv i2, iv (0 : Int32), iv (0 : Int32), iv mg, rv b121, rv b131, .unset] [(.ref b121)])) := fun t k => g141 t (by
        refine XS.iload X138.here hx rfl (hb hby at_66) rfl ?_
        show Go p e below t T138 m 68 #[iv i0, iv i1, iv i2, iv (0 : Int32), iv (0 : Int32), iv mg, rv b121, rv b131, .unset] [(.int (0 : Int32))]
        refine XT.iconstV X138.here hx rfl (1 : Int32) (hb hby at_68) (by decide) ?_
        show Go p e below t T138 m 69 #[iv i0, iv i1, iv i2, iv (0 : Int32), iv (0 : Int32), iv mg, rv b121, rv b131, .unset] [(.int (1 : Int32)), (.int (0 : Int32))]
        refine XS.icmpYes X138.here hx rfl (pc0 := 69) (pc' := 77) rfl (hb hby at_69) rfl (XT.ii_lt_t (by decide)) (by decide) (by decide) ?_
        show Go p e below t T138 m 77 #[iv i0, iv i1, iv i2, iv (0 : Int32), iv (0 : Int32), iv mg, rv b121, rv b131, .unset] []
        refine XS.iload X138.here hx rfl (hb hby at_77) rfl ?_
        show Go p e below t T138 m 79 #[iv i0, iv i1, iv i2, iv (0 : Int32), iv (0 : Int32), iv mg, rv b121, rv b131, .unset] [(.int (0 : Int32))]
        refine XT.iconstV X138.here hx rfl (2 : Int32) (hb hby at_79) (by decide) ?_
        show Go p e below t T138 m 80 #[iv i0, iv i1, iv i2, iv (0 : Int32), iv (0 : Int32), iv mg, rv b121, rv b131, .unset] [(.int (2 : Int32)), (.int (0 : Int32))]
        refine XS.icmpYes X138.here hx rfl (pc0 := 80) (pc' := 88) rfl (hb hby at_80) rfl (XT.ii_lt_t (by decide)) (by decide) (by decide) ?_
        show Go p e below t T138 m 88 #[iv i0, iv i1, iv i2, iv (0 : Int32), iv (0 : Int32), iv mg, rv b121, rv b131, .unset] []
        refine XS.aload X138.here hx rfl (hb hby at_88) rfl rfl ?_
        show Go p e below t T138 m 90 #[iv i0, iv i1, iv i2, iv (0 : Int32), iv (0 : Int32), iv mg, rv b121, rv b131, .unset] [(.ref b121)]
        exact k)
      obtain ⟨cq143, kq143, q143a, q143b, q143c⟩ := isOf hZ rfl ((R128_2.ext E131).keep R138_0)
      obtain ⟨_, _, ⟨T143, L143, k143, n143⟩, -, X143, ⟨Lc143, hQ143, l143, y143, z143⟩, st143⟩ := X138.virtualBack hx (y := (⟨"org/volder/cli/Census", "allFaithful", "()Z"⟩ : MethodName)) (z := (⟨"org/volder/cli/Census", "allFaithful", "()Z"⟩ : MethodName)) hown (mvT hZ (hw _ (List.mem_of_getElem? (i := 23) rfl))) (mvT hZ (hw _ (List.mem_of_getElem? (i := 24) rfl))) (notFace_of_selects (args := #[]) (mvT hZ (hw _ (List.mem_of_getElem? (i := 26) rfl)))) (mvT hZ (hw _ (List.mem_of_getElem? (i := 26) rfl))) (mvT hZ (hw _ (List.mem_of_getElem? (i := 25) rfl))) (by decide) (backOf (W := 0) (rm_alf l Z a0 hw [] b121 (0 : Int64) T138.heap n0 (Nat.le_trans Z0 (Nat.le_trans (Nat.le_trans (Nat.le_trans (Nat.le_trans (Nat.le_refl _) E121.1) R128_0.1) E131.1) R138_0.1)) ((R128_3.ext E131).keep R138_0 (ninS (Nat.ne_of_lt (Nat.lt_of_lt_of_le R128_2.lt (Nat.le_of_eq gb131.symm))) nin0))) hZ (hw _ (List.mem_of_getElem? (i := 27) rfl)) (hw _ (List.mem_of_getElem? (i := 3) rfl)) (by decide) (by decide)) q143a q143c (g := (mkF m 90 #[iv i0, iv i1, iv i2, iv (0 : Int32), iv (0 : Int32), iv mg, rv b121, rv b131, .unset] [(.ref b121)])) rfl (by rw [hml]; rfl) (Steps.refl _) (argsL := []) (rest := []) (lenOf pd5 rfl) rfl (by show 2 * 0 + _ ≤ _; exact Nat.le_of_eq rfl) (hb hby at_90) (fun _ _ => ⟨rfl, rfl, (by decide : 4 + 0 ≤ _), (by decide : 12 + 0 ≤ _)⟩)
      dsimp only [Pt.U, Pt.locs, Pt.cells, Pt.slots] at X143 l143 y143 z143 st143 hQ143
      subst l143 y143 z143
      obtain ⟨rfl, N143, e143⟩ := hQ143
      have M143 := Fr.app M138 N143
      have g144 : Goes p e below S0 (T143.setTop (mkF m 93 #[iv i0, iv i1, iv i2, iv (0 : Int32), iv (0 : Int32), iv mg, rv b121, rv b131, .unset] [(.int (f_alf  (0 : Int64)))])) := fun t k => g142 t (st143.trans k)
      have g145 : Goes p e below S0 (T143.setTop (mkF m 107 #[iv i0, iv i1, iv i2, iv (0 : Int32), iv (0 : Int32), iv mg, rv b121, rv b131, .unset] [(.ref b131)])) := fun t k => g144 t (by
        refine XS.iloadN X143.here hx rfl (hb hby at_93) rfl ?_
        show Go p e below t T143 m 94 #[iv i0, iv i1, iv i2, iv (0 : Int32), iv (0 : Int32), iv mg, rv b121, rv b131, .unset] [(.int (0 : Int32)), (.int (f_alf  (0 : Int64)))]
        refine XS.ifNo X143.here hx rfl (hb hby at_94) rfl (XT.i0_ne_f (by decide)) ?_
        show Go p e below t T143 m 97 #[iv i0, iv i1, iv i2, iv (0 : Int32), iv (0 : Int32), iv mg, rv b121, rv b131, .unset] [(.int (f_alf  (0 : Int64)))]
        refine XT.iconstV X143.here hx rfl (1 : Int32) (hb hby at_97) (by decide) ?_
        show Go p e below t T143 m 98 #[iv i0, iv i1, iv i2, iv (0 : Int32), iv (0 : Int32), iv mg, rv b121, rv b131, .unset] [(.int (1 : Int32)), (.int (f_alf  (0 : Int64)))]
        refine XS.goto X143.here hx rfl (pc0 := 98) (pc' := 102) rfl (hb hby at_98) (by decide) (by decide) ?_
        show Go p e below t T143 m 102 #[iv i0, iv i1, iv i2, iv (0 : Int32), iv (0 : Int32), iv mg, rv b121, rv b131, .unset] [(.int (1 : Int32)), (.int (f_alf  (0 : Int64)))]
        refine XS.icmpNo X143.here hx rfl (hb hby at_102) rfl (XT.ii_ne_f (by decide)) ?_
        show Go p e below t T143 m 105 #[iv i0, iv i1, iv i2, iv (0 : Int32), iv (0 : Int32), iv mg, rv b121, rv b131, .unset] []
        refine XS.aload X143.here hx rfl (hb hby at_105) rfl rfl ?_
        show Go p e below t T143 m 107 #[iv i0, iv i1, iv i2, iv (0 : Int32), iv (0 : Int32), iv mg, rv b121, rv b131, .unset] [(.ref b131)]
        exact k)
      obtain ⟨cq146, kq146, q146a, q146b, q146c⟩ := isOf hZ e143 R138_2
      obtain ⟨_, _, ⟨T146, L146, k146, n146⟩, -, X146, ⟨Lc146, hQ146, l146, y146, z146⟩, st146⟩ := X143.virtualBack hx (y := (⟨"org/volder/cli/Census", "allFaithful", "()Z"⟩ : MethodName)) (z := (⟨"org/volder/cli/Census", "allFaithful", "()Z"⟩ : MethodName)) hown (mvT hZ (hw _ (List.mem_of_getElem? (i := 23) rfl))) (mvT hZ (hw _ (List.mem_of_getElem? (i := 24) rfl))) (notFace_of_selects (args := #[]) (mvT hZ (hw _ (List.mem_of_getElem? (i := 26) rfl)))) (mvT hZ (hw _ (List.mem_of_getElem? (i := 26) rfl))) (mvT hZ (hw _ (List.mem_of_getElem? (i := 25) rfl))) (by decide) (backOf (W := 0) (rm_alf l Z a0 hw [] b131 (0 : Int64) T138.heap n0 (Nat.le_trans Z0 (Nat.le_trans (Nat.le_trans (Nat.le_trans (Nat.le_trans (Nat.le_refl _) E121.1) R128_0.1) E131.1) R138_0.1)) R138_3) hZ (hw _ (List.mem_of_getElem? (i := 27) rfl)) (hw _ (List.mem_of_getElem? (i := 3) rfl)) (by decide) (by decide)) q146a q146c (g := (mkF m 107 #[iv i0, iv i1, iv i2, iv (0 : Int32), iv (0 : Int32), iv mg, rv b121, rv b131, .unset] [(.ref b131)])) rfl (by rw [hml]; rfl) (Steps.refl _) (argsL := []) (rest := []) (lenOf pd5 rfl) rfl (by show 2 * 0 + _ ≤ _; exact Nat.le_of_eq rfl) (hb hby at_107) (fun _ _ => ⟨rfl, e143, (by decide : 4 + 0 ≤ _), (by decide : 12 + 0 ≤ _)⟩)
      dsimp only [Pt.U, Pt.locs, Pt.cells, Pt.slots] at X146 l146 y146 z146 st146 hQ146
      subst l146 y146 z146
      obtain ⟨rfl, N146, e146⟩ := hQ146
      have M146 := Fr.app M143 N146
      have g147 : Goes p e below S0 (T146.setTop (mkF m 110 #[iv i0, iv i1, iv i2, iv (0 : Int32), iv (0 : Int32), iv mg, rv b121, rv b131, .unset] [(.int (f_alf  (0 : Int64)))])) := fun t k => g145 t (st146.trans k)
      have g148 : Goes p e below S0 (T146.setTop (mkF m 132 #[iv i0, iv i1, iv i2, iv (0 : Int32), iv (0 : Int32), iv mg, rv b121, rv b131, iv (1 : Int32)] [(.int mg)])) := fun t k => g147 t (by
        refine XS.iload X146.here hx rfl (hb hby at_110) rfl ?_
        show Go p e below t T146 m 112 #[iv i0, iv i1, iv i2, iv (0 : Int32), iv (0 : Int32), iv mg, rv b121, rv b131, .unset] [(.int (0 : Int32)), (.int (f_alf  (0 : Int64)))]
        refine XS.ifNo X146.here hx rfl (hb hby at_112) rfl (XT.i0_ne_f (by decide)) ?_
        show Go p e below t T146 m 115 #[iv i0, iv i1, iv i2, iv (0 : Int32), iv (0 : Int32), iv mg, rv b121, rv b131, .unset] [(.int (f_alf  (0 : Int64)))]
        refine XT.iconstV X146.here hx rfl (1 : Int32) (hb hby at_115) (by decide) ?_
        show Go p e below t T146 m 116 #[iv i0, iv i1, iv i2, iv (0 : Int32), iv (0 : Int32), iv mg, rv b121, rv b131, .unset] [(.int (1 : Int32)), (.int (f_alf  (0 : Int64)))]
        refine XS.goto X146.here hx rfl (pc0 := 116) (pc' := 120) rfl (hb hby at_116) (by decide) (by decide) ?_
        show Go p e below t T146 m 120 #[iv i0, iv i1, iv i2, iv (0 : Int32), iv (0 : Int32), iv mg, rv b121, rv b131, .unset] [(.int (1 : Int32)), (.int (f_alf  (0 : Int64)))]
        refine XS.icmpNo X146.here hx rfl (hb hby at_120) rfl (XT.ii_ne_f (by decide)) ?_
        show Go p e below t T146 m 123 #[iv i0, iv i1, iv i2, iv (0 : Int32), iv (0 : Int32), iv mg, rv b121, rv b131, .unset] []
        refine XT.iconstV X146.here hx rfl (1 : Int32) (hb hby at_123) (by decide) ?_
        show Go p e below t T146 m 124 #[iv i0, iv i1, iv i2, iv (0 : Int32), iv (0 : Int32), iv mg, rv b121, rv b131, .unset] [(.int (1 : Int32))]
        refine XS.goto X146.here hx rfl (pc0 := 124) (pc' := 128) rfl (hb hby at_124) (by decide) (by decide) ?_
        show Go p e below t T146 m 128 #[iv i0, iv i1, iv i2, iv (0 : Int32), iv (0 : Int32), iv mg, rv b121, rv b131, .unset] [(.int (1 : Int32))]
        refine XS.istore X146.here hx rfl (hb hby at_128) rfl (l' := #[iv i0, iv i1, iv i2, iv (0 : Int32), iv (0 : Int32), iv mg, rv b121, rv b131, iv (1 : Int32)]) rfl ?_
        show Go p e below t T146 m 130 #[iv i0, iv i1, iv i2, iv (0 : Int32), iv (0 : Int32), iv mg, rv b121, rv b131, iv (1 : Int32)] []
        refine XS.iload X146.here hx rfl (hb hby at_130) rfl ?_
        show Go p e below t T146 m 132 #[iv i0, iv i1, iv i2, iv (0 : Int32), iv (0 : Int32), iv mg, rv b121, rv b131, iv (1 : Int32)] [(.int mg)]
        exact k)
      by_cases h149 : mg = 0
      · skip
        have g150 : Goes p e below S0 (T146.setTop (mkF m 176 #[iv i0, iv i1, iv i2, iv (0 : Int32), iv (0 : Int32), iv mg, rv b121, rv b131, iv (1 : Int32)] [(.int (1 : Int32))])) := fun t k => g148 t (by
          refine XS.ifYes X146.here hx rfl (pc0 := 132) (pc' := 174) rfl (hb hby at_132) rfl (XT.i0_eq_t h149) (by decide) (by decide) ?_
          show Go p e below t T146 m 174 #[iv i0, iv i1, iv i2, iv (0 : Int32), iv (0 : Int32), iv mg, rv b121, rv b131, iv (1 : Int32)] []
          refine XS.iload X146.here hx rfl (hb hby at_174) rfl ?_
          show Go p e below t T146 m 176 #[iv i0, iv i1, iv i2, iv (0 : Int32), iv (0 : Int32), iv mg, rv b121, rv b131, iv (1 : Int32)] [(.int (1 : Int32))]
          exact k)
        obtain ⟨fs, hr, hrun, hended, hW, hsame⟩ := X146.leave (v := some (.int (1 : Int32))) (fun h => by rw [Bd.returns] at h; cases h)
        refine ⟨_, _, g150 _ (retN X146 hx (t := .boolean) Bd.returns (by simp) (hb hby at_176) hr), hrun, hended, _, _, rfl, ?_, ⟨_, rfl⟩, hW, hsame.mono (by decide) (by decide)⟩
        show Q_law Z i0 i1 i2 sz h0 n0 _ T146.heap _
        rw [e146]
        exact ⟨rfl, M146⟩
      · skip
        have g151 : Goes p e below S0 (T146.setTop (mkF m 139 #[iv i0, iv i1, iv i2, iv (0 : Int32), iv (0 : Int32), iv mg, rv b121, rv b131, iv (1 : Int32)] [(.ref b131), (.ref b121)])) := fun t k => g148 t (by
          refine XS.ifNo X146.here hx rfl (hb hby at_132) rfl (XT.i0_eq_f h149) ?_
          show Go p e below t T146 m 135 #[iv i0, iv i1, iv i2, iv (0 : Int32), iv (0 : Int32), iv mg, rv b121, rv b131, iv (1 : Int32)] []
          refine XS.aload X146.here hx rfl (hb hby at_135) rfl rfl ?_
          show Go p e below t T146 m 137 #[iv i0, iv i1, iv i2, iv (0 : Int32), iv (0 : Int32), iv mg, rv b121, rv b131, iv (1 : Int32)] [(.ref b121)]
          refine XS.aload X146.here hx rfl (hb hby at_137) rfl rfl ?_
          show Go p e below t T146 m 139 #[iv i0, iv i1, iv i2, iv (0 : Int32), iv (0 : Int32), iv mg, rv b121, rv b131, iv (1 : Int32)] [(.ref b131), (.ref b121)]
          exact k)
        obtain ⟨cq152, kq152, q152a, q152b, q152c⟩ := isOf hZ e146 ((R128_2.ext E131).keep R138_0)
        obtain ⟨_, _, ⟨T152, L152, k152, n152⟩, -, X152, ⟨Lc152, hQ152, l152, y152, z152⟩, st152⟩ := X146.virtualBack hx (y := (⟨"org/volder/cli/Census", "add", "(Lorg/volder/cli/Census;)V"⟩ : MethodName)) (z := (⟨"org/volder/cli/Census", "add", "(Lorg/volder/cli/Census;)V"⟩ : MethodName)) hown (mvT hZ (hw _ (List.mem_of_getElem? (i := 35) rfl))) (mvT hZ (hw _ (List.mem_of_getElem? (i := 36) rfl))) (notFace_of_selects (args := #[]) (mvT hZ (hw _ (List.mem_of_getElem? (i := 38) rfl)))) (mvT hZ (hw _ (List.mem_of_getElem? (i := 38) rfl))) (mvT hZ (hw _ (List.mem_of_getElem? (i := 37) rfl))) (by decide) (backOf (W := 0) (rm_cadd l Z a0 hw [] b121 b131 (0 : Int64) (0 : Int64) sz cm_128 cm_138 T138.heap n0 (Nat.le_trans Z0 (Nat.le_trans (Nat.le_trans (Nat.le_trans (Nat.le_trans (Nat.le_refl _) E121.1) R128_0.1) E131.1) R138_0.1)) ((R128_2.ext E131).keep R138_0) ((R128_3.ext E131).keep R138_0 (ninS (Nat.ne_of_lt (Nat.lt_of_lt_of_le R128_2.lt (Nat.le_of_eq gb131.symm))) nin0)) ((R128_4.ext E131).keep R138_0 (ninS (Nat.ne_of_lt (Nat.lt_of_lt_of_le R128_2.lt (Nat.le_of_eq gb131.symm))) nin0)) ((R128_5.ext E131).keep R138_0 (ninS (Nat.ne_of_lt (Nat.lt_of_lt_of_le R128_2.lt (Nat.le_of_eq gb131.symm))) nin0)) ((R128_6.ext E131).keep R138_0 (ninS (Nat.ne_of_lt (Nat.lt_of_lt_of_le R128_2.lt (Nat.le_of_eq gb131.symm))) nin0)) ng121 (Nat.ne_of_lt (Nat.lt_of_lt_of_le R128_2.lt (Nat.le_of_eq gb131.symm))) (Ne.symm (Nat.ne_of_lt (Nat.lt_of_lt_of_le P1.lt (Nat.le_of_eq gb121.symm)))) (Nat.ne_of_lt (Nat.lt_of_lt_of_le A121.lt R128_1)) (Nat.ne_of_lt (Nat.lt_of_lt_of_le (R128_2.ext E131).lt R138_1)) R138_3 R138_4 R138_5 R138_6 ((R128_7.ext E131).keep R138_0) ((R128_8.ext E131).keep R138_0 (ninS (Nat.ne_of_lt (Nat.lt_of_lt_of_le R128_7.lt (Nat.le_of_eq gb131.symm))) nin0)) ((R128_9.ext E131).keep R138_0 (ninS (Nat.ne_of_lt (Nat.lt_of_lt_of_le R128_7.lt (Nat.le_of_eq gb131.symm))) nin0)) R138_8 R138_9 ((((P1.ext E121).keep R128_0).ext E131).keep R138_0) ((((P2.ext E121).keep R128_0 (ninS (Nat.ne_of_lt (Nat.lt_of_lt_of_le P1.lt (Nat.le_of_eq gb121.symm))) nin0)).ext E131).keep R138_0 (ninS (Nat.ne_of_lt (Nat.lt_of_lt_of_le ((P1.ext E121).keep R128_0).lt (Nat.le_of_eq gb131.symm))) nin0)) ((((P3.ext E121).keep R128_0 (ninS (Nat.ne_of_lt (Nat.lt_of_lt_of_le P1.lt (Nat.le_of_eq gb121.symm))) nin0)).ext E131).keep R138_0 (ninS (Nat.ne_of_lt (Nat.lt_of_lt_of_le ((P1.ext E121).keep R128_0).lt (Nat.le_of_eq gb131.symm))) nin0))) hZ (hw _ (List.mem_of_getElem? (i := 39) rfl)) (hw _ (List.mem_of_getElem? (i := 3) rfl)) (by decide) (by decide)) q152a q152c (g := (mkF m 139 #[iv i0, iv i1, iv i2, iv (0 : Int32), iv (0 : Int32), iv mg, rv b121, rv b131, iv (1 : Int32)] [(.ref b131), (.ref b121)])) rfl (by rw [hml]; rfl) (Steps.refl _) (argsL := [(.ref b131)]) (rest := []) (lenOf pd6 rfl) rfl (by show 2 * 0 + _ ≤ _; exact Nat.le_of_eq rfl) (hb hby at_139) (fun _ _ => ⟨rfl, e146, (by decide : 4 + 0 ≤ _), (by decide : 12 + 0 ≤ _)⟩)
        dsimp only [Pt.U, Pt.locs, Pt.cells, Pt.slots] at X152 l152 y152 z152 st152 hQ152
        subst l152 y152 z152
        obtain ⟨rfl, N152, R152_0, R152_1, R152_2⟩ := hQ152
        have M152 := Fr.app M146 N152
        have g153 : Goes p e below S0 (T152.setTop (mkF m 142 #[iv i0, iv i1, iv i2, iv (0 : Int32), iv (0 : Int32), iv mg, rv b121, rv b131, iv (1 : Int32)] [])) := fun t k => g151 t (st152.trans k)
        have g154 : Goes p e below S0 (T152.setTop (mkF m 149 #[iv i0, iv i1, iv i2, iv (0 : Int32), iv (0 : Int32), iv mg, rv b121, rv b131, iv (1 : Int32)] [(.ref b121)])) := fun t k => g153 t (by
          refine XS.iload X152.here hx rfl (hb hby at_142) rfl ?_
          show Go p e below t T152 m 144 #[iv i0, iv i1, iv i2, iv (0 : Int32), iv (0 : Int32), iv mg, rv b121, rv b131, iv (1 : Int32)] [(.int (1 : Int32))]
          refine XS.ifNo X152.here hx rfl (hb hby at_144) rfl (XT.i0_eq_f (by decide)) ?_
          show Go p e below t T152 m 147 #[iv i0, iv i1, iv i2, iv (0 : Int32), iv (0 : Int32), iv mg, rv b121, rv b131, iv (1 : Int32)] []
          refine XS.aload X152.here hx rfl (hb hby at_147) rfl rfl ?_
          show Go p e below t T152 m 149 #[iv i0, iv i1, iv i2, iv (0 : Int32), iv (0 : Int32), iv mg, rv b121, rv b131, iv (1 : Int32)] [(.ref b121)]
          exact k)
        obtain ⟨cq155, kq155, q155a, q155b, q155c⟩ := isOf hZ rfl R152_1
        obtain ⟨_, _, ⟨T155, L155, k155, n155⟩, -, X155, ⟨Lc155, hQ155, l155, y155, z155⟩, st155⟩ := X152.virtualBack hx (y := (⟨"org/volder/cli/Census", "allFaithful", "()Z"⟩ : MethodName)) (z := (⟨"org/volder/cli/Census", "allFaithful", "()Z"⟩ : MethodName)) hown (mvT hZ (hw _ (List.mem_of_getElem? (i := 23) rfl))) (mvT hZ (hw _ (List.mem_of_getElem? (i := 24) rfl))) (notFace_of_selects (args := #[]) (mvT hZ (hw _ (List.mem_of_getElem? (i := 26) rfl)))) (mvT hZ (hw _ (List.mem_of_getElem? (i := 26) rfl))) (mvT hZ (hw _ (List.mem_of_getElem? (i := 25) rfl))) (by decide) (backOf (W := 0) (rm_alf l Z a0 hw [] b121 ((0 : Int64) + (0 : Int64)) T152.heap n0 (Nat.le_trans Z0 (Nat.le_trans (Nat.le_trans (Nat.le_trans (Nat.le_trans (Nat.le_trans (Nat.le_refl _) E121.1) R128_0.1) E131.1) R138_0.1) R152_0.1)) R152_2) hZ (hw _ (List.mem_of_getElem? (i := 27) rfl)) (hw _ (List.mem_of_getElem? (i := 3) rfl)) (by decide) (by decide)) q155a q155c (g := (mkF m 149 #[iv i0, iv i1, iv i2, iv (0 : Int32), iv (0 : Int32), iv mg, rv b121, rv b131, iv (1 : Int32)] [(.ref b121)])) rfl (by rw [hml]; rfl) (Steps.refl _) (argsL := []) (rest := []) (lenOf pd5 rfl) rfl (by show 2 * 0 + _ ≤ _; exact Nat.le_of_eq rfl) (hb hby at_149) (fun _ _ => ⟨rfl, rfl, (by decide : 4 + 0 ≤ _), (by decide : 12 + 0 ≤ _)⟩)
        dsimp only [Pt.U, Pt.locs, Pt.cells, Pt.slots] at X155 l155 y155 z155 st155 hQ155
        subst l155 y155 z155
        obtain ⟨rfl, N155, e155⟩ := hQ155
        have M155 := Fr.app M152 N155
        have g156 : Goes p e below S0 (T155.setTop (mkF m 152 #[iv i0, iv i1, iv i2, iv (0 : Int32), iv (0 : Int32), iv mg, rv b121, rv b131, iv (1 : Int32)] [(.int (f_alf  ((0 : Int64) + (0 : Int64))))])) := fun t k => g154 t (st155.trans k)
        have g157 : Goes p e below S0 (T155.setTop (mkF m 176 #[iv i0, iv i1, iv i2, iv (0 : Int32), iv (0 : Int32), iv mg, rv b121, rv b131, iv (1 : Int32)] [(.int (1 : Int32))])) := fun t k => g156 t (by
          refine XS.iloadN X155.here hx rfl (hb hby at_152) rfl ?_
          show Go p e below t T155 m 153 #[iv i0, iv i1, iv i2, iv (0 : Int32), iv (0 : Int32), iv mg, rv b121, rv b131, iv (1 : Int32)] [(.int (0 : Int32)), (.int (f_alf  ((0 : Int64) + (0 : Int64))))]
          refine XS.iload X155.here hx rfl (hb hby at_153) rfl ?_
          show Go p e below t T155 m 155 #[iv i0, iv i1, iv i2, iv (0 : Int32), iv (0 : Int32), iv mg, rv b121, rv b131, iv (1 : Int32)] [(.int (0 : Int32)), (.int (0 : Int32)), (.int (f_alf  ((0 : Int64) + (0 : Int64))))]
          refine XS.iadd X155.here hx rfl (hb hby at_155) rfl ?_
          rw [show ((0 : Int32) + (0 : Int32)) = (0 : Int32) by decide]
          show Go p e below t T155 m 156 #[iv i0, iv i1, iv i2, iv (0 : Int32), iv (0 : Int32), iv mg, rv b121, rv b131, iv (1 : Int32)] [(.int (0 : Int32)), (.int (f_alf  ((0 : Int64) + (0 : Int64))))]
          refine XS.ifNo X155.here hx rfl (hb hby at_156) rfl (XT.i0_ne_f (by decide)) ?_
          show Go p e below t T155 m 159 #[iv i0, iv i1, iv i2, iv (0 : Int32), iv (0 : Int32), iv mg, rv b121, rv b131, iv (1 : Int32)] [(.int (f_alf  ((0 : Int64) + (0 : Int64))))]
          refine XT.iconstV X155.here hx rfl (1 : Int32) (hb hby at_159) (by decide) ?_
          show Go p e below t T155 m 160 #[iv i0, iv i1, iv i2, iv (0 : Int32), iv (0 : Int32), iv mg, rv b121, rv b131, iv (1 : Int32)] [(.int (1 : Int32)), (.int (f_alf  ((0 : Int64) + (0 : Int64))))]
          refine XS.goto X155.here hx rfl (pc0 := 160) (pc' := 164) rfl (hb hby at_160) (by decide) (by decide) ?_
          show Go p e below t T155 m 164 #[iv i0, iv i1, iv i2, iv (0 : Int32), iv (0 : Int32), iv mg, rv b121, rv b131, iv (1 : Int32)] [(.int (1 : Int32)), (.int (f_alf  ((0 : Int64) + (0 : Int64))))]
          refine XS.icmpNo X155.here hx rfl (hb hby at_164) rfl (XT.ii_ne_f (by decide)) ?_
          show Go p e below t T155 m 167 #[iv i0, iv i1, iv i2, iv (0 : Int32), iv (0 : Int32), iv mg, rv b121, rv b131, iv (1 : Int32)] []
          refine XT.iconstV X155.here hx rfl (1 : Int32) (hb hby at_167) (by decide) ?_
          show Go p e below t T155 m 168 #[iv i0, iv i1, iv i2, iv (0 : Int32), iv (0 : Int32), iv mg, rv b121, rv b131, iv (1 : Int32)] [(.int (1 : Int32))]
          refine XS.goto X155.here hx rfl (pc0 := 168) (pc' := 172) rfl (hb hby at_168) (by decide) (by decide) ?_
          show Go p e below t T155 m 172 #[iv i0, iv i1, iv i2, iv (0 : Int32), iv (0 : Int32), iv mg, rv b121, rv b131, iv (1 : Int32)] [(.int (1 : Int32))]
          refine XS.istore X155.here hx rfl (hb hby at_172) rfl (l' := #[iv i0, iv i1, iv i2, iv (0 : Int32), iv (0 : Int32), iv mg, rv b121, rv b131, iv (1 : Int32)]) rfl ?_
          show Go p e below t T155 m 174 #[iv i0, iv i1, iv i2, iv (0 : Int32), iv (0 : Int32), iv mg, rv b121, rv b131, iv (1 : Int32)] []
          refine XS.iload X155.here hx rfl (hb hby at_174) rfl ?_
          show Go p e below t T155 m 176 #[iv i0, iv i1, iv i2, iv (0 : Int32), iv (0 : Int32), iv mg, rv b121, rv b131, iv (1 : Int32)] [(.int (1 : Int32))]
          exact k)
        obtain ⟨fs, hr, hrun, hended, hW, hsame⟩ := X155.leave (v := some (.int (1 : Int32))) (fun h => by rw [Bd.returns] at h; cases h)
        refine ⟨_, _, g157 _ (retN X155 hx (t := .boolean) Bd.returns (by simp) (hb hby at_176) hr), hrun, hended, _, _, rfl, ?_, ⟨_, rfl⟩, hW, hsame.mono (by decide) (by decide)⟩
        show Q_law Z i0 i1 i2 sz h0 n0 _ T155.heap _
        rw [e155]
        exact ⟨rfl, M155⟩
    · skip
      have g158 : Goes p e below S0 (T138.setTop (mkF m 74 #[iv i0, iv i1, iv i2, iv (0 : Int32), iv (1 : Int32), iv mg, rv b121, rv b131, .unset] [(.ref b131)])) := fun t k => g141 t (by
        refine XS.iload X138.here hx rfl (hb hby at_66) rfl ?_
        show Go p e below t T138 m 68 #[iv i0, iv i1, iv i2, iv (0 : Int32), iv (1 : Int32), iv mg, rv b121, rv b131, .unset] [(.int (1 : Int32))]
        refine XT.iconstV X138.here hx rfl (1 : Int32) (hb hby at_68) (by decide) ?_
        show Go p e below t T138 m 69 #[iv i0, iv i1, iv i2, iv (0 : Int32), iv (1 : Int32), iv mg, rv b121, rv b131, .unset] [(.int (1 : Int32)), (.int (1 : Int32))]
        refine XS.icmpNo X138.here hx rfl (hb hby at_69) rfl (XT.ii_lt_f (by decide)) ?_
        show Go p e below t T138 m 72 #[iv i0, iv i1, iv i2, iv (0 : Int32), iv (1 : Int32), iv mg, rv b121, rv b131, .unset] []
        refine XS.aload X138.here hx rfl (hb hby at_72) rfl rfl ?_
        show Go p e below t T138 m 74 #[iv i0, iv i1, iv i2, iv (0 : Int32), iv (1 : Int32), iv mg, rv b121, rv b131, .unset] [(.ref b131)]
        exact k)
      obtain ⟨cq159, kq159, q159a, q159b, q159c⟩ := isOf hZ rfl R138_2
      obtain ⟨_, _, ⟨T159, L159, k159, n159⟩, -, X159, ⟨Lc159, hQ159, l159, y159, z159⟩, st159⟩ := X138.virtualBack hx (y := (⟨"org/volder/cli/Census", "countUnfaithful", "()V"⟩ : MethodName)) (z := (⟨"org/volder/cli/Census", "countUnfaithful", "()V"⟩ : MethodName)) hown (mvT hZ (hw _ (List.mem_of_getElem? (i := 30) rfl))) (mvT hZ (hw _ (List.mem_of_getElem? (i := 31) rfl))) (notFace_of_selects (args := #[]) (mvT hZ (hw _ (List.mem_of_getElem? (i := 33) rfl)))) (mvT hZ (hw _ (List.mem_of_getElem? (i := 33) rfl))) (mvT hZ (hw _ (List.mem_of_getElem? (i := 32) rfl))) (by decide) (backOf (W := 0) (rm_cn0 l Z a0 hw [] b131 sz cm_138 T138.heap n0 (Nat.le_trans Z0 (Nat.le_trans (Nat.le_trans (Nat.le_trans (Nat.le_trans (Nat.le_refl _) E121.1) R128_0.1) E131.1) R138_0.1)) R138_2 R138_3 R138_4 R138_5 R138_6 ng131) hZ (hw _ (List.mem_of_getElem? (i := 34) rfl)) (hw _ (List.mem_of_getElem? (i := 3) rfl)) (by decide) (by decide)) q159a q159c (g := (mkF m 74 #[iv i0, iv i1, iv i2, iv (0 : Int32), iv (1 : Int32), iv mg, rv b121, rv b131, .unset] [(.ref b131)])) rfl (by rw [hml]; rfl) (Steps.refl _) (argsL := []) (rest := []) (lenOf pd4 rfl) rfl (by show 2 * 0 + _ ≤ _; exact Nat.le_of_eq rfl) (hb hby at_74) (fun _ _ => ⟨rfl, rfl, (by decide : 4 + 0 ≤ _), (by decide : 12 + 0 ≤ _)⟩)
      dsimp only [Pt.U, Pt.locs, Pt.cells, Pt.slots] at X159 l159 y159 z159 st159 hQ159
      subst l159 y159 z159
      obtain ⟨rfl, N159, R159_0, R159_1, R159_2, R159_3, R159_4, R159_5⟩ := hQ159
      have M159 := Fr.app M138 N159
      have g160 : Goes p e below S0 (T159.setTop (mkF m 77 #[iv i0, iv i1, iv i2, iv (0 : Int32), iv (1 : Int32), iv mg, rv b121, rv b131, .unset] [])) := fun t k => g158 t (st159.trans k)
      have g161 : Goes p e below S0 (T159.setTop (mkF m 90 #[iv i0, iv i1, iv i2, iv (0 : Int32), iv (1 : Int32), iv mg, rv b121, rv b131, .unset] [(.ref b121)])) := fun t k => g160 t (by
        refine XS.iload X159.here hx rfl (hb hby at_77) rfl ?_
        show Go p e below t T159 m 79 #[iv i0, iv i1, iv i2, iv (0 : Int32), iv (1 : Int32), iv mg, rv b121, rv b131, .unset] [(.int (1 : Int32))]
        refine XT.iconstV X159.here hx rfl (2 : Int32) (hb hby at_79) (by decide) ?_
        show Go p e below t T159 m 80 #[iv i0, iv i1, iv i2, iv (0 : Int32), iv (1 : Int32), iv mg, rv b121, rv b131, .unset] [(.int (2 : Int32)), (.int (1 : Int32))]
        refine XS.icmpYes X159.here hx rfl (pc0 := 80) (pc' := 88) rfl (hb hby at_80) rfl (XT.ii_lt_t (by decide)) (by decide) (by decide) ?_
        show Go p e below t T159 m 88 #[iv i0, iv i1, iv i2, iv (0 : Int32), iv (1 : Int32), iv mg, rv b121, rv b131, .unset] []
        refine XS.aload X159.here hx rfl (hb hby at_88) rfl rfl ?_
        show Go p e below t T159 m 90 #[iv i0, iv i1, iv i2, iv (0 : Int32), iv (1 : Int32), iv mg, rv b121, rv b131, .unset] [(.ref b121)]
        exact k)
      obtain ⟨cq162, kq162, q162a, q162b, q162c⟩ := isOf hZ rfl (((R128_2.ext E131).keep R138_0).keep R159_0)
      obtain ⟨_, _, ⟨T162, L162, k162, n162⟩, -, X162, ⟨Lc162, hQ162, l162, y162, z162⟩, st162⟩ := X159.virtualBack hx (y := (⟨"org/volder/cli/Census", "allFaithful", "()Z"⟩ : MethodName)) (z := (⟨"org/volder/cli/Census", "allFaithful", "()Z"⟩ : MethodName)) hown (mvT hZ (hw _ (List.mem_of_getElem? (i := 23) rfl))) (mvT hZ (hw _ (List.mem_of_getElem? (i := 24) rfl))) (notFace_of_selects (args := #[]) (mvT hZ (hw _ (List.mem_of_getElem? (i := 26) rfl)))) (mvT hZ (hw _ (List.mem_of_getElem? (i := 26) rfl))) (mvT hZ (hw _ (List.mem_of_getElem? (i := 25) rfl))) (by decide) (backOf (W := 0) (rm_alf l Z a0 hw [] b121 (0 : Int64) T159.heap n0 (Nat.le_trans Z0 (Nat.le_trans (Nat.le_trans (Nat.le_trans (Nat.le_trans (Nat.le_trans (Nat.le_refl _) E121.1) R128_0.1) E131.1) R138_0.1) R159_0.1)) (((R128_3.ext E131).keep R138_0 (ninS (Nat.ne_of_lt (Nat.lt_of_lt_of_le R128_2.lt (Nat.le_of_eq gb131.symm))) nin0)).keep R159_0 (ninS (Nat.ne_of_lt (Nat.lt_of_lt_of_le R128_2.lt (Nat.le_of_eq gb131.symm))) nin0))) hZ (hw _ (List.mem_of_getElem? (i := 27) rfl)) (hw _ (List.mem_of_getElem? (i := 3) rfl)) (by decide) (by decide)) q162a q162c (g := (mkF m 90 #[iv i0, iv i1, iv i2, iv (0 : Int32), iv (1 : Int32), iv mg, rv b121, rv b131, .unset] [(.ref b121)])) rfl (by rw [hml]; rfl) (Steps.refl _) (argsL := []) (rest := []) (lenOf pd5 rfl) rfl (by show 2 * 0 + _ ≤ _; exact Nat.le_of_eq rfl) (hb hby at_90) (fun _ _ => ⟨rfl, rfl, (by decide : 4 + 0 ≤ _), (by decide : 12 + 0 ≤ _)⟩)
      dsimp only [Pt.U, Pt.locs, Pt.cells, Pt.slots] at X162 l162 y162 z162 st162 hQ162
      subst l162 y162 z162
      obtain ⟨rfl, N162, e162⟩ := hQ162
      have M162 := Fr.app M159 N162
      have g163 : Goes p e below S0 (T162.setTop (mkF m 93 #[iv i0, iv i1, iv i2, iv (0 : Int32), iv (1 : Int32), iv mg, rv b121, rv b131, .unset] [(.int (f_alf  (0 : Int64)))])) := fun t k => g161 t (st162.trans k)
      have g164 : Goes p e below S0 (T162.setTop (mkF m 107 #[iv i0, iv i1, iv i2, iv (0 : Int32), iv (1 : Int32), iv mg, rv b121, rv b131, .unset] [(.ref b131)])) := fun t k => g163 t (by
        refine XS.iloadN X162.here hx rfl (hb hby at_93) rfl ?_
        show Go p e below t T162 m 94 #[iv i0, iv i1, iv i2, iv (0 : Int32), iv (1 : Int32), iv mg, rv b121, rv b131, .unset] [(.int (0 : Int32)), (.int (f_alf  (0 : Int64)))]
        refine XS.ifNo X162.here hx rfl (hb hby at_94) rfl (XT.i0_ne_f (by decide)) ?_
        show Go p e below t T162 m 97 #[iv i0, iv i1, iv i2, iv (0 : Int32), iv (1 : Int32), iv mg, rv b121, rv b131, .unset] [(.int (f_alf  (0 : Int64)))]
        refine XT.iconstV X162.here hx rfl (1 : Int32) (hb hby at_97) (by decide) ?_
        show Go p e below t T162 m 98 #[iv i0, iv i1, iv i2, iv (0 : Int32), iv (1 : Int32), iv mg, rv b121, rv b131, .unset] [(.int (1 : Int32)), (.int (f_alf  (0 : Int64)))]
        refine XS.goto X162.here hx rfl (pc0 := 98) (pc' := 102) rfl (hb hby at_98) (by decide) (by decide) ?_
        show Go p e below t T162 m 102 #[iv i0, iv i1, iv i2, iv (0 : Int32), iv (1 : Int32), iv mg, rv b121, rv b131, .unset] [(.int (1 : Int32)), (.int (f_alf  (0 : Int64)))]
        refine XS.icmpNo X162.here hx rfl (hb hby at_102) rfl (XT.ii_ne_f (by decide)) ?_
        show Go p e below t T162 m 105 #[iv i0, iv i1, iv i2, iv (0 : Int32), iv (1 : Int32), iv mg, rv b121, rv b131, .unset] []
        refine XS.aload X162.here hx rfl (hb hby at_105) rfl rfl ?_
        show Go p e below t T162 m 107 #[iv i0, iv i1, iv i2, iv (0 : Int32), iv (1 : Int32), iv mg, rv b121, rv b131, .unset] [(.ref b131)]
        exact k)
      obtain ⟨cq165, kq165, q165a, q165b, q165c⟩ := isOf hZ e162 R159_1
      obtain ⟨_, _, ⟨T165, L165, k165, n165⟩, -, X165, ⟨Lc165, hQ165, l165, y165, z165⟩, st165⟩ := X162.virtualBack hx (y := (⟨"org/volder/cli/Census", "allFaithful", "()Z"⟩ : MethodName)) (z := (⟨"org/volder/cli/Census", "allFaithful", "()Z"⟩ : MethodName)) hown (mvT hZ (hw _ (List.mem_of_getElem? (i := 23) rfl))) (mvT hZ (hw _ (List.mem_of_getElem? (i := 24) rfl))) (notFace_of_selects (args := #[]) (mvT hZ (hw _ (List.mem_of_getElem? (i := 26) rfl)))) (mvT hZ (hw _ (List.mem_of_getElem? (i := 26) rfl))) (mvT hZ (hw _ (List.mem_of_getElem? (i := 25) rfl))) (by decide) (backOf (W := 0) (rm_alf l Z a0 hw [] b131 (1 : Int64) T159.heap n0 (Nat.le_trans Z0 (Nat.le_trans (Nat.le_trans (Nat.le_trans (Nat.le_trans (Nat.le_trans (Nat.le_refl _) E121.1) R128_0.1) E131.1) R138_0.1) R159_0.1)) R159_2) hZ (hw _ (List.mem_of_getElem? (i := 27) rfl)) (hw _ (List.mem_of_getElem? (i := 3) rfl)) (by decide) (by decide)) q165a q165c (g := (mkF m 107 #[iv i0, iv i1, iv i2, iv (0 : Int32), iv (1 : Int32), iv mg, rv b121, rv b131, .unset] [(.ref b131)])) rfl (by rw [hml]; rfl) (Steps.refl _) (argsL := []) (rest := []) (lenOf pd5 rfl) rfl (by show 2 * 0 + _ ≤ _; exact Nat.le_of_eq rfl) (hb hby at_107) (fun _ _ => ⟨rfl, e162, (by decide : 4 + 0 ≤ _), (by decide : 12 + 0 ≤ _)⟩)
      dsimp only [Pt.U, Pt.locs, Pt.cells, Pt.slots] at X165 l165 y165 z165 st165 hQ165
      subst l165 y165 z165
      obtain ⟨rfl, N165, e165⟩ := hQ165
      have M165 := Fr.app M162 N165
      have g166 : Goes p e below S0 (T165.setTop (mkF m 110 #[iv i0, iv i1, iv i2, iv (0 : Int32), iv (1 : Int32), iv mg, rv b121, rv b131, .unset] [(.int (f_alf  (1 : Int64)))])) := fun t k => g164 t (st165.trans k)
      have g167 : Goes p e below S0 (T165.setTop (mkF m 132 #[iv i0, iv i1, iv i2, iv (0 : Int32), iv (1 : Int32), iv mg, rv b121, rv b131, iv (1 : Int32)] [(.int mg)])) := fun t k => g166 t (by
        refine XS.iload X165.here hx rfl (hb hby at_110) rfl ?_
        show Go p e below t T165 m 112 #[iv i0, iv i1, iv i2, iv (0 : Int32), iv (1 : Int32), iv mg, rv b121, rv b131, .unset] [(.int (1 : Int32)), (.int (f_alf  (1 : Int64)))]
        refine XS.ifYes X165.here hx rfl (pc0 := 112) (pc' := 119) rfl (hb hby at_112) rfl (XT.i0_ne_t (by decide)) (by decide) (by decide) ?_
        show Go p e below t T165 m 119 #[iv i0, iv i1, iv i2, iv (0 : Int32), iv (1 : Int32), iv mg, rv b121, rv b131, .unset] [(.int (f_alf  (1 : Int64)))]
        refine XT.iconstV X165.here hx rfl (0 : Int32) (hb hby at_119) (by decide) ?_
        show Go p e below t T165 m 120 #[iv i0, iv i1, iv i2, iv (0 : Int32), iv (1 : Int32), iv mg, rv b121, rv b131, .unset] [(.int (0 : Int32)), (.int (f_alf  (1 : Int64)))]
        refine XS.icmpNo X165.here hx rfl (hb hby at_120) rfl (XT.ii_ne_f (by decide)) ?_
        show Go p e below t T165 m 123 #[iv i0, iv i1, iv i2, iv (0 : Int32), iv (1 : Int32), iv mg, rv b121, rv b131, .unset] []
        refine XT.iconstV X165.here hx rfl (1 : Int32) (hb hby at_123) (by decide) ?_
        show Go p e below t T165 m 124 #[iv i0, iv i1, iv i2, iv (0 : Int32), iv (1 : Int32), iv mg, rv b121, rv b131, .unset] [(.int (1 : Int32))]
        refine XS.goto X165.here hx rfl (pc0 := 124) (pc' := 128) rfl (hb hby at_124) (by decide) (by decide) ?_
        show Go p e below t T165 m 128 #[iv i0, iv i1, iv i2, iv (0 : Int32), iv (1 : Int32), iv mg, rv b121, rv b131, .unset] [(.int (1 : Int32))]
        refine XS.istore X165.here hx rfl (hb hby at_128) rfl (l' := #[iv i0, iv i1, iv i2, iv (0 : Int32), iv (1 : Int32), iv mg, rv b121, rv b131, iv (1 : Int32)]) rfl ?_
        show Go p e below t T165 m 130 #[iv i0, iv i1, iv i2, iv (0 : Int32), iv (1 : Int32), iv mg, rv b121, rv b131, iv (1 : Int32)] []
        refine XS.iload X165.here hx rfl (hb hby at_130) rfl ?_
        show Go p e below t T165 m 132 #[iv i0, iv i1, iv i2, iv (0 : Int32), iv (1 : Int32), iv mg, rv b121, rv b131, iv (1 : Int32)] [(.int mg)]
        exact k)
      by_cases h168 : mg = 0
      · skip
        have g169 : Goes p e below S0 (T165.setTop (mkF m 176 #[iv i0, iv i1, iv i2, iv (0 : Int32), iv (1 : Int32), iv mg, rv b121, rv b131, iv (1 : Int32)] [(.int (1 : Int32))])) := fun t k => g167 t (by
          refine XS.ifYes X165.here hx rfl (pc0 := 132) (pc' := 174) rfl (hb hby at_132) rfl (XT.i0_eq_t h168) (by decide) (by decide) ?_
          show Go p e below t T165 m 174 #[iv i0, iv i1, iv i2, iv (0 : Int32), iv (1 : Int32), iv mg, rv b121, rv b131, iv (1 : Int32)] []
          refine XS.iload X165.here hx rfl (hb hby at_174) rfl ?_
          show Go p e below t T165 m 176 #[iv i0, iv i1, iv i2, iv (0 : Int32), iv (1 : Int32), iv mg, rv b121, rv b131, iv (1 : Int32)] [(.int (1 : Int32))]
          exact k)
        obtain ⟨fs, hr, hrun, hended, hW, hsame⟩ := X165.leave (v := some (.int (1 : Int32))) (fun h => by rw [Bd.returns] at h; cases h)
        refine ⟨_, _, g169 _ (retN X165 hx (t := .boolean) Bd.returns (by simp) (hb hby at_176) hr), hrun, hended, _, _, rfl, ?_, ⟨_, rfl⟩, hW, hsame.mono (by decide) (by decide)⟩
        show Q_law Z i0 i1 i2 sz h0 n0 _ T165.heap _
        rw [e165]
        exact ⟨rfl, M165⟩
      · skip
        have g170 : Goes p e below S0 (T165.setTop (mkF m 139 #[iv i0, iv i1, iv i2, iv (0 : Int32), iv (1 : Int32), iv mg, rv b121, rv b131, iv (1 : Int32)] [(.ref b131), (.ref b121)])) := fun t k => g167 t (by
          refine XS.ifNo X165.here hx rfl (hb hby at_132) rfl (XT.i0_eq_f h168) ?_
          show Go p e below t T165 m 135 #[iv i0, iv i1, iv i2, iv (0 : Int32), iv (1 : Int32), iv mg, rv b121, rv b131, iv (1 : Int32)] []
          refine XS.aload X165.here hx rfl (hb hby at_135) rfl rfl ?_
          show Go p e below t T165 m 137 #[iv i0, iv i1, iv i2, iv (0 : Int32), iv (1 : Int32), iv mg, rv b121, rv b131, iv (1 : Int32)] [(.ref b121)]
          refine XS.aload X165.here hx rfl (hb hby at_137) rfl rfl ?_
          show Go p e below t T165 m 139 #[iv i0, iv i1, iv i2, iv (0 : Int32), iv (1 : Int32), iv mg, rv b121, rv b131, iv (1 : Int32)] [(.ref b131), (.ref b121)]
          exact k)
        obtain ⟨cq171, kq171, q171a, q171b, q171c⟩ := isOf hZ e165 (((R128_2.ext E131).keep R138_0).keep R159_0)
        obtain ⟨_, _, ⟨T171, L171, k171, n171⟩, -, X171, ⟨Lc171, hQ171, l171, y171, z171⟩, st171⟩ := X165.virtualBack hx (y := (⟨"org/volder/cli/Census", "add", "(Lorg/volder/cli/Census;)V"⟩ : MethodName)) (z := (⟨"org/volder/cli/Census", "add", "(Lorg/volder/cli/Census;)V"⟩ : MethodName)) hown (mvT hZ (hw _ (List.mem_of_getElem? (i := 35) rfl))) (mvT hZ (hw _ (List.mem_of_getElem? (i := 36) rfl))) (notFace_of_selects (args := #[]) (mvT hZ (hw _ (List.mem_of_getElem? (i := 38) rfl)))) (mvT hZ (hw _ (List.mem_of_getElem? (i := 38) rfl))) (mvT hZ (hw _ (List.mem_of_getElem? (i := 37) rfl))) (by decide) (backOf (W := 0) (rm_cadd l Z a0 hw [] b121 b131 (0 : Int64) (1 : Int64) sz cm_128 cm_138 T159.heap n0 (Nat.le_trans Z0 (Nat.le_trans (Nat.le_trans (Nat.le_trans (Nat.le_trans (Nat.le_trans (Nat.le_refl _) E121.1) R128_0.1) E131.1) R138_0.1) R159_0.1)) (((R128_2.ext E131).keep R138_0).keep R159_0) (((R128_3.ext E131).keep R138_0 (ninS (Nat.ne_of_lt (Nat.lt_of_lt_of_le R128_2.lt (Nat.le_of_eq gb131.symm))) nin0)).keep R159_0 (ninS (Nat.ne_of_lt (Nat.lt_of_lt_of_le R128_2.lt (Nat.le_of_eq gb131.symm))) nin0)) (((R128_4.ext E131).keep R138_0 (ninS (Nat.ne_of_lt (Nat.lt_of_lt_of_le R128_2.lt (Nat.le_of_eq gb131.symm))) nin0)).keep R159_0 (ninS (Nat.ne_of_lt (Nat.lt_of_lt_of_le R128_2.lt (Nat.le_of_eq gb131.symm))) nin0)) (((R128_5.ext E131).keep R138_0 (ninS (Nat.ne_of_lt (Nat.lt_of_lt_of_le R128_2.lt (Nat.le_of_eq gb131.symm))) nin0)).keep R159_0 (ninS (Nat.ne_of_lt (Nat.lt_of_lt_of_le R128_2.lt (Nat.le_of_eq gb131.symm))) nin0)) (((R128_6.ext E131).keep R138_0 (ninS (Nat.ne_of_lt (Nat.lt_of_lt_of_le R128_2.lt (Nat.le_of_eq gb131.symm))) nin0)).keep R159_0 (ninS (Nat.ne_of_lt (Nat.lt_of_lt_of_le R128_2.lt (Nat.le_of_eq gb131.symm))) nin0)) ng121 (Nat.ne_of_lt (Nat.lt_of_lt_of_le R128_2.lt (Nat.le_of_eq gb131.symm))) (Ne.symm (Nat.ne_of_lt (Nat.lt_of_lt_of_le P1.lt (Nat.le_of_eq gb121.symm)))) (Nat.ne_of_lt (Nat.lt_of_lt_of_le A121.lt R128_1)) (Nat.ne_of_lt (Nat.lt_of_lt_of_le (R128_2.ext E131).lt R138_1)) R159_2 R159_3 R159_4 R159_5 (((R128_7.ext E131).keep R138_0).keep R159_0) (((R128_8.ext E131).keep R138_0 (ninS (Nat.ne_of_lt (Nat.lt_of_lt_of_le R128_7.lt (Nat.le_of_eq gb131.symm))) nin0)).keep R159_0 (ninS (Nat.ne_of_lt (Nat.lt_of_lt_of_le R128_7.lt (Nat.le_of_eq gb131.symm))) nin0)) (((R128_9.ext E131).keep R138_0 (ninS (Nat.ne_of_lt (Nat.lt_of_lt_of_le R128_7.lt (Nat.le_of_eq gb131.symm))) nin0)).keep R159_0 (ninS (Nat.ne_of_lt (Nat.lt_of_lt_of_le R128_7.lt (Nat.le_of_eq gb131.symm))) nin0)) (R138_8.keep R159_0 (ninS (Ne.symm (Nat.ne_of_lt (Nat.lt_of_lt_of_le A131.lt R138_1))) nin0)) (R138_9.keep R159_0 (ninS (Ne.symm (Nat.ne_of_lt (Nat.lt_of_lt_of_le A131.lt R138_1))) nin0)) (((((P1.ext E121).keep R128_0).ext E131).keep R138_0).keep R159_0) (((((P2.ext E121).keep R128_0 (ninS (Nat.ne_of_lt (Nat.lt_of_lt_of_le P1.lt (Nat.le_of_eq gb121.symm))) nin0)).ext E131).keep R138_0 (ninS (Nat.ne_of_lt (Nat.lt_of_lt_of_le ((P1.ext E121).keep R128_0).lt (Nat.le_of_eq gb131.symm))) nin0)).keep R159_0 (ninS (Nat.ne_of_lt (Nat.lt_of_lt_of_le ((P1.ext E121).keep R128_0).lt (Nat.le_of_eq gb131.symm))) nin0)) (((((P3.ext E121).keep R128_0 (ninS (Nat.ne_of_lt (Nat.lt_of_lt_of_le P1.lt (Nat.le_of_eq gb121.symm))) nin0)).ext E131).keep R138_0 (ninS (Nat.ne_of_lt (Nat.lt_of_lt_of_le ((P1.ext E121).keep R128_0).lt (Nat.le_of_eq gb131.symm))) nin0)).keep R159_0 (ninS (Nat.ne_of_lt (Nat.lt_of_lt_of_le ((P1.ext E121).keep R128_0).lt (Nat.le_of_eq gb131.symm))) nin0))) hZ (hw _ (List.mem_of_getElem? (i := 39) rfl)) (hw _ (List.mem_of_getElem? (i := 3) rfl)) (by decide) (by decide)) q171a q171c (g := (mkF m 139 #[iv i0, iv i1, iv i2, iv (0 : Int32), iv (1 : Int32), iv mg, rv b121, rv b131, iv (1 : Int32)] [(.ref b131), (.ref b121)])) rfl (by rw [hml]; rfl) (Steps.refl _) (argsL := [(.ref b131)]) (rest := []) (lenOf pd6 rfl) rfl (by show 2 * 0 + _ ≤ _; exact Nat.le_of_eq rfl) (hb hby at_139) (fun _ _ => ⟨rfl, e165, (by decide : 4 + 0 ≤ _), (by decide : 12 + 0 ≤ _)⟩)
        dsimp only [Pt.U, Pt.locs, Pt.cells, Pt.slots] at X171 l171 y171 z171 st171 hQ171
        subst l171 y171 z171
        obtain ⟨rfl, N171, R171_0, R171_1, R171_2⟩ := hQ171
        have M171 := Fr.app M165 N171
        have g172 : Goes p e below S0 (T171.setTop (mkF m 142 #[iv i0, iv i1, iv i2, iv (0 : Int32), iv (1 : Int32), iv mg, rv b121, rv b131, iv (1 : Int32)] [])) := fun t k => g170 t (st171.trans k)
        have g173 : Goes p e below S0 (T171.setTop (mkF m 149 #[iv i0, iv i1, iv i2, iv (0 : Int32), iv (1 : Int32), iv mg, rv b121, rv b131, iv (1 : Int32)] [(.ref b121)])) := fun t k => g172 t (by
          refine XS.iload X171.here hx rfl (hb hby at_142) rfl ?_
          show Go p e below t T171 m 144 #[iv i0, iv i1, iv i2, iv (0 : Int32), iv (1 : Int32), iv mg, rv b121, rv b131, iv (1 : Int32)] [(.int (1 : Int32))]
          refine XS.ifNo X171.here hx rfl (hb hby at_144) rfl (XT.i0_eq_f (by decide)) ?_
          show Go p e below t T171 m 147 #[iv i0, iv i1, iv i2, iv (0 : Int32), iv (1 : Int32), iv mg, rv b121, rv b131, iv (1 : Int32)] []
          refine XS.aload X171.here hx rfl (hb hby at_147) rfl rfl ?_
          show Go p e below t T171 m 149 #[iv i0, iv i1, iv i2, iv (0 : Int32), iv (1 : Int32), iv mg, rv b121, rv b131, iv (1 : Int32)] [(.ref b121)]
          exact k)
        obtain ⟨cq174, kq174, q174a, q174b, q174c⟩ := isOf hZ rfl R171_1
        obtain ⟨_, _, ⟨T174, L174, k174, n174⟩, -, X174, ⟨Lc174, hQ174, l174, y174, z174⟩, st174⟩ := X171.virtualBack hx (y := (⟨"org/volder/cli/Census", "allFaithful", "()Z"⟩ : MethodName)) (z := (⟨"org/volder/cli/Census", "allFaithful", "()Z"⟩ : MethodName)) hown (mvT hZ (hw _ (List.mem_of_getElem? (i := 23) rfl))) (mvT hZ (hw _ (List.mem_of_getElem? (i := 24) rfl))) (notFace_of_selects (args := #[]) (mvT hZ (hw _ (List.mem_of_getElem? (i := 26) rfl)))) (mvT hZ (hw _ (List.mem_of_getElem? (i := 26) rfl))) (mvT hZ (hw _ (List.mem_of_getElem? (i := 25) rfl))) (by decide) (backOf (W := 0) (rm_alf l Z a0 hw [] b121 ((0 : Int64) + (1 : Int64)) T171.heap n0 (Nat.le_trans Z0 (Nat.le_trans (Nat.le_trans (Nat.le_trans (Nat.le_trans (Nat.le_trans (Nat.le_trans (Nat.le_refl _) E121.1) R128_0.1) E131.1) R138_0.1) R159_0.1) R171_0.1)) R171_2) hZ (hw _ (List.mem_of_getElem? (i := 27) rfl)) (hw _ (List.mem_of_getElem? (i := 3) rfl)) (by decide) (by decide)) q174a q174c (g := (mkF m 149 #[iv i0, iv i1, iv i2, iv (0 : Int32), iv (1 : Int32), iv mg, rv b121, rv b131, iv (1 : Int32)] [(.ref b121)])) rfl (by rw [hml]; rfl) (Steps.refl _) (argsL := []) (rest := []) (lenOf pd5 rfl) rfl (by show 2 * 0 + _ ≤ _; exact Nat.le_of_eq rfl) (hb hby at_149) (fun _ _ => ⟨rfl, rfl, (by decide : 4 + 0 ≤ _), (by decide : 12 + 0 ≤ _)⟩)
        dsimp only [Pt.U, Pt.locs, Pt.cells, Pt.slots] at X174 l174 y174 z174 st174 hQ174
        subst l174 y174 z174
        obtain ⟨rfl, N174, e174⟩ := hQ174
        have M174 := Fr.app M171 N174
        have g175 : Goes p e below S0 (T174.setTop (mkF m 152 #[iv i0, iv i1, iv i2, iv (0 : Int32), iv (1 : Int32), iv mg, rv b121, rv b131, iv (1 : Int32)] [(.int (f_alf  ((0 : Int64) + (1 : Int64))))])) := fun t k => g173 t (st174.trans k)
        have g176 : Goes p e below S0 (T174.setTop (mkF m 176 #[iv i0, iv i1, iv i2, iv (0 : Int32), iv (1 : Int32), iv mg, rv b121, rv b131, iv (1 : Int32)] [(.int (1 : Int32))])) := fun t k => g175 t (by
          refine XS.iloadN X174.here hx rfl (hb hby at_152) rfl ?_
          show Go p e below t T174 m 153 #[iv i0, iv i1, iv i2, iv (0 : Int32), iv (1 : Int32), iv mg, rv b121, rv b131, iv (1 : Int32)] [(.int (0 : Int32)), (.int (f_alf  ((0 : Int64) + (1 : Int64))))]
          refine XS.iload X174.here hx rfl (hb hby at_153) rfl ?_
          show Go p e below t T174 m 155 #[iv i0, iv i1, iv i2, iv (0 : Int32), iv (1 : Int32), iv mg, rv b121, rv b131, iv (1 : Int32)] [(.int (1 : Int32)), (.int (0 : Int32)), (.int (f_alf  ((0 : Int64) + (1 : Int64))))]
          refine XS.iadd X174.here hx rfl (hb hby at_155) rfl ?_
          rw [show ((0 : Int32) + (1 : Int32)) = (1 : Int32) by decide]
          show Go p e below t T174 m 156 #[iv i0, iv i1, iv i2, iv (0 : Int32), iv (1 : Int32), iv mg, rv b121, rv b131, iv (1 : Int32)] [(.int (1 : Int32)), (.int (f_alf  ((0 : Int64) + (1 : Int64))))]
          refine XS.ifYes X174.here hx rfl (pc0 := 156) (pc' := 163) rfl (hb hby at_156) rfl (XT.i0_ne_t (by decide)) (by decide) (by decide) ?_
          show Go p e below t T174 m 163 #[iv i0, iv i1, iv i2, iv (0 : Int32), iv (1 : Int32), iv mg, rv b121, rv b131, iv (1 : Int32)] [(.int (f_alf  ((0 : Int64) + (1 : Int64))))]
          refine XT.iconstV X174.here hx rfl (0 : Int32) (hb hby at_163) (by decide) ?_
          show Go p e below t T174 m 164 #[iv i0, iv i1, iv i2, iv (0 : Int32), iv (1 : Int32), iv mg, rv b121, rv b131, iv (1 : Int32)] [(.int (0 : Int32)), (.int (f_alf  ((0 : Int64) + (1 : Int64))))]
          refine XS.icmpNo X174.here hx rfl (hb hby at_164) rfl (XT.ii_ne_f (by decide)) ?_
          show Go p e below t T174 m 167 #[iv i0, iv i1, iv i2, iv (0 : Int32), iv (1 : Int32), iv mg, rv b121, rv b131, iv (1 : Int32)] []
          refine XT.iconstV X174.here hx rfl (1 : Int32) (hb hby at_167) (by decide) ?_
          show Go p e below t T174 m 168 #[iv i0, iv i1, iv i2, iv (0 : Int32), iv (1 : Int32), iv mg, rv b121, rv b131, iv (1 : Int32)] [(.int (1 : Int32))]
          refine XS.goto X174.here hx rfl (pc0 := 168) (pc' := 172) rfl (hb hby at_168) (by decide) (by decide) ?_
          show Go p e below t T174 m 172 #[iv i0, iv i1, iv i2, iv (0 : Int32), iv (1 : Int32), iv mg, rv b121, rv b131, iv (1 : Int32)] [(.int (1 : Int32))]
          refine XS.istore X174.here hx rfl (hb hby at_172) rfl (l' := #[iv i0, iv i1, iv i2, iv (0 : Int32), iv (1 : Int32), iv mg, rv b121, rv b131, iv (1 : Int32)]) rfl ?_
          show Go p e below t T174 m 174 #[iv i0, iv i1, iv i2, iv (0 : Int32), iv (1 : Int32), iv mg, rv b121, rv b131, iv (1 : Int32)] []
          refine XS.iload X174.here hx rfl (hb hby at_174) rfl ?_
          show Go p e below t T174 m 176 #[iv i0, iv i1, iv i2, iv (0 : Int32), iv (1 : Int32), iv mg, rv b121, rv b131, iv (1 : Int32)] [(.int (1 : Int32))]
          exact k)
        obtain ⟨fs, hr, hrun, hended, hW, hsame⟩ := X174.leave (v := some (.int (1 : Int32))) (fun h => by rw [Bd.returns] at h; cases h)
        refine ⟨_, _, g176 _ (retN X174 hx (t := .boolean) Bd.returns (by simp) (hb hby at_176) hr), hrun, hended, _, _, rfl, ?_, ⟨_, rfl⟩, hW, hsame.mono (by decide) (by decide)⟩
        show Q_law Z i0 i1 i2 sz h0 n0 _ T174.heap _
        rw [e174]
        exact ⟨rfl, M174⟩
    · skip
      have g177 : Goes p e below S0 (T138.setTop (mkF m 74 #[iv i0, iv i1, iv i2, iv (0 : Int32), iv (2 : Int32), iv mg, rv b121, rv b131, .unset] [(.ref b131)])) := fun t k => g141 t (by
        refine XS.iload X138.here hx rfl (hb hby at_66) rfl ?_
        show Go p e below t T138 m 68 #[iv i0, iv i1, iv i2, iv (0 : Int32), iv (2 : Int32), iv mg, rv b121, rv b131, .unset] [(.int (2 : Int32))]
        refine XT.iconstV X138.here hx rfl (1 : Int32) (hb hby at_68) (by decide) ?_
        show Go p e below t T138 m 69 #[iv i0, iv i1, iv i2, iv (0 : Int32), iv (2 : Int32), iv mg, rv b121, rv b131, .unset] [(.int (1 : Int32)), (.int (2 : Int32))]
        refine XS.icmpNo X138.here hx rfl (hb hby at_69) rfl (XT.ii_lt_f (by decide)) ?_
        show Go p e below t T138 m 72 #[iv i0, iv i1, iv i2, iv (0 : Int32), iv (2 : Int32), iv mg, rv b121, rv b131, .unset] []
        refine XS.aload X138.here hx rfl (hb hby at_72) rfl rfl ?_
        show Go p e below t T138 m 74 #[iv i0, iv i1, iv i2, iv (0 : Int32), iv (2 : Int32), iv mg, rv b121, rv b131, .unset] [(.ref b131)]
        exact k)
      obtain ⟨cq178, kq178, q178a, q178b, q178c⟩ := isOf hZ rfl R138_2
      obtain ⟨_, _, ⟨T178, L178, k178, n178⟩, -, X178, ⟨Lc178, hQ178, l178, y178, z178⟩, st178⟩ := X138.virtualBack hx (y := (⟨"org/volder/cli/Census", "countUnfaithful", "()V"⟩ : MethodName)) (z := (⟨"org/volder/cli/Census", "countUnfaithful", "()V"⟩ : MethodName)) hown (mvT hZ (hw _ (List.mem_of_getElem? (i := 30) rfl))) (mvT hZ (hw _ (List.mem_of_getElem? (i := 31) rfl))) (notFace_of_selects (args := #[]) (mvT hZ (hw _ (List.mem_of_getElem? (i := 33) rfl)))) (mvT hZ (hw _ (List.mem_of_getElem? (i := 33) rfl))) (mvT hZ (hw _ (List.mem_of_getElem? (i := 32) rfl))) (by decide) (backOf (W := 0) (rm_cn0 l Z a0 hw [] b131 sz cm_138 T138.heap n0 (Nat.le_trans Z0 (Nat.le_trans (Nat.le_trans (Nat.le_trans (Nat.le_trans (Nat.le_refl _) E121.1) R128_0.1) E131.1) R138_0.1)) R138_2 R138_3 R138_4 R138_5 R138_6 ng131) hZ (hw _ (List.mem_of_getElem? (i := 34) rfl)) (hw _ (List.mem_of_getElem? (i := 3) rfl)) (by decide) (by decide)) q178a q178c (g := (mkF m 74 #[iv i0, iv i1, iv i2, iv (0 : Int32), iv (2 : Int32), iv mg, rv b121, rv b131, .unset] [(.ref b131)])) rfl (by rw [hml]; rfl) (Steps.refl _) (argsL := []) (rest := []) (lenOf pd4 rfl) rfl (by show 2 * 0 + _ ≤ _; exact Nat.le_of_eq rfl) (hb hby at_74) (fun _ _ => ⟨rfl, rfl, (by decide : 4 + 0 ≤ _), (by decide : 12 + 0 ≤ _)⟩)
      dsimp only [Pt.U, Pt.locs, Pt.cells, Pt.slots] at X178 l178 y178 z178 st178 hQ178
      subst l178 y178 z178
      obtain ⟨rfl, N178, R178_0, R178_1, R178_2, R178_3, R178_4, R178_5⟩ := hQ178
      have M178 := Fr.app M138 N178
      have g179 : Goes p e below S0 (T178.setTop (mkF m 77 #[iv i0, iv i1, iv i2, iv (0 : Int32), iv (2 : Int32), iv mg, rv b121, rv b131, .unset] [])) := fun t k => g177 t (st178.trans k)
      have g180 : Goes p e below S0 (T178.setTop (mkF m 85 #[iv i0, iv i1, iv i2, iv (0 : Int32), iv (2 : Int32), iv mg, rv b121, rv b131, .unset] [(.ref b131)])) := fun t k => g179 t (by
        refine XS.iload X178.here hx rfl (hb hby at_77) rfl ?_
        show Go p e below t T178 m 79 #[iv i0, iv i1, iv i2, iv (0 : Int32), iv (2 : Int32), iv mg, rv b121, rv b131, .unset] [(.int (2 : Int32))]
        refine XT.iconstV X178.here hx rfl (2 : Int32) (hb hby at_79) (by decide) ?_
        show Go p e below t T178 m 80 #[iv i0, iv i1, iv i2, iv (0 : Int32), iv (2 : Int32), iv mg, rv b121, rv b131, .unset] [(.int (2 : Int32)), (.int (2 : Int32))]
        refine XS.icmpNo X178.here hx rfl (hb hby at_80) rfl (XT.ii_lt_f (by decide)) ?_
        show Go p e below t T178 m 83 #[iv i0, iv i1, iv i2, iv (0 : Int32), iv (2 : Int32), iv mg, rv b121, rv b131, .unset] []
        refine XS.aload X178.here hx rfl (hb hby at_83) rfl rfl ?_
        show Go p e below t T178 m 85 #[iv i0, iv i1, iv i2, iv (0 : Int32), iv (2 : Int32), iv mg, rv b121, rv b131, .unset] [(.ref b131)]
        exact k)
      obtain ⟨cq181, kq181, q181a, q181b, q181c⟩ := isOf hZ rfl R178_1
      obtain ⟨_, _, ⟨T181, L181, k181, n181⟩, -, X181, ⟨Lc181, hQ181, l181, y181, z181⟩, st181⟩ := X178.virtualBack hx (y := (⟨"org/volder/cli/Census", "countUnfaithful", "()V"⟩ : MethodName)) (z := (⟨"org/volder/cli/Census", "countUnfaithful", "()V"⟩ : MethodName)) hown (mvT hZ (hw _ (List.mem_of_getElem? (i := 30) rfl))) (mvT hZ (hw _ (List.mem_of_getElem? (i := 31) rfl))) (notFace_of_selects (args := #[]) (mvT hZ (hw _ (List.mem_of_getElem? (i := 33) rfl)))) (mvT hZ (hw _ (List.mem_of_getElem? (i := 33) rfl))) (mvT hZ (hw _ (List.mem_of_getElem? (i := 32) rfl))) (by decide) (backOf (W := 0) (rm_cn1 l Z a0 hw [] b131 sz cm_138 T178.heap n0 (Nat.le_trans Z0 (Nat.le_trans (Nat.le_trans (Nat.le_trans (Nat.le_trans (Nat.le_trans (Nat.le_refl _) E121.1) R128_0.1) E131.1) R138_0.1) R178_0.1)) R178_1 R178_2 R178_3 R178_4 R178_5 ng131) hZ (hw _ (List.mem_of_getElem? (i := 34) rfl)) (hw _ (List.mem_of_getElem? (i := 3) rfl)) (by decide) (by decide)) q181a q181c (g := (mkF m 85 #[iv i0, iv i1, iv i2, iv (0 : Int32), iv (2 : Int32), iv mg, rv b121, rv b131, .unset] [(.ref b131)])) rfl (by rw [hml]; rfl) (Steps.refl _) (argsL := []) (rest := []) (lenOf pd4 rfl) rfl (by show 2 * 0 + _ ≤ _; exact Nat.le_of_eq rfl) (hb hby at_85) (fun _ _ => ⟨rfl, rfl, (by decide : 4 + 0 ≤ _), (by decide : 12 + 0 ≤ _)⟩)
      dsimp only [Pt.U, Pt.locs, Pt.cells, Pt.slots] at X181 l181 y181 z181 st181 hQ181
      subst l181 y181 z181
      obtain ⟨rfl, N181, R181_0, R181_1, R181_2, R181_3, R181_4, R181_5⟩ := hQ181
      have M181 := Fr.app M178 N181
      have g182 : Goes p e below S0 (T181.setTop (mkF m 88 #[iv i0, iv i1, iv i2, iv (0 : Int32), iv (2 : Int32), iv mg, rv b121, rv b131, .unset] [])) := fun t k => g180 t (st181.trans k)
      have g183 : Goes p e below S0 (T181.setTop (mkF m 90 #[iv i0, iv i1, iv i2, iv (0 : Int32), iv (2 : Int32), iv mg, rv b121, rv b131, .unset] [(.ref b121)])) := fun t k => g182 t (by
        refine XS.aload X181.here hx rfl (hb hby at_88) rfl rfl ?_
        show Go p e below t T181 m 90 #[iv i0, iv i1, iv i2, iv (0 : Int32), iv (2 : Int32), iv mg, rv b121, rv b131, .unset] [(.ref b121)]
        exact k)
      obtain ⟨cq184, kq184, q184a, q184b, q184c⟩ := isOf hZ rfl ((((R128_2.ext E131).keep R138_0).keep R178_0).keep R181_0)
      obtain ⟨_, _, ⟨T184, L184, k184, n184⟩, -, X184, ⟨Lc184, hQ184, l184, y184, z184⟩, st184⟩ := X181.virtualBack hx (y := (⟨"org/volder/cli/Census", "allFaithful", "()Z"⟩ : MethodName)) (z := (⟨"org/volder/cli/Census", "allFaithful", "()Z"⟩ : MethodName)) hown (mvT hZ (hw _ (List.mem_of_getElem? (i := 23) rfl))) (mvT hZ (hw _ (List.mem_of_getElem? (i := 24) rfl))) (notFace_of_selects (args := #[]) (mvT hZ (hw _ (List.mem_of_getElem? (i := 26) rfl)))) (mvT hZ (hw _ (List.mem_of_getElem? (i := 26) rfl))) (mvT hZ (hw _ (List.mem_of_getElem? (i := 25) rfl))) (by decide) (backOf (W := 0) (rm_alf l Z a0 hw [] b121 (0 : Int64) T181.heap n0 (Nat.le_trans Z0 (Nat.le_trans (Nat.le_trans (Nat.le_trans (Nat.le_trans (Nat.le_trans (Nat.le_trans (Nat.le_refl _) E121.1) R128_0.1) E131.1) R138_0.1) R178_0.1) R181_0.1)) ((((R128_3.ext E131).keep R138_0 (ninS (Nat.ne_of_lt (Nat.lt_of_lt_of_le R128_2.lt (Nat.le_of_eq gb131.symm))) nin0)).keep R178_0 (ninS (Nat.ne_of_lt (Nat.lt_of_lt_of_le R128_2.lt (Nat.le_of_eq gb131.symm))) nin0)).keep R181_0 (ninS (Nat.ne_of_lt (Nat.lt_of_lt_of_le R128_2.lt (Nat.le_of_eq gb131.symm))) nin0))) hZ (hw _ (List.mem_of_getElem? (i := 27) rfl)) (hw _ (List.mem_of_getElem? (i := 3) rfl)) (by decide) (by decide)) q184a q184c (g := (mkF m 90 #[iv i0, iv i1, iv i2, iv (0 : Int32), iv (2 : Int32), iv mg, rv b121, rv b131, .unset] [(.ref b121)])) rfl (by rw [hml]; rfl) (Steps.refl _) (argsL := []) (rest := []) (lenOf pd5 rfl) rfl (by show 2 * 0 + _ ≤ _; exact Nat.le_of_eq rfl) (hb hby at_90) (fun _ _ => ⟨rfl, rfl, (by decide : 4 + 0 ≤ _), (by decide : 12 + 0 ≤ _)⟩)
      dsimp only [Pt.U, Pt.locs, Pt.cells, Pt.slots] at X184 l184 y184 z184 st184 hQ184
      subst l184 y184 z184
      obtain ⟨rfl, N184, e184⟩ := hQ184
      have M184 := Fr.app M181 N184
      have g185 : Goes p e below S0 (T184.setTop (mkF m 93 #[iv i0, iv i1, iv i2, iv (0 : Int32), iv (2 : Int32), iv mg, rv b121, rv b131, .unset] [(.int (f_alf  (0 : Int64)))])) := fun t k => g183 t (st184.trans k)
      have g186 : Goes p e below S0 (T184.setTop (mkF m 107 #[iv i0, iv i1, iv i2, iv (0 : Int32), iv (2 : Int32), iv mg, rv b121, rv b131, .unset] [(.ref b131)])) := fun t k => g185 t (by
        refine XS.iloadN X184.here hx rfl (hb hby at_93) rfl ?_
        show Go p e below t T184 m 94 #[iv i0, iv i1, iv i2, iv (0 : Int32), iv (2 : Int32), iv mg, rv b121, rv b131, .unset] [(.int (0 : Int32)), (.int (f_alf  (0 : Int64)))]
        refine XS.ifNo X184.here hx rfl (hb hby at_94) rfl (XT.i0_ne_f (by decide)) ?_
        show Go p e below t T184 m 97 #[iv i0, iv i1, iv i2, iv (0 : Int32), iv (2 : Int32), iv mg, rv b121, rv b131, .unset] [(.int (f_alf  (0 : Int64)))]
        refine XT.iconstV X184.here hx rfl (1 : Int32) (hb hby at_97) (by decide) ?_
        show Go p e below t T184 m 98 #[iv i0, iv i1, iv i2, iv (0 : Int32), iv (2 : Int32), iv mg, rv b121, rv b131, .unset] [(.int (1 : Int32)), (.int (f_alf  (0 : Int64)))]
        refine XS.goto X184.here hx rfl (pc0 := 98) (pc' := 102) rfl (hb hby at_98) (by decide) (by decide) ?_
        show Go p e below t T184 m 102 #[iv i0, iv i1, iv i2, iv (0 : Int32), iv (2 : Int32), iv mg, rv b121, rv b131, .unset] [(.int (1 : Int32)), (.int (f_alf  (0 : Int64)))]
        refine XS.icmpNo X184.here hx rfl (hb hby at_102) rfl (XT.ii_ne_f (by decide)) ?_
        show Go p e below t T184 m 105 #[iv i0, iv i1, iv i2, iv (0 : Int32), iv (2 : Int32), iv mg, rv b121, rv b131, .unset] []
        refine XS.aload X184.here hx rfl (hb hby at_105) rfl rfl ?_
        show Go p e below t T184 m 107 #[iv i0, iv i1, iv i2, iv (0 : Int32), iv (2 : Int32), iv mg, rv b121, rv b131, .unset] [(.ref b131)]
        exact k)
      obtain ⟨cq187, kq187, q187a, q187b, q187c⟩ := isOf hZ e184 R181_1
      obtain ⟨_, _, ⟨T187, L187, k187, n187⟩, -, X187, ⟨Lc187, hQ187, l187, y187, z187⟩, st187⟩ := X184.virtualBack hx (y := (⟨"org/volder/cli/Census", "allFaithful", "()Z"⟩ : MethodName)) (z := (⟨"org/volder/cli/Census", "allFaithful", "()Z"⟩ : MethodName)) hown (mvT hZ (hw _ (List.mem_of_getElem? (i := 23) rfl))) (mvT hZ (hw _ (List.mem_of_getElem? (i := 24) rfl))) (notFace_of_selects (args := #[]) (mvT hZ (hw _ (List.mem_of_getElem? (i := 26) rfl)))) (mvT hZ (hw _ (List.mem_of_getElem? (i := 26) rfl))) (mvT hZ (hw _ (List.mem_of_getElem? (i := 25) rfl))) (by decide) (backOf (W := 0) (rm_alf l Z a0 hw [] b131 (2 : Int64) T181.heap n0 (Nat.le_trans Z0 (Nat.le_trans (Nat.le_trans (Nat.le_trans (Nat.le_trans (Nat.le_trans (Nat.le_trans (Nat.le_refl _) E121.1) R128_0.1) E131.1) R138_0.1) R178_0.1) R181_0.1)) R181_2) hZ (hw _ (List.mem_of_getElem? (i := 27) rfl)) (hw _ (List.mem_of_getElem? (i := 3) rfl)) (by decide) (by decide)) q187a q187c (g := (mkF m 107 #[iv i0, iv i1, iv i2, iv (0 : Int32), iv (2 : Int32), iv mg, rv b121, rv b131, .unset] [(.ref b131)])) rfl (by rw [hml]; rfl) (Steps.refl _) (argsL := []) (rest := []) (lenOf pd5 rfl) rfl (by show 2 * 0 + _ ≤ _; exact Nat.le_of_eq rfl) (hb hby at_107) (fun _ _ => ⟨rfl, e184, (by decide : 4 + 0 ≤ _), (by decide : 12 + 0 ≤ _)⟩)
      dsimp only [Pt.U, Pt.locs, Pt.cells, Pt.slots] at X187 l187 y187 z187 st187 hQ187
      subst l187 y187 z187
      obtain ⟨rfl, N187, e187⟩ := hQ187
      have M187 := Fr.app M184 N187
      have g188 : Goes p e below S0 (T187.setTop (mkF m 110 #[iv i0, iv i1, iv i2, iv (0 : Int32), iv (2 : Int32), iv mg, rv b121, rv b131, .unset] [(.int (f_alf  (2 : Int64)))])) := fun t k => g186 t (st187.trans k)
      have g189 : Goes p e below S0 (T187.setTop (mkF m 132 #[iv i0, iv i1, iv i2, iv (0 : Int32), iv (2 : Int32), iv mg, rv b121, rv b131, iv (1 : Int32)] [(.int mg)])) := fun t k => g188 t (by
        refine XS.iload X187.here hx rfl (hb hby at_110) rfl ?_
        show Go p e below t T187 m 112 #[iv i0, iv i1, iv i2, iv (0 : Int32), iv (2 : Int32), iv mg, rv b121, rv b131, .unset] [(.int (2 : Int32)), (.int (f_alf  (2 : Int64)))]
        refine XS.ifYes X187.here hx rfl (pc0 := 112) (pc' := 119) rfl (hb hby at_112) rfl (XT.i0_ne_t (by decide)) (by decide) (by decide) ?_
        show Go p e below t T187 m 119 #[iv i0, iv i1, iv i2, iv (0 : Int32), iv (2 : Int32), iv mg, rv b121, rv b131, .unset] [(.int (f_alf  (2 : Int64)))]
        refine XT.iconstV X187.here hx rfl (0 : Int32) (hb hby at_119) (by decide) ?_
        show Go p e below t T187 m 120 #[iv i0, iv i1, iv i2, iv (0 : Int32), iv (2 : Int32), iv mg, rv b121, rv b131, .unset] [(.int (0 : Int32)), (.int (f_alf  (2 : Int64)))]
        refine XS.icmpNo X187.here hx rfl (hb hby at_120) rfl (XT.ii_ne_f (by decide)) ?_
        show Go p e below t T187 m 123 #[iv i0, iv i1, iv i2, iv (0 : Int32), iv (2 : Int32), iv mg, rv b121, rv b131, .unset] []
        refine XT.iconstV X187.here hx rfl (1 : Int32) (hb hby at_123) (by decide) ?_
        show Go p e below t T187 m 124 #[iv i0, iv i1, iv i2, iv (0 : Int32), iv (2 : Int32), iv mg, rv b121, rv b131, .unset] [(.int (1 : Int32))]
        refine XS.goto X187.here hx rfl (pc0 := 124) (pc' := 128) rfl (hb hby at_124) (by decide) (by decide) ?_
        show Go p e below t T187 m 128 #[iv i0, iv i1, iv i2, iv (0 : Int32), iv (2 : Int32), iv mg, rv b121, rv b131, .unset] [(.int (1 : Int32))]
        refine XS.istore X187.here hx rfl (hb hby at_128) rfl (l' := #[iv i0, iv i1, iv i2, iv (0 : Int32), iv (2 : Int32), iv mg, rv b121, rv b131, iv (1 : Int32)]) rfl ?_
        show Go p e below t T187 m 130 #[iv i0, iv i1, iv i2, iv (0 : Int32), iv (2 : Int32), iv mg, rv b121, rv b131, iv (1 : Int32)] []
        refine XS.iload X187.here hx rfl (hb hby at_130) rfl ?_
        show Go p e below t T187 m 132 #[iv i0, iv i1, iv i2, iv (0 : Int32), iv (2 : Int32), iv mg, rv b121, rv b131, iv (1 : Int32)] [(.int mg)]
        exact k)
      by_cases h190 : mg = 0
      · skip
        have g191 : Goes p e below S0 (T187.setTop (mkF m 176 #[iv i0, iv i1, iv i2, iv (0 : Int32), iv (2 : Int32), iv mg, rv b121, rv b131, iv (1 : Int32)] [(.int (1 : Int32))])) := fun t k => g189 t (by
          refine XS.ifYes X187.here hx rfl (pc0 := 132) (pc' := 174) rfl (hb hby at_132) rfl (XT.i0_eq_t h190) (by decide) (by decide) ?_
          show Go p e below t T187 m 174 #[iv i0, iv i1, iv i2, iv (0 : Int32), iv (2 : Int32), iv mg, rv b121, rv b131, iv (1 : Int32)] []
          refine XS.iload X187.here hx rfl (hb hby at_174) rfl ?_
          show Go p e below t T187 m 176 #[iv i0, iv i1, iv i2, iv (0 : Int32), iv (2 : Int32), iv mg, rv b121, rv b131, iv (1 : Int32)] [(.int (1 : Int32))]
          exact k)
        obtain ⟨fs, hr, hrun, hended, hW, hsame⟩ := X187.leave (v := some (.int (1 : Int32))) (fun h => by rw [Bd.returns] at h; cases h)
        refine ⟨_, _, g191 _ (retN X187 hx (t := .boolean) Bd.returns (by simp) (hb hby at_176) hr), hrun, hended, _, _, rfl, ?_, ⟨_, rfl⟩, hW, hsame.mono (by decide) (by decide)⟩
        show Q_law Z i0 i1 i2 sz h0 n0 _ T187.heap _
        rw [e187]
        exact ⟨rfl, M187⟩
      · skip
        have g192 : Goes p e below S0 (T187.setTop (mkF m 139 #[iv i0, iv i1, iv i2, iv (0 : Int32), iv (2 : Int32), iv mg, rv b121, rv b131, iv (1 : Int32)] [(.ref b131), (.ref b121)])) := fun t k => g189 t (by
          refine XS.ifNo X187.here hx rfl (hb hby at_132) rfl (XT.i0_eq_f h190) ?_
          show Go p e below t T187 m 135 #[iv i0, iv i1, iv i2, iv (0 : Int32), iv (2 : Int32), iv mg, rv b121, rv b131, iv (1 : Int32)] []
          refine XS.aload X187.here hx rfl (hb hby at_135) rfl rfl ?_
          show Go p e below t T187 m 137 #[iv i0, iv i1, iv i2, iv (0 : Int32), iv (2 : Int32), iv mg, rv b121, rv b131, iv (1 : Int32)] [(.ref b121)]
          refine XS.aload X187.here hx rfl (hb hby at_137) rfl rfl ?_
          show Go p e below t T187 m 139 #[iv i0, iv i1, iv i2, iv (0 : Int32), iv (2 : Int32), iv mg, rv b121, rv b131, iv (1 : Int32)] [(.ref b131), (.ref b121)]
          exact k)
        obtain ⟨cq193, kq193, q193a, q193b, q193c⟩ := isOf hZ e187 ((((R128_2.ext E131).keep R138_0).keep R178_0).keep R181_0)
        obtain ⟨_, _, ⟨T193, L193, k193, n193⟩, -, X193, ⟨Lc193, hQ193, l193, y193, z193⟩, st193⟩ := X187.virtualBack hx (y := (⟨"org/volder/cli/Census", "add", "(Lorg/volder/cli/Census;)V"⟩ : MethodName)) (z := (⟨"org/volder/cli/Census", "add", "(Lorg/volder/cli/Census;)V"⟩ : MethodName)) hown (mvT hZ (hw _ (List.mem_of_getElem? (i := 35) rfl))) (mvT hZ (hw _ (List.mem_of_getElem? (i := 36) rfl))) (notFace_of_selects (args := #[]) (mvT hZ (hw _ (List.mem_of_getElem? (i := 38) rfl)))) (mvT hZ (hw _ (List.mem_of_getElem? (i := 38) rfl))) (mvT hZ (hw _ (List.mem_of_getElem? (i := 37) rfl))) (by decide) (backOf (W := 0) (rm_cadd l Z a0 hw [] b121 b131 (0 : Int64) (2 : Int64) sz cm_128 cm_138 T181.heap n0 (Nat.le_trans Z0 (Nat.le_trans (Nat.le_trans (Nat.le_trans (Nat.le_trans (Nat.le_trans (Nat.le_trans (Nat.le_refl _) E121.1) R128_0.1) E131.1) R138_0.1) R178_0.1) R181_0.1)) ((((R128_2.ext E131).keep R138_0).keep R178_0).keep R181_0) ((((R128_3.ext E131).keep R138_0 (ninS (Nat.ne_of_lt (Nat.lt_of_lt_of_le R128_2.lt (Nat.le_of_eq gb131.symm))) nin0)).keep R178_0 (ninS (Nat.ne_of_lt (Nat.lt_of_lt_of_le R128_2.lt (Nat.le_of_eq gb131.symm))) nin0)).keep R181_0 (ninS (Nat.ne_of_lt (Nat.lt_of_lt_of_le R128_2.lt (Nat.le_of_eq gb131.symm))) nin0)) ((((R128_4.ext E131).keep R138_0 (ninS (Nat.ne_of_lt (Nat.lt_of_lt_of_le R128_2.lt (Nat.le_of_eq gb131.symm))) nin0)).keep R178_0 (ninS (Nat.ne_of_lt (Nat.lt_of_lt_of_le R128_2.lt (Nat.le_of_eq gb131.symm))) nin0)).keep R181_0 (ninS (Nat.ne_of_lt (Nat.lt_of_lt_of_le R128_2.lt (Nat.le_of_eq gb131.symm))) nin0)) ((((R128_5.ext E131).keep R138_0 (ninS (Nat.ne_of_lt (Nat.lt_of_lt_of_le R128_2.lt (Nat.le_of_eq gb131.symm))) nin0)).keep R178_0 (ninS (Nat.ne_of_lt (Nat.lt_of_lt_of_le R128_2.lt (Nat.le_of_eq gb131.symm))) nin0)).keep R181_0 (ninS (Nat.ne_of_lt (Nat.lt_of_lt_of_le R128_2.lt (Nat.le_of_eq gb131.symm))) nin0)) ((((R128_6.ext E131).keep R138_0 (ninS (Nat.ne_of_lt (Nat.lt_of_lt_of_le R128_2.lt (Nat.le_of_eq gb131.symm))) nin0)).keep R178_0 (ninS (Nat.ne_of_lt (Nat.lt_of_lt_of_le R128_2.lt (Nat.le_of_eq gb131.symm))) nin0)).keep R181_0 (ninS (Nat.ne_of_lt (Nat.lt_of_lt_of_le R128_2.lt (Nat.le_of_eq gb131.symm))) nin0)) ng121 (Nat.ne_of_lt (Nat.lt_of_lt_of_le R128_2.lt (Nat.le_of_eq gb131.symm))) (Ne.symm (Nat.ne_of_lt (Nat.lt_of_lt_of_le P1.lt (Nat.le_of_eq gb121.symm)))) (Nat.ne_of_lt (Nat.lt_of_lt_of_le A121.lt R128_1)) (Nat.ne_of_lt (Nat.lt_of_lt_of_le (R128_2.ext E131).lt R138_1)) R181_2 R181_3 R181_4 R181_5 ((((R128_7.ext E131).keep R138_0).keep R178_0).keep R181_0) ((((R128_8.ext E131).keep R138_0 (ninS (Nat.ne_of_lt (Nat.lt_of_lt_of_le R128_7.lt (Nat.le_of_eq gb131.symm))) nin0)).keep R178_0 (ninS (Nat.ne_of_lt (Nat.lt_of_lt_of_le R128_7.lt (Nat.le_of_eq gb131.symm))) nin0)).keep R181_0 (ninS (Nat.ne_of_lt (Nat.lt_of_lt_of_le R128_7.lt (Nat.le_of_eq gb131.symm))) nin0)) ((((R128_9.ext E131).keep R138_0 (ninS (Nat.ne_of_lt (Nat.lt_of_lt_of_le R128_7.lt (Nat.le_of_eq gb131.symm))) nin0)).keep R178_0 (ninS (Nat.ne_of_lt (Nat.lt_of_lt_of_le R128_7.lt (Nat.le_of_eq gb131.symm))) nin0)).keep R181_0 (ninS (Nat.ne_of_lt (Nat.lt_of_lt_of_le R128_7.lt (Nat.le_of_eq gb131.symm))) nin0)) ((R138_8.keep R178_0 (ninS (Ne.symm (Nat.ne_of_lt (Nat.lt_of_lt_of_le A131.lt R138_1))) nin0)).keep R181_0 (ninS (Ne.symm (Nat.ne_of_lt (Nat.lt_of_lt_of_le A131.lt R138_1))) nin0)) ((R138_9.keep R178_0 (ninS (Ne.symm (Nat.ne_of_lt (Nat.lt_of_lt_of_le A131.lt R138_1))) nin0)).keep R181_0 (ninS (Ne.symm (Nat.ne_of_lt (Nat.lt_of_lt_of_le A131.lt R138_1))) nin0)) ((((((P1.ext E121).keep R128_0).ext E131).keep R138_0).keep R178_0).keep R181_0) ((((((P2.ext E121).keep R128_0 (ninS (Nat.ne_of_lt (Nat.lt_of_lt_of_le P1.lt (Nat.le_of_eq gb121.symm))) nin0)).ext E131).keep R138_0 (ninS (Nat.ne_of_lt (Nat.lt_of_lt_of_le ((P1.ext E121).keep R128_0).lt (Nat.le_of_eq gb131.symm))) nin0)).keep R178_0 (ninS (Nat.ne_of_lt (Nat.lt_of_lt_of_le ((P1.ext E121).keep R128_0).lt (Nat.le_of_eq gb131.symm))) nin0)).keep R181_0 (ninS (Nat.ne_of_lt (Nat.lt_of_lt_of_le ((P1.ext E121).keep R128_0).lt (Nat.le_of_eq gb131.symm))) nin0)) ((((((P3.ext E121).keep R128_0 (ninS (Nat.ne_of_lt (Nat.lt_of_lt_of_le P1.lt (Nat.le_of_eq gb121.symm))) nin0)).ext E131).keep R138_0 (ninS (Nat.ne_of_lt (Nat.lt_of_lt_of_le ((P1.ext E121).keep R128_0).lt (Nat.le_of_eq gb131.symm))) nin0)).keep R178_0 (ninS (Nat.ne_of_lt (Nat.lt_of_lt_of_le ((P1.ext E121).keep R128_0).lt (Nat.le_of_eq gb131.symm))) nin0)).keep R181_0 (ninS (Nat.ne_of_lt (Nat.lt_of_lt_of_le ((P1.ext E121).keep R128_0).lt (Nat.le_of_eq gb131.symm))) nin0))) hZ (hw _ (List.mem_of_getElem? (i := 39) rfl)) (hw _ (List.mem_of_getElem? (i := 3) rfl)) (by decide) (by decide)) q193a q193c (g := (mkF m 139 #[iv i0, iv i1, iv i2, iv (0 : Int32), iv (2 : Int32), iv mg, rv b121, rv b131, iv (1 : Int32)] [(.ref b131), (.ref b121)])) rfl (by rw [hml]; rfl) (Steps.refl _) (argsL := [(.ref b131)]) (rest := []) (lenOf pd6 rfl) rfl (by show 2 * 0 + _ ≤ _; exact Nat.le_of_eq rfl) (hb hby at_139) (fun _ _ => ⟨rfl, e187, (by decide : 4 + 0 ≤ _), (by decide : 12 + 0 ≤ _)⟩)
        dsimp only [Pt.U, Pt.locs, Pt.cells, Pt.slots] at X193 l193 y193 z193 st193 hQ193
        subst l193 y193 z193
        obtain ⟨rfl, N193, R193_0, R193_1, R193_2⟩ := hQ193
        have M193 := Fr.app M187 N193
        have g194 : Goes p e below S0 (T193.setTop (mkF m 142 #[iv i0, iv i1, iv i2, iv (0 : Int32), iv (2 : Int32), iv mg, rv b121, rv b131, iv (1 : Int32)] [])) := fun t k => g192 t (st193.trans k)
        have g195 : Goes p e below S0 (T193.setTop (mkF m 149 #[iv i0, iv i1, iv i2, iv (0 : Int32), iv (2 : Int32), iv mg, rv b121, rv b131, iv (1 : Int32)] [(.ref b121)])) := fun t k => g194 t (by
          refine XS.iload X193.here hx rfl (hb hby at_142) rfl ?_
          show Go p e below t T193 m 144 #[iv i0, iv i1, iv i2, iv (0 : Int32), iv (2 : Int32), iv mg, rv b121, rv b131, iv (1 : Int32)] [(.int (1 : Int32))]
          refine XS.ifNo X193.here hx rfl (hb hby at_144) rfl (XT.i0_eq_f (by decide)) ?_
          show Go p e below t T193 m 147 #[iv i0, iv i1, iv i2, iv (0 : Int32), iv (2 : Int32), iv mg, rv b121, rv b131, iv (1 : Int32)] []
          refine XS.aload X193.here hx rfl (hb hby at_147) rfl rfl ?_
          show Go p e below t T193 m 149 #[iv i0, iv i1, iv i2, iv (0 : Int32), iv (2 : Int32), iv mg, rv b121, rv b131, iv (1 : Int32)] [(.ref b121)]
          exact k)
        obtain ⟨cq196, kq196, q196a, q196b, q196c⟩ := isOf hZ rfl R193_1
        obtain ⟨_, _, ⟨T196, L196, k196, n196⟩, -, X196, ⟨Lc196, hQ196, l196, y196, z196⟩, st196⟩ := X193.virtualBack hx (y := (⟨"org/volder/cli/Census", "allFaithful", "()Z"⟩ : MethodName)) (z := (⟨"org/volder/cli/Census", "allFaithful", "()Z"⟩ : MethodName)) hown (mvT hZ (hw _ (List.mem_of_getElem? (i := 23) rfl))) (mvT hZ (hw _ (List.mem_of_getElem? (i := 24) rfl))) (notFace_of_selects (args := #[]) (mvT hZ (hw _ (List.mem_of_getElem? (i := 26) rfl)))) (mvT hZ (hw _ (List.mem_of_getElem? (i := 26) rfl))) (mvT hZ (hw _ (List.mem_of_getElem? (i := 25) rfl))) (by decide) (backOf (W := 0) (rm_alf l Z a0 hw [] b121 ((0 : Int64) + (2 : Int64)) T193.heap n0 (Nat.le_trans Z0 (Nat.le_trans (Nat.le_trans (Nat.le_trans (Nat.le_trans (Nat.le_trans (Nat.le_trans (Nat.le_trans (Nat.le_refl _) E121.1) R128_0.1) E131.1) R138_0.1) R178_0.1) R181_0.1) R193_0.1)) R193_2) hZ (hw _ (List.mem_of_getElem? (i := 27) rfl)) (hw _ (List.mem_of_getElem? (i := 3) rfl)) (by decide) (by decide)) q196a q196c (g := (mkF m 149 #[iv i0, iv i1, iv i2, iv (0 : Int32), iv (2 : Int32), iv mg, rv b121, rv b131, iv (1 : Int32)] [(.ref b121)])) rfl (by rw [hml]; rfl) (Steps.refl _) (argsL := []) (rest := []) (lenOf pd5 rfl) rfl (by show 2 * 0 + _ ≤ _; exact Nat.le_of_eq rfl) (hb hby at_149) (fun _ _ => ⟨rfl, rfl, (by decide : 4 + 0 ≤ _), (by decide : 12 + 0 ≤ _)⟩)
        dsimp only [Pt.U, Pt.locs, Pt.cells, Pt.slots] at X196 l196 y196 z196 st196 hQ196
        subst l196 y196 z196
        obtain ⟨rfl, N196, e196⟩ := hQ196
        have M196 := Fr.app M193 N196
        have g197 : Goes p e below S0 (T196.setTop (mkF m 152 #[iv i0, iv i1, iv i2, iv (0 : Int32), iv (2 : Int32), iv mg, rv b121, rv b131, iv (1 : Int32)] [(.int (f_alf  ((0 : Int64) + (2 : Int64))))])) := fun t k => g195 t (st196.trans k)
        have g198 : Goes p e below S0 (T196.setTop (mkF m 176 #[iv i0, iv i1, iv i2, iv (0 : Int32), iv (2 : Int32), iv mg, rv b121, rv b131, iv (1 : Int32)] [(.int (1 : Int32))])) := fun t k => g197 t (by
          refine XS.iloadN X196.here hx rfl (hb hby at_152) rfl ?_
          show Go p e below t T196 m 153 #[iv i0, iv i1, iv i2, iv (0 : Int32), iv (2 : Int32), iv mg, rv b121, rv b131, iv (1 : Int32)] [(.int (0 : Int32)), (.int (f_alf  ((0 : Int64) + (2 : Int64))))]
          refine XS.iload X196.here hx rfl (hb hby at_153) rfl ?_
          show Go p e below t T196 m 155 #[iv i0, iv i1, iv i2, iv (0 : Int32), iv (2 : Int32), iv mg, rv b121, rv b131, iv (1 : Int32)] [(.int (2 : Int32)), (.int (0 : Int32)), (.int (f_alf  ((0 : Int64) + (2 : Int64))))]
          refine XS.iadd X196.here hx rfl (hb hby at_155) rfl ?_
          rw [show ((0 : Int32) + (2 : Int32)) = (2 : Int32) by decide]
          show Go p e below t T196 m 156 #[iv i0, iv i1, iv i2, iv (0 : Int32), iv (2 : Int32), iv mg, rv b121, rv b131, iv (1 : Int32)] [(.int (2 : Int32)), (.int (f_alf  ((0 : Int64) + (2 : Int64))))]
          refine XS.ifYes X196.here hx rfl (pc0 := 156) (pc' := 163) rfl (hb hby at_156) rfl (XT.i0_ne_t (by decide)) (by decide) (by decide) ?_
          show Go p e below t T196 m 163 #[iv i0, iv i1, iv i2, iv (0 : Int32), iv (2 : Int32), iv mg, rv b121, rv b131, iv (1 : Int32)] [(.int (f_alf  ((0 : Int64) + (2 : Int64))))]
          refine XT.iconstV X196.here hx rfl (0 : Int32) (hb hby at_163) (by decide) ?_
          show Go p e below t T196 m 164 #[iv i0, iv i1, iv i2, iv (0 : Int32), iv (2 : Int32), iv mg, rv b121, rv b131, iv (1 : Int32)] [(.int (0 : Int32)), (.int (f_alf  ((0 : Int64) + (2 : Int64))))]
          refine XS.icmpNo X196.here hx rfl (hb hby at_164) rfl (XT.ii_ne_f (by decide)) ?_
          show Go p e below t T196 m 167 #[iv i0, iv i1, iv i2, iv (0 : Int32), iv (2 : Int32), iv mg, rv b121, rv b131, iv (1 : Int32)] []
          refine XT.iconstV X196.here hx rfl (1 : Int32) (hb hby at_167) (by decide) ?_
          show Go p e below t T196 m 168 #[iv i0, iv i1, iv i2, iv (0 : Int32), iv (2 : Int32), iv mg, rv b121, rv b131, iv (1 : Int32)] [(.int (1 : Int32))]
          refine XS.goto X196.here hx rfl (pc0 := 168) (pc' := 172) rfl (hb hby at_168) (by decide) (by decide) ?_
          show Go p e below t T196 m 172 #[iv i0, iv i1, iv i2, iv (0 : Int32), iv (2 : Int32), iv mg, rv b121, rv b131, iv (1 : Int32)] [(.int (1 : Int32))]
          refine XS.istore X196.here hx rfl (hb hby at_172) rfl (l' := #[iv i0, iv i1, iv i2, iv (0 : Int32), iv (2 : Int32), iv mg, rv b121, rv b131, iv (1 : Int32)]) rfl ?_
          show Go p e below t T196 m 174 #[iv i0, iv i1, iv i2, iv (0 : Int32), iv (2 : Int32), iv mg, rv b121, rv b131, iv (1 : Int32)] []
          refine XS.iload X196.here hx rfl (hb hby at_174) rfl ?_
          show Go p e below t T196 m 176 #[iv i0, iv i1, iv i2, iv (0 : Int32), iv (2 : Int32), iv mg, rv b121, rv b131, iv (1 : Int32)] [(.int (1 : Int32))]
          exact k)
        obtain ⟨fs, hr, hrun, hended, hW, hsame⟩ := X196.leave (v := some (.int (1 : Int32))) (fun h => by rw [Bd.returns] at h; cases h)
        refine ⟨_, _, g198 _ (retN X196 hx (t := .boolean) Bd.returns (by simp) (hb hby at_176) hr), hrun, hended, _, _, rfl, ?_, ⟨_, rfl⟩, hW, hsame.mono (by decide) (by decide)⟩
        show Q_law Z i0 i1 i2 sz h0 n0 _ T196.heap _
        rw [e196]
        exact ⟨rfl, M196⟩
  · skip
    have g199 : Goes p e below S0 (T138.setTop (mkF m 53 #[iv i0, iv i1, iv i2, iv (1 : Int32), iv nb, iv mg, rv b121, rv b131, .unset] [(.ref b121)])) := fun t k => g140 t (by
      refine XS.iloadN X138.here hx rfl (hb hby at_46) rfl ?_
      show Go p e below t T138 m 47 #[iv i0, iv i1, iv i2, iv (1 : Int32), iv nb, iv mg, rv b121, rv b131, .unset] [(.int (1 : Int32))]
      refine XT.iconstV X138.here hx rfl (1 : Int32) (hb hby at_47) (by decide) ?_
      show Go p e below t T138 m 48 #[iv i0, iv i1, iv i2, iv (1 : Int32), iv nb, iv mg, rv b121, rv b131, .unset] [(.int (1 : Int32)), (.int (1 : Int32))]
      refine XS.icmpNo X138.here hx rfl (hb hby at_48) rfl (XT.ii_lt_f (by decide)) ?_
      show Go p e below t T138 m 51 #[iv i0, iv i1, iv i2, iv (1 : Int32), iv nb, iv mg, rv b121, rv b131, .unset] []
      refine XS.aload X138.here hx rfl (hb hby at_51) rfl rfl ?_
      show Go p e below t T138 m 53 #[iv i0, iv i1, iv i2, iv (1 : Int32), iv nb, iv mg, rv b121, rv b131, .unset] [(.ref b121)]
      exact k)
    obtain ⟨cq200, kq200, q200a, q200b, q200c⟩ := isOf hZ rfl ((R128_2.ext E131).keep R138_0)
    obtain ⟨_, _, ⟨T200, L200, k200, n200⟩, -, X200, ⟨Lc200, hQ200, l200, y200, z200⟩, st200⟩ := X138.virtualBack hx (y := (⟨"org/volder/cli/Census", "countUnfaithful", "()V"⟩ : MethodName)) (z := (⟨"org/volder/cli/Census", "countUnfaithful", "()V"⟩ : MethodName)) hown (mvT hZ (hw _ (List.mem_of_getElem? (i := 30) rfl))) (mvT hZ (hw _ (List.mem_of_getElem? (i := 31) rfl))) (notFace_of_selects (args := #[]) (mvT hZ (hw _ (List.mem_of_getElem? (i := 33) rfl)))) (mvT hZ (hw _ (List.mem_of_getElem? (i := 33) rfl))) (mvT hZ (hw _ (List.mem_of_getElem? (i := 32) rfl))) (by decide) (backOf (W := 0) (rm_cn0 l Z a0 hw [] b121 sz cm_128 T138.heap n0 (Nat.le_trans Z0 (Nat.le_trans (Nat.le_trans (Nat.le_trans (Nat.le_trans (Nat.le_refl _) E121.1) R128_0.1) E131.1) R138_0.1)) ((R128_2.ext E131).keep R138_0) ((R128_3.ext E131).keep R138_0 (ninS (Nat.ne_of_lt (Nat.lt_of_lt_of_le R128_2.lt (Nat.le_of_eq gb131.symm))) nin0)) ((R128_4.ext E131).keep R138_0 (ninS (Nat.ne_of_lt (Nat.lt_of_lt_of_le R128_2.lt (Nat.le_of_eq gb131.symm))) nin0)) ((R128_5.ext E131).keep R138_0 (ninS (Nat.ne_of_lt (Nat.lt_of_lt_of_le R128_2.lt (Nat.le_of_eq gb131.symm))) nin0)) ((R128_6.ext E131).keep R138_0 (ninS (Nat.ne_of_lt (Nat.lt_of_lt_of_le R128_2.lt (Nat.le_of_eq gb131.symm))) nin0)) ng121) hZ (hw _ (List.mem_of_getElem? (i := 34) rfl)) (hw _ (List.mem_of_getElem? (i := 3) rfl)) (by decide) (by decide)) q200a q200c (g := (mkF m 53 #[iv i0, iv i1, iv i2, iv (1 : Int32), iv nb, iv mg, rv b121, rv b131, .unset] [(.ref b121)])) rfl (by rw [hml]; rfl) (Steps.refl _) (argsL := []) (rest := []) (lenOf pd4 rfl) rfl (by show 2 * 0 + _ ≤ _; exact Nat.le_of_eq rfl) (hb hby at_53) (fun _ _ => ⟨rfl, rfl, (by decide : 4 + 0 ≤ _), (by decide : 12 + 0 ≤ _)⟩)
    dsimp only [Pt.U, Pt.locs, Pt.cells, Pt.slots] at X200 l200 y200 z200 st200 hQ200
    subst l200 y200 z200
    obtain ⟨rfl, N200, R200_0, R200_1, R200_2, R200_3, R200_4, R200_5⟩ := hQ200
    have M200 := Fr.app M138 N200
    have g201 : Goes p e below S0 (T200.setTop (mkF m 56 #[iv i0, iv i1, iv i2, iv (1 : Int32), iv nb, iv mg, rv b121, rv b131, .unset] [])) := fun t k => g199 t (st200.trans k)
    have g202 : Goes p e below S0 (T200.setTop (mkF m 66 #[iv i0, iv i1, iv i2, iv (1 : Int32), iv nb, iv mg, rv b121, rv b131, .unset] [])) := fun t k => g201 t (by
      refine XS.iloadN X200.here hx rfl (hb hby at_56) rfl ?_
      show Go p e below t T200 m 57 #[iv i0, iv i1, iv i2, iv (1 : Int32), iv nb, iv mg, rv b121, rv b131, .unset] [(.int (1 : Int32))]
      refine XT.iconstV X200.here hx rfl (2 : Int32) (hb hby at_57) (by decide) ?_
      show Go p e below t T200 m 58 #[iv i0, iv i1, iv i2, iv (1 : Int32), iv nb, iv mg, rv b121, rv b131, .unset] [(.int (2 : Int32)), (.int (1 : Int32))]
      refine XS.icmpYes X200.here hx rfl (pc0 := 58) (pc' := 66) rfl (hb hby at_58) rfl (XT.ii_lt_t (by decide)) (by decide) (by decide) ?_
      show Go p e below t T200 m 66 #[iv i0, iv i1, iv i2, iv (1 : Int32), iv nb, iv mg, rv b121, rv b131, .unset] []
      exact k)
    rcases (hnb ▸ own_three i1 : nb = 0 ∨ nb = 1 ∨ nb = 2) with rfl | rfl | rfl
    · skip
      have g203 : Goes p e below S0 (T200.setTop (mkF m 90 #[iv i0, iv i1, iv i2, iv (1 : Int32), iv (0 : Int32), iv mg, rv b121, rv b131, .unset] [(.ref b121)])) := fun t k => g202 t (by
        refine XS.iload X200.here hx rfl (hb hby at_66) rfl ?_
        show Go p e below t T200 m 68 #[iv i0, iv i1, iv i2, iv (1 : Int32), iv (0 : Int32), iv mg, rv b121, rv b131, .unset] [(.int (0 : Int32))]
        refine XT.iconstV X200.here hx rfl (1 : Int32) (hb hby at_68) (by decide) ?_
        show Go p e below t T200 m 69 #[iv i0, iv i1, iv i2, iv (1 : Int32), iv (0 : Int32), iv mg, rv b121, rv b131, .unset] [(.int (1 : Int32)), (.int (0 : Int32))]
        refine XS.icmpYes X200.here hx rfl (pc0 := 69) (pc' := 77) rfl (hb hby at_69) rfl (XT.ii_lt_t (by decide)) (by decide) (by decide) ?_
        show Go p e below t T200 m 77 #[iv i0, iv i1, iv i2, iv (1 : Int32), iv (0 : Int32), iv mg, rv b121, rv b131, .unset] []
        refine XS.iload X200.here hx rfl (hb hby at_77) rfl ?_
        show Go p e below t T200 m 79 #[iv i0, iv i1, iv i2, iv (1 : Int32), iv (0 : Int32), iv mg, rv b121, rv b131, .unset] [(.int (0 : Int32))]
        refine XT.iconstV X200.here hx rfl (2 : Int32) (hb hby at_79) (by decide) ?_
        show Go p e below t T200 m 80 #[iv i0, iv i1, iv i2, iv (1 : Int32), iv (0 : Int32), iv mg, rv b121, rv b131, .unset] [(.int (2 : Int32)), (.int (0 : Int32))]
        refine XS.icmpYes X200.here hx rfl (pc0 := 80) (pc' := 88) rfl (hb hby at_80) rfl (XT.ii_lt_t (by decide)) (by decide) (by decide) ?_
        show Go p e below t T200 m 88 #[iv i0, iv i1, iv i2, iv (1 : Int32), iv (0 : Int32), iv mg, rv b121, rv b131, .unset] []
        refine XS.aload X200.here hx rfl (hb hby at_88) rfl rfl ?_
        show Go p e below t T200 m 90 #[iv i0, iv i1, iv i2, iv (1 : Int32), iv (0 : Int32), iv mg, rv b121, rv b131, .unset] [(.ref b121)]
        exact k)
      obtain ⟨cq204, kq204, q204a, q204b, q204c⟩ := isOf hZ rfl R200_1
      obtain ⟨_, _, ⟨T204, L204, k204, n204⟩, -, X204, ⟨Lc204, hQ204, l204, y204, z204⟩, st204⟩ := X200.virtualBack hx (y := (⟨"org/volder/cli/Census", "allFaithful", "()Z"⟩ : MethodName)) (z := (⟨"org/volder/cli/Census", "allFaithful", "()Z"⟩ : MethodName)) hown (mvT hZ (hw _ (List.mem_of_getElem? (i := 23) rfl))) (mvT hZ (hw _ (List.mem_of_getElem? (i := 24) rfl))) (notFace_of_selects (args := #[]) (mvT hZ (hw _ (List.mem_of_getElem? (i := 26) rfl)))) (mvT hZ (hw _ (List.mem_of_getElem? (i := 26) rfl))) (mvT hZ (hw _ (List.mem_of_getElem? (i := 25) rfl))) (by decide) (backOf (W := 0) (rm_alf l Z a0 hw [] b121 (1 : Int64) T200.heap n0 (Nat.le_trans Z0 (Nat.le_trans (Nat.le_trans (Nat.le_trans (Nat.le_trans (Nat.le_trans (Nat.le_refl _) E121.1) R128_0.1) E131.1) R138_0.1) R200_0.1)) R200_2) hZ (hw _ (List.mem_of_getElem? (i := 27) rfl)) (hw _ (List.mem_of_getElem? (i := 3) rfl)) (by decide) (by decide)) q204a q204c (g := (mkF m 90 #[iv i0, iv i1, iv i2, iv (1 : Int32), iv (0 : Int32), iv mg, rv b121, rv b131, .unset] [(.ref b121)])) rfl (by rw [hml]; rfl) (Steps.refl _) (argsL := []) (rest := []) (lenOf pd5 rfl) rfl (by show 2 * 0 + _ ≤ _; exact Nat.le_of_eq rfl) (hb hby at_90) (fun _ _ => ⟨rfl, rfl, (by decide : 4 + 0 ≤ _), (by decide : 12 + 0 ≤ _)⟩)
      dsimp only [Pt.U, Pt.locs, Pt.cells, Pt.slots] at X204 l204 y204 z204 st204 hQ204
      subst l204 y204 z204
      obtain ⟨rfl, N204, e204⟩ := hQ204
      have M204 := Fr.app M200 N204
      have g205 : Goes p e below S0 (T204.setTop (mkF m 93 #[iv i0, iv i1, iv i2, iv (1 : Int32), iv (0 : Int32), iv mg, rv b121, rv b131, .unset] [(.int (f_alf  (1 : Int64)))])) := fun t k => g203 t (st204.trans k)
      have g206 : Goes p e below S0 (T204.setTop (mkF m 107 #[iv i0, iv i1, iv i2, iv (1 : Int32), iv (0 : Int32), iv mg, rv b121, rv b131, .unset] [(.ref b131)])) := fun t k => g205 t (by
        refine XS.iloadN X204.here hx rfl (hb hby at_93) rfl ?_
        show Go p e below t T204 m 94 #[iv i0, iv i1, iv i2, iv (1 : Int32), iv (0 : Int32), iv mg, rv b121, rv b131, .unset] [(.int (1 : Int32)), (.int (f_alf  (1 : Int64)))]
        refine XS.ifYes X204.here hx rfl (pc0 := 94) (pc' := 101) rfl (hb hby at_94) rfl (XT.i0_ne_t (by decide)) (by decide) (by decide) ?_
        show Go p e below t T204 m 101 #[iv i0, iv i1, iv i2, iv (1 : Int32), iv (0 : Int32), iv mg, rv b121, rv b131, .unset] [(.int (f_alf  (1 : Int64)))]
        refine XT.iconstV X204.here hx rfl (0 : Int32) (hb hby at_101) (by decide) ?_
        show Go p e below t T204 m 102 #[iv i0, iv i1, iv i2, iv (1 : Int32), iv (0 : Int32), iv mg, rv b121, rv b131, .unset] [(.int (0 : Int32)), (.int (f_alf  (1 : Int64)))]
        refine XS.icmpNo X204.here hx rfl (hb hby at_102) rfl (XT.ii_ne_f (by decide)) ?_
        show Go p e below t T204 m 105 #[iv i0, iv i1, iv i2, iv (1 : Int32), iv (0 : Int32), iv mg, rv b121, rv b131, .unset] []
        refine XS.aload X204.here hx rfl (hb hby at_105) rfl rfl ?_
        show Go p e below t T204 m 107 #[iv i0, iv i1, iv i2, iv (1 : Int32), iv (0 : Int32), iv mg, rv b121, rv b131, .unset] [(.ref b131)]
        exact k)
      obtain ⟨cq207, kq207, q207a, q207b, q207c⟩ := isOf hZ e204 (R138_2.keep R200_0)
      obtain ⟨_, _, ⟨T207, L207, k207, n207⟩, -, X207, ⟨Lc207, hQ207, l207, y207, z207⟩, st207⟩ := X204.virtualBack hx (y := (⟨"org/volder/cli/Census", "allFaithful", "()Z"⟩ : MethodName)) (z := (⟨"org/volder/cli/Census", "allFaithful", "()Z"⟩ : MethodName)) hown (mvT hZ (hw _ (List.mem_of_getElem? (i := 23) rfl))) (mvT hZ (hw _ (List.mem_of_getElem? (i := 24) rfl))) (notFace_of_selects (args := #[]) (mvT hZ (hw _ (List.mem_of_getElem? (i := 26) rfl)))) (mvT hZ (hw _ (List.mem_of_getElem? (i := 26) rfl))) (mvT hZ (hw _ (List.mem_of_getElem? (i := 25) rfl))) (by decide) (backOf (W := 0) (rm_alf l Z a0 hw [] b131 (0 : Int64) T200.heap n0 (Nat.le_trans Z0 (Nat.le_trans (Nat.le_trans (Nat.le_trans (Nat.le_trans (Nat.le_trans (Nat.le_refl _) E121.1) R128_0.1) E131.1) R138_0.1) R200_0.1)) (R138_3.keep R200_0 (ninS (Ne.symm (Nat.ne_of_lt (Nat.lt_of_lt_of_le R128_2.lt (Nat.le_of_eq gb131.symm)))) nin0))) hZ (hw _ (List.mem_of_getElem? (i := 27) rfl)) (hw _ (List.mem_of_getElem? (i := 3) rfl)) (by decide) (by decide)) q207a q207c (g := (mkF m 107 #[iv i0, iv i1, iv i2, iv (1 : Int32), iv (0 : Int32), iv mg, rv b121, rv b131, .unset] [(.ref b131)])) rfl (by rw [hml]; rfl) (Steps.refl _) (argsL := []) (rest := []) (lenOf pd5 rfl) rfl (by show 2 * 0 + _ ≤ _; exact Nat.le_of_eq rfl) (hb hby at_107) (fun _ _ => ⟨rfl, e204, (by decide : 4 + 0 ≤ _), (by decide : 12 + 0 ≤ _)⟩)
      dsimp only [Pt.U, Pt.locs, Pt.cells, Pt.slots] at X207 l207 y207 z207 st207 hQ207
      subst l207 y207 z207
      obtain ⟨rfl, N207, e207⟩ := hQ207
      have M207 := Fr.app M204 N207
      have g208 : Goes p e below S0 (T207.setTop (mkF m 110 #[iv i0, iv i1, iv i2, iv (1 : Int32), iv (0 : Int32), iv mg, rv b121, rv b131, .unset] [(.int (f_alf  (0 : Int64)))])) := fun t k => g206 t (st207.trans k)
      have g209 : Goes p e below S0 (T207.setTop (mkF m 132 #[iv i0, iv i1, iv i2, iv (1 : Int32), iv (0 : Int32), iv mg, rv b121, rv b131, iv (1 : Int32)] [(.int mg)])) := fun t k => g208 t (by
        refine XS.iload X207.here hx rfl (hb hby at_110) rfl ?_
        show Go p e below t T207 m 112 #[iv i0, iv i1, iv i2, iv (1 : Int32), iv (0 : Int32), iv mg, rv b121, rv b131, .unset] [(.int (0 : Int32)), (.int (f_alf  (0 : Int64)))]
        refine XS.ifNo X207.here hx rfl (hb hby at_112) rfl (XT.i0_ne_f (by decide)) ?_
        show Go p e below t T207 m 115 #[iv i0, iv i1, iv i2, iv (1 : Int32), iv (0 : Int32), iv mg, rv b121, rv b131, .unset] [(.int (f_alf  (0 : Int64)))]
        refine XT.iconstV X207.here hx rfl (1 : Int32) (hb hby at_115) (by decide) ?_
        show Go p e below t T207 m 116 #[iv i0, iv i1, iv i2, iv (1 : Int32), iv (0 : Int32), iv mg, rv b121, rv b131, .unset] [(.int (1 : Int32)), (.int (f_alf  (0 : Int64)))]
        refine XS.goto X207.here hx rfl (pc0 := 116) (pc' := 120) rfl (hb hby at_116) (by decide) (by decide) ?_
        show Go p e below t T207 m 120 #[iv i0, iv i1, iv i2, iv (1 : Int32), iv (0 : Int32), iv mg, rv b121, rv b131, .unset] [(.int (1 : Int32)), (.int (f_alf  (0 : Int64)))]
        refine XS.icmpNo X207.here hx rfl (hb hby at_120) rfl (XT.ii_ne_f (by decide)) ?_
        show Go p e below t T207 m 123 #[iv i0, iv i1, iv i2, iv (1 : Int32), iv (0 : Int32), iv mg, rv b121, rv b131, .unset] []
        refine XT.iconstV X207.here hx rfl (1 : Int32) (hb hby at_123) (by decide) ?_
        show Go p e below t T207 m 124 #[iv i0, iv i1, iv i2, iv (1 : Int32), iv (0 : Int32), iv mg, rv b121, rv b131, .unset] [(.int (1 : Int32))]
        refine XS.goto X207.here hx rfl (pc0 := 124) (pc' := 128) rfl (hb hby at_124) (by decide) (by decide) ?_
        show Go p e below t T207 m 128 #[iv i0, iv i1, iv i2, iv (1 : Int32), iv (0 : Int32), iv mg, rv b121, rv b131, .unset] [(.int (1 : Int32))]
        refine XS.istore X207.here hx rfl (hb hby at_128) rfl (l' := #[iv i0, iv i1, iv i2, iv (1 : Int32), iv (0 : Int32), iv mg, rv b121, rv b131, iv (1 : Int32)]) rfl ?_
        show Go p e below t T207 m 130 #[iv i0, iv i1, iv i2, iv (1 : Int32), iv (0 : Int32), iv mg, rv b121, rv b131, iv (1 : Int32)] []
        refine XS.iload X207.here hx rfl (hb hby at_130) rfl ?_
        show Go p e below t T207 m 132 #[iv i0, iv i1, iv i2, iv (1 : Int32), iv (0 : Int32), iv mg, rv b121, rv b131, iv (1 : Int32)] [(.int mg)]
        exact k)
      by_cases h210 : mg = 0
      · skip
        have g211 : Goes p e below S0 (T207.setTop (mkF m 176 #[iv i0, iv i1, iv i2, iv (1 : Int32), iv (0 : Int32), iv mg, rv b121, rv b131, iv (1 : Int32)] [(.int (1 : Int32))])) := fun t k => g209 t (by
          refine XS.ifYes X207.here hx rfl (pc0 := 132) (pc' := 174) rfl (hb hby at_132) rfl (XT.i0_eq_t h210) (by decide) (by decide) ?_
          show Go p e below t T207 m 174 #[iv i0, iv i1, iv i2, iv (1 : Int32), iv (0 : Int32), iv mg, rv b121, rv b131, iv (1 : Int32)] []
          refine XS.iload X207.here hx rfl (hb hby at_174) rfl ?_
          show Go p e below t T207 m 176 #[iv i0, iv i1, iv i2, iv (1 : Int32), iv (0 : Int32), iv mg, rv b121, rv b131, iv (1 : Int32)] [(.int (1 : Int32))]
          exact k)
        obtain ⟨fs, hr, hrun, hended, hW, hsame⟩ := X207.leave (v := some (.int (1 : Int32))) (fun h => by rw [Bd.returns] at h; cases h)
        refine ⟨_, _, g211 _ (retN X207 hx (t := .boolean) Bd.returns (by simp) (hb hby at_176) hr), hrun, hended, _, _, rfl, ?_, ⟨_, rfl⟩, hW, hsame.mono (by decide) (by decide)⟩
        show Q_law Z i0 i1 i2 sz h0 n0 _ T207.heap _
        rw [e207]
        exact ⟨rfl, M207⟩
      · skip
        have g212 : Goes p e below S0 (T207.setTop (mkF m 139 #[iv i0, iv i1, iv i2, iv (1 : Int32), iv (0 : Int32), iv mg, rv b121, rv b131, iv (1 : Int32)] [(.ref b131), (.ref b121)])) := fun t k => g209 t (by
          refine XS.ifNo X207.here hx rfl (hb hby at_132) rfl (XT.i0_eq_f h210) ?_
          show Go p e below t T207 m 135 #[iv i0, iv i1, iv i2, iv (1 : Int32), iv (0 : Int32), iv mg, rv b121, rv b131, iv (1 : Int32)] []
          refine XS.aload X207.here hx rfl (hb hby at_135) rfl rfl ?_
          show Go p e below t T207 m 137 #[iv i0, iv i1, iv i2, iv (1 : Int32), iv (0 : Int32), iv mg, rv b121, rv b131, iv (1 : Int32)] [(.ref b121)]
          refine XS.aload X207.here hx rfl (hb hby at_137) rfl rfl ?_
          show Go p e below t T207 m 139 #[iv i0, iv i1, iv i2, iv (1 : Int32), iv (0 : Int32), iv mg, rv b121, rv b131, iv (1 : Int32)] [(.ref b131), (.ref b121)]
          exact k)
        obtain ⟨cq213, kq213, q213a, q213b, q213c⟩ := isOf hZ e207 R200_1
        obtain ⟨_, _, ⟨T213, L213, k213, n213⟩, -, X213, ⟨Lc213, hQ213, l213, y213, z213⟩, st213⟩ := X207.virtualBack hx (y := (⟨"org/volder/cli/Census", "add", "(Lorg/volder/cli/Census;)V"⟩ : MethodName)) (z := (⟨"org/volder/cli/Census", "add", "(Lorg/volder/cli/Census;)V"⟩ : MethodName)) hown (mvT hZ (hw _ (List.mem_of_getElem? (i := 35) rfl))) (mvT hZ (hw _ (List.mem_of_getElem? (i := 36) rfl))) (notFace_of_selects (args := #[]) (mvT hZ (hw _ (List.mem_of_getElem? (i := 38) rfl)))) (mvT hZ (hw _ (List.mem_of_getElem? (i := 38) rfl))) (mvT hZ (hw _ (List.mem_of_getElem? (i := 37) rfl))) (by decide) (backOf (W := 0) (rm_cadd l Z a0 hw [] b121 b131 (1 : Int64) (0 : Int64) sz cm_128 cm_138 T200.heap n0 (Nat.le_trans Z0 (Nat.le_trans (Nat.le_trans (Nat.le_trans (Nat.le_trans (Nat.le_trans (Nat.le_refl _) E121.1) R128_0.1) E131.1) R138_0.1) R200_0.1)) R200_1 R200_2 R200_3 R200_4 R200_5 ng121 (Nat.ne_of_lt (Nat.lt_of_lt_of_le R128_2.lt (Nat.le_of_eq gb131.symm))) (Ne.symm (Nat.ne_of_lt (Nat.lt_of_lt_of_le P1.lt (Nat.le_of_eq gb121.symm)))) (Nat.ne_of_lt (Nat.lt_of_lt_of_le A121.lt R128_1)) (Nat.ne_of_lt (Nat.lt_of_lt_of_le (R128_2.ext E131).lt R138_1)) (R138_3.keep R200_0 (ninS (Ne.symm (Nat.ne_of_lt (Nat.lt_of_lt_of_le R128_2.lt (Nat.le_of_eq gb131.symm)))) nin0)) (R138_4.keep R200_0 (ninS (Ne.symm (Nat.ne_of_lt (Nat.lt_of_lt_of_le R128_2.lt (Nat.le_of_eq gb131.symm)))) nin0)) (R138_5.keep R200_0 (ninS (Ne.symm (Nat.ne_of_lt (Nat.lt_of_lt_of_le R128_2.lt (Nat.le_of_eq gb131.symm)))) nin0)) (R138_6.keep R200_0 (ninS (Ne.symm (Nat.ne_of_lt (Nat.lt_of_lt_of_le R128_2.lt (Nat.le_of_eq gb131.symm)))) nin0)) (((R128_7.ext E131).keep R138_0).keep R200_0) (((R128_8.ext E131).keep R138_0 (ninS (Nat.ne_of_lt (Nat.lt_of_lt_of_le R128_7.lt (Nat.le_of_eq gb131.symm))) nin0)).keep R200_0 (ninS (Ne.symm (Nat.ne_of_lt (Nat.lt_of_lt_of_le A121.lt R128_1))) nin0)) (((R128_9.ext E131).keep R138_0 (ninS (Nat.ne_of_lt (Nat.lt_of_lt_of_le R128_7.lt (Nat.le_of_eq gb131.symm))) nin0)).keep R200_0 (ninS (Ne.symm (Nat.ne_of_lt (Nat.lt_of_lt_of_le A121.lt R128_1))) nin0)) (R138_8.keep R200_0 (ninS (Ne.symm (Nat.ne_of_lt (Nat.lt_of_lt_of_le (R128_2.ext E131).lt R138_1))) nin0)) (R138_9.keep R200_0 (ninS (Ne.symm (Nat.ne_of_lt (Nat.lt_of_lt_of_le (R128_2.ext E131).lt R138_1))) nin0)) (((((P1.ext E121).keep R128_0).ext E131).keep R138_0).keep R200_0) (((((P2.ext E121).keep R128_0 (ninS (Nat.ne_of_lt (Nat.lt_of_lt_of_le P1.lt (Nat.le_of_eq gb121.symm))) nin0)).ext E131).keep R138_0 (ninS (Nat.ne_of_lt (Nat.lt_of_lt_of_le ((P1.ext E121).keep R128_0).lt (Nat.le_of_eq gb131.symm))) nin0)).keep R200_0 (ninS (Nat.ne_of_lt (Nat.lt_of_lt_of_le P1.lt (Nat.le_of_eq gb121.symm))) nin0)) (((((P3.ext E121).keep R128_0 (ninS (Nat.ne_of_lt (Nat.lt_of_lt_of_le P1.lt (Nat.le_of_eq gb121.symm))) nin0)).ext E131).keep R138_0 (ninS (Nat.ne_of_lt (Nat.lt_of_lt_of_le ((P1.ext E121).keep R128_0).lt (Nat.le_of_eq gb131.symm))) nin0)).keep R200_0 (ninS (Nat.ne_of_lt (Nat.lt_of_lt_of_le P1.lt (Nat.le_of_eq gb121.symm))) nin0))) hZ (hw _ (List.mem_of_getElem? (i := 39) rfl)) (hw _ (List.mem_of_getElem? (i := 3) rfl)) (by decide) (by decide)) q213a q213c (g := (mkF m 139 #[iv i0, iv i1, iv i2, iv (1 : Int32), iv (0 : Int32), iv mg, rv b121, rv b131, iv (1 : Int32)] [(.ref b131), (.ref b121)])) rfl (by rw [hml]; rfl) (Steps.refl _) (argsL := [(.ref b131)]) (rest := []) (lenOf pd6 rfl) rfl (by show 2 * 0 + _ ≤ _; exact Nat.le_of_eq rfl) (hb hby at_139) (fun _ _ => ⟨rfl, e207, (by decide : 4 + 0 ≤ _), (by decide : 12 + 0 ≤ _)⟩)
        dsimp only [Pt.U, Pt.locs, Pt.cells, Pt.slots] at X213 l213 y213 z213 st213 hQ213
        subst l213 y213 z213
        obtain ⟨rfl, N213, R213_0, R213_1, R213_2⟩ := hQ213
        have M213 := Fr.app M207 N213
        have g214 : Goes p e below S0 (T213.setTop (mkF m 142 #[iv i0, iv i1, iv i2, iv (1 : Int32), iv (0 : Int32), iv mg, rv b121, rv b131, iv (1 : Int32)] [])) := fun t k => g212 t (st213.trans k)
        have g215 : Goes p e below S0 (T213.setTop (mkF m 149 #[iv i0, iv i1, iv i2, iv (1 : Int32), iv (0 : Int32), iv mg, rv b121, rv b131, iv (1 : Int32)] [(.ref b121)])) := fun t k => g214 t (by
          refine XS.iload X213.here hx rfl (hb hby at_142) rfl ?_
          show Go p e below t T213 m 144 #[iv i0, iv i1, iv i2, iv (1 : Int32), iv (0 : Int32), iv mg, rv b121, rv b131, iv (1 : Int32)] [(.int (1 : Int32))]
          refine XS.ifNo X213.here hx rfl (hb hby at_144) rfl (XT.i0_eq_f (by decide)) ?_
          show Go p e below t T213 m 147 #[iv i0, iv i1, iv i2, iv (1 : Int32), iv (0 : Int32), iv mg, rv b121, rv b131, iv (1 : Int32)] []
          refine XS.aload X213.here hx rfl (hb hby at_147) rfl rfl ?_
          show Go p e below t T213 m 149 #[iv i0, iv i1, iv i2, iv (1 : Int32), iv (0 : Int32), iv mg, rv b121, rv b131, iv (1 : Int32)] [(.ref b121)]
          exact k)
        obtain ⟨cq216, kq216, q216a, q216b, q216c⟩ := isOf hZ rfl R213_1
        obtain ⟨_, _, ⟨T216, L216, k216, n216⟩, -, X216, ⟨Lc216, hQ216, l216, y216, z216⟩, st216⟩ := X213.virtualBack hx (y := (⟨"org/volder/cli/Census", "allFaithful", "()Z"⟩ : MethodName)) (z := (⟨"org/volder/cli/Census", "allFaithful", "()Z"⟩ : MethodName)) hown (mvT hZ (hw _ (List.mem_of_getElem? (i := 23) rfl))) (mvT hZ (hw _ (List.mem_of_getElem? (i := 24) rfl))) (notFace_of_selects (args := #[]) (mvT hZ (hw _ (List.mem_of_getElem? (i := 26) rfl)))) (mvT hZ (hw _ (List.mem_of_getElem? (i := 26) rfl))) (mvT hZ (hw _ (List.mem_of_getElem? (i := 25) rfl))) (by decide) (backOf (W := 0) (rm_alf l Z a0 hw [] b121 ((1 : Int64) + (0 : Int64)) T213.heap n0 (Nat.le_trans Z0 (Nat.le_trans (Nat.le_trans (Nat.le_trans (Nat.le_trans (Nat.le_trans (Nat.le_trans (Nat.le_refl _) E121.1) R128_0.1) E131.1) R138_0.1) R200_0.1) R213_0.1)) R213_2) hZ (hw _ (List.mem_of_getElem? (i := 27) rfl)) (hw _ (List.mem_of_getElem? (i := 3) rfl)) (by decide) (by decide)) q216a q216c (g := (mkF m 149 #[iv i0, iv i1, iv i2, iv (1 : Int32), iv (0 : Int32), iv mg, rv b121, rv b131, iv (1 : Int32)] [(.ref b121)])) rfl (by rw [hml]; rfl) (Steps.refl _) (argsL := []) (rest := []) (lenOf pd5 rfl) rfl (by show 2 * 0 + _ ≤ _; exact Nat.le_of_eq rfl) (hb hby at_149) (fun _ _ => ⟨rfl, rfl, (by decide : 4 + 0 ≤ _), (by decide : 12 + 0 ≤ _)⟩)
        dsimp only [Pt.U, Pt.locs, Pt.cells, Pt.slots] at X216 l216 y216 z216 st216 hQ216
        subst l216 y216 z216
        obtain ⟨rfl, N216, e216⟩ := hQ216
        have M216 := Fr.app M213 N216
        have g217 : Goes p e below S0 (T216.setTop (mkF m 152 #[iv i0, iv i1, iv i2, iv (1 : Int32), iv (0 : Int32), iv mg, rv b121, rv b131, iv (1 : Int32)] [(.int (f_alf  ((1 : Int64) + (0 : Int64))))])) := fun t k => g215 t (st216.trans k)
        have g218 : Goes p e below S0 (T216.setTop (mkF m 176 #[iv i0, iv i1, iv i2, iv (1 : Int32), iv (0 : Int32), iv mg, rv b121, rv b131, iv (1 : Int32)] [(.int (1 : Int32))])) := fun t k => g217 t (by
          refine XS.iloadN X216.here hx rfl (hb hby at_152) rfl ?_
          show Go p e below t T216 m 153 #[iv i0, iv i1, iv i2, iv (1 : Int32), iv (0 : Int32), iv mg, rv b121, rv b131, iv (1 : Int32)] [(.int (1 : Int32)), (.int (f_alf  ((1 : Int64) + (0 : Int64))))]
          refine XS.iload X216.here hx rfl (hb hby at_153) rfl ?_
          show Go p e below t T216 m 155 #[iv i0, iv i1, iv i2, iv (1 : Int32), iv (0 : Int32), iv mg, rv b121, rv b131, iv (1 : Int32)] [(.int (0 : Int32)), (.int (1 : Int32)), (.int (f_alf  ((1 : Int64) + (0 : Int64))))]
          refine XS.iadd X216.here hx rfl (hb hby at_155) rfl ?_
          rw [show ((1 : Int32) + (0 : Int32)) = (1 : Int32) by decide]
          show Go p e below t T216 m 156 #[iv i0, iv i1, iv i2, iv (1 : Int32), iv (0 : Int32), iv mg, rv b121, rv b131, iv (1 : Int32)] [(.int (1 : Int32)), (.int (f_alf  ((1 : Int64) + (0 : Int64))))]
          refine XS.ifYes X216.here hx rfl (pc0 := 156) (pc' := 163) rfl (hb hby at_156) rfl (XT.i0_ne_t (by decide)) (by decide) (by decide) ?_
          show Go p e below t T216 m 163 #[iv i0, iv i1, iv i2, iv (1 : Int32), iv (0 : Int32), iv mg, rv b121, rv b131, iv (1 : Int32)] [(.int (f_alf  ((1 : Int64) + (0 : Int64))))]
          refine XT.iconstV X216.here hx rfl (0 : Int32) (hb hby at_163) (by decide) ?_
          show Go p e below t T216 m 164 #[iv i0, iv i1, iv i2, iv (1 : Int32), iv (0 : Int32), iv mg, rv b121, rv b131, iv (1 : Int32)] [(.int (0 : Int32)), (.int (f_alf  ((1 : Int64) + (0 : Int64))))]
          refine XS.icmpNo X216.here hx rfl (hb hby at_164) rfl (XT.ii_ne_f (by decide)) ?_
          show Go p e below t T216 m 167 #[iv i0, iv i1, iv i2, iv (1 : Int32), iv (0 : Int32), iv mg, rv b121, rv b131, iv (1 : Int32)] []
          refine XT.iconstV X216.here hx rfl (1 : Int32) (hb hby at_167) (by decide) ?_
          show Go p e below t T216 m 168 #[iv i0, iv i1, iv i2, iv (1 : Int32), iv (0 : Int32), iv mg, rv b121, rv b131, iv (1 : Int32)] [(.int (1 : Int32))]
          refine XS.goto X216.here hx rfl (pc0 := 168) (pc' := 172) rfl (hb hby at_168) (by decide) (by decide) ?_
          show Go p e below t T216 m 172 #[iv i0, iv i1, iv i2, iv (1 : Int32), iv (0 : Int32), iv mg, rv b121, rv b131, iv (1 : Int32)] [(.int (1 : Int32))]
          refine XS.istore X216.here hx rfl (hb hby at_172) rfl (l' := #[iv i0, iv i1, iv i2, iv (1 : Int32), iv (0 : Int32), iv mg, rv b121, rv b131, iv (1 : Int32)]) rfl ?_
          show Go p e below t T216 m 174 #[iv i0, iv i1, iv i2, iv (1 : Int32), iv (0 : Int32), iv mg, rv b121, rv b131, iv (1 : Int32)] []
          refine XS.iload X216.here hx rfl (hb hby at_174) rfl ?_
          show Go p e below t T216 m 176 #[iv i0, iv i1, iv i2, iv (1 : Int32), iv (0 : Int32), iv mg, rv b121, rv b131, iv (1 : Int32)] [(.int (1 : Int32))]
          exact k)
        obtain ⟨fs, hr, hrun, hended, hW, hsame⟩ := X216.leave (v := some (.int (1 : Int32))) (fun h => by rw [Bd.returns] at h; cases h)
        refine ⟨_, _, g218 _ (retN X216 hx (t := .boolean) Bd.returns (by simp) (hb hby at_176) hr), hrun, hended, _, _, rfl, ?_, ⟨_, rfl⟩, hW, hsame.mono (by decide) (by decide)⟩
        show Q_law Z i0 i1 i2 sz h0 n0 _ T216.heap _
        rw [e216]
        exact ⟨rfl, M216⟩
    · skip
      have g219 : Goes p e below S0 (T200.setTop (mkF m 74 #[iv i0, iv i1, iv i2, iv (1 : Int32), iv (1 : Int32), iv mg, rv b121, rv b131, .unset] [(.ref b131)])) := fun t k => g202 t (by
        refine XS.iload X200.here hx rfl (hb hby at_66) rfl ?_
        show Go p e below t T200 m 68 #[iv i0, iv i1, iv i2, iv (1 : Int32), iv (1 : Int32), iv mg, rv b121, rv b131, .unset] [(.int (1 : Int32))]
        refine XT.iconstV X200.here hx rfl (1 : Int32) (hb hby at_68) (by decide) ?_
        show Go p e below t T200 m 69 #[iv i0, iv i1, iv i2, iv (1 : Int32), iv (1 : Int32), iv mg, rv b121, rv b131, .unset] [(.int (1 : Int32)), (.int (1 : Int32))]
        refine XS.icmpNo X200.here hx rfl (hb hby at_69) rfl (XT.ii_lt_f (by decide)) ?_
        show Go p e below t T200 m 72 #[iv i0, iv i1, iv i2, iv (1 : Int32), iv (1 : Int32), iv mg, rv b121, rv b131, .unset] []
        refine XS.aload X200.here hx rfl (hb hby at_72) rfl rfl ?_
        show Go p e below t T200 m 74 #[iv i0, iv i1, iv i2, iv (1 : Int32), iv (1 : Int32), iv mg, rv b121, rv b131, .unset] [(.ref b131)]
        exact k)
      obtain ⟨cq220, kq220, q220a, q220b, q220c⟩ := isOf hZ rfl (R138_2.keep R200_0)
      obtain ⟨_, _, ⟨T220, L220, k220, n220⟩, -, X220, ⟨Lc220, hQ220, l220, y220, z220⟩, st220⟩ := X200.virtualBack hx (y := (⟨"org/volder/cli/Census", "countUnfaithful", "()V"⟩ : MethodName)) (z := (⟨"org/volder/cli/Census", "countUnfaithful", "()V"⟩ : MethodName)) hown (mvT hZ (hw _ (List.mem_of_getElem? (i := 30) rfl))) (mvT hZ (hw _ (List.mem_of_getElem? (i := 31) rfl))) (notFace_of_selects (args := #[]) (mvT hZ (hw _ (List.mem_of_getElem? (i := 33) rfl)))) (mvT hZ (hw _ (List.mem_of_getElem? (i := 33) rfl))) (mvT hZ (hw _ (List.mem_of_getElem? (i := 32) rfl))) (by decide) (backOf (W := 0) (rm_cn0 l Z a0 hw [] b131 sz cm_138 T200.heap n0 (Nat.le_trans Z0 (Nat.le_trans (Nat.le_trans (Nat.le_trans (Nat.le_trans (Nat.le_trans (Nat.le_refl _) E121.1) R128_0.1) E131.1) R138_0.1) R200_0.1)) (R138_2.keep R200_0) (R138_3.keep R200_0 (ninS (Ne.symm (Nat.ne_of_lt (Nat.lt_of_lt_of_le R128_2.lt (Nat.le_of_eq gb131.symm)))) nin0)) (R138_4.keep R200_0 (ninS (Ne.symm (Nat.ne_of_lt (Nat.lt_of_lt_of_le R128_2.lt (Nat.le_of_eq gb131.symm)))) nin0)) (R138_5.keep R200_0 (ninS (Ne.symm (Nat.ne_of_lt (Nat.lt_of_lt_of_le R128_2.lt (Nat.le_of_eq gb131.symm)))) nin0)) (R138_6.keep R200_0 (ninS (Ne.symm (Nat.ne_of_lt (Nat.lt_of_lt_of_le R128_2.lt (Nat.le_of_eq gb131.symm)))) nin0)) ng131) hZ (hw _ (List.mem_of_getElem? (i := 34) rfl)) (hw _ (List.mem_of_getElem? (i := 3) rfl)) (by decide) (by decide)) q220a q220c (g := (mkF m 74 #[iv i0, iv i1, iv i2, iv (1 : Int32), iv (1 : Int32), iv mg, rv b121, rv b131, .unset] [(.ref b131)])) rfl (by rw [hml]; rfl) (Steps.refl _) (argsL := []) (rest := []) (lenOf pd4 rfl) rfl (by show 2 * 0 + _ ≤ _; exact Nat.le_of_eq rfl) (hb hby at_74) (fun _ _ => ⟨rfl, rfl, (by decide : 4 + 0 ≤ _), (by decide : 12 + 0 ≤ _)⟩)
      dsimp only [Pt.U, Pt.locs, Pt.cells, Pt.slots] at X220 l220 y220 z220 st220 hQ220
      subst l220 y220 z220
      obtain ⟨rfl, N220, R220_0, R220_1, R220_2, R220_3, R220_4, R220_5⟩ := hQ220
      have M220 := Fr.app M200 N220
      have g221 : Goes p e below S0 (T220.setTop (mkF m 77 #[iv i0, iv i1, iv i2, iv (1 : Int32), iv (1 : Int32), iv mg, rv b121, rv b131, .unset] [])) := fun t k => g219 t (st220.trans k)
      have g222 : Goes p e below S0 (T220.setTop (mkF m 90 #[iv i0, iv i1, iv i2, iv (1 : Int32), iv (1 : Int32), iv mg, rv b121, rv b131, .unset] [(.ref b121)])) := fun t k => g221 t (by
        refine XS.iload X220.here hx rfl (hb hby at_77) rfl ?_
        show Go p e below t T220 m 79 #[iv i0, iv i1, iv i2, iv (1 : Int32), iv (1 : Int32), iv mg, rv b121, rv b131, .unset] [(.int (1 : Int32))]
        refine XT.iconstV X220.here hx rfl (2 : Int32) (hb hby at_79) (by decide) ?_
        show Go p e below t T220 m 80 #[iv i0, iv i1, iv i2, iv (1 : Int32), iv (1 : Int32), iv mg, rv b121, rv b131, .unset] [(.int (2 : Int32)), (.int (1 : Int32))]
        refine XS.icmpYes X220.here hx rfl (pc0 := 80) (pc' := 88) rfl (hb hby at_80) rfl (XT.ii_lt_t (by decide)) (by decide) (by decide) ?_
        show Go p e below t T220 m 88 #[iv i0, iv i1, iv i2, iv (1 : Int32), iv (1 : Int32), iv mg, rv b121, rv b131, .unset] []
        refine XS.aload X220.here hx rfl (hb hby at_88) rfl rfl ?_
        show Go p e below t T220 m 90 #[iv i0, iv i1, iv i2, iv (1 : Int32), iv (1 : Int32), iv mg, rv b121, rv b131, .unset] [(.ref b121)]
        exact k)
      obtain ⟨cq223, kq223, q223a, q223b, q223c⟩ := isOf hZ rfl (R200_1.keep R220_0)
      obtain ⟨_, _, ⟨T223, L223, k223, n223⟩, -, X223, ⟨Lc223, hQ223, l223, y223, z223⟩, st223⟩ := X220.virtualBack hx (y := (⟨"org/volder/cli/Census", "allFaithful", "()Z"⟩ : MethodName)) (z := (⟨"org/volder/cli/Census", "allFaithful", "()Z"⟩ : MethodName)) hown (mvT hZ (hw _ (List.mem_of_getElem? (i := 23) rfl))) (mvT hZ (hw _ (List.mem_of_getElem? (i := 24) rfl))) (notFace_of_selects (args := #[]) (mvT hZ (hw _ (List.mem_of_getElem? (i := 26) rfl)))) (mvT hZ (hw _ (List.mem_of_getElem? (i := 26) rfl))) (mvT hZ (hw _ (List.mem_of_getElem? (i := 25) rfl))) (by decide) (backOf (W := 0) (rm_alf l Z a0 hw [] b121 (1 : Int64) T220.heap n0 (Nat.le_trans Z0 (Nat.le_trans (Nat.le_trans (Nat.le_trans (Nat.le_trans (Nat.le_trans (Nat.le_trans (Nat.le_refl _) E121.1) R128_0.1) E131.1) R138_0.1) R200_0.1) R220_0.1)) (R200_2.keep R220_0 (ninS (Nat.ne_of_lt (Nat.lt_of_lt_of_le R128_2.lt (Nat.le_of_eq gb131.symm))) nin0))) hZ (hw _ (List.mem_of_getElem? (i := 27) rfl)) (hw _ (List.mem_of_getElem? (i := 3) rfl)) (by decide) (by decide)) q223a q223c (g := (mkF m 90 #[iv i0, iv i1, iv i2, iv (1 : Int32), iv (1 : Int32), iv mg, rv b121, rv b131, .unset] [(.ref b121)])) rfl (by rw [hml]; rfl) (Steps.refl _) (argsL := []) (rest := []) (lenOf pd5 rfl) rfl (by show 2 * 0 + _ ≤ _; exact Nat.le_of_eq rfl) (hb hby at_90) (fun _ _ => ⟨rfl, rfl, (by decide : 4 + 0 ≤ _), (by decide : 12 + 0 ≤ _)⟩)
      dsimp only [Pt.U, Pt.locs, Pt.cells, Pt.slots] at X223 l223 y223 z223 st223 hQ223
      subst l223 y223 z223
      obtain ⟨rfl, N223, e223⟩ := hQ223
      have M223 := Fr.app M220 N223
      have g224 : Goes p e below S0 (T223.setTop (mkF m 93 #[iv i0, iv i1, iv i2, iv (1 : Int32), iv (1 : Int32), iv mg, rv b121, rv b131, .unset] [(.int (f_alf  (1 : Int64)))])) := fun t k => g222 t (st223.trans k)
      have g225 : Goes p e below S0 (T223.setTop (mkF m 107 #[iv i0, iv i1, iv i2, iv (1 : Int32), iv (1 : Int32), iv mg, rv b121, rv b131, .unset] [(.ref b131)])) := fun t k => g224 t (by
        refine XS.iloadN X223.here hx rfl (hb hby at_93) rfl ?_
        show Go p e below t T223 m 94 #[iv i0, iv i1, iv i2, iv (1 : Int32), iv (1 : Int32), iv mg, rv b121, rv b131, .unset] [(.int (1 : Int32)), (.int (f_alf  (1 : Int64)))]
        refine XS.ifYes X223.here hx rfl (pc0 := 94) (pc' := 101) rfl (hb hby at_94) rfl (XT.i0_ne_t (by decide)) (by decide) (by decide) ?_
        show Go p e below t T223 m 101 #[iv i0, iv i1, iv i2, iv (1 : Int32), iv (1 : Int32), iv mg, rv b121, rv b131, .unset] [(.int (f_alf  (1 : Int64)))]
        refine XT.iconstV X223.here hx rfl (0 : Int32) (hb hby at_101) (by decide) ?_
        show Go p e below t T223 m 102 #[iv i0, iv i1, iv i2, iv (1 : Int32), iv (1 : Int32), iv mg, rv b121, rv b131, .unset] [(.int (0 : Int32)), (.int (f_alf  (1 : Int64)))]
        refine XS.icmpNo X223.here hx rfl (hb hby at_102) rfl (XT.ii_ne_f (by decide)) ?_
        show Go p e below t T223 m 105 #[iv i0, iv i1, iv i2, iv (1 : Int32), iv (1 : Int32), iv mg, rv b121, rv b131, .unset] []
        refine XS.aload X223.here hx rfl (hb hby at_105) rfl rfl ?_
        show Go p e below t T223 m 107 #[iv i0, iv i1, iv i2, iv (1 : Int32), iv (1 : Int32), iv mg, rv b121, rv b131, .unset] [(.ref b131)]
        exact k)
      obtain ⟨cq226, kq226, q226a, q226b, q226c⟩ := isOf hZ e223 R220_1
      obtain ⟨_, _, ⟨T226, L226, k226, n226⟩, -, X226, ⟨Lc226, hQ226, l226, y226, z226⟩, st226⟩ := X223.virtualBack hx (y := (⟨"org/volder/cli/Census", "allFaithful", "()Z"⟩ : MethodName)) (z := (⟨"org/volder/cli/Census", "allFaithful", "()Z"⟩ : MethodName)) hown (mvT hZ (hw _ (List.mem_of_getElem? (i := 23) rfl))) (mvT hZ (hw _ (List.mem_of_getElem? (i := 24) rfl))) (notFace_of_selects (args := #[]) (mvT hZ (hw _ (List.mem_of_getElem? (i := 26) rfl)))) (mvT hZ (hw _ (List.mem_of_getElem? (i := 26) rfl))) (mvT hZ (hw _ (List.mem_of_getElem? (i := 25) rfl))) (by decide) (backOf (W := 0) (rm_alf l Z a0 hw [] b131 (1 : Int64) T220.heap n0 (Nat.le_trans Z0 (Nat.le_trans (Nat.le_trans (Nat.le_trans (Nat.le_trans (Nat.le_trans (Nat.le_trans (Nat.le_refl _) E121.1) R128_0.1) E131.1) R138_0.1) R200_0.1) R220_0.1)) R220_2) hZ (hw _ (List.mem_of_getElem? (i := 27) rfl)) (hw _ (List.mem_of_getElem? (i := 3) rfl)) (by decide) (by decide)) q226a q226c (g := (mkF m 107 #[iv i0, iv i1, iv i2, iv (1 : Int32), iv (1 : Int32), iv mg, rv b121, rv b131, .unset] [(.ref b131)])) rfl (by rw [hml]; rfl) (Steps.refl _) (argsL := []) (rest := []) (lenOf pd5 rfl) rfl (by show 2 * 0 + _ ≤ _; exact Nat.le_of_eq rfl) (hb hby at_107) (fun _ _ => ⟨rfl, e223, (by decide : 4 + 0 ≤ _), (by decide : 12 + 0 ≤ _)⟩)
      dsimp only [Pt.U, Pt.locs, Pt.cells, Pt.slots] at X226 l226 y226 z226 st226 hQ226
      subst l226 y226 z226
      obtain ⟨rfl, N226, e226⟩ := hQ226
      have M226 := Fr.app M223 N226
      have g227 : Goes p e below S0 (T226.setTop (mkF m 110 #[iv i0, iv i1, iv i2, iv (1 : Int32), iv (1 : Int32), iv mg, rv b121, rv b131, .unset] [(.int (f_alf  (1 : Int64)))])) := fun t k => g225 t (st226.trans k)
      have g228 : Goes p e below S0 (T226.setTop (mkF m 132 #[iv i0, iv i1, iv i2, iv (1 : Int32), iv (1 : Int32), iv mg, rv b121, rv b131, iv (1 : Int32)] [(.int mg)])) := fun t k => g227 t (by
        refine XS.iload X226.here hx rfl (hb hby at_110) rfl ?_
        show Go p e below t T226 m 112 #[iv i0, iv i1, iv i2, iv (1 : Int32), iv (1 : Int32), iv mg, rv b121, rv b131, .unset] [(.int (1 : Int32)), (.int (f_alf  (1 : Int64)))]
        refine XS.ifYes X226.here hx rfl (pc0 := 112) (pc' := 119) rfl (hb hby at_112) rfl (XT.i0_ne_t (by decide)) (by decide) (by decide) ?_
        show Go p e below t T226 m 119 #[iv i0, iv i1, iv i2, iv (1 : Int32), iv (1 : Int32), iv mg, rv b121, rv b131, .unset] [(.int (f_alf  (1 : Int64)))]
        refine XT.iconstV X226.here hx rfl (0 : Int32) (hb hby at_119) (by decide) ?_
        show Go p e below t T226 m 120 #[iv i0, iv i1, iv i2, iv (1 : Int32), iv (1 : Int32), iv mg, rv b121, rv b131, .unset] [(.int (0 : Int32)), (.int (f_alf  (1 : Int64)))]
        refine XS.icmpNo X226.here hx rfl (hb hby at_120) rfl (XT.ii_ne_f (by decide)) ?_
        show Go p e below t T226 m 123 #[iv i0, iv i1, iv i2, iv (1 : Int32), iv (1 : Int32), iv mg, rv b121, rv b131, .unset] []
        refine XT.iconstV X226.here hx rfl (1 : Int32) (hb hby at_123) (by decide) ?_
        show Go p e below t T226 m 124 #[iv i0, iv i1, iv i2, iv (1 : Int32), iv (1 : Int32), iv mg, rv b121, rv b131, .unset] [(.int (1 : Int32))]
        refine XS.goto X226.here hx rfl (pc0 := 124) (pc' := 128) rfl (hb hby at_124) (by decide) (by decide) ?_
        show Go p e below t T226 m 128 #[iv i0, iv i1, iv i2, iv (1 : Int32), iv (1 : Int32), iv mg, rv b121, rv b131, .unset] [(.int (1 : Int32))]
        refine XS.istore X226.here hx rfl (hb hby at_128) rfl (l' := #[iv i0, iv i1, iv i2, iv (1 : Int32), iv (1 : Int32), iv mg, rv b121, rv b131, iv (1 : Int32)]) rfl ?_
        show Go p e below t T226 m 130 #[iv i0, iv i1, iv i2, iv (1 : Int32), iv (1 : Int32), iv mg, rv b121, rv b131, iv (1 : Int32)] []
        refine XS.iload X226.here hx rfl (hb hby at_130) rfl ?_
        show Go p e below t T226 m 132 #[iv i0, iv i1, iv i2, iv (1 : Int32), iv (1 : Int32), iv mg, rv b121, rv b131, iv (1 : Int32)] [(.int mg)]
        exact k)
      by_cases h229 : mg = 0
      · skip
        have g230 : Goes p e below S0 (T226.setTop (mkF m 176 #[iv i0, iv i1, iv i2, iv (1 : Int32), iv (1 : Int32), iv mg, rv b121, rv b131, iv (1 : Int32)] [(.int (1 : Int32))])) := fun t k => g228 t (by
          refine XS.ifYes X226.here hx rfl (pc0 := 132) (pc' := 174) rfl (hb hby at_132) rfl (XT.i0_eq_t h229) (by decide) (by decide) ?_
          show Go p e below t T226 m 174 #[iv i0, iv i1, iv i2, iv (1 : Int32), iv (1 : Int32), iv mg, rv b121, rv b131, iv (1 : Int32)] []
          refine XS.iload X226.here hx rfl (hb hby at_174) rfl ?_
          show Go p e below t T226 m 176 #[iv i0, iv i1, iv i2, iv (1 : Int32), iv (1 : Int32), iv mg, rv b121, rv b131, iv (1 : Int32)] [(.int (1 : Int32))]
          exact k)
        obtain ⟨fs, hr, hrun, hended, hW, hsame⟩ := X226.leave (v := some (.int (1 : Int32))) (fun h => by rw [Bd.returns] at h; cases h)
        refine ⟨_, _, g230 _ (retN X226 hx (t := .boolean) Bd.returns (by simp) (hb hby at_176) hr), hrun, hended, _, _, rfl, ?_, ⟨_, rfl⟩, hW, hsame.mono (by decide) (by decide)⟩
        show Q_law Z i0 i1 i2 sz h0 n0 _ T226.heap _
        rw [e226]
        exact ⟨rfl, M226⟩
      · skip
        have g231 : Goes p e below S0 (T226.setTop (mkF m 139 #[iv i0, iv i1, iv i2, iv (1 : Int32), iv (1 : Int32), iv mg, rv b121, rv b131, iv (1 : Int32)] [(.ref b131), (.ref b121)])) := fun t k => g228 t (by
          refine XS.ifNo X226.here hx rfl (hb hby at_132) rfl (XT.i0_eq_f h229) ?_
          show Go p e below t T226 m 135 #[iv i0, iv i1, iv i2, iv (1 : Int32), iv (1 : Int32), iv mg, rv b121, rv b131, iv (1 : Int32)] []
          refine XS.aload X226.here hx rfl (hb hby at_135) rfl rfl ?_
          show Go p e below t T226 m 137 #[iv i0, iv i1, iv i2, iv (1 : Int32), iv (1 : Int32), iv mg, rv b121, rv b131, iv (1 : Int32)] [(.ref b121)]
          refine XS.aload X226.here hx rfl (hb hby at_137) rfl rfl ?_
          show Go p e below t T226 m 139 #[iv i0, iv i1, iv i2, iv (1 : Int32), iv (1 : Int32), iv mg, rv b121, rv b131, iv (1 : Int32)] [(.ref b131), (.ref b121)]
          exact k)
        obtain ⟨cq232, kq232, q232a, q232b, q232c⟩ := isOf hZ e226 (R200_1.keep R220_0)
        obtain ⟨_, _, ⟨T232, L232, k232, n232⟩, -, X232, ⟨Lc232, hQ232, l232, y232, z232⟩, st232⟩ := X226.virtualBack hx (y := (⟨"org/volder/cli/Census", "add", "(Lorg/volder/cli/Census;)V"⟩ : MethodName)) (z := (⟨"org/volder/cli/Census", "add", "(Lorg/volder/cli/Census;)V"⟩ : MethodName)) hown (mvT hZ (hw _ (List.mem_of_getElem? (i := 35) rfl))) (mvT hZ (hw _ (List.mem_of_getElem? (i := 36) rfl))) (notFace_of_selects (args := #[]) (mvT hZ (hw _ (List.mem_of_getElem? (i := 38) rfl)))) (mvT hZ (hw _ (List.mem_of_getElem? (i := 38) rfl))) (mvT hZ (hw _ (List.mem_of_getElem? (i := 37) rfl))) (by decide) (backOf (W := 0) (rm_cadd l Z a0 hw [] b121 b131 (1 : Int64) (1 : Int64) sz cm_128 cm_138 T220.heap n0 (Nat.le_trans Z0 (Nat.le_trans (Nat.le_trans (Nat.le_trans (Nat.le_trans (Nat.le_trans (Nat.le_trans (Nat.le_refl _) E121.1) R128_0.1) E131.1) R138_0.1) R200_0.1) R220_0.1)) (R200_1.keep R220_0) (R200_2.keep R220_0 (ninS (Nat.ne_of_lt (Nat.lt_of_lt_of_le R128_2.lt (Nat.le_of_eq gb131.symm))) nin0)) (R200_3.keep R220_0 (ninS (Nat.ne_of_lt (Nat.lt_of_lt_of_le R128_2.lt (Nat.le_of_eq gb131.symm))) nin0)) (R200_4.keep R220_0 (ninS (Nat.ne_of_lt (Nat.lt_of_lt_of_le R128_2.lt (Nat.le_of_eq gb131.symm))) nin0)) (R200_5.keep R220_0 (ninS (Nat.ne_of_lt (Nat.lt_of_lt_of_le R128_2.lt (Nat.le_of_eq gb131.symm))) nin0)) ng121 (Nat.ne_of_lt (Nat.lt_of_lt_of_le R128_2.lt (Nat.le_of_eq gb131.symm))) (Ne.symm (Nat.ne_of_lt (Nat.lt_of_lt_of_le P1.lt (Nat.le_of_eq gb121.symm)))) (Nat.ne_of_lt (Nat.lt_of_lt_of_le A121.lt R128_1)) (Nat.ne_of_lt (Nat.lt_of_lt_of_le (R128_2.ext E131).lt R138_1)) R220_2 R220_3 R220_4 R220_5 ((((R128_7.ext E131).keep R138_0).keep R200_0).keep R220_0) ((((R128_8.ext E131).keep R138_0 (ninS (Nat.ne_of_lt (Nat.lt_of_lt_of_le R128_7.lt (Nat.le_of_eq gb131.symm))) nin0)).keep R200_0 (ninS (Ne.symm (Nat.ne_of_lt (Nat.lt_of_lt_of_le A121.lt R128_1))) nin0)).keep R220_0 (ninS (Nat.ne_of_lt (Nat.lt_of_lt_of_le R128_7.lt (Nat.le_of_eq gb131.symm))) nin0)) ((((R128_9.ext E131).keep R138_0 (ninS (Nat.ne_of_lt (Nat.lt_of_lt_of_le R128_7.lt (Nat.le_of_eq gb131.symm))) nin0)).keep R200_0 (ninS (Ne.symm (Nat.ne_of_lt (Nat.lt_of_lt_of_le A121.lt R128_1))) nin0)).keep R220_0 (ninS (Nat.ne_of_lt (Nat.lt_of_lt_of_le R128_7.lt (Nat.le_of_eq gb131.symm))) nin0)) ((R138_8.keep R200_0 (ninS (Ne.symm (Nat.ne_of_lt (Nat.lt_of_lt_of_le (R128_2.ext E131).lt R138_1))) nin0)).keep R220_0 (ninS (Ne.symm (Nat.ne_of_lt (Nat.lt_of_lt_of_le A131.lt R138_1))) nin0)) ((R138_9.keep R200_0 (ninS (Ne.symm (Nat.ne_of_lt (Nat.lt_of_lt_of_le (R128_2.ext E131).lt R138_1))) nin0)).keep R220_0 (ninS (Ne.symm (Nat.ne_of_lt (Nat.lt_of_lt_of_le A131.lt R138_1))) nin0)) ((((((P1.ext E121).keep R128_0).ext E131).keep R138_0).keep R200_0).keep R220_0) ((((((P2.ext E121).keep R128_0 (ninS (Nat.ne_of_lt (Nat.lt_of_lt_of_le P1.lt (Nat.le_of_eq gb121.symm))) nin0)).ext E131).keep R138_0 (ninS (Nat.ne_of_lt (Nat.lt_of_lt_of_le ((P1.ext E121).keep R128_0).lt (Nat.le_of_eq gb131.symm))) nin0)).keep R200_0 (ninS (Nat.ne_of_lt (Nat.lt_of_lt_of_le P1.lt (Nat.le_of_eq gb121.symm))) nin0)).keep R220_0 (ninS (Nat.ne_of_lt (Nat.lt_of_lt_of_le ((P1.ext E121).keep R128_0).lt (Nat.le_of_eq gb131.symm))) nin0)) ((((((P3.ext E121).keep R128_0 (ninS (Nat.ne_of_lt (Nat.lt_of_lt_of_le P1.lt (Nat.le_of_eq gb121.symm))) nin0)).ext E131).keep R138_0 (ninS (Nat.ne_of_lt (Nat.lt_of_lt_of_le ((P1.ext E121).keep R128_0).lt (Nat.le_of_eq gb131.symm))) nin0)).keep R200_0 (ninS (Nat.ne_of_lt (Nat.lt_of_lt_of_le P1.lt (Nat.le_of_eq gb121.symm))) nin0)).keep R220_0 (ninS (Nat.ne_of_lt (Nat.lt_of_lt_of_le ((P1.ext E121).keep R128_0).lt (Nat.le_of_eq gb131.symm))) nin0))) hZ (hw _ (List.mem_of_getElem? (i := 39) rfl)) (hw _ (List.mem_of_getElem? (i := 3) rfl)) (by decide) (by decide)) q232a q232c (g := (mkF m 139 #[iv i0, iv i1, iv i2, iv (1 : Int32), iv (1 : Int32), iv mg, rv b121, rv b131, iv (1 : Int32)] [(.ref b131), (.ref b121)])) rfl (by rw [hml]; rfl) (Steps.refl _) (argsL := [(.ref b131)]) (rest := []) (lenOf pd6 rfl) rfl (by show 2 * 0 + _ ≤ _; exact Nat.le_of_eq rfl) (hb hby at_139) (fun _ _ => ⟨rfl, e226, (by decide : 4 + 0 ≤ _), (by decide : 12 + 0 ≤ _)⟩)
        dsimp only [Pt.U, Pt.locs, Pt.cells, Pt.slots] at X232 l232 y232 z232 st232 hQ232
        subst l232 y232 z232
        obtain ⟨rfl, N232, R232_0, R232_1, R232_2⟩ := hQ232
        have M232 := Fr.app M226 N232
        have g233 : Goes p e below S0 (T232.setTop (mkF m 142 #[iv i0, iv i1, iv i2, iv (1 : Int32), iv (1 : Int32), iv mg, rv b121, rv b131, iv (1 : Int32)] [])) := fun t k => g231 t (st232.trans k)
        have g234 : Goes p e below S0 (T232.setTop (mkF m 149 #[iv i0, iv i1, iv i2, iv (1 : Int32), iv (1 : Int32), iv mg, rv b121, rv b131, iv (1 : Int32)] [(.ref b121)])) := fun t k => g233 t (by
          refine XS.iload X232.here hx rfl (hb hby at_142) rfl ?_
          show Go p e below t T232 m 144 #[iv i0, iv i1, iv i2, iv (1 : Int32), iv (1 : Int32), iv mg, rv b121, rv b131, iv (1 : Int32)] [(.int (1 : Int32))]
          refine XS.ifNo X232.here hx rfl (hb hby at_144) rfl (XT.i0_eq_f (by decide)) ?_
          show Go p e below t T232 m 147 #[iv i0, iv i1, iv i2, iv (1 : Int32), iv (1 : Int32), iv mg, rv b121, rv b131, iv (1 : Int32)] []
          refine XS.aload X232.here hx rfl (hb hby at_147) rfl rfl ?_
          show Go p e below t T232 m 149 #[iv i0, iv i1, iv i2, iv (1 : Int32), iv (1 : Int32), iv mg, rv b121, rv b131, iv (1 : Int32)] [(.ref b121)]
          exact k)
        obtain ⟨cq235, kq235, q235a, q235b, q235c⟩ := isOf hZ rfl R232_1
        obtain ⟨_, _, ⟨T235, L235, k235, n235⟩, -, X235, ⟨Lc235, hQ235, l235, y235, z235⟩, st235⟩ := X232.virtualBack hx (y := (⟨"org/volder/cli/Census", "allFaithful", "()Z"⟩ : MethodName)) (z := (⟨"org/volder/cli/Census", "allFaithful", "()Z"⟩ : MethodName)) hown (mvT hZ (hw _ (List.mem_of_getElem? (i := 23) rfl))) (mvT hZ (hw _ (List.mem_of_getElem? (i := 24) rfl))) (notFace_of_selects (args := #[]) (mvT hZ (hw _ (List.mem_of_getElem? (i := 26) rfl)))) (mvT hZ (hw _ (List.mem_of_getElem? (i := 26) rfl))) (mvT hZ (hw _ (List.mem_of_getElem? (i := 25) rfl))) (by decide) (backOf (W := 0) (rm_alf l Z a0 hw [] b121 ((1 : Int64) + (1 : Int64)) T232.heap n0 (Nat.le_trans Z0 (Nat.le_trans (Nat.le_trans (Nat.le_trans (Nat.le_trans (Nat.le_trans (Nat.le_trans (Nat.le_trans (Nat.le_refl _) E121.1) R128_0.1) E131.1) R138_0.1) R200_0.1) R220_0.1) R232_0.1)) R232_2) hZ (hw _ (List.mem_of_getElem? (i := 27) rfl)) (hw _ (List.mem_of_getElem? (i := 3) rfl)) (by decide) (by decide)) q235a q235c (g := (mkF m 149 #[iv i0, iv i1, iv i2, iv (1 : Int32), iv (1 : Int32), iv mg, rv b121, rv b131, iv (1 : Int32)] [(.ref b121)])) rfl (by rw [hml]; rfl) (Steps.refl _) (argsL := []) (rest := []) (lenOf pd5 rfl) rfl (by show 2 * 0 + _ ≤ _; exact Nat.le_of_eq rfl) (hb hby at_149) (fun _ _ => ⟨rfl, rfl, (by decide : 4 + 0 ≤ _), (by decide : 12 + 0 ≤ _)⟩)
        dsimp only [Pt.U, Pt.locs, Pt.cells, Pt.slots] at X235 l235 y235 z235 st235 hQ235
        subst l235 y235 z235
        obtain ⟨rfl, N235, e235⟩ := hQ235
        have M235 := Fr.app M232 N235
        have g236 : Goes p e below S0 (T235.setTop (mkF m 152 #[iv i0, iv i1, iv i2, iv (1 : Int32), iv (1 : Int32), iv mg, rv b121, rv b131, iv (1 : Int32)] [(.int (f_alf  ((1 : Int64) + (1 : Int64))))])) := fun t k => g234 t (st235.trans k)
        have g237 : Goes p e below S0 (T235.setTop (mkF m 176 #[iv i0, iv i1, iv i2, iv (1 : Int32), iv (1 : Int32), iv mg, rv b121, rv b131, iv (1 : Int32)] [(.int (1 : Int32))])) := fun t k => g236 t (by
          refine XS.iloadN X235.here hx rfl (hb hby at_152) rfl ?_
          show Go p e below t T235 m 153 #[iv i0, iv i1, iv i2, iv (1 : Int32), iv (1 : Int32), iv mg, rv b121, rv b131, iv (1 : Int32)] [(.int (1 : Int32)), (.int (f_alf  ((1 : Int64) + (1 : Int64))))]
          refine XS.iload X235.here hx rfl (hb hby at_153) rfl ?_
          show Go p e below t T235 m 155 #[iv i0, iv i1, iv i2, iv (1 : Int32), iv (1 : Int32), iv mg, rv b121, rv b131, iv (1 : Int32)] [(.int (1 : Int32)), (.int (1 : Int32)), (.int (f_alf  ((1 : Int64) + (1 : Int64))))]
          refine XS.iadd X235.here hx rfl (hb hby at_155) rfl ?_
          rw [show ((1 : Int32) + (1 : Int32)) = (2 : Int32) by decide]
          show Go p e below t T235 m 156 #[iv i0, iv i1, iv i2, iv (1 : Int32), iv (1 : Int32), iv mg, rv b121, rv b131, iv (1 : Int32)] [(.int (2 : Int32)), (.int (f_alf  ((1 : Int64) + (1 : Int64))))]
          refine XS.ifYes X235.here hx rfl (pc0 := 156) (pc' := 163) rfl (hb hby at_156) rfl (XT.i0_ne_t (by decide)) (by decide) (by decide) ?_
          show Go p e below t T235 m 163 #[iv i0, iv i1, iv i2, iv (1 : Int32), iv (1 : Int32), iv mg, rv b121, rv b131, iv (1 : Int32)] [(.int (f_alf  ((1 : Int64) + (1 : Int64))))]
          refine XT.iconstV X235.here hx rfl (0 : Int32) (hb hby at_163) (by decide) ?_
          show Go p e below t T235 m 164 #[iv i0, iv i1, iv i2, iv (1 : Int32), iv (1 : Int32), iv mg, rv b121, rv b131, iv (1 : Int32)] [(.int (0 : Int32)), (.int (f_alf  ((1 : Int64) + (1 : Int64))))]
          refine XS.icmpNo X235.here hx rfl (hb hby at_164) rfl (XT.ii_ne_f (by decide)) ?_
          show Go p e below t T235 m 167 #[iv i0, iv i1, iv i2, iv (1 : Int32), iv (1 : Int32), iv mg, rv b121, rv b131, iv (1 : Int32)] []
          refine XT.iconstV X235.here hx rfl (1 : Int32) (hb hby at_167) (by decide) ?_
          show Go p e below t T235 m 168 #[iv i0, iv i1, iv i2, iv (1 : Int32), iv (1 : Int32), iv mg, rv b121, rv b131, iv (1 : Int32)] [(.int (1 : Int32))]
          refine XS.goto X235.here hx rfl (pc0 := 168) (pc' := 172) rfl (hb hby at_168) (by decide) (by decide) ?_
          show Go p e below t T235 m 172 #[iv i0, iv i1, iv i2, iv (1 : Int32), iv (1 : Int32), iv mg, rv b121, rv b131, iv (1 : Int32)] [(.int (1 : Int32))]
          refine XS.istore X235.here hx rfl (hb hby at_172) rfl (l' := #[iv i0, iv i1, iv i2, iv (1 : Int32), iv (1 : Int32), iv mg, rv b121, rv b131, iv (1 : Int32)]) rfl ?_
          show Go p e below t T235 m 174 #[iv i0, iv i1, iv i2, iv (1 : Int32), iv (1 : Int32), iv mg, rv b121, rv b131, iv (1 : Int32)] []
          refine XS.iload X235.here hx rfl (hb hby at_174) rfl ?_
          show Go p e below t T235 m 176 #[iv i0, iv i1, iv i2, iv (1 : Int32), iv (1 : Int32), iv mg, rv b121, rv b131, iv (1 : Int32)] [(.int (1 : Int32))]
          exact k)
        obtain ⟨fs, hr, hrun, hended, hW, hsame⟩ := X235.leave (v := some (.int (1 : Int32))) (fun h => by rw [Bd.returns] at h; cases h)
        refine ⟨_, _, g237 _ (retN X235 hx (t := .boolean) Bd.returns (by simp) (hb hby at_176) hr), hrun, hended, _, _, rfl, ?_, ⟨_, rfl⟩, hW, hsame.mono (by decide) (by decide)⟩
        show Q_law Z i0 i1 i2 sz h0 n0 _ T235.heap _
        rw [e235]
        exact ⟨rfl, M235⟩
    · skip
      have g238 : Goes p e below S0 (T200.setTop (mkF m 74 #[iv i0, iv i1, iv i2, iv (1 : Int32), iv (2 : Int32), iv mg, rv b121, rv b131, .unset] [(.ref b131)])) := fun t k => g202 t (by
        refine XS.iload X200.here hx rfl (hb hby at_66) rfl ?_
        show Go p e below t T200 m 68 #[iv i0, iv i1, iv i2, iv (1 : Int32), iv (2 : Int32), iv mg, rv b121, rv b131, .unset] [(.int (2 : Int32))]
        refine XT.iconstV X200.here hx rfl (1 : Int32) (hb hby at_68) (by decide) ?_
        show Go p e below t T200 m 69 #[iv i0, iv i1, iv i2, iv (1 : Int32), iv (2 : Int32), iv mg, rv b121, rv b131, .unset] [(.int (1 : Int32)), (.int (2 : Int32))]
        refine XS.icmpNo X200.here hx rfl (hb hby at_69) rfl (XT.ii_lt_f (by decide)) ?_
        show Go p e below t T200 m 72 #[iv i0, iv i1, iv i2, iv (1 : Int32), iv (2 : Int32), iv mg, rv b121, rv b131, .unset] []
        refine XS.aload X200.here hx rfl (hb hby at_72) rfl rfl ?_
        show Go p e below t T200 m 74 #[iv i0, iv i1, iv i2, iv (1 : Int32), iv (2 : Int32), iv mg, rv b121, rv b131, .unset] [(.ref b131)]
        exact k)
      obtain ⟨cq239, kq239, q239a, q239b, q239c⟩ := isOf hZ rfl (R138_2.keep R200_0)
      obtain ⟨_, _, ⟨T239, L239, k239, n239⟩, -, X239, ⟨Lc239, hQ239, l239, y239, z239⟩, st239⟩ := X200.virtualBack hx (y := (⟨"org/volder/cli/Census", "countUnfaithful", "()V"⟩ : MethodName)) (z := (⟨"org/volder/cli/Census", "countUnfaithful", "()V"⟩ : MethodName)) hown (mvT hZ (hw _ (List.mem_of_getElem? (i := 30) rfl))) (mvT hZ (hw _ (List.mem_of_getElem? (i := 31) rfl))) (notFace_of_selects (args := #[]) (mvT hZ (hw _ (List.mem_of_getElem? (i := 33) rfl)))) (mvT hZ (hw _ (List.mem_of_getElem? (i := 33) rfl))) (mvT hZ (hw _ (List.mem_of_getElem? (i := 32) rfl))) (by decide) (backOf (W := 0) (rm_cn0 l Z a0 hw [] b131 sz cm_138 T200.heap n0 (Nat.le_trans Z0 (Nat.le_trans (Nat.le_trans (Nat.le_trans (Nat.le_trans (Nat.le_trans (Nat.le_refl _) E121.1) R128_0.1) E131.1) R138_0.1) R200_0.1)) (R138_2.keep R200_0) (R138_3.keep R200_0 (ninS (Ne.symm (Nat.ne_of_lt (Nat.lt_of_lt_of_le R128_2.lt (Nat.le_of_eq gb131.symm)))) nin0)) (R138_4.keep R200_0 (ninS (Ne.symm (Nat.ne_of_lt (Nat.lt_of_lt_of_le R128_2.lt (Nat.le_of_eq gb131.symm)))) nin0)) (R138_5.keep R200_0 (ninS (Ne.symm (Nat.ne_of_lt (Nat.lt_of_lt_of_le R128_2.lt (Nat.le_of_eq gb131.symm)))) nin0)) (R138_6.keep R200_0 (ninS (Ne.symm (Nat.ne_of_lt (Nat.lt_of_lt_of_le R128_2.lt (Nat.le_of_eq gb131.symm)))) nin0)) ng131) hZ (hw _ (List.mem_of_getElem? (i := 34) rfl)) (hw _ (List.mem_of_getElem? (i := 3) rfl)) (by decide) (by decide)) q239a q239c (g := (mkF m 74 #[iv i0, iv i1, iv i2, iv (1 : Int32), iv (2 : Int32), iv mg, rv b121, rv b131, .unset] [(.ref b131)])) rfl (by rw [hml]; rfl) (Steps.refl _) (argsL := []) (rest := []) (lenOf pd4 rfl) rfl (by show 2 * 0 + _ ≤ _; exact Nat.le_of_eq rfl) (hb hby at_74) (fun _ _ => ⟨rfl, rfl, (by decide : 4 + 0 ≤ _), (by decide : 12 + 0 ≤ _)⟩)
      dsimp only [Pt.U, Pt.locs, Pt.cells, Pt.slots] at X239 l239 y239 z239 st239 hQ239
      subst l239 y239 z239
      obtain ⟨rfl, N239, R239_0, R239_1, R239_2, R239_3, R239_4, R239_5⟩ := hQ239
      have M239 := Fr.app M200 N239
      have g240 : Goes p e below S0 (T239.setTop (mkF m 77 #[iv i0, iv i1, iv i2, iv (1 : Int32), iv (2 : Int32), iv mg, rv b121, rv b131, .unset] [])) := fun t k => g238 t (st239.trans k)
      have g241 : Goes p e below S0 (T239.setTop (mkF m 85 #[iv i0, iv i1, iv i2, iv (1 : Int32), iv (2 : Int32), iv mg, rv b121, rv b131, .unset] [(.ref b131)])) := fun t k => g240 t (by
        refine XS.iload X239.here hx rfl (hb hby at_77) rfl ?_
        show Go p e below t T239 m 79 #[iv i0, iv i1, iv i2, iv (1 : Int32), iv (2 : Int32), iv mg, rv b121, rv b131, .unset] [(.int (2 : Int32))]
        refine XT.iconstV X239.here hx rfl (2 : Int32) (hb hby at_79) (by decide) ?_
        show Go p e below t T239 m 80 #[iv i0, iv i1, iv i2, iv (1 : Int32), iv (2 : Int32), iv mg, rv b121, rv b131, .unset] [(.int (2 : Int32)), (.int (2 : Int32))]
        refine XS.icmpNo X239.here hx rfl (hb hby at_80) rfl (XT.ii_lt_f (by decide)) ?_
        show Go p e below t T239 m 83 #[iv i0, iv i1, iv i2, iv (1 : Int32), iv (2 : Int32), iv mg, rv b121, rv b131, .unset] []
        refine XS.aload X239.here hx rfl (hb hby at_83) rfl rfl ?_
        show Go p e below t T239 m 85 #[iv i0, iv i1, iv i2, iv (1 : Int32), iv (2 : Int32), iv mg, rv b121, rv b131, .unset] [(.ref b131)]
        exact k)
      obtain ⟨cq242, kq242, q242a, q242b, q242c⟩ := isOf hZ rfl R239_1
      obtain ⟨_, _, ⟨T242, L242, k242, n242⟩, -, X242, ⟨Lc242, hQ242, l242, y242, z242⟩, st242⟩ := X239.virtualBack hx (y := (⟨"org/volder/cli/Census", "countUnfaithful", "()V"⟩ : MethodName)) (z := (⟨"org/volder/cli/Census", "countUnfaithful", "()V"⟩ : MethodName)) hown (mvT hZ (hw _ (List.mem_of_getElem? (i := 30) rfl))) (mvT hZ (hw _ (List.mem_of_getElem? (i := 31) rfl))) (notFace_of_selects (args := #[]) (mvT hZ (hw _ (List.mem_of_getElem? (i := 33) rfl)))) (mvT hZ (hw _ (List.mem_of_getElem? (i := 33) rfl))) (mvT hZ (hw _ (List.mem_of_getElem? (i := 32) rfl))) (by decide) (backOf (W := 0) (rm_cn1 l Z a0 hw [] b131 sz cm_138 T239.heap n0 (Nat.le_trans Z0 (Nat.le_trans (Nat.le_trans (Nat.le_trans (Nat.le_trans (Nat.le_trans (Nat.le_trans (Nat.le_refl _) E121.1) R128_0.1) E131.1) R138_0.1) R200_0.1) R239_0.1)) R239_1 R239_2 R239_3 R239_4 R239_5 ng131) hZ (hw _ (List.mem_of_getElem? (i := 34) rfl)) (hw _ (List.mem_of_getElem? (i := 3) rfl)) (by decide) (by decide)) q242a q242c (g := (mkF m 85 #[iv i0, iv i1, iv i2, iv (1 : Int32), iv (2 : Int32), iv mg, rv b121, rv b131, .unset] [(.ref b131)])) rfl (by rw [hml]; rfl) (Steps.refl _) (argsL := []) (rest := []) (lenOf pd4 rfl) rfl (by show 2 * 0 + _ ≤ _; exact Nat.le_of_eq rfl) (hb hby at_85) (fun _ _ => ⟨rfl, rfl, (by decide : 4 + 0 ≤ _), (by decide : 12 + 0 ≤ _)⟩)
      dsimp only [Pt.U, Pt.locs, Pt.cells, Pt.slots] at X242 l242 y242 z242 st242 hQ242
      subst l242 y242 z242
      obtain ⟨rfl, N242, R242_0, R242_1, R242_2, R242_3, R242_4, R242_5⟩ := hQ242
      have M242 := Fr.app M239 N242
      have g243 : Goes p e below S0 (T242.setTop (mkF m 88 #[iv i0, iv i1, iv i2, iv (1 : Int32), iv (2 : Int32), iv mg, rv b121, rv b131, .unset] [])) := fun t k => g241 t (st242.trans k)
      have g244 : Goes p e below S0 (T242.setTop (mkF m 90 #[iv i0, iv i1, iv i2, iv (1 : Int32), iv (2 : Int32), iv mg, rv b121, rv b131, .unset] [(.ref b121)])) := fun t k => g243 t (by
        refine XS.aload X242.here hx rfl (hb hby at_88) rfl rfl ?_
        show Go p e below t T242 m 90 #[iv i0, iv i1, iv i2, iv (1 : Int32), iv (2 : Int32), iv mg, rv b121, rv b131, .unset] [(.ref b121)]
        exact k)
      obtain ⟨cq245, kq245, q245a, q245b, q245c⟩ := isOf hZ rfl ((R200_1.keep R239_0).keep R242_0)
      obtain ⟨_, _, ⟨T245, L245, k245, n245⟩, -, X245, ⟨Lc245, hQ245, l245, y245, z245⟩, st245⟩ := X242.virtualBack hx (y := (⟨"org/volder/cli/Census", "allFaithful", "()Z"⟩ : MethodName)) (z := (⟨"org/volder/cli/Census", "allFaithful", "()Z"⟩ : MethodName)) hown (mvT hZ (hw _ (List.mem_of_getElem? (i := 23) rfl))) (mvT hZ (hw _ (List.mem_of_getElem? (i := 24) rfl))) (notFace_of_selects (args := #[]) (mvT hZ (hw _ (List.mem_of_getElem? (i := 26) rfl)))) (mvT hZ (hw _ (List.mem_of_getElem? (i := 26) rfl))) (mvT hZ (hw _ (List.mem_of_getElem? (i := 25) rfl))) (by decide) (backOf (W := 0) (rm_alf l Z a0 hw [] b121 (1 : Int64) T242.heap n0 (Nat.le_trans Z0 (Nat.le_trans (Nat.le_trans (Nat.le_trans (Nat.le_trans (Nat.le_trans (Nat.le_trans (Nat.le_trans (Nat.le_refl _) E121.1) R128_0.1) E131.1) R138_0.1) R200_0.1) R239_0.1) R242_0.1)) ((R200_2.keep R239_0 (ninS (Nat.ne_of_lt (Nat.lt_of_lt_of_le R128_2.lt (Nat.le_of_eq gb131.symm))) nin0)).keep R242_0 (ninS (Nat.ne_of_lt (Nat.lt_of_lt_of_le R128_2.lt (Nat.le_of_eq gb131.symm))) nin0))) hZ (hw _ (List.mem_of_getElem? (i := 27) rfl)) (hw _ (List.mem_of_getElem? (i := 3) rfl)) (by decide) (by decide)) q245a q245c (g := (mkF m 90 #[iv i0, iv i1, iv i2, iv (1 : Int32), iv (2 : Int32), iv mg, rv b121, rv b131, .unset] [(.ref b121)])) rfl (by rw [hml]; rfl) (Steps.refl _) (argsL := []) (rest := []) (lenOf pd5 rfl) rfl (by show 2 * 0 + _ ≤ _; exact Nat.le_of_eq rfl) (hb hby at_90) (fun _ _ => ⟨rfl, rfl, (by decide : 4 + 0 ≤ _), (by decide : 12 + 0 ≤ _)⟩)
      dsimp only [Pt.U, Pt.locs, Pt.cells, Pt.slots] at X245 l245 y245 z245 st245 hQ245
      subst l245 y245 z245
      obtain ⟨rfl, N245, e245⟩ := hQ245
      have M245 := Fr.app M242 N245
      have g246 : Goes p e below S0 (T245.setTop (mkF m 93 #[iv i0, iv i1, iv i2, iv (1 : Int32), iv (2 : Int32), iv mg, rv b121, rv b131, .unset] [(.int (f_alf  (1 : Int64)))])) := fun t k => g244 t (st245.trans k)
      have g247 : Goes p e below S0 (T245.setTop (mkF m 107 #[iv i0, iv i1, iv i2, iv (1 : Int32), iv (2 : Int32), iv mg, rv b121, rv b131, .unset] [(.ref b131)])) := fun t k => g246 t (by
        refine XS.iloadN X245.here hx rfl (hb hby at_93) rfl ?_
        show Go p e below t T245 m 94 #[iv i0, iv i1, iv i2, iv (1 : Int32), iv (2 : Int32), iv mg, rv b121, rv b131, .unset] [(.int (1 : Int32)), (.int (f_alf  (1 : Int64)))]
        refine XS.ifYes X245.here hx rfl (pc0 := 94) (pc' := 101) rfl (hb hby at_94) rfl (XT.i0_ne_t (by decide)) (by decide) (by decide) ?_
        show Go p e below t T245 m 101 #[iv i0, iv i1, iv i2, iv (1 : Int32), iv (2 : Int32), iv mg, rv b121, rv b131, .unset] [(.int (f_alf  (1 : Int64)))]
        refine XT.iconstV X245.here hx rfl (0 : Int32) (hb hby at_101) (by decide) ?_
        show Go p e below t T245 m 102 #[iv i0, iv i1, iv i2, iv (1 : Int32), iv (2 : Int32), iv mg, rv b121, rv b131, .unset] [(.int (0 : Int32)), (.int (f_alf  (1 : Int64)))]
        refine XS.icmpNo X245.here hx rfl (hb hby at_102) rfl (XT.ii_ne_f (by decide)) ?_
        show Go p e below t T245 m 105 #[iv i0, iv i1, iv i2, iv (1 : Int32), iv (2 : Int32), iv mg, rv b121, rv b131, .unset] []
        refine XS.aload X245.here hx rfl (hb hby at_105) rfl rfl ?_
        show Go p e below t T245 m 107 #[iv i0, iv i1, iv i2, iv (1 : Int32), iv (2 : Int32), iv mg, rv b121, rv b131, .unset] [(.ref b131)]
        exact k)
      obtain ⟨cq248, kq248, q248a, q248b, q248c⟩ := isOf hZ e245 R242_1
      obtain ⟨_, _, ⟨T248, L248, k248, n248⟩, -, X248, ⟨Lc248, hQ248, l248, y248, z248⟩, st248⟩ := X245.virtualBack hx (y := (⟨"org/volder/cli/Census", "allFaithful", "()Z"⟩ : MethodName)) (z := (⟨"org/volder/cli/Census", "allFaithful", "()Z"⟩ : MethodName)) hown (mvT hZ (hw _ (List.mem_of_getElem? (i := 23) rfl))) (mvT hZ (hw _ (List.mem_of_getElem? (i := 24) rfl))) (notFace_of_selects (args := #[]) (mvT hZ (hw _ (List.mem_of_getElem? (i := 26) rfl)))) (mvT hZ (hw _ (List.mem_of_getElem? (i := 26) rfl))) (mvT hZ (hw _ (List.mem_of_getElem? (i := 25) rfl))) (by decide) (backOf (W := 0) (rm_alf l Z a0 hw [] b131 (2 : Int64) T242.heap n0 (Nat.le_trans Z0 (Nat.le_trans (Nat.le_trans (Nat.le_trans (Nat.le_trans (Nat.le_trans (Nat.le_trans (Nat.le_trans (Nat.le_refl _) E121.1) R128_0.1) E131.1) R138_0.1) R200_0.1) R239_0.1) R242_0.1)) R242_2) hZ (hw _ (List.mem_of_getElem? (i := 27) rfl)) (hw _ (List.mem_of_getElem? (i := 3) rfl)) (by decide) (by decide)) q248a q248c (g := (mkF m 107 #[iv i0, iv i1, iv i2, iv (1 : Int32), iv (2 : Int32), iv mg, rv b121, rv b131, .unset] [(.ref b131)])) rfl (by rw [hml]; rfl) (Steps.refl _) (argsL := []) (rest := []) (lenOf pd5 rfl) rfl (by show 2 * 0 + _ ≤ _; exact Nat.le_of_eq rfl) (hb hby at_107) (fun _ _ => ⟨rfl, e245, (by decide : 4 + 0 ≤ _), (by decide : 12 + 0 ≤ _)⟩)
      dsimp only [Pt.U, Pt.locs, Pt.cells, Pt.slots] at X248 l248 y248 z248 st248 hQ248
      subst l248 y248 z248
      obtain ⟨rfl, N248, e248⟩ := hQ248
      have M248 := Fr.app M245 N248
      have g249 : Goes p e below S0 (T248.setTop (mkF m 110 #[iv i0, iv i1, iv i2, iv (1 : Int32), iv (2 : Int32), iv mg, rv b121, rv b131, .unset] [(.int (f_alf  (2 : Int64)))])) := fun t k => g247 t (st248.trans k)
      have g250 : Goes p e below S0 (T248.setTop (mkF m 132 #[iv i0, iv i1, iv i2, iv (1 : Int32), iv (2 : Int32), iv mg, rv b121, rv b131, iv (1 : Int32)] [(.int mg)])) := fun t k => g249 t (by
        refine XS.iload X248.here hx rfl (hb hby at_110) rfl ?_
        show Go p e below t T248 m 112 #[iv i0, iv i1, iv i2, iv (1 : Int32), iv (2 : Int32), iv mg, rv b121, rv b131, .unset] [(.int (2 : Int32)), (.int (f_alf  (2 : Int64)))]
        refine XS.ifYes X248.here hx rfl (pc0 := 112) (pc' := 119) rfl (hb hby at_112) rfl (XT.i0_ne_t (by decide)) (by decide) (by decide) ?_
        show Go p e below t T248 m 119 #[iv i0, iv i1, iv i2, iv (1 : Int32), iv (2 : Int32), iv mg, rv b121, rv b131, .unset] [(.int (f_alf  (2 : Int64)))]
        refine XT.iconstV X248.here hx rfl (0 : Int32) (hb hby at_119) (by decide) ?_
        show Go p e below t T248 m 120 #[iv i0, iv i1, iv i2, iv (1 : Int32), iv (2 : Int32), iv mg, rv b121, rv b131, .unset] [(.int (0 : Int32)), (.int (f_alf  (2 : Int64)))]
        refine XS.icmpNo X248.here hx rfl (hb hby at_120) rfl (XT.ii_ne_f (by decide)) ?_
        show Go p e below t T248 m 123 #[iv i0, iv i1, iv i2, iv (1 : Int32), iv (2 : Int32), iv mg, rv b121, rv b131, .unset] []
        refine XT.iconstV X248.here hx rfl (1 : Int32) (hb hby at_123) (by decide) ?_
        show Go p e below t T248 m 124 #[iv i0, iv i1, iv i2, iv (1 : Int32), iv (2 : Int32), iv mg, rv b121, rv b131, .unset] [(.int (1 : Int32))]
        refine XS.goto X248.here hx rfl (pc0 := 124) (pc' := 128) rfl (hb hby at_124) (by decide) (by decide) ?_
        show Go p e below t T248 m 128 #[iv i0, iv i1, iv i2, iv (1 : Int32), iv (2 : Int32), iv mg, rv b121, rv b131, .unset] [(.int (1 : Int32))]
        refine XS.istore X248.here hx rfl (hb hby at_128) rfl (l' := #[iv i0, iv i1, iv i2, iv (1 : Int32), iv (2 : Int32), iv mg, rv b121, rv b131, iv (1 : Int32)]) rfl ?_
        show Go p e below t T248 m 130 #[iv i0, iv i1, iv i2, iv (1 : Int32), iv (2 : Int32), iv mg, rv b121, rv b131, iv (1 : Int32)] []
        refine XS.iload X248.here hx rfl (hb hby at_130) rfl ?_
        show Go p e below t T248 m 132 #[iv i0, iv i1, iv i2, iv (1 : Int32), iv (2 : Int32), iv mg, rv b121, rv b131, iv (1 : Int32)] [(.int mg)]
        exact k)
      by_cases h251 : mg = 0
      · skip
        have g252 : Goes p e below S0 (T248.setTop (mkF m 176 #[iv i0, iv i1, iv i2, iv (1 : Int32), iv (2 : Int32), iv mg, rv b121, rv b131, iv (1 : Int32)] [(.int (1 : Int32))])) := fun t k => g250 t (by
          refine XS.ifYes X248.here hx rfl (pc0 := 132) (pc' := 174) rfl (hb hby at_132) rfl (XT.i0_eq_t h251) (by decide) (by decide) ?_
          show Go p e below t T248 m 174 #[iv i0, iv i1, iv i2, iv (1 : Int32), iv (2 : Int32), iv mg, rv b121, rv b131, iv (1 : Int32)] []
          refine XS.iload X248.here hx rfl (hb hby at_174) rfl ?_
          show Go p e below t T248 m 176 #[iv i0, iv i1, iv i2, iv (1 : Int32), iv (2 : Int32), iv mg, rv b121, rv b131, iv (1 : Int32)] [(.int (1 : Int32))]
          exact k)
        obtain ⟨fs, hr, hrun, hended, hW, hsame⟩ := X248.leave (v := some (.int (1 : Int32))) (fun h => by rw [Bd.returns] at h; cases h)
        refine ⟨_, _, g252 _ (retN X248 hx (t := .boolean) Bd.returns (by simp) (hb hby at_176) hr), hrun, hended, _, _, rfl, ?_, ⟨_, rfl⟩, hW, hsame.mono (by decide) (by decide)⟩
        show Q_law Z i0 i1 i2 sz h0 n0 _ T248.heap _
        rw [e248]
        exact ⟨rfl, M248⟩
      · skip
        have g253 : Goes p e below S0 (T248.setTop (mkF m 139 #[iv i0, iv i1, iv i2, iv (1 : Int32), iv (2 : Int32), iv mg, rv b121, rv b131, iv (1 : Int32)] [(.ref b131), (.ref b121)])) := fun t k => g250 t (by
          refine XS.ifNo X248.here hx rfl (hb hby at_132) rfl (XT.i0_eq_f h251) ?_
          show Go p e below t T248 m 135 #[iv i0, iv i1, iv i2, iv (1 : Int32), iv (2 : Int32), iv mg, rv b121, rv b131, iv (1 : Int32)] []
          refine XS.aload X248.here hx rfl (hb hby at_135) rfl rfl ?_
          show Go p e below t T248 m 137 #[iv i0, iv i1, iv i2, iv (1 : Int32), iv (2 : Int32), iv mg, rv b121, rv b131, iv (1 : Int32)] [(.ref b121)]
          refine XS.aload X248.here hx rfl (hb hby at_137) rfl rfl ?_
          show Go p e below t T248 m 139 #[iv i0, iv i1, iv i2, iv (1 : Int32), iv (2 : Int32), iv mg, rv b121, rv b131, iv (1 : Int32)] [(.ref b131), (.ref b121)]
          exact k)
        obtain ⟨cq254, kq254, q254a, q254b, q254c⟩ := isOf hZ e248 ((R200_1.keep R239_0).keep R242_0)
        obtain ⟨_, _, ⟨T254, L254, k254, n254⟩, -, X254, ⟨Lc254, hQ254, l254, y254, z254⟩, st254⟩ := X248.virtualBack hx (y := (⟨"org/volder/cli/Census", "add", "(Lorg/volder/cli/Census;)V"⟩ : MethodName)) (z := (⟨"org/volder/cli/Census", "add", "(Lorg/volder/cli/Census;)V"⟩ : MethodName)) hown (mvT hZ (hw _ (List.mem_of_getElem? (i := 35) rfl))) (mvT hZ (hw _ (List.mem_of_getElem? (i := 36) rfl))) (notFace_of_selects (args := #[]) (mvT hZ (hw _ (List.mem_of_getElem? (i := 38) rfl)))) (mvT hZ (hw _ (List.mem_of_getElem? (i := 38) rfl))) (mvT hZ (hw _ (List.mem_of_getElem? (i := 37) rfl))) (by decide) (backOf (W := 0) (rm_cadd l Z a0 hw [] b121 b131 (1 : Int64) (2 : Int64) sz cm_128 cm_138 T242.heap n0 (Nat.le_trans Z0 (Nat.le_trans (Nat.le_trans (Nat.le_trans (Nat.le_trans (Nat.le_trans (Nat.le_trans (Nat.le_trans (Nat.le_refl _) E121.1) R128_0.1) E131.1) R138_0.1) R200_0.1) R239_0.1) R242_0.1)) ((R200_1.keep R239_0).keep R242_0) ((R200_2.keep R239_0 (ninS (Nat.ne_of_lt (Nat.lt_of_lt_of_le R128_2.lt (Nat.le_of_eq gb131.symm))) nin0)).keep R242_0 (ninS (Nat.ne_of_lt (Nat.lt_of_lt_of_le R128_2.lt (Nat.le_of_eq gb131.symm))) nin0)) ((R200_3.keep R239_0 (ninS (Nat.ne_of_lt (Nat.lt_of_lt_of_le R128_2.lt (Nat.le_of_eq gb131.symm))) nin0)).keep R242_0 (ninS (Nat.ne_of_lt (Nat.lt_of_lt_of_le R128_2.lt (Nat.le_of_eq gb131.symm))) nin0)) ((R200_4.keep R239_0 (ninS (Nat.ne_of_lt (Nat.lt_of_lt_of_le R128_2.lt (Nat.le_of_eq gb131.symm))) nin0)).keep R242_0 (ninS (Nat.ne_of_lt (Nat.lt_of_lt_of_le R128_2.lt (Nat.le_of_eq gb131.symm))) nin0)) ((R200_5.keep R239_0 (ninS (Nat.ne_of_lt (Nat.lt_of_lt_of_le R128_2.lt (Nat.le_of_eq gb131.symm))) nin0)).keep R242_0 (ninS (Nat.ne_of_lt (Nat.lt_of_lt_of_le R128_2.lt (Nat.le_of_eq gb131.symm))) nin0)) ng121 (Nat.ne_of_lt (Nat.lt_of_lt_of_le R128_2.lt (Nat.le_of_eq gb131.symm))) (Ne.symm (Nat.ne_of_lt (Nat.lt_of_lt_of_le P1.lt (Nat.le_of_eq gb121.symm)))) (Nat.ne_of_lt (Nat.lt_of_lt_of_le A121.lt R128_1)) (Nat.ne_of_lt (Nat.lt_of_lt_of_le (R128_2.ext E131).lt R138_1)) R242_2 R242_3 R242_4 R242_5 (((((R128_7.ext E131).keep R138_0).keep R200_0).keep R239_0).keep R242_0) (((((R128_8.ext E131).keep R138_0 (ninS (Nat.ne_of_lt (Nat.lt_of_lt_of_le R128_7.lt (Nat.le_of_eq gb131.symm))) nin0)).keep R200_0 (ninS (Ne.symm (Nat.ne_of_lt (Nat.lt_of_lt_of_le A121.lt R128_1))) nin0)).keep R239_0 (ninS (Nat.ne_of_lt (Nat.lt_of_lt_of_le R128_7.lt (Nat.le_of_eq gb131.symm))) nin0)).keep R242_0 (ninS (Nat.ne_of_lt (Nat.lt_of_lt_of_le R128_7.lt (Nat.le_of_eq gb131.symm))) nin0)) (((((R128_9.ext E131).keep R138_0 (ninS (Nat.ne_of_lt (Nat.lt_of_lt_of_le R128_7.lt (Nat.le_of_eq gb131.symm))) nin0)).keep R200_0 (ninS (Ne.symm (Nat.ne_of_lt (Nat.lt_of_lt_of_le A121.lt R128_1))) nin0)).keep R239_0 (ninS (Nat.ne_of_lt (Nat.lt_of_lt_of_le R128_7.lt (Nat.le_of_eq gb131.symm))) nin0)).keep R242_0 (ninS (Nat.ne_of_lt (Nat.lt_of_lt_of_le R128_7.lt (Nat.le_of_eq gb131.symm))) nin0)) (((R138_8.keep R200_0 (ninS (Ne.symm (Nat.ne_of_lt (Nat.lt_of_lt_of_le (R128_2.ext E131).lt R138_1))) nin0)).keep R239_0 (ninS (Ne.symm (Nat.ne_of_lt (Nat.lt_of_lt_of_le A131.lt R138_1))) nin0)).keep R242_0 (ninS (Ne.symm (Nat.ne_of_lt (Nat.lt_of_lt_of_le A131.lt R138_1))) nin0)) (((R138_9.keep R200_0 (ninS (Ne.symm (Nat.ne_of_lt (Nat.lt_of_lt_of_le (R128_2.ext E131).lt R138_1))) nin0)).keep R239_0 (ninS (Ne.symm (Nat.ne_of_lt (Nat.lt_of_lt_of_le A131.lt R138_1))) nin0)).keep R242_0 (ninS (Ne.symm (Nat.ne_of_lt (Nat.lt_of_lt_of_le A131.lt R138_1))) nin0)) (((((((P1.ext E121).keep R128_0).ext E131).keep R138_0).keep R200_0).keep R239_0).keep R242_0) (((((((P2.ext E121).keep R128_0 (ninS (Nat.ne_of_lt (Nat.lt_of_lt_of_le P1.lt (Nat.le_of_eq gb121.symm))) nin0)).ext E131).keep R138_0 (ninS (Nat.ne_of_lt (Nat.lt_of_lt_of_le ((P1.ext E121).keep R128_0).lt (Nat.le_of_eq gb131.symm))) nin0)).keep R200_0 (ninS (Nat.ne_of_lt (Nat.lt_of_lt_of_le P1.lt (Nat.le_of_eq gb121.symm))) nin0)).keep R239_0 (ninS (Nat.ne_of_lt (Nat.lt_of_lt_of_le ((P1.ext E121).keep R128_0).lt (Nat.le_of_eq gb131.symm))) nin0)).keep R242_0 (ninS (Nat.ne_of_lt (Nat.lt_of_lt_of_le ((P1.ext E121).keep R128_0).lt (Nat.le_of_eq gb131.symm))) nin0)) (((((((P3.ext E121).keep R128_0 (ninS (Nat.ne_of_lt (Nat.lt_of_lt_of_le P1.lt (Nat.le_of_eq gb121.symm))) nin0)).ext E131).keep R138_0 (ninS (Nat.ne_of_lt (Nat.lt_of_lt_of_le ((P1.ext E121).keep R128_0).lt (Nat.le_of_eq gb131.symm))) nin0)).keep R200_0 (ninS (Nat.ne_of_lt (Nat.lt_of_lt_of_le P1.lt (Nat.le_of_eq gb121.symm))) nin0)).keep R239_0 (ninS (Nat.ne_of_lt (Nat.lt_of_lt_of_le ((P1.ext E121).keep R128_0).lt (Nat.le_of_eq gb131.symm))) nin0)).keep R242_0 (ninS (Nat.ne_of_lt (Nat.lt_of_lt_of_le ((P1.ext E121).keep R128_0).lt (Nat.le_of_eq gb131.symm))) nin0))) hZ (hw _ (List.mem_of_getElem? (i := 39) rfl)) (hw _ (List.mem_of_getElem? (i := 3) rfl)) (by decide) (by decide)) q254a q254c (g := (mkF m 139 #[iv i0, iv i1, iv i2, iv (1 : Int32), iv (2 : Int32), iv mg, rv b121, rv b131, iv (1 : Int32)] [(.ref b131), (.ref b121)])) rfl (by rw [hml]; rfl) (Steps.refl _) (argsL := [(.ref b131)]) (rest := []) (lenOf pd6 rfl) rfl (by show 2 * 0 + _ ≤ _; exact Nat.le_of_eq rfl) (hb hby at_139) (fun _ _ => ⟨rfl, e248, (by decide : 4 + 0 ≤ _), (by decide : 12 + 0 ≤ _)⟩)
        dsimp only [Pt.U, Pt.locs, Pt.cells, Pt.slots] at X254 l254 y254 z254 st254 hQ254
        subst l254 y254 z254
        obtain ⟨rfl, N254, R254_0, R254_1, R254_2⟩ := hQ254
        have M254 := Fr.app M248 N254
        have g255 : Goes p e below S0 (T254.setTop (mkF m 142 #[iv i0, iv i1, iv i2, iv (1 : Int32), iv (2 : Int32), iv mg, rv b121, rv b131, iv (1 : Int32)] [])) := fun t k => g253 t (st254.trans k)
        have g256 : Goes p e below S0 (T254.setTop (mkF m 149 #[iv i0, iv i1, iv i2, iv (1 : Int32), iv (2 : Int32), iv mg, rv b121, rv b131, iv (1 : Int32)] [(.ref b121)])) := fun t k => g255 t (by
          refine XS.iload X254.here hx rfl (hb hby at_142) rfl ?_
          show Go p e below t T254 m 144 #[iv i0, iv i1, iv i2, iv (1 : Int32), iv (2 : Int32), iv mg, rv b121, rv b131, iv (1 : Int32)] [(.int (1 : Int32))]
          refine XS.ifNo X254.here hx rfl (hb hby at_144) rfl (XT.i0_eq_f (by decide)) ?_
          show Go p e below t T254 m 147 #[iv i0, iv i1, iv i2, iv (1 : Int32), iv (2 : Int32), iv mg, rv b121, rv b131, iv (1 : Int32)] []
          refine XS.aload X254.here hx rfl (hb hby at_147) rfl rfl ?_
          show Go p e below t T254 m 149 #[iv i0, iv i1, iv i2, iv (1 : Int32), iv (2 : Int32), iv mg, rv b121, rv b131, iv (1 : Int32)] [(.ref b121)]
          exact k)
        obtain ⟨cq257, kq257, q257a, q257b, q257c⟩ := isOf hZ rfl R254_1
        obtain ⟨_, _, ⟨T257, L257, k257, n257⟩, -, X257, ⟨Lc257, hQ257, l257, y257, z257⟩, st257⟩ := X254.virtualBack hx (y := (⟨"org/volder/cli/Census", "allFaithful", "()Z"⟩ : MethodName)) (z := (⟨"org/volder/cli/Census", "allFaithful", "()Z"⟩ : MethodName)) hown (mvT hZ (hw _ (List.mem_of_getElem? (i := 23) rfl))) (mvT hZ (hw _ (List.mem_of_getElem? (i := 24) rfl))) (notFace_of_selects (args := #[]) (mvT hZ (hw _ (List.mem_of_getElem? (i := 26) rfl)))) (mvT hZ (hw _ (List.mem_of_getElem? (i := 26) rfl))) (mvT hZ (hw _ (List.mem_of_getElem? (i := 25) rfl))) (by decide) (backOf (W := 0) (rm_alf l Z a0 hw [] b121 ((1 : Int64) + (2 : Int64)) T254.heap n0 (Nat.le_trans Z0 (Nat.le_trans (Nat.le_trans (Nat.le_trans (Nat.le_trans (Nat.le_trans (Nat.le_trans (Nat.le_trans (Nat.le_trans (Nat.le_refl _) E121.1) R128_0.1) E131.1) R138_0.1) R200_0.1) R239_0.1) R242_0.1) R254_0.1)) R254_2) hZ (hw _ (List.mem_of_getElem? (i := 27) rfl)) (hw _ (List.mem_of_getElem? (i := 3) rfl)) (by decide) (by decide)) q257a q257c (g := (mkF m 149 #[iv i0, iv i1, iv i2, iv (1 : Int32), iv (2 : Int32), iv mg, rv b121, rv b131, iv (1 : Int32)] [(.ref b121)])) rfl (by rw [hml]; rfl) (Steps.refl _) (argsL := []) (rest := []) (lenOf pd5 rfl) rfl (by show 2 * 0 + _ ≤ _; exact Nat.le_of_eq rfl) (hb hby at_149) (fun _ _ => ⟨rfl, rfl, (by decide : 4 + 0 ≤ _), (by decide : 12 + 0 ≤ _)⟩)
        dsimp only [Pt.U, Pt.locs, Pt.cells, Pt.slots] at X257 l257 y257 z257 st257 hQ257
        subst l257 y257 z257
        obtain ⟨rfl, N257, e257⟩ := hQ257
        have M257 := Fr.app M254 N257
        have g258 : Goes p e below S0 (T257.setTop (mkF m 152 #[iv i0, iv i1, iv i2, iv (1 : Int32), iv (2 : Int32), iv mg, rv b121, rv b131, iv (1 : Int32)] [(.int (f_alf  ((1 : Int64) + (2 : Int64))))])) := fun t k => g256 t (st257.trans k)
        have g259 : Goes p e below S0 (T257.setTop (mkF m 176 #[iv i0, iv i1, iv i2, iv (1 : Int32), iv (2 : Int32), iv mg, rv b121, rv b131, iv (1 : Int32)] [(.int (1 : Int32))])) := fun t k => g258 t (by
          refine XS.iloadN X257.here hx rfl (hb hby at_152) rfl ?_
          show Go p e below t T257 m 153 #[iv i0, iv i1, iv i2, iv (1 : Int32), iv (2 : Int32), iv mg, rv b121, rv b131, iv (1 : Int32)] [(.int (1 : Int32)), (.int (f_alf  ((1 : Int64) + (2 : Int64))))]
          refine XS.iload X257.here hx rfl (hb hby at_153) rfl ?_
          show Go p e below t T257 m 155 #[iv i0, iv i1, iv i2, iv (1 : Int32), iv (2 : Int32), iv mg, rv b121, rv b131, iv (1 : Int32)] [(.int (2 : Int32)), (.int (1 : Int32)), (.int (f_alf  ((1 : Int64) + (2 : Int64))))]
          refine XS.iadd X257.here hx rfl (hb hby at_155) rfl ?_
          rw [show ((1 : Int32) + (2 : Int32)) = (3 : Int32) by decide]
          show Go p e below t T257 m 156 #[iv i0, iv i1, iv i2, iv (1 : Int32), iv (2 : Int32), iv mg, rv b121, rv b131, iv (1 : Int32)] [(.int (3 : Int32)), (.int (f_alf  ((1 : Int64) + (2 : Int64))))]
          refine XS.ifYes X257.here hx rfl (pc0 := 156) (pc' := 163) rfl (hb hby at_156) rfl (XT.i0_ne_t (by decide)) (by decide) (by decide) ?_
          show Go p e below t T257 m 163 #[iv i0, iv i1, iv i2, iv (1 : Int32), iv (2 : Int32), iv mg, rv b121, rv b131, iv (1 : Int32)] [(.int (f_alf  ((1 : Int64) + (2 : Int64))))]
          refine XT.iconstV X257.here hx rfl (0 : Int32) (hb hby at_163) (by decide) ?_
          show Go p e below t T257 m 164 #[iv i0, iv i1, iv i2, iv (1 : Int32), iv (2 : Int32), iv mg, rv b121, rv b131, iv (1 : Int32)] [(.int (0 : Int32)), (.int (f_alf  ((1 : Int64) + (2 : Int64))))]
          refine XS.icmpNo X257.here hx rfl (hb hby at_164) rfl (XT.ii_ne_f (by decide)) ?_
          show Go p e below t T257 m 167 #[iv i0, iv i1, iv i2, iv (1 : Int32), iv (2 : Int32), iv mg, rv b121, rv b131, iv (1 : Int32)] []
          refine XT.iconstV X257.here hx rfl (1 : Int32) (hb hby at_167) (by decide) ?_
          show Go p e below t T257 m 168 #[iv i0, iv i1, iv i2, iv (1 : Int32), iv (2 : Int32), iv mg, rv b121, rv b131, iv (1 : Int32)] [(.int (1 : Int32))]
          refine XS.goto X257.here hx rfl (pc0 := 168) (pc' := 172) rfl (hb hby at_168) (by decide) (by decide) ?_
          show Go p e below t T257 m 172 #[iv i0, iv i1, iv i2, iv (1 : Int32), iv (2 : Int32), iv mg, rv b121, rv b131, iv (1 : Int32)] [(.int (1 : Int32))]
          refine XS.istore X257.here hx rfl (hb hby at_172) rfl (l' := #[iv i0, iv i1, iv i2, iv (1 : Int32), iv (2 : Int32), iv mg, rv b121, rv b131, iv (1 : Int32)]) rfl ?_
          show Go p e below t T257 m 174 #[iv i0, iv i1, iv i2, iv (1 : Int32), iv (2 : Int32), iv mg, rv b121, rv b131, iv (1 : Int32)] []
          refine XS.iload X257.here hx rfl (hb hby at_174) rfl ?_
          show Go p e below t T257 m 176 #[iv i0, iv i1, iv i2, iv (1 : Int32), iv (2 : Int32), iv mg, rv b121, rv b131, iv (1 : Int32)] [(.int (1 : Int32))]
          exact k)
        obtain ⟨fs, hr, hrun, hended, hW, hsame⟩ := X257.leave (v := some (.int (1 : Int32))) (fun h => by rw [Bd.returns] at h; cases h)
        refine ⟨_, _, g259 _ (retN X257 hx (t := .boolean) Bd.returns (by simp) (hb hby at_176) hr), hrun, hended, _, _, rfl, ?_, ⟨_, rfl⟩, hW, hsame.mono (by decide) (by decide)⟩
        show Q_law Z i0 i1 i2 sz h0 n0 _ T257.heap _
        rw [e257]
        exact ⟨rfl, M257⟩
  · skip
    have g260 : Goes p e below S0 (T138.setTop (mkF m 53 #[iv i0, iv i1, iv i2, iv (2 : Int32), iv nb, iv mg, rv b121, rv b131, .unset] [(.ref b121)])) := fun t k => g140 t (by
      refine XS.iloadN X138.here hx rfl (hb hby at_46) rfl ?_
      show Go p e below t T138 m 47 #[iv i0, iv i1, iv i2, iv (2 : Int32), iv nb, iv mg, rv b121, rv b131, .unset] [(.int (2 : Int32))]
      refine XT.iconstV X138.here hx rfl (1 : Int32) (hb hby at_47) (by decide) ?_
      show Go p e below t T138 m 48 #[iv i0, iv i1, iv i2, iv (2 : Int32), iv nb, iv mg, rv b121, rv b131, .unset] [(.int (1 : Int32)), (.int (2 : Int32))]
      refine XS.icmpNo X138.here hx rfl (hb hby at_48) rfl (XT.ii_lt_f (by decide)) ?_
      show Go p e below t T138 m 51 #[iv i0, iv i1, iv i2, iv (2 : Int32), iv nb, iv mg, rv b121, rv b131, .unset] []
      refine XS.aload X138.here hx rfl (hb hby at_51) rfl rfl ?_
      show Go p e below t T138 m 53 #[iv i0, iv i1, iv i2, iv (2 : Int32), iv nb, iv mg, rv b121, rv b131, .unset] [(.ref b121)]
      exact k)
    obtain ⟨cq261, kq261, q261a, q261b, q261c⟩ := isOf hZ rfl ((R128_2.ext E131).keep R138_0)
    obtain ⟨_, _, ⟨T261, L261, k261, n261⟩, -, X261, ⟨Lc261, hQ261, l261, y261, z261⟩, st261⟩ := X138.virtualBack hx (y := (⟨"org/volder/cli/Census", "countUnfaithful", "()V"⟩ : MethodName)) (z := (⟨"org/volder/cli/Census", "countUnfaithful", "()V"⟩ : MethodName)) hown (mvT hZ (hw _ (List.mem_of_getElem? (i := 30) rfl))) (mvT hZ (hw _ (List.mem_of_getElem? (i := 31) rfl))) (notFace_of_selects (args := #[]) (mvT hZ (hw _ (List.mem_of_getElem? (i := 33) rfl)))) (mvT hZ (hw _ (List.mem_of_getElem? (i := 33) rfl))) (mvT hZ (hw _ (List.mem_of_getElem? (i := 32) rfl))) (by decide) (backOf (W := 0) (rm_cn0 l Z a0 hw [] b121 sz cm_128 T138.heap n0 (Nat.le_trans Z0 (Nat.le_trans (Nat.le_trans (Nat.le_trans (Nat.le_trans (Nat.le_refl _) E121.1) R128_0.1) E131.1) R138_0.1)) ((R128_2.ext E131).keep R138_0) ((R128_3.ext E131).keep R138_0 (ninS (Nat.ne_of_lt (Nat.lt_of_lt_of_le R128_2.lt (Nat.le_of_eq gb131.symm))) nin0)) ((R128_4.ext E131).keep R138_0 (ninS (Nat.ne_of_lt (Nat.lt_of_lt_of_le R128_2.lt (Nat.le_of_eq gb131.symm))) nin0)) ((R128_5.ext E131).keep R138_0 (ninS (Nat.ne_of_lt (Nat.lt_of_lt_of_le R128_2.lt (Nat.le_of_eq gb131.symm))) nin0)) ((R128_6.ext E131).keep R138_0 (ninS (Nat.ne_of_lt (Nat.lt_of_lt_of_le R128_2.lt (Nat.le_of_eq gb131.symm))) nin0)) ng121) hZ (hw _ (List.mem_of_getElem? (i := 34) rfl)) (hw _ (List.mem_of_getElem? (i := 3) rfl)) (by decide) (by decide)) q261a q261c (g := (mkF m 53 #[iv i0, iv i1, iv i2, iv (2 : Int32), iv nb, iv mg, rv b121, rv b131, .unset] [(.ref b121)])) rfl (by rw [hml]; rfl) (Steps.refl _) (argsL := []) (rest := []) (lenOf pd4 rfl) rfl (by show 2 * 0 + _ ≤ _; exact Nat.le_of_eq rfl) (hb hby at_53) (fun _ _ => ⟨rfl, rfl, (by decide : 4 + 0 ≤ _), (by decide : 12 + 0 ≤ _)⟩)
    dsimp only [Pt.U, Pt.locs, Pt.cells, Pt.slots] at X261 l261 y261 z261 st261 hQ261
    subst l261 y261 z261
    obtain ⟨rfl, N261, R261_0, R261_1, R261_2, R261_3, R261_4, R261_5⟩ := hQ261
    have M261 := Fr.app M138 N261
    have g262 : Goes p e below S0 (T261.setTop (mkF m 56 #[iv i0, iv i1, iv i2, iv (2 : Int32), iv nb, iv mg, rv b121, rv b131, .unset] [])) := fun t k => g260 t (st261.trans k)
    have g263 : Goes p e below S0 (T261.setTop (mkF m 63 #[iv i0, iv i1, iv i2, iv (2 : Int32), iv nb, iv mg, rv b121, rv b131, .unset] [(.ref b121)])) := fun t k => g262 t (by
      refine XS.iloadN X261.here hx rfl (hb hby at_56) rfl ?_
      show Go p e below t T261 m 57 #[iv i0, iv i1, iv i2, iv (2 : Int32), iv nb, iv mg, rv b121, rv b131, .unset] [(.int (2 : Int32))]
      refine XT.iconstV X261.here hx rfl (2 : Int32) (hb hby at_57) (by decide) ?_
      show Go p e below t T261 m 58 #[iv i0, iv i1, iv i2, iv (2 : Int32), iv nb, iv mg, rv b121, rv b131, .unset] [(.int (2 : Int32)), (.int (2 : Int32))]
      refine XS.icmpNo X261.here hx rfl (hb hby at_58) rfl (XT.ii_lt_f (by decide)) ?_
      show Go p e below t T261 m 61 #[iv i0, iv i1, iv i2, iv (2 : Int32), iv nb, iv mg, rv b121, rv b131, .unset] []
      refine XS.aload X261.here hx rfl (hb hby at_61) rfl rfl ?_
      show Go p e below t T261 m 63 #[iv i0, iv i1, iv i2, iv (2 : Int32), iv nb, iv mg, rv b121, rv b131, .unset] [(.ref b121)]
      exact k)
    obtain ⟨cq264, kq264, q264a, q264b, q264c⟩ := isOf hZ rfl R261_1
    obtain ⟨_, _, ⟨T264, L264, k264, n264⟩, -, X264, ⟨Lc264, hQ264, l264, y264, z264⟩, st264⟩ := X261.virtualBack hx (y := (⟨"org/volder/cli/Census", "countUnfaithful", "()V"⟩ : MethodName)) (z := (⟨"org/volder/cli/Census", "countUnfaithful", "()V"⟩ : MethodName)) hown (mvT hZ (hw _ (List.mem_of_getElem? (i := 30) rfl))) (mvT hZ (hw _ (List.mem_of_getElem? (i := 31) rfl))) (notFace_of_selects (args := #[]) (mvT hZ (hw _ (List.mem_of_getElem? (i := 33) rfl)))) (mvT hZ (hw _ (List.mem_of_getElem? (i := 33) rfl))) (mvT hZ (hw _ (List.mem_of_getElem? (i := 32) rfl))) (by decide) (backOf (W := 0) (rm_cn1 l Z a0 hw [] b121 sz cm_128 T261.heap n0 (Nat.le_trans Z0 (Nat.le_trans (Nat.le_trans (Nat.le_trans (Nat.le_trans (Nat.le_trans (Nat.le_refl _) E121.1) R128_0.1) E131.1) R138_0.1) R261_0.1)) R261_1 R261_2 R261_3 R261_4 R261_5 ng121) hZ (hw _ (List.mem_of_getElem? (i := 34) rfl)) (hw _ (List.mem_of_getElem? (i := 3) rfl)) (by decide) (by decide)) q264a q264c (g := (mkF m 63 #[iv i0, iv i1, iv i2, iv (2 : Int32), iv nb, iv mg, rv b121, rv b131, .unset] [(.ref b121)])) rfl (by rw [hml]; rfl) (Steps.refl _) (argsL := []) (rest := []) (lenOf pd4 rfl) rfl (by show 2 * 0 + _ ≤ _; exact Nat.le_of_eq rfl) (hb hby at_63) (fun _ _ => ⟨rfl, rfl, (by decide : 4 + 0 ≤ _), (by decide : 12 + 0 ≤ _)⟩)
    dsimp only [Pt.U, Pt.locs, Pt.cells, Pt.slots] at X264 l264 y264 z264 st264 hQ264
    subst l264 y264 z264
    obtain ⟨rfl, N264, R264_0, R264_1, R264_2, R264_3, R264_4, R264_5⟩ := hQ264
    have M264 := Fr.app M261 N264
    have g265 : Goes p e below S0 (T264.setTop (mkF m 66 #[iv i0, iv i1, iv i2, iv (2 : Int32), iv nb, iv mg, rv b121, rv b131, .unset] [])) := fun t k => g263 t (st264.trans k)
    rcases (hnb ▸ own_three i1 : nb = 0 ∨ nb = 1 ∨ nb = 2) with rfl | rfl | rfl
    · skip
      have g266 : Goes p e below S0 (T264.setTop (mkF m 90 #[iv i0, iv i1, iv i2, iv (2 : Int32), iv (0 : Int32), iv mg, rv b121, rv b131, .unset] [(.ref b121)])) := fun t k => g265 t (by
        refine XS.iload X264.here hx rfl (hb hby at_66) rfl ?_
        show Go p e below t T264 m 68 #[iv i0, iv i1, iv i2, iv (2 : Int32), iv (0 : Int32), iv mg, rv b121, rv b131, .unset] [(.int (0 : Int32))]
        refine XT.iconstV X264.here hx rfl (1 : Int32) (hb hby at_68) (by decide) ?_
        show Go p e below t T264 m 69 #[iv i0, iv i1, iv i2, iv (2 : Int32), iv (0 : Int32), iv mg, rv b121, rv b131, .unset] [(.int (1 : Int32)), (.int (0 : Int32))]
        refine XS.icmpYes X264.here hx rfl (pc0 := 69) (pc' := 77) rfl (hb hby at_69) rfl (XT.ii_lt_t (by decide)) (by decide) (by decide) ?_
        show Go p e below t T264 m 77 #[iv i0, iv i1, iv i2, iv (2 : Int32), iv (0 : Int32), iv mg, rv b121, rv b131, .unset] []
        refine XS.iload X264.here hx rfl (hb hby at_77) rfl ?_
        show Go p e below t T264 m 79 #[iv i0, iv i1, iv i2, iv (2 : Int32), iv (0 : Int32), iv mg, rv b121, rv b131, .unset] [(.int (0 : Int32))]
        refine XT.iconstV X264.here hx rfl (2 : Int32) (hb hby at_79) (by decide) ?_
        show Go p e below t T264 m 80 #[iv i0, iv i1, iv i2, iv (2 : Int32), iv (0 : Int32), iv mg, rv b121, rv b131, .unset] [(.int (2 : Int32)), (.int (0 : Int32))]
        refine XS.icmpYes X264.here hx rfl (pc0 := 80) (pc' := 88) rfl (hb hby at_80) rfl (XT.ii_lt_t (by decide)) (by decide) (by decide) ?_
        show Go p e below t T264 m 88 #[iv i0, iv i1, iv i2, iv (2 : Int32), iv (0 : Int32), iv mg, rv b121, rv b131, .unset] []
        refine XS.aload X264.here hx rfl (hb hby at_88) rfl rfl ?_
        show Go p e below t T264 m 90 #[iv i0, iv i1, iv i2, iv (2 : Int32), iv (0 : Int32), iv mg, rv b121, rv b131, .unset] [(.ref b121)]
        exact k)
      obtain ⟨cq267, kq267, q267a, q267b, q267c⟩ := isOf hZ rfl R264_1
      obtain ⟨_, _, ⟨T267, L267, k267, n267⟩, -, X267, ⟨Lc267, hQ267, l267, y267, z267⟩, st267⟩ := X264.virtualBack hx (y := (⟨"org/volder/cli/Census", "allFaithful", "()Z"⟩ : MethodName)) (z := (⟨"org/volder/cli/Census", "allFaithful", "()Z"⟩ : MethodName)) hown (mvT hZ (hw _ (List.mem_of_getElem? (i := 23) rfl))) (mvT hZ (hw _ (List.mem_of_getElem? (i := 24) rfl))) (notFace_of_selects (args := #[]) (mvT hZ (hw _ (List.mem_of_getElem? (i := 26) rfl)))) (mvT hZ (hw _ (List.mem_of_getElem? (i := 26) rfl))) (mvT hZ (hw _ (List.mem_of_getElem? (i := 25) rfl))) (by decide) (backOf (W := 0) (rm_alf l Z a0 hw [] b121 (2 : Int64) T264.heap n0 (Nat.le_trans Z0 (Nat.le_trans (Nat.le_trans (Nat.le_trans (Nat.le_trans (Nat.le_trans (Nat.le_trans (Nat.le_refl _) E121.1) R128_0.1) E131.1) R138_0.1) R261_0.1) R264_0.1)) R264_2) hZ (hw _ (List.mem_of_getElem? (i := 27) rfl)) (hw _ (List.mem_of_getElem? (i := 3) rfl)) (by decide) (by decide)) q267a q267c (g := (mkF m 90 #[iv i0, iv i1, iv i2, iv (2 : Int32), iv (0 : Int32), iv mg, rv b121, rv b131, .unset] [(.ref b121)])) rfl (by rw [hml]; rfl) (Steps.refl _) (argsL := []) (rest := []) (lenOf pd5 rfl) rfl (by show 2 * 0 + _ ≤ _; exact Nat.le_of_eq rfl) (hb hby at_90) (fun _ _ => ⟨rfl, rfl, (by decide : 4 + 0 ≤ _), (by decide : 12 + 0 ≤ _)⟩)
      dsimp only [Pt.U, Pt.locs, Pt.cells, Pt.slots] at X267 l267 y267 z267 st267 hQ267
      subst l267 y267 z267
      obtain ⟨rfl, N267, e267⟩ := hQ267
      have M267 := Fr.app M264 N267
      have g268 : Goes p e below S0 (T267.setTop (mkF m 93 #[iv i0, iv i1, iv i2, iv (2 : Int32), iv (0 : Int32), iv mg, rv b121, rv b131, .unset] [(.int (f_alf  (2 : Int64)))])) := fun t k => g266 t (st267.trans k)
      have g269 : Goes p e below S0 (T267.setTop (mkF m 107 #[iv i0, iv i1, iv i2, iv (2 : Int32), iv (0 : Int32), iv mg, rv b121, rv b131, .unset] [(.ref b131)])) := fun t k => g268 t (by
        refine XS.iloadN X267.here hx rfl (hb hby at_93) rfl ?_
        show Go p e below t T267 m 94 #[iv i0, iv i1, iv i2, iv (2 : Int32), iv (0 : Int32), iv mg, rv b121, rv b131, .unset] [(.int (2 : Int32)), (.int (f_alf  (2 : Int64)))]
        refine XS.ifYes X267.here hx rfl (pc0 := 94) (pc' := 101) rfl (hb hby at_94) rfl (XT.i0_ne_t (by decide)) (by decide) (by decide) ?_
        show Go p e below t T267 m 101 #[iv i0, iv i1, iv i2, iv (2 : Int32), iv (0 : Int32), iv mg, rv b121, rv b131, .unset] [(.int (f_alf  (2 : Int64)))]
        refine XT.iconstV X267.here hx rfl (0 : Int32) (hb hby at_101) (by decide) ?_
        show Go p e below t T267 m 102 #[iv i0, iv i1, iv i2, iv (2 : Int32), iv (0 : Int32), iv mg, rv b121, rv b131, .unset] [(.int (0 : Int32)), (.int (f_alf  (2 : Int64)))]
        refine XS.icmpNo X267.here hx rfl (hb hby at_102) rfl (XT.ii_ne_f (by decide)) ?_
        show Go p e below t T267 m 105 #[iv i0, iv i1, iv i2, iv (2 : Int32), iv (0 : Int32), iv mg, rv b121, rv b131, .unset] []
        refine XS.aload X267.here hx rfl (hb hby at_105) rfl rfl ?_
        show Go p e below t T267 m 107 #[iv i0, iv i1, iv i2, iv (2 : Int32), iv (0 : Int32), iv mg, rv b121, rv b131, .unset] [(.ref b131)]
        exact k)
      obtain ⟨cq270, kq270, q270a, q270b, q270c⟩ := isOf hZ e267 ((R138_2.keep R261_0).keep R264_0)
      obtain ⟨_, _, ⟨T270, L270, k270, n270⟩, -, X270, ⟨Lc270, hQ270, l270, y270, z270⟩, st270⟩ := X267.virtualBack hx (y := (⟨"org/volder/cli/Census", "allFaithful", "()Z"⟩ : MethodName)) (z := (⟨"org/volder/cli/Census", "allFaithful", "()Z"⟩ : MethodName)) hown (mvT hZ (hw _ (List.mem_of_getElem? (i := 23) rfl))) (mvT hZ (hw _ (List.mem_of_getElem? (i := 24) rfl))) (notFace_of_selects (args := #[]) (mvT hZ (hw _ (List.mem_of_getElem? (i := 26) rfl)))) (mvT hZ (hw _ (List.mem_of_getElem? (i := 26) rfl))) (mvT hZ (hw _ (List.mem_of_getElem? (i := 25) rfl))) (by decide) (backOf (W := 0) (rm_alf l Z a0 hw [] b131 (0 : Int64) T264.heap n0 (Nat.le_trans Z0 (Nat.le_trans (Nat.le_trans (Nat.le_trans (Nat.le_trans (Nat.le_trans (Nat.le_trans (Nat.le_refl _) E121.1) R128_0.1) E131.1) R138_0.1) R261_0.1) R264_0.1)) ((R138_3.keep R261_0 (ninS (Ne.symm (Nat.ne_of_lt (Nat.lt_of_lt_of_le R128_2.lt (Nat.le_of_eq gb131.symm)))) nin0)).keep R264_0 (ninS (Ne.symm (Nat.ne_of_lt (Nat.lt_of_lt_of_le R128_2.lt (Nat.le_of_eq gb131.symm)))) nin0))) hZ (hw _ (List.mem_of_getElem? (i := 27) rfl)) (hw _ (List.mem_of_getElem? (i := 3) rfl)) (by decide) (by decide)) q270a q270c (g := (mkF m 107 #[iv i0, iv i1, iv i2, iv (2 : Int32), iv (0 : Int32), iv mg, rv b121, rv b131, .unset] [(.ref b131)])) rfl (by rw [hml]; rfl) (Steps.refl _) (argsL := []) (rest := []) (lenOf pd5 rfl) rfl (by show 2 * 0 + _ ≤ _; exact Nat.le_of_eq rfl) (hb hby at_107) (fun _ _ => ⟨rfl, e267, (by decide : 4 + 0 ≤ _), (by decide : 12 + 0 ≤ _)⟩)
      dsimp only [Pt.U, Pt.locs, Pt.cells, Pt.slots] at X270 l270 y270 z270 st270 hQ270
      subst l270 y270 z270
      obtain ⟨rfl, N270, e270⟩ := hQ270
      have M270 := Fr.app M267 N270
      have g271 : Goes p e below S0 (T270.setTop (mkF m 110 #[iv i0, iv i1, iv i2, iv (2 : Int32), iv (0 : Int32), iv mg, rv b121, rv b131, .unset] [(.int (f_alf  (0 : Int64)))])) := fun t k => g269 t (st270.trans k)
      have g272 : Goes p e below S0 (T270.setTop (mkF m 132 #[iv i0, iv i1, iv i2, iv (2 : Int32), iv (0 : Int32), iv mg, rv b121, rv b131, iv (1 : Int32)] [(.int mg)])) := fun t k => g271 t (by
        refine XS.iload X270.here hx rfl (hb hby at_110) rfl ?_
        show Go p e below t T270 m 112 #[iv i0, iv i1, iv i2, iv (2 : Int32), iv (0 : Int32), iv mg, rv b121, rv b131, .unset] [(.int (0 : Int32)), (.int (f_alf  (0 : Int64)))]
        refine XS.ifNo X270.here hx rfl (hb hby at_112) rfl (XT.i0_ne_f (by decide)) ?_
        show Go p e below t T270 m 115 #[iv i0, iv i1, iv i2, iv (2 : Int32), iv (0 : Int32), iv mg, rv b121, rv b131, .unset] [(.int (f_alf  (0 : Int64)))]
        refine XT.iconstV X270.here hx rfl (1 : Int32) (hb hby at_115) (by decide) ?_
        show Go p e below t T270 m 116 #[iv i0, iv i1, iv i2, iv (2 : Int32), iv (0 : Int32), iv mg, rv b121, rv b131, .unset] [(.int (1 : Int32)), (.int (f_alf  (0 : Int64)))]
        refine XS.goto X270.here hx rfl (pc0 := 116) (pc' := 120) rfl (hb hby at_116) (by decide) (by decide) ?_
        show Go p e below t T270 m 120 #[iv i0, iv i1, iv i2, iv (2 : Int32), iv (0 : Int32), iv mg, rv b121, rv b131, .unset] [(.int (1 : Int32)), (.int (f_alf  (0 : Int64)))]
        refine XS.icmpNo X270.here hx rfl (hb hby at_120) rfl (XT.ii_ne_f (by decide)) ?_
        show Go p e below t T270 m 123 #[iv i0, iv i1, iv i2, iv (2 : Int32), iv (0 : Int32), iv mg, rv b121, rv b131, .unset] []
        refine XT.iconstV X270.here hx rfl (1 : Int32) (hb hby at_123) (by decide) ?_
        show Go p e below t T270 m 124 #[iv i0, iv i1, iv i2, iv (2 : Int32), iv (0 : Int32), iv mg, rv b121, rv b131, .unset] [(.int (1 : Int32))]
        refine XS.goto X270.here hx rfl (pc0 := 124) (pc' := 128) rfl (hb hby at_124) (by decide) (by decide) ?_
        show Go p e below t T270 m 128 #[iv i0, iv i1, iv i2, iv (2 : Int32), iv (0 : Int32), iv mg, rv b121, rv b131, .unset] [(.int (1 : Int32))]
        refine XS.istore X270.here hx rfl (hb hby at_128) rfl (l' := #[iv i0, iv i1, iv i2, iv (2 : Int32), iv (0 : Int32), iv mg, rv b121, rv b131, iv (1 : Int32)]) rfl ?_
        show Go p e below t T270 m 130 #[iv i0, iv i1, iv i2, iv (2 : Int32), iv (0 : Int32), iv mg, rv b121, rv b131, iv (1 : Int32)] []
        refine XS.iload X270.here hx rfl (hb hby at_130) rfl ?_
        show Go p e below t T270 m 132 #[iv i0, iv i1, iv i2, iv (2 : Int32), iv (0 : Int32), iv mg, rv b121, rv b131, iv (1 : Int32)] [(.int mg)]
        exact k)
      by_cases h273 : mg = 0
      · skip
        have g274 : Goes p e below S0 (T270.setTop (mkF m 176 #[iv i0, iv i1, iv i2, iv (2 : Int32), iv (0 : Int32), iv mg, rv b121, rv b131, iv (1 : Int32)] [(.int (1 : Int32))])) := fun t k => g272 t (by
          refine XS.ifYes X270.here hx rfl (pc0 := 132) (pc' := 174) rfl (hb hby at_132) rfl (XT.i0_eq_t h273) (by decide) (by decide) ?_
          show Go p e below t T270 m 174 #[iv i0, iv i1, iv i2, iv (2 : Int32), iv (0 : Int32), iv mg, rv b121, rv b131, iv (1 : Int32)] []
          refine XS.iload X270.here hx rfl (hb hby at_174) rfl ?_
          show Go p e below t T270 m 176 #[iv i0, iv i1, iv i2, iv (2 : Int32), iv (0 : Int32), iv mg, rv b121, rv b131, iv (1 : Int32)] [(.int (1 : Int32))]
          exact k)
        obtain ⟨fs, hr, hrun, hended, hW, hsame⟩ := X270.leave (v := some (.int (1 : Int32))) (fun h => by rw [Bd.returns] at h; cases h)
        refine ⟨_, _, g274 _ (retN X270 hx (t := .boolean) Bd.returns (by simp) (hb hby at_176) hr), hrun, hended, _, _, rfl, ?_, ⟨_, rfl⟩, hW, hsame.mono (by decide) (by decide)⟩
        show Q_law Z i0 i1 i2 sz h0 n0 _ T270.heap _
        rw [e270]
        exact ⟨rfl, M270⟩
      · skip
        have g275 : Goes p e below S0 (T270.setTop (mkF m 139 #[iv i0, iv i1, iv i2, iv (2 : Int32), iv (0 : Int32), iv mg, rv b121, rv b131, iv (1 : Int32)] [(.ref b131), (.ref b121)])) := fun t k => g272 t (by
          refine XS.ifNo X270.here hx rfl (hb hby at_132) rfl (XT.i0_eq_f h273) ?_
          show Go p e below t T270 m 135 #[iv i0, iv i1, iv i2, iv (2 : Int32), iv (0 : Int32), iv mg, rv b121, rv b131, iv (1 : Int32)] []
          refine XS.aload X270.here hx rfl (hb hby at_135) rfl rfl ?_
          show Go p e below t T270 m 137 #[iv i0, iv i1, iv i2, iv (2 : Int32), iv (0 : Int32), iv mg, rv b121, rv b131, iv (1 : Int32)] [(.ref b121)]
          refine XS.aload X270.here hx rfl (hb hby at_137) rfl rfl ?_
          show Go p e below t T270 m 139 #[iv i0, iv i1, iv i2, iv (2 : Int32), iv (0 : Int32), iv mg, rv b121, rv b131, iv (1 : Int32)] [(.ref b131), (.ref b121)]
          exact k)
        obtain ⟨cq276, kq276, q276a, q276b, q276c⟩ := isOf hZ e270 R264_1
        obtain ⟨_, _, ⟨T276, L276, k276, n276⟩, -, X276, ⟨Lc276, hQ276, l276, y276, z276⟩, st276⟩ := X270.virtualBack hx (y := (⟨"org/volder/cli/Census", "add", "(Lorg/volder/cli/Census;)V"⟩ : MethodName)) (z := (⟨"org/volder/cli/Census", "add", "(Lorg/volder/cli/Census;)V"⟩ : MethodName)) hown (mvT hZ (hw _ (List.mem_of_getElem? (i := 35) rfl))) (mvT hZ (hw _ (List.mem_of_getElem? (i := 36) rfl))) (notFace_of_selects (args := #[]) (mvT hZ (hw _ (List.mem_of_getElem? (i := 38) rfl)))) (mvT hZ (hw _ (List.mem_of_getElem? (i := 38) rfl))) (mvT hZ (hw _ (List.mem_of_getElem? (i := 37) rfl))) (by decide) (backOf (W := 0) (rm_cadd l Z a0 hw [] b121 b131 (2 : Int64) (0 : Int64) sz cm_128 cm_138 T264.heap n0 (Nat.le_trans Z0 (Nat.le_trans (Nat.le_trans (Nat.le_trans (Nat.le_trans (Nat.le_trans (Nat.le_trans (Nat.le_refl _) E121.1) R128_0.1) E131.1) R138_0.1) R261_0.1) R264_0.1)) R264_1 R264_2 R264_3 R264_4 R264_5 ng121 (Nat.ne_of_lt (Nat.lt_of_lt_of_le R128_2.lt (Nat.le_of_eq gb131.symm))) (Ne.symm (Nat.ne_of_lt (Nat.lt_of_lt_of_le P1.lt (Nat.le_of_eq gb121.symm)))) (Nat.ne_of_lt (Nat.lt_of_lt_of_le A121.lt R128_1)) (Nat.ne_of_lt (Nat.lt_of_lt_of_le (R128_2.ext E131).lt R138_1)) ((R138_3.keep R261_0 (ninS (Ne.symm (Nat.ne_of_lt (Nat.lt_of_lt_of_le R128_2.lt (Nat.le_of_eq gb131.symm)))) nin0)).keep R264_0 (ninS (Ne.symm (Nat.ne_of_lt (Nat.lt_of_lt_of_le R128_2.lt (Nat.le_of_eq gb131.symm)))) nin0)) ((R138_4.keep R261_0 (ninS (Ne.symm (Nat.ne_of_lt (Nat.lt_of_lt_of_le R128_2.lt (Nat.le_of_eq gb131.symm)))) nin0)).keep R264_0 (ninS (Ne.symm (Nat.ne_of_lt (Nat.lt_of_lt_of_le R128_2.lt (Nat.le_of_eq gb131.symm)))) nin0)) ((R138_5.keep R261_0 (ninS (Ne.symm (Nat.ne_of_lt (Nat.lt_of_lt_of_le R128_2.lt (Nat.le_of_eq gb131.symm)))) nin0)).keep R264_0 (ninS (Ne.symm (Nat.ne_of_lt (Nat.lt_of_lt_of_le R128_2.lt (Nat.le_of_eq gb131.symm)))) nin0)) ((R138_6.keep R261_0 (ninS (Ne.symm (Nat.ne_of_lt (Nat.lt_of_lt_of_le R128_2.lt (Nat.le_of_eq gb131.symm)))) nin0)).keep R264_0 (ninS (Ne.symm (Nat.ne_of_lt (Nat.lt_of_lt_of_le R128_2.lt (Nat.le_of_eq gb131.symm)))) nin0)) ((((R128_7.ext E131).keep R138_0).keep R261_0).keep R264_0) ((((R128_8.ext E131).keep R138_0 (ninS (Nat.ne_of_lt (Nat.lt_of_lt_of_le R128_7.lt (Nat.le_of_eq gb131.symm))) nin0)).keep R261_0 (ninS (Ne.symm (Nat.ne_of_lt (Nat.lt_of_lt_of_le A121.lt R128_1))) nin0)).keep R264_0 (ninS (Ne.symm (Nat.ne_of_lt (Nat.lt_of_lt_of_le A121.lt R128_1))) nin0)) ((((R128_9.ext E131).keep R138_0 (ninS (Nat.ne_of_lt (Nat.lt_of_lt_of_le R128_7.lt (Nat.le_of_eq gb131.symm))) nin0)).keep R261_0 (ninS (Ne.symm (Nat.ne_of_lt (Nat.lt_of_lt_of_le A121.lt R128_1))) nin0)).keep R264_0 (ninS (Ne.symm (Nat.ne_of_lt (Nat.lt_of_lt_of_le A121.lt R128_1))) nin0)) ((R138_8.keep R261_0 (ninS (Ne.symm (Nat.ne_of_lt (Nat.lt_of_lt_of_le (R128_2.ext E131).lt R138_1))) nin0)).keep R264_0 (ninS (Ne.symm (Nat.ne_of_lt (Nat.lt_of_lt_of_le (R128_2.ext E131).lt R138_1))) nin0)) ((R138_9.keep R261_0 (ninS (Ne.symm (Nat.ne_of_lt (Nat.lt_of_lt_of_le (R128_2.ext E131).lt R138_1))) nin0)).keep R264_0 (ninS (Ne.symm (Nat.ne_of_lt (Nat.lt_of_lt_of_le (R128_2.ext E131).lt R138_1))) nin0)) ((((((P1.ext E121).keep R128_0).ext E131).keep R138_0).keep R261_0).keep R264_0) ((((((P2.ext E121).keep R128_0 (ninS (Nat.ne_of_lt (Nat.lt_of_lt_of_le P1.lt (Nat.le_of_eq gb121.symm))) nin0)).ext E131).keep R138_0 (ninS (Nat.ne_of_lt (Nat.lt_of_lt_of_le ((P1.ext E121).keep R128_0).lt (Nat.le_of_eq gb131.symm))) nin0)).keep R261_0 (ninS (Nat.ne_of_lt (Nat.lt_of_lt_of_le P1.lt (Nat.le_of_eq gb121.symm))) nin0)).keep R264_0 (ninS (Nat.ne_of_lt (Nat.lt_of_lt_of_le P1.lt (Nat.le_of_eq gb121.symm))) nin0)) ((((((P3.ext E121).keep R128_0 (ninS (Nat.ne_of_lt (Nat.lt_of_lt_of_le P1.lt (Nat.le_of_eq gb121.symm))) nin0)).ext E131).keep R138_0 (ninS (Nat.ne_of_lt (Nat.lt_of_lt_of_le ((P1.ext E121).keep R128_0).lt (Nat.le_of_eq gb131.symm))) nin0)).keep R261_0 (ninS (Nat.ne_of_lt (Nat.lt_of_lt_of_le P1.lt (Nat.le_of_eq gb121.symm))) nin0)).keep R264_0 (ninS (Nat.ne_of_lt (Nat.lt_of_lt_of_le P1.lt (Nat.le_of_eq gb121.symm))) nin0))) hZ (hw _ (List.mem_of_getElem? (i := 39) rfl)) (hw _ (List.mem_of_getElem? (i := 3) rfl)) (by decide) (by decide)) q276a q276c (g := (mkF m 139 #[iv i0, iv i1, iv i2, iv (2 : Int32), iv (0 : Int32), iv mg, rv b121, rv b131, iv (1 : Int32)] [(.ref b131), (.ref b121)])) rfl (by rw [hml]; rfl) (Steps.refl _) (argsL := [(.ref b131)]) (rest := []) (lenOf pd6 rfl) rfl (by show 2 * 0 + _ ≤ _; exact Nat.le_of_eq rfl) (hb hby at_139) (fun _ _ => ⟨rfl, e270, (by decide : 4 + 0 ≤ _), (by decide : 12 + 0 ≤ _)⟩)
        dsimp only [Pt.U, Pt.locs, Pt.cells, Pt.slots] at X276 l276 y276 z276 st276 hQ276
        subst l276 y276 z276
        obtain ⟨rfl, N276, R276_0, R276_1, R276_2⟩ := hQ276
        have M276 := Fr.app M270 N276
        have g277 : Goes p e below S0 (T276.setTop (mkF m 142 #[iv i0, iv i1, iv i2, iv (2 : Int32), iv (0 : Int32), iv mg, rv b121, rv b131, iv (1 : Int32)] [])) := fun t k => g275 t (st276.trans k)
        have g278 : Goes p e below S0 (T276.setTop (mkF m 149 #[iv i0, iv i1, iv i2, iv (2 : Int32), iv (0 : Int32), iv mg, rv b121, rv b131, iv (1 : Int32)] [(.ref b121)])) := fun t k => g277 t (by
          refine XS.iload X276.here hx rfl (hb hby at_142) rfl ?_
          show Go p e below t T276 m 144 #[iv i0, iv i1, iv i2, iv (2 : Int32), iv (0 : Int32), iv mg, rv b121, rv b131, iv (1 : Int32)] [(.int (1 : Int32))]
          refine XS.ifNo X276.here hx rfl (hb hby at_144) rfl (XT.i0_eq_f (by decide)) ?_
          show Go p e below t T276 m 147 #[iv i0, iv i1, iv i2, iv (2 : Int32), iv (0 : Int32), iv mg, rv b121, rv b131, iv (1 : Int32)] []
          refine XS.aload X276.here hx rfl (hb hby at_147) rfl rfl ?_
          show Go p e below t T276 m 149 #[iv i0, iv i1, iv i2, iv (2 : Int32), iv (0 : Int32), iv mg, rv b121, rv b131, iv (1 : Int32)] [(.ref b121)]
          exact k)
        obtain ⟨cq279, kq279, q279a, q279b, q279c⟩ := isOf hZ rfl R276_1
        obtain ⟨_, _, ⟨T279, L279, k279, n279⟩, -, X279, ⟨Lc279, hQ279, l279, y279, z279⟩, st279⟩ := X276.virtualBack hx (y := (⟨"org/volder/cli/Census", "allFaithful", "()Z"⟩ : MethodName)) (z := (⟨"org/volder/cli/Census", "allFaithful", "()Z"⟩ : MethodName)) hown (mvT hZ (hw _ (List.mem_of_getElem? (i := 23) rfl))) (mvT hZ (hw _ (List.mem_of_getElem? (i := 24) rfl))) (notFace_of_selects (args := #[]) (mvT hZ (hw _ (List.mem_of_getElem? (i := 26) rfl)))) (mvT hZ (hw _ (List.mem_of_getElem? (i := 26) rfl))) (mvT hZ (hw _ (List.mem_of_getElem? (i := 25) rfl))) (by decide) (backOf (W := 0) (rm_alf l Z a0 hw [] b121 ((2 : Int64) + (0 : Int64)) T276.heap n0 (Nat.le_trans Z0 (Nat.le_trans (Nat.le_trans (Nat.le_trans (Nat.le_trans (Nat.le_trans (Nat.le_trans (Nat.le_trans (Nat.le_refl _) E121.1) R128_0.1) E131.1) R138_0.1) R261_0.1) R264_0.1) R276_0.1)) R276_2) hZ (hw _ (List.mem_of_getElem? (i := 27) rfl)) (hw _ (List.mem_of_getElem? (i := 3) rfl)) (by decide) (by decide)) q279a q279c (g := (mkF m 149 #[iv i0, iv i1, iv i2, iv (2 : Int32), iv (0 : Int32), iv mg, rv b121, rv b131, iv (1 : Int32)] [(.ref b121)])) rfl (by rw [hml]; rfl) (Steps.refl _) (argsL := []) (rest := []) (lenOf pd5 rfl) rfl (by show 2 * 0 + _ ≤ _; exact Nat.le_of_eq rfl) (hb hby at_149) (fun _ _ => ⟨rfl, rfl, (by decide : 4 + 0 ≤ _), (by decide : 12 + 0 ≤ _)⟩)
        dsimp only [Pt.U, Pt.locs, Pt.cells, Pt.slots] at X279 l279 y279 z279 st279 hQ279
        subst l279 y279 z279
        obtain ⟨rfl, N279, e279⟩ := hQ279
        have M279 := Fr.app M276 N279
        have g280 : Goes p e below S0 (T279.setTop (mkF m 152 #[iv i0, iv i1, iv i2, iv (2 : Int32), iv (0 : Int32), iv mg, rv b121, rv b131, iv (1 : Int32)] [(.int (f_alf  ((2 : Int64) + (0 : Int64))))])) := fun t k => g278 t (st279.trans k)
        have g281 : Goes p e below S0 (T279.setTop (mkF m 176 #[iv i0, iv i1, iv i2, iv (2 : Int32), iv (0 : Int32), iv mg, rv b121, rv b131, iv (1 : Int32)] [(.int (1 : Int32))])) := fun t k => g280 t (by
          refine XS.iloadN X279.here hx rfl (hb hby at_152) rfl ?_
          show Go p e below t T279 m 153 #[iv i0, iv i1, iv i2, iv (2 : Int32), iv (0 : Int32), iv mg, rv b121, rv b131, iv (1 : Int32)] [(.int (2 : Int32)), (.int (f_alf  ((2 : Int64) + (0 : Int64))))]
          refine XS.iload X279.here hx rfl (hb hby at_153) rfl ?_
          show Go p e below t T279 m 155 #[iv i0, iv i1, iv i2, iv (2 : Int32), iv (0 : Int32), iv mg, rv b121, rv b131, iv (1 : Int32)] [(.int (0 : Int32)), (.int (2 : Int32)), (.int (f_alf  ((2 : Int64) + (0 : Int64))))]
          refine XS.iadd X279.here hx rfl (hb hby at_155) rfl ?_
          rw [show ((2 : Int32) + (0 : Int32)) = (2 : Int32) by decide]
          show Go p e below t T279 m 156 #[iv i0, iv i1, iv i2, iv (2 : Int32), iv (0 : Int32), iv mg, rv b121, rv b131, iv (1 : Int32)] [(.int (2 : Int32)), (.int (f_alf  ((2 : Int64) + (0 : Int64))))]
          refine XS.ifYes X279.here hx rfl (pc0 := 156) (pc' := 163) rfl (hb hby at_156) rfl (XT.i0_ne_t (by decide)) (by decide) (by decide) ?_
          show Go p e below t T279 m 163 #[iv i0, iv i1, iv i2, iv (2 : Int32), iv (0 : Int32), iv mg, rv b121, rv b131, iv (1 : Int32)] [(.int (f_alf  ((2 : Int64) + (0 : Int64))))]
          refine XT.iconstV X279.here hx rfl (0 : Int32) (hb hby at_163) (by decide) ?_
          show Go p e below t T279 m 164 #[iv i0, iv i1, iv i2, iv (2 : Int32), iv (0 : Int32), iv mg, rv b121, rv b131, iv (1 : Int32)] [(.int (0 : Int32)), (.int (f_alf  ((2 : Int64) + (0 : Int64))))]
          refine XS.icmpNo X279.here hx rfl (hb hby at_164) rfl (XT.ii_ne_f (by decide)) ?_
          show Go p e below t T279 m 167 #[iv i0, iv i1, iv i2, iv (2 : Int32), iv (0 : Int32), iv mg, rv b121, rv b131, iv (1 : Int32)] []
          refine XT.iconstV X279.here hx rfl (1 : Int32) (hb hby at_167) (by decide) ?_
          show Go p e below t T279 m 168 #[iv i0, iv i1, iv i2, iv (2 : Int32), iv (0 : Int32), iv mg, rv b121, rv b131, iv (1 : Int32)] [(.int (1 : Int32))]
          refine XS.goto X279.here hx rfl (pc0 := 168) (pc' := 172) rfl (hb hby at_168) (by decide) (by decide) ?_
          show Go p e below t T279 m 172 #[iv i0, iv i1, iv i2, iv (2 : Int32), iv (0 : Int32), iv mg, rv b121, rv b131, iv (1 : Int32)] [(.int (1 : Int32))]
          refine XS.istore X279.here hx rfl (hb hby at_172) rfl (l' := #[iv i0, iv i1, iv i2, iv (2 : Int32), iv (0 : Int32), iv mg, rv b121, rv b131, iv (1 : Int32)]) rfl ?_
          show Go p e below t T279 m 174 #[iv i0, iv i1, iv i2, iv (2 : Int32), iv (0 : Int32), iv mg, rv b121, rv b131, iv (1 : Int32)] []
          refine XS.iload X279.here hx rfl (hb hby at_174) rfl ?_
          show Go p e below t T279 m 176 #[iv i0, iv i1, iv i2, iv (2 : Int32), iv (0 : Int32), iv mg, rv b121, rv b131, iv (1 : Int32)] [(.int (1 : Int32))]
          exact k)
        obtain ⟨fs, hr, hrun, hended, hW, hsame⟩ := X279.leave (v := some (.int (1 : Int32))) (fun h => by rw [Bd.returns] at h; cases h)
        refine ⟨_, _, g281 _ (retN X279 hx (t := .boolean) Bd.returns (by simp) (hb hby at_176) hr), hrun, hended, _, _, rfl, ?_, ⟨_, rfl⟩, hW, hsame.mono (by decide) (by decide)⟩
        show Q_law Z i0 i1 i2 sz h0 n0 _ T279.heap _
        rw [e279]
        exact ⟨rfl, M279⟩
    · skip
      have g282 : Goes p e below S0 (T264.setTop (mkF m 74 #[iv i0, iv i1, iv i2, iv (2 : Int32), iv (1 : Int32), iv mg, rv b121, rv b131, .unset] [(.ref b131)])) := fun t k => g265 t (by
        refine XS.iload X264.here hx rfl (hb hby at_66) rfl ?_
        show Go p e below t T264 m 68 #[iv i0, iv i1, iv i2, iv (2 : Int32), iv (1 : Int32), iv mg, rv b121, rv b131, .unset] [(.int (1 : Int32))]
        refine XT.iconstV X264.here hx rfl (1 : Int32) (hb hby at_68) (by decide) ?_
        show Go p e below t T264 m 69 #[iv i0, iv i1, iv i2, iv (2 : Int32), iv (1 : Int32), iv mg, rv b121, rv b131, .unset] [(.int (1 : Int32)), (.int (1 : Int32))]
        refine XS.icmpNo X264.here hx rfl (hb hby at_69) rfl (XT.ii_lt_f (by decide)) ?_
        show Go p e below t T264 m 72 #[iv i0, iv i1, iv i2, iv (2 : Int32), iv (1 : Int32), iv mg, rv b121, rv b131, .unset] []
        refine XS.aload X264.here hx rfl (hb hby at_72) rfl rfl ?_
        show Go p e below t T264 m 74 #[iv i0, iv i1, iv i2, iv (2 : Int32), iv (1 : Int32), iv mg, rv b121, rv b131, .unset] [(.ref b131)]
        exact k)
      obtain ⟨cq283, kq283, q283a, q283b, q283c⟩ := isOf hZ rfl ((R138_2.keep R261_0).keep R264_0)
      obtain ⟨_, _, ⟨T283, L283, k283, n283⟩, -, X283, ⟨Lc283, hQ283, l283, y283, z283⟩, st283⟩ := X264.virtualBack hx (y := (⟨"org/volder/cli/Census", "countUnfaithful", "()V"⟩ : MethodName)) (z := (⟨"org/volder/cli/Census", "countUnfaithful", "()V"⟩ : MethodName)) hown (mvT hZ (hw _ (List.mem_of_getElem? (i := 30) rfl))) (mvT hZ (hw _ (List.mem_of_getElem? (i := 31) rfl))) (notFace_of_selects (args := #[]) (mvT hZ (hw _ (List.mem_of_getElem? (i := 33) rfl)))) (mvT hZ (hw _ (List.mem_of_getElem? (i := 33) rfl))) (mvT hZ (hw _ (List.mem_of_getElem? (i := 32) rfl))) (by decide) (backOf (W := 0) (rm_cn0 l Z a0 hw [] b131 sz cm_138 T264.heap n0 (Nat.le_trans Z0 (Nat.le_trans (Nat.le_trans (Nat.le_trans (Nat.le_trans (Nat.le_trans (Nat.le_trans (Nat.le_refl _) E121.1) R128_0.1) E131.1) R138_0.1) R261_0.1) R264_0.1)) ((R138_2.keep R261_0).keep R264_0) ((R138_3.keep R261_0 (ninS (Ne.symm (Nat.ne_of_lt (Nat.lt_of_lt_of_le R128_2.lt (Nat.le_of_eq gb131.symm)))) nin0)).keep R264_0 (ninS (Ne.symm (Nat.ne_of_lt (Nat.lt_of_lt_of_le R128_2.lt (Nat.le_of_eq gb131.symm)))) nin0)) ((R138_4.keep R261_0 (ninS (Ne.symm (Nat.ne_of_lt (Nat.lt_of_lt_of_le R128_2.lt (Nat.le_of_eq gb131.symm)))) nin0)).keep R264_0 (ninS (Ne.symm (Nat.ne_of_lt (Nat.lt_of_lt_of_le R128_2.lt (Nat.le_of_eq gb131.symm)))) nin0)) ((R138_5.keep R261_0 (ninS (Ne.symm (Nat.ne_of_lt (Nat.lt_of_lt_of_le R128_2.lt (Nat.le_of_eq gb131.symm)))) nin0)).keep R264_0 (ninS (Ne.symm (Nat.ne_of_lt (Nat.lt_of_lt_of_le R128_2.lt (Nat.le_of_eq gb131.symm)))) nin0)) ((R138_6.keep R261_0 (ninS (Ne.symm (Nat.ne_of_lt (Nat.lt_of_lt_of_le R128_2.lt (Nat.le_of_eq gb131.symm)))) nin0)).keep R264_0 (ninS (Ne.symm (Nat.ne_of_lt (Nat.lt_of_lt_of_le R128_2.lt (Nat.le_of_eq gb131.symm)))) nin0)) ng131) hZ (hw _ (List.mem_of_getElem? (i := 34) rfl)) (hw _ (List.mem_of_getElem? (i := 3) rfl)) (by decide) (by decide)) q283a q283c (g := (mkF m 74 #[iv i0, iv i1, iv i2, iv (2 : Int32), iv (1 : Int32), iv mg, rv b121, rv b131, .unset] [(.ref b131)])) rfl (by rw [hml]; rfl) (Steps.refl _) (argsL := []) (rest := []) (lenOf pd4 rfl) rfl (by show 2 * 0 + _ ≤ _; exact Nat.le_of_eq rfl) (hb hby at_74) (fun _ _ => ⟨rfl, rfl, (by decide : 4 + 0 ≤ _), (by decide : 12 + 0 ≤ _)⟩)
      dsimp only [Pt.U, Pt.locs, Pt.cells, Pt.slots] at X283 l283 y283 z283 st283 hQ283
      subst l283 y283 z283
      obtain ⟨rfl, N283, R283_0, R283_1, R283_2, R283_3, R283_4, R283_5⟩ := hQ283
      have M283 := Fr.app M264 N283
      have g284 : Goes p e below S0 (T283.setTop (mkF m 77 #[iv i0, iv i1, iv i2, iv (2 : Int32), iv (1 : Int32), iv mg, rv b121, rv b131, .unset] [])) := fun t k => g282 t (st283.trans k)
      have g285 : Goes p e below S0 (T283.setTop (mkF m 90 #[iv i0, iv i1, iv i2, iv (2 : Int32), iv (1 : Int32), iv mg, rv b121, rv b131, .unset] [(.ref b121)])) := fun t k => g284 t (by
        refine XS.iload X283.here hx rfl (hb hby at_77) rfl ?_
        show Go p e below t T283 m 79 #[iv i0, iv i1, iv i2, iv (2 : Int32), iv (1 : Int32), iv mg, rv b121, rv b131, .unset] [(.int (1 : Int32))]
        refine XT.iconstV X283.here hx rfl (2 : Int32) (hb hby at_79) (by decide) ?_
        show Go p e below t T283 m 80 #[iv i0, iv i1, iv i2, iv (2 : Int32), iv (1 : Int32), iv mg, rv b121, rv b131, .unset] [(.int (2 : Int32)), (.int (1 : Int32))]
        refine XS.icmpYes X283.here hx rfl (pc0 := 80) (pc' := 88) rfl (hb hby at_80) rfl (XT.ii_lt_t (by decide)) (by decide) (by decide) ?_
        show Go p e below t T283 m 88 #[iv i0, iv i1, iv i2, iv (2 : Int32), iv (1 : Int32), iv mg, rv b121, rv b131, .unset] []
        refine XS.aload X283.here hx rfl (hb hby at_88) rfl rfl ?_
        show Go p e below t T283 m 90 #[iv i0, iv i1, iv i2, iv (2 : Int32), iv (1 : Int32), iv mg, rv b121, rv b131, .unset] [(.ref b121)]
        exact k)
      obtain ⟨cq286, kq286, q286a, q286b, q286c⟩ := isOf hZ rfl (R264_1.keep R283_0)
      obtain ⟨_, _, ⟨T286, L286, k286, n286⟩, -, X286, ⟨Lc286, hQ286, l286, y286, z286⟩, st286⟩ := X283.virtualBack hx (y := (⟨"org/volder/cli/Census", "allFaithful", "()Z"⟩ : MethodName)) (z := (⟨"org/volder/cli/Census", "allFaithful", "()Z"⟩ : MethodName)) hown (mvT hZ (hw _ (List.mem_of_getElem? (i := 23) rfl))) (mvT hZ (hw _ (List.mem_of_getElem? (i := 24) rfl))) (notFace_of_selects (args := #[]) (mvT hZ (hw _ (List.mem_of_getElem? (i := 26) rfl)))) (mvT hZ (hw _ (List.mem_of_getElem? (i := 26) rfl))) (mvT hZ (hw _ (List.mem_of_getElem? (i := 25) rfl))) (by decide) (backOf (W := 0) (rm_alf l Z a0 hw [] b121 (2 : Int64) T283.heap n0 (Nat.le_trans Z0 (Nat.le_trans (Nat.le_trans (Nat.le_trans (Nat.le_trans (Nat.le_trans (Nat.le_trans (Nat.le_trans (Nat.le_refl _) E121.1) R128_0.1) E131.1) R138_0.1) R261_0.1) R264_0.1) R283_0.1)) (R264_2.keep R283_0 (ninS (Nat.ne_of_lt (Nat.lt_of_lt_of_le R128_2.lt (Nat.le_of_eq gb131.symm))) nin0))) hZ (hw _ (List.mem_of_getElem? (i := 27) rfl)) (hw _ (List.mem_of_getElem? (i := 3) rfl)) (by decide) (by decide)) q286a q286c (g := (mkF m 90 #[iv i0, iv i1, iv i2, iv (2 : Int32), iv (1 : Int32), iv mg, rv b121, rv b131, .unset] [(.ref b121)])) rfl (by rw [hml]; rfl) (Steps.refl _) (argsL := []) (rest := []) (lenOf pd5 rfl) rfl (by show 2 * 0 + _ ≤ _; exact Nat.le_of_eq rfl) (hb hby at_90) (fun _ _ => ⟨rfl, rfl, (by decide : 4 + 0 ≤ _), (by decide : 12 + 0 ≤ _)⟩)
      dsimp only [Pt.U, Pt.locs, Pt.cells, Pt.slots] at X286 l286 y286 z286 st286 hQ286
      subst l286 y286 z286
      obtain ⟨rfl, N286, e286⟩ := hQ286
      have M286 := Fr.app M283 N286
      have g287 : Goes p e below S0 (T286.setTop (mkF m 93 #[iv i0, iv i1, iv i2, iv (2 : Int32), iv (1 : Int32), iv mg, rv b121, rv b131, .unset] [(.int (f_alf  (2 : Int64)))])) := fun t k => g285 t (st286.trans k)
      have g288 : Goes p e below S0 (T286.setTop (mkF m 107 #[iv i0, iv i1, iv i2, iv (2 : Int32), iv (1 : Int32), iv mg, rv b121, rv b131, .unset] [(.ref b131)])) := fun t k => g287 t (by
        refine XS.iloadN X286.here hx rfl (hb hby at_93) rfl ?_
        show Go p e below t T286 m 94 #[iv i0, iv i1, iv i2, iv (2 : Int32), iv (1 : Int32), iv mg, rv b121, rv b131, .unset] [(.int (2 : Int32)), (.int (f_alf  (2 : Int64)))]
        refine XS.ifYes X286.here hx rfl (pc0 := 94) (pc' := 101) rfl (hb hby at_94) rfl (XT.i0_ne_t (by decide)) (by decide) (by decide) ?_
        show Go p e below t T286 m 101 #[iv i0, iv i1, iv i2, iv (2 : Int32), iv (1 : Int32), iv mg, rv b121, rv b131, .unset] [(.int (f_alf  (2 : Int64)))]
        refine XT.iconstV X286.here hx rfl (0 : Int32) (hb hby at_101) (by decide) ?_
        show Go p e below t T286 m 102 #[iv i0, iv i1, iv i2, iv (2 : Int32), iv (1 : Int32), iv mg, rv b121, rv b131, .unset] [(.int (0 : Int32)), (.int (f_alf  (2 : Int64)))]
        refine XS.icmpNo X286.here hx rfl (hb hby at_102) rfl (XT.ii_ne_f (by decide)) ?_
        show Go p e below t T286 m 105 #[iv i0, iv i1, iv i2, iv (2 : Int32), iv (1 : Int32), iv mg, rv b121, rv b131, .unset] []
        refine XS.aload X286.here hx rfl (hb hby at_105) rfl rfl ?_
        show Go p e below t T286 m 107 #[iv i0, iv i1, iv i2, iv (2 : Int32), iv (1 : Int32), iv mg, rv b121, rv b131, .unset] [(.ref b131)]
        exact k)
      obtain ⟨cq289, kq289, q289a, q289b, q289c⟩ := isOf hZ e286 R283_1
      obtain ⟨_, _, ⟨T289, L289, k289, n289⟩, -, X289, ⟨Lc289, hQ289, l289, y289, z289⟩, st289⟩ := X286.virtualBack hx (y := (⟨"org/volder/cli/Census", "allFaithful", "()Z"⟩ : MethodName)) (z := (⟨"org/volder/cli/Census", "allFaithful", "()Z"⟩ : MethodName)) hown (mvT hZ (hw _ (List.mem_of_getElem? (i := 23) rfl))) (mvT hZ (hw _ (List.mem_of_getElem? (i := 24) rfl))) (notFace_of_selects (args := #[]) (mvT hZ (hw _ (List.mem_of_getElem? (i := 26) rfl)))) (mvT hZ (hw _ (List.mem_of_getElem? (i := 26) rfl))) (mvT hZ (hw _ (List.mem_of_getElem? (i := 25) rfl))) (by decide) (backOf (W := 0) (rm_alf l Z a0 hw [] b131 (1 : Int64) T283.heap n0 (Nat.le_trans Z0 (Nat.le_trans (Nat.le_trans (Nat.le_trans (Nat.le_trans (Nat.le_trans (Nat.le_trans (Nat.le_trans (Nat.le_refl _) E121.1) R128_0.1) E131.1) R138_0.1) R261_0.1) R264_0.1) R283_0.1)) R283_2) hZ (hw _ (List.mem_of_getElem? (i := 27) rfl)) (hw _ (List.mem_of_getElem? (i := 3) rfl)) (by decide) (by decide)) q289a q289c (g := (mkF m 107 #[iv i0, iv i1, iv i2, iv (2 : Int32), iv (1 : Int32), iv mg, rv b121, rv b131, .unset] [(.ref b131)])) rfl (by rw [hml]; rfl) (Steps.refl _) (argsL := []) (rest := []) (lenOf pd5 rfl) rfl (by show 2 * 0 + _ ≤ _; exact Nat.le_of_eq rfl) (hb hby at_107) (fun _ _ => ⟨rfl, e286, (by decide : 4 + 0 ≤ _), (by decide : 12 + 0 ≤ _)⟩)
      dsimp only [Pt.U, Pt.locs, Pt.cells, Pt.slots] at X289 l289 y289 z289 st289 hQ289
      subst l289 y289 z289
      obtain ⟨rfl, N289, e289⟩ := hQ289
      have M289 := Fr.app M286 N289
      have g290 : Goes p e below S0 (T289.setTop (mkF m 110 #[iv i0, iv i1, iv i2, iv (2 : Int32), iv (1 : Int32), iv mg, rv b121, rv b131, .unset] [(.int (f_alf  (1 : Int64)))])) := fun t k => g288 t (st289.trans k)
      have g291 : Goes p e below S0 (T289.setTop (mkF m 132 #[iv i0, iv i1, iv i2, iv (2 : Int32), iv (1 : Int32), iv mg, rv b121, rv b131, iv (1 : Int32)] [(.int mg)])) := fun t k => g290 t (by
        refine XS.iload X289.here hx rfl (hb hby at_110) rfl ?_
        show Go p e below t T289 m 112 #[iv i0, iv i1, iv i2, iv (2 : Int32), iv (1 : Int32), iv mg, rv b121, rv b131, .unset] [(.int (1 : Int32)), (.int (f_alf  (1 : Int64)))]
        refine XS.ifYes X289.here hx rfl (pc0 := 112) (pc' := 119) rfl (hb hby at_112) rfl (XT.i0_ne_t (by decide)) (by decide) (by decide) ?_
        show Go p e below t T289 m 119 #[iv i0, iv i1, iv i2, iv (2 : Int32), iv (1 : Int32), iv mg, rv b121, rv b131, .unset] [(.int (f_alf  (1 : Int64)))]
        refine XT.iconstV X289.here hx rfl (0 : Int32) (hb hby at_119) (by decide) ?_
        show Go p e below t T289 m 120 #[iv i0, iv i1, iv i2, iv (2 : Int32), iv (1 : Int32), iv mg, rv b121, rv b131, .unset] [(.int (0 : Int32)), (.int (f_alf  (1 : Int64)))]
        refine XS.icmpNo X289.here hx rfl (hb hby at_120) rfl (XT.ii_ne_f (by decide)) ?_
        show Go p e below t T289 m 123 #[iv i0, iv i1, iv i2, iv (2 : Int32), iv (1 : Int32), iv mg, rv b121, rv b131, .unset] []
        refine XT.iconstV X289.here hx rfl (1 : Int32) (hb hby at_123) (by decide) ?_
        show Go p e below t T289 m 124 #[iv i0, iv i1, iv i2, iv (2 : Int32), iv (1 : Int32), iv mg, rv b121, rv b131, .unset] [(.int (1 : Int32))]
        refine XS.goto X289.here hx rfl (pc0 := 124) (pc' := 128) rfl (hb hby at_124) (by decide) (by decide) ?_
        show Go p e below t T289 m 128 #[iv i0, iv i1, iv i2, iv (2 : Int32), iv (1 : Int32), iv mg, rv b121, rv b131, .unset] [(.int (1 : Int32))]
        refine XS.istore X289.here hx rfl (hb hby at_128) rfl (l' := #[iv i0, iv i1, iv i2, iv (2 : Int32), iv (1 : Int32), iv mg, rv b121, rv b131, iv (1 : Int32)]) rfl ?_
        show Go p e below t T289 m 130 #[iv i0, iv i1, iv i2, iv (2 : Int32), iv (1 : Int32), iv mg, rv b121, rv b131, iv (1 : Int32)] []
        refine XS.iload X289.here hx rfl (hb hby at_130) rfl ?_
        show Go p e below t T289 m 132 #[iv i0, iv i1, iv i2, iv (2 : Int32), iv (1 : Int32), iv mg, rv b121, rv b131, iv (1 : Int32)] [(.int mg)]
        exact k)
      by_cases h292 : mg = 0
      · skip
        have g293 : Goes p e below S0 (T289.setTop (mkF m 176 #[iv i0, iv i1, iv i2, iv (2 : Int32), iv (1 : Int32), iv mg, rv b121, rv b131, iv (1 : Int32)] [(.int (1 : Int32))])) := fun t k => g291 t (by
          refine XS.ifYes X289.here hx rfl (pc0 := 132) (pc' := 174) rfl (hb hby at_132) rfl (XT.i0_eq_t h292) (by decide) (by decide) ?_
          show Go p e below t T289 m 174 #[iv i0, iv i1, iv i2, iv (2 : Int32), iv (1 : Int32), iv mg, rv b121, rv b131, iv (1 : Int32)] []
          refine XS.iload X289.here hx rfl (hb hby at_174) rfl ?_
          show Go p e below t T289 m 176 #[iv i0, iv i1, iv i2, iv (2 : Int32), iv (1 : Int32), iv mg, rv b121, rv b131, iv (1 : Int32)] [(.int (1 : Int32))]
          exact k)
        obtain ⟨fs, hr, hrun, hended, hW, hsame⟩ := X289.leave (v := some (.int (1 : Int32))) (fun h => by rw [Bd.returns] at h; cases h)
        refine ⟨_, _, g293 _ (retN X289 hx (t := .boolean) Bd.returns (by simp) (hb hby at_176) hr), hrun, hended, _, _, rfl, ?_, ⟨_, rfl⟩, hW, hsame.mono (by decide) (by decide)⟩
        show Q_law Z i0 i1 i2 sz h0 n0 _ T289.heap _
        rw [e289]
        exact ⟨rfl, M289⟩
      · skip
        have g294 : Goes p e below S0 (T289.setTop (mkF m 139 #[iv i0, iv i1, iv i2, iv (2 : Int32), iv (1 : Int32), iv mg, rv b121, rv b131, iv (1 : Int32)] [(.ref b131), (.ref b121)])) := fun t k => g291 t (by
          refine XS.ifNo X289.here hx rfl (hb hby at_132) rfl (XT.i0_eq_f h292) ?_
          show Go p e below t T289 m 135 #[iv i0, iv i1, iv i2, iv (2 : Int32), iv (1 : Int32), iv mg, rv b121, rv b131, iv (1 : Int32)] []
          refine XS.aload X289.here hx rfl (hb hby at_135) rfl rfl ?_
          show Go p e below t T289 m 137 #[iv i0, iv i1, iv i2, iv (2 : Int32), iv (1 : Int32), iv mg, rv b121, rv b131, iv (1 : Int32)] [(.ref b121)]
          refine XS.aload X289.here hx rfl (hb hby at_137) rfl rfl ?_
          show Go p e below t T289 m 139 #[iv i0, iv i1, iv i2, iv (2 : Int32), iv (1 : Int32), iv mg, rv b121, rv b131, iv (1 : Int32)] [(.ref b131), (.ref b121)]
          exact k)
        obtain ⟨cq295, kq295, q295a, q295b, q295c⟩ := isOf hZ e289 (R264_1.keep R283_0)
        obtain ⟨_, _, ⟨T295, L295, k295, n295⟩, -, X295, ⟨Lc295, hQ295, l295, y295, z295⟩, st295⟩ := X289.virtualBack hx (y := (⟨"org/volder/cli/Census", "add", "(Lorg/volder/cli/Census;)V"⟩ : MethodName)) (z := (⟨"org/volder/cli/Census", "add", "(Lorg/volder/cli/Census;)V"⟩ : MethodName)) hown (mvT hZ (hw _ (List.mem_of_getElem? (i := 35) rfl))) (mvT hZ (hw _ (List.mem_of_getElem? (i := 36) rfl))) (notFace_of_selects (args := #[]) (mvT hZ (hw _ (List.mem_of_getElem? (i := 38) rfl)))) (mvT hZ (hw _ (List.mem_of_getElem? (i := 38) rfl))) (mvT hZ (hw _ (List.mem_of_getElem? (i := 37) rfl))) (by decide) (backOf (W := 0) (rm_cadd l Z a0 hw [] b121 b131 (2 : Int64) (1 : Int64) sz cm_128 cm_138 T283.heap n0 (Nat.le_trans Z0 (Nat.le_trans (Nat.le_trans (Nat.le_trans (Nat.le_trans (Nat.le_trans (Nat.le_trans (Nat.le_trans (Nat.le_refl _) E121.1) R128_0.1) E131.1) R138_0.1) R261_0.1) R264_0.1) R283_0.1)) (R264_1.keep R283_0) (R264_2.keep R283_0 (ninS (Nat.ne_of_lt (Nat.lt_of_lt_of_le R128_2.lt (Nat.le_of_eq gb131.symm))) nin0)) (R264_3.keep R283_0 (ninS (Nat.ne_of_lt (Nat.lt_of_lt_of_le R128_2.lt (Nat.le_of_eq gb131.symm))) nin0)) (R264_4.keep R283_0 (ninS (Nat.ne_of_lt (Nat.lt_of_lt_of_le R128_2.lt (Nat.le_of_eq gb131.symm))) nin0)) (R264_5.keep R283_0 (ninS (Nat.ne_of_lt (Nat.lt_of_lt_of_le R128_2.lt (Nat.le_of_eq gb131.symm))) nin0)) ng121 (Nat.ne_of_lt (Nat.lt_of_lt_of_le R128_2.lt (Nat.le_of_eq gb131.symm))) (Ne.symm (Nat.ne_of_lt (Nat.lt_of_lt_of_le P1.lt (Nat.le_of_eq gb121.symm)))) (Nat.ne_of_lt (Nat.lt_of_lt_of_le A121.lt R128_1)) (Nat.ne_of_lt (Nat.lt_of_lt_of_le (R128_2.ext E131).lt R138_1)) R283_2 R283_3 R283_4 R283_5 (((((R128_7.ext E131).keep R138_0).keep R261_0).keep R264_0).keep R283_0) (((((R128_8.ext E131).keep R138_0 (ninS (Nat.ne_of_lt (Nat.lt_of_lt_of_le R128_7.lt (Nat.le_of_eq gb131.symm))) nin0)).keep R261_0 (ninS (Ne.symm (Nat.ne_of_lt (Nat.lt_of_lt_of_le A121.lt R128_1))) nin0)).keep R264_0 (ninS (Ne.symm (Nat.ne_of_lt (Nat.lt_of_lt_of_le A121.lt R128_1))) nin0)).keep R283_0 (ninS (Nat.ne_of_lt (Nat.lt_of_lt_of_le R128_7.lt (Nat.le_of_eq gb131.symm))) nin0)) (((((R128_9.ext E131).keep R138_0 (ninS (Nat.ne_of_lt (Nat.lt_of_lt_of_le R128_7.lt (Nat.le_of_eq gb131.symm))) nin0)).keep R261_0 (ninS (Ne.symm (Nat.ne_of_lt (Nat.lt_of_lt_of_le A121.lt R128_1))) nin0)).keep R264_0 (ninS (Ne.symm (Nat.ne_of_lt (Nat.lt_of_lt_of_le A121.lt R128_1))) nin0)).keep R283_0 (ninS (Nat.ne_of_lt (Nat.lt_of_lt_of_le R128_7.lt (Nat.le_of_eq gb131.symm))) nin0)) (((R138_8.keep R261_0 (ninS (Ne.symm (Nat.ne_of_lt (Nat.lt_of_lt_of_le (R128_2.ext E131).lt R138_1))) nin0)).keep R264_0 (ninS (Ne.symm (Nat.ne_of_lt (Nat.lt_of_lt_of_le (R128_2.ext E131).lt R138_1))) nin0)).keep R283_0 (ninS (Ne.symm (Nat.ne_of_lt (Nat.lt_of_lt_of_le A131.lt R138_1))) nin0)) (((R138_9.keep R261_0 (ninS (Ne.symm (Nat.ne_of_lt (Nat.lt_of_lt_of_le (R128_2.ext E131).lt R138_1))) nin0)).keep R264_0 (ninS (Ne.symm (Nat.ne_of_lt (Nat.lt_of_lt_of_le (R128_2.ext E131).lt R138_1))) nin0)).keep R283_0 (ninS (Ne.symm (Nat.ne_of_lt (Nat.lt_of_lt_of_le A131.lt R138_1))) nin0)) (((((((P1.ext E121).keep R128_0).ext E131).keep R138_0).keep R261_0).keep R264_0).keep R283_0) (((((((P2.ext E121).keep R128_0 (ninS (Nat.ne_of_lt (Nat.lt_of_lt_of_le P1.lt (Nat.le_of_eq gb121.symm))) nin0)).ext E131).keep R138_0 (ninS (Nat.ne_of_lt (Nat.lt_of_lt_of_le ((P1.ext E121).keep R128_0).lt (Nat.le_of_eq gb131.symm))) nin0)).keep R261_0 (ninS (Nat.ne_of_lt (Nat.lt_of_lt_of_le P1.lt (Nat.le_of_eq gb121.symm))) nin0)).keep R264_0 (ninS (Nat.ne_of_lt (Nat.lt_of_lt_of_le P1.lt (Nat.le_of_eq gb121.symm))) nin0)).keep R283_0 (ninS (Nat.ne_of_lt (Nat.lt_of_lt_of_le ((P1.ext E121).keep R128_0).lt (Nat.le_of_eq gb131.symm))) nin0)) (((((((P3.ext E121).keep R128_0 (ninS (Nat.ne_of_lt (Nat.lt_of_lt_of_le P1.lt (Nat.le_of_eq gb121.symm))) nin0)).ext E131).keep R138_0 (ninS (Nat.ne_of_lt (Nat.lt_of_lt_of_le ((P1.ext E121).keep R128_0).lt (Nat.le_of_eq gb131.symm))) nin0)).keep R261_0 (ninS (Nat.ne_of_lt (Nat.lt_of_lt_of_le P1.lt (Nat.le_of_eq gb121.symm))) nin0)).keep R264_0 (ninS (Nat.ne_of_lt (Nat.lt_of_lt_of_le P1.lt (Nat.le_of_eq gb121.symm))) nin0)).keep R283_0 (ninS (Nat.ne_of_lt (Nat.lt_of_lt_of_le ((P1.ext E121).keep R128_0).lt (Nat.le_of_eq gb131.symm))) nin0))) hZ (hw _ (List.mem_of_getElem? (i := 39) rfl)) (hw _ (List.mem_of_getElem? (i := 3) rfl)) (by decide) (by decide)) q295a q295c (g := (mkF m 139 #[iv i0, iv i1, iv i2, iv (2 : Int32), iv (1 : Int32), iv mg, rv b121, rv b131, iv (1 : Int32)] [(.ref b131), (.ref b121)])) rfl (by rw [hml]; rfl) (Steps.refl _) (argsL := [(.ref b131)]) (rest := []) (lenOf pd6 rfl) rfl (by show 2 * 0 + _ ≤ _; exact Nat.le_of_eq rfl) (hb hby at_139) (fun _ _ => ⟨rfl, e289, (by decide : 4 + 0 ≤ _), (by decide : 12 + 0 ≤ _)⟩)
        dsimp only [Pt.U, Pt.locs, Pt.cells, Pt.slots] at X295 l295 y295 z295 st295 hQ295
        subst l295 y295 z295
        obtain ⟨rfl, N295, R295_0, R295_1, R295_2⟩ := hQ295
        have M295 := Fr.app M289 N295
        have g296 : Goes p e below S0 (T295.setTop (mkF m 142 #[iv i0, iv i1, iv i2, iv (2 : Int32), iv (1 : Int32), iv mg, rv b121, rv b131, iv (1 : Int32)] [])) := fun t k => g294 t (st295.trans k)
        have g297 : Goes p e below S0 (T295.setTop (mkF m 149 #[iv i0, iv i1, iv i2, iv (2 : Int32), iv (1 : Int32), iv mg, rv b121, rv b131, iv (1 : Int32)] [(.ref b121)])) := fun t k => g296 t (by
          refine XS.iload X295.here hx rfl (hb hby at_142) rfl ?_
          show Go p e below t T295 m 144 #[iv i0, iv i1, iv i2, iv (2 : Int32), iv (1 : Int32), iv mg, rv b121, rv b131, iv (1 : Int32)] [(.int (1 : Int32))]
          refine XS.ifNo X295.here hx rfl (hb hby at_144) rfl (XT.i0_eq_f (by decide)) ?_
          show Go p e below t T295 m 147 #[iv i0, iv i1, iv i2, iv (2 : Int32), iv (1 : Int32), iv mg, rv b121, rv b131, iv (1 : Int32)] []
          refine XS.aload X295.here hx rfl (hb hby at_147) rfl rfl ?_
          show Go p e below t T295 m 149 #[iv i0, iv i1, iv i2, iv (2 : Int32), iv (1 : Int32), iv mg, rv b121, rv b131, iv (1 : Int32)] [(.ref b121)]
          exact k)
        obtain ⟨cq298, kq298, q298a, q298b, q298c⟩ := isOf hZ rfl R295_1
        obtain ⟨_, _, ⟨T298, L298, k298, n298⟩, -, X298, ⟨Lc298, hQ298, l298, y298, z298⟩, st298⟩ := X295.virtualBack hx (y := (⟨"org/volder/cli/Census", "allFaithful", "()Z"⟩ : MethodName)) (z := (⟨"org/volder/cli/Census", "allFaithful", "()Z"⟩ : MethodName)) hown (mvT hZ (hw _ (List.mem_of_getElem? (i := 23) rfl))) (mvT hZ (hw _ (List.mem_of_getElem? (i := 24) rfl))) (notFace_of_selects (args := #[]) (mvT hZ (hw _ (List.mem_of_getElem? (i := 26) rfl)))) (mvT hZ (hw _ (List.mem_of_getElem? (i := 26) rfl))) (mvT hZ (hw _ (List.mem_of_getElem? (i := 25) rfl))) (by decide) (backOf (W := 0) (rm_alf l Z a0 hw [] b121 ((2 : Int64) + (1 : Int64)) T295.heap n0 (Nat.le_trans Z0 (Nat.le_trans (Nat.le_trans (Nat.le_trans (Nat.le_trans (Nat.le_trans (Nat.le_trans (Nat.le_trans (Nat.le_trans (Nat.le_refl _) E121.1) R128_0.1) E131.1) R138_0.1) R261_0.1) R264_0.1) R283_0.1) R295_0.1)) R295_2) hZ (hw _ (List.mem_of_getElem? (i := 27) rfl)) (hw _ (List.mem_of_getElem? (i := 3) rfl)) (by decide) (by decide)) q298a q298c (g := (mkF m 149 #[iv i0, iv i1, iv i2, iv (2 : Int32), iv (1 : Int32), iv mg, rv b121, rv b131, iv (1 : Int32)] [(.ref b121)])) rfl (by rw [hml]; rfl) (Steps.refl _) (argsL := []) (rest := []) (lenOf pd5 rfl) rfl (by show 2 * 0 + _ ≤ _; exact Nat.le_of_eq rfl) (hb hby at_149) (fun _ _ => ⟨rfl, rfl, (by decide : 4 + 0 ≤ _), (by decide : 12 + 0 ≤ _)⟩)
        dsimp only [Pt.U, Pt.locs, Pt.cells, Pt.slots] at X298 l298 y298 z298 st298 hQ298
        subst l298 y298 z298
        obtain ⟨rfl, N298, e298⟩ := hQ298
        have M298 := Fr.app M295 N298
        have g299 : Goes p e below S0 (T298.setTop (mkF m 152 #[iv i0, iv i1, iv i2, iv (2 : Int32), iv (1 : Int32), iv mg, rv b121, rv b131, iv (1 : Int32)] [(.int (f_alf  ((2 : Int64) + (1 : Int64))))])) := fun t k => g297 t (st298.trans k)
        have g300 : Goes p e below S0 (T298.setTop (mkF m 176 #[iv i0, iv i1, iv i2, iv (2 : Int32), iv (1 : Int32), iv mg, rv b121, rv b131, iv (1 : Int32)] [(.int (1 : Int32))])) := fun t k => g299 t (by
          refine XS.iloadN X298.here hx rfl (hb hby at_152) rfl ?_
          show Go p e below t T298 m 153 #[iv i0, iv i1, iv i2, iv (2 : Int32), iv (1 : Int32), iv mg, rv b121, rv b131, iv (1 : Int32)] [(.int (2 : Int32)), (.int (f_alf  ((2 : Int64) + (1 : Int64))))]
          refine XS.iload X298.here hx rfl (hb hby at_153) rfl ?_
          show Go p e below t T298 m 155 #[iv i0, iv i1, iv i2, iv (2 : Int32), iv (1 : Int32), iv mg, rv b121, rv b131, iv (1 : Int32)] [(.int (1 : Int32)), (.int (2 : Int32)), (.int (f_alf  ((2 : Int64) + (1 : Int64))))]
          refine XS.iadd X298.here hx rfl (hb hby at_155) rfl ?_
          rw [show ((2 : Int32) + (1 : Int32)) = (3 : Int32) by decide]
          show Go p e below t T298 m 156 #[iv i0, iv i1, iv i2, iv (2 : Int32), iv (1 : Int32), iv mg, rv b121, rv b131, iv (1 : Int32)] [(.int (3 : Int32)), (.int (f_alf  ((2 : Int64) + (1 : Int64))))]
          refine XS.ifYes X298.here hx rfl (pc0 := 156) (pc' := 163) rfl (hb hby at_156) rfl (XT.i0_ne_t (by decide)) (by decide) (by decide) ?_
          show Go p e below t T298 m 163 #[iv i0, iv i1, iv i2, iv (2 : Int32), iv (1 : Int32), iv mg, rv b121, rv b131, iv (1 : Int32)] [(.int (f_alf  ((2 : Int64) + (1 : Int64))))]
          refine XT.iconstV X298.here hx rfl (0 : Int32) (hb hby at_163) (by decide) ?_
          show Go p e below t T298 m 164 #[iv i0, iv i1, iv i2, iv (2 : Int32), iv (1 : Int32), iv mg, rv b121, rv b131, iv (1 : Int32)] [(.int (0 : Int32)), (.int (f_alf  ((2 : Int64) + (1 : Int64))))]
          refine XS.icmpNo X298.here hx rfl (hb hby at_164) rfl (XT.ii_ne_f (by decide)) ?_
          show Go p e below t T298 m 167 #[iv i0, iv i1, iv i2, iv (2 : Int32), iv (1 : Int32), iv mg, rv b121, rv b131, iv (1 : Int32)] []
          refine XT.iconstV X298.here hx rfl (1 : Int32) (hb hby at_167) (by decide) ?_
          show Go p e below t T298 m 168 #[iv i0, iv i1, iv i2, iv (2 : Int32), iv (1 : Int32), iv mg, rv b121, rv b131, iv (1 : Int32)] [(.int (1 : Int32))]
          refine XS.goto X298.here hx rfl (pc0 := 168) (pc' := 172) rfl (hb hby at_168) (by decide) (by decide) ?_
          show Go p e below t T298 m 172 #[iv i0, iv i1, iv i2, iv (2 : Int32), iv (1 : Int32), iv mg, rv b121, rv b131, iv (1 : Int32)] [(.int (1 : Int32))]
          refine XS.istore X298.here hx rfl (hb hby at_172) rfl (l' := #[iv i0, iv i1, iv i2, iv (2 : Int32), iv (1 : Int32), iv mg, rv b121, rv b131, iv (1 : Int32)]) rfl ?_
          show Go p e below t T298 m 174 #[iv i0, iv i1, iv i2, iv (2 : Int32), iv (1 : Int32), iv mg, rv b121, rv b131, iv (1 : Int32)] []
          refine XS.iload X298.here hx rfl (hb hby at_174) rfl ?_
          show Go p e below t T298 m 176 #[iv i0, iv i1, iv i2, iv (2 : Int32), iv (1 : Int32), iv mg, rv b121, rv b131, iv (1 : Int32)] [(.int (1 : Int32))]
          exact k)
        obtain ⟨fs, hr, hrun, hended, hW, hsame⟩ := X298.leave (v := some (.int (1 : Int32))) (fun h => by rw [Bd.returns] at h; cases h)
        refine ⟨_, _, g300 _ (retN X298 hx (t := .boolean) Bd.returns (by simp) (hb hby at_176) hr), hrun, hended, _, _, rfl, ?_, ⟨_, rfl⟩, hW, hsame.mono (by decide) (by decide)⟩
        show Q_law Z i0 i1 i2 sz h0 n0 _ T298.heap _
        rw [e298]
        exact ⟨rfl, M298⟩
    · skip
      have g301 : Goes p e below S0 (T264.setTop (mkF m 74 #[iv i0, iv i1, iv i2, iv (2 : Int32), iv (2 : Int32), iv mg, rv b121, rv b131, .unset] [(.ref b131)])) := fun t k => g265 t (by
        refine XS.iload X264.here hx rfl (hb hby at_66) rfl ?_
        show Go p e below t T264 m 68 #[iv i0, iv i1, iv i2, iv (2 : Int32), iv (2 : Int32), iv mg, rv b121, rv b131, .unset] [(.int (2 : Int32))]
        refine XT.iconstV X264.here hx rfl (1 : Int32) (hb hby at_68) (by decide) ?_
        show Go p e below t T264 m 69 #[iv i0, iv i1, iv i2, iv (2 : Int32), iv (2 : Int32), iv mg, rv b121, rv b131, .unset] [(.int (1 : Int32)), (.int (2 : Int32))]
        refine XS.icmpNo X264.here hx rfl (hb hby at_69) rfl (XT.ii_lt_f (by decide)) ?_
        show Go p e below t T264 m 72 #[iv i0, iv i1, iv i2, iv (2 : Int32), iv (2 : Int32), iv mg, rv b121, rv b131, .unset] []
        refine XS.aload X264.here hx rfl (hb hby at_72) rfl rfl ?_
        show Go p e below t T264 m 74 #[iv i0, iv i1, iv i2, iv (2 : Int32), iv (2 : Int32), iv mg, rv b121, rv b131, .unset] [(.ref b131)]
        exact k)
      obtain ⟨cq302, kq302, q302a, q302b, q302c⟩ := isOf hZ rfl ((R138_2.keep R261_0).keep R264_0)
      obtain ⟨_, _, ⟨T302, L302, k302, n302⟩, -, X302, ⟨Lc302, hQ302, l302, y302, z302⟩, st302⟩ := X264.virtualBack hx (y := (⟨"org/volder/cli/Census", "countUnfaithful", "()V"⟩ : MethodName)) (z := (⟨"org/volder/cli/Census", "countUnfaithful", "()V"⟩ : MethodName)) hown (mvT hZ (hw _ (List.mem_of_getElem? (i := 30) rfl))) (mvT hZ (hw _ (List.mem_of_getElem? (i := 31) rfl))) (notFace_of_selects (args := #[]) (mvT hZ (hw _ (List.mem_of_getElem? (i := 33) rfl)))) (mvT hZ (hw _ (List.mem_of_getElem? (i := 33) rfl))) (mvT hZ (hw _ (List.mem_of_getElem? (i := 32) rfl))) (by decide) (backOf (W := 0) (rm_cn0 l Z a0 hw [] b131 sz cm_138 T264.heap n0 (Nat.le_trans Z0 (Nat.le_trans (Nat.le_trans (Nat.le_trans (Nat.le_trans (Nat.le_trans (Nat.le_trans (Nat.le_refl _) E121.1) R128_0.1) E131.1) R138_0.1) R261_0.1) R264_0.1)) ((R138_2.keep R261_0).keep R264_0) ((R138_3.keep R261_0 (ninS (Ne.symm (Nat.ne_of_lt (Nat.lt_of_lt_of_le R128_2.lt (Nat.le_of_eq gb131.symm)))) nin0)).keep R264_0 (ninS (Ne.symm (Nat.ne_of_lt (Nat.lt_of_lt_of_le R128_2.lt (Nat.le_of_eq gb131.symm)))) nin0)) ((R138_4.keep R261_0 (ninS (Ne.symm (Nat.ne_of_lt (Nat.lt_of_lt_of_le R128_2.lt (Nat.le_of_eq gb131.symm)))) nin0)).keep R264_0 (ninS (Ne.symm (Nat.ne_of_lt (Nat.lt_of_lt_of_le R128_2.lt (Nat.le_of_eq gb131.symm)))) nin0)) ((R138_5.keep R261_0 (ninS (Ne.symm (Nat.ne_of_lt (Nat.lt_of_lt_of_le R128_2.lt (Nat.le_of_eq gb131.symm)))) nin0)).keep R264_0 (ninS (Ne.symm (Nat.ne_of_lt (Nat.lt_of_lt_of_le R128_2.lt (Nat.le_of_eq gb131.symm)))) nin0)) ((R138_6.keep R261_0 (ninS (Ne.symm (Nat.ne_of_lt (Nat.lt_of_lt_of_le R128_2.lt (Nat.le_of_eq gb131.symm)))) nin0)).keep R264_0 (ninS (Ne.symm (Nat.ne_of_lt (Nat.lt_of_lt_of_le R128_2.lt (Nat.le_of_eq gb131.symm)))) nin0)) ng131) hZ (hw _ (List.mem_of_getElem? (i := 34) rfl)) (hw _ (List.mem_of_getElem? (i := 3) rfl)) (by decide) (by decide)) q302a q302c (g := (mkF m 74 #[iv i0, iv i1, iv i2, iv (2 : Int32), iv (2 : Int32), iv mg, rv b121, rv b131, .unset] [(.ref b131)])) rfl (by rw [hml]; rfl) (Steps.refl _) (argsL := []) (rest := []) (lenOf pd4 rfl) rfl (by show 2 * 0 + _ ≤ _; exact Nat.le_of_eq rfl) (hb hby at_74) (fun _ _ => ⟨rfl, rfl, (by decide : 4 + 0 ≤ _), (by decide : 12 + 0 ≤ _)⟩)
      dsimp only [Pt.U, Pt.locs, Pt.cells, Pt.slots] at X302 l302 y302 z302 st302 hQ302
      subst l302 y302 z302
      obtain ⟨rfl, N302, R302_0, R302_1, R302_2, R302_3, R302_4, R302_5⟩ := hQ302
      have M302 := Fr.app M264 N302
      have g303 : Goes p e below S0 (T302.setTop (mkF m 77 #[iv i0, iv i1, iv i2, iv (2 : Int32), iv (2 : Int32), iv mg, rv b121, rv b131, .unset] [])) := fun t k => g301 t (st302.trans k)
      have g304 : Goes p e below S0 (T302.setTop (mkF m 85 #[iv i0, iv i1, iv i2, iv (2 : Int32), iv (2 : Int32), iv mg, rv b121, rv b131, .unset] [(.ref b131)])) := fun t k => g303 t (by
        refine XS.iload X302.here hx rfl (hb hby at_77) rfl ?_
        show Go p e below t T302 m 79 #[iv i0, iv i1, iv i2, iv (2 : Int32), iv (2 : Int32), iv mg, rv b121, rv b131, .unset] [(.int (2 : Int32))]
        refine XT.iconstV X302.here hx rfl (2 : Int32) (hb hby at_79) (by decide) ?_
        show Go p e below t T302 m 80 #[iv i0, iv i1, iv i2, iv (2 : Int32), iv (2 : Int32), iv mg, rv b121, rv b131, .unset] [(.int (2 : Int32)), (.int (2 : Int32))]
        refine XS.icmpNo X302.here hx rfl (hb hby at_80) rfl (XT.ii_lt_f (by decide)) ?_
        show Go p e below t T302 m 83 #[iv i0, iv i1, iv i2, iv (2 : Int32), iv (2 : Int32), iv mg, rv b121, rv b131, .unset] []
        refine XS.aload X302.here hx rfl (hb hby at_83) rfl rfl ?_
        show Go p e below t T302 m 85 #[iv i0, iv i1, iv i2, iv (2 : Int32), iv (2 : Int32), iv mg, rv b121, rv b131, .unset] [(.ref b131)]
        exact k)
      obtain ⟨cq305, kq305, q305a, q305b, q305c⟩ := isOf hZ rfl R302_1
      obtain ⟨_, _, ⟨T305, L305, k305, n305⟩, -, X305, ⟨Lc305, hQ305, l305, y305, z305⟩, st305⟩ := X302.virtualBack hx (y := (⟨"org/volder/cli/Census", "countUnfaithful", "()V"⟩ : MethodName)) (z := (⟨"org/volder/cli/Census", "countUnfaithful", "()V"⟩ : MethodName)) hown (mvT hZ (hw _ (List.mem_of_getElem? (i := 30) rfl))) (mvT hZ (hw _ (List.mem_of_getElem? (i := 31) rfl))) (notFace_of_selects (args := #[]) (mvT hZ (hw _ (List.mem_of_getElem? (i := 33) rfl)))) (mvT hZ (hw _ (List.mem_of_getElem? (i := 33) rfl))) (mvT hZ (hw _ (List.mem_of_getElem? (i := 32) rfl))) (by decide) (backOf (W := 0) (rm_cn1 l Z a0 hw [] b131 sz cm_138 T302.heap n0 (Nat.le_trans Z0 (Nat.le_trans (Nat.le_trans (Nat.le_trans (Nat.le_trans (Nat.le_trans (Nat.le_trans (Nat.le_trans (Nat.le_refl _) E121.1) R128_0.1) E131.1) R138_0.1) R261_0.1) R264_0.1) R302_0.1)) R302_1 R302_2 R302_3 R302_4 R302_5 ng131) hZ (hw _ (List.mem_of_getElem? (i := 34) rfl)) (hw _ (List.mem_of_getElem? (i := 3) rfl)) (by decide) (by decide)) q305a q305c (g := (mkF m 85 #[iv i0, iv i1, iv i2, iv (2 : Int32), iv (2 : Int32), iv mg, rv b121, rv b131, .unset] [(.ref b131)])) rfl (by rw [hml]; rfl) (Steps.refl _) (argsL := []) (rest := []) (lenOf pd4 rfl) rfl (by show 2 * 0 + _ ≤ _; exact Nat.le_of_eq rfl) (hb hby at_85) (fun _ _ => ⟨rfl, rfl, (by decide : 4 + 0 ≤ _), (by decide : 12 + 0 ≤ _)⟩)
      dsimp only [Pt.U, Pt.locs, Pt.cells, Pt.slots] at X305 l305 y305 z305 st305 hQ305
      subst l305 y305 z305
      obtain ⟨rfl, N305, R305_0, R305_1, R305_2, R305_3, R305_4, R305_5⟩ := hQ305
      have M305 := Fr.app M302 N305
      have g306 : Goes p e below S0 (T305.setTop (mkF m 88 #[iv i0, iv i1, iv i2, iv (2 : Int32), iv (2 : Int32), iv mg, rv b121, rv b131, .unset] [])) := fun t k => g304 t (st305.trans k)
      have g307 : Goes p e below S0 (T305.setTop (mkF m 90 #[iv i0, iv i1, iv i2, iv (2 : Int32), iv (2 : Int32), iv mg, rv b121, rv b131, .unset] [(.ref b121)])) := fun t k => g306 t (by
        refine XS.aload X305.here hx rfl (hb hby at_88) rfl rfl ?_
        show Go p e below t T305 m 90 #[iv i0, iv i1, iv i2, iv (2 : Int32), iv (2 : Int32), iv mg, rv b121, rv b131, .unset] [(.ref b121)]
        exact k)
      obtain ⟨cq308, kq308, q308a, q308b, q308c⟩ := isOf hZ rfl ((R264_1.keep R302_0).keep R305_0)
      obtain ⟨_, _, ⟨T308, L308, k308, n308⟩, -, X308, ⟨Lc308, hQ308, l308, y308, z308⟩, st308⟩ := X305.virtualBack hx (y := (⟨"org/volder/cli/Census", "allFaithful", "()Z"⟩ : MethodName)) (z := (⟨"org/volder/cli/Census", "allFaithful", "()Z"⟩ : MethodName)) hown (mvT hZ (hw _ (List.mem_of_getElem? (i := 23) rfl))) (mvT hZ (hw _ (List.mem_of_getElem? (i := 24) rfl))) (notFace_of_selects (args := #[]) (mvT hZ (hw _ (List.mem_of_getElem? (i := 26) rfl)))) (mvT hZ (hw _ (List.mem_of_getElem? (i := 26) rfl))) (mvT hZ (hw _ (List.mem_of_getElem? (i := 25) rfl))) (by decide) (backOf (W := 0) (rm_alf l Z a0 hw [] b121 (2 : Int64) T305.heap n0 (Nat.le_trans Z0 (Nat.le_trans (Nat.le_trans (Nat.le_trans (Nat.le_trans (Nat.le_trans (Nat.le_trans (Nat.le_trans (Nat.le_trans (Nat.le_refl _) E121.1) R128_0.1) E131.1) R138_0.1) R261_0.1) R264_0.1) R302_0.1) R305_0.1)) ((R264_2.keep R302_0 (ninS (Nat.ne_of_lt (Nat.lt_of_lt_of_le R128_2.lt (Nat.le_of_eq gb131.symm))) nin0)).keep R305_0 (ninS (Nat.ne_of_lt (Nat.lt_of_lt_of_le R128_2.lt (Nat.le_of_eq gb131.symm))) nin0))) hZ (hw _ (List.mem_of_getElem? (i := 27) rfl)) (hw _ (List.mem_of_getElem? (i := 3) rfl)) (by decide) (by decide)) q308a q308c (g := (mkF m 90 #[iv i0, iv i1, iv i2, iv (2 : Int32), iv (2 : Int32), iv mg, rv b121, rv b131, .unset] [(.ref b121)])) rfl (by rw [hml]; rfl) (Steps.refl _) (argsL := []) (rest := []) (lenOf pd5 rfl) rfl (by show 2 * 0 + _ ≤ _; exact Nat.le_of_eq rfl) (hb hby at_90) (fun _ _ => ⟨rfl, rfl, (by decide : 4 + 0 ≤ _), (by decide : 12 + 0 ≤ _)⟩)
      dsimp only [Pt.U, Pt.locs, Pt.cells, Pt.slots] at X308 l308 y308 z308 st308 hQ308
      subst l308 y308 z308
      obtain ⟨rfl, N308, e308⟩ := hQ308
      have M308 := Fr.app M305 N308
      have g309 : Goes p e below S0 (T308.setTop (mkF m 93 #[iv i0, iv i1, iv i2, iv (2 : Int32), iv (2 : Int32), iv mg, rv b121, rv b131, .unset] [(.int (f_alf  (2 : Int64)))])) := fun t k => g307 t (st308.trans k)
      have g310 : Goes p e below S0 (T308.setTop (mkF m 107 #[iv i0, iv i1, iv i2, iv (2 : Int32), iv (2 : Int32), iv mg, rv b121, rv b131, .unset] [(.ref b131)])) := fun t k => g309 t (by
        refine XS.iloadN X308.here hx rfl (hb hby at_93) rfl ?_
        show Go p e below t T308 m 94 #[iv i0, iv i1, iv i2, iv (2 : Int32), iv (2 : Int32), iv mg, rv b121, rv b131, .unset] [(.int (2 : Int32)), (.int (f_alf  (2 : Int64)))]
        refine XS.ifYes X308.here hx rfl (pc0 := 94) (pc' := 101) rfl (hb hby at_94) rfl (XT.i0_ne_t (by decide)) (by decide) (by decide) ?_
        show Go p e below t T308 m 101 #[iv i0, iv i1, iv i2, iv (2 : Int32), iv (2 : Int32), iv mg, rv b121, rv b131, .unset] [(.int (f_alf  (2 : Int64)))]
        refine XT.iconstV X308.here hx rfl (0 : Int32) (hb hby at_101) (by decide) ?_
        show Go p e below t T308 m 102 #[iv i0, iv i1, iv i2, iv (2 : Int32), iv (2 : Int32), iv mg, rv b121, rv b131, .unset] [(.int (0 : Int32)), (.int (f_alf  (2 : Int64)))]
        refine XS.icmpNo X308.here hx rfl (hb hby at_102) rfl (XT.ii_ne_f (by decide)) ?_
        show Go p e below t T308 m 105 #[iv i0, iv i1, iv i2, iv (2 : Int32), iv (2 : Int32), iv mg, rv b121, rv b131, .unset] []
        refine XS.aload X308.here hx rfl (hb hby at_105) rfl rfl ?_
        show Go p e below t T308 m 107 #[iv i0, iv i1, iv i2, iv (2 : Int32), iv (2 : Int32), iv mg, rv b121, rv b131, .unset] [(.ref b131)]
        exact k)
      obtain ⟨cq311, kq311, q311a, q311b, q311c⟩ := isOf hZ e308 R305_1
      obtain ⟨_, _, ⟨T311, L311, k311, n311⟩, -, X311, ⟨Lc311, hQ311, l311, y311, z311⟩, st311⟩ := X308.virtualBack hx (y := (⟨"org/volder/cli/Census", "allFaithful", "()Z"⟩ : MethodName)) (z := (⟨"org/volder/cli/Census", "allFaithful", "()Z"⟩ : MethodName)) hown (mvT hZ (hw _ (List.mem_of_getElem? (i := 23) rfl))) (mvT hZ (hw _ (List.mem_of_getElem? (i := 24) rfl))) (notFace_of_selects (args := #[]) (mvT hZ (hw _ (List.mem_of_getElem? (i := 26) rfl)))) (mvT hZ (hw _ (List.mem_of_getElem? (i := 26) rfl))) (mvT hZ (hw _ (List.mem_of_getElem? (i := 25) rfl))) (by decide) (backOf (W := 0) (rm_alf l Z a0 hw [] b131 (2 : Int64) T305.heap n0 (Nat.le_trans Z0 (Nat.le_trans (Nat.le_trans (Nat.le_trans (Nat.le_trans (Nat.le_trans (Nat.le_trans (Nat.le_trans (Nat.le_trans (Nat.le_refl _) E121.1) R128_0.1) E131.1) R138_0.1) R261_0.1) R264_0.1) R302_0.1) R305_0.1)) R305_2) hZ (hw _ (List.mem_of_getElem? (i := 27) rfl)) (hw _ (List.mem_of_getElem? (i := 3) rfl)) (by decide) (by decide)) q311a q311c (g := (mkF m 107 #[iv i0, iv i1, iv i2, iv (2 : Int32), iv (2 : Int32), iv mg, rv b121, rv b131, .unset] [(.ref b131)])) rfl (by rw [hml]; rfl) (Steps.refl _) (argsL := []) (rest := []) (lenOf pd5 rfl) rfl (by show 2 * 0 + _ ≤ _; exact Nat.le_of_eq rfl) (hb hby at_107) (fun _ _ => ⟨rfl, e308, (by decide : 4 + 0 ≤ _), (by decide : 12 + 0 ≤ _)⟩)
      dsimp only [Pt.U, Pt.locs, Pt.cells, Pt.slots] at X311 l311 y311 z311 st311 hQ311
      subst l311 y311 z311
      obtain ⟨rfl, N311, e311⟩ := hQ311
      have M311 := Fr.app M308 N311
      have g312 : Goes p e below S0 (T311.setTop (mkF m 110 #[iv i0, iv i1, iv i2, iv (2 : Int32), iv (2 : Int32), iv mg, rv b121, rv b131, .unset] [(.int (f_alf  (2 : Int64)))])) := fun t k => g310 t (st311.trans k)
      have g313 : Goes p e below S0 (T311.setTop (mkF m 132 #[iv i0, iv i1, iv i2, iv (2 : Int32), iv (2 : Int32), iv mg, rv b121, rv b131, iv (1 : Int32)] [(.int mg)])) := fun t k => g312 t (by
        refine XS.iload X311.here hx rfl (hb hby at_110) rfl ?_
        show Go p e below t T311 m 112 #[iv i0, iv i1, iv i2, iv (2 : Int32), iv (2 : Int32), iv mg, rv b121, rv b131, .unset] [(.int (2 : Int32)), (.int (f_alf  (2 : Int64)))]
        refine XS.ifYes X311.here hx rfl (pc0 := 112) (pc' := 119) rfl (hb hby at_112) rfl (XT.i0_ne_t (by decide)) (by decide) (by decide) ?_
        show Go p e below t T311 m 119 #[iv i0, iv i1, iv i2, iv (2 : Int32), iv (2 : Int32), iv mg, rv b121, rv b131, .unset] [(.int (f_alf  (2 : Int64)))]
        refine XT.iconstV X311.here hx rfl (0 : Int32) (hb hby at_119) (by decide) ?_
        show Go p e below t T311 m 120 #[iv i0, iv i1, iv i2, iv (2 : Int32), iv (2 : Int32), iv mg, rv b121, rv b131, .unset] [(.int (0 : Int32)), (.int (f_alf  (2 : Int64)))]
        refine XS.icmpNo X311.here hx rfl (hb hby at_120) rfl (XT.ii_ne_f (by decide)) ?_
        show Go p e below t T311 m 123 #[iv i0, iv i1, iv i2, iv (2 : Int32), iv (2 : Int32), iv mg, rv b121, rv b131, .unset] []
        refine XT.iconstV X311.here hx rfl (1 : Int32) (hb hby at_123) (by decide) ?_
        show Go p e below t T311 m 124 #[iv i0, iv i1, iv i2, iv (2 : Int32), iv (2 : Int32), iv mg, rv b121, rv b131, .unset] [(.int (1 : Int32))]
        refine XS.goto X311.here hx rfl (pc0 := 124) (pc' := 128) rfl (hb hby at_124) (by decide) (by decide) ?_
        show Go p e below t T311 m 128 #[iv i0, iv i1, iv i2, iv (2 : Int32), iv (2 : Int32), iv mg, rv b121, rv b131, .unset] [(.int (1 : Int32))]
        refine XS.istore X311.here hx rfl (hb hby at_128) rfl (l' := #[iv i0, iv i1, iv i2, iv (2 : Int32), iv (2 : Int32), iv mg, rv b121, rv b131, iv (1 : Int32)]) rfl ?_
        show Go p e below t T311 m 130 #[iv i0, iv i1, iv i2, iv (2 : Int32), iv (2 : Int32), iv mg, rv b121, rv b131, iv (1 : Int32)] []
        refine XS.iload X311.here hx rfl (hb hby at_130) rfl ?_
        show Go p e below t T311 m 132 #[iv i0, iv i1, iv i2, iv (2 : Int32), iv (2 : Int32), iv mg, rv b121, rv b131, iv (1 : Int32)] [(.int mg)]
        exact k)
      by_cases h314 : mg = 0
      · skip
        have g315 : Goes p e below S0 (T311.setTop (mkF m 176 #[iv i0, iv i1, iv i2, iv (2 : Int32), iv (2 : Int32), iv mg, rv b121, rv b131, iv (1 : Int32)] [(.int (1 : Int32))])) := fun t k => g313 t (by
          refine XS.ifYes X311.here hx rfl (pc0 := 132) (pc' := 174) rfl (hb hby at_132) rfl (XT.i0_eq_t h314) (by decide) (by decide) ?_
          show Go p e below t T311 m 174 #[iv i0, iv i1, iv i2, iv (2 : Int32), iv (2 : Int32), iv mg, rv b121, rv b131, iv (1 : Int32)] []
          refine XS.iload X311.here hx rfl (hb hby at_174) rfl ?_
          show Go p e below t T311 m 176 #[iv i0, iv i1, iv i2, iv (2 : Int32), iv (2 : Int32), iv mg, rv b121, rv b131, iv (1 : Int32)] [(.int (1 : Int32))]
          exact k)
        obtain ⟨fs, hr, hrun, hended, hW, hsame⟩ := X311.leave (v := some (.int (1 : Int32))) (fun h => by rw [Bd.returns] at h; cases h)
        refine ⟨_, _, g315 _ (retN X311 hx (t := .boolean) Bd.returns (by simp) (hb hby at_176) hr), hrun, hended, _, _, rfl, ?_, ⟨_, rfl⟩, hW, hsame.mono (by decide) (by decide)⟩
        show Q_law Z i0 i1 i2 sz h0 n0 _ T311.heap _
        rw [e311]
        exact ⟨rfl, M311⟩
      · skip
        have g316 : Goes p e below S0 (T311.setTop (mkF m 139 #[iv i0, iv i1, iv i2, iv (2 : Int32), iv (2 : Int32), iv mg, rv b121, rv b131, iv (1 : Int32)] [(.ref b131), (.ref b121)])) := fun t k => g313 t (by
          refine XS.ifNo X311.here hx rfl (hb hby at_132) rfl (XT.i0_eq_f h314) ?_
          show Go p e below t T311 m 135 #[iv i0, iv i1, iv i2, iv (2 : Int32), iv (2 : Int32), iv mg, rv b121, rv b131, iv (1 : Int32)] []
          refine XS.aload X311.here hx rfl (hb hby at_135) rfl rfl ?_
          show Go p e below t T311 m 137 #[iv i0, iv i1, iv i2, iv (2 : Int32), iv (2 : Int32), iv mg, rv b121, rv b131, iv (1 : Int32)] [(.ref b121)]
          refine XS.aload X311.here hx rfl (hb hby at_137) rfl rfl ?_
          show Go p e below t T311 m 139 #[iv i0, iv i1, iv i2, iv (2 : Int32), iv (2 : Int32), iv mg, rv b121, rv b131, iv (1 : Int32)] [(.ref b131), (.ref b121)]
          exact k)
        obtain ⟨cq317, kq317, q317a, q317b, q317c⟩ := isOf hZ e311 ((R264_1.keep R302_0).keep R305_0)
        obtain ⟨_, _, ⟨T317, L317, k317, n317⟩, -, X317, ⟨Lc317, hQ317, l317, y317, z317⟩, st317⟩ := X311.virtualBack hx (y := (⟨"org/volder/cli/Census", "add", "(Lorg/volder/cli/Census;)V"⟩ : MethodName)) (z := (⟨"org/volder/cli/Census", "add", "(Lorg/volder/cli/Census;)V"⟩ : MethodName)) hown (mvT hZ (hw _ (List.mem_of_getElem? (i := 35) rfl))) (mvT hZ (hw _ (List.mem_of_getElem? (i := 36) rfl))) (notFace_of_selects (args := #[]) (mvT hZ (hw _ (List.mem_of_getElem? (i := 38) rfl)))) (mvT hZ (hw _ (List.mem_of_getElem? (i := 38) rfl))) (mvT hZ (hw _ (List.mem_of_getElem? (i := 37) rfl))) (by decide) (backOf (W := 0) (rm_cadd l Z a0 hw [] b121 b131 (2 : Int64) (2 : Int64) sz cm_128 cm_138 T305.heap n0 (Nat.le_trans Z0 (Nat.le_trans (Nat.le_trans (Nat.le_trans (Nat.le_trans (Nat.le_trans (Nat.le_trans (Nat.le_trans (Nat.le_trans (Nat.le_refl _) E121.1) R128_0.1) E131.1) R138_0.1) R261_0.1) R264_0.1) R302_0.1) R305_0.1)) ((R264_1.keep R302_0).keep R305_0) ((R264_2.keep R302_0 (ninS (Nat.ne_of_lt (Nat.lt_of_lt_of_le R128_2.lt (Nat.le_of_eq gb131.symm))) nin0)).keep R305_0 (ninS (Nat.ne_of_lt (Nat.lt_of_lt_of_le R128_2.lt (Nat.le_of_eq gb131.symm))) nin0)) ((R264_3.keep R302_0 (ninS (Nat.ne_of_lt (Nat.lt_of_lt_of_le R128_2.lt (Nat.le_of_eq gb131.symm))) nin0)).keep R305_0 (ninS (Nat.ne_of_lt (Nat.lt_of_lt_of_le R128_2.lt (Nat.le_of_eq gb131.symm))) nin0)) ((R264_4.keep R302_0 (ninS (Nat.ne_of_lt (Nat.lt_of_lt_of_le R128_2.lt (Nat.le_of_eq gb131.symm))) nin0)).keep R305_0 (ninS (Nat.ne_of_lt (Nat.lt_of_lt_of_le R128_2.lt (Nat.le_of_eq gb131.symm))) nin0)) ((R264_5.keep R302_0 (ninS (Nat.ne_of_lt (Nat.lt_of_lt_of_le R128_2.lt (Nat.le_of_eq gb131.symm))) nin0)).keep R305_0 (ninS (Nat.ne_of_lt (Nat.lt_of_lt_of_le R128_2.lt (Nat.le_of_eq gb131.symm))) nin0)) ng121 (Nat.ne_of_lt (Nat.lt_of_lt_of_le R128_2.lt (Nat.le_of_eq gb131.symm))) (Ne.symm (Nat.ne_of_lt (Nat.lt_of_lt_of_le P1.lt (Nat.le_of_eq gb121.symm)))) (Nat.ne_of_lt (Nat.lt_of_lt_of_le A121.lt R128_1)) (Nat.ne_of_lt (Nat.lt_of_lt_of_le (R128_2.ext E131).lt R138_1)) R305_2 R305_3 R305_4 R305_5 ((((((R128_7.ext E131).keep R138_0).keep R261_0).keep R264_0).keep R302_0).keep R305_0) ((((((R128_8.ext E131).keep R138_0 (ninS (Nat.ne_of_lt (Nat.lt_of_lt_of_le R128_7.lt (Nat.le_of_eq gb131.symm))) nin0)).keep R261_0 (ninS (Ne.symm (Nat.ne_of_lt (Nat.lt_of_lt_of_le A121.lt R128_1))) nin0)).keep R264_0 (ninS (Ne.symm (Nat.ne_of_lt (Nat.lt_of_lt_of_le A121.lt R128_1))) nin0)).keep R302_0 (ninS (Nat.ne_of_lt (Nat.lt_of_lt_of_le R128_7.lt (Nat.le_of_eq gb131.symm))) nin0)).keep R305_0 (ninS (Nat.ne_of_lt (Nat.lt_of_lt_of_le R128_7.lt (Nat.le_of_eq gb131.symm))) nin0)) ((((((R128_9.ext E131).keep R138_0 (ninS (Nat.ne_of_lt (Nat.lt_of_lt_of_le R128_7.lt (Nat.le_of_eq gb131.symm))) nin0)).keep R261_0 (ninS (Ne.symm (Nat.ne_of_lt (Nat.lt_of_lt_of_le A121.lt R128_1))) nin0)).keep R264_0 (ninS (Ne.symm (Nat.ne_of_lt (Nat.lt_of_lt_of_le A121.lt R128_1))) nin0)).keep R302_0 (ninS (Nat.ne_of_lt (Nat.lt_of_lt_of_le R128_7.lt (Nat.le_of_eq gb131.symm))) nin0)).keep R305_0 (ninS (Nat.ne_of_lt (Nat.lt_of_lt_of_le R128_7.lt (Nat.le_of_eq gb131.symm))) nin0)) ((((R138_8.keep R261_0 (ninS (Ne.symm (Nat.ne_of_lt (Nat.lt_of_lt_of_le (R128_2.ext E131).lt R138_1))) nin0)).keep R264_0 (ninS (Ne.symm (Nat.ne_of_lt (Nat.lt_of_lt_of_le (R128_2.ext E131).lt R138_1))) nin0)).keep R302_0 (ninS (Ne.symm (Nat.ne_of_lt (Nat.lt_of_lt_of_le A131.lt R138_1))) nin0)).keep R305_0 (ninS (Ne.symm (Nat.ne_of_lt (Nat.lt_of_lt_of_le A131.lt R138_1))) nin0)) ((((R138_9.keep R261_0 (ninS (Ne.symm (Nat.ne_of_lt (Nat.lt_of_lt_of_le (R128_2.ext E131).lt R138_1))) nin0)).keep R264_0 (ninS (Ne.symm (Nat.ne_of_lt (Nat.lt_of_lt_of_le (R128_2.ext E131).lt R138_1))) nin0)).keep R302_0 (ninS (Ne.symm (Nat.ne_of_lt (Nat.lt_of_lt_of_le A131.lt R138_1))) nin0)).keep R305_0 (ninS (Ne.symm (Nat.ne_of_lt (Nat.lt_of_lt_of_le A131.lt R138_1))) nin0)) ((((((((P1.ext E121).keep R128_0).ext E131).keep R138_0).keep R261_0).keep R264_0).keep R302_0).keep R305_0) ((((((((P2.ext E121).keep R128_0 (ninS (Nat.ne_of_lt (Nat.lt_of_lt_of_le P1.lt (Nat.le_of_eq gb121.symm))) nin0)).ext E131).keep R138_0 (ninS (Nat.ne_of_lt (Nat.lt_of_lt_of_le ((P1.ext E121).keep R128_0).lt (Nat.le_of_eq gb131.symm))) nin0)).keep R261_0 (ninS (Nat.ne_of_lt (Nat.lt_of_lt_of_le P1.lt (Nat.le_of_eq gb121.symm))) nin0)).keep R264_0 (ninS (Nat.ne_of_lt (Nat.lt_of_lt_of_le P1.lt (Nat.le_of_eq gb121.symm))) nin0)).keep R302_0 (ninS (Nat.ne_of_lt (Nat.lt_of_lt_of_le ((P1.ext E121).keep R128_0).lt (Nat.le_of_eq gb131.symm))) nin0)).keep R305_0 (ninS (Nat.ne_of_lt (Nat.lt_of_lt_of_le ((P1.ext E121).keep R128_0).lt (Nat.le_of_eq gb131.symm))) nin0)) ((((((((P3.ext E121).keep R128_0 (ninS (Nat.ne_of_lt (Nat.lt_of_lt_of_le P1.lt (Nat.le_of_eq gb121.symm))) nin0)).ext E131).keep R138_0 (ninS (Nat.ne_of_lt (Nat.lt_of_lt_of_le ((P1.ext E121).keep R128_0).lt (Nat.le_of_eq gb131.symm))) nin0)).keep R261_0 (ninS (Nat.ne_of_lt (Nat.lt_of_lt_of_le P1.lt (Nat.le_of_eq gb121.symm))) nin0)).keep R264_0 (ninS (Nat.ne_of_lt (Nat.lt_of_lt_of_le P1.lt (Nat.le_of_eq gb121.symm))) nin0)).keep R302_0 (ninS (Nat.ne_of_lt (Nat.lt_of_lt_of_le ((P1.ext E121).keep R128_0).lt (Nat.le_of_eq gb131.symm))) nin0)).keep R305_0 (ninS (Nat.ne_of_lt (Nat.lt_of_lt_of_le ((P1.ext E121).keep R128_0).lt (Nat.le_of_eq gb131.symm))) nin0))) hZ (hw _ (List.mem_of_getElem? (i := 39) rfl)) (hw _ (List.mem_of_getElem? (i := 3) rfl)) (by decide) (by decide)) q317a q317c (g := (mkF m 139 #[iv i0, iv i1, iv i2, iv (2 : Int32), iv (2 : Int32), iv mg, rv b121, rv b131, iv (1 : Int32)] [(.ref b131), (.ref b121)])) rfl (by rw [hml]; rfl) (Steps.refl _) (argsL := [(.ref b131)]) (rest := []) (lenOf pd6 rfl) rfl (by show 2 * 0 + _ ≤ _; exact Nat.le_of_eq rfl) (hb hby at_139) (fun _ _ => ⟨rfl, e311, (by decide : 4 + 0 ≤ _), (by decide : 12 + 0 ≤ _)⟩)
        dsimp only [Pt.U, Pt.locs, Pt.cells, Pt.slots] at X317 l317 y317 z317 st317 hQ317
        subst l317 y317 z317
        obtain ⟨rfl, N317, R317_0, R317_1, R317_2⟩ := hQ317
        have M317 := Fr.app M311 N317
        have g318 : Goes p e below S0 (T317.setTop (mkF m 142 #[iv i0, iv i1, iv i2, iv (2 : Int32), iv (2 : Int32), iv mg, rv b121, rv b131, iv (1 : Int32)] [])) := fun t k => g316 t (st317.trans k)
        have g319 : Goes p e below S0 (T317.setTop (mkF m 149 #[iv i0, iv i1, iv i2, iv (2 : Int32), iv (2 : Int32), iv mg, rv b121, rv b131, iv (1 : Int32)] [(.ref b121)])) := fun t k => g318 t (by
          refine XS.iload X317.here hx rfl (hb hby at_142) rfl ?_
          show Go p e below t T317 m 144 #[iv i0, iv i1, iv i2, iv (2 : Int32), iv (2 : Int32), iv mg, rv b121, rv b131, iv (1 : Int32)] [(.int (1 : Int32))]
          refine XS.ifNo X317.here hx rfl (hb hby at_144) rfl (XT.i0_eq_f (by decide)) ?_
          show Go p e below t T317 m 147 #[iv i0, iv i1, iv i2, iv (2 : Int32), iv (2 : Int32), iv mg, rv b121, rv b131, iv (1 : Int32)] []
          refine XS.aload X317.here hx rfl (hb hby at_147) rfl rfl ?_
          show Go p e below t T317 m 149 #[iv i0, iv i1, iv i2, iv (2 : Int32), iv (2 : Int32), iv mg, rv b121, rv b131, iv (1 : Int32)] [(.ref b121)]
          exact k)
        obtain ⟨cq320, kq320, q320a, q320b, q320c⟩ := isOf hZ rfl R317_1
        obtain ⟨_, _, ⟨T320, L320, k320, n320⟩, -, X320, ⟨Lc320, hQ320, l320, y320, z320⟩, st320⟩ := X317.virtualBack hx (y := (⟨"org/volder/cli/Census", "allFaithful", "()Z"⟩ : MethodName)) (z := (⟨"org/volder/cli/Census", "allFaithful", "()Z"⟩ : MethodName)) hown (mvT hZ (hw _ (List.mem_of_getElem? (i := 23) rfl))) (mvT hZ (hw _ (List.mem_of_getElem? (i := 24) rfl))) (notFace_of_selects (args := #[]) (mvT hZ (hw _ (List.mem_of_getElem? (i := 26) rfl)))) (mvT hZ (hw _ (List.mem_of_getElem? (i := 26) rfl))) (mvT hZ (hw _ (List.mem_of_getElem? (i := 25) rfl))) (by decide) (backOf (W := 0) (rm_alf l Z a0 hw [] b121 ((2 : Int64) + (2 : Int64)) T317.heap n0 (Nat.le_trans Z0 (Nat.le_trans (Nat.le_trans (Nat.le_trans (Nat.le_trans (Nat.le_trans (Nat.le_trans (Nat.le_trans (Nat.le_trans (Nat.le_trans (Nat.le_refl _) E121.1) R128_0.1) E131.1) R138_0.1) R261_0.1) R264_0.1) R302_0.1) R305_0.1) R317_0.1)) R317_2) hZ (hw _ (List.mem_of_getElem? (i := 27) rfl)) (hw _ (List.mem_of_getElem? (i := 3) rfl)) (by decide) (by decide)) q320a q320c (g := (mkF m 149 #[iv i0, iv i1, iv i2, iv (2 : Int32), iv (2 : Int32), iv mg, rv b121, rv b131, iv (1 : Int32)] [(.ref b121)])) rfl (by rw [hml]; rfl) (Steps.refl _) (argsL := []) (rest := []) (lenOf pd5 rfl) rfl (by show 2 * 0 + _ ≤ _; exact Nat.le_of_eq rfl) (hb hby at_149) (fun _ _ => ⟨rfl, rfl, (by decide : 4 + 0 ≤ _), (by decide : 12 + 0 ≤ _)⟩)
        dsimp only [Pt.U, Pt.locs, Pt.cells, Pt.slots] at X320 l320 y320 z320 st320 hQ320
        subst l320 y320 z320
        obtain ⟨rfl, N320, e320⟩ := hQ320
        have M320 := Fr.app M317 N320
        have g321 : Goes p e below S0 (T320.setTop (mkF m 152 #[iv i0, iv i1, iv i2, iv (2 : Int32), iv (2 : Int32), iv mg, rv b121, rv b131, iv (1 : Int32)] [(.int (f_alf  ((2 : Int64) + (2 : Int64))))])) := fun t k => g319 t (st320.trans k)
        have g322 : Goes p e below S0 (T320.setTop (mkF m 176 #[iv i0, iv i1, iv i2, iv (2 : Int32), iv (2 : Int32), iv mg, rv b121, rv b131, iv (1 : Int32)] [(.int (1 : Int32))])) := fun t k => g321 t (by
          refine XS.iloadN X320.here hx rfl (hb hby at_152) rfl ?_
          show Go p e below t T320 m 153 #[iv i0, iv i1, iv i2, iv (2 : Int32), iv (2 : Int32), iv mg, rv b121, rv b131, iv (1 : Int32)] [(.int (2 : Int32)), (.int (f_alf  ((2 : Int64) + (2 : Int64))))]
          refine XS.iload X320.here hx rfl (hb hby at_153) rfl ?_
          show Go p e below t T320 m 155 #[iv i0, iv i1, iv i2, iv (2 : Int32), iv (2 : Int32), iv mg, rv b121, rv b131, iv (1 : Int32)] [(.int (2 : Int32)), (.int (2 : Int32)), (.int (f_alf  ((2 : Int64) + (2 : Int64))))]
          refine XS.iadd X320.here hx rfl (hb hby at_155) rfl ?_
          rw [show ((2 : Int32) + (2 : Int32)) = (4 : Int32) by decide]
          show Go p e below t T320 m 156 #[iv i0, iv i1, iv i2, iv (2 : Int32), iv (2 : Int32), iv mg, rv b121, rv b131, iv (1 : Int32)] [(.int (4 : Int32)), (.int (f_alf  ((2 : Int64) + (2 : Int64))))]
          refine XS.ifYes X320.here hx rfl (pc0 := 156) (pc' := 163) rfl (hb hby at_156) rfl (XT.i0_ne_t (by decide)) (by decide) (by decide) ?_
          show Go p e below t T320 m 163 #[iv i0, iv i1, iv i2, iv (2 : Int32), iv (2 : Int32), iv mg, rv b121, rv b131, iv (1 : Int32)] [(.int (f_alf  ((2 : Int64) + (2 : Int64))))]
          refine XT.iconstV X320.here hx rfl (0 : Int32) (hb hby at_163) (by decide) ?_
          show Go p e below t T320 m 164 #[iv i0, iv i1, iv i2, iv (2 : Int32), iv (2 : Int32), iv mg, rv b121, rv b131, iv (1 : Int32)] [(.int (0 : Int32)), (.int (f_alf  ((2 : Int64) + (2 : Int64))))]
          refine XS.icmpNo X320.here hx rfl (hb hby at_164) rfl (XT.ii_ne_f (by decide)) ?_
          show Go p e below t T320 m 167 #[iv i0, iv i1, iv i2, iv (2 : Int32), iv (2 : Int32), iv mg, rv b121, rv b131, iv (1 : Int32)] []
          refine XT.iconstV X320.here hx rfl (1 : Int32) (hb hby at_167) (by decide) ?_
          show Go p e below t T320 m 168 #[iv i0, iv i1, iv i2, iv (2 : Int32), iv (2 : Int32), iv mg, rv b121, rv b131, iv (1 : Int32)] [(.int (1 : Int32))]
          refine XS.goto X320.here hx rfl (pc0 := 168) (pc' := 172) rfl (hb hby at_168) (by decide) (by decide) ?_
          show Go p e below t T320 m 172 #[iv i0, iv i1, iv i2, iv (2 : Int32), iv (2 : Int32), iv mg, rv b121, rv b131, iv (1 : Int32)] [(.int (1 : Int32))]
          refine XS.istore X320.here hx rfl (hb hby at_172) rfl (l' := #[iv i0, iv i1, iv i2, iv (2 : Int32), iv (2 : Int32), iv mg, rv b121, rv b131, iv (1 : Int32)]) rfl ?_
          show Go p e below t T320 m 174 #[iv i0, iv i1, iv i2, iv (2 : Int32), iv (2 : Int32), iv mg, rv b121, rv b131, iv (1 : Int32)] []
          refine XS.iload X320.here hx rfl (hb hby at_174) rfl ?_
          show Go p e below t T320 m 176 #[iv i0, iv i1, iv i2, iv (2 : Int32), iv (2 : Int32), iv mg, rv b121, rv b131, iv (1 : Int32)] [(.int (1 : Int32))]
          exact k)
        obtain ⟨fs, hr, hrun, hended, hW, hsame⟩ := X320.leave (v := some (.int (1 : Int32))) (fun h => by rw [Bd.returns] at h; cases h)
        refine ⟨_, _, g322 _ (retN X320 hx (t := .boolean) Bd.returns (by simp) (hb hby at_176) hr), hrun, hended, _, _, rfl, ?_, ⟨_, rfl⟩, hW, hsame.mono (by decide) (by decide)⟩
        show Q_law Z i0 i1 i2 sz h0 n0 _ T320.heap _
        rw [e320]
        exact ⟨rfl, M320⟩
theorem own_one (a b c : Int32) : f_law a b c = 1 := rfl
set_option maxRecDepth 65536 in
set_option maxHeartbeats 40000000 in
theorem comes_1 {Post : Tables → Env → Array Value → State → Outcome → State → Prop} (hpost : ∀ tb e args s v u, (limb_1_1.after args s (.returned v) u = true ∧ limb_1_2.after args s (.returned v) u = true ∧ True) → FrameEnd s (.returned v) u (Jvm.fieldLocs frame_1_writes args s ++ Jvm.arrayLocs frame_1_arrays args s ++ Jvm.staticLocs frame_1_statics s) 16 128 → Post tb e args s (.returned v) u) :
    ArmFor flags0 classFile x code maxLocals ret World_1 tables_1 room_1 Calls_1 rest_1 Pre_1 Post := by
  intro l hfl _ _ p e ha hc hk s m args below hf hA hF happ hP
  obtain ⟨hcalls, hrest, hpre⟩ := hP
  obtain ⟨-, -, -, hnamed, -, -, -, hat⟩ := (Spec.applies_iff hf).mp happ
  obtain ⟨hg, hn⟩ := and_e (Cond.before_iff.mp (show (Jvm.Cond.and given_1 narrow_1).before args s = true from hpre))
  obtain ⟨hcount, q0⟩ := and_e hg
  obtain ⟨b0, q1⟩ := and_e q0
  obtain ⟨b1, q2⟩ := and_e q1
  have b2 := q2
  obtain ⟨w0, w1, w2, rfl⟩ : ∃ w0 w1 w2 : Value, args = #[w0, w1, w2] := by
    have hs : args.size = 3 := by simpa [Cond.value, given_1] using hcount
    obtain ⟨L⟩ := args
    match L, hs with
    | [w0, w1, w2], _ => exact ⟨w0, w1, w2, rfl⟩
  have hw := fun d (hd : d ∈ tables_1) => atoms_spec (ws := Jvm.Cond.code x code maxLocals ret :: tables_1) hat d (List.mem_cons_of_mem _ hd)
  have hfit : Fit s := fun {y c} hc i hi => by
    obtain ⟨ha, rfl⟩ := Array.getElem?_eq_some_iff.mp hc
    have q := List.all_eq_true.mp ((Array.all_eq_true_iff_forall_mem.mp hF) _ (Array.getElem_mem ha)) i (List.mem_range.mpr hi)
    simpa [Array.getElem?_eq_getElem hi] using q
  obtain ⟨i0, r0⟩ := is_v b0
  obtain rfl : w0 = (.int i0) := Option.some.inj r0
  obtain ⟨i1, r1⟩ := is_v b1
  obtain rfl : w1 = (.int i1) := Option.some.inj r1
  obtain ⟨i2, r2⟩ := is_v b2
  obtain rfl : w2 = (.int i2) := Option.some.inj r2
  obtain ⟨nn0, rr0⟩ := and_e (Cond.before_iff.mp (show rest_1_c.before _ s = true from hrest))
  obtain ⟨nn1, rr1⟩ := and_e rr0
  obtain ⟨nn2, rr2⟩ := and_e rr1
  obtain ⟨nn3, rr3⟩ := and_e rr2
  obtain ⟨nn4, rr4⟩ := and_e rr3
  obtain ⟨nn5, rr5⟩ := and_e rr4
  obtain ⟨nn6, rr6⟩ := and_e rr5
  obtain ⟨sz, ev⟩ := exa_v nn4
  have S1 := Sta.start (args := _) ev (Or.inr ⟨hw _ (List.mem_of_getElem? (i := 11) rfl), Cond.before_iff.mpr nn0⟩)
  have E1 := Exa.start ev nn4
  have F1 : Fld s s.heap sz "java/math/BigDecimal" "scale" "I" (.int (0 : Int32)) := Fld.start (own_fldI ev nn5)
  have F2 : Fld s s.heap sz "java/math/BigDecimal" "intCompact" "J" (.long (0 : Int64)) := Fld.start (own_fldJ ev nn6)
  obtain ⟨n, o, h1, h2, h3, v, L, rfl, ⟨hv, N⟩, hq⟩ := rm_law l s _ hw tables_1 i0 i1 i2 sz s.heap s.heap.size (Nat.le_refl _) S1 E1 F1 F2 p e ha hc hk s m _ below hf ((Spec.applies_iff_loose hf).mp happ).1 ⟨rfl, State.Warmed39.refl s, rfl⟩ trivial
  obtain rfl : v = some (.int 1) := by rw [hv, own_one]
  refine ⟨n, _, h1, h2, h3, hpost _ _ _ _ _ _ ⟨Cond.after_iff.mpr rfl, Cond.after_iff.mpr (eq_i res_at (Term.int_eval (1)) rfl), trivial⟩ ⟨hq.1, hq.2.1, (hq.2.2.sift fun y hy => Or.inr (N y hy)).mono (by decide) (by decide)⟩⟩
theorem main_1_1 : Claimed_1_1 := comes_1 fun _ _ _ _ _ _ h hF => ⟨h.1, hF⟩
theorem main_1_2 : Claimed_1_2 := comes_1 fun _ _ _ _ _ _ h hF => ⟨h.2.1, hF⟩
end Jvm.Pilot.@@N@@
namespace Jvm.Pilot.@@N@@
open Jvm Jvm.ClassFile Sem Op Lib Jvm.Free Jvm.Stand Jvm.Pilot.@@N@@.Jvm.D
/-! MADE BY PROGRAM (witnessworld.py) out of the Statement's table words and the real class files: 14 classes; the members and pool entries that the words name. The judged class is class 1, her method 1. -/
namespace start1
open Jvm.ClassFile
def u (s : String) : CpInfo := .utf8 (stringToUtf16 s)
/-- a pool by its gaps: so many unusable entries, then the entry; so many at the end -/
def gap : Nat → List CpInfo → List CpInfo
  | 0, r => r
  | n + 1, r => .unusable :: gap n r
def poolList (es : List (Nat × CpInfo)) (last : Nat) : List CpInfo := es.foldr (fun e r => gap e.1 (e.2 :: r)) (gap last [])
def pool (es : List (Nat × CpInfo)) (last : Nat) : Array CpInfo := ⟨poolList es last⟩
def fileOf (pool : Array CpInfo) (this : Nat) (attrs : Array Attribute := #[]) (ms : Array MethodInfo := #[]) (fl : Nat := 33) (sup : Nat := 0) (ifs : Array Nat := #[]) (fds : Array FieldInfo := #[]) : ClassFile where
  minorVersion := 0
  majorVersion := 65
  constantPool := pool
  accessFlags := fl
  thisClass := this
  superClass := sup
  interfaces := ifs
  fields := fds
  methods := ms
  attributes := attrs
def plain (name : String) (sup : Option ClassId) : Class where
  name := name
  kind := .ordinary
  loader := none
  accessFlags := 33
  super := sup
  interfaces := #[]
  cf := none
  fields := #[]
  methods := #[]
  instanceTypes := #[]
  staticTypes := #[]
  resolved := #[]
  callSites := []
  init := .initialized
  statics := none
  mirror := none

def pool0 : Array CpInfo := pool [(5, u "<init>"), (0, u "()V"), (1, .class_ 10), (1, u "java/lang/Object")] 113

def k0c0 : Code := { maxStack := 0, maxLocals := 1, code := object_method_1_code, exceptionTable := #[], attributes := #[] }
def k0m0 : Method := { name := "<init>", desc := "()V", sig := { parameters := [], returnType := none }, accessFlags := 1, code := some k0c0 }
/-- java/lang/Object -/
def k0 : Class := { plain "java/lang/Object" none with
  accessFlags := 33
  interfaces := #[]
  cf := some (fileOf pool0 8 #[] #[{ accessFlags := 1, nameIndex := 5, descriptorIndex := 6, attributes := #[] }] 33 0 #[] #[])
  fields := #[]
  methods := #[k0m0]
  instanceTypes := #[]
  staticTypes := #[]
  resolved := Array.replicate 124 none
  statics := none }

def pool1 : Array CpInfo := pool [(2, .class_ 4), (0, .nameAndType 5 6), (0, u "java/lang/Object"), (0, u "<init>"), (0, u "()V"), (0, .integer 2147483647), (0, .class_ 9), (0, u "org/volder/cli/Census"), (0, .methodref 8 3), (0, .methodref 8 12), (0, .nameAndType 13 6), (0, u "countUnfaithful"), (0, .methodref 8 15), (0, .nameAndType 16 17), (0, u "allFaithful"), (0, u "()Z"), (0, .methodref 8 19), (0, .nameAndType 20 21), (0, u "add"), (0, u "(Lorg/volder/cli/Census;)V"), (0, .class_ 23), (0, u "org/volder/cli/CensusAllFaithfulPinLaw"), (2, u "law"), (0, u "(III)Z")] 3

def k1m0 : Method := { name := "<init>", desc := "()V", sig := { parameters := [], returnType := none }, accessFlags := 1, code := none }
def k1c1 : Code := { maxStack := 3, maxLocals := 9, code := code, exceptionTable := #[], attributes := #[] }
def k1m1 : Method := { name := "law", desc := "(III)Z", sig := { parameters := [.int, .int, .int], returnType := some .boolean }, accessFlags := 9, code := some k1c1 }
/-- org/volder/cli/CensusAllFaithfulPinLaw -/
def k1 : Class := { plain "org/volder/cli/CensusAllFaithfulPinLaw" (some 0) with
  accessFlags := 49
  interfaces := #[]
  cf := some (fileOf pool1 22 #[] #[{ accessFlags := 1, nameIndex := 5, descriptorIndex := 6, attributes := #[] }, { accessFlags := 9, nameIndex := 26, descriptorIndex := 27, attributes := #[] }] 49 2 #[] #[])
  fields := #[]
  methods := #[k1m0, k1m1]
  instanceTypes := #[]
  staticTypes := #[]
  resolved := Array.replicate 31 none
  statics := none }

def pool2 : Array CpInfo := pool [(1, .methodref 2 3), (0, .class_ 4), (0, .nameAndType 5 6), (0, u "java/lang/Object"), (0, u "<init>"), (0, u "()V"), (0, .fieldref 8 9), (0, .class_ 10), (0, .nameAndType 11 12), (0, u "java/math/BigDecimal"), (0, u "ZERO"), (0, u "Ljava/math/BigDecimal;"), (0, .fieldref 14 15), (0, .class_ 16), (0, .nameAndType 17 12), (0, u "org/volder/cli/Census"), (0, u "maxError"), (0, .class_ 19), (0, u "org/volder/cli/UlpError$Maximum"), (0, .methodref 18 3), (0, .fieldref 14 22), (0, .nameAndType 23 24), (0, u "maxErrorAgainstDoubles"), (0, u "Lorg/volder/cli/UlpError$Maximum;"), (5, u "unfaithful"), (25, .fieldref 14 57), (0, .nameAndType 30 58), (0, u "J"), (6, .fieldref 14 66), (0, .nameAndType 67 68), (0, u "unbounded"), (0, u "Z"), (6, .methodref 8 76), (0, .nameAndType 77 78), (0, u "max"), (0, u "(Ljava/math/BigDecimal;)Ljava/math/BigDecimal;"), (10, u "add"), (1, .methodref 18 92), (0, .nameAndType 89 93), (0, u "(Lorg/volder/cli/UlpError$Maximum;)V"), (18, u "countUnfaithful"), (3, u "(Lorg/volder/cli/Census;)V"), (0, u "allFaithful"), (0, u "()Z")] 20

def k2c0 : Code := { maxStack := 3, maxLocals := 1, code := prog_8_method_1_code, exceptionTable := #[], attributes := #[] }
def k2m0 : Method := { name := "<init>", desc := "()V", sig := { parameters := [], returnType := none }, accessFlags := 0, code := some k2c0 }
def k2c1 : Code := { maxStack := 5, maxLocals := 1, code := prog_8_method_3_code, exceptionTable := #[], attributes := #[] }
def k2m1 : Method := { name := "countUnfaithful", desc := "()V", sig := { parameters := [], returnType := none }, accessFlags := 0, code := some k2c1 }
def k2c2 : Code := { maxStack := 5, maxLocals := 2, code := prog_8_method_6_code, exceptionTable := #[], attributes := #[] }
def k2m2 : Method := { name := "add", desc := "(Lorg/volder/cli/Census;)V", sig := { parameters := [(.object "org/volder/cli/Census")], returnType := none }, accessFlags := 0, code := some k2c2 }
def k2c3 : Code := { maxStack := 4, maxLocals := 1, code := prog_8_method_7_code, exceptionTable := #[], attributes := #[] }
def k2m3 : Method := { name := "allFaithful", desc := "()Z", sig := { parameters := [], returnType := some .boolean }, accessFlags := 0, code := some k2c3 }
/-- org/volder/cli/Census -/
def k2 : Class := { plain "org/volder/cli/Census" (some 0) with
  accessFlags := 48
  interfaces := #[]
  cf := some (fileOf pool2 14 #[] #[{ accessFlags := 0, nameIndex := 5, descriptorIndex := 6, attributes := #[] }, { accessFlags := 0, nameIndex := 112, descriptorIndex := 6, attributes := #[] }, { accessFlags := 0, nameIndex := 89, descriptorIndex := 116, attributes := #[] }, { accessFlags := 0, nameIndex := 117, descriptorIndex := 118, attributes := #[] }] 48 2 #[] #[{ accessFlags := 2, nameIndex := 30, descriptorIndex := 58, attributes := #[] }, { accessFlags := 2, nameIndex := 17, descriptorIndex := 12, attributes := #[] }, { accessFlags := 18, nameIndex := 23, descriptorIndex := 24, attributes := #[] }, { accessFlags := 2, nameIndex := 67, descriptorIndex := 68, attributes := #[] }])
  fields := #[{ name := "unfaithful", type := .long, accessFlags := 2, slot := 0, constantValue := 0 }, { name := "maxError", type := (.object "java/math/BigDecimal"), accessFlags := 2, slot := 1, constantValue := 0 }, { name := "maxErrorAgainstDoubles", type := (.object "org/volder/cli/UlpError$Maximum"), accessFlags := 18, slot := 2, constantValue := 0 }, { name := "unbounded", type := .boolean, accessFlags := 2, slot := 3, constantValue := 0 }]
  methods := #[k2m0, k2m1, k2m2, k2m3]
  instanceTypes := #[.long, (.object "java/math/BigDecimal"), (.object "org/volder/cli/UlpError$Maximum"), .boolean]
  staticTypes := #[]
  resolved := Array.replicate 139 none
  statics := none }

def pool3 : Array CpInfo := pool [(1, .class_ 2), (0, u "java/io/Serializable"), (0, .class_ 4), (0, u "java/lang/Object")] 2

/-- java/io/Serializable -/
def k3 : Class := { plain "java/io/Serializable" (some 0) with
  accessFlags := 1537
  interfaces := #[]
  cf := some (fileOf pool3 1 #[] #[] 1537 3 #[] #[])
  fields := #[]
  methods := #[]
  instanceTypes := #[]
  staticTypes := #[]
  resolved := Array.replicate 7 none
  statics := none }

def pool4 : Array CpInfo := pool [(2, .class_ 4), (1, u "java/lang/Object"), (0, u "<init>"), (0, u "()V"), (1, .class_ 10), (1, u "java/lang/Number"), (2, .class_ 14), (0, u "java/io/Serializable"), (0, u "serialVersionUID"), (0, u "J")] 20

def k4m0 : Method := { name := "<init>", desc := "()V", sig := { parameters := [], returnType := none }, accessFlags := 1, code := none }
/-- java/lang/Number -/
def k4 : Class := { plain "java/lang/Number" (some 0) with
  accessFlags := 1057
  interfaces := #[3]
  cf := some (fileOf pool4 8 #[] #[{ accessFlags := 1, nameIndex := 5, descriptorIndex := 6, attributes := #[] }] 1057 2 #[13] #[{ accessFlags := 26, nameIndex := 15, descriptorIndex := 16, attributes := #[] }])
  fields := #[{ name := "serialVersionUID", type := .long, accessFlags := 26, slot := 0, constantValue := 0 }]
  methods := #[k4m0]
  instanceTypes := #[]
  staticTypes := #[.long]
  resolved := Array.replicate 37 none
  statics := none }

def pool5 : Array CpInfo := pool [(1, .class_ 2), (0, u "java/lang/Comparable"), (0, .class_ 4), (0, u "java/lang/Object")] 7

/-- java/lang/Comparable -/
def k5 : Class := { plain "java/lang/Comparable" (some 0) with
  accessFlags := 1537
  interfaces := #[]
  cf := some (fileOf pool5 1 #[] #[] 1537 3 #[] #[])
  fields := #[]
  methods := #[]
  instanceTypes := #[]
  staticTypes := #[]
  resolved := Array.replicate 12 none
  statics := none }

def pool6 : Array CpInfo := pool [(3, .class_ 4), (0, u "java/math/BigDecimal"), (7, .class_ 14), (1, u "java/lang/Number"), (2, .fieldref 3 18), (0, .nameAndType 19 20), (0, u "scale"), (0, u "I"), (2, u "precision"), (0, .fieldref 3 25), (0, .nameAndType 26 27), (0, u "intCompact"), (0, u "J"), (2, u "intVal"), (0, u "Ljava/math/BigInteger;"), (65, u "LONG_TEN_POWERS_TABLE"), (0, u "[J"), (26, .long 9223372036854775808), (61, u "ZERO"), (2, u "INFLATED_BIGINT"), (15, u "TWO"), (41, u "ZERO_THROUGH_TEN"), (0, u "[Ljava/math/BigDecimal;"), (2, u "ZERO_SCALED_BY"), (16, u "(Ljava/math/BigDecimal;)Ljava/math/BigDecimal;"), (9, u "max"), (33, u "$assertionsDisabled"), (0, u "Z"), (124, u "(Ljava/math/BigDecimal;)I"), (38, u "ONE_TENTH"), (0, u "Ljava/math/BigDecimal;"), (0, .methodref 3 481), (0, .nameAndType 482 439), (0, u "compareTo"), (2, u "TEN"), (14, .class_ 502), (1, u "java/math/BigDecimal$1"), (15, u "ONE_HALF"), (16, u "ONE"), (107, u "stringCache"), (0, u "Ljava/lang/String;"), (52, .class_ 699), (1, u "java/math/BigDecimal$LongOverflow"), (8, u "FLOAT_10_POW"), (0, u "[F"), (39, u "DOUBLE_10_POW"), (0, u "[D"), (19, .class_ 772), (1, u "java/math/BigDecimal$StringBuilderHelper"), (35, u "BIG_TEN_POWERS_TABLE_MAX"), (2, u "BIG_TEN_POWERS_TABLE"), (0, u "[Ljava/math/BigInteger;"), (14, u "THRESHOLDS_TABLE"), (23, .class_ 853), (1, u "java/math/BigDecimal$UnsafeHolder"), (214, u "LONGLONG_TEN_POWERS_TABLE"), (0, u "[[J"), (112, u "BIG_TEN_POWERS_TABLE_INITLEN"), (113, .class_ 1297), (0, u "java/lang/Comparable"), (0, u "L"), (0, u "D"), (1, u "P_F"), (1, u "Q_MIN_F"), (1, u "Q_MAX_F"), (1, u "P_D"), (1, u "Q_MIN_D"), (1, u "Q_MAX_D"), (1, u "INFLATED"), (0, u "MAX_COMPACT_DIGITS"), (1, u "serialVersionUID"), (2, u "HALF_LONG_MAX_VALUE"), (0, u "HALF_LONG_MIN_VALUE"), (0, u "ROUND_UP"), (6, u "ROUND_DOWN"), (1, u "ROUND_CEILING"), (1, u "ROUND_FLOOR"), (1, u "ROUND_HALF_UP"), (1, u "ROUND_HALF_DOWN"), (1, u "ROUND_HALF_EVEN"), (1, u "ROUND_UNNECESSARY"), (1, u "DIV_NUM_BASE")] 294

def k6c0 : Code := { maxStack := 4, maxLocals := 6, code := jdk_17_method_70_code, exceptionTable := #[], attributes := #[] }
def k6m0 : Method := { name := "compareTo", desc := "(Ljava/math/BigDecimal;)I", sig := { parameters := [(.object "java/math/BigDecimal")], returnType := some .int }, accessFlags := 1, code := some k6c0 }
def k6c1 : Code := { maxStack := 2, maxLocals := 2, code := jdk_17_method_74_code, exceptionTable := #[], attributes := #[] }
def k6m1 : Method := { name := "max", desc := "(Ljava/math/BigDecimal;)Ljava/math/BigDecimal;", sig := { parameters := [(.object "java/math/BigDecimal")], returnType := some (.object "java/math/BigDecimal") }, accessFlags := 1, code := some k6c1 }
/-- java/math/BigDecimal -/
def k6 : Class := { plain "java/math/BigDecimal" (some 4) with
  accessFlags := 33
  interfaces := #[5]
  cf := some (fileOf pool6 3 #[.nestMembers #[500, 851, 770, 697]] #[{ accessFlags := 1, nameIndex := 482, descriptorIndex := 439, attributes := #[] }, { accessFlags := 1, nameIndex := 279, descriptorIndex := 269, attributes := #[] }] 33 12 #[1296] #[{ accessFlags := 26, nameIndex := 1298, descriptorIndex := 1299, attributes := #[] }, { accessFlags := 26, nameIndex := 1301, descriptorIndex := 20, attributes := #[] }, { accessFlags := 26, nameIndex := 1303, descriptorIndex := 20, attributes := #[] }, { accessFlags := 26, nameIndex := 1305, descriptorIndex := 20, attributes := #[] }, { accessFlags := 26, nameIndex := 1307, descriptorIndex := 20, attributes := #[] }, { accessFlags := 26, nameIndex := 1309, descriptorIndex := 20, attributes := #[] }, { accessFlags := 26, nameIndex := 1311, descriptorIndex := 20, attributes := #[] }, { accessFlags := 18, nameIndex := 30, descriptorIndex := 31, attributes := #[] }, { accessFlags := 18, nameIndex := 19, descriptorIndex := 20, attributes := #[] }, { accessFlags := 130, nameIndex := 23, descriptorIndex := 20, attributes := #[] }, { accessFlags := 130, nameIndex := 643, descriptorIndex := 644, attributes := #[] }, { accessFlags := 24, nameIndex := 1313, descriptorIndex := 27, attributes := #[] }, { accessFlags := 26, nameIndex := 190, descriptorIndex := 31, attributes := #[] }, { accessFlags := 146, nameIndex := 26, descriptorIndex := 27, attributes := #[] }, { accessFlags := 26, nameIndex := 1314, descriptorIndex := 20, attributes := #[] }, { accessFlags := 26, nameIndex := 1316, descriptorIndex := 27, attributes := #[] }, { accessFlags := 26, nameIndex := 248, descriptorIndex := 249, attributes := #[] }, { accessFlags := 26, nameIndex := 252, descriptorIndex := 249, attributes := #[] }, { accessFlags := 26, nameIndex := 1319, descriptorIndex := 27, attributes := #[] }, { accessFlags := 26, nameIndex := 1320, descriptorIndex := 27, attributes := #[] }, { accessFlags := 25, nameIndex := 187, descriptorIndex := 479, attributes := #[] }, { accessFlags := 25, nameIndex := 535, descriptorIndex := 479, attributes := #[] }, { accessFlags := 25, nameIndex := 206, descriptorIndex := 479, attributes := #[] }, { accessFlags := 25, nameIndex := 485, descriptorIndex := 479, attributes := #[] }, { accessFlags := 26, nameIndex := 478, descriptorIndex := 479, attributes := #[] }, { accessFlags := 26, nameIndex := 518, descriptorIndex := 479, attributes := #[] }, { accessFlags := 25, nameIndex := 1321, descriptorIndex := 20, attributes := #[] }, { accessFlags := 25, nameIndex := 1328, descriptorIndex := 20, attributes := #[] }, { accessFlags := 25, nameIndex := 1330, descriptorIndex := 20, attributes := #[] }, { accessFlags := 25, nameIndex := 1332, descriptorIndex := 20, attributes := #[] }, { accessFlags := 25, nameIndex := 1334, descriptorIndex := 20, attributes := #[] }, { accessFlags := 25, nameIndex := 1336, descriptorIndex := 20, attributes := #[] }, { accessFlags := 25, nameIndex := 1338, descriptorIndex := 20, attributes := #[] }, { accessFlags := 25, nameIndex := 1340, descriptorIndex := 20, attributes := #[] }, { accessFlags := 26, nameIndex := 749, descriptorIndex := 750, attributes := #[] }, { accessFlags := 26, nameIndex := 708, descriptorIndex := 709, attributes := #[] }, { accessFlags := 26, nameIndex := 97, descriptorIndex := 98, attributes := #[] }, { accessFlags := 74, nameIndex := 811, descriptorIndex := 812, attributes := #[] }, { accessFlags := 26, nameIndex := 1182, descriptorIndex := 20, attributes := #[] }, { accessFlags := 26, nameIndex := 808, descriptorIndex := 20, attributes := #[] }, { accessFlags := 26, nameIndex := 827, descriptorIndex := 98, attributes := #[] }, { accessFlags := 26, nameIndex := 1342, descriptorIndex := 27, attributes := #[] }, { accessFlags := 26, nameIndex := 1068, descriptorIndex := 1069, attributes := #[] }, { accessFlags := 4120, nameIndex := 313, descriptorIndex := 314, attributes := #[] }])
  fields := #[{ name := "L", type := .double, accessFlags := 26, slot := 0, constantValue := 0 }, { name := "P_F", type := .int, accessFlags := 26, slot := 1, constantValue := 0 }, { name := "Q_MIN_F", type := .int, accessFlags := 26, slot := 2, constantValue := 0 }, { name := "Q_MAX_F", type := .int, accessFlags := 26, slot := 3, constantValue := 0 }, { name := "P_D", type := .int, accessFlags := 26, slot := 4, constantValue := 0 }, { name := "Q_MIN_D", type := .int, accessFlags := 26, slot := 5, constantValue := 0 }, { name := "Q_MAX_D", type := .int, accessFlags := 26, slot := 6, constantValue := 0 }, { name := "intVal", type := (.object "java/math/BigInteger"), accessFlags := 18, slot := 0, constantValue := 0 }, { name := "scale", type := .int, accessFlags := 18, slot := 1, constantValue := 0 }, { name := "precision", type := .int, accessFlags := 130, slot := 2, constantValue := 0 }, { name := "stringCache", type := (.object "java/lang/String"), accessFlags := 130, slot := 3, constantValue := 0 }, { name := "INFLATED", type := .long, accessFlags := 24, slot := 7, constantValue := 0 }, { name := "INFLATED_BIGINT", type := (.object "java/math/BigInteger"), accessFlags := 26, slot := 8, constantValue := 0 }, { name := "intCompact", type := .long, accessFlags := 146, slot := 4, constantValue := 0 }, { name := "MAX_COMPACT_DIGITS", type := .int, accessFlags := 26, slot := 9, constantValue := 0 }, { name := "serialVersionUID", type := .long, accessFlags := 26, slot := 10, constantValue := 0 }, { name := "ZERO_THROUGH_TEN", type := (.array (.object "java/math/BigDecimal")), accessFlags := 26, slot := 11, constantValue := 0 }, { name := "ZERO_SCALED_BY", type := (.array (.object "java/math/BigDecimal")), accessFlags := 26, slot := 12, constantValue := 0 }, { name := "HALF_LONG_MAX_VALUE", type := .long, accessFlags := 26, slot := 13, constantValue := 0 }, { name := "HALF_LONG_MIN_VALUE", type := .long, accessFlags := 26, slot := 14, constantValue := 0 }, { name := "ZERO", type := (.object "java/math/BigDecimal"), accessFlags := 25, slot := 15, constantValue := 0 }, { name := "ONE", type := (.object "java/math/BigDecimal"), accessFlags := 25, slot := 16, constantValue := 0 }, { name := "TWO", type := (.object "java/math/BigDecimal"), accessFlags := 25, slot := 17, constantValue := 0 }, { name := "TEN", type := (.object "java/math/BigDecimal"), accessFlags := 25, slot := 18, constantValue := 0 }, { name := "ONE_TENTH", type := (.object "java/math/BigDecimal"), accessFlags := 26, slot := 19, constantValue := 0 }, { name := "ONE_HALF", type := (.object "java/math/BigDecimal"), accessFlags := 26, slot := 20, constantValue := 0 }, { name := "ROUND_UP", type := .int, accessFlags := 25, slot := 21, constantValue := 0 }, { name := "ROUND_DOWN", type := .int, accessFlags := 25, slot := 22, constantValue := 0 }, { name := "ROUND_CEILING", type := .int, accessFlags := 25, slot := 23, constantValue := 0 }, { name := "ROUND_FLOOR", type := .int, accessFlags := 25, slot := 24, constantValue := 0 }, { name := "ROUND_HALF_UP", type := .int, accessFlags := 25, slot := 25, constantValue := 0 }, { name := "ROUND_HALF_DOWN", type := .int, accessFlags := 25, slot := 26, constantValue := 0 }, { name := "ROUND_HALF_EVEN", type := .int, accessFlags := 25, slot := 27, constantValue := 0 }, { name := "ROUND_UNNECESSARY", type := .int, accessFlags := 25, slot := 28, constantValue := 0 }, { name := "DOUBLE_10_POW", type := (.array .double), accessFlags := 26, slot := 29, constantValue := 0 }, { name := "FLOAT_10_POW", type := (.array .float), accessFlags := 26, slot := 30, constantValue := 0 }, { name := "LONG_TEN_POWERS_TABLE", type := (.array .long), accessFlags := 26, slot := 31, constantValue := 0 }, { name := "BIG_TEN_POWERS_TABLE", type := (.array (.object "java/math/BigInteger")), accessFlags := 74, slot := 32, constantValue := 0 }, { name := "BIG_TEN_POWERS_TABLE_INITLEN", type := .int, accessFlags := 26, slot := 33, constantValue := 0 }, { name := "BIG_TEN_POWERS_TABLE_MAX", type := .int, accessFlags := 26, slot := 34, constantValue := 0 }, { name := "THRESHOLDS_TABLE", type := (.array .long), accessFlags := 26, slot := 35, constantValue := 0 }, { name := "DIV_NUM_BASE", type := .long, accessFlags := 26, slot := 36, constantValue := 0 }, { name := "LONGLONG_TEN_POWERS_TABLE", type := (.array (.array .long)), accessFlags := 26, slot := 37, constantValue := 0 }, { name := "$assertionsDisabled", type := .boolean, accessFlags := 4120, slot := 38, constantValue := 0 }]
  methods := #[k6m0, k6m1]
  instanceTypes := #[(.object "java/math/BigInteger"), .int, .int, (.object "java/lang/String"), .long]
  staticTypes := #[.double, .int, .int, .int, .int, .int, .int, .long, (.object "java/math/BigInteger"), .int, .long, (.array (.object "java/math/BigDecimal")), (.array (.object "java/math/BigDecimal")), .long, .long, (.object "java/math/BigDecimal"), (.object "java/math/BigDecimal"), (.object "java/math/BigDecimal"), (.object "java/math/BigDecimal"), (.object "java/math/BigDecimal"), (.object "java/math/BigDecimal"), .int, .int, .int, .int, .int, .int, .int, .int, (.array .double), (.array .float), (.array .long), (.array (.object "java/math/BigInteger")), .int, .int, (.array .long), .long, (.array (.array .long)), .boolean]
  resolved := Array.replicate 1637 none
  statics := some 0 }

def pool7 : Array CpInfo := pool [(1, .class_ 2), (0, u "org/volder/cli/UlpError"), (0, .methodref 4 5), (0, .class_ 6), (0, .nameAndType 7 8), (0, u "java/lang/Object"), (0, u "<init>"), (0, u "()V"), (9, u "D"), (18, .methodref 38 39), (0, .class_ 40), (0, .nameAndType 41 42), (0, u "org/volder/cli/UlpError$Maximum"), (0, u "keep"), (0, u "(DD)V"), (0, .fieldref 38 44), (0, .nameAndType 45 18), (0, u "head"), (0, .fieldref 38 47), (0, .nameAndType 48 18), (0, u "tail"), (7, u "add"), (5, u "(Lorg/volder/cli/UlpError$Maximum;)V")] 7

def k7c0 : Code := { maxStack := 1, maxLocals := 1, code := prog_17_method_1_code, exceptionTable := #[], attributes := #[] }
def k7m0 : Method := { name := "<init>", desc := "()V", sig := { parameters := [], returnType := none }, accessFlags := 0, code := some k7c0 }
def k7c1 : Code := { maxStack := 5, maxLocals := 2, code := prog_17_method_3_code, exceptionTable := #[], attributes := #[] }
def k7m1 : Method := { name := "add", desc := "(Lorg/volder/cli/UlpError$Maximum;)V", sig := { parameters := [(.object "org/volder/cli/UlpError$Maximum")], returnType := none }, accessFlags := 0, code := some k7c1 }
def k7c2 : Code := { maxStack := 4, maxLocals := 5, code := prog_17_method_5_code, exceptionTable := #[], attributes := #[] }
def k7m2 : Method := { name := "keep", desc := "(DD)V", sig := { parameters := [.double, .double], returnType := none }, accessFlags := 2, code := some k7c2 }
/-- org/volder/cli/UlpError$Maximum -/
def k7 : Class := { plain "org/volder/cli/UlpError$Maximum" (some 0) with
  accessFlags := 48
  interfaces := #[]
  cf := some (fileOf pool7 38 #[.nestHost 1] #[{ accessFlags := 0, nameIndex := 7, descriptorIndex := 8, attributes := #[] }, { accessFlags := 0, nameIndex := 56, descriptorIndex := 62, attributes := #[] }, { accessFlags := 2, nameIndex := 41, descriptorIndex := 42, attributes := #[] }] 48 4 #[] #[{ accessFlags := 2, nameIndex := 45, descriptorIndex := 18, attributes := #[] }, { accessFlags := 2, nameIndex := 48, descriptorIndex := 18, attributes := #[] }])
  fields := #[{ name := "head", type := .double, accessFlags := 2, slot := 0, constantValue := 0 }, { name := "tail", type := .double, accessFlags := 2, slot := 1, constantValue := 0 }]
  methods := #[k7m0, k7m1, k7m2]
  instanceTypes := #[.double, .double]
  staticTypes := #[]
  resolved := Array.replicate 70 none
  statics := none }

def pool8 : Array CpInfo := pool [(4, .class_ 6), (1, u "java/lang/Number"), (16, .class_ 25), (1, u "java/math/BigInteger"), (0, u "ZERO"), (0, u "Ljava/math/BigInteger;"), (2, u "mag"), (0, u "[I"), (2, u "signum"), (0, u "I"), (59, u "bitsPerDigit"), (0, u "[J"), (9, u "digitsPerInt"), (12, u "intRadix"), (60, u "SMALL_PRIME_PRODUCT"), (79, u "ONE"), (6, u "TWO"), (43, u "$assertionsDisabled"), (0, u "Z"), (36, u "posConst"), (0, u "[Ljava/math/BigInteger;"), (4, u "negConst"), (116, .class_ 474), (1, u "java/math/BigInteger$RecursiveOp"), (106, u "NEGATIVE_ONE"), (91, u "bnExpModThreshTable"), (72, u "lowestSetBitPlusTwo"), (2, u "bitLengthPlusOne"), (2, u "bitCountPlusOne"), (6, u "LOG_TWO"), (0, u "D"), (2, u "logCache"), (0, u "[D"), (13, u "NUM_ZEROS"), (2, u "ZEROS"), (0, u "Ljava/lang/String;"), (9, u "longRadix"), (5, u "digitsPerLong"), (22, u "powerCache"), (0, u "[[Ljava/math/BigInteger;"), (45, u "firstNonzeroIntNumPlusTwo"), (38, .class_ 909), (1, u "java/math/BigInteger$UnsafeHolder"), (141, u "TEN"), (106, u "serialPersistentFields"), (0, u "[Ljava/io/ObjectStreamField;"), (0, .class_ 1161), (0, u "java/lang/Comparable"), (0, u "LONG_MASK"), (0, u "J"), (1, u "MAX_MAG_LENGTH"), (0, u "PRIME_SEARCH_BIT_LENGTH_LIMIT"), (1, u "KARATSUBA_THRESHOLD"), (1, u "TOOM_COOK_THRESHOLD"), (1, u "KARATSUBA_SQUARE_THRESHOLD"), (1, u "TOOM_COOK_SQUARE_THRESHOLD"), (1, u "BURNIKEL_ZIEGLER_THRESHOLD"), (0, u "BURNIKEL_ZIEGLER_OFFSET"), (1, u "SCHOENHAGE_BASE_CONVERSION_THRESHOLD"), (1, u "MULTIPLY_SQUARE_THRESHOLD"), (0, u "MONTGOMERY_INTRINSIC_THRESHOLD"), (1, u "SMALL_PRIME_THRESHOLD"), (1, u "DEFAULT_PRIME_CERTAINTY"), (1, u "MAX_CONSTANT"), (3, u "serialVersionUID"), (338, .class_ 1532), (0, u "java/math/BigInteger$RecursiveOp$RecursiveSquare"), (0, .class_ 1534), (0, u "java/math/BigInteger$RecursiveOp$RecursiveMultiply")] 7

/-- java/math/BigInteger -/
def k8 : Class := { plain "java/math/BigInteger" (some 4) with
  accessFlags := 33
  interfaces := #[5]
  cf := some (fileOf pool8 23 #[.nestMembers #[907, 472, 1531, 1533]] #[] 33 4 #[1160] #[{ accessFlags := 16, nameIndex := 34, descriptorIndex := 35, attributes := #[] }, { accessFlags := 16, nameIndex := 30, descriptorIndex := 31, attributes := #[] }, { accessFlags := 2, nameIndex := 752, descriptorIndex := 35, attributes := #[] }, { accessFlags := 2, nameIndex := 749, descriptorIndex := 35, attributes := #[] }, { accessFlags := 2, nameIndex := 746, descriptorIndex := 35, attributes := #[] }, { accessFlags := 2, nameIndex := 868, descriptorIndex := 35, attributes := #[] }, { accessFlags := 24, nameIndex := 1162, descriptorIndex := 1163, attributes := #[] }, { accessFlags := 26, nameIndex := 1165, descriptorIndex := 35, attributes := #[] }, { accessFlags := 26, nameIndex := 1166, descriptorIndex := 35, attributes := #[] }, { accessFlags := 26, nameIndex := 1168, descriptorIndex := 35, attributes := #[] }, { accessFlags := 26, nameIndex := 1170, descriptorIndex := 35, attributes := #[] }, { accessFlags := 26, nameIndex := 1172, descriptorIndex := 35, attributes := #[] }, { accessFlags := 26, nameIndex := 1174, descriptorIndex := 35, attributes := #[] }, { accessFlags := 24, nameIndex := 1176, descriptorIndex := 35, attributes := #[] }, { accessFlags := 24, nameIndex := 1177, descriptorIndex := 35, attributes := #[] }, { accessFlags := 26, nameIndex := 1179, descriptorIndex := 35, attributes := #[] }, { accessFlags := 26, nameIndex := 1181, descriptorIndex := 35, attributes := #[] }, { accessFlags := 26, nameIndex := 1182, descriptorIndex := 35, attributes := #[] }, { accessFlags := 10, nameIndex := 95, descriptorIndex := 96, attributes := #[] }, { accessFlags := 26, nameIndex := 1184, descriptorIndex := 35, attributes := #[] }, { accessFlags := 26, nameIndex := 1186, descriptorIndex := 35, attributes := #[] }, { accessFlags := 26, nameIndex := 180, descriptorIndex := 27, attributes := #[] }, { accessFlags := 26, nameIndex := 1188, descriptorIndex := 35, attributes := #[] }, { accessFlags := 26, nameIndex := 349, descriptorIndex := 350, attributes := #[] }, { accessFlags := 26, nameIndex := 355, descriptorIndex := 350, attributes := #[] }, { accessFlags := 74, nameIndex := 821, descriptorIndex := 822, attributes := #[] }, { accessFlags := 26, nameIndex := 763, descriptorIndex := 764, attributes := #[] }, { accessFlags := 26, nameIndex := 759, descriptorIndex := 760, attributes := #[] }, { accessFlags := 25, nameIndex := 26, descriptorIndex := 27, attributes := #[] }, { accessFlags := 25, nameIndex := 260, descriptorIndex := 27, attributes := #[] }, { accessFlags := 25, nameIndex := 267, descriptorIndex := 27, attributes := #[] }, { accessFlags := 26, nameIndex := 581, descriptorIndex := 27, attributes := #[] }, { accessFlags := 25, nameIndex := 1051, descriptorIndex := 27, attributes := #[] }, { accessFlags := 8, nameIndex := 673, descriptorIndex := 31, attributes := #[] }, { accessFlags := 10, nameIndex := 778, descriptorIndex := 35, attributes := #[] }, { accessFlags := 26, nameIndex := 781, descriptorIndex := 782, attributes := #[] }, { accessFlags := 10, nameIndex := 798, descriptorIndex := 31, attributes := #[] }, { accessFlags := 10, nameIndex := 792, descriptorIndex := 350, attributes := #[] }, { accessFlags := 10, nameIndex := 106, descriptorIndex := 31, attributes := #[] }, { accessFlags := 10, nameIndex := 119, descriptorIndex := 31, attributes := #[] }, { accessFlags := 26, nameIndex := 1192, descriptorIndex := 1163, attributes := #[] }, { accessFlags := 26, nameIndex := 1158, descriptorIndex := 1159, attributes := #[] }, { accessFlags := 4120, nameIndex := 311, descriptorIndex := 312, attributes := #[] }])
  fields := #[{ name := "signum", type := .int, accessFlags := 16, slot := 0, constantValue := 0 }, { name := "mag", type := (.array .int), accessFlags := 16, slot := 1, constantValue := 0 }, { name := "bitCountPlusOne", type := .int, accessFlags := 2, slot := 2, constantValue := 0 }, { name := "bitLengthPlusOne", type := .int, accessFlags := 2, slot := 3, constantValue := 0 }, { name := "lowestSetBitPlusTwo", type := .int, accessFlags := 2, slot := 4, constantValue := 0 }, { name := "firstNonzeroIntNumPlusTwo", type := .int, accessFlags := 2, slot := 5, constantValue := 0 }, { name := "LONG_MASK", type := .long, accessFlags := 24, slot := 0, constantValue := 0 }, { name := "MAX_MAG_LENGTH", type := .int, accessFlags := 26, slot := 1, constantValue := 0 }, { name := "PRIME_SEARCH_BIT_LENGTH_LIMIT", type := .int, accessFlags := 26, slot := 2, constantValue := 0 }, { name := "KARATSUBA_THRESHOLD", type := .int, accessFlags := 26, slot := 3, constantValue := 0 }, { name := "TOOM_COOK_THRESHOLD", type := .int, accessFlags := 26, slot := 4, constantValue := 0 }, { name := "KARATSUBA_SQUARE_THRESHOLD", type := .int, accessFlags := 26, slot := 5, constantValue := 0 }, { name := "TOOM_COOK_SQUARE_THRESHOLD", type := .int, accessFlags := 26, slot := 6, constantValue := 0 }, { name := "BURNIKEL_ZIEGLER_THRESHOLD", type := .int, accessFlags := 24, slot := 7, constantValue := 0 }, { name := "BURNIKEL_ZIEGLER_OFFSET", type := .int, accessFlags := 24, slot := 8, constantValue := 0 }, { name := "SCHOENHAGE_BASE_CONVERSION_THRESHOLD", type := .int, accessFlags := 26, slot := 9, constantValue := 0 }, { name := "MULTIPLY_SQUARE_THRESHOLD", type := .int, accessFlags := 26, slot := 10, constantValue := 0 }, { name := "MONTGOMERY_INTRINSIC_THRESHOLD", type := .int, accessFlags := 26, slot := 11, constantValue := 0 }, { name := "bitsPerDigit", type := (.array .long), accessFlags := 10, slot := 12, constantValue := 0 }, { name := "SMALL_PRIME_THRESHOLD", type := .int, accessFlags := 26, slot := 13, constantValue := 0 }, { name := "DEFAULT_PRIME_CERTAINTY", type := .int, accessFlags := 26, slot := 14, constantValue := 0 }, { name := "SMALL_PRIME_PRODUCT", type := (.object "java/math/BigInteger"), accessFlags := 26, slot := 15, constantValue := 0 }, { name := "MAX_CONSTANT", type := .int, accessFlags := 26, slot := 16, constantValue := 0 }, { name := "posConst", type := (.array (.object "java/math/BigInteger")), accessFlags := 26, slot := 17, constantValue := 0 }, { name := "negConst", type := (.array (.object "java/math/BigInteger")), accessFlags := 26, slot := 18, constantValue := 0 }, { name := "powerCache", type := (.array (.array (.object "java/math/BigInteger"))), accessFlags := 74, slot := 19, constantValue := 0 }, { name := "logCache", type := (.array .double), accessFlags := 26, slot := 20, constantValue := 0 }, { name := "LOG_TWO", type := .double, accessFlags := 26, slot := 21, constantValue := 0 }, { name := "ZERO", type := (.object "java/math/BigInteger"), accessFlags := 25, slot := 22, constantValue := 0 }, { name := "ONE", type := (.object "java/math/BigInteger"), accessFlags := 25, slot := 23, constantValue := 0 }, { name := "TWO", type := (.object "java/math/BigInteger"), accessFlags := 25, slot := 24, constantValue := 0 }, { name := "NEGATIVE_ONE", type := (.object "java/math/BigInteger"), accessFlags := 26, slot := 25, constantValue := 0 }, { name := "TEN", type := (.object "java/math/BigInteger"), accessFlags := 25, slot := 26, constantValue := 0 }, { name := "bnExpModThreshTable", type := (.array .int), accessFlags := 8, slot := 27, constantValue := 0 }, { name := "NUM_ZEROS", type := .int, accessFlags := 10, slot := 28, constantValue := 0 }, { name := "ZEROS", type := (.object "java/lang/String"), accessFlags := 26, slot := 29, constantValue := 0 }, { name := "digitsPerLong", type := (.array .int), accessFlags := 10, slot := 30, constantValue := 0 }, { name := "longRadix", type := (.array (.object "java/math/BigInteger")), accessFlags := 10, slot := 31, constantValue := 0 }, { name := "digitsPerInt", type := (.array .int), accessFlags := 10, slot := 32, constantValue := 0 }, { name := "intRadix", type := (.array .int), accessFlags := 10, slot := 33, constantValue := 0 }, { name := "serialVersionUID", type := .long, accessFlags := 26, slot := 34, constantValue := 0 }, { name := "serialPersistentFields", type := (.array (.object "java/io/ObjectStreamField")), accessFlags := 26, slot := 35, constantValue := 0 }, { name := "$assertionsDisabled", type := .boolean, accessFlags := 4120, slot := 36, constantValue := 0 }]
  methods := #[]
  instanceTypes := #[.int, (.array .int), .int, .int, .int, .int]
  staticTypes := #[.long, .int, .int, .int, .int, .int, .int, .int, .int, .int, .int, .int, (.array .long), .int, .int, (.object "java/math/BigInteger"), .int, (.array (.object "java/math/BigInteger")), (.array (.object "java/math/BigInteger")), (.array (.array (.object "java/math/BigInteger"))), (.array .double), .double, (.object "java/math/BigInteger"), (.object "java/math/BigInteger"), (.object "java/math/BigInteger"), (.object "java/math/BigInteger"), (.object "java/math/BigInteger"), (.array .int), .int, (.object "java/lang/String"), (.array .int), (.array (.object "java/math/BigInteger")), (.array .int), (.array .int), .long, (.array (.object "java/io/ObjectStreamField")), .boolean]
  resolved := Array.replicate 1542 none
  statics := some 1 }

def pool9 : Array CpInfo := pool [(1, u "java/lang/Cloneable"), (0, .class_ 1), (0, u "java/lang/Object"), (0, .class_ 3)] 3

/-- java/lang/Cloneable -/
def k9 : Class := { plain "java/lang/Cloneable" (some 0) with
  accessFlags := 1537
  interfaces := #[]
  cf := some (fileOf pool9 2 #[] #[] 1537 4 #[] #[])
  fields := #[]
  methods := #[]
  instanceTypes := #[]
  staticTypes := #[]
  resolved := Array.replicate 8 none
  statics := none }

/-- the primitive byte -/
def k10 : Class := { plain "byte" none with kind := .primitive 'B', accessFlags := 0x411 }
/-- [B -/
def k11 : Class := { plain "[B" (some 0) with kind := .array 10 .byte, interfaces := #[9, 3], accessFlags := 1041 }

/-- the primitive int -/
def k12 : Class := { plain "int" none with kind := .primitive 'I', accessFlags := 0x411 }
/-- [I -/
def k13 : Class := { plain "[I" (some 0) with kind := .array 12 .int, interfaces := #[9, 3], accessFlags := 1041 }

def heap : Heap := #[{ cls := 6, slots := #[.double 0, .int 0, .int 0, .int 0, .int 0, .int 0, .int 0, .long 0, .null, .int 0, .long 0, .null, .null, .long 0, .long 0, .ref 4, .null, .null, .null, .null, .null, .int 0, .int 0, .int 0, .int 0, .int 0, .int 0, .int 0, .int 0, .null, .null, .null, .null, .int 0, .int 0, .null, .long 0, .null, .int 0], vm := .statics 6 },
  { cls := 8, slots := #[.long 0, .int 0, .int 0, .int 0, .int 0, .int 0, .int 0, .int 0, .int 0, .int 0, .int 0, .int 0, .null, .int 0, .int 0, .null, .int 0, .null, .null, .null, .null, .double 0, .ref 3, .null, .null, .null, .null, .null, .int 0, .null, .null, .null, .null, .null, .long 0, .null, .int 0], vm := .statics 8 },
  { cls := 13, slots := #[], vm := .none },
  { cls := 8, slots := #[.int 0, .ref 2, .int 0, .int 0, .int 0, .int 0], vm := .none },
  { cls := 6, slots := #[.ref 3, .int 0, .int 0, .null, .long 0], vm := .none }]
def classes : Array Class := #[k0, k1, k2, k3, k4, k5, k6, k7, k8, k9, k10, k11, k12, k13]
def interned : List (Array UInt16 × Addr) := []
def slotsUsed : Nat := 87
def theMethod : MethodId := ⟨1, 1⟩
def args0 : Array Value := #[.int 5, .int 7, .int 1]
def aboutOver (below : List Frame) : State where
  vm := { classes := classes, interned := interned.toArray }
  heap := heap
  slotsUsed := slotsUsed
  threads := #[{ frames := .invoking theMethod args0 :: below }]
def below0 : List Frame := [.native { method := ⟨0, 0⟩, args := #[] }]
def about1 : State := aboutOver below0
def p0 : Program := .bare "" "" ""
def e0 : Env := launch0.env 0 0 0
theorem w_frames : about1.frames = Frame.invoking theMethod args0 :: below0 := rfl
set_option maxRecDepth 65536 in
theorem w_args : argsFit about1.vm theMethod args0 = true := by decide +kernel
set_option maxRecDepth 65536 in
theorem w_heap : heapFits about1 = true := by decide +kernel
set_option maxRecDepth 65536 in
theorem w_runnable : about1.curStatus? = some .runnable := by decide +kernel
set_option maxRecDepth 65536 in
theorem w_alone : about1.alone = true := by decide +kernel
set_option maxRecDepth 65536 in
theorem w_named : about1.methodNamed? x = some theMethod := by decide +kernel
set_option maxRecDepth 65536 in
theorem w_hears : about1.hears theMethod below0 = true := by decide +kernel
set_option maxRecDepth 65536 in
theorem w_ripe : about1.ripe theMethod args0 below0 = true := by decide +kernel
theorem w_running : about1.status = .running := rfl
set_option maxRecDepth 65536 in
theorem w_room : about1.hasRoom e0.platform room_1 = true :=
  launch0.hasRoom_least _ room_1 (by decide +kernel) (by decide +kernel) (by decide +kernel) (by decide +kernel) (by decide +kernel) (by decide +kernel)
theorem allAtoms_all (ts : List Jvm.Cond) (a : Array Jvm.Value) (st : Jvm.State) : (allAtoms ts).before a st = ts.all (fun c => c.before a st) := by
  induction ts with
  | nil => rfl
  | cons c t ih =>
    show (Jvm.Cond.and c (allAtoms t)).before a st = _
    rw [Jvm.Cond.before_and, ih, List.all_cons]
def words1 : List Jvm.Cond := Jvm.Cond.code x code maxLocals ret :: tables_1
/-- a 'code' word, met by the world's own term for the bytes: nothing is compared byte by byte -/
theorem code_word {y : MethodName} {bytes : ByteArray} {mx : Nat} {rt : Option FieldType} {a : Array Value} {s : State} {m : MethodId} {meth : Method} {c : Code} (h1 : s.methodNamed? y = some m) (h2 : s.vm.method? m = some meth) (h3 : meth.code = some c) (h4 : c.code = bytes)
    (h5 : (c.maxLocals == mx && c.exceptionTable.isEmpty && decide (c.maxStack ≤ mostOperands) && decide (meth.sig.returnType = rt) && !meth.locks && decide (parseMethodDescriptor y.desc = some meth.sig)) = true) : (Jvm.Cond.code y bytes mx rt).before a s = true := by
  simp only [Bool.and_eq_true, beq_iff_eq, Bool.not_eq_true', decide_eq_true_eq] at h5
  obtain ⟨⟨⟨⟨⟨g1, g2⟩, g3⟩, g4⟩, g5⟩, g6⟩ := h5
  simp [Cond.before, Cond.holds, Cond.value, h1, h2, h3, h4, g1, g2, g3, g4, g5, g6]
def isCode : Jvm.Cond → Bool
  | .code _ _ _ _ => true
  | _ => false
theorem all_split {L : List Jvm.Cond} {P : Jvm.Cond → Bool} (h1 : L.all (fun c => isCode c || P c) = true) (h2 : ∀ c ∈ L.filter isCode, P c = true) : L.all P = true := by
  refine List.all_eq_true.mpr fun c hc => ?_
  have h := List.all_eq_true.mp h1 c hc
  rcases Bool.eq_false_or_eq_true (isCode c) with hi | hi
  · exact h2 c (List.mem_filter.mpr ⟨hc, hi⟩)
  · simpa [hi] using h
set_option maxRecDepth 65536 in
theorem w_c0 : (Jvm.Cond.code x code maxLocals ret).before args0 about1 = true := code_word (m := ⟨1, 1⟩) (meth := k1m1) (c := k1c1) (by decide +kernel) rfl rfl rfl (by decide +kernel)
set_option maxRecDepth 65536 in
theorem w_c1 : (Jvm.Cond.code ({ cls := "org/volder/cli/Census", name := "<init>", desc := "()V" } : Jvm.MethodName) prog_8_method_1_code (1 : Nat) (Option.none : Option Jvm.ClassFile.FieldType)).before args0 about1 = true := code_word (m := ⟨2, 0⟩) (meth := k2m0) (c := k2c0) (by decide +kernel) rfl rfl rfl (by decide +kernel)
set_option maxRecDepth 65536 in
theorem w_c2 : (Jvm.Cond.code ({ cls := "java/lang/Object", name := "<init>", desc := "()V" } : Jvm.MethodName) object_method_1_code (1 : Nat) (Option.none : Option Jvm.ClassFile.FieldType)).before args0 about1 = true := code_word (m := ⟨0, 0⟩) (meth := k0m0) (c := k0c0) (by decide +kernel) rfl rfl rfl (by decide +kernel)
set_option maxRecDepth 65536 in
theorem w_c3 : (Jvm.Cond.code ({ cls := "org/volder/cli/UlpError$Maximum", name := "<init>", desc := "()V" } : Jvm.MethodName) prog_17_method_1_code (1 : Nat) (Option.none : Option Jvm.ClassFile.FieldType)).before args0 about1 = true := code_word (m := ⟨7, 0⟩) (meth := k7m0) (c := k7c0) (by decide +kernel) rfl rfl rfl (by decide +kernel)
set_option maxRecDepth 65536 in
theorem w_c4 : (Jvm.Cond.code ({ cls := "org/volder/cli/Census", name := "allFaithful", desc := "()Z" } : Jvm.MethodName) prog_8_method_7_code (1 : Nat) (Option.some Jvm.ClassFile.FieldType.boolean)).before args0 about1 = true := code_word (m := ⟨2, 3⟩) (meth := k2m3) (c := k2c3) (by decide +kernel) rfl rfl rfl (by decide +kernel)
set_option maxRecDepth 65536 in
theorem w_c5 : (Jvm.Cond.code ({ cls := "org/volder/cli/Census", name := "countUnfaithful", desc := "()V" } : Jvm.MethodName) prog_8_method_3_code (1 : Nat) (Option.none : Option Jvm.ClassFile.FieldType)).before args0 about1 = true := code_word (m := ⟨2, 1⟩) (meth := k2m1) (c := k2c1) (by decide +kernel) rfl rfl rfl (by decide +kernel)
set_option maxRecDepth 65536 in
theorem w_c6 : (Jvm.Cond.code ({ cls := "org/volder/cli/Census", name := "add", desc := "(Lorg/volder/cli/Census;)V" } : Jvm.MethodName) prog_8_method_6_code (2 : Nat) (Option.none : Option Jvm.ClassFile.FieldType)).before args0 about1 = true := code_word (m := ⟨2, 2⟩) (meth := k2m2) (c := k2c2) (by decide +kernel) rfl rfl rfl (by decide +kernel)
set_option maxRecDepth 65536 in
theorem w_c7 : (Jvm.Cond.code ({ cls := "java/math/BigDecimal", name := "max", desc := "(Ljava/math/BigDecimal;)Ljava/math/BigDecimal;" } : Jvm.MethodName) jdk_17_method_74_code (2 : Nat) (Option.some (Jvm.ClassFile.FieldType.object "java/math/BigDecimal"))).before args0 about1 = true := code_word (m := ⟨6, 1⟩) (meth := k6m1) (c := k6c1) (by decide +kernel) rfl rfl rfl (by decide +kernel)
set_option maxRecDepth 65536 in
theorem w_c8 : (Jvm.Cond.code ({ cls := "java/math/BigDecimal", name := "compareTo", desc := "(Ljava/math/BigDecimal;)I" } : Jvm.MethodName) jdk_17_method_70_code (6 : Nat) (Option.some Jvm.ClassFile.FieldType.int)).before args0 about1 = true := code_word (m := ⟨6, 0⟩) (meth := k6m0) (c := k6c0) (by decide +kernel) rfl rfl rfl (by decide +kernel)
set_option maxRecDepth 65536 in
theorem w_c9 : (Jvm.Cond.code ({ cls := "org/volder/cli/UlpError$Maximum", name := "add", desc := "(Lorg/volder/cli/UlpError$Maximum;)V" } : Jvm.MethodName) prog_17_method_3_code (2 : Nat) (Option.none : Option Jvm.ClassFile.FieldType)).before args0 about1 = true := code_word (m := ⟨7, 1⟩) (meth := k7m1) (c := k7c1) (by decide +kernel) rfl rfl rfl (by decide +kernel)
set_option maxRecDepth 65536 in
theorem w_c10 : (Jvm.Cond.code ({ cls := "org/volder/cli/UlpError$Maximum", name := "keep", desc := "(DD)V" } : Jvm.MethodName) prog_17_method_5_code (5 : Nat) (Option.none : Option Jvm.ClassFile.FieldType)).before args0 about1 = true := code_word (m := ⟨7, 2⟩) (meth := k7m2) (c := k7c2) (by decide +kernel) rfl rfl rfl (by decide +kernel)
def codes1 : List Jvm.Cond := [Jvm.Cond.code x code maxLocals ret, Jvm.Cond.code ({ cls := "org/volder/cli/Census", name := "<init>", desc := "()V" } : Jvm.MethodName) prog_8_method_1_code (1 : Nat) (Option.none : Option Jvm.ClassFile.FieldType), Jvm.Cond.code ({ cls := "java/lang/Object", name := "<init>", desc := "()V" } : Jvm.MethodName) object_method_1_code (1 : Nat) (Option.none : Option Jvm.ClassFile.FieldType), Jvm.Cond.code ({ cls := "org/volder/cli/UlpError$Maximum", name := "<init>", desc := "()V" } : Jvm.MethodName) prog_17_method_1_code (1 : Nat) (Option.none : Option Jvm.ClassFile.FieldType), Jvm.Cond.code ({ cls := "org/volder/cli/Census", name := "allFaithful", desc := "()Z" } : Jvm.MethodName) prog_8_method_7_code (1 : Nat) (Option.some Jvm.ClassFile.FieldType.boolean), Jvm.Cond.code ({ cls := "org/volder/cli/Census", name := "countUnfaithful", desc := "()V" } : Jvm.MethodName) prog_8_method_3_code (1 : Nat) (Option.none : Option Jvm.ClassFile.FieldType), Jvm.Cond.code ({ cls := "org/volder/cli/Census", name := "add", desc := "(Lorg/volder/cli/Census;)V" } : Jvm.MethodName) prog_8_method_6_code (2 : Nat) (Option.none : Option Jvm.ClassFile.FieldType), Jvm.Cond.code ({ cls := "java/math/BigDecimal", name := "max", desc := "(Ljava/math/BigDecimal;)Ljava/math/BigDecimal;" } : Jvm.MethodName) jdk_17_method_74_code (2 : Nat) (Option.some (Jvm.ClassFile.FieldType.object "java/math/BigDecimal")), Jvm.Cond.code ({ cls := "java/math/BigDecimal", name := "compareTo", desc := "(Ljava/math/BigDecimal;)I" } : Jvm.MethodName) jdk_17_method_70_code (6 : Nat) (Option.some Jvm.ClassFile.FieldType.int), Jvm.Cond.code ({ cls := "org/volder/cli/UlpError$Maximum", name := "add", desc := "(Lorg/volder/cli/UlpError$Maximum;)V" } : Jvm.MethodName) prog_17_method_3_code (2 : Nat) (Option.none : Option Jvm.ClassFile.FieldType), Jvm.Cond.code ({ cls := "org/volder/cli/UlpError$Maximum", name := "keep", desc := "(DD)V" } : Jvm.MethodName) prog_17_method_5_code (5 : Nat) (Option.none : Option Jvm.ClassFile.FieldType)]
set_option maxRecDepth 65536 in
theorem codes_eq : words1.filter isCode = codes1 := rfl
theorem w_codes : ∀ c ∈ words1.filter isCode, c.before args0 about1 = true := by
  rw [codes_eq]
  intro c hc
  simp only [codes1, List.mem_cons, List.not_mem_nil, or_false] at hc
  rcases hc with rfl | rfl | rfl | rfl | rfl | rfl | rfl | rfl | rfl | rfl | rfl
  · exact w_c0
  · exact w_c1
  · exact w_c2
  · exact w_c3
  · exact w_c4
  · exact w_c5
  · exact w_c6
  · exact w_c7
  · exact w_c8
  · exact w_c9
  · exact w_c10
set_option maxRecDepth 65536 in
theorem w_t1 : (words1.take 24).all (fun c => isCode c || c.before args0 about1) = true := by decide +kernel
set_option maxRecDepth 65536 in
theorem w_t2 : ((words1.drop 24).take 24).all (fun c => isCode c || c.before args0 about1) = true := by decide +kernel
set_option maxRecDepth 65536 in
theorem w_t3 : ((words1.drop 24).drop 24).all (fun c => isCode c || c.before args0 about1) = true := by decide +kernel
theorem w_tables : (allAtoms (Jvm.Cond.code x code maxLocals ret :: tables_1)).before args0 about1 = true := by
  rw [allAtoms_all]
  show words1.all (fun c => c.before args0 about1) = true
  refine all_split ?_ w_codes
  rw [← List.take_append_drop 24 words1, List.all_append, w_t1, ← List.take_append_drop 24 (words1.drop 24), List.all_append, w_t2, w_t3]
  rfl
set_option maxRecDepth 65536 in
theorem w_rest : rest_1_c.before args0 about1 = true := by decide +kernel
set_option maxRecDepth 65536 in
theorem w_case : (Jvm.Cond.and given_1 narrow_1).before args0 about1 = true := by decide +kernel
theorem w_applies : (headSpec (Jvm.Cond.code x code maxLocals ret :: tables_1) room_1).applies x e0.platform about1 = true :=
  (Spec.applies_iff w_frames).mpr ⟨w_running, w_runnable, w_alone, w_named, w_hears, w_ripe, w_room, w_tables⟩
theorem atStart : AtStart classFile x code maxLocals ret World_1 tables_1 room_1 Calls_1 rest_1 Pre_1 launch0 p0 e0 about1 theMethod args0 below0 :=
  ⟨lists_1, trivial, launch0.admits_env _ _ _, launch0.least_env, fairChoices_fair.cas, fairChoices_fair.clock, w_frames, w_args, w_heap, w_applies, trivial, w_rest, w_case⟩
end start1
theorem witness_1 : WitnessClaimed_1 := ⟨start1.p0, start1.e0, start1.about1, start1.theMethod, start1.args0, start1.below0, start1.atStart⟩
end Jvm.Pilot.@@N@@
